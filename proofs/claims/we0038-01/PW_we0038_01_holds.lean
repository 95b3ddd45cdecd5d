import PyProof.Rows.All
import PyProof.TableCode
import PyProof.FactsAll.str_8
import PyProof.Comp
import PyProof.FactsAll.list_3
import PyProof.FactsAll.list_4
import PyProof.FactsAll.tuple_2
import PyProof.TupleIter
import PyProof.ForAny
import PyProof.CallRoads
import PyProof.Cells
import PyProof.StrWalks
import PyProof.CompFree
import PyProof.MeetsSeq
import PyProof.DictRoads
import PyProof.DictCalls
import PyProof.TupleKey
import PyProof.DictTable
import PyProof.EnumStmt
import PyProof.NeKinds
import PyProof.ExcClass
import PyProof.FactsAll.set_0
import PyProof.FactsAll.set_1
import PyProof.FactsGen
import PyProof.StrBlockL
import PyProof.InstStoreFacts
import PyProof.IsiH_dict
import PyProof.LayNew
import PyProof.ListNew
import PyProof.ListCopy
import PyProof.ListStr
import PyProof.Rows.TupIter
import PyProof.ZipIter
import PyProof.WalksPairs
import PyProof.TupleCall
import PyProof.Rows.StrJoin2
import PyProof.Rows.CallKw2
import PyProof.Rows.RuleU_int
import PyProof.Rows.SumAny
import PyProof.TupleOfSeq
import PyProof.SetRoads
import PyProof.SetNew
import PyProof.Rows.ExtendIn
import ObjForm.Fk.ObjNew
import ObjForm.Fk.InstLoad
import Wide.BridgeG
import KE.KDictLaws
import KE.KSetIn
import KE.KSortAsk
import KE.KxFormat
import Wide.FinOn
import OpenK.AllK
import Wide.All
import Lean
import PySem.Challenge.RW_we0038_01
set_option Elab.async false
set_option compiler.extract_closed false
set_option bootstrap.genMatcherCode false
set_option genInjectivity false
set_option genSizeOf false
set_option linter.unusedVariables false
set_option linter.unusedSimpArgs false
set_option maxRecDepth 100000
set_option maxHeartbeats 1000000
open List renaming length->U,length_append->aK,getElem?_eq_getElem->bO,mem_singleton->bx,length_map->bg,getElem?_append_left->cA,getElem?_eq_some_iff->cJ,getD_eq_getElem?_getD->c6,getElem?_append_right->dc,prefix_refl->bP,mem_append->bK,append_assoc->cm,length_cons->cK,mem_of_getElem?->dT,getElem?_map->c7,append_nil->cM,mem_cons->cu,flatMap_cons->fa,map_append->eL,map_cons->eu,all_eq_true->fX,prefix_append->gN,lookup_cons->gv,length_range->gO,length_take->gE,mem_map->fb,range->eD,not_mem_nil->g8,range'->fk,length_nil->iR,foldl_append->jS,flatMap_append->kN,map_map->gP,cons_append->jT,getElem?_eq_none_iff->ou,length_drop->kO,getElem_of_mem->mF,eq_nil_of_length_eq_zero->rP,nodup_append->mG,nodup_cons->l5,nodup_nil->lx,foldl_cons->l6,length_filter_le->pF,getElem?_range->oz,length_pos_iff->oA,take_of_length_le->qL,getElem_mem->nF,drop_zero->mH,nil_append->nG,getElem?_eq_none->rQ,take_append_drop->rR,eq_nil_or_concat->rS,concat_eq_append->rT,filter_cons->pG,take_prefix->pH,take_length->pI,take_add_one->qM,map_congr_left->rU,drop_eq_getElem_cons->vy,take_append_of_le_length->w7,all_cons->oB,lookup->mI,range'_append_1->tJ,getElem?_cons_succ->vz,size_toArray->rV,length_set->qN,take_prefix_take_left->w8,map_nil->pJ,mem_filter->rW,mem_cons_of_mem->vA,mem_range->rX,mem_cons_self->vB,toArray->qO,pairwise_append->w9,mem_flatMap->vC,getElem?_take_of_lt->zW,drop_length->vD,map_eq_nil_iff->xa,filter_append->xb,append_eq_nil_iff->zX,ext_getElem?->xc,mem_range'_1->xe,mem_append_right->zY,set_append_right->zZ,getElem?_set_ne->z6,nodup_range->xf,contains_eq_mem->z7,cons_ne_nil->xg,pairwise_iff_getElem->DJ,nil_prefix->xh,contains_cons->z8,getElem?_drop->z9,length_range'->Aa,idxOf_lt_length_iff->DK,pairwise_cons->Ab,drop_drop->xi,length_eq_zero_iff->DL,reverse_cons->Ac,getElem?_set_self->DM,lookup_cons_self->DN,getElem?_range'->DO,range_succ->Ad,all_nil->xj,forIn_cons->Ae,mem_of_mem_take->DP,drop_append_of_le_length->Jv,drop_left->Af,zip_cons_cons->DQ,getElem_idxOf->DR,set_cons_zero->DS,nodup_range'->DT,any_eq_true->DU,ext_getElem->DV,getElem_inj->DW,flatMap_nil->DX,lookup_eq_none_iff->Jw,pairwise_singleton->Jy,of_mem_zip->DY,filter_eq_nil_iff->Jz,flatMap_singleton->JA,drop_of_length_le->JB,forIn_nil->DZ,take_eq_take_iff->JC,range_eq_range'->JD,mem_append_left->JE,set_append_left->JF,length_take_le'->JG,mem_of_mem_drop->JH,foldl->Ag,length_dropLast->JI,any_cons->D0,length_flatMap->JJ,lookup_append->JK,find?_toArray->JL,range'_concat->JM,forIn_toArray->JN,set_cons_succ->JO,getElem?_take->JP,pairwise_map->JQ,flatten_cons->JR,map_id->D1,mem_reverse->JS,map_snd_zip->JT,range'_succ->JU,head?_drop->JV,set_append->JW,foldl_nil->JX,take_left->JY,sum_cons->JZ,map_take->J1,IsPrefix.eq_of_length->Ah,IsPrefix.trans->xk,IsPrefix.length_le->J2,cons.inj->tK,cons.injEq->D2,Nodup.idxOf_getElem->D3,Pairwise.filter->J8,Perm.trans->J9,Perm.refl->Ka
open _root_ renaming List->J,Nat->B,autoParam->aO,if_neg->aE,if_pos->aU,absurd->aZ,Int->az,of_decide_eq_true->dq,congrArg->bB,decide_eq_true->dG,Option->bC,Bool->bb,decide_eq_false->fB,Array->bD,decide_eq_true_eq->ip,of_decide_eq_false->kj,String->dm,congrFun->fq,False->c8,Unit->fF,beq_iff_eq->nH,True->gF,decide_eq_decide->vE,beq_eq_false_iff_ne->xl,CoeFun->l7,beq_self_eq_true->xm,or_false->rY,DecidableEq->xn,decide_eq_false_iff_not->Kb,if_false->xo,eq_false_of_ne_true->Kc,Decidable->Ai,if_true->xp,bne_self_eq_false->Kd,bne_iff_ne->D4
open Option renaming none->aA,getD_some->vF,map_some->vG,bind_some->Ke,some.inj->cj
open Nat renaming le_refl->aG,le_of_ble_eq_true->bY,zero_le->bH,le_add_right->dZ,le_trans->cY,add_sub_cancel_left->jx,le_succ->eM,sub_self->fG,le_of_not_lt->iS,add_assoc->iq,zero_add->iu,lt_irrefl->jg,le_succ_of_le->ly,ne_of_lt->iT,add_zero->jy,add_right_comm->nK,not_lt->iU,ne_of_gt->kl,lt_of_lt_of_le->oC,le_of_lt->lz,le_add_left->pK,eq_zero_or_pos->tM,lt_of_not_le->tN,lt_succ_self->tO,pos_of_ne_zero->vH,min_eq_left->tP,succ_pos->rZ,add_sub_cancel'->xq,lt_of_le_of_lt->xr,lt_trans->tQ,add_sub_add_right->Aj,add_comm->tR,not_lt_of_le->Ak,add->qP,not_le->vI,not_lt_zero->Al,mul_le_mul_right->D5,add_sub_cancel->D6,min_eq_right->D7,le_of_eq->Am,succ_mul->An,exists_eq_add_of_le->Kf,le_antisymm->D8,one_mul->Ao,eq_of_beq_eq_true->Kg,lt_of_sub_eq_succ->Kh,le_total->D9,lt_succ_of_lt->Ki,succ_ne_self->Kj,le_max_right->Kk,succ_le_succ->Kl,max_eq_left->Km,le_max_left->Kn,sub_le->Eb,beq->Ap,succ->Aq
open PySem renaming Value->ak,Shared->ay,Addr->ax,wpAny->aF,Params->aP,Str->ao,model->aN,OsState->bM,World->bz,Heap->bn,Around->bS,typeLookup->ea,Expr->bv,GenState->de,Obj->bc,treeTable->iw,Program->du,strKind->gQ,Drawn->cV,Builtin->ed,call->gR,checkBuiltinCall->mJ,Fin->h9,compareOp->iV,DictEntry->jz,foldedSetIterable->pL,Pos->cN,intKind->oE,Stmt->eX,sizeLine->km,Sem->dD,starEach->lC,FuncData->lD,Builtin->tS,keywordEach->qQ,seqIndex?->oF,getAttr->l8,backTo->lE,standAt->nN,Keyword->nO,letTemporaryGo->vJ,argsOk->l9,Stmt->r0,binaryOp->pM,swapsWithSole->vK,swappedStores->vL,attributeBase->vM,methodCallPos->vN,mainGlobals->tT,builtinKind->tU,letOwnedTupleGo->xt,importedModules->xu,backToKw->qR,entryFor->qS,isSubtype->r7,intKind->pN,assignEach->tW,sysModules->tX,checkBoundCall->xw,closureFor->tY,pyNext->oG,pyIter->oH,excClassObj->vO,execs->mK,bindArgs->r8,cStatics->r9,Frame->nP,Tok->jh,compEnvC->tZ,Thread->qT,clipAt->qU,Flow->mL,Code->nQ,call_meets->Ec,Scope->sa,Str->Ar,Slot->qW,mainGlobals->Ko,Scope->Ed,IsRangeIter->Ef,builtinsNs->Kp,Expr->Eg,Str.ofString->ft,Str.mk->t7,Str.join->Eh,Challenge.rw_we0038_01->ma,Challenge.pw_we0038_01->oJ,Sem.bind_eq_wrap'->jU,Sem.wrap_wrap->jA,Sem.onRaise_eq_wrap->Ei,Obj.mapSeq->fY,Obj.mk->t8,Flow.next->pO,Code.quiet_builtin->xx,Code.builtin->xy,Around.under_plainId->As,Around.deeper->Kq,Around.over->Kr,BindsTo.of_defaults->Ej,Frame.where_->Au,Frame.guarded->Ek,Manifest.varargsMethods->Ks,NameKind.local->El,Bind.staticBase->Kt,Keeper.caller->Ku
open PySem.Heap renaming get?_push_of_some->dE,get?_push_size->ew,lt_size->dH,size_push->jV,SameBut->iW,get?_update_self->pP,ExtBut->qX,get?_push_cases->Em,SameBut.update->iA,IsSliceOf.new->Kv,DictOf.new->Kw
open Bool renaming false_ne_true->dy,and_eq_true_iff->fc,and_eq_true->gS,and_true->lF,eq_iff_iff->sd,false_eq_true->Av,true_and->xz,noConfusion->Aw,false_or->Ax,or_eq_true->En,and_false->Eo,not_false->Ep,and_eq_false_iff->Ky,or_eq_false_iff->Kz,or_false->Er,eq_false_iff->KA,not_true->KB,or_assoc->KC,not_inj->KD
open Array renaming length_toList->eO,getElem?_eq_getElem->ia,getElem?_eq_some_iff->jW,getElem?_toList->jX,getD_eq_getD_getElem?->t9,ext'->ua,eq_empty_of_size_eq_zero->KE,toArray_toList->Es,perm_iff_toList_perm->KF,size_push->Et,mem_toList_iff->KG,toList_append->KH,toList_push->KI,toList_inj->KJ,mk->Eu
open PySem.F renaming plainAttrs_str->nR,slot_str_format_m->ub,type_str_format_m->uc,plainAttrs_list->ud,slot_dict_getattribute->Ay,slot_set_getattribute->Az,slot_str_join->AB,type_str_join->AC,plain_extend_loop->AD,slot_list_append->Ev,type_list_append->Ew,plainAttrs_dict->Ex,type_set_contains->Ey,slot_dict_setdefault->KK,type_dict_setdefault->KL,entry_dict_get->Ez,args_dict_setdefault_3->KM,slot_list_extend->KN,type_list_extend->KO,slot_tuple_len->EA,entry_dict_setdefault->KP,slot_dict_get->EB,type_dict_get->EC,slot_tuple_lt->ED,slot_dict_setdefault->KQ,called_tuple->EF,slot_set_contains->KR,entry_extend_loop->KS,slot_tuple_init->KT
open PySem.W renaming boot_heap->g9,SharedT->mM,piecesOf->se,segRun->qY,boot_o_0->EG,boot_o_2->KU,kds_fill_cons->KV,OpenLaw.row->qZ,X.s_again->xB,X.SegX.mono->EH,WData.int->vP,KPc.ite_no->EI,OpenRow.toRowW->KW
open PySem.Value renaming builtin->lG,none->jB,str->iX,type->pQ,int->q7,ref->ue,isInt->AE
open Int renaming add_zero->pR,natCast_nonneg->vQ,toNat_natCast->xC,zero_add->vR,zero_mul->xD,fmod_eq_emod_of_nonneg->KX,not_lt->xF,ofNat_lt->AF,ofNat->xG,le_of_lt->EJ,le_trans->EK,one_mul->EL,mul_add->EM,mul_nonneg->KY
open Classical renaming not_not->xH,byContradiction->EN,choose_spec->KZ,not_forall->K0
open PyProof.Rows renaming assign_Tuple->EO,Attribute_any_->AG,seqObj->q8,is_none_ne->K7,lt_int->K8,Subscript_->EP,SortSt.mk'->AH
open PySem.Calls renaming spliced_cons->AI,callWith_function->EQ,callWith_builtin->ER,evalArgs_plain->ET,Name_function_global->K9,spliced_nil->EU,call_len_list->Lb
open ForInStep renaming yield->AJ
open PySem.Builtin.Str renaming nextMarkup->Lc,tooLong->Ld
open PySem.Builtin.List renaming listExtendWith->Le,listFitsIndex->Lf,listSameRef->Lg
open Ne renaming symm->uf
open PySem.Builtin.Range renaming rangeSize->Lh
open Eq renaming trans->xI
open String renaming ofList->Li
open PySem.Builtin.Frozenset renaming oneOther->SY
open PySem.Builtin.Generator renaming genWake->SZ
open Prod renaming ext->EW,mk->EY,mk.inj->Lj
open PySem.MeetsSeq.EqGives renaming int->S4
namespace Mine
theorem aR(h:True:=by rfl):True:=h
end Mine
open Mine renaming aR._auto_1->a9
namespace Mine
section
variable{P:Prop}{α:Type}
section
variable{AA BB CC DD EE FF GG HH:Sort _}{aiB:Prop}
theorem xA{Q:Prop}(h:P/\Q)(k:P->Q->aiB):aiB:=k h.1 h.2
theorem xE{P:AA->Prop}(h:∃a:AA,P a)(k:∀a,P a->aiB):aiB:=h.elim k
theorem Lk{Q:AA->Prop}(h:P/\∃a:AA,Q a)(k:P->∀a,Q a->aiB):aiB:=xE h.2<|k h.1
theorem eh{Q R:Prop}(h:P/\Q/\R)(k:P->Q->R->aiB):aiB:=xA h.2<|k h.1
theorem aH{P Q:AA->Prop}(h:∃a:AA,P a/\Q a)(k:∀a,P a->Q a->aiB):aiB:=h.elim λa h=>xA h<|k a
theorem xJ{P:AA->BB->Prop}(h:∃a:AA,∃b:BB,P a b)(k:∀a,∀b,P a b->aiB):aiB:=h.elim λa h=>xE h<|k a
theorem S6{Q:AA->BB->Prop}(h:P/\∃a:AA,∃b:BB,Q a b)(k:P->∀a,∀b,Q a b->aiB):aiB:=xJ h.2<|k h.1
theorem EZ{P:AA->BB->CC->Prop}(h:∃a:AA,∃b:BB,∃c:CC,P a b c)(k:∀a,∀b,∀c,P a b c->aiB):aiB:=h.elim λa h=>xJ h<|k a
theorem nT{Q R:AA->Prop}(h:P/\∃a:AA,Q a/\R a)(k:P->∀a,Q a->R a->aiB):aiB:=aH h.2<|k h.1
theorem dv{P Q:AA->BB->Prop}(h:∃a:AA,∃b:BB,P a b/\Q a b)(k:∀a,∀b,P a b->Q a b->aiB):aiB:=h.elim λa h=>aH h<|k a
theorem E0{P:AA->Prop}{Q:AA->BB->Prop}(h:∃a:AA,P a/\∃b:BB,Q a b)(k:∀a,P a->∀b,Q a b->aiB):aiB:=h.elim λa h=>Lk h<|k a
theorem gg{Q R S:Prop}(h:P/\Q/\R/\S)(k:P->Q->R->S->aiB):aiB:=eh h.2<|k h.1
theorem xK{Q:Prop}{R:AA->Prop}(h:P/\Q/\∃a:AA,R a)(k:P->Q->∀a,R a->aiB):aiB:=Lk h.2<|k h.1
theorem cP{P Q R:AA->Prop}(h:∃a:AA,P a/\Q a/\R a)(k:∀a,P a->Q a->R a->aiB):aiB:=h.elim λa h=>eh h<|k a
theorem Ll{P:AA->BB->CC->DD->Prop}(h:∃a:AA,∃b:BB,∃c:CC,∃d:DD,P a b c d)(k:∀a,∀b,∀c,∀d,P a b c d->aiB):aiB:=h.elim λa h=>EZ h<|k a
theorem S7{Q R S:AA->Prop}(h:P/\∃a:AA,Q a/\R a/\S a)(k:P->∀a,Q a->R a->S a->aiB):aiB:=cP h.2<|k h.1
theorem sf{Q R S T:Prop}(h:P/\Q/\R/\S/\T)(k:P->Q->R->S->T->aiB):aiB:=gg h.2<|k h.1
theorem ug{P Q R S:AA->Prop}(h:∃a:AA,P a/\Q a/\R a/\S a)(k:∀a,P a->Q a->R a->S a->aiB):aiB:=h.elim λa h=>gg h<|k a
theorem S8{Q:Prop}{R:AA->BB->Prop}(h:P/\Q/\∃a:AA,∃b:BB,R a b)(k:P->Q->∀a,∀b,R a b->aiB):aiB:=S6 h.2<|k h.1
theorem eR{P Q:AA->BB->CC->Prop}(h:∃a:AA,∃b:BB,∃c:CC,P a b c/\Q a b c)(k:∀a,∀b,∀c,P a b c->Q a b c->aiB):aiB:=h.elim λa h=>dv h<|k a
theorem vS{Q R:AA->BB->Prop}(h:P/\∃a:AA,∃b:BB,Q a b/\R a b)(k:P->∀a,∀b,Q a b->R a b->aiB):aiB:=dv h.2<|k h.1
theorem dh{P Q R:AA->BB->Prop}(h:∃a:AA,∃b:BB,P a b/\Q a b/\R a b)(k:∀a,∀b,P a b->Q a b->R a b->aiB):aiB:=h.elim λa h=>cP h<|k a
theorem S9{Q:AA->BB->CC->Prop}(h:P/\∃a:AA,∃b:BB,∃c:CC,Q a b c)(k:P->∀a,∀b,∀c,Q a b c->aiB):aiB:=EZ h.2<|k h.1
theorem Lm{P Q:AA->Prop}{R:AA->BB->Prop}(h:∃a:AA,P a/\Q a/\∃b:BB,R a b)(k:∀a,P a->Q a->∀b,R a b->aiB):aiB:=h.elim λa h=>xK h<|k a
theorem E1{Q:Prop}{R S:AA->Prop}(h:P/\Q/\∃a:AA,R a/\S a)(k:P->Q->∀a,R a->S a->aiB):aiB:=nT h.2<|k h.1
theorem uh{P Q R S T:AA->Prop}(h:∃a:AA,P a/\Q a/\R a/\S a/\T a)(k:∀a,P a->Q a->R a->S a->T a->aiB):aiB:=h.elim λa h=>sf h<|k a
theorem Ta{Q:Prop}{R:AA->BB->CC->Prop}(h:P/\Q/\∃a:AA,∃b:BB,∃c:CC,R a b c)(k:P->Q->∀a,∀b,∀c,R a b c->aiB):aiB:=S9 h.2<|k h.1
theorem Tc{P Q:AA->BB->Prop}{R:AA->BB->CC->Prop}(h:∃a:AA,∃b:BB,P a b/\Q a b/\∃c:CC,R a b c)(k:∀a,∀b,P a b->Q a b->∀c,R a b c->aiB):aiB:=h.elim λa h=>Lm h<|k a
theorem q9{Q R S T aiv:Prop}(h:P/\Q/\R/\S/\T/\aiv)(k:P->Q->R->S->T->aiv->aiB):aiB:=sf h.2<|k h.1
theorem Te{P:AA->BB->CC->DD->EE->Prop}(h:∃a:AA,∃b:BB,∃c:CC,∃d:DD,∃e:EE,P a b c d e)(k:∀a,∀b,∀c,∀d,∀e,P a b c d e->aiB):aiB:=h.elim λa h=>Ll h<|k a
theorem aij{Q:Prop}{R S:AA->BB->Prop}(h:P/\Q/\∃a:AA,∃b:BB,R a b/\S a b)(k:P->Q->∀a,∀b,R a b->S a b->aiB):aiB:=vS h.2<|k h.1
theorem Tf{P Q:AA->Prop}{R:AA->BB->CC->Prop}(h:∃a:AA,P a/\Q a/\∃b:BB,∃c:CC,R a b c)(k:∀a,P a->Q a->∀b,∀c,R a b c->aiB):aiB:=h.elim λa h=>S8 h<|k a
theorem Tg{P:AA->Prop}{Q R:AA->BB->CC->Prop}(h:∃a:AA,P a/\∃b:BB,∃c:CC,Q a b c/\R a b c)(k:∀a,P a->∀b,∀c,Q a b c->R a b c->aiB):aiB:=h.elim λa h=>vS h<|k a
theorem E2{Q R S:AA->BB->Prop}(h:P/\∃a:AA,∃b:BB,Q a b/\R a b/\S a b)(k:P->∀a,∀b,Q a b->R a b->S a b->aiB):aiB:=dh h.2<|k h.1
theorem kn{P Q R S:AA->BB->Prop}(h:∃a:AA,∃b:BB,P a b/\Q a b/\R a b/\S a b)(k:∀a,∀b,P a b->Q a b->R a b->S a b->aiB):aiB:=h.elim λa h=>ug h<|k a
theorem lH{P Q R:AA->BB->CC->Prop}(h:∃a:AA,∃b:BB,∃c:CC,P a b c/\Q a b c/\R a b c)(k:∀a,∀b,∀c,P a b c->Q a b c->R a b c->aiB):aiB:=h.elim λa h=>dh h<|k a
theorem Th{P Q:AA->BB->CC->Prop}{R:AA->BB->CC->DD->Prop}(h:∃a:AA,∃b:BB,∃c:CC,P a b c/\Q a b c/\∃d:DD,R a b c d)(k:∀a,∀b,∀c,P a b c->Q a b c->∀d,R a b c d->aiB):aiB:=h.elim λa h=>Tc h<|k a
theorem Ti{P Q:AA->Prop}{R:AA->BB->CC->DD->Prop}(h:∃a:AA,P a/\Q a/\∃b:BB,∃c:CC,∃d:DD,R a b c d)(k:∀a,P a->Q a->∀b,∀c,∀d,R a b c d->aiB):aiB:=h.elim λa h=>Ta h<|k a
theorem Ln{P Q R:AA->BB->CC->DD->Prop}(h:∃a:AA,∃b:BB,∃c:CC,∃d:DD,P a b c d/\Q a b c d/\R a b c d)(k:∀a,∀b,∀c,∀d,P a b c d->Q a b c d->R a b c d->aiB):aiB:=h.elim λa h=>lH h<|k a
theorem vT{P Q:AA->BB->Prop}{R:AA->BB->CC->DD->Prop}(h:∃a:AA,∃b:BB,P a b/\Q a b/\∃c:CC,∃d:DD,R a b c d)(k:∀a,∀b,P a b->Q a b->∀c,∀d,R a b c d->aiB):aiB:=h.elim λa h=>Tf h<|k a
theorem Tj{Q:AA->Prop}{R S:AA->BB->CC->Prop}(h:P/\∃a:AA,Q a/\∃b:BB,∃c:CC,R a b c/\S a b c)(k:P->∀a,Q a->∀b,∀c,R a b c->S a b c->aiB):aiB:=Tg h.2<|k h.1
theorem pS{P Q R S T:AA->BB->Prop}(h:∃a:AA,∃b:BB,P a b/\Q a b/\R a b/\S a b/\T a b)(k:∀a,∀b,P a b->Q a b->R a b->S a b->T a b->aiB):aiB:=h.elim λa h=>uh h<|k a
theorem Tk{Q R S T:AA->BB->Prop}(h:P/\∃a:AA,∃b:BB,Q a b/\R a b/\S a b/\T a b)(k:P->∀a,∀b,Q a b->R a b->S a b->T a b->aiB):aiB:=kn h.2<|k h.1
theorem E3{P:AA->BB->CC->DD->EE->FF->Prop}(h:∃a:AA,∃b:BB,∃c:CC,∃d:DD,∃e:EE,∃aiC:FF,P a b c d e aiC)(k:∀a,∀b,∀c,∀d,∀e,∀aiC,P a b c d e aiC->aiB):aiB:=h.elim λa h=>Te h<|k a
theorem oK{Q R S:AA->BB->CC->Prop}(h:P/\∃a:AA,∃b:BB,∃c:CC,Q a b c/\R a b c/\S a b c)(k:P->∀a,∀b,∀c,Q a b c->R a b c->S a b c->aiB):aiB:=lH h.2<|k h.1
theorem Tm{Q R S T aiv:AA->Prop}(h:P/\∃a:AA,Q a/\R a/\S a/\T a/\aiv a)(k:P->∀a,Q a->R a->S a->T a->aiv a->aiB):aiB:=uh h.2<|k h.1
theorem ui{Q:Prop}{R S T:AA->BB->Prop}(h:P/\Q/\∃a:AA,∃b:BB,R a b/\S a b/\T a b)(k:P->Q->∀a,∀b,R a b->S a b->T a b->aiB):aiB:=E2 h.2<|k h.1
theorem AK{P Q R S:AA->BB->CC->Prop}(h:∃a:AA,∃b:BB,∃c:CC,P a b c/\Q a b c/\R a b c/\S a b c)(k:∀a,∀b,∀c,P a b c->Q a b c->R a b c->S a b c->aiB):aiB:=h.elim λa h=>kn h<|k a
theorem mO{P Q R S T:AA->BB->CC->Prop}(h:∃a:AA,∃b:BB,∃c:CC,P a b c/\Q a b c/\R a b c/\S a b c/\T a b c)(k:∀a,∀b,∀c,P a b c->Q a b c->R a b c->S a b c->T a b c->aiB):aiB:=h.elim λa h=>pS h<|k a
theorem Lo{P Q R S:AA->BB->CC->DD->Prop}(h:∃a:AA,∃b:BB,∃c:CC,∃d:DD,P a b c d/\Q a b c d/\R a b c d/\S a b c d)(k:∀a,∀b,∀c,∀d,P a b c d->Q a b c d->R a b c d->S a b c d->aiB):aiB:=h.elim λa h=>AK h<|k a
end
theorem gh{P:α->Prop}{a:α}{l:J α}(h:P a)(t:∀x∈l,P x):∀x∈a::l,P x:=λx hx=>by
 rcases cu.mp hx with rfl|hx
 ·exact h
 ·exact t x hx
theorem fM{P:α->Prop}{a:α}(h:P a):∀x∈[a],P x:=gh h λx hx=>nomatch hx
theorem mc{P:α->Prop}{l m:J α}(h:∀x∈l,P x)(t:∀x∈m,P x):∀x∈l++m,P x:=λx hx=>(bK.mp hx).elim (h x)<|t x
theorem E4{α:Sort _}{p:α->Prop}{c:Prop}[Ai c]{t e:α}(ht:p t)(he:p e):p (if c then t else e):=by split<;>assumption
theorem cons_eq{α:Type _}{a b:α}{l m:J α}(h:a=b)(k:l=m):a::l=b::m:=h▸k▸rfl
noncomputable def ep(a:α)(P:α->Prop):α:=@Classical.epsilon α ⟨a⟩ λx=>¬P x
theorem Tn{a:α}{P:α->Prop}(h:P<|ep a P)(x:α):P x:=EN λhx=>@Classical.epsilon_spec α (λx=>¬P x) ⟨x,hx⟩ h
section
variable{A1 A2 A3 A4 A5 A6 A7 A8 A9 si sj sk sm:Type}
noncomputable def nU(d1:A1)(d2:A2)(d3:A3)(d4:A4)(d5:A5)(d6:A6)(d7:A7)(d8:A8)(d9:A9)(E5:si)(E6:sj)(E7:sk)(E8:sm)(P:A1->A2->A3->A4->A5->A6->A7->A8->A9->si->sj->sk->sm->Prop):A1×A2×A3×A4×A5×A6×A7×A8×A9×si×sj×sk×sm:=ep (d1,d2,d3,d4,d5,d6,d7,d8,d9,E5,E6,E7,E8) λx=>P x.1 x.2.1 x.2.2.1 x.2.2.2.1 x.2.2.2.2.1 x.2.2.2.2.2.1 x.2.2.2.2.2.2.1 x.2.2.2.2.2.2.2.1 x.2.2.2.2.2.2.2.2.1 x.2.2.2.2.2.2.2.2.2.1 x.2.2.2.2.2.2.2.2.2.2.1 x.2.2.2.2.2.2.2.2.2.2.2.1 x.2.2.2.2.2.2.2.2.2.2.2.2
theorem oM{d1:A1}{d2:A2}{d3:A3}{d4:A4}{d5:A5}{d6:A6}{d7:A7}{d8:A8}{d9:A9}{E5:si}{E6:sj}{E7:sk}{E8:sm}(P:A1->A2->A3->A4->A5->A6->A7->A8->A9->si->sj->sk->sm->Prop)(E:A1×A2×A3×A4×A5×A6×A7×A8×A9×si×sj×sk×sm)(hE:E=nU d1 d2 d3 d4 d5 d6 d7 d8 d9 E5 E6 E7 E8 P)(h:P E.1 E.2.1 E.2.2.1 E.2.2.2.1 E.2.2.2.2.1 E.2.2.2.2.2.1 E.2.2.2.2.2.2.1 E.2.2.2.2.2.2.2.1 E.2.2.2.2.2.2.2.2.1 E.2.2.2.2.2.2.2.2.2.1 E.2.2.2.2.2.2.2.2.2.2.1 E.2.2.2.2.2.2.2.2.2.2.2.1 E.2.2.2.2.2.2.2.2.2.2.2.2)(x0:A1)(x1:A2)(x2:A3)(x3:A4)(x4:A5)(x5:A6)(x6:A7)(x7:A8)(x8:A9)(x9:si)(Lp:sj)(Lq:sk)(Lr:sm):P x0 x1 x2 x3 x4 x5 x6 x7 x8 x9 Lp Lq Lr:=by
 subst hE;exact Tn (P:=λx:A1×A2×A3×A4×A5×A6×A7×A8×A9×si×sj×sk×sm=>P x.1 x.2.1 x.2.2.1 x.2.2.2.1 x.2.2.2.2.1 x.2.2.2.2.2.1 x.2.2.2.2.2.2.1 x.2.2.2.2.2.2.2.1 x.2.2.2.2.2.2.2.2.1 x.2.2.2.2.2.2.2.2.2.1 x.2.2.2.2.2.2.2.2.2.2.1 x.2.2.2.2.2.2.2.2.2.2.2.1 x.2.2.2.2.2.2.2.2.2.2.2.2) h (x0,x1,x2,x3,x4,x5,x6,x7,x8,x9,Lp,Lq,Lr)
end
@[elab_as_elim] theorem D{α:Sort _}{P:α->Prop}{a b:α}(h:a=b)(k:P b):P a:=h▸k
@[elab_as_elim] theorem bL{α:Sort _}{P:α->Prop}{b a:α}(h:a=b)(k:P a):P b:=h▸k
theorem aD(h:gF:=by decide):gF:=h
theorem aW(h:gF:=by with_unfolding_all rfl):gF:=h
theorem aI(h:gF->gF:=by intro _;rfl):gF->gF:=h
end
end Mine
namespace Mine
open PySem PyProof.Rows
section
variable{h h':bn}{a:ax}{ρ aB:J ax}
inductive V where
 |none
 |bool (b:bb)
 |int (i:az)
 |str (s:ao)
 |val (v:ak)
 |ref (k:B)
 |tup (c:ak) (l:J V)
noncomputable def uj:ak->bb
 | .type n=>n=="tuple"
 | .ref _=>true
 |_=>false
noncomputable def xL:Data->bb
 | .seq .. =>true
 |_=>false
noncomputable def me(o:bc):bb:=uj o.cls&&xL o.data
theorem Lu{P:Prop}(h:false=true):P:=aZ h dy
theorem AL{o:bc}{d:Data}(h:o.data=d)(k:aO (xL d=false) a9):me o=false:=(bB (λx=>uj o.cls&&xL x) h).trans<|(bB (uj o.cls&& ·) k).trans<|Eo _
theorem ra{o:bc}{c:ak}(h:o.cls=c)(k:aO (uj c=false) a9):me o=false:=(bB (λx=>uj x&&xL o.data) h).trans<|bB (· &&xL o.data) k
@[reducible] noncomputable def TupAt(h:bn)(c:ak)(a:ax)(vs:bD ak)(n:B):Prop:=match c with
 | .type _=>h.get? a=some ⟨c,aA,.seq vs n,#[]⟩
 |_=>∃d,h.get? a=some ⟨c,d,.seq vs n,#[]⟩
mutual
noncomputable def V.Is(ρ:J ax)(h:bn):V->ak->Prop
 | .none,x=>x= .none
 | .bool b,x=>x= .bool b
 | .int i,x=>∃t,x= .int i t
 | .str s,x=>∃t,x= .str s t
 | .val v,x=>x=v
 | .ref k,x=>∃a,ρ[k]?=some a/\x= .ref a
 | .tup c l,x=>uj c=true/\∃a vs n,x= .ref a/\TupAt h c a vs n/\V.IsL ρ h l vs.toList
noncomputable def V.IsL(ρ:J ax)(h:bn):J V->J ak->Prop
 | [],xs=>xs=[]
 |v::l,xs=>∃x r,xs=x::r/\V.Is ρ h v x/\V.IsL ρ h l r
end
noncomputable def bF(h h':bn):Prop:=∀b o,h.get? b=some o->me o=true->h'.get? b=some o
theorem bF.refl(h:bn):bF h h:=λH H e H=>e
theorem bF.trans{Lv:bn}(x:bF h h')(y:bF h' Lv):bF h Lv:=λb o e t=>y b o (x b o e t) t
theorem bF.push(h:bn)(o:bc):bF h (h.push o):=λb o' e H=>dE o e
theorem TupAt.mono(hs:bF h h'){c:ak}(tc:uj c=true){vs:bD ak}{n:B}(e:TupAt h c a vs n):TupAt h' c a vs n:=by
 cases c with
 |type t=>exact hs a _ e<|fc.mpr ⟨tc,rfl⟩
 |ref r=>obtain⟨d,e⟩:=e;exact⟨d,hs a _ e<|fc.mpr ⟨tc,rfl⟩⟩
 |_=>cases tc
theorem jY{o:bc}(hs:iW a h h')(ho:h.get? a=some o)(ht:me o=false):bF h h':=λb o' e t=>by
 by_cases hb:b=a
 ·subst hb;simp only[ho] at e;(cases cj e;clear e);rw[ht] at t;exact aZ t dy
 ·exact(hs.2 b hb).trans e
theorem iB(k:∀b o,h.get? b=some o->h'.get? b=some o):bF h h':=λb o e H=>k b o e
theorem pT(hp:ρ<+:aB){k:B}(e:ρ[k]?=some a):aB[k]?=some a:=by
 obtain⟨t,rfl⟩:=hp;rw[cA (cJ.mp e).1];exact e
mutual
theorem V.Is.mono{ρ aB:J ax}{h h':bn}(hp:ρ<+:aB)(hs:bF h h'):∀{v:V} {x:ak},v.Is ρ h x->v.Is aB h' x
 | .none,_,e=>e
 | .bool _,_,e=>e
 | .int _,_,e=>e
 | .str _,_,e=>e
 | .val _,_,e=>e
 | .ref _,_,z0=>aH z0 λa e1 e2=>⟨a,pT hp e1,e2⟩
 | .tup c l,_,z0=>oK z0 λtc a vs n e1 e2 e3=>⟨tc,a,vs,n,e1,TupAt.mono hs tc e2,V.IsL.mono hp hs e3⟩
theorem V.IsL.mono{ρ aB:J ax}{h h':bn}(hp:ρ<+:aB)(hs:bF h h'):∀{l:J V} {xs:J ak},V.IsL ρ h l xs->V.IsL aB h' l xs
 | [],_,e=>e
 |v::l,_,z0=>dh z0 λx r e e1 e2=>⟨x,r,e,V.Is.mono hp hs e1,V.IsL.mono hp hs e2⟩
end
theorem dK{ρ:J ax}{h:bn}:∀{l:J V} {xs:J ak},V.IsL ρ h l xs->U xs=U l
 | [],_,e=>by rw[show _=[] from e];rfl
 |v::l,_,z0=>dh z0 λx r e H e2=>by simp only[e,cK,cK,dK e2]
theorem V.IsL.get{ρ:J ax}{h:bn}:∀{l:J V} {xs:J ak},V.IsL ρ h l xs->∀{i:B} {v:V},l[i]?=some v->∃x,xs[i]?=some x/\v.Is ρ h x
 | [],_,_,i,v,e=>by exact nomatch e
 |aiA::l,_,z0,0,v,q=>dh z0 λx r e e1 e2=>by cases q;subst e;exact⟨x,rfl,e1⟩
 |aiA::l,_,z0,i+1,v,q=>dh z0 λx r e e1 e2=>by
  refine aH (V.IsL.get e2 (i:=i) (v:=v)<|by simpa using q) λy hy h2=>?_
  subst e;exact⟨y,by simpa using hy,h2⟩
theorem V.IsL.append{ρ:J ax}{h:bn}:∀{l m:J V} {xs ys:J ak},V.IsL ρ h l xs->V.IsL ρ h m ys->V.IsL ρ h (l++m) (xs++ys)
 | [],_,_,_,e,q=>by rw[show _=[] from e];exact q
 |v::l,_,_,_,z0,q=>dh z0 λx r e e1 e2=>by subst e;exact⟨x,r++_,rfl,e1,V.IsL.append e2 q⟩
theorem V.IsL.drop{ρ:J ax}{h:bn}:∀{l:J V} {xs:J ak} (n:B),V.IsL ρ h l xs->V.IsL ρ h (l.drop n) (xs.drop n)
 |_,_,0=>λe=>e
 | [],_,n+1=>λe=>by simp only[show _=[] from e];exact rfl
 |v::l,_,n+1=>λz0=>dh z0 λx r e e1 e2=>by subst e;exact V.IsL.drop n e2
theorem V.IsL.take{ρ:J ax}{h:bn}:∀{l:J V} {xs:J ak} (n:B),V.IsL ρ h l xs->V.IsL ρ h (l.take n) (xs.take n)
 |_,_,0=>λe=>by rfl
 | [],_,n+1=>λe=>by rw[show _=[] from e];exact rfl
 |v::l,_,n+1=>λz0=>dh z0 λx r e e1 e2=>by subst e;exact⟨x,r.take n,rfl,e1,V.IsL.take n e2⟩
theorem V.IsL.set{ρ:J ax}{h:bn}:∀{l:J V} {xs:J ak} (i:B) {v:V} {x:ak},V.IsL ρ h l xs->v.Is ρ h x->V.IsL ρ h (l.set i v) (xs.set i x)
 | [],_,i,_,_,e,_=>by rw[show _=[] from e];exact rfl
 |aiA::l,_,0,v,x,z0,q=>dh z0 λy r e e1 e2=>by subst e;exact⟨x,r,rfl,q,e2⟩
 |aiA::l,_,i+1,v,x,z0,q=>dh z0 λy r e e1 e2=>by subst e;exact⟨y,r.set i x,rfl,e1,V.IsL.set i e2 q⟩
inductive O where
 |list (l:J V)
 |attrs (l:J (ao×V))
 |inst (c:ax) (d:B)
 |cell (v:V)
 |fields (c:dm) (l:J V)
 |fe (l:J (ao×V))
 |intD (l:J (az×V))
 |fZ
noncomputable def O.Is(w:bz)(ρ:J ax)(h:bn):O->ax->Prop
 | .list l,a=>∃vs n,h.get? a=some ⟨.type "list",aA,.seq vs n,#[]⟩/\V.IsL ρ h l vs.toList
 | .attrs l,a=>(∃ob,h.get? a=some ob/\ob.cls= .type "dict"/\ob.dict=aA)/\∃m,h.Ns1 a m/\∀x,(∀v,l.lookup x=some v->∃y,m x=some y/\v.Is ρ h y)/\(l.lookup x=aA->m x=aA)
 | .inst c d,a=>∃b,ρ[d]?=some b/\h.get? a=some ⟨.ref c,some b,.plain,#[]⟩
 | .cell v,a=>∃x,h.get? a=some ⟨.type "cell",aA,.cell<|some x,#[]⟩/\v.Is ρ h x
 | .fields c l,a=>c≠"tuple"/\∃vs,h.get? a=some ⟨.type c,aA,.fields vs,#[]⟩/\V.IsL ρ h l vs.toList
 | .fe l,a=>∃bI,h.DictOf (strKind default w) a bI/\bI.map (·.1)=l.map (·.1)/\V.IsL ρ h (l.map (·.2)) (bI.map (·.2))
 | .intD l,a=>∃bI,h.DictOf (pN default w) a bI/\bI.map (·.1)=l.map (·.1)/\V.IsL ρ h (l.map (·.2)) (bI.map (·.2))
 | .fZ,a=>∃led,h.get? a=some ⟨.type "set",aA,.set #[] 0 (.fresh 0 0 led),#[]⟩
theorem O.Is.mono{w:bz}{ρ aB:J ax}{h h':bn}{a:ax}(hp:ρ<+:aB)(hs:bF h h')(ha:h'.get? a=h.get? a):∀{o:O},o.Is w ρ h a->o.Is w aB h' a
 | .list _=>λz0=>dv z0 λvs n e q=>⟨vs,n,ha.trans e,q.mono hp hs⟩
 | .attrs _=>λz0=>nT z0 λy0 m y2 k=>aH y0 λob e r1=>eR y2 λo E9 ep e2 r=>⟨⟨ob,ha.trans e,r1⟩,m,⟨o,E9,ep,ha.trans e2,r⟩,λx=>⟨λv hv=>by
   exact aH ((k x).1 v hv) λy hy q=>⟨y,hy,q.mono hp hs⟩,(k x).2⟩⟩
 | .inst _ _=>λz0=>aH z0 λb e q=>⟨b,pT hp e,ha.trans q⟩
 | .cell _=>λz0=>aH z0 λx e q=>⟨x,ha.trans e,q.mono hp hs⟩
 | .fields _ _=>λz0=>nT z0 λc vs e q=>⟨c,vs,ha.trans e,q.mono hp hs⟩
 | .fe _=>λz0=>cP z0 λbI y1 d k=>eR y1 λo es ep e r=>⟨bI,⟨o,es,ep,ha.trans e,r⟩,d,k.mono hp hs⟩
 | .intD _=>λz0=>cP z0 λbI y1 d k=>eR y1 λo es ep e r=>⟨bI,⟨o,es,ep,ha.trans e,r⟩,d,k.mono hp hs⟩
 | .fZ=>λz0=>xE z0 λt e=>⟨t,ha.trans e⟩
theorem O.Is.there{w:bz}:∀{o:O},o.Is w ρ h a->∃ob,h.get? a=some ob/\me ob=false
 | .list _=>λz0=>dv z0 λvs n e q=>⟨_,e,by rfl⟩
 | .attrs _=>λz0=>aH z0.1 λob e c=>⟨_,e,ra c.1⟩
 | .inst _ _=>λz0=>aH z0 λb e q=>⟨_,q,by rfl⟩
 | .cell _=>λz0=>aH z0 λx e q=>⟨_,e,by rfl⟩
 | .fields c _=>λz0=>nT z0 λhc vs e q=>⟨_,e,Eo _⟩
 | .fe _=>λz0=>cP z0 λbI y H H=>eR y λo es ep e hc=>⟨_,e,ra hc.1.1⟩
 | .intD _=>λz0=>cP z0 λbI y H H=>eR y λo es ep e hc=>⟨_,e,ra hc.1.1⟩
 | .fZ=>λz0=>xE z0 λt e=>⟨_,e,by rfl⟩
theorem cE{v:V}{l:J V}{xs:J ak}{aiB:Prop}(i:V.IsL ρ h (v::l) xs)(k:∀x r,xs=x::r->V.Is ρ h v x->V.IsL ρ h l r->aiB):aiB:=dv i λx r e i=>k x r e i.1 i.2
end
end Mine
namespace Mine
section
variable{p:LP}{ρ:J B}
inductive LT
 |V (i:B)|N (k:B)|A (s t:LT)|S (s t:LT)|M (s t:LT)|X (s t:LT)|Y (s t:LT)
inductive LF
 |L (s t:LT)|K (s t:LT)|E (s t:LT)|N (aiC:LF)|C (aiC g:LF)|O (aiC g:LF)|I (aiC g:LF)|F
noncomputable def LT.at:J B->B->B
 | [],_=>0
 |x::_,0=>x
 |_::r,i+1=>LT.at r i
noncomputable def LT.d(ρ:J B):LT->B
 | .V i=>LT.at ρ i
 | .N k=>k
 | .A s t=>s.d ρ+t.d ρ
 | .S s t=>s.d ρ-t.d ρ
 | .M s t=>s.d ρ*t.d ρ
 | .X s t=>max (s.d ρ)<|t.d ρ
 | .Y s t=>min (s.d ρ)<|t.d ρ
noncomputable def LF.d(ρ:J B):LF->Prop
 | .L s t=>s.d ρ<=t.d ρ
 | .K s t=>s.d ρ<t.d ρ
 | .E s t=>s.d ρ=t.d ρ
 | .N aiC=>¬aiC.d ρ
 | .C aiC g=>aiC.d ρ/\g.d ρ
 | .O aiC g=>aiC.d ρ\/g.d ρ
 | .I aiC g=>aiC.d ρ->g.d ρ
 | .F=>c8
noncomputable abbrev LP:=az×J az
noncomputable def LP.dot:J az->J B->az
 |c::p,x::ρ=>c*x+LP.dot p ρ
 |_,_=>0
noncomputable def LP.ev(p:LP)(ρ:J B):az:=p.1+LP.dot p.2 ρ
noncomputable def LP.xM:J az->J az->J az
 | [],q=>q
 |p,[]=>p
 |c::p,d::q=>(c+d)::LP.xM p q
noncomputable def LP.ag(a:az)(p:LP)(b:az)(q:LP)(k:az):LP:=(a*p.1+b*q.1+k,LP.xM (p.2.map (a* ·))<|q.2.map (b* ·))
noncomputable def LP.unit:B->J az
 |0=>[1]
 |i+1=>0::LP.unit i
theorem LP.Fa:∀(i:B) (ρ:J B),LP.dot (LP.unit i) ρ=LT.at ρ i
 |0,[]=>rfl
 |0,x::ρ=>by show 1*(x:az)+LP.dot [] ρ=x;rw[EL];cases ρ<;>exact pR _
 |i+1,[]=>rfl
 |i+1,x::ρ=>by show 0*(x:az)+LP.dot (LP.unit i) ρ=_;rw[xD,vR,LP.Fa i ρ];rfl
theorem LP.uk:∀ρ:J B,LP.dot [] ρ=0| []=>rfl|_::_=>rfl
theorem LP.Lw:∀(p q:J az) (ρ:J B),LP.dot (LP.xM p q) ρ=LP.dot p ρ+LP.dot q ρ
 | [],q,ρ=>by rw[LP.uk,vR];rfl
 |c::p,[],ρ=>by rw[LP.uk,pR];rfl
 |c::p,d::q,[]=>rfl
 |c::p,d::q,x::ρ=>by
  show(c+d)*x+LP.dot (LP.xM p q) ρ=(c*x+LP.dot p ρ)+(d*x+LP.dot q ρ);rw[LP.Lw p q ρ,az.add_mul];omega
theorem LP.Fb(a:az):∀(p:J az) (ρ:J B),LP.dot (p.map (a* ·)) ρ=a*LP.dot p ρ
 | [],ρ=>by rw[pJ,LP.uk,az.mul_zero]
 |c::p,[]=>(az.mul_zero a).symm
 |c::p,x::ρ=>by
  show a*c*x+LP.dot (p.map (a* ·)) ρ=a*(c*x+LP.dot p ρ);rw[LP.Fb a p ρ,EM,az.mul_assoc]
theorem LP.vU{a b k:az}{q:LP}:LP.ev (LP.ag a p b q k) ρ=a*p.ev ρ+b*q.ev ρ+k:=by
 show _+LP.dot (LP.xM _ _) ρ=_;rw[LP.Lw,LP.Fb,LP.Fb];show a*p.1+b*q.1+k+(a*_+b*_)=a*(p.1+_)+b*(q.1+_)+k;rw[EM,EM];omega
noncomputable def LP.All(cs:J LP)(ρ:J B):Prop:=∀p∈cs,0<=p.ev ρ
theorem LP.All.cons{cs:J LP}(h:LP.All cs ρ)(hp:0<=p.ev ρ):LP.All (p::cs) ρ:=λq hq=>by
 rcases cu.mp hq with rfl|hq
 ·exact hp
 ·exact h q hq
noncomputable def LP.hd(p:LP):az:=p.2.headD 0
noncomputable def LP.tl(p:LP):LP:=(p.1,p.2.tail)
noncomputable def LP.pairs(ps ns:J LP):J LP:=ps.flatMap λp=>ns.map λq=>LP.tl<|LP.ag (-LP.hd q) p (LP.hd p) q 0
noncomputable def LP.fm:B->J LP->bb
 |0,cs=>cs.any λp=>decide (p.1<0)&&p.2.all (· ==0)
 |n+1,cs=>LP.fm n<|(cs.filter λp=>p.hd==0).map LP.tl++LP.pairs (cs.filter λp=>decide (0<p.hd)) (cs.filter λp=>decide (p.hd<0))
theorem LP.Lx(h:p.hd=0):p.tl.ev ρ.tail=p.ev ρ:=by
 obtain⟨k,l⟩:=p;cases l with
 |nil=>show k+LP.dot [] _=k+LP.dot [] _;rw[LP.uk,LP.uk]
 |cons c l=>
  obtain rfl:c=0:=h;cases ρ with
  |nil=>show k+LP.dot l []=k+0;cases l<;>rfl
  |cons x ρ=>show k+LP.dot l ρ=k+(0*x+LP.dot l ρ);rw[xD,vR]
theorem LP.To{q:LP}(hp:p.hd≠0)(hq:q.hd≠0):LP.hd (LP.ag (-q.hd) p p.hd q 0)=0:=by
 obtain⟨k,l⟩:=p;obtain⟨k',l'⟩:=q;cases l with
 |nil=>exact aZ rfl hp
 |cons c l=>
  cases l' with
  |nil=>exact aZ rfl hq
  |cons d l'=>show-d*c+c*d=0;rw[az.neg_mul,az.mul_comm];omega
theorem LP.Ly:∀(n:B) (cs:J LP) (ρ:J B),LP.fm n cs=true->LP.All cs ρ->c8
 |0,cs,ρ,h,hA=>by
  obtain⟨p,hp,hq⟩:=DU.mp h;obtain⟨G,h2⟩:=(gS _ _).mp hq;have z:∀(l:J az) (ρ:J B),l.all (· ==0)=true->LP.dot l ρ=0:=by
   intro l
   induction l with
   |nil=>intro ρ _;exact LP.uk ρ
   |cons c l ih=>
    intro ρ h;obtain⟨q1,q2⟩:=(gS _ _).mp h;obtain rfl:c=0:=by simpa using q1
    cases ρ with
    |nil=>rfl
    |cons x ρ=>show 0*_+LP.dot l ρ=0;rw[ih ρ q2,xD];rfl
  have h3:=hA p hp;unfold LP.ev at h3;rw[z p.2 ρ h2,pR] at h3;exact aZ (dq G)<|xF.mpr h3
 |n+1,cs,ρ,h,hA=>by
  refine LP.Ly n _ ρ.tail h λp hp=>?_
  rcases bK.mp hp with hp|hp
  ·obtain⟨q,hq,rfl⟩:=fb.mp hp;obtain⟨hq,h0⟩:=rW.mp hq;rw[LP.Lx<|by simpa using h0];exact hA q hq
  ·obtain⟨q,hq,hp⟩:=vC.mp hp;obtain⟨r,hr,rfl⟩:=fb.mp hp;obtain⟨hq,G⟩:=rW.mp hq;obtain⟨hr,h2⟩:=rW.mp hr;have G:=dq G;have h2:=dq h2;rw[LP.Lx<|LP.To (az.ne_of_gt G)<|az.ne_of_lt h2,LP.vU,pR];exact az.add_nonneg (KY (by omega)<|hA q hq)<|KY (EJ G)<|hA r hr
noncomputable def LT.go:LT->J LP->(J LP->LP->bb)->bb
 | .V i,cs,k=>k cs (0,LP.unit i)
 | .N m,cs,k=>k cs (m,[])
 | .A s t,cs,k=>s.go cs λcs p=>t.go cs λcs q=>k cs<|LP.ag 1 p 1 q 0
 | .S s t,cs,k=>s.go cs λcs p=>t.go cs λcs q=>k (LP.ag 1 p (-1) q 0::cs) (LP.ag 1 p (-1) q 0)&&k (LP.ag 1 q (-1) p 0::cs) (0,[])
 | .M s t,cs,k=>s.go cs λcs p=>t.go cs λcs q=>if p.2.isEmpty then k cs (LP.ag p.1 q 0 q 0) else q.2.isEmpty&&k cs (LP.ag q.1 p 0 p 0)
 | .X s t,cs,k=>s.go cs λcs p=>t.go cs λcs q=>k (LP.ag 1 p (-1) q 0::cs) p&&k (LP.ag 1 q (-1) p 0::cs) q
 | .Y s t,cs,k=>s.go cs λcs p=>t.go cs λcs q=>k (LP.ag 1 p (-1) q 0::cs) q&&k (LP.ag 1 q (-1) p 0::cs) p
theorem LT.sq{aiB:Prop}(t:LT):∀(cs:J LP) (k:J LP->LP->bb),t.go cs k=true->LP.All cs ρ->(∀cs p,k cs p=true->LP.All cs ρ->p.ev ρ=t.d ρ->aiB)->aiB:=by
 have z:∀{k:az},LP.ev (k,[]) ρ=k:=λ{k}=>by show k+LP.dot [] ρ=k;rw[LP.uk,pR]
 have z':∀{p:LP},p.2.isEmpty=true->p.ev ρ=p.1:=λ{p} h=>by
  obtain⟨k,l⟩:=p;cases l with
  |nil=>exact z
  |cons _ _=>exact nomatch h
 have sub:∀{p q:LP} {a b:B},p.ev ρ=a->q.ev ρ=b->LP.ev (LP.ag 1 p (-1) q 0) ρ=a-b:=λe1 e2=>by rw[LP.vU,e1,e2];omega
 have pos:∀{p q:LP} {a b:B} {cs:J LP},p.ev ρ=a->q.ev ρ=b->b<=a->LP.All cs ρ->LP.All (LP.ag 1 p (-1) q 0::cs) ρ:=λe1 e2 h hA=>hA.cons (by rw[sub e1 e2];exact az.sub_nonneg_of_le<|az.ofNat_le.mpr h)
 induction t with
 |V i=>exact λcs k h hA g=>g _ _ h hA<|(vR _).trans<|LP.Fa i ρ
 |N m=>exact λcs k h hA g=>g _ _ h hA z
 |A s t is it=>exact λcs k h hA g=>is _ _ h hA λH p h hA e1=>it _ _ h hA λH q h hA e2=>g _ _ h hA (by rw[LP.vU,e1,e2,EL,EL,pR];rfl)
 |S s t is it=>exact λcs k h hA g=>is _ _ h hA λH p h hA e1=>it _ _ h hA λH q h hA e2=>
   (D9 (t.d ρ)<|s.d ρ).elim (λc=>g _ _ ((gS _ _).mp h).1 (pos e1 e2 c hA)<|(sub e1 e2).trans (az.ofNat_sub c).symm) (λc=>g _ _ ((gS _ _).mp h).2 (pos e2 e1 c hA)<|z.trans (bB xG<|B.sub_eq_zero_of_le c).symm)
 |M s t is it=>
  exact λcs k h hA g=>is _ _ h hA λH p h hA e1=>it _ _ h hA λH q h hA e2=>by
   by_cases c:p.2.isEmpty=true
   ·rw[aU c] at h;exact g _ _ h hA (by rw[LP.vU,←z' c,e1,e2,xD,pR,pR];rfl)
   ·rw[aE c] at h;have h:=(gS _ _).mp h;exact g _ _ h.2 hA (by rw[LP.vU,←z' h.1,e1,e2,xD,pR,pR,az.mul_comm];rfl)
 |X s t is it=>exact λcs k h hA g=>is _ _ h hA λH p h hA e1=>it _ _ h hA λH q h hA e2=>
   (D9 (t.d ρ)<|s.d ρ).elim (λc=>g _ _ ((gS _ _).mp h).1 (pos e1 e2 c hA)<|e1.trans (bB xG<|Km c).symm) (λc=>g _ _ ((gS _ _).mp h).2 (pos e2 e1 c hA)<|e2.trans (bB xG<|B.max_eq_right c).symm)
 |Y s t is it=>exact λcs k h hA g=>is _ _ h hA λH p h hA e1=>it _ _ h hA λH q h hA e2=>
   (D9 (t.d ρ)<|s.d ρ).elim (λc=>g _ _ ((gS _ _).mp h).1 (pos e1 e2 c hA)<|e2.trans (bB xG<|D7 c).symm) (λc=>g _ _ ((gS _ _).mp h).2 (pos e2 e1 c hA)<|e1.trans (bB xG<|tP c).symm)
noncomputable def LF.go:LF->bb->J LP->(J LP->bb)->bb
 | .L s t,b,cs,k=>s.go cs λcs p=>t.go cs λcs q=>cond b (k<|LP.ag 1 q (-1) p 0::cs)<|k<|LP.ag 1 p (-1) q (-1)::cs
 | .K s t,b,cs,k=>s.go cs λcs p=>t.go cs λcs q=>cond b (k<|LP.ag 1 q (-1) p (-1)::cs)<|k<|LP.ag 1 p (-1) q 0::cs
 | .E s t,b,cs,k=>s.go cs λcs p=>t.go cs λcs q=>cond b (k<|LP.ag 1 p (-1) q 0::LP.ag 1 q (-1) p 0::cs)<|k (LP.ag 1 p (-1) q (-1)::cs)&&k (LP.ag 1 q (-1) p (-1)::cs)
 | .N aiC,b,cs,k=>aiC.go (!b) cs k
 | .C aiC g,b,cs,k=>cond b (aiC.go true cs λcs=>g.go true cs k)<|aiC.go false cs k&&g.go false cs k
 | .O aiC g,b,cs,k=>cond b (aiC.go true cs k&&g.go true cs k)<|aiC.go false cs λcs=>g.go false cs k
 | .I aiC g,b,cs,k=>cond b (aiC.go false cs k&&g.go true cs k)<|aiC.go true cs λcs=>g.go false cs k
 | .F,b,cs,k=>cond b true<|k cs
noncomputable def LF.is(ρ:J B)(aiC:LF)(b:bb):Prop:=cond b (aiC.d ρ)<|¬aiC.d ρ
theorem LF.sq{ρ:J B}{aiB:Prop}(aiC:LF):∀(b:bb) (cs:J LP) (k:J LP->bb),aiC.go b cs k=true->LP.All cs ρ->aiC.is ρ b->(∀cs,k cs=true->LP.All cs ρ->aiB)->aiB:=by
 have pos:∀{p q:LP} {a b:B} {cs:J LP} (j:az),p.ev ρ=a->q.ev ρ=b->b-j<=a->LP.All cs ρ->LP.All (LP.ag 1 p (-1) q j::cs) ρ:=λj e1 e2 h hA=>hA.cons (by rw[LP.vU,e1,e2];omega);have le:∀{a b:B},b<=a->(b:az)-0<=a:=λh=>by omega
 have lt:∀{a b:B},b<a->(b:az)-(-1)<=a:=λh=>by omega
 have two:∀{a b:bb},(a&&b)=true->a=true/\b=true:=λh=>(gS _ _).mp h
 induction aiC with
 |L s t=>
  intro b cs k h hA hf g;refine LT.sq s _ _ h hA λH p h hA e1=>LT.sq t _ _ h hA λH q h hA e2=>?_
  cases b
  ·exact g _ h<|pos _ e1 e2 (lt<|tN hf) hA
  ·exact g _ h<|pos _ e2 e1 (le hf) hA
 |K s t=>
  intro b cs k h hA hf g;refine LT.sq s _ _ h hA λH p h hA e1=>LT.sq t _ _ h hA λH q h hA e2=>?_
  cases b
  ·exact g _ h<|pos _ e1 e2 (le<|iS hf) hA
  ·exact g _ h<|pos _ e2 e1 (lt hf) hA
 |E s t=>
  intro b cs k h hA hf g;refine LT.sq s _ _ h hA λH p h hA e1=>LT.sq t _ _ h hA λH q h hA e2=>?_
  cases b
  ·exact(B.lt_or_gt_of_ne hf).elim (λc=>g _ (two h).2<|pos _ e2 e1 (lt c) hA) λc=>g _ (two h).1<|pos _ e1 e2 (lt c) hA
  ·exact g _ h<|pos _ e1 e2 (le<|Am<|Eq.symm hf)<|pos _ e2 e1 (le<|Am hf) hA
 |N aiC i=>
  intro b cs k h hA hf g;cases b
  ·exact i _ _ _ h hA (xH.mp hf) g
  ·exact i _ _ _ h hA hf g
 |C aiC g' i j=>
  intro b cs k h hA hf g;cases b
  ·by_cases q:aiC.d ρ
   ·exact j _ _ _ (two h).2 hA (λr=>hf ⟨q,r⟩) g
   ·exact i _ _ _ (two h).1 hA q g
  ·exact i _ _ _ h hA hf.1 λH h hA=>j _ _ _ h hA hf.2 g
 |O aiC g' i j=>
  intro b cs k h hA hf g;cases b
  ·exact i _ _ _ h hA (λr=>hf<|.inl r) λH h hA=>j _ _ _ h hA (λr=>hf<|.inr r) g
  ·exact Or.elim hf (λq=>i _ _ _ (two h).1 hA q g) λq=>j _ _ _ (two h).2 hA q g
 |I aiC g' i j=>
  intro b cs k h hA hf g
  by_cases q:aiC.d ρ
  ·cases b
   ·exact i _ _ _ h hA q λH h hA=>j _ _ _ h hA (λr=>hf λH=>r) g
   ·exact j _ _ _ (two h).2 hA (hf q) g
  ·cases b
   ·exact(hf λr=>aZ r q).elim
   ·exact i _ _ _ (two h).1 hA q g
 |F=>
  intro b cs k h hA hf g;cases b
  ·exact g _ h hA
  ·exact hf.elim
noncomputable def LT.dec{α:Type}(z:α):B->B->(LT->B->α)->α
 |0,_,_=>z
 |aiA+1,w,k=>match w % 16 with
  |0=>k (.V<|w / 16 % 16)<|w / 256
  |1=>k (.N<|w / 16 % 16)<|w / 256
  |2=>LT.dec z aiA (w / 16) λs w=>LT.dec z aiA w λt w=>k (.A s t) w
  |3=>LT.dec z aiA (w / 16) λs w=>LT.dec z aiA w λt w=>k (.S s t) w
  |4=>LT.dec z aiA (w / 16) λs w=>LT.dec z aiA w λt w=>k (.M s t) w
  |5=>LT.dec z aiA (w / 16) λs w=>LT.dec z aiA w λt w=>k (.X s t) w
  |6=>LT.dec z aiA (w / 16) λs w=>LT.dec z aiA w λt w=>k (.Y s t) w
  |_=>k (.N<|w / 16 % 4294967296)<|w / 68719476736
noncomputable def LF.dec{α:Type}(z:α):B->B->(LF->B->α)->α
 |0,_,_=>z
 |aiA+1,w,k=>match w % 16 with
  |0=>LT.dec z 40 (w / 16) λs w=>LT.dec z 40 w λt w=>k (.L s t) w
  |1=>LT.dec z 40 (w / 16) λs w=>LT.dec z 40 w λt w=>k (.K s t) w
  |2=>LT.dec z 40 (w / 16) λs w=>LT.dec z 40 w λt w=>k (.E s t) w
  |3=>LF.dec z aiA (w / 16) λaiC w=>k (.N aiC) w
  |4=>LF.dec z aiA (w / 16) λaiC w=>LF.dec z aiA w λg w=>k (.C aiC g) w
  |5=>LF.dec z aiA (w / 16) λaiC w=>LF.dec z aiA w λg w=>k (.O aiC g) w
  |6=>LF.dec z aiA (w / 16) λaiC w=>LF.dec z aiA w λg w=>k (.I aiC g) w
  |_=>k .F<|w / 16
noncomputable def LF.of(w:B):LF:=LF.dec .F 40 (w / 16) λaiC H=>aiC
noncomputable def LP.units:B->J LP
 |0=>[]
 |n+1=>(0,LP.unit n)::LP.units n
theorem LP.Lz{ρ:J B}:∀n,LP.All (LP.units n) ρ
 |0=>λp hp=>nomatch hp
 |n+1=>(LP.Lz n).cons (by show 0<=0+LP.dot (LP.unit n) ρ;rw[LP.Fa,vR];exact vQ _)
noncomputable def LF.LA(N:B):bb:=(LF.of N).go false (LP.units<|N % 16)<|LP.fm<|N % 16
noncomputable def LF.den(N:B)(ρ:J B):Prop:=cond (LF.LA N) ((LF.of N).d ρ) gF
theorem ag(ρ:J B)(N:B){S:Prop}(e:LF.den N ρ=S:=by kernel_rfl):S:=e▸by
 unfold LF.den;cases h:LF.LA N with
 |false=>exact trivial
 |true=>exact EN λq=>LF.sq (ρ:=ρ) (LF.of N) false _ _ h (LP.Lz _) q λH=>LP.Ly _ _ _
variable{a b c d e aiC g h i j k l m n o p q r s t:B}
theorem xN:a+(b+1)<=c->a+1+b<=c:=ag [a,b,c] 0x201011002202011102002063
theorem Tp:a+(b+1)<=c->a+1<=c+1:=ag [a,b,c] 0x112021100202011102002063
theorem Tq:a+(b+1)<=c->a<=c:=ag [a,b,c] 0x200002011102002063
theorem LB:a<b->b<=a->c8:=ag [a,b] 0x70010061000162
theorem xO:a+(b+1)=c->a+1+b=c:=ag [a,b,c] 0x201011002222011102002263
theorem LE:a+(b+1)=c->a<c:=ag [a,b,c] 0x200012011102002263
theorem Fc:a<b->b<=c->a<=c:=ag [a,b,c] 0x200002010061000163
theorem Ts:a<b->b=c+1->a≠c->c<=a->c8:=ag [a,b,c] 0x700200620002361120210261000163
theorem AM:a<b->b<=c->c≠a:=ag [a,b,c] 0x20232010061000163
theorem Tt:a+200*(b+1)<=9000->a+0+3+200*b<=9000:=ag [a,b] 0x2328710000000c874310100222000002328711102000000c874002062
theorem Tu:a+10*(b+1)<=900->a+0+1+10*b<=900:=ag [a,b] 0x384710a14110100222000000384711102a14002062
theorem mP:a<b->b=c->a<c:=ag [a,b,c] 0x200012010261000163
theorem mf:a<b->c=b->a<c:=ag [a,b,c] 0x200011020261000163
theorem vV:a=b->b<=a:=ag [a,b] 68736254562
theorem Tv:a=b->a<=b:=ag [a,b] 17592202822242
theorem Tw:min a b<=c->d<=a->d<=b->d<=c:=ag [a,b,c,d] 0x203001030060030062010006064
theorem Tx:a=b->c<=b->min c d<=a:=ag [a,b,c,d] 0x3020601020061000264
theorem LG:a<b->c=d->b<=d->a<c:=ag [a,b,c,d] 0x200013010063020261000164
theorem LH:a+(b+c)+0=a+c+b:=ag [a,b,c] 0x102000220120102002223
theorem Ty:a+(b+1)=c->c<=a->c8:=ag [a,b,c] 0x70020062011102002263
theorem Tz:a+(b+1)=c->a<=c:=ag [a,b,c] 0x200002011102002263
theorem TA:a+0=b->a<b->c8:=ag [a,b] 0x71000161001002262
theorem TB:a+0=b->a<=b:=ag [a,b] 72057662774190690
theorem Fd:a<b+1->¬a<b->a=b:=ag [a,b] 0x1000210001361110200162
theorem LI:a<b->b-1+(c+1)=b+c:=ag [a,b,c] 0x201021120211103221000163
theorem LJ:a+1<b+1->a<b:=ag [a,b] 0x100011110211002162
theorem TD:a<b->b<=c->b-1+0<c:=ag [a,b,c] 0x200111103212010061000163
theorem LK:a<b->a<=b-1:=ag [a,b] 76845967193669986
theorem TE:a<b\/a=b/\c<=d->b<a\/b=a/\d<=c->c=d:=ag [a,b,c,d] 0x302022030000102400101563020010002410001564
theorem TF:a<b\/a=b/\c<=d->b<a\/b=a/\d<=c->a=b:=ag [a,b,c,d] 0x100022030000102400101563020010002410001564
theorem TG:¬a=0->a=b->0<b:=ag [a,b] 0x1001110002601002362
theorem TH:a=0->a=b->b=0:=ag [a,b] 0x11021000260100262
theorem AN:a=0->a<=b:=ag [a,b] 17592187093602
theorem TJ:0<a->b+a-1<c+a-1\/b+a-1=c+a-1/\d+a-1<=e+a-1->b<c\/b=c/\d<=e:=ag [a,b,c,d,e] 0x403002010242010151100402311003023011002023110010232411002023110010231560001165
theorem LL:a<=b->b<=a->b=a:=ag [a,b] 0x1020010061000062
theorem LM:a<b->c+b-1-(b-1-a)=c+a:=ag [a,b,c] 0x2020011103311102023321000163
theorem TK:a<b->c=b->b-1-a<c:=ag [a,b,c] 0x200011103311020261000163
theorem TM:a+b-1<c->a+b<=max d c:=ag [a,b,c,d] 0x203051000202011100023164
theorem LN:a<=b+c-1-(c-1)->a<=b:=ag [a,b,c] 0x100001120311201023300063
theorem TN:a+b-1<c+(d-c)->a+b<=max c d:=ag [a,b,c,d] 0x302051000202030320211100023164
theorem TO:0<a->b=a->a-1<b:=ag [a,b] 0x101100310010260001162
theorem LO:a<b->c+(b-1-a)=c+b-1-a:=ag [a,b,c] 0x1110202330011103320221000163
theorem TP:a<b->b-1-a<b:=ag [a,b] 0x100011103311000162
theorem LQ:a<b->c<=d->c<=d+b-1-a:=ag [a,b,c,d] 0x1110302332003020061000164
theorem LR:a<b->a<=c+b-1:=ag [a,b,c] 0x111020230001000163
theorem TQ:0<a->b+a<=c->b+a-1<c:=ag [a,b,c] 0x201100102312000102060001163
theorem LS:0<a->b<=c->b<=c+a-1:=ag [a,b,c] 0x110020231002010060001163
theorem TR:0<a->b+a<=c->b+a-1<d+(c-d):=ag [a,b,c,d] 0x302033021100102312000102060001164
theorem LU:0<a->b+(a-1)=b+a-1:=ag [a,b] 0x110010231100310220001162
theorem xP:0<a->a-1<a:=ag [a] 299080316096865
theorem TU:a<b+(c+1)->¬a=b+c->a<b+c:=ag [a,b,c] 0x2010200120102002361120210200163
theorem TX:a<b+0->b<=a->0<c->d=c->e+c-1<a\/e+c-1=a/\aiC+c-1<=g:=ag [a,b,c,d,e,aiC,g] 0x601120502300011204023240011204023152030262001160010060110200167
theorem TY:a<b+0->b<=a->c<=d:=ag [a,b,c,d] 0x302000010060110200164
theorem TZ:a+b-1<c\/a+b-1=c/\d+b-1<e->a+b-1<c\/a+b-1=c/\d+b-1<=e:=ag [a,b,c,d,e] 0x401110302302011100023242011100023154011103023120111000232420111000231565
theorem T0:a<b->c=b->c<=a->d<e\/d=e/\aiC<=g:=ag [a,b,c,d,e,aiC,g] 0x605004030244030150020061020261000167
theorem LV:a<b->b=0->c8:=ag [a,b] 0x70110261000162
theorem T3:a<=b+1/\a<=c+1->c+1-a+a-1=c:=ag [a,b,c] 0x201100001120232321120200011102000463
theorem T4:a<=b+1/\a<=c+1->b+1-a+a-1=b:=ag [a,b,c] 0x101100001110232321120200011102000463
theorem T5:a-1<=b->a-1<=c->a<=b+1/\a<=c+1:=ag [a,b,c] 0x112020001110200042011003061011003063
theorem T6:¬a=0->a-1<a:=ag [a] 4785285074264929
theorem T7:a=0->a<=b+1/\a<=c+1:=ag [a,b,c] 0x112020001110200040100263
theorem AO:a<=b->a+1<=b+1:=ag [a,b] 0x111021100201000062
theorem LW:a+1<=b+1->a<=b:=ag [a,b] 0x100001110211002062
theorem T8:a<b->a+1<b+1:=ag [a,b] 0x111021100211000162
theorem LX:¬a=0->1<a+1:=ag [a] 0x1100211101002361
theorem T9:0<a\/0<b->c+d=e+a->aiC+d=g+b->c+d=e->aiC+d=g->c8:=ag [a,b,c,d,e,aiC,g] 0x76030502264030202261060230502260040230202261001100011567
theorem vW:a+(b+c+d)=a+b+c+d:=ag [a,b,c,d] 0x302010002223020102200224
theorem Ua:a+2*(b+2)<=c->a+1+1+2*(b+1)<=c:=ag [a,b,c] 0x201110221411110022202021102214002063
theorem LY:0+a<=a:=ag [a] 4609
theorem Ub:a+b+(c+c)<d->d=a+b+e->c+c<e:=ag [a,b,c,d,e] 0x402020214010002230263020202100022165
theorem LZ:a+a<b->c=d+e+b->c-a+(b-(b-a))=c:=ag [a,b,c,d,e] 0x200010310300203221040302220261000002165
theorem Uc:a+2*(b+2)<=c->1+2*(b+1)<=c:=ag [a,b,c] 0x201110221411202021102214002063
theorem L0:a+a<b->c+d=e->c=aiC+g+b->aiC+g+a<=e:=ag [a,b,c,d,e,aiC,g] 0x400060502201060502220264030202261000002167
theorem Ud:a+2*(b+2)<=c->a+1+1<=c:=ag [a,b,c] 0x201111002202021102214002063
theorem L1:a+a<b->b-(b-a)=a:=ag [a,b] 0x10310321000002162
theorem Ue:a-(a-b)<=b:=ag [a,b] 17660908667650
theorem Uf:a+a<b->c=d+e+b->d+e+(b-a)=c-a:=ag [a,b,c,d,e] 0x2030010340302221040302220261000002165
theorem Ug:a+a<b->c=d+e+b->d+e+(b-a)+a=c:=ag [a,b,c,d,e] 0x200000103403022221040302220261000002165
theorem Uh:a+a<b->b-a+a<=b:=ag [a,b] 0x100000103201000002162
theorem L2:a+a<b->c=d+e+b->max (d+e) (c-a)=c-a:=ag [a,b,c,d,e] 0x2030020340302521040302220261000002165
theorem L3:a+a<b->c=d+e+b->min c (d+e+a)=d+e+a:=ag [a,b,c,d,e] 0x4030220040302220621040302220261000002165
theorem L4:a+a<b->a<=b:=ag [a,b] 72057662757413218
theorem Ui:a+a<b->0+a<=b:=ag [a,b] 0x100001201000002162
theorem Uj:a+a<b->c=d+e+b->d+e+(a+a)<c:=ag [a,b,c,d,e] 0x200000240302211040302220261000002165
theorem L5:a+(b+c+d)=e->a+b+c+d=e:=ag [a,b,c,d,e] 0x403020100022224030201022002265
theorem L6:a+(b+c+d)=e->aiC<=c->a+b+aiC<=e:=ag [a,b,c,d,e,aiC] 0x405010002202050064030201022002266
theorem Uk:a+b+(c+c)<a+b+d->d=min c e->c8:=ag [a,b,c,d,e] 0x74020630263010002220202100022165
theorem Ul:a<=b->0+a<=b:=ag [a,b] 72057671364116578
theorem Um:min a b=min (min a b) b:=ag [a,b] 72339096411833890
theorem Un:a=min b c->a<=c:=ag [a,b,c] 0x200002010600263
theorem L7:min (a+b+c) (a+b+d)=a+b+min d c:=ag [a,b,c,d] 0x203061000223010002220100022624
theorem L8:a+(b+c+d)=e->a+b<=e:=ag [a,b,c,d,e] 0x401000204030201022002265
theorem Uo:a+b<=c->b<=c-a:=ag [a,b,c] 0x2031002010002063
theorem Up:a+b<=c->a<=c:=ag [a,b,c] 0x200002010002063
theorem L9:¬a<a+b->b=0:=ag [a,b] 76597477582574434
theorem Uq:0<a\/0<b->¬c<c+a->d<d+b:=ag [a,b,c,d] 0x1030230100202201361001100011564
theorem Ma:0<a\/0<b->c=a+b->0<c:=ag [a,b,c] 0x200111000220261001100011563
theorem Ur:0<a\/0<b->c=a+b->c-1<c:=ag [a,b,c] 0x201120311000220261001100011563
theorem Us:0<a\/0<b->c=a+b->c=0->c8:=ag [a,b,c] 0x70120261000220261001100011563
theorem Fe:a<b->c=d+b->d+a<c:=ag [a,b,c,d] 0x200030211030220261000164
theorem Ut:a=b-c->b<=a+d+c:=ag [a,b,c,d] 0x203000221002010300264
theorem Uu:a<b->b=c-d->a+d<c:=ag [a,b,c,d] 0x203000213020310261000164
theorem Mb:a<b->c=b+d->a<c:=ag [a,b,c,d] 0x200013010220261000164
theorem Uv:min (a-b) a=a-b:=ag [a,b] 72060892841260578
theorem Uw:a+b<c->d<=a+b->d<0+c:=ag [a,b,c,d] 0x200123011000230062010002164
theorem Ux:a<b->a-c<=b:=ag [a,b,c] 72620556893028707
theorem Uy:a<b->c=min d e->e=c+b->d<=c+a:=ag [a,b,c,d,e] 0x2023001020240264030620261000165
theorem Uz:min a b<=a:=ag [a,b] 16778754
theorem Mc:a+b-c<=d->c<=b->a<=d:=ag [a,b,c,d] 0x300001020063020100023064
theorem Me:a<b->a<=b+c+d:=ag [a,b,c,d] 0x302010220001000164
theorem Mf:a<b->c<=d+1->c+a-b<=d:=ag [a,b,c,d] 0x301000202301130220061000164
theorem UA:¬a+a<b->¬c<a->b<=c+a:=ag [a,b,c] 0x202100002013610000021363
theorem Mg:a+(b+(c+b))=a+b+c+b:=ag [a,b,c] 0x102010002221020210200223
theorem Mh:a+(b+(c+b))-b=a+b+c:=ag [a,b,c] 0x201000221010202102002323
theorem Mi:a<b->c=d+(e+d)->b=d->d+e+a<c:=ag [a,b,c,d,e] 0x200040302213010263040230220261000165
theorem UB:a=b+(c+b)->a<=b+c+d+b:=ag [a,b,c,d] 0x103020102220001020210200264
theorem Mj:a+b+c+d=a+(b+c+d):=ag [a,b,c,d] 0x302010220023020100022224
theorem UC:a+a<b->b=a+(c+a)->c=0->c8:=ag [a,b,c] 0x70120260020200210261000002163
theorem UD:a<b->c=d+(b+d)->d+a+d<c:=ag [a,b,c,d] 0x203000302213010230220261000164
theorem UE:a<b->c=d+(b+d)->d+a<c:=ag [a,b,c,d] 0x200030213010230220261000164
theorem UF:a<b->c=d+(e+d)->b=d->a<c:=ag [a,b,c,d,e] 0x200013010263040230220261000165
theorem UG:a+a<b->b=a+(b-(a+a)+a):=ag [a,b] 0x210320021021000002162
theorem UH:min (a-(b+b)) (a-b)=a-(b+b):=ag [a,b] 0x101020031000310102003622
theorem UI:a+a<b->min a b=a:=ag [a,b] 0x1000621000002162
theorem UJ:a+a<b->a+(b-(a+a))=b-a:=ag [a,b] 0x1030000210300221000002162
theorem UK:a+b<c->d<=e+a+b->d<e+c:=ag [a,b,c,d,e] 0x204023011000402230062010002165
theorem UL:a<=b+c->d+a<=d+b+c:=ag [a,b,c,d] 0x201030220030202010200064
theorem UM:a<b->c+a-d<=c+b:=ag [a,b,c,d] 0x102023000202301000164
theorem UN:a+b<a+c->b<c:=ag [a,b,c] 0x201012000210002163
theorem UO:a<=b+c->a-(b-c)<b+c+1-(b-c):=ag [a,b,c] 0x201031120102232010300312010200063
theorem UP:a<b+c+1-(b-c)->b-c+a<=b+c:=ag [a,b,c] 0x201020020103202010311201022300163
theorem UQ:a<=400->1+2*a<=1000:=ag [a] 0x3e8700214112000000190700061
theorem Mk:a-b+(a-(a-b))=a:=ag [a,b] 0x1000300310003222
theorem UR:a=b-(b-c)->a<=b-(b-c):=ag [a,b,c] 0x201031030002010310300263
theorem US:a=b-(b-c)->b-(b-c)<=a:=ag [a,b,c] 0x2010310302010310300263
theorem UT:a-b+(b+b)<a->c8:=ag [a,b] 0x70010102100032162
theorem UU:0+2*a<=1+2*a:=ag [a] 0x2141120021401201
theorem ul:a+b=c->a<=c:=ag [a,b,c] 0x200002010002263
theorem UV:a+b<=c/\d+b<=e->a+b<=c+aiC/\d+b<=e+aiC:=ag [a,b,c,d,e,aiC] 0x504021030205020210002044010302020100020466
theorem UW:a+b<=c/\d+b<=e->c<=aiC->e<=g->a+b<=aiC+h/\d+b<=g+h:=ag [a,b,c,d,e,aiC,g,h] 0x706021030207050210002046040065020064010302020100020468
theorem UX:a=b+c+1->a<=d+1->c<=d:=ag [a,b,c,d] 0x302001130200061120102200264
theorem UY:a+b<=c->d+b<=e->c<=aiC/\e<=g->a<=aiC/\d<=g:=ag [a,b,c,d,e,aiC,g] 0x603005000046040050200464010302062010002067
theorem UZ:a+b<=c/\d+b<=e->a<=c/\d<=e:=ag [a,b,c,d,e] 0x403002000044010302020100020465
theorem U0:a=b+c+1->a<=d+1->b<=d:=ag [a,b,c,d] 0x301001130200061120102200264
theorem U1:¬a=b->a<=b->a<b:=ag [a,b] 0x1000110000610002362
theorem U2:a=b->c<=b->c<=a:=ag [a,b,c] 0x2001020061000263
theorem Ml:a+b<=c+d->d<=e->c<=a->b<=e:=ag [a,b,c,d,e] 0x401000020064030063020210002065
theorem Mm:a+b<=c->a+b<=max d c:=ag [a,b,c,d] 0x203051000202010002064
theorem U3:a<b->¬b<=a:=ag [a,b] 1100333711714
theorem U4:a+b<=max c d->b>0->c<=a->e<=a->aiC<=g/\d<=e->c8:=ag [a,b,c,d,e,aiC,g] 0x74030060500460040060020061001163020510002067
theorem U5:a+b<=c+d->e+d<=aiC/\c+d<=g->b>0->g<=a->c8:=ag [a,b,c,d,e,aiC,g] 0x70060061001166030202050304020463020210002067
theorem U6:a+b<=max c d->b>0->c<=a->e<=a->d<=e/\aiC<=g->c8:=ag [a,b,c,d,e,aiC,g] 0x76050040300460040060020061001163020510002067
theorem U7:a+b<=c+d->c+d<=e/\aiC+d<=g->b>0->e<=a->c8:=ag [a,b,c,d,e,aiC,g] 0x70040061001166030502040302020463020210002067
theorem U8:a<=0->a=0:=ag [a] 1100049547361
theorem Mn:a+(b-1)<c->a+b<=c:=ag [a,b,c] 0x201000202011103002163
theorem U9:a+b+c<d->a+b+c<d+e:=ag [a,b,c,d,e] 0x403022010002213020100022165
theorem Mo:a<=a+b+c:=ag [a,b,c] 35253093793795
theorem Mp:a-(b+c)=d+e+aiC->¬a<b+c->a=b+c+d+e+aiC:=ag [a,b,c,d,e,aiC] 0x5040302010222200220102001365040302220102003266
theorem Mq:a-(b+c)=d+e->¬a<b+c->a=b+c+d+e:=ag [a,b,c,d,e] 0x4030201022200220102001364030220102003265
theorem Mr:a<b+c+d->¬a<b+c->a-(b+c)<d:=ag [a,b,c,d] 0x3020102003120102001363020102200164
theorem Ms:¬a<b->a=0+b+(a-b):=ag [a,b] 0x1000310012200210001362
theorem Mt:a<b+c->¬a<b->a-b<c:=ag [a,b,c] 0x2010003110001362010200163
theorem Va:¬a+b<=c->¬c-a+1<b->b=d->d-1=0+(c-a):=ag [a,b,c,d] 0x203012113032301026101100203213620100020364
theorem Vb:a<b->c=d+e+a->c+(b-a+1)=d+e+b+1:=ag [a,b,c,d,e] 0x111040302221100103220220040302220261000165
theorem Vc:0+a<=b->c-d+1<a->0+(c-d+1)<b:=ag [a,b,c,d] 0x101130203201210011302032161000012064
theorem Ff:a+b+c+0<a+(b+(c+0))->c8:=ag [a,b,c] 0x70120210200201201000222163
theorem Mu:a<b->c=d+e+a->c+(b-a)=d+e+b+0:=ag [a,b,c,d,e] 0x11040302220010320220040302220261000165
theorem sr:¬a+b<=c->a<c->c-a<b:=ag [a,b,c] 0x1000203120001620100020363
theorem Mw:0+a<=b->¬c+a<=d->c<d->0+(d-c)<b:=ag [a,b,c,d] 0x1020303012130201630002020361000012064
theorem Mx:a+b<=c->d=e+aiC+a->d+b<=e+aiC+c:=ag [a,b,c,d,e,aiC] 0x205040221030200050402230262010002066
theorem My:a=b+c+d->b+c<=a:=ag [a,b,c,d] 0x2010203020102200264
theorem Mz:a+b+c=a+b->c=0:=ag [a,b,c] 0x12021000220100022263
theorem AP:a+b<=c->d+e+a+b<=d+e+c:=ag [a,b,c,d,e] 0x204030221000403022202010002065
theorem Vd:a<b->a+(b-a-1)=b-1:=ag [a,b] 0x111031100103300221000162
theorem MA:a+(b-c)=d+1->c<b->a+(b-c-1)=d:=ag [a,b,c,d] 0x301120103300221020161130220103002264
theorem MB:a<b->a+(b-a-1)<b:=ag [a,b] 0x101100103300211000162
theorem MC:¬a+b<=c->a<c->c-a-1<b:=ag [a,b,c] 0x1011002033120001620100020363
theorem AQ:a<b->c+d+a+(b-a)=c+d+b+0:=ag [a,b,c,d] 0x11030202220010300302022221000164
theorem Ve:¬a+b<=c->c=a+(b+d)+e+aiC->c8:=ag [a,b,c,d,e,aiC] 0x750403010200222202620100020366
theorem Vf:¬a+b<=c->c=a+b+d->c8:=ag [a,b,c,d] 0x730100022202620100020364
theorem Vg:¬a+b<=c->c<a+(b+(d+e)):=ag [a,b,c,d,e] 0x4030210200220120100020365
theorem Vh:a=1->a=2->c8:=ag [a] 0x72100261100261
theorem Vi:a<b->a=b->c8:=ag [a,b] 0x71000261000162
theorem Vj:a<min b c->a<b:=ag [a,b,c] 72058831263236451
theorem Vk:a<min b c->a<c:=ag [a,b,c] 0x200012010600163
theorem Vl:a<b->c<=a->d<=b/\b<c->c8:=ag [a,b,c,d] 0x72010110300460020061000164
theorem Vm:¬a=0->b<b+a:=ag [a,b] 4539887822840674
theorem Fg:a<b-c->c+a<b:=ag [a,b,c] 0x100020212010300163
theorem Vn:a<=b->c<=b/\b<a->c8:=ag [a,b,c] 0x70010110200461000063
theorem Vo:a+1<=b->b<=a->c8:=ag [a,b] 0x70010061011002062
theorem Vp:a<=2*b->b<=50->a+a<=400:=ag [a,b] 0x190700002000000032710061021400062
theorem AR:a<=2*b->c<=2->c+a<=2*(b+1):=ag [a,b,c] 0x111022140020202120061021400063
theorem Vq:a-b=c+1->a=b+c+1:=ag [a,b,c] 0x112010220021120210003263
theorem Vr:a<b->a=c+1->c<b:=ag [a,b,c] 0x102011120200261000163
theorem Vs:a<=1->b<=c->a+b<=c+1:=ag [a,b,c] 0x112021000202010061100063
theorem Vt:a+(b-1)<c->c=1->a+b<=0+1:=ag [a,b,c] 0x110121000201120262011103002163
theorem Vu:max 0 (1-a)+(a+a)<min 1 (max 0 (1-a)+a)->c8:=ag [a] 0x70000113015211600002001130152161
theorem Vv:a<=2*b->b<=50->a<=400:=ag [a,b] 0x190700000000032710061021400062
theorem Vw:0<a->a=a-1+1:=ag [a] 0x111100320020001161
theorem Vx:1+a+1+b<=a+2+b:=ag [a,b] 0x102100221011001122202
theorem Vy:1<=a->b+1<=max b c\/d+b<=b/\(a+b<=1+c\/c+2<=a)\/b+1<=d/\d+b<=b+1+c/\(a+b<=1+c\/c+2<=a)->¬c+2<=a->¬b<c->a=1:=ag [a,b,c,d] 0x11002201013600212020360021202020112100020520111022103020430111020400212020201121000205101030204520105111020560011064
theorem Vz:a+1<=max b c\/d+a<=b/\(e+a<=1+c\/c+2<=e)\/b+1<=d/\d+a<=b+1+c/\(e+a<=1+c\/c+2<=e)->¬b<c->a<=b:=ag [a,b,c,d,e] 0x1000020101364021202020112004020520111022003020430111020440212020201120040205100030204520105110020565
theorem VA:0<a->¬b<a->b=0->c8:=ag [a,b] 0x701102600101360001162
theorem VB:a<b->0+a<b+1+c:=ag [a,b,c] 0x201110220001211000163
theorem VC:a+2+b<=max 0 (1+a+1+b):=ag [a,b] 0x101100112220151021002202
theorem VD:0+a<=max 0 (a+1+b):=ag [a,b] 0x101100220150001202
theorem VE:1<=a->b+1<=max c b\/d+b<=c/\(a+b<=1+b\/b+2<=a)\/c+1<=d/\d+b<=c+1+b/\(a+b<=1+b\/b+2<=a)->c<b->c+1<d\/c+1=d/\1<=a:=ag [a,b,c,d] 0x1103011202243011202151020160021102010112100020510112022103020430112020400211020101121000205201030204510205111020560011064
theorem VF:a+1<=max b c\/d+a<=b/\(e+a<=1+c\/c+2<=e)\/b+1<=d/\d+a<=b+1+c/\(e+a<=1+c\/c+2<=e)->b<c->a<=c:=ag [a,b,c,d,e] 0x200002010164021202020112004020520111022003020430111020440212020201120040205100030204520105110020565
theorem VG:a<b->c+1+a<c+1+b:=ag [a,b,c] 0x101120220011202211000163
theorem VH:1+a<=max 0 (1+a+1+b):=ag [a,b] 0x101100112220150011202
theorem MD:¬(a<=1+b/\1+b<a+c)->a+c<=1+b\/b+2<=a:=ag [a,b,c] 0x21102010112200020520002101121101120004363
theorem VI:a+(b-1)<c+1+d->a+b<=c+1+d:=ag [a,b,c,d] 0x301120221000203011202211103002164
theorem VJ:a<=b->¬(a<=b/\b<a+c)->a+c<=b:=ag [a,b,c] 0x1020002020002101100004361000063
theorem VK:1+a<b+c->d+c<=e+1->e-d=1+a-b->aiC<c-1->d+aiC=e-(c-1)+aiC:=ag [a,b,c,d,e,aiC] 0x501120340325030221120350161000112330403261140220302062010200112166
theorem VL:1<=a->b+c<=d+1->d-b=1+e-a->aiC<c-1->e-(c-1)+aiC<e:=ag [a,b,c,d,e,aiC] 0x405011203403211120350160040112310303261130220102060011066
theorem VM:1+a<b+c->1<=b->d+c<=e+1->e-d=1+a-b->aiC<c-1->b+aiC=1+(a-(c-1)+aiC):=ag [a,b,c,d,e,aiC] 0x501120300321125010221120350161000112330403261140220302061011062010200112166
theorem VN:a+b<=c+1->d<b-1->a+d<c:=ag [a,b,c,d] 0x203000211110330161120210002064
theorem VO:a<b-1->a<b:=ag [a,b] 72058766835581282
theorem VP:¬a+1<=max b c->max b c<=a-1+1:=ag [a,b,c] 0x1111003220105020105110020363
theorem VQ:1<=a->b+c<=d+1->d-b=1+e-a->c-1<=e:=ag [a,b,c,d,e] 0x401120300040112310303261130220102060011065
theorem VR:a+b<=c+1->b-1<=c:=ag [a,b,c] 0x201110301120210002063
theorem VS:a-b=1+c-d->d<=1+c->b<=a->d+(a+1-b)=c+2+0:=ag [a,b,c,d] 0x12120221011002330220010062011230063020112310003264
theorem VU:a<=b->a+(b+1-a)=b+1+0:=ag [a,b] 0x11110220011102300221000062
theorem VV:1+a<b+c->¬d+c<=e+1->b<=1+a->e+1-d<c:=ag [a,b,c,d,e] 0x2030114023100112100611402203020362010200112165
theorem VW:a+(b-c)=1+d->b-c=1+d-a:=ag [a,b,c,d] 0x3011232010323011220103002264
theorem VX:1+a<b+c->d<e+c->b<=1+a->d-e<c:=ag [a,b,c,d,e] 0x204030310011210062040230162010200112165
theorem VY:1+a<b+c->d+(1+a-b)=e->b<=1+a->d<=e/\e<d+c:=ag [a,b,c,d,e] 0x203024014030040011210064010001123302262010200112165
theorem VZ:1+a<b+c->b<=1+a->1+a-b<c:=ag [a,b,c] 0x201000112310011210062010200112163
theorem V0:a+(b-c)=1+d->b<c+e->c<=b->a<=1+d/\1+d<a+e:=ag [a,b,c,d,e] 0x400023011213011200041020064020210163011220103002265
theorem V1:a<b+c->b<=a->a-b<c:=ag [a,b,c] 0x201000310010062010200163
theorem ME:2<=a->a=1->b=1+c:=ag [a,b,c] 0x201121021100260021063
theorem V2:¬a<1+b->¬a=1+b->a=b+2+(a-b-2):=ag [a,b] 0x21100033211022002101120023610112001362
theorem V3:a<1+b->¬a=0->a-1<b:=ag [a,b] 0x1011003101002361011200162
theorem V4:¬a=0->a=1+(a-1):=ag [a] 0x1100311200201002361
theorem MF:2<=a->a=1->b=c:=ag [a,b,c] 0x201021100260021063
theorem V5:¬a<b->¬a=b->a=b+1+(a-b-1):=ag [a,b] 0x11100033111022002100023610001362
theorem V6:a+2+b=1+a+1+b:=ag [a,b] 0x101100112221021002222
theorem MG:a<=22->a<=60:=ag [a] 0x3c700000000016700061
theorem Fh:a<=2*b->b<=11->a<=22:=ag [a,b] 0x167000b110061021400062
theorem V7:a<=11->a<=400:=ag [a] 7044571184758881
theorem MH:a<=11->a<=50:=ag [a] 887306069213281
theorem MI:a<=1->a=0\/a=1:=ag [a] 0x110020100251100061
theorem MJ:5+min 6 a<=11:=ag [a] 0xb10061651201
theorem V8:max (a+1+1+1+1) (b+1+1+1+1)<=c+1->0<c:=ag [a,b,c] 0x200111120211111111102222111111110022225063
theorem MK:max (a+1+1+1+1) (b+1+1+1+1)<=c+1->¬b+1+1+1+1=c->c<=b+1+1+1+1->b+1+1+1+1-c=1:=ag [a,b,c] 0x1120111111111022223211111111102222200620111111111022222361120211111111102222111111110022225063
theorem V9:a+1+1+1+1=b->2<b:=ag [a,b] 0x102111011111111002222262
theorem Fi:a+1+1+1+1=b->a+1+1+1+1-b=0:=ag [a,b] 0x11011111111002222321011111111002222262
theorem Wa:max (a+1+1+1+1) (b+1+1+1+1)<=c+1->¬a+1+1+1+1=c->c<=a+1+1+1+1->a+1+1+1+1-c=1:=ag [a,b,c] 0x1120111111110022223211111111002222200620111111110022222361120211111111102222111111110022225063
theorem Wb:a+1+1+1+1=b->0<b:=ag [a,b] 0x100111011111111002222262
theorem ML:a+b<=c->c+d<=e->a+b<=e:=ag [a,b,c,d,e] 0x401000204030202062010002065
theorem MM:a+b<=c->d<=a->d<=c:=ag [a,b,c,d] 0x203000030062010002064
theorem MN:0<a->b+a<=max c d->c<=b->b+a<=d:=ag [a,b,c,d] 0x300010201020063020500102060001164
theorem MO:0<a->b+c<=max d e->aiC+a<=b->d<=aiC->aiC+a<=e:=ag [a,b,c,d,e,aiC] 0x400050205030061000502064030520102060001166
theorem Wc:a-b<=c+1->¬d=0->b<=e->a-(e+d)<=c:=ag [a,b,c,d,e] 0x2030402003040100601302361120210003065
theorem We:a+b<=max c d->d-c<=e+1->¬b=0->a-c<=e:=ag [a,b,c,d,e] 0x4020003001102361140220303063020510002065
theorem Wf:a+b<=max c d->d-c<=0->¬b=0->c<=a->c8:=ag [a,b,c,d] 0x700200601102360120303063020510002064
theorem Wg:a+b<=max c d->e+b<=max aiC g->c<=a->aiC<=e->d<=c\/g<=aiC->b=0:=ag [a,b,c,d,e,aiC,g] 0x11025060020300564050060020066050510402063020510002067
theorem Wh:¬a<b->¬b=a->a<=c->b<c:=ag [a,b,c] 0x20101200006001023610001363
theorem MQ:¬a<b->¬(a<b/\b<=c):=ag [a,b,c] 0x20100100014310001363
theorem AS:a<b+1->c<a->a-1<b:=ag [a,b,c] 0x101100310020161110200163
theorem Wi:¬a-1=b->¬b<c->b<a->c<a-1:=ag [a,b,c] 0x11003201001016201013610110032363
theorem Wj:a-1=b->¬b<c->¬c=b->c<a-1:=ag [a,b,c] 0x11003201102023620101361011003263
theorem Wk:a<b+1->c<a->c<a/\a<=b:=ag [a,b,c] 0x100000020140020161110200163
theorem Wl:a<b->b<c->b-1<c-1:=ag [a,b,c] 0x112031110312010161000163
theorem Wm:a<b+1->c<d->d<a->c<a/\a<=b:=ag [a,b,c,d] 0x100000020140030163020161110200164
theorem Wn:a<b+1->c<d->d<a->c<d/\d<=b:=ag [a,b,c,d] 0x103003020140030163020161110200164
theorem Wo:a<b->b=c->¬(c<a/\a<=d):=ag [a,b,c,d] 0x3000000201432010261000164
theorem Wp:a<b->a=c->c<=b-1:=ag [a,b,c] 0x111032002000261000163
theorem Wq:a<b+1->c<a->c=d->d<a/\a<=b:=ag [a,b,c,d] 0x100000030143020260020161110200164
theorem Wr:a<b->a=c->¬b=c:=ag [a,b,c] 0x2010232000261000163
theorem Ws:a<=b->b-(b-a)=a:=ag [a,b] 4557489135681634
theorem Wt:a+(b+1)=c->d=c->a<d:=ag [a,b,c,d] 0x300012030262011102002264
theorem Wu:a<b->b<=a->c<d:=ag [a,b,c,d] 0x302010010061000164
theorem Wv:a<0->b<c:=ag [a,b,c] 35253361049955
theorem Fj:a<b+1->¬a=b->a<b:=ag [a,b] 0x1000110002361110200162
theorem Ww:a-b<=c+1->b<=d->a-(d+1)<=c:=ag [a,b,c,d] 0x201130200303010061120210003064
theorem MR:a<b->c<d->d<=a->c<b:=ag [a,b,c,d] 0x102010030063020161000164
theorem Wx:¬a=b->b<=a->b<a:=ag [a,b] 0x10100100610002362
theorem Wy:a-b<=c+1->d<a->d-b<=c:=ag [a,b,c,d] 0x201030300030161120210003064
theorem Wz:a<=b->a≥b->a=b:=ag [a,b] 0x100020010061000062
theorem WA:a-b<=0->b<=a->b=a:=ag [a,b] 0x1020010060110003062
theorem WB:¬1=a->1<=a->b<=2+(a-(1+1))->c<=b+(a-b)->c<=a:=ag [a,b,c] 0x20010003102200611112003212100600110600112363
theorem WC:2<=a->a<=b->1<=b:=ag [a,b] 0x101101000060021062
theorem WD:¬1=a->1<=a->b=a->c<=2+(a-(1+1))->c<=b:=ag [a,b,c] 0x1020011112003212200600102600110600112363
theorem WE:¬1=a->1<=a->b<=2+(a-(1+1))->b+(a-b)<=a:=ag [a,b] 0x10003102011112003212100600110600112362
theorem MS:a<1->b<a->c<d:=ag [a,b,c,d] 0x302010010161100164
theorem WF:¬1=a->1<=a->2+(a-(1+1))<=a:=ag [a] 0x11112003212000110600112361
theorem WG:¬1=a->1<=a->1<1+(a-1):=ag [a] 0x1100311211100110600112361
theorem WH:1<=a->¬a>1->a=1:=ag [a] 0x1100200111360011061
theorem WI:a>1->a<=1+(b-1)->a<=b:=ag [a,b] 0x100001110311200060011162
theorem WJ:a>1->a-1<a:=ag [a] 299080316162401
theorem WK:a>1->0<a-1:=ag [a] 76564496763654497
theorem WL:a>1->0≠a-1:=ag [a] 0x1100301230011161
theorem WM:a>1->a<=1+(b-1)->a-1<b:=ag [a,b] 0x101100311110311200060011162
theorem WN:1<=a->1+(a-1)<=a:=ag [a] 0x1100311200011061
theorem AT:1<=a->a≠a-1:=ag [a] 0x1100300230011061
theorem xQ:a+(b+1)<=c->a-1<c:=ag [a,b,c] 0x201100312011102002063
theorem um:a+(b+1)<=c->a<c:=ag [a,b,c] 0x200012011102002063
theorem WO:1<=a->a-1≠a:=ag [a] 4785290157822049
theorem MT:a<=b+1+c->a<=b+(c+1):=ag [a,b,c] 0x112021020002011102200063
theorem WP:a<b+(c+1)->a<b+1+c:=ag [a,b,c] 0x201110220011120210200163
theorem WQ:a<b->b-1-c<b:=ag [a,b,c] 0x102011103311000163
theorem WR:a<b->b<c->c-1-b<c-1-a:=ag [a,b,c] 0x1120331011203312010161000163
theorem MU:1<=a->a-1<a:=ag [a] 299080316162145
theorem MV:a<b->¬a=b-1->a<b-1:=ag [a,b] 0x1110300111103002361000162
theorem WT:¬a<b->a≠b->b<a:=ag [a,b] 0x101100023610001362
theorem WU:0<a->b+a<=c->0<=b/\b<c:=ag [a,b,c] 0x201011001042000102060001163
theorem WV:0<a->b+a<=c/\d+a<=e->b<c:=ag [a,b,c,d,e] 0x201014000302020001020460001165
theorem WW:a<=b-(c+1)->d<=c/\c<b->a+1<=b-d:=ag [a,b,c,d] 0x301031100201020120300461120210300064
theorem WX:a<=b+1->a+c<=b+(c+1):=ag [a,b,c] 0x112021022000201110200063
theorem WY:a<=0+b->b<=c->a+1+1<=c+2:=ag [a,b,c] 0x212021111002202010061001200063
theorem WZ:a<=0+b->b<=c->a+1<=c+2:=ag [a,b,c] 0x212021100202010061001200063
theorem W0:a<=b+2->a+2*c<=b+2*(c+1):=ag [a,b,c] 0x112022141022021400202110200063
theorem W1:a<=1->b<=1->c+a+b<=c+2:=ag [a,b,c] 0x212021000202201110061100063
theorem W2:a<=0+2*b->b<=c+2->a<=2*c+4:=ag [a,b,c] 0x412021420002120210061021401200063
theorem W3:a<=b+1->c<=a+d->c<=b+(d+1):=ag [a,b,c,d] 0x113021022003000220061110200064
theorem W4:2<5+a:=ag [a] 85074193
theorem W5:4<5+a/\1<5+a/\0<5+a:=ag [a] 0x5120110051211140051241141
theorem su:4<=7+a:=ag [a] 118636801
theorem W6:a+1+5=6+a:=ag [a] 0x6125111002221
theorem Fk:a<200->b<a->c=b->d<=c->d<=16777216:=ag [a,b,c,d] 0x10000007300203006102026001016000000c8700164
theorem W7:a=5+b->a<=5+b:=ag [a,b] 0x105120001051200262
theorem W8:4≠5+a:=ag [a] 1361318449
theorem W9:4<=5+a+b:=ag [a,b] 17593547243778
theorem Xa:4<=5+a:=ag [a] 85082369
theorem Fn:a<b->5+a<5+b:=ag [a,b] 0x105120051211000162
theorem Xb:a<b->min a b=a:=ag [a,b] 281501300162914
theorem Xc:a<=b+a-b:=ag [a,b] 17592456773634
theorem Xd:5+a<=7+a:=ag [a] 485868507649
theorem Xe:2<7+a:=ag [a] 118628625
theorem Xf:6+a<7+a/\5+a<7+a/\4<7+a/\1<7+a/\0<7+a:=ag [a] 0x7120110071211140071241140071200512140071200612141
theorem AU:a+b<c->c<=d->a+b<d:=ag [a,b,c,d] 0x301000213020062010002164
theorem Fo:a+b<=max c d->c<a->d<=e->a-1<e:=ag [a,b,c,d,e] 0x401100314030060020163020510002065
theorem Xg:a+b<=max c d->c<a->d<=e->a<=e:=ag [a,b,c,d,e] 0x400004030060020163020510002065
theorem MW:a=7+b+c->d=a->5+b<d:=ag [a,b,c,d] 0x301051210030262010712200264
theorem Xh:a+b=c->a+(b+1)-1=c:=ag [a,b,c] 0x201111102002322010002263
theorem Xi:¬a+(b+1)<=a:=ag [a,b] 1172559634482
theorem MX:a=7+b+c->0<a:=ag [a,b,c] 77125273499206243
theorem MY:a=7+b+c->1<a:=ag [a,b,c] 0x1112010712200263
theorem MZ:a=7+b+c->4<a:=ag [a,b,c] 0x4112010712200263
theorem Xj:a=b->b<=a+c:=ag [a,b,c] 0x200021001000263
theorem M0:a<=200->a<=16777216:=ag [a] 0x10000007000000000c8700061
theorem Xk:a<200->b<=min c d->d<=a->b<=200:=ag [a,b,c,d] 0xc87100003006302061006000000c8700164
theorem Xl:a<=a+6:=ag [a] 26038370305
theorem Xm:a+2+1<=a+6:=ag [a] 0x610021121002201
theorem Xn:a<b->c=7+b+d->e=c->5+a<e:=ag [a,b,c,d,e] 0x400051212040263010712220261000165
theorem Xo:a<b->c=7+b+d->5+a+1<=c+6:=ag [a,b,c,d] 0x612021100512203010712220261000164
theorem Xp:a<b-c->b<=d->c+a<d:=ag [a,b,c,d] 0x300020213010062010300164
theorem Xq:5+a+(2+b)=7+a+b:=ag [a,b] 0x100071221021200512222
theorem Xr:a=b+4->b+3<a:=ag [a,b] 0x3110214110200262
theorem Xs:a=b+4->b<=a:=ag [a,b] 281754420118114
theorem Xu:10+a+b=c+3->7+a+(b+4)=c+4:=ag [a,b,c] 0x41202411020071222312021000a122263
theorem Xv:a<=65->a<=16777216:=ag [a] 0x1000000700000000041700061
theorem Xw:a<=64->a+1<=65:=ag [a] 0x41711002000000040700061
theorem Xx:a<=64->a<=65:=ag [a] 0x41700000000040700061
theorem M1:a<=64->a<=16777216:=ag [a] 0x1000000700000000040700061
theorem Xy:a<64->b<=0+c->c<=a->b<=64:=ag [a,b,c] 0x40710000200620012100600000040700163
theorem Xz:a<=0+b->b<=64->a<=64:=ag [a,b] 0x40700000000040710061001200062
theorem XA:0<a->b+(c+(2*(d-e)+1))<=2*aiC+1->g+a<=max e d->h<=2*(d-(g+a))+1->i<=2*(g-e)+1->e<=g->b+1+(c+i+h)<=2*aiC+1:=ag [a,b,c,d,e,aiC,g,h,i] 0x115021427080202211102206040061140603214280061100602303214270063040500602061150214211403032142202102060001169
theorem XB:0<a->b+a<=max c d->e+a<=max aiC g->d<=h->c<=b->aiC<=e->g<=i->b+a<=d/\d<=h/\e+a<=g/\g<=i:=ag [a,b,c,d,e,aiC,g,h,i] 0x806006000402047030043000102048060064050061020067030066050500402063020500102060001169
theorem XC:0<a->b+a<=max c d->e+a<=max aiC g->d<=h->c<=b->aiC<=e->g<=i->c<=b/\b<=h/\aiC<=e/\e<=i:=ag [a,b,c,d,e,aiC,g,h,i] 0x804004050047010041020048060064050061020067030066050500402063020500102060001169
theorem XD:a+(0+b)+(c+d+e)=a+(c+(d+(e+b))):=ag [a,b,c,d,e] 0x104023022020024030202210012002225
theorem XE:0<a->b+a<=max c d->e<=2*(d-(b+a))+1->aiC<=2*(b-c)+1->c<=b->g+aiC+e<g+(2*(d-c)+1):=ag [a,b,c,d,e,aiC,g] 0x112030321426024050602211020061120103214250061100102303214240063020500102060001167
theorem XF:a+(b+(2*(c-d)+1))<=2*e+1->aiC+g<c/\h+g<i->j+k<=b+(2*(c-d)+1)->e<200->l<=2*(aiC-d)+1->m<=l->j+m<=16777216:=ag [a,b,c,d,e,aiC,g,h,i,j,k,l,m] 0x10000007c09020b0c00611305032142b006000000c87401611302032142102a090206806070212060502146114021421130203214210200206d
theorem XH:a+(b+(2*(c-d)+1))<=2*e+1->aiC+g<=b+(2*(c-d)+1)->e<200->aiC<=16777216:=ag [a,b,c,d,e,aiC,g] 0x10000007500000000c8740161130203214210260502061140214211302032142102002067
theorem XI:a+(b+(2*(c-d)+1))<=2*e+1->e<200->a<=16777216:=ag [a,b,c,d,e] 0x10000007000000000c8740161140214211302032142102002065
theorem XJ:a+(b+(2*(c-d)+1))<=2*e+1->a+b<=2*e+1:=ag [a,b,c,d,e] 0x114021421000201140214211302032142102002065
theorem XK:a<a+(2*(b-c)+1):=ag [a,b,c] 0x112010321420020013
theorem XM:a+(b+(2*(c-d)+1))<=2*e+1->aiC+g<=b+(2*(c-d)+1)->e<200->aiC<=1000000:=ag [a,b,c,d,e,aiC,g] 0xf42407500000000c8740161130203214210260502061140214211302032142102002067
theorem XN:a+b<=2*c+1->c<200->d<=b->d<=16777216:=ag [a,b,c,d] 0x10000007300103006000000c8720161120214210002064
theorem XO:0+(2*a+1)<=2*a+1:=ag [a] 0x110021421100214201201
theorem XQ:10+a+b=7+a+b+3:=ag [a,b] 0x311000712221000a12222
theorem M2:a<64->a<200:=ag [a] 0xc8700100000040700161
theorem XR:10+a+b<7+a+(b+4):=ag [a,b] 0x411020071221000a12212
theorem XT:a<7+b+c->a<7+b+(c+d):=ag [a,b,c,d] 0x302021071220012010712200164
theorem XU:a<=b->a+1<=2*(c-d)+1+b:=ag [a,b,c,d] 0x101130203214221100201000064
theorem XV:a=b+5->b<a:=ag [a,b] 282922651222626
theorem XW:a=b+5->b<=a:=ag [a,b] 281823139594850
theorem XX:a<=1->b<=200->b+a<=16777216:=ag [a,b] 0x10000007001020000000c8710061100062
theorem XY:a<=10->a<=16777216:=ag [a] 0x10000007000a100061
theorem XZ:a<64->b<=0+2*c->d<=a+2->c<=d->b<=200:=ag [a,b,c,d] 0xc8710030200621002300620214012100600000040700164
theorem X0:a=b->a<=b+5:=ag [a,b] 0x511020001000262
theorem X2:a=b+1->c=b+5->a<=c:=ag [a,b,c] 0x200005110220261110200263
theorem X3:11+a+b=c+4->7+a+(b+1)=c+1:=ag [a,b,c] 0x11202111020071222412021000b122263
theorem X4:7+a+b=c->11+a+b=c+4:=ag [a,b,c] 0x412021000b12222010007122263
theorem Fp:10+a+(b+1)=11+a+b:=ag [a,b] 0x1000b1221110200a12222
theorem X5:a<=15->b<=a->b+1<=16:=ag [a,b] 0x107111020001006f100062
theorem X6:¬a+1+1=1:=ag [a] 300239957402161
theorem X7:a<=132->b<=a->b<=16777216:=ag [a,b] 0x1000000710000100600000084700062
theorem M3:a<b->b<=132->c<=a->c<=16777216:=ag [a,b,c] 0x1000000720000200600000084710061000163
theorem X8:a<64->b<=2*a+4->b<=16777216:=ag [a,b] 0x1000000710041002142100600000040700162
theorem X9:7+a=2+(5+a):=ag [a] 0x5122120071221
theorem Yb:a<64->b<=2*a+4->b<=132:=ag [a,b] 0x84710041002142100600000040700162
theorem Yc:7+a<=b->c=7+a->c<=b:=ag [a,b,c] 0x102000071220261000712063
theorem Yd:¬a+3=0:=ag [a] 5117059633
theorem Ye:0<a+1:=ag [a] 4563534097
theorem Yg:a+1=0->c8:=ag [a] 7701161583201
theorem M4:a<200->a<=1000:=ag [a] 0x3e87000000000c8700161
theorem M5:a<64->a<=1000:=ag [a] 0x3e8700000000040700161
theorem un:a<=1000->a<=1000000:=ag [a] 0xf42407000000003e8700061
theorem M6:a<=5000->a<=1000000:=ag [a] 0xf4240700000001388700061
theorem Yh:0<a->a=0->c8:=ag [a] 0x70100260001161
theorem M7:a<=1001->a<=1000000:=ag [a] 0xf42407000000003e9700061
theorem Yi:a<=2000->b<=2000->b+1+a<=5000:=ag [a,b] 0x13887001110220000007d071006000007d0700062
theorem Yj:a<=2000->a<=5000:=ag [a] 0x13887000000007d0700061
theorem Yk:a<=2000->a+2<=5000:=ag [a] 0x13887210020000007d0700061
theorem Yl:a<=1000->1+a<=16777216:=ag [a] 0x10000007001120000003e8700061
theorem Fq:a<=1000->a<=16777216:=ag [a] 0x10000007000000003e8700061
theorem AV:¬a<=b->b<=a:=ag [a,b] 1099780064098
theorem Ym:¬a<=b->b-c<=a-c:=ag [a,b,c] 0x2000320103010000363
theorem Yn:a=b->b<=1000->a<=16777216:=ag [a,b] 0x10000007000000003e8710061000262
theorem Yo:a+3=1\/3<=a+3:=ag [a] 0x310023101131002251
theorem Yp:¬(a+3=1\/a+3=2):=ag [a] 0x2131002211310022531
theorem M8:2*a+1+1+1+1=4+2*a:=ag [a] 0x2144121111111100214222221
theorem Yq:a=b->¬b<a:=ag [a,b] 1104628679266
theorem Yr:4+2*a<=b->c<a->5+2*c<b:=ag [a,b,c] 0x102021451210020161000214412063
theorem Ys:a+2*(b+1)<=c->a+2+2*b<=c:=ag [a,b,c] 0x201021421002202011102214002063
theorem Yt:a+2*(b+1)<=c->a<c:=ag [a,b,c] 0x200012011102214002063
theorem Yu:a+(2*b+1+1)=a+2+2*b:=ag [a,b] 0x102142100221111102142200222
theorem Yv:a+b=c+(d+b)->c=2->a=2+d:=ag [a,b,c,d] 0x302120022120261030220210002264
theorem Yw:a<=5000000->2+a<=16777216:=ag [a] 0x10000007002120004c4b40700061
theorem Yx:4+2*a<5+2*a:=ag [a] 0x2145120021441211
theorem M9:a<=1000->b<=1000->a+b<=16777216:=ag [a,b] 0x10000007100020000003e871006000003e8700062
theorem Na:4+2*a+1=5+2*a:=ag [a] 0x2145121100214412221
theorem Yy:a*2001<=2000*2001->b<=a*2001->b<=5000000:=ag [a,b] 0x4c4b407100000007d170041006000007d17000007d074000007d17004062
theorem xR:a<=2000->b<=a->b<=2000:=ag [a,b] 0x7d07100001006000007d0700062
theorem Nb:a=b+1->c<=d*2001->b<=2000->a+c<=d*2001+2001:=ag [a,b,c,d] 0x7d17000007d173042200020000007d071006000007d1730420061110200264
theorem Yz:a<=2000->b<=5000000->c<=a->b+1+c<=16777216:=ag [a,b,c] 0x10000007201110220002006004c4b4071006000007d0700063
theorem Nc:a<b->4+2*a<4+2*b:=ag [a,b] 0x102144120021441211000162
theorem YA:a<=5000000->a<=16777216:=ag [a] 0x10000007000004c4b40700061
theorem YB:a<=1000/\b<=1000/\c<=1000->d<=5000->e<=5000->4+d+2+e+3+c<=16777216:=ag [a,b,c,d,e] 0x1000000720314021304122222000001388740060000138873006000003e87200000003e871004000003e87000465
theorem YC:a<=5000->b<=5000->4+a+2+b+3<=16777216:=ag [a,b] 0x10000007311021004122220000013887100600001388700062
theorem YD:a<=5000->b<=5000->4+a+2+b<=16777216:=ag [a,b] 0x10000007102100412220000013887100600001388700062
theorem Nd:a<=2000->a<=2000:=ag [a] 0x7d07000000007d0700061
theorem YE:a<=5000->4+a+2<=16777216:=ag [a] 0x1000000721004122000001388700061
theorem YF:a<=5000->4+a<=16777216:=ag [a] 0x1000000700412000001388700061
theorem Nf:a<=2000->b<=a->c<=b->c<=2000:=ag [a,b,c] 0x7d07200102006001006000007d0700063
theorem Ng:a<b->4+2*a<5+2*b/\4+2*b<5+2*b/\3<5+2*b/\2<5+2*b/\1<5+2*b/\0<5+2*b:=ag [a,b] 0x102145120111021451211141021451221141021451231141021451210214412141021451200214412141000162
theorem Fr:a<=2000->b<=a->b<=1000000:=ag [a,b] 0xf42407100001006000007d0700062
theorem YG:a<b->5+2*a<4+2*b:=ag [a,b] 0x102144120021451211000162
theorem YH:min a b*2001<=2000*2001->c<=min a b*2001->c<=5000000:=ag [a,b,c] 0x4c4b407200000007d171000642006000007d17000007d074000007d17100064063
theorem YI:a<=2000->b<=a->min c b<=2000:=ag [a,b,c] 0x7d07102060001006000007d0700063
theorem YJ:2<=5+2*a:=ag [a] 142892736769
theorem YK:3+1<=5+2*a:=ag [a] 585288633225729
theorem Nh:a=4+2*b->2<=a+c:=ag [a,b,c] 0x200022101021441200263
theorem Nj:a<4->a<4+2*b:=ag [a,b] 0x102144120014100162
theorem YL:2<=4+2*a:=ag [a] 142875959553
theorem Fs:a<=2000->a<=16777216:=ag [a] 0x10000007000000007d0700061
theorem Ft:a<b->b<=2000->c<=a->c<=2000:=ag [a,b,c] 0x7d07200002006000007d0710061000163
theorem YM:a<=2000->a+1<=2001:=ag [a] 0x7d17110020000007d0700061
theorem YN:a<=2->a<=4+2*b:=ag [a,b] 0x102144120002100062
theorem YO:a+b<=2*c->c<=1000->a+b<=2000:=ag [a,b,c] 0x7d07100020000003e8720062021410002063
theorem YP:min (a-b) (c-b)<=c:=ag [a,b,c] 0x201020310003603
theorem YQ:a<=1000->a+1<=1001:=ag [a] 0x3e97110020000003e8700061
theorem YR:319<=a->a≠319->a≠320->a≠321->322<=a:=ag [a] 0x1427000000141700236000001407002360000013f700236000000013f7061
theorem Nk:a<=1000000->a<=16777216:=ag [a] 0x10000007000000f4240700061
theorem YS:a*901<=900*901->b<=a*901->2+b<=1000000:=ag [a,b] 0xf4240710212000000385700410060000038570000038474000003857004062
theorem YT:a<=900->b<=a->b+1<=901:=ag [a,b] 0x385711102000100600000384700062
theorem YU:a<=2000->b<=2000->b+1+a<=16777216:=ag [a,b] 0x10000007001110220000007d071006000007d0700062
theorem YV:a<=2000->a+1<=16777216:=ag [a] 0x10000007110020000007d0700061
theorem YW:a<=2000->a+2<=16777216:=ag [a] 0x10000007210020000007d0700061
theorem YX:a<=100->a<=1000:=ag [a] 0x3e8700000000064700061
theorem YY:a<=2*b->b<=100->a<=900:=ag [a,b] 0x384700000000064710061021400062
theorem YZ:a<=22->b<=22->1+b+1+a<=16777216:=ag [a,b] 0x10000007001110112220000000167100600000016700062
theorem Nl:a<=22->1+a+1<=16777216:=ag [a] 0x1000000711001122000000016700061
theorem AW:a<=22->1+a<=16777216:=ag [a] 0x1000000700112000000016700061
theorem Y0:a<=22->b<=22->a+1+b<=16777216:=ag [a,b] 0x10000007101100220000000167100600000016700062
theorem Nm:a<=22->a+1<=16777216:=ag [a] 0x1000000711002000000016700061
theorem xS:a<=11->a<=1000:=ag [a] 0x3e87000b100061
theorem Fu:a<=22->a<=1000:=ag [a] 0x3e8700000000016700061
theorem Y1:a<=22->b<=22->1+b+1+a<200:=ag [a,b] 0xc87001110112221000000167100600000016700062
theorem Y2:a<=22->b<=22->a+1+b<64:=ag [a,b] 0x407101100221000000167100600000016700062
theorem Y3:a<=22->b<=22->c<=30->c+a+(1+b)<=16777216:=ag [a,b,c] 0x100000071011200202200000001e72006000000167100600000016700063
theorem Nn:a<=22->1+a<=1000000:=ag [a] 0xf4240700112000000016700061
theorem No:a<=22->b<=30->b+a<=16777216:=ag [a,b] 0x100000070010200000001e7100600000016700062
theorem Fv:a<=22->a<=1000000:=ag [a] 0xf4240700000000016700061
theorem Y4:a<=30->a<=1000000:=ag [a] 0xf424070000000001e700061
theorem Y5:a<=22->1+a+1<=30:=ag [a] 0x1e711001122000000016700061
theorem Y6:a<=22->b<=22->c<=30->c+b+(1+a)<=16777216:=ag [a,b,c] 0x100000070011210202200000001e72006000000167100600000016700063
theorem Y7:a<=22->a+1+1<=30:=ag [a] 0x1e711110022000000016700061
theorem Y8:a<=22->a+1+1<=16777216:=ag [a] 0x1000000711110022000000016700061
theorem Y9:a<=22->a+1<=1000000:=ag [a] 0xf4240711002000000016700061
theorem Za:a=10->a<=10:=ag [a] 0xa1000a100261
theorem vX:a<=22->a<=16777216:=ag [a] 0x1000000700000000016700061
theorem Zb:a<=2*b->b<=11->a<=900:=ag [a,b] 0x3847000b110061021400062
theorem Fw:a<=11->a<=1000000:=ag [a] 0xf42407000b100061
theorem Np:a<=11->a<=16777216:=ag [a] 0x10000007000b100061
theorem Zc:a<=2->a<=1000:=ag [a] 0x3e870002100061
theorem Zd:a<=11->a<200:=ag [a] 0xc87001b100061
theorem Nq:a<=11->a<64:=ag [a] 0x407001b100061
theorem Ze:a<=2*b->b<=22->a<=900:=ag [a,b] 0x384700000000016710061021400062
theorem Zf:a<=22->a<200:=ag [a] 0xc8700100000016700061
theorem Zg:a<=22->a<64:=ag [a] 0x40700100000016700061
theorem Zh:a<=44->a<=1000:=ag [a] 0x3e870000000002c700061
theorem Zi:a<=2*b->b<=44->a<=900:=ag [a,b] 0x38470000000002c710061021400062
theorem Fx:a<=22->a+a<=16777216:=ag [a] 0x1000000700002000000016700061
theorem Zj:a<=22->a+a<200:=ag [a] 0xc8700002100000016700061
theorem Zk:a<=22->a+a<=44:=ag [a] 0x2c700002000000016700061
theorem Zl:a<=2*b/\c<=2*b->b<=11->a<=22:=ag [a,b,c] 0x167000b110061021420010214000463
theorem Zm:a<=2*b/\c<=2*b->b<=11->c<=22:=ag [a,b,c] 0x167200b110061021420010214000463
theorem Nr:a<=30->a<=16777216:=ag [a] 0x100000070000000001e700061
theorem Zn:a<=2*b/\c<=2*b->b<=11->d<=2->c+(d-1)<=30:=ag [a,b,c,d] 0x1e7113032020213006b110061021420010214000464
theorem Zo:a<=2*b/\c<=2*b->b<=11->d<=2->a+(d-1)<=30:=ag [a,b,c,d] 0x1e7113030020213006b110061021420010214000464
theorem Nt:a<=2*b/\c<=2*b->b<=11->c<=16777216:=ag [a,b,c] 0x10000007200b110061021420010214000463
theorem Zp:a<=2*b/\c<=2*b->b<=11->a<=16777216:=ag [a,b,c] 0x10000007000b110061021420010214000463
theorem Zq:a<=11->min b a<=11:=ag [a,b] 0xb1001060b100062
theorem Zr:a<=2*b/\c<=2*b->d<=2->e<=2->d+a<=2*(b+1)/\e+c<=2*(b+1):=ag [a,b,c,d,e] 0x111022142040201110221400302042140062130061021420010214000465
theorem Fy:a<64->a<=16777216:=ag [a] 0x1000000700000000040700161
theorem Zs:a<=66->a<=16777216:=ag [a] 0x1000000700000000042700061
theorem Zt:a<=33->a<=1000000:=ag [a] 0xf4240700000000021700061
theorem Nu:a<=11->b<=22->a+b<=16777216:=ag [a,b] 0x100000071000200000001671006b100062
theorem Zu:a<=33->a<=8000000:=ag [a] 0x7a1200700000000021700061
theorem Zv:a<=b*2->b<=33->a<=66:=ag [a,b] 0x42700000000021710062110400062
theorem Zw:a<=11->b<=22->a+b<=33:=ag [a,b] 0x2171000200000001671006b100062
theorem Zx:a<=11->a<=8000000:=ag [a] 0x7a12007000b100061
theorem Nv:a<=b*2->b<=11->a<=22:=ag [a,b] 0x167000b110062110400062
theorem Zy:a<=b*1->b<=11->a<=16777216:=ag [a,b] 0x10000007000b110061110400062
theorem Zz:a<=11->b<=a->b<=1000000:=ag [a,b] 0xf42407100001006b100062
theorem ZA:a<=6->0+1+1+1+1+1+a+(0+1)<=16777216:=ag [a] 0x100000071101200111111111101222222206100061
theorem ZB:a<=6->min b a<=6:=ag [a,b] 0x610010606100062
theorem ZC:a<=63->a<=16777216:=ag [a] 0x100000070000000003f700061
theorem ZD:min 6 a<=6:=ag [a] 26038638081
theorem ZE:min (min 6 a) a=min 6 a:=ag [a] 0x6160000616621
theorem ZF:a<4->a<=1000:=ag [a] 0x3e870004100161
theorem Fz:a+b<=2*c->c<=1000->a+b<=16777216:=ag [a,b,c] 0x10000007100020000003e8720062021410002063
theorem ZG:a+b<=2*c->c<=1000->a<=16777216:=ag [a,b,c] 0x10000007000000003e8720062021410002063
theorem ZH:a+b<=2*c->c<=1000->b<=16777216:=ag [a,b,c] 0x10000007100000003e8720062021410002063
theorem ZI:a<=1000->a+1<=16777216:=ag [a] 0x10000007110020000003e8700061
theorem ZJ:a<=1000->min b a<=1000:=ag [a,b] 0x3e87001060000003e8700062
theorem ZK:a+(b+1)+2*c<=a+b+2*(c+1):=ag [a,b,c] 0x112022141000222021411102002203
theorem FA:a<b+(0+1)->¬a<b->a=b:=ag [a,b] 0x1000210001361101210200162
theorem ZL:a-1<b->a<=b:=ag [a,b] 72057663042629986
theorem ZM:a+200*(b+1)<=9000->c<=5->a+c+200*b<=9000:=ag [a,b,c] 0x2328710000000c874200022051200600002328711102000000c874002063
theorem Nw:a+10*(b+1)<=900->a+1+10*b<=900:=ag [a,b] 0x384710a14110022000000384711102a14002062
theorem ZN:a<b->c=d->e=b->d+a<c+e:=ag [a,b,c,d,e] 0x402020030211040263020261000165
theorem ZO:a=b->a<=b+c:=ag [a,b,c] 0x201020001000263
theorem ZP:a=b->c<=2*a->b<=8000000->c<=16777216:=ag [a,b,c] 0x10000007200007a1200710060021420061000263
theorem ZQ:a+b=c->d<=2*a->c<=8000000->d<=16777216:=ag [a,b,c,d] 0x10000007300007a1200720060021430062010002264
theorem ZR:128<=a->¬(a=32\/a=35\/a=36\/a=38\/a=40\/a=41\/a=42\/a=43\/a=45\/a=46\/a=63):=ag [a] 0x3f70020000002e700250000002d700250000002b700250000002a70025000000297002500000028700250000002670025000000247002500000023700250000002070025300000000807061
theorem ZS:128<=a->¬a<=126:=ag [a] 0x7e7000300000000807061
theorem ZT:128<=a->¬a<=94:=ag [a] 0x5e7000300000000807061
theorem ZU:128<=a->¬a<=13:=ag [a] 0xd1000300000000807061
theorem ZV:a<=b->a<=min a b:=ag [a,b] 72064191124471906
theorem ZW:¬a<b+c->d=b->d+c<=a:=ag [a,b,c,d] 0x20302010302620102001364
theorem ZX:¬a<b->c=d->b+(c-d)<=a:=ag [a,b,c,d] 0x30203102030202610001364
theorem Nx:¬a<b->c=b->c<=a:=ag [a,b,c] 0x20010202610001363
theorem ZY:a<b->a<b+c:=ag [a,b,c] 0x201020011000163
theorem Ny:¬a<b-c->b<=c+a:=ag [a,b,c] 0x20210020103001363
theorem FB:a<=b->min a b=a:=ag [a,b] 281501300162658
theorem ZZ:a<b->a<c\/c<=a/\a<c+(b-c):=ag [a,b,c] 0x201032020010020042000151000163
theorem Z0:a<=b->a<=b+c:=ag [a,b,c] 0x201020001000063
theorem Z1:a=b-c+d->c<=b->c+a=b+d:=ag [a,b,c,d] 0x301020020221020063020103200264
theorem Z2:a<=b->¬b+c<a:=ag [a,b,c] 9024933996789859
theorem Z3:a<b+(c-b)->b<=c->a≠c+d:=ag [a,b,c,d] 0x3020200232010061020310200164
theorem Z4:a+b=a+c->b=c:=ag [a,b,c] 0x201022000210002263
theorem Z5:a<b->a<c+(b-c):=ag [a,b,c] 0x201032020011000163
theorem Z6:a<=1000000->a+1<=16777216:=ag [a] 0x10000007110020000f4240700061
theorem Z7:a+200*b<=9000->c<=b->a+200*c<=9000:=ag [a,b,c] 0x2328720000000c874002010200600002328710000000c874002063
theorem Z8:a+10*b<=900->c<=b->a+10*c<=900:=ag [a,b,c] 0x384720a14002010200600000384710a14002063
theorem Z9:¬a<b->b+(a-b)=a:=ag [a,b] 0x10003102210001362
theorem aaa:a+200*(b+1)<=9000->a+1+200*b<=9000:=ag [a,b] 0x2328710000000c874110022000002328711102000000c874002062
theorem aab:a+10*(b+1)<=900->a+10*b<=900:=ag [a,b] 0x384710a14002000000384711102a14002062
theorem aac:a+200*(b+1)<=9000->a+3+200*b<=9000:=ag [a,b] 0x2328710000000c874310022000002328711102000000c874002062
theorem aad:a<64->b=a->b<64:=ag [a,b] 0x40710100102600000040700162
theorem aae:a<64->a<=16777216+1:=ag [a] 0x11010000007200000000040700161
theorem aaf:¬a<2->1<=a:=ag [a] 1168784757601
theorem aag:a<2->a<=16777216+1:=ag [a] 0x1101000000720002100161
theorem aah:a=b->b<=c->a<=c:=ag [a,b,c] 0x200002010061000263
theorem aai:a-b=0->a<=b:=ag [a,b] 72057598601343586
theorem Nz:a=b->a<=b+(c-d):=ag [a,b,c,d] 0x302031020001000264
theorem aaj:a=b+(a-b)->c=b->c<=a:=ag [a,b,c] 0x2001020261000310200263
theorem aak:¬a<b->a=b+(a-b):=ag [a,b] 0x1000310200210001362
theorem aal:a+b=c->d+(c-a)=d+b:=ag [a,b,c,d] 0x103020020330222010002264
theorem aam:a+(b-c)=a+(b+1-(c+1)):=ag [a,b,c] 0x112021110230022010300223
theorem FC:a<b->b-(a+1)<b-a:=ag [a,b] 0x1031100210311000162
theorem aan:a+b<=1000000->a<=1000000:=ag [a,b] 0xf42407000000f4240710002062
theorem aao:a=b+c->a<=1000000->b<=1000000:=ag [a,b,c] 0xf42407100000f4240700062010200263
theorem aap:a+(b+1)=a+1+b:=ag [a,b] 0x101100221110200222
end
end Mine
namespace Mine
open PySem.W
noncomputable def FD.{aiA}{α:Type aiA}(p:α->bb)(as:bD α)(start stop:B):bb:=
 match Ap start 0&&Ap stop as.size with
 |true=>as.toList.any p
 |false=>as.any p start stop
noncomputable def anyOf.{aiA}{α:Type aiA}(as:bD α)(p:α->bb)(start:B:=0)(stop:B:=as.size):bb:=FD p as start stop
theorem any_eq.{aiA}:@bD.any.{aiA}=@anyOf.{aiA}:=by
 funext α as p start stop;show as.any p start stop=FD p as start stop;unfold FD;cases h:(Ap start 0&&Ap stop as.size) with
 |false=>rfl
 |true=>
  obtain⟨G,h2⟩:=fc.mp h;have e1:=Kg G;have e2:=Kg h2;subst e1 e2;simp
noncomputable def AX:tS:=by
 refine(λ(_:gF)=>?b) (by
  have e:tS.«type.__new__»=?b:=by
   delta tS.«type.__new__»;rw[any_eq.{0}]
  exact trivial)
theorem aaq:tS.«type.__new__»=AX:=by
 delta tS.«type.__new__» AX;rw[any_eq.{0}]
theorem TTr:@iw=@iw:=rfl
name_quick TTq for iw by Mine.TTr
noncomputable def tb(id:dm):bC tS:=match id=="type.__new__" with
 |true=>some AX
 |false=>PySem.W.Fast.TTq id
theorem aar:iw "type.__new__"=some tS.«type.__new__»:=by kernel_rfl
theorem tb_eq:iw=tb:=by
 funext id;show iw id=match id=="type.__new__" with
 |true=>some AX
 |false=>PySem.W.Fast.TTq id
 generalize h:(id=="type.__new__")=b;cases b with
 |false=>exact fq PySem.W.Fast.TTq_eq id
 |true=>
  have e:=eq_of_beq h;exact(bB iw e).trans<|aar.trans<|bB some aaq
noncomputable def eC(i:B):r0:=match oJ.main.body[i]? with
 |some s=>s
 |none=>.Pass ⟨0,0,0,0⟩
noncomputable def NA{α:Type}(s:r0)(aiC:Ar->J Eg->J PySem.Keyword->J r0->J Eg->J PySem.TypeParam->Ed->bC Ed->Ar->J Ar->PySem.Pos->α)(d:α):α:=match s with
 | .ClassDef a b c l e g h i j m n=>aiC a b c l e g h i j m n
 |_=>d
noncomputable def NB(s:r0):J r0:=NA s (λH H H b H H H H H H H=>b) []
noncomputable def aas(i j:B):r0:=(NB<|eC i)[j]?.getD<|.Pass ⟨0,0,0,0⟩
noncomputable def AY:J B->r0
 | [i]=>eC i
 | [i,j]=>aas i j
 |_=>.Pass ⟨0,0,0,0⟩
noncomputable def fBody(p:J B):J r0:=match AY p with
 | .FunctionDef _ _ b .. =>b
 |_=>[]
noncomputable def fArgs(p:J B):PySem.Arguments:=match AY p with
 | .FunctionDef _ a .. =>a
 |_=>⟨[],[],none,[],[],none,[]⟩
noncomputable def fScope(p:J B):Ed:=match AY p with
 | .FunctionDef _ _ _ _ _ _ s _ _ _=>s
 |_=>default
noncomputable def ib(p:J B):Ar:=(PySem.docOf<|fBody p++NB (AY p)).getD default
open PySem
noncomputable def enc(l:J Char):B:=J.rec id (λc H e n=>B.casesOn (n*128+c.toNat) 0 λm=>e<|m+1) l.reverse 1
noncomputable def dec:B->B->J Char:=B.rec (λH=>[]) λH d n=>B.casesOn (n.div 128) [] λm=>Char.ofNat (n.mod 128)::d (m+1)
noncomputable def pick(b:B)(_:gF):J Char:=dec 4000 b.succ
noncomputable def FE:J Char:=by
 refine pick ?b ((λH H=>trivial:ib [5]=ib [5]->Aq ?b=Aq ?b->gF) (by exact(by rfl:ib [5]=ft (Li ?l)))<|by exact(by rfl:Aq ?b=enc ?l))
noncomputable abbrev FG:ao:=⟨(FE.map Char.toNat).toArray⟩
theorem D5e:ib [5]=FG:=(by kernel_rfl:ib [5]=ft (Li FE)).trans<|Fast.ofString_ofList FE
noncomputable def S5(d:ao):eX:=NA (eC 5) (λa b c l e aiC g h i j m=>.ClassDef a b c (.Expr (.Constant (.str d) 0 ⟨71,4,143,7⟩) ⟨71,4,143,7⟩::l.tail) e aiC g h i j m)<|eC 5
theorem S5e:eC 5=S5 FG:=xI (by kernel_rfl:eC 5=S5 (ib [5]))<|bB S5 D5e
noncomputable abbrev so:=ft
noncomputable abbrev vs(s:dm)(n:B):ak:=.str (so s) n
noncomputable abbrev vr(n:B):ak:=.ref n
noncomputable abbrev vi(z:az)(n:B):ak:=.int z n
noncomputable abbrev vt(s:dm):ak:=.type s
noncomputable abbrev vn:ak:=.none
noncomputable abbrev vb:ak:=.bool true
noncomputable abbrev vf:ak:=.bool false
noncomputable abbrev vc(n:B):ak:=vs "/claim/cut.py" n
noncomputable abbrev m1:ak:=vs "cpy313.difflib" 194
noncomputable abbrev m2:ak:=vs "cpy313.re" 648
noncomputable abbrev m3:ak:=vs "law_we0038_01" 804
noncomputable abbrev bm:="builtin_function_or_method"
noncomputable abbrev ob(c:ak)(d:Data):bc:=.mk c none d #[]
noncomputable abbrev of(c:ak)(v:bD ak):bc:=ob c<|.fields v
noncomputable abbrev tu(v:bD ak):bc:=ob (vt "tuple")<|.seq v 0
noncomputable abbrev cd(v:bD ak):bc:=of (vt "code") v
noncomputable abbrev fi(v:bD ak):bc:=of vn v
noncomputable abbrev fo(aiC:lD):bc:=ob (vt "function")<|.func aiC
noncomputable abbrev fp(aiC:lD):bc:=ob vn<|.func aiC
noncomputable abbrev fm(a b:dm)(p:J B):=lD.mk (so a) (so b) (fArgs p) (.stmts<|fBody p)<|fScope p
noncomputable abbrev AZ(c l:B)(m:ak):bc:=.mk (vt "frame") none .plain #[some<|vr c,some<|vr 3,some<|vr l,none,some m,none,some<|vr 0]
noncomputable def vl:B->J dm->J ak
 |_,[]=>[]
 |t,s::l=>vs s t::vl (t+1) l
noncomputable abbrev A0(P:aP)(c:ak)(n:B)(l:J<|dm×B×ak):bc:=ob c<|.dict (l.map λx=>.mk (PyData.keyHash P<|so x.1) (vs x.1 x.2.1) x.2.2).toArray n
noncomputable abbrev dt(P:aP)(n:B)(l:J<|dm×B×ak):bc:=A0 P (vt "dict") n l
noncomputable def di:B->J (az×dm)->J jz
 |_,[]=>[]
 |t,x::l=>.mk x.1 (vi x.1 t) (vs x.2<|t+4)::di (t+6) l
noncomputable abbrev cl(l:J<|dm×B×ak)(n:B):J (dm×B×ak):=(l.head?.toList++l.tail.tail).take n
noncomputable def Ba(s:dm)(t:B)(ln:az)(b:B):bc:=cd #[vs s t,vs s<|t+1,vc<|t+2,vi ln 0,vi 0 0,vi 0 0,vi 0 0,vi 0 0,vr b,vf,vi 181 0,vr<|b+1,vn,vn,vn,vn,vi (t+3) 0,vi ln 0,vc<|t+4]
noncomputable def fN(b t:B)(s q:dm)(p:J B)(ln ac kw fl:az)(ns:J dm)(df:ak)(doc:bb)(md:ak):J bc:=[tu #[],fi #[],tu (vl (t+3) ns).toArray,tu #[],fp<|fm s q p 0 [] vn vn vn vn none vn vn 0,cd #[vs s t,vs q<|t+1,vc<|t+2,vi ln 0,vi ac 0,vi kw 0,vi 0 0,vi fl 0,vr b,vb,vi 181 0,vr<|b+1,vn,vr<|b+2,vr<|b+3,vr<|b+4,vi (.ofNat<|t+3+U ns) 0,vi ln 0,vc<|t+4+U ns],fo<|fm s q p 3 [] df vn (match doc with|true=>.str (ib p) (t+5+U ns)|false=>vn) md none (vr<|b+5) vn 0]
noncomputable def NC:J (dm×B×ak):=[("__module__",203,m1),("__qualname__",205,vs "_tuplegetter" 204),("__firstlineno__",207,vi 5 206),("__init__",216,vr 35),("__get__",225,vr 43),("__set__",234,vr 50),("__delete__",242,vr 57),("__static_attributes__",245,vr 58)]
noncomputable def uo(P:aP):J bc:=fN 15 187 "_wall" "_wall" [0] 1 1 0 3 ["k"] vn false (vs "__main__" 164)++[tu #[],of (vt bm) #[lG "type.__prepare__",vt "type"],dt P 8 NC,tu #[],fi #[vi 7 0,vi 4 0,vr 34,vi 11 0,vi 4 0,vr 42,vi 18 0,vi 4 0,vr 49,vi 21 0,vi 4 0,vr 56],Ba "_tuplegetter" 198 5 25,AZ 27 24 m1]++fN 29 208 "__init__" "_tuplegetter.__init__" [2,0] 7 3 0 3 ["self","index","doc"] vn false m1++[tu #[vn]]++fN 37 217 "__get__" "_tuplegetter.__get__" [2,1] 11 3 0 3 ["self","obj","objtype"] (vr 36) false m1++fN 44 226 "__set__" "_tuplegetter.__set__" [2,2] 18 3 0 3 ["self","obj","value"] vn false m1++fN 51 235 "__delete__" "_tuplegetter.__delete__" [2,3] 21 2 0 3 ["self","obj"] vn false m1++[tu (vl 243 ["__doc__","index"]).toArray,dt P 4<|cl NC 7++[("__dict__",247,vr 61),("__weakref__",249,vr 62),("__doc__",250,vn)],t8 (vt "type") none (.cls<|.mk (so "_tuplegetter") [vt "object"] [vr 60,vt "object"] 59 (so "_tuplegetter") true [] [] false none false) #[none,none,(some<|vs "_tuplegetter" 196),(some<|vs "_tuplegetter" 204),(some<|lG "object.__new__"),(some vb)],of (vt "getset_descriptor") #[vs "__dict__" 246,vr 60,lG "function.__dict__",lG "function.__dict__#set"],of (vt "getset_descriptor") #[vs "__weakref__" 248,vr 60,lG "ExceptionGroup.__weakref__",vn],of (vt "super") #[vr 60,vr 60,vr 60],of (vt bm) #[lG "object.__init_subclass__",vr 60]]
noncomputable def ND:J (dm×B×ak):=[("__module__",260,m1),("__qualname__",262,vs "Match" 261),("__firstlineno__",264,vi 23 263),("__doc__",266,iX (ib [3]) 265),("__slots__",268,vr 73),("_fields",272,vr 74),("_field_defaults",273,vr 75),("__new__",284,vr 82),("_make",306,vr 91),("_replace",317,vr 100),("__replace__",318,vr 100),("__repr__",326,vr 107),("_asdict",333,vr 114),("__getnewargs__",341,vr 121),("__match_args__",345,vr 122),("a",355,vr 124),("b",365,vr 127),("size",375,vr 130),("__static_attributes__",376,vr 132),("__classcell__",377,vr 68)]
noncomputable def aat(_:aP):bc:=fo<|(fm "__new__" "Match.__new__" [3,4] 3 [] vn vn (iX (ib [3,4]) 283) m1 none (vr 81) vn 0)
noncomputable abbrev NE(P:aP):bc:=fo<|(fm "_make" "Match._make" [3,5] 3 [] vn vn (iX (ib [3,5]) 293) m1 (some 92) (vr 88) vn 0)
noncomputable abbrev Bb(P:aP):bc:=dt P 2<|cl ND 6++[("__new__",284,vr 136),("_make",306,vr 91),("_replace",317,vr 100),("__replace__",318,vr 100),("__repr__",326,vr 107),("_asdict",333,vr 114),("__getnewargs__",341,vr 121),("__match_args__",345,vr 122),("a",355,vr 124),("b",365,vr 127),("size",375,vr 130),("__static_attributes__",376,vr 132)]
noncomputable def vY(P:aP):J bc:=[tu #[vt "tuple"],of (vt bm) #[lG "type.__prepare__",vt "type"],dt P 20 ND,ob (vt "cell")<|Data.cell<|some<|vr 135,tu #[],fi #[vi 29 0,vi 4 0,vr 81,vi 34 0,vi 4 0,vr 88,vi 41 0,vi 4 0,vr 99,vi 52 0,vi 4 0,vr 106,vi 56 0,vi 4 0,vr 113,vi 59 0,vi 4 0,vr 120],Ba "Match" 255 23 69,AZ 71 67 m1,tu #[],tu (vl 269 ["a","b","size"]).toArray,dt P 0 []]++fN 76 274 "__new__" "Match.__new__" [3,4] 29 4 0 3 ["_cls","a","b","size"] vn true m1++[tu #[],fi #[],tu (vl 288 ["cls","iterable","result"]).toArray,tu #[],fp<|(fm "_make" "Match._make" [3,5] 0 [] vn vn vn vn none vn vn 0),cd #[vs "_make" 285,vs "Match._make" 286,vc 287,vi 33 0,vi 2 0,vi 0 0,vi 0 0,vi 3 0,vr 83,vb,vi 181 0,vr 84,vn,vr 85,vr 86,vr 87,vi 291 0,vi 33 0,vc 292],NE P,dt P 5 [("__module__",295,m1),("__name__",298,vs "_make" 297),("__qualname__",301,vs "Match._make" 300),("__doc__",303,iX (ib [3,5]) 293),("__annotations__",305,vr 92)],t8 (vt "classmethod") (some 90) (.fields #[vr 89,vf]) #[],dt P 0 [],tu #[vr 68],tu (vl 310 ["__class__"]).toArray,fi #[],tu (vl 311 ["self","kwds","result"]).toArray,tu #[],fp<|(fm "_replace" "Match._replace" [3,6] 0 [] vn vn vn vn none vn vn 0),cd #[vs "_replace" 307,vs "Match._replace" 308,vc 309,vi 41 0,vi 1 0,vi 1 0,vi 0 0,vi 11 0,vr 94,vb,vi 181 0,vr 95,vn,vr 96,vr 97,vr 98,vi 314 0,vi 41 0,vc 315],fo<|(fm "_replace" "Match._replace" [3,6] 3 [(EY (so "__class__") 68)] vn vn (iX (ib [3,6]) 316) m1 none (vr 99) (vr 93) 0)]++fN 101 319 "__repr__" "Match.__repr__" [3,8] 52 1 0 3 ["self"] vn true m1++fN 108 327 "_asdict" "Match._asdict" [3,9] 56 1 0 3 ["self"] vn false m1++fN 115 334 "__getnewargs__" "Match.__getnewargs__" [3,10] 59 1 0 3 ["self"] vn true m1++[tu (vl 342 ["a","b","size"]).toArray,dt P 2 [("index",352,vi 0 346),("__doc__",354,vs "Alias for field number 0" 347)],t8 (vr 60) (some 123) .plain #[],A0 P (vt "frame") 3 [("self",348,vr 124),("index",349,vi 0 346),("doc",350,vs "Alias for field number 0" 347)],dt P 2 [("index",362,vi 1 356),("__doc__",364,vs "Alias for field number 1" 357)],t8 (vr 60) (some 126) .plain #[],A0 P (vt "frame") 3 [("self",358,vr 127),("index",359,vi 1 356),("doc",360,vs "Alias for field number 1" 357)],dt P 2 [("index",372,vi 2 366),("__doc__",374,vs "Alias for field number 2" 367)],t8 (vr 60) (some 129) .plain #[],A0 P (vt "frame") 3 [("self",368,vr 130),("index",369,vi 2 366),("doc",370,vs "Alias for field number 2" 367)],tu #[],ob (vt "list")<|Data.seq #[] 0,Bb P,t8 (vt "type") none (.cls<|.mk (so "Match") [vt "tuple"] [vr 135,vt "tuple",vt "object"] 134 (so "Match") false [] [] false none false) #[(some<|vr 65),none,(some<|vs "Match" 253),(some<|vs "Match" 261),(some vn),(some vf)],of (vt "staticmethod") #[vr 82],of (vt "super") #[vr 135,vr 135,vr 135],of (vt bm) #[lG "object.__init_subclass__",vr 135]]
noncomputable def xU(P:aP):J bc:=fN 139 381 "_calculate_ratio" "_calculate_ratio" [4] 66 2 0 3 ["matches","length"] vn false m1
noncomputable def NH:J (dm×B×ak):=[("__module__",396,m1),("__qualname__",398,vs "SequenceMatcher" 397),("__firstlineno__",400,vi 70 399),("__doc__",402,iX FG 401),("__init__",417,vr 160),("set_seqs",427,vr 167),("set_seq1",436,vr 174),("set_seq2",445,vr 181),("_SequenceMatcher__chain_b",463,vr 188),("find_longest_match",491,vr 196),("get_matching_blocks",518,vr 203),("get_opcodes",533,vr 210),("get_grouped_opcodes",551,vr 218),("ratio",560,vr 225),("quick_ratio",567,vr 232),("real_quick_ratio",574,vr 239),("__static_attributes__",585,vr 240)]
noncomputable abbrev FH(P:aP):bc:=tu #[vn,vs "" 404,vs "" 405,vb]
noncomputable def aau(_:aP):bc:=fo<|(fm "__init__" "SequenceMatcher.__init__" [5,1] 3 [] (vr 153) vn (iX (ib [5,1]) 416) m1 none (vr 159) vn 0)
noncomputable def aav(_:aP):bc:=fo<|(fm "set_seqs" "SequenceMatcher.set_seqs" [5,2] 3 [] vn vn (iX (ib [5,2]) 426) m1 none (vr 166) vn 0)
noncomputable def aaw(_:aP):bc:=fo<|(fm "set_seq1" "SequenceMatcher.set_seq1" [5,3] 3 [] vn vn (iX (ib [5,3]) 435) m1 none (vr 173) vn 0)
noncomputable def aax(_:aP):bc:=fo<|(fm "set_seq2" "SequenceMatcher.set_seq2" [5,4] 3 [] vn vn (iX (ib [5,4]) 444) m1 none (vr 180) vn 0)
noncomputable def aay(_:aP):bc:=fo<|(fm "__chain_b" "SequenceMatcher.__chain_b" [5,5] 3 [] vn vn vn m1 none (vr 187) vn 0)
noncomputable abbrev FI(P:aP):bc:=tu #[vi 0 464,vn,vi 0 465,vn]
noncomputable def aaz(_:aP):bc:=fo<|(fm "find_longest_match" "SequenceMatcher.find_longest_match" [5,6] 3 [] (vr 189) vn (iX (ib [5,6]) 490) m1 none (vr 195) vn 0)
noncomputable def aaA(_:aP):bc:=fo<|(fm "get_matching_blocks" "SequenceMatcher.get_matching_blocks" [5,7] 3 [] vn vn (iX (ib [5,7]) 517) m1 none (vr 202) vn 0)
noncomputable def aaB(_:aP):bc:=fo<|(fm "get_opcodes" "SequenceMatcher.get_opcodes" [5,8] 3 [] vn vn (iX (ib [5,8]) 532) m1 none (vr 209) vn 0)
noncomputable abbrev Bc(P:aP):bc:=tu #[vi 3 534]
noncomputable def Bd(_:aP):bc:=fo<|(fm "get_grouped_opcodes" "SequenceMatcher.get_grouped_opcodes" [5,9] 3 [] (vr 211) vn (iX (ib [5,9]) 550) m1 none (vr 217) vn 0)
noncomputable abbrev Be(P:aP):bc:=dt P 3<|cl NH 16++[("__dict__",587,vr 243),("__weakref__",589,vr 244)]
noncomputable def Bf(P:aP):J bc:=[tu #[],of (vt bm) #[lG "type.__prepare__",vt "type"],dt P 17 NH,tu #[],fi #[vi 145 0,vi 4 0,vr 159,vi 173 0,vi 4 0,vr 166,vi 184 0,vi 4 0,vr 173,vi 209 0,vi 4 0,vr 180,vi 236 0,vi 4 0,vr 187,vi 260 0,vi 4 0,vr 195,vi 335 0,vi 4 0,vr 202,vi 383 0,vi 4 0,vr 209,vi 430 0,vi 4 0,vr 217,vi 475 0,vi 4 0,vr 224,vi 499 0,vi 4 0,vr 231,vi 502 0,vi 4 0,vr 238],Ba "SequenceMatcher" 391 70 149,AZ 151 148 m1,FH P]++fN 154 406 "__init__" "SequenceMatcher.__init__" [5,1] 145 5 0 3 ["self","isjunk","a","b","autojunk"] (vr 153) true m1++fN 161 418 "set_seqs" "SequenceMatcher.set_seqs" [5,2] 173 3 0 3 ["self","a","b"] vn true m1++fN 168 428 "set_seq1" "SequenceMatcher.set_seq1" [5,3] 184 2 0 3 ["self","a"] vn true m1++fN 175 437 "set_seq2" "SequenceMatcher.set_seq2" [5,4] 209 2 0 3 ["self","b"] vn true m1++fN 182 446 "__chain_b" "SequenceMatcher.__chain_b" [5,5] 236 1 0 3 ["self","b","b2j","i","elt","indices","junk","isjunk","popular","n","ntest","idxs"] vn false m1++[FI P]++fN 190 466 "find_longest_match" "SequenceMatcher.find_longest_match" [5,6] 260 5 0 3 ["self","alo","ahi","blo","bhi","a","b","b2j","isbjunk","besti","bestj","bestsize","j2len","nothing","i","j2lenget","newj2len","j","k"] (vr 189) true m1++fN 197 492 "get_matching_blocks" "SequenceMatcher.get_matching_blocks" [5,7] 335 1 0 3 ["self","la","lb","queue","matching_blocks","alo","ahi","blo","bhi","i","j","k","x","i1","j1","k1","non_adjacent","i2","j2","k2"] vn true m1++fN 204 519 "get_opcodes" "SequenceMatcher.get_opcodes" [5,8] 383 1 0 3 ["self","i","j","answer","ai","bj","size","tag"] vn true m1++[Bc P]++fN 212 535 "get_grouped_opcodes" "SequenceMatcher.get_grouped_opcodes" [5,9] 430 2 0 35 ["self","n","codes","tag","i1","i2","j1","j2","nn","group"] (vr 211) true m1++fN 219 552 "ratio" "SequenceMatcher.ratio" [5,10] 475 1 0 3 ["self","matches"] vn true m1++fN 226 561 "quick_ratio" "SequenceMatcher.quick_ratio" [5,11] 499 1 0 3 ["self"] vn false m1++fN 233 568 "real_quick_ratio" "SequenceMatcher.real_quick_ratio" [5,12] 502 1 0 3 ["self"] vn false m1++[tu (vl 575 ["a","autojunk","b","b2j","bjunk","bpopular","fullbcount","isjunk","matching_blocks","opcodes"]).toArray,Be P,t8 (vt "type") none (.cls<|.mk (so "SequenceMatcher") [vt "object"] [vr 242,vt "object"] 241 (so "SequenceMatcher") true [] [] false none false) #[none,none,(some<|vs "SequenceMatcher" 389),(some<|vs "SequenceMatcher" 397),(some<|lG "object.__new__"),(some vb)],of (vt "getset_descriptor") #[vs "__dict__" 586,vr 242,lG "function.__dict__",lG "function.__dict__#set"],of (vt "getset_descriptor") #[vs "__weakref__" 588,vr 242,lG "ExceptionGroup.__weakref__",vn],of (vt "super") #[vr 242,vr 242,vr 242],of (vt bm) #[lG "object.__init_subclass__",vr 242]]
noncomputable def aaC(_:aP):bc:=fo<|(fm "_format_range_unified" "_format_range_unified" [6] 3 [] vn vn (iX (ib [6]) 601) m1 none (vr 252) vn 0)
noncomputable abbrev Bg(P:aP):bc:=tu #[vs "" 603,vs "" 604,vs "" 605,vs "" 606,vi 3 607,vs "\n" 608]
noncomputable def xV(_:aP):bc:=fo<|(fm "unified_diff" "unified_diff" [7] 3 [] (vr 254) vn (iX (ib [7]) 636) m1 none (vr 260) vn 0)
noncomputable def aaD(_:aP):bc:=fo<|(fm "_check_types" "_check_types" [8] 3 [] vn vn vn m1 none (vr 267) vn 0)
noncomputable def FJ(P:aP):J bc:=fN 247 592 "_format_range_unified" "_format_range_unified" [6] 504 2 0 3 ["start","stop","beginning","length"] vn true m1++[Bg P]++fN 255 609 "unified_diff" "unified_diff" [7] 513 8 0 35 ["a","b","fromfile","tofile","fromfiledate","tofiledate","n","lineterm","started","group","fromdate","todate","first","last","file1_range","file2_range","tag","i1","i2","j1","j2","line"] (vr 254) true m1++fN 262 638 "_check_types" "_check_types" [8] 576 2 0 7 ["a","b","args","arg"] vn false m1
noncomputable abbrev Bh(P:aP):bc:=ob (vt "dict")<|.dict (di 651 [(40,"\\("),(41,"\\)"),(91,"\\["),(93,"\\]"),(123,"\\{"),(125,"\\}"),(63,"\\?"),(42,"\\*"),(43,"\\+"),(45,"\\-"),(124,"\\|"),(94,"\\^"),(36,"\\$"),(92,"\\\\"),(46,"\\."),(38,"\\&"),(126,"\\~"),(35,"\\#"),(32,"\\ "),(9,"\\\t"),(10,"\\\n"),(13,"\\\x0d"),(11,"\\\x0b"),(12,"\\\x0c")]).toArray 24
noncomputable def NI(P:aP):J bc:=[of (vt "bytes_iterator") #[vn,vi 24 0],Bh P,dt P 2 [],tu #[],of (vt "StopIteration") #[vr 272,vn,vn,vn,vf,vn]]
noncomputable def aaE(_:aP):bc:=fo<|(fm "escape" "escape" [11] 3 [] vn vn (iX (ib [11]) 802) m2 none (vr 279) vn 0)
noncomputable def NJ(_:aP):bc:=fo<|(fm "_law_text" "_law_text" [13] 3 [] vn vn vn m3 none (vr 286) vn 0)
noncomputable def aaF(_:aP):bc:=fo<|(fm "_law_special" "_law_special" [14] 3 [] vn vn vn m3 none (vr 293) vn 0)
noncomputable def aaG(_:aP):bc:=fo<|(fm "_law_rows" "_law_rows" [15] 3 [] vn vn vn m3 none (vr 300) vn 0)
noncomputable def aaH(_:aP):bc:=fo<|(fm "_law_range" "_law_range" [16] 3 [] vn vn vn m3 none (vr 307) vn 0)
noncomputable abbrev xW(P:aP):bc:=fo<|(fm "_law_report" "_law_report" [17] 3 [] vn vn vn m3 none (vr 312) vn 0)
noncomputable abbrev sv(P:aP):bc:=fo<|(fm "law" "law" [18] 3 [] vn vn vn m3 none (vr 317) vn 0)
noncomputable def Gg6(P:aP):J bc:=fN 274 796 "escape" "escape" [11] 586 1 0 3 ["pattern"] vn true m2++fN 281 806 "_law_text" "_law_text" [13] 596 1 0 3 ["script","text","number","way","rest","code"] vn false m3++fN 288 818 "_law_special" "_law_special" [14] 612 1 0 3 ["sign","code"] vn false m3++fN 295 826 "_law_rows" "_law_rows" [15] 617 1 0 3 ["steps","rows","coming","old","new"] vn false m3++fN 302 837 "_law_range" "_law_range" [16] 630 2 0 3 ["start","size"] vn false m3++[tu #[],fi #[],fp<|(fm "_law_report" "_law_report" [17] 0 [] vn vn vn vn none vn vn 0),cd #[vs "_law_report" 845,vs "_law_report" 846,vc 847,vi 636 0,vi 4 0,vi 0 0,vi 0 0,vi 3 0,vr 309,vb,vi 181 0,vr 310,vn,vn,vn,vr 311,vi 848 0,vi 636 0,vc 849],xW P,tu #[],fi #[],fp<|(fm "law" "law" [18] 0 [] vn vn vn vn none vn vn 0),cd #[vs "law" 851,vs "law" 852,vc 853,vi 656 0,vi 1 0,vi 0 0,vi 0 0,vi 3 0,vr 314,vb,vi 181 0,vr 315,vn,vn,vn,vr 316,vi 854 0,vi 656 0,vc 855],sv P]
noncomputable def e3:J (dm×B×ak):=[("__doc__",166,vn),("__package__",167,vn),("__loader__",168,lG "__main__.__loader__#opaque"),("__spec__",169,vn),("__annotations__",170,vr 6),("__builtins__",171,vr 4),("__file__",173,vc 172),("__cached__",174,vn),("_wall",193,vr 21),("_tuplegetter",252,vr 60),("Match",380,vr 135),("_calculate_ratio",388,vr 145),("SequenceMatcher",591,vr 242),("_format_range_unified",602,vr 253),("unified_diff",637,vr 261),("_check_types",647,vr 268),("_special_chars_map",795,vr 270),("escape",803,vr 280),("_law_text",817,vr 287),("_law_special",825,vr 294),("_law_rows",836,vr 301),("_law_range",844,vr 308),("_law_report",850,vr 313),("law",856,vr 318)]
noncomputable def aaI(l:J<|az×B):J ak:=l.flatMap λx=>[vi x.1 0,vi 0 0,vr x.2]
noncomputable def e12:J (az×B):=[(1,20),(5,27),(23,71),(66,144),(70,151),(504,252),(513,260),(576,267),(586,279),(596,286),(612,293),(617,300),(630,307),(636,312),(656,317)]
noncomputable abbrev FK:Life:=.mk [] [] [] 0 [] [] false #[] [] 0 false false false 0 [2000,10,10] false 0 true [] [] 0 false
noncomputable def al:bb->J bc->J bc
 |_,[]=>[]
 |true,x::l=>x::al false l
 |false,_::l=>al true l
noncomputable def FL:B->J bc->BT
 |0,_=>.nil
 |_,[]=>.nil
 |n+1,x::l=>.node x (FL n<|al true l)<|FL n<|al false l
noncomputable def hl(P:aP)(x y:bc)(l:J bc):J bc:=[boot_o_0 P,boot_o_1 P,boot_o_2 P,x,boot_o_4 P,boot_o_5 P,boot_o_6 P,boot_o_7 P,boot_o_8 P,boot_o_9 P,boot_o_10 P,tu #[],y,Ba "<module>" 182 1 11,AZ 13 3<|vs "__main__" 164]++l
noncomputable abbrev o3(P:aP)(m:ak)(k n:B):bc:=dt P n<|("__name__",165,m)::e3.take k
noncomputable abbrev uq(k:B):bc:=fi (aaI<|e12.take k).toArray
noncomputable def u(P:aP):J bc:=hl P (boot_o_3 P) (fi #[]) []
noncomputable def lg0(P:aP):J bc:=hl P (o3 P m1 10 11) (uq 2)<|uo P
noncomputable def lg1(P:aP):J bc:=hl P (o3 P m1 11 12) (uq 3)<|uo P++vY P
noncomputable def lg2(P:aP):J bc:=hl P (o3 P m1 12 13) (uq 4)<|uo P++vY P++xU P
noncomputable def lg3(P:aP):J bc:=hl P (o3 P m1 13 14) (uq 5)<|uo P++vY P++xU P++Bf P
noncomputable def lg4(P:aP):J bc:=hl P (o3 P m2 16 17) (uq 8)<|uo P++vY P++xU P++Bf P++FJ P
noncomputable def lg5(P:aP):J bc:=hl P (o3 P m2 17 18) (uq 8)<|uo P++vY P++xU P++Bf P++FJ P++NI P
noncomputable def NK(P:aP):J bc:=hl P (o3 P m3 24 25) (uq 15)<|uo P++vY P++xU P++Bf P++FJ P++NI P++Gg6 P
noncomputable def TT(l:J bc)(n t:B)(os:bM):mM:=.mk (FL 10 l) n FK #[] (.mk 0 0 0 0) t os
noncomputable abbrev Tb(w:bz)(os:bM):mM:=TT (u w.params) 15 187 os
noncomputable abbrev NL(w:bz)(os:bM):mM:=TT (lg0 w.params) 65 253 os
noncomputable abbrev NM(w:bz)(os:bM):mM:=TT (lg1 w.params) 139 381 os
noncomputable abbrev NO(w:bz)(os:bM):mM:=TT (lg2 w.params) 146 389 os
noncomputable abbrev NP(w:bz)(os:bM):mM:=TT (lg3 w.params) 247 592 os
noncomputable abbrev FM(w:bz)(os:bM):mM:=TT (lg4 w.params) 269 650 os
noncomputable abbrev FN(w:bz)(os:bM):mM:=TT (lg5 w.params) 274 796 os
noncomputable abbrev FO(w:bz)(os:bM):mM:=TT (NK w.params) 319 857 os
noncomputable abbrev NQ(P:aP):bc:=o3 P m3 24 25
noncomputable abbrev pw:=oJ
noncomputable def pU:Env:={scope:=pw.main.scope,locals:=mainNs,globals:=mainNs,cells:=[],code:=.ref 13,frame:=some 14}
noncomputable def iC:nQ:=.body (behindTheImports pw) pU
noncomputable def oN:J nP:=[topFrame ⟨0,0,0,0⟩]
noncomputable def S0(w:bz)(os:bM):ay:=.mk (g9 w.params) #[] boot_drawn boot_toks os
noncomputable abbrev r6:bC ak:=some<|.ref 6
noncomputable def hpa(P:aP):bn:=.mk (.mk<|u P) FK
noncomputable def Sa(w:bz)(os:bM):ay:=.mk (hpa w.params) #[] (.mk 0 0 0 0) 187 os
noncomputable def K1(p:du)(w:bz)(s:ay)(t:qT):=topGo iw p w 11 r6 12 s t
noncomputable def K2(p:du)(w:bz)(s:ay)(t:qT):=qY iw p w 11 r6 1 1 s t
noncomputable def K3(p:du)(w:bz)(n:B)(s:mM)(t:qT):=segRunT iw p w 11 r6 1 n s t
noncomputable def K4(T:dm->bC ed)(p:du)(w:bz)(n:B)(s:mM)(t:qT):=segRunT T p w 11 r6 1 n s t
noncomputable def K5(p:du)(w:bz)(s:ay)(t:qT):=topRun iw p w 11 r6 2 s t
noncomputable def K6(s:ay)(c:nQ):bC (ay×qT):=some (s,.mk (denote iw c) c ⟨0,0,0,0⟩ oN)
theorem K1r:@K1=@K1:=rfl
name_quick K1q for Mine.K1 by Mine.K1r
theorem K2r:@K2=@K2:=rfl
name_quick K2q for Mine.K2 by Mine.K2r
theorem K3r:@K3=@K3:=rfl
name_quick K3q for Mine.K3 by Mine.K3r
theorem K4r:@K4=@K4:=rfl
name_quick K4q for Mine.K4 by Mine.K4r
theorem K5r:@K5=@K5:=rfl
name_quick K5q for Mine.K5 by Mine.K5r
theorem K6r:@K6=@K6:=rfl
name_quick K6q for Mine.K6 by Mine.K6r
theorem aaJ(w:bz)(os:bM):K1 pw w (S0 w os) (topStub pw)=K6 (Sa w os) iC:=(fq (fq (fq (fq Fast.K1q_eq pw) w)<|S0 w os)<|topStub pw).trans<|(by kernel_rfl:_=Fast.K6q (Sa w os) iC).trans (fq (fq Fast.K6q_eq<|Sa w os) iC).symm
noncomputable abbrev NR:=blockOf (behindTheImports pw) pU iC ⟨0,0,0,0⟩ oN
theorem aaK(w:bz)(os:bM):K2 pw w (Sa w os) NR=some (pO,(Tb w os).abs,iC,⟨0,0,0,0⟩):=(fq (fq (fq (fq Fast.K2q_eq pw) w)<|Sa w os) NR).trans (by kernel_rfl)
theorem rb(p:du)(w:bz)(n:B)(s:mM)(t:qT){r}(h:Fast.K3q p w n s t=r):segRunT iw p w 11 r6 1 n s t=r:=(fq (fq (fq (fq (fq Fast.K3q_eq p) w) n) s) t).trans h
theorem e4q(p:du)(w:bz)(n:B)(s:mM)(t:qT){r}(h:Fast.K4q tb p w n s t=r):segRunT tb p w 11 r6 1 n s t=r:=(fq (fq (fq (fq (fq (fq Fast.K4q_eq tb) p) w) n) s) t).trans h
noncomputable def NS:J eX:=[eC 0,eC 1,eC 2]
noncomputable def NT:J eX:=[eC 3]
noncomputable def NU:J eX:=[eC 4]
noncomputable def FP:J eX:=[eC 5]
noncomputable def NV:J eX:=[eC 6,eC 7,eC 8,eC 9]
noncomputable def FQ:J eX:=[eC 10]
noncomputable def NW:J eX:=[eC 11,eC 12,eC 13,eC 14,eC 15,eC 16,eC 17,eC 18]
theorem aaL(w:bz)(os:bM):qY iw pw w 11 r6 1 362 (Tb w os).abs (se NS pU iC ⟨0,0,0,0⟩ oN)=some (pO,(NL w os).abs,iC,⟨5,0,22,54⟩):=segRun_of (rb _ _ _ _ _<|by kernel_rfl)
theorem aaM(w:bz)(os:bM):qY iw pw w 11 r6 1 1047 (NL w os).abs (se NT pU iC ⟨5,0,22,54⟩ oN)=some (pO,(NM w os).abs,iC,⟨23,0,65,54⟩):=segRun_of (rb _ _ _ _ _<|by kernel_rfl)
theorem aaN(w:bz)(os:bM):qY iw pw w 11 r6 1 31 (NM w os).abs (se NU pU iC ⟨23,0,65,54⟩ oN)=some (pO,(NO w os).abs,iC,⟨66,0,69,14⟩):=segRun_of (rb _ _ _ _ _<|by kernel_rfl)
theorem aaO(w:bz)(os:bM):qY iw pw w 11 r6 1 666 (NO w os).abs (se FP pU iC ⟨66,0,69,14⟩ oN)=some (pO,(NP w os).abs,iC,⟨70,0,503,16⟩):=by unfold FP;rw[tb_eq,S5e];exact segRun_of (e4q _ _ _ _ _<|by kernel_rfl)
theorem aaP(w:bz)(os:bM):qY iw pw w 11 r6 1 133 (NP w os).abs (se NV pU iC ⟨70,0,503,16⟩ oN)=some (pO,(FM w os).abs,iC,⟨584,0,584,8⟩):=segRun_of (rb _ _ _ _ _<|by kernel_rfl)
noncomputable abbrev FR(w:bz):Prop:=∀os,qY iw pw w 11 r6 1 1253 (FM w os).abs (se FQ pU iC ⟨584,0,584,8⟩ oN)=some (pO,(FN w os).abs,iC,⟨585,0,585,18⟩)
theorem aaQ(w:bz)(os:bM):qY iw pw w 11 r6 1 1253 (FM w os).abs (se FQ pU iC ⟨584,0,584,8⟩ oN)=some (pO,(FN w os).abs,iC,⟨585,0,585,18⟩):=byRow2 "comprehension-iter-twice" (P:=FR) (byRow2 "special-get-raises" (P:=λw=>FR<|w.withFollow "comprehension-iter-twice" false) (λw os=>segRun_of<|rb _ _ _ _ _<|by kernel_rfl) λw os=>segRun_of<|rb _ _ _ _ _<|by kernel_rfl) (byRow2 "special-get-raises" (P:=λw=>FR<|w.withFollow "comprehension-iter-twice" true) (λw os=>segRun_of<|rb _ _ _ _ _<|by kernel_rfl) λw os=>segRun_of<|rb _ _ _ _ _<|by kernel_rfl) w os
theorem aaR(w:bz)(os:bM):qY iw pw w 11 r6 1 219 (FN w os).abs (se NW pU iC ⟨585,0,585,18⟩ oN)=some (pO,(FO w os).abs,iC,⟨656,0,696,75⟩):=segRun_of (rb _ _ _ _ _<|by kernel_rfl)
@[irreducible] noncomputable def bZ(P:aP):bn:=.mk (.mk<|NK P) FK
noncomputable def Sf(w:bz)(os:bM):ay:=.mk (bZ w.params) #[] (.mk 0 0 0 0) 857 os
noncomputable abbrev NX:qT:=.mk (doneF pO) iC ⟨656,0,696,75⟩ oN
theorem aaS(w:bz)(os:bM):K5 pw w (FO w os).abs NX=some (Sf w os):=(fq (fq (fq (fq Fast.K5q_eq pw) w) (FO w os).abs) NX).trans (by kernel_rfl)
theorem aaT:behindTheImports pw=(NS++(NT++(NU++(FP++(NV++(FQ++(NW++[]))))))):=by kernel_rfl
theorem aaU(w:bz)(os:bM):topRun iw pw w 11 r6 (qP 12<|qP 1<|qP 362<|qP 1047<|qP 31<|qP 666<|qP 133<|qP 1253<|qP 219 2) (S0 w os) (topStub pw)=some (Sf w os):=by
 refine go_top (aaJ w os)<|piece_block (aaK w os) ?_;rw[aaT];exact piece_app (aaL w os)<|piece_app (aaM w os)<|piece_app (aaN w os)<|piece_app (aaO w os)<|piece_app (aaP w os)<|piece_app (aaQ w os)<|piece_app (aaR w os)<|piece_nil<|aaS w os
end Mine
namespace Mine
open PySem PyProof.Rows
section
variable{g:B->bb}{C:Cx}{ρ aB mh:J ax}{hp ji aY:J O}{s s':ay}{h h':bn}{a it c N fI:ax}{α κ:Type}{x nm:ao}{st aj am ba ce:St}{k n q j lo d:B}{o oI:bc}{ob:O}{v aiA:V}{y:ak}{m mg mN:ao->bC ak}{b:bb}{i:az}{aiC:B->B}{l args vs items:J V}{w:bz}{T:dm}{p p' pos tp apos:cN}{e t target r1 r2 value:bv}{r ss body orelse:J eX}{K:Fl->St->Prop}{A:bS}{Q:ak->ay->Prop}{es elts:J bv}{env:Env}{fd:lD}{names sn:J ao}{aiy:St->Prop}{l':J (ao×V)}{o1 o2:CmpOp}{bs rest:J ak}{col:bC bb}{dd:bC ax}{k0 k1 k2 k3 k5:bC ak}
structure Wd where
 prog:du
 w:bz
 top:bn
 os:bM
 drawn:cV
 last:∃o,top.get? (top.objs.size-1)=some o
structure Cx extends Wd where
 env:Env
noncomputable def oO:bz:=⟨λH H=>0,{strHash:=λH=>0,shareClass:=λH=>0,mergeTok:=id,idOf:=λH=>0,idOfShared:=λH H=>0,followText:=λH=>true,idOfImm:=λH=>0}⟩
noncomputable def aaV:Cx:=⟨⟨default,oO,(default:bn).push default,default,{},⟨_,rfl⟩⟩,default⟩
structure St where
 loc:J (ao×V)
 hp:J O
noncomputable def eN(g g':bD de):Prop:=(∀(i:B) (x:de),g[i]?=some x->g'[i]?=some x)/\∀(i:B) (x:de),g.size<=i->g'[i]?=some x->x= .finished
theorem eN.refl(g:bD de):eN g g:=⟨λH H e=>e,λi x h e=>by
 have:=(jW.mp e).1;exact(LB this h).elim⟩
theorem eN.trans{g g' NY:bD de}(x:eN g g')(y:eN g' NY):eN g NY:=by
 refine⟨λi z e=>y.1 i z<|x.1 i z e,λi z h e=>?_⟩
 by_cases hi:i<g'.size
 ·have:g'[i]?=some g'[i]:=ia hi;have q:=x.2 i _ h this;simp only[y.1 i _ this] at e
  (have:=cj e;clear e;subst this);exact q
 ·exact y.2 i z (by exact iS ‹_›) e
noncomputable def ur(C:Cx)(ρ:J ax)(h:bn)(loc:J<|ao×V):Prop:=
 ∃m,h.Ns C.env.locals m/\∀x v,loc.lookup x=some v->∃y,m x=some y/\v.Is ρ h y
structure Led(C:Cx)(ρ:J ax)(hp:J O)(s:ay):Prop where
 len:U ρ=U hp
 objs:∀(k:B) (o:O) (a:ax),hp[k]?=some o->ρ[k]?=some a->o.Is C.w ρ s.heap a
 nodup:ρ.Nodup
 fC:C.env.locals∉ρ
 low:∀a∈ρ,C.top.objs.size<=a
 gT:C.top.get? C.env.locals=aA
 top:∀b o,C.top.get? b=some o->s.heap.get? b=some o
 os:s.os=C.os
 drawn:s.drawn=C.drawn
theorem Led.size{C:Cx}{ρ:J ax}{hp:J O}{s:ay}(L:Led C ρ hp s):C.top.objs.size<=s.heap.objs.size:=by
 refine xE C.last λo h=>?_
 have G:C.top.objs.size-1<C.top.objs.size:=dH h;have h2:C.top.objs.size-1<s.heap.objs.size:=dH<|L.top _ _ h;exact ZL h2
theorem xX(e:h.objs.size<=a):h.get? a=aA:=by
 cases q:h.get? a with
 |none=>rfl
 |some o=>exact aZ (dH q)<|iU.mpr e
structure Rep(C:Cx)(ρ:J ax)(st:St)(s:ay):Prop where
 loc:ur C ρ s.heap st.loc
 led:Led C ρ st.hp s
theorem pV:∀{l:J ax},l.Nodup->∀{i j:B} {a:ax},l[i]?=some a->l[j]?=some a->i=j
 | [],_,i,j,a,e,_=>by exact nomatch e
 |x::l,hn,0,0,a,_,_=>rfl
 |x::l,hn,0,j+1,a,e,q=>by
  cases e;exact aZ (dT (by simpa using q)) (l5.mp hn).1
 |x::l,hn,i+1,0,a,e,q=>by
  cases q;exact aZ (dT (by simpa using e)) (l5.mp hn).1
 |x::l,hn,i+1,j+1,a,e,q=>by
  exact D (pV (l5.mp hn).2 (i:=i) (j:=j) (by simpa using e)<|by simpa using q) rfl
theorem FS{α:Type}{x z:ao}{aiA:α}(hz:z≠x):∀{l:J (ao×α)},(l.filter λp=> !(p.1==x)).lookup z=some aiA->l.lookup z=some aiA
 | []=>λe=>by simp at e
 |(p1,p2)::l=>λe=>by
  by_cases hp:p1=x
  ·subst hp;have hb:(z==p1)=false:=by simpa using hz
   simp only[pG,xm,KB,Av,xo] at e;exact D gv<|D hb<|FS hz e
  ·have:(p1==x)=false:=by simpa using hp
   simp only[pG,this,Ep,xp] at e;rw[gv] at e ⊢;cases hq:z==p1 with
   |true=>rw[hq] at e;exact e
   |false=>rw[hq] at e;exact FS hz e
theorem Led.at(L:Led C ρ hp s){o:O}(e:hp[k]?=some o):∃a,ρ[k]?=some a/\o.Is C.w ρ s.heap a/\a∈ρ:=by
 have hk:k<U ρ:=by exact D L.len<|(cJ.mp e).1
 exact⟨ρ[k],bO hk,L.objs k o _ e<|bO hk,nF hk⟩
theorem Rep.toks(R:Rep C ρ st s)(n:B):Rep C ρ st {s with toks:=n}:=⟨R.loc,⟨R.led.len,R.led.objs,R.led.nodup,R.led.fC,R.led.low,R.led.gT,R.led.top,R.led.os,R.led.drawn⟩⟩
theorem Led.Bi(L:Led C ρ hp s):s.heap.objs.size∉ρ:=λh=>by
 obtain⟨k,hk,e⟩:=mF h;have eS:k<U hp:=by exact bL L.len hk
 refine aH ((L.objs k hp[k] s.heap.objs.size (bO eS)<|by refine bL e ?_;exact bO hk).there) λob ho H=>?_
 exact aZ (dH ho)<|jg _
theorem Rep.push(R:Rep C ρ st s)(o:bc):Rep C ρ st {s with heap:=s.heap.push o}:=by
 have hs:=bF.push s.heap o;have kp:∀b o',s.heap.get? b=some o'->(s.heap.push o).get? b=some o':=λb o' e=>dE o e;refine⟨?_,⟨R.led.len,λk ob a e q=>?_,R.led.nodup,R.led.fC,R.led.low,R.led.gT,λb o' e=>kp _ _<|R.led.top b o' e,R.led.os,R.led.drawn⟩⟩
 ·refine aH R.loc λm hn hm=>?_
  exact⟨m,hn.push o,λx v e=>by obtain⟨y,hy,q⟩:=hm x v e;exact⟨y,hy,q.mono (bP _) hs⟩⟩
 ·have z:=R.led.objs k ob a e q;exact aH z.there λx hx H=>(z.mono (bP _) hs<|(kp _ _ hx).trans hx.symm)
theorem Rep.alloc(R:Rep C ρ st s)(hf:o.isFreed=false)(hi:ob.Is C.w (ρ++[s.heap.objs.size]) (s.heap.push o) s.heap.objs.size):
  Rep C (ρ++[s.heap.objs.size]) ⟨st.loc,st.hp++[ob]⟩ {s with heap:=s.heap.push o}:=by
 have R':=R.push o;have hp:ρ<+:ρ++[s.heap.objs.size]:=gN ..;have lt:C.env.locals<s.heap.objs.size:=by obtain⟨m,hn,_⟩:=R.loc;exact hn.lt
 have hL:C.top.objs.size<=s.heap.objs.size:=R.led.size;refine⟨?_,⟨?_,λk ob' a e q=>?_,?_,?_,λa ha=>?_,R.led.gT,R'.led.top,R.led.os,R.led.drawn⟩⟩
 ·refine aH R'.loc λm hn hm=>?_
  exact⟨m,hn,λx v e=>by obtain⟨y,hy,q⟩:=hm x v e;exact⟨y,hy,q.mono hp<|bF.refl _⟩⟩
 ·simp only[aK,cK,iR,R.led.len]
 ·by_cases hk:k<U st.hp
  ·simp only[cA hk] at e
   (simp only[cA<|by refine D R.led.len ?_;exact hk] at q)
   exact(R'.led.objs k ob' a e q).mono hp (bF.refl _) rfl
  ·have kP:k=U st.hp:=by
    have:=(cJ.mp e).1;simp only[aK,cK,iR] at this;exact FA this hk
   subst kP;simp only[dc<|aG _,fG] at e
   (simp only[dc (by refine D R.led.len ?_;exact aG _),R.led.len,fG] at q)
   (have:=cj e;clear e;subst this);(have:=cj q;clear q;subst this);exact hi
 ·refine mG.mpr ⟨R.led.nodup,l5.mpr ⟨by simp,lx⟩,λa ha b hb=>?_⟩;rw[bx] at hb;subst hb;intro e;subst e;exact R.led.Bi ha
 ·intro h;rcases bK.mp h with h|h
  ·exact R.led.fC h
  ·rw[bx] at h;exact aZ h<|iT lt
 ·rcases bK.mp ha with ha|ha
  ·exact R.led.low a ha
  ·rw[bx] at ha;subst ha;exact hL
theorem Rep.change(R:Rep C ρ st s)(ha:ρ[k]?=some a)(hs:iW a s.heap h')(hi:ob.Is C.w ρ h' a)(n:B):
  Rep C ρ ⟨st.loc,st.hp.set k ob⟩ {s with heap:=h',toks:=n}:=by
 have hk:k<U ρ:=(cJ.mp ha).1;have eS:k<U st.hp:=by exact bL R.led.len hk
 have mem:a∈ρ:=by refine bL ((cJ.mp ha).2) ?_;exact nF hk
 refine aH ((R.led.objs k _ a (bO eS) ha).there) λH ho ht=>?_
 have aj:bF s.heap h':=jY hs ho ht;have aL:C.env.locals≠a:=λe=>R.led.fC<|e▸mem;refine⟨?_,⟨by simpa using R.led.len,λj o b e q=>?_,R.led.nodup,R.led.fC,R.led.low,R.led.gT,λb o e=>?_,R.led.os,R.led.drawn⟩⟩
 ·refine aH R.loc λm hn hm=>?_
  exact⟨m,hn.sameBut hs aL,λx v e=>by obtain⟨y,hy,q⟩:=hm x v e;exact⟨y,hy,q.mono (bP _) aj⟩⟩
 ·by_cases hj:j=k
  ·subst hj;rw[DM eS] at e
   (cases cj e;clear e)
   simp only[ha] at q;(cases cj q;clear q);exact hi
  ·simp only[z6<|uf hj] at e;have z:=R.led.objs j o b e q;have ne:b≠a:=λz=>by
    subst z;exact hj<|pV R.led.nodup q ha
   exact z.mono (bP _) aj<|hs.2 b ne
 ·have:b≠a:=λz=>by
   subst z;exact aZ (dH e)<|iU.mpr<|R.led.low _ mem
  exact(hs.2 b this).trans<|R.led.top b o e
theorem Rep.store(R:Rep C ρ st s)(hv:v.Is ρ s.heap y)(hn:h'.Ns C.env.locals λz=>if z=x then some y else m z)(hs:iW C.env.locals s.heap h')
  (hm:∀x v,st.loc.lookup x=some v->∃y,m x=some y/\v.Is ρ s.heap y) (n:B):Rep C ρ ⟨(x,v)::st.loc.filter (λp=> !(p.1==x)),st.hp⟩ {s with heap:=h',toks:=n}:=by
 refine aH R.loc λm0 cq H=>lH cq λoL es ep hL hd H=>?_
 have aj:bF s.heap h':=jY hs hL<|AL hd;refine⟨⟨_,hn,λz aiA e=>?_⟩,⟨R.led.len,λk o b e q=>?_,R.led.nodup,R.led.fC,R.led.low,R.led.gT,λb o e=>?_,R.led.os,R.led.drawn⟩⟩
 ·by_cases hz:z=x
  ·subst hz;rw[DN] at e
   (cases cj e;clear e)
   exact⟨y,aU rfl,hv.mono (bP _) aj⟩
  ·have hb:(z==x)=false:=by simpa using hz
   rw[gv,hb] at e;have e':st.loc.lookup z=some aiA:=FS hz e;refine aH (hm z aiA e') λy' G h2=>?_
   exact⟨y',by refine D (aE hz) ?_;exact G,h2.mono (bP _) aj⟩
 ·have z:=R.led.objs k o b e q
  have ne:b≠C.env.locals:=λz=>R.led.fC (z▸by
   refine xE (cJ.mp q) λl e1=>?_
   refine bL e1 ?_;exact nF l)
  exact z.mono (bP _) aj<|hs.2 b ne
 ·have:b≠C.env.locals:=λz=>by
   subst z;rw[R.led.gT] at e;exact nomatch e
  exact(hs.2 b this).trans<|R.led.top b o e
mutual
noncomputable def V.xY(n:B):V->bb
 | .ref k=>decide (k<n)
 | .tup _ l=>V.sw n l
 |_=>true
noncomputable def V.sw(n:B):J V->bb
 | []=>true
 |v::l=>V.xY n v&&V.sw n l
end
mutual
theorem V.Is.shrink{ρ:J ax}{h:bn}{n:B}:∀{v:V} {y:ak},v.xY n=true->v.Is ρ h y->v.Is (ρ.take n) h y
 | .none,_,_,e=>e
 | .bool _,_,_,e=>e
 | .int _,_,_,e=>e
 | .str _,_,_,e=>e
 | .val _,_,_,e=>e
 | .ref k,_,hk,z0=>aH z0 λa e1 e2=>⟨a,by refine D (zW<|dq hk) ?_;exact e1,e2⟩
 | .tup c l,_,hb,z0=>oK z0 λtc a vs n e1 e2 e3=>⟨tc,a,vs,n,e1,e2,V.IsL.shrink hb e3⟩
theorem V.IsL.shrink{ρ:J ax}{h:bn}{n:B}:∀{l:J V} {xs:J ak},V.sw n l=true->V.IsL ρ h l xs->V.IsL (ρ.take n) h l xs
 | [],_,_,e=>e
 |v::l,_,hb,z0=>dh z0 λx r e e1 e2=>⟨x,r,e,V.Is.shrink (fc.mp hb).1 e1,V.IsL.shrink (fc.mp hb).2 e2⟩
end
noncomputable def O.xY(n:B):O->bb
 | .list l=>V.sw n l
 | .attrs l=>l.all λp=>p.2.xY n
 | .inst _ d=>decide (d<n)
 | .cell v=>v.xY n
 | .fields _ l=>V.sw n l
 | .fe l=>V.sw n<|l.map (·.2)
 | .intD l=>V.sw n<|l.map (·.2)
 | .fZ=>true
theorem lookup_mem{α κ:Type}[BEq κ]{x:κ}{v:α}:∀{l:J (κ×α)},l.lookup x=some v->∃k,(k,v)∈l
 | []=>λe=>by simp at e
 |(k,aiA)::l=>λe=>by
  rw[gv] at e;cases h:x==k with
  |true=>rw[h] at e;cases e;exact⟨k,.head _⟩
  |false=>rw[h] at e;obtain⟨k',h'⟩:=lookup_mem e;exact⟨k',.tail _ h'⟩
mutual
noncomputable def V.cf(aiC:B->B):V->V
 | .ref k=>.ref<|aiC k
 | .tup c l=>.tup c<|V.lI aiC l
 | .none=>.none
 | .bool b=>.bool b
 | .int i=>.int i
 | .str s=>.str s
 | .val v=>.val v
noncomputable def V.lI(aiC:B->B):J V->J V
 | []=>[]
 |v::l=>V.cf aiC v::V.lI aiC l
end
mutual
noncomputable def V.bG(g:B->bb):V->bb
 | .ref k=>g k
 | .tup _ l=>V.ff g l
 | .none=>true
 | .bool _=>true
 | .int _=>true
 | .str _=>true
 | .val _=>true
noncomputable def V.ff(g:B->bb):J V->bb
 | []=>true
 |v::l=>V.bG g v&&V.ff g l
end
theorem V.NZ:V.none.bG g=true:=rfl
theorem V.N7:(V.bool b).bG g=true:=rfl
theorem V.FU:(V.int i).bG g=true:=rfl
theorem V.FV:(V.str x).bG g=true:=rfl
theorem V.ut:(V.ref k).bG g=g k:=rfl
mutual
theorem V.Is.cf(hf:∀k a,g k=true->ρ[k]?=some a->aB[aiC k]?=some a):∀{v:V} {x:ak},v.bG g=true->v.Is ρ h x->(v.cf aiC).Is aB h x
 | .none,_,_,e=>e
 | .bool _,_,_,e=>e
 | .int _,_,_,e=>e
 | .str _,_,_,e=>e
 | .val _,_,_,e=>e
 | .ref k,_,hk,z0=>aH z0 λa e1 e2=>⟨a,hf k a hk e1,e2⟩
 | .tup c l,_,hb,z0=>oK z0 λtc a vs n e1 e2 e3=>⟨tc,a,vs,n,e1,e2,V.IsL.cf hf hb e3⟩
theorem V.IsL.cf(hf:∀k a,g k=true->ρ[k]?=some a->aB[aiC k]?=some a):∀{l:J V} {xs:J ak},V.ff g l=true->V.IsL ρ h l xs->V.IsL aB h (V.lI aiC l) xs
 | [],_,_,e=>e
 |v::l,_,hb,z0=>dh z0 λx r e e1 e2=>⟨x,r,e,V.Is.cf hf (fc.mp hb).1 e1,V.IsL.cf hf (fc.mp hb).2 e2⟩
end
mutual
theorem V.jC(hf:∀k,g k=true->aiC k=k):∀{v:V},v.bG g=true->v.cf aiC=v
 | .none=>λH=>rfl
 | .bool _=>λH=>rfl
 | .int _=>λH=>rfl
 | .str _=>λH=>rfl
 | .val _=>λH=>rfl
 | .ref k=>λhk=>bB V.ref<|hf k hk
 | .tup c l=>λhb=>bB (V.tup c)<|V.uu hf hb
theorem V.uu(hf:∀k,g k=true->aiC k=k):∀{l:J V},V.ff g l=true->V.lI aiC l=l
 | []=>λH=>rfl
 |v::l=>λhb=>cons_eq (V.jC hf (fc.mp hb).1)<|V.uu hf (fc.mp hb).2
end
noncomputable def O.cf(aiC:B->B):O->O
 | .list l=>.list<|V.lI aiC l
 | .attrs l=>.attrs<|l.map λp=>(p.1,p.2.cf aiC)
 | .inst c d=>.inst c<|aiC d
 | .cell v=>.cell<|v.cf aiC
 | .fields c l=>.fields c<|V.lI aiC l
 | .fe l=>.fe<|l.map λp=>(p.1,p.2.cf aiC)
 | .intD l=>.intD<|l.map λp=>(p.1,p.2.cf aiC)
 | .fZ=>.fZ
noncomputable def O.bG(g:B->bb):O->bb
 | .list l=>V.ff g l
 | .attrs l=>l.all λp=>p.2.bG g
 | .inst _ d=>g d
 | .cell v=>v.bG g
 | .fields _ l=>V.ff g l
 | .fe l=>V.ff g<|l.map (·.2)
 | .intD l=>V.ff g<|l.map (·.2)
 | .fZ=>true
theorem O.Bj:(O.list l).cf aiC= .list (V.lI aiC l):=rfl
theorem xZ{κ:Type}[BEq κ]{x:κ}{aiC:V->V}:∀{l:J (κ×V)},(l.map λp=>(p.1,aiC p.2)).lookup x=(l.lookup x).map aiC
 | []=>rfl
 |(k,v)::l=>by
  refine D eu<|D gv<|D gv ?_;cases x==k with
  |true=>rfl
  |false=>exact xZ
theorem ya{κ:Type}{aiC:B->B}:∀{l:J (κ×V)},(l.map λp=>(p.1,p.2.cf aiC)).map (·.2)=V.lI aiC (l.map (·.2))
 | []=>rfl
 |p::l=>bB (J.cons _)<|ya (l:=l)
theorem O.Is.cf{w:bz}{ρ aB:J ax}{aiC:B->B}{g:B->bb}{h:bn}{a:ax}(hf:∀k a,g k=true->ρ[k]?=some a->aB[aiC k]?=some a):∀{o:O},o.bG g=true->o.Is w ρ h a->(o.cf aiC).Is w aB h a
 | .list _=>λhb z0=>dv z0 λvs m e q=>⟨vs,m,e,q.cf hf hb⟩
 | .attrs l=>λhb z0=>nT z0 λe m hn k=>⟨e,m,hn,λx=>⟨λv hv=>by
   rw[xZ] at hv;cases hq:l.lookup x with
   |none=>rw[hq] at hv;exact nomatch hv
   |some aiA=>
    rw[hq] at hv;cases hv
    exact aH ((k x).1 aiA hq) λy hy q=>xE (lookup_mem hq) λk' hm=>⟨y,hy,q.cf hf (fX.mp hb _ hm)⟩,λhv=>(k x).2 (by
    rw[xZ] at hv;cases hq:l.lookup x with
    |none=>rfl
    |some aiA=>rw[hq] at hv;cases hv)⟩⟩
 | .inst _ d=>λhb z0=>aH z0 λb e q=>⟨b,hf d b hb e,q⟩
 | .cell _=>λhb z0=>aH z0 λx e q=>⟨x,e,q.cf hf hb⟩
 | .fields _ _=>λhb z0=>nT z0 λc vs e q=>⟨c,vs,e,q.cf hf hb⟩
 | .fe l=>λhb z0=>cP z0 λbI e d k=>⟨bI,e,by refine D d<|D gP ?_;rfl,by refine D ya ?_;exact k.cf hf hb⟩
 | .intD l=>λhb z0=>cP z0 λbI e d k=>⟨bI,e,by refine D d<|D gP ?_;rfl,by refine D ya ?_;exact k.cf hf hb⟩
 | .fZ=>λH e=>e
structure jj(T:Wd)(ρ:J ax)(hp:J O)(s:ay):Prop where
 len:U ρ=U hp
 objs:∀(k:B) (o:O) (a:ax),hp[k]?=some o->ρ[k]?=some a->o.Is T.w ρ s.heap a
 nodup:ρ.Nodup
 low:∀a∈ρ,T.top.objs.size<=a
 size:T.top.objs.size<=s.heap.objs.size
 top:∀b o,T.top.get? b=some o->s.heap.get? b=some o
 os:s.os=T.os
 drawn:s.drawn=T.drawn
theorem Rep.toF(R:Rep C ρ st s):jj C.toWd ρ st.hp s:=
 ⟨R.led.len,R.led.objs,R.led.nodup,R.led.low,R.led.size,R.led.top,R.led.os,R.led.drawn⟩
theorem jj.mem{T:Wd}(L:jj T ρ hp s)(h:a∈ρ):∃(k:B) (o:O) (ob:bc),hp[k]?=some o/\ρ[k]?=some a/\o.Is T.w ρ s.heap a/\s.heap.get? a=some ob/\me ob=false:=by
 obtain⟨k,hk,e⟩:=mF h;have eS:k<U hp:=by exact bL L.len hk
 have e1:ρ[k]?=some a:=by simp only[bO hk,e]
 have e2:hp[k]?=some hp[k]:=bO eS;exact aH ((L.objs k _ a e2 e1).there) λob ho ht=>(⟨k,_,ob,e2,e1,L.objs k _ a e2 e1,ho,ht⟩)
theorem Rep.after(R:Rep C ρ st s)(k:∀b o,s.heap.get? b=some o->s'.heap.get? b=some o)(ho:s'.os=s.os)(hd:s'.drawn=s.drawn):Rep C ρ st s':=by
 have hs:=iB k;refine⟨?_,⟨R.led.len,λj o a e q=>?_,R.led.nodup,R.led.fC,R.led.low,R.led.gT,λb o e=>k b o<|R.led.top b o e,ho.trans R.led.os,hd.trans R.led.drawn⟩⟩
 ·refine aH R.loc λm hn hm=>?_
  exact⟨m,hn.keeps k,λx v e=>by obtain⟨y,hy,q⟩:=hm x v e;exact⟨y,hy,q.mono (bP _) hs⟩⟩
 ·have z:=R.led.objs j o a e q;exact aH z.there λx hx H=>(z.mono (bP _) hs<|(k _ _ hx).trans hx.symm)
noncomputable def cn(n:B)(A:bS):Prop:=A.handled=none/\A.depth+10*n<=900/\A.units+200*n<=9000
noncomputable abbrev bq:ak->ay->Prop:=λH H=>c8
structure bk(C:Cx)(ρ:J ax)(s:ay)(aj:St)(aB:J ax)(s':ay):Prop where
 pre:ρ<+:aB
 aX:bF s.heap s'.heap
 keep:∀b o,s.heap.get? b=some o->b∉ρ->b≠C.env.locals->s'.heap.get? b=some o
 fresh:∀a∈aB,a∉ρ->s.heap.get? a=none
 gens:eN s.gens s'.gens
 rep:Rep C aB aj s'
section
variable{rc:St}{bQ:ay}
theorem ek(R:Rep C ρ st s):bk C ρ s st ρ s:=⟨bP _,bF.refl _,λH H e H H=>e,λa h q=>aZ h q,eN.refl _,R⟩
theorem gj(R:Rep C ρ st s)(n:B):bk C ρ s st ρ {s with toks:=n}:=⟨bP _,bF.refl _,λH H e H H=>e,λa h q=>aZ h q,eN.refl _,R.toks n⟩
theorem bk.trans(x:bk C ρ s aj aB s')(y:bk C aB s' rc mh bQ):bk C ρ s rc mh bQ:=by
 refine⟨x.pre.trans y.pre,x.aX.trans y.aX,λb o e G h2=>y.keep b o (x.keep b o e G h2) (λh=>?_) h2,λa h q=>?_,x.gens.trans y.gens,y.rep⟩
 ·simp only[x.fresh b h G] at e;exact nomatch e
 ·by_cases ha:a∈aB
  ·exact x.fresh a ha q
  ·have z:=y.fresh a h ha;cases e:s.heap.get? a with
   |none=>rfl
   |some o=>
    by_cases hl:a=C.env.locals
    ·subst hl;refine aH x.rep.loc λm cq H=>eR cq λoL H H hL H=>?_
     simp only[hL] at z;exact nomatch z
    ·simp only[x.keep a o e q hl] at z;exact nomatch z
theorem uv:h.get? h.objs.size=none:=by
 cases e:h.get? h.objs.size with
 |none=>rfl
 |some o=>exact aZ (dH e)<|jg _
theorem bk.push(R:Rep C ρ st s)(o:bc)(n:B):bk C ρ s st ρ {s with heap:=s.heap.push o,toks:=n}:=
 ⟨bP _,bF.push _ _,λb o' e H H=>dE o e,λa h q=>aZ h q,eN.refl _,(R.push o).toks n⟩
theorem bk.alloc(R:Rep C ρ st s){o:bc}{ob:O}(hf:o.isFreed=false)(hi:ob.Is C.w (ρ++[s.heap.objs.size]) (s.heap.push o) s.heap.objs.size)(n:B):
  bk C ρ s ⟨st.loc,st.hp++[ob]⟩ (ρ++[s.heap.objs.size]) {s with heap:=s.heap.push o,toks:=n}:=
 ⟨gN ..,bF.push _ _,λb o' e H H=>dE o e,λa h q=>by
  rcases bK.mp h with h|h
  ·exact aZ h q
  ·rw[bx] at h;subst h;exact uv,eN.refl _,(R.alloc hf hi).toks n⟩
theorem bk.change(R:Rep C ρ st s){k:B}{a:ax}{h':bn}{ob:O}(ha:ρ[k]?=some a)(hs:iW a s.heap h')(hi:ob.Is C.w ρ h' a)(n:B):
  bk C ρ s ⟨st.loc,st.hp.set k ob⟩ ρ {s with heap:=h',toks:=n}:=by
 have hk:k<U ρ:=(cJ.mp ha).1;have mem:a∈ρ:=by refine bL ((cJ.mp ha).2) ?_;exact nF hk
 refine aH ((R.led.objs k _ a (bO<|by refine bL R.led.len ?_;exact hk) ha).there) λH ho ht=>?_
 exact⟨bP _,jY hs ho ht,λb o e G H=>(hs.2 b λz=>G<|z▸mem).trans e,λa h q=>aZ h q,eN.refl _,R.change ha hs hi n⟩
theorem bk.grow(R:Rep C ρ st s)(k:∀b o,s.heap.get? b=some o->s'.heap.get? b=some o)(hg:eN s.gens s'.gens)(ho:s'.os=s.os)(hd:s'.drawn=s.drawn):bk C ρ s st ρ s':=
 ⟨bP _,iB k,λb o e H H=>k b o e,λa h q=>aZ h q,hg,R.after k ho hd⟩
end
structure eH(C:Cx)(p:B)(ρ:J ax)(s:ay)(aj:St)(aB:J ax)(s':ay):Prop where
 pre:ρ.take p<+:aB
 aX:bF s.heap s'.heap
 keep:∀b o,s.heap.get? b=some o->b∉ρ->b≠C.env.locals->s'.heap.get? b=some o
 fresh:∀a∈aB,a∉ρ->s.heap.get? a=none
 gens:eN s.gens s'.gens
 rep:Rep C aB aj s'
theorem pW{p:B}(x:ρ.take p<+:aB)(y:aB.take p<+:mh):ρ.take p<+:mh:=by
 refine xk (xE x λt av=>?_) y;clear x;subst av
 by_cases h:p<=U ρ
 ·(simp only[w7 (by rw[gE];exact ZV h),J.take_take,B.min_self])
  exact bP _
 ·exact D (qL<|AV h) (D J.take_append<|D (qL (l:=ρ)<|by exact AV h)<|gN ..)
section
variable{p:B}{rc:St}{bQ:ay}
theorem bk.toS(N:bk C ρ s aj aB s'):eH C p ρ s aj aB s':=⟨(pH p ρ).trans N.pre,N.aX,N.keep,N.fresh,N.gens,N.rep⟩
theorem eH.refl(R:Rep C ρ st s):eH C p ρ s st ρ s:=(ek R).toS
theorem eH.trans(x:eH C p ρ s aj aB s')(y:eH C p aB s' rc mh bQ):eH C p ρ s rc mh bQ:=by
 refine⟨pW x.pre y.pre,x.aX.trans y.aX,λb o e G h2=>y.keep b o (x.keep b o e G h2) (λh=>?_) h2,λa h q=>?_,x.gens.trans y.gens,y.rep⟩
 ·simp only[x.fresh b h G] at e;exact nomatch e
 ·by_cases ha:a∈aB
  ·exact x.fresh a ha q
  ·have z:=y.fresh a h ha;cases e:s.heap.get? a with
   |none=>rfl
   |some o=>
    by_cases hl:a=C.env.locals
    ·subst hl;refine aH x.rep.loc λm cq H=>eR cq λoL H H hL H=>?_
     simp only[hL] at z;exact nomatch z
    ·simp only[x.keep a o e q hl] at z;exact nomatch z
theorem bk.FW(x:bk C ρ s aj aB s')(y:eH C p aB s' rc mh bQ):eH C p ρ s rc mh bQ:=(x.toS (p:=p)).trans y
theorem eH.N8(x:eH C p ρ s aj aB s')(y:bk C aB s' rc mh bQ):eH C p ρ s rc mh bQ:=x.trans y.toS
end
noncomputable def Bk(C:Cx)(n:B)(e:bv)(st:St)(v:V)(aj:St):Prop:=
 ∀(A:bS) (s:ay) (ρ:J ax) (Q:ak->ay->Prop),cn n A->Rep C ρ st s->
  (∀aB x s',bk C ρ s aj aB s'->v.Is aB s'.heap x->Q x s')->aF (aN C.prog C.w) A (eval e C.env) Q bq s
@[irreducible] noncomputable def EV(C:Cx)(n:B)(e:bv)(st:St)(v:V)(aj:St):Prop:=Bk C n e st v aj
theorem EV.mk(run:Bk C n e st v aj):EV C n e st v aj:=by with_unfolding_all exact run
theorem EV.run(h:EV C n e st v aj):Bk C n e st v aj:=by with_unfolding_all exact h
noncomputable instance{C:Cx}{n:B}{e:bv}{st:St}{v:V}{aj:St}:l7 (EV C n e st v aj) (λH=>Bk C n e st v aj):=⟨EV.run⟩
noncomputable def Bl(C:Cx)(n:B)(aiC:ak->ak->dD ak)(aiA v:V)(st:St)(r:V)(aj:St):Prop:=
 ∀(A:bS) (s:ay) (ρ:J ax) (x y:ak) (Q:ak->ay->Prop),cn n A->Rep C ρ st s->aiA.Is ρ s.heap x->v.Is ρ s.heap y->
  (∀aB z s',bk C ρ s aj aB s'->r.Is aB s'.heap z->Q z s')->aF (aN C.prog C.w) A (aiC x y) Q bq s
@[irreducible] noncomputable def a8(C:Cx)(n:B)(aiC:ak->ak->dD ak)(aiA v:V)(st:St)(r:V)(aj:St):Prop:=Bl C n aiC aiA v st r aj
theorem a8.mk{aiC:ak->ak->dD ak}{r:V}(run:Bl C n aiC aiA v st r aj):a8 C n aiC aiA v st r aj:=by with_unfolding_all exact run
theorem a8.run{aiC:ak->ak->dD ak}{r:V}(h:a8 C n aiC aiA v st r aj):Bl C n aiC aiA v st r aj:=by with_unfolding_all exact h
noncomputable instance{C:Cx}{n:B}{aiC:ak->ak->dD ak}{aiA v:V}{st:St}{r:V}{aj:St}:l7 (a8 C n aiC aiA v st r aj) (λH=>Bl C n aiC aiA v st r aj):=⟨a8.run⟩
theorem ah{x:ao}{p:cN}{v:V}(hl:aO (st.loc.lookup x=some v) a9)(hk:aO (C.env.scope.kind= .function) a9)(hn:aO (C.env.kindOf x=some .local) a9)(hd:aO ((x==("__debug__":ao))=false) aD._auto_1):
  EV C n (.Name x p) st v st:=.mk λA s ρ Q hA R h=>by
 exact aH R.loc λm bT hm=>aH (hm x v hl) λy hy hv=>(wpAny_Name (wpAny_loadName_local hk hn bT hy<|h ρ y s (ek R) hv) hd)
theorem bA{i:az}{k:B}{p:cN}:EV C n (.Constant (.int i) k p) st (.int i) st:=.mk λA s ρ Q hA R h=>
 wpAny_Constant_int (h ρ _ _ (gj R _) ⟨_,rfl⟩)
theorem dF{x:ao}{k:B}{p:cN}:EV C n (.Constant (.str x) k p) st (.str x) st:=.mk λA s ρ Q hA R h=>
 Calls.Constant_str (h ρ _ _ (gj R _) ⟨_,rfl⟩)
theorem EV.none{k:B}{p:cN}:EV C n (.Constant .none k p) st .none st:=.mk λA s ρ Q hA R h=>by
 simp only[eval_Constant];exact wpAny_pure<|h ρ _ _ (ek R) rfl
theorem EV.bool{b:bb}{k:B}{p:cN}:EV C n (.Constant (.bool b) k p) st (.bool b) st:=.mk λA s ρ Q hA R h=>by
 simp only[eval_Constant];exact wpAny_pure<|h ρ _ _ (ek R) rfl
theorem bt{l r:bv}{op:Operator}{w:V}(G:EV C n l st aiA am)(h2:EV C n r am v ba)(h3:a8 C n (pM op) aiA v ba w ce):
  EV C n (.BinOp l op r p) st w ce:=.mk λA s ρ Q hA R h=>
 wpAny_BinOp (G A s ρ _ hA R λaC x s1 N1 i1=>h2 A s1 aC _ hA N1.rep λbh y s2 N2 i2=>
  h3 A s2 bh x y _ hA N2.rep (i1.mono N2.pre N2.aX) i2 λdp z s3 N3 i3=>h dp z s3 ((N1.trans N2).trans N3) i3)
theorem EV.cmp{l r:bv}{op:CmpOp}{w:V}(G:EV C n l st aiA am)(h2:EV C n r am v ba)(h3:a8 C n (iV op) aiA v ba w ce)
  (hm:aO (behindInMarks op r=false) aW._auto_1):EV C n (.Compare l [op] [r] p) st w ce:=.mk λA s ρ Q hA R h=>
 wpAny_Compare1 (G A s ρ _ hA R λaC x s1 N1 i1=>h2 A s1 aC _ hA N1.rep λbh y s2 N2 i2=>
  h3 A s2 bh x y _ hA N2.rep (i1.mono N2.pre N2.aX) i2 λdp z s3 N3 i3=>h dp z s3 ((N1.trans N2).trans N3) i3) hm
theorem eT{a b:az}:a8 C n (pM .Add) (.int a) (.int b) st (.int<|a+b) st:=.mk λA s ρ x y Q hA R ⟨t,e1⟩ ⟨aiA,e2⟩ h=>by
 subst e1 e2;exact wpAny_add_int<|h ρ _ _ (gj R _) ⟨_,rfl⟩
theorem a8.mod_int{a b:az}(hb:b≠0):a8 C n (pM .Mod) (.int a) (.int b) st (.int<|a.fmod b) st:=.mk λA s ρ x y Q hA R ⟨t,e1⟩ ⟨aiA,e2⟩ h=>by
 subst e1 e2;exact PyProof.Rows.mod_int hb<|h ρ _ _ (gj R _) ⟨_,rfl⟩
theorem mi{a b:az}:a8 C n (iV .Eq) (.int a) (.int b) st (.bool<|a==b) st:=.mk λA s ρ x y Q hA R ⟨t,e1⟩ ⟨aiA,e2⟩ h=>by
 subst e1 e2;exact PyProof.Rows.eq_int<|h ρ _ _ (ek R) rfl
theorem a8.ne_int{a b:az}:a8 C n (iV .NotEq) (.int a) (.int b) st (.bool<|a !=b) st:=.mk λA s ρ x y Q hA R ⟨t,e1⟩ ⟨aiA,e2⟩ h=>by
 subst e1 e2;exact PyProof.Rows.ne_int<|h ρ _ _ (ek R) rfl
theorem jZ{a b:az}:a8 C n (iV .Lt) (.int a) (.int b) st (.bool<|decide (a<b)) st:=.mk λA s ρ x y Q hA R ⟨t,e1⟩ ⟨aiA,e2⟩ h=>by
 subst e1 e2;exact K8<|h ρ _ _ (ek R) rfl
theorem a8.gt_int{a b:az}:a8 C n (iV .Gt) (.int a) (.int b) st (.bool<|decide (b<a)) st:=.mk λA s ρ x y Q hA R ⟨t,e1⟩ ⟨aiA,e2⟩ h=>by
 subst e1 e2;exact PyProof.Rows.gt_int<|h ρ _ _ (ek R) rfl
noncomputable def Bm(C:Cx)(n:B)(e:bv)(st:St)(b:bb)(aj:St):Prop:=
 ∀(A:bS) (s:ay) (ρ:J ax) (Q:bb->ay->Prop),cn n A->Rep C ρ st s->
  (∀aB s',bk C ρ s aj aB s'->Q b s')->aF (aN C.prog C.w) A (isTrue e C.env<|eval e C.env) Q bq s
@[irreducible] noncomputable def TV(C:Cx)(n:B)(e:bv)(st:St)(b:bb)(aj:St):Prop:=Bm C n e st b aj
theorem TV.mk(run:Bm C n e st b aj):TV C n e st b aj:=by with_unfolding_all exact run
theorem TV.run(h:TV C n e st b aj):Bm C n e st b aj:=by with_unfolding_all exact h
noncomputable instance{C:Cx}{n:B}{e:bv}{st:St}{b:bb}{aj:St}:l7 (TV C n e st b aj) (λH=>Bm C n e st b aj):=⟨TV.run⟩
theorem bV{l r:bv}{op:CmpOp}(G:EV C n l st aiA am)(h2:EV C n r am v ba)(h3:a8 C n (iV op) aiA v ba (.bool b) ce)
  (hm:aO (behindInMarks op r=false) aW._auto_1):TV C n (.Compare l [op] [r] p) st b ce:=.mk λA s ρ Q hA R h=>
 wpAny_isTrue_Compare1 (G A s ρ _ hA R λaC x s1 N1 i1=>h2 A s1 aC _ hA N1.rep λbh y s2 N2 i2=>
  h3 A s2 bh x y _ hA N2.rep (i1.mono N2.pre N2.aX) i2 λdp z s3 N3 i3=>by
   subst i3;exact wpAny_truthy_bool (h dp s3 ((N1.trans N2).trans N3))) hm
inductive Fl where
 |next|brk|cont
 |ret (v:V)
noncomputable def Fl.Is(ρ:J ax)(h:bn):Fl->mL->Prop
 | .next,aiC=>aiC= .next
 | .brk,aiC=>aiC= .brk
 | .cont,aiC=>aiC= .cont
 | .ret v,aiC=>∃x,aiC= .ret x/\v.Is ρ h x
noncomputable def Bn(C:Cx)(n:B)(p:B)(ss:J eX)(st:St)(K:Fl->St->Prop):Prop:=
 ∀(A:bS) (s:ay) (ρ:J ax) (Q:mL->ay->Prop),cn n A->Rep C ρ st s->
  (∀aB fl aiC aj s',K fl aj->eH C p ρ s aj aB s'->fl.Is aB s'.heap aiC->Q aiC s')->aF (aN C.prog C.w) A (mK ss C.env) Q bq s
@[irreducible] noncomputable def XS(C:Cx)(n:B)(p:B)(ss:J eX)(st:St)(K:Fl->St->Prop):Prop:=Bn C n p ss st K
theorem XS.mk{p:B}(run:Bn C n p ss st K):XS C n p ss st K:=by with_unfolding_all exact run
theorem XS.run{p:B}(h:XS C n p ss st K):Bn C n p ss st K:=by with_unfolding_all exact h
noncomputable instance{C:Cx}{n:B}{p:B}{ss:J eX}{st:St}{K:Fl->St->Prop}:l7 (XS C n p ss st K) (λH=>Bn C n p ss st K):=⟨XS.run⟩
noncomputable def Bo(C:Cx)(n:B)(p:B)(ss:eX)(st:St)(K:Fl->St->Prop):Prop:=
 ∀(A:bS) (s:ay) (ρ:J ax) (Q:mL->ay->Prop),cn n A->Rep C ρ st s->
  (∀aB fl aiC aj s',K fl aj->eH C p ρ s aj aB s'->fl.Is aB s'.heap aiC->Q aiC s')->aF (aN C.prog C.w) A (exec ss C.env) Q bq s
@[irreducible] noncomputable def X1(C:Cx)(n:B)(p:B)(ss:eX)(st:St)(K:Fl->St->Prop):Prop:=Bo C n p ss st K
theorem X1.mk{p:B}{ss:eX}(run:Bo C n p ss st K):X1 C n p ss st K:=by with_unfolding_all exact run
theorem X1.run{p:B}{ss:eX}(h:X1 C n p ss st K):Bo C n p ss st K:=by with_unfolding_all exact h
noncomputable instance{C:Cx}{n:B}{p:B}{ss:eX}{st:St}{K:Fl->St->Prop}:l7 (X1 C n p ss st K) (λH=>Bo C n p ss st K):=⟨X1.run⟩
theorem bd(h:K .next st):XS C n q [] st K:=.mk λA s ρ Q hA R k=>wpAny_execs_nil<|k ρ .next .next st s h (eH.refl R) rfl
noncomputable abbrev kS(C:Cx)(n q:B)(r:J eX)(K:Fl->St->Prop):Fl->St->Prop:=λfl aj=>match fl with| .next=>XS C n q r aj K|fl=>K fl aj
noncomputable abbrev kL(I:St->Prop)(K:Fl->St->Prop):Fl->St->Prop:=λfl ce=>match fl with| .next| .cont=>I ce| .brk=>K .next ce| .ret w=>K (.ret w) ce
theorem cg{a:eX}(h:X1 C n q a st<|kS C n q r K):XS C n q (a::r) st K:=.mk λA s ρ Q hA R k=>by
 refine wpAny_execs_cons<|h A s ρ _ hA R λaC fl aiC am s1 hK N1 hf=>?_;cases fl with
 |next=>subst hf;exact hK A s1 aC Q hA N1.rep λbh fl aiC ba s2 rd N2 uw=>k bh fl aiC ba s2 rd (N1.trans N2) uw
 |brk=>subst hf;exact k aC .brk _ am s1 hK N1 rfl
 |cont=>subst hf;exact k aC .cont _ am s1 hK N1 rfl
 |ret v=>obtain⟨x,rfl,hv⟩:=hf;exact k aC (.ret v) _ am s1 hK N1 ⟨x,rfl,hv⟩
theorem X1.ret{e:bv}{p:cN}{v:V}{K:Fl->St->Prop}(G:EV C n e st v am)(h:K (.ret v) am):X1 C n q (.Return (some e) p) st K:=.mk λA s ρ Q hA R k=>
 wpAny_Return_some (G A s ρ _ hA R λaC x s1 N1 i1=>k aC (.ret v) _ am s1 h N1.toS ⟨x,rfl,i1⟩)
theorem jl(G:TV C n t st b am)(ht:b=true->XS C n q body am K)(hf:b=false->XS C n q orelse am K):X1 C n q (.If t body orelse p) st K:=.mk λA s ρ Q hA R k=>
 wpAny_If (G A s ρ _ hA R λaC s1 N1=>by
  cases b with
  |true=>exact ht rfl A s1 aC Q hA N1.rep λbh fl aiC ba s2 rd N2 uw=>k bh fl aiC ba s2 rd (N1.FW N2) uw
  |false=>exact hf rfl A s1 aC Q hA N1.rep λbh fl aiC ba s2 rd N2 uw=>k bh fl aiC ba s2 rd (N1.FW N2) uw)
noncomputable def St.put(st:St)(x:ao)(v:V):St:=⟨(x,v)::st.loc.filter (λp=> !(p.1==x)),st.hp⟩
theorem vZ{Q:fF->ay->Prop}(R:Rep C ρ st s)(hv:v.Is ρ s.heap y)
  (h:∀s',bk C ρ s (st.put x v) ρ s'->Q () s') (hk:aO (C.env.scope.kind= .function) a9) (hn:aO (C.env.kindOf x=some .local) a9):aF (aN C.prog C.w) A (storeName C.env x y) Q bq s:=by
 refine aH R.loc λm bT hm=>?_
 refine wpAny_storeName_local hn bT (λh' FX hs=>h _ ⟨bP _,?_,λb o e H hb=>(hs.2 b hb).trans e,λa h q=>aZ h q,eN.refl _,R.store hv FX hs hm _⟩) (by show(C.env.scope.kind== .class||(C.env.scope.kind== .module&&_))=false;rw[hk];rfl);exact lH bT λoL es ep hL hd H=>(jY hs hL<|AL hd)
theorem X1.assign(G:EV C n e st v am)(h:K .next (am.put x v))(hk:aO (C.env.scope.kind= .function) a9)(hn:aO (C.env.kindOf x=some .local) a9)
  (hs:aO (swapsWith e (some<|.Name x p') p.line C.env=pure false) a9):X1 C n q (.Assign [.Name x p'] e p) st K:=.mk λA s ρ Q hA R k=>
 wpAny_Assign_Name (G A s ρ _ hA R λaC y s1 N1 i1=>vZ N1.rep i1 (λs2 N2=>k aC .next _ _ s2 h (N1.trans N2).toS rfl) hk hn) hs
theorem cZ(G:EV C n e st v am)(h:XS C n q r (am.put x v) K)(hk:aO (C.env.scope.kind= .function) a9)(hn:aO (C.env.kindOf x=some .local) a9)
  (hs:aO (swapsWith e (some<|.Name x p') p.line C.env=pure false) a9):XS C n q (.Assign [.Name x p'] e p::r) st K:=cg<|X1.assign G h hk hn hs
theorem j6(G:EV C n e st v am)(h:K (.ret v) am):XS C n q (.Return (some e) p::r) st K:=cg<|X1.ret G h
noncomputable def Bp(C:Cx)(n:B)(aiC:ak)(args:J V)(st:St)(v:V)(aj:St):Prop:=
 ∀(A:bS) (s:ay) (ρ:J ax) (xs:J ak) (Q:ak->ay->Prop),cn n A->Rep C ρ st s->V.IsL ρ s.heap args xs->
  (∀aB x s',bk C ρ s aj aB s'->v.Is aB s'.heap x->Q x s')->aF (aN C.prog C.w) A (gR aiC xs) Q bq s
@[irreducible] noncomputable def aQ(C:Cx)(n:B)(aiC:ak)(args:J V)(st:St)(v:V)(aj:St):Prop:=Bp C n aiC args st v aj
theorem aQ.mk{aiC:ak}(run:Bp C n aiC args st v aj):aQ C n aiC args st v aj:=by with_unfolding_all exact run
theorem aQ.run{aiC:ak}(h:aQ C n aiC args st v aj):Bp C n aiC args st v aj:=by with_unfolding_all exact h
noncomputable instance{C:Cx}{n:B}{aiC:ak}{args:J V}{st:St}{v:V}{aj:St}:l7 (aQ C n aiC args st v aj) (λH=>Bp C n aiC args st v aj):=⟨aQ.run⟩
noncomputable def Bq(C:Cx)(n:B)(es:J bv)(st:St)(vs:J V)(aj:St):Prop:=
 ∀(A:bS) (s:ay) (ρ:J ax) (pos:cN) (Q:J ak->ay->Prop),cn n A->Rep C ρ st s->
  (∀aB xs s',bk C ρ s aj aB s'->V.IsL aB s'.heap vs xs->Q xs s')->aF (aN C.prog C.w) A (spliced<|lE pos<|lC es C.env) Q bq s
@[irreducible] noncomputable def iD(C:Cx)(n:B)(es:J bv)(st:St)(vs:J V)(aj:St):Prop:=Bq C n es st vs aj
theorem iD.mk(run:Bq C n es st vs aj):iD C n es st vs aj:=by with_unfolding_all exact run
theorem iD.run(h:iD C n es st vs aj):Bq C n es st vs aj:=by with_unfolding_all exact h
noncomputable instance{C:Cx}{n:B}{es:J bv}{st:St}{vs:J V}{aj:St}:l7 (iD C n es st vs aj) (λH=>Bq C n es st vs aj):=⟨iD.run⟩
noncomputable def gV:bv->bb
 | .Starred .. =>false
 |_=>true
theorem aM:iD C n [] st [] st:=.mk λA s ρ pos Q hA R h=>EU<|h ρ [] s (ek R) rfl
theorem kQ(he:gV e=true):lC (e::es) env=(false,eval e env)::lC es env:=by
 cases e with
 |Starred=>exact aZ he dy
 |_=>rfl
theorem an(G:EV C n e st v am)(h2:iD C n es am vs ba)(he:aO (gV e=true) a9):iD C n (e::es) st (v::vs) ba:=.mk λA s ρ pos Q hA R h=>by
 refine D (kQ he)<|AI ?_;show aF _ _ (if false=true then _ else eval e C.env) _ _ _;exact D (aE dy)<|G A s ρ _ hA R λaC x s1 N1 i1=>h2 A s1 aC pos _ hA N1.rep λbh xs s2 N2 i2=>h bh (x::xs) s2 (N1.trans N2) ⟨x,xs,rfl,i1.mono N2.pre N2.aX,i2⟩
theorem hH(hg:C.top.Ns tT mg)(hx:mg x=some y)(hk:aO (C.env.scope.kind= .function) a9)(hn:aO (C.env.kindOf x=some .globalImplicit) a9)(he:aO (C.env.globals=tT) a9)
  (hd:aO ((x==("__debug__":ao))=false) aD._auto_1):EV C n (.Name x p) st (.val y) st:=.mk λA s ρ Q hA R h=>by
 refine K9 hk hn (Calls.loadGlobal_global (mg:=mg) (by refine D he ?_;exact hg.keeps R.led.top) hx<|h ρ _ _ (ek R) rfl) hd
theorem cB{mb:ao->bC ak}(hg:C.top.Ns tT mg)(hx:mg x=aA)(hb:C.top.Ns builtinsNs mb)(hy:mb x=some y)(hk:aO (C.env.scope.kind= .function) a9)(hn:aO (C.env.kindOf x=some .globalImplicit) a9)(he:aO (C.env.globals=tT) a9)(FY:aO (C.env.builtins=builtinsNs) a9)
  (hd:aO ((x==("__debug__":ao))=false) aD._auto_1):EV C n (.Name x p) st (.val y) st:=.mk λA s ρ Q hA R h=>by
 refine K9 hk hn (Calls.loadGlobal_builtin (mg:=mg) (mb:=mb) (by refine D he ?_;exact hg.keeps R.led.top) hx (by refine D FY ?_;exact hb.keeps R.led.top) hy<|h ρ _ _ (ek R) rfl) hd
theorem jD{aiC:ao}{p pos:cN}{e:bv}{es:J bv}{a:ax}{o:bc}{fd:lD}{vs:J V}{v:V}(hf:EV C n (.Name aiC p) st (.val<|.ref a) am)(ho:C.top.get? a=some o)(hd:o.data= .func fd)
  (ha:iD C n (e::es) am vs ba) (hc:aQ C n (.ref a) vs ba v ce) (he:aO (gV e=true) a9):EV C n (.Call (.Name aiC p) (e::es) [] pos) st v ce:=.mk λA s ρ Q hA R h=>by
 refine wpAny_Call_Name_kw<|hf A s ρ _ hA R λaC x s1 N1 i1=>?_;subst i1;refine EQ (o:=o) (fd:=fd) ?_
 have key:=ha A s1 aC pos (λxs s2=>(s2.heap.get? a=some o/\o.data= .func fd)/\aF (aN C.prog C.w) A (gR (.ref a) ([]++xs) []) Q bq s2) hA N1.rep (λbh xs s2 N2 i2=>⟨⟨N2.rep.led.top a o ho,hd⟩,by
  exact hc A s2 bh xs Q hA N2.rep i2 λdp z s3 N3 i3=>h dp z s3 ((N1.trans N2).trans N3) i3⟩)
 rw[kQ he] at key ⊢;exact ET key
noncomputable abbrev re(T:Wd)(fd:lD)(a L:ax):Cx:=⟨T,callEnv fd L a⟩
noncomputable def Back(v:V):Fl->Prop
 | .ret aiA=>aiA=v
 | .next=>v= .none
 |_=>c8
theorem cn.deeper{A:bS}{env:Env}(h:cn (n+1) A):cn n (A.deeper env):=⟨h.1,by have:=h.2.1;simp only[Kq];exact Nw this,by have:=h.2.2;simp only[Kq];exact aac this⟩
theorem cn.depth{A:bS}(h:cn n A):A.depth<recursionLimit:=by have:=h.2.1;have:recursionLimit=1000:=rfl;lia
theorem cn.units{A:bS}(h:cn n A):A.units<cLine:=by have:=h.2.2;have:cLine=9900:=rfl;lia
theorem cn.in1{A:bS}(h:cn (n+1) A):cn n A.in1:=⟨h.1,by have:=h.2.1;exact aab this,by have:=h.2.2;exact aaa this⟩
theorem FZ{ρ:J ax}(hn:ρ.Nodup):∀{ns:J B},ns.Nodup->(∀k∈ns,k<U ρ)->(ns.map λk=>ρ.getD k 0).Nodup
 | []=>λH H=>lx
 |k::ns=>λh hl=>by
  obtain⟨G,h2⟩:=l5.mp h;refine D eu<|l5.mpr ⟨λhm=>(aH (fb.mp hm) λj hj e=>?_),FZ hn h2 λj hj=>hl j<|.tail _ hj⟩;have e1:ρ[k]?=some (ρ.getD k 0):=by refine D (c6)<|D (bO<|hl k<|.head _) ?_;rfl
  have e2:ρ[j]?=some (ρ.getD k 0):=by refine bL e<|D (c6)<|D (bO<|hl j<|.tail _ hj) ?_;rfl
  exact G<|pV hn e1 e2▸hj
theorem mj(hn:h.Ns a m)(e:∀o,h.get? a=some o->h'.get? a=some o):h'.Ns a m:=by
 exact eR hn λo es ep ho r=>(⟨o,es,ep,e o ho,r⟩)
theorem F0{ρ:J ax}{h:bn}{x:ao}{aiA:V}:∀{ns:J ao} {as:J V} {ys:J ak},ns.Nodup->V.IsL ρ h as ys->(ns.zip as).lookup x=some aiA->∃y,(ns.zip ys).reverse.lookup x=some y/\aiA.Is ρ h y
 | [],_,_,_,_,e=>by simp at e
 |m::ns,[],_,_,_,e=>by simp at e
 |m::ns,b::as,_,hn,z0,e=>dh z0 λy F4 ez i1 i2=>by
  subst ez;rw[DQ,gv] at e;refine D DQ<|D Ac ?_;cases hq:x==m with
  |true=>
   rw[hq] at e;cases e;have hxm:x=m:=eq_of_beq hq;subst hxm;refine⟨y,?_,i1⟩;have aaW:(ns.zip F4).reverse.lookup x=none:=by
    rw[Jw];intro p hp;rw[JS] at hp;have:=(DY hp).1;have cw:x≠p.1:=λz=>(l5.mp hn).1<|z▸this;simpa using cw
   rw[JK,aaW,bC.none_or,gv,hq]
  |false=>
   rw[hq] at e;exact aH (F0 (l5.mp hn).2 i2 e) λy' G h2=>(⟨y',by rw[JK,G,bC.some_or],h2⟩)
structure Cv(p:B)(ns:J B)(aiC:B->B)(g:B->bb)(ji aY:J O):Prop where
 nd:ns.Nodup
 low:∀k∈ns,p<=k
 gf:∀k,g k=true->(k<p/\aiC k=k)\/(∃i,ns[i]?=some k/\aiC k=p+i)
 len:U aY=p+U ns
 old:∀k o',k<p->aY[k]?=some o'->∃o,ji[k]?=some o/\o.bG g=true/\o'=o.cf aiC
 new:∀i k,ns[i]?=some k->∃o,ji[k]?=some o/\o.bG g=true/\aY[p+i]?=some (o.cf aiC)
noncomputable def yb(ρ aC:J ax)(ns:J B):J ax:=ρ++ns.map (λk=>aC.getD k 0)
structure Cut(T:Wd)(ρ aC bh:J ax)(aY:J O)(aiC:B->B)(g:B->bb)(s:ay):Prop where
 led:jj T bh aY s
 sub:∀a∈bh,a∈aC
 pre:ρ<+:bh
 cf:∀k a,g k=true->aC[k]?=some a->bh[aiC k]?=some a
theorem Cv.cut{T:Wd}{p:B}{ns:J B}{aC:J ax}(c:Cv p ns aiC g ji aY)(hp:U ρ=p)(pre:ρ<+:aC)(L:jj T aC ji s):
  Cut T ρ aC (yb ρ aC ns) aY aiC g s:=by
 subst hp;have F5:∀k∈ns,k<U aC:=λk eS=>by
  obtain⟨i,hi,e⟩:=mF eS;refine aH (c.new i k<|by rw[bO hi,e]) λo ho H=>?_
  exact D L.len<|(cJ.mp ho).1
 have gd:∀k a,aC[k]?=some a->aC.getD k 0=a:=λk a e=>by refine D (c6)<|D e ?_;rfl
 have F6:∀k,k<U ρ->aC[k]?=ρ[k]?:=λk eS=>by
  obtain⟨t,rfl⟩:=pre;exact D (cA eS) rfl
 have F7:∀a∈ns.map (λk=>aC.getD k 0),a∈aC/\a∉ρ:=λa ha=>by
  refine aH (fb.mp ha) λk eS e=>?_
  have bJ:=F5 k eS;have e1:aC[k]?=some a:=by refine bL e<|D (c6)<|D (bO bJ) ?_;rfl
  refine⟨dT e1,λhm=>?_⟩;obtain⟨j,hj,e2⟩:=mF hm;have e3:aC[j]?=some a:=by rw[F6 j hj,bO hj,e2]
  have:=pV L.nodup e1 e3;have:=c.low k eS;lia
 have hf:∀k a,g k=true->aC[k]?=some a->(yb ρ aC ns)[aiC k]?=some a:=λk a hgk e=>by
  unfold yb;rcases c.gf k hgk with ⟨G,h2⟩|⟨i,G,h2⟩
  ·refine D h2<|D (cA ‹_›)<|bL (F6 k ‹_›) ?_;exact e
  ·rw[h2,dc<|dZ _ _,jx,c7,G];show some (aC.getD k 0)=_;exact D (gd k a e) rfl
 refine⟨⟨?_,λk o' a e q=>?_,?_,λa h=>?_,L.size,L.top,L.os,L.drawn⟩,λa h=>?_,gN ..,hf⟩
 ·exact D aK<|D (bg _) c.len.symm
 ·by_cases N9:k<U ρ
  ·refine cP (c.old k o' N9 e) λo G h2 h3=>?_
   unfold yb at q;rw[cA ‹_›,←F6 k ‹_›] at q;exact D h3<|(L.objs k o a G q).cf hf h2
  ·have q0:=q;unfold yb at q;rw[dc (by exact iS ‹_›),c7] at q;cases bT:ns[k-U ρ]? with
   |none=>rw[bT] at q;cases q
   |some j=>
    rw[bT] at q;refine cP (c.new _ j bT) λo G h2 h3=>?_
    rw[show U ρ+(k-U ρ)=k from by exact Z9 N9,e] at h3;cases h3;have hj:=F5 j<|dT bT;have q':aC.getD j 0=a:=by cases q;rfl
    exact(L.objs j o a G<|by refine bL q'<|D (c6)<|D (bO hj) ?_;rfl).cf hf h2
 ·
  refine mG.mpr ⟨?_,FZ L.nodup c.nd F5,λa ha b hb e=>?_⟩
  ·obtain⟨t,rfl⟩:=pre;exact(mG.mp L.nodup).1
  ·subst e;exact(F7 a hb).2 ha
 ·rcases bK.mp h with h|h
  ·exact L.low a<|pre.subset h
  ·exact L.low a (F7 a h).1
 ·rcases bK.mp h with h|h
  ·exact pre.subset h
  ·exact(F7 a h).1
structure v0(T:Wd)(ρ:J ax)(s:ay)(aY:J O)(aB:J ax)(s':ay):Prop where
 pre:ρ<+:aB
 aX:bF s.heap s'.heap
 keep:∀b o,s.heap.get? b=some o->b∉ρ->s'.heap.get? b=some o
 fresh:∀a∈aB,a∉ρ->s.heap.get? a=none
 gens:eN s.gens s'.gens
 led:jj T aB aY s'
noncomputable def Conv(p:B)(ji:J O)(v1:V)(aY:J O)(v:V):Prop:=∃ns aiC g,Cv p ns aiC g ji aY/\v1.bG g=true/\v=v1.cf aiC
theorem v0.conv{T:Wd}{aC:J ax}{s1:ay}{v1:V}(hl:U ρ=U hp)(N:v0 T ρ s ji aC s1)(c:Conv (U hp) ji v1 aY v):
  ∃bh,v0 T ρ s aY bh s1/\∀x,v1.Is aC s1.heap x->v.Is bh s1.heap x:=by
 refine lH c λns aiC g cv ci av=>?_
 clear c;subst av;have k:=cv.cut hl N.pre N.led;exact⟨_,⟨k.pre,N.aX,N.keep,λa h q=>N.fresh a (k.sub a h) q,N.gens,k.led⟩,λx hx=>hx.cf k.cf ci⟩
noncomputable def Br(T:Wd)(n:B)(aiC:ak)(hp:J O)(args:J V)(aY:J O)(v:V):Prop:=
 ∀(A:bS) (s:ay) (ρ:J ax) (xs:J ak) (Q:ak->ay->Prop),cn n A->jj T ρ hp s->V.IsL ρ s.heap args xs->
  (∀aB x s',v0 T ρ s aY aB s'->v.Is aB s'.heap x->Q x s')->aF (aN T.prog T.w) A (gR aiC xs) Q bq s
@[irreducible] noncomputable def cC(T:Wd)(n:B)(aiC:ak)(hp:J O)(args:J V)(aY:J O)(v:V):Prop:=Br T n aiC hp args aY v
theorem cC.mk{T:Wd}{aiC:ak}(run:Br T n aiC hp args aY v):cC T n aiC hp args aY v:=by with_unfolding_all exact run
theorem cC.run{T:Wd}{aiC:ak}(h:cC T n aiC hp args aY v):Br T n aiC hp args aY v:=by with_unfolding_all exact h
noncomputable instance{T:Wd}{n:B}{aiC:ak}{hp:J O}{args:J V}{aY:J O}{v:V}:l7 (cC T n aiC hp args aY v) (λH=>Br T n aiC hp args aY v):=⟨cC.run⟩
theorem cn.le{m:B}(h:cn n A)(hm:m<=n):cn m A:=⟨h.1,by have:=h.2.1;exact Z8 this hm,by have:=h.2.2;exact Z7 this hm⟩
noncomputable def ux(T:Wd)(n:B)(aiC:ak)(hp:J O)(args:J V)(aY:J O)(v:V):Prop:=
 ∀(A:bS) (s:ay) (ρ:J ax) (xs:J ak) (Q:ak->ay->Prop),cn n A->jj T ρ hp s->V.IsL ρ s.heap args xs->
  (∀aB x s',v0 T ρ s aY aB s'->v.Is aB s'.heap x->Q x s')->codeAny (aN T.prog T.w) A (.call aiC ⟨xs,[]⟩) (λr s'=>match r with| .ok (.ret v)=>Q v s'| .ok _=>c8| .error e=>bq e s') s
theorem ux.v4{T:Wd}{bs:J V}
  (ho:T.top.get? a=some o) (hd:o.data= .func fd) (oP:fd.body= .stmts body) (pX:T.top.CodeRec fd.code fd.qualname) (ml:T.top.NoLimit)
  (mQ:∀(A:bS) (E:ak->ay->Prop) (ρ:J ax) (s:ay) (xs:J ak) (Q:J (ao×ak)->ay->Prop),jj T ρ hp s->V.IsL ρ s.heap args xs->
   (∀ys h' t',(∀b o,s.heap.get? b=some o->h'.get? b=some o)->s.heap.objs.size<=h'.objs.size->V.IsL ρ h' bs ys->Q (names.zip ys) {s with heap:=h',toks:=t'})->aF (aN T.prog T.w) A (r8 fd ⟨xs,[]⟩) Q E s) (ko:names.Nodup)
  (iE:∀x∈fd.scope.names,x.2≠ .cell) (lJ:∀x∈names,fd.scope.names.lookup x=some .local)
  (hb:∀L,XS (re T fd a L) n (U hp) body ⟨names.zip bs,hp⟩ (λfl am=>∃v1,Back v1 fl/\Conv (U hp) am.hp v1 aY v))
  (bo:aO (fd.scope.isCoroutine=false) a9) (oQ:aO (fd.scope.isGenerator=false) a9) (hk:aO (fd.scope.kind= .function) a9):ux T (n+1) (.ref a) hp args aY v:=by
 intro A s ρ xs Q hA R aV hQ;refine codeAny_call_function hA.depth (R.top a o ho) hd bo oQ oP (pX.keeps R.top)<|mQ _ _ ρ s xs _ R aV λys h0 t0 sx F8 nV=>(wpAny_newFunctionEnv iE (λx hx=>lJ _ (DY hx).1) (λh₁ bT uy=>⟨(ml.keeps λb o e=>sx b o<|R.top b o e).fresh _ uy,codeAny_func ?_⟩) hk);have yc:∀b o,h0.get? b=some o->h₁.get? b=some o:=λb o e=>uy.extBut b o (iT<|dH e)<|dE _ e;have mn:∀b o,s.heap.get? b=some o->h₁.get? b=some o:=λb o e=>yc b o<|sx b o e;have hs:=iB mn;have nf:h0.objs.size∉ρ:=λh=>by
  exact mO (R.mem h) λH H ob H H H ho H=>(aZ (dH<|sx _ _ ho)<|jg _)
 have enter:Rep (re T fd a h0.objs.size) ρ ⟨names.zip bs,hp⟩ {s with heap:=h₁,toks:=t0+U (names.zip ys)}:=by
  refine⟨⟨_,bT,λx aiA e=>F0 ko (nV.mono (bP _)<|iB yc) e⟩,⟨R.len,λj o b e q=>?_,R.nodup,nf,R.low,xX<|cY R.size F8,λb o e=>mn b o<|R.top b o e,R.os,R.drawn⟩⟩;have z:=R.objs j o b e q;exact aH z.there λx hx H=>(z.mono (bP _) hs<|(mn _ _ hx).trans hx.symm)
 refine wpAny_mono (hb h0.objs.size (A.deeper<|callEnv fd h0.objs.size a) _ ρ (λaiC s'=>∃x,(match aiC with| .ret v=>v|_=>jB)=x/\Q x s') hA.deeper enter ?_) (λaiC s' hf=>?_) λH H hf=>hf.elim
 ·intro aB fl aiC aj s' ⟨v1,hB,hC⟩ N hf;have ex:∀b o,s.heap.get? b=some o->b≠h0.objs.size:=λb o e=>iT<|dH<|sx b o e;have fr:∀c∈aB,c∉ρ->s.heap.get? c=none:=λc h q=>by
   cases e:s.heap.get? c with
   |none=>rfl
   |some o=>
    have:=(mn c o e).symm.trans (N.fresh c h q:h₁.get? c=none);cases this
  have NF:v0 T ρ s aj.hp aB s':=⟨by have:=N.pre;rwa [qL<|Am R.len] at this,hs.trans N.aX,λb o e G=>N.keep b o (mn b o e) G<|ex b o e,fr,N.gens,N.rep.toF⟩
  refine aH (NF.conv R.len hC) λbh N2 hv=>?_
  cases fl with
  |next=>subst hf;subst hB;exact⟨_,rfl,hQ bh _ s' N2<|hv .none rfl⟩
  |brk=>exact hB.elim
  |cont=>exact hB.elim
  |ret aiA=>
   refine aH hf λx av hx=>?_
   clear hf;subst av;subst hB;exact⟨x,rfl,hQ bh x s' N2<|hv x hx⟩
 ·refine aH hf λx e hq=>?_
  subst e;exact hq
theorem cC.v4{T:Wd}{n:B}{a:ax}{o:bc}{fd:lD}{body:J eX}{names:J ao}{args bs:J V}{hp aY:J O}{v:V}
  (ho:T.top.get? a=some o) (hd:o.data= .func fd) (oP:fd.body= .stmts body) (pX:T.top.CodeRec fd.code fd.qualname) (ml:T.top.NoLimit)
  (mQ:∀(A:bS) (E:ak->ay->Prop) (ρ:J ax) (s:ay) (xs:J ak) (Q:J (ao×ak)->ay->Prop),jj T ρ hp s->V.IsL ρ s.heap args xs->
   (∀ys h' t',(∀b o,s.heap.get? b=some o->h'.get? b=some o)->s.heap.objs.size<=h'.objs.size->V.IsL ρ h' bs ys->Q (names.zip ys) {s with heap:=h',toks:=t'})->aF (aN T.prog T.w) A (r8 fd ⟨xs,[]⟩) Q E s) (ko:names.Nodup)
  (iE:∀x∈fd.scope.names,x.2≠ .cell) (lJ:∀x∈names,fd.scope.names.lookup x=some .local)
  (hb:∀L,XS (re T fd a L) n (U hp) body ⟨names.zip bs,hp⟩ (λfl am=>∃v1,Back v1 fl/\Conv (U hp) am.hp v1 aY v))
  (bo:aO (fd.scope.isCoroutine=false) a9) (oQ:aO (fd.scope.isGenerator=false) a9) (hk:aO (fd.scope.kind= .function) a9):cC T (n+1) (.ref a) hp args aY v:=
 .mk λA s ρ xs Q hA R aV hQ=>wpAny_call<|ux.v4 ho hd oP pX ml mQ ko iE lJ hb bo oQ hk A s ρ xs Q hA R aV hQ
theorem cC.fn{T:Wd}
  (ho:T.top.get? a=some o) (hd:o.data= .func fd) (oP:fd.body= .stmts body) (pX:T.top.CodeRec fd.code fd.qualname) (ml:T.top.NoLimit)
  (mQ:∀xs:J ak,U xs=U args->r8 fd ⟨xs,[]⟩=pure (names.zip xs)) (ko:names.Nodup)
  (iE:∀x∈fd.scope.names,x.2≠ .cell) (lJ:∀x∈names,fd.scope.names.lookup x=some .local)
  (hb:∀L,XS (re T fd a L) n (U hp) body ⟨names.zip args,hp⟩ (λfl am=>∃v1,Back v1 fl/\Conv (U hp) am.hp v1 aY v))
  (bo:aO (fd.scope.isCoroutine=false) a9) (oQ:aO (fd.scope.isGenerator=false) a9) (hk:aO (fd.scope.kind= .function) a9):cC T (n+1) (.ref a) hp args aY v:=
 cC.v4 ho hd oP pX ml (λA E ρ s xs Q R aV hq=>by
  refine D (mQ xs<|dK aV) ?_
  exact wpAny_pure (hq xs s.heap s.toks (λH H e=>e) (aG _) aV)) ko iE lJ hb bo oQ hk
noncomputable abbrev kOf{β:Type}{t:dD β}{m:dD α}{k:α->dD β}(h:t=m >>= k):α->dD β:=k
noncomputable def bindK(fd:lD)(xs:J ak):bC (bD ak)->dD (J<|ao×ak):=kOf (t:=r8 fd ⟨xs,[]⟩) (m:=seqItems? fd.defaults) rfl
theorem bindK_eq(fd:lD)(xs:J ak):r8 fd ⟨xs,[]⟩=seqItems? fd.defaults >>= bindK fd xs:=rfl
theorem cC.Oa{T:Wd}{ds:J V}{Td:ax}{od:bc}{items:bD ak}{m:B}
  (ho:T.top.get? a=some o) (hd:o.data= .func fd) (oP:fd.body= .stmts body) (pX:T.top.CodeRec fd.code fd.qualname) (ml:T.top.NoLimit)
  (htd:fd.defaults= .ref Td) (hod:T.top.get? Td=some od) (hds:od.data= .seq items m) {xd:J ak} (hxd:∀ρ h,V.IsL ρ h ds xd)
  (mQ:∀xs:J ak,U xs=U args->bindK fd xs (some items)=pure (names.zip<|xs++xd)) (ko:names.Nodup)
  (iE:∀x∈fd.scope.names,x.2≠ .cell) (lJ:∀x∈names,fd.scope.names.lookup x=some .local)
  (hb:∀L,XS (re T fd a L) n (U hp) body ⟨names.zip<|args++ds,hp⟩ (λfl am=>∃v1,Back v1 fl/\Conv (U hp) am.hp v1 aY v))
  (bo:aO (fd.scope.isCoroutine=false) a9) (oQ:aO (fd.scope.isGenerator=false) a9) (hk:aO (fd.scope.kind= .function) a9):cC T (n+1) (.ref a) hp args aY v:=
 cC.v4 ho hd oP pX ml (λA E ρ s xs Q R aV hq=>by
  exact Ej htd (R.top _ _ hod) hds (bindK_eq fd xs) (mQ xs (dK aV)) _ _ _ _ (hq (xs++xd) s.heap s.toks (λH H e=>e) (aG _) (aV.append (hxd _ _)))) ko iE lJ hb bo oQ hk
mutual
theorem V.Is.mR(hf:∀k a,g k=true->ρ[aiC k]?=some a->aB[k]?=some a):∀{v:V} {x:ak},v.bG g=true->(v.cf aiC).Is ρ h x->v.Is aB h x
 | .none,_,_,e=>e
 | .bool _,_,_,e=>e
 | .int _,_,_,e=>e
 | .str _,_,_,e=>e
 | .val _,_,_,e=>e
 | .ref k,_,hk,z0=>aH z0 λa e1 e2=>⟨a,hf k a hk e1,e2⟩
 | .tup c l,_,hb,z0=>oK z0 λtc a vs n e1 e2 e3=>⟨tc,a,vs,n,e1,e2,V.IsL.mR hf hb e3⟩
theorem V.IsL.mR(hf:∀k a,g k=true->ρ[aiC k]?=some a->aB[k]?=some a):∀{l:J V} {xs:J ak},V.ff g l=true->V.IsL ρ h (V.lI aiC l) xs->V.IsL aB h l xs
 | [],_,_,e=>e
 |v::l,_,hb,z0=>dh z0 λx r e e1 e2=>⟨x,r,e,V.Is.mR hf (fc.mp hb).1 e1,V.IsL.mR hf (fc.mp hb).2 e2⟩
end
theorem V.aaX:∀{l:J V},U (V.lI aiC l)=U l
 | []=>rfl
 |v::l=>bB (· +1)<|V.aaX (l:=l)
mutual
theorem V.rf:∀{v:V},v.bG (λH=>true)=true
 | .none=>rfl
 | .bool _=>rfl
 | .int _=>rfl
 | .str _=>rfl
 | .val _=>rfl
 | .ref k=>rfl
 | .tup c l=>V.v5
theorem V.v5:∀{l:J V},V.ff (λH=>true) l=true
 | []=>rfl
 |v::l=>fc.mpr ⟨V.rf,V.v5⟩
end
theorem O.rf:∀{o:O},o.bG (λH=>true)=true
 | .list l=>V.v5
 | .attrs l=>fX.mpr λH H=>V.rf
 | .inst c d=>rfl
 | .cell v=>V.rf
 | .fields _ l=>V.v5
 | .fe l=>V.v5
 | .intD l=>V.v5
 | .fZ=>rfl
theorem O.Is.mR{w:bz}{ρ aB:J ax}{aiC:B->B}{g:B->bb}{h:bn}{a:ax}(hf:∀k a,g k=true->ρ[aiC k]?=some a->aB[k]?=some a):∀{o:O},o.bG g=true->(o.cf aiC).Is w ρ h a->o.Is w aB h a
 | .list _=>λhb z0=>dv z0 λvs m e q=>⟨vs,m,e,q.mR hf hb⟩
 | .attrs l=>λhb z0=>nT z0 λe m hn k=>⟨e,m,hn,λx=>⟨λv hv=>by
   refine aH ((k x).1 (v.cf aiC)<|by refine D xZ<|D hv ?_;rfl) λy hy q=>?_
   refine xE (lookup_mem hv) λk' hm=>?_
   exact⟨y,hy,q.mR hf (fX.mp hb _ hm)⟩,λhv=>(k x).2 (by refine D xZ (D hv ?_);rfl)⟩⟩
 | .inst _ d=>λhb z0=>aH z0 λb e q=>⟨b,hf d b hb e,q⟩
 | .cell _=>λhb z0=>aH z0 λx e q=>⟨x,e,q.mR hf hb⟩
 | .fields _ _=>λhb z0=>nT z0 λc vs e q=>⟨c,vs,e,q.mR hf hb⟩
 | .fe l=>λhb z0=>cP z0 λbI e d k=>⟨bI,e,by refine D d<|D gP ?_;rfl,by rw[ya] at k;exact k.mR hf hb⟩
 | .intD l=>λhb z0=>cP z0 λbI e d k=>⟨bI,e,by rw[d,gP];rfl,by rw[ya] at k;exact k.mR hf hb⟩
 | .fZ=>λH e=>e
noncomputable def over{α:Type}:J α->J B->J α->J α
 |aiz,[],os=>aiz++os
 |aiz,j::js,o::os=>over (aiz.set j o) js os
 |aiz,_::_,[]=>aiz
termination_by structural _ js=>js
theorem F9{aiz os:J α}:over aiz [] os=aiz++os:=rfl
theorem uz{aiz os:J α}{js:J B}{o:α}:over aiz (j::js) (o::os)=over (aiz.set j o) js os:=rfl
theorem Ga{α:Type}:∀{js:J B} {aiz os:J α},U js<=U os->U (over aiz js os)=U aiz+(U os-U js)
 | [],aiz,os=>λh=>aK
 |j::js,aiz,[]=>λh=>by simp at h
 |j::js,aiz,o::os=>λh=>by
  rw[uz,Ga (by simpa using h),qN];simp only[cK];exact aam
theorem Bs{α:Type}:∀{js:J B} {aiz os:J α} {k:B},k∉js->k<U aiz->(over aiz js os)[k]?=aiz[k]?
 | [],aiz,os,k,h,hk=>cA hk
 |j::js,aiz,[],k,h,hk=>rfl
 |j::js,aiz,o::os,k,h,hk=>by
  rw[uz,Bs (λq=>h<|.tail _ q) (by rw[qN];exact hk),z6];intro e;subst e;exact h<|.head _
theorem Bt{α:Type}:∀{js:J B} {aiz os:J α} {i j:B},js.Nodup->js[i]?=some j->j<U aiz->U js<=U os->(over aiz js os)[j]?=os[i]?
 | [],aiz,os,i,j,hn,h,hk,hl=>by simp at h
 |j'::js,aiz,[],i,j,hn,h,hk,hl=>by simp at hl
 |j'::js,aiz,o::os,0,j,hn,h,hk,hl=>by
  cases h;rw[uz,Bs (l5.mp hn).1 (by rw[qN];exact hk),DM hk];rfl
 |j'::js,aiz,o::os,i+1,j,hn,h,hk,hl=>by
  rw[uz,Bt (l5.mp hn).2 (by simpa using h) (by rw[qN];exact hk)<|by simpa using hl];rfl
theorem Gb{α:Type}:∀{js:J B} {aiz os:J α} {i:B},U js<=U os->(over aiz js os)[U aiz+i]?=os[U js+i]?
 | [],aiz,os,i,h=>by rw[F9,dc<|dZ _ _,jx];simp
 |j::js,aiz,[],i,h=>by simp at h
 |j::js,aiz,o::os,i,h=>by
  have:=Gb (js:=js) (aiz:=aiz.set j o) (os:=os) (i:=i) (by simpa using h);rw[qN] at this;rw[uz,this,cK,show U js+1+i=(U js+i)+1 from by exact nK _ _ _,vz]
noncomputable def oR(js:J B)(p:B)(k:B):B:=if k<U js then js.getD k 0 else p+(k-U js)
theorem cC.frame{aiC:ak}(js:J B)(hf:cC C.toWd n aiC hp args aY v)(hl:U js=U hp)(hle:U hp<=U aY)(hn:js.Nodup)
  (v6:∀(i:B) (o:O),hp[i]?=some o->o.bG (λk=>decide (k<U js))=true/\∃j,js[i]?=some j/\st.hp[j]?=some (o.cf λk=>js.getD k 0)) (ha:V.ff (λk=>decide (k<U js)) args=true):
  aQ C n aiC (V.lI (λk=>js.getD k 0) args) st (v.cf<|oR js<|U st.hp) ⟨st.loc,over st.hp js<|aY.map<|O.cf<|oR js<|U st.hp⟩:=by
 refine .mk λA s ρ xs Q hA R aV hQ=>?_
 have jlt:∀j∈js,j<U st.hp:=λj hj=>by
  obtain⟨i,hi,e⟩:=mF hj;refine nT (v6 i hp[i]<|bO<|by refine bL hl ?_;exact hi) λH j' G h2=>?_
  rw[bO hi,e] at G;cases G;exact(cJ.mp h2).1
 have Ob:∀j∈js,j<U ρ:=λj hj=>by refine D R.led.len ?_;exact jlt j hj
 have Gc:∀(k:B) (a:ax),k<U js->ρ[js.getD k 0]?=some a->(js.map λj=>ρ.getD j 0)[k]?=some a:=λk a hk e=>by
  refine D (c7)<|D (bO hk) ?_;show some (ρ.getD js[k] 0)=_;rw[c6,bO hk] at e;refine D (c6) ?_
  refine D (show ρ[js[k]]?=some a from e) ?_;rfl
 have Bu:∀(k:B) (a:ax),(js.map λj=>ρ.getD j 0)[k]?=some a->k<U js/\ρ[js.getD k 0]?=some a:=λk a e=>by
  have hk:k<U js:=by have:=(cJ.mp e).1;rwa [bg] at this
  refine⟨hk,?_⟩;rw[c7,bO hk] at e;have e':ρ.getD js[k] 0=a:=by cases e;rfl
  have eS:=Ob _<|nF hk;rw[c6,bO eS,vF] at e';rw[c6,bO hk,vF,bO eS,e']
 have sub:∀a∈(js.map λj=>ρ.getD j 0),a∈ρ:=λa ha=>by
  obtain⟨k,hk,e⟩:=mF ha;exact dT (Bu k a<|by rw[bO hk,e]).2
 have L:jj C.toWd (js.map λj=>ρ.getD j 0) hp s:=by
  refine⟨by rw[bg,hl],λk o a e q=>(nT (v6 k o e) λG j h2 h3=>?_),FZ R.led.nodup hn Ob,λa h=>R.led.low a<|sub a h,R.toF.size,R.led.top,R.led.os,R.led.drawn⟩;refine xA (Bu k a q) λhk q'=>?_
  have hj:js.getD k 0=j:=by refine D (c6)<|D h2 ?_;rfl
  exact(R.led.objs j _ a h3<|hj▸q').mR (λk a hk e=>Gc k a (dq hk) e) G
 refine hf A s (js.map λj=>ρ.getD j 0) xs Q hA L (aV.mR (λk a hk e=>Gc k a (dq hk) e) ha) λρc x s' N hx=>xE N.pre λt av=>?_
 subst av;have lc:U (js.map λj=>ρ.getD j 0)=U js:=bg ..;have pl:U ρ=U st.hp:=R.led.len;have tl:U js+U t=U aY:=by rw[←N.led.len,aK,lc]
 have go:∀k a,(λH:B=>true) k=true->((js.map λj=>ρ.getD j 0)++t)[k]?=some a->(ρ++t)[oR js (U st.hp) k]?=some a:=λk a H e=>by
  unfold oR
  by_cases hk:k<U js
  ·refine D (aU hk) ?_
   rw[cA<|by exact mf hk lc] at e;refine xA (Bu k a e) λH q=>?_
   rw[cA (cJ.mp q).1];exact q
  ·refine D (aE hk) ?_
   rw[dc (by exact Nx hk lc),lc] at e;rw[dc (by exact Nz pl),pl,jx];exact e
 have uA:∀a∈t,a∉(js.map λj=>ρ.getD j 0):=λa ha hm=>(mG.mp N.led.nodup).2.2 a hm a ha rfl;have Ge:∀a∈t,s.heap.get? a=none:=λa ha=>N.fresh a (bK.mpr<|.inr ha)<|uA a ha;have tρ:∀a∈t,a∉ρ:=λa ha hm=>by
  refine mO (R.toF.mem hm) λH H ob H H H ho H=>?_
  rw[Ge a ha] at ho;cases ho
 have keep:∀b o,s.heap.get? b=some o->b∉(js.map λj=>ρ.getD j 0)->s'.heap.get? b=some o:=N.keep;have aaY:C.env.locals∉(js.map λj=>ρ.getD j 0):=λh=>R.led.fC<|sub _ h;have ol:U (over st.hp js<|aY.map<|O.cf<|oR js<|U st.hp)=U st.hp+U t:=by
  (refine D (Ga<|by rw[bg];exact ul tl)<|D (bg _) ?_);exact aal tl
 refine hQ (ρ++t) x s' ⟨gN ..,N.aX,λb o e G H=>keep b o e λh=>G<|sub b h,λa h q=>?_,N.gens,?_,?_⟩<|hx.cf go V.rf
 ·rcases bK.mp h with h|h
  ·exact aZ h q
  ·exact Ge a h
 ·refine aH R.loc λm bT hm=>?_
  exact⟨m,mj bT λo e=>keep _ o e aaY,λx v e=>by
   exact aH (hm x v e) λy hy q=>⟨y,hy,q.mono (gN ..) N.aX⟩⟩
 ·refine⟨by rw[ol,aK,pl],λk o a e q=>?_,?_,λh=>?_,λa h=>?_,R.led.gT,N.led.top,N.led.os,N.led.drawn⟩
  ·by_cases hk:k<U st.hp
   ·rw[cA<|by exact mf hk pl] at q
    by_cases hj:k∈js
    ·obtain⟨i,hi,e'⟩:=mF hj;have ei:js[i]?=some k:=by rw[bO hi,e']
     rw[Bt hn ei hk (by refine D (bg _) ?_;exact ul tl),c7] at e;cases hh:aY[i]? with
     |none=>rw[hh] at e;cases e
     |some o'=>
      rw[hh] at e;cases e;refine(N.led.objs i o' a hh (D (cA (by exact mf hi lc)) ?_)).cf go O.rf;exact Gc i a hi (by refine D (c6)<|D ei ?_;exact q)
    ·rw[Bs hj hk] at e;have z:=R.led.objs k o a e q;refine aH z.there λob ho H=>z.mono (gN ..) N.aX<|(keep a ob ho λh=>?_).trans ho.symm;obtain⟨i,hi,e'⟩:=mF h;refine xA (Bu i a<|by rw[bO hi,e']) λG h2=>?_
     have:=pV R.led.nodup q h2;rw[this,c6,bO G] at hj;exact hj<|nF G
   ·have:k=U st.hp+(k-U st.hp):=by exact aak hk
    rw[this,Gb (by refine D (bg _) ?_;exact ul tl),c7] at e;cases hh:aY[U js+(k-U st.hp)]? with
    |none=>rw[hh] at e;cases e
    |some o'=>
     rw[hh] at e;cases e;refine(N.led.objs _ o' a hh ?_).cf go O.rf;rw[dc (by exact aaj this pl),pl] at q;rw[dc (by exact Nz lc),lc,jx];exact q
  ·refine mG.mpr ⟨R.led.nodup,(mG.mp N.led.nodup).2.1,λa ha b hb e=>?_⟩;subst e;exact tρ a hb ha
  ·rcases bK.mp h with h|h
   ·exact R.led.fC h
   ·refine aH R.loc λm cq H=>eR cq λoL H H hL H=>?_
    rw[Ge _ h] at hL;cases hL
  ·rcases bK.mp h with h|h
   ·exact R.led.low a h
   ·exact N.led.low a<|bK.mpr<|.inr h
theorem mo(h:k<=16777216):k<=km:=h
noncomputable def Bv(C:Cx)(n:B)(v:V)(st:St)(b:bb):Prop:=
 ∀(A:bS) (s:ay) (ρ:J ax) (x:ak) (Q:bb->ay->Prop),cn n A->Rep C ρ st s->v.Is ρ s.heap x->(∀s',bk C ρ s st ρ s'->Q b s')->aF (aN C.prog C.w) A (truthy x) Q bq s
@[irreducible] noncomputable def fu(C:Cx)(n:B)(v:V)(st:St)(b:bb):Prop:=Bv C n v st b
theorem fu.mk(run:Bv C n v st b):fu C n v st b:=by with_unfolding_all exact run
theorem fu.run(h:fu C n v st b):Bv C n v st b:=by with_unfolding_all exact h
noncomputable instance{C:Cx}{n:B}{v:V}{st:St}{b:bb}:l7 (fu C n v st b) (λH=>Bv C n v st b):=⟨fu.run⟩
theorem kR{b:bb}:fu C n (.bool b) st b:=.mk λA s ρ x Q hA R e h=>by
 subst e;exact wpAny_truthy_bool<|h s<|ek R
theorem fu.none:fu C n .none st false:=.mk λA s ρ x Q hA R e h=>by
 subst e;exact truthy_none<|h s<|ek R
theorem fv(G:EV C n e st v am)(h2:fu C n v am b)(he:aO (isTrue e C.env (eval e C.env)=(do let v ←eval e C.env;nN e.pos;holding [v] (truthy v))) a9):TV C n e st b am:=.mk λA s ρ Q hA R h=>
 isTrue_plain (G A s ρ _ hA R λaC x s1 N1 i1=>h2 A s1 aC x Q hA N1.rep i1 λs2 N2=>h aC s2<|N1.trans N2) he
theorem TV.not(G:TV C n e st b am):TV C n (.UnaryOp .Not e p) st (!b) am:=.mk λA s ρ Q hA R h=>
 isTrue_not (G A s ρ _ hA R λaC s1 N1=>h aC s1 N1)
theorem pY:TV C n (.BoolOp .And [] p) st true st:=.mk λA s ρ Q hA R h=>isTrue_and_nil<|h ρ s<|ek R
theorem TV.or_nil:TV C n (.BoolOp .Or [] p) st false st:=.mk λA s ρ Q hA R h=>isTrue_or_nil<|h ρ s<|ek R
theorem jm(G:TV C n e st false am):TV C n (.BoolOp .And (e::es) p) st false am:=.mk λA s ρ Q hA R h=>
 isTrue_and (G A s ρ _ hA R λaC s1 N1=>h aC s1 N1)
theorem kq(G:TV C n e st true am)(h2:TV C n (.BoolOp .And es p) am b ba):TV C n (.BoolOp .And (e::es) p) st b ba:=.mk λA s ρ Q hA R h=>
 isTrue_and (G A s ρ _ hA R λaC s1 N1=>h2 A s1 aC Q hA N1.rep λbh s2 N2=>h bh s2<|N1.trans N2)
theorem TV.or_true(G:TV C n e st true am):TV C n (.BoolOp .Or (e::es) p) st true am:=.mk λA s ρ Q hA R h=>
 isTrue_or (G A s ρ _ hA R λaC s1 N1=>h aC s1 N1)
theorem TV.or_false(G:TV C n e st false am)(h2:TV C n (.BoolOp .Or es p) am b ba):TV C n (.BoolOp .Or (e::es) p) st b ba:=.mk λA s ρ Q hA R h=>
 isTrue_or (G A s ρ _ hA R λaC s1 N1=>h2 A s1 aC Q hA N1.rep λbh s2 N2=>h bh s2<|N1.trans N2)
theorem EV.ifT{a b:bv}(G:TV C n t st true am)(h2:EV C n a am v ba):EV C n (.IfExp t a b p) st v ba:=.mk λA s ρ Q hA R h=>
 wpAny_IfExp (G A s ρ _ hA R λaC s1 N1=>h2 A s1 aC Q hA N1.rep λbh x s2 N2 i2=>h bh x s2 (N1.trans N2) i2)
theorem EV.ifF{a b:bv}(G:TV C n t st false am)(h2:EV C n b am v ba):EV C n (.IfExp t a b p) st v ba:=.mk λA s ρ Q hA R h=>
 wpAny_IfExp (G A s ρ _ hA R λaC s1 N1=>h2 A s1 aC Q hA N1.rep λbh x s2 N2 i2=>h bh x s2 (N1.trans N2) i2)
theorem dL{es:J bv}{k:B}{p:cN}{vs:J V}(G:iD C n es st vs am)(hz:U vs<=16777216:=by exact bY rfl):EV C n (.Tuple es k p) st (.tup (.type "tuple") vs) am:=.mk λA s ρ Q hA R h=>by
 refine Tuple_<|G A s ρ p _ hA R λaC xs s1 N1 i1=>?_;have hl:U xs<=km:=by exact D (dK i1)<|mo hz
 refine wpAny_newObj_type (h aC _ _ (N1.trans<|bk.push N1.rep _ _) ⟨rfl,_,xs.toArray,0,rfl,ew _ rfl,i1.mono (bP _)<|bF.push _ _⟩) ?_
 show xs.toArray.size<=km;exact D rV hl
theorem eI{es:J bv}{p:cN}{vs:J V}(G:iD C n es st vs am)(hz:U vs<=16777216:=by exact bY rfl):EV C n (.List es p) st (.ref<|U am.hp) ⟨am.loc,am.hp++[.list vs]⟩:=.mk λA s ρ Q hA R h=>by
 refine List_<|G A s ρ p _ hA R λaC xs s1 N1 i1=>?_;have hl:U xs<=km:=by exact D (dK i1)<|mo hz
 refine wpAny_newObj_type (h (aC++[s1.heap.objs.size]) _ _ (N1.trans (bk.alloc (ob:=.list vs) (o:=⟨.type "list",aA,.seq xs.toArray 0,#[]⟩) N1.rep rfl ⟨xs.toArray,0,ew _ rfl,i1.mono (gN ..) (bF.push _ _)⟩ _))
  ⟨s1.heap.objs.size,by(refine D (dc (by rw[N1.rep.led.len];exact aG _)) (D N1.rep.led.len (D (fG _) ?_)));rfl,rfl⟩) ?_
 show xs.toArray.size<=km;rw[rV];exact hl
theorem X1.brk{p:cN}{K:Fl->St->Prop}(h:K .brk st):X1 C n q (.Break p) st K:=.mk λA s ρ Q hA R k=>wpAny_Break<|k ρ .brk .brk st s h (eH.refl R) rfl
theorem X1.cont{p:cN}{K:Fl->St->Prop}(h:K .cont st):X1 C n q (.Continue p) st K:=.mk λA s ρ Q hA R k=>wpAny_Continue<|k ρ .cont .cont st s h (eH.refl R) rfl
theorem X1.aug{op:Operator}{r:V}(hl:st.loc.lookup x=some aiA)(G:EV C n e st v am)(h2:a8 C n (inplaceOp op) aiA v am r ba)(h:K .next (ba.put x r))
  (hk:aO (C.env.scope.kind= .function) a9) (hn:aO (C.env.kindOf x=some .local) a9):X1 C n q (.AugAssign (.Name x p') op e p) st K:=.mk λA s ρ Q hA R k=>by
 exact aH R.loc λm bT hm=>aH (hm x aiA hl) λy hy hv=>wpAny_AugAssign_Name (wpAny_loadName_local hk hn bT hy (G A s ρ _ hA R λaC z s1 N1 i1=>h2 A s1 aC y z _ hA N1.rep (hv.mono N1.pre N1.aX) i1 λbh w s2 N2 i2=>
  vZ N2.rep i2 (λs3 N3=>k bh .next _ _ s3 h ((N1.trans N2).trans N3).toS rfl) hk hn))
theorem a8.iadd_int{a b:az}:a8 C n (inplaceOp .Add) (.int a) (.int b) st (.int<|a+b) st:=.mk λA s ρ x y Q hA R ⟨t,e1⟩ ⟨aiA,e2⟩ h=>by
 subst e1 e2;exact PyProof.Rows.iadd_int<|h ρ _ _ (gj R _) ⟨_,rfl⟩
noncomputable def St.Bw(st:St):J ao->J V->St
 |x::xs,v::vs=>St.Bw (st.put x v) xs vs
 |_,_=>st
theorem Oc:∀{xs:J ao} {vs:J V} {st:St} {ys:J ak} {A:bS} {s:ay} {ρ:J ax} {Q:fF->ay->Prop},Rep C ρ st s->V.IsL ρ s.heap vs ys->
  (∀x∈xs,C.env.kindOf x=some .local)->C.env.scope.kind= .function->(∀s',bk C ρ s (st.Bw xs vs) ρ s'->Q () s')->aF (aN C.prog C.w) A (assignInOrder (xs.map λx=>bindName C.env x) ys) Q bq s
 | [],vs,st,ys,A,s,ρ,Q,R,hi,hx,hk,h=>by cases vs<;>exact wpAny_pure<|h s (ek R)
 |x::xs,[],st,ys,A,s,ρ,Q,R,hi,hx,hk,h=>by
  obtain rfl:ys=[]:=hi;exact wpAny_pure<|h s<|ek R
 |x::xs,v::vs,st,_,A,s,ρ,Q,R,z0,hx,hk,h=>dh z0 λy ys ez i1 i2=>by
  subst ez;show aF _ _ (do holding ys (bindName C.env x y);assignInOrder (xs.map λx=>bindName C.env x) ys) _ _ _;exact wpAny_bind<|wpAny_holding<|wpAny_bindName<|vZ R i1 (λs1 N1=>(Oc N1.rep (i2.mono N1.pre N1.aX) (λz hz=>hx z<|.tail _ hz) hk λs2 N2=>h s2<|N1.trans N2)) hk<|hx x<|.head _
theorem V.IsL.reverse{ρ:J ax}{h:bn}:∀{l:J V} {xs:J ak},V.IsL ρ h l xs->V.IsL ρ h l.reverse xs.reverse
 | [],_,e=>by exact D (show _=[] from e) rfl
 |v::l,_,z0=>dh z0 λx r e e1 e2=>by subst e;exact D Ac<|D Ac<|V.IsL.append (V.IsL.reverse e2) ⟨x,[],rfl,e1,rfl⟩
theorem Od{x:ak}{Q:J ak->ay->Prop}(hA:A.handled=aA)(R:Rep C ρ st s)(hi:V.Is ρ s.heap (.tup (.type "tuple") vs) x)
  (h:∀ys s',bk C ρ s st ρ s'->V.IsL ρ s'.heap vs ys->Q ys s'):aF (aN C.prog C.w) A (unpackItems x (U vs) aA) Q bq s:=by
 refine oK hi λH a ar k av ho hl=>?_
 clear hi;subst av;have ht:IsTup s.heap a ar:=⟨_,ho,rfl,k,rfl⟩
 have hz:U vs=ar.size:=by rw[←eO,dK hl]
 refine D hz<|unpackItems_tuple hA ht λh' he=>?_;have kp:∀b o,s.heap.get? b=some o->h'.get? b=some o:=λb o e=>he b o (iT<|dH e) e;exact h _ _ (bk.grow R kp (eN.refl _) rfl rfl)<|hl.mono (bP _)<|iB kp
theorem X1.Gf(G:EV C n e st (.tup (.type "tuple") vs) am)(h:K .next (am.Bw names.reverse vs.reverse))(hl:aO (U names=U vs) a9)
  (hx:aO (names.all (λx=>C.env.kindOf x==some .local)=true) a9) (hk:aO (C.env.scope.kind= .function) a9) (hs:aO (vK [.Tuple elts k tp] e p.line C.env=pure false) a9) (hw:aO (vL [.Tuple elts k tp] e C.env=pure (some names)) a9):
  X1 C n q (.Assign [.Tuple elts k tp] e p) st K:=.mk λA s ρ Q hA R kk=>by
 exact Assign_Tuple_swapped (G A s ρ _ hA R λaC x s1 N1 i1=>(D hl<|Od hA.1 N1.rep i1 λys s2 N2 i2=>(Oc N2.rep (V.IsL.reverse i2) (λx hm=>eq_of_beq<|fX.mp hx x<|JS.mp hm) hk λs3 N3=>kk aC .next _ _ s3 h ((N1.trans N2).trans N3).toS rfl))) hs hw
theorem rg(G:EV C n e st (.tup (.type "tuple") vs) am)(h:XS C n q r (am.Bw names.reverse vs.reverse) K)(hl:aO (U names=U vs) a9)
  (hx:aO (names.all (λx=>C.env.kindOf x==some .local)=true) a9) (hk:aO (C.env.scope.kind= .function) a9) (hs:aO (vK [.Tuple elts k tp] e p.line C.env=pure false) a9) (hw:aO (vL [.Tuple elts k tp] e C.env=pure (some names)) a9):
  XS C n q (.Assign [.Tuple elts k tp] e p::r) st K:=cg<|X1.Gf G h hl hx hk hs hw
noncomputable def jE(own:J ax)(h h':bn):Prop:=∀b o,b∉own->h.get? b=some o->h'.get? b=some o
theorem Rep.own{ρ:J ax}{s:ay}{own:J ax}{h':bn}(R:Rep C ρ st s)(ho:∀a∈own,a∉ρ/\a≠C.env.locals/\C.top.get? a=none)(he:jE own s.heap h')(hs:bF s.heap h')(t:B):
  Rep C ρ st {s with heap:=h',toks:=t}:=by
 refine⟨?_,⟨R.led.len,λj o a e q=>?_,R.led.nodup,R.led.fC,R.led.low,R.led.gT,λb o e=>he b o (λhb=>?_)<|R.led.top b o e,R.led.os,R.led.drawn⟩⟩
 ·refine aH R.loc λm hn hm=>?_
  exact⟨m,mj hn λo e=>he _ o (λhb=>(ho _ hb).2.1 rfl) e,λx v e=>by obtain⟨y,hy,q⟩:=hm x v e;exact⟨y,hy,q.mono (bP _) hs⟩⟩
 ·have z:=R.led.objs j o a e q;exact aH z.there λx hx H=>(z.mono (bP _) hs<|(he a x (λhb=>(ho a hb).1<|dT q) hx).trans hx.symm)
 ·have:=(ho b hb).2.2;simp only[this] at e;exact nomatch e
theorem eH.own{p:B}{fO ρ:J ax}{s0 s:ay}{own:J ax}{h':bn}(N:eH C p fO s0 st ρ s)(ho:∀a∈own,a∉ρ/\a≠C.env.locals/\C.top.get? a=none)(hf:∀a∈own,s0.heap.get? a=none)(he:jE own s.heap h')(hs:bF s.heap h')(t:B):
  eH C p fO s0 st ρ {s with heap:=h',toks:=t}:=
 ⟨N.pre,N.aX.trans hs,λb o e G h2=>he b o (λhb=>by have:=hf b hb;rw[this] at e;cases e)<|N.keep b o e G h2,N.fresh,N.gens,N.rep.own ho he hs t⟩
theorem bk.own{fO ρ:J ax}{s0 s:ay}{own:J ax}{h':bn}(N:bk C fO s0 st ρ s)(ho:∀a∈own,a∉ρ/\a≠C.env.locals/\C.top.get? a=none)(hf:∀a∈own,s0.heap.get? a=none)(he:jE own s.heap h')(hs:bF s.heap h')(t:B):
  bk C fO s0 st ρ {s with heap:=h',toks:=t}:=
 ⟨N.pre,N.aX.trans hs,λb o e G h2=>he b o (λhb=>by have:=hf b hb;rw[this] at e;cases e)<|N.keep b o e G h2,N.fresh,N.gens,N.rep.own ho he hs t⟩
noncomputable def v7(C:Cx)(n:B)(target:bv)(it:ak)(own:J ax)(At:B->bn->Prop)(items:J V)(aiy:St->Prop)(aC:J ax):Prop:=
 (∀i h h',At i h->(∀a∈own,∀o,h.get? a=some o->h'.get? a=some o)->bF h h'->At i h')/\(∀i h,At i h->∀a∈own,∃o,h.get? a=some o)/\
 ∀(i:B) (A:bS) (s:ay) (ρ:J ax) (st:St) (Qn:ay->Prop) (Qs:ak->ay->Prop),cn n A->Rep C ρ st s->aC<+:ρ->aiy st->At i s.heap->(∀a∈own,a∉ρ/\a≠C.env.locals/\C.top.get? a=none)->
  (∀v,items[i]?=some v->∀x h' t,At (i+1) h'->jE own s.heap h'->bF s.heap h'->v.Is ρ h' x->Qs x {s with heap:=h',toks:=t})->
  (items[i]?=aA->∀h' t,jE own s.heap h'->bF s.heap h'->Qn {s with heap:=h',toks:=t})->
  aF (aN C.prog C.w) A (oG it) (λr s'=>match r with
   |Option.none=>Qn s'
   |some x=>aF (aN C.prog C.w) A (xt target it x) (λH bQ=>Qs x bQ) bq s') bq s
noncomputable def Bx(C:Cx)(n:B)(v:V)(st:St)(items:J V)(aiy:St->Prop)(lo:B):Prop:=
 ∀(A:bS) (s:ay) (ρ:J ax) (x:ak) (Q:ak->ay->Prop),cn n A->Rep C ρ st s->v.Is ρ s.heap x->
  (∀it own At s',(∀target p,lo<=p->v7 C n target it own At items aiy (ρ.take p))->At 0 s'.heap->(∀a∈own,s.heap.get? a=aA)->bk C ρ s st ρ s'->Q it s')->aF (aN C.prog C.w) A (oH x) Q bq s
@[irreducible] noncomputable def fP(C:Cx)(n:B)(v:V)(st:St)(items:J V)(aiy:St->Prop)(lo:B):Prop:=Bx C n v st items aiy lo
theorem fP.mk(run:Bx C n v st items aiy lo):fP C n v st items aiy lo:=by with_unfolding_all exact run
theorem fP.run(h:fP C n v st items aiy lo):Bx C n v st items aiy lo:=by with_unfolding_all exact h
noncomputable instance{C:Cx}{n:B}{v:V}{st:St}{items:J V}{aiy:St->Prop}{lo:B}:l7 (fP C n v st items aiy lo) (λH=>Bx C n v st items aiy lo):=⟨fP.run⟩
noncomputable def By(C:Cx)(n:B)(target e:bv)(st am:St)(items:J V)(aiy:St->Prop)(lo:B):Prop:=
 ∀(A:bS) (s:ay) (ρ:J ax) (Q:ak->ay->Prop),cn n A->Rep C ρ st s->
  (∀aC it own At s',(∀p,lo<=p->v7 C n target it own At items aiy (aC.take p))->At 0 s'.heap->(∀a∈own,a∉aC/\s.heap.get? a=aA)->bk C ρ s am aC s'->Q it s')->
  aF (aN C.prog C.w) A (eval e C.env) (λx s1=>aF (aN C.prog C.w) A (oH x) Q bq s1) bq s
@[irreducible] noncomputable def gw(C:Cx)(n:B)(target e:bv)(st am:St)(items:J V)(aiy:St->Prop)(lo:B):Prop:=By C n target e st am items aiy lo
theorem gw.mk(run:By C n target e st am items aiy lo):gw C n target e st am items aiy lo:=by with_unfolding_all exact run
theorem gw.run(h:gw C n target e st am items aiy lo):By C n target e st am items aiy lo:=by with_unfolding_all exact h
noncomputable instance{C:Cx}{n:B}{target e:bv}{st am:St}{items:J V}{aiy:St->Prop}{lo:B}:l7 (gw C n target e st am items aiy lo) (λH=>By C n target e st am items aiy lo):=⟨gw.run⟩
theorem gw.of(G:EV C n e st v am)(h2:fP C n v am items aiy lo):gw C n target e st am items aiy lo:=.mk λA s ρ Q hA R h=>by
 refine G A s ρ _ hA R λaC x s1 N1 i1=>h2 A s1 aC x _ hA N1.rep i1 λit own At s2 hit cO dj N2=>?_
 have Oe:∀a∈own,a∉aC:=λa ha hr=>by
  refine mO (N1.rep.toF.mem hr) λH H ob H H H h3 H=>?_
  simp only[dj a ha] at h3;exact nomatch h3
 refine h aC it own At s2 (hit target) cO (λa ha=>⟨Oe a ha,?_⟩)<|N1.trans N2;cases e:s.heap.get? a with
 |none=>rfl
 |some o=>
  have v8:=dj a ha
  by_cases hl:a=C.env.locals
  ·subst hl;refine aH N1.rep.loc λm cq H=>eR cq λoL H H hL H=>?_
   simp only[hL] at v8;exact nomatch v8
  ·by_cases hr:a∈ρ
   ·exact aZ (N1.pre.subset hr)<|Oe a ha
   ·simp only[N1.keep a o e hr hl] at v8;exact nomatch v8
noncomputable def Bz(C:Cx)(n:B)(target:bv)(v:V)(st aj:St):Prop:=
 ∀(A:bS) (s:ay) (ρ:J ax) (x:ak) (Q:fF->ay->Prop),cn n A->Rep C ρ st s->v.Is ρ s.heap x->(∀aB s',bk C ρ s aj aB s'->Q () s')->aF (aN C.prog C.w) A (assign target C.env x) Q bq s
@[irreducible] noncomputable def cW(C:Cx)(n:B)(target:bv)(v:V)(st aj:St):Prop:=Bz C n target v st aj
theorem cW.mk(run:Bz C n target v st aj):cW C n target v st aj:=by with_unfolding_all exact run
theorem cW.run(h:cW C n target v st aj):Bz C n target v st aj:=by with_unfolding_all exact h
noncomputable instance{C:Cx}{n:B}{target:bv}{v:V}{st aj:St}:l7 (cW C n target v st aj) (λH=>Bz C n target v st aj):=⟨cW.run⟩
theorem bW(hk:aO (C.env.scope.kind= .function) a9)(hn:aO (C.env.kindOf x=some .local) a9):cW C n (.Name x p) v st (st.put x v):=.mk λA s ρ y Q hA R hv h=>
 wpAny_assign_Name (vZ R hv (λs' N=>h ρ s' N) hk hn)
noncomputable def SubL(r loc:J<|ao×V):Prop:=∀x v,r.lookup x=some v->loc.lookup x=some v
theorem SubL.nil{loc:J (ao×V)}:SubL [] loc:=λx v h=>by exact nomatch h
theorem SubL.cons{k:ao}{r loc:J (ao×V)}(h:loc.lookup k=some v)(t:SubL r loc):SubL ((k,v)::r) loc:=λx aiA e=>by
 rw[gv] at e;cases hq:x==k with
 |true=>rw[hq] at e;(cases cj e;clear e);exact D (eq_of_beq hq) h
 |false=>rw[hq] at e;exact t x aiA e
theorem bp{loc:J (ao×V)}:∀{r:J (ao×V)},(r.map λp=>loc.lookup p.1)=(r.map λp=>some p.2)->SubL r loc
 | []=>λH=>SubL.nil
 |(_,_)::_=>λh=>SubL.cons (tK h).1<|bp (tK h).2
noncomputable def c9(aiC:B->B)(g:B->bb)(r loc:J<|ao×V):Prop:=∀x v',r.lookup x=some v'->∃v,loc.lookup x=some v/\v.bG g=true/\v'=v.cf aiC
theorem c9.nil{loc:J (ao×V)}:c9 aiC g [] loc:=λx v h=>by exact nomatch h
theorem c9.cons{k:ao}{v':V}{r loc:J (ao×V)}(h:loc.lookup k=some v)(hi:v.bG g=true)(hr:v'=v.cf aiC)(t:c9 aiC g r loc):c9 aiC g ((k,v')::r) loc:=λx aiA e=>by
 rw[gv] at e;cases hq:x==k with
 |true=>rw[hq] at e;(cases cj e;clear e);exact D (eq_of_beq hq)<|⟨v,h,hi,hr⟩
 |false=>rw[hq] at e;exact t x aiA e
noncomputable def jn(p:B)(st aj:St):Prop:=(aj.hp=st.hp/\SubL aj.loc st.loc)\/∃ns aiC g,Cv p ns aiC g st.hp aj.hp/\c9 aiC g aj.loc st.loc
theorem jn.loc{p:B}{l:J (ao×V)}(h:SubL l' l):jn p ⟨l,hp⟩ ⟨l',hp⟩:=.inl ⟨rfl,h⟩
theorem eH.conv{p:B}(R:Rep C ρ st s)(hp:p<=U st.hp)(c:jn p st aj):∃bh,eH C p ρ s aj bh s/\∀a∈bh,a∈ρ:=by
 rcases c with ⟨ch,cl⟩|⟨ns,aiC,g,cv,cl⟩
 ·refine⟨ρ,⟨pH ..,bF.refl _,λH H e H H=>e,λa h q=>aZ h q,eN.refl _,?_,?_⟩,λH h=>h⟩
  ·exact aH R.loc λm bT hm=>(⟨m,bT,λx v e=>hm x v<|cl x v e⟩)
  ·exact D ch R.led
 have k:=cv.cut (ρ:=ρ.take p) (by simp only[gE,R.led.len];exact FB hp) (pH ..) R.toF;refine⟨_,⟨k.pre,bF.refl _,λH H e H H=>e,λa h q=>aZ (k.sub a h) q,eN.refl _,(aH R.loc λm bT hm=>(⟨m,bT,λx v' e=>(cP (cl x v' e) λv e1 e2 av=>?_)⟩)),⟨k.led.len,k.led.objs,k.led.nodup,λh=>R.led.fC<|k.sub _ h,k.led.low,R.led.gT,k.led.top,k.led.os,k.led.drawn⟩⟩,k.sub⟩;subst av;exact aH (hm x v e1) λy hy q=>(⟨y,hy,q.cf k.cf e2⟩)
theorem jo{ss:J eX}{K:Fl->St->Prop}{aj:St}(c:jn q st aj)(h:XS C n q ss aj K)(hp:q<=U st.hp):XS C n q ss st K:=.mk λA s ρ Q hA R k=>by
 exact aH (eH.conv R hp c) λbh N2 H=>(h A s bh Q hA N2.rep λdp fl aiC ce s3 hK N3 hf=>k dp fl aiC ce s3 hK (N2.trans N3) hf)
theorem XS.forget{l:J (ao×V)}(c:SubL l' l)(h:XS C n q ss ⟨l',hp⟩ K):XS C n q ss ⟨l,hp⟩ K:=.mk λA s ρ Q hA R k=>by
 have R':Rep C ρ ⟨l',hp⟩ s:=⟨by obtain⟨m,bT,hm⟩:=R.loc;exact⟨m,bT,λx v e=>hm x v<|c x v e⟩,R.led⟩
 exact h A s ρ Q hA R' λdp fl aiC ce s3 hK N3 hf=>k dp fl aiC ce s3 hK N3 hf
theorem nW{iter:bv}(r:B)(Inv:B->St->Prop)
  (G:gw C n target iter st am items aiy lo) (h0:Inv 0 am) (hD:∀i aj,i<=U items->Inv i aj->aiy aj) (kr:lo<=r) (hq:q<=r)
  (iY:∀i aiA aj,items[i]?=some aiA->Inv i aj->∃ba,cW C n target aiA aj ba/\XS C n r body ba (kL (Inv<|i+1) K))
  (sy:∀aj,Inv (U items) aj->XS C n q orelse aj K)
  (hs:aO (∀x,pL iter C.env x=pure x) aI._auto_1):
  X1 C n q (.For target iter body orelse pos) st K:=.mk λA s ρ Q hA R k=>by
 refine wpAny_For (G A s ρ _ hA R λaC it own At s2 uB cO dj iZ=>?_) hs;have hit:=uB r kr;have jp:∀a∈own,C.top.get? a=aA:=λa ha=>by
  cases e:C.top.get? a with
  |none=>rfl
  |some o=>have:=R.led.top a o e;rw[(dj a ha).2] at this;exact nomatch this
 have lJ:∀a∈own,a≠C.env.locals:=λa ha e=>by
  subst e;refine aH R.loc λm cq H=>eR cq λoL H H hL H=>?_
  simp only[(dj _ ha).2] at hL;exact nomatch hL
 have weak:∀{ρ s aj aB s'},eH C r ρ s aj aB s'->eH C q ρ s aj aB s':=λN=>⟨xk (w8 hq) N.pre,N.aX,N.keep,N.fresh,N.gens,N.rep⟩
 refine codeAny_forLoop_any (λm s'=>∃i aB aj,m=U items-i/\i<=U items/\Inv i aj/\eH C q ρ s aj aB s'/\aC.take r<+:aB/\At i s'.heap/\(∀a∈own,a∉aB)) ?_ (U items)
  ⟨0,aC,am,rfl,bH _,h0,iZ.toS,pH ..,cO,λa ha=>(dj a ha).1⟩
 intro m s' dM;refine AK dM λi aB aj bE hi hI bR=>?_
 clear dM;subst bE;refine gg bR λN NN Gg yd=>?_
 have side:∀a∈own,a∉aB/\a≠C.env.locals/\C.top.get? a=aA:=λa ha=>⟨yd a ha,lJ a ha,jp a ha⟩
 refine wpAny_mono (hit.2.2 i A s' aB aj
   (λcX=>aF (aN C.prog C.w) A (mK orelse C.env) Q bq cX)
   (λy cX=>aF (aN C.prog C.w) A (PySem.assign target C.env y) (λH sB=>aF (aN C.prog C.w) A (mK body C.env) (λaiC lK=>match aiC with
     | .next| .cont=>∃m,m<U items-i/\(∃i aB aj,m=U items-i/\i<=U items/\Inv i aj/\eH C q ρ s aj aB lK/\aC.take r<+:aB/\At i lK.heap/\(∀a∈own,a∉aB))
     | .brk=>Q .next lK
     | .ret v=>Q (.ret v) lK) bq sB) bq cX) hA N.rep NN (hD i aj hi hI) Gg side ?_ ?_) (λr cX h=>?_) (λH H h=>h.elim)
 ·intro aiA hu y h' t at' ext aX iy;have Ni:=N.own side (λa ha=>(dj a ha).2) ext aX t;have lt:i<U items:=(cJ.mp hu).1;refine aH (iY i aiA aj hu hI) λba ye hB=>ye A _ aB y _ hA Ni.rep iy λdp s3 N3=>hB A s3 dp _ hA N3.rep λeY fl aiC hO s4 hK N4 hf=>?_
  have rh:=N3.FW N4;have sC:=Ni.trans<|weak rh;have ownIn:∀a∈own,a∉eY/\(∀o,h'.get? a=some o->s4.heap.get? a=some o):=λa ha=>by
   refine xE (hit.2.1 (i+1) h' at' a ha) λo ho=>⟨λhm=>?_,λo e=>rh.keep a o e (yd a ha)<|lJ a ha⟩
   have:=rh.fresh a hm<|yd a ha;simp only[show h'.get? a=aA from this] at ho;exact nomatch ho
  have again:Inv (i+1) hO->∃m,m<U items-i/\(∃i aB aj,m=U items-i/\i<=U items/\Inv i aj/\eH C q ρ s aj aB s4/\aC.take r<+:aB/\At i s4.heap/\(∀a∈own,a∉aB)):=λi6=>
   ⟨U items-(i+1),by exact FC lt,i+1,eY,hO,rfl,lt,i6,sC,pW NN rh.pre,hit.1 (i+1) h' _ at' (λa ha=>(ownIn a ha).2) rh.aX,λa ha=>(ownIn a ha).1⟩
  cases fl with
  |next=>subst hf;exact again hK
  |cont=>subst hf;exact again hK
  |brk=>subst hf;exact k eY .next _ hO s4 hK sC rfl
  |ret w=>obtain⟨z,rfl,hz⟩:=hf;exact k eY (.ret w) _ hO s4 hK sC ⟨z,rfl,hz⟩
 ·intro hu h' t ext aX;have Ni:=N.own side (λa ha=>(dj a ha).2) ext aX t;have he:i=U items:=D8 hi<|ou.mp hu;subst he;exact sy aj hI A _ aB Q hA Ni.rep λeY fl aiC hO s4 hK N4 hf=>k eY fl aiC hO s4 hK (Ni.trans N4) hf
 ·cases r with
  |none=>exact wpAny_mono h (λH H h=>h) λH H h=>h.elim
  |some y=>
   refine wpAny_mono h (λH sB h=>wpAny_mono h (λH sB h=>wpAny_mono h (λaiC lK h=>?_) λH H h=>h.elim) λH H h=>h.elim) λH H h=>h.elim;cases aiC<;>exact h
theorem yf{vs:bD ak}(h:o.data= .fields vs):me o=false:=AL h
theorem Of{l:ax}{i:B}(x:h.IsListIter it l i)(e:jE [it] h h'):bF h h':=λb o q t=>e b o (λhb=>by
 rw[bx] at hb;subst hb;refine cP x λob ho H hd=>?_
 rw[ho] at q;cases q
 rw[yf hd] at t;cases t) q
theorem BA{r:ax}{x:ak}{Q:fF->ay->Prop}(ho:s.heap.get? r=some o)(hc:o.cls= .type T)
  (hT: ["enumerate","zip","dict_itemiterator","dict_reverseitemiterator","odict_iterator","itertools.zip_longest","itertools.pairwise"].contains T=false) (h:Q () s):aF (aN C.prog C.w) A (xt target (.ref r) x) Q bq s:=by
 have key:∀a:ax,aF (aN C.prog C.w) A (do
   let o ←load r
   match o.cls,o.data with
   | .type n,.fields vs=>
    if["enumerate","zip","dict_itemiterator","dict_reverseitemiterator","odict_iterator","itertools.zip_longest","itertools.pairwise"].contains n&&vs[0]?==some (rawInt a) then
     rule "for.unpacks-the-owned-tuple"
     updateField r 0 .none
   |_,_=>pure ()) Q bq s:=λa=>by
  refine wpAny_bind<|wpAny_load ho<|D hc ?_;cases o.data with
  |fields vs=>
   show aF _ A (if(["enumerate","zip","dict_itemiterator","dict_reverseitemiterator","odict_iterator","itertools.zip_longest","itertools.pairwise"].contains T&&_)=true then _ else _) Q bq s;exact D hT<|D (bb.false_and _)<|D (aE dy)<|wpAny_pure h
  |_=>exact wpAny_pure h
 have k2:aF (aN C.prog C.w) A (xt (.Tuple [] 0 default) (.ref r) x) Q bq s:=by
  cases x with
  |ref a=>exact key a
  |_=>exact wpAny_pure h
 cases target with
 |Tuple=>exact k2
 |List=>exact k2
 |_=>exact wpAny_pure h
noncomputable def Gh(C:Cx)(it:ak)(At:B->bn->Prop):Prop:=∀(i:B) (A:bS) (s:ay) (Q:ak->ay->Prop),At i s.heap->Q it s->aF (aN C.prog C.w) A (oH it) Q bq s
@[irreducible] noncomputable def fD(C:Cx)(n:B)(v:V)(st:St)(items:J V)(aiy:St->Prop)(lo:B):Prop:=∀(A:bS) (s:ay) (ρ:J ax) (x:ak) (Q:ak->ay->Prop),cn n A->Rep C ρ st s->v.Is ρ s.heap x->
  (∀it own At s',(∀target p,lo<=p->v7 C n target it own At items aiy (ρ.take p))->Gh C it At->At 0 s'.heap->(∀a∈own,s.heap.get? a=aA)->bk C ρ s st ρ s'->Q it s')->aF (aN C.prog C.w) A (oH x) Q bq s
theorem fD.mk(run:∀(A:bS) (s:ay) (ρ:J ax) (x:ak) (Q:ak->ay->Prop),cn n A->Rep C ρ st s->v.Is ρ s.heap x->
  (∀it own At s',(∀target p,lo<=p->v7 C n target it own At items aiy (ρ.take p))->Gh C it At->At 0 s'.heap->(∀a∈own,s.heap.get? a=aA)->bk C ρ s st ρ s'->Q it s')->aF (aN C.prog C.w) A (oH x) Q bq s):fD C n v st items aiy lo:=by with_unfolding_all exact run
theorem fD.run(h:fD C n v st items aiy lo):∀(A:bS) (s:ay) (ρ:J ax) (x:ak) (Q:ak->ay->Prop),cn n A->Rep C ρ st s->v.Is ρ s.heap x->
  (∀it own At s',(∀target p,lo<=p->v7 C n target it own At items aiy (ρ.take p))->Gh C it At->At 0 s'.heap->(∀a∈own,s.heap.get? a=aA)->bk C ρ s st ρ s'->Q it s')->aF (aN C.prog C.w) A (oH x) Q bq s:=by with_unfolding_all exact h
theorem fD.ok(h:fD C n v st items aiy lo):fP C n v st items aiy lo:=.mk λA s ρ x Q hA R hv k=>h.run A s ρ x Q hA R hv λit own At s' G H=>k it own At s' G
theorem fD.list{k:B}{items:J V}(hk:st.hp[k]?=some (.list items)):fD C n (.ref k) st items (λaj=>aj.hp[k]?=some (.list items)) (k+1):=.mk λA s ρ x Q hA R hv h=>by
 refine aH hv λl hl av=>?_
 clear hv;subst av;refine dv (R.led.objs k _ l hk hl) λvs m ho hi=>?_
 have hL:s.heap.IsList l vs:=⟨_,ho,rfl,m,rfl⟩
 refine wpAny_pyIter_list hL<|h (.ref s.heap.objs.size) [s.heap.objs.size] (λi h=>h.IsListIter s.heap.objs.size l i) _ (λtarget p hp=>⟨λi h h' x e H=>x.at λo=>e _ (.head _) o,λi h x a ha=>?_,?_⟩) (λi A s Q h hq=>wpAny_pyIter_listiter h hq) ⟨_,ew _ rfl,rfl,rfl⟩ (λa ha=>?_)<|bk.push R _ s.toks
 ·rw[bx] at ha;subst ha;exact aH x λo ho H=>(⟨o,ho⟩)
 ·intro i A' s' aB aj Qn Qs fQ R' pre hD cO side ri rj;obtain⟨l',kt,mT,m',gH,ic⟩:∃l',aB[k]?=some l'/\∃mT m',s'.heap.get? l'=some ⟨.type "list",aA,.seq mT m',#[]⟩/\V.IsL aB s'.heap items mT.toList:=by
   exact cP (R'.led.at hD) λa G cq H=>dv cq λmT m' h2 h3=>(⟨a,G,mT,m',h2,h3⟩)
  have:l'=l:=by
   have:=pT pre (by refine D (zW hp) ?_;exact hl);rw[kt] at this;cases this;rfl
  subst this;have sD:s'.heap.IsList l' mT:=⟨_,gH,rfl,m',rfl⟩
  have jF:∀{h2:bn},qX s.heap.objs.size s'.heap h2->jE [s.heap.objs.size] s'.heap h2:=λe b o hb q=>e b o (λz=>hb<|z▸ .head _) q;cases hq:items[i]? with
  |some v=>
   refine aH (V.IsL.get ic hq) λx hx hv=>?_
   refine wpAny_pyNext_list_item cO sD (by refine bL (jX) ?_;exact hx) λh2 mU gx=>?_
   have ba:=Of cO<|jF gx.extBut;exact cP (id mU) λoi yg yh H=>(BA yg yh (by decide)<|ri v hq x h2 s'.toks mU (jF gx.extBut) ba<|hv.mono (bP _) ba)
  |none=>
   refine wpAny_pyNext_list_end fQ.1 cO sD ?_ λh2 gx=>?_
   ·rw[←jX,ou,dK ic,←ou];exact hq
   ·exact rj hq h2 s'.toks (jF gx)<|Of cO<|jF gx
 ·rw[bx] at ha;subst ha;exact uv
theorem fP.list{k:B}{items:J V}(hk:st.hp[k]?=some (.list items)):fP C n (.ref k) st items (λaj=>aj.hp[k]?=some (.list items)) (k+1):=(fD.list hk).ok
theorem Og{ty:dm}{t:jh}{i:B}(y:h.IsStrIter it ty x t i)(e:jE [it] h h'):bF h h':=λb o q t=>e b o (λhb=>by
 rw[bx] at hb;subst hb;refine cP y λob ho H hd=>?_
 rw[ho] at q;cases q
 rw[yf hd] at t;cases t) q
noncomputable def signs(x:ao):J V:=x.cps.toList.map λc=>.str ⟨#[c]⟩
theorem fD.str{x:ao}:fD C n (.str x) st (signs x) (λH=>gF) 0:=.mk λA s ρ y Q hA R hv h=>by
 refine xE hv λt av=>?_
 clear hv;subst av;have jF:∀{a:ax} {G h2:bn},qX a G h2->jE [a] G h2:=λe b o hb q=>e b o (λz=>hb<|z▸ .head _) q;have at':∀{i:B} {v:V},(signs x)[i]?=some v->∃c,x.cps[i]?=some c/\v= .str ⟨#[c]⟩:=λ{i v} e=>by
  unfold signs at e;rw[c7,jX] at e;cases hc:x.cps[i]? with
  |none=>rw[hc] at e;cases e
  |some c=>rw[hc] at e;cases e;exact⟨c,rfl,rfl⟩
 have Gi:∀{i:B},(signs x)[i]?=aA->x.cps[i]?=aA:=λ{i} e=>by
  unfold signs at e;rw[c7,jX] at e;cases hc:x.cps[i]? with
  |none=>rfl
  |some c=>rw[hc] at e;cases e
 have key:∀ty:dm,["enumerate","zip","dict_itemiterator","dict_reverseitemiterator","odict_iterator","itertools.zip_longest","itertools.pairwise"].contains ty=false->(∀{A':bS} {s':ay} {it:ax} {i c:B} {Q':bC ak->ay->Prop},s'.heap.IsStrIter it ty x t i->x.cps[i]?=some c->(∀h',h'.IsStrIter it ty x t (i+1)->iW it s'.heap h'->Q' (some<|.str ⟨#[c]⟩ s'.toks) {s' with heap:=h',toks:=s'.toks+1})->aF (aN C.prog C.w) A' (oG<|.ref it) Q' bq s')->
   (∀{A':bS} {s':ay} {it:ax} {i:B} {Q':bC ak->ay->Prop},A'.handled=aA->s'.heap.IsStrIter it ty x t i->x.cps[i]?=aA->(∀h',qX it s'.heap h'->Q' aA {s' with heap:=h'})->aF (aN C.prog C.w) A' (oG<|.ref it) Q' bq s')->
   ∀target p,0<=p->v7 C n target (.ref s.heap.objs.size) [s.heap.objs.size] (λi h=>h.IsStrIter s.heap.objs.size ty x t i) (signs x) (λH=>gF) (ρ.take p):=λty ku k1 k2 target p hp=>by
  refine⟨λi h h' ⟨o,ho,r⟩ e H=>⟨o,e _ (.head _) o ho,r⟩,λi h ⟨o,ho,_⟩ a ha=>?_,?_⟩
  ·rw[bx] at ha;subst ha;exact⟨o,ho⟩
  intro i A' s' aB aj Qn Qs fQ R' pre hD cO side ri rj;cases hq:(signs x)[i]? with
  |some v=>
   refine aH (at' hq) λc hc av=>?_
   subst av;exact k1 cO hc λh2 mU gx=>by
    exact cP (id mU) λoi yg yh H=>(BA yg yh ku<|ri _ hq _ h2 _ mU (jF gx.extBut) (Og cO<|jF gx.extBut) ⟨_,rfl⟩)
  |none=>exact k2 fQ.1 cO (Gi hq) λh2 gx=>rj hq h2 s'.toks (jF gx)<|Og cO<|jF gx
 cases ha:x.cps.all (· <128) with
 |true=>
  refine wpAny_pyIter_ascii ha (h _ _ _ _ (key "str_ascii_iterator" (by decide) wpAny_pyNext_ascii_item wpAny_pyNext_ascii_end) (λi A s Q h hq=>wpAny_pyIter_striter_ascii h hq) ⟨_,ew _ rfl,rfl,rfl⟩ (λa ha=>?_)<|bk.push R _ s.toks);rw[bx] at ha;subst ha;exact uv
 |false=>
  refine wpAny_pyIter_wide ha (h _ _ _ _ (key "str_iterator" (by decide) wpAny_pyNext_wide_item wpAny_pyNext_wide_end) (λi A s Q h hq=>wpAny_pyIter_striter_wide h hq) ⟨_,ew _ rfl,rfl,rfl⟩ (λa ha=>?_)<|bk.push R _ s.toks);rw[bx] at ha;subst ha;exact uv
theorem fP.str{x:ao}:fP C n (.str x) st (signs x) (λH=>gF) 0:=fD.str.ok
theorem mW(L:Led C ρ hp s)(h:bn):V.Is (ρ++[s.heap.objs.size]) h (.ref<|U hp) (.ref s.heap.objs.size):=
 ⟨s.heap.objs.size,by simp only[←L.len,dc<|aG _,fG];rfl,rfl⟩
theorem aQ.aaZ{b:az}:aQ C n (.type "range") [.int b] st (.ref<|U st.hp) ⟨st.loc,st.hp++[.fields "range" [.int 0,.int b,.int 1]]⟩:=.mk λA s ρ xs Q hA R aV h=>by
 refine cE aV λx r bE cx i2=>?_
 clear aV;subst bE;refine xE cx λt av=>?_
 clear cx;subst av;obtain rfl:r=[]:=i2;exact call_range_1 (h _ _ _ (bk.alloc (ob:=.fields "range" [.int 0,.int b,.int 1]) R rfl ⟨by decide,_,ew _ rfl,⟨_,_,rfl,⟨_,rfl⟩,_,_,rfl,⟨_,rfl⟩,_,_,rfl,⟨_,rfl⟩,rfl⟩⟩ _)<|mW R.led _)
theorem aQ.aa0{a b:az}:aQ C n (.type "range") [.int a,.int b] st (.ref<|U st.hp) ⟨st.loc,st.hp++[.fields "range" [.int a,.int b,.int 1]]⟩:=.mk λA s ρ xs Q hA R aV h=>by
 refine cE aV λx r bE cx bR=>?_
 clear aV;subst bE;refine xE cx λt av=>?_
 clear cx;subst av;refine cE bR λy r' gW ky i2=>?_
 clear bR;subst gW;refine xE ky λaiA av=>?_
 clear ky;subst av;obtain rfl:r'=[]:=i2;exact call_range_2 (h _ _ _ (bk.alloc (ob:=.fields "range" [.int a,.int b,.int 1]) R rfl ⟨by decide,_,ew _ rfl,⟨_,_,rfl,⟨_,rfl⟩,_,_,rfl,⟨_,rfl⟩,_,_,rfl,⟨_,rfl⟩,rfl⟩⟩ _)<|mW R.led _)
noncomputable def nums(a:az)(k:B):J V:=(eD k).map λ(i:B)=>.int<|a+(i:az)
theorem Oh{x l c:az}(y:Ef h it x l c)(e:jE [it] h h'):bF h h':=λb o q t=>e b o (λhb=>by
 rw[bx] at hb;subst hb;simp only[y] at q;(injection q;subst_vars)
 cases t) q
theorem fP.range{k:B}{a b:az}(hk:st.hp[k]?=some (.fields "range" [.int a,.int b,.int 1]))(hz:Lh a b 1=((b-a).toNat:az))(hs:ed.Range.small a b 1=true):fP C n (.ref k) st (nums a (b-a).toNat) (λH=>gF) 0:=.mk λA s ρ x Q hA R hv h=>by
 refine aH hv λl hl av=>?_
 clear hv;subst av;refine nT (R.led.objs k _ l hk hl) λH vs ho hi=>?_
 obtain⟨vl⟩:=vs;refine cE hi λH H bE cx bR=>?_
 clear hi;subst bE;refine xE cx λt1 av=>?_
 clear cx;subst av;refine cE bR λH H gW ky BC=>?_
 clear bR;subst gW;refine xE ky λt2 av=>?_
 clear ky;subst av;refine cE BC λH H Gj Oi Gk=>?_
 clear BC;subst Gj Gk;refine xE Oi λt3 av=>?_
 clear Oi;subst av;have jF:∀{a:ax} {G h2:bn},qX a G h2->jE [a] G h2:=λe b o hb q=>e b o (λz=>hb<|z▸ .head _) q;have atS:∀{i:B} {v:V},(nums a (b-a).toNat)[i]?=some v->i<(b-a).toNat/\v= .int (a+i):=λ{i v} e=>by
  unfold nums at e;rw[c7] at e
  by_cases bJ:i<(b-a).toNat
  ·rw[oz bJ] at e;(injection e;subst_vars);exact⟨bJ,rfl⟩
  ·rw[rQ<|by refine D gO ?_;exact iS ‹_›] at e;exact nomatch e
 have Gi:∀{i:B},(nums a (b-a).toNat)[i]?=aA->(b-a).toNat<=i:=λ{i} e=>by
  have:=ou.mp e;unfold nums at this;rw[bg,gO] at this;exact this
 refine wpAny_pyIter_range ho hs<|h _ [s.heap.objs.size] (λi h=>Ef h s.heap.objs.size (a+i) (((b-a).toNat:az)-i) 1) _ (λtarget p hp=>⟨λi h h' y e H=>e _ (.head _) _ y,λi h y c hc=>?_,?_⟩) ?_ (λc hc=>?_)<|bk.push R _ s.toks
 ·rw[bx] at hc;subst hc;exact⟨_,y⟩
 ·intro i A' s' aB aj Qn Qs fQ R' pre hD cO side ri rj;cases hq:(nums a (b-a).toNat)[i]? with
  |some v=>
   refine xA (atS hq) λbJ av=>?_
   subst av;refine wpAny_pyNext_range_item cO (by lia) λh2 mU gx=>BA mU rfl (by decide)<|ri _ hq _ h2 _ ?_ (jF gx.extBut) (Oh cO<|jF gx.extBut) ⟨_,rfl⟩;have e1:a+((i+1:B):az)=a+(i:az)+1:=by lia
   have e2:((b-a).toNat:az)-((i+1:B):az)=((b-a).toNat:az)-(i:az)-1:=by lia
   simp only[e1,e2];exact mU
  |none=>
   have:=Gi hq;exact wpAny_pyNext_range_end fQ.1 cO (by lia) λh2 gx=>rj hq h2 s'.toks (jF gx)<|Oh cO<|jF gx
 ·show Ef _ _ _ _ _;have e1:a+((0:B):az)=a:=by lia
  have e2:((b-a).toNat:az)-((0:B):az)=Lh a b 1:=by simp only[hz];rfl
  exact D e1<|D e2<|ew _ rfl
 ·rw[bx] at hc;subst hc;exact uv
theorem Oj{l:ax}{i:B}(x:h.IsTupleIter it l i)(e:jE [it] h h'):bF h h':=λb o q t=>e b o (λhb=>by
 rw[bx] at hb;subst hb;refine cP x λob ho H hd=>?_
 simp only[ho] at q;(cases cj q;clear q)
 simp only[yf hd] at t;cases t) q
theorem fP.tup{items:J V}{lo:B}(hr:V.sw lo items=true):fP C n (.tup (.type "tuple") items) st items (λH=>gF) lo:=.mk λA s ρ x Q hA R hv h=>by
 refine oK hv λH l vs m av ho hi=>?_
 clear hv;subst av;have hL:s.heap.IsTuple l vs:=⟨_,ho,rfl,m,rfl⟩
 have jF:∀{a:ax} {G h2:bn},qX a G h2->jE [a] G h2:=λe b o hb q=>e b o (λz=>hb<|z▸ .head _) q;refine wpAny_pyIter_tuple hL<|h (.ref s.heap.objs.size) [s.heap.objs.size] (λi h=>h.IsTupleIter s.heap.objs.size l i/\h.get? l=some ⟨.type "tuple",aA,.seq vs m,#[]⟩/\V.IsL (ρ.take lo) h items vs.toList) _ (λtarget p hp=>⟨λi h h' x e st=>⟨?_,st _ _ x.2.1 rfl,x.2.2.mono (bP _) st⟩,λi h x a ha=>?_,?_⟩) ⟨⟨_,ew _ rfl,rfl,rfl⟩,dE _ ho,(hi.shrink hr).mono (bP _)<|bF.push _ _⟩ (λa ha=>?_)<|bk.push R _ s.toks
 ·refine xA x λcq H=>?_
  obtain⟨o,ho,r⟩:=cq;exact⟨o,e _ (.head _) o ho,r⟩
 ·rw[bx] at ha;subst ha;refine xA x λcq H=>?_
  obtain⟨o,ho,_⟩:=cq;exact⟨o,ho⟩
 ·intro i A' s' aB aj Qn Qs fQ R' pre hD cO side ri rj;refine eh cO λhit Ol pZ=>?_
  have sD:s'.heap.IsTuple l vs:=⟨_,Ol,rfl,m,rfl⟩
  cases hq:items[i]? with
  |some v=>
   refine aH (V.IsL.get pZ hq) λx hx hv=>?_
   refine wpAny_pyNext_tuple_item hit sD (by refine bL (jX) ?_;exact hx) λh2 mU gx=>?_
   have ba:=Oj hit<|jF gx.extBut;exact cP (id mU) λoi yg yh H=>(BA yg yh (by decide)<|ri v hq x h2 s'.toks ⟨mU,ba _ _ Ol rfl,pZ.mono (bP _) ba⟩ (jF gx.extBut) ba<|hv.mono ((w8 hp).trans pre) ba)
  |none=>
   refine wpAny_pyNext_tuple_end fQ.1 hit sD ?_ λh2 gx=>?_
   ·rw[←jX,ou,dK pZ,←ou];exact hq
   ·exact rj hq h2 s'.toks (jF gx)<|Oj hit<|jF gx
 ·rw[bx] at ha;subst ha;exact uv
noncomputable def pairs:B->J V->J V
 |_,[]=>[]
 |i,v::l=>.tup (.type "tuple") [.int i,v]::pairs (i+1) l
theorem BD:∀{l:J V} {k i:B},(pairs k l)[i]?=(l[i]?).map λv=>.tup (.type "tuple") [.int ((k+i:B):az),v]
 | [],k,i=>rfl
 |v::l,k,0=>rfl
 |v::l,k,i+1=>by
  exact(BD (l:=l) (k:=k+1) (i:=i)).trans<|D (nK k 1 i) rfl
noncomputable def rk(C:Cx)(aiA:V)(st:St)(T:dm):Prop:=∀(s:ay) (ρ:J ax) (x:ak),Rep C ρ st s->aiA.Is ρ s.heap x->s.TypeIs x T/\∀a,x= .ref a->∃ob,s.heap.get? a=some ob/\ob.dict=aA
theorem uC{k:B}{l:J V}(hk:st.hp[k]?=some (.list l)):rk C (.ref k) st "list":=λs ρ x R hv=>by
 refine aH hv λa ha av=>?_
 clear hv;subst av;refine dv (R.led.objs k _ a hk ha) λvs m ho hi=>?_
 exact⟨⟨_,ho,rfl⟩,λb e=>by cases e;exact⟨_,ho,rfl⟩⟩
theorem nY{t:ao}:rk C (.str t) st "str":=λs ρ x R hv=>by
 refine xE hv λaiA av=>?_
 clear hv;subst av;exact⟨typeIs_str s t aiA,λb e=>by cases e⟩
theorem jq{o:bv}{name:ao}{args:J bv}{id:dm}(ho:EV C n o st aiA am)(hT:rk C aiA am T)(ha:iD C n (e::args) am vs ba)(hc:aQ C n (.builtin id) (aiA::vs) ba v ce)
  (pa:PlainAttrs T) (slot:qW T name id) (ku:typeOf (.builtin id)=pure (.type "method_descriptor"))
  (oS:aO (vM o name C.env (eval o C.env)=eval o C.env) a9)
  (BE:aO (((lE pos (lC (e::args) C.env)).all (λx=> !x.1)&&(qR pos (qQ [] C.env)).all (λx=>x.1.isSome)
   &&decide (U (e::args)+U ([]:J nO)+(if([]:J nO).isEmpty then 0 else 1)<30))=true) a9)
  (lL:aO ((apos.endLine==pos.line)=true) a9) (he:aO ((e::args).all gV=true) a9):EV C n (.Call (.Attribute o name apos) (e::args) [] pos) st v ce:=.mk λA s ρ Q hA R h=>by
 refine wpAny_Call_method oS BE lL pa slot ku<|ho A s ρ _ hA R λaC x s1 N1 i1=>⟨(hT s1 aC x N1.rep i1).1,(hT s1 aC x N1.rep i1).2,?_⟩;have Gl:gV e=true:=by simp only[oB,gS] at he;exact he.1
 have key:=ha A s1 aC pos (λxs s2=>aF (aN C.prog C.w) A (gR (.builtin id) ([x]++xs) []) Q bq s2) hA N1.rep (λbh xs s2 N2 i2=>
  hc A s2 bh (x::xs) Q hA N2.rep ⟨x,xs,rfl,i1.mono N2.pre N2.aX,i2⟩ λdp z s3 N3 i3=>h dp z s3 ((N1.trans N2).trans N3) i3)
 have p0:=(fc.mp (fc.mp BE).1).1;have hp:(lE pos<|lC (e::args) C.env).any (·.1)=false:=by
  rw[J.any_eq_false];intro x hx;simpa using fX.mp p0 x hx
 rw[kQ Gl] at key hp ⊢;exact ER hp<|ET key
theorem EV.method0{o:bv}{name:ao}{id:dm}(ho:EV C n o st aiA am)(hT:rk C aiA am T)(hc:aQ C n (.builtin id) [aiA] am v ce)
  (pa:PlainAttrs T) (slot:qW T name id) (ku:typeOf (.builtin id)=pure (.type "method_descriptor"))
  (oS:aO (vM o name C.env (eval o C.env)=eval o C.env) a9)
  (lL:aO ((apos.endLine==pos.line)=true) a9):EV C n (.Call (.Attribute o name apos) [] [] pos) st v ce:=.mk λA s ρ Q hA R h=>by
 exact wpAny_Call_method oS rfl lL pa slot ku<|ho A s ρ _ hA R λaC x s1 N1 i1=>⟨(hT s1 aC x N1.rep i1).1,(hT s1 aC x N1.rep i1).2,(ER rfl<|PyProof.Rows.evalArgs_none<|hc A s1 aC [x] Q hA N1.rep ⟨x,[],rfl,i1,rfl⟩ λdp z s3 N3 i3=>h dp z s3 (N1.trans N3) i3)⟩
theorem Gm{k:B}{l:J V}{v:V}(hk:st.hp[k]?=some (.list l))(hz:U l<=16777216):aQ C n (.builtin "list.append") [.ref k,v] st .none ⟨st.loc,st.hp.set k<|.list<|l++[v]⟩:=.mk λA s ρ xs Q hA R aV h=>by
 refine cE aV λx r bE cx bR=>?_
 clear aV;subst bE;refine aH cx λa ha av=>?_
 clear cx;subst av;refine cE bR λy r' gW hy i2=>?_
 clear bR;subst gW;obtain rfl:r'=[]:=i2;refine dv (R.led.objs k _ a hk ha) λvs m ho hi=>wpAny_call_entry slot_list_append ⟨_,ho,rfl⟩ entry_list_append ?_<|args_list_append _ _
 show aF _ _ (updateSeq a (·.push y) >>= λH=>ret .none) _ _ s;refine wpAny_bind ?_
 have hlen:vs.size<=km:=by exact bL eO<|D (dK hi) hz
 refine xE (⟨_,rfl⟩:∃m',fY (·.push y) ⟨.type "list",aA,.seq vs m,#[]⟩=⟨.type "list",aA,.seq (vs.push y) m',#[]⟩) λm' e=>?_
 have gX:bF s.heap (s.heap.update a<|fY (·.push y)):=jY (iA ..) ho rfl;have ic:V.IsL ρ (s.heap.update a<|fY (·.push y)) (l++[v]) (vs.push y).toList:=by
  exact D KI<|V.IsL.append (hi.mono (bP _) gX) ⟨y,[],rfl,hy.mono (bP _) gX,rfl⟩
 exact wpAny_updateSeq ho rfl<|wpAny_pure ⟨.none,rfl,h ρ _ _ (bk.change R (ob:=.list<|l++[v]) ha (iA ..) ⟨vs.push y,m',((pP _ ho rfl).trans<|bB some e),ic⟩ s.toks) rfl⟩
theorem iF{o:bv}{l2:J V}(ho:EV C n o st (.ref k) am)(hT:am.hp[k]?=some (.list l2))(ha:EV C n e am v ba)(hk:ba.hp[k]?=some (.list l))(hz:U l<=16777216)
  (oS:aO (vM o "append" C.env (eval o C.env)=eval o C.env) a9)
  (BE:aO (((lE pos (lC [e] C.env)).all (λx=> !x.1)&&(qR pos (qQ [] C.env)).all (λx=>x.1.isSome)
   &&decide (U [e]+U ([]:J nO)+(if([]:J nO).isEmpty then 0 else 1)<30))=true) a9)
  (lL:aO ((apos.endLine==pos.line)=true) a9) (he:aO (gV e=true) a9):EV C n (.Call (.Attribute o "append" apos) [e] [] pos) st .none ⟨ba.loc,ba.hp.set k<|.list<|l++[v]⟩:=
 jq ho (uC hT) (an ha aM he) (Gm hk hz) ud Ev Ew oS BE lL (fc.mpr ⟨he,rfl⟩)
theorem X1.expr(G:EV C n e st v am)(h:K .next am)(hi:aO (interactive C.env=false) a9)(hs:aO (swapsWith e none p.line C.env=pure false) a9):X1 C n q (.Expr e p) st K:=.mk λA s ρ Q hA R k=>
 wpAny_Expr_any (G A s ρ _ hA R λaC x s1 N1 i1=>k aC .next _ _ s1 h N1.toS rfl) hi hs
theorem eE(G:EV C n e st v am)(h:XS C n q r am K)(hi:aO (interactive C.env=false) a9)(hs:aO (swapsWith e none p.line C.env=pure false) a9):XS C n q (.Expr e p::r) st K:=cg<|X1.expr G h hi hs
theorem qa(hk:st.hp[k]?=some (.list l))(hz:U l<2 ^ 63):aQ C n (.builtin "len") [.ref k] st (.int<|U l) st:=.mk λA s ρ xs Q hA R aV h=>by
 refine cE aV λx r bE cx i2=>?_
 clear aV;subst bE;refine aH cx λa ha av=>?_
 clear cx;subst av;obtain rfl:r=[]:=i2;refine dv (R.led.objs k _ a hk ha) λvs m ho hi=>?_
 have hl:vs.size=U l:=by rw[←eO,dK hi]
 exact Lb ⟨_,ho,rfl,m,rfl⟩ (by refine D hl ?_;lia)<|h ρ _ _ (gj R _) ⟨_,by exact D hl rfl⟩
inductive v9(top:bn)(c:ax)(mN:ao->bC ak):Prop
 |mk nm q N bs sn sub ab col dd k0 k1 k2 k3 k5 newId (h:top.get? c=some (vO nm q c N bs [.type "object"] true sn sub ab col dd k0 k1 k2 k3 k5 newId)) (n:top.Ns N mN)
theorem BF{l:J (ao×V)}(R:Rep C ρ st s)(hk:st.hp[k]?=some (.inst c d))(hd:st.hp[d]?=some (.attrs l))(ha:ρ[k]?=some a):
  ∃m b,ρ[d]?=some b/\a≠b/\s.heap.InstFk a c m/\∀x,(∀v,l.lookup x=some v->∃y,m x=some y/\v.Is ρ s.heap y)/\(l.lookup x=aA->m x=aA):=by
 refine aH (R.led.objs k _ a hk ha) λb hb ho=>nT (R.led.objs d _ b hd hb) λcq m bT hm=>cP cq λob kz mq uD=>?_
 have ne:b≠a:=λe=>by subst e;simp only[ho] at kz;(injection kz;subst_vars);exact nomatch mq
 exact⟨m,b,hb,ne.symm,⟨_,ho,rfl,λc e=>by simp at e,.inr ⟨b,rfl,ne,bT,⟨_,kz,mq,uD⟩⟩⟩,hm⟩
theorem EV.attr{o:bv}{l:J (ao×V)}(ho:EV C n o st (.ref k) am)(hk:am.hp[k]?=some (.inst c d))(hd:am.hp[d]?=some (.attrs l))(hv:l.lookup x=some v)
  (hc:v9 C.top c mN) (yi:aO (mN "__getattribute__"=aA) a9) (mX:aO (mN x=aA) a9) (hB:ea (.type "object") x=pure aA) (hv':∀id,v≠ .val (.builtin id))
  (he:aO (eval (.Attribute o x pos) C.env=(do
   let w ←eval o C.env
   nN pos.atName
   let r ←holding [w] (l8 w x true)
   vJ o w r
   pure r)) aW._auto_1):EV C n (.Attribute o x pos) st v am:=.mk λA s ρ Q hA R h=>by
 refine AG (ho A s ρ _ hA R λaC y s1 N1 i1=>(aH i1 λa ha av=>?_)) he;clear i1;subst av;refine kn (BF N1.rep hk hd ha) λm b hb ne I hm=>aH ((hm x).1 v hv) λy hy iv=>?_
 obtain⟨nm,q,N,bs,sn,sub,ab,col,dd,k0,k1,k2,k3,k5,newId,hC,hn⟩:=hc;refine load_attrFk (N1.rep.led.top _ _ hC) (hn.keeps N1.rep.led.top) yi mX hB I hy ?_<|h aC y _ (N1.trans<|gj N1.rep _) iv
 cases v with
 |none=>subst iv;rfl
 |bool b=>subst iv;rfl
 |int i=>obtain⟨t,rfl⟩:=iv;rfl
 |str i=>obtain⟨t,rfl⟩:=iv;rfl
 |ref i=>obtain⟨t,_,rfl⟩:=iv;rfl
 |tup c' l'=>obtain⟨_,t,_,_,rfl,_⟩:=iv;rfl
 |val w=>
  subst iv;cases y with
  |builtin id=>exact aZ rfl<|hv' id
  |_=>rfl
theorem bk.Om(R:Rep C ρ st s)(ha:ρ[k]?=some a)(he:∀b o,b≠a->s.heap.get? b=some o->h'.get? b=some o)(hi:ob.Is C.w ρ h' a)(t:B):
  bk C ρ s ⟨st.loc,st.hp.set k ob⟩ ρ {s with heap:=h',toks:=t}:=by
 have hk:k<U ρ:=(cJ.mp ha).1;have eS:k<U st.hp:=by exact bL R.led.len hk
 have mem:a∈ρ:=by refine bL ((cJ.mp ha).2) ?_;exact nF hk
 refine aH ((R.led.objs k _ a (bO eS) ha).there) λH ho ht=>?_
 have aX:bF s.heap h':=λb o e t=>by
  by_cases hb:b=a
  ·subst hb;simp only[ho] at e;(cases cj e;clear e);rw[ht] at t;exact aZ t dy
  ·exact he b o hb e
 have aL:C.env.locals≠a:=λe=>R.led.fC<|e▸mem;refine⟨bP _,aX,λb o e G H=>he b o (λz=>G<|z▸mem) e,λa h q=>aZ h q,eN.refl _,?_,⟨by simpa using R.led.len,λj o b e q=>?_,R.led.nodup,R.led.fC,R.led.low,R.led.gT,λb o e=>he b o (λz=>?_)<|R.led.top b o e,R.led.os,R.led.drawn⟩⟩
 ·refine aH R.loc λm hn hm=>?_
  exact⟨m,mj hn λo e=>he _ o aL e,λx v e=>by obtain⟨y,hy,q⟩:=hm x v e;exact⟨y,hy,q.mono (bP _) aX⟩⟩
 ·by_cases hj:j=k
  ·subst hj;rw[DM eS] at e
   (cases cj e;clear e)
   simp only[ha] at q;(cases cj q;clear q);exact hi
  ·simp only[z6<|uf hj] at e;have z:=R.led.objs j o b e q;have ne:b≠a:=λz=>by
    subst z;exact hj<|pV R.led.nodup q ha
   exact aH z.there λx hx H=>(z.mono (bP _) aX<|(he b x ne hx).trans hx.symm)
 ·subst z;exact aZ (dH e)<|iU.mpr<|R.led.low _ mem
noncomputable def putL(l:J<|ao×V)(x:ao)(v:V):J (ao×V):=(x,v)::l.filter (λp=> !(p.1==x))
theorem BG{l:J (ao×V)}{z:ao}(h:z≠x):(putL l x v).lookup z=l.lookup z:=by
 refine D gv<|D (by simpa using h:(z==x)=false) ?_;show(l.filter _).lookup z=_
 induction l with
 |nil=>rfl
 |cons p l ih=>
  obtain⟨k,aiA⟩:=p
  by_cases hk:k=x
  ·subst hk;simp only[pG,xm,KB,Av,xo];exact D gv<|D (show(z==k)=false by simpa using h) ih
  ·simp only[pG,show(k==x)=false by simpa using hk,Ep,xp];simp only[gv,gv,ih]
theorem On{α:Type}{z:ao}{aiA:α}:∀{l:J (ao×α)},l.lookup z=some aiA->z∈l.map (·.1)
 | []=>λh=>by exact nomatch h
 |p::l=>λh=>by
  rw[gv] at h;cases Oo:z==p.1 with
  |true=>rw[eq_of_beq Oo];exact vB ..
  |false=>rw[Oo] at h;exact vA _<|On h
theorem aa1{l:J (ao×V)}{Q:fF->ay->Prop}(R:Rep C ρ st s)(hk:st.hp[k]?=some (.inst c d))(hd:st.hp[d]?=some (.attrs l))(ha:ρ[k]?=some a)(hv:v.Is ρ s.heap y)
  (hc:v9 C.top c mN) (bT:mN "__setattr__"=aA) (mX:mN x=aA) (hB:ea (.type "object") x=pure aA) (hl:U l<=16777216)
  (h:∀s',bk C ρ s ⟨st.loc,st.hp.set d<|.attrs<|putL l x v⟩ ρ s'->Q () s'):aF (aN C.prog C.w) A (setAttr (.ref a) x y) Q bq s:=by
 refine kn (BF R hk hd ha) λm b hb ne I hm=>aH (R.led.objs k _ a hk ha) λb' yj ho=>?_
 simp only[hb] at yj;(cases cj yj;clear yj);obtain⟨nm,q,N,bs,sn,sub,ab,col,dd,k0,k1,k2,k3,k5,newId,hC,hn⟩:=hc;have hac:a≠c:=λe=>by
  subst e;have:=R.led.top _ _ hC;rw[ho] at this;exact nomatch this
 refine store_attrFk (ns:=l.map (·.1)) PySem.F.store_object (R.led.top _ _ hC) (hn.keeps R.led.top) bT mX hB hac I (λh' tk' I' mn rl=>?_) (λz hz=>?_) (by refine D (bg _) ?_;exact hl)
 ·have ext:∀b' o,b'≠b->s.heap.get? b'=some o->h'.get? b'=some o:=λb' o cw e=>by
   by_cases Op:b'=a
   ·subst Op;refine uh (rl _ ho) λo1 e1 e2 e3 e4 e5=>?_
    have hoe:o=⟨.ref c,some b,.plain,#[]⟩:=by simp only[ho] at e;(injection e;subst_vars);rfl
    obtain⟨c1,d1,t1,s1⟩:=o1;have h5:=e5 b rfl;simp only at e2 e3 e4 h5;subst e2 e3 e4 h5;simp only[hoe];exact e1
   ·exact mn b' o Op (λH dx e1 e2=>by simp only[ho] at e1;cases e1;cases e2;exact cw) e
  refine h _<|bk.Om R hb ext ?_ tk'
  have aX:bF s.heap h':=λb' o e t=>ext b' o (λz=>by
   subst z;obtain⟨⟨ob,e1,e2,_⟩,_⟩:=R.led.objs d _ b' hd hb;simp only[e1] at e;(cases cj e;clear e)
   exact Lu ((ra e2).symm.trans t)) e
  refine ug I' λo e1 e2 e3 e4=>?_
  have yk:=ext a _ ne ho;rw[e1] at yk;(have:=cj yk;clear yk;subst this);rcases e4 with ⟨e5,_⟩|⟨dx,e5,e6,e7,e8⟩
  ·exact nomatch e5
  ·(have:=cj e5;clear e5;subst this)
   refine⟨e8,_,e7,λz=>?_⟩
   by_cases hz:z=x
   ·subst hz;refine⟨λaiA hu=>⟨y,aU rfl,?_⟩,λhu=>?_⟩
    ·unfold putL at hu;rw[DN] at hu;(cases cj hu;clear hu);exact hv.mono (bP _) aX
    ·unfold putL at hu;rw[DN] at hu;exact nomatch hu
   ·exact D (BG hz)<|⟨λaiA hu=>(aH ((hm z).1 aiA hu) λw G h2=>(⟨w,(aE hz).trans G,h2.mono (bP _) aX⟩)),λhu=>(aE hz).trans<|(hm z).2 hu⟩
 ·cases hq:l.lookup z with
  |none=>exact aZ ((hm z).2 hq) hz
  |some aiA=>exact On hq
theorem mr{aiC:ao}(hf:EV C n (.Name aiC p) st (.val<|.type T) am)
  (ha:iD C n (e::es) am vs ba) (hc:aQ C n (.type T) vs ba v ce) (he:aO (gV e=true) a9) (sE:aO (es.all gV=true) a9):EV C n (.Call (.Name aiC p) (e::es) [] pos) st v ce:=.mk λA s ρ Q hA R h=>by
 refine wpAny_Call_Name_kw<|hf A s ρ _ hA R λaC x s1 N1 i1=>?_;subst i1;refine callWith_type1 (ha A s1 aC pos _ hA N1.rep λbh xs s2 N2 i2=>hc A s2 bh xs Q hA N2.rep i2 λdp z s3 N3 i3=>h dp z s3 ((N1.trans N2).trans N3) i3) (kQ he) ?_
 clear ha hf
 induction es with
 |nil=>rfl
 |cons e' es ih=>
  simp only[oB,gS] at sE;rw[kQ sE.1];exact ih sE.2
theorem aQ.str_int{a:az}(ha:a.natAbs.log2<1920):aQ C n (.type "str") [.int a] st (.str<|ft<|toString a) st:=.mk λA s ρ xs Q hA R aV h=>by
 refine cE aV λx r bE cx i2=>?_
 clear aV;subst bE;obtain⟨t,rfl⟩:=cx;obtain rfl:r=[]:=i2;exact P.str_of_int ha<|h ρ _ _ (gj R _) ⟨_,rfl⟩
theorem nZ{a b:ao}(h3:(a++b).length<=km):a8 C n (pM .Add) (.str a) (.str b) st (.str<|a++b) st:=.mk λA s ρ x y Q hA R ⟨t,e1⟩ ⟨aiA,e2⟩ h=>by
 subst e1 e2;refine PySem.P.add_str ?_
 have f:a.length=0->a++b=b:=λe=>by
  have:a.cps=#[]:=KE e;show t7 (a.cps++b.cps)=b;rw[this,bD.empty_append]
 have u:b.length=0->a++b=a:=λe=>by
  have:b.cps=#[]:=KE e;show t7 (a.cps++b.cps)=a;rw[this,bD.append_empty]
 split
 ·rename_i q;exact h ρ _ _ (ek R) ⟨aiA,by exact D (f<|eq_of_beq q) rfl⟩
 ·split
  ·rename_i q;exact h ρ _ _ (ek R) ⟨t,by exact D (u<|eq_of_beq q) rfl⟩
  ·exact⟨h3,h ρ _ _ (gj R _) ⟨_,rfl⟩⟩
theorem len0{P:J α->Prop}(h:P []):∀l:J α,U l=0->P l
 | [],_=>h
theorem sF{P:J α->Prop}(h:∀x,∀l:J α,U l=n->P (x::l)):∀l:J α,U l=n+1->P l
 |x::l,e=>h x l<|Aq.inj e
section
variable{P:J α->Prop}
theorem sG(h:∀a0,P [a0]):∀l:J α,U l=1->P l:=sF λa=>len0<|h a
theorem sH(h:∀a0 a1,P [a0,a1]):∀l:J α,U l=2->P l:=sF λa=>sG (P:=λl=>P<|a::l)<|h a
theorem Gn(h:∀a0 a1 a2,P [a0,a1,a2]):∀l:J α,U l=3->P l:=sF λa=>sH (P:=λl=>P<|a::l)<|h a
theorem yl(h:∀a0 a1 a2 a3,P [a0,a1,a2,a3]):∀l:J α,U l=4->P l:=sF λa=>Gn (P:=λl=>P<|a::l)<|h a
theorem Oq(h:∀a0 a1 a2 a3 a4,P [a0,a1,a2,a3,a4]):∀l:J α,U l=5->P l:=sF λa=>yl (P:=λl=>P<|a::l)<|h a
theorem aa2(h:∀a0 a1 a2 a3 a4 a5,P [a0,a1,a2,a3,a4,a5]):∀l:J α,U l=6->P l:=sF λa=>Oq (P:=λl=>P<|a::l)<|h a
theorem aa3(h:∀a0 a1 a2 a3 a4 a5 a6,P [a0,a1,a2,a3,a4,a5,a6]):∀l:J α,U l=7->P l:=sF λa=>aa2 (P:=λl=>P<|a::l)<|h a
theorem aa4(h:∀a0 a1 a2 a3 a4 a5 a6 a7,P [a0,a1,a2,a3,a4,a5,a6,a7]):∀l:J α,U l=8->P l:=sF λa=>aa3 (P:=λl=>P<|a::l)<|h a
end
noncomputable def fR(P:aP):J jz:=match (NQ P).data with| .dict es _=>es.toList|_=>[]
noncomputable def kU(P:aP):J jz:=match (EG P).data with| .dict es _=>es.toList|_=>[]
noncomputable def cT(es:J jz)(x:ao):bC ak:=(es.find? λe=>e.key.isStr x).map (·.val)
theorem aa5(es:J jz)(x:ao):nsFind es.toArray x=cT es x:=by
 unfold nsFind findBy cT;simp only[JL]
theorem wa{es:J jz}{ep:B}(ho:h.get? a=some o)(hd:o.data= .dict es.toArray ep)(hk:(es.all λe=>match e.key with| .str _ _=>true|_=>false)=true):h.Ns a (cT es):=by
 refine⟨o,es.toArray,ep,ho,hd,λe he=>?_,aa5 es⟩;have:=fX.mp hk e (by simpa using he);cases hq:e.key with
 |str n t=>exact⟨n,t,rfl⟩
 |_=>rw[hq] at this;exact Aw this
theorem cQ(P:aP):(bZ P).Ns tT (cT<|fR P):=wa (o:=NQ P) (ep:=25) (by kernel_rfl) (by kernel_rfl) (by kernel_rfl)
noncomputable def epB(P:aP):B:=match (EG P).data with| .dict _ n=>n|_=>0
theorem dN(P:aP):(bZ P).Ns builtinsNs (cT<|kU P):=wa (o:=EG P) (ep:=epB P) (by kernel_rfl) (by kernel_rfl) (by kernel_rfl)
theorem Os(P:aP):cT (fR P) "_law_range"=some (.ref 308):=by kernel_rfl
theorem sI(P:aP):cT (fR P) "str"=none:=by kernel_rfl
theorem sJ(P:aP):cT (kU P) "str"=some (.type "str"):=by kernel_rfl
theorem noLimit(P:aP):(bZ P).NoLimit:=by
 refine⟨cT [],wa (o:=KU P) (es:=[]) (ep:=0) (by kernel_rfl) (by kernel_rfl) rfl,rfl⟩
theorem aa6(P:aP):∃o,(bZ P).get? ((bZ P).objs.size-1)=some o:=⟨sv P,by kernel_rfl⟩
noncomputable def TW(w:bz)(os:bM)(dr:cV):Wd:=⟨oJ,w,bZ w.params,os,dr,aa6 w.params⟩
noncomputable def fdOf(o:bc):lD:=match o.data with| .func aiC=>aiC|_=>default
structure iG(P:aP)(a:ax)(o:bc)(names:J ao):Prop where
 get:(bZ P).get? a=some o
 fd:o.data= .func (fdOf o)
 code:(bZ P).CodeRec (fdOf o).code (fdOf o).qualname
 nd:names.Nodup
 cell:∀x∈(fdOf o).scope.names,x.2≠ .cell
 loc:∀x∈names,(fdOf o).scope.names.lookup x=some .local
theorem aa7{l:J (ao×NameKind)}(h:(l.all λx=>x.2 != .cell)=true):∀x∈l,x.2≠ .cell:=λx hx=>D4.mp<|fX.mp h x hx
theorem aa8{l:J (ao×NameKind)}(h:(names.all λx=>l.lookup x==some .local)=true):∀x∈names,l.lookup x=some .local:=λx hx=>nH.mp<|fX.mp h x hx
noncomputable def codeOk(h:bn)(fd:lD):bb:=match fd.code with
 | .ref c=>match h.get? c with
  |some o=>match o.data with
   | .fields vs=>match (vs[1]?:bC ak) with
    |some (iX q _)=>q==fd.qualname
    |_=>false
   |_=>false
  |_=>false
 |_=>false
theorem codeRec_of:codeOk h fd=true->h.CodeRec fd.code fd.qualname:=by
 unfold codeOk;cases hc:fd.code with
 |ref c=>
  dsimp only;cases ho:h.get? c with
  |none=>exact λk=>aZ k dy
  |some o=>
   dsimp only;cases hv:o.data with
   |fields vs=>
    dsimp only;cases hq:(vs[1]?:bC ak) with
    |none=>exact λk=>aZ k dy
    |some v=>cases v with
     |str q t=>exact λk=>⟨c,o,vs,t,rfl,ho,hv,D hq<|eq_of_beq k▸rfl⟩
     |_=>exact λk=>aZ k dy
   |_=>exact λk=>aZ k dy
 |_=>exact λk=>aZ k dy
noncomputable def okD(h:bn)(o:bc)(names:J ao):bb:=(match o.data with| .func _=>true|_=>false)&&(codeOk h (fdOf o)&&(decide names.Nodup&&(((fdOf o).scope.names.all λx=>x.2 != .cell)&&names.all λx=>(fdOf o).scope.names.lookup x==some .local)))
theorem jr{P:aP}(get:(bZ P).get? a=some o)(k:okD (bZ P) o names=true):iG P a o names:=
 xA (fc.mp k) λk0 k=>xA (fc.mp k) λk1 k=>xA (fc.mp k) λk2 k=>xA (fc.mp k) λk3 k4=>
 ⟨get,by cases h:o.data with
  |func aiC=>exact bB Data.func (D h rfl:aiC=match o.data with| .func aiC=>aiC|_=>default)
  |_=>exact aZ (k0:(match o.data with| .func _=>true|_=>false)=true) (D h dy),codeRec_of k1,dq k2,aa7 k3,aa8 k4⟩
theorem ym(P:aP):iG P 253 (aaC P) ["start","stop"]:=jr (by kernel_rfl) (by kernel_rfl)
theorem rm(P:aP):iG P 261 (xV P) ["a","b","fromfile","tofile","fromfiledate","tofiledate","n","lineterm"]:=jr (by kernel_rfl) (by kernel_rfl)
theorem Go(P:aP):iG P 268 (aaD P) ["a","b","args"]:=jr (by kernel_rfl) (by kernel_rfl)
theorem mY(P:aP):iG P 280 (aaE P) ["pattern"]:=jr (by kernel_rfl) (by kernel_rfl)
theorem sK(P:aP):iG P 287 (NJ P) ["script"]:=jr (by kernel_rfl) (by kernel_rfl)
theorem yn(P:aP):iG P 294 (aaF P) ["sign"]:=jr (by kernel_rfl) (by kernel_rfl)
theorem Gp(P:aP):iG P 301 (aaG P) ["steps"]:=jr (by kernel_rfl) (by kernel_rfl)
theorem yo(P:aP):iG P 308 (aaH P) ["start","size"]:=jr (by kernel_rfl) (by kernel_rfl)
theorem rn(P:aP):iG P 313 (xW P) ["steps","around","heads","end"]:=jr (by kernel_rfl) (by kernel_rfl)
theorem d82(P:aP):iG P 82 (aat P) ["_cls","a","b","size"]:=jr (by kernel_rfl) (by kernel_rfl)
theorem d89(P:aP):iG P 89 (NE P) ["cls","iterable"]:=jr (by kernel_rfl) (by kernel_rfl)
theorem Ot(P:aP):iG P 160 (aau P) ["self","isjunk","a","b","autojunk"]:=jr (by kernel_rfl) (by kernel_rfl)
theorem Gq(P:aP):iG P 167 (aav P) ["self","a","b"]:=jr (by kernel_rfl) (by kernel_rfl)
theorem Gr(P:aP):iG P 174 (aaw P) ["self","a"]:=jr (by kernel_rfl) (by kernel_rfl)
theorem Gs(P:aP):iG P 181 (aax P) ["self","b"]:=jr (by kernel_rfl) (by kernel_rfl)
theorem Gu(P:aP):iG P 188 (aay P) ["self"]:=jr (by kernel_rfl) (by kernel_rfl)
theorem Gv(P:aP):iG P 196 (aaz P) ["self","alo","ahi","blo","bhi"]:=jr (by kernel_rfl) (by kernel_rfl)
theorem Gw(P:aP):iG P 203 (aaA P) ["self"]:=jr (by kernel_rfl) (by kernel_rfl)
theorem Gx(P:aP):iG P 210 (aaB P) ["self"]:=jr (by kernel_rfl) (by kernel_rfl)
theorem sL(P:aP):iG P 218 (Bd P) ["self","n"]:=jr (by kernel_rfl) (by kernel_rfl)
theorem Ou(P:aP):cT (fR P) "_format_range_unified"=some (.ref 253):=by kernel_rfl
theorem aa9(P:aP):cT (fR P) "unified_diff"=some (.ref 261):=by kernel_rfl
theorem aba(P:aP):cT (fR P) "_check_types"=some (.ref 268):=by kernel_rfl
theorem wb(P:aP):cT (fR P) "escape"=some (.ref 280):=by kernel_rfl
theorem abb(P:aP):cT (fR P) "_law_text"=some (.ref 287):=by kernel_rfl
theorem Ov(P:aP):cT (fR P) "_law_special"=some (.ref 294):=by kernel_rfl
theorem abc(P:aP):cT (fR P) "_law_rows"=some (.ref 301):=by kernel_rfl
theorem BH(P:aP):cT (fR P) "_law_report"=some (.ref 313):=by kernel_rfl
theorem abd(P:aP):cT (fR P) "SequenceMatcher"=some (.ref 242):=by kernel_rfl
theorem Ow(P:aP):cT (fR P) "Match"=some (.ref 135):=by kernel_rfl
theorem qb(P:aP):cT (fR P) "len"=none:=by kernel_rfl
theorem abe(P:aP):cT (fR P) "sum"=none:=by kernel_rfl
theorem qc(P:aP):cT (fR P) "list"=none:=by kernel_rfl
theorem Ox(P:aP):cT (fR P) "isinstance"=none:=by kernel_rfl
theorem BI(P:aP):cT (fR P) "ord"=none:=by kernel_rfl
theorem Gy(P:aP):cT (fR P) "chr"=none:=by kernel_rfl
theorem Oy(P:aP):cT (fR P) "range"=none:=by kernel_rfl
theorem Oz(P:aP):cT (fR P) "max"=none:=by kernel_rfl
theorem abf(P:aP):cT (fR P) "min"=none:=by kernel_rfl
theorem abg(P:aP):cT (fR P) "set"=none:=by kernel_rfl
theorem abh(P:aP):cT (fR P) "enumerate"=none:=by kernel_rfl
theorem abi(P:aP):cT (fR P) "map"=none:=by kernel_rfl
theorem OA(P:aP):cT (fR P) "tuple"=none:=by kernel_rfl
theorem qd(P:aP):cT (kU P) "len"=some (.builtin "len"):=by kernel_rfl
theorem abj(P:aP):cT (kU P) "sum"=some (.builtin "sum"):=by kernel_rfl
theorem OB(P:aP):cT (kU P) "isinstance"=some (.builtin "isinstance"):=by kernel_rfl
theorem BJ(P:aP):cT (kU P) "ord"=some (.builtin "ord"):=by kernel_rfl
theorem Gz(P:aP):cT (kU P) "chr"=some (.builtin "chr"):=by kernel_rfl
theorem OC(P:aP):cT (kU P) "max"=some (.builtin "max"):=by kernel_rfl
theorem abk(P:aP):cT (kU P) "min"=some (.builtin "min"):=by kernel_rfl
theorem qe(P:aP):cT (kU P) "list"=some (.type "list"):=by kernel_rfl
theorem OD(P:aP):cT (kU P) "range"=some (.type "range"):=by kernel_rfl
theorem abl(P:aP):cT (kU P) "set"=some (.type "set"):=by kernel_rfl
theorem abm(P:aP):cT (kU P) "enumerate"=some (.type "enumerate"):=by kernel_rfl
theorem abn(P:aP):cT (kU P) "map"=some (.type "map"):=by kernel_rfl
theorem OE(P:aP):cT (kU P) "tuple"=some (.type "tuple"):=by kernel_rfl
noncomputable abbrev fr(w:bz)(os:bM)(dr:cV)(o:bc)(a L:ax):Cx:=re (TW w os dr) (fdOf o) a L
theorem mt{a b:az}:a8 C n (pM .Sub) (.int a) (.int b) st (.int<|a-b) st:=.mk λA s ρ x y Q hA R ⟨t,e1⟩ ⟨aiA,e2⟩ h=>by
 subst e1 e2;exact PyProof.Rows.sub_int<|h ρ _ _ (gj R _) ⟨_,rfl⟩
theorem a8.floordiv_int{a b:az}(hb:b≠0)(hp:ed.divisionGoesByPylong a b=false):a8 C n (pM .FloorDiv) (.int a) (.int b) st (.int<|a.fdiv b) st:=.mk λA s ρ x y Q hA R ⟨t,e1⟩ ⟨aiA,e2⟩ h=>by
 subst e1 e2;exact PyProof.Rows.floordiv_int hb (h ρ _ _ (gj R _) ⟨_,rfl⟩)<|.inl hp
theorem a8.isub_int{a b:az}:a8 C n (inplaceOp .Sub) (.int a) (.int b) st (.int<|a-b) st:=.mk λA s ρ x y Q hA R ⟨t,e1⟩ ⟨aiA,e2⟩ h=>by
 subst e1 e2;exact PyProof.Rows.isub_int<|h ρ _ _ (gj R _) ⟨_,rfl⟩
theorem a8.le_int{a b:az}:a8 C n (iV .LtE) (.int a) (.int b) st (.bool<|decide (a<=b)) st:=.mk λA s ρ x y Q hA R ⟨t,e1⟩ ⟨aiA,e2⟩ h=>by
 subst e1 e2;exact PyProof.Rows.le_int<|h ρ _ _ (ek R) rfl
theorem a8.ge_int{a b:az}:a8 C n (iV .GtE) (.int a) (.int b) st (.bool<|decide (b<=a)) st:=.mk λA s ρ x y Q hA R ⟨t,e1⟩ ⟨aiA,e2⟩ h=>by
 subst e1 e2;exact PyProof.Rows.ge_int<|h ρ _ _ (ek R) rfl
theorem str_beq(a b:ao):(a.cps.toList==b.cps.toList)=decide (a=b):=by
 obtain⟨a⟩:=a;obtain⟨b⟩:=b
 by_cases h:a=b
 ·subst h;simp
 ·have G:¬a.toList=b.toList:=λe=>h<|ua e;have h2:¬(t7 a=t7 b):=λe=>h (by cases e;rfl);refine D (fB h2) ?_
  simpa using h
theorem a8.eq_str{a b:ao}:a8 C n (iV .Eq) (.str a) (.str b) st (.bool<|decide (a=b)) st:=.mk λA s ρ x y Q hA R ⟨t,e1⟩ ⟨aiA,e2⟩ h=>by
 subst e1 e2;exact PySem.P.eq_str (h ρ _ _ (ek R)<|by refine bL (str_beq _ _) ?_;rfl)
theorem a8.ne_str{a b:ao}:a8 C n (iV .NotEq) (.str a) (.str b) st (.bool<|!decide (a=b)) st:=.mk λA s ρ x y Q hA R ⟨t,e1⟩ ⟨aiA,e2⟩ h=>by
 subst e1 e2;exact PySem.P.ne_str (h ρ _ _ (ek R)<|by refine bL (str_beq _ _) ?_;rfl)
theorem TV.abo{l:bv}(G:EV C n l st aiA am)(h2:EV C n r1 am v ba)(h3:a8 C n (iV o1) aiA v ba (.bool false) ce)
  (hm:aO (lastMarks [o1,o2] [r1,r2]=false) aW._auto_1):TV C n (.Compare l [o1,o2] [r1,r2] p) st false ce:=.mk λA s ρ Q hA R h=>
 isTrue_chain (G A s ρ _ hA R λaC x s1 N1 i1=>test_link (h2 A s1 aC _ hA N1.rep λbh y s2 N2 i2=>
  h3 A s2 bh x y _ hA N2.rep (i1.mono N2.pre N2.aX) i2 λdp z s3 N3 i3=>by
   subst i3;exact wpAny_truthy_bool (h dp s3 ((N1.trans N2).trans N3)))) hm
theorem TV.abp{l:bv}{v2:V}{hO BK:St}(G:EV C n l st aiA am)(h2:EV C n r1 am v ba)(h3:a8 C n (iV o1) aiA v ba (.bool true) ce)
  (h4:EV C n r2 ce v2 hO) (h5:a8 C n (iV o2) v v2 hO (.bool b) BK)
  (hm:aO (lastMarks [o1,o2] [r1,r2]=false) aW._auto_1):TV C n (.Compare l [o1,o2] [r1,r2] p) st b BK:=.mk λA s ρ Q hA R h=>
 isTrue_chain (G A s ρ _ hA R λaC x s1 N1 i1=>test_link (h2 A s1 aC _ hA N1.rep λbh y s2 N2 i2=>
  h3 A s2 bh x y _ hA N2.rep (i1.mono N2.pre N2.aX) i2 λdp z s3 N3 i3=>by
   subst i3;refine wpAny_truthy_bool ?_
   exact test_last (h4 A s3 dp _ hA N3.rep λeY z4 s4 N4 i4=>h5 A s4 eY y z4 _ hA N4.rep ((i2.mono N3.pre N3.aX).mono N4.pre N4.aX) i4 λGA z5 s5 N5 i5=>by
    subst i5;exact wpAny_truthy_bool (h GA s5 ((((N1.trans N2).trans N3).trans N4).trans N5))))) hm
theorem GB{slice:bv}{o i:ak}{id:dm}(hT:s.TypeIs o T)
  (hl:ea (.type T) "__getitem__"=pure (some<|.builtin id)) (h:aF (aN C.prog C.w) A (getItem o i) Q bq s):
  aF (aN C.prog C.w) A (subscriptTail value slice o i) Q bq s:=by
 refine wpAny_bind<|D (getitemInPython_of_ne hT.not_modules)<|wpAny_bind<|wpAny_specialOf hT hl ?_;have fin:aF (aN C.prog C.w) A (subscripted slice false o i) (λr lK=>aF (aN C.prog C.w) A (vJ value o r >>= λH=>pure r) Q bq lK) bq s:=by
  have k:∀vs,aF (aN C.prog C.w) A (operate vs<|getItem o i) (λr lK=>aF (aN C.prog C.w) A (vJ value o r >>= λH=>pure r) Q bq lK) bq s:=λvs=>
   wpAny_operating (wpAny_mono h (λr lK abq=>wpAny_bind<|wpAny_letTemporaryGo<|wpAny_pure abq) λH H x=>x)
  cases slice with
  |Slice a b c=>cases c with
   |none=>exact k _
   |some=>exact k _
  |_=>exact k _
 first
  |exact wpAny_pure<|wpAny_bind fin
  |exact wpAny_bind<|wpAny_pure (wpAny_bind fin)
  |exact wpAny_bind fin
structure gY(C:Cx)(n:B)(aiA i:V)(st:St)(v:V)(aj:St)(T id:dm):Prop where
 ty:∀(s:ay) (ρ:J ax) (x:ak),Rep C ρ st s->aiA.Is ρ s.heap x->s.TypeIs x T
 op:a8 C n getItem aiA i st v aj
theorem eJ{slice:bv}{i:V}{id:dm}(G:EV C n value st aiA am)(h2:EV C n slice am i ba)(h3:gY C n aiA i ba v ce T id)
  (hl:ea (.type T) "__getitem__"=pure (some<|.builtin id)):EV C n (.Subscript value slice p) st v ce:=.mk λA s ρ Q hA R h=>
 EP (G A s ρ _ hA R λaC x s1 N1 i1=>h2 A s1 aC _ hA N1.rep λbh y s2 N2 i2=>
  GB (h3.ty s2 bh x N2.rep (i1.mono N2.pre N2.aX)) hl (h3.op A s2 bh x y Q hA N2.rep (i1.mono N2.pre N2.aX) i2 λdp z s3 N3 i3=>h dp z s3 ((N1.trans N2).trans N3) i3))
theorem mZ{x:ak}(R:Rep C ρ st s)(hk:st.hp[k]?=some (.list l))(hx:V.Is ρ s.heap (.ref k) x):∃a vs,x= .ref a/\ρ[k]?=some a/\s.heap.IsList a vs/\V.IsL ρ s.heap l vs.toList:=by
 refine aH hx λa ha av=>?_
 clear hx;subst av;exact dv (R.led.objs k _ a hk ha) λvs m ho hi=>(⟨a,vs,rfl,ha,⟨_,ho,rfl,m,rfl⟩,hi⟩)
theorem i7{k:B}{l:J V}{i:az}{v:V}(hk:st.hp[k]?=some (.list l))(h0:0<=i)(hi:l[i.toNat]?=some v)(hf:i<2 ^ 63:=by first|decide|lia):gY C n (.ref k) (.int i) st v st "list" "list.__getitem__":=
 ⟨λs ρ x R hx=>by obtain⟨a,vs,rfl,_,hL,_⟩:=mZ R hk hx;exact hL.typeIs,.mk λA s ρ x y Q hA R hx ⟨t,e⟩ h=>by
  subst e;refine kn (mZ R hk hx) λa vs av H hL hl=>?_
  subst av;refine aH (V.IsL.get hl hi) λz hz iz=>?_
  exact wpAny_getItem_list hL h0 hf (by refine bL (jX) ?_;exact hz) (h ρ z s (ek R) iz)⟩
theorem gY.GD(hk:st.hp[k]?=some (.list l))(h0:i<0)(G: -(U l:az)<=i)(hi:l[(i+U l).toNat]?=some v)(hf: -(2 ^ 63)<=i:=by first|decide|lia):gY C n (.ref k) (.int i) st v st "list" "list.__getitem__":=
 ⟨λs ρ x R hx=>by obtain⟨a,vs,rfl,_,hL,_⟩:=mZ R hk hx;exact hL.typeIs,.mk λA s ρ x y Q hA R hx ⟨t,e⟩ h=>by
  subst e;refine kn (mZ R hk hx) λa vs av H hL hl=>?_
  subst av;refine aH (V.IsL.get hl hi) λz hz iz=>?_
  have hs:vs.size=U l:=by rw[←eO,dK hl]
  exact wpAny_getItem_list_neg hL h0 (by refine D hs ?_;exact G) hf (by refine D hs (bL (jX) ?_);exact hz) (h ρ z s (ek R) iz)⟩
theorem gY.str{t:ao}{i:az}{c:B}(hc:(oF i t.length).bind (t.cps[·]?)=some c)(hr:aO ((decide (i< -(2 ^ 63:az))||decide (i≥2 ^ 63))=false) aD._auto_1):gY C n (.str t) (.int i) st (.str ⟨#[c]⟩) st "str" "str.__getitem__":=
 ⟨λs ρ x R ⟨aiA,e⟩=>by subst e;exact typeIs_str s t aiA,.mk λA s ρ x y Q hA R ⟨t',e⟩ ⟨aiA,e'⟩ h=>by
  subst e e'
  exact PySem.P.getItem_str hr hc (h ρ _ _ (gj R _) ⟨_,rfl⟩)⟩
theorem gY.tup{l:J V}{i:az}{j:B}{v:V}(hj:oF i (U l)=some j)(hi:l[j]?=some v)(kr:aO (-(2 ^ 63)<=i) aD._auto_1)(hhi:aO (i<2 ^ 63) aD._auto_1):gY C n (.tup (.type "tuple") l) (.int i) st v st "tuple" "tuple.__getitem__":=
 ⟨λs ρ x R ⟨_,a,vs,m,e,ho,hl⟩=>by subst e;exact⟨_,ho,rfl⟩,.mk λA s ρ x y Q hA R ⟨_,a,vs,m,e,ho,hl⟩ ⟨aiA,e'⟩ h=>by
  subst e e';refine aH (V.IsL.get hl hi) λz hz iz=>?_
  have hs:vs.size=U l:=by rw[←eO,dK hl]
  exact getItem_tuple ⟨_,ho,rfl,m,rfl⟩ kr hhi (by refine D hs ?_;exact hj) (by refine bL (jX) ?_;exact hz) (h ρ z s (ek R) iz)⟩
theorem gy:ea (.type "list") "__getitem__"=pure (some<|.builtin "list.__getitem__"):=slot_list_getitem.lookup
theorem yp:ea (.type "str") "__getitem__"=pure (some<|.builtin "str.__getitem__"):=PySem.F.slot_str_getitem.lookup
theorem sM:ea (.type "tuple") "__getitem__"=pure (some<|.builtin "tuple.__getitem__"):=slot_tuple_getitem.lookup
inductive PV(C:Cx)(n:B):bC bv->St->bC az->St->Prop
 |none {st:St}:PV C n none st none st
 |some {e:bv} {i:az} {st am:St} (h:EV C n e st (.int i) am):PV C n (some e) st (some i) am
theorem PV.go{e:bC bv}{k:bC az}(h:PV C n e st k am)(hA:cn n A)(R:Rep C ρ st s)
  (hq:∀aB x s',bk C ρ s am aB s'->IsPart x k->Q x s'):aF (aN C.prog C.w) A (evalPart e C.env) Q bq s:=by
 cases h with
 |none=>rw[evalPart_none];exact wpAny_pure<|hq ρ _ s (ek R) .none
 |some h=>rw[evalPart_some];exact h A s ρ _ hA R λaC x s1 N1 ⟨t,e⟩=>by subst e;exact hq aC _ s1 N1<|.int ..
noncomputable def m5(l:J α)(lo hi:bC az):J α:=(l.drop<|lo.elim 0<|qU<|U l).take<|hi.elim (U l) (qU<|U l)-lo.elim 0 (qU<|U l)
theorem OF(items:bD ak)(lo hi:bC az):slicePick items lo hi none=(m5 items.toList lo hi).toArray:=by
 rw[slicePick_plain];unfold m5;exact D eO rfl
theorem V.IsL.cut{xs:J ak}(e:V.IsL ρ h l xs)(lo hi:bC az):V.IsL ρ h (m5 l lo hi) (m5 xs lo hi):=by
 unfold m5;exact D (dK e)<|V.IsL.take _<|V.IsL.drop _ e
theorem EV.slice{value:bv}{lo up:bC bv}{p pos:cN}{k:B}{l:J V}{a b:bC az}(G:EV C n value st (.ref k) am)(h2:PV C n lo am a ba)(h3:PV C n up ba b ce)(hk:ce.hp[k]?=some (.list l))(hz:U l<=16777216):
  EV C n (.Subscript value (.Slice lo up aA p) pos) st (.ref<|U ce.hp) ⟨ce.loc,ce.hp++[.list<|m5 l a b]⟩:=.mk λA s ρ Q hA R h=>by
 refine EP<|G A s ρ _ hA R λaC x s1 N1 i1=>wpAny_Slice<|h2.go hA N1.rep λbh y s2 N2 p2=>h3.go hA N2.rep λdp z s3 N3 p3=>(D (evalPart_none _)<|wpAny_pure<|kn (mZ N3.rep hk<|(i1.mono N2.pre N2.aX).mono N3.pre N3.aX) λc vs av ha hL hl=>?_);subst av;have hs:vs.size=U l:=by rw[←eO,dK hl]
 refine GB (hL.push _).typeIs gy (wpAny_getItem_list_slice (hL.push _) (Kv ..) p2 p3 .none (by simp) ?_<|by refine D hs ?_;exact hz);have N4:=bk.push N3.rep {cls:=.type "slice",data:=.fields #[y,z,jB]} s3.toks
 have N5:=bk.alloc (ob:=.list (m5 l a b)) (o:={cls:=.type "list",data:=.seq (slicePick vs a b aA)}) N4.rep rfl ⟨slicePick vs a b aA,0,ew _ rfl,by
  rw[OF]
  exact((hl.mono (bP _) (bF.push _ _)).mono (gN ..) (bF.push _ _)).cut a b⟩ s3.toks
 exact h _ _ _ ((((N1.trans N2).trans N3).trans N4).trans N5)<|mW N4.rep.led _
theorem aQ.ord{c:B}:aQ C n (.builtin "ord") [.str ⟨#[c]⟩] st (.int c) st:=.mk λA s ρ xs Q hA R aV h=>by
 refine cE aV λx r bE cx i2=>?_
 clear aV;subst bE;refine xE cx λt av=>?_
 clear cx;subst av;obtain rfl:r=[]:=i2;exact ord_of_one rfl<|h ρ _ _ (gj R _) ⟨_,rfl⟩
theorem aQ.chr{i:az}(h0:0<=i)(G:i<=1114111):aQ C n (.builtin "chr") [.int i] st (.str ⟨#[i.toNat]⟩) st:=.mk λA s ρ xs Q hA R aV h=>by
 refine cE aV λx r bE cx i2=>?_
 clear aV;subst bE;refine xE cx λt av=>?_
 clear cx;subst av;obtain rfl:r=[]:=i2;exact chr_of_range h0 G<|h ρ _ _ (gj R _) ⟨_,rfl⟩
theorem a8.add_list{i j:B}{l m:J V}(hi:st.hp[i]?=some (.list l))(hj:st.hp[j]?=some (.list m))(hz:U l+U m<=16777216):a8 C n (pM .Add) (.ref i) (.ref j) st (.ref<|U st.hp) ⟨st.loc,st.hp++[.list<|l++m]⟩:=.mk λA s ρ x y Q hA R ⟨a,ha,e1⟩ ⟨b,hb,e2⟩ h=>by
 subst e1 e2;refine dv (R.led.objs i _ a hi ha) λvs k1 ho hl=>dv (R.led.objs j _ b hj hb) λus k2 n5 kA=>?_
 have s1:vs.size=U l:=by simp only[←eO,dK hl]
 have s2:us.size=U m:=by simp only[←eO,dK kA]
 refine PySem.P.add_list (n:=k1) (n2:=k2) ho n5 (h _ _ _ (bk.alloc (ob:=.list<|l++m) R rfl ⟨vs++us,0,ew _ rfl,?_⟩ s.toks)<|mW R.led _) (by simp only[s1,s2];exact hz);simp only[KH];exact(hl.mono (gN ..)<|bF.push _ _).append<|kA.mono (gN ..)<|bF.push _ _
theorem aQ.extend{i j:B}{l m:J V}(hi:st.hp[i]?=some (.list l))(hj:st.hp[j]?=some (.list m))(hz:U l+U m<=16777216):aQ C n (.builtin "list.extend") [.ref i,.ref j] st .none ⟨st.loc,st.hp.set i<|.list<|l++m⟩:=.mk λA s ρ xs Q hA R aV h=>by
 refine cE aV λx r bE cx bR=>?_
 clear aV;subst bE;refine aH cx λa ha av=>?_
 clear cx;subst av;refine cE bR λy r' gW ky i2=>?_
 clear bR;subst gW;refine aH ky λb hb av=>?_
 clear ky;subst av;obtain rfl:r'=[]:=i2;refine dv (R.led.objs i _ a hi ha) λvs k1 ho hl=>dv (R.led.objs j _ b hj hb) λus k2 n5 kA=>?_
 have s1:vs.size=U l:=by simp only[←eO,dK hl]
 have s2:us.size=U m:=by simp only[←eO,dK kA]
 refine Ec F.slot_list_extend ⟨_,ho,rfl⟩ F.entry_list_extend (F.args_list_extend_2 _ _) (AutoSeq1.list_extend_list_list_0 a vs k1 b us k2 (extend_door<|by simp only[s1,s2];exact hz) (by refine D s1 ?_;exact cY (dZ ..) hz)<|by simp only[s1,s2];exact ly hz) ⟨ho,n5,?_⟩;refine xE (⟨_,rfl⟩:∃m',fY (· ++us) ⟨.type "list",aA,.seq vs k1,#[]⟩=⟨.type "list",aA,.seq (vs++us) m',#[]⟩) λm' e=>?_
 have ht:me ⟨pQ "list",aA,.seq vs k1,#[]⟩=false:=by rfl
 have j7:bF s.heap (s.heap.update a<|fY (· ++us)):=jY (iA ..) ho ht;refine h ρ _ _ (bk.change R (ob:=.list<|l++m) ha (iA ..) ⟨vs++us,m',?_,?_⟩ s.toks) rfl
 ·exact(pP _ ho rfl).trans<|bB some e
 ·simp only[KH];exact(hl.mono (bP _) j7).append<|kA.mono (bP _) j7
theorem GE{ρ:J ax}{h:bn}:∀{ns:J az} {xs:J ak},V.IsL ρ h (ns.map V.int) xs->(∀v∈xs,∃a t,v=q7 a t)/\numsOf xs=ns
 | [],_,e=>by exact D (show _=[] from e)<|⟨λv hv=>by simp at hv,rfl⟩
 |a::ns,_,z0=>dh z0 λx r e z1 e2=>xE z1 λt ex=>by
  refine xA (GE e2) λG h2=>?_
  subst e ex
  exact⟨λv hv=>by
   rcases cu.mp hv with rfl|hv
   ·exact⟨a,t,rfl⟩
   ·exact G v hv,by simp only[numsOf,h2]⟩
theorem aQ.max2{a b:az}:aQ C n (.builtin "max") [.int a,.int b] st (.int<|max a b) st:=.mk λA s ρ xs Q hA R aV h=>by
 refine cE aV λx r bE cx bR=>?_
 clear aV;subst bE;refine xE cx λt av=>?_
 clear cx;subst av;refine cE bR λy r' gW ky i2=>?_
 clear bR;subst gW;refine xE ky λaiA av=>?_
 clear ky;subst av;obtain rfl:r'=[]:=i2;refine max_two_ints hA.1 λh' tk hk=>h ρ _ _ (bk.grow R hk (eN.refl _) rfl rfl) ?_
 by_cases hc:b>a
 ·exact D (aU hc)<|⟨aiA,by exact D (az.max_eq_right<|EJ hc) rfl⟩
 ·exact D (aE hc)<|⟨t,by exact D (az.max_eq_left<|xF.mp hc) rfl⟩
theorem aQ.min2{a b:az}:aQ C n (.builtin "min") [.int a,.int b] st (.int<|min a b) st:=.mk λA s ρ xs Q hA R aV h=>by
 refine cE aV λx r bE cx bR=>?_
 clear aV;subst bE;refine xE cx λt av=>?_
 clear cx;subst av;refine cE bR λy r' gW ky i2=>?_
 clear bR;subst gW;refine xE ky λaiA av=>?_
 clear ky;subst av;obtain rfl:r'=[]:=i2;refine min_two_ints hA.1 λh' tk hk=>h ρ _ _ (bk.grow R hk (eN.refl _) rfl rfl) ?_
 by_cases hc:b<a
 ·exact D (aU hc)<|⟨aiA,by exact D (az.min_eq_right<|EJ hc) rfl⟩
 ·exact D (aE hc)<|⟨t,by exact D (az.min_eq_left<|xF.mp hc) rfl⟩
theorem bk.made{t:B}(R:Rep C ρ st s)(eS:∀b o,s.heap.get? b=some o->h'.get? b=some o)(ha:s.heap.objs.size<=a)(hi:ob.Is C.w (ρ++[a]) h' a):
  bk C ρ s ⟨st.loc,st.hp++[ob]⟩ (ρ++[a]) {s with heap:=h',toks:=t}:=by
 have fr:s.heap.get? a=none:=by
  cases e:s.heap.get? a with
  |none=>rfl
  |some o=>exact aZ (dH e)<|iU.mpr ha
 have nf:a∉ρ:=λh=>by
  refine mO (R.toF.mem h) λH H ob H H H ho H=>?_
  simp only[fr] at ho;exact nomatch ho
 refine⟨gN ..,iB eS,λb o e H H=>eS b o e,λa h q=>?_,eN.refl _,?_⟩
 ·rcases bK.mp h with h|h
  ·exact aZ h q
  ·rw[bx] at h;subst h;exact fr
 ·have R':Rep C ρ st {s with heap:=h',toks:=t}:=R.after eS rfl rfl;refine⟨?_,⟨?_,λk o b e q=>?_,?_,λh=>?_,λb h=>?_,R.led.gT,R'.led.top,R.led.os,R.led.drawn⟩⟩
  ·refine aH R'.loc λm bT hm=>?_
   exact⟨m,bT,λx v e=>by obtain⟨y,hy,q⟩:=hm x v e;exact⟨y,hy,q.mono (gN ..)<|bF.refl _⟩⟩
  ·simp only[aK,cK,iR,R.led.len]
  ·by_cases wc:k<U st.hp
   ·simp only[cA wc] at e
    (simp only[cA<|by refine D R.led.len ?_;exact wc] at q)
    exact(R'.led.objs k o b e q).mono (gN ..) (bF.refl _) rfl
   ·have kP:k=U st.hp:=by
     have:=(cJ.mp e).1;simp only[aK,cK,iR] at this;exact FA this wc
    subst kP;simp only[dc<|aG _,fG] at e
    (simp only[dc (by refine D R.led.len ?_;exact aG _),R.led.len,fG] at q)
    (have:=cj e;clear e;subst this);(have:=cj q;clear q;subst this)
    exact hi
  ·refine mG.mpr ⟨R.led.nodup,l5.mpr ⟨by simp,lx⟩,λc hc b hb=>?_⟩;rw[bx] at hb;subst hb;intro e;subst e;exact nf hc
  ·rcases bK.mp h with h|h
   ·exact R.led.fC h
   ·rw[bx] at h;refine aH R.loc λm hn H=>?_
    have:=hn.lt;rw[h] at this;exact aZ ha<|vI.mpr this
  ·rcases bK.mp h with h|h
   ·exact R.led.low b h
   ·rw[bx] at h;subst h;exact cY R.toF.size ha
theorem aQ.list_list(hk:st.hp[k]?=some (.list l))(hz:U l<=16777216):aQ C n (.type "list") [.ref k] st (.ref<|U st.hp) ⟨st.loc,st.hp++[.list l]⟩:=.mk λA s ρ xs Q hA R aV h=>by
 refine cE aV λx r bE hx i2=>?_
 clear aV;subst bE;obtain rfl:r=[]:=i2;refine kn (mZ R hk hx) λa vs av ha kW hl=>?_
 subst av;refine Lm kW λo ho hc m hd=>?_
 have s1:vs.size=U l:=by simp only[←eO,dK hl]
 refine call_list_seq a (.inl rfl) ho hc hd (λh' c' eS hn=>?_) (by refine D s1 ?_;exact hz);exact h _ _ _ (bk.made R eS (aG _) (ob:=.list l) ⟨vs,c',hn,hl.mono (gN ..)<|iB eS⟩)<|mW R.led _
theorem GF{ρ:J ax}{h:bn}:∀{l:J V} {xs:J ak},U xs=U l->(∀(i:B) v x,l[i]?=some v->xs[i]?=some x->V.Is ρ h v x)->V.IsL ρ h l xs
 | [],xs=>λhl H=>rP hl
 |v::l,[]=>λhl H=>by exact nomatch hl
 |v::l,x::xs=>λhl k=>⟨x,xs,rfl,k 0 v x rfl rfl,GF (by simpa using hl) λi v x G h2=>k (i+1) v x (by simpa using G)<|by simpa using h2⟩
theorem aQ.list_str(hz:x.length<=16777216):aQ C n (.type "list") [.str x] st (.ref<|U st.hp) ⟨st.loc,st.hp++[.list<|signs x]⟩:=.mk λA s ρ xs Q hA R aV h=>by
 refine cE aV λy r bE cx i2=>?_
 clear aV;subst bE;refine xE cx λt av=>?_
 clear cx;subst av;obtain rfl:r=[]:=i2;refine call_list_str hA.1 x t (λh' tk uE c' eS hn oT=>(h _ _ _ (bk.made R eS (aG _) (ob:=.list<|signs x) ⟨uE,c',hn,(GF ?_ λi v y G h2=>?_)⟩)<|mW R.led _)) hz
 ·simp only[eO,oT.1];unfold signs;simp only[bg,eO]
 ·rw[jX] at h2;refine dv (oT.2 i y h2) λc t' h3 av=>?_
  subst av;unfold signs at G;simp only[c7,jX,h3] at G
  (injection G;subst_vars)
  exact⟨t',rfl⟩
theorem OG{ρ:J ax}{h:bn}:∀{ts:J ao} {xs:J ak},V.IsL ρ h (ts.map V.str) xs->∃l:J<|ao×jh,xs=strValues l/\l.map (·.1)=ts
 | [],_,e=>⟨[],by refine D (e:_=[]) ?_;rfl,rfl⟩
 |a::ts,_,z0=>dh z0 λx r e z1 e2=>xE z1 λt ex=>by
  refine aH (OG e2) λl G h2=>?_
  subst e ex G;exact⟨(a,t)::l,rfl,by simp only[eu,h2]⟩
theorem aQ.join{sep:ao}{k:B}{ts:J ao}(hk:st.hp[k]?=some (.list<|ts.map V.str))(hz:(ts.map (·.length)).sum+U ts*sep.length<=16777216):aQ C n (.builtin "str.join") [.str sep,.ref k] st (.str<|Eh sep ts) st:=.mk λA s ρ xs Q hA R aV h=>by
 refine cE aV λy r bE cx bR=>?_
 clear aV;subst bE;refine xE cx λt av=>?_
 clear cx;subst av;refine cE bR λx r' gW hx i2=>?_
 clear bR;subst gW;obtain rfl:r'=[]:=i2;refine kn (mZ R hk hx) λa vs av ha hL hl=>?_
 subst av;refine aH (OG hl) λl e1 av=>?_
 subst av;have BL:=joinOk_of (sep:=sep) hz;unfold JoinOk at BL;rw[bb.not_eq_true'] at BL;have e2:vs=(strValues l).toArray:=by exact bL e1 rfl
 refine Ec F.slot_str_join (typeIs_str _ _ _) F.entry_str_join (F.args_str_join_2 _ _) (meets_str_join_list sep t a l BL) ⟨e2▸hL,post_join l ⟨joinFit_length BL,λt' k'=>(h ρ _ _ (gj R _) ⟨t',?_⟩)⟩⟩;show iX (ed.Str.glued sep<|l.map (·.1)) t'=_;exact D (StrLaws.glued_eq_join _ _) rfl
theorem gw.enum{aiC:ao}{x1}(hf:EV C n (.Name aiC p) st (.val<|.type "enumerate") am)(ha:EV C n e am (.ref k) ba)(hk:ba.hp[k]?=some (.list l))(he:aO (gV e=true) a9):
  gw C n (.Tuple elts x1 tp) (.Call (.Name aiC p) [e] [] pos) st ba (pairs 0 l) (λaj=>aj.hp[k]?=some (.list l)) (k+1):=.mk λA s ρ Q hA R h=>by
 refine wpAny_Call_Name_kw<|hf A s ρ _ hA R λaC x s1 N1 i1=>?_;subst i1;refine callWith_type1 ((an ha aM he) A s1 aC pos _ hA N1.rep λbh xs s2 N2 i2=>(cE i2 λx r bE cx i3=>?_)) (kQ he) rfl;clear i2;subst bE;refine aH cx λl' kt av=>?_
 clear cx;subst av;obtain rfl:r=[]:=i3;refine dv (N2.rep.led.objs k _ l' hk kt) λvs m ho hi=>call_enumerate_1 ho λh' OH hit hz mn=>wpAny_pyIter_enum OH ?_
 have R2:=N2.rep;have ext:∀{a b:ax} {G h2:bn},(∀c o,c≠a->c≠b->G.get? c=some o->h2.get? c=some o)->jE [a,b] G h2:=λe c o hb q=>e c o (λz=>hb<|by simp[z]) (λz=>hb<|by simp[z]) q;have N3:bk C bh s2 ba bh {s2 with heap:=h'}:=bk.grow R2 mn (eN.refl _) rfl rfl;have fr:∀a,s2.heap.objs.size<=a->s2.heap.get? a=aA:=λa ha=>by
  cases e:s2.heap.get? a with
  |none=>rfl
  |some o=>exact aZ (dH e)<|iU.mpr ha
 have fr0:∀a,s2.heap.objs.size<=a->a∉bh/\s.heap.get? a=aA:=λa ha=>by
  have nr:a∉bh:=λhm=>by
   refine mO (R2.toF.mem hm) λH H ob H H H ho H=>?_
   simp only[fr a ha] at ho;exact nomatch ho
  refine⟨nr,?_⟩;cases e:s.heap.get? a with
  |none=>rfl
  |some o=>
   have iZ:=N1.trans N2
   by_cases hl:a=C.env.locals
   ·subst hl;refine aH R2.loc λm cq H=>eR cq λoL H H hL H=>?_
    simp only[fr _ ha] at hL;exact nomatch hL
   ·simp only[←fr a ha,iZ.keep a o e (λhr=>nr<|iZ.pre.subset hr) hl]
 refine h bh (.ref<|s2.heap.objs.size+1) [s2.heap.objs.size+1,s2.heap.objs.size] (λi hh=>(∃old,IsEnum hh (s2.heap.objs.size+1) s2.heap.objs.size i old)/\hh.IsListIter s2.heap.objs.size l' i) _ (λp hp=>⟨λi G h2 x e j7=>?_,λi G x a ha=>?_,?_⟩) ⟨⟨_,OH⟩,hit⟩ (λa ha=>fr0 a ?_)<|(N1.trans N2).trans N3
 ·refine xA x λcq x2=>?_
  obtain⟨old,x1⟩:=cq;exact⟨⟨old,e _ (by simp) _ x1⟩,x2.at λo=>e _ (by simp) o⟩
 ·refine xA x λcq x2=>?_
  obtain⟨old,x1⟩:=cq;rcases cu.mp ha with rfl|ha
  ·exact⟨_,x1⟩
  ·rw[bx] at ha;subst ha;exact aH x2 λo ho H=>⟨o,ho⟩
 ·intro i A' s' aB aj Qn Qs fQ R' pre hD cO side ri rj;refine xA cO λcq x2=>?_
  obtain⟨old,x1⟩:=cq;obtain⟨l2,kA,mT,m',gH,ic⟩:∃l2,aB[k]?=some l2/\∃mT m',s'.heap.get? l2=some ⟨.type "list",aA,.seq mT m',#[]⟩/\V.IsL aB s'.heap l mT.toList:=by
   refine cP (R'.led.at hD) λa G cq H=>dv cq λmT m' h2 h3=>?_
   exact⟨a,G,mT,m',h2,h3⟩
  have:l2=l':=by
   have:=pT pre (by refine D (zW hp) ?_;exact kt);rw[kA] at this;(cases cj this;clear this);rfl
  subst this;have sD:s'.heap.IsList l2 mT:=⟨_,gH,rfl,m',rfl⟩
  have cw:s2.heap.objs.size+1≠s2.heap.objs.size:=Kj _;cases hq:(pairs 0 l)[i]? with
  |some v=>
   have hU:=hq;simp only[BD] at hq;cases hv:l[i]? with
   |none=>rw[hv] at hq;exact nomatch hq
   |some aiA=>
    rw[hv] at hq;refine aH (V.IsL.get ic hv) λy hy hvy=>?_
    refine wpAny_pyNext_enum_item x1 x2 sD (by refine bL (jX) ?_;exact hy) cw λh3 e3 it3 t3 z3 k3=>?_
    refine wpAny_letOwnedTupleGo_enum e3 λh4 e4 GH=>?_
    have bJ:s2.heap.objs.size+1<s'.heap.objs.size:=dH x1;have k4:jE [s2.heap.objs.size+1,s2.heap.objs.size] s'.heap h4:=λb o hb q=>GH.extBut b o (λz=>hb<|by simp[z])<|k3 b o (λz=>hb<|by simp[z]) (λz=>hb<|by simp[z]) q;have j7:bF s'.heap h4:=λb o q t=>by
     refine k4 b o (λhb=>?_) q;rcases cu.mp hb with rfl|hb
     ·rw[x1] at q;cases q;cases t
     ·rw[bx] at hb;subst hb;refine cP x2 λob ho H hd=>?_
      rw[ho] at q;cases q;rw[yf hd] at t;cases t
    have t4:h4.get? s'.heap.objs.size=some {cls:=.type "tuple",data:=.seq #[.int i s'.toks,y]}:=GH.extBut _ _ (kl bJ) t3;refine ri v hU _ h4 _ ⟨⟨_,by refine D (show((i+1:B):az)=(i:az)+1 from by rfl) ?_;exact e4⟩,it3.extBut GH.extBut<|uf cw⟩ k4 j7 ?_
    cases hq;refine⟨rfl,_,_,_,rfl,t4,_,_,rfl,⟨_,by exact D (iu _) rfl⟩,_,_,rfl,hvy.mono (bP _) j7,rfl⟩
  |none=>
   have hv:l[i]?=aA:=by
    rw[BD] at hq;cases hv:l[i]? with
    |none=>rfl
    |some aiA=>rw[hv] at hq;cases hq
   refine wpAny_pyNext_enum_end fQ.1 x1 x2 sD ?_ λh3 e3=>?_
   ·rw[←jX,ou,dK ic,←ou];exact hv
   ·have k3:jE [s2.heap.objs.size+1,s2.heap.objs.size] s'.heap h3:=λb o hb q=>e3 b o (λz=>hb<|by simp[z]) q;refine rj hq h3 s'.toks k3 λb o q t=>k3 b o (λhb=>?_) q;rcases cu.mp hb with rfl|hb
    ·rw[x1] at q;cases q;cases t
    ·rw[bx] at hb;subst hb;refine cP x2 λob ho H hd=>?_
     rw[ho] at q;cases q;rw[yf hd] at t;cases t
 ·rcases cu.mp ha with rfl|ha
  ·exact eM _
  ·rw[bx] at ha;subst ha;exact aG _
inductive bU(C:Cx)(n:B):J bv->J V->St->St->Prop
 |nil {st:St}:bU C n [] [] st st
 |cons {e:bv} {es:J bv} {v:V} {vs:J V} {st am ba:St} (h:cW C n e v st am) (t:bU C n es vs am ba) (he:aO (gV e=true) a9):bU C n (e::es) (v::vs) st ba
theorem BN(he:gV e=true):tW (e::es) env=(false,assign e env)::tW es env:=by
 cases e with
 |Starred=>exact aZ he dy
 |_=>rfl
theorem bU.star(h:bU C n elts vs st am):(tW elts C.env).findIdx? (·.1)=none/\U (tW elts C.env)=U vs:=by
 induction h with
 |nil=>exact⟨rfl,rfl⟩
 |cons h t he ih=>rw[BN he];exact⟨by refine D (J.findIdx?_cons) ?_;simp[ih.1],by simp only[cK,cK,ih.2]⟩
theorem bU.go(h:bU C n elts vs st am):∀{A:bS} {s:ay} {ρ:J ax} {ys:J ak} {Q:fF->ay->Prop},cn n A->Rep C ρ st s->V.IsL ρ s.heap vs ys->(∀aB s',bk C ρ s am aB s'->Q () s')->
  aF (aN C.prog C.w) A (assignInOrder ((tW elts C.env).map (·.2)) ys) Q bq s:=by
 induction h with
 |nil=>intro A s ρ ys Q hA R hy hq;obtain rfl:ys=[]:=hy;exact wpAny_pure<|hq ρ s<|ek R
 |cons h t he ih=>
  intro A s ρ ys Q hA R hy hq;refine cE hy λy r bE i1 i2=>?_
  clear hy;subst bE;exact D (BN he)<|wpAny_bind<|wpAny_holding<|h A s ρ y _ hA R i1 λaC s1 N1=>(ih hA N1.rep (i2.mono N1.pre N1.aX) λbh s2 N2=>hq bh s2<|N1.trans N2)
theorem cW.tup{elts:J bv}{k:B}{p:cN}{vs:J V}(h:bU C n elts vs st am):cW C n (.Tuple elts k p) (.tup (.type "tuple") vs) st am:=.mk λA s ρ x Q hA R hv hq=>by
 rw[EO];refine wpAny_bind<|wpAny_standAt ?_;unfold unpack;simp only[h.star.1,h.star.2];exact wpAny_bind<|wpAny_holding<|Od hA.1 R hv λys s1 N1 i1=>h.go hA N1.rep i1 λbh s2 N2=>hq bh s2<|N1.trans N2
theorem X1.abr(G:EV C n e st v am)(h2:cW C n (.Tuple elts k tp) v am ba)(h:K .next ba)
  (hs:aO (vK [.Tuple elts k tp] e p.line C.env=pure false) a9) (hw:aO (vL [.Tuple elts k tp] e C.env=pure aA) a9):
  X1 C n q (.Assign [.Tuple elts k tp] e p) st K:=.mk λA s ρ Q hA R kk=>
 Assign_Tuple (G A s ρ _ hA R λaC x s1 N1 i1=>h2 A s1 aC x _ hA N1.rep i1 λbh s2 N2=>kk bh .next _ _ s2 h (N1.trans N2).toS rfl) hs hw
theorem yq(G:EV C n e st v am)(h2:cW C n (.Tuple elts k tp) v am ba)(h:XS C n q r ba K)
  (hs:aO (vK [.Tuple elts k tp] e p.line C.env=pure false) a9) (hw:aO (vL [.Tuple elts k tp] e C.env=pure aA) a9):XS C n q (.Assign [.Tuple elts k tp] e p::r) st K:=cg<|X1.abr G h2 h hs hw
theorem kX{o:bv}{l:J (ao×V)}(ho:EV C n o st (.ref k) am)(hk:am.hp[k]?=some (.inst c d))(hd:am.hp[d]?=some (.attrs l))
  (hc:v9 C.top c mN) (bT:aO (mN "__setattr__"=aA) a9) (mX:aO (mN x=aA) a9) (hB:ea (.type "object") x=pure aA) (hl:U l<=16777216:=by exact bY rfl):
  cW C n (.Attribute o x p) v st ⟨am.loc,am.hp.set d<|.attrs<|putL l x v⟩:=.mk λA s ρ y Q hA R hv h=>by
 show aF _ A (do
  let ov ←holding [y] (eval o C.env)
  nN p.atName
  holding [y,ov] (setAttr ov x y)
  release [y,ov] []) Q bq s
 refine wpAny_bind<|wpAny_holding<|ho A s ρ _ hA R λaC z s1 N1 i1=>wpAny_bind<|wpAny_standAt<|wpAny_bind<|wpAny_holding<|aH i1 λa ha av=>?_;clear i1;subst av;exact aa1 N1.rep hk hd ha (hv.mono N1.pre N1.aX) hc bT mX hB hl λs2 N2=>wpAny_release'<|h aC s2<|N1.trans N2
theorem set_list{l:ax}{items:bD ak}{ne:B}{k:az}{t:jh}{v:ak}{Q:fF->ay->Prop}(ho:s.heap.get? l=some ⟨.type "list",aA,.seq items ne,#[]⟩)
  (hf:Lf k=true) (hk:(k=j/\j<items.size)\/(k<0/\oF k items.size=some j/\j<items.size))
  (h:Q () {s with heap:=s.heap.update l (fY (·.setIfInBounds j v))}):aF (aN C.prog C.w) A (setItem (.ref l) (.int k t) v) Q bq s:=by
 have hl:s.heap.IsList l items:=⟨_,ho,rfl,ne,rfl⟩
 unfold setItem
 try with_reducible refine wpAny_holding ?_
 first|refine wpAny_bind (wpAny_pure ?_)|skip
 refine wpAny_bind<|wpAny_sequenceKey hl.typeIs (by decide) ?_
 refine wpAny_bind (wpAny_callSpecial?_slot (name:=ft "__setitem__") hl.typeIs slot_list_setitem
  (wpAny_call_entry slot_list_setitem hl.typeIs entry_list_setitem ?_ (args_list_setitem _ _ _)))
 show aF _ _ (ed.List.listSubscript? (.int k t) >>= _) _ _ s;refine wpAny_bind<|wpAny_listSubscript_int hf ?_;clear hf;have hj:j<items.size:=by rcases hk with h|h<;>lia
 have OI:items[j]?=some items[j]:=ia hj;have tail:∀Q':Fin->ay->Prop,(∀s',s'={s with heap:=s.heap.update l (fY (·.setIfInBounds j v))}->aF (aN C.prog C.w) A.in1 (ret .none) Q' bq s')->
   aF (aN C.prog C.w) A.in1 (do setSeqItemAt l j v;ret .none) Q' bq s:=λQ' hq=>wpAny_bind<|wpAny_setSeqItemAt ho rfl<|hq _ rfl
 rcases hk with ⟨rfl,_⟩|⟨h0,abt,_⟩
 ·
  refine wpAny_bind<|wpAny_bind<|wpAny_seqItemAt ho rfl<|wpAny_pure<|D OI<|wpAny_mono (tail (λr s'=>_) λs' n6=>?_) (λH H x=>x) λH H x=>x.elim;subst n6;exact wpAny_pure ⟨.none,rfl,wpAny_pure h⟩
 ·obtain⟨m,rfl⟩:∃m:B,k=az.negSucc m:=by
   cases k with
   |ofNat n=>exact aZ h0<|xF.mpr<|az.ofNat_nonneg n
   |negSucc n=>exact⟨n,rfl⟩
  refine wpAny_bind<|wpAny_bind<|wpAny_bind<|wpAny_seqItems ho rfl<|wpAny_pure<|wpAny_pure<|D abt ?_;simp only[Ke,OI,vG];refine wpAny_mono (tail (λr s'=>_) λs' n6=>?_) (λH H x=>x) λH H x=>x.elim;subst n6;exact wpAny_pure ⟨.none,rfl,wpAny_pure h⟩
theorem abu{vs:bD ak}{m:B}(R:Rep C ρ st s)(ha:ρ[k]?=some a)(ho:s.heap.get? a=some ⟨.type "list",aA,.seq vs m,#[]⟩)(hl:V.IsL ρ s.heap l vs.toList)(hv:v.Is ρ s.heap y):
  bk C ρ s ⟨st.loc,st.hp.set k<|.list<|l.set j v⟩ ρ {s with heap:=s.heap.update a (fY (·.setIfInBounds j y))}:=by
 refine xE (⟨_,rfl⟩:∃m',fY (·.setIfInBounds j y) ⟨.type "list",aA,.seq vs m,#[]⟩=⟨.type "list",aA,.seq (vs.setIfInBounds j y) m',#[]⟩) λm' e=>?_
 have j7:bF s.heap (s.heap.update a<|fY (·.setIfInBounds j y)):=jY (iA ..) ho rfl;refine bk.change R (ob:=.list<|l.set j v) ha (iA ..) ⟨_,m',(pP _ ho rfl).trans<|bB some e,?_⟩ s.toks;exact D bD.toList_setIfInBounds<|V.IsL.set j (hl.mono (bP _) j7)<|hv.mono (bP _) j7
theorem cW.item{o i:bv}{z:az}(ho:EV C n o st (.ref k) am)(hi:EV C n i am (.int z) ba)(hk:ba.hp[k]?=some (.list l))(hz:(z=j/\j<U l)\/(z<0/\oF z (U l)=some j/\j<U l))(hf:aO (Lf z=true) aD._auto_1):
  cW C n (.Subscript o i p) v st ⟨ba.loc,ba.hp.set k<|.list<|l.set j v⟩:=.mk λA s ρ y Q hA R hv h=>by
 refine wpAny_bind<|wpAny_holding<|ho A s ρ _ hA R λaC z s1 N1 i1=>wpAny_bind<|wpAny_holding<|hi A s1 aC _ hA N1.rep λbh z2 s2 N2 i2=>wpAny_bind<|wpAny_standAt<|wpAny_bind<|wpAny_holding<|aH (i1.mono N2.pre N2.aX) λa ha av=>?_;subst av;refine dv (N2.rep.led.objs k _ a hk ha) λvs m kz hl=>xE i2 λt av=>?_
 clear i2;subst av;have hs:vs.size=U l:=by rw[←eO,dK hl]
 refine set_list kz hf (by refine D hs ?_;exact hz) ?_
 exact wpAny_release'<|h bh _<|(N1.trans N2).trans<|abu N2.rep ha kz hl<|(hv.mono N1.pre N1.aX).mono N2.pre N2.aX
inductive cF(C:Cx)(n:B):J bv->V->St->St->Prop
 |nil {v:V} {st:St}:cF C n [] v st st
 |cons {e:bv} {es:J bv} {v:V} {st am ba:St} (h:cW C n e v st am) (t:cF C n es v am ba) (he:aO (gV e=true) a9):cF C n (e::es) v st ba
theorem cF.go(h:cF C n es v st am):∀{A:bS} {s:ay} {ρ:J ax} {y:ak} {Q:fF->ay->Prop},cn n A->Rep C ρ st s->v.Is ρ s.heap y->(∀aB s',bk C ρ s am aB s'->Q () s')->
  aF (aN C.prog C.w) A (assignAll y<|(tW es C.env).map (·.2)) Q bq s:=by
 induction h with
 |nil=>intro A s ρ y Q hA R hy hq;exact wpAny_pure<|hq ρ s (ek R)
 |cons h t he ih=>
  intro A s ρ y Q hA R hy hq;refine D (BN he) ?_
  have key:aF (aN C.prog C.w) A (do holding [y] (assign _ C.env y);assignAll y ((tW _ C.env).map (·.2))) Q bq s:=
   wpAny_bind (wpAny_holding<|h A s ρ y _ hA R hy λaC s1 N1=>ih hA N1.rep (hy.mono N1.pre N1.aX) λbh s2 N2=>hq bh s2<|N1.trans N2)
  cases t with
  |nil=>exact h A s ρ y _ hA R hy hq
  |cons h' t' FY=>
   rw[BN FY] at key ⊢;exact key
theorem X1.abv(G:EV C n e st v am)(h2:cF C n es v am ba)(h:K .next ba)
  (hs:aO (vK es e p.line C.env=pure false) a9) (hw:aO (vL es e C.env=pure aA) a9):X1 C n q (.Assign es e p) st K:=.mk λA s ρ Q hA R k=>by
 rw[exec_Assign];refine wpAny_bind (wpAny_standAt<|D hs<|wpAny_bind<|wpAny_pure<|D (aE<|by decide) ?_);refine wpAny_bind<|G A s ρ _ hA R λaC x s1 N1 i1=>(D hw<|wpAny_bind<|wpAny_pure ?_);show aF _ A (do assignAll x _;pure .next) Q bq s1;exact wpAny_bind<|h2.go hA N1.rep i1 λbh s2 N2=>wpAny_pure<|k bh .next _ _ s2 h (N1.trans N2).toS rfl
theorem jG(G:EV C n e st v am)(h2:cF C n es v am ba)(h:XS C n q r ba K)
  (hs:aO (vK es e p.line C.env=pure false) a9) (hw:aO (vL es e C.env=pure aA) a9):XS C n q (.Assign es e p::r) st K:=cg<|X1.abv G h2 h hs hw
theorem BO{aiC:ak}{Q:Args->ay->Prop}(ha:iD C n es st vs am)(hA:cn n A)(R:Rep C ρ st s)(he:es.all gV=true)
  (h:∀aB xs s',bk C ρ s am aB s'->V.IsL aB s'.heap vs xs->Q ⟨xs,[]⟩ s'):aF (aN C.prog C.w) A (evalArgs aiC true (lE pos<|lC es C.env) []) Q bq s:=by
 have key:=ha A s ρ pos (λxs s'=>Q ⟨xs,[]⟩ s') hA R h;cases es with
 |nil=>
  exact wpAny_bind<|wpAny_mono key (λvs s' h'=>(wpAny_bind<|wpAny_pure<|wpAny_holding<|wpAny_bind<|wpAny_pure<|wpAny_bind<|wpAny_pure<|wpAny_pure h')) λH H x=>x
 |cons e es=>
  have Gl:gV e=true:=by simp only[oB,gS] at he;exact he.1
  simp only[kQ Gl] at key ⊢;exact ET key
theorem GI(h:es.all gV=true)(hl:U es<30):((lE pos (lC es env)).all (λx=> !x.1)&&(qR pos (qQ [] env)).all (λx=>x.1.isSome)
   &&decide (U es+U ([]:J nO)+(if([]:J nO).isEmpty then 0 else 1)<30))=true:=by
 have e1:(lE pos<|lC es env).all (λx=> !x.1)=true:=by
  unfold lE
  induction es with
  |nil=>rfl
  |cons e es ih=>
   simp only[oB,gS] at h;have we:=ih h.2 (by simp only[cK] at hl;exact lz ‹_›);refine D (kQ h.1) ?_
   simp only[eu,oB] at we ⊢;exact we
 (refine D e1<|D (dG<|by simp;exact hl) ?_)
 rfl
theorem EV.ro{o:bv}{name:ao}{args:J bv}{aiC:ax}{of:bc}{l:J (ao×V)}{y:bC ak}
  (ho:EV C n o st (.ref k) am) (hk:am.hp[k]?=some (.inst c d)) (hd:am.hp[d]?=some (.attrs l)) (hc:v9 C.top c mN) (hf:mN name=some (.ref aiC)) (yr:C.top.get? aiC=some of) (rp:of.cls= .type "function") (BP:of.data= .func fd)
  (hB:ea (.type "object") name=pure y) (ha:iD C n args am vs ba) (oU:aQ C n (.ref aiC) (.ref k::vs) ba v ce)
  (uF:aO (mN "__getattribute__"=aA) a9) (GJ:aO (mN "__getattr__"=aA) a9) (eo:aO (l.lookup name=aA) a9) (he:aO (args.all gV=true) a9) (hlen:aO (U args<30) aD._auto_1)
  (oS:aO (vM o name C.env (eval o C.env)=eval o C.env) a9) (lL:aO ((apos.endLine==pos.line)=true) a9):EV C n (.Call (.Attribute o name apos) args [] pos) st v ce:=.mk λA s ρ Q hA R h=>by
 simp only[arm_eval_Call,oS];refine wpAny_bind<|ho A s ρ _ hA R λaC x s1 N1 i1=>(wpAny_bind<|wpAny_standAt ?_);have yt:methodCallForm (U args+U ([]:J nO)) (lE pos<|lC args C.env) (qR pos<|qQ [] C.env)=true:=GI he hlen;have oW:vN true o C.env apos pos=pure pos:=by unfold vN;simp[lL]
 unfold methodCall;refine D yt<|aH i1 λa rq av=>?_;clear i1;subst av;refine kn (BF N1.rep hk hd rq) λm b hb ne I hm=>?_
 obtain⟨nm,q,N,bs,sn,sub,ab,col,dd,k0,k1,k2,k3,k5,newId,hC,hn⟩:=hc;refine wpAny_bind<|wpAny_holding<|method_ofFk (N1.rep.led.top _ _ hC) (hn.keeps N1.rep.led.top) uF GJ hf (N1.rep.led.top _ _ yr) rp hB I ((hm name).2 eo)<|wpAny_bind<|wpAny_of_eq oW<|EQ (o:=of) (fd:=fd) ?_;exact BO ha hA N1.rep he λbh xs s2 N2 i2=>⟨⟨N2.rep.led.top _ _ yr,BP⟩,(oU A s2 bh (.ref a::xs) Q hA N2.rep ⟨_,xs,rfl,⟨a,pT N2.pre rq,rfl⟩,i2⟩ λdp z s3 N3 i3=>h dp z s3 ((N1.trans N2).trans N3) i3)⟩
theorem a8.is_ref_none:a8 C n (iV .Is) (.ref k) .none st (.bool false) st:=.mk λA s ρ x y Q hA R ⟨a,_,e⟩ e2 h=>by
 subst e e2;exact K7 (by intro x;cases x)<|h ρ _ _ (ek R) rfl
theorem a8.is_int_none:a8 C n (iV .Is) (.int i) .none st (.bool false) st:=.mk λA s ρ x y Q hA R ⟨a,e⟩ e2 h=>by
 subst e e2;exact K7 (by intro x;cases x)<|h ρ _ _ (ek R) rfl
theorem a8.isnot_none_none:a8 C n (iV .IsNot) .none .none st (.bool false) st:=.mk λA s ρ x y Q hA R e e2 h=>by
 subst e e2;exact PyProof.Rows.isnot_none_none<|h ρ _ _ (ek R) rfl
noncomputable def sN(h:bn)(c:ax):bn:=(h.push {cls:=.type "dict",data:=.dict #[]}).push {cls:=.ref c,dict:=some h.objs.size,data:=.plain}
theorem abw(h:bn)(c:ax):(sN h c).get? (h.objs.size+1)=some ⟨.ref c,some h.objs.size,.plain,#[]⟩:=by
 have:=ew (h.push {cls:=.type "dict",data:=.dict #[]}) (o:={cls:=.ref c,dict:=some h.objs.size,data:=.plain}) rfl;rw[jV] at this;exact this
theorem BQ:∀b o,h.get? b=some o->(sN h c).get? b=some o:=λb o e=>dE _<|dE _ e
theorem abx{M:du}{g:bD de}{d:cV}{t:B}{os:bM}{q:ao}{sub:J ak}{Q:Fin->ay->Prop}
  (hC:h.get? c=some (vO nm q c N bs [.type "object"] true sn sub false col dd k0 k1 k2 k3 k5 "object.__new__")) (hn:h.Ns N mN) (hi:mN "__init__"=some (.ref fI)) (yu:h.get? fI=some oI) (rp:oI.cls= .type "function")
  (hq:aF (aN M w) A (gR (.ref fI)<|.ref (h.objs.size+1)::rest) (λr s'=>r= .none/\Q (.done<|.ret<|.ref<|h.objs.size+1) s') bq ⟨sN h c,g,d,t,os⟩):
  aF (aN M w) A (ed.«type.__call__» ⟨.ref c::rest,[]⟩) Q bq ⟨h,g,d,t,os⟩:=by
 have F:=PySem.F.objNew;have aby:mroOf (.type "object")=pure [.type "object"]:=by kernel_rfl
 have uG:ea (.type "object") "__init__"=pure (some<|.builtin "object.__init__"):=by rw[typeLookup_type,builtinLookup_eq_fast];kernel_rfl
 repeat (first|with_reducible refine wpAny_loadPart_at hC ?_|with_reducible refine wpAny_madeBy_exc hC ?_|wp_step)
 refine codeAny_call_builtin_code (xx _ F.quiet)<|wpAny_check_obj_new F hC<|codeAny_obj_new F hC hn hi ?_;show aF _ _ _ _ _ ⟨sN h c,g,d,t,os⟩;have hcC:(ue c::[pQ "object"]).contains (.ref c)=true:=by simp
 repeat (first|with_reducible refine wpAny_loadPart_at (abw h c) ?_|(with_reducible refine wpAny_isSubtype_exc (BQ _ _ hC) ?_;rw[hcC])|wp_step)
 refine wpAny_typeLookup_exc (BQ _ _ hC) (hn.keeps BQ) aby uG<|D hi<|wpAny_holding<|wpAny_bind<|wpAny_bind<|wpAny_typeOf (T:="function") ⟨_,BQ _ _ yu,rp⟩ ?_;refine D (aU<|by decide)<|wpAny_pure<|wpAny_bind<|wpAny_mono hq (λr s' hr=>?_) λH H x=>x;obtain⟨rfl,hQ⟩:=hr
 wp_walk
 exact hQ
theorem abz{M:du}{g:bD de}{d:cV}{t:B}{os:bM}{q:ao}{sub:J ak}
  (hC:h.get? c=some (vO nm q c N bs [.type "object"] true sn sub false col dd k0 k1 k2 k3 k5 "object.__new__")) (hn:h.Ns N mN) (hi:mN "__init__"=some (.ref fI)) (yu:h.get? fI=some oI) (rp:oI.cls= .type "function")
  (hq:aF (aN M w) (A.under<|.builtin "type.__call__" ⟨.ref c::rest,[]⟩) (gR (.ref fI)<|.ref (h.objs.size+1)::rest) (λr s'=>r= .none/\Q (.ref<|h.objs.size+1) s') bq ⟨sN h c,g,d,t,os⟩):
  aF (aN M w) A (gR (.ref c) rest) Q bq ⟨h,g,d,t,os⟩:=by
 have f1:=tc_lookup;have f2:=tc_bind<|.ref c;have hT:(⟨h,g,d,t,os⟩:ay).TypeIs (.ref c) "type":=⟨_,hC,rfl⟩
 refine wpAny_call<|codeAny_of_tree ?_;show aF _ _ (callAny (.ref c) _) _ _ _
 repeat (any_goals (first|assumption|with_reducible refine wpAny_loadPart_at hC ?_|wp_step))
 exact⟨rfl,codeAny_call_builtin_at (xx _<|by decide+kernel) entry_typeCall<|wpAny_check_type_call_sub hC<|abx hC hn hi yu rp hq⟩
theorem cn.create(h:cn (n+1) A):cn n (A.under<|.builtin "type.__call__" ⟨.ref c::rest,[]⟩):=by
 have hw:(xy "type.__call__" ⟨.ref c::rest,[]⟩).weight=1:=by rfl
 have hu:(xy "type.__call__" ⟨.ref c::rest,[]⟩).cUnits<=5:=bY rfl;refine⟨h.1,?_,?_⟩
 ·show A.depth+_+10*n<=900;refine D hw ?_;have:=h.2.1;exact Nw this
 ·
  have:=h.2.2;exact ZM this hu
theorem abA(R:Rep C ρ st s)(c:ax):bk C ρ s ⟨st.loc,st.hp++[.attrs []]++[.inst c<|U st.hp]⟩ (ρ++[s.heap.objs.size]++[s.heap.objs.size+1]) {s with heap:=sN s.heap c}:=by
 have hg:(s.heap.push {cls:=.type "dict",data:=.dict #[]}).get? s.heap.objs.size=some {cls:=.type "dict",data:=.dict #[]}:=ew _ rfl;have N1:=bk.alloc (ob:=.attrs []) (o:={cls:=.type "dict",data:=.dict #[]}) R rfl ⟨⟨_,hg,rfl,rfl⟩,λH=>none,bn.Ns1.of_empty ⟨_,#[],_,hg,rfl,λe he=>aZ he (by simp),λH=>rfl⟩,λx=>⟨λv e=>by simp at e,λH=>rfl⟩⟩ s.toks;have hz:(s.heap.push {cls:=.type "dict",data:=.dict #[]}).objs.size=s.heap.objs.size+1:=jV ..
 have N2:=bk.alloc (ob:=.inst c (U st.hp)) (o:={cls:=.ref c,dict:=some s.heap.objs.size,data:=.plain}) N1.rep rfl ⟨s.heap.objs.size,by
   (refine D (cA (by simp[R.led.len])) (D (dc (by rw[R.led.len];exact aG _)) (D R.led.len (D (fG _) ?_))));rfl,ew _ rfl⟩ s.toks
 have N:=N1.trans N2;dsimp only at N;rw[hz] at N;exact N
theorem aQ.new{q:ao}{sub:J ak}
  (hC:C.top.get? c=some (vO nm q c N bs [.type "object"] true sn sub false col dd k0 k1 k2 k3 k5 "object.__new__")) (hn:C.top.Ns N mN) (hi:mN "__init__"=some (.ref fI)) (yu:C.top.get? fI=some oI) (rp:oI.cls= .type "function")
  (oU:aQ C n (.ref fI) (.ref (U st.hp+1)::args) ⟨st.loc,st.hp++[.attrs []]++[.inst c<|U st.hp]⟩ .none am):aQ C (n+1) (.ref c) args st (.ref<|U st.hp+1) am:=.mk λA s ρ xs Q hA R aV h=>by
 have N0:=abA R c;refine abz (R.led.top _ _ hC) (hn.keeps R.led.top) hi (R.led.top _ _ yu) rp ?_
 have hx:V.Is (ρ++[s.heap.objs.size]++[s.heap.objs.size+1]) (sN s.heap c) (.ref (U st.hp+1)) (.ref (s.heap.objs.size+1)):=⟨_,by
  refine D (dc (by simp[R.led.len])) ?_;simp[R.led.len],rfl⟩
 exact oU _ {s with heap:=sN s.heap c} _ _ _ hA.create N0.rep ⟨_,xs,rfl,hx,aV.mono N0.pre N0.aX⟩ λaC x s1 N1 i1=>⟨i1,(aH hx λa e1 e2=>(h aC _ s1 (N0.trans N1) ⟨a,pT N1.pre e1,e2⟩))⟩
noncomputable def BR(C:Cx)(aiA:V)(st:St):Prop:=∀(s:ay) (ρ:J ax) (x:ak),Rep C ρ st s->aiA.Is ρ s.heap x->
 ∃k,k≠Ku/\∀(A:bS) (Q:Keeper->ay->Prop),Q k s->aF (aN C.prog C.w) A (keeperOf x) Q bq s
@[irreducible] noncomputable def gz(C:Cx)(aiA:V)(st:St):Prop:=BR C aiA st
theorem gz.mk(run:BR C aiA st):gz C aiA st:=by with_unfolding_all exact run
theorem gz.run(h:gz C aiA st):BR C aiA st:=by with_unfolding_all exact h
noncomputable instance{C:Cx}{aiA:V}{st:St}:l7 (gz C aiA st) (λH=>BR C aiA st):=⟨gz.run⟩
noncomputable def BS(C:Cx)(n:B)(aiA:V)(args:J V)(st:St)(v:V)(aj:St):Prop:=
 ∀(A:bS) (s:ay) (ρ:J ax) (x:ak) (xs:J ak) (Q:ak->ay->Prop),cn n A->Rep C ρ st s->aiA.Is ρ s.heap x->V.IsL ρ s.heap args xs->
  (∀aB z s',bk C ρ s aj aB s'->v.Is aB s'.heap z->Q z s')->aF (aN C.prog C.w) A (gR x xs) Q bq s
@[irreducible] noncomputable def gA(C:Cx)(n:B)(aiA:V)(args:J V)(st:St)(v:V)(aj:St):Prop:=BS C n aiA args st v aj
theorem gA.mk(run:BS C n aiA args st v aj):gA C n aiA args st v aj:=by with_unfolding_all exact run
theorem gA.run(h:gA C n aiA args st v aj):BS C n aiA args st v aj:=by with_unfolding_all exact h
noncomputable instance{C:Cx}{n:B}{aiA:V}{args:J V}{st:St}{v:V}{aj:St}:l7 (gA C n aiA args st v aj) (λH=>BS C n aiA args st v aj):=⟨gA.run⟩
theorem gA.of{aiC:ak}(h:aQ C n aiC args st v am):gA C n (.val aiC) args st v am:=.mk λA s ρ x xs Q hA R hx aV hq=>by
 subst hx;exact h A s ρ xs Q hA R aV hq
theorem gz.builtin{id:dm}:gz C (.val<|.builtin id) st:=.mk λs ρ x R hx=>⟨.machine,by decide,λA Q hq=>by subst hx;exact wpAny_pure hq⟩
theorem gz.type{T:dm}:gz C (.val<|.type T) st:=.mk λs ρ x R hx=>⟨.machine,by decide,λA Q hq=>by subst hx;exact wpAny_pure hq⟩
theorem gz.cls{q:ao}{bm:J ak}{abB:bb}{sub:J ak}{ab:bb}{newId:dm}
  (hC:C.top.get? c=some (vO nm q c N bs bm abB sn sub ab col dd k0 k1 k2 k3 k5 newId)):gz C (.val (.ref c)) st:=.mk λs ρ x R hx=>⟨.machine,by decide,λA Q hq=>by
 subst hx;have i8:=R.led.top _ _ hC;obtain⟨hh,g,d,t,os⟩:=s;have f1:=tc_lookup;have hT:(⟨hh,g,d,t,os⟩:ay).TypeIs (.ref c) "type":=⟨_,i8,rfl⟩
 repeat (any_goals (first|assumption|with_reducible refine wpAny_loadPart_at i8 ?_|with_reducible refine wpAny_load' i8 ?_|wp_step))
 all_goals first
  |exact hq
  |(rw[aU rfl];exact hq)⟩
theorem abC{aiC:ak}{first:J ak}{args:J (bb×dD ak)}(abD:args.any (·.1)=false)
  (h:aF (aN C.prog C.w) A (evalArgs aiC true args []) (λa cX=>(∃k,k≠Ku/\∀(A:bS) (Q:Keeper->ay->Prop),Q k cX->aF (aN C.prog C.w) A (keeperOf aiC) Q bq cX)/\aF (aN C.prog C.w) A (gR aiC (first++a.pos) a.kw) Q bq cX) bq s):
  aF (aN C.prog C.w) A (callWith pos aiC first args []) Q bq s:=by
 refine wpAny_bind<|wpAny_holding<|wpAny_mono h (λa cX h₁=>wpAny_bind<|wpAny_standAt ?_) λH H x=>x;obtain⟨⟨k,hk,L⟩,hc⟩:=h₁;refine D (D abD rfl:(args.any (·.1)||([]:J (bC ao×dD ak)).any (·.1.isNone))=false)<|wpAny_bind<|L A _ ?_;have tail:∀{t:dD ak},aF (aN C.prog C.w) A t Q bq cX->aF (aN C.prog C.w) A (t >>= λr=>holding [r] point >>= λH=>pure r) Q bq cX:=
  λht=>wpAny_bind<|wpAny_mono ht (λr sB hr=>wpAny_bind<|wpAny_holding<|wpAny_point<|wpAny_pure hr) λH H x=>x
 have marked (mk:ak):aF (aN C.prog C.w) A (callMarked mk aiC (first++a.pos) a.kw) Q bq cX:=by unfold callMarked;exact Calls.wpAny_keep hc
 cases k with
 |caller=>exact aZ rfl hk
 |frame=>exact E4 (p:=λt=>aF (aN C.prog C.w) A t Q bq cX) (tail hc)<|tail<|marked _
 |boundFrame=>exact E4 (p:=λt=>aF (aN C.prog C.w) A t Q bq cX) (tail hc)<|tail<|marked _
 |machine=>exact tail hc
theorem plain_any(h:es.all gV=true):(lE pos<|lC es env).any (·.1)=false:=by
 induction es with
 |nil=>rfl
 |cons e es ih=>
  simp only[oB,gS] at h;have we:=ih h.2;unfold lE at we ⊢;refine D (kQ h.1) ?_
  simp only[eu,D0] at we ⊢;exact we
theorem EV.qf{aiC:ao}(hf:EV C n (.Name aiC p) st aiA am)(ha:iD C n es am vs ba)(hk:gz C aiA ba)(hc:gA C n aiA vs ba v ce)(sE:aO (es.all gV=true) a9):
  EV C n (.Call (.Name aiC p) es [] pos) st v ce:=.mk λA s ρ Q hA R h=>by
 exact wpAny_Call_Name_kw<|hf A s ρ _ hA R λaC x s1 N1 i1=>(abC (plain_any sE)<|BO ha hA N1.rep sE λbh xs s2 N2 i2=>⟨hk s2 bh x N2.rep<|i1.mono N2.pre N2.aX,(hc A s2 bh x xs Q hA N2.rep (i1.mono N2.pre N2.aX) i2 λdp z s3 N3 i3=>h dp z s3 ((N1.trans N2).trans N3) i3)⟩)
theorem fw{aiC:ao}{id:dm}(hf:EV C n (.Name aiC p) st (.val<|.builtin id) am)(ha:iD C n es am vs ba)(hc:aQ C n (.builtin id) vs ba v ce)(sE:aO (es.all gV=true) a9):
  EV C n (.Call (.Name aiC p) es [] pos) st v ce:=EV.qf hf ha gz.builtin (gA.of hc) sE
theorem OJ{ρ:J ax}{h:bn}{i:az}:∀{ns:J az} {l:J ak},V.IsL ρ h (ns.map V.int) l->l.any (λz=>match z with| .int b _=>b==i|_=>false)=ns.contains i
 | [],l,hl=>by exact D (show l=[] from hl) rfl
 |k::ns,_,z0=>dh z0 λz r ez z1 h2=>xE z1 λaiA e=>by
  subst ez;subst e;refine D D0<|D (OJ h2)<|D z8 ?_;show(k==i||_)=(i==k||_)
  exact D (sd.mpr ⟨λh=>nH.mpr (nH.mp h).symm,λh=>nH.mpr (nH.mp h).symm⟩:(k==i)=(i==k)) rfl
theorem a8.abE{ns:J az}:a8 C n (iV .In) (.int i) (.tup (.type "tuple")<|ns.map V.int) st (.bool<|ns.contains i) st:=.mk λA s ρ x y Q hA R ⟨t,e⟩ ⟨_,a,vs,m,e2,ho,hl⟩ h=>by
 subst e e2;have p0:∀z,z∈vs.toList->∃b aiA,z=q7 b aiA:=(GE hl).1;refine SeqAt.in_tupleAt (λz=>match z with| .int b _=>b==i|_=>false) ⟨_,ho,rfl,m,rfl⟩ (λz hz=>?_) ?_
 ·refine xJ (p0 z<|KG.mpr hz) λb aiA av=>?_
  subst av;exact(S4 b i aiA t).at _ _
 ·have e3:vs.any (λz=>match z with| .int b _=>b==i|_=>false)=ns.contains i:=by
   exact bL bD.any_toList<|OJ hl
  exact D e3<|h ρ _ s (ek R) rfl
theorem yv{κ:Type}[xn κ]{ρ:J ax}{h:bn}{x:κ}:∀{l:J (κ×V)} {bI:J (κ×ak)},bI.map (·.1)=l.map (·.1)->V.IsL ρ h (l.map (·.2)) (bI.map (·.2))->
  (∀v,l.lookup x=some v->∃y,valueAt bI x=some y/\v.Is ρ h y)/\(l.lookup x=none->valueAt bI x=none)
 | [],bI=>λe H=>by
  obtain rfl:bI=[]:=xa.mp e;exact⟨λv hv=>by simp at hv,λH=>rfl⟩
 |(k,aiA)::l,[]=>λe H=>by exact nomatch e
 |(k,aiA)::l,(k',y)::bI=>λe z0=>dh z0 λz r e2 i1 i2=>by
  simp only[eu,D2] at e e2;obtain⟨rfl,e⟩:=e;obtain⟨rfl,rfl⟩:=e2;have ih:=yv (x:=x) e i2;refine D gv ?_
  unfold valueAt at ih ⊢;refine D (J.find?_cons) ?_
  by_cases hk:k'=x
  ·subst hk;refine D (xm _)<|D (dG rfl) ?_;exact⟨λv hv=>by cases hv;exact⟨y,rfl,i1⟩,λh=>by cases h⟩
  ·have G:(x==k')=false:=by simpa using λe=>hk e.symm
   refine D G<|D (fB hk) ?_;exact ih
noncomputable def oX[xn κ](l:J<|κ×V)(k:κ)(v:V):J (κ×V):=if l.any (λp=>p.1=k) then l.map (λp=>if p.1=k then(p.1,v) else p) else l++[(k,v)]
theorem OK[xn κ]{x:κ}(hv:v.Is ρ h y){l:J (κ×V)}{bI:J (κ×ak)}(e:bI.map (·.1)=l.map (·.1))(i:V.IsL ρ h (l.map (·.2))<|bI.map (·.2)):
  (stored bI x y).map (·.1)=(oX l x v).map (·.1)/\V.IsL ρ h ((oX l x v).map (·.2)) ((stored bI x y).map (·.2)):=by
 have OL:bI.any (λkv=>kv.1=x)=l.any (λp=>p.1=x):=by
  have:∀{α:Type} (l:J<|κ×α),l.any (λp=>decide (p.1=x))=(l.map (·.1)).any (λk=>decide (k=x)):=λl=>by simp only[J.any_map];rfl
  simp only[this,this,e]
 unfold stored oX;simp only[OL];split
 ·rename_i hx;clear hx OL
  induction l generalizing bI with
  |nil=>obtain rfl:bI=[]:=xa.mp e;exact⟨rfl,i⟩
  |cons p l ih=>
   cases bI with
   |nil=>simp at e
   |cons q bI=>
    obtain⟨k',z⟩:=q;obtain⟨k,aiA⟩:=p;simp only[eu,D2] at e;obtain⟨rfl,e⟩:=e;refine dh i λz' r e2 i1 i2=>?_
    simp only[eu,D2] at e2;obtain⟨rfl,rfl⟩:=e2;obtain⟨G,h2⟩:=ih e i2;simp only[eu]
    by_cases hk:k'=x
    ·simp only[hk,xp];exact⟨by simp only[G],_,_,rfl,hv,h2⟩
    ·simp only[hk,xo];exact⟨by simp only[G],_,_,rfl,i1,h2⟩
 ·simp only[eL,eL,eL,eL,e];exact⟨rfl,i.append ⟨y,[],rfl,hv,rfl⟩⟩
theorem TV.GK{c:bb}(G:TV C n e st b st)(h2:TV C n (.BoolOp .Or es p) st c st):TV C n (.BoolOp .Or (e::es) p) st (b||c) st:=by
 cases b with
 |true=>exact TV.or_true G
 |false=>exact TV.or_false G h2
theorem kC{c:bb}(G:TV C n e st b st)(h2:TV C n (.BoolOp .And es p) st c st):TV C n (.BoolOp .And (e::es) p) st (b&&c) st:=by
 cases b with
 |true=>exact kq G h2
 |false=>exact jm G
theorem TV.GL{l:bv}{v2:V}{c:bb}(G:EV C n l st aiA st)(h2:EV C n r1 st v st)(h3:a8 C n (iV o1) aiA v st (.bool b) st)
  (h4:EV C n r2 st v2 st) (h5:a8 C n (iV o2) v v2 st (.bool c) st)
  (hm:aO (lastMarks [o1,o2] [r1,r2]=false) aW._auto_1):TV C n (.Compare l [o1,o2] [r1,r2] p) st (b&&c) st:=by
 cases b with
 |true=>exact TV.abp G h2 h3 h4 h5 hm
 |false=>exact TV.abo G h2 h3 hm
theorem EV.yw{a b:bv}{c:bb}(G:TV C n t st c am)(ha:c=true->EV C n a am v ba)(hb:c=false->EV C n b am v ba):EV C n (.IfExp t a b p) st v ba:=by
 cases c with
 |true=>exact EV.ifT G<|ha rfl
 |false=>exact EV.ifF G<|hb rfl
theorem i9(b:bb)(G:TV C n t st b st)(ht:b=true->XS C n q body st K)(hf:b=false->XS C n q orelse st K):X1 C n q (.If t body orelse p) st K:=jl G ht hf
theorem b7(hl:SubL l' st.loc)(hh:st.hp=aY)(h:XS C n q ss ⟨l',aY⟩ K):XS C n q ss st K:=by
 subst hh;exact XS.forget (l:=st.loc) (hp:=st.hp) hl h
theorem lM(G:TV C n t st false am)(h:XS C n q ss am K):XS C n q (.If t body [] p::ss) st K:=cg<|jl G (λh=>nomatch h) λH=>bd h
theorem jt{s:eX}{K':Fl->St->Prop}(h:X1 C n q s st K)(hk:∀aiC aj,K aiC aj->K' aiC aj):X1 C n q s st K':=.mk λA s ρ Q hA R k=>h A s ρ Q hA R λaB fl aiC aj s' hK=>k aB fl aiC aj s'<|hk fl aj hK
mutual
theorem V.m6{g g':B->bb}(hg:∀k,g k=true->g' k=true):∀{v:V},v.bG g=true->v.bG g'=true
 | .none=>λH=>rfl
 | .bool _=>λH=>rfl
 | .int _=>λH=>rfl
 | .str _=>λH=>rfl
 | .val _=>λH=>rfl
 | .ref k=>λh=>hg k h
 | .tup c l=>λh=>uH hg h
theorem uH{g g':B->bb}(hg:∀k,g k=true->g' k=true):∀{l:J V},V.ff g l=true->V.ff g' l=true
 | []=>λH=>rfl
 |v::l=>λh=>fc.mpr ⟨V.m6 hg (fc.mp h).1,uH hg (fc.mp h).2⟩
end
theorem oY{α:Type}{g:B->bb}{aiC:α->V}(hf:∀a,(aiC a).bG g=true):∀{l:J α},V.ff g (l.map aiC)=true
 | []=>rfl
 |a::l=>fc.mpr ⟨hf a,oY hf⟩
theorem V.GM{α:Type}{k:B->B}{aiC:α->V}(hf:∀a,(aiC a).cf k=aiC a):∀{l:J α},V.lI k (l.map aiC)=l.map aiC
 | []=>rfl
 |a::l=>cons_eq (hf a)<|V.GM hf
theorem X1.while{test:bv}(r:B)(Inv:B->St->Prop){m0:B}(h0:Inv m0 st)(hq:q<=r)
  (iY:∀m am,Inv m am->∃b ba,TV C n test am b ba/\(b=true->XS C n r body ba (kL (λce=>∃m',m'<m/\Inv m' ce) K))/\
   (b=false->XS C n q orelse ba K)):
  X1 C n q (.While test body orelse pos) st K:=.mk λA s ρ Q hA R k=>by
 have weak:∀{ρ s aj aB s'},eH C r ρ s aj aB s'->eH C q ρ s aj aB s':=λN=>⟨xk (w8 hq) N.pre,N.aX,N.keep,N.fresh,N.gens,N.rep⟩
 refine wpAny_While<|codeAny_whileLoop (λm s'=>∃aB aj,Inv m aj/\eH C q ρ s aj aB s') ?_ m0 ⟨ρ,st,h0,eH.refl R⟩;intro m s' dM
 refine dv dM λaB aj hI N=>dh (iY m aj hI) λb ba hT hB hE=>wpAny_mono (hT A s' aB (λb sB=>if b then aF (aN C.prog C.w) A (mK body C.env) (λaiC lK=>match aiC with
      | .next| .cont=>∃m',m'<m/\(∃aB aj,Inv m' aj/\eH C q ρ s aj aB lK)
      | .brk=>Q .next lK
      | .ret v=>Q (.ret v) lK) bq sB else aF (aN C.prog C.w) A (mK orelse C.env) Q bq sB) hA N.rep λbh s2 N2=>?_) (λb sB h=>?_) (λH H h=>h.elim)
 ·cases b with
  |true=>
   refine D (aU rfl)<|hB rfl A s2 bh _ hA N2.rep λeY fl aiC hO s4 hK N4 hf=>?_;have sC:=(N.N8 N2).trans<|weak N4;cases fl with
   |next=>subst hf;obtain⟨m',hm,i6⟩:=hK;exact⟨m',hm,eY,hO,i6,sC⟩
   |cont=>subst hf;obtain⟨m',hm,i6⟩:=hK;exact⟨m',hm,eY,hO,i6,sC⟩
   |brk=>subst hf;exact k eY .next _ hO s4 hK sC rfl
   |ret w=>obtain⟨z,rfl,hz⟩:=hf;exact k eY (.ret w) _ hO s4 hK sC ⟨z,rfl,hz⟩
  |false=>
   exact D (aE dy)<|hE rfl A s2 bh Q hA N2.rep λeY fl aiC hO s4 hK N4 hf=>k eY fl aiC hO s4 hK ((N.N8 N2).trans N4) hf
 ·cases b with
  |true=>
   rw[aU rfl] at h ⊢;refine wpAny_mono h (λaiC lK h=>?_) λH H h=>h.elim;cases aiC<;>exact h
  |false=>
   rw[aE dy] at h ⊢;exact wpAny_mono h (λH H h=>h) λH H h=>h.elim
noncomputable def n7(p:B)(ns:J B)(k:B):B:=if k<p then k else p+ns.idxOf k
noncomputable def oZ(p:B)(ns:J B)(k:B):bb:=decide (k<p)||ns.contains k
inductive o6(aiC:B->B)(g:B->bb):J O->J O->Prop
 |nil:o6 aiC g [] []
 |cons {o o':O} {r r':J O} (hi:o.bG g=true) (hr:o'=o.cf aiC) (t:o6 aiC g r r'):o6 aiC g (o::r) (o'::r')
theorem o6.get{r r':J O}(h:o6 aiC g r r'):U r'=U r/\∀(k:B) (o':O),r'[k]?=some o'->∃o,r[k]?=some o/\o.bG g=true/\o'=o.cf aiC:=by
 induction h with
 |nil=>exact⟨rfl,λk o' h=>by exact nomatch h⟩
 |cons hi hr t ih=>
  refine⟨by simp only[cK,cK,ih.1],λk o' h=>?_⟩;cases k with
  |zero=>cases h;exact⟨_,rfl,hi,hr⟩
  |succ k=>simp only[vz] at h ⊢;exact ih.2 k o' h
theorem Cv.of{p:B}{ns:J B}{base sel:J O}(hf:aiC=n7 p ns)(hg:g=oZ p ns)(G:ns.Nodup)(h2:∀k∈ns,p<=k)(hb:ji.take p=base)(f0:U base=p)(hs:ns.map (ji[·]?)=sel.map some)
  (hc:o6 aiC g (base++sel) aY):Cv p ns aiC g ji aY:=by
 subst hf hg;obtain⟨hl,cO⟩:=hc.get;have qg:U sel=U ns:=by have:=bB U hs;simpa using this.symm
 have v6:∀(i k:B),ns[i]?=some k->∃o,ji[k]?=some o/\sel[i]?=some o:=λi k e=>by
  have e1:(ns.map (ji[·]?))[i]?=some ji[k]?:=by simp only[c7,e];rfl
  rw[hs,c7] at e1;cases hq:sel[i]? with
  |none=>rw[hq] at e1;exact nomatch e1
  |some o=>rw[hq] at e1;exact⟨o,(cj e1).symm,rfl⟩
 have idx:∀(i k:B),ns[i]?=some k->ns.idxOf k=i:=λi k e=>by
  obtain⟨hi,e'⟩:=cJ.mp e;exact bL e'<|G.idxOf_getElem i hi
 refine⟨G,h2,λk hk=>?_,by rw[hl,aK,f0,qg],λk o' hk e=>?_,λi k e=>?_⟩
 ·unfold oZ at hk;rcases bb.or_eq_true_iff.mp hk with h|h
  ·exact .inl ⟨dq h,by unfold n7;rw[aU<|dq h]⟩
  ·have hm:k∈ns:=by simpa using h
   obtain⟨i,hi,e⟩:=mF hm;have e':ns[i]?=some k:=by rw[bO hi,e]
   refine .inr ⟨i,e',?_⟩;unfold n7;rw[aE<|iU.mpr<|h2 k hm,idx i k e']
 ·refine cP (cO k o' e) λo e1 e2 e3=>?_
  rw[cA<|mf hk f0] at e1;refine⟨o,?_,e2,e3⟩;rw[←hb,zW hk] at e1;exact e1
 ·refine aH (v6 i k e) λo e1 e2=>?_
  have hi:=(cJ.mp e).1;have e3:(base++sel)[p+i]?=some o:=by rw[dc<|ZO f0,f0,jx];exact e2
  have e4:p+i<U aY:=by exact D hl<|D aK<|ZN hi f0 qg
  refine cP (cO (p+i) aY[p+i]<|bO e4) λo2 e5 e6 e7=>?_
  rw[e3] at e5;cases e5;exact⟨o,e1,e6,by rw[bO e4,e7]⟩
end
end Mine
namespace Mine
open PySem PyProof.Rows PySem.W PySem.Builtin.Str
noncomputable def FT(v:ak)(y:ao):Prop:=y.length<=1000000/\∀(prog:du) (w:bz) (A:bS) (E:ak->ay->Prop) (s:ay) (Q:ak->ay->Prop),(∀t k,Q (.str y t) {s with toks:=k})->aF (aN prog w) A (formatOf v ao.empty) Q E s
theorem FT.str{x:ao}{t:jh}(h:x.length<=1000000):FT (.str x t) x:=⟨h,λH H H H s H hq=>wpAny_of_eq (KFm.formatOf_str x t)<|hq t s.toks⟩
theorem FT.int{n:az}{aiA:jh}(h0:0<=n)(G:n<10 ^ 10):FT (.int n aiA) (ft<|toString n):=⟨cY (toString_length_le (k:=10) h0 (by decide) G) (by decide),λH H H H H H hq=>KFm.formatOf_int (by kfm_hd) hq⟩
noncomputable def BU(L:B):J ak->J B->ao->ao->Prop
 | []=>λr T T'=>r=[]/\T=T'
 |v::vs=>λr T T'=>∃(lit rest:J B) (y:ao),(r.isEmpty=false/\nextMarkup r= .ok (lit,some {name:=[]},rest)/\U lit≠L/\U lit<=100)/\FT v y/\BU L vs rest (T++⟨lit.toArray⟩++y) T'
section
variable{prog:du}{wd:bz}{A:bS}{E:ak->ay->Prop}{s:ay}
theorem abF{a:bD ak}{L:B}{F:B->Writer×Numbering×J B->dD (ForInStep<|Writer×Numbering×J B)}{Q:Writer×Numbering×J B->ay->Prop}{T':ao}
  (h0:∀x w num k,Q (w,num,[]) {s with toks:=k}->aF (aN prog wd) A (F x (w,num,[])) (λr s'=>match r with| .done b=>Q b s'| .yield _=>c8) E {s with toks:=k})
  (G:∀{lit r rest:J B} {y:ao} {v:ak} (x w num i k) (R:ForInStep (Writer×Numbering×J B)->ay->Prop),r.isEmpty=false->nextMarkup r= .ok (lit,some {name:=[]},rest)->U lit≠L->FT v y->a[i]?=some v->(num= .unset/\i=0)\/num= .auto i->tooLong w.total=false->
   (∀o1 o2 k,KPc.Obj o1 ⟨lit.toArray⟩->KPc.Obj o2 y->R (.yield ((w.add ⟨lit.toArray⟩ o1).add y o2,.auto (i+1),rest)) {s with toks:=k})->aF (aN prog wd) A (F x (w,num,r)) R E {s with toks:=k})
  (hq:∀w num k N,KPc.Good w T' N->N<=16777216->Q (w,num,[]) {s with toks:=k}):
  ∀(vs:J ak) {r T w num k} (i j m N:B),BU L vs r T T'->a.toList.drop i=vs->U vs<=m->N+U vs*1000100<=16777216->(num= .unset/\i=0)\/num= .auto i->KPc.Good w T N->aF (aN prog wd) A (forIn (fk j m 1) (w,num,r) F) Q E {s with toks:=k}:=λvs=>by
 induction vs with
 |nil=>
  intro r T w num k i j m N hc _ _ hN _ g;obtain⟨rfl,rfl⟩:=hc;have q:∀k,Q (w,num,[]) {s with toks:=k}:=λk=>hq w num k N g (by simpa using hN);cases m with
  |zero=>exact wpAny_pure<|q k
  |succ m=>
   refine KPc.turn<|wpAny_mono (h0 j w num k<|q k) (λr s' hr=>?_) λH H e=>e;cases r with
   |done b=>exact hr
   |yield b=>exact hr.elim
 |cons v vs ih=>
  intro r T w num k i j m N hc hd hm hN hn g;obtain⟨lit,rest,y,⟨c1,c2,c3,c4⟩,hf,hc⟩:=hc;cases m with
  |zero=>exact aZ hm<|B.not_succ_le_zero _
  |succ m=>
   rw[cK] at hN hm;refine KPc.turn<|G j w num i k _ c1 c2 c3 hf ?_ hn ?_ λo1 o2 k p1 p2=>?_
   ·rw[←jX,←JV,hd];rfl
   ·exact KA.mpr (KPc.short_good g<|by omega)
   ·refine ih (i+1) (j+1) m (N+U lit+y.length) hc (by rw[←J.tail_drop,hd];rfl) (B.le_of_succ_le_succ hm) ?_ (.inr rfl) (KPc.good_add (KPc.good_add g p1) p2)
    have:=hf.1;omega
theorem abG{X T:ao}{t:jh}{vs:J ak}{Q:Fin->ay->Prop}(hc:BU X.cps.toList.length vs X.cps.toList ao.empty T)(hv:U vs<=4)(GN:U vs<=X.cps.toList.length)
  (h:∀t' k,Q (.done<|.ret<|.str T t') {s with toks:=k}):aF (aN prog wd) A (ed.«str.format» ⟨.str X t::vs,[]⟩) Q E s:=by
 refine wpAny_bind (wpAny_of_eq (a:=(_,_,_)) rfl<|wpAny_bind<|wpAny_bind<|D (KPc.range_list _ _ _)<|abF (a:=vs.toArray) (L:=X.cps.toList.length) (T':=T) (k:=s.toks) ?_ ?_ (λw num k N g hN=>?_) vs 0 0 _ 0 hc rfl GN (by omega) (.inl ⟨rfl,rfl⟩) KPc.good0)
 ·intro x w num k q;exact wpAny_pure q
 ·intro lit r rest y v x w num i k R c1 c2 c3 hf ha hn hw hR;refine wpAny_ite<|EI (by rw[c1];exact dy) ?_;refine wpAny_ite<|EI (by rw[hw];exact dy) ?_;rw[c2];refine wpAny_bind<|KFm.field_auto hn ha (wpAny_bind (wpAny_holding (wpAny_of_eq (a:=_) rfl (wpAny_ite (EI dy (wpAny_bind (wpAny_pure ?_)))))));refine wpAny_bind (wpAny_holding (hf.2 _ _ _ _ _ _ λt k=>(wpAny_bind (wpAny_of_eq (a:=some _) rfl (wpAny_pure (hR _ _ _ (KPc.obj_none (aE λq=>c3<|nH.mp q)) λz hz=>?_))))))
  by_cases he:rest.isEmpty=true
  ·rw[aU he] at hz;exact⟨t,(cj hz).symm⟩
  ·rw[aE he] at hz;exact nomatch hz
 ·exact wpAny_pure<|KPc.finish_ok g hN rfl λt' k=>h t' k
end
end Mine
namespace Mine
open PySem PyProof.Rows
section
variable{ρ:J ax}{s:ay}{k:B}{a:ax}{p p':du}{w:bz}{bI:J (ao×ak)}{l:J (ao×V)}{z:ao}{v:V}
section
variable{C:Cx}{n q:B}{st am ba ce:St}
noncomputable def sO(C:Cx):Prop:=tX<C.top.objs.size
theorem sO.ne(h:sO C){hp:J O}(L:Led C ρ hp s)(ha:ρ[k]?=some a):(a==tX)=false:=by
 have:=L.low a<|dT ha;rw[xl];intro e;subst e;exact aZ h<|iU.mpr this
theorem OM{κ:Type}[xn κ]{l:J (κ×V)}{x:κ}(h:l.lookup x=none):oX l x=λv=>l++[(x,v)]:=by
 funext v;unfold oX;rw[aE];intro e;refine aH (DU.mp e) λp hp hx=>?_
 have:=Jw.mp h p hp;simp only[ip] at hx;simp only[hx] at this;simp at this
theorem sP(z:ao)(t:jh):(gQ p w).is z (.str z t)=true:=by simp[gQ,ak.isStrOf]
theorem isInt_self(z:az)(t:jh):(oE p w).is z (.int z t)=true:=by simp[oE,AE]
theorem aQ.ON:aQ C n (.type "set") [] st (.ref<|U st.hp) ⟨st.loc,st.hp++[.fZ]⟩:=.mk λA s ρ xs Q hA R aV h=>by
 obtain rfl:xs=[]:=aV;exact call_set_0 λled=>(h _ _ _ (bk.alloc (ob:=.fZ) R rfl ⟨led,ew _ rfl⟩ s.toks)<|mW R.led _)
theorem EV.abH{p:cN}:EV C n (.Dict [] [] p) st (.ref<|U st.hp) ⟨st.loc,st.hp++[.fe []]⟩:=.mk λA s ρ Q hA R h=>by
 exact wpAny_Dict_empty<|h _ _ _ (bk.alloc (ob:=.fe []) R rfl ⟨[],Kw _,rfl,rfl⟩ s.toks)<|mW R.led _
theorem abI{es:J jz}(h:Pairs (gQ p w) es bI):Pairs (gQ p' w) es bI:=by
 induction h with
 |nil=>exact .nil
 |cons G h2 _ ih=>exact .cons G h2 ih
theorem OO{h:bn}(x:h.DictOf (gQ p w) a bI):h.DictOf (gQ p' w) a bI:=
 eR x λo es ep ho r=>sf r λhc hd hk hp hn=>⟨o,es,ep,ho,hc,hd,hk,abI hp,hn⟩
theorem BV{x:ak}(R:Rep C ρ st s)(hk:st.hp[k]?=some (.fe l))(hx:V.Is ρ s.heap (.ref k) x):
  ∃a bI,x= .ref a/\ρ[k]?=some a/\s.heap.DictOf (gQ C.prog C.w) a bI/\bI.map (·.1)=l.map (·.1)/\V.IsL ρ s.heap (l.map (·.2)) (bI.map (·.2)):=by
 refine aH hx λa ha av=>?_
 clear hx;subst av;exact cP (R.led.objs k _ a hk ha) λbI G h2 h3=>(⟨a,bI,rfl,ha,OO G,h2,h3⟩)
theorem OP(e:bI.map (·.1)=l.map (·.1)):U bI=U l:=by
 have:=bB U e;simpa using this
theorem aQ.abJ{d:V}(n8:sO C)(hk:st.hp[k]?=some (.fe l)):aQ C n (.builtin "dict.get") [.ref k,.str z,d] st ((l.lookup z).getD d) st:=.mk λA s ρ xs Q hA R aV h=>by
 refine vT aV λx r bE hx y r' bR=>?_
 clear aV;subst bE;refine ui bR λo7 uI aiA r2 gW hu i2=>?_
 clear bR;subst o7 gW;refine xE uI λt av=>?_
 clear uI;subst av;obtain rfl:r2=[]:=i2;refine pS (BV R hk hx) λa bI av ha hd e1 e2=>?_
 subst av;refine xA (yv (x:=z) e1 e2) λp1 p2=>call_meetsIn EB hd.typeIs Ez (F.args_dict_get_3 _ _ _) (meets_dict_get_default (gQ C.prog C.w) (k:=z) a (sP z _) (n8.ne R.led ha) aiA) ⟨_,hd.mapOf,(h ρ _ _ (gj R _) ?_)⟩;cases hl:l.lookup z with
 |none=>rw[p2 hl];exact hu
 |some v=>obtain⟨y,hy,hv⟩:=p1 v hl;exact D hy hv
theorem aQ.abK{d:V}(n8:sO C)(hk:st.hp[k]?=some (.fe l))(hl:l.lookup z=some v)(hz:U l<=16777216):aQ C n (.builtin "dict.setdefault") [.ref k,.str z,d] st v st:=.mk λA s ρ xs Q hA R aV h=>by
 refine vT aV λx r bE hx y r' bR=>?_
 clear aV;subst bE;refine ui bR λo7 uI aiA r2 gW hu i2=>?_
 clear bR;subst o7 gW;refine xE uI λt av=>?_
 clear uI;subst av;obtain rfl:r2=[]:=i2;refine pS (BV R hk hx) λa bI av ha hd e1 e2=>?_
 subst av;refine xA (yv (x:=z) e1 e2) λp1 p2=>aH (p1 v hl) λy hy hv=>?_
 refine call_meetsIn KQ hd.typeIs KP (KM _ _ _) (kt_meets_setdefault (gQ C.prog C.w) (k:=z) a (sP z _) (n8.ne R.led ha) aiA) ⟨bI,hd,by refine D (OP e1) ?_;exact mo hz,λw hw=>?_,λhn=>?_⟩
 ·rw[hy] at hw;(cases cj hw;clear hw);exact h ρ _ _ (gj R _) hv
 ·rw[hy] at hn;exact nomatch hn
theorem abL{y:ak}{h':bn}(R:Rep C ρ st s)(ha:ρ[k]?=some a)(hd:s.heap.DictOf (gQ C.prog C.w) a bI)
  (e1:bI.map (·.1)=l.map (·.1)) (e2:V.IsL ρ s.heap (l.map (·.2))<|bI.map (·.2)) (hv:v.Is ρ s.heap y) (hV:h'.DictOf (gQ C.prog C.w) a<|stored bI z y) (hs:iW a s.heap h') (tk:B):
  bk C ρ s ⟨st.loc,st.hp.set k<|.fe<|oX l z v⟩ ρ {s with heap:=h',toks:=tk}:=by
 refine lH hd λo es ep ho hc H=>?_
 have j7:bF s.heap h':=jY hs ho<|ra hc.1;exact xA (OK (x:=z) hv e1 e2) λq1 q2=>(bk.change R (ob:=.fe<|oX l z v) ha hs ⟨_,OO hV,q1,q2.mono (bP _) j7⟩ tk)
theorem aQ.abM{d:V}(n8:sO C)(hk:st.hp[k]?=some (.fe l))(hl:l.lookup z=none)(hz:U l<=16777216):aQ C n (.builtin "dict.setdefault") [.ref k,.str z,d] st d ⟨st.loc,st.hp.set k<|.fe<|l++[(z,d)]⟩:=.mk λA s ρ xs Q hA R aV h=>by
 refine vT aV λx r bE hx y r' bR=>?_
 clear aV;subst bE;refine ui bR λo7 uI aiA r2 gW hu i2=>?_
 clear bR;subst o7 gW;refine xE uI λt av=>?_
 subst av;obtain rfl:r2=[]:=i2;refine pS (BV R hk hx) λa bI av ha hd e1 e2=>?_
 subst av;refine xA (yv (x:=z) e1 e2) λp1 p2=>?_
 refine call_meetsIn KQ hd.typeIs KP (KM _ _ _) (kt_meets_setdefault (gQ C.prog C.w) (k:=z) a (sP z _) (n8.ne R.led ha) aiA) ⟨bI,hd,by refine D (OP e1) ?_;exact mo hz,λw hw=>?_,λH h' hV hs=>?_⟩
 ·rw[p2 hl] at hw;exact nomatch hw
 ·have N:=abL (z:=z) (v:=d) R ha hd e1 e2 hu hV hs<|s.toks+1;rw[OM hl] at N;exact h ρ _ _ N<|hu.mono (bP _) N.aX
theorem EV.BW{p:cN}:EV C n (.Dict [] [] p) st (.ref<|U st.hp) ⟨st.loc,st.hp++[.intD []]⟩:=.mk λA s ρ Q hA R h=>by
 exact wpAny_Dict_empty<|h _ _ _ (bk.alloc (ob:=.intD []) R rfl ⟨[],Kw _,rfl,rfl⟩ s.toks)<|mW R.led _
theorem abN{es:J jz}{bI:J (az×ak)}(h:Pairs (oE p w) es bI):Pairs (oE p' w) es bI:=by
 induction h with
 |nil=>exact .nil
 |cons G h2 _ ih=>exact .cons G h2 ih
theorem OQ{h:bn}{bI:J (az×ak)}(x:h.DictOf (oE p w) a bI):h.DictOf (oE p' w) a bI:=
 eR x λo es ep ho r=>sf r λhc hd hk hp hn=>⟨o,es,ep,ho,hc,hd,hk,abN hp,hn⟩
theorem GO{l:J (az×V)}{x:ak}(R:Rep C ρ st s)(hk:st.hp[k]?=some (.intD l))(hx:V.Is ρ s.heap (.ref k) x):
  ∃a bI,x= .ref a/\ρ[k]?=some a/\s.heap.DictOf (oE C.prog C.w) a bI/\bI.map (·.1)=l.map (·.1)/\V.IsL ρ s.heap (l.map (·.2)) (bI.map (·.2)):=by
 refine aH hx λa ha av=>?_
 clear hx;subst av;exact cP (R.led.objs k _ a hk ha) λbI G h2 h3=>(⟨a,bI,rfl,ha,OQ G,h2,h3⟩)
theorem abO{l:J (az×V)}{bI:J (az×ak)}(e:bI.map (·.1)=l.map (·.1)):U bI=U l:=by
 have:=bB U e;simpa using this
theorem abP{l:J (az×V)}{z:az}{y:ak}{bI:J (az×ak)}{h':bn}(R:Rep C ρ st s)(ha:ρ[k]?=some a)(hd:s.heap.DictOf (oE C.prog C.w) a bI)
  (e1:bI.map (·.1)=l.map (·.1)) (e2:V.IsL ρ s.heap (l.map (·.2))<|bI.map (·.2)) (hv:v.Is ρ s.heap y) (hV:h'.DictOf (oE C.prog C.w) a<|stored bI z y) (hs:iW a s.heap h') (tk:B):
  bk C ρ s ⟨st.loc,st.hp.set k<|.intD<|oX l z v⟩ ρ {s with heap:=h',toks:=tk}:=by
 refine lH hd λo es ep ho hc H=>?_
 have j7:bF s.heap h':=jY hs ho<|ra hc.1;exact xA (OK (x:=z) hv e1 e2) λq1 q2=>(bk.change R (ob:=.intD<|oX l z v) ha hs ⟨_,OQ hV,q1,q2.mono (bP _) j7⟩ tk)
theorem cW.BW{o i:bv}{p:cN}{l:J (az×V)}{z:az}(n8:sO C)(ho:EV C n o st (.ref k) am)(hi:EV C n i am (.int z) ba)(hk:ba.hp[k]?=some (.intD l))(hz:U l<=16777216):
  cW C n (.Subscript o i p) v st ⟨ba.loc,ba.hp.set k<|.intD<|oX l z v⟩:=.mk λA s ρ y Q hA R hv h=>by
 refine wpAny_bind<|wpAny_holding<|ho A s ρ _ hA R λaC x s1 N1 i1=>wpAny_bind<|wpAny_holding<|hi A s1 aC _ hA N1.rep λbh z2 s2 N2 i2=>wpAny_bind<|wpAny_standAt<|wpAny_bind<|wpAny_holding<|pS (GO N2.rep hk<|i1.mono N2.pre N2.aX) λa bI av ha hd e1 e2=>?_;subst av;refine xE i2 λt av=>?_
 clear i2;subst av;have GN:=(hv.mono N1.pre N1.aX).mono N2.pre N2.aX;refine wpAny_setItem_pairs (knd:=oE C.prog C.w) (k:=z) (isInt_self z _) hd (λh' hV hs=>?_) (by refine D (abO e1) ?_;exact mo hz);exact wpAny_release'<|h bh _<|(N1.trans N2).trans<|abP N2.rep ha hd e1 e2 GN hV hs _
end
end
namespace BM
theorem wf:qW "method_descriptor" "__get__" "method_descriptor.__get__":=
 .of (owner:="method_descriptor") (n:="__get__") (by rw[typeLookup_type,builtinLookup_eq_fast];kernel_rfl) (by decide+kernel) (by decide+kernel) (by decide+kernel)
  (by first|exact .inl (by decide+kernel)|exact .inr<|by decide+kernel) (by rw[isSubtype_type];kernel_rfl)
theorem OR:ea (.type "method_descriptor") "__set__"=pure aA:=by rw[typeLookup_type,builtinLookup_eq_fast];kernel_rfl
theorem OS:ea (.type "method_descriptor") "__delete__"=pure aA:=by rw[typeLookup_type,builtinLookup_eq_fast];kernel_rfl
theorem OT:qS table "method_descriptor.__get__"=some ed.«method_descriptor.__get__»:=entryFor_of_tree (by kernel_rfl)
theorem OU(a b c:ak):l9 "method_descriptor.__get__" ⟨[a,b,c],[]⟩:=by unfold l9;kernel_rfl
theorem abQ:(".".intercalate ("dict.get".cutAt '.').dropLast)="dict":=by
 have e0:"dict.get".cutAt '.'=["dict","get"]:=by first|rfl|decide+kernel
 rw[e0];decide+kernel
theorem abR:(".".intercalate ("set.__contains__".cutAt '.').dropLast)="set":=by
 have e0:"set.__contains__".cutAt '.'=["set","__contains__"]:=by first|rfl|decide+kernel
 rw[e0];decide+kernel
theorem abS:r7 (.type "dict") (.type "dict")=pure true:=by rw[isSubtype_type];kernel_rfl
theorem abT:r7 (.type "set") (.type "set")=pure true:=by rw[isSubtype_type];kernel_rfl
theorem entry_set_ga:qS table "set.__getattribute__"=some ed.«object.__getattribute__»:=
 entryFor_alias (id':="object.__getattribute__") (by kernel_rfl) (by first|rfl|decide+kernel) (by decide+kernel) (by kernel_rfl)
end BM
section
variable{R:Result->ay->Prop}{tk:jh}{Q:ak->ay->Prop}
section
variable{prog:du}{w:bz}{A:bS}{E:ak->ay->Prop}{h:bn}{g:bD de}{d:cV}{t:B}{os:bM}{a:ax}{o:bc}
noncomputable def n9(id:dm)(a:ax):bc:={cls:=.type "builtin_function_or_method",data:=.fields #[.builtin id,.ref a]}
theorem abU(hx:h.get? a=some o)(hc:o.cls= .type "dict")(hq:R (.ok<|.ret<|.ref h.objs.size) ⟨h.push<|n9 "dict.get" a,g,d,t,os⟩):
  codeAny (aN prog w) A (.call (.builtin "method_descriptor.__get__") ⟨[.builtin "dict.get",.ref a,.type "dict"],[]⟩) R ⟨h,g,d,t,os⟩:=by
 have hT:(⟨h,g,d,t,os⟩:ay).TypeIs (.ref a) "dict":=⟨_,hx,hc⟩
 have yx:(⟨h,g,d,t,os⟩:ay).TypeIs (.builtin "dict.get") "method_descriptor":=EC;refine codeAny_call_builtin BM.wf.plain BM.OT<|BM.wf.check _ _ _ _ _ _ _ _ yx (BM.OU _ _ _) ?_;have ho:=BM.abQ;have hs:=BM.abS
 repeat (any_goals (first|assumption|wp_step))
 rw[ho,hs]
 repeat (any_goals (first|assumption|wp_step))
theorem abV{es:bD jz}{ep:B}{Q:Fin->ay->Prop}(hx:h.get? a=some ⟨.type "dict",aA,.dict es ep,#[]⟩)(hq:Q (.done<|.ret<|.ref h.objs.size) ⟨h.push<|n9 "dict.get" a,g,d,t,os⟩):
  aF (aN prog w) A (ed.«object.__getattribute__» ⟨[.ref a,.str "get" tk],[]⟩) Q E ⟨h,g,d,t,os⟩:=by
 have hT:(⟨h,g,d,t,os⟩:ay).TypeIs (.ref a) "dict":=⟨_,hx,rfl⟩
 have yx:(⟨h,g,d,t,os⟩:ay).TypeIs (.builtin "dict.get") "method_descriptor":=EC;have f4:=EB.lookup;have f5:=EC;have f6:=BM.wf.lookup;have f7:=BM.OR;have f8:=BM.OS
 repeat (any_goals (first|assumption|wp_step))
 exact abU hx rfl<|wpAny_pure hq
theorem abW{es:bD jz}{ep:B}(hx:h.get? a=some ⟨.type "dict",aA,.dict es ep,#[]⟩)(hq:Q (.ref h.objs.size) ⟨h.push<|n9 "dict.get" a,g,d,t,os⟩):aF (aN prog w) A (getAttrBy (.ref a) (.str "get" tk) true true) Q E ⟨h,g,d,t,os⟩:=by
 have hT:(⟨h,g,d,t,os⟩:ay).TypeIs (.ref a) "dict":=⟨_,hx,rfl⟩
 have f2:=Ay.lookup;have f3:=Ay.bind<|.ref a
 repeat (any_goals (first|assumption|wp_step))
 refine codeAny_call_builtin Ay.plain F.entry_dict_ga<|Ay.check _ _ _ _ _ _ _ _ hT (F.args_dict_getattribute_2 _ _)<|abV hx ?_
 repeat (any_goals (first|assumption|wp_step))
theorem abX(hx:h.get? a=some o)(hc:o.cls= .type "set")(hq:R (.ok<|.ret<|.ref h.objs.size) ⟨h.push<|n9 "set.__contains__" a,g,d,t,os⟩):
  codeAny (aN prog w) A (.call (.builtin "method_descriptor.__get__") ⟨[.builtin "set.__contains__",.ref a,.type "set"],[]⟩) R ⟨h,g,d,t,os⟩:=by
 have hT:(⟨h,g,d,t,os⟩:ay).TypeIs (.ref a) "set":=⟨_,hx,hc⟩
 have yx:(⟨h,g,d,t,os⟩:ay).TypeIs (.builtin "set.__contains__") "method_descriptor":=Ey;refine codeAny_call_builtin BM.wf.plain BM.OT<|BM.wf.check _ _ _ _ _ _ _ _ yx (BM.OU _ _ _) ?_;have ho:=BM.abR;have hs:=BM.abT
 repeat (any_goals (first|assumption|wp_step))
 rw[ho,hs]
 repeat (any_goals (first|assumption|wp_step))
theorem abY{es}{ep}{tg}{Q:Fin->ay->Prop}(hx:h.get? a=some ⟨.type "set",aA,.set es ep tg,#[]⟩)(hq:Q (.done<|.ret<|.ref h.objs.size) ⟨h.push<|n9 "set.__contains__" a,g,d,t,os⟩):
  aF (aN prog w) A (ed.«object.__getattribute__» ⟨[.ref a,.str "__contains__" tk],[]⟩) Q E ⟨h,g,d,t,os⟩:=by
 have hT:(⟨h,g,d,t,os⟩:ay).TypeIs (.ref a) "set":=⟨_,hx,rfl⟩
 have yx:(⟨h,g,d,t,os⟩:ay).TypeIs (.builtin "set.__contains__") "method_descriptor":=Ey;have f4:=KR.lookup;have f5:=Ey;have f6:=BM.wf.lookup;have f7:=BM.OR;have f8:=BM.OS
 repeat (any_goals (first|assumption|wp_step))
 exact abX hx rfl<|wpAny_pure hq
theorem abZ{es}{ep}{tg}(hx:h.get? a=some ⟨.type "set",aA,.set es ep tg,#[]⟩)(hq:Q (.ref h.objs.size) ⟨h.push<|n9 "set.__contains__" a,g,d,t,os⟩):aF (aN prog w) A (getAttrBy (.ref a) (.str "__contains__" tk) true true) Q E ⟨h,g,d,t,os⟩:=by
 have hT:(⟨h,g,d,t,os⟩:ay).TypeIs (.ref a) "set":=⟨_,hx,rfl⟩
 have f2:=Az.lookup;have f3:=Az.bind<|.ref a
 repeat (any_goals (first|assumption|wp_step))
 refine codeAny_call_builtin Az.plain BM.entry_set_ga<|Az.check _ _ _ _ _ _ _ _ hT (F.args_set_getattribute_2 _ _)<|abY hx ?_
 repeat (any_goals (first|assumption|wp_step))
end
end
namespace BM
theorem ab0:tU "dict.get"=some .method:=by kernel_rfl
theorem ab1:tU "set.__contains__"=some .method:=by kernel_rfl
theorem ab2:r7 (.type "dict") (.type "module")=pure false:=by rw[isSubtype_type];kernel_rfl
theorem ab3:r7 (.type "set") (.type "module")=pure false:=by rw[isSubtype_type];kernel_rfl
theorem ab4:Ks.contains "dict.get"=false:=by decide+kernel
theorem ab5:Ks.contains "set.__contains__"=false:=by decide+kernel
theorem ab6{as:Args}:(xy "dict.get" as).quiet=true:=xx _ (by decide+kernel)
theorem ab7{as:Args}:(xy "set.__contains__" as).quiet=true:=xx _ (by decide+kernel)
end BM
section
variable{w:bz}{E Q:ak->ay->Prop}{h:bn}{os:bM}{a:ax}{x:ak}{s:ay}{n b k:B}{dr:cV}{l:J (J B×J B)}
section
variable{prog:du}{A:bS}{g:bD de}{d:cV}{t:B}{o:bc}
theorem ab8{es:bD jz}{ep:B}{y:ak}{Q:fF->ay->Prop}(hx:h.get? a=some ⟨.type "dict",aA,.dict es ep,#[]⟩)(hq:Q () ⟨h,g,d,t,os⟩):aF (aN prog w) A (xw "dict.get" ⟨[.ref a,x,y],[]⟩) Q E ⟨h,g,d,t,os⟩:=by
 have hT:(⟨h,g,d,t,os⟩:ay).TypeIs (.ref a) "dict":=⟨_,hx,rfl⟩
 have k1:=BM.ab0;refine D (signature?_of (id:="dict.get") (n:=['t','e','g']) (o:=['t','c','i','d']) (by kernel_rfl) F.owner_dict) ?_
 repeat (any_goals (first|assumption|wp_step))
 refine D BM.ab2 ?_
 refine wpAny_pure ?_
 refine D BM.ab4 ?_
 repeat (any_goals (first|assumption|wp_step))
theorem ab9{es}{ep}{tg}{Q:fF->ay->Prop}(hx:h.get? a=some ⟨.type "set",aA,.set es ep tg,#[]⟩)(hq:Q () ⟨h,g,d,t,os⟩):aF (aN prog w) A (xw "set.__contains__" ⟨[.ref a,x],[]⟩) Q E ⟨h,g,d,t,os⟩:=by
 have hT:(⟨h,g,d,t,os⟩:ay).TypeIs (.ref a) "set":=⟨_,hx,rfl⟩
 unfold xw;have k1:=BM.ab1;refine D (signature?_of (id:="set.__contains__") (n:=['_','_','s','n','i','a','t','n','o','c','_','_']) (o:=['t','e','s']) (by kernel_rfl) F.owner_set) ?_
 repeat (any_goals (first|assumption|wp_step))
 refine D BM.ab3 ?_
 refine wpAny_pure ?_
 refine D BM.ab5 ?_
 unfold isType
 repeat (any_goals (first|assumption|wp_step))
theorem OV{id:dm}{aix:ed}{b:ax}{args:J ak}(hb:s.heap.get? b=some (n9 id a))(he:qS table id=some aix)(hqt:∀{as:Args},(xy id as).quiet=true)
  (hc:∀{Q':fF->ay->Prop} {E':ak->ay->Prop} {A':bS},Q' () s->aF (aN prog w) A' (xw id ⟨.ref a::args,[]⟩) Q' E' s)
  (hm:codeAny (aN prog w) A (.builtin id ⟨.ref a::args,[]⟩) (wants Q E) s):aF (aN prog w) A (call (.ref b) args) Q E s:=by
 refine wpAny_call<|codeAny_of_tree ?_;refine wpAny_bind<|wpAny_load hb ?_;show aF _ A.in1 (do xw id ⟨.ref a::args,[]⟩;again (.builtin id ⟨.ref a::args,[]⟩)) _ _ s;refine wpAny_bind<|hc ?_;exact wpAny_bind<|wpAny_pure<|wpAny_pure<|⟨hqt,hm⟩
end
section
variable{prog:du}{A:bS}{g:bD de}{d:cV}{t:B}{o:bc}
theorem aca{es:bD jz}{ep:B}(hx:h.get? a=some ⟨.type "dict",aA,.dict es ep,#[]⟩)(hq:Q (.ref h.objs.size) ⟨h.push<|n9 "dict.get" a,g,d,t+1,os⟩):aF (aN prog w) A (l8 (.ref a) "get" true) Q E ⟨h,g,d,t,os⟩:=by
 unfold l8
 repeat (any_goals (first|assumption|with_reducible apply abW hx|wp_step))
theorem acb{es}{ep}{tg}(hx:h.get? a=some ⟨.type "set",aA,.set es ep tg,#[]⟩)(hq:Q (.ref h.objs.size) ⟨h.push<|n9 "set.__contains__" a,g,d,t+1,os⟩):aF (aN prog w) A (l8 (.ref a) "__contains__" true) Q E ⟨h,g,d,t,os⟩:=by
 unfold l8
 repeat (any_goals (first|assumption|with_reducible apply abZ hx|wp_step))
end
section
variable{C:Cx}{q:B}{st am ba ce:St}
noncomputable def hZ(id:dm)(k:B):O:=.fields "builtin_function_or_method" [.val<|.builtin id,.ref k]
theorem GQ{id:dm}{ρ:J ax}(R:Rep C ρ st s)(hb:st.hp[b]?=some (hZ id k))(hx:V.Is ρ s.heap (.ref b) x):
  ∃a c,x= .ref c/\ρ[k]?=some a/\s.heap.get? c=some (n9 id a):=by
 refine aH hx λc hc av=>?_
 clear hx;subst av;refine Tj (R.led.objs b _ c hb hc) λH vs G y r e1 bR=>E2 bR λi1 z r' e2 kW i3=>aH kW λa ha e3=>?_
 obtain rfl:r'=[]:=i3;subst e2 e3;simp only[show y= .builtin id from i1] at e1;refine⟨a,c,rfl,ha,(D G ?_)⟩;have:vs=#[.builtin id,.ref a]:=ua e1;exact D this rfl
theorem bm_new{id:dm}{ρ:J ax}(R:Rep C ρ st s)(ha:ρ[k]?=some a)(tk:B):
  bk C ρ s ⟨st.loc,st.hp++[hZ id k]⟩ (ρ++[s.heap.objs.size]) {s with heap:=s.heap.push (n9 id a),toks:=tk}:=
 bk.alloc (ob:=hZ id k) (o:=n9 id a) R rfl ⟨by decide,#[.builtin id,.ref a],ew _ rfl,.builtin id,_,rfl,rfl,.ref a,[],rfl,⟨a,by rw[cA (cJ.mp ha).1];exact ha,rfl⟩,rfl⟩ tk
theorem EV.acd{o:bv}{pos:cN}{l:J (az×V)}(ho:EV C n o st (.ref k) am)(hk:am.hp[k]?=some (.intD l))
  (he:aO (eval (.Attribute o "get" pos) C.env=(do
   let w ←eval o C.env
   nN pos.atName
   let r ←holding [w] (l8 w "get" true)
   vJ o w r
   pure r)) aW._auto_1):EV C n (.Attribute o "get" pos) st (.ref (U am.hp)) ⟨am.loc,am.hp++[hZ "dict.get" k]⟩:=.mk λA s ρ Q hA R h=>by
 refine AG (ho A s ρ _ hA R λaC y s1 N1 i1=>(pS (GO N1.rep hk i1) λa bI av ha kW H H=>?_)) he;subst av;refine AK kW λob es ep kz cq hd H=>?_
 obtain⟨c1,c2,c3⟩:=cq;obtain⟨c,dd,dt,sl⟩:=ob;dsimp only at c1 c2 c3 hd;subst c1 c2 c3 hd;exact aca kz<|h _ _ _ (N1.trans<|bm_new N1.rep ha _)<|mW N1.rep.led _
theorem EV.ace{o:bv}{pos:cN}(ho:EV C n o st (.ref k) am)(hk:am.hp[k]?=some .fZ)
  (he:aO (eval (.Attribute o "__contains__" pos) C.env=(do
   let w ←eval o C.env
   nN pos.atName
   let r ←holding [w] (l8 w "__contains__" true)
   vJ o w r
   pure r)) aW._auto_1):EV C n (.Attribute o "__contains__" pos) st (.ref (U am.hp)) ⟨am.loc,am.hp++[hZ "set.__contains__" k]⟩:=.mk λA s ρ Q hA R h=>by
 refine AG (ho A s ρ _ hA R λaC y s1 N1 i1=>(aH i1 λa ha av=>?_)) he;clear i1;subst av;exact xE (N1.rep.led.objs k _ a hk ha) λled kz=>(acb kz<|h _ _ _ (N1.trans<|bm_new N1.rep ha _)<|mW N1.rep.led _)
theorem gz.bm{id:dm}(hb:st.hp[b]?=some (hZ id k)):gz C (.ref b) st:=.mk λs ρ x R hx=>by
 refine dh (GQ R hb hx) λa c av ha hc=>?_
 subst av;exact⟨.machine,by decide,λA Q hq=>(wpAny_bind<|wpAny_load hc<|wpAny_pure hq)⟩
theorem gA.acf{l:J (az×V)}{z:az}{d:V}(n8:sO C)(hb:st.hp[b]?=some (hZ "dict.get" k))(hk:st.hp[k]?=some (.intD l)):gA C n (.ref b) [.int z,d] st ((l.lookup z).getD d) st:=.mk λA s ρ x xs Q hA R hx aV h=>by
 refine dh (GQ R hb hx) λa c av ha hc=>?_
 subst av;refine vT aV λy r' bE cx aiA r2 bR=>?_
 clear aV;subst bE;refine xE cx λt av=>?_
 clear cx;subst av;refine eh bR λuJ hu i2=>?_
 clear bR;subst uJ;obtain rfl:r2=[]:=i2;refine pS (GO R hk ⟨a,ha,rfl⟩) λa' bI e rq hd e1 e2=>?_
 cases e;refine AK (id hd) λob es ep kz cq OW H=>eh cq λc1 c2 c3=>?_
 obtain⟨cc,dd,dt,sl⟩:=ob;dsimp only at c1 c2 c3 OW;subst c1 c2 c3 OW;refine xA (yv (x:=z) e1 e2) λp1 p2=>OV hc Ez BM.ab6 (λhq=>ab8 kz hq)<|codeAny_builtin Ez ?_;simp only[As EB.plain _];refine meets_dict_get_default (oE C.prog C.w) (k:=z) a (isInt_self z _) (n8.ne R.led ha) aiA A (wants Q bq) s ⟨_,hd.mapOf,(h ρ _ _ (gj R _) ?_)⟩;cases hl:l.lookup z with
 |none=>rw[p2 hl];exact hu
 |some v=>obtain⟨y,hy,hv⟩:=p1 v hl;exact D hy hv
theorem acg{led:bb}(kz:h.get? a=some ⟨.type "set",aA,.set #[] 0 (.fresh 0 0 led),#[]⟩):h.SetOf (gQ C.prog C.w) a (λH=>false) 0:=
 ⟨_,#[],0,_,kz,⟨rfl,rfl,rfl⟩,rfl,(by intro e he;simp at he),(λk=>by simp),by decide,by cases led<;>decide,rfl⟩
theorem gA.BX{z:ao}(hb:st.hp[b]?=some (hZ "set.__contains__" k))(hk:st.hp[k]?=some .fZ):gA C n (.ref b) [.str z] st (.bool false) st:=.mk λA s ρ x xs Q hA R hx aV h=>by
 refine dh (GQ R hb hx) λa c av ha hc=>?_
 subst av;refine dh aV λy r' av kW i2=>?_
 clear aV;subst av;refine xE kW λt av=>?_
 clear kW;subst av;obtain rfl:r'=[]:=i2;refine xE (R.led.objs k _ a hk ha) λled kz=>OV hc entry_set_contains BM.ab7 (λhq=>ab9 kz hq)<|codeAny_builtin entry_set_contains ?_;simp only[As KR.plain _];unfold ed.«frozenset.__contains__» SY;simp only[J.isEmpty_nil,bind_assoc];refine wpAny_bind<|wpAny_pure<|wpAny_bind<|wpAny_pure<|wpAny_bind<|wpAny_tryCatch<|wpAny_holding ?_;refine wpAny_bind<|(gQ C.prog C.w).pyHash (sP z t)<|wpAny_bind<|wpAny_setFind_of (knd:=gQ C.prog C.w) (s:={s with toks:=s.toks+1}) (sP z t) rfl (acg kz) λr hr=>(wpAny_pure ?_);show aF _ _ (ret<|ak.bool r.isSome) _ _ _;simp only[hr];exact wpAny_pure<|h ρ _ _ (gj R _) rfl
end
noncomputable def esS(P:aP):J jz:=match (Be P).data with| .dict es _=>es.toList|_=>[]
noncomputable def epS(P:aP):B:=match (Be P).data with| .dict _ n=>n|_=>0
noncomputable abbrev nS(P:aP):ao->bC ak:=cT<|esS P
theorem OX(P:aP):(bZ P).Ns 241 (nS P):=wa (o:=Be P) (ep:=epS P) (by kernel_rfl) (by kernel_rfl) (by kernel_rfl)
theorem GS(P:aP):(bZ P).get? 242=some (vO "SequenceMatcher" "SequenceMatcher" 242 241 [.type "object"] [.type "object"] true [] [] false aA aA aA aA (some<|.str "SequenceMatcher" 389) (some<|.str "SequenceMatcher" 397) (some<|.bool true) "object.__new__"):=by kernel_rfl
theorem qh(P:aP):v9 (bZ P) 242 (nS P):=⟨_,_,_,_,_,_,_,_,_,_,_,_,_,_,_,GS P,OX P⟩
theorem ach(P:aP):nS P "__init__"=some (.ref 160):=by kernel_rfl
theorem aci(P:aP):nS P "set_seqs"=some (.ref 167):=by kernel_rfl
theorem acj(P:aP):nS P "set_seq1"=some (.ref 174):=by kernel_rfl
theorem ack(P:aP):nS P "set_seq2"=some (.ref 181):=by kernel_rfl
theorem acl(P:aP):nS P "_SequenceMatcher__chain_b"=some (.ref 188):=by kernel_rfl
theorem acm(P:aP):nS P "find_longest_match"=some (.ref 196):=by kernel_rfl
theorem acn(P:aP):nS P "get_matching_blocks"=some (.ref 203):=by kernel_rfl
theorem aco(P:aP):nS P "get_grouped_opcodes"=some (.ref 218):=by kernel_rfl
theorem OY:ea (.type "object") "isjunk"=pure aA:=by rw[typeLookup_type,builtinLookup_eq_fast];kernel_rfl
theorem yy:ea (.type "object") "a"=pure aA:=by rw[typeLookup_type,builtinLookup_eq_fast];kernel_rfl
theorem wg:ea (.type "object") "b"=pure aA:=by rw[typeLookup_type,builtinLookup_eq_fast];kernel_rfl
theorem OZ:ea (.type "object") "autojunk"=pure aA:=by rw[typeLookup_type,builtinLookup_eq_fast];kernel_rfl
theorem yz:ea (.type "object") "matching_blocks"=pure aA:=by rw[typeLookup_type,builtinLookup_eq_fast];kernel_rfl
theorem BY:ea (.type "object") "opcodes"=pure aA:=by rw[typeLookup_type,builtinLookup_eq_fast];kernel_rfl
theorem acp:ea (.type "object") "fullbcount"=pure aA:=by rw[typeLookup_type,builtinLookup_eq_fast];kernel_rfl
theorem O0:ea (.type "object") "b2j"=pure aA:=by rw[typeLookup_type,builtinLookup_eq_fast];kernel_rfl
theorem O1:ea (.type "object") "bjunk"=pure aA:=by rw[typeLookup_type,builtinLookup_eq_fast];kernel_rfl
theorem acq:ea (.type "object") "bpopular"=pure aA:=by rw[typeLookup_type,builtinLookup_eq_fast];kernel_rfl
theorem acr:ea (.type "object") "set_seqs"=pure aA:=by rw[typeLookup_type,builtinLookup_eq_fast];kernel_rfl
theorem acs:ea (.type "object") "set_seq1"=pure aA:=by rw[typeLookup_type,builtinLookup_eq_fast];kernel_rfl
theorem act:ea (.type "object") "set_seq2"=pure aA:=by rw[typeLookup_type,builtinLookup_eq_fast];kernel_rfl
theorem acu:ea (.type "object") "find_longest_match"=pure aA:=by rw[typeLookup_type,builtinLookup_eq_fast];kernel_rfl
theorem acv:ea (.type "object") "_SequenceMatcher__chain_b"=pure aA:=by rw[typeLookup_type,builtinLookup_eq_fast];kernel_rfl
theorem o8{ji:J O}{v:V}(h:v.bG (λH=>false)=true)(hr:v.cf id=v):Conv 0 ji v [] v:=
 ⟨[],id,λH=>false,⟨lx,λk h=>(g8 h).elim,λk h=>(dy h).elim,rfl,λk H h H=>(Al _ h).elim,λi k h=>by exact nomatch h⟩,h,hr.symm⟩
noncomputable def rangeT(start size:az):ao:=
 if size=0 then ft (toString start)++ft ",0"
 else if size=1 then ft<|toString<|start+1
 else ft (toString<|start+1)++ft ","++ft (toString size)
theorem yB{i:az}(h:i.natAbs<2 ^ 64):i.natAbs.log2<1920:=by
 by_cases h0:i.natAbs=0
 ·refine D h0 ?_;decide
 ·exact tQ ((B.log2_lt h0).mpr h) (by decide)
theorem BZ{i:az}(h:i.natAbs<2 ^ 64):(ft<|toString i).length<=2000:=cY (int_text_len_1921<|yB h) (by decide)
theorem B0(a b:ao):(a++b).length=a.length+b.length:=ao.length_append a b
theorem m7{o:bc}{body:J eX}{names:J ao}{args:J V}{hp aY:J O}{v:V}(aiy:iG w.params a o names)(oP:(fdOf o).body= .stmts body)
  (mQ:∀xs:J ak,U xs=U args->r8 (fdOf o) ⟨xs,[]⟩=pure (names.zip xs))
  (hb:∀L,XS (re (TW w os dr) (fdOf o) a L) n (U hp) body ⟨names.zip args,hp⟩ (λfl am=>∃v1,Back v1 fl/\Conv (U hp) am.hp v1 aY v))
  (bo:aO ((fdOf o).scope.isCoroutine=false) a9) (oQ:aO ((fdOf o).scope.isGenerator=false) a9) (hk:aO ((fdOf o).scope.kind= .function) a9):cC (TW w os dr) (n+1) (.ref a) hp args aY v:=
 cC.fn aiy.get aiy.fd oP aiy.code (noLimit _) mQ aiy.nd aiy.cell aiy.loc hb bo oQ hk
theorem acw{i k:az}(hi:i.natAbs<2 ^ 60)(hk:k.natAbs<2 ^ 60):cC (TW w os dr) (n+1) (.ref 308) [] [.int i,.int k] [] (.str<|rangeT i k):=by
 refine m7 (yo _) rfl (λxs hx=>?_) λL=>?_
 ·revert xs;exact sH λH H=>rfl
 have l1:(ft ",0").length=2:=by decide
 have l2:(ft ",").length=1:=by decide
 have e1:=BZ (i:=i) (by lia);have e2:=BZ (i:=k) (by lia);have e3:=BZ (i:=i+1) (by omega);refine cg<|jl (bV ah bA mi) (λh=>?_) λh=>bd ?_
 ·refine j6 (bt (mr (cB (cQ _) (sI _) (dN _)<|sJ _) (an ah aM)<|aQ.str_int<|yB<|by lia) dF<|nZ<|by simp only[B0,l1];exact mo<|YW e1) ⟨_,rfl,?_⟩;rw[rangeT,aU<|by simpa using h];exact o8 rfl rfl
 refine cg<|jl (bV ah bA mi) (λh2=>?_) λh2=>bd ?_
 ·refine j6 (mr (cB (cQ _) (sI _) (dN _)<|sJ _) (an (bt ah bA eT) aM)<|aQ.str_int<|yB<|by omega) ⟨_,rfl,?_⟩;rw[rangeT,aE (by simpa using h),aU<|by simpa using h2];exact o8 rfl rfl
 refine j6 (bt (bt (mr (cB (cQ _) (sI _) (dN _)<|sJ _) (an (bt ah bA eT) aM)<|aQ.str_int<|yB<|by omega) dF<|nZ<|by simp only[B0,l2];exact mo<|YV e3) (mr (cB (cQ _) (sI _) (dN _)<|sJ _) (an ah aM)<|aQ.str_int<|yB<|by lia)<|nZ<|by simp only[B0,B0,l2];exact mo<|YU e2 e3) ⟨_,rfl,?_⟩;rw[rangeT,aE (by simpa using h),aE<|by simpa using h2];exact o8 rfl rfl
noncomputable def uK(c:az):bb:=(decide (9<=c)&&decide (c<=13))||(decide (91<=c)&&decide (c<=94))||(decide (123<=c)&&decide (c<=126))||[32,35,36,38,40,41,42,43,45,46,63].contains c
theorem acx{c:B}:cC (TW w os dr) (n+1) (.ref 294) [] [.str ⟨#[c]⟩] [] (.bool<|uK c):=by
 refine m7 (yn _) rfl (λxs hx=>?_) λL=>?_
 ·revert xs;exact sG λH=>rfl
 refine cZ (fw (cB (cQ _) (BI _) (dN _)<|BJ _) (an ah aM) aQ.ord)<|cg<|jl (TV.GK (TV.GL bA ah a8.le_int bA a8.le_int)<|TV.GK (TV.GL bA ah a8.le_int bA a8.le_int)<|TV.GK (TV.GL bA ah a8.le_int bA a8.le_int) TV.or_nil) (λh=>?_) λh=>bd ?_
 ·refine j6 EV.bool ⟨_,rfl,?_⟩;have:uK c=true:=by
   unfold uK;rw[Er,←KC] at h;exact D h rfl
  simp only[this];exact o8 rfl rfl
 ·refine j6 (EV.cmp ah (dL<|an bA<|an bA<|an bA<|an bA<|an bA<|an bA<|an bA<|an bA<|an bA<|an bA<|an bA aM)<|a8.abE (ns:=[32,35,36,38,40,41,42,43,45,46,63])) ⟨_,rfl,?_⟩;have:uK c=[32,35,36,38,40,41,42,43,45,46,63].contains (c:az):=by
   unfold uK;rw[Er,←KC] at h;exact D h rfl
  simp only[this];exact o8 rfl rfl
noncomputable def tx(l:J B):ao:=⟨l.toArray⟩
theorem kY(l m:J B):tx l++tx m=tx (l++m):=by
 show t7 (l.toArray++m.toArray)=t7 (l++m).toArray;exact D (J.append_toArray _ _) rfl
theorem jH(l:J B):(tx l).length=U l:=rV ..
theorem EV.tx{C:Cx}{n:B}{st:St}{x:ao}{k:B}{p:cN}(l:J B)(h:aO (x=Mine.tx l) a9):EV C n (.Constant (.str x) k p) st (.str<|Mine.tx l) st:=h▸dF
noncomputable def kZ(z:az):B:=
 if z.fmod 4=0 then(if(z.fdiv 4).fmod 2=0 then 97 else 98)
 else if z.fmod 4=1 then(if(z.fdiv 4).fmod 2=0 then 46 else 45)
 else if z.fmod 4=2 then((z.fdiv 4).fmod 128).toNat
 else(if 55295<(z.fdiv 4).fmod 1112064 then(z.fdiv 4).fmod 1112064+2048 else(z.fdiv 4).fmod 1112064).toNat
noncomputable def gb(zs:J az):J B:=[46,97,45,46,97]++(zs.take 6).map kZ
theorem uL(a b:az)(h:0<b):0<=a.fmod b/\a.fmod b<b:=⟨az.fmod_nonneg_of_pos a h,az.fmod_lt_of_pos a h⟩
theorem at2{z:az}{a:B}:(oF (z.fmod 2) (tx [a,b]).length).bind ((tx [a,b]).cps[·]?)=some (if z.fmod 2=0 then a else b):=by
 refine xA (uL z 2<|by decide) λh0 G=>D (jH _) ?_
 (refine D (seqIndex_of h0<|by show z.fmod 2<((2:B):az);assumption) ?_)
 by_cases h:z.fmod 2=0
 ·exact D h rfl
 ·exact D (aE h)<|D (show z.fmod 2=1 by lia) rfl
noncomputable def aw(l:J<|J B):J V:=l.map λx=>.str<|tx x
noncomputable def bf(l:J<|J B×J B):J V:=l.map λp=>.tup (.type "tuple") [.str<|tx p.1,.str<|tx p.2]
theorem eZ{g:B->bb}{l:J (J B)}:V.ff g (aw l)=true:=oY λH=>rfl
theorem rs{aiC:B->B}{l:J (J B)}:V.lI aiC (aw l)=aw l:=V.GM λH=>rfl
theorem k6{g:B->bb}:V.ff g (bf l)=true:=oY λH=>rfl
theorem wi{aiC:B->B}:V.lI aiC (bf l)=bf l:=V.GM λH=>rfl
theorem sQ(l m:J<|J B):aw l++aw m=aw (l++m):=(eL ..).symm
theorem wj(l:J<|J B)(x:J B):aw l++[.str<|tx x]=aw (l++[x]):=by simp only[←sQ];rfl
theorem en(l:J<|J B):U (aw l)=U l:=bg ..
theorem o9{a b:J B}:tx a=tx b↔a=b:=⟨λh=>by
 have:=bB (λs:ao=>s.cps.toList) h
 simpa[tx] using this,λh=>by exact D h rfl⟩
noncomputable def iH(s:J (J B)×J (J B))(p:J B×J B):J (J B)×J (J B):=
 if p.1=p.2 then(s.1++s.2++[32::p.1],[]) else(if p.1=[] then s.1 else s.1++[45::p.1],if p.2=[] then s.2 else s.2++[43::p.2])
noncomputable def rowsOf(steps:J<|J B×J B):J (J B)×J (J B):=steps.foldl iH ([],[])
noncomputable def gk(steps:J<|J B×J B):J (J B):=(rowsOf steps).1++(rowsOf steps).2
theorem acy(l:J<|J B×J B)(p):rowsOf (l++[p])=iH (rowsOf l) p:=by unfold rowsOf;exact D jS rfl
theorem B1:∀(steps:J<|J B×J B),(rowsOf steps).1.length+(rowsOf steps).2.length<=2*U steps:=λsteps=>by
 suffices ∀(l:J<|J B×J B) s,(l.foldl iH s).1.length+(l.foldl iH s).2.length<=U s.1+U s.2+2*U l by have:=this steps ([],[]);simp only[iR,iu] at this;exact this
 intro l
 induction l with
 |nil=>intro s;simp
 |cons p l ih=>
  intro s;refine D l6<|cY (ih _) ?_;unfold iH;split
  ·simp;exact ZK
  ·split<;>split<;>simp<;>lia
end
namespace yC
noncomputable def ES(w:bz)(os:bM)(dr:cV)(n:B)(steps:J<|J B×J B)(_ _ _ _ _ _ _ _:fF):Prop:=(U steps<=1000)->(∀p∈steps,U p.1<=1000/\U p.2<=1000)->cC (TW w os dr) (n+1) (.ref 301) [.list<|bf steps] [.ref 0] [.list<|bf steps,.list<|aw<|gk steps] (.ref 1)
@[irreducible] noncomputable def EX:=nU oO default {} 0 [] () () () () () () () () ES
noncomputable def w:=EX.1
noncomputable def os:=EX.2.1
noncomputable def dr:=EX.2.2.1
noncomputable def n:=EX.2.2.2.1
noncomputable def steps:=EX.2.2.2.2.1
theorem Ee:ES w os dr n steps () () () () () () () ():=λhz hs=>by
 refine m7 (Gp _) rfl (λxs hx=>?_) λL=>?_
 ·revert xs;exact sG λH=>rfl
 refine rg (names:=["rows","coming"]) (dL<|an (eI aM)<|an (eI aM) aM) ?_
 refine cg (nW 2 (items:=bf steps) (aiy:=λaj=>aj.hp[0]?=some (.list (bf steps))) (am:=⟨[("rows",.ref 1),("coming",.ref 2),("steps",.ref 0)],[.list (bf steps),.list (aw []),.list (aw [])]⟩)
  (λi aj=>aj=⟨[("rows",.ref 1),("coming",.ref 2),("steps",.ref 0)],[.list<|bf steps,.list<|aw (rowsOf<|steps.take i).1,.list<|aw (rowsOf<|steps.take i).2]⟩)
  (gw.of (v:=.ref 0) ah (fP.list rfl)) rfl (λi aj H h=>by refine D h ?_;rfl) (eM 1) (eM 1) (λi aiA aj hu hI=>?_) (λaj hI=>?_))
 ·subst hI;unfold bf at hu;rw[c7] at hu;cases hq:steps[i]? with
  |none=>rw[hq] at hu;exact nomatch hu
  |some p=>
  rw[hq] at hu;cases hu;obtain⟨l1,l2⟩:=hs p<|dT hq;have hlen:=B1<|steps.take i;have eU:U (steps.take i)<=1000:=by exact D gE<|ZJ hz
  have m8:rowsOf (steps.take<|i+1)=iH (rowsOf<|steps.take i) p:=by exact D qM<|D hq<|acy _ _
  refine D m8 ?_
  generalize hR:(rowsOf<|steps.take i)=RC at hlen ⊢;obtain⟨R,M⟩:=RC;dsimp only at hlen ⊢;have fit:∀(c:B) (x:J B),U x<=1000->(tx [c]++tx x).length<=km:=λc x hx=>by
   rw[kY,jH];simp only[jT,nG,cK];exact mo<|ZI hx
  refine⟨_,cW.tup<|bU.cons bW<|bU.cons bW bU.nil,(cg<|jl (bV ah ah a8.eq_str) (λh=>?_) λh=>?_)⟩
  ·have e:p.1=p.2:=o9.mp (by simpa using h);refine eE (jq ah (uC rfl) (an ah aM) (aQ.extend rfl rfl<|by refine D (en _)<|D (en _) ?_;exact Fz hlen eU) ud KN KO) ?_
   refine eE (iF ah rfl (bt dF ah<|nZ<|fit 32 p.1 l1) rfl<|by rw[sQ,en,aK];exact Fz hlen eU) ?_
   refine cZ (eI aM) ?_
   refine jo (aj:=⟨[("rows",.ref 1),("coming",.ref 2),("steps",.ref 0)],[.list (bf steps),.list (aw (iH (R,M) p).1),.list (aw (iH (R,M) p).2)]⟩) (.inr ⟨[3],_,_,Cv.of (base:=[.list (bf steps),.list (aw R++aw M++[.str (tx [32]++tx p.1)])]) (sel:=[.list []]) rfl rfl (by decide) (by decide) rfl rfl rfl
    (.cons k6 (bB O.list wi).symm (.cons ?_ ?_ (.cons rfl ?_ .nil))),c9.cons rfl rfl rfl (c9.cons rfl rfl rfl (c9.cons rfl rfl rfl c9.nil))⟩) (bd (bd rfl)) (bY rfl)
   ·rw[kY,sQ,wj];exact eZ
   ·rw[kY,sQ,wj,iH,aU e];exact(bB O.list rs).symm
   ·rw[iH,aU e];rfl
  ·have e:¬p.1=p.2:=λz=>(by simpa using h:¬tx p.1=tx p.2) (o9.mpr z)
   have es:iH (R,M) p=(if p.1=[] then R else R++[45::p.1],if p.2=[] then M else M++[43::p.2]):=by rw[iH,aE e]
   refine D es ?_
   have b1:∀x:J B,(!decide (tx x=tx []))=true->x≠[]:=λx h z=>by subst z;simp at h
   have b2:∀x:J B,(!decide (tx x=tx []))=false->x=[]:=λx h=>o9.mp (by simpa using h);refine cg<|jt (K:=λfl aj=>fl= .next/\SubL [("rows",.ref 1),("coming",.ref 2),("steps",.ref 0),("new",.str<|tx p.2)] aj.loc/\aj.hp=[.list<|bf steps,.list (aw<|if p.1=[] then R else R++[45::p.1]),.list<|aw M]) (jl (bV ah (EV.tx []) a8.ne_str) (λG=>?_) λG=>bd ⟨rfl,bp rfl,D (aU<|b2 _ G) rfl⟩) λfl aj q=>?_
   ·refine eE (iF ah rfl (bt (EV.tx [45]) ah<|nZ<|fit 45 p.1 l1) rfl<|by refine D (en _) ?_;exact ZG hlen eU)<|bd ⟨rfl,bp rfl,?_⟩;refine D (aE<|b1 _ G) ?_
    rw[kY,wj];rfl
   ·refine eh q λe hl hh=>?_
    subst e;refine b7 hl hh<|cg<|jl (bV ah (EV.tx []) a8.ne_str) (λh2=>?_) λh2=>bd ?_
    ·refine eE (iF ah rfl (bt (EV.tx [43]) ah<|nZ<|fit 43 p.2 l2) rfl<|by refine D (en _) ?_;exact ZH hlen eU)<|bd ?_;refine D (aE<|b1 _ h2)<|b7 (l':=[("rows",.ref 1),("coming",.ref 2),("steps",.ref 0)]) (bp rfl) ?_<|bd<|bd rfl;rw[kY,wj];rfl
    ·exact D (aU<|b2 _ h2)<|XS.forget (bp rfl)<|bd<|bd rfl
 ·subst hI;have e:U (bf steps)=U steps:=bg ..;refine D e<|D pI ?_;have hlen:=B1 steps
  refine bd (j6 (bt ah ah (a8.add_list rfl rfl (by refine D (en _) (D (en _) ?_);exact Fz hlen hz))) ⟨_,rfl,[3],_,_,Cv.of (p:=1) (base:=[.list (bf steps)]) (sel:=[.list (aw (rowsOf steps).1++aw (rowsOf steps).2)]) rfl rfl (by decide) (by decide) rfl rfl rfl
   (.cons k6 (bB O.list wi).symm (.cons (by refine D (sQ _ _) ?_;exact eZ) ?_ .nil)),rfl,rfl⟩)
  exact D (sQ _ _)<|(bB O.list rs).symm
end yC
section
variable{w:bz}{os:bM}{dr:cV}{n q:B}{i:az}{am ba ce:St}{v:V}{aiC:B->B}{g:B->bb}{hp:J O}{l:J (ao×V)}{b:J (J B)}{x:J B}
theorem acz:∀{w os dr n steps},yC.ES w os dr n steps () () () () () () () ():=by with_unfolding_all exact oM yC.ES yC.EX rfl yC.Ee _ _ _ _ _ () () () () () () () ()
noncomputable def dg(i:az):J B:=(ft<|toString i).cps.toList
theorem wk(i:az):ft (toString i)=tx (dg i):=by
 rfl
theorem GT(h:i.natAbs<2 ^ 64):U (dg i)<=2000:=by
 have:=BZ h;rw[wk,jH] at this;exact this
noncomputable def lN(start size:az):J B:=if size=0 then dg start++[44,48] else if size=1 then dg (start+1) else dg (start+1)++[44]++dg size
theorem acA(a b:az):rangeT a b=tx (lN a b):=by
 unfold rangeT lN;split
 ·simp only[wk,show ft ",0"=tx [44,48] by rfl,kY]
 ·split
  ·simp only[wk]
  ·simp only[wk,wk,show ft ","=tx [44] by rfl,kY,kY]
section
variable{C:Cx}{st:St}
theorem fu.int{i:az}:fu C n (.int i) st (i !=0):=.mk λA s ρ x Q hA R ⟨t,e⟩ h=>by
 subst e;exact PySem.P.truthy_int<|h s<|ek R
theorem fu.str{x:ao}(hz:x.length<=16777216):fu C n (.str x) st (x.length !=0):=.mk λA s ρ y Q hA R ⟨t,e⟩ h=>by
 subst e;refine PySem.P.truthy_str (by lia) ?_
 simp only[show((x.length:az)!=0)=(x.length !=0) from sd.mpr<|by simp];exact h _<|gj R _
theorem fu.list{k:B}{l:J V}(hk:st.hp[k]?=some (.list l))(hz:U l<=16777216):fu C n (.ref k) st (!l.isEmpty):=.mk λA s ρ y Q hA R hx h=>by
 refine kn (mZ R hk hx) λa vs av ha hL hl=>?_
 subst av;have s1:vs.size=U l:=by simp only[←eO,dK hl]
 refine wpAny_truthy_list hL (by refine D s1 ?_;omega) ?_
 have e:vs.isEmpty=l.isEmpty:=by
  rw[sd,J.isEmpty_iff_length_eq_zero,←s1];simp[bD.isEmpty]
 simp only[e];exact h _<|gj R _
noncomputable def VT:V->J B->Prop
 | .str x,y=>x=tx y/\U y<=1000000
 | .int i,y=>dg i=y/\0<=i/\i<10 ^ 10
 |_,_=>c8
noncomputable def Fm(L:B):J V->J B->J B->J B->Prop
 | []=>λr T T'=>r=[]/\T=T'
 |v::vs=>λr T T'=>∃lit rest y,(r.isEmpty=false/\Lc r= .ok (lit,some {name:=[]},rest)/\U lit≠L/\U lit<=100)/\VT v y/\Fm L vs rest (T++lit++y) T'
theorem Fm.cons{L:B}{vs:J V}{r T T1 T' lit rest y:J B}(c2:Lc r= .ok (lit,some {name:=[]},rest))(hv:VT v y)(e:T++lit++y=T1)(h:Fm L vs rest T1 T')(c1:aO ((r.isEmpty||U lit==L|| !Nat.ble (U lit) 100)=false) a9):Fm L (v::vs) r T T':=by
 subst e;obtain⟨c,c4⟩:=Kz.mp c1;obtain⟨c1,c3⟩:=Kz.mp c;exact⟨lit,rest,y,⟨c1,c2,λq=>dy<|c3.symm.trans (nH.mpr q),bY<|KD (y:=true) c4⟩,hv,h⟩
theorem Fm.go{L:B}{ρ:J ax}{h:bn}{us:J V}:∀{xs r T T'},Fm L us r T T'->V.IsL ρ h us xs->BU L xs r (tx T) (tx T'):=by
 induction us with
 |nil=>intro xs r T T' hc hx;obtain rfl:xs=[]:=hx;exact⟨hc.1,bB tx hc.2⟩
 |cons v vs ih=>
  intro xs r T T' hc hx;obtain⟨lit,rest,y,c,hv,hc⟩:=hc;refine cE hx λx r' e i1 i2=>?_
  subst e;refine⟨lit,rest,tx y,c,?_,D (by rw[kY,kY]:tx T++tx lit++tx y=tx (T++lit++y))<|ih hc i2⟩;cases v with
  |str z=>obtain⟨t,rfl⟩:=i1;obtain⟨rfl,hy⟩:=hv;exact FT.str<|D (jH y) hy
  |int z=>obtain⟨t,rfl⟩:=i1;obtain⟨rfl,h0,G⟩:=hv;exact bL (wk z)<|FT.int h0 G
  |_=>exact hv.elim
theorem acB{X:ao}{t:jh}:∀{xs:J ak},U xs<=3->l9 "str.format" ⟨.str X t::xs,[]⟩
 | [],_=>PySem.W.KFm.args_1 _
 | [_],_=>PySem.W.KFm.args_2 _ _
 | [_,_],_=>PySem.W.KFm.args_3 _ _ _
 | [_,_,_],_=>PySem.W.KFm.args_4 _ _ _ _
 |_::_::_::_::l,h=>aZ h (by simp only[cK];exact B.not_le_of_gt<|pK _ _)
theorem aQ.fmt{X X':ao}{us:J V}{r:J B}(hc:Fm X'.cps.toList.length us X'.cps.toList [] r)(hX:X=X':=by decide+kernel)(h2:aO ((B.ble (U us) 3&&B.ble (U us) X'.cps.toList.length)=true) a9):aQ C n (.builtin "str.format") (.str X::us) st (.str<|tx r) st:=.mk λA s ρ xs Q hA R aV h=>by
 refine cE aV λx xs e i1 i2=>?_
 subst e;obtain⟨t,rfl⟩:=i1;obtain⟨ha,hb⟩:=fc.mp h2;have hl:=dK i2;exact PySem.W.KFm.call_k hX (acB<|D hl<|bY ha) (PySem.W.KPc.meets_of λH H H H H H hq=>abG (Fm.go hc i2) (D hl<|ly<|bY ha) (D hl<|bY hb) hq) λt' k=>h ρ _ _ (gj R _) ⟨t',rfl⟩
theorem aQ.acC(h0:0<=i)(G:i<10 ^ 10):aQ C n (.builtin "str.format") [.str<|ft "{}",.int i] st (.str<|tx<|dg i) st:=
 aQ.fmt (X':=⟨#[123,125]⟩) (Fm.cons (lit:=[]) (rest:=[]) (T1:=dg i) rfl ⟨rfl,h0,G⟩ rfl ⟨rfl,rfl⟩)
theorem aQ.O2{j:az}(h0:0<=i)(G:i<10 ^ 10)(h2:0<=j)(h3:j<10 ^ 10):aQ C n (.builtin "str.format") [.str<|ft "{},{}",.int i,.int j] st (.str<|tx<|dg i++[44]++dg j) st:=
 aQ.fmt (X':=⟨#[123,125,44,123,125]⟩) (Fm.cons (lit:=[]) (rest:=[44,123,125]) (T1:=dg i) rfl ⟨rfl,h0,G⟩ rfl<|Fm.cons (lit:=[44]) (rest:=[]) rfl ⟨rfl,h2,h3⟩ rfl ⟨rfl,rfl⟩)
end
theorem O3{a b:az}(h0:0<=a)(G:a<=b)(h2:b<10 ^ 9):cC (TW w os dr) (n+1) (.ref 253) [] [.int a,.int b] [] (.str<|tx<|lN a<|b-a):=by
 refine m7 (ym _) rfl (λxs hx=>?_) λL=>?_
 ·revert xs;exact sH λH H=>rfl
 refine eE dF<|cZ (bt ah bA eT)<|cZ (bt ah ah mt)<|cg<|jl (bV ah bA mi) (λh=>?_) λh=>bd ?_
 ·have e:b-a=1:=by simpa using h
  refine j6 (jq dF nY (an ah aM) (aQ.acC (by lia)<|by lia) nR ub uc) ⟨_,rfl,?_⟩;rw[lN,aE (by omega),aU e];exact o8 rfl rfl
 have ne:¬b-a=1:=by simpa using h
 refine cg<|jl (TV.not<|fv ah fu.int) (λh=>?_) λh=>bd ?_
 ·have e:b-a=0:=by simpa using h
  refine cg (X1.aug rfl bA a8.isub_int<|bd<|j6 (jq dF nY (an ah<|an ah aM) (aQ.O2 (by lia) (by lia) (by omega)<|by omega) nR ub uc) ⟨_,rfl,?_⟩);rw[lN,aU e,e,show a+1-1=a by lia,show dg 0=[48] by rfl,cm];exact o8 rfl rfl
 ·have e:¬b-a=0:=by simpa using h
  refine j6 (jq dF nY (an ah<|an ah aM) (aQ.O2 (by lia) (by omega) (by omega)<|by lia) nR ub uc) ⟨_,rfl,?_⟩;rw[lN,aE e,aE ne];exact o8 rfl rfl
section
variable{C:Cx}{st:St}
theorem aQ.B2{x:ao}:aQ C n (.builtin "isinstance") [.str x,.val<|.type "str"] st (.bool true) st:=.mk λA s ρ xs Q hA R aV h=>by
 refine cE aV λx r bE cx bR=>?_
 clear aV;subst bE;obtain⟨t,rfl⟩:=cx;refine cE bR λy r' gW e i2=>?_
 clear bR;subst gW;obtain rfl:r'=[]:=i2;subst e;exact PySem.IsiPair.str_str<|h ρ _ _ (ek R) rfl
end
theorem acD{l1 l2:J (J B)}{s1 s2 s3 s4 s5:ao}(G:U l1<=1000)(h2:U l2<=1000):
  cC (TW w os dr) (n+1) (.ref 268) [.list<|aw l1,.list<|aw l2] [.ref 0,.ref 1,.str s1,.str s2,.str s3,.str s4,.str s5] [.list<|aw l1,.list<|aw l2] .none:=by
 have aiy:=Go w.params;refine cC.v4 aiy.get aiy.fd rfl aiy.code (noLimit _) (names:=["a","b","args"]) (bs:=[.ref 0,.ref 1,.tup (.type "tuple") [.str s1,.str s2,.str s3,.str s4,.str s5]]) (λA E ρ s xs Q R aV hq=>?_) aiy.nd aiy.cell aiy.loc λL=>?_
 ·refine cE aV λx0 H bE i0 bR=>?_
  clear aV;subst bE;refine cE bR λx1 H uJ i1 B3=>?_
  clear bR;subst uJ;refine cE B3 λy1 H e6_ j1 O4=>?_
  clear B3;subst e6_;refine cE O4 λy2 H Gj j2 O5=>?_
  clear O4;subst Gj;refine cE O5 λy3 H Gk j3 O6=>?_
  clear O5;subst Gk;refine cE O6 λy4 H acE j4 O7=>?_
  clear O6;subst acE;refine cE O7 λy5 H acF j5 acG=>?_
  clear O7;subst acF acG;show aF _ A (do let t ←newTuple [y1,y2,y3,y4,y5];pure [(ft "a",x0),(ft "b",x1),(ft "args",t)]) Q E s;refine wpAny_bind (wpAny_newObj_type (wpAny_pure<|hq [x0,x1,.ref s.heap.objs.size] _ s.toks (λb o e=>dE _ e) (by simp only[jV];exact eM _) ?_)<|by show(5:B)<=km;decide);have hs:=bF.push s.heap {cls:=.type "tuple",data:=.seq [y1,y2,y3,y4,y5].toArray}
  exact⟨_,_,rfl,i0.mono (bP _) hs,_,_,rfl,i1.mono (bP _) hs,_,_,rfl,⟨rfl,_,_,0,rfl,ew _ rfl,
   ⟨_,_,rfl,j1.mono (bP _) hs,_,_,rfl,j2.mono (bP _) hs,_,_,rfl,j3.mono (bP _) hs,_,_,rfl,j4.mono (bP _) hs,_,_,rfl,j5.mono (bP _) hs,rfl⟩⟩,rfl⟩
 have gi:=Ox w.params;have bi:=OB w.params;refine cg<|i9 false ?_ (λh=>aZ h dy) λH=>bd ?_
 ·cases l1 with
  |nil=>exact jm (fv ah<|fu.list (l:=aw []) rfl<|by decide)
  |cons x l=>exact kq (fv ah<|fu.list (l:=aw<|x::l) rfl<|by rw[en];exact Fq G) (jm<|TV.not<|fv (fw (cB (cQ _) gi (dN _) bi) (an (eJ ah bA (i7 (l:=aw<|x::l) rfl (by decide) rfl) gy)<|an (cB (cQ _) (sI _) (dN _)<|sJ _) aM) aQ.B2) kR)
 refine cg<|i9 false ?_ (λh=>aZ h dy) λH=>bd ?_
 ·cases l2 with
  |nil=>exact jm (fv ah<|fu.list (l:=aw []) rfl<|by decide)
  |cons x l=>exact kq (fv ah<|fu.list (l:=aw<|x::l) rfl<|by rw[en];exact Fq h2) (jm<|TV.not<|fv (fw (cB (cQ _) gi (dN _) bi) (an (eJ ah bA (i7 (l:=aw<|x::l) rfl (by decide) rfl) gy)<|an (cB (cQ _) (sI _) (dN _)<|sJ _) aM) aQ.B2) kR)
 refine cg (nW 2 (items:=([s1,s2,s3,s4,s5].map V.str)) (aiy:=λH=>gF) (lo:=0) (am:=⟨[("a",.ref 0),("b",.ref 1),("args",.tup (.type "tuple") ([s1,s2,s3,s4,s5].map V.str))],[.list (aw l1),.list (aw l2)]⟩)
  (λi aj=>aj=⟨[("a",.ref 0),("b",.ref 1),("args",.tup (.type "tuple")<|[s1,s2,s3,s4,s5].map V.str)],[.list<|aw l1,.list<|aw l2]⟩)
  (gw.of ah (fP.tup rfl)) rfl (λH H H H=>trivial) (bH _) (aG _) (λi aiA aj hu hI=>?_) (λaj hI=>?_))
 ·subst hI;rw[c7] at hu;cases hq: [s1,s2,s3,s4,s5][i]? with
  |none=>rw[hq] at hu;exact nomatch hu
  |some z=>
  rw[hq] at hu;cases hu;exact⟨_,bW,(lM (TV.not (fv (fw (cB (cQ _) gi (dN _) bi) (an ah (an (cB (cQ _) (sI _) (dN _) (sJ _)) aM)) aQ.B2) kR)) (b7 (bp rfl) rfl (bd rfl)))⟩
 ·subst hI;exact bd<|bd ⟨_,rfl,[],_,_,Cv.of (p:=2) (base:=[.list<|aw l1,.list<|aw l2]) (sel:=[]) rfl rfl lx (λk h=>(g8 h).elim) rfl rfl rfl<|.cons eZ (bB O.list rs).symm (.cons eZ (bB O.list rs).symm .nil),rfl,rfl⟩
theorem V.GU(v:V):v.cf (λk=>k)=v:=V.jC (g:=λH=>true) (λH H=>rfl) V.rf
theorem GV{κ:Type}{aiC:B->B}{g:B->bb}(hf:∀k,g k=true->aiC k=k):∀{l:J (κ×V)},V.ff g (l.map (·.2))=true->(l.map λp=>(p.1,p.2.cf aiC))=l
 | []=>λH=>rfl
 |p::l=>λh=>by
  have h:=fc.mp h;exact cons_eq (bB (EY p.1)<|V.jC hf h.1)<|GV hf h.2
theorem O8{κ:Type}{aiC:B->B}{g:B->bb}(hf:∀k,g k=true->aiC k=k):∀{l:J (κ×V)},(l.all λp=>p.2.bG g)=true->(l.map λp=>(p.1,p.2.cf aiC))=l
 | []=>λH=>rfl
 |p::l=>λh=>by
  have h:=fc.mp h;exact cons_eq (bB (EY p.1)<|V.jC hf h.1)<|O8 hf h.2
theorem O.jC{aiC:B->B}{g:B->bb}(hf:∀k,g k=true->aiC k=k):∀{o:O},o.bG g=true->o.cf aiC=o
 | .list l=>λh=>bB O.list<|V.uu hf h
 | .attrs l=>λh=>bB O.attrs<|O8 hf h
 | .inst c d=>λh=>bB (O.inst c)<|hf d h
 | .cell v=>λh=>bB O.cell<|V.jC hf h
 | .fields c l=>λh=>bB (O.fields c)<|V.uu hf h
 | .fe l=>λh=>bB O.fe<|GV hf h
 | .intD l=>λh=>bB O.intD<|GV hf h
 | .fZ=>λH=>rfl
theorem O.GU(o:O):o.cf (λk=>k)=o:=O.jC (g:=λH=>true) (λH H=>rfl) O.rf
theorem acH(p:B):oR (eD p) p=λk=>k:=by
 funext k;unfold oR;refine D gO ?_
 split
 ·next h=>rw[c6,oz h];rfl
 ·lia
theorem range_getD{p k:B}(h:k<p):(eD p).getD k 0=k:=by refine D (c6)<|D (oz h) ?_;rfl
theorem acI{α:Type}{hp os:J α}(h:U hp<=U os):over hp (eD<|U hp) os=os:=by
 apply xc;intro k
 by_cases hk:k<U hp
 ·exact Bt xf (oz hk) hk (by exact D gO<|h)
 ·obtain⟨i,rfl⟩:=Kf<|iU.mp hk;rw[Gb (by rw[gO];exact h),gO]
theorem acJ{α:Type}{hp aY rest:J α}(h:U aY=U hp):over (hp++rest) (eD<|U hp) aY=aY++rest:=by
 apply xc;intro k
 by_cases hk:k<U hp
 ·rw[Bt xf (oz hk) (by rw[aK];exact ZY hk) (by rw[gO];exact vV h),cA<|mf hk h]
 ·by_cases h2:k<U (hp++rest)
  ·(simp only[Bs (by rw[rX];exact hk) h2,dc (by exact iS ‹_›),dc<|Nx hk h,h])
  ·rw[rQ (by rw[Ga (by rw[gO];exact vV h),gO];exact ZX h2 h),rQ<|by rw[aK] at h2 ⊢;exact ZW h2 h]
section
variable{C:Cx}{st:St}
theorem cC.same{aiC:ak}{aY:J O}{args:J V}(hf:cC C.toWd n aiC hp args aY v)(hle:U hp<=U aY)
  (hc:∀o∈hp,o.bG (λk=>decide (k<U hp))=true) (ha:V.ff (λk=>decide (k<U hp)) args=true):aQ C n aiC args ⟨l,hp⟩ v ⟨l,aY⟩:=by
 have uM:∀k,(λk=>decide (k<U hp)) k=true->(λk=>(eD<|U hp).getD k 0) k=k:=λk h=>range_getD<|dq h
 have key:=cC.frame (st:=⟨l,hp⟩) (eD (U hp)) hf gO hle xf (λi o h=>by
  have hi:=(cJ.mp h).1;have ho:=hc o<|dT h;refine D gO ?_
  exact⟨ho,i,oz hi,by refine D (O.jC uM ho) ?_;exact h⟩) (by exact D gO (ha))
 dsimp only at key;rw[V.uu uM ha,acH,V.GU,show O.cf (λk=>k)=id from funext O.GU,D1,acI hle] at key;exact key
theorem cC.front{aiC:ak}{aY rest:J O}{args:J V}(hf:cC C.toWd n aiC hp args aY v)(hle:U aY=U hp)
  (hc:∀o∈hp,o.bG (λk=>decide (k<U hp))=true) (yD:∀o∈aY,o.bG (λk=>decide (k<U hp))=true) (ha:V.ff (λk=>decide (k<U hp)) args=true) (hv:v.bG (λk=>decide (k<U hp))=true):
  aQ C n aiC args ⟨l,hp++rest⟩ v ⟨l,aY++rest⟩:=by
 have uM:∀k,(λk=>decide (k<U hp)) k=true->(λk=>(eD<|U hp).getD k 0) k=k:=λk h=>range_getD<|dq h;have O9:∀k,(λk=>decide (k<U hp)) k=true->(oR (eD<|U hp)<|U<|hp++rest) k=k:=λk h=>by
  have h:=dq h;unfold oR;exact D gO<|D (aU h)<|range_getD h
 have key:=cC.frame (st:=⟨l,hp++rest⟩) (eD (U hp)) hf gO (vV hle) xf (λi o h=>by
  have hi:=(cJ.mp h).1;have ho:=hc o<|dT h;refine D gO ?_
  exact⟨ho,i,oz hi,by simp only[O.jC uM ho,cA hi];exact h⟩) (by exact D gO (ha))
 dsimp only at key;have e:aY.map (O.cf<|oR (eD<|U hp)<|U<|hp++rest)=aY:=by
  exact(rU (g:=id) λo ho=>O.jC O9<|yD o ho).trans<|D1 _
 simp only[V.uu uM ha,V.jC O9 hv,e,acJ hle] at key;exact key
end
noncomputable def uN:J (ao×V):=[("autojunk",.bool true),("b",.none),("a",.none),("isjunk",.none)]
noncomputable def wl:J (ao×V):=[("opcodes",.none),("matching_blocks",.none),("a",.ref 0),("autojunk",.bool true),("b",.none),("isjunk",.none)]
theorem acK{f u:J (J B)}:cC (TW w os dr) (n+1) (.ref 174) [.list<|aw f,.list<|aw u,.attrs uN,.inst 242 2] [.ref 3,.ref 0] [.list<|aw f,.list<|aw u,.attrs wl,.inst 242 2] .none:=by
 refine m7 (Gr _) rfl (λxs hx=>?_) λL=>?_
 ·revert xs;exact sH λH H=>rfl
 have cl:=qh w.params;refine eE dF (lM (bV ah (EV.attr (k:=3) (d:=2) (l:=uN) ah rfl rfl rfl cl (by kernel_rfl) (by kernel_rfl) yy λH h=>by exact nomatch h) a8.is_ref_none)<|jG ah (cF.cons (kX (k:=3) (d:=2) (l:=uN) ah rfl rfl cl (by kernel_rfl) (by kernel_rfl) yy) cF.nil)<|jG EV.none (cF.cons (kX (k:=3) (d:=2) ah rfl rfl cl (by kernel_rfl) (by kernel_rfl) yz)<|cF.cons (kX (k:=3) (d:=2) ah rfl rfl cl (by kernel_rfl) (by kernel_rfl) BY) cF.nil) ?_);exact bd<|⟨_,rfl,[],_,_,Cv.of (p:=4) (base:=[.list<|aw f,.list<|aw u,.attrs wl,.inst 242 2]) (sel:=[]) rfl rfl lx (λk h=>(g8 h).elim) rfl rfl rfl<|.cons eZ (bB O.list rs).symm (.cons eZ (bB O.list rs).symm (.cons rfl rfl<|.cons rfl rfl .nil)),rfl,rfl⟩
noncomputable def gC(hp:J O):Prop:=∀o∈hp,o.bG (λk=>decide (k<U hp))=true
theorem O.m6{g g':B->bb}(hg:∀k,g k=true->g' k=true):∀{o:O},o.bG g=true->o.bG g'=true
 | .list _=>λh=>uH hg h
 | .attrs l=>λh=>fX.mpr λp hp=>V.m6 hg<|fX.mp h p hp
 | .inst _ _=>λh=>hg _ h
 | .cell _=>λh=>V.m6 hg h
 | .fields _ _=>λh=>uH hg h
 | .fe _=>λh=>uH hg h
 | .intD _=>λh=>uH hg h
 | .fZ=>λH=>rfl
theorem O.acL{p p':B}(h:p<=p'){o:O}(ho:o.bG (λk=>decide (k<p))=true):o.bG (λk=>decide (k<p'))=true:=
 O.m6 (λk hk=>dG<|oC (dq hk) h) ho
theorem o6.same{aiC:B->B}{g:B->bb}:∀{hp:J O},(∀o∈hp,o.bG g=true/\o=o.cf aiC)->o6 aiC g hp hp
 | []=>λH=>.nil
 |o::hp=>λh=>.cons (h o<|vB ..).1 (h o<|vB ..).2<|o6.same λo ho=>h o<|vA _ ho
section
variable{junk:J O}
theorem B4(hq:q<=U hp):(∀k,k<U hp->n7 q (fk q<|U hp-q) k=k)/\∀k,k<U hp->oZ q (fk q<|U hp-q) k=true:=by
 constructor
 ·intro k hk;unfold n7;split
  ·rfl
  ·have hm:fk q (U hp-q)=J.map (q+ ·) (eD<|U hp-q):=by simp only[JD,J.map_add_range'];simp
   have uO:(fk q<|U hp-q)[k-q]?=some k:=by refine D (DO<|by lia) ?_;congr 1;lia
   have bJ:=(cJ.mp uO).1;have e:=(cJ.mp uO).2;have:(fk q<|U hp-q).idxOf k=k-q:=by
    conv=>lhs;rw[←e]
    exact D3 DT _ bJ
   lia
 ·intro k hk;unfold oZ
  by_cases h:k<q
  ·simp[h]
  ·simp only[En,ip,z7,xe];exact ZZ hk
theorem Cv.drop(hq:q<=U hp)(hc:gC hp):Cv q (fk q<|U hp-q) (n7 q<|fk q<|U hp-q) (oZ q<|fk q<|U hp-q) (hp++junk) hp:=by
 refine xA (B4 hq) λG h2=>?_
 refine Cv.of (base:=hp.take q) (sel:=hp.drop q) rfl rfl DT (λk h=>(xe.mp h).1) (by exact D (w7 hq) rfl) (by refine D gE ?_;exact FB hq) ?_ ?_
 ·apply xc;intro i;simp only[c7,c7,z9]
  by_cases hi:i<U hp-q
  ·refine D (DO hi) ?_
   have hb:q+i<U hp:=by exact Fg hi
   simp only[vG,Ao];refine D (cA hb)<|D (bO hb) ?_;rfl
  ·(refine D (rQ<|by rw[Aa];exact iS ‹_›)<|D (rQ<|Ny hi) ?_);rfl
 ·simp only[rR];refine o6.same λo ho=>?_
  have:=hc o ho;exact⟨O.m6 (λk hk=>h2 k<|dq hk) this,(O.jC (λk hk=>G k<|dq hk) this).symm⟩
theorem mw{l':J (ao×V)}(hq:q<=U hp)(hc:gC hp)(hl:SubL l' l)(hv:∀p∈l',p.2.bG (λk=>decide (k<U hp))=true):jn q ⟨l,hp++junk⟩ ⟨l',hp⟩:=by
 refine xA (B4 hq) λG h2=>.inr ⟨_,_,_,Cv.drop hq hc,λx v e=>?_⟩;have hm:v.bG (λk=>decide (k<U hp))=true:=by
  clear hl
  induction l' with
  |nil=>cases e
  |cons p l' ih=>
   rw[gv] at e;split at e
   ·(injection e;subst_vars);exact hv p<|vB ..
   ·exact ih (λp hp=>hv p<|vA _ hp) e
 exact⟨v,hl x v e,V.m6 (λk hk=>h2 k<|dq hk) hm,(V.jC (λk hk=>G k<|dq hk) hm).symm⟩
theorem Conv.drop{v:V}(hq:q<=U hp)(hc:gC hp)(hv:v.bG (λk=>decide (k<U hp))=true):Conv q (hp++junk) v hp v:=by
 exact xA (B4 hq) λG h2=>(⟨_,_,_,Cv.drop hq hc,V.m6 (λk hk=>h2 k<|dq hk) hv,(V.jC (λk hk=>G k<|dq hk) hv).symm⟩)
end
noncomputable def keysOf(b:J<|J B):J (J B):=b.foldl (λks x=>if ks.contains x then ks else ks++[x]) []
noncomputable def posOf(x:J B)(b:J<|J B):J B:=(eD<|U b).filter λi=>b[i]?==some x
theorem Pa(b:J<|J B)(x:J B):keysOf (b++[x])=if(keysOf b).contains x then keysOf b else keysOf b++[x]:=by
 unfold keysOf;exact D jS rfl
theorem Pb:x∈keysOf b↔x∈b:=by
 suffices ∀(b ks:J<|J B),x∈b.foldl (λks x=>if ks.contains x then ks else ks++[x]) ks↔x∈ks\/x∈b by
  have:=this b [];simpa[keysOf] using this
 intro b
 induction b with
 |nil=>intro ks;simp
 |cons y b ih=>
  intro ks;rw[l6,ih];split
  ·next h=>
   have h:y∈ks:=by simpa using h
   constructor
   ·rintro(G|G)
    ·exact .inl G
    ·exact .inr<|vA _ G
   ·rintro(G|G)
    ·exact .inl G
    ·rcases cu.mp G with rfl|G
     ·exact .inl h
     ·exact .inr G
  ·simp only[bK,cu,g8,rY,or_assoc]
theorem acM(b:J<|J B):(keysOf b).Nodup:=by
 suffices ∀(b ks:J<|J B),ks.Nodup->(b.foldl (λks x=>if ks.contains x then ks else ks++[x]) ks).Nodup from this b [] lx
 intro b
 induction b with
 |nil=>intro ks h;exact h
 |cons y b ih=>
  intro ks h;refine D l6<|ih _ ?_;split
  ·exact h
  ·next hy=>
   have hy:y∉ks:=by simpa using hy
   refine mG.mpr ⟨h,by simp,λa ha c hc=>?_⟩;rw[bx] at hc;subst hc;intro e;subst e;exact hy ha
theorem B5(b:J<|J B)(x y:J B):posOf y (b++[x])=if x=y then posOf y b++[U b] else posOf y b:=by
 unfold posOf;rw[aK,J.length_singleton,Ad,xb];have e1:(eD<|U b).filter (λi=>(b++[x])[i]?==some y)=(eD<|U b).filter (λi=>b[i]?==some y):=by
  apply J.filter_congr;intro i hi;exact D (cA (rX.mp hi)) rfl
 refine D e1 ?_
 have e2:(b++[x])[U b]?=some x:=by refine D (dc<|aG _)<|D (fG _) ?_;rfl
 split
 ·next h=>subst h;simp
 ·next h=>simp[h]
theorem Pc(h:x∉b):posOf x b=[]:=by
 unfold posOf;rw[Jz];intro i hi e;have e:=eq_of_beq e;exact h<|dT e
noncomputable def jI:B->J (J B)->J (ao×V)
 |_,[]=>[]
 |p,x::r=>(tx x,.ref p)::jI (p+1) r
theorem Pd:∀(p:B) (ks:J<|J B) (x:J B),jI p (ks++[x])=jI p ks++[(tx x,.ref<|p+U ks)]
 |p,[]=>λx=>rfl
 |p,y::ks=>λx=>by
  show(tx y,V.ref p)::jI (p+1) (ks++[x])=_;rw[Pd];exact D cK<|D (by exact nK _ _ _:p+1+U ks=p+(U ks+1)) rfl
theorem B6:∀(p:B) (ks:J<|J B) (x:J B),(jI p ks).lookup (tx x)=if ks.contains x then some (.ref<|p+ks.idxOf x) else aA
 |p,[]=>λx=>rfl
 |p,y::ks=>λx=>by
  refine D gv<|D (B6 (p+1) ks x) ?_
  by_cases h:x=y
  ·subst h;simp
  ·have G:(tx x==tx y)=false:=by simpa using λe=>h (o9.mp e)
   have h2:(y==x)=false:=by simpa using λe=>h e.symm
   have h3:(x==y)=false:=by simpa using h
   simp only[G,z8,h3,Ax,J.idxOf_cons,h2,cond_false];split<;>simp;first|exact bB V.ref (nK _ _ _)|exact nK _ _ _
theorem GW:∀(p:B) (ks:J<|J B),U (jI p ks)=U ks
 |_,[]=>rfl
 |p,_::ks=>by show U (jI (p+1) ks)+1=_;rw[GW,cK]
theorem GX:∀(p m:B) (ks:J<|J B),p+U ks<=m->V.ff (λk=>decide (k<m)) ((jI p ks).map (·.2))=true
 |_,_,[]=>λH=>rfl
 |p,m,_::ks=>λh=>by
  rw[cK] at h;show(decide (p<m)&&V.ff _ ((jI (p+1) ks).map (·.2)))=true;exact D (GX (p+1) m ks<|by exact xN h)<|D (dG<|by exact um h) rfl
noncomputable def mx(l:J B):J V:=l.map λ(i:B)=>.int (i:az)
noncomputable def ju(b ks:J<|J B):J O:=ks.map λx=>.list<|mx<|posOf x b
theorem acN{ks:J (J B)}(hn:ks.Nodup)(hx:x∈ks):(ju b ks).set (ks.idxOf x) (.list<|mx<|posOf x b++[U b])=ju (b++[x]) ks:=by
 apply xc;intro i;refine D (J.getElem?_set)<|D (c7) (D (c7) (D (bg _) ?_));have bJ:=DK.mpr hx;split
 ·next h=>
  subst h;rw[bO bJ,DR bJ,vG,B5,aU rfl]
 ·next h=>
  cases hk:ks[i]? with
  |none=>rfl
  |some y=>
   have cw:x≠y:=λe=>by
    subst e;have G:=(cJ.mp hk).1;have h2:=(cJ.mp hk).2;apply h;exact bL h2<|D3 hn _ G
   rw[vG,vG,B5,aE cw]
theorem acO{ks:J (J B)}(hx:x∉ks)(hb:x∉b):ju b ks++[.list<|mx [U b]]=ju (b++[x]) (ks++[x]):=by
 unfold ju;rw[eL,eu,pJ,B5,aU rfl,Pc hb];refine bB (· ++_) ?_
 apply rU;intro y hy;rw[B5,aE (λ(e:x=y)=>hx<|e▸hy)]
noncomputable def sR:J (ao×V):=[("fullbcount",.none),("opcodes",.none),("matching_blocks",.none),("b",.ref 1),("a",.ref 0),("autojunk",.bool true),("isjunk",.none)]
noncomputable def rt:J (ao×V):=("b2j",.ref 4)::sR
noncomputable def jJ(m:B):J (ao×V):=("bpopular",.ref<|6+m)::("bjunk",.ref<|5+m)::rt
noncomputable def lO(f u b:J<|J B):J O:=[.list<|aw f,.list<|aw u,.attrs rt,.inst 242 2,.fe<|jI 5<|keysOf b]++ju b (keysOf b)
theorem sS(f u b:J<|J B):U (lO f u b)=5+U (keysOf b):=by
 exact D aK<|D (bg _) rfl
theorem Pe{l:J B}:V.ff g (mx l)=true:=oY λH=>rfl
theorem acP(f u b:J<|J B):gC (lO f u b):=by
 intro o ho;rw[sS];rcases bK.mp ho with h|h
 ·simp only[cu,g8,rY] at h;rcases h with rfl|rfl|rfl|rfl|rfl
  ·exact eZ
  ·exact eZ
  ·show(rt.all λp=>p.2.bG λk=>decide (k<5+U (keysOf b)))=true;simp only[rt,sR,oB,xj,V.ut,V.NZ,V.N7,lF,xz,gS,ip];exact W5
  ·exact dG W4
  ·exact GX _ _ _<|aG _
 ·refine aH (fb.mp h) λx H av=>?_
  subst av;exact Pe
theorem acQ(b:J<|J B):U (keysOf b)<=U b:=by
 suffices ∀(b ks:J<|J B),U (b.foldl (λks x=>if ks.contains x then ks else ks++[x]) ks)<=U ks+U b by
  have:=this b [];simpa[keysOf] using this
 intro b
 induction b with
 |nil=>intro ks;simp
 |cons y b ih=>
  intro ks;refine D l6 ?_
  have:=ih (if ks.contains y then ks else ks++[y]);have h2:U (if ks.contains y then ks else ks++[y])<=U ks+1:=by split<;>simp
  exact D cK<|W3 h2 this
theorem Pf(x:J B)(b:J<|J B):U (posOf x b)<=U b:=by
 have:=pF (λi=>b[i]?==some x)<|eD<|U b;rwa [gO] at this
end
end Mine
namespace Mine
section
variable{j i aq au aJ aS:B}{P:B->B->Prop}{s:B×B×B}{b a:J (J B)}{l:J (B×B×B)}
section
variable(a b:J<|J B)(aq aS au aJ:B)
noncomputable def Ok(i j:B):Prop:=aq<=i/\au<=j/\i<U a/\a[i]?=b[j]?
noncomputable instance(i j:B):Ai (Ok a b aq au i j):=inferInstanceAs<|Ai<|_/\_/\_/\_
noncomputable def run:B->B->B
 |0,j=>if Ok a b aq au 0 j then 1 else 0
 |i+1,0=>if Ok a b aq au (i+1) 0 then 1 else 0
 |i+1,j+1=>if Ok a b aq au (i+1) (j+1) then run i j+1 else 0
theorem Pg(h:Ok a b aq au 0 j):run a b aq au 0 j=1:=aU h
theorem GY(h:Ok a b aq au (i+1) 0):run a b aq au (i+1) 0=1:=aU h
theorem yE(h:Ok a b aq au (i+1)<|j+1):run a b aq au (i+1) (j+1)=run a b aq au i j+1:=aU h
theorem GZ(h:Ok a b aq au i j):0<run a b aq au i j:=by
 cases i with
 |zero=>exact D (Pg a b aq au h) B.one_pos
 |succ i=>cases j with
  |zero=>exact D (GY a b aq au h) B.one_pos
  |succ j=>exact D (yE a b aq au h)<|rZ _
theorem B7(h:¬Ok a b aq au i j):run a b aq au i j=0:=by
 cases i with
 |zero=>exact aE h
 |succ i=>cases j with
  |zero=>exact aE h
  |succ j=>exact aE h
theorem Ph{c:Prop}[Ai c]{t:B}(h:t+1<if c then 1 else 0):c8:=Ak (pK 1 t)<|oC h<|E4 (p:=(· <=1)) (aG 1)<|bH 1
theorem B8:∀(i j t:B),t<run a b aq au i j->t<=i/\t<=j/\Ok a b aq au (i-t) (j-t)
 |i,j,0=>λh=>⟨bH _,bH _,by
  by_cases ho:Ok a b aq au i j
  ·exact ho
  ·simp only[B7 a b aq au ho] at h;cases h⟩
 |0,j,t+1=>λh=>(Ph h).elim
 |i+1,0,t+1=>λh=>(Ph h).elim
 |i+1,j+1,t+1=>λh=>by
  by_cases ho:Ok a b aq au (i+1) (j+1)
  ·rw[yE a b aq au ho] at h;have:=B8 i j t<|LJ h;simp only[Aj,Aj];exact⟨by exact AO this.1,by exact AO this.2.1,this.2.2⟩
  ·rw[B7 a b aq au ho] at h;exact nomatch h
theorem Pi:∀(k i j:B),(∀t,t<k->t<=i/\t<=j/\Ok a b aq au (i-t) (j-t))->k<=run a b aq au i j
 |0,_,_=>λH=>bH _
 |k+1,0,j=>λh=>by
  have h0:=(h 0<|rZ _).2.2;have G:k=0:=by
   by_cases hk:k=0
   ·exact hk
   ·have:=(h 1<|LX hk).1;exact aZ ‹_› (jg _)
  subst G;exact GZ a b aq au h0
 |k+1,i+1,0=>λh=>by
  have h0:=(h 0<|rZ _).2.2;have G:k=0:=by
   by_cases hk:k=0
   ·exact hk
   ·have:=(h 1<|LX hk).2.1;exact aZ ‹_› (jg _)
  subst G;exact GZ a b aq au h0
 |k+1,i+1,j+1=>λh=>by
  have h0:=(h 0<|rZ _).2.2;rw[yE a b aq au h0];have:=Pi k i j λt ht=>by
   have:=h (t+1)<|T8 ht;rw[Aj,Aj] at this;exact⟨by exact LW this.1,by exact LW this.2.1,this.2.2⟩
  exact AO this
noncomputable def ru(i:B)(s:B×B×B)(j:B):B×B×B:=
 if s.2.2<run a b aq au i j then(i+1-run a b aq au i j,j+1-run a b aq au i j,run a b aq au i j) else s
noncomputable def cols(i:B):J B:=match a[i]? with
 |some x=>(posOf x b).filter λj=>decide (au<=j)&&decide (j<aJ)
 |none=>[]
noncomputable def sT(s:B×B×B)(i:B):B×B×B:=(cols a b au aJ i).foldl (ru a b aq au i) s
noncomputable def jK:B×B×B:=(fk aq<|aS-aq).foldl (sT a b aq au aJ) (aq,au,0)
structure m9(P:B->B->Prop)(s:B×B×B):Prop where
 zero:s.2.2=0->s=(aq,au,0)
 here:0<s.2.2->P (s.1+s.2.2-1) (s.2.1+s.2.2-1)/\run a b aq au (s.1+s.2.2-1) (s.2.1+s.2.2-1)=s.2.2
 max:∀i j,P i j->run a b aq au i j<=s.2.2
 first:∀i j,P i j->0<s.2.2->run a b aq au i j=s.2.2->s.1+s.2.2-1<i\/(s.1+s.2.2-1=i/\s.2.1+s.2.2-1<=j)
variable{a b aq aS au aJ}
theorem m9.step(h:m9 a b aq au P s)(acR:∀i' j',P i' j'->i'<i\/(i'=i/\j'<j)):
  m9 a b aq au (λi' j'=>P i' j'\/(i'=i/\j'=j)) (ru a b aq au i s j):=by
 obtain⟨bi,bj,bs⟩:=s;obtain⟨G,h2,h3,h4⟩:=h;dsimp only at G h2 h3 h4;have hle:run a b aq au i j<=i+1/\run a b aq au i j<=j+1:=by
  by_cases h0:run a b aq au i j=0
  ·exact T7 h0
  ·have:=B8 a b aq au i j (run a b aq au i j-1)<|T6 h0;exact T5 this.1 this.2.1
 unfold ru;split
 ·next hk=>
  have e1:i+1-run a b aq au i j+run a b aq au i j-1=i:=by exact T4 hle
  have e2:j+1-run a b aq au i j+run a b aq au i j-1=j:=by exact T3 hle
  refine⟨λe=>?_,λH=>?_,λi' j' hp=>?_,λi' j' hp H hr=>?_⟩<;>dsimp only at*
  ·exact(LV hk e).elim
  ·exact D e1<|D e2<|⟨.inr ⟨rfl,rfl⟩,rfl⟩
  ·rcases hp with hp|⟨rfl,rfl⟩
   ·have:=h3 i' j' hp;exact cY ‹_› (lz ‹_›)
   ·exact aG _
  ·simp only[e1,e2];rcases hp with hp|⟨rfl,rfl⟩
   ·have:=h3 i' j' hp;exact T0 hk hr this
   ·exact .inr ⟨rfl,aG _⟩
 ·next hk=>
  refine⟨G,λh=>?_,λi' j' hp=>?_,λi' j' hp h0 hr=>?_⟩<;>dsimp only at*
  ·exact⟨.inl (h2 h).1,(h2 h).2⟩
  ·rcases hp with hp|⟨rfl,rfl⟩
   ·exact h3 i' j' hp
   ·exact iS ‹_›
  ·rcases hp with hp|⟨rfl,rfl⟩
   ·exact h4 i' j' hp h0 hr
   ·have:=acR _ _ (h2 h0).1;exact TZ this
theorem m9.congr{P':B->B->Prop}(h:m9 a b aq au P s)(hp:∀i j,P i j↔P' i j):m9 a b aq au P' s:=
 ⟨h.zero,λh0=>⟨(hp _ _).mp (h.here h0).1,(h.here h0).2⟩,λi j q=>h.max i j<|(hp i j).mpr q,λi j q=>h.first i j ((hp i j).mpr q)⟩
theorem m9.cols{i:B}:∀(l:J B) {P:B->B->Prop} {s:B×B×B},m9 a b aq au P s->l.Pairwise (· < ·)->(∀i' j',P i' j'->i'<i\/(i'=i/\∀j∈l,j'<j))->
  m9 a b aq au (λi' j'=>P i' j'\/(i'=i/\j'∈l)) (l.foldl (ru a b aq au i) s)
 | [],P,s,h,_,_=>h.congr λi' j'=>by simp
 |j::l,P,s,h,hs,hl=>by
  refine D l6 ?_
  obtain⟨G,h2⟩:=Ab.mp hs
  have:=m9.cols (i:=i) l (h.step (i:=i) (j:=j) λi' j' hp=>(hl i' j' hp).imp id λ⟨e,q⟩=>⟨e,q j (vB ..)⟩) h2 (by
   rintro i' j' (hp|⟨rfl,rfl⟩)
   ·exact(hl i' j' hp).imp id λ⟨e,q⟩=>⟨e,λG0 hj=>q G0<|vA _ hj⟩
   ·exact .inr ⟨rfl,λG0 hj=>G G0 hj⟩)
  refine this.congr λi' j'=>?_
  rw[cu];constructor
  ·rintro((h|⟨h,h'⟩)|⟨h,h'⟩)
   ·exact .inl h
   ·exact .inr ⟨h,.inl h'⟩
   ·exact .inr ⟨h,.inr h'⟩
  ·rintro(h|⟨h,h'|h'⟩)
   ·exact .inl<|.inl h
   ·exact .inl<|.inr ⟨h,h'⟩
   ·exact .inr ⟨h,h'⟩
theorem G3{x:J B}:j∈posOf x b↔b[j]?=some x:=by
 unfold posOf;simp only[rW,rX];constructor
 ·intro ⟨_,h⟩;exact eq_of_beq h
 ·intro h;exact⟨(cJ.mp h).1,by refine D h ?_;exact xm _⟩
theorem Pj(x:J B)(b:J<|J B):(posOf x b).Pairwise (· < ·):=J8 _ J.pairwise_lt_range
theorem acS(i:B):(cols a b au aJ i).Pairwise (· < ·):=by
 unfold cols;split
 ·exact J8 _<|Pj _ _
 ·exact J.Pairwise.nil
theorem yG:j∈cols a b au aJ i↔au<=j/\j<aJ/\i<U a/\a[i]?=b[j]?:=by
 unfold cols;cases h:a[i]? with
 |none=>
  have:=ou.mp h;simp only[g8,false_iff];lia
 |some x=>
  have:=(cJ.mp h).1;simp only[rW,G3,gS,ip];constructor
  ·intro ⟨G,h2,h3⟩;exact⟨h2,h3,this,G.symm⟩
  ·intro ⟨G,h2,_,h3⟩;exact⟨h3.symm,G,h2⟩
structure j8(a b:J<|J B)(aq aS au aJ:B)(s:B×B×B):Prop where
 lo1:aq<=s.1
 pb:s.1+s.2.2<=max aq aS
 lP:au<=s.2.1
 jv:s.2.1+s.2.2<=max au aJ
 eq:∀t,t<s.2.2->s.1+t<U a/\a[s.1+t]?=b[s.2.1+t]?
 zero:s.2.2=0->s=(aq,au,0)
 max:∀i j k,aq<=i->i+k<=aS->au<=j->j+k<=aJ->(∀t,t<k->i+t<U a/\a[i+t]?=b[j+t]?)->k<=s.2.2
 first:∀i j,aq<=i->i+s.2.2<=aS->au<=j->j+s.2.2<=aJ->0<s.2.2->(∀t,t<s.2.2->i+t<U a/\a[i+t]?=b[j+t]?)->s.1<i\/(s.1=i/\s.2.1<=j)
theorem Pk:∀(n:B),m9 a b aq au (λi j=>aq<=i/\i<aq+n/\j∈cols a b au aJ i)<|(fk aq n).foldl (sT a b aq au aJ) (aq,au,0)
 |0=>⟨λH=>rfl,λh=>aZ h<|jg _,λi j h=>by exact TY h.2.1 h.1,λi j h=>by exact TX h.2.1 h.1⟩
 |n+1=>by
  simp only[JM,jS,l6,JX,Ao];have h:=Pk n;have:=m9.cols (i:=aq+n) (cols a b au aJ<|aq+n) h (acS _) λi' j' hp=>.inl hp.2.1;refine this.congr λi j=>?_
  constructor
  ·rintro(⟨G,h2,h3⟩|⟨rfl,h3⟩)
   ·exact⟨G,by exact Ki ‹_›,h3⟩
   ·exact⟨by exact dZ _ _,by exact tO _,h3⟩
  ·intro ⟨G,h2,h3⟩
   by_cases e:i=aq+n
   ·exact .inr ⟨e,e▸h3⟩
   ·exact .inl ⟨G,by exact TU h2 e,h3⟩
theorem acT(h:m9 a b aq au (λi j=>aq<=i/\i<aq+(aS-aq)/\j∈cols a b au aJ i) s):j8 a b aq aS au aJ s:=by
 obtain⟨bi,bj,bs⟩:=s;obtain⟨G,h2,h3,h4⟩:=h;dsimp only at G h2 h3 h4;have G4:∀i j k,0<k->aq<=i->i+k<=aS->au<=j->j+k<=aJ->(∀t,t<k->i+t<U a/\a[i+t]?=b[j+t]?)->
   (aq<=i+k-1/\i+k-1<aq+(aS-aq)/\j+k-1∈cols a b au aJ (i+k-1))/\k<=run a b aq au (i+k-1) (j+k-1):=λi j k h0 q1 q2 q3 q4 q5=>by
  have e:=q5 (k-1)<|xP h0;rw[show i+(k-1)=i+k-1 by exact LU h0,show j+(k-1)=j+k-1 by exact LU h0] at e;refine⟨⟨by exact LS h0 q1,by exact TR h0 q2,yG.mpr ⟨by exact LS h0 q3,by exact TQ h0 q4,e.1,e.2⟩⟩,Pi a b aq au k _ _ λt ht=>⟨by exact LR ht,by exact LR ht,by exact LQ ht q1,by exact LQ ht q3,?_⟩⟩;have e:=q5 (k-1-t)<|TP ht;rw[show i+(k-1-t)=i+k-1-t by exact LO ht,show j+(k-1-t)=j+k-1-t by exact LO ht] at e;exact e
 by_cases h0:bs=0
 ·refine D (G h0) ?_
  refine⟨aG _,Kn ..,aG _,Kn ..,λt ht=>aZ ht<|Al _,λH=>rfl,λi j k q1 q2 q3 q4 q5=>?_,λi j H H H H q=>aZ q<|jg _⟩
  by_cases hk:k=0
  ·exact D hk<|aG _
  ·have:=G4 i j k (by exact vH ‹_›) q1 q2 q3 q4 q5;exact cY this.2<|h0▸h3 _ _ this.1
 ·have oW:0<bs:=by exact vH ‹_›
  obtain⟨⟨p1,p2,p3⟩,p4⟩:=h2 oW;refine gg (yG.mp p3) λc1 c2 c3 c4=>?_
  have back:=B8 a b aq au (bi+bs-1)<|bj+bs-1;have first:=back (bs-1)<|TO oW p4
  refine q9 first λb1 b2 b3 b4 b5 b6=>?_
  refine⟨?_,?_,?_,?_,λt ht=>?_,λe=>aZ e h0,λi j k q1 q2 q3 q4 q5=>?_,λi j q1 q2 q3 q4 H q5=>?_⟩<;>dsimp only at*
  ·exact LN b3
  ·have:=Kk aq aS;exact TN p2
  ·exact LN b4
  ·have:=Kk au aJ;exact TM c2
  ·refine q9 (back (bs-1-t)<|TK ht p4) λr1 r2 r3 r4 r5 r6=>?_
   simp only[show bi+bs-1-(bs-1-t)=bi+t by exact LM ht] at r5 r6;rw[show bj+bs-1-(bs-1-t)=bj+t by exact LM ht] at r6;exact⟨r5,r6⟩
  ·by_cases hk:k=0
   ·exact D hk<|bH _
   ·have:=G4 i j k (by exact vH ‹_›) q1 q2 q3 q4 q5;exact cY this.2<|h3 _ _ this.1
  ·have:=G4 i j bs oW q1 q2 q3 q4 q5;have hm:=h3 _ _ this.1;have:=h4 _ _ this.1 oW<|LL this.2 hm;exact TJ oW this
theorem qi:j8 a b aq aS au aJ (jK a b aq aS au aJ):=acT<|Pk<|aS-aq
theorem j8.unique{s':B×B×B}(h:j8 a b aq aS au aJ s)(h':j8 a b aq aS au aJ s'):s=s':=by
 have size:∀{s s':B×B×B},j8 a b aq aS au aJ s->j8 a b aq aS au aJ s'->s.2.2<=s'.2.2:=λ{s s'} h h'=>by
  by_cases h0:s.2.2=0
  ·exact AN h0
  ·have:=h.lo1;have:=h.pb;have:=h.lP;have:=h.jv;exact h'.max s.1 s.2.1 s.2.2 h.lo1 (by lia) h.lP (by lia) h.eq
 have e:s.2.2=s'.2.2:=D8 (size h h')<|size h' h
 by_cases h0:s.2.2=0
 ·simp only[h.zero h0,h'.zero<|TH h0 e]
 ·have:=h.lo1;have:=h.pb;have:=h.lP;have:=h.jv;have:=h'.lo1;have:=h'.pb;have:=h'.lP;have:=h'.jv;have f1:=h.first s'.1 s'.2.1 h'.lo1 (by lia) h'.lP (by lia) (by exact vH ‹_›) (by exact D e<|h'.eq);have f2:=h'.first s.1 s.2.1 h.lo1 (by lia) h.lP (by lia) (TG h0 e) (by exact bL e<|h.eq);obtain⟨x,y,z⟩:=s;obtain⟨x',y',z'⟩:=s';dsimp only at*;have:x=x':=by exact TF f1 f2
  have:y=y':=by exact TE f1 f2
  subst_vars;rfl
theorem j8.after(h:j8 a b aq aS au aJ s)(G:s.1+s.2.2<aS)(h2:s.2.1+s.2.2<aJ)(hl:s.1+s.2.2<U a):a[s.1+s.2.2]?≠b[s.2.1+s.2.2]?:=λe=>by
 have:=h.max s.1 s.2.1 (s.2.2+1) h.lo1 ‹_› h.lP ‹_› (λt ht=>by
  by_cases q:t<s.2.2
  ·exact h.eq t q
  ·have:t=s.2.2:=by exact Fd ht q
   subst this;exact⟨hl,e⟩)
 exact aZ ‹_› (jg _)
theorem j8.before(h:j8 a b aq aS au aJ s)(G:aq<s.1)(h2:au<s.2.1)(hl:s.1<=U a):a[s.1-1]?≠b[s.2.1-1]?:=λe=>by
 have hz:s.2.2≠0:=λz=>by have:=h.zero z;replace G:=this▸G;exact aZ G<|jg _
 have:=h.pb;have:=h.jv;have:=h.lo1;have:=h.lP
 have:=h.max (s.1-1) (s.2.1-1) (s.2.2+1) (LK G) (by lia) (LK h2) (by lia) (λt ht=>by
  cases t with
  |zero=>exact⟨by exact TD G hl,e⟩
  |succ t=>
   have:=h.eq t<|LJ ht;simp only[show s.1-1+(t+1)=s.1+t by exact LI G,show s.2.1-1+(t+1)=s.2.1+t by exact LI h2]
   exact this)
 exact aZ ‹_› (jg _)
end
section
variable(a b:J<|J B)(aq aS au aJ:B)
noncomputable def ja(i:B)(l:J B):J (az×V):=l.map λ(j:B)=>((j:az),V.int (run a b aq au i j:B))
noncomputable def kD(i:B):J (az×V):=if i<=aq then[] else ja a b aq au (i-1)<|cols a b au aJ<|i-1
end
theorem G5{aiC:B->V}:∀(l:J B) (z:B),(l.map λ(j:B)=>((j:az),aiC j)).lookup (z:az)=if z∈l then some (aiC z) else aA
 | []=>λz=>rfl
 |j::l=>λz=>by
  refine D eu<|D gv<|D (G5 l z) ?_
  by_cases h:z=j
  ·subst h;simp
  ·have:((z:az)==(j:az))=false:=by rw[xl];lia
   refine D this ?_;simp[h]
theorem Pl{aiC:B->V}{z:az}(hz:z<0):∀(l:J B),(l.map λ(j:B)=>((j:az),aiC j)).lookup z=aA
 | []=>rfl
 |j::l=>by
  refine D eu<|D gv<|D (Pl hz l) ?_;have:(z==(j:az))=false:=by simp;lia
  exact D this rfl
theorem acU(hi:aq<=i)(hj:j∈cols a b au aJ i):
  ((kD a b aq au aJ i).lookup<|(j:az)-1).getD (.int 0)= .int ((run a b aq au i j:B)-1):=by
 refine gg (yG.mp hj) λc1 c2 c3 c4=>?_
 have ho:Ok a b aq au i j:=⟨hi,c1,c3,c4⟩
 unfold kD;cases i with
 |zero=>
  exact D (aU<|bH _)<|D (Pg a b aq au ho) rfl
 |succ i=>
  by_cases h:i+1<=aq
  ·refine D (aU h) ?_
   cases j with
   |zero=>exact D (GY a b aq au ho) rfl
   |succ j=>
    rw[yE a b aq au ho,B7 a b aq au (λq=>by have:=q.1;exact Vo h this)];rfl
  ·rw[aE h,D6];unfold ja;cases j with
   |zero=>rw[Pl (z:=((0:B):az)-1) (by decide),GY a b aq au ho];rfl
   |succ j=>
    rw[show(((j+1:B):az)-1)=(j:az) by lia,G5,yE a b aq au ho];split
    ·show V.int _=_;congr 1;lia
    ·next hn=>
     exact D (B7 a b aq au λq=>hn<|yG.mpr ⟨q.2.1,by exact lz ‹_›,q.2.2.1,q.2.2.2⟩) rfl
noncomputable def k7(au aJ:B)(l:J B):J B:=l.filter λj=>decide (au<=j)&&decide (j<aJ)
theorem acV(au aJ:B)(l:J B)(j:B):k7 au aJ (l++[j])=if au<=j/\j<aJ then k7 au aJ l++[j] else k7 au aJ l:=by
 unfold k7;refine D (xb _ _) ?_
 by_cases h:au<=j/\j<aJ
 ·refine D (aU h) ?_;simp[h.1,h.2]
 ·refine D (aE h) ?_
  have:(decide (au<=j)&&decide (j<aJ))=false:=by
   rw[KA];intro e;rw[gS,ip,ip] at e;exact h e
  simp[this]
theorem acW{l:J B}(hs:l.Pairwise (· < ·)){t:B}(hj:l[t]?=some j)(h:aJ<=j):k7 au aJ l=k7 au aJ (l.take t):=by
 unfold k7
 conv=>lhs;rw[←rR t l]
 rw[xb];have:(l.drop t).filter (λj=>decide (au<=j)&&decide (j<aJ))=[]:=by
  rw[Jz];intro x hx e;rw[gS,ip,ip] at e;obtain⟨i,hi,rfl⟩:=mF hx;rw[J.getElem_drop] at e;obtain⟨ht,rfl⟩:=cJ.mp hj
  by_cases hz:i=0
  ·subst hz;simp only[jy] at e;exact Vn h e
  ·have:=(DJ.mp hs) t (t+i) ht (by rw[kO] at hi;exact Fg hi)<|Vm hz;exact Vl this h e
 rw[this,cM]
theorem cols_eq{x:J B}(h:a[i]?=some x):cols a b au aJ i=k7 au aJ (posOf x b):=by
 unfold cols k7;exact D h rfl
theorem acX{l:J B}(hs:l.Pairwise (· < ·)){t:B}(hj:l[t]?=some j):j∉k7 au aJ (l.take t):=by
 intro h;have h:=(rW.mp h).1;obtain⟨i,hi,e⟩:=mF h;rw[J.getElem_take] at e;rw[gE] at hi;obtain⟨ht,rfl⟩:=cJ.mp hj;have:=(DJ.mp hs) i t (Vk hi) ht<|Vj hi;exact Vi this e
inductive gI(a b:J<|J B):B->B->B->B->J (B×B×B)->Prop
 |none {aq aS au aJ:B} (h:(jK a b aq aS au aJ).2.2=0):gI a b aq aS au aJ []
 |some {aq aS au aJ i j k:B} {l r:J (B×B×B)} (h:jK a b aq aS au aJ=(i,j,k)) (hk:0<k) (hl:gI a b aq i au j l) (hr:gI a b (i+k) aS (j+k) aJ r):gI a b aq aS au aJ (l++(i,j,k)::r)
theorem B9(h:aS<=aq\/aJ<=au):(jK a b aq aS au aJ).2.2=0:=by
 have:=(qi (a:=a) (b:=b) (aq:=aq) (aS:=aS) (au:=au) (aJ:=aJ))
 have G:=this.pb;have h2:=this.jv;have h3:=this.lo1;have h4:=this.lP;exact Wg G h2 h3 h4 h
theorem gI.Ca(a b:J<|J B):∀(m aq aS au aJ:B),aS-aq<=m->∃l,gI a b aq aS au aJ l
 |m,aq,aS,au,aJ,hm=>by
  by_cases h0:(jK a b aq aS au aJ).2.2=0
  ·exact⟨[],.none h0⟩
  ·have aix:=(qi (a:=a) (b:=b) (aq:=aq) (aS:=aS) (au:=au) (aJ:=aJ))
   have G:=aix.pb;have h2:=aix.jv;have h3:=aix.lo1;have h4:=aix.lP;cases hf:jK a b aq aS au aJ with
   |mk i jk=>
    obtain⟨j,k⟩:=jk;rw[hf] at h0 G h2 h3 h4;dsimp only at h0 G h2 h3 h4;cases m with
    |zero=>exact(Wf G hm h0 h3).elim
    |succ m=>
     obtain⟨l,hl⟩:=gI.Ca a b m aq i au j<|We G hm h0;obtain⟨r,hr⟩:=gI.Ca a b m (i+k) aS (j+k) aJ<|Wc hm h0 h3;exact⟨_,.some hf (by exact vH ‹_›) hl hr⟩
theorem gI.unique{l':J (B×B×B)}(h:gI a b aq aS au aJ l)(h':gI a b aq aS au aJ l'):l=l':=by
 induction h generalizing l' with
 |none h=>
  cases h' with
  |none _=>rfl
  |some G hk _ _=>rw[G] at h;exact aZ h (by dsimp only;exact kl ‹_›)
 |some h hk _ _ il ir=>
  cases h' with
  |none G=>rw[h] at G;exact aZ G (by dsimp only;exact kl ‹_›)
  |some G gm nc qj=>
   rw[h] at G;cases G;rw[il nc,ir qj]
theorem gI.inside(h:gI a b aq aS au aJ l):
  ∀s∈l,aq<=s.1/\s.1+s.2.2<=aS/\au<=s.2.1/\s.2.1+s.2.2<=aJ/\0<s.2.2/\∀t,t<s.2.2->s.1+t<U a/\a[s.1+t]?=b[s.2.1+t]?:=by
 induction h with
 |none _=>intro s hs;cases hs
 |@some aq aS au aJ i j k l r hf hk _ _ il ir=>
  have aix:=(qi (a:=a) (b:=b) (aq:=aq) (aS:=aS) (au:=au) (aJ:=aJ))
  rw[hf] at aix;have G:=aix.pb;have h2:=aix.jv;have h3:=aix.lo1;have h4:=aix.lP;have h5:=aix.eq;dsimp only at G h2 h3 h4 h5;intro s hs;rcases bK.mp hs with hs|hs
  ·exact q9 (il s hs) λq1 q2 q3 q4 q5 q6=>(⟨q1,by exact MO q5 G q2 q1,q3,by exact MO q5 h2 q4 q3,q5,q6⟩)
  ·rcases cu.mp hs with rfl|hs
   ·exact⟨h3,by dsimp only;exact MN hk G h3,h4,by dsimp only;exact MN hk h2 h4,hk,h5⟩
   ·exact q9 (ir s hs) λq1 q2 q3 q4 q5 q6=>(⟨by exact MM q1 h3,q2,by exact MM q3 h4,q4,q5,q6⟩)
theorem gI.sorted(h:gI a b aq aS au aJ l):l.Pairwise (λs s'=>s.1+s.2.2<=s'.1/\s.2.1+s.2.2<=s'.2.1):=by
 induction h with
 |none _=>exact .nil
 |@some aq aS au aJ i j k l r hf hk hl hr il ir=>
  have L:=hl.inside;have R:=hr.inside;refine w9.mpr ⟨il,Ab.mpr ⟨λs hs=>?_,ir⟩,λs hs s' n6=>?_⟩
  ·exact q9 (R s hs) λq1 q2 q3 q4 q5 q6=>(⟨q1,q3⟩)
  ·refine q9 (L s hs) λq1 q2 q3 q4 q5 q6=>?_
   rcases cu.mp n6 with rfl|n6
   ·exact⟨q2,q4⟩
   ·exact q9 (R s' n6) λp1 p2 p3 p4 p5 p6=>(⟨by exact ML q2 p1,by exact ML q4 p3⟩)
noncomputable def ng(a b:J<|J B)(q:B×B×B×B):J (B×B×B):=Classical.choose<|gI.Ca a b _ q.1 q.2.1 q.2.2.1 q.2.2.2<|aG _
theorem rv(a b:J<|J B)(q:B×B×B×B):gI a b q.1 q.2.1 q.2.2.1 q.2.2.2 (ng a b q):=KZ<|gI.Ca a b _ q.1 q.2.1 q.2.2.1 q.2.2.2<|aG _
theorem acY(h:aS<=aq\/aJ<=au):ng a b (aq,aS,au,aJ)=[]:=
 gI.unique (rv a b (aq,aS,au,aJ)) (.none<|B9 h)
theorem acZ(h:(jK a b aq aS au aJ).2.2=0):ng a b (aq,aS,au,aJ)=[]:=
 gI.unique (rv a b (aq,aS,au,aJ)) (.none h)
theorem ac0{k:B}(h:jK a b aq aS au aJ=(i,j,k))(hk:0<k):
  ng a b (aq,aS,au,aJ)=ng a b (aq,i,au,j)++(i,j,k)::ng a b (i+k,aS,j+k,aJ):=
 gI.unique (rv a b (aq,aS,au,aJ)) (.some h hk (rv a b (aq,i,au,j))<|rv a b (i+k,aS,j+k,aJ))
noncomputable def my(s:(B×B×B)×J (B×B×B)):J (B×B×B):=if s.1.2.2=0 then s.2 else s.2++[s.1]
noncomputable def nh(s:(B×B×B)×J (B×B×B))(b:B×B×B):(B×B×B)×J (B×B×B):=
 if s.1.1+s.1.2.2=b.1/\s.1.2.1+s.1.2.2=b.2.1 then((s.1.1,s.1.2.1,s.1.2.2+b.2.2),s.2) else(b,my s)
noncomputable def pc(bs:J<|B×B×B):J (B×B×B):=my<|bs.foldl nh ((0,0,0),[])
noncomputable def dU(f u:J<|J B):J (B×B×B):=ng f u (0,U f,0,U u)
noncomputable def gn(f u:J<|J B):J (B×B×B):=pc (dU f u)++[(U f,U u,0)]
theorem Cb:∀(bs:J<|B×B×B) (s:(B×B×B)×J (B×B×B)),(bs.foldl nh s).2.length<=U s.2+U bs
 | []=>λs=>aG _
 |b::bs=>λs=>by
  refine cY (Cb bs _) ?_
  have:(nh s b).2.length<=U s.2+1:=by
   unfold nh my;split
   ·exact eM _
   ·dsimp only;split
    ·exact eM _
    ·rw[aK];exact aG _
  simp only[cK];exact WX this
theorem Pm:∀(l:J<|B×B×B) (lo n:B),(l.Pairwise λs s'=>s.1<s'.1)->(∀s∈l,lo<=s.1/\s.1<n)->U l<=n-lo
 | []=>λlo n H H=>bH _
 |s::l=>λlo n hp hb=>by
  obtain⟨G,h2⟩:=Ab.mp hp;have hs:=hb s<|vB ..;have:=Pm l (s.1+1) n h2 λt ht=>⟨G t ht,(hb t<|vA _ ht).2⟩
  simp only[cK];exact WW this hs
theorem Pn(f u:J<|J B):(dU f u).Pairwise λs s'=>s.1<s'.1:=by
 have h:=rv f u (0,U f,0,U u);refine J.Pairwise.imp_of_mem (λ{s t} hs ht gX=>?_) h.sorted;have:=h.inside s hs;exact WV this.2.2.2.2.1 gX
theorem G6(f u:J<|J B):U (dU f u)<=U f:=by
 have h:=rv f u (0,U f,0,U u);have:=Pm (dU f u) 0 (U f) (Pn f u) λs hs=>by
  have:=h.inside s hs;dsimp only at this;exact WU this.2.2.2.2.1 this.2.1
 assumption
end
end Mine
namespace Mine
open PySem PyProof.Rows
section
variable{n:B}{rows:J (J B)}{C:Cx}{st am:St}{x y z:J B}{ρ:J ax}{s:ay}{acc:J V}
noncomputable def lQ:B->ao
 |0=>"equal"
 |1=>"replace"
 |2=>"delete"
 |_=>"insert"
noncomputable abbrev b8:=B×B×B×B×B
noncomputable def h8(i ai j bj:B):J b8:=if i<ai then(if j<bj then[(1,i,ai,j,bj)] else[(2,i,ai,j,bj)]) else if j<bj then[(3,i,ai,j,bj)] else[]
noncomputable def k8(b:B×B×B):J b8:=if b.2.2=0 then[] else[(0,b.1,b.1+b.2.2,b.2.1,b.2.1+b.2.2)]
noncomputable def rx(s:(B×B)×J b8)(b:B×B×B):(B×B)×J b8:=((b.1+b.2.2,b.2.1+b.2.2),s.2++h8 s.1.1 b.1 s.1.2 b.2.1++k8 b)
noncomputable def fH(f u:J<|J B):J b8:=((gn f u).foldl rx ((0,0),[])).2
theorem G7:∀(bs:J<|B×B×B) (s:(B×B)×J b8),(bs.foldl rx s).2.length<=U s.2+2*U bs
 | []=>λs=>aG _
 |b::bs=>λs=>by
  refine cY (G7 bs _) ?_
  have G:U (h8 s.1.1 b.1 s.1.2 b.2.1)<=1:=by unfold h8;(repeat' split)<;>simp
  have h2:U (k8 b)<=1:=by unfold k8;split<;>simp
  have:(rx s b).2.length<=U s.2+2:=by
   unfold rx;simp only[aK];exact W1 G h2
  simp only[cK];exact W0 this
theorem Po(f u:J<|J B):U (gn f u)<=U f+2:=by
 have G:=Cb (dU f u) ((0,0,0),[]);have h2:=G6 f u;simp only[iR] at G;unfold gn pc my;refine D aK ?_
 show _+1<=_;split
 ·exact WZ G h2
 ·exact D aK<|WY G h2
noncomputable def mz(n:B)(o:b8):b8:=(o.1,max o.2.1<|o.2.2.1-n,o.2.2.1,max o.2.2.2.1<|o.2.2.2.2-n,o.2.2.2.2)
noncomputable def jL(n:B)(o:b8):b8:=(o.1,o.2.1,min o.2.2.1<|o.2.1+n,o.2.2.2.1,min o.2.2.2.2<|o.2.2.2.1+n)
noncomputable def ni(n:B):J b8->J b8
 | []=>[]
 |o::l=>(if o.1=0 then mz n o else o)::l
noncomputable def kE(n:B):J b8->J b8
 | []=>[]
 | [o]=>[if o.1=0 then jL n o else o]
 |o::o'::l=>o::kE n (o'::l)
noncomputable def codes(f u:J<|J B)(n:B):J b8:=kE n (ni n<|if(fH f u)=[] then[(0,0,1,0,1)] else fH f u)
noncomputable def jM(n:B):J b8->J b8->J (J b8)
 |cG,[]=>if cG=[]\/(U cG=1/\(cG.headD (0,0,0,0,0)).1=0) then[] else[cG]
 |cG,o::l=>if o.1=0/\o.2.1+(n+n)<o.2.2.1 then(cG++[jL n o])::jM n [mz n o] l else jM n (cG++[o]) l
theorem Pp{cG:J b8}:jM n cG []=if cG=[]\/(U cG=1/\(cG.headD (0,0,0,0,0)).1=0) then[] else[cG]:=rfl
theorem uP{cG:J b8}{o:b8}{l:J b8}:jM n cG (o::l)=if o.1=0/\o.2.1+(n+n)<o.2.2.1 then(cG++[jL n o])::jM n [mz n o] l else jM n (cG++[o]) l:=rfl
noncomputable def groups(f u:J<|J B)(n:B):J (J b8):=jM n []<|codes f u n
theorem Pq:∀{l:J b8},U (ni n l)=U l
 | []=>rfl
 |_::_=>rfl
theorem Pr{n:B}:∀{l:J b8},U (kE n l)=U l
 | []=>rfl
 | [o]=>rfl
 |o::o'::l=>bB (· +1)<|Pr (l:=o'::l)
theorem G8{n:B}:∀(l:J b8) (o:b8),kE n (l++[o])=l++[if o.1=0 then jL n o else o]
 | []=>λo=>rfl
 | [a]=>λo=>rfl
 |a::b::l=>λo=>by
  show a::kE n (b::l++[o])=_;rw[G8 (b::l) o];rfl
theorem ac1(f u:J<|J B):U (fH f u)<=2*U f+4:=by
 have G:=G7 (gn f u) ((0,0),[]);have h2:=Po f u;simp only[iR] at G;exact W2 G h2
noncomputable def dw{α:Type}(l:J α)(i j:B):J α:=(l.drop i).take<|j-i
noncomputable def k9(f u:J<|J B)(o:b8):J (J B):=
 if o.1=0 then(dw f o.2.1 o.2.2.1).map (32:: ·)
 else(if o.1=1\/o.1=2 then(dw f o.2.1 o.2.2.1).map (45:: ·) else[])++(if o.1=1\/3<=o.1 then(dw u o.2.2.2.1 o.2.2.2.2).map (43:: ·) else[])
noncomputable def jw:b8:=(0,0,0,0,0)
noncomputable def Cc(g:J b8)(e:J B):J B:=
 [64,64,32,45]++lN (g.headD jw).2.1 ((g.getLastD jw).2.2.1-(g.headD jw).2.1:az)++[32,43]++lN (g.headD jw).2.2.2.1 ((g.getLastD jw).2.2.2.2-(g.headD jw).2.2.2.1:az)++[32,64,64]++e
noncomputable def Cd(pre name date e:J B):J B:=pre++name++(if date=[] then[] else 9::date)++e
noncomputable def ry(f u:J<|J B)(e:J B)(g:J b8):J (J B):=Cc g e::g.flatMap (k9 f u)
noncomputable def fx(f u:J<|J B)(k:B)(f1 f2 d1 d2 e:J B):J (J B):=
 (if groups f u k=[] then[] else[Cd [45,45,45,32] f1 d1 e,Cd [43,43,43,32] f2 d2 e])++(groups f u k).flatMap (ry f u e)
noncomputable def GoodG(g:J b8):Prop:=g≠[]/\U g<=1000/\(g.headD jw).2.1<=(g.getLastD jw).2.2.1/\(g.getLastD jw).2.2.1<10 ^ 9/\(g.headD jw).2.2.2.1<=(g.getLastD jw).2.2.2.2/\(g.getLastD jw).2.2.2.2<10 ^ 9
noncomputable abbrev Piece:=B×B×J (J B)
noncomputable def jb(rows:J<|J B)(n k:B):bb:=(dw rows (k-n)<|k+n+1).any λr=>decide (r.headD 0≠32)
noncomputable def sU:J Piece->J B->J Piece
 | [],_=>[]
 | [p],r=>[(p.1,p.2.1,p.2.2++[r])]
 |p::q::l,r=>p::sU (q::l) r
noncomputable abbrev rz:=J Piece×B×B×bb
noncomputable def gc(rows:J<|J B)(n:B)(s:rz)(k:B):rz:=
 (if jb rows n k then sU (if s.2.2.2 then s.1 else s.1++[(s.2.1,s.2.2.1,[])]) (rows.getD k []) else s.1,
  if(rows.getD k []).headD 0=43 then s.2.1 else s.2.1+1,if(rows.getD k []).headD 0=45 then s.2.2.1 else s.2.2.1+1,jb rows n k)
noncomputable def lg(rows:J<|J B)(n:B)(ks:J B):rz:=ks.foldl (gc rows n) ([],0,0,false)
noncomputable def c5(c:B)(l:J<|J B):B:=U<|l.filter λr=>decide (r.headD 0≠c)
noncomputable def lR(e:J B)(p:Piece):J (J B):=
 ([64,64,32,45]++lN (p.1:az) (c5 43 p.2.2:B)++[32,43]++lN (p.2.1:az) (c5 45 p.2.2:B)++[32,64,64]++e)::p.2.2
noncomputable def report(rows:J<|J B)(n:B)(G h2 e:J B):J (J B):=
 [G++e,h2++e]++(lg rows n<|eD<|U rows).1.flatMap (lR e)
theorem yH:∀(l:J Piece) (p:Piece) (r:J B),sU (l++[p]) r=l++[(p.1,p.2.1,p.2.2++[r])]
 | []=>λp r=>rfl
 | [a]=>λp r=>rfl
 |a::b::l=>λp r=>by
  show a::sU (b::l++[p]) r=_;exact D (yH (b::l) p r) rfl
structure G9(rows:J<|J B)(t:B)(s:rz):Prop where
 ins:s.2.2.2=true->s.1≠[]
 len:U s.1<=t
 shown:∀p∈s.1,U p.2.2<=t/\p.1<=t/\p.2.1<=t/\∀r∈p.2.2,r∈rows
 old:s.2.1<=t
 new:s.2.2.1<=t
theorem ac2{t:B}{s:rz}(h:G9 rows t s)(ht:t<U rows):G9 rows (t+1) (gc rows n s t):=by
 obtain⟨G,h2,h3,h4,h5⟩:=h;have key:∀l:J Piece,l≠[]->U l<=t+1->(∀p∈l,U p.2.2<=t/\p.1<=t/\p.2.1<=t/\∀r∈p.2.2,r∈rows)->sU l (rows.getD t [])≠[]/\U (sU l<|rows.getD t [])<=t+1/\∀p∈sU l (rows.getD t []),U p.2.2<=t+1/\p.1<=t+1/\p.2.1<=t+1/\∀r∈p.2.2,r∈rows:=λl hl hz hp=>by
  rcases rS l with h|⟨l',q,rfl⟩
  ·exact aZ h hl
  rw[rT] at*;rw[yH];refine⟨by simp,by simpa using hz,λp hm=>?_⟩;rcases bK.mp hm with hm|hm
  ·exact gg (hp p<|bK.mpr<|.inl hm) λa b c d=>(⟨by exact ly ‹_›,by exact ly ‹_›,by exact ly ‹_›,d⟩)
  ·rw[bx] at hm;subst hm;refine gg (hp q<|bK.mpr<|.inr<|bx.mpr rfl) λa b c d=>?_
   refine⟨by refine D aK ?_;exact AO a,by show q.1<=_;exact ly ‹_›,by show q.2.1<=_;exact ly ‹_›,λr hr=>?_⟩;rcases bK.mp hr with hr|hr
   ·exact d r hr
   ·rw[bx] at hr;subst hr;refine D (c6)<|D (bO ht) ?_;exact nF _
 have base:s.1++[(s.2.1,s.2.2.1,([]:J<|J B))]≠[]/\U (s.1++[(s.2.1,s.2.2.1,([]:J<|J B))])<=t+1/\∀p∈s.1++[(s.2.1,s.2.2.1,([]:J<|J B))],U p.2.2<=t/\p.1<=t/\p.2.1<=t/\∀r∈p.2.2,r∈rows:=by
  refine⟨by simp,by simp;assumption,λp hm=>?_⟩;rcases bK.mp hm with hm|hm
  ·exact h3 p hm
  ·rw[bx] at hm;subst hm;exact⟨bH _,h4,h5,λr hr=>nomatch hr⟩
 unfold gc;cases hn:jb rows n t with
 |false=>
  refine D (aE dy) ?_
  refine⟨(λh=>nomatch h),by show U s.1<=_;exact ly ‹_›,λp hp=>?_,?_,?_⟩
  ·exact gg (h3 p hp) λa b c d=>(⟨by exact ly ‹_›,by exact ly ‹_›,by exact ly ‹_›,d⟩)
  ·dsimp only;split<;>lia
  ·dsimp only;split<;>lia
 |true=>
  refine D (aU rfl) ?_
  cases hi:s.2.2.2 with
  |true=>
   refine D (aU rfl)<|eh (key s.1 (G hi) (by exact ly ‹_›) h3) λa b c=>?_;exact⟨λH=>a,b,c,by dsimp only;split<;>lia,by dsimp only;split<;>lia⟩
  |false=>
   refine D (aE dy)<|eh (key _ base.1 base.2.1 base.2.2) λa b c=>?_;exact⟨λH=>a,b,c,by dsimp only;split<;>lia,by dsimp only;split<;>lia⟩
theorem Ce{rows:J (J B)}{n:B}:∀t,t<=U rows->G9 rows t (lg rows n<|eD t)
 |0=>λH=>⟨(λh=>nomatch h),aG _,(λp hp=>nomatch hp),aG _,aG _⟩
 |t+1=>λh=>by
  have:=ac2 (n:=n) (Ce (rows:=rows) (n:=n) t<|by exact lz ‹_›) h;unfold lg at this ⊢;exact D Ad<|D jS this
theorem EV.neg{e:bv}{p:cN}{a:az}(G:EV C n e st (.int a) am):EV C n (.UnaryOp .USub e p) st (.int<|-a) am:=.mk λA s ρ Q hA R h=>by
 refine wpAny_UnaryOp<|G A s ρ _ hA R λaB x s' N i=>(xE i λt av=>?_);clear i;subst av;exact neg_int<|h aB _ _ (N.trans<|gj N.rep _) ⟨_,rfl⟩
section
variable{q:B}{ba ce:St}
theorem aQ.wm{aiC:ak}{args:J V}{v:V}(h:cC C.toWd n aiC [] args [] v)(ha:aO (V.ff (λH=>false) args=true) a9)(hv:aO (v.bG (λH=>false)=true) a9):aQ C n aiC args st v st:=by
 obtain⟨l,hp⟩:=st;exact cC.front (hp:=[]) (aY:=[]) (rest:=hp) h rfl (λH h=>by exact nomatch h) (λH h=>by exact nomatch h) (uH (λH h=>by exact aZ h dy) ha)<|V.m6 (λH h=>by exact aZ h dy) hv
theorem aQ.ac3(h0:U x<=1000000):aQ C n (.builtin "str.format") [.str<|ft "\t{}",.str<|tx x] st (.str<|tx<|9::x) st:=
 aQ.fmt (X':=⟨#[9,123,125]⟩) (Fm.cons (lit:=[9]) (rest:=[]) rfl ⟨rfl,h0⟩ rfl ⟨rfl,rfl⟩)
theorem Fm.two{L:B}{T T':J B}(G:U x<=1000000)(h2:U y<=1000000)(e:T++x++y=T')(hL:aO (((0:B)==L)=false) a9):Fm L [.str<|tx x,.str<|tx y] [123,125,123,125] T T':=
 Fm.cons (lit:=[]) (rest:=[123,125]) rfl ⟨rfl,G⟩ (D (cM T) rfl) (Fm.cons (lit:=[]) (rest:=[]) rfl ⟨rfl,h2⟩ (D (cM _) e) ⟨rfl,rfl⟩<|by rw[iR,hL];rfl) (by rw[iR,hL];rfl)
theorem aQ.ac4(h0:U x<=1000000)(G:U y<=1000000)(h2:U z<=1000000):aQ C n (.builtin "str.format") [.str<|ft "--- {}{}{}",.str<|tx x,.str<|tx y,.str<|tx z] st (.str<|tx<|[45,45,45,32]++x++y++z) st:=
 aQ.fmt (X':=⟨#[45,45,45,32,123,125,123,125,123,125]⟩) (Fm.cons (lit:=[45,45,45,32]) (rest:=[123,125,123,125]) rfl ⟨rfl,h0⟩ rfl<|Fm.two G h2 rfl)
theorem aQ.ac5(h0:U x<=1000000)(G:U y<=1000000)(h2:U z<=1000000):aQ C n (.builtin "str.format") [.str<|ft "+++ {}{}{}",.str<|tx x,.str<|tx y,.str<|tx z] st (.str<|tx<|[43,43,43,32]++x++y++z) st:=
 aQ.fmt (X':=⟨#[43,43,43,32,123,125,123,125,123,125]⟩) (Fm.cons (lit:=[43,43,43,32]) (rest:=[123,125,123,125]) rfl ⟨rfl,h0⟩ rfl<|Fm.two G h2 rfl)
theorem aQ.ac6(h0:U x<=1000000)(G:U y<=1000000)(h2:U z<=1000000):aQ C n (.builtin "str.format") [.str<|ft "@@ -{} +{} @@{}",.str<|tx x,.str<|tx y,.str<|tx z] st (.str<|tx<|[64,64,32,45]++x++[32,43]++y++[32,64,64]++z) st:=
 aQ.fmt (X':=⟨#[64,64,32,45,123,125,32,43,123,125,32,64,64,123,125]⟩) (Fm.cons (lit:=[64,64,32,45]) (rest:=[32,43,123,125,32,64,64,123,125]) rfl ⟨rfl,h0⟩ rfl<|Fm.cons (lit:=[32,43]) (rest:=[32,64,64,123,125]) rfl ⟨rfl,G⟩ rfl<|Fm.cons (lit:=[32,64,64]) (rest:=[]) rfl ⟨rfl,h2⟩ rfl ⟨rfl,rfl⟩)
end
noncomputable abbrev gZ(C:Cx)(scope:sa)(cl:J<|ao×ax)(L:ax):Cx:=⟨C.toWd,tZ scope cl L C.env⟩
inductive qk(C:Cx)(n:B):J bv->St->bb->Prop
 |nil {st:St}:qk C n [] st true
 |one {c:bv} {st:St} {b:bb} (h:TV C n c st b st):qk C n [c] st b
theorem Rep.ac7{a:ax}{o:O}(R:Rep C ρ st s)(ho:o.Is C.w (ρ++[a]) s.heap a)(G:a∉ρ)(h3:C.top.objs.size<=a)(h2:a≠C.env.locals):Rep C (ρ++[a]) ⟨st.loc,st.hp++[o]⟩ s:=by
 have L:=R.led;refine⟨?_,⟨by simp only[aK,aK,L.len];rfl,λk o' b e q=>?_,?_,λh=>?_,λb h=>?_,L.gT,L.top,L.os,L.drawn⟩⟩
 ·refine aH R.loc λm bT hm=>?_
  exact⟨m,bT,λx v e=>by obtain⟨y,hy,q⟩:=hm x v e;exact⟨y,hy,q.mono (gN ..)<|bF.refl _⟩⟩
 ·by_cases hk:k<U st.hp
  ·have e':st.hp[k]?=some o':=by exact bL e ((cA hk).symm)
   have q':ρ[k]?=some b:=by simp only[←q];exact(cA<|by refine D L.len ?_;exact hk).symm
   exact(L.objs k o' b e' q').mono (gN ..) (bF.refl _) rfl
  ·have bJ:k<U (st.hp++[o]):=(cJ.mp e).1;rw[aK] at bJ;have eS:k=U st.hp:=by simp at bJ;exact Fd bJ hk
   subst eS;have e2:(st.hp++[o])[U st.hp]?=some o':=e;rw[dc<|aG _,fG] at e2;simp only[←L.len,dc<|aG _,fG] at q
   (have:=cj e2;clear e2;subst this);(have:=cj q;clear q;subst this)
   exact ho
 ·simp only[mG];exact⟨L.nodup,by simp,λx hx y hy e=>by rw[bx] at hy;subst hy;subst e;exact G hx⟩
 ·rcases bK.mp h with h|h
  ·exact L.fC h
  ·exact h2 (bx.mp h).symm
 ·rcases bK.mp h with h|h
  ·exact L.low b h
  ·simp only[bx.mp h];exact h3
theorem Rep.ac8{s':ay}(R:Rep C ρ st s)(k:∀b o,s.heap.get? b=some o->s'.heap.get? b=some o)(ho:s'.os=s.os)(hd:s'.drawn=s.drawn):Rep C ρ st s':=by
 have L:=R.led;refine⟨?_,⟨L.len,λj o b e q=>?_,L.nodup,L.fC,L.low,L.gT,λb o e=>k b o<|L.top b o e,ho.trans L.os,hd.trans L.drawn⟩⟩
 ·refine aH R.loc λm bT hm=>?_
  exact⟨m,mj bT λo e=>k _ o e,λx v e=>by obtain⟨y,hy,q⟩:=hm x v e;exact⟨y,hy,q.mono (bP _)<|iB k⟩⟩
 ·have z:=L.objs j o b e q;exact aH z.there λx hx H=>(z.mono (bP _) (iB k)<|(k _ _ hx).trans hx.symm)
section
variable{aC:J ax}{scope:sa}{cl:J (ao×ax)}{L aiy:ax}{own:J ax}{At:B->bn->Prop}{s2 s':ay}{i:B}{l l' acc:J _}
structure CJ(C:Cx)(am:St)(aC:J ax)(L aiy:ax)(own:J ax)(s2:ay)(acc:J V)(s:ay):Prop where
 rep:Rep C aC am s
 out:∃vs c,s.heap.get? aiy=some ⟨.type "list",aA,.seq vs c,#[]⟩/\V.IsL aC s.heap acc vs.toList
 aX:bF s2.heap s.heap
 keep:∀b o,s2.heap.get? b=some o->b∉own->b∉aC->s.heap.get? b=some o
 gens:eN s2.gens s.gens
structure CF(C:Cx)(aC:J ax)(L aiy:ax)(own:J ax):Prop where
 nL:L∉aC
 nD:aiy∉aC
 LD:L≠aiy
 LC:L≠C.env.locals
 DC:aiy≠C.env.locals
 oL:L∉own
 oD:aiy∉own
 tL:C.top.get? L=aA
 own:∀a∈own,a∉aC/\a≠C.env.locals/\C.top.get? a=aA
theorem ac9(F:CF C aC L aiy own)(R:Rep C aC am s)(hl:ur (gZ C scope cl L) aC s.heap l):Rep (gZ C scope cl L) aC ⟨l,am.hp⟩ s:=
 ⟨hl,⟨R.led.len,R.led.objs,R.led.nodup,F.nL,R.led.low,F.tL,R.led.top,R.led.os,R.led.drawn⟩⟩
theorem CJ.next(F:CF C aC L aiy own)(gx:s2.heap.get? L=aA)(aiw:CJ C am aC L aiy own s2 acc s){aB:J ax}{l':J (ao×V)}(N:bk (gZ C scope cl L) aC s ⟨l',am.hp⟩ aB s'):aB=aC/\CJ C am aC L aiy own s2 acc s':=by
 have e:aB=aC:=(Ah N.pre<|by simp only[aiw.rep.led.len,N.rep.led.len]).symm;subst e;have R:=N.rep.led;refine⟨rfl,⟨⟨?_,⟨R.len,R.objs,R.nodup,aiw.rep.led.fC,R.low,aiw.rep.led.gT,R.top,R.os,R.drawn⟩⟩,?_,aiw.aX.trans N.aX,λb o e G h2=>N.keep b o (aiw.keep b o e G h2) h2 (λq=>by subst q;rw[show s2.heap.get? _=aA from gx] at e;cases e),aiw.gens.trans N.gens⟩⟩
 ·refine aH aiw.rep.loc λm bT hm=>?_
  exact⟨m,mj bT λo e=>N.keep _ o e aiw.rep.led.fC<|uf F.LC,λx v e=>by obtain⟨y,hy,q⟩:=hm x v e;exact⟨y,hy,q.mono (bP _) N.aX⟩⟩
 ·exact dv aiw.out λvs c G h2=>(⟨vs,c,N.keep _ _ G F.nD<|uf F.LD,h2.mono (bP _) N.aX⟩)
theorem CJ.step(F:CF C aC L aiy own)(aiw:CJ C am aC L aiy own s2 acc s){h':bn}{t:B}(ext:jE own s.heap h')(aX:bF s.heap h'):CJ C am aC L aiy own s2 acc {s with heap:=h',toks:=t}:=by
 exact⟨aiw.rep.own F.own ext aX t,(dv aiw.out λvs c G h2=>(⟨vs,c,ext _ _ F.oD G,h2.mono (bP _) aX⟩)),aiw.aX.trans aX,λb o e G h2=>ext b o G<|aiw.keep b o e G h2,aiw.gens⟩
theorem CJ.push{acc:J V}{aiA:V}{y:ak}{A:bS}{Q:ak->ay->Prop}(F:CF C aC L aiy own)(aiw:CJ C am aC L aiy own s2 acc s)(hD2:s2.heap.get? aiy=aA)(hu:aiA.Is aC s.heap y)(tD:C.top.get? aiy=aA)(hz:U acc<=1000000)
  (h:∀h',iW aiy s.heap h'->CJ C am aC L aiy own s2 (acc++[aiA]) {s with heap:=h'}->Q .none {s with heap:=h'}):aF (aN C.prog C.w) A (call (.builtin "list.append") [.ref aiy,y]) Q bq s:=by
 refine dv aiw.out λvs c ho hi=>wpAny_call_entry slot_list_append ⟨_,ho,rfl⟩ entry_list_append ?_<|args_list_append _ _
 show aF _ _ (updateSeq aiy (·.push y) >>= λH=>ret .none) _ _ s;refine wpAny_bind ?_
 have hlen:vs.size<=km:=by simp only[←eO,dK hi];exact mo<|Nk hz
 refine xE (⟨_,rfl⟩:∃m',fY (·.push y) ⟨.type "list",aA,.seq vs c,#[]⟩=⟨.type "list",aA,.seq (vs.push y) m',#[]⟩) λm' e=>?_
 have sb:iW aiy s.heap (s.heap.update aiy<|fY (·.push y)):=iA ..;have gX:bF s.heap (s.heap.update aiy<|fY (·.push y)):=jY sb ho rfl;have ic:V.IsL aC (s.heap.update aiy<|fY (·.push y)) (acc++[aiA]) (vs.push y).toList:=by
  simp only[KI];exact V.IsL.append (hi.mono (bP _) gX) ⟨y,[],rfl,hu.mono (bP _) gX,rfl⟩
 refine wpAny_updateSeq ho rfl<|wpAny_pure ⟨.none,rfl,h _ sb ⟨?_,⟨vs.push y,m',(pP _ ho rfl).trans<|bB some e,ic⟩,aiw.aX.trans gX,λb o e G h2=>?_,aiw.gens⟩⟩
 ·exact aiw.rep.own (own:=[aiy]) (fM<|⟨F.nD,F.DC,tD⟩) (λb o hb e=>(sb.2 b λq=>hb<|bx.mpr q).trans e) gX s.toks
 ·refine(sb.2 b λq=>?_).trans<|aiw.keep b o e G h2;subst q;simp only[hD2] at e;exact nomatch e
theorem qk.go{ifs:J bv}{b:bb}(h:qk C n ifs st b){A:bS}{Q:bb->ay->Prop}(hA:cn n A)(R:Rep C ρ st s)(hq:∀aB s',bk C ρ s st aB s'->Q b s'):
  aF (aN C.prog C.w) A (forIn ifs true λc r=>if r=true then do let ok ←isTrue c C.env (eval c C.env);pure (AJ ok) else pure<|AJ r) Q bq s:=by
 cases h with
 |nil=>exact wpAny_tests_nil<|hq ρ s<|ek R
 |one h=>exact wpAny_tests_one<|h A s ρ _ hA R hq
end
end
namespace yI
noncomputable def ES(C:Cx)(n:B)(st:St)(am:St)(scope:sa)(items:J V)(aiy:St->Prop)(g:V->J V)(A:bS)(s:ay)(ρ:J ax)(Q:ak->ay->Prop)(x:ao):Prop:=∀(elt:bv),∀(iter:bv),∀(px:cN),∀(pos:cN),∀(yJ:cN),∀(ifs:J bv),∀(v:V),∀(lo:B),∀(cl:J (ao×ax)),∀(use:bC (ak->dD fF)),(EV C n iter st v am)->(fD C n v am items aiy lo)->(aiy am)->(lo<=U am.hp)->(∀L aiA,aiA∈items->∃b,qk (gZ C scope cl L) n ifs ⟨[(x,aiA)],am.hp⟩ b/\((b=false/\g aiA=[])\/(b=true/\∃y,g aiA=[y]/\EV (gZ C scope cl L) n elt ⟨[(x,aiA)],am.hp⟩ y ⟨[(x,aiA)],am.hp⟩)))->(U (items.flatMap g)<=1000000)->(tY scope C.env=pure cl)->(∀y∈scope.names,y.2≠ .cell)->(scope.kind= .function)->(∀y∈scope.names,y.2= .local->scope.names.lookup y.1=some .local)->(scope.names.lookup x=some .local)->(∀x,pL iter C.env x=pure x)->(cn n A)->(Rep C ρ st s)->(∀(aB:J ax) (s':ay) (acc:ax) (L:ax) (m:ao->bC ak),bk C ρ s ⟨am.loc,am.hp++[.list (items.flatMap g)]⟩ aB s'->V.Is aB s'.heap (.ref (U am.hp)) (.ref acc)->L∉aB->L≠C.env.locals->C.top.get? L=aA->s.heap.get? L=aA->s'.heap.Ns L m->
   compPost (aN C.prog C.w) A bq use Q (.ref acc) L (.ok .next) s')->aF (aN C.prog C.w) A (comprehension (.ListComp elt [⟨.Name x px,iter,ifs,0⟩] scope pos) scope C.env yJ (newList []) false (eval iter C.env) use) Q bq s
@[irreducible] noncomputable def EX:=nU aaV 0 ⟨[],[]⟩ ⟨[],[]⟩ default [] (λH=>gF) (λH=>[]) {} {} [] (λH H=>gF) default ES
noncomputable def C:=EX.1
noncomputable def n:=EX.2.1
noncomputable def st:=EX.2.2.1
noncomputable def am:=EX.2.2.2.1
noncomputable def scope:=EX.2.2.2.2.1
noncomputable def items:=EX.2.2.2.2.2.1
noncomputable def aiy:=EX.2.2.2.2.2.2.1
noncomputable def g:=EX.2.2.2.2.2.2.2.1
noncomputable def A:=EX.2.2.2.2.2.2.2.2.1
noncomputable def s:=EX.2.2.2.2.2.2.2.2.2.1
noncomputable def ρ:=EX.2.2.2.2.2.2.2.2.2.2.1
noncomputable def Q:=EX.2.2.2.2.2.2.2.2.2.2.2.1
noncomputable def x:=EX.2.2.2.2.2.2.2.2.2.2.2.2
theorem Ee:ES C n st am scope items aiy g A s ρ Q x:=λelt iter px pos yJ ifs v lo cl use G h2 hD kr iY hz nj iE kF uQ hx hs hA R Ha=>by
 refine wpAny_comprehension_free (use:=use) rfl hs nj kF uQ<|G A s ρ _ hA R λaC xv s1 N1 i1=>h2.run A s1 aC xv _ hA N1.rep i1 λit own At s2 hit self yK dj N2=>?_;refine wpAny_newObj_type<|wpAny_newFunctionEnv iE (by intro y hy;simp at hy) (λh₁ Hb Cf=>?_) kF;dsimp only at Hb Cf ⊢;generalize Hc:s2.heap.push {cls:=.type "list",dict:=aA,data:=.seq ([]:J ak).toArray}=H2 at Hb Cf ⊢;have R2:=N2.rep;have Hd:H2.objs.size=s2.heap.objs.size+1:=by simp only[←Hc,jV]
 have pd:∀a,s2.heap.objs.size<=a->s2.heap.get? a=aA:=λa ha=>xX ha;have Ps:∀a,s2.heap.objs.size<=a->a∉aC:=λa ha q=>by
  refine mO (R2.toF.mem q) λH H ob H H H h3 H=>?_
  simp only[pd a ha] at h3;exact nomatch h3
 have Pt:∀a,s2.heap.objs.size<=a->a≠C.env.locals:=λa ha q=>by
  subst q;refine aH R2.loc λmm cq H=>eR cq λoL H H hL H=>?_
  simp only[pd _ ha] at hL;exact nomatch hL
 have ie:∀a,s2.heap.objs.size<=a->C.top.get? a=aA:=λa ha=>by
  cases e:C.top.get? a with
  |none=>rfl
  |some o=>have:=R2.led.top a o e;rw[pd a ha] at this;exact nomatch this
 have ada:∀a∈own,∃o,s2.heap.get? a=some o:=(hit (.Name x px) lo<|aG _).2.1 0 s2.heap yK;have Pu:∀a,s2.heap.objs.size<=a->a∉own:=λa ha q=>by
  refine xE (ada a q) λo e=>?_
  rw[pd a ha] at e;exact nomatch e
 have rA:s2.heap.objs.size<=H2.objs.size:=by simp only[Hd];exact eM _
 have F:CF C aC H2.objs.size s2.heap.objs.size own:=by
  refine⟨Ps _ rA,Ps _<|aG _,by refine D Hd ?_;exact Kj _,Pt _ rA,Pt _<|aG _,Pu _ rA,Pu _<|aG _,ie _ rA,λa ha=>?_⟩;have e:=dj a ha;refine⟨λq=>?_,λq=>?_,?_⟩
  ·refine mO (N1.rep.toF.mem q) λH H ob H H H h3 H=>?_
   simp only[e] at h3;exact nomatch h3
  ·subst q;refine aH N1.rep.loc λmm cq H=>eR cq λoL H H hL H=>?_
   simp only[show s1.heap.get? _=aA from e] at hL;exact nomatch hL
  ·cases q:C.top.get? a with
   |none=>rfl
   |some o=>have:=N1.rep.led.top a o q;rw[e] at this;exact nomatch this
 have old:∀b o,s2.heap.get? b=some o->h₁.get? b=some o:=λb o e=>Cf.extBut b o (λq=>by subst q;rw[pd _ rA] at e;cases e)<|dE _<|Hc▸dE _ e;have yL:At 0 h₁:=(hit (.Name x px) lo<|aG _).1 0 s2.heap h₁ yK (λa H o e=>old a o e)<|iB old;have J0:CJ C am aC H2.objs.size s2.heap.objs.size own s2 [] {s2 with heap:=h₁,toks:=s2.toks+U ([]:J<|ao×ak)}:=by
  refine⟨R2.ac8 old rfl rfl,⟨#[],0,Cf.extBut _ _ (by simp only[Hd];exact iT<|tO _)<|dE _<|Hc▸ew _ rfl,rfl⟩,iB old,λb o e H H=>old b o e,eN.refl _⟩
 have l0:ur (gZ C scope cl H2.objs.size) aC h₁ []:=⟨_,Hb,λx v e=>by exact nomatch e⟩
 have loop:codeAny (aN C.prog C.w) A (.compLoop (.ListComp elt [⟨.Name x px,iter,ifs,0⟩] scope pos) 0 it (.ref s2.heap.objs.size)<|tZ scope cl H2.objs.size C.env)
   (compPost (aN C.prog C.w) A bq use Q (.ref s2.heap.objs.size) H2.objs.size) {s2 with heap:=h₁,toks:=s2.toks+U ([]:J<|ao×ak)}:=by
  refine codeAny_compLoop_tests (λm s'=>∃i l,m=U items-i/\i<=U items/\CJ C am aC H2.objs.size s2.heap.objs.size own s2 ((items.take i).flatMap g) s'/\ur (gZ C scope cl H2.objs.size) aC s'.heap l/\At i s'.heap) ?_ (U items)
   ⟨0,[],rfl,bH _,J0,l0,yL⟩
  intro m s' dM;refine pS dM λi l av hi aiw hl Gg=>?_
  clear dM;subst av;have He:∀a∈own,a≠H2.objs.size:=λa ha q=>F.oL<|q▸ha;have side:∀a∈own,a∉aC/\a≠C.env.locals/\C.top.get? a=aA:=F.own;have itn:=(hit (.Name x px) (U am.hp) kr).2.2 i A s' aC am
   (λs3=>compPost (aN C.prog C.w) A bq use Q (.ref s2.heap.objs.size) H2.objs.size (.ok .next) s3)
   (λy s3=>aF (aN C.prog C.w) A (assign (.Name x px) (tZ scope cl H2.objs.size C.env) y) (λH s4=>
    aF (aN C.prog C.w) A (forIn ifs true λc r=>if r=true then do let ok ←isTrue c (tZ scope cl H2.objs.size C.env) (eval c (tZ scope cl H2.objs.size C.env));pure (AJ ok) else pure (AJ r)) (λok s5=>
     if ok=true then aF (aN C.prog C.w) A (eval elt<|tZ scope cl H2.objs.size C.env) (λz s6=>aF (aN C.prog C.w) A (call (.builtin "list.append") [.ref s2.heap.objs.size,z]) (λH s7=>∃m,m<U items-i/\∃i l,m=U items-i/\i<=U items/\CJ C am aC H2.objs.size s2.heap.objs.size own s2 ((items.take i).flatMap g) s7/\ur (gZ C scope cl H2.objs.size) aC s7.heap l/\At i s7.heap) bq s6) bq s5
     else ∃m,m<U items-i/\∃i l,m=U items-i/\i<=U items/\CJ C am aC H2.objs.size s2.heap.objs.size own s2 ((items.take i).flatMap g) s5/\ur (gZ C scope cl H2.objs.size) aC s5.heap l/\At i s5.heap) bq s4) bq s3)
   hA aiw.rep (pH ..) hD Gg side ?_ ?_
  ·refine wpAny_mono itn (λr s3 h3=>?_) λH H h=>h.elim;cases r with
   |none=>exact h3
   |some y=>
    show aF _ _ (pure () >>= λH=>assign (.Name x px) (tZ scope cl H2.objs.size C.env) y) _ _ _;refine wpAny_bind<|wpAny_mono h3 (λH s4 h4=>(wpAny_mono h4 (λH s5 h5=>wpAny_mono h5 (λok s6 h6=>?_) λH H h=>h.elim) λH H h=>h.elim)) λH H h=>h.elim;cases ok with
    |true=>exact wpAny_mono h6 (λz s7 h7=>wpAny_mono h7 (λH H h=>h) λH H h=>h.elim) λH H h=>h.elim
    |false=>exact h6
  ·intro aiA hu y h' t at' ext aX iy;have bJ:i<U items:=(cJ.mp hu).1;have rB:(items.take<|i+1).flatMap g=(items.take i).flatMap g++g aiA:=by
    refine D qM<|D hu<|D kN ?_;simp
   have hlen:U ((items.take<|i+1).flatMap g)<=1000000:=by
    have:U (items.flatMap g)=U ((items.take<|i+1).flatMap g)+U ((items.drop<|i+1).flatMap g):=by
     simp only[←aK,←kN,rR]
    exact aao this hz
   have J3:=aiw.step (t:=t) F ext aX;have pe:ur (gZ C scope cl H2.objs.size) aC h' l:=by
    refine aH hl λm bT hm=>?_
    exact⟨m,mj bT λo e=>ext _ o F.oL e,λx v e=>by obtain⟨y,hy,q⟩:=hm x v e;exact⟨y,hy,q.mono (bP _) aX⟩⟩
   have Ri:=ac9 F J3.rep pe;refine bW (C:=gZ C scope cl H2.objs.size) (n:=n) kF (lookup_relabel_local hx) A _ aC y _ hA Ri iy λeY s4 N4=>xA (J3.next F (pd _ rA) N4) λav J4=>?_
   subst av;have R4:Rep (gZ C scope cl H2.objs.size) eY ⟨[(x,aiA)],am.hp⟩ s4:=by
    refine⟨(aH N4.rep.loc λm bT hm=>(⟨m,bT,λz v e=>hm z v ?_⟩)),⟨N4.rep.led.len,N4.rep.led.objs,N4.rep.led.nodup,N4.rep.led.fC,N4.rep.led.low,N4.rep.led.gT,N4.rep.led.top,N4.rep.led.os,N4.rep.led.drawn⟩⟩;rw[gv] at e;refine D gv ?_
    cases q:z==x with
    |true=>rw[q] at e;exact e
    |false=>rw[q] at e;exact nomatch e
   have adb:At (i+1) s4.heap:=(hit (.Name x px) lo<|aG _).1 (i+1) h' s4.heap at' (λa ha o e=>N4.keep a o e (F.own a ha).1<|He a ha) N4.aX;refine aH (iY H2.objs.size aiA<|dT hu) λb adc hb=>adc.go hA R4 λGA s5 N5=>xA (J4.next F (pd _ rA) N5) λav J5=>?_
   subst av;have Pv:At (i+1) s5.heap:=(hit (.Name x px) lo<|aG _).1 (i+1) s4.heap s5.heap adb (λa ha o e=>N5.keep a o e (F.own a ha).1<|He a ha) N5.aX;rcases hb with ⟨rfl,hg⟩|⟨rfl,z,hg,he⟩
   ·exact⟨U items-(i+1),by exact FC bJ,i+1,_,rfl,bJ,by simp only[rB,hg,cM];exact J5,N5.rep.loc,Pv⟩
   ·refine he A s5 GA _ hA N5.rep λρ6 zv s6 N6 iz=>xA (J5.next F (pd _ rA) N6) λav J6=>?_
    subst av;have ade:At (i+1) s6.heap:=(hit (.Name x px) lo<|aG _).1 (i+1) s5.heap s6.heap Pv (λa ha o e=>N6.keep a o e (F.own a ha).1<|He a ha) N6.aX;refine J6.push F (pd _<|aG _) iz (ie _<|aG _) (by simp only[rB,aK] at hlen;exact aan hlen) λh7 uR J7=>?_
    refine⟨U items-(i+1),by exact FC bJ,i+1,[(x,aiA)],rfl,bJ,by simp only[rB,hg];exact J7,?_,?_⟩
    ·refine aH N6.rep.loc λm bT hm=>?_
     exact⟨m,mj bT λo e=>(uR.2 _ F.LD).trans e,λx v e=>by obtain⟨y,hy,q⟩:=hm x v e;exact⟨y,hy,q.mono (bP _) (by
      exact dv J6.out λvs c ho H=>jY uR ho rfl)⟩⟩
    ·exact(hit (.Name x px) lo (aG _)).1 (i+1) s6.heap h7 ade (λa ha o e=>(uR.2 a (λq=>F.oD (q▸ha))).trans e) (by
      exact dv J6.out λvs c ho H=>jY uR ho rfl)
  ·intro hu h' t ext aX;have he:i=U items:=D8 hi<|ou.mp hu;subst he;simp only[pI] at aiw;have J3:=aiw.step (t:=t) F ext aX;refine aH hl λm bT hm=>?_
   have hn5:h'.Ns H2.objs.size m:=mj bT λo e=>ext _ o F.oL e;refine dv J3.out λvs c ho hiL=>?_
   have N5:bk C aC s1 ⟨am.loc,am.hp++[.list<|items.flatMap g]⟩ (aC++[s2.heap.objs.size]) {s' with heap:=h',toks:=t}:=by
    refine⟨gN ..,N2.aX.trans J3.aX,λb o e G h2=>?_,λa ha mX=>?_,N2.gens.trans J3.gens,J3.rep.ac7 ⟨vs,c,ho,hiL.mono (gN ..)<|bF.refl _⟩ F.nD R2.toF.size F.DC⟩
    ·have e2:=N2.keep b o e G h2;have hb:b∉own:=λq=>by simp only[dj b q] at e;exact nomatch e
     exact J3.keep b o e2 hb G
    ·rcases bK.mp ha with q|q
     ·exact aZ q mX
     ·refine D (bx.mp q) ?_
      cases e:s1.heap.get? s2.heap.objs.size with
      |none=>rfl
      |some o=>have:=N2.keep _ o e F.nD F.DC;rw[pd _<|aG _] at this;exact nomatch this
   refine Ha (aC++[s2.heap.objs.size]) _ _ _ m (N1.trans N5) ⟨_,by simp only[←R2.led.len,dc<|aG _,fG];rfl,rfl⟩ (λq=>?_) F.LC F.tL ?_ hn5
   ·rcases bK.mp q with q|q
    ·exact F.nL q
    ·exact F.LD<|bx.mp q
   ·cases e:s.heap.get? H2.objs.size with
    |none=>rfl
    |some o=>
     have:=(N1.trans N2).keep _ o e (λq=>F.nL<|(N1.trans N2).pre.subset q) F.LC;rw[pd _ rA] at this;exact nomatch this
 refine codeAny_compStart_list loop<|self 0 _ _ _ yL loop |> λq=>wpAny_mono q (λH H h=>h) λH H h=>h.elim
end yI
section
variable{C:Cx}{n lo:B}{st am:St}{elt iter:bv}{px pos:cN}{ifs:J bv}{scope:sa}{items:J V}{aiy:St->Prop}{w:bz}{l m:J (J B)}
theorem Pw{x:ao}{yJ:cN}{v:V}(cl:J<|ao×ax)(g:V->J V)(use:bC<|ak->dD fF)
  (G:EV C n iter st v am) (h2:fD C n v am items aiy lo) (hD:aiy am) (kr:lo<=U am.hp)
  (iY:∀L aiA,aiA∈items->∃b,qk (gZ C scope cl L) n ifs ⟨[(x,aiA)],am.hp⟩ b/\((b=false/\g aiA=[])\/(b=true/\∃y,g aiA=[y]/\EV (gZ C scope cl L) n elt ⟨[(x,aiA)],am.hp⟩ y ⟨[(x,aiA)],am.hp⟩)))
  (hz:U (items.flatMap g)<=1000000)
  (nj:tY scope C.env=pure cl) (iE:∀y∈scope.names,y.2≠ .cell) (kF:scope.kind= .function) (uQ:∀y∈scope.names,y.2= .local->scope.names.lookup y.1=some .local) (hx:scope.names.lookup x=some .local)
  (hs:∀x,pL iter C.env x=pure x)
  (A:bS) (s:ay) (ρ:J ax) (Q:ak->ay->Prop) (hA:cn n A) (R:Rep C ρ st s)
  (Ha:∀(aB:J ax) (s':ay) (acc:ax) (L:ax) (m:ao->bC ak),bk C ρ s ⟨am.loc,am.hp++[.list (items.flatMap g)]⟩ aB s'->V.Is aB s'.heap (.ref (U am.hp)) (.ref acc)->L∉aB->L≠C.env.locals->C.top.get? L=aA->s.heap.get? L=aA->s'.heap.Ns L m->
   compPost (aN C.prog C.w) A bq use Q (.ref acc) L (.ok .next) s'):
  aF (aN C.prog C.w) A (comprehension (.ListComp elt [⟨.Name x px,iter,ifs,0⟩] scope pos) scope C.env yJ (newList []) false (eval iter C.env) use) Q bq s:=(show yI.ES C n st am scope items aiy g A s ρ Q x by with_unfolding_all exact oM yI.ES yI.EX rfl yI.Ee _ _ _ _ _ _ _ _ _ _ _ _ _) elt iter px pos yJ ifs v lo cl use G h2 hD kr iY hz nj iE kF uQ hx hs hA R Ha
theorem bk.off{ρ aB:J ax}{s s':ay}{aj:St}{L:ax}{m:ao->bC ak}{h':bn}(N:bk C ρ s aj aB s')(G:L∉aB)(h2:L≠C.env.locals)(h3:C.top.get? L=aA)(h4:s.heap.get? L=aA)(hn:s'.heap.Ns L m)(sb:iW L s'.heap h'):bk C ρ s aj aB {s' with heap:=h'}:=by
 have BK:bF s'.heap h':=by
  exact lH hn λoL es ep ho hd H=>(jY sb ho<|AL hd)
 exact bk.own (own:=[L]) N (fM<|⟨G,h2,h3⟩) (fM h4) (λb o hb e=>(sb.2 b λq=>hb<|bx.mpr q).trans e) BK s'.toks
theorem Px{x:ao}{v:V}(cl:J<|ao×ax)(g:V->J V)
  (G:EV C n iter st v am) (h2:fD C n v am items aiy lo) (hD:aiy am) (kr:lo<=U am.hp)
  (iY:∀L aiA,aiA∈items->∃b,qk (gZ C scope cl L) n ifs ⟨[(x,aiA)],am.hp⟩ b/\((b=false/\g aiA=[])\/(b=true/\∃y,g aiA=[y]/\EV (gZ C scope cl L) n elt ⟨[(x,aiA)],am.hp⟩ y ⟨[(x,aiA)],am.hp⟩)))
  (hz:U (items.flatMap g)<=1000000)
  (nj:tY scope C.env=pure cl) (iE:∀y∈scope.names,y.2≠ .cell) (kF:scope.kind= .function) (uQ:∀y∈scope.names,y.2= .local->scope.names.lookup y.1=some .local) (hx:scope.names.lookup x=some .local)
  (hs:aO (∀x,pL iter C.env x=pure x) aI._auto_1):
  EV C n (.ListComp elt [⟨.Name x px,iter,ifs,0⟩] scope pos) st (.ref<|U am.hp) ⟨am.loc,am.hp++[.list<|items.flatMap g]⟩:=.mk λA s ρ Q hA R h=>by
 simp only[eval_ListComp];exact Pw cl g aA G h2 hD kr iY hz nj iE kF uQ hx hs A s ρ Q hA R λaB s' acc L m N i n1 n2 n3 n4 hn=>⟨m,hn,λh' sb=>h aB _ _ (N.off n1 n2 n3 n4 hn sb) i⟩
theorem adf{q:B}{x y:ao}{py yM:cN}{v:V}{K:Fl->St->Prop}(cl:J<|ao×ax)(g:V->J V)
  (Hf:swapsWith (.ListComp elt [⟨.Name x px,iter,ifs,0⟩] scope pos) (some<|.Name y py) yM.line C.env=pure true)
  (G:EV C n iter st v am) (h2:fD C n v am items aiy lo) (hD:aiy am) (kr:lo<=U am.hp)
  (iY:∀L aiA,aiA∈items->∃b,qk (gZ C scope cl L) n ifs ⟨[(x,aiA)],am.hp⟩ b/\((b=false/\g aiA=[])\/(b=true/\∃y,g aiA=[y]/\EV (gZ C scope cl L) n elt ⟨[(x,aiA)],am.hp⟩ y ⟨[(x,aiA)],am.hp⟩)))
  (hz:U (items.flatMap g)<=1000000)
  (nj:tY scope C.env=pure cl) (iE:∀y∈scope.names,y.2≠ .cell) (kF:scope.kind= .function) (uQ:∀y∈scope.names,y.2= .local->scope.names.lookup y.1=some .local) (hx:scope.names.lookup x=some .local)
  (hK:K .next (St.put ⟨am.loc,am.hp++[.list<|items.flatMap g]⟩ y<|.ref<|U am.hp))
  (hk:aO (C.env.scope.kind= .function) a9) (hy:aO (C.env.kindOf y=some .local) a9)
  (hs:aO (∀x,pL iter C.env x=pure x) aI._auto_1):
  X1 C n q (.Assign [.Name y py] (.ListComp elt [⟨.Name x px,iter,ifs,0⟩] scope pos) yM) st K:=.mk λA s ρ Q hA R k=>by
 refine D (exec_Assign_Name_used _ _ _ _ Hf)<|wpAny_bind<|wpAny_standAt<|wpAny_bind ?_;show aF _ A (do let _ ←comprehension (.ListComp elt [⟨.Name x px,iter,ifs,0⟩] scope pos) scope C.env _ (newList []) false (eval iter C.env) (some<|assign (.Name y py) C.env)) _ _ s;refine wpAny_bind<|wpAny_mono (Pw cl g (some<|assign (.Name y py) C.env) G h2 hD kr iY hz nj iE kF uQ hx hs A s ρ (λH s'=>Q .next s') hA R λaB s' acc L m N i n1 n2 n3 n4 hn=>(bW (n:=n) hk hy A s' aB (.ref acc) _ hA N.rep i λbh s2 N2=>?_)) (λH s' hq=>wpAny_pure<|wpAny_pure hq) λH H e=>e;have e:bh=aB:=(Ah N2.pre<|by refine D N.rep.led.len<|D N2.rep.led.len ?_;rfl).symm;subst e;have sV:s2.heap.Ns L m:=mj hn λo e=>N2.keep _ o e n1 n2;exact⟨m,sV,λh' sb=>k bh .next _ _ _ hK ((N.trans N2).off n1 n2 n3 n4 sV sb).toS rfl⟩
section
variable{prog:du}{A:bS}{E:ak->ay->Prop}{s:ay}
theorem Py{it t:ax}{items:bD ak}(cw:t≠it):∀(n i:B) (s:ay) (Q:J ak->ay->Prop),s.heap.IsListIter it t i->s.heap.IsList t items->i+n<=items.size->
  (∀h',h'.IsListIter it t (i+n)->iW it s.heap h'->Q ((items.toList.drop i).take n) {s with heap:=h'})->aF (aN prog w) A (draw (.ref it) n) Q E s
 |0,i,s,Q,hit,_,_,hQ=>by
  exact wpAny_pure (by simpa using hQ s.heap hit (iW.refl ..))
 |n+1,i,s,Q,hit,ht,hle,hQ=>by
  have bJ:i<items.size:=by exact um hle
  refine wpAny_bind (wpAny_pyNext_list_item hit ht (x:=items[i]) (by simp[bJ]) λh₁ Hg yN=>(wpAny_bind<|wpAny_holding<|Py cw n (i+1) _ _ Hg (ht.extBut yN.extBut cw) (xN hle) λHh adg adh=>wpAny_pure ?_));have hd:items.toList.drop i=items[i]::items.toList.drop (i+1):=by simp[vy,bJ]
  have:=hQ Hh (by refine D (show i+(n+1)=i+1+n by exact aap) ?_;exact adg)<|yN.trans adh;rw[hd,J.take_succ_cons] at this;exact this
theorem adi{t:ax}{items:bD ak}{Q:J ak->ay->Prop}(hh:A.handled=none)(ht:s.heap.IsList t items)
  (hQ:∀h',qX s.heap.objs.size s.heap h'->Q items.toList {s with heap:=h'}):aF (aN prog w) A (unpackItems (.ref t) items.size none) Q E s:=by
 have bJ:t≠s.heap.objs.size:=by obtain⟨o,ho,_⟩:=ht;exact iT<|dH ho
 refine wpAny_bind ?_
 ·
  refine wpAny_bind<|wpAny_specialOf ht.typeIs slot_list_iter.lookup<|wpAny_pure ?_;refine D (aE dy) ?_
  refine wpAny_bind<|wpAny_holding<|wpAny_pyIter_list ht ?_;have hp:∀o,(s.heap.push o).IsList t items:=λo=>by
   exact aH ht λob G r=>(⟨ob,dE _ G,r⟩)
  refine wpAny_bind<|wpAny_holding<|Py bJ items.size 0 _ _ ⟨_,ew _ rfl,rfl,rfl⟩ (hp _) LY λh₁ Hg yN=>?_;have p0:J.take items.size (J.drop 0 items.toList)=items.toList:=by
   exact D mH (qL<|by simp)
  refine D p0<|D (aE<|by simp) ?_;have adj:h₁.IsList t items:=(hp _).extBut yN.extBut bJ;refine wpAny_bind (wpAny_holding<|wpAny_pyNext_list_end hh Hg adj (by simp) λHh adk=>?_);refine wpAny_ite_false rfl ?_
  refine wpAny_pure<|hQ Hh λb o hb e=>adk b o hb<|yN.extBut b o hb<|dE _ e
end
theorem cW.lst{elts:J bv}{k i:B}{p:cN}{vs:J V}(hi:st.hp[i]?=some (.list vs))(h:bU C n elts vs st am):cW C n (.Tuple elts k p) (.ref i) st am:=.mk λA s ρ x Q hA R hv hq=>by
 rw[EO];refine wpAny_bind<|wpAny_standAt ?_;unfold unpack;refine D h.star.1<|D h.star.2<|kn (mZ R hi hv) λa ar av ha hl il=>?_;subst av;have hz:U vs=ar.size:=by rw[←eO,dK il]
 refine D hz<|wpAny_bind<|wpAny_holding<|adi hA.1 hl λh' he=>?_;have kp:∀b o,s.heap.get? b=some o->h'.get? b=some o:=λb o e=>he b o (iT<|dH e) e;have N1:=bk.grow (s':={s with heap:=h'}) R kp (eN.refl _) rfl rfl;exact h.go hA N1.rep (il.mono (bP _)<|iB kp) λbh s2 N2=>hq bh s2<|N1.trans N2
theorem all_eq{α:Type}[xn α](d:α):∀(l m:J α),U l=U m->(eD<|U l).all (λj=>decide (l.getD j d=m.getD j d))=decide (l=m):=by
 intro l m h;rw[sd,fX,ip];constructor
 ·intro hj;refine DV h λi G h2=>?_
  have:=dq<|hj i<|rX.mpr G;rw[c6,c6,bO G,bO h2] at this;exact this
 ·rintro rfl j _;exact dG rfl
theorem Pz{ρ:J ax}{h:bn}{xs ys:bD ak}(hx:V.IsL ρ h (aw l) xs.toList)(hy:V.IsL ρ h (aw m) ys.toList)(A:bS)(s:ay):
  ∀j (G:j<xs.size) (h2:j<ys.size),SeqAt.EqAt A s xs[j] ys[j] (decide (l.getD j []=m.getD j [])):=λj G h2=>by
 have k1:j<U l:=by have:=dK hx;rw[en,eO] at this;exact mP G this
 have k2:j<U m:=by have:=dK hy;rw[en,eO] at this;exact mP h2 this
 have g1:(aw l)[j]?=some (.str<|tx l[j]):=by unfold aw;simp only[c7,bO k1];rfl
 have g2:(aw m)[j]?=some (.str<|tx m[j]):=by unfold aw;simp only[c7,bO k2];rfl
 refine E0 (hx.get g1) λx e1 t i1=>E0 (hy.get g2) λy e2 aiA i2=>?_
 simp only[jX,ia G] at e1;simp only[jX,ia h2] at e2
 (have:=cj e1;clear e1;subst this);(have:=cj e2;clear e2;subst this)
 simp only[i1,i2];intro prog w E Q hq;refine wpAny_eqBool_str ?_
 have:decide (tx l[j]=tx m[j])=decide (l.getD j []=m.getD j []):=by
  simp only[c6,c6,bO k1,bO k2];exact vE.mpr o9
 rw[this];exact hq
theorem a8.adl{i j:B}(hi:st.hp[i]?=some (.list<|aw l))(hj:st.hp[j]?=some (.list<|aw m)):a8 C n (iV .Eq) (.ref i) (.ref j) st (.bool<|decide (l=m)) st:=.mk λA s ρ x y Q hA R hx hy h=>by
 refine kn (mZ R hi hx) λa vs av ha hl il=>?_
 subst av;refine kn (mZ R hj hy) λb ws av hb hm im=>?_
 subst av;have z1:vs.size=U l:=by have:=dK il;rw[en,eO] at this;exact this
 have z2:ws.size=U m:=by have:=dK im;rw[en,eO] at this;exact this
 by_cases hz:U l=U m
 ·refine SeqAt.eq_listAt hl hm (by simp only[z1,z2,hz]) hA.units (Pz il im _ _) ?_
  simp only[z1,all_eq [] l m hz];exact h ρ _ s (ek R) rfl
 ·refine SeqAt.eq_list_lengthsAt hl hm (by simp only[z1,z2];exact D4.mpr hz) hA.units ?_
  rw[fB λe=>hz<|by rw[e]] at h;exact h ρ _ s (ek R) rfl
theorem a8.yO{i j:B}(hi:st.hp[i]?=some (.list<|aw l))(hj:st.hp[j]?=some (.list<|aw m)):a8 C n (iV .NotEq) (.ref i) (.ref j) st (.bool<|!decide (l=m)) st:=.mk λA s ρ x y Q hA R hx hy h=>by
 refine kn (mZ R hi hx) λa vs av ha hl il=>?_
 subst av;refine kn (mZ R hj hy) λb ws av hb hm im=>?_
 subst av;have z1:vs.size=U l:=by have:=dK il;rw[en,eO] at this;exact this
 have z2:ws.size=U m:=by have:=dK im;rw[en,eO] at this;exact this
 by_cases hz:U l=U m
 ·refine SeqAt.RcNeAt.lists hl hm (by simp only[z1,z2,hz]) hA.units (Pz il im _ _) _ _ bq Q ?_
  simp only[z1,all_eq [] l m hz];exact h ρ _ s (ek R) rfl
 ·refine SeqAt.RcNeAt.lists_lengths hl hm (by simp only[z1,z2];exact D4.mpr hz) hA.units _ _ bq Q ?_
  rw[fB λe=>hz<|by rw[e]] at h;exact h ρ _ s (ek R) rfl
section
variable{q:B}{hp tail sel:J O}
theorem jn.pick(hq:q<=U hp)(hc:gC hp)(ns:J B)(hn:ns.Nodup)(hs:ns.map (tail[·]?)=sel.map some)(v6:∀o∈sel,o.bG (λk=>decide (k<U hp))=true):
  ∃aiC g,(∀k,k<U hp->g k=true/\aiC k=k)/\(∀i t,ns[i]?=some t->g (U hp+t)=true/\aiC (U hp+t)=U hp+i)/\Cv q (fk q (U hp-q)++ns.map (U hp+ ·)) aiC g (hp++tail) (hp++sel):=by
 let ms:=fk q (U hp-q)++ns.map (U hp+ ·)
 have Hi:∀k,k<U hp->oZ q ms k=true/\n7 q ms k=k:=λk hk=>by
  refine xA (B4 (hp:=hp) hq) λG h2=>?_
  have G:=G k hk;have h2:=h2 k hk;unfold oZ at h2 ⊢;unfold n7 at G ⊢
  by_cases PA:k<q
  ·simp[PA]
  ·have hm:k∈fk q (U hp-q):=xe.mpr ⟨by exact iS ‹_›,by exact Z5 hk⟩;rw[aE PA] at G ⊢;refine⟨?_,?_⟩
   ·simp only[En,z7,ip];exact .inr<|JE _ hm
   ·(refine D (by show(fk q (U hp-q)++_).idxOf k=_;rw[J.idxOf_append,aU hm]:ms.idxOf k=(fk q<|U hp-q).idxOf k) ?_);exact G
 have ko:ms.Nodup:=by
  refine mG.mpr ⟨DT,?_,λa ha c hc=>?_⟩
  ·exact J.Pairwise.map _ (λH H h e=>h<|Z4 e) hn
  ·refine aH (fb.mp hc) λt H av=>?_
   subst av;have:=(xe.mp ha).2;exact Z3 this hq
 have uw:∀i t,ns[i]?=some t->oZ q ms (U hp+t)=true/\n7 q ms (U hp+t)=U hp+i:=λi t e=>by
  have pf:U hp+t∈ms:=zY _<|fb.mpr ⟨t,dT e,rfl⟩;have uO:ms[U hp-q+i]?=some (U hp+t):=by
   rw[dc (by rw[Aa];exact dZ _ _),Aa,jx,c7,e];rfl
  unfold oZ n7;refine D (aE<|Z2 hq)<|⟨?_,?_⟩
  ·simp only[En,z7,ip];exact .inr pf
  ·have bJ:=(cJ.mp uO).1;have e2:=(cJ.mp uO).2;have:ms.idxOf (U hp+t)=U hp-q+i:=by
    exact bL e2<|D3 ko _ bJ
   exact Z1 this hq
 refine⟨n7 q ms,oZ q ms,Hi,uw,?_⟩;refine Cv.of (base:=hp.take q) (sel:=hp.drop q++sel) rfl rfl ko (λk h=>?_) (D (w7 hq) rfl) (by refine D gE ?_;exact FB hq) ?_ ?_
 ·rcases bK.mp h with h|h
  ·exact(xe.mp h).1
  ·refine aH (fb.mp h) λt H av=>?_
   subst av;exact Z0 hq
 ·refine D eL<|D eL<|congr (bB _ ?_) ?_
  ·apply xc;intro i;refine D (c7) (D (c7) (D (z9) ?_))
   by_cases hi:i<U hp-q
   ·refine D (DO hi) ?_
    have hb:q+i<U hp:=by exact Fg hi
    simp only[vG,Ao];refine D (cA hb)<|D (bO hb) ?_;rfl
   ·(refine D (rQ<|by rw[Aa];exact iS ‹_›)<|D (rQ<|Ny hi) ?_);rfl
  ·refine D gP<|bL hs ?_;apply rU;intro t _;show(hp++tail)[U hp+t]?=_;rw[dc (dZ ..),jx]
 ·rw[←cm,rR];refine o6.same λo ho=>?_
  have:=(bK.mp ho).elim (hc o)<|v6 o;exact⟨O.m6 (λk hk=>(Hi k<|dq hk).1) this,(O.jC (λk hk=>(Hi k<|dq hk).2) this).symm⟩
end
section
variable{os:bM}{dr:cV}
theorem yP{os:bM}{dr:cV}{o:bc}{a L:ax}:sO (fr w os dr o a L):=by
 show tX<(bZ w.params).objs.size;exact B.lt_of_lt_of_eq (by decide:tX<319) (by kernel_rfl)
theorem rk.fe{C:Cx}{st:St}{k:B}{l:J (ao×V)}(hk:st.hp[k]?=some (.fe l)):rk C (.ref k) st "dict":=λs ρ x R hv=>by
 refine pS (BV R hk hv) λa bI av ha hd e1 e2=>?_
 subst av;exact⟨hd.typeIs,hd.mapOf.noDict⟩
theorem fJ{e:bv}{b c:bb}(h:TV C n e st b am)(hb:b=c):TV C n e st c am:=hb▸h
noncomputable def lS(f u:J<|J B):J O:=[.list<|aw f,.list<|aw u,.attrs<|jJ<|U<|keysOf u,.inst 242 2,.fe<|jI 5<|keysOf u]++ju u (keysOf u)++[.fZ,.fZ]
theorem ql(f u:J<|J B):U (lS f u)=7+U (keysOf u):=by
 exact D aK<|D aK<|D (bg _)<|nK _ _ _
theorem wn(f u:J<|J B):gC (lS f u):=by
 intro o ho;refine D (ql _ _) ?_
 rcases bK.mp ho with ho|h
 rcases bK.mp ho with h|h
 ·simp only[cu,g8,rY] at h;rcases h with rfl|rfl|rfl|rfl|rfl
  ·exact eZ
  ·exact eZ
  ·show((jJ<|U<|keysOf u).all λp=>p.2.bG λk=>decide (k<7+U (keysOf u)))=true;simp only[jJ,rt,sR,oB,xj,V.ut,V.NZ,V.N7,lF,xz,gS,ip];exact Xf
  ·exact dG Xe
  ·exact GX _ _ _ Xd
 ·refine aH (fb.mp h) λx H av=>?_
  subst av;exact Pe
 ·simp only[cu,g8,rY,or_self] at h;subst h;rfl
theorem PB:∀(k:B) (l:J V),U (pairs k l)=U l
 |_,[]=>rfl
 |k,v::l=>by show U (pairs (k+1) l)+1=_;exact D (PB _ _) rfl
theorem adm(p:B)(h:4<p):∀x∈([("b2j",.ref 4),("b",.ref 1),("self",.ref 3)]:J<|ao×V),x.2.bG (λk=>decide (k<p))=true:=by
 intro x hx;simp only[cu,g8,rY] at hx;rcases hx with rfl|rfl|rfl<;>exact dG (by omega)
theorem adn{α:Type}(A aix:J α)(c d s:α){k:B}(hk:k<U A):((A++aix++[c]).set k s).set (U A+U aix) d=A.set k s++aix++[d]:=by
 rw[cm,JF _ _ hk,zZ _ _ (by rw[qN];exact dZ _ _),zZ _ _<|by rw[qN];exact Xc];rw[qN,jx,fG,cm];rfl
end
end
namespace yQ
noncomputable def ES(w:bz)(os:bM)(dr:cV)(n:B)(f:J<|J B)(u:J<|J B)(_ _ _ _ _ _ _:fF):Prop:=(U u<200)->cC (TW w os dr) (n+1) (.ref 188) [.list<|aw f,.list<|aw u,.attrs sR,.inst 242 2] [.ref 3]
  (lS f u) .none
@[irreducible] noncomputable def EX:=nU oO default {} 0 [] [] () () () () () () () ES
noncomputable def w:=EX.1
noncomputable def os:=EX.2.1
noncomputable def dr:=EX.2.2.1
noncomputable def n:=EX.2.2.2.1
noncomputable def f:=EX.2.2.2.2.1
noncomputable def u:=EX.2.2.2.2.2.1
theorem Ee:ES w os dr n f u () () () () () () ():=λhz=>by
 refine m7 (Gu _) rfl (λxs hx=>?_) λL=>?_
 ·revert xs;exact sG λH=>rfl
 have cl:=qh w.params;have ge:=abh w.params;have be:=abm w.params;have gs:=abg w.params;have bs:=abl w.params;have gl:=qb w.params;have bl:=qd w.params;have Cg:U (aw u)=U u:=bg ..;refine cZ (EV.attr (k:=3) (d:=2) (l:=sR) ah rfl rfl rfl cl (by kernel_rfl) (by kernel_rfl) wg λH h=>by cases h)<|jG EV.abH (cF.cons (kX (k:=3) (d:=2) (l:=sR) ah rfl rfl cl (by kernel_rfl) (by kernel_rfl) O0)<|cF.cons bW cF.nil) ?_
 refine cg (nW 4 (items:=pairs 0 (aw u)) (aiy:=λaj=>aj.hp[1]?=some (.list (aw u))) (lo:=2) (am:=⟨[("b2j",.ref 4),("b",.ref 1),("self",.ref 3)],lO f u []⟩)
  (λi aj=>aj=⟨[("b2j",.ref 4),("b",.ref 1),("self",.ref 3)],lO f u (u.take i)⟩) (gw.enum (cB (cQ _) ge (dN _) be) ah rfl) rfl (λi aj hi hI=>by subst hI;rfl) (by decide) (bY rfl) (λi aiA aj hu hI=>?_) (λaj hI=>?_))
 ·subst hI;rw[BD] at hu;unfold aw at hu;rw[c7] at hu;cases hq:u[i]? with
  |none=>rw[hq] at hu;cases hu
  |some x=>
  rw[hq] at hu;cases hu;refine D (iu _) ?_
  have hi:=(cJ.mp hq).1;have hlen:U (u.take i)=i:=by exact D gE<|Xb hi
  have m8:u.take (i+1)=u.take i++[x]:=by refine D qM<|D hq ?_;rfl
  have wc:=acQ<|u.take i;have li:=Pf x<|u.take i;refine⟨_,cW.tup<|bU.cons bW<|bU.cons bW bU.nil,(D m8 ?_)⟩;have ko:=acM<|u.take i
  by_cases hx:x∈keysOf (u.take i)
  ·have uG:(jI 5<|keysOf<|u.take i).lookup (tx x)=some (.ref<|5+(keysOf<|u.take i).idxOf x):=by rw[B6,aU<|by simpa using hx]
   have bJ:=DK.mpr hx;have cO:((lO f u<|u.take i)++[O.list []])[5+(keysOf<|u.take i).idxOf x]?=some (.list<|mx<|posOf x<|u.take i):=by
    (refine D (cA<|by rw[sS];exact Fn bJ) ?_)
    (refine D (dc<|by show 5<=_;exact dZ _ _) ?_)
    refine D (jx _ _) ?_
    refine D (c7)<|D (bO bJ)<|D (DR bJ) ?_;rfl
   refine cZ (jq ah (rk.fe (k:=4) rfl) (an ah<|an (eI aM) aM) (aQ.abK (k:=4) yP rfl uG<|by refine D (GW _ _) ?_;exact Fk hz hi hlen wc) Ex KK KL) ?_
   refine eE (iF ah cO ah cO<|by unfold mx;rw[bg];exact Fk hz hi hlen li) ?_
   refine b7 (l':=[("b2j",.ref 4),("b",.ref 1),("self",.ref 3)]) (aY:=lO f u (u.take i++[x])++[.list []]) (bp rfl) ?_ ?_
   ·show(lO f u (u.take i)++[O.list []]).set _ (O.list<|mx (posOf x<|u.take i)++[V.int i])=_
    (refine D (JF _ _<|by rw[sS];exact Fn bJ) ?_)
    unfold lO;rw[zZ _ _ (by show 5<=_;exact dZ _ _),Pa,aU (by simpa using hx),←acN ko hx,hlen,cm,cm];refine D (jx _ _) ?_
    unfold mx;refine D eL ?_;rfl
   ·exact jo (mw (l':=[("b2j",.ref 4),("b",.ref 1),("self",.ref 3)]) (by rw[sS];exact Xa) (acP _ _ _) (λH H h=>h)<|adm _<|by rw[sS];exact dZ _ _) (bd rfl) (by rw[aK,sS];exact W9)
  ·have uG:(jI 5<|keysOf<|u.take i).lookup (tx x)=aA:=by rw[B6,aE<|by simpa using hx]
   have hxb:x∉u.take i:=λh=>hx<|Pb.mpr h;have hm:U (lO f u<|u.take i)=5+U (keysOf<|u.take i):=sS ..;have cO:((lO f u (u.take i)++[O.list []]).set 4<|O.fe<|jI 5 (keysOf<|u.take i)++[(tx x,V.ref<|5+U (keysOf<|u.take i))])[5+U (keysOf<|u.take i)]?=some (.list []):=by
    refine D (z6<|by exact W8) (D (dc<|by exact W7 hm)<|D hm<|D (fG _) ?_);rfl
   refine cZ (jq ah (rk.fe (k:=4) rfl) (an ah<|an (eI aM) aM) (aQ.abM (k:=4) yP rfl uG<|by refine D (GW _ _) ?_;exact Fk hz hi hlen wc) Ex KK KL) ?_
   refine b7 (l':=[("indices",.ref<|5+U (keysOf<|u.take i)),("i",.int i),("b2j",.ref 4),("b",.ref 1),("self",.ref 3)]) (aY:=((lO f u (u.take i)++[O.list []]).set 4<|O.fe<|jI 5 (keysOf<|u.take i)++[(tx x,V.ref<|5+U (keysOf<|u.take i))])) (by refine bL hm ?_;exact bp rfl) (by refine bL hm ?_;rfl) ?_
   refine eE (iF ah cO ah cO<|bH _)<|b7 (l':=[("b2j",.ref 4),("b",.ref 1),("self",.ref 3)]) (aY:=lO f u<|u.take i++[x]) (bp rfl) ?_<|bd rfl;show((lO f u (u.take i)++[O.list []]).set 4 _).set _ (O.list<|[]++[V.int i])=_;unfold lO;rw[Pa,aE (by simpa using hx),←acO hx hxb,Pd,hlen];have PC:U (ju (u.take i)<|keysOf<|u.take i)=U (keysOf<|u.take i):=by unfold ju;exact D (bg _) rfl
   refine bL PC ?_
   exact(adn _ _ _ _ _<|by exact bY rfl).trans (by rw[PC,cm];rfl)
 ·subst hI;have he:U (pairs 0<|aw u)=U u:=by rw[PB,Cg]
  refine D he<|D pI<|bd ?_;have hm:U (lO f u u)=5+U (keysOf u):=sS ..;refine jG (EV.qf (cB (cQ _) gs (dN _) bs) aM gz.type<|gA.of aQ.ON) (cF.cons (kX (k:=3) (d:=2) (l:=rt) ah rfl rfl cl (by kernel_rfl) (by kernel_rfl) O1)<|cF.cons bW cF.nil) ?_
  refine b7 (l':=[("b2j",.ref 4),("b",.ref 1),("self",.ref 3)]) (aY:=[.list<|aw f,.list<|aw u,.attrs<|("bjunk",.ref<|5+U (keysOf u))::rt,.inst 242 2,.fe<|jI 5<|keysOf u]++ju u (keysOf u)++[.fZ]) (bp rfl) (by refine bL hm ?_;rfl) ?_
  refine cZ (EV.attr (k:=3) (d:=2) (l:=("bjunk",.ref<|5+U (keysOf u))::rt) ah rfl rfl rfl cl (by kernel_rfl) (by kernel_rfl) OY λH h=>by cases h) (lM (fv ah fu.none)<|jG (EV.qf (cB (cQ _) gs (dN _) bs) aM gz.type<|gA.of aQ.ON) (cF.cons (kX (k:=3) (d:=2) (l:=("bjunk",.ref<|5+U (keysOf u))::rt) ah rfl rfl cl (by kernel_rfl) (by kernel_rfl) acq)<|cF.cons bW cF.nil) ?_);have hi5:U (ju u<|keysOf u)=U (keysOf u):=by unfold ju;exact D (bg _) rfl
  refine b7 (l':=[("b2j",.ref 4),("b",.ref 1),("self",.ref 3)]) (aY:=[.list<|aw f,.list<|aw u,.attrs<|jJ<|U<|keysOf u,.inst 242 2,.fe<|jI 5<|keysOf u]++ju u (keysOf u)++[.fZ,.fZ]) (bp rfl) ?_ ?_
  ·have e6:U (ju u (keysOf u)++[O.fZ])+5=6+U (keysOf u):=by exact D aK (D hi5 W6)
   show[_,_,O.attrs<|("bpopular",V.ref<|U (ju u (keysOf u)++[O.fZ])+5)::_,_,_]++(ju u (keysOf u)++[O.fZ]++[O.fZ])=_;rw[e6,cm,cm];rfl
  refine cZ (fw (cB (cQ _) gl (dN _) bl) (an ah aM)<|qa (k:=1) (l:=aw u) rfl<|by lia) ?_
  refine lM (kq (fv (EV.attr (k:=3) (d:=2) (l:=jJ<|U<|keysOf u) ah rfl rfl rfl cl (by kernel_rfl) (by kernel_rfl) OZ λH h=>by cases h) kR)<|jm<|fJ (bV ah bA a8.ge_int)<|by refine D Cg ?_;exact fB<|by lia) ?_
  refine bd ⟨_,rfl,?_⟩;have:=Conv.drop (q:=4) (hp:=lS f u) (junk:=[]) (v:=.none) (by refine D (ql _ _) ?_;exact su) (wn f u) rfl;rw[cM] at this;exact this
end yQ
section
variable{w:bz}{os:bM}{dr:cV}{f u:J (J B)}
section
variable{n:B}
theorem ado:∀{w os dr n f u},yQ.ES w os dr n f u () () () () () () ():=by with_unfolding_all exact oM yQ.ES yQ.EX rfl yQ.Ee _ _ _ _ _ _ () () () () () () ()
end
section
variable{n:B}
theorem yR{l:J (ao×V)}(h:(l.all λp=>p.2.bG λk=>decide (k<4))=true):∀o∈([.list<|aw f,.list<|aw u,.attrs l,.inst 242 2]:J O),o.bG (λk=>decide (k<4))=true:=by
 intro o ho;simp only[cu,g8,rY] at ho;rcases ho with rfl|rfl|rfl|rfl
 ·exact eZ
 ·exact eZ
 ·exact h
 ·rfl
theorem adp(hz:U u<200):cC (TW w os dr) (n+2) (.ref 181) [.list<|aw f,.list<|aw u,.attrs wl,.inst 242 2] [.ref 3,.ref 1] (lS f u) .none:=by
 refine m7 (Gs _) rfl (λxs hx=>?_) λL=>?_
 ·revert xs;exact sH λH H=>rfl
 have cl:=qh w.params;refine eE dF (lM (bV ah (EV.attr (k:=3) (d:=2) (l:=wl) ah rfl rfl rfl cl (by kernel_rfl) (by kernel_rfl) wg λH h=>by exact nomatch h) a8.is_ref_none)<|jG ah (cF.cons (kX (k:=3) (d:=2) (l:=wl) ah rfl rfl cl (by kernel_rfl) (by kernel_rfl) wg) cF.nil)<|jG EV.none (cF.cons (kX (k:=3) (d:=2) ah rfl rfl cl (by kernel_rfl) (by kernel_rfl) yz)<|cF.cons (kX (k:=3) (d:=2) ah rfl rfl cl (by kernel_rfl) (by kernel_rfl) BY) cF.nil) ?_);refine jG EV.none (cF.cons (kX (k:=3) (d:=2) ah rfl rfl cl (by kernel_rfl) (by kernel_rfl) acp) cF.nil) ?_
 have ch:=ado (w:=w) (os:=os) (dr:=dr) (n:=n) (f:=f) (u:=u) hz;refine b7 (l':=[("self",.ref 3),("b",.ref 1)]) (aY:=[.list<|aw f,.list<|aw u,.attrs sR,.inst 242 2]) (bp rfl) rfl ?_
 refine eE (EV.ro (k:=3) (d:=2) (l:=sR) ah rfl rfl cl (acl _) (Gu _).get rfl (Gu _).fd acv aM (cC.same ch (by simp only[ql];exact su) (yR rfl) rfl) (by kernel_rfl)<|by kernel_rfl) ?_
 refine bd ⟨_,rfl,?_⟩;have:=Conv.drop (q:=4) (hp:=lS f u) (junk:=[]) (v:=.none) (by refine D (ql _ _) ?_;exact su) (wn f u) rfl;rw[cM] at this;exact this
theorem adq(hz:U u<200):cC (TW w os dr) (n+3) (.ref 167) [.list<|aw f,.list<|aw u,.attrs uN,.inst 242 2] [.ref 3,.ref 0,.ref 1] (lS f u) .none:=by
 refine m7 (Gq _) rfl (λxs hx=>?_) λL=>?_
 ·revert xs;exact Gn λH H H=>rfl
 have cl:=qh w.params;refine eE dF ?_
 have c1:=(acK (w:=w) (os:=os) (dr:=dr) (n:=n+1) (f:=f) (u:=u))
 have c2:=adp (w:=w) (os:=os) (dr:=dr) (n:=n) (f:=f) (u:=u) hz;refine eE (EV.ro (k:=3) (d:=2) (l:=uN) ah rfl rfl cl (acj _) (Gr _).get rfl (Gr _).fd acs (an ah aM) (cC.same c1 (aG _) (yR rfl) rfl) (by kernel_rfl)<|by kernel_rfl) ?_
 refine eE (EV.ro (k:=3) (d:=2) (l:=wl) ah rfl rfl cl (ack _) (Gs _).get rfl (Gs _).fd act (an ah aM) (cC.same c2 (by simp only[ql];exact su) (yR rfl) rfl) (by kernel_rfl)<|by kernel_rfl) ?_
 refine bd ⟨_,rfl,?_⟩;have:=Conv.drop (q:=4) (hp:=lS f u) (junk:=[]) (v:=.none) (by refine D (ql _ _) ?_;exact su) (wn f u) rfl;rw[cM] at this;exact this
end
section
variable{n:B}
noncomputable def adr(P:aP):bD ak:=match (FH P).data with| .seq x _=>x|_=>#[]
theorem ads(hz:U u<200):cC (TW w os dr) (n+4) (.ref 160) [.list<|aw f,.list<|aw u,.attrs [],.inst 242 2] [.ref 3,.none,.ref 0,.ref 1] (lS f u) .none:=by
 have aiy:=Ot w.params;refine cC.Oa aiy.get aiy.fd rfl aiy.code (noLimit _) (names:=["self","isjunk","a","b","autojunk"]) (Td:=153) (od:=FH w.params) (items:=adr w.params) (m:=0) (ds:=[.bool true]) (xd:=[.bool true]) (by kernel_rfl) (by kernel_rfl) (by kernel_rfl) (λρ h=>⟨_,[],rfl,rfl,rfl⟩) (λxs hx=>?_) aiy.nd aiy.cell aiy.loc λL=>?_
 ·revert xs;exact yl λH H H H=>rfl
 have cl:=qh w.params;refine eE dF (jG ah (cF.cons (kX (k:=3) (d:=2) (l:=[]) ah rfl rfl cl (by kernel_rfl) (by kernel_rfl) OY) cF.nil)<|jG EV.none (cF.cons (kX (k:=3) (d:=2) ah rfl rfl cl (by kernel_rfl) (by kernel_rfl) yy)<|cF.cons (kX (k:=3) (d:=2) ah rfl rfl cl (by kernel_rfl) (by kernel_rfl) wg) cF.nil)<|jG ah (cF.cons (kX (k:=3) (d:=2) ah rfl rfl cl (by kernel_rfl) (by kernel_rfl) OZ) cF.nil) ?_);have c2:=adq (w:=w) (os:=os) (dr:=dr) (n:=n) (f:=f) (u:=u) hz;refine b7 (l':=[("self",.ref 3),("a",.ref 0),("b",.ref 1)]) (aY:=[.list<|aw f,.list<|aw u,.attrs uN,.inst 242 2]) (bp rfl) rfl ?_
 refine eE (EV.ro (k:=3) (d:=2) (l:=uN) ah rfl rfl cl (aci _) (Gq _).get rfl (Gq _).fd acr (an ah<|an ah aM) (cC.same c2 (by refine D (ql _ _) ?_;exact su) (yR rfl) rfl) (by kernel_rfl)<|by kernel_rfl) ?_
 refine bd ⟨_,rfl,?_⟩;have:=Conv.drop (q:=4) (hp:=lS f u) (junk:=[]) (v:=.none) (by refine D (ql _ _) ?_;exact su) (wn f u) rfl;rw[cM] at this;exact this
end
end
namespace TC
theorem nk:qW "type" "__getattribute__" "type.__getattribute__":=
 .of (owner:="type") (n:="__getattribute__") (by rw[typeLookup_type,builtinLookup_eq_fast];kernel_rfl) (by decide+kernel) (by decide+kernel) (by decide+kernel)
  (by first|exact .inl (by decide+kernel)|exact .inr<|by decide+kernel) (by rw[isSubtype_type];kernel_rfl)
theorem Hj:qS table "type.__getattribute__"=some ed.«type.__getattribute__»:=entryFor_of_tree (by kernel_rfl)
theorem Hk(a b:ak):l9 "type.__getattribute__" ⟨[a,b],[]⟩:=by unfold l9;kernel_rfl
theorem PD:ea (.type "type") "__new__"=pure (some<|.builtin "type.__new__"):=by rw[typeLookup_type,builtinLookup_eq_fast];kernel_rfl
theorem PE:typeOf (.builtin "type.__new__")=pure (.type "builtin_function_or_method"):=by show builtinType _=_;rw[builtinType_eq_fast];kernel_rfl
theorem PF:ea (.type "builtin_function_or_method") "__get__"=pure aA:=by rw[typeLookup_type,builtinLookup_eq_fast];kernel_rfl
theorem PG:ea (.type "tuple") "__new__"=pure (some<|.builtin "tuple.__new__"):=by rw[typeLookup_type,builtinLookup_eq_fast];kernel_rfl
theorem Hl:qW "staticmethod" "__get__" "staticmethod.__get__":=
 .of (owner:="staticmethod") (n:="__get__") (by rw[typeLookup_type,builtinLookup_eq_fast];kernel_rfl) (by decide+kernel) (by decide+kernel) (by decide+kernel)
  (by first|exact .inl (by decide+kernel)|exact .inr<|by decide+kernel) (by rw[isSubtype_type];kernel_rfl)
theorem adt:qS table "staticmethod.__get__"=some ed.«staticmethod.__get__»:=entryFor_of_tree (by kernel_rfl)
theorem PH(a b c:ak):l9 "staticmethod.__get__" ⟨[a,b,c],[]⟩:=by unfold l9;kernel_rfl
theorem adu(a b c d:ak):l9 "object.__init__" ⟨[a,b,c,d],[]⟩:=by
 refine D (signature?_of (id:="object.__init__") (n:=['_','_','t','i','n','i','_','_']) (o:=['t','c','e','j','b','o']) (by kernel_rfl) F.owner_object) ?_;kernel_rfl
theorem adv:tU "object.__init__"=some .slot:=by kernel_rfl
theorem adw:splitId "object.__init__"=some ("object","__init__"):=by kernel_rfl
end TC
section
variable{E:ak->ay->Prop}{nm:ao}{c N sA fA:ax}{k0 k1 k2 k3 k5:bC ak}{mN mS:ao->bC ak}{Q:Fin->ay->Prop}{x y z:ak}
section
variable{M:du}{w:bz}{A:bS}{h:bn}{g:bD de}{d:cV}{t:B}{os:bM}
noncomputable def dW(nm q:ao)(c N:ax)(k0 k1 k2 k3 k5:bC ak):bc:=
 {cls:=.type "type",dict:=aA,data:=.cls {name:=nm,bases:=[.type "tuple"],mro:=[.ref c,.type "tuple",.type "object"],ns:=N,qualname:=q,hasDict:=false,slotNames:=[],subclasses:=[],abstract:=false,collection:=aA,hasDel:=false},slots:=#[k0,k1,k2,k3,some .none,k5]}
variable{q:ao}
theorem Ci{Q:J ak->ay->Prop}(hC:h.get? c=some (dW nm q c N k0 k1 k2 k3 k5))(hq:Q [.ref c,.type "tuple",.type "object"] ⟨h,g,d,t,os⟩):aF (aN M w) A (mroOf<|.ref c) Q E ⟨h,g,d,t,os⟩:=by
 unfold mroOf dW at*
 repeat (any_goals (first|assumption|wp_step))
theorem sW{base:ak}{Q:bb->ay->Prop}(hC:h.get? c=some (dW nm q c N k0 k1 k2 k3 k5))(hq:Q ([ue c,.type "tuple",.type "object"].contains base) ⟨h,g,d,t,os⟩):aF (aN M w) A (r7 (.ref c) base) Q E ⟨h,g,d,t,os⟩:=by
 unfold r7 dW at*
 repeat (any_goals (first|assumption|wp_step))
theorem adx{name:ao}{Q:bC ak->ay->Prop}(hC:h.get? c=some (dW nm q c N k0 k1 k2 k3 k5))(hn:h.Ns N mN)(hq:Q (mN name) ⟨h,g,d,t,os⟩):aF (aN M w) A (classOwn (.ref c) name) Q E ⟨h,g,d,t,os⟩:=by
 refine wpAny_bind ?_
 refine wpAny_bind<|wpAny_load hC<|wpAny_pure<|wpAny_nsGet hn hq
theorem qm{name:ao}{y:bC ak}{Q:bC ak->ay->Prop}(hC:h.get? c=some (dW nm q c N k0 k1 k2 k3 k5))(hn:h.Ns N mN)(hB:ea (.type "tuple") name=pure y)
  (hq:Q (match mN name with|some v=>some v|none=>y) ⟨h,g,d,t,os⟩):aF (aN M w) A (ea (.ref c) name) Q E ⟨h,g,d,t,os⟩:=by
 have yS:lookupAlong [.type "tuple",.type "object"] name=pure y:=by simp only[typeLookup_eq,F.mro_tuple] at hB;exact hB
 simp only[typeLookup_eq];refine wpAny_bind<|Ci hC ?_;rw[lookupAlong_cons];refine wpAny_bind<|adx hC hn ?_;cases hv:mN name with
 |some v=>rw[hv] at hq;exact wpAny_pure hq
 |none=>rw[hv] at hq;exact D yS<|wpAny_pure hq
theorem ady{tk:jh}(hC:h.get? c=some (dW nm q c N k0 k1 k2 k3 k5))(hn:h.Ns N mN)(hs:mN "__new__"=some (.ref sA))(lT:h.get? sA=some ⟨.type "staticmethod",aA,.fields #[.ref fA],#[]⟩)
  (gX:h.Ns r9 mS) (ph:mS "thirdparty.any"=aA)
  (hq:Q (.done<|.ret<|.ref fA) ⟨h,g,d,t,os⟩):aF (aN M w) A (ed.«type.__getattribute__» ⟨[.ref c,.str "__new__" tk],[]⟩) Q E ⟨h,g,d,t,os⟩:=by
 have hT:(⟨h,g,d,t,os⟩:ay).TypeIs (.ref c) "type":=⟨_,hC,rfl⟩
 have lU:(⟨h,g,d,t,os⟩:ay).TypeIs (.ref sA) "staticmethod":=⟨_,lT,rfl⟩
 have f1:=TC.PD;have f2:=TC.PE;have f3:=TC.PF;have f4:=TC.Hl.lookup;unfold ed.«type.__getattribute__»
 repeat (first|with_reducible refine wpAny_nsGet gX ?_|with_reducible refine qm hC hn TC.PG ?_|wp_step)
 refine D hs ?_
 have f5:=TC.PH (.ref sA) .none<|.ref c
 repeat (any_goals (first|assumption|wp_step))
 refine codeAny_call_builtin TC.Hl.plain TC.adt<|TC.Hl.check _ _ _ _ _ _ _ _ lU (TC.PH _ _ _) ?_
 repeat (any_goals (first|assumption|with_reducible refine wpAny_loadPart_at lT ?_|wp_step))
theorem adz{Q:ak->ay->Prop}(hC:h.get? c=some (dW nm q c N k0 k1 k2 k3 k5))(hn:h.Ns N mN)(hs:mN "__new__"=some (.ref sA))(lT:h.get? sA=some ⟨.type "staticmethod",aA,.fields #[.ref fA],#[]⟩)
  (gX:h.Ns r9 mS) (ph:mS "thirdparty.any"=aA)
  (hq:Q (.ref fA) ⟨h,g,d,t+1,os⟩):aF (aN M w) A (l8 (.ref c) "__new__") Q E ⟨h,g,d,t,os⟩:=by
 have hT:∀t,(⟨h,g,d,t,os⟩:ay).TypeIs (.ref c) "type":=λt=>⟨_,hC,rfl⟩
 have yT:=hT t;have lU:=hT<|t+1;have f2:=TC.nk.lookup;have f3:=TC.nk.bind<|.ref c;unfold l8
 repeat (any_goals (first|assumption|wp_step))
 refine codeAny_call_builtin TC.nk.plain TC.Hj<|TC.nk.check _ _ _ _ _ _ _ _ lU (TC.Hk _ _)<|ady hC hn hs lT gX ph ?_
 repeat (any_goals (first|assumption|wp_step))
theorem PI{Q:bC dm->ay->Prop}(hC:h.get? c=some (dW nm q c N k0 k1 k2 k3 k5))(hq:Q aA ⟨h,g,d,t,os⟩):aF (aN M w) A (Bind.madeBy<|.ref c) Q E ⟨h,g,d,t,os⟩:=by
 unfold Bind.madeBy;have i8:=hC;unfold dW at i8
 repeat (first|with_reducible refine Ci hC ?_|with_reducible refine wpAny_loadPart_at i8 ?_|wp_step)
 exact hq
theorem adA{a:ax}{dd:bC ax}{vs:bD ak}{n:B}{Q:fF->ay->Prop}(hC:h.get? c=some (dW nm q c N k0 k1 k2 k3 k5))(ha:h.get? a=some ⟨.ref c,dd,.seq vs n,#[]⟩)(hq:Q () ⟨h,g,d,t,os⟩):
  aF (aN M w) A (mJ "object.__init__" ⟨[.ref a,x,y,z],[]⟩) Q E ⟨h,g,d,t,os⟩:=by
 have Hm:=TC.adu (.ref a) x y z;unfold mJ;refine D TC.adv<|D TC.adw ?_
 repeat (first|with_reducible refine wpAny_loadPart_at ha ?_|with_reducible refine sW hC ?_|wp_step)
 exact hq
theorem adB{a:ax}{dd:bC ax}{vs:bD ak}{n:B}(hC:h.get? c=some (dW nm q c N k0 k1 k2 k3 k5))(hn:h.Ns N mN)(hi:mN "__init__"=aA)(ha:h.get? a=some ⟨.ref c,dd,.seq vs n,#[]⟩)(hq:Q (.done<|.ret .none) ⟨h,g,d,t,os⟩):
  aF (aN M w) A (ed.«object.__init__» ⟨[.ref a,x,y,z],[]⟩) Q E ⟨h,g,d,t,os⟩:=by
 unfold ed.«object.__init__»
 repeat (first|with_reducible refine wpAny_loadPart_at ha ?_|with_reducible refine qm hC hn init_tuple_lookup ?_|with_reducible refine PI hC ?_|wp_step)
 exact hq
theorem adC
  (hC:h.get? c=some (dW nm q c N k0 k1 k2 k3 k5)) (hn:h.Ns N mN) (hs:mN "__new__"=some (.ref sA)) (hi:mN "__init__"=aA) (lT:h.get? sA=some ⟨.type "staticmethod",aA,.fields #[.ref fA],#[]⟩)
  (gX:h.Ns r9 mS) (ph:mS "thirdparty.any"=aA)
  (hq:aF (aN M w) A (gR (.ref fA) [.ref c,x,y,z]) (λr s'=>∃a dd vs n,r= .ref a/\s'.heap.get? a=some ⟨.ref c,dd,.seq vs n,#[]⟩/\(s'.heap.get? c=some (dW nm q c N k0 k1 k2 k3 k5)/\s'.heap.Ns N mN)/\Q (.done<|.ret r) s') E ⟨h,g,d,t+1,os⟩):aF (aN M w) A (ed.«type.__call__» ⟨[.ref c,x,y,z],[]⟩) Q E ⟨h,g,d,t,os⟩:=by
 unfold ed.«type.__call__»;have i8:=hC
 repeat (first|refine wpAny_mono hq (λr s' hr=>?_) (λH H x=>x)|with_reducible refine Ci hC ?_|with_reducible refine wpAny_loadPart_at i8 ?_|with_reducible refine adz hC hn hs lT gX ph ?_|wp_step)
 refine Lo hr λa dd vs m av ha kW hQ=>?_
 clear hr;subst av;obtain⟨yU,qo⟩:=kW;obtain⟨h',g',d',t',Cj⟩:=s';dsimp only at ha yU qo
 repeat (first|with_reducible refine wpAny_loadPart_at ha ?_|with_reducible refine sW yU ?_|with_reducible refine qm yU qo init_tuple_lookup ?_|wp_step)
 refine D hi ?_
 refine wpAny_holding<|wpAny_bind<|wpAny_of_eq (KT.bind _) ?_;refine wpAny_bind<|wpAny_call<|codeAny_call_builtin KT.plain F.entry_object_init<|adA yU ha<|adB yU qo hi ha ?_
 repeat (first|exact hQ|wp_step)
end
section
variable{M:du}{w:bz}{A:bS}{h:bn}{g:bD de}{d:cV}{t:B}{os:bM}
variable{q:ao}
theorem adD{rest:J ak}{Q:fF->ay->Prop}(hC:h.get? c=some (dW nm q c N k0 k1 k2 k3 k5))(hq:Q () ⟨h,g,d,t,os⟩):aF (aN M w) A (mJ "type.__call__" ⟨.ref c::rest,[]⟩) Q E ⟨h,g,d,t,os⟩:=by
 have f3:=tc_sub;have hT:(⟨h,g,d,t,os⟩:ay).TypeIs (.ref c) "type":=⟨_,hC,rfl⟩
 unfold dW at hC;unfold mJ;refine D tc_kind<|D tc_split ?_
 repeat (any_goals (first|assumption|with_reducible refine wpAny_loadPart_at hC ?_|with_reducible refine wpAny_onRaise ?_|with_reducible refine wpAny_map ?_|wp_step))
theorem adE{Q:ak->ay->Prop}
  (hC:h.get? c=some (dW nm q c N k0 k1 k2 k3 k5)) (hn:h.Ns N mN) (hs:mN "__new__"=some (.ref sA)) (hi:mN "__init__"=aA) (lT:h.get? sA=some ⟨.type "staticmethod",aA,.fields #[.ref fA],#[]⟩)
  (gX:h.Ns r9 mS) (ph:mS "thirdparty.any"=aA)
  (hq:aF (aN M w) (A.under<|.builtin "type.__call__" ⟨[.ref c,x,y,z],[]⟩) (gR (.ref fA) [.ref c,x,y,z]) (λr s'=>∃a dd vs n,r= .ref a/\s'.heap.get? a=some ⟨.ref c,dd,.seq vs n,#[]⟩/\(s'.heap.get? c=some (dW nm q c N k0 k1 k2 k3 k5)/\s'.heap.Ns N mN)/\Q r s') E ⟨h,g,d,t+1,os⟩):aF (aN M w) A (gR (.ref c) [x,y,z]) Q E ⟨h,g,d,t,os⟩:=by
 have f1:=tc_lookup;have f2:=tc_bind<|.ref c;have hT:(⟨h,g,d,t,os⟩:ay).TypeIs (.ref c) "type":=⟨_,hC,rfl⟩
 have i8:=hC;refine wpAny_call<|codeAny_of_tree ?_;show aF _ _ (callAny (.ref c) _) _ _ _
 repeat (any_goals (first|assumption|with_reducible refine wpAny_loadPart_at i8 ?_|wp_step))
 exact⟨rfl,codeAny_call_builtin_at (xx _<|by decide+kernel) entry_typeCall<|adD hC<|adC hC hn hs hi lT gX ph hq⟩
end
section
variable{C:Cx}{n:B}{st am ba ce:St}
theorem gz.tup{q:ao}(hC:C.top.get? c=some (dW nm q c N k0 k1 k2 k3 k5)):gz C (.val (.ref c)) st:=.mk λs ρ x R hx=>⟨.machine,by decide,λA Q hq=>by
 subst hx;have i8:=R.led.top _ _ hC;obtain⟨hh,g,d,t,os⟩:=s;have f1:=tc_lookup;have hT:(⟨hh,g,d,t,os⟩:ay).TypeIs (.ref c) "type":=⟨_,i8,rfl⟩
 repeat (any_goals (first|assumption|with_reducible refine wpAny_loadPart_at i8 ?_|with_reducible refine wpAny_load' i8 ?_|wp_step))
 all_goals first
  |exact hq
  |(rw[aU rfl];exact hq)⟩
end
end
namespace TC
theorem adF:typeOf (.builtin "tuple.__new__")=pure (.type "builtin_function_or_method"):=by show builtinType _=_;rw[builtinType_eq_fast];kernel_rfl
theorem Ck:typeOf (.type "tuple")=pure (.type "type"):=by kernel_rfl
theorem adG:ed.heldUnderItsOwnName "__new__" (.builtin "tuple.__new__")=false:=by decide+kernel
theorem PJ:withoutEnding? "tuple.__new__" "#data"=aA:=by decide+kernel
theorem adH:Manifest.isStub "tuple"=false:=by first|rfl|decide+kernel|kernel_rfl
end TC
section
variable{E Q:ak->ay->Prop}
section
variable{M:du}{w:bz}{A:bS}{h:bn}{g:bD de}{d:cV}{t:B}{os:bM}
theorem adI{tk:jh}{Q:Fin->ay->Prop}(hq:Q (.done<|.ret<|.builtin "tuple.__new__") ⟨h,g,d,t,os⟩):aF (aN M w) A (ed.«type.__getattribute__» ⟨[.type "tuple",.str "__new__" tk],[]⟩) Q E ⟨h,g,d,t,os⟩:=by
 have hT:(⟨h,g,d,t,os⟩:ay).TypeIs (.type "tuple") "type":=TC.Ck;have lU:(⟨h,g,d,t,os⟩:ay).TypeIs (.builtin "tuple.__new__") "builtin_function_or_method":=TC.adF;have f1:=TC.PD;have f2:=TC.PE;have f3:=TC.PF;have f4:=TC.PG;have f6:=TC.adG;have f7:=TC.PJ;have f8:=TC.adH;unfold ed.«type.__getattribute__»
 repeat (any_goals (first|assumption|wp_step))
theorem adJ(hq:Q (.builtin "tuple.__new__") ⟨h,g,d,t+1,os⟩):aF (aN M w) A (l8 (.type "tuple") "__new__") Q E ⟨h,g,d,t,os⟩:=by
 have yT:(⟨h,g,d,t,os⟩:ay).TypeIs (.type "tuple") "type":=TC.Ck;have lU:(⟨h,g,d,t+1,os⟩:ay).TypeIs (.type "tuple") "type":=TC.Ck;have f2:=TC.nk.lookup;have f3:=TC.nk.bind<|.type "tuple";have f7:=TC.PJ;have key:∀{R:Result->ay->Prop},R (.ok<|.ret<|.builtin "tuple.__new__") ⟨h,g,d,t+1,os⟩->codeAny (aN M w) A (.call (.builtin "type.__getattribute__") ⟨[.type "tuple",.str "__new__" t],[]⟩) R ⟨h,g,d,t+1,os⟩:=λhR=>
  codeAny_call_builtin TC.nk.plain TC.Hj (TC.nk.check _ _ _ _ _ _ _ _ lU (TC.Hk _ _)<|adI hR)
 unfold l8
 repeat (any_goals (first|assumption|wp_step))
 refine key ?_
 repeat (any_goals (first|assumption|wp_step))
theorem adK{Q:ak×J ak->ay->Prop}{pl:dD bb}(hq:Q (.builtin "tuple.__new__",[]) ⟨h,g,d,t+1,os⟩):aF (aN M w) A (getMethod (.type "tuple") "__new__" pl) Q E ⟨h,g,d,t,os⟩:=by
 have yT:(⟨h,g,d,t,os⟩:ay).TypeIs (.type "tuple") "type":=TC.Ck;have f2:=TC.nk.lookup;have f9:(Manifest.canonical "type.__getattribute__"!="object.__getattribute__")=true:=by decide+kernel
 unfold getMethod
 repeat (any_goals (first|assumption|with_reducible refine adJ ?_|wp_step))
end
section
variable{M:du}{w:bz}{A:bS}{h:bn}{g:bD de}{d:cV}{t:B}{os:bM}
variable{nm q:ao}{c N:ax}{k0 k1 k2 k3 k5:bC ak}
theorem adL:ed.Slots.bestBase [.type "tuple"]=pure (.type "tuple"):=by first|rfl|kernel_rfl
@[reducible] noncomputable def adM(nm q:ao)(c N:ax):ClassData:={name:=nm,bases:=[.type "tuple"],mro:=[.ref c,.type "tuple",.type "object"],ns:=N,qualname:=q,hasDict:=false,slotNames:=[],subclasses:=[],abstract:=false,collection:=aA,hasDel:=false}
theorem adN{Q:ClassData->ay->Prop}(hC:h.get? c=some (dW nm q c N k0 k1 k2 k3 k5))(hq:Q (adM nm q c N) ⟨h,g,d,t,os⟩):aF (aN M w) A (classData c) Q E ⟨h,g,d,t,os⟩:=wpAny_bind<|wpAny_load hC<|wpAny_pure hq
theorem PK(hC:h.get? c=some (dW nm q c N k0 k1 k2 k3 k5))(hq:Q (.type "tuple") ⟨h,g,d,t,os⟩):aF (aN M w) A (Kt<|.ref c) Q E ⟨h,g,d,t,os⟩:=by
 have hb:=adL;have hm:=EF.made;have i8:=hC;unfold dW at i8;unfold Kt
 iterate 40 (try (first|exact hq|with_reducible refine Ci hC ?_|with_reducible refine PI hC ?_|with_reducible refine adN hC ?_|with_reducible refine wpAny_of_eq hb ?_|with_reducible refine wpAny_of_eq hm ?_|wp_step))
theorem adO{Q:fF->ay->Prop}(hC:h.get? c=some (dW nm q c N k0 k1 k2 k3 k5))(hq:Q () ⟨h,g,d,t,os⟩):aF (aN M w) A (Bind.madeHere "tuple.__new__"<|.ref c) Q E ⟨h,g,d,t,os⟩:=by
 exact wpAny_bind (PK hC<|wpAny_bind<|wpAny_of_eq EF.made<|D (aE<|by simp)<|wpAny_pure hq)
theorem adP{mN:ao->bC ak}{tp:ax}{x y z:ak}{m:B}{Q:Fin->ay->Prop}(hC:h.get? c=some (dW nm q c N k0 k1 k2 k3 k5))(hn:h.Ns N mN)(hi:mN "__init__"=aA)
  (ie:h.get? tp=some ⟨.type "tuple",aA,.seq #[x,y,z] m,#[]⟩)
  (hq:∀h' e dd,(∀b o,h.get? b=some o->h'.get? b=some o)->h'.get? e=some ⟨.ref c,dd,.seq #[x,y,z] 0,#[]⟩->Q (.done<|.ret<|.ref e) ⟨h',g,d,t,os⟩):aF (aN M w) A (ed.«tuple.__new__» ⟨[.ref c,.ref tp],[]⟩) Q E ⟨h,g,d,t,os⟩:=by
 have i8:=hC
 iterate 60 (try (first|with_reducible refine wpAny_collect_seq tp (.inr rfl) ie rfl rfl (λh' hk=>?_) ?_|with_reducible refine adO hC ?_|with_reducible refine wpAny_loadPart_at i8 ?_|with_reducible refine sW hC ?_|with_reducible refine qm hC hn init_tuple_lookup ?_|wp_step))
 ·have k2:∀b o,h.get? b=some o->((h'.push {cls:=pQ "dict",data:=Data.dict #[]}).push {cls:=ue c,dict:=some h'.objs.size,data:=Data.seq #[x,y,z].toList.toArray}).get? b=some o:=λb o e=>dE _<|dE _<|hk b o e;exact wpAny_load (k2 _ _ i8) (wpAny_pure<|D (aE λe:(false=true)=>by cases e)<|wpAny_pure<|wpAny_pure<|hq _ _ (some h'.objs.size) k2<|ew _ rfl)
 ·exact bY rfl
end
end
namespace TC
theorem adQ:tU "tuple.__new__"=some .builtinFn:=by kernel_rfl
theorem adR:splitId "tuple.__new__"=some ("tuple","__new__"):=by kernel_rfl
theorem adS:plainId "tuple.__new__"=true:=by decide+kernel
end TC
section
variable{w:bz}{os:bM}{mN:ao->bC ak}{C:Cx}{n i p:B}{st am:St}{v v':V}{e:bv}{aiz:J O}
section
variable{M:du}{A:bS}{h:bn}{g:bD de}{d:cV}{t:B}{E:ak->ay->Prop}
variable{nm q:ao}{c N:ax}{k0 k1 k2 k3 k5:bC ak}
theorem adT{tp:ax}{Q:fF->ay->Prop}(hC:h.get? c=some (dW nm q c N k0 k1 k2 k3 k5))(hn:h.Ns N mN)(hi:mN "__init__"=aA)(hq:Q () ⟨h,g,d,t,os⟩):
  aF (aN M w) A (mJ "tuple.__new__" ⟨[.ref c,.ref tp],[]⟩) Q E ⟨h,g,d,t,os⟩:=by
 have hm:=EF.made;have i8:=hC;unfold mJ;refine D TC.adQ<|D TC.adR ?_
 iterate 40 (try (first|exact hq|with_reducible refine PK hC ?_|with_reducible refine wpAny_of_eq hm ?_|with_reducible refine wpAny_loadPart_at i8 ?_|with_reducible refine sW hC ?_|wp_step))
theorem adU{tp:ax}{x y z:ak}{m:B}{Q:ak->ay->Prop}(hC:h.get? c=some (dW nm q c N k0 k1 k2 k3 k5))(hn:h.Ns N mN)(hi:mN "__init__"=aA)
  (ie:h.get? tp=some ⟨.type "tuple",aA,.seq #[x,y,z] m,#[]⟩)
  (hq:∀h' e dd,(∀b o,h.get? b=some o->h'.get? b=some o)->h'.get? e=some ⟨.ref c,dd,.seq #[x,y,z] 0,#[]⟩->Q (.ref e) ⟨h',g,d,t,os⟩):aF (aN M w) A (gR (.builtin "tuple.__new__") [.ref c,.ref tp]) Q E ⟨h,g,d,t,os⟩:=
 wpAny_call (codeAny_call_builtin TC.adS F.entry_tuple_new<|adT hC hn hi<|adP hC hn hi ie λh' e dd k1 k2=>hq h' e dd k1 k2)
end
section
variable{ba ce:St}
theorem aQ.uA{c N:ax}{nm q:ao}{k0 k1 k2 k3 k5:bC ak}{aiA r:V}(hC:C.top.get? c=some (dW nm q c N k0 k1 k2 k3 k5))(hn:C.top.Ns N mN)(hi:mN "__init__"=aA):
  aQ C n (.builtin "tuple.__new__") [.val<|.ref c,.tup (.type "tuple") [aiA,v,r]] st (.tup (.ref c) [aiA,v,r]) st:=.mk λA s ρ xs Q hA R aV h=>by
 refine cE aV λx0 r1 bE e0 bR=>?_
 clear aV;subst bE;refine cE bR λx1 r2 uJ e1 i2=>?_
 clear bR;subst uJ;obtain rfl:r2=[]:=i2;subst e0;refine oK e1 λtc a vs m bE cO bR=>?_
 clear e1;subst bE;refine vT bR λy0 q1 e2 j0 y1 q2 B3=>ui B3 λe3 j1 y2 q3 e4 j2 e5=>?_
 subst e3 e4 e5;have hv:vs=#[y0,y1,y2]:=ua e2;subst hv;obtain⟨hh,g,d,t,os⟩:=s;refine adU (R.led.top _ _ hC) (hn.keeps R.led.top) hi cO λh' e dd hk he=>?_
 have N:=bk.grow (s':=⟨h',g,d,t,os⟩) R hk (eN.refl _) rfl rfl;exact h ρ _ _ N ⟨rfl,e,_,_,rfl,⟨dd,he⟩,_,_,rfl,j0.mono N.pre N.aX,_,_,rfl,j1.mono N.pre N.aX,_,_,rfl,j2.mono N.pre N.aX,rfl⟩
theorem EV.uA{p apos pos:cN}{args:J bv}{vs:J V}(ho:EV C n (.Name "tuple" p) st (.val<|.type "tuple") am)(ha:iD C n args am vs ba)(oU:aQ C n (.builtin "tuple.__new__") vs ba v ce)
  (he:aO (args.all gV=true) a9) (hlen:aO (U args<30) aD._auto_1) (cw:∃e es,args=e::es:=by exact⟨_,_,rfl⟩)
  (oS:aO (vM (.Name "tuple" p) "__new__" C.env (eval (.Name "tuple" p) C.env)=eval (.Name "tuple" p) C.env) a9) (lL:aO ((apos.endLine==pos.line)=true) a9):EV C n (.Call (.Attribute (.Name "tuple" p) "__new__" apos) args [] pos) st v ce:=.mk λA s ρ Q hA R h=>by
 simp only[arm_eval_Call,oS];refine wpAny_bind<|ho A s ρ _ hA R λaC x s1 N1 i1=>?_;subst i1;refine wpAny_bind<|wpAny_standAt ?_;have yt:methodCallForm (U args+U ([]:J nO)) (lE pos<|lC args C.env) (qR pos<|qQ [] C.env)=true:=GI he hlen;have oW:vN true (.Name "tuple" p) C.env apos pos=pure pos:=by unfold vN;simp[lL]
 unfold methodCall;refine D yt ?_
 obtain⟨hh,g,d,t,os⟩:=s1;refine wpAny_bind<|wpAny_holding<|adK<|wpAny_bind<|wpAny_of_eq oW ?_;have N2:=N1.trans<|gj N1.rep<|t+1;refine ER ?_ ?_
 ·exact plain_any he
 exact BO ha hA N2.rep he λbh xs s2 N3 i2=>(oU A s2 bh xs Q hA N3.rep i2 λdp z s3 N4 i3=>h dp z s3 ((N2.trans N3).trans N4) i3)
end
noncomputable def esM(P:aP):J jz:=match (Bb P).data with| .dict es _=>es.toList|_=>[]
noncomputable def epM(P:aP):B:=match (Bb P).data with| .dict _ n=>n|_=>0
noncomputable abbrev nM(P:aP):ao->bC ak:=cT<|esM P
theorem qp(P:aP):(bZ P).Ns 134 (nM P):=wa (o:=Bb P) (ep:=epM P) (by kernel_rfl) (by kernel_rfl) (by kernel_rfl)
theorem pi(P:aP):(bZ P).get? 135=some (dW "Match" "Match" 135 134 (some<|.ref 65) aA (some<|.str "Match" 253) (some<|.str "Match" 261)<|some<|.bool false):=by kernel_rfl
theorem adV(P:aP):nM P "__new__"=some (.ref 136):=by kernel_rfl
theorem Hn(P:aP):nM P "__init__"=aA:=by kernel_rfl
theorem adW(P:aP):(bZ P).get? 136=some ⟨.type "staticmethod",aA,.fields #[.ref 82],#[]⟩:=by kernel_rfl
theorem PL(P:aP):(bZ P).Ns r9 (cT []):=wa (o:=KU P) (es:=[]) (ep:=0) (by kernel_rfl) (by kernel_rfl) rfl
noncomputable def mV(s:B×B×B):V:=.tup (.ref 135) [.int s.1,.int s.2.1,.int s.2.2]
section
variable{dr:cV}
theorem adX{j k:B}:cC (TW w os dr) (n+1) (.ref 82) [] [.val<|.ref 135,.int i,.int j,.int k] [] (mV (i,j,k)):=by
 refine m7 (d82 _) rfl (λxs hx=>?_) λL=>?_
 ·revert xs;exact yl λH H H H=>rfl
 refine eE dF<|j6 (EV.uA (cB (cQ _) (OA _) (dN _)<|OE _) (an ah<|an (dL<|an ah<|an ah<|an ah aM) aM)<|aQ.uA (pi _) (qp _)<|Hn _) ⟨_,rfl,?_⟩;exact o8 rfl rfl
theorem adY{o:bc}{a L:ax}{j k:B}:aQ (fr w os dr o a L) (n+2) (.ref 135) [.int i,.int j,.int k] st (mV (i,j,k)) st:=.mk λA s ρ xs Q hA R aV h=>by
 have hl:=dK aV;obtain⟨x,y,z,rfl⟩:∃x y z,xs=[x,y,z]:=by
  clear aV;revert xs;exact Gn λx y z=>⟨x,y,z,rfl⟩
 have PM:=cC.frame (C:=fr w os dr o a L) (st:=st) [] (adX (w:=w) (os:=os) (dr:=dr) (n:=n) (i:=i) (j:=j) (k:=k)) rfl (aG _) lx (λi o h=>by exact nomatch h) rfl;have Ho:over st.hp [] (([]:J O).map<|O.cf<|oR []<|U st.hp)=st.hp:=cM _;simp only[Ho] at PM;obtain⟨hh,g,d,t,Cj⟩:=s;refine adE (R.led.top _ _<|pi w.params) ((qp w.params).keeps R.led.top) (adV _) (Hn _) (R.led.top _ _<|adW w.params) ((PL w.params).keeps R.led.top) rfl ?_
 have N1:=gj R<|t+1;refine PM _ ⟨hh,g,d,t+1,Cj⟩ ρ (.ref 135::[x,y,z]) _ hA.create N1.rep ⟨_,_,rfl,rfl,aV⟩ λaC r s1 N2 i2=>oK (id i2) λtc e vs m av kW i3=>?_
 subst av;obtain⟨dd,he⟩:=kW;exact⟨e,dd,vs,m,rfl,he,⟨N2.rep.led.top _ _<|pi w.params,(qp w.params).keeps N2.rep.led.top⟩,h aC _ s1 (N1.trans N2) i2⟩
end
theorem XS.hide{q:B}{ss:J eX}{K:Fl->St->Prop}(h:∀K':Fl->St->Prop,(∀fl st,K fl st->K' fl st)->XS C n q ss st K'):XS C n q ss st K:=h K λH H x=>x
section
variable{dr:cV}
theorem a8.to{aiC:ak->ak->dD ak}{aiA r r':V}(h:a8 C n aiC aiA v st r am)(e:r=r'):a8 C n aiC aiA v st r' am:=e▸h
theorem EV.to(h:EV C n e st v am)(q:v=v'):EV C n e st v' am:=q▸h
theorem gA.to{aiA:V}{args:J V}(h:gA C n aiA args st v am)(q:v=v'):gA C n aiA args st v' am:=q▸h
theorem aQ.to{aiA:ak}{args:J V}(h:aQ C n aiA args st v am)(q:v=v'):aQ C n aiA args st v' am:=q▸h
theorem EV.eq{Hp:St}(h:EV C n e st v am)(q:v=v')(r:am=Hp):EV C n e st v' Hp:=r▸q▸h
theorem fS{tail:J O}{t:B}(h:U aiz=p):(aiz++tail)[p+t]?=tail[t]?:=by
 subst h;rw[dc<|dZ ..,jx]
theorem Hq{tail:J O}(h:U aiz=p):U (aiz++tail)=p+U tail:=by subst h;exact aK
theorem EV.push{l:J (ao×V)}{T:J O}{o:O}(hP:U aiz=p)(h:EV C n e ⟨l,aiz++T⟩ (.ref<|U<|aiz++T) ⟨l,aiz++T++[o]⟩):EV C n e ⟨l,aiz++T⟩ (.ref<|p+U T) ⟨l,aiz++(T++[o])⟩:=
 EV.eq h (bB V.ref<|Hq hP) (bB (St.mk l)<|cm ..)
theorem set_tail{T:J O}{t:B}{o:O}(h:U aiz=p):(aiz++T).set (p+t) o=aiz++T.set t o:=by
 subst h;rw[zZ _ _<|dZ ..,jx]
theorem adZ{f u:J (J B)}{aq au:B}{l:J B}{g:B->bb}:(O.intD<|ja f u aq au i l).bG g=true:=by
 show V.ff g ((ja f u aq au i l).map (·.2))=true;exact D gP<|oY λH=>rfl
theorem sX{l:J (J B)}{x:J B}(h:l[i]?=some x){z:az}(hz:z=(i:az)):(aw l)[z.toNat]?=some (.str<|tx x):=by
 subst hz;refine D (xC _)<|D (c7)<|D h ?_;rfl
noncomputable def lV(p aq aS au aJ:B)(s:B×B×B):J (ao×V):=
 [("nothing",.ref<|p+2),("j2len",.ref<|p+1),("bestsize",.int s.2.2),("bestj",.int s.2.1),("besti",.int s.1),("isbjunk",.ref p),("b2j",.ref 4),("b",.ref 1),("a",.ref 0),("bhi",.int aJ),("blo",.int au),("ahi",.int aS),("alo",.int aq)]
noncomputable def rC(p aq aS au aJ bi bj bs:B):J (ao×V):=
 [("nothing",.ref<|p+2),("j2len",.ref<|p+1),("bestsize",.int bs),("bestj",.int bj),("besti",.int bi),("isbjunk",.ref p),("b2j",.ref 4),("b",.ref 1),("a",.ref 0),("bhi",.int aJ),("blo",.int au),("ahi",.int aS),("alo",.int aq)]
noncomputable def bu(f u:J<|J B)(al:J<|ao×V)(tl:J O):J O:=[.list<|aw f,.list<|aw u,.attrs al,.inst 242 2,.fe<|jI 5<|keysOf u]++ju u (keysOf u)++([.fZ,.fZ]++tl)
theorem ad0(f u:J<|J B):bu f u (jJ<|U<|keysOf u) []=lS f u:=rfl
theorem pj(f u:J<|J B)(al:J<|ao×V)(tl:J O):U (bu f u al tl)=7+U (keysOf u)+U tl:=by
 exact D aK<|D aK<|D aK<|D (bg _) Xq
structure sY(m:B)(al:J<|ao×V):Prop where
 a:mI ("a":ao) al=some (V.ref 0)
 b:mI ("b":ao) al=some (V.ref 1)
 PN:mI ("b2j":ao) al=some (V.ref 4)
 PO:mI ("bjunk":ao) al=some (V.ref<|5+m)
 jK:mI ("find_longest_match":ao) al=aA
 PP:mI ("get_matching_blocks":ao) al=aA
 len:U al<=16
noncomputable def ad1(P:aP):bD ak:=match (FI P).data with| .seq x _=>x|_=>#[]
end
end
namespace yV
noncomputable def ES(w:bz)(os:bM)(dr:cV)(n:B)(f:J<|J B)(u:J<|J B)(al:J<|ao×V)(tl:J O)(aq:B)(aS:B)(au:B)(aJ:B)(_:fF):Prop:=(sY (U<|keysOf u) al)->(gC<|bu f u al tl)->(U f<200)->(U u<200)->(aS<=U f)->(aJ<=U u)->(aq<=aS)->(au<=aJ)->cC (TW w os dr) (n+3) (.ref 196) (bu f u al tl) [.ref 3,.int aq,.int aS,.int au,.int aJ] (bu f u al tl) (mV<|jK f u aq aS au aJ)
@[irreducible] noncomputable def EX:=nU oO default {} 0 [] [] [] [] 0 0 0 0 () ES
noncomputable def w:=EX.1
noncomputable def os:=EX.2.1
noncomputable def dr:=EX.2.2.1
noncomputable def n:=EX.2.2.2.1
noncomputable def f:=EX.2.2.2.2.1
noncomputable def u:=EX.2.2.2.2.2.1
noncomputable def al:=EX.2.2.2.2.2.2.1
noncomputable def tl:=EX.2.2.2.2.2.2.2.1
noncomputable def aq:=EX.2.2.2.2.2.2.2.2.1
noncomputable def aS:=EX.2.2.2.2.2.2.2.2.2.1
noncomputable def au:=EX.2.2.2.2.2.2.2.2.2.2.1
noncomputable def aJ:=EX.2.2.2.2.2.2.2.2.2.2.2.1
noncomputable def lj(x:J<|az×V)(m:J O):J O:=hZ "set.__contains__" (5+U (keysOf u)):: .intD x:: .list []:: .fields "range" [.int aq,.int aS,.int 1]::m
@[irreducible] noncomputable def p:B:=U<|bu f u al tl
theorem hP:U (bu f u al tl)=p:=by unfold p;rfl
theorem hp:p=7+U (keysOf u)+U tl:=hP.symm.trans (pj f u al tl)
theorem Ee:ES w os dr n f u al tl aq aS au aJ ():=λnl j9 ha hb G h2 h3 h4=>by
 have aiy:=Gv w.params;refine cC.Oa aiy.get aiy.fd (by rfl) aiy.code (noLimit _) (names:=["self","alo","ahi","blo","bhi"]) (Td:=189) (od:=FI w.params) (items:=ad1 w.params) (m:=0) (ds:=[]) (xd:=[]) (by kernel_rfl) (by kernel_rfl) (by kernel_rfl) (λρ h=>rfl) (λxs hx=>?_) aiy.nd aiy.cell aiy.loc λL=>?_
 ·revert xs;exact Oq λH H H H H=>rfl
 have cl:=qh w.params;have gl:=qb w.params;have bl:=qd w.params;have gr:=Oy w.params;have br:=OD w.params;refine D hP<|eE dF ?_;have yW:(bu f u al tl)[5+U (keysOf u)]?=some .fZ:=by
  (refine D (dc<|by rw[aK];unfold ju;rw[bg];exact aG _)<|D aK ?_)
  refine D (bg _) ?_
  refine D (fG _) ?_;rfl
 refine yq (dL (an (EV.attr (k:=3) (d:=2) (l:=al) ah rfl rfl nl.a cl (by kernel_rfl) (by kernel_rfl) yy (λH h=>by cases h)) (an (EV.attr (k:=3) (d:=2) (l:=al) ah rfl rfl nl.b cl (by kernel_rfl) (by kernel_rfl) wg (λH h=>by cases h)) (an (EV.attr (k:=3) (d:=2) (l:=al) ah rfl rfl nl.PN cl (by kernel_rfl) (by kernel_rfl) O0 (λH h=>by cases h))
  (an (EV.ace (k:=5+U (keysOf u)) (EV.attr (k:=3) (d:=2) (l:=al) ah rfl rfl nl.PO cl (by kernel_rfl) (by kernel_rfl) O1 (λH h=>by cases h)) yW) aM))))) (cW.tup (bU.cons bW (bU.cons bW (bU.cons bW (bU.cons bW bU.nil))))) ?_
 refine lM (bV ah EV.none a8.is_int_none)<|lM (bV ah EV.none a8.is_int_none) ?_;refine rg (names:=["besti","bestj","bestsize"]) (dL<|an ah<|an ah<|an bA aM)<|cZ EV.BW ?_;refine cZ (eI aM) ?_
 have e1:U (bu f u al tl++[hZ "set.__contains__"<|5+U (keysOf u)])=p+1:=by refine D aK<|D hP ?_;rfl
 have e2:U (bu f u al tl++[hZ "set.__contains__"<|5+U (keysOf u)]++[O.intD []])=p+2:=by refine D aK<|D e1 ?_;rfl
 refine b7 (l':=lV p aq aS au aJ (aq,au,0)) (aY:=bu f u al tl++[hZ "set.__contains__"<|5+U (keysOf u),.intD [],.list []]) ?_ ?_ ?_
 ·unfold lV;exact bL e2<|bL e1<|bL hP<|bp rfl
 ·show bu f u al tl++[hZ "set.__contains__"<|5+U (keysOf u)]++[O.intD []]++[O.list []]=_;simp only[cm,jT,nG]
 refine cg (nW p (items:=nums aq (aS-aq)) (aiy:=λH=>gF) (lo:=0) (am:=⟨lV p aq aS au aJ (aq,au,0),bu f u al tl++(lj [] [])⟩)
  (λt aj=>aj=⟨lV p aq aS au aJ<|(fk aq t).foldl (sT f u aq au aJ) (aq,au,0),bu f u al tl++(lj (kD f u aq au aJ<|aq+t) [])⟩)
  ?_ ?_ (λH H H H=>trivial) (bH _) (aG _) (λt aiA aj hu hI=>?_) (λaj hI=>?_))
 ·have e3:U (bu f u al tl++[hZ "set.__contains__"<|5+U (keysOf u),.intD [],.list []])=p+3:=Hq hP;have ad2:((aS:az)-(aq:az)).toNat=aS-aq:=by lia
  refine bL ad2<|gw.of (EV.eq (v':=.ref<|p+3) (mr (cB (cQ _) gr (dN _) br) (an ah<|an ah aM) aQ.aa0) (bB V.ref e3) ?_)<|fP.range (fS hP) ?_ ?_
  ·show St.mk _ _=_;rw[cm];rfl
  ·refine D (rangeSize_one _ _) ?_;split<;>lia
  ·exact small_one (EK (by decide)<|vQ _) (az.lt_trans (AF.mpr<|xr (cY h3 G) ha)<|by decide) (EK (by decide)<|vQ _) (az.lt_trans (AF.mpr<|xr G ha)<|by decide)
 ·show _=_;unfold kD;refine D (aU<|by exact aG _) ?_;rfl
 ·subst hI;unfold nums at hu;rw[c7] at hu
  by_cases ht:t<aS-aq
  rotate_left
  ·rw[rQ<|by refine D gO ?_;exact iS ‹_›] at hu;cases hu
  rw[oz ht] at hu;obtain rfl:aiA=V.int ((aq+t:B):az):=by cases hu;exact bB V.int (by rfl)
  have pZ:aq+t<U f:=by exact Xp ht G
  generalize hs:(fk aq t).foldl (sT f u aq au aJ) (aq,au,0)=s;obtain⟨x,hx⟩:∃x,f[aq+t]?=some x:=⟨_,bO pZ⟩
  generalize hi:aq+t=i at pZ hx;refine⟨_,bW,(XS.hide λK hK=>?_)⟩;refine cZ (EV.push hP<|EV.acd (k:=p+1) (l:=kD f u aq au aJ i) ah<|fS hP)<|cZ (EV.push hP EV.BW) ?_;refine b7 (l':=("newj2len",.ref<|p+5)::("j2lenget",.ref<|p+4)::("i",.int i)::lV p aq aS au aJ s) (aY:=bu f u al tl++(lj (kD f u aq au aJ i) [hZ "dict.get"<|p+1,.intD []])) (λH H h=>h) rfl ?_
  obtain⟨kk,gm,kP,PQ⟩:∃kk,((jI 5<|keysOf u).lookup<|tx x).getD (.ref<|p+2)= .ref kk/\kk+1<=p+6/\∀T:J O,T[2]?=some (.list [])->(bu f u al tl++T)[kk]?=some (.list<|mx<|posOf x u):=by
   rw[B6]
   by_cases Cl:x∈keysOf u
   ·have bJ:=DK.mpr Cl;refine⟨5+(keysOf u).idxOf x,by refine D (aU<|by simpa using Cl) ?_;rfl,by exact Xo bJ hp,λT H=>?_⟩;refine D (cA<|by exact Xn bJ hp hP) ?_
    have pZ:U (ju u<|keysOf u)=U (keysOf u):=by unfold ju;exact D (bg _) rfl
    (refine D (cA<|by rw[aK,pZ];exact Fn bJ)<|D (fS (p:=5) rfl) ?_)
    refine D (c7)<|D (bO bJ)<|D (DR bJ) ?_;rfl
   ·refine⟨p+2,by refine D (aE<|by simpa using Cl) ?_;rfl,by exact Xm,λT hT=>?_⟩;refine D (fS hP)<|D hT<|D (Pc λh=>Cl<|Pb.mpr h) ?_;rfl
  have Cm:cols f u au aJ i=k7 au aJ (posOf x u):=cols_eq hx;have PR:=Pj x u;refine cg<|jt (K:=λfl aj=>fl= .next/\SubL (("newj2len",.ref<|p+5)::lV p aq aS au aJ (sT f u aq au aJ s i)) aj.loc/\aj.hp=bu f u al tl++(lj (kD f u aq au aJ i) [hZ "dict.get"<|p+1,.intD<|ja f u aq au i<|cols f u au aJ i])) ?_ ?_
  ·refine nW (p+6) (items:=mx<|posOf x u) (aiy:=λaj=>aj.hp[kk]?=some (.list<|mx<|posOf x u)) (lo:=kk+1) (am:=⟨("newj2len",.ref<|p+5)::("j2lenget",.ref<|p+4)::("i",.int i)::lV p aq aS au aJ s,bu f u al tl++(lj (kD f u aq au aJ i) [hZ "dict.get"<|p+1,.intD []])⟩)
    (λt' aj=>aj=⟨("newj2len",.ref<|p+5)::("j2lenget",.ref<|p+4)::("i",.int i)::lV p aq aS au aJ ((k7 au aJ<|(posOf x u).take t').foldl (ru f u aq au i) s),bu f u al tl++(lj (kD f u aq au aJ i) [hZ "dict.get"<|p+1,.intD<|ja f u aq au i<|k7 au aJ<|(posOf x u).take t'])⟩)
    (gw.of (EV.to (jq ah (rk.fe (k:=4) rfl) (an (eJ ah ah (i7 (k:=0) (l:=aw f) (v:=.str<|tx x) rfl (vQ _)<|by unfold aw;rw[xC,c7,hx];rfl) gy)<|an ah aM) (aQ.abJ (k:=4) yP rfl) Ex PySem.F.slot_dict_get PySem.F.type_dict_get) gm)<|fP.list<|PQ _ rfl) rfl (λt' aj H hI=>by subst hI;exact PQ _ rfl) kP (by exact Xl) (λt' aiA aj hu hI=>?_) (λaj hI=>?_)
   ·subst hI;unfold mx at hu;rw[c7] at hu;cases hj:(posOf x u)[t']? with
    |none=>rw[hj] at hu;cases hu
    |some j=>
    rw[hj] at hu;obtain rfl:aiA=V.int (j:az):=by cases hu;rfl
    have m8:(posOf x u).take (t'+1)=(posOf x u).take t'++[j]:=by refine D qM<|D hj ?_;rfl
    have Hr:j<U u:=(cJ.mp<|G3.mp<|dT hj).1;have Hs:=acX (au:=au) (aJ:=aJ) PR hj;have PS:=λh=>acW (au:=au) (aJ:=aJ) PR hj h;have yX:=acV au aJ ((posOf x u).take t') j;rw[←m8] at yX;have Ht:U (k7 au aJ<|(posOf x u).take t')<=200:=by
     have q1:U (k7 au aJ<|(posOf x u).take t')<=_:=pF _ _;rw[gE] at q1;have q2:=Pf x u;exact Xk hb q1 q2
    generalize hc:k7 au aJ ((posOf x u).take t')=cc at*;generalize wo:cc.foldl (ru f u aq au i) s=s1;refine⟨_,bW,(XS.hide λK hK=>?_)⟩;refine cg<|jl (bV ah ah jZ) (λh=>?_) λh=>bd ?_
    ·refine b7 (l':=("newj2len",.ref<|p+5)::("j2lenget",.ref<|p+4)::("i",.int i)::lV p aq aS au aJ s1) (aY:=bu f u al tl++(lj (kD f u aq au aJ i) [hZ "dict.get"<|p+1,.intD<|ja f u aq au i cc])) (by exact bp rfl) rfl<|cg<|X1.cont<|hK _ _ ?_;have h:=dq h;show _=_;rw[yX,aE (by lia),wo]
    have h:=kj h;refine cg<|jl (bV ah ah a8.ge_int) (λh'=>?_) λh'=>bd ?_
    ·refine cg<|X1.brk<|hK _ _ ⟨rfl,?_,?_⟩
     ·have e:=PS (by have:=dq h';lia);unfold sT;exact D Cm<|D e<|D wo<|bp rfl
     ·have e:=PS (by have:=dq h';lia);refine D Cm<|D e ?_;rfl
    have h':=kj h';have dk:au<=j/\j<aJ:=⟨by lia,by lia⟩
    replace yX:=(aU dk)▸yX;have PT:u[j]?=some x:=G3.mp<|dT hj;have hjc:j∈cols f u au aJ i:=yG.mpr ⟨dk.1,dk.2,pZ,hx.trans PT.symm⟩;have li:=acU (a:=f) (aq:=aq) (by exact ul hi) hjc;have qj:0<run f u aq au i j:=GZ f u aq au ⟨by exact ul hi,dk.1,pZ,hx.trans PT.symm⟩;have uS:=B8 f u aq au i j (run f u aq au i j-1) (by exact xP qj);have uG:(ja f u aq au i cc).lookup (j:az)=aA:=by unfold ja;rw[G5,aE Hs]
    have iY:(cc++[j]).foldl (ru f u aq au i) s=ru f u aq au i s1 j:=by refine D jS<|D wo ?_;rfl
    have hdl:U (ja f u aq au i cc)<=16777216:=by unfold ja;refine D (bg _) ?_;exact M0 Ht
    have iI:(ja f u aq au i cc)++[((j:az),V.int (run f u aq au i j:B))]=ja f u aq au i (cc++[j]):=by unfold ja;refine D eL ?_;rfl
    rw[yX,iY] at hK;unfold ru at hK;generalize hr:run f u aq au i j=r at*;refine jG (bt (EV.qf ah (an (bt ah bA mt)<|an bA aM) (gz.bm (b:=p+4) (k:=p+1) (id:="dict.get")<|fS hP)<|gA.to (gA.acf (b:=p+4) (k:=p+1) yP (fS hP)<|fS hP) li) bA<|a8.to (r':=.int (r:B)) eT<|bB V.int<|by lia)
     (cF.cons bW<|cF.cons (cW.BW (k:=p+5) (z:=(j:az)) yP ah ah (fS hP) hdl) cF.nil) ?_
    refine b7 (l':=("k",.int (r:B))::("j",.int (j:B))::("newj2len",.ref<|p+5)::("j2lenget",.ref<|p+4)::("i",.int i)::lV p aq aS au aJ s1) (aY:=bu f u al tl++(lj (kD f u aq au aJ i) [hZ "dict.get"<|p+1,.intD<|ja f u aq au i<|cc++[j]])) (by exact bp rfl) ?_ ?_
    ·show(bu f u al tl++_).set (p+5) (.intD<|oX _ _ _)=_;refine D (set_tail hP) (D (OM uG) ?_)
     try dsimp only
     refine D iI ?_;rfl
    refine cg<|jl (bV ah ah a8.gt_int) (λhg=>?_) λhg=>bd ?_
    ·have hg:=dq hg;refine rg (names:=["besti","bestj","bestsize"]) (dL<|an (bt (bt ah ah mt) bA<|a8.to (r':=.int ((i+1-r:B):az)) eT<|bB V.int<|by lia)<|an (bt (bt ah ah mt) bA<|a8.to (r':=.int ((j+1-r:B):az)) eT<|bB V.int<|by lia)<|an ah aM) (b7 (l':=("newj2len",.ref<|p+5)::("j2lenget",.ref<|p+4)::("i",.int i)::lV p aq aS au aJ (i+1-r,j+1-r,r)) (aY:=bu f u al tl++(lj (kD f u aq au aJ i) [hZ "dict.get"<|p+1,.intD<|ja f u aq au i<|cc++[j]])) (by exact bp rfl) rfl<|bd<|bd<|hK _ _ ?_);show _=_;exact D (aU<|by lia) rfl
    ·have hg:=kj hg;refine b7 (l':=("newj2len",.ref<|p+5)::("j2lenget",.ref<|p+4)::("i",.int i)::lV p aq aS au aJ s1) (aY:=bu f u al tl++(lj (kD f u aq au aJ i) [hZ "dict.get"<|p+1,.intD<|ja f u aq au i<|cc++[j]])) (by exact bp rfl) rfl<|bd<|hK _ _ ?_;show _=_;exact D (aE<|by lia) rfl
   ·subst hI;have e:U (mx<|posOf x u)=U (posOf x u):=by unfold mx;exact D (bg _) rfl
    refine D e<|D pI<|bd ⟨rfl,?_,?_⟩
    ·unfold sT;exact D Cm<|bp rfl
    ·exact D Cm rfl
  ·intro aiC aj dM;refine eh dM λav hl hh=>?_
   clear dM;subst av;refine b7 hl hh<|cZ ah ?_;have dk:∀o∈lj (ja f u aq au i<|cols f u au aJ i) [],o.bG (λk=>decide (k<U (bu f u al tl)))=true:=
    gh (by show(true&&(decide (5+U (keysOf u)<U (bu f u al tl))&&true))=true;exact D (dG<|MW hp hP) rfl) (gh adZ<|gh rfl<|fM rfl)
   obtain⟨aiC,g,q1,q2,q3⟩:=jn.pick (q:=p) (hp:=bu f u al tl) (tail:=(lj (kD f u aq au aJ i) [hZ "dict.get"<|p+1,.intD<|ja f u aq au i<|cols f u au aJ i]))
    (sel:=(lj (ja f u aq au i<|cols f u au aJ i) [])) (by exact vV hP) j9 [0,5,2,3] (by decide) rfl dk
   rw[hP] at q1 q2;have a0:=q2 0 0 rfl;have a1:=q2 1 5 rfl;have a2:=q2 2 2 rfl;refine jo (aj:=⟨lV p aq aS au aJ<|sT f u aq au aJ s i,bu f u al tl++(lj (ja f u aq au i<|cols f u au aJ i) [])⟩) (.inr ⟨_,_,_,q3,?_⟩) (bd ?_) (by show p<=U (bu f u al tl++_);rw[aK];exact Xj hP)
   ·
    exact c9.cons (v:=.ref<|p+2) rfl a2.1 (bB V.ref a2.2.symm) (c9.cons (v:=.ref<|p+5) rfl a1.1 (bB V.ref a1.2.symm)<|c9.cons rfl rfl rfl<|c9.cons rfl rfl rfl<|c9.cons rfl rfl rfl<|c9.cons (v:=.ref p) rfl a0.1 (bB V.ref a0.2.symm)<|c9.cons (v:=.ref 4) rfl (q1 4<|by exact MZ hp).1 (bB V.ref (q1 4<|by exact MZ hp).2.symm)<|c9.cons (v:=.ref 1) rfl (q1 1<|by exact MY hp).1 (bB V.ref (q1 1<|by exact MY hp).2.symm)<|c9.cons (v:=.ref 0) rfl (q1 0<|by exact MX hp).1 (bB V.ref (q1 0<|by exact MX hp).2.symm)<|c9.cons rfl rfl rfl<|c9.cons rfl rfl rfl<|c9.cons rfl rfl rfl<|c9.cons rfl rfl rfl c9.nil)
   ·refine hK _ _ ?_
    show _=_;rw[JM,jS,l6,JX,Ao,hs,hi];unfold kD;exact D (aE<|by exact Xi)<|D (show aq+(t+1)-1=i by exact Xh hi) rfl
 ·subst hI;have e:U (nums (aq:az)<|aS-aq)=aS-aq:=by unfold nums;rw[bg,gO]
  refine D e<|bd ?_;have wq:j8 f u aq aS au aJ (jK f u aq aS au aJ):=qi;show XS _ _ _ _ ⟨lV p aq aS au aJ<|jK f u aq aS au aJ,_⟩ _;generalize hs:jK f u aq aS au aJ=s at*;refine b7 (l':=lV p aq aS au aJ s) (aY:=bu f u al tl++(lj (kD f u aq au aJ<|aq+(aS-aq)) [])) (λH H h=>h) rfl ?_
  generalize hT:((lj (kD f u aq au aJ<|aq+(aS-aq)) []):J O)=T;have np:(bu f u al tl++T)[p]?=some (hZ "set.__contains__"<|5+U (keysOf u)):=by subst hT;exact fS (t:=0) hP
  have qq:(bu f u al tl++T)[5+U (keysOf u)]?=some .fZ:=by refine D (cA<|by exact MW hp hP) ?_;exact yW
  have PU:(bu f u al tl++T)[0]?=some (.list<|aw f):=rfl;have wr:(bu f u al tl++T)[1]?=some (.list<|aw u):=rfl;have m1:=wq.pb;have m2:=wq.jv;have m3:=wq.lo1;have m4:=wq.lP;have n1:=wq.before;have n2:=wq.after;obtain⟨bi,bj,bs⟩:=s;dsimp only at m1 m2 m3 m4 n1 n2;refine b7 (l':=rC p aq aS au aJ bi bj bs) (aY:=bu f u al tl++T) (λH H h=>h) rfl<|cg<|X1.while p (λm am=>am=⟨rC p aq aS au aJ bi bj bs,bu f u al tl++T⟩) (m0:=0) rfl (aG _) λm am hI=>?_;subst hI;refine⟨false,⟨rC p aq aS au aJ bi bj bs,bu f u al tl++T⟩,?_,(λh=>by cases h),λH=>bd ?_⟩
  ·by_cases c1:aq<bi
   ·refine kq (fJ (bV ah ah a8.gt_int)<|dG<|by show(aq:az)<(bi:az);lia) ?_
    by_cases c2:au<bj
    ·refine kq (fJ (bV ah ah a8.gt_int)<|dG<|by show(au:az)<(bj:az);lia) ?_
     have cw:=n1 c1 c2 (by exact Xg m1 c1 G);obtain⟨x,hx⟩:∃x,f[bi-1]?=some x:=⟨_,bO<|by exact Fo m1 c1 G⟩
     obtain⟨y,hy⟩:∃y,u[bj-1]?=some y:=⟨_,bO<|by exact Fo m2 c2 h2⟩
     refine kq (TV.not<|fv (EV.qf ah (an (eJ ah (bt ah bA mt) (i7 (k:=1) wr (by lia) (sX hy<|by lia)<|by lia) gy) aM) (gz.bm np)<|gA.BX np qq) kR) (jm<|fJ (bV (eJ ah (bt ah bA mt) (i7 (k:=0) PU (by lia) (sX hx<|by lia)<|by lia) gy) (eJ ah (bt ah bA mt) (i7 (k:=1) wr (by lia) (sX hy<|by lia)<|by lia) gy) a8.eq_str)<|fB λe=>cw ?_);rw[hx,hy,o9.mp e]
    ·exact jm (fJ (bV ah ah a8.gt_int)<|fB<|by show ¬(au:az)<(bj:az);lia)
   ·exact jm (fJ (bV ah ah a8.gt_int)<|fB<|by show ¬(aq:az)<(bi:az);lia)
  refine cg<|X1.while p (λm am=>am=⟨rC p aq aS au aJ bi bj bs,bu f u al tl++T⟩) (m0:=0) rfl (aG _) λm am hI=>?_;subst hI;refine⟨false,⟨rC p aq aS au aJ bi bj bs,bu f u al tl++T⟩,?_,(λh=>by cases h),λH=>bd ?_⟩
  ·by_cases c1:bi+bs<aS
   ·refine kq (fJ (bV (bt ah ah eT) ah jZ)<|dG<|by lia) ?_
    by_cases c2:bj+bs<aJ
    ·refine kq (fJ (bV (bt ah ah eT) ah jZ)<|dG<|by lia) ?_
     have cw:=n2 c1 c2 (by exact AU c1 G);obtain⟨x,hx⟩:∃x,f[bi+bs]?=some x:=⟨_,bO<|by exact AU c1 G⟩
     obtain⟨y,hy⟩:∃y,u[bj+bs]?=some y:=⟨_,bO<|by exact AU c2 h2⟩
     refine kq (TV.not<|fv (EV.qf ah (an (eJ ah (bt ah ah eT) (i7 (k:=1) wr (by lia) (sX hy<|by lia)<|by lia) gy) aM) (gz.bm np)<|gA.BX np qq) kR) (jm<|fJ (bV (eJ ah (bt ah ah eT) (i7 (k:=0) PU (by lia) (sX hx<|by lia)<|by lia) gy) (eJ ah (bt ah ah eT) (i7 (k:=1) wr (by lia) (sX hy<|by lia)<|by lia) gy) a8.eq_str)<|fB λe=>cw ?_);rw[hx,hy,o9.mp e]
    ·exact jm (fJ (bV (bt ah ah eT) ah jZ)<|fB<|by lia)
   ·exact jm (fJ (bV (bt ah ah eT) ah jZ)<|fB<|by lia)
  refine cg<|X1.while p (λm am=>am=⟨rC p aq aS au aJ bi bj bs,bu f u al tl++T⟩) (m0:=0) rfl (aG _) λm am hI=>?_;subst hI;refine⟨false,⟨rC p aq aS au aJ bi bj bs,bu f u al tl++T⟩,?_,(λh=>by cases h),λH=>bd ?_⟩
  ·by_cases c1:aq<bi
   ·refine kq (fJ (bV ah ah a8.gt_int)<|dG<|by lia) ?_
    by_cases c2:au<bj
    ·refine kq (fJ (bV ah ah a8.gt_int)<|dG<|by lia) ?_
     obtain⟨y,hy⟩:∃y,u[bj-1]?=some y:=⟨_,bO<|by exact Fo m2 c2 h2⟩
     exact jm<|fv (EV.qf ah (an (eJ ah (bt ah bA mt) (i7 (k:=1) wr (by lia) (sX hy<|by lia)<|by lia) gy) aM) (gz.bm np)<|gA.BX np qq) kR
    ·exact jm (fJ (bV ah ah a8.gt_int)<|fB<|by lia)
   ·exact jm (fJ (bV ah ah a8.gt_int)<|fB<|by lia)
  refine cg<|X1.while p (λm am=>am=⟨rC p aq aS au aJ bi bj bs,bu f u al tl++T⟩) (m0:=0) rfl (aG _) λm am hI=>?_;subst hI;refine⟨false,⟨rC p aq aS au aJ bi bj bs,bu f u al tl++T⟩,?_,(λh=>by cases h),λH=>bd ?_⟩
  ·by_cases c1:bi+bs<aS
   ·refine kq (fJ (bV (bt ah ah eT) ah jZ)<|dG<|by lia) ?_
    by_cases c2:bj+bs<aJ
    ·refine kq (fJ (bV (bt ah ah eT) ah jZ)<|dG<|by lia) ?_
     obtain⟨y,hy⟩:∃y,u[bj+bs]?=some y:=⟨_,bO<|by exact AU c2 h2⟩
     exact jm<|fv (EV.qf ah (an (eJ ah (bt ah ah eT) (i7 (k:=1) wr (by lia) (sX hy<|by lia)<|by lia) gy) aM) (gz.bm np)<|gA.BX np qq) kR
    ·exact jm (fJ (bV (bt ah ah eT) ah jZ)<|fB<|by lia)
   ·exact jm (fJ (bV (bt ah ah eT) ah jZ)<|fB<|by lia)
  exact j6 (EV.qf (hH (cQ _)<|Ow _) (an ah<|an ah<|an ah aM) (gz.tup<|pi _)<|gA.of<|adY (i:=bi) (j:=bj) (k:=bs)) ⟨_,rfl,(Conv.drop (q:=p) (by exact vV hP) j9 rfl)⟩
end yV
section
variable{w:bz}{os:bM}{n m t:B}{am:St}{ps:J Piece}{steps:J (J B×J B)}{hd rows:J (J B)}{h:bn}{xs:J ak}{M:du}{A:bS}{g:bD de}{d:cV}{E:ak->ay->Prop}{nm q:ao}{c N tp a:ax}{k0 k1 k2 k3 k5:bC ak}{Q:bC ak->ay->Prop}{dd:bC ax}{vs:bD ak}{mN:ao->bC ak}
section
variable{dr:cV}
theorem ad3:∀{w os dr n f u al tl aq aS au aJ},yV.ES w os dr n f u al tl aq aS au aJ ():=by with_unfolding_all exact oM yV.ES yV.EX rfl yV.Ee _ _ _ _ _ _ _ _ _ _ _ _ ()
end
theorem Hu{scope:sa}(h:(scope.names.all λy=>match y.2 with| .cell=>false| .local=>(match scope.names.lookup y.1 with|some .local=>true|_=>false)|_=>true)=true):
  (∀y∈scope.names,y.2≠ .cell)/\∀y∈scope.names,y.2= .local->scope.names.lookup y.1=some .local:=by
 rw[fX] at h;refine⟨λy hy e=>?_,λy hy e=>?_⟩
 ·have:=h y hy;rw[e] at this;exact Aw this
 ·have:=h y hy;rw[e] at this;dsimp only at this;cases q:scope.names.lookup y.1 with
  |none=>rw[q] at this;exact nomatch this
  |some k=>rw[q] at this;cases k<;>first|rfl|cases this
section
variable{C:Cx}{st:St}
theorem PW{α β:Type}(aiC:α->β)(p:α->bb)(g:β->J β):∀(l:J α),(∀a∈l,g (aiC a)=if p a then[aiC a] else[])->(l.map aiC).flatMap g=(l.filter p).map aiC
 | []=>λH=>rfl
 |a::l=>λh=>by
  simp only[eu,fa,h a<|.head _,PW aiC p g l λb hb=>h b<|.tail _ hb,pG];cases p a<;>rfl
theorem Hv{iter:bv}{px p1 p2 p3 p4 pos:cN}{k1 k2:B}{scope:sa}{kx c:B}{sg:ao}{l:J (J B)}{p5 Hw:cN}(G:EV C n iter st (.ref kx) am)(hk:am.hp[kx]?=some (.list<|aw l))(cw:∀r∈l,r≠[])(hz:U l<=1000000)(uT:sg=tx [c])
  (eF:aO ((scope.names.all λy=>match y.2 with| .cell=>false| .local=>(match scope.names.lookup y.1 with|some .local=>true|_=>false)|_=>true)=true) a9) (nj:aO (tY scope C.env=pure []) a9) (kF:aO (scope.kind= .function) a9) (hx:aO (scope.names.lookup ("row":ao)=some El) a9)
  (hs:aO (∀x,pL iter C.env x=pure x) aI._auto_1):
  EV C n (.ListComp (.Name "row" p1) [⟨.Name "row" px,iter,[.Compare (.Subscript (.Name "row" p2) (.Constant (.int 0) k1 p3) p4) [.NotEq] [.Constant (.str sg) k2 p5] Hw],0⟩] scope pos) st (.ref<|U am.hp) ⟨am.loc,am.hp++[.list<|aw<|l.filter λr=>decide (r.headD 0≠c)]⟩:=by
 have sc:=Hu eF
 let g:V->J V:=λaiA=>match aiA with| .str x=>if x.cps.toList.headD 0≠c then[aiA] else[]|_=>[]
 have hg:(aw l).flatMap g=aw (l.filter λr=>decide (r.headD 0≠c)):=PW (λx=>V.str<|tx x) _ g l λa ha=>by
  show(if a.headD 0≠c then[V.str<|tx a] else[])=_
  by_cases h:a.headD 0≠c
  ·rw[aU h,aU<|dG h]
  ·rw[aE h,aE λq=>h<|dq q]
 simp only[←hg];refine Px [] g G (fD.list hk) hk ?_ (λL aiA hu=>?_) (by refine D hg<|D (en _) ?_;exact cY (pF ..) hz) nj sc.1 kF sc.2 hx hs
 ·have:=(cJ.mp hk).1;assumption
 ·unfold aw at hu;refine aH (fb.mp hu) λr hr av=>?_
  subst av;obtain⟨a,r',rfl⟩:∃a r',r=a::r':=by
   cases r with
   |nil=>exact aZ rfl<|cw _ hr
   |cons a r'=>exact⟨a,r',rfl⟩
  have cO:(oF 0 (tx<|a::r').length).bind ((tx<|a::r').cps[·]?)=some a:=by
   unfold oF;refine D (jH _) ?_
   simp[tx]
  have kL:(gZ C scope [] L).env.kindOf "row"=some .local:=lookup_relabel_local hx;have ev:EV (gZ C scope [] L) n (.Name "row" p2) ⟨[("row",.str<|tx<|a::r')],am.hp⟩ (.str<|tx<|a::r') ⟨[("row",.str<|tx<|a::r')],am.hp⟩:=ah rfl kF kL;have ev1:EV (gZ C scope [] L) n (.Name "row" p1) ⟨[("row",.str<|tx<|a::r')],am.hp⟩ (.str<|tx<|a::r') ⟨[("row",.str<|tx<|a::r')],am.hp⟩:=ah rfl kF kL;refine⟨_,.one<|bV (eJ ev bA (gY.str cO<|by decide) yp) (EV.tx [c] uT) a8.ne_str,?_⟩;have e:decide ((⟨#[a]⟩:ao)=tx [c])=decide (a=c):=vE.mpr (o9 (a:=[a]) (b:=[c]) |>.trans (by simp));simp only[e]
  by_cases h:a=c
  ·refine .inl ⟨by simp[h],?_⟩;show(if a≠c then _ else _)=_;exact D (aE λq=>q h) rfl
  ·refine .inr ⟨by simp[h],_,?_,ev1⟩;show(if a≠c then _ else _)=_;exact D (aU h) rfl
end
noncomputable def nq:B->J Piece->J O
 |_,[]=>[]
 |b,p::ps=>.list (aw p.2.2):: .list [.int p.1,.int p.2.1,.ref b]::nq (b+2) ps
theorem Hx{b:B}{p:Piece}:nq b (p::ps)= .list (aw p.2.2):: .list [.int p.1,.int p.2.1,.ref b]::nq (b+2) ps:=rfl
noncomputable def iJ(m:B):J V:=(eD m).map λi=>V.ref<|5+2*i
noncomputable def cH(steps:J<|J B×J B)(hd rows:J<|J B)(ps:J Piece):J O:=.list (bf steps):: .list (aw hd):: .list (aw rows):: .list (iJ<|U ps)::nq 4 ps
theorem Hy:∀(ps:J Piece) (b:B),U (nq b ps)=2*U ps
 | []=>λb=>rfl
 |p::ps=>λb=>bB (· +2)<|Hy ps<|b+2
theorem Hz:∀(ps:J Piece) (b:B) (p:Piece),nq b (ps++[p])=nq b ps++[.list<|aw p.2.2,.list [.int p.1,.int p.2.1,.ref<|b+2*U ps]]
 | []=>λb p=>rfl
 |q::ps=>λb p=>by
  rw[jT,Hx,Hz ps (b+2) p,Hx,cK,show b+2+2*U ps=b+2*(U ps+1) by exact nK _ _ _];rfl
theorem PX:∀(ps:J Piece) (b i:B) (p:Piece),ps[i]?=some p->(nq b ps)[2*i]?=some (.list<|aw p.2.2)/\(nq b ps)[2*i+1]?=some (.list [.int p.1,.int p.2.1,.ref<|b+2*i])
 | [],b,i=>λp h=>by exact nomatch h
 |q::ps,b,0=>λp h=>by cases h;exact⟨rfl,rfl⟩
 |q::ps,b,i+1=>λp h=>by
  have:=PX ps (b+2) i p h;rw[show 2*(i+1)=2*i+1+1 by rfl,Hx,show b+(2*i+1+1)=b+2+2*i by exact Yu];exact this
theorem uU:U (cH steps hd rows ps)=4+2*U ps:=by
 unfold cH;simp only[cK,Hy];exact M8
theorem PY:∀(ps:J Piece) (b m:B),b+2*U ps<=m->∀o∈nq b ps,o.bG (λk=>decide (k<m))=true
 | []=>λb m h o ho=>nomatch ho
 |p::ps=>λb m h o ho=>by
  simp only[cK] at h;rcases cu.mp ho with rfl|ho
  ·exact eZ
  rcases cu.mp ho with rfl|ho
  ·show(true&&(true&&(decide (b<m)&&true)))=true;exact D (dG<|by exact Yt h) rfl
  ·exact PY ps (b+2) m (Ys h) o ho
theorem ad4{k:B}(h:4+2*m<=k):V.ff (λi=>decide (i<k)) (iJ m)=true:=by
 have:∀(l:J B),(∀i∈l,i<m)->V.ff (λi=>decide (i<k)) (l.map λi=>V.ref<|5+2*i)=true:=by
  intro l
  induction l with
  |nil=>intro _;rfl
  |cons a l ih=>
   intro hl;exact fc.mpr ⟨dG (Yr h (hl a (.head _))),ih λi hi=>hl i<|.tail _ hi⟩
 exact this _ λi hi=>rX.mp hi
theorem HA:gC (cH steps hd rows ps):=by
 intro o ho;refine D uU ?_
 unfold cH at ho;rcases cu.mp ho with rfl|ho
 ·exact k6
 rcases cu.mp ho with rfl|ho
 ·exact eZ
 rcases cu.mp ho with rfl|ho
 ·exact eZ
 rcases cu.mp ho with rfl|ho
 ·exact ad4<|aG _
 ·exact PY ps 4 _ (aG _) o ho
theorem ad5(m:B):iJ (m+1)=iJ m++[V.ref<|5+2*m]:=by unfold iJ;simp only[Ad,eL];rfl
theorem ad6{a b:B}:(cH steps hd rows ps++[O.list [],O.list [V.int a,V.int b,V.ref<|4+2*U ps]]).set 3 (O.list<|iJ (U ps)++[V.ref<|5+2*U ps])=cH steps hd rows (ps++[(a,b,[])]):=by
 unfold cH;rw[Hz,aK,show U ps+U [((a,b,[]):Piece)]=U ps+1 from rfl,ad5];rfl
theorem PZ{aiz T:J O}{p:B}{o:O}(h:U aiz=p):(aiz++T).set p o=aiz++T.set 0 o:=by
 rw[JW,aE<|Yq h,h,fG]
theorem ad7{p:Piece}{x:J (J B)}:(cH steps hd rows<|ps++[p]).set (4+2*U ps) (.list<|aw x)=cH steps hd rows (ps++[(p.1,p.2.1,x)]):=by
 have e:∀q:Piece,cH steps hd rows (ps++[q])=(.list (bf steps):: .list (aw hd):: .list (aw rows):: .list (iJ<|U ps+1)::nq 4 ps)++[.list<|aw q.2.2,.list [.int q.1,.int q.2.1,.ref<|4+2*U ps]]:=λq=>by
  unfold cH;simp only[Hz,aK];rfl
 (refine D (e _)<|D (e _)<|D (PZ<|by simp only[cK,Hy];exact M8) ?_);rfl
noncomputable def nt(k old new:B)(b:bb)(e:J B):J (ao×V):=[("inside",.bool b),("new",.int new),("old",.int old),("pieces",.ref 3),("rows",.ref 2),("end",.str<|tx e),("heads",.ref 1),("around",.int k),("steps",.ref 0)]
section
variable{C:Cx}{q:B}{st ba ce:St}
theorem ad8{ρ:J ax}{l:J V}{v:V}(e:V.IsL ρ h (l++[v]) xs):∃ys y,xs=ys++[y]/\V.IsL ρ h l ys/\v.Is ρ h y:=by
 induction l generalizing xs with
 |nil=>obtain⟨y,r,rfl,i,i2⟩:=e;obtain rfl:r=[]:=i2;exact⟨[],y,rfl,rfl,i⟩
 |cons aiA l ih=>
  refine cE e λz r bE i i2=>?_
  clear e;subst bE;refine dh (ih i2) λys y av G h2=>?_
  subst av;exact⟨z::ys,y,rfl,⟨z,ys,rfl,i,G⟩,h2⟩
theorem aQ.pop{k:B}{l:J V}{v:V}(hk:st.hp[k]?=some (.list<|l++[v]))(hz:U l<=1000000):aQ C n (.builtin "list.pop") [.ref k] st v ⟨st.loc,st.hp.set k<|.list l⟩:=.mk λA s ρ xs Q hA R aV h=>by
 refine cE aV λx r bE cx i2=>?_
 clear aV;subst bE;refine aH cx λa ha av=>?_
 clear cx;subst av;obtain rfl:r=[]:=i2;refine dv (R.led.objs k _ a hk ha) λvs m ho hl=>dh (ad8 hl) λys y e G h2=>?_
 have hs:vs.size=U l+1:=by refine bL eO<|D (dK hl)<|D aK ?_;rfl
 have hy:vs[vs.size-1]?=some y:=by
  refine bL (jX)<|D e<|bL eO<|D e<|D aK ?_;simp
 have her:(vs.eraseIdxIfInBounds<|vs.size-1).toList=ys:=by
  have:vs=(ys++[y]).toArray:=by exact bL e rfl
  subst this;simp[bD.eraseIdxIfInBounds];exact D (J.eraseIdx_append_of_length_le (aG _) _)<|D (fG _)<|cM _
 refine Ec F.slot_list_pop ⟨_,ho,rfl⟩ F.entry_list_pop (F.args_list_pop_1 _) (MeetsSeq.list_pop_last a vs m y hy<|by refine D hs ?_;exact mo<|by exact Z6 hz) ⟨ho,?_⟩;refine xE (⟨_,rfl⟩:∃m',fY (λxs=>xs.eraseIdxIfInBounds<|vs.size-1) ⟨.type "list",aA,.seq vs m,#[]⟩=⟨.type "list",aA,.seq (vs.eraseIdxIfInBounds<|vs.size-1) m',#[]⟩) λm' e'=>?_
 have ht:me ⟨pQ "list",aA,.seq vs m,#[]⟩=false:=by rfl
 have j7:bF s.heap (s.heap.update a<|fY λxs=>xs.eraseIdxIfInBounds<|vs.size-1):=jY (iA ..) ho ht;refine h ρ _ _ (bk.change R (ob:=.list l) ha (iA ..) ⟨_,m',(pP _ ho rfl).trans<|bB some e',?_⟩ s.toks)<|h2.mono (bP _) j7;exact D her<|G.mono (bP _) j7
end
theorem HB{it:ax}{i:B}{oo:bc}{items:bD ak}{x:ak}(hit:h.get? it=some ⟨.type "tuple_iterator",aA,.fields #[.ref tp,.int i 0],#[]⟩)
  (ie:h.get? tp=some oo) (hd:oo.data= .seq items m) (hx:items[i]?=some x)
  (hQ:∀h',h'.get? it=some ⟨.type "tuple_iterator",aA,.fields #[.ref tp,.int ((i+1:B):az) 0],#[]⟩->iW it h h'->Q (some x) ⟨h',g,d,t,os⟩):aF (aN M w) A (oG<|.ref it) Q E ⟨h,g,d,t,os⟩:=by
 have hT:(⟨h,g,d,t,os⟩:ay).TypeIs (.ref it) "tuple_iterator":=⟨_,hit,rfl⟩
 refine wpAny_bind<|wpAny_attempt<|wpAny_callSpecial?_slot (name:=ft "__next__") hT slot_tupleiter_next<|wpAny_call_entry slot_tupleiter_next hT entry_tupleiter_next ?_<|args_tupleiter_next _;show aF _ _ (field (.ref it) 0 >>= _) _ _ _;refine wpAny_bind<|wpAny_field hit rfl (x:=.ref tp) rfl ?_;dsimp only;show aF _ _ (if(ue tp==jB)=true then _ else _) _ _ _;refine D (aE λe=>by cases e) ?_
 show aF _ _ (field (.ref it) 1 >>= _) _ _ _;refine wpAny_bind<|wpAny_field hit rfl (x:=.int i 0) rfl<|wpAny_bind<|wpAny_seqItems ie hd ?_;simp only[xC,hx];refine wpAny_bind<|wpAny_setField hit rfl (aG _)<|wpAny_pure ⟨x,rfl,wpAny_pure<|hQ _ ((pP _ hit rfl).trans ?_)<|iA ..⟩;rfl
theorem ad9{it:ax}{i:B}{oo:bc}{items:bD ak}(hh:A.handled=aA)(hit:h.get? it=some ⟨.type "tuple_iterator",aA,.fields #[.ref tp,.int i 0],#[]⟩)
  (ie:h.get? tp=some oo) (hd:oo.data= .seq items m) (hx:items[i]?=aA)
  (hQ:∀h',qX it h h'->Q aA ⟨h',g,d,t,os⟩):aF (aN M w) A (oG<|.ref it) Q E ⟨h,g,d,t,os⟩:=by
 have hT:(⟨h,g,d,t,os⟩:ay).TypeIs (.ref it) "tuple_iterator":=⟨_,hit,rfl⟩
 refine wpAny_bind<|wpAny_attempt<|wpAny_callSpecial?_slot (name:=ft "__next__") hT slot_tupleiter_next<|wpAny_call_entry slot_tupleiter_next hT entry_tupleiter_next ?_<|args_tupleiter_next _;show aF _ _ (field (.ref it) 0 >>= _) _ _ _;refine wpAny_bind<|wpAny_field hit rfl (x:=.ref tp) rfl ?_;dsimp only;show aF _ _ (if(ue tp==jB)=true then _ else _) _ _ _;refine D (aE λe=>by cases e) ?_
 show aF _ _ (field (.ref it) 1 >>= _) _ _ _;refine wpAny_bind<|wpAny_field hit rfl (x:=.int i 0) rfl<|wpAny_bind<|wpAny_seqItems ie hd ?_;simp only[xC,hx];refine wpAny_bind (wpAny_rule<|wpAny_bind<|wpAny_setField hit rfl (by simp) ?_);have hs:A.in1.handled=aA:=hh
 iterate 30 (try (first|wp_step))
 refine wpAny_bind<|wpAny_handled<|D hs<|wpAny_bind<|wpAny_pure<|wpAny_throw ?_;refine wpAny_bind<|wpAny_isInstance (T:="StopIteration") (b:=true) ⟨_,ew _ rfl,rfl⟩ isSubtype_stop ?_;exact wpAny_pure<|hQ _<|((iA ..).extBut.push _).push _
theorem aea:tU "tuple.__iter__"=some .slot:=by kernel_rfl
theorem aeb:splitId "tuple.__iter__"=some ("tuple","__iter__"):=by kernel_rfl
theorem aec{Q:fF->ay->Prop}(hC:h.get? c=some (dW nm q c N k0 k1 k2 k3 k5))(ha:h.get? a=some ⟨.ref c,dd,.seq vs n,#[]⟩)(hq:Q () ⟨h,g,d,t,os⟩):
  aF (aN M w) A (mJ "tuple.__iter__" ⟨[.ref a],[]⟩) Q E ⟨h,g,d,t,os⟩:=by
 have Hm:=args_tuple_iter<|.ref a;unfold mJ;refine D aea<|D aeb ?_
 repeat (first|with_reducible refine wpAny_loadPart_at ha ?_|with_reducible refine sW hC ?_|wp_step)
 exact hq
theorem aed{Q:ak->ay->Prop}(hC:h.get? c=some (dW nm q c N k0 k1 k2 k3 k5))(hn:h.Ns N mN)(hi:mN "__iter__"=aA)
  (ie:h.get? tp=some ⟨.ref c,dd,.seq vs m,#[]⟩)
  (hQ:Q (.ref h.objs.size) ⟨h.push ⟨.type "tuple_iterator",aA,.fields #[.ref tp,.int 0 0],#[]⟩,g,d,t,os⟩):aF (aN M w) A (oH<|.ref tp) Q E ⟨h,g,d,t,os⟩:=by
 have f1:=slot_tuple_iter.lookup;have f2:=slot_tuple_iter.bind<|.ref tp;unfold oH
 iterate 30 (try (first|with_reducible refine qm hC hn f1 ?_|with_reducible refine wpAny_loadPart_at ie ?_|wp_step))
 refine D hi ?_
 have pre:callSpecialIfBoundUnlessNone? (ue tp) "__iter__"=callSpecialIfBoundUnlessNone? (ue tp) "__iter__":=rfl;unfold callSpecialIfBoundUnlessNone?
 iterate 30 (try (first|with_reducible refine qm hC hn f1 ?_|with_reducible refine wpAny_loadPart_at ie ?_|(rw[hi];dsimp only)|wp_step))
 refine wpAny_askSetting ?_
 have lU:(⟨h,g,d,t,os⟩:ay).heap.get? tp=some ⟨.ref c,dd,.seq vs m,#[]⟩:=ie;have f9:=slot_tupleiter_next.lookup;have tail:∀{R:ak->ay->Prop},R (.ref h.objs.size) ⟨h.push ⟨.type "tuple_iterator",aA,.fields #[.ref tp,.int 0 0],#[]⟩,g,d,t,os⟩->aF (aN M w) A (gR (.builtin "tuple.__iter__") [.ref tp]) R E ⟨h,g,d,t,os⟩:=λhR=>by
  refine wpAny_call<|codeAny_call_builtin slot_tuple_iter.plain entry_tuple_iter<|aec hC ie ?_;show aF _ _ (do ret (←newFields "tuple_iterator" [.ref tp,rawInt 0])) _ _ _;exact wpAny_bind<|wpAny_newObj_type<|wpAny_pure hR
 split
 ·iterate 24 (try (first|exact hQ|refine tail ?_|with_reducible refine wpAny_loadPart_at (ew _ rfl) ?_|wp_step))
 ·refine wpAny_tryCatch ?_
  iterate 24 (try (first|exact hQ|refine tail ?_|with_reducible refine wpAny_loadPart_at (ew _ rfl) ?_|wp_step))
theorem aee{x y z:ak}{Q:J ak->ay->Prop}(hh:A.handled=aA)(hC:h.get? c=some (dW nm q c N k0 k1 k2 k3 k5))(hn:h.Ns N mN)(hi:mN "__iter__"=aA)
  (ie:h.get? tp=some ⟨.ref c,dd,.seq #[x,y,z] m,#[]⟩)
  (hQ:∀h',(∀b o,h.get? b=some o->h'.get? b=some o)->Q [x,y,z] ⟨h',g,d,t,os⟩):aF (aN M w) A (unpackItems (.ref tp) 3 aA) Q E ⟨h,g,d,t,os⟩:=by
 have bJ:tp<h.objs.size:=dH ie;have k0:∀b o,h.get? b=some o->(h.push ⟨.type "tuple_iterator",aA,.fields #[.ref tp,.int 0 0],#[]⟩).get? b=some o:=λb o e=>dE _ e;have step:∀{G h2:bn},(∀b o,h.get? b=some o->G.get? b=some o)->iW h.objs.size G h2->∀b o,h.get? b=some o->h2.get? b=some o:=λk s b o e=>(s.2 b<|iT<|dH e).trans<|k b o e;refine wpAny_bind ?_
 unfold notIterableAtAll specialOf;have f1:=slot_tuple_iter.lookup
 iterate 12 (try (first|with_reducible refine qm hC hn f1 ?_|with_reducible refine wpAny_loadPart_at ie ?_|(rw[hi];dsimp only)|wp_step))
 refine wpAny_holding<|aed hC hn hi ie<|wpAny_bind<|wpAny_holding ?_;have yY:(h.push ⟨.type "tuple_iterator",aA,.fields #[.ref tp,.int 0 0],#[]⟩).get? h.objs.size=some ⟨.type "tuple_iterator",aA,.fields #[.ref tp,.int ((0:B):az) 0],#[]⟩:=ew _ rfl;refine wpAny_bind<|HB yY (k0 _ _ ie) rfl (x:=x) rfl λG aef s1=>wpAny_bind<|wpAny_holding ?_;have k1:=step k0 s1;refine wpAny_bind<|HB aef (k1 _ _ ie) rfl (x:=y) rfl λh2 mU s2=>wpAny_bind<|wpAny_holding ?_;have k2:=step k1 s2;refine wpAny_bind<|HB mU (k2 _ _ ie) rfl (x:=z) rfl λh3 aeg s3=>wpAny_bind<|wpAny_holding ?_;have k3:=step k2 s3;exact wpAny_pure (wpAny_pure<|wpAny_pure<|wpAny_pure<|D (aE<|by simp)<|wpAny_bind<|wpAny_holding<|ad9 hh aeg (k3 _ _ ie) rfl rfl λh4 e4=>(D (aE<|by simp)<|wpAny_pure<|hQ h4 λb o e=>e4 b o (iT<|dH e)<|k3 b o e))
section
variable{C:Cx}{q:B}{st ba ce:St}
theorem cW.HC{elts:J bv}{k:B}{p:cN}{aiA v r:V}{qn:ao}(hC:C.top.get? c=some (dW nm qn c N k0 k1 k2 k3 k5))(hn:C.top.Ns N mN)(hi:mN "__iter__"=aA)
  (h:bU C n elts [aiA,v,r] st am):cW C n (.Tuple elts k p) (.tup (.ref c) [aiA,v,r]) st am:=.mk λA s ρ x Q hA R hv hq=>by
 rw[EO];refine wpAny_bind<|wpAny_standAt ?_;unfold unpack;refine D h.star.1<|D h.star.2<|oK hv λtc a vs m bE cx bR=>?_;clear hv;subst bE;obtain⟨dd,cO⟩:=cx;refine vT bR λy0 q1 e2 j0 y1 q2 BC=>ui BC λe3 j1 y2 q3 e4 j2 e5=>?_
 subst e3 e4 e5;have HD:vs=#[y0,y1,y2]:=ua e2;subst HD;obtain⟨hh,g,d,t,os⟩:=s;refine wpAny_bind<|wpAny_holding<|aee hA.1 (R.led.top _ _ hC) (hn.keeps R.led.top) hi cO λh' hk=>?_;have N:=bk.grow (s':=⟨h',g,d,t,os⟩) R hk (eN.refl _) rfl rfl;exact h.go hA N.rep ⟨_,_,rfl,j0.mono N.pre N.aX,_,_,rfl,j1.mono N.pre N.aX,_,_,rfl,j2.mono N.pre N.aX,rfl⟩ λbh s2 N2=>hq bh s2<|N.trans N2
end
theorem aeh:tU "tuple.__lt__"=some .slot:=by kernel_rfl
theorem aei:splitId "tuple.__lt__"=some ("tuple","__lt__"):=by kernel_rfl
theorem aej{Q:bb->ay->Prop}(hC:h.get? c=some (dW nm q c N k0 k1 k2 k3 k5))(ha:h.get? a=some ⟨.ref c,dd,.seq vs n,#[]⟩)(hq:Q true ⟨h,g,d,t,os⟩):
  aF (aN M w) A (isInstance (.ref a)<|.type "tuple") Q E ⟨h,g,d,t,os⟩:=by
 unfold isInstance
 repeat (first|with_reducible refine wpAny_loadPart_at ha ?_|with_reducible refine sW hC ?_|wp_step)
 exact hq
theorem aek{b:ak}{Q:fF->ay->Prop}(hC:h.get? c=some (dW nm q c N k0 k1 k2 k3 k5))(ha:h.get? a=some ⟨.ref c,dd,.seq vs n,#[]⟩)(hq:Q () ⟨h,g,d,t,os⟩):
  aF (aN M w) A (mJ "tuple.__lt__" ⟨[.ref a,b],[]⟩) Q E ⟨h,g,d,t,os⟩:=by
 have Hm:=F.args_tuple_lt_2 (.ref a) b;unfold mJ;refine D aeh<|D aei ?_
 repeat (first|with_reducible refine wpAny_loadPart_at ha ?_|with_reducible refine sW hC ?_|wp_step)
 exact hq
theorem ael{b:ax}{da db:bC ax}{i j:az}{ti tj:jh}{ys:J ak}{Q:Fin->ay->Prop}(hC:h.get? c=some (dW nm q c N k0 k1 k2 k3 k5))(ha:h.get? a=some ⟨.ref c,da,.seq (q7 i ti::xs).toArray n,#[]⟩)(hb:h.get? b=some ⟨.ref c,db,.seq (q7 j tj::ys).toArray m,#[]⟩)
  (cw:i≠j) (hq:Q (.done<|.ret<|.bool<|decide (i<j)) ⟨h,g,d,t,os⟩):
  aF (aN M w) A (ed.«tuple.__lt__» ⟨[.ref a,.ref b],[]⟩) Q E ⟨h,g,d,t,os⟩:=by
 show aF _ _ (isInstance (.ref b) (.type "tuple") >>= _) _ _ _;refine wpAny_bind<|aej hC hb ?_;refine wpAny_ite_false rfl ?_
 refine wpAny_bind<|wpAny_tupleItemsOf ha rfl<|wpAny_bind<|wpAny_tupleItemsOf hb rfl ?_;rw[DQ,Ae];refine wpAny_bind<|wpAny_bind<|wpAny_bind<|wpAny_eqBool_int<|D (beq_false_of_ne cw:(i==j)=false) ?_;simp only[Ep,xp];exact wpAny_bind<|wpAny_rule<|wpAny_bind<|K8<|wpAny_bind<|wpAny_pure<|wpAny_pure<|wpAny_pure<|wpAny_pure hq
theorem aem{b:ax}{da db:bC ax}{i j:az}{ti tj:jh}{ys:J ak}{Q:bb->ay->Prop}(hu:A.units<cLine)(hC:h.get? c=some (dW nm q c N k0 k1 k2 k3 k5))(hn:h.Ns N mN)(hi:mN "__lt__"=aA)(ha:h.get? a=some ⟨.ref c,da,.seq (q7 i ti::xs).toArray n,#[]⟩)(hb:h.get? b=some ⟨.ref c,db,.seq (q7 j tj::ys).toArray m,#[]⟩)
  (cw:i≠j) (hq:Q (decide (i<j)) ⟨h,g,d,t,os⟩):aF (aN M w) A (keyLt' oneType' (.ref a)<|.ref b) Q E ⟨h,g,d,t,os⟩:=by
 have f1:ea (.type "tuple") "__lt__"=pure (some<|.builtin "tuple.__lt__"):=ED.lookup;have f2:=ED.bind<|.ref a;have tail:aF (aN M w) A (gR (.builtin "tuple.__lt__") [.ref a,.ref b]) (λv s'=>v= .bool (decide (i<j))/\s'=⟨h,g,d,t,os⟩) E ⟨h,g,d,t,os⟩:=
  wpAny_call (codeAny_call_builtin ED.plain F.entry_tuple_lt<|aek hC ha<|ael hC ha hb cw ⟨rfl,rfl⟩)
 rw[keyLt'_oneType,oneLt'_eq];simp only[xp];refine wpAny_bind<|wpAny_cRoomFor hu ?_;unfold callSpecialIfBound?
 iterate 30 (try (first|with_reducible refine qm hC hn f1 ?_|with_reducible refine wpAny_loadPart_at ha ?_|(rw[hi];dsimp only)|wp_step))
 refine wpAny_askSetting<|D f2 ?_;split
 ·refine wpAny_bind<|wpAny_pure<|wpAny_pure<|wpAny_bind<|wpAny_mono tail (λv s' hs=>(xA hs λav bE=>?_)) λH H x=>x;clear hs;subst av bE;exact wpAny_pure<|wpAny_truthy_bool hq
 ·refine wpAny_tryCatch<|wpAny_bind<|wpAny_pure<|wpAny_pure<|wpAny_bind<|wpAny_mono tail (λv s' hs=>(xA hs λav bE=>?_)) λH H x=>x;clear hs;subst av bE;exact wpAny_pure<|wpAny_truthy_bool hq
end
end Mine
namespace Mine
open PySem PySem.W PyProof.Rows
section
variable{α:Type}{p:bD B}{i j m:B}{a:ax}{vs:J ak}
section
variable{β:Type}{v:B->B->Prop}{c:B->B->bb}
noncomputable def fT(v:B->B->Prop)(c:B->B->bb):KasT α->(α->Prop)->Prop
 | .ret a,Q=>Q a
 | .ask i j k,Q=>v i j/\fT v c (k<|c i j) Q
theorem fT.bind{aiC:α->KasT β}{Q:β->Prop}:∀{t:KasT α},fT v c t (λa=>fT v c (aiC a) Q)->fT v c (t.bind aiC) Q
 | .ret _=>λh=>h
 | .ask _ _ _=>λh=>⟨h.1,fT.bind h.2⟩
theorem fT.mono{Q Q':α->Prop}(hq:∀a,Q a->Q' a):∀{t:KasT α},fT v c t Q->fT v c t Q'
 | .ret a=>λh=>hq a h
 | .ask _ _ _=>λh=>⟨h.1,fT.mono hq h.2⟩
theorem fT.wp{cmp:B->B->(bb->ay->Prop)->ay->Prop}{s0:ay}{aiB:α->ay->Prop}(uV:∀i j (C:bb->ay->Prop),v i j->C (c i j) s0->cmp i j C s0):∀{t:KasT α} {Q:α->Prop},fT v c t Q->(∀a,Q a->aiB a s0)->t.kasWp cmp aiB s0
 | .ret a,_,h,hg=>hg a h
 | .ask i j k,_,h,hg=>uV i j _ h.1<|fT.wp uV h.2 hg
end
section
variable{n:B}{key:B->B}
noncomputable def kv(n:B)(i j:B):Prop:=i<n/\j<n/\i≠j
noncomputable def kc(key:B->B)(i j:B):bb:=decide (key i<key j)
noncomputable def kp(key:B->B)(p:bD B)(i:B):B:=key<|p.getD i 0
structure Gd(n:B)(p:bD B):Prop where
 size:p.size=n
 perm:p.toList.Perm (eD n)
noncomputable def nu(key:B->B)(p:bD B)(k:B):Prop:=∀i j,i<j->j<k->kp key p i<kp key p j
noncomputable def sZ(key:B->B)(p:bD B)(k:B):Prop:=∀i j,i<j->j<k->kp key p j<kp key p i
theorem Cn{q:bD B}(h:p[i]?=q[j]?):kp key p i=kp key q j:=by
 unfold kp;simp only[t9,t9,h]
theorem Gd.val(h:Gd n p)(hi:i<n):p.getD i 0<n:=by
 have hs:=h.size;have:p.getD i 0∈p.toList:=by
  simp only[t9,ia<|mf hi hs];simp
 exact rX.mp<|h.perm.mem_iff.mp this
theorem Gd.ne(h:Gd n p)(hi:i<n)(hj:j<n)(fU:i≠j):p.getD i 0≠p.getD j 0:=by
 have hs:=h.size;have hn:p.toList.Nodup:=h.perm.nodup_iff.mpr xf;intro e;rw[t9,t9,ia (mf hi hs),ia (mf hj hs)] at e;simp only[vF] at e;exact fU ((DW (h₀:=by simpa using(mf hi hs:i<p.size)) (h₁:=by simpa using(mf hj hs:j<p.size)) hn).mp (by simpa using e))
theorem Gd.ok(h:Gd n p)(hi:i<n)(hj:j<n)(fU:i≠j):kv n (p.getD i 0) (p.getD j 0):=⟨h.val hi,h.val hj,h.ne hi hj fU⟩
theorem Gd.HE(hk:∀i j,i<n->j<n->key i=key j->i=j)(h:Gd n p)(hi:i<n)(hj:j<n)(fU:i≠j)(hl:¬kp key p i<kp key p j):kp key p j<kp key p i:=by
 have:=h.ne hi hj fU;have:kp key p i≠kp key p j:=λe=>this<|hk _ _ (h.val hi) (h.val hj) e;exact WT hl this
theorem Gd.rev(h:Gd n p)(i j:B):Gd n (kas_rev p i j):=
 ⟨(kas_rev_size i j).trans h.size,(KF.mp<|mirror_perm ..).trans h.perm⟩
theorem Gd.bubble{p:bD B}(h:Gd n p)(i j:B):Gd n (PyProof.Rows.bubble p i j):=
 ⟨(bubble_size ..).trans h.size,(KF.mp<|bubble_perm ..).trans h.perm⟩
theorem nu.ext(G:1<=m)(h:nu key p m)(hl:kp key p (m-1)<kp key p m):nu key p (m+1):=λi j fU hj=>by
 by_cases hm:j=m
 ·subst hm
  by_cases hi:i=j-1
  ·subst hi;exact hl
  ·exact tQ (h i (j-1) (MV fU hi)<|MU G) hl
 ·exact h i j fU<|Fj hj hm
theorem sZ.ext(G:1<=m)(h:sZ key p m)(hl:kp key p m<kp key p (m-1)):sZ key p (m+1):=λi j fU hj=>by
 by_cases hm:j=m
 ·subst hm
  by_cases hi:i=j-1
  ·subst hi;exact hl
  ·exact tQ hl<|h i (j-1) (MV fU hi)<|MU G
 ·exact h i j fU<|Fj hj hm
theorem P0{k:B}(hm:m<=p.size)(hk:k<m):kp key (kas_rev p 0 m) k=kp key p (m-1-k):=by
 refine Cn ?_
 have:=getElem?_mirror_all (i:=0) hm k
 rw[aU ⟨bH _,hk⟩,iu] at this;exact this
theorem sZ.rev(hm:m<=p.size)(h:sZ key p m):nu key (kas_rev p 0 m) m:=λi j fU hj=>by
 exact D (P0 hm<|by exact tQ ‹_› ‹_›) (D (P0 hm hj)<|h _ _ (by exact WR fU hj)<|by exact WQ hj)
variable(hk:∀i j,i<n->j<n->key i=key j->i=j)
include hk
theorem HF{p:bD B}(g:Gd n p):∀(aiC m:B),1<=m->m+aiC<=n->nu key p m->fT (kv n) (kc key) (kas_asc p aiC m) (λr=>m<=r/\r<=m+aiC/\nu key p r/\(r<m+aiC->kp key p r<kp key p (r-1)))
 |0=>λm G h2 h3=>⟨aG _,aG _,h3,λh=>aZ h<|jg _⟩
 |aiC+1=>λm G h2 h3=>by
  refine⟨g.ok (um h2) (xQ h2)<|AT G,?_⟩;show fT _ _ (if decide (kp key p m<kp key p (m-1))=true then _ else _) _
  by_cases hc:kp key p m<kp key p (m-1)
  ·exact D (aU<|dG hc)<|⟨aG _,by exact dZ _ _,h3,λH=>hc⟩
  ·exact D (aE<|by simpa using hc) ((HF g aiC (m+1) (rZ _) (xN h2)<|h3.ext G<|g.HE hk (um h2) (xQ h2) (AT G) hc).mono λr hr=>(gg hr λa b cc d=>(⟨by exact lz ‹_›,by exact MT b,cc,λh=>d<|by exact WP h⟩)))
theorem P1{p:bD B}(g:Gd n p):∀(aiC m:B),1<=m->m+aiC<=n->sZ key p m->fT (kv n) (kc key) (kas_desc aiC p m 0) (λr=>r.1=p/\m<=r.2.1/\r.2.1<=m+aiC/\sZ key p r.2.1/\r.2.2=0)
 |0=>λm G h2 h3=>⟨rfl,aG _,aG _,h3,rfl⟩
 |aiC+1=>λm G h2 h3=>by
  refine⟨g.ok (um h2) (xQ h2)<|AT G,?_⟩;show fT _ _ (if decide (kp key p m<kp key p (m-1))=true then(if 0>0 then _ else _) else _) _
  by_cases hc:kp key p m<kp key p (m-1)
  ·exact D (aU<|dG hc) (D (aE<|by decide)<|(P1 g aiC (m+1) (rZ _) (xN h2)<|h3.ext G hc).mono λr hr=>(sf hr λe a b cc d=>(⟨e,by exact lz ‹_›,by exact MT b,cc,d⟩)))
  ·refine D (aE<|by simpa using hc)<|⟨g.ok (xQ h2) (um h2)<|WO G,?_⟩;have hd:=g.HE hk (i:=m) (j:=m-1) (um h2) (xQ h2) (AT G) hc;show fT _ _ (if decide (kp key p (m-1)<kp key p m)=true then _ else _) _;refine D (aU<|dG hd) ?_
   exact⟨rfl,aG _,by dsimp only;exact dZ _ _,h3,rfl⟩
theorem aen(G:1<=n)(g:Gd n p):fT (kv n) (kc key) (kas_count n p) (λr=>1<=r.1/\r.1<=n/\Gd n r.2/\nu key r.2 r.1):=by
 refine fT.bind ((HF hk g (n-1) 1 (aG _) (WN G) λi j a b=>by exact MS b a).mono λm hm=>(gg hm λa b cc d=>?_))
 by_cases e:m=n
 ·subst e;exact D (aU<|by simp)<|⟨a,aG _,g,cc⟩
 ·refine D (aE<|by simpa using e) ?_
  by_cases gJ:m>1
  ·refine D (aU gJ)<|⟨g.ok ‹_› (WM gJ b) (WL gJ),?_⟩;show fT _ _ (if decide (kp key p 0<kp key p (m-1))=true then _ else _) _;exact D (aU<|dG<|cc 0 (m-1) (by exact WK gJ)<|by exact WJ gJ)<|⟨a,by exact WI gJ b,g,cc⟩
  ·refine D (aE gJ) ?_
   obtain rfl:m=1:=by exact WH a gJ
   have hd:=d<|WG e G;refine fT.bind<|(P1 hk g (n-(1+1)) 2 (eM _) (WF e G)<|sZ.ext (aG 1) (λi j a b=>by exact MS b a) hd).mono λr hr=>?_;obtain⟨p',m',q'⟩:=r;refine sf hr λe1 e2 e3 e4 e5=>?_
   dsimp only at e1 e2 e3 e4 e5;subst e1 e5;dsimp only;refine D (aE<|by decide) ?_
   have hs:=g.size;refine fT.bind ((HF hk (g.rev 0 m') (n-m') m' (by exact lz ‹_›) (WE e G e3)<|e4.rev<|WD e G hs e3).mono λr hr=>(gg hr λq1 q2 q3 q4=>?_));exact⟨by dsimp only;exact WC e2 q1,by dsimp only;exact WB e G e3 q2,g.rev 0 m',q3⟩
theorem HG{p:bD B}(g:Gd n p){k:B}(qo:k<n)(hs:nu key p k):∀(aiC l r:B),l<=r->r<=k->r-l<=aiC->(∀i,i<l->kp key p i<kp key p k)->(∀i,r<=i->i<k->kp key p k<kp key p i)->
  fT (kv n) (kc key) (kas_place p k aiC l r) (λm=>m<=k/\(∀i,i<m->kp key p i<kp key p k)/\(∀i,m<=i->i<k->kp key p k<kp key p i))
 |0=>λl r G h2 h3 h4 h5=>by
  obtain rfl:l=r:=by exact WA h3 G
  exact⟨h2,h4,h5⟩
 |aiC+1=>λl r G h2 h3 h4 h5=>by
  dsimp only[kas_place]
  by_cases hl:l≥r
  ·refine D (aU hl) ?_
   obtain rfl:l=r:=by exact Wz G hl
   exact⟨h2,h4,h5⟩
  ·refine D (aE hl) ?_
   have gJ:l<=(l+r) / 2:=by lia
   have lW:(l+r) / 2<r:=by lia
   generalize (l+r) / 2=m at gJ lW ⊢;refine⟨g.ok qo (MR qo lW h2)<|AM lW h2,?_⟩;show fT _ _ (if decide (kp key p k<kp key p m)=true then _ else _) _
   by_cases hc:kp key p k<kp key p m
   ·refine D (aU<|dG hc) (HG g qo hs aiC l m gJ (Fc lW h2) (Wy h3 lW) h4 λi a b=>?_)
    by_cases e:i=m
    ·subst e;exact hc
    ·exact tQ hc<|hs m i (Wx e a) b
   ·refine D (aE<|by simpa using hc) ?_
    have hd:=g.HE hk qo (j:=m) (MR qo lW h2) (AM lW h2) hc;refine HG g qo hs aiC (m+1) r ‹_› h2 (Ww h3 gJ) (λi a=>?_) h5
    by_cases e:i=m
    ·subst e;exact hd
    ·exact tQ (hs i m (Fj a e)<|by exact oC ‹_› ‹_›) hd
theorem P2:∀(aiC:B) {p:bD B} (k:B),Gd n p->k+aiC=n->nu key p k->fT (kv n) (kc key) (kas_bin aiC p k) (λp'=>Gd n p'/\nu key p' n)
 |0,p,k,g,h,hs=>by
  obtain rfl:k=n:=h;exact⟨g,hs⟩
 |aiC+1,p,k,g,h,hs=>by
  refine fT.bind ((HG hk g (LE h) hs k 0 k (bH _) (aG _) (aG _) (λi a=>by exact Wv a) λi a b=>by exact Wu b a).mono λl hl=>(eh hl λG h2 h3=>(P2 aiC (k+1) (g.bubble ..) (xO h) λi j fU hj=>?_)));have sz:=g.size;have at':∀x,kp key (bubble p k<|k-l) x=if x=l then kp key p k else if l<x/\x<=k then kp key p (x-1) else kp key p x:=λx=>by
   have:=getElem?_bubble (xs:=p) (src:=k) (Wt h sz) (k-l) (Eb _ _) x
   rw[show k-(k-l)=l by exact Ws G] at this;split
   ·next e=>rw[aU e] at this;exact Cn this
   ·next e=>
    simp only[aE e] at this;split
    ·next e2=>rw[aU e2] at this;exact Cn this
    ·next e2=>rw[aE e2] at this;exact Cn this
  simp only[at',at']
  by_cases i1:i=l
  ·exact D (aU i1) (D (aE<|by exact Wr fU i1)<|D (aU<|by exact Wq hj fU i1)<|h3 _ (by exact Wp fU i1)<|by exact AS hj fU)
  ·refine D (aE i1) ?_
   by_cases j1:j=l
   ·exact D (aU j1) (D (aE<|by exact Wo fU j1)<|h2 _<|by exact mP fU j1)
   ·refine D (aE j1) ?_
    by_cases i2:l<i
    ·exact D (aU<|by exact Wn hj i2 fU) (D (aU<|by exact Wm hj i2 fU)<|hs _ _ (by exact Wl i2 fU)<|by exact AS hj fU)
    ·refine D (aE<|MQ i2) ?_
     by_cases j2:l<j
     ·refine D (aU<|Wk hj j2) ?_
      by_cases e:j-1=l
      ·exact hs _ _ (Wj e i2 i1)<|AS hj j2
      ·exact hs _ _ (Wi e i2 j2)<|AS hj j2
     ·exact D (aE<|by exact MQ j2) (hs _ _ ‹_› (by exact Wh j2 j1 G))
theorem aeo(G:1<=n):fT (kv n) (kc key) (kas_sort n) (λp=>Gd n p/\nu key p n):=by
 have g:Gd n (qO<|eD n):=⟨by simp,Ka _⟩
 refine fT.bind<|(aen hk G g).mono λr hr=>(gg hr λa b cc d=>?_);split
 ·exact D (Km a)<|P2 hk _ _ cc (by exact xq ‹_›) d
 ·obtain e:r.1=n:=by lia
  simp only[e] at d;exact⟨cc,d⟩
end
section
variable{M:du}{w:bz}{A:bS}{s:ay}{E:ak->ay->Prop}
noncomputable def lX(h:bn)(a:ax)(vs:J ak):bn:=((h.update a<|fY λH=>(#[]:bD ak)).push<|q8 "tuple" vs.toArray 0).push<|q8 "list" #[] 0
theorem aep{R:α->α->Prop}{l:J α}(h:U l<2):l.Pairwise R:=by
 cases l with
 |nil=>exact .nil
 |cons a l=>cases l with
  |nil=>exact Jy _ _
  |cons b l=>exact aZ h<|iU.mpr<|pK 2 _
theorem aeq{n:B}{T:ak}{key:B->B}{P:h9->ay->Prop}(ho:s.heap.get? a=some (q8 "list" vs.toArray n))(fV:U vs<64)
  (hk:∀i j,i<U vs->j<U vs->key i=key j->i=j)
  (hT:∀v∈vs,Looks (aN M w) (lX s.heap a vs) (typeOf v) T) (yT:(T !=pQ "tuple")=true) (lU:(T==T)=true)
  (uV:∀i j,i<U vs->j<U vs->i≠j->∀(Q:bb->ay->Prop),Q (decide (key i<key j)) {s with heap:=lX s.heap a vs}->aF (aN M w) A (keyLt' oneType' (vs.getD i .none)<|vs.getD j .none) Q (λH H=>c8) {s with heap:=lX s.heap a vs})
  (h:∀(p:J B) m,p.Perm (eD<|U vs)->p.Pairwise (λi j=>key i<key j)->∀h',(∀b o,b≠a->s.heap.get? b=some o->h'.get? b=some o)->h'.get? a=some (q8 "list" (p.map λi=>vs.getD i jB).toArray m)->P (.done<|.ret .none) {s with heap:=h'}):
  aF (aN M w) A (ed.«list.sort» ⟨[.ref a],[]⟩) P E s:=by
 have ha:a<s.heap.objs.size:=dH ho;refine xE (⟨_,get?_update_seq ho λH=>#[]⟩:∃e1,(s.heap.update a<|fY λH=>(#[]:bD ak)).get? a=some (q8 "list" #[] e1)) λe1 yZ=>?_
 have s8:(lX s.heap a vs).get? a=some (q8 "list" #[] e1):=dE _<|dE _ yZ;have aer:∀b o,b≠a->s.heap.get? b=some o->(lX s.heap a vs).get? b=some o:=λb o hb e=>
  dE _ (dE _<|((iA s.heap a _).2 b hb).trans e)
 have P3:∀(aiC:bc->bc) b o,b≠a->s.heap.get? b=some o->((lX s.heap a vs).update a aiC).get? b=some o:=λaiC b o hb e=>
  ((iA _ a aiC).2 b hb).trans (aer b o hb e)
 refine D (list_sort_plain _)<|wpAny_bind<|listItems_at ho rfl ?_;refine wpAny_bind (listUpdate_at ho rfl ?_ (by refine D rV<|D sizeLine_eq ?_;exact Fy fV)<|bH _);refine wpAny_bind<|seqEpoch_at yZ rfl ?_;refine wpAny_bind (wpAny_newTuple ?_<|by show U vs<=_;rw[sizeLine_eq];exact Fy fV);refine wpAny_bind<|wpAny_newList (wpAny_holding ?_)<|bH _;show aF (aN M w) A _ P E {s with heap:=lX s.heap a vs}
 by_cases h2:U vs<2
 ·have sV:vs.toArray.size<2:=by exact D rV h2
  refine D (aU sV)<|D (aU sV)<|wpAny_bind<|wpAny_pure<|wpAny_bind<|wpAny_pure ?_;dsimp only;have uW:(arrOf<|AH general' (vs.toArray.zip vs.toArray) #[] 7 none).map (·.2)=vs.toArray:=by
   show(vs.toArray.zip vs.toArray).map (·.2)=_;apply KJ.mp;simp[JT]
  refine D uW<|wpAny_bind<|seqEpoch_at s8 rfl ?_;refine wpAny_bind (listUpdate_at s8 rfl ?_ (bH _)<|by refine D rV<|D sizeLine_eq ?_;exact aag h2);refine wpAny_ite_false (fB<|by rw[Kd];exact dy) ?_
  show aF _ _ (do
   match (none:bC ak) with
   |some e=>rule "list.sort.comparison-raised";throw e
   |_=>pure ()
   ret .none) _ _ _
  refine wpAny_bind<|wpAny_pure<|wpAny_pure ?_;have uM:(eD<|U vs).map (λi=>vs.getD i jB)=vs:=by
   apply DV
   ·simp
   ·intro i G h2;have G:i<U vs:=by simpa using G
    simp[c6,bO G]
  refine xE (⟨_,get?_update_seq s8 λH=>vs.toArray⟩:∃c2,((lX s.heap a vs).update a<|fY λH=>vs.toArray).get? a=some (q8 "list" vs.toArray c2)) λc2 uD=>?_
  refine h (eD<|U vs) c2 (Ka _) ?_ _ (P3 _) (by refine D uM ?_;exact uD)
  exact aep (by exact D gO<|h2)
 ·have sV:¬vs.toArray.size<2:=by exact D rV h2
  refine D (aE sV) (D (aE sV)<|wpAny_bind<|kas_kind (by exact iS ‹_›) hT yT lU ?_);have Ho:AH oneType' (vs.toArray.zip vs.toArray) #[] 7 none=kas_st oneType' (pairsOf vs) (qO<|eD<|U vs):=by
   have e:=kas_range<|pairsOf vs;rw[pairsOf_size] at e;show AH oneType' (pairsOf vs) #[] 7 none=AH oneType' ((qO<|eD<|U vs).map<|kas_item<|pairsOf vs) #[] 7 none;exact D e rfl
  have ask:(kas_sort<|U vs).kasWp (kas_ask M w A oneType' vs) (λp s'=>s'={s with heap:=lX s.heap a vs}/\Gd (U vs) p/\nu key p (U vs)) {s with heap:=lX s.heap a vs}:=
   fT.wp (v:=kv<|U vs) (c:=kc key) (λi j C hv hC=>uV i j hv.1 hv.2.1 hv.2.2 C hC) (aeo hk<|aaf h2) (λp hp=>⟨rfl,hp⟩)
  rw[kas_ask_eq] at ask;have run:=kas_runs (E:=E) (Q:=λH aj s'=>∃p:bD B,arrOf aj=p.map (kas_item<|pairsOf vs)/\failedOf aj=none/\s'={s with heap:=lX s.heap a vs}/\Gd (U vs) p/\nu key p (U vs))
   (by exact iS ‹_›) fV (λp' aj s' a1 a2 a3 a4=>⟨p',a2,a3,a4⟩) ask
  rw[←Ho] at run;refine wpAny_bind<|wpAny_mono run ?_ λH H e=>e;intro dM s' hU;obtain⟨⟨⟩,aj⟩:=dM;refine uh hU λp HI hf av gp sp=>?_
  clear hU;subst av;dsimp only;have uW:(arrOf aj).map (·.2)=qO (p.toList.map λi=>vs.getD i jB):=by
   apply KJ.mp;refine D HI<|D bD.map_map<|D bD.toList_map ?_;exact rU λi H=>by show(kas_item (pairsOf vs) i).2=_;exact D (kas_item_eq _ _) rfl
  have ka:(qO<|p.toList.map λi=>vs.getD i jB).size=U vs:=by rw[rV,bg,eO,gp.size]
  refine D uW<|xE (⟨_,get?_update_seq s8 λH=>qO<|p.toList.map λi=>vs.getD i jB⟩:∃c2,((lX s.heap a vs).update a<|fY λH=>qO<|p.toList.map λi=>vs.getD i jB).get? a=some (q8 "list" (qO<|p.toList.map λi=>vs.getD i jB) c2)) λc2 uD=>?_;refine wpAny_bind<|seqEpoch_at s8 rfl ?_;refine wpAny_bind (listUpdate_at s8 rfl ?_ (bH _)<|cY (Am ka)<|by rw[sizeLine_eq];exact aae fV);refine D hf ?_
  refine wpAny_ite_false (fB<|by rw[Kd];exact dy) ?_
  refine wpAny_pure<|h p.toList c2 gp.perm ?_ _ (P3 _) uD;rw[DJ];intro i j hi hj fU;have hl:U p.toList=U vs:=by rw[eO,gp.size]
  have:=sp i j fU<|mP hj hl;unfold kp at this;rw[t9,t9,ia (by have:=gp.size;assumption),ia (by have:=gp.size;assumption)] at this;simpa using this
end
theorem aes{h:bn}{o:bc}(ho:h.get? a=some o)(ht:me o=false):bF h (lX h a vs):=
 ((jY (iA h a _) ho ht).trans<|bF.push _ _).trans (bF.push _ _)
theorem aet{h top:bn}(k:∀b o,top.get? b=some o->h.get? b=some o)(ha:top.objs.size<=a):∀b o,top.get? b=some o->(lX h a vs).get? b=some o:=λb o e=>
 dE _ (dE _<|((iA h a _).2 b (λq=>by subst q;exact aZ (dH e)<|iU.mpr ha)).trans<|k b o e)
section
variable{C:Cx}{n q:B}{st am ba ce:St}
theorem aQ.sort{α:Type}[Inhabited α]{k:B}{bs y6:J α}{aiC:α->B}{r:α->J V}{c N:ax}{nm qn:ao}{k0 k1 k2 k3 k5:bC ak}{mN:ao->bC ak}(hC:C.top.get? c=some (dW nm qn c N k0 k1 k2 k3 k5))(hn:C.top.Ns N mN)(hi:mN "__lt__"=aA)
  (hk:st.hp[k]?=some (.list<|bs.map λx=>V.tup (.ref c)<|.int (aiC x)::r x)) (fV:U bs<64) (hp:y6.Perm bs) (hs:y6.Pairwise λx y=>aiC x<aiC y):
  aQ C (n+1) (.builtin "list.sort") [.ref k] st .none ⟨st.loc,st.hp.set k<|.list<|y6.map λx=>V.tup (.ref c)<|.int (aiC x)::r x⟩:=.mk λA s ρ xs Q hA R aV h=>by
 refine cE aV λx rr bE cx i2=>?_
 clear aV;subst bE;refine aH cx λa ha av=>?_
 clear cx;subst av;obtain rfl:rr=[]:=i2;refine dv (R.led.objs k _ a hk ha) λvs m ho hl=>?_
 have hlen:U vs.toList=U bs:=(dK hl).trans<|bg _;have cw:(bs.map aiC).Nodup:=by
  refine(hp.map aiC).nodup_iff.mp ?_
  rw[J.nodup_iff_pairwise_ne,JQ];exact hs.imp λh=>iT h
 have el:∀i,i<U vs.toList->∃e d us mm t ys,vs.toList.getD i .none= .ref e/\s.heap.get? e=some ⟨.ref c,d,.seq us mm,#[]⟩/\us.toList=q7 (aiC<|bs.getD i default) t::ys:=λi ic=>by
  have hb:i<U bs:=by exact mP ic hlen
  refine Ti (V.IsL.get hl (i:=i) (v:=V.tup (.ref c)<|.int (aiC<|bs.getD i default)::r (bs.getD i default))<|by refine D (c7)<|D (bO hb)<|D (c6)<|D (bO hb) ?_;rfl) λx hx tc e us mm bR=>?_
  refine eh bR λbE cx iL=>?_
  clear bR;subst bE;refine xE cx λd he=>dh iL λy ys ey cq H=>xE cq λt av=>?_
  clear cq;subst av;exact⟨e,d,us,mm,t,ys,by refine D (c6)<|D hx ?_;rfl,he,ey⟩
 have aT:C.top.objs.size<=a:=R.led.low a<|dT ha;have P4:me ⟨pQ "list",aA,.seq vs m,#[]⟩=false:=by rfl
 have j7:=aes (vs:=vs.toList) ho P4;have P5:=aet (vs:=vs.toList) R.led.top aT;have gH:s.heap.get? a=some (q8 "list" vs.toList.toArray m):=by exact D Es ho
 have HJ:∀{e:ax} {d:bC ax} {us:bD ak} {mm:B},s.heap.get? e=some ⟨.ref c,d,.seq us mm,#[]⟩->(lX s.heap a vs.toList).get? e=some ⟨.ref c,d,.seq us mm,#[]⟩:=λhe=>j7 _ _ he rfl;refine wpAny_call_entry slot_list_sort ⟨_,ho,rfl⟩ entry_list_sort (aeq (key:=λi=>aiC<|bs.getD i default) (T:=.ref c) gH (aad fV hlen) (λi j G h2 e=>?_) (λv hv=>?_) rfl (by simp) (λi j G h2 fU Q' hQ=>?_) λp m' pp ps h' keep FX=>?_)<|args_list_sort _
 ·have G:i<U bs:=by exact mP G hlen
  have h2:j<U bs:=by exact mP h2 hlen
  simp only[c6,bO G,bO h2,vF] at e;exact(DW (h₀:=by simpa using G) (h₁:=by simpa using h2) cw).mp (by simpa using e)
 ·obtain⟨i,ic,rfl⟩:=mF hv;refine E3 (el i ic) λe d us mm t ys bR=>eh bR λe1 e2 e3=>?_
  rw[c6,bO ic,vF] at e1;exact D e1<|(Looks.ld<|HJ e2).andThen .now
 ·refine E3 (el i G) λe d us mm t ys bR=>eh bR λe1 e2 e3=>E3 (el j h2) λe' d' us' mm' t' F4 bR=>eh bR λyk e2' e3'=>?_
  refine D e1<|D yk ?_;obtain rfl:us=(q7 (aiC (bs.getD i default)) t::ys).toArray:=by rw[←e3,Es]
  obtain rfl:us'=(q7 (aiC (bs.getD j default)) t'::F4).toArray:=by rw[←e3',Es]
  obtain⟨hh,g,dd,tt,Cj⟩:=s;refine aem hA.in1.units (P5 _ _ hC) (hn.keeps P5) hi (HJ e2) (HJ e2') ?_ ?_
  ·have G:i<U bs:=by exact mP G hlen
   have h2:j<U bs:=by exact mP h2 hlen
   intro e;have e:aiC (bs.getD i default)=aiC (bs.getD j default):=by lia
   simp only[c6,bO G,bO h2,vF] at e;exact fU ((DW (h₀:=by simpa using G) (h₁:=by simpa using h2) cw).mp<|by simpa using e)
  ·have:decide (((aiC (bs.getD i default):B):az)<((aiC (bs.getD j default):B):az))=decide (aiC (bs.getD i default)<aiC (bs.getD j default)):=by simp only[AF]
   exact D this hQ
 ·refine⟨_,rfl,h ρ _ _ (bk.Om R (ob:=.list _) ha (λb o hb e=>keep b o hb e) ⟨_,m',FX,?_⟩ s.toks) rfl⟩;have hb:y6=p.map λi=>bs.getD i default:=by
   refine J.Perm.eq_of_pairwise (le:=λx y=>aiC x<aiC y) (λH H H H q q'=>aZ (tQ q q')<|jg _) hs ?_<|hp.trans ?_
   ·rw[JQ];exact ps
   ·have:=(pp.map λi=>bs.getD i default).symm;rw[hlen] at this;refine J9 (J.Perm.of_eq ?_) this;apply DV
    ·simp
    ·intro i G h2;simp[c6,bO G]
  refine D hb<|D gP ?_;have aeu:bF s.heap h':=λb o e t=>keep b o (λq=>by subst q;rw[ho] at e;cases e;rw[P4] at t;cases t) e;have pf:∀i∈p,i<U vs.toList:=λi ic=>rX.mp<|pp.mem_iff.mp ic;refine GF (by simp) λi v x G h2=>?_
  simp only[c7] at G h2;cases y7:p[i]? with
  |none=>rw[y7] at G;cases G
  |some j=>
   rw[y7] at G h2;cases G;cases h2;have hj:=pf j<|dT y7;refine aH (V.IsL.get hl (i:=j) (v:=V.tup (.ref c)<|.int (aiC<|bs.getD j default)::r (bs.getD j default))<|by refine D (c7)<|D (bO<|mP hj hlen)<|D (c6)<|D (bO<|mP hj hlen) ?_;rfl) λx hx ix=>?_
   show V.Is ρ h' _ (vs.toList.getD j .none);refine D (c6)<|D hx ?_;exact ix.mono (bP _) aeu
end
end
end Mine
namespace Mine
open PySem PyProof.Rows
namespace TC
theorem aev:ea (.type "type") "_make"=pure aA:=by rw[typeLookup_type,builtinLookup_eq_fast];kernel_rfl
theorem aew:ea (.type "tuple") "_make"=pure aA:=by rw[typeLookup_type,builtinLookup_eq_fast];kernel_rfl
theorem HK:qW "classmethod" "__get__" "classmethod.__get__":=
 .of (owner:="classmethod") (n:="__get__") (by rw[typeLookup_type,builtinLookup_eq_fast];kernel_rfl) (by decide+kernel) (by decide+kernel) (by decide+kernel)
  (by first|exact .inl (by decide+kernel)|exact .inr<|by decide+kernel) (by rw[isSubtype_type];kernel_rfl)
theorem aex:qS table "classmethod.__get__"=some ed.«classmethod.__get__»:=entryFor_of_tree (by kernel_rfl)
theorem P6(a b c:ak):l9 "classmethod.__get__" ⟨[a,b,c],[]⟩:=by unfold l9;kernel_rfl
end TC
section
variable{A:bS}{E Q:ak->ay->Prop}{mN mS:ao->bC ak}{sh:J (ax×J V)}{eK:ax->Prop}
section
variable{M:du}{w:bz}{h:bn}{g:bD de}{d:cV}{t:B}{os:bM}
variable{nm q:ao}{c N:ax}{k0 k1 k2 k3 k5:bC ak}
noncomputable def wt(aiC c:ax):bc:={cls:=.type "method",data:=.fields #[.ref aiC,.ref c]}
theorem aey{sA fA:ax}{x:ak}{dd:bC ax}{tk:jh}{Q:Fin->ay->Prop}(hC:h.get? c=some (dW nm q c N k0 k1 k2 k3 k5))(hn:h.Ns N mN)(hs:mN "_make"=some (.ref sA))(lT:h.get? sA=some ⟨.type "classmethod",dd,.fields #[.ref fA,x],#[]⟩)
  (gX:h.Ns r9 mS) (ph:mS "thirdparty.any"=aA)
  (hq:Q (.done<|.ret<|.ref h.objs.size) ⟨h.push<|wt fA c,g,d,t,os⟩):aF (aN M w) A (ed.«type.__getattribute__» ⟨[.ref c,.str "_make" tk],[]⟩) Q E ⟨h,g,d,t,os⟩:=by
 have hT:(⟨h,g,d,t,os⟩:ay).TypeIs (.ref c) "type":=⟨_,hC,rfl⟩
 have lU:(⟨h,g,d,t,os⟩:ay).TypeIs (.ref sA) "classmethod":=⟨_,lT,rfl⟩
 have f1:=TC.aev;have f4:=TC.HK.lookup;unfold ed.«type.__getattribute__»
 repeat (first|with_reducible refine wpAny_nsGet gX ?_|with_reducible refine qm hC hn TC.aew ?_|wp_step)
 refine D hs ?_
 have f5:=TC.P6 (.ref sA) .none<|.ref c
 repeat (any_goals (first|assumption|wp_step))
 refine codeAny_call_builtin TC.HK.plain TC.aex<|TC.HK.check _ _ _ _ _ _ _ _ lU (TC.P6 _ _ _) ?_
 repeat (any_goals (first|assumption|with_reducible refine wpAny_loadPart_at lT ?_|wp_step))
theorem aez{sA fA:ax}{x:ak}{dd:bC ax}(hC:h.get? c=some (dW nm q c N k0 k1 k2 k3 k5))(hn:h.Ns N mN)(hs:mN "_make"=some (.ref sA))(lT:h.get? sA=some ⟨.type "classmethod",dd,.fields #[.ref fA,x],#[]⟩)
  (gX:h.Ns r9 mS) (ph:mS "thirdparty.any"=aA)
  (hq:Q (.ref h.objs.size) ⟨h.push<|wt fA c,g,d,t+1,os⟩):aF (aN M w) A (l8 (.ref c) "_make" true) Q E ⟨h,g,d,t,os⟩:=by
 have hT:∀t,(⟨h,g,d,t,os⟩:ay).TypeIs (.ref c) "type":=λt=>⟨_,hC,rfl⟩
 have yT:=hT t;have lU:=hT<|t+1;have f2:=TC.nk.lookup;have f3:=TC.nk.bind<|.ref c;unfold l8
 repeat (any_goals (first|assumption|wp_step))
 refine codeAny_call_builtin TC.nk.plain TC.Hj<|TC.nk.check _ _ _ _ _ _ _ _ lU (TC.Hk _ _)<|aey hC hn hs lT gX ph ?_
 repeat (any_goals (first|assumption|wp_step))
end
section
variable{C:Cx}{n q:B}{st am ba ce:St}
end
structure Rel(T:Wd)(sh:J<|ax×J V)(g:B->Prop)(own:ax->Prop)(s s':ay):Prop where
 keep:∀b o,own b->s.heap.get? b=some o->s'.heap.get? b=some o
 aX:bF s.heap s'.heap
 sh:∀p∈sh,(O.list p.2).Is T.w [] s'.heap p.1
 top:∀b o,T.top.get? b=some o->s'.heap.get? b=some o
 gens:∀(i:B) (x:de),g i->s.gens[i]?=some x->s'.gens[i]?=some x
 news:∀(i:B) (x:de),g i->s.gens.size<=i->s'.gens[i]?=some x->x= .finished
 size:s.gens.size<=s'.gens.size
 os:s'.os=T.os
 drawn:s'.drawn=T.drawn
structure Mv(T:Wd)(sh:J<|ax×J V)(g:B->Prop)(own:ax->Prop)(s s':ay):Prop where
 keep:∀b o,s.heap.get? b=some o->¬own b->(∀p∈sh,p.1≠b)->s'.heap.get? b=some o
 aX:bF s.heap s'.heap
 sh:∀p∈sh,(O.list p.2).Is T.w [] s'.heap p.1
 top:∀b o,T.top.get? b=some o->s'.heap.get? b=some o
 gens:∀(i:B) (x:de),¬g i->s.gens[i]?=some x->s'.gens[i]?=some x
 size:s.gens.size<=s'.gens.size
 os:s'.os=T.os
 drawn:s'.drawn=T.drawn
inductive It where
 |val (v:V)
 |obj (o:O)
noncomputable def It.Is(T:Wd)(own eK:ax->Prop)(s' bQ:ay):It->ak->Prop
 | .val v,x=>v.Is [] bQ.heap x
 | .obj o,x=>∃a,x= .ref a/\(own a\/s'.heap.get? a=aA)/\T.top.objs.size<=a/\¬eK a/\o.Is T.w [] bQ.heap a
noncomputable def gq(T:Wd)(n:B)(I:ax)(sh:J<|ax×J V)(g:B->Prop):J It->(ax->Prop)->ay->Prop
 | [],own,s=>∀s',Rel T sh g own s s'->∀(A:bS) (Q:bC ak->ay->Prop) (E:ak->ay->Prop),cn n A->
   (∀bQ,Mv T sh g own s' bQ->(∀(i:B) (x:de),g i->bQ.gens[i]?=some x->x= .finished)->Q aA bQ)->aF (aN T.prog T.w) A (oG<|.ref I) Q E s'
 |it::l,own,s=>∀s',Rel T sh g own s s'->∀(A:bS) (Q:bC ak->ay->Prop) (E:ak->ay->Prop),cn n A->
   (∀x bQ eK,Mv T sh g own s' bQ->(∀b,eK b->(own b\/s'.heap.get? b=aA)/\∃o,bQ.heap.get? b=some o)->it.Is T own eK s' bQ x->gq T n I sh g l eK bQ->Q (some x) bQ)->aF (aN T.prog T.w) A (oG<|.ref I) Q E s'
section
variable{T:Wd}{g:B->Prop}{n:B}{own:ax->Prop}{s s' bQ:ay}{I:ax}
theorem Rel.trans(x:Rel T sh g own s s')(y:Rel T sh g own s' bQ):Rel T sh g own s bQ:=by
 refine⟨λb o h e=>y.keep b o h<|x.keep b o h e,x.aX.trans y.aX,y.sh,y.top,λi z h e=>y.gens i z h<|x.gens i z h e,λi z hg h e=>?_,cY x.size y.size,y.os,y.drawn⟩
 by_cases hi:i<s'.gens.size
 ·have e1:s'.gens[i]?=some s'.gens[i]:=ia hi;have e2:=x.news i _ hg h e1;rw[y.gens i _ hg e1] at e;cases e;exact e2
 ·exact y.news i z hg (by exact iS ‹_›) e
theorem Rel.weak(x:Rel T sh g own s s')(h:∀b,eK b->own b):Rel T sh g eK s s':=⟨λb o hb e=>x.keep b o (h b hb) e,x.aX,x.sh,x.top,x.gens,x.news,x.size,x.os,x.drawn⟩
theorem Mv.trans(x:Mv T sh g own s s')(h:∀b,eK b->own b\/s.heap.get? b=aA)(y:Mv T sh g eK s' bQ):Mv T sh g own s bQ:=by
 refine⟨λb o e hb hs=>y.keep b o (x.keep b o e hb hs) (λyj=>?_) hs,x.aX.trans y.aX,y.sh,y.top,λi z h e=>y.gens i z h<|x.gens i z h e,cY x.size y.size,y.os,y.drawn⟩;rcases h b yj with h|h
 ·exact hb h
 ·rw[h] at e;cases e
theorem Mv.weak(x:Mv T sh g own s s')(h:∀b,own b->eK b):Mv T sh g eK s s':=⟨λb o e hb hs=>x.keep b o e (λq=>hb<|h b q) hs,x.aX,x.sh,x.top,x.gens,x.size,x.os,x.drawn⟩
theorem gq.rel{l:J It}(aiC:gq T n I sh g l own s)(r:Rel T sh g own s s'):gq T n I sh g l own s':=by
 cases l with
 |nil=>exact λbQ r'=>aiC bQ<|r.trans r'
 |cons it l=>exact λbQ r'=>aiC bQ<|r.trans r'
theorem eN.size{a b:bD de}(h:eN a b):a.size<=b.size:=by
 by_cases hl:b.size<a.size
 ·have e:=h.1 b.size _<|ia hl;have:b.size<b.size:=(jW.mp e).1;exact aZ ‹_› (jg _)
 ·exact iS ‹_›
theorem Rel.upd{a:ax}{aiC:bc->bc}{ob:bc}(ho:s.heap.get? a=some ob)(ht:me ob=false)(ha:¬own a)(hsa:∀p∈sh,p.1≠a)(hl:T.top.objs.size<=a)
  (r:∀p∈sh,(O.list p.2).Is T.w [] s.heap p.1) (top:∀b o,T.top.get? b=some o->s.heap.get? b=some o) (os:s.os=T.os) (dr:s.drawn=T.drawn):Rel T sh g own s {s with heap:=s.heap.update a aiC}:=by
 have sb:iW a s.heap (s.heap.update a aiC):=iA _ _ _;have st:=jY sb ho ht;refine⟨λb o h e=>(sb.2 b λz=>ha<|z▸h).trans e,st,λp hp=>(r p hp).mono (bP _) st<|sb.2 _<|hsa p hp,λb o e=>?_,λi x H e=>e,λi x hg h e=>?_,aG _,os,dr⟩
 ·have:b≠a:=λz=>by
   subst z;exact aZ (dH e)<|iU.mpr hl
  exact(sb.2 b this).trans<|top b o e
 ·have:i<s.gens.size:=(jW.mp e).1;exact(LB this h).elim
theorem P7{S:ax}{res:ak}:∀(l:J V) (own:ax->Prop) (s:ay) (acc:bD ak) (c:B) (A:bS) (R:Result->ay->Prop),cn n A.in1->gq T n I sh g (l.map .val) own s->¬own S->(∀p∈sh,p.1≠S)->T.top.objs.size<=S->
  (∀p∈sh,(O.list p.2).Is T.w [] s.heap p.1)->(∀b o,T.top.get? b=some o->s.heap.get? b=some o)->s.os=T.os->s.drawn=T.drawn->
  s.heap.get? S=some ⟨.type "list",aA,.seq acc c,#[]⟩->acc.size+U l<=km->
  (∀s' vs c',Mv T sh g (λb=>own b\/b=S) s s'->s'.heap.get? S=some ⟨.type "list",aA,.seq (acc++vs.toArray) c',#[]⟩->V.IsL [] s'.heap l vs->(∀(i:B) (x:de),g i->s'.gens[i]?=some x->x= .finished)->R (.ok<|.ret res) s')->
  codeAny (aN T.prog T.w) A (.builtin "list.extend.loop" ⟨[.ref S,.ref I,res],[]⟩) R s
 | []=>λown s acc c A R hA hF hS oa qr eo jp lm iI ho hz hR=>by
  refine codeAny_builtin KS (D (As AD _)<|wpAny_bind<|hF s ⟨λH H H e=>e,bF.refl _,eo,jp,λH H H e=>e,λi x H h e=>aZ (jW.mp e).1 (by exact Ak ‹_›),aG _,lm,iI⟩ _ _ _ hA λs' m fin=>?_);exact wpAny_pure<|hR s' [] c (m.weak λb h=>.inl h) (D (show acc++([]:J ak).toArray=acc by simp)<|m.keep S _ ho hS oa) rfl fin
 |v::l=>λown s acc c A R hA hF hS oa qr eo jp lm iI ho hz hR=>by
  refine codeAny_builtin KS (D (As AD _)<|wpAny_bind<|hF s ⟨λH H H e=>e,bF.refl _,eo,jp,λH H H e=>e,λi x H h e=>aZ (jW.mp e).1 (by exact Ak ‹_›),aG _,lm,iI⟩ _ _ _ hA λx s' eK m dj hx hF'=>?_);have gH:=m.keep S _ ho hS oa;have Co:¬eK S:=λh=>by
   rcases(dj S h).1 with h|h
   ·exact hS h
   ·rw[h] at ho;cases ho
  simp only[cK] at hz;refine wpAny_bind ?_
  refine wpAny_updateSeq gH rfl (wpAny_pure ⟨plainId_quiet AD _,?_⟩) (Tq hz) (by refine D (Et _) ?_;exact Tp hz);have hr:=Rel.upd (T:=T) (g:=g) (own:=eK) (aiC:=fY (·.push x)) gH rfl Co oa qr m.sh m.top m.os m.drawn;refine P7 l eK _ (acc.push x) _ A R hA (hF'.rel hr) Co oa qr hr.sh hr.top hr.os hr.drawn (pP _ gH rfl) (by refine D (Et _) ?_;exact xN hz) λbQ vs c' m2 e2 i2 fin=>?_
  refine hR bQ (x::vs) c' ?_ (by refine D e2 ?_;simp) ⟨x,vs,rfl,hx.mono (bP _)<|hr.aX.trans m2.aX,i2⟩ fin
  have mu:Mv T sh g (λb=>own b\/b=S) s {s' with heap:=s'.heap.update S (fY (·.push x))}:=by
   exact⟨λb o e hb hs=>(((iA s'.heap S _).2 b λz=>hb<|.inr z).trans<|m.keep b o e (λh=>hb<|.inl h) hs),m.aX.trans hr.aX,hr.sh,hr.top,m.gens,m.size,m.os,m.drawn⟩
  refine mu.trans (λb hb=>?_) m2;rcases hb with hb|hb
  ·rcases(dj b hb).1 with h|h
   ·exact .inl<|.inl h
   ·exact .inr h
  ·exact .inl<|.inr hb
end
structure wu(ty:dm):Prop where
 HL:ea (.type ty) "__len__"=pure aA
 HM:ea (.type ty) "__length_hint__"=pure aA
 n1:(pQ ty==pQ "list")=false
 n2:(pQ ty==pQ "tuple")=false
 self:∀(prog:du) (w:bz) (A:bS) (s:ay) (I:ax) (Q:ak->ay->Prop) (E:ak->ay->Prop),s.heap.get? I≠aA->s.TypeIs (.ref I) ty->Q (.ref I) s->aF (aN prog w) A (oH<|.ref I) Q E s
section
variable{T:Wd}{g:B->Prop}{n:B}{own:ax->Prop}{s s' bQ:ay}{I:ax}
theorem gq.same{l:J It}{h':bn}{t:B}(aiC:gq T n I sh g l own s)(hk:∀b o,s.heap.get? b=some o->h'.get? b=some o)(eo:∀p∈sh,(O.list p.2).Is T.w [] s.heap p.1)(jp:∀b o,T.top.get? b=some o->s.heap.get? b=some o)(lm:s.os=T.os)(iI:s.drawn=T.drawn):
  gq T n I sh g l own {s with heap:=h',toks:=t}/\∀p∈sh,(O.list p.2).Is T.w [] h' p.1:=by
 have z:∀p∈sh,(O.list p.2).Is T.w [] h' p.1:=λp hp=>by
  have y:=eo p hp;exact aH y.there λx hx H=>(y.mono (bP _) (iB hk)<|(hk _ _ hx).trans hx.symm)
 exact⟨aiC.rel ⟨λb o H e=>hk b o e,iB hk,z,λb o e=>hk b o<|jp b o e,λH H H e=>e,λi x H h e=>aZ (jW.mp e).1<|iU.mpr h,aG _,lm,iI⟩,z⟩
theorem aeA{ty:dm}(ku:wu ty){S:ax}{res:ak}{l:J V}{c:B}{R:Result->ay->Prop}(hA:cn n A.in1)(hF:gq T n I sh g (l.map .val) own s)(hT:s.TypeIs (.ref I) ty)(hS:¬own S)(oa:∀p∈sh,p.1≠S)(qr:T.top.objs.size<=S)(hSI:S≠I)
  (eo:∀p∈sh,(O.list p.2).Is T.w [] s.heap p.1) (jp:∀b o,T.top.get? b=some o->s.heap.get? b=some o) (lm:s.os=T.os) (iI:s.drawn=T.drawn)
  (ho:s.heap.get? S=some ⟨.type "list",aA,.seq #[] c,#[]⟩) (hz:U l<=km)
  (hR:∀s' vs c',Mv T sh g (λb=>own b\/b=S) s s'->s'.heap.get? S=some ⟨.type "list",aA,.seq vs c',#[]⟩->V.IsL [] s'.heap l vs.toList->(∀(i:B) (x:de),g i->s'.gens[i]?=some x->x= .finished)->R (.ok<|.ret res) s'):
  aF (aN T.prog T.w) A.in1 (Le (.ref S) (.ref I) res)
   (λfin s'=>match fin with| .done aiC=>R (.ok aiC) s'| .again c'=>c'.quiet=true/\codeAny (aN T.prog T.w) A c' R s') (λe s'=>R (.error e) s') s:=by
 have hex:s.heap.get? I≠aA:=by obtain⟨o,h,_⟩:=hT;refine D h ?_;simp
 refine wpAny_bind<|wpAny_typeOf hT ?_;have G:Lg (.ref S) (.ref I)=false:=by simp[Lg,hSI]
 simp only[G,ku.n1,ku.n2,Er,Av,xo];refine wpAny_bind<|ku.self _ _ _ _ _ _ _ hex hT<|wpAny_bind<|wpAny_holding<|wpAny_bind<|wpAny_specialOf hT ku.HL<|wpAny_bind<|wpAny_specialOf hT ku.HM ?_;refine wpAny_pure ?_
 show aF _ A.in1 (rule "list.extend.makes-room" >>= λH=>ed.List.listTouch (.ref S) >>= λH=>
  again (.builtin "list.extend.loop" ⟨[.ref S,.ref I,res],[]⟩)) _ _ _
 refine wpAny_bind<|wpAny_rule<|wpAny_bind<|wpAny_bind<|wpAny_updateSeq ho rfl ?_;have n5:=pP (fY (·.push jB)) ho rfl;refine wpAny_updateSeq (hz:=by seq_fits) n5 rfl ?_
 have r1:=Rel.upd (T:=T) (g:=g) (own:=own) (aiC:=fY (·.push jB)) ho rfl hS oa qr eo jp lm iI;have r2:=Rel.upd (T:=T) (g:=g) (own:=own) (aiC:=fY (·.pop)) n5 rfl hS oa qr r1.sh r1.top r1.os r1.drawn;have s8:=pP (fY (·.pop)) n5 rfl;refine wpAny_pure ⟨plainId_quiet AD _,P7 (S:=S) (res:=res) l own _ #[] _ A R hA (hF.rel<|r1.trans r2) hS oa qr r2.sh r2.top r2.os r2.drawn s8 (by simpa using hz) λs' vs c' m e i fin=>(hR s' _ c' (Mv.trans ⟨λb o e hb hs=>?_,(r1.trans r2).aX,r2.sh,r2.top,λH H H e=>e,aG _,r2.os,r2.drawn⟩ (λb h=>.inl h) m) e (by simpa using i) fin)⟩;have nb:b≠S:=λz=>hb<|.inr z;exact((iA _ S _).2 b nb).trans<|((iA _ S _).2 b nb).trans e
theorem aeB{ty:dm}(ku:wu ty){l:J V}(hA:cn (n+2) A)(hF:gq T n I sh g (l.map .val) own s)(hT:s.TypeIs (.ref I) ty)(dj:∀b,own b->b<s.heap.objs.size)(qr:T.top.objs.size<=s.heap.objs.size)
  (eo:∀p∈sh,(O.list p.2).Is T.w [] s.heap p.1) (jp:∀b o,T.top.get? b=some o->s.heap.get? b=some o) (lm:s.os=T.os) (iI:s.drawn=T.drawn) (hz:U l<=km)
  (hQ:∀s' vs c',Mv T sh g own s s'->s'.heap.get? s.heap.objs.size=some ⟨.type "list",aA,.seq vs c',#[]⟩->V.IsL [] s'.heap l vs.toList->(∀(i:B) (x:de),g i->s'.gens[i]?=some x->x= .finished)->Q (.ref s.heap.objs.size) s'):
  aF (aN T.prog T.w) A (call (.type "list") [.ref I]) Q E s:=by
 have hS:¬own s.heap.objs.size:=λh=>jg _<|dj _ h;have P8:I<s.heap.objs.size:=by obtain⟨o,h,_⟩:=hT;exact dH h
 have oa:∀p∈sh,p.1≠s.heap.objs.size:=λp hp e=>by
  refine aH ((eo p hp).there) λx hx H=>?_
  rw[e] at hx;exact jg _<|dH hx
 refine callType_codes (Q₁:=λobj cX=>obj= .ref s.heap.objs.size/\cX={s with heap:=s.heap.push {cls:=.type "list",data:=.seq #[]}}) F.called_list (F.typeCall_list_1 _) F.entry_list_init
  (code_list_new _ ⟨rfl,rfl⟩) λobj cX h₁=>?_
 refine xA h₁ λav bE=>?_
 clear h₁;subst av bE;have ho:(s.heap.push {cls:=.type "list",data:=.seq #[]}).get? s.heap.objs.size=some {cls:=.type "list",data:=.seq #[]}:=ew _ rfl;refine⟨⟨_,ho,rfl⟩,F.args_list_init_2 _ _,?_⟩;show aF _ A.in1.in1 (do let old ←ed.List.listItems (.ref s.heap.objs.size);ed.List.listUpdate (.ref s.heap.objs.size) (λH=>#[]);letGo old.toList.reverse;Le (.ref s.heap.objs.size) (.ref I) .none) _ _ _;refine wpAny_bind<|wpAny_bind<|wpAny_seqItems ho rfl<|wpAny_pure<|wpAny_bind<|wpAny_updateSeq ho rfl ?_;have n5:=pP (fY λH=>(#[]:bD ak)) ho rfl;refine wpAny_bind<|wpAny_letGo ?_;have kp:∀b o,s.heap.get? b=some o->(s.heap.push {cls:=.type "list",data:=.seq #[]}).get? b=some o:=λb o e=>dE _ e;refine xA (hF.same (h':=s.heap.push {cls:=.type "list",data:=.seq #[]}) (t:=s.toks) kp eo jp lm iI) λf1 z1=>?_
 have r1:=Rel.upd (T:=T) (g:=g) (own:=own) (s:={s with heap:=s.heap.push {cls:=.type "list",data:=.seq #[]}}) (aiC:=fY λH=>(#[]:bD ak)) ho rfl hS oa qr z1 (λb o e=>kp b o<|jp b o e) lm iI;have lU:(⟨(s.heap.push {cls:=.type "list",data:=.seq #[]}).update s.heap.objs.size<|fY λH=>(#[]:bD ak),s.gens,s.drawn,s.toks,s.os⟩:ay).TypeIs (.ref I) ty:=by
  exact aH hT λo h hc=>(⟨o,((iA _ s.heap.objs.size _).2 I<|iT P8).trans<|kp _ _ h,hc⟩)
 refine aeA ku (hA.in1.in1) (f1.rel r1) lU hS oa qr (uf<|iT P8) r1.sh r1.top r1.os r1.drawn n5 hz λs' vs c' m e i fin=>⟨rfl,hQ s' vs c' (⟨λb o e hb hs=>m.keep b o ?_ (λh=>?_) hs,(iB kp).trans<|r1.aX.trans m.aX,m.sh,m.top,m.gens,m.size,m.os,m.drawn⟩) e i fin⟩
 ·exact((iA _ s.heap.objs.size _).2 b<|iT<|dH e).trans<|kp _ _ e
 ·rcases h with h|h
  ·exact hb h
  ·exact aZ (dH e) (by exact D h<|jg _)
end
end
namespace MP
theorem slot_next:qW "map" "__next__" "map.__next__":=
 .of (owner:="map") (n:="__next__") (by rw[typeLookup_type,builtinLookup_eq_fast];kernel_rfl) (by decide+kernel) (by decide+kernel) (by decide+kernel)
  (by first|exact .inl (by decide+kernel)|exact .inr<|by decide+kernel) (by rw[isSubtype_type];kernel_rfl)
theorem P9:qW "map" "__iter__" "map.__iter__":=
 .of (owner:="map") (n:="__iter__") (by rw[typeLookup_type,builtinLookup_eq_fast];kernel_rfl) (by decide+kernel) (by decide+kernel) (by decide+kernel)
  (by first|exact .inl (by decide+kernel)|exact .inr<|by decide+kernel) (by rw[isSubtype_type];kernel_rfl)
theorem aeC:qW "map" "__init__" "object.__init__":=
 .of (owner:="object") (n:="__init__") (by rw[typeLookup_type,builtinLookup_eq_fast];kernel_rfl) (by decide+kernel) (by decide+kernel) (by decide+kernel)
  (by first|exact .inl (by decide+kernel)|exact .inr<|by decide+kernel) (by rw[isSubtype_type];kernel_rfl)
theorem entry_next:qS table "map.__next__"=some ed.«map.__next__»:=entryFor_of_tree (by kernel_rfl)
theorem aeD:qS table "map.__new__"=some ed.«map.__new__»:=entryFor_of_tree (by kernel_rfl)
theorem aeE:qS table "map.__iter__"=some ed.«dict_keyiterator.__iter__»:=
 entryFor_alias (id':="dict_keyiterator.__iter__") (by kernel_rfl) (by first|rfl|decide+kernel|(unfold dm.splitOn;simp+decide [dm.splitOnAux])) (by decide+kernel) (by kernel_rfl)
theorem args_next(a:ak):l9 "map.__next__" ⟨[a],[]⟩:=by unfold l9;kernel_rfl
theorem aeF(a:ak):l9 "map.__iter__" ⟨[a],[]⟩:=by unfold l9;kernel_rfl
theorem mro:mroOf (.type "map")=pure [.type "map",.type "object"]:=by rw[mroOf_type];kernel_rfl
theorem sub:r7 (.type "map") (.type "map")=pure true:=by rw[isSubtype_type];kernel_rfl
theorem aeG:ea (.type "map") "__new__"=pure (some<|.builtin "map.__new__"):=by rw[typeLookup_type,builtinLookup_eq_fast];kernel_rfl
theorem called:TypeCalled "map" "map.__new__" "object.__init__":=
 ⟨by decide+kernel,by decide+kernel,⟨_,_,mro⟩,madeBy_type mro aeG (by decide+kernel),by decide+kernel,by rw[isSubtype_type];kernel_rfl,aeC⟩
theorem typeCall(a b:ak):checkTypeCall "map" ⟨[a,b],[]⟩=pure ():=by kernel_rfl
theorem aeH(a b:ak):mJ "map.__new__" ⟨[.type "map",a,b],[]⟩=pure ():=by kernel_rfl
end MP
section
variable{w:bz}{E Q:ak->ay->Prop}{s:ay}{l I TI it c N a:ax}{aiC x:ak}{i n:B}{items vs:bD ak}{h:bn}{os:bM}{nm:ao}{k0 k1 k2 k3 k5:bC ak}{dd:bC ax}{mN:ao->bC ak}{C:Cx}{st:St}{ρ:J ax}{v:V}{sh:J (B×J V)}{dr:cV}{f u:J (J B)}
section
variable{prog:du}{A:bS}
theorem aeI:wu "map" where
 HL:=by rw[typeLookup_type,builtinLookup_eq_fast];kernel_rfl
 HM:=by rw[typeLookup_type,builtinLookup_eq_fast];kernel_rfl
 n1:=by decide
 n2:=by decide
 self:=λprog w A s I Q E hI hT hQ=>by
  exact wpAny_pyIter_slot hT MP.P9<|wpAny_call_entry MP.P9 hT MP.aeE (wpAny_pure ⟨_,rfl,"map",_,hT,MP.slot_next.lookup,hQ⟩)<|MP.aeF _
noncomputable abbrev y8(h:bn)(l:ax):bn:=h.push {cls:=.type "list_iterator",data:=.fields #[.ref l,.int 0 0]}
noncomputable abbrev wv(h:bn)(l:ax):bn:=(y8 h l).push {cls:=.type "tuple",data:=.seq #[.ref h.objs.size]}
noncomputable abbrev ww(TI:ax)(aiC:ak):bc:={cls:=.type "map",data:=.fields #[.ref TI,aiC]}
noncomputable abbrev qt(h:bn)(l:ax)(aiC:ak):bn:=(wv h l).push<|ww (y8 h l).objs.size aiC
theorem aeJ(l:ax)(aiC:ak)(xs:bD ak):
  Meets (ed.«map.__new__» ⟨[.type "map",aiC,.ref l],[]⟩) (λH R s=>s.heap.IsList l xs/\R (.ok<|.ret<|.ref (wv s.heap l).objs.size) {s with heap:=qt s.heap l aiC}):=
 .of_wp λprog w A R s h=>by
  obtain⟨hp,g,d,tk,os⟩:=s;obtain⟨nc,h⟩:=h;have ct:=MP.sub;have hL1:bn.IsList (ay.heap ⟨hp,g,d,tk,os⟩) l xs:=nc
  wp_walk using wpAny_pyIter_list hL1
  exact⟨_,rfl,h⟩
theorem aeK{xs:bD ak}(hl:s.heap.IsList l xs)
  (h:Q (.ref<|s.heap.objs.size+2) {s with heap:=qt s.heap l aiC}):aF (aN prog w) A (call (.type "map") [aiC,.ref l]) Q E s:=by
 refine callType_new MP.called (by decide) (MP.typeCall _ _) (MP.aeH _ _) (λobj=>F.args_object_init_3 obj _ _) MP.aeD (aeJ l aiC xs) ⟨hl,?_⟩;have z1:(y8 s.heap l).objs.size=s.heap.objs.size+1:=jV ..;have z2:(wv s.heap l).objs.size=s.heap.objs.size+2:=by rw[jV,z1]
 have g3:(qt s.heap l aiC).get? (wv s.heap l).objs.size=some _:=ew _ rfl;exact⟨⟨_,g3,rfl⟩,by rw[z2];exact h⟩
theorem aeL(hI:s.heap.get? I=some (ww TI aiC))(pk:s.heap.get? TI=some {cls:=.type "tuple",data:=.seq #[.ref it]})
  (hit:s.heap.IsListIter it l i) (hl:s.heap.IsList l items) (hx:items[i]?=some x) (HN:I≠it)
  (hQ:∀h',h'.IsListIter it l (i+1)->iW it s.heap h'->aF (aN prog w) A (call aiC [x]) Q E {s with heap:=h'}):
  aF (aN prog w) A (ed.«map.__next__» ⟨[.ref I],[]⟩) (λfin s'=>∃v,fin= .done (.ret v)/\Q v s') E s:=by
 show aF _ _ (field (.ref I) 0 >>= _) _ _ _;refine wpAny_bind<|wpAny_field hI rfl (x:=.ref TI) rfl ?_;refine wpAny_bind<|wpAny_seqItems pk rfl ?_;simp only[JN,Ae,DZ];refine wpAny_bind<|wpAny_bind ?_;refine wpAny_bind<|wpAny_holding<|wpAny_nextOf_list_item hit hl hx λh' uB n6=>?_;refine wpAny_pure<|wpAny_pure ?_;refine wpAny_bind<|wpAny_field (n6.extBut _ _ HN hI) rfl (x:=aiC) rfl ?_;exact wpAny_bind<|wpAny_holding<|wpAny_mono (hQ h' uB n6) (λv s' hv=>(wpAny_bind<|wpAny_letGo<|wpAny_pure ⟨v,rfl,hv⟩)) λH H h=>h
theorem aeM{Q:Fin->ay->Prop}(hh:A.handled=aA)(hI:s.heap.get? I=some (ww TI aiC))(pk:s.heap.get? TI=some {cls:=.type "tuple",data:=.seq #[.ref it]})
  (hit:s.heap.IsListIter it l i) (hl:s.heap.IsList l items) (hx:items[i]?=aA)
  (hE:∀h' e,qX it s.heap h'->(∃o,h'.get? e=some o/\o.cls= .type "StopIteration")->E (.ref e) {s with heap:=h'}):
  aF (aN prog w) A (ed.«map.__next__» ⟨[.ref I],[]⟩) Q E s:=by
 show aF _ _ (field (.ref I) 0 >>= _) _ _ _;refine wpAny_bind<|wpAny_field hI rfl (x:=.ref TI) rfl ?_;refine wpAny_bind<|wpAny_seqItems pk rfl ?_;simp only[JN,Ae,DZ];exact wpAny_bind<|wpAny_bind<|wpAny_bind<|wpAny_holding<|wpAny_nextOf_list_end hh hit hl hx λh' e G h2=>hE h' e G h2
theorem aeN{Q:bC ak->ay->Prop}(hI:s.heap.get? I=some (ww TI aiC))(pk:s.heap.get? TI=some {cls:=.type "tuple",data:=.seq #[.ref it]})
  (hit:s.heap.IsListIter it l i) (hl:s.heap.IsList l items) (hx:items[i]?=some x) (HN:I≠it)
  (hQ:∀h',h'.IsListIter it l (i+1)->iW it s.heap h'->aF (aN prog w) A.in1 (call aiC [x]) (λv s'=>Q (some v) s') bq {s with heap:=h'}):
  aF (aN prog w) A (oG<|.ref I) Q E s:=by
 have hT:s.TypeIs (.ref I) "map":=⟨_,hI,rfl⟩
 exact wpAny_bind (wpAny_attempt (wpAny_callSpecial?_slot (name:=ft "__next__") hT MP.slot_next
  (wpAny_call_entry MP.slot_next hT MP.entry_next (aeL hI pk hit hl hx HN λh' a1 a2=>wpAny_mono (hQ h' a1 a2) (λv s' h=>wpAny_pure h) λH H h=>h.elim) (MP.args_next _))))
theorem aeO{Q:bC ak->ay->Prop}(hh:A.handled=aA)(hI:s.heap.get? I=some (ww TI aiC))(pk:s.heap.get? TI=some {cls:=.type "tuple",data:=.seq #[.ref it]})
  (hit:s.heap.IsListIter it l i) (hl:s.heap.IsList l items) (hx:items[i]?=aA) (hQ:∀h',qX it s.heap h'->Q aA {s with heap:=h'}):aF (aN prog w) A (oG<|.ref I) Q E s:=by
 have hT:s.TypeIs (.ref I) "map":=⟨_,hI,rfl⟩
 refine wpAny_bind (wpAny_attempt (wpAny_callSpecial?_slot (name:=ft "__next__") hT MP.slot_next
  (wpAny_call_entry MP.slot_next hT MP.entry_next (aeM hh hI pk hit hl hx λh' e hk he=>?_) (MP.args_next _))))
 refine aH he λo ho hc=>?_
 exact wpAny_bind<|wpAny_isInstance (T:="StopIteration") (b:=true) ⟨o,ho,hc⟩ isSubtype_stop<|wpAny_pure<|hQ _ hk
end
theorem aeP:tU "tuple.__len__"=some .slot:=by kernel_rfl
theorem aeQ:splitId "tuple.__len__"=some ("tuple","__len__"):=by kernel_rfl
section
variable{M:du}{A:bS}{g:bD de}{d:cV}{t:B}
variable{q:ao}
theorem aeR{Q:fF->ay->Prop}(hC:h.get? c=some (dW nm q c N k0 k1 k2 k3 k5))(ha:h.get? a=some ⟨.ref c,dd,.seq vs n,#[]⟩)(hq:Q () ⟨h,g,d,t,os⟩):
  aF (aN M w) A (mJ "tuple.__len__" ⟨[.ref a],[]⟩) Q E ⟨h,g,d,t,os⟩:=by
 have Hm:=F.args_tuple_len_1<|.ref a;unfold mJ;refine D aeP<|D aeQ ?_
 repeat (first|with_reducible refine wpAny_loadPart_at ha ?_|with_reducible refine sW hC ?_|wp_step)
 exact hq
theorem aeS(hC:h.get? c=some (dW nm q c N k0 k1 k2 k3 k5))(hn:h.Ns N mN)(hi:mN "__len__"=aA)
  (ha:h.get? a=some ⟨.ref c,dd,.seq vs n,#[]⟩) (hz:(vs.size:az)<2 ^ 63) (hQ:Q (.int vs.size<|t+1) ⟨h,g,d,t+1+1,os⟩):aF (aN M w) A (gR (.builtin "len") [.ref a]) Q E ⟨h,g,d,t,os⟩:=by
 refine Calls.call_function_entry kind_len plain_len entry_len (args_len1 _) ?_
 unfold ed.«len» callSpecial?;refine wpAny_bind (m:=oneArg "len" _)<|wpAny_pure ?_;have f1:=EA.lookup;have f2:=EA.bind<|.ref a;refine wpAny_bind ?_
 iterate 12 (try (first|with_reducible refine qm hC hn f1 ?_|with_reducible refine wpAny_loadPart_at ha ?_|wp_step))
 refine D hi<|wpAny_holding<|wpAny_bind<|wpAny_of_eq f2<|wpAny_bind<|wpAny_call<|codeAny_call_builtin EA.plain F.entry_tuple_len<|aeR hC ha ?_;show aF _ _ (do retInt (←ed.Tuple.tupleItemsOf<|.ref a).size) _ _ _;refine wpAny_bind<|wpAny_bind<|wpAny_seqItems ha rfl<|wpAny_pure<|wpAny_bind<|wpAny_mkInt<|wpAny_pure<|wpAny_pure ?_;dsimp only;refine wpAny_bind<|wpAny_holding<|wpAny_pure<|wpAny_bind<|wpAny_letGo ?_;show aF _ _ (if((vs.size:B):az)<0 then _ else _) _ _ _;refine D (aE<|by lia) ?_
 show aF _ _ (if((vs.size:B):az)≥2 ^ 63 then _ else _) _ _ _;exact D (aE<|by lia)<|wpAny_bind<|wpAny_mkInt<|wpAny_pure ⟨_,rfl,hQ⟩
end
theorem aQ.aeT{q:ao}{l:J V}(hC:C.top.get? c=some (dW nm q c N k0 k1 k2 k3 k5))(hn:C.top.Ns N mN)(hi:mN "__len__"=aA)(hz:U l<2 ^ 63):
  aQ C n (.builtin "len") [.tup (.ref c) l] st (.int<|U l) st:=.mk λA s ρ xs Q hA R aV h=>by
 refine cE aV λx0 r1 bE e0 i2=>?_
 clear aV;subst bE;obtain rfl:r1=[]:=i2;refine oK e0 λtc a vs m av kW hl=>?_
 clear e0;subst av;obtain⟨dd,cO⟩:=kW;have hs:vs.size=U l:=by rw[←eO,dK hl]
 obtain⟨hh,g,d,t,os⟩:=s;refine aeS (R.led.top _ _ hC) (hn.keeps R.led.top) hi cO (by refine D hs ?_;lia) ?_
 exact h ρ _ _ (gj R _) ⟨_,by exact D hs rfl⟩
theorem V.Is.wx{aB:J ax}(hv:v.bG (λH=>false)=true)(e:v.Is ρ h x):v.Is aB h x:=by
 have z:=e.cf (aB:=aB) (aiC:=id) (g:=λH=>false) (λH H h=>by exact aZ h dy) hv;rwa [V.jC (aiC:=id) (λH H=>rfl) hv] at z
theorem V.IsL.wx{aB:J ax}{v:J V}{x:J ak}(hv:V.ff (λH=>false) v=true)(e:V.IsL ρ h v x):V.IsL aB h v x:=by
 have z:=e.cf (aB:=aB) (aiC:=id) (g:=λH=>false) (λH H h=>by exact aZ h dy) hv;rwa [V.uu (aiC:=id) (λH H=>rfl) hv] at z
structure y9(C:Cx)(ρ:J ax)(s:ay)(aj:St)(aB:J ax)(s':ay):Prop where
 pre:ρ<+:aB
 aX:bF s.heap s'.heap
 keep:∀b o,s.heap.get? b=some o->b∉ρ->b≠C.env.locals->s'.heap.get? b=some o
 fresh:∀a∈aB,a∉ρ->s.heap.get? a=none
 gens:∀(i:B) (x:de),s.gens[i]?=some x->s'.gens[i]?=some x
 rep:Rep C aB aj s'
noncomputable def gK(hp:J O)(sh:J<|B×J V):Prop:=∀p∈sh,hp[p.1]?=some (.list p.2)/\V.ff (λH=>false) p.2=true
noncomputable def dO(ρ:J ax)(sh:J<|B×J V):J (ax×J V):=sh.map λp=>(ρ.getD p.1 0,p.2)
noncomputable def aeU(C:Cx)(n:B)(e:bv)(st:St)(ty:dm)(sh:J<|B×J V)(items:J It)(am:St):Prop:=
 ∀(A:bS) (s:ay) (ρ:J ax) (Q:ak->ay->Prop),cn n A->Rep C ρ st s->
  (∀aC I own s1,y9 C ρ s am aC s1->s1.TypeIs (.ref I) ty->gq C.toWd n I (dO aC sh) (λi=>s.gens.size<=i) items own s1->(∀b,own b->b∉aC/\b≠C.env.locals/\s.heap.get? b=aA/\∃o,s1.heap.get? b=some o)->Q (.ref I) s1)->aF (aN C.prog C.w) A (eval e C.env) Q bq s
structure po(C:Cx)(n:B)(e:bv)(st:St)(ty:dm)(sh:J<|B×J V)(items:J It)(am:St):Prop where
 run:aeU C n e st ty sh items am
 sh:gK am.hp sh
section
variable{m:B}{am:St}
theorem gK.at{ρ:J ax}{s:ay}{sh:J (B×J V)}(h:gK st.hp sh)(R:Rep C ρ st s):∀p∈dO ρ sh,p.1∈ρ/\(O.list p.2).Is C.w [] s.heap p.1/\∃j:B,ρ[j]?=some p.1/\st.hp[j]?=some (.list p.2):=by
 intro p hp;refine aH (fb.mp hp) λcq hj bE=>?_
 subst bE;obtain⟨j,l⟩:=cq;obtain⟨G,h2⟩:=h _ hj;refine cP (R.led.at G) λa ha hi hm=>?_
 have e:ρ.getD j 0=a:=by simp only[c6,ha];rfl
 dsimp only at G h2 ⊢;exact D e<|dv hi λvs k z1 z2=>(⟨hm,⟨vs,k,z1,z2.wx h2⟩,j,ha,G⟩)
theorem y9.listed{aC:J ax}{s1 s':ay}{own:ax->Prop}{items:J V}{c:B}(N:y9 C ρ s am aC s1)(hs:gK am.hp sh)(dj:∀b,own b->b∉aC/\b≠C.env.locals/\s.heap.get? b=aA/\∃o,s1.heap.get? b=some o)
  (m:Mv C.toWd (dO aC sh) (λi=>s.gens.size<=i) own s1 s') (e:s'.heap.get? s1.heap.objs.size=some ⟨.type "list",aA,.seq vs c,#[]⟩) (i:V.IsL [] s'.heap items vs.toList) (fin:∀(i:B) (x:de),s.gens.size<=i->s'.gens[i]?=some x->x= .finished):
  bk C ρ s ⟨am.loc,am.hp++[.list items]⟩ (aC++[s1.heap.objs.size]) s':=by
 have R:=N.rep;have sA:=hs.at R;have nf:=R.led.Bi;have hp:aC<+:aC++[s1.heap.objs.size]:=gN ..;have lt:C.env.locals<s1.heap.objs.size:=by obtain⟨m,hn,_⟩:=R.loc;exact hn.lt
 have old:∀b o,s.heap.get? b=some o->b∉ρ->b≠C.env.locals->s'.heap.get? b=some o:=λb o e G h2=>by
  refine m.keep b o (N.keep b o e G h2) (λh=>?_) λp hp q=>?_
  ·simp only[(dj b h).2.2.1] at e;exact nomatch e
  ·have:=N.fresh b (q▸(sA p hp).1) G;simp only[this] at e;exact nomatch e
 refine⟨N.pre.trans hp,N.aX.trans m.aX,old,λa h q=>?_,⟨λi x e=>?_,fin⟩,?_,?_⟩
 ·rcases bK.mp h with h|h
  ·exact N.fresh a h q
  ·rw[bx] at h;subst h;cases e':s.heap.get? s1.heap.objs.size with
   |none=>rfl
   |some o=>exact aZ (dH<|N.keep _ o e' q<|kl lt)<|jg _
 ·have hi:i<s.gens.size:=(jW.mp e).1;exact m.gens i x (vI.mpr hi)<|N.gens i x e
 ·refine aH R.loc λmm bT hm=>⟨mm,mj bT λo e=>m.keep _ o e (λh=>(dj _ h).2.1 rfl) λp hp q=>R.led.fC<|q▸(sA p hp).1,λx v e=>?_⟩
  exact aH (hm x v e) λy hy q=>⟨y,hy,q.mono hp m.aX⟩
 ·refine⟨by simp only[aK,cK,iR,R.led.len],λk o a e1 q=>?_,?_,?_,λa ha=>?_,R.led.gT,m.top,m.os,m.drawn⟩
  ·by_cases hk:k<U am.hp
   ·simp only[cA hk] at e1
    (simp only[cA<|by refine D R.led.len ?_;exact hk] at q)
    have z:=R.led.objs k o a e1 q
    by_cases hs:∃p∈dO aC sh,p.1=a
    ·refine aH hs λp aY av=>?_
     clear hs;subst av;refine E1 (sA p aY) λH H j s9 kb=>?_
     rw[pV R.led.nodup s9 q,e1] at kb
     (have:=cj kb;clear kb;subst this)
     exact dv (m.sh p aY) λvs k z1 z2=>(⟨vs,k,z1,z2.mono xh<|bF.refl _⟩)
    ·refine aH z.there λx hx H=>z.mono hp m.aX<|(m.keep a x hx (λh=>(dj a h).1<|dT q) λp aY q=>hs ⟨p,aY,q⟩).trans hx.symm
   ·have hl:k<U (am.hp++[O.list items]):=(cJ.mp e1).1;simp only[aK,cK,iR] at hl;have Cp:k=U am.hp:=by exact FA hl hk
    subst Cp;simp only[dc<|aG _,fG] at e1
    (have:=cj e1;clear e1;subst this)
    simp only[←R.led.len,dc<|aG _,fG] at q
    (have:=cj q;clear q;subst this)
    exact⟨vs,c,e,i.mono xh<|bF.refl _⟩
  ·refine mG.mpr ⟨R.led.nodup,l5.mpr ⟨g8,lx⟩,λa ha b hb e=>?_⟩;simp only[bx] at hb;subst hb e;exact nf ha
  ·intro h;rcases bK.mp h with h|h
   ·exact R.led.fC h
   ·rw[bx] at h;exact aZ h<|iT lt
  ·rcases bK.mp ha with h|h
   ·exact R.led.low a h
   ·rw[bx] at h;subst h;exact R.led.size
theorem EV.listOf{p pos:cN}{e:bv}{ty:dm}{items:J V}(hf:EV C (n+2) (.Name "list" p) st (.val<|.type "list") st)(ku:wu ty)(G:po C n e st ty sh (items.map .val) am)(hz:U items<=km)(he:aO (gV e=true) a9):
  EV C (n+2) (.Call (.Name "list" p) [e] [] pos) st (.ref<|U am.hp) ⟨am.loc,am.hp++[.list items]⟩:=.mk λA s ρ Q hA R h=>by
 refine wpAny_Call_Name_kw<|hf A s ρ _ hA R λfO x s0 N0 i0=>?_;subst i0;have key:aF (aN C.prog C.w) A (spliced<|lE pos<|lC [e] C.env) (λvs s'=>aF (aN C.prog C.w) A (gR (.type "list") vs) Q bq s') bq s0:=by
  refine D (kQ he)<|AI ?_;show aF _ _ (if false=true then _ else eval e C.env) _ _ _;refine D (aE dy)<|G.run A s0 fO _ (hA.le<|dZ _ _) N0.rep λaC I own s1 N1 hT hF dj=>(EU ?_);have R1:=N1.rep;refine aeB ku hA hF hT (λb hb=>let ⟨_,e⟩:=(dj b hb).2.2.2;dH e) R1.toF.size (λp hp=>(G.sh.at R1 p hp).2.1) R1.led.top R1.led.os R1.led.drawn hz λs' vs c' m e i fin=>?_
  exact h _ _ _ (N0.trans<|N1.listed G.sh dj m e i fin)<|mW R1.led _
 exact callWith_type1 key (kQ he) rfl
end
section
variable{T:Wd}{g:B->Prop}
theorem Qa{sh:J (ax×J V)}{own:ax->Prop}{s':ay}(r:Rel T sh g own s s')(fin:∀(i:B) (x:de),g i->s.gens[i]?=some x->x= .finished):∀(i:B) (x:de),g i->s'.gens[i]?=some x->x= .finished:=λi x hi e=>by
 by_cases hs:i<s.gens.size
 ·have e1:s.gens[i]?=some s.gens[i]:=ia hs;simp only[r.gens i _ hi e1] at e;(have:=cj e;clear e;subst this);exact fin i _ hi e1
 ·exact r.news i x hi (by exact iS ‹_›) e
theorem aeV{aiC:ax}{c:ak}{xs:J V}{r:V->V}{m:ax}(hf:∀x∈xs,ux T n (.ref aiC) [] [.val c,x] []<|r x)(hI0:T.top.objs.size<=I)(yY:T.top.objs.size<=it)(HO:I≠it)(hl:l≠it)(HP:m≠it):
  ∀(ys:J V) (k:B) (s:ay),xs.drop k=ys->s.heap.get? I=some (ww TI<|.ref m)->s.heap.get? TI=some {cls:=.type "tuple",data:=.seq #[.ref it]}->s.heap.IsListIter it l k->s.heap.get? m=some {cls:=.type "method",data:=.fields #[.ref aiC,c]}->
  (∀(i:B) (x:de),g i->s.gens[i]?=some x->x= .finished)->gq T (n+1) I [(l,xs)] g ((ys.map r).map .val) (λb=>b=it\/b=I\/b=m) s:=by
 intro ys
 induction ys with
 |nil=>
  intro k s hk hI pk hit hm fin s' rel A Q E hA hQ;have i6:=rel.keep _ _ (.inr<|.inl rfl) hI;have Cq:=rel.aX _ _ pk rfl;refine cP hit λoi ho hc hd=>?_
  have gH:=rel.keep _ _ (.inl rfl) ho;refine dv (rel.sh _<|bx.mpr rfl) λvs n' el cE=>?_
  have hlen:vs.size=U xs:=by simp only[←eO,dK cE]
  have hkx:U xs<=k:=by
   have:=bB U hk;rw[kO] at this;simp at this;exact aai this
  refine aeO hA.1 i6 Cq ⟨oi,gH,hc,hd⟩ ⟨_,el,rfl,n',rfl⟩ (bD.getElem?_eq_none<|aah hlen hkx) λh' ext=>hQ _ ?_ λi x hi e=>Qa rel fin i x hi e
  have ne:∀{b o},s'.heap.get? b=some o->me o=true->b≠it:=λe t z=>by
   subst z;simp only[gH] at e;(cases cj e;clear e);exact Lu<|(ra hc).symm.trans t
  refine⟨λb o e hb H=>ext b o (λz=>hb<|.inl z) e,λb o e t=>ext b o (ne e t) e,?_,λb o e=>ext b o (λz=>?_)<|rel.top b o e,λi x H e=>e,aG _,rel.os,rel.drawn⟩
  ·intro p hp;rw[bx] at hp;subst hp;exact⟨vs,n',ext _ _ hl el,cE.mono (bP _) λb o e t=>ext b o (ne e t) e⟩
  ·subst z;exact aZ (dH e)<|iU.mpr yY
 |cons y ys ih=>
  intro k s hk hI pk hit hm fin s' rel A Q E hA hQ;have i6:=rel.keep _ _ (.inr<|.inl rfl) hI;have za:=rel.keep _ _ (.inr<|.inr rfl) hm;have Cq:=rel.aX _ _ pk rfl;refine cP hit λoi ho hc hd=>?_
  have gH:=rel.keep _ _ (.inl rfl) ho;refine dv (rel.sh _<|bx.mpr rfl) λvs n' el cE=>?_
  have hy:xs[k]?=some y:=by simp only[←JV,hk];rfl
  refine aH (cE.get hy) λx hx ix=>?_
  simp only[jX] at hx;refine aeN i6 Cq ⟨oi,gH,hc,hd⟩ ⟨_,el,rfl,n',rfl⟩ hx HO λh' uB sb=>?_
  have ht:me oi=false:=ra hc;have st:=jY sb gH ht;have isz:it<s'.heap.objs.size:=dH gH;have ka:s'.heap.objs.size=h'.objs.size:=sb.1.symm
  have aeW:∀b o,T.top.get? b=some o->h'.get? b=some o:=λb o e=>(sb.2 b (λz=>by
   subst z
   exact aZ (dH e) (iU.mpr yY))).trans (rel.top b o e)
  refine wpAny_call<|ks_codeAny_call_bound ((sb.2 m HP).trans za)<|hf y (dT hy) A.in1 {s' with heap:=h'} [] [c,x] (λv s2=>Q (some v) s2) hA.in1 ⟨rfl,λk o a e=>(nomatch e),lx,λa h=>(nomatch h),cY yY<|lz<|ka▸isz,aeW,rel.os,rel.drawn⟩ ⟨_,_,rfl,rfl,_,_,rfl,ix.mono (bP _) st,rfl⟩ λaB v s2 N hv=>?_;have e0:aB=[]:=DL.mp N.led.len;subst e0;have kp:∀b o,h'.get? b=some o->s2.heap.get? b=some o:=λb o e=>N.keep b o e g8;refine cP uB λQb n5 uD hd2=>?_
  have mv:Mv T [(l,xs)] g (λb=>b=it\/b=I\/b=m) s' s2:=by
   refine⟨λb o e hb H=>kp b o<|(sb.2 b λz=>hb<|.inl z).trans e,st.trans N.aX,?_,N.led.top,λi x H e=>N.gens.1 i x e,N.gens.size,N.led.os,N.led.drawn⟩;intro p hp;rw[bx] at hp;subst hp;exact⟨vs,n',kp _ _ ((sb.2 l hl).trans el),cE.mono (bP _) (st.trans N.aX)⟩
  refine hQ v s2 _ mv (λb hb=>⟨.inl hb,?_⟩) hv ?_
  ·exact hb.elim (λe=>⟨Qb,(bB s2.heap.get? e).trans<|kp _ _ n5⟩) λhb=>hb.elim (λe=>⟨_,(bB s2.heap.get? e).trans<|kp _ _<|(sb.2 _ HO).trans i6⟩) λe=>⟨_,(bB s2.heap.get? e).trans<|kp _ _<|(sb.2 _ HP).trans za⟩
  refine ih (k+1) s2 ?_ (kp _ _<|(sb.2 I HO).trans i6) (N.aX _ _ (st _ _ Cq rfl) rfl) ⟨Qb,kp _ _ n5,uD,hd2⟩ (kp _ _<|(sb.2 m HP).trans za) λi x hi e=>?_
  ·simp only[←xi,hk];rfl
  ·by_cases hs:i<s'.gens.size
   ·have e1:s'.gens[i]?=some s'.gens[i]:=ia hs;simp only[N.gens.1 i _ e1] at e;(have:=cj e;clear e;subst this);exact Qa rel fin i _ hi e1
   ·exact N.gens.2 i x (by show s'.gens.size<=i;exact iS ‹_›) e
end
section
variable{m:B}{am:St}
theorem po.aeX{mp ap pos:cN}{o e2:bv}{qn:ao}{mS:ao->bC ak}{sA fA:ax}{z:ak}{k:B}{xs:J V}{r:V->V}
  (hf:EV C n (.Name "map" mp) st (.val<|.type "map") st) (ho:EV C n o st (.val<|.ref c) st) (hC:C.top.get? c=some (dW nm qn c N k0 k1 k2 k3 k5)) (hn:C.top.Ns N mN)
  (hs:mN "_make"=some (.ref sA)) (lT:C.top.get? sA=some ⟨.type "classmethod",dd,.fields #[.ref fA,z],#[]⟩) (gX:C.top.Ns r9 mS) (ph:mS "thirdparty.any"=aA)
  (h2:EV C n e2 st (.ref k) st) (hk:st.hp[k]?=some (.list xs)) (j9:V.ff (λH=>false) xs=true) (hF:∀x∈xs,ux C.toWd n (.ref fA) [] [.val<|.ref c,x] []<|r x) (iK:aO (gV e2=true) a9)
  (he:aO (eval (.Attribute o "_make" ap) C.env=(do
   let w ←eval o C.env
   nN ap.atName
   let r ←holding [w] (l8 w "_make" true)
   vJ o w r
   pure r)) aW._auto_1):po C (n+1) (.Call (.Name "map" mp) [.Attribute o "_make" ap,e2] [] pos) st "map" [(k,xs)] ((xs.map r).map .val) st where
 sh:=λp hp=>by
  rw[bx] at hp;subst hp;exact⟨hk,j9⟩
 run:=λA s ρ Q hA R h=>by
  have HQ:cn n A:=hA.le<|eM _;refine wpAny_Call_Name_kw<|hf A s ρ _ HQ R λfO x s0 N0 i0=>?_;subst i0;have key:aF (aN C.prog C.w) A (spliced<|lE pos<|lC [.Attribute o "_make" ap,e2] C.env) (λvs s'=>aF (aN C.prog C.w) A (gR (.type "map") vs) Q bq s') bq s0:=by
   refine D (kQ rfl)<|D (kQ iK)<|AI ?_;show aF _ _ (if false=true then _ else eval _ C.env) _ _ _;refine D (aE dy)<|AG (ho A s0 fO _ HQ N0.rep λaC y s1 N1 i1=>?_) he;obtain rfl:y= .ref c:=i1;obtain⟨hh,g,d,t,Cj⟩:=s1;refine aez (N1.rep.led.top _ _ hC) (hn.keeps N1.rep.led.top) hs (N1.rep.led.top _ _ lT) (gX.keeps N1.rep.led.top) ph ?_
   have N2:=(N0.trans N1).trans<|bk.push N1.rep (wt fA c)<|t+1;have hm:(hh.push<|wt fA c).get? hh.objs.size=some (wt fA c):=ew _ rfl;refine AI<|h2 A _ aC _ HQ N2.rep λbh x2 s2 N3 i2=>(EU<|aH i2 λl hl av=>?_);clear i2;subst av;have N:=N2.trans N3;have R2:=N.rep;have wy:C.env.locals<hh.objs.size:=by obtain⟨mm,bT,_⟩:=N1.rep.loc;exact bT.lt
   have gJ:hh.objs.size∉aC:=N1.rep.led.Bi;have lW:=N3.keep _ _ hm gJ<|kl wy;have hm3:hh.objs.size∉bh:=λq=>by
    have:=N3.fresh _ q gJ;simp only[show(hh.push<|wt fA c).get? hh.objs.size=aA from this] at hm;exact nomatch hm
   refine cP (R2.led.at hk) λl' kt il ta=>?_
   simp only[hl] at kt;(have:=cj kt;clear kt;subst this);refine dv il λvs q el cE=>aeK ⟨_,el,rfl,q,rfl⟩ ?_
   have Qc:∀a,a∉bh->a≠C.env.locals->s2.heap.objs.size<=a->s.heap.get? a=aA:=λa G h2 h3=>by
    cases e':s.heap.get? a with
    |none=>rfl
    |some o'=>exact aZ (dH<|N.keep _ _ e' (λq=>G<|N.pre.subset q) h2)<|iU.mpr h3
   have uX:∀a,s2.heap.objs.size<=a->a∉bh:=λa h q=>by
    exact mO (R2.toF.mem q) λH H ob H H H h3 H=>(aZ (dH h3)<|iU.mpr h)
   have Qd:C.top.objs.size<=s2.heap.objs.size:=R2.toF.size;have HR:C.env.locals<s2.heap.objs.size:=by obtain⟨mm,bT,_⟩:=R2.loc;exact bT.lt
   have bJ:l<s2.heap.objs.size:=dH el;have ltm:hh.objs.size<s2.heap.objs.size:=dH lW;have z1:(y8 s2.heap l).objs.size=s2.heap.objs.size+1:=jV ..;have z2:(wv s2.heap l).objs.size=s2.heap.objs.size+2:=by simp only[jV,z1]
   have z3:(qt s2.heap l<|.ref hh.objs.size).objs.size=s2.heap.objs.size+3:=by simp only[jV,z2]
   have kp:∀b o,s2.heap.get? b=some o->(qt s2.heap l<|.ref hh.objs.size).get? b=some o:=λb o e=>dE _<|dE _<|dE _ e;have g3:(qt s2.heap l<|.ref hh.objs.size).get? (wv s2.heap l).objs.size=some _:=ew _ rfl;have g2:(qt s2.heap l<|.ref hh.objs.size).get? (y8 s2.heap l).objs.size=some _:=dE _<|ew _ rfl;have g1:(qt s2.heap l<|.ref hh.objs.size).get? s2.heap.objs.size=some _:=dE _<|dE _<|ew _ rfl;simp only[z2] at g3;have NG:=N.trans<|bk.grow (s':={s2 with heap:=qt s2.heap l (.ref hh.objs.size)}) R2 kp (eN.refl _) rfl rfl;have e0:bh.getD k 0=l:=by simp only[c6,hl];rfl
   refine h bh (s2.heap.objs.size+2) (λb=>b=s2.heap.objs.size\/b=s2.heap.objs.size+2\/b=hh.objs.size) {s2 with heap:=qt s2.heap l (.ref hh.objs.size)} ⟨NG.pre,NG.aX,NG.keep,NG.fresh,NG.gens.1,NG.rep⟩ ⟨_,g3,rfl⟩ ?_ ?_
   ·show gq _ _ _ [(bh.getD k 0,xs)] _ _ _ _;simp only[e0];exact aeV hF (cY Qd<|dZ _ 2) Qd (kl<|B.lt_add_of_pos_right<|by decide) (iT bJ) (iT ltm) xs 0 _ rfl g3 g2 ⟨_,g1,rfl,rfl⟩ (kp _ _ lW) λi x hi e=>NG.gens.2 i x hi e
   ·have l2:C.env.locals<s2.heap.objs.size+2:=oC HR<|dZ _ 2;rintro b (rfl|rfl|rfl)
    ·exact⟨uX _<|aG _,kl HR,Qc _ (uX _<|aG _) (kl HR)<|aG _,_,g1⟩
    ·exact⟨uX _<|dZ _ 2,kl l2,Qc _ (uX _<|dZ _ 2) (kl l2)<|dZ _ 2,_,g3⟩
    ·refine⟨hm3,kl wy,?_,_,kp _ _ lW⟩;cases e':s.heap.get? hh.objs.size with
     |none=>rfl
     |some o'=>exact aZ (dH<|(N0.trans N1).keep _ _ e' (λq=>gJ<|(N0.trans N1).pre.subset q)<|kl wy)<|jg _
  exact callWith_type1 key (kQ rfl) (by refine D (kQ iK) ?_;rfl)
end
theorem aeY(P:aP):nM P "__len__"=aA:=by kernel_rfl
theorem aeZ(P:aP):nM P "_make"=some (.ref 91):=by kernel_rfl
theorem ae0(P:aP):(bZ P).get? 91=some ⟨.type "classmethod",some 90,.fields #[.ref 89,.bool false],#[]⟩:=by kernel_rfl
noncomputable def tV(s:B×B×B):V:=.tup (.type "tuple") [.int s.1,.int s.2.1,.int s.2.2]
theorem ae1{s:B×B×B}:ux (TW w os dr) (n+1) (.ref 89) [] [.val<|.ref 135,tV s] [] (mV s):=by
 have aiy:=d89 w.params;refine ux.v4 (T:=TW w os dr) aiy.get aiy.fd rfl aiy.code (noLimit _) (names:=["cls","iterable"]) (bs:=[.val<|.ref 135,tV s]) (λA E ρ st xs Q R aV hq=>?_) aiy.nd aiy.cell aiy.loc (λL=>?_) rfl rfl rfl
 ·have hl:=dK aV;revert aV;revert xs;exact sH λx y=>λaV=>wpAny_pure<|hq [x,y] st.heap st.toks (λH H e=>e) (aG _) aV
 refine eE dF<|cZ (EV.uA (cB (cQ _) (OA _) (dN _)<|OE _) (an ah<|an ah aM)<|aQ.uA (pi _) (qp _)<|Hn _) ?_;refine lM (bV (fw (cB (cQ _) (qb _) (dN _)<|qd _) (an ah aM)<|aQ.aeT (pi _) (qp _) (aeY _)<|by show 3<_;decide) bA a8.ne_int) ?_
 exact j6 ah ⟨_,rfl,(o8 rfl rfl)⟩
theorem ae2{o:bc}{L:ax}{l:J (ao×V)}(hz:U u<200):
  aQ (fr w os dr o a L) (n+5) (.ref 242) [.none,.ref 0,.ref 1] ⟨l,[.list<|aw f,.list<|aw u]⟩ (.ref 3) ⟨l,lS f u⟩:=by
 have c:=ads (w:=w) (os:=os) (dr:=dr) (n:=n) (f:=f) (u:=u) hz;exact aQ.new (GS w.params) (OX w.params) (ach _) (Ot _).get rfl<|cC.same c (by refine D (ql _ _) ?_;exact su) (yR rfl) rfl
theorem Cr{aiz T:J O}{p:B}{o:O}(h:U aiz=p):(aiz++T).set p o=aiz++T.set 0 o:=set_tail (t:=0) h
theorem cW.norm{e:bv}{ba:St}{l':J (ao×V)}{aY:J O}(hs:SubL l' st.loc)(hh:st.hp=aY)(h:cW C n e v ⟨l',aY⟩ ba):cW C n e v st ba:=.mk λA s ρ x Q hA R hv k=>by
 subst hh;exact h A s ρ x Q hA ⟨by obtain⟨m,bT,hm⟩:=R.loc;exact⟨m,bT,λx v e=>hm x v<|hs x v e⟩,R.led⟩ hv k
theorem ae3(P:aP):nM P "__lt__"=aA:=by kernel_rfl
theorem HS(P:aP):nM P "__iter__"=aA:=by kernel_rfl
noncomputable def qV(q:B×B×B×B):V:=.tup (.type "tuple") [.int q.1,.int q.2.1,.int q.2.2.1,.int q.2.2.2]
noncomputable def pt(qs:J<|B×B×B×B):B:=(qs.map λq=>2*(q.2.1-q.1)+1).sum
theorem zb(a b:J<|B×B×B×B):pt (a++b)=pt a+pt b:=by
 unfold pt;simp only[eL,J.sum_append]
theorem HT:∀(a:J<|B×B×B×B),U a<=pt a
 | []=>bH _
 |q::a=>by
  have:=HT a;unfold pt at this ⊢;simp only[eu,JZ,cK];exact XU this
noncomputable def Qe(p f u aq aS au aJ:B):J (ao×V):=("bhi",.int aJ)::("blo",.int au)::("ahi",.int aS)::("alo",.int aq)::[("matching_blocks",.ref<|p+1),("queue",.ref p),("la",.int f),("lb",.int u),("self",.ref 3)]
noncomputable def Cs(p f u aq aS au aJ i j k:B):J (ao×V):=("k",.int k)::("j",.int j)::("i",.int i)::Qe p f u aq aS au aJ
noncomputable def qu(p f u:B)(s:B×B×B):J (ao×V):=[("k1",.int s.2.2),("j1",.int s.2.1),("i1",.int s.1),("non_adjacent",.ref<|p+2),("matching_blocks",.ref<|p+1),("la",.int f),("lb",.int u),("self",.ref 3)]
noncomputable def rD(f u:J<|J B)(al:J<|ao×V)(tl:J O):J O:=bu f u (putL al "matching_blocks"<|.ref<|10+U (keysOf u)+U tl)<|tl++[.list [],.list<|(dU f u).map mV,.list<|(gn f u).map tV,.list<|(gn f u).map mV]
theorem ae4{g:B->bb}{l:J (ao×V)}{x:ao}(hv:v.bG g=true)(hl:(O.attrs l).bG g=true):(O.attrs<|putL l x v).bG g=true:=by
 have hl:(l.all λp=>p.2.bG g)=true:=hl;have h2:((l.filter λp=> !(p.1==x)).all λp=>p.2.bG g)=true:=by
  simp only[fX] at hl ⊢;exact λp hp=>hl p (rW.mp hp).1
 show(v.bG g&&_)=true;simp only[hv,xz];exact h2
theorem HU{al:J (ao×V)}{tl more:J O}{x:ao}(h:gC<|bu f u al tl)(hv:v.bG (λk=>decide (k<7+U (keysOf u)+U (tl++more)))=true)(hm:∀o∈more,o.bG (λk=>decide (k<7+U (keysOf u)+U (tl++more)))=true):gC (bu f u (putL al x v)<|tl++more):=by
 have mono:∀{o:O},o.bG (λk=>decide (k<U (bu f u al tl)))=true->o.bG (λk=>decide (k<7+U (keysOf u)+U (tl++more)))=true:=λh=>O.m6 (λk hk=>by
  rw[pj] at hk;refine D aK ?_;simp only[ip] at hk ⊢;exact XT hk) h
 have ha:=mono<|h (.attrs al)<|dT (i:=2) rfl;have key:∀o∈bu f u (putL al x v) (tl++more),o.bG (λk=>decide (k<7+U (keysOf u)+U (tl++more)))=true:=
  mc (mc (gh (mono<|h _<|dT (i:=0) rfl)<|gh (mono<|h _<|dT (i:=1) rfl)<|gh (ae4 hv ha)<|gh (mono<|h _<|dT (i:=3) rfl)<|fM<|mono<|h _<|dT (i:=4) rfl) λo hi=>mono<|h o<|JE _<|zY _ hi) (mc (gh rfl<|fM rfl)<|mc (λo ht=>mono<|h o<|zY _<|zY _ ht) hm)
 intro o ho;exact D (pj ..)<|key o ho
theorem Qf{al:J (ao×V)}{tl:J O}(h:gC<|bu f u al tl):gC (rD f u al tl):=by
 refine HU h (dG ?_) λo ho=>?_
 ·simp only[aK];exact XR
 ·simp only[cu,g8,rY] at ho;rcases ho with rfl|rfl|rfl|rfl
  ·rfl
  ·exact oY λH=>rfl
  ·exact oY λH=>rfl
  ·exact oY λH=>rfl
noncomputable def Qg:V->V
 | .tup _ l=>.tup (.ref 135) l
 |v=>v
noncomputable def wz(p f u:B):J (ao×V):=[("matching_blocks",.ref<|p+1),("queue",.ref p),("la",.int f),("lb",.int u),("self",.ref 3)]
noncomputable def kd(aq i au j:B):J (B×B×B×B):=if aq<i/\au<j then[(aq,i,au,j)] else[]
theorem Qh(a b:J<|J B)(aq i au j:B):(kd aq i au j).flatMap (ng a b)=ng a b (aq,i,au,j):=by
 unfold kd;split
 ·exact cM _
 ·exact D (acY<|by lia) rfl
theorem Qi(aq i au j:B):pt (kd aq i au j)<=2*(i-aq)+1:=by
 unfold kd;split
 ·exact aG _
 ·exact bH _
end
namespace zc
noncomputable def ES(w:bz)(os:bM)(dr:cV)(n:B)(f:J<|J B)(u:J<|J B)(al:J<|ao×V)(tl:J O)(_ _ _ _ _:fF):Prop:=(sY (U<|keysOf u) al)->(mI ("matching_blocks":ao) al=some V.none)->(gC<|bu f u al tl)->(U f<64)->(U u<200)->cC (TW w os dr) (n+5) (.ref 203) (bu f u al tl) [.ref 3] (rD f u al tl) (.ref<|10+U (keysOf u)+U tl)
@[irreducible] noncomputable def EX:=nU oO default {} 0 [] [] [] [] () () () () () ES
noncomputable def w:=EX.1
noncomputable def os:=EX.2.1
noncomputable def dr:=EX.2.2.1
noncomputable def n:=EX.2.2.2.1
noncomputable def f:=EX.2.2.2.2.1
noncomputable def u:=EX.2.2.2.2.2.1
noncomputable def al:=EX.2.2.2.2.2.2.1
noncomputable def tl:=EX.2.2.2.2.2.2.2.1
theorem Ee:ES w os dr n f u al tl () () () () ():=λnl HV j9 fV hb=>by
 have ha:U f<200:=by exact M2 fV
 refine m7 (Gw _) rfl (λxs hx=>?_) λL=>?_
 ·revert xs;exact sG λH=>rfl
 have cl:=qh w.params;have gl:=qb w.params;have bl:=qd w.params;have rE:U (aw f)=U f:=bg ..;have hlb:U (aw u)=U u:=bg ..;have hp:=pj f u al tl;have uY:rD f u al tl=rD f u al tl:=rfl
 conv at uY=>rhs;unfold rD
 have Qj:10+U (keysOf u)+U tl=U (bu f u al tl)+3:=by exact D hp XQ
 rw[Qj] at uY ⊢;have Qk:=Qf j9;generalize rD f u al tl=hM at uY Qk ⊢;generalize hP:U (bu f u al tl)=p at*;refine eE dF (lM (bV (EV.attr (k:=3) (d:=2) (l:=al) ah rfl rfl HV cl (by kernel_rfl) (by kernel_rfl) yz λH h=>by cases h) EV.none a8.isnot_none_none)<|rg (names:=["la","lb"]) (dL<|an (fw (cB (cQ _) gl (dN _) bl) (an (EV.attr (k:=3) (d:=2) (l:=al) ah rfl rfl nl.a cl (by kernel_rfl) (by kernel_rfl) yy λH h=>by cases h) aM)<|qa (k:=0) (l:=aw f) rfl<|by lia)<|an (fw (cB (cQ _) gl (dN _) bl) (an (EV.attr (k:=3) (d:=2) (l:=al) ah rfl rfl nl.b cl (by kernel_rfl) (by kernel_rfl) wg λH h=>by cases h) aM)<|qa (k:=1) (l:=aw u) rfl<|by lia) aM)<|D rE<|D hlb ?_);refine cZ (eI<|an (dL<|an bA<|an ah<|an bA<|an ah aM) aM)<|cZ (eI aM) ?_;have e1:U (bu f u al tl++[O.list [qV (0,U f,0,U u)]])=p+1:=by exact D aK<|D hP rfl
 refine b7 (l':=wz p (U f)<|U u) (aY:=bu f u al tl++[.list<|[(0,U f,0,U u)].map qV,.list<|([]:J<|B×B×B).map mV]) ?_ ?_ ?_
 ·unfold wz;exact bL e1<|bL hP<|bp rfl
 ·show bu f u al tl++[O.list [qV (0,U f,0,U u)]]++[O.list []]=_;rw[cm];rfl
 refine cg<|jt (K:=λfl aj=>fl= .next/\∃bs:J<|B×B×B,bs.Perm (ng f u (0,U f,0,U u))/\SubL (wz p (U f)<|U u) aj.loc/\aj.hp=bu f u al tl++[.list [],.list<|bs.map mV]) ?_ ?_
 ·refine X1.while (p+2) (λm am=>∃qs bs,m=pt qs/\SubL (wz p (U f)<|U u) am.loc/\am.hp=bu f u al tl++[.list<|qs.map qV,.list<|bs.map mV]/\(bs++qs.flatMap (ng f u)).Perm (ng f u (0,U f,0,U u))/\(∀q∈qs,q.1<=q.2.1/\q.2.1<=U f/\q.2.2.1<=q.2.2.2/\q.2.2.2<=U u)/\U bs+m<=2*U f+1) (m0:=2*U f+1) ?_ (dZ _ _) λm am hI=>?_
  ·refine⟨[(0,U f,0,U u)],[],?_,λH H h=>h,rfl,?_,?_,?_⟩
   ·rfl
   ·simp
   ·intro q hq;rw[bx] at hq;subst hq;exact⟨bH _,aG _,bH _,aG _⟩
   ·exact XO
  ·obtain⟨qs,bs,rfl,ct,oe,uZ,dk,hm⟩:=hI;have yK:am.hp[p]?=some (.list<|qs.map qV):=by exact D oe (fS (t:=0) hP)
   have hq:=HT qs;refine⟨_,am,fv (ah<|ct "queue" _ rfl) (fu.list yK<|by refine D (bg _) ?_;exact XN hm ha hq),λcw=>?_,λhe=>bd ?_⟩
   rotate_left
   ·have:qs=[]:=by cases qs with
     |nil=>rfl
     |cons a l=>cases he
    subst this;exact⟨rfl,bs,by simpa using uZ,ct,oe⟩
   ·refine XS.hide λK hK=>?_
    rcases rS qs with rfl|⟨mA,⟨aq,aS,au,aJ⟩,rfl⟩
    ·cases cw
    rw[rT] at*;clear cw yK;refine b7 (l':=wz p (U f)<|U u) (aY:=bu f u al tl++[.list<|mA.map qV++[qV (aq,aS,au,aJ)],.list<|bs.map mV]) ct (by refine D oe<|D eL ?_;rfl) ?_
    refine gg (dk _<|bK.mpr<|.inr<|bx.mpr rfl) λG h2 h3 h4=>?_
    dsimp only at G h2 h3 h4;rw[aK] at hq;rw[zb] at hm hq hK;have dM:pt [(aq,aS,au,aJ)]=2*(aS-aq)+1:=by show 2*(aS-aq)+1+0=_;rfl
    rw[dM] at hm hq hK;refine yq (EV.method0 ah (uC<|fS (t:=0) hP) (aQ.pop (k:=p) (l:=mA.map qV) (v:=qV (aq,aS,au,aJ)) (fS (t:=0) hP)<|by refine D (bg _) ?_;exact XM hm hq ha) ud PySem.F.slot_list_pop PySem.F.type_list_pop) (cW.tup<|bU.cons bW<|bU.cons bW<|bU.cons bW<|bU.cons bW bU.nil) ?_
    refine b7 (l':=(Qe p (U f) (U u) aq aS au aJ)) (aY:=bu f u al tl++[.list<|mA.map qV,.list<|bs.map mV]) (bp rfl) (by show(bu f u al tl++_).set p _=_;exact Cr hP) ?_
    have td:=ad3 nl j9 (w:=w) (os:=os) (dr:=dr) (n:=n+1) (f:=f) (u:=u) (aq:=aq) (aS:=aS) (au:=au) (aJ:=aJ) ha hb h2 h4 G h3;have aix:=qi (a:=f) (b:=u) (aq:=aq) (aS:=aS) (au:=au) (aJ:=aJ);have zd:=acZ (a:=f) (b:=u) (aq:=aq) (aS:=aS) (au:=au) (aJ:=aJ);have HW:=λi j k=>ac0 (a:=f) (b:=u) (aq:=aq) (aS:=aS) (au:=au) (aJ:=aJ) (i:=i) (j:=j) (k:=k);refine EZ (⟨_,_,_,rfl⟩:∃i j k,jK f u aq aS au aJ=(i,j,k)) λi j k hf=>?_
    rw[hf] at td aix zd;have m1:=aix.pb;have m2:=aix.jv;have m3:=aix.lo1;have m4:=aix.lP;dsimp only at m1 m2 m3 m4 zd;have Ql:∀o∈bu f u al tl,o.bG (λk=>decide (k<U (bu f u al tl)))=true:=j9;refine jG (EV.ro (k:=3) (d:=2) (l:=al) ah rfl rfl cl (acm _) (Gv _).get rfl (Gv _).fd acu (an ah<|an ah<|an ah<|an ah aM) (cC.front td rfl Ql Ql (by show(decide (3<U (bu f u al tl))&&_)=true;rw[dG<|by exact pK _ _];rfl) rfl) (by kernel_rfl) (by kernel_rfl) nl.jK)
     (cF.cons (cW.HC (pi _) (qp _) (HS _)<|bU.cons bW<|bU.cons bW<|bU.cons bW bU.nil)<|cF.cons bW cF.nil) ?_
    refine b7 (l':=(("x",mV (i,j,k))::Cs p (U f) (U u) aq aS au aJ i j k)) (aY:=bu f u al tl++[.list<|mA.map qV,.list<|bs.map mV]) (bp rfl) rfl<|cg<|i9 _ (fv ah fu.int) (λhk=>?_) λhk=>bd<|bd<|hK _ _ ?_
    rotate_left
    ·have hk:k=0:=by simpa using hk
     refine⟨pt mA,by exact XK,mA,bs,rfl,by exact bp rfl,rfl,?_,λq jN=>dk q<|bK.mpr<|.inl jN,by exact XJ hm⟩;rw[kN,show[(aq,aS,au,aJ)].flatMap (ng f u)=[] by rw[JA,zd hk],cM] at uZ;exact uZ
    ·have hk:0<k:=vH (by simpa using hk);have hz:=HW i j k hf hk;refine eE (iF (k:=p+1) (l:=bs.map mV) ah (fS (t:=1) hP) ah (fS (t:=1) hP)<|by refine D (bg _) ?_;exact XI hm ha) ?_
     refine b7 (l':=(Cs p (U f) (U u) aq aS au aJ i j k)) (aY:=bu f u al tl++[.list<|mA.map qV,.list<|(bs++[(i,j,k)]).map mV]) (by exact bp rfl) (by refine D eL ?_;exact set_tail (t:=1) hP) ?_
     refine cg<|jt (K:=λfl aj=>fl= .next/\aj=⟨(Cs p (U f) (U u) aq aS au aJ i j k),bu f u al tl++[.list<|(mA++kd aq i au j).map qV,.list<|(bs++[(i,j,k)]).map mV]⟩) (i9 _ (kC (bV ah ah jZ)<|kC (bV ah ah jZ) pY) (λhc=>?_) λhc=>bd ⟨rfl,?_⟩) ?_
     ·have hc:aq<i/\au<j:=by simpa using hc
      refine eE (iF (k:=p) (l:=mA.map qV) ah (fS (t:=0) hP) (dL<|an ah<|an ah<|an ah<|an ah aM) (fS (t:=0) hP)<|by refine D (bg _) ?_;exact XH hm hq ha) ?_
      refine bd ⟨rfl,bB (St.mk _) ?_⟩;unfold kd;exact D (aU hc)<|D (eL (l₁:=mA))<|Cr hP
     ·have hc:¬(aq<i/\au<j):=by
       intro h;revert hc;simp[h.1,h.2]
      unfold kd;rw[aE hc,cM]
     intro fl aj dM;obtain⟨rfl,rfl⟩:=dM
     try dsimp only
     have nc:=Qi aq i au j;have kA:=Qi (i+k) aS (j+k) aJ;have pe:=HT<|kd aq i au j;refine cg<|jt (K:=λfl aj=>fl= .next/\aj=⟨(Cs p (U f) (U u) aq aS au aJ i j k),bu f u al tl++[.list<|(mA++kd aq i au j++kd (i+k) aS (j+k) aJ).map qV,.list<|(bs++[(i,j,k)]).map mV]⟩) (i9 _ (kC (bV (bt ah ah eT) ah jZ)<|kC (bV (bt ah ah eT) ah jZ) pY) (λhc=>?_) λhc=>bd ⟨rfl,?_⟩) ?_
     ·have hc:i+k<aS/\j+k<aJ:=by
       simp only[gS,ip,lF] at hc;lia
      refine eE (iF (k:=p) (l:=(mA++kd aq i au j).map qV) ah (fS (t:=0) hP) (dL<|an (bt ah ah eT)<|an ah<|an (bt ah ah eT)<|an ah aM) (fS (t:=0) hP)<|by refine D (bg _)<|D aK ?_;exact XF hm hc hq ha nc pe) ?_
      refine bd ⟨rfl,bB (St.mk _) ?_⟩;have hr:kd (i+k) aS (j+k) aJ=[(i+k,aS,j+k,aJ)]:=aU hc;exact D hr<|D (eL (l₁:=mA++kd aq i au j))<|Cr hP
     ·have hc:¬(i+k<aS/\j+k<aJ):=by
       intro h;simp only[Ky,Kb,lF] at hc;lia
      have hr:kd (i+k) aS (j+k) aJ=[]:=aE hc;rw[hr,cM]
     intro fl aj hU;obtain⟨rfl,rfl⟩:=hU
     try dsimp only
     refine bd (bd<|hK _ _<|⟨pt<|mA++kd aq i au j++kd (i+k) aS (j+k) aJ,?_,_,bs++[(i,j,k)],rfl,by exact bp rfl,rfl,?_,?_,?_⟩)
     ·rw[zb,zb];exact XE hk m1 kA nc m3
     ·refine J9 ?_ uZ
      rw[kN,kN,kN,Qh,Qh,JA,hz];refine J.perm_iff_count.mpr λx=>?_
      simp only[J.count_append,J.count_cons,J.count_nil];exact XD
     ·intro q jN;rcases bK.mp jN with jN|jN
      ·rcases bK.mp jN with jN|jN
       ·exact dk q<|bK.mpr<|.inl jN
       ·unfold kd at jN;split at jN
        ·rw[bx] at jN;subst jN;exact XC hk m1 m2 h2 m3 m4 h4
        ·cases jN
      ·unfold kd at jN;split at jN
       ·rw[bx] at jN;subst jN;exact XB hk m1 m2 h2 m3 m4 h4
       ·cases jN
     ·rw[zb,zb,aK];exact XA hk hm m1 kA nc m3
 intro fl aj nv;refine S7 nv λav bs uZ ct oe=>?_
 clear nv;subst av;refine b7 ct oe ?_
 have hlen:U bs<64:=by exact D uZ.length_eq<|xr (G6 f u) fV
 have qg:=G6 f u;refine eE (EV.method0 ah (uC<|fS (t:=1) hP) (aQ.sort (k:=p+1) (aiC:=λs:B×B×B=>s.1) (r:=λs=>[.int s.2.1,.int s.2.2]) (bs:=bs) (y6:=dU f u) (pi _) (qp _) (ae3 _) (fS (t:=1) hP) hlen uZ.symm (Pn f u)) ud PySem.F.slot_list_sort PySem.F.type_list_sort)<|jG bA (cF.cons bW<|cF.cons bW<|cF.cons bW cF.nil)<|cZ (eI aM) ?_;have e2:U ((bu f u al tl++[O.list [],O.list<|bs.map mV]).set (p+1)<|.list<|(dU f u).map mV)=p+2:=by refine D qN<|D aK<|D hP ?_;rfl
 refine b7 (l':=qu p (U f) (U u) (0,0,0)) (aY:=bu f u al tl++[.list [],.list<|(dU f u).map mV,.list<|([]:J<|B×B×B).map tV]) ?_ ?_ ?_
 ·unfold qu wz;exact bL e2<|bp rfl
 ·show(bu f u al tl++[O.list [],O.list<|bs.map mV]).set (p+1) (.list<|(dU f u).map mV)++[O.list []]=_;rw[set_tail (t:=1) hP,cm];rfl
 have f0:∀t,U ((dU f u).take t)<=64:=λt=>cY (JG ..) (by exact cY ‹_› (lz ‹_›));refine cg<|jt (K:=λfl aj=>fl= .next/\∃c acc,(dU f u).foldl nh ((0,0,0),[])=(c,acc)/\SubL (qu p (U f) (U u) c) aj.loc/\aj.hp=bu f u al tl++[.list [],.list<|(dU f u).map mV,.list<|acc.map tV]) ?_ ?_
 ·refine nW (p+3) (items:=(dU f u).map mV) (λt aj=>∃c acc,((dU f u).take t).foldl nh ((0,0,0),[])=(c,acc)/\SubL (qu p (U f) (U u) c) aj.loc/\aj.hp=bu f u al tl++[.list [],.list<|(dU f u).map mV,.list<|acc.map tV])
   (gw.of ah<|fP.list (k:=p+1)<|fS (t:=1) hP) ⟨(0,0,0),[],rfl,λH H h=>h,rfl⟩ (λt aj H hI=>?_) (eM _) (dZ _ _) (λt aiA aj hu hI=>?_) (λaj hI=>?_)
  ·refine dh hI λc acc H H hh=>?_
   show aj.hp[p+1]?=_;exact D hh<|fS (t:=1) hP
  ·refine dh hI λcq acc hf ct hh=>?_
   obtain⟨i1,j1,k1⟩:=cq;rw[c7] at hu;cases u0:(dU f u)[t]? with
   |none=>rw[u0] at hu;cases hu
   |some b=>
   rw[u0] at hu;obtain⟨i2,j2,k2⟩:=b;obtain rfl:aiA=mV (i2,j2,k2):=by cases hu;rfl
   clear hu;have m8:((dU f u).take<|t+1).foldl nh ((0,0,0),[])=nh ((i1,j1,k1),acc) (i2,j2,k2):=by
    refine D qM<|D u0<|D jS<|D hf ?_;rfl
   have oT:U acc<=64:=by
    have G:=Cb ((dU f u).take t) ((0,0,0),[]);rw[hf] at G;have h2:=f0 t;simp only[iR] at G;exact Xz G h2
   refine⟨_,cW.norm ct hh<|cW.HC (pi _) (qp _) (HS _)<|bU.cons bW<|bU.cons bW<|bU.cons bW bU.nil,(XS.hide λK hK=>(b7 (l':=("k2",.int k2)::("j2",.int j2)::("i2",.int i2)::qu p (U f) (U u) (i1,j1,k1)) (aY:=bu f u al tl++[.list [],.list<|(dU f u).map mV,.list<|acc.map tV]) (bp rfl) rfl<|cg<|i9 _ (kC (bV (bt ah ah eT) ah mi)<|kC (bV (bt ah ah eT) ah mi) pY) (λhc=>?_) λhc=>?_))⟩
   ·have hc:i1+k1=i2/\j1+k1=j2:=by
     simp only[gS,nH,lF] at hc;lia
    exact cg (X1.aug rfl ah a8.iadd_int<|bd<|bd<|hK _ _ ⟨(i1,j1,k1+k2),acc,(D m8<|aU hc),by exact bp rfl,rfl⟩)
   ·have hc:¬(i1+k1=i2/\j1+k1=j2):=by
     simp only[Ky,xl,lF] at hc;lia
    refine cg<|jt (K:=λfl aj=>fl= .next/\aj=⟨("k2",.int k2)::("j2",.int j2)::("i2",.int i2)::qu p (U f) (U u) (i1,j1,k1),bu f u al tl++[.list [],.list<|(dU f u).map mV,.list<|(my ((i1,j1,k1),acc)).map tV]⟩) (i9 _ (fv ah fu.int) (λhk=>?_) λhk=>bd ⟨rfl,?_⟩) ?_
    ·have hk:¬k1=0:=by simpa using hk
     refine eE (iF (k:=p+2) (l:=acc.map tV) ah (fS (t:=2) hP) (dL<|an ah<|an ah<|an ah aM) (fS (t:=2) hP)<|by refine D (bg _) ?_;exact M1 oT) ?_
     exact bd ⟨rfl,bB (St.mk _)<|D (show my ((i1,j1,k1),acc)=acc++[(i1,j1,k1)] from aE hk)<|D eL<|set_tail (t:=2) hP⟩
    ·have hk:k1=0:=by simpa using hk
     exact D (show my ((i1,j1,k1),acc)=acc from aU hk) rfl
    intro fl aj Ct;obtain⟨rfl,rfl⟩:=Ct
    try dsimp only
    exact rg (names:=["i1","j1","k1"]) (dL<|an ah<|an ah<|an ah aM) (bd<|bd<|hK _ _ ⟨(i2,j2,k2),_,(D m8<|aE hc),by exact bp rfl,rfl⟩)
  ·refine dh hI λc acc hf ct hh=>?_
   rw[bg,pI] at hf;exact bd ⟨rfl,c,acc,hf,ct,hh⟩
 intro fl aj Qm;refine E2 Qm λav kW acc hf ct hh=>?_
 clear Qm;subst av;obtain⟨i1,j1,k1⟩:=kW;have oT:U acc<=64:=by
  have G:=Cb (dU f u) ((0,0,0),[]);rw[hf] at G;simp only[iR] at G;exact Xy fV G qg
 refine b7 ct hh<|cg<|jt (K:=λfl aj=>fl= .next/\aj=⟨qu p (U f) (U u) (i1,j1,k1),bu f u al tl++[.list [],.list<|(dU f u).map mV,.list<|(pc<|dU f u).map tV]⟩) (i9 _ (fv ah fu.int) (λhk=>?_) λhk=>bd ⟨rfl,?_⟩) ?_
 ·have hk:¬k1=0:=by simpa using hk
  refine eE (iF (k:=p+2) (l:=acc.map tV) ah (fS (t:=2) hP) (dL<|an ah<|an ah<|an ah aM) (fS (t:=2) hP)<|by refine D (bg _) ?_;exact M1 oT) ?_
  refine bd ⟨rfl,bB (St.mk _) ?_⟩;unfold pc;exact D hf (D (show my ((i1,j1,k1),acc)=acc++[(i1,j1,k1)] from aE hk)<|D eL<|set_tail (t:=2) hP)
 ·have hk:k1=0:=by simpa using hk
  unfold pc;exact D hf<|D (show my ((i1,j1,k1),acc)=acc from aU hk) rfl
 intro fl aj hq6;obtain⟨rfl,rfl⟩:=hq6
 try dsimp only
 have ta:U (pc<|dU f u)<=65:=by
  unfold pc my;refine D hf ?_
  split
  ·exact Xx oT
  ·exact D aK<|Xw oT
 refine eE (iF (k:=p+2) (l:=(pc<|dU f u).map tV) ah (fS (t:=2) hP) (dL<|an ah<|an ah<|an bA aM) (fS (t:=2) hP)<|by refine D (bg _) ?_;exact Xv ta) ?_
 refine b7 (l':=qu p (U f) (U u) (i1,j1,k1)) (aY:=bu f u al tl++[.list [],.list<|(dU f u).map mV,.list<|(gn f u).map tV]) (λH H h=>h) ?_ ?_
 ·show(bu f u al tl++_).set (p+2) _=_;exact D (set_tail (t:=2) hP)<|D eL rfl
 have e3:U (bu f u al tl++[O.list [],O.list<|(dU f u).map mV,O.list<|(gn f u).map tV])=p+3:=Hq hP;refine jG (EV.eq (v':=.ref<|p+3) (Hp:=⟨qu p (U f) (U u) (i1,j1,k1),bu f u al tl++[.list [],.list<|(dU f u).map mV,.list<|(gn f u).map tV,.list<|((gn f u).map tV).map Qg]⟩) (EV.listOf (cB (cQ _) (qc _) (dN _)<|qe _) aeI (po.aeX (r:=Qg) (cB (cQ _) (abi _) (dN _)<|abn _) (hH (cQ _)<|Ow _) (pi _) (qp _) (aeZ _) (ae0 _) (PL _) rfl ah (k:=p+2) (fS (t:=2) hP) (oY λH=>rfl) λx hx=>?_)<|by refine D (bg _)<|D (bg _) ?_;unfold gn;rw[aK];exact cY (B.add_le_add_right ta 1)<|bY rfl) (bB V.ref e3)<|bB (St.mk _)<|by rw[cm];rfl) (cF.cons (kX (k:=3) (d:=2) (l:=al) ah rfl rfl cl (by kernel_rfl) (by kernel_rfl) yz<|cY nl.len<|bY rfl) cF.nil) ?_
 ·refine aH (fb.mp hx) λs hs av=>?_
  subst av;exact ae1
 have hlen:U hM=p+4:=by rw[uY,pj,aK];exact Xu Qj
 refine b7 (l':=qu p (U f) (U u) (i1,j1,k1)) (aY:=hM) (λH H h=>h) ?_ ?_
 ·refine D uY ?_
  show(bu f u al tl++_).set 2 _=_;unfold bu;simp only[cm,jT,nG,JO,DS,gP];rfl
 have hM2:hM[2]?=some (.attrs<|putL al "matching_blocks"<|.ref<|p+3):=by exact D uY rfl
 have hM3:hM[3]?=some (.inst 242 2):=by exact D uY rfl
 refine j6 (EV.attr (k:=3) (d:=2) ah hM3 hM2 rfl cl (by kernel_rfl) (by kernel_rfl) yz λH h=>by cases h) ⟨_,rfl,?_⟩;have:=Conv.drop (q:=p) (hp:=hM) (junk:=[]) (v:=.ref<|p+3) (Xs hlen) Qk (by show decide (p+3<U hM)=true;exact dG<|Xr hlen);rwa [cM] at this
end zc
section
variable{n q m:B}{T:Wd}{A:bS}{c c':nQ}{fs:J nP}{s s' bQ s0:ay}{P:End->ay->Prop}{aiz:ak->dD h9}{gd:bb->bb}{lv:J ak->J ak}{sh:J (ax×J V)}{g g':B->Prop}{eK bX:ax->Prop}{x:de}{aiB:GC}{ρ aB:J ax}{st aj am ba:St}{a:eX}{cy:J (B×J V)}{ss body:J eX}{items rest:J It}{Φ:Fl->J It->St->Prop}{p wA pos:cN}{K:mL->dD h9}{env:Env}{e:bv}{l l' al:J (ao×V)}{hp gt tl:J O}{o:O}{At:bn->Prop}{C:Cx}{aiC:ax}{args:J V}{kw:J (ao×ak)}{Q:ak->ay->Prop}{gL:J ao}{f u:J (J B)}{acc:J b8}
section
variable{w:bz}{os:bM}{dr:cV}
theorem ae5:∀{w os dr n f u al tl},zc.ES w os dr n f u al tl () () () () ():=by with_unfolding_all exact oM zc.ES zc.EX rfl zc.Ee _ _ _ _ _ _ _ _ () () () () ()
end
noncomputable abbrev Md(T:Wd):Model:=aN T.prog T.w
noncomputable abbrev SX(T:Wd)(A:bS)(c:nQ)(t:dD h9)(fs:J nP)(s:ay)(P:End->ay->Prop):Prop:=W.X.SegX (Md T) A c t fs s P
theorem jO{α:Type}{m:dD α}{K:α->dD h9}
  (h:aF (Md T) (A.over c fs) m (λa s'=>SX T A c (K a) fs s' P) bq s):SX T A c (m.wrap K aiz gd lv) fs s P:=by
 rintro Γ p rfl te;exact dv (runs_wrap_of_wp (Φ:=λe s'=>e.quiet=true/\P e s') K aiz gd lv m (h (Γ.over fs) p (te.over fs)) (λa p' s' h'=>h' Γ p' rfl te) (λx p' s' h'=>h'.elim)) λe s' hr hq=>(⟨e,s',hr,hq⟩)
noncomputable def wB(T:Wd)(n γ:B)(g:B->Prop)(sh:J<|ax×J V):J It->(ax->Prop)->ay->End->ay->Prop
 | [],bX,s0,e,s'=>match e with
  | .ret r=>r= .ok (.ret .none)/\Mv T sh g bX s0 s'/\∀(i:B) (x:de),g i->i≠γ->s'.gens[i]?=some x->x= .finished
  | .susp .. =>c8
 |it::l,bX,s0,e,s'=>match e with
  | .ret _=>c8
  | .susp v _ _ k c _ fs=>∃eK,Mv T sh g bX s0 s'/\s'.gens[γ]?=some .running/\(∀b,eK b->(bX b\/s0.heap.get? b=aA)/\∃o,s'.heap.get? b=some o)/\it.Is T bX eK s0 s' v/\
   ∀bQ,Rel T sh g eK s' bQ->∀A,cn n A->SX T A c (k<|.send .none) fs bQ (wB T n γ g sh l eK bQ)
noncomputable def Qo(T:Wd)(n γ:B)(g:B->Prop)(sh:J<|ax×J V)(items:J It)(bX:ax->Prop)(s0:ay)(c:nQ)(t:dD h9)(fs:J nP)(s:ay):Prop:=
 ∀A,cn n A->SX T A c t fs s (wB T n γ g sh items bX s0)
section
variable{γ:B}{own:ax->Prop}{I:ax}
theorem rF{i:B}(h:i≠γ):(s.setGen γ x).gens[i]?=s.gens[i]?:=D (bD.getElem?_setIfInBounds_ne<|uf h) rfl
theorem u2{y:de}(h:s.gens[γ]?=some y):(s.setGen γ x).gens[γ]?=some x:=by
 have:γ<s.gens.size:=(jW.mp h).1;exact D (bD.getElem?_setIfInBounds_self_of_lt this) rfl
theorem qw:(s.setGen γ x).gens.size=s.gens.size:=bD.size_setIfInBounds ..
theorem Mv.ae6(nw:g γ)(m:Mv T sh g own s s'):Mv T sh g own s (s'.setGen γ x):=
 ⟨m.keep,m.aX,m.sh,m.top,λi y hi e=>by
  have ne:i≠γ:=λz=>hi<|z▸nw
  refine D (rF ne) ?_;exact m.gens i y hi e,by simp only[qw];exact m.size,m.os,m.drawn⟩
theorem Mv.Qp(nw:g γ)(m:Mv T sh g own (s.setGen γ x) s'):Mv T sh g own s s':=
 ⟨m.keep,m.aX,m.sh,m.top,λi y hi e=>by
  have ne:i≠γ:=λz=>hi<|z▸nw
  exact m.gens i y hi ((rF ne).trans e),by have:=m.size;rwa [qw] at this,m.os,m.drawn⟩
theorem Qq{Q:bC ak->ay->Prop}{E:ak->ay->Prop}{gs:de}{c₀:nQ}{t₀:dD h9}{rG:J nP}(hh:A.handled=aA)(hl:s.heap.NoLimit)(ae7:A.depth<recursionLimit)
  (hg:s.heap.IsGen I γ) (wC:s.gens[γ]?=some gs) (nx:(gs= .fresh c₀/\t₀=denote table c₀/\rG=[])\/(∃k₀ HX HY cl,gs= .suspended k₀ HX c₀ HY rG cl/\t₀=k₀ (.send .none)))
  (x:SX T A.in1 c₀ t₀ rG (s.setGen γ .running) (λe cX=>match e with
   | .ret r=>r= .ok (.ret .none)/\∀h',(∀b o,cX.heap.get? b=some o->h'.get? b=some o)->Q aA {cX.setGen γ .finished with heap:=h'}
   | .susp v g l k c p fs=>Q (some v) (cX.setGen γ (End.susp v g l k c p fs).genState))):
  aF (Md T) A (oG<|.ref I) Q E s:=by
 refine wpAny_bind (wpAny_attempt (wpAny_callSpecial?_slot (name:=ft "__next__") hg.typeIs slot_gen_next
  (wpAny_call_entry slot_gen_next hg.typeIs entry_gen_next ?_ (args_gen_next _))))
 show aF _ _ (SZ (.ref I)<|.send .none) _ _ s;refine wpAny_bind<|wpAny_holding<|wpAny_genNumber hg<|wpAny_bind<|wpAny_genState wC ?_;have go:∀(R:h9->ay->Prop) (E':ak->ay->Prop) (k:GenResult->dD h9),(∀cX:ay,(∀h':bn,(∀b o,cX.heap.get? b=some o->h'.get? b=some o)->Q aA {cX.setGen γ .finished with heap:=h'})->aF (Md T) A.in1 (k (End.ret<|.ok<|.ret .none).result) R E' (cX.setGen γ .finished))->
   (∀(v:ak) (cX:ay),Q (some v) cX->aF (Md T) A.in1 (k<|.yielded v) R E' cX)->aF (Md T) A.in1 (.resume γ (.send .none) [] k) R E' s:=λR E' k G h2 Γ p te=>
  W.X.wake_any h9 T.prog T.w (A:=A.in1) (Q:=R) (E:=E') wC (nx.imp (λh=>⟨h.1,rfl,h.2.1,h.2.2⟩) id) (λΓ=>Γ.In A.in1) (λH h=>h) (EH x λe cX he=>by
   cases e with
   |ret r=>obtain⟨rfl,he⟩:=he;exact λΓ p te=>G cX he Γ p te
   |susp v g l k c p fs=>exact λΓ p te=>h2 v _ he Γ p te) Γ p te
 rcases nx with ⟨rfl,_⟩|⟨_,_,_,_,rfl,_⟩
 all_goals
  refine wpAny_bind<|wpAny_roomToWake hl ae7<|go _ _ _ (λcX hp=>?_) λv cX hv=>wpAny_pure ⟨v,rfl,wpAny_pure hv⟩;show aF _ _ (newExc (.type "StopIteration") [] >>= _) _ _ _;refine wpAny_bind ?_
  simp only[newExc,newTuple];refine wpAny_bind (wpAny_newObj_type ?_<|by size_fits);refine wpAny_bind (m:=firstArgMember _ _)<|wpAny_of_eq (a:=jB) (by first|rfl|(simp only[firstArgMember];rfl)) ?_;refine wpAny_newObj_type ?_ (by size_fits)
  dsimp only[raiseNew];refine wpAny_bind<|wpAny_bind<|wpAny_handled<|D (hh:A.in1.handled=aA)<|wpAny_throw<|wpAny_bind<|wpAny_isInstance (T:="StopIteration") (b:=true) ⟨_,ew _ rfl,rfl⟩ isSubtype_stop ?_;exact wpAny_pure<|hp _ λb o hb=>dE _<|dE _ hb
theorem Qr(nw:g γ)(ml:T.top.NoLimit):∀(items:J It) (own:ax->Prop) (s:ay) (gs:de) (c₀:nQ) (t₀:dD h9) (rG:J nP),s.heap.IsGen I γ->¬own I->s.gens[γ]?=some gs->
  ((gs= .fresh c₀/\t₀=denote table c₀/\rG=[])\/(∃k₀ HX HY cl,gs= .suspended k₀ HX c₀ HY rG cl/\t₀=k₀ (.send .none)))->
  (∀s',Rel T sh g own s s'->Qo T n γ g sh items own (s'.setGen γ .running) c₀ t₀ rG (s'.setGen γ .running))->gq T (n+1) I sh g items (λb=>b=I\/own b) s
 | []=>λown s gs c₀ t₀ rG hg hI wC nx go=>λs' rel A Q E hA hQ=>by
  refine eR hg λob nm qn ho r=>?_
  have gH:=rel.keep I ob (.inl rfl) ho;refine Qq hA.1 (ml.keeps rel.top) hA.depth ⟨ob,nm,qn,gH,r⟩ (rel.gens γ gs nw wC) nx<|EH (go s' (rel.weak λb h=>.inr h) A.in1 hA.in1) λe s1 he=>?_;cases e with
  |susp=>exact he.elim
  |ret r=>
   refine eh he λav mv fin=>?_
   clear he;subst av;refine⟨rfl,λh' kp=>hQ _ ?_ λi x hi e=>?_⟩
   ·have m:=mv.Qp nw;refine⟨λb o e hb hs=>kp b o<|m.keep b o e (λh=>hb<|.inr h) hs,m.aX.trans<|iB kp,λp hp=>?_,λb o e=>kp b o<|m.top b o e,λi x hi e=>?_,by show _<=(s1.setGen γ .finished).gens.size;rw[qw];exact m.size,m.os,m.drawn⟩
    ·have z:=m.sh p hp;exact aH z.there λx hx H=>(z.mono (bP _) (iB kp)<|(kp _ _ hx).trans hx.symm)
    ·have ne:i≠γ:=λz=>hi<|z▸nw;exact(rF ne).trans<|m.gens i x hi e
   ·by_cases qx:i=γ
    ·subst qx;have hs:i<(s1.setGen i .finished).gens.size:=(jW.mp e).1;rw[qw] at hs;have:=u2 (x:=.finished)<|ia hs;rw[show(s1.setGen i .finished).gens[i]?=some x from e] at this;exact cj this
    ·exact fin i x hi qx<|(rF qx).symm.trans e
 |it::l=>λown s gs c₀ t₀ rG hg hI wC nx go=>λs' rel A Q E hA hQ=>by
  refine eR hg λob nm qn ho r=>?_
  have gH:=rel.keep I ob (.inl rfl) ho;refine Qq hA.1 (ml.keeps rel.top) hA.depth ⟨ob,nm,qn,gH,r⟩ (rel.gens γ gs nw wC) nx<|EH (go s' (rel.weak λb h=>.inr h) A.in1 hA.in1) λe s1 he=>?_;cases e with
  |ret=>exact he.elim
  |susp v gd lv k c p fs=>
   refine uh he λeK mv run dj hit cont=>?_
   have i6:¬eK I:=λh=>by
    rcases(dj I h).1 with h|h
    ·exact hI h
    ·simp only[show s'.heap.get? I=aA from h] at gH;exact nomatch gH
   have yZ:s1.heap.get? I=some ob:=by
    refine mv.keep I ob gH hI λq hq e=>dv (rel.sh q hq) λvs m z H=>?_
    simp only[e,gH] at z
    (cases cj z;clear z)
    have:=r.1;simp at this
   refine hQ v _ (λb=>b=I\/eK b) (((mv.Qp nw).ae6 nw).weak λb h=>.inr h) (λb h=>?_) ?_ ?_
   ·rcases h with h|h
    ·exact⟨.inl<|.inl h,ob,by subst h;exact yZ⟩
    ·exact⟨(dj b h).1.imp .inr id,(dj b h).2⟩
   ·cases it with
    |val w=>exact hit
    |obj o=>
     refine uh hit λa av G h2 h3 h4=>?_
     clear hit;subst av;refine⟨a,rfl,G.imp .inr id,h2,λh=>?_,h4⟩;rcases h with h|h
     ·subst h;rcases G with h|h
      ·exact hI h
      ·simp only[show s'.heap.get? a=aA from h] at gH;exact nomatch gH
     ·exact h3 h
   ·refine Qr nw ml l eK _ _ c (k<|.send .none) fs ⟨ob,nm,qn,yZ,r⟩ i6 (u2 run) (.inr ⟨k,_,p,_,rfl,rfl⟩) λbQ qy A' fQ=>cont (bQ.setGen γ .running) ⟨qy.keep,qy.aX,qy.sh,qy.top,λi x hi e=>?_,λi x hi hs e=>?_,by have:=qy.size;rw[qw] at this ⊢;exact this,qy.os,qy.drawn⟩ A' fQ
    ·by_cases qx:i=γ
     ·subst qx;simp only[run] at e;(injection e;subst_vars);exact u2<|qy.gens i _ hi<|u2 run
     ·exact(rF qx).trans<|qy.gens i x hi<|(rF qx).trans e
    ·have bJ:γ<s1.gens.size:=(jW.mp run).1;have ne:i≠γ:=by exact AM bJ hs
     exact qy.news i x hi (by refine D qw ?_;exact hs)<|(rF ne).symm.trans e
end
structure GC where
 C:Cx
 n:B
 m:B
 γ:B
 g:B->Prop
 sh:J (ax×J V)
 cy:J (B×J V)
 b:B
 low:∀p∈cy,p.1<b
 nw:g γ
structure cU(aiB:GC) where
 ext:ax->Prop
 eg:B->Prop
 Z:ay->Prop
 wD:∀s s',Rel aiB.C.toWd aiB.sh eg ext s s'->Z s->Z s'
 HZ:¬eg aiB.γ
 ze:∀i,eg i->aiB.g i
noncomputable def cU.nil(aiB:GC):cU aiB:=⟨λH=>c8,λH=>c8,λH=>gF,λH H H H=>trivial,λh=>h,λH h=>h.elim⟩
noncomputable def ke(sh:J<|ax×J V)(a:ax):Prop:=∀p∈sh,p.1≠a
structure Inv(aiB:GC)(R:cU aiB)(bX:ax->Prop)(s0:ay)(ρ:J ax)(st:St)(s:ay):Prop where
 rep:Rep aiB.C ρ st s
 dO:aiB.sh=dO ρ aiB.cy
 rH:gK st.hp aiB.cy
 len:aiB.b<=U st.hp
 mv:Mv aiB.C.toWd aiB.sh aiB.g bX s0 s
 run:s.gens[aiB.γ]?=some .running
 fin:∀(i:B) (x:de),aiB.g i->i≠aiB.γ->¬R.eg i->s.gens[i]?=some x->x= .finished
 g7:∀a,(a∈ρ/\ke aiB.sh a)\/a=aiB.C.env.locals\/R.ext a->bX a\/s0.heap.get? a=aA
 ext:∀a,R.ext a->a∉ρ/\a≠aiB.C.env.locals/\∃o,s.heap.get? a=some o
 z:R.Z s
section
variable{R:cU aiB}
theorem Inv.at(I:Inv aiB R bX s0 ρ st s):∀p∈aiB.sh,p.1∈ρ/\(O.list p.2).Is aiB.C.w [] s.heap p.1/\∃j:B,ρ[j]?=some p.1/\st.hp[j]?=some (.list p.2):=by
 have:=I.rH.at I.rep;rwa [←I.dO] at this
theorem Inv.new(I:Inv aiB R bX s0 ρ st s){a:ax}(h:s.heap.get? a=aA):bX a\/s0.heap.get? a=aA:=by
 cases e:s0.heap.get? a with
 |none=>exact .inr rfl
 |some o=>
  refine .inl<|EN λhn=>?_;have:s.heap.get? a=some o:=by
   refine I.mv.keep a o e hn λp hp q=>dv ((I.at p hp).2.1) λvs m z H=>?_
   simp only[q,h] at z;exact nomatch z
  rw[h] at this;exact nomatch this
theorem Qt{b:B}(hl:∀p∈cy,p.1<b)(hb:b<=U ρ)(hq:b<=q)(hp:ρ.take q<+:aB):dO ρ cy=dO aB cy:=by
 refine rU λp h=>?_
 have bJ:=hl p h;have G:ρ[p.1]?=some ρ[p.1]:=bO (by exact oC ‹_› ‹_›);have h2:(ρ.take q)[p.1]?=some ρ[p.1]:=by rw[JP,aU (by exact oC ‹_› ‹_›),G]
 have h3:=pT hp h2;simp only[c6,c6,G,h3]
theorem Inv.next(I:Inv aiB R bX s0 ρ st s)(N:eH aiB.C q ρ s aj aB s')(hq:aiB.b<=q)(eo:gK aj.hp aiB.cy):Inv aiB R bX s0 aB aj s':=by
 have lY:aiB.b<=U ρ:=by simp only[I.rep.led.len];exact I.len
 have e:=Qt aiB.low lY hq N.pre;have at':=eo.at N.rep;rw[←e,←I.dO] at at';have dk:∀{a},a∈aB->a∉ρ->s.heap.get? a=aA:=λh h'=>N.fresh _ h h';have old:∀b o,s0.heap.get? b=some o->¬bX b->ke aiB.sh b->b∉ρ/\b≠aiB.C.env.locals:=λb o e hb hs=>by
  refine⟨λh=>?_,λh=>?_⟩
  ·rcases I.g7 b (.inl ⟨h,hs⟩) with h|h
   ·exact hb h
   ·simp only[h] at e;exact nomatch e
  ·rcases I.g7 b (.inr<|.inl h) with h|h
   ·exact hb h
   ·simp only[h] at e;exact nomatch e
 refine⟨N.rep,I.dO.trans e,eo,?_,⟨λb o e hb hs=>?_,I.mv.aX.trans N.aX,λp hp=>(at' p hp).2.1,N.rep.led.top,λi x hi e=>N.gens.1 i x<|I.mv.gens i x hi e,cY I.mv.size N.gens.size,N.rep.led.os,N.rep.led.drawn⟩,N.gens.1 _ _ I.run,λi x G h2 h3 e=>?_,λa ha=>?_,λa ha=>?_,?_⟩
 ·have G:=J2 N.pre;rw[gE] at G;simp only[←N.rep.led.len];exact Tw G hq lY
 ·have:=old b o e hb hs;exact N.keep b o (I.mv.keep b o e hb hs) this.1 this.2
 ·by_cases hi:i<s.gens.size
  ·have e1:s.gens[i]?=some s.gens[i]:=ia hi;simp only[N.gens.1 i _ e1] at e;(have:=cj e;clear e;subst this);exact I.fin i _ G h2 h3 e1
  ·exact N.gens.2 i x (by exact iS ‹_›) e
 ·rcases ha with ⟨h,hs⟩|h|h
  ·by_cases h':a∈ρ
   ·exact I.g7 a<|.inl ⟨h',hs⟩
   ·exact I.new<|dk h h'
  ·exact I.g7 a<|.inr<|.inl h
  ·exact I.g7 a<|.inr<|.inr h
 ·refine xK (I.ext a ha) λG h2 o h3=>⟨λh=>?_,h2,o,N.keep a o h3 G h2⟩
  simp only[dk h G] at h3;exact nomatch h3
 ·exact R.wD s s' ⟨λb o hb e=>N.keep b o e (I.ext b hb).1 (I.ext b hb).2.1,N.aX,λp hp=>(at' p hp).2.1,N.rep.led.top,λi x H e=>N.gens.1 i x e,λi x H h e=>N.gens.2 i x h e,N.gens.size,N.rep.led.os,N.rep.led.drawn⟩ I.z
noncomputable def Inv.own(aiB:GC)(R:cU aiB)(ρ:J ax)(a:ax):Prop:=(a∈ρ/\ke aiB.sh a)\/a=aiB.C.env.locals\/R.ext a
theorem Inv.lives(I:Inv aiB R bX s0 ρ st s){b:ax}(h:Inv.own aiB R ρ b):∃o,s.heap.get? b=some o:=by
 rcases h with ⟨h,_⟩|h|h
 ·exact mO (I.rep.toF.mem h) λH H ob H H H h3 H=>(⟨ob,h3⟩)
 ·subst h;exact aH I.rep.loc λm cq H=>eR cq λoL H H hL H=>(⟨oL,hL⟩)
 ·exact(I.ext b h).2.2
theorem Inv.resume(I:Inv aiB R bX s0 ρ st s)(r:Rel aiB.C.toWd aiB.sh aiB.g (Inv.own aiB R ρ) s bQ):Inv aiB R (Inv.own aiB R ρ) bQ ρ st bQ:=by
 have L:=I.rep.led;refine⟨⟨?_,⟨L.len,λk o a e q=>?_,L.nodup,L.fC,L.low,L.gT,r.top,r.os,r.drawn⟩⟩,I.dO,I.rH,I.len,⟨λH H e H H=>e,bF.refl _,r.sh,r.top,λH H H e=>e,aG _,r.os,r.drawn⟩,r.gens _ _ aiB.nw I.run,λi x G h2 h3 e=>?_,λa h=>.inl h,λa ha=>?_,R.wD s bQ ⟨λb o hb e=>r.keep b o (.inr<|.inr hb) e,r.aX,r.sh,r.top,λi x hi e=>r.gens i x (R.ze i hi) e,λi x hi h e=>r.news i x (R.ze i hi) h e,r.size,r.os,r.drawn⟩ I.z⟩
 ·refine aH I.rep.loc λm bT hm=>?_
  exact⟨m,mj bT λo e=>r.keep _ o (.inr<|.inl rfl) e,λx v e=>by obtain⟨y,hy,q⟩:=hm x v e;exact⟨y,hy,q.mono (bP _) r.aX⟩⟩
 ·have z:=L.objs k o a e q
  by_cases hs:ke aiB.sh a
  ·exact aH z.there λx hx H=>(z.mono (bP _) r.aX<|(r.keep a x (.inl ⟨dT q,hs⟩) hx).trans hx.symm)
  ·unfold ke at hs;simp only[K0,xH] at hs;obtain⟨p,hp,rfl⟩:=hs;refine E1 (I.at p hp) λH H j s9 kb=>?_
   rw[pV L.nodup s9 q,e] at kb
   (have:=cj kb;clear kb;subst this)
   exact dv (r.sh p hp) λvs k z1 z2=>(⟨vs,k,z1,z2.mono xh<|bF.refl _⟩)
 ·by_cases hi:i<s.gens.size
  ·have e1:s.gens[i]?=some s.gens[i]:=ia hi;simp only[r.gens i _ G e1] at e;(have:=cj e;clear e;subst this);exact I.fin i _ G h2 h3 e1
  ·exact r.news i x G (by exact iS ‹_›) e
 ·exact xK (I.ext a ha) λG h2 o h3=>(⟨G,h2,o,r.keep a o (.inr<|.inr ha) h3⟩)
end
noncomputable def wE(n m:B)(c:nQ)(fs:J nP):Prop:=(∀A,cn n A->cn m (A.over c fs))/\splitAtGen fs=aA/\fs.any Ek=false
noncomputable abbrev GC.Seg(aiB:GC)(items:J It)(bX:ax->Prop)(s0:ay)(c:nQ)(t:dD h9)(fs:J nP)(s:ay):Prop:=Qo aiB.C.toWd aiB.n aiB.γ aiB.g aiB.sh items bX s0 c t fs s
noncomputable def Qu(aiB:GC)(R:cU aiB)(q:B)(ρ:J ax)(K:mL->dD h9)(c:nQ)(fs:J nP)(Φ:Fl->J It->St->Prop):Prop:=
 ∀fl items st bX s0 aB s aiC,Φ fl items st->ρ.take q<+:aB->Inv aiB R bX s0 aB st s->fl.Is aB s.heap aiC->aiB.Seg items bX s0 c (K aiC) fs s
noncomputable def wF(aiB:GC)(R:cU aiB)(q:B)(t:dD mL)(st:St)(items:J It)(Φ:Fl->J It->St->Prop):Prop:=
 ∀(c:nQ) (fs:J nP) (K:mL->dD h9) (aiz:ak->dD h9) (gd:bb->bb) (lv:J ak->J ak) (ρ:J ax),wE aiB.n aiB.m c fs->gd false=false->Qu aiB R q ρ K c fs Φ->
  ∀bX s0 s,Inv aiB R bX s0 ρ st s->aiB.Seg items bX s0 c (t.wrap K aiz gd lv) fs s
@[irreducible] noncomputable def XG(aiB:GC)(R:cU aiB)(q:B)(ss:J eX)(st:St)(items:J It)(Φ:Fl->J It->St->Prop):Prop:=wF aiB R q (mK ss aiB.C.env) st items Φ
theorem XG.mk{R:cU aiB}(run:wF aiB R q (mK ss aiB.C.env) st items Φ):XG aiB R q ss st items Φ:=by with_unfolding_all exact run
theorem XG.run{R:cU aiB}(h:XG aiB R q ss st items Φ):wF aiB R q (mK ss aiB.C.env) st items Φ:=by with_unfolding_all exact h
@[irreducible] noncomputable def dP(aiB:GC)(R:cU aiB)(q:B)(a:eX)(st:St)(items:J It)(Φ:Fl->J It->St->Prop):Prop:=wF aiB R q (exec a aiB.C.env) st items Φ
theorem dP.mk{R:cU aiB}(run:wF aiB R q (exec a aiB.C.env) st items Φ):dP aiB R q a st items Φ:=by with_unfolding_all exact run
theorem dP.run{R:cU aiB}(h:dP aiB R q a st items Φ):wF aiB R q (exec a aiB.C.env) st items Φ:=by with_unfolding_all exact h
section
variable{R:cU aiB}
theorem jc(h:Φ .next items st):XG aiB R q [] st items Φ:=.mk λc fs K aiz gd lv ρ hf hg ht bX s0 s I=>ht .next items st bX s0 ρ s .next h (pH ..) I rfl
noncomputable abbrev kG(aiB:GC)(R:cU aiB)(q:B)(r:J eX)(Φ:Fl->J It->St->Prop):Fl->J It->St->Prop:=λfl bN aj=>match fl with| .next=>XG aiB R q r aj bN Φ|fl=>Φ fl bN aj
noncomputable abbrev kB(I:J It->St->Prop):Fl->J It->St->Prop:=λfl jP ce=>match fl with| .next| .cont=>I jP ce|_=>c8
noncomputable abbrev kM(I:J It->St->Prop)(Φ:Fl->J It->St->Prop):Fl->J It->St->Prop:=λfl jP ce=>match fl with| .next| .cont=>I jP ce| .brk=>Φ .next jP ce| .ret w=>Φ (.ret w) jP ce
theorem ig{r:J eX}(h:dP aiB R q a st items<|kG aiB R q r Φ):XG aiB R q (a::r) st items Φ:=.mk λc fs K aiz gd lv ρ hf hg ht bX s0 s I=>by
 refine D (execs_cons_wrap _ _)<|h.run c fs _ aiz gd lv ρ hf hg (λfl bN aj fg s1 aB s' aiC iM hp I' kH=>?_) bX s0 s I;cases fl with
 |next=>
  obtain rfl:aiC= .next:=kH;exact iM.run c fs K aiz gd lv aB hf hg (λfl bN aj fg s1 mh s' aiC G h2=>ht fl bN aj fg s1 mh s' aiC G<|pW hp h2) fg s1 s' I'
 |brk=>obtain rfl:aiC= .brk:=kH;exact ht .brk bN aj fg s1 aB s' _ iM hp I' rfl
 |cont=>obtain rfl:aiC= .cont:=kH;exact ht .cont bN aj fg s1 aB s' _ iM hp I' rfl
 |ret v=>obtain⟨x,rfl,hv⟩:=kH;exact ht (.ret v) bN aj fg s1 aB s' _ iM hp I' ⟨x,rfl,hv⟩
theorem dP.lift{Kx:Fl->St->Prop}(hq:aiB.b<=q)(h:X1 aiB.C aiB.m q a st Kx)(hk:∀fl aj,Kx fl aj->gK aj.hp aiB.cy/\Φ fl items aj):dP aiB R q a st items Φ:=.mk λc fs K aiz gd lv ρ hf hg ht bX s0 s I A hA=>
 jO (h (A.over c fs) s ρ _ (hf.1 A hA) I.rep λaB fl aiC aj s' hK N kH=>ht fl items aj bX s0 aB s' aiC (hk fl aj hK).2 N.pre (I.next N hq (hk fl aj hK).1) kH A hA)
theorem dP.mono{u3:Fl->J It->St->Prop}(h:dP aiB R q a st items u3)(hk:∀fl bN aj,u3 fl bN aj->Φ fl bN aj):dP aiB R q a st items Φ:=.mk λc fs K aiz gd lv ρ hf hg ht=>h.run c fs K aiz gd lv ρ hf hg λfl bN aj fg s1 aB s' aiC iM=>ht fl bN aj fg s1 aB s' aiC<|hk fl bN aj iM
theorem dP.if{t:bv}{orelse:J eX}(b:bb)(hq:aiB.b<=q)(G:TV aiB.C aiB.m t st b am)(hs:gK am.hp aiB.cy)(ht:b=true->XG aiB R q body am items Φ)(hf:b=false->XG aiB R q orelse am items Φ):dP aiB R q (.If t body orelse p) st items Φ:=.mk λc fs K aiz gd lv ρ jd hg eU bX s0 s I A hA=>by
 rw[arm_exec_If,jU,jA];refine jO<|wpAny_standAt ?_;simp only[jU,jA];refine jO<|G (A.over c fs) s ρ _ (jd.1 A hA) I.rep λaB s' N=>?_;have I':=I.next (N.toS (p:=q)) hq hs;have Qv:Qu aiB R q aB K c fs Φ:=λfl bN aj fg s1 mh s' aiC G h2=>eU fl bN aj fg s1 mh s' aiC G<|pW (N.toS (p:=q)).pre h2;cases b with
 |true=>exact(ht rfl).run c fs K aiz gd lv aB jd hg Qv bX s0 s' I' A hA
 |false=>exact(hf rfl).run c fs K aiz gd lv aB jd hg Qv bX s0 s' I' A hA
theorem Qw(jd:splitAtGen fs=aA)(hfg:fs.any Ek=false)(hgd:gd false=false)
  (h:aF (Md T) (A.over c fs) (eval e env) (λv s'=>∀(l:J ak) (k:Resume->dD h9) p,k (.send .none)=K .next->P (.susp v false l k c p fs) s') bq s) (bo:aO (env.scope.isCoroutine=false) a9) (hi:aO (interactive env=false) a9):
  SX T A c ((exec (.Expr (.Yield (some e) wA) pos) env).wrap K aiz gd lv) fs s P:=by
 refine D (exec_Expr env _ pos hi rfl) ?_
 have hy:∀v,yieldOut env v=yieldValue v:=λv=>by simp only[yieldOut,bo,Av,xo]
 show SX T A c (.at pos λH=>((eval e env >>= λv=>(nN wA >>= λH=>yieldOut env v)) >>= λx=>dropValue (.Yield (some e) wA) pos x).wrap K aiz gd lv) fs s P;simp only[hy];refine jO (m:=nN pos) (gd:=id) (lv:=id) (aiz:=.raise) (K:=λH=>_)<|wpAny_standAt ?_;rw[jU,jU,jA,jA];refine jO<|wpAny_mono h (λv s' h'=>(jO (m:=nN wA) (gd:=id) (lv:=id) (aiz:=.raise) (K:=λH=>_)<|wpAny_standAt ?_)) λH H x=>x.elim;show SX T A c (.yield v (gd false) _ _) fs s' P;exact D hgd<|W.X.s_yield T.prog T.w A c fs P s' v _ _ jd hfg λp=>h' _ _ p rfl
theorem dP.Cu{v:V}(hq:aiB.b<=q)(G:EV aiB.C aiB.m e st v am)(hv:v.bG (λH=>false)=true)(hs:gK am.hp aiB.cy)(iM:Φ .next rest am)(bo:aO (aiB.C.env.scope.isCoroutine=false) a9)(hi:aO (interactive aiB.C.env=false) a9):
  dP aiB R q (.Expr (.Yield (some e) wA) pos) st (.val v::rest) Φ:=.mk λc fs K aiz gd lv ρ jd hg ht bX s0 s I A hA=>by
 refine Qw jd.2.1 jd.2.2 hg (G (A.over c fs) s ρ _ (jd.1 A hA) I.rep λaB x s' N iv=>?_) bo hi;intro l k p hk;have I':=I.next (N.toS (p:=q)) hq hs;refine⟨Inv.own aiB R aB,I'.mv,I'.run,λb hb=>⟨I'.g7 b hb,I'.lives hb⟩,iv.wx hv,λbQ r A' fQ=>?_⟩;simp only[hk];exact ht .next rest am _ bQ aB bQ .next iM (N.toS (p:=q)).pre (I'.resume r) rfl A' fQ
theorem Inv.dropLast(I:Inv aiB R bX s0 ρ ⟨l,hp++[o]⟩ s)(hc:gC hp)(hl:∀x v,l'.lookup x=some v->l.lookup x=some v/\v.bG (λk=>decide (k<U hp))=true)(hb:aiB.b<=U hp):
  ∃fO a,ρ=fO++[a]/\Inv aiB R bX s0 fO ⟨l',hp⟩ s/\(o.bG (λH=>false)=true->o.Is aiB.C.w [] s.heap a)/\a∉fO/\ke aiB.sh a/\aiB.C.top.objs.size<=a/\U fO=U hp:=by
 have L:=I.rep.led;have hlen:U ρ=U hp+1:=by simp only[L.len,aK];rfl
 rcases rS ρ with rfl|⟨fO,a,rfl⟩
 ·exact nomatch hlen
 rw[rT] at*;have h0:U fO=U hp:=by rw[aK] at hlen;simpa using hlen
 have ko:=mG.mp L.nodup;have na:a∉fO:=λh=>ko.2.2 a h a (bx.mpr rfl) rfl;have atl:(fO++[a])[U hp]?=some a:=by simp only[←h0,dc<|aG _,fG];rfl
 have cf:∀k b,decide (k<U hp)=true->(fO++[a])[k]?=some b->fO[id k]?=some b:=λk b hk e=>by
  have hk:=dq hk;simp only[cA<|mf hk h0] at e;exact e
 have Cw:Mine.dO (fO++[a]) aiB.cy=Mine.dO fO aiB.cy:=by
  refine rU λp h=>?_
  have:=aiB.low p h;simp only[c6,c6,cA<|LG this h0 hb]
 have eo:gK hp aiB.cy:=λp h=>by
  have:=I.rH p h;have lt:=aiB.low p h;simp only[cA<|by exact oC ‹_› ‹_›] at this;exact this
 have bT:ke aiB.sh a:=λp h e=>by
  simp only[I.dO,Cw] at h;refine aH (fb.mp h) λr hr av=>?_
  subst av;have lt:=aiB.low r hr;refine na<|bL e ?_;simp only[c6,bO<|LG lt h0 hb];exact nF _
 refine⟨fO,a,rfl,⟨⟨?_,⟨h0,λk o' b e q=>?_,ko.1,λh=>L.fC<|bK.mpr<|.inl h,λb h=>L.low b<|bK.mpr<|.inl h,L.gT,L.top,L.os,L.drawn⟩⟩,I.dO.trans Cw,eo,hb,I.mv,I.run,I.fin,λb h=>I.g7 b<|h.imp (λh=>⟨bK.mpr<|.inl h.1,h.2⟩) id,λb h=>⟨λh'=>(I.ext b h).1<|bK.mpr<|.inl h',(I.ext b h).2⟩,I.z⟩,λho=>?_,na,bT,L.low a<|bK.mpr<|.inr<|bx.mpr rfl,h0⟩
 ·refine aH I.rep.loc λm bT hm=>⟨m,bT,λx v e=>(xA (hl x v e) λG h2=>aH (hm x v G) λy hy z=>?_)⟩
  have z2:=z.cf (aiC:=id) cf h2;rw[V.jC (aiC:=id) (λH H=>rfl) h2] at z2;exact⟨y,hy,z2⟩
 ·have hk:k<U hp:=(cJ.mp e).1;have z:=L.objs k o' b (by refine D (cA hk) ?_;exact e) (by refine D (cA<|mf hk h0) ?_;exact q);have hi:=hc o'<|dT e;have z2:=z.cf (aiC:=id) cf hi;rw[O.jC (aiC:=id) (λH H=>rfl) hi] at z2;exact z2
 ·have z:=L.objs (U hp) o a (by simp only[dc<|aG _,fG];rfl) atl;have z2:=z.cf (aB:=[]) (aiC:=id) (g:=λH=>false) (λH H h=>by exact aZ h dy) ho;rwa [O.jC (aiC:=id) (λH H=>rfl) ho] at z2
theorem dP.H0(hq:aiB.b<=q)(wG:q<=U hp)(G:EV aiB.C aiB.m e st (.ref<|U hp) ⟨l,hp++[o]⟩)(ho:o.bG (λH=>false)=true)(hc:gC hp)(hl:∀x v,l'.lookup x=some v->l.lookup x=some v/\v.bG (λk=>decide (k<U hp))=true)(hs:gK (hp++[o]) aiB.cy)
  (iM:Φ .next rest ⟨l',hp⟩) (bo:aO (aiB.C.env.scope.isCoroutine=false) a9) (hi:aO (interactive aiB.C.env=false) a9):
  dP aiB R q (.Expr (.Yield (some e) wA) pos) st (.obj o::rest) Φ:=.mk λc fs K aiz gd lv ρ jd hg ht bX s0 s I A hA=>by
 refine Qw jd.2.1 jd.2.2 hg (G (A.over c fs) s ρ _ (jd.1 A hA) I.rep λaB x s' N iv=>?_) bo hi;intro lv' k p hk;have I1:=I.next (N.toS (p:=q)) hq hs;refine pS (I1.dropLast hc hl<|by exact cY ‹_› ‹_›) λfO a bE I' io na bR=>?_
 subst bE;refine eh bR λbT rE h0=>aH iv λa' rq av=>?_
 clear iv;subst av;have:a'=a:=by
  rw[←h0,dc<|aG _,fG] at rq;exact(cj rq).symm
 subst this;have mem:a'∈fO++[a']:=bK.mpr<|.inr<|bx.mpr rfl;refine⟨Inv.own aiB R fO,I'.mv,I'.run,λb hb=>⟨I'.g7 b hb,I'.lives hb⟩,⟨a',rfl,I1.g7 a'<|.inl ⟨mem,bT⟩,rE,λh=>?_,io ho⟩,λbQ r A' fQ=>?_⟩
 ·rcases h with h|h|h
  ·exact na h.1
  ·exact I1.rep.led.fC<|h▸mem
  ·exact(I1.ext a' h).1 mem
 ·simp only[hk];refine ht .next rest _ _ bQ fO bQ .next iM ?_ (I'.resume r) rfl A' fQ
  have wH:=(N.toS (p:=q)).pre;refine xE wH λt ht=>?_
  have lY:U (ρ.take q)<=U fO:=by exact D gE<|Tx h0 wG
  exact J.prefix_of_prefix_length_le ⟨t,ht⟩ (gN ..) lY
end
noncomputable def kI(env:Env)(K:mL->dD h9)(aiz:ak->dD h9)(gd:bb->bb)(lv:J ak->J ak)(c:nQ)(p:cN):nP:=
 .ret (λr=>((match r with| .ok aiC=>(.pure aiC:dD mL)| .error e=>.raise e).onRaise λ(x:ak)=>do
    if(←field x 1)==jB then unsupported "frame.own-activation:exception-without-traceback"
    setFlight x env.frame).wrap K aiz gd lv) none (gd false) (lv []) c p []
theorem wE.loop(h:wE n m c fs)(hg:gd false=false)
  (hw:c'.weight=0) (hu:c'.cUnits=0):wE n m c' (kI env K aiz gd lv c p::fs):=by
 refine eh h λG h2 h3=>⟨λA hA=>?_,by simp[kI,splitAtGen,h2],by simp[kI,Ek,h3,hg]⟩
 refine eh (G A hA) λr1 r2 r3=>⟨r1,?_,?_⟩
 ·have:(A.over c'<|kI env K aiz gd lv c p::fs).depth=(A.over c fs).depth:=by
   simp only[Kr,eu,kI,Au,frameCount_cons,hw];exact LH
  exact D this r2
 ·have:(A.over c'<|kI env K aiz gd lv c p::fs).units=(A.over c fs).units:=by
   simp only[Kr,eu,kI,Au,hu];show A.units+(c.cUnits+unitsOf (fs.map Au))+0=A.units+unitsOf (fs.map Au)+c.cUnits;exact LH
  exact D this r3
noncomputable def cU.it(R:cU aiB)(own:J ax)(At:bn->Prop)(rI:∀h h',At h->(∀a∈own,∀o,h.get? a=some o->h'.get? a=some o)->bF h h'->At h'):cU aiB where
 ext a:=R.ext a\/a∈own
 eg:=R.eg
 Z s:=R.Z s/\At s.heap
 wD s s' r h:=⟨R.wD s s' (r.weak λb h=>.inl h) h.1,rI _ _ h.2 (λa ha o e=>r.keep a o (.inr ha) e) r.aX⟩
 HZ:=R.HZ
 ze:=R.ze
section
variable{R:cU aiB}
theorem Cy{aiC:mL}
  (h:SX T A c (K aiC) fs s P):SX T A c' (.pure<|.done aiC) (kI env K aiz gd lv c p::fs) s P:=
 W.X.s_pop T.prog T.w A c' fs P s (.ok aiC) _ rfl _ none (gd false) (lv []) c p [] h
theorem Qx
  (h:SX T A (.block [] env) (.pure<|.done .next) fs s P):SX T A c' (.pure<|.again<|.block [] env) fs s P:=
 xB T.prog T.w A c' fs P s (.block [] env) rfl h
end
section
variable{R:cU aiB}
theorem Inv.take{own:J ax}{rI}(I:Inv aiB R bX s0 ρ st s)(G:∀a∈own,a∉ρ/\a≠aiB.C.env.locals/\(bX a\/s0.heap.get? a=aA)/\∃o,s.heap.get? a=some o)(h:At s.heap):Inv aiB (R.it own At rI) bX s0 ρ st s:=
 ⟨I.rep,I.dO,I.rH,I.len,I.mv,I.run,I.fin,λa ha=>by
  rcases ha with ha|ha|ha|ha
  ·exact I.g7 a<|.inl ha
  ·exact I.g7 a<|.inr<|.inl ha
  ·exact I.g7 a<|.inr<|.inr ha
  ·exact(G a ha).2.2.1,λa ha=>by
  rcases ha with ha|ha
  ·exact I.ext a ha
  ·exact⟨(G a ha).1,(G a ha).2.1,(G a ha).2.2.2⟩,⟨I.z,h⟩⟩
theorem Inv.leave{own:J ax}{rI}(I:Inv aiB (R.it own At rI) bX s0 ρ st s):Inv aiB R bX s0 ρ st s:=
 ⟨I.rep,I.dO,I.rH,I.len,I.mv,I.run,I.fin,λa ha=>I.g7 a<|ha.imp id<|.imp id .inl,λa ha=>I.ext a<|.inl ha,I.z.1⟩
theorem Inv.Qy{own:J ax}{rI}(I:Inv aiB (R.it own At rI) bX s0 ρ st s)(u4:∀a∈own,¬R.ext a)(jp:∀a∈own,aiB.C.top.get? a=aA){h':bn}{t:B}
  (ext:jE own s.heap h') (aX:bF s.heap h'):Inv aiB R bX s0 ρ st {s with heap:=h',toks:=t}:=by
 have ho:∀a∈own,a∉ρ/\a≠aiB.C.env.locals/\aiB.C.top.get? a=aA:=λa ha=>⟨(I.ext a<|.inr ha).1,(I.ext a<|.inr ha).2.1,jp a ha⟩
 have rep:=I.rep.own ho ext aX t;have zf:=I.rH.at rep;rw[←I.dO] at zf;refine⟨rep,I.dO,I.rH,I.len,⟨λb o e hb hs=>?_,I.mv.aX.trans aX,λp hp=>(zf p hp).2.1,rep.led.top,I.mv.gens,I.mv.size,I.mv.os,I.mv.drawn⟩,I.run,I.fin,λa ha=>I.g7 a<|ha.imp id<|.imp id .inl,λa ha=>?_,R.wD s _ ⟨λb o hb e=>ext b o (λh=>u4 b h hb) e,aX,λp hp=>(zf p hp).2.1,rep.led.top,λi x H e=>e,λi x H h e=>aZ (jW.mp e).1<|iU.mpr h,aG _,rep.led.os,rep.led.drawn⟩ I.z.1⟩
 ·refine ext b o (λh=>?_)<|I.mv.keep b o e hb hs;rcases I.g7 b (.inr<|.inr<|.inr h) with h|h
  ·exact hb h
  ·rw[h] at e;cases e
 ·exact xK (I.ext a<|.inl ha) λG h2 o h3=>(⟨G,h2,o,ext a o (λh=>u4 a h ha) h3⟩)
theorem Inv.step{own:J ax}{Qz:bn->Prop}{rI ae8}(I:Inv aiB (R.it own At rI) bX s0 ρ st s)(u4:∀a∈own,¬R.ext a)(jp:∀a∈own,aiB.C.top.get? a=aA){h':bn}{t:B}
  (at':Qz h') (hex:∀a∈own,∃o,h'.get? a=some o) (ext:jE own s.heap h') (aX:bF s.heap h'):Inv aiB (R.it own Qz ae8) bX s0 ρ st {s with heap:=h',toks:=t}:=
 (I.Qy u4 jp ext aX).take (λa ha=>⟨(I.ext a<|.inr ha).1,(I.ext a<|.inr ha).2.1,I.g7 a<|.inr<|.inr<|.inr ha,hex a ha⟩) at'
theorem tf{m:dD α}{Q Q':α->ay->Prop}(h:aF (Md T) A m Q bq s)(hq:∀a s',Q a s'->Q' a s'):aF (Md T) A m Q' bq s:=wpAny_mono h hq λH H h=>h
section
variable{target:bv}{it:ak}
theorem Cz{th:J nP}
  (h:aF (Md T) (A.over (.forLoop target it body [] env) th) (oG it) (λr s'=>match r with
   |Option.none=>SX T A (.forLoop target it body [] env) (.pure<|.again<|.block [] env) th s' P
   |some x=>aF (Md T) (A.over (.forLoop target it body [] env) th) (xt target it x) (λH s1=>aF (Md T) (A.over (.forLoop target it body [] env) th) (assign target env x) (λH s2=>
     ∀(K2:mL->dD h9) (H2:ak->dD h9),(∀aiC,K2 aiC=match aiC with
      | .next| .cont=>.pure<|.again<|.forLoop target it body [] env
      | .brk=>.pure<|.done .next
      | .ret v=>.pure (.done (.ret v)))->SX T A (.forLoop target it body [] env) ((mK body env).wrap K2 H2 id id) th s2 P) bq s1) bq s') bq s):
  SX T A (.forLoop target it body [] env) (denote table<|.forLoop target it body [] env) th s P:=by
 show SX T A _ ((forTurn target it body [] env).onRaise (λx=>do noteFrame x env;theTreesLotGoes x)) th s P;unfold forTurn;rw[Ei,jU,jA];refine jO<|wpAny_standAt ?_;rw[jU,jA,Ei,jA];refine jO<|tf h λr s' hr=>?_;cases r with
 |none=>exact hr
 |some x=>
  show SX T A _ ((xt target it x >>= λH=>_).wrap _ _ _ _) th s' P;rw[jU,jA];refine jO<|tf hr λH s1 G=>?_;rw[jU,jA];refine jO<|tf G λH s2 h2=>?_;rw[jU,jA];refine h2 _ _ λaiC=>?_
  cases aiC<;>rfl
end
end
section
variable{R:cU aiB}
theorem eH.CA{p:B}{eY:J ax}(N:eH C p ρ s aj aB s')(h:aB.take p<+:eY):ρ.take p<+:eY:=pW N.pre h
theorem dP.for{target iter:bv}{items:J V}{aiy:St->Prop}{lo:B}{out:J It}(r:B)(L:B->J It->St->Prop)
  (G:gw aiB.C aiB.m target iter st am items aiy lo) (wo:gK am.hp aiB.cy) (zg:aiB.b<=q) (h0:L 0 out am) (hD:∀i bN aj,i<=U items->L i bN aj->aiy aj) (kr:lo<=r) (hq:q<=r)
  (iY:∀(R':cU aiB) i aiA bN aj,items[i]?=some aiA->L i bN aj->∃ba,cW aiB.C aiB.m target aiA aj ba/\gK ba.hp aiB.cy/\XG aiB R' r body ba bN (kM (L<|i+1) Φ))
  (sy:∀bN aj,L (U items) bN aj->Φ .next bN aj)
  (hs:aO (∀x,pL iter aiB.C.env x=pure x) aI._auto_1):
  dP aiB R q (.For target iter body [] pos) st out Φ:=.mk λc fs K aiz gd lv ρ jd hg eU bX s0 s I A hA=>by
 rw[exec_For];rw[jU,jA];refine jO<|wpAny_standAt ?_;simp only[hs];rw[jU,jA];refine jO<|tf (G (A.over c fs) s ρ (λit s2=>SX aiB.C.toWd A c ((runOwn (.forLoop target it body [] aiB.C.env) aiB.C.env).wrap K aiz gd lv) fs s2<|wB aiB.C.toWd aiB.n aiB.γ aiB.g aiB.sh out bX s0) (jd.1 A hA) I.rep λaC it own At s2 uB cO dj iZ=>?_) λx s1 h=>?_
 rotate_left
 ·show SX aiB.C.toWd A c ((nN iter.pos >>= λH=>holding [x] (oH x) >>= λH=>_).wrap _ _ _ _) fs s1 _;rw[jU,jA];refine jO<|wpAny_standAt ?_;rw[jU,jA];exact jO<|wpAny_holding h
 have hit:=uB r kr;have qq:aiB.b<=U am.hp:=(I.next iZ.toS zg wo).len;have I2:=I.next (q:=q) iZ.toS zg wo;have jp:∀a∈own,aiB.C.top.get? a=aA:=λa ha=>by
  cases e:aiB.C.top.get? a with
  |none=>rfl
  |some o=>have:=I.rep.led.top a o e;rw[(dj a ha).2] at this;cases this
 have lJ:∀a∈own,a≠aiB.C.env.locals:=λa ha e=>by
  subst e;refine aH I.rep.loc λm cq H=>eR cq λoL H H hL H=>?_
  rw[(dj _ ha).2] at hL;cases hL
 have u4:∀a∈own,¬R.ext a:=λa ha h=>by
  refine xK (I.ext a h) λH H o h3=>?_
  rw[(dj a ha).2] at h3;cases h3
 have Ii:∀{i:B} {aB:J ax} {aj:St} {fg s1 s'},Inv aiB (R.it own (At i)<|hit.1 i) fg s1 aB aj s'->∀a∈own,a∉aB/\a≠aiB.C.env.locals/\aiB.C.top.get? a=aA:=λI' a ha=>
  ⟨(I'.ext a<|.inr ha).1,lJ a ha,jp a ha⟩
 refine W.X.s_call aiB.C.prog aiB.C.w A c fs _ s2 (.forLoop target it body [] aiB.C.env) aA (gd false) (lv []) _ λp=>?_
 have rJ:wE aiB.n aiB.m (.forLoop target it body [] aiB.C.env) (kI aiB.C.env K aiz gd lv c p::fs):=jd.loop hg rfl rfl;have main:∀(k i:B) (bN:J It) (aj:St) (fg:ax->Prop) (s1 s':ay) (aB:J ax),i+k=U items->L i bN aj->ρ.take q<+:aB->aC.take r<+:aB->Inv aiB (R.it own (At i)<|hit.1 i) fg s1 aB aj s'->
   aiB.Seg bN fg s1 (.forLoop target it body [] aiB.C.env) (denote table<|.forLoop target it body [] aiB.C.env) (kI aiB.C.env K aiz gd lv c p::fs) s':=by
  intro k
  induction k with
  |zero=>
   intro i bN aj fg s1 s' aB hk hL rK u5 I' A' fQ
   refine Cz (tf (hit.2.2 i (A'.over _ _) s' aB aj (λs3=>SX aiB.C.toWd A' (.forLoop target it body [] aiB.C.env) (.pure (.again (.block [] aiB.C.env))) (kI aiB.C.env K aiz gd lv c p::fs) s3 (wB aiB.C.toWd aiB.n aiB.γ aiB.g aiB.sh bN fg s1)) (λH H=>c8)
     (rJ.1 A' fQ) I'.rep u5 (hD i bN aj (TB hk) hL) I'.z.2 (Ii I') ?_ ?_) λrr s3 h=>?_)
   ·intro v hv;have:=(cJ.mp hv).1;exact(TA hk this).elim
   ·intro hn h' t ext aX;have Ix:=Inv.Qy (t:=t) I' u4 jp ext aX;have hi:i=U items:=by assumption
    subst hi;exact Qx<|Cy<|eU .next bN aj fg s1 aB _ .next (sy bN aj hL) rK Ix rfl A' fQ
   ·cases rr with
    |none=>exact h
    |some y=>exact tf h λH H h=>h.elim
  |succ k ih=>
   intro i bN aj fg s1 s' aB hk hL rK u5 I' A' fQ
   refine Cz (tf (hit.2.2 i (A'.over _ _) s' aB aj (λH=>c8) (λy s3=>aF (Md aiB.C.toWd) (A'.over (.forLoop target it body [] aiB.C.env) (kI aiB.C.env K aiz gd lv c p::fs)) (assign target aiB.C.env y) (λH s2=>
     ∀(K2:mL->dD h9) (H2:ak->dD h9),(∀aiC,K2 aiC=match aiC with
      | .next| .cont=>.pure<|.again<|.forLoop target it body [] aiB.C.env
      | .brk=>.pure<|.done .next
      | .ret v=>.pure (.done (.ret v)))->SX aiB.C.toWd A' (.forLoop target it body [] aiB.C.env) ((mK body aiB.C.env).wrap K2 H2 id id) (kI aiB.C.env K aiz gd lv c p::fs) s2 (wB aiB.C.toWd aiB.n aiB.γ aiB.g aiB.sh bN fg s1)) bq s3)
     (rJ.1 A' fQ) I'.rep u5 (hD i bN aj (Tz hk) hL) I'.z.2 (Ii I') ?_ ?_) λrr s3 h=>?_)
   ·intro aiA hu y h' t at' ext aX iy;refine cP (iY (R.it own (At (i+1)) (hit.1 (i+1))) i aiA bN aj hu hL) λba ye H1 hB=>?_
    have I3:Inv aiB (R.it own (At<|i+1)<|hit.1<|i+1) fg s1 aB aj {s' with heap:=h',toks:=t}:=Inv.step I' u4 jp at' (hit.2.1 (i+1) h' at') ext aX;refine ye (A'.over _ _) _ aB y _ (rJ.1 A' fQ) I3.rep iy λdp s3 N3 K2 H2 rd=>?_
    have I4:=I3.next (q:=q) N3.toS zg H1;refine hB.run (.forLoop target it body [] aiB.C.env) (kI aiB.C.env K aiz gd lv c p::fs) K2 H2 id id dp rJ rfl (λfl jP hO u6 s4 eY s5 aiC iM zh I5 kH=>?_) fg s1 s3 I4 A' fQ;have pq:ρ.take q<+:eY:=pW rK<|xk (w8 hq)<|(N3.toS (p:=r)).CA zh;have pr:aC.take r<+:eY:=pW u5<|(N3.toS (p:=r)).CA zh;intro A5 u7;refine D (rd _) ?_
    cases fl with
    |next=>obtain rfl:aiC= .next:=kH;exact xB _ _ _ _ _ _ _ _ rfl<|ih (i+1) jP hO u6 s4 s5 eY (xO hk) iM pq pr I5 A5 u7
    |cont=>obtain rfl:aiC= .cont:=kH;exact xB _ _ _ _ _ _ _ _ rfl<|ih (i+1) jP hO u6 s4 s5 eY (xO hk) iM pq pr I5 A5 u7
    |brk=>obtain rfl:aiC= .brk:=kH;exact Cy<|eU .next jP hO u6 s4 eY s5 .next iM pq I5.leave rfl A5 u7
    |ret w=>obtain⟨z,rfl,hz⟩:=kH;exact Cy<|eU (.ret w) jP hO u6 s4 eY s5 _ iM pq I5.leave ⟨z,rfl,hz⟩ A5 u7
   ·intro hn;have:=ou.mp hn;exact(Ty hk this).elim
   ·cases rr with
    |none=>exact h.elim
    |some y=>exact h
 exact main (U items) 0 out am bX s0 s2 aC (tR _ _) h0 iZ.toS.pre (pH ..) (I2.take (λa ha=>⟨(dj a ha).1,lJ a ha,I.new (dj a ha).2,hit.2.1 0 s2.heap cO a ha⟩) cO) A hA
end
noncomputable def cU.feed(aiB:GC)(n:B)(I:ax)(N:B)(hN:aiB.γ<N)(hG:∀i,N<=i->aiB.g i)(l:J It)(own:ax->Prop):cU aiB where
 ext:=own
 eg i:=N<=i
 Z s:=N<=s.gens.size/\gq aiB.C.toWd n I aiB.sh (λi=>N<=i) l own s
 wD s s' r h:=⟨cY h.1 r.size,h.2.rel r⟩
 HZ h:=aZ h<|vI.mpr hN
 ze:=hG
theorem Rep.add{a:ax}(R:Rep C ρ st s)(ho:o.Is C.w [] s.heap a)(G:a∉ρ)(h2:a≠C.env.locals)(h3:C.top.objs.size<=a):Rep C (ρ++[a]) ⟨st.loc,st.hp++[o]⟩ s:=by
 have L:=R.led;refine⟨?_,⟨by simp only[aK,aK,L.len];rfl,λk o' b e q=>?_,?_,λh=>?_,λb h=>?_,L.gT,L.top,L.os,L.drawn⟩⟩
 ·refine aH R.loc λm bT hm=>?_
  exact⟨m,bT,λx v e=>by obtain⟨y,hy,q⟩:=hm x v e;exact⟨y,hy,q.mono (gN ..)<|bF.refl _⟩⟩
 ·by_cases hk:k<U st.hp
  ·have e':st.hp[k]?=some o':=by exact bL e ((cA hk).symm)
   have q':ρ[k]?=some b:=by simp only[←q];exact(cA<|by refine D L.len ?_;exact hk).symm
   exact(L.objs k o' b e' q').mono (gN ..) (bF.refl _) rfl
  ·have bJ:k<U (st.hp++[o]):=(cJ.mp e).1;rw[aK] at bJ;have eS:k=U st.hp:=by simp at bJ;exact Fd bJ hk
   subst eS;have e2:(st.hp++[o])[U st.hp]?=some o':=e;rw[dc<|aG _,fG] at e2;simp only[←L.len,dc<|aG _,fG] at q
   (have:=cj e2;clear e2;subst this);(have:=cj q;clear q;subst this)
   exact ho.mono xh (bF.refl _) rfl
 ·simp only[mG];exact⟨L.nodup,by simp,λx hx y hy e=>by rw[bx] at hy;subst hy;subst e;exact G hx⟩
 ·rcases bK.mp h with h|h
  ·exact L.fC h
  ·exact h2 (bx.mp h).symm
 ·rcases bK.mp h with h|h
  ·exact L.low b h
  ·simp only[bx.mp h];exact h3
section
variable{R:cU aiB}{own:ax->Prop}{aC:J ax}{l l':J It}{N:B}{I0:ax}{hN:aiB.γ<N}{hG:∀i,N<=i->aiB.g i}
theorem ae9{a:ax}(h:¬ke sh a):∃p∈sh,p.1=a:=by
 unfold ke at h;simp only[K0,xH] at h;obtain⟨p,hp,e⟩:=h;exact⟨p,hp,e⟩
theorem Inv.made(I:Inv aiB (cU.nil aiB) bX s0 ρ st s)(N1:y9 aiB.C ρ s am aC s1)(eo:gK am.hp aiB.cy)(hN:aiB.γ<s.gens.size)(hG:∀i,s.gens.size<=i->aiB.g i)
  (F:gq aiB.C.toWd n I0 (Mine.dO aC aiB.cy) (λi=>s.gens.size<=i) l own s1) (dj:∀b,own b->b∉aC/\b≠aiB.C.env.locals/\s.heap.get? b=aA/\∃o,s1.heap.get? b=some o) (ka:s.gens.size<=s1.gens.size):
  Inv aiB (cU.feed aiB n I0 s.gens.size hN hG l own) bX s0 aC am s1:=by
 have lY:aiB.b<=U ρ:=by simp only[I.rep.led.len];exact I.len
 have pre:ρ.take aiB.b<+:aC:=(pH ..).trans N1.pre;have e:=Qt (q:=aiB.b) aiB.low lY (aG _) pre;have at':=eo.at N1.rep;rw[←e,←I.dO] at at';have old:∀b o,s0.heap.get? b=some o->¬bX b->ke aiB.sh b->b∉ρ/\b≠aiB.C.env.locals:=λb o e hb hs=>by
  refine⟨λh=>?_,λh=>?_⟩
  ·rcases I.g7 b (.inl ⟨h,hs⟩) with h|h
   ·exact hb h
   ·simp only[h] at e;exact nomatch e
  ·rcases I.g7 b (.inr<|.inl h) with h|h
   ·exact hb h
   ·simp only[h] at e;exact nomatch e
 refine⟨N1.rep,I.dO.trans e,eo,?_,⟨λb o e hb hs=>?_,I.mv.aX.trans N1.aX,λp hp=>(at' p hp).2.1,N1.rep.led.top,λi x hi e=>N1.gens i x<|I.mv.gens i x hi e,cY I.mv.size ka,N1.rep.led.os,N1.rep.led.drawn⟩,N1.gens _ _ I.run,λi x G h2 h3 e=>?_,λa ha=>?_,λa ha=>?_,⟨ka,?_⟩⟩
 ·have G:=J2 N1.pre;simp only[←N1.rep.led.len];exact cY ‹_› ‹_›
 ·have:=old b o e hb hs;exact N1.keep b o (I.mv.keep b o e hb hs) this.1 this.2
 ·have hi:i<s.gens.size:=tN h3;have e1:s.gens[i]?=some s.gens[i]:=ia hi;simp only[N1.gens i _ e1] at e;(have:=cj e;clear e;subst this);exact I.fin i _ G h2 (λh=>h) e1
 ·rcases ha with ⟨h,hs⟩|h|h
  ·by_cases h':a∈ρ
   ·exact I.g7 a<|.inl ⟨h',hs⟩
   ·exact I.new<|N1.fresh a h h'
  ·exact I.g7 a<|.inr<|.inl h
  ·exact I.new (dj a h).2.2.1
 ·exact⟨(dj a ha).1,(dj a ha).2.1,(dj a ha).2.2.2⟩
 ·simp only[I.dO,e];exact F
theorem Inv.moved(I:Inv aiB (cU.feed aiB n I0 N hN hG l own) bX s0 ρ st s)(m:Mv aiB.C.toWd aiB.sh (λi=>N<=i) own s bQ):
  Rep aiB.C ρ st bQ/\Mv aiB.C.toWd aiB.sh aiB.g bX s0 bQ/\bQ.gens[aiB.γ]?=some .running/\∀(i:B) (x:de),aiB.g i->i≠aiB.γ->¬N<=i->bQ.gens[i]?=some x->x= .finished:=by
 have L:=I.rep.led;have nL:ke aiB.sh aiB.C.env.locals:=λp hp e=>L.fC<|e▸(I.at p hp).1;have eK:∀b,own b->b∉ρ/\b≠aiB.C.env.locals:=λb h=>⟨(I.ext b h).1,(I.ext b h).2.1⟩
 refine⟨⟨?_,⟨L.len,λk o a e q=>?_,L.nodup,L.fC,L.low,L.gT,m.top,m.os,m.drawn⟩⟩,⟨λb o e hb hs=>m.keep b o (I.mv.keep b o e hb hs) (λh=>?_) hs,I.mv.aX.trans m.aX,m.sh,m.top,λi x hi e=>m.gens i x (λh=>hi (hG i h)) (I.mv.gens i x hi e),cY I.mv.size m.size,m.os,m.drawn⟩,
  m.gens _ _ (vI.mpr hN) I.run,λi x G h2 h3 e=>?_⟩
 ·refine aH I.rep.loc λmm bT hm=>?_
  exact⟨mm,mj bT λo e=>m.keep _ o e (λh=>(eK _ h).2 rfl) nL,λx v e=>by obtain⟨y,hy,q⟩:=hm x v e;exact⟨y,hy,q.mono (bP _) m.aX⟩⟩
 ·have z:=L.objs k o a e q
  by_cases hs:ke aiB.sh a
  ·exact aH z.there λx hx H=>(z.mono (bP _) m.aX<|(m.keep a x hx (λh=>(eK _ h).1<|dT q) hs).trans hx.symm)
  ·refine aH (ae9 hs) λp hp av=>?_
   subst av;refine E1 (I.at p hp) λH H j s9 kb=>?_
   rw[pV L.nodup s9 q,e] at kb
   (have:=cj kb;clear kb;subst this)
   exact dv (m.sh p hp) λvs k z1 z2=>(⟨vs,k,z1,z2.mono xh<|bF.refl _⟩)
 ·rcases I.g7 b (.inr<|.inr h) with h|h
  ·exact hb h
  ·simp only[h] at e;exact nomatch e
 ·have hi:i<s.gens.size:=by
   have:=I.z.1;exact oC (tN h3) this
  have e1:s.gens[i]?=some s.gens[i]:=ia hi;simp only[m.gens i _ h3 e1] at e;(have:=cj e;clear e;subst this);exact I.fin i _ G h2 h3 e1
theorem Inv.fed(I:Inv aiB (cU.feed aiB n I0 N hN hG l own) bX s0 ρ st s)(m:Mv aiB.C.toWd aiB.sh (λi=>N<=i) own s bQ)(fin:∀(i:B) (x:de),N<=i->bQ.gens[i]?=some x->x= .finished):Inv aiB (cU.nil aiB) bX s0 ρ st bQ:=by
 refine gg (I.moved m) λG h2 h3 h4=>⟨G,I.dO,I.rH,I.len,h2,h3,λi x a b H e=>?_,λa ha=>I.g7 a<|ha.imp id<|.imp id λh=>h.elim,λa h=>h.elim,trivial⟩
 by_cases hi:N<=i
 ·exact fin i x hi e
 ·exact h4 i x a b hi e
theorem Inv.given{a:ax}(I:Inv aiB (cU.feed aiB n I0 N hN hG (.obj o::l) own) bX s0 ρ st s)(m:Mv aiB.C.toWd aiB.sh (λi=>N<=i) own s bQ)
  (dj:∀b,eK b->(own b\/s.heap.get? b=aA)/\∃o,bQ.heap.get? b=some o) (ha:own a\/s.heap.get? a=aA) (rE:aiB.C.top.objs.size<=a) (mX:¬eK a) (ho:o.Is aiB.C.w [] bQ.heap a) (F:gq aiB.C.toWd n I0 aiB.sh (λi=>N<=i) l eK bQ):
  Inv aiB (cU.feed aiB n I0 N hN hG l eK) bX s0 (ρ++[a]) ⟨st.loc,st.hp++[o]⟩ bQ:=by
 refine gg (I.moved m) λG h2 h3 h4=>?_
 have out:∀b,own b\/s.heap.get? b=aA->b∉ρ/\b≠aiB.C.env.locals:=λb h=>by
  rcases h with h|h
  ·exact⟨(I.ext b h).1,(I.ext b h).2.1⟩
  ·refine⟨λhm=>?_,λe=>?_⟩
   ·refine mO (I.rep.toF.mem hm) λH H ob H H H h3 H=>?_
    simp only[h] at h3;exact nomatch h3
   ·subst e;refine aH I.rep.loc λmm cq H=>eR cq λoL H H hL H=>?_
    simp only[h] at hL;exact nomatch hL
 have QA:∀b,own b\/s.heap.get? b=aA->bX b\/s0.heap.get? b=aA:=λb h=>by
  rcases h with h|h
  ·exact I.g7 b<|.inr<|.inr h
  ·exact I.new h
 have Cw:Mine.dO (ρ++[a]) aiB.cy=Mine.dO ρ aiB.cy:=by
  refine rU λp h=>?_
  have:=aiB.low p h;have hl:=I.len;rw[←I.rep.led.len] at hl;simp only[c6,c6,cA<|by exact oC ‹_› ‹_›]
 refine⟨G.add ho (out a ha).1 (out a ha).2 rE,I.dO.trans Cw.symm,λp h=>?_,?_,h2,h3,h4,λb hb=>?_,λb hb=>?_,⟨cY I.z.1 m.size,F⟩⟩
 ·have:=I.rH p h;have lt:=aiB.low p h;have hl:=I.len;refine⟨?_,this.2⟩;refine D (cA<|by exact oC ‹_› ‹_›) ?_;exact this.1
 ·
  simp only[aK];exact cY I.len<|dZ _ _
 ·rcases hb with ⟨h,hs⟩|h|h
  ·rcases bK.mp h with h|h
   ·exact I.g7 b<|.inl ⟨h,hs⟩
   ·exact D (bx.mp h)<|QA a ha
  ·exact I.g7 b<|.inr<|.inl h
  ·exact QA b (dj b h).1
 ·have:=out b (dj b hb).1;refine⟨λh=>?_,this.2,(dj b hb).2⟩;rcases bK.mp h with h|h
  ·exact this.1 h
  ·simp only[bx.mp h] at hb;exact mX hb
end
theorem QB{a b:bD de}(h:∀(i:B) (x:de),a[i]?=some x->b[i]?=some x):a.size<=b.size:=by
 by_cases hl:b.size<a.size
 ·have e:=h b.size _<|ia hl;have:b.size<b.size:=(jW.mp e).1;exact aZ ‹_› (jg _)
 ·exact iS ‹_›
theorem dP.afa{x:ao}{tp:cN}{iter:bv}{objs:J O}{out:J It}{ty:dm}(r:B)(L:B->J It->St->Prop)(hup:∀i,aiB.γ<=i->aiB.g i)(ku:wu ty)
  (G:po aiB.C aiB.m iter st ty aiB.cy (objs.map .obj) am) (zg:aiB.b<=q) (h0:L 0 out am) (hq:q<=r)
  (iY:∀(R':cU aiB) i o bN aj,objs[i]?=some o->L i bN aj->∃ba,cW aiB.C aiB.m (.Name x tp) (.ref<|U aj.hp) ⟨aj.loc,aj.hp++[o]⟩ ba/\gK ba.hp aiB.cy/\XG aiB R' r body ba bN (kB<|L<|i+1))
  (sy:∀bN aj,L (U objs) bN aj->Φ .next bN aj)
  (hs:aO (∀x,pL iter aiB.C.env x=pure x) aI._auto_1):
  dP aiB (cU.nil aiB) q (.For (.Name x tp) iter body [] pos) st out Φ:=.mk λc fs K aiz gd lv ρ jd hg eU bX s0 s I A hA=>by
 have hN:aiB.γ<s.gens.size:=(jW.mp I.run).1;have hG:∀i,s.gens.size<=i->aiB.g i:=λi h=>hup i<|Fc hN h;rw[exec_For];rw[jU,jA];refine jO<|wpAny_standAt ?_;simp only[hs];rw[jU,jA];refine jO<|tf (G.run (A.over c fs) s ρ (λz s2=>∃I0,z= .ref I0/\SX aiB.C.toWd A c ((runOwn (.forLoop (.Name x tp) z body [] aiB.C.env) aiB.C.env).wrap K aiz gd lv) fs s2 (wB aiB.C.toWd aiB.n aiB.γ aiB.g aiB.sh out bX s0)/\s2.heap.get? I0≠aA/\s2.TypeIs (.ref I0) ty) (jd.1 A hA) I.rep λaC I0 own s2 iZ hT F dj=>?_) λz s1 h=>?_
 rotate_left
 ·refine ug h λI0 av h hex hT=>?_
  subst av;show SX aiB.C.toWd A c ((nN iter.pos >>= λH=>holding [.ref I0] (oH<|.ref I0) >>= λH=>_).wrap _ _ _ _) fs s1 _;rw[jU,jA];refine jO<|wpAny_standAt ?_;rw[jU,jA];exact jO<|wpAny_holding<|ku.self _ _ _ _ _ _ _ hex hT h
 refine⟨I0,rfl,?_,by obtain⟨o,h,_⟩:=hT;rw[h];simp,hT⟩;have ka:=QB iZ.gens;have I2:=I.made iZ G.sh hN hG F dj ka;refine W.X.s_call aiB.C.prog aiB.C.w A c fs _ s2 (.forLoop (.Name x tp) (.ref I0) body [] aiB.C.env) aA (gd false) (lv []) _ λp=>?_
 have rJ:wE aiB.n aiB.m (.forLoop (.Name x tp) (.ref I0) body [] aiB.C.env) (kI aiB.C.env K aiz gd lv c p::fs):=jd.loop hg rfl rfl;have main:∀(k i:B) (bN:J It) (aj:St) (own fg:ax->Prop) (s1 s':ay) (aB:J ax),i+k=U objs->L i bN aj->ρ.take q<+:aB->aC.take r<+:aB->Inv aiB (cU.feed aiB aiB.m I0 s.gens.size hN hG ((objs.drop i).map .obj) own) fg s1 aB aj s'->
   aiB.Seg bN fg s1 (.forLoop (.Name x tp) (.ref I0) body [] aiB.C.env) (denote table<|.forLoop (.Name x tp) (.ref I0) body [] aiB.C.env) (kI aiB.C.env K aiz gd lv c p::fs) s':=by
  intro k
  induction k with
  |zero=>
   intro i bN aj own fg s1 s' aB hk hL rK u5 I' A' fQ;have hi:i=U objs:=by assumption
   subst hi;have ny:Inv aiB (cU.feed aiB aiB.m I0 s.gens.size hN hG [] own) fg s1 aB aj s':=by
    have:=I';rw[vD] at this;exact this
   have F':=ny.z.2;have H3:Rel aiB.C.toWd aiB.sh (λi=>s.gens.size<=i) own s' s':=⟨λH H H e=>e,bF.refl _,λp hp=>(ny.at p hp).2.1,ny.rep.led.top,λH H H e=>e,λi x H h e=>aZ (jW.mp e).1<|iU.mpr h,aG _,ny.rep.led.os,ny.rep.led.drawn⟩
   exact Cz<|F' s' H3 (A'.over _ _) _ _ (rJ.1 A' fQ) λs3 m fin=>(Qx<|Cy<|eU .next bN aj fg s1 aB _ .next (sy bN aj hL) rK (ny.fed m fin) rfl A' fQ)
  |succ k ih=>
   intro i bN aj own fg s1 s' aB hk hL rK u5 I' A' fQ;have lt:i<U objs:=by exact LE hk
   have hu:objs[i]?=some objs[i]:=bO lt;have ny:Inv aiB (cU.feed aiB aiB.m I0 s.gens.size hN hG (.obj objs[i]::(objs.drop<|i+1).map .obj) own) fg s1 aB aj s':=by
    have:=I';rw[vy lt,eu] at this;exact this
   have F':=ny.z.2;have H3:Rel aiB.C.toWd aiB.sh (λi=>s.gens.size<=i) own s' s':=⟨λH H H e=>e,bF.refl _,λp hp=>(ny.at p hp).2.1,ny.rep.led.top,λH H H e=>e,λi x H h e=>aZ (jW.mp e).1<|iU.mpr h,aG _,ny.rep.led.os,ny.rep.led.drawn⟩
   refine Cz<|F' s' H3 (A'.over _ _) _ _ (rJ.1 A' fQ) λz s3 eK m yd hz F2=>(uh hz λa av ha rE mX ho=>?_);clear hz;subst av;have I3:=ny.given m yd ha rE mX ho F2;obtain⟨ba,ye,H1,hB⟩:=iY _ i objs[i] bN aj hu hL;refine wpAny_pure ?_
   have iv:V.Is (aB++[a]) s3.heap (.ref<|U aj.hp) (.ref a):=⟨a,by refine bL I'.rep.led.len<|D (dc<|aG _)<|D (fG _) ?_;rfl,rfl⟩
   refine ye (A'.over _ _) s3 (aB++[a]) _ _ (rJ.1 A' fQ) I3.rep iv λdp s4 N3 K2 H2 rd=>?_
   have I4:=I3.next (q:=q) N3.toS zg H1;refine hB.run _ (kI aiB.C.env K aiz gd lv c p::fs) K2 H2 id id dp rJ rfl (λfl jP hO u6 s4 eY s5 aiC iM zh I5 kH=>?_) fg s1 s4 I4 A' fQ;have pq:ρ.take q<+:eY:=pW (rK.trans<|gN ..)<|xk (w8 hq)<|(N3.toS (p:=r)).CA zh;have pr:aC.take r<+:eY:=pW (u5.trans<|gN ..)<|(N3.toS (p:=r)).CA zh;intro A5 u7;refine D (rd _) ?_
   cases fl with
   |next=>obtain rfl:aiC= .next:=kH;exact xB _ _ _ _ _ _ _ _ rfl<|ih (i+1) jP hO _ u6 s4 s5 eY (xO hk) iM pq pr I5 A5 u7
   |cont=>obtain rfl:aiC= .cont:=kH;exact xB _ _ _ _ _ _ _ _ rfl<|ih (i+1) jP hO _ u6 s4 s5 eY (xO hk) iM pq pr I5 A5 u7
   |brk=>exact iM.elim
   |ret w=>exact iM.elim
 exact main (U objs) 0 out am own bX s0 s2 aC (by exact tR _ _) h0 ((pH ..).trans iZ.pre) (pH ..) (by refine D mH ?_;exact I2) A hA
theorem XG.conv{R:cU aiB}{ss:J eX}{items:J It}{aj:St}(cv:jn q st aj)(hq:aiB.b<=q)(wG:q<=U st.hp)(hs:gK aj.hp aiB.cy)(h:XG aiB R q ss aj items Φ):XG aiB R q ss st items Φ:=.mk λc fs K aiz gd lv ρ jd hg eU bX s0 s I=>by
 exact aH (eH.conv I.rep wG cv) λbh N H=>(h.run c fs K aiz gd lv bh jd hg (λfl bN aj fg s1 aB s' aiC G h2=>eU fl bN aj fg s1 aB s' aiC G<|pW N.pre h2) bX s0 s<|I.next N hq hs)
theorem XG.norm{R:cU aiB}{aY:J O}(hl:SubL l' st.loc)(hh:st.hp=aY)(h:XG aiB R q ss ⟨l',aY⟩ items Φ)(hq:aiB.b<=q)(wG:q<=U aY)(hs:gK aY aiB.cy):XG aiB R q ss st items Φ:=by
 obtain⟨l,hp⟩:=st;cases hh;exact XG.conv (.loc hl) hq wG hs h
theorem QC:wu "generator" where
 HL:=by rw[typeLookup_type,builtinLookup_eq_fast];kernel_rfl
 HM:=by rw[typeLookup_type,builtinLookup_eq_fast];kernel_rfl
 n1:=by decide
 n2:=by decide
 self:=λprog w A s I Q E hI hT hQ=>by
  exact wpAny_pyIter_slot hT slot_gen_iter<|wpAny_call_entry slot_gen_iter hT entry_gen_iter (wpAny_pure ⟨_,rfl,"generator",_,hT,slot_gen_next.lookup,hQ⟩)<|args_gen_iter _
theorem cn.afb(h:cn (m+1) A):cn m (A.over (.func body env) []):=by
 refine eh h λG h2 h3=>⟨G,?_,?_⟩
 ·
  exact Tu h2
 ·
  exact Tt h3
noncomputable def Done(fl:Fl)(bN:J It)(st:St):Prop:=bN=[]/\(fl= .next\/fl= .ret .none)
theorem afc(hn:aiB.n=aiB.m+1)(h:XG aiB (cU.nil aiB) q body st items Done)(I:Inv aiB (cU.nil aiB) bX s0 ρ st s):aiB.Seg items bX s0 (.func body aiB.C.env) (denote table<|.func body aiB.C.env) [] s:=by
 intro A hA;show SX aiB.C.toWd A _ (.point [] λH=>((mK body aiB.C.env).onRaise (leaving aiB.C.env)) >>= _) [] s _;have z:∀{k:fF->dD h9} {P:End->ay->Prop},SX aiB.C.toWd A (.func body aiB.C.env) (k ()) [] s P->SX aiB.C.toWd A (.func body aiB.C.env) (.point [] k) [] s P:=λ{k P} h=>
  jO (m:=point) (aiz:=.raise) (gd:=id) (lv:=λH=>[]) (K:=k) (wpAny_point h)
 refine z ?_
 rw[Ei,jU,jA];refine h.run _ [] _ _ _ _ ρ ⟨λA hA=>cn.afb (by rw[hn] at hA;exact hA),rfl,rfl⟩ rfl (λfl bN aj fg s1 aB s' aiC hD hp I' kH A' fQ=>?_) bX s0 s I A hA;obtain⟨rfl,hf⟩:=hD;have hv:(match aiC with| .ret v=>v|_=>jB)=jB:=by
  rcases hf with rfl|rfl
  ·obtain rfl:aiC= .next:=kH;rfl
  ·obtain⟨x,rfl,hx⟩:=kH;exact hx
 refine W.X.s_end aiB.C.prog aiB.C.w A' _ _ s' (.ok<|.ret .none) _ ?_ ⟨rfl,I'.mv,λi x G h2 e=>I'.fin i x G h2 (λh=>h) e⟩
 show dD.wrap _ _ _ _ (dD.pure aiC)=_;cases aiC with
 |ret v=>obtain rfl:v=jB:=hv;rfl
 |next=>rfl
 |brk=>rfl
 |cont=>rfl
noncomputable abbrev zk(T:Wd)(fd:lD)(aiC L:ax)(m γ:B)(sh:J<|ax×J V)(cy:J<|B×J V)(b:B)(low:∀p∈cy,p.1<b):GC:=
 ⟨re T fd aiC L,m+1,m,γ,λi=>γ<=i,sh,cy,b,low,aG _⟩
theorem Rel.afd{own:ax->Prop}{γ:B}{y:de}(hs:s.gens[γ]?=some y)(hg:g γ)(r:Rel T sh g own s s'):Rel T sh g own (s.setGen γ x) (s'.setGen γ x):=by
 have bJ:γ<s.gens.size:=(jW.mp hs).1;refine⟨r.keep,r.aX,r.sh,r.top,λi z hi e=>?_,λi z hi h e=>?_,by refine D qw<|D qw ?_;exact r.size,r.os,r.drawn⟩
 ·by_cases qx:i=γ
  ·subst qx;rw[u2 hs] at e;cases e;exact u2<|r.gens _ _ hg hs
  ·rw[rF qx] at e ⊢;exact r.gens i z hi e
 ·rw[qw] at h;have ne:i≠γ:=by exact AM bJ h
  rw[rF ne] at e;exact r.news i z hi h e
theorem QD{o:bc}{fd:lD}{names:J ao}{bs:J V}{b:B}(low:∀p∈cy,p.1<b)(hb:b<=U gt)(QE:gK gt cy)
  (ho:T.top.get? aiC=some o) (hd:o.data= .func fd) (oP:fd.body= .stmts body) (pX:T.top.CodeRec fd.code fd.qualname) (ml:T.top.NoLimit)
  (mQ:∀(A:bS) (E:ak->ay->Prop) (ρ:J ax) (s:ay) (xs:J ak) (kw:J (ao×ak)) (Q:J (ao×ak)->ay->Prop),jj T ρ gt s->V.IsL ρ s.heap args (xs++kw.map (·.2))->kw.map (·.1)=gL->
   (∀ys h' t',(∀b o,s.heap.get? b=some o->h'.get? b=some o)->s.heap.objs.size<=h'.objs.size->V.IsL ρ h' bs ys->Q (names.zip ys) {s with heap:=h',toks:=t'})->aF (aN T.prog T.w) A (r8 fd ⟨xs,kw⟩) Q E s) (ko:names.Nodup)
  (iE:∀x∈fd.scope.names,x.2≠ .cell) (lJ:∀x∈names,fd.scope.names.lookup x=some .local)
  (hx:∀L γ sh,XG (zk T fd aiC L m γ sh cy b low) (cU.nil _) q body ⟨names.zip bs,gt⟩ items Done)
 {dQ:J ax} {xs:J ak} (hA:cn (m+2) A) (hL:jj T dQ gt s) (aV:V.IsL dQ s.heap args<|xs++kw.map (·.2)) (ii:kw.map (·.1)=gL)
  (hQ:∀s' I L,(∀b o,s.heap.get? b=some o->s'.heap.get? b=some o)->s.heap.get? I=aA->s.heap.get? L=aA->(∃o,s'.heap.get? L=some o)->s'.TypeIs (.ref I) "generator"->(∀(i:B) (x:de),s.gens[i]?=some x->s'.gens[i]?=some x)->s'.os=s.os->s'.drawn=s.drawn->
   gq T (m+2) I (dO dQ cy) (λi=>s.gens.size<=i) items (λa=>a=I\/(a∈dQ/\ke (dO dQ cy) a)\/a=L\/c8) s'->Q (.ref I) s')
  (bo:aO (fd.scope.isCoroutine=false) a9) (oQ:aO (fd.scope.isGenerator=true) a9) (hk:aO (fd.scope.kind= .function) a9):
  aF (aN T.prog T.w) A (gR (.ref aiC) xs kw) Q bq s:=by
 refine wpAny_call<|codeAny_call_generator hA.depth (hL.top aiC o ho) hd bo oQ oP (pX.keeps hL.top)<|mQ _ _ dQ s xs kw _ hL aV ii λys h0 t0 sx F8 nV=>(wpAny_newFunctionEnv iE (λx hx=>lJ _ (DY hx).1) (λh₁ bT uy=>⟨(ml.keeps λb o e=>sx b o<|hL.top b o e).fresh _ uy,?_⟩) hk);have yc:∀b o,h0.get? b=some o->h₁.get? b=some o:=λb o e=>uy.extBut b o (iT<|dH e)<|dE _ e;have afe:∀b o,s.heap.get? b=some o->h₁.get? b=some o:=λb o e=>yc b o<|sx b o e;have nf:∀a,h0.objs.size<=a->s.heap.get? a=aA:=λa h=>by
  cases e:s.heap.get? a with
  |none=>rfl
  |some o'=>exact aZ (dH<|sx _ _ e)<|iU.mpr h
 have uX:∀a,s.heap.get? a=aA->a∉dQ:=λa e h=>by
  refine mO (hL.mem h) λH H ob H H H ho H=>?_
  rw[e] at ho;cases ho
 have H4:h0.objs.size<h₁.objs.size:=by
  exact eR bT λoL E9 ep h2 H=>(dH h2)
 let ob:bc:={cls:=.type "generator",data:=.fields #[.int s.gens.size 0,.str fd.name<|t0+U (names.zip ys),.str fd.qualname<|t0+U (names.zip ys)+1]}
 have mn:∀b o,s.heap.get? b=some o->(h₁.push ob).get? b=some o:=λb o e=>dE _<|afe b o e;have gX:=iB mn
 let aiB:GC:=zk T fd aiC h0.objs.size m s.gens.size (dO dQ cy) cy b low
 let s2:ay:={s with heap:=h₁.push ob,gens:=s.gens.push (.fresh<|.func body aiB.C.env),toks:=t0+U (names.zip ys)+1+1}
 have nL:h0.objs.size∉dQ:=uX _<|nf _<|aG _;have rep:∀g t,Rep aiB.C dQ ⟨names.zip bs,gt⟩ {s with heap:=h₁.push ob,gens:=g,toks:=t}:=λg t=>by
  refine⟨⟨_,mj bT λo e=>dE _ e,λx aiA e=>F0 ko (nV.mono (bP _)<|iB λb o e=>dE _<|yc b o e) e⟩,⟨hL.len,λj o b e q=>?_,hL.nodup,nL,hL.low,xX<|cY hL.size F8,λb o e=>mn b o<|hL.top b o e,hL.os,hL.drawn⟩⟩;have z:=hL.objs j o b e q;exact aH z.there λx hx H=>(z.mono (bP _) gX<|(mn _ _ hx).trans hx.symm)
 have H5:s2.gens[s.gens.size]?=some (.fresh<|.func body aiB.C.env):=bD.getElem?_push_size
 have aff:∀(i:B) (x:de),s.gens[i]?=some x->s2.gens[i]?=some x:=λi x e=>by
  have hi:i<s.gens.size:=(jW.mp e).1;refine D (bD.getElem?_push_lt hi) ?_
  rw[ia hi] at e;exact e
 have zf:=gK.at (st:=⟨names.zip bs,gt⟩) QE (rep s2.gens s2.toks);have I0:Inv aiB (cU.nil aiB) (Inv.own aiB (cU.nil aiB) dQ) (s2.setGen s.gens.size .running) dQ ⟨names.zip bs,gt⟩ (s2.setGen s.gens.size .running):=by
  refine⟨rep _ _,rfl,QE,hb,⟨λH H e H H=>e,bF.refl _,λp hp=>(zf p hp).2.1,(rep s2.gens s2.toks).led.top,λH H H e=>e,aG _,hL.os,hL.drawn⟩,u2 H5,λi x G h2 H e=>?_,λa h=>.inl h,λa h=>h.elim,trivial⟩;have hi:i<(s2.setGen s.gens.size .running).gens.size:=(jW.mp e).1;rw[qw] at hi;have:s2.gens.size=s.gens.size+1:=Et ..;have v8:s.gens.size<=i:=G;have h2':i≠s.gens.size:=h2;exact(Ts hi this h2' v8).elim
 have hI:¬Inv.own aiB (cU.nil aiB) dQ h₁.objs.size:=λh=>by
  rcases h with h|h|h
  ·exact uX _ (nf _<|lz H4) h.1
  ·exact aZ h<|kl H4
  ·exact h
 have QF:s2.heap.IsGen h₁.objs.size s.gens.size:=⟨ob,_,_,ew _ rfl,rfl,rfl,rfl⟩
 refine hQ s2 h₁.objs.size h0.objs.size mn (nf _<|lz H4) (nf _<|aG _) ?_ QF.typeIs aff rfl rfl ?_
 ·exact eR bT λoL E9 ep h2 H=>(⟨_,dE _ h2⟩)
 ·exact Qr (T:=T) (n:=m+1) (γ:=s.gens.size) (g:=λi=>s.gens.size<=i) (aG _) ml items (Inv.own aiB (cU.nil aiB) dQ) s2 _ _ _ [] QF hI H5 (.inl ⟨rfl,rfl,rfl⟩) λs' r=>afc (aiB:=aiB) rfl (hx _ _ _)<|I0.resume<|r.afd H5<|aG _
section
variable{R:cU aiB}
noncomputable abbrev kT(aiB:GC)(R:cU aiB)(q:B)(r:J eX)(items:J It)(Φ:Fl->J It->St->Prop):Fl->St->Prop:=λfl aj=>match fl with| .next=>gK aj.hp aiB.cy/\XG aiB R q r aj items Φ|_=>c8
theorem je{r:J eX}(hq:aiB.b<=q)(h:X1 aiB.C aiB.m q a st<|kT aiB R q r items Φ):XG aiB R q (a::r) st items Φ:=
 ig (dP.lift hq h λfl aj hk=>by
  cases fl with
  |next=>exact hk
  |brk=>exact hk.elim
  |cont=>exact hk.elim
  |ret v=>exact hk.elim)
end
theorem Rel.widen{own:ax->Prop}(h:∀i,g' i->g i)(r:Rel T sh g own s s'):Rel T sh g' own s s':=
 ⟨r.keep,r.aX,r.sh,r.top,λi x hi e=>r.gens i x (h i hi) e,λi x hi hs e=>r.news i x (h i hi) hs e,r.size,r.os,r.drawn⟩
theorem Mv.widen{own:ax->Prop}(h:∀i,g' i->g i)(r:Mv T sh g' own s s'):Mv T sh g own s s':=
 ⟨r.keep,r.aX,r.sh,r.top,λi x hi e=>r.gens i x (λq=>hi<|h i q) e,r.size,r.os,r.drawn⟩
theorem gq.widen{T:Wd}{n:B}{I:ax}{sh:J (ax×J V)}{g g':B->Prop}(h:∀i,g' i->g i):∀{l:J It} {own:ax->Prop} {s:ay},(∀(i:B) (x:de),g i->¬g' i->s.gens[i]?=some x->x= .finished)->(∀i,s.gens.size<=i->g' i)->
  gq T n I sh g' l own s->gq T n I sh g l own s
 | [],own,s,hf,hs,aiC=>λs' r A Q E hA hQ=>aiC s' (r.widen h) A Q E hA λbQ mv fin=>hQ bQ (mv.widen h) λi x gi e=>by
  by_cases hi:g' i
  ·exact fin i x hi e
  ·have lt:i<s.gens.size:=tN λq=>hi<|hs i q;have e0:s.gens[i]?=some s.gens[i]:=ia lt;have e1:=mv.gens i _ hi<|r.gens i _ gi e0;rw[e] at e1;(have:=cj e1;clear e1;subst this);exact hf i _ gi hi e0
 |it::l,own,s,hf,hs,aiC=>λs' r A Q E hA hQ=>aiC s' (r.widen h) A Q E hA λx bQ eK mv dj hit F=>hQ x bQ eK (mv.widen h) dj hit (gq.widen h (λi y gi hi e=>by
   have lt:i<s.gens.size:=tN λq=>hi<|hs i q;have e0:s.gens[i]?=some s.gens[i]:=ia lt;have e1:=mv.gens i _ hi<|r.gens i _ gi e0;rw[e] at e1;(have:=cj e1;clear e1;subst this)
   exact hf i _ gi hi e0) (λi q=>hs i (cY r.size (cY mv.size q))) F)
theorem Rep.grow(R:Rep C ρ st s)(k:∀b o,s.heap.get? b=some o->s'.heap.get? b=some o)(ho:s'.os=s.os)(hd:s'.drawn=s.drawn):Rep C ρ st s':=by
 have L:=R.led;refine⟨?_,⟨L.len,λj o b e q=>?_,L.nodup,L.fC,L.low,L.gT,λb o e=>k b o<|L.top b o e,ho.trans L.os,hd.trans L.drawn⟩⟩
 ·refine aH R.loc λm bT hm=>?_
  exact⟨m,mj bT λo e=>k _ o e,λx v e=>by obtain⟨y,hy,q⟩:=hm x v e;exact⟨y,hy,q.mono (bP _)<|iB k⟩⟩
 ·have z:=L.objs j o b e q;exact aH z.there λx hx H=>(z.mono (bP _) (iB k)<|(k _ _ hx).trans hx.symm)
@[irreducible] noncomputable def jQ(T:Wd)(m:B)(aiC:ax)(gt:J O)(args:J V)(gL:J ao)(cy:J<|B×J V)(items:J It):Prop:=∀{A:bS} {s:ay} {dQ:J ax} {xs:J ak} {kw:J (ao×ak)} {Q:ak->ay->Prop},cn (m+2) A->jj T dQ gt s->V.IsL dQ s.heap args (xs++kw.map (·.2))->kw.map (·.1)=gL->
  (∀s' I L,(∀b o,s.heap.get? b=some o->s'.heap.get? b=some o)->s.heap.get? I=aA->s.heap.get? L=aA->(∃o,s'.heap.get? L=some o)->s'.TypeIs (.ref I) "generator"->(∀(i:B) (x:de),s.gens[i]?=some x->s'.gens[i]?=some x)->s'.os=s.os->s'.drawn=s.drawn->
   gq T (m+2) I (dO dQ cy) (λi=>s.gens.size<=i) items (λa=>a=I\/(a∈dQ/\ke (dO dQ cy) a)\/a=L\/c8) s'->Q (.ref I) s')->
  aF (aN T.prog T.w) A (gR (.ref aiC) xs kw) Q bq s
theorem jQ.mk(run:∀{A:bS} {s:ay} {dQ:J ax} {xs:J ak} {kw:J (ao×ak)} {Q:ak->ay->Prop},cn (m+2) A->jj T dQ gt s->V.IsL dQ s.heap args (xs++kw.map (·.2))->kw.map (·.1)=gL->
  (∀s' I L,(∀b o,s.heap.get? b=some o->s'.heap.get? b=some o)->s.heap.get? I=aA->s.heap.get? L=aA->(∃o,s'.heap.get? L=some o)->s'.TypeIs (.ref I) "generator"->(∀(i:B) (x:de),s.gens[i]?=some x->s'.gens[i]?=some x)->s'.os=s.os->s'.drawn=s.drawn->
   gq T (m+2) I (dO dQ cy) (λi=>s.gens.size<=i) items (λa=>a=I\/(a∈dQ/\ke (dO dQ cy) a)\/a=L\/c8) s'->Q (.ref I) s')->
  aF (aN T.prog T.w) A (gR (.ref aiC) xs kw) Q bq s):jQ T m aiC gt args gL cy items:=by with_unfolding_all exact run
theorem jQ.run(h:jQ T m aiC gt args gL cy items):∀{A:bS} {s:ay} {dQ:J ax} {xs:J ak} {kw:J (ao×ak)} {Q:ak->ay->Prop},cn (m+2) A->jj T dQ gt s->V.IsL dQ s.heap args (xs++kw.map (·.2))->kw.map (·.1)=gL->
  (∀s' I L,(∀b o,s.heap.get? b=some o->s'.heap.get? b=some o)->s.heap.get? I=aA->s.heap.get? L=aA->(∃o,s'.heap.get? L=some o)->s'.TypeIs (.ref I) "generator"->(∀(i:B) (x:de),s.gens[i]?=some x->s'.gens[i]?=some x)->s'.os=s.os->s'.drawn=s.drawn->
   gq T (m+2) I (dO dQ cy) (λi=>s.gens.size<=i) items (λa=>a=I\/(a∈dQ/\ke (dO dQ cy) a)\/a=L\/c8) s'->Q (.ref I) s')->
  aF (aN T.prog T.w) A (gR (.ref aiC) xs kw) Q bq s:=by with_unfolding_all exact h
theorem jQ.feed{sh:J (B×J V)}(h:jQ C.toWd m aiC gt args gL cy items){s2:ay}{bh dQ aC:J ax}{xs:J ak}
  (R0:∀b o,s.heap.get? b=some o->∃o',s2.heap.get? b=some o')
  (N:bk C ρ s am bh s2) (R1:Rep C aC aj s2) (pre:ρ<+:aC) (QG:∀a∈aC,a∈bh) (ct:∀a∈dQ,a∈bh) (hd:∀a∈dQ,ke (dO dQ cy) a->a∉aC) (H6:dO dQ cy=dO aC sh)
  (hA:cn (m+2) A) (L:jj C.toWd dQ gt s2) (aV:V.IsL dQ s2.heap args<|xs++kw.map (·.2)) (ii:kw.map (·.1)=gL)
  (hQ:∀I own s1,y9 C ρ s aj aC s1->s1.TypeIs (.ref I) "generator"->gq C.toWd (m+2) I (dO aC sh) (λi=>s.gens.size<=i) items own s1->(∀b,own b->b∉aC/\b≠C.env.locals/\s.heap.get? b=aA/\∃o,s1.heap.get? b=some o)->Q (.ref I) s1):
  aF (aN C.prog C.w) A (gR (.ref aiC) xs kw) Q bq s2:=by
 refine h.run hA L aV ii λs3 I La keep hI hL H7 hT hg ho iI F=>?_
 have live:∀b,b∈bh->∃o,s2.heap.get? b=some o:=λb hb=>by
  exact mO (N.rep.toF.mem hb) λH H ob H H H h3 H=>(⟨ob,h3⟩)
 have afg:∃o,s2.heap.get? C.env.locals=some o:=by
  exact aH N.rep.loc λmm cq H=>eR cq λoL H H hL H=>(⟨oL,hL⟩)
 have new:∀b,s2.heap.get? b=aA->b∉aC/\b≠C.env.locals/\s.heap.get? b=aA:=λb e=>by
  refine⟨λhb=>?_,λhb=>?_,?_⟩
  ·refine xE (live b<|QG b hb) λo h'=>?_
   rw[e] at h';exact nomatch h'
  ·subst hb;refine xE afg λo h'=>?_
   rw[e] at h';exact nomatch h'
  ·cases e':s.heap.get? b with
   |none=>rfl
   |some o=>obtain⟨o',h'⟩:=R0 b o e';rw[e] at h';exact nomatch h'
 refine hQ I (λa=>a=I\/(a∈dQ/\ke (dO dQ cy) a)\/a=La\/c8) s3 ⟨pre,N.aX.trans<|iB keep,λb o e G h2=>keep b o<|N.keep b o e G h2,λa G h2=>N.fresh a (QG a G) h2,λi x e=>hg i x<|N.gens.1 i x e,R1.grow keep ho iI⟩ hT ?_ λb hb=>?_
 ·simp only[←H6];refine F.widen (λi hi=>cY (eN.size N.gens) hi) (λi x G h2 e=>?_) λi hi=>cY (QB hg) hi;have lt:i<s2.gens.size:=tN h2;have e0:s2.gens[i]?=some s2.gens[i]:=ia lt;simp only[hg i _ e0] at e;(have:=cj e;clear e;subst this);exact N.gens.2 i _ G e0
 ·rcases hb with rfl|⟨hb,hs⟩|rfl|hb
  ·exact aH hT λo h' H=>(⟨(new _ hI).1,(new _ hI).2.1,(new _ hI).2.2,o,h'⟩)
  ·have G:=hd b hb hs;have h2:b≠C.env.locals:=λe=>N.rep.led.fC<|e▸ct b hb;exact xE (live b<|ct b hb) λo h'=>(⟨G,h2,N.fresh b (ct b hb) λh=>G<|pre.subset h,o,keep b o h'⟩)
  ·exact⟨(new _ hL).1,(new _ hL).2.1,(new _ hL).2.2,H7⟩
  ·exact hb.elim
theorem bk.lives(R:Rep C ρ st s)(N:bk C ρ s aj aB s'):∀b o,s.heap.get? b=some o->∃o',s'.heap.get? b=some o':=λb o e=>by
 by_cases h:b∈ρ
 ·exact mO (N.rep.toF.mem<|N.pre.subset h) λH H ob H H H h3 H=>(⟨ob,h3⟩)
 ·by_cases h2:b=C.env.locals
  ·subst h2;exact aH N.rep.loc λmm cq H=>eR cq λoL H H hL H=>(⟨oL,hL⟩)
  ·exact⟨o,N.keep b o e h h2⟩
theorem po.ro{o:bv}{name:ao}{apos:cN}{args:J bv}{k d:B}{c:ax}{of:bc}{fd:lD}{l0:J (ao×V)}{mN:ao->bC ak}{vs:J V}{y:bC ak}
  (ho:EV C (m+2) o ⟨l0,hp⟩ (.ref k) ⟨l0,gt⟩) (hk:gt[k]?=some (.inst c d)) (hd:gt[d]?=some (.attrs l)) (hc:v9 C.top c mN) (hf:mN name=some (.ref aiC)) (yr:C.top.get? aiC=some of) (rp:of.cls= .type "function") (BP:of.data= .func fd)
  (hB:ea (.type "object") name=pure y) (ha:iD C (m+2) args ⟨l0,gt⟩ vs ⟨l0,gt⟩) (oU:jQ C.toWd m aiC gt (.ref k::vs) [] cy items)
  (wI:∃tl,gt=hp++tl) (j9:gC hp) (H8:∀p∈l0,p.2.bG (λk=>decide (k<U hp))=true) (p0:∀i,i<U hp->∃p∈cy,p.1=i) (n8:∀p∈cy,p.1<U hp) (eo:gK hp cy)
  (uF:aO (mN "__getattribute__"=aA) a9) (GJ:aO (mN "__getattr__"=aA) a9) (bT:aO (l.lookup name=aA) a9) (he:aO (args.all gV=true) a9) (hlen:aO (U args<30) aD._auto_1)
  (oS:aO (vM o name C.env (eval o C.env)=eval o C.env) a9) (lL:aO ((apos.endLine==pos.line)=true) a9):po C (m+2) (.Call (.Attribute o name apos) args [] pos) ⟨l0,hp⟩ "generator" cy items ⟨l0,hp⟩ where
 sh:=eo
 run:=λA s ρ Q hA R h=>by
  simp only[arm_eval_Call,oS];refine wpAny_bind<|ho A s ρ _ hA R λaC x s1 N1 i1=>(wpAny_bind<|wpAny_standAt ?_);have yt:methodCallForm (U args+U ([]:J nO)) (lE pos<|lC args C.env) (qR pos<|qQ [] C.env)=true:=GI he hlen;have oW:vN true o C.env apos pos=pure pos:=by unfold vN;simp[lL]
  unfold methodCall;refine D yt<|aH i1 λa rq av=>?_;clear i1;subst av;refine kn (BF N1.rep hk hd rq) λmm b hb ne I hm=>?_
  obtain⟨nm,q,N,bs,sn,sub,ab,col,dd,k0,k1,k2,k3,k5,newId,hC,hn⟩:=hc;refine wpAny_bind<|wpAny_holding<|method_ofFk (N1.rep.led.top _ _ hC) (hn.keeps N1.rep.led.top) uF GJ hf (N1.rep.led.top _ _ yr) rp hB I ((hm name).2 bT)<|wpAny_bind<|wpAny_of_eq oW<|EQ (o:=of) (fd:=fd) ?_;refine BO ha hA N1.rep he λbh xs s2 N2 i2=>⟨⟨N2.rep.led.top _ _ yr,BP⟩,?_⟩
  have iZ:=N1.trans N2;refine xE wI λtl av=>?_
  clear wI;subst av;refine aH (eH.conv (p:=U hp) (aj:=⟨l0,hp⟩) iZ.rep (by simp only[aK];exact dZ _ _)<|mw (aG _) j9 (λH H h=>h) H8) λdp N3 dk=>?_
  have lY:U ρ=U hp:=R.led.len;have pe:U dp=U hp:=N3.rep.led.len;have e3:bh.take (U hp)=ρ:=by
   have:=iZ.pre;rw[J.prefix_iff_eq_take] at this;exact bL lY this.symm
  have e4:dp=ρ:=by
   have G:=N3.pre;rw[e3] at G;exact(Ah G<|by simp only[lY,pe]).symm
  subst e4;have H6:dO bh cy=dO dp cy:=by
   refine rU λp aY=>?_
   have lt:=n8 p aY;have G:dp[p.1]?=some dp[p.1]:=bO<|mf lt lY;have h2:=pT iZ.pre G;simp only[c6,c6,G,h2]
  refine oU.feed (bk.lives R iZ) iZ N3.rep (bP _) (λa h=>iZ.pre.subset h) (λH h=>h) (λa G h2 h3=>?_) H6 hA iZ.rep.toF (xs:=.ref a::xs) (kw:=[]) ?_ rfl λI own s4 G h2 h3 h4=>h dp I own s4 G h2 h3 h4
  ·obtain⟨i,hi,rfl⟩:=mF h3;refine aH (p0 i<|mP hi lY) λp aY y7=>h2 (bh.getD p.1 0,p.2) (fb.mpr ⟨p,aY,rfl⟩) ?_
   have G:dp[p.1]?=some dp[i]:=by exact D y7<|bO hi
   have h2:=pT iZ.pre G;simp only[c6,h2];rfl
  ·simp only[pJ,cM];exact⟨_,xs,rfl,⟨a,pT N2.pre rq,rfl⟩,i2⟩
noncomputable def oV(o:b8):V:=.tup (.type "tuple") [.str<|lQ o.1,.int o.2.1,.int o.2.2.1,.int o.2.2.2.1,.int o.2.2.2.2]
noncomputable def fy(f u:J<|J B)(al:J<|ao×V)(tl:J O)(acc:J b8):J O:=
 bu f u (putL (putL al "opcodes"<|.ref<|7+U (keysOf u)+U tl) "matching_blocks"<|.ref<|11+U (keysOf u)+U tl) (tl++ .list (acc.map oV)::[.list [],.list<|(dU f u).map mV,.list<|(gn f u).map tV,.list<|(gn f u).map mV])
theorem u8{x z:ao}{v:V}{aiA:bC V}(h:mI z l=aiA)(hz:z≠x):mI z (putL l x v)=aiA:=(BG hz).trans h
theorem sY.put(h:sY m al){x:ao}{v:V}(hx:x∈(["opcodes","matching_blocks"]:J ao))(hl:U al<=15):sY m (putL al x v):=by
 have ne:∀z:ao,z∉(["opcodes","matching_blocks"]:J ao)->z≠x:=λz hz e=>hz<|e▸hx;refine⟨u8 h.a (ne _<|by decide),u8 h.b (ne _<|by decide),u8 h.PN (ne _<|by decide),u8 h.PO (ne _<|by decide),u8 h.jK (ne _<|by decide),u8 h.PP (ne _<|by decide),?_⟩;unfold putL;simp only[cK];have:(al.filter λp=> !(p.1==x)).length<=U al:=pF _ _;exact X5 hl this
theorem QH(h:gC<|bu f u al tl):gC (fy f u al tl acc):=by
 have G:gC (bu f u (putL al "opcodes"<|.ref<|7+U (keysOf u)+U tl)<|tl++[.list<|acc.map oV]):=by
  refine HU h (dG ?_) λo ho=>?_
  ·simp only[aK];exact tO _
  ·rw[bx] at ho;subst ho;exact oY λH=>rfl
 have h2:=Qf G;unfold rD at h2;rw[aK,cm] at h2;rw[show 10+U (keysOf u)+(U tl+U [O.list<|acc.map oV])=11+U (keysOf u)+U tl by show _+(_+1)=_;exact Fp] at h2;exact h2
theorem H9{t:B}:(fy f u al tl acc)[7+U (keysOf u)+U tl+t]?=(O.list (acc.map oV)::[.list [],.list<|(dU f u).map mV,.list<|(gn f u).map tV,.list<|(gn f u).map mV])[t]?:=by
 unfold fy
 rw[show bu f u (putL (putL al "opcodes" (.ref (7+U (keysOf u)+U tl))) "matching_blocks" (.ref (11+U (keysOf u)+U tl))) (tl++ .list (acc.map oV)::[.list [],.list ((dU f u).map mV),.list ((gn f u).map tV),.list ((gn f u).map mV)])=bu f u (putL (putL al "opcodes" (.ref (7+U (keysOf u)+U tl))) "matching_blocks" (.ref (11+U (keysOf u)+U tl))) tl++(.list (acc.map oV)::[.list [],.list ((dU f u).map mV),.list ((gn f u).map tV),.list ((gn f u).map mV)]) by
  unfold bu;simp only[cm]]
 exact fS<|pj ..
theorem afh{uE:J b8}:(fy f u al tl acc).set (7+U (keysOf u)+U tl) (.list<|uE.map oV)=fy f u al tl uE:=by
 have e:∀acc,fy f u al tl acc=bu f u (putL (putL al "opcodes"<|.ref<|7+U (keysOf u)+U tl) "matching_blocks"<|.ref<|11+U (keysOf u)+U tl) tl++(.list (acc.map oV)::[.list [],.list<|(dU f u).map mV,.list<|(gn f u).map tV,.list<|(gn f u).map mV]):=λacc=>by
  unfold fy bu;simp only[cm]
 simp only[e,e,Cr<|pj ..];rfl
theorem afi:ea (.type "object") "get_matching_blocks"=pure aA:=by rw[typeLookup_type,builtinLookup_eq_fast];kernel_rfl
noncomputable def u9(p:B)(s:B×B):J (ao×V):=[("j",.int s.2),("i",.int s.1),("answer",.ref p),("self",.ref 3)]
section
variable{w:bz}{os:bM}{dr:cV}
end
end
namespace zl
noncomputable def ES(w:bz)(os:bM)(dr:cV)(n:B)(f:J<|J B)(u:J<|J B)(al:J<|ao×V)(tl:J O)(_ _ _ _ _:fF):Prop:=(sY (U<|keysOf u) al)->(U al<=14)->(mI ("matching_blocks":ao) al=some V.none)->(mI ("opcodes":ao) al=some V.none)->(gC<|bu f u al tl)->(U f<64)->(U u<200)->cC (TW w os dr) (n+6) (.ref 210) (bu f u al tl) [.ref 3] (fy f u al tl<|fH f u) (.ref<|7+U (keysOf u)+U tl)
@[irreducible] noncomputable def EX:=nU oO default {} 0 [] [] [] [] () () () () () ES
noncomputable def w:=EX.1
noncomputable def os:=EX.2.1
noncomputable def dr:=EX.2.2.1
noncomputable def n:=EX.2.2.2.1
noncomputable def f:=EX.2.2.2.2.1
noncomputable def u:=EX.2.2.2.2.2.1
noncomputable def al:=EX.2.2.2.2.2.2.1
noncomputable def tl:=EX.2.2.2.2.2.2.2.1
theorem Ee:ES w os dr n f u al tl () () () () ():=λnl hlen HV Ia j9 fV hb=>by
 refine m7 (Gx _) rfl (λxs hx=>?_) λL=>?_
 ·revert xs;exact sG λH=>rfl
 have cl:=qh w.params;have hp:=pj f u al tl;have tm:=λacc=>H9 (f:=f) (u:=u) (al:=al) (tl:=tl) (acc:=acc) (t:=0);have QI:=λacc=>H9 (f:=f) (u:=u) (al:=al) (tl:=tl) (acc:=acc) (t:=4);have QJ:=λacc uE=>afh (f:=f) (u:=u) (al:=al) (tl:=tl) (acc:=acc) (uE:=uE);have afj:=QH (acc:=fH f u) j9;have QK:∀acc,U (fy f u al tl acc)=7+U (keysOf u)+U tl+5:=λacc=>by
  unfold fy;simp only[pj,aK];rfl
 have QL:sY (U<|keysOf u) (putL al "opcodes"<|.ref<|7+U (keysOf u)+U tl):=nl.put (.head _) (by exact ly ‹_›);have QM:gC (bu f u (putL al "opcodes"<|.ref<|7+U (keysOf u)+U tl)<|tl++[.list []]):=by
  refine HU j9 (dG ?_) λo ho=>?_
  ·simp only[aK];exact tO _
  ·rw[bx] at ho;subst ho;rfl
 have hg:=ae5 (w:=w) (os:=os) (dr:=dr) (n:=n) QL (u8 HV<|by decide) QM fV hb;have hL0:rD f u (putL al "opcodes"<|.ref<|7+U (keysOf u)+U tl) (tl++[.list []])=fy f u al tl []:=by
  unfold rD fy
  (simp only[aK,cm,show 10+U (keysOf u)+(U tl+U [O.list []])=11+U (keysOf u)+U tl by show _+(_+1)=_;exact Fp])
  rfl
 (simp only[hL0,aK,show 10+U (keysOf u)+(U tl+U [O.list []])=11+U (keysOf u)+U tl by show _+(_+1)=_;exact Fp] at hg)
 have QN:=QH (acc:=[]) j9;generalize hq:7+U (keysOf u)+U tl=p at*;have QO:11+U (keysOf u)+U tl=p+4:=by exact X4 hq
 simp only[QO] at hg;refine eE dF (lM (bV (EV.attr (k:=3) (d:=2) (l:=al) ah rfl rfl Ia cl (by kernel_rfl) (by kernel_rfl) BY λH h=>by exact nomatch h) EV.none a8.isnot_none_none)<|jG bA (cF.cons bW<|cF.cons bW cF.nil)<|jG (eI aM) (cF.cons (kX (k:=3) (d:=2) (l:=al) ah rfl rfl cl (by kernel_rfl) (by kernel_rfl) BY<|cY nl.len<|bY rfl)<|cF.cons bW cF.nil) ?_);refine b7 (l':=u9 p (0,0)) (aY:=bu f u (putL al "opcodes"<|.ref p)<|tl++[.list []]) ?_ ?_ ?_
 ·
  show SubL _ (("answer",V.ref<|U<|bu f u al tl)::_);rw[hp];exact bp rfl
 ·show(bu f u al tl++[O.list []]).set 2 (.attrs<|putL al "opcodes"<|.ref<|U<|bu f u al tl)=_;simp only[hp];unfold bu;simp only[cm,jT,nG,JO,DS]
 have f0:=Po f u;have afk:∀o∈bu f u (putL al "opcodes"<|.ref p) (tl++[.list []]),o.bG (λk=>decide (k<U (bu f u (putL al "opcodes"<|.ref p)<|tl++[.list []])))=true:=QM;have nc:U (bu f u (putL al "opcodes"<|.ref p)<|tl++[.list []])=p+1:=by simp only[pj,aK];exact X3 QO
 have kA:U (fy f u al tl [])=p+5:=QK [];refine cg<|jt (K:=λfl aj=>fl= .next/\SubL [("answer",.ref p)] aj.loc/\aj.hp=fy f u al tl (fH f u)) ?_ ?_
 ·refine nW (p+5) (items:=(gn f u).map mV) (am:=⟨u9 p (0,0),fy f u al tl []⟩) (λt aj=>∃c acc,((gn f u).take t).foldl rx ((0,0),[])=(c,acc)/\SubL (u9 p c) aj.loc/\aj.hp=fy f u al tl acc)
   (gw.of (EV.ro (k:=3) (d:=2) (l:=putL al "opcodes"<|.ref p) ah rfl rfl cl (acn _) (Gw _).get rfl (Gw _).fd afi aM (cC.same hg (X2 nc kA) afk<|(lF _).trans<|V.ut.trans<|dG<|by exact pK _ _) (by kernel_rfl) (by kernel_rfl) QL.PP)<|fP.list (k:=p+4)<|QI []) ⟨(0,0),[],rfl,λH H h=>h,rfl⟩ (λt aj H hI=>?_) (aG _) (X0 hp) (λt aiA aj hu hI=>?_) (λaj hI=>?_)
  ·refine dh hI λc acc H H hh=>?_
   show aj.hp[p+4]?=_;exact D hh<|QI acc
  ·refine dh hI λcq acc hf ct hh=>?_
   obtain⟨i,j⟩:=cq;simp only[c7] at hu;cases u0:(gn f u)[t]? with
   |none=>rw[u0] at hu;exact nomatch hu
   |some b=>
   rw[u0] at hu;obtain⟨ai,bj,sz⟩:=b;obtain rfl:aiA=mV (ai,bj,sz):=by cases hu;rfl
   clear hu;have m8:((gn f u).take<|t+1).foldl rx ((0,0),[])=rx ((i,j),acc) (ai,bj,sz):=by
    refine D qM<|D u0<|D jS<|D hf ?_;rfl
   have oT:U acc<=200:=by
    have G:=G7 ((gn f u).take t) ((0,0),[]);rw[hf] at G;have h2:U ((gn f u).take t)<=_:=JG ..;simp only[iR] at G;exact XZ fV G f0 h2
   refine⟨_,cW.norm ct hh<|cW.HC (pi _) (qp _) (HS _)<|bU.cons bW<|bU.cons bW<|bU.cons bW bU.nil,(XS.hide λK hK=>(cZ dF<|b7 (l':=("tag",.str "")::("size",.int sz)::("bj",.int bj)::("ai",.int ai)::u9 p (i,j)) (aY:=fy f u al tl acc) (bp rfl) rfl ?_))⟩;refine cg<|jt (K:=λfl aj=>fl= .next/\∃tg:ao,tg.length<=10/\SubL (("tag",.str tg)::("size",.int sz)::("bj",.int bj)::("ai",.int ai)::u9 p (i,j)) aj.loc/\aj.hp=fy f u al tl acc/\(h8 i ai j bj=if tg.length=0 then[] else[(if tg="replace" then 1 else if tg="delete" then 2 else 3,i,ai,j,bj)])/\(tg.length=0\/tg="replace"\/tg="delete"\/tg="insert")) ?_ ?_
   ·refine i9 _ (kC (bV ah ah jZ)<|kC (bV ah ah jZ) pY) (λhc=>?_) λhc=>?_
    ·have hc:i<ai/\j<bj:=by simpa using hc
     refine cZ dF<|bd ⟨rfl,"replace",by decide,by exact bp rfl,rfl,?_,.inr<|.inl rfl⟩;unfold h8;exact D (aU hc.1)<|D (aU hc.2) rfl
    ·have hc:¬(i<ai/\j<bj):=by intro h;revert hc;simp[h.1,h.2]
     refine cg<|i9 _ (bV ah ah jZ) (λhd=>?_) λhd=>?_
     ·have hd:i<ai:=by simpa using hd
      refine cZ dF (bd<|bd ⟨rfl,"delete",by decide,by exact bp rfl,rfl,?_,.inr<|.inr<|.inl rfl⟩);unfold h8;exact D (aU hd)<|D (aE λh=>hc ⟨hd,h⟩) rfl
     ·have hd:¬i<ai:=by simpa using hd
      refine cg<|i9 _ (bV ah ah jZ) (λhe=>?_) λhe=>?_
      ·have he:j<bj:=by simpa using he
       refine cZ dF (bd<|bd<|bd ⟨rfl,"insert",by decide,by exact bp rfl,rfl,?_,.inr<|.inr<|.inr rfl⟩);unfold h8;exact D (aE hd)<|D (aU he) rfl
      ·have he:¬j<bj:=by simpa using he
       refine bd (bd<|bd ⟨rfl,"",by decide,by exact bp rfl,rfl,?_,.inl rfl⟩);unfold h8;exact D (aE hd)<|D (aE he) rfl
   intro fl aj dM;refine Tm dM λav tg eU og fK QP htg=>?_
   clear dM;subst av
   try dsimp only
   refine b7 og fK<|cg<|jt (K:=λfl aj=>fl= .next/\aj=⟨("tag",.str tg)::("size",.int sz)::("bj",.int bj)::("ai",.int ai)::u9 p (i,j),fy f u al tl<|acc++h8 i ai j bj⟩) (i9 _ (fv ah<|fu.str<|XY eU) (λhk=>?_) λhk=>bd ⟨rfl,?_⟩) ?_
   ·have hk:¬tg.length=0:=by simpa using hk
    refine eE (iF (k:=p) (l:=acc.map oV) ah (tm acc) (dL<|an ah<|an ah<|an ah<|an ah<|an ah aM) (tm acc)<|by refine D (bg _) ?_;exact M0 oT) ?_
    refine bd ⟨rfl,bB (St.mk _)<|D QP<|D (aE hk)<|xI ?_<|QJ acc _⟩;refine D eL ?_
    rcases htg with h|rfl|rfl|rfl
    ·exact aZ h hk
    ·rfl
    ·rfl
    ·rfl
   ·have hk:tg.length=0:=by simpa using hk
    rw[QP,aU hk,cM]
   intro fl aj hU;refine xA hU λav bE=>?_
   clear hU;subst av bE
   try dsimp only
   have yi:U (h8 i ai j bj)<=1:=by unfold h8;(repeat' split)<;>simp
   refine rg (names:=["i","j"]) (dL<|an (bt ah ah eT)<|an (bt ah ah eT) aM)<|b7 (l':=("size",.int sz)::("bj",.int bj)::("ai",.int ai)::u9 p (ai+sz,bj+sz)) (aY:=fy f u al tl<|acc++h8 i ai j bj) (bp rfl) rfl<|cg<|i9 _ (fv ah fu.int) (λhk=>?_) λhk=>bd<|bd<|hK _ _ ?_
   ·have hk:¬sz=0:=by simpa using hk
    refine eE (iF (k:=p) (l:=(acc++h8 i ai j bj).map oV) ah (tm _) (dL<|an dF<|an ah<|an ah<|an ah<|an ah aM) (tm _)<|by refine D (bg _)<|D aK ?_;exact XX yi oT) ?_
    refine bd (bd<|hK _ _ ⟨(ai+sz,bj+sz),acc++h8 i ai j bj++k8 (ai,bj,sz),m8,by exact bp rfl,(D (show k8 (ai,bj,sz)=[(0,ai,ai+sz,bj,bj+sz)] from aE hk) ?_)⟩);refine xI ?_<|QJ (acc++h8 i ai j bj) _
    refine D (eL (l₁:=acc++h8 i ai j bj)) ?_
    rfl
   ·have hk:sz=0:=by simpa using hk
    refine⟨(ai+sz,bj+sz),acc++h8 i ai j bj++k8 (ai,bj,sz),m8,by exact bp rfl,?_⟩;rw[show k8 (ai,bj,sz)=[] from aU hk,cM]
  ·refine dh hI λc acc hf ct hh=>?_
   rw[bg,pI] at hf;refine bd ⟨rfl,SubL.cons (ct "answer" _ rfl) SubL.nil,?_⟩;unfold fH;exact D hf hh
 intro fl aj nv;refine eh nv λav ct hh=>?_
 clear nv;subst av;refine b7 ct hh<|j6 ah ⟨_,rfl,?_⟩;have pe:=QK<|fH f u;have:=Conv.drop (q:=p) (hp:=fy f u al tl<|fH f u) (junk:=[]) (v:=.ref p) (XW pe) afj<|dG<|XV pe;rw[cM] at this;exact D hp this
end zl
section
variable{w:bz}{os:bM}{dr:cV}{n:B}
theorem afl:∀{w os dr n f u al tl},zl.ES w os dr n f u al tl () () () () ():=by with_unfolding_all exact oM zl.ES zl.EX rfl zl.Ee _ _ _ _ _ _ _ _ () () () () ()
end
theorem XG.hide{aiB:GC}{R:cU aiB}{q:B}{ss:J eX}{st:St}{items:J It}{Φ:Fl->J It->St->Prop}(h:∀u3:Fl->J It->St->Prop,(∀fl bN st,Φ fl bN st->u3 fl bN st)->XG aiB R q ss st items u3):XG aiB R q ss st items Φ:=h Φ λH H H x=>x
noncomputable abbrev qz(f u:J<|J B):J (B×J V):=[(0,aw f),(1,aw u)]
theorem va(f u:J<|J B):∀p∈qz f u,p.1<2:=gh ((by decide:0<2)) (fM<|(by decide:1<2))
theorem b9(f u:J<|J B)(t:J O):gK (.list (aw f):: .list (aw u)::t) (qz f u):=gh (⟨rfl,eZ⟩)<|fM<|⟨rfl,eZ⟩
noncomputable def kJ(f u:J<|J B)(cs:J b8):J O:=[.list<|aw f,.list<|aw u,.list<|cs.map oV]
theorem zm{g:B->bb}{l:J b8}:V.ff g (l.map oV)=true:=oY λH=>rfl
theorem afm{f u:J (J B)}{tail:J O}{cs:J b8}{c:B}{k:az}{l:J (ao×V)}(hc:tail[c]?=some (.list<|cs.map oV))(G:l.lookup ("codes":ao)=some (.ref<|2+c))(h2:l.lookup ("n":ao)=some (.int k)):
  jn 2 ⟨l,.list (aw f):: .list (aw u)::tail⟩ ⟨[("codes",.ref 2),("n",.int k)],kJ f u cs⟩:=by
 exact dh (jn.pick (q:=2) (hp:=[.list<|aw f,.list<|aw u]) (tail:=tail) (sel:=[.list<|cs.map oV]) (aG _) (gh eZ<|fM eZ) [c] (by simp) (by simp[hc])<|fM zm) λaiC g q1 q2 q3=>xA (q2 0 c rfl) λg1 f1=>.inr ⟨_,aiC,g,q3,c9.cons G g1 (bB V.ref f1.symm)<|c9.cons h2 rfl rfl c9.nil⟩
theorem CB{f u:J (J B)}{al:J (ao×V)}{tl:J O}{acc:J b8}:fy f u al tl acc= .list (aw f):: .list (aw u)::(fy f u al tl acc).drop 2:=by
 rfl
section
variable{w:bz}{os:bM}{dr:cV}{n:B}
theorem zn{o:b8}:(decide (lQ o.1="equal"))=decide (o.1=0):=by
 match o.1 with
 |0=>rfl
 |1=>decide
 |2=>decide
 |(k+3)=>show decide (("insert":ao)="equal")=decide (k+3=0);rw[fB (by decide:¬("insert":ao)="equal"),fB Yd]
theorem afn(P:aP):nS P "get_opcodes"=some (.ref 210):=by kernel_rfl
theorem afo:ea (.type "object") "get_opcodes"=pure aA:=by rw[typeLookup_type,builtinLookup_eq_fast];kernel_rfl
theorem afp(m:B):sY m (jJ m):=⟨rfl,rfl,rfl,rfl,rfl,rfl,bY rfl⟩
theorem QQ(k:B)(o:b8):V.tup (.type "tuple") [.str<|lQ o.1,.int<|max (o.2.1:az)<|o.2.2.1-k,.int o.2.2.1,.int<|max (o.2.2.2.1:az)<|o.2.2.2.2-k,.int o.2.2.2.2]=oV (mz k o):=by
 unfold oV mz;have e1:max (o.2.1:az) (o.2.2.1-k)=((max o.2.1 (o.2.2.1-k):B):az):=by lia
 have e2:max (o.2.2.2.1:az) (o.2.2.2.2-k)=((max o.2.2.2.1 (o.2.2.2.2-k):B):az):=by lia
 simp only[e1,e2]
theorem QR(k:B)(o:b8):V.tup (.type "tuple") [.str<|lQ o.1,.int o.2.1,.int<|min (o.2.2.1:az)<|o.2.1+k,.int o.2.2.2.1,.int<|min (o.2.2.2.2:az)<|o.2.2.2.1+k]=oV (jL k o):=by
 unfold oV jL;have e1:min (o.2.2.1:az) (o.2.1+k)=((min o.2.2.1 (o.2.1+k):B):az):=by lia
 have e2:min (o.2.2.2.2:az) (o.2.2.2.1+k)=((min o.2.2.2.2 (o.2.2.2.1+k):B):az):=by lia
 simp only[e1,e2]
noncomputable def vd(k:B):J (ao×V):=[("group",.ref 3),("nn",.int<|(k:az)+k),("codes",.ref 2),("n",.int k)]
noncomputable def ve(o:b8)(k:B):J (ao×V):=("j2",.int o.2.2.2.2)::("j1",.int o.2.2.2.1)::("i2",.int o.2.2.1)::("i1",.int o.2.1)::("tag",.str<|lQ o.1)::vd k
noncomputable def zo(o:b8)(k:B):J (ao×V):=[("j2",.int o.2.2.2.2),("j1",.int o.2.2.2.1),("i2",.int o.2.2.1),("i1",.int o.2.1),("tag",.str<|lQ o.1),("nn",.int<|(k:az)+k),("codes",.ref 2),("n",.int k)]
end
namespace zp
noncomputable def ES(w:bz)(os:bM)(dr:cV)(n:B)(f:J<|J B)(u:J<|J B)(k:B)(_ _ _ _ _ _:fF):Prop:=(U f<64)->(U u<200)->∀L γ sh,XG (zk (TW w os dr) (fdOf<|Bd w.params) 218 L (n+6) γ sh (qz f u) 2<|va f u) (cU.nil _) 2 (fBody [5,9]) ⟨(["self","n"]:J ao).zip [.ref 3,.int k],lS f u⟩ ((groups f u k).map λg=>It.obj<|.list<|g.map oV) Done
@[irreducible] noncomputable def EX:=nU oO default {} 0 [] [] 0 () () () () () () ES
noncomputable def w:=EX.1
noncomputable def os:=EX.2.1
noncomputable def dr:=EX.2.2.1
noncomputable def n:=EX.2.2.2.1
noncomputable def f:=EX.2.2.2.2.1
noncomputable def u:=EX.2.2.2.2.2.1
noncomputable def k:=EX.2.2.2.2.2.2.1
theorem Ee:ES w os dr n f u k () () () () () ():=λfV hb=>by
 intro L γ sh;have cl:=qh w.params;have ho:=afl (w:=w) (os:=os) (dr:=dr) (n:=n) (tl:=[]) (afp<|U<|keysOf u) (bY rfl) rfl rfl (wn f u) fV hb;rw[ad0] at ho;have tm:=H9 (f:=f) (u:=u) (al:=jJ<|U<|keysOf u) (tl:=[]) (acc:=fH f u) (t:=0);have hs:∀acc t,gK (fy f u (jJ<|U<|keysOf u) [] acc++t) (qz f u):=λacc t=>by exact D CB<|b9 f u _
 have hs0:∀acc,gK (fy f u (jJ<|U<|keysOf u) [] acc) (qz f u):=λacc=>by exact D CB<|b9 f u _
 have afq:U (lS f u)=7+U (keysOf u):=ql f u;have afr:7+U (keysOf u)<=U (fy f u (jJ<|U<|keysOf u) []<|fH f u):=by
  unfold fy;simp only[pj];exact dZ _ _
 have rL:=ac1 f u;simp only[iR,jy] at ho tm;refine je (aG _)<|X1.expr dF ⟨b9 f u _,?_⟩;refine je (aG _)<|X1.assign (EV.ro (k:=3) (d:=2) (l:=jJ<|U<|keysOf u) ah rfl rfl cl (afn _) (Gx _).get rfl (Gx _).fd afo aM (cC.same ho (Yc afr afq) (wn f u)<|(lF _).trans<|V.ut.trans<|dG<|by exact pK _ _) (by kernel_rfl) (by kernel_rfl) rfl) ⟨hs0 _,?_⟩;generalize vg:(if(fH f u)=[] then[(0,0,1,0,1)] else fH f u:J b8)=cs;have afs:U cs<=132:=by
  refine bL vg ?_;split
  ·exact(by decide:1<=132)
  ·exact Yb fV rL
 have QS:cs≠[]:=by
  refine bL vg ?_;split
  ·exact λh=>by exact nomatch h
  ·assumption
 have hG:codes f u k=kE k (ni k cs):=by unfold codes;exact D vg rfl
 refine je (aG _)<|jt (K:=λfl aj=>fl= .next/\∃c tail,aj.hp= .list (aw f):: .list (aw u)::tail/\tail[c]?=some (.list<|cs.map oV)/\aj.loc.lookup ("codes":ao)=some (.ref<|2+c)/\aj.loc.lookup ("n":ao)=some (.int k)) ?_ ?_
 ·have hq:7+U (keysOf u)=2+(5+U (keysOf u)):=by exact X9
  refine i9 (decide (fH f u=[])) ?_ (λhe=>?_) λhe=>?_
  ·have hb:decide (fH f u=[])= !!((fH f u).map oV).isEmpty:=by cases fH f u<;>rfl
   exact D hb (TV.not<|fv ah<|fu.list tm<|by exact D (bg _)<|X8 fV rL)
  ·have he:fH f u=[]:=dq he;simp only[aU he] at vg;refine cZ (eI<|an (dL<|an dF<|an bA<|an bA<|an bA<|an bA aM) aM)<|bd ⟨rfl,U (fy f u (jJ<|U<|keysOf u) []<|fH f u)-2,(fy f u (jJ<|U<|keysOf u) []<|fH f u).drop 2++[.list<|cs.map oV],?_,?_,?_,by rfl⟩
   ·show fy f u (jJ<|U<|keysOf u) [] (fH f u)++_=_
    conv=>lhs;rw[CB]
    rw[←vg];rfl
   ·rw[dc (by rw[kO];exact aG _),kO,fG];rfl
   ·rw[show 2+(U (fy f u (jJ<|U<|keysOf u) []<|fH f u)-2)=U (fy f u (jJ<|U<|keysOf u) []<|fH f u) by exact tR _ _];rfl
  ·have he:¬fH f u=[]:=kj he;rw[aE he] at vg;refine bd ⟨rfl,5+U (keysOf u),(fy f u (jJ<|U<|keysOf u) []<|fH f u).drop 2,CB,?_,?_,by rfl⟩
   ·rw[z9,←hq,tm,←vg];rfl
   ·rw[←hq];rfl
 intro fl aj dM;refine Tk dM λav c tail hh hc nc kA=>?_
 clear dM;subst av;obtain⟨l,hp⟩:=aj;dsimp only at hh nc kA ⊢;subst hh;refine⟨b9 f u tail,XG.conv (afm hc nc kA) (aG _) (by show 2<=_+1+1;exact pK _ _) (b9 f u _) ?_⟩;have wJ:=Oz w.params;have wK:=OC w.params;have CD:=abf w.params;have CE:=abk w.params;refine je (aG _)<|jt (K:=λfl aj=>fl= .next/\SubL [("codes",.ref 2),("n",.int k)] aj.loc/\aj.hp=kJ f u (ni k cs)) ?_ ?_
 ·match cs,QS with
  |o::l,_=>
   refine i9 (decide (o.1=0)) ?_ (λhe=>?_) λhe=>?_
   ·rw[←zn];exact bV (eJ (eJ ah bA (i7 (k:=2) (l:=(o::l).map oV) rfl (by decide) rfl) gy) bA (gY.tup (j:=0) rfl rfl) sM) dF a8.eq_str
   ·have he:o.1=0:=dq he;refine yq (eJ ah bA (i7 (k:=2) (l:=(o::l).map oV) rfl (by decide) rfl) gy) (cW.tup<|bU.cons bW<|bU.cons bW<|bU.cons bW<|bU.cons bW<|bU.cons bW bU.nil)<|b7 (l':=[("j2",.int o.2.2.2.2),("j1",.int o.2.2.2.1),("i2",.int o.2.2.1),("i1",.int o.2.1),("tag",.str<|lQ o.1),("codes",.ref 2),("n",.int k)]) (aY:=kJ f u<|o::l) (bp rfl) rfl ?_;refine jG (dL<|an ah<|an (fw (cB (cQ _) wJ (dN _) wK) (an ah<|an (bt ah ah mt) aM) aQ.max2)<|an ah<|an (fw (cB (cQ _) wJ (dN _) wK) (an ah<|an (bt ah ah mt) aM) aQ.max2)<|an ah aM)
     (cF.cons (cW.item (k:=2) (l:=(o::l).map oV) (j:=0) ah bA rfl<|.inl ⟨rfl,by show 0<_+1;exact rZ _⟩) cF.nil) ?_
    refine bd ⟨rfl,by exact bp rfl,?_⟩;rw[QQ,show ni k (o::l)=mz k o::l from by show(if o.1=0 then mz k o else o)::l=_;rw[aU he]];rfl
   ·have he:¬o.1=0:=kj he;refine bd ⟨rfl,by exact bp rfl,?_⟩;rw[show ni k (o::l)=o::l from by show(if o.1=0 then mz k o else o)::l=_;rw[aE he]]
 intro fl aj hU;refine eh hU λav ct hh=>?_
 clear hU;subst av;refine⟨by dsimp only;rw[hh];exact b9 f u _,XG.norm ct hh ?_ (aG _) (by show 2<=3;decide)<|b9 f u _⟩;have aft:U (ni k cs)<=132:=by rw[Pq];exact afs
 have afu:ni k cs≠[]:=λh=>QS (DL.mp (by have:=Pq (n:=k) (l:=cs);rw[h] at this;exact this.symm));generalize aik:ni k cs=CG at*;refine je (aG _)<|jt (K:=λfl aj=>fl= .next/\SubL [("codes",.ref 2),("n",.int k)] aj.loc/\aj.hp=kJ f u (kE k CG)) ?_ ?_
 ·rcases rS CG with h|⟨l,o,rfl⟩
  ·exact aZ h afu
  rw[rT] at*;have ta:U ((l++[o]).map oV)=U l+1:=by rw[bg,aK];rfl
  have hsq:oF (-1) (U l+1)=some (U l):=by
   unfold oF;simp
   try lia
  have cO:((l++[o]).map oV)[U l]?=some (oV o):=by rw[c7,dc<|aG _,fG];rfl
  have it:∀{C:Cx} {n:B} {st:St},st.hp[2]?=some (.list<|(l++[o]).map oV)->gY C n (.ref 2) (.int<|-1) st (oV o) st "list" "list.__getitem__":=λh=>
   gY.GD h (by decide) (by rw[ta];lia) (by rw[ta,show(-1+((U l+1:B):az)).toNat=U l by lia];exact cO)
  refine i9 (decide (o.1=0)) ?_ (λhe=>?_) λhe=>?_
  ·rw[←zn];exact bV (eJ (eJ ah (EV.neg bA) (it rfl) gy) bA (gY.tup (j:=0) rfl rfl) sM) dF a8.eq_str
  ·have he:o.1=0:=dq he;refine yq (eJ ah (EV.neg bA) (it rfl) gy) (cW.tup<|bU.cons bW<|bU.cons bW<|bU.cons bW<|bU.cons bW<|bU.cons bW bU.nil)<|b7 (l':=[("j2",.int o.2.2.2.2),("j1",.int o.2.2.2.1),("i2",.int o.2.2.1),("i1",.int o.2.1),("tag",.str<|lQ o.1),("codes",.ref 2),("n",.int k)]) (aY:=kJ f u<|l++[o]) (bp rfl) rfl ?_;refine jG (dL<|an ah<|an ah<|an (fw (cB (cQ _) CD (dN _) CE) (an ah<|an (bt ah ah eT) aM) aQ.min2)<|an ah<|an (fw (cB (cQ _) CD (dN _) CE) (an ah<|an (bt ah ah eT) aM) aQ.min2) aM)
    (cF.cons (cW.item (k:=2) (l:=(l++[o]).map oV) (z:= -1) (j:=U l) ah (EV.neg bA) rfl<|.inr ⟨by decide,by rw[ta];exact hsq,by rw[ta];exact tO _⟩) cF.nil) ?_
   refine bd ⟨rfl,by exact bp rfl,?_⟩;rw[QR,G8,aU he];have e:((l++[o]).map oV).set (U l) (oV<|jL k o)=(l++[jL k o]).map oV:=by
    rw[eL,eL,JW,aE (by rw[bg];exact jg _),bg,fG];rfl
   rw[e];rfl
  ·have he:¬o.1=0:=kj he;refine bd ⟨rfl,by exact bp rfl,?_⟩;rw[G8,aE he]
 intro fl aj nv;refine eh nv λav ct hh=>?_
 clear nv;subst av;refine⟨by dsimp only;rw[hh];exact b9 f u _,XG.norm ct hh ?_ (aG _) (by show 2<=3;decide)<|b9 f u _⟩;have Ib:U (kE k CG)<=132:=by rw[Pr];exact aft
 unfold groups;rw[hG];generalize kE k CG=iN at*;refine je (aG _)<|X1.assign (bt ah ah eT) ⟨b9 f u _,(je (aG _)<|X1.assign (eI aM) ⟨b9 f u _,?_⟩)⟩;refine XG.norm (l':=vd k) (aY:=kJ f u iN++[.list []]) (bp rfl) rfl ?_ (aG _) (by show 2<=4;decide)<|b9 f u _
 have wL:∀l:J V,(kJ f u iN++[O.list l])[3]?=some (.list l):=λl=>rfl;have j9:gC (kJ f u iN):=gh eZ<|gh eZ<|fM zm
 refine ig (dP.for 3 (λt bN aj=>∃cG,bN=(jM k cG (iN.drop t)).map (λg=>It.obj (.list (g.map oV)))/\U cG<=t/\SubL (vd k) aj.loc/\aj.hp=kJ f u iN++[.list (cG.map oV)])
  (gw.of ah (fP.list (k:=2) (items:=iN.map oV) rfl)) (b9 f u _) (aG _) ⟨[],by rw[mH],bH _,λH H h=>h,rfl⟩ (λt bN aj H hI=>?_) (aG _) (by decide) (λR' t aiA bN aj hu hI=>?_) (λbN aj hI=>?_))
 ·refine ug hI λcG H H H hh=>?_
  rw[hh];rfl
 ·refine ug hI λcG av kf ct hh=>?_
  clear hI;subst av;rw[c7] at hu;cases ij:iN[t]? with
  |none=>rw[ij] at hu;cases hu
  |some o=>
  rw[ij] at hu;obtain rfl:aiA=oV o:=by cases hu;rfl
  clear hu;have bJ:t<U iN:=(cJ.mp ij).1;have iI:iN.drop t=o::iN.drop (t+1):=by
   rw[vy bJ];rw[bO bJ] at ij;cases ij;rfl
  refine⟨_,cW.norm ct hh<|cW.tup<|bU.cons bW<|bU.cons bW<|bU.cons bW<|bU.cons bW<|bU.cons bW bU.nil,b9 f u _,(XG.hide λΦ hK=>?_)⟩;refine XG.norm (l':=ve o k) (aY:=kJ f u iN++[.list<|cG.map oV]) (by unfold ve vd;exact bp rfl) rfl ?_ (eM 2) (by show 3<=4;decide)<|b9 f u _
  have afv:(decide (lQ o.1="equal")&&(decide (((k:az)+k)<(o.2.2.1:az)-o.2.1)&&true))=decide (o.1=0/\o.2.1+(k+k)<o.2.2.1):=by
   rw[zn,lF,sd,gS,ip,ip,ip];constructor
   ·rintro⟨G,h2⟩;exact⟨G,by lia⟩
   ·rintro⟨G,h2⟩;exact⟨G,by lia⟩
  rw[iI];unfold ve vd;refine ig<|dP.if (decide (o.1=0/\o.2.1+(k+k)<o.2.2.1)) (eM 2) (afv▸kC (bV ah dF a8.eq_str) (kC (bV (bt ah ah mt) ah a8.gt_int) pY)) (b9 f u _) (λhc=>?_) (λhc=>?_)
  ·have hc:=dq hc;rw[show jM k cG (o::iN.drop (t+1))=(cG++[jL k o])::jM k [mz k o] (iN.drop<|t+1) from aU hc,eu];refine je (eM 2)<|X1.expr (iF (k:=3) (l:=cG.map oV) ah (wL _) (dL<|an ah<|an ah<|an (fw (cB (cQ _) CD (dN _) CE) (an ah<|an (bt ah ah eT) aM) aQ.min2)<|an ah<|an (fw (cB (cQ _) CD (dN _) CE) (an ah<|an (bt ah ah eT) aM) aQ.min2) aM) (wL _)<|by rw[bg];exact M3 bJ Ib kf) ⟨b9 f u _,?_⟩;refine XG.norm (l':=ve o k) (aY:=kJ f u iN++[.list<|(cG++[jL k o]).map oV]) (by unfold ve vd;exact bp rfl) ?_ ?_ (eM 2) (by show 3<=4;decide)<|b9 f u _
   ·rw[QR,eL];rfl
   refine ig<|dP.H0 (hp:=kJ f u iN) (l':=zo o k) (eM 2) (aG _) ah zm j9 ?_ (b9 f u _) ?_
   ·intro x v h;have hs:SubL (zo o k) (ve o k):=by unfold zo ve vd;exact bp rfl
    refine⟨hs x v h,(xE (lookup_mem h) λk' hm=>?_)⟩;have:(zo o k).all (λp=>p.2.bG λk=>decide (k<U (kJ f u iN)))=true:=rfl;exact fX.mp this _ hm
   refine je (eM 2)<|X1.assign (eI aM) ⟨b9 f u _,?_⟩;refine XG.norm (l':=("group",.ref 3)::zo o k) (aY:=kJ f u iN++[.list []]) (bp rfl) rfl ?_ (eM 2) (by show 3<=4;decide)<|b9 f u _
   refine je (eM 2)<|X1.Gf (names:=["i1","j1"]) (dL<|an (fw (cB (cQ _) wJ (dN _) wK) (an ah<|an (bt ah ah mt) aM) aQ.max2)<|an (fw (cB (cQ _) wJ (dN _) wK) (an ah<|an (bt ah ah mt) aM) aQ.max2) aM) ⟨b9 f u _,(jc ?_)⟩
   try dsimp only
   refine XG.norm (l':=[("j1",.int<|max (o.2.2.2.1:az)<|o.2.2.2.2-k),("i1",.int<|max (o.2.1:az)<|o.2.2.1-k),("j2",.int o.2.2.2.2),("i2",.int o.2.2.1),("tag",.str<|lQ o.1),("group",.ref 3),("nn",.int<|(k:az)+k),("codes",.ref 2),("n",.int k)]) (aY:=kJ f u iN++[.list []]) (bp rfl) rfl ?_ (eM 2) (by show 3<=4;decide)<|b9 f u _
   refine je (eM 2)<|X1.expr (iF (k:=3) (l:=[]) ah (wL _) (dL<|an ah<|an ah<|an ah<|an ah<|an ah aM) (wL _)<|bH _) ⟨b9 f u _,?_⟩;refine jc<|hK _ _ _ ⟨[mz k o],rfl,by show 1<=t+1;exact rZ _,by exact bp rfl,?_⟩;rw[QQ];rfl
  ·have hc:=kj hc;rw[show jM k cG (o::iN.drop (t+1))=jM k (cG++[o]) (iN.drop<|t+1) from aE hc];refine jc ?_
   refine je (eM 2)<|X1.expr (iF (k:=3) (l:=cG.map oV) ah (wL _) (dL<|an ah<|an ah<|an ah<|an ah<|an ah aM) (wL _)<|by rw[bg];exact M3 bJ Ib kf) ⟨b9 f u _,?_⟩;refine jc<|hK _ _ _ ⟨cG++[o],rfl,by rw[aK];exact Kl kf,by exact bp rfl,?_⟩;rw[eL];rfl
 ·refine ug hI λcG av kf ct hh=>?_
  clear hI;subst av;rw[bg] at kf ⊢;rw[vD];refine XG.norm ct hh ?_ (aG _) (by show 2<=4;decide)<|b9 f u _
  have fin:∀{aj:St} {bN:J It},bN=[]->XG (zk (TW w os dr) (fdOf<|Bd w.params) 218 L (n+6) γ sh (qz f u) 2<|va f u) (cU.nil _) 2 [] aj bN Done:=λe=>jc ⟨e,.inl rfl⟩
  match cG,kf with
  | [],_=>
   exact ig (dP.if false (aG _) (jm<|fv ah<|fu.list (k:=3) (l:=[]) rfl<|bH _) (b9 f u _) (λh=>by cases h) (λH=>jc<|fin rfl))
  | [o],_=>
   refine ig (dP.if (!decide (o.1=0)) (aG _) (kq (fv ah<|fu.list (k:=3) (l:=[oV o]) rfl<|bY rfl)<|fJ (kC (TV.not<|kq (bV (fw (cB (cQ _) (qb _) (dN _)<|qd _) (an ah aM)<|qa (k:=3) (l:=[oV o]) rfl<|by show 1<_;decide) bA mi)<|kC (bV (eJ (eJ ah bA (i7 (k:=3) (l:=[oV o]) rfl (by decide) rfl) gy) bA (gY.tup (j:=0) rfl rfl) sM) dF a8.eq_str) pY) pY)<|by rw[zn,lF,lF]) (b9 f u _) (λhc=>?_) (λhc=>?_))
   ·have hc:¬o.1=0:=by simpa using hc
    rw[show jM k [o] []=[[o]] from aE λh=>h.elim (λh=>by cases h) λh=>hc h.2];refine ig<|dP.H0 (hp:=kJ f u iN) (l':=[]) (aG _) (by show 2<=3;decide) ah rfl j9 (λx v h=>by cases h) (b9 f u _) ?_;exact jc<|fin rfl
   ·have hc:o.1=0:=by simpa using hc
    rw[show jM k [o] []=[] from aU<|.inr ⟨rfl,hc⟩];exact jc<|fin rfl
  |o::o2::l,kf=>
   have Cg:U ((o::o2::l).map oV)=(U l:az)+2:=by rw[bg];rfl
   refine ig (dP.if true (aG _) (kq (fv ah<|fu.list (k:=3) (l:=(o::o2::l).map oV) rfl<|by rw[bg];exact X7 Ib kf)<|kC (TV.not<|jm<|fJ (bV (fw (cB (cQ _) (qb _) (dN _)<|qd _) (an ah aM)<|qa (k:=3) (l:=(o::o2::l).map oV) rfl<|by rw[bg];lia) bA mi)<|by rw[Cg];exact xl.mpr<|by lia) pY) (b9 f u _) (λH=>?_) (λhc=>by cases hc));rw[show jM k (o::o2::l) []=[o::o2::l] from aE λh=>h.elim (λh=>by cases h) λh=>aZ h.1<|by show ¬(U l+1+1=1);exact X6];refine ig<|dP.H0 (hp:=kJ f u iN) (l':=[]) (aG _) (by show 2<=3;decide) ah zm j9 (λx v h=>by cases h) (b9 f u _) ?_;exact jc<|fin rfl
end zp
section
variable{w:bz}{n k1:B}{prog:du}{E:ak->ay->Prop}{aiy:ax}{S:ao->bb}{p1 p2:cN}
section
variable{os:bM}{dr:cV}
theorem afw:∀{w os dr n f u k},zp.ES w os dr n f u k () () () () () ():=by with_unfolding_all exact oM zp.ES zp.EX rfl zp.Ee _ _ _ _ _ _ _ () () () () () ()
end
theorem QT{A:bS}{s:ay}{z:ao}{t:jh}{Q:bb->ay->Prop}(hS:s.heap.SetOf (gQ prog w) aiy S n)(hb:n+1<scanBound)
  (h:∀h' k,iW aiy s.heap h'->h'.SetOf (gQ prog w) aiy (λk'=>S k'||decide (k'=z)) (if S z then n else n+1)->Q (!S z) {s with heap:=h',toks:=k}):aF (aN prog w) A (setAdd aiy<|.str z t) Q E s:=by
 exact wpAny_holding (wpAny_bind<|(gQ prog w).pyHash (sP z t)<|wpAny_setAddHashed_of (s:={s with toks:=s.toks+1}) (sP z t) (by rfl) hS hb λh' uy Co=>h h' _ uy Co)
theorem afx{A:bS}{s:ay}{Q:fF->ay->Prop}(hS:s.heap.SetOf (gQ prog w) aiy S n)
  (h:∀h',iW aiy s.heap h'->h'.SetOf (gQ prog w) aiy S n->Q () {s with heap:=h'}):aF (aN prog w) A (setUnled aiy) Q E s:=by
 refine Ln hS λo es ep t ho hex bR=>q9 bR λhd Ic pf hb hf hn=>?_
 have hf':({t with led:=false}:SetTable).fits es.size=true:=by cases t;exact hf
 refine wpAny_bind<|wpAny_setState_of ho hd hf<|wpAny_storeSet_of ho hd ?_<|fits_of_scanBound hb;obtain⟨_,hS⟩:=SetOf_store (knd:=gQ prog w) ho hex hd Ic pf hb hf';rw[hn] at hS;exact h _ (iA s.heap aiy<|bc.putSet es {t with led:=false}) hS
theorem afy{h h':bn}(hS:h.SetOf (gQ prog w) aiy S n)(e:∀o,h.get? aiy=some o->h'.get? aiy=some o):h'.SetOf (gQ prog w) aiy S n:=
 Ll hS λo es ep t r=>⟨o,es,ep,t,e o r.1,r.2⟩
section
variable{C:Cx}{st am:St}
theorem TV.QU{l:bv}{c1 c2 z:ao}{k2:B}{sp p:cN}(G:EV C n l st (.str z) am)(CH:∃c o vs,C.env.code= .ref c/\C.top.get? c=some o/\o.data= .fields vs)
  (hm:aO (behindInMarks .In (.Set [.Constant (.str c1) k1 p1,.Constant (.str c2) k2 p2] 0 sp)=true) a9):
  TV C n (.Compare l [.In] [.Set [.Constant (.str c1) k1 p1,.Constant (.str c2) k2 p2] 0 sp] p) st (decide (z=c1)||decide (z=c2)) am:=.mk λA s ρ Q hA R h=>by
 refine W.kdi_test hm<|G A s ρ _ hA R λaC x s1 N1 i1=>?_;obtain⟨tx,rfl⟩:=i1;have R1:=N1.rep;rw[arm_eval_Set];refine wpAny_bind<|wpAny_standAt ?_;have main:∀{Q:bb->ay->Prop},(∀b,Q b s1)->aF (aN C.prog C.w) A (inMainModule C.env) Q bq s1:=λh=>by
  refine lH CH λc o vs e ho hd=>?_
  unfold inMainModule;refine D e ?_
  split
  ·exact wpAny_pure<|h _
  ·refine wpAny_bind<|wpAny_fieldsOf (R1.led.top _ _ ho) hd ?_;split
   ·exact wpAny_bind<|wpAny_askSetting<|wpAny_pure<|h _
   ·exact wpAny_pure<|h _
 refine wpAny_bind<|main λb=>(D (W.kds_star _ rfl)<|D gP ?_);refine W.kds_core (ts:=(evalEach [.Constant (.str c1) k1 p1,.Constant (.str c2) k2 p2] C.env).map λt=>do let v ←t;nN sp;pure v) rfl rfl (bY rfl) (by rw[gP];rfl) λled=>?_
 let H:bc:={cls:=.type "set",dict:=aA,data:=.set #[] 0 (.fresh 0 0 led),slots:=#[]}
 have hS0:(s1.heap.push H).SetOf (gQ C.prog C.w) s1.heap.objs.size (λH=>false) 0:=
  ⟨_,#[],0,_,ew _ rfl,⟨rfl,rfl,rfl⟩,rfl,λe he=>by simp at he,λk=>by simp,by decide,by cases led<;>decide,rfl⟩
 refine W.kds_all sp _ _ _ ?_
 have N2:=bk.push R1 H s1.toks;have nD:s1.heap.objs.size∉aC:=R1.led.Bi;have nL:s1.heap.objs.size≠C.env.locals:=by
  exact aH R1.loc λmm bT H=>(kl bT.lt)
 refine dF A _ aC _ hA N2.rep λdp y1 s3 N3 i3=>?_
 obtain⟨t1,rfl⟩:=i3;refine dF A _ dp _ hA N3.rep λeY y2 s4 N4 i4=>?_
 obtain⟨t2,rfl⟩:=i4;have rh:=N3.trans N4;have QV:=afy hS0 λo e=>rh.keep _ o e nD nL;have N14:=N2.trans rh;refine KV<|QT QV (by decide) λh5 t5 QW QX=>?_;refine KV<|QT QX (by show 0+1+1<scanBound;decide) λh6 t6 QY QZ=>?_;refine W.kds_fill_nil rfl<|W.kdi_mark<|afx QZ λh7 uR hS7=>(wpAny_inSet_of (sP z tx) rfl hS7<|wpAny_truthy_bool ?_);have Q0:s1.heap.get? s1.heap.objs.size=aA:=uv;have Id:∀{h h':bn} {S:ao->bb} {k:B},h.SetOf (gQ C.prog C.w) s1.heap.objs.size S k->iW s1.heap.objs.size h h'->bF h h':=λhS sb=>by
  exact Ln hS λo es ep t ho hex H=>(jY sb ho<|ra hex.1)
 have nD4:s1.heap.objs.size∉eY:=λhm=>by
  have:=rh.fresh _ hm nD;rw[show(s1.heap.push H).get? s1.heap.objs.size=some H from ew _ rfl] at this;exact nomatch this
 show Q ((false||decide (z=c1))||decide (z=c2)) _;rw[Ax];refine h eY _<|bk.own (own:=[s1.heap.objs.size]) (N1.trans N14) (λa ha=>?_) (λa ha=>?_) (λb o hb e=>?_) ((Id QV QW).trans<|(Id QX QY).trans<|Id QZ uR) _
 ·rw[bx] at ha;subst ha;refine⟨nD4,nL,?_⟩;cases e:C.top.get? s1.heap.objs.size with
  |none=>rfl
  |some o=>have:=R1.led.top _ o e;rw[Q0] at this;exact nomatch this
 ·rw[bx] at ha;subst ha;cases e:s.heap.get? s1.heap.objs.size with
  |none=>rfl
  |some o=>have:=N1.keep _ o e (λq=>nD<|N1.pre.subset q) nL;rw[Q0] at this;exact nomatch this
 ·have hb:b≠s1.heap.objs.size:=λq=>hb<|bx.mpr q;exact(uR.2 b hb).trans<|(QY.2 b hb).trans<|(QW.2 b hb).trans e
end
section
variable{os:bM}{dr:cV}
noncomputable def afz(P:aP):bD ak:=match (Bc P).data with| .seq x _=>x|_=>#[]
theorem afA{f u:J (J B)}{k:B}(fV:U f<64)(hb:U u<200):jQ (TW w os dr) (n+6) 218 (lS f u) [.ref 3,.int k] [] (qz f u) ((groups f u k).map λg=>It.obj (.list (g.map oV))):=.mk λhA hL aV ii hQ=>QD (va f u) (by show 2<=_+1+1;exact pK _ _) (b9 f u _) (sL w.params).get (sL w.params).fd rfl (sL w.params).code (noLimit _) (λA E ρ s xs kw Q hL aV ii hq=>by
  obtain rfl:kw=[]:=xa.mp ii;rw[pJ,cM] at aV;refine cE aV λx r bE i1 bR=>?_
  clear aV;subst bE;refine cE bR λy r' uJ i2 i3=>?_
  clear bR;subst uJ;obtain rfl:r'=[]:=i3;have h3:(fdOf<|Bd w.params).defaults= .ref 211:=by kernel_rfl
  have h4:(bZ w.params).get? 211=some (Bc w.params):=by kernel_rfl
  have h5:(Bc w.params).data= .seq (afz w.params) 0:=by kernel_rfl
  exact Ej (binds:=(["self","n"]:J ao).zip [x,y]) h3 (hL.top _ _ h4) h5 (bindK_eq _ _) rfl _ _ _ _ (hq [x,y] s.heap s.toks (λH H e=>e) (aG _) ⟨x,_,rfl,i1,y,_,rfl,i2,rfl⟩)) (sL w.params).nd (sL w.params).cell (sL w.params).loc (afw fV hb) hA hL aV ii hQ
theorem afB:ea (.type "object") "get_grouped_opcodes"=pure aA:=by rw[typeLookup_type,builtinLookup_eq_fast];kernel_rfl
theorem afC{o:b8}:(decide (lQ o.1="replace")||decide (lQ o.1="delete"))=decide (o.1=1\/o.1=2):=by
 match o.1 with
 |0=>decide
 |1=>decide
 |2=>decide
 |(k+3)=>
  show(decide (("insert":ao)="replace")||decide (("insert":ao)="delete"))=_;rw[fB (by decide:¬("insert":ao)="replace"),fB (by decide:¬("insert":ao)="delete"),fB Yp];rfl
theorem afD{o:b8}:(decide (lQ o.1="replace")||decide (lQ o.1="insert"))=decide (o.1=1\/3<=o.1):=by
 match o.1 with
 |0=>decide
 |1=>decide
 |2=>decide
 |(k+3)=>
  show(decide (("insert":ao)="replace")||decide (("insert":ao)="insert"))=_;rw[fB (by decide:¬("insert":ao)="replace"),dG (by decide:("insert":ao)="insert"),dG Yo];rfl
noncomputable def Ie(d:J B):J B:=if d=[] then[] else 9::d
theorem Q1{C:Cx}{st:St}{d:J B}{x:ao}{p3 p4 p5 p6 p7:cN}{k2:B}(hz:U d<=1000)(hx:st.loc.lookup x=some (.str<|tx d))
  (lL:(p3.endLine==p5.line)=true) (hk:aO (C.env.scope.kind= .function) a9) (hn:aO (C.env.kindOf x=some .local) a9) (hd:aO ((x==("__debug__":ao))=false) aD._auto_1):
  EV C n (.IfExp (.Name x p1) (.Call (.Attribute (.Constant (.str "\t{}") k1 p2) "format" p3) [.Name x p4] [] p5) (.Constant (.str "") k2 p6) p7) st (.str<|tx<|Ie d) st:=by
 have hl:(tx d).length=U d:=jH d;refine EV.yw (c:=(tx d).length !=0) (fv (ah hx hk hn hd)<|fu.str<|Yn hl hz) (λhc=>?_) λhc=>?_
 ·have hc:d≠[]:=λe=>by rw[hl,e] at hc;exact nomatch hc
  simp only[show Ie d=9::d from aE hc];exact jq dF nY (an (ah hx hk hn hd) aM) (aQ.ac3<|un hz) nR ub uc rfl rfl lL
 ·have hc:d=[]:=by
   cases d with
   |nil=>rfl
   |cons a d=>rw[hl] at hc;exact Aw hc
  exact D (show Ie d=[] from aU hc) dF
noncomputable def lp(f1 f2 d1 d2 e:J B)(k:B):J (ao×V):=[("lineterm",.str<|tx e),("n",.int k),("tofiledate",.str<|tx d2),("fromfiledate",.str<|tx d1),("tofile",.str<|tx f2),("fromfile",.str<|tx f1),("b",.ref 1),("a",.ref 0)]
noncomputable def iK(f u:J<|J B):J O:=[.list<|aw f,.list<|aw u]
theorem Q2(n i:B):qU n (i:az)=min i n:=by
 unfold qU;refine D (aE<|by lia) ?_
 omega
theorem Q3{α:Type}(l:J α)(i j:B):m5 l (some (i:az)) (some (j:az))=dw l i j:=by
 unfold m5 dw;show(l.drop<|qU (U l) (i:az)).take (qU (U l) (j:az)-qU (U l) (i:az))=_;simp only[Q2,Q2]
 by_cases hi:i<=U l
 ·refine D (tP hi) ?_
  by_cases hj:j<=U l
  ·exact D (tP hj) rfl
  ·refine D (D7<|AV hj) ?_
   rw[qL (by rw[kO];exact aG _),qL<|by rw[kO];exact Ym hj]
 ·simp only[D7<|lz<|tN hi,vD,JB<|AV hi];simp
theorem Q4(l:J<|J B)(i j:B):dw (aw l) i j=aw (dw l i j):=by
 unfold dw aw;simp only[←J.map_drop,←J1]
theorem a8.oh{C:Cx}{st:St}{a b:J B}(h:U a+U b<=16777216):a8 C n (pM .Add) (.str<|tx a) (.str<|tx b) st (.str<|tx<|a++b) st:=by
 have:=nZ (C:=C) (n:=n) (st:=st) (a:=tx a) (b:=tx b) (by simp only[kY,jH,aK];exact mo h);rwa [kY] at this
noncomputable abbrev gU(w:bz)(os:bM)(dr:cV)(n:B)(L γ:B)(sh:J<|ax×J V)(f u:J<|J B):GC:=zk (TW w os dr) (fdOf<|xV w.params) 261 L n γ sh (qz f u) 2<|va f u
theorem Ig{L γ:B}{sh:J (ax×J V)}{f u ll:J (J B)}{R:cU (gU w os dr n L γ sh f u)}{q kx i j c:B}{X Ix Jx sg:ao}{p3 p4 p5 p6 p7 p8 p9 p10 p11 p12:cN}{l l0:J (ao×V)}{tl:J O}{rest:J It}{Φ:Fl->J It->St->Prop}
  (hq:2<=q) (wG:q<=U tl+2) (hX:l.lookup X=some (.ref kx)) (hI:l.lookup Ix=some (.int i)) (hJ:l.lookup Jx=some (.int j)) (hk:(.list (aw f):: .list (aw u)::tl:J O)[kx]?=some (.list<|aw ll)) (hz:U ll<=1000) (hlz:∀x∈ll,U x<=1000) (uT:sg=tx [c])
  (hl:SubL l0 l) (H8:l0.lookup ("line":ao)=aA) (iM:∀l',SubL l0 l'->Φ .next rest ⟨l',.list (aw f):: .list (aw u)::(tl++[.list<|aw<|dw ll i j])⟩)
  (nX:aO ((gU w os dr n L γ sh f u).C.env.kindOf X=some .local) a9) (nI:aO ((gU w os dr n L γ sh f u).C.env.kindOf Ix=some .local) a9) (nJ:aO ((gU w os dr n L γ sh f u).C.env.kindOf Jx=some .local) a9)
  (dX:aO ((X==("__debug__":ao))=false) aD._auto_1) (dI:aO ((Ix==("__debug__":ao))=false) aD._auto_1) (dJ:aO ((Jx==("__debug__":ao))=false) aD._auto_1):
  dP (gU w os dr n L γ sh f u) R q (.For (.Name "line" p1) (.Subscript (.Name X p2) (.Slice (some<|.Name Ix p3) (some<|.Name Jx p4) aA p5) p6) [.Expr (.Yield (some<|.BinOp (.Constant (.str sg) k1 p7) .Add (.Name "line" p8) p9) p10) p11] [] p12)
   ⟨l,.list (aw f):: .list (aw u)::tl⟩ (((dw ll i j).map λx=>It.val<|.str<|tx<|c::x)++rest) Φ:=by
 have qg:∀x∈dw ll i j,U x<=1000:=λx hx=>hlz x<|JH<|DP hx;have afE:EV (gU w os dr n L γ sh f u).C n (.Subscript (.Name X p2) (.Slice (some<|.Name Ix p3) (some<|.Name Jx p4) aA p5) p6) ⟨l,.list (aw f):: .list (aw u)::tl⟩ (.ref<|U tl+2) ⟨l,.list (aw f):: .list (aw u)::(tl++[.list<|aw<|dw ll i j])⟩:=by
  have h:=EV.slice (C:=(gU w os dr n L γ sh f u).C) (n:=n) (st:=⟨l,.list (aw f):: .list (aw u)::tl⟩) (am:=⟨l,.list (aw f):: .list (aw u)::tl⟩) (ba:=⟨l,.list (aw f):: .list (aw u)::tl⟩) (ce:=⟨l,.list (aw f):: .list (aw u)::tl⟩) (k:=kx) (a:=some (i:az)) (b:=some (j:az)) (p:=p5) (pos:=p6) (ah (p:=p2) hX rfl nX dX) (PV.some<|ah (p:=p3) hI rfl nI dI) (PV.some<|ah (p:=p4) hJ rfl nJ dJ) (l:=aw ll) hk (by exact D (en _)<|Fq hz);rw[Q3,Q4] at h;exact h
 have cO:(.list (aw f):: .list (aw u)::(tl++[.list<|aw<|dw ll i j]):J O)[U tl+2]?=some (.list<|aw<|dw ll i j):=by
  show(tl++[O.list<|aw<|dw ll i j])[U tl]?=_;simp only[dc<|aG _,fG];rfl
 refine dP.for (U tl+3) (λt bN aj=>bN=(((dw ll i j).drop t).map λx=>It.val<|.str<|tx<|c::x)++rest/\SubL l0 aj.loc/\aj.hp= .list (aw f):: .list (aw u)::(tl++[.list<|aw<|dw ll i j]))
  (gw.of afE<|fP.list cO) (b9 f u _) hq ⟨by simp only[mH],hl,rfl⟩ (λt bN aj H i6=>?_) (aG _) (by exact ly ‹_›) (λR' t aiA bN aj hu i6=>?_) (λbN aj i6=>?_)
 ·exact D i6.2.2 cO
 ·refine eh i6 λav ct hh=>?_
  clear i6;subst av;unfold aw at hu;simp only[c7] at hu;cases ij:(dw ll i j)[t]? with
  |none=>rw[ij] at hu;exact nomatch hu
  |some x=>
  rw[ij] at hu;obtain rfl:aiA= .str (tx x):=by cases hu;rfl
  clear hu;have bJ:t<U (dw ll i j):=(cJ.mp ij).1;have hxl:U x<=1000:=qg x<|dT ij;have iI:(dw ll i j).drop t=x::(dw ll i j).drop (t+1):=by
   refine D (vy bJ) ?_
   rw[bO bJ] at ij;cases ij;rfl
  have eo:gK aj.hp (qz f u):=by exact D hh<|b9 f u _
  refine⟨_,bW,eo,(XG.hide λΦ hK=>(D iI<|D eu<|D jT ?_))⟩;refine ig<|dP.Cu (by show 2<=_;exact pK _ _) (bt (EV.tx [c] uT) ah<|a8.oh<|by simp;exact Yl hxl) rfl eo ?_;refine jc<|hK _ _ _ ⟨rfl,λz v Ih=>?_,hh⟩;have cw:z≠("line":ao):=λe=>by rw[e,H8] at Ih;cases Ih
  exact(BG cw).trans<|ct z v Ih
 ·refine eh i6 λav ct hh=>?_
  clear i6;subst av;refine D (en _)<|D vD ?_;obtain⟨l',hp⟩:=aj;dsimp only at hh;subst hh;exact iM l' ct
theorem CI{a b:az}(ha:a.natAbs<2 ^ 60)(hb:b.natAbs<2 ^ 60):U (lN a b)<=5000:=by
 have G:=GT (i:=a) (by lia);have h2:=GT (i:=b) (by lia);have h3:=GT (i:=a+1) (by omega);unfold lN;split
 ·exact D aK<|Yk G
 ·split
  ·exact Yj h3
  ·simp only[aK,aK];exact Yi h2 h3
theorem afF{g:J b8}(h:g≠[]):(g.map oV)[0]?=some (oV<|g.headD jw):=by
 cases g with
 |nil=>exact aZ rfl h
 |cons o l=>rfl
theorem afG{g:J b8}(h:g≠[]):(g.map oV)[U g-1]?=some (oV<|g.getLastD jw):=by
 refine D (c7) ?_
 rcases rS g with h'|⟨l,o,rfl⟩
 ·exact aZ h' h
 ·simp only[rT,aK,J.getLastD_concat];show bC.map oV (l++[o])[U l+1-1]?=_;simp only[D6,dc<|aG _,fG];rfl
noncomputable def oj(f1 f2 d1 d2 e:J B)(k:B):J (ao×V):=("group",.ref 2)::("started",.bool true)::lp f1 f2 d1 d2 e k
noncomputable def wM(o:b8)(f1 f2 d1 d2 e:J B)(k:B):J (ao×V):=("j2",.int o.2.2.2.2)::("j1",.int o.2.2.2.1)::("i2",.int o.2.2.1)::("i1",.int o.2.1)::("tag",.str<|lQ o.1)::oj f1 f2 d1 d2 e k
end
end
namespace zq
noncomputable def ES(w:bz)(os:bM)(dr:cV)(n:B)(f:J<|J B)(u:J<|J B)(k:B)(f1:J B)(f2:J B)(d1:J B)(d2:J B)(e:J B)(_:fF):Prop:=(U f<64)->(U u<200)->(U f1<=1000/\U f2<=1000/\U d1<=1000/\U d2<=1000/\U e<=1000)->((∀x∈f,U x<=1000)/\∀x∈u,U x<=1000)->(∀g∈groups f u k,GoodG g)->∀L γ sh,XG (gU w os dr (n+8) L γ sh f u) (cU.nil _) 2 (fBody [7]) ⟨(["a","b","fromfile","tofile","fromfiledate","tofiledate","n","lineterm"]:J ao).zip [.ref 0,.ref 1,.str<|tx f1,.str<|tx f2,.str<|tx d1,.str<|tx d2,.int k,.str<|tx e],iK f u⟩
   ((fx f u k f1 f2 d1 d2 e).map λx=>It.val<|.str<|tx x) Done
@[irreducible] noncomputable def EX:=nU oO default {} 0 [] [] 0 [] [] [] [] [] () ES
noncomputable def w:=EX.1
noncomputable def os:=EX.2.1
noncomputable def dr:=EX.2.2.1
noncomputable def n:=EX.2.2.2.1
noncomputable def f:=EX.2.2.2.2.1
noncomputable def u:=EX.2.2.2.2.2.1
noncomputable def k:=EX.2.2.2.2.2.2.1
noncomputable def f1:=EX.2.2.2.2.2.2.2.1
noncomputable def f2:=EX.2.2.2.2.2.2.2.2.1
noncomputable def d1:=EX.2.2.2.2.2.2.2.2.2.1
noncomputable def d2:=EX.2.2.2.2.2.2.2.2.2.2.1
noncomputable def e:=EX.2.2.2.2.2.2.2.2.2.2.2.1
theorem Ee:ES w os dr n f u k f1 f2 d1 d2 e ():=λfV hb hz hl hG=>by
 intro L γ sh;have cl:=qh w.params;have ck:=acD (w:=w) (os:=os) (dr:=dr) (n:=n+7) (l1:=f) (l2:=u) (s1:=tx f1) (s2:=tx f2) (s3:=tx d1) (s4:=tx d2) (s5:=tx e) (M5 fV)<|M4 hb;have Ij:gC (iK f u):=gh eZ<|fM eZ;refine je (aG _)<|X1.expr dF ⟨b9 f u _,(je (aG _)<|X1.expr (jD (hH (cQ _)<|aba _) (Go _).get (Go _).fd (an ah<|an ah<|an ah<|an ah<|an ah<|an ah<|an ah aM)<|cC.same ck (aG _) Ij rfl) ⟨b9 f u _,(je (aG _)<|X1.assign EV.bool ⟨b9 f u _,(XG.norm (l':=("started",.bool false)::lp f1 f2 d1 d2 e k) (aY:=iK f u) (bp rfl) rfl ?_ (aG _) (aG _)<|b9 f u _)⟩)⟩)⟩
 refine sf hz λHW hz2 hz3 hz4 Ik=>ig (dP.afa 2 (λt bN aj=>bN=(((if t=0/\groups f u k≠[] then[Cd [45,45,45,32] f1 d1 e,Cd [43,43,43,32] f2 d2 e] else[])++((groups f u k).drop t).flatMap (ry f u e)).map λx=>It.val (.str (tx x)))/\SubL (("started",.bool (decide (0<t)))::lp f1 f2 d1 d2 e k) aj.loc/\aj.hp=iK f u) (objs:=(groups f u k).map λg=>.list (g.map oV))
  (λi h=>h) QC (gP▸(po.ro (k:=3) (d:=2) (l:=jJ (U (keysOf u))) (EV.qf (hH (cQ _) (abd _)) (an EV.none (an ah (an ah aM))) (gz.cls (GS _)) (gA.of (ae2 hb))) rfl rfl cl (aco _) (sL _).get rfl (sL _).fd afB (an ah aM) (afA fV hb) ⟨_,rfl⟩ Ij (λp hp=>by
   unfold lp at hp;revert p;simp only[J.forall_mem_cons]
   exact⟨rfl,rfl,rfl,rfl,rfl,rfl,rfl,rfl,rfl,λH h=>by exact nomatch h⟩) (λi hi=>by
   match i,hi with
   |0,_=>exact⟨_,.head _,rfl⟩
   |1,_=>exact⟨_,.tail _ (.head _),rfl⟩) (va f u) (b9 f u _) (by kernel_rfl) (by kernel_rfl))) (aG _) ⟨?_,λH H h=>h,rfl⟩ (aG _) (λR' t o bN aj hu hI=>?_) (λbN aj hI=>?_))
 ·unfold fx
  by_cases hg:groups f u k=[]
  ·rw[aU hg,aE λh=>h.2 hg,mH]
  ·rw[aE hg,aU ⟨rfl,hg⟩,mH]
 ·refine eh hI λav ct hh=>?_
  clear hI;subst av;obtain⟨l,hp⟩:=aj;subst hh;simp only[c7] at hu;cases ij:(groups f u k)[t]? with
  |none=>rw[ij] at hu;exact nomatch hu
  |some g=>
  rw[ij] at hu;obtain rfl:o= .list (g.map oV):=by cases hu;rfl
  clear hu;have bJ:t<U (groups f u k):=(cJ.mp ij).1;have cw:groups f u k≠[]:=λe=>by rw[e] at bJ;cases bJ
  have iI:(groups f u k).drop t=g::(groups f u k).drop (t+1):=by
   refine D (vy bJ) ?_
   rw[bO bJ] at ij;cases ij;rfl
  have afH:=hG g<|dT ij;refine⟨_,bW,b9 f u _,(XG.hide λΦ hK=>?_)⟩;refine XG.norm (l':=("group",.ref 2)::("started",.bool<|decide (0<t))::lp f1 f2 d1 d2 e k) (aY:=iK f u++[.list<|g.map oV]) (SubL.cons rfl λx v h=>?_) rfl ?_ (aG _) (by show 2<=3;decide)<|b9 f u _
  ·have uF:x≠("group":ao):=λe'=>by
    subst e';have h0:mI ("group":ao) (("started",V.bool<|decide (0<t))::lp f1 f2 d1 d2 e k)=aA:=by rfl
    rw[h0] at h;cases h
   exact(BG uF).trans<|ct x v h
  clear ct;refine D iI<|D fa ?_
  refine ig (dP.mono (u3:=λfl jP aj=>fl= .next/\jP=((ry f u e g++((groups f u k).drop (t+1)).flatMap (ry f u e)).map λx=>It.val (.str (tx x)))/\SubL (("group",.ref 2)::("started",.bool true)::lp f1 f2 d1 d2 e k) aj.loc/\aj.hp=iK f u++[.list (g.map oV)])
   (dP.if (!(decide (0<t))) (aG _) (TV.not (fv ah kR)) (b9 f u _) (λhc=>?_) (λhc=>?_)) ?_)
  ·have ht:t=0:=by
    cases t with
    |zero=>rfl
    |succ t=>simp at hc
   rw[aU ⟨ht,cw⟩,jT,jT,nG,eu,eu];refine je (aG _)<|X1.assign EV.bool ⟨b9 f u _,(je (aG _)<|X1.assign (Q1 hz3 rfl rfl) ⟨b9 f u _,(je (aG _)<|X1.assign (Q1 hz4 rfl rfl) ⟨b9 f u _,?_⟩)⟩)⟩;have Il:U (if d1=[] then[] else 9::d1)<=1001:=by split<;>simp;assumption
   have hd2:U (if d2=[] then[] else 9::d2)<=1001:=by split<;>simp;assumption
   exact ig (dP.Cu (aG _) (jq dF nY (an ah<|an ah<|an ah aM) (aQ.ac4 (un HW) (M7 Il)<|un Ik) nR ub uc) rfl (b9 f u _)<|ig<|dP.Cu (aG _) (jq dF nY (an ah<|an ah<|an ah aM) (aQ.ac5 (by exact un hz2) (by exact M7 hd2)<|by exact un Ik) nR ub uc) rfl (b9 f u _)<|jc ⟨rfl,rfl,by exact bp rfl,rfl⟩)
  ·have ht:0<t:=by simpa using hc
   rw[aE (λh=>by exact Yh ht h.1),nG];exact jc ⟨rfl,rfl,(D (dG ht) λH H h=>h),rfl⟩
  intro fl jP aj dM;refine gg dM λav bE ct hh=>?_
  clear dM;subst av bE
  try dsimp only
  refine XG.norm ct hh ?_ (aG _) (by show 2<=3;decide)<|b9 f u _
  refine q9 afH λqA kf pb jv s9 kb=>?_
  have hf:=afF qA;have rE:=afG qA;have hgp:1<=U g:=oA.mpr qA;rw[show ry f u e g=Cc g e::g.flatMap (k9 f u) from rfl,jT,eu];unfold Cc;generalize BP:g.headD jw=fo at*;generalize hld:g.getLastD jw=lo at*;have CK:gK (iK f u++[.list<|g.map oV]) (qz f u):=b9 f u _;refine je (aG _)<|X1.Gf (names:=["first","last"]) (dL<|an (eJ ah bA (i7 (k:=2) (l:=g.map oV) rfl (by decide) hf) gy)<|an (eJ ah (EV.neg bA) (gY.GD (k:=2) (l:=g.map oV) rfl (by decide) (by refine D (bg _) ?_;lia)<|by refine D (bg _)<|D (show(-1+(U g:az)).toNat=U g-1 by lia) ?_;exact rE) gy) aM) ⟨b9 f u _,?_⟩;refine je (aG _)<|X1.assign (jD (hH (cQ _)<|Ou _) (ym _).get (ym _).fd (an (eJ ah bA (gY.tup (j:=1) rfl rfl) sM)<|an (eJ ah bA (gY.tup (j:=2) rfl rfl) sM) aM)<|aQ.wm<|O3 (a:=(fo.2.1:az)) (b:=(lo.2.2.1:az)) (by lia) (by lia)<|by lia) ⟨b9 f u _,(je (aG _)<|X1.assign (jD (hH (cQ _)<|Ou _) (ym _).get (ym _).fd (an (eJ ah bA (gY.tup (j:=3) rfl rfl) sM)<|an (eJ ah bA (gY.tup (j:=4) rfl rfl) sM) aM)<|aQ.wm<|O3 (a:=(fo.2.2.2.1:az)) (b:=(lo.2.2.2.2:az)) (by lia) (by lia)<|by lia) ⟨b9 f u _,?_⟩)⟩;have qj:=CI (a:=(fo.2.1:az)) (b:=(lo.2.2.1:az)-fo.2.1) (by lia) (by lia);have uS:=CI (a:=(fo.2.2.2.1:az)) (b:=(lo.2.2.2.2:az)-fo.2.2.2.1) (by lia) (by lia);refine ig<|dP.Cu (aG _) (jq dF nY (an ah<|an ah<|an ah aM) (aQ.ac6 (M6 qj) (M6 uS)<|un Ik) nR ub uc) rfl (b9 f u _) ?_;refine XG.norm (l':=oj f1 f2 d1 d2 e k) (aY:=iK f u++[.list<|g.map oV]) (by unfold oj lp;exact bp rfl) rfl ?_ (aG _) (by show 2<=3;decide)<|b9 f u _
  have CH:∃c o vs,(gU w os dr (n+8) L γ sh f u).C.env.code= .ref c/\(gU w os dr (n+8) L γ sh f u).C.top.get? c=some o/\o.data= .fields vs:=by
   exact Lo ((rm w.params).code) λc oc vs tq hc Ia hdc H=>(⟨c,oc,vs,hc,Ia,hdc⟩)
  have Q5:U f<=1000:=by exact M5 fV
  have afI:U u<=1000:=by exact M4 hb
  have afJ:gC (iK f u++[.list<|g.map oV]):=gh eZ<|gh eZ<|fM zm;have cut:∀{l l':J (ao×V)} {junk:J O},SubL l' l->(l'.all λp=>p.2.bG λk=>decide (k<3))=true->jn 3 ⟨l,iK f u++[.list<|g.map oV]++junk⟩ ⟨l',iK f u++[.list<|g.map oV]⟩:=λhs hv=>
   mw (aG _) afJ hs λp hp=>fX.mp hv p hp
  refine ig (dP.for 3 (λt2 bN aj=>bN=(((g.drop t2).flatMap (k9 f u)++((groups f u k).drop (t+1)).flatMap (ry f u e)).map λx=>It.val (.str (tx x)))/\SubL (oj f1 f2 d1 d2 e k) aj.loc/\aj.hp=iK f u++[.list (g.map oV)])
   (gw.of ah (fP.list (k:=2) (items:=g.map oV) rfl)) (b9 f u _) (aG _) ⟨by exact D mH rfl,λH H h=>h,rfl⟩ (λt2 bN aj H hI=>?_) (aG _) (by decide) (λR2 t2 aiA bN aj hu hI=>?_) (λbN aj hI=>?_))
  ·exact D hI.2.2 rfl
  ·refine eh hI λav og fK=>?_
   clear hI;subst av;rw[c7] at hu;cases zr:g[t2]? with
   |none=>rw[zr] at hu;cases hu
   |some o=>
   rw[zr] at hu;obtain rfl:aiA=oV o:=by cases hu;rfl
   clear hu;have wy:t2<U g:=(cJ.mp zr).1;have afK:g.drop t2=o::g.drop (t2+1):=by
    refine D (vy wy) ?_
    rw[bO wy] at zr;cases zr;rfl
   refine⟨_,cW.norm og fK<|cW.tup<|bU.cons bW<|bU.cons bW<|bU.cons bW<|bU.cons bW<|bU.cons bW bU.nil,b9 f u _,(XG.hide λΦ hK=>?_)⟩;refine XG.norm (l':=wM o f1 f2 d1 d2 e k) (aY:=iK f u++[.list<|g.map oV]) (by unfold wM oj lp;exact bp rfl) rfl ?_ (eM 2) (by show 3<=3;decide)<|b9 f u _
   rw[afK,fa,cm,eL];generalize yS:((g.drop<|t2+1).flatMap (k9 f u)++((groups f u k).drop<|t+1).flatMap (ry f u e)).map (λx=>It.val<|.str<|tx x)=rest;refine ig<|dP.if (decide (o.1=0)) (eM 2) (zn▸bV ah dF a8.eq_str) (b9 f u _) (λhc=>?_) (λhc=>jc ?_)
   ·have hc:=dq hc;refine D (show k9 f u o=(dw f o.2.1 o.2.2.1).map (32:: ·) from aU hc)<|D gP ?_;refine ig (Ig (q:=3) (kx:=0) (ll:=f) (c:=32) (l0:=oj f1 f2 d1 d2 e k) (eM 2) (aG _) rfl rfl rfl rfl Q5 hl.1 rfl (by unfold oj lp;exact bp rfl) rfl λl' kt=>?_);refine XG.conv (cut (junk:=[_]) kt rfl) (eM 2) (by show 3<=4;decide) (b9 f u _) ?_
    refine ig<|dP.lift (eM 2) (X1.cont (K:=λfl aj=>fl= .cont/\aj=⟨oj f1 f2 d1 d2 e k,iK f u++[.list<|g.map oV]⟩) ⟨rfl,rfl⟩) λfl aj hk=>(xA hk λav bE=>?_);clear hk;subst av bE;exact⟨b9 f u _,hK _ _ _ ⟨yS.symm,λH H h=>h,rfl⟩⟩
   ·have hc:=kj hc;rw[show k9 f u o=(if o.1=1\/o.1=2 then(dw f o.2.1 o.2.2.1).map (45:: ·) else[])++(if o.1=1\/3<=o.1 then(dw u o.2.2.2.1 o.2.2.2.2).map (43:: ·) else[]) from aE hc,eL,cm];generalize afL:(if o.1=1\/3<=o.1 then(dw u o.2.2.2.1 o.2.2.2.2).map (43:: ·) else[]).map (λx=>It.val<|.str<|tx x)++rest=afM
    refine ig (dP.mono (u3:=λfl jP aj=>fl= .next/\jP=afM/\SubL (wM o f1 f2 d1 d2 e k) aj.loc/\aj.hp=iK f u++[.list (g.map oV)])
     (dP.if (decide (o.1=1\/o.1=2)) (eM 2) (afC▸TV.QU ah CH) (b9 f u _) (λhd=>?_) (λhd=>jc ?_)) ?_)
    ·have hd:=dq hd;refine D (aU hd)<|D gP ?_;refine ig (Ig (q:=3) (kx:=0) (ll:=f) (c:=45) (l0:=wM o f1 f2 d1 d2 e k) (eM 2) (aG _) rfl rfl rfl rfl Q5 hl.1 rfl (by unfold wM oj lp;exact bp rfl) rfl λl' kt=>?_);refine XG.conv (cut (junk:=[_]) kt rfl) (eM 2) (by show 3<=4;decide) (b9 f u _) ?_
     exact jc ⟨rfl,rfl,λH H h=>h,rfl⟩
    ·have hd:=kj hd;refine D (aE hd) ?_
     exact⟨rfl,rfl,by unfold wM oj lp;exact bp rfl,rfl⟩
    intro fl jP aj hU;refine gg hU λav bE zt tn=>?_
    clear hU;subst av bE
    try dsimp only
    refine XG.norm zt tn ?_ (eM 2) (by show 3<=3;decide)<|b9 f u _
    subst afL;refine ig<|dP.if (decide (o.1=1\/3<=o.1)) (eM 2) (afD▸TV.QU ah CH) (b9 f u _) (λhd=>?_) (λhd=>jc ?_)
    ·have hd:=dq hd;refine D (aU hd)<|D gP ?_;refine ig (Ig (q:=3) (kx:=1) (ll:=u) (c:=43) (l0:=oj f1 f2 d1 d2 e k) (eM 2) (aG _) rfl rfl rfl rfl afI hl.2 rfl (by unfold oj lp;exact bp rfl) rfl λl' kt=>?_);refine XG.conv (cut (junk:=[_]) kt rfl) (eM 2) (by show 3<=4;decide) (b9 f u _) ?_
     exact jc<|jc<|hK _ _ _ ⟨yS.symm,λH H h=>h,rfl⟩
    ·have hd:=kj hd;exact D (aE hd) (jc<|hK _ _ _ ⟨yS.symm,by exact bp rfl,rfl⟩)
  ·refine eh hI λav og fK=>?_
   clear hI;subst av;refine D (bg _)<|D vD ?_;obtain⟨l',aY⟩:=aj;dsimp only at fK og;subst fK;refine XG.conv (aj:=⟨("started",.bool true)::lp f1 f2 d1 d2 e k,iK f u⟩) (mw (junk:=[_]) (aG 2) Ij (λx v h=>og x v ?_) ?_) (aG 2) (by show 2<=3;decide) (b9 f u _)<|jc<|hK _ _ _ ⟨?_,?_,rfl⟩
   ·have uF:x≠("group":ao):=λe'=>by
     subst e';have h0:mI ("group":ao) (("started",V.bool true)::lp f1 f2 d1 d2 e k)=aA:=by rfl
     rw[h0] at h;cases h
    exact D gv<|D (xl.mpr uF) h
   ·intro p hp;have:(((("started":ao),V.bool true)::lp f1 f2 d1 d2 e k).all λp=>p.2.bG λk=>decide (k<2))=true:=by rfl
    exact fX.mp this p hp
   ·exact D (aE λh=>by exact Yg h.1) rfl
   ·exact D (dG<|by exact Ye) λH H h=>h
 ·refine eh hI λav ct hh=>?_
  clear hI;subst av;exact D (bg _)<|D vD<|D (aE λh=>h.2<|DL.mp h.1)<|jc ⟨rfl,.inl rfl⟩
end zq
section
variable{steps:J (J B×J B)}
section
variable{w:bz}{os:bM}{dr:cV}{n:B}
theorem afN:∀{w os dr n f u k f1 f2 d1 d2 e},zq.ES w os dr n f u k f1 f2 d1 d2 e ():=by with_unfolding_all exact oM zq.ES zq.EX rfl zq.Ee _ _ _ _ _ _ _ _ _ _ _ _ ()
end
theorem afO(steps:J<|J B×J B)(hs:∀p∈steps,U p.1<=1000/\U p.2<=1000):(∀r∈(rowsOf steps).1,r≠[]/\U r<=1001)/\∀r∈(rowsOf steps).2,r≠[]/\U r<=1001:=by
 have:∀(l:J<|J B×J B) (s:J (J B)×J (J B)),(∀p∈l,U p.1<=1000/\U p.2<=1000)->(∀r∈s.1,r≠[]/\U r<=1001)->(∀r∈s.2,r≠[]/\U r<=1001)->(∀r∈(l.foldl iH s).1,r≠[]/\U r<=1001)/\∀r∈(l.foldl iH s).2,r≠[]/\U r<=1001:=by
  intro l
  induction l with
  |nil=>intro s _ G h2;exact⟨G,h2⟩
  |cons p l ih=>
   intro s hl G h2;refine xA (hl p (.head _)) λji iK=>?_
   simp only[l6];have one:∀(c:B) (x:J B),U x<=1000->(c::x≠[]/\U (c::x)<=1001):=λc x h=>⟨(λq=>nomatch q),by simp only[cK];exact YQ h⟩
   refine ih _ (λq hq=>hl q<|.tail _ hq) ?_ ?_
   ·unfold iH;split
    ·intro r hr;rcases bK.mp hr with hr|hr
     ·rcases bK.mp hr with hr|hr
      ·exact G r hr
      ·exact h2 r hr
     ·rw[bx] at hr;subst hr;exact one _ _ ji
    ·dsimp only;split
     ·exact G
     ·intro r hr;rcases bK.mp hr with hr|hr
      ·exact G r hr
      ·rw[bx] at hr;subst hr;exact one _ _ ji
   ·unfold iH;split
    ·intro r hr;exact nomatch hr
    ·dsimp only;split
     ·exact h2
     ·intro r hr;rcases bK.mp hr with hr|hr
      ·exact h2 r hr
      ·rw[bx] at hr;subst hr;exact one _ _ iK
 exact this steps ([],[]) hs (λr hr=>nomatch hr) λr hr=>nomatch hr
theorem afP(hs:∀p∈steps,U p.1<=1000/\U p.2<=1000):∀r∈gk steps,r≠[]/\U r<=1001:=λr hr=>by
 refine xA (afO steps hs) λG h2=>?_
 rcases bK.mp hr with hr|hr
 ·exact G r hr
 ·exact h2 r hr
theorem om(aiz:J O)(o:O):(aiz++[o])[U aiz]?=some o:=by simp only[dc<|aG _,fG];rfl
theorem Q6(aiz:J O)(o o':O):(aiz++[o]++[o'])[U aiz]?=some o:=by(refine D (cA<|by rw[aK];exact tO _) ?_);exact om aiz o
theorem afQ{α:Type}(l:J α)(i j:B):U (dw l i j)<=U l:=by
 unfold dw;simp only[gE,kO];exact YP
theorem Q7{hd rows:J (J B)}{ps:J Piece}{i:B}{p:Piece}(h:ps[i]?=some p):(cH steps hd rows ps)[4+2*i]?=some (.list<|aw p.2.2)/\(cH steps hd rows ps)[5+2*i]?=some (.list [.int p.1,.int p.2.1,.ref<|4+2*i]):=by
 have:=PX ps 4 i p h;simp only[show 4+2*i=2*i+1+1+1+1 by exact tR _ _,show 5+2*i=2*i+1+1+1+1+1 by exact tR _ _];rw[show 4+2*i=2*i+1+1+1+1 by exact tR _ _] at this;exact this
noncomputable def nz(k m:B)(e:J B):J (ao×V):=[("due",.ref<|4+2*m),("pieces",.ref 3),("rows",.ref 2),("end",.str<|tx e),("heads",.ref 1),("around",.int k),("steps",.ref 0)]
theorem Q8{t:J B}{a:B}{t':J B}(h:t=a::t'):(oF 0 (tx t).length).bind ((tx t).cps[·]?)=some a:=by
 subst h;unfold oF;refine D (jH _) ?_
 simp[tx]
theorem EV.afR{C:Cx}{n:B}{st:St}{value lo up:bv}{p pos:cN}{kx i j:B}{l:J (J B)}{zi zj:az}(G:EV C n value st (.ref kx) st)(h2:EV C n lo st (.int zi) st)(h3:EV C n up st (.int zj) st)(hk:st.hp[kx]?=some (.list<|aw l))(hz:U l<=16777216)(ei:zi=(i:az))(ej:zj=(j:az)):
  EV C n (.Subscript value (.Slice (some lo) (some up) aA p) pos) st (.ref<|U st.hp) ⟨st.loc,st.hp++[.list<|aw<|dw l i j]⟩:=by
 subst ei ej;have h:=EV.slice (C:=C) (n:=n) (p:=p) (pos:=pos) G (PV.some h2) (PV.some h3) (l:=aw l) hk (by exact D (en _)<|hz);rw[Q3,Q4] at h;exact h
section
variable{w:bz}{os:bM}{dr:cV}{n:B}
theorem afS{o:bc}{a L:ax}{hd:J (J B)}{l:J (ao×V)}(hz:U steps<=1000)(hs:∀p∈steps,U p.1<=1000/\U p.2<=1000):
  aQ (fr w os dr o a L) (n+1) (.ref 301) [.ref 0] ⟨l,[.list<|bf steps,.list<|aw hd]⟩ (.ref 2) ⟨l,[.list<|bf steps,.list<|aw hd,.list<|aw<|gk steps]⟩:=by
 have h:=cC.frame (C:=fr w os dr o a L) (st:=⟨l,[.list (bf steps),.list (aw hd)]⟩) [0] (acz (w:=w) (os:=os) (dr:=dr) (n:=n) hz hs) rfl (by show 1<=2;decide) (by decide) (λi ob hi=>by
  match i with
  |0=>
   (have:=cj hi;clear hi;subst this)
   exact⟨k6,0,rfl,by show some _=some (O.list<|V.lI _ _);rw[wi]⟩
  |i+1=>cases hi) rfl
 simp only[uz,F9,eu,pJ,O.Bj,wi,rs,DS] at h;exact h
end
end
namespace zu
noncomputable def ES(w:bz)(os:bM)(dr:cV)(n:B)(steps:J<|J B×J B)(k:B)(G:J B)(h2:J B)(e:J B)(_ _ _ _:fF):Prop:=(U steps<=1000)->(∀p∈steps,U p.1<=1000/\U p.2<=1000)->(k<=1000)->(U G<=1000/\U h2<=1000/\U e<=1000)->cC (TW w os dr) (n+4) (.ref 313) [.list<|bf steps,.list<|aw [G,h2]] [.ref 0,.int k,.ref 1,.str<|tx e] [.list<|bf steps,.list<|aw [G,h2],.list<|aw<|report (gk steps) k G h2 e] (.ref 2)
@[irreducible] noncomputable def EX:=nU oO default {} 0 [] 0 [] [] [] () () () () ES
noncomputable def w:=EX.1
noncomputable def os:=EX.2.1
noncomputable def dr:=EX.2.2.1
noncomputable def n:=EX.2.2.2.1
noncomputable def steps:=EX.2.2.2.2.1
noncomputable def k:=EX.2.2.2.2.2.1
noncomputable def G:=EX.2.2.2.2.2.2.1
noncomputable def h2:=EX.2.2.2.2.2.2.2.1
noncomputable def e:=EX.2.2.2.2.2.2.2.2.1
@[irreducible] noncomputable def rows:J (J B):=gk steps
theorem CL:gk steps=rows:=by unfold rows;rfl
theorem Ee:ES w os dr n steps k G h2 e () () () ():=λhz hs hk hh=>by
 refine m7 (rn _) rfl (λxs hx=>?_) λL=>?_
 ·revert xs;exact yl λH H H H=>rfl
 have lq:U rows<=2000:=by
  refine bL CL ?_
  have:=B1 steps;refine D aK ?_;exact YO this hz
 have cw:=CL▸afP hs;have cr:=λl=>CL▸afS (w:=w) (os:=os) (dr:=dr) (n:=n+2) (o:=xW w.params) (a:=313) (L:=L) (l:=l) (hd:=[G,h2]) hz hs;refine D CL ?_
 have gl:=qb w.params;have bl:=qd w.params;have wJ:=Oz w.params;have wK:=OC w.params;refine yq (dL<|an (jD (hH (cQ _)<|abc _) (Gp _).get (Gp _).fd (an ah aM)<|cr _)<|an (eI aM)<|an bA<|an bA<|an EV.bool aM) (cW.tup<|bU.cons bW<|bU.cons bW<|bU.cons bW<|bU.cons bW<|bU.cons bW bU.nil)<|b7 (l':=nt k 0 0 false e) (aY:=cH steps [G,h2] rows []) (by exact bp rfl) rfl ?_;have kf:∀ps,(cH steps [G,h2] rows ps)[2]?=some (.list<|aw rows):=λps=>rfl
 refine cg (nW 2 (λt aj=>∃junk,SubL (nt k (lg rows k (eD t)).2.1 (lg rows k (eD t)).2.2.1 (lg rows k (eD t)).2.2.2 e) aj.loc/\aj.hp=cH steps [G,h2] rows (lg rows k (eD t)).1++junk)
  (items:=nums 0<|U rows) (aiy:=λH=>gF) (lo:=0)
  (by
   exact gw.of (mr (cB (cQ _) (Oy _) (dN _) (OD _)) (an (fw (cB (cQ _) gl (dN _) bl) (an ah aM) (qa (k:=2) (l:=aw rows) rfl (by refine D (en _) ?_;lia))) aM) aQ.aaZ) (by
    have h:=fP.range (C:=fr w os dr (xW w.params) 313 L) (n:=n+3) (st:=⟨nt k 0 0 false e,cH steps [G,h2] rows []++[.fields "range" [.int 0,.int<|U<|aw rows,.int 1]]⟩) (k:=4) (a:=0) (b:=U<|aw rows) rfl (by simp only[rangeSize_one];split<;>lia) (small_one (by decide) (by decide) (EK (by decide)<|vQ _)<|by refine D (en _) ?_;lia);rw[show((U (aw rows):az)-0).toNat=U rows by refine D (en _) ?_;rfl] at h
    exact h)) ⟨[.fields "range" [.int 0,.int (U (aw rows)),.int 1]],λH H h=>h,rfl⟩ (λt aj H H=>trivial) (bH _) (aG _) (λt aiA aj hu hI=>?_) (λaj hI=>?_))
 ·refine aH hI λjunk ct oe=>?_
  have eU:t<U rows:=by
   have:=(cJ.mp hu).1;unfold nums at this;rw[bg,gO] at this;exact this
  obtain rfl:aiA= .int (t:B):=by
   unfold nums at hu;simp only[c7,oz eU] at hu
   (cases cj hu;clear hu)
   show V.int (0+(t:az))=_;exact D (vR _) rfl
  clear hu;have ok:=Ce (rows:=rows) (n:=k) t (by exact lz ‹_›);have m8:lg rows k (eD<|t+1)=gc rows k (lg rows k<|eD t) t:=by
   unfold lg;simp only[Ad,jS];rfl
  simp only[m8];generalize lg rows k (eD t)=s at*;obtain⟨ps,old,new,ins⟩:=s;obtain⟨o1,o2,o3,o4,o5⟩:=ok;dsimp only at o1 o2 o3 o4 o5 ct oe;refine⟨_,cW.norm ct oe bW,?_⟩;have li:=uU (steps:=steps) (hd:=[G,h2]) (rows:=rows) (ps:=ps);have cut:∀{q:B} {l l':J (ao×V)} {junk:J O} {ps:J Piece},q<=2->SubL l' l->(l'.all λp=>p.2.bG λk=>decide (k<4))=true->jn q ⟨l,cH steps [G,h2] rows ps++junk⟩ ⟨l',cH steps [G,h2] rows ps⟩:=λhq hs hv=>
   mw (by refine D uU ?_;exact YN hq) HA hs λp hp=>V.m6 (λi hi=>by have:=dq hi;exact dG<|by refine D uU ?_;exact Nj this)<|fX.mp hv p hp
  refine jo (aj:=⟨("k",.int t)::nt k old new ins e,cH steps [G,h2] rows ps⟩) (cut (aG _) (by exact bp rfl)<|by rfl) ?_ (by show 2<=U (cH steps [G,h2] rows ps++junk);rw[aK];exact Nh li)
  have Q9:rows[t]?=some (rows.getD t []):=by refine D (c6)<|D (bO eU) ?_;rfl
  have hrn:=cw _<|dT Q9;have lY:(aw rows)[t]?=some (.str<|tx<|rows.getD t []):=by unfold aw;simp only[c7,Q9];rfl
  have afT:max (0:az) ((t:az)-k)=((t-k:B):az):=by lia
  have CM:((t:az)+k+1)=((t+k+1:B):az):=by rfl
  have qg:∀r∈dw rows (t-k) (t+k+1),r≠[]:=λr hr=>(cw r<|JH<|DP hr).1;have afU:(!decide ((dw rows (t-k)<|t+k+1).filter (λr=>decide (r.headD 0≠32))=[]))=jb rows k t:=by
   unfold jb;generalize dw rows (t-k) (t+k+1)=l
   induction l with
   |nil=>rfl
   |cons a l ih=>
    simp only[pG,D0];cases h:decide (a.headD 0≠32) with
    |true=>rfl
    |false=>rw[aE dy,Ax];exact ih
  refine cZ (v:=.bool (jb rows k t)) (by
   simp only[←afU]
   exact EV.cmp (Hv (c:=32) (l:=dw rows (t-k) (t+k+1)) (kx:=U (cH steps [G,h2] rows ps)) (EV.afR (kx:=2) ah (fw (cB (cQ _) wJ (dN _) wK) (an bA (an (bt ah ah mt) aM)) aQ.max2) (bt (bt ah ah eT) bA eT) rfl (by exact Fs lq) afT CM) (om _ _) qg (by have:=afQ rows (t-k) (t+k+1);exact Fr lq this) rfl) (eI aM) (a8.yO (l:=(dw rows (t-k) (t+k+1)).filter (λr=>decide (r.headD 0≠32))) (m:=[]) (Q6 _ _ _) (om _ _))) ?_
  generalize Ra:jb rows k t=near at*;refine b7 (l':=("near",.bool near)::("k",.int t)::nt k old new ins e) (aY:=cH steps [G,h2] rows ps++[_,_,_]) (by exact bp rfl) (by simp only[cm,jT,nG];rfl) ?_
  refine jo (aj:=⟨("near",.bool near)::("k",.int t)::nt k old new ins e,cH steps [G,h2] rows ps⟩) (cut (aG _) (λH H h=>h)<|by rfl) ?_ (by refine D aK ?_;exact pK _ _)
  have Rb:U ps<=2000:=by exact Ft eU lq o2
  refine cg (jt (K:=λfl aj=>fl= .next/\SubL (("near",.bool near)::("k",.int t)::nt k old new ins e) aj.loc/\aj.hp=cH steps [G,h2] rows (if(near&&(!ins&&true))=true then ps++[(old,new,[])] else ps))
   (i9 (near&&(!ins&&true)) (kC (fv ah kR) (kC (TV.not (fv ah kR)) pY)) (λhc=>?_) (λhc=>?_)) ?_)
  ·simp only[aU hc];refine eE (iF (k:=3) (l:=iJ<|U ps) (l2:=iJ<|U ps) ah rfl (eI<|an ah<|an ah<|an (eI aM) aM) rfl<|by unfold iJ;rw[bg,gO];exact Fs Rb) ?_
   refine bd ⟨rfl,by exact bp rfl,?_⟩;refine bL ad6 ?_
   simp only[aK,li,cm]
   (simp only[show 4+2*U ps+U [O.list []]=5+2*U ps by show 4+2*U ps+1=_;exact nK _ _ _]);rfl
  ·(refine D (aE (λh=>by rw[hc] at h;cases h)) ?_)
   exact bd ⟨rfl,by exact bp rfl,rfl⟩
  intro fl aj dM;refine eh dM λav og fK=>?_
  clear dM;subst av
  try dsimp only
  have Rc:(gc rows k (ps,old,new,ins) t).1=if near=true then sU (if(near&&(!ins&&true))=true then ps++[(old,new,[])] else ps) (rows.getD t []) else ps:=by
   unfold gc
   try dsimp only
   simp only[Ra];cases near<;>cases ins<;>rfl
  have afV:near=true->(if(near&&(!ins&&true))=true then ps++[(old,new,[])] else ps)≠[]:=λhn=>by
   cases ins with
   |true=>
    have:=o1 rfl
    (refine D (aE<|by rw[hn];simp) ?_);exact this
   |false=>rw[aU<|by refine D hn ?_;rfl];simp
  have ail:U (if(near&&(!ins&&true))=true then ps++[(old,new,[])] else ps)<=2001:=by
   split
   ·refine D aK ?_;exact YM Rb
   ·exact ly ‹_›
  have afW:∀p∈(if(near&&(!ins&&true))=true then ps++[(old,new,[])] else ps),U p.2.2<=2000:=λp hp=>by
   split at hp
   ·rcases bK.mp hp with hp|hp
    ·have:=(o3 p hp).1;exact Ft eU lq this
    ·rw[bx] at hp;subst hp;exact bH _
   ·have:=(o3 p hp).1;exact Ft eU lq this
  have rl:near=false->(if(near&&(!ins&&true))=true then ps++[(old,new,[])] else ps)=ps:=λhn=>by refine D hn ?_;rfl
  generalize hq:(if(near&&(!ins&&true))=true then ps++[(old,new,[])] else ps)=ps' at*;refine b7 og fK ?_
  refine cg (jt (K:=λfl aj=>fl= .next/\SubL (("near",.bool near)::("k",.int t)::nt k old new ins e) aj.loc/\aj.hp=cH steps [G,h2] rows (gc rows k (ps,old,new,ins) t).1)
   (i9 near (fv ah kR) (λhc=>?_) (λhc=>?_)) ?_)
  ·simp only[Rc,aU hc];rcases rS ps' with h|⟨pre,p,rfl⟩
   ·exact aZ h<|afV hc
   rw[rT] at*;simp only[yH];have wH:U (pre++[p])=U pre+1:=by refine D aK ?_;rfl
   have cO:=Q7 (steps:=steps) (hd:=[G,h2]) (rows:=rows) (ps:=pre++[p]) (i:=U pre) (p:=p) (by simp only[dc<|aG _,fG];rfl);have afX:=afW p<|bK.mpr<|.inr<|bx.mpr rfl;have CN:(iJ<|U<|pre++[p])[U pre]?=some (.ref<|5+2*U pre):=by
    unfold iJ;simp only[c7,wH,oz<|tO _];rfl
   have Rd:U (iJ<|U<|pre++[p])=U pre+1:=by unfold iJ;simp only[bg,gO,wH]
   refine eE (jq (eJ (eJ ah (EV.neg bA) (gY.GD (k:=3) (l:=iJ (U (pre++[p]))) rfl (by decide) (by refine D Rd ?_;lia) (by simp only[Rd,show(-1+((U pre+1:B):az)).toNat=U pre by lia];exact CN)) gy) bA (i7 (k:=5+2*U pre) (l:=[.int p.1,.int p.2.1,.ref (4+2*U pre)]) cO.2 (by decide) rfl) gy)
    (uC cO.1) (an (eJ ah ah (i7 (k:=2) (l:=aw rows) (i:=(t:az)) rfl (by exact vQ _) lY) gy) aM) (Gm (k:=4+2*U pre) (l:=aw p.2.2) cO.1 (by refine D (en _) ?_;exact Fs afX)) ud Ev Ew) ?_
   refine bd ⟨rfl,by exact bp rfl,?_⟩;refine D (wj _ _) ?_
   exact ad7
  ·refine bd ⟨rfl,by exact bp rfl,?_⟩;simp only[Rc,hc,aE dy,rl hc]
  intro fl aj hU;refine eh hU λav zt tn=>?_
  clear hU;subst av
  try dsimp only
  refine b7 zt tn<|cZ ah ?_;refine b7 (l':=("k",.int t)::nt k old new near e) (aY:=cH steps [G,h2] rows (gc rows k (ps,old,new,ins) t).1) (by exact bp rfl) rfl ?_
  obtain⟨a,r',Im⟩:∃a r',rows.getD t []=a::r':=by
   cases hr:rows.getD t [] with
   |nil=>exact aZ hr hrn.1
   |cons a r'=>exact⟨a,r',rfl⟩
  have uV:∀c:B,(!decide ((⟨#[a]⟩:ao)=tx [c]))=decide (¬a=c):=λc=>by
   have e:decide ((⟨#[a]⟩:ao)=tx [c])=decide (a=c):=vE.mpr ((o9 (a:=[a]) (b:=[c])).trans<|by simp);simp only[e];by_cases h:a=c<;>simp[h]
  have gx:(gc rows k (ps,old,new,ins) t)=((gc rows k (ps,old,new,ins) t).1,if a=43 then old else old+1,if a=45 then new else new+1,near):=by
   unfold gc;refine D Im<|D Ra ?_;rfl
  refine D gx ?_
  generalize (gc rows k (ps,old,new,ins) t).1=Re
  refine cg (jt (K:=λfl aj=>fl= .next/\SubL (("k",.int t)::nt k (if a=43 then old else old+1) new near e) aj.loc/\aj.hp=cH steps [G,h2] rows Re)
   (i9 (decide (¬a=43)) (uV 43▸bV (eJ (eJ ah ah (i7 (k:=2) (l:=aw rows) (i:=(t:az)) rfl (by lia) lY) gy) bA (gY.str (Q8 Im) (by decide)) yp) (EV.tx [43]) a8.ne_str) (λhc=>?_) (λhc=>?_)) ?_)
  ·have hc:=dq hc;refine cZ (bt ah bA eT)<|bd ⟨rfl,(D (aE hc) ?_),rfl⟩;exact bp rfl
  ·have hc:a=43:=xH.mp<|kj hc;refine bd ⟨rfl,(D (aU hc) ?_),rfl⟩;exact bp rfl
  intro fl aj nv;refine eh nv λav afY hh4=>?_
  clear nv;subst av
  try dsimp only
  refine b7 afY hh4 ?_
  generalize (if a=43 then old else old+1)=afZ
  refine cg (jt (K:=λfl aj=>fl= .next/\SubL (nt k afZ (if a=45 then new else new+1) near e) aj.loc/\aj.hp=cH steps [G,h2] rows Re)
   (i9 (decide (¬a=45)) (uV 45▸bV (eJ (eJ ah ah (i7 (k:=2) (l:=aw rows) (i:=(t:az)) rfl (by lia) lY) gy) bA (gY.str (Q8 Im) (by decide)) yp) (EV.tx [45]) a8.ne_str) (λhc=>?_) (λhc=>?_)) ?_)
  ·have hc:=dq hc;refine cZ (bt ah bA eT)<|bd ⟨rfl,(D (aE hc) ?_),rfl⟩;exact bp rfl
  ·have hc:a=45:=xH.mp<|kj hc;refine bd ⟨rfl,(D (aU hc) ?_),rfl⟩;exact bp rfl
  intro fl aj Ct;refine eh Ct λav af0 hh5=>?_
  clear Ct;subst av;exact bd ⟨[],af0,by refine D (cM _) ?_;exact hh5⟩
 ·refine aH hI λjunk ct oe=>?_
  have hnl:U (nums 0<|U rows)=U rows:=by unfold nums;simp only[bg,gO]
  simp only[hnl] at ct oe;have ok:=Ce (rows:=rows) (n:=k) (U rows)<|aG _;unfold report;generalize lg rows k (eD<|U rows)=s at*;obtain⟨ps,old,new,ins⟩:=s;obtain⟨o1,o2,o3,o4,o5⟩:=ok;dsimp only at o1 o2 o3 o4 o5 ct oe ⊢;have li:=uU (steps:=steps) (hd:=[G,h2]) (rows:=rows) (ps:=ps);refine b7 ct oe ?_
  refine jo (aj:=⟨nt k old new ins e,cH steps [G,h2] rows ps⟩) (mw (by simp only[uU];exact YL) HA (λH H h=>h) λp hp=>V.m6 (λi hi=>by have:=dq hi;exact dG<|by refine D uU ?_;exact Nj this)<|fX.mp (show((nt k old new ins e).all λp=>p.2.bG λk=>decide (k<4))=true from rfl) p hp) ?_ (by simp only[aK];exact Nh li)
  refine bd<|cZ (eI aM) ?_
  refine b7 (l':=nz k (U ps) e) (aY:=cH steps [G,h2] rows ps++[.list []]) (by
   refine SubL.cons ?_ (by exact bp rfl)
   show some (V.ref<|U<|cH steps [G,h2] rows ps)=_
   rw[li]) rfl ?_
  have QN:∀er:J (J B),gC (cH steps [G,h2] rows ps++[.list<|aw er]):=λer o ho=>by
   rcases bK.mp ho with ho|ho
   ·exact O.acL (by simp only[aK];exact dZ _ _)<|HA o ho
   ·rw[bx] at ho;subst ho;exact eZ
  have hd3:∀er:J (J B),(cH steps [G,h2] rows ps++[O.list<|aw er])[3]?=some (.list<|iJ<|U ps):=λH=>rfl;have zw:∀er:J (J B),(cH steps [G,h2] rows ps++[O.list<|aw er])[4+2*U ps]?=some (.list<|aw er):=λer=>by simp only[←li];exact om _ _
  have yW:∀(er Io:J<|J B),(cH steps [G,h2] rows ps++[O.list<|aw er]).set (4+2*U ps) (.list<|aw Io)=cH steps [G,h2] rows ps++[.list<|aw Io]:=λer Io=>by
   refine D (PZ li) ?_;rfl
  have CN:U (iJ<|U ps)=U ps:=by unfold iJ;simp only[bg,gO]
  refine cg (nW (5+2*U ps) (λt aj=>SubL (nz k (U ps) e) aj.loc/\aj.hp=cH steps [G,h2] rows ps++[.list (aw ((ps.take t).flatMap (lR e)))])
   (items:=iJ (U ps)) (by unfold nz;exact gw.of ah (fP.list (k:=3) (hd3 []))) ⟨λH H h=>h,rfl⟩ (λt aj H hI=>by refine D hI.2 ?_;rfl) (by exact YK) (by show 2<=_;exact YJ) (λt aiA aj hu hI=>?_) (λaj hI=>?_))
  ·refine xA hI λog fK=>?_
   have eU:t<U ps:=by
    have:=(cJ.mp hu).1;rw[CN] at this;exact this
   obtain rfl:aiA= .ref (5+2*t):=by
    unfold iJ at hu;simp only[c7,oz eU] at hu
    (cases cj hu;clear hu);rfl
   clear hu;have hp:ps[t]?=some ps[t]:=bO eU;have rB:(ps.take<|t+1).flatMap (lR e)=(ps.take t).flatMap (lR e)++lR e ps[t]:=by
    refine D qM<|D hp<|D kN ?_;simp
   have pf:=dT hp;have cO:=Q7 (steps:=steps) (hd:=[G,h2]) (rows:=rows) hp;have eo:=o3 _ pf;have CO:U ((ps.take t).flatMap<|lR e)<=5000000:=by
    have:∀l:J Piece,(∀p∈l,U p.2.2<=2000)->U (l.flatMap<|lR e)<=U l*2001:=by
     intro l
     induction l with
     |nil=>intro _;exact bH _
     |cons p l ih=>
      intro h;simp only[fa,aK,cK];have G:=ih λq hq=>h q<|.tail _ hq;have h2:=h p<|.head _;have h3:U (lR e p)=U p.2.2+1:=rfl;simp only[An];exact Nb h3 G h2
    have G:=this (ps.take t) λp hp=>by have:=(o3 p<|DP hp).1;exact xR lq this
    rw[gE] at G;have:min t (U ps)<=2000:=by exact YI lq o2
    have:=D5 2001 this;exact YH this G
   simp only[rB];generalize (ps.take t).flatMap (lR e)=er at*;generalize ps[t]=p at*;obtain⟨begun,tr,shown⟩:=p;dsimp only at cO eo;have CP:∀x:O,U (cH steps [G,h2] rows ps++[x])=5+2*U ps:=λx=>by simp only[aK,li];exact Na
   have yL:(cH steps [G,h2] rows ps++[.list<|aw er])[4+2*t]?=some (.list<|aw shown):=by(refine D (cA<|by rw[li];exact Nc eU) ?_);exact cO.1
   have af1:(cH steps [G,h2] rows ps++[.list<|aw er])[5+2*t]?=some (.list [.int begun,.int tr,.ref<|4+2*t]):=by rw[cA<|by rw[li];exact YG eU];exact cO.2
   have Rf:∀r∈shown,r≠[]:=λr hr=>(cw r<|eo.2.2.2 r hr).1;refine⟨_,cW.norm og fK<|cW.lst af1<|bU.cons bW<|bU.cons bW<|bU.cons bW bU.nil,(b7 (l':=("shown",.ref<|4+2*t)::("came",.int tr)::("begun",.int begun)::nz k (U ps) e) (aY:=cH steps [G,h2] rows ps++[.list<|aw er]) (by exact bp rfl) rfl ?_)⟩;have cutD:∀{l l':J (ao×V)} {junk:J O},SubL l' l->(l'.all λp=>p.2.bG λk=>decide (k<5+2*U ps))=true->jn (5+2*U ps) ⟨l,cH steps [G,h2] rows ps++[.list<|aw er]++junk⟩ ⟨l',cH steps [G,h2] rows ps++[.list<|aw er]⟩:=λhs hv=>
    mw (by rw[CP];exact aG _) (QN er) hs λp hp=>by rw[CP];exact fX.mp hv p hp
   refine cZ (fw (cB (cQ _) gl (dN _) bl) (an (Hv (c:=43) (l:=shown) ah yL Rf (by exact Fr lq eo.1) rfl) aM)<|qa (l:=aw<|shown.filter λr=>decide (r.headD 0≠43)) (om _ _) (by rw[en];have:=pF (λr=>decide (r.headD 0≠43)) shown;lia)) ?_
   rw[en];have af2:=pF (λr=>decide (r.headD 0≠43)) shown;have af3:=pF (λr=>decide (r.headD 0≠45)) shown;refine b7 (l':=("gone",.int (c5 43 shown:B))::("shown",.ref<|4+2*t)::("came",.int tr)::("begun",.int begun)::nz k (U ps) e) (aY:=cH steps [G,h2] rows ps++[.list<|aw er]++[_]) (by unfold nz c5;exact bp rfl) rfl ?_
   refine jo (cutD (l':=("gone",.int (c5 43 shown:B))::("shown",.ref (4+2*t))::("came",.int tr)::("begun",.int begun)::nz k (U ps) e) (λH H h=>h) (by
    unfold nz
    simp only[oB,xj,V.ut,V.FU,V.FV,lF,xz,gS,ip];exact Ng eU)) ?_ (by rw[aK,CP];exact dZ _ _)
   refine cZ (fw (cB (cQ _) gl (dN _) bl) (an (Hv (c:=45) (l:=shown) ah yL Rf (by exact Fr lq eo.1) rfl) aM)<|qa (l:=aw<|shown.filter λr=>decide (r.headD 0≠45)) (om _ _)<|by rw[en];lia) ?_
   rw[en];refine b7 (l':=("come",.int (c5 45 shown:B))::("gone",.int (c5 43 shown:B))::("shown",.ref<|4+2*t)::("came",.int tr)::("begun",.int begun)::nz k (U ps) e) (aY:=cH steps [G,h2] rows ps++[.list<|aw er]++[_]) (by unfold nz;exact SubL.cons (by rfl)<|by exact bp rfl) rfl ?_
   refine jo (cutD (l':=("come",.int (c5 45 shown:B))::("gone",.int (c5 43 shown:B))::("shown",.ref (4+2*t))::("came",.int tr)::("begun",.int begun)::nz k (U ps) e) (λH H h=>h) (by
    unfold nz
    simp only[oB,xj,V.ut,V.FU,V.FV,lF,xz,gS,ip];exact Ng eU)) ?_ (by rw[aK,CP];exact dZ _ _)
   have af4:c5 43 shown<=2000:=by unfold c5;exact Nf lq eo.1 af2
   have af5:c5 45 shown<=2000:=by unfold c5;exact Nf lq eo.1 af3
   have r1:=CI (a:=(begun:az)) (b:=(c5 43 shown:B)) (by lia) (by lia);have r2:=CI (a:=(tr:az)) (b:=(c5 45 shown:B)) (by lia) (by lia);have Rg:∀{i j:B} {st:St},i<=2000->j<=2000->aQ (fr w os dr (xW w.params) 313 L) (n+3) (.ref 308) [.int i,.int j] st (.str<|tx<|lN i j) st:=λhi hj=>
    aQ.to (aQ.wm<|acw (by lia)<|by lia) (bB V.str<|acA _ _)
   refine eE (jq ah (uC (zw er)) (an (bt (bt (bt (bt (bt (EV.tx [64,64,32,45])
     (jD (hH (cQ _) (Os _)) (yo _).get (yo _).fd (an ah (an ah aM)) (Rg (by exact xR lq eo.2.1) (by exact Nd af4))) (a8.oh (by show 4+_<=_;exact YF r1)))
     (EV.tx [32,43]) (a8.oh (by rw[aK];exact YE r1)))
     (jD (hH (cQ _) (Os _)) (yo _).get (yo _).fd (an ah (an ah aM)) (Rg (by exact xR lq eo.2.2.1) (by exact Nd af5))) (a8.oh (by rw[aK,aK];exact YD r1 r2)))
     (EV.tx [32,64,64]) (a8.oh (by rw[aK,aK,aK];exact YC r1 r2)))
     ah (a8.oh (by rw[aK,aK,aK,aK];exact YB hh r1 r2))) aM)
    (Gm (k:=4+2*U ps) (l:=aw er) (zw er) (by rw[en];exact YA CO)) ud Ev Ew) ?_
   rw[wj];generalize lL: [64,64,32,45]++lN (begun:az) (c5 43 shown:B)++[32,43]++lN (tr:az) (c5 45 shown:B)++[32,64,64]++e=line;refine b7 (l':=("shown",.ref<|4+2*t)::nz k (U ps) e) (aY:=cH steps [G,h2] rows ps++[.list<|aw<|er++[line]]) (by exact bp rfl) (yW _ _) ?_
   have af6:(cH steps [G,h2] rows ps++[.list<|aw<|er++[line]])[4+2*t]?=some (.list<|aw shown):=by rw[cA<|by rw[li];exact Nc eU];exact cO.1
   refine eE (jq ah (uC<|zw _) (an ah aM) (aQ.extend (i:=4+2*U ps) (j:=4+2*t) (l:=aw<|er++[line]) (m:=aw shown) (zw _) af6<|by rw[en,en,aK];exact Yz lq CO eo.1) ud KN KO) ?_
   refine bd ⟨by exact bp rfl,?_⟩;rw[sQ];refine(yW _ _).trans ?_
   rw[cm,←lL];rfl
  ·refine xA hI λog fK=>?_
   rw[CN,pI] at fK;refine bd<|b7 og fK ?_;generalize hdd:ps.flatMap (lR e)=er at*;have CO:U er<=5000000:=by
    rw[←hdd];have:∀l:J Piece,(∀p∈l,U p.2.2<=2000)->U (l.flatMap<|lR e)<=U l*2001:=by
     intro l
     induction l with
     |nil=>intro _;exact bH _
     |cons p l ih=>
      intro h;rw[fa,aK,cK];have G:=ih λq hq=>h q<|.tail _ hq;have h2:=h p<|.head _;have h3:U (lR e p)=U p.2.2+1:=rfl;rw[An];exact Nb h3 G h2
    have G:=this ps λp hp=>by have:=(o3 p hp).1;exact xR lq this
    have:U ps<=2000:=by exact xR lq o2
    have:=D5 2001 this;exact Yy this G
   refine eh hh λhh1 af7 tn=>?_
   have Rh:(cH steps [G,h2] rows ps++[O.list<|aw er])[1]?=some (.list<|aw [G,h2]):=rfl;have af8:U (cH steps [G,h2] rows ps++[O.list<|aw er])=5+2*U ps:=by rw[aK,li];exact Na
   refine j6 (bt (eI (an (bt (eJ ah bA (i7 (k:=1) (l:=aw [G,h2]) (i:=0) (v:=.str (tx G)) Rh (by decide) rfl) gy) ah (a8.oh (by exact M9 hh1 tn))) (an (bt (eJ ah bA (i7 (k:=1) (l:=aw [G,h2]) (i:=1) (v:=.str (tx h2)) Rh (by decide) rfl) gy) ah (a8.oh (by exact M9 af7 tn))) aM))) ah
    (a8.add_list (i:=U (cH steps [G,h2] rows ps++[O.list (aw er)])) (j:=4+2*U ps) (l:=aw [G++e,h2++e]) (m:=aw er) (om _ _) (by
     rw[cA (by rw[af8];exact Yx)];exact zw er) (by rw[en,en];exact Yw CO))) ⟨_,rfl,?_⟩
   rw[sQ];generalize Ip: [G++e,h2++e]++er=res;have wI:cH steps [G,h2] rows ps++[O.list<|aw er]++[O.list<|aw [G++e,h2++e]]++[O.list<|aw res]=[O.list<|bf steps,O.list<|aw [G,h2]]++((O.list (aw rows)::O.list (iJ<|U ps)::nq 4 ps)++[O.list<|aw er]++[O.list<|aw [G++e,h2++e]]++[O.list<|aw res]):=by unfold cH;rfl
   generalize eU:(O.list (aw rows)::O.list (iJ<|U ps)::nq 4 ps)++[O.list<|aw er]++[O.list<|aw [G++e,h2++e]]=tl at wI;refine dh (jn.pick (q:=2) (hp:=[.list<|bf steps,.list<|aw [G,h2]]) (tail:=tl++[O.list<|aw res]) (sel:=[.list<|aw res]) (aG _) (gh k6<|fM eZ) [U tl] (by simp) (by simp)<|fM eZ) λaiC g q1 q2 q3=>xA (q2 0 (U tl) rfl) λg1 f1=>?_
   have hlen:U ((cH steps [G,h2] rows ps++[O.list<|aw er])++[O.list<|aw [G++e,h2++e]])=2+U tl:=by
    have:=bB U wI;rw[aK,aK (as:=[O.list<|bf steps,O.list<|aw [G,h2]]),aK (as:=tl)] at this;have nc: U [O.list<|aw res]=1:=rfl;have kA: U [O.list<|bf steps,O.list<|aw [G,h2]]=2:=rfl;exact Yv this kA
   refine⟨_,aiC,g,(show Cv 2 _ aiC g (cH steps [G,h2] rows ps++[O.list<|aw er]++[O.list<|aw [G++e,h2++e]]++[O.list<|aw res]) _ from wI▸q3),?_,?_⟩
   ·show g (U<|(cH steps [G,h2] rows ps++[O.list<|aw er])++[O.list<|aw [G++e,h2++e]])=true;rw[hlen];exact g1
   ·show V.ref 2= .ref (aiC<|U<|(cH steps [G,h2] rows ps++[O.list<|aw er])++[O.list<|aw [G++e,h2++e]]);rw[hlen];exact bB V.ref f1.symm
end zu
section
variable{w:bz}{os:bM}{dr:cV}{n k c i:B}{C:Cx}{st am ba:St}{gL:J nO}{ns:J ao}{pos:cN}{o sc co:bc}{f u:J (J B)}{e:J B}{args:J V}{E:ak->ay->Prop}{α:Type}{s:ay}{aiC:az->bC ak}{x:ao}{Q:Mapped->ay->Prop}{P:aP}{env:Env}{ρ:J ax}{v:V}
theorem af9:∀{w os dr n steps k G h2 e},zu.ES w os dr n steps k G h2 e () () () ():=by with_unfolding_all exact oM zu.ES zu.EX rfl zu.Ee _ _ _ _ _ _ _ _ _ () () () ()
inductive lr(C:Cx)(n:B):J nO->J ao->J V->St->St->Prop
 |nil {st:St}:lr C n [] [] [] st st
 |cons {name:ao} {value:bv} {p:cN} {rest:J nO} {ns:J ao} {v:V} {vs:J V} {st am ba:St} (h:EV C n value st v am) (t:lr C n rest ns vs am ba):lr C n (⟨some name,value,p⟩::rest) (name::ns) (v::vs) st ba
theorem lr.go{vs:J V}(h:lr C n gL ns vs st am):∀{A:bS} {s:ay} {ρ:J ax} {pos:cN} {Q:J ak->ay->Prop},cn n A->Rep C ρ st s->
  (∀aB ys s',bk C ρ s am aB s'->V.IsL aB s'.heap vs ys->Q ys s')->aF (aN C.prog C.w) A (evalAll<|(qR pos<|qQ gL C.env).map (·.2)) Q bq s:=by
 induction h with
 |nil=>intro A s ρ pos Q hA R hq;exact kwAll_nil<|hq ρ [] s (ek R) rfl
 |cons h t ih=>
  intro A s ρ pos Q hA R hq;refine kwAll_cons<|h A s ρ _ hA R λaC x s1 N1 i1=>ih hA N1.rep λbh ys s2 N2 i2=>hq bh (x::ys) s2 (N1.trans N2) ⟨x,ys,rfl,i1.mono N2.pre N2.aX,i2⟩
theorem lr.names{vs:J V}(h:lr C n gL ns vs st am):(qR pos<|qQ gL C.env).all (·.1.isSome)=true/\(qR pos<|qQ gL C.env).filterMap (·.1)=ns/\U ns=U vs:=by
 induction h with
 |nil=>exact⟨rfl,rfl,rfl⟩
 |cons h t ih=>
  refine eh ih λG h2 h3=>⟨?_,?_,by simp only[cK,cK,h3]⟩
  ·exact G
  ·exact bB (J.cons _) h2
theorem po.fn{aiC:ao}{p:cN}{e:bv}{es:J bv}{a:ax}{fd:lD}{m k1 k2:B}{x y r1 ws:J V}{items:J It}
  (hf:EV C (m+2) (.Name aiC p) st (.val<|.ref a) st) (ho:C.top.get? a=some o) (hd:o.data= .func fd) (ha:iD C (m+2) (e::es) st (.ref k1:: .ref k2::r1) am) (hk:lr C (m+2) gL ns ws am ba)
  (oU:jQ C.toWd m a [.list x,.list y] (.ref 0:: .ref 1::(r1++ws)) ns [(0,x),(1,y)] items) (gm:ba.hp[k1]?=some (.list x)) (kP:ba.hp[k2]?=some (.list y)) (cw:k1≠k2) (hx:V.ff (λH=>false) x=true) (hy:V.ff (λH=>false) y=true) (hr:V.ff (λH=>false) (r1++ws)=true)
  (he:aO (gV e=true) a9):po C (m+2) (.Call (.Name aiC p) (e::es) gL pos) st "generator" [(k1,x),(k2,y)] items ba where
 sh:=gh (⟨gm,hx⟩)<|fM<|⟨kP,hy⟩
 run:=λA s ρ Q hA R h=>by
  refine wpAny_Call_Name_kw<|hf A s ρ _ hA R λfO z s0 N0 i0=>?_;obtain rfl:z= .ref a:=i0;refine eh (hk.names (pos:=pos)) λw1 w2 w3=>callWith_function_kw (o:=o) (fd:=fd)<|evalArgs_kw2 w1 (ha A s0 fO pos _ hA N0.rep λaC xs s1 N1 i1=>(hk.go hA N1.rep λbh ys s2 N2 i2=>⟨⟨N2.rep.led.top _ _ ho,hd⟩,?_⟩))<|kQ he;refine D w2<|D (nG _) ?_;have N:=(N0.trans N1).trans N2;have R2:=N.rep;have hlen:U ys=U ns:=by simp only[w3];exact dK i2
  have e1:((ns.zip ys).map (·.2))=ys:=JT<|Tv hlen;have e2:((ns.zip ys).map (·.1))=ns:=J.map_fst_zip<|vV hlen;refine cP (R2.led.at gm) λa1 G o1 m1=>cP (R2.led.at kP) λa2 h2 o2 m2=>?_
  have mX:a1≠a2:=λe=>cw<|pV R2.led.nodup G<|e▸h2;have d1:bh.getD k1 0=a1:=by simp only[c6,G];rfl
  have d2:bh.getD k2 0=a2:=by simp only[c6,h2];rfl
  have F:=R2.toF;have L:jj C.toWd [a1,a2] [.list x,.list y] s2:=by
   refine⟨rfl,λk ob b e q=>?_,?_,λb hb=>?_,F.size,F.top,F.os,F.drawn⟩
   ·match k with
    |0=>
     (have:=cj e;clear e;subst this);(have:=cj q;clear q;subst this)
     exact dv o1 λvs c g1 g2=>(⟨vs,c,g1,g2.wx hx⟩)
    |1=>
     (have:=cj e;clear e;subst this);(have:=cj q;clear q;subst this)
     exact dv o2 λvs c g1 g2=>(⟨vs,c,g1,g2.wx hy⟩)
    |k+2=>simp at e
   ·exact l5.mpr ⟨λh=>mX<|bx.mp h,l5.mpr ⟨(λh=>nomatch h),lx⟩⟩
   ·rcases cu.mp hb with rfl|hb
    ·exact F.low _ m1
    ·rw[bx] at hb;subst hb;exact F.low _ m2
  refine oU.feed (sh:=[(k1,x),(k2,y)]) (dQ:=[a1,a2]) (bk.lives R N) N R2 N.pre (λH h=>h) (λb hb=>?_) (λb hb hs=>?_) ?_ hA L ?_ e2 λI own s3 g1 g2 g3 g4=>h bh I own s3 g1 g2 g3 g4
  ·rcases cu.mp hb with rfl|hb
   ·exact m1
   ·rw[bx] at hb;subst hb;exact m2
  ·exfalso;rcases cu.mp hb with rfl|hb
   ·exact hs (b,x) (.head _) rfl
   ·rw[bx] at hb;subst hb;exact hs (b,y) (.tail _<|.head _) rfl
  ·show[((0:B),x),(1,y)].map (λp=>([a1,a2].getD p.1 0,p.2))=[(bh.getD k1 0,x),(bh.getD k2 0,y)]
   simp only[d1,d2];rfl
  ·refine D e1 ?_
   have Rj:=i1.mono N2.pre N2.aX;refine cE Rj λz1 t1 bE cx bR=>?_
   clear Rj;subst bE;refine aH cx λb1 q1 av=>?_
   clear cx;subst av;refine cE bR λz2 t2 gW ky i3=>?_
   clear bR;subst gW;refine aH ky λb2 q2 av=>?_
   clear ky;subst av;simp only[G] at q1;(have:=cj q1;clear q1;subst this);simp only[h2] at q2;(have:=cj q2;clear q2;subst this);exact⟨_,_,rfl,⟨_,rfl,rfl⟩,_,_,rfl,⟨_,rfl,rfl⟩,(V.IsL.append i3 i2).wx hr⟩
noncomputable def Rk(P:aP):bD ak:=match (Bg P).data with| .seq x _=>x|_=>#[]
theorem aga(P:aP):(bZ P).get? 254=some (Bg P):=by kernel_rfl
theorem agb(P:aP):(Bg P).data= .seq (Rk P) 0:=by kernel_rfl
theorem agc(P:aP):(fdOf<|xV P).defaults= .ref 254:=by kernel_rfl
noncomputable abbrev agd:J ao:=["a","b","fromfile","tofile","fromfiledate","tofiledate","n","lineterm"]
theorem Iq{f1 f2 d1 d2:J B}{gL:J ao}(fV:U f<64)(hb:U u<200)(hz:U f1<=1000/\U f2<=1000/\U d1<=1000/\U d2<=1000/\U e<=1000)(hl:(∀x∈f,x.length<=1000)/\∀x∈u,x.length<=1000)(hG:∀g∈groups f u k,GoodG g)
  (mQ:∀(ρ:J ax) (h:bn) (xs:J ak) (kw:J (ao×ak)),V.IsL ρ h args (xs++kw.map (·.2))->kw.map (·.1)=gL->∃kk ys,r8 (fdOf (xV w.params)) ⟨xs,kw⟩=seqItems? (fdOf (xV w.params)).defaults >>= kk/\kk (some (Rk w.params))=pure (agd.zip ys)/\
   V.IsL ρ h [.ref 0,.ref 1,.str (tx f1),.str (tx f2),.str (tx d1),.str (tx d2),.int k,.str (tx e)] ys):
  jQ (TW w os dr) (n+8) 261 [.list (aw f),.list (aw u)] args gL [(0,aw f),(1,aw u)] ((fx f u k f1 f2 d1 d2 e).map λx=>It.val (.str (tx x))):=.mk λhA hL aV ii hQ=>QD (gt:=iK f u) (va f u) (aG 2) (b9 f u _) (rm w.params).get (rm w.params).fd rfl (rm w.params).code (noLimit _) (λA E ρ s xs kw Q hL aV ii hq=>by
  exact dh (mQ ρ s.heap xs kw aV ii) λkk ys G h2 h3=>Ej (agc _) (hL.top _ _ (aga _)) (agb _) G h2 _ _ _ _ (hq ys s.heap s.toks (λH H e=>e) (aG _) h3)) (rm w.params).nd (rm w.params).cell (rm w.params).loc (afN fV hb hz hl hG) hA hL aV ii hQ
section
variable{f1 f2 d1 d2:J B}(fV:U f<64)(hb:U u<200)(hz:U f1<=1000/\U f2<=1000/\U d1<=1000/\U d2<=1000/\U e<=1000)(hl:(∀x∈f,x.length<=1000)/\∀x∈u,x.length<=1000)
include fV hb hl
theorem Ir(hz:U f1<=1000/\U f2<=1000/\U d1<=1000/\U d2<=1000/\U e<=1000)(hG:∀g∈groups f u k,GoodG g):
  jQ (TW w os dr) (n+8) 261 [.list<|aw f,.list<|aw u] [.ref 0,.ref 1,.str<|tx f1,.str<|tx f2,.str<|tx d1,.str<|tx d2,.int k,.str<|tx e] [] [(0,aw f),(1,aw u)] ((fx f u k f1 f2 d1 d2 e).map λx=>It.val<|.str<|tx x):=
 Iq fV hb hz hl hG λρ h xs kw aV ii=>by
  obtain rfl:kw=[]:=xa.mp ii;rw[pJ,cM] at aV;have hl:=dK aV;revert aV;revert xs;exact aa4 λx1 x2 x3 x4 x5 x6 x7 x8=>λaV=>⟨_,[x1,x2,x3,x4,x5,x6,x7,x8],bindK_eq _ _,rfl,aV⟩
theorem age(hz:U f1<=1000/\U f2<=1000)(hG:∀g∈groups f u 3,GoodG g):
  jQ (TW w os dr) (n+8) 261 [.list<|aw f,.list<|aw u] [.ref 0,.ref 1,.str<|tx f1,.str<|tx f2] [] [(0,aw f),(1,aw u)] ((fx f u 3 f1 f2 [] [] [10]).map λx=>It.val<|.str<|tx x):=
 Iq fV hb ⟨hz.1,hz.2,bH _,bH _,bY rfl⟩ hl hG λρ h xs kw aV ii=>by
  obtain rfl:kw=[]:=xa.mp ii;rw[pJ,cM] at aV;have hl:=dK aV;revert aV;revert xs;refine yl λx1 x2 x3 x4=>λaV=>?_
  ·exact⟨_,[x1,x2,x3,x4,.str "" 605,.str "" 606,.int 3 607,.str "\n" 608],bindK_eq _ _,rfl,(V.IsL.append (l:=[.ref 0,.ref 1,.str<|tx f1,.str<|tx f2]) aV ⟨_,_,rfl,⟨_,rfl⟩,_,_,rfl,⟨_,rfl⟩,_,_,rfl,⟨_,rfl⟩,_,_,rfl,⟨_,rfl⟩,rfl⟩)⟩
theorem agf(hz:U e<=1000)(hG:∀g∈groups f u k,GoodG g):
  jQ (TW w os dr) (n+8) 261 [.list<|aw f,.list<|aw u] [.ref 0,.ref 1,.int k,.str<|tx e] ["n","lineterm"] [(0,aw f),(1,aw u)] ((fx f u k [] [] [] [] e).map λx=>It.val<|.str<|tx x):=
 Iq fV hb ⟨bH _,bH _,bH _,bH _,hz⟩ hl hG λρ h xs kw aV ii=>by
  have hk:U kw=2:=bg _ |>.symm.trans (bB U ii)
  revert aV ii;revert hk;revert kw;refine sH λp1 p2=>λaV ii=>?_
  have hl:U xs=2:=B.add_right_cancel (m:=2)<|aK.symm.trans (dK aV);obtain⟨k1,v1⟩:=p1;obtain⟨k2,v2⟩:=p2;obtain rfl:k1=_:=(tK ii).1;obtain rfl:k2=_:=(tK (tK ii).2).1;revert aV;revert hl;revert xs;refine sH λx1 x2=>λaV=>⟨_,[x1,x2,.str "" 603,.str "" 604,.str "" 605,.str "" 606,v1,v2],rfl,rfl,(cE aV λH H e1 i1 r=>cE r λH H e2 i2 r=>?_)⟩
  cases e1;cases e2;exact⟨_,_,rfl,i1,_,_,rfl,i2,_,_,rfl,⟨_,rfl⟩,_,_,rfl,⟨_,rfl⟩,_,_,rfl,⟨_,rfl⟩,_,_,rfl,⟨_,rfl⟩,r⟩
end
theorem Rl{M:Model}{A:bS}{E:ak->ay->Prop}{α β:Type}{aiC:α->β->dD (ForInStep β)}{Q:β->ay->Prop}(I:J α->β->ay->Prop)
  (step:∀a r b s,I (a::r) b s->aF M A (aiC a b) (λfs s'=>match fs with| .yield b'=>I r b' s'| .done _=>c8) E s) (fin:∀b s,I [] b s->Q b s):
  ∀(l:J α) (b:β) (s:ay),I l b s->aF M A (forIn l b aiC) Q E s
 | []=>λb s h=>by exact D DZ<|wpAny_pure<|fin b s h
 |a::r=>λb s h=>by
  rw[Ae];refine wpAny_bind<|wpAny_mono (step a r b s h) (λfs s' hf=>?_) λH H x=>x;cases fs with
  |done b'=>exact hf.elim
  |yield b'=>exact Rl I step fin r b' s' hf
noncomputable def cI(c:B):bb:=(decide (9<=c)&&decide (c<=13))||(decide (91<=c)&&decide (c<=94))||(decide (123<=c)&&decide (c<=126))||[32,35,36,38,40,41,42,43,45,46,63].contains c
noncomputable def cD(c:B):J B:=if cI c then[92,c] else[c]
noncomputable def et(l:J B):J B:=l.flatMap cD
theorem Iu(l:J B):U (et l)<=2*U l:=by
 induction l with
 |nil=>exact aG _
 |cons c l ih=>
  show U (cD c++et l)<=_;refine D aK<|D cK ?_;have:U (cD c)<=2:=by unfold cD;split<;>exact bY rfl
  exact AR ih this
theorem agg(l m:J B):et (l++m)=et l++et m:=kN ..
theorem agh(h:128<=c):cI c=false:=by
 unfold cI;refine D (fB (p:=c<=13)<|ZU h)<|D (fB (p:=c<=94)<|ZT h)<|D (fB (p:=c<=126)<|ZS h) ?_;simp only[Eo,Ax];simp only[z7,Kb,cu,g8,rY];exact ZR h
section
variable{prog:du}{A:bS}{d:ax}
open Builtin.Str in
theorem Iv{t:jh}(hm:s.heap.MapOf (pN prog w) d aiC)(hv:aiC c=some (.str x t))(h:∀k,Q (.text x) {s with toks:=k}):aF (aN prog w) A (tableLookup (.ref d) c) Q E s:=by
 exact wpAny_bind (wpAny_attempt<|wpAny_bind<|wpAny_mkInt<|wpAny_getItem_of (k:=(c:az)) (by simp[pN,AE]) (s:={s with toks:=s.toks+1}) hm hv<|wpAny_bind<|wpAny_of_eq (a:=none) rfl<|wpAny_bind<|wpAny_pure<|wpAny_pure<|h _)
theorem agi:r7 (.type "KeyError") (.type "LookupError")=pure true:=by rw[isSubtype_type];kernel_rfl
open Builtin.Str in
theorem Rm(hh:A.handled=none)(hd:(d==tX)=false)(hm:s.heap.MapOf (pN prog w) d aiC)(hv:aiC c=none)(h:∀h' k,(∀b o,s.heap.get? b=some o->h'.get? b=some o)->Q .keep {s with heap:=h',toks:=k}):aF (aN prog w) A (tableLookup (.ref d) c) Q E s:=by
 refine wpAny_bind (wpAny_attempt<|wpAny_bind<|wpAny_mkInt<|wpAny_getItem_missing_of (k:=(c:az)) (by simp[pN,AE]) hd hh (s:={s with toks:=s.toks+1}) hm hv λh' e hn=>(dh hn.there λob t ho hc H=>wpAny_bind<|wpAny_isInstance (T:="KeyError") (b:=true) ⟨ob,ho,hc⟩ agi ?_));exact D (aU rfl)<|wpAny_bind<|wpAny_rule<|wpAny_pure<|h h' _ hn.keeps
theorem Rn(h:n<=16777216):¬(Ld n=true):=by
 unfold Ld;rw[decide_eq_true_iff];have:km=16777216:=rfl;exact Ak ‹_›
theorem agj(l:J ao):(Ag (λacc (p:ao)=>acc++p.cps) (#[]:bD B) l)=(l.flatMap λp=>p.cps.toList).toArray:=by
 suffices ∀(l:J ao) (a:bD B),(Ag (λacc (p:ao)=>acc++p.cps) a l)=a++(l.flatMap λp=>p.cps.toList).toArray by refine D (this _ _) ?_;simp
 intro l
 induction l with
 |nil=>intro a;simp
 |cons p l ih=>intro a;refine D l6<|D (ih _) (D fa ?_);apply ua;simp
inductive zx(x:ao)(s:ay)(l:J B):J ao×B×bb×J (B×bC B)×bb->ay->Prop
 |mk (dn:J B) (ps:J ao) (known:J (B×bC B)) (fast:bb) (h':bn) (k:B) (e1:x.cps.toList=dn++l) (e2:(ps.reverse.flatMap λp=>p.cps.toList)=et dn)
  (hk:∀c a,known.lookup c=some a->a=some c/\cI c=false) (hh:∀b o,s.heap.get? b=some o->h'.get? b=some o):zx x s l (ps,U<|et dn,fast,known,false) {s with heap:=h',toks:=k}
open Builtin.Str Builtin in
theorem agk{t:jh}{Q:ak->ay->Prop}(hh:A.handled=none)(hd:(d==tX)=false)(hm:s.heap.MapOf (pN prog w) d aiC)
  (hf:∀c:B,(cI c=true->∃t,aiC c=some (.str ⟨#[92,c]⟩ t))/\(cI c=false->aiC c=none)) (hz:x.length<=8000000)
  (h:∀h' t' k,(∀b o,s.heap.get? b=some o->h'.get? b=some o)->Q (.str ⟨(et x.cps.toList).toArray⟩ t') {s with heap:=h',toks:=k}):
  aF (aN prog w) A («str.translate» ⟨[iX x t,.ref d],[]⟩) (λfin s'=>∃v,fin= .done (.ret v)/\Q v s') E s:=by
 refine wpAny_bind<|wpAny_of_eq (a:=(.str x t,x,.ref d)) rfl ?_
 by_cases hx:x.length=0
 ·refine wpAny_ite_true (dG<|by simp[hx]) ?_
  have e0:x.cps.toList=[]:=rP (by refine D eO ?_;exact hx);refine wpAny_bind<|wpAny_rule<|wpAny_bind<|wpAny_of_eq (a:=.str x t) rfl ?_;refine wpAny_pure ⟨_,rfl,?_⟩;have:=h s.heap t s.toks λH H e=>e;rw[e0] at this;have e1:x=⟨#[]⟩:=by
   cases x;exact bB t7<|ua e0
  refine D e1 ?_;exact this
 refine wpAny_ite_false (fB<|by simp[hx])<|wpAny_bind<|wpAny_mono (Q:=λ(r:J ao×B×bb×J (B×bC B)×bb) s'=>∃ps known fast,r=(ps,(et x.cps.toList).length,fast,known,false)/\(ps.reverse.flatMap λp=>p.cps.toList)=et x.cps.toList/\(∃h' k,s'={s with heap:=h',toks:=k}/\(∀b o,s.heap.get? b=some o->h'.get? b=some o))) ?_ (λr s' hr=>?_) λH H x=>x
 ·refine bL bD.forIn_toList<|Rl (zx x s) ?_ ?_ _ _ _ ?_
  ·intro c r b s' dM;obtain⟨dn,ps,known,fast,G,tk,e1,e2,hk,gm⟩:=dM;dsimp only;have hle:U (et dn)<=16777216:=by
    have h3:x.cps.toList.length=x.length:=eO;rw[e1,aK] at h3;have:=Iu dn;exact ZQ h3 this hz
   refine wpAny_ite_false (fB<|Rn hle) ?_
   have CM:∀p:J B,cD c=p->et (dn++[c])=et dn++p:=λp e=>by rw[agg,←e];exact bB (et dn++ ·)<|cM _
   have done:∀(p:ao) (CQ:J<|B×bC B) (Iw:bb) (h2:bn) (CR:B),cD c=p.cps.toList->(∀c a,CQ.lookup c=some a->a=some c/\cI c=false)->(∀b o,s.heap.get? b=some o->h2.get? b=some o)->
     zx x s r (p::ps,U (et dn)+p.cps.size,Iw,CQ,false) {s with heap:=h2,toks:=CR}:=λp CQ Iw h2 CR hp eS fK=>by
    have e:=zx.mk (x:=x) (s:=s) (l:=r) (dn++[c]) (p::ps) CQ Iw h2 CR (by rw[e1,cm];rfl) (by
     refine D (CM _ hp)<|D Ac<|D kN<|D e2 ?_
     exact bB (et dn++ ·) (cM _)) eS fK
    rw[CM _ hp,aK] at e;exact e
   have gJ:∀h2:bn,(∀b o,s.heap.get? b=some o->h2.get? b=some o)->h2.MapOf (pN prog w) d aiC:=λh2 fK=>by
    exact eR hm λo es ep ho q=>⟨o,es,ep,fK _ _ ho,q⟩
   have pg:cI c=true->cD c=[92,c]:=λe=>by unfold cD;exact D (aU e) rfl
   have pn:cI c=false->cD c=[c]:=λe=>by unfold cD;(exact D (aE<|by rw[e];decide) rfl)
   cases fast
   ·refine wpAny_ite_false rfl (wpAny_ite_false rfl ?_)
    by_cases hg:cI c=true
    ·obtain⟨t2,hv⟩:=(hf c).1 hg;exact wpAny_bind<|Iv (gJ G gm) hv λk=>(wpAny_pure<|done ⟨#[92,c]⟩ known false G k (pg hg) hk gm)
    ·have hg:=Kc hg;exact wpAny_bind<|Rm hh hd (gJ G gm) ((hf c).2 hg) λh2 k kP=>(wpAny_pure<|done ⟨#[c]⟩ known false h2 k (pn hg) hk λb o e=>kP b o<|gm b o e)
   ·refine wpAny_ite_true rfl ?_
    cases hl:known.lookup c with
    |some a=>
     obtain⟨rfl,hg⟩:=hk c a hl;exact wpAny_bind<|wpAny_pure<|wpAny_pure<|done ⟨#[c]⟩ known true G tk (pn hg) hk gm
    |none=>
     by_cases hg:cI c=true
     ·obtain⟨t2,hv⟩:=(hf c).1 hg;refine wpAny_bind<|Iv (gJ G gm) hv λk=>(wpAny_bind<|wpAny_pure ?_);refine wpAny_bind<|wpAny_rule<|wpAny_ite_false rfl ?_;exact wpAny_bind<|Iv (s:={s with heap:=G,toks:=k}) (gJ G gm) hv λk2=>(wpAny_pure<|done ⟨#[92,c]⟩ known false G k2 (pg hg) hk gm)
     ·have hg:=Kc hg;refine wpAny_bind<|Rm hh hd (gJ G gm) ((hf c).2 hg) λh2 k kP=>(wpAny_bind<|wpAny_pure ?_);refine wpAny_pure<|done ⟨#[c]⟩ ((c,some c)::known) true h2 k (pn hg) (λc' a' e=>?_) λb o e=>kP b o<|gm b o e;rw[gv] at e;split at e
      ·next he=>
       have:=eq_of_beq he;subst this;cases e;exact⟨rfl,hg⟩
      ·exact hk c' a' e
  ·intro b s' hU;obtain⟨dn,ps,known,fast,G,tk,e1,e2,hk,gm⟩:=hU;rw[cM] at e1;exact⟨ps,known,fast,by exact D e1 rfl,by refine D e1 ?_;exact e2,G,tk,rfl,gm⟩
  ·exact zx.mk [] [] [] _ s.heap s.toks rfl rfl (λc a e=>nomatch e) λH H e=>e
 ·refine Th hr λps known fast bE e2 G bR=>?_
  clear hr;subst bE;refine aH bR λtk o7 gm=>?_
  clear bR;subst o7;have hle:(et x.cps.toList).length<=16777216:=by
   have h3:x.cps.toList.length=x.length:=eO;have:=Iu x.cps.toList;exact ZP h3 this hz
  refine wpAny_ite_false (fB<|Rn hle) ?_
  have e3:(Ag (λacc (p:ao)=>acc++p.cps) (#[]:bD B) ps.reverse)=(et x.cps.toList).toArray:=by rw[agj,e2]
  refine D e3 ?_
  refine wpAny_bind (wpAny_mkStr (wpAny_pure ⟨_,rfl,?_⟩)<|by show(et x.cps.toList).toArray.size<=km;exact hle);exact h _ _ _ gm
end
section
variable{q:B}{ce:St}
theorem aQ.translate{x:ao}{d:ax}{aiC:az->bC ak}(hd:(d==tX)=false)(hm:C.top.MapOf (pN C.prog C.w) d aiC)
  (hf:∀c:B,(cI c=true->∃t,aiC c=some (.str ⟨#[92,c]⟩ t))/\(cI c=false->aiC c=none)) (hz:x.length<=8000000):
  aQ C n (.builtin "str.translate") [.str x,.val<|.ref d] st (.str ⟨(et x.cps.toList).toArray⟩) st:=.mk λA s ρ xs Q hA R aV h=>by
 refine cE aV λy r bE cx bR=>?_
 clear aV;subst bE;obtain⟨t,rfl⟩:=cx;refine cE bR λz r' gW e i2=>?_
 clear bR;subst gW;obtain rfl:r'=[]:=i2;subst e;have za:s.heap.MapOf (pN C.prog C.w) d aiC:=by
  exact eR hm λo es ep ho q=>(⟨o,es,ep,R.led.top _ _ ho,q⟩)
 exact wpAny_call_entry F.slot_str_translate (typeIs_str _ _ _) F.entry_str_translate (agk hA.1 hd za hf hz λh' t' k hk=>(h ρ _ _ (bk.grow (s':={s with heap:=h',toks:=k}) R hk (eN.refl _) rfl rfl) ⟨t',rfl⟩))<|F.args_str_translate_2 _ _
end
theorem agl(P:aP):cT (fR P) "_special_chars_map"=some (.ref 270):=by kernel_rfl
noncomputable def Iy(P:aP):J jz:=match (Bh P).data with| .dict es _=>es.toList|_=>[]
noncomputable def epE(P:aP):B:=match (Bh P).data with| .dict _ n=>n|_=>0
noncomputable def fE(P:aP)(k:az):bC ak:=((Iy P).find? λe=>AE k e.key).map (·.val)
noncomputable def Ro(v:bC ak)(c:B):bb:=match v with|some (.str x _)=>x.cps.toList==[92,c]&&cI c|none=> !cI c|_=>false
theorem Rp(P:aP):(Iy P).all (λe=>match e.key with| .int i _=>e.hash==hashInt i&&decide (0<=i)&&decide (i<128)|_=>false)=true:=by kernel_rfl
theorem agm(P:aP):(eD 128).all (λc=>Ro (fE P c) c)=true:=by kernel_rfl
theorem agn(P:aP)(prog:du)(w:bz):(bZ P).MapOf (pN prog w) 270 (fE P):=by
 refine⟨Bh P,(Iy P).toArray,epE P,by kernel_rfl,?_,by kernel_rfl,λe he=>?_,λk=>?_⟩
 ·exact⟨rfl,rfl,rfl⟩
 ·have:=fX.mp (Rp P) e (by simpa using he);obtain⟨hh,k,v⟩:=e;cases k with
  |int i t=>exact⟨i,xm i,eq_of_beq (fc.mp (fc.mp this).1).1⟩
  |_=>exact aZ this dy
 ·unfold findBy fE;refine D (JL _ _) ?_;rfl
theorem ago(v:bC ak)(c:B)(h:Ro v c=true):(cI c=true->∃t,v=some (.str ⟨#[92,c]⟩ t))/\(cI c=false->v=none):=by
 cases v with
 |none=>exact⟨λe=>aZ ((bB not e).symm.trans h) dy,λH=>rfl⟩
 |some y=>
  cases y with
  |str x t=>
   have h:=fc.mp h;obtain⟨a⟩:=x;exact⟨λH=>⟨t,bB (λa=>some<|iX ⟨a⟩ t)<|ua<|eq_of_beq h.1⟩,λe=>aZ (e.symm.trans h.2) dy⟩
  |_=>exact aZ h dy
theorem agp(P:aP)(c:B):(cI c=true->∃t,fE P c=some (.str ⟨#[92,c]⟩ t))/\(cI c=false->fE P c=none):=by
 by_cases h:c<128
 ·have:=fX.mp (agm P) c<|rX.mpr h;revert this;generalize fE P c=o;exact ago o c
 ·have hg:=agh (c:=c) (by exact iS ‹_›);refine⟨λe=>(by rw[hg] at e;cases e),λH=>?_⟩;unfold fE;rw[J.find?_eq_none.mpr ?_];rfl;intro e he;have:=fX.mp (Rp P) e he;obtain⟨hh,k,v⟩:=e;cases k with
  |int i t=>
   refine λe2=>h ?_
   have h3:=dq (fc.mp this).2;exact AF.mp<|eq_of_beq e2▸h3
  |_=>exact aZ this dy
theorem agq{l:J B}(hl:U l<=8000000):cC (TW w os dr) (n+1) (.ref 280) [] [.str<|tx l] [] (.str<|tx<|et l):=by
 refine m7 (mY _) rfl (λxs hx=>?_) λL=>?_
 ·revert xs;exact sG λH=>rfl
 have gi:=Ox w.params;have bi:=OB w.params;refine eE dF (cg<|i9 true (fv (fw (cB (cQ _) gi (dN _) bi) (an ah<|an (cB (cQ _) (sI _) (dN _)<|sJ _) aM) aQ.B2) kR) (λH=>?_) λh=>by exact Aw h);refine j6 (jq ah nY (an (hH (cQ _)<|agl _) aM) (aQ.translate (aiC:=fE w.params) (by rfl) (agn _ _ _) (agp _)<|by refine D (jH _) ?_;exact hl) nR PySem.F.slot_str_translate PySem.F.type_str_translate) ⟨_,rfl,?_⟩;exact o8 rfl rfl
theorem agr{p:cN}{ca:ax}{v:ak}{aiA:V}(ht:C.top.get? ca=some o)(hd:o.data= .cell (some v))(hu:∀ρ h,V.Is ρ h aiA v)
  (hk:C.env.scope.kind= .function) (hl:C.env.kindOf x=some .cell) (hc:C.env.cells.lookup x=some ca) (hx:aO ((x==("__debug__":ao))=false) aD._auto_1):EV C n (.Name x p) st aiA st:=.mk λA s ρ Q hA R h=>
 wpAny_Name (wpAny_loadName_cell hk hl hc ⟨o,R.led.top _ _ ht,hd⟩<|h ρ v s (ek R)<|hu ρ s.heap) hx
noncomputable def Rq:bc:=⟨.none,aA,.freed,#[]⟩
noncomputable def pu(P:aP)(sc co:bc):bn:=(((bZ P).push sc).push Rq).push co
theorem lu(P:aP):(bZ P).objs.size=319:=by kernel_rfl
theorem CS(P:aP)(sc co:bc):(pu P sc co).objs.size=322:=by unfold pu;simp only[jV,jV,jV,lu]
theorem vh{b:ax}(h:(bZ P).get? b=some o):(pu P sc co).get? b=some o:=dE _<|dE _<|dE _ h
theorem Rr{b:ax}(h:(pu P sc co).get? b=some o):(b=321/\o=co)\/(b=319/\o=sc)\/(bZ P).get? b=some o:=by
 unfold pu at h;rcases Em h with h|h
 ·rw[jV,jV,lu] at h;exact .inl h
 rcases Em h with h'|h'
 ·exfalso;refine xA h' λG h2=>?_
  simp only[bn.get?_eq_some] at h;simp only[h2] at h;cases h.2
 rcases Em h' with h|h
 ·rw[lu] at h;exact .inr<|.inl h
 ·exact .inr<|.inr h
theorem zy(h:co.isFreed=false):(pu P sc co).get? 321=some co:=by
 have:=ew (((bZ P).push sc).push Rq) h;rw[jV,jV,lu] at this;exact this
theorem ags(h:sc.isFreed=false):(pu P sc co).get? 319=some sc:=by
 have:=ew (bZ P) h;rw[lu] at this;exact dE _<|dE _ this
theorem agt:(pu P sc co).get? 320=aA:=by
 cases e:(pu P sc co).get? 320 with
 |none=>rfl
 |some o=>
  rcases Rr e with ⟨h,_⟩|⟨h,_⟩|h
  ·exact nomatch h
  ·exact nomatch h
  ·have:=dH h;rw[lu] at this;exact aZ this (by decide)
noncomputable def TL(w:bz)(os:bM)(dr:cV)(sc co:bc)(bo:co.isFreed=false):Wd:=⟨oJ,w,pu w.params sc co,os,dr,⟨co,by rw[CS];exact zy bo⟩⟩
section
variable{bo:co.isFreed=false}
theorem Rs(R:Rep ⟨TL w os dr sc co bo,env⟩ ρ st s):Rep ⟨TW w os dr,env⟩ ρ st s:=by
 have L:=R.led;refine⟨R.loc,⟨L.len,L.objs,L.nodup,L.fC,λa h=>?_,?_,λb o e=>L.top b o<|vh e,L.os,L.drawn⟩⟩
 ·have:=L.low a h;rw[show(TL w os dr sc co bo).top.objs.size=322 from CS ..] at this;exact D (lu _)<|cY (by decide) this
 ·cases e:(TW w os dr).top.get? env.locals with
  |none=>rfl
  |some o=>
   have G:(pu w.params sc co).get? env.locals=aA:=L.gT;rw[vh (sc:=sc) (co:=co) e] at G;exact nomatch G
theorem Rt{aB:J ax}{aj:St}{s':ay}(R:Rep ⟨TL w os dr sc co bo,env⟩ ρ st s)(Hs:∀a∈aB,a∉ρ->322<=a)(N:bk ⟨TW w os dr,env⟩ ρ s aj aB s'):bk ⟨TL w os dr sc co bo,env⟩ ρ s aj aB s':=by
 have L:=N.rep.led;have ka:(TL w os dr sc co bo).top.objs.size=322:=CS ..;refine⟨N.pre,N.aX,N.keep,N.fresh,N.gens,N.rep.loc,⟨L.len,L.objs,L.nodup,L.fC,λa h=>?_,R.led.gT,λb o e=>?_,L.os,L.drawn⟩⟩
 ·
  refine D ka ?_
  by_cases ha:a∈ρ
  ·have:=R.led.low a ha;rw[show(Cx.toWd ⟨TL w os dr sc co bo,env⟩).top.objs.size=322 from ka] at this;exact this
  ·exact Hs a h ha
 ·refine N.keep b o (R.led.top b o e) (λhb=>?_) λhb=>?_
  ·have G:=R.led.low b hb;exact aZ (dH e)<|iU.mpr G
  ·subst hb;rw[show(Cx.toWd ⟨TL w os dr sc co bo,env⟩).top.get? env.locals=aA from R.led.gT] at e;exact nomatch e
theorem aQ.Ru{aiC:ak}(h:aQ ⟨TW w os dr,env⟩ n aiC args st v st):aQ ⟨TL w os dr sc co bo,env⟩ n aiC args st v st:=.mk λA s ρ xs Q hA R aV k=>
 h A s ρ xs Q hA (Rs R) aV λaB x s' N i=>by
  have e:aB=ρ:=(Ah N.pre<|by simp only[R.led.len,N.rep.led.len]).symm;subst e;exact k _ x s' (Rt R (λa G h2=>aZ G h2) N) i
theorem aQ.up{aiC:ak}{aj:St}(eF:sc.isFreed=false)(hL:env.locals=320)(h:aQ ⟨TW w os dr,env⟩ n aiC args st v aj):aQ ⟨TL w os dr sc co bo,env⟩ n aiC args st v aj:=.mk λA s ρ xs Q hA R aV k=>
 h A s ρ xs Q hA (Rs R) aV λaB x s' N i=>k _ x s' (Rt R (λa G h2=>by
  have hf:=N.fresh a G h2;have hl:=N.rep.led.low a G;rw[show(Cx.toWd ⟨TW w os dr,env⟩).top.objs.size=319 from lu _] at hl;have n1:a≠321:=λe=>by
   subst e;rw[R.led.top 321 co<|zy bo] at hf;exact nomatch hf
  have n2:a≠319:=λe=>by
   subst e;simp only[R.led.top 319 sc<|ags eF] at hf;exact nomatch hf
  have n3:a≠320:=λe=>by
   subst e;refine aH R.loc λm cq H=>eR cq λoL H H h3 H=>?_
   rw[show(Cx.env ⟨TL w os dr sc co bo,env⟩).locals=320 from hL,show s.heap.get? 320=aA from hf] at h3;exact nomatch h3
  have:(319:B)<=a:=hl;have m1:@Ne B a 321:=n1;have m2:@Ne B a 319:=n2;have m3:@Ne B a 320:=n3
  exact YR this m2 m3 m1) N) i
theorem Rv{m:B}{I:ax}{sh:J (ax×J V)}{g:B->Prop}(eo:∀p∈sh,(TL w os dr sc co bo).top.get? p.1=aA):∀{l:J V} {own:ax->Prop} {s:ay},(∀b,own b->(TL w os dr sc co bo).top.get? b=aA)->
  gq (TW w os dr) m I sh g (l.map .val) own s->gq (TL w os dr sc co bo) m I sh g (l.map .val) own s
 | [],own,s,ho,aiC=>λs' r A Q E hA hQ=>aiC s' ⟨r.keep,r.aX,r.sh,λb o e=>r.top b o<|vh e,r.gens,r.news,r.size,r.os,r.drawn⟩ A Q E hA λbQ mv fin=>hQ bQ ⟨mv.keep,mv.aX,mv.sh,λb o e=>mv.keep b o (r.top b o e) (λh=>by simp only[ho b h] at e;cases e) (λp hp h=>by simp only[←h,eo p hp] at e;cases e),mv.gens,mv.size,mv.os,mv.drawn⟩ fin
 |v::l,own,s,ho,aiC=>λs' r A Q E hA hQ=>aiC s' ⟨r.keep,r.aX,r.sh,λb o e=>r.top b o<|vh e,r.gens,r.news,r.size,r.os,r.drawn⟩ A Q E hA λx bQ eK mv dj hit F=>by
  have mv':Mv (TL w os dr sc co bo) sh g own s' bQ:=⟨mv.keep,mv.aX,mv.sh,λb o e=>mv.keep b o (r.top b o e) (λh=>by simp only[ho b h] at e;cases e) (λp hp h=>by simp only[←h,eo p hp] at e;cases e),mv.gens,mv.size,mv.os,mv.drawn⟩
  refine hQ x bQ eK mv' dj hit<|Rv eo (λb hb=>?_) F;rcases(dj b hb).1 with h|h
  ·exact ho b h
  ·cases e:(TL w os dr sc co bo).top.get? b with
   |none=>rfl
   |some o=>have:=r.top b o e;rw[h] at this;exact nomatch this
theorem agu{hp:J O}(L:jj (TL w os dr sc co bo) ρ hp s):jj (TW w os dr) ρ hp s:=by
 have ka:(TL w os dr sc co bo).top.objs.size=322:=CS ..;have h2:(TW w os dr).top.objs.size=319:=lu _;refine⟨L.len,L.objs,L.nodup,λa h=>?_,?_,λb o e=>L.top b o<|vh e,L.os,L.drawn⟩
 ·refine D h2 ?_;have:=L.low a h;rw[ka] at this;exact cY (by decide) this
 ·refine D h2 ?_;have:=L.size;rw[ka] at this;exact cY (by decide) this
theorem jQ.up{m:B}{aiC:ax}{gt:J O}{gL:J ao}{cy:J (B×J V)}{items:J V}(n8:∀p∈cy,p.1<U gt)(h:jQ (TW w os dr) m aiC gt args gL cy (items.map .val)):jQ (TL w os dr sc co bo) m aiC gt args gL cy (items.map .val):=.mk λ{A s dQ xs kw Q} hA hL aV ii hQ=>h.run hA (agu hL) aV ii λs' I La keep hI Rw H7 hT hg ho hd F=>hQ s' I La keep hI Rw H7 hT hg ho hd (by
  have live:∀b,s.heap.get? b=aA->(TL w os dr sc co bo).top.get? b=aA:=λb hb=>by
   cases e:(TL w os dr sc co bo).top.get? b with
   |none=>rfl
   |some o=>have:=hL.top b o e;rw[hb] at this;exact nomatch this
  have inl:∀b∈dQ,(TL w os dr sc co bo).top.get? b=aA:=λb hb=>xX<|hL.low b hb;refine Rv (λp hp=>?_) (λb hb=>?_) F
  ·refine aH (fb.mp hp) λq hq av=>?_
   subst av;refine inl _ ?_
   have lt:=n8 q hq;rw[←hL.len] at lt;simp only[c6,bO lt];exact nF _
  ·rcases hb with rfl|⟨hb,_⟩|rfl|hb
   ·exact live _ hI
   ·exact inl b hb
   ·exact live _ Rw
   ·exact hb.elim)
end
open Classical in
noncomputable def tv(aiC:α->V)(h:α->J V)(l:J α)(aiA:V):J V:=if e:∃a,a∈l/\aiC a=aiA then h (choose e) else[]
theorem Iz{aiC:α->V}{h:α->J V}{l:J α}(hf:∀a b,aiC a=aiC b->a=b){a:α}(ha:a∈l):tv aiC h l (aiC a)=h a:=by
 unfold tv;have e:∃b,b∈l/\aiC b=aiC a:=⟨a,ha,rfl⟩
 exact D (dif_pos e)<|D (hf _ _ (KZ e).2) rfl
theorem Rx{aiC:α->V}{h:α->J V}{l:J α}(hf:∀a b,aiC a=aiC b->a=b):(l.map aiC).flatMap (tv aiC h l)=l.flatMap h:=by
 have:∀(m:J α),(∀a∈m,a∈l)->(m.map aiC).flatMap (tv aiC h l)=m.flatMap h:=by
  intro m
  induction m with
  |nil=>intro _;rfl
  |cons a m ih=>
   intro hm;simp only[eu,fa,fa,Iz hf (hm a (.head _)),ih λb hb=>hm b<|.tail _ hb]
 exact this l λa h=>h
theorem comp_map{elt iter:bv}{px:cN}{ifs:J bv}{scope:sa}{l:J α}{aiy:St->Prop}{lo:B}{out:J V}(cl:J<|ao×ax)(aiC:α->V)(h:α->J V)(hf:∀a b,aiC a=aiC b->a=b)
  (G:EV C n iter st v am) (h2:fD C n v am (l.map aiC) aiy lo) (hD:aiy am) (kr:lo<=U am.hp)
  (iY:∀L a,a∈l->∃b,qk (gZ C scope cl L) n ifs ⟨[(x,aiC a)],am.hp⟩ b/\((b=false/\h a=[])\/(b=true/\∃y,h a=[y]/\EV (gZ C scope cl L) n elt ⟨[(x,aiC a)],am.hp⟩ y ⟨[(x,aiC a)],am.hp⟩)))
  (uW:l.flatMap h=out) (hz:U out<=1000000)
  (nj:aO (tY scope C.env=pure cl) a9)
  (eF:aO ((scope.names.all λy=>match y.2 with| .cell=>false| .local=>(match scope.names.lookup y.1 with|some .local=>true|_=>false)|_=>true)=true) a9) (kF:aO (scope.kind= .function) a9) (hx:aO (scope.names.lookup x=some El) a9)
  (hs:aO (∀x,pL iter C.env x=pure x) aI._auto_1):
  EV C n (.ListComp elt [⟨.Name x px,iter,ifs,0⟩] scope pos) st (.ref<|U am.hp) ⟨am.loc,am.hp++[.list out]⟩:=by
 have sc:=Hu eF;have e:(l.map aiC).flatMap (tv aiC h l)=out:=(Rx hf).trans uW;simp only[←e];refine Px cl (tv aiC h l) G h2 hD kr (λL aiA hu=>?_) (by refine D e ?_;exact hz) nj sc.1 kF sc.2 hx hs;refine aH (fb.mp hu) λa ha av=>?_
 subst av;exact D (Iz hf ha)<|iY L a ha
theorem set_same{l:J α}{x:α}(h:l[i]?=some x):l.set i x=l:=by
 obtain⟨hi,e⟩:=cJ.mp h;subst e;exact J.set_getElem_self ..
noncomputable abbrev qB(w:bz):Env:=callEnvC (fdOf<|sv w.params) 320 318
section
variable{bo:co.isFreed=false}{l:J (ao×V)}{hp:J O}
noncomputable abbrev cL(w:bz)(os:bM)(dr:cV)(sc co:bc)(bo:co.isFreed=false):Cx:=⟨TL w os dr sc co bo,qB w⟩
theorem CT(eF:sc.isFreed=false){j:B}{steps:J (J B×J B)}{G h2:J B}(hi:hp[i]?=some (.list<|bf steps))(hj:hp[j]?=some (.list<|aw [G,h2]))(fU:i≠j)(hz:U steps<=1000)(hs:∀p∈steps,U p.1<=1000/\U p.2<=1000)(hk:k<=1000)(hh:U G<=1000/\U h2<=1000/\U e<=1000):
  aQ (cL w os dr sc co bo) (n+4) (.ref 313) [.ref i,.int k,.ref j,.str<|tx e] ⟨l,hp⟩ (.ref<|U hp) ⟨l,hp++[.list<|aw<|report (gk steps) k G h2 e]⟩:=by
 refine aQ.up eF rfl ?_
 have h:=cC.frame (C:=⟨TW w os dr,qB w⟩) (st:=⟨l,hp⟩) [i,j] (af9 (w:=w) (os:=os) (dr:=dr) (n:=n) hz hs hk hh) rfl (by show 2<=3;decide) (by simp[fU]) (λa ob ha=>by
  match a with
  |0=>cases ha;exact⟨k6,i,rfl,by simp only[hi,O.Bj,wi]⟩
  |1=>cases ha;exact⟨eZ,j,rfl,by simp only[hj,O.Bj,rs]⟩
  |a+2=>cases ha) rfl
 simp only[uz,F9,eu,pJ,O.Bj,wi,rs,set_same hi,set_same hj] at h;exact h
theorem zz{aiA:J (J B)}{p1 p2 agv Hw:cN}{e:bv}{es:J bv}{k1 k2:B}{r1 ws:J V}
  (ha:iD (cL w os dr sc co bo) (n+10) (e::es) st (.ref k1:: .ref k2::r1) am) (hk:lr (cL w os dr sc co bo) (n+10) gL ns ws am ba)
  (oU:jQ (TW w os dr) (n+8) 261 [.list<|aw f,.list<|aw u] (.ref 0:: .ref 1::(r1++ws)) ns [(0,aw f),(1,aw u)]<|aiA.map λx=>It.val<|.str<|tx x)
  (gm:ba.hp[k1]?=some (.list<|aw f)) (kP:ba.hp[k2]?=some (.list<|aw u)) (cw:k1≠k2) (hr:V.ff (λH=>false) (r1++ws)=true) (hz:U aiA<=1000000) (he:aO (gV e=true) a9):
  EV (cL w os dr sc co bo) (n+12) (.Call (.Name "list" p1) [.Call (.Name "unified_diff" p2) (e::es) gL Hw] [] agv) st (.ref<|U ba.hp) ⟨ba.loc,ba.hp++[.list<|aw aiA]⟩:=by
 have hg:(bZ w.params).Ns tT (cT<|fR w.params):=cQ _;have kp:∀b o,(bZ w.params).get? b=some o->(TL w os dr sc co bo).top.get? b=some o:=λb o h=>vh h;have hcu:jQ (TL w os dr sc co bo) (n+8) 261 [.list<|aw f,.list<|aw u] (.ref 0:: .ref 1::(r1++ws)) ns [(0,aw f),(1,aw u)] ((aw aiA).map .val):=by
  refine jQ.up (va f u) ?_
  have:(aw aiA).map It.val=aiA.map λx=>It.val (.str<|tx x):=by unfold aw;exact D gP rfl
  simp only[this];exact oU
 exact EV.listOf (n:=n+10) (cB (hg.keeps kp) (qc _) ((dN _).keeps kp)<|qe _) QC (po.fn (m:=n+8) (hH (hg.keeps kp)<|aa9 _) (kp _ _ (rm w.params).get) (rm w.params).fd ha hk hcu gm kP cw eZ eZ hr he) (by exact D (en _)<|mo<|by exact Nk hz)
end
noncomputable def sg(l:J B):J (J B):=l.map λc=>[c]
noncomputable def cR(t:J B):J B:=t.filter λc=>decide (c≠92)
noncomputable def jR(z c:B):J B:=if c % 2=z then cD c else[c]
noncomputable def nA(z c:B):J B:=if c % 2=z then[c] else cD c
noncomputable def eG(z:B)(b:J B):J B:=b.flatMap<|jR z
noncomputable def nB(z:B)(b:J B):J B:=b.flatMap<|nA z
noncomputable abbrev dY:=J<|J B×J B
noncomputable def gu(z c:B):dY:=if cI c=true/\c % 2=z then[([],[92]),([c],[c])] else[([c],[c])]
noncomputable def fW(z c:B):dY:=if cI c=true/\c % 2=z then[([92],[92]),([c],[c])] else if cI c=true then[([92],[]),([c],[c])] else[([c],[c])]
noncomputable def eV(z:B)(b:J B):dY:=b.flatMap<|gu z
noncomputable def cS(z:B)(b:J B):dY:=b.flatMap<|fW z
noncomputable def fL(z:B)(b:J B):dY:=eV z b++(eV z b).map λs=>([],s.2)
noncomputable def fh(t:J B):dY:=t.map λc=>([c],cD c)
noncomputable def gM(one two:J<|J B)(bare whole:J B):dY:=
 if U one<U two then(one++[bare]).map (λl=>(l,[]))++[([],whole)]++two.map (λl=>(l,l))++([bare]++one).map λl=>([],l)
 else([whole]++two++[bare]).map (λl=>([],l))++one.map (λl=>(l,l))++([bare]++two).map λl=>(l,[])
noncomputable def dR(z:B):J B:=if z=1 then[10] else[]
structure wN(t:J B)(z k:B):Prop where
 aim:fx [t] [t] k [98,97,114,101] [104,97,108,102] [49] [50] (dR z)=[]
 ain:fx [] [] k [98,97,114,101] [104,97,108,102] [49] [50] (dR z)=[]
 first:fx (sg<|cR t) (sg<|eG z (cR t)++eG z (cR t)) k [98,97,114,101] [104,97,108,102] [] [50] (dR z)=report (gk<|fL z<|cR t) k [45,45,45,32,98,97,114,101] [43,43,43,32,104,97,108,102,9,50] (dR z)
 second:fx (sg<|et<|cR t) (sg<|eG z<|cR t) k [119,104,111,108,101] [104,97,108,102] [49] [] (dR z)=report (gk<|cS z<|cR t) k [45,45,45,32,119,104,111,108,101,9,49] [43,43,43,32,104,97,108,102] (dR z)
 aio:fx (sg t) (t.map cD) k [] [] [] [] (dR z)=report (gk<|fh t) k [45,45,45,32] [43,43,43,32] (dR z)
 aip:fx (sg (eG z<|cR t)++[cR t]++sg (nB z<|cR t)) ([et<|cR t]++sg (nB z<|cR t)++[cR t]++sg (eG z<|cR t)) 3 [104,97,108,102] [111,116,104,101,114] [] [] [10]=report (gk<|gM (sg<|eG z<|cR t) (sg<|nB z<|cR t) (cR t)<|et<|cR t) 3 [45,45,45,32,104,97,108,102] [43,43,43,32,111,116,104,101,114] [10]
 g1:∀g∈groups [t] [t] k,GoodG g
 g2:∀g∈groups [] [] k,GoodG g
 g3:∀g∈groups (sg<|cR t) (sg<|eG z (cR t)++eG z (cR t)) k,GoodG g
 g4:∀g∈groups (sg<|et<|cR t) (sg<|eG z<|cR t) k,GoodG g
 g5:∀g∈groups (sg t) (t.map cD) k,GoodG g
 g6:∀g∈groups (sg (eG z<|cR t)++[cR t]++sg (nB z<|cR t)) ([et<|cR t]++sg (nB z<|cR t)++[cR t]++sg (eG z<|cR t)) 3,GoodG g
theorem Ry{q:B}{elt iter:bv}{y:ao}{px py yM:cN}{ifs:J bv}{scope:sa}{l:J α}{aiy:St->Prop}{lo:B}{out:J V}{K:Fl->St->Prop}(cl:J<|ao×ax)(aiC:α->V)(h:α->J V)(hf:∀a b,aiC a=aiC b->a=b)
  (G:EV C n iter st v am) (h2:fD C n v am (l.map aiC) aiy lo) (hD:aiy am) (kr:lo<=U am.hp)
  (iY:∀L a,a∈l->∃b,qk (gZ C scope cl L) n ifs ⟨[(x,aiC a)],am.hp⟩ b/\((b=false/\h a=[])\/(b=true/\∃y,h a=[y]/\EV (gZ C scope cl L) n elt ⟨[(x,aiC a)],am.hp⟩ y ⟨[(x,aiC a)],am.hp⟩)))
  (uW:l.flatMap h=out) (hz:U out<=1000000) (hK:K .next (St.put ⟨am.loc,am.hp++[.list out]⟩ y<|.ref<|U am.hp))
  (Hf:aO (swapsWith (.ListComp elt [⟨.Name x px,iter,ifs,0⟩] scope pos) (some<|.Name y py) yM.line C.env=pure true) a9)
  (nj:aO (tY scope C.env=pure cl) a9)
  (eF:aO ((scope.names.all λy=>match y.2 with| .cell=>false| .local=>(match scope.names.lookup y.1 with|some .local=>true|_=>false)|_=>true)=true) a9) (kF:aO (scope.kind= .function) a9) (hx:aO (scope.names.lookup x=some El) a9)
  (hk:aO (C.env.scope.kind= .function) a9) (hy:aO (C.env.kindOf y=some .local) a9)
  (hs:aO (∀x,pL iter C.env x=pure x) aI._auto_1):
  X1 C n q (.Assign [.Name y py] (.ListComp elt [⟨.Name x px,iter,ifs,0⟩] scope pos) yM) st K:=by
 have sc:=Hu eF;have e:(l.map aiC).flatMap (tv aiC h l)=out:=(Rx hf).trans uW;refine adf cl (tv aiC h l) Hf G h2 hD kr (λL aiA hu=>?_) (by refine D e ?_;exact hz) nj sc.1 kF sc.2 hx (by refine D e ?_;exact hK) hk hy hs;refine aH (fb.mp hu) λa ha av=>?_
 subst av;exact D (Iz hf ha)<|iY L a ha
theorem agw(c:B):uK (c:az)=cI c:=by
 unfold uK cI;have h:∀l:J B,(l.map λ(x:B)=>(x:az)).contains (c:az)=l.contains c:=by
  intro l
  induction l with
  |nil=>rfl
  |cons a l ih=>
   simp only[eu,z8,z8,ih];congr 1;rw[sd,nH,nH];lia
 have h2:=h [32,35,36,38,40,41,42,43,45,46,63];simp only[←h2];have e:∀a b:B,decide ((a:az)<=(b:az))=decide (a<=b):=λa b=>vE.mpr (by lia);have e1:=λa=>e a c;have e2:=λb=>e c b;simp only[show(9:az)=((9:B):az) from rfl,show(13:az)=((13:B):az) from rfl,show(91:az)=((91:B):az) from rfl,show(94:az)=((94:B):az) from rfl,show(123:az)=((123:B):az) from rfl,show(126:az)=((126:B):az) from rfl,e1,e2];rfl
section
variable{bo:co.isFreed=false}
theorem CU:∀b o,(bZ w.params).get? b=some o->(TL w os dr sc co bo).top.get? b=some o:=λb o h=>vh h
theorem Rz:(TL w os dr sc co bo).top.Ns tT (cT<|fR w.params):=(cQ _).keeps CU
theorem RA:(TL w os dr sc co bo).top.Ns builtinsNs (cT<|kU w.params):=(dN _).keeps CU
theorem wO{l:J B}(hl:U l<=8000000):aQ ⟨TL w os dr sc co bo,env⟩ (n+1) (.ref 280) [.str<|tx l] st (.str<|tx<|et l) st:=aQ.Ru<|aQ.wm<|agq hl
theorem RB:aQ ⟨TL w os dr sc co bo,env⟩ (n+1) (.ref 294) [.str<|tx [c]] st (.bool<|cI c) st:=by
 have:=aQ.Ru (sc:=sc) (co:=co) (bo:=bo)<|aQ.wm (C:=⟨TW w os dr,env⟩) (n:=n+1) (st:=st)<|acx (w:=w) (os:=os) (dr:=dr) (n:=n) (c:=c);rw[agw] at this;exact this
theorem str_inj{a b:B}(h:V.str (tx [a])=V.str (tx [b])):a=b:=by
 cases h;rfl
theorem IA{a b:J B}(h:V.str (tx a)=V.str (tx b)):a=b:=o9.mp (by injection h)
theorem IB(l:J B):signs (tx l)=l.map λc=>V.str (tx [c]):=rfl
theorem RD(l:J B):signs (tx l)=aw (sg l):=by simp only[IB];unfold aw sg;exact D gP rfl
theorem RE:∀(ls:J<|J B),Eh (tx []) (ls.map tx)=tx (ls.flatten)
 | []=>rfl
 | [x]=>by simp only[eu,pJ,JR,J.flatten_nil,cM];rfl
 |x::y::ls=>by
  have h:=RE<|y::ls;refine D eu<|D eu<|D JR ?_;show tx x++tx []++Eh (tx []) (tx y::ls.map tx)=_;simp only[show tx y::ls.map tx=(y::ls).map tx from rfl,h,kY,kY,cM]
theorem CV{ls:J (J B)}(hk:st.hp[k]?=some (.list<|aw ls))(hz:(ls.map U).sum<=16777216):aQ C n (.builtin "str.join") [.str<|tx [],.ref k] st (.str<|tx ls.flatten) st:=by
 have e:aw ls=(ls.map tx).map V.str:=by unfold aw;simp only[gP];rfl
 simp only[←RE];refine aQ.join (by simp only[hk,e])<|D gP ?_;have:(λx:J B=>(tx x).length)=U:=by funext x;exact jH x
 exact D this<|D (jH _) hz
theorem agx{d:B}:(!decide (tx [c]=tx [d]))=decide (c≠d):=by
 have e:decide (tx [c]=tx [d])=decide (c=d):=vE.mpr ((o9 (a:=[c]) (b:=[d])).trans<|by simp);simp only[e];by_cases h:c=d<;>simp[h]
theorem zA(c:B):U (cD c)<=2:=by unfold cD;split<;>simp
theorem agy(z c:B):U (jR z c)<=2:=by
 unfold jR;split
 ·exact zA c
 ·exact bY rfl
theorem agz(z c:B):U (nA z c)<=2:=by
 unfold nA;split
 ·exact bY rfl
 ·exact zA c
theorem CW(c:B):et [c]=cD c:=by unfold et;exact cM _
theorem zB{α:Type}(aiC:α->J B)(m:B)(hf:∀a,U (aiC a)<=m):∀l:J α,((l.map aiC).map U).sum<=U l*m
 | []=>bH _
 |a::l=>by
  simp only[eu,eu,JZ,cK,An];have:=zB aiC m hf l;have:=hf a;lia
theorem agA(l:J B):(sg l).flatten=l:=by
 induction l with
 |nil=>rfl
 |cons a l ih=>show[a]++(sg l).flatten=_;exact D ih rfl
theorem wP{β:Type}(aiC:α->β)(l:J α):(l.flatMap λa=>[aiC a])=l.map aiC:=by
 induction l with
 |nil=>rfl
 |cons a l ih=>rw[fa,ih];rfl
theorem zC(aiC:α->J B)(l:J α):aw (l.map aiC)=l.map λa=>V.str (tx<|aiC a):=by unfold aw;simp only[gP];rfl
theorem mod2(c z:B):((((c:az).fmod 2)==(z:az)))=decide (c % 2=z):=by
 rw[KX _ (by decide),sd,nH,ip];lia
theorem IC(l:J<|ao×V)(x:O)(h:(l.all λp=>p.2.bG λk=>decide (k<0))=true):jn 0 ⟨l,[]++[x]⟩ ⟨l,[]⟩:=
 mw (hp:=[]) (aG _) (λo h=>nomatch h) (λH H h=>h) λp hp=>fX.mp h p hp
noncomputable def fj(t b h o wh:J B)(z k:B):J (ao×V):=[("whole",.str<|tx wh),("other",.str<|tx o),("half",.str<|tx h),("bare",.str<|tx b),("end",.str<|tx<|dR z),("around",.int k),("text",.str<|tx t)]
theorem RF:∀t:J B,(t.flatMap λc=>if c≠92 then[V.str<|tx [c]] else[])=aw (sg<|cR t)
 | []=>rfl
 |c::t=>by
  have ih:=RF t;unfold cR sg at*;simp only[zC] at*;simp only[fa,pG,ih]
  by_cases h:c≠92
  ·exact D (aU h)<|D (aU<|dG h) rfl
  ·exact D (aE h)<|D (aE λq=>h<|dq q) rfl
theorem RG{α:Type}(aiC:α->J (J B))(m:B):∀l:J α,(∀a∈l,U (aiC a)<=m)->U (l.flatMap aiC)<=U l*m
 | []=>λH=>bH _
 |a::l=>λh=>by
  simp only[fa,aK,cK,An];have:=RG aiC m l λb hb=>h b<|.tail _ hb;have:=h a<|.head _;lia
theorem CX{rows:J (J B)}{G h2:J B}(h:U rows<=900):U (report rows k G h2 e)<=1000000:=by
 have ok:=Ce (rows:=rows) (n:=k) (U rows)<|aG _;have G:=RG (lR e) 901 (lg rows k<|eD<|U rows).1 λp hp=>by
  have:=(ok.shown p hp).1;exact YT h this
 have h2:=ok.len;have h3:(lg rows k<|eD<|U rows).1.length*901<=900*901:=D5 _ (by exact cY ‹_› ‹_›);exact D aK<|YS h3 G
theorem CY(steps:dY):U (gk steps)<=2*U steps:=by
 have:=B1 steps;exact D aK this
noncomputable def pv(l:dY):Prop:=∀p∈l,U p.1<=1000/\U p.2<=1000
theorem wQ{l m:dY}(G:pv l)(h2:pv m):pv (l++m):=λp hp=>(bK.mp hp).elim (G p)<|h2 p
theorem ID{aiC:B->dY}(h:∀c,pv<|aiC c)(l:J B):pv (l.flatMap aiC):=λp hp=>by
 exact aH (vC.mp hp) λc H hc=>(h c p hc)
theorem RH(z c:B):pv (gu z c):=λp hp=>by
 unfold gu at hp;split at hp
 ·rcases cu.mp hp with rfl|hp
  ·exact⟨bH _,bY rfl⟩
  ·rw[bx] at hp;subst hp;exact⟨bY rfl,bY rfl⟩
 ·rw[bx] at hp;subst hp;exact⟨bY rfl,bY rfl⟩
theorem agB(z c:B):pv (fW z c):=λp hp=>by
 unfold fW at hp;split at hp
 ·rcases cu.mp hp with rfl|hp
  ·exact⟨bY rfl,bY rfl⟩
  ·rw[bx] at hp;subst hp;exact⟨bY rfl,bY rfl⟩
 ·split at hp
  ·rcases cu.mp hp with rfl|hp
   ·exact⟨bY rfl,bH _⟩
   ·rw[bx] at hp;subst hp;exact⟨bY rfl,bY rfl⟩
  ·rw[bx] at hp;subst hp;exact⟨bY rfl,bY rfl⟩
theorem agC(z:B)(b:J B):pv (fL z b):=wQ (ID (RH z) b) λp hp=>by
 refine aH (fb.mp hp) λq hq av=>?_
 subst av;exact⟨bH _,(ID (RH z) b q hq).2⟩
theorem agD(t:J B):pv (fh t):=λp hp=>by
 refine aH (fb.mp hp) λc H av=>?_
 subst av;exact⟨bY rfl,cY (zA c)<|bY rfl⟩
theorem vj(l:J B):∀x∈sg l,x.length<=1000:=λx hx=>by
 refine aH (fb.mp hx) λc H av=>?_
 subst av;exact bY rfl
theorem vk(l:J B):U (sg l)=U l:=bg ..
end
theorem agE(a b:J<|J B):aw (a++b)=aw a++aw b:=eL
theorem agF(a b:dY):bf (a++b)=bf a++bf b:=eL
theorem wR(l:J<|J B)(m:B)(hm:m<=1000)(h:∀x∈l,x.length<=m)(aiC:J B->J B×J B)(hf:∀x,(aiC x).1.length<=x.length/\(aiC x).2.length<=x.length):pv (l.map aiC):=λp hp=>by
 refine aH (fb.mp hp) λx hx av=>?_
 subst av;have:=h x hx;have:=hf x;lia
theorem qC{j:B}(l m:J<|J B)(hi:st.hp[i]?=some (.list<|aw l))(hj:st.hp[j]?=some (.list<|aw m))(hz:U l+U m<=16777216):a8 C n (pM .Add) (.ref i) (.ref j) st (.ref<|U st.hp) ⟨st.loc,st.hp++[.list<|aw<|l++m]⟩:=by
 refine D (agE _ _) ?_;exact a8.add_list hi hj (by simp only[en,en];exact hz)
theorem zD{j:B}(l m:dY)(hi:st.hp[i]?=some (.list<|bf l))(hj:st.hp[j]?=some (.list<|bf m))(hz:U l+U m<=16777216):a8 C n (pM .Add) (.ref i) (.ref j) st (.ref<|U st.hp) ⟨st.loc,st.hp++[.list<|bf<|l++m]⟩:=by
 refine D (agF _ _) ?_;exact a8.add_list hi hj (by unfold bf;rw[bg,bg];exact hz)
section
variable{bo:co.isFreed=false}
end
end
namespace LtE
noncomputable def ES(w:bz)(os:bM)(dr:cV)(sc:bc)(mB:{co:bc // co.isFreed=false})(n:B)(t:J B)(b:J B)(h:J B)(o:J B)(wh:J B)(z:B)(k:B):Prop:=(sc.isFreed=false)->(k<=1000)->(U t<=11)->(U b<=11)->(U h<=22)->(U o<=22)->(U wh<=22)->(U (cS z b)<=22)->(U (fL z b)<=44)->(U (fh t)<=11)->(fx (sg b) (sg<|h++h) k [98,97,114,101] [104,97,108,102] [] [50] (dR z)=report (gk<|fL z b) k [45,45,45,32,98,97,114,101] [43,43,43,32,104,97,108,102,9,50] (dR z))->(fx (sg wh) (sg h) k [119,104,111,108,101] [104,97,108,102] [49] [] (dR z)=report (gk<|cS z b) k [45,45,45,32,119,104,111,108,101,9,49] [43,43,43,32,104,97,108,102] (dR z))->(fx (sg t) (t.map cD) k [] [] [] [] (dR z)=report (gk<|fh t) k [45,45,45,32] [43,43,43,32] (dR z))->(fx (sg h++[b]++sg o) ([wh]++sg o++[b]++sg h) 3 [104,97,108,102] [111,116,104,101,114] [] [] [10]=report (gk<|gM (sg h) (sg o) b wh) 3 [45,45,45,32,104,97,108,102] [43,43,43,32,111,116,104,101,114] [10])->(∀g∈groups (sg b) (sg<|h++h) k,GoodG g)->(∀g∈groups (sg wh) (sg h) k,GoodG g)->(∀g∈groups (sg t) (t.map cD) k,GoodG g)->(∀g∈groups (sg h++[b]++sg o) ([wh]++sg o++[b]++sg h) 3,GoodG g)->∃rest,(fBody [18]).drop 12=rest/\XS (cL w os dr sc mB.1 mB.2) (n+20) 0 rest ⟨("changes",.ref 2)::("comes",.ref 0)::("goes",.ref 1)::fj t b h o wh z k,[.list<|bf<|fL z b,.list<|bf<|cS z b,.list<|bf<|fh t]⟩ (λfl aj=>fl= .ret (.bool true))
@[irreducible] noncomputable def EX:=nU oO default {} default ⟨default,rfl⟩ 0 [] [] [] [] [] 0 0 ES
noncomputable def w:=EX.1
noncomputable def os:=EX.2.1
noncomputable def dr:=EX.2.2.1
noncomputable def sc:=EX.2.2.2.1
noncomputable def mB:=EX.2.2.2.2.1
noncomputable def n:=EX.2.2.2.2.2.1
noncomputable def t:=EX.2.2.2.2.2.2.1
noncomputable def b:=EX.2.2.2.2.2.2.2.1
noncomputable def h:=EX.2.2.2.2.2.2.2.2.1
noncomputable def o:=EX.2.2.2.2.2.2.2.2.2.1
noncomputable def wh:=EX.2.2.2.2.2.2.2.2.2.2.1
noncomputable def z:=EX.2.2.2.2.2.2.2.2.2.2.2.1
noncomputable def k:=EX.2.2.2.2.2.2.2.2.2.2.2.2
noncomputable abbrev co:bc:=mB.1
theorem bo:co.isFreed=false:=mB.2
theorem Ee:ES w os dr sc mB n t b h o wh z k:=λeF hk ht f0 mC rL tw nx wS wT x1 x2 x3 x4 q3 q4 q5 q6=>by
 refine⟨_,rfl,?_⟩;have gG:=Rz (w:=w) (os:=os) (dr:=dr) (sc:=sc) (co:=co) (bo:=bo);have gB:=RA (w:=w) (os:=os) (dr:=dr) (sc:=sc) (co:=co) (bo:=bo);have kp:=CU (w:=w) (os:=os) (dr:=dr) (sc:=sc) (co:=co) (bo:=bo);have tz:U (dR z)<=1000:=by unfold dR;split<;>simp
 have CK:gC [.list<|bf<|fL z b,.list<|bf<|cS z b,.list<|bf<|fh t]:=gh k6<|gh k6<|fM k6;have IE:∀{l:J (ao×V)} {junk:J O},SubL (("changes",.ref 2)::("comes",.ref 0)::("goes",.ref 1)::fj t b h o wh z k) l->jn 0 ⟨l,[.list<|bf<|fL z b,.list<|bf<|cS z b,.list<|bf<|fh t]++junk⟩ ⟨("changes",.ref 2)::("comes",.ref 0)::("goes",.ref 1)::fj t b h o wh z k,[.list<|bf<|fL z b,.list<|bf<|cS z b,.list<|bf<|fh t]⟩:=λhs=>
  mw (bH _) CK hs λp hp=>fX.mp (show((("changes":ao),V.ref 2)::(("comes":ao),V.ref 0)::(("goes":ao),V.ref 1)::fj t b h o wh z k).all (λp=>p.2.bG λk=>decide (k<3))=true from rfl) p hp
 have sl:∀x:J B,(.list (signs<|tx x):O)= .list (aw<|sg x):=λx=>by exact D (RD _) rfl
 have RI:=Ir (w:=w) (os:=os) (dr:=dr) (n:=n+8) (f:=sg b) (u:=sg<|h++h) (by refine D (vk _) ?_;exact Nq f0) (by refine D (vk _)<|D aK ?_;exact Zj mC) ⟨vj _,vj _⟩ (f1:=[98,97,114,101]) (f2:=[104,97,108,102]) (d1:=[]) (d2:=[50]) (e:=dR z) (k:=k) ⟨bY rfl,bY rfl,bY rfl,bY rfl,tz⟩ q3;rw[x1] at RI
 refine cZ (zz (n:=n+8) (k1:=3) (k2:=4) (f:=sg b) (u:=sg (h++h))
  (an (mr (cB gG (qc _) gB (qe _)) (an ah aM) (aQ.list_str (by refine D (jH _) ?_;exact Np f0)))
   (an (mr (cB gG (qc _) gB (qe _)) (an (bt ah ah (a8.oh (by exact Fx mC))) aM) (aQ.list_str (by refine D (jH _) (D aK ?_);exact Fx mC)))
    (an (EV.tx [98,97,114,101]) (an (EV.tx [104,97,108,102]) (an (EV.tx []) (an (EV.tx [50]) (an ah (an ah aM)))))))) lr.nil RI (by refine bL (sl _) ?_;rfl) (by refine bL (sl _) ?_;rfl) (by decide) rfl (CX (by have:=CY (fL z b);exact Zi this wS))) ?_
 refine lM (fJ (bV ah (jD (hH gG (BH _)) (kp _ _ (rn _).get) (rn _).fd (an ah (an ah (an (eI (an (EV.tx [45,45,45,32,98,97,114,101]) (an (EV.tx [43,43,43,32,104,97,108,102,9,50]) aM))) (an ah aM))))
   (CT (n:=n+16) eF (i:=0) (j:=6) rfl rfl (by decide) (by exact Zh wS) (agC z b) hk ⟨bY rfl,bY rfl,tz⟩)) (a8.yO (i:=5) (j:=7) rfl rfl)) (by simp)) ?_
 refine jo (IE (junk:=[_,_,_,_,_])<|by exact bp rfl) ?_<|bH _
 have RJ:=Ir (w:=w) (os:=os) (dr:=dr) (n:=n+8) (f:=sg wh) (u:=sg h) (by refine D (vk _) ?_;exact Zg tw) (by refine D (vk _) ?_;exact Zf mC) ⟨vj _,vj _⟩ (f1:=[119,104,111,108,101]) (f2:=[104,97,108,102]) (d1:=[49]) (d2:=[]) (e:=dR z) (k:=k) ⟨bY rfl,bY rfl,bY rfl,bY rfl,tz⟩ q4;rw[x2] at RJ
 refine cZ (zz (n:=n+8) (k1:=3) (k2:=4) (f:=sg wh) (u:=sg h)
  (an (mr (cB gG (qc _) gB (qe _)) (an ah aM) (aQ.list_str (by refine D (jH _) ?_;exact vX tw)))
   (an (mr (cB gG (qc _) gB (qe _)) (an ah aM) (aQ.list_str (by refine D (jH _) ?_;exact vX mC)))
    (an (EV.tx [119,104,111,108,101]) (an (EV.tx [104,97,108,102]) (an (EV.tx [49]) (an (EV.tx []) (an ah (an ah aM)))))))) lr.nil RJ (by refine bL (sl _) ?_;rfl) (by refine bL (sl _) ?_;rfl) (by decide) rfl (CX (by have:=CY (cS z b);exact Ze this nx))) ?_
 refine lM (fJ (bV ah (jD (hH gG (BH _)) (kp _ _ (rn _).get) (rn _).fd (an ah (an ah (an (eI (an (EV.tx [45,45,45,32,119,104,111,108,101,9,49]) (an (EV.tx [43,43,43,32,104,97,108,102]) aM))) (an ah aM))))
   (CT (n:=n+16) eF (i:=1) (j:=6) rfl rfl (by decide) (by exact Fu nx) (ID (agB z) b) hk ⟨bY rfl,bY rfl,tz⟩)) (a8.yO (i:=5) (j:=7) rfl rfl)) (by simp)) ?_
 refine jo (IE (junk:=[_,_,_,_,_])<|by exact bp rfl) ?_<|bH _
 have RK:=agf (w:=w) (os:=os) (dr:=dr) (n:=n+8) (f:=sg t) (u:=t.map cD) (by refine D (vk _) ?_;exact Nq ht) (by refine D (bg _) ?_;exact Zd ht) ⟨vj _,λx hx=>by obtain⟨c,_,rfl⟩:=fb.mp hx;have:=zA c;exact Zc this⟩ (e:=dR z) (k:=k) tz q5;rw[x3] at RK
 refine cZ (zz (n:=n+8) (k1:=3) (k2:=4) (f:=sg t) (u:=t.map cD) (r1:=[]) (ws:=[.int k,.str (tx (dR z))])
  (an (mr (cB gG (qc _) gB (qe _)) (an ah aM) (aQ.list_str (by refine D (jH _) ?_;exact Np ht)))
   (an (comp_map [] (λc=>V.str (tx [c])) (λc=>[V.str (tx (cD c))]) (λa b h=>str_inj h) ah fD.str trivial (bH _) (λL c hc=>⟨true,.nil,.inr ⟨rfl,_,rfl,by
    refine bL (CW _) ?_
    exact jD (hH gG (wb _)) (kp _ _ (mY _).get) (mY _).fd (an ah aM) (wO (bo:=bo) (bY rfl))⟩⟩) ((wP _ _).trans (zC cD t).symm) (by refine D (en _) (D (bg _) ?_);exact Fw ht)) aM)) (lr.cons ah (lr.cons ah lr.nil)) RK (by refine bL (sl _) ?_;rfl) (by rfl) (by decide) rfl (CX (by have:=CY (fh t);exact Zb this wT))) ?_
 refine lM (fJ (bV ah (jD (hH gG (BH _)) (kp _ _ (rn _).get) (rn _).fd (an ah (an ah (an (eI (an (EV.tx [45,45,45,32]) (an (EV.tx [43,43,43,32]) aM))) (an ah aM))))
   (CT (n:=n+16) eF (i:=2) (j:=6) rfl rfl (by decide) (by exact xS wT) (agD t) hk ⟨bY rfl,bY rfl,tz⟩)) (a8.yO (i:=5) (j:=7) rfl rfl)) (by simp)) ?_
 refine jo (aj:=⟨fj t b h o wh z k,[]⟩) (mw (hp:=[]) (junk:=[_,_,_,_,_,_,_,_]) (aG _) (λo h=>nomatch h) (by exact bp rfl) λp hp=>fX.mp (show(fj t b h o wh z k).all (λp=>p.2.bG λk=>decide (k<0))=true from rfl) p hp) ?_<|bH _
 refine rg (names:=["one","two"]) (dL<|an (mr (cB gG (qc _) gB<|qe _) (an ah aM)<|aQ.list_str<|by refine D (jH _) ?_;exact vX mC)<|an (mr (cB gG (qc _) gB<|qe _) (an ah aM)<|aQ.list_str<|by refine D (jH _) ?_;exact vX rL) aM) ?_
 refine b7 (l':=("two",.ref 1)::("one",.ref 0)::fj t b h o wh z k) (aY:=[.list<|aw<|sg h,.list<|aw<|sg o]) (by exact bp rfl) (by refine bL (sl _)<|bL (sl _) ?_;rfl) ?_
 have lh:U (sg h)<=22:=by refine D (vk _) ?_;exact mC
 have lo:U (sg o)<=22:=by refine D (vk _) ?_;exact rL
 have sh:=vj h;have so:=vj o;generalize sg h=one at*;generalize sg o=two at*;have pl:∀l:dY,U (bf l)=U l:=λl=>by unfold bf;exact D (bg _) rfl
 have ll:=λl=>en l;have wU:∀a b:J B,V.str (tx a)=V.str (tx b)->a=b:=λa b=>IA;have rM:∀(aiC:J B->J B×J B) (l:J<|J B),(l.flatMap λa=>[V.tup (.type "tuple") [.str<|tx (aiC a).1,.str<|tx (aiC a).2]])=bf (l.map aiC):=λaiC l=>by refine D (wP _ _) ?_;unfold bf;simp only[gP];rfl
 have eU:U (gM one two b wh)<=100:=by
  unfold gM;split<;>simp only[aK,bg,cK,iR]<;>lia
 have hts:pv (gM one two b wh):=by
  have qq:∀x∈[b],U x<=1000:=fM<|xS f0;have RL:∀x∈[wh],U x<=1000:=fM<|Fu tw;unfold gM;split
  ·refine wQ (wQ (wQ (wR _ 1000 (aG _) (mc sh qq) _ λx=>⟨aG _,bH _⟩) ?_)<|wR _ 1000 (aG _) so _ λx=>⟨aG _,aG _⟩)<|wR _ 1000 (aG _) (mc qq sh) _ λx=>⟨bH _,aG _⟩;intro p hp;rw[bx] at hp;subst hp;exact⟨bH _,RL _ (.head _)⟩
  ·exact wQ (wQ (wR _ 1000 (aG _) (mc (mc RL so) qq) _ λx=>⟨bH _,aG _⟩)<|wR _ 1000 (aG _) sh _ λx=>⟨aG _,aG _⟩)<|wR _ 1000 (aG _) (mc qq so) _ λx=>⟨aG _,bH _⟩
 have fin:∀{l:J (ao×V)} {m:J O},SubL (("turns",.ref 12)::("two",.ref 1)::("one",.ref 0)::fj t b h o wh z k) l->U m=10->jn 0 ⟨l,[.list<|aw one,.list<|aw two]++(m++[.list<|bf<|gM one two b wh])⟩ ⟨("turns",.ref 2)::("two",.ref 1)::("one",.ref 0)::fj t b h o wh z k,[.list<|aw one,.list<|aw two,.list<|bf<|gM one two b wh]⟩:=by
  intro l m hs hm;refine dh (jn.pick (q:=0) (hp:=[.list (aw one),.list (aw two)]) (tail:=m++[.list (bf (gM one two b wh))]) (sel:=[.list (bf (gM one two b wh))]) (bH _) (gh eZ (fM eZ)) [10] (by decide) (by refine D eu (D pJ (D (dc (by exact Za hm)) (D hm ?_)));rfl) (fM k6)) λaiC g r1 r2 r3=>?_
  have a0:=r2 0 10 rfl;have b0:=r1 0 (show 0<2 by decide);have b1:=r1 1 (show 1<2 by decide);refine .inr ⟨_,aiC,g,r3,?_⟩;have base:c9 aiC g (("turns",.ref 2)::("two",.ref 1)::("one",.ref 0)::fj t b h o wh z k) (("turns",.ref 12)::("two",.ref 1)::("one",.ref 0)::fj t b h o wh z k):=by
   exact c9.cons (v:=.ref 12) rfl a0.1 (bB V.ref a0.2.symm)<|c9.cons (v:=.ref 1) rfl b1.1 (bB V.ref b1.2.symm)<|c9.cons (v:=.ref 0) rfl b0.1 (bB V.ref b0.2.symm)<|c9.cons rfl rfl rfl<|c9.cons rfl rfl rfl<|c9.cons rfl rfl rfl<|c9.cons rfl rfl rfl<|c9.cons rfl rfl rfl<|c9.cons rfl rfl rfl<|c9.cons rfl rfl rfl c9.nil
  intro x v' e;exact cP (base x v' e) λv c1 c2 c3=>⟨v,hs x v c1,c2,c3⟩
 refine cg (jt (K:=λfl aj=>fl= .next/\SubL (("turns",.ref 2)::("two",.ref 1)::("one",.ref 0)::fj t b h o wh z k) aj.loc/\aj.hp=[.list (aw one),.list (aw two),.list (bf (gM one two b wh))])
  (jl (b:=decide (U one<U two)) (fJ (bV (fw (cB gG (qb _) gB (qd _)) (an ah aM) (qa (k:=0) (l:=aw one) rfl (by refine D (ll _) ?_;lia))) (fw (cB gG (qb _) gB (qd _)) (an ah aM) (qa (k:=1) (l:=aw two) rfl (by refine D (ll _) ?_;lia))) jZ) (by simp only[ll,ll];exact vE.mpr (by lia))) (λhc=>?_) (λhc=>?_)) ?_)
 ·have IF:gM one two b wh=(one++[b]).map (λl=>(l,[]))++[([],wh)]++two.map (λl=>(l,l))++([b]++one).map λl=>([],l):=aU (dq hc)
  refine cZ (bt (comp_map [] (λl:J B=>V.str (tx l)) (λl=>[V.tup (.type "tuple") [.str (tx l),.str (tx [])]]) wU (bt ah (eI (an ah aM)) (qC (i:=0) (j:=2) one [b] rfl rfl (by show _+1<=_;exact Nm lh))) (fD.list (k:=3) (items:=aw (one++[b])) rfl) rfl (by show 4<=4;decide)
   (λL c hc=>⟨true,.nil,.inr ⟨rfl,_,rfl,dL (an ah (an (EV.tx []) aM))⟩⟩) (rM (λl=>(l,[])) (one++[b])) (by simp only[pl,bg,aK];exact Y9 lh)) (eI (an (dL (an (EV.tx []) (an ah aM))) aM)) (zD (i:=4) (j:=5) ((one++[b]).map λl=>(l,[])) [([],wh)] rfl rfl (by simp only[bg,aK];exact Y8 lh))) ?_
  have z1:U ((one++[b]).map (λl=>(l,([]:J B)))++[([],wh)])<=30:=by simp only[aK,bg,aK];exact Y7 lh
  generalize (one++[b]).map (λl=>(l,([]:J B)))++[([],wh)]=u1 at*;refine b7 (l':=("turns",.ref 6)::("two",.ref 1)::("one",.ref 0)::fj t b h o wh z k) (aY:=[.list<|aw one,.list<|aw two,_,_,_,_,.list<|bf u1]) (by exact bp rfl) rfl ?_
  refine cZ (bt (bt ah (comp_map [] (λl:J B=>V.str (tx l)) (λl=>[V.tup (.type "tuple") [.str (tx l),.str (tx l)]]) wU ah (fD.list (k:=1) (items:=aw two) rfl) rfl (by show 2<=7;decide)
    (λL c hc=>⟨true,.nil,.inr ⟨rfl,_,rfl,dL (an ah (an ah aM))⟩⟩) (rM (λl=>(l,l)) two) (by refine D (pl _) (D (bg _) ?_);exact Fv lo)) (zD (i:=6) (j:=7) u1 (two.map λl=>(l,l)) rfl rfl (by refine D (bg _) ?_;exact No lo z1)))
   (comp_map [] (λl:J B=>V.str (tx l)) (λl=>[V.tup (.type "tuple") [.str (tx []),.str (tx l)]]) wU (bt (eI (an ah aM)) ah (qC (i:=9) (j:=0) [b] one rfl rfl (by show 1+_<=_;exact AW lh))) (fD.list (k:=10) (items:=aw ([b]++one)) rfl) rfl (by show 11<=11;decide)
    (λL c hc=>⟨true,.nil,.inr ⟨rfl,_,rfl,dL (an (EV.tx []) (an ah aM))⟩⟩) (rM (λl=>([],l)) ([b]++one)) (by simp only[pl,bg,aK];exact Nn lh))
   (zD (i:=8) (j:=11) (u1++two.map λl=>(l,l)) (([b]++one).map λl=>([],l)) rfl rfl (by simp only[bg,aK,aK,bg];exact Y6 lh lo z1))) ?_
  refine bL IF (jo (fin (m:=[_,_,_,_,_,_,_,_,_,_]) (by exact bp rfl) rfl) (bd ⟨rfl,λH H h=>h,rfl⟩)<|bH _)
 ·have IF:gM one two b wh=([wh]++two++[b]).map (λl=>([],l))++one.map (λl=>(l,l))++([b]++two).map λl=>(l,[]):=aE<|kj hc;have z0:U ([wh]++two++[b])<=30:=by simp only[aK,aK];exact Y5 lo
  refine cg (Ry [] (λl:J B=>V.str (tx l)) (λl=>[V.tup (.type "tuple") [.str (tx []),.str (tx l)]]) wU (bt (bt (eI (an ah aM)) ah (qC (i:=2) (j:=1) [wh] two rfl rfl (by show 1+_<=_;exact AW lo))) (eI (an ah aM)) (qC (i:=3) (j:=4) ([wh]++two) [b] rfl rfl (by refine D aK ?_;exact Nl lo))) (fD.list (k:=5) (items:=aw ([wh]++two++[b])) rfl) rfl (by show 6<=6;decide)
   (λL c hc=>⟨true,.nil,.inr ⟨rfl,_,rfl,dL (an (EV.tx []) (an ah aM))⟩⟩) (rM (λl=>([],l)) ([wh]++two++[b])) (by refine D (pl _) (D (bg _) ?_);exact Y4 z0) ?_)
  have z1:U (([wh]++two++[b]).map λl=>(([]:J B),l))<=30:=by refine D (bg _) ?_;exact z0
  generalize ([wh]++two++[b]).map (λl=>(([]:J B),l))=u1 at*;refine b7 (l':=("turns",.ref 6)::("two",.ref 1)::("one",.ref 0)::fj t b h o wh z k) (aY:=[.list<|aw one,.list<|aw two,_,_,_,_,.list<|bf u1]) (by exact bp rfl) rfl ?_
  refine cZ (bt (bt ah (comp_map [] (λl:J B=>V.str (tx l)) (λl=>[V.tup (.type "tuple") [.str (tx l),.str (tx l)]]) wU ah (fD.list (k:=0) (items:=aw one) rfl) rfl (by show 1<=7;decide)
    (λL c hc=>⟨true,.nil,.inr ⟨rfl,_,rfl,dL (an ah (an ah aM))⟩⟩) (rM (λl=>(l,l)) one) (by refine D (pl _) (D (bg _) ?_);exact Fv lh)) (zD (i:=6) (j:=7) u1 (one.map λl=>(l,l)) rfl rfl (by refine D (bg _) ?_;exact No lh z1)))
   (comp_map [] (λl:J B=>V.str (tx l)) (λl=>[V.tup (.type "tuple") [.str (tx l),.str (tx [])]]) wU (bt (eI (an ah aM)) ah (qC (i:=9) (j:=1) [b] two rfl rfl (by show 1+_<=_;exact AW lo))) (fD.list (k:=10) (items:=aw ([b]++two)) rfl) rfl (by show 11<=11;decide)
    (λL c hc=>⟨true,.nil,.inr ⟨rfl,_,rfl,dL (an ah (an (EV.tx []) aM))⟩⟩) (rM (λl=>(l,[])) ([b]++two)) (by simp only[pl,bg,aK];exact Nn lo))
   (zD (i:=8) (j:=11) (u1++one.map λl=>(l,l)) (([b]++two).map λl=>(l,[])) rfl rfl (by simp only[bg,aK,aK,bg];exact Y3 lh lo z1))) ?_
  refine bL IF (jo (fin (m:=[_,_,_,_,_,_,_,_,_,_]) (by exact bp rfl) rfl) (bd ⟨rfl,λH H h=>h,rfl⟩)<|bH _)
 intro fl aj dM;refine eh dM λav ct fK=>?_
 clear dM;subst av
 try dsimp only
 refine b7 ct fK ?_
 clear ct fK aj fin;have RM:=age (w:=w) (os:=os) (dr:=dr) (n:=n+8) (f:=one++[b]++two) (u:=[wh]++two++[b]++one) (by refine D aK<|D aK ?_;exact Y2 lh lo) (by simp only[aK,aK,aK];exact Y1 lh lo)
  ⟨mc (mc sh<|fM<|xS f0) so,mc (mc (mc (fM<|Fu tw) so)<|fM<|xS f0) sh⟩ (f1:=[104,97,108,102]) (f2:=[111,116,104,101,114]) ⟨bY rfl,bY rfl⟩ q6
 rw[x4] at RM
 refine cZ (zz (n:=n+8) (k1:=5) (k2:=10) (f:=one++[b]++two) (u:=[wh]++two++[b]++one)
  (an (bt (bt ah (eI (an ah aM)) (qC (i:=0) (j:=3) one [b] rfl rfl (by show _+1<=_;exact Nm lh))) ah (qC (i:=4) (j:=1) (one++[b]) two rfl rfl (by refine D aK ?_;exact Y0 lh lo)))
   (an (bt (bt (bt (eI (an ah aM)) ah (qC (i:=6) (j:=1) [wh] two rfl rfl (by show 1+_<=_;exact AW lo))) (eI (an ah aM)) (qC (i:=7) (j:=8) ([wh]++two) [b] rfl rfl (by refine D aK ?_;exact Nl lo))) ah (qC (i:=9) (j:=0) ([wh]++two++[b]) one rfl rfl (by simp only[aK,aK];exact YZ lh lo)))
    (an (EV.tx [104,97,108,102]) (an (EV.tx [111,116,104,101,114]) aM)))) lr.nil RM (by rfl) (by rfl) (by decide) rfl (CX (by have:=CY (gM one two b wh);exact YY this eU))) ?_
 refine j6 (EV.cmp ah (jD (hH gG (BH _)) (kp _ _ (rn _).get) (rn _).fd (an ah (an bA (an (eI (an (EV.tx [45,45,45,32,104,97,108,102]) (an (EV.tx [43,43,43,32,111,116,104,101,114]) aM))) (an (EV.tx [10]) aM))))
   (CT (n:=n+16) eF (i:=2) (j:=12) (k:=3) rfl rfl (by decide) (by exact YX eU) hts (bY rfl) ⟨bY rfl,bY rfl,bY rfl⟩)) (a8.adl (i:=11) (j:=13) rfl rfl)) ?_
 show Fl.ret _=_;simp
theorem Ea:∀a b c d e aiC g h i j k l m,ES a b c d e aiC g h i j k l m:=by with_unfolding_all exact oM ES EX rfl Ee
end LtE
section
variable{w:bz}{os:bM}{dr:cV}{sc co:bc}{bo:co.isFreed=false}{n:B}{st:St}
theorem agG(eF:sc.isFreed=false){t b h o wh:J B}{z k:B}(hk:k<=1000)(ht:U t<=11)(f0:U b<=11)(mC:U h<=22)(rL:U o<=22)(tw:U wh<=22)(nx:U (cS z b)<=22)(wS:U (fL z b)<=44)(wT:U (fh t)<=11)
  (x1:fx (sg b) (sg<|h++h) k [98,97,114,101] [104,97,108,102] [] [50] (dR z)=report (gk<|fL z b) k [45,45,45,32,98,97,114,101] [43,43,43,32,104,97,108,102,9,50] (dR z))
  (x2:fx (sg wh) (sg h) k [119,104,111,108,101] [104,97,108,102] [49] [] (dR z)=report (gk<|cS z b) k [45,45,45,32,119,104,111,108,101,9,49] [43,43,43,32,104,97,108,102] (dR z))
  (x3:fx (sg t) (t.map cD) k [] [] [] [] (dR z)=report (gk<|fh t) k [45,45,45,32] [43,43,43,32] (dR z))
  (x4:fx (sg h++[b]++sg o) ([wh]++sg o++[b]++sg h) 3 [104,97,108,102] [111,116,104,101,114] [] [] [10]=report (gk<|gM (sg h) (sg o) b wh) 3 [45,45,45,32,104,97,108,102] [43,43,43,32,111,116,104,101,114] [10])
  (q3:∀g∈groups (sg b) (sg<|h++h) k,GoodG g) (q4:∀g∈groups (sg wh) (sg h) k,GoodG g) (q5:∀g∈groups (sg t) (t.map cD) k,GoodG g) (q6:∀g∈groups (sg h++[b]++sg o) ([wh]++sg o++[b]++sg h) 3,GoodG g):
  ∃rest,(fBody [18]).drop 12=rest/\XS (cL w os dr sc co bo) (n+20) 0 rest ⟨("changes",.ref 2)::("comes",.ref 0)::("goes",.ref 1)::fj t b h o wh z k,[.list<|bf<|fL z b,.list<|bf<|cS z b,.list<|bf<|fh t]⟩ (λfl aj=>fl= .ret (.bool true)):=LtE.Ea w os dr sc ⟨co,bo⟩ n t b h o wh z k eF hk ht f0 mC rL tw nx wS wT x1 x2 x3 x4 q3 q4 q5 q6
end
section
variable{w:bz}{os:bM}{dr:cV}{sc co:bc}{bo:co.isFreed=false}{n:B}{st:St}
end
namespace RN
noncomputable def ES(w:bz)(os:bM)(dr:cV)(sc:bc)(mB:{co:bc // co.isFreed=false})(n:B)(t:J B)(z:B)(k:B)(tk:jh)(_ _ _:fF):Prop:=(sc.isFreed=false)->(mB.1.data= .cell (some<|.int (z:B) tk))->(z<=1)->(k<=1000)->(U t<=11)->(wN t z k)->∃b1 rest,fBody [18]=b1::rest/\XS (cL w os dr sc mB.1 mB.2) (n+20) 0 rest ⟨[("around",.int k),("text",.str<|tx t)],[]⟩ (λfl aj=>fl= .ret (.bool true))
@[irreducible] noncomputable def EX:=nU oO default {} default ⟨default,rfl⟩ 0 [] 0 0 default () () () ES
noncomputable def w:=EX.1
noncomputable def os:=EX.2.1
noncomputable def dr:=EX.2.2.1
noncomputable def sc:=EX.2.2.2.1
noncomputable def mB:=EX.2.2.2.2.1
noncomputable def n:=EX.2.2.2.2.2.1
noncomputable def t:=EX.2.2.2.2.2.2.1
noncomputable def z:=EX.2.2.2.2.2.2.2.1
noncomputable def k:=EX.2.2.2.2.2.2.2.2.1
noncomputable def tk:=EX.2.2.2.2.2.2.2.2.2.1
noncomputable abbrev co:bc:=mB.1
theorem bo:co.isFreed=false:=mB.2
theorem Ee:ES w os dr sc mB n t z k tk () () ():=λeF hd hz hk ht aiz=>by
 refine⟨_,_,rfl,?_⟩;have IG:∀{C:Cx} {m:B} {st:St} {p:cN},C.top.get? 321=some co->C.env.scope.kind= .function->C.env.kindOf "odd"=some .cell->C.env.cells.lookup ("odd":ao)=some 321->EV C m (.Name "odd" p) st (.int z) st:=λG h2 h3 h4=>
  agr G hd (λρ h=>⟨tk,rfl⟩) h2 h3 h4
 have RO:∀{m:B} {st:St} {p:cN},EV (cL w os dr sc co bo) m (.Name "odd" p) st (.int z) st:=IG (zy bo) rfl (by rfl) (by rfl);have gG:=Rz (w:=w) (os:=os) (dr:=dr) (sc:=sc) (co:=co) (bo:=bo);have gB:=RA (w:=w) (os:=os) (dr:=dr) (sc:=sc) (co:=co) (bo:=bo);have kp:=CU (w:=w) (os:=os) (dr:=dr) (sc:=sc) (co:=co) (bo:=bo);refine cZ (v:=.str<|tx<|dR z) (am:=⟨[("around",.int k),("text",.str<|tx t)],[]⟩) (EV.yw (c:=decide (z=1)) (fJ (bV RO bA mi)<|by rw[sd,nH,ip];lia) (λhc=>?_) λhc=>?_) ?_
 ·have hc:=dq hc;unfold dR;refine D (aU hc) ?_;exact EV.tx [10]
 ·have hc:=kj hc;unfold dR;refine D (aE hc) ?_;exact EV.tx []
 have cz:(0:B)=0:=rfl;have f0:U (cR t)<=11:=by unfold cR;have:=pF (λc=>decide (c≠92)) t;exact cY ‹_› ‹_›
 have e1:=RF t
 refine cZ (jq dF nY (an (comp_map [] (λc=>V.str (tx [c])) (λc=>if c≠92 then[V.str (tx [c])] else[]) (λa b h=>str_inj h) ah fD.str trivial (bH _) (λL c hc=>⟨_,.one (bV ah (EV.tx [92]) a8.ne_str),by
   simp only[agx]
   by_cases h:c≠92
   ·exact .inr ⟨dG h,_,aU h,ah⟩
   ·exact .inl ⟨fB h,aE h⟩⟩) e1 (by refine D (en _) ?_;unfold sg cR;rw[bg];have:=pF (λc=>decide (c≠92)) t;exact Zz ht this)) aM) (CV (ls:=sg (cR t)) (om _ _) (by have:=zB (λc:B=>[c]) 1 (λH=>aG _) (cR t);exact Zy this f0)) nR AB AC) ?_
 simp only[agA];generalize hb:cR t=b at*;refine b7 (l':=[("bare",.str<|tx b),("end",.str<|tx<|dR z),("around",.int k),("text",.str<|tx t)]) (aY:=[]++[_]) (by exact bp rfl) rfl (jo (mw (hp:=[]) (l':=[("bare",.str<|tx b),("end",.str<|tx<|dR z),("around",.int k),("text",.str<|tx t)]) (aG _) (λo h=>nomatch h) (λH H h=>h) λp hp=>fX.mp (show([("bare",V.str<|tx b),("end",.str<|tx<|dR z),("around",.int k),("text",.str<|tx t)]:J<|ao×V).all (λp=>p.2.bG λk=>decide (k<0))=true from rfl) p hp) ?_<|bH _);have IH:((b.map<|jR z).map U).sum<=22:=by have:=zB (jR z) 2 (agy z) b;exact Nv this f0
 refine cZ (jq dF nY (an (comp_map [("odd",321)] (λc=>V.str (tx [c])) (λc=>[V.str (tx (jR z c))]) (λa b h=>str_inj h) ah fD.str trivial (bH _) (λL c hc=>⟨true,.nil,.inr ⟨rfl,_,rfl,EV.yw (c:=decide (c % 2=z)) (fJ (bV (bt (fw (cB gG (BI _) gB (BJ _)) (an ah aM) aQ.ord) bA (a8.mod_int (by decide))) (IG (zy bo) rfl (by rfl) (by rfl)) mi) (mod2 c z))
   (λh=>by
    unfold jR
    exact D (aU (dq h)) (bL (CW _) (jD (hH gG (wb _)) (kp _ _ (mY _).get) (mY _).fd (an ah aM) (wO (bo:=bo) (bY rfl)))))
   (λh=>by
    unfold jR;refine D (aE<|kj h) ?_
    exact ah)⟩⟩) ((wP _ _).trans (zC (jR z) b).symm) (by refine D (en _) (D (bg _) ?_);exact Fw f0)) aM) (CV (ls:=b.map (jR z)) (om _ _) (by exact vX IH)) nR AB AC) ?_
 refine D (show(b.map<|jR z).flatten=eG z b from rfl) ?_
 have mC:U (eG z b)<=22:=by
  refine D JJ ?_
  rw[gP] at IH;exact IH
 generalize hh:eG z b=h at*;refine b7 (l':=[("half",.str<|tx h),("bare",.str<|tx b),("end",.str<|tx<|dR z),("around",.int k),("text",.str<|tx t)]) (aY:=[]++[_]) (by exact bp rfl) rfl (jo (IC _ _<|by rfl) ?_<|bH _);have II:((b.map<|nA z).map U).sum<=22:=by have:=zB (nA z) 2 (agz z) b;exact Nv this f0
 refine cZ (jq dF nY (an (comp_map [("odd",321)] (λc=>V.str (tx [c])) (λc=>[V.str (tx (nA z c))]) (λa b h=>str_inj h) ah fD.str trivial (bH _) (λL c hc=>⟨true,.nil,.inr ⟨rfl,_,rfl,EV.yw (c:=decide (c % 2=z)) (fJ (bV (bt (fw (cB gG (BI _) gB (BJ _)) (an ah aM) aQ.ord) bA (a8.mod_int (by decide))) (IG (zy bo) rfl (by rfl) (by rfl)) mi) (mod2 c z))
   (λh=>by
    unfold nA
    exact D (aU (dq h)) (ah))
   (λh=>by
    unfold nA;refine D (aE<|kj h)<|bL (CW _) ?_
    exact jD (hH gG (wb _)) (kp _ _ (mY _).get) (mY _).fd (an ah aM) (wO (bo:=bo) (bY rfl)))⟩⟩) ((wP _ _).trans (zC (nA z) b).symm) (by refine D (en _) (D (bg _) ?_);exact Fw f0)) aM) (CV (ls:=b.map (nA z)) (om _ _) (by exact vX II)) nR AB AC) ?_
 refine D (show(b.map<|nA z).flatten=nB z b from rfl) ?_
 have rL:U (nB z b)<=22:=by
  refine D JJ ?_
  rw[gP] at II;exact II
 generalize ho:nB z b=o at*;refine b7 (l':=[("other",.str<|tx o),("half",.str<|tx h),("bare",.str<|tx b),("end",.str<|tx<|dR z),("around",.int k),("text",.str<|tx t)]) (aY:=[]++[_]) (by exact bp rfl) rfl (jo (IC _ _<|by rfl) ?_<|bH _);refine cZ (jD (hH gG<|wb _) (kp _ _ (mY _).get) (mY _).fd (an ah aM)<|wO (bo:=bo)<|by exact Zx f0) ?_
 have tw:U (et b)<=22:=by have:=Iu b;exact Fh this f0
 generalize hw:et b=wh at*;refine b7 (l':=fj t b h o wh z k) (aY:=[]) (by exact bp rfl) rfl ?_
 have IJ:U (t++h)<=33:=by exact D aK<|Zw ht mC
 have Ic:(((t++h).map cD).map U).sum<=66:=by have:=zB cD 2 zA<|t++h;exact Zv this IJ
 have hef:((t++h).map cD).flatten=et (t++h):=rfl
 refine lM (fJ (bV (jD (hH gG (wb _)) (kp _ _ (mY _).get) (mY _).fd (an (bt ah ah (a8.oh (by exact Nu ht mC))) aM) (wO (bo:=bo) (by exact Zu IJ)))
  (jq dF nY (an (comp_map [] (λc=>V.str (tx [c])) (λc=>[V.str (tx (cD c))]) (λa b h=>str_inj h) (bt ah ah (a8.oh (by exact Nu ht mC))) fD.str trivial (bH _) (λL c hc=>⟨true,.nil,.inr ⟨rfl,_,rfl,by
    refine bL (CW _) ?_
    exact jD (hH gG (wb _)) (kp _ _ (mY _).get) (mY _).fd (an ah aM) (wO (bo:=bo) (bY rfl))⟩⟩) ((wP _ _).trans (zC cD (t++h)).symm) (by refine D (en _) (D (bg _) ?_);exact Zt IJ)) aM) (CV (ls:=(t++h).map cD) (om _ _) (by exact Zs Ic)) nR AB AC) a8.ne_str) (by refine D hef ?_;simp)) ?_
 refine jo (IC _ _<|by rfl) ?_<|bH _
 obtain⟨s1,s2,x1,x2,x3,x4,q1,q2,q3,q4,q5,q6⟩:=aiz;simp only[hb,hh,ho,hw] at x1 x2 x4 q3 q4 q6;have tz:U (dR z)<=1000:=by unfold dR;split<;>simp
 have eU:U t<=1000:=by exact xS ht
 refine cg (nW 3 (λi aj=>SubL (fj t b h o wh z k) aj.loc/\aj.hp=[.list (aw [t]),.list (aw []),.list [.ref 0,.ref 1]]) (items:=[.ref 0,.ref 1])
  (gw.of (eI (an (eI (an ah aM)) (an (eI aM) aM))) (fP.list (k:=2) rfl)) ⟨λH H h=>h,rfl⟩ (λi aj H hI=>by refine D hI.2 ?_;rfl) (aG _) (bH _) (λi aiA aj hu hI=>?_) (λaj hI=>?_))
 ·refine xA hI λct fK=>?_
  obtain⟨j,ls,rfl,hj,RP,IK,RQ,hud,hg⟩:∃j ls,aiA=V.ref j/\([.list<|aw [t],.list<|aw [],.list [.ref 0,.ref 1]]:J O)[j]?=some (.list<|aw ls)/\j<3/\U ls<64/\(∀x∈ls,U x<=1000)/\fx ls ls k [98,97,114,101] [104,97,108,102] [49] [50] (dR z)=[]/\∀g∈groups ls ls k,GoodG g:=by
   match i,hu with
   |0,hu=>cases hu;exact⟨0,[t],rfl,rfl,by decide,Kh rfl,fM ‹_›,s1,q1⟩
   |1,hu=>cases hu;exact⟨1,[],rfl,rfl,by decide,Kh rfl,(λx hx=>nomatch hx),s2,q2⟩
   |i+2,hu=>cases hu
  have RR:=Ir (w:=w) (os:=os) (dr:=dr) (n:=n+8) IK (by exact M2 IK) ⟨RQ,RQ⟩ (f1:=[98,97,114,101]) (f2:=[104,97,108,102]) (d1:=[49]) (d2:=[50]) (e:=dR z) (k:=k) ⟨bY rfl,bY rfl,bY rfl,bY rfl,tz⟩ hg;rw[hud] at RR;have hj4:∀x:O,([.list<|aw [t],.list<|aw [],.list [.ref 0,.ref 1]]++[x]:J O)[j]?=some (.list<|aw ls):=λx=>by refine D (cA<|by exact RP) ?_;exact hj
  refine⟨_,cW.norm ct fK bW,(XS.hide λK hK=>(b7 (l':=("same",.ref j)::fj t b h o wh z k) (aY:=[.list<|aw [t],.list<|aw [],.list [.ref 0,.ref 1]]) (by exact bp rfl) rfl ?_))⟩
  refine lM (fJ (bV (zz (n:=n+8) (k1:=j) (k2:=3) (f:=ls) (u:=ls) (aiA:=[])
   (an ah (an (mr (cB gG (qc _) gB (qe _)) (an ah aM) (aQ.list_list (k:=j) (l:=aw ls) hj (by exact D (en _) (Fy IK))))
    (an (EV.tx [98,97,114,101]) (an (EV.tx [104,97,108,102]) (an (EV.tx [49]) (an (EV.tx [50]) (an ah (an ah aM)))))))) lr.nil RR (hj4 _) rfl (by exact iT ‹_›) rfl (bH _)) (eI aM) (a8.yO (l:=[]) (m:=[]) (Q6 _ _ _) (om _ _))) rfl) ?_
  refine jo (aj:=⟨("same",.ref j)::fj t b h o wh z k,[.list (aw [t]),.list (aw []),.list [.ref 0,.ref 1]]⟩) (mw (hp:=[.list (aw [t]),.list (aw []),.list [.ref 0,.ref 1]]) (junk:=[_,_,_]) (aG 3) (gh eZ (gh eZ (fM rfl))) (by exact bp rfl) (λp hp=>by
    have:((("same":ao),V.ref j)::fj t b h o wh z k).all (λp=>p.2.bG λk=>decide (k<3))=true:=by
     unfold fj;simp only[oB,xj,V.ut,V.FU,V.FV,lF,ip];exact RP
    exact fX.mp this p hp)) ?_ (by show 3<=6;decide)
  exact bd<|hK _ _ ⟨by exact bp rfl,rfl⟩
 obtain⟨ct,fK⟩:=hI;refine b7 ct fK (jo (aj:=⟨fj t b h o wh z k,[]⟩) (mw (hp:=[]) (junk:=[_,_,_]) (aG _) (λo h=>nomatch h) (λH H h=>h) λp hp=>fX.mp (show(fj t b h o wh z k).all (λp=>p.2.bG λk=>decide (k<0))=true from rfl) p hp) (bd ?_)<|bH _);clear ct fK aj;refine rg (names:=["comes","goes"]) (dL<|an (eI aM)<|an (eI aM) aM)<|b7 (l':=("goes",.ref 1)::("comes",.ref 0)::fj t b h o wh z k) (aY:=[.list<|bf [],.list<|bf []]) (by exact bp rfl) rfl ?_;have RT:∀(l:J B),U (eV z l)<=2*U l/\U (cS z l)<=2*U l:=by
  intro l
  induction l with
  |nil=>exact⟨bH _,bH _⟩
  |cons c l ih=>
   unfold eV cS at*;simp only[fa,fa,aK,aK,cK];have G:U (gu z c)<=2:=by unfold gu;split<;>simp
   have h2:U (fW z c)<=2:=by unfold fW;(repeat' split)<;>simp
   exact Zr ih G h2
 refine cg (nW 2 (λi aj=>SubL (("goes",.ref 1)::("comes",.ref 0)::fj t b h o wh z k) aj.loc/\aj.hp=[.list (bf (eV z (b.take i))),.list (bf (cS z (b.take i)))]) (items:=signs (tx b)) (aiy:=λH=>gF) (lo:=0)
  (gw.of ah fP.str) ⟨λH H h=>h,rfl⟩ (λi aj H hI=>trivial) (bH _) (bH _) (λi aiA aj hu hI=>?_) (λaj hI=>?_))
 ·refine xA hI λct fK=>?_
  simp only[IB,c7] at hu;cases ij:b[i]? with
  |none=>rw[ij] at hu;exact nomatch hu
  |some c=>
  rw[ij] at hu;obtain rfl:aiA= .str (tx [c]):=by cases hu;rfl
  clear hu;have rB:b.take (i+1)=b.take i++[c]:=by refine D qM<|D ij ?_;rfl
  have zE:=RT<|b.take i;have zF:U (b.take i)<=11:=by exact D gE<|Zq f0
  refine D rB ?_
  have hca:eV z (b.take i++[c])=eV z (b.take i)++gu z c:=by unfold eV;refine D kN ?_;simp
  have yi:cS z (b.take i++[c])=cS z (b.take i)++fW z c:=by unfold cS;refine D kN ?_;simp
  refine D hca<|D yi ?_;generalize eV z (b.take i)=ca at*;generalize cS z (b.take i)=ga at*;refine⟨_,cW.norm ct fK bW,(XS.hide λK hK=>(b7 (l':=("sign",.str<|tx [c])::("goes",.ref 1)::("comes",.ref 0)::fj t b h o wh z k) (aY:=[.list<|bf ca,.list<|bf ga]) (by exact bp rfl) rfl ?_))⟩;have pl:∀l:dY,U (bf l)=U l:=λl=>by unfold bf;exact D (bg _) rfl
  have ps:∀(l:dY) (x y:J B),bf l++[.tup (.type "tuple") [.str<|tx x,.str<|tx y]]=bf (l++[(x,y)]):=λl x y=>by unfold bf;refine D eL ?_;rfl
  have spec:∀{st:St} {p1 p2 p3:cN},st.loc.lookup ("sign":ao)=some (.str<|tx [c])->EV (cL w os dr sc co bo) (n+20) (.Call (.Name "_law_special" p1) [.Name "sign" p2] [] p3) st (.bool<|cI c) st:=λhl=>
   jD (hH gG<|Ov _) (kp _ _ (yn _).get) (yn _).fd (an (ah hl) aM) (RB (bo:=bo))
  refine cg (jt (K:=λfl aj=>fl= .next/\SubL (("sign",.str (tx [c]))::("goes",.ref 1)::("comes",.ref 0)::fj t b h o wh z k) aj.loc/\aj.hp=[.list (bf (ca++(gu z c).dropLast)),.list (bf (ga++(fW z c).dropLast))])
   (jl (b:=(cI c&&(decide (c % 2=z)&&true))) (kC (fv (spec (by rfl)) kR) (kC (fJ (bV (bt (fw (cB gG (BI _) gB (BJ _)) (an ah aM) aQ.ord) bA (a8.mod_int (by decide))) RO mi) (mod2 c z)) pY)) (λhc=>?_) (λhc=>?_)) ?_)
  ·have wV:cI c=true/\c % 2=z:=by simpa using hc
   refine D (show gu z c=[([],[92]),([c],[c])] from aU wV)<|D (show fW z c=[([92],[92]),([c],[c])] from aU wV) ?_;refine eE (iF (k:=0) (l:=bf ca) (l2:=bf ca) ah rfl (dL<|an (EV.tx [])<|an (EV.tx [92]) aM) rfl<|by refine D (pl _) ?_;exact Zp zE zF) ?_
   rw[ps];refine b7 (l':=("sign",.str<|tx [c])::("goes",.ref 1)::("comes",.ref 0)::fj t b h o wh z k) (aY:=[.list<|bf<|ca++[([],[92])],.list<|bf ga]) (by exact bp rfl) rfl ?_
   refine eE (iF (k:=1) (l:=bf ga) (l2:=bf ga) ah rfl (dL<|an (EV.tx [92])<|an (EV.tx [92]) aM) rfl<|by refine D (pl _) ?_;exact Nt zE zF) ?_
   rw[ps];exact bd ⟨rfl,by exact bp rfl,rfl⟩
  ·have wV:¬(cI c=true/\c % 2=z):=by
    intro q;rw[q.1,dG q.2] at hc;cases hc
   refine D (show gu z c=[([c],[c])] from aE wV) (cg<|jl (b:=cI c) (fv (spec<|by rfl) kR) (λhd=>?_) λhd=>?_)
   ·refine D (show fW z c=[([92],[]),([c],[c])] from(aE wV).trans<|aU hd) ?_
    refine eE (iF (k:=1) (l:=bf ga) (l2:=bf ga) ah rfl (dL<|an (EV.tx [92])<|an (EV.tx []) aM) rfl<|by refine D (pl _) ?_;exact Nt zE zF) ?_
    rw[ps];refine bd<|bd ⟨rfl,by exact bp rfl,?_⟩;refine D (show[(([c]:J B),([c]:J B))].dropLast=[] from rfl)<|D (cM _) ?_;rfl
   ·(refine D (show fW z c=[([c],[c])] from(aE wV).trans<|aE<|by rw[hd];exact dy) ?_)
    refine bd<|bd ⟨rfl,by exact bp rfl,?_⟩;rw[show[(([c]:J B),([c]:J B))].dropLast=[] from rfl,cM,cM]
  intro fl aj dM;refine eh dM λav zt tn=>?_
  clear dM;subst av
  try dsimp only
  refine b7 zt tn ?_
  have Ht:(gu z c).dropLast++[([c],[c])]=gu z c:=by unfold gu;split<;>rfl
  have kf:(fW z c).dropLast++[([c],[c])]=fW z c:=by unfold fW;split;rfl;split<;>rfl
  have agH:U (gu z c)<=2:=by unfold gu;split<;>simp
  have agI:U (fW z c)<=2:=by unfold fW;(repeat' split)<;>simp
  have Il:U (ca++(gu z c).dropLast)<=30:=by exact D aK<|D JI<|Zo zE zF agH
  have hd2:U (ga++(fW z c).dropLast)<=30:=by exact D aK<|D JI<|Zn zE zF agI
  rw[←Ht,←kf,←cm,←cm] at hK;generalize ca++(gu z c).dropLast=IL at*;generalize ga++(fW z c).dropLast=IM at*;refine eE (iF (k:=0) (l:=bf IL) (l2:=bf IL) ah rfl (dL<|an ah<|an ah aM) rfl<|by refine D (pl _) ?_;exact Nr Il) ?_
  rw[ps];refine b7 (l':=("sign",.str<|tx [c])::("goes",.ref 1)::("comes",.ref 0)::fj t b h o wh z k) (aY:=[.list<|bf<|IL++[([c],[c])],.list<|bf IM]) (by exact bp rfl) rfl ?_
  refine eE (iF (k:=1) (l:=bf IM) (l2:=bf IM) ah rfl (dL<|an ah<|an ah aM) rfl<|by refine D (pl _) ?_;exact Nr hd2) ?_
  rw[ps];exact bd<|hK _ _ ⟨by exact bp rfl,rfl⟩
 obtain⟨ct,fK⟩:=hI;have qg:U (signs<|tx b)=U b:=by rw[IB,bg]
 rw[qg,pI] at fK;refine b7 ct fK<|bd ?_;clear ct fK aj;have pl:∀l:dY,U (bf l)=U l:=λl=>by unfold bf;exact D (bg _) rfl
 have RU:=RT b;have nx:U (cS z b)<=22:=by exact Zm RU f0
 have IN:U (eV z b)<=22:=by exact Zl RU f0
 have agJ:∀p q:J B×J B,V.tup (.type "tuple") [.str<|tx p.1,.str<|tx p.2]=V.tup (.type "tuple") [.str<|tx q.1,.str<|tx q.2]->p=q:=λp q rK=>by
  injection rK with _ h2
  injection h2 with h3 h4
  injection h4 with h5 _
  exact EW (IA h3)<|IA h5
 have rM:∀{α:Type} (aiC:α->J B×J B) (l:J α),(l.flatMap λa=>[V.tup (.type "tuple") [.str<|tx (aiC a).1,.str<|tx (aiC a).2]])=bf (l.map aiC):=λaiC l=>by refine D (wP _ _) ?_;unfold bf;refine D gP ?_;rfl
 refine cZ (bt ah (comp_map [] (λp:J B×J B=>V.tup (.type "tuple") [.str (tx p.1),.str (tx p.2)]) (λp=>[V.tup (.type "tuple") [.str (tx []),.str (tx p.2)]]) agJ ah (fD.list (k:=0) (items:=bf (eV z b)) rfl) rfl (by show 1<=2;decide)
  (λL p hp=>⟨true,.nil,.inr ⟨rfl,_,rfl,dL (an (EV.tx []) (an (eJ ah bA (gY.tup (j:=1) rfl rfl) sM) aM))⟩⟩) (rM (λp=>([],p.2)) (eV z b)) (by refine D (pl _) (D (bg _) ?_);exact Fv IN)) (a8.add_list (i:=0) (j:=2) (l:=bf (eV z b)) (m:=bf ((eV z b).map λp=>([],p.2))) rfl rfl (by refine D (pl _) (D (pl _) (D (bg _) ?_));exact Fx IN))) ?_
 (refine D (show bf (eV z b)++bf ((eV z b).map λp=>([],p.2))=bf (fL z b) by unfold fL bf;rw[eL]) ?_)
 have wS:U (fL z b)<=44:=by unfold fL;refine D aK<|D (bg _) ?_;exact Zk IN
 refine b7 (l':=("comes",.ref 3)::("goes",.ref 1)::fj t b h o wh z k) (aY:=[.list<|bf<|eV z b,.list<|bf<|cS z b,.list<|bf<|(eV z b).map λp=>([],p.2),.list<|bf<|fL z b]) (by exact bp rfl) rfl ?_
 refine cg (Ry [] (λc=>V.str (tx [c])) (λc=>[V.tup (.type "tuple") [.str (tx [c]),.str (tx (cD c))]]) (λa b h=>str_inj h) ah (fD.str (x:=tx t)) trivial (bH _)
  (λL c hc=>⟨true,.nil,.inr ⟨rfl,_,rfl,dL (an ah (an (EV.yw (c:=cI c) (fv (jD (hH gG (Ov _)) (kp _ _ (yn _).get) (yn _).fd (an ah aM) (RB (bo:=bo))) kR)
   (λh=>by
    exact D (show cD c=[92]++[c] from aU h) (bt (EV.tx [92]) ah (a8.oh (bY rfl))))
   (λh=>by
    (refine D (show cD c=[c] from aE<|by rw[h];exact dy) ?_)
    exact ah)) aM))⟩⟩) (rM (λc=>([c],cD c)) t) (by refine D (pl _) (D (bg _) ?_);exact un eU) ?_)
 refine D (show t.map (λc=>([c],cD c))=fh t from rfl) ?_
 have wT:U (fh t)<=11:=by unfold fh;refine D (bg _) ?_;assumption
 refine dh (jn.pick (q:=0) (hp:=[]) (tail:=[.list<|bf<|eV z b,.list<|bf<|cS z b,.list<|bf<|(eV z b).map λp=>([],p.2),.list<|bf<|fL z b,.list<|bf<|fh t]) (sel:=[.list<|bf<|fL z b,.list<|bf<|cS z b,.list<|bf<|fh t]) (aG _) (λo h=>nomatch h) [3,1,4] (by decide) rfl<|gh k6<|gh k6<|fM k6) λaiC g r1 r2 r3=>?_
 have a0:=r2 0 3 rfl;have a1:=r2 1 1 rfl;have a2:=r2 2 4 rfl;refine jo (aj:=⟨("changes",.ref 2)::("comes",.ref 0)::("goes",.ref 1)::fj t b h o wh z k,[.list<|bf<|fL z b,.list<|bf<|cS z b,.list<|bf<|fh t]⟩) (.inr ⟨_,aiC,g,r3,?_⟩) ?_<|bH _
 ·
  exact c9.cons (v:=.ref 4) rfl a2.1 (bB V.ref a2.2.symm)<|c9.cons (v:=.ref 3) rfl a0.1 (bB V.ref a0.2.symm)<|c9.cons (v:=.ref 1) rfl a1.1 (bB V.ref a1.2.symm)<|c9.cons rfl rfl rfl<|c9.cons rfl rfl rfl<|c9.cons rfl rfl rfl<|c9.cons rfl rfl rfl<|c9.cons rfl rfl rfl<|c9.cons rfl rfl rfl<|c9.cons rfl rfl rfl c9.nil
 clear r1 r2 r3 a0 a1 a2 aiC g;have CK:gC [.list<|bf<|fL z b,.list<|bf<|cS z b,.list<|bf<|fh t]:=gh k6<|gh k6<|fM k6;have IE:∀{l:J (ao×V)} {junk:J O},SubL (("changes",.ref 2)::("comes",.ref 0)::("goes",.ref 1)::fj t b h o wh z k) l->jn 0 ⟨l,[.list<|bf<|fL z b,.list<|bf<|cS z b,.list<|bf<|fh t]++junk⟩ ⟨("changes",.ref 2)::("comes",.ref 0)::("goes",.ref 1)::fj t b h o wh z k,[.list<|bf<|fL z b,.list<|bf<|cS z b,.list<|bf<|fh t]⟩:=λhs=>
  mw (bH _) CK hs λp hp=>fX.mp (show((("changes":ao),V.ref 2)::(("comes":ao),V.ref 0)::(("goes":ao),V.ref 1)::fj t b h o wh z k).all (λp=>p.2.bG λk=>decide (k<3))=true from rfl) p hp
 have sl:∀x:J B,(.list (signs<|tx x):O)= .list (aw<|sg x):=λx=>by exact D (RD _) rfl
 refine aH (agG (w:=w) (os:=os) (dr:=dr) (sc:=sc) (co:=co) (bo:=bo) (n:=n) eF (o:=o) (wh:=wh) hk ht f0 mC rL tw nx wS wT x1 x2 x3 x4 q3 q4 q5 q6) λrest hr hx=>?_
 subst hr;exact hx
theorem Ea:∀a b c d e aiC g h i j k l m,ES a b c d e aiC g h i j k l m:=by with_unfolding_all exact oM ES EX rfl Ee
end RN
section
variable{w:bz}{sc:bc}{n:B}{l:J V}{s:ay}{zs:J az}
section
variable{os:bM}{dr:cV}{co:bc}{bo:co.isFreed=false}{st:St}
theorem agK(eF:sc.isFreed=false){t:J B}{z k:B}{tk:jh}(hd:co.data= .cell (some<|.int (z:B) tk))(hz:z<=1)(hk:k<=1000)(ht:U t<=11)(aiz:wN t z k):
  ∃b1 rest,fBody [18]=b1::rest/\XS (cL w os dr sc co bo) (n+20) 0 rest ⟨[("around",.int k),("text",.str<|tx t)],[]⟩ (λfl aj=>fl= .ret (.bool true)):=RN.Ea w os dr sc ⟨co,bo⟩ n t z k tk () () () eF hd hz hk ht aiz
end
structure tA(T:Wd)(a:ax)(l:J V):Prop where
 at_:∃vs,T.top.IsList a vs/\∀ρ h,V.IsL ρ h l vs.toList
section
variable{C:Cx}{st am ba ce:St}{a:ax}
theorem tA.get(S:tA C.toWd a l){ρ:J ax}(R:Rep C ρ st s):∃vs,s.heap.IsList a vs/\∀ρ h,V.IsL ρ h l vs.toList:=by
 exact aH S.at_ λvs cq hl=>aH cq λo ho hc=>(⟨vs,⟨o,R.led.top _ _ ho,hc⟩,hl⟩)
theorem agL(S:tA C.toWd a l)(hz:U l<2 ^ 63):aQ C n (.builtin "len") [.val<|.ref a] st (.int<|U l) st:=.mk λA s ρ xs Q hA R aV h=>by
 refine cE aV λx r bE o7 i2=>?_
 clear aV;subst bE o7;obtain rfl:r=[]:=i2;refine aH (S.get R) λvs hL hi=>?_
 have hl:vs.size=U l:=by simp only[←eO,dK<|hi [] s.heap]
 exact Lb hL (by refine D hl ?_;omega)<|h ρ _ _ (gj R _) ⟨_,by exact D hl rfl⟩
theorem agM{ns:J az}(S:tA C.toWd a<|ns.map V.int):aQ C n (.builtin "sum") [.val<|.ref a] st (.int ns.sum) st:=.mk λA s ρ xs Q hA R aV h=>by
 refine cE aV λx r bE o7 i2=>?_
 clear aV;subst bE o7;obtain rfl:r=[]:=i2;refine aH (S.get R) λvs hL hl=>xA (GE<|hl [] s.heap) λG h2=>xE (AllInts.items (vs:=vs) λv hv=>G v<|KG.mpr hv) λys av=>?_
 subst av;rw[nums_intItems] at h2;refine sum_intListG hA.1 hL λh' tk t' eS=>?_
 rw[preSum_eq,qL (by simp),h2];exact h ρ _ _ (bk.grow R eS (eN.refl _) rfl rfl) ⟨_,rfl⟩
theorem agN{value:bv}{lo up:bC bv}{p pos:cN}{i j:bC az}(S:tA C.toWd a l)(G:EV C n value st (.val<|.ref a) am)(h2:PV C n lo am i ba)(h3:PV C n up ba j ce)(hz:U l<=16777216):
  EV C n (.Subscript value (.Slice lo up aA p) pos) st (.ref<|U ce.hp) ⟨ce.loc,ce.hp++[.list<|m5 l i j]⟩:=.mk λA s ρ Q hA R h=>by
 refine EP<|G A s ρ _ hA R λaC x s1 N1 i1=>wpAny_Slice<|h2.go hA N1.rep λbh y s2 N2 p2=>h3.go hA N2.rep λdp z s3 N3 p3=>?_;simp only[evalPart_none];refine wpAny_pure ?_
 obtain rfl:x= .ref a:=i1;refine aH (S.get N3.rep) λvs hL hl=>?_
 have hs:vs.size=U l:=by simp only[←eO,dK<|hl [] s3.heap]
 refine GB (hL.push _).typeIs gy (wpAny_getItem_list_slice (hL.push _) (Kv ..) p2 p3 .none (by simp) ?_<|by refine D hs ?_;exact hz);have N4:=bk.push N3.rep {cls:=.type "slice",data:=.fields #[y,z,jB]} s3.toks
 have N5:=bk.alloc (ob:=.list (m5 l i j)) (o:={cls:=.type "list",data:=.seq (slicePick vs i j aA)}) N4.rep rfl ⟨slicePick vs i j aA,0,ew _ rfl,by
  rw[OF]
  exact(hl _ _).cut i j⟩ s3.toks
 exact h _ _ _ ((((N1.trans N2).trans N3).trans N4).trans N5)<|mW N4.rep.led _
end
section
variable{T:Wd}{a:ax}(kp:∀b o,(bZ w.params).get? b=some o->T.top.get? b=some o)
include kp
set_option maxHeartbeats 1000000 in
theorem agO(hz:U zs<=63)(S:tA T a<|zs.map V.int):cC T (n+1) (.ref 287) [] [.val<|.ref a] [] (.str<|tx<|gb zs):=by
 have gG:=(cQ w.params).keeps kp;have gB:=(dN w.params).keeps kp;refine cC.fn (kp _ _ (sK _).get) (sK _).fd rfl ((sK _).code.keeps kp) ((noLimit _).keeps kp) (λxs hx=>?_) (sK w.params).nd (sK _).cell (sK _).loc λL=>?_
 ·revert xs;exact sG λH=>rfl
 have RV:m5 (zs.map V.int) none (some 6)=(zs.take 6).map V.int:=by
  unfold m5;simp only[bC.elim_none,bC.elim_some,mH,B.sub_zero,bg];simp only[show qU (U zs) 6=min 6 (U zs) from clipAt_nat (U zs) 6,J1];simp only[JC,bg];exact ZE
 refine xE (⟨_,rfl⟩:∃ys,ys=zs.take 6) λys nV=>?_
 have hyl:U ys<=6:=by exact D nV<|D gE ZD
 simp only[←nV] at RV;have Ip:gb zs=[46,97,45,46,97]++ys.map kZ:=by exact D nV rfl
 refine D Ip ?_
 clear nV Ip;refine cZ (v:=.str<|tx [46,97,45,46,97]) dF ?_
 refine cg (nW 1 (items:=ys.map V.int) (aiy:=λaj=>aj.hp[0]?=some (.list (ys.map V.int))) (am:=⟨[("text",.str (tx [46,97,45,46,97])),("script",.val (.ref a))],[.list (ys.map V.int)]⟩) (λi aj=>aj=⟨[("text",.str (tx ([46,97,45,46,97]++(ys.take i).map kZ))),("script",.val (.ref a))],[.list (ys.map V.int)]⟩)
  (gw.of (v:=.ref 0) (by simp only[←RV];exact agN S ah PV.none (PV.some bA) (by refine D (bg _) ?_;exact ZC hz)) (fP.list rfl)) rfl (λi aj H h=>by refine D h ?_;rfl) (aG 1) (bH _) (λi aiA aj hu hI=>?_) (λaj hI=>?_))
 ·subst hI;rw[c7] at hu;cases hq:ys[i]? with
  |none=>rw[hq] at hu;exact nomatch hu
  |some z=>
  rw[hq] at hu;cases hu;have hlen:U (ys.take i)<=6:=by exact D gE<|ZB hyl
  have fin:∀c,kZ z=c->tx ([46,97,45,46,97]++(ys.take i).map kZ)++tx [c]=tx ([46,97,45,46,97]++(ys.take<|i+1).map kZ):=λc hc=>by
   rw[kY,qM,hq,eL,cm];simp[hc]
  have fit:∀c,(tx ([46,97,45,46,97]++(ys.take i).map kZ)++tx [c]).length<=km:=λc=>by
   rw[kY,jH];simp only[aK,bg,cK,iR];exact mo<|ZA hlen
  have done:∀(c:B) (l:J<|ao×V) (K:Fl->St->Prop),kZ z=c->SubL [("text",.str<|tx ([46,97,45,46,97]++(ys.take i).map kZ)++tx [c]),("script",.val<|.ref a)] l->
    K .next ⟨[("text",.str<|tx<|[46,97,45,46,97]++(ys.take<|i+1).map kZ),("script",.val<|.ref a)],[.list<|ys.map V.int]⟩->
    XS (re T (fdOf<|NJ w.params) 287 L) n 1 [] ⟨l,[.list<|ys.map V.int]⟩ K:=
   λc l K hc hs hk=>XS.forget hs (bd<|by exact D (fin c hc)<|hk)
  have h4:=uL z 4 (by decide);refine⟨_,bW,(rg (names:=["way","rest"]) (dL<|an (bt ah bA<|a8.mod_int<|by decide)<|an (bt ah bA<|a8.floordiv_int (by decide)<|PyProof.noPylong_small<|by decide) aM) ?_)⟩;have hr:∀k:az,0<k->k<2000000->(decide ((z.fdiv 4).fmod k< -(2 ^ 63:az))||decide ((z.fdiv 4).fmod k≥2 ^ 63))=false:=λk h0 G=>by
   have:=uL (z.fdiv 4) k h0;exact D (fB<|by omega)<|D (fB<|by omega) rfl
  refine cg<|jl (bV ah bA mi) (λh=>?_) λh=>?_
  ·have e:z.fmod 4=0:=by simpa using h
   refine cZ (bt ah (eJ dF (bt ah bA<|a8.mod_int<|by decide) (gY.str (t:=tx [97,98]) at2<|hr 2 (by decide)<|by decide) yp)<|nZ<|fit _)<|bd<|done _ _ _ ?_ (bp rfl) rfl;unfold kZ;exact D (aU e) rfl
  have n0:¬z.fmod 4=0:=by simpa using h
  refine cg<|jl (bV ah bA mi) (λG=>?_) λG=>?_
  ·have e:z.fmod 4=1:=by simpa using G
   refine cZ (bt ah (eJ dF (bt ah bA<|a8.mod_int<|by decide) (gY.str (t:=tx [46,45]) at2<|hr 2 (by decide)<|by decide) yp)<|nZ<|fit _)<|bd<|bd<|done _ _ _ ?_ (bp rfl) rfl;unfold kZ;rw[aE n0,aU e]
  have n1:¬z.fmod 4=1:=by simpa using G
  refine cg<|jl (bV ah bA mi) (λh2=>?_) λh2=>?_
  ·have e:z.fmod 4=2:=by simpa using h2
   have hm:=uL (z.fdiv 4) 128 (by decide);refine cZ (bt ah (fw (cB gG (Gy _) gB<|Gz _) (an (bt ah bA<|a8.mod_int<|by decide) aM)<|aQ.chr (by omega)<|by omega)<|nZ<|fit _)<|bd<|bd<|bd<|done _ _ _ ?_ (bp rfl) rfl;unfold kZ;rw[aE n0,aE n1,aU e]
  have n2:¬z.fmod 4=2:=by simpa using h2
  have hm:=uL (z.fdiv 4) 1112064 (by decide);refine cZ (bt ah bA<|a8.mod_int<|by decide)<|cg<|jl (bV ah bA a8.gt_int) (λh3=>?_) λh3=>bd ?_
  ·have e:55295<(z.fdiv 4).fmod 1112064:=by simpa using h3
   refine cZ (bt ah bA eT) (bd<|cZ (bt ah (fw (cB gG (Gy _) gB<|Gz _) (an ah aM)<|aQ.chr (by omega)<|by omega)<|nZ<|fit _)<|bd<|bd<|bd<|done _ _ _ ?_ (bp rfl) rfl);unfold kZ;rw[aE n0,aE n1,aE n2,aU e]
  ·have e:¬55295<(z.fdiv 4).fmod 1112064:=by simpa using h3
   refine cZ (bt ah (fw (cB gG (Gy _) gB<|Gz _) (an ah aM)<|aQ.chr (by omega)<|by omega)<|nZ<|fit _)<|bd<|bd<|bd<|done _ _ _ ?_ (bp rfl) rfl;unfold kZ;rw[aE n0,aE n1,aE n2,aE e]
 ·subst hI;refine D (bg _)<|D pI<|bd<|j6 ah ⟨_,rfl,[],n7 0 [],oZ 0 [],Cv.of (base:=[]) (sel:=[]) rfl rfl lx (λk h=>(g8 h).elim) rfl rfl rfl .nil,rfl,rfl⟩
end
noncomputable def TS(w:bz)(os:bM)(dr:cV)(sc:bc)(eF:sc.isFreed=false):Wd:=⟨oJ,w,(bZ w.params).push sc,os,dr,⟨sc,by rw[jV,lu];have:=ew (bZ w.params) eF;rw[lu] at this;exact this⟩⟩
section
variable{os:bM}{dr:cV}{eF:sc.isFreed=false}
theorem RW:∀b o,(bZ w.params).get? b=some o->(TS w os dr sc eF).top.get? b=some o:=λb o h=>dE _ h
theorem agP{ρ:J ax}{s':ay}{t:J B}{v:ak}(R:Rep ⟨TS w os dr sc eF,qB w⟩ ρ ⟨[("text",.str<|tx t),("script",.val<|.ref 319)],[]⟩ s)(hc:s'.heap.IsCell 321<|some v)(hs:iW 321 s.heap s'.heap)(lm:s'.os=s.os)(iI:s'.drawn=s.drawn):
  ∃co,∃bo:co.isFreed=false,co.data= .cell (some v)/\Rep ⟨TL w os dr sc co bo,qB w⟩ [] ⟨[("text",.str<|tx t)],[]⟩ s':=by
 refine aH hc λco uO hd=>?_
 have bo:co.isFreed=false:=by obtain⟨c1,c2,c3,c4⟩:=co;change c3=_ at hd;subst hd;rfl
 have zG:s.heap.get? 319=some sc:=R.led.top 319 sc (by have:=ew (bZ w.params) eF;rw[lu] at this;exact this);refine⟨co,bo,hd,⟨?_,?_⟩⟩
 ·refine aH R.loc λm hn hm=>⟨m,hn.sameBut hs (by decide:(320:B)≠321),λx v e=>?_⟩
  rw[gv] at e;cases hx:x==("text":ao) with
  |true=>
   rw[hx] at e;cases e;refine E0 (hm x (.str (tx t)) (by rw[gv,hx])) λy hy t av=>?_
   subst av;exact⟨_,hy,t,rfl⟩
  |false=>rw[hx] at e;cases e
 ·refine⟨rfl,(λk o a e=>nomatch e),lx,g8,λa h=>aZ h g8,agt,λb o e=>?_,lm.trans R.led.os,iI.trans R.led.drawn⟩;rcases Rr e with ⟨rfl,rfl⟩|⟨rfl,rfl⟩|e
  ·exact uO
  ·exact(hs.2 (319:B) (by decide:(319:B)≠321)).trans zG
  ·have bJ:=dH e;rw[lu] at bJ;exact(hs.2 b (λh=>by subst h;exact aZ bJ (by decide):b≠321)).trans<|R.led.top b o<|RW (eF:=eF) b o e
theorem agQ(hz:U zs<=63)(S:tA (TS w os dr sc eF) 319<|zs.map V.int)(aiz:wN (gb zs) (U zs % 2) (zs.sum.fmod 4).toNat){A:bS}(hA:cn (n+20) A)
  (R:Rep ⟨TS w os dr sc eF,qB w⟩ [] ⟨[("script",.val<|.ref 319)],[]⟩ s) (iE:s.heap.IsCell 321 aA) {Q:mL->ay->Prop}
  (hQ:∀s',(∀b o,s.heap.get? b=some o->b≠320->b≠321->s'.heap.get? b=some o)->eN s.gens s'.gens->s'.os=os->Q (.ret<|.bool true) s'):
  aF (aN oJ w) A (mK (fBody [18])<|qB w) Q bq s:=by
 have kp:=RW (w:=w) (os:=os) (dr:=dr) (sc:=sc) (eF:=eF);have gG:=(cQ w.params).keeps kp;have gB:=(dN w.params).keeps kp;have key:∃b1 rest,fBody [18]=b1::rest/\aF (aN oJ w) A (mK (b1::rest)<|qB w) Q bq s:=by
  refine⟨_,_,rfl,(wpAny_execs_cons<|Assign_Tuple ?_)⟩
  refine EV.run (C:=⟨TS w os dr sc eF,qB w⟩) (n:=n+20) (st:=⟨[("script",.val (.ref 319))],[]⟩) (dL (an (jD (hH gG (abb _)) (kp _ _ (sK _).get) (sK _).fd (an ah aM) (aQ.wm (n:=n+20) (agO kp hz S)))
   (an (bt (fw (cB gG (qb _) gB (qd _)) (an ah aM) (agL S (by rw[bg];lia))) bA (a8.mod_int (b:=2) (by decide)))
    (an (bt (fw (cB gG (abe _) gB (abj _)) (an ah aM) (agM S)) bA (a8.mod_int (b:=4) (by decide))) aM)))) A s [] _ hA R λaC x s1 N1 i1=>?_
  refine oK i1 λH a ar m av ho hl=>?_
  clear i1;subst av;have ht:IsTup s1.heap a ar:=⟨_,ho,rfl,m,rfl⟩
  have HI:ar.size=3:=by rw[←eO,dK hl];rfl
  refine assign_Tuple_tuple hA.1 ht (by rw[HI];rfl) rfl λh' he=>?_
  have kh:∀b o,s1.heap.get? b=some o->h'.get? b=some o:=λb o e=>he b o (iT<|dH e) e;have N2:bk ⟨TS w os dr sc eF,qB w⟩ aC s1 _ aC {s1 with heap:=h'}:=bk.grow N1.rep kh (eN.refl _) rfl rfl;refine dh hl λy1 r1 e1 cq hl=>?_
  obtain⟨tk1,rfl⟩:=cq;obtain⟨y2,r2,rfl,⟨CR,rfl⟩,hl⟩:=hl;obtain⟨y3,r3,rfl,⟨tk3,rfl⟩,hl⟩:=hl;obtain rfl:r3=[]:=hl;rw[e1];refine wpAny_bind<|wpAny_holding<|assign_Name<|vZ N2.rep (x:="text") (v:=.str<|tx<|gb zs) ⟨tk1,rfl⟩ (λs2 N3=>?_) rfl rfl;have N:=(N1.trans N2).trans N3;have aiq:∃o,s.heap.get? 321=some o/\o.data= .cell aA:=iE;have agR:s2.heap.IsCell 321 aA:=by
   exact aH iE λo ho hd=>(⟨o,N.keep 321 o ho g8 (show(321:B)≠320 by decide),hd⟩)
  refine wpAny_bind<|wpAny_holding<|assign_Name<|wpAny_storeName_cell (name:="odd") rfl rfl rfl agR λh3 hc3 RX=>?_;obtain⟨co,bo,hd,R3⟩:=agP (s':={s2 with heap:=h3}) N3.rep hc3 RX rfl rfl;have kP:(U (zs.map V.int):az).fmod 2=((U zs % 2:B):az):=by
   rw[bg,KX _<|by decide];rfl
  refine aH (⟨(zs.sum.fmod 4).toNat,by have:=uL zs.sum 4 (by decide);lia,by have:=uL zs.sum 4 (by decide);lia⟩:∃kk:B,zs.sum.fmod 4=(kk:az)/\kk<4) λkk Cp hk4=>?_
  rw[Cp,xC] at aiz;rw[kP] at hd;refine wpAny_bind (wpAny_holding<|assign_Name<|vZ R3 (x:="around") (v:=.int kk) ⟨tk3,by rw[Cp]⟩ (λs4 N4=>?_) rfl rfl);refine wpAny_pure ?_
  refine dv (agK (w:=w) (os:=os) (dr:=dr) (sc:=sc) (co:=co) (bo:=bo) (n:=n) eF (z:=U zs % 2) (k:=kk) hd (by lia) (ZF hk4) (t:=gb zs) (by unfold gb;rw[aK,bg,gE];exact MJ) aiz) λb1 rest e hx=>?_
  have e2:=(tK e).2;subst e2;refine(b7 (l':=[("around",.int kk),("text",.str<|tx<|gb zs)]) (aY:=[]) (bp rfl) rfl hx) A s4 [] _ hA N4.rep λaB fl aiC aj s5 hK N5 hf=>?_
  subst hK;refine aH hf λx av hx=>?_
  clear hf;subst av;obtain rfl:x= .bool true:=hx;refine hQ s5 (λb o e G h2=>?_) ?_ N5.rep.led.os
  ·exact N5.keep b o (N4.keep b o ((RX.2 b h2).trans<|N.keep b o e g8 G) g8 G) g8 G
  ·exact(N.gens.trans N4.gens).trans N5.gens
 refine dv key λb1 rest e h=>?_
 rw[e];exact h
end
theorem agS(P:aP):(bZ P).get? 318=some (sv P):=by kernel_rfl
theorem agT(P:aP):(sv P).data= .func (fdOf<|sv P):=by kernel_rfl
theorem agU(P:aP):(bZ P).CodeRec (fdOf<|sv P).code (fdOf<|sv P).qualname:=codeRec_of (by kernel_rfl)
theorem agV{cX:ay}(hz:U zs<=63)(hh:cX.heap=(bZ w.params).push sc)(hg:cX.gens=#[]){vs:bD ak}(agW:sc.cls= .type "list"){m:B}(IO:sc.data= .seq vs m)(HD:∀ρ h,V.IsL ρ h (zs.map V.int) vs.toList)
  (aiz:wN (gb zs) (U zs % 2) (zs.sum.fmod 4).toNat):
  aF (aN oJ w) callerA (gR (.ref 318) [.ref 319]) (λv s'=>v= .bool true/\(∀b o,cX.heap.get? b=some o->s'.heap.get? b=some o)/\AllBare s'.gens/\s'.os=cX.os) bq cX:=by
 have eF:sc.isFreed=false:=by obtain⟨c1,c2,c3,c4⟩:=sc;change c3=_ at IO;subst IO;rfl
 have ka:cX.heap.objs.size=320:=by rw[hh,jV,lu]
 have zG:cX.heap.get? 319=some sc:=by refine D hh ?_;have:=ew (bZ w.params) eF;rw[lu] at this;exact this
 have kp:∀b o,(bZ w.params).get? b=some o->cX.heap.get? b=some o:=λb o e=>by exact D hh<|dE _ e
 have S:tA (TS w cX.os cX.drawn sc eF) 319 (zs.map V.int):=⟨vs,⟨sc,by show((bZ w.params).push sc).get? 319=_;rw[←hh];exact zG,agW,m,IO⟩,HD⟩
 have hA:cn 21 callerA:=⟨rfl,by decide,by decide⟩
 refine wpAny_call<|codeAny_call_cells hA.depth (kp _ _<|agS _) (agT _) ((noLimit _).keeps kp) ((agU _).keeps kp) (body:=fBody [18]) rfl (binds:=[("script",.ref 319)]) rfl rfl (λx hx=>?_) λs' x=>?_
 ·rw[bx] at hx;subst hx;exact .inl rfl
 rw[ka] at x ⊢;have CZ:=x.toInCall;refine xJ CZ.same λh' tk av=>?_
 subst av;have R:Rep ⟨TS w cX.os cX.drawn sc eF,qB w⟩ [] ⟨[("script",.val<|.ref 319)],[]⟩ {cX with heap:=h',toks:=tk}:=by
  refine⟨⟨_,CZ.ns,λy v e=>?_⟩,⟨rfl,(λk o a e=>nomatch e),lx,g8,λa h=>aZ h g8,?_,λb o e=>CZ.keep b o ?_,rfl,rfl⟩⟩
  ·rw[gv] at e;cases hy:y==("script":ao) with
   |true=>rw[hy] at e;(injection e;subst_vars);exact D (eq_of_beq hy)<|⟨.ref 319,by rfl,rfl⟩
   |false=>rw[hy] at e;exact nomatch e
  ·exact xX (by show((bZ w.params).push sc).objs.size<=_;rw[←hh,ka];exact aG _)
  ·exact D hh e
 have iE:({cX with heap:=h',toks:=tk}:ay).heap.IsCell 321 aA:=x.cell "odd" 321 rfl;refine wpAny_mono (agQ (n:=0) hz S aiz hA.deeper R iE (Q:=λaiC s'=>aiC= .ret (.bool true)/\(∀b o,cX.heap.get? b=some o->s'.heap.get? b=some o)/\AllBare s'.gens/\s'.os=cX.os) λs' hk IP lm=>⟨rfl,λb o e=>?_,?_,lm⟩) (λaiC s' hf=>?_) λH H h=>h.elim
 ·have bJ:=dH e;rw[ka] at bJ;exact hk b o (CZ.keep b o e) (iT bJ)<|iT<|Ki bJ
 ·intro y hy;obtain⟨i,hi⟩:=bD.getElem?_of_mem hy
  have agX:({cX with heap:=h',toks:=tk}:ay).gens.size<=i:=by exact D (show({cX with heap:=h',toks:=tk}:ay).gens=#[] from hg)<|bH _
  exact D (IP.2 i y agX hi) rfl
 ·refine gg hf λav G h2 h3=>?_
  clear hf;subst av;exact⟨rfl,G,h2,h3⟩
end
end Mine
namespace Mine
open PySem PySem.W PyProof.Rows
section
variable{R:WRecords}{cl:ao->bC ax}{ord:J jz->J jz}
noncomputable def qv:du:={pw with main:={pw.main with body:=[eC 0,eC 2,eC 3,eC 4,eC 5,eC 6,eC 8,eC 10,eC 11,eC 13,eC 14,eC 15,eC 16,eC 17,eC 18]}}
noncomputable def e9:J ao:=["_tuplegetter","Match","SequenceMatcher","unified_diff","_special_chars_map"]
noncomputable def xT(s:ay):bb:=xlAt qv [] s&&recOk (RowW.records<|KW<|qZ ma) s
theorem rN.{aiA}{α:Sort aiA}{aiC g:du->du->bn->bn->ay->J ao->bb->α}(e:aiC=g)(p q:du)(b h:bn)(s:ay)(N:J ao)(x:bb):aiC p q b h s N x=g p q b h s N x:=by rw[e]
noncomputable def C0(p q:du)(b h:bn)(s:ay)(N:J ao)(x:bb):=staticsOk (xu p.main.body) b h&&namesBound p h&&gensDone s&&laidKept b h
theorem agY:@C0=@C0:=rfl
name_quick Lk0q for Mine.C0 by Mine.agY
theorem ek0(w:bz)(os:bM):(staticsOk (xu pw.main.body) (g9 w.params) (bZ w.params)&&namesBound pw (bZ w.params)&&gensDone (Sf w os)&&laidKept (g9 w.params) (bZ w.params))=true:=(by kernel_rfl:_=C0 pw qv (g9 w.params) (bZ w.params) (Sf w os) e9 (xT<|Sf w os)).trans <|(rN Fast.Lk0q_eq pw qv (g9 w.params) (bZ w.params) (Sf w os) e9<|xT<|Sf w os).trans (by kernel_rfl)
noncomputable def C4(p q:du)(b h:bn)(s:ay)(N:J ao)(x:bb):=seen ((recsOf q).map (·.name)) (ownsOf q) [] {s with gens:=#[]}
theorem agZ:@C4=@C4:=rfl
name_quick Lk1q for Mine.C4 by Mine.agZ
theorem ek1(w:bz)(os:bM):(seen ((recsOf qv).map (·.name)) (ownsOf qv) [] {Sf w os with gens:=#[]})=expectedOf qv:=(by kernel_rfl:_=C4 pw qv (g9 w.params) (bZ w.params) (Sf w os) e9 (xT<|Sf w os)).trans <|(rN Fast.Lk1q_eq pw qv (g9 w.params) (bZ w.params) (Sf w os) e9<|xT<|Sf w os).trans (by kernel_rfl)
theorem ek2(w:bz)(os:bM):(Sf w os).heap.bltView=PySem.bltViewBooted:=by kernel_rfl
noncomputable def C5(p q:du)(b h:bn)(s:ay)(N:J ao)(x:bb):=s.heap.keysOk (looseW q N) ((recsOf q).map (·.name)) ((litsOf q).map (·.1)) ((clssOf q<|looseW q N).map (·.name))&&s.heap.accountedOkI (xu p.main.body)&&s.heap.isNs Ko&&s.heap.isNs Kp&&tablesOk q s.heap&&x&&s.gens.size==0
theorem ag0:@C5=@C5:=rfl
name_quick Lk3q for Mine.C5 by Mine.ag0
theorem ek3(w:bz)(os:bM):((Sf w os).heap.keysOk (looseW qv e9) ((recsOf qv).map (·.name)) ((litsOf qv).map (·.1)) ((clssOf qv<|looseW qv e9).map (·.name))&&(Sf w os).heap.accountedOkI (xu pw.main.body)&&(Sf w os).heap.isNs Ko&&(Sf w os).heap.isNs Kp&&tablesOk qv (Sf w os).heap&&xT (Sf w os)&&(Sf w os).gens.size==0)=true:=(by kernel_rfl:_=C5 pw qv (g9 w.params) (bZ w.params) (Sf w os) e9 (xT<|Sf w os)).trans <|(rN Fast.Lk3q_eq pw qv (g9 w.params) (bZ w.params) (Sf w os) e9<|xT<|Sf w os).trans (by kernel_rfl)
noncomputable def C6(p q:du)(b h:bn)(s:ay)(N:J ao)(x:bb):=tabsOk q s
theorem ag1:@C6=@C6:=rfl
name_quick Lk4q for Mine.C6 by Mine.ag1
theorem ek4(w:bz)(os:bM):(tabsOk qv<|Sf w os)=true:=(by kernel_rfl:_=C6 pw qv (g9 w.params) (bZ w.params) (Sf w os) e9 (xT<|Sf w os)).trans <|(rN Fast.Lk4q_eq pw qv (g9 w.params) (bZ w.params) (Sf w os) e9<|xT<|Sf w os).trans (by kernel_rfl)
noncomputable def C7(p q:du)(b h:bn)(s:ay)(N:J ao)(x:bb):=pinSeenD q (drecsOf q) s
theorem ag2:@C7=@C7:=rfl
name_quick Lk5q for Mine.C7 by Mine.ag2
noncomputable def IQ(q:du)(N:J ao):=pinGoodD<|drecsOf q
theorem ag3:@IQ=@IQ:=rfl
name_quick Rk5q for Mine.IQ by Mine.ag3
theorem ek5(w:bz)(os:bM):(pinSeenD qv (drecsOf qv)<|Sf w os)=pinGoodD (drecsOf qv):=(by kernel_rfl:_=C7 pw qv (g9 w.params) (bZ w.params) (Sf w os) e9 (xT<|Sf w os)).trans <|(rN Fast.Lk5q_eq pw qv (g9 w.params) (bZ w.params) (Sf w os) e9<|xT<|Sf w os).trans ((by kernel_rfl:_=Fast.Rk5q qv e9).trans<|(fq (fq Fast.Rk5q_eq qv) e9).symm.trans (by kernel_rfl))
noncomputable def C8(p q:du)(b h:bn)(s:ay)(N:J ao)(x:bb):=plainSeenE q (looseW q N) s
theorem ag4:@C8=@C8:=rfl
name_quick Lk6q for Mine.C8 by Mine.ag4
noncomputable def IR(q:du)(N:J ao):=plainGoodE q<|looseW q N
theorem ag5:@IR=@IR:=rfl
name_quick Rk6q for Mine.IR by Mine.ag5
theorem ek6(w:bz)(os:bM):(plainSeenE qv (looseW qv e9)<|Sf w os)=plainGoodE qv (looseW qv e9):=(by kernel_rfl:_=C8 pw qv (g9 w.params) (bZ w.params) (Sf w os) e9 (xT<|Sf w os)).trans <|(rN Fast.Lk6q_eq pw qv (g9 w.params) (bZ w.params) (Sf w os) e9<|xT<|Sf w os).trans ((by kernel_rfl:_=Fast.Rk6q qv e9).trans<|(fq (fq Fast.Rk6q_eq qv) e9).symm.trans (by kernel_rfl))
noncomputable def C9(p q:du)(b h:bn)(s:ay)(N:J ao)(x:bb):=plainSeenD q N s
theorem ag6:@C9=@C9:=rfl
name_quick Lk7q for Mine.C9 by Mine.ag6
theorem ek7(w:bz)(os:bM):(plainSeenD qv e9<|Sf w os)=plainGoodD qv e9:=(by kernel_rfl:_=C9 pw qv (g9 w.params) (bZ w.params) (Sf w os) e9 (xT<|Sf w os)).trans <|(rN Fast.Lk7q_eq pw qv (g9 w.params) (bZ w.params) (Sf w os) e9<|xT<|Sf w os).trans (by kernel_rfl)
noncomputable def Da(p q:du)(b h:bn)(s:ay)(N:J ao)(x:bb):=wideSeen q s
theorem ag7:@Da=@Da:=rfl
name_quick Lk8q for Mine.Da by Mine.ag7
theorem ek8(w:bz)(os:bM):(wideSeen qv<|Sf w os)=wideGood qv:=(by kernel_rfl:_=Da pw qv (g9 w.params) (bZ w.params) (Sf w os) e9 (xT<|Sf w os)).trans <|(rN Fast.Lk8q_eq pw qv (g9 w.params) (bZ w.params) (Sf w os) e9<|xT<|Sf w os).trans (by kernel_rfl)
noncomputable def Db(p q:du)(b h:bn)(s:ay)(N:J ao)(x:bb):=clsSeenW q N s
theorem ag8:@Db=@Db:=rfl
name_quick Lk9q for Mine.Db by Mine.ag8
theorem ek9(w:bz)(os:bM):(clsSeenW qv e9<|Sf w os)=clsGoodW qv e9:=(by kernel_rfl:_=Db pw qv (g9 w.params) (bZ w.params) (Sf w os) e9 (xT<|Sf w os)).trans <|(rN Fast.Lk9q_eq pw qv (g9 w.params) (bZ w.params) (Sf w os) e9<|xT<|Sf w os).trans (by kernel_rfl)
theorem pair.{aiA,v}{α:Type aiA}{β:Type v}{a c:α}{b d:β}(h:a=c)(k:b=d):(a,b)=(c,d):=by rw[h,k]
theorem ag9(w:bz)(os:bM):openSeen qv e9 (xu pw.main.body) xT true (Sf w os)=openGood qv e9:=xI (by kernel_rfl) (xI (pair (ek1 w os)<|pair (ek2 w os)<|pair (ek3 w os)<|pair (ek4 w os)<|pair (ek5 w os)<|pair (ek6 w os)<|pair (ek7 w os)<|pair (ek8 w os)<|ek9 w os)<|by kernel_rfl)
noncomputable abbrev yF(s:PySem.Shared):PySem.Heap×B:=(s.heap,s.toks)
noncomputable abbrev yA(w:PySem.World):PySem.Heap×B:=(bZ w.params,857)
noncomputable def Dc(p:du)(w:bz):=(importEnds treeTable p w 600 (start p).1 (start p).2).map λs=>(s.heap,s.gens,s.drawn,s.toks)
theorem aha:@Dc=@Dc:=rfl
name_quick Lbootq for Mine.Dc by Mine.aha
theorem ahb(w:bz):Dc (opening pw) w=some (g9 w.params,(Eu []:bD de),boot_drawn,boot_toks):=(fq (fq PySem.W.Fast.Lbootq_eq<|opening pw) w).trans (by kernel_rfl)
theorem ahc:∀s,fenceModules? oJ s=some s:=λs=>by kernel_rfl
theorem ahd:∀w:bz,(fencedOpening treeTable oJ w 7534).map (λs=>(s.heap,s.gens,s.drawn,s.toks))=some (g9 w.params,Eu [],boot_drawn,boot_toks):=λw=>by
 obtain⟨s,hs,hv⟩:=bC.map_eq_some_iff.mp<|ahb w;have m:=importEnds_mono (7534-600) _ _ _ _ hs;rw[show 600+(7534-600)=7534 by omega] at m;unfold fencedOpening;rw[m];rw[Ke,ahc s];exact bB some hv
theorem left:LeftO oJ qv e9 xT yF yA 7534 true:=by
 refine LeftO.of_pieces (H₀:=g9) (H₁:=bZ) (gs₀:=Eu []) (gs₁:=qO []) (d₀:=boot_drawn) (d₁:=PySem.Drawn.mk 0 0 0 0) (k₀:=boot_toks) (k₁:=857) (m₀:=11) (ann:=some<|PySem.Value.ref 6) ahd ?size aaU (by kernel_rfl) ?looks
 case size=>intro w;kernel_rfl
 case looks=>
  intro w;funext os;exact EW (ek0 w os)<|EW (ag9 w os) rfl
noncomputable def vm:RowW:=KW<|qZ ma
theorem ahe:∃d tB,defOf qv (qZ ma).name=some (d,tB)/\(qZ ma).prog.theDef (qZ ma).name=some (d.params,d.body,d.scope)/\kwWritten? d.params.kwonlyargs d.params.kw_defaults=some tB:=⟨_,_,by rfl,by rfl,by rfl⟩
theorem prom:vm.promised:=by
 exact⟨[WData.list []],by decide+kernel,by decide+kernel⟩
noncomputable def WS(l:OpenLaw):bb:=l.wellSaid
theorem WSr:@WS=@WS:=rfl
name_quick WSq for Mine.WS by Mine.WSr
theorem RY:ma.wellSaid=true:=(by kernel_rfl:_=WS ma).trans ((fq Fast.WSq_eq ma).trans<|by kernel_rfl)
theorem ahf(d:DefRec)(tB:J<|ao×Eg)(G:defOf qv (qZ ma).name=some (d,tB))
 (h2:(qZ ma).prog.theDef (qZ ma).name=some (d.params,d.body,d.scope)) (h3:kwWritten? d.params.kwonlyargs d.params.kw_defaults=some tB)
 (hc:WalkX qv e9 (XL qv []) yF yA vm d tB λaiC vs=>gR aiC vs):ma.Holds:=by
 refine holds_law RY λRY=>?_
 exact holds_openX (r:=qZ ma) (q:=qv) (loose:=e9) (Xt:=xT) (XP:=XL qv []) (Yf:=yF) (Ya:=yA) (N:=7534) left (λs e=>xl_of s (fc.mp e).1) XL.keeps G h2 h3 (λs e=>recFacts_of (fc.mp e).2) (by rfl) ‹_› (by decide+kernel) ⟨rfl,rfl,rfl,rfl,rfl,by decide+kernel⟩ prom hc
theorem RZ{R:WRecords}:∀{ds:J WData},WShape.hasItems R ds .int=true->∃zs:J az,ds=zs.map vP
 | []=>λH=>⟨[],rfl⟩
 |d::ds=>λh=>by
  refine xA (fc.mp h) λG h2=>xE (hasW_int G) λi av=>?_
  subst av;refine xE (RZ h2) λzs av=>?_
  subst av;exact⟨i::zs,rfl⟩
theorem lay_ints{R:WRecords}{cl:ao->bC ax}{P:aP}{ord:J jz->J jz}:∀(zs:J az) (s:ay),∃xs tk,layAllW R cl P ord (zs.map vP) s=some (xs,{s with toks:=tk})/\∀ρ h,V.IsL ρ h (zs.map V.int) xs
 | [],s=>⟨[],s.toks,rfl,λH H=>rfl⟩
 |z::zs,s=>by
  refine dv (lay_ints (R:=R) (cl:=cl) (P:=P) (ord:=ord) zs {s with toks:=s.toks+1}) λxs tk e h=>⟨.int z s.toks::xs,tk,(D eu ?_),λρ hh=>⟨_,_,rfl,⟨_,rfl⟩,h ρ hh⟩⟩
  unfold layAllW;unfold layW
  try dsimp only
  exact D e rfl
theorem ahg{P:aP}(zs:J az)(s:ay):∃xs tk,layAllW R cl P ord [.list<|zs.map vP] s=some ([.ref s.heap.objs.size],{s with heap:=s.heap.push {cls:=.type "list",data:=.seq xs.toArray},toks:=tk})/\∀ρ h,V.IsL ρ h (zs.map V.int) xs:=by
 refine dv (lay_ints (R:=R) (cl:=cl) (P:=P) (ord:=ord) zs s) λxs tk e h=>⟨xs,tk,?_,h⟩
 unfold layAllW;unfold layW;refine D e ?_
 try dsimp only
 rfl
theorem ahh{zs:J az}(hp:vm.pre.holds vm.records {args:=[.list<|zs.map vP]}=true):U zs<=63:=by
 have h:=(holdsW_of_value<|w_and (w_not<|w_lt w_lit<|w_len_list<|w_arg rfl) w_lit).symm.trans hp;rw[lF,bg] at h;exact az.ofNat_le.mp<|xF.mp<|kj<|KD (y:=false) h
theorem ahj{zs:J az}:vm.claim.post [.list<|zs.map vP] (.bool true) [.list<|zs.map vP]=true:=by
 with_unfolding_all rfl
theorem ahk(P:aP):cT (fR P) "law"=some (.ref 318):=by kernel_rfl
theorem air(ahl:∀zs:J az,U zs<=63->wN (gb zs) (U zs % 2) (zs.sum.fmod 4).toNat):ma.Holds:=by
 refine dh ahe λd tB G h2 h3=>ahf d tB G h2 h3 ?_
 intro w wW cX mg mb aiB hY a o pm cd doc dV kV ha hd pX hdf hmg IP args vals as hL wH ais hR hW ait;refine xA (pre_splitW wH) λeo hp=>dh (hasAllW_cons (eo:WShape.hasAll vm.records args [.list .int]=true)) λd0 r av zH hr=>?_
 subst av;obtain rfl:=hasAllW_nil hr;refine aH (hasW_list zH) λds av hit=>?_
 subst av;refine xE (RZ hit) λzs av=>?_
 subst av;have hz:=ahh hp;refine aH hL.laid λord H hl=>dv (ahg (R:=vm.records) (cl:=classAt wW.heap) (P:=w.params) (ord:=ord) zs wW) λxs tk e aV=>?_
 rw[e] at hl;refine xA (Lj<|cj hl) λav bE=>?_
 subst av bE;have IS:wW.heap=bZ w.params:=(Lj hY).1;have ahm:d.name="law":=defOf_name G;obtain rfl:a=318:=by
  have q1:=aiB.T.g.eq_nsMap;have q2:=((cQ w.params).keeps (h':=wW.heap.push {cls:=.type "list",data:=.seq xs.toArray}) (λb o e=>by refine D IS ?_;exact dE _ e)).eq_nsMap;have q3:mg d.name=some (.ref 318):=by refine D ahm<|D q1<|bL q2 ?_;exact ahk w.params
  rw[hmg] at q3;injection q3 with q3
  injection q3
 have zG:wW.heap.objs.size=319:=by rw[IS,lu]
 refine D zG ?_
 refine wpAny_mono (agV (w:=w) (zs:=zs) (sc:={cls:=.type "list",data:=.seq xs.toArray}) hz (by show wW.heap.push _=_;rw[IS]) IP rfl rfl aV<|ahl zs hz) (λv s' hv=>?_) λH H h=>h.elim;refine gg hv λav hk hb lm=>?_
 clear hv;subst av;exact⟨.inl ⟨_,.bool true,[],rfl,λH=>rfl,.bool true,ahj,λH=>⟨lx,λa h=>aZ h g8⟩⟩,.of_keep hk,lm,hb⟩
end
end Mine
namespace Mine
open PySem PyProof.Rows
section
variable{c:Ch}{S F F1 F2:J Ch}{x y e f1 f2 d1 d2 G h2 b:J B}{l q lead f u rows X Z E Y:J (J B)}{i j n k z:B}{p:Piece}{α:Type}{ps:J Piece}{P:B->Prop}{L:Ls}
noncomputable abbrev Ch:=J (J B)×J (J B)×J (J B)
noncomputable def qD(c:Ch):J (J B):=c.1++c.2.2
noncomputable def qE(c:Ch):J (J B):=c.2.1++c.2.2
noncomputable def dz(c:Ch):J (J B):=c.1.map (45:: ·)++c.2.1.map (43:: ·)
noncomputable def gD(c:Ch):J (J B):=dz c++c.2.2.map (32:: ·)
noncomputable def opt(x:J B):J (J B):=if x=[] then[] else[x]
noncomputable def pz(x y:J B):J (J B)->J Ch->J Ch
 | [],c::S=>(opt x++c.1,opt y++c.2.1,c.2.2)::S
 |l,S=>(opt x,opt y,l)::S
noncomputable def cks:dY->J (J B)×J Ch
 | []=>([],[])
 |p::r=>if p.1=p.2 then(p.1::(cks r).1,(cks r).2) else([],pz p.1 p.2 (cks r).1 (cks r).2)
theorem rO(p:J B×J B)(r:dY):cks (p::r)=if p.1=p.2 then(p.1::(cks r).1,(cks r).2) else([],pz p.1 p.2 (cks r).1 (cks r).2):=rfl
noncomputable def iO(s:dY):J (J B):=s.flatMap λp=>opt p.1
noncomputable def iP(s:dY):J (J B):=s.flatMap λp=>opt p.2
noncomputable def qF(c:Ch):Prop:=c.1≠[]\/c.2.1≠[]
noncomputable def fz:J Ch->Prop
 | []=>gF
 | [c]=>qF c
 |c::c'::S=>qF c/\c.2.2≠[]/\fz (c'::S)
theorem fz.gap(h:fz<|c::S):qF c:=by cases S with
 |nil=>exact h
 |cons c' S=>exact h.1
theorem fz.tail(h:fz<|c::S):fz S:=by cases S with
 |nil=>trivial
 |cons c' S=>exact h.2.2
theorem fz.same(h:fz<|c::S)(hs:S≠[]):c.2.2≠[]:=by cases S with
 |nil=>exact aZ rfl hs
 |cons c' S=>exact h.2.1
theorem fz.cons{c:Ch}{S:J Ch}(h:fz S)(hg:qF c)(hs:S≠[]->c.2.2≠[]):fz (c::S):=by cases S with
 |nil=>exact hg
 |cons c' S=>exact⟨hg,hs (by simp),h⟩
theorem ahn(hxy:x≠y)(h:fz S):fz (pz x y l S):=by
 have hg:∀(aiy I:J<|J B) E,qF (opt x++aiy,opt y++I,E):=λaiy I E=>by
  by_cases hx:x=[]
  ·have e:opt y=[y]:=aE λh=>hxy<|hx.trans h.symm;exact .inr<|D e λe=>nomatch e
  ·have e:opt x=[x]:=aE hx;exact .inl<|D e λe=>nomatch e
 have qA:∀E,qF (opt x,opt y,E):=λE=>by have:=hg [] [] E;simpa using this
 match l,S with
 | [],[]=>exact qA []
 | [],c::S=>exact fz.cons h.tail (hg _ _ _) λhs=>h.same hs
 |a::l,S=>exact fz.cons h (qA _) λH=>by simp
theorem IT:∀s:dY,fz (cks s).2
 | []=>trivial
 |p::r=>by
  refine D (rO _ _) ?_
  split
  ·exact IT r
  ·rename_i h;exact ahn h<|IT r
theorem aho:pz x y l S≠[]:=by
 match l,S with
 | [],[]=>exact xg _ _
 | [],c::S=>exact xg _ _
 |a::l,S=>exact xg _ _
theorem R5:∀{s:dY},(∃p∈s,p.1≠p.2)->(cks s).2≠[]
 | []=>λh=>by obtain⟨p,hp,_⟩:=h;cases hp
 |p::r=>λh=>by
  refine D (rO _ _) ?_
  split
  ·rename_i e;obtain⟨q,hq,cw⟩:=h;rcases cu.mp hq with rfl|hq
   ·exact aZ e cw
   ·exact R5 ⟨q,hq,cw⟩
  ·exact aho
theorem ahp:(pz x y l S).flatMap qD=opt x++(l++S.flatMap qD):=by
 match l,S with
 | [],[]=>exact cM _
 | [],c::S=>exact(bB (· ++S.flatMap qD)<|cm ..).trans<|cm ..
 |a::l,S=>exact cm ..
theorem ahq:(pz x y l S).flatMap qE=opt y++(l++S.flatMap qE):=by
 match l,S with
 | [],[]=>exact cM _
 | [],c::S=>exact(bB (· ++S.flatMap qE)<|cm ..).trans<|cm ..
 |a::l,S=>exact cm ..
noncomputable def qG(s:dY):Prop:=∀p∈s,¬(p.1=[]/\p.2=[])
theorem IU:∀(s:dY),qG s->(cks s).1++(cks s).2.flatMap qD=iO s
 | []=>λH=>rfl
 |p::r=>λh=>by
  have ih:=IU r λq hq=>h q<|.tail _ hq;unfold iO at*;rw[fa,←ih,rO];split
  ·rename_i e;have:opt p.1=[p.1]:=aE λh0=>h p (.head _) ⟨h0,e▸h0⟩;exact D this rfl
  ·exact D ahp rfl
theorem IV:∀(s:dY),qG s->(cks s).1++(cks s).2.flatMap qE=iP s
 | []=>λH=>rfl
 |p::r=>λh=>by
  have ih:=IV r λq hq=>h q<|.tail _ hq;unfold iP at*;rw[fa,←ih,rO];split
  ·rename_i e;have:opt p.2=[p.2]:=aE λh0=>h p (.head _) ⟨e.trans h0,h0⟩;exact D this<|D e rfl
  ·exact D ahq rfl
noncomputable def Dd(q:J<|J B):J (J B)->J Ch->J (J B)
 | [],c::S=>c.1.map (45:: ·)++q++c.2.1.map (43:: ·)++c.2.2.map (32:: ·)++S.flatMap gD
 |l,S=>q++l.map (32:: ·)++S.flatMap gD
theorem De:Dd q [] []=q:=(cM _).trans<|cM _
theorem Df:Dd q [] (c::S)=c.1.map (45:: ·)++q++c.2.1.map (43:: ·)++c.2.2.map (32:: ·)++S.flatMap gD:=rfl
theorem zI{a:J B}:Dd q (a::l) S=q++(a::l).map (32:: ·)++S.flatMap gD:=rfl
theorem ahr:pz x y [] []=[(opt x,opt y,[])]:=rfl
theorem ahs:pz x y [] (c::S)=(opt x++c.1,opt y++c.2.1,c.2.2)::S:=rfl
theorem aht{a:J B}:pz x y (a::l) S=(opt x,opt y,a::l)::S:=rfl
theorem R6:∀(s:dY) (aiA q:J<|J B),(s.foldl iH (aiA,q)).1++(s.foldl iH (aiA,q)).2=aiA++Dd q (cks s).1 (cks s).2
 | []=>λaiA q=>bB (aiA++ ·) De.symm
 |p::r=>λaiA q=>by
  refine D l6 ?_
  have e:iH (aiA,q) p=((iH (aiA,q) p).1,(iH (aiA,q) p).2):=rfl;rw[e,R6 r];refine D (rO _ _) ?_
  unfold iH;split
  ·cases hc:(cks r).1 with
   |nil=>cases hS:(cks r).2<;>simp[De,Df,zI,gD,dz]
   |cons a l=>simp[zI]
  ·have ox:∀x:J B,(if x=[] then aiA else aiA++[45::x])=aiA++(opt x).map (45:: ·):=λx=>by unfold opt;split<;>simp
   have oy:∀y:J B,(if y=[] then q else q++[43::y])=q++(opt y).map (43:: ·):=λy=>by unfold opt;split<;>simp
   dsimp only;refine D (ox _)<|D (oy _) ?_;cases hc:(cks r).1 with
   |nil=>cases hS:(cks r).2<;>simp[De,Df,ahr,ahs,gD,dz]
   |cons a l=>simp[Df,zI,aht,gD,dz]
theorem ahu(s:dY):gk s=(cks s).1.map (32:: ·)++(cks s).2.flatMap gD:=by
 unfold gk rowsOf;rw[R6];cases (cks s).1 with
 |nil=>cases (cks s).2<;>simp[De,Df,zI,gD,dz]
 |cons a l=>simp[zI]
noncomputable abbrev kK:=B×B×B
noncomputable def cp(S:J Ch):J (J B):=S.flatMap qD
noncomputable def allB(S:J Ch):J (J B):=S.flatMap qE
noncomputable def dC(i:B)(c:Ch):B:=i+U c.1+U c.2.2
noncomputable def dS(j:B)(c:Ch):B:=j+U c.2.1+U c.2.2
noncomputable def jf(i j:B)(c:Ch):J kK:=if c.2.2=[] then[] else[(i+U c.1,j+U c.2.1,U c.2.2)]
noncomputable def eW:B->B->J Ch->J kK
 |_,_,[]=>[]
 |i,j,c::S=>jf i j c++eW (dC i c) (dS j c) S
noncomputable def pA(l:J<|J B):J kK:=if l=[] then[] else[(0,0,U l)]
noncomputable def lw(i j:B)(c:Ch):J b8:=h8 i (i+U c.1) j<|j+U c.2.1
noncomputable def lZ(i j:B)(c:Ch):J b8:=k8 (i+U c.1,j+U c.2.1,U c.2.2)
noncomputable def l4:B->B->J Ch->J b8
 |_,_,[]=>[]
 |i,j,c::S=>lw i j c++lZ i j c++l4 (dC i c) (dS j c) S
theorem zJ:eW i j (c::S)=jf i j c++eW (dC i c) (dS j c) S:=rfl
theorem Dg:l4 i j (c::S)=lw i j c++lZ i j c++l4 (dC i c) (dS j c) S:=rfl
theorem vo(c:Ch)(S:J Ch):U (cp<|c::S)=U c.1+U c.2.2+U (cp S):=by
 unfold cp qD;rw[fa,aK,aK]
theorem vp(c:Ch)(S:J Ch):U (allB<|c::S)=U c.2.1+U c.2.2+U (allB S):=by
 unfold allB qE;rw[fa,aK,aK]
theorem zK(h:qF c):0<U c.1\/0<U c.2.1:=by
 rcases h with h|h
 ·exact .inl<|oA.mpr h
 ·exact .inr<|oA.mpr h
theorem R7(i j:B):h8 i i j j=[]:=by unfold h8;simp
theorem IW:∀(S:J Ch) (i j:B) (acc:J b8),fz S->((eW i j S++[(i+U (cp S),j+U (allB S),0)]).foldl rx ((i,j),acc)).2=acc++l4 i j S
 | []=>λi j acc H=>by
  show acc++h8 i (i+0) j (j+0)++[]=acc++[];rw[jy,jy,R7,cM,cM]
 |c::S=>λi j acc h=>by
  rw[vo,vp];refine D zJ<|D Dg ?_;unfold jf
  by_cases hE:c.2.2=[]
  ·have hS:S=[]:=by
    cases S with
    |nil=>rfl
    |cons c' S=>exact aZ hE h.2.1
   subst hS;rw[aU hE];show acc++h8 i _ j _++[]=_;show _=acc++(_++_++[]);unfold lw lZ k8;rw[hE];simp[cp,allB]
  ·rw[aE hE];have R8:U c.2.2≠0:=λe=>hE<|rP e;have ih:=IW S (dC i c) (dS j c) (acc++lw i j c++lZ i j c) h.tail;rw[cm,jS];rw[show i+(U c.1+U c.2.2+U (cp S))=dC i c+U (cp S) by unfold dC;exact vW,show j+(U c.2.1+U c.2.2+U (allB S))=dS j c+U (allB S) by unfold dS;exact vW];rw[show acc++(lw i j c++lZ i j c++l4 (dC i c) (dS j c) S)=acc++lw i j c++lZ i j c++l4 (dC i c) (dS j c) S by simp only[cm]];exact ih
noncomputable def Apart:kK->J kK->Prop
 |_,[]=>gF
 |x,y::l=>¬(x.1+x.2.2=y.1/\x.2.1+x.2.2=y.2.1)/\0<y.2.2/\Apart y l
theorem R9:∀(l:J kK) (x:kK) (acc:J kK),0<x.2.2->Apart x l->my (l.foldl nh (x,acc))=acc++x::l
 | []=>λx acc hx H=>by
  show my (x,acc)=_;unfold my
  (exact D (aE<|by show ¬x.2.2=0;exact kl ‹_›) rfl)
 |y::l=>λx acc hx h=>by
  rw[l6];have e:nh (x,acc) y=(y,acc++[x]):=by
   unfold nh my;rw[aE h.1,aE<|by show ¬x.2.2=0;exact kl ‹_›]
  rw[e,R9 l y _ h.2.1 h.2.2,cm];rfl
theorem ahv:∀(l:J kK),(∀x r,l=x::r->0<x.2.2/\Apart x r)->pc l=l
 | []=>λH=>rfl
 |x::r=>λh=>by
  obtain⟨G,h2⟩:=h x r rfl;unfold pc;refine D l6 ?_
  have e:nh ((0,0,0),[]) x=(x,[]):=by
   unfold nh
   by_cases hx:(0:B)+0=x.1/\(0:B)+0=x.2.1
   ·refine D (aU hx) ?_
    obtain⟨a,b⟩:=hx;obtain⟨x1,x2,x3⟩:=x;dsimp only at*;subst a b;simp
   ·exact D (aE hx) rfl
  exact D e<|D (R9 r x [] G h2) rfl
theorem IX:∀(S:J Ch) (i j:B) (x:kK),fz S->x.1+x.2.2=i->x.2.1+x.2.2=j->Apart x (eW i j S)
 | []=>λH H H H H H=>trivial
 |c::S=>λi j x h hi hj=>by
  refine D zJ ?_
  unfold jf
  by_cases hE:c.2.2=[]
  ·have hS:S=[]:=by
    cases S with
    |nil=>rfl
    |cons c' S=>exact aZ hE h.2.1
   subst hS;refine D (aU hE) ?_;trivial
  ·refine D (aE hE) ?_
   have R8:0<U c.2.2:=oA.mpr hE;refine⟨λq=>?_,R8,IX S _ _ _ h.tail rfl rfl⟩;have:=zK h.gap;obtain⟨a,b⟩:=q;dsimp only at a b;exact T9 this a b hi hj
theorem ahw(h:fz S):pc (pA lead++eW (U lead) (U lead) S)=pA lead++eW (U lead) (U lead) S:=by
 refine ahv _ λx r e=>?_
 unfold pA at e
 by_cases hl:lead=[]
 ·rw[aU hl] at e;cases S with
  |nil=>cases e
  |cons c S=>
   rw[zJ] at e;unfold jf at e
   by_cases hE:c.2.2=[]
   ·have hS:S=[]:=by
     cases S with
     |nil=>rfl
     |cons c' S=>exact aZ hE h.2.1
    subst hS;rw[aU hE] at e;cases e
   ·rw[aE hE] at e;injection e with e1 e2
    subst e1;have e2:_=r:=e2;subst e2;exact⟨oA.mpr hE,IX S _ _ _ h.tail rfl rfl⟩
 ·rw[aE hl] at e;injection e with e1 e2
  subst e1;have e2:_=r:=e2;subst e2;exact⟨oA.mpr hl,IX S _ _ _ h (by simp)<|by simp⟩
theorem IY(h:fz S)(hA:f=lead++cp S)(hB:u=lead++allB S)(hb:dU f u=pA lead++eW (U lead) (U lead) S):
  fH f u=k8 (0,0,U lead)++l4 (U lead) (U lead) S:=by
 unfold fH gn;refine D hb<|D (ahw h) ?_;have e1:U f=U lead+U (cp S):=by rw[hA,aK]
 have e2:U u=U lead+U (allB S):=by rw[hB,aK]
 refine D e1<|D e2 ?_;unfold pA
 by_cases hl:lead=[]
 ·refine D (aU hl) ?_
  subst hl;exact IW S 0 0 [] h
 ·rw[aE hl,cm,jS];show(Ag rx ((0+U lead,0+U lead),[]++h8 0 0 0 0++k8 (0,0,U lead)) _).2=_;rw[R7,iu];exact IW S _ _ _ h
noncomputable def bw(E:J<|J B):J (J B):=E.map (32:: ·)
noncomputable def oq(n:B):Piece->B->B->J Ch->J Piece
 |p,_,_,[]=>[p]
 |p,_,_,[c]=>[(p.1,p.2.1,p.2.2++dz c++bw (c.2.2.take n))]
 |p,i,j,c::c'::S=>if n+n<U c.2.2 then(p.1,p.2.1,p.2.2++dz c++bw (c.2.2.take n))::oq n (dC i c-n,dS j c-n,bw<|c.2.2.drop<|U c.2.2-n) (dC i c) (dS j c) (c'::S)
  else oq n (p.1,p.2.1,p.2.2++dz c++bw c.2.2) (dC i c) (dS j c)<|c'::S
noncomputable def vq(n:B):B->B->J Ch->J b8
 |_,_,[]=>[]
 |i,j,[c]=>lw i j c++(lZ i j c).map (jL n)
 |i,j,c::c'::S=>lw i j c++lZ i j c++vq n (dC i c) (dS j c) (c'::S)
theorem ahx{o p:b8}{l:J b8}:kE n (o::p::l)=o::kE n (p::l):=rfl
theorem ahy:vq n i j [c]=lw i j c++(lZ i j c).map (jL n):=rfl
theorem ahz{c':Ch}:vq n i j (c::c'::S)=lw i j c++lZ i j c++vq n (dC i c) (dS j c) (c'::S):=rfl
theorem ahA:oq n p i j [c]=[(p.1,p.2.1,p.2.2++dz c++bw (c.2.2.take n))]:=rfl
theorem Sb{c':Ch}:oq n p i j (c::c'::S)=if n+n<U c.2.2 then(p.1,p.2.1,p.2.2++dz c++bw (c.2.2.take n))::oq n (dC i c-n,dS j c-n,bw<|c.2.2.drop<|U c.2.2-n) (dC i c) (dS j c) (c'::S)
  else oq n (p.1,p.2.1,p.2.2++dz c++bw c.2.2) (dC i c) (dS j c) (c'::S):=rfl
theorem wX(h:qF c):∃t,t≠0/\lw i j c=[(t,i,i+U c.1,j,j+U c.2.1)]/\(t=1\/t=2/\c.2.1=[]\/t=3/\c.1=[]):=by
 have:=zK h;unfold lw h8
 by_cases G:i<i+U c.1
 ·refine D (aU G) ?_
  by_cases h2:j<j+U c.2.1
  ·exact D (aU h2)<|⟨1,by decide,rfl,.inl rfl⟩
  ·exact D (aE h2)<|⟨2,by decide,rfl,.inr<|.inl ⟨rfl,rP<|by exact L9 h2⟩⟩
 ·exact D (aE G) (D (aU<|by exact Uq this G)<|⟨3,by decide,rfl,.inr<|.inr ⟨rfl,rP<|by exact L9 G⟩⟩)
theorem IZ(h:c.2.2≠[]):lZ i j c=[(0,i+U c.1,dC i c,j+U c.2.1,dS j c)]:=by
 have:U c.2.2≠0:=λe=>h<|rP e;unfold lZ k8 dC dS;exact D (aE this) rfl
theorem Sc(h:c.2.2=[]):lZ i j c=[]:=by
 unfold lZ k8;exact D h rfl
theorem I6{n:B}{Y:J b8}(hY:Y≠[]):∀X:J b8,kE n (X++Y)=X++kE n Y
 | []=>rfl
 |x::X=>by
  refine D jT ?_
  have ih:=I6 (n:=n) hY X;cases h:X++Y with
  |nil=>exact aZ (zX.mp h).2 hY
  |cons a l=>
   rw[h] at ih;rw[ahx,ih,jT]
theorem I7(h:qF c):l4 i j (c::S)≠[]:=by
 refine cP (wX (i:=i) (j:=j) h) λt H e H=>?_
 refine D Dg<|D e ?_;simp
theorem I8{n:B}:∀(S:J Ch) (i j:B),fz S->kE n (l4 i j S)=vq n i j S
 | []=>λH H H=>rfl
 | [c]=>λi j h=>by
  refine cP (wX (i:=i) (j:=j)<|fz.gap h) λt ht e H=>?_
  show kE n (lw i j c++lZ i j c++[])=lw i j c++_;refine D (cM _)<|D e ?_
  by_cases hE:c.2.2=[]
  ·refine D (Sc hE) ?_
   show[if t=0 then _ else _]=_;exact D (aE ht) rfl
  ·exact D (IZ hE) rfl
 |c::c'::S=>λi j h=>by
  rw[Dg,I6<|I7 h.2.2.gap,I8 (c'::S) _ _ h.tail];rfl
theorem ahB(h:fz S)(hS:S≠[])(ho:fH f u=k8 (0,0,U lead)++l4 (U lead) (U lead) S):
  codes f u n=(if lead=[] then[] else[(0,U lead-n,U lead,U lead-n,U lead)])++vq n (U lead) (U lead) S:=by
 cases S with
 |nil=>exact aZ rfl hS
 |cons c S=>
 unfold codes;refine cP (wX (i:=U lead) (j:=U lead)<|fz.gap h) λt ht e H=>?_
 by_cases hl:lead=[]
 ·subst hl;have ho:fH f u=l4 0 0 (c::S):=ho
  (refine D (aE<|by rw[ho];exact I7 h.gap)<|D ho<|D (aU rfl) ?_)
  have e2:ni n (l4 0 0<|c::S)=l4 0 0 (c::S):=by
   refine D Dg<|D (e:lw 0 0 c=_) ?_;show(if t=0 then _ else _)::_=_;exact D (aE ht) rfl
  exact D e2<|I8 _ _ _ h
 ·have kt:U lead≠0:=λe=>hl<|rP e;have e1:k8 (0,0,U lead)=[(0,0,U lead,0,U lead)]:=by
   unfold k8;rw[aE kt,iu]
  replace ho:=e1▸ho
  (refine D (aE<|by rw[ho];simp)<|D ho<|D (aE hl) ?_)
  have e2:ni n ([(0,0,U lead,0,U lead)]++l4 (U lead) (U lead) (c::S))=[(0,U lead-n,U lead,U lead-n,U lead)]++l4 (U lead) (U lead) (c::S):=by
   show(0,max 0<|U lead-n,U lead,max 0<|U lead-n,U lead)::_=_;exact D (B.zero_max _) rfl
  rw[e2,I6<|I7 h.gap,I8 _ _ _ h]
theorem Dh(c:B)(l m:J<|J B):c5 c (l++m)=c5 c l+c5 c m:=by
 unfold c5;rw[xb,aK]
theorem I9{c:B}:∀(l:J<|J B),c5 c (l.map (c:: ·))=0
 | []=>rfl
 |a::l=>by
  have ih:=I9 (c:=c) l;unfold c5 at*;exact D eu (D pG<|D (aE<|by simp) ih)
theorem zL{c d:B}(h:d≠c):∀(l:J<|J B),c5 c (l.map (d:: ·))=U l
 | []=>rfl
 |a::l=>by
  have ih:=zL h l;unfold c5 at*;rw[eu,pG,aU (by simpa using h),cK,ih,cK]
theorem Ja(c:Ch):c5 43 (dz c)=U c.1:=by
 unfold dz;rw[Dh,zL (by decide),I9,jy]
theorem Jb(c:Ch):c5 45 (dz c)=U c.2.1:=by
 unfold dz;rw[Dh,zL (c:=45) (d:=43) (by decide),I9,iu]
theorem pB(E:J<|J B):c5 43 (bw E)=U E:=zL (by decide) E
theorem pC(E:J<|J B):c5 45 (bw E)=U E:=zL (by decide) E
structure GR(f u:J<|J B)(cG:J b8)(p:Piece)(i j:B):Prop where
 rows:cG.flatMap (k9 f u)=p.2.2
 a:p.1+c5 43 p.2.2=i
 b:p.2.1+c5 45 p.2.2=j
 ends:cG≠[]->(cG.headD jw).2.1=p.1/\(cG.headD jw).2.2.2.1=p.2.1/\(cG.getLastD jw).2.2.1=i/\(cG.getLastD jw).2.2.2.2=j
theorem ahC(l:J α)(a d:α):(l++[a]).getLastD d=a:=by
 refine D (J.getLastD_eq_getLast?)<|D (J.getLast?_append) ?_;rfl
section
theorem GR.snoc{cG:J b8}(h:GR f u cG p i j){o:b8}{R:J (J B)}(hi:o.2.1=i)(hj:o.2.2.2.1=j)(hR:k9 f u o=R)(ca:i+c5 43 R=o.2.2.1)(cb:j+c5 45 R=o.2.2.2.2):
  GR f u (cG++[o]) (p.1,p.2.1,p.2.2++R) o.2.2.1 o.2.2.2.2:=by
 refine⟨by refine D kN<|D h.rows ?_;simp[hR],?_,?_,λH=>?_⟩
 ·
  rw[Dh,←iq,h.a,ca]
 ·
  rw[Dh,←iq,h.b,cb]
 ·rw[ahC];cases cG with
  |nil=>
   have h0:p.2.2=[]:=h.rows.symm;have ha:=h.a;have hb:=h.b;rw[h0] at ha hb;exact⟨hi.trans ha.symm,hj.trans hb.symm,rfl,rfl⟩
  |cons x cG=>
   exact gg (h.ends<|by simp) λe1 e2 H H=>(⟨e1,e2,rfl,rfl⟩)
theorem Jc(l:J α)(i aiA v:B):dw l (i+aiA) (i+aiA+v)=((l.drop i).drop aiA).take v:=by
 unfold dw;rw[xi,jx]
variable(hA:f.drop i=cp (c::S))(hB:u.drop j=allB (c::S))
include hA
theorem ahD:dw f i (i+U c.1)=c.1:=by
 have:=Jc f i 0<|U c.1;rw[jy] at this;rw[this,hA,mH];unfold cp qD;rw[fa,cm,JY]
theorem Di(aiA v:B)(h:aiA+v<=U c.2.2):dw f (i+U c.1+aiA) (i+U c.1+aiA+v)=(c.2.2.drop aiA).take v:=by
 rw[iq i,Jc f i (U c.1+aiA) v,hA];unfold cp qD;rw[fa,cm,J.drop_append,JB (by exact dZ _ _),nG,jx,Jv (by exact Up h),w7<|by refine D kO ?_;exact Uo h]
omit hA
include hB
theorem ahE:dw u j (j+U c.2.1)=c.2.1:=by
 have:=Jc u j 0<|U c.2.1;rw[jy] at this;rw[this,hB,mH];unfold allB qE;rw[fa,cm,JY]
include hA
theorem Sd{o:b8}(hg:qF c)(ho:lw i j c=[o]):k9 f u o=dz c/\o.1≠0/\o.2=(i,i+U c.1,j,j+U c.2.1):=by
 refine cP (wX (i:=i) (j:=j) hg) λt ht e hc=>?_
 rw[ho] at e;obtain rfl:o=_:=(tK e).1;refine⟨?_,ht,rfl⟩;unfold k9;refine D (aE ht)<|D (ahD hA)<|D (ahE hB) ?_;unfold dz;rcases hc with rfl|⟨rfl,h⟩|⟨rfl,h⟩
 ·simp
 ·simp[h]
 ·simp[h]
end
inductive nC{α β:Type}(R:α->β->Prop):J α->J β->Prop
 |nil:nC R [] []
 |cons {a:α} {b:β} {l:J α} {m:J β} (h:R a b) (t:nC R l m):nC R (a::l) (b::m)
noncomputable def GP(f u:J<|J B)(N:B)(g:J b8)(p:Piece):Prop:=g≠[]/\U g<=N/\∃i j,i<=U f/\j<=U u/\GR f u g p i j
theorem Dj{f u:J (J B)}{n N:B}:∀(S:J Ch) (i j:B) (cG:J b8) (p:Piece),S≠[]->fz S->i+U (cp S)=U f->j+U (allB S)=U u->f.drop i=cp S->u.drop j=allB S->GR f u cG p i j->U cG+2*U S<=N->
  nC (GP f u N) (jM n cG<|vq n i j S) (oq n p i j S)
 | []=>λH H H H h H H H H H H H=>aZ rfl h
 | [c]=>λi j cG p H h hi hj hA hB hG hN=>by
  refine cP (wX (i:=i) (j:=j)<|fz.gap h) λt ht e H=>eh (Sd hA hB (fz.gap h) e) λl1 l2 l3=>?_
  have G1:=hG.snoc (o:=(t,i,i+U c.1,j,j+U c.2.1)) (R:=dz c) rfl rfl l1 (D (Ja _) rfl)<|D (Jb _) rfl;rw[vo] at hi;rw[vp] at hj;refine D ahy<|D ahA<|D e ?_;have Dk:U cG+2<=N:=hN
  by_cases hE:c.2.2=[]
  ·refine D (Sc hE)<|D hE ?_;show nC _ (jM n cG<|(t,i,i+U c.1,j,j+U c.2.1)::[]) _;refine D uP (D (aE λq=>ht q.1)<|D Pp ?_)
   rw[aE (by
    rintro(q|⟨q1,q2⟩)
    ·simp at q
    ·cases cG with
     |nil=>exact ht q2
     |cons x g=>simp at q1)]
   refine D (by simp[bw]:bw (J.take n [])=[])<|D (cM _) ?_;exact .cons ⟨by simp,by refine D aK ?_;exact lz ‹_›,_,_,by dsimp only;exact L8 hi,by dsimp only;exact L8 hj,G1⟩ .nil
  ·refine D (IZ hE) ?_
   show nC _ (jM n cG<|(t,i,i+U c.1,j,j+U c.2.1)::jL n (0,i+U c.1,dC i c,j+U c.2.1,dS j c)::[]) _;have em:∃k,k=min n (U c.2.2)/\jL n (0,i+U c.1,dC i c,j+U c.2.1,dS j c)=(0,i+U c.1,i+U c.1+k,j+U c.2.1,j+U c.2.1+k):=by
    refine⟨_,rfl,?_⟩;unfold jL dC dS;dsimp only;exact D (by exact L7:min (i+U c.1+U c.2.2) (i+U c.1+n)=i+U c.1+min n (U c.2.2))<|D (by exact L7:min (j+U c.2.1+U c.2.2) (j+U c.2.1+n)=j+U c.2.1+min n (U c.2.2)) rfl
   refine aH em λk hk eb=>?_
   have gm:k<=U c.2.2:=by exact Un hk
   have rB:c.2.2.take n=c.2.2.take k:=by
    rw[hk,JC];exact Um
   have ls:k9 f u (0,i+U c.1,i+U c.1+k,j+U c.2.1,j+U c.2.1+k)=bw (c.2.2.take k):=by
    have:=Di hA 0 k<|Ul gm;rw[jy,mH] at this;show(dw f _ _).map (32:: ·)=_;refine D this ?_;rfl
   have G2:=G1.snoc (o:=(0,i+U c.1,i+U c.1+k,j+U c.2.1,j+U c.2.1+k)) (R:=bw<|c.2.2.take k) rfl rfl ls (by rw[pB,gE,tP gm]) (by rw[pC,gE,tP gm]);refine D eb<|D rB<|D uP ?_;refine D (aE λq=>ht q.1)<|D uP ?_
   rw[aE (by
    intro dM;obtain⟨_,q⟩:=dM;dsimp only at q
    exact Uk q hk)]
   refine D Pp ?_
   rw[aE (by
    rintro(q|⟨q1,q2⟩)
    ·simp at q
    ·simp at q1)]
   exact .cons ⟨by simp,by refine D aK<|D aK ?_;assumption,_,_,by dsimp only;exact L6 hi gm,by dsimp only;exact L6 hj gm,G2⟩ .nil
 |c::c'::S=>λi j cG p H h hi hj hA hB hG hN=>by
  refine cP (wX (i:=i) (j:=j)<|fz.gap h) λt ht e H=>eh (Sd hA hB (fz.gap h) e) λl1 l2 l3=>?_
  have G1:=hG.snoc (o:=(t,i,i+U c.1,j,j+U c.2.1)) (R:=dz c) rfl rfl l1 (by exact D (Ja _) rfl) (by exact D (Jb _) rfl);have hE:=h.2.1;rw[vo] at hi;rw[vp] at hj;have Dk:U cG+2*(U S+2)<=N:=hN;have dA:f.drop (dC i c)=cp (c'::S):=by
   unfold dC;rw[iq,←xi,hA];unfold cp qD;rw[fa,←aK,Af]
  have dB:u.drop (dS j c)=allB (c'::S):=by
   unfold dS;rw[iq,←xi,hB];unfold allB qE;rw[fa,←aK,Af]
  have jv:dC i c+U (cp<|c'::S)=U f:=by unfold dC;exact L5 hi
  have kb:dS j c+U (allB<|c'::S)=U u:=by unfold dS;exact L5 hj
  refine D ahz<|D Sb<|D e<|D (IZ hE) ?_;refine D uP<|D (aE λq=>ht q.1) ?_;refine D uP ?_
  have eA:dC i c=i+U c.1+U c.2.2:=rfl;have eB:dS j c=j+U c.2.1+U c.2.2:=rfl
  by_cases hL:n+n<U c.2.2
  ·(refine D (aU hL)<|D (aU ⟨rfl,by dsimp only;exact Uj hL eA⟩) ?_)
   have ls:k9 f u (0,i+U c.1,i+U c.1+n,j+U c.2.1,j+U c.2.1+n)=bw (c.2.2.take n):=by
    have:=Di hA 0 n<|Ui hL;rw[jy,mH] at this;show(dw f _ _).map (32:: ·)=_;exact D this rfl
   have G2:=G1.snoc (o:=(0,i+U c.1,i+U c.1+n,j+U c.2.1,j+U c.2.1+n)) (R:=bw<|c.2.2.take n) rfl rfl ls (by rw[pB,gE,tP<|L4 hL]) (by rw[pC,gE,tP<|L4 hL]);have eb:jL n (0,i+U c.1,dC i c,j+U c.2.1,dS j c)=(0,i+U c.1,i+U c.1+n,j+U c.2.1,j+U c.2.1+n):=by
    unfold jL;exact D (by exact L3 hL eA:min (dC i c) (i+U c.1+n)=i+U c.1+n)<|D (by exact L3 hL eB:min (dS j c) (j+U c.2.1+n)=j+U c.2.1+n) rfl
   have ef:mz n (0,i+U c.1,dC i c,j+U c.2.1,dS j c)=(0,dC i c-n,dC i c,dS j c-n,dS j c):=by
    unfold mz;exact D (by exact L2 hL eA:max (i+U c.1) (dC i c-n)=dC i c-n)<|D (by exact L2 hL eB:max (j+U c.2.1) (dS j c-n)=dS j c-n) rfl
   refine D eb<|D ef ?_;have lf:k9 f u (0,dC i c-n,dC i c,dS j c-n,dS j c)=bw (c.2.2.drop<|U c.2.2-n):=by
    have:=Di hA (U c.2.2-n) n<|Uh hL;rw[show i+U c.1+(U c.2.2-n)+n=dC i c by exact Ug hL eA,show i+U c.1+(U c.2.2-n)=dC i c-n by exact Uf hL eA,qL<|by refine D kO ?_;exact Ue] at this;show(dw f _ _).map (32:: ·)=_;exact D this rfl
   have hl:U (bw<|c.2.2.drop<|U c.2.2-n)=n:=by unfold bw;exact D (bg _)<|D kO<|L1 hL
   refine .cons ⟨by simp,by refine D aK<|D aK ?_;exact Ud Dk,_,_,by dsimp only;exact L0 hL jv eA,by dsimp only;exact L0 hL kb eB,G2⟩ (Dj (c'::S) _ _ _ _ (by simp) h.tail jv kb dA dB ⟨?_,?_,?_,λH=>⟨rfl,rfl,rfl,rfl⟩⟩<|by show 1+2*(U S+1)<=_;exact Uc Dk)
   ·show k9 f u _++[]=_;exact D (cM _) lf
   ·
    exact D (pB _)<|D kO<|LZ hL eA
   ·
    exact D (pC _)<|D kO<|LZ hL eB
  ·(refine D (aE hL)<|D (aE λq=>hL (by have:=q.2;dsimp only at this;exact Ub this eA)) ?_)
   have ls:k9 f u (0,i+U c.1,dC i c,j+U c.2.1,dS j c)=bw c.2.2:=by
    have:=Di hA 0 (U c.2.2) LY;rw[jy,mH,pI] at this;show(dw f _ _).map (32:: ·)=_;exact D eA<|D this rfl
   have G2:=G1.snoc (o:=(0,i+U c.1,dC i c,j+U c.2.1,dS j c)) (R:=bw c.2.2) rfl rfl ls (by refine D (pB _) ?_;rfl) (by refine D (pC _) ?_;rfl);exact Dj (c'::S) _ _ _ _ (by simp) h.tail jv kb dA dB G2 (by exact D aK<|D aK<|Ua Dk)
noncomputable def pD(rows:J<|J B)(m:B):Prop:=m<U rows/\(rows.getD m []).headD 0≠32
theorem Se(l:J α)(i j t:B):(dw l i j)[t]?=if t<j-i then l[i+t]? else none:=by
 unfold dw;simp only[JP];split
 ·simp only[z9]
 ·rfl
theorem tC:jb rows n k=true↔∃m,k-n<=m/\m<=k+n/\pD rows m:=by
 unfold jb pD;simp only[DU];constructor
 ·intro dM;refine aH dM λr hr hd=>?_
  obtain⟨t,ht⟩:=J.getElem?_of_mem hr
  rw[Se] at ht;split at ht
  ·rename_i bJ;have hl:=(cJ.mp ht).1;refine⟨k-n+t,by exact dZ _ _,by exact UP bJ,hl,?_⟩;refine D (c6)<|D ht ?_;exact dq hd
  ·exact nomatch ht
 ·intro hU;refine ug hU λm G h2 h3 h4=>⟨rows.getD m [],(dT (i:=m-(k-n)) ?_),dG h4⟩
  rw[Se,aU<|UO h2,show k-n+(m-(k-n))=m by exact xq ‹_›,c6,bO h3];rfl
noncomputable def RS(s:rz)(ps:J Piece)(p:Piece)(i j:B):Prop:=(s=(ps,i,j,false)/\p=(i,j,[]))\/s=(ps++[p],i,j,true)
theorem cnt_cons(c:B)(r:J B)(R:J<|J B):c5 c (r::R)=(if r.headD 0=c then 0 else 1)+c5 c R:=by
 unfold c5;simp only[pG]
 by_cases h:r.headD 0=c
 ·rw[aE (by simpa using h),aU h,iu]
 ·rw[aU (by simpa using h),aE h,cK,tR]
theorem vu:∀(R:J<|J B) (k:B) (s:rz) (ps:J Piece) (p:Piece) (i j:B),RS s ps p i j->(∀t,t<U R->rows[k+t]?=R[t]?)->(∀t,t<U R->jb rows n (k+t)=true)->
  RS ((fk k<|U R).foldl (gc rows n) s) ps (p.1,p.2.1,p.2.2++R) (i+c5 43 R) (j+c5 45 R)
 | []=>λk s ps p i j h H H=>by
  simp only[cM];exact h
 |r::R=>λk s ps p i j h hr hn=>by
  simp only[cK,JU,l6];have h0:=hr 0 (by simp);have n0:=hn 0 (by simp);simp only[jy] at h0 n0;have hg:rows.getD k []=r:=by simp only[c6,h0];rfl
  have step:gc rows n s k=(ps++[(p.1,p.2.1,p.2.2++[r])],(if r.headD 0=43 then i else i+1),(if r.headD 0=45 then j else j+1),true):=by
   unfold gc;refine D hg<|D n0<|D (aU rfl) ?_;rcases h with ⟨rfl,rfl⟩|rfl
   ·dsimp only;simp only[aE dy,yH]
   ·dsimp only;rw[aU rfl,yH]
  have ih:=vu R (k+1) (gc rows n s k) ps (p.1,p.2.1,p.2.2++[r]) _ _ (.inr step) (λt ht=>by have:=hr (t+1) (by simpa using ht);rw[vz] at this;rw[←this];congr 1;exact nK _ _ _) (λt ht=>by have:=hn (t+1) (by simpa using ht);rw[←this];congr 1;exact nK _ _ _);simp only[cnt_cons,cnt_cons];have e:p.2.2++r::R=p.2.2++[r]++R:=by simp
  simp only[e];have e1:i+((if r.headD 0=43 then 0 else 1)+c5 43 R)=(if r.headD 0=43 then i else i+1)+c5 43 R:=by split<;>exact(iq _ _ _).symm
  have e2:j+((if r.headD 0=45 then 0 else 1)+c5 45 R)=(if r.headD 0=45 then j else j+1)+c5 45 R:=by split<;>exact(iq _ _ _).symm
  simp only[e1,e2];exact ih
theorem Dl:∀(R:J<|J B) (k:B) (s:rz),(∀t,t<U R->rows[k+t]?=R[t]?)->(∀t,t<U R->jb rows n (k+t)=false)->
  (fk k<|U R).foldl (gc rows n) s=(s.1,s.2.1+c5 43 R,s.2.2.1+c5 45 R,if R=[] then s.2.2.2 else false)
 | []=>λk s H H=>rfl
 |r::R=>λk s hr hn=>by
  simp only[cK,JU,l6];have h0:=hr 0 (by simp);have n0:=hn 0 (by simp);simp only[jy] at h0 n0;have hg:rows.getD k []=r:=by simp only[c6,h0];rfl
  (simp only[Dl R (k+1) (gc rows n s k) (λt ht=>by have:=hr (t+1) (by simpa using ht);rw[vz] at this;rw[←this];congr 1;exact nK _ _ _) (λt ht=>by have:=hn (t+1) (by simpa using ht);rw[←this];congr 1;exact nK _ _ _)])
  simp only[cnt_cons,cnt_cons,aE (by simp:¬(r::R=[]))];unfold gc;refine D hg<|D n0 ?_;dsimp only;simp only[aE dy];have e1:s.2.1+((if r.headD 0=43 then 0 else 1)+c5 43 R)=(if r.headD 0=43 then s.2.1 else s.2.1+1)+c5 43 R:=by split<;>exact(iq _ _ _).symm
  have e2:s.2.2.1+((if r.headD 0=45 then 0 else 1)+c5 45 R)=(if r.headD 0=45 then s.2.2.1 else s.2.2.1+1)+c5 45 R:=by split<;>exact(iq _ _ _).symm
  have e3:(if R=[] then false else false)=false:=by split<;>rfl
  simp only[e1,e2,e3]
theorem dl(E:J<|J B):U (bw E)=U E:=bg ..
theorem Dm(E F:J<|J B):bw (E++F)=bw E++bw F:=eL
theorem vv{X Y Z:J α}{t:B}(h:t<U Y):(X++(Y++Z))[U X+t]?=Y[t]?:=by
 rw[dc<|dZ _ _,jx,cA h]
theorem Jd(hr:rows=X++(bw E++Z)){m:B}(G:U X<=m)(h2:m<U X+U E):¬pD rows m:=by
 intro nv;obtain⟨_,h⟩:=nv;obtain⟨t,rfl⟩:=Kf G;have ht:t<U E:=by exact UN h2
 refine h ?_
 (refine D (c6)<|D hr<|D (vv<|by rw[dl];exact ht) ?_)
 refine D (c7)<|D (bO ht) ?_;rfl
theorem ahF(hr:rows=X++(bw E++Y))(hX:∃m,m<U X/\U X<=m+1/\pD rows m)(hY:pD rows<|U X+U E):
  if n+n<U E then RS ((fk (U X)<|U E).foldl (gc rows n) (ps++[p],i,j,true)) (ps++[(p.1,p.2.1,p.2.2++bw (E.take n))]) (i+U E-n,j+U E-n,bw<|E.drop<|U E-n) (i+U E)<|j+U E
  else RS ((fk (U X)<|U E).foldl (gc rows n) (ps++[p],i,j,true)) ps (p.1,p.2.1,p.2.2++bw E) (i+U E) (j+U E):=by
 refine cP hX λm gJ lW hm=>?_
 have Dn:∀t,t<n->jb rows n (U X+t)=true:=λt ht=>tC.mpr ⟨m,by exact Mf ht lW,by exact Me gJ,hm⟩;have Do:∀t,U E<=t+n->t<U E->jb rows n (U X+t)=true:=λt ht bJ=>tC.mpr ⟨U X+U E,by exact UM bJ,by exact UL ht,hY⟩;have zM:∀t,n<=t->t+n<U E->jb rows n (U X+t)=false:=λt G h2=>by
  cases hq:jb rows n (U X+t) with
  |false=>rfl
  |true=>
   exact cP (tC.mp hq) λm' a b hc=>(aZ hc<|Jd hr (by exact Mc a G)<|by exact UK h2 b)
 have hE:∀t,t<U (bw E)->rows[U X+t]?=(bw E)[t]?:=λt ht=>by rw[hr,vv ht]
 by_cases hL:n+n<U E
 ·refine D (aU hL) ?_
  have e1:E.take n++(E.drop n).take (U E-(n+n))++E.drop (U E-n)=E:=by
   have a:=rR n E;have b:=rR (U E-(n+n))<|E.drop n;rw[xi,show n+(U E-(n+n))=U E-n by exact UJ hL] at b;simp only[cm,b,a]
  have l1:U (E.take n)=n:=by exact D gE<|UI hL
  have l2:U ((E.drop n).take<|U E-(n+n))=U E-(n+n):=by simp only[gE,kO];exact UH
  have l3:U (E.drop<|U E-n)=n:=by exact D kO<|L1 hL
  generalize Je:E.take n=F1 at*;generalize Sg:(E.drop n).take (U E-(n+n))=F2 at*;generalize hF3:E.drop (U E-n)=F3 at*;have e2:U E=n+(U F2+n):=by exact D l2<|UG hL
  have hF:∀t,t<U (bw E)->rows[U X+t]?=(bw<|F1++F2++F3)[t]?:=λt ht=>by exact D e1<|hE t ht
  rw[Dm,Dm] at hF;have r1:∀t,t<U (bw F1)->rows[U X+t]?=(bw F1)[t]?:=λt ht=>by
   rw[dl] at ht
   (simp only[hF t (by refine D (dl _) ?_;exact UF ht e2 l1),cm,cA<|by rw[dl];exact ht])
  have r2:∀t,t<U (bw F2)->rows[U X+n+t]?=(bw F2)[t]?:=λt ht=>by
   rw[dl] at ht;rw[iq,hF (n+t) (by rw[dl];exact UE ht e2),cm,←l1,←dl F1,vv<|by rw[dl];exact ht]
  have r3:∀t,t<U (bw F3)->rows[U X+n+U F2+t]?=(bw F3)[t]?:=λt ht=>by
   rw[dl] at ht;rw[show U X+n+U F2+t=U X+(n+U F2+t) by exact Mj,hF _ (by rw[dl];exact Mi ht e2 l3),show n+U F2+t=U (bw F1++bw F2)+t by rw[aK,dl,dl,l1],dc<|dZ _ _,jx]
  simp only[e2,←tJ,←tJ,jS,jS];have S1:=vu (n:=n) (bw F1) (U X) (ps++[p],i,j,true) ps p i j (.inr rfl) r1 (λt ht=>Dn t<|by rw[dl] at ht;exact mP ht l1);rw[dl,l1,pB,pC,l1] at S1;have zN:(fk (U X) n).foldl (gc rows n) (ps++[p],i,j,true)=(ps++[(p.1,p.2.1,p.2.2++bw F1)],i+n,j+n,true):=by
   rcases S1 with ⟨a,b⟩|a
   ·have hz:p.2.2++bw F1=[]:=bB (·.2.2) b;obtain⟨G,h2⟩:=zX.mp hz;have n0:n=0:=by refine bL l1<|bL (dl _)<|D h2 ?_;rfl
    subst n0;simp only[h2,cM];rfl
   ·exact a
  simp only[zN];have S2:=Dl (n:=n) (bw F2) (U X+n) (ps++[(p.1,p.2.1,p.2.2++bw F1)],i+n,j+n,true) r2 (λt ht=>by rw[dl] at ht;rw[iq];exact zM _ (dZ _ _)<|UD ht e2);have cw:¬bw F2=[]:=λq=>by have h0:U (bw F2)=0:=(by refine D q ?_;rfl);rw[dl] at h0;exact UC hL e2 h0
  rw[dl,pB,pC,aE cw] at S2;refine D S2 ?_
  have S3:=vu (n:=n) (bw F3) (U X+n+U F2) (ps++[(p.1,p.2.1,p.2.2++bw F1)],i+n+U F2,j+n+U F2,false) (ps++[(p.1,p.2.1,p.2.2++bw F1)]) (i+n+U F2,j+n+U F2,[]) _ _ (.inl ⟨rfl,rfl⟩) r3 (λt ht=>by
   rw[dl] at ht
   exact D (show U X+n+U F2+t=U X+(n+U F2+t) by exact Mj) (Do _ (by exact UB e2) (by exact Mi ht e2 l3)))
  rw[dl,l3,pB,pC,l3,nG] at S3;exact D (show i+(n+(U F2+n))-n=i+n+U F2 by exact Mh) (D (show j+(n+(U F2+n))-n=j+n+U F2 by exact Mh)<|D (show i+(n+(U F2+n))=i+n+U F2+n by exact Mg)<|D (show j+(n+(U F2+n))=j+n+U F2+n by exact Mg) S3)
 ·refine D (aE hL) ?_
  have S1:=vu (n:=n) (bw E) (U X) (ps++[p],i,j,true) ps p i j (.inr rfl) hE (λt ht=>by
   rw[dl] at ht
   by_cases h:t<n
   ·exact Dn t h
   ·exact Do t (UA hL h) ht)
  rw[dl,pB,pC] at S1;exact S1
theorem ahG(hr:rows=X++(bw E++[]))(hX:∃m,m<U X/\U X<=m+1/\pD rows m):
  ((fk (U X)<|U E).foldl (gc rows n) (ps++[p],i,j,true)).1=ps++[(p.1,p.2.1,p.2.2++bw (E.take n))]:=by
 refine cP hX λm gJ lW hm=>?_
 have Dn:∀t,t<n->jb rows n (U X+t)=true:=λt ht=>tC.mpr ⟨m,by exact Mf ht lW,by exact Me gJ,hm⟩;have zM:∀t,n<=t->jb rows n (U X+t)=false:=λt G=>by
  cases hq:jb rows n (U X+t) with
  |false=>rfl
  |true=>
   refine cP (tC.mp hq) λm' a b hc=>?_
   have hl:=hc.1;rw[hr,cM,aK,dl] at hl;exact aZ hc<|Jd hr (Mc a G) ‹_›
 have hE:∀t,t<U (bw E)->rows[U X+t]?=(bw E)[t]?:=λt ht=>by rw[hr,vv ht]
 have e1:=rR n E;have e2:U E=U (E.take n)+U (E.drop n):=by simp only[←aK,e1]
 have l1:U (E.take n)<=n:=by exact D gE Uz
 have l2:U (E.drop n)=U E-n:=kO;generalize Je:E.take n=F1 at*;generalize Sg:E.drop n=F2 at*;have hF:∀t,t<U (bw E)->rows[U X+t]?=(bw F1++bw F2)[t]?:=λt ht=>by simp only[←Dm,e1];exact hE t ht
 have r1:∀t,t<U (bw F1)->rows[U X+t]?=(bw F1)[t]?:=λt ht=>by
  rw[dl] at ht;rw[hF t (by rw[dl];exact Mb ht e2),cA<|by rw[dl];exact ht]
 have r2:∀t,t<U (bw F2)->rows[U X+U F1+t]?=(bw F2)[t]?:=λt ht=>by
  rw[dl] at ht;rw[iq,hF _ (by rw[dl];exact Fe ht e2),show U F1+t=U (bw F1)+t by rw[dl],dc<|dZ _ _,jx]
 simp only[e2,←tJ,jS];have S1:=vu (n:=n) (bw F1) (U X) (ps++[p],i,j,true) ps p i j (.inr rfl) r1 (λt ht=>Dn t<|by rw[dl] at ht;exact oC ‹_› ‹_›);rw[dl] at S1;have zN:((fk (U X)<|U F1).foldl (gc rows n) (ps++[p],i,j,true)).1=ps++[(p.1,p.2.1,p.2.2++bw F1)]:=by
  rcases S1 with ⟨a,b⟩|a
  ·have hz:p.2.2++bw F1=[]:=bB (·.2.2) b;obtain⟨G,h2⟩:=zX.mp hz;have n0:U F1=0:=by exact bL (dl _) (D h2 rfl)
   simp only[n0,h2,cM];rfl
  ·simp only[a]
 have S2:=Dl (n:=n) (bw F2) (U X+U F1) ((fk (U X) (U F1)).foldl (gc rows n) (ps++[p],i,j,true)) r2 (λt ht=>by
  rw[dl] at ht
  rw[iq];exact zM _ (Uy ht (show U F1=min n (U E) by simp only[←Je,gE]) e2))
 rw[dl] at S2;rw[S2];exact zN
theorem ahH(hr:rows=[]++(bw E++Y))(hY:pD rows<|U E):
  RS ((fk 0<|U E).foldl (gc rows n) ([],0,0,false)) [] (U E-n,U E-n,bw<|E.drop<|U E-n) (U E) (U E):=by
 have Do:∀t,U E<=t+n->t<U E->jb rows n t=true:=λt ht bJ=>tC.mpr ⟨U E,by exact Ux bJ,by assumption,hY⟩;have zM:∀t,t+n<U E->jb rows n t=false:=λt h2=>by
  cases hq:jb rows n t with
  |false=>rfl
  |true=>
   refine cP (tC.mp hq) λm' a b hc=>?_
   exact aZ hc (Jd hr (bH _)<|by show m'<0+_;exact Uw h2 b)
 have hE:∀t,t<U (bw E)->rows[t]?=(bw E)[t]?:=λt ht=>by have:=vv (X:=([]:J<|J B)) (Y:=bw E) (Z:=Y) ht;rw[←hr] at this;refine bL this ?_;simp
 have e1:=rR (U E-n) E;have e2:U E=U (E.take<|U E-n)+U (E.drop<|U E-n):=by simp only[←aK,e1]
 have l1:U (E.take<|U E-n)=U E-n:=by exact D gE Uv
 generalize Je:E.take (U E-n)=F1 at*;generalize Sg:E.drop (U E-n)=F2 at*;have hF:∀t,t<U (bw E)->rows[t]?=(bw F1++bw F2)[t]?:=λt ht=>by simp only[←Dm,e1];exact hE t ht
 have r1:∀t,t<U (bw F1)->rows[0+t]?=(bw F1)[t]?:=λt ht=>by
  rw[dl] at ht
  (simp only[iu,hF t (by refine D (dl _) ?_;exact Mb ht e2),cA<|by rw[dl];exact ht])
 have r2:∀t,t<U (bw F2)->rows[0+U F1+t]?=(bw F2)[t]?:=λt ht=>by
  rw[dl] at ht;rw[iu,hF _ (by rw[dl];exact Fe ht e2),show U F1+t=U (bw F1)+t by rw[dl],dc<|dZ _ _,jx]
 have S1:=Dl (n:=n) (bw F1) 0 ([],0,0,false) r1 (λt ht=>by rw[dl] at ht;rw[iu];exact zM _<|Uu ht l1);rw[dl,pB,pC] at S1;have hif:(if bw F1=[] then false else false)=false:=by split<;>rfl
 dsimp only at S1;simp only[hif,iu] at S1
 have S2:=vu (n:=n) (bw F2) (0+U F1) ([],U F1,U F1,false) [] (U F1,U F1,[]) _ _ (.inl ⟨rfl,rfl⟩) r2 (λt ht=>by
  rw[dl] at ht
  exact D (iu _) (Do _ (by exact Ut l1) (by exact Fe ht e2)))
 rw[dl,pB,pC,nG] at S2;have e3:fk 0 (U E)=fk 0 (U F1)++fk (0+U F1) (U F2):=by simp only[tJ,←e2]
 simp only[e3,jS,S1,←l1];rw[←e2] at S2;exact S2
theorem Jf(c:Ch):U (dz c)=U c.1+U c.2.1:=by unfold dz;simp only[aK,bg,bg]
theorem ahI(c:Ch){r:J B}(h:r∈dz c):r.headD 0≠32:=by
 rcases bK.mp h with h|h
 ·refine aH (fb.mp h) λx H av=>?_
  subst av;exact λq=>by exact nomatch q
 ·refine aH (fb.mp h) λx H av=>?_
  subst av;exact λq=>by exact nomatch q
theorem Dp(hr:rows=X++(dz c++Y)){t:B}(ht:t<U (dz c)):pD rows (U X+t):=by
 have G:rows[U X+t]?=some (dz c)[t]:=by simp only[hr,vv ht,bO ht]
 refine⟨(cJ.mp G).1,?_⟩;refine D (c6)<|D G ?_;exact ahI c<|nF _
theorem Jg:∀(S:J Ch) (X:J<|J B) (s:rz) (ps:J Piece) (p:Piece) (i j:B),S≠[]->fz S->rows=X++S.flatMap gD->RS s ps p i j->
  ((fk (U X)<|U<|S.flatMap gD).foldl (gc rows n) s).1=ps++oq n p i j S
 | []=>λH H H H H H h H H H=>aZ rfl h
 |c::S=>λX s ps p i j H h hr hs=>by
  have hg:=zK h.gap;have kf:=Jf c;have qj:rows=X++(dz c++(bw c.2.2++S.flatMap gD)):=by
   simp only[hr,fa];unfold gD;simp only[cm];rfl
  have S1:=vu (n:=n) (dz c) (U X) s ps p i j hs (λt ht=>by rw[qj,vv ht]) λt ht=>tC.mpr ⟨_,by exact Eb _ _,by exact dZ _ _,Dp qj ht⟩;rw[Ja,Jb] at S1;have zN:(fk (U X)<|U<|dz c).foldl (gc rows n) s=(ps++[(p.1,p.2.1,p.2.2++dz c)],i+U c.1,j+U c.2.1,true):=by
   rcases S1 with ⟨a,b⟩|a
   ·have hz:p.2.2++dz c=[]:=bB (·.2.2) b;obtain⟨G,h2⟩:=zX.mp hz;simp only[h2] at kf;have h0:U ([]:J<|J B)=0:=rfl;exact(Us hg kf h0).elim
   ·exact a
  have hlen:U ((c::S).flatMap gD)=U (dz c)+(U c.2.2+U (S.flatMap gD)):=by
   simp only[fa];unfold gD;simp only[aK,aK,bg,iq]
  have uS:rows=(X++dz c)++(bw c.2.2++S.flatMap gD):=by simp only[qj,cm]
  have Sh:∃m,m<U (X++dz c)/\U (X++dz c)<=m+1/\pD rows m:=by
   refine⟨U X+(U (dz c)-1),?_,?_,Dp qj<|Ur hg kf⟩<;>rw[aK]<;>lia
  have hXl:U (X++dz c)=U X+U (dz c):=aK;simp only[hlen,←tJ,jS,zN,←tJ,jS,←hXl];cases S with
  |nil=>
   simp only[show U (([]:J Ch).flatMap gD)=0 from rfl];show((fk (U<|X++dz c)<|U c.2.2).foldl (gc rows n) _).1=_;refine D (ahG uS Sh) ?_
   rfl
  |cons c' S=>
   have hY:pD rows (U (X++dz c)+U c.2.2):=by
    have hg':=zK h.tail.gap;have ahJ:=Jf c';have e:rows=(X++dz c++bw c.2.2)++(dz c'++(bw c'.2.2++S.flatMap gD)):=by
     simp only[uS,fa];unfold gD;simp[bw]
    have:=Dp e (t:=0)<|Ma hg' ahJ;rw[jy,aK,dl] at this;exact this
   have hm:=ahF (n:=n) uS Sh hY (ps:=ps) (p:=(p.1,p.2.1,p.2.2++dz c)) (i:=i+U c.1) (j:=j+U c.2.1);have Si:rows=(X++dz c++bw c.2.2)++(c'::S).flatMap gD:=by simp only[uS];simp only[cm]
   have pe:U (X++dz c++bw c.2.2)=U (X++dz c)+U c.2.2:=by rw[aK,dl]
   dsimp only[oq]
   by_cases hL:n+n<U c.2.2
   ·rw[aU hL] at hm ⊢;have ih:=Jg (c'::S) _ _ _ _ _ _ nofun h.tail Si hm;rw[pe] at ih;rw[ih,cm];rfl
   ·rw[aE hL] at hm ⊢;have ih:=Jg (c'::S) _ _ _ _ _ _ nofun h.tail Si hm;rw[pe] at ih;exact D ih rfl
theorem nC.lines{N:B}{gs:J (J b8)}(aiz:nC (GP f u N) gs ps):gs.flatMap (ry f u e)=ps.flatMap (lR e):=by
 induction aiz with
 |nil=>rfl
 |@cons g p _ _ h t ih=>
  simp only[fa,fa,ih];congr 1;refine ui h λcw H i j H H aiB=>gg (aiB.ends cw) λe1 e2 e3 e4=>?_
  have ha:=aiB.a;have hb:=aiB.b;unfold ry lR Cc;simp only[aiB.rows,e1,e2,e3,e4];simp only[show((i:az)-(p.1:az))=((c5 43 p.2.2:B):az) by lia,show((j:az)-(p.2.1:az))=((c5 45 p.2.2:B):az) by lia]
theorem nC.good{N:B}(hN:N<=1000)(ha:U f<10 ^ 9)(hb:U u<10 ^ 9){gs:J (J b8)}(aiz:nC (GP f u N) gs ps):∀g∈gs,GoodG g:=by
 induction aiz with
 |nil=>exact λg hg=>nomatch hg
 |@cons g0 p _ _ h t ih=>
  intro g hg;rcases cu.mp hg with rfl|hg
  ·refine ui h λcw hl i j hi hj aiB=>gg (aiB.ends cw) λe1 e2 e3 e4=>?_
   have a1:=aiB.a;have b1:=aiB.b;exact⟨cw,by exact cY ‹_› ‹_›,by simp only[e1,e3];exact ul a1,by refine D e3 ?_;exact xr ‹_› ‹_›,by simp only[e2,e4];exact ul b1,by refine D e4 ?_;exact xr ‹_› ‹_›⟩
  ·exact ih g hg
theorem nC.ne{β:Type}{R:α->β->Prop}{l:J α}{m:J β}(h:nC R l m)(hm:m≠[]):l≠[]:=by
 cases h with
 |nil=>exact aZ rfl hm
 |cons h t=>simp
theorem Sj{n:B}:∀(S:J Ch) (p:Piece) (i j:B),oq n p i j S≠[]
 | []=>λp i j=>xg _ _
 | [c]=>λp i j=>xg _ _
 |c::c'::S=>λp i j=>by
  refine D Sb ?_
  split
  ·simp
  ·exact Sj (c'::S) _ _ _
theorem ahK(h:fz S)(hS:S≠[])(hA:f=lead++cp S)(hB:u=lead++allB S)(hb:dU f u=pA lead++eW (U lead) (U lead) S):
  nC (GP f u<|1+2*U S) (groups f u n) (oq n (U lead-n,U lead-n,bw<|lead.drop<|U lead-n) (U lead) (U lead) S):=by
 unfold groups;simp only[ahB h hS<|IY h hA hB hb];have e1:U lead+U (cp S)=U f:=by simp only[hA,aK]
 have e2:U lead+U (allB S)=U u:=by simp only[hB,aK]
 have d1:f.drop (U lead)=cp S:=by simp only[hA,Af]
 have d2:u.drop (U lead)=allB S:=by simp only[hB,Af]
 by_cases hl:lead=[]
 ·refine D (aU hl) ?_
  refine Dj S _ _ [] _ hS h e1 e2 d1 d2 ⟨?_,?_,?_,λq=>aZ rfl q⟩ (by show 0+_<=_;exact UU)<;>subst hl<;>simp[bw,c5]
 ·refine D (aE hl)<|D uP ?_;have kt:0<U lead:=oA.mpr hl
  (refine D (aE (λq=>by have:=q.2;dsimp only at this;exact UT this)) ?_)
  have hd:U (lead.drop<|U lead-n)=U lead-(U lead-n):=kO;refine Dj S _ _ _ _ hS h e1 e2 d1 d2 ⟨?_,?_,?_,λH=>⟨rfl,rfl,rfl,rfl⟩⟩ (by show 1+_<=_;exact aG _)
  ·show k9 f u _++[]=_;refine D (cM _) ?_
   show(dw f (U lead-n)<|U lead).map (32:: ·)=_;unfold bw dw;rw[hA,Jv<|Eb _ _,w7<|US hd,qL<|UR hd]
  ·
   simp only[pB,hd];exact Mk
  ·
   simp only[pC,hd];exact Mk
theorem ahL(h:fz S)(hS:S≠[])(hr:rows=bw lead++S.flatMap gD):
  (lg rows n<|eD<|U rows).1=oq n (U lead-n,U lead-n,bw<|lead.drop<|U lead-n) (U lead) (U lead) S:=by
 unfold lg;have hl:U rows=U lead+U (S.flatMap gD):=by simp only[hr,aK,dl]
 simp only[JD,hl,←tJ,jS,iu];cases S with
 |nil=>exact aZ rfl hS
 |cons c S=>
 have hY:pD rows (U lead):=by
  have hg:=zK h.gap;have kf:=Jf c;have e:rows=bw lead++(dz c++(bw c.2.2++S.flatMap gD)):=by
   simp only[hr,fa];unfold gD;simp only[cm];rfl
  have:=Dp e (t:=0)<|Ma hg kf;rw[jy,dl] at this;exact this
 have:=Jg (n:=n) (rows:=rows) (c::S) (bw lead) _ _ _ _ _ hS h hr<|ahH (n:=n) (rows:=rows) (E:=lead) (Y:=(c::S).flatMap gD) hr hY;rw[dl,nG] at this;exact this
theorem ahM(h:fz S)(hS:S≠[])(hA:f=lead++cp S)(hB:u=lead++allB S)(hb:dU f u=pA lead++eW (U lead) (U lead) S)(hr:rows=bw lead++S.flatMap gD)
  (e1:G=[45,45,45,32]++f1++(if d1=[] then[] else 9::d1)) (e2:h2=[43,43,43,32]++f2++(if d2=[] then[] else 9::d2)) (hz:U S<=400) (ha:U f<10 ^ 9) (wY:U u<10 ^ 9):
  fx f u n f1 f2 d1 d2 e=report rows n G h2 e/\∀g∈groups f u n,GoodG g:=by
 have aiB:=ahK (n:=n) h hS hA hB hb;refine⟨?_,aiB.good (UQ hz) ha wY⟩;unfold fx report;simp only[aE<|aiB.ne<|Sj _ _ _ _,aiB.lines,ahL (n:=n) h hS hr,e1,e2];rfl
theorem ahN{steps:dY}(h0:qG steps)(hc:∃p∈steps,p.1≠p.2)(hA:f=iO steps)(hB:u=iP steps)(hb:dU f u=pA (cks steps).1++eW (cks steps).1.length (cks steps).1.length (cks steps).2)
  (e1:G=[45,45,45,32]++f1++(if d1=[] then[] else 9::d1)) (e2:h2=[43,43,43,32]++f2++(if d2=[] then[] else 9::d2)) (hz:U steps<=400) (ha:U f<10 ^ 9) (wY:U u<10 ^ 9):
  fx f u n f1 f2 d1 d2 e=report (gk steps) n G h2 e/\∀g∈groups f u n,GoodG g:=by
 have hl:(cks steps).2.length<=U steps:=by
  have hg:∀(x y:J B) l (S:J Ch),U (pz x y l S)<=U S+1:=λx y l S=>by
   match l,S with
   | [],[]=>exact aG _
   | [],c::S=>exact eM _
   |a::l,S=>exact aG _
  have:∀s:dY,(cks s).2.length<=U s:=λs=>by
   induction s with
   |nil=>exact aG _
   |cons p r ih=>
    simp only[rO,cK];split
    ·exact cY ih<|eM _
    ·exact cY (hg _ _ _ _)<|Kl ih
  exact this steps
 exact ahM (IT steps) (R5 hc) (hA.trans (IU steps h0).symm) (hB.trans (IV steps h0).symm) hb (ahu steps) e1 e2 (by exact cY ‹_› ‹_›) ha wY
noncomputable def Dq(a b:J<|J B)(i j k:B):Prop:=∀t,t<k->i+t<U a/\a[i+t]?=b[j+t]?
noncomputable def zO(i k:B)(s:kK):Prop:=s.1<=i/\i+k<=s.1+s.2.2
noncomputable def zP(j k:B)(s:kK):Prop:=s.2.1<=j/\j+k<=s.2.1+s.2.2
noncomputable def zQ(a b:J<|J B)(mD:J kK):Prop:=∀i j k,0<k->Dq a b i j k->
 (∃s∈mD,zO i k s/\(i=s.1->k=s.2.2->(∃s'∈mD,zP j k s')\/s.2.1<=j))\/
 (∃s∈mD,zP j k s/\(j=s.2.1->k=s.2.2->(∃s'∈mD,zO i k s')\/s.1<=i))
theorem Sk:∀(T:J kK),T≠[]->∃Tl s Tr,T=Tl++s::Tr/\(∀x∈Tl,x.2.2<s.2.2)/\∀x∈Tr,x.2.2<=s.2.2
 | []=>λh=>aZ rfl h
 | [x]=>λH=>⟨[],x,[],rfl,(λH h=>nomatch h),(λH h=>nomatch h)⟩
 |x::y::T=>λH=>by
  refine lH (Sk (y::T)<|by simp) λTl s Tr e G h2=>?_
  by_cases h:s.2.2<=x.2.2
  ·refine⟨[],x,y::T,rfl,(λH h=>nomatch h),λz hz=>?_⟩;rw[e] at hz;rcases bK.mp hz with hz|hz
   ·have:=G z hz;exact Fc this h
   rcases cu.mp hz with rfl|hz
   ·exact h
   ·have:=h2 z hz;exact cY ‹_› ‹_›
  ·refine⟨x::Tl,s,Tr,by refine D e ?_;rfl,λz hz=>?_,h2⟩;rcases cu.mp hz with rfl|hz
   ·exact vI.mp ‹_›
   ·exact G z hz
theorem ahO{a b:J (J B)}{mD:J kK}(hv:∀s∈mD,0<s.2.2/\Dq a b s.1 s.2.1 s.2.2)(hs:mD.Pairwise λs s'=>s.1+s.2.2<=s'.1/\s.2.1+s.2.2<=s'.2.1)(hw:zQ a b mD):
  ∀(m:B) (T1 T T2:J kK) (aq aS au aJ:B),U T<=m->mD=T1++T++T2->(∀s∈T1,s.1+s.2.2<=aq/\s.2.1+s.2.2<=au)->(∀s∈T2,aS<=s.1/\aJ<=s.2.1)->
   (∀s∈T,aq<=s.1/\s.1+s.2.2<=aS/\au<=s.2.1/\s.2.1+s.2.2<=aJ)->gI a b aq aS au aJ T:=by
 intro m
 induction m with
 |zero=>
  intro T1 T T2 aq aS au aJ hm he G h2 h3;obtain rfl:T=[]:=rP<|U8 hm;refine .none ?_
  have aix:=qi (a:=a) (b:=b) (aq:=aq) (aS:=aS) (au:=au) (aJ:=aJ);generalize jK a b aq aS au aJ=q at*;rcases tM q.2.2 with h0|hp
  ·exact h0
  exfalso;have b1:=aix.lo1;have b2:=aix.pb;have b3:=aix.lP;have b4:=aix.jv;have mem:∀s∈mD,s∈T1\/s∈T2:=λs hs=>by rw[he,cM] at hs;exact bK.mp hs
  rcases hw q.1 q.2.1 q.2.2 hp aix.eq with ⟨s,uT,dk,_⟩|⟨s,uT,dk,_⟩
  ·refine xA dk λi1 i2=>?_
   rcases mem s uT with hm|hm
   ·have:=G s hm;exact U7 i2 this hp b1
   ·have:=h2 s hm;exact U6 b2 hp b1 i1 this
  ·refine xA dk λi1 i2=>?_
   rcases mem s uT with hm|hm
   ·have:=G s hm;exact U5 i2 this hp b3
   ·have:=h2 s hm;exact U4 b4 hp b3 i1 this
 |succ m ih=>
  intro T1 T T2 aq aS au aJ hm he G h2 h3
  by_cases hT:T=[]
  ·subst hT;exact ih T1 [] T2 aq aS au aJ (bH _) he G h2 h3
  refine lH (Sk T hT) λTl s Tr e hl hr=>?_
  subst e;have pf:∀x,x∈Tl\/x=s\/x∈Tr->x∈Tl++s::Tr:=λx hx=>by simp only[bK,cu];exact hx
  have ct:∀x∈Tl++s::Tr,x∈mD:=λx hx=>by refine D he ?_;simp only[bK] at hx ⊢;exact .inl<|.inr hx
  have Sl:=pf s<|.inr<|.inl rfl;refine xA (hv s<|ct s Sl) λsp sc=>gg (h3 s Sl) λr1 r2 r3 r4=>?_
  have sorted:(Tl++s::Tr).Pairwise λs s'=>s.1+s.2.2<=s'.1/\s.2.1+s.2.2<=s'.2.1:=by
   rw[he] at hs;exact(w9.mp (w9.mp hs).1).2.1
  refine eh (w9.mp sorted) λp1 p2 p3=>xA (Ab.mp p2) λp4 p5=>?_
  have Dr:∀x∈mD,(∃i j k,0<k/\aq<=i/\i+k<=aS/\au<=j/\j+k<=aJ/\(zO i k x\/zP j k x))->x∈Tl\/x=s\/x∈Tr:=λx hx h=>lH h λi j k hk c1 r=>gg r λc2 c3 c4 dk=>by
   rw[he] at hx;simp only[bK,cu] at hx;rcases hx with (hx|hx)|hx
   ·have:=G x hx;rcases dk with ⟨i1,i2⟩|⟨i1,i2⟩<;>exfalso<;>lia
   ·exact hx
   ·have:=h2 x hx;rcases dk with ⟨i1,i2⟩|⟨i1,i2⟩<;>exfalso<;>lia
  have Sm:∀x,x∈Tl\/x=s\/x∈Tr->s.2.2<=x.2.2->s.1<=x.1/\s.2.1<=x.2.1/\(x≠s->s.1<x.1)/\x.2.2=s.2.2:=λx hx hk=>by
   rcases hx with hx|rfl|hx
   ·have:=hl x hx;exact aZ hk<|U3 this
   ·exact⟨aG _,aG _,λh=>aZ rfl h,rfl⟩
   ·have:=p4 x hx;have:=hr x hx;exact⟨by lia,by lia,λH=>by lia,by exact LL hk this⟩
  have small:∀x,x∈Tl\/x=s\/x∈Tr->x.2.2<=s.2.2:=λx hx=>by
   rcases hx with hx|rfl|hx
   ·exact lz<|hl x hx
   ·exact aG _
   ·exact hr x hx
  have best:j8 a b aq aS au aJ s:=by
   refine⟨r1,by exact Mm r2,r3,by exact Mm r4,sc,λh=>aZ h (by exact kl ‹_›),λi j k c1 c2 c3 c4 hc=>?_,λi j c1 c2 c3 c4 hp hc=>?_⟩
   ·rcases tM k with h0|hp
    ·exact AN h0
    rcases hw i j k hp hc with ⟨x,hx,dk,_⟩|⟨x,hx,dk,_⟩
    ·have:=small x<|Dr x hx ⟨i,j,k,hp,c1,c2,c3,c4,.inl dk⟩;exact xA dk λi1 i2=>(Ml i2 this i1)
    ·have:=small x<|Dr x hx ⟨i,j,k,hp,c1,c2,c3,c4,.inr dk⟩;exact xA dk λi1 i2=>(Ml i2 this i1)
   ·have lA:∀x∈mD,zO i s.2.2 x->s.1<=x.1/\s.2.1<=x.2.1/\(x≠s->s.1<x.1)/\x.2.2=s.2.2:=λx hx dk=>Sm x (Dr x hx ⟨i,j,s.2.2,hp,c1,c2,c3,c4,.inl dk⟩) (by have:=dk.1;have:=dk.2;lia);have lB:∀x∈mD,zP j s.2.2 x->s.1<=x.1/\s.2.1<=x.2.1/\(x≠s->s.1<x.1)/\x.2.2=s.2.2:=λx hx dk=>Sm x (Dr x hx ⟨i,j,s.2.2,hp,c1,c2,c3,c4,.inr dk⟩) (by have:=dk.1;have:=dk.2;lia);rcases hw i j s.2.2 hp hc with ⟨x,hx,dk,himp⟩|⟨x,hx,dk,himp⟩
    ·refine gg (lA x hx dk) λg1 g2 g3 g4=>?_
     have hi:i=x.1:=by have:=dk.1;have:=dk.2;lia
     by_cases aV:x=s
     ·subst aV;refine .inr ⟨hi.symm,?_⟩;rcases himp hi rfl with ⟨y,hy,zR⟩|h
      ·have:=(lB y hy zR).2.1;have:=zR.1;exact cY ‹_› ‹_›
      ·exact h
     ·exact .inl (by have:=g3 aV;exact mf this hi)
    ·refine gg (lB x hx dk) λg1 g2 g3 g4=>?_
     have hj:j=x.2.1:=by have:=dk.1;have:=dk.2;lia
     have hi:s.1<=i:=by
      rcases himp hj g4.symm with ⟨y,hy,zR⟩|h
      ·have:=(lA y hy zR).1;have:=zR.1;exact cY ‹_› ‹_›
      ·exact cY ‹_› ‹_›
     by_cases q:s.1=i
     ·exact .inr ⟨q,by exact U2 hj g2⟩
     ·exact .inl<|U1 q hi
  have td:jK a b aq aS au aJ=s:=j8.unique qi best;have hlen:U (Tl++s::Tr)=Tl.length+Tr.length+1:=by simp;rfl
  refine .some (i:=s.1) (j:=s.2.1) (k:=s.2.2) td sp ?_ ?_
  ·refine ih T1 Tl (s::Tr++T2) aq s.1 au s.2.1 (U0 hlen hm) (by refine D he ?_;simp) G (λx hx=>?_) λx hx=>?_
   ·rw[jT] at hx;rcases cu.mp hx with rfl|hx
    ·exact⟨aG _,aG _⟩
    rcases bK.mp hx with hx|hx
    ·have:=p4 x hx;exact UZ this
    ·have:=h2 x hx;exact UY r2 r4 this
   ·have:=h3 x<|pf x<|.inl hx;have:=p3 x hx s<|.head _;lia
  ·refine ih (T1++Tl++[s]) Tr T2 (s.1+s.2.2) aS (s.2.1+s.2.2) aJ (UX hlen hm) (by refine D he ?_;simp) (λx hx=>?_) h2 λx hx=>?_
   ·simp only[bK,bx] at hx;rcases hx with (hx|hx)|rfl
    ·have:=G x hx;exact UW this r1 r3
    ·have:=p3 x hx s<|.head _;exact UV this
    ·exact⟨aG _,aG _⟩
   ·have:=h3 x<|pf x<|.inr<|.inr hx;have:=p4 x hx;lia
theorem wZ(F aiB:J Ch):cp (F++aiB)=cp F++cp aiB:=kN
theorem vw(F aiB:J Ch):allB (F++aiB)=allB F++allB aiB:=kN
theorem qH(c:Ch)(F:J Ch):cp (c::F)=c.1++(c.2.2++cp F):=by unfold cp qD;simp only[fa,cm]
theorem qI(c:Ch)(F:J Ch):allB (c::F)=c.2.1++(c.2.2++allB F):=by unfold allB qE;simp only[fa,cm]
theorem kg(X Y:J α)(t:B):(X++Y)[U X+t]?=Y[t]?:=by
 rw[dc<|dZ _ _,jx]
section
variable(h:F=F1++c::F2)
include h
theorem Sn{d:B}(hd:d<U c.1):(cp F)[U (cp F1)+d]?=c.1[d]?:=by
 simp only[h,wZ,kg,qH,cA hd]
theorem So{e:B}(he:e<U c.2.2):(cp F)[U (cp F1)+U c.1+e]?=c.2.2[e]?:=by
 simp only[h,wZ,iq,kg,qH,kg,cA he]
theorem Ds(t:B):(cp F)[U (cp F1)+U c.1+U c.2.2+t]?=(cp F2)[t]?:=by
 simp only[h,wZ,iq,iq,kg,qH,kg,kg]
theorem Sp{d:B}(hd:d<U c.2.1):(allB F)[U (allB F1)+d]?=c.2.1[d]?:=by
 simp only[h,vw,kg,qI,cA hd]
theorem Sq{e:B}(he:e<U c.2.2):(allB F)[U (allB F1)+U c.2.1+e]?=c.2.2[e]?:=by
 simp only[h,vw,iq,kg,qI,kg,cA he]
theorem Jh(t:B):(allB F)[U (allB F1)+U c.2.1+U c.2.2+t]?=(allB F2)[t]?:=by
 simp only[h,vw,iq,iq,kg,qI,kg,kg]
end
theorem Dt:∀(F:J Ch) (i:B),i<U (cp F)->∃F1 c F2,F=F1++c::F2/\((∃d,d<U c.1/\i=U (cp F1)+d)\/∃e,e<U c.2.2/\i=U (cp F1)+U c.1+e)
 | []=>λi h=>aZ h<|Al _
 |c::F=>λi h=>by
  rw[vo] at h
  by_cases G:i<U c.1
  ·exact⟨[],c,F,rfl,.inl ⟨i,G,(iu _).symm⟩⟩
  by_cases h2:i<U c.1+U c.2.2
  ·exact⟨[],c,F,rfl,.inr ⟨i-U c.1,by exact Mt h2 G,by show i=0+_+_;exact Ms G⟩⟩
  refine eR (Dt F (i-(U c.1+U c.2.2))<|Mr h h2) λF1 c' F2 e hh=>?_
  refine⟨c::F1,c',F2,by refine D e ?_;rfl,?_⟩;refine D (vo _ _) ?_
  rcases hh with ⟨d,hd,hi⟩|⟨d,hd,hi⟩
  ·exact .inl ⟨d,hd,by exact Mq hi h2⟩
  ·exact .inr ⟨d,hd,by exact Mp hi h2⟩
theorem Du:∀(F:J Ch) (j:B),j<U (allB F)->∃F1 c F2,F=F1++c::F2/\((∃d,d<U c.2.1/\j=U (allB F1)+d)\/∃e,e<U c.2.2/\j=U (allB F1)+U c.2.1+e)
 | []=>λi h=>aZ h<|Al _
 |c::F=>λi h=>by
  rw[vp] at h
  by_cases G:i<U c.2.1
  ·exact⟨[],c,F,rfl,.inl ⟨i,G,(iu _).symm⟩⟩
  by_cases h2:i<U c.2.1+U c.2.2
  ·exact⟨[],c,F,rfl,.inr ⟨i-U c.2.1,by exact Mt h2 G,by show i=0+_+_;exact Ms G⟩⟩
  refine eR (Du F (i-(U c.2.1+U c.2.2))<|Mr h h2) λF1 c' F2 e hh=>?_
  refine⟨c::F1,c',F2,by refine D e ?_;rfl,?_⟩;refine D (vp _ _) ?_
  rcases hh with ⟨d,hd,hi⟩|⟨d,hd,hi⟩
  ·exact .inl ⟨d,hd,by exact Mq hi h2⟩
  ·exact .inr ⟨d,hd,by exact Mp hi h2⟩
theorem Sr:∀(F1:J Ch) (c:Ch) (F2:J Ch) (i j:B),c.2.2≠[]->(i+U (cp F1)+U c.1,j+U (allB F1)+U c.2.1,U c.2.2)∈eW i j (F1++c::F2)
 | []=>λc F2 i j h=>by
  show _∈eW i j (c::F2);exact D zJ (D (show jf i j c=_ from aE h)<|bK.mpr<|.inl<|bx.mpr rfl)
 |c'::F1=>λc F2 i j h=>by
  have ih:=Sr F1 c F2 (dC i c') (dS j c') h;simp only[jT];refine bK.mpr<|.inr ?_;simp only[vo,vp];simp only[show i+(U c'.1+U c'.2.2+U (cp F1))=i+U c'.1+U c'.2.2+U (cp F1) by exact vW,show j+(U c'.2.1+U c'.2.2+U (allB F1))=j+U c'.2.1+U c'.2.2+U (allB F1) by exact vW];exact ih
theorem Ji:∀(F:J Ch) (i j:B) (s:kK),s∈eW i j F->∃F1 c F2,F=F1++c::F2/\c.2.2≠[]/\s=(i+U (cp F1)+U c.1,j+U (allB F1)+U c.2.1,U c.2.2)
 | []=>λi j s h=>nomatch h
 |c::F=>λi j s h=>by
  rw[zJ] at h;rcases bK.mp h with h|h
  ·unfold jf at h;split at h
   ·exact nomatch h
   ·rename_i hE;rw[bx] at h;exact⟨[],c,F,rfl,hE,h⟩
  ·refine lH (Ji F _ _ s h) λF1 c' F2 e hE hs=>?_
   refine⟨c::F1,c',F2,by refine D e ?_;rfl,hE,?_⟩;simp only[hs,vo,vp];unfold dC dS;simp only[show i+(U c.1+U c.2.2+U (cp F1))=i+U c.1+U c.2.2+U (cp F1) by exact vW,show j+(U c.2.1+U c.2.2+U (allB F1))=j+U c.2.1+U c.2.2+U (allB F1) by exact vW]
theorem ahP:∀(F:J Ch) (i j:B),∀s∈eW i j F,i<=s.1/\j<=s.2.1:=λF i j s h=>by
 refine lH (Ji F i j s h) λF1 c F2 H H av=>?_
 subst av;exact⟨by dsimp only;exact Mo,by dsimp only;exact Mo⟩
theorem Ss:∀(F:J Ch) (i j:B),(eW i j F).Pairwise λs s'=>s.1+s.2.2<=s'.1/\s.2.1+s.2.2<=s'.2.1
 | []=>λH H=>.nil
 |c::F=>λi j=>by
  refine w9.mpr ⟨?_,Ss F _ _,λs hs s' n6=>?_⟩
  ·unfold jf;split
   ·exact .nil
   ·exact Jy ..
  ·have:=ahP F _ _ s' n6;unfold jf at hs;split at hs
   ·exact nomatch hs
   ·rw[bx] at hs;subst hs;exact this
theorem ahQ:∀s∈eW 0 0 F,0<s.2.2/\Dq (cp F++Z) (allB F++Y) s.1 s.2.1 s.2.2:=λs h=>by
 refine lH (Ji F 0 0 s h) λF1 c F2 e hE av=>?_
 subst av;refine⟨oA.mpr hE,λt ht=>?_⟩;dsimp only at ht ⊢;refine D (iu _)<|D (iu _) ?_;have G:=So e ht;have h2:=Sq e ht;simp only[bO ht] at G h2;obtain⟨l1,_⟩:=cJ.mp G;obtain⟨l2,_⟩:=cJ.mp h2;refine⟨by simp only[aK];exact U9 l1,?_⟩;simp only[cA l1,cA l2,G,h2]
theorem zS(hA:f=cp F++Z)(hB:u=allB F++Y)(hw:zQ f u<|eW 0 0 F):dU f u=eW 0 0 F:=by
 have hv:=λs hs=>ahQ (F:=F) (Z:=Z) (Y:=Y) s hs;rw[←hA,←hB] at hv
 have hb:=ahO hv (Ss F 0 0) hw (U (eW 0 0 F)) [] (eW 0 0 F) [] 0 (U f) 0 (U u) (aG _) (by simp) (λH h=>nomatch h) (λH h=>nomatch h) (λs hs=>by
  obtain⟨hp,hc⟩:=hv s hs;have G:=hc (s.2.2-1)<|xP hp;have l1:=G.1;have l2:s.2.1+(s.2.2-1)<U u:=by
   have e:=G.2;rw[bO l1] at e;exact(cJ.mp e.symm).1
  exact⟨bH _,by exact Mn l1,bH _,by exact Mn l2⟩)
 exact gI.unique (rv f u (0,U f,0,U u)) hb
theorem Jj(lead:J<|J B)(S:J Ch):pA lead++eW (U lead) (U lead) S=eW 0 0 (([],[],lead)::S):=by
 show _=jf 0 0 ([],[],lead)++eW (0+0+U lead) (0+0+U lead) S;exact D (iu _) rfl
theorem ahR(F:J Ch)(c:Ch)(hc:c.2.2=[]):∀i j,eW i j (F++[c])=eW i j F:=by
 induction F with
 |nil=>
  intro i j;show jf i j c++[]=[]
  unfold jf;exact D (aU hc) rfl
 |cons x F ih=>
  intro i j;show jf i j x++eW _ _ (F++[c])=_;exact D (ih _ _) rfl
theorem part2{α:Type}:∀{F1 mE:J α} {c c':α} {F2 ot:J α},F1++c::F2=mE++c'::ot->(F1=mE/\c=c'/\F2=ot)\/(∃M,mE=F1++c::M/\F2=M++c'::ot)\/∃M,F1=mE++c'::M/\ot=M++c::F2
 | [],[],c,c',F2,ot,h=>by
  injection h with G h2
  exact .inl ⟨rfl,G,h2⟩
 | [],x::mE,c,c',F2,ot,h=>by
  injection h with G h2
  exact .inr<|.inl ⟨mE,by refine D G ?_;rfl,h2⟩
 |x::F1,[],c,c',F2,ot,h=>by
  injection h with G h2
  exact .inr<|.inr ⟨F1,by refine D G ?_;rfl,h2.symm⟩
 |x::F1,x'::mE,c,c',F2,ot,h=>by
  injection h with G h2
  subst G;rcases part2 h2 with ⟨rfl,rfl,rfl⟩|⟨M,rfl,h3⟩|⟨M,rfl,h3⟩
  ·exact .inl ⟨rfl,rfl,rfl⟩
  ·exact .inr<|.inl ⟨M,rfl,h3⟩
  ·exact .inr<|.inr ⟨M,rfl,h3⟩
theorem qJ(h:F=F1++c::F2):c∈F:=by refine D h ?_;simp
theorem w0(h:F=F1++c::F2)(hE:c.2.2≠[]):(U (cp F1)+U c.1,U (allB F1)+U c.2.1,U c.2.2)∈eW 0 0 F:=by
 have:=Sr F1 c F2 0 0 hE;rw[iu,iu] at this;simp only[h];exact this
theorem Jk{l:J α}(h:i<U l):∃v,l[i]?=some v/\v∈l:=⟨l[i],bO h,nF h⟩
theorem ne_of_lt{l:J α}(h:i<U l):l≠[]:=λe=>by simp only[e] at h;exact nomatch h
theorem ahS(hD:∀c∈F,∀x∈c.1,∃g,x=[g]/\cI g=true)(hI:∀c∈F,∀y∈c.2.1,U y=2)(hE:∀c∈F,∀y∈c.2.2,∃g,y=[g]/\cI g=false)
  (hS:∀F1 c c2 F2,F=F1++c::c2::F2->c2.1≠[]/\c2.2.1≠[]):zQ (cp F) (allB F) (eW 0 0 F):=by
 intro i j k hk hc;have ahT:∀v∈cp F,U v=1:=λv hv=>by
  refine aH (vC.mp hv) λc zT hv=>?_
  rcases bK.mp hv with hv|hv
  ·refine aH (hD c zT v hv) λg av H=>?_
   subst av;rfl
  ·refine aH (hE c zT v hv) λg av H=>?_
   subst av;rfl
 have kindB:∀v∈allB F,U v=2\/∃g,v=[g]/\cI g=false:=λv hv=>by
  refine aH (vC.mp hv) λc zT hv=>?_
  rcases bK.mp hv with hv|hv
  ·exact .inl<|hI c zT v hv
  ·exact .inr<|hE c zT v hv
 have at_:∀t,t<k->∃g,(cp F)[i+t]?=some [g]/\(allB F)[j+t]?=some [g]/\cI g=false:=λt ht=>by
  obtain⟨G,h2⟩:=hc t ht;refine aH (Jk G) λv hv hm=>?_
  have Su:(allB F)[j+t]?=some v:=h2.symm.trans hv;have l1:=ahT v hm;rcases kindB v (dT Su) with h|⟨g,rfl,hg⟩
  ·exact(Vh l1 h).elim
  ·exact⟨g,hv,Su,hg⟩
 refine cP (at_ 0 hk) λg0 Dv np qA=>?_
 simp only[jy] at Dv np;have inA:∃s∈eW 0 0 F,zO i k s:=by
  refine eR (Dt F i (cJ.mp Dv).1) λF1 c F2 e hz=>?_
  rcases hz with ⟨d,hd,rfl⟩|⟨d,hd,rfl⟩
  ·rw[Sn e hd] at Dv;refine aH (hD c (qJ e) [g0]<|dT Dv) λg G h2=>?_
   cases G;rw[qA] at h2;exact aZ h2 dy
  ·refine⟨_,w0 e<|ne_of_lt hd,by dsimp only;exact dZ _ _,?_⟩
   by_cases hq:d+k<=U c.2.2
   ·exact AP hq
   exfalso;refine cP (at_ (U c.2.2-d)<|sr hq hd) λg ha H hg=>?_
   simp only[show U (cp F1)+U c.1+d+(U c.2.2-d)=U (cp F1)+U c.1+U c.2.2+0 by exact AQ hd,Ds e] at ha;cases F2 with
   |nil=>cases ha
   |cons c2 F2=>
    obtain⟨n1,_⟩:=hS F1 c c2 F2 e;cases mq:c2.1 with
    |nil=>exact n1 mq
    |cons x r=>
     simp only[qH,mq] at ha;have ha:some x=some [g]:=ha;refine aH (hD c2 (by refine D e ?_;simp) x<|by refine D mq ?_;exact .head _) λg' G h2=>?_
     simp only[G] at ha
     (cases cj ha;clear ha)
     rw[hg] at h2;exact nomatch h2
 have inB:∃s∈eW 0 0 F,zP j k s:=by
  refine eR (Du F j (cJ.mp np).1) λF1 c F2 e hz=>?_
  rcases hz with ⟨d,hd,rfl⟩|⟨d,hd,rfl⟩
  ·rw[Sp e hd] at np;have:=hI c (qJ e) [g0]<|dT np;exact nomatch this
  ·refine⟨_,w0 e<|ne_of_lt hd,by dsimp only;exact dZ _ _,?_⟩
   by_cases hq:d+k<=U c.2.2
   ·exact AP hq
   exfalso;refine cP (at_ (U c.2.2-d)<|sr hq hd) λg H hb hg=>?_
   simp only[show U (allB F1)+U c.2.1+d+(U c.2.2-d)=U (allB F1)+U c.2.1+U c.2.2+0 by exact AQ hd,Jh e] at hb;cases F2 with
   |nil=>cases hb
   |cons c2 F2=>
    obtain⟨_,n1⟩:=hS F1 c c2 F2 e;cases mq:c2.2.1 with
    |nil=>exact n1 mq
    |cons x r=>
     simp only[qI,mq] at hb;have hb:some x=some [g]:=hb;have:=hI c2 (by refine D e ?_;simp) x (by exact D mq<|.head _)
     (have:=cj hb;clear hb;subst this)
     exact nomatch this
 exact aH inA λs hs dk=>(.inl ⟨s,hs,dk,λH H=>.inl inB⟩)
theorem ahU{ys:J (J B)}{sp:B->Prop}(hD:∀c∈F,c.1=[])(hE:∀c∈F,∀y∈c.2.2,y≠[92])(hI:∀c∈F,∀y∈c.2.1,y=[92])
  (hS:∀F1 c c2 F2,F=F1++c::c2::F2->c2.2.1=[[92]]/\∃x r,c2.2.2=[x]::r/\sp x) (hP:∀m x,(allB F++ys)[m]?=some [x]->sp x->∃m',m=m'+1/\(allB F++ys)[m']?=some [92]):zQ (cp F) (allB F++ys) (eW 0 0 F):=by
 intro i j k hk hc;have inl:∀{m:B},m<U (allB F)->(allB F++ys)[m]?=(allB F)[m]?:=λh=>cA h;refine eR (Dt F i (by have:=(hc 0 hk).1;assumption)) λF1 c F2 e hz=>?_
 have mq:=hD c<|qJ e;rcases hz with ⟨d,hd,rfl⟩|⟨d,hd,rfl⟩
 ·simp only[mq] at hd;exact nomatch hd
 have tE:∀t,t<k->d+t<U c.2.2->∃v,(allB F++ys)[j+t]?=some v/\c.2.2[d+t]?=some v/\v≠[92]:=λt ht hl=>by
  have:=(hc t ht).2;rw[iq _ d,So e hl] at this;exact aH (Jk hl) λv hv hm=>(⟨v,by simp only[←this,hv],hv,hE c (qJ e) v hm⟩)
 have w4:d+k<=U c.2.2:=by
  by_cases hq:d+k<=U c.2.2
  ·exact hq
  exfalso;have ht:=hc (U c.2.2-d)<|sr hq hd;rw[show U (cp F1)+U c.1+d+(U c.2.2-d)=U (cp F1)+U c.1+U c.2.2+0 by exact AQ hd,Ds e] at ht;obtain⟨G,h2⟩:=ht;cases F2 with
  |nil=>
   simp only[e,wZ,aK,qH,aK,aK] at G;simp only[cp,DX,iR] at G;exact Ff G
  |cons c2 F2=>
   refine vS (hS F1 c c2 F2 e) λH x r hx vx=>?_
   have hd2:=hD c2 (by refine D e ?_;simp);simp only[qH,hd2,hx] at h2;have h2:some [x]=_:=h2;refine aH (hP _ x h2.symm vx) λm' e1 e2=>cP (tE (U c.2.2-d-1) (MC hq hd)<|MB hd) λv v1 H v3=>?_
   simp only[show j+(U c.2.2-d-1)=m' by exact MA e1 hd,e2] at v1
   (have:=cj v1;clear v1;subst this)
   exact v3 rfl
 refine .inl ⟨_,w0 e<|ne_of_lt hd,⟨by dsimp only;exact dZ _ _,by dsimp only;exact AP w4⟩,λG h2=>?_⟩;dsimp only at G h2 ⊢;have zH:d=0:=by exact Mz G
 subst zH
 by_cases hj:U (allB F1)+U c.2.1<=j
 ·exact .inr hj
 refine .inl ?_
 have Sv:j<U (allB F):=by
  simp only[e,vw,aK,qI,aK,aK];exact Vg hj
 refine eR (Du F j Sv) λmE c' ot e' hz=>?_
 rcases hz with ⟨d',hV,tF⟩|⟨d',hV,tF⟩
 ·exfalso;refine cP (tE 0 hk ‹_›) λv v1 H v3=>?_
  rw[jy,inl Sv,tF,Sp e' hV] at v1;exact v3<|hI c' (qJ e') v<|dT v1
 ·refine⟨_,w0 e'<|ne_of_lt hV,by dsimp only;exact My tF,?_⟩;dsimp only
  by_cases hq:d'+k<=U c'.2.2
  ·exact Mx hq tF
  exfalso;rcases part2 (e.symm.trans e') with ⟨rfl,rfl,rfl⟩|⟨M,rfl,_⟩|⟨M,rfl,hM⟩
  ·exact Vf hj tF
  ·rw[vw,aK,qI,aK] at tF;exact Ve hj tF
  ·refine cP (tE (U c'.2.2-d') (sr hq hV)<|Mw w4 hq hV) λv v1 H v3=>?_
   have hn:∃c2 F3,ot=c2::F3:=by
    refine D hM ?_
    cases M with
    |nil=>exact⟨_,_,rfl⟩
    |cons x M=>exact⟨_,_,rfl⟩
   refine xJ hn λc2 F3 av=>?_
   clear hn;subst av;obtain⟨jv,_⟩:=hS mE c' c2 F3 e';have hg:=Jh e' 0;rw[qI,jv] at hg;have hg:_=some [92]:=hg;have bJ:=(cJ.mp hg).1;simp only[show j+(U c'.2.2-d')=U (allB mE)+U c'.2.1+U c'.2.2+0 by exact Mu hV tF,inl bJ,hg] at v1
   (have:=cj v1;clear v1;subst this)
   exact v3 rfl
theorem ahV{off:B->Prop}(tG:¬off 92)(hI:∀c∈F,c.2.1=[])(hD:∀c∈F,∀x∈c.1,x=[92])
  (hS:∀F1 c c2 F2,F=F1++c::c2::F2->c2.1=[[92]]/\∃x r,c2.2.2=[x]::r/\off x) (hL:∀c∈F,c.2.2≠[]->c.2.2[U c.2.2-1]?≠some [92])
  (hR:∀c∈F,∀m x,c.2.2[m+1]?=some [x]->¬off x) (hP:∀m x,(cp F)[m]?=some [x]->off x->∃m',m=m'+1/\(cp F)[m']?=some [92])
  (h0:∀c F2,F=c::F2->c.1=[]):zQ (cp F) (allB F) (eW 0 0 F):=by
 intro i j k hk hc;have Hr:∀t,t<k->j+t<U (allB F):=λt ht=>by
  obtain⟨G,h2⟩:=hc t ht;rw[bO G] at h2;exact(cJ.mp h2.symm).1
 refine eR (Du F j<|Hr 0 hk) λF1 c F2 e hz=>?_
 have mq:=hI c<|qJ e;rcases hz with ⟨d,hd,rfl⟩|⟨d,hd,rfl⟩
 ·simp only[mq] at hd;exact nomatch hd
 have tE:∀t,t<k->d+t<U c.2.2->(cp F)[i+t]?=c.2.2[d+t]?:=λt ht hl=>by
  have:=(hc t ht).2;rw[iq _ d,Sq e hl] at this;exact this
 have w4:d+k<=U c.2.2:=by
  by_cases hq:d+k<=U c.2.2
  ·exact hq
  exfalso;have h2:=(hc (U c.2.2-d)<|sr hq hd).2;have G:=Hr (U c.2.2-d)<|sr hq hd;simp only[show U (allB F1)+U c.2.1+d+(U c.2.2-d)=U (allB F1)+U c.2.1+U c.2.2+0 by exact AQ hd] at G h2;simp only[Jh e] at h2;cases F2 with
  |nil=>
   simp only[e,vw,aK,qI,aK,aK] at G;simp only[allB,DX,iR] at G;exact Ff G
  |cons c2 F2=>
   refine vS (hS F1 c c2 F2 e) λH x r hx vx=>?_
   have jv:=hI c2 (by refine D e ?_;simp);simp only[qI,jv,hx] at h2;have h2:_=some [x]:=h2;refine aH (hP _ x h2 vx) λm' e1 e2=>?_
   have:=tE (U c.2.2-d-1) (MC hq hd)<|MB hd;rw[show i+(U c.2.2-d-1)=m' by exact MA e1 hd,e2,show d+(U c.2.2-d-1)=U c.2.2-1 by exact Vd hd] at this;exact hL c (qJ e) (ne_of_lt hd) this.symm
 refine .inr ⟨_,w0 e<|ne_of_lt hd,⟨by dsimp only;exact dZ _ _,by dsimp only;exact AP w4⟩,λG h2=>?_⟩;dsimp only at G h2 ⊢;have zH:d=0:=by exact Mz G
 subst zH;refine eR (Dt F i (by have:=(hc 0 hk).1;assumption)) λmE c' ot e' hz=>?_
 rcases hz with ⟨d',hV,ic⟩|⟨d',hV,ic⟩
 ·refine .inr ?_
  have hg:=tE 0 hk ‹_›;rw[jy,ic,Sn e' hV] at hg;refine aH (Jk hV) λv hv hm=>?_
  simp only[hv,hD c' (qJ e') v hm] at hg;rcases rS F1 with rfl|⟨F1d,cl,rfl⟩
  ·exact D (h0 c F2 e)<|bH _
  ·exfalso;simp only[rT,cm] at e;refine vS (hS F1d cl c F2 e) λH x r hx vx=>?_
   simp only[hx] at hg;have hg:some [92]=some [x]:=hg
   (cases cj hg;clear hg)
   exact tG vx
 ·refine .inl ⟨_,w0 e'<|ne_of_lt hV,by dsimp only;exact My ic,?_⟩;dsimp only
  by_cases hq:d'+k<=U c'.2.2
  ·exact Mx hq ic
  exfalso;have hg:=tE (U c'.2.2-d') (sr hq hV)<|Mw w4 hq hV;have bJ:=(hc (U c'.2.2-d')<|sr hq hV).1;simp only[show i+(U c'.2.2-d')=U (cp mE)+U c'.1+U c'.2.2+0 by exact Mu hV ic] at hg bJ;simp only[Ds e'] at hg;cases ot with
  |nil=>
   simp only[e',wZ,aK,qH,aK,aK] at bJ;simp only[cp,DX,iR] at bJ;exact Ff bJ
  |cons c2 F3=>
   refine vS (hS mE c' c2 F3 e') λhd2 x r hx vx=>?_
   simp only[qH,hd2] at hg;have hg:some [92]=_:=hg
   by_cases qK:U c'.2.2-d'+1<k
   ·have Dw:=tE (U c'.2.2-d'+1) qK<|Vc w4 qK;rw[show i+(U c'.2.2-d'+1)=U (cp mE)+U c'.1+U c'.2.2+1 by exact Vb hV ic,Ds e',qH,hd2,hx] at Dw;have Dw:some [x]=_:=Dw;exact hR c (qJ e) (0+(U c'.2.2-d')) x Dw.symm vx
   ·refine hL c (qJ e) (ne_of_lt hd) ?_
    simp only[hg];congr 1;exact Va hq qK h2
theorem Dx{steps:dY}(h0:qG steps)(hc:∃p∈steps,p.1≠p.2)(hA:f=iO steps)(hB:u=iP steps)(hb:dU f u=eW 0 0 (([],[],(cks steps).1)::(cks steps).2))
  (e1:G=[45,45,45,32]++f1++(if d1=[] then[] else 9::d1)) (e2:h2=[43,43,43,32]++f2++(if d2=[] then[] else 9::d2)) (hz:U steps<=400):
  fx f u n f1 f2 d1 d2 e=report (gk steps) n G h2 e/\∀g∈groups f u n,GoodG g:=by
 have ho:∀x:J B,U (opt x)<=1:=λx=>by unfold opt;split<;>simp
 have hl:∀(aiC:J B×J B->J B) (s:dY),U (s.flatMap λp=>opt<|aiC p)<=U s:=λaiC s=>by
  induction s with
  |nil=>exact aG _
  |cons p s ih=>
   simp only[fa,aK,cK];have:=ho<|aiC p;exact Vs this ih
 have l1:U f<=U steps:=by exact D hA<|hl (·.1) steps
 have l2:U u<=U steps:=by exact D hB<|hl (·.2) steps
 exact ahN h0 hc hA hB (hb.trans (Jj _ _).symm) e1 e2 hz (by lia) (by lia)
theorem Jl(steps:dY)(h0:qG steps):cp (([],[],(cks steps).1)::(cks steps).2)=iO steps:=(qH _ _).trans<|IU steps h0
theorem Jm(steps:dY)(h0:qG steps):allB (([],[],(cks steps).1)::(cks steps).2)=iP steps:=(qI _ _).trans<|IV steps h0
theorem Jn{c0:Ch}{P:Ch->Prop}(h:∀c∈S,P c):∀F1 c c2 F2,c0::S=F1++c::c2::F2->P c2
 | []=>λc c2 F2 e=>by
  injection e with _ e
  exact h c2 (by exact D e<|.head _)
 |x::F1=>λc c2 F2 e=>by
  injection e with _ e
  exact h c2 (by refine D e ?_;simp)
theorem cks_eq(x:J B)(r:dY):cks ((x,x)::r)=(x::(cks r).1,(cks r).2):=aU rfl
theorem tH(h:x≠y)(r:dY):cks ((x,y)::r)=([],pz x y (cks r).1 (cks r).2):=aE h
noncomputable def C3(c:Ch):Prop:=c.1≠[]/\c.2.1≠[]/\(∀x∈c.1,∃g,x=[g]/\cI g=true)/\(∀y∈c.2.1,U y=2)/\∀y∈c.2.2,∃g,y=[g]/\cI g=false
theorem Sw:∀t:J B,(∀c∈(cks<|fh t).2,C3 c)/\∀y∈(cks<|fh t).1,∃g,y=[g]/\cI g=false
 | []=>⟨(λH h=>nomatch h),(λH h=>nomatch h)⟩
 |c::t=>by
  obtain⟨G,h2⟩:=Sw t;have e:fh (c::t)=([c],cD c)::fh t:=rfl;rw[e,rO];generalize (cks<|fh t).1=l at*;generalize (cks<|fh t).2=S at*
  by_cases hg:cI c=true
  ·have ee:cD c=[92,c]:=aU hg;dsimp only;refine D ee (D (aE λq=>by cases q)<|⟨λx hx=>?_,λH h=>nomatch h⟩);have o1:opt [c]=[[c]]:=rfl;have o2:opt [92,c]=[[92,c]]:=rfl;have new:∀E:J (J B),(∀y∈E,∃g,y=[g]/\cI g=false)->C3 (opt [c],opt [92,c],E):=λE hE=>
    ⟨by refine D o1 ?_;simp,by refine D o2 ?_;simp,λx hx=>by rw[o1,bx] at hx;exact⟨c,hx,hg⟩,λy hy=>by rw[o2,bx] at hy;subst hy;rfl,hE⟩
   match l,S with
   | [],[]=>
    obtain rfl:=bx.mp (hx:x∈[(opt [c],opt [92,c],[])]);exact new [] h2
   | [],q::S=>
    rcases cu.mp (hx:x∈(opt [c]++q.1,opt [92,c]++q.2.1,q.2.2)::S) with rfl|hx
    ·refine sf (G q<|.head _) λa1 a2 a3 a4 a5=>?_
     refine⟨by refine D o1 ?_;simp,by refine D o2 ?_;simp,λx hx=>?_,λy hy=>?_,a5⟩
     ·rcases cu.mp (hx:x∈[c]::q.1) with rfl|hx
      ·exact⟨c,rfl,hg⟩
      ·exact a3 x hx
     ·rcases cu.mp (hy:y∈[92,c]::q.2.1) with rfl|hy
      ·rfl
      ·exact a4 y hy
    ·exact G x<|.tail _ hx
   |a::l,S=>
    rcases cu.mp (hx:x∈(opt [c],opt [92,c],a::l)::S) with rfl|hx
    ·exact new _ h2
    ·exact G x hx
  ·have ee:cD c=[c]:=aE hg;dsimp only;refine D ee<|D (aU rfl)<|⟨G,λy hy=>?_⟩;rcases cu.mp hy with rfl|hy
   ·exact⟨c,rfl,by simpa using hg⟩
   ·exact h2 y hy
theorem ahW(c:B):cD c≠[]:=by unfold cD;split<;>simp
theorem ahX(t:J B):qG (fh t):=λp hp q=>by
 refine aH (fb.mp hp) λc H av=>?_
 subst av;cases q.1
theorem Sx(t:J B):sg t=iO (fh t):=by
 induction t with
 |nil=>rfl
 |cons c t ih=>
  show[c]::sg t=opt [c]++iO (fh t);exact D ih rfl
theorem Sy(t:J B):t.map cD=iP (fh t):=by
 induction t with
 |nil=>rfl
 |cons c t ih=>
  show cD c::t.map cD=opt (cD c)++iP (fh t);simp only[ih,show opt (cD c)=[cD c] from aE<|ahW c];rfl
theorem ahY{t:J B}(ht:U t<=400)(h46:∃c∈t,cI c=true):
  fx (sg t) (t.map cD) k [] [] [] [] e=report (gk<|fh t) k [45,45,45,32] [43,43,43,32] e/\∀g∈groups (sg t) (t.map cD) k,GoodG g:=by
 obtain⟨G,h2⟩:=Sw t;have nn:=ahX t;refine aH h46 λc hc hg=>?_
 refine Dx nn ⟨([c],cD c),fb.mpr ⟨c,hc,rfl⟩,λq=>?_⟩ (Sx t) (Sy t) ?_ rfl rfl (by unfold fh;rw[bg];exact ht)
 ·rw[show cD c=[92,c] from aU hg] at q;exact nomatch q
 ·have eA:=(Sx t).trans (Jl _ nn).symm;have eB:=(Sy t).trans (Jm _ nn).symm;refine zS (Z:=[]) (Y:=[]) (by simp only[cM];exact eA) (by simp only[cM];exact eB) ?_
  simp only[eA,eB];refine ahS (λc hc=>?_) (λc hc=>?_) (λc hc=>?_)<|Jn (P:=λc=>c.1≠[]/\c.2.1≠[]) λc hc=>⟨(G c hc).1,(G c hc).2.1⟩
  ·rcases cu.mp hc with rfl|hc
   ·exact λH h=>nomatch h
   ·exact(G c hc).2.2.1
  ·rcases cu.mp hc with rfl|hc
   ·exact λH h=>nomatch h
   ·exact(G c hc).2.2.2.1
  ·rcases cu.mp hc with rfl|hc
   ·exact h2
   ·exact(G c hc).2.2.2.2
noncomputable def ki(P:B->Prop)(l:J B):Prop:=∀m x,l[m]?=some x->P x->∃m',m=m'+1/\l[m']?=some 92
theorem ki.app{l m:J B}(G:ki P l)(h2:ki P m):ki P (l++m):=λi x hx hp=>by
 by_cases h:i<U l
 ·simp only[cA h] at hx;refine aH (G i x hx hp) λm' e1 e2=>?_
  exact⟨m',e1,by refine D (cA<|Vr h e1) ?_;exact e2⟩
 ·simp only[dc<|by exact iS ‹_›] at hx;refine aH (h2 _ x hx hp) λm' e1 e2=>?_
  exact⟨U l+m',by exact Vq e1,by rw[kg];exact e2⟩
theorem ki.flat{P:B->Prop}{aiC:B->J B}(h:∀c,ki P<|aiC c):∀l:J B,ki P<|l.flatMap aiC
 | []=>λi x hx=>nomatch hx
 |c::l=>by exact D fa<|(h c).app<|ki.flat h l
theorem ki.two(h:¬P 92)(c:B):ki P [92,c]:=λi x hx hp=>by
 match i,hx with
 |0,hx=>cases hx;exact aZ hp h
 |1,hx=>exact⟨0,rfl,rfl⟩
theorem ki.one{c:B}(h:¬P c):ki P [c]:=λi x hx hp=>by
 match i,hx with
 |0,hx=>cases hx;exact aZ hp h
theorem ki.sg{P:B->Prop}{l:J B}(h:ki P l):∀m x,(sg l)[m]?=some [x]->P x->∃m',m=m'+1/\(sg l)[m']?=some [92]:=λm x hx hp=>by
 unfold Mine.sg at*;rw[c7] at hx;cases hq:l[m]? with
 |none=>rw[hq] at hx;exact nomatch hx
 |some y=>
  rw[hq] at hx;obtain rfl:y=x:=by cases hx;rfl
  refine aH (h m y hq hp) λm' e1 e2=>?_
  exact⟨m',e1,by refine D (c7)<|D e2 ?_;rfl⟩
noncomputable def Dy(z x:B):Prop:=cI x=true/\x % 2=z/\x≠92
noncomputable def w5(z x:B):Prop:=cI x=true/\x % 2≠z/\x≠92
theorem Dz(l m:J B):sg (l++m)=sg l++sg m:=eL
theorem Jo{c:B}(h:cI c=true/\c % 2=z):jR z c=[92,c]:=by
 unfold jR cD;rw[aU h.2,aU h.1]
theorem Jp{c:B}(h:¬(cI c=true/\c % 2=z)):jR z c=[c]:=by
 unfold jR cD
 by_cases h2:c % 2=z
 ·rw[aU h2,aE λq=>h ⟨q,h2⟩]
 ·exact D (aE h2) rfl
theorem Sz(z:B)(b:J B):ki (Dy z) (eG z b):=ki.flat (λc=>by
 by_cases h:cI c=true/\c % 2=z
 ·refine D (Jo h) ?_;exact .two (λq=>q.2.2 rfl) c
 ·refine D (Jp h) ?_;exact .one λq=>h ⟨q.1,q.2.1⟩) b
theorem ahZ(z:B)(b:J B):ki (w5 z) (et b):=ki.flat (λc=>by
 unfold cD
 by_cases h:cI c=true
 ·refine D (aU h) ?_;exact .two (λq=>q.2.2 rfl) c
 ·refine D (aE h) ?_;exact .one λq=>h q.1) b
theorem Jq:∀(L:J<|J B),(∀y∈L,y≠[])->L≠[]->cks (L.map λy=>([],y))=([],[([],L,[])])
 | []=>λH h=>aZ rfl h
 | [y]=>λh H=>by
  have hy:=h y<|.head _;show cks (([],y)::[])=_;rw[rO,aE λq=>hy q.symm];show([],[(opt [],opt y,[])])=_;exact D (show opt y=[y] from aE hy) rfl
 |y::y'::L=>λh H=>by
  have hy:=h y<|.head _;have ih:=Jq (y'::L) (λq hq=>h q<|.tail _ hq) nofun;rw[eu,rO,ih,aE λq=>hy q.symm];show([],[(opt []++[],opt y++y'::L,[])])=_;exact D (show opt y=[y] from aE hy) rfl
noncomputable def C1(z:B)(c:Ch):Prop:=c.1=[]/\c.2.1=[[92]]/\(∃x r,c.2.2=[x]::r/\Dy z x)/\∀y∈c.2.2,y≠[92]
theorem SA{z:B}{tail:dY}{ys:J (J B)}(ht:cks tail=([],[([],ys,[])])):∀b:J B,(∀c∈b,c≠92)->∃l S0,cks (eV z b++tail)=(l,S0++[([],ys,[])])/\(∀c∈S0,C1 z c)/\∀y∈l,y≠[92]
 | []=>λH=>⟨[],[],ht,(λH h=>nomatch h),λH h=>nomatch h⟩
 |c::b=>λhb=>by
  refine dh (SA (z:=z) ht b λx hx=>hb x<|.tail _ hx) λl S0 e G h2=>?_
  have hc:=hb c<|.head _;have yD: [c]≠[92]:=λq=>hc (by cases q;rfl);have hl:∀y∈[c]::l,y≠[92]:=λy hy=>by
   rcases cu.mp hy with rfl|hy
   ·exact yD
   ·exact h2 y hy
  have e0:eV z (c::b)++tail=gu z c++(eV z b++tail):=by unfold eV;simp only[fa,cm]
  simp only[e0]
  by_cases hg:cI c=true/\c % 2=z
  ·refine D (show gu z c=[([],[92]),([c],[c])] from aU hg)<|⟨[],([],[[92]],[c]::l)::S0,?_,λx hx=>?_,λH h=>nomatch h⟩
   ·show cks (([],[92])::([c],[c])::(eV z b++tail))=_;rw[tH (x:=[]) (y:=[92]) (by simp),cks_eq,e];rfl
   ·rcases cu.mp hx with rfl|hx
    ·exact⟨rfl,rfl,⟨c,l,rfl,hg.1,hg.2,hc⟩,hl⟩
    ·exact G x hx
  ·refine D (show gu z c=[([c],[c])] from aE hg)<|⟨[c]::l,S0,?_,G,hl⟩;show cks (([c],[c])::(eV z b++tail))=_;simp only[cks_eq,e]
theorem DA(z:B)(b:J B):(eV z b).map (·.2)=sg (eG z b):=by
 induction b with
 |nil=>rfl
 |cons c b ih=>
  show(gu z c++eV z b).map (·.2)=sg (jR z c++eG z b);simp only[eL,ih,Dz];congr 1
  by_cases hg:cI c=true/\c % 2=z
  ·simp only[show gu z c=[([],[92]),([c],[c])] from aU hg,Jo hg];rfl
  ·simp only[show gu z c=[([c],[c])] from aE hg,Jp hg];rfl
theorem tI(s r:dY):iO (s++r)=iO s++iO r:=kN
theorem w6(s r:dY):iP (s++r)=iP s++iP r:=kN
theorem SB(z:B)(b:J B):iO (eV z b)=sg b:=by
 induction b with
 |nil=>rfl
 |cons c b ih=>
  show iO (gu z c++eV z b)=[c]::sg b;simp only[tI,ih]
  by_cases hg:cI c=true/\c % 2=z
  ·exact D (show gu z c=[([],[92]),([c],[c])] from aU hg) rfl
  ·exact D (show gu z c=[([c],[c])] from aE hg) rfl
theorem ah0(z:B)(b:J B):∀p∈eV z b,p.2≠[]:=λp hp=>by
 have:p.2∈(eV z b).map (·.2):=fb.mpr ⟨p,hp,rfl⟩;rw[DA] at this;refine aH (fb.mp this) λc H h=>?_
 refine bL h ?_;simp
theorem ah1{s:dY}(h:∀p∈s,p.2≠[]):iP s=s.map (·.2):=by
 induction s with
 |nil=>rfl
 |cons p s ih=>
  show opt p.2++iP s=p.2::s.map (·.2);simp only[ih λq hq=>h q<|.tail _ hq,show opt p.2=[p.2] from aE<|h p<|.head _];rfl
theorem ah2(hb:U b<=50)(tG:∀c∈b,c≠92)(cw:b≠[]):
  fx (sg b) (sg<|eG z b++eG z b) k [98,97,114,101] [104,97,108,102] [] [50] e=report (gk<|fL z b) k [45,45,45,32,98,97,114,101] [43,43,43,32,104,97,108,102,9,50] e/\∀g∈groups (sg b) (sg<|eG z b++eG z b) k,GoodG g:=by
 have zU:fL z b=eV z b++(sg<|eG z b).map λy=>([],y):=by
  simp only[←DA,gP];rfl
 have ah3:=ah0 z b;have hcA:eV z b≠[]:=λq=>by
  have:=SB z b;rw[q] at this;cases b with
  |nil=>exact cw rfl
  |cons c b=>cases this
 have SC:sg (eG z b)≠[]:=by refine bL (DA _ _) ?_;simpa using hcA
 have nV:∀y∈sg (eG z b),y≠[]:=λy hy=>by obtain⟨c,_,rfl⟩:=fb.mp hy;simp
 have p0:∀p∈fL z b,p.2≠[]:=λp hp=>by
  rw[zU] at hp;rcases bK.mp hp with hp|hp
  ·exact ah3 p hp
  ·refine aH (fb.mp hp) λy hy av=>?_
   subst av;exact nV y hy
 have nn:qG (fL z b):=λp hp q=>p0 p hp q.2;refine dh (SA (z:=z) (Jq _ nV SC) b tG) λl S0 ec G h2=>?_
 simp only[←zU] at ec;have hA:sg b=iO (fL z b):=by
  simp only[zU,tI,SB];have:∀L:J (J B),iO (L.map λy=>(([]:J B),y))=[]:=λL=>by
   induction L with
   |nil=>rfl
   |cons y L ih=>exact ih
  simp only[this,cM]
 have hB:sg (eG z b++eG z b)=iP (fL z b):=by
  rw[ah1 p0,zU,eL,DA,Dz];congr 1;simp only[gP];exact(D1 _).symm
 have hlen:U (fL z b)<=400:=by
  have hp:∀c,U (gu z c)<=2:=λc=>by unfold gu;split<;>simp
  have:∀l:J B,U (eV z l)<=2*U l:=λl=>by
   induction l with
   |nil=>exact aG _
   |cons c l ih=>
    show U (gu z c++eV z l)<=_;simp only[aK,cK];have:=hp c;exact AR ih this
  have:=this b;unfold fL;simp only[aK,bg];exact Vp this hb
 obtain⟨y0,SD⟩:=J.exists_mem_of_ne_nil _ SC;refine Dx nn ⟨([],y0),?_,λq=>nV y0 SD q.symm⟩ hA hB ?_ rfl rfl hlen
 ·exact D zU<|bK.mpr<|.inr<|fb.mpr ⟨y0,SD,rfl⟩
 ·have eA:=hA.trans (Jl _ nn).symm;have eB:=hB.trans (Jm _ nn).symm;rw[ec] at eA eB ⊢;simp only[←jT] at eA eB ⊢;refine D (ahR _ _ rfl _ _) ?_
  simp only[wZ] at eA;rw[vw] at eB;have eA:sg b=cp (([],[],l)::S0)++[]:=eA;have eB:sg (eG z b++eG z b)=allB (([],[],l)::S0)++sg (eG z b):=by
   simp only[eB];congr 1;unfold allB qE;simp
  refine zS eA eB ?_
  have hw:=ahU (F:=([],[],l)::S0) (ys:=sg (eG z b)) (sp:=Dy z) (λc hc=>?_) (λc hc=>?_) (λc hc=>?_) (Jn (P:=λc=>c.2.1=[[92]]/\∃x r,c.2.2=[x]::r/\Dy z x) λc hc=>⟨(G c hc).2.1,(G c hc).2.2.1⟩) (by
   exact bL eB (((Sz z b).app (Sz z b)).sg))
  ·simp only[eA,eB,cM];exact hw
  ·rcases cu.mp hc with rfl|hc
   ·rfl
   ·exact(G c hc).1
  ·rcases cu.mp hc with rfl|hc
   ·exact h2
   ·exact(G c hc).2.2.2
  ·rcases cu.mp hc with rfl|hc
   ·exact λH h=>nomatch h
   ·intro y hy;rw[(G c hc).2.1] at hy;exact bx.mp hy
noncomputable def nE(E:J<|J B):Prop:=E≠[]->E[U E-1]?≠some [92]
theorem nE.nil:nE []:=λh=>aZ rfl h
theorem nE.more(h:nE E)(cw:E≠[]):nE (y::E):=λH=>by
 have:=h cw;have hl:=oA.mpr cw;rw[cK,D6,show U E=(U E-1)+1 by exact Vw hl,vz];exact this
theorem nE.cons(h:nE E)(hy:y≠[92]):nE (y::E):=by
 by_cases cw:E=[]
 ·subst cw;intro _ q;have q:some y=some [92]:=q
  (have:=cj q;clear q;subst this)
  exact hy rfl
 ·exact h.more cw
noncomputable def SE(z:B)(y:J B):Prop:=∀x,y=[x]->¬w5 z x
noncomputable def C2(z:B)(c:Ch):Prop:=c.1=[[92]]/\c.2.1=[]/\(∃x r,c.2.2=[x]::r/\w5 z x/\∀y∈r,SE z y)/\nE c.2.2
theorem SF{z:B}:∀b:J B,(∀c∈b,c≠92)->(∀c∈(cks<|cS z b).2,C2 z c)/\(∀y∈(cks<|cS z b).1,SE z y)/\nE (cks<|cS z b).1
 | []=>λH=>⟨(λH h=>nomatch h),(λH h=>nomatch h),nE.nil⟩
 |c::b=>λhb=>by
  refine eh (SF (z:=z) b λx hx=>hb x<|.tail _ hx) λG h2 h3=>?_
  have hc:=hb c<|.head _;have yD: [c]≠[92]:=λq=>hc (by cases q;rfl);have e0:cS z (c::b)=fW z c++cS z b:=rfl;refine D e0 ?_
  have Jr:nE ([c]::(cks<|cS z b).1):=h3.cons yD
  by_cases hg:cI c=true/\c % 2=z
  ·refine D (show fW z c=[([92],[92]),([c],[c])] from aU hg) ?_
   have e1:cks ([([92],[92]),([c],[c])]++cS z b)=([92]::[c]::(cks<|cS z b).1,(cks<|cS z b).2):=by
    show cks (([92],[92])::([c],[c])::cS z b)=_;simp only[cks_eq,cks_eq]
   rw[e1];refine⟨?_,λy hy=>?_,Jr.more nofun⟩
   ·have e2:cks (([92],[92])::([c],[c])::cS z b)=_:=e1;exact D e2 G
   ·rcases cu.mp hy with rfl|hy
    ·intro x hx pE
     (injection hx;subst_vars)
     exact pE.2.2 rfl
    rcases cu.mp hy with rfl|hy
    ·intro x hx pE;cases hx;exact pE.2.1 hg.2
    ·exact h2 y hy
  ·by_cases hd:cI c=true
   ·have pE:w5 z c:=⟨hd,λq=>hg ⟨hd,q⟩,hc⟩
    refine D (show fW z c=[([92],[]),([c],[c])] from(aE hg).trans<|aU hd) ?_
    have e1:cks ([([92],[]),([c],[c])]++cS z b)=([],([[92]],[],[c]::(cks<|cS z b).1)::(cks<|cS z b).2):=by
     show cks (([92],[])::([c],[c])::cS z b)=_;rw[tH (x:=[92]) (y:=[]) (by simp),cks_eq];rfl
    refine D e1<|⟨λx hx=>?_,(λH h=>nomatch h),nE.nil⟩;rcases cu.mp hx with rfl|hx
    ·exact⟨rfl,rfl,⟨c,_,rfl,pE,h2⟩,Jr⟩
    ·exact G x hx
   ·refine D (show fW z c=[([c],[c])] from(aE hg).trans<|aE hd) ?_
    have e1:cks ([([c],[c])]++cS z b)=([c]::(cks<|cS z b).1,(cks<|cS z b).2):=by
     show cks (([c],[c])::cS z b)=_;simp only[cks_eq]
    refine D e1<|⟨G,λy hy=>?_,Jr⟩;rcases cu.mp hy with rfl|hy
    ·intro x hx pE;cases hx;exact hd pE.1
    ·exact h2 y hy
theorem SG(z:B)(b:J B):sg (et b)=iO (cS z b):=by
 induction b with
 |nil=>rfl
 |cons c b ih=>
  show sg (cD c++et b)=iO (fW z c++cS z b);simp only[Dz,tI,ih];congr 1;unfold cD fW
  by_cases hd:cI c=true
  ·refine D (aU hd) ?_
   by_cases hz:c % 2=z
   ·exact D (aU ⟨hd,hz⟩) rfl
   ·exact D (aE λq=>hz q.2)<|D (aU hd) rfl
  ·refine D (aE hd)<|D (aE λq=>hd q.1)<|D (aE hd) ?_;rfl
theorem SH(z:B)(b:J B):sg (eG z b)=iP (cS z b):=by
 induction b with
 |nil=>rfl
 |cons c b ih=>
  show sg (jR z c++eG z b)=iP (fW z c++cS z b);simp only[Dz,w6,ih];congr 1;unfold fW
  by_cases hg:cI c=true/\c % 2=z
  ·exact D (aU hg)<|D (Jo hg) rfl
  ·refine D (aE hg)<|D (Jp hg) ?_;split<;>rfl
theorem ah4(hb:U b<=50)(tG:∀c∈b,c≠92)(pE:∃c∈b,cI c=true/\c % 2≠z):
  fx (sg<|et b) (sg<|eG z b) k [119,104,111,108,101] [104,97,108,102] [49] [] e=report (gk<|cS z b) k [45,45,45,32,119,104,111,108,101,9,49] [43,43,43,32,104,97,108,102] e/\∀g∈groups (sg<|et b) (sg<|eG z b) k,GoodG g:=by
 refine eh (SF (z:=z) b tG) λG h2 h3=>?_
 have nn:qG (cS z b):=λp hp q=>by
  refine aH (vC.mp hp) λc H hp=>?_
  unfold fW at hp;split at hp
  ·rcases cu.mp hp with rfl|hp
   ·cases q.1
   ·rw[bx] at hp;subst hp;cases q.1
  ·split at hp
   ·rcases cu.mp hp with rfl|hp
    ·cases q.1
    ·rw[bx] at hp;subst hp;cases q.1
   ·rw[bx] at hp;subst hp;cases q.1
 have hlen:U (cS z b)<=400:=by
  have hp:∀c,U (fW z c)<=2:=λc=>by unfold fW;(repeat' split)<;>simp
  have:∀l:J B,U (cS z l)<=2*U l:=λl=>by
   induction l with
   |nil=>exact aG _
   |cons c l ih=>
    show U (fW z c++cS z l)<=_;simp only[aK,cK];have:=hp c;exact AR ih this
  have:=this b;exact Vv this hb
 refine cP pE λc0 hc0 qA zd=>Dx nn ⟨([92],[]),vC.mpr ⟨c0,hc0,?_⟩,by simp⟩ (SG z b) (SH z b) ?_ rfl rfl hlen
 ·unfold fW;exact D (aE λq=>zd q.2)<|D (aU qA)<|.head _
 ·have eA:=(SG z b).trans (Jl _ nn).symm;have eB:=(SH z b).trans (Jm _ nn).symm;refine zS (Z:=[]) (Y:=[]) (by simp only[cM];exact eA) (by simp only[cM];exact eB) ?_
  simp only[eA,eB];refine ahV (off:=w5 z) (λq=>q.2.2 rfl) (λc hc=>?_) (λc hc=>?_) (Jn (P:=λc=>c.1=[[92]]/\∃x r,c.2.2=[x]::r/\w5 z x) λc hc=>⟨(G c hc).1,?_⟩) (λc hc=>?_) (λc hc m x hx=>?_) (by refine bL eA ?_;exact(ahZ z b).sg) (λc F2 e=>by injection e with e _;rw[←e])
  ·rcases cu.mp hc with rfl|hc
   ·rfl
   ·exact(G c hc).2.1
  ·rcases cu.mp hc with rfl|hc
   ·exact λH h=>nomatch h
   ·intro x hx;rw[(G c hc).1] at hx;exact bx.mp hx
  ·exact dh ((G c hc).2.2.1) λx r a b H=>(⟨x,r,a,b⟩)
  ·rcases cu.mp hc with rfl|hc
   ·exact h3
   ·exact(G c hc).2.2.2
  ·rcases cu.mp hc with rfl|hc
   ·exact h2 _ (dT hx) x rfl
   ·refine dh ((G c hc).2.2.1) λy r hr H DB=>?_
    simp only[hr,vz] at hx;exact DB _ (dT hx) x rfl
theorem SI(h:codes f f k=kE k (ni k [(0,0,1,0,1)])):groups f f k=[]:=by
 unfold groups;refine D h ?_
 have e:kE k (ni k [(0,0,1,0,1)])=[jL k<|mz k (0,0,1,0,1)]:=rfl;refine D e<|D uP ?_
 rw[aE (by
  intro dM;obtain⟨_,q⟩:=dM;unfold jL mz at q;dsimp only at q
  exact Vu q)]
 dsimp only[jM];exact D (aU<|.inr ⟨rfl,rfl⟩) rfl
theorem ah5{t:J B}:fx [t] [t] k f1 f2 d1 d2 e=[]/\∀g∈groups [t] [t] k,GoodG g:=by
 have hb:dU [t] [t]=pA [t]++eW (U [t]) (U [t]) []:=by
  simp only[Jj];refine zS (F:=[([],[],[t])]) (Z:=[]) (Y:=[]) rfl rfl λi j k hk hc=>.inl ⟨(0,0,1),.head _,?_,λH H=>.inr<|bH _⟩;have:=(hc (k-1)<|xP hk).1;have hl:U ([t]:J<|J B)=1:=rfl;exact⟨bH _,by dsimp only;exact Vt this hl⟩
 have ho:fH [t] [t]=[(0,0,1,0,1)]:=(IY (f:=[t]) (u:=[t]) (lead:=[t]) (S:=[]) trivial rfl rfl hb).trans rfl;have hg:groups [t] [t] k=[]:=SI (by unfold codes;rw[ho];rfl);exact⟨by unfold fx;rw[hg];rfl,by refine D hg ?_;exact λH h=>nomatch h⟩
theorem ah6:fx [] [] k f1 f2 d1 d2 e=[]/\∀g∈groups [] [] k,GoodG g:=by
 have hb:dU [] []=pA []++eW (U ([]:J<|J B)) (U ([]:J<|J B)) []:=by
  rw[Jj];refine zS (F:=[([],[],[])]) (Z:=[]) (Y:=[]) rfl rfl λi j k hk hc=>?_
  have:=(hc 0 hk).1;exact nomatch this
 have ho:fH [] []=[]:=(IY (lead:=[]) (S:=[]) trivial rfl rfl hb).trans rfl;have hg:groups [] [] k=[]:=SI (by unfold codes;rw[ho];rfl);exact⟨by unfold fx;rw[hg];rfl,by refine D hg ?_;exact λH h=>nomatch h⟩
noncomputable abbrev Ls:=J<|J B
theorem SJ:∀(L:Ls) (r:dY) {c:Ch} {S:J Ch},(∀l∈L,l≠[])->cks r=([],c::S)->cks (L.map (λl=>(l,[]))++r)=([],(L++c.1,c.2.1,c.2.2)::S)
 | []=>λr {c} {S} H h=>h
 |l::L=>λr {c} {S} hl h=>by
  have ih:=SJ L r (λx hx=>hl x<|.tail _ hx) h;have h0:=hl l<|.head _;refine D eu<|D jT<|D (tH h0 _)<|D ih ?_;show([],(opt l++(L++c.1),opt []++c.2.1,c.2.2)::S)=_;exact D (show opt l=[l] from aE h0) rfl
theorem SK:∀(L:Ls) (r:dY) {c:Ch} {S:J Ch},(∀l∈L,l≠[])->cks r=([],c::S)->cks (L.map (λl=>([],l))++r)=([],(c.1,L++c.2.1,c.2.2)::S)
 | []=>λr {c} {S} H h=>h
 |l::L=>λr {c} {S} hl h=>by
  have ih:=SK L r (λx hx=>hl x<|.tail _ hx) h;have h0:=hl l<|.head _;refine D eu<|D jT<|D (tH (λq=>h0 q.symm) _)<|D ih ?_;show([],(opt []++c.1,opt l++(L++c.2.1),c.2.2)::S)=_;exact D (show opt l=[l] from aE h0) rfl
theorem Js:∀(L:Ls) (r:dY),cks (L.map (λl=>(l,l))++r)=(L++(cks r).1,(cks r).2)
 | []=>λr=>rfl
 |l::L=>λr=>by rw[eu,jT,cks_eq,Js L r];rfl
theorem SL:∀(L:Ls),(∀y∈L,y≠[])->L≠[]->cks (L.map λy=>(y,[]))=([],[(L,[],[])])
 | []=>λH h=>aZ rfl h
 | [y]=>λh H=>by
  have hy:=h y<|.head _;refine D (tH hy _) ?_
  show([],[(opt y,opt [],[])])=_;exact D (show opt y=[y] from aE hy) rfl
 |y::y'::L=>λh H=>by
  have hy:=h y<|.head _;have ih:=SL (y'::L) (λq hq=>h q<|.tail _ hq) (by simp);refine D eu<|D (tH hy _)<|D ih ?_;show([],[(opt y++y'::L,opt []++[],[])])=_;exact D (show opt y=[y] from aE hy) rfl
theorem SM(h:∀l∈L,l≠[]):iO (L.map λl=>(l,[]))=L:=by
 induction L with
 |nil=>rfl
 |cons l L ih=>
  show opt l++iO (L.map λl=>(l,[]))=_;exact D (ih λx hx=>h x<|.tail _ hx)<|D (show opt l=[l] from aE<|h l<|.head _) rfl
theorem SN(L:Ls):iO (L.map λl=>([],l))=[]:=by
 induction L with
 |nil=>rfl
 |cons l L ih=>exact ih
theorem SO(h:∀l∈L,l≠[]):iO (L.map λl=>(l,l))=L:=by
 induction L with
 |nil=>rfl
 |cons l L ih=>
  show opt l++iO (L.map λl=>(l,l))=_;exact D (ih λx hx=>h x<|.tail _ hx)<|D (show opt l=[l] from aE<|h l<|.head _) rfl
theorem SP(h:∀l∈L,l≠[]):iP (L.map λl=>([],l))=L:=by
 induction L with
 |nil=>rfl
 |cons l L ih=>
  show opt l++iP (L.map λl=>([],l))=_;exact D (ih λx hx=>h x<|.tail _ hx)<|D (show opt l=[l] from aE<|h l<|.head _) rfl
theorem SQ(L:Ls):iP (L.map λl=>(l,[]))=[]:=by
 induction L with
 |nil=>rfl
 |cons l L ih=>exact ih
theorem SR(h:∀l∈L,l≠[]):iP (L.map λl=>(l,l))=L:=by
 induction L with
 |nil=>rfl
 |cons l L ih=>
  show opt l++iP (L.map λl=>(l,l))=_;exact D (ih λx hx=>h x<|.tail _ hx)<|D (show opt l=[l] from aE<|h l<|.head _) rfl
structure DE(one two:Ls)(b wh:J B):Prop where
 s1:∀x∈one,U x=1
 s2:∀x∈two,U x=1
 b2:2<=U b
 w2:2<=U wh
 ne:b≠wh
 n1:one≠[]
 n2:two≠[]
 head:one[0]?≠two[0]?
 suf:∀aiA,aiA<=U one->aiA<=U two->max (U one) (U two)<=aiA+1->∃v,v<aiA/\one[U one-aiA+v]?≠two[U two-aiA+v]?
noncomputable def ik(one two:Ls)(b:J B):Ls:=one++[b]++two
noncomputable def iQ(one two:Ls)(b wh:J B):Ls:=[wh]++two++[b]++one
section
variable{one two:Ls}{wh:J B}
theorem DF{p:B}(h:p<U one):(ik one two b)[p]?=one[p]?:=by
 unfold ik;rw[cm,cA h]
theorem SS:(ik one two b)[U one]?=some b:=by
 unfold ik;rw[cm,show U one=U one+0 from rfl,kg];rfl
theorem Jt(v:B):(ik one two b)[U one+1+v]?=two[v]?:=by
 have:=kg (one++[b]) two v;rw[aK] at this;exact this
theorem DG{v:B}(h:v<U two):(iQ one two b wh)[1+v]?=two[v]?:=by
 unfold iQ;rw[cm,cm];have:=kg [wh] (two++([b]++one)) v;rw[cA h] at this;exact this
theorem ah7:(iQ one two b wh)[1+U two]?=some b:=by
 unfold iQ;rw[cm];have:=kg ([wh]++two) ([b]++one) 0;rw[aK] at this;exact this
theorem Ju(v:B):(iQ one two b wh)[U two+2+v]?=one[v]?:=by
 have:=kg ([wh]++two++[b]) one v;rw[aK,aK] at this;refine bL this ?_
 congr 1;exact V6
theorem DH:U (ik one two b)=U one+1+U two:=by unfold ik;exact D aK<|D aK rfl
theorem ah8:U (iQ one two b wh)=1+U two+1+U one:=by unfold iQ;refine D aK<|D aK<|D aK ?_;rfl
variable(aiz:DE one two b wh)
include aiz
theorem ah9{p:B}:(ik one two b)[p]?≠some wh:=λe=>by
 have hm:=dT e;unfold ik at hm;simp only[bK,bx] at hm;have:=aiz.w2;rcases hm with (hm|hm)|hm
 ·have:=aiz.s1 _ hm;lia
 ·exact aiz.ne hm.symm
 ·have:=aiz.s2 _ hm;lia
theorem aia{p:B}(e:(ik one two b)[p]?=some b):p=U one:=by
 have hb:=aiz.b2
 by_cases G:p<U one
 ·rw[DF G] at e;have:=aiz.s1 _<|dT e;exact MF hb this
 by_cases h2:p=U one
 ·exact h2
 ·rw[show p=U one+1+(p-U one-1) by exact V5 G h2,Jt] at e;have:=aiz.s2 _<|dT e;exact MF hb this
theorem ST{q:B}(e:(iQ one two b wh)[q]?=some b):q=1+U two:=by
 have hb:=aiz.b2
 by_cases h0:q=0
 ·subst h0;have:(iQ one two b wh)[0]?=some wh:=rfl;rw[this] at e;cases e;exact aZ rfl aiz.ne
 by_cases G:q<1+U two
 ·rw[show q=1+(q-1) by exact V4 h0,DG<|V3 G h0] at e;have:=aiz.s2 _<|dT e;exact ME hb this
 by_cases h2:q=1+U two
 ·exact h2
 ·rw[show q=U two+2+(q-U two-2) by exact V2 G h2,Ju] at e;have:=aiz.s1 _<|dT e;exact ME hb this
theorem zV(hk:0<k)(hc:Dq (ik one two b) (iQ one two b wh) i j k):
  1<=j/\(k+1<=max (U one) (U two)\/(i+k<=U one/\(j+k<=1+U two\/U two+2<=j))\/(U one+1<=i/\i+k<=U one+1+U two/\(j+k<=1+U two\/U two+2<=j))):=by
 have hj:1<=j:=by
  rcases tM j with h|h
  ·subst h;have:=(hc 0 hk).2;exact aZ this<|ah9 aiz
  ·exact h
 refine⟨hj,?_⟩;have sy:=(hc (k-1)<|xP hk).1;rw[DH] at sy;have wY:(i<=U one/\U one<i+k)↔(j<=1+U two/\1+U two<j+k):=by
  constructor
  ·intro dM;refine xA dM λG h2=>?_
   have:=(hc (U one-i)<|V1 h2 G).2;rw[show i+(U one-i)=U one by exact xq ‹_›,SS] at this;have:=ST aiz this.symm;exact V0 this h2 G
  ·intro hU;refine xA hU λG h2=>?_
   have:=(hc (1+U two-j)<|VZ h2 G).2;rw[show j+(1+U two-j)=1+U two by exact xq ‹_›,ah7] at this;have:=aia aiz this;exact VY h2 this G
 by_cases dk:i<=U one/\U one<i+k
 ·refine .inl<|xA dk λG h2=>(xA (wY.mp ⟨G,h2⟩) λh3 h4=>?_);have rl:U one-i=1+U two-j:=by
   have:=(hc (U one-i)<|VX h4 h2 h3).2;rw[show i+(U one-i)=U one by exact xq ‹_›,SS] at this;have:=ST aiz this.symm;exact VW this
  have qK:i+k<=U one+1:=by
   by_cases hq:i+k<=U one+1
   ·exact hq
   exfalso;have:=(hc (U one+1-i)<|VV h4 hq h3).2;rw[show i+(U one+1-i)=U one+1+0 by exact VU G,Jt,show j+(U one+1-i)=U two+2+0 by exact VS rl h3 G,Ju] at this;exact aiz.head this.symm
  by_cases hK:k+1<=max (U one) (U two)
  ·exact hK
  exfalso;refine aH (aiz.suf (k-1) (VR qK) (VQ hj qK rl)<|VP hK) λv hv cw=>?_
  have:=(hc v<|VO hv).2;rw[DF<|VN qK hv,show j+v=1+(U two-(k-1)+v) by exact VM h4 hj qK rl hv,DG<|VL hj qK rl hv,show i+v=U one-(k-1)+v by exact VK h4 qK rl hv] at this;exact cw this
 ·have DB:¬(j<=1+U two/\1+U two<j+k):=λq=>dk (wY.mpr q)
  by_cases G:i<=U one
  ·exact .inr<|.inl ⟨by exact VJ G dk,by exact MD DB⟩
  ·exact .inr<|.inr ⟨by exact vI.mp ‹_›,by exact VI sy,by exact MD DB⟩
theorem aib:dU (ik one two b) (iQ one two b wh)=[if U one<U two then(U one+1,1,U two) else(0,U two+2,U one)]:=by
 have l1:0<U one:=oA.mpr aiz.n1;have l2:0<U two:=oA.mpr aiz.n2;refine gI.unique (rv _ _ (0,U<|ik one two b,0,U<|iQ one two b wh))<|D DH<|D ah8 ?_;dsimp only
 by_cases hL:U one<U two
 ·refine D (aU hL) ?_
  have best:j8 (ik one two b) (iQ one two b wh) 0 (U one+1+U two) 0 (1+U two+1+U one) (U one+1,1,U two):=by
   refine⟨bH _,by dsimp only;exact aG _,bH _,by dsimp only;exact VH,λt ht=>?_,λh=>?_,λi j k H H H H hc=>?_,λi j H H H H hp hc=>?_⟩
   ·
    exact⟨by rw[DH];exact VG ht,by rw[Jt,DG ht]⟩
   ·dsimp only at h;exact(LV hL h).elim
   ·dsimp only;rcases tM k with h0|hk
    ·exact AN h0
    have:=(zV aiz hk hc).2;exact VF this hL
   ·dsimp only at hp hc ⊢;exact xA (zV aiz hp hc) λG h2=>(VE G h2 hL)
  have td:=j8.unique qi best;have:=gI.some (a:=ik one two b) (b:=iQ one two b wh) (l:=[]) (r:=[]) td l2 (.none ?_)<|.none ?_
  ·exact this
  ·have aix:=qi (a:=ik one two b) (b:=iQ one two b wh) (aq:=0) (aS:=U one+1) (au:=0) (aJ:=1);generalize jK (ik one two b) (iQ one two b wh) 0 (U one+1) 0 1=q at*;rcases tM q.2.2 with h0|hp
   ·exact h0
   have:=(zV aiz hp aix.eq).1;have:=aix.jv;have:=aix.lP;lia
  ·exact B9<|.inl<|aG _
 ·refine D (aE hL) ?_
  have best:j8 (ik one two b) (iQ one two b wh) 0 (U one+1+U two) 0 (1+U two+1+U one) (0,U two+2,U one):=by
   refine⟨bH _,by dsimp only;exact VD,bH _,by dsimp only;exact VC,λt ht=>?_,λh=>?_,λi j k H H H H hc=>?_,λi j H H H kb hp hc=>?_⟩
   ·
    exact⟨by rw[DH];exact VB ht,by rw[iu,DF ht,Ju]⟩
   ·dsimp only at h;exact(VA l2 hL h).elim
   ·dsimp only;rcases tM k with h0|hk
    ·exact AN h0
    have:=(zV aiz hk hc).2;exact Vz this hL
   ·dsimp only at hp hc kb ⊢;refine xA (zV aiz hp hc) λG h2=>?_
    rcases tM i with hi|hi
    ·refine .inr ⟨hi.symm,?_⟩
     by_cases hj:U two+2<=j
     ·exact hj
     exfalso;have s9:j=1:=by exact Vy G h2 hj hL
     subst hi s9;have:=(hc 0 hp).2;rw[jy,jy,DF l1,show 1=1+0 from rfl,DG l2] at this;exact aiz.head this
    ·exact .inl hi
  have td:=j8.unique qi best;have:=gI.some (a:=ik one two b) (b:=iQ one two b wh) (l:=[]) (r:=[]) td l1 (.none ?_)<|.none ?_
  ·exact this
  ·exact B9<|.inl<|aG _
  ·exact B9<|.inr Vx
end
section
variable{one two:Ls}{wh:J B}(aiz:DE one two b wh)
include aiz
theorem SU:(∀l∈one,l≠[])/\(∀l∈two,l≠[])/\b≠[]/\wh≠[]:=by
 have z:U ([]:J B)=0:=rfl;refine⟨λl hl e=>?_,λl hl e=>?_,λe=>?_,λe=>?_⟩
 ·have:=aiz.s1 l hl;rw[e] at this;cases this
 ·have:=aiz.s2 l hl;rw[e] at this;cases this
 ·have:=aiz.b2;rw[e,z] at this;contradiction
 ·have:=aiz.w2;rw[e,z] at this;contradiction
theorem aic:cks (gM one two b wh)=([],if U one<U two then[(one++[b],[wh],two),([],b::one,[])] else[([],wh::two++[b],one),(b::two,[],[])]):=by
 refine gg (SU aiz) λo1 o2 o3 o4=>?_
 have aid:∀l∈one++[b],l≠[]:=λl hl=>by
  rcases bK.mp hl with hl|hl
  ·exact o1 l hl
  ·rw[bx] at hl;subst hl;exact o3
 have aie:∀l∈[b]++one,l≠[]:=λl hl=>by
  rcases bK.mp hl with hl|hl
  ·rw[bx] at hl;subst hl;exact o3
  ·exact o1 l hl
 have aif:∀l∈[wh]++two++[b],l≠[]:=λl hl=>by
  rcases bK.mp hl with hl|hl
  ·rcases bK.mp hl with hl|hl
   ·rw[bx] at hl;subst hl;exact o4
   ·exact o2 l hl
  ·rw[bx] at hl;subst hl;exact o3
 have aig:∀l∈[b]++two,l≠[]:=λl hl=>by
  rcases bK.mp hl with hl|hl
  ·rw[bx] at hl;subst hl;exact o3
  ·exact o2 l hl
 unfold gM
 by_cases hL:U one<U two
 ·rw[aU hL,aU hL,cm,cm];have e1:=Jq ([b]++one) aie (by simp);have e2:=Js two<|([b]++one).map λy=>([],y);rw[e1,cM] at e2;have e3:cks ([([],wh)]++(two.map (λl=>(l,l))++([b]++one).map λy=>([],y)))=([],([],[wh],two)::[([],[b]++one,[])]):=by
   show cks (([],wh)::(two.map (λl=>(l,l))++([b]++one).map λy=>([],y)))=_;refine D (tH (λq=>o4 q.symm) _)<|D e2 ?_;cases ht:two with
   |nil=>exact aZ ht aiz.n2
   |cons x l=>
    show([],(opt [],opt wh,x::l)::_)=_;exact D (show opt wh=[wh] from aE o4) rfl
  exact D (SJ _ _ aid e3)<|D (cM _) rfl
 ·rw[aE hL,aE hL,cm];have e1:=SL ([b]++two) aig (by simp);have e2:=Js one<|([b]++two).map λy=>(y,[]);rw[e1,cM] at e2;cases hw:([wh]++two++[b]:Ls) with
  |nil=>cases hw
  |cons x L=>
   have hx:∀l∈x::L,l≠[]:=by exact bL hw aif
   rcases rS (x::L) with h|⟨M,y,h⟩
   ·cases h
   rw[rT] at h;rw[h] at hx ⊢;have hy:=hx y (by simp);have e3:cks ([([],y)]++(one.map (λl=>(l,l))++([b]++two).map λy=>(y,[])))=([],([],[y],one)::[([b]++two,[],[])]):=by
    show cks (([],y)::(one.map (λl=>(l,l))++([b]++two).map λy=>(y,[])))=_;refine D (tH (λq=>hy q.symm) _)<|D e2 ?_;cases ht:one with
    |nil=>exact aZ ht aiz.n1
    |cons x l=>
     show([],(opt [],opt y,x::l)::_)=_;exact D (show opt y=[y] from aE hy) rfl
   rw[eL,cm];have e4:=SK M _ (λl hl=>hx l<|by simp[hl]) e3;have e5:M++[y]=wh::two++[b]:=h.symm.trans hw.symm;exact bL e5 e4
theorem aih(hz:U one<=60/\U two<=60):
  fx (ik one two b) (iQ one two b wh) 3 [104,97,108,102] [111,116,104,101,114] [] [] [10]=report (gk<|gM one two b wh) 3 [45,45,45,32,104,97,108,102] [43,43,43,32,111,116,104,101,114] [10]/\∀g∈groups (ik one two b) (iQ one two b wh) 3,GoodG g:=by
 refine gg (SU aiz) λo1 o2 o3 o4=>?_
 have ap:∀{L M:Ls},(∀l∈L,l≠[])->(∀l∈M,l≠[])->∀l∈L++M,l≠[]:=λG h2 l hl=>(bK.mp hl).elim (G l)<|h2 l;have ob:∀l∈[b],l≠[]:=fM o3;have ow:∀l∈[wh],l≠[]:=fM o4;have hA:ik one two b=iO (gM one two b wh):=by
  unfold gM ik;split
  ·rw[tI,tI,tI,SM<|ap o1 ob,SO o2,SN];show _=one++[b]++[]++two++[];simp
  ·rw[tI,tI,SN,SO o1,SM<|ap ob o2];simp
 have hB:iQ one two b wh=iP (gM one two b wh):=by
  unfold gM iQ;split
  ·rw[w6,w6,w6,SQ,SR o2,SP<|ap ob o1];have:iP [([],wh)]=[wh]:=by show opt wh++[]=_;exact D (show opt wh=[wh] from aE o4) rfl
   refine D this ?_
   simp
  ·rw[w6,w6,SP<|ap (ap ow o2) ob,SR o1,SQ];simp
 have nn:qG (gM one two b wh):=λp hp q=>by
  unfold gM at hp;split at hp
  ·simp only[bK,fb,bx] at hp;rcases hp with ((⟨l,hl,rfl⟩|rfl)|⟨l,hl,rfl⟩)|⟨l,hl,rfl⟩
   ·exact(ap o1 ob) l (by simpa using hl) q.1
   ·exact o4 q.2
   ·exact o2 l hl q.1
   ·exact(ap ob o1) l (by simpa using hl) q.2
  ·simp only[bK,fb,bx] at hp;rcases hp with (⟨l,hl,rfl⟩|⟨l,hl,rfl⟩)|⟨l,hl,rfl⟩
   ·exact(ap (ap ow o2) ob) l (by simpa[or_assoc] using hl) q.2
   ·exact o1 l hl q.1
   ·exact(ap ob o2) l (by simpa using hl) q.1
 refine Dx nn ⟨([],wh),?_,λq=>o4 q.symm⟩ hA hB ?_ rfl rfl ?_
 ·unfold gM;split<;>simp
 ·refine D (aic aiz) (D (aib aiz) ?_)
  by_cases hL:U one<U two
  ·refine D (aU hL)<|D (aU hL) ?_;show _=jf 0 0 ([],[],[])++(jf (dC 0 ([],[],[])) (dS 0 ([],[],[])) (one++[b],[wh],two)++(jf _ _ ([],b::one,[])++[]));unfold jf dC dS;dsimp only;rw[aU rfl,aE aiz.n2,aU rfl,aK];simp
  ·refine D (aE hL)<|D (aE hL) ?_;show _=jf 0 0 ([],[],[])++(jf (dC 0 ([],[],[])) (dS 0 ([],[],[])) ([],wh::two++[b],one)++(jf _ _ (b::two,[],[])++[]));unfold jf dC dS;dsimp only;rw[aU rfl,aE aiz.n1,aU rfl];simp
 ·have:=hz.1;have:=hz.2;unfold gM;split<;>simp only[aK,bg,cK,iR]<;>lia
end
theorem suf_of{P Q:Ls}(aiA:B)(G:aiA<=U ([92]::[46]::[97]::[45]::P))(h2:aiA<=U ([46]::[97]::[92]::[45]::Q))(h3:max (U<|[92]::[46]::[97]::[45]::P) (U<|[46]::[97]::[92]::[45]::Q)<=aiA+1):
  ∃v,v<aiA/\([92]::[46]::[97]::[45]::P)[U ([92]::[46]::[97]::[45]::P)-aiA+v]?≠([46]::[97]::[92]::[45]::Q)[U ([46]::[97]::[92]::[45]::Q)-aiA+v]?:=by
 simp only[cK] at G h2 h3 ⊢
 by_cases a:U P+1+1+1+1=aiA
 ·refine D (by exact Fi a:U P+1+1+1+1-aiA=0) ?_
  refine⟨if U Q+1+1+1+1=aiA then 0 else 0,by split<;>exact Wb a,?_⟩
  by_cases c:U Q+1+1+1+1=aiA
  ·refine D (by exact Fi c:U Q+1+1+1+1-aiA=0)<|D (aU c) ?_;simp
  ·refine D (by exact MK h3 c h2:U Q+1+1+1+1-aiA=1)<|D (aE c) ?_;simp
 ·refine D (by exact Wa h3 a G:U P+1+1+1+1-aiA=1) ?_
  by_cases c:U Q+1+1+1+1=aiA
  ·exact D (show U Q+1+1+1+1-aiA=0 by exact Fi c)<|⟨2,by exact V9 c,by simp⟩
  ·exact D (show U Q+1+1+1+1-aiA=1 by exact MK h3 c h2)<|⟨0,by exact V8 h3,by simp⟩
theorem DI{l:J B}:∀x∈sg l,U x=1:=λx hx=>by
 refine aH (fb.mp hx) λc H av=>?_
 subst av;rfl
theorem aii{r:J B}(hz:z<=1):DE (sg<|eG z<|[46,97,45,46,97]++r) (sg<|nB z<|[46,97,45,46,97]++r) ([46,97,45,46,97]++r) (et<|[46,97,45,46,97]++r):=by
 have SV:2<=U (et<|[46,97,45,46,97]++r):=by
  exact D aK<|dZ _ _
 have SW:([46,97,45,46,97]++r)≠et ([46,97,45,46,97]++r):=λq=>by
  have q:(46:B)::_=92::_:=q;injection q with q _
  cases q
 rcases(MI hz:z=0\/z=1) with rfl|rfl
 ·have e1:∃P,sg (eG 0<|[46,97,45,46,97]++r)=[92]::[46]::[97]::[45]::P:=⟨_,rfl⟩
  have e2:∃Q,sg (nB 0<|[46,97,45,46,97]++r)=[46]::[97]::[92]::[45]::Q:=⟨_,rfl⟩
  obtain⟨P,eP⟩:=e1;obtain⟨Q,eQ⟩:=e2;refine⟨DI,DI,by simp,SV,SW,?_,?_,?_,?_⟩
  ·refine D eP ?_;simp
  ·refine D eQ ?_;simp
  ·refine D eP<|D eQ ?_;simp
  ·exact D eP<|D eQ suf_of
 ·have e1:∃P,sg (eG 1<|[46,97,45,46,97]++r)=[46]::[97]::[92]::[45]::P:=⟨_,rfl⟩
  have e2:∃Q,sg (nB 1<|[46,97,45,46,97]++r)=[92]::[46]::[97]::[45]::Q:=⟨_,rfl⟩
  obtain⟨P,eP⟩:=e1;obtain⟨Q,eQ⟩:=e2;refine⟨DI,DI,by simp,SV,SW,?_,?_,?_,?_⟩
  ·refine D eP ?_;simp
  ·refine D eQ ?_;simp
  ·refine D eP<|D eQ ?_;simp
  ·refine D eP<|D eQ ?_;intro aiA G h2 h3;refine aH (suf_of aiA h2 G (by refine D (B.max_comm _ _) ?_;exact h3)) λv a b=>?_
   exact⟨v,a,λq=>b q.symm⟩
theorem aiu(zs:J az):wN (gb zs) (U zs % 2) (zs.sum.fmod 4).toNat:=by
 have hz:U zs % 2<=1:=by lia
 generalize (U zs) % 2=z at*;generalize (zs.sum.fmod 4).toNat=k;have ht:U (gb zs)<=11:=by
  exact D aK<|D (bg _)<|D gE MJ
 obtain⟨r,hr⟩:∃r,cR (gb zs)=[46,97,45,46,97]++r:=⟨cR<|(zs.take 6).map kZ,by unfold gb cR;rw[xb];rfl⟩
 have hb:U (cR<|gb zs)<=11:=cY (pF _ _) ht;have tG:∀c∈cR (gb zs),c≠92:=λc hc=>dq (rW.mp hc).2;have pE:∃c∈cR (gb zs),cI c=true/\c % 2≠z:=by
  refine D hr ?_
  rcases(by exact MI hz:z=0\/z=1) with rfl|rfl
  ·exact⟨45,by simp,by decide,by decide⟩
  ·exact⟨46,by simp,by decide,by decide⟩
 have hg:∃c∈gb zs,cI c=true:=⟨46,bK.mpr<|.inl<|.head _,by decide⟩
 have a1:=ah5 (t:=gb zs) (k:=k) (f1:=[98,97,114,101]) (f2:=[104,97,108,102]) (d1:=[49]) (d2:=[50]) (e:=dR z);have a2:=ah6 (k:=k) (f1:=[98,97,114,101]) (f2:=[104,97,108,102]) (d1:=[49]) (d2:=[50]) (e:=dR z);have a3:=ah2 (b:=cR<|gb zs) (z:=z) (k:=k) (e:=dR z) (by exact MH hb) tG (by refine D hr ?_;simp);have a4:=ah4 (b:=cR<|gb zs) (z:=z) (k:=k) (e:=dR z) (by exact MH hb) tG pE;have a5:=ahY (t:=gb zs) (k:=k) (e:=dR z) (by exact V7 ht) hg;have F:DE (sg<|eG z<|cR<|gb zs) (sg<|nB z<|cR<|gb zs) (cR<|gb zs) (et<|cR<|gb zs):=by refine D hr ?_;exact aii hz
 have l2:∀(aiC:B->J B),(∀c,U (aiC c)<=2)->∀l:J B,U (l.flatMap aiC)<=2*U l:=λaiC hf l=>by
  induction l with
  |nil=>exact aG _
  |cons c l ih=>
   refine D fa<|D aK<|D cK ?_;have:=hf c;exact AR ih this
 have le:∀c,U (cD c)<=2:=λc=>by unfold cD;split<;>simp
 have lh:U (eG z<|cR<|gb zs)<=22:=by
  have:=l2 (jR z) (λc=>by
   unfold jR;split
   ·exact le c
   ·exact eM 1) (cR (gb zs))
  exact Fh this hb
 have lo:U (nB z<|cR<|gb zs)<=22:=by
  have:=l2 (nA z) (λc=>by
   unfold nA;split
   ·exact eM 1
   ·exact le c) (cR (gb zs))
  exact Fh this hb
 have sl:∀l:J B,U (sg l)=U l:=λl=>bg _;have a6:=aih F ⟨by refine D (sl _) ?_;exact MG lh,by refine D (sl _) ?_;exact MG lo⟩;exact⟨a1.1,a2.1,a3.1,a4.1,a5.1,a6.1,a1.2,a2.2,a3.2,a4.2,a5.2,a6.2⟩
end
end Mine
theorem PySem.Challenge.cw_we0038_01_holds : PySem.Challenge.rw_we0038_01.Holds :=
 Mine.air fun zs H=>Mine.aiu zs
