import PyProof.Rows.All
import PyProof.TableCode
import PyProof.MeetsSeq3
import PyProof.Rows.SetFrom
import KE.KBoundM
import KE.KLam
import KE.KDictList
import KE.KIntText
import KE.KItemsList
import KE.KRevIter
import KE.KSetDisp
import KE.KSortTup
import Wide.FinOn
import OpenK.AllK
import Wide.All
import Lean
import PySem.Challenge.RW_tc0100_01
set_option maxRecDepth 100000
set_option maxHeartbeats 4000000
set_option Elab.async false
set_option linter.all false
set_option genInjectivity false
set_option genSizeOf false
set_option backward.match.sparseCases false
set_option bootstrap.genMatcherCode false
set_option compiler.extract_closed false
open And renaming intro->yU
open Array renaming getElem?_eq_getElem->dW,length_toList->dZ,getD_eq_getD_getElem?->eG,getElem?_eq_some_iff->eY,replicate->kM,getElem?_toList->l5,size_eq_zero_iff->qu,mem_iff_getElem?->qy,size_eq_one_iff->rQ,toList_push->vZ,perm_iff_toList_perm->zU,mem_of_getElem?->Ee,toArray_toList->FV,any_toList->NY,getD->Zb
open Bool renaming and_eq_true->bc,false_ne_true->ck,not_eq_true->fG,eq_false_iff->f9,or_eq_true->ik,not_eq_true'->iu,or_eq_false_iff->jU,and_true->mR,eq_iff_iff->nq,true_and->pB,and_eq_false_iff->Gj,noConfusion->Of,and_false->S6
open Classical renaming not_not->tq
open Eq renaming symm->qaz
open ForInStep renaming yield->mw
open Int renaming toNat_natCast->cx,zero_add->fM,ofNat_le->kd,ofNat_lt->rL,toNat_of_nonneg->uJ,add_zero->wW,le_of_lt->wX,mul_add->y9,neg_one_mul->zI,not_lt->B4,zero_mul->FL,fmod_nonneg_of_pos->Gk,le_sub_one_of_lt->Jm,le_refl->Js,natCast_nonneg->NI,fmod_lt_of_pos->N4,add_left_comm->Oh,sub_pos_of_lt->Ol,max_eq_right->RD,min_eq_right->RE,min_eq_left->SR,max_eq_left->SS,natCast_add->SU,natCast_mul->SV,mul_nonneg->VR,add_assoc->Wi,lt_or_le->YX,le_of_eq->YY,sub_zero->Y2,le_trans->Y4,one_mul->qaj,mul_one->qak,not_le->qcU
open Int.ofNat renaming inj->JG
open LawfulBEq renaming eq_of_beq->kN
open LawfulMonad renaming bind_assoc->nG,pure_bind->wD
open Lean renaming Syntax->FJ
open Lean.Unhygienic renaming run->js
open List renaming mem_append_left->ac,length_map->af,mem_append_right->ag,range->am,mem_append->ao,getD_eq_getElem?_getD->ar,length_append->aw,getElem?_eq_getElem->ay,mem_singleton->aB,getElem?_map->aI,size_toArray->aL,map_map->aQ,map_append->aU,replicate->aW,mem_cons->aX,length_range->aZ,all_eq_true->bg,mem_map->bp,length_singleton->bx,getElem?_eq_some_iff->bz,map_congr_left->bL,map_cons->bN,idxOf_lt_length_of_mem->bS,getElem_mem->bV,mem_of_getElem?->bX,append_nil->cg,append_assoc->cm,length_cons->cq,length_filter_le->cH,pairwise_map->cJ,getElem?_range->cM,mem_filter->c3,mem_range->c5,toArray->c7,mem_map_of_mem->db,pairwise_iff_getElem->dh,mem_flatMap->dj,length_replicate->dr,nodup_cons->du,range_succ->dv,filter_append->dP,find?_cons->dQ,length_take->dU,length_reverse->d4,take_add_one->d7,contains_iff_mem->d8,cons_append->eF,replicate_succ'->eH,flatMap_cons->e8,flatten_cons->e9,nodup_append->fb,all_append->fq,filter_cons->fF,append->fT,nil_append->ge,ext_getElem->gJ,length_drop->gK,pairwise_cons->gO,append_ne_nil_of_right_ne_nil->gR,nodup_nil->iS,take_length->iU,lt_irrefl->iV,take_of_length_le->jg,foldl_cons->jt,getElem?_eq_none->jz,mem_iff_getElem?->jA,getElem?_append_right->jX,exists_cons_of_ne_nil->jY,cons_ne_nil->j6,drop_eq_getElem_cons->kf,getElem?_append_left->ki,flatten_append->ko,rec->kI,any_cons->kJ,length_eq_zero_iff->ll,append_ne_nil_of_left_ne_nil->lp,length_eq_one_iff->lI,all_cons->mO,length->mX,length_set->nh,idxOf_cons->nj,dropLast_concat_getLast->nk,flatMap_append->nH,getElem_range->oe,getElem_idxOf->oh,find?_eq_none->oj,getElem?_eq_none_iff->oL,lookup->pe,range'->pf,filter_cons_of_pos->qg,pairwise_singleton->qi,map_nil->qI,idxOf->qJ,forIn_cons->rM,length_nil->rN,map_id->sG,length_dropLast->sJ,mem_of_mem_drop->sK,mem_of_mem_take->sL,exists_cons_of_length_eq_add_one->tF,map_eq_nil_iff->tM,length_pos_iff->tO,Nodup->uW,all_map->wy,idxOf_append->wK,reverse_cons->wL,lookup_cons->xu,range'_succ->xx,zipIdx_cons->xy,mem_flatten->xB,flatten_nil->xC,eq_nil_of_length_eq_zero->yY,not_lt->yZ,filter_map->y8,map->AD,forIn_nil->AE,length_eraseIdx_of_lt->AH,range'_eq_map_range->Cn,map_set->D9,drop_of_length_le->Eb,append_eq_nil_iff->Ec,range_succ_eq_map->Eg,filterMap_append->FW,getElem?_toArray->FX,cons_lt_cons_iff->Gi,mem_cons_of_mem->HO,mem_iff_getElem->HQ,idxOf_eq_length->HU,idxOf_le_length->HX,filterMap_cons->Jq,length_flatten->Ju,filter_eq_self->Jv,length_take_le->Jz,filterMap_map->JJ,contains_cons->JM,zipIdx_append->JO,filter_filter->JP,length_zipIdx->JR,ext_getElem?->NL,any_eq_false->NQ,filter_congr->NT,take_sublist->NW,foldl_append->N1,not_mem_nil->Og,any_eq_true->Oi,isEmpty_iff->Oj,flatMap_nil->Oq,drop_length->Ot,getElem_set->Ov,map_const'->R0,drop_zero->SZ,drop_left->S9,lt_trans->V0,any_map->Wm,Sublist->Wy
open List.Pairwise renaming nil->Y0
open List.Sublist renaming cons_cons->xA
open List.cons renaming inj->cA
open Min renaming min->D5
open Nat renaming le_refl->ah,le_trans->aA,lt_of_lt_of_le->aT,not_lt->aV,le_of_ble_eq_true->bE,zero_le->bG,lt_succ_self->bH,lt_irrefl->cp,ne_of_lt->cw,beq->cG,ble->cK,le_succ->cL,lt_or_eq_of_le->cU,lt_succ_of_lt->c4,le_of_lt->c9,le_of_eq->dm,le_succ_of_le->dy,zero_add->fe,not_lt_zero->ft,blt->fy,le_add_right->fK,lt_trans->fO,le_of_lt_succ->gb,le_of_succ_le->gc,add_sub_cancel->jm,blt_eq->jn,eq_of_beq_eq_true->jI,ne_of_gt->kh,succ_pos->lR,rec->lT,lt_of_succ_lt_succ->lV,lt_or_ge->nO,sub_self->nR,add->nS,lt_trichotomy->pF,le_of_not_lt->qr,succ_le_succ->qw,mul_le_mul->tC,pos_iff_ne_zero->uK,add_left_cancel->uQ,succ_lt_succ->yX,one_pos->zg,min_le_left->zN,succ_add_eq_add_succ->DR,add_zero->FY,sub_eq_zero_of_le->HN,le_sub_one_of_lt->Jx,max_le->NK,lt_or_gt_of_ne->NM,lt_of_le_of_lt->NO,mod_lt->NS,lt_of_le_of_ne->NZ,lt_of_succ_le->Op,min_le_right->RL,le_max_right->RN,succ_ne_zero->RO,le_max_left->S3,le_add_left->Ta,add_assoc->Wp,le_total->YW,mul_zero->Y7,add_mul->qan,one_mul->qao,two_pos->qau,sub_le->qcX
open Nat.succ renaming inj->pD
open Ne renaming symm->qaq
open OfNat renaming ofNat->FK
open Option renaming some->ab,none->aC,bind_eq_some_iff->kO,map_eq_some_iff->qe,bind_eq_bind->sI,none->wZ,map_some->xz,bind_some->JQ,rec->Wv
open Option.some renaming inj->bt
open PUnit renaming unit->Zf
open Prod renaming rec->HY
open Prod.mk renaming inj->DU
open Pure renaming pure->cD
open PyProof.Rows renaming seqObj->ca,listItems_at->eM,get?_update_seq->jR,listUpdate_at->jW,evalArgs_kw2->kR,kwAll_nil->l0,seqEpoch_at->qK,joinParts_cons->vS,FormattedValue_plain->vU,mirror_perm->vV,evalArgs_kw2_nil->B7,entry_list_sort->DW,AllBare->D6,Subscript_->FU,Attribute_name->FZ,slot_list_sort->Ge,rangeSize_nat->Jo,eqGives_str->RX,fit_lower->qal,evalArgs_kw2_nil->qar,kwAll_nil->qas,formatField_str->qat,list_sort_plain->qav,JoinedStr_many->qcY,args_list_sort->qc2
open PyProof.Rows.F renaming plain_set_update_loop->rR,entry_set_update_loop->HV
open PySem renaming wpAny_bind->aa,wpAny_pure->au,Value->aE,Shared->aH,sizeLine_eq->aJ,model->aO,wpAny->aP,strKind->aR,sizeLine->be,keywordEach->bk,wpAny_holding->bq,starEach->br,Addr->bu,Expr->bv,foldedSetIterable->bw,World->bC,wpAny_execs_cons->bF,backToKw->bR,Str->bT,wpAny_ite_split->bZ,swapsWith->cf,wpAny_mono->cj,wpAny_standAt->cz,wpAny_newObj_type->cE,Around->cO,compareOp->cQ,backTo->dc,comprehension->dk,eval->dp,builtinLookup_eq_fast->dw,callWith->dB,cellsFrom->dI,wpAny_call_entry->dJ,wpAny_of_eq->dK,standAt->ej,bound->eE,sliceBounds->eZ,mainGlobals->fC,letOwnedTupleGo->fE,typeLookup_type->fH,codeAny_builtin->fJ,holding->fL,typeIs_str->fV,wpAny_rule->fW,Heap->gn,wpAny_list_append_plain->gp,wpAny_callSpecial?_slot->gq,wpAny_setState_of->gu,rawInt->gH,wpAny_typeOf->gV,treeTable->ia,getMethod->ib,sliceRange->il,isSubtype_type->ip,DictEntry->iL,binaryOp->iN,wpAny_Assign_Name->iO,call_meets->i5,Sem->jj,run->jk,execs->jl,interactive->jy,pushCells->jS,plainId_quiet->jV,Params->j3,wpAny_assign_Name->j5,wpAny_loadName_local->kz,wpAny_call->kB,codeAny->kP,wpAny_items_cons->kQ,wpAny_askSetting->kW,wpAny_isInstance->kX,OsState->lz,Stmt->lS,assign->lU,wpAny_field->l6,pyNext->mL,pyIter->mM,slot_list_getitem->mP,getMethod_builtin->mQ,Obj->mV,swappedStores->nI,wpAny_attempt->nJ,Flow->nP,step->oD,wpAny_items_nil->oF,recursionLimit->pX,compPost->pY,slot_listiter_next->p7,wpAny_truthy_bool->qB,newList->qC,wpAny_pyIter_list->qD,valueAt->qH,wpAny_newList->rP,entryFor->sn,entryFor_of_tree->so,wpAny_load->tr,typeLookup->tw,wpAny_Assign_Subscript->tx,pushCells_keeps->tJ,wpAny_updateSeq->tK,Env->uS,compTurn->vM,IsRangeIter->vN,wpAny_seqItems->vR,wpAny_newTuple->vW,relayAll->vY,seqIndex?->wE,limitOf->wG,scanBound->wI,call->wY,length_partsBetween->w0,wpAny_setEntries_of->w3,wpAny_Constant_str->yR,wpAny_pyIter_range->yS,assignEach->yT,argsOk->yV,splitAtGen->yW,GenState->zH,bootBuiltins->zJ,fresh->zK,table->zL,wpAny_truthy_list->zM,call_meetsIn->zR,SetTable->zW,wpAny_storeSet_of->zX,plainObj_wpAny_Assign_Attribute->AJ,IsPart->B5,pickOrder->B9,Scope->Cg,wpAny_BinOp->Ch,evalThenUse->Cj,wpAny_execs_nil->DS,theTreesLotGoes->DT,wpAny_specialOf->DV,Pos->D7,newDict->Ea,denote->FI,wpAny_Name->FM,newFunctionEnv->FN,wpAny_newFunctionEnv_cells->FO,execs_cons->FP,closureFor->FQ,wpAny_List->FR,plain->FS,wpAny_runValue->F8,wpAny_listPart->Ga,wpAny_setField->Gb,firstArgMember->Gc,isSubtype_stop->Gd,setDisplayStar->Gg,wpAny_loadPart->Gh,callWith_type->HS,wpAny_getItem_list_slice->Jr,assignInOrder->Jt,wpAny_handled->Jw,strLen_append->JA,wpAny_For->JH,inplaceOp->JI,wpAny_pyNext_range_item->JK,codeAny_compStart_list->NJ,leafOf->NP,wpAny_storeName_local->Om,FuncData->RG,NameKind->RJ,bindArgs->RK,wpAny_letGo->RQ,raiseNew->RS,wpAny_throw->RT,setGen_self->RV,codeAny_call_builtin->RW,SetOf_store->RY,wpAny_loadName_cell->SW,codeAny_forLoop_any->SX,entry_listiter_next->S4,Thread->VQ,wpAny_Constant_int->VS,wpAny_isTrue_value->VT,wpAny_getItem_list->VU,typeOf->VV,args_listiter_next->VX,newExc->VY,revObj->VZ,wpAny_Return_some->Wj,again->Wk,slot_dict_getitem->Wn,setItem->Wq,wpAny_sequenceKey->Wr,slot_list_setitem->Ws,slot_dict_setitem->Wt,fits_of_scanBound->Wu,wpAny_pyIter_slot->Ww,wpAny_dictEntries->Wx,call->YV,noteFrame->YZ,small_one->Y1,wpAny_getItem_of->Y3,arm_assign_Tuple->Y5,wpAny_Assign_two->Y6,meets_dict_items->Y8,updateSeq->Zd,importedModules->qag,codeAny_of_tree->qam,wpAny_dictEpoch->qaw,getAttrByItsOwn->qay,entryFor_alias->qcZ,checkBoundCall->qc3
open PySem.Around renaming under_plainId->eD
open PySem.AutoSeq1 renaming wpAny_loadPart'->zi
open PySem.Bind renaming lastOf->Zg
open PySem.BindsTo renaming of_eq->cb
open PySem.Builtin renaming divisionGoesByPylong->mN,sorted->Ca,iter->Y9
open PySem.Builtin.Frozenset renaming sizeOf->RZ
open PySem.Builtin.Generator renaming sleptOver->sd,genWake->sH
open PySem.Builtin.Int renaming intBits->qcW
open PySem.Builtin.List renaming listSameRef->ni,listSubscript?->uL,listLengthHint->uM,listExtendWith->uO,listTooLong->wH,listItems->qap
open PySem.Builtin.Range renaming rangeSize->fw,small->pZ
open PySem.Builtin.Str renaming occurrences->kC,partsBetween->ph,tooLong->qx,strSliceIndices->uU,occurrencesFromRight->vQ,occurrences->xw
open PySem.Calls renaming Name_function_global->RF
open PySem.Code renaming builtin->Eh
open PySem.DisplayRoad renaming oneByOne->zZ,constants->qc0,unsure->qc1
open PySem.End renaming susp->tD
open PySem.F renaming slot_str_split->eU,entry_str_split->fU,slot_str_rsplit->kK,slot_dict_items->kL,args_str_rsplit_3->nQ,args_str_split_3->oG,entry_str_rsplit->oH,args_str_split_2->oI,slot_list_append->oJ,plainAttrs_dict->pi,slot_dict_get->qz,slot_list_lt->rO,args_dict_items_1->zh,slot_str_getitem->zO,type_list_append->zP,slot_list_extend->zQ,entry_dict_items->zS,type_dict_items->AF,plain_list_iadd->AI,slot_list_clear->AK,entry_dict_get->Cb,slot_list_pop->Ci,slot_set_iter->Cm
open PySem.Frame renaming guarded->tL
open PySem.Heap renaming get?_push_of_some->aG,get?_push_size->aM,lt_size->aS,size_push->aY,SameBut->cN,get?_update_self->fx,get?_update_other->qM,ExtBut->HP,size_update->Ou
open PySem.Heap.SameBut renaming update->bB
open PySem.IsL renaming update->lw
open PySem.Manifest renaming signature?->DX
open PySem.MeetsSeq renaming EqGives->HT,list_pop_last->Wo
open PySem.NameKind renaming free->dA,cell->eJ
open PySem.Obj renaming mapSeq->bQ,data_mapFields->oK,isFreed_of_fields->HR,mapSeq_push_plain->HW,cls_mapFields->Os,putName->qax
open PySem.PyData renaming keyHash->eX,eqv->i8,depthAll->mW,strOk->qh,canLay0->sc,canLayAll0->uT,showable->N2,shownAll->N3,depth->SY,shown->Tb
open PySem.PyData.list renaming inj->D8
open PySem.Sem renaming onRaise->pA,bind_eq_wrap'->pC,wrap_wrap->uV,onRaise_eq_wrap->JN
open PySem.SeqAt renaming eqv_refl->qc5
open PySem.SetTable renaming sizeAbove->dL,grown->jB,bits->ol,runEnd->wJ,laid->zj,fits->zk,orStandIn->Ef,layClean->Gf,relaid->Jy,leap->NV
open PySem.SetTable.layClean renaming free->uP
open PySem.Shared renaming TypeIs->AG,setGen->RU
open PySem.Str renaming empty->jx,ofString->nN,length->vP,ext'->Jp
open PySem.StrLaws renaming occ_length_le_len->zf,At->V1
open PySem.Txt renaming lower->iw,split->i6,splitMax->ke,rsplitMax->kU,slice->lm,replace->ze,upper->RM
open PySem.Value renaming none->cS,type->d3,isStrOf->d9,ref->iP,isStrOf_shape->tz,str->Ck
open PySem.W renaming callWith_of->dC,findIn->eW,methodCall_KW->gX,kas_sort->iq,instObj->iQ,sub->kn,emptyDict->l7,kas_place->l8,kas_asc->pj,kla_obj->pk,piecesOf->vK,SharedT->wA,piece_app->wB,segRun_of->wC,segRunT->zG,kas_desc->zV,drawn->zY,lookIn->B8,kas_rev->Ed,special_fn->F9,looks_findIn->NN,kas_bin->NR,takerIn->NX,lets->RH,clsIn->RP,typeIn->VW,opening->Wh,KasT->Za,kas_count->Zc,methodObj->Ze,cellsFrom_some->qcV
open PySem.W.Fast renaming te14364793385576792824->bM,te10110043849684766642->cW,te11892475500146522536->qo,te15667345088766844465->qaa,te14374325043358763698->qab,te14082659384304107361->qac,te10156331382660048174->qad,te1435165496053646825->qae,te14289696077712309145->qaf,te4187177175401517315->qah,te9446332074065402090->qai
open PySem.W.Looks renaming of_pure->B6,ld->qc4
open PySem.Walks renaming list->Jn,range->Wl
open PySem.isSame renaming cachedInt->JL,created->Oo
open PySem.pickOrder renaming go->tE
open StateT renaming run_pure->NU
open Std.Legacy.Range renaming forIn_eq_forIn_range'->S7,size->S8
open ToString renaming toString->FT
noncomputable section
local macro_rules
  | `(#v[]) => `(by kernel_rfl)
  | `(#v[_]) => `(by decide)
  | `(#v[$x]) => `(by exact $x)
namespace Mine
universe u v
def iX{a:Type u}{P:List a->Prop}(n:P [])(c:∀x r,P r->P (x::r))(l):P l:=l.rec n c
def gx{a:Type u}{P:List a->Prop}(n:P [])(c:∀x r,P r->P (x::r)){l}:P l:=l.rec n c
def zo{a:Type u}{b:Type v}{P:List (a×b)->Prop}(n:P [])(c:∀x y r,P r->P ((x,y)::r))(l):P l:=l.rec n λp=>c p.1 p.2
def wt{a:Type u}{b:Type v}{P:List (a×b)->Prop}(n:P [])(c:∀x y r,P r->P ((x,y)::r)){l}:P l:=l.rec n λp=>c p.1 p.2
def ig{P:Nat->Prop}(z:P 0)(s:∀k,P k->P (k+1))(n):P n:=n.rec z s
def Aw{P:Nat->Prop}(z:P 0)(s:∀k,P k->P (k+1)){n}:P n:=n.rec z s
def nE{a:Type u}{l:List a}(h:l≠[]):(!l.isEmpty)=true:=by cases l with|nil=>exact absurd rfl h|cons z y=>rfl
def pE{a:Type u}{b:Type v}{l:List a}{f:a->b}(h:(!(l.map f).isEmpty)=true):0<l.length:=by cases l with|nil=>cases h|cons z y=>exact lR _
def zE{a:Type u}{b:Type v}{l:List a}{f:a->b}(h:(!(l.map f).isEmpty)=false):l=[]:=by cases l with|nil=>rfl|cons z y=>cases h
universe u0 u1 u2 u3 u4 u5 u6 u7
def dS{a p1:Prop}{c:Prop}(h:a/\p1)(k:a->p1->c):c:=k h.1 h.2
def ka{a p1 p2:Prop}{c:Prop}(h:a/\p1/\p2)(k:a->p1->p2->c):c:=k h.1 h.2.1 h.2.2
def sE{a p1 p2 b:Prop}{c:Prop}(h:a/\p1/\p2/\b)(k:a->p1->p2->b->c):c:=k h.1 h.2.1 h.2.2.1 h.2.2.2
def iA{b:Sort u0}{d:b->Prop}{c:Prop}(h:∃a,d a)(k:∀a,d a->c):c:=h.elim λa h=>k a h
def cY{b:Sort u0}{d p1:b->Prop}{c:Prop}(h:∃a,d a/\p1 a)(k:∀a,d a->p1 a->c):c:=h.elim λa h=>k a h.1 h.2
def mB{b:Sort u0}{d p1 p2:b->Prop}{c:Prop}(h:∃a,d a/\p1 a/\p2 a)(k:∀a,d a->p1 a->p2 a->c):c:=h.elim λa h=>k a h.1 h.2.1 h.2.2
def Hl{b:Sort u0}{d p1 p2 e:b->Prop}{c:Prop}(h:∃a,d a/\p1 a/\p2 a/\e a)(k:∀a,d a->p1 a->p2 a->e a->c):c:=h.elim λa h=>k a h.1 h.2.1 h.2.2.1 h.2.2.2
def j14{b:Sort u0}{d p1 p2 e f:b->Prop}{c:Prop}(h:∃a,d a/\p1 a/\p2 a/\e a/\f a)(k:∀a,d a->p1 a->p2 a->e a->f a->c):c:=h.elim λa h=>k a h.1 h.2.1 h.2.2.1 h.2.2.2.1 h.2.2.2.2
def W0{b:Sort u0}{d p1 p2 e f g:b->Prop}{c:Prop}(h:∃a,d a/\p1 a/\p2 a/\e a/\f a/\g a)(k:∀a,d a->p1 a->p2 a->e a->f a->g a->c):c:=h.elim λa h=>k a h.1 h.2.1 h.2.2.1 h.2.2.2.1 h.2.2.2.2.1 h.2.2.2.2.2
def GU{d:Sort u0}{e:Sort u1}{f:d->e->Prop}{c:Prop}(h:∃a,∃b,f a b)(k:∀a b,f a b->c):c:=h.elim λa h=>h.elim λb h=>k a b h
def m8{d:Sort u0}{e:Sort u1}{f p1:d->e->Prop}{c:Prop}(h:∃a,∃b,f a b/\p1 a b)(k:∀a b,f a b->p1 a b->c):c:=h.elim λa h=>h.elim λb h=>k a b h.1 h.2
def qd{d:Sort u0}{e:Sort u1}{f p1 p2:d->e->Prop}{c:Prop}(h:∃a,∃b,f a b/\p1 a b/\p2 a b)(k:∀a b,f a b->p1 a b->p2 a b->c):c:=h.elim λa h=>h.elim λb h=>k a b h.1 h.2.1 h.2.2
def GR{d:Sort u0}{e:Sort u1}{f p1 p2 g:d->e->Prop}{c:Prop}(h:∃a,∃b,f a b/\p1 a b/\p2 a b/\g a b)(k:∀a b,f a b->p1 a b->p2 a b->g a b->c):c:=h.elim λa h=>h.elim λb h=>k a b h.1 h.2.1 h.2.2.1 h.2.2.2
def Nw{e:Sort u0}{f:Sort u1}{g:Sort u2}{i p1:e->f->g->Prop}{c:Prop}(h:∃a,∃b,∃d,i a b d/\p1 a b d)(k:∀a b d,i a b d->p1 a b d->c):c:=h.elim λa h=>h.elim λb h=>h.elim λd h=>k a b d h.1 h.2
def DZ{e:Sort u0}{f:Sort u1}{g:Sort u2}{i p1 p2:e->f->g->Prop}{c:Prop}(h:∃a,∃b,∃d,i a b d/\p1 a b d/\p2 a b d)(k:∀a b d,i a b d->p1 a b d->p2 a b d->c):c:=h.elim λa h=>h.elim λb h=>h.elim λd h=>k a b d h.1 h.2.1 h.2.2
def PX{e:Sort u0}{f:Sort u1}{g:Sort u2}{i p1 p2 j:e->f->g->Prop}{c:Prop}(h:∃a,∃b,∃d,i a b d/\p1 a b d/\p2 a b d/\j a b d)(k:∀a b d,i a b d->p1 a b d->p2 a b d->j a b d->c):c:=h.elim λa h=>h.elim λb h=>h.elim λd h=>k a b d h.1 h.2.1 h.2.2.1 h.2.2.2
def SL{e:Sort u0}{f:Sort u1}{g:Sort u2}{i p1 p2 j l:e->f->g->Prop}{c:Prop}(h:∃a,∃b,∃d,i a b d/\p1 a b d/\p2 a b d/\j a b d/\l a b d)(k:∀a b d,i a b d->p1 a b d->p2 a b d->j a b d->l a b d->c):c:=h.elim λa h=>h.elim λb h=>h.elim λd h=>k a b d h.1 h.2.1 h.2.2.1 h.2.2.2.1 h.2.2.2.2
def ES{f:Sort u0}{g:Sort u1}{i:Sort u2}{j:Sort u3}{l p1:f->g->i->j->Prop}{c:Prop}(h:∃a,∃b,∃d,∃e,l a b d e/\p1 a b d e)(k:∀a b d e,l a b d e->p1 a b d e->c):c:=h.elim λa h=>h.elim λb h=>h.elim λd h=>h.elim λe h=>k a b d e h.1 h.2
def T6{f:Sort u0}{g:Sort u1}{i:Sort u2}{j:Sort u3}{l p1 p2 m:f->g->i->j->Prop}{c:Prop}(h:∃a,∃b,∃d,∃e,l a b d e/\p1 a b d e/\p2 a b d e/\m a b d e)(k:∀a b d e,l a b d e->p1 a b d e->p2 a b d e->m a b d e->c):c:=h.elim λa h=>h.elim λb h=>h.elim λd h=>h.elim λe h=>k a b d e h.1 h.2.1 h.2.2.1 h.2.2.2
def Xp{f:Sort u0}{g:Sort u1}{i:Sort u2}{j:Sort u3}{l p1 p2 m n:f->g->i->j->Prop}{c:Prop}(h:∃a,∃b,∃d,∃e,l a b d e/\p1 a b d e/\p2 a b d e/\m a b d e/\n a b d e)(k:∀a b d e,l a b d e->p1 a b d e->p2 a b d e->m a b d e->n a b d e->c):c:=h.elim λa h=>h.elim λb h=>h.elim λd h=>h.elim λe h=>k a b d e h.1 h.2.1 h.2.2.1 h.2.2.2.1 h.2.2.2.2
def UR{g:Sort u0}{i:Sort u1}{j:Sort u2}{l:Sort u3}{m:Sort u4}{n:g->i->j->l->m->Prop}{c:Prop}(h:∃a,∃b,∃d,∃e,∃f,n a b d e f)(k:∀a b d e f,n a b d e f->c):c:=h.elim λa h=>h.elim λb h=>h.elim λd h=>h.elim λe h=>h.elim λf h=>k a b d e f h
def j51{g:Sort u0}{i:Sort u1}{j:Sort u2}{l:Sort u3}{m:Sort u4}{n p1:g->i->j->l->m->Prop}{c:Prop}(h:∃a,∃b,∃d,∃e,∃f,n a b d e f/\p1 a b d e f)(k:∀a b d e f,n a b d e f->p1 a b d e f->c):c:=h.elim λa h=>h.elim λb h=>h.elim λd h=>h.elim λe h=>h.elim λf h=>k a b d e f h.1 h.2
def j52{g:Sort u0}{i:Sort u1}{j:Sort u2}{l:Sort u3}{m:Sort u4}{n p1 p2:g->i->j->l->m->Prop}{c:Prop}(h:∃a,∃b,∃d,∃e,∃f,n a b d e f/\p1 a b d e f/\p2 a b d e f)(k:∀a b d e f,n a b d e f->p1 a b d e f->p2 a b d e f->c):c:=h.elim λa h=>h.elim λb h=>h.elim λd h=>h.elim λe h=>h.elim λf h=>k a b d e f h.1 h.2.1 h.2.2
def j53{g:Sort u0}{i:Sort u1}{j:Sort u2}{l:Sort u3}{m:Sort u4}{n p1 p2 o:g->i->j->l->m->Prop}{c:Prop}(h:∃a,∃b,∃d,∃e,∃f,n a b d e f/\p1 a b d e f/\p2 a b d e f/\o a b d e f)(k:∀a b d e f,n a b d e f->p1 a b d e f->p2 a b d e f->o a b d e f->c):c:=h.elim λa h=>h.elim λb h=>h.elim λd h=>h.elim λe h=>h.elim λf h=>k a b d e f h.1 h.2.1 h.2.2.1 h.2.2.2
def j56{g:Sort u0}{i:Sort u1}{j:Sort u2}{l:Sort u3}{m:Sort u4}{n p1 p2 o p q r:g->i->j->l->m->Prop}{c:Prop}(h:∃a,∃b,∃d,∃e,∃f,n a b d e f/\p1 a b d e f/\p2 a b d e f/\o a b d e f/\p a b d e f/\q a b d e f/\r a b d e f)(k:∀a b d e f,n a b d e f->p1 a b d e f->p2 a b d e f->o a b d e f->p a b d e f->q a b d e f->r a b d e f->c):c:=h.elim λa h=>h.elim λb h=>h.elim λd h=>h.elim λe h=>h.elim λf h=>k a b d e f h.1 h.2.1 h.2.2.1 h.2.2.2.1 h.2.2.2.2.1 h.2.2.2.2.2.1 h.2.2.2.2.2.2
def j60{i:Sort u0}{j:Sort u1}{l:Sort u2}{m:Sort u3}{n:Sort u4}{o:Sort u5}{p:i->j->l->m->n->o->Prop}{c:Prop}(h:∃a,∃b,∃d,∃e,∃f,∃g,p a b d e f g)(k:∀a b d e f g,p a b d e f g->c):c:=h.elim λa h=>h.elim λb h=>h.elim λd h=>h.elim λe h=>h.elim λf h=>h.elim λg h=>k a b d e f g h
@[elab_as_elim] def rwr{c:Sort u0}{a b:c}{m:c->Prop}(h:a=b)(k:m b):m a:=h▸k
@[elab_as_elim] def rwl{c:Sort u0}{a b:c}{m:c->Prop}(h:b=a)(k:m b):m a:=h▸k
def ba{a b:Bool}(h:(a&&b)=true):a=true/\b=true:=(bc a b).mp h
def bn{a:Bool}(h:(!a)=true):a=false:=(iu a).mp h
def leb{a b:Nat}(h:cK a b=true):a<=b:=bE h
def PU{a b c d:Prop}(h:a/\b/\(c\/d)):c\/a/\b/\d:=h.2.2.imp id λq=>⟨h.1,h.2.1,q⟩
def SI{g:Sort u0}{p q:Prop} [Decidable p] [Decidable q]{a b c d:g}(h:p↔q)(e:a=b)(f:c=d):(if p then a else c)=if q then b else d:=by
 subst e f;by_cases z:p
 .exact(if_pos z).trans (if_pos (h.mp z)).symm
 .exact(if_neg z).trans (if_neg λy=>z (h.mpr y)).symm
def bff{p:Prop}(h:false=true):p:=Of h
def btf{p:Prop}(h:true=false):p:=Of h
def osn{b:Type}{a:b}{p:Prop}(h:ab a=aC):p:=by cases h
def ons{b:Type}{a:b}{p:Prop}(h:aC=ab a):p:=by cases h
def kq{b:Type}{p:b->Prop}(a:b)(h:a∈([]:List b)):p a:=absurd h Og
def all_map{a b:Type}{f:a->b}{p:b->Bool}(h:∀x,p (f x)=true)(l:List a):(l.map f).all p=true:=by rw[wy];exact bg.mpr λx z=>h x
def gD{a:Type}{l:List a}{i:Nat}(h:i<l.length)(d:a):l.getD i d=l[i]:=by rw[ar,ay h];rfl
def gS{a:Type}{l:List a}{i:Nat}(h:i<l.length)(d:a):l[i]?=ab (l.getD i d):=by rw[gD h];exact ay h
def yD{a:Type}(l:List a)(d:a):(am l.length).map (λi=>l.getD i d)=l:=gJ (by rw[af,aZ]) λn c b=>by rw[List.getElem_map,oe];exact gD b d
def jK{a b:Type}(l:List a)(d:a)(f:a->b):l.map f=(am l.length).map λi=>f (l.getD i d):=(congrArg (AD f) (yD l d).symm).trans aQ
def rH{a b:Type}(l:List a)(d:a)(p:a->Bool)(f:a->b):((am l.length).filter λi=>p (l.getD i d)).map (λi=>f (l.getD i d))=(l.filter p).map f:=((congrArg (λl=>(l.filter p).map f) (yD l d).symm).trans (by rw[y8,aQ];rfl)).symm
def rI{a b:Type}{f:a->b}{l:List a}{i:Nat}{t:b}(e:(l.map f)[i]?=ab t)(d:a):t=f (l.getD i d):=by
 rw[aI]at e;cases q:l[i]? with
 |none=>rw[q]at e;cases e
 |some x=>rw[q]at e;rw[ar,q];exact(bt e).symm
def nD{a:Type}{τ:Nat->a}{n i:Nat}{t:a}(e:((am n).map τ)[i]?=ab t):t=τ i:=by
 rw[rI e 0,gD (by rw[aZ];have:=(bz.mp e).1;rwa[af,aZ]at this),oe]
end Mine
open Lean in
local macro_rules
  | `(tactic| rewrite $s:rwRuleSeq) => do
    let l := s.raw[1]
    let r := l[0]
    let a ← `(tactic| first | with_reducible refine $(mkIdent (if r[0].isNone then `Mine.rwr else `Mine.rwl)) ($(⟨r[1]⟩) ..) ?_ | fail)
    if l.getNumArgs = 1 then return a
    `(tactic| ($a; rewrite $(⟨s.raw.setArg 1 (mkNullNode (l.getArgs.extract 2))⟩):rwRuleSeq))
  | `(tactic| show $t) => `(tactic| refine (?_ : $t))
  | `(tactic| decide) => do
    let t ← `(Eq.refl true)
    `(tactic| first | exact Mine.leb $t | exact of_decide_eq_true $t)
  | `(tactic| cases $x:ident) => `(tactic| first | exact Mine.bff $x | exact Mine.btf $x | exact Mine.osn $x | exact Mine.ons $x | (have z := Option.some.inj $x; subst z; clear $x) | rcases $x:ident with ⟨⟩)
namespace Mine
open PySem PySem.W PySem.Calls PyProof.Rows
noncomputable section
noncomputable abbrev pw:Program:=PySem.Challenge.pw_tc0100_01
def tp(i:Nat):lS:=pw.main.body.getD i (.Pass ⟨0,0,0,0⟩)
def mt(c j:Nat):lS:=(match tp c with | .ClassDef _ _ _ b _ _ _ _ _ _ _=>b|z=>[]).getD j (.Pass ⟨0,0,0,0⟩)
noncomputable def sA:lS->Arguments
 | .FunctionDef _ a _ _ _ _ _ _ _ _=>a
 |z=>⟨[],[],aC,[],[],aC,[]⟩
noncomputable def sB:lS->List lS
 | .FunctionDef _ _ b _ _ _ _ _ _ _=>b
 |z=>[]
def sS:lS->Cg
 | .FunctionDef _ _ _ _ _ _ s _ _ _=>s
 |z=>pw.main.scope
noncomputable def fc(s:lS)(n q:bT):mV:=⟨.none,aC,.func ⟨n,q,sA s,.stmts (sB s),sS s,0,[],.none,.none,.none,.none,aC,.none,.none,0⟩,#[]⟩
noncomputable def ff(s:lS)(n q:bT)(d k m:aE)(c:bu):mV:=⟨.type "function",aC,.func ⟨n,q,sA s,.stmts (sB s),sS s,3,[],d,k,.none,m,aC,.ref c,.none,0⟩,#[]⟩
noncomputable def de(P:j3)(x:bT)(t:Tok)(v:aE):iL:=⟨eX P x,.str x t,v⟩
noncomputable def tl(o:mV):BT:=.node o .nil .nil
noncomputable def tm(o:mV)(a:BT):BT:=.node o a .nil
noncomputable def tn(o:mV)(a b:BT):BT:=.node o a b
noncomputable def tu(l:List aE)(n:Nat):mV:=⟨.type "tuple",aC,.seq l.toArray n,#[]⟩
noncomputable def li(l:List aE)(n:Nat):mV:=⟨.type "list",aC,.seq l.toArray n,#[]⟩
noncomputable def sq(k:Nat):List bT->List aE
 | []=>[]
 |x::r=>.str x k::sq (k+1) r
noncomputable def iz(l:List Int):List aE:=l.map λi=>.int i 0
noncomputable def vr:Nat->aE
 |0=>.none
 |n+1=>.ref (n+1)
noncomputable def co(a b:bT)(k l p q r s u:Nat)(f:Bool)(c v x y z w m:Nat):mV:=⟨.type "code",aC,.fields #[.str a k,.str b (k+1),.str "/claim/cut.py" (k+2),.int l 0,.int p 0,.int q 0,.int r 0,.int s 0,.ref u,.bool f,.int c 0,.ref v,vr x,vr y,vr z,vr w,.int m 0,.int l 0,.str "/claim/cut.py" (m+1)],#[]⟩
def di(P:j3)(l:List (bT×Tok×aE))(n:Nat):mV:=⟨.type "dict",aC,.dict (l.map λe=>de P e.1 e.2.1 e.2.2).toArray n,#[]⟩
noncomputable def bnH(k:Nat):List String->List (bT×Tok×aE)
 | []=>[]
 |x::r=>(x,k,.builtin x)::bnH (k+1) r
noncomputable def tyH(k:Nat):List String->List (bT×Tok×aE)
 | []=>[]
 |x::r=>(x,k,.type x)::tyH (k+1) r
noncomputable def ZN(s:String):List Nat:=(nN s).cps.toList
noncomputable def BU(c:String)(l:List aE):mV:=⟨.type c,aC,.fields l.toArray,#[]⟩
noncomputable def SP(l:List aE):mV:=⟨.none,aC,.fields l.toArray,#[]⟩
noncomputable def mdH(n:Nat):mV:=⟨.type "module",ab n,.plain,#[]⟩
noncomputable def MS:lS->bT
 | .FunctionDef n _ _ _ _ _ _ _ _ _=>n
 | .ClassDef n _ _ _ _ _ _ _ _ _ _=>n
 |z=>⟨#[]⟩
def qnH(c j:Nat):bT:=⟨((MS (tp c)).cps.toList++46::(MS (mt c j)).cps.toList).toArray⟩
def uH(c j:Nat):mV:=fc (mt c j) (MS (mt c j)) (qnH c j)
def uz(c j:Nat):=ff (mt c j) (MS (mt c j)) (qnH c j)
def ud(c j:Nat):=co (MS (mt c j)) (qnH c j)
def AA(j:Nat):mV:=fc (tp j) (MS (tp j)) (MS (tp j))
def Ax(j:Nat):=ff (tp j) (MS (tp j)) (MS (tp j))
def AB(j:Nat):=co (MS (tp j)) (MS (tp j))
local macro_rules
 | `(#v[$x])=>`(tl $x)
 | `(#v[$x,$y])=>`(tm $x (tl $y))
 | `(#v[$x,$xs,*])=>do
  let a:=xs.getElems.toList.zipIdx
  let e:=(a.filter (·.2 % 2==0)).map (·.1) |>.toArray
  let o:=(a.filter (·.2 % 2==1)).map (·.1) |>.toArray
  `(tn $x #v[$e,*] #v[$o,*])
noncomputable def vX:aE:=.str "cpy313.xml.etree.ElementTree" 289
noncomputable def vO:aE:=.str "cpy313.operator" 539
noncomputable def vH:aE:=.str "cpy313.wsgiref.headers" 632
noncomputable def vL:aE:=.str "law_tc0100_01" 895
noncomputable def e3:List (bT×Tok×aE):=fT [("__doc__",166,.none),("__package__",167,.none),("__loader__",168,.builtin "__main__.__loader__#opaque"),("__spec__",169,.none),("__annotations__",170,.ref 6),("__builtins__",171,.ref 4),("__file__",173,.str "/claim/cut.py" 172),("__cached__",174,.none),("_sre",275,.ref 12),("_wall",288,.ref 38),("_twin_re_1",328,.ref 43),("_namespace_map",350,.ref 44),("_raise_serialization_error",357,.ref 51),("_looks_like_prefix_name",359,.ref 52),("C14NWriterTarget",524,.ref 150),("_escape_cdata_c14n",531,.ref 161),("_escape_attrib_c14n",538,.ref 168),("le",548,.ref 175),("contains",556,.ref 182),("getitem",564,.ref 189),("indexOf",574,.ref 196),("setitem",583,.ref 203),("length_hint",595,.ref 211),("_MAX_STRING_SIZE",599,.int 40 598),("_MOVE_COST",601,.int 2 600),("_CASE_COST",603,.int 1 602),("_substitution_cost",611,.ref 218),("_levenshtein_distance",631,.ref 225),("tspecials",667,.ref 230),("_name_disallowed_re",693,.ref 235)] ([("_value_disallowed_re",727,.ref 240),("_formatparam",737,.ref 248),("Headers",894,.ref 369),("_law_dues",902,.ref 378),("_law_walk",908,.ref 383),("_law_order",914,.ref 388),("_law_told",920,.ref 393),("_law_marks",926,.ref 398),("_law_parts",932,.ref 403),("law",938,.ref 408)])
noncomputable def e5:List (bT×Tok×aE):=[("__firstlineno__",371,.int 11 370),("__init__",393,.ref 67),("_iter_namespaces",403,.ref 75),("_resolve_prefix_name",415,.ref 82),("_qname",428,.ref 90),("data",436,.ref 97),("_flush",449,.ref 106),("start_ns",458,.ref 113),("start",468,.ref 120),("_start",474,.ref 126),("end",482,.ref 133),("comment",490,.ref 140),("pi",499,.ref 147),("__static_attributes__",517,.ref 148)]
noncomputable def e7:List (bT×Tok×aE):=[("__firstlineno__",749,.int 307 748),("__init__",759,.ref 263),("_convert_string_type",769,.ref 270),("__len__",776,.ref 277),("__setitem__",785,.ref 284),("__delitem__",791,.ref 289),("__getitem__",799,.ref 296),("__contains__",807,.ref 303),("get_all",813,.ref 308),("get",824,.ref 316),("keys",830,.ref 321),("values",836,.ref 326),("items",843,.ref 333),("__repr__",850,.ref 340),("__str__",856,.ref 345),("__bytes__",863,.ref 352),("setdefault",872,.ref 359),("add_header",885,.ref 366),("__static_attributes__",887,.ref 367)]
def o0(P):=di P (fT [("__name__",1,.str "builtins" 160),("__doc__",2,.builtin "builtins.__doc__:str#opaque"),("__package__",3,.builtin "builtins.__package__:str#opaque"),("__loader__",4,.builtin "builtins.__loader__:shared#opaque"),("__spec__",5,.builtin "builtins.__spec__#opaque")] (fT (bnH 6 ["__build_class__","__import__","abs","all","any","ascii","bin","breakpoint","callable","chr","compile","delattr","dir","divmod","eval","exec","format","getattr","globals","hasattr","hash","hex","id","input","isinstance","issubclass","iter","aiter","len","locals","max","min","next","anext","oct","ord","pow","print","repr","round","setattr","sorted","sum","vars"]) (fT [("None",50,.none),("Ellipsis",51,.ellipsis),("NotImplemented",52,.notImplemented),("False",53,.bool false),("True",54,.bool true)] (fT (tyH 55 ["bool","memoryview","bytearray","bytes","classmethod","complex","dict","enumerate","filter","float","frozenset","property","int","list","map","object","range","reversed","set","slice","staticmethod","str","super","tuple","type","zip"]) (fT [("__debug__",81,.bool true)] (fT (tyH 82 ["BaseException","BaseExceptionGroup","Exception","GeneratorExit","KeyboardInterrupt","SystemExit","ArithmeticError","AssertionError","AttributeError","BufferError","EOFError","ImportError","LookupError","MemoryError","NameError","OSError","ReferenceError","RuntimeError","StopAsyncIteration","StopIteration","SyntaxError","SystemError","TypeError","ValueError","Warning","FloatingPointError","OverflowError","ZeroDivisionError","BytesWarning","DeprecationWarning","EncodingWarning","FutureWarning","ImportWarning","PendingDeprecationWarning","ResourceWarning","RuntimeWarning","SyntaxWarning","UnicodeWarning","UserWarning","BlockingIOError","ChildProcessError","ConnectionError","FileExistsError","FileNotFoundError","InterruptedError","IsADirectoryError","NotADirectoryError","PermissionError","ProcessLookupError","TimeoutError","IndentationError","_IncompleteInputError","IndexError","KeyError","ModuleNotFoundError","NotImplementedError","PythonFinalizationError","RecursionError","UnboundLocalError","UnicodeError","BrokenPipeError","ConnectionAbortedError","ConnectionRefusedError","ConnectionResetError","TabError","UnicodeDecodeError","UnicodeEncodeError","UnicodeTranslateError","ExceptionGroup"]) [("EnvironmentError",151,.type "OSError"),("IOError",152,.type "OSError"),("open",153,.builtin "open"),("quit",154,.builtin "builtins.quit#opaque"),("exit",155,.builtin "builtins.exit#opaque"),("copyright",156,.builtin "builtins.copyright#opaque"),("credits",157,.builtin "builtins.credits#opaque"),("license",158,.builtin "builtins.license#opaque"),("help",159,.builtin "builtins.help#opaque")])))))) 159
def o1(P):=di P [("builtins",162,.ref 4),("__main__",163,.ref 5),("_sre",244,.ref 12)] 3
def o2(P:j3):mV:=⟨.none,aC,.dict #[de P "\x69mport.loaded._sre" 183 (.bool true),de P "class._frozen_importlib.BuiltinImporter" 185 (.ref 14),de P "watched.\x69mport" 206 (.ref 18),de P "class._frozen_importlib.ModuleSpec" 216 (.ref 22),de P "sys.modules.booked-epoch" 245 (.int 3 0),de P "\x69mport.later-laid._sre" 270 (.bool true),de P "watched.library" 272 (.ref 27),de P "watched.library-objects" 0 (.str "\x0c" 0),de P "watched.library-deep._sre" 273 (.str "\x04\x00\x00\x0b\x04\x00\x00\x0b\x04\x00\x00\x03\x04\x00\x00\x0b\x08\x04dict\x02" 0)] 9,#[]⟩
def o3(P):=di P (("__name__",165,.str "__main__" 164)::e3.take 9) 10
def o4:=mdH 0
def o5:=mdH 3
def o6:mV:=⟨.type "dict",aC,.dict #[] 0,#[]⟩
def o7:=tu [] 0
def o8:=SP []
def o9:=co "<module>" "<module>" 176 1 0 0 0 0 7 false 175 8 0 0 0 0 179
noncomputable def OA:mV:=⟨.type "frame",aC,.plain,#[ab (.ref 9),ab (.ref 3),ab (.ref 3),aC,ab (.str "__main__" 164),aC,ab (.ref 0)]⟩
def o11(P):=di P [("__name__",247,.str "_sre" 246),("__doc__",248,.none),("__package__",250,.str "" 249),("__loader__",251,.ref 14),("__spec__",252,.ref 26),("compile",253,.builtin "_sre.compile"),("template",254,.builtin "_sre.template"),("getcodesize",255,.builtin "_sre.getcodesize"),("ascii_iscased",256,.builtin "_sre.ascii_iscased"),("unicode_iscased",257,.builtin "_sre.unicode_iscased"),("ascii_tolower",258,.builtin "_sre.ascii_tolower"),("unicode_tolower",259,.builtin "_sre.unicode_tolower"),("MAGIC",261,.int 20230612 260),("CODESIZE",263,.int 4 262),("MAXREPEAT",265,.int 4294967295 264),("MAXGROUPS",267,.int 1073741823 266),("copyright",269,.str " SRE 2.2.2 Copyright (c) 1997-2002 by Secret Labs AB " 268)] 17
def Pp:=mdH 11
def PI(P):=di P [("__module__",189,.str "_frozen_importlib" 186),("__firstlineno__",190,.int 971 187),("__doc__",191,.builtin "_frozen_importlib.BuiltinImporter.__doc__:str#opaque"),("_ORIGIN",192,.str "built-in" 188),("find_spec",193,.builtin "_frozen_importlib.BuiltinImporter.find_spec#opaque"),("create_module",194,.builtin "_frozen_importlib.BuiltinImporter.create_module#opaque"),("exec_module",195,.builtin "_frozen_importlib.BuiltinImporter.exec_module#opaque"),("get_code",196,.builtin "_frozen_importlib.BuiltinImporter.get_code#opaque"),("get_source",197,.builtin "_frozen_importlib.BuiltinImporter.get_source#opaque"),("is_package",198,.builtin "_frozen_importlib.BuiltinImporter.is_package#opaque"),("load_module",199,.builtin "_frozen_importlib.BuiltinImporter.load_module#opaque"),("__static_attributes__",200,.ref 15),("__dict__",202,.ref 16),("__weakref__",204,.ref 17)] 14
noncomputable def Qj:mV:=⟨.type "type",aC,.cls ⟨"BuiltinImporter",[.type "object"],[.ref 14,.type "object"],13, "BuiltinImporter",true,[],[],false,aC,false⟩,#[]⟩
def Pz:=BU "getset_descriptor" [.str "__dict__" 201,.ref 14,.builtin "function.__dict__",.builtin "function.__dict__#set"]
def QE:=BU "getset_descriptor" [.str "__weakref__" 203,.ref 14,.builtin "ExceptionGroup.__weakref__",.none]
noncomputable def QD:mV:=⟨.none,aC,.seq #[.int 13 0,.str "\x06\u00bd\n__module__\x06\u00ba\x11_frozen_importlib\x06\u00be\x0f__firstlineno__\x04\u00bb\x00\u03cb\x06\u00bf\x07__doc__\t4_frozen_importlib.BuiltinImporter.__doc__:str#opaque\x06\u00c0\x07_ORIGIN\x06\u00bc\x08built-in\x06\u00c1\tfind_spec\t2_frozen_importlib.BuiltinImporter.find_spec#opaque\x06\u00c2\rcreate_module\t6_frozen_importlib.BuiltinImporter.create_module#opaque\x06\u00c3\x0bexec_module\t4_frozen_importlib.BuiltinImporter.exec_module#opaque\x06\u00c4\x08get_code\t1_frozen_importlib.BuiltinImporter.get_code#opaque\x06\u00c5\nget_source\t3_frozen_importlib.BuiltinImporter.get_source#opaque\x06\u00c6\nis_package\t3_frozen_importlib.BuiltinImporter.is_package#opaque\x06\u00c7\x0bload_module\t4_frozen_importlib.BuiltinImporter.load_module#opaque\x06\u00c8\x15__static_attributes__\x04\x00\x00\x0f\x06\u00ca\x08__dict__\x04\x00\x00\x10\x06\u00cc\x0b__weakref__\x04\x00\x00\x11" 0,.bool true,.bool true,.str "" 205,.int 21 0,.str "\x06\u00e3\n__module__\x06\u00d9\x11_frozen_importlib\x06\u00e4\x0f__firstlineno__\x04\u00da\x00\u0232\x06\u00e5\x07__doc__\t/_frozen_importlib.ModuleSpec.__doc__:str#opaque\x06\u00e6\x08__init__\t,_frozen_importlib.ModuleSpec.__init__#opaque\x06\u00e7\x08__repr__\t,_frozen_importlib.ModuleSpec.__repr__#opaque\x06\u00e8\x06__eq__\t*_frozen_importlib.ModuleSpec.__eq__#opaque\x06\u00e9\x06cached\t*_frozen_importlib.ModuleSpec.cached#opaque\x06\u00ea\x06parent\t*_frozen_importlib.ModuleSpec.parent#opaque\x06\u00eb\x0chas_location\t0_frozen_importlib.ModuleSpec.has_location#opaque\x06\u00ec\x15__static_attributes__\x04\x00\x00\x17\x06\u00ee\x08__dict__\x04\x00\x00\x18\x06\u00f0\x0b__weakref__\x04\x00\x00\x19\x06\u00f1\x08__hash__\x00" 0,.bool true,.bool true,.str "" 242] 1,#[]⟩
def Pf:=li [] 0
def Qr(P):=di P [("name",208,.str "_sre" 207),("loader",209,.ref 14),("origin",210,.str "built-in" 184),("loader_state",211,.none),("submodule_search_locations",212,.none),("_uninitialized_submodules",213,.ref 19),("_set_fileattr",214,.bool false),("_cached",215,.none),("_initializing",243,.bool false)] 9
def RC(P):=di P [("__module__",227,.str "_frozen_importlib" 217),("__firstlineno__",228,.int 562 218),("__doc__",229,.builtin "_frozen_importlib.ModuleSpec.__doc__:str#opaque"),("__init__",230,.builtin "_frozen_importlib.ModuleSpec.__init__#opaque"),("__repr__",231,.builtin "_frozen_importlib.ModuleSpec.__repr__#opaque"),("__eq__",232,.builtin "_frozen_importlib.ModuleSpec.__eq__#opaque"),("cached",233,.builtin "_frozen_importlib.ModuleSpec.cached#opaque"),("parent",234,.builtin "_frozen_importlib.ModuleSpec.parent#opaque"),("has_location",235,.builtin "_frozen_importlib.ModuleSpec.has_location#opaque"),("__static_attributes__",236,.ref 23),("__dict__",238,.ref 24),("__weakref__",240,.ref 25),("__hash__",241,.none)] 13
noncomputable def PD:mV:=⟨.type "type",aC,.cls ⟨"ModuleSpec",[.type "object"],[.ref 22,.type "object"],21, "ModuleSpec",true,[],[],false,aC,false⟩,#[]⟩
def Qg:=tu (sq 219 ["_cached","_set_fileattr","_uninitialized_submodules","loader","loader_state","name","origin","submodule_search_locations"]) 0
def Q4:=BU "getset_descriptor" [.str "__dict__" 237,.ref 22,.builtin "function.__dict__",.builtin "function.__dict__#set"]
def Qo:=BU "getset_descriptor" [.str "__weakref__" 239,.ref 22,.builtin "ExceptionGroup.__weakref__",.none]
def PW:mV:=⟨.ref 22,(ab 20),.plain,#[]⟩
def Rw:mV:=⟨.none,aC,.seq #[.int 11 0,.str ⟨(ZN "\x06÷\x08__name__\x06ö\x04_sre\x06ø\x07__doc__\x00\x06ú\x0b__package__\x06ù\x00\x06û\x0a__loader__\x04\x00\x00\x0e\x06ü\x08__spec__\x04\x00\x00\x1a\x06ý\x07compile\x09\x0c_sre.compile\x06þ\x08template\x09\x0d_sre.template\x06ÿ\x0bgetcodesize\x09\x10_sre.getcodesize\x06Ā\x0dascii_iscased\x09\x12_sre.ascii_iscased\x06ā\x0funicode_iscased\x09\x14_sre.unicode_iscased\x06Ă\x0dascii_tolower\x09\x12_sre.ascii_tolower\x06ă\x0funicode_tolower\x09\x14_sre.unicode_tolower\x06ą\x05MAGIC\x04Ą\x00"++20230612::ZN "\x06ć\x08CODESIZE\x04Ć\x00\x04\x06ĉ\x09MAXREPEAT\x04Ĉ\x00"++4294967295::ZN "\x06ċ\x09MAXGROUPS\x04Ċ\x00"++1073741823::ZN "\x06č\x09copyright\x06Č5 SRE 2.2.2 Copyright (c) 1997-2002 by Secret Labs AB ").toArray⟩ 0,.bool true,.bool false,.str "_sre" 271] 0,#[]⟩
def tY(P:j3):BT:=#v[o0 P,o1 P,o2 P,o3 P,o4,o5,o6,o7,o8,o9,OA,o11 P,Pp,PI P,Qj,o7,Pz,QE,QD,Pf,Qr P,RC P,PD,Qg,Q4,Qo,PW,Rw]
def Cv(P):=di P [("__name__",247,.str "_sre" 246),("__doc__",248,.none),("__package__",250,.str "" 249),("__loader__",251,.builtin "off-the-table:_sre.__loader__:shared#opaque"),("__spec__",252,.builtin "off-the-table:_sre.__spec__:shared#opaque"),("compile",253,.builtin "_sre.compile"),("template",254,.builtin "off-the-table:_sre.template:shared#opaque"),("getcodesize",255,.builtin "off-the-table:_sre.getcodesize:shared#opaque"),("ascii_iscased",256,.builtin "off-the-table:_sre.ascii_iscased:shared#opaque"),("unicode_iscased",257,.builtin "off-the-table:_sre.unicode_iscased:shared#opaque"),("ascii_tolower",258,.builtin "off-the-table:_sre.ascii_tolower:shared#opaque"),("unicode_tolower",259,.builtin "off-the-table:_sre.unicode_tolower:shared#opaque"),("MAGIC",261,.int 20230612 260),("CODESIZE",263,.int 4 262),("MAXREPEAT",265,.int 4294967295 264),("MAXGROUPS",267,.int 1073741823 266),("copyright",269,.str " SRE 2.2.2 Copyright (c) 1997-2002 by Secret Labs AB " 268)] 17
def tA(P:j3):BT:=#v[o0 P,o1 P,o2 P,o3 P,o4,o5,o6,o7,o8,o9,OA,Cv P,Pp,PI P,Qj,o7,Pz,QE,QD,Pf,Qr P,RC P,PD,Qg,Q4,Qo,PW,Rw]
def UU:=co "<module>" "<module>" 277 1 0 0 0 0 28 false 276 29 0 0 0 0 280
noncomputable def Tf:mV:=⟨.type "frame",aC,.plain,#[ab (.ref 30),ab (.ref 3),ab (.ref 3),aC,ab (.str "__main__" 164),aC,ab (.ref 0)]⟩
def tB(P:j3):BT:=#v[o0 P,o1 P,o2 P,o3 P,o4,o5,o6,o7,o8,o9,OA,Cv P,Pp,PI P,Qj,o7,Pz,QE,QD,Pf,Qr P,RC P,PD,Qg,Q4,Qo,PW,Rw,o7,o8,UU,Tf]
def o3a(P):=di P (("__name__",165,.str "cpy313.xml.etree.ElementTree" 289)::e3.take 11) 12
def X5:=SP [.int 2 0,.int 0 0,.ref 37]
def V5:=tu [.str "k" 285] 0
def V4:=AA 1
def Wc:=AB 1 282 2 1 0 0 3 32 true 276 33 0 34 35 36 286
def V9:=Ax 1 .none .none (.str "__main__" 164) 37
def V2:=li [.int 14 294,.int 4 295,.int 0 296,.int 3 297,.int 4294967295 298,.int 6 299,.int 0 300,.int 24 301,.int 9 302,.int 1 303,.int 4294967295 304,.int 13 305,.int 4 306,.int 8 307,.int 14 308,.int 0 309,.int 1 310,.int 16 311,.int 58 312,.int 24 313,.int 9 314,.int 1 315,.int 4294967295 316,.int 13 317,.int 4 318,.int 8 319,.int 14 320,.int 0 321,.int 1 322,.int 6 323,.int 5 324,.int 1 325] 0
def y4:=tu [.none] 0
def Wf:=tu (iz [14,4,0,3,4294967295,6,0,24,9,1,4294967295,13,4,8,14,0,1,16,58,24,9,1,4294967295,13,4,8,14,0,1,6,5,1]) 0
noncomputable def Wd:=BU "re.Pattern" [.str "^\\w+:\\w+$" 292,.int 32 327,.int 0 0,.none,.none,.ref 42,.int 0 0]
def t3(P:j3):BT:=#v[o0 P,o1 P,o2 P,o3a P,o4,o5,o6,o7,o8,o9,OA,Cv P,Pp,PI P,Qj,o7,Pz,QE,QD,Pf,Qr P,RC P,PD,Qg,Q4,Qo,PW,Rw,o7,X5,UU,Tf,o7,o8,V5,o7,V4,Wc,V9,V2,o6,y4,Wf,Wd]
def o3b(P):=di P (("__name__",165,.str "cpy313.xml.etree.ElementTree" 289)::e3.take 12) 13
def Xm(P):=di P [("http://www.w3.org/XML/1998/namespace",329,.str "xml" 330),("http://www.w3.org/1999/xhtml",331,.str "html" 332),("http://www.w3.org/1999/02/22-rdf-syntax-ns#",333,.str "rdf" 334),("http://schemas.xmlsoap.org/wsdl/",335,.str "wsdl" 336),("http://www.w3.org/2001/XMLSchema",337,.str "xs" 338),("http://www.w3.org/2001/XMLSchema-\x69nstance",339,.str "xsi" 340),("http://purl.org/dc/elements/1.1/",341,.str "dc" 342)] 7
def t4(P:j3):BT:=#v[o0 P,o1 P,o2 P,o3b P,o4,o5,o6,o7,o8,o9,OA,Cv P,Pp,PI P,Qj,o7,Pz,QE,QD,Pf,Qr P,RC P,PD,Qg,Q4,Qo,PW,Rw,o7,X5,UU,Tf,o7,o8,V5,o7,V4,Wc,V9,V2,o6,y4,Wf,Wd,Xm P]
def o3c(P):=di P (("__name__",165,.str "cpy313.xml.etree.ElementTree" 289)::e3.take 15) 16
def qcn:=SP [.int 2 0,.int 0 0,.ref 37,.int 8 0,.int 0 0,.ref 50,.int 11 0,.int 0 0,.ref 58]
def ZZ:=tu [.str "text" 354] 0
def o49:=AA 5
def Zs:=AB 5 351 8 1 0 0 3 45 true 276 46 0 47 48 49 355
def ZH:=Ax 5 .none .none vX 50
def ZP:=BU "builtin_function_or_method" [.builtin "re.Pattern.match",.ref 43]
def YH:=BU "builtin_function_or_method" [.builtin "type.__prepare__",.type "type"]
def Zx(P):=di P (fT [("__module__",367,.str "cpy313.xml.etree.ElementTree" 289),("__qualname__",369,.str "C14NWriterTarget" 368)] e5) 16
def Zo:=SP [.int 13 0,.int 4 0,.ref 66,.int 41 0,.int 4 0,.ref 74,.int 46 0,.int 4 0,.ref 81,.int 53 0,.int 4 0,.ref 89,.int 80 0,.int 4 0,.ref 96,.int 84 0,.int 4 0,.ref 105,.int 98 0,.int 4 0,.ref 112,.int 101 0,.int 4 0,.ref 119,.int 114 0,.int 4 0,.ref 125,.int 159 0,.int 4 0,.ref 132,.int 171 0,.int 4 0,.ref 139,.int 174 0,.int 4 0,.ref 146]
def Zz:=co "C14NWriterTarget" "C14NWriterTarget" 362 11 0 0 0 0 56 false 276 57 0 0 0 0 365
noncomputable def Z4:mV:=⟨.type "frame",aC,.plain,#[ab (.ref 58),ab (.ref 3),ab (.ref 55),aC,ab vX,aC,ab (.ref 0)]⟩
def Zl(P):=di P [("with_comments",372,.bool false),("strip_text",373,.bool false),("rewrite_prefixes",374,.bool false),("qname_aware_tags",375,.none),("qname_aware_attrs",376,.none),("exclude_attrs",377,.none),("exclude_tags",378,.none)] 7
def ZY:=tu (sq 382 ["self","write","with_comments","strip_text","rewrite_prefixes","qname_aware_tags","qname_aware_attrs","exclude_attrs","exclude_tags"]) 0
def Zn:=uH 7 0
def Zy:=ud 7 0 379 13 2 0 7 3 61 true 276 62 0 63 64 65 391
def ZD:=uz 7 0 .none (.ref 60) vX 66
def ZQ:=tu [.type "reversed"] 0
def Z5:=tu (sq 397 ["self","ns_stack","_reversed","namespaces"]) 0
def Zv:=uH 7 1
def ZG:=ud 7 1 394 41 3 0 0 35 69 true 276 70 0 71 72 73 401
def ZJ:=uz 7 1 (.ref 68) .none vX 74
def Zr:=tu (sq 407 ["self","prefixed_name","prefix","name","uri","p"]) 0
def Zp:=uH 7 2
def ZE:=ud 7 2 404 46 2 0 0 3 76 true 276 77 0 78 79 80 413
def Zt:=uz 7 2 .none .none vX 81
def Z7:=tu (sq 419 ["self","qname","uri","tag","prefixes_seen","u","prefix"]) 0
def ZR:=uH 7 3
def Zm:=ud 7 3 416 53 3 0 0 3 84 true 276 85 0 86 87 88 426
def Zi:=uz 7 3 (.ref 83) .none vX 89
def ZT:=tu (sq 432 ["self","data"]) 0
def ZB:=uH 7 4
def ZV:=ud 7 4 429 80 2 0 0 3 91 true 276 92 0 93 94 95 434
def Zk:=uz 7 4 .none .none vX 96
def Z0:=BU "builtin_function_or_method" [.builtin "str.join",.str "" 437]
def ZW:=tu [.ref 98] 0
def P6:=tu (sq 442 ["self","_join_text","data","args","qname_text"]) 0
def OZ:=uH 7 5
def Ox:=ud 7 5 439 84 2 0 0 3 100 true 276 101 0 102 103 104 447
def Q6:=uz 7 5 (.ref 99) .none vX 105
def OQ:=tu (sq 453 ["self","prefix","uri"]) 0
def OR:=uH 7 6
def PC:=ud 7 6 450 98 3 0 0 3 107 true 276 108 0 109 110 111 456
def Re:=uz 7 6 .none .none vX 112
def Q0:=tu (sq 462 ["self","tag","attrs","new_namespaces"]) 0
def ON:=uH 7 7
def PV:=ud 7 7 459 101 3 0 0 3 114 true 276 115 0 116 117 118 466
def Qi:=uz 7 7 .none .none vX 119
def Qp:=uH 7 8
def P5:=ud 7 8 469 114 5 0 0 3 122 true 276 123 0 0 0 124 472
def Q9:=uz 7 8 (.ref 121) .none vX 125
def Qd:=tu (sq 478 ["self","tag"]) 0
def OM:=uH 7 9
def Qy:=ud 7 9 475 159 2 0 0 3 127 true 276 128 0 129 130 131 480
def PH:=uz 7 9 .none .none vX 132
def QC:=tu (sq 486 ["self","text"]) 0
def OC:=uH 7 10
def Pd:=ud 7 10 483 171 2 0 0 3 134 true 276 135 0 136 137 138 488
def O7:=uz 7 10 .none .none vX 139
def QV:=tu (sq 494 ["self","target","data"]) 0
def RA:=uH 7 11
def PY:=ud 7 11 491 174 3 0 0 3 141 true 276 142 0 143 144 145 497
def Pw:=uz 7 11 .none .none vX 146
def Ow:=tu (sq 500 ["_data","_declared_ns_stack","_exclude_attrs","_exclude_tags","_find_qname_aware_attrs","_ignored_depth","_ns_stack","_pending_start","_prefix_map","_preserve_space","_qname_aware_tags","_rewrite_prefixes","_root_done","_root_seen","_strip_text","_with_comments","_write"]) 0
def Q7(P):=di P (fT [("__module__",367,.str "cpy313.xml.etree.ElementTree" 289)] (fT e5 [("__dict__",519,.ref 151),("__weakref__",521,.ref 152),("__doc__",522,.none)])) 4
noncomputable def Pk:mV:=⟨.type "type",aC,.cls ⟨"C14NWriterTarget",[.type "object"],[.ref 150,.type "object"],149, "C14NWriterTarget",true,[],[],false,aC,false⟩,#[aC,aC,ab (.str "C14NWriterTarget" 360),ab (.str "C14NWriterTarget" 368),ab (.builtin "object.__new__"),ab (.bool true)]⟩
def Rg:=BU "getset_descriptor" [.str "__dict__" 518,.ref 150,.builtin "function.__dict__",.builtin "function.__dict__#set"]
def Pl:=BU "getset_descriptor" [.str "__weakref__" 520,.ref 150,.builtin "ExceptionGroup.__weakref__",.none]
def Pm:=BU "super" [.ref 150,.ref 150,.ref 150]
def Qc:=BU "builtin_function_or_method" [.builtin "object.__init_subclass__",.ref 150]
def t7(P:j3):BT:=#v[o0 P,o1 P,o2 P,o3c P,o4,o5,o6,o7,o8,o9,OA,Cv P,Pp,PI P,Qj,o7,Pz,QE,QD,Pf,Qr P,RC P,PD,Qg,Q4,Qo,PW,Rw,o7,qcn,UU,Tf,o7,o8,V5,o7,V4,Wc,V9,V2,o6,y4,Wf,Wd,Xm P,o7,o8,ZZ,o7,o49,Zs,ZH,ZP,o7,YH,Zx P,o7,Zo,Zz,Z4,Zl P,o7,o8,ZY,o7,Zn,Zy,ZD,ZQ,o7,o8,Z5,o7,Zv,ZG,ZJ,o7,o8,Zr,o7,Zp,ZE,Zt,y4,o7,o8,Z7,o7,ZR,Zm,Zi,o7,o8,ZT,o7,ZB,ZV,Zk,Z0,ZW,o7,o8,P6,o7,OZ,Ox,Q6,o7,o8,OQ,o7,OR,PC,Re,o7,o8,Q0,o7,ON,PV,Qi,y4,o7,o8,Qp,P5,Q9,o7,o8,Qd,o7,OM,Qy,PH,o7,o8,QC,o7,OC,Pd,O7,o7,o8,QV,o7,RA,PY,Pw,Ow,Q7 P,Pk,Rg,Pl,Pm,Qc]
def o3d(P):=di P (("__name__",165,.str "cpy313.traceback" 596)::e3.take 26) 27
def qa2:=SP [.int 2 0,.int 0 0,.ref 37,.int 8 0,.int 0 0,.ref 50,.int 11 0,.int 0 0,.ref 58,.int 176 0,.int 0 0,.ref 160,.int 189 0,.int 0 0,.ref 167,.int 207 0,.int 0 0,.ref 174,.int 209 0,.int 0 0,.ref 181,.int 211 0,.int 0 0,.ref 188,.int 213 0,.int 0 0,.ref 195,.int 219 0,.int 0 0,.ref 202,.int 221 0,.int 0 0,.ref 210]
def Ud:=tu [.str "text" 528] 0
def UZ:=AA 8
def Vf:=AB 8 525 176 1 0 0 3 155 true 276 156 0 157 158 159 529
def Vt:=Ax 8 .none .none vX 160
def Tu:=tu [.str "text" 535] 0
def UB:=AA 9
def Vp:=AB 9 532 189 1 0 0 3 162 true 276 163 0 164 165 166 536
def UC:=Ax 9 .none .none vX 167
def UX:=tu (sq 544 ["a","b"]) 0
def U9:=AA 11
def VF:=AB 11 541 207 2 0 0 3 169 true 276 170 0 171 172 173 546
def VE:=Ax 11 .none .none vO 174
def VL:=tu (sq 552 ["a","b"]) 0
def VO:=AA 12
def VJ:=AB 12 549 209 2 0 0 3 176 true 276 177 0 178 179 180 554
def Uj:=Ax 12 .none .none vO 181
def Vy:=tu (sq 560 ["a","b"]) 0
def Ux:=AA 13
def US:=AB 13 557 211 2 0 0 3 183 true 276 184 0 185 186 187 562
def TA:=Ax 13 .none .none vO 188
def UJ:=tu (sq 568 ["a","b","i","j"]) 0
def T9:=AA 14
def TC:=AB 14 565 213 2 0 0 3 190 true 276 191 0 192 193 194 572
def TQ:=Ax 14 .none .none vO 195
def Vw:=tu (sq 578 ["a","b","c"]) 0
def UP:=AA 15
def Us:=AB 15 575 219 3 0 0 3 197 true 276 198 0 199 200 201 581
def TV:=Ax 15 .none .none vO 202
def UV:=tu [.int 0 584] 0
def T0:=tu (sq 588 ["obj","default","msg","hint","val"]) 0
def UF:=AA 16
def Um:=AB 16 585 221 2 0 0 3 205 true 276 206 0 207 208 209 593
def T3:=Ax 16 (.ref 204) .none vO 210
def t20(P:j3):BT:=#v[o0 P,o1 P,o2 P,o3d P,o4,o5,o6,o7,o8,o9,OA,Cv P,Pp,PI P,Qj,o7,Pz,QE,QD,Pf,Qr P,RC P,PD,Qg,Q4,Qo,PW,Rw,o7,qa2,UU,Tf,o7,o8,V5,o7,V4,Wc,V9,V2,o6,y4,Wf,Wd,Xm P,o7,o8,ZZ,o7,o49,Zs,ZH,ZP,o7,YH,Zx P,o7,Zo,Zz,Z4,Zl P,o7,o8,ZY,o7,Zn,Zy,ZD,ZQ,o7,o8,Z5,o7,Zv,ZG,ZJ,o7,o8,Zr,o7,Zp,ZE,Zt,y4,o7,o8,Z7,o7,ZR,Zm,Zi,o7,o8,ZT,o7,ZB,ZV,Zk,Z0,ZW,o7,o8,P6,o7,OZ,Ox,Q6,o7,o8,OQ,o7,OR,PC,Re,o7,o8,Q0,o7,ON,PV,Qi,y4,o7,o8,Qp,P5,Q9,o7,o8,Qd,o7,OM,Qy,PH,o7,o8,QC,o7,OC,Pd,O7,o7,o8,QV,o7,RA,PY,Pw,Ow,Q7 P,Pk,Rg,Pl,Pm,Qc,o7,o8,Ud,o7,UZ,Vf,Vt,o7,o8,Tu,o7,UB,Vp,UC,o7,o8,UX,o7,U9,VF,VE,o7,o8,VL,o7,VO,VJ,Uj,o7,o8,Vy,o7,Ux,US,TA,o7,o8,UJ,o7,T9,TC,TQ,o7,o8,Vw,o7,UP,Us,TV,UV,o7,o8,T0,o7,UF,Um,T3]
def o3e(P):=di P (("__name__",165,.str "cpy313.wsgiref.headers" 632)::e3.take 32) 33
def qaB:=SP [.int 2 0,.int 0 0,.ref 37,.int 8 0,.int 0 0,.ref 50,.int 11 0,.int 0 0,.ref 58,.int 176 0,.int 0 0,.ref 160,.int 189 0,.int 0 0,.ref 167,.int 207 0,.int 0 0,.ref 174,.int 209 0,.int 0 0,.ref 181,.int 211 0,.int 0 0,.ref 188,.int 213 0,.int 0 0,.ref 195,.int 219 0,.int 0 0,.ref 202,.int 221 0,.int 0 0,.ref 210,.int 250 0,.int 0 0,.ref 217,.int 256 0,.int 0 0,.ref 224,.int 298 0,.int 0 0,.ref 247]
def Xs:=tu (sq 607 ["ch_a","ch_b"]) 0
def WX:=AA 21
def XW:=AB 21 604 250 2 0 0 3 212 true 276 213 0 214 215 216 609
def Xc:=Ax 21 .none .none (.str "cpy313.traceback" 596) 217
def XH:=tu (sq 615 ["a","b","max_cost","pre","post","row","result","bindex","bchar","distance","minimum","index","substitute","insert_delete"]) 0
def Xt:=AA 22
def WQ:=AB 22 612 256 3 0 0 3 219 true 276 220 0 221 222 223 629
def Yx:=Ax 22 .none .none (.str "cpy313.traceback" 596) 224
def WF:=li [.int 14 637,.int 14 638,.int 4 639,.int 1 640,.int 1 641,.int 9 642,.int 0 643,.int 4227896069 644,.int 939524097 645,.int 0 646,.int 0 647,.int 0 648,.int 0 649,.int 0 650,.int 0 651,.int 13 652,.int 11 653,.int 9 654,.int 0 655,.int 4227896069 656,.int 939524097 657,.int 0 658,.int 0 659,.int 0 660,.int 0 661,.int 0 662,.int 0 663,.int 1 664] 0
def XB:=tu (iz [14,14,4,1,1,9,0,4227896069,939524097,0,0,0,0,0,0,13,11,9,0,4227896069,939524097,0,0,0,0,0,0,1]) 0
def WO:=BU "re.Pattern" [.str "[ \\(\\)<>@,;:\\\\\"/\\[\\]\\?=]" 635,.int 32 666,.int 0 0,.none,.none,.ref 229,.int 0 0]
def X6:=li [.int 14 671,.int 10 672,.int 4 673,.int 1 674,.int 1 675,.int 22 676,.int 0 677,.int 31 678,.int 16 679,.int 127 680,.int 0 681,.int 13 682,.int 7 683,.int 22 684,.int 0 685,.int 31 686,.int 16 687,.int 127 688,.int 0 689,.int 1 690] 0
def WA:=tu (iz [14,10,4,1,1,22,0,31,16,127,0,13,7,22,0,31,16,127,0,1]) 0
def XG:=BU "re.Pattern" [.str "[\\x00-\\x1F\\x7F]" 669,.int 32 692,.int 0 0,.none,.none,.ref 234,.int 0 0]
def Xv:=li [.int 14 697,.int 14 698,.int 4 699,.int 1 700,.int 1 701,.int 9 702,.int 4294966783 703,.int 0 704,.int 0 705,.int 2147483648 706,.int 0 707,.int 0 708,.int 0 709,.int 0 710,.int 0 711,.int 13 712,.int 11 713,.int 9 714,.int 4294966783 715,.int 0 716,.int 0 717,.int 2147483648 718,.int 0 719,.int 0 720,.int 0 721,.int 0 722,.int 0 723,.int 1 724] 0
def Xl:=tu (iz [14,14,4,1,1,9,4294966783,0,0,2147483648,0,0,0,0,0,13,11,9,4294966783,0,0,2147483648,0,0,0,0,0,1]) 0
def XF:=BU "re.Pattern" [.str "[\\x00-\\x08\\x0A-\\x1F\\x7F]" 695,.int 32 726,.int 0 0,.none,.none,.ref 239,.int 0 0]
def Yc:=tu [.none,.int 1 728] 0
def Yp:=tu (sq 732 ["param","value","quote"]) 0
def YS:=AA 27
def YO:=AB 27 729 298 3 0 0 3 242 true 276 243 0 244 245 246 735
def WT:=Ax 27 (.ref 241) .none vH 247
def t27(P:j3):BT:=#v[o0 P,o1 P,o2 P,o3e P,o4,o5,o6,o7,o8,o9,OA,Cv P,Pp,PI P,Qj,o7,Pz,QE,QD,Pf,Qr P,RC P,PD,Qg,Q4,Qo,PW,Rw,o7,qaB,UU,Tf,o7,o8,V5,o7,V4,Wc,V9,V2,o6,y4,Wf,Wd,Xm P,o7,o8,ZZ,o7,o49,Zs,ZH,ZP,o7,YH,Zx P,o7,Zo,Zz,Z4,Zl P,o7,o8,ZY,o7,Zn,Zy,ZD,ZQ,o7,o8,Z5,o7,Zv,ZG,ZJ,o7,o8,Zr,o7,Zp,ZE,Zt,y4,o7,o8,Z7,o7,ZR,Zm,Zi,o7,o8,ZT,o7,ZB,ZV,Zk,Z0,ZW,o7,o8,P6,o7,OZ,Ox,Q6,o7,o8,OQ,o7,OR,PC,Re,o7,o8,Q0,o7,ON,PV,Qi,y4,o7,o8,Qp,P5,Q9,o7,o8,Qd,o7,OM,Qy,PH,o7,o8,QC,o7,OC,Pd,O7,o7,o8,QV,o7,RA,PY,Pw,Ow,Q7 P,Pk,Rg,Pl,Pm,Qc,o7,o8,Ud,o7,UZ,Vf,Vt,o7,o8,Tu,o7,UB,Vp,UC,o7,o8,UX,o7,U9,VF,VE,o7,o8,VL,o7,VO,VJ,Uj,o7,o8,Vy,o7,Ux,US,TA,o7,o8,UJ,o7,T9,TC,TQ,o7,o8,Vw,o7,UP,Us,TV,UV,o7,o8,T0,o7,UF,Um,T3,o7,o8,Xs,o7,WX,XW,Xc,o7,o8,XH,o7,Xt,WQ,Yx,WF,o6,y4,XB,WO,X6,o6,y4,WA,XG,Xv,o6,y4,Xl,XF,Yc,o7,o8,Yp,o7,YS,YO,WT]
def o3f(P):=di P (("__name__",165,.str "law_tc0100_01" 895)::e3.take 40) 41
def qcE:=SP [.int 2 0,.int 0 0,.ref 37,.int 8 0,.int 0 0,.ref 50,.int 11 0,.int 0 0,.ref 58,.int 176 0,.int 0 0,.ref 160,.int 189 0,.int 0 0,.ref 167,.int 207 0,.int 0 0,.ref 174,.int 209 0,.int 0 0,.ref 181,.int 211 0,.int 0 0,.ref 188,.int 213 0,.int 0 0,.ref 195,.int 219 0,.int 0 0,.ref 202,.int 221 0,.int 0 0,.ref 210,.int 250 0,.int 0 0,.ref 217,.int 256 0,.int 0 0,.ref 224,.int 298 0,.int 0 0,.ref 247,.int 307 0,.int 0 0,.ref 254,.int 390 0,.int 0 0,.ref 377,.int 401 0,.int 0 0,.ref 382,.int 411 0,.int 0 0,.ref 387,.int 418 0,.int 0 0,.ref 392,.int 439 0,.int 0 0,.ref 397,.int 443 0,.int 0 0,.ref 402,.int 450 0,.int 0 0,.ref 407]
def qb7(P):=di P (fT [("__module__",745,.str "cpy313.wsgiref.headers" 632),("__qualname__",747,.str "Headers" 746)] e7) 21
def qcp:=SP [.int 309 0,.int 4 0,.ref 262,.int 319 0,.int 4 0,.ref 269,.int 327 0,.int 4 0,.ref 276,.int 330 0,.int 4 0,.ref 283,.int 334 0,.int 4 0,.ref 288,.int 338 0,.int 4 0,.ref 295,.int 341 0,.int 4 0,.ref 302,.int 344 0,.int 4 0,.ref 307,.int 348 0,.int 4 0,.ref 315,.int 355 0,.int 4 0,.ref 320,.int 358 0,.int 4 0,.ref 325,.int 361 0,.int 4 0,.ref 332,.int 364 0,.int 4 0,.ref 339,.int 367 0,.int 4 0,.ref 344,.int 370 0,.int 4 0,.ref 351,.int 373 0,.int 4 0,.ref 358,.int 376 0,.int 4 0,.ref 365]
def qbh:=co "Headers" "Headers" 740 307 0 0 0 0 252 false 276 253 0 0 0 0 743
noncomputable def qcQ:mV:=⟨.type "frame",aC,.plain,#[ab (.ref 254),ab (.ref 3),ab (.ref 251),aC,ab vH,aC,ab (.ref 0)]⟩
def qbW:=tu (sq 753 ["self","headers","k","v"]) 0
def qcP:=uH 28 0
def qaH:=ud 28 0 750 309 2 0 0 3 257 true 276 258 0 259 260 261 757
def qcT:=uz 28 0 (.ref 256) .none vH 262
def qb3:=tu (sq 763 ["self","value","name","regex"]) 0
def qb8:=uH 28 1
def qaQ:=ud 28 1 760 319 2 0 1 3 264 true 276 265 0 266 267 268 767
def qbj:=uz 28 1 .none .none vH 269
def qbo:=tu [.str "self" 773] 0
def qcM:=uH 28 2
def qbM:=ud 28 2 770 327 1 0 0 3 271 true 276 272 0 273 274 275 774
def qbK:=uz 28 2 .none .none vH 276
def qcm:=tu (sq 780 ["self","name","val"]) 0
def qbx:=uH 28 3
def qaI:=ud 28 3 777 330 3 0 0 3 278 true 276 279 0 280 281 282 783
def qbV:=uz 28 3 .none .none vH 283
def qaG:=uH 28 4
def qaE:=ud 28 4 786 334 2 0 0 3 285 true 276 286 0 0 0 287 789
def qaF:=uz 28 4 .none .none vH 288
def qcu:=tu (sq 795 ["self","name"]) 0
def qca:=uH 28 5
def qa7:=ud 28 5 792 338 2 0 0 3 290 true 276 291 0 292 293 294 797
def qa3:=uz 28 5 .none .none vH 295
def qbs:=tu (sq 803 ["self","name"]) 0
def qbq:=uH 28 6
def qaA:=ud 28 6 800 341 2 0 0 3 297 true 276 298 0 299 300 301 805
def qaD:=uz 28 6 .none .none vH 302
def qcx:=uH 28 7
def qcL:=ud 28 7 808 344 2 0 0 3 304 true 276 305 0 0 0 306 811
def qbF:=uz 28 7 .none .none vH 307
def qbu:=tu (sq 817 ["self","name","default","k","v"]) 0
def qch:=uH 28 8
def qcv:=ud 28 8 814 348 3 0 0 3 310 true 276 311 0 312 313 314 822
def qbZ:=uz 28 8 (.ref 309) .none vH 315
def qcD:=uH 28 9
def qbE:=ud 28 9 825 355 1 0 0 3 317 true 276 318 0 0 0 319 828
def qbb:=uz 28 9 .none .none vH 320
def qbc:=uH 28 10
def qaZ:=ud 28 10 831 358 1 0 0 3 322 true 276 323 0 0 0 324 834
def qb9:=uz 28 10 .none .none vH 325
def qcA:=tu [.str "self" 840] 0
def qcI:=uH 28 11
def qaX:=ud 28 11 837 361 1 0 0 3 327 true 276 328 0 329 330 331 841
def qaC:=uz 28 11 .none .none vH 332
def qbe:=tu [.str "self" 847] 0
def qcf:=uH 28 12
def qbw:=ud 28 12 844 364 1 0 0 3 334 true 276 335 0 336 337 338 848
def qbR:=uz 28 12 .none .none vH 339
def qbT:=uH 28 13
def qbD:=ud 28 13 851 367 1 0 0 3 341 true 276 342 0 0 0 343 854
def qaT:=uz 28 13 .none .none vH 344
def qbd:=tu [.str "self" 860] 0
def qbY:=uH 28 14
def qcs:=ud 28 14 857 370 1 0 0 3 346 true 276 347 0 348 349 350 861
def qb2:=uz 28 14 .none .none vH 351
def qbf:=tu (sq 867 ["self","name","value"]) 0
def qcG:=uH 28 15
def qbB:=ud 28 15 864 373 3 0 0 3 353 true 276 354 0 355 356 357 870
def qcr:=uz 28 15 .none .none vH 358
def qbG:=tu (sq 876 ["self","_name","_value","_params","parts","k","v"]) 0
def qbl:=uH 28 16
def qcd:=ud 28 16 873 376 3 0 0 11 360 true 276 361 0 362 363 364 883
def qbt:=uz 28 16 .none .none vH 365
def qb1:=tu [.str "_headers" 886] 0
def qcJ(P):=di P (fT [("__module__",745,.str "cpy313.wsgiref.headers" 632)] (fT e7 [("__dict__",889,.ref 370),("__weakref__",891,.ref 371),("__doc__",892,.none)])) 4
noncomputable def qa0:mV:=⟨.type "type",aC,.cls ⟨"Headers",[.type "object"],[.ref 369,.type "object"],368, "Headers",true,[],[],false,aC,false⟩,#[aC,aC,ab (.str "Headers" 738),ab (.str "Headers" 746),ab (.builtin "object.__new__"),ab (.bool true)]⟩
def qbA:=BU "getset_descriptor" [.str "__dict__" 888,.ref 369,.builtin "function.__dict__",.builtin "function.__dict__#set"]
def qbk:=BU "getset_descriptor" [.str "__weakref__" 890,.ref 369,.builtin "ExceptionGroup.__weakref__",.none]
def qaK:=BU "super" [.ref 369,.ref 369,.ref 369]
def qcw:=BU "builtin_function_or_method" [.builtin "object.__init_subclass__",.ref 369]
def qb4:=AA 30
def qbz:=AB 30 897 390 1 0 0 3 374 true 276 375 0 0 0 376 900
def qbi:=Ax 30 .none .none vL 377
def qbC:=AA 31
def qbr:=AB 31 903 401 6 0 0 3 379 true 276 380 0 0 0 381 906
def qaV:=Ax 31 .none .none vL 382
def qby:=AA 32
def qct:=AB 32 909 411 2 0 0 3 384 true 276 385 0 0 0 386 912
def qcR:=Ax 32 .none .none vL 387
def qcN:=AA 33
def qbO:=AB 33 915 418 4 0 0 3 389 true 276 390 0 0 0 391 918
def qck:=Ax 33 .none .none vL 392
def qcq:=AA 34
def qb5:=AB 34 921 439 2 0 0 3 394 true 276 395 0 0 0 396 924
def qa4:=Ax 34 .none .none vL 397
def qbQ:=AA 35
def qbp:=AB 35 927 443 3 0 0 3 399 true 276 400 0 0 0 401 930
def qce:=Ax 35 .none .none vL 402
def qba:=AA 36
def qcH:=AB 36 933 450 1 0 0 3 404 true 276 405 0 0 0 406 936
def qcz:=Ax 36 .none .none vL 407
def TG(P:j3):BT:=#v[o0 P,o1 P,o2 P,o3f P,o4,o5,o6,o7,o8,o9,OA,Cv P,Pp,PI P,Qj,o7,Pz,QE,QD,Pf,Qr P,RC P,PD,Qg,Q4,Qo,PW,Rw,o7,qcE,UU,Tf,o7,o8,V5,o7,V4,Wc,V9,V2,o6,y4,Wf,Wd,Xm P,o7,o8,ZZ,o7,o49,Zs,ZH,ZP,o7,YH,Zx P,o7,Zo,Zz,Z4,Zl P,o7,o8,ZY,o7,Zn,Zy,ZD,ZQ,o7,o8,Z5,o7,Zv,ZG,ZJ,o7,o8,Zr,o7,Zp,ZE,Zt,y4,o7,o8,Z7,o7,ZR,Zm,Zi,o7,o8,ZT,o7,ZB,ZV,Zk,Z0,ZW,o7,o8,P6,o7,OZ,Ox,Q6,o7,o8,OQ,o7,OR,PC,Re,o7,o8,Q0,o7,ON,PV,Qi,y4,o7,o8,Qp,P5,Q9,o7,o8,Qd,o7,OM,Qy,PH,o7,o8,QC,o7,OC,Pd,O7,o7,o8,QV,o7,RA,PY,Pw,Ow,Q7 P,Pk,Rg,Pl,Pm,Qc,o7,o8,Ud,o7,UZ,Vf,Vt,o7,o8,Tu,o7,UB,Vp,UC,o7,o8,UX,o7,U9,VF,VE,o7,o8,VL,o7,VO,VJ,Uj,o7,o8,Vy,o7,Ux,US,TA,o7,o8,UJ,o7,T9,TC,TQ,o7,o8,Vw,o7,UP,Us,TV,UV,o7,o8,T0,o7,UF,Um,T3,o7,o8,Xs,o7,WX,XW,Xc,o7,o8,XH,o7,Xt,WQ,Yx,WF,o6,y4,XB,WO,X6,o6,y4,WA,XG,Xv,o6,y4,Xl,XF,Yc,o7,o8,Yp,o7,YS,YO,WT,o7,YH,qb7 P,o7,qcp,qbh,qcQ,y4,o7,o8,qbW,o7,qcP,qaH,qcT,o7,o8,qb3,o7,qb8,qaQ,qbj,o7,o8,qbo,o7,qcM,qbM,qbK,o7,o8,qcm,o7,qbx,qaI,qbV,o7,o8,qaG,qaE,qaF,o7,o8,qcu,o7,qca,qa7,qa3,o7,o8,qbs,o7,qbq,qaA,qaD,o7,o8,qcx,qcL,qbF,y4,o7,o8,qbu,o7,qch,qcv,qbZ,o7,o8,qcD,qbE,qbb,o7,o8,qbc,qaZ,qb9,o7,o8,qcA,o7,qcI,qaX,qaC,o7,o8,qbe,o7,qcf,qbw,qbR,o7,o8,qbT,qbD,qaT,o7,o8,qbd,o7,qbY,qcs,qb2,o7,o8,qbf,o7,qcG,qbB,qcr,o7,o8,qbG,o7,qbl,qcd,qbt,qb1,qcJ P,qa0,qbA,qbk,qaK,qcw,o7,o8,qb4,qbz,qbi,o7,o8,qbC,qbr,qaV,o7,o8,qby,qct,qcR,o7,o8,qcN,qbO,qck,o7,o8,qcq,qb5,qa4,o7,o8,qbQ,qbp,qce,o7,o8,qba,qcH,qcz]
noncomputable abbrev kA:List bu:=[2,3,32,34,35,37,38,42,43,44,45,47,48,50,51,52,60,61,63,64,66,67,68,69,71,72,74,75,76,78,79,81,82,83,84,86,87,89,90,91,93,94,96,97,98,99,100,102,103,105,106,107,109,110,112,113,114,116,117,119,120,121,122,125,126,127,129,130,132,133,134,136,137,139,140,141,143,144,146,147,148,149,150,151,152,155,157,158,160,161,162,164,165,167,168,169,171,172,174,175,176,178,179,181,182,183,185,186,188,189,190,192,193,195,196,197,199,200,202,203,204,205,207,208,210,211,212,214,215,217,218,219,221,222,224,225,229,230,234,235,239,240,241,242,244,245,247,248,256,257,259,260,262,263,264,266,267,269,270,271,273,274,276,277,278,280,281,283,284,285,288,289,290,292,293,295,296,297,299,300,302,303,304,307,308,309,310,312,313,315,316,317,320,321,322,325,326,327,329,330,332,333,334,336,337,339,340,341,344,345,346,348,349,351,352,353,355,356,358,359,360,362,363,365,366,367,368,369,370,371,374,377,378,379,382,383,384,387,388,389,392,393,394,397,398,399,402,403,404,407,408]
def KF(P:j3):Frag:=kA.map λi=>(i,((TG P).get i).getD o8)
noncomputable def lf:Life:=⟨[],[],[],0,[],[],false,#[],[],0,false,false,false,0,[2000,10,10],false,0,true,[],[],0,false⟩
abbrev sT(t:BT)(n k:Nat)(os:lz):wA:=⟨t,n,lf,#[],⟨0,0,0,0⟩,k,os⟩
def N5:uS:={scope:=pw.main.scope,locals:=mainNs,globals:=mainNs,cells:=[],code:=.ref 30,frame:=ab 31}
def bd:List lS:=behindTheImports pw
def An:Code:=.body bd N5
noncomputable abbrev tf:List Frame:=[topFrame ⟨0,0,0,0⟩]
noncomputable def HE:Option aE:=ab (.ref 6)
def Ib(i n:Nat):List lS:=(bd.drop i).take n
def pc3(w)(os):zG ia pw w 28 HE 1 123 (sT (tB w.params) 32 282 os) (vK (Ib 0 3) N5 An ⟨0,0,0,0⟩ tf)=ab (.next,(sT (t3 w.params) 44 329 os),An,⟨6,0,6,10⟩):=by rw[cW,bM];kernel_rfl
def pc4(w)(os):zG ia pw w 28 HE 1 117 (sT (t3 w.params) 44 329 os) (vK (Ib 3 1) N5 An ⟨6,0,6,10⟩ tf)=ab (.next,(sT (t4 w.params) 45 351 os),An,⟨7,0,7,14⟩):=byRow2 "special-get-raises" (P:=λw=>zG ia pw w 28 HE 1 117 (sT (t3 w.params) 44 329 os) (vK (Ib 3 1) N5 An ⟨6,0,6,10⟩ tf)=ab (.next,(sT (t4 w.params) 45 351 os),An,⟨7,0,7,14⟩)) (λw=>by rw[cW,bM];kernel_rfl) (λw=>by rw[cW,bM];kernel_rfl) w
def pc7(w)(os):zG ia pw w 28 HE 1 720 (sT (t4 w.params) 45 351 os) (vK (Ib 4 3) N5 An ⟨7,0,7,14⟩ tf)=ab (.next,(sT (t7 w.params) 155 525 os),An,⟨11,0,175,16⟩):=by rw[cW,bM];kernel_rfl
def qcc(w)(os):zG ia pw w 28 HE 1 305 (sT (t7 w.params) 155 525 os) (vK (Ib 7 13) N5 An ⟨11,0,175,16⟩ tf)=ab (.next,(sT (t20 w.params) 212 604 os),An,⟨249,0,249,10⟩):=by rw[cW,bM];kernel_rfl
def qa6(w)(os):zG ia pw w 28 HE 1 345 (sT (t20 w.params) 212 604 os) (vK (Ib 20 7) N5 An ⟨249,0,249,10⟩ tf)=ab (.next,(sT (t27 w.params) 249 738 os),An,⟨298,0,306,20⟩):=by rw[cW,bM];kernel_rfl
def qcb(w)(os):zG ia pw w 28 HE 1 927 (sT (t27 w.params) 249 738 os) (vK (Ib 27 9) N5 An ⟨298,0,306,20⟩ tf)=ab (.next,(sT (TG w.params) 409 939 os),An,⟨450,0,496,120⟩):=by rw[cW,bM];kernel_rfl
end
def qbP(w:bC)(os:lz):topGo ia pw w 28 HE 12 (sT (tA w.params) 28 276 os).abs (topStub pw)=ab ((sT (tB w.params) 32 282 os).abs,⟨FI ia An,An,⟨0,0,0,0⟩,tf⟩):=by rw[qaa,qo,bM];kernel_rfl
def qbJ(w:bC)(os:lz):segRun ia pw w 28 HE 1 1 (sT (tB w.params) 32 282 os).abs (blockOf bd N5 An ⟨0,0,0,0⟩ tf)=ab (.next,(sT (tB w.params) 32 282 os).abs,An,⟨0,0,0,0⟩):=by rw[qab,bM];kernel_rfl
def qa5(w:bC)(os:lz):topRun ia pw w 28 HE 2 (sT (TG w.params) 409 939 os).abs ⟨doneF .next,An,⟨450,0,496,120⟩,tf⟩=ab (sT (TG w.params) 409 939 os).abs:=by rw[qac,bM];kernel_rfl
def WY:bd=Ib 0 3++(Ib 3 1++(Ib 4 3++(Ib 7 13++(Ib 20 7++(Ib 27 9++[]))))):=by kernel_rfl
def Tc(w:bC)(os:lz):topRun ia pw w 28 HE (123+(117+(720+(305+(345+(927+(2))))))) (sT (tB w.params) 32 282 os).abs (restOf bd N5 An ⟨0,0,0,0⟩ tf)=ab (sT (TG w.params) 409 939 os).abs:=by
 rw[WY];exact wB (wC (pc3 w os)) (wB (wC (pc4 w os)) (wB (wC (pc7 w os)) (wB (wC (qcc w os)) (wB (wC (qa6 w os)) (wB (wC (qcb w os)) (piece_nil (qa5 w os)))))))
def qcC(w:bC)(os:lz):topRun ia pw w 28 HE (12+(1+(123+(117+(720+(305+(345+(927+(2))))))))) (sT (tA w.params) 28 276 os).abs (topStub pw)=ab (sT (TG w.params) 409 939 os).abs:=go_top (qbP w os) (piece_block (qbJ w os) (Tc w os))
noncomputable def Pi(a:wA->VQ->Option (wA×VQ))(n:Nat)(s:wA)(t:VQ):Option wA:=n.rec (motive:=λz=>wA->VQ->Option wA) (λz z=>aC) (λz b s t=>
 t.atExitBegin.rec ((a s t).rec aC λr=>b r.1 r.2) λl=>l.rec (ab s) λz z z=>aC) s t
def Vs:Pi a (n+1) s t=t.atExitBegin.rec ((a s t).rec aC λr=>Pi a n r.1 r.2) λl=>l.rec (ab s) λz z z=>aC:=rfl
def Px{tb:String->Option Builtin}{p:Program}{w:bC}:∀{n:Nat} {s s':wA} {t:VQ},Pi (stepT (FI tb) p w) n s t=ab s'->importEnds tb p w n s.abs t=ab s'.abs:=@Aw _ (fun {z}{z}{z} h=>by cases h) λn c {s} {s'}{t} h=>by
 rw (config:={}) [Vs]at h;unfold importEnds;cases b:t.atExitBegin with
 |some l=>
  rw[b]at h;cases l with
  |nil=>cases h;rfl
  |cons z y=>cases h
 |none=>
  rw[b]at h;cases a:stepT (FI tb) p w s t with
  |none=>rw[a]at h;cases h
  |some r=>obtain⟨d,t2⟩:=r;rw[a]at h;rw[stepT_spec a];exact c h
abbrev os0:lz:=(start (Wh pw)).1.os
def qb0(w:bC):Pi (stepT (FI ia) (Wh pw) w) 900 (sT .nil 0 1 os0) (start (Wh pw)).2=ab (sT (tY w.params) 28 276 os0):=by rw[qad,qo,bM,qae];kernel_rfl
def Vu:(start (Wh pw)).1=(sT .nil 0 1 os0).abs:=by kernel_rfl
abbrev hA(P:j3):gn:=absHeap (tA P) 28 lf
abbrev hY(P:j3):gn:=absHeap (tY P) 28 lf
abbrev hZ(P:j3):gn:=absHeap (TG P) 409 lf
def VD(w:bC):(λos=>(fenceModules? pw ⟨hY w.params,#[],⟨0,0,0,0⟩,276,os⟩).map (λs=>(s.heap,s.gens,s.drawn,s.toks)))=λz=>ab (hA w.params,#[],⟨0,0,0,0⟩,276):=by rw[qaf];kernel_rfl
def Yh:∀w:bC,(fencedOpening ia pw w 5116).map (λs=>(s.heap,s.gens,s.drawn,s.toks))=ab (hA w.params,#[],⟨0,0,0,0⟩,276):=
 open_cut (He:=hY) (M:=900) (λw=>by have h:=Px (qb0 w);rw[<-Vu]at h;exact h) rfl VD
def XZ(w:bC):((hA w.params).isNs fC&&(#[]:Array zH).size==0,(hA w.params).objs.size,(hA w.params).nsMap fC "__annotations__")=(true,28,HE):=by kernel_rfl
def qv:Program:={pw with main:={pw.main with body:=[tp 0,tp 36]}}
noncomputable def V7:List bT:=["_wall", "_twin_re_1", "_namespace_map", "_raise_serialization_error", "_looks_like_prefix_name", "C14NWriterTarget", "_escape_cdata_c14n", "_escape_attrib_c14n", "le", "contains", "getitem", "indexOf", "setitem", "length_hint", "_MAX_STRING_SIZE", "_MOVE_COST", "_CASE_COST", "_substitution_cost", "_levenshtein_distance", "tspecials", "_name_disallowed_re", "_value_disallowed_re", "_formatparam", "Headers", "_law_dues", "_law_walk", "_law_order", "_law_told", "_law_marks", "_law_parts"]
def XQ:∀P,kA=(KF P).map (·.1):=λz=>by kernel_rfl
abbrev HK:Hook:=kmHook KF kA XQ [123]
abbrev s36(w:bC)(os:lz):aH:=⟨hZ w.params,#[],⟨0,0,0,0⟩,939,os⟩
def XC(w:bC)(os:lz):(staticsOk (qag pw.main.body) (hA w.params) (hZ w.params)&&namesBound pw (hZ w.params)&&gensDone (s36 w os)&&laidKept (hA w.params) (hZ w.params))=true:=by kernel_rfl
def W6(w:bC)(os:lz):openSeen qv V7 (qag pw.main.body) (λz=>true) true (s36 w os)=openGood qv V7:=by rw[qah];kernel_rfl
def WB(w:bC)(os:lz):HK.obs (s36 w os)=HK.val w:=by kernel_rfl
def Xw:LeftO pw qv V7 (λz=>true) HK.obs HK.val 5116 true:=
 LeftO.of_pieces (H₀:=hA) (H₁:=hZ) (m₀:=28) (ann:=HE) Yh XZ qcC rfl λw=>funext λos=>looks_pair (XC w os) (looks_pair (W6 w os) (WB w os))
def Xz:PySem.Challenge.rw_tc0100_01.wellSaid=true:=by rw[qai];kernel_rfl
abbrev lwD:DefRec:=⟨"law",sA (tp 36),sB (tp 36),sS (tp 36),⟨450,0,496,120⟩⟩
def LV(a:WalkO qv V7 (λz z=>True) HK.says PySem.Challenge.rw_tc0100_01.row.toRowW lwD [] λf vs=>YV f vs):PySem.Challenge.rw_tc0100_01.Holds:=
 holds_law Xz λb=>holds_open (r:=PySem.Challenge.rw_tc0100_01.row) (q:=qv) (loose:=V7) (XP:=λz z=>True) Xw HK.of HK.keeps (λz z=>trivial) (λz z z z z=>trivial)
  #v[] #v[] #v[] (λz z=>recFacts_nil rfl) rfl b #v[] ⟨rfl,rfl,rfl,rfl,rfl,by kernel_rfl⟩ ⟨[.list []],by kernel_rfl,by kernel_rfl⟩ a
end Mine
namespace Mine
open Lean
def ou:FJ:=js `(tacticSeq| rfl)
def wU:FJ:=js `(tacticSeq| kernel_rfl)
def y2:FJ:=js `(tacticSeq| intro z; rfl)
def dfJ:FJ:=js `(tacticSeq| intro z z; rfl)
def We:FJ:=js `(tacticSeq| decide)
def YL:FJ:=js `(tacticSeq| first | exact ah _ | exact cL _ | exact fK _ 2 | assumption)
def dfU:FJ:=js `(tacticSeq| with_unfolding_all rfl)
end Mine
namespace Mine.Li
inductive Tm where
 |v (i:Nat)
 |n (k:Nat)
 |add (a b:Tm)
 |sub (a b:Tm)
 |ml (k:Nat) (a:Tm)
 |mr (a:Tm) (k:Nat)
 |mn (a b:Tm)
 |mx (a b:Tm)
 |cs (a:Tm)
 |tn (a:Tm)
 |ng (a:Tm)
inductive Fm where
 |le (a b:Tm)
 |lt (a b:Tm)
 |eq (a b:Tm)
 |zle (a b:Tm)
 |zlt (a b:Tm)
 |zeq (a b:Tm)
 |no (f:Fm)
 |an (f g:Fm)
 |oo (f g:Fm)
 |ff
 |ne (a b:Tm)
 |zne (a b:Tm)
 |im (f g:Fm)
def gN(l:List Nat):Nat->Nat:=kI (λz=>0) (λa z b i=>lT a (λi z=>b i) i) l
def gZ(l:List Int):Nat->Int:=kI (λz=>0) (λa z b i=>lT a (λi z=>b i) i) l
def Tm.d(x:List Nat)(y:List Int)(t:Tm):Nat×Int:=
 Tm.rec (motive:=λz=>Nat×Int) (λi=>(gN x i,gZ y i)) (λk=>(k,(FK k:Int))) (λz z a b=>(a.1+b.1,a.2+b.2)) (λz z a b=>(a.1-b.1,a.2-b.2))
  (λk z a=>(k*a.1,(FK k:Int)*a.2)) (λz k a=>(a.1*k,a.2*(FK k:Int))) (λz z a b=>(D5 a.1 b.1,D5 a.2 b.2)) (λz z a b=>(max a.1 b.1,max a.2 b.2)) (λz a=>(0,(a.1:Int))) (λz a=>(a.2.toNat,0)) (λz a=>(0,-a.2)) t
def Fm.d(x:List Nat)(y:List Int)(f:Fm):Prop:=
 Fm.rec (motive:=λz=>Prop) (λa b=>(a.d x y).1<=(b.d x y).1) (λa b=>(a.d x y).1<(b.d x y).1) (λa b=>(a.d x y).1=(b.d x y).1) (λa b=>(a.d x y).2<=(b.d x y).2) (λa b=>(a.d x y).2<(b.d x y).2) (λa b=>(a.d x y).2=(b.d x y).2)
  (λz p=>¬p) (λz z p q=>p/\q) (λz z p q=>p\/q) False (λa b=>(a.d x y).1≠(b.d x y).1) (λa b=>(a.d x y).2≠(b.d x y).2) (λz z p q=>p->q) f
noncomputable section
abbrev Ln:=Int×List Int
noncomputable def Uw(l:List Int):List Int->List Int:=l.rec id λc l a m=>m.rec (c::l) λd m z=>(c+d)::a m
noncomputable def H2(V:Nat->Int)(o:Nat)(l:List Int):Int:=kI (motive:=λz=>Nat->Int) (λz=>0) (λc z a o=>c*V o+a (o+1)) l o
def Ln.ev(V:Nat->Int)(o:Nat)(a:Ln):Int:=a.1+H2 V o a.2
def Ln.add(a b:Ln):Ln:=(a.1+b.1,Uw a.2 b.2)
noncomputable def Ln.mul(c:Int)(a:Ln):Ln:=(c*a.1,a.2.map (c * ·))
def Ln.sub(a b:Ln):Ln:=a.add (b.mul (-1))
noncomputable def Ln.k(k:Int):Ln:=(k,[])
noncomputable def Aq(i:Nat):List Int:=i.rec [1] λz l=>0::l
theorem Tx(a b c d:Int):a+b+(c+d)=a+c+(b+d):=by rw[Wi,Oh b,<-Wi]
theorem OG(V:Nat->Int):∀(a b:List Int) (o:Nat),H2 V o (Uw a b)=H2 V o a+H2 V o b:=
 iX (λz z=>(fM _).symm) λc l e=>iX (λz=>(wW _).symm) λd m z o=>by
  show (c+d)*V o+H2 V (o+1) (Uw l m)=(c*V o+H2 V (o+1) l)+(d*V o+H2 V (o+1) m);rw[e,Int.add_mul];exact Tx ..
theorem Ru(V:Nat->Int)(c:Int):∀(a:List Int) (o:Nat),H2 V o (a.map (c * ·))=c*H2 V o a:=iX (λz=>(Int.mul_zero c).symm) λd l b o=>by
 show c*d*V o+H2 V (o+1) (l.map (c * ·))=c*(d*V o+H2 V (o+1) l);rw[b,y9,Int.mul_assoc]
theorem CQ(V:Nat->Int):∀(i o:Nat),H2 V o (Aq i)=V (o+i):=ig (λo=>by show 1*V o+0=V o;rw[qaj,wW]) λi a o=>by
 show 0*V o+H2 V (o+1) (Aq i)=_;rw[a,FL,fM];exact congrArg V (DR o i)
theorem Ln.yI(V:Nat->Int)(o:Nat)(a b:Ln):(a.add b).ev V o=a.ev V o+b.ev V o:=(congrArg _ (OG ..)).trans (Tx ..)
theorem Ln.yu(V:Nat->Int)(o:Nat)(c:Int)(a:Ln):(a.mul c).ev V o=c*a.ev V o:=(congrArg _ (Ru ..)).trans (y9 ..).symm
theorem Ln.bf(V:Nat->Int)(o:Nat)(a b:Ln):(a.sub b).ev V o=a.ev V o-b.ev V o:=by
 delta Ln.sub;rw[Ln.yI,Ln.yu,zI];rfl
theorem Ln.KT(V:Nat->Int)(o:Nat)(k:Int):(Ln.k k).ev V o=k:=wW k
def pt(V:Nat->Int)(o:Nat)(cs:List Ln):Prop:=∀c∈cs,0<=c.ev V o
noncomputable def UM(l:List Int):Int:=l.rec 0 λc z z=>c
def qb6(cs:List Ln):List Ln:=(cs.filter λc=>UM c.2==0).map λc=>(c.1,c.2.tail)
def qcK(cs:List Ln):List Ln:=cs.filter λc=>decide (0<UM c.2)
def qbm(cs:List Ln):List Ln:=cs.filter λc=>decide (UM c.2<0)
def XY(p q:Ln):Ln:=((Ln.mul (-UM q.2) (p.1,p.2.tail))).add (Ln.mul (UM p.2) (q.1,q.2.tail))
def elim(cs:List Ln):List Ln:=qb6 cs++(qcK cs).flatMap λp=>(qbm cs).map λq=>XY p q
def fm(m:Nat):List Ln->Bool:=m.rec (λcs=>cs.any λc=>c.2.isEmpty&&decide (c.1<0)) λz a cs=>(cs.any λc=>c.2.isEmpty&&decide (c.1<0)) ||a (elim cs)
theorem Sb(V:Nat->Int)(o:Nat)(c:Ln):c.ev V o=UM c.2*V o+Ln.ev V (o+1) (c.1,c.2.tail):=
 c.2.rec (motive:=λl=>Ln.ev V o (c.1,l)=UM l*V o+Ln.ev V (o+1) (c.1,l.tail)) (by show c.1+0=0*V o+(c.1+0);rw[FL,fM]) λz z z=>Oh ..
theorem J5{V:Nat->Int}{o:Nat}{cs:List Ln}(h:pt V o cs):pt V (o+1) (elim cs):=by
 intro c a;rcases ao.mp a with a|a
 .refine cY (bp.mp a) λd hd e=>dS (c3.mp hd) λi j=>?_;have b:=h d i;rw[Sb,(kN j),FL,fM]at b;exact e▸b
 .refine cY (dj.mp a) λp k a=>cY (bp.mp a) λq l e=>dS (c3.mp k) λp1 p2=>dS (c3.mp l) λm n=>?_;have f:=h p p1;have g:=h q m;rw[Sb]at f g;rw[<-e,XY,Ln.yI,Ln.yu,Ln.yu];have:=Int.add_nonneg (VR (Int.neg_nonneg_of_nonpos (wX (of_decide_eq_true n))) f) (VR (wX (of_decide_eq_true p2)) g);rw[y9,y9,Tx,Int.neg_mul,Int.mul_left_comm,Int.add_left_neg,fM]at this;exact this
theorem W7{V:Nat->Int}:∀(m:Nat) {o:Nat} {cs:List Ln},fm m cs=true->¬pt V o cs:=by
 have fj:∀{o:Nat} {cs:List Ln},(cs.any λc=>c.2.isEmpty&&decide (c.1<0))=true->¬pt V o cs:=λh s=>by
  refine cY (Oi.mp h) λc a h=>?_;rw[bc]at h;have:=s c a;unfold Ln.ev at this;rw[(Oj.mp h.1)]at this;exact B4.mpr this ((wW c.1).symm▸of_decide_eq_true h.2)
 exact ig (λh=>fj h) λm b {o cs} h s=>((ik ..).mp h).elim (λh=>fj h s) λh=>b h (J5 s)
abbrev Al:=List (Ln×List Ln)
noncomputable def cr(f:Ln->Ln->List Ln->Al)(a b:Al):Al:=a.flatMap λp=>b.flatMap λq=>f p.1 q.1 (p.2++q.2)
def fA(p q:Ln)(cs:List Ln):Al:=[(p.add q,cs)]
def fZ(p q:Ln)(cs:List Ln):Al:=[(p.sub q,cs)]
def fS(p q:Ln)(cs:List Ln):Al:=[(p.sub q,p.sub q::cs),(Ln.k 0,(q.sub p).add (Ln.k (-1))::cs)]
def fN(p q:Ln)(cs:List Ln):Al:=[(p,q.sub p::cs),(q,p.sub q::cs)]
def fX(p q:Ln)(cs:List Ln):Al:=[(q,q.sub p::cs),(p,p.sub q::cs)]
def mA(k:Int)(a:Al):Al:=a.map λp=>(p.1.mul k,p.2)
def Tm.l(t:Tm):Al×Al:=
 Tm.rec (motive:=λz=>Al×Al) (λi=>([((0,Aq (2*i)),[])],[((0,Aq (2*i+1)),[])])) (λk=>([(Ln.k k,[])],[(Ln.k k,[])]))
  (λz z a b=>(cr fA a.1 b.1,cr fA a.2 b.2)) (λz z a b=>(cr fS a.1 b.1,cr fZ a.2 b.2)) (λk z a=>(mA k a.1,mA k a.2)) (λz k a=>(mA k a.1,mA k a.2))
  (λz z a b=>(cr fN a.1 b.1,cr fN a.2 b.2)) (λz z a b=>(cr fX a.1 b.1,cr fX a.2 b.2))
  (λz a=>([(Ln.k 0,[])],a.1)) (λz a=>(a.2.flatMap λp=>[(p.1,p.1::p.2),(Ln.k 0,(p.1.mul (-1)).add (Ln.k (-1))::p.2)],[(Ln.k 0,[])]))
  (λz a=>([(Ln.k 0,[])],mA (-1) a.2)) t
section
variable {V:Nat->Int}{x:List Nat}{y:List Int}
def Ok(V:Nat->Int)(a:Al)(z:Int):Prop:=∃p∈a,p.1.ev V 0=z/\pt V 0 p.2
theorem tR{cs ds:List Ln}(h:pt V 0 cs)(k:pt V 0 ds):pt V 0 (cs++ds):=λc a=>(ao.mp a).elim (h c) (k c)
theorem g7{c:Ln}{cs:List Ln}(h:0<=c.ev V 0)(k:pt V 0 cs):pt V 0 (c::cs):=λd hd=>(aX.mp hd).elim (λe=>e▸h) (k d)
theorem yA{f:Ln->Ln->List Ln->Al}{a b:Al}{u w z:Int}(ha:Ok V a u)(hb:Ok V b w)(h:∀p q cs,p.ev V 0=u->q.ev V 0=w->pt V 0 cs->Ok V (f p q cs) z):Ok V (cr f a b) z:=
 mB ha λp c e1 d=>mB hb λq g e2 i=>mB (h p.1 q.1 (p.2++q.2) e1 e2 (tR d i)) λr j e s=>⟨r,dj.mpr ⟨p,c,dj.mpr ⟨q,g,j⟩⟩,e,s⟩
theorem Kb{a:Al}{u:Int}(k:Int)(ha:Ok V a u):Ok V (mA k a) (k*u):=mB ha λp b e1 c=>⟨_,bp.mpr ⟨p,b,rfl⟩,by rw[Ln.yu,e1],c⟩
theorem sb{p q:Ln}{u w:Int}(e1:p.ev V 0=u)(e2:q.ev V 0=w)(h:u<=w):0<=(q.sub p).ev V 0:=by rw[Ln.bf,e1,e2];exact Int.sub_nonneg_of_le h
theorem sl{p q:Ln}{u w:Int}(e1:p.ev V 0=u)(e2:q.ev V 0=w)(h:u<w):0<=((q.sub p).add (Ln.k (-1))).ev V 0:=by rw[Ln.yI,Ln.KT,Ln.bf,e1,e2];exact Jm (Ol h)
theorem JS(k:Int):Ok V [(Ln.k k,[])] k:=⟨_,.head _,Ln.KT ..,λz h=>nomatch h⟩
theorem BH{p q:Ln}{cs:List Ln}{u w:Int}(e1:p.ev V 0=u)(e2:q.ev V 0=w)(s:pt V 0 cs):Ok V (fN p q cs) (D5 u w)/\Ok V (fX p q cs) (max u w):=
 (Int.le_total u w).elim (λh=>⟨⟨_,.head _,by rw[SR h];exact e1,g7 (sb e1 e2 h) s⟩,⟨_,.head _,by rw[RD h];exact e2,g7 (sb e1 e2 h) s⟩⟩)
  λh=>⟨⟨_,.tail _ (.head _),by rw[RE h];exact e2,g7 (sb e2 e1 h) s⟩,⟨_,.tail _ (.head _),by rw[SS h];exact e1,g7 (sb e2 e1 h) s⟩⟩
structure Vok(V:Nat->Int)(x:List Nat)(y:List Int):Prop where
 n:∀i,V (2*i)=((gN x i:Nat):Int)
 z:∀i,V (2*i+1)=gZ y i
theorem Gm(i:Nat):Ok V [((0,Aq i),[])] (V i):=⟨_,.head _,by unfold Ln.ev;rw[CQ,fe,fM],λz h=>nomatch h⟩
theorem Yt{a b:Al}{u w:Int}(ha:Ok V a u)(hb:Ok V b w):Ok V (cr fA a b) (u+w):=yA ha hb λp q cs e1 e2 s=>⟨_,.head _,by rw[Ln.yI,e1,e2],s⟩
theorem qa1{a b:Al}{u w:Int}(ha:Ok V a u)(hb:Ok V b w):Ok V (cr fZ a b) (u-w):=yA ha hb λp q cs e1 e2 s=>⟨_,.head _,by rw[Ln.bf,e1,e2],s⟩
theorem qbn{a b:Al}{u w:Nat}(ha:Ok V a u)(hb:Ok V b w):Ok V (cr fS a b) ((u-w:Nat):Int):=yA ha hb λp q cs e1 e2 s=>
 (nO u w).elim (λk=>⟨_,.tail _ (.head _),by rw[Ln.KT,HN (c9 k)];rfl,g7 (sl e1 e2 (rL.mpr k)) s⟩)
  λk=>⟨_,.head _,by rw[Ln.bf,e1,e2,Int.ofNat_sub k],g7 (sb e2 e1 (kd.mpr k)) s⟩
theorem WE(a b:Nat):D5 (a:Int) b=(D5 a b:Nat):=(YW a b).elim (λh=>by rw[SR (kd.mpr h),Nat.min_eq_left h]) λh=>by rw[RE (kd.mpr h),Nat.min_eq_right h]
theorem WL(a b:Nat):max (a:Int) b=(max a b:Nat):=(YW a b).elim (λh=>by rw[RD (kd.mpr h),Nat.max_eq_right h]) λh=>by rw[SS (kd.mpr h),Nat.max_eq_left h]
theorem X8(h:Vok V x y)(t:Tm):Ok V t.l.1 ((t.d x y).1:Nat)/\Ok V t.l.2 (t.d x y).2:=by
 induction t with
 |v i=>
  have c:=Gm (V:=V) (2*i);have d:=Gm (V:=V) (2*i+1);rw[h.n i]at c;rw[h.z i]at d;exact⟨c,d⟩
 |n k=>exact⟨JS _,JS _⟩
 |add a b ha hb=>
  refine⟨?_,Yt ha.2 hb.2⟩;have:=Yt ha.1 hb.1;rwa[<-SU]at this
 |sub a b ha hb=>exact⟨qbn ha.1 hb.1,qa1 ha.2 hb.2⟩
 |ml k a ha=>
  refine⟨?_,Kb _ ha.2⟩;have:=Kb k ha.1;rwa[<-SV]at this
 |mr a k ha=>
  have c:=Kb k ha.1;have d:=Kb k ha.2;rw[Int.mul_comm]at c d;rw[<-SV]at c;exact⟨c,d⟩
 |mn a b ha hb=>exact⟨WE ..▸yA ha.1 hb.1 λp q cs e1 e2 s=>(BH e1 e2 s).1,yA ha.2 hb.2 λp q cs e1 e2 s=>(BH e1 e2 s).1⟩
 |mx a b ha hb=>exact⟨WL ..▸yA ha.1 hb.1 λp q cs e1 e2 s=>(BH e1 e2 s).2,yA ha.2 hb.2 λp q cs e1 e2 s=>(BH e1 e2 s).2⟩
 |cs a ha=>exact⟨JS 0,ha.1⟩
 |tn a ha=>
  refine⟨mB ha.2 λp f e s=>?_,JS 0⟩;show Ok V _ (((a.d x y).2.toNat:Nat):Int);rcases YX (a.d x y).2 0 with k|k
  .refine⟨_,dj.mpr ⟨p,f,.tail _ (.head _)⟩,by rw[Ln.KT,Int.toNat_of_nonpos (wX k)];rfl,g7 ?_ s⟩;rw[Ln.yI,Ln.KT,Ln.yu,e,zI,<-Int.zero_sub];exact Jm (Ol k)
  .exact⟨_,dj.mpr ⟨p,f,.head _⟩,by rw[e,uJ k],g7 (e.symm▸k) s⟩
 |ng a ha=>exact⟨JS 0,(zI (a.d x y).2▸Kb (-1) ha.2:Ok V _ (-(a.d x y).2))⟩
abbrev Br:=List (List Ln)
noncomputable def ZK(a b:Br):Br:=a.flatMap λp=>b.map λq=>p++q
noncomputable def c2(f:Ln->Ln->List Ln)(a b:Al):Br:=a.flatMap λp=>b.map λq=>f p.1 q.1++(p.2++q.2)
def Ja(p q:Ln):List Ln:=[q.sub p]
def DG(p q:Ln):List Ln:=[(q.sub p).add (Ln.k (-1))]
def NF(p q:Ln):List Ln:=[q.sub p,p.sub q]
def Ym(a b:Al):Br:=c2 DG a b++c2 (λp q=>DG q p) a b
def Fm.l(f:Fm):Br×Br:=
 Fm.rec (motive:=λz=>Br×Br) (λa b=>(c2 Ja a.l.1 b.l.1,c2 (λp q=>DG q p) a.l.1 b.l.1)) (λa b=>(c2 DG a.l.1 b.l.1,c2 (λp q=>Ja q p) a.l.1 b.l.1)) (λa b=>(c2 NF a.l.1 b.l.1,Ym a.l.1 b.l.1))
  (λa b=>(c2 Ja a.l.2 b.l.2,c2 (λp q=>DG q p) a.l.2 b.l.2)) (λa b=>(c2 DG a.l.2 b.l.2,c2 (λp q=>Ja q p) a.l.2 b.l.2)) (λa b=>(c2 NF a.l.2 b.l.2,Ym a.l.2 b.l.2))
  (λz p=>(p.2,p.1)) (λz z p q=>(ZK p.1 q.1,p.2++q.2)) (λz z p q=>(p.1++q.1,ZK p.2 q.2)) ([],[[]]) (λa b=>(Ym a.l.1 b.l.1,c2 NF a.l.1 b.l.1)) (λa b=>(Ym a.l.2 b.l.2,c2 NF a.l.2 b.l.2)) (λz z p q=>(p.2++q.1,ZK p.1 q.2)) f
def D1(V:Nat->Int)(b:Br):Prop:=∃c∈b,pt V 0 c
theorem Gz{a b:Br}(h:D1 V a):D1 V (a++b):=cY h λc d s=>⟨c,ac _ d,s⟩
theorem Hv{a b:Br}(h:D1 V b):D1 V (a++b):=cY h λc d s=>⟨c,ag _ d,s⟩
theorem Fj{a b:Br}(h:D1 V a)(k:D1 V b):D1 V (ZK a b):=cY h λc e s=>cY k λd hd u=>⟨c++d,dj.mpr ⟨c,e,bp.mpr ⟨d,hd,rfl⟩⟩,tR s u⟩
theorem xO{f:Ln->Ln->List Ln}{a b:Al}{u w:Int}(ha:Ok V a u)(hb:Ok V b w)(h:∀p q:Ln,p.ev V 0=u->q.ev V 0=w->pt V 0 (f p q)):D1 V (c2 f a b):=
 mB ha λp c e1 d=>mB hb λq e e2 g=>⟨_,dj.mpr ⟨p,c,bp.mpr ⟨q,e,rfl⟩⟩,tR (h _ _ e1 e2) (tR d g)⟩
theorem rX:pt V 0 []:=λz h=>nomatch h
section
variable {a b:Al}{u w:Int}(ha:Ok V a u)(hb:Ok V b w)
include ha hb
theorem R3(h:u<=w):D1 V (c2 Ja a b):=xO ha hb λp q e1 e2=>g7 (sb e1 e2 h) rX
theorem Ly(h:u<w):D1 V (c2 DG a b):=xO ha hb λp q e1 e2=>g7 (sl e1 e2 h) rX
theorem EH(h:¬u<=w):D1 V (c2 (λp q=>DG q p) a b):=xO ha hb λp q e1 e2=>g7 (sl e2 e1 (qcU.mp h)) rX
theorem Nt(h:¬u<w):D1 V (c2 (λp q=>Ja q p) a b):=xO ha hb λp q e1 e2=>g7 (sb e2 e1 (B4.mp h)) rX
theorem Hm(h:u=w):D1 V (c2 NF a b):=xO ha hb λp q e1 e2=>g7 (sb e1 e2 (YY h)) (g7 (sb e2 e1 (YY h.symm)) rX)
theorem GV(h:u≠w):D1 V (Ym a b):=(Int.lt_or_lt_of_ne h).elim (λh=>Gz (Ly ha hb h)) λh=>Hv (EH ha hb (qcU.mpr h))
end
theorem qcO(h:Vok V x y)(f:Fm):(f.d x y->D1 V f.l.1)/\(¬f.d x y->D1 V f.l.2):=by
 have t:=λa=>X8 h a
 induction f with
 |le a b=>exact⟨λk=>R3 (t a).1 (t b).1 (kd.mpr k),λk=>EH (t a).1 (t b).1 λq=>k (kd.mp q)⟩
 |lt a b=>exact⟨λk=>Ly (t a).1 (t b).1 (rL.mpr k),λk=>Nt (t a).1 (t b).1 λq=>k (rL.mp q)⟩
 |eq a b=>exact⟨λk=>Hm (t a).1 (t b).1 (congrArg _ k),λk=>GV (t a).1 (t b).1 λq=>k (JG q)⟩
 |zle a b=>exact⟨R3 (t a).2 (t b).2,EH (t a).2 (t b).2⟩
 |zlt a b=>exact⟨Ly (t a).2 (t b).2,Nt (t a).2 (t b).2⟩
 |zeq a b=>exact⟨Hm (t a).2 (t b).2,GV (t a).2 (t b).2⟩
 |no f c=>exact⟨c.2,λk=>c.1 (tq.mp k)⟩
 |an f g c d=>
  refine⟨λk=>Fj (c.1 k.1) (d.1 k.2),λk=>?_⟩;by_cases q:f.d x y
  .exact Hv (d.2 λz=>k ⟨q,z⟩)
  .exact Gz (c.2 q)
 |oo f g c d=>
  refine⟨λk=>k.elim (λq=>Gz (c.1 q)) λq=>Hv (d.1 q),λk=>Fj (c.2 λq=>k (.inl q)) (d.2 λq=>k (.inr q))⟩
 |ff=>exact⟨λk=>k.elim,λw=>⟨_,.head _,rX⟩⟩
 |ne a b=>exact⟨λk=>GV (t a).1 (t b).1 λq=>k (JG q),λk=>Hm (t a).1 (t b).1 (congrArg _ (tq.mp k))⟩
 |zne a b=>exact⟨GV (t a).2 (t b).2,λk=>Hm (t a).2 (t b).2 (tq.mp k)⟩
 |im f g c d=>
  refine⟨λk=>?_,λk=>?_⟩
  .by_cases q:f.d x y
   .exact Hv (d.1 (k q))
   .exact Gz (c.2 q)
  .by_cases q:f.d x y
   .exact Fj (c.1 q) (d.2 λz=>k λw=>z)
   .exact absurd (λz=>absurd z q) k
end
def Xg(m:Nat):List Ln:=m.rec [] λi l=>(0,Aq (2*i))::l
def Fm.ok(m:Nat)(f:Fm):Bool:=f.l.2.all λcs=>fm (2*m) (Xg m++cs)
theorem jZ{x:List Nat}{y:List Int}{m:Nat}{f:Fm}(h:f.ok m=true):f.d x y:=by
 refine Classical.byContradiction λk=>?_;have a:∃V,Vok V x y:=⟨λi=>if i % 2=0 then ((gN x (i / 2):Nat):Int)else gZ y (i / 2),λi=>by rw[if_pos (Nat.mul_mod_right 2 i),Nat.mul_div_cancel_left i #v[_]],
  λi=>by rw[if_neg (by rw[Nat.mul_add_mod];decide),Nat.mul_add_div #v[_]];rfl⟩
 refine iA a λV a=>cY ((qcO a f).2 k) λc b s=>W7 _ (bg.mp h c b) (tR ?_ s);intro d hd;have:∀m,d∈Xg m->0<=d.ev V 0:=ig (λh=>nomatch h) λm g h=>(aX.mp h).elim (λe=>by
  rw[e,Ln.ev,CQ,fe,a.n m,fM];exact NI _) g
 exact this _ hd
end
end Mine.Li
namespace Mine.Li
noncomputable def dT(n:Nat):Nat->(Tm->Nat->Fm)->Fm:=
 lT (λz z=>.ff) (λz e c k=>match c % 16 with
  |0=>k (.v 0) (c / 16)
  |1=>k (.v 1) (c / 16)
  |2=>k (.v 2) (c / 16)
  |3=>k (.n (c / 16 % 16)) (c / 256)
  |4=>e (c / 16) λa c=>e c λb c=>k (.add a b) c
  |5=>e (c / 16) λa c=>e c λb c=>k (.sub a b) c
  |6=>e (c / 16) λa c=>k (.add a (.n 1)) c
  |7=>e (c / 16) λa c=>k (.cs a) c
  |8=>k (.v (c / 16 % 16)) (c / 256)
  |9=>k (.n (c / 256 % 16 ^ (c / 16 % 16))) (c / 256 / 16 ^ (c / 16 % 16))
  |10=>e (c / 256) λa d=>k (.ml (c / 16 % 16) a) d
  |11=>e (c / 16) λa c=>k (.tn a) c
  |12=>e (c / 1048576) λa d=>k (.ml (c / 16 % 65536) a) d
  |13=>e (c / 16) λa c=>e c λb c=>k (.mn a b) c
  |14=>e (c / 16) λa c=>e c λb c=>k (.mx a b) c
  |z=>match c / 16 % 16 with
   |0=>e (c / 4096) λa d=>k (.mr a (c / 256 % 16)) d
   |1=>e (c / 16777216) λa d=>k (.mr a (c / 256 % 65536)) d
   |z=>e (c / 256) λa c=>k (.ng a) c) n
def d2(f:Tm->Tm->Fm)(c:Nat)(k:Fm->Nat->Fm):Fm:=dT 40 (c / 16) λa c=>dT 40 c λb c=>k (f a b) c
noncomputable def dF(n:Nat):Nat->(Fm->Nat->Fm)->Fm:=
 lT (λz z=>.ff) (λz a c k=>match c % 16 with
  |0=>d2 .le c k
  |1=>d2 .lt c k
  |2=>d2 .eq c k
  |3=>d2 .zle c k
  |4=>d2 .zlt c k
  |5=>d2 .zeq c k
  |6=>a (c / 16) λf c=>k (.no f) c
  |7=>a (c / 16) λf c=>a c λg c=>k (.an f g) c
  |8=>a (c / 16) λf c=>a c λg c=>k (.oo f g) c
  |9=>k .ff (c / 16)
  |10=>d2 .ne c k
  |11=>d2 .zne c k
  |12=>a (c / 16) λf c=>a c λg c=>k (.im f g) c
  |13=>d2 .le c λf c=>a c λg c=>k (.im f g) c
  |14=>d2 .lt c λf c=>a c λg c=>k (.im f g) c
  |z=>d2 .eq c λf c=>a c λg c=>k (.im f g) c) n
def CU(c:Nat):Fm:=dF 40 c λf z=>f
end Mine.Li
namespace Mine
abbrev Su9:Nat:=0x3e8390028290d
abbrev Su8:Nat:=0x7033530e
abbrev Su7:Nat:=0x740e8d4a51000a93c530e
abbrev Su6:Nat:=0x101530e531f
abbrev Su5:Nat:=0x3e83900530f
abbrev Su4:Nat:=0x10120e12f
abbrev Su3:Nat:=0x100106d
abbrev Su2:Nat:=0x1707b1026c
abbrev Su1:Nat:=0xa3061530e
abbrev Su0:Nat:=0x106516065101e
abbrev Sv9:Nat:=0x106416042
abbrev Sv8:Nat:=0x7033a30e
abbrev Sv7:Nat:=0x100000079003e8390d
abbrev Sv6:Nat:=0x3e83900530e
abbrev Sv5:Nat:=0xd31604453040
abbrev Sv4:Nat:=0x5301430233028230281302803028c
abbrev Sv3:Nat:=0x989680690134032290d
abbrev Sv2:Nat:=0x989680692301344032290d
abbrev Sv1:Nat:=0x21064021604d
abbrev Sv0:Nat:=0x71707d03e510d
abbrev Sw9:Nat:=0x3e839074a30e
abbrev Sw8:Nat:=0xa30b1a304c0033c
abbrev Sw7:Nat:=0x100000079003e8390d01f
abbrev Sw6:Nat:=0x113051003e01f
abbrev Sw5:Nat:=0x113051160e02e
abbrev Sw4:Nat:=0x1000000790603e8390d
abbrev Sw3:Nat:=0x3e83900530d
abbrev Sw2:Nat:=0x10000007900530d
abbrev Sw1:Nat:=0x7302630285302853016c730d
abbrev Sw0:Nat:=0x102170294070294f
abbrev Sz9:Nat:=0xa30b1a30400337c
abbrev Sz8:Nat:=0x15f8b5900531d15357a3e83940d
abbrev Sz7:Nat:=0x70360e8d4a51000a93c1000000790d
abbrev Sz6:Nat:=0x740e8d4a51000a93c07175c1000000790d
abbrev Sz5:Nat:=0x1000000790053274c20f21535f
abbrev Sz4:Nat:=0x1000000791040332950f1d32290d
abbrev Sz3:Nat:=0x740e8d4a51000a93c10f3e8391d
abbrev Sz2:Nat:=0x3e839008338d382f380f21f
abbrev Sz1:Nat:=0x1000000790040290e023d
abbrev Sz0:Nat:=0x1000000790040290e003e
abbrev Sy9:Nat:=0x1000000790010f40291e103e
abbrev Sy8:Nat:=0x31038f12f01f40290e003e
abbrev Sy7:Nat:=0x1000000792104403e8391d3e839204d
abbrev Sy6:Nat:=0x27104900431d14357a3e83940d
abbrev Sy5:Nat:=0x15357a3e83940014357a3e83942d431d73240f
abbrev Sy4:Nat:=0x386012127211810173801212721181017c
abbrev Sy3:Nat:=0x30126127261181017201212721181017c
abbrev Sy2:Nat:=0x201212721181017030126127261181017c
abbrev Sy1:Nat:=0x101030153127531181017c
abbrev Sy0:Nat:=0x3015312753118101710e531e
abbrev Sx9:Nat:=0x740e8d4a51000a93c330e
abbrev Sx8:Nat:=0x10004825f248d38201207c
abbrev Sx7:Nat:=0x10004825f248d12038207c
abbrev Sx6:Nat:=0x740e8d4a51000a93c28290d
abbrev Sx5:Nat:=0x740e8d4a51000a93c12f10e28291d
abbrev Sx4:Nat:=0x7302630285302853016c83026c830d
abbrev Sx3:Nat:=0x730083126c83026c831d830d
abbrev Sx2:Nat:=0xa330290513929000302907c
abbrev Sx1:Nat:=0x3029053029423929000302907c
abbrev Sx0:Nat:=0x3e83900061f14291d123d
abbrev Ru9:Nat:=0x271049123054064290d3e8391d
abbrev Ru8:Nat:=0x3e839113e839030294177a291272291286529128c930d
abbrev Ru7:Nat:=0x120292603029420292677a291272291286529128c930d
abbrev Ru6:Nat:=0x6702f30e8d4a51000a93c530e
abbrev Ru5:Nat:=0x6740e8d4a51000a93c530e
open Li
noncomputable abbrev DY(m q:Nat):Prop:=true=(CU q).ok m
def sj(q)(h:autoParam (DY 1 q) wU):(CU q).d [] [a]:=jZ h.symm
def VK(q)(h:autoParam (DY 2 q) wU):(CU q).d [] [a,b]:=jZ h.symm
def qbU(q)(h:autoParam (DY 3 q) wU):(CU q).d [] [a,b,c]:=jZ h.symm
def bO(q)(h:autoParam (DY 1 q) wU):(CU q).d [a] []:=jZ h.symm
def jP(q)(h:autoParam (DY 1 q) wU):(CU q).d [a] [b]:=jZ h.symm
def O0(q)(h:autoParam (DY 2 q) wU):(CU q).d [a] [b,c]:=jZ h.symm
def bW(q)(h:autoParam (DY 2 q) wU):(CU q).d [a,b] []:=jZ h.symm
def vj(q)(h:autoParam (DY 2 q) wU):(CU q).d [a,b] [c]:=jZ h.symm
def Q3(q)(h:autoParam (DY 2 q) wU):(CU q).d [a,b] [c,e]:=jZ h.symm
def dO(q)(h:autoParam (DY 3 q) wU):(CU q).d [a,b,c] []:=jZ h.symm
def YE(q)(h:autoParam (DY 3 q) wU):(CU q).d [a,b,c] [e]:=jZ h.symm
def qcj(q)(h:autoParam (DY 3 q) wU):(CU q).d [a,b,c] [e,f]:=jZ h.symm
def lM(q)(h:autoParam (DY 4 q) wU):(CU q).d [a,b,c,d] []:=jZ h.symm
def xF(q)(h:autoParam (DY 5 q) wU):(CU q).d [a,b,c,d,e] []:=jZ h.symm
def Sz(q)(h:autoParam (DY 6 q) wU):(CU q).d [a,b,c,d,e,f] []:=jZ h.symm
def ω7(q)(h:autoParam (DY 7 q) wU):(CU q).d [a,b,c,d,e,f,g] []:=jZ h.symm
def qcS{d:Nat}:(b<=d)->((a+d)<c)->((a+b)<c):=lM 0x2104123804e381d
def qa9:(b<=d)->((a+(50*d))<c)->((a+(50*b))<c):=lM 0x210032c0412380032c04e381d
def qbH:((a+(b+1))<c)->(((a+1)+b)<c):=dO 0x21064121604e
def qcB:((a+(50*(b+1)))<c)->(((a+3)+(50*b))<c):=dO 0x210032c3304412160032c04e
def qaL:((a+(b+1))<c)->((a+b)<c):=dO 0x2104121604e
def qaO:((a+(50*(b+1)))<c)->(((a+1)+(50*b))<c):=dO 0x210032c06412160032c04e
def XU:((c+2)<=b)->(a<=((c+1)-0))->((a+1)<=b):=dO 0x1060032650d12324d
def Vz:((a+2)<=b)->(a<=b):=bW 0x10012304d
def qaJ:((c+2)<=b)->(a<=(c+1))->((a+1)<=b):=dO 0x1060260d12324d
def WP:((a+b)<=c)->((a+b)<=(c+1)):=dO 0x2610402104d
def YF{c:Nat}:(c<=b)->(a=c)->(a<=b):=dO 0x10020f12d
def Sm{c:Nat}:(c<=b)->(a<c)->(a<=b):=dO 0x10020e12d
def YQ{g:Nat}:(d<=c)->(e<f)->(a<=g)->(b<=e)->((g+f)<=d)->((a+b)<=c):=ω7 0x210403858684d481d680d5848e238d
def Xd{e:Nat}:(c<=b)->(d<c)->(a=e)->(e<=d)->(a<=b):=xF 0x1003848d480f238e12d
def R1:((a+(c+1))<b)->(a<b):=dO 0x10112604e
def Xi{f:Nat}:(c<=b)->(d=c)->(e<c)->(a=f)->(f<=e)->(a<=b):=Sz 0x1004858d580f248e238f12d
def YB{e:Nat}:(c<=b)->(d=c)->(e<c)->(a=e)->(a<=b):=xF 0x100480f248e238f12d
def WK{c:Nat}:((b+c)<=a)->¬(a<(b+c)):=dO 0x2140160214d
def Yb{c:Nat}:((a+c)<=b)->(a<=b):=dO 0x1001204d
def Yq:((b+c)<=e)->(((((D5 (Int.toNat a) b)-0)+c)+((D5 b b)-(Int.toNat (max a d))))<=(e+1)):=qcj 0x2610eb00d510300bd54402104d
def SD:(e<=49)->(b<=e)->((a+(50*(f+1)))<d)->((D5 b c)<=b)->((a+(D5 b c))<d):=Sz 0x3821d041121dd385860032c04e481d312948d
def R6:(e<=48)->(c<=e)->((a+(50*(f+1)))<d)->((D5 b c)<=c)->(((a+1)+(D5 b c))<d):=Sz 0x3821d0641221dd385860032c04e482d302948d
def W3:(d<=46)->(b<=d)->((a+(50*(e+1)))<c)->((a+(b+3))<c):=xF 0x2331404124860032c04e381d2e2938d
def Sa:((a+1)<b)->(a<b):=bW 0x101106e
def YK:(a<=(1000+(7*(5-b))))->(b<=5)->(a<=89995):=bW Sz8
def XN:(b=1)->((a+(c+1))<d)->(((a+b)+c)<d):=lM 0x38210441382604e131f
def WZ:(b=1)->((a+(50*(c+1)))<d)->(((a+b)+(50*c))<d):=lM 0x3820032c1044138260032c04e131f
def X3{b:Nat}:(a<=(a+b)):=bW 0x10400
def YN{d:Nat}:(c<=b)->(d<c)->(a=d)->(a<=b):=lM 0x100380f238e12d
def YG:(c<=5)->(a<=(d+(22*c)))->(d=1)->(b=1)->((a+b)<=200):=lM 0xc8291040131f1338f20016c3840d532d
def sy:(1000000000000:Int)<=2 ^ 62:=by decide
def ir:(1000000000000:Int)<=2 ^ 63:=by decide
end Mine
namespace Mine
open PySem PySem.W PySem.Spec PySem.Calls PyProof.Rows
set_option genInjectivity true in
inductive T where
 |none
 |bool (b:Bool)
 |int (i:Int)
 |str (s:bT)
 |qb (ts:List T)
 |list (ts:List T)
 |dict (kvs:List (bT×T))
 |D3 (a:Int) (n:Nat)
 |TM (a b c:Int)
 |IG (lo hi st:Option Int)
 |tH (i:Int) (N:Nat)
 |Ab (i:Int) (N:Nat)
 |val (v:aE)
 |pt (p:mV->Prop)
abbrev Fz:=bu->Option mV
abbrev Q1:=List Nat
abbrev M2:=List (bT×T)
abbrev S2:=Nat->List Nat
abbrev Lx0:=aE->aH->Prop
abbrev Lx1:=Nat->Nat->Bool
abbrev Lx2:=Nat->Nat->Int
mutual
inductive Rp(w:bC)(F:Fz):aE->T->Prop
 |none:Rp w F .none .none
 |bool (b:Bool):Rp w F (.bool b) (.bool b)
 |int (i:Int) (tk:Tok):Rp w F (.int i tk) (.int i)
 |str (x:bT) (tk:Tok):Rp w F (.str x tk) (.str x)
 |qb {a:bu} {vs:List aE} {n:Nat} {ts:List T}:F a=ab {cls:=.type "tuple",data:=.seq vs.toArray n}->da w F vs ts->Rp w F (.ref a) (.qb ts)
 |list {a:bu} {vs:List aE} {n:Nat} {ts:List T}:F a=ab {cls:=.type "list",data:=.seq vs.toArray n}->da w F vs ts->Rp w F (.ref a) (.list ts)
 |dict {a:bu} {es:List iL} {n:Nat} {kvs:M2}:F a=ab {cls:=.type "dict",data:=.dict es.toArray n}->p9 w F es kvs->(kvs.map (·.1)).Nodup->a≠1->Rp w F (.ref a) (.dict kvs)
 |D3 {r:bu} {a b:Int} {t u v:Tok}:F r=ab {cls:=.type "range",data:=.fields #[.int a t,.int b u,.int 1 v]}->-(2 ^ 62)<=a->a<2 ^ 62->-(2 ^ 62)<=b->b<2 ^ 62->Rp w F (.ref r) (.D3 a (b-a).toNat)
 |TM {r:bu} {a b c:Int} {t u v:Tok}:F r=ab {cls:=.type "range",data:=.fields #[.int a t,.int b u,.int c v]}->Rp w F (.ref r) (.TM a b c)
 |IG {r:bu} {lo hi st:Option Int} {vl vu vs:aE}:F r=ab {cls:=.type "slice",data:=.fields #[vl,vu,vs]}->B5 vl lo->B5 vu hi->B5 vs st->Rp w F (.ref r) (.IG lo hi st)
 |tH {i:Int} {t:Tok} {N:Nat}:0<t->t<N->Rp w F (.int i t) (.tH i N)
 |Ab {i:Int} {t:Tok} {N:Nat}:0<t->N<=t->Rp w F (.int i t) (.Ab i N)
 |val (v:aE):Rp w F v (.val v)
 |pt {a:bu} {o:mV} {p:mV->Prop}:F a=ab o->p o->Rp w F (.ref a) (.pt p)
inductive da(w:bC)(F:Fz):List aE->List T->Prop
 |nil:da w F [] []
 |cons {v:aE} {vs:List aE} {t:T} {ts:List T}:Rp w F v t->da w F vs ts->da w F (v::vs) (t::ts)
inductive p9(w:bC)(F:Fz):List iL->M2->Prop
 |nil:p9 w F [] []
 |cons {x:bT} {tk:Tok} {v:aE} {es:List iL} {t:T} {kvs:M2}:Rp w F v t->p9 w F es kvs->p9 w F (⟨eX w.params x,.str x tk,v⟩::es) ((x,t)::kvs)
end
def Le(F F':Fz):Prop:=∀a o,F a=ab o->F' a=ab o
def Le.refl(F):Le F F:=λz z e=>e
def Le.trans(x:Le F G)(y:Le G H):Le F H:=λa o e=>y a o (x a o e)
def Rp.cC(f:Le F F')(h:Rp w F v t):Rp w F' v t:=
 Rp.rec
  .none .bool .int .str (λe z g=>.qb (f _ _ e) g) (λe z g=>.list (f _ _ e) g) (λe z n q g=>.dict (f _ _ e) g n q) (λe a b c d=>.D3 (f _ _ e) a b c d) (λe=>.TM (f _ _ e)) (λe a b c=>.IG (f _ _ e) a b c)
  .tH .Ab .val (λe k=>.pt (f _ _ e) k) .nil (λz z a b=>.cons a b) .nil (λz z a b=>.cons a b) h
def RpF(w:bC)(F:Fz)(v:aE):T->Prop
 | .none=>v=.none
 | .bool b=>v=.bool b
 | .int i=>∃k,v=.int i k
 | .str x=>∃k,v=.str x k
 | .qb ts=>∃a vs n,v=.ref a/\F a=ab {cls:=.type "tuple",data:=.seq (c7 vs) n}/\da w F vs ts
 | .list ts=>∃a vs n,v=.ref a/\F a=ab {cls:=.type "list",data:=.seq (c7 vs) n}/\da w F vs ts
 | .dict kvs=>∃a d n,v=.ref a/\F a=ab {cls:=.type "dict",data:=.dict (c7 d) n}/\p9 w F d kvs/\(kvs.map (·.1)).Nodup/\a≠1
 | .D3 a n=>∃r b t u k,v=.ref r/\n=(b-a).toNat/\F r=ab {cls:=.type "range",data:=.fields #[.int a t,.int b u,.int 1 k]}/\-(2 ^ 62)<=a/\a<2 ^ 62/\-(2 ^ 62)<=b/\b<2 ^ 62
 | .TM a b c=>∃r t u k,v=.ref r/\F r=ab {cls:=.type "range",data:=.fields #[.int a t,.int b u,.int c k]}
 | .IG lo hi st=>∃r e f vs,v=.ref r/\F r=ab {cls:=.type "slice",data:=.fields #[e,f,vs]}/\B5 e lo/\B5 f hi/\B5 vs st
 | .tH i N=>∃t,v=.int i t/\0<t/\t<N
 | .Ab i N=>∃t,v=.int i t/\0<t/\N<=t
 | .val x=>x=v
 | .pt p=>∃a o,v=.ref a/\F a=ab o/\p o
def Rp.cV(r:Rp w F v t):RpF w F v t:=
 @Rp.casesOn w F (λv t z=>RpF w F v t) v t r rfl (λz=>rfl) (λz k=>⟨k,rfl⟩) (λz k=>⟨k,rfl⟩) (λe r=>⟨_,_,_,rfl,e,r⟩) (λe r=>⟨_,_,_,rfl,e,r⟩) (λe r n a=>⟨_,_,_,rfl,e,r,n,a⟩)
  (λe a b c d=>⟨_,_,_,_,_,rfl,rfl,e,a,b,c,d⟩) (λe=>⟨_,_,_,_,rfl,e⟩) (λe a b c=>⟨_,_,_,_,rfl,e,a,b,c⟩) (λa b=>⟨_,rfl,a,b⟩) (λa b=>⟨_,rfl,a,b⟩) (λz=>rfl) λa b=>⟨_,_,rfl,a,b⟩
def WM(w:bC)(F:Fz)(vs:List aE):List T->Prop
 | []=>vs=[]
 |t::ts=>∃v us,vs=v::us/\Rp w F v t/\da w F us ts
def da.cV(h:da w F vs ts):WM w F vs ts:=@da.casesOn w F (λvs ts z=>WM w F vs ts) vs ts h rfl λh r=>⟨_,_,rfl,h,r⟩
def da.nw(h:da w F vs []):vs=[]:=h.cV
def da.Af(h:da w F vs (t::ts)):∃v us,vs=v::us/\Rp w F v t/\da w F us ts:=h.cV
def da.Fc(h:da w F vs [a]):∃x,vs=[x]/\Rp w F x a:=by
 refine qd h.Af λx us b c r=>?_;subst b;obtain rfl:=r.nw;exact⟨x,rfl,c⟩
def da.two(h:da w F vs [a,b]):∃x y,vs=[x,y]/\Rp w F x a/\Rp w F y b:=by
 refine qd h.Af λx us c d r=>?_;subst c;refine cY r.Fc λy c k=>?_;subst c;exact⟨x,y,rfl,d,k⟩
def da.Sc(h:da w F vs [a,b,c]):∃x y z,vs=[x,y,z]/\Rp w F x a/\Rp w F y b/\Rp w F z c:=by
 refine qd h.Af λx us d e r=>?_;subst d;refine m8 r.two λy z d k=>?_;subst d;exact⟨x,y,z,rfl,e,k⟩
def da.WR(h:da w F vs [a,b,c,d]):∃x y z u,vs=[x,y,z,u]/\Rp w F x a/\Rp w F y b/\Rp w F z c/\Rp w F u d:=by
 refine qd h.Af λx us e f r=>?_;subst e;refine Nw r.Sc λy z u e k=>?_;subst e;exact⟨x,y,z,u,rfl,f,k⟩
def da.qcl(h:da w F vs [a,b,c,d,e]):∃x y z u v,vs=[x,y,z,u,v]/\Rp w F x a/\Rp w F y b/\Rp w F z c/\Rp w F u d/\Rp w F v e:=by
 refine qd h.Af λx us f g r=>?_;subst f;refine ES r.WR λy z u v f k=>?_;subst f;exact⟨x,y,z,u,v,rfl,g,k⟩
def da.six(h:da w F vs [a,b,c,d,e,f]):∃x y z u v t,vs=[x,y,z,u,v,t]/\Rp w F x a/\Rp w F y b/\Rp w F z c/\Rp w F u d/\Rp w F v e/\Rp w F t f:=by
 refine qd h.Af λx us g i r=>?_;subst g;refine j51 r.qcl λy z u v t g k=>?_;subst g;exact⟨x,y,z,u,v,t,rfl,i,k⟩
def da.ind{P:List aE->List T->Prop}(b:P [] [])(c:∀v vs t ts,Rp w F v t->da w F vs ts->P vs ts->P (v::vs) (t::ts)):∀ts {vs:List aE},da w F vs ts->P vs ts:=iX (fun {z} h=>by obtain rfl:=h.nw;exact b) λt ts d {z} h=>by
 refine qd h.Af λv us e a r=>?_;subst e;exact c v us t ts a r (d r)
def WJ(w:bC)(F:Fz)(a:List iL):M2->Prop
 | []=>a=[]
 |y::kvs=>∃tk v ds,a=⟨eX w.params y.1,.str y.1 tk,v⟩::ds/\Rp w F v y.2/\p9 w F ds kvs
def p9.cV(h:p9 w F a kvs):WJ w F a kvs:=@p9.casesOn w F (λa kvs z=>WJ w F a kvs) a kvs h rfl λh r=>⟨_,_,_,rfl,h,r⟩
def p9.Af(h:p9 w F a (y::kvs)):∃tk v ds,a=⟨eX w.params y.1,.str y.1 tk,v⟩::ds/\Rp w F v y.2/\p9 w F ds kvs:=h.cV
def p9.nw(h:p9 w F a []):a=[]:=h.cV
def da.cC(b:Le F F')(h:da w F vs ts):da w F' vs ts:=da.ind .nil (λz z z z a z c=>.cons (a.cC b) c) ts h
def p9.cC(c:Le F F')(h:p9 w F b kvs):p9 w F' b kvs:=by
 induction kvs generalizing b with
 |nil=>obtain rfl:=h.nw;exact .nil
 |cons y l d=>refine DZ h.Af λtk v ds e a r=>?_;subst e;exact .cons (a.cC c) (d r)
def da.length(h:da w F vs ts):vs.length=ts.length:=da.ind (P:=λvs ts=>vs.length=ts.length) rfl (λz z z z z z a=>congrArg (· + 1) a) ts h
def da.append(h:da w F vs ts)(k:da w F us b):da w F (vs++us) (ts++b):=da.ind (P:=λvs ts=>da w F (vs++us) (ts++b)) k (λz z z z a z c=>.cons a c) ts h
def da.WG(h:da w F vs ts):∀i:Nat,(vs[i]?=aC/\ts[i]?=aC)\/∃v t,vs[i]?=ab v/\ts[i]?=ab t/\Rp w F v t:=
 da.ind (P:=λvs ts=>∀i:Nat,(vs[i]?=aC/\ts[i]?=aC)\/∃v t,vs[i]?=ab v/\ts[i]?=ab t/\Rp w F v t) (λz=>.inl ⟨rfl,rfl⟩) (λv z t z a z b i=>Nat.casesOn i (.inr ⟨v,t,rfl,rfl,a⟩) b) ts h
def da.get(h:da w F vs ts){i:Nat}(e:ts[i]?=ab t):∃v,vs[i]?=ab v/\Rp w F v t:=by
 rcases h.WG i with ⟨z,h⟩ | ⟨v,u,a,b,c⟩
 .rw [h]at e;cases e
 .rw [b]at e;cases e;exact⟨v,a,c⟩
def da.Ro(h:da w F vs ts){i:Nat}(e:vs[i]?=ab v):∃t,ts[i]?=ab t/\Rp w F v t:=by
 rcases h.WG i with ⟨h,z⟩ | ⟨v,u,a,b,c⟩
 .rw [h]at e;cases e
 .rw [a]at e;cases e;exact⟨u,b,c⟩
def yP(g a:Array zH):Prop:=(∀(i:Nat) (x:zH),g[i]?=ab x->a[i]?=ab x)/\(D6 g->D6 a)
def yP.refl(g):yP g g:=⟨λz z e=>e,id⟩
def yP.trans(x:yP g c)(y:yP c b):yP g b:=⟨λi a e=>y.1 i a (x.1 i a e),λh=>y.2 (x.2 h)⟩
structure ic(md:List bu)(F:Fz)(s:aH)(F':Fz)(s':aH):Prop where
 le:Le F F'
 new:∀a o,F' a=ab o->F a=ab o\/s.heap.objs.size<=a
 keep:∀a o,a∉md->s.heap.get? a=ab o->s'.heap.get? a=ab o
 bh:∀a o,F' a=ab o->s'.heap.get? a=ab o
 size:s.heap.objs.size<=s'.heap.objs.size
 gens:yP s.gens s'.gens
 os:s'.os=s.os
 toks:s.toks<=s'.toks
abbrev Gr(F:Fz)(s:aH)(F':Fz)(s':aH):Prop:=ic [] F s F' s'
def ic.refl(h:∀a o,F a=ab o->s.heap.get? a=ab o):ic md F s F s:=
 ⟨Le.refl _,λz z e=>.inl e,λz z z e=>e,h,ah _,.refl _,rfl,ah _⟩
def ic.trans(x:ic md F s F' s')(y:ic md F' s' b c):ic md F s b c:=
 ⟨x.le.trans y.le,λa o e=>(y.new a o e).elim (λe=>x.new a o e) λl=>.inr (aA x.size l),λa o d e=>y.keep a o d (x.keep a o d e),y.bh,
  aA x.size y.size,x.gens.trans y.gens,y.os.trans x.os,aA x.toks y.toks⟩
def ic.Dj(x:ic md F s F' s')(h:∀a∈md,a∈b):ic b F s F' s':=
 ⟨x.le,x.new,λa o c e=>x.keep a o (λq=>c (h a q)) e,x.bh,x.size,x.gens,x.os,x.toks⟩
def Gr.Dj(x:Gr F s F' s'):ic md F s F' s':=ic.Dj x kq
def Gr.wi(x:Gr F s F' s'):∀b o,s.heap.get? b=ab o->s'.heap.get? b=ab o:=λb o e=>x.keep b o (λh=>nomatch h) e
structure Bs(B:gn)(F:Fz)(s:aH):Prop where
 fj:∀a o,B.get? a=ab o->F a=ab o
 bh:∀a o,F a=ab o->s.heap.get? a=ab o
def Bs.gr(b:Bs B F s)(g:ic md F s F' s'):Bs B F' s':=⟨λa o e=>g.le a o (b.fj a o e),g.bh⟩
def Bs.keep(b:Bs B F s):∀a o,B.get? a=ab o->s.heap.get? a=ab o:=λa o e=>b.bh a o (b.fj a o e)
structure fv(B:gn) where
 P:Fz->aH->Prop
 bs:∀{F s},P F s->Bs B F s
 st:∀{F s F' s'},P F s->Gr F s F' s'->P F' s'
def Rm(n:Nat)(A:cO):Prop:=A.handled=aC/\A.depth+n<pX/\A.units+50*n<cLine
def Rm.le(h:Rm n A)(e:m<=n):Rm m A:=⟨h.1,by have:=h.2.1;exact qcS e this,by have:=h.2.2;exact qa9 e this⟩
def Rm.dn(h:Rm (n+m) A)(e:cK k m=true):Rm (n+k) A:=h.le (Nat.add_le_add_left (bE e) n)
def HZ{n m:Nat}(h:n<=m)(e:autoParam (cK m 16777216=true) ou):n<=be:=aA h (aA (bE e) (dm aJ.symm))
def Kk{a b:Type}{l:List a}{f:a->b}{m:Nat}(h:l.length<=m)(e:autoParam (cK m 16777216=true) ou):(l.map f).length<=be:=by rw[af];exact HZ h e
def Rm.deeper(h:Rm (n+1) A):Rm n (A.deeper ax):=⟨h.1,by have:=h.2.1;exact qbH this,by have:=h.2.2;exact qcB this⟩
def Rm.in1(h:Rm (n+1) A):Rm n A.in1:=⟨h.1,by have:=h.2.1;exact qaL this,by have:=h.2.2;exact qaO this⟩
structure Pu(C:fv B)(w:bC)(A:cO){α:Type}(m:jj α)(R:Fz->α->Prop):Prop where
 run:∀F s,C.P F s->∀(Q:α->aH->Prop) (E:Lx0),(∀a F' s',Gr F s F' s'->R F' a->Q a s')->aP (aO pw w) A m Q E s
def Ev(C:fv B)(w:bC)(A:cO)(ax:uS)(e:bv)(t:T):Prop:=Pu C w A (dp e ax) λF v=>Rp w F v t
def wS(C:fv B)(w:bC)(A:cO)(ax:uS)(e:bv)(b:Bool):Prop:=Pu C w A (isTrue e ax (dp e ax)) λz a=>a=b
def Pu.cC{b:Type}{m:jj b}{R:Fz->b->Prop}{R':Fz->b->Prop}(h:Pu C w A m R)(c:∀F a,R F a->R' F a):Pu C w A m R':=⟨λF s d z z e=>h.run F s d _ _ λa F' s' g r=>e a F' s' g (c _ _ r)⟩
def Gr.j4(b:∀a o,F a=ab o->s.heap.get? a=ab o)(n)(c:autoParam (s.toks<=n) YL):Gr F s F {s with toks:=n}:=⟨Le.refl _,λz z e=>.inl e,λz z z e=>e,b,ah _,.refl _,rfl,c⟩
def bA:Ev C w A ax (.Constant (.int i) k pos) (.int i):=⟨λz z a z z b=>VS (b _ _ _ (Gr.j4 (C.bs a).bh _) (.int i _))⟩
def Be:Ev C w A ax (.Constant (.str x) k pos) (.str x):=⟨λz z a z z b=>yR (b _ _ _ (Gr.j4 (C.bs a).bh _) (.str x _))⟩
def fQ:Ev C w A ax (.Constant .none k pos) .none:=⟨λz z a z z b=>wpAny_Constant_none (b _ _ _ (ic.refl (C.bs a).bh) .none)⟩
def jL:Ev C w A ax (.Constant (.bool b) k pos) (.bool b):=⟨λz z a z z c=>wpAny_Constant_bool (c _ _ _ (ic.refl (C.bs a).bh) (.bool b))⟩
structure mz(C:fv B)(w:bC)(A:cO)(f:aE->aE->jj aE)(a b c:T):Prop where
 run:∀va vb F s,C.P F s->Rp w F va a->Rp w F vb b->∀(Q:Lx0) (E:Lx0),(∀v F' s',Gr F s F' s'->Rp w F' v c->Q v s')->aP (aO pw w) A (f va vb) Q E s
def bo(f:Ev C w A ax l a)(g:Ev C w A ax r b)(h:mz C w A (iN i) a b c):Ev C w A ax (.BinOp l i r pos) c:=by
 refine⟨λF s d Q E j=>?_⟩;refine Ch (f.run F s d _ _ λk m n e o=>g.run m n (C.st d e) _ _ λp q t g2 u=>h.run k p q t (C.st (C.st d e) g2) (o.cC g2.le) u _ _ λv x y g3 z=>j v x y ((e.trans g2).trans g3) z)
def ky(g:Ev C w A ax l a)(h:Ev C w A ax r b)(i:mz C w A (cQ f) a b c)(j:autoParam (false=behindInMarks f r) dfU) :
 Ev C w A ax (.Compare l [f] [r] pos) c:=by
 refine⟨λF s d Q E k=>?_⟩;refine wpAny_Compare1 (g.run F s d _ _ λm n o e p=>h.run n o (C.st d e) _ _ λq t u g2 x=>i.run m q t u (C.st (C.st d e) g2) (p.cC g2.le) x _ _ λv y z g3 B=>k v y z ((e.trans g2).trans g3) B) j.symm
def aN(h:Ev C w A ax l a)(i:Ev C w A ax r b)(j:mz C w A (cQ f) a b (.bool c))(k:autoParam (false=behindInMarks f r) dfU) :
 wS C w A ax (.Compare l [f] [r] pos) c:=by
 refine⟨λF s d Q E m=>?_⟩;refine wpAny_isTrue_Compare1 (h.run F s d _ _ λn o p e q=>i.run o p (C.st d e) _ _ λt u x g2 y=>j.run n t u x (C.st (C.st d e) g2) (q.cC g2.le) y _ _ λv z g g3 B=>?_) k.symm;exact Eq.subst (motive:=λv=>aP (aO pw w) A (truthy v) Q E g) B.cV.symm (qB (m _ z g ((e.trans g2).trans g3) rfl))
section
variable {w:bC}{F:Fz}{P:aE->Prop}{Ps:List aE->Prop}{v:aE}{vs:List aE}
@[elab_as_elim] def da.e0(h:da w F vs [])(k:Ps []):Ps vs:=h.nw▸k
@[elab_as_elim] def da.ec{t:T}{ts:List T}(h:da w F vs (t::ts))(k:∀v us,Rp w F v t->da w F us ts->Ps (v::us)):Ps vs:=by refine qd h.Af λv us a r rs=>?_;subst a;exact k v us r rs
@[elab_as_elim] def da.e1{a:T}(h:da w F vs [a])(k:∀x,Rp w F x a->Ps [x]):Ps vs:=by refine cY h.Fc λx b r=>?_;subst b;exact k x r
@[elab_as_elim] def da.e2{a b:T}(h:da w F vs [a,b])(k:∀x y,Rp w F x a->Rp w F y b->Ps [x,y]):Ps vs:=by refine qd h.two λx y c r s=>?_;subst c;exact k x y r s
@[elab_as_elim] def da.e3{a b c:T}(h:da w F vs [a,b,c])(k:∀x y z,Rp w F x a->Rp w F y b->Rp w F z c->Ps [x,y,z]):Ps vs:=by refine PX h.Sc λx y z d r s t=>?_;subst d;exact k x y z r s t
@[elab_as_elim] def da.e4{a b c d:T}(h:da w F vs [a,b,c,d])(k:∀x y z u,Rp w F x a->Rp w F y b->Rp w F z c->Rp w F u d->Ps [x,y,z,u]):Ps vs:=by refine Xp h.WR λx y z u e r s t q=>?_;subst e;exact k x y z u r s t q
@[elab_as_elim] def da.e6{a b c d e f:T}(h:da w F vs [a,b,c,d,e,f])(k:∀x y z u v t,Rp w F x a->Rp w F y b->Rp w F z c->Rp w F u d->Rp w F v e->Rp w F t f->Ps [x,y,z,u,v,t]):Ps vs:=by obtain⟨x,y,z,u,v,t,rfl,g,i,j,l,m,n⟩:=h.six;exact k x y z u v t g i j l m n
@[elab_as_elim] def Rp.eN(h:Rp w F v .none)(k:P .none):P v:=by obtain rfl:=h.cV;exact k
@[elab_as_elim] def Rp.eB{b:Bool}(h:Rp w F v (.bool b))(k:P (.bool b)):P v:=by obtain rfl:=h.cV;exact k
@[elab_as_elim] def Rp.eV{x:aE}(h:Rp w F v (.val x))(k:P x):P v:=by obtain rfl:=h.cV;exact k
@[elab_as_elim] def Rp.eI{i:Int}(h:Rp w F v (.int i))(k:∀t,P (.int i t)):P v:=by refine iA h.cV λt a=>?_;subst a;exact k t
@[elab_as_elim] def Rp.eS{x:bT}(h:Rp w F v (.str x))(k:∀t,P (.str x t)):P v:=by refine iA h.cV λt a=>?_;subst a;exact k t
@[elab_as_elim] def Rp.eT{ts:List T}(h:Rp w F v (.qb ts))(k:∀a vs n,F a=ab {cls:=.type "tuple",data:=.seq (c7 vs) n}->da w F vs ts->P (.ref a)):P v:=by refine DZ h.cV λa vs n b e r=>?_;subst b;exact k a vs n e r
@[elab_as_elim] def Rp.eL{ts:List T}(h:Rp w F v (.list ts))(k:∀a vs n,F a=ab {cls:=.type "list",data:=.seq (c7 vs) n}->da w F vs ts->P (.ref a)):P v:=by refine DZ h.cV λa vs n b e r=>?_;subst b;exact k a vs n e r
@[elab_as_elim] def Rp.eA{p:mV->Prop}(h:Rp w F v (.pt p))(k:∀a o,F a=ab o->p o->P (.ref a)):P v:=by refine qd h.cV λa o b e q=>?_;subst b;exact k a o e q
def Qw{t:T}(e:t=.none):∀F a,¬Rp w F (.ref a) t:=λz z h=>by subst e;exact Value.noConfusion h.cV
end
def G3{w:bC}{F F':Fz}{b:Type}{f g:b->T}(h:∀v x,Rp w F v (f x)->Rp w F' v (g x)){l:List b}{vs:List aE}(r:da w F vs (l.map f)):da w F' vs (l.map g):=by
 induction l generalizing vs with
 |nil=>exact r.nw▸.nil
 |cons x l c=>refine qd (da.Af r) λv us d a e=>?_;subst d;exact .cons (h v x a) (c e)
end Mine
namespace Mine
universe u v t
@[elab_as_elim] def JB{e:Sort u}{f:Sort v}{a b:e}{c d:f}{P:e->f->Prop}(h:a=b/\c=d)(k:P b d):P a c:=by
 refine dS h λi g=>?_;subst i;subst g;exact k
def Exe{b:Sort u}{c:Sort v}{d:Sort t}(x:c)(y:d)(f:b->c)(g:b->d):Prop:=∃a,x=f a/\y=g a
@[elab_as_elim] def exe{d:Sort u}{b:Sort v}{c:Sort t}{f:d->b}{g:d->c}{x:b}{y:c}{P:b->c->Prop}(h:Exe x y f g)(k:∀a,P (f a) (g a)):P x y:=by obtain⟨a,rfl,rfl⟩:=h;exact k a
section
variable {P:Nat->Prop}
def qm{n:Nat}(k:∀i,i<n->P i)(a:P n):∀i,i<n+1->P i:=λi h=>(cU (gb h)).elim (k i) λe=>e▸a
def N7:∀i,i<0->P i:=λz h=>absurd h (ft _)
@[elab_as_elim] def lt2{i:Nat}(h:i<2)(a:P 0)(b:P 1):P i:=(qm (qm N7 a) b) i h
@[elab_as_elim] def lt3{i:Nat}(h:i<3)(a:P 0)(b:P 1)(c:P 2):P i:=(qm (qm (qm N7 a) b) c) i h
@[elab_as_elim] def G9{i:Nat}(h:i<5)(a:P 0)(b:P 1)(c:P 2)(d:P 3)(e:P 4):P i:=(qm (qm (qm (qm (qm N7 a) b) c) d) e) i h
@[elab_as_elim] def lt7{i:Nat}(h:i<7)(a:P 0)(b:P 1)(c:P 2)(d:P 3)(e:P 4)(f:P 5)(g:P 6):P i:=(qm (qm (qm (qm (qm (qm (qm N7 a) b) c) d) e) f) g) i h
@[elab_as_elim] def XO{i:Nat}(h:i<10)(a:P 0)(b:P 1)(c:P 2)(d:P 3)(e:P 4)(f:P 5)(g:P 6)(a7:P 7)(j:P 8)(k:P 9):P i:=(qm (qm (qm (qm (qm (qm (qm (qm (qm (qm N7 a) b) c) d) e) f) g) a7) j) k) i h
end
end Mine
namespace Mine
open PySem PySem.W PySem.Spec PySem.Calls PyProof.Rows
noncomputable def dz(x:bT)(t:T)(l:M2):M2:=l.rec [(x,t)] λy r a=>if y.1=x then (x,t)::r else y::a
def z1:dz x t ((y,u)::r)=if y=x then (x,t)::r else (y,u)::dz x t r:=rfl
def lookup_cons{a:Type}(x y:bT)(t:a)(r:List (bT×a)):pe y ((x,t)::r)=if y=x then ab t else pe y r:=by
 rw[xu];by_cases h:y=x
 .rw [if_pos h,beq_iff_eq.mpr h]
 .rw [if_neg h,beq_eq_false_iff_ne.mpr h]
def ij(x y)(t):∀l ,(dz x t l).lookup y=if y=x then ab t else l.lookup y:=zo (by show pe y [(x,t)]=_;rw[lookup_cons]) λz u r a=>by
 rw[z1];by_cases h:z=x
 .rw [if_pos h,lookup_cons,lookup_cons];subst h;by_cases q:y=z<;>simp[q]
 .rw [if_neg h,lookup_cons,lookup_cons,a];by_cases q:y=z
  .subst q;simp[h]
  .simp [q]
structure g8(w:bC)(F:Fz)(ax:uS)(loc:M2)(h:gn):Prop where
 ns:∃m,h.Ns ax.locals m/\∀x t,loc.lookup x=ab t->ax.kindOf x=ab .local->∃v,m x=ab v/\Rp w F v t
 cell:∀x c,ax.cells.lookup x=ab c->∃ov,h.IsCell c ov/\∀t,loc.lookup x=ab t->ax.kindOf x=ab .cell\/ax.kindOf x=ab .free->∃v,ov=ab v/\Rp w F v t
 has:∀x,ax.kindOf x=ab .cell\/ax.kindOf x=ab .free->∃c,ax.cells.lookup x=ab c
 apart:∀x y c,ax.cells.lookup x=ab c->ax.cells.lookup y=ab c->x=y
 WU:F ax.locals=aC
 Yv:∀x c,ax.cells.lookup x=ab c->F c=aC
def g8.gr(f:g8 w F ax loc s.heap)(g:ic md F s F' s')(l:ax.locals∉md)(n:∀x c,ax.cells.lookup x=ab c->c∉md):g8 w F' ax loc s'.heap:=by
 obtain⟨⟨m,i,p⟩,fc,u,y,n1,n2⟩:=f;refine⟨⟨m,?_,λx t e k=>cY (p x t e k) λv a b=>⟨v,a,b.cC g.le⟩⟩,λx c e=>?_,u,y,?_,λx c e=>?_⟩
 .refine Nw i λo z A h r=>?_;exact⟨o,z,A,g.keep _ _ l h,r⟩
 .obtain⟨j,⟨o,h,hd⟩,B⟩:=fc x c e;exact⟨j,⟨o,g.keep _ _ (n x c e) h,hd⟩,λt e1 k=>cY (B t e1 k) λv a b=>⟨v,a,b.cC g.le⟩⟩
 .cases q:F' ax.locals with
  |none=>rfl
  |some o=>
   rcases g.new _ _ q with e|e
   .rw [n1]at e;cases e
   .exact absurd i.lt (aV.mpr e)
 .cases q:F' c with
  |none=>rfl
  |some o=>
   rcases g.new _ _ q with d|d
   .rw [n2 x c e]at d;cases d
   .refine cY (fc x c e) λj C D=>absurd C.lt (aV.mpr d)
structure Fx where
 ax:uS
 s0:aH
 F0:Fz
 md:List bu
 own:List bT
abbrev KO(X:Fx)(x:bT):Prop:=X.ax.kindOf x=ab .local\/(X.ax.kindOf x=ab .cell/\x∈X.own)
structure Tk where
 tk:List bu
 gk:Q1
 I:Fz->aH->Prop
 st:∀{F s F' s'},I F s->Le F F'->(∀a o,F' a=ab o->s'.heap.get? a=ab o)->(∀a∈tk,∀o,s.heap.get? a=ab o->s'.heap.get? a=ab o)->(∀i∈gk,∀x,s.gens[i]?=ab x->s'.gens[i]?=ab x)->s.toks<=s'.toks->I F' s'
noncomputable def Tk.nil:Tk:=⟨[],[],λz z=>True,λz z z z z z=>trivial⟩
noncomputable def Tk.and(K L:Tk):Tk:=⟨K.tk++L.tk,K.gk++L.gk,λF s=>K.I F s/\L.I F s,λx a b c d e=>⟨K.st x.1 a b (λy f=>c y (ac _ f)) (λi hi=>d i (ac _ hi)) e,L.st x.2 a b (λy f=>c y (ag _ f)) (λi hi=>d i (ag _ hi)) e⟩⟩
def Tk.gr{K:Tk}(h:K.I F s)(g:ic md F s F' s')(b:∀a∈K.tk,a∉md):K.I F' s':=K.st h g.le g.bh (λa c o e=>g.keep a o (b a c) e) (λi z x e=>g.gens.1 i x e) g.toks
structure St(B:gn)(w:bC)(X:Fx)(loc:M2)(K:Tk)(F:Fz)(s:aH):Prop where
 bs:Bs B F s
 d6:ic X.md X.F0 X.s0 F s
 frame:g8 w F X.ax loc s.heap
 oy:X.ax.scope.kind=.function
 iY:X.s0.heap.objs.size<=X.ax.locals
 iZ:∀x c,X.ax.cells.lookup x=ab c->x∈X.own->X.s0.heap.objs.size<=c
 cV:K.I F s
 apart:∀a∈K.tk,F a=aC/\a<s.heap.objs.size/\a≠X.ax.locals/\∀x c,X.ax.cells.lookup x=ab c->a≠c
def fY(g:ic md F s F' s')(h:F a=aC)(l:a<s.heap.objs.size):F' a=aC:=by
 cases q:F' a with
 |none=>rfl
 |some o=>
  rcases g.new _ _ q with e|e
  .rw [h]at e;cases e
  .exact absurd l (aV.mpr e)
def St.gr{K:Tk}(x:St B w X loc K F s)(g:Gr F s F' s'):St B w X loc K F' s' where
 bs:=x.bs.gr g
 d6:=x.d6.trans g.Dj
 frame:=x.frame.gr g (λh=>nomatch h) (λz z z h=>nomatch h)
 oy:=x.oy
 iY:=x.iY
 iZ:=x.iZ
 cV:=Tk.gr x.cV g λz z h=>nomatch h
 apart:=λa c=>ka (x.apart a c) λd b e=>⟨fY g d b,aT b g.size,e⟩
def St.j4{K:Tk}(x:St B w X loc K F s)(n)(a:autoParam (s.toks<=n) YL):St B w X loc K F {s with toks:=n}:=x.gr (Gr.j4 x.bs.bh n a)
def St.nM{K:Tk}(x:St B w X loc K F s)(h:∀a∈K'.tk,a∈K.tk)(hi:K.I F s->K'.I F s):St B w X loc K' F s:=⟨x.bs,x.d6,x.frame,x.oy,x.iY,x.iZ,hi x.cV,λa b=>x.apart a (h a b)⟩
def g8.uy(f:g8 w F ax loc h)(d:∀x t,loc'.lookup x=ab t->loc.lookup x=ab t):g8 w F ax loc' h:=
 ⟨cY f.ns λm a b=>⟨m,a,λx t e k=>b x t (d x t e) k⟩,λx c e=>cY (f.cell x c e) λg a b=>⟨g,a,λt e1 k=>b t (d x t e1) k⟩,f.has,f.apart,f.WU,f.Yv⟩
def St.uy{K:Tk}(x:St B w X loc K F s)(a:∀y t,loc'.lookup y=ab t->loc.lookup y=ab t):St B w X loc' K F s:=⟨x.bs,x.d6,x.frame.uy a,x.oy,x.iY,x.iZ,x.cV,x.apart⟩
noncomputable def St.pre(B)(w:bC)(X:Fx)(loc:M2)(K:Tk):fv B:=⟨λF s=>St B w X loc K F s,λh=>h.bs,λh g=>h.gr g⟩
def St.sameBut{K:Tk}(x:St B w X loc K F s)(f:s.toks<=tk)(c:cN a s.heap h')(h:X.s0.heap.objs.size<=a)(g:F a=aC)(i:a∉K.tk)(j:g8 w F X.ax loc' h'):St B w X loc' K F {s with heap:=h',toks:=tk} where
 bs:=⟨x.bs.fj,λb o e=>(c.2 b (λq=>by rw[q,g]at e;cases e)).trans (x.bs.bh b o e)⟩
 d6:=⟨x.d6.le,x.d6.new,λb o d e=>(c.2 b (λq=>absurd (aS e) (by rw[q];exact aV.mpr h))).trans (x.d6.keep b o d e),
  λb o e=>(c.2 b (λq=>by rw[q,g]at e;cases e)).trans (x.bs.bh b o e),by rw[c.1];exact x.d6.size,x.d6.gens,x.d6.os,aA x.d6.toks f⟩
 frame:=j
 oy:=x.oy
 iY:=x.iY
 iZ:=x.iZ
 cV:=K.st x.cV (Le.refl _) (λb o e=>(c.2 b (λq=>by rw[q,g]at e;cases e)).trans (x.bs.bh b o e)) (λb d o e=>(c.2 b (λq=>i (q▸d))).trans e) (λz z z e=>e) f
 apart:=λb d=>ka (x.apart b d) λk l m=>⟨k,by rw[c.1];exact l,m⟩
def g8.ne(f:g8 w F ax loc h)(g:ax.cells.lookup n=ab c):ax.locals≠c:=λq=>by
 refine cY f.ns λm i z=>DZ i λo2 k l a b z=>cY (f.cell n c g) λo j z=>cY j λo1 d e=>?_;rw[q,d]at a;rw[<-bt a,e]at b;cases b
def St.Tv{K:Tk}(x:St B w X loc K F s){m:bT->Option aE}(d:s.toks<=tk)(r:Rp w F v t)(f:cN X.ax.locals s.heap h')
 (g:∀y u,loc.lookup y=ab u->X.ax.kindOf y=ab .local->∃v,m y=ab v/\Rp w F v u)
 (i:h'.Ns X.ax.locals (λy=>if y=n then ab v else m y)) (j:X.ax.kindOf n=ab .local):St B w X (dz n t loc) K F {s with heap:=h',toks:=tk}:=by
 refine x.sameBut d f x.iY x.frame.WU (λh=>(x.apart _ h).2.2.1 rfl) ⟨⟨_,i,λy u e k=>?_⟩,λy c e=>?_,x.frame.has,x.frame.apart,x.frame.WU,x.frame.Yv⟩
 .rw [ij]at e;by_cases q:y=n
  .rw [if_pos q]at e;cases e;exact⟨v,if_pos q,r⟩
  .rw [if_neg q]at e;refine cY (g y u e k) λl a b=>⟨l,by rw[if_neg q];exact a,b⟩
 .refine cY (x.frame.cell y c e) λo p z=>⟨o,p.sameBut f (x.frame.ne e).symm,λu e1 k=>z u ?_ k⟩;rw[ij]at e1;by_cases q:y=n
  .rw [q,j]at k;exact k.elim (λk=>absurd (bt k) #v[_]) λk=>absurd (bt k) #v[_]
  .rw [if_neg q]at e1;exact e1
def St.U1{K:Tk}(x:St B w X loc K F s)(i:s.toks<=tk)(r:Rp w F v t)(f:X.ax.cells.lookup n=ab c)(l:n∈X.own)(g:cN c s.heap h')
 (o:h'.IsCell c (ab v)) (p:X.ax.kindOf n=ab .cell):St B w X (dz n t loc) K F {s with heap:=h',toks:=tk}:=by
 have j:=x.frame.ne f;refine x.sameBut i g (x.iZ n c f l) (x.frame.Yv n c f) (λh=>(x.apart _ h).2.2.2 n c f rfl) ⟨?_,λy d e=>?_,x.frame.has,x.frame.apart,x.frame.WU,x.frame.Yv⟩
 .refine cY x.frame.ns λm a b=>⟨m,a.sameBut g j,λy u e k=>b y u ?_ k⟩;rw[ij]at e;by_cases q:y=n
  .rw [q,p]at k;exact absurd (bt k) #v[_]
  .rw [if_neg q]at e;exact e
 .by_cases q:y=n
  .subst q;rw[f]at e;cases e;refine⟨ab v,o,λu e1 E=>?_⟩;rw[ij,if_pos rfl]at e1;cases e1;exact⟨v,rfl,r⟩
  .refine cY (x.frame.cell y d e) λA C D=>⟨A,C.sameBut g (λz=>q (x.frame.apart y n c (z▸e) f)),λu e1 k=>D u ?_ k⟩;rw[ij,if_neg q]at e1;exact e1
def jM{K:Tk}(x:St B w X loc K F s)(r:Rp w F v t)
 (a:KO X n) (k:∀s',St B w X (dz n t loc) K F s'->Q () s'):aP (aO pw w) A (storeName X.ax n v) Q E s:=by
 rcases a with a | ⟨a,f⟩
 .refine cY x.frame.ns λm g h=>Om a g (λh' b d=>k _ (x.Tv (cL _) r d h b a)) ?_;rw[x.oy];rfl
 .refine iA (x.frame.has n (.inl a)) λc e=>cY (x.frame.cell n c e) λj i z=>wpAny_storeName_cell x.oy a e i λh' b d=>k _ (x.U1 (ah _) r e f d b a)
def tZ{C:fv B}(k:∀F s,C.P F s->g8 w F ax loc s.heap)(j:loc.lookup x=ab t)(g:ax.scope.kind=.function)
 (a:ax.kindOf x=ab .local\/ax.kindOf x=ab .cell\/ax.kindOf x=ab .free) (hd:autoParam ((x==("__debug__" : bT))=false) We) (l:autoParam ((x==("__classdict__" : bT))=false) We):Ev C w A ax (.Name x pos) t:=by
 refine⟨λF s b Q E h=>?_⟩;have f:=k F s b;refine FM ?_ hd;rcases a with a|a
 .refine cY f.ns λm n o=>cY (o x t j a) λv d i=>kz g a n d (h v F s (ic.refl (C.bs b).bh) i)
 .refine iA (f.has x a) λc e=>cY (f.cell x c e) λq d i=>cY (i t j a) λv p r=>?_;subst p;rcases a with a|a
  .exact SW g a e d (h v F s (ic.refl (C.bs b).bh) r)
  .exact wpAny_loadName_free g a e d (h v F s (ic.refl (C.bs b).bh) r) l
structure dg(w:bC)(B:gn):Prop where
 X:(KF w.params).In B
 Vg:∃p loose mean mg mb,Top p loose mean mg mb B
def pd(a:dg w B)(bs:Bs B F s):1<s.heap.objs.size:=by
 have h:((KF w.params).lookup 369).isSome=true:=by kernel_rfl
 refine iA (Option.isSome_iff_exists.mp h) λo e=>fO (show (1:Nat)<369 by decide) (aS (bs.keep _ _ (a.X _ _ e)))
def fg{C:fv B}(a:dg w B)(e:ab (ab v)=nsIn (KF w.params) fC x)(r:∀F,Rp w F v t)(c:fC=ax.globals)(d:.function=ax.scope.kind)
 (f:ax.kindOf x=ab .globalImplicit) (hd:autoParam ((x==("__debug__" : bT))=false) We):Ev C w A ax (.Name x pos) t:=by
 refine⟨λF s b Q E g=>?_⟩;refine UR a.Vg λp loose h mg i T=>RF d.symm f (loadGlobal_global (c▸T.g.keeps (C.bs b).keep) (mg_of a.X T.g e.symm) (g v F s (ic.refl (C.bs b).bh) (r F))) hd
def Rx{C:fv B}(b:dg w B)(e:nsIn (KF w.params) fC x=ab aC)(c:zJ x=ab v)(d:x≠ "__name__") (f:ax.globals=fC) (g:ax.builtins=builtinsNs)
 (h:ax.scope.kind=.function) (i:ax.kindOf x=ab .globalImplicit) (hd:autoParam ((x==("__debug__" : bT))=false) We):Ev C w A ax (.Name x pos) (.val v):=by
 refine⟨λF s a Q E j=>?_⟩;refine UR b.Vg λp loose k mg l T=>RF h i (loadGlobal_builtin (f▸T.g.keeps (C.bs a).keep) (mg_none_of b.X T.g e) (g▸T.b.keeps (C.bs a).keep) ((T.builtins x d).trans c) (j v F s (ic.refl (C.bs a).bh) (.val v))) hd
def Nc(h:gn)(a)(f):(h.update a f).objs.size=h.objs.size:=(bB h a f).1
structure Up(n k:Nat)(s:aH):Prop where
 z:n<=s.heap.objs.size
 k:k<=s.toks
def Up.refl:Up s.heap.objs.size s.toks s:=⟨ah _,ah _⟩
def Up.trans(h:Up n m s)(r:Up s.heap.objs.size s.toks s'):Up n m s':=⟨aA h.z r.z,aA h.k r.k⟩
def Up.dz(h:Up n m s):Up n m {s with heap:=s.heap.update a f}:=⟨aA h.z (dm (Nc ..).symm),h.k⟩
def Up.push(h:Up n m s):Up n m {s with heap:=s.heap.push o}:=⟨aA h.z (by rw[aY];exact cL _),h.k⟩
def Up.fresh(h:Up n m s):Up n m {s with toks:=s.toks+1}:=⟨h.z,dy h.k⟩
def HH(h:Runs M a p t b s e s'):Up s.heap.objs.size s.toks s':=by
 induction h<;>first|exact .refl|assumption|exact Up.trans (.dz .refl) (by assumption)|exact Up.trans (.push .refl) (by assumption)|exact Up.trans (.fresh .refl) (by assumption)|exact Up.trans (by assumption) (by assumption)
def Np(h:Wakes M f p g r s j s'):Up s.heap.objs.size s.toks s':=by
 have key:∀{a b f p t i},Runs M f p t i (s.setGen g .running) a b->s'=b.setGen g a.genState->Up s.heap.objs.size s.toks s':=λd q=>by have r:=HH d;rw[q];exact⟨r.z,r.k⟩
 delta Wakes at h;have u:∀{p:Prop},p/\s'=s->Up s.heap.objs.size s.toks s':=λh=>h.2▸.refl;cases q:s.gens[g]? with
 |none=>rw[q]at h;exact h.elim
 |some x=>
  rw[q]at h;cases x with
  |fresh c=>cases r with
   |throw x=>exact h.2▸⟨ah _,ah _⟩
   |send v=>cases v with
    |none=>exact GR h λy y d y y e=>key d e
    |_=>exact u h
  |suspended y w o n m l=>exact GR h λy y d y y e=>key d e
  |_=>exact u h
def WC{w:Type}(M)(l)(n m)(t):∀(Q:w->D7->aH->Prop) E p s,Up n m s->Sem.wp M l t Q E p s->
 Sem.wp M l t (λa i s'=>Up n m s'/\Q a i s') (λe i s'=>Up n m s'/\E e i s') p s:=by
 induction t with
 |pure a=>exact λQ E p s b h=>⟨b,h⟩
 |raise e=>exact λQ E p s b h=>⟨b,h⟩
 |rule A k d=>exact λQ E p s b h=>d () Q E p s b h
 | «at» i k d=>exact λQ E p s b h=>d () Q E i s b h
 |load a A k d=>exact λQ E p s b h=>cY h λo x h=>⟨o,x,d o Q E p s b h⟩
 |update a A f k d=>exact λQ E p s b h=>⟨h.1,d () Q E p _ b.dz h.2⟩
 |loadIfAlive a k d=>exact λQ E p s b h=>d _ Q E p s b h
 |point A k d=>exact λQ E p s b h=>d () Q E p s b h
 |alloc o k d=>exact λQ E p s b h=>d _ Q E p _ b.push h
 |fresh k d=>exact λQ E p s b h=>d _ Q E p _ b.fresh h
 |ask k d=>exact λQ E p s b h=>d _ Q E p s b h
 |choose z m k d=>exact λQ E p s b h=>⟨h.1,d _ Q E p _ ⟨b.z,b.k⟩ h.2⟩
 |os q A k d=>exact λQ E p s b h=>d _ Q E p _ ⟨b.z,b.k⟩ h
 |call c hd A B k d=>exact λQ E p s b h=>m8 h λr s' u h=>⟨r,s',u,d r Q E p s' (b.trans (HH u)) h⟩
 |handled own k d=>exact λQ E p s b h=>d _ Q E p s b h
 |genState g k d=>exact λQ E p s b h=>cY h λst y h=>⟨st,y,d _ Q E p s b h⟩
 |newGen c k d=>exact λQ E p s b h=>d _ Q E p _ ⟨b.z,b.k⟩ h
 |resume g r A k d=>exact λQ E p s b h=>m8 h λj s' v h=>⟨j,s',v,d j Q E p s' (b.trans (Np v)) h⟩
 |stack k d=>exact λQ E p s b h=>d _ Q E p s b h
 |thread k d=>exact λQ E p s b h=>d _ Q E p s b h
 |_=>exact λQ E p s A h=>h
def gC{c:Type}{t:jj c}{Q:c->aH->Prop}
 (h:aP M A t (λa s'=>s.heap.objs.size<=s'.heap.objs.size->s.toks<=s'.toks->Q a s') E s):aP M A t Q E s:=λb p d=>
 Sem.wp_mono M b t (λy y y q=>q.2 q.1.z q.1.k) (λy y y q=>q.2) p s (WC M b _ _ t _ _ p s .refl (h b p d))
def i4{b:Type}{t:jj b}{Q:b->aH->Prop}(h:aP M A t (λa s'=>s.heap.objs.size<=s'.heap.objs.size->Q a s') E s):aP M A t Q E s:=gC (cj h (λy y q z y=>q z) λy y q=>q)
def gy{b:Type}{t:jj b}{Q:b->aH->Prop}(h:aP M A t (λa s'=>s.toks<=s'.toks->Q a s') E s):aP M A t Q E s:=gC (cj h (λz z q z=>q) λz z q=>q)
def Ts{d:Type}{c:Prop} [Decidable c]{a b:jj d}{Q:d->aH->Prop}(e:c)(h:aP M A a Q E s):aP M A (if c then a else b) Q E s:=by rw[if_pos e];exact h
def AU{d:Type}{c:Prop} [Decidable c]{a b:jj d}{Q:d->aH->Prop}(e:¬c)(h:aP M A b Q E s):aP M A (if c then a else b) Q E s:=by rw[if_neg e];exact h
set_option backward.match.sparseCases true
inductive Sy(w:bC)(F:Fz):List (bT×aE)->M2->Prop
 |nil:Sy w F [] []
 |cons {x:bT} {v:aE} {t:T} {bs:List (bT×aE)} {ls:M2}:Rp w F v t->Sy w F bs ls->Sy w F ((x,v)::bs) ((x,t)::ls)
def Sy.find{bs:List (bT×aE)}{ls:M2}(r:Sy w F bs ls):ls.lookup x=ab t->∃v,(x,v)∈bs/\Rp w F v t:=by
 induction r with
 |nil=>exact ons
 |cons h r c=>
  rename_i y v u bs ls
  intro e;rw[lookup_cons]at e;by_cases z:x=y
  .rw [if_pos z]at e;exact⟨_,z▸.head _,bt e▸h⟩
  .rw [if_neg z]at e;exact cY (c e) λv a b=>⟨v,.tail _ a,b⟩
def Im:∀bs m,x∉bs.map (·.1)->bindL k bs m x=m x:=zo (λz z=>rfl) λn v r a m h=>by
 unfold bindL;rw[a _ λq=>h (HO _ q)];by_cases c:k n=ab .local
 .rw [if_pos c];exact if_neg λq=>h (by rw[q];exact .head _)
 .rw [if_neg c]
def IZ:∀bs m,x∉bs.map (·.1)->bindC k bs m x=m x:=zo (λz z=>rfl) λn v r a m h=>by
 unfold bindC;rw[a _ λq=>h (HO _ q)];by_cases c:k n=ab .local
 .rw [if_pos c]
 .rw [if_neg c];exact if_neg λq=>h (by rw[q];exact .head _)
def yB(b:k x=ab .local):∀bs m,(bs.map (·.1)).Nodup->(x,v)∈bs->bindL k bs m x=ab v:=zo (λz z h=>nomatch h) λn u r c m d h=>by
 unfold bindL;have a:=du.mp d;rcases aX.mp h with e|h
 .cases e;rw[Im r _ a.1,if_pos b];exact if_pos rfl
 .exact c _ a.2 h
def JY(b:k x≠ab .local):∀bs m,(bs.map (·.1)).Nodup->(x,v)∈bs->bindC k bs m x=ab v:=zo (λz z h=>nomatch h) λn u r c m d h=>by
 unfold bindC;have a:=du.mp d;rcases aX.mp h with e|h
 .cases e;rw[IZ r _ a.1,if_neg b];exact if_pos rfl
 .exact c _ a.2 h
noncomputable abbrev rm(fd:RG)(f L:bu):uS:=newEnv fd.scope L fd.globals (dI (L+1) fd.scope.names []) (fd.qualname ++ ".<locals>.") (ab f) fd.code aC fd.builtins
def z3{K:Tk}(bs:Bs B F s)
 (J:fd.scope.kind=.function) (l:(fd.scope.names.all λy=>y.2 != .free)=true) (m:(binds.all λy=>fd.scope.names.lookup y.1==ab .local ||fd.scope.names.lookup y.1==ab .cell)=true)
 (n:(binds.map (·.1)).Nodup) (L:Sy w F binds loc) (hi:K.I F s) (M:∀a∈K.tk,F a=aC/\a<s.heap.objs.size)
 (k:∀D,(∀b o,s.heap.get? b=ab o->D.heap.get? b=ab o)->St B w ⟨rm fd f s.heap.objs.size,s,F,md,own⟩ loc K F D->N (rm fd f s.heap.objs.size) D) :
 aP (aO pw w) A (FN fd.scope fd.globals [] binds (fd.qualname ++ ".<locals>.") (ab f) fd.code aC fd.builtins) N E s:=by
 refine gy (FO J (kindsX m _) λO P s' x p=>?_);subst P;refine m8 x.done λj tk Q d=>?_;subst Q;have h:∀y c,(dI (s.heap.objs.size+1) fd.scope.names []).lookup y=ab c->s.heap.objs.size<c:=λy c e=>x.above y c (mem_of_lookup e);have i:∀a,s.heap.objs.size<=a->F a=aC:=λa G=>by
  cases q:F a with
  |none=>rfl
  |some o=>exact absurd (aS (bs.bh _ _ q)) (aV.mpr G)
 have u:=x.toInCall.ns;refine k {s with heap:=j,toks:=tk} d ?_;have C:s.heap.objs.size<=j.objs.size:=c9 u.lt;refine⟨⟨bs.fj,λa o e=>d a o (bs.bh a o e)⟩,⟨Le.refl _,λS S e=>.inl e,λa o S e=>d a o e,λa o e=>d a o (bs.bh a o e),C,.refl _,rfl,p⟩,?_,J,ah _,λy c e S=>c9 (h y c e),
  K.st hi (Le.refl _) (λa o e=>d a o (bs.bh a o e)) (λa S o e=>d a o e) (λS S S e=>e) p,λa G=>?_⟩
 .refine⟨⟨_,u,λy t e g=>?_⟩,λy c e=>⟨_,x.cell y c e,λt e1 g=>?_⟩,λy g=>?_,λy z c e1 e2=>name_of_addr x.apart (mem_of_lookup e1) (mem_of_lookup e2),i _ (ah _),λy c e=>i _ (c9 (h y c e))⟩
  .refine cY (L.find e) λv H r=>⟨v,yB g _ _ n H,r⟩
  .refine cY (L.find e1) λv H r=>⟨v,JY (by rcases g with g|g<;>rw[g]<;>decide) _ _ n H,r⟩
  .rcases g with g|g
   .have:=qcV fd.scope.names (s.heap.objs.size+1) [] (.inl g);cases q:(dI (s.heap.objs.size+1) fd.scope.names []).lookup y with
    |none=>rw[q]at this;cases this
    |some c=>exact⟨c,q⟩
   .exfalso;have:=bg.mp l _ (mem_of_lookup g);simp at this
 .refine dS (M a G) λR I=>⟨R,aT I C,cw I,λy c e=>cw (fO I (h y c e))⟩
def fdD(d:Data):Option RG:=match d with | .func fd=>ab fd|z=>aC
def bdD(b:FuncBody):Option (List lS):=match b with | .stmts b=>ab b|z=>aC
def MK(P:j3)(f:bu):Option (RG×List lS):=((KF P).lookup f).bind λo=>(fdD o.data).bind λfd=>(bdD fd.body).map λb=>(fd,b)
def Ye(P:j3)(fd:RG):Bool:=!fd.scope.isCoroutine&&!fd.scope.isGenerator&&fd.closure.isEmpty&&codeIn (KF P) fd.code fd.qualname&&decide (fd.scope.kind=.function)&&fd.scope.names.all λy=>y.2 != .free
def P3{d:Data}:fdD d=ab fd->d=.func fd:=by cases d<;>intro h<;>first|exact ons h|exact congrArg Data.func (bt h)
def Rd{d:FuncBody}:bdD d=ab b->d=.stmts b:=by cases d<;>intro h<;>first|exact ons h|exact congrArg FuncBody.stmts (bt h)
def WD(h:MK P f=ab (fd,b)):∃o,(KF P).lookup f=ab o/\o.data=.func fd/\fd.body=.stmts b:=
 cY (kO.mp h) λo e h=>cY (kO.mp h) λa e2 h=>cY (qe.mp h) λc e3 q=>by
  cases q;exact⟨o,e,P3 e2,Rd e3⟩
def LQ{K:Tk}(c:St B w X loc K F s)(d:Ev (St.pre B w X loc K) w A X.ax a t)
 (e:KO X x) (f:cD false=cf a (ab (.Name x b)) pos.line X.ax)
 (k:∀F' s',St B w X (dz x t loc) K F' s'->aP (aO pw w) A (jl bj X.ax) Q E s'):aP (aO pw w) A (jl (.Assign [.Name x b] a pos::bj) X.ax) Q E s:=by
 refine bF (iO (d.run F s c _ _ λv h l g r=>?_) f.symm);exact jM (c.gr g) r e λi j=>k h i j
def ME{K:Tk}(a:St B w X loc K F s)(b:Ev (St.pre B w X loc K) w A X.ax e t)
 (k:∀v F' s',St B w X loc K F' s'->Rp w F' v t->Q (.ret v) s'):aP (aO pw w) A (jl (.Return (ab e) pos::bj) X.ax) Q E s:=
 bF (Wj (b.run F s a _ _ λv c d g r=>k v c d (a.gr g) r))
def Xe{X:Fx}(k:Q .next s):aP (aO pw w) A (jl [] X.ax) Q E s:=DS k
def t8(body bj:List lS)(ax:uS):jl (body++bj) ax=jl body ax >>= λf=>match f with | .next=>jl bj ax|f=>cD f:=by
 induction body with
 |nil=>show jl bj ax=(cD Flow.next >>= _);rw[wD]
 |cons st r a=>
  rw[eF,FP,FP,nG];refine congrArg _ (funext λf=>?_);cases f with
  |next=>exact a
  |brk=>exact(wD _ _).symm
  |cont=>exact(wD _ _).symm
  |ret v=>exact(wD _ _).symm
def Mp(c)(body a bj)(pos)(ax):jl (.If c body a pos::bj) ax =
 (ej pos >>= λz=>isTrue c ax (dp c ax) >>= λb=>jl ((if b then body else a)++bj) ax):=by
 rw[FP,exec_If];rw[nG];refine congrArg _ (funext λz=>?_);rw[nG];refine congrArg _ (funext λb=>?_);rw[t8];cases b<;>rfl
def Uv{K:Tk}(d:St B w X loc K F s)(e:wS (St.pre B w X loc K) w A X.ax c b)
 (k:∀F' s',St B w X loc K F' s'->aP (aO pw w) A (jl ((if b then body else a)++bj) X.ax) Q E s'):aP (aO pw w) A (jl (.If c body a pos::bj) X.ax) Q E s:=by
 rw[Mp];exact aa (cz (aa (e.run F s d _ _ λv f h g r=>r▸k f h (d.gr g))))
def XM{K:Tk}(d:St B w X loc K F s)(e:wS (St.pre B w X loc K) w A X.ax c b)
 (f:b=true->∀F' s',St B w X loc K F' s'->aP (aO pw w) A (jl (body++bj) X.ax) Q E s')
 (g:b=false->∀F' s',St B w X loc K F' s'->aP (aO pw w) A (jl (a++bj) X.ax) Q E s'):aP (aO pw w) A (jl (.If c body a pos::bj) X.ax) Q E s:=
 Uv d e λF' s' h=>by cases b with
  |true=>exact f rfl F' s' h
  |false=>exact g rfl F' s' h
inductive NxA(B:gn)(w:bC)(X:Fx)(P:M2->Tk->Prop)(L:Tk)(s:aH):Prop
 |mk (loc:M2) (K:Tk) (F:Fz) (h:P loc K) (k:St B w X loc (K.and L) F s):NxA B w X P L s
abbrev qA(B:gn)(w:bC)(X:Fx)(P:M2->Tk->Prop)(L:Tk)(R:aH->Prop)(Q:nP->aH->Prop)(fl:nP)(s:aH):Prop:=match fl with
 | .next | .cont=>NxA B w X P L s
 | .brk=>R s
 | .ret v=>Q (.ret v) s
abbrev qE(R:aH->Prop)(Q:nP->aH->Prop)(fl:nP)(s:aH):Prop:=match fl with
 | .next=>R s
 |fl=>Q fl s
structure Mv(wr:List bu)(gw:Q1)(s s':aH):Prop where
 heap:∀b o,b∉wr->s.heap.get? b=ab o->s'.heap.get? b=ab o
 gens:∀i x,i∉gw->s.gens[i]?=ab x->s'.gens[i]?=ab x
 bare:D6 s.gens->D6 s'.gens
 os:s'.os=s.os
 toks:s.toks<=s'.toks
structure It(w:bC)(A:cO) where
 I:bu
 fp:List bu
 wr:List bu
 gw:Q1
 n:Nat
 P:Nat->aE->Prop
 S:Nat->aH->Prop
 sub:∀b∈wr,b∈fp
 QY:∀i s s',S i s->(∀b∈fp,∀o,s.heap.get? b=ab o->s'.heap.get? b=ab o)->(∀j∈gw,∀x,s.gens[j]?=ab x->s'.gens[j]?=ab x)->s.toks<=s'.toks->S i s'
 item:∀i (s:aH) (Q:Option aE->aH->Prop) (E:Lx0),i<n->S i s->(∀v s',P i v->S (i+1) s'->Mv wr gw s s'->Q (ab v) s')->aP (aO pw w) A (mL (.ref I)) Q E s
 done:∀(s:aH) (Q:Option aE->aH->Prop) (E:Lx0),S n s->(∀s',Mv wr gw s s'->Q aC s')->aP (aO pw w) A (mL (.ref I)) Q E s
 self:∀i (s:aH) (Q:Lx0) (E:Lx0),S i s->Q (.ref I) s->aP (aO pw w) A (mM (.ref I)) Q E s
noncomputable def It.of{I:bu}{fp:List bu}{wr:List bu}{n:Nat}{P:Nat->aE->Prop}{S:Nat->gn->Prop}(W:Walks pw w A I fp wr n P S):It w A where
 I:=I
 fp:=fp
 wr:=wr
 gw:=[]
 n:=n
 P:=P
 S:=λi s=>S i s.heap
 sub:=W.sub
 QY:=λi s s' h k z z=>W.frame i _ _ h k
 item:=λi s Q E hi h a=>gy (W.item i s _ E hi h λv h' tk d f b c=>a v _ d f ⟨b,λz z z e=>e,id,rfl,c⟩)
 done:=λs Q E h a=>gy (W.done s _ E h λh' tk b c=>a _ ⟨b,λz z z e=>e,id,rfl,c⟩)
 self:=λi s Q E h a=>W.self i s Q E h a
noncomputable def It.tk(it:It w A)(ts:List T)(ex:List bu)(i:Nat):Tk where
 tk:=it.wr++ex
 gk:=it.gw
 I:=λF s=>it.S i s/\(∀b∈it.fp,b∈it.wr\/b∈ex\/∃o,F b=ab o/\s.heap.get? b=ab o)/\∀j v,j<ts.length->it.P j v->∃t,ts[j]?=ab t/\Rp w F v t
 st:=fun {F s F' s'} x l bh f g h=>⟨it.QY i s s' x.1 (λb d o e=>by
  rcases x.2.1 b d with q|q | ⟨p,c,k⟩
  .exact f b (ac _ q) o e
  .exact f b (ag _ q) o e
  .rw [k]at e;cases e;exact bh b _ (l b _ c)) g h,
  λb d=>(x.2.1 b d).imp id λq=>q.imp id λq=>cY q λo c z=>⟨o,l b o c,bh b o (l b o c)⟩,λj v m n=>cY (x.2.2 j v m n) λt a b=>⟨t,a,b.cC l⟩⟩
structure It.Ok(it:It w A)(F':Fz)(s' s:aH)(ts:List T)(ex:List bu):Prop where
 n:it.n=ts.length
 S:it.S 0 s'
 wr:∀b∈it.wr,F' b=aC/\s.heap.objs.size<=b/\b<s'.heap.objs.size
 gw:∀i∈it.gw,s.gens.size<=i
 fp:∀b∈it.fp,b∈it.wr\/b∈ex\/∃o,F' b=ab o/\s'.heap.get? b=ab o
 P:∀i v,i<ts.length->it.P i v->∃t,ts[i]?=ab t/\Rp w F' v t
def It.B2(it:It w A)(target:bv):Prop:=∀(i:Nat) (v:aE) (s:aH) (Q:Unit->aH->Prop) (E:Lx0),it.S i s->Q () s->aP (aO pw w) A (fE target (.ref it.I) v) Q E s
structure ItG(C:fv B)(w:bC)(A:cO)(ax:uS)(iter target:bv)(ts:List T)(ex:List bu)(G:Q1->Prop):Prop where
 run:∀F s,C.P F s->∀(Q:Lx0) (E:Lx0),(∀(it:It w A) F' s',Gr F s F' s'->it.Ok F' s' s ts ex->it.B2 target->G it.gw->Q (.ref it.I) s')->
  wpAny (aO pw w) A (dp iter ax) (λxv s1=>aP (aO pw w) A (mM xv) Q E s1) E s
abbrev pO(C:fv B)(w:bC)(A:cO)(ax:uS)(iter target:bv)(ts:List T)(ex:List bu):Prop:=ItG C w A ax iter target ts ex (λgw=>gw=[])
structure zu(B:gn)(w:bC)(A:cO)(X:Fx)(target:bv)(t:T)(f:M2->M2):Prop where
 run:∀(loc:M2) (K:Tk) (F:Fz) (s:aH) (v:aE) (Q:Unit->aH->Prop) (E:Lx0),St B w X loc K F s->Rp w F v t->(∀F' s',Le F F'->St B w X (f loc) K F' s'->Q () s')->aP (aO pw w) A (lU target X.ax v) Q E s
def hO(a:KO X x):zu B w A X (.Name x px) t (λloc=>dz x t loc):=
 ⟨λz z F z z z z b r k=>j5 (jM b r a λs' h=>k F s' (Le.refl _) h)⟩
def c8{F:Fz}{h:gn}(bh:∀a o,F a=ab o->h.get? a=ab o)(b:h.objs.size<=a):F a=aC:=by
 cases q:F a with
 |none=>rfl
 |some o=>exact absurd (aS (bh _ _ q)) (aV.mpr b)
def St.fresh{K:Tk}(a:St B w X loc K F s)(d:s.heap.objs.size<=b):F b=aC/\b∉K.tk/\b≠X.ax.locals/\∀x c,X.ax.cells.lookup x=ab c->b≠c:=
 ⟨c8 a.bs.bh d,λq=>absurd (a.apart b q).2.1 (aV.mpr d),λq=>cY a.frame.ns λz f z=>absurd f.lt (aV.mpr (q▸d)),λx c e q=>cY (a.frame.cell x c e) λz g z=>absurd g.lt (aV.mpr (q▸d))⟩
def St.KB{K:Tk}{it:It w A}(c:St B w X loc K F s)(g:Gr F s F' s')(ok:it.Ok F' s' s ts ex)(hex:∀a∈ex,a∈K.tk):St B w X loc (K.and (it.tk ts ex 0)) F' s':=by
 have h:=c.gr g;refine⟨h.bs,h.d6,h.frame,h.oy,h.iY,h.iZ,⟨h.cV,ok.S,ok.fp,ok.P⟩,λa b=>?_⟩;rcases ao.mp b with b|b
 .exact h.apart a b
 .rcases ao.mp b with b|b
  .exact ka (ok.wr a b) λd e f=>⟨d,f,(c.fresh e).2.2⟩
  .exact h.apart a (hex a b)
def St.wf{K:Tk}(d:St B w X loc K F s)(f:∀b∈wr,F b=aC/\X.s0.heap.objs.size<=b/\b∉K.tk/\b≠X.ax.locals/\∀x c,X.ax.cells.lookup x=ab c->b≠c)
 (n:∀i∈gw,X.s0.gens.size<=i/\i∉K.gk) (m:Mv wr gw s s') (k:s.heap.objs.size<=s'.heap.objs.size):St B w X loc K F s':=by
 have g:=m.heap;have bh:∀a o,F a=ab o->s'.heap.get? a=ab o:=λa o e=>g a o (λq=>by rw[(f a q).1]at e;cases e) (d.bs.bh a o e);refine⟨⟨d.bs.fj,bh⟩,⟨d.d6.le,d.d6.new,λa o j e=>g a o (λq=>absurd (aS e) (aV.mpr (f a q).2.1)) (d.d6.keep a o j e),bh,aA d.d6.size k,
  ⟨λi x e=>m.gens i x (λq=>by
   exact(bW 0x901e10d) ((n i q).1) ((eY.mp e).1)) (d.d6.gens.1 i x e),λh=>m.bare (d.d6.gens.2 h)⟩,m.os.trans d.d6.os,aA d.d6.toks m.toks⟩,
  ?_,d.oy,d.iY,d.iZ,K.st d.cV (Le.refl _) bh (λa j o e=>g a o (λq=>(f a q).2.2.1 j) e) (λi hi x e=>m.gens i x (λq=>(n i q).2 hi) e) m.toks,λa j=>?_⟩
 .obtain⟨⟨p,t,u⟩,fc,v,y,n1,n2⟩:=d.frame;refine⟨⟨p,?_,u⟩,λx c e=>?_,v,y,n1,n2⟩
  .refine Nw t λo z A l r=>?_;exact⟨o,z,A,g _ _ (λq=>(f _ q).2.2.2.1 rfl) l,r⟩
  .obtain⟨C,⟨o,l,hd⟩,D⟩:=fc x c e;exact⟨C,⟨o,g _ _ (λq=>(f _ q).2.2.2.2 x c e rfl) l,hd⟩,D⟩
 .refine ka (d.apart a j) λE G H=>⟨E,aT G k,H⟩
def St.next{K:Tk}{it:It w A}(d:St B w X loc (K.and (it.tk ts ex i)) F s)(l:∀b∈it.wr,X.s0.heap.objs.size<=b/\b∉K.tk)(p:∀i∈it.gw,X.s0.gens.size<=i/\i∉K.gk)
 (st:it.S (i+1) s') (m:Mv it.wr it.gw s s') (f:s.heap.objs.size<=s'.heap.objs.size):St B w X loc (K.and (it.tk ts ex (i+1))) F s':=by
 have ap:∀b∈it.wr,F b=aC/\X.s0.heap.objs.size<=b/\b∉K.tk/\b≠X.ax.locals/\∀x c,X.ax.cells.lookup x=ab c->b≠c:=λb e=>
  ka (d.apart b (ag _ (ac _ e))) λg z j=>⟨g,(l b e).1,(l b e).2,j⟩
 have h:=St.wf (d.nM (λa k=>ac _ k) λq=>q.1) ap p m f;refine⟨h.bs,h.d6,h.frame,h.oy,h.iY,h.iZ,⟨h.cV,st,λb e=>(d.cV.2.2.1 b e).imp id λq=>q.imp id λq=>cY q λo n z=>⟨o,n,h.bs.bh b o n⟩,d.cV.2.2.2⟩,λa k=>?_⟩;refine ka (d.apart a k) λg r j=>⟨g,aT r f,j⟩
def FE{n:Nat}{Pt:Nat->T->Prop}{K M0:Tk}{f:Nat->M2->M2}{z:aH->Prop}{R:Result->aH->Prop}(Inv:Nat->M2->Tk->Prop)(M:Nat->Tk->Prop)(J:St B w X loc (K.and M0) F s)(L:Inv 0 loc K)(N:M 0 M0)
 (O:∀i t,Pt i t->zu B w A X target t (f i))
 (item:∀i loc' K' b F' s' E (P:Lx0),i<n->Inv i loc' K'->M i b->St B w X loc' (K'.and b) F' s'->(∀v t g d c,Pt i t->M (i+1) g->Rp w d v t->St B w X loc' (K'.and g) d c->P v c)->
  aP (aO pw w) A (mL (.ref a)) (λr k=>∃v,r=ab v/\aP (aO pw w) A (fE target (.ref a) v) (λ_=>P v) E k) E s')
 (done:∀loc' K' b F' s' E (P:aH->Prop),Inv n loc' K'->M n b->St B w X loc' (K'.and b) F' s'->(∀d c,St B w X loc' K' d c->P c)->aP (aO pw w) A (mL (.ref a)) (λr k=>r=aC/\P k) E s')
 (oD:∀b i loc' K' F' s',M (i+1) b->i<n->Inv i loc' K'->St B w X (f i loc') (K'.and b) F' s'->aP (aO pw w) A (jl body X.ax) (qA B w X (Inv (i+1)) b z Q) (λ_ _=>False) s')
 (jO:∀loc' K' F' s',Inv n loc' K'->St B w X loc' K' F' s'->aP (aO pw w) A (jl l X.ax) (qE z Q) (λ_ _=>False) s') (C:∀fl s,qE z Q fl s->R (.ok fl) s) :
 kP (aO pw w) A (.forLoop target (.ref a) body l X.ax) R s:=by
 refine SX (λm s'=>∃i,m=n+1-i/\i<=n/\∃b,M i b/\NxA B w X (Inv i) b s') ?_ (n+1) ⟨0,rfl,bG _,M0,N,loc,K,F,L,J⟩;intro m s' G;refine mB G λi H hi q=>cY q λb q S=>?_;obtain⟨loc',K',F',u,y⟩:=S;rcases cU hi with h|h
 .refine cj (item i loc' K' b F' s' _ _ h u q y λv t g d c U o j p=>(O i t U).run loc' _ d c v _ _ p j λV D _ I=>cj (oD g i loc' K' V D o h u I) (λfl Z x=>?_) λ_ _ h=>h.elim) (λr k j=>cY j λv e W=>e▸W) λ_ _ h=>h;cases fl with
  |next=>exact⟨_,by rw[H];exact(bW Su0) h,i+1,rfl,h,g,o,x⟩
  |cont=>exact⟨_,by rw[H];exact(bW Su0) h,i+1,rfl,h,g,o,x⟩
  |brk=>exact C .next _ x
  |ret v=>exact C (.ret v) _ x
 .subst h;exact cj (done loc' K' b F' s' _ _ u q y λd c p=>cj (jO loc' K' d c u p) (λfl D Y=>C fl D Y) λ_ _ h=>h.elim) (λr k j=>j.1▸j.2) λ_ _ h=>h
def W8{K:Tk}{f:Nat->M2->M2}(Inv:Nat->M2->Tk->Prop)
 (l:St B w X loc K F s) (hi:ItG (St.pre B w X loc K) w A X.ax iter target ts ex G) (R:∀gw,G gw->gw=[]\/K.gk=[]) (hex:∀a∈ex,a∈K.tk) (J:∀i loc' K',Inv i loc' K'->K'.tk=K.tk/\K'.gk=K.gk) (S:∀i t,ts[i]?=ab t->zu B w A X target t (f i)) (U:Inv 0 loc K)
 (oD:∀L i loc' K' F' s',(∀a∈L.tk,a∈ex\/(a∉K.tk/\X.s0.heap.objs.size<=a))->i<ts.length->Inv i loc' K'->St B w X (f i loc') (K'.and L) F' s'->
  aP (aO pw w) A (jl body X.ax) (qA B w X (Inv (i+1)) L (aP (aO pw w) A (jl bj X.ax) Q E) Q) (λ_ _=>False) s')
 (jO:∀loc' K' F' s',Inv ts.length loc' K'->St B w X loc' K' F' s'->aP (aO pw w) A (jl m X.ax) (qE (aP (aO pw w) A (jl bj X.ax) Q E) Q) (λ_ _=>False) s')
 (V:autoParam (∀x,bw iter X.ax x=cD x) y2):aP (aO pw w) A (jl (.For target iter body m pos::bj) X.ax) Q E s:=by
 refine bF (JH (hi.run F s l _ _ λit F1 s1 g ok RH N=>?_) V);have u:∀b∈it.wr,X.s0.heap.objs.size<=b/\b∉K.tk:=λb e=>⟨aA l.d6.size (ok.wr b e).2.1,λq=>absurd (l.apart b q).2.1 (aV.mpr (ok.wr b e).2.1)⟩;have W:∀i∈it.gw,X.s0.gens.size<=i:=λi hi=>by
  refine aA (qr λq=>?_) (ok.gw i hi);exact(bO 0x900e) ((eY.mp (l.d6.gens.1 s.gens.size _ (dW q))).1)
 have o:∀{i loc' K'},Inv i loc' K'->∀b∈it.wr,X.s0.heap.objs.size<=b/\b∉K'.tk:=λd b e=>⟨(u b e).1,(J _ _ _ d).1▸(u b e).2⟩;have y:∀{i loc' K'},Inv i loc' K'->∀j∈it.gw,X.s0.gens.size<=j/\j∉K'.gk:=λd j C=>⟨W j C,λh=>(R _ N).elim (λq=>by rw[q]at C;cases C) λq=>by rw[(J _ _ _ d).2,q]at h;cases h⟩;refine FE (n:=ts.length) (Pt:=λi t=>ts[i]?=ab t) Inv (λi M=>M=it.tk ts ex i) (l.KB g ok hex) U rfl S (λi loc' K' O F' s' E P h d p c k=>?_) (λloc' K' O F' s' E P d p c k=>?_) (λO i loc' K' F' s' p=>p▸oD _ i loc' K' F' s' λa D=>(ao.mp D).elim (λh=>.inr ⟨(u a h).2,(u a h).1⟩) .inl) jO λfl s h=>by cases fl<;>exact h
 .subst p;refine i4 (it.item i s' _ _ (by rw[ok.n];exact h) c.cV.2.1 λv H Y z I r=>⟨v,rfl,RH _ v _ _ _ z ?_⟩);exact cY (c.cV.2.2.2 i v h Y) λt Z hr=>k v t _ F' H Z rfl hr (St.next c (o d) (y d) z I r)
 .subst p;refine i4 (it.done s' _ _ (by rw[ok.n];exact c.cV.2.1) λH I r=>⟨rfl,k F' H (St.wf (c.nM (λa ha=>ac _ ha) λq=>q.1) (λb e=>?_) (y d) I r)⟩);exact ka (c.apart b (ag _ (ac _ e))) λD _ h3=>⟨D,(o d b e).1,(o d b e).2,h3⟩
set_option backward.match.sparseCases false
noncomputable def Tk.cu(w:bC)(a:bu)(ts:List T):Tk where
 tk:=[a]
 gk:=[]
 I:=λF s=>∃vs n,s.heap.get? a=ab {cls:=.type "list",data:=.seq (c7 vs) n}/\da w F vs ts
 st:=λh l z k z z=>m8 h λvs n e r=>⟨vs,n,k _ (.head _) _ e,r.cC l⟩
def St.uv{K:Tk}(d:St B w X loc K F s)(h:cN a s.heap h')(i:X.s0.heap.objs.size<=a\/a∈X.md)(k:a∈K.tk)(l:K'.I F {s with heap:=h'})(j:∀b∈K'.tk,b∈K.tk):St B w X loc K' F {s with heap:=h'}:=by
 refine sE (d.apart a k) λn1 n2 m n=>?_;have bh:∀b o,F b=ab o->h'.get? b=ab o:=λb o e=>(h.2 b (λq=>by rw[q,n1]at e;cases e)).trans (d.bs.bh b o e);have g:ic [a] F s F {s with heap:=h'}:=⟨Le.refl _,λz z e=>.inl e,λb o f e=>(h.2 b (λq=>f (by rw[q];exact .head _))).trans e,bh,by show _<=h'.objs.size;rw[h.1];exact ah _,.refl _,rfl,ah _⟩;refine⟨⟨d.bs.fj,bh⟩,⟨d.d6.le,d.d6.new,λb o f e=>?_,bh,aA d.d6.size g.size,d.d6.gens,d.d6.os,d.d6.toks⟩,
  d.frame.gr g (λq=>m (aB.mp q).symm) (λx c e q=>n x c e (aB.mp q).symm),d.oy,d.iY,d.iZ,l,λb f=>?_⟩
 .refine(h.2 b λq=>?_).trans (d.d6.keep b o f e);rcases i with i|i
  .exact absurd (aS e) (by rw[q];exact aV.mpr i)
  .exact f (q▸i)
 .refine ka (d.apart b (j b f)) λp r t=>⟨p,by show b<h'.objs.size;rw[h.1];exact r,t⟩
noncomputable def ie(F:Fz)(a:bu)(o:mV):Fz:=λb=>if b=a then ab o else F b
def ee(h:F a=aC):Le F (ie F a o):=λb c e=>by
 delta ie;by_cases q:b=a
 .rw [q,h]at e;cases e
 .rw [if_neg q];exact e
def iW(g:ic md F s F' s')(h:F' a=aC)(d:s'.heap.get? a=ab o)(f:s.heap.objs.size<=a):ic md F s (ie F' a o) s':=by
 refine⟨g.le.trans (ee h),λb c e=>?_,g.keep,λb c e=>?_,g.size,g.gens,g.os,g.toks⟩
 .unfold ie at e;by_cases q:b=a
  .exact .inr (q▸f)
  .rw [if_neg q]at e;exact g.new b c e
 .unfold ie at e;by_cases q:b=a
  .rw [if_pos q]at e;rw[q,<-e];exact d
  .rw [if_neg q]at e;exact g.bh b c e
def qR(D:fv B)(w:bC)(A:cO)(ax:uS)(ifs:List bv)(b:Bool):Prop:=
 Pu D w A (forIn ifs true λc r=>if r=true then do let ok <-isTrue c ax (dp c ax);cD (mw ok)else cD (mw r)) (λz a=>a=b)
def je:qR D w A ax [] true:=⟨λF s a z z b=>wpAny_tests_nil (b _ F s (ic.refl (D.bs a).bh) rfl)⟩
def gW(h:wS D w A ax c b):qR D w A ax [c] b:=⟨λF s a Q E d=>wpAny_tests_one (h.run F s a Q E d)⟩
def Sub(D C:fv B):Prop:=∀F s,D.P F s->C.P F s
def On(D:fv B)(w:bC)(ax:uS)(loc:M2):Prop:=∀F s,D.P F s->g8 w F ax loc s.heap
def nf{K:Tk}:On (St.pre B w X loc K) w X.ax loc:=λF s h=>h.frame
def St.add{K:Tk}(b:St B w X loc K F s)(d:K'.I F s)
 (e:∀a∈K'.tk,a∈K.tk\/(F a=aC/\a<s.heap.objs.size/\a≠X.ax.locals/\∀x c,X.ax.cells.lookup x=ab c->a≠c)):St B w X loc K' F s:=
 ⟨b.bs,b.d6,b.frame,b.oy,b.iY,b.iZ,d,λa h=>(e a h).elim (b.apart a) id⟩
noncomputable def Tk.dM(N:Nat):Tk:=⟨[],[],λz s=>N<=s.toks,λh z z z z e=>aA h e⟩
def It.ZC(it:It w A)(ts:List T)(ex:List bu)(τ:Nat->Nat->T):Prop:=∀i F (s:aH) (Q:Option aE->aH->Prop) (E:Lx0),i<it.n->(it.tk ts ex i).I F s->
 (∀v s' N,N<=s'.toks->Rp w F v (τ i N)->it.S (i+1) s'->Mv it.wr it.gw s s'->Q (ab v) s')->aP (aO pw w) A (mL (.ref it.I)) Q E s
def It.ZF{it:It w A}(b:it.n=ts.length):it.ZC ts ex (λi z=>ts.getD i .none):=λi F s Q E hi h c=>it.item i s Q E hi h.1 λv s' d a f=>by
 refine cY (h.2.2 i v (b▸hi) d) λt e r=>c v s' 0 (bG _) (by show Rp w F v (ts.getD i .none);rw[ar,e];exact r) a f
def Ah{C:fv B}{it:It w A}{K:Tk}{f:Nat->Nat->M2->M2}{p:Nat->Bool}(Inv:Nat->Tk->Prop)
 (W:c.quiet=true) (hu:A.under c=A)
 (Y:FI zL c=pA (do
  ej p₀
  match <-mL (.ref it.I)with
  |none=>cD (.done .next)
  |some v=>
   fE target (.ref it.I) v
   lU target X.ax v
   let mut ok:=true
   for c in ifs do
    if ok then ok <-isTrue c X.ax (dp c X.ax)
   if ok then emit
   Wk c) (λx=>do YZ x X.ax;DT x))
 (Z:∀i N K',Inv i K'->∀F s,St B w X (f i N loc) (K'.and ((it.tk ts ex (i+1)).and (Tk.dM N))) F s->C.P F s) (hS:St B w X loc (K.and (it.tk ts ex 0)) F s) (hn:it.n=ts.length) (RH:it.B2 target) (H:it.ZC ts ex τ) (hw:∀b∈it.wr,X.s0.heap.objs.size<=b)
 (hgw:∀i∈it.gw,X.s0.gens.size<=i) (hK:∀i K',Inv i K'->(∀b,b∈it.wr\/b∈ex->b∉K'.tk)/\∀i∈it.gw,i∉K'.gk) (ht:∀i N,i<ts.length->zu B w A X target (τ i N) (f i N)) (h0:Inv 0 K)
 (r:∀i N y u,loc.lookup y=ab u->(f i N loc).lookup y=ab u)
 (I:∀i N,i<ts.length->∀D ,Sub D C->On D w X.ax (f i N loc)->qR D w A X.ax ifs (p i))
 (J:∀L i N K' F' s',N<=s'.toks->i<ts.length->p i=true->Inv i K'->(∀b∈L.tk,b∉K'.tk)->St B w X (f i N loc) (K'.and L) F' s'->
  aP (aO pw w) A emit (λ_ s₂=>∃O F'',Inv (i+1) O/\St B w X (f i N loc) (O.and L) F'' s₂) (λ_ _=>False) s')
 (skip:∀i K',p i=false->Inv i K'->Inv (i+1) K')
 (jO:∀K' F' s',Inv ts.length K'->St B w X loc K' F' s'->R (.ok .next) s'):kP (aO pw w) A c R s:=by
 refine codeAny_loop W (λn s'=>∃i K' F',n=ts.length+1-i/\i<=ts.length/\Inv i K'/\St B w X loc (K'.and (it.tk ts ex i)) F' s') ?_ (ts.length+1) ⟨0,K,F,rfl,bG _,h0,hS⟩;intro n s' P;refine PX P λi K' F' hn0 hi' z l=>?_;clear P;subst hn0;show aP (aO pw w) (A.under c) (FI zL c) _ _ s';rw[hu,Y];refine wpAny_noted ?_;have Q:=(hK i K' z).1;have S:∀i∈it.gw,X.s0.gens.size<=i/\i∉K'.gk:=λj hj=>⟨hgw j hj,(hK i K' z).2 j hj⟩;have t:∀b∈it.wr,X.s0.heap.objs.size<=b/\b∉K'.tk:=λb k=>⟨hw b k,Q b (.inl k)⟩;refine aa (cz (aa ?_));by_cases d:i<ts.length
 .refine i4 (H i F' s' _ _ (by rw[hn];exact d) l.cV.2 λv s4 N hN hr U hm m=>?_);dsimp only at m ⊢;have o:=St.next l t S U hm m;have o:=o.add (K':=K'.and ((it.tk ts ex (i+1)).and (Tk.dM N))) ⟨o.cV.1,o.cV.2,hN⟩ λa g=>.inl (by
   rcases ao.mp g with g|g
   .exact ac _ g
   .exact ag _ (by simpa[Tk.and,Tk.dM] using g))
  refine aa (RH _ v _ _ _ U ?_);refine aa ((ht i N d).run loc _ F' _ v _ _ o hr λF2 s2 hle2 V=>?_);refine aa (cj ((I i N d (St.pre B w X (f i N loc) (K'.and ((it.tk ts ex (i+1)).and (Tk.dM N)))) (Z i N K' z) nf).run F2 s2 V (λok M=>∃E,ok=p i/\St B w X (f i N loc) (K'.and ((it.tk ts ex (i+1)).and (Tk.dM N))) E M) (λ_ _=>False) λok E M g3 e=>⟨E,e,V.gr g3⟩) (λok M h3=>?_) λ_ _ h=>h.elim);refine cY h3 λE W G=>?_;subst W;cases hp:p i with
  |false=>
   refine AU ck ?_;exact au ⟨rfl,ts.length+1-(i+1),#v[(bW Su0) d],i+1,K',E,rfl,d,skip i K' hp z,(St.nM G (K':=K'.and (it.tk ts ex (i+1))) (λa g=>(ao.mp g).elim (λq=>ac _ q) λq=>ag _ (ac _ q)) λq=>⟨q.1,q.2.1⟩).uy (r i N)⟩
  |true=>
   refine Ts rfl ?_;refine aa (cj (J ((it.tk ts ex (i+1)).and (Tk.dM N)) i N K' E M G.cV.2.2 d hp z (λb k=>(ao.mp k).elim (λk=>(ao.mp k).elim (λq=>(t b q).2) λq=>Q b (.inr q)) (λh=>nomatch h)) G) (λ_ s5 h5=>?_) λ_ _ h=>h.elim);refine m8 h5 λK5 F5 h6 h7=>au ⟨rfl,ts.length+1-(i+1),#v[(bW Su0) d],i+1,K5,F5,rfl,d,h6,(St.nM h7 (K':=K5.and (it.tk ts ex (i+1))) (λa g=>(ao.mp g).elim (λq=>ac _ q) λq=>ag _ (ac _ q)) λq=>⟨q.1,q.2.1⟩).uy (r i N)⟩
 .have hin:i=ts.length:=by exact(bW 0x1021016c10d) hi' d
  subst hin;refine i4 (it.done s' _ _ (by rw[hn];exact l.cV.2.1) λs4 hm m=>?_);dsimp only at m ⊢;refine au (jO K' F' _ z (St.wf (l.nM (λa g=>ac _ g) λq=>q.1) (λb k=>?_) S hm m));refine ka (l.apart b (ag _ (ac _ k))) λh1 _ h3=>⟨h1,(t b k).1,(t b k).2,h3⟩
def sz:∀names n a,dI n names a=dI n names []++a:=zo (λz z=>rfl) λx k r c n a=>by
 unfold dI;by_cases b:(k==eJ)=true
 .rw [if_pos b,if_pos b,c (n+1) ((x,n)::a),c (n+1) [(x,n)],cm];rfl
 .rw [if_neg b,if_neg b,c n a]
def sw:∀names n x c,(x,c)∈dI n names []->(x,eJ)∈names/\n<=c:=zo (λz z z h=>nomatch h) λy k r e n x c h=>by
 unfold dI at h;by_cases d:(k==eJ)=true
 .rw [if_pos d,sz]at h;have f:k=.cell:=beq_iff_eq.mp d;subst f;rcases ao.mp h with h|h
  .refine dS (e (n+1) x c h) λa b=>⟨.tail _ a,gc b⟩
  .cases aB.mp h;exact⟨.head _,ah _⟩
 .rw [if_neg d]at h;refine dS (e n x c h) λa b=>⟨.tail _ a,b⟩
def jG{a:Type}(x):∀l m:List (bT×a),(l++m).lookup x=(l.lookup x).or (m.lookup x):=zo (λz=>rfl) λy v r b m=>by
 rw[eF,xu,xu];cases (x==y)
 .exact b m
 .rfl
def Ff(names:List (bT×RJ))(h:∀y∈names,y.2=.free->∃c,ax.cells.lookup y.1=ab c):∀f ,∃cl,(forIn (m:=jj) names f (λ(y:bT×RJ) cs=>if y.2==dA then do let a <-cellOf ax y.1;cD (mw ((y.1,a)::cs))else cD (mw cs))=cD cl)/\
 (∀x c,cl.lookup x=ab c->f.lookup x=ab c\/((x,dA)∈names/\ax.cells.lookup x=ab c))/\(∀x,(x,dA)∈names\/(∃c,f.lookup x=ab c)->∃c,cl.lookup x=ab c):=by
 induction names with
 |nil=>intro f;exact⟨f,rfl,λx c e=>.inl e,λx h=>h.elim (λh=>nomatch h) id⟩
 |cons y r n=>
  intro f;obtain⟨x,k⟩:=y;have i:=n λy o=>h y (.tail _ o);by_cases g:(k==dA)=true
  .refine iA (h (x,k) (.head _) (beq_iff_eq.mp g)) λc l=>mB (i ((x,c)::f)) λcl e1 e2 e3=>⟨cl,?_,λz d e=>?_,λz b=>?_⟩
   .rw [rM];simp only[g,if_true];delta cellOf;rw[l];exact e1
   .rcases e2 z d e with q | ⟨p,s⟩
    .rw [lookup_cons]at q;by_cases b:z=x
     .rw [if_pos b]at q;cases q;have:=beq_iff_eq.mp g;subst this;subst b;exact .inr ⟨.head _,l⟩
     .rw [if_neg b]at q;exact .inl q
    .exact .inr ⟨.tail _ p,s⟩
   .apply e3;by_cases j:z=x
    .exact .inr ⟨c,by rw[lookup_cons,if_pos j]⟩
    .rcases b with b | ⟨d,b⟩
     .rcases aX.mp b with q|q
      .cases q;exact absurd rfl j
      .exact .inl q
     .exact .inr ⟨d,by rw[lookup_cons,if_neg j];exact b⟩
  .refine mB (i f) λcl e1 e2 e3=>⟨cl,?_,λz d e=>(e2 z d e).imp id λh=>⟨.tail _ h.1,h.2⟩,λz b=>e3 z ?_⟩
   .rw [rM];simp only[g];exact e1
   .rcases b with b|b
    .rcases aX.mp b with q|q
     .cases q;exact absurd rfl g
     .exact .inl q
    .exact .inr b
def zv(h:∀y∈scope.names,y.2=.free->∃c,ax.cells.lookup y.1=ab c):∃cl,FQ scope ax=cD cl/\(∀x c,cl.lookup x=ab c->(x,dA)∈scope.names/\ax.cells.lookup x=ab c)/\(∀x,(x,dA)∈scope.names->∃c,cl.lookup x=ab c):=by
 refine mB (Ff scope.names h []) λcl e1 e2 e3=>⟨cl,?_,λx c e=>(e2 x c e).elim (λq=>nomatch q) id,λx a=>e3 x (.inl a)⟩;delta FQ;simp only[bind_pure];exact e1
noncomputable abbrev bY(scope:Cg)(cells:List (bT×bu))(L:bu)(ax:uS):uS:=compEnvC scope cells L ax
noncomputable def ci(scope:Cg)(loc:M2):M2:=loc.filter λy=>scope.names.lookup y.1==ab .free
def jf(scope)(x)(t):∀loc ,(ci scope loc).lookup x=ab t->loc.lookup x=ab t/\scope.names.lookup x=ab .free:=zo (λh=>nomatch h) λy u r d h=>by
 delta ci at h;rw[fF]at h;by_cases c:x=y
 .subst c;by_cases q:(scope.names.lookup x==ab dA)=true
  .rw [if_pos q,lookup_cons,if_pos rfl]at h;exact⟨by rw[lookup_cons,if_pos rfl];exact h,beq_iff_eq.mp q⟩
  .rw [if_neg q]at h;exact absurd (beq_iff_eq.mpr ((d h).2)) q
 .have:(ci scope r).lookup x=ab t:=by
   by_cases q:(scope.names.lookup y==ab dA)=true
   .rw [if_pos q,lookup_cons,if_neg c]at h;exact h
   .rw [if_neg q]at h;exact h
  refine dS (d this) λa b=>⟨by rw[lookup_cons,if_neg c];exact a,b⟩
def DO{b c:Type}{g:bT×b->bT×c}{h:bT->b->c}(d:∀n k,g (n,k)=(n,h n k)):∀{l:List (bT×b)} {x:bT},(l.map g).lookup x=(l.lookup x).map (h x):=@wt _ _ _ (fun {z}=>rfl) λn k r e {x}=>by
 rw[bN,d,lookup_cons,lookup_cons];by_cases a:x=n
 .rw [if_pos a,if_pos a,a];rfl
 .rw [if_neg a,if_neg a];exact e
def kcv{q:Bool}{k:RJ}(a:q=true->k=.free):((if q=true then eJ else k)=.local->k=.local)/\((if q=true then eJ else k)=.cell\/(if q=true then eJ else k)=.free->k=.cell\/k=.free):=by
 cases q with
 |false=>exact⟨id,id⟩
 |true=>exact⟨λh=>absurd h #v[_],λz=>.inr (a rfl)⟩
def q6{scope:Cg}{ax:uS}:∀{names:List (bT×RJ)} {x:bT},(names.map λ(n,k)=>if (k==dA&&ax.scope.kind==.function&&ax.kindOf n==ab .cell)then (n,eJ)else (n,k)).lookup x =
 (names.lookup x).map λk=>if (k==dA&&ax.scope.kind==.function&&ax.kindOf x==ab .cell)then eJ else k:=DO (h:=λx k=>if (k==dA&&ax.scope.kind==.function&&ax.kindOf x==ab .cell)then eJ else k) λn z=>(apply_ite (Prod.mk n) _ _ _).symm
def wn{b:Type}{v:b}:∀{l:List (bT×b)},(l.map (·.1)).Nodup->(x,v)∈l->l.lookup x=ab v:=@wt _ _ _ (λz h=>nomatch h) λy u r c d h=>by
 have a:=du.mp d;rw[lookup_cons];rcases aX.mp h with e|h
 .exact(if_pos (DU e).1).trans (congrArg ab (DU e).2.symm)
 .rw [if_neg λq=>a.1 (by rw[<-q];exact db (f:=(·.1)) h)];exact c a.2 h
def vd
 (h:Q {scope,locals:=s.heap.objs.size,globals:=ax.globals,cells:=dI (s.heap.objs.size+1) scope.names []++cl,qual:=ax.qual,func:=aC,code:=ax.code,frame:=ax.frame,builtins:=ax.builtins}
  {s with heap:=jS (s.heap.push {cls:=.type "dict",data:=.dict #[]}) scope.names}) :
 aP M A (FN scope ax.globals cl [] ax.qual aC .none (ab ax)) Q E s:=by
 delta FN;simp only[Option.isSome_some,if_true];refine aa (wpAny_alloc ?_);refine aa (wpAny_layCells _ (λname kind cells=>by cases a:kind==eJ<;>simp[a]) _ _ _ _ ?_);rw[sz];simp only[AE];refine aa (au ?_);rw[show ({s with heap:=s.heap.push {cls:=.type "dict",data:=.dict #[]}}:aH).heap.objs.size=s.heap.objs.size+1 from aY ..];exact au h
def yQ:∀names h,h.objs.size<=(jS h names).objs.size:=zo (λz=>ah _) λz k r a h=>by
 unfold jS
 split
 .exact aA (by rw[aY];exact bO 0x600) (a _)
 .exact a h
def Fp{C:fv B}(v:C.P F s)(A:g8 w F ax loc s.heap)(W:ax.scope.kind=.function)(I:scope.kind=.function)
 (J:(scope.names.map (·.1)).Nodup) (D:∀y∈scope.names,y.2=.free->ax.kindOf y.1=ab .cell\/ax.kindOf y.1=ab .free)
 (i:∀x c,cl.lookup x=ab c->(x,dA)∈scope.names/\ax.cells.lookup x=ab c) (L:∀x,(x,dA)∈scope.names->∃c,cl.lookup x=ab c) {f:gn} (P:∀b o,s.heap.get? b=ab o->f.get? b=ab o) (j:s.heap.objs.size<=f.objs.size) :
 St B w ⟨bY scope (dI (f.objs.size+1) scope.names []++cl) f.objs.size ax,s,F,[],(scope.names.filter λy=>y.2==.cell).map (·.1)⟩ (ci scope loc) Tk.nil F
  {s with heap:=jS (f.push {cls:=.type "dict",data:=.dict #[]}) scope.names}:=by
 have M:∀b o,f.get? b=ab o->(jS (f.push {cls:=.type "dict",data:=.dict #[]}) scope.names).get? b=ab o:=λb o e=>tJ _ _ b o (aG _ e);have p:∀b o,s.heap.get? b=ab o->(jS (f.push {cls:=.type "dict",data:=.dict #[]}) scope.names).get? b=ab o:=λb o e=>M b o (P b o e);have ok:=cellsFrom_ok scope.names (f.push {cls:=.type "dict",data:=.dict #[]}) (f.objs.size+1) [] ⟨λY Y Q=>(nomatch Q),Y0⟩ (by rw[aY];exact ah _);rw[aY]at ok;have l:∀{x k},(x,k)∈scope.names->scope.names.lookup x=ab k:=λh=>wn J h;have m:∀x c,(dI (f.objs.size+1) scope.names []).lookup x=ab c->scope.names.lookup x=ab .cell/\f.objs.size+1<=c:=λx c e=>
  dS (sw _ _ _ _ (mem_of_lookup e)) λa b=>⟨l a,b⟩
 have n:∀x c,(dI (f.objs.size+1) scope.names []++cl).lookup x=ab c->(dI (f.objs.size+1) scope.names []).lookup x=ab c\/cl.lookup x=ab c:=λx c e=>by
  rw[jG]at e;cases q:(dI (f.objs.size+1) scope.names []).lookup x with
  |none=>rw[q]at e;exact .inr e
  |some d=>rw[q]at e;exact .inl e
 have kind:∀x,(bY scope (dI (f.objs.size+1) scope.names []++cl) f.objs.size ax).kindOf x=(scope.names.lookup x).map λk=>if (k==dA&&ax.scope.kind==.function&&ax.kindOf x==ab .cell)then eJ else k:=λx=>q6 (scope:=scope)
 have G:∀x c,cl.lookup x=ab c->c<s.heap.objs.size:=λx c e=>cY (A.cell x c (i x c e).2) λY h Y=>h.lt;have zK:∀a,s.heap.objs.size<=a->F a=aC:=λa H=>by
  cases q:F a with
  |none=>rfl
  |some o=>exact absurd (aS ((C.bs v).bh _ _ q)) (aV.mpr H)
 refine⟨⟨(C.bs v).fj,λa o e=>p a o ((C.bs v).bh a o e)⟩,⟨Le.refl _,λY Y e=>.inl e,λa o Y e=>p a o e,λa o e=>p a o ((C.bs v).bh a o e),?_,.refl _,rfl,ah _⟩,?_,I,j,λx c e g=>?_,trivial,λa H=>nomatch H⟩
 .exact aA j (aA (by rw[aY];exact bO 0x600) (yQ _ _))
 .refine⟨⟨λY=>aC,(Heap.Ns.new f (.type "dict")).keeps (tJ _ _),λx t e k=>?_⟩,λx c e=>?_,λx k=>?_,λx y c e1 e2=>?_,zK _ j,λx c e=>?_⟩
  .have g:=(jf scope x t loc e).2;rw[kind,g]at k;exact absurd ((kcv λY=>rfl).1 (bt k)) #v[_]
  .rcases n x c e with q|q
   .refine⟨aC,(ok.empty x c (mem_of_lookup q)).1,λt e1 Y=>?_⟩;have g:=(jf scope x t loc e1).2;rw[(m x c q).1]at g;cases g
   .refine cY (A.cell x c (i x c q).2) λR E S=>⟨R,E.keeps p,λt e1 Y=>S t (jf scope x t loc e1).1 (D _ (i x c q).1 rfl)⟩
  .have g:scope.names.lookup x=ab .cell\/scope.names.lookup x=ab .free:=by
    rw[kind]at k;cases q:scope.names.lookup x with
    |none=>rw[q]at k;exact k.elim ons ons
    |some X=>
     rw[q]at k;exact((kcv λz=>kN (ba (ba z).1).1).2 (k.imp bt bt)).imp (congrArg ab) (congrArg ab)
   rcases g with g|g
   .have:=qcV scope.names (f.objs.size+1) [] (.inl g);cases q:(dI (f.objs.size+1) scope.names []).lookup x with
    |none=>rw[q]at this;cases this
    |some c=>exact⟨c,by show pe x (_++_)=_;rw[jG,q];rfl⟩
   .refine iA (L x (mem_of_lookup g)) λc e=>?_;cases q:(dI (f.objs.size+1) scope.names []).lookup x with
    |none=>exact⟨c,by show pe x (_++_)=_;rw[jG,q];exact e⟩
    |some d=>exact⟨d,by show pe x (_++_)=_;rw[jG,q];rfl⟩
  .rcases n x c e1 with r|r<;>rcases n y c e2 with u|u
   .exact name_of_addr ok.apart (mem_of_lookup r) (mem_of_lookup u)
   .exact absurd (aT (G y c u) (aA j (gc (m x c r).2))) (cp _)
   .exact absurd (aT (G x c r) (aA j (gc (m y c u).2))) (cp _)
   .exact A.apart x y c (i x c r).2 (i y c u).2
  .rcases n x c e with q|q
   .exact zK _ (by have:=(m x c q).2;exact(dO 0x100126d20d) j this)
   .exact A.Yv x c (i x c q).2
 .rcases n x c e with q|q
  .have:=(m x c q).2;show s.heap.objs.size<=c;exact(dO 0x100126d20d) j this
  .exfalso;refine cY (bp.mp g) λy U V=>?_;subst V;refine dS (c3.mp U) λN O=>?_;have E:=l (x:=y.1) (k:=y.2) N;rw[l (i _ c q).1]at E;have:=beq_iff_eq.mp O;rw[<-bt E]at this;cases this
structure j0(ax:uS)(scope:Cg):Prop where
 kind:ax.scope.kind=.function
 Sp:scope.kind=.function
 R5:(scope.names.map (·.1)).Nodup
 free:∀y∈scope.names,y.2=.free->ax.kindOf y.1=ab .cell\/ax.kindOf y.1=ab .free
def j0.of(a:ax.scope.kind=.function)(b:scope.kind=.function)(c:(scope.names.map (·.1)).Nodup)(d:(scope.names.all λy=>y.2 != .free ||ax.kindOf y.1==ab .cell ||ax.kindOf y.1==ab .free)=true):j0 ax scope:=
 ⟨a,b,c,λy f e=>by
  have:=bg.mp d y f;simp only[ik,bne_iff_ne,ne_eq,beq_iff_eq]at this;rcases this with (q|q)|q
  .exact absurd e q
  .exact .inl q
  .exact .inr q⟩
noncomputable abbrev ownOf(scope:Cg):List bT:=(scope.names.filter λy=>y.2==.cell).map (·.1)
structure Rs(B:gn)(w:bC)(A:cO)(ax:uS)(scope:Cg)(target:bv)(t:T)(f:M2->M2):Prop where
 ry:∀cells L s0 F0,zu B w A ⟨bY scope cells L ax,s0,F0,[],ownOf scope⟩ target t f
def St.qbS{K:Tk}(a:St B w ⟨ax,b,d,[],own⟩ loc K F s)(g:Gr F0 s0 d b):St B w ⟨ax,s0,F0,[],own⟩ loc K F s:=
 ⟨a.bs,g.trans a.d6,a.frame,a.oy,aA g.size a.iY,λx c e h=>aA g.size (a.iZ x c e h),a.cV,a.apart⟩
structure CE(w:bC)(A:cO)(e target iter:bv)(ifs:List bv)(bj:List Comprehension)(emit:bu->uS->jj Unit):Prop where
 und:∀it acc env',A.under (.compLoop e 0 it acc env')=A
 qt:∀it acc env',(Code.compLoop e 0 it acc env').quiet=true
 cl0:clausesOf e=⟨target,iter,ifs,0⟩::bj
 qaN:∀(I D:bu) (env':uS),FI zL (.compLoop e 0 (.ref I) (.ref D) env')=pA (do
  standAt iter.pos
  match <-mL (.ref I)with
  |none=>cD (.done .next)
  |some v=>
   letOwnedTupleGo target (.ref I) v
   assign target env' v
   let mut ok:=true
   for c in ifs do
    if ok then ok <-isTrue c env' (dp c env')
   if ok then emit D env'
   again (.compLoop e 0 (.ref I) (.ref D) env')) (λx=>do YZ x env';DT x)
 start:∀{it acc:aE} {env':uS} {R:Result->aH->Prop} {s:aH},kP (aO pw w) A (.compLoop e 0 it acc env') R s->
  wpAny (aO pw w) A (mM it) (λit' s'=>kP (aO pw w) A (.compLoop e 0 it' acc env') R s') (notedBy (aO pw w) A env' λx s'=>R (.error x) s') s->kP (aO pw w) A (.compStart e 0 it acc env') R s
def w9:CE w A (.ListComp a [⟨target,iter,ifs,0⟩] scope pos) target iter ifs [] (λD ax=>do let _ <-wY (.builtin "list.append") [.ref D,<-dp a ax]):=
 ⟨λz z z=>rfl,λz z z=>rfl,rfl,λI D b=>by show pA (vM (.ListComp a [⟨target,iter,ifs,0⟩] scope pos) 0 (.ref I) (.ref D) _) _=_;rw[compTurn_list];rfl,λc d=>NJ c d⟩
def G6:CE w A (.DictComp b a [⟨target,iter,ifs,0⟩] scope pos) target iter ifs [] (λD ax=>do
 let c <-dp b ax
 let d <-fL [c] (dp a ax)
 ej {b.pos with endLine:=a.pos.endLine,endCol:=a.pos.endCol}
 fL [c,d] (dictSet D c d)):=
 ⟨λz z z=>rfl,λz z z=>rfl,rfl,λI D e=>by show pA (vM (.DictComp b a [⟨target,iter,ifs,0⟩] scope pos) 0 (.ref I) (.ref D) _) _=_;rw[compTurn_dict];rfl,λf g=>codeAny_compStart_dict f g⟩
def rY{C:fv B}{C':fv B}{f:Nat->Nat->M2->M2}{p:Nat->Bool}
 (v) (Kf:bu->Nat->Tk) (ce:CE w A e target iter ifs bj emit) (hfr:v.isFreed=false)
 (hP:C.P F s) (hf:On C w ax loc) (ok:j0 ax scope)
 (V:∀a∈fj,F a=aC/\a<s.heap.objs.size/\∀x c,ax.cells.lookup x=ab c->a≠c)
 (hsub:∀l g,ic fj F s l g->Bs B l g->C'.P l g)
 (W:∀D i,(Kf D i).tk=fj++[D])
 (hK0:∀l g s2 D,Gr F s l g->Gr l g l s2->s2.heap.get? D=ab v->g.heap.objs.size<=D->(Kf D 0).I l s2)
  (hi:∀Q E,(∀(it:It w A) F' s',Gr F s F' s'->it.Ok F' s' s ts ex->it.B2 target->it.gw=[]->it.ZC ts ex τ->Q (.ref it.I) s')->aP (aO pw w) A first (λxv g=>aP (aO pw w) A (mM xv) Q E g) E s) (hex:∀a∈ex,a∉fj/\F a=aC/\a<s.heap.objs.size/\∀x c,ax.cells.lookup x=ab c->a≠c)
 (ht:∀i N,i<ts.length->∀cells L s0 F0,zu B w A ⟨bY scope cells L ax,s0,F0,fj,ownOf scope⟩ target (τ i N) (f i N))
 (hless:∀i N y u,(ci scope loc).lookup y=ab u->(f i N (ci scope loc)).lookup y=ab u)
 (tests:∀i N,i<ts.length->∀cells L D,Sub D C'->On D w (bY scope cells L ax) (f i N (ci scope loc))->qR D w A (bY scope cells L ax) ifs (p i))
 (O:∀i N,i<ts.length->p i=true->∀cells Lo D L F' s',N<=s'.toks->s.heap.objs.size<=D->(∀b∈L.tk,b∉fj++[D])->
  St B w ⟨bY scope cells Lo ax,s,F,fj,ownOf scope⟩ (f i N (ci scope loc)) ((Kf D i).and L) F' s'->
  aP (aO pw w) A (emit D (bY scope cells Lo ax)) (λ_ s₂=>∃F'',St B w ⟨bY scope cells Lo ax,s,F,fj,ownOf scope⟩ (f i N (ci scope loc)) ((Kf D (i+1)).and L) F'' s₂) (λ_ _=>False) s')
 (P:∀i D,p i=false->Kf D (i+1)=Kf D i)
 (hQ:∀D Cl F' s',ic fj F s F' s'->(Kf D ts.length).I F' s'->(∀a∈fj++[D],F' a=aC/\a<s'.heap.objs.size)->s.heap.objs.size<=D->s.heap.objs.size<=Cl->D≠Cl->F' Cl=aC->(∃m,s'.heap.Ns Cl m)->pY (aO pw w) A E use Q (.ref D) Cl (.ok .next) s')
  (hnew:∀s Q E,Q (.ref s.heap.objs.size) {s with heap:=s.heap.push v}->aP (aO pw w) A newAcc Q E s)
 (hs:autoParam (∀x,bw iter ax x=cD x) y2) :
 aP (aO pw w) A (dk e scope ax pos' newAcc false first use) Q E s:=by
 have f0:=hf F s hP;refine mB (zv (scope:=scope) (ax:=ax) λy hy e=>f0.has y.1 (ok.free y hy e)) λcl hcl hc1 hc2=>wpAny_comprehension_free ce.cl0 hs hcl ok.Sp (λx hx e=>wn ok.R5 (by rw[<-e];exact hx)) (hi _ _ λit l g Z G RH hgw hgv=>?_);refine hnew _ _ _ (vd ?_);have hP1:=C.st hP Z;dsimp only;generalize hH:g.heap.push v=j;have M:j.objs.size=g.heap.objs.size+1:=by rw[<-hH,aY]
 have hHk:∀b o,g.heap.get? b=ab o->j.get? b=ab o:=λb o e=>hH▸aG _ e;have hDL:g.heap.objs.size≠j.objs.size:=by rw[M];exact cw (bH _)
 have r:=(Fp (C:=C) (cl:=cl) hP1 (hf l g hP1) ok.kind ok.Sp ok.R5 ok.free hc1 hc2 hHk (by rw[M];exact cL _)).qbS Z;have S0:St B w ⟨bY scope (dI (j.objs.size+1) scope.names []++cl) j.objs.size ax,s,F,fj,ownOf scope⟩ (ci scope loc) Tk.nil l _:=
  ⟨r.bs,r.d6.Dj kq,r.frame,r.oy,r.iY,r.iZ,r.cV,r.apart⟩
 have hD:(jS (j.push {cls:=.type "dict",data:=.dict #[]}) scope.names).get? g.heap.objs.size=ab v:=
  tJ _ _ _ _ (aG _ (by rw[<-hH];exact aM _ hfr))
 have up:∀b o,g.heap.get? b=ab o->(jS (j.push {cls:=.type "dict",data:=.dict #[]}) scope.names).get? b=ab o:=λb o e=>tJ _ _ b o (aG _ (hHk b o e));have hclo:∀x c,cl.lookup x=ab c->c<s.heap.objs.size:=λx c e=>cY (f0.cell x c (hc1 x c e).2) λ_ h _=>h.lt;have Y:∀x c,(dI (j.objs.size+1) scope.names []++cl).lookup x=ab c->j.objs.size+1<=c\/(c<s.heap.objs.size/\ax.cells.lookup x=ab c):=λx c e=>by
  rw[jG]at e;cases q:(dI (j.objs.size+1) scope.names []).lookup x with
  |none=>rw[q]at e;exact .inr ⟨hclo x c e,(hc1 x c e).2⟩
  |some d=>rw[q]at e;cases e;exact .inl (sw _ _ _ _ (mem_of_lookup q)).2
 have zK:∀a,g.heap.objs.size<=a->l a=aC:=λa k=>by
  cases q:l a with
  |none=>rfl
  |some o=>exact absurd (aS ((C.bs hP1).bh _ _ q)) (aV.mpr k)
 have H:s.heap.objs.size<=g.heap.objs.size:=Z.size;have S:g.heap.objs.size<(jS (j.push {cls:=.type "dict",data:=.dict #[]}) scope.names).objs.size:=aS hD;have hwr:∀b∈it.wr,b∉fj++[g.heap.objs.size]:=λb n q=>by
  rcases ao.mp q with q|q
  .exact absurd (V b q).2.1 (aV.mpr (G.wr b n).2.1)
  .exact absurd (G.wr b n).2.2 (by rw[aB.mp q];exact cp _)
 have hexn:∀b∈ex,b∉fj++[g.heap.objs.size]:=λb n q=>by
  refine sE (hex b n) λR t U q4=>?_;rcases ao.mp q with q|q
  .exact R q
  .exact absurd U (by rw[aB.mp q];exact aV.mpr H)
 have g2:Gr l g l {g with heap:=jS (j.push {cls:=.type "dict",data:=.dict #[]}) scope.names}:=⟨Le.refl _,λ_ _ e=>.inl e,λb o _ e=>up b o e,S0.bs.bh,c9 S,.refl _,rfl,ah _⟩;have hS0:it.S 0 {g with heap:=jS (j.push {cls:=.type "dict",data:=.dict #[]}) scope.names}:=it.QY _ _ _ G.S (λb _ o e=>up b o e) (λ_ _ _ e=>e) (ah _);have S1:=S0.add (K':=(Kf g.heap.objs.size 0).and (it.tk ts ex 0)) ⟨hK0 l g _ _ Z g2 hD (ah _),hS0,
  λb n=>(G.fp b n).imp id λq=>q.imp id λq=>cY q λo R t=>⟨o,R,up b o t⟩,G.P⟩ (λa k=>.inr ?_)
 .refine(λloop=>ce.start loop (it.self 0 _ _ _ hS0 loop)) <|Ah (τ:=τ) (X:=⟨bY scope (dI (j.objs.size+1) scope.names []++cl) j.objs.size ax,s,F,fj,ownOf scope⟩) (it:=it) (ts:=ts) (ex:=ex) (f:=f) (p:=p) (loc:=ci scope loc) (F:=l) (C:=C')
   (K:=Kf g.heap.objs.size 0) (λi K'=>K'=Kf g.heap.objs.size i) (ce.qt _ _ _) (ce.und _ _ _)
   (emit:=emit g.heap.objs.size (bY scope (dI (j.objs.size+1) scope.names []++cl) j.objs.size ax)) (p₀:=iter.pos) (ifs:=ifs) (target:=target) (ce.qaN _ _ _) (λi N K' _ F s h=>hsub _ _ h.d6 h.bs) S1 G.n RH hgv (λb n=>(G.wr b n).2.1) G.gw ?hxk (λi N e=>ht i N e _ _ _ _) rfl hless
   (λi N hi D kn on=>tests i N hi _ _ D kn on) ?O ?P ?hfin
  case hxk=>exact λi K' e=>⟨λb n q=>by subst e;rw[W]at q;exact n.elim (λn=>hwr b n q) λn=>hexn b n q,by rw[hgw];exact kq⟩
  case P=>exact λi K' hp e=>by rw[e,P i _ hp]
  case O=>
   rintro L i N K' F' s' hN hi hp rfl hL J;refine cj (O i N hi hp _ _ _ L F' s' hN H (λb n q=>hL b n (by rw[W];exact q)) J) (λ_ s₂ h=>?_) λ_ _ h=>h;refine iA h λF'' h=>⟨_,F'',rfl,h⟩
  case hfin=>
   rintro K' F' s' rfl J;refine hQ _ _ F' s' J.d6 J.cV (λa k=>?_) H (aA H (by rw[M];exact cL _)) hDL J.frame.WU (cY J.frame.ns λm h _=>⟨m,h⟩);have:=J.apart a (by rw[W];exact k);exact⟨this.1,this.2.1⟩
 .have eE:∀{a:bu},l a=aC->a<g.heap.objs.size->(∀x c,c<s.heap.objs.size->ax.cells.lookup x=ab c->a≠c)->l a=aC/\a<(jS (j.push {cls:=.type "dict",data:=.dict #[]}) scope.names).objs.size/\a≠j.objs.size/\∀x c,(dI (j.objs.size+1) scope.names []++cl).lookup x=ab c->a≠c:=
   fun {a} R t U=>⟨R,fO t S,λq=>absurd t (by rw[q,M];exact aV.mpr (cL _)),λx c e q=>by
    rcases Y x c e with z | ⟨z,z2⟩
    .rw [<-q,M]at z;exact absurd (aT t (aA (fK _ 2) z)) (cp _)
    .exact U x c z z2 q⟩
  rcases ao.mp k with k|k
  .rw [W]at k;rcases ao.mp k with k|k
   .refine ka (V a k) λR t U=>eE (fY Z R t) (aT t H) λx c _ e=>U x c e
   .cases aB.mp k;refine⟨zK _ (ah _),S,hDL,λx c e q=>?_⟩;rcases Y x c e with z | ⟨z,_⟩
    .rw [<-q,M]at z;exact absurd z #v[(bO 0x66060066d) z]
    .rw [<-q]at z;exact absurd z (aV.mpr H)
  .rcases ao.mp k with k|k
   .exact eE (G.wr a k).1 (G.wr a k).2.2 λx c z _ q=>absurd z (by rw[<-q];exact aV.mpr (G.wr a k).2.1)
   .refine sE (hex a k) λ_ R t U=>eE (fY Z R t) (aT t H) λx c _ e=>U x c e
def un{C:fv B}{C':fv B}{loc:M2}{e:bv}{target:bv}{iter:bv}{ifs:List bv}{bj:List Comprehension}{scope:Cg}{ts:List T}{ex:List bu}{fj:List bu}{f:Nat->M2->M2}{p:Nat->Bool}{Q:Lx0}{E:Lx0}{H:Option (aE->jj Unit)}
 (d:mV) (Kf:bu->Nat->Tk) {emit:bu->uS->jj Unit} (X:CE w A e target iter ifs bj emit) (P:d.isFreed=false)
 (R:C.P F s) (Y:On C w ax loc) (ok:j0 ax scope)
 (q:∀a∈fj,F a=aC/\a<s.heap.objs.size/\∀x c,ax.cells.lookup x=ab c->a≠c)
 (J:∀h n,ic fj F s h n->Bs B h n->C'.P h n)
 (S:∀D i,(Kf D i).tk=fj++[D])
 (U:∀h n M D,Gr F s h n->Gr h n h M->M.heap.get? D=ab d->n.heap.objs.size<=D->(Kf D 0).I h M)
 (hi:pO C w A ax iter target ts ex) (hex:∀a∈ex,a∉fj/\F a=aC/\a<s.heap.objs.size/\∀x c,ax.cells.lookup x=ab c->a≠c)
 (Z:∀i t,ts[i]?=ab t->∀cells L s0 F0,zu B w A ⟨bY scope cells L ax,s0,F0,fj,ownOf scope⟩ target t (f i))
 (r:∀i y u,(ci scope loc).lookup y=ab u->(f i (ci scope loc)).lookup y=ab u)
 (v:∀i,i<ts.length->∀cells L (D:fv B),Sub D C'->On D w (bY scope cells L ax) (f i (ci scope loc))->qR D w A (bY scope cells L ax) ifs (p i))
 (z:∀i,i<ts.length->p i=true->∀cells o D (L:Tk) F' s',s.heap.objs.size<=D->(∀b∈L.tk,b∉fj++[D])->
  St B w ⟨bY scope cells o ax,s,F,fj,ownOf scope⟩ (f i (ci scope loc)) ((Kf D i).and L) F' s'->
  aP (aO pw w) A (emit D (bY scope cells o ax)) (λ_ N=>∃V,St B w ⟨bY scope cells o ax,s,F,fj,ownOf scope⟩ (f i (ci scope loc)) ((Kf D (i+1)).and L) V N) (λ_ _=>False) s')
 (G:∀i D,p i=false->Kf D (i+1)=Kf D i)
 (hQ:∀D Cl F' s',ic fj F s F' s'->(Kf D ts.length).I F' s'->(∀a∈fj++[D],F' a=aC/\a<s'.heap.objs.size)->s.heap.objs.size<=D->s.heap.objs.size<=Cl->D≠Cl->F' Cl=aC->(∃m,s'.heap.Ns Cl m)->pY (aO pw w) A E H Q (.ref D) Cl (.ok .next) s')
 {j:jj aE} (O:∀(s:aH) (Q:Lx0) (E:Lx0),Q (.ref s.heap.objs.size) {s with heap:=s.heap.push d}->aP (aO pw w) A j Q E s)
 (hs:autoParam (∀x,bw iter ax x=cD x) y2) :
 aP (aO pw w) A (dk e scope ax pos' j false (dp iter ax) H) Q E s:=
 rY (τ:=λi _=>ts.getD i .none) (f:=λi _=>f i) d Kf X P R Y ok q J S U (λQ E k=>hi.run F s R Q E λit F' s' g W l gw=>k it F' s' g W l gw (It.ZF W.n)) hex
  (λi _ hi=>Z i _ (gS hi _)) (λi _=>r i) (λi _ hi=>v i hi) (λi _ hi hp cells o D L F' s' _=>z i hi hp cells o D L F' s') G hQ O hs
structure Cp(C:fv B)(w:bC)(A:cO)(jk:Option (aE->jj Unit)->jj aE)(t:T):Prop where
 run:∀F s,C.P F s->∀(use:Option (aE->jj Unit)) (Q:Lx0) (E:Lx0),
  (∀D Cl F' s',Gr F s F' s'->Rp w F' (.ref D) t->s.heap.objs.size<=D->s.heap.objs.size<=Cl->F' Cl=aC->(∃m,s'.heap.Ns Cl m)->pY (aO pw w) A E use Q (.ref D) Cl (.ok .next) s')->aP (aO pw w) A (jk use) Q E s
noncomputable def Tk.qco(a:bu):Tk:=⟨[a],[],λz s=>∃m,s.heap.Ns a m,λh z z k z z=>iA h λm h=>Nw h λo b c e r=>⟨m,o,b,c,k _ (.head _) _ e,r⟩⟩
def mf{jk:Option (aE->jj Unit)->jj aE}(h:Cp C w A jk t)(c:dp e ax=jk aC):Ev C w A ax e t:=by
 refine⟨λF s d Q E f=>?_⟩;rw[c];refine h.run F s d aC Q E λD Cl F' s' g r z l n ⟨m,i⟩=>⟨m,i,λh' a=>?_⟩;have bh:∀b o,F' b=ab o->h'.get? b=ab o:=λb o e=>(a.2 b λq=>by rw[q,n]at e;cases e).trans (g.bh b o e);exact f _ F' _ ⟨g.le,g.new,λb o z e=>(a.2 b λq=>absurd (aS e) (by rw[q];exact aV.mpr l)).trans (g.wi b o e),bh,by rw[a.1];exact g.size,g.gens,g.os,g.toks⟩ r
def kH(h:scope.names.lookup x=ab k)(a:k≠.free):(bY scope cells L ax).kindOf x=ab k:=by
 rw[(show (bY scope cells L ax).kindOf x=(scope.names.lookup x).map λk=>if (k==dA&&ax.scope.kind==.function&&ax.kindOf x==ab .cell)then eJ else k from q6 (scope:=scope)),h];cases k<;>first|rfl|exact absurd rfl a
def kE(a:scope.names.lookup x=ab .local\/scope.names.lookup x=ab .cell):Rs B w A ax scope (.Name x px) t (λloc=>dz x t loc):=by
 refine⟨λcells L s0 F0=>?_⟩;refine hO ?_;rcases a with h|h
 .exact .inl (kH h #v[_])
 .refine .inr ⟨kH h #v[_],bp.mpr ⟨(x,.cell),c3.mpr ⟨mem_of_lookup h,rfl⟩,rfl⟩⟩
def j7(a:scope.names.lookup x=ab .local\/scope.names.lookup x=ab .cell):∀y u,(ci scope loc).lookup y=ab u->(dz x t (ci scope loc)).lookup y=ab u:=λy u e=>by
 rw[ij];by_cases q:y=x
 .subst q;have:=(jf scope y u loc e).2;rcases a with h|h<;>rw[h]at this<;>cases this
 .rw [if_neg q];exact e
structure Xj(C:fv B)(w:bC)(A:cO)(jk:Option (aE->jj Unit)->jj aE)(us:List T):Prop where
 run:∀F s,C.P F s->∀(use:Option (aE->jj Unit)) (Q:Lx0) (E:Lx0),
  (∀D Cl F' s',Gr F s F' s'->(Tk.cu w D us).I F' s'->F' D=aC->D<s'.heap.objs.size->s.heap.objs.size<=D->s.heap.objs.size<=Cl->D≠Cl->F' Cl=aC->(∃m,s'.heap.Ns Cl m)->pY (aO pw w) A E use Q (.ref D) Cl (.ok .next) s')->aP (aO pw w) A (jk use) Q E s
def z8{C:fv B}{f:Nat->M2->M2}
 (hf:On C w ax loc) (ok:j0 ax scope) (hi:pO C w A ax iter target ((am n).map τ) ex) (hex:∀a∈ex,∀F s,C.P F s->F a=aC/\a<s.heap.objs.size/\∀x c,ax.cells.lookup x=ab c->a≠c)
 (hn:n<=be) (hx:∀i,i<n->Rs B w A ax scope target (τ i) (f i)) (d:∀i y u,(ci scope loc).lookup y=ab u->(f i (ci scope loc)).lookup y=ab u)
 (z:∀i,i<n->∀cells L D,Sub D C->On D w (bY scope cells L ax) (f i (ci scope loc))->qR D w A (bY scope cells L ax) ifs (p i))
 (P:∀i,i<n->p i=true->∀cells L D,Sub D C->On D w (bY scope cells L ax) (f i (ci scope loc))->Ev D w A (bY scope cells L ax) W (g i))
 (hs:autoParam (∀x,bw iter ax x=cD x) y2) :
 Xj C w A (λM=>dk (.ListComp W [⟨target,iter,ifs,0⟩] scope pos) scope ax pos' (qC []) false (dp iter ax) M) (((am n).filter p).map g):=by
 refine⟨λF s G M Q E R=>?_⟩;have k:((am n).map τ).length=n:=by rw[af,aZ]
 refine un (fj:=[]) (f:=f) (p:=p) {cls:=.type "list",data:=.seq #[]} (λD i=>Tk.cu w D (((am i).filter p).map g))
  w9 rfl G hf ok kq (λF1 s1 g _=>C.st G g) (λD i=>rfl) ?X hi (λa ha=>⟨(λh=>nomatch h),hex a ha F s G⟩) ?ht ?d (λi hi=>z i (by rw[k]at hi;exact hi)) ?H ?I ?R ?S hs
 case X=>exact λF1 s1 h D _ _ e _=>⟨[],0,e,.nil⟩
 case I=>intro i D J;rw[dv,dP];simp[J]
 case S=>exact λs Q E h=>cE h
 case ht=>exact λi t e cells L s0 F0=>by rw[nD e];exact(hx i (by have:=(bz.mp e).1;rw[k]at this;exact this)).ry _ _ _ _
 case d=>exact d
 case H=>
  intro i l J cells Lo D L F' s' U hL N;rw[k]at l;refine aa ((P i l J _ _ (St.pre B w _ (f i (ci scope loc)) _) (λF s h=>C.st G h.d6) nf).run F' s' N _ _ λv F2 s2 g2 r2=>?_);have j:=N.gr g2;refine m8 j.cV.1 λvs m e1 Y=>aa (gp ⟨m,e1⟩ (λh' k r=>au ?_) ?_)
  .refine iA k λn' e2=>⟨F2,St.uv j r (.inl U) (.head _) ⟨⟨vs++[v],n',?_,?_⟩,?_⟩ λb V=>V⟩
   .show h'.get? D=_;rw[e2];simp
   .rw [dv,dP,aU];rw[qg J];exact Y.append (.cons r2 .nil)
   .refine L.st j.cV.2 (Le.refl _) (λb o e=>(r.2 b λq=>?_).trans (j.bs.bh b o e)) (λb V o e=>(r.2 b λq=>hL b V (by rw[q];exact .head _)).trans e) (λ_ _ _ e=>e) (ah _);rw[q,(j.apart _ (.head _)).1]at e;cases e
  .have e3:=Y.length;have e4:(((am i).filter p).map g).length<=i:=by rw[af];exact aA (cH _ _) (by simp)
   simp only[aL];exact Xi hn k l e3 e4
 case R=>
  intro D Cl F' s' g Z O U hCl hDC hCn hm;rw[k]at Z;exact R D Cl F' s' g Z (O D (.head _)).1 (O D (.head _)).2 U hCl hDC hCn hm
def YD{jk:Option (aE->jj Unit)->jj aE}(h:Xj C w A jk us):Cp C w A jk (.list us):=by
 refine⟨λF s i b Q E j=>h.run F s i b Q E λD Cl F' s' g k a z c d e f l=>?_⟩;refine m8 k λvs m e1 e2=>j D Cl (ie F' D _) s' (iW g a e1 c) (.list (n:=m) (by delta ie;rw[if_pos rfl]) (e2.cC (ee a))) c d ?_ l;delta ie;rw[if_neg λq=>e q.symm];exact f
def uB{C:fv B}{f:Nat->M2->M2}
 (k:On C w ax loc) (ok:j0 ax scope) (hi:pO C w A ax iter target ((am n).map τ) ex) (hex:∀a∈ex,∀F s,C.P F s->F a=aC/\a<s.heap.objs.size/\∀x c,ax.cells.lookup x=ab c->a≠c)
 (l:n<=be) (m:∀i,i<n->Rs B w A ax scope target (τ i) (f i)) (b:∀i y u,(ci scope loc).lookup y=ab u->(f i (ci scope loc)).lookup y=ab u)
 (d:∀i,i<n->∀cells L D,Sub D C->On D w (bY scope cells L ax) (f i (ci scope loc))->qR D w A (bY scope cells L ax) ifs (p i))
 (e:∀i,i<n->p i=true->∀cells L D,Sub D C->On D w (bY scope cells L ax) (f i (ci scope loc))->Ev D w A (bY scope cells L ax) h (g i))
 (o:autoParam (∀x,bw iter ax x=cD x) y2) :
 Cp C w A (λj=>dk (.ListComp h [⟨target,iter,ifs,0⟩] scope pos) scope ax q (qC []) false (dp iter ax) j) (.list (((am n).filter p).map g)):=YD (z8 k ok hi hex l m b d e o)
def m6{C:fv B}
 (j:On C w ax loc) (ok:j0 ax scope) (hi:pO C w A ax iter (.Name x px) ((am n).map τ) ex) (hex:∀a∈ex,∀F s,C.P F s->F a=aC/\a<s.heap.objs.size/\∀x c,ax.cells.lookup x=ab c->a≠c)
 (k:n<=be) (e:scope.names.lookup x=ab .local\/scope.names.lookup x=ab .cell)
 (b:∀i,i<n->∀cells L D,Sub D C->On D w (bY scope cells L ax) (dz x (τ i) (ci scope loc))->qR D w A (bY scope cells L ax) ifs (p i))
 (d:∀i,i<n->p i=true->∀cells L D,Sub D C->On D w (bY scope cells L ax) (dz x (τ i) (ci scope loc))->Ev D w A (bY scope cells L ax) f (g i))
 (l:autoParam (∀x,bw iter ax x=cD x) y2) :
 Cp C w A (λh=>dk (.ListComp f [⟨.Name x px,iter,ifs,0⟩] scope pos) scope ax m (qC []) false (dp iter ax) h) (.list (((am n).filter p).map g)):=
 uB j ok hi hex k (λz z=>kE e) (λz z z=>j7 e _ _) b d l
structure Qn(w:bC)(A:cO)(target:bv)(t:T)(ts:List T):Prop where
 run:∀{B:gn} (C:fv B) (F:Fz) (s:aH) (v:aE),C.P F s->Rp w F v t->∀(Q:Lx0) (E:Lx0),(∀(it:It w A) F' s',Gr F s F' s'->it.Ok F' s' s ts []->it.B2 target->it.gw=[]->Q (.ref it.I) s')->aP (aO pw w) A (mM v) Q E s
def iC(h:Ev C w A ax iter t)(hi:Qn w A target t ts):pO C w A ax iter target ts []:=by
 refine⟨λF s a Q E d=>?_⟩;refine h.run F s a _ _ λv e f g r=>hi.run C e f v (C.st a g) r Q E λit j k g2 ok RH c=>d it j k (g.trans g2) ⟨ok.n,ok.S,λb l=>?_,λi hi=>?_,ok.fp,ok.P⟩ RH c
 .refine ka (ok.wr b l) λm n o=>⟨m,aA g.size n,o⟩
 .refine aA (qr λq=>?_) (ok.gw i hi);have e2:=g.gens.1 (s.gens.size-1) _ (dW #v[(bW 0x1305101e) q]);have:=(eY.mp e2).1;exact(bW 0x901315e10e) q this
def fP(bh:∀a o,F a=ab o->s.heap.get? a=ab o)(b:autoParam (s.toks<=n) YL):Gr F s F {s with heap:=s.heap.push o,toks:=n}:=
 ⟨Le.refl _,λz z e=>.inl e,λz z z e=>aG _ e,λz z e=>aG _ (bh _ _ e),by rw[aY];exact cL _,.refl _,rfl,b⟩
def Aa(it:It w A):it.B2 (.Name x px):=λz z z z z z h=>au h
def lO(it:It w A){T:String}(h:∀i s,it.S i s->∃o,s.heap.get? it.I=ab o/\o.cls=.type T)(b:(["enumerate", "zip", "dict_itemiterator", "dict_reverseitemiterator", "odict_iterator", "itertools.zip_longest", "itertools.pairwise"]:List String).contains T=false):it.B2 target:=by
 intro i v s Q E c a;refine cY (h i s c) λo d e=>?_;cases target<;>first|exact au a|skip
 all_goals
  cases v<;>first|exact au a|skip
  refine aa (tr d ?_);rw[e];cases hd:o.data<;>first|exact au a|skip
  dsimp only;rw[b];exact au a
def iK(j:A.handled=aC):Qn w A target (.list ts) ts:=by
 refine⟨fun {B} C F s v k r Q E l=>?_⟩;refine r.eL λa vs n e r=>?_;have bh:=(C.bs k).bh;have f:s.heap.IsList a vs.toArray:=⟨_,bh _ _ e,rfl,n,rfl⟩;have g:a≠s.heap.objs.size:=cw (aS (bh _ _ e));refine qD f (l (It.of (Jn j s.heap.objs.size a g vs.toArray)) F _ (fP bh) ⟨by show vs.toArray.size=_;rw[aL,r.length],⟨⟨_,aM _ rfl,rfl,rfl⟩,f.at λo e=>aG _ e⟩,λb c=>?_,kq,λb c=>?_,λi v t d=>?_⟩ (lO _ (λi h m=>mB m.1 λo p q z=>⟨o,p,q⟩) #v[_]) rfl)
 .cases aB.mp c;exact⟨c8 bh (ah _),ah _,by rw[aY];exact bH _⟩
 .rcases aX.mp c with h|h
  .exact .inl (by rw[h];exact .head _)
  .cases aB.mp h;exact .inr (.inr ⟨_,e,aG _ (bh _ _ e)⟩)
 .have d:vs.toArray[i]?=ab v:=d;exact r.Ro (by simpa using d)
def Hj(j:A.handled=aC):Qn w A target (.qb ts) ts:=by
 refine⟨fun {B} C F s v k r Q E l=>?_⟩;refine r.eT λa vs n e r=>?_;have bh:=(C.bs k).bh;have f:s.heap.IsTuple a vs.toArray:=⟨_,bh _ _ e,rfl,n,rfl⟩;have g:a≠s.heap.objs.size:=cw (aS (bh _ _ e));refine wpAny_pyIter_tuple f (l (It.of (Walks.tuple j s.heap.objs.size a g vs.toArray)) F _ (fP bh) ⟨by show vs.toArray.size=_;rw[aL,r.length],⟨⟨_,aM _ rfl,rfl,rfl⟩,f.at λo e=>aG _ e⟩,λb c=>?_,kq,λb c=>?_,λi v t d=>?_⟩ (lO _ (λi h m=>mB m.1 λo p q z=>⟨o,p,q⟩) #v[_]) rfl)
 .cases aB.mp c;exact⟨c8 bh (ah _),ah _,by rw[aY];exact bH _⟩
 .rcases aX.mp c with h|h
  .exact .inl (by rw[h];exact .head _)
  .cases aB.mp h;exact .inr (.inr ⟨_,e,aG _ (bh _ _ e)⟩)
 .have d:vs.toArray[i]?=ab v:=d;exact r.Ro (by simpa using d)
def xf(j:A.handled=aC):Qn w A target (.D3 a n) ((am n).map λ(i:Nat)=>.int (a+(i:Int))):=by
 refine⟨fun {B} C F s v k r Q E l=>?_⟩;refine j56 r.cV λr b t u v d g e l1 m l3 o=>?_;subst d;subst g;have bh:=(C.bs k).bh;refine yS (bh _ _ e) (Y1 l1 m l3 o) (l (It.of (Wl j s.heap.objs.size a 1 (b-a).toNat)) F _ (fP bh) ⟨by show (b-a).toNat=_;rw[af,aZ],?_,λb f=>?_,kq,λb f=>.inl f,λi v c p=>?_⟩ (lO _ (λi h q=>⟨_,q,rfl⟩) #v[_]) rfl)
 .show vN (s.heap.push _) _ _ _ _;rw[show (a+((0:Nat):Int)*1)=a by simp,show (((b-a).toNat:Int)-((0:Nat):Int))=fw a b 1 by rw[Jo];simp];exact aM _ rfl
 .cases aB.mp f;exact⟨c8 bh (ah _),ah _,by rw[aY];exact bH _⟩
 .refine iA p λt d=>?_;subst d;rw[af,aZ]at c;refine⟨.int (a+i),by rw[aI,cM c];rfl,?_⟩;rw[qak];exact .int _ _
def xS(x y:bT):(x.cps.toList==y.cps.toList)=decide (x=y):=by
 by_cases h:x=y
 .subst h;simp
 .have:x.cps.toList≠y.cps.toList:=λq=>h (Jp (Array.toList_inj.mp q));rw[decide_eq_false h];exact beq_eq_false_iff_ne.mpr this
def Ll(h:(x.length==0)=true)(y:bT):x++y=y:=by
 have:x=jx:=Jp (qu.mp (by simpa[vP] using h));rw[this,Str.empty_append]
def ID(h:(x.length==0)=true)(y:bT):y++x=y:=by
 have:x=jx:=Jp (qu.mp (by simpa[vP] using h));rw[this,Str.append_empty]
def ku:mz C w A (iN .Add) (.int a) (.int b) (.int (a+b)):=by
 refine⟨λg h F s c d e Q E f=>?_⟩;refine d.eI λz=>?_;refine e.eI λz=>?_;with_reducible refine P.add_int ?_;exact f _ _ _ (Gr.j4 (C.bs c).bh _) (.int _ _)
def AZ:mz C w A (iN .Sub) (.int a) (.int b) (.int (a-b)):=by
 refine⟨λg h F s c d e Q E f=>?_⟩;refine d.eI λz=>?_;refine e.eI λz=>?_;with_reducible refine P.sub_int ?_;exact f _ _ _ (Gr.j4 (C.bs c).bh _) (.int _ _)
def AT(h:IntMulOk a b):mz C w A (iN .Mult) (.int a) (.int b) (.int (a*b)):=by
 refine⟨λg i F s c d e Q E f=>?_⟩;refine d.eI λz=>?_;refine e.eI λz=>?_;exact mul_int (f _ _ _ (Gr.j4 (C.bs c).bh _) (.int _ _)) h
def Km(h:b≠0):mz C w A (iN .Mod) (.int a) (.int b) (.int (a.fmod b)):=by
 refine⟨λg i F s c d e Q E f=>?_⟩;refine d.eI λz=>?_;refine e.eI λz=>?_;exact mod_int' h (f _ _ _ (Gr.j4 (C.bs c).bh _) (.int _ _))
def Rn(h:b≠0)(c:mN a b=false):mz C w A (iN .FloorDiv) (.int a) (.int b) (.int (a.fdiv b)):=by
 refine⟨λi j F s d e f Q E g=>?_⟩;refine e.eI λz=>?_;refine f.eI λz=>?_;exact floordiv_int h (g _ _ _ (Gr.j4 (C.bs d).bh _) (.int _ _)) (.inl c)
def Vk(h:0<=b)(c:(qcW a:Int)*b<=2 ^ 27):mz C w A (iN .Pow) (.int a) (.int b) (.int (a ^ b.toNat)):=by
 refine⟨λi j F s d e f Q E g=>?_⟩;refine e.eI λz=>?_;refine f.eI λz=>?_;exact pow_int h c (g _ _ _ (Gr.j4 (C.bs d).bh _) (.int _ _))
def EJ:mz C w A (cQ .Eq) (.int a) (.int b) (.bool (a==b)):=by
 refine⟨λg h F s c d e Q E f=>?_⟩;refine d.eI λz=>?_;refine e.eI λz=>?_;with_reducible refine P.eq_int ?_;exact f _ _ _ (ic.refl (C.bs c).bh) (.bool _)
def Ka:mz C w A (cQ .NotEq) (.int a) (.int b) (.bool (a != b)):=by
 refine⟨λg h F s c d e Q E f=>?_⟩;refine d.eI λz=>?_;refine e.eI λz=>?_;with_reducible refine P.ne_int ?_;exact f _ _ _ (ic.refl (C.bs c).bh) (.bool _)
def MV:mz C w A (cQ .Lt) (.int a) (.int b) (.bool (decide (a<b))):=by
 refine⟨λg h F s c d e Q E f=>?_⟩;refine d.eI λz=>?_;refine e.eI λz=>?_;with_reducible refine P.lt_int ?_;exact f _ _ _ (ic.refl (C.bs c).bh) (.bool _)
def v0:mz C w A (cQ .LtE) (.int a) (.int b) (.bool (decide (a<=b))):=by
 refine⟨λg h F s c d e Q E f=>?_⟩;refine d.eI λz=>?_;refine e.eI λz=>?_;with_reducible refine P.le_int ?_;exact f _ _ _ (ic.refl (C.bs c).bh) (.bool _)
def C1:mz C w A (cQ .Gt) (.int a) (.int b) (.bool (decide (a > b))):=by
 refine⟨λg h F s c d e Q E f=>?_⟩;refine d.eI λz=>?_;refine e.eI λz=>?_;with_reducible refine P.gt_int ?_;exact f _ _ _ (ic.refl (C.bs c).bh) (.bool _)
def nv:mz C w A (cQ .Eq) (.str x) (.str y) (.bool (decide (x=y))):=by
 refine⟨λe f F s a b c Q E d=>?_⟩;refine b.eS λz=>?_;refine c.eS λz=>?_;exact P.eq_str (xS x y▸d _ _ _ (ic.refl (C.bs a).bh) (.bool _))
def Bj:mz C w A (cQ .NotEq) (.str x) (.str y) (.bool (!decide (x=y))):=by
 refine⟨λe f F s a b c Q E d=>?_⟩;refine b.eS λz=>?_;refine c.eS λz=>?_;refine P.ne_str ?_;have:(x.cps.toList != y.cps.toList)=!decide (x=y):=by rw[<-xS x y];rfl
 rw[this];exact d _ _ _ (ic.refl (C.bs a).bh) (.bool _)
def QF(h:(x++y).length<=be):mz C w A (iN .Add) (.str x) (.str y) (.str (x++y)):=by
 refine⟨λg i F s a c d Q E b=>?_⟩;refine c.eS λz=>?_;refine d.eS λz=>?_;refine P.add_str ?_;cases e:(x.length==0)with
 |true=>rw[if_pos rfl];exact b _ _ _ (ic.refl (C.bs a).bh) (by rw[Ll e];exact .str _ _)
 |false=>
  rw[if_neg #v[_]];cases f:(y.length==0)with
  |true=>rw[if_pos rfl];exact b _ _ _ (ic.refl (C.bs a).bh) (by rw[ID f];exact .str _ _)
  |false=>rw[if_neg #v[_]];exact⟨h,b _ _ _ (Gr.j4 (C.bs a).bh _) (.str _ _)⟩
noncomputable def T.isNone:T->Bool
 | .none=>true
 | .val v=>v==.none
 |z=>false
def GK(r:Rp w F v t):(v==cS)=t.isNone:=by
 cases r<;>first|rfl|decide|simp[T.isNone]
def Io:mz C w A (cQ .Is) t .none (.bool t.isNone):=by
 refine⟨λe f F s a b c Q E d=>?_⟩;refine c.eN ?_;exact is_none (GK b▸d _ _ _ (ic.refl (C.bs a).bh) (.bool _))
def eR:mz C w A (cQ .IsNot) t .none (.bool (!t.isNone)):=by
 refine⟨λe f F s a b c Q E d=>?_⟩;refine c.eN ?_;exact isNot_none (GK b▸d _ _ _ (ic.refl (C.bs a).bh) (.bool _))
structure Tr(w:bC)(A:cO)(t:T)(b:Bool):Prop where
 run:∀{B:gn} (C:fv B) (F:Fz) (s:aH) (v:aE),C.P F s->Rp w F v t->∀(Q:Bool->aH->Prop) (E:Lx0),(∀F' s',Gr F s F' s'->Q b s')->aP (aO pw w) A (truthy v) Q E s
def lb:Tr w A (.bool b) b:=by refine⟨fun {B} C F s v a r Q E c=>?_⟩;refine r.eB ?_;exact qB (c F s (ic.refl (C.bs a).bh))
def Ml:Tr w A (.int i) (i != 0):=by refine⟨fun {B} C F s v a r Q E b=>?_⟩;refine r.eI λz=>?_;exact P.truthy_int (b F s (ic.refl (C.bs a).bh))
def yJ(h:x.length<=be):Tr w A (.str x) (!decide (x=jx)):=by
 refine⟨fun {B} C F s v a r Q E b=>?_⟩;refine r.eS λz=>?_;have e:((x.length:Int) != 0)=!decide (x=jx):=by
  by_cases q:x=jx
  .subst q;rfl
  .have:x.length≠0:=λc=>q (Jp (qu.mp c));simp[q,this]
 exact P.truthy_str (by rw[aJ]at h;exact(jP Sz7) h ir) (e▸b F _ (Gr.j4 (C.bs a).bh _))
def pU:Tr w A .none false:=by refine⟨fun {B} C F s v a r Q E b=>?_⟩;refine r.eN ?_;exact λz z z=>b F s (ic.refl (C.bs a).bh)
def GA(h:ts.length<=be):Tr w A (.list ts) (!ts.isEmpty):=by
 refine⟨fun {B} C F s v b r Q E c=>?_⟩;refine r.eL λa vs n e r=>?_;have bh:=(C.bs b).bh;have e2:(!vs.toArray.isEmpty)=!ts.isEmpty:=by cases r<;>rfl
 refine zM ⟨_,bh _ _ e,rfl,n,rfl⟩ ?_ (e2▸c F _ (Gr.j4 bh _));rw[aJ]at h;simp only[aL];exact(vj 0x740e8d4a51000a93c10f1000000791d) h r.length ir
def eP(h:Ev C w A ax e t)(c:Tr w A t b)(d:autoParam ((do let v <-dp e ax;ej e.pos;fL [v] (truthy v))=isTrue e ax (dp e ax)) ou):wS C w A ax e b:=by
 refine⟨λF s a Q E f=>?_⟩;exact VT (h.run F s a _ _ λv i j g r=>c.run C i j v (C.st a g) r _ _ λk l g2=>f b k l (g.trans g2) rfl) d.symm
def rZ(h:wS C w A ax e b):wS C w A ax (.UnaryOp .Not e pos) (!b):=by
 refine⟨λF s a Q E c=>?_⟩;exact aa (h.run F s a _ _ λi d f g r=>au (c _ d f g (by rw[r])))
def xU(C:fv B)(w:bC)(A:cO)(a:BoolOp)(ax:uS)(c:List bv)(b:Bool):Prop:=Pu C w A (allTrue a c ax) λz d=>d=b
def dN(h:xU C w A a ax c b):wS C w A ax (.BoolOp a c pos) b:=⟨λF s d Q E e=>wpAny_isTrue_BoolOp (h.run F s d Q E e)⟩
def rS:xU C w A .And ax [] true:=⟨λF s a Q E b=>wpAny_allTrue_And_nil (b _ F s (ic.refl (C.bs a).bh) rfl)⟩
def yp:xU C w A .Or ax [] false:=⟨λF s a Q E b=>wpAny_allTrue_Or_nil (b _ F s (ic.refl (C.bs a).bh) rfl)⟩
def dR(h:wS C w A ax e b)(k:b=true->xU C w A .And ax j c):xU C w A .And ax (e::j) (b&&c):=by
 refine⟨λF s a Q E d=>?_⟩;refine wpAny_allTrue_And_cons (h.run F s a _ _ λl f i g r=>?_);subst r;cases l with
 |true=>exact(k rfl).run f i (C.st a g) Q E λm n o g2 p=>d m n o (g.trans g2) (by rw[p];rfl)
 |false=>exact d false f i g rfl
def lc(h:wS C w A ax e b)(k:b=false->xU C w A .Or ax j c):xU C w A .Or ax (e::j) (b ||c):=by
 refine⟨λF s a Q E d=>?_⟩;refine wpAny_allTrue_Or_cons (h.run F s a _ _ λl f i g r=>?_);subst r;cases l with
 |false=>exact(k rfl).run f i (C.st a g) Q E λm n o g2 p=>d m n o (g.trans g2) (by rw[p];rfl)
 |true=>exact d true f i g rfl
def ja(h:wS C w A ax c b)(m:b=true->Ev C w A ax body t)(n:b=false->Ev C w A ax a u):Ev C w A ax (.IfExp c body a pos) (if b then t else u):=by
 refine⟨λF s d Q E j=>?_⟩;refine wpAny_IfExp (h.run F s d _ _ λo k l g r=>?_);subst r;cases o with
 |true=>exact(m rfl).run k l (C.st d g) Q E λv e f g2 i=>j v e f (g.trans g2) i
 |false=>exact(n rfl).run k l (C.st d g) Q E λv e f g2 i=>j v e f (g.trans g2) i
def Oy(C:fv B)(w:bC)(A:cO)(pos:D7)(ax:uS)(a:List bv)(ts:List T):Prop:=Pu C w A (spliced (dc pos (br a ax))) λF vs=>da w F vs ts
def aK:Oy C w A pos ax [] []:=⟨λF s a Q E b=>oF (b _ F s (ic.refl (C.bs a).bh) .nil)⟩
noncomputable def Tz:bv->Bool
 | .Starred ..=>true
 |z=>false
def xp(h:false=Tz e):br (e::a) ax=(false,dp e ax)::br a ax:=by cases e<;>first|rfl|cases h
def aq(h:Ev C w A ax e t)(k:Oy C w A pos ax b ts)(c:autoParam (false=Tz e) ou):Oy C w A pos ax (e::b) (t::ts):=by
 refine⟨λF s a Q E d=>?_⟩;exact kQ (h.run F s a _ _ λv f i g r=>k.run f i (C.st a g) _ _ λvs j l g2 m=>d (v::vs) j l (g.trans g2) (.cons (r.cC g2.le) m)) (xp c)
def lk(bh:∀a o,F a=ab o->s.heap.get? a=ab o)(b:o.isFreed=false):Gr F s (ie F s.heap.objs.size o) {s with heap:=s.heap.push o}:=
 iW (fP bh) (c8 bh (ah _)) (aM _ b) (ah _)
def dG:ie F a o a=ab o:=by delta ie;rw[if_pos rfl]
def eC(h:Oy C w A pos ax b ts)(c:ts.length<=be):Ev C w A ax (.Tuple b k pos) (.qb ts):=by
 refine⟨λF s a Q E d=>?_⟩;refine wpAny_Tuple (h.run F s a _ _ λvs e f g r=>⟨by rw[r.length];exact c,?_⟩);have bh:=(C.bs (C.st a g)).bh;exact d _ _ _ (g.trans (lk bh rfl)) (.qb dG (r.cC (ee (c8 bh (ah _)))))
def k7(h:Oy C w A pos ax b ts)(c:ts.length<=be):Ev C w A ax (.List b pos) (.list ts):=by
 refine⟨λF s a Q E d=>?_⟩;refine FR (h.run F s a _ _ λvs e f g r=>⟨by rw[r.length];exact c,?_⟩);have bh:=(C.bs (C.st a g)).bh;exact d _ _ _ (g.trans (lk bh rfl)) (.list dG (r.cC (ee (c8 bh (ah _)))))
set_option backward.match.sparseCases true
structure Go(w:bC)(A:cO)(body:List lS)(ax:uS)(Q:nP->aH->Prop)(s:aH):Prop where
 run:aP (aO pw w) A (jl body ax) Q (λ_ _=>False) s
def j8{K:Tk}(c:St B w X loc K F s)(d:Ev (St.pre B w X loc K) w A X.ax a t)
 (e:KO X x) (f:cD false=cf a (ab (.Name x b)) pos.line X.ax)
 (k:∀F' s',St B w X (dz x t loc) K F' s'->Go w A bj X.ax Q s'):Go w A (.Assign [.Name x b] a pos::bj) X.ax Q s:=⟨LQ c d e f λF' s' h=>(k F' s' h).run⟩
def fi{K:Tk}(a:St B w X loc K F s)(b:Ev (St.pre B w X loc K) w A X.ax e t)
 (k:∀v F' s',St B w X loc K F' s'->Rp w F' v t->Q (.ret v) s'):Go w A (.Return (ab e) pos::bj) X.ax Q s:=⟨ME a b k⟩
def oa{X:Fx}(k:Q .next s):Go w A [] X.ax Q s:=⟨Xe k⟩
def UA{K:Tk}(d:St B w X loc K F s)(e:wS (St.pre B w X loc K) w A X.ax c b)
 (k:∀F' s',St B w X loc K F' s'->Go w A ((if b then body else a)++bj) X.ax Q s'):Go w A (.If c body a pos::bj) X.ax Q s:=⟨Uv d e λF' s' h=>(k F' s' h).run⟩
def kF{K:Tk}(d:St B w X loc K F s)(f:wS (St.pre B w X loc K) w A X.ax c b)
 (g:b=true->∀F' s',St B w X loc K F' s'->Go w A (body++bj) X.ax Q s') (i:b=false->∀F' s',St B w X loc K F' s'->Go w A (a++bj) X.ax Q s') :
 Go w A (.If c body a pos::bj) X.ax Q s:=⟨XM d f (λe F' s' h=>(g e F' s' h).run) λe F' s' h=>(i e F' s' h).run⟩
def W2{K:Tk}(c:St B w X loc K F s)(d:wS (St.pre B w X loc K) w A X.ax b false)
 (k:∀F' s',St B w X loc K F' s'->Go w A (a++bj) X.ax Q s'):Go w A (.If b body a pos::bj) X.ax Q s:=UA c d k
def YM{K:Tk}(c:St B w X loc K F s)(d:wS (St.pre B w X loc K) w A X.ax a true)
 (k:∀F' s',St B w X loc K F' s'->Go w A (body++bj) X.ax Q s'):Go w A (.If a body b pos::bj) X.ax Q s:=UA c d k
def Md{K:Tk}{f:Nat->M2->M2}(Inv:Nat->M2->Tk->Prop)
 (g:St B w X loc K F s) (hi:ItG (St.pre B w X loc K) w A X.ax iter target ts ex G) (h:∀gw,G gw->gw=[]\/K.gk=[]) (hex:∀a∈ex,a∈K.tk) (j:∀i loc' K',Inv i loc' K'->K'.tk=K.tk/\K'.gk=K.gk) (k:∀i t,ts[i]?=ab t->zu B w A X target t (f i)) (l:Inv 0 loc K)
 (oD:∀L i loc' K' F' s',(∀a∈L.tk,a∈ex\/(a∉K.tk/\X.s0.heap.objs.size<=a))->i<ts.length->Inv i loc' K'->St B w X (f i loc') (K'.and L) F' s'->
  Go w A body X.ax (qA B w X (Inv (i+1)) L (Go w A bj X.ax Q) Q) s')
 (jO:∀loc' K' F' s',Inv ts.length loc' K'->St B w X loc' K' F' s'->Go w A b X.ax (qE (Go w A bj X.ax Q) Q) s')
 (m:autoParam (∀x,bw iter X.ax x=cD x) y2):Go w A (.For target iter body b pos::bj) X.ax Q s:=
 ⟨W8 Inv g hi h hex j k l (λL i loc' K' F' s' hd hi c d=>cj (oD L i loc' K' F' s' hd hi c d).run (λfl e q=>by cases fl<;>first|exact q|exact q.run) λz z q=>q)
  (λloc' K' F' s' c d=>cj (jO loc' K' F' s' c d).run (λfl e q=>by cases fl<;>first|exact q|exact q.run) λz z q=>q) m⟩
structure bK(B:gn)(w:bC)(f:aE):Prop where
 ry:∀h:gn,(∀a o,B.get? a=ab o->h.get? a=ab o)->∃k,(k=Keeper.frame\/k=Keeper.machine\/k=Keeper.boundFrame)/\Looks (aO pw w) h (keeperOf f) k
def bK.fn(a:dg w B)(h:keepIn (KF w.params) f=true):bK B w f:=⟨λz k=>keeps_K h _ (a.X.keeps k)⟩
def bK.bi{id:String}:bK B w (.builtin id):=⟨λz z=>⟨_,.inr (.inl rfl),B6 rfl⟩⟩
def bK.ty:bK B w (.type n):=⟨λz z=>⟨_,.inr (.inl rfl),B6 rfl⟩⟩
structure cR(C:fv B)(w:bC)(A:cO)(f:aE)(ts:List T)(ns:List bT)(ks:List T)(t:T):Prop where
 run:∀F s vs us,C.P F s->da w F vs ts->da w F us ks->∀(Q:Lx0) (E:Lx0),(∀v F' s',Gr F s F' s'->Rp w F' v t->Q v s')->aP (aO pw w) A (wY f vs (ns.zip us)) Q E s
def Mw(C:fv B)(w:bC)(A:cO)(pos:D7)(ax:uS)(a:List Keyword)(ks:List T):Prop:=Pu C w A (evalAll ((bR pos (bk a ax)).map (·.2))) λF vs=>da w F vs ks
def k9:Mw C w A pos ax [] []:=⟨λF s a Q E b=>l0 (b _ F s (ic.refl (C.bs a).bh) .nil)⟩
def ms(h:Ev C w A ax e t)(k:Mw C w A pos ax a ks):Mw C w A pos ax (⟨ab n,e,p⟩::a) (t::ks):=
 ⟨λF s b Q E c=>kwAll_cons (h.run F s b _ _ λv d f g r=>k.run d f (C.st b g) _ _ λvs i j g2 l=>c (v::vs) i j (g.trans g2) (.cons (r.cC g2.le) l))⟩
structure si(C:fv B)(w:bC)(A:cO)(pos:D7)(ax:uS)(args:List bv)(kws:List Keyword)(ts:List T)(ns:List bT)(ks:List T):Prop where
 run:∀f F s,C.P F s->∀(Q:Args->aH->Prop) (E:Lx0),(∀vs us F' s',Gr F s F' s'->da w F' vs ts->da w F' us ks->Q ⟨vs,ns.zip us⟩ s')->aP (aO pw w) A (evalArgs f true (dc pos (br args ax)) (bR pos (bk kws ax))) Q E s
 plain:((dc pos (br args ax)).any (·.1) || (bR pos (bk kws ax)).any (·.1.isNone))=false
def W4(c:Mw C w A pos ax a ks)(d:ns=(bR pos (bk a ax)).filterMap (·.1))(b:true=(bR pos (bk a ax)).all (·.1.isSome))
 (e:false=((dc pos (br [] ax)).any (·.1) || (bR pos (bk a ax)).any (·.1.isNone))):si C w A pos ax [] a [] ns ks:=
 ⟨λz F s f z z h=>B7 b.symm (c.run F s f _ _ λus i j g r=>by rw[<-d];exact h [] us i j g .nil r),e.symm⟩
def Bh(d:Oy C w A pos ax (e::bj) ts)(f:Mw C w A pos ax a ks)(h:ns=(bR pos (bk a ax)).filterMap (·.1))
 (b:true=(bR pos (bk a ax)).all (·.1.isSome)) (i:false=((dc pos (br (e::bj) ax)).any (·.1) || (bR pos (bk a ax)).any (·.1.isNone))) (j:br (e::bj) ax=(false,dp e ax)::br bj ax) :
 si C w A pos ax (e::bj) a ts ns ks:=
 ⟨λz F s c z z k=>kR b.symm (d.run F s c _ _ λvs l m g r=>f.run l m (C.st c g) _ _ λus n o g2 p=>by rw[<-h];exact k vs us n o (g.trans g2) (r.cC g2.le) p) j,i.symm⟩
def wg{C:fv B}
 (b:si C w A pos ax args c ts ns ks) (d:bK B w f) (e:cR C w A f (t0++ts) ns ks t) (a:C.P F s) (i:da w F first t0) (j:∀v F' s',Gr F s F' s'->Rp w F' v t->Q v s') :
 aP (aO pw w) A (dB pos f first (dc pos (br args ax)) (bR pos (bk c ax))) Q E s:=by
 refine dC b.plain (λh k=>d.ry h k) (b.run f F s a _ _ λvs us l m g r n=>⟨(C.bs (C.st a g)).keep,?_⟩);exact e.run l m (first++vs) us (C.st a g) ((i.cC g.le).append r) n Q E λv o p g2 q=>j v o p (g.trans g2) q
def i0{C:fv B}(c:Ev C w A ax func (.val f))(d:si C w A pos ax args a ts ns ks)(e:bK B w f)
 (h:cR C w A f ts ns ks t) (i:dp (.Call func args a pos) ax=(do dB pos (<-dp func ax) [] (dc pos (br args ax)) (bR pos (bk a ax)))):Ev C w A ax (.Call func args a pos) t:=by
 refine⟨λF s b Q E j=>?_⟩;rw[i];refine aa (c.run F s b _ _ λv n o g r=>?_);refine r.eV <|wg (t0:=[]) d e h (C.st b g) .nil λv k l g2 m=>j v k l (g.trans g2) m
def EQ(h:false=a.any Tz):((dc pos (br a ax)).any (·.1) || (bR pos (bk [] ax)).any (·.1.isNone))=false:=by
 induction a with
 |nil=>rfl
 |cons e a b=>
  have h:=(jU ..).mp h.symm;rw[xp h.1.symm];exact b h.2.symm
def kj(b:Oy C w A pos ax (e::bj) ts)(a:autoParam (false=(e::bj).any Tz) ou):si C w A pos ax (e::bj) [] ts [] []:=Bh b k9 rfl rfl (EQ a).symm (xp ((jU ..).mp a.symm).1.symm)
def AC:si C w A pos ax [] [] [] [] []:=W4 k9 rfl rfl rfl
def is0(o:Option (Option aE)):Bool:=o.casesOn false λo=>o.casesOn true λz=>false
def Uz{o:Option (Option aE)}:is0 o=true->o=ab aC:=o.casesOn bff λo=>o.casesOn (λz=>rfl) λz=>bff
def ckN(P:j3)(ax:uS)(x:bT):Bool:=is0 (nsIn (KF P) fC x)&&!decide (x = "__name__")&&decide (ax.globals=fC)&&decide (ax.builtins=builtinsNs) &&
 decide (ax.scope.kind=.function)&&decide (ax.kindOf x=ab .globalImplicit)&&!(x==("__debug__" : bT))
def jo{C:fv B}(g:dg w B)(i:autoParam (zJ x=ab v) ou)(h:autoParam (true=ckN w.params ax x) wU):Ev C w A ax (.Name x pos) (.val v):=
 have a:=ba h.symm;have b:=ba a.1;have c:=ba b.1;have d:=ba c.1;have e:=ba d.1;have f:=ba e.1
 Rx g (Uz f.1) i (of_decide_eq_false (bn f.2)) (of_decide_eq_true e.2) (of_decide_eq_true d.2) (of_decide_eq_true c.2) (of_decide_eq_true b.2) (bn a.2)
def dD{C:fv B}(b:dg w B)(c:Ev C w A ax e d)(f:bK B w v)(g:cR C w A v [d] [] [] t)(i:autoParam (zJ x=ab v) ou)(h:autoParam (true=ckN w.params ax x) wU)
 (a:autoParam (false=Tz e) ou):Ev C w A ax (.Call (.Name x px) [e] [] pos) t:=i0 (jo b i h) (kj (aq c aK a) (by rw[kJ,<-a];rfl)) f g rfl
structure mD(C:fv B)(w:bC)(A:cO)(to:T)(name:bT)(f:aE)(sf:Bool):Prop where
 run:∀F s ov,C.P F s->Rp w F ov to->∀(pl:jj Bool) (Q:aE×List aE->aH->Prop) (E:Lx0),(∀F' s',Gr F s F' s'->Q (f,if sf then [ov]else []) s')->aP (aO pw w) A (ib ov name pl) Q E s
def cF{C:fv B}(h:Ev C w A ax o to)(i:mD C w A to name f d)
 (j:si C w A pos ax args a ts ns ks) (k:bK B w f) (l:cR C w A f ((if d then [to]else [])++ts) ns ks t)
 (m:dp (.Call (.Attribute o name b) args a pos) ax=(do
  let e <-dp o ax
  ej b.atName
  let (f,first) <-fL [e] (ib e name pl)
  dB pos f first (dc pos (br args ax)) (bR pos (bk a ax)))):Ev C w A ax (.Call (.Attribute o name b) args a pos) t:=by
 refine⟨λF s c Q E n=>gX (h.run F s c _ _ λv p q g r=>i.run p q v (C.st c g) r pl _ _ λz D g2=>?_) m⟩;refine wg j k l (C.st (C.st c g) g2) ?_ λv u x g3 y=>n v u x ((g.trans g2).trans g3) y;cases d with
 |true=>exact .cons (r.cC g2.le) .nil
 |false=>exact .nil
noncomputable def sN(l:List bT):Bool:=l.rec true λx r a=>!r.contains x&&a
def z5:∀{l:List bT},sN l=true->l.Nodup:=@gx _ _ (λz=>.nil) λx r a h=>by
 have h:(!r.contains x)=true/\sN r=true:=(bc ..).mp h;exact du.mpr ⟨λq=>bff ((congrArg Bool.not (d8.mpr q)).symm.trans h.1),a h.2⟩
def Rq:∀{loc:M2} {vs:List aE},da w F vs (loc.map (·.2))->Sy w F ((loc.map (·.1)).zip vs) loc:=@wt _ _ _ (fun {z} z=>.nil) λz z z a {z} h=>by
 refine h.ec λv us h r=>.cons h (a r)
def Ik{loc:M2}(r:da w F vs (loc.map (·.2))):((loc.map (·.1)).zip vs).map (·.1)=loc.map (·.1):=by
 refine List.map_fst_zip ?_;rw[r.length,af,af];exact ah _
def Lp{K:Tk}(loc)(b)(md)(own){Q:Lx0}{E:Lx0}
 (m:dg w B) (c:Bs B F0 s0) (gg:Gr F0 s0 F s) (J:Rm (n+1) A) (N:MK w.params f=ab (fd,body)) (hd:true=Ye w.params fd)
 (d:∀M A E Q,Q ((loc.map (·.1)).zip b) s->aP M A (RK fd ⟨pos,kw⟩) Q E s0) (g:true=((loc.map (·.1)).all λy=>fd.scope.names.lookup y==ab .local ||fd.scope.names.lookup y==ab .cell))
 (u:true=sN (loc.map (·.1))) (x:da w F b (loc.map (·.2))) (hi:K.I F s) (z:∀a∈K.tk,F a=aC/\a<s.heap.objs.size)
 (k:∀L i,s.heap.objs.size<=L->St B w ⟨rm fd f L,s,F,md,own⟩ loc K F i->
  Go w (A.deeper (rm fd f L)) body (rm fd f L) (λfl s'=>Q (match fl with | .ret v=>v|Y=>.none) s') i) :
 kP (aO pw w) A (.call (.ref f) ⟨pos,kw⟩) (λr s'=>match r with | .ok (.ret v)=>Q v s' | .ok _=>False | .error e=>E e s') s0:=by
 refine mB (WD N) λo O C j=>?_;have hd:=hd.symm;unfold Ye at hd;simp only[bc,iu,decide_eq_true_eq,Oj]at hd;obtain⟨⟨⟨⟨⟨D,t⟩,G⟩,H⟩,P⟩,l⟩:=hd;have bs:=c.gr gg;have I:=Ik x;refine UR m.Vg λp loose R mg W T=>codeAny_call_function (by have:=J.2.1;exact R1 this) (c.keep _ _ (m.X _ _ O)) C D t j (codeRec_of (λa o e=>c.keep a o (m.X a o e)) H) (d _ _ _ _ ?_);rw[G];refine z3 bs P l (bg.mpr λy S=>?_) (by rw[I];exact z5 u.symm) (Rq x) hi z λi U V=>⟨(T.nolimit.keeps bs.keep).keeps U,codeAny_func (cj (k _ i (ah _) V).run (λY Y q=>q) λY Y h=>h.elim)⟩;have:y.1∈((loc.map (·.1)).zip b).map (·.1):=db S;rw[I]at this;exact bg.mp g.symm y.1 this
def AY{K:Tk}(loc)(b)(md)(own){Q:Lx0}{E:Lx0}
 (j:dg w B) (bs:Bs B F s) (l:Rm (n+1) A) (m:MK w.params f=ab (fd,body)) (hd:true=Ye w.params fd) (c:BindsTo s fd ⟨pos,kw⟩ ((loc.map (·.1)).zip b)) (d:true=((loc.map (·.1)).all λy=>fd.scope.names.lookup y==ab .local ||fd.scope.names.lookup y==ab .cell))
 (g:true=sN (loc.map (·.1))) (o:da w F b (loc.map (·.2))) (hi:K.I F s) (h:∀a∈K.tk,F a=aC/\a<s.heap.objs.size)
 (k:∀L i,s.heap.objs.size<=L->St B w ⟨rm fd f L,s,F,md,own⟩ loc K F i->
  Go w (A.deeper (rm fd f L)) body (rm fd f L) (λfl s'=>Q (match fl with | .ret v=>v|z=>.none) s') i) :
 kP (aO pw w) A (.call (.ref f) ⟨pos,kw⟩) (λr s'=>match r with | .ok (.ret v)=>Q v s' | .ok _=>False | .error e=>E e s') s:=
 Lp loc b md own j bs (ic.refl bs.bh) l m hd c d g o hi h k
def enter{K:Tk}(loc)(b)(md)(own)
 (i:dg w B) (bs:Bs B F s) (j:Rm (n+1) A) (l:MK w.params f=ab (fd,body)) (hd:true=Ye w.params fd) (c:BindsTo s fd ⟨pos,kw⟩ ((loc.map (·.1)).zip b)) (d:true=((loc.map (·.1)).all λy=>fd.scope.names.lookup y==ab .local ||fd.scope.names.lookup y==ab .cell))
 (e:true=sN (loc.map (·.1))) (m:da w F b (loc.map (·.2))) (hi:K.I F s) (g:∀a∈K.tk,F a=aC/\a<s.heap.objs.size)
 (k:∀L h,s.heap.objs.size<=L->St B w ⟨rm fd f L,s,F,md,own⟩ loc K F h->
  Go w (A.deeper (rm fd f L)) body (rm fd f L) (λfl s'=>Q (match fl with | .ret v=>v|z=>.none) s') h) :
 aP (aO pw w) A (wY (.ref f) pos kw) Q E s:=kB (AY loc b md own i bs j l hd c d e m hi g k)
set_option backward.match.sparseCases false
def T.toD(t:T):PyData:=T.rec (motive_1:=λz=>PyData) (motive_2:=λz=>List PyData) (motive_3:=λz=>Unit) (motive_4:=λz=>Unit) .none .bool .int .str (λz=>.tuple) (λz=>.list) (λz z=>.none) (λz z=>.none) (λz z z=>.none) (λz z z=>.none) (λi z=>.int i) (λi z=>.int i) (λz=>.none) (λz=>.none) [] (λz z a b=>a::b) () (λz z z z=>()) (λz z z=>()) t
def ZO(g:List T->Bool)(t:T):Bool:=T.casesOn t true (λz=>true) (λz=>true) qh g g (λz=>false) (λz z=>false) (λz z z=>false) (λz z z=>false) (λz z=>true) (λz z=>true) (λz=>false) (λz=>false)
noncomputable def T.ok(n:Nat):T->Bool:=lT (ZO λz=>false) (λz f=>ZO λts=>ts.all f) n
def GJ(ts:List T):(T.list ts).toD=.list (ts.map T.toD)/\(T.qb ts).toD=.tuple (ts.map T.toD):=by
 induction ts with
 |nil=>exact⟨rfl,rfl⟩
 |cons t r a=>exact⟨congrArg (λd=>PyData.list (t.toD::d)) (D8 a.1),congrArg (λd=>PyData.tuple (t.toD::d)) (D8 a.1)⟩
def mc(ts:List T):(T.list ts).toD=.list (ts.map T.toD):=(GJ ts).1
def HC(ts:List T):(T.qb ts).toD=.tuple (ts.map T.toD):=(GJ ts).2
def VA{n:Nat}(a:∀t,T.ok n t=true->t.toD.canLay0=true/\t.toD.depth<=n)(ts:List T):ts.all (T.ok n)=true->uT (ts.map T.toD)=true/\mW (ts.map T.toD)<=n:=by
 induction ts with
 |nil=>exact λz=>⟨rfl,bG n⟩
 |cons t r k=>
  intro e;rw[mO,bc]at e;rw[bN,uT,mW,(a t e.1).1,(k e.2).1];exact⟨rfl,NK.mpr ⟨(a t e.1).2,(k e.2).2⟩⟩
def HG{n:Nat}{g:List T->Bool}(a:∀ts,g ts=true->uT (ts.map T.toD)=true/\mW (ts.map T.toD)+1<=n)(t:T):ZO g t=true->t.toD.canLay0=true/\t.toD.depth<=n:=
 T.casesOn t (λz=>⟨rfl,bG n⟩) (λz z=>⟨rfl,bG n⟩) (λz z=>⟨rfl,bG n⟩) (λz h=>⟨h,bG n⟩) (λts h=>by rw[HC,sc,SY];exact a ts h) (λts h=>by rw[mc,sc,SY];exact a ts h) (λz=>bff) (λz z=>bff) (λz z z=>bff) (λz z z=>bff) (λz z z=>⟨rfl,bG n⟩) (λz z z=>⟨rfl,bG n⟩) (λz=>bff) (λz=>bff)
def LI(n:Nat):∀t,T.ok n t=true->t.toD.canLay0=true/\t.toD.depth<=n:=by
 induction n with
 |zero=>exact HG λz=>bff
 |succ n a=>exact HG λts h=>(VA a ts h).imp_right qw
def wu{n:Nat}{t:T}(h:T.ok n t=true):∃g,ZO g t=true/\∀ts,g ts=true->∃m,ts.all (T.ok m)=true:=by
 cases n with
 |zero=>exact⟨_,h,λz=>bff⟩
 |succ m=>exact⟨_,h,λz h=>⟨m,h⟩⟩
def Mn{w:bC}{F:Fz}{h:gn}(bh:∀a o,F a=ab o->h.get? a=ab o){v:aE}{t:T}(r:Rp w F v t):(∃n,T.ok n t=true)->∃as,Reads h v t.toD as:=
 Rp.rec (motive_2:=λvs ts z=>(∃n,ts.all (T.ok n)=true)->∃as,ReadsAll h vs (ts.map T.toD) as) (motive_3:=λz z z=>True)
  (λz=>⟨[],.none⟩) (λb z=>⟨[],.bool b⟩) (λi t z=>⟨[],.int i t⟩) (λx t z=>⟨[],.str x t⟩)
  (λe z c k=>k.elim λn k=>by rw[HC];exact(c ((wu k).elim λz h=>h.2 _ h.1)).elim λas h=>⟨as,.tuple (bh _ _ e) rfl rfl h⟩)
  (λe z c k=>k.elim λn k=>by rw[mc];exact(c ((wu k).elim λz h=>h.2 _ h.1)).elim λas h=>⟨_::as,.list (bh _ _ e) rfl rfl h⟩)
  (λz z z z z ⟨n,k⟩=>(wu k).elim λz h=>bff h.1) (λz z z z z ⟨n,k⟩=>(wu k).elim λz h=>bff h.1) (λz ⟨n,k⟩=>(wu k).elim λz h=>bff h.1) (λz z z z k=>k.elim λn k=>(wu k).elim λz h=>bff h.1)
  (λz z z=>⟨[],.int _ _⟩) (λz z z=>⟨[],.int _ _⟩) (λz ⟨n,k⟩=>(wu k).elim λz h=>bff h.1) (λz z k=>k.elim λn k=>(wu k).elim λz h=>bff h.1)
  (λz=>⟨[],.nil⟩) (λz z a b k=>k.elim λn e=>by
   rw[mO,bc]at e;exact(a ⟨n,e.1⟩).elim λas h=>(b ⟨n,e.2⟩).elim λbs k=>⟨as++bs,.cons h k⟩) trivial (λz z z z=>trivial) r
def Rp.tX{w:bC}{F:Fz}{h:gn}(bh:∀a o,F a=ab o->h.get? a=ab o)(n:Nat){v:aE}{t:T}(r:Rp w F v t)(k:T.ok n t=true):(∃as,Reads h v t.toD as)/\t.toD.canLay0=true/\t.toD.depth<=n:=⟨Mn bh r ⟨n,k⟩,LI n t k⟩
def UO(n)(b:Rm (k+1) A)(c:n<=49)(d:T.ok n t=true)(e:T.ok n u=true):mz C w A (cQ .Eq) t u (.bool (i8 t.toD u.toD)):=by
 refine⟨λp q F s a f g Q E h=>?_⟩;obtain⟨⟨as,i⟩,j,l⟩:=Rp.tX (C.bs a).bh n f d;obtain⟨⟨bs,m⟩,o,r⟩:=Rp.tX (C.bs a).bh n g e;exact SeqAt.compareEq_reads i m j o (by have:=b.2.2;have:=zN t.toD.depth u.toD.depth;exact SD c l (by assumption) this) (h _ _ _ (ic.refl (C.bs a).bh) (.bool _))
def LJ(n)(b:Rm (k+1) A)(c:n<=49)(d:T.ok n t=true)(e:T.ok n u=true):mz C w A (cQ .NotEq) t u (.bool (!i8 t.toD u.toD)):=by
 refine⟨λp q F s a f g Q E h=>?_⟩;obtain⟨⟨as,i⟩,j,l⟩:=Rp.tX (C.bs a).bh n f d;obtain⟨⟨bs,m⟩,o,r⟩:=Rp.tX (C.bs a).bh n g e;exact SeqAt.compareNe_reads i m j o (by have:=b.2.2;have:=zN t.toD.depth u.toD.depth;exact SD c l (by assumption) this) (h _ _ _ (ic.refl (C.bs a).bh) (.bool _))
def Yw(n)(d:Rm (k+1) A)(e:n<=48)(f:T.ok n t=true)(g:T.ok (n+1) (.list ts)=true):mz C w A (cQ .In) t (.list ts) (.bool (ts.any λy=>i8 y.toD t.toD)):=by
 refine⟨λp q F s a h i Q E j=>?_⟩;obtain⟨⟨as,l⟩,m,o⟩:=Rp.tX (C.bs a).bh n h f;obtain⟨⟨bs,c⟩,b,r⟩:=Rp.tX (C.bs a).bh (n+1) i g;rw[mc]at c b;rw[sc]at b;refine SeqAt.in_list_reads c l b m (by have:=d.2.2;have:=RL (mW (ts.map T.toD)) t.toD.depth;exact R6 e o (by assumption) this) (j _ _ _ (ic.refl (C.bs a).bh) ?_);rw[Wm];exact .bool _
def KY(n)(d:Rm (k+1) A)(e:n<=48)(f:T.ok n t=true)(g:T.ok (n+1) (.list ts)=true):mz C w A (cQ .NotIn) t (.list ts) (.bool (!ts.any λy=>i8 y.toD t.toD)):=by
 refine⟨λp q F s a h i Q E j=>?_⟩;obtain⟨⟨as,l⟩,m,o⟩:=Rp.tX (C.bs a).bh n h f;obtain⟨⟨bs,c⟩,b,r⟩:=Rp.tX (C.bs a).bh (n+1) i g;rw[mc]at c b;rw[sc]at b;refine SeqAt.notIn_list_reads c l b m (by have:=d.2.2;have:=RL (mW (ts.map T.toD)) t.toD.depth;exact R6 e o (by assumption) this) (j _ _ _ (ic.refl (C.bs a).bh) ?_);rw[Wm];exact .bool _
def VM:mz C w A (cQ .In) (.str y) (.str x) (.bool !(xw x y 0 x.length 1).isEmpty):=by
 refine⟨λe f F s a b c Q E d=>?_⟩;refine b.eS λz=>?_;refine c.eS λz=>?_;exact P.in_str (d _ _ _ (ic.refl (C.bs a).bh) (.bool _))
def oX(bh:∀a o,F a=ab o->s.heap.get? a=ab o)(b:o.isFreed=false)(c:autoParam (s.toks<=n) YL):Gr F s (ie F s.heap.objs.size o) {s with heap:=s.heap.push o,toks:=n}:=
 iW (fP bh c) (c8 bh (ah _)) (aM _ b) (ah _)
def uZ(d:-(2 ^ 62)<=b)(e:b<2 ^ 62):cR C w A (.type "range") [.int b] [] [] (.D3 0 b.toNat):=by
 refine⟨λF s vs us f g i Q E h=>?_⟩;refine g.e1 λz c=>c.eI λtk=>call_range_1 (h _ _ _ (oX (C.bs f).bh rfl) ?_);have:=Rp.D3 (w:=w) (F:=ie F s.heap.objs.size {cls:=.type "range",data:=.fields #[.int 0 s.toks,.int b tk,.int 1 (s.toks+1)]}) (a:=0) dG #v[_] #v[_] d e;rw[Y2]at this;exact this
def As(e:-(2 ^ 62)<=a)(f:a<2 ^ 62)(g:-(2 ^ 62)<=b)(h:b<2 ^ 62):cR C w A (.type "range") [.int a,.int b] [] [] (.D3 a (b-a).toNat):=by
 refine⟨λF s vs us i j m Q E k=>?_⟩;refine j.e2 λz z c d=>c.eI λtk=>d.eI λl=>call_range_2 (k _ _ _ (oX (C.bs i).bh rfl) (.D3 dG e f g h))
def IK(g:c≠0)(h:mN (b-a) c=false):cR C w A (.type "range") [.int a,.int b,.int c] [] [] (.TM a b c):=by
 refine⟨λF s vs us i j n Q E k=>?_⟩;refine j.e3 λz z z d e f=>d.eI λtk=>e.eI λl=>f.eI λm=>call_range_3 g (k _ _ _ (oX (C.bs i).bh rfl) (.TM dG)) (.inl h)
def DC(c:∀i v,P i v->Rp w F v (τ i))(h:ItemsOf P a n):da w F a.toList ((am n).map τ):=by
 refine dS h λd f=>?_;have key:∀(l:List aE) k,(∀j v,l[j]?=ab v->P (k+j) v)->da w F l ((pf k l.length).map τ):=by
  intro l
  induction l with
  |nil=>intro k z;exact .nil
  |cons v l g=>
   intro k b;rw[cq,xx,bN];refine .cons (c _ _ (by simpa using b 0 v rfl)) (g (k+1) λj u e=>?_);have:=b (j+1) u (by simpa using e);rwa[show k+(j+1)=k+1+j by exact bW Sv9]at this
 have:=key a.toList 0 λj v e=>by rw[fe];exact f j v (by rw[<-l5];exact e)
 rw[dZ,d]at this;rw[List.range_eq_range'];exact this
def nZ(h:ts.length<=be):cR C w A (.builtin "len") [.list ts] [] [] (.int ts.length):=by
 refine⟨λF s vs us b c f Q E d=>?_⟩;refine c.e1 λz a=>a.eL λz xs n e r=>?_;have e2:(xs.toArray.size:Int)=ts.length:=by rw[aL,r.length]
 refine call_len_list ⟨_,(C.bs b).bh _ _ e,rfl,n,rfl⟩ (by rw[e2];rw[aJ]at h;exact(vj Sz6) h e2 ir) ?_;rw[e2];exact d _ _ _ (Gr.j4 (C.bs b).bh _) (.int _ _)
def gG(h:x.length<=be):cR C w A (.builtin "len") [.str x] [] [] (.int x.length):=by
 refine⟨λF s vs us b c e Q E d=>?_⟩;refine c.e1 λz a=>a.eS λtk=>P.len_str (by rw[aJ]at h;exact(jP Sz7) h ir) (d _ _ _ (Gr.j4 (C.bs b).bh _) (.int _ _))
def tj(h:a.natAbs.log2<1920):cR C w A (.type "str") [.int a] [] [] (.str (FT a)):=by
 refine⟨λF s vs us c d f Q E e=>?_⟩;refine d.e1 λz b=>b.eI λtk=>P.str_of_int h (e _ _ _ (Gr.j4 (C.bs c).bh _) (.str _ _))
def v9:cR C w A (.type "str") [.bool b] [] [] (.str (if b then "True" else "False")):=by
 refine⟨λF s vs us c d f Q E e=>?_⟩;refine d.e1 λz a=>a.eB <|P.str_of_bool (e _ _ _ (Gr.j4 (C.bs c).bh _) (.str _ _))
def rC(n)(g:Rm (k+1) A)(i:A.guards=ab [])(j:n<=46)(l:T.ok n (.list ts)=true)(p:(T.list ts).toD.showable=true)(q:(T.list ts).toD.shown.length<=be) :
 cR C w A (.type "str") [.list ts] [] [] (.str (T.list ts).toD.shown):=by
 refine⟨λF s vs us b t G Q E x=>?_⟩;refine t.e1 λv r=>?_;obtain⟨⟨bs,y⟩,z,B⟩:=Rp.tX (C.bs b).bh n r l;refine DZ r.cV λa vs m D G G=>?_;subst D
 .refine gC (str_of_reads y p (λh=>by rw[PyData.hasDict_of_canLay _ z]at h;cases h) i (by have:=g.2.2;exact W3 j B this) (λG G e=>e) (λh' u tk c d f=>?_) q);exact x _ F _ ⟨Le.refl _,λG G e=>.inl e,λa o G e=>c a o e,λa o e=>c a o ((C.bs b).bh a o e),d,.refl _,rfl,f⟩ (.str _ _)
structure gF(C:fv B)(w:bC)(A:cO)(a i r:T):Prop where
 run:∀va vi F s,C.P F s->Rp w F va a->Rp w F vi i->∀(Q:Lx0) (E:Lx0),(∀v F' s',Gr F s F' s'->Rp w F' v r->Q v s')->
  ∃T id,s.TypeIs va T/\tw (.type T) "__getitem__" = cD (ab (.builtin id))/\aP (aO pw w) A (getItem va vi) Q E s
noncomputable def ta(ts:List T)(lo hi st:Option Int):List T:=(il (eZ lo hi st ts.length).1 (eZ lo hi st ts.length).2.1 (eZ lo hi st ts.length).2.2).filterMap (ts[·]?)
def da.ta(r:da w F vs ts)(lo hi st):da w F (slicePick vs.toArray lo hi st).toList (Mine.ta ts lo hi st):=by
 delta slicePick Mine.ta;rw[aL,r.length];generalize il _ _ _=l
 induction l with
 |nil=>exact .nil
 |cons i l a=>
  rw[Jq,Jq];cases e:ts[i]? with
  |none=>
   have:vs.toArray[i]?=aC:=by
    rw[oL]at e;simp;exact(dO 0x10020f12d) e r.length
   rw[this];exact a
  |some t=>
   refine cY (r.get e) λv e1 e2=>?_;have:vs.toArray[i]?=ab v:=by simpa using e1
   rw[this];exact .cons e2 a
def BC(o i):∃a,subscripted slice false o i=operate a (getItem o i):=by cases slice<;>first|exact⟨_,rfl⟩ | (rename_i c _;cases c<;>exact⟨_,rfl⟩)
def bf(g:Ev C w A ax b a)(hi:Ev C w A ax slice i)(h:gF C w A a i r):Ev C w A ax (.Subscript b slice pos) r:=by
 refine⟨λF s c Q E j=>FU (g.run F s c _ _ λe k l d m=>hi.run k l (C.st c d) _ _ λf n o g2 p=>?_)⟩;refine qd (h.run e f n o (C.st (C.st c d) g2) (m.cC g2.le) p Q E λv q t g3 u=>j v q t ((d.trans g2).trans g3) u) λT id x y z=>iA (BC e f) λD B=>tail_any x y z B
def gz(c:0<=i)(d:i<2 ^ 63)(e:ts[i.toNat]?=ab t):gF C w A (.list ts) (.int i) t:=by
 refine⟨λk l F s f g h Q E j=>?_⟩;refine h.eI λz=>g.eL λa vs n b r=>?_;have bh:=(C.bs f).bh;refine cY (r.get e) λv e1 e2=>⟨"list",_,⟨_,bh _ _ b,rfl⟩,mP.lookup,VU ⟨_,bh _ _ b,rfl,n,rfl⟩ c d (by simpa using e1) (j _ _ _ (ic.refl bh) e2)⟩
def xb(c:-(2 ^ 63)<=i)(d:i<2 ^ 63)(f:wE i ts.length=ab j)(e:ts[j]?=ab t):gF C w A (.qb ts) (.int i) t:=by
 refine⟨λm o F s g h k Q E l=>?_⟩;refine k.eI λz=>h.eT λa vs n b r=>?_;have bh:=(C.bs g).bh;refine cY (r.get e) λv e1 e2=>⟨"tuple",_,⟨_,bh _ _ b,rfl⟩,slot_tuple_getitem.lookup,getItem_tuple ⟨_,bh _ _ b,rfl,n,rfl⟩ c d (by simpa[r.length] using f) (by simpa using e1) (l _ _ _ (ic.refl bh) e2)⟩
def w4(a:(decide (i < -(2 ^ 63:Int)) ||decide (i>=2 ^ 63))=false)(b:(wE i x.length).bind (x.cps[·]?)=ab c):gF C w A (.str x) (.int i) (.str ⟨#[c]⟩):=by
 refine⟨λh j F s d e f Q E g=>?_⟩;refine f.eI λz=>?_;refine e.eS λz=>?_;exact⟨"str",_,fV _ _ _,zO.lookup,P.getItem_str a b (g _ _ _ (Gr.j4 (C.bs d).bh _) (.str _ _))⟩
def pV{lo:Option Int}{st:Option Int}(c:st≠ab 0)(d:ts.length<=be):gF C w A (.list ts) (.IG lo hi st) (.list (ta ts lo hi st)):=by
 refine⟨λm o F s f g h Q E i=>?_⟩;refine g.eL λa vs n b r=>Xp h.cV λp q t l j e p1 p2 k=>?_;subst j;have bh:=(C.bs f).bh;refine⟨"list",_,⟨_,bh _ _ b,rfl⟩,mP.lookup,Jr ⟨_,bh _ _ b,rfl,n,rfl⟩ ⟨_,bh _ _ e,rfl,rfl⟩ p1 p2 k c (i _ _ _ (lk bh rfl) ?_) (by rw[aL,r.length];exact d)⟩;exact .list (by rw[FV];exact dG) ((r.ta lo hi st).cC (ee (c8 bh (ah _))))
def Cs{lo:Option Int}(h:B5 v lo):∃l ,v=partValue l/\l.map (·.1)=lo:=by
 cases h with
 |none=>exact⟨aC,rfl,rfl⟩
 |int i t=>exact⟨ab (i,t),rfl,rfl⟩
def mj{lo:Option Int}(d:x.length<=be):gF C w A (.str x) (.IG lo hi aC) (.str (lm x lo hi)):=by
 refine⟨λn o F s f g h Q E i=>?_⟩;refine g.eS λz=>Xp h.cV λp q r m a e p1 p2 j=>?_;subst a;have bh:=(C.bs f).bh;cases j;refine cY (Cs p1) λl a b=>?_;subst a;subst b;refine cY (Cs p2) λu a b=>?_;subst a;subst b;refine⟨"str",_,fV _ _ _,zO.lookup,gy (wpAny_getItem_str_slice (st:=aC) ⟨_,bh _ _ e,rfl,rfl⟩ rfl ?_)⟩;exact post_val_or_str ⟨aA (Txt.slice_le x _ _) d,λt k c=>i _ _ _ (Gr.j4 bh k c) (.str _ _)⟩
structure Vh(C:fv B)(w:bC)(A:cO)(ax:uS)(e:Option bv)(lo:Option Int):Prop where
 run:∀F s,C.P F s->∀(Q:Lx0) (E:Lx0),(∀v F' s',Gr F s F' s'->B5 v lo->Q v s')->aP (aO pw w) A (evalPart e ax) Q E s
def ct:Vh C w A ax aC aC:=⟨λF s a Q E b=>by exact au (b _ _ _ (ic.refl (C.bs a).bh) .none)⟩
def g9(h:Ev C w A ax e (.int i)):Vh C w A ax (ab e) (ab i):=⟨λF s a Q E b=>(by exact h.run F s a _ _ λv c d g r=>by refine r.eI λz=>?_;exact b _ _ _ g (.int _ _))⟩
def IC(h:Ev C w A ax e .none):Vh C w A ax (ab e) aC:=⟨λF s a Q E b=>(by exact h.run F s a _ _ λv c d g r=>by refine r.eN ?_;exact b _ _ _ g .none)⟩
def iJ{st:Option bv}{lo:Option Int}(c:Vh C w A ax l lo)(d:Vh C w A ax u hi)(e:Vh C w A ax st sp):Ev C w A ax (.Slice l u st p) (.IG lo hi sp):=by
 refine⟨λF s a Q E f=>wpAny_Slice (c.run F s a _ _ λo g h b i=>d.run g h (C.st a b) _ _ λq j k g2 m=>e.run j k (C.st (C.st a b) g2) _ _ λr t v g3 n=>?_)⟩;exact f _ _ _ (((b.trans g2).trans g3).trans (lk g3.bh rfl)) (.IG dG i m n)
def ur{x y:bT}{v:aE}{ps:List (bT×aE)}:qH ((x,v)::ps) y=if y=x then ab v else qH ps y:=by
 delta qH;rw[dQ];by_cases q:y=x
 .rw [if_pos q,decide_eq_true q.symm];rfl
 .rw [if_neg q,decide_eq_false λz=>q z.symm]
def p9.pairs(r:p9 w F b kvs):∃ps,(∀e∈b,∃k,(aR pw w).is k e.key=true/\e.hash=(aR pw w).hash k)/\Pairs (aR pw w) b ps/\ps.map (·.1)=kvs.map (·.1)/\
 (∀x t,kvs.lookup x=ab t->∃v,qH ps x=ab v/\Rp w F v t)/\∀x,kvs.lookup x=aC->qH ps x=aC:=by
 induction kvs generalizing b with
 |nil=>obtain rfl:=r.nw;exact⟨[],kq,.nil,rfl,λu u=>ons,λu u=>rfl⟩
 |cons y l d=>
  refine DZ r.Af λtk v ds f a rs=>?_;subst f;refine j14 (d rs) λps g h i j m=>?_;have c:d9 y.1 (.str y.1 tk)=true:=decide_eq_true rfl;refine⟨(y.1,v)::ps,λe n=>(aX.mp n).elim (λq=>q▸⟨y.1,c,rfl⟩) (g e),.cons c rfl h,congrArg (y.1::·) i,λz t e=>?_,λz e=>?_⟩
  .rw [ur];rw[lookup_cons]at e;by_cases q:z=y.1
   .rw [if_pos q]at e ⊢;exact⟨v,rfl,bt e▸a⟩
   .rw [if_neg q]at e ⊢;exact j z t e
  .rw [ur];rw[lookup_cons]at e;by_cases q:z=y.1
   .rw [if_pos q]at e;exact osn e
   .rw [if_neg q]at e ⊢;exact m z e
def Rp.BP{s:aH}(bh:∀a o,F a=ab o->s.heap.get? a=ab o)(r:Rp w F (.ref a) (.dict kvs)):∃ps ,s.heap.DictOf (aR pw w) a ps/\ps.map (·.1)=kvs.map (·.1)/\
 (∀x t,kvs.lookup x=ab t->∃v,qH ps x=ab v/\Rp w F v t)/\∀x,kvs.lookup x=wZ->qH ps x=wZ:=by
 obtain⟨z,z,z,⟨⟩,e,r,n,z⟩:=r.cV;refine j14 r.pairs λps c d b f g=>⟨ps,⟨_,_,_,bh _ _ e,⟨rfl,rfl,rfl⟩,rfl,λe h=>c e (by simpa using h),by simpa using d,by rw[b];exact n⟩,b,f,g⟩
def oQ(e:kvs.lookup x=ab t):gF C w A (.dict kvs) (.str x) t:=by
 refine⟨λo p F s c d f Q E g=>?_⟩;have bh:=(C.bs c).bh;refine f.eS λtk=>SL d.cV λa q n h e1 i n1 j=>?_;subst h;refine Hl (Rp.BP bh (.dict e1 i n1 j)) λps b r k u=>cY (k x t e) λv l m=>⟨"dict",_,b.typeIs,Wn.lookup,Y3 (by simp[aR,d9]) b.mapOf l (g _ _ _ (Gr.j4 bh _) m)⟩
section
open PySem.Builtin.Str
def LX{vs:List aE}{ys:List bT}(r:da w F vs (ys.map .str)):StrsAre vs ys:=by
 induction ys generalizing vs with
 |nil=>obtain rfl:=r.nw;exact .nil
 |cons y l b=>
  refine(show da w F vs (.str y::l.map .str) from r).ec λv us a rs=>a.eS λz=>.cons _ _ (b rs)
def pM(n ys):da w F (strsFrom n ys) (ys.map .str):=ys.rec (motive:=λys=>∀n,da w F (strsFrom n ys) (ys.map .str)) (λz=>.nil) (λy z a n=>.cons (.str y n) (a (n+1))) n
def nu{id:String}(a:Slot "str" name id) (ty:VV (.builtin id)=cD (.type "method_descriptor")):mD C w A (.str x) name (.builtin id) true:=by
 refine⟨λF s e b r pl Q E c=>?_⟩;refine iA r.cV λtk d=>?_;subst d;exact GM.of (.str x tk) (fV _ _ _) a ty GM.noRef (c F s (ic.refl (C.bs b).bh))
def lY:mD C w A (.str x) "lower" (.builtin "str.lower") true:=nu PySem.F.slot_str_lower PySem.F.type_str_lower
def A5:mD C w A (.str x) "upper" (.builtin "str.upper") true:=nu PySem.F.slot_str_upper PySem.F.type_str_upper
def Gu:mD C w A (.str x) "index" (.builtin "str.index") true:=nu PySem.F.slot_str_index PySem.F.type_str_index
def G7:mD C w A (.str x) "split" (.builtin "str.split") true:=nu eU PySem.F.type_str_split
def Nn:mD C w A (.str x) "rsplit" (.builtin "str.rsplit") true:=nu kK PySem.F.type_str_rsplit
def yf:mD C w A (.str x) "join" (.builtin "str.join") true:=nu PySem.F.slot_str_join PySem.F.type_str_join
def IA:mD C w A (.str x) "replace" (.builtin "str.replace") true:=nu PySem.F.slot_str_replace PySem.F.type_str_replace
def kc(h:tooLong (iw x).length=false):cR C w A (.builtin "str.lower") [.str x] [] [] (.str (iw x)):=by
 refine⟨λF s vs us b c e Q E d=>?_⟩;refine c.e1 λz a=>a.eS λtk=>SC.lower h (d _ _ _ (Gr.j4 (C.bs b).bh _) (.str _ _))
def yv(h:tooLong (RM x).length=false):cR C w A (.builtin "str.upper") [.str x] [] [] (.str (RM x)):=by
 refine⟨λF s vs us b c e Q E d=>?_⟩;refine c.e1 λz a=>a.eS λtk=>SC.upper h (d _ _ _ (Gr.j4 (C.bs b).bh _) (.str _ _))
def CI(h:kC x y 0 x.length 1=i::bj):cR C w A (.builtin "str.index") [.str x,.str y] [] [] (.int i):=by
 refine⟨λF s vs us c d g Q E e=>?_⟩;refine d.e2 λz z a b=>a.eS λtk=>b.eS λf=>SC.index h (e _ _ _ (Gr.j4 (C.bs c).bh _) (.int _ _))
def B3(h:(ys.map (·.length)).sum+ys.length*x.length<=16777216):cR C w A (.builtin "str.join") [.str x,.list (ys.map .str)] [] [] (.str (Txt.join x ys)):=by
 refine⟨λF s vs us a f i Q E g=>?_⟩;refine f.e2 λz z b c=>b.eS λtk=>c.eL λz xs n e r=>gy (join_list ⟨_,(C.bs a).bh _ _ e,rfl,n,rfl⟩ (LX r) h λj n d=>g _ _ _ (Gr.j4 (C.bs a).bh _ d) (.str _ _))
def EU(bh:∀a o,F a=ab o->s.heap.get? a=ab o)(e:u≠0)(f:v≠0)(b:u≠v)(c:(y==z)=false)(g:x.length+(x.length+1)*z.length<=16777216)
 (h:∀v F' s',Gr F s F' s'->Rp w F' v (.str (ze x y z))->Q v s'):aP (aO pw w) A (wY (.builtin "str.replace") [.str x t,.str y u,.str z v]) Q E s:=
 gy (SC.replace e f b c g λr r d=>h _ _ _ (Gr.j4 bh _ d) (.str _ _))
def Na(e:(y.length==0)=false)(d:(decide (k < -(2 ^ 63:Int)) ||decide (k>=2 ^ 63))=false)(c:x.length+2<=be) :
 cR C w A (.builtin "str.split") [.str x,.str y,.int k] [] [] (.list ((ke x y k).map .str)):=by
 refine⟨λF s vs us i j p Q E m=>?_⟩;refine j.e3 λz z z f g h=>f.eS λt=>g.eS λu=>h.eI λv=>?_;have bh:=(C.bs i).bh;have n:(ph x (kC x y 0 x.length (wG x k)) y.length).length<=be:=by
  rw[w0];exact XU c (zf x y 0 x.length (wG x k))
 have h':∀(l:List aE) tk,da w F l ((ke x y k).map .str)->s.toks<=tk->Q (.ref s.heap.objs.size) {s with heap:=s.heap.push {cls:=.type "list",data:=.seq l.toArray},toks:=tk}:=λl tk r o=>
  m _ _ _ (oX bh rfl o) (.list dG (r.cC (ee (c8 bh (ah _)))))
 cases a:(decide (x.length<y.length) ||decide (strKind x<strKind y))
 .cases b:(kC x y 0 x.length (wG x k)).isEmpty
  .refine i5 eU (fV _ _ _) fU (oG _ _ _) (meets_str_split_sep_max x y k t u v d a e b #v[Vz c] n) (h' _ _ ?_ (fK _ _));have:ke x y k=ph x (kC x y 0 x.length (wG x k)) y.length:=(if_neg (ne_true_of_eq_false a)).trans (if_neg (ne_true_of_eq_false b));rw[this];exact pM _ _
  .have:ke x y k=[x]:=(if_neg (ne_true_of_eq_false a)).trans (if_pos b);exact i5 eU (fV _ _ _) fU (oG _ _ _) (meets_str_split_max_not_found x y k t u v d a e b) (h' [.str x t] _ (by rw[this];exact .cons (.str _ _) .nil) (ah _))
 .have:ke x y k=[x]:=if_pos a;exact i5 eU (fV _ _ _) fU (oG _ _ _) (meets_str_split_max_cannot_occur x y k t u v d a) (h' [.str x t] _ (by rw[this];exact .cons (.str _ _) .nil) (ah _))
def IW(h:(y.length==0)=false)(d:(decide (k < -(2 ^ 63:Int)) ||decide (k>=2 ^ 63))=false)(c:x.length+2<=be) :
 cR C w A (.builtin "str.rsplit") [.str x,.str y,.int k] [] [] (.list ((kU x y k).map .str)):=by
 refine⟨λF s vs us i j p Q E m=>?_⟩;refine j.e3 λz z z e f g=>e.eS λt=>f.eS λu=>g.eI λv=>?_;have bh:=(C.bs i).bh;have n:(ph x (vQ x y (wG x k)) y.length).length<=be:=by
  rw[w0];exact qaJ c (StrLaws.occR_length_le_len x y (wG x k))
 have h':∀(l:List aE) tk,da w F l ((kU x y k).map .str)->s.toks<=tk->Q (.ref s.heap.objs.size) {s with heap:=s.heap.push {cls:=.type "list",data:=.seq l.toArray},toks:=tk}:=λl tk r o=>
  m _ _ _ (oX bh rfl o) (.list dG (r.cC (ee (c8 bh (ah _)))))
 cases a:(decide (x.length<y.length) ||decide (strKind x<strKind y))
 .cases b:(vQ x y (wG x k)).isEmpty
  .refine i5 kK (fV _ _ _) oH (nQ _ _ _) (meets_str_rsplit_sep_max x y k t u v d a h b #v[Vz c] n) (h' _ _ ?_ (fK _ _));have:kU x y k=ph x (vQ x y (wG x k)) y.length:=(if_neg (ne_true_of_eq_false a)).trans (if_neg (ne_true_of_eq_false b));rw[this];exact pM _ _
  .have:kU x y k=[x]:=(if_neg (ne_true_of_eq_false a)).trans (if_pos b);exact i5 kK (fV _ _ _) oH (nQ _ _ _) (meets_str_rsplit_max_not_found x y k t u v d a h b) (h' [.str x t] _ (by rw[this];exact .cons (.str _ _) .nil) (ah _))
 .have:kU x y k=[x]:=if_pos a;exact i5 kK (fV _ _ _) oH (nQ _ _ _) (meets_str_rsplit_max_cannot_occur x y k t u v d a) (h' [.str x t] _ (by rw[this];exact .cons (.str _ _) .nil) (ah _))
def IN(f:(y.length==0)=false)(c:x.length+2<=be) :
 cR C w A (.builtin "str.split") [.str x,.str y] [] [] (.list ((i6 x y).map .str)):=by
 refine⟨λF s vs us g h m Q E i=>?_⟩;refine h.e2 λz z d e=>d.eS λt=>e.eS λu=>?_;have bh:=(C.bs g).bh;have j:(ph x (kC x y 0 x.length (x.length+1)) y.length).length<=be:=by
  rw[w0];exact XU c (zf x y 0 x.length (x.length+1))
 have h':∀(l:List aE) tk,da w F l ((i6 x y).map .str)->s.toks<=tk->Q (.ref s.heap.objs.size) {s with heap:=s.heap.push {cls:=.type "list",data:=.seq l.toArray},toks:=tk}:=λl tk r k=>
  i _ _ _ (oX bh rfl k) (.list dG (r.cC (ee (c8 bh (ah _)))))
 cases a:(decide (x.length<y.length) ||decide (strKind x<strKind y))
 .cases b:(kC x y 0 x.length (x.length+1)).isEmpty
  .refine i5 eU (fV _ _ _) fU (oI _ _) (meets_str_split_sep x y t u a f b #v[Vz c] j) (h' _ _ ?_ (fK _ _));have:i6 x y=ph x (kC x y 0 x.length (x.length+1)) y.length:=(if_neg (ne_true_of_eq_false a)).trans (if_neg (ne_true_of_eq_false b));rw[this];exact pM _ _
  .have:i6 x y=[x]:=(if_neg (ne_true_of_eq_false a)).trans (if_pos b);exact i5 eU (fV _ _ _) fU (oI _ _) (meets_str_split_not_found x y t u a f b) (h' [.str x t] _ (by rw[this];exact .cons (.str _ _) .nil) (ah _))
 .have:i6 x y=[x]:=if_pos a;exact i5 eU (fV _ _ _) fU (oI _ _) (meets_str_split_cannot_occur x y t u a) (h' [.str x t] _ (by rw[this];exact .cons (.str _ _) .nil) (ah _))
end
def xR{vs:List aE}{ns:List Int}(r:da w F vs (ns.map .int)):IntsAre vs ns:=by
 induction ns generalizing vs with
 |nil=>obtain rfl:=r.nw;exact .nil
 |cons y l b=>
  refine(show da w F vs (.int y::l.map .int) from r).ec λv us a rs=>a.eI λz=>.cons _ _ (b rs)
noncomputable def Kg:List Int->Int
 | []=>0
 |x::xs=>xs.foldl (λa b=>if b<a then b else a) x
def vA(l:List Int):∀x ,(l.foldl (λa b=>if b<a then b else a) x=x\/l.foldl (λa b=>if b<a then b else a) x∈l)/\l.foldl (λa b=>if b<a then b else a) x<=x/\∀a∈l,l.foldl (λa b=>if b<a then b else a) x<=a:=by
 induction l with
 |nil=>intro x;exact⟨.inl rfl,Js _,kq⟩
 |cons y l g=>
  intro x;rw[jt];refine ka (g (if y<x then y else x)) λc f i=>?_;have e:(if y<x then y else x)<=x/\(if y<x then y else x)<=y:=if h:y<x then by rw[if_pos h];exact⟨wX h,Js _⟩else by rw[if_neg h];exact⟨Js _,B4.mp h⟩
  refine⟨?_,Y4 f e.1,λa d=>?_⟩
  .rcases c with c|c
   .rw [c];split
    .exact .inr (.head _)
    .exact .inl rfl
   .exact .inr (.tail _ c)
  .rcases aX.mp d with rfl|d
   .exact Y4 f e.2
   .exact i a d
def OT(d:M∈ns)(e:∀a∈ns,M<=a):M=Kg ns:=by
 cases ns with
 |nil=>cases d
 |cons x xs=>
  refine ka (vA xs x) λc f g=>?_;have h:xs.foldl (λa b=>if b<a then b else a) x<=M:=by
   rcases aX.mp d with rfl|d
   .exact f
   .exact g _ d
  have i:M<=xs.foldl (λa b=>if b<a then b else a) x:=by
   rcases c with c|c
   .rw [c];exact e _ (.head _)
   .exact e _ (.tail _ c)
  exact(VK 0x105103c013c) h i
def uI(bh:∀a o,F a=ab o->s.heap.get? a=ab o)(c:∀b o,s.heap.get? b=ab o->h'.get? b=ab o)(d:s.heap.objs.size<=h'.objs.size)(f:autoParam (s.toks<=n) YL):Gr F s F {s with heap:=h',toks:=n}:=
 ⟨Le.refl _,λz z e=>.inl e,λa o z e=>c a o e,λa o e=>c a o (bh a o e),d,.refl _,rfl,f⟩
def Gv(f:A.handled=aC):cR C w A (.builtin "min") [.int a,.int b] [] [] (.int (if b<a then b else a)):=by
 refine⟨λF s vs us g h m Q E i=>?_⟩;refine h.e2 λz z c d=>c.eI λtk=>d.eI λl=>gC (min_two_ints f λh' t j e k=>i _ F _ (uI (C.bs g).bh j e k) ?_)
 split<;>exact .int _ _
def BB(q:A.handled=aC)(i:0<ns.length):cR C w A (.builtin "min") [.list (ns.map .int)] [] [] (.int (Kg ns)):=by
 refine⟨λF s vs us u d H Q E x=>?_⟩;refine d.e1 λI f=>f.eL λl y n e r=>?_;have bh:=(C.bs u).bh;have hi:=xR r;have k:s.heap.IsList l y.toArray:=⟨_,bh _ _ e,rfl,n,rfl⟩;refine iA hi.allInts.items λxs e=>?_;have b:ns=xs.toList.map (·.1):=by rw[<-hi.numsOf,<-nums_intItems,<-e]
 have c:0<xs.size:=by
  have m:=i;rw[b,af,dZ]at m;exact m
 rw[e]at k;refine gC (min_intList q k c λv h' tk d z g B=>?_);refine iA (intItems_at d) λt h=>?_;subst h;refine dS (argBest_lt (numAt xs) (xs.size-1)) λD G=>x _ F _ (uI bh z g B) ?_;rw[<-OT ?_ λa o=>?_]
 .exact .int _ _
 .rw [b,numAt_eq];exact getD_mem (by rw[af,dZ];exact(bW 0x10113150d103e) c D)
 .rw [b]at o;refine cY (mem_getD o) λj p h=>?_;subst h;rw[af,dZ]at p;rw[<-numAt_eq];exact G j #v[(bW 0x13150010e103e) c p]
def Hf(f:A.handled=aC){ns:List Int}:cR C w A (.builtin "sum") [.list (ns.map .int)] [] [] (.int ns.sum):=by
 refine⟨λF s vs us g h o Q E i=>?_⟩;refine h.e1 λz a=>a.eL λl j n e r=>?_;have bh:=(C.bs g).bh;have hi:=xR r;have b:s.heap.IsList l j.toArray:=⟨_,bh _ _ e,rfl,n,rfl⟩;refine iA hi.allInts.items λxs e=>?_;have c:ns=xs.toList.map (·.1):=by rw[<-hi.numsOf,<-nums_intItems,<-e]
 rw[e]at b;refine gC (sum_intListG f b λh' tk p k d m=>?_);rw[preSum_eq,jg (by simp),<-c];exact i _ F _ (uI bh k d m) (.int _ _)
noncomputable def Tk.bI(K L:Tk):Tk:=⟨K.tk++L.tk,K.gk++L.gk,λF s=>K.I F s/\L.I F s/\∀a∈K.tk,a∉L.tk,λx a b c d e=>⟨K.st x.1 a b (λy f=>c y (ac _ f)) (λi hi=>d i (ac _ hi)) e,L.st x.2.1 a b (λy f=>c y (ag _ f)) (λi hi=>d i (ag _ hi)) e,x.2.2⟩⟩
structure bU(K K' L L':Tk):Prop where
 sub:∀a∈L.tk,a∈K.tk
 tk:K'.tk=K.tk
 gk:K'.gk=K.gk
 get:∀F s,K.I F s->L.I F s
 put:∀(F:Fz) (s s':aH),K.I F s->(∀a o,F a=ab o->s'.heap.get? a=ab o)->(∀b o,b∉L.tk->s.heap.get? b=ab o->s'.heap.get? b=ab o)->(∀(i:Nat) (x:zH),s.gens[i]?=ab x->s'.gens[i]?=ab x)->s.toks<=s'.toks->L'.I F s'->K'.I F s'
def bU.here(e:L.tk=L'.tk)(e2:autoParam (L.gk=L'.gk) ou):bU L L' L L':=⟨λz h=>h,e.symm,e2.symm,λz z h=>h,λz z z z z z z z h=>h⟩
def bU.left{K:Tk}(f:bU K K' L L'):bU (K.bI M) (K'.bI M) L L':=
 ⟨λa h=>ac _ (f.sub a h),by show _++_=_++_;rw[f.tk],by show _++_=_++_;rw[f.gk],λF h x=>f.get F h x.1,λF h h' x y z g t u=>
  ⟨f.put F h h' x.1 y z g t u,M.st x.2.1 (Le.refl _) y (λa b o e=>z a o (λq=>x.2.2 a (f.sub a q) b) e) (λi w=>g i) t,by rw[f.tk];exact x.2.2⟩⟩
def bU.right{K:Tk}{M:Tk}(f:bU K K' L L'):bU (M.bI K) (M.bI K') L L':=
 ⟨λa h=>ag _ (f.sub a h),by show _++_=_++_;rw[f.tk],by show _++_=_++_;rw[f.gk],λF h x=>f.get F h x.2.1,λF h h' x y z g t u=>
  ⟨M.st x.1 (Le.refl _) y (λa b o e=>z a o (λq=>x.2.2 a b (f.sub a q)) e) (λi w=>g i) t,f.put F h h' x.2.1 y z g t u,by rw[f.tk];exact x.2.2⟩⟩
def gM(X:Fx)(K:Tk):Prop:=∀a∈K.tk,X.s0.heap.objs.size<=a\/a∈X.md
def St.bI{K:Tk}(b:St B w X loc (K.and L) F s)(h:∀a∈L.tk,a∉K.tk):St B w X loc (K.bI L) F s:=b.nM (λz h=>h) λx=>⟨x.1,x.2,λa c d=>h a d c⟩
def St.Sn{K:Tk}(a:St B w X loc (K.bI L) F s):St B w X loc (K.and L) F s:=a.nM (λz h=>h) λx=>⟨x.1,x.2.1⟩
def St.DE{K:Tk}(c:St B w X loc K F s)(f:bU K K' L L')(i:gM X K)(h:cN a s.heap h')(d:a∈L.tk)(j:L'.I F {s with heap:=h'}):St B w X loc K' F {s with heap:=h'}:=by
 have n1:=(c.apart a (f.sub a d)).1;have bh:∀b o,F b=ab o->h'.get? b=ab o:=λb o e=>(h.2 b (λq=>by rw[q,n1]at e;cases e)).trans (c.bs.bh b o e);exact c.uv h (i a (f.sub a d)) (f.sub a d) (f.put F s {s with heap:=h'} c.cV bh (λb o g e=>(h.2 b λq=>g (q▸d)).trans e) (λz z e=>e) (ah _) j) λb g=>by rw[f.tk]at g;exact g
structure n8(B:gn)(w:bC)(X:Fx)(loc:M2)(K:Tk)(A:cO)(e:bv)(R:Tk->T->Prop):Prop where
 run:∀F s,St B w X loc K F s->∀(Q:Lx0) (E:Lx0),(∀v t K' F' s',R K' t->gM X K'->St B w X loc K' F' s'->Le F F'->Rp w F' v t->Q v s')->aP (aO pw w) A (dp e X.ax) Q E s
structure d5(B:gn)(w:bC)(K:Tk)(A:cO)(f:aE)(ts:List T)(ns:List bT)(ks:List T)(R:Tk->T->Prop):Prop where
 run:∀F s vs us,Bs B F s->K.I F s->(∀a∈K.tk,F a=aC/\a<s.heap.objs.size)->da w F vs ts->da w F us ks->∀(Q:Lx0) (E:Lx0),
  (∀v t K' F' s',R K' t->ic K.tk F s F' s'->K'.I F' s'->(∀a∈K'.tk,F' a=aC/\a<s'.heap.objs.size/\(a∈K.tk\/s.heap.objs.size<=a))->Rp w F' v t->Q v s')->aP (aO pw w) A (wY f vs (ns.zip us)) Q E s
def St.mK{K:Tk}(b:St B w X loc K F s){K₁:Tk}(j:gM X K)(g:ic K₁.tk F s F' s')(d:∀a∈K₁.tk,a∈K.tk)(t:K₂.I F' s')
 (k:∀a∈K₂.tk,a∈K.tk\/(F' a=aC/\a<s'.heap.objs.size/\s.heap.objs.size<=a)):St B w X loc K₂ F' s'/\gM X K₂:=by
 refine⟨⟨b.bs.gr g,⟨b.d6.le.trans g.le,λa o e=>(g.new a o e).elim (b.d6.new a o) λl=>.inr (aA b.d6.size l),λa o f e=>?_,g.bh,aA b.d6.size g.size,b.d6.gens.trans g.gens,g.os.trans b.d6.os,aA b.d6.toks g.toks⟩,
  b.frame.gr g (λq=>(b.apart _ (d _ q)).2.2.1 rfl) (λx c e q=>(b.apart _ (d _ q)).2.2.2 x c e rfl),b.oy,b.iY,b.iZ,t,λa f=>?_⟩,λa f=>?_⟩
 .refine g.keep a o (λq=>?_) (b.d6.keep a o f e);rcases j a (d a q)with l|l
  .exact absurd (aS e) (aV.mpr l)
  .exact f l
 .rcases k a f with h | ⟨n,p,i⟩
  .refine ka (b.apart a h) λu r v=>⟨fY g u r,aT r g.size,v⟩
  .refine⟨n,p,λq=>?_,λx c e q=>?_⟩
   .refine cY b.frame.ns λm y C=>absurd y.lt (aV.mpr (q▸i))
   .refine cY (b.frame.cell x c e) λA z C=>absurd z.lt (aV.mpr (q▸i))
 .rcases k a f with h | ⟨n,p,i⟩
  .exact j a h
  .exact .inl (aA b.d6.size i)
def rn{K:Tk}(l:gM X K)(m:Ev (St.pre B w X loc K) w A X.ax func (.val f))
 (c:si (St.pre B w X loc K) w A pos X.ax args d ts ns ks) (n:bK B w f) (o:d5 B w K A f ts ns ks R)
 (p:dp (.Call func args d pos) X.ax=(do dB pos (<-dp func X.ax) [] (dc pos (br args X.ax)) (bR pos (bk d X.ax)))):n8 B w X loc K A (.Call func args d pos) R:=by
 refine⟨λF s i Q E q=>?_⟩;rw[p];refine aa (m.run F s i _ _ λv u x g r=>?_);refine r.eV ?_;have e:=i.gr g;refine dC c.plain (λh k=>n.ry h k) (c.run f u x e _ _ λvs us y z g2 r C=>⟨(e.gr g2).bs.keep,?_⟩);have b:=e.gr g2;refine o.run y z vs us b.bs b.cV (λa c=>⟨(b.apart a c).1,(b.apart a c).2.1⟩) r C Q E λv t K' D G H g3 I j J=>?_;obtain⟨L,M⟩:=b.mK l g3 (λN h=>h) I λa c=>PU (j a c);exact q v t K' D G H M L ((g.le.trans g2.le).trans g3.le) J
def cP{K:Tk}(q:gM X K)(u:Ev (St.pre B w X loc K) w A X.ax o to)(x:mD (St.pre B w X loc K) w A to name f j)
 (c:si (St.pre B w X loc K) w A pos X.ax args d ts ns ks) (y:bK B w f) (z:d5 B w K A f ((if j then [to]else [])++ts) ns ks R)
 (C:dp (.Call (.Attribute o name e) args d pos) X.ax=(do
  let m <-dp o X.ax
  ej e.atName
  let (f,first) <-fL [m] (ib m name pl)
  dB pos f first (dc pos (br args X.ax)) (bR pos (bk d X.ax)))):n8 B w X loc K A (.Call (.Attribute o name e) args d pos) R:=by
 refine⟨λF s l Q E D=>gX (u.run F s l _ _ λv G H g r=>x.run G H v (l.gr g) r pl _ _ λI J g2=>?_) C⟩;have i:=(l.gr g).gr g2;refine dC c.plain (λh k=>y.ry h k) (c.run f I J i _ _ λvs us n L g3 M N=>⟨(i.gr g3).bs.keep,?_⟩);have b:=i.gr g3;have O:da w n (if j then [v]else []) (if j then [to]else []):=by
  cases j with
  |true=>exact .cons ((r.cC g2.le).cC g3.le) .nil
  |false=>exact .nil
 refine z.run n L _ us b.bs b.cV (λa c=>⟨(b.apart a c).1,(b.apart a c).2.1⟩) (O.append M) N Q E λv t K' P S U g4 V p W=>?_;obtain⟨Y,Z⟩:=b.mK q g4 (λ_ h=>h) V λa c=>PU (p a c);exact D v t K' P S U Z Y (((g.le.trans g2.le).trans g3.le).trans g4.le) W
noncomputable def Z2(g:List T->Bool)(t:T):Bool:=T.casesOn t true (λz=>true) (λz=>true) (λz=>true) g (λz=>false) (λz=>false) (λz z=>false) (λz z z=>false) (λz z z=>false) (λz z=>true) (λz z=>true) (λz=>true) (λz=>false)
noncomputable def T.nl(n:Nat):T->Bool:=lT (Z2 λz=>false) (λz f=>Z2 λts=>ts.all f) n
def NlT(t:T):Prop:=∃g,Z2 g t=true/\∀ts,g ts=true->∃n,ts.all (T.nl n)=true
def YJ{n:Nat}{t:T}(h:T.nl n t=true):NlT t:=by
 cases n with
 |zero=>exact⟨_,h,λz=>bff⟩
 |succ m=>exact⟨_,h,λz h=>⟨m,h⟩⟩
def Am{t:T}{p:Prop}(e:∀g,Z2 g t=false)(k:NlT t):p:=k.elim λg h=>bff ((e g).symm.trans h.1)
noncomputable def jH(F:Fz)(a:bu):Fz:=λb=>if b=a then aC else F b
def Ir{F:Fz}{a b:bu}(h:b≠a):jH F a b=F b:=if_neg h
def OO{w:bC}{F:Fz}{a:bu}{o:mV}(d:F a=ab o)(c:o.cls=.type "list") {v:aE} {t:T} (r:Rp w F v t):NlT t->Rp w (jH F a) v t:=
 Rp.rec (motive_2:=λvs ts z=>(∃n,ts.all (T.nl n)=true)->da w (jH F a) vs ts) (motive_3:=λz z z=>True)
  (λz=>.none) (λb z=>.bool b) (λi t z=>.int i t) (λx t z=>.str x t)
  (fun {b} z z z e z f k=>.qb ((Ir λq:b=a=>by rw[q,d]at e;rw[bt e]at c;injection c with h;exact absurd h #v[_]).trans e) (f (k.elim λz h=>h.2 _ h.1)))
  (λz z z=>Am λz=>rfl) (λz z z z z=>Am λz=>rfl) (λz z z z z=>Am λz=>rfl) (λz=>Am λz=>rfl) (λz z z z=>Am λz=>rfl)
  (λa b z=>.tH a b) (λa b z=>.Ab a b) (λv z=>.val v) (λz z=>Am λz=>rfl)
  (λz=>.nil) (λz z a b k=>k.elim λn e=>by rw[mO,bc]at e;exact .cons (a (YJ e.1)) (b ⟨n,e.2⟩)) trivial (λz z z z=>trivial) r
def Rp.drop{w:bC}{F:Fz}{a:bu}{o:mV}(b:F a=ab o)(c:o.cls=.type "list") (n:Nat) {v:aE} {t:T} (r:Rp w F v t) (h:T.nl n t=true):Rp w (jH F a) v t:=OO b c r (YJ h)
def Ar{w:bC}{F G:Fz}{n:Nat}(a:∀{v:aE} {t:T},Rp w F v t->T.nl n t=true->Rp w G v t){vs:List aE}{ts:List T}(r:da w F vs ts):ts.all (T.nl n)=true->da w G vs ts:=
 da.ind (P:=λvs ts=>ts.all (T.nl n)=true->da w G vs ts) (λz=>.nil) (λz z z z r z k e=>by rw[mO,bc]at e;exact .cons (a r e.1) (k e.2)) ts r
def St.T8{K:Tk}(f:St B w X loc K F s)(k:gM X K)(g:Gr F s F' s')(r:Rp w F' (.ref a) (.list ts))(h:s.heap.objs.size<=a)(j:ts.all (T.nl n)=true):St B w X loc (K.bI (Tk.cu w a ts)) (jH F' a) s'/\gM X (K.bI (Tk.cu w a ts)):=by
 have l:Gr F s (jH F' a) s':=⟨λb o e=>by
  delta jH;rw[if_neg λq=>absurd (aS (f.bs.bh b o e)) (by rw[q];exact aV.mpr h)];exact g.le b o e,λb o e=>by delta jH at e;split at e;cases e;exact g.new b o e,g.keep,λb o e=>by delta jH at e;split at e;cases e;exact g.bh b o e,g.size,g.gens,g.os,g.toks⟩
 have i:=f.gr l;obtain⟨z,vs,m,⟨⟩,e,r⟩:=r.cV;have hd:jH F' a a=aC:=by delta jH;rw[if_pos rfl]
 refine⟨i.add ⟨i.cV,⟨vs,m,g.bh _ _ e,Ar (Rp.drop e rfl n) r j⟩,λb d q=>?_⟩ λb d=>?_,λb d=>?_⟩
 .exact absurd (f.apart b d).2.1 (by rw (config:={}) [aB.mp q];exact aV.mpr h)
 .rcases ao.mp d with d|d
  .exact .inl d
  .cases aB.mp d;refine .inr ⟨hd,aS (g.bh _ _ e),λq=>?_,λx c e q=>?_⟩
   .refine cY f.frame.ns λm j z=>absurd j.lt (aV.mpr (q▸h))
   .refine cY (f.frame.cell x c e) λt p z=>absurd p.lt (aV.mpr (q▸h))
 .rcases ao.mp d with d|d
  .exact k b d
  .cases aB.mp d;exact .inl (aA f.d6.size h)
def St.ND{K:Tk}(d:St B w X loc (K.bI (Tk.cu w a ts)) F s)(l:gM X (K.bI (Tk.cu w a ts)))(p:X.s0.heap.objs.size<=a):∃F',St B w X loc K F' s/\gM X K/\Le F F'/\Rp w F' (.ref a) (.list ts):=by
 refine m8 d.cV.2.1 λvs n e r=>sE (d.apart a (ag _ (.head _))) λu O y A=>?_;have f:Le F (ie F a {cls:=.type "list",data:=.seq vs.toArray n}):=ee u;have bh:∀b o,ie F a {cls:=.type "list",data:=.seq vs.toArray n} b=ab o->s.heap.get? b=ab o:=λb o q=>by
  delta ie at q
  split at q
  .rename_i z;subst z;cases q;exact e
  .exact d.bs.bh b o q
 refine⟨_,⟨⟨λb o q=>f b o (d.bs.fj b o q),bh⟩,⟨d.d6.le.trans f,λb o q=>?_,d.d6.keep,bh,d.d6.size,d.d6.gens,d.d6.os,d.d6.toks⟩,?_,d.oy,d.iY,d.iZ,K.st d.cV.1 f bh (λ_ _ _ q=>q) (λ_ _ _ q=>q) (ah _),λb g=>?_⟩,λb g=>l b (ac _ g),f,.list dG (r.cC f)⟩
 .unfold ie at q
  split at q
  .rename_i z;subst z;exact .inr p
  .exact d.d6.new b o q
 .obtain⟨⟨m,C,D⟩,E,G,H,I,J⟩:=d.frame;refine⟨⟨m,C,λx t q k=>cY (D x t q k) λv h i=>⟨v,h,i.cC f⟩⟩,λx c q=>cY (E x c q) λL h i=>⟨L,h,λt j k=>cY (i t j k) λv M N=>⟨v,M,N.cC f⟩⟩,G,H,?_,λx c q=>?_⟩
  .delta ie;rw[if_neg λz=>y z.symm];exact I
  .delta ie;rw[if_neg λz=>A x c q z.symm];exact J x c q
 .refine ka (d.apart b (ac _ g)) λh i j=>⟨?_,i,j⟩;delta ie;rw[if_neg λz=>d.cV.2.2 b g (by rw[z];exact .head _)];exact h
def g8.AX(f:g8 w F ax loc h)(e:loc.lookup x=ab (.val v))(r:Rp w F v t):g8 w F ax (dz x t loc) h:=by
 obtain⟨⟨m,i,j⟩,l,n,o,s,A⟩:=f;have key:∀{y u} {p:aE->Prop},(dz x t loc).lookup y=ab u->(∀u,loc.lookup y=ab u->∃a,p a/\Rp w F a u)->∃a,p a/\Rp w F a u:=fun {y u p} q g=>by
  rw[ij]at q;by_cases z:y=x
  .rw [if_pos z]at q;cases q;subst z;exact cY (g _ e) λa b d=>⟨a,b,d.cV▸r⟩
  .rw [if_neg z]at q;exact g u q
 exact⟨⟨m,i,λy u q k=>key q λu q=>j y u q k⟩,λy c q=>cY (l y c q) λB b d=>⟨B,b,λu C k=>key C λu q=>d u q k⟩,n,o,s,A⟩
def St.AX{K:Tk}(a:St B w X loc K F s)(b:loc.lookup x=ab (.val v))(r:Rp w F v t):St B w X (dz x t loc) K F s:=
 ⟨a.bs,a.d6,a.frame.AX b r,a.oy,a.iY,a.iZ,a.cV,a.apart⟩
structure JU(C:fv B)(w:bC)(A:cO)(ax:uS)(e:bv)(ts:List T):Prop where
 run:∀F s,C.P F s->∀(Q:Lx0) (E:Lx0),(∀a F' s',Gr F s F' s'->Rp w F' (.ref a) (.list ts)->s.heap.objs.size<=a->Q (.ref a) s')->aP (aO pw w) A (dp e ax) Q E s
def iD(h:Oy C w A pos ax b ts)(c:ts.length<=be):JU C w A ax (.List b pos) ts:=by
 refine⟨λF s a Q E d=>?_⟩;refine FR (h.run F s a _ _ λvs e f g r=>⟨by rw[r.length];exact c,?_⟩);have bh:=(C.bs (C.st a g)).bh;exact d _ _ _ (g.trans (lk bh rfl)) (.list dG (r.cC (ee (c8 bh (ah _))))) g.size
def sv{K:Tk}(c:St B w X loc K F s)(f:gM X K)(h:JU (St.pre B w X loc K) w A X.ax b ts)(i:ts.all (T.nl n)=true)
 (j:KO X x) (l:cD false=cf b (ab (.Name x d)) pos.line X.ax)
 (k:∀a F' s',X.s0.heap.objs.size<=a->gM X (K.bI (Tk.cu w a ts))->St B w X (dz x (.val (.ref a)) loc) (K.bI (Tk.cu w a ts)) F' s'->Go w A bj X.ax Q s'):Go w A (.Assign [.Name x d] b pos::bj) X.ax Q s:=by
 refine⟨bF (iO (h.run F s c _ _ λa t u g r e=>?_) l.symm)⟩;refine dS (c.T8 f g r e i) λm o=>jM m (.val _) j λp q=>(k a _ p (aA c.d6.size e) o q).run
def Me{K:Tk}(b:St B w X loc (K.bI (Tk.cu w a ts)) F s)(c:gM X (K.bI (Tk.cu w a ts)))(d:X.s0.heap.objs.size<=a)(e:loc.lookup x=ab (.val (.ref a)))
 (k:∀F',gM X K->St B w X (dz x (.list ts) loc) K F' s->Go w A body X.ax Q s):Go w A body X.ax Q s:=by
 refine Hl (b.ND c d) λF' f g i h=>k F' g (f.AX e h)
set_option backward.match.sparseCases true
def rf{K:Tk}(f:St B w X loc K F s)(g:n8 B w X loc K A e R)(h:∀K t,R K t->∀F a,¬Rp w F (.ref a) t)(hi:false=jy X.ax)(i:cD false=cf e aC pos.line X.ax)
 (k:∀K' t F' s',R K' t->gM X K'->St B w X loc K' F' s'->Go w A bj X.ax Q s'):Go w A (.Expr e pos::bj) X.ax Q s:=by
 refine⟨bF (wpAny_Expr (g.run F s f _ _ λv t b c j d l m z r=>?_) hi.symm i.symm)⟩;cases v with
 |ref a=>exact absurd r (h b t d c a)
 |_=>exact(k b t c j d l m).run
def El{K:Tk}(c:St B w X loc K F s)(d:n8 B w X loc K A a R)
 (e:KO X x) (f:cD false=cf a (ab (.Name x b)) pos.line X.ax)
 (k:∀K' t F' s',R K' t->gM X K'->St B w X (dz x t loc) K' F' s'->Go w A bj X.ax Q s'):Go w A (.Assign [.Name x b] a pos::bj) X.ax Q s:=by
 refine⟨bF (iO (d.run F s c _ _ λv t g h o i j l z r=>?_) f.symm)⟩;exact jM l r e λm n=>(k g t h m i j n).run
inductive NxS(B:gn)(w:bC)(X:Fx)(P:M2->Tk->Prop)(L:Tk)(s:aH):Prop
 |mk (loc:M2) (K:Tk) (F:Fz) (h:P loc K) (k:St B w X loc (K.bI L) F s):NxS B w X P L s
abbrev qS(B:gn)(w:bC)(X:Fx)(P:M2->Tk->Prop)(L:Tk)(R:aH->Prop)(Q:nP->aH->Prop)(fl:nP)(s:aH):Prop:=match fl with
 | .next | .cont=>NxS B w X P L s
 | .brk=>R s
 | .ret v=>Q (.ret v) s
def NC{K:Tk}{f:Nat->M2->M2}(Inv:Nat->M2->Tk->Prop)
 (r:St B w X loc K F s) (p:gM X K) (hi:pO (St.pre B w X loc K) w A X.ax iter target ts []) (e:∀i loc' K',Inv i loc' K'->K'.tk=K.tk/\K'.gk=K.gk) (u:∀i t,ts[i]?=ab t->zu B w A X target t (f i)) (y:Inv 0 loc K)
 (oD:∀L i loc' K' F' s',i<ts.length->Inv i loc' K'->gM X (K'.bI L)->St B w X (f i loc') (K'.bI L) F' s'->
  Go w A body X.ax (qS B w X (Inv (i+1)) L (Go w A bj X.ax Q) Q) s')
 (jO:∀loc' K' F' s',Inv ts.length loc' K'->gM X K'->St B w X loc' K' F' s'->Go w A d X.ax (qE (Go w A bj X.ax Q) Q) s')
 (z:autoParam (∀x,bw iter X.ax x=cD x) y2):Go w A (.For target iter body d pos::bj) X.ax Q s:=by
 refine Md Inv r hi (λ_ h=>.inl h) kq e u y (λL i loc' K' F' s' hd C c j=>?_) (λloc' K' F' s' c j=>jO loc' K' F' s' c (λa b=>p a ((e _ _ _ c).1▸b)) j) z;have g:∀a∈L.tk,a∉K.tk/\X.s0.heap.objs.size<=a:=λa b=>(hd a b).elim (λh=>nomatch h) id;refine⟨cj (oD L i loc' K' F' s' C c (λa b=>?_) (j.bI λa b q=>(g a b).1 ((e _ _ _ c).1▸q))).run (λfl D q=>?_) λ_ _ q=>q⟩
 .rcases ao.mp b with b|b
  .exact p a ((e _ _ _ c).1▸b)
  .exact .inl (g a b).2
 .cases fl with
  |next=>obtain⟨l,k,m,n,o⟩:=q;exact⟨l,k,m,n,o.Sn⟩
  |cont=>obtain⟨l,k,m,n,o⟩:=q;exact⟨l,k,m,n,o.Sn⟩
  |brk=>exact q
  |ret v=>exact q
inductive NxW(B:gn)(w:bC)(X:Fx)(P:Nat->M2->Tk->Prop)(n:Nat)(s:aH):Prop
 |mk (m:Nat) (loc:M2) (K:Tk) (F:Fz) (l:m<n) (h:P m loc K) (o:gM X K) (k:St B w X loc K F s):NxW B w X P n s
abbrev qW(B:gn)(w:bC)(X:Fx)(P:Nat->M2->Tk->Prop)(n:Nat)(R:aH->Prop)(Q:nP->aH->Prop)(fl:nP)(s:aH):Prop:=match fl with
 | .next | .cont=>NxW B w X P n s
 | .brk=>R s
 | .ret v=>Q (.ret v) s
def Rh{K:Tk}(Inv)(a)
 (C:St B w X loc K F s) (D:gM X K) (E:Inv a loc K)
 (oD:∀n loc' K' F' s',Inv n loc' K'->gM X K'->St B w X loc' K' F' s'->∃b,wS (St.pre B w X loc' K') w A X.ax f b/\
  (b=true->∀F' s',St B w X loc' K' F' s'->Go w A body X.ax (qW B w X Inv n (Go w A bj X.ax Q) Q) s')/\
  (b=false->∀F' s',St B w X loc' K' F' s'->Go w A c X.ax (qE (Go w A bj X.ax Q) Q) s')) :
 Go w A (.While f body c pos::bj) X.ax Q s:=by
 refine⟨bF (wpAny_While (codeAny_whileLoop (λn s'=>∃loc' K' F',Inv n loc' K'/\gM X K'/\St B w X loc' K' F' s') ?_ a ⟨loc,K,F,E,D,C⟩))⟩;intro n s' x;refine DZ x λloc' K' F' G H d=>mB (oD n loc' K' F' s' G H d) λb e I J=>e.run F' s' d _ _ λL y z g r=>?_;subst r;cases L with
 |true=>
  rw[if_pos rfl];refine cj (I rfl y z (d.gr g)).run (λfl i q=>?_) λ_ _ h=>h.elim;cases fl with
  |next=>obtain⟨m,l,j,k,o,p,t,u⟩:=q;exact⟨m,o,l,j,k,p,t,u⟩
  |cont=>obtain⟨m,l,j,k,o,p,t,u⟩:=q;exact⟨m,o,l,j,k,p,t,u⟩
  |brk=>exact q.run
  |ret v=>exact q
 |false=>
  rw[if_neg #v[_]];refine cj (J rfl y z (d.gr g)).run (λfl i q=>?_) λ_ _ h=>h.elim;cases fl with
  |next=>exact q.run
  |_=>exact q
structure qc6(C:fv B)(w:bC)(A:cO)(f:aE->aE->jj aE)(a b c:T):Prop where
 run:∀va vb F s,C.P F s->Rp w F va a->Rp w F vb b->∀(Q:Lx0) (E:Lx0),(∀v F' s',Gr F s F' s'->Rp w F' v c->Q v s')->aP (aO pw w) A (f va vb) Q E s
def P1{C:fv B}(k:∀F s,C.P F s->g8 w F ax loc s.heap)(h:loc.lookup x=ab t)(i:ax.scope.kind=.function)
 (a:ax.kindOf x=ab .local\/ax.kindOf x=ab .cell):Pu C w A (loadName ax x) λF v=>Rp w F v t:=by
 refine⟨λF s b Q E j=>?_⟩;have f:=k F s b;rcases a with a|a
 .refine cY f.ns λm l n=>cY (n x t h a) λv d g=>kz i a l d (j v F s (ic.refl (C.bs b).bh) g)
 .refine iA (f.has x (.inl a)) λc e=>cY (f.cell x c e) λp d g=>cY (g t h (.inl a)) λv o r=>?_;subst o;exact SW i a e d (j v F s (ic.refl (C.bs b).bh) r)
def XS{K:Tk}(a:St B w X loc K F s)(f:loc.lookup x=ab t)(g:Ev (St.pre B w X loc K) w A X.ax b u)(d:mz (St.pre B w X loc K) w A (JI i) t u r)
 (e:KO X x) (k:∀F' s',St B w X (dz x r loc) K F' s'->Go w A bj X.ax Q s'):Go w A (.AugAssign (.Name x px) i b pos::bj) X.ax Q s:=by
 refine⟨bF (wpAny_AugAssign_Name ((P1 (C:=St.pre B w X loc K) nf f a.oy (e.imp id λh=>h.1)).run F s a _ _ λj l m c n=>g.run l m (a.gr c) _ _ λo p q g2 v=>d.run j o p q ((a.gr c).gr g2) (n.cC g2.le) v _ _ λG y H g3 z=>?_))⟩;exact jM (((a.gr c).gr g2).gr g3) z e λD E=>(k y D E).run
def P2:mz C w A (JI .Add) (.int a) (.int b) (.int (a+b)):=by
 refine⟨λg h F s c d e Q E f=>?_⟩;refine d.eI λz=>?_;refine e.eI λz=>?_;with_reducible refine P.iadd_int ?_;exact f _ _ _ (Gr.j4 (C.bs c).bh _) (.int _ _)
def QM:mz C w A (JI .Sub) (.int a) (.int b) (.int (a-b)):=by
 refine⟨λg h F s c d e Q E f=>?_⟩;refine d.eI λz=>?_;refine e.eI λz=>?_;with_reducible refine P.isub_int ?_;exact f _ _ _ (Gr.j4 (C.bs c).bh _) (.int _ _)
def TB(bh:∀a o,F a=ab o->s.heap.get? a=ab o)(h:HP s.heap.objs.size s.heap h')(c:s.heap.objs.size<=h'.objs.size):Gr F s F {s with heap:=h'}:=by
 have d:∀b o,s.heap.get? b=ab o->h'.get? b=ab o:=λb o e=>h b o (cw (aS e)) e;exact⟨Le.refl _,λz z e=>.inl e,λb o z e=>d b o e,λb o e=>d b o (bh b o e),c,.refl _,rfl,ah _⟩
def FG:Jt (t::ts) (x::xs)=(do fL xs (t x);Jt ts xs):=rfl
structure xI(B:gn)(w:bC)(A:cO)(X:Fx)(es:List bv)(ts:List T)(f:M2->M2):Prop where
 len:(yT es X.ax).length=ts.length/\(yT es X.ax).findIdx? (·.1)=aC
 run:∀loc K F s vs Q E,St B w X loc K F s->da w F vs ts->
  (∀F' s',Le F F'->St B w X (f loc) K F' s'->Q () s')->aP (aO pw w) A (Jt ((yT es X.ax).map (·.2)) vs) Q E s
def Bk:xI B w A X [] [] id:=⟨⟨rfl,rfl⟩,λz z F s z z z a r k=>r.e0 (au (k F s (Le.refl _) a))⟩
def nB{f g:M2->M2}(b:zu B w A X e t f)(q:yT (e::a) X.ax=(false,lU e X.ax)::yT a X.ax)(h:xI B w A X a ts g):xI B w A X (e::a) (t::ts) (λl=>g (f l)):=by
 refine⟨by rw[q];exact⟨congrArg (· + 1) h.len.1,by rw[List.findIdx?_cons,h.len.2];rfl⟩,λloc K F s vs Q E c r k=>?_⟩;refine r.ec λz z r rs=>?_;rw[q,bN,FG];exact aa (bq (b.run loc K F s _ _ _ c r λd i l1 j=>h.run _ K d i _ Q E j (rs.cC l1) λm n o p=>k m n (l1.trans o) p))
def ET(a:KO X x)(b:KO X y):xI B w A X [.Name x px,.Name y c] [t,u] (λl=>dz y u (dz x t l)):=nB (f:=dz x t) (g:=dz y u) (hO a) rfl (nB (f:=dz y u) (g:=id) (hO b) rfl Bk)
def qbg(a:KO X x)(b:KO X y)(c:KO X z):xI B w A X [.Name x px,.Name y d,.Name z e] [t,u,v] (λl=>dz z v (dz y u (dz x t l))):=nB (f:=dz x t) (g:=λl=>dz z v (dz y u l)) (hO a) rfl (nB (f:=dz y u) (g:=dz z v) (hO b) rfl (nB (f:=dz z v) (g:=id) (hO c) rfl Bk))
def nX(d:A.handled=aC)(h:xI B w A X g ts f):zu B w A X (.Tuple g k pos) (.qb ts) f:=by
 refine⟨λloc K F s v Q E b r k=>?_⟩;refine r.eT λa vs n e r=>?_;have bh:=b.bs.bh;rw[Y5];refine aa (cz ?_);delta unpack;rw[h.len.1,h.len.2,show ts.length=vs.toArray.size by rw[aL,r.length]];refine aa (bq (i4 (wpAny_unpackItems_tuple d ⟨_,bh _ _ e,rfl,n,rfl⟩ λh' i c=>?_)));exact h.run loc K F _ vs Q E (b.gr (TB bh i c)) r k
def Fo(W:Walks pw w A I fp wr n P S):∀k i s Q E,i+k<=n->S i s.heap->
 (∀vs h' tk,vs.length=k->(∀j v,vs[j]?=ab v->P (i+j) v)->S (i+k) h'->(∀b o,b∉wr->s.heap.get? b=ab o->h'.get? b=ab o)->Q vs {s with heap:=h',toks:=tk})->aP (aO pw w) A (draw (.ref I) k) Q E s:=ig (λi s Q E C c d=>au (d [] s.heap s.toks rfl (λj v e=>by simp at e) c λC C C e=>e)) λk p i s Q E a c d=>by
 refine aa (W.item i s _ _ #v[(dO 0x10112604d) a] c λv B z q f r=>?_);refine aa (bq (p (i+1) _ _ _ #v[(dO Sv1) a] f λvs t g x y h l=>au ?_));refine d (v::vs) t g (by rw[cq,x]) (λj u e=>?_) (by rw[show i+(k+1)=i+1+k by exact bW Sv9];exact h) λb o m e=>l b o m (r b o m e);cases j with
 |zero=>simp at e;subst e;exact q
 |succ j=>rw[List.getElem?_cons_succ]at e;rw[show i+(j+1)=i+1+j by exact bW Sv9];exact y j u e
def vk(m:A.handled=aC)(a:s.heap.IsList l items)
 (n:∀h' tk,(∀b o,s.heap.get? b=ab o->h'.get? b=ab o)->Q items.toList {s with heap:=h',toks:=tk}):aP (aO pw w) A (unpackItems (.ref l) items.size aC) Q E s:=by
 have f:l≠s.heap.objs.size:=by refine cY a λo p z=>?_;exact cw (aS p)
 have W:=Jn (prog:=pw) (w:=w) m s.heap.objs.size l f items;have up:∀{h':gn},(∀b o,b∉[s.heap.objs.size]->(s.heap.push {cls:=.type "list_iterator",data:=.fields #[.ref l,.int 0 0]}).get? b=ab o->h'.get? b=ab o)->∀b o,s.heap.get? b=ab o->h'.get? b=ab o:=
  λk b o e=>k b o (λq=>absurd (aS e) (by rw[aB.mp q];exact cp _)) (aG _ e)
 refine aa <|aa (DV a.typeIs PySem.F.slot_list_iter.lookup ?_);refine au ?_;refine AU ck ?_;refine aa (bq (qD a ?_));refine aa (bq (Fo W items.size 0 _ _ _ #v[bO 0x340] ⟨⟨_,aM _ rfl,rfl,rfl⟩,a.at λo e=>aG _ e⟩ λvs y x d r c t=>?_));have e:vs=items.toList:=by
  apply NL;intro j;cases q:vs[j]? with
  |none=>rw[oL]at q;symm;rw[oL,dZ];exact(dO 0x10012d02f) d q
  |some v=>have:=r j v q;rw[fe]at this;rw[<-this];simp
 subst e;refine AU (by rw[dZ];exact bO 0x16) ?_;rw[fe]at c;refine aa (bq (W.done _ _ _ c λu g h=>?_));refine AU ck ?_;exact au (n u g (up λb o i e=>h b o i (t b o i e)))
def KD(g:A.handled=aC)(h:xI B w A X i ts f):zu B w A X (.Tuple i k pos) (.list ts) f:=by
 refine⟨λloc K F s v Q E b r k=>?_⟩;refine r.eL λa vs n e r=>?_;have bh:=b.bs.bh;rw[Y5];refine aa (cz ?_);delta unpack;rw[h.len.1,h.len.2,show ts.length=vs.toArray.size by rw[aL,r.length]];refine aa (bq (gC (vk g ⟨_,bh _ _ e,rfl,n,rfl⟩ λh' tk j c d=>?_)));exact h.run loc K F _ vs Q E (b.gr (uI bh j c d)) r k
def BS{K:Tk}(d:St B w X loc K F s)(e:Ev (St.pre B w X loc K) w A X.ax a t)(h:zu B w A X (.Tuple c k b) t f)
 (i:cD false=swapsWithSole [.Tuple c k b] a pos.line X.ax) (j:cD aC=nI [.Tuple c k b] a X.ax) (l:∀F' s',St B w X (f loc) K F' s'->Go w A bj X.ax Q s') :
 Go w A (.Assign [.Tuple c k b] a pos::bj) X.ax Q s:=
 ⟨bF (Assign_Tuple (e.run F s d _ _ λv m n g r=>h.run loc K m n v _ _ (d.gr g) r λo p z q=>(l o p q).run) i.symm j.symm)⟩
set_option backward.match.sparseCases false
def lg{K:Tk}(f:bU K K' (Tk.cu w a ts) L')(hi:K.I F s):∃vs n,s.heap.get? a=ab {cls:=.type "list",data:=.seq (c7 vs) n}/\da w F vs ts:=f.get F s hi
def Df{K:Tk}{id:String}(f:bU K K' (Tk.cu w a ts) L')(c:Slot "list" name id) (ty:VV (.builtin id)=cD (.type "method_descriptor")):mD (St.pre B w X loc K) w A (.val (.ref a)) name (.builtin id) true:=by
 refine⟨λF s h d r pl Q E g=>?_⟩
 (first|obtain rfl:=r.cV|obtain⟨z,rfl⟩:=r.cV|obtain rfl:=r.nw|refine r.eI λz=>?_)
 obtain⟨vs,n,e,z⟩:=lg f d.cV;exact mQ ⟨_,e,rfl⟩ PySem.F.plainAttrs_list c ty (λb q=>by cases q;exact⟨_,e,rfl⟩) (g F s (ic.refl d.bs.bh))
def iH{K:Tk}(f:bU K K' (Tk.cu w a ts) L'):mD (St.pre B w X loc K) w A (.val (.ref a)) "append" (.builtin "list.append") true:=Df f oJ zP
def yl{K:Tk}(f:bU K K' (Tk.cu w a ts) L'):mD (St.pre B w X loc K) w A (.val (.ref a)) "extend" (.builtin "list.extend") true:=Df f zQ PySem.F.type_list_extend
def GS{K:Tk}(f:bU K K' (Tk.cu w a ts) L'):mD (St.pre B w X loc K) w A (.val (.ref a)) "pop" (.builtin "list.pop") true:=Df f Ci PySem.F.type_list_pop
def oM{K:Tk}(h:s.toks<=k)(f:bU K K' (Tk.cu w a ts) (Tk.cu w a ts'))(bs:Bs B F s)(hi:K.I F s)(d:∀b∈K.tk,F b=aC/\b<s.heap.objs.size)(g:cN a s.heap h')
 (e:h'.get? a=ab {cls:=.type "list",data:=.seq (c7 i) n'}) (r:da w F i ts') :
 ic K.tk F s F {s with heap:=h',toks:=k}/\K'.I F {s with heap:=h',toks:=k}/\∀b∈K'.tk,F b=aC/\b<h'.objs.size/\(b∈K.tk\/s.heap.objs.size<=b):=by
 have j:a∈K.tk:=f.sub a (.head _);have bh:∀b o,F b=ab o->h'.get? b=ab o:=λb o q=>(g.2 b (λz=>by rw[z,(d a j).1]at q;cases q)).trans (bs.bh b o q);refine⟨⟨Le.refl _,λy y q=>.inl q,λb o c q=>(g.2 b λz=>c (z▸j)).trans q,bh,by rw[g.1];exact ah _,.refl _,rfl,h⟩,
  f.put F s {s with heap:=h',toks:=k} hi bh (λb o c q=>(g.2 b λz=>c (z▸.head _)).trans q) (λy y e=>e) h ⟨i,n',e,r⟩,λb c=>?_⟩
 rw[f.tk]at c;exact⟨(d b c).1,by rw[g.1];exact(d b c).2,.inl c⟩
def gl{K:Tk}(f:bU K K' (Tk.cu w a ts) (Tk.cu w a (ts++[t])))(h:ts.length<=be):d5 B w K A (.builtin "list.append") [.val (.ref a),t] [] [] (λc u=>c=K'/\u=.none):=by
 refine⟨λF s vs us bs hi d i p Q E j=>?_⟩;refine i.e2 λz v b r=>b.eV <|m8 (lg f hi) λxs n e rs=>gp (items:=xs.toArray) ⟨n,e⟩ (λh' k g=>?_) (by rw[aL,rs.length];exact h);refine iA k λn' e2=>ka (oM (n':=n') (ah _) f bs hi d g (by rw[e2];simp) (rs.append (.cons r .nil))) λl m o=>j _ _ _ _ _ ⟨rfl,rfl⟩ l m o .none
def vp{K:Tk}(f:bU K K' (Tk.cu w a ts) (Tk.cu w a (ts++us)))(k:ts.length+us.length<=be):d5 B w K A (.builtin "list.extend") [.val (.ref a),.list us] [] [] (λh u=>h=K'/\u=.none):=by
 refine⟨λF s vs v bs hi i l y Q E o=>?_⟩;refine l.e2 λz z d g=>d.eV <|g.eL λb ys m p j=>m8 (lg f hi) λxs n e rs=>?_;have c:xs.toArray.size+ys.toArray.size<=be:=by rw[aL,aL,rs.length,j.length];exact k
 refine i5 zQ ⟨_,e,rfl⟩ PySem.F.entry_list_extend (PySem.F.args_list_extend_2 _ _) (AutoSeq1.list_extend_list_list_0 a xs.toArray n b ys.toArray m (extend_door c) (aA (fK _ _) c) #v[WP c]) ⟨e,bs.bh _ _ p,?_⟩;refine ka (oM (ah _) f bs hi i (bB s.heap a _) (by rw[show (xs++ys).toArray=xs.toArray++ys.toArray by simp];exact(lw e λx=>x++ys.toArray)) (rs.append j)) λq r t=>o _ _ _ _ _ ⟨rfl,rfl⟩ q r t .none
def I6{ts:List T}{vs:List aE}(r:da w F vs (ts++us)):∃b c,vs=b++c/\da w F b ts/\da w F c us:=by
 induction ts generalizing vs with
 |nil=>exact⟨[],vs,rfl,.nil,r⟩
 |cons t ts d=>
  refine qd (da.Af r) λv vs f a g=>?_;subst f;exact qd (d g) λh i e j k=>⟨v::h,i,congrArg (v::·) e,.cons a j,k⟩
def BX{K:Tk}(f:bU K K' (Tk.cu w a (ts++[t])) (Tk.cu w a ts))(k:ts.length+1<=be):d5 B w K A (.builtin "list.pop") [.val (.ref a)] [] [] (λg u=>g=K'/\u=t):=by
 refine⟨λF s vs D bs hi h l G Q E m=>?_⟩;refine l.e1 λH b=>b.eV <|m8 (lg f hi) λxs n e rs=>qd (I6 rs) λp ys c i o=>?_;subst c;refine cY o.Fc λy c r=>?_;subst c;have j:(p++[y]).toArray.size<=be:=by rw[aL,aw,i.length];exact k
 have d:(p++[y]).toArray.size-1=p.length:=by rw[aL,aw];rfl
 have q:(p++[y]).toArray[(p++[y]).toArray.size-1]?=ab y:=by rw[d];simp
 refine i5 Ci ⟨_,e,rfl⟩ PySem.F.entry_list_pop (PySem.F.args_list_pop_1 _) (Wo a _ n y q j) ⟨e,?_⟩;have e2:=lw e λx=>x.eraseIdxIfInBounds ((p++[y]).toArray.size-1);rw[d,kl_erase,cg]at e2;refine ka (oM (ah _) f bs hi h (bB s.heap a (bQ λx=>x.eraseIdxIfInBounds ((p++[y]).toArray.size-1))) (by rw[d];exact e2) i) λv z C=>m _ _ _ _ _ ⟨rfl,rfl⟩ v z C r
def da.set(r:da w F vs ts)(a:Rp w F v t):∀i ,da w F (vs.set i v) (ts.set i t):=by
 intro i
 induction i generalizing vs ts with
 |zero=>cases r with
  |nil=>exact .nil
  |cons z rs=>exact .cons a rs
 |succ i b=>cases r with
  |nil=>exact .nil
  |cons r rs=>exact .cons r (b rs)
def Ip{K:Tk}(d:St B w X loc K F s)(l:gM X K)(f:bU K K' (Tk.cu w a ts) (Tk.cu w a (ts.set k.toNat t)))(q:Ev (St.pre B w X loc K) w A X.ax c t)(r:Ev (St.pre B w X loc K) w A X.ax o (.val (.ref a)))
 (u:Ev (St.pre B w X loc K) w A X.ax i (.int k)) (y:0<=k) (m:k<2 ^ 63) (z:k<ts.length) (C:cD false=cf c (ab (.Subscript o i h)) pos.line X.ax)
 (D:∀F' s',gM X K'->St B w X loc K' F' s'->Go w A bj X.ax Q s'):Go w A (.Assign [.Subscript o i h] c pos::bj) X.ax Q s:=by
 refine⟨bF (tx (q.run F s d _ _ λv E G j H=>r.run E G (d.gr j) _ _ λR I J g2 L=>u.run I J ((d.gr j).gr g2) _ _ λS M N g3 O=>?_) C.symm)⟩;have g:=((d.gr j).gr g2).gr g3;refine L.eV ?_;refine O.eI λU=>?_;refine m8 (lg f g.cV) λxs n e rs=>?_;have p:xs.toArray.size=ts.length:=by rw[aL,rs.length]
 refine ki_setAt e y m #v[(vj 0x70410f1704c) z p] ?_;have e2:=lw e λx=>x.setIfInBounds k.toNat v;rw[if_pos (by simp)]at e2;refine(D M _ (λb P=>l b (f.tk▸P)) (g.DE f l (bB N.heap a _) (.head _) ⟨xs.set k.toNat v,n,?_,rs.set ((H.cC g2.le).cC g3.le) _⟩)).run;rw[show (xs.set k.toNat v).toArray=xs.toArray.setIfInBounds k.toNat v by simp];exact e2
def MF(h:Ev C w A ax a t)(j:Tr w A t b)(k:b=false->Ev C w A ax (.BoolOp .Or (c::bj) pos) u):Ev C w A ax (.BoolOp .Or (a::c::bj) pos) (if b then t else u):=by
 refine⟨λF s d Q E e=>BoolOp_or (h.run F s d _ _ λv l m g r=>j.run C l m v (C.st d g) r _ _ λf i g2=>?_)⟩;cases b with
 |true=>exact e v f i (g.trans g2) (r.cC g2.le)
 |false=>exact(k rfl).run f i (C.st (C.st d g) g2) Q E λv n o g3 p=>e v n o ((g.trans g2).trans g3) p
def E6(h:Ev C w A ax e t):Ev C w A ax (.BoolOp c [e] pos) t:=⟨λF s a Q E b=>BoolOp_one (h.run F s a Q E b)⟩
def nU(h:Ev C w A ax e (.int i)):Vh C w A ax (ab (.BoolOp .Or [e,.Constant .none k p] pos)) (if i=0 then aC else ab i):=by
 have a:=MF (pos:=pos) h Ml λz=>E6 (fQ (k:=k) (pos:=p));by_cases q:i=0
 .subst q;rw[if_pos rfl];exact IC a
 .rw [if_neg q];have:(i != 0)=true:=by simpa using q
  rw[this]at a;exact g9 a
def OD{K:Tk}(f:bU K K' (Tk.cu w a ts) L')(d:0<=i)(g:i<2 ^ 63)(e:ts[i.toNat]?=ab t):gF (St.pre B w X loc K) w A (.val (.ref a)) (.int i) t:=by
 refine⟨λl m F s b h j Q E k=>?_⟩;refine j.eI λz=>h.eV <|m8 (lg f b.cV) λvs n c r=>cY (r.get e) λv e1 e2=>⟨"list",_,⟨_,c,rfl⟩,mP.lookup,VU ⟨_,c,rfl,n,rfl⟩ d g (by simpa using e1) (k _ _ _ (ic.refl b.bs.bh) e2)⟩
noncomputable def ch(c:Nat):bT:=⟨#[c]⟩
def pS(x y:Nat):Int:=if x=y then 0 else if iw (ch x)=iw (ch y)then 1 else 2
def Bd:ch x=ch y↔x=y:=by
 constructor
 .intro h;injection h with h;injection h with h;injection h
 .rintro rfl;rfl
def xj(c):qx (iw (ch c)).length=false:=qal (by show 1<=_;decide)
def Fb{C:fv B}(c:dg w B)(g:Rm (n+3) A):cR C w A (.ref 218) [.str (ch x),.str (ch y)] [] [] (.int (pS x y)):=by
 refine⟨λF s vs us i j p Q E d=>?_⟩;refine j.e2 λk l m o=>enter (K:=Tk.nil) [("ch_a",.str (ch x)),("ch_b",.str (ch y))] [k,l] [] [] c (C.bs i) g rfl #v[] (cb rfl) rfl rfl (.cons m (.cons o .nil)) trivial kq λL b q a=>kF a (aN (tZ nf rfl rfl (.inl rfl)) (tZ nf rfl rfl (.inl rfl)) nv) (λh e b a=>?_) (λh e b a=>?_)
 .refine fi a bA λv F' s' h' r=>d v F' s' h'.d6 ?_;have h:=of_decide_eq_true h;rw[Bd]at h;delta pS;rw[if_pos h];exact r
 .have h:=of_decide_eq_false h;rw[Bd]at h;refine kF a (aN (cF (tZ nf rfl rfl (.inl rfl)) lY AC bK.bi (kc (xj x)) rfl) (cF (tZ nf rfl rfl (.inl rfl)) lY AC bK.bi (kc (xj y)) rfl) nv) (λf e b a=>?_) (λf e b a=>?_)
  .refine fi a (fg c rfl (λF=>.int _ _) rfl rfl rfl) λv F' s' h' r=>d v F' s' h'.d6 ?_;delta pS;rw[if_neg h,if_pos (of_decide_eq_true f)];exact r
  .refine fi a (fg c rfl (λF=>.int _ _) rfl rfl rfl) λv F' s' h' r=>d v F' s' h'.d6 ?_;delta pS;rw[if_neg h,if_neg (of_decide_eq_false f)];exact r
noncomputable abbrev Ss(l:Q1):bT:=⟨l.toArray⟩
def lL:Ss l=Ss m↔l=m:=by
 constructor
 .intro h;injection h with h;simpa using h
 .rintro rfl;rfl
def rE:Ss l=jx↔l=[]:=(lL)
def cX(l):(Ss l).length=l.length:=by show l.toArray.size=_;rw[aL]
def Cz{l:Q1}{m:Nat}(h:l.length<=m)(e:autoParam (cK m 16777216=true) ou):(Ss l).length<=be:=by rw[cX];exact HZ h e
def u7(l:Q1)(k):∀n,k+n<=l.length->(am n).filterMap (λj=>l[k+j]?)=(l.drop k).take n:=by
 intro n
 induction n with
 |zero=>intro z;simp
 |succ n a=>
  intro h;rw[dv,FW,a #v[(dO 0x2104021604d) h]];rw[d7];simp[(show l[k+n]?=ab l[k+n] from ay #v[(dO 0x2104121604d) h])]
def Ex{b:Int}(h:a<=b):(if a<b then (b-a+1-1) / 1 else 0).toNat=(b-a).toNat:=by
 by_cases q:a<b
 .rw [if_pos q,Int.ediv_one,Int.add_sub_cancel]
 .rw [if_neg q,Int.le_antisymm h (B4.mp q),Int.sub_self]
def Hh(n:Nat):(if (0:Int)<(n:Int)then ((n:Int)-0+1-1) / 1 else 0).toNat=n:=(Ex (NI n)).trans (by rw[Y2];rfl)
def Zj(v:Option Int)(d:Int)(n:Nat):Int:=match v with|none=>d|some i=>max 0 (D5 (if i<0 then i+n else i) n)
def ssi(lo hi:Option Int)(n:Nat):uU lo hi 1 n=il (Zj lo 0 n) (Zj hi n n) 1:=by cases lo<;>cases hi<;>rfl
def xa{lo hi:Option Int}{a b:Nat}(g:Zj lo 0 l.length=a)(h:Zj hi l.length l.length=b)(c:a<=b)(d:b<=l.length):lm (Ss l) lo hi=Ss ((l.drop a).take (b-a)):=by
 have e:uU lo hi 1 (Ss l).length=(am (b-a)).map λ(j:Nat)=>a+j:=by
  rw[ssi,cX,g,h];show (am (if (a:Int)<b then ((b:Int)-a+1-1) / 1 else 0).toNat).map (λ(k:Nat)=>((a:Int)+1*(k:Int)).toNat)=_;rw[(Ex (kd.mpr c)).trans (Int.toNat_sub ..)];exact bL λj y=>(congrArg (λz=>((a:Int)+z).toNat) (qaj j)).trans rfl
 delta lm;rw[e,af,aZ,cX];by_cases q:b-a=l.length
 .have i:a=0:=by exact(dO 0x3022015f21d10d) c d q
  rw[if_pos (show ((1:Int)==1&&(b-a==l.length))=true from beq_iff_eq.mpr q),i,SZ,jg (by rw[<-q];exact Nat.sub_le_sub_left (bG a) b)]
 .rw [if_neg (show ¬((1:Int)==1&&(b-a==l.length))=true from λz=>q (kN z)),JJ,<-u7 l a (b-a) #v[(dO 0x201504021d10d) c d]];exact congrArg (λf=>(⟨((am (b-a)).filterMap f).toArray⟩:bT)) (funext λj=>FX ..)
def Ep{k:Nat}(h:k<=l.length):lm (Ss l) (ab (k:Int)) aC=Ss (l.drop k):=by
 rw[xa (a:=k) (b:=l.length) (by show max 0 (D5 (if (k:Int)<0 then (k:Int)+l.length else k) (l.length:Int))=_;rw[if_neg #v[bO 0x30746]];exact(bW Sv0) h) rfl h (ah _),jg (by rw[gK];exact ah _)]
def Ks{q:Nat}(c:0<q)(h:q<=l.length):lm (Ss l) aC (ab (-(q:Int)))=Ss (l.take (l.length-q)):=
 xa (a:=0) (b:=l.length-q) rfl (by show max 0 (D5 (if -(q:Int)<0 then -(q:Int)+l.length else -(q:Int)) (l.length:Int))=_;rw[if_pos #v[(bO 0x3072f4003e) c]];exact(bW 0x1571717072f4d03e510d003e) c h) (bG _) (qcX ..)
def Ix(l):lm (Ss l) aC aC=Ss l:=(xa (a:=0) (b:=l.length) rfl rfl (bG _) (ah _)).trans (congrArg Ss (jg (ah _)))
def H0{l:Q1}{a b:Nat}(c:a<=b)(d:b<=l.length):lm (Ss l) (ab (a:Int)) (ab (b:Int))=Ss ((l.drop a).take (b-a)):=
 xa (by show max 0 (D5 (if (a:Int)<0 then (a:Int)+l.length else a) (l.length:Int))=_;rw[if_neg #v[bO 0x30746]];exact(bW Sv0) (aA c d)) (by show max 0 (D5 (if (b:Int)<0 then (b:Int)+l.length else b) (l.length:Int))=_;rw[if_neg #v[bO 0x30746]];exact(bW Sv0) d) c d
def BN{k:Nat}(h:l[k]?=ab c):(wE (k:Int) (Ss l).length).bind ((Ss l).cps[·]?)=ab c:=by
 rw[seqIndex_of #v[bO 0x7033] (by rw[cX];exact(bW 0x1707410e) ((bz.mp h).1))];simpa using h
def LZ{q:Nat}(a:0<q)(b:q<=l.length)(h:l[l.length-q]?=ab c):(wE (-(q:Int)) (Ss l).length).bind ((Ss l).cps[·]?)=ab c:=by
 have:wE (-(q:Int)) (Ss l).length=ab (l.length-q):=by
  rw[cX];unfold wE;have d:((0:Int)<=-(q:Int)+(l.length:Int)):=#v[(bW 0x17072f403310d) b];have e:(-(q:Int)+(l.length:Int))<(l.length:Int):=#v[(bW 0x1717072f44003e) a];simp only[show (-(q:Int))<0 by exact(bO 0x3072f4003e) a,if_true];simp[d,e];exact(bW 0x1517072f4b210d) b
 rw[this];simpa using h
noncomputable def wc(l:Q1):Q1->Nat:=l.rec (λz=>0) λx z a m=>m.rec 0 λy t z=>if x=y then a t+1 else 0
def Sx:wc (x::xs) (y::ys)=if x=y then wc xs ys+1 else 0:=rfl
def Bg:∀l m,wc l m<=l.length/\wc l m<=m.length:=iX (λz=>⟨bG _,bG _⟩) λx xs a=>iX ⟨bG _,bG _⟩ λy ys z=>by
 rw[Sx];by_cases q:x=y
 .rw [if_pos q];exact⟨qw (a ys).1,qw (a ys).2⟩
 .rw [if_neg q];exact⟨bG _,bG _⟩
def Mc:∀l m p,p<=wc l m->∀x y,l[p]?=ab x->m[p]?=ab y->(p<wc l m↔x=y):=iX (λm p z x y e z=>nomatch e) λa xs c m p h x y e1 e2=>by
 cases m with
 |nil=>cases e2
 |cons b ys=>
  rw[Sx]at h ⊢;by_cases q:a=b
  .rw [if_pos q]at h ⊢;cases p with
   |zero=>cases e1;cases e2;exact⟨λz=>q,λz=>lR _⟩
   |succ p=>exact Nat.succ_lt_succ_iff.trans (c ys p (Nat.le_of_succ_le_succ h) x y e1 e2)
  .rw [if_neg q]at h ⊢;cases p with
   |zero=>cases e1;cases e2;exact⟨λh=>absurd h (cp _),λh=>absurd h q⟩
   |succ p=>exact absurd h (Nat.not_succ_le_zero _)
noncomputable def okN(ax:uS)(x:bT):Bool:=(ax.kindOf x==ab .local || (ax.kindOf x==ab .cell ||ax.kindOf x==ab .free))&&(decide (ax.scope.kind=.function)&&(!(x==("__debug__" : bT))&&!(x==("__classdict__" : bT))))
def bD{B:gn}{w:bC}{A:cO}{ax:uS}{C:fv B}{loc:M2}(b:On C w ax loc){t:T}{x:bT}(c:autoParam (ab t=loc.lookup x) ou)(a:autoParam (true=okN ax x) ou){pos:D7}:Ev C w A ax (.Name x pos) t:=by
 refine tZ b c.symm (of_decide_eq_true (ba (ba a.symm).2).1) ?_ (bn (ba (ba (ba a.symm).2).2).1) (bn (ba (ba (ba a.symm).2).2).2);exact((ik ..).mp (ba a.symm).1).imp kN λh=>((ik ..).mp h).imp kN kN
def aF{B:gn}{w:bC}{X:Fx}{A:cO}{K:Tk}{loc:M2}{t:T}{x:bT}(a:autoParam (ab t=loc.lookup x) ou)(b:autoParam (true=okN X.ax x) ou){pos:D7}:Ev (St.pre B w X loc K) w A X.ax (.Name x pos) t:=bD nf a b
noncomputable def okC(ax:uS)(scope:Cg):Bool:=decide (ax.scope.kind=.function)&&(decide (scope.kind=.function)&&(sN (scope.names.map (·.1))&&scope.names.all λy=>y.2 != .free ||ax.kindOf y.1==ab .cell ||ax.kindOf y.1==ab .free))
def su(h:autoParam (true=okC ax scope) ou):j0 ax scope:=.of (of_decide_eq_true (ba h.symm).1) (of_decide_eq_true (ba (ba h.symm).2).1) (z5 (ba (ba (ba h.symm).2).2).1) (ba (ba (ba h.symm).2).2).2
noncomputable def isR(f:bu):Option (Option aE)->Bool:=λo=>o.casesOn false λo=>o.casesOn false λv=>decide (v=.ref f)
noncomputable def okG(P:j3)(ax:uS)(x:bT)(f:bu)(as:List bv):Bool:=isR f (nsIn (KF P) fC x)&&(decide (ax.globals=fC)&&(decide (ax.scope.kind=.function)&&(decide (ax.kindOf x=ab .globalImplicit)&&(!(x==("__debug__" : bT))&&(keepIn (KF P) (.ref f)&&!as.any Tz)))))
def Un{f:bu}{o:Option (Option aE)}(h:isR f o=true):o=ab (ab (.ref f)):=by
 cases o with
 |none=>exact bff h
 |some o=>cases o with
  |none=>exact bff h
  |some v=>exact congrArg (ab∘ab) (of_decide_eq_true h)
def kD{C:fv B}{f:bu}(g:dg w B)(j:Oy C w A pos ax (e::i) ts)(l:cR C w A (.ref f) ts [] [] t)(h:autoParam (true=okG w.params ax x f (e::i)) wU):Ev C w A ax (.Call (.Name x px) (e::i) [] pos) t:=
 have h:=ba h.symm;have a:=ba h.2;have b:=ba a.2;have c:=ba b.2;have d:=ba c.2;have k:=ba d.2
 i0 (fg (v:=.ref f) g (Un h.1).symm (λF=>.val _) (of_decide_eq_true a.1).symm (of_decide_eq_true b.1).symm (of_decide_eq_true c.1) (bn d.1)) (kj j (bn k.2).symm) (bK.fn g k.1) l rfl
noncomputable def mn(x y:Int):Int:=if y<x then y else x
def s8(c:Nat)(a:Q1)(row:List Int)(b:Int)(n:Nat):Int×Int×Int×List Int:=
 n.rec (b,b,9223372036854775807,row) λi t=>
  let d:=t.2.2.2.getD i 0
  let r:=mn (mn t.2.1 d+2) (t.1+pS c (a.getD i 0))
  (d,r,if r<t.2.2.1 then r else t.2.2.1,t.2.2.2.set i r)
def sO(a b:Q1)(n:Nat):List Int:=n.rec ((am a.length).map λ(i:Nat)=>2+(i:Int)*2) λj c=>(s8 (b.getD j 0) a c ((j:Int)*2) a.length).2.2.2
def So(a b:Q1)(j:Nat):Int×Int×Int×List Int:=s8 (b.getD j 0) a (sO a b j) ((j:Int)*2) a.length
noncomputable def HA(a b:Q1)(mx:Int)(n j:Nat):Int:=n.rec (motive:=λz=>Nat->Int) (λj=>if j=0 then 0 else (So a b (j-1)).2.1) (λz c j=>if (So a b j).2.2.1 > mx then mx+1 else c (j+1)) j
def Xo{a b:Q1}{mx:Int}{j:Nat}:HA a b mx (n+1) j=if (So a b j).2.2.1 > mx then mx+1 else HA a b mx n (j+1):=rfl
def Gx(a b:Q1):Q1×Q1:=
 let p:=wc a b
 let c:=a.drop p
 let d:=b.drop p
 let q:=wc c.reverse d.reverse
 (c.take (c.length-q),d.take (d.length-q))
def nK(a b:Q1)(mx:Int):Int:=
 if a=b then 0 else
 let t:=Gx a b
 if t.1=[]\/t.2=[]then 2*((t.1.length:Int)+(t.2.length:Int))else
 if ((t.2.length:Int)-(t.1.length:Int))*2 > mx then mx+1 else HA t.1 t.2 mx t.2.length 0
def CJ(c)(a)(row)(b):∀i,(s8 c a row b i).2.2.2.length=row.length:=ig rfl λi d=>(nh ..).trans d
def Mx(a b):∀j,(sO a b j).length=a.length:=ig ((af _).trans (aZ ..)) λj c=>(CJ ..).trans c
def W5(l a:M2):Prop:=l.rec True λy z b=>a.lookup y.1=ab y.2/\b
def t9:∀{small a:M2},W5 small a->∀y t,small.lookup y=ab t->a.lookup y=ab t:=@wt _ _ _ (fun {z} z y t e=>by cases e) λx u r b {a} ⟨c,d⟩ y t e=>by
 rw[lookup_cons]at e;by_cases q:y=x
 .rw [if_pos q]at e;cases e;subst q;exact c
 .rw [if_neg q]at e;exact b d y t e
end Mine
namespace Mine
def xo:gM X Tk.nil:=kq
end Mine
namespace Mine
open PySem PySem.W PySem.Spec PySem.Calls PyProof.Rows
def pb{k:Nat}(h:k<=l.length)(a:l.length<=1000):gF C w A (.str (Ss l)) (.IG (ab (k:Int)) aC aC) (.str (Ss (l.drop k))):=Ep h▸mj (Cz a)
def A1{q:Nat}(h:q<=l.length)(b:l.length<=1000):gF C w A (.str (Ss l)) (.IG aC (if -(q:Int)=0 then aC else ab (-(q:Int))) aC) (.str (Ss (l.take (l.length-q)))):=by
 by_cases a:q=0
 .subst a;have:=mj (C:=C) (w:=w) (A:=A) (x:=Ss l) (lo:=aC) (hi:=aC) (Cz b);rw[Ix]at this;simpa using this
 .rw [if_neg #v[(bO 0x3072f5603026c) a],<-Ks #v[(bO 0x3103026c) a] h];exact mj (Cz b)
def oA{k:Nat}(h:k<l.length)(a:l.length<=1000):gF C w A (.str (Ss l)) (.int (k:Int)) (.str (ch (l.getD k 0))):=
 w4 (by simp;omega) (BN (gS h 0))
def GI{q:Nat}(a:0<q)(h:q<=l.length)(b:l.length<=1000):gF C w A (.str (Ss l)) (.int (-(q:Int))) (.str (ch (l.getD (l.length-q) 0))):=
 w4 (by simp;omega) (LZ a h (gS #v[(bW 0x105101d103e) a h] 0))
def Ai(a:l.length<=1000):Tr w A (.str (Ss l)) (!decide (l=[])):=by
 have:=yJ (w:=w) (A:=A) (x:=Ss l) (Cz a);rwa[show decide (Ss l=jx)=decide (l=[]) from decide_eq_decide.mpr rE]at this
def xm:mz C w A (cQ .Eq) (.str (ch x)) (.str (ch y)) (.bool (decide (x=y))):=by
 have:=nv (C:=C) (w:=w) (A:=A) (x:=ch x) (y:=ch y);rwa[show decide (ch x=ch y)=decide (x=y) from decide_eq_decide.mpr Bd]at this
abbrev ZI(a b:Q1)(mx:Int)(p:Int):M2:=[("a",.str (Ss a)),("b",.str (Ss b)),("max_cost",.int mx),("pre",.int p)]
abbrev YP(a b:Q1)(mx:Int)(p q:Int):M2:=[("a",.str (Ss a)),("b",.str (Ss b)),("max_cost",.int mx),("pre",.int p),("post",.int q)]
end Mine
namespace Mine
def rT{l:Q1}:(!decide (l.drop p=[]))=true↔p<l.length:=by
 rw[iu,decide_eq_false_iff_not,List.drop_eq_nil_iff];exact Nat.not_le
def r8{l:Q1}:(!decide (l.take (l.length-q)=[]))=true↔q<l.length:=by
 rw[iu,decide_eq_false_iff_not,List.take_eq_nil_iff];constructor
 .intro h;have:¬(l.length-q=0):=λz=>h (.inl z);exact(bW 0x1010301526c) this
 .intro h z;rcases z with z|z
  .exact(bW 0x903015f10e) h z
  .subst z;simp at h
def Db(h:p<=wc a b):(!decide (a.drop p=[])&&(!decide (b.drop p=[])&&(decide (a.getD p 0=b.getD p 0)&&true)))=decide (p<wc a b):=by
 have e:=Bg a b;by_cases c:p<a.length
 .by_cases d:p<b.length
  .rw [rT.mpr c,rT.mpr d];simp only[pB,mR];exact decide_eq_decide.mpr (Mc a b p h _ _ (gS c 0) (gS d 0)).symm
  .have:(!decide (b.drop p=[]))=false:=by rw[<-fG,rT];exact d
   rw[this,decide_eq_false (show ¬p<wc a b by exact(lM 0x101638016c38102107c) e d)];simp
 .have:(!decide (a.drop p=[]))=false:=by rw[<-fG,rT];exact c
  rw[this,decide_eq_false (show ¬p<wc a b by exact(lM 0x10162016c38102107c) e c)];simp
def L4{l:Q1}(h:q<l.length):l.reverse[q]?=ab (l.getD (l.length-(q+1)) 0):=by
 rw[List.getElem?_reverse h,show l.length-1-q=l.length-(q+1) by exact(bW 0x1605113055201e) h];exact gS #v[(bW 0x1605101e) h] 0
def Ac{a:Q1}{b:Q1}(h:q<=wc a.reverse b.reverse):(!decide (a.take (a.length-q)=[])&&(!decide (b.take (b.length-q)=[])&&(decide (a.getD (a.length-(q+1)) 0=b.getD (b.length-(q+1)) 0)&&true)))=decide (q<wc a.reverse b.reverse):=by
 have e:=Bg a.reverse b.reverse;rw[d4,d4]at e;by_cases c:q<a.length
 .by_cases d:q<b.length
  .rw [r8.mpr c,r8.mpr d];simp only[pB,mR];exact decide_eq_decide.mpr (Mc a.reverse b.reverse q h _ _ (L4 c) (L4 d)).symm
  .have:(!decide (b.take (b.length-q)=[]))=false:=by rw[<-fG,r8];exact d
   rw[this,decide_eq_false (show ¬q<wc a.reverse b.reverse by exact(lM 0x101638016c38102107c) e d)];simp
 .have:(!decide (a.take (a.length-q)=[]))=false:=by rw[<-fG,r8];exact c
  rw[this,decide_eq_false (show ¬q<wc a.reverse b.reverse by exact(lM 0x10162016c38102107c) e c)];simp
end Mine
namespace Mine
open PySem PySem.W PySem.Spec PySem.Calls PyProof.Rows
structure uY(C:fv B)(w:bC)(A:cO)(f:aE)(ts us:List T):Prop where
 run:∀F s vs,C.P F s->da w F vs ts->∀(Q:Lx0) (E:Lx0),(∀a F' s',Gr F s F' s'->Rp w F' (.ref a) (.list us)->s.heap.objs.size<=a->Q (.ref a) s')->aP (aO pw w) A (wY f vs) Q E s
def JW{C:fv B}(e:Ev C w A ax func (.val f))(c:si C w A pos ax args [] ts [] [])(i:bK B w f)
 (j:uY C w A f ts us) (m:dp (.Call func args [] pos) ax=(do dB pos (<-dp func ax) [] (dc pos (br args ax)) (bR pos (bk [] ax)))):JU C w A ax (.Call func args [] pos) us:=by
 refine⟨λF s d Q E n=>?_⟩;rw[m];refine aa (e.run F s d _ _ λv p q g r=>?_);refine r.eV ?_;have b:=C.st d g;refine dC (P:=λh=>∀a o,B.get? a=ab o->h.get? a=ab o) c.plain (λh k=>i.ry h k) (c.run f p q b _ _ λvs us t u g2 r D=>⟨(C.bs (C.st b g2)).keep,?_⟩);exact j.run t u vs (C.st b g2) r Q E λa x y g3 z l=>n a x y ((g.trans g2).trans g3) z (aA (aA g.size g2.size) l)
def BD{n:Nat}(k:A.handled=aC)(l:pZ a b c=true)(m:fw a b c=n)(p:n<=2 ^ 24) :
 uY C w A (.type "list") [.TM a b c] ((am n).map λ(i:Nat)=>.int (a+(i:Int)*c)):=by
 refine⟨λF s vs q r Q E u=>?_⟩;refine r.e1 λz d=>ES d.cV λz z z z x e=>?_;subst x;have bh:=(C.bs q).bh;refine gy (call_list_range k (bh _ _ e) l m p λh' tk f y g h hi j=>?_);refine u _ (ie F s.heap.objs.size _) _ (iW (F':=F) (s':={s with heap:=h',toks:=tk}) ⟨Le.refl _,λz z e=>.inl e,λa o z e=>g a o e,λa o e=>g a o (bh a o e),c9 (aS h),.refl _,rfl,j⟩ (c8 bh (ah _)) h (ah _)) ?_ (ah _);exact .list (vs:=f.toList) dG (DC (λi v ⟨t,e⟩=>e▸.int _ _) hi)
def Qx{n:Nat}(h:n<=40):fw 2 (2*((n:Int)+1)) 2=n:=by
 have:∀m:Fin 41,fw 2 (2*((m.val:Int)+1)) 2=m.val:=by decide +kernel
 exact this ⟨n,Nat.lt_succ_of_le h⟩
def KU{n:Nat}(h:n<=40):pZ 2 (2*((n:Int)+1)) 2=true:=by
 have:∀m:Fin 41,pZ 2 (2*((m.val:Int)+1)) 2=true:=by decide +kernel
 exact this ⟨n,#v[(bO 0x29290128290d) h]⟩
def Iz{n:Nat}(_:n<=40):mN (2*((n:Int)+1)-2) 2=false:=PyProof.noPylong_small #v[_]
def Lm(h:j<b.length):HA a b mx (b.length-j) j=if (So a b j).2.2.1 > mx then mx+1 else HA a b mx (b.length-(j+1)) (j+1):=by
 rw[show b.length-j=(b.length-(j+1))+1 by exact(bW 0x16056105201e) h];rfl
abbrev lvA(a b:Q1)(mx:Int)(d:bu)(c:Int):M2:=[("a",.str (Ss a)),("b",.str (Ss b)),("max_cost",.int mx),("row",.val (.ref d)),("result",.int c)]
abbrev lvB(a b:Q1)(mx:Int)(d:bu)(j:Int)(c:Nat)(t:Int×Int×Int×List Int):M2:=[("a",.str (Ss a)),("b",.str (Ss b)),("max_cost",.int mx),("row",.val (.ref d)),("bindex",.int j),("bchar",.str (ch c)),("distance",.int t.1),("result",.int t.2.1),("minimum",.int t.2.2.1)]
def Jd{K:Tk}(b:St B w X loc K F s)(d:Ev (St.pre B w X loc K) w A X.ax a t)(e:KO X x)(c:KO X y)
 (f:cD aC=nI [.Name x px,.Name y h] a X.ax) (k:∀F' s',St B w X (dz y t (dz x t loc)) K F' s'->Go w A bj X.ax Q s'):Go w A (.Assign [.Name x px,.Name y h] a pos::bj) X.ax Q s:=by
 refine⟨bF (Y6 (d.run F s b _ _ λv i n g r=>?_) rfl f)⟩;refine j5 (jM (b.gr g) r e λo j=>?_);exact j5 (jM j r c λl m=>(k i l m).run)
end Mine
namespace Mine
def Nj{row:List Int}(h:i<row.length):(row.map T.int)[((i:Nat):Int).toNat]?=ab (.int (row.getD i 0)):=by
 rw[cx,aI,ar,ay h];rfl
def Qu{row:List Int}:(row.map T.int).set ((i:Nat):Int).toNat (.int v)=(row.set i v).map T.int:=by
 rw[cx,D9]
end Mine
namespace Mine
open PySem PySem.W PySem.Spec PySem.Calls PyProof.Rows
structure UE(B:gn)(w:bC)(X:Fx)(loc:M2)(K:Tk)(A:cO)(jk:Option (aE->jj Unit)->jj aE)(R:Tk->T->Prop):Prop where
 run:∀F s,St B w X loc K F s->∀(use:Option (aE->jj Unit)) (Q:Lx0) (E:Lx0),
  (∀D Cl t K' F' s',R K' t->gM X K'->St B w X loc K' F' s'->Le F F'->Rp w F' (.ref D) t->s.heap.objs.size<=Cl->Cl∉K'.tk->F' Cl=aC->(∃m,s'.heap.Ns Cl m)->pY (aO pw w) A E use Q (.ref D) Cl (.ok .next) s')->aP (aO pw w) A (jk use) Q E s
def Bf{K:Tk}{jk:Option (aE->jj Unit)->jj aE}(i:St B w X loc K F s)(h:UE B w X loc K A jk R)
 (H:Cj d X.ax (lU (.Name x px) X.ax)=(do let _ <-jk (ab (lU (.Name x px) X.ax)))) (y:cD true=cf d (ab (.Name x px)) pos.line X.ax)
 (I:KO X x) (k:∀t K' F' s',R K' t->gM X K'->St B w X (dz x t loc) K' F' s'->Go w A bj X.ax Q s') :
 Go w A (.Assign [.Name x px] d pos::bj) X.ax Q s:=by
 refine⟨bF ?_⟩;rw[exec_Assign_Name_used _ _ _ _ y.symm,H];refine aa (cz (aa (aa ?_)));refine h.run F s i _ _ _ λD Cl t K' F' s' J L j le r l z n ⟨m,C⟩=>?_;have E:St B w X loc (K'.and (Tk.qco Cl)) F' s':=j.add ⟨j.cV,m,C⟩ λa g=>by
  rcases ao.mp g with g|g
  .exact .inl g
  .cases aB.mp g;refine .inr ⟨n,C.lt,λq=>?_,λx c e q=>?_⟩
   .refine cY i.frame.ns λN p S=>?_;exact absurd p.lt (by rw[<-q];exact aV.mpr l)
   .refine cY (i.frame.cell x c e) λO p S=>?_;exact absurd p.lt (by rw[<-q];exact aV.mpr l)
 refine j5 (jM E r I λP f=>?_);refine iA f.cV.2 λM G=>⟨M,G,λh' u=>au (au (k t K' F' _ J L ?_).run)⟩;refine St.uv f u (.inl (aA i.d6.size l)) (ag _ (.head _)) ?_ λb v=>ac _ v;exact K'.st f.cV.1 (Le.refl _) (λb o e=>(u.2 b λq=>by rw[q,n]at e;cases e).trans (f.bs.bh b o e)) (λb v o e=>(u.2 b λq=>z (q▸v)).trans e) (λS S S e=>e) (ah _)
def Cp.I{K:Tk}{jk:Option (aE->jj Unit)->jj aE}(h:Cp (St.pre B w X loc K) w A jk t)(c:gM X K):UE B w X loc K A jk (λK' u=>K'=K/\u=t):=
 ⟨λF s a b Q E k=>h.run F s a b Q E λD Cl F' s' g r z l n d=>k D Cl t K F' s' ⟨rfl,rfl⟩ c (a.gr g) g.le r l (λq=>absurd (a.apart Cl q).2.1 (aV.mpr l)) n d⟩
structure tG(w:bC)(K K':Tk)(a:bu)(ts:List T):Prop where
 mem:a∈K.tk
 get:∀F (s:aH),K.I F s->(Tk.cu w a ts).I F s
 bj:∀F (s:aH),K.I F s->K'.I F s/\∀b∈K'.tk,b∈K.tk/\b≠a
def tG.right:tG w (M.bI (Tk.cu w a ts)) M a ts:=
 ⟨ag _ (.head _),λz z h=>h.2.1,λz z h=>⟨h.1,λb c=>⟨ac _ c,λq=>h.2.2 b c (by rw[q];exact .head _)⟩⟩⟩
def tG.left{K:Tk}(r:tG w K K' a ts):tG w (K.bI M) (K'.bI M) a ts:=
 ⟨ac _ r.mem,λF h x=>r.get F h x.1,λF h x=>⟨⟨(r.bj F h x.1).1,x.2.1,λb c=>x.2.2 b ((r.bj F h x.1).2 b c).1⟩,λb c=>by
  rcases ao.mp c with c|c
  .exact⟨ac _ ((r.bj F h x.1).2 b c).1,((r.bj F h x.1).2 b c).2⟩
  .exact⟨ag _ c,λq=>x.2.2 a r.mem (q▸c)⟩⟩⟩
def tG.X9{K:Tk}{M:Tk}(r:tG w K K' a ts):tG w (M.bI K) (M.bI K') a ts:=
 ⟨ag _ r.mem,λF h x=>r.get F h x.2.1,λF h x=>⟨⟨x.1,(r.bj F h x.2.1).1,λb c q=>x.2.2 b c ((r.bj F h x.2.1).2 b q).1⟩,λb c=>by
  rcases ao.mp c with c|c
  .exact⟨ac _ c,λq=>x.2.2 b c (q▸r.mem)⟩
  .exact⟨ag _ ((r.bj F h x.2.1).2 b c).1,((r.bj F h x.2.1).2 b c).2⟩⟩⟩
def St.PR{K:Tk}(d:St B w X loc K F s)(r:tG w K K' a ts)(u:X.s0.heap.objs.size<=a)(y:loc.lookup x=ab (.val (.ref a))) :
 ∃o,o.cls=.type "list"/\St B w X (dz x (.list ts) loc) K' (ie F a o) s/\F a=aC:=by
 refine m8 (r.get F s d.cV) λvs n e A=>sE (d.apart a r.mem) λl R C D=>dS (r.bj F s d.cV) λE p=>?_;have f:Le F (ie F a {cls:=.type "list",data:=.seq vs.toArray n}):=ee l;have bh:∀b o,ie F a {cls:=.type "list",data:=.seq vs.toArray n} b=ab o->s.heap.get? b=ab o:=λb o q=>by
  delta ie at q
  split at q
  .rename_i z;subst z;cases q;exact e
  .exact d.bs.bh b o q
 refine⟨_,rfl,St.AX ⟨⟨λb o q=>f b o (d.bs.fj b o q),bh⟩,⟨d.d6.le.trans f,λb o q=>?_,d.d6.keep,bh,d.d6.size,d.d6.gens,d.d6.os,d.d6.toks⟩,?_,d.oy,d.iY,d.iZ,K'.st E f bh (λ_ _ _ q=>q) (λ_ _ _ q=>q) (ah _),λb i=>?_⟩ y (.list dG (A.cC f)),l⟩
 .unfold ie at q
  split at q
  .rename_i z;subst z;exact .inr u
  .exact d.d6.new b o q
 .obtain⟨⟨m,G,H⟩,I,J,L,M,N⟩:=d.frame;refine⟨⟨m,G,λx t q k=>cY (H x t q k) λv g h=>⟨v,g,h.cC f⟩⟩,λx c q=>cY (I x c q) λO g h=>⟨O,g,λt j k=>cY (h t j k) λv P Q=>⟨v,P,Q.cC f⟩⟩,J,L,?_,λx c q=>?_⟩
  .delta ie;rw[if_neg λz=>C z.symm];exact M
  .delta ie;rw[if_neg λz=>D x c q z.symm];exact N x c q
 .refine ka (d.apart b (p b i).1) λg h j=>⟨?_,h,j⟩;delta ie;rw[if_neg (p b i).2];exact g
def pI(h:F a=aC)(g:Gr (ie F a o) s F' s'):Gr F s (jH F' a) s':=by
 refine⟨λb c e=>?_,λb c e=>?_,g.keep,λb c e=>?_,g.size,g.gens,g.os,g.toks⟩
 .have d:b≠a:=λq=>by rw[q,h]at e;cases e
  delta jH;rw[if_neg d];exact g.le b c (by delta ie;rw[if_neg d];exact e)
 .unfold jH at e
  split at e
  .cases e
  .rename_i d
   refine(g.new b c e).imp (λq=>?_) id;unfold ie at q;rw[if_neg d]at q;exact q
 .unfold jH at e
  split at e
  .cases e
  .exact g.bh b c e
def x9{K:Tk}(r:tG w K K' a ts)(c:X.s0.heap.objs.size<=a)(d:loc.lookup x=ab (.val (.ref a)))(h:wS (St.pre B w X (dz x (.list ts) loc) K') w A X.ax e b):wS (St.pre B w X loc K) w A X.ax e b:=by
 refine⟨λF s f Q E i=>?_⟩;refine mB (St.PR f r c d) λo z j k=>h.run _ s j Q E λl F' s' g e=>i l _ s' (pI k g) e
def ul{K:Tk}(r:tG w K K' a ts)(b:X.s0.heap.objs.size<=a)(c:loc.lookup x=ab (.val (.ref a)))(d:T.nl n t=true)(h:Ev (St.pre B w X (dz x (.list ts) loc) K') w A X.ax e t):Ev (St.pre B w X loc K) w A X.ax e t:=by
 refine⟨λF s f Q E i=>?_⟩;refine mB (St.PR f r b c) λo j k l=>h.run _ s k Q E λv F' s' g m=>i v _ s' (pI l g) (Rp.drop (g.le a o dG) j n m d)
def da.drop(b:F a=ab o)(c:o.cls=.type "list") (r:da w F vs ts) (h:ts.all (T.nl n)=true):da w (jH F a) vs ts:=Ar (Rp.drop b c n) r h
def oP(c:F a=ab o)(d:o.cls=.type "list") (r:Rp w F (.ref b) (.list us)) (f:b≠a) (h:us.all (T.nl n)=true):Rp w (jH F a) (.ref b) (.list us):=by
 obtain⟨z,vs,m,⟨⟩,e,r⟩:=r.cV;exact .list (n:=m) (by delta jH;rw[if_neg f];exact e) (r.drop c d h)
def QT{K:Tk}{jk:Option (aE->jj Unit)->jj aE}(r:tG w K K' a ts)(i:X.s0.heap.objs.size<=a)(j:loc.lookup x=ab (.val (.ref a)))(k:us.all (T.nl n)=true)(h:Cp (St.pre B w X (dz x (.list ts) loc) K') w A jk (.list us)) :
 Cp (St.pre B w X loc K) w A jk (.list us):=by
 refine⟨λF s b c Q E l=>?_⟩;refine mB (St.PR b r i j) λo m p t=>h.run _ s p c Q E λD Cl F' s' g u d e f v=>l D Cl _ s' (pI t g) (oP (g.le a o dG) m u (λq=>absurd ((b.apart a r.mem).2.1) (by rw[<-q];exact aV.mpr d)) k) d e ?_ v;delta jH;split
 .rfl
 .exact f
def Ug{jk:Option (aE->jj Unit)->jj aE}(h:Cp C w A jk (.list us))(c:dp e ax=jk aC):JU C w A ax e us:=by
 refine⟨λF s d Q E f=>?_⟩;rw[c];refine h.run F s d aC Q E λD Cl F' s' g r i l n ⟨m,j⟩=>⟨m,j,λh' a=>?_⟩;have bh:∀b o,F' b=ab o->h'.get? b=ab o:=λb o e=>(a.2 b λq=>by rw[q,n]at e;cases e).trans (g.bh b o e);exact f D F' _ ⟨g.le,g.new,λb o z e=>(a.2 b λq=>absurd (aS e) (by rw[q];exact aV.mpr l)).trans (g.wi b o e),bh,by rw[a.1];exact g.size,g.gens,g.os,g.toks⟩ r i
noncomputable def Tk.gA(w:bC)(a:bu)(kvs:M2):Tk where
 tk:=[a]
 gk:=[]
 I:=λF s=>∃b n,s.heap.get? a=ab {cls:=.type "dict",data:=.dict (c7 b) n}/\p9 w F b kvs/\(kvs.map Prod.fst).Nodup
 st:=λh l z k z z=>qd h λb n e r d=>⟨b,n,k _ (.head _) _ e,r.cC l,d⟩
inductive Al(w:bC)(F:Fz):List (bT×aE)->M2->Prop
 |nil:Al w F [] []
 |cons {x:bT} {v:aE} {t:T} {ps:List (bT×aE)} {kvs:M2}:Rp w F v t->Al w F ps kvs->Al w F ((x,v)::ps) ((x,t)::kvs)
def Al.MD(h:Al w F ps kvs):ps.map (·.1)=kvs.map (·.1):=by
 induction h with
 |nil=>rfl
 |cons r z a=>exact congrArg (_::·) a
def Ey:∀{b:List iL},p9 w F b kvs->∃ps,(∀e∈b,∃k,(aR pw w).is k e.key=true/\e.hash=(aR pw w).hash k)/\Pairs (aR pw w) b ps/\Al w F ps kvs:=by
 induction kvs with
 |nil=>intro b r;rw[r.nw];exact⟨[],kq,.nil,.nil⟩
 |cons y kvs f=>
  intro b r;obtain⟨tk,v,ds,rfl,a,r⟩:=r.Af;obtain⟨ps,g,h,i⟩:=f r;have d:d9 y.1 (.str y.1 tk)=true:=beq_self_eq_true y.1;refine⟨(y.1,v)::ps,λe c=>?_,.cons d rfl h,.cons a i⟩;rcases aX.mp c with rfl|c
  .exact⟨y.1,d,rfl⟩
  .exact g e c
def Ua(h:Al w F ps kvs):∀{a:List iL},(∀e∈a,∃k,(aR pw w).is k e.key=true/\e.hash=(aR pw w).hash k)->Pairs (aR pw w) a ps->p9 w F a kvs:=by
 induction h with
 |nil=>intro a z b;cases b;exact .nil
 | @cons x v t ps kvs r z f=>
  intro a d b;cases b with
  | @cons e z a s g c b=>
   obtain⟨h,k,u⟩:=e;refine cY (d _ (.head _)) λy i j=>iA (tz g) λtk e2=>?_;have e2:k=.str x tk:=e2;subst e2;obtain rfl:=beq_iff_eq.mp i;have c:u=v:=c;subst c;rw[(show h=eX w.params x from j)];exact .cons r (f (λe l=>d e (.tail _ l)) b)
def TZ(h:Al w F ps kvs):(ps.any λa=>a.1=x)=(kvs.any λa=>a.1=x):=by
 induction h with
 |nil=>rfl
 |cons r z b=>exact congrArg (_ || ·) b
def A9:∀{kvs:M2},(kvs.any λa=>a.1=x)=false->dz x t kvs=kvs++[(x,t)]:=@wt _ _ _ (λz=>rfl) λy u r b h=>by
 rw[kJ,jU]at h;rw[z1];rw[if_neg (of_decide_eq_false h.1),b h.2];rfl
def Ie(h:Al w F ps kvs)(r:Rp w F v t):Al w F (ps++[(x,v)]) (kvs++[(x,t)]):=by
 induction h with
 |nil=>exact .cons r .nil
 |cons a z b=>exact .cons a b
def TF(r:Rp w F v t)(h:Al w F ps kvs):(kvs.map (·.1)).Nodup->(kvs.any λa=>a.1=x)=true->Al w F (ps.map λa=>if a.1=x then (a.1,v)else a) (dz x t kvs):=by
 induction h with
 |nil=>intro s h;cases h
 | @cons y u q ps kvs e c f=>
  intro g h;have b:=du.mp g;rw[z1];rw[bN];by_cases z:y=x
  .subst z;rw[if_pos rfl,if_pos rfl];have:(ps.map λa=>if a.1=y then (a.1,v)else a)=ps:=by
    conv=>rhs;rw[<-sG ps]
    refine bL λa d=>?_;rw[if_neg];rfl;rintro rfl;exact b.1 (by rw[<-c.MD];exact db d)
   rw[this];exact .cons r c
  .rw [if_neg z,if_neg z];rw[kJ,decide_eq_false z]at h;exact .cons e (f b.2 h)
def qZ:∀{kvs:M2},(kvs.map (·.1)).Nodup->((dz x t kvs).map (·.1)).Nodup/\∀y,y∈(dz x t kvs).map (·.1)->y=x\/y∈kvs.map (·.1):=@wt _ _ _ (λw=>⟨qi _ _,λy h=>.inl (aB.mp h)⟩) λz u r d h=>by
 rw[bN]at h;have b:=du.mp h;rw[z1];by_cases q:z=x
 .subst q;rw[if_pos rfl];exact⟨by rw[bN];exact h,λy a=>by rw[bN]at a ⊢;exact .inr a⟩
 .rw [if_neg q];refine dS (d b.2) λe c=>⟨by rw[bN];exact du.mpr ⟨λm=>(c z m).elim q b.1,e⟩,λy a=>?_⟩;rw[bN]at a ⊢;rcases aX.mp a with rfl|a
  .exact .inr (.head _)
  .exact(c y a).imp id λm=>.tail _ m
def Bq
 (e:s.heap.get? a=ab {cls:=.type "dict",data:=.dict (c7 i) n}) (r:p9 w F i kvs) (j:(kvs.map (·.1)).Nodup) (l:Rp w F v t) (y:kvs.length<=be)
 (z:∀h' k b n',s.toks<=k->h'.get? a=ab {cls:=.type "dict",data:=.dict (c7 b) n'}->p9 w F b (dz x t kvs)->cN a s.heap h'->Q () {s with heap:=h',toks:=k}) :
 aP (aO pw w) A (dictSet a (.str x tk) v) Q E s:=by
 refine mB (Ey r) λps B C f=>?_;have D:ps.length=kvs.length:=by have:=congrArg mX f.MD;simpa using this
 refine wpAny_dictSet_pairs (knd:=aR pw w) (k:=x) (kvs:=ps) (by simp[aR,d9]) ⟨_,i.toArray,n,e,⟨rfl,rfl,rfl⟩,rfl,λe g=>B e (by simpa using g),by simpa using C,by rw[f.MD];exact j⟩ (λh' hd G=>?_) #v[YF y D];refine PX hd λo b n' H I m J=>ka J λL M N=>z h' _ b.toList n' (cL _) ?_ (Ua ?_ (λe g=>L e (by simpa using g)) M) G
 .obtain⟨c,d,O,sl⟩:=o;refine ka I λp q u=>?_;simp at p q u m;subst p q u m;rw[H]
 .delta stored;rw[TZ f]
  split
  .rename_i h;exact TF l f j (by simpa using h)
  .rename_i h
   rw[A9 (by simpa only[fG] using h)];exact Ie f l
def oT(κ:Nat->bT)(τ:Nat->T)(p:Nat->Bool)(n:Nat):M2:=n.rec [] λi a=>if p i then dz (κ i) (τ i) a else a
def q7:oT κ τ p (i+1)=if p i then dz (κ i) (τ i) (oT κ τ p i)else oT κ τ p i:=rfl
def HB:∀{l:M2},(dz x t l).length<=l.length+1:=@wt _ _ _ (ah _) λy u r a=>by
 rw[z1];by_cases q:y=x
 .rw [if_pos q];exact cL _
 .rw [if_neg q];exact qw a
def CK:∀i,(oT κ τ p i).length<=i:=ig (ah _) λi a=>by
 rw[q7];by_cases q:p i=true
 .rw [if_pos q];exact(dO 0x1600260d12d) a (HB (x:=κ i) (t:=τ i) (l:=oT κ τ p i))
 .rw [if_neg q];exact dy a
def Bp{C:fv B}{f:Nat->M2->M2}
 (Z:dg w B) (hf:On C w ax loc) (ok:j0 ax scope) (hi:pO C w A ax iter target ts []) (hn:ts.length<=be)
 (ht:∀i t,ts[i]?=ab t->∀cells L s0 F0,zu B w A ⟨bY scope cells L ax,s0,F0,[],ownOf scope⟩ target t (f i))
 (l:∀i y u,(ci scope loc).lookup y=ab u->(f i (ci scope loc)).lookup y=ab u)
 (m:∀i,i<ts.length->∀cells L D,Sub D C->On D w (bY scope cells L ax) (f i (ci scope loc))->qR D w A (bY scope cells L ax) ifs (p i))
 (I:∀i,i<ts.length->p i=true->∀cells L D,Sub D C->On D w (bY scope cells L ax) (f i (ci scope loc))->Ev D w A (bY scope cells L ax) kx (.str (κ i)))
 (J:∀i,i<ts.length->p i=true->∀cells L D,Sub D C->On D w (bY scope cells L ax) (f i (ci scope loc))->Ev D w A (bY scope cells L ax) vx (τ i))
 (hs:autoParam (∀x,bw iter ax x=cD x) y2) :
 Cp C w A (λG=>dk (.DictComp kx vx [⟨target,iter,ifs,0⟩] scope pos) scope ax pos' Ea false (dp iter ax) G) (.dict (oT κ τ p ts.length)):=by
 refine⟨λF s r G Q E M=>?_⟩;refine un (fj:=[]) (f:=f) (p:=p) {cls:=.type "dict",data:=.dict #[]} (λD i=>Tk.gA w D (oT κ τ p i))
  G6 rfl r hf ok kq (λF1 s1 g _=>C.st r g) (λD i=>rfl) ?R hi kq ht l m ?v ?z ?M ?N hs
 case R=>exact λF1 s1 h D _ _ e _=>⟨[],0,e,.nil,iS⟩
 case z=>intro i D c;rw[q7,if_neg (by rw[c];decide)]
 case N=>exact λs Q E h=>cE h
 case v=>
  intro i hi c cells Lo D L F' s' d hL O;have kn:∀F s,St B w ⟨bY scope cells Lo ax,_,_,[],ownOf scope⟩ (f i (ci scope loc)) ((Tk.gA w D (oT κ τ p i)).and L) F s->C.P F s:=λF s h=>C.st r h.d6;refine aa ((I i hi c _ _ (St.pre B w _ (f i (ci scope loc)) _) kn nf).run F' s' O _ _ λkv F2 s2 g2 r2=>?_);refine aa (bq ((J i hi c _ _ (St.pre B w _ (f i (ci scope loc)) _) kn nf).run F2 s2 (O.gr g2) _ _ λvv F3 s3 g3 r3=>?_));have a:=(O.gr g2).gr g3;refine aa (cz (bq ?_));refine r2.eS λ_=>qd a.cV.1 λes n e1 e2 e3=>Bq e1 e2 e3 r3 (aA (CK i) #v[Sm hn hi]) λh' k S n' U e4 r4 j=>⟨F3,?_⟩;have h5:=St.uv (K':=(Tk.gA w D (oT κ τ p (i+1))).and L) a j (.inl d) (.head _) ⟨⟨S,n',e4,by rw[q7,if_pos c];exact r4,by rw[q7,if_pos c];exact(qZ e3).1⟩,?_⟩ λb P=>P
  .exact h5.j4 k U
  .refine L.st a.cV.2 (Le.refl _) (λb o e=>(j.2 b λq=>?_).trans (a.bs.bh b o e)) (λb P o e=>(j.2 b λq=>hL b P (by rw[q];exact .head _)).trans e) (λ_ _ _ e=>e) (ah _);rw[q,(a.apart _ (.head _)).1]at e;cases e
 case M=>
  intro D Cl F' s' g hI V d W X Y hm;refine qd hI λes n e1 e2 e3=>?_;have H:=(V D (.head _)).1;refine M D Cl (ie F' D _) s' (iW g H e1 d) (.dict dG (e2.cC (ee H)) e3 (λq=>absurd (pd Z (C.bs r)) (by rw[q]at d;exact(bO 0x1316130d) d))) d W ?_ hm;delta ie;rw[if_neg λq=>X q.symm];exact Y
def AV
 (d:kP (aO pw w) A (.compLoop (.ListComp b [e,⟨target,iter,ifs,0⟩] scope pos) 1 it c ax) R s)
 (h:aP (aO pw w) A (mM it) (λa s'=>kP (aO pw w) A (.compLoop (.ListComp b [e,⟨target,iter,ifs,0⟩] scope pos) 1 a c ax) R s')
  (notedBy (aO pw w) A ax λx s'=>R (.error x) s') s) :
 kP (aO pw w) A (.compStart (.ListComp b [e,⟨target,iter,ifs,0⟩] scope pos) 1 it c ax) R s:=by
 refine qam <|wpAny_notedAt <|aa (kW (wpAny_ite ?_))
 split
 .first
   |exact aa (au (au (yU rfl d)))
   |exact au (yU rfl d)
 .first
   |exact aa (fW (aa (cz (aa (cj h (λa s' h'=>au (yU rfl h')) λz z x=>x)))))
   | (refine aa (fW ?_);exact aa (cz (aa (cj h (λa s' h'=>au (yU rfl h')) λz z x=>x))))
def CP(b d f t2 a)(g h)(scope)(pos)(it e)(ax) :
 vM (.ListComp b [⟨d,f,g,0⟩,⟨t2,a,h,0⟩] scope pos) 0 it e ax=(do
  ej f.pos
  match <-mL it with
  |none=>cD (.done .next)
  |some v=>
   fE d it v
   lU d ax v
   let mut ok:=true
   for c in g do
    if ok then ok <-isTrue c ax (dp c ax)
   if ok then
    let x <-dp a ax
    ej a.pos
    let x <-bw a ax x
    let _ <-runOwn (.compStart (.ListComp b [⟨d,f,g,0⟩,⟨t2,a,h,0⟩] scope pos) 1 (<-fL [x] (mM x)) e ax) ax
   Wk (.compLoop (.ListComp b [⟨d,f,g,0⟩,⟨t2,a,h,0⟩] scope pos) 0 it e ax)):=by rfl
def BG(d a e t2 b)(g h)(scope)(pos)(it f)(ax) :
 vM (.ListComp d [⟨a,e,g,0⟩,⟨t2,b,h,0⟩] scope pos) 0 it f ax=(do
  ej e.pos
  match <-mL it with
  |none=>cD (.done .next)
  |some v=>
   fE a it v
   lU a ax v
   let mut ok:=true
   for c in g do
    if ok then ok <-isTrue c ax (dp c ax)
   if ok then
    (do
     let v <-dp b ax
     ej b.pos
     let v <-bw b ax v
     let _ <-runOwn (.compStart (.ListComp d [⟨a,e,g,0⟩,⟨t2,b,h,0⟩] scope pos) 1 (<-fL [v] (mM v)) f ax) ax
     cD ())
   Wk (.compLoop (.ListComp d [⟨a,e,g,0⟩,⟨t2,b,h,0⟩] scope pos) 0 it f ax)):=by
 rw[CP];refine congrArg (ej e.pos >>= ·) (funext λz=>congrArg (mL it >>= ·) (funext λr=>?_));cases r with
 |none=>rfl
 |some v=>
  refine congrArg (fE a it v >>= ·) (funext λz=>congrArg (lU a ax v >>= ·) (funext λz=>congrArg (_ >>= ·) (funext λok=>?_)));cases ok with
  |false=>rfl
  |true=>simp only[if_true,nG,wD]
def Co(a f g t2 d)(h e)(scope)(pos)(it b)(ax) :
 vM (.ListComp a [⟨f,g,h,0⟩,⟨t2,d,e,0⟩] scope pos) 1 it b ax=(do
  ej d.pos
  match <-mL it with
  |none=>cD (.done .next)
  |some v=>
   fE t2 it v
   lU t2 ax v
   let mut ok:=true
   for c in e do
    if ok then ok <-isTrue c ax (dp c ax)
   if ok then
    (do let _ <-wY (.builtin "list.append") [b,<-dp a ax])
   Wk (.compLoop (.ListComp a [⟨f,g,h,0⟩,⟨t2,d,e,0⟩] scope pos) 1 it b ax)):=by rfl
noncomputable def Bn(n2:Nat)(q:Lx1)(g:Nat->Nat->T)(n:Nat):List T:=n.rec [] λi a=>a++((am n2).filter (q i)).map (g i)
def Nz:Bn n2 q g (i+1)=Bn n2 q g i++((am n2).filter (q i)).map (g i):=rfl
def Da:∀i,(Bn n2 q g i).length<=i*n2:=ig (bG _) λi b=>by
 rw[Nz,aw,af];have c:=b;have a:=cH (q i) (am n2);rw[aZ]at a;rw[qan,qao];exact(lM 0x38241040381d20d) c a
def L7{C:fv B}
 (hA:A.mark aC=A) (hf:On C w ax loc) (ok:j0 ax scope) (hi:pO C w A ax J (.Name x px) ((am n1).map τ1) []) (hn:n1*n2<=be)
 (hx:scope.names.lookup x=ab .local\/scope.names.lookup x=ab .cell) (hy:scope.names.lookup y=ab .local\/scope.names.lookup y=ab .cell) (hxy:x≠y)
 (hit2:∀i,i<n1->∀cells L D,Sub D C->On D w (bY scope cells L ax) (dz x (τ1 i) (ci scope loc))->Ev D w A (bY scope cells L ax) c t2) (hv2:Qn w A (.Name y N) t2 ((am n2).map τ2))
 (tests:∀i j,i<n1->j<n2->∀cells L D,Sub D C->On D w (bY scope cells L ax) (dz y (τ2 j) (dz x (τ1 i) (ci scope loc)))->qR D w A (bY scope cells L ax) O (q i j))
 (helt:∀i j,i<n1->j<n2->q i j=true->∀cells L D,Sub D C->On D w (bY scope cells L ax) (dz y (τ2 j) (dz x (τ1 i) (ci scope loc)))->Ev D w A (bY scope cells L ax) d (g i j))
 (hs:autoParam (∀x,bw J ax x=cD x) y2) (hs2:autoParam (∀V x,bw c V x=cD x) dfJ) :
 Cp C w A (λuse=>dk (.ListComp d [⟨.Name x px,J,[],0⟩,⟨.Name y N,c,O,0⟩] scope pos) scope ax pos' (qC []) false (dp J ax) use) (.list (Bn n2 q g n1)):=by
 refine⟨λF s hP use Q E hQ=>?_⟩;have U:∀{n:Nat} {τ:Nat->T},((am n).map τ).length=n:=by intro n τ;rw[af,aZ]
 refine un (C':=C) (e:=.ListComp d [⟨.Name x px,J,[],0⟩,⟨.Name y N,c,O,0⟩] scope pos) (ifs:=[]) (bj:=[⟨.Name y N,c,O,0⟩]) (ts:=(am n1).map τ1) (ex:=[]) (fj:=[]) (f:=λi l=>dz x (τ1 i) l) (p:=λ_=>true) {cls:=.type "list",data:=.seq #[]} (λD i=>Tk.cu w D (Bn n2 q g i))
  (emit:=λD ax=>do
   let v <-dp c ax
   ej c.pos
   let v <-bw c ax v
   let _ <-runOwn (.compStart (.ListComp d [⟨.Name x px,J,[],0⟩,⟨.Name y N,c,O,0⟩] scope pos) 1 (<-fL [v] (mM v)) (.ref D) ax) ax
   cD ()) ⟨λ_ _ _=>rfl,λ_ _ _=>rfl,rfl,λI D V=>by show pA (vM (.ListComp d [⟨.Name x px,J,[],0⟩,⟨.Name y N,c,O,0⟩] scope pos) 0 (.ref I) (.ref D) _) _=_;rw[BG];try rfl,λh1 h2=>NJ h1 h2⟩ rfl hP hf ok kq (λF1 s1 g _=>C.st hP g) (λD i=>rfl) ?hK0 hi kq ?ht ?hless (λ_ _ _ _ _ _ _=>je) ?hemit ?hskip ?hQ ?hnew hs
 case hK0=>exact λF1 s1 h D _ _ e _=>⟨[],0,e,.nil⟩
 case hskip=>exact λi D P=>nomatch P
 case hnew=>exact λs Q E h=>cE h
 case ht=>exact λi t e cells L s0 F0=>by rw[nD e];exact(kE hx).ry _ _ _ _
 case hless=>exact λi z u e=>j7 hx z u e
 case hemit=>
  intro i G P cells Lo D L F' s' hD hL hS;rw[U]at G;have kn:∀(l:M2) (K:Tk) F s,St B w ⟨bY scope cells Lo ax,_,_,[],ownOf scope⟩ l K F s->C.P F s:=λl K F s h=>C.st hP h.d6;refine aa ((hit2 i G _ _ (St.pre B w _ (dz x (τ1 i) (ci scope loc)) _) (kn _ _) nf).run F' s' hS _ _ λxv F0 s0 g0 r0=>?_);refine aa (cz (aa (dK (hs2 _ _) ?_)));have R:=hS.gr g0;refine aa (bq (hv2.run (St.pre B w _ (dz x (τ1 i) (ci scope loc)) _) F0 s0 xv R r0 _ _ λit F1 s1 g1 W RH hgw=>?_));have hS1:=R.KB g1 W kq;refine aa (wpAny_runOwn ?_);rw[hA];refine(λY=>AV Y (it.self 0 _ _ _ hS1.cV.2.1 Y)) ?_;have Z:∀b∈it.wr,b∉D::L.tk:=λb a q=>absurd (R.apart b q).2.1 (aV.mpr (W.wr b a).2.1);refine Ah (X:=⟨bY scope cells Lo ax,s,F,[],ownOf scope⟩) (it:=it) (ts:=(am n2).map τ2) (ex:=[]) (f:=λj _ l=>dz y (τ2 j) l) (p:=q i) (loc:=dz x (τ1 i) (ci scope loc)) (F:=F1) (C:=C)
   (K:=(Tk.cu w D (Bn n2 q g i)).and L) (λj K'=>K'=(Tk.cu w D (Bn n2 q g i++((am j).filter (q i)).map (g i))).and L) rfl rfl
   (emit:=do let _ <-wY (.builtin "list.append") [.ref D,<-dp d (bY scope cells Lo ax)]) (p₀:=c.pos) (ifs:=O) (target:=.Name y N) ?hden (λj _ K' _ F s h=>kn _ _ F s h) hS1 W.n RH (It.ZF W.n) (λb a=>aA R.d6.size (W.wr b a).2.1) ?hgw2 (λj K' e=>?hK2) (λj _ m=>by rw[ar,aI,cM (by rw[U]at m;exact m)];exact(kE hy).ry _ _ _ _)
   (by simp) (λj _ z u e=>?hless2) (λj _ m D kn on=>tests i j G (by rw[U]at m;exact m) _ _ D kn on) ?hemit2 ?hskip2 ?hfin2
  case hden=>show pA (vM (.ListComp d [⟨.Name x px,J,[],0⟩,⟨.Name y N,c,O,0⟩] scope pos) 1 (.ref it.I) _ _) _=_;rw[Co];try rfl
  case hgw2=>rw[hgw];exact kq
  case hK2=>subst e;exact⟨λb a r=>a.elim (λa=>Z b a r) (λa=>nomatch a),by rw[hgw];exact kq⟩
  case hless2=>
   rw[ij];by_cases z0:z=y
   .subst z0;rw[ij,if_neg (λh=>hxy h.symm)]at e;have:=(jf scope z u loc e).2;rcases hy with h|h<;>rw[h]at this<;>cases this
   .rw [if_neg z0];exact e
  case hskip2=>
   rintro j K' P rfl;rw[dv,dP];simp[P]
  case hemit2=>
   rintro L2 j _ K' F2 s2 _ m P rfl hL2 H;rw[U]at m;refine aa ((helt i j G m P _ _ (St.pre B w _ (dz y (τ2 j) (dz x (τ1 i) (ci scope loc))) _) (kn _ _) nf).run F2 s2 H _ _ λv F3 s3 g3 r3=>?_);have k:=H.gr g3;refine m8 k.cV.1.1 λvs n e1 r1=>aa (gp (items:=vs.toArray) ⟨n,e1⟩ (λh' hl' hsb=>au ?_) ?_)
   .refine iA hl' λn' e2=>?_;have S:∀(M:Tk),(∀b∈M.tk,b∉[D])->M.I F3 s3->M.I F3 {s3 with heap:=h'}:=λM hM hI=>M.st hI (Le.refl _) (λb o e=>(hsb.2 b λz=>by rw[z,(k.apart _ (.head _)).1]at e;cases e).trans (k.bs.bh b o e)) (λb a o e=>(hsb.2 b λz=>hM b a (by rw[z];exact .head _)).trans e) (λ_ _ _ e=>e) (ah _);refine⟨_,F3,rfl,St.uv k hsb (.inl hD) (.head _) ⟨⟨⟨vs++[v],n',?_,?_⟩,S L (λb a=>hL b a) k.cV.1.2⟩,S L2 (λb a z=>hL2 b a (ac _ z)) k.cV.2⟩ λb a=>a⟩
    .show h'.get? D=_;rw[e2];simp
    .rw [dv,dP,aU];rw[qg P];rw[<-cm];exact r1.append (.cons r3 .nil)
   .have e3:=r1.length;have e4:=Da (n2:=n2) (q:=q) (g:=g) i;have e5:=cH (q i) (am j);rw[aZ]at e5;rw[aw,af]at e3;rw[aL,e3];have e6:(i+1)*n2<=n1*n2:=Nat.mul_le_mul_right _ G;rw[qan,qao]at e6;exact YQ hn m e4 e5 e6
  case hfin2=>
   rintro K' F2 s2 rfl H;rw[U]at H;exact au ⟨F2,H⟩
 case hQ=>
  intro D Cl F' s' g hI Z hD hCl hDC hCn hm;refine m8 hI λvs n e1 e2=>?_;have hDn:=(Z D (.head _)).1;rw[U]at e2;refine hQ D Cl (ie F' D _) s' (iW g hDn e1 hD) (.list dG (e2.cC (ee hDn))) hD hCl ?_ hm;delta ie;rw[if_neg λq=>hDC q.symm];exact hCn
def xl(g:A.handled=aC):Qn w A target (.str (Ss l)) (l.map λc=>.str (ch c)):=by
 refine⟨fun {B} C F s v n r Q E j=>?_⟩;refine r.eS λtk=>?_;have bh:=(C.bs n).bh;have k:∀i v,i<(l.map λc=>T.str (ch c)).length->SignAt (Ss l) i v->∃t,(l.map λc=>T.str (ch c))[i]?=ab t/\Rp w F v t:=by
  intro i v hi p;refine m8 p λc t a q=>?_;subst q;refine⟨.str (ch c),?_,.str _ _⟩;rw[aI];have:l[i]?=ab c:=by simpa using a
  rw[this];rfl
 have wr:∀o:mV,∀b∈[s.heap.objs.size],F b=aC/\s.heap.objs.size<=b/\b<(s.heap.push o).objs.size:=λo b d=>by
  cases aB.mp d;exact⟨c8 bh (ah _),ah _,by rw[aY];exact bH _⟩
 cases m:(Ss l).cps.all (· < 128)with
 |false=>
  refine wpAny_pyIter_wide m (j (It.of (Walks.strWide g s.heap.objs.size (Ss l) tk)) F _ (fP bh) ⟨?_,⟨_,aM _ rfl,rfl,rfl⟩,wr _,kq,λb d=>.inl d,k⟩ ?_ rfl)
  .show (Ss l).cps.size=_;simp
  .exact lO _ (λi h e=>mB e λo a f z=>⟨o,a,f⟩) #v[_]
 |true=>
  refine wpAny_pyIter_ascii m (j (It.of (Walks.strAscii g s.heap.objs.size (Ss l) tk)) F _ (fP bh) ⟨?_,⟨_,aM _ rfl,rfl,rfl⟩,wr _,kq,λb d=>.inl d,k⟩ ?_ rfl)
  .show (Ss l).cps.size=_;simp
  .exact lO _ (λi h e=>mB e λo a f z=>⟨o,a,f⟩) #v[_]
def Rp.Kt(r:Rp w F v (.tH i N))(h:N<=M):Rp w F v (.tH i M):=by
 refine mB r.cV λz c a b=>?_;subst c;exact .tH a (aT b h)
def Rp.BA(r:Rp w F v (.tH i N)):Rp w F v (.int i):=by
 exact mB r.cV λz q z z=>q▸.int _ _
def Rp.U8(r:Rp w F v (.Ab i N)):Rp w F v (.int i):=by
 exact mB r.cV λz q z z=>q▸.int _ _
def IL(h:Ev C w A ax e (.tH i N)):Ev C w A ax e (.int i):=h.cC λz z r=>r.BA
def H6(h:Ev C w A ax e (.Ab i N)):Ev C w A ax e (.int i):=h.cC λz z r=>r.U8
noncomputable def It.range(g:A.handled=aC)(N)(p:0<N)(I:bu)(a:Int)(n:Nat):It w A where
 I:=I
 fp:=[I]
 wr:=[I]
 gw:=[]
 n:=n
 P:=λi v=>∃t,v=.int (a+(i:Int)) t/\N<=t
 S:=λi s=>vN s.heap I (a+(i:Int)) ((n:Int)-(i:Int)) 1/\N<=s.toks
 sub:=λz h=>h
 QY:=λi s s' h k z j=>⟨k I (.head _) _ h.1,aA h.2 j⟩
 item:=λi s Q E hi h c=>JK h.1 #v[(bW 0x1707503401e) hi] λh' l d=>c _ _ ⟨_,rfl,h.2⟩ ⟨by
  rw[show a+((i+1:Nat):Int)=a+(i:Int)+1 by exact jP 0x7046067045,show (n:Int)-((i+1:Nat):Int)=(n:Int)-(i:Int)-1 by exact bW 0x131707551670755];exact l,dy h.2⟩
  ⟨λb o f e=>(d.2 b λq=>f (by rw[q];exact .head _)).trans e,λz z z e=>e,id,rfl,cL _⟩
 done:=λs Q E h c=>gy (wpAny_pyNext_range_end g h.1 #v[bO 0x3070753] λh' d m=>c _ ⟨λb o f e=>d b o (λq=>f (by rw[q];exact .head _)) e,λz z z e=>e,id,rfl,m⟩)
 self:=λi s Q E h c=>(Wl (prog:=pw) (w:=w) g I a 1 n).self i s Q E (by
  show vN s.heap I (a+(i:Int)*1) ((n:Int)-(i:Int)) 1;rw[qak];exact h.1) c
def CX(y:A.handled=aC)(h:Ev C w A ax iter (.D3 a n))(m:0<N)(c:∀F s,C.P F s->N<=s.toks) :
 pO C w A ax iter (.Name x px) ((am n).map λ(i:Nat)=>.Ab (a+(i:Int)) N) []:=by
 refine⟨λF s o Q E z=>?_⟩;refine h.run F s o _ _ λv p j g r=>?_;have d:=C.st o g;refine j56 r.cV λr b t u v k q e l1 B l3 D=>?_;subst k;subst q;have bh:=(C.bs d).bh;refine yS (bh _ _ e) (Y1 l1 B l3 D) (z (It.range y N m j.heap.objs.size a (b-a).toNat) p _ (g.trans (fP bh)) ⟨by show (b-a).toNat=_;rw[af,aZ],⟨?_,c p j d⟩,λb l=>?_,kq,λb l=>.inl l,λi v f G=>?_⟩ (Aa _) rfl)
 .show vN (j.heap.push _) _ _ _ _;rw[show (a+((0:Nat):Int))=a by simp,show (((b-a).toNat:Int)-((0:Nat):Int))=fw a b 1 by rw[Jo];simp];exact aM _ rfl
 .cases aB.mp l;exact⟨c8 bh (ah _),g.size,by rw[aY];exact bH _⟩
 .refine cY G λt k c=>?_;subst k;rw[af,aZ]at f;exact⟨.Ab (a+i) N,by rw[aI,cM f];rfl,.Ab (aT m c) c⟩
def Er(b:smallInt i=true):mz C w A (cQ .Is) (.tH i N) (.Ab j N) (.bool (i==j)):=by
 refine⟨λl m F s c d e Q E f=>?_⟩;refine mB d.cV λt a t0 g=>?_;subst a;refine mB e.cV λu a h k=>?_;subst a;have e0:((t==0 ||u==0):Bool)=false:=by
  rw[jU];exact⟨beq_eq_false_iff_ne.mpr (uK.mp t0),beq_eq_false_iff_ne.mpr (uK.mp h)⟩
 have jO:aP (aO pw w) A (cD (Value.bool (i==j)):jj aE) Q E s:=au (f _ _ _ (ic.refl (C.bs c).bh) (.bool _));refine aa ?_;show aP _ A (if (i==j&&smallInt i)=true then JL t u else Oo (i==j) t u) _ E s;rw[b,mR];cases q:(i==j)with
 |true=>
  refine Ts rfl ?_;delta JL;rw[e0,if_neg #v[_]];rw[q]at jO;exact aa (fW (au jO))
 |false=>
  refine AU #v[_] ?_;delta Oo;rw[e0,if_neg #v[_]];rw[q]at jO;simp only[(beq_eq_false_iff_ne.mpr (show t≠u from λq=>absurd (aT g k) (by rw[q];exact cp _)))];exact au jO
structure ItE(C:fv B)(w:bC)(A:cO)(ax:uS)(iter target:bv)(ts:List T)(ex:List bu)(τ:Nat->Nat->T):Prop where
 run:∀F s,C.P F s->∀(Q:Lx0) (E:Lx0),(∀(it:It w A) F' s',Gr F s F' s'->it.Ok F' s' s ts ex->it.B2 target->it.gw=[]->it.ZC ts ex τ->Q (.ref it.I) s')->
  wpAny (aO pw w) A (dp iter ax) (λxv s1=>aP (aO pw w) A (mM xv) Q E s1) E s
def Fe(B:A.handled=aC)(h:Ev C w A ax iter (.D3 a n))(d:∀F s,C.P F s->1<=s.toks) :
 ItE C w A ax iter (.Name x px) ((am n).map λ(i:Nat)=>.Ab (a+(i:Int)) 1) [] (λi N=>.tH (a+(i:Int)) N):=by
 refine⟨λF s p Q E k=>?_⟩;refine h.run F s p _ _ λv y l g r=>?_;have f:=C.st p g;refine j56 r.cV λr b t u v m z e l1 D l3 G=>?_;subst m;subst z;have bh:=(C.bs f).bh;refine yS (bh _ _ e) (Y1 l1 D l3 G) (k (It.range B 1 (ah _) l.heap.objs.size a (b-a).toNat) y _ (g.trans (fP bh)) ⟨by show (b-a).toNat=_;rw[af,aZ],⟨?_,d y l f⟩,λb c=>?_,kq,λb c=>.inl c,λi v j H=>?_⟩ (Aa _) rfl ?_)
 .show vN (l.heap.push _) _ _ _ _;rw[show (a+((0:Nat):Int))=a by simp,show (((b-a).toNat:Int)-((0:Nat):Int))=fw a b 1 by rw[Jo];simp];exact aM _ rfl
 .cases aB.mp c;exact⟨c8 bh (ah _),g.size,by rw[aY];exact bH _⟩
 .refine cY H λt m d=>?_;subst m;rw[af,aZ]at j;exact⟨.Ab (a+i) 1,by rw[aI,cM j];rfl,.Ab (aT zg d) d⟩
 .intro i F s Q E hi h k;have h:=h.1;refine JK h.1 #v[(O0 0x7105b75034105b0e) hi] λh' I J=>k _ _ (s.toks+1) (ah _) (.tH (aT zg h.2) (bH _)) ⟨by
   rw[show a+((i+1:Nat):Int)=a+i+1 by exact jP 0x7046067045,show (((b-a).toNat:Nat):Int)-((i+1:Nat):Int)=(((b-a).toNat:Nat):Int)-i-1 by exact O0 0x1307105b755067105b755];exact I,dy h.2⟩
   ⟨λb o c e=>(J.2 b λq=>c (by rw[q];exact .head _)).trans e,λL L L e=>e,id,rfl,cL _⟩
noncomputable def Tk.qaM(w:bC)(a:bu)(l:Nat->List T):Tk where
 tk:=[a]
 gk:=[]
 I:=λF s=>∃N,N<=s.toks/\(Tk.cu w a (l N)).I F s
 st:=λh b bh k g t=>cY h λN h i=>⟨N,aA h t,(Tk.cu w a (l N)).st i b bh k g t⟩
structure ZU(C:fv B)(w:bC)(A:cO)(jk:Option (aE->jj Unit)->jj aE)(t:Nat->T):Prop where
 run:∀F s,C.P F s->∀(use:Option (aE->jj Unit)) (Q:Lx0) (E:Lx0),
  (∀D Cl F' s' N,N<=s'.toks->Gr F s F' s'->Rp w F' (.ref D) (t N)->s.heap.objs.size<=D->s.heap.objs.size<=Cl->F' Cl=aC->(∃m,s'.heap.Ns Cl m)->pY (aO pw w) A E use Q (.ref D) Cl (.ok .next) s')->aP (aO pw w) A (jk use) Q E s
structure ZA(C:fv B)(w:bC)(A:cO)(ax:uS)(e:bv)(t:Nat->T):Prop where
 run:∀F s,C.P F s->∀(Q:Lx0) (E:Lx0),(∀v F' s' N,N<=s'.toks->Gr F s F' s'->Rp w F' v (t N)->Q v s')->aP (aO pw w) A (dp e ax) Q E s
def Vv{jk:Option (aE->jj Unit)->jj aE}(h:ZU C w A jk t)(c:dp e ax=jk aC):ZA C w A ax e t:=by
 refine⟨λF s d Q E f=>?_⟩;rw[c];refine h.run F s d aC Q E λD Cl F' s' N i g r z l n ⟨m,j⟩=>⟨m,j,λh' a=>?_⟩;have bh:∀b o,F' b=ab o->h'.get? b=ab o:=λb o e=>(a.2 b λq=>by rw[q,n]at e;cases e).trans (g.bh b o e);exact f _ F' _ N i ⟨g.le,g.new,λb o z e=>(a.2 b λq=>absurd (aS e) (by rw[q];exact aV.mpr l)).trans (g.wi b o e),bh,by rw[a.1];exact g.size,g.gens,g.os,g.toks⟩ r
def GY(h:N<=M){vs:List aE}{a:List Int}:da w F vs (a.map λi=>T.tH i N)->da w F vs (a.map λi=>T.tH i M):=G3 λz z r=>r.Kt h
def No{C:fv B}
 (hf:On C w ax loc) (ok:j0 ax scope) (hi:ItE C w A ax iter (.Name x px) ts ex (λi N=>.tH (g i) N)) (j:ts.length=n) (hex:∀a∈ex,∀F s,C.P F s->F a=aC/\a<s.heap.objs.size/\∀x c,ax.cells.lookup x=ab c->a≠c)
 (hn:n<=be) (hx:scope.names.lookup x=ab .local\/scope.names.lookup x=ab .cell)
 (G:∀i N,i<n->∀cells L D,Sub D C->On D w (bY scope cells L ax) (dz x (.tH (g i) N) (ci scope loc))->qR D w A (bY scope cells L ax) ifs (p i))
 (V:∀i N,i<n->p i=true->∀cells L D,Sub D C->On D w (bY scope cells L ax) (dz x (.tH (g i) N) (ci scope loc))->Ev D w A (bY scope cells L ax) elt (.tH (g i) N))
 (hs:autoParam (∀x,bw iter ax x=cD x) y2) :
 ZU C w A (λR=>dk (.ListComp elt [⟨.Name x px,iter,ifs,0⟩] scope pos) scope ax pos' (qC []) false (dp iter ax) R) (λN=>.list ((((am n).filter p).map g).map λi=>.tH i N)):=by
 refine⟨λF s r R Q E W=>?_⟩;refine rY (fj:=[]) (f:=λi N l=>dz x (.tH (g i) N) l) (p:=p) {cls:=.type "list",data:=.seq #[]} (λD i=>Tk.qaM w D (λN=>((((am i).filter p).map g).map λi=>.tH i N)))
  w9 rfl r hf ok kq (λF1 s1 g _=>C.st r g) (λD i=>rfl) ?hK0 (λQ E k=>hi.run F s r Q E k) (λa ha=>⟨(λh=>nomatch h),hex a ha F s r⟩) ?ht ?H (λi N hi=>G i N (by rw[j]at hi;exact hi)) ?I ?J ?W ?X hs
 case hK0=>exact λF1 s1 s2 D _ _ e _=>⟨0,bG _,[],0,e,.nil⟩
 case J=>intro i D O;rw[dv,dP];simp[O]
 case X=>exact λs Q E h=>cE h
 case ht=>exact λi N _ cells L s0 F0=>(kE hx).ry _ _ _ _
 case H=>exact λi N z u e=>j7 hx z u e
 case I=>
  intro i N t O cells Lo D L F' s' Y P hL S;rw[j]at t;refine aa ((V i N t O _ _ (St.pre B w _ (dz x (.tH (g i) N) (ci scope loc)) _) (λF s h=>C.st r h.d6) nf).run F' s' S _ _ λv F2 s2 g2 r2=>?_);have d:=S.gr g2;refine cY d.cV.1 λM hM Z=>?_;refine m8 Z λvs m e1 r1=>?_;refine aa (gp ⟨m,e1⟩ (λh' j y=>au ?_) ?_)
  .refine iA j λn' e2=>⟨F2,St.uv d y (.inl P) (.head _) ⟨⟨max M N,NK.mpr ⟨hM,aA Y g2.toks⟩,vs++[v],n',?_,?_⟩,?_⟩ λb hb=>hb⟩
   .show h'.get? D=_;rw[e2];simp
   .dsimp only;rw[dv,dP,aU,aU];rw[qg O];exact(GY (S3 _ _) r1).append (.cons (r2.Kt (RN _ _)) .nil)
   .refine L.st d.cV.2 (Le.refl _) (λb o e=>(y.2 b λq=>?_).trans (d.bs.bh b o e)) (λb hb o e=>(y.2 b λq=>hL b hb (by rw[q];exact .head _)).trans e) (λ_ _ _ e=>e) (ah _);rw[q,(d.apart _ (.head _)).1]at e;cases e
  .have e3:=r1.length;have e4:(((((am i).filter p).map g).map λi=>T.tH i M)).length<=i:=by rw[af,af];exact aA (cH _ _) (by simp)
   simp only[aL];exact Xd hn t e3 e4
 case W=>
  intro D Cl F' s' g' hI hap P hCl hDC hCn hm;refine cY hI λN Y Z=>?_;refine m8 Z λvs m e1 e2=>?_;have U:=(hap D (.head _)).1;rw[j]at e2;refine W D Cl (ie F' D _) s' N Y (iW g' U e1 P) (.list (by delta ie;rw[if_pos rfl]) (e2.cC (ee U))) P hCl ?_ hm;delta ie;rw[if_neg λq=>hDC q.symm];exact hCn
def Cx{vs:List aE}{a:List Int}:da w F vs (a.map λi=>T.tH i N)->da w F vs (a.map T.int):=G3 λz z r=>r.BA
def Rp.QZ{a:List Int}(r:Rp w F v (.list (a.map λi=>T.tH i N))):Rp w F v (.list (a.map T.int)):=by
 refine r.eL λz z z e r=>.list e (Cx r)
def Nv{K:Tk}{jk:Option (aE->jj Unit)->jj aE}{us:Nat->List T}(r:tG w K K' a ts)(i:X.s0.heap.objs.size<=a)(j:loc.lookup x=ab (.val (.ref a)))(k:∀N,(us N).all (T.nl n)=true)(h:ZU (St.pre B w X (dz x (.list ts) loc) K') w A jk (λN=>.list (us N))) :
 ZU (St.pre B w X loc K) w A jk (λN=>.list (us N)):=by
 refine⟨λF s b c Q E l=>?_⟩;refine mB (St.PR b r i j) λo m p t=>h.run _ s p c Q E λD Cl F' s' N u g v d e f y=>l D Cl _ s' N u (pI t g) (oP (g.le a o dG) m v (λq=>absurd ((b.apart a r.mem).2.1) (by rw[<-q];exact aV.mpr d)) (k N)) d e ?_ y;delta jH;split
 .rfl
 .exact f
def EM{K:Tk}(h:St B w X loc K F s)(j:ZA (St.pre B w X loc K) w A X.ax b t)(l:N0<=s.toks)
 (m:∀N M F v,N<=M->Rp w F v (t N)->Rp w F v (t M)) (n:KO X x) (o:cD false=cf b (ab (.Name x d)) pos.line X.ax)
 (k:∀N F' s',N0<=N->N<=s'.toks->St B w X (dz x (t N) loc) K F' s'->Go w A bj X.ax Q s'):Go w A (.Assign [.Name x d] b pos::bj) X.ax Q s:=by
 refine⟨bF (iO (j.run F s h _ _ λv e p N u g r=>?_) o.symm)⟩;have c:=h.gr g;refine jM (show St B w X loc (K.and (Tk.dM (max N0 N))) e p from c.add ⟨c.cV,NK.mpr ⟨aA l g.toks,u⟩⟩ λa f=>.inl (by simpa[Tk.and,Tk.dM] using f)) (m N (max N0 N) e v (RN _ _) r) n λy i=>(k _ e y (S3 _ _) i.cV.2 (i.nM (λa f=>ac _ f) λq=>q.1)).run
structure JT(C:fv B)(w:bC)(A:cO)(f:aE)(ts:List T)(ns:List bT)(ks:List T)(t:Nat->T):Prop where
 run:∀F s vs us,C.P F s->da w F vs ts->da w F us ks->∀(Q:Lx0) (E:Lx0),(∀v F' s' N,N<=s'.toks->Gr F s F' s'->Rp w F' v (t N)->Q v s')->aP (aO pw w) A (wY f vs (ns.zip us)) Q E s
def LW{C:fv B}(d:Ev C w A ax func (.val f))(c:si C w A pos ax args a ts ns ks)(e:bK B w f)
 (i:JT C w A f ts ns ks t) (j:dp (.Call func args a pos) ax=(do dB pos (<-dp func ax) [] (dc pos (br args ax)) (bR pos (bk a ax)))):ZA C w A ax (.Call func args a pos) t:=by
 refine⟨λF s b Q E l=>?_⟩;rw[j];refine aa (d.run F s b _ _ λv m n g r=>?_);refine r.eV <|dC c.plain (λh k=>e.ry h k) (c.run f m n (C.st b g) _ _ λvs us o p g2 r q=>⟨(C.bs (C.st (C.st b g) g2)).keep,?_⟩);exact i.run o p ([]++vs) us (C.st (C.st b g) g2) r q Q E λv u x N y g3 z=>l v u x N y ((g.trans g2).trans g3) z
set_option backward.match.sparseCases true
structure Ho(B:gn)(w:bC)(X:Fx)(A:cO)(Q:nP->aH->Prop)(loc:M2)(K:Tk)(body:List lS):Prop where
 run:∀F s,St B w X loc K F s->gM X K->Go w A body X.ax Q s
abbrev qF(B:gn)(w:bC)(X:Fx)(l:M2)(K L:Tk)(R:aH->Prop)(Q:nP->aH->Prop):nP->aH->Prop:=qS B w X (λa K'=>K'=K/\a=l) L R Q
def yw:∀{small a:M2},small.map (λp=>a.lookup p.1)=small.map (λp=>ab p.2)->∀y t,small.lookup y=ab t->a.lookup y=ab t:=@wt _ _ _ (fun {z} z y t e=>by cases e) λx u r b {a} h y t e=>by
 rw[lookup_cons]at e;by_cases q:y=x
 .rw [if_pos q]at e;cases e;subst q;exact(cA h).1
 .rw [if_neg q]at e;exact b (cA h).2 y t e
def n6{K:Tk}(a:St B w X loc K F s)(b:gM X K)(k:Ho B w X A Q loc K body):Go w A body X.ax Q s:=k.run F s a b
def ii{K:Tk}(loc')(a:loc'.map (λp=>ab p.2)=loc'.map (λp=>loc.lookup p.1))(k:Ho B w X A Q loc' K body):Ho B w X A Q loc K body:=⟨λF s b c=>k.run F s (b.uy (yw a.symm)) c⟩
def Hr{K:Tk}{a:Prop}(h:∀F s,K.I F s->a)(k:a->Ho B w X A Q loc K body):Ho B w X A Q loc K body:=⟨λF s b c=>(k (h F s b.cV)).run F s b c⟩
def X1{K:Tk}{a:Type}{c:Type}(P:a->c->Prop)(l:a->c->M2)(Kf:a->c->Tk)(k:(∀x y,P x y->Ho B w X A Q (l x y) (Kf x y) b)->Ho B w X A Q loc K body)(h:∀x y,P x y->Ho B w X A Q (l x y) (Kf x y) b):Ho B w X A Q loc K body:=k h
def cy{K:Tk}(c:Ev (St.pre B w X loc K) w A X.ax a t)
 (d:KO X x) (e:cD false=cf a (ab (.Name x b)) pos.line X.ax)
 (k:Ho B w X A Q (dz x t loc) K bj):Ho B w X A Q loc K (.Assign [.Name x b] a pos::bj):=⟨λz z f g=>j8 f c d e λF s h=>k.run F s h g⟩
def C4{K:Tk}{jk:Option (aE->jj Unit)->jj aE}(R)(h:gM X K->UE B w X loc K A jk R)
 (d:Cj a X.ax (lU (.Name x px) X.ax)=(do let _ <-jk (ab (lU (.Name x px) X.ax)))) (c:cD true=cf a (ab (.Name x px)) pos.line X.ax)
 (e:KO X x) (k:∀K' t,R K' t->Ho B w X A Q (dz x t loc) K' bj):Ho B w X A Q loc K (.Assign [.Name x px] a pos::bj):=
 ⟨λz z f b=>Bf f (h b) d c e λt K' F s r b h=>(k K' t r).run F s h b⟩
def gY{K:Tk}{jk:Option (aE->jj Unit)->jj aE}(h:Cp (St.pre B w X loc K) w A jk t)
 (c:Cj a X.ax (lU (.Name x px) X.ax)=(do let _ <-jk (ab (lU (.Name x px) X.ax)))) (b:cD true=cf a (ab (.Name x px)) pos.line X.ax)
 (d:KO X x) (k:Ho B w X A Q (dz x t loc) K bj):Ho B w X A Q loc K (.Assign [.Name x px] a pos::bj):=C4 _ (λf=>h.I f) c b d λz z e=>e.1▸e.2▸k
def i9{K:Tk}(a:Ev (St.pre B w X loc K) w A X.ax e t)(k:∀v F s,St B w X loc K F s->Rp w F v t->Q (.ret v) s):Ho B w X A Q loc K (.Return (ab e) pos::bj):=⟨λz z b z=>fi b a k⟩
def Wz{K:Tk}(d:wS (St.pre B w X loc K) w A X.ax c b)(k:Ho B w X A Q loc K ((if b then body else a)++bj)):Ho B w X A Q loc K (.If c body a pos::bj):=⟨λz z e f=>UA e d λF s h=>k.run F s h f⟩
def mU{K:Tk}(f:wS (St.pre B w X loc K) w A X.ax c b)(g:b=true->Ho B w X A Q loc K (body++bj))(i:b=false->Ho B w X A Q loc K (a++bj)) :
 Ho B w X A Q loc K (.If c body a pos::bj):=⟨λz z j d=>kF j f (λe F s h=>(g e).run F s h d) λe F s h=>(i e).run F s h d⟩
def ly{K:Tk}(c:wS (St.pre B w X loc K) w A X.ax b false)(k:Ho B w X A Q loc K (a++bj)):Ho B w X A Q loc K (.If b body a pos::bj):=Wz c k
def Sd{K:Tk}(c:wS (St.pre B w X loc K) w A X.ax a true)(k:Ho B w X A Q loc K (body++bj)):Ho B w X A Q loc K (.If a body b pos::bj):=Wz c k
def wq{K:Tk}(k:∀F s,St B w X loc K F s->gM X K->Q .next s):Ho B w X A Q loc K []:=⟨λF s a b=>oa (k F s a b)⟩
def ma{K:Tk}(a:l.map (λp=>ab p.2)=l.map (λp=>loc.lookup p.1)):Ho B w X A (qF B w X l K L R Q) loc (K.bI L) []:=wq λF z b z=>⟨l,K,F,⟨rfl,rfl⟩,b.uy (yw a.symm)⟩
def pH{K:Tk}(e:JU (St.pre B w X loc K) w A X.ax b ts)(f:ts.all (T.nl n)=true)
 (g:KO X x) (i:cD false=cf b (ab (.Name x c)) pos.line X.ax)
 (k:∀a,X.s0.heap.objs.size<=a->Ho B w X A Q (dz x (.val (.ref a)) loc) (K.bI (Tk.cu w a ts)) bj):Ho B w X A Q loc K (.Assign [.Name x c] b pos::bj):=
 ⟨λz z j d=>sv j d e f g i λa F s l d h=>(k a l).run F s h d⟩
def yg{K:Tk}(x)(c:X.s0.heap.objs.size<=a)(d:loc.lookup x=ab (.val (.ref a)))(k:Ho B w X A Q (dz x (.list ts) loc) K body):Ho B w X A Q loc (K.bI (Tk.cu w a ts)) body:=
 ⟨λz s e b=>Me e b c d λF b h=>k.run F s h b⟩
def qN{K:Tk}(c:gM X K->n8 B w X loc K A e R)(d:∀K t,R K t->∀F a,¬Rp w F (.ref a) t)(hi:false=jy X.ax)(f:cD false=cf e aC pos.line X.ax)
 (k:∀K' t,R K' t->Ho B w X A Q loc K' bj):Ho B w X A Q loc K (.Expr e pos::bj):=⟨λz z g b=>rf g (c b) d hi f λK' t F s r b h=>(k K' t r).run F s h b⟩
def rj{K:Tk}(a:gM X K->n8 B w X loc K A e (λb t=>b=K'/\t=.none))(hi:false=jy X.ax)(c:cD false=cf e aC pos.line X.ax)
 (k:Ho B w X A Q loc K' bj):Ho B w X A Q loc K (.Expr e pos::bj):=qN a (λz z h=>Qw h.2) hi c λz z h=>h.1▸k
def pG{K:Tk}(d:gM X K->n8 B w X loc K A a R)(e:KO X x)(f:cD false=cf a (ab (.Name x b)) pos.line X.ax)
 (k:∀K' t,R K' t->Ho B w X A Q (dz x t loc) K' bj):Ho B w X A Q loc K (.Assign [.Name x b] a pos::bj):=⟨λz z g c=>El g (d c) e f λK' t F s r c h=>(k K' t r).run F s h c⟩
def SJ{K:Tk}(c:gM X K->n8 B w X loc K A a (λd u=>d=K'/\u=t))(e:KO X x)(f:cD false=cf a (ab (.Name x b)) pos.line X.ax)
 (k:Ho B w X A Q (dz x t loc) K' bj):Ho B w X A Q loc K (.Assign [.Name x b] a pos::bj):=pG c e f λz z h=>h.1▸h.2▸k
def L6{K:Tk}{c:Tk}{e:Lx0}{R:Tk->T->Prop}(f:∀v t K' F' s',R K' t->ic c.tk F s F' s'->K'.I F' s'->(∀a∈K'.tk,F' a=aC/\a<s'.heap.objs.size/\(a∈c.tk\/s.heap.objs.size<=a))->Rp w F' v t->e v s')(r:R K .none) :
 Ho B w ⟨ax,s,F,c.tk,own⟩ A (λfl s'=>e (match fl with | .ret v=>v|z=>.none) s') loc K []:=wq λF' s' b g=>f .none .none K F' s' r b.d6 b.cV (λa d=>⟨(b.apart a d).1,(b.apart a d).2.1,(g a d).symm⟩) .none
def Ft{K:Tk}{f:Nat->M2->M2}(c:Nat->M2)(Kf:Nat->Tk)
 (hi:pO (St.pre B w X loc K) w A X.ax iter target ts []) (g:∀i,(Kf i).tk=(Kf 0).tk/\(Kf i).gk=(Kf 0).gk) (h:∀i t,ts[i]?=ab t->zu B w A X target t (f i)) (j:loc=c 0) (d:K=Kf 0)
 (oD:∀L i,i<ts.length->Ho B w X A (qF B w X (c (i+1)) (Kf (i+1)) L (Go w A bj X.ax Q) Q) (f i (c i)) ((Kf i).bI L) body)
 (jO:Ho B w X A Q (c ts.length) (Kf ts.length) bj)
 (k:autoParam (∀x,bw iter X.ax x=cD x) y2):Ho B w X A Q loc K (.For target iter body [] pos::bj):=by
 refine⟨λF s a b=>NC (λi l K'=>K'=Kf i/\l=c i) a b hi (λi l K' e=>?_) h ⟨d,j⟩ (λL i l K' F s hi e b a=>?_) (λl K' F s e b a=>?_) k⟩
 .rw [e.1,d];exact g i
 .rw [e.1]at b a;rw[e.2]at a;exact(oD L i hi).run F s a b
 .rw [e.1]at b a;rw[e.2]at a;exact oa (jO.run F s a b)
def ny{X:Fx}{Q:nP->aH->Prop}{loc:M2}{K:Tk}{bj:List lS}{x:bT}{iter:bv}{body:List lS}{n:Nat}{τ:Nat->T}(a:Nat->M2)(Kf:Nat->Tk)
 (hi:pO (St.pre B w X loc K) w A X.ax iter (.Name x px) ((am n).map τ) []) (c:KO X x) (d:∀i,(Kf i).tk=(Kf 0).tk/\(Kf i).gk=(Kf 0).gk) (g:loc=a 0) (h:K=Kf 0)
 (oD:∀(L:Tk) i,i<n->Ho B w X A (qF B w X (a (i+1)) (Kf (i+1)) L (Go w A bj X.ax Q) Q) (dz x (τ i) (a i)) ((Kf i).bI L) body)
 (jO:Ho B w X A Q (a n) (Kf n) bj)
 (j:autoParam (∀x,bw iter X.ax x=cD x) y2):Ho B w X A Q loc K (.For (.Name x px) iter body [] pos::bj):=by
 have b:((am n).map τ).length=n:=by rw[af,aZ]
 refine Ft (f:=λi l=>dz x (τ i) l) a Kf hi d (λi t e=>?_) g h (λL i hi=>oD L i (by rw[b]at hi;exact hi)) (by rw[b];exact jO) j;rw[nD e];exact hO c
def q8{X:Fx}{Q:nP->aH->Prop}{loc:M2}{K:Tk}(K':Tk){body:List lS}(b:∀x∈K'.tk,x∈K.tk)(h:∀F s,K.I F s->K'.I F s)(k:Ho B w X A Q loc K' body):Ho B w X A Q loc K body:=⟨λF s c d=>k.run F s (c.nM b (h F s)) λa e=>d a (b a e)⟩
def H7{X:Fx}{Q:nP->aH->Prop}{loc:M2}{K:Tk}{bj:List lS}{x:bT}{y:bT}{a:bv}{t:T}(c:Ev (St.pre B w X loc K) w A X.ax a t)
 (d:KO X x) (b:KO X y) (e:cD aC=nI [.Name x px,.Name y f] a X.ax)
 (k:Ho B w X A Q (dz y t (dz x t loc)) K bj):Ho B w X A Q loc K (.Assign [.Name x px,.Name y f] a pos::bj):=⟨λz z g i=>Jd g c d b e λF s h=>k.run F s h i⟩
def SF{X:Fx}{Q:nP->aH->Prop}{loc:M2}{K:Tk}{bj:List lS}{x:bT}{b:Operator}{a:bv}{t:T}{u:T}{r:T}(d:loc.lookup x=ab t)(e:Ev (St.pre B w X loc K) w A X.ax a u)(c:mz (St.pre B w X loc K) w A (JI b) t u r)
 (f:KO X x) (k:Ho B w X A Q (dz x r loc) K bj):Ho B w X A Q loc K (.AugAssign (.Name x px) b a pos::bj):=⟨λz z g i=>XS g d e c f λF s h=>k.run F s h i⟩
def uE{X:Fx}{Q:nP->aH->Prop}{loc:M2}{K:Tk}{bj:List lS}{c:List bv}{d:Nat}{a:bv}{t:T}{f:M2->M2}(e:Ev (St.pre B w X loc K) w A X.ax a t)(g:zu B w A X (.Tuple c d b) t f)
 (i:cD false=swapsWithSole [.Tuple c d b] a pos.line X.ax) (j:cD aC=nI [.Tuple c d b] a X.ax) (k:Ho B w X A Q (f loc) K bj):Ho B w X A Q loc K (.Assign [.Tuple c d b] a pos::bj):=⟨λz z l m=>BS l e g i j λF s h=>k.run F s h m⟩
def u9{X:Fx}{Q:nP->aH->Prop}{loc:M2}{K:Tk}{bj:List lS}{K':Tk}{a:bu}{ts:List T}{t:T}{o:bv}{i:bv}{b:bv}{j:Int}(f:bU K K' (Tk.cu w a ts) (Tk.cu w a (ts.set j.toNat t)))(e:Ev (St.pre B w X loc K) w A X.ax b t)(g:Ev (St.pre B w X loc K) w A X.ax o (.val (.ref a)))
 (l:Ev (St.pre B w X loc K) w A X.ax i (.int j)) (m:0<=j) (n:j<2 ^ 63) (p:j<(ts.length:Int)) (q:cD false=cf b (ab (.Subscript o i c)) pos.line X.ax) (k:Ho B w X A Q loc K' bj) :
 Ho B w X A Q loc K (.Assign [.Subscript o i c] b pos::bj):=⟨λz z r d=>Ip r d f e g l m n p q λF s d h=>k.run F s h d⟩
def xD{X:Fx}{Q:nP->aH->Prop}{loc:M2}{K:Tk}{bj:List lS}{x:bT}{a:bv}{t:Nat->T}{N0:Nat}(d:ZA (St.pre B w X loc K) w A X.ax a t)(e:∀F s,K.I F s->N0<=s.toks)(f:∀N M F v,N<=M->Rp w F v (t N)->Rp w F v (t M))
 (g:KO X x) (i:cD false=cf a (ab (.Name x b)) pos.line X.ax)
 (k:∀N,N0<=N->Ho B w X A Q (dz x (t N) loc) ((Tk.dM N).bI K) bj):Ho B w X A Q loc K (.Assign [.Name x b] a pos::bj):=
 ⟨λF s c j=>EM c d (e F s c.cV) f g i λN F s l m h=>(k N l).run F s (h.nM (λz n=>n) λo=>⟨m,o,kq⟩) j⟩
abbrev qG{σ:Type}(B:gn)(w:bC)(X:Fx)(P:σ->Prop)(l:σ->M2)(K:σ->Tk)(L:Tk)(R:aH->Prop)(Q:nP->aH->Prop):nP->aH->Prop:=qS B w X (λa K'=>∃z,P z/\K'=K z/\a=l z) L R Q
def yL{σ:Type}{P:σ->Prop}{l:σ->M2}{a:σ->Tk}(z:σ)(b:P z)(c:(l z).map (λp=>ab p.2)=(l z).map (λp=>loc.lookup p.1)):Ho B w X A (qG B w X P l a L R Q) loc ((a z).bI L) []:=
 wq λF y d y=>⟨l z,a z,F,⟨z,b,rfl,rfl⟩,d.uy (yw c.symm)⟩
def E3{X:Fx}{Q:nP->aH->Prop}{loc:M2}{K:Tk}{bj:List lS}{σ:Type}{target:bv}{iter:bv}{body:List lS}{ts:List T}{f:Nat->M2->M2}(P:Nat->σ->Prop)(d:Nat->σ->M2)(Kf:Nat->σ->Tk)
 (hi:pO (St.pre B w X loc K) w A X.ax iter target ts []) (g:∀i z,(Kf i z).tk=K.tk/\(Kf i z).gk=K.gk) (h:∀i t,ts[i]?=ab t->zu B w A X target t (f i)) (a:σ) (j:P 0 a) (k:loc=d 0 a) (m:K=Kf 0 a)
 (oD:∀(L:Tk) i z,i<ts.length->P i z->Ho B w X A (qG B w X (P (i+1)) (d (i+1)) (Kf (i+1)) L (Go w A bj X.ax Q) Q) (f i (d i z)) ((Kf i z).bI L) body)
 (jO:∀z,P ts.length z->Ho B w X A Q (d ts.length z) (Kf ts.length z) bj)
 (n:autoParam (∀x,bw iter X.ax x=cD x) y2):Ho B w X A Q loc K (.For target iter body [] pos::bj):=by
 refine⟨λF s b c=>NC (λi l K'=>∃z,P i z/\K'=Kf i z/\l=d i z) b c hi (λi l K' e=>?_) h ⟨a,j,m,k⟩ (λL i l K' F s hi e c b=>?_) (λl K' F s e c b=>?_) n⟩
 .refine mB e λz y e y=>?_;rw[e];exact g i z
 .refine mB e λz p e1 e2=>?_;rw[e1]at c b;rw[e2]at b;exact(oD L i z hi p).run F s b c
 .refine mB e λz p e1 e2=>?_;rw[e1]at c b;rw[e2]at b;exact oa ((jO z p).run F s b c)
def Uk{X:Fx}{Q:nP->aH->Prop}{loc:M2}{K:Tk}{bj:List lS}{σ:Type}{x:bT}{iter:bv}{body:List lS}{n:Nat}{τ:Nat->T}(P:Nat->σ->Prop)(b:Nat->σ->M2)(Kf:Nat->σ->Tk)
 (hi:pO (St.pre B w X loc K) w A X.ax iter (.Name x px) ((am n).map τ) []) (d:KO X x) (g:∀i z,(Kf i z).tk=K.tk/\(Kf i z).gk=K.gk) (a:σ) (h:P 0 a) (j:loc=b 0 a) (k:K=Kf 0 a)
 (oD:∀(L:Tk) i z,i<n->P i z->Ho B w X A (qG B w X (P (i+1)) (b (i+1)) (Kf (i+1)) L (Go w A bj X.ax Q) Q) (dz x (τ i) (b i z)) ((Kf i z).bI L) body)
 (jO:∀z,P n z->Ho B w X A Q (b n z) (Kf n z) bj)
 (m:autoParam (∀x,bw iter X.ax x=cD x) y2):Ho B w X A Q loc K (.For (.Name x px) iter body [] pos::bj):=by
 have c:((am n).map τ).length=n:=by rw[af,aZ]
 refine E3 (f:=λi l=>dz x (τ i) l) P b Kf hi g (λi t e=>?_) a h j k (λL i z hi=>oD L i z (by rw[c]at hi;exact hi)) (by rw[c];exact jO) m;rw[nD e];exact hO d
def uc{X:Fx}{Q:nP->aH->Prop}{loc:M2}{K:Tk}{bj:List lS}{σ:Type}{f:bv}{body:List lS}(P:Nat->σ->Prop)(d:Nat->σ->M2)(Kf:Nat->σ->Tk)(a:Nat)(c:σ)(k:P a c)(m:loc=d a c)(o:K=Kf a c)
 (oD:∀n z,P n z->∃b,wS (St.pre B w X (d n z) (Kf n z)) w A X.ax f b/\
  (b=true->Ho B w X A (qW B w X (λn l K=>∃z,P n z/\K=Kf n z/\l=d n z) n (Go w A bj X.ax Q) Q) (d n z) (Kf n z) body)/\(b=false->Ho B w X A Q (d n z) (Kf n z) bj)):Ho B w X A Q loc K (.While f body [] pos::bj):=by
 refine⟨λF s j g=>Rh (λn l K=>∃z,P n z/\K=Kf n z/\l=d n z) a j g ⟨c,k,o,m⟩ λn l K' F' s' e g j=>?_⟩;refine mB e λz p e1 e2=>?_;subst e1 e2;refine mB (oD n z p) λb e q r=>⟨b,e,λi F s h=>(q i).run F s h g,λi F s h=>oa ((r i).run F s h g)⟩
def ym{σ:Type}{P:Nat->σ->Prop}{l:Nat->σ->M2}{a:Nat->σ->Tk}(m:Nat)(z:σ)(b:m<n)(c:P m z)(d:(l m z).map (λp=>ab p.2)=(l m z).map (λp=>loc.lookup p.1)) :
 Ho B w X A (qW B w X (λn e K=>∃z,P n z/\K=a n z/\e=l n z) n R Q) loc (a m z) []:=wq λF y f g=>⟨m,l m z,a m z,F,b,⟨z,c,rfl,rfl⟩,g,f.uy (yw d.symm)⟩
set_option backward.match.sparseCases false
noncomputable abbrev iT(n:Nat):T:=.int (n:Int)
abbrev mT(l:Q1):T:=.list (l.map iT)
noncomputable abbrev mE(d:Lx2):T:=.list ((am 5).map λi=>.list ((am 5).map λj=>.int (d i j)))
def J0(l:Q1):l.map iT=(am l.length).map λk=>iT (l.getD k 0):=jK l 0 iT
def sF(ts:List T):(am ts.length).filterMap (ts[·]?)=ts:=by
 have key:∀n,n<=ts.length->(am n).filterMap (ts[·]?)=ts.take n:=by
  intro n
  induction n with
  |zero=>intro z;simp
  |succ n a=>
   intro h;rw[dv,FW,a #v[(bW Su3) h],d7];simp[(show ts[n]?=ab ts[n] from ay #v[(bW 0x101106d) h])]
 rw[key _ (ah _),iU]
def J1(ts):ta ts aC aC (ab (-1))=ts.reverse:=by
 have e:il (eZ aC aC (ab (-1)) ts.length).1 (eZ aC aC (ab (-1)) ts.length).2.1 (eZ aC aC (ab (-1)) ts.length).2.2=(am ts.length).reverse:=by
  show il ((ts.length:Int)-1) (-1) (-1)=_;delta il;have e2:(if (-1:Int) > 0 then (if (ts.length:Int)-1 < -1 then (-1-((ts.length:Int)-1) + -1-1) / -1 else 0)else (if (ts.length:Int)-1 > -1 then ((ts.length:Int)-1 - -1 - -1-1) / (- -1)else 0)).toNat=ts.length:=by
   rw[if_neg #v[_],show (- -1:Int)=1 by decide];refine(show _=(if (0:Int)<(ts.length:Int)then ((ts.length:Int)-0+1-1) / 1 else 0).toNat from ?_).trans (Hh _);rw[show (ts.length:Int)-1 - -1 - -1-1=(ts.length:Int)-0+1-1 by exact bO 0x13030756513132f132f130755555,SI (show (ts.length:Int)-1 > -1↔(0:Int)<(ts.length:Int) from ⟨λh=>by exact(bO 0x703413075132f4c) h,λh=>by exact(bO 0x13075132f407034c) h⟩) rfl rfl]
  dsimp only;rw[e2];apply gJ
  .simp
  .intro n a b;simp at a;simp;exact(bW 0x113055172f130754b201e) a
 delta ta;rw[e,List.filterMap_reverse,sF]
def IE(ts):ta ts (ab (-1)) aC aC=ts.drop (ts.length-1):=by
 have e:il (eZ (ab (-1)) aC aC ts.length).1 (eZ (ab (-1)) aC aC ts.length).2.1 (eZ (ab (-1)) aC aC ts.length).2.2=(am (D5 1 ts.length)).map λk=>ts.length-1+k:=by
  show il (max 0 (D5 (-1+(ts.length:Int)) (ts.length:Int))) (ts.length:Int) 1=_;delta il;have e2:(if (1:Int) > 0 then (if max 0 (D5 (-1+(ts.length:Int)) (ts.length:Int))<(ts.length:Int)then ((ts.length:Int)-max 0 (D5 (-1+(ts.length:Int)) (ts.length:Int))+1-1) / 1 else 0)else (if max 0 (D5 (-1+(ts.length:Int)) (ts.length:Int)) > (ts.length:Int)then (max 0 (D5 (-1+(ts.length:Int)) (ts.length:Int))-(ts.length:Int)-1-1) / (-1)else 0)).toNat=D5 1 ts.length:=by
   rw[if_pos #v[_]];generalize a:max 0 (D5 (-1+(ts.length:Int)) (ts.length:Int))=m;exact(Ex #v[(jP 0x70300707132f4d03e5c) a]).trans #v[(jP 0x13d0075b200707132f4d03e5c) a]
  dsimp only;rw[e2];refine bL λj z=>bW 0x113054171a0707132f4d03e4b2
 delta ta;rw[e,JJ];cases h:ts.length with
 |zero=>have:ts=[]:=ll.mp h;subst this;rfl
 |succ n=>
  have e2:ts.drop n=[ts[n]]:=by
   rw[kf (h▸bH n),Eb (dm h)]
  show (am (D5 1 (n+1))).filterMap ((ts[·]?)∘λk=>n+1-1+k)=ts.drop (n+1-1);rw[show D5 1 (n+1)=1 by exact bO 0x130613d2,show n+1-1=n by exact bO 0x130652,e2];simp[(show ts[n]?=ab ts[n] from ay #v[(bW 0x101061f) h])]
def AR(h:ts.length+us.length<=be):mz C w A (iN .Add) (.list ts) (.list us) (.list (ts++us)):=by
 refine⟨λj k F s e f g Q E i=>?_⟩;refine f.eL λa vs n e1 c=>g.eL λb xs m e2 d=>?_;have bh:=(C.bs e).bh;refine P.add_list (bh _ _ e1) (bh _ _ e2) (i _ _ _ (lk bh rfl) ?_) (by rw[aL,aL,c.length,d.length];exact h);exact .list (by rw[show (vs++xs).toArray=vs.toArray++xs.toArray by simp];exact dG) ((c.append d).cC (ee (c8 bh (ah _))))
def td(h:Ev C w A ax e (.int i)):Ev C w A ax (.UnaryOp .USub e pos) (.int (-i)):=by
 refine⟨λF s a Q E b=>wpAny_UnaryOp (h.run F s a _ _ λv c d g r=>?_)⟩;refine r.eI λz=>P.neg_int (b _ _ _ (g.trans (Gr.j4 (C.bs (C.st a g)).bh _)) (.int _ _))
def Nd(l:Q1)(i):((l.map iT).any λy=>i8 y.toD (iT i).toD)=l.contains i:=by
 induction l with
 |nil=>rfl
 |cons x l a=>
  rw[bN,kJ,a,JM];congr 1;show i8 (.int x) (.int i)=_;rw[i8];by_cases h:x=i
  .subst h;simp
  .have b:((x:Int)==i)=false:=beq_eq_false_iff_ne.mpr #v[(bW Su2) h];have c:(i==x)=false:=beq_eq_false_iff_ne.mpr (λq=>h q.symm);rw[b,c]
noncomputable def QK(tie:Lx1)(o:Q1):Q1:=
 let left:=(am 5).filter λi=>!o.contains i
 o++[((o.reverse.flatMap λm=>left.filter (tie m))++left).headD 0]
def kr(tie:Lx1)(n:Nat):Q1:=n.rec [] λz a=>QK tie a
def EI:kr tie (n+1)=kr tie n++[(((kr tie n).reverse.flatMap λm=>((am 5).filter λi=>!(kr tie n).contains i).filter (tie m))++((am 5).filter λi=>!(kr tie n).contains i)).headD 0]:=rfl
def yN(tie):∀n,(kr tie n).length=n:=ig rfl λn a=>by rw[EI,aw,a];rfl
def jE{X:Fx}(a:ab .cell=X.ax.kindOf x)(b:true=X.own.contains x):KO X x:=.inr ⟨a.symm,d8.mp b.symm⟩
abbrev odA(d:Lx2)(eE:Int)(a:bu):M2:=[("dues",mE d),("bound",.int eE),("order",.val (.ref a))]
def rc(b:A.handled=aC):Qn w A target (.D3 0 n) ((am n).map iT):=by
 simpa only[fM] using (xf (w:=w) (A:=A) (target:=target) (a:=0) b)
def lQ{n:Nat}(h:n<=1000):cR C w A (.type "range") [.int (n:Int)] [] [] (.D3 0 n):=uZ #v[(jP 0x702f30e8d4a51000a93c3e8390d) h sy] #v[(jP 0x740e8d4a51000a93c3e8390d) h sy]
def me{B:gn}{C:fv B}{n:Nat}(a:dg w B)(b:A.handled=aC)(c:autoParam (cK n 1000=true) ou)(d:autoParam (zJ x=ab (.type "range")) ou) (h:autoParam (true=ckN w.params ax x) wU):pO C w A ax (.Call (.Name x px) [.Constant (.int (n:Int)) k p] [] pos) target ((am n).map iT) []:=iC (dD a bA bK.ty (lQ (bE c)) d h) (rc b)
def DA(a:Rm (k+1) A):mz C w A (cQ .NotIn) (iT i) (mT o) (.bool (!o.contains i)):=by
 have:=KY (C:=C) (w:=w) (t:=iT i) (ts:=o.map iT) 0 a #v[_] rfl (all_map (λz=>rfl) _);rw[Nd]at this;exact this
def Pe{d:Lx2}(h:i<5):((am 5).map λi=>T.list ((am 5).map λj=>.int (d i j)))[((i:Nat):Int).toNat]?=ab (.list ((am 5).map λj=>.int (d i j))):=by
 rw[cx,aI,cM h];rfl
def T1{f:Nat->Int}(h:j<5):((am 5).map λj=>T.int (f j))[((j:Nat):Int).toNat]?=ab (.int (f j)):=by
 rw[cx,aI,cM h];rfl
def lX(h:i<5):gF C w A (mE d) (iT i) (.list ((am 5).map λj=>.int (d i j))):=gz #v[(bO Su8) h] #v[(jP Su7) h ir] (Pe h)
def lW{f:Nat->Int}(h:j<5):gF C w A (.list ((am 5).map λj=>.int (f j))) (iT j) (.int (f j)):=gz #v[(bO Su8) h] #v[(jP Su7) h ir] (T1 h)
end Mine
namespace Mine
def Gs(tie):∀n,∀x∈kr tie n,x<5:=ig (λx h=>nomatch h) λn c x h=>by
 rw[EI]at h;rcases ao.mp h with h|h
 .exact c x h
 .rw [aB.mp h];generalize d:(am 5).filter (λi=>!(kr tie n).contains i)=left;have a:∀y∈left,y<5:=λy b=>by rw[<-d]at b;exact c5.mp (c3.mp b).1
  generalize e:((kr tie n).reverse.flatMap λm=>left.filter (tie m))++left=ws;cases ws with
  |nil=>decide
  |cons y ys=>
   have:y∈((kr tie n).reverse.flatMap λm=>left.filter (tie m))++left:=by rw[e];exact .head _
   rcases ao.mp this with h|h
   .refine cY (dj.mp h) λm z f=>a y (c3.mp f).1
   .exact a y h
def Va:∀n (l:Q1),(∀i,i<n->i∈l)->n<=l.length:=ig (λz z=>bG _) λn b l h=>by
 have a:=b (l.erase n) λi hi=>(List.mem_erase_of_ne #v[(bW 0x10a10e) hi]).mpr (h i #v[(bW 0x160110e) hi]);rw[List.length_erase_of_mem (h n #v[bO 0x601])]at a;have:0<l.length:=List.length_pos_of_mem (h n #v[bO 0x601]);exact(bW 0x1060103e13150d) a this
def QJ{o:Q1}(h:o.length<5):(am 5).filter (λi=>!o.contains i)≠[]:=λq=>by
 have:=Va 5 o λi hi=>by
  by_cases c:o.contains i=true
  .exact d8.mp c
  .have:i∈(am 5).filter (λi=>!o.contains i):=c3.mpr ⟨c5.mpr hi,by rw[f9.mpr c];rfl⟩;rw[q]at this;cases this
 exact(bO 0x9053d530e) h this
end Mine
namespace Mine
open PySem PySem.W PySem.Spec PySem.Calls PyProof.Rows
noncomputable abbrev jT(N:Nat)(n:Nat):T:=.tH (n:Int) N
abbrev wV(N:Nat)(l:Q1):T:=.list (l.map (jT N))
def Ei(N)(l:Q1):l.map (jT N)=(l.map λ(n:Nat)=>(n:Int)).map λi=>T.tH i N:=by rw[aQ];rfl
def Mu(l:Q1):l.map iT=(l.map λ(n:Nat)=>(n:Int)).map T.int:=by rw[aQ];rfl
def Rp.Sg(r:Rp w F v (wV N l)):Rp w F v (mT l):=by
 delta wV at r;delta mT;rw[Ei]at r;rw[Mu];exact r.QZ
def z6{l:Q1}(h:N<=M)(r:da w F vs (l.map (jT N))):da w F vs (l.map (jT M)):=by
 rw[Ei]at *;exact GY h r
def Rp.Sv(h:N<=M)(r:Rp w F v (wV N l)):Rp w F v (wV M l):=by
 refine r.eL λz z z e r=>.list e (z6 h r)
def De(h)(l m:Q1)(tie:Lx1):Bn m.length (λi j=>tie (l.getD i 0) (m.getD j 0)) (λz j=>h (m.getD j 0)) l.length=(l.flatMap λx=>m.filter (tie x)).map h:=by
 have key:∀n,n<=l.length->Bn m.length (λi j=>tie (l.getD i 0) (m.getD j 0)) (λz j=>h (m.getD j 0)) n=((l.take n).flatMap λx=>m.filter (tie x)).map h:=by
  intro n
  induction n with
  |zero=>intro z;rfl
  |succ n a=>
   intro h;rw[Nz,a (gc h),rH m 0 _ _,d7,ay (Op h),nH,aU];simp[ar,ay (Op h)]
 rw[key _ (ah _),iU]
def vI(h:Nat->T)(l:Q1):l.map h=(am l.length).map λk=>h (l.getD k 0):=jK l 0 h
def YT(N)(l:Q1):(l.map (jT N)).all (T.nl 0)=true:=all_map (λz=>rfl) l
def J8(h:l≠[]):(l.map (jT N))[((0:Int)).toNat]?=ab (jT N (l.headD 0)):=by
 cases l with
 |nil=>exact absurd rfl h
 |cons x xs=>rfl
def Dq(a:Rm (k+1) A):mz C w A (cQ .NotIn) (jT N i) (wV M o) (.bool (!o.contains i)):=by
 have h:=DA (C:=C) (w:=w) (k:=k) a (o:=o) (i:=i);exact⟨λb c F s d e f Q E g=>h.run b c F s d e.BA f.Sg Q E g⟩
def we(h:Ev C w A ax e (wV N l)):Ev C w A ax e (mT l):=h.cC λz z r=>r.Sg
def SK(h:Ev C w A ax e (jT N l)):Ev C w A ax e (iT l):=h.cC λz z r=>r.BA
def DK(a:A.handled=aC)(h:Ev C w A ax iter (.D3 0 n))(b:∀F s,C.P F s->1<=s.toks) :
 ItE C w A ax iter (.Name x px) ((am n).map λ(i:Nat)=>.Ab (0+(i:Int)) 1) [] (λi N=>.tH (i:Int) N):=by
 have:=Fe (px:=px) (x:=x) a h b;simpa only[fM] using this
def CL{C:fv B}(V:dg w B)(G:Rm (n+3) A){eE:Int}(hC:∀F s,C.P F s->1<=s.toks) :
 JT C w A (.ref 388) [mE d,.int eE] [] [] (λN=>wV N (kr (λi j=>decide (d i j<=eE)) 5)):=by
 refine⟨λF s vs us W hv hu Q E hQ=>?_⟩;refine hv.e2 λva vb r1 r2=>enter (K:=Tk.dM 1) [("dues",mE d),("bound",.int eE)] [va,vb] [] ["dues", "bound", "order", "left"] V (C.bs W) G rfl #v[] (cb rfl) rfl rfl (.cons r1 (.cons r2 .nil)) (hC F s W) kq λL s1 hL hS=>n6 hS xo ?_;generalize X:(λi j=>decide (d i j<=eE))=tie;refine pH (n:=0) (ts:=[]) (iD aK #v[_]) rfl (jE rfl rfl) rfl λa O=>uc (λm N=>m<=5/\1<=N) (λ_ _=>odA d eE a) (λm N=>(Tk.dM N).bI (Tk.cu w a ((kr tie (5-m)).map (jT N)))) 5 1 ⟨by decide,ah _⟩ rfl rfl ?_;rintro m N0 ⟨H,S⟩;generalize y:5-m=k;have b:=yN tie k;generalize I:kr tie k=o at *;refine⟨_,x9 (x:= "order") (ts:=o.map (jT N0)) tG.right O rfl (aN (dD V aF bK.bi (nZ (by rw[af,aJ];exact(dO 0x1000000790020f21535f531d) H y b))) bA MV),?_,?_⟩
 .intro c;rw[af,b]at c;have c:=of_decide_eq_true c;refine xD (t:=λN=>wV N ((am 5).filter λi=>!o.contains i)) (N0:=N0) ?_ (λ_ _ h=>h.1) (λ_ _ _ _ h r=>r.Sv h) (jE rfl rfl) rfl λN Y=>?_
  .have he:(λN=>wV N ((am 5).filter λi=>!o.contains i))=λN=>T.list ((((am 5).filter λi=>!o.contains i).map λ(n:Nat)=>(n:Int)).map λi=>T.tH i N):=by funext N;delta wV;rw[Ei]
   rw[he];refine Vv (Nv (x:= "order") (n:=0) tG.right O rfl (λN=>all_map (λ_=>rfl) _) ?_) rfl;refine No (n:=5) (ts:=(am 5).map λ(i:Nat)=>.Ab (0+(i:Int)) 1) (ex:=[]) (p:=λi=>!o.contains i) (g:=λ(n:Nat)=>(n:Int)) nf su ?_ rfl kq #v[_] (.inl rfl) (λi N hi cells P D kn l=>?_) λi N hi hp cells P D kn l=>?_
   .exact DK G.1 (dD V bA bK.ty (lQ (n:=5) #v[_])) (λF s h=>aA S h.cV)
   .exact gW (aN (bD l) (bD l) (Dq (k:=n) (G.deeper.dn rfl)))
   .exact bD l
  generalize u:(am 5).filter (λi=>!o.contains i)=left at *;refine q8 ((Tk.dM N).bI (Tk.cu w a (o.map (jT N)))) (λ_ h=>h) (λ_ _ q=>⟨q.1,(m8 q.2.1.2.1 λvs n e r=>⟨vs,n,e,z6 Y r⟩),kq⟩) ?_;have J:left.length<=5:=by rw[<-u];exact aA (cH _ _) (by rw[aZ];exact ah _)
  have Z:∀j,j<left.length->left.getD j 0<5:=λj z=>by
   have:left.getD j 0∈left:=by rw[gD z];exact bV z
   have h2:left.getD j 0∈(am 5).filter (λi=>!o.contains i):=u.symm▸this;exact c5.mp (c3.mp h2).1
  have U:o.length<=5:=#v[(dO 0x530053274c20f21535f) y b c];have ho6:∀j,j<o.reverse.length->o.reverse.getD j 0<5:=λj z=>by
   have:o.reverse.getD j 0∈o.reverse:=by rw[gD z];exact bV z
   rw[List.mem_reverse]at this;exact Gs tie k _ (by rw[I];exact this)
  refine gY (t:=wV N (o.reverse.flatMap λx=>left.filter (tie x))) (QT (x:= "order") (n:=0) tG.right O rfl (YT _ _) ?_) rfl rfl (.inl rfl) ?_
  .rw [<-De (jT N) o.reverse left tie];refine L7 (n1:=o.reverse.length) (n2:=left.length) (τ1:=λi=>jT N (o.reverse.getD i 0)) (τ2:=λj=>jT N (left.getD j 0)) (q:=λi j=>tie (o.reverse.getD i 0) (left.getD j 0)) (g:=λ_ j=>jT N (left.getD j 0)) rfl nf su
    (iC (bf aF (iJ ct ct (g9 (td bA))) (pV (ts:=o.map (jT N)) #v[_] (by rw[af,aJ];exact(dO Sz5) y b c))) ?_) ?_ (.inl rfl) (.inl rfl) #v[_] (t2:=wV N left) ?_ ?_ ?_ ?_
   .rw [J1,<-List.map_reverse,vI];exact iK G.1
   .have M:o.reverse.length<=5:=by rw[d4];exact U
    have:=tC M J;rw[aJ];exact(bO 0x10000007900535a0d) this
   .intro i hi cells P D kn l;exact bD l
   .rw [<-vI];exact iK G.1
   .intro i j hi z cells P D kn l;rw[<-X];exact gW (aN (bf (bf (bD l) (SK (N:=N) (bD l)) (lX (ho6 i hi))) (SK (N:=N) (bD l)) (lW (f:=λj=>d (o.reverse.getD i 0) j) (Z j z))) (bD l) v0)
   .intro i j hi z hq cells P D kn l;exact bD l
  have hwl:(o.reverse.flatMap λx=>left.filter (tie x))++left≠[]:=λq=>by
   have M:=(Ec.mp q).2;exact QJ (o:=o) #v[(dO 0x530153274c20f21535f) y b c] (u.trans M)
  have R:((o.reverse.flatMap λx=>left.filter (tie x)).map (jT N)).length+(left.map (jT N)).length<=be:=by
   rw[<-De,af];have h0:=Da (n2:=left.length) (q:=λi j=>tie (o.reverse.getD i 0) (left.getD j 0)) (g:=λ_ j=>jT N (left.getD j 0)) o.reverse.length;have M:o.reverse.length<=5:=by rw[d4];exact U
   have:=tC M J;rw[aJ];exact(dO 0x1000000791040535a2d20d531d) J h0 this
  have hx:=J8 (N:=N) hwl;rw[aU]at hx;have ex:kr tie (k+1)=o++[((o.reverse.flatMap λx=>left.filter (tie x))++left).headD 0]:=by rw[EI,I,u]
  generalize ((o.reverse.flatMap λx=>left.filter (tie x))++left).headD 0=x0 at *;refine rj (λho=>cP ho aF (iH (bU.right (bU.here (L':=Tk.cu w a (o.map (jT N)++[jT N x0])) rfl))) (kj (aq (bf (bo aF aF (AR R)) bA (gz #v[_] #v[_] hx)) aK)) bK.bi (gl (bU.right (bU.here rfl)) (by rw[af,aJ];exact(dO Sz5) y b c)) rfl) rfl rfl (ii (odA d eE a) rfl ?_);rw[show o.map (jT N)++[jT N x0]=(kr tie (5-(m-1))).map (jT N) by rw[show 5-(m-1)=k+1 by exact(dO 0x161305535253174c12f10535f530d) H y b c,ex,aU];rfl];exact ym (m-1) N #v[(dO 0x1305153174c12f10535f530d) H y b c] ⟨#v[(bO 0x5313050530d) H],aA S Y⟩ rfl
 .intro c;rw[af,b]at c;have c:=of_decide_eq_false c;have hk5:k=5:=#v[(dO 0x5302530746c02f01535f531d) H y b c];refine yg "order" O rfl <|i9 aF λv F' s' h' r=>hQ v F' s' N0 h'.cV h'.d6 ?_;rw[X,<-hk5,I];exact r
noncomputable def Tk.TY(w:bC)(e it l:bu)(lo:mV)(b:List aE)(ts:List T)(i:Nat):Tk where
 tk:=[e,it]
 gk:=[]
 I:=λF s=>(∃a,IsEnum s.heap e it (i:Int) a)/\s.heap.IsListIter it l i/\F l=ab lo/\da w F b ts
 st:=λh le z k z z=>⟨iA h.1 λa c=>⟨a,k e (.head _) _ c⟩,h.2.1.at λo x=>k it (.tail _ (.head _)) o x,le _ _ h.2.2.1,h.2.2.2.cC le⟩
def FH{K:Tk}{f:Nat->M2->M2}(Inv:Nat->M2->Tk->Prop)
 (R:St B w X loc K F s) (hh:A.handled=aC) (hB:dg w B) (hf:Ev (St.pre B w X loc K) w A X.ax func (.val (.type "enumerate"))) (S:si (St.pre B w X loc K) w A z X.ax [arg] [] [.list ts] [] [])
 (he:dp (.Call func [arg] [] z) X.ax=(do dB z (<-dp func X.ax) [] (dc z (br [arg] X.ax)) (bR z (bk [] X.ax))))
 (hK:∀i loc' K',Inv i loc' K'->K'.tk=K.tk) (ht:∀(i:Nat) t,ts[i]?=ab t->zu B w A X (.Tuple elts kk tpos) (.qb [.int i,t]) (f i)) (h0:Inv 0 loc K)
 (oD:∀L i loc' K' F' s',i<ts.length->Inv i loc' K'->St B w X (f i loc') (K'.and L) F' s'->
  Go w A body X.ax (qA B w X (Inv (i+1)) L (Go w A bj X.ax Q) Q) s')
 (jO:∀loc' K' F' s',Inv ts.length loc' K'->St B w X loc' K' F' s'->Go w A V X.ax (qE (Go w A bj X.ax Q) Q) s')
 (hs:autoParam (∀x,bw (.Call func [arg] [] z) X.ax x=cD x) y2):Go w A (.For (.Tuple elts kk tpos) (.Call func [arg] [] z) body V pos::bj) X.ax Q s:=by
 refine⟨bF (JH ?_ hs)⟩;rw[he];refine aa (hf.run F s R _ _ λv F1 s1 g r=>?_);refine r.eV ?_;have W:=R.gr g;refine dC S.plain (λh k=>(bK.ty).ry h k) (S.run _ F1 s1 W _ _ λvs us F2 s2 g2 r r2=>⟨(W.gr g2).bs.keep,?_⟩);have D:=W.gr g2;refine r2.e0 <|cY r.Fc λva hq ra=>?_;subst hq;refine ra.eL λl C n el rl=>?_;have elh:=D.bs.bh _ _ el;refine call_enumerate_list ⟨_,elh,rfl,n,rfl⟩ λh' hE H G hk=>wpAny_pyIter_enum hE ?_;have g3:Gr F2 s2 F2 {s2 with heap:=h'}:=⟨Le.refl _,λ_ _ e=>.inl e,λb o _ e=>hk b o e,λa o e=>hk _ _ (D.bs.bh a o e),#v[(bW 0x10023041f) G],.refl _,rfl,ah _⟩;have hS3:=D.gr g3;generalize N:({cls:=.type "list",data:=.seq C.toArray n}:mV)=lo at *;generalize O:s2.heap.objs.size=it at *;have new:∀b∈[it+1,it],it<=b/\b<h'.objs.size:=λb d=>by
  rw[G];refine(aX.mp d).elim (λq=>q▸⟨cL _,bH _⟩) λd=>?_;cases aB.mp d;exact⟨ah _,c4 (bH _)⟩
 have hwr:∀b∈[it+1,it],X.s0.heap.objs.size<=b/\b∉K.tk:=λb d=>⟨aA D.d6.size (O▸(new b d).1),(D.fresh (O▸(new b d).1)).2.1⟩;have Y:∀{i loc' K' U F' s'},U=Tk.TY w (it+1) it l lo C ts i->Inv i loc' K'->St B w X loc' (K'.and U) F' s'->∀b∈[it+1,it],F' b=aC/\X.s0.heap.objs.size<=b/\b∉K'.tk/\b≠X.ax.locals/\∀x c,X.ax.cells.lookup x=ab c->b≠c:=λI H j b d=>by
  subst I;exact ka (j.apart b (ag _ d)) λh1 _ h3=>⟨h1,(hwr b d).1,(hK _ _ _ H)▸(hwr b d).2,h3⟩
 refine FE (n:=ts.length) (Pt:=λi t=>∃u,ts[i]?=ab u/\t=.qb [.int i,u]) (M0:=Tk.TY w (it+1) it l lo C ts 0) Inv (λi M=>M=Tk.TY w (it+1) it l lo C ts i) (hS3.add ⟨hS3.cV,⟨_,hE⟩,H,el,rl⟩ λb d=>(ao.mp d).imp id λd=>⟨(D.fresh (O▸(new b d).1)).1,(new b d).2,(D.fresh (O▸(new b d).1)).2.2⟩) h0 rfl (λi t h=>cY h λu e q=>q▸ht i u e) ?_ ?_
  (λU i loc' K' F' s' _ h H R=>(oD U i loc' K' F' s' h H R).run) (λloc' K' F' s' H R=>(jO loc' K' F' s' H R).run) λfl s h=>by cases fl<;>first|exact h.run|exact h
 .intro i loc' K' U F' s' E P hlt Z I j k;have ap:=Y I Z j;subst I;refine iA j.cV.2.1 λold iE=>ka j.cV.2.2 λiI iF rl'=>?_;have hL:s'.heap.IsList l C.toArray:=⟨_,(j.bs.bh _ _ iF),by rw[<-N],n,by rw[<-N]⟩;refine cY (rl'.get (ay hlt)) λx ex rx=>?_;refine i4 (wpAny_pyNext_enum_item iE iI hL (by simpa using ex) (Nat.succ_ne_self _) λh₁ ho hit' hT G hk hsz2=>⟨_,rfl,?_⟩);refine wpAny_letOwnedTupleGo_enum ho λJ he₂ p=>?_;replace p:cN (it+1) h₁ J:=p;generalize hto:({cls:=.type "tuple",data:=.seq #[.int i s'.toks,x]}:mV)=to at *;have itl:it+1<s'.heap.objs.size:=aS iE;have bl:∀b∈[it+1,it],b<s'.heap.objs.size:=λb d=>(aX.mp d).elim (λq=>q▸itl) λd=>by cases aB.mp d;exact fO (bH _) itl
  have fr:∀b∈[it+1,it],ie F' s'.heap.objs.size to b=aC:=λb d=>by delta ie;rw[if_neg (cw (bl b d))];exact(ap b d).1
  have hfz:to.isFreed=false:=by rw[<-hto];rfl
  have m:Mv [it+1,it] [] {s' with heap:=s'.heap.push to,toks:=s'.toks+1} {s' with heap:=J,toks:=s'.toks+1}:=by
   refine⟨λb o d e=>?_,λ_ _ _ e=>e,id,rfl,ah _⟩;have b1:b≠it+1:=λq=>d (q▸.head _);rw[p.2 b b1];have e:(s'.heap.push to).get? b=ab o:=e;by_cases hbs:b=s'.heap.objs.size
   .rw [hbs,aM _ hfz]at e;cases e;rw[hbs];exact hT
   .rw [Heap.get?_push_ne s'.heap b to hbs]at e;exact hk b o b1 (λq=>d (q▸.tail _ (.head _))) e
  have g:=lk (o:=to) j.bs.bh hfz;have hSn:=St.wf (gw:=[]) ((j.nM (K':=K') (λa S=>ac _ S) λq=>q.1).gr (g.trans (Gr.j4 g.bh (s'.toks+1)))) (λb d=>⟨fr b d,(ap b d).2⟩) kq m (by show (s'.heap.push to).objs.size<=J.objs.size;rw[aY,p.1,G];exact ah _);have le1:Le F' (ie F' s'.heap.objs.size to):=ee (c8 j.bs.bh (ah _));exact k _ _ _ _ _ ⟨_,ay hlt,rfl⟩ rfl (.qb (by rw[hto];exact dG) (.cons (.int _ _) (.cons (rx.cC le1) .nil))) (hSn.add ⟨hSn.cV,⟨_,he₂⟩,hit'.at λo y=>(p.2 it (cw (bH _))).trans y,le1 _ _ iF,rl'.cC le1⟩ λb d=>(ao.mp d).imp id λd=>⟨fr b d,by rw[p.1,G];exact c4 (bl b d),(ap b d).2.2.2⟩)
 .intro loc' K' U F' s' E P Z I j k;have ap:=Y I Z j;subst I;refine iA j.cV.2.1 λold iE=>ka j.cV.2.2 λiI iF rl'=>?_;have hL:s'.heap.IsList l C.toArray:=⟨_,(j.bs.bh _ _ iF),by rw[<-N],n,by rw[<-N]⟩;exact i4 (wpAny_pyNext_enum_end hh iE iI hL (by simp;exact(bW 0x10010f) rl.length) λh₁ he₁ G=>⟨rfl,k F' _ (St.wf (gw:=[]) (j.nM (λa S=>ac _ S) λq=>q.1) ap kq ⟨λb o d e=>he₁ b o (λq=>d (q▸.tail _ (.head _))) e,λ_ _ _ e=>e,id,rfl,ah _⟩ G)⟩)
abbrev ixA(l:Q1)(b N:Nat):M2:=[("a",wV N l),("b",.Ab (b:Int) N)]
def Kn{l:Q1}(e:l[i]?=ab b)(h:∀j,j<i->l[j]?≠ab b):l.idxOf b=i:=by
 refine iA (bz.mp e) λhi e=>?_;have d:b∈l:=e▸bV hi;have a:l.idxOf b<l.length:=bS d;have f:l[l.idxOf b]=b:=oh a;have g:l.idxOf b<=i:=qr λq=>by
  have k:i<List.findIdx (·==b) l:=q;have c:=List.not_of_lt_findIdx k;rw[e]at c;simp at c
 rcases cU g with q|q
 .exact absurd (by rw[ay a,f]) (h _ q)
 .exact q
def A3{C:fv B}(k:dg w B)(m:Rm (n+3) A){b:Nat}(G:b∈l)(H:∀x∈l,x<5)(I:l.length<=1000) :
 cR C w A (.ref 196) [wV N l,.Ab (b:Int) N] [] [] (iT (l.idxOf b)):=by
 have _:=I;refine⟨λF s vs us J M W Q E O=>?_⟩;refine M.e2 λP R S U=>enter (K:=Tk.nil) (ixA l b N) [P,R] [] [] k (C.bs J) m rfl #v[] (cb rfl) rfl rfl (.cons S (.cons U .nil)) trivial (λY h=>nomatch h) λL p X a=>FH (ts:=l.map (jT N)) (f:=λi loc=>dz "j" (jT N (l.getD i 0)) (dz "i" (.int (i:Int)) loc)) (λi loc K=>(∀j,j<i->l[j]?≠ab b)/\loc=ixA l b N/\K=Tk.nil) a m.1 k (jo k) (kj (aq aF aK)) rfl (λi loc' K' h=>by rw[h.2.2]) ?_ ⟨(λY h=>nomatch h),rfl,rfl⟩ ?_ ?_
 .intro i t e;have e2:t=jT N (l.getD i 0):=rI e _;subst e2;exact nX m.1 (ET (.inl rfl) (.inl rfl))
 .rintro L i loc K F' s' hi ⟨c,rfl,rfl⟩ a;rw[af]at hi;have u:l.getD i 0<5:=H _ (by rw[gD hi];exact bV hi);have y:l[i]?=ab (l.getD i 0):=gS hi 0;generalize l.getD i 0=x at *;have g:((x:Int)==(b:Int))=decide (x=b):=by
   by_cases q:x=b
   .subst q;simp
   .rw [decide_eq_false q];exact beq_eq_false_iff_ne.mpr #v[(bW Su2) q]
  refine kF a (dN (lc (aN aF aF (Er (i:=(x:Int)) (j:=(b:Int)) (N:=N) (by delta smallInt;simp;exact(bO 0x10039073530e) u))) λY=>lc (aN (IL (N:=N) (i:=(x:Int)) aF) (H6 (N:=N) (i:=(b:Int)) aF) EJ) λY=>yp)) (λh D p a=>?_) (λh D p a=>?_)
  .have o:x=b:=by rw[g]at h;simpa using h
   refine fi a (aF (t:=.int (i:Int))) λv F' s' h' r=>O v F' s' h'.d6 ?_;have:l.idxOf b=i:=by
    subst o;have V:i<l.length:=hi;exact Kn y λj d=>c j d
   rw[this];exact r
  .have o:x≠b:=by rw[g]at h;simpa using h
   refine oa ⟨_,Tk.nil,D,⟨λj d=>?_,rfl,rfl⟩,a.uy (t9 ⟨rfl,rfl,trivial⟩)⟩;by_cases e:j=i
   .subst e;rw[y];intro z;exact o (bt z)
   .exact c j #v[(bW 0x1011026c160e) d e]
 .rintro loc K F' s' ⟨c,rfl,rfl⟩ a;exfalso;rw[af]at c;obtain⟨i,hi,e⟩:=HQ.mp G;exact c i hi (by rw[ay hi,e])
def yj{B:gn}{C:fv B}{p1:D7}{p2:D7}(p:Ev C w A ax o (.str x))(q:∀F s,C.P F s->1<=s.toks)(m:(y==z)=false)(t:x.length+(x.length+1)*z.length<=16777216)
 (u:((dc pos (br [.Constant (.str y) e p1,.Constant (.str z) i p2] ax)).any (·.1) || (bR pos (bk [] ax)).any (·.1.isNone))=false)
 (D:dp (.Call (.Attribute o "replace" b) [.Constant (.str y) e p1,.Constant (.str z) i p2] [] pos) ax=(do
  let n <-dp o ax
  ej b.atName
  let (f,first) <-fL [n] (ib n "replace" pl)
  dB pos f first (dc pos (br [.Constant (.str y) e p1,.Constant (.str z) i p2] ax)) (bR pos (bk [] ax)))) :
 Ev C w A ax (.Call (.Attribute o "replace" b) [.Constant (.str y) e p1,.Constant (.str z) i p2] [] pos) (.str (ze x y z)):=by
 refine⟨λF s j Q E G=>gX (p.run F s j _ _ λv H I g r=>IA.run H I v (C.st j g) r pl _ _ λl d g2=>?_) D⟩;refine r.eS λL=>?_;have c:=C.st (C.st j g) g2;refine dC (P:=λh=>∀a o,B.get? a=ab o->h.get? a=ab o) u (λh k=>(bK.bi (id:= "str.replace")).ry h k) (kR rfl (kQ (yR (kQ (yR (oF (l0 ⟨?_,?_⟩))) rfl)) rfl) rfl)
 .exact(C.bs c).keep
 .have g3:Gr l d l {d with toks:=d.toks+1+1}:=Gr.j4 (C.bs c).bh _;exact EU g3.bh (uK.mp (q l d c)) (RO _) (cw (bH _)) m t λv F' s' g4 J=>G v F' s' (((g.trans g2).trans g3).trans g4) J
def rD(a b):Ss a++Ss b=Ss (a++b):=by
 show (⟨a.toArray++b.toArray⟩:bT)=⟨(a++b).toArray⟩;simp
def eO(h:a.length+b.length<=10000000):mz C w A (iN .Add) (.str (Ss a)) (.str (Ss b)) (.str (Ss (a++b))):=by
 rw[<-rD];refine QF ?_;rw[rD,cX,aw,aJ];exact(bW 0x100000079104098968069104d) h
def bJ(h:autoParam (x=Ss l) ou):Ev C w A ax (.Constant (.str x) k pos) (.str (Ss l)):=h▸Be
def lJ(l:Q1):Q1:=(ze (Ss l) (Ss [38]) (Ss [38,97,109,112,59])).cps.toList
def Ms(l):Ss (lJ l)=ze (Ss l) (Ss [38]) (Ss [38,97,109,112,59]):=by
 delta lJ Ss;simp
def Su(a:S2)(d:Lx2)(n:Nat):Q1:=if n<1000 then [n]else if n<2000 then lJ (a (n-1000))else [48+(d ((n-2000) / 10) ((n-2000) % 10)).toNat]
def jr(a:S2)(d:Lx2)(l:Q1):Q1:=l.flatMap (Su a d)
abbrev Sr(a:S2)(d:Lx2)(l:Q1):T:=.str (Ss (jr a d l))
def tV(c)(d)(a b):jr c d (a++b)=jr c d a++jr c d b:=by delta jr;rw[nH]
def jD(a)(d):∀{l:Q1},(l.all λn=>decide (n<1000))=true->jr a d l=l:=@gx _ _ (λz=>rfl) λx l b h=>by
 rw[mO,bc]at h;have c:=b h.2;unfold jr at *;rw[e8,c];unfold Su;rw[if_pos (of_decide_eq_true h.1)];rfl
def xg(b:∀p,(lJ (a p)).length<=100):∀l,(jr a d l).length<=100*l.length:=iX (ah _) λx l c=>by
 delta jr at *;rw[e8,aw,cq];have:(Su a d x).length<=100:=by
  delta Su
  split
  .simp
  .split
   .exact b _
   .simp
 exact(dO 0x260064c104064290d20064c1d) (c) this
structure UD(uri:S2)(d:Lx2):Prop where
 Zw:∀p,(lJ (uri p)).length<=100
 len:∀p,(uri p).length<=50
 lo:∀i j,0<=d i j
 hi:∀i j,d i j<10
def fB(h:x=Ss l)(b:(l.all λn=>decide (n<1000))=true):Ev C w A ax (.Constant (.str x) k pos) (Sr a d l):=by
 delta Sr;rw[jD a d b];exact bJ h
def dX(U:UD c d)(h:a.length+b.length<=90000):mz C w A (iN .Add) (Sr c d a) (Sr c d b) (Sr c d (a++b)):=by
 delta Sr;rw[tV];refine eO ?_;have:=xg (d:=d) U.Zw a;have:=xg (d:=d) U.Zw b;exact(lM 0x989680691040380064c1d20064c0d15f90593824d) h (by assumption) this
def oY:∀k:Nat,k<10->nN (FT (k:Int))=Ss [48+k]:=by
 intro k a;refine XO a ?_ ?_ ?_ ?_ ?_ ?_ ?_ ?_ ?_ ?_<;>kernel_rfl
def pP{a:Int}(b:0<=a)(h:a<1000):a.natAbs.log2<1920:=by
 by_cases q:a.natAbs=0
 .rw [q];decide
 .have:=(Nat.log2_lt q).mpr (show a.natAbs<2 ^ 10 from rL.mp (by rw[Int.natAbs_of_nonneg b];exact Int.lt_trans h #v[_]));exact(bO 0x7803901a30e) this
def rU{k:Nat}(h:k<10):cR C w A (.type "str") [.int (k:Int)] [] [] (Sr a d [48+k]):=by
 delta Sr;rw[jD a d (by simp;exact(bO 0x3e8390302941a30e) h),<-oY k h];exact tj (pP #v[(bO Sv8) h] #v[(bO Sw9) h])
def FA(hi:i<10)(a:j<10):jr b d [2000+10*i+j]=[48+(d i j).toNat]:=by
 delta jr Su;have e:2000+10*i+j-2000=j+10*i:=by rw[Wp,Nat.add_sub_cancel_left,Nat.add_comm]
 rw[e8,Oq,cg,if_neg #v[(bW 0x3e83910aa7d0394416a31ea30e) hi a],if_neg #v[(bW 0x7d03910aa7d0394416a31ea30e) hi a],e,Nat.add_mul_div_left _ _ #v[_],Nat.div_eq_of_lt a,fe,Nat.add_mul_mod_self_left,Nat.mod_eq_of_lt a]
def QW(U:UD c d)(hi:i<10)(e:j<10):cR C w A (.type "str") [.int (d i j)] [] [] (Sr c d [2000+10*i+j]):=by
 have a:=U.lo i j;have b:=U.hi i j;delta Sr;rw[FA hi e,<-oY _ (show (d i j).toNat<10 by exact(sj Sw8) a b),show (((d i j).toNat:Nat):Int)=d i j by exact(sj 0xb75a304c0033c) a b];exact tj (pP a #v[(sj 0x3e83904a304c0033c) a b])
def Ra{p1:D7}{p2:D7}(U:UD b d)(a:p<1000)(k:Ev C w A ax o (.str (Ss (b p))))(l:∀F s,C.P F s->1<=s.toks)
 (m:((dc pos (br [.Constant (.str "&") g p1,.Constant (.str "&amp;") h p2] ax)).any (·.1) || (bR pos (bk [] ax)).any (·.1.isNone))=false)
 (n:dp (.Call (.Attribute o "replace" c) [.Constant (.str "&") g p1,.Constant (.str "&amp;") h p2] [] pos) ax=(do
  let i <-dp o ax
  ej c.atName
  let (f,first) <-fL [i] (ib i "replace" pl)
  dB pos f first (dc pos (br [.Constant (.str "&") g p1,.Constant (.str "&amp;") h p2] ax)) (bR pos (bk [] ax)))) :
 Ev C w A ax (.Call (.Attribute o "replace" c) [.Constant (.str "&") g p1,.Constant (.str "&amp;") h p2] [] pos) (Sr b d [1000+p]):=by
 have e:jr b d [1000+p]=lJ (b p):=by
  delta jr Su;rw[e8,Oq,cg,if_neg #v[(bO 0x3e83903e8394163e8390e) a],if_pos #v[(bO 0x7d03903e839413e8390e) a],show 1000+p-1000=p by exact(bO 0x3e83903e8394523e8390e) a]
 delta Sr;rw[e,Ms];have q : "&" = Ss [38]:=by kernel_rfl
 have j : "&amp;" = Ss [38,97,109,112,59]:=by kernel_rfl
 have:=U.len p;refine q▸j▸yj k l (by decide +kernel) ?_ m n;rw[j,cX,cX];have:((b p).length+1) * [38,97,109,112,59].length<=51*5:=tC #v[(bO 0x332906032290d) this] #v[_];exact(bW Sz4) (by assumption) this
def Jj(ls:List Q1):∀a ,(ls.map Ss).foldl (λa p=>a++(Ss []).cps++p.cps) a=a++ls.flatten.toArray:=by
 induction ls with
 |nil=>intro a;simp
 |cons x ls b=>
  intro a;rw[bN,jt,b];simp
def Dv(ls:List Q1):Txt.join (Ss []) (ls.map Ss)=Ss ls.flatten:=by
 cases ls with
 |nil=>rfl
 |cons x ls=>
  show (⟨(ls.map Ss).foldl (λa p=>a++(Ss []).cps++p.cps) (Ss x).cps⟩:bT)=_;rw[Jj];simp
def Mb{ls:List Q1}(U:UD a d)(h:ls.flatten.length<=90000):cR C w A (.builtin "str.join") [Sr a d [],.list (ls.map (Sr a d))] [] [] (Sr a d ls.flatten):=by
 have e1:ls.map (Sr a d)=((ls.map (jr a d)).map Ss).map T.str:=by rw[aQ,aQ];rfl
 have e2:jr a d ls.flatten=(ls.map (jr a d)).flatten:=by
  induction ls with
  |nil=>rfl
  |cons x ls c=>
   rw[e9,tV,bN,e9];rw[e9,aw]at h;rw[c #v[(bW 0x15f90590015f9059014d) h] (by rw[aQ,aQ];rfl)]
 have e3:Sr a d []=.str (Ss []):=rfl;delta Sr at *;rw[e2,<-Dv,e1,e3];refine B3 ?_;rw[cX,rN,Y7,FY];have b:=xg (d:=d) U.Zw ls.flatten;rw[e2,Ju]at b;rw[aQ];have:(AD (vP∘Ss) (ls.map (jr a d)))=(ls.map (jr a d)).map mX:=by
  refine bL λx z=>cX x
 rw[this];exact(bW 0x1000000790010064c0d15f90591d) h b
noncomputable def Tk.pre(B)(K:Tk):fv B:=⟨λF s=>Bs B F s/\K.I F s/\∀a∈K.tk,F a=aC/\a<s.heap.objs.size,λh=>h.1,λh g=>⟨h.1.gr g,Tk.gr h.2.1 g (λz z h=>nomatch h),λa b=>⟨fY g (h.2.2 a b).1 (h.2.2 a b).2,aT (h.2.2 a b).2 g.size⟩⟩⟩
def Nb{K:Tk}(h:cR (Tk.pre B K) w A f ts ns ks t)(d:R K t):d5 B w K A f ts ns ks R:=
 ⟨λF s vs us bs hi b e i Q E j=>h.run F s vs us ⟨bs,hi,b⟩ e i Q E λv F' s' g r=>j v t K F' s' d g.Dj (Tk.gr hi g λz z h=>nomatch h) (λa c=>⟨fY g (b a c).1 (b a c).2,aT (b a c).2 g.size,.inl c⟩) r⟩
def n8.cC{K:Tk}(h:n8 B w X loc K A e R)(k:∀K t,R K t->R' K t):n8 B w X loc K A e R':=⟨λF s a Q E b=>h.run F s a Q E λv t K' F' s' c=>b v t K' F' s' (k _ _ c)⟩
def E8{K:Tk}(i:Ev (St.pre B w X loc K) w A X.ax l a)(j:n8 B w X loc K A r R)(k:∀K' u,R K' u->∃t,R' K' t/\mz (St.pre B w X loc K') w A (iN m) a u t):n8 B w X loc K A (.BinOp l m r pos) R':=by
 refine⟨λF s e Q E n=>Ch (i.run F s e _ _ λo p q f x=>j.run p q (e.gr f) _ _ λy u K' z C D d b c G=>?_)⟩;refine cY (k K' u D) λt g h=>h.run o y z C b (x.cC c) G _ _ λv H I g3 J=>n v t K' H I g d (b.gr g3) ((f.le.trans c).trans g3.le) J
def yt{K:Tk}(g:n8 B w X loc K A l R)(h:∀K' u,R K' u->∃b t,R' K' t/\Ev (St.pre B w X loc K') w A X.ax r b/\mz (St.pre B w X loc K') w A (iN i) u b t):n8 B w X loc K A (.BinOp l i r pos) R':=by
 refine⟨λF s j Q E k=>Ch (g.run F s j _ _ λm u K' n o p c a d q=>?_)⟩;refine qd (h K' u p) λb t e x f=>x.run n o a _ _ λy z C g2 D=>f.run m y z C (a.gr g2) (q.cC g2.le) D _ _ λv G H g3 I=>k v t K' G H e c ((a.gr g2).gr g3) ((d.trans g2.le).trans g3.le) I
structure vc(B:gn)(w:bC)(X:Fx)(loc:M2)(K:Tk)(A:cO)(pos:D7)(es:List bv)(R:Tk->List T->Prop):Prop where
 run:∀F s,St B w X loc K F s->∀(Q:List aE->aH->Prop) (E:Lx0),(∀vs ts K' F' s',R K' ts->gM X K'->St B w X loc K' F' s'->Le F F'->da w F' vs ts->Q vs s')->aP (aO pw w) A (spliced (dc pos (br es X.ax))) Q E s
def Dx{K:Tk}(a:gM X K)(h:R K []):vc B w X loc K A pos [] R:=⟨λF s b Q E c=>oF (c [] [] K F s h a b (Le.refl _) .nil)⟩
def r7{K:Tk}(h:n8 B w X loc K A e R)(k:∀K' t,R K' t->gM X K'->vc B w X loc K' A pos c (λa ts=>R' a (t::ts)))
 (j:autoParam (br (e::c) X.ax=(false,dp e X.ax)::br c X.ax) ou):vc B w X loc K A pos (e::c) R':=by
 refine⟨λF s l Q E m=>?_⟩;exact kQ (h.run F s l _ _ λv t K' n o p q d le r=>(k K' t p q).run n o d _ _ λvs ts a u x f g i b y=>m (v::vs) (t::ts) a u x f g i (le.trans b) (.cons (r.cC b) y)) j
def qP{K:Tk}(h:n8 B w X loc K A e R)(a:autoParam (br [e] X.ax=(false,dp e X.ax)::br [] X.ax) ou):vc B w X loc K A pos [e] (λK ts=>∃t,ts=[t]/\R K t):=
 r7 h (λz t b c=>Dx c ⟨t,rfl,b⟩) a
def z4{K:Tk}(n:Ev (St.pre B w X loc K) w A X.ax func (.val f))
 (c:vc B w X loc K A pos (e::args) R) (o:bK B w f) (p:∀K' ts,R K' ts->d5 B w K' A f ts [] [] R')
 (q:dp (.Call func (e::args) [] pos) X.ax=(do dB pos (<-dp func X.ax) [] (dc pos (br (e::args) X.ax)) (bR pos (bk [] X.ax))))
 (u:autoParam (((dc pos (br (e::args) X.ax)).any (·.1) || (bR pos (bk [] X.ax)).any (·.1.isNone))=false) ou) (d:autoParam (br (e::args) X.ax=(false,dp e X.ax)::br args X.ax) ou):n8 B w X loc K A (.Call func (e::args) [] pos) R':=by
 refine⟨λF s i Q E x=>?_⟩;rw[q];refine aa (n.run F s i _ _ λv y z g r=>?_);refine r.eV <|dC u (λh k=>o.ry h k) (kR rfl (c.run y z (i.gr g) _ _ λvs ts K' C D G H b le r=>l0 ⟨b.bs.keep,?_⟩) d);refine(p K' ts G).run C D vs [] b.bs b.cV (λa c=>⟨(b.apart a c).1,(b.apart a c).2.1⟩) r .nil Q E λv t j I J l g3 L m M=>?_;obtain⟨N,O⟩:=b.mK H g3 (λP h=>h) L λa c=>PU (m a c);exact x v t j I J l O N ((g.le.trans le).trans g3.le) M
def yy{K:Tk}(x:Ev (St.pre B w X loc K) w A X.ax o to)(y:mD (St.pre B w X loc K) w A to name f i)
 (c:vc B w X loc K A pos (e::args) R) (z:bK B w f) (C:∀K' ts,R K' ts->d5 B w K' A f ((if i then [to]else [])++ts) [] [] R')
 (D:dp (.Call (.Attribute o name d) (e::args) [] pos) X.ax=(do
  let l <-dp o X.ax
  ej d.atName
  let (f,first) <-fL [l] (ib l name pl)
  dB pos f first (dc pos (br (e::args) X.ax)) (bR pos (bk [] X.ax))))
 (G:autoParam (((dc pos (br (e::args) X.ax)).any (·.1) || (bR pos (bk [] X.ax)).any (·.1.isNone))=false) ou) (m:autoParam (br (e::args) X.ax=(false,dp e X.ax)::br args X.ax) ou):n8 B w X loc K A (.Call (.Attribute o name d) (e::args) [] pos) R':=by
 refine⟨λF s j Q E H=>gX (x.run F s j _ _ λv I J g r=>y.run I J v (j.gr g) r pl _ _ λL M g2=>?_) D⟩;refine dC G (λh k=>z.ry h k) (kR rfl (c.run L M ((j.gr g).gr g2) _ _ λvs ts K' n N O P b le S=>l0 ⟨b.bs.keep,?_⟩) m);have U:da w n (if i then [v]else []) (if i then [to]else []):=by
  cases i with
  |true=>exact .cons ((r.cC g2.le).cC le) .nil
  |false=>exact .nil
 refine(C K' ts O).run n N _ [] b.bs b.cV (λa c=>⟨(b.apart a c).1,(b.apart a c).2.1⟩) (U.append S) .nil Q E λv t p V W q g4 Y u Z=>?_;obtain⟨h1,h2⟩:=b.mK P g4 (λ_ h=>h) Y λa c=>PU (u a c);exact H v t p V W q h2 h1 (((g.le.trans g2.le).trans le).trans g4.le) Z
def pT{a:Type}(g:Nat->a):(((am n).filter λz=>true).map g)=(am n).map g:=by rw[Jv.mpr λz z=>rfl]
def jc{C:fv B}
 (f:On C w ax loc) (ok:j0 ax scope) (hi:pO C w A ax iter (.Name x px) ((am n).map τ) []) (h:n<=be) (j:scope.names.lookup x=ab .local\/scope.names.lookup x=ab .cell)
 (a:∀i,i<n->∀cells L D,Sub D C->On D w (bY scope cells L ax) (dz x (τ i) (ci scope loc))->Ev D w A (bY scope cells L ax) b (g i))
 (k:autoParam (∀x,bw iter ax x=cD x) y2) :
 Cp C w A (λc=>dk (.ListComp b [⟨.Name x px,iter,[],0⟩] scope pos) scope ax l (qC []) false (dp iter ax) c) (.list ((am n).map g)):=by
 rw[<-pT g];exact m6 f ok hi kq h j (λi hi cells d D kn e=>je) (λi hi m cells d D kn e=>a i hi cells d D kn e) k
def Bv(a:A.handled=aC)(h:Ev C w A ax iter (.D3 0 n))(b:0<N)(c:∀F s,C.P F s->N<=s.toks) :
 pO C w A ax iter (.Name x px) ((am n).map λ(i:Nat)=>.Ab (i:Int) N) []:=by
 simpa only[fM] using (CX a h b c)
def pL{k:Nat}(h:Ev C w A ax e (.int (k:Int))):Ev C w A ax (.BinOp e .Add (.Constant (.int 1) a p) pos) (.int ((k+1:Nat):Int)):=bo h bA ku
def DN:∀l m ,i8 (mT l).toD (mT m).toD=decide (l=m):=by
 intro l m;rw[show (mT l).toD=_ from mc _,show (mT m).toD=_ from mc _,i8]
 induction l generalizing m with
 |nil=>cases m with
  |nil=>rfl
  |cons y m=>rfl
 |cons x l a=>cases m with
  |nil=>rfl
  |cons y m=>
   refine(congrArg (i8 (.int x) (.int y)&&·) (a m)).trans ?_;rw[i8];by_cases h:x=y
   .subst h;simp
   .have:((x:Int)==y)=false:=beq_eq_false_iff_ne.mpr #v[(bW Su2) h];rw[this];simp[h]
def Fw(a:Rm (k+1) A):mz C w A (cQ .NotEq) (mT l) (mT m) (.bool (!decide (l=m))):=by
 have h:=LJ (C:=C) (w:=w) (t:=mT l) (u:=mT m) 1 a #v[_] (all_map (λz=>rfl) _) (all_map (λz=>rfl) _);rw[DN]at h;exact h
def T5(a:Rm (k+1) A):mz C w A (cQ .In) (iT i) (mT l) (.bool (l.contains i)):=by
 have:=Yw (C:=C) (w:=w) (t:=iT i) (ts:=l.map iT) 0 a #v[_] rfl (all_map (λz=>rfl) _);rw[Nd]at this;exact this
def nt(h:k<l.length)(a:l.length<=1000):gF C w A (mT l) (iT k) (iT (l.getD k 0)):=by
 refine gz #v[bO 0x7033] #v[(vj 0x740e8d4a51000a93c3e8391d10e) h a ir] ?_;rw[cx,aI,ay h,gD h];rfl
def x8(a:A.handled=aC)(b:scope.names.lookup x=ab .local\/scope.names.lookup x=ab .cell)(c:scope.names.lookup y=ab .local\/scope.names.lookup y=ab .cell) :
 Rs B w A ax scope (.Tuple [.Name x px,.Name y d] k pos) (.qb [t,u]) (λl=>dz y u (dz x t l)):=
 ⟨λcells L s0 F0=>nX a (nB (f:=dz x t) (g:=dz y u) ((kE b).ry cells L s0 F0) rfl (nB (f:=dz y u) (g:=id) ((kE c).ry cells L s0 F0) rfl Bk))⟩
def rV(a:scope.names.lookup x=ab .local\/scope.names.lookup x=ab .cell)(b:scope.names.lookup y=ab .local\/scope.names.lookup y=ab .cell) :
 ∀z v,(ci scope loc).lookup z=ab v->(dz y u (dz x t (ci scope loc))).lookup z=ab v:=λz v e=>by
 rw[ij];by_cases q:z=y
 .subst q;have:=(jf scope z v loc e).2;rcases b with h|h<;>rw[h]at this<;>cases this
 .rw [if_neg q];exact j7 a z v e
def MR{C:fv B}{τ:Nat->T}{υ:Nat->T}
 (k:A.handled=aC) (l:On C w ax loc) (ok:j0 ax scope) (hi:pO C w A ax iter (.Tuple [.Name x px,.Name y m] o a) ((am n).map λi=>.qb [τ i,υ i]) []) (p:n<=be)
 (c:scope.names.lookup x=ab .local\/scope.names.lookup x=ab .cell) (d:scope.names.lookup y=ab .local\/scope.names.lookup y=ab .cell)
 (b:∀i,i<n->∀cells L D,Sub D C->On D w (bY scope cells L ax) (dz y (υ i) (dz x (τ i) (ci scope loc)))->Ev D w A (bY scope cells L ax) e (g i))
 (q:autoParam (∀x,bw iter ax x=cD x) y2) :
 Cp C w A (λf=>dk (.ListComp e [⟨.Tuple [.Name x px,.Name y m] o a,iter,[],0⟩] scope pos) scope ax r (qC []) false (dp iter ax) f) (.list ((am n).map g)):=by
 rw[<-pT g];exact uB l ok hi kq p (λi hi=>x8 k c d) (λi=>rV c d) (λi hi cells h D kn j=>je) (λi hi s cells h D kn j=>b i hi cells h D kn j) q
noncomputable abbrev uG(vs:List aE)(n:Nat):mV:={cls:=.type "list",data:=.seq vs.toArray n}
noncomputable def Tk.y3(w:bC)(as:List bu)(aD:List (List T)):Tk where
 tk:=as
 gk:=[]
 I:=λF s=>as.length=aD.length/\as.Nodup/\∀(i:Nat) (a:bu) (ts:List T),as[i]?=ab a->aD[i]?=ab ts->(Tk.cu w a ts).I F s
 st:=λh l bh k g t=>⟨h.1,h.2.1,λi a ts e1 e2=>(Tk.cu w a ts).st (h.2.2 i a ts e1 e2) l bh (λb c o e=>k b (by cases aB.mp c;exact bX e1) o e) kq t⟩
def bU.row(d:as[i]?=ab a)(k:aD[i]?=ab ts):bU (Tk.y3 w as aD) (Tk.y3 w as (aD.set i ts')) (Tk.cu w a ts) (Tk.cu w a ts') where
 sub:=λb f=>by cases aB.mp f;exact bX d
 tk:=rfl
 gk:=rfl
 get:=λF s h=>h.2.2 i a ts d k
 put:=λF s s' h bh keep g t m=>⟨by rw[nh];exact h.1,h.2.1,λj b us e1 e2=>by
  by_cases q:j=i
  .subst q;rw[d]at e1;cases e1;rw[List.getElem?_set_self (bz.mp k).1]at e2;cases e2;exact m
  .rw [List.getElem?_set_ne (λz=>q z.symm)]at e2;have f:b≠a:=λz=>by
    subst z;refine iA (bz.mp e1) λl1 e1=>?_;refine iA (bz.mp d) λl e3=>?_;rcases NM q with q|q
    .exact dh.mp h.2.1 j i l1 l q (e1.trans e3.symm)
    .exact dh.mp h.2.1 i j l l1 q (e3.trans e1.symm)
   exact(Tk.cu w b us).st (h.2.2 j b us e1 e2) (Le.refl _) bh (λc n o e=>keep c o (by cases aB.mp n;intro z;exact f (aB.mp z)) e) kq t⟩
noncomputable def sC(F:Fz)(as:List bu):Fz:=λb=>if b∈as then aC else F b
structure Z8(C:fv B)(w:bC)(A:cO)(jk:Option (aE->jj Unit)->jj aE)(n:Nat)(row:List T):Prop where
 run:∀F s,C.P F s->∀(use:Option (aE->jj Unit)) (Q:Lx0) (E:Lx0),
  (∀D Cl F' s' (as:List bu) (m:Nat),Gr F s F' s'->as.length=n->as.Nodup->(∀a∈as,s.heap.objs.size<=a/\a≠D/\∃vs k,F' a=ab (uG vs k)/\da w F' vs row)->F' D=ab (uG (as.map .ref) m)->s.heap.objs.size<=D->s.heap.objs.size<=Cl->F' Cl=aC->(∃m,s'.heap.Ns Cl m)->pY (aO pw w) A E use Q (.ref D) Cl (.ok .next) s')->aP (aO pw w) A (jk use) Q E s
noncomputable def Tk.TN(w:bC)(d:Nat)(D:bu)(row:List T)(i:Nat):Tk where
 tk:=[D]
 gk:=[]
 I:=λF s=>∃(as:List bu) (m:Nat),as.length=i/\as.Nodup/\(∀a∈as,d<=a/\a≠D/\∃vs k,F a=ab (uG vs k)/\da w F vs row)/\s.heap.get? D=ab (uG (as.map .ref) m)
 st:=λh l bh k g t=>GR h λas m e f b j=>⟨as,m,e,f,λa c=>⟨(b a c).1,(b a c).2.1,m8 (b a c).2.2 λvs k n o=>⟨vs,k,l _ _ n,o.cC l⟩⟩,k D (.head _) _ j⟩
def QO{C:fv B}
 (hf:On C w ax loc) (ok:j0 ax scope) (hi:pO C w A ax iter (.Name x px) ((am n).map τ) [])
 (hn:n<=be) (hx:scope.names.lookup x=ab .local\/scope.names.lookup x=ab .cell)
 (X:∀i,i<n->∀cells L D,Sub D C->On D w (bY scope cells L ax) (dz x (τ i) (ci scope loc))->JU D w A (bY scope cells L ax) S row)
 (hs:autoParam (∀x,bw iter ax x=cD x) y2) :
 Z8 C w A (λU=>dk (.ListComp S [⟨.Name x px,iter,[],0⟩] scope pos) scope ax pos' (qC []) false (dp iter ax) U) n row:=by
 refine⟨λF s Y U Q E Z=>?_⟩;have H:((am n).map τ).length=n:=by rw[af,aZ]
 refine un (C':=C) (e:=.ListComp S [⟨.Name x px,iter,[],0⟩] scope pos) (fj:=[]) (f:=λi l=>dz x (τ i) l) (p:=λ_=>true) {cls:=.type "list",data:=.seq #[]} (λD i=>Tk.TN w s.heap.objs.size D row i)
  w9 rfl Y hf ok kq (λF1 s1 g _=>C.st Y g) (λD i=>rfl) ?hK0 hi kq ?ht ?N (λi hi cells L D kn on=>je) ?O ?P ?Z ?hnew hs
 case hK0=>exact λF1 s1 h D _ _ e _=>⟨[],0,rfl,.nil,kq,e⟩
 case P=>intro i D hp;cases hp
 case hnew=>exact λs Q E h=>cE h
 case ht=>exact λi t e cells L s0 F0=>by rw[nD e];exact(kE hx).ry _ _ _ _
 case N=>exact λi z u e=>j7 hx z u e
 case O=>
  intro i I hp cells Lo D L F' s' R hL j;rw[H]at I;refine aa ((X i I _ _ (St.pre B w _ (dz x (τ i) (ci scope loc)) _) (λF s h=>C.st Y h.d6) nf).run F' s' j _ _ λb F2 s2 g2 r2 G=>?_);have v:=j.gr g2;refine GR v.cV.1 λas m J h2 h3 e1=>?_;have old:∀a∈as,a<s'.heap.objs.size:=by
   refine GR j.cV.1 λV m' _ _ h3' e1'=>?_;have e2:=g2.wi _ _ e1';rw[e1]at e2;have e3:V.map iP=as.map iP:=by
    have:=congrArg Obj.data (bt e2);simp only[Data.seq.injEq]at this;simpa using (congrArg Array.toList this.1).symm
   have e4:V=as:=List.map_inj_right (λx y h=>by cases h;rfl) |>.mp e3;subst e4;exact λa d=>m8 (h3' a d).2.2 λvs k q _=>aS (j.bs.bh _ _ q)
  refine aa (gp ⟨m,e1⟩ (λh' H M=>au ?_) ?_)
  .refine iA H λn' e2=>?_;obtain⟨_,vs,k,⟨⟩,e,r⟩:=r2.cV;refine⟨F2,St.uv v M (.inl R) (.head _) ⟨⟨as++[b],n',?_,?_,?_,?_⟩,?_⟩ λb G=>G⟩
   .rw [aw,J];rfl
   .rw [fb];exact⟨h2,by simp,λa d c hc=>by cases aB.mp hc;exact cw (aT (old a d) G)⟩
   .intro a d;rcases ao.mp d with d|d
    .exact h3 a d
    .cases aB.mp d;exact⟨aA j.d6.size G,λq=>absurd ((j.apart D (.head _)).2.1) (aV.mpr (q▸G)),vs,k,e,r⟩
   .show h'.get? D=_;rw[e2];simp
   .refine L.st v.cV.2 (Le.refl _) (λb o e=>(M.2 b λq=>?_).trans (v.bs.bh b o e)) (λb G o e=>(M.2 b λq=>hL b G (by rw[q];exact .head _)).trans e) (λ_ _ _ e=>e) (ah _);rw[q,(v.apart _ (.head _)).1]at e;cases e
  .simp only[aL,af];exact YB hn H I J
 case Z=>
  intro D Cl F' s' g' hI hap R hCl hDC hCn hm;refine GR hI λas m J h2 h3 e1=>?_;have W:=(hap D (.head _)).1;rw[H]at J;refine Z D Cl (ie F' D _) s' as m (iW g' W e1 R) J h2 (λa d=>?_) (by delta ie;rw[if_pos rfl]) R hCl ?_ hm
  .refine ka (h3 a d) λq1 q2 hz=>?_;refine m8 hz λvs k q3 q4=>?_;exact⟨q1,q2,vs,k,by delta ie;rw[if_neg q2];exact q3,q4.cC (ee W)⟩
  .delta ie;rw[if_neg λq=>hDC q.symm];exact hCn
def LR:∀as:List bu,da w F (as.map .ref) (as.map λa=>T.val (.ref a)):=iX .nil λa as b=>.cons (.val _) (b)
def MA{vs:List aE}{ns:List Int}:da w F vs (ns.map T.int)->da w G vs (ns.map T.int):=by
 have key:∀(ns:List Int) (vs),da w F vs (ns.map T.int)->da w G vs (ns.map T.int):=iX (λvs r=>by refine da.e0 r ?_;exact .nil) λn ns a vs r=>by
  refine da.ec r λv us r k=>?_;refine r.eI λz=>?_;exact .cons (.int _ _) (a _ k)
 exact key ns vs
def Z8.I{K:Tk}{jk:Option (aE->jj Unit)->jj aE}{ns:List Int}(h:Z8 (St.pre B w X loc K) w A jk n (ns.map T.int))(P:gM X K):UE B w X loc K A jk (λK' u=>∃as ,as.length=n/\(∀a∈as,X.s0.heap.objs.size<=a)/\K'=K.bI (Tk.y3 w as (aW n (ns.map T.int)))/\u=.list (as.map λa=>.val (.ref a))):=by
 refine⟨λF s p L Q E k=>h.run F s p L Q E λD Cl F' s' as m g t M d R l N n2 S=>?_⟩;have y:Le F (sC F' as):=λb o e=>by
  delta sC;rw[if_neg λq=>absurd (aS (p.bs.bh b o e)) (aV.mpr (d b q).1)];exact g.le b o e
 have dn:∀b o,sC F' as b=ab o->F' b=ab o:=λb o e=>by delta sC at e;split at e;cases e;exact e
 have z:=p.gr (show Gr F s (sC F' as) s' from ⟨y,λb o e=>g.new b o (dn b o e),g.keep,λb o e=>g.bh b o (dn b o e),g.size,g.gens,g.os,g.toks⟩);have C:∀b,s.heap.objs.size<=b->b≠X.ax.locals/\∀x c,X.ax.cells.lookup x=ab c->b≠c:=λb f=>⟨λq=>by
  refine cY p.frame.ns λU G W=>?_;exact absurd G.lt (by rw[<-q];exact aV.mpr f),λx c e q=>by
  refine cY (p.frame.cell x c e) λV G W=>?_;exact absurd G.lt (by rw[<-q];exact aV.mpr f)⟩
 have H:sC F' as Cl=aC:=by delta sC;split;rfl;exact n2
 have I:Cl∉as:=λq=>by
  refine ka (d Cl q) λW W v=>?_;refine m8 v λvs J e W=>?_;rw[n2]at e;cases e
 refine k D Cl _ _ (sC F' as) s' ⟨as,t,λa j=>aA p.d6.size (d a j).1,rfl,rfl⟩ (λa j=>?_) (z.add ⟨z.cV,⟨by rw[t,dr],M,λi a ts e1 e2=>?_⟩,λa j q=>absurd (p.apart a j).2.1 (aV.mpr (d a q).1)⟩ λb f=>?_) y (.list (by delta sC;rw[if_neg λq=>(d D q).2.1 rfl];exact R) (LR as)) N (λq=>?_) H S
 .rcases ao.mp j with j|j
  .exact P a j
  .exact .inl (aA p.d6.size (d a j).1)
 .have j:=bX e1;refine ka (d a j) λW W v=>?_;refine m8 v λvs J e r=>?_;have O:ts=ns.map T.int:=List.eq_of_mem_replicate (bX e2);subst O;exact⟨vs,J,g.bh _ _ e,MA r⟩
 .rcases ao.mp f with f|f
  .exact .inl f
  .have f:b∈as:=f;refine .inr ⟨by delta sC;rw[if_pos f],?_,C b (d b f).1⟩;refine ka (d b f) λW W v=>?_;refine m8 v λvs J e W=>?_;exact aS (g.bh _ _ e)
 .rcases ao.mp q with q|q
  .exact absurd (p.apart Cl q).2.1 (aV.mpr N)
  .exact I q
section
open PySem.Builtin PySem.Builtin.ObjectAttr
noncomputable abbrev bP(Cc dx:bu):T:=.pt (· = iQ Cc dx)
abbrev jw(w:bC):Frag:=KF w.params
noncomputable abbrev sg(a:List iL)(n:Nat):mV:={cls:=.type "dict",data:=.dict a.toArray n}
noncomputable def T.Rj:T->Bool
 | .val v=>handedIn v
 |z=>true
def HF(r:Rp w F v t)(h:t.Rj=true):handedIn v=true:=by
 exact @Rp.casesOn w F (λv t z=>t.Rj=true->handedIn v=true) v t r (λz=>rfl) (λz z=>rfl) (λz z z=>rfl) (λz z z=>rfl) (λz z z=>rfl) (λz z z=>rfl) (λz z z z z=>rfl) (λz z z z z z=>rfl) (λz z=>rfl) (λz z z z z=>rfl) (λz z z=>rfl) (λz z z=>rfl) (λz h=>h) (λz z z=>rfl) h
def vz(r:p9 w F c kvs)(h:kvs.lookup x=aC):B8 x (sg c n)=ab aC:=by
 have key:∀{kvs:M2} {c:List iL},p9 w F c kvs->kvs.lookup x=aC->c.find? (·.key.isStr x)=aC/\c.any (·.refKey)=false:=by
  intro kvs
  induction kvs with
  |nil=>intro c r u;rw[r.nw];exact⟨rfl,rfl⟩
  |cons z kvs d=>
   intro c r h;obtain⟨y,t⟩:=z;obtain⟨tk,v,ds,rfl,e,r⟩:=r.Af
   .rw [lookup_cons]at h;by_cases q:x=y
    .rw [if_pos q]at h;cases h
    .rw [if_neg q]at h;obtain⟨a,b⟩:=d r h;have:(y==x)=false:=beq_eq_false_iff_ne.mpr λz=>q z.symm;exact⟨by rw[dQ];show (match (y==x)with|true=>_|false=>_)=_;rw[this];exact a,by rw[kJ,b];rfl⟩
 refine dS (key r h) λa b=>?_;delta B8;dsimp only;rw[a];dsimp only;rw[b];rfl
def vf(r:p9 w F c kvs)(h:kvs.lookup x=ab t):∃v,B8 x (sg c n)=ab (ab v)/\Rp w F v t:=by
 have key:∀{kvs:M2} {c:List iL},p9 w F c kvs->kvs.lookup x=ab t->∃e,c.find? (·.key.isStr x)=ab e/\Rp w F e.val t:=by
  intro kvs
  induction kvs with
  |nil=>intro c r h;cases h
  |cons z kvs d=>
   intro c r h;obtain⟨y,u⟩:=z;obtain⟨tk,v,ds,rfl,f,r⟩:=r.Af
   .rw [lookup_cons]at h;by_cases q:x=y
    .rw [if_pos q]at h;cases h;subst q;exact⟨_,by rw[dQ];show (match (x==x)with|true=>_|false=>_)=_;rw[beq_self_eq_true],f⟩
    .rw [if_neg q]at h;obtain⟨g,a,b⟩:=d r h;have:(y==x)=false:=beq_eq_false_iff_ne.mpr λz=>q z.symm;exact⟨g,by rw[dQ];show (match (y==x)with|true=>_|false=>_)=_;rw[this];exact a,b⟩
 refine cY (key r h) λe a b=>⟨e.val,?_,b⟩;delta B8;dsimp only;rw[a]
def wb{K:Frag}(c:(RP K Cc).any (·.hasDict)=true)(d:eW K (.ref Cc) name=ab aC)(e:B8 name a=ab (ab v)):findObj K Cc (ab a) name=ab (.value v):=by
 refine cY (any_some c) λb f g=>?_;delta findObj;rw[f,d];have h:W.ownOf b (ab a) name=ab (ab v):=by delta W.ownOf;rw[g,if_pos rfl];exact e
 show Option.bind (W.ownOf b (ab a) name) _=_;rw[h];rfl
def SM{K:Tk}:∀F s,St B w X loc K F s->Tk.I K F s:=λF s h=>h.cV
def iv1{K:Tk}:∀F s,St B w X loc (Tk.bI K L) F s->Tk.I K F s:=λF s h=>h.cV.1
def iv2{K:Tk}:∀F s,St B w X loc (Tk.bI (Tk.bI K L) M) F s->Tk.I K F s:=λF s h=>h.cV.1.1
def zt{K:Tk}:∀F s,St B w X loc (Tk.bI (Tk.bI (Tk.bI K L) M) N) F s->Tk.I K F s:=λF s h=>h.cV.1.1.1
def iv4{K:Tk}:∀F s,St B w X loc (Tk.bI (Tk.bI (Tk.bI (Tk.bI K L) M) N) O) F s->Tk.I K F s:=λF s h=>h.cV.1.1.1.1
def N9{K:Tk}:∀F s,St B w X loc (Tk.bI (Tk.bI (Tk.bI (Tk.bI (Tk.bI (Tk.bI K L) M) N) O) P) Q) F s->Tk.I K F s:=λF s h=>h.cV.1.1.1.1.1.1
def iva{K:Tk}:∀F s,St B w X loc ((K.bI (L.bI M)).bI O) F s->Tk.I L F s:=λF s h=>h.cV.1.2.1.1
def vn(C:fv B)(w:bC)(dx:bu)(ats:M2):Prop:=∀F s,C.P F s->(Tk.gA w dx ats).I F s
def dY(a:dg w B)(bs:Bs B F s):(jw w).In s.heap:=a.X.keeps bs.keep
def jq(bs:Bs B F s)(e:F x=ab (iQ Cc dx))(h:s.heap.get? dx=ab (sg a n)):InstAt s.heap x (iQ Cc dx) Cc (ab (sg a n)):=⟨bs.bh _ _ e,rfl,rfl,h⟩
def mZ{C:fv B}(h:dg w B)(i:Ev C w A ax (.Name n np) (bP Cc dx))(j:vn C w dx ats)(k:ab t=ats.lookup name)(l:(RP (jw w) Cc).any (·.hasDict)=true)(q:ab aC=eW (jw w) (.ref Cc) name)
 (b:eW (jw w) (.ref Cc) "__getattribute__" = ab (ab (.builtin "object.__getattribute__"))) (u:true=t.Rj):Ev C w A ax (.Attribute (.Name n np) name pos) t:=by
 refine⟨λF s c Q E y=>FZ (i.run F s c _ _ λv d z g r=>?_)⟩;have a:=C.st c g;have bs:=C.bs a;refine r.eA λx o e p=>?_;subst p;refine qd (j d z a) λI m D G J=>cY (vf (n:=m) G k.symm) λv H f=>get_value (dY h bs) (jq bs e D) b (wb l q.symm H) (HF f u.symm) (y v d _ (g.trans (Gr.j4 bs.bh _)) f)
def k8{C:fv B}(c:dg w B)(d:vn C w dx ats)(g:aC=ats.lookup name)(h:ab (ab (.ref f))=eW (jw w) (.ref Cc) name)(i:ab (.type "function")=VW (jw w) (.ref f))
 (a:eW (jw w) (.ref Cc) "__getattribute__" = ab (ab (.builtin "object.__getattribute__"))) (j:eW (jw w) (.ref Cc) "__getattr__" = ab aC):mD C w A (bP Cc dx) name (.ref f) true:=by
 refine⟨λF s u b r pl Q E k=>?_⟩;have bs:=C.bs b;refine qd r.cV λx o l e p=>?_;subst l;subst p;refine qd (d F s b) λn m q t z=>method_fn (dY c bs) (jq bs e q) a j h.symm i.symm (by show (B8 name (sg n m)).map _=_;rw[vz t g.symm];rfl) <|k F s (ic.refl bs.bh)
def E5{C:fv B}(d:dg w B)(h:vn C w dx ats)(c:eW (jw w) (.ref Cc) "__contains__" = ab (ab (.ref f))) (i:isFn (jw w) (.ref f)=true) (j:cR C w A (.ref f) [bP Cc dx,t] [] [] (.bool b)):mz C w A (cQ .In) t (bP Cc dx) (.bool b):=by
 refine⟨λk D F s a l n Q E q=>?_⟩;have bs:=C.bs a;refine n.eA λx o e p=>?_;subst p;refine qd (h F s a) λG m u H J=>?_;have X:=dY d bs;have I:=jq bs e u;refine aa <|bq (aa (aa (I.type.here ((NN X c).here ?_))));refine AU (by simp) <|aa (unlessNone_K X I c i ?_);refine j.run F s [.ref x,k] [] a (.cons (.pt e rfl) (.cons l .nil)) .nil _ _ λv y z g r=>r.eB <|qB (au (q _ y z g (.bool b)))
def kb(w):eW (jw w) (.ref 369) "__getattribute__" = ab (ab (.builtin "object.__getattribute__")):=by kernel_rfl
def oZ(w):eW (jw w) (.ref 369) "__getattr__" = ab aC:=by kernel_rfl
def wd(w):(RP (jw w) 369).any (·.hasDict)=true:=by kernel_rfl
def DF(w):eW (jw w) (.ref 369) "_headers" = ab aC:=by kernel_rfl
def pQ(w):eW (jw w) (.ref 369) "_convert_string_type" = ab (ab (.ref 270)):=by kernel_rfl
def M5(w):eW (jw w) (.ref 369) "get" = ab (ab (.ref 316)):=by kernel_rfl
def th(w):VW (jw w) (.ref 270)=ab (.type "function"):=by kernel_rfl
def Vb{c b:Type}(d:bu->Option mV)(p:c->Option b)(f:mV->(bu->jj c)->Option b)(t:jj c):Option b:=
 t.rec (motive:=λz=>Option b) p (λz=>aC) (λz=>aC) (λz=>aC) (λz z e=>e ()) (λz z z=>aC) (λa z z e=>(d a).bind e) (λz z z z z=>aC) (λo k z=>f o k) (λz z z=>aC) (λz z z=>aC) (λz z z=>aC) (λz z=>aC) (λz z=>aC) (λz z z z=>aC) (λz z z z=>aC) (λz z z z z z=>aC) (λz z z=>aC) (λz z z=>aC) (λz z z=>aC) (λz z z z z=>aC) (λz z z z z=>aC) (λz z=>aC) (λz z z=>aC) (λz z=>aC) (λz z z z z z=>aC)
def GT{b c:Type}{r:c}{Q:b->aH->Prop}{p:b->Option c}{f:mV->(bu->jj b)->Option c}(h:∀a o,d a=ab o->s.heap.get? a=ab o)(i:∀a,p a=ab r->aP M A (.pure a) Q E s)(j:∀o k,f o k=ab r->aP M A (.alloc o k) Q E s)(t:jj b):Vb d p f t=ab r->aP M A t Q E s:=
 t.rec i (λz=>ons) (λz=>ons) (λz=>ons) (λz z g e=>nd_rule (g () e)) (λz z z=>ons) (λa z z g e=>cY (kO.mp e) λo l e=>nd_load (h a o l) (g o e)) (λz z z z z=>ons) (λo k z=>j o k) (λz z z=>ons) (λz z z=>ons) (λz z z=>ons) (λz z=>ons) (λz z=>ons) (λz z z z=>ons) (λz z z z=>ons) (λz z z z z z=>ons) (λz z z=>ons) (λz z z=>ons) (λz z z=>ons) (λz z z z z=>ons) (λz z z z z=>ons) (λz z=>ons) (λz z z=>ons) (λz z=>ons) (λz z z z z z=>ons)
def Mf{b:Type}(a:bu->Option mV):jj b->Option b:=Vb a ab λz z=>aC
def Ba{b:Type}(d:∀a o,c a=ab o->s.heap.get? a=ab o){t:jj b}{r:b}{Q:b->aH->Prop}(e:Mf c t=ab r)(q:Q r s):aP M A t Q E s:=GT d (λa e=>bt e▸nd_pure q) (λz z=>ons) t e
def wx:Slot "re.Pattern" "search" "re.Pattern.search" :=
 .of (owner:= "re.Pattern") (n:= "search") (by rw[fH,dw];kernel_rfl) (by decide +kernel) (by decide +kernel) (by decide +kernel)
  (by first|exact .inl (by decide +kernel)|exact .inr (by decide +kernel)) (by rw[ip];kernel_rfl)
def BM:sn zL "re.Pattern.search" = ab Builtin.«re.Pattern.search»:=so #v[]
def C9(a b):yV "re.Pattern.search" ⟨[a,b],[]⟩:=by kernel_rfl
def Cq:VV (.builtin "re.Pattern.search")=cD (.type "method_descriptor"):=by rw[builtinType_eq_fast];kernel_rfl
def zC:PlainAttrs "re.Pattern" :=
 ⟨⟨"object.__getattribute__",by rw[fH,dw];kernel_rfl,by decide +kernel⟩,by rw[fH,dw];kernel_rfl⟩
noncomputable def eQ:List Q1:=[112,113,114,115,116].map (λc=>[c])++[80,81,82,83,84].map (λc=>[c])++[[112,113,114,115,116],[97,108,108],[117],[118]]++(am 10).map (λi=>[48+i])++[112,113,114,115,116].flatMap λc=>(am 10).map λi=>[c,48+i]
noncomputable def J6(r:Option Fin):Bool:=match r with|some (.done (.ret v))=>v==.none|z=>false
def Fv(w)(t):(eQ.all λl=>J6 (Mf (λa=>(jw w).lookup a) (Builtin.«re.Pattern.search» ⟨[.ref 235,.str (Ss l) t],[]⟩))&&J6 (Mf (λa=>(jw w).lookup a) (Builtin.«re.Pattern.search» ⟨[.ref 240,.str (Ss l) t],[]⟩)))=true:=by kernel_rfl
def Dn:J6 r=true->r=ab (.done (.ret .none)):=by
 cases r with
 |none=>exact bff
 |some f=>cases f with
  |done g=>cases g with
   |ret v=>exact λh=>kN h▸rfl
   |_=>exact bff
  |_=>exact bff
def Xf(w:bC)(p:bu)(o:mV):Prop:=(jw w).lookup p=ab o/\o.cls=.type "re.Pattern"/\o.dict=aC
def K4(w)(b:Bool):∃o,Xf w (if b then 235 else 240) o:=by
 have key:((jw w).lookup (if b then 235 else 240)).any (λo=>o.cls==.type "re.Pattern"&&o.dict.isNone)=true:=by cases b<;>kernel_rfl
 refine cY (any_some key) λo c a=>?_;rw[bc]at a;exact⟨o,c,beq_iff_eq.mp a.1,Option.isNone_iff_eq_none.mp a.2⟩
noncomputable abbrev Qt(b:Bool):bu:=if b then 235 else 240
def Lc{C:fv B}(d:dg w B)(b):mD C w A (.val (.ref (Qt b))) "search" (.builtin "re.Pattern.search") true:=by
 refine⟨λF s j c r pl Q E f=>?_⟩
 (first|obtain rfl:=r.cV|obtain⟨z,rfl⟩:=r.cV|obtain rfl:=r.nw|refine r.eI λz=>?_)
 obtain⟨o,g,h,i⟩:=K4 w b;have e:=(C.bs c).keep _ _ (d.X _ _ g);exact mQ ⟨_,e,h⟩ zC wx Cq (λa q=>by cases q;exact⟨_,e,i⟩) (f F s (ic.refl (C.bs c).bh))
def I5{C:fv B}(f:dg w B)(b)(g:l∈eQ):cR C w A (.builtin "re.Pattern.search") [.val (.ref (Qt b)),.str (Ss l)] [] [] .none:=by
 refine⟨λF s vs us d h i Q E j=>?_⟩;refine h.e2 λr t m n=>i.e0 <|m.eV <|n.eS λtk=>mB (K4 w b) λo p q u=>?_;have k:∀a o,(jw w).lookup a=ab o->s.heap.get? a=ab o:=λa o e=>(C.bs d).keep _ _ (f.X _ _ e);have c:=bg.mp (Fv w tk) l g;rw[bc]at c;refine dJ wx ⟨_,k _ _ p,q⟩ BM ?_ (C9 _ _);refine Ba k ?_ ⟨_,rfl,j _ F s (ic.refl (C.bs d).bh) .none⟩;cases b
 .exact Dn c.2
 .exact Dn c.1
def lN(X:(jw w).In s.heap)(e:Mf (λa=>(jw w).lookup a) (RK fd args)=ab binds):BindsTo s fd args binds:=
 λz z z z b=>Ba (λa o h=>X a o h) e b
def Cy:cR C w A (.type "type") [.str x] [] [] (.val (.type "str")):=by
 refine⟨λF s vs us a b c Q E d=>?_⟩;refine b.e1 λf e=>c.e0 <|e.eS λz=>call_type_of (fV _ _ _) #v[_] (d _ F s (ic.refl (C.bs a).bh) (.val _))
def Fk:mz C w A (cQ .Is) (.val (.type a)) (.val (.type b)) (.bool (d3 a==d3 b)):=by
 refine⟨λg h F s c d e Q E f=>?_⟩;refine d.eV ?_;refine e.eV ?_;exact au (f _ F s (ic.refl (C.bs c).bh) (.bool _))
noncomputable abbrev ZL(n:Nat):T:=.val (.ref n)
def lP{C:fv B}(c:dg w B)(d:Rm (n+2) A)(e:l∈eQ):cR C w A (.ref 270) [t,.str (Ss l)] ["name"] [.bool b] (.str (Ss l)):=by
 refine⟨λF s vs us f g i Q E j=>?_⟩;refine g.e2 λk m o p=>i.e1 λq u=>enter (K:=Tk.nil) [("self",t),("value",.str (Ss l)),("name",.bool b)] [k,m,q] [] [] c (C.bs f) d rfl #v[] (cb rfl) rfl rfl (.cons o (.cons p (.cons u .nil))) trivial kq λL G H a=>kF a (aN (dD c aF bK.ty Cy) (jo c) Fk) (λh x y a=>?_) (λh x y a=>absurd h #v[_]);refine j8 (t:=ZL (Qt b)) a ?_ (.inl rfl) rfl λI J a=>?_
 .rw [show ZL (Qt b)=(if b=true then ZL 235 else ZL 240) by cases b;exact(if_neg ck).symm;exact(if_pos rfl).symm];exact ja (eP aF lb) (λM=>fg c rfl (λF=>.val (.ref 235)) rfl rfl rfl) (λM=>fg c rfl (λF=>.val (.ref 240)) rfl rfl rfl)
 refine kF a (eP (cF aF (Lc c b) (kj (aq aF aK)) bK.bi (I5 c b e) rfl) pU) (λh z D a=>absurd h #v[_]) (λh z D a=>?_);exact fi a aF λv F' s' h' r=>j v F' s' h'.d6 r
def gm(l:Q1):Q1:=(iw (Ss l)).cps.toList
def vF(l):iw (Ss l)=Ss (gm l):=by delta gm Ss;simp
def Nf:(eQ.all λl=>!qx (iw (Ss l)).length&&eQ.contains (gm l))=true:=by decide +kernel
def oS(h:l∈eQ):qx (iw (Ss l)).length=false/\gm l∈eQ:=by
 have:=bg.mp Nf l h;rw[bc,iu]at this;exact⟨this.1,d8.mp this.2⟩
abbrev y5:=Q1×Q1
abbrev kY(a:y5):T:=.qb [.str (Ss a.1),.str (Ss a.2)]
abbrev Tk.mC(w:bC)(dx l:bu)(a:List y5):Tk:=(Tk.gA w dx [("_headers",.val (.ref l))]).bI (Tk.cu w l (a.map kY))
def jC(a:List y5):Prop:=(∀b∈a,b.1∈eQ/\b.2∈eQ)/\a.length<=1000
def mS(C:fv B)(K:Tk):Prop:=∀F s,C.P F s->K.I F s/\∀a∈K.tk,F a=aC/\a<s.heap.objs.size
def gv{K:Tk}:mS (St.pre B w X loc K) K:=λz z h=>⟨h.cV,λa b=>⟨(h.apart a b).1,(h.apart a b).2.1⟩⟩
abbrev V8(a:List y5):M2:=[("_headers",.list (a.map kY))]
def rA(bs:Bs B F s)(h:(Tk.mC w dx l f).I F s)(g:∀a∈(Tk.mC w dx l f).tk,F a=aC/\a<s.heap.objs.size) :
 ∃o,o.cls=.type "list"/\F l=aC/\Bs B (ie F l o) s/\(Tk.gA w dx (V8 f)).I (ie F l o) s/\(∀a∈[dx],ie F l o a=aC/\a<s.heap.objs.size)/\l<s.heap.objs.size:=by
 obtain⟨⟨j,m,e1,n,p⟩,⟨vs,k,e2,t⟩,i⟩:=h;have d:=g l (ag _ (.head _));have hd:=g dx (ac _ (.head _));have c:Le F (ie F l (uG vs k)):=ee d.1;refine⟨uG vs k,rfl,d.1,⟨λa o e=>c a o (bs.fj a o e),λb o q=>?_⟩,⟨j,m,e1,?_,p⟩,λa h=>?_,d.2⟩
 .unfold ie at q
  split at q
  .rename_i z;subst z;cases q;exact e2
  .exact bs.bh b o q
 .refine DZ n.Af λtk v ds u r x=>?_;subst u;obtain rfl:=x.nw;obtain rfl:=r.cV;exact .cons (.list dG (t.cC c)) .nil
 .cases aB.mp h;refine⟨?_,hd.2⟩;delta ie;rw[if_neg (λq=>i dx (.head _) (by rw[q];exact .head _))];exact hd.1
noncomputable def nL(b:List y5)(nm:Q1):T:=match b.find? λa=>gm a.1==gm nm with
 |some a=>.str (Ss a.2)
 |none=>.none
def O8(a)(nm)(k):T.nl k (nL a nm)=true:=by delta nL;split<;>cases k<;>rfl
abbrev gtA(dx:bu)(nm:Q1):M2:=[("self",bP 369 dx),("name",.str (Ss (gm nm))),("default",.none)]
def QB{a:List y5}(b:a[i]?=ab c)(h:gm c.1=gm nm)(d:∀j,j<i->gm (a.getD j ([],[])).1≠gm nm):(a.find? λc=>gm c.1==gm nm)=ab c:=by
 induction a generalizing i with
 |nil=>simp at b
 |cons x a f=>
  cases i with
  |zero=>
   simp at b;subst b;rw[dQ,h];simp
  |succ i=>
   have:(gm x.1==gm nm)=false:=beq_eq_false_iff_ne.mpr (d 0 #v[bO 0x6031]);rw[dQ,this];exact f (by simpa using b) λj e=>d (j+1) #v[(bW 0x1606110e) e]
def CR{C:fv B}(c:dg w B)(k:Rm (n+3) A)(P:mS C (Tk.mC w dx l a))(R:jC a)(S:nm∈eQ):cR C w A (.ref 316) [bP 369 dx,.str (Ss nm)] [] [] (nL a nm):=by
 refine⟨λF s vs us G U V Q E W=>?_⟩;refine U.e2 λY Z r1 r2=>V.e0 <|dS (P F s G) λhI H=>W0 (rA (C.bs G) hI H) λo ho m bs I x hll=>?_;have p:Le F (ie F l o):=ee m;refine enter (F:=ie F l o) (K:=Tk.gA w dx (V8 a)) [("self",bP 369 dx),("name",.str (Ss nm)),("default",.none)] [Y,Z,.none] [] [] c bs k rfl #v[] (lN (dY c bs) #v[]) rfl rfl (.cons (r1.cC p) (.cons (r2.cC p) (.cons .none .nil))) I x λL s1 hL b=>?_;have jO:∀v F' s' (X:Fx) loc K,X.s0=s->X.F0=ie F l o->X.md=[]->St B w X loc K F' s'->Rp w F' v (nL a nm)->Q v s':=λv F' s' X loc K e1 e2 e3 h r=>by
  have g:=h.d6;rw[e1,e2,e3]at g;exact W v _ s' (pI m g) (Rp.drop (g.le l o dG) ho 0 r (O8 _ _ _))
 refine dS (oS S) λy z=>j8 (t:=.str (Ss (gm nm))) b (cF aF (k8 c SM rfl (pQ w).symm (th w) (kb w) (oZ w)) (Bh (aq (cF aF lY AC bK.bi (by rw[<-vF];exact kc y) rfl) aK) (ms jL k9) rfl rfl rfl rfl) (bK.fn c #v[]) (lP (n:=n) c (k.deeper.dn rfl) z) rfl) (.inl rfl) rfl λF2 s2 b=>?_;have b:=b.uy (loc':=gtA dx nm) (t9 ⟨rfl,rfl,rfl,trivial⟩);refine Md (ex:=[]) (ts:=a.map kY) (f:=λi l=>dz "v" (.str (Ss (a.getD i ([],[])).2)) (dz "k" (.str (Ss (a.getD i ([],[])).1)) l)) (λi loc K=>K=Tk.gA w dx (V8 a)/\loc=gtA dx nm/\∀j,j<i->gm (a.getD j ([],[])).1≠gm nm) b (iC (mZ c aF SM rfl (wd w) (DF w) (kb w) rfl) (iK #v[k.1])) (λ_ h=>.inl h) (λ_ h=>nomatch h) (λi loc' K' h=>by rw[h.1];exact⟨rfl,rfl⟩) (λi t e=>?_) ⟨rfl,rfl,λ_ h=>nomatch h⟩ ?_ ?_
 .have e2:t=kY (a.getD i ([],[])):=rI e _;subst e2;exact nX #v[k.1] (ET (.inl rfl) (.inl rfl))
 .clear b;rintro L1 i loc K F5 s5 _ hi ⟨rfl,rfl,d⟩ b;rw[af]at hi;have D:a[i]?=ab (a.getD i ([],[])):=gS hi _;generalize a.getD i ([],[])=J at *;refine kF b (aN (cF aF lY AC bK.bi (kc (oS (R.1 _ (bX D)).1).1) rfl) aF nv) (λh M s6 b=>?_) (λh M s6 b=>?_)
  .rw [vF,decide_eq_true_eq,lL]at h;refine fi b aF λv F' s' h' r=>jO v F' s' _ _ _ rfl rfl rfl h' ?_;have:nL a nm=.str (Ss J.2):=by
    delta nL;rw[QB D h d]
   rw[this];exact r
  .rw [vF,decide_eq_false_iff_not,lL]at h;refine oa ⟨_,_,M,⟨rfl,rfl,λj N=>?_⟩,b.uy (t9 ⟨rfl,rfl,rfl,trivial⟩)⟩;by_cases q:j=i
   .subst q;rw[ar,D];exact h
   .exact d j #v[(bW 0x1011026c160e) N q]
 .clear b;rintro loc K F5 s5 ⟨rfl,rfl,d⟩ b;rw[af]at d;refine oa (fi b aF λv F' s' h' r=>jO v F' s' _ _ _ rfl rfl rfl h' ?_);have:nL a nm=.none:=by
   delta nL;rw (config:={}) [oj.mpr λJ O=>?_];obtain⟨j,u,e⟩:=HQ.mp O;have:=d j u;rw[gD u]at this;rw[<-e];simpa using this
  rw[this];exact r
def OI{K:Frag}{f:bu}(h:fnIn K f=true):∃a b d c,K.lookup f=ab ⟨a,b,.func d,c⟩:=by
 delta fnIn at h;cases q:K.lookup f with
 |none=>rw[q]at h;exact bff h
 |some o=>
  rw[q]at h;cases o with
  |mk a b d c=>cases d with
   |func d=>exact⟨a,b,d,c,rfl⟩
   |_=>exact bff h
def Du{C:fv B}(n:dg w B)(q:vn C w dx ats)(t:Ev C w A ax b (bP Cc dx))(hi:Ev C w A ax slice i)(g:eW (jw w) (.ref Cc) "__getitem__" = ab (ab (.ref f))) (u:fnIn (jw w) f=true) (h:isFn (jw w) (.ref f)=true)
 (y:cR C w A.in1 (.ref f) [bP Cc dx,i] [] [] r) (j:autoParam (∀x i,subscripted slice true (.ref x) i=runValue (.builtin "lifetime.subscript" ⟨[.ref x,i],[]⟩)) dfJ):Ev C w A ax (.Subscript b slice pos) r:=by
 refine⟨λF s c Q E z=>FU (t.run F s c _ _ λS D G d H=>hi.run D G (C.st c d) _ _ λJ k l g2 L=>?_)⟩;have a:=C.st (C.st c d) g2;have bs:=C.bs a;refine(H.cC g2.le).eA λx o e p=>?_;subst p;refine qd (q k l a) λU m M V W=>?_;have X:=dY n bs;have I:=jq bs e M;obtain⟨W,W,W,W,N⟩:=OI u
 .refine aa (aa (aa (I.type.here ((NN X g).here ?_))));refine aa (tr (X _ _ N) (au ?_));rw[j];refine aa (F8 (fJ entry_sub ?_));refine aa (F9 X I g (beq_iff_eq.mp h) (y.run k l [.ref x,J] [] a (.cons (.pt e rfl) (.cons L .nil)) .nil _ _ λv O P g3 R=>?_));refine au <|aa (wpAny_letTemporaryGo (au (z v O P ((d.trans g2).trans g3) R)))
def DP{C:fv B}{k:Nat}(c:dg w B)(d:vn C w dx ats)(h:eW (jw w) (.ref Cc) "__len__" = ab (ab (.ref f))) (b:isFn (jw w) (.ref f)=true) (y:k<2 ^ 62)
 (i:cR C w A.in1 (.ref f) [bP Cc dx] [] [] (.int (k:Int))):cR C w A (.builtin "len") [bP Cc dx] [] [] (.int (k:Int)):=by
 refine⟨λF s vs us a j l Q E n=>?_⟩;refine j.e1 λz q=>l.e0 ?_;have bs:=C.bs a;refine q.eA λx o e p=>?_;subst p;refine qd (d F s a) λD m t G J=>Calls.call_function_entry kind_len plain_len entry_len (args_len1 _) <|aa (au ?_);refine aa (F9 (dY c bs) (jq bs e t) h (beq_iff_eq.mp b) (i.run F s [.ref x] [] a (.cons (.pt e rfl) .nil) .nil _ _ λv H I g r=>?_));refine r.eI λu=>aa (bq (au ?_));refine aa (RQ ?_);refine AU (by omega) <|AU (by omega) <|aa (wpAny_mkInt (au ⟨_,rfl,n _ _ _ (g.trans (Gr.j4 g.bh _)) (.int _ _)⟩))
def tW:cR C w A (.builtin "isinstance") [.int i,.val (.type "int")] [] [] (.bool true):=by
 refine⟨λF s vs us a b c Q E d=>?_⟩;refine b.e2 λg h e f=>c.e0 <|e.eI λz=>?_;refine f.eV ?_;exact call_isinstance (isinstance_true #v[] (by rw[ip];kernel_rfl)) ⟨typeIs_int _ _ _,d _ F s (ic.refl (C.bs a).bh) (.bool _)⟩
def yM{K:Tk}(y:dg w B)(d:St B w X loc K F s)(z:gM X K)(C:vn (St.pre B w X loc K) w dx ats)(D:Ev (St.pre B w X loc K) w A X.ax c E)(G:Ev (St.pre B w X loc K) w A X.ax o (bP Cc dx))
 (H:Ev (St.pre B w X loc K) w A X.ax i J) (L:noSeq (jw w) Cc=true) (M:eW (jw w) (.ref Cc) "__setitem__" = ab (ab (.ref f))) (l:isFn (jw w) (.ref f)=true) (N:d5 B w K A (.ref f) [bP Cc dx,J,E] [] [] R)
 (O:cD false=cf c (ab (.Subscript o i j)) pos.line X.ax)
 (P:∀K' t F' s',R K' t->gM X K'->St B w X loc K' F' s'->Go w A bj X.ax Q s'):Go w A (.Assign [.Subscript o i j] c pos::bj) X.ax Q s:=by
 refine⟨bF (tx (D.run F s d _ _ λv S U k V=>G.run S U (d.gr k) _ _ λov W Y g2 Z=>H.run W Y ((d.gr k).gr g2) _ _ λiv n q g3 r3=>?_) O.symm)⟩;have b:=((d.gr k).gr g2).gr g3;have bs:=b.bs;refine(Z.cC g3.le).eA λx ob e p=>?_;subst p;refine qd (C n q b) λes m k1 k2 _=>?_;have r:=dY y bs;have I:=jq bs e k1;refine bq (aa (aa (I.type.here ?_)));refine aa ((anyM_none r L).here ?_);refine Ts (show (!false)=true from rfl) <|au (aa (F9 r I M (beq_iff_eq.mp l) (N.run n q [.ref x,iv,v] [] bs b.cV (λa g=>⟨(b.apart a g).1,(b.apart a g).2.1⟩) (.cons (.pt e rfl) (.cons r3 (.cons ((V.cC g2.le).cC g3.le) .nil))) .nil _ _ λv' t K' F4 s4 hR g4 hI u r5=>au ?_)));obtain⟨q1,q2⟩:=b.mK z g4 (λ_ h=>h) hI λa g=>PU (u a g);exact(P K' t F4 s4 hR q2 q1).run
def yG{K:Tk}(q:dg w B)(d:St B w X loc K F s)(r:gM X K)(u:vn (St.pre B w X loc K) w dx ats)(v:Ev (St.pre B w X loc K) w A X.ax o (bP Cc dx))
 (y:Ev (St.pre B w X loc K) w A X.ax i z) (C:noSeq (jw w) Cc=true) (D:eW (jw w) (.ref Cc) "__delitem__" = ab (ab (.ref f))) (g:isFn (jw w) (.ref f)=true) (E:d5 B w K A (.ref f) [bP Cc dx,z] [] [] R)
 (G:∀K' t F' s',R K' t->gM X K'->St B w X loc K' F' s'->Go w A bj X.ax Q s'):Go w A (.Delete [.Subscript o i H] pos::bj) X.ax Q s:=by
 refine⟨bF (wpAny_Delete (wpAny_deleteEach_cons ?_))⟩;refine wpAny_delete_Subscript (v.run F s d _ _ λov J L g2 M=>y.run J L (d.gr g2) _ _ λN j k g3 O=>?_);have b:=(d.gr g2).gr g3;have bs:=b.bs;refine(M.cC g3.le).eA λx ob e p=>?_;subst p;refine qd (u j k b) λes m P k2 _=>?_;have l:=dY q bs;have I:=jq bs e P;refine bq (aa (aa (I.type.here ?_)));refine aa ((anyM_none l C).here ?_);refine Ts (show (!false)=true from rfl) <|au (aa (F9 l I D (beq_iff_eq.mp g) (E.run j k [.ref x,N] [] bs b.cV (λa c=>⟨(b.apart a c).1,(b.apart a c).2.1⟩) (.cons (.pt e rfl) (.cons O .nil)) .nil _ _ λv' t K' S U V g4 W n r5=>au (wpAny_deleteEach_nil ?_))));obtain⟨Y,Z⟩:=b.mK r g4 (λ_ h=>h) W λa c=>PU (n a c);exact(G K' t S U V Z Y).run
def Sh{X:Fx}(h:Go w A body X.ax (qE (Go w A bj X.ax Q) Q) s):Go w A (.Try body (a::c) [] [] pos::bj) X.ax Q s:=by
 refine⟨?_⟩;rw[FP];refine aa (wpAny_Try_except (cj h.run (λfl b q=>?_) λ_ _ q=>q.elim));cases fl with
 |next=>exact DS q.run
 |brk=>exact au q
 |cont=>exact au q
 |ret v=>exact au q
def qc(a:s.heap.get? l=ab (uG vs n))(h:Q vs.toArray s):aP M A (qap (.ref l)) Q E s:=by
 exact aa (vR a rfl (au h))
def B1(f:s.heap.get? l=ab (uG vs n))(hd:s.heap.get? d=ab (uG us m))(p:s.heap.IsSliceOf sl .none .none .none)(i:l≠d)(g:vs.length+us.length<=be)
 (q:Q () {s with heap:=s.heap.update l (bQ λxs=>xs.extract 0 0++us.toArray++xs.extract (max 0 (vs.toArray.size:Int)).toNat xs.size)}):aP (aO pw w) A (Wq (.ref l) (.ref sl) (.ref d)) Q E s:=by
 have h:s.heap.IsList l vs.toArray:=⟨_,f,rfl,n,rfl⟩;refine mB p λos a j b=>?_;have e:s.TypeIs (.ref sl) "slice":=⟨os,a,j⟩;have k:s.TypeIs (.ref d) "list":=⟨_,hd,rfl⟩;delta Wq
 try with_reducible refine bq ?_
 first|refine aa (au ?_)|skip
 refine aa (Wr h.typeIs #v[_] ?_);refine aa (gq h.typeIs Ws
  (dJ Ws h.typeIs entry_list_setitem ?_ (args_list_setitem _ _ _)))
 show aP _ _ (uL (.ref sl) >>= _) _ _ s;refine aa ?_;unfold uL;refine aa (DV e slice_no_index ?_);refine Ts rfl ?_;refine au <|aa (gV e ?_);refine AU #v[_] ?_;rw[listSliceParts_eq];refine aa (aa (l6 a b rfl (aa (Ga .none ?_))));refine AU (show ¬((rawPart aC==gH 0)=true) from ck) <|aa (l6 a b rfl (aa (Ga .none ?_)));refine aa (l6 a b rfl (aa (Ga .none (au ?_))));have c:ni (.ref l) (.ref d)=false:=beq_eq_false_iff_ne.mpr i;rw[c];refine AU ck <|aa <|aa (gV k ?_);refine Ts #v[_] <|qc hd ?_
 try with_reducible refine au ?_
 refine aa (qc f ?_);refine aa (dK (sliceIndices_raw aC aC aC vs.toArray.size (by simp)) ?_);show aP _ _ (if ((1:Int)==1)=true then _ else _) _ _ _;refine Ts #v[_] <|aa (fW ?_);have o:wH (vs.toArray.size+us.toArray.size)=false:=by
  delta wH;rw[decide_eq_false];simp only[aL];exact WK g
 rw[o,if_neg #v[_]];refine aa (tK f rfl ?_ (by simp only[aL];exact Yb g) ?_)
 .exact aa (RQ (aa (au (au ⟨.none,rfl,au q⟩))))
 .simp only[Array.size_append,Array.size_extract,aL];exact Yq g
def FD{K:Tk}(j:St B w X loc K F s)(t:gM X K)(f:bU K K' (Tk.cu w a ts) (Tk.cu w a us))(z:Ev (St.pre B w X loc K) w A X.ax g (.list us))(k:Ev (St.pre B w X loc K) w A X.ax o (.val (.ref a)))
 (C:Ev (St.pre B w X loc K) w A X.ax i (.IG aC aC aC)) (D:ts.length+us.length<=be) (E:cD false=cf g (ab (.Subscript o i l)) pos.line X.ax)
 (G:∀F' s',gM X K'->St B w X loc K' F' s'->Go w A bj X.ax Q s'):Go w A (.Assign [.Subscript o i l] g pos::bj) X.ax Q s:=by
 refine⟨bF (tx (z.run F s j _ _ λv H I p r=>k.run H I (j.gr p) _ _ λZ J L g2 M=>C.run J L ((j.gr p).gr g2) _ _ λiv N O g3 P=>?_) E.symm)⟩;have c:=((j.gr p).gr g2).gr g3;have r:=(r.cC g2.le).cC g3.le;refine M.eV <|Xp P.cV λx vl vu Y R S p1 p2 U=>?_;subst R;cases p1;cases p2;cases U;refine r.eL λd vs m u rd=>m8 (lg f c.cV) λxs n e rs=>?_;have V:=f.sub a (.head _);have y:a≠d:=λq=>by
  have:=(c.apart a V).1;rw[q,u]at this;cases this
 refine B1 e (c.bs.bh _ _ u) ⟨_,c.bs.bh _ _ S,rfl,rfl⟩ y (by rw[rs.length,rd.length];exact D) ?_;have e2:=lw e λh=>h.extract 0 0++vs.toArray++h.extract (max 0 (xs.toArray.size:Int)).toNat h.size;have e3:(xs.toArray.extract 0 0++vs.toArray++xs.toArray.extract (max 0 (xs.toArray.size:Int)).toNat xs.toArray.size)=vs.toArray:=by
  have k:(max 0 (xs.toArray.size:Int)).toNat=xs.toArray.size:=#v[bO 0x703eb2];rw[k];simp
 rw[e3]at e2;exact(G N _ (λb W=>t b (f.tk▸W)) (c.DE f t (bB O.heap a _) (.head _) ⟨vs,_,e2,rd⟩)).run
def Au{K:Tk}(b:St B w X loc K F s)(c:JU (St.pre B w X loc K) w A X.ax e us)
 (k:∀a F' s',St B w X loc K F' s'->Rp w F' (.ref a) (.list us)->s.heap.objs.size<=a->Q (.ret (.ref a)) s'):Go w A (.Return (ab e) pos::bj) X.ax Q s:=
 ⟨bF (Wj (c.run F s b _ _ λa d f g r l=>k a d f (b.gr g) r l))⟩
def H9{st:Option bv}{lo:Option Int}(i:Ev C w A ax b (.list ts))(g:Ev C w A ax (.Slice l u st p) (.IG lo hi sp))(j:sp≠ab 0)(k:ts.length<=be):JU C w A ax (.Subscript b (.Slice l u st p) pos) (ta ts lo hi sp):=by
 refine⟨λF s d Q E m=>FU (i.run F s d _ _ λo q t c v=>g.run q t (C.st d c) _ _ λy L M g2 z=>?_)⟩;refine iA (BC (slice:=.Slice l u st p) o y) λI B=>?_;have bh:=(C.bs (C.st (C.st d c) g2)).bh;refine DZ (v.cC g2.le).cV λa vs n f h r=>?_;subst f;refine Xp z.cV λx N O J f e D G H=>?_;subst f;refine tail_any ⟨_,bh _ _ h,rfl⟩ mP.lookup (Jr ⟨_,bh _ _ h,rfl,n,rfl⟩ ⟨_,bh _ _ e,rfl,rfl⟩ D G H j ?_ (by rw[aL,r.length];exact k)) B;exact m _ _ _ ((c.trans g2).trans (lk bh rfl)) (.list (by rw[FV];exact dG) ((r.ta lo hi sp).cC (ee (c8 bh (ah _))))) (aA c.size g2.size)
def Mz(ts):ta ts aC aC aC=ts:=by
 have e:il (eZ aC aC aC ts.length).1 (eZ aC aC aC ts.length).2.1 (eZ aC aC aC ts.length).2.2=am ts.length:=by
  show il 0 (ts.length:Int) 1=_;delta il;have e2:(if (1:Int) > 0 then (if (0:Int)<(ts.length:Int)then ((ts.length:Int)-0+1-1) / 1 else 0)else (if (0:Int) > (ts.length:Int)then (0-(ts.length:Int)-1-1) / (-1)else 0)).toNat=ts.length:=by
   rw[if_pos #v[_]];exact Hh _
  dsimp only;rw[e2]
  conv=>rhs;rw[<-sG (am ts.length)]
  refine bL λj z=>?_;simp
 delta ta;rw[e,sF]
def Qe(b:Ev C w A ax a (.list ts))(c:ts.length<=be):JU C w A ax (.Subscript a (.Slice aC aC aC p) pos) ts:=by
 have:=H9 b (iJ ct ct ct) (by simp) c (pos:=pos) (p:=p);rw[Mz]at this;exact this
def TK(w):eW (jw w) (.ref 369) "__len__" = ab (ab (.ref 277)):=by kernel_rfl
def QX(w):eW (jw w) (.ref 369) "__contains__" = ab (ab (.ref 303)):=by kernel_rfl
def Q2(w):eW (jw w) (.ref 369) "__getitem__" = ab (ab (.ref 296)):=by kernel_rfl
def O2(w):eW (jw w) (.ref 369) "__setitem__" = ab (ab (.ref 284)):=by kernel_rfl
def Qz(w):eW (jw w) (.ref 369) "__delitem__" = ab (ab (.ref 289)):=by kernel_rfl
def CC(w):noSeq (jw w) 369=true:=by kernel_rfl
def Lw(w):VW (jw w) (.ref 316)=ab (.type "function"):=by kernel_rfl
def mS.right{M:Tk}{K:Tk}(h:mS C (M.bI K)):mS C K:=λF s b=>⟨(h F s b).1.2.1,λa c=>(h F s b).2 a (ag _ c)⟩
def mS.left{K:Tk}(h:mS C (K.bI M)):mS C K:=λF s b=>⟨(h F s b).1.1,λa c=>(h F s b).2 a (ac _ c)⟩
def kl:vn (St.pre B w X loc (Tk.mC w dx l a)) w dx [("_headers",.val (.ref l))]:=λz z h=>h.cV.1
def zm{C:fv B}(a:dg w B)(b:Rm (n+4) A)(f:mS C (Tk.mC w dx l c))(g:jC c)(h:nm∈eQ):cR C w A (.ref 303) [bP 369 dx,.str (Ss nm)] [] [] (.bool (!(nL c nm).isNone)):=by
 refine⟨λF s vs us d i j Q E k=>?_⟩;refine i.e2 λm o p q=>j.e0 <|dS (f F s d) λt e=>enter [("self",bP 369 dx),("name",.str (Ss nm))] [m,o] [] [] a (C.bs d) b rfl #v[] (cb rfl) rfl rfl (.cons p (.cons q .nil)) t e λL x y u=>fi u (ky (cF aF (k8 a kl rfl (M5 w).symm (Lw w) (kb w) (oZ w)) (kj (aq aF aK)) (bK.fn a #v[]) (CR a b.deeper gv g h) rfl) fQ eR) λv F' s' h' r=>k v F' s' h'.d6 r
def BR{C:fv B}(a:dg w B)(b:Rm (n+4) A)(f:mS C (Tk.mC w dx l c))(g:jC c)(h:nm∈eQ):cR C w A (.ref 296) [bP 369 dx,.str (Ss nm)] [] [] (nL c nm):=by
 refine⟨λF s vs us d i j Q E k=>?_⟩;refine i.e2 λm o p q=>j.e0 <|dS (f F s d) λt e=>enter [("self",bP 369 dx),("name",.str (Ss nm))] [m,o] [] [] a (C.bs d) b rfl #v[] (cb rfl) rfl rfl (.cons p (.cons q .nil)) t e λL x y u=>fi u (cF aF (k8 a kl rfl (M5 w).symm (Lw w) (kb w) (oZ w)) (kj (aq aF aK)) (bK.fn a #v[]) (CR a b.deeper gv g h) rfl) λv F' s' h' r=>k v F' s' h'.d6 r
def MG{C:fv B}(c:dg w B)(j:Rm (n+2) A)(k:mS C (Tk.mC w dx l a))(m:jC a):cR C w A (.ref 277) [bP 369 dx] [] [] (iT a.length):=by
 refine⟨λF s vs us f p q Q E t=>?_⟩;refine p.e1 λu x=>q.e0 <|dS (k F s f) λy g=>W0 (rA (C.bs f) y g) λo z b bs i d G=>enter [("self",bP 369 dx)] [u] [] [] c bs j rfl #v[] (cb rfl) rfl rfl (.cons (x.cC (ee b)) .nil) i d λL H I D=>fi D ?_ λv F' s' h r=>t v _ s' (pI b h.d6) (Rp.drop (h.d6.le l o dG) z 0 r rfl);have e:(a.map kY).length=a.length:=af ..;rw[show iT a.length=T.int ((a.map kY).length:Int) by rw[e]];exact dD c (mZ c aF SM rfl (wd w) (DF w) (kb w) rfl) bK.bi (nZ (by rw[e,aJ];have:=m.2;exact(bW Sw7) e this))
def yq{C:fv B}(f:dg w B)(u:Rm (n+2) A)(v:mS C (Tk.mC w dx l c))(x:jC c):uY C w A (.ref 333) [bP 369 dx] (c.map kY):=by
 refine⟨λF s vs g y Q E z=>?_⟩;refine y.e1 λD G=>dS (v F s g) λH i=>W0 (rA (C.bs g) H i) λo I d bs j e k=>enter [("self",bP 369 dx)] [D] [] [] f bs u rfl #v[] (cb rfl) rfl rfl (.cons (G.cC (ee d)) .nil) j e λL J M m=>?_;have p:(c.map kY).length=c.length:=af ..;refine Au m (Qe (mZ f aF SM rfl (wd w) (DF w) (kb w) rfl) (by rw[p,aJ];have:=x.2;exact(bW Sw7) p this)) λa F' s' h r t=>?_;have b:s.heap.objs.size<=a:=aA m.d6.size t;exact z a _ s' (pI d h.d6) (oP (n:=1) (h.d6.le l o dG) I r (λq=>absurd k (by rw[<-q];exact aV.mpr b)) (all_map (λN=>rfl) _)) b
noncomputable abbrev e0:y5:=([],[])
def fR(a:List y5)(nm:Q1):List Q1:=(a.filter λb=>gm b.1==gm nm).map (·.2)
def se(a:List y5)(nm:Q1):List y5:=a.filter λb=>!(gm b.1==gm nm)
def vg(b:jC a)(hi:i<a.length):(a.getD i e0).1∈eQ/\(a.getD i e0).2∈eQ:=by
 rw[gD hi];exact b.1 _ (bV hi)
def GE(a b):(decide (iw (Ss a)=Ss (gm b)))=(gm a==gm b):=by
 rw[vF];by_cases h:gm a=gm b
 .rw [h];simp
 .rw [decide_eq_false (λq=>h (lL.mp q)),beq_eq_false_iff_ne.mpr h]
def Mk:gF C w A (kY a) (.int 0) (.str (Ss a.1)):=xb #v[_] #v[_] rfl rfl
def Ut:gF C w A (kY a) (.int 1) (.str (Ss a.2)):=xb #v[_] #v[_] rfl rfl
abbrev haA(dx:bu)(nm:Q1):M2:=[("self",bP 369 dx),("name",.str (Ss (gm nm)))]
def BZ{C:fv B}(d:dg w B)(m:Rm (n+3) A)(J:mS C (Tk.mC w dx l b))(v:jC b)(M:nm∈eQ):uY C w A (.ref 308) [bP 369 dx,.str (Ss nm)] ((fR b nm).map λx=>.str (Ss x)):=by
 refine⟨λF s vs y N Q E O=>?_⟩;refine N.e2 λP R S U=>dS (J F s y) λV z=>W0 (rA (C.bs y) V z) λo W j bs G p H=>?_;have k:Le F (ie F l o):=ee j;refine enter (F:=ie F l o) (K:=Tk.gA w dx (V8 b)) [("self",bP 369 dx),("name",.str (Ss nm))] [P,R] [] ["name"] d bs m rfl #v[] (cb rfl) rfl rfl (.cons (S.cC k) (.cons (U.cC k) .nil)) G p λL Z hL c=>dS (oS M) λt u=>j8 c (cF aF (k8 d SM rfl (pQ w).symm (th w) (kb w) (oZ w)) (Bh (aq (cF aF lY AC bK.bi (by rw[<-vF];exact kc t) rfl) aK) (ms jL k9) rfl rfl rfl rfl) (bK.fn d #v[]) (lP d (m.deeper.dn rfl) u) rfl) (jE rfl rfl) rfl λF2 s2 c=>?_;have c:=c.uy (loc':=haA dx nm) (t9 ⟨rfl,rfl,trivial⟩);refine Au (us:=(fR b nm).map λx=>.str (Ss x)) c ?_ λa F' s' h r I=>?_
 .have e:(fR b nm).map (λx=>T.str (Ss x))=((am b.length).filter λi=>gm (b.getD i e0).1==gm nm).map λi=>T.str (Ss (b.getD i e0).2):=by
   delta fR;rw[aQ,<-rH b e0 (λX=>gm X.1==gm nm)];rfl
  rw[e];refine Ug (m6 (n:=b.length) (τ:=λi=>kY (b.getD i e0)) (ex:=[]) nf su (iC (mZ d aF SM rfl (wd w) (DF w).symm (kb w) rfl) ?_) kq (by rw[aJ];have:=v.2;exact(bW Sw7) (show (b.map kY).length=b.length from af ..) this) (.inl rfl) (λi hi cells Y D kn g=>?_) λi hi hp cells Y D kn g=>?_) rfl
  .rw [<-jK b e0 kY];exact iK #v[m.1]
  .rw [<-GE];exact gW (aN (cF (bf (bD g) bA Mk) lY AC bK.bi (kc (oS (vg v hi).1).1) rfl) (bD g) nv)
  .exact bf (bD g) bA Ut
 .have f:s.heap.objs.size<=a:=aA c.d6.size I;exact O a _ s' (pI j h.d6) (oP (n:=0) (h.d6.le l o dG) W r (λq=>absurd H (by rw[<-q];exact aV.mpr f)) (all_map (λ_=>rfl) _)) f
def Nm{jk:Option (aE->jj Unit)->jj aE}(O:us.all (T.nl k)=true)(h:∀C,Cp (St.pre B w ⟨X.ax,X.s0,C,X.md,X.own⟩ loc (Tk.gA w dx (V8 G))) w A jk (.list us)) :
 Cp (St.pre B w X loc (Tk.mC w dx l G)) w A jk (.list us):=by
 refine⟨λF s d H Q E P=>?_⟩;refine W0 (rA d.bs d.cV λa i=>⟨(d.apart a i).1,(d.apart a i).2.1⟩) λo R j bs I r J=>?_;have n:Le F (ie F l o):=ee j;have e:=d.apart l (ag _ (.head _));have p:=d.apart dx (ac _ (.head _));have S:St B w ⟨X.ax,X.s0,ie X.F0 l o,X.md,X.own⟩ loc (Tk.gA w dx (V8 G)) (ie F l o) s:=by
  refine⟨bs,⟨λb f (q:ie X.F0 l o b=ab f)=>?_,λb f q=>?_,d.d6.keep,bs.bh,d.d6.size,d.d6.gens,d.d6.os,d.d6.toks⟩,?_,d.oy,d.iY,d.iZ,I,λa i=>?_⟩
  .delta ie at q ⊢
   split at q
   .rename_i z;rw[if_pos z];exact q
   .rename_i z;rw[if_neg z];exact d.d6.le b f q
  .show ie X.F0 l o b=ab f\/_;unfold ie at q ⊢
   split at q
   .rename_i z;rw[if_pos z];exact .inl q
   .rename_i z;rw[if_neg z];exact d.d6.new b f q
  .obtain⟨⟨m,U,V⟩,W,Y,Z,f6,f7⟩:=d.frame;refine⟨⟨m,U,λx t q k=>cY (V x t q k) λv u y=>⟨v,u,y.cC n⟩⟩,λx c q=>cY (W x c q) λov u y=>⟨ov,u,λt q3 k=>cY (y t q3 k) λv q4 q5=>⟨v,q4,q5.cC n⟩⟩,Y,Z,?_,λx c q=>?_⟩
   .show ie F l o X.ax.locals=aC;delta ie;rw[if_neg λz=>e.2.2.1 z.symm];exact f6
   .delta ie;rw[if_neg λz=>e.2.2.2 x c q z.symm];exact f7 x c q
  .cases aB.mp i;exact⟨(r dx (.head _)).1,p.2.1,p.2.2⟩
 refine(h _).run _ s S H Q E λD Cl F' s' g rv L M N hm=>P D Cl _ s' (pI j g) (oP (g.le l o dG) R rv (λq=>absurd J (by rw[<-q];exact aV.mpr L)) O) L M ?_ hm;delta jH;split
 .rfl
 .exact N
def jb{K:Tk}(h:X.md=K.tk):gM X K:=λa b=>.inr (h▸b)
def Mt(d:dg w B)(g:Rm (n+3) A)(h:jC b)(q:nm∈eQ):d5 B w (Tk.mC w dx l b) A (.ref 289) [bP 369 dx,.str (Ss nm)] [] [] (λK' t=>K'=Tk.mC w dx l (se b nm)/\t=.none):=by
 refine⟨λF s vs us bs r p u v Q E x=>?_⟩;refine u.e2 λy z C G=>v.e0 <|enter (K:=Tk.mC w dx l b) [("self",bP 369 dx),("name",.str (Ss nm))] [y,z] (Tk.mC w dx l b).tk ["name"] d bs g rfl #v[] (cb rfl) rfl rfl (.cons C (.cons G .nil)) r p λL P R c=>dS (oS q) λj m=>j8 (t:=.str (Ss (gm nm))) c (cF aF (k8 d kl rfl (pQ w).symm (th w) (kb w) (oZ w)) (Bh (aq (cF aF lY AC bK.bi (by rw[<-vF];exact kc j) rfl) aK) (ms jL k9) rfl rfl rfl rfl) (bK.fn d #v[]) (lP (n:=n) d (g.deeper.dn rfl) m) rfl) (jE rfl rfl) rfl λS U c=>?_;have c:=c.uy (loc':=haA dx nm) (t9 ⟨rfl,rfl,trivial⟩);refine FD (us:=(se b nm).map kY) c (jb rfl) (bU.right (bU.here rfl)) ?_ (mZ d aF kl rfl (wd w) (DF w) (kb w) rfl) (iJ ct ct ct) ?_ rfl λH I V c=>?_
 .have e:(se b nm).map kY=((am b.length).filter λi=>!(gm (b.getD i e0).1==gm nm)).map λi=>kY (b.getD i e0):=by
   delta se;rw[rH b e0 (λJ=>!(gm J.1==gm nm))]
  rw[e];refine mf (Nm (k:=1) (all_map (λX=>rfl) _) λO=>m6 (n:=b.length) (τ:=λi=>kY (b.getD i e0)) (ex:=[]) nf su (iC (mZ d aF SM rfl (wd w) (DF w).symm (kb w) rfl) ?_) kq (by rw[aJ];have:=h.2;exact(bO Sv7) this) (.inl rfl) (λi hi cells M D kn f=>?_) λi hi W cells M D kn f=>?_) rfl
  .rw [<-jK b e0 kY];exact iK #v[g.1]
  .rw [<-GE];exact gW (aN (cF (bf (bD f) bA Mk) lY AC bK.bi (kc (oS (vg h hi).1).1) rfl) (bD f) Bj)
  .exact bD f
 .have N:=h.2;rw[af,af,aJ];exact(bW 0x100000079104001d3e8390d) N (show (se b nm).length<=b.length from cH _ _)
 .refine oa (x _ .none (Tk.mC w dx l (se b nm)) H I ⟨rfl,rfl⟩ c.d6 c.cV (λa o=>⟨(c.apart a o).1,(c.apart a o).2.1,.inl o⟩) .none)
end
end Mine
set_option backward.match.sparseCases true
namespace Mine
open PySem PySem.W PySem.Spec PySem.Calls PyProof.Rows PySem.Builtin PySem.Builtin.ObjectAttr
def Ul{K:Tk}(loc)(b)(md)(own)
 (j:dg w B) (e:Bs B F0 s0) (gg:Gr F0 s0 F s) (l:Rm (n+1) A) (m:MK w.params f=ab (fd,body)) (hd:true=Ye w.params fd)
 (c:∀M A E Q,Q ((loc.map (·.1)).zip b) s->aP M A (RK fd ⟨pos,kw⟩) Q E s0) (d:((loc.map (·.1)).all λy=>fd.scope.names.lookup y==ab .local ||fd.scope.names.lookup y==ab .cell)=true)
 (g:sN (loc.map (·.1))=true) (o:da w F b (loc.map (·.2))) (hi:K.I F s) (h:∀a∈K.tk,F a=aC/\a<s.heap.objs.size)
 (k:∀L i,s.heap.objs.size<=L->St B w ⟨rm fd f L,s,F,md,own⟩ loc K F i->
  Go w (A.deeper (rm fd f L)) body (rm fd f L) (λfl s'=>Q (match fl with | .ret v=>v|z=>.none) s') i) :
 aP (aO pw w) A (wY (.ref f) pos kw) Q E s0:=kB (Lp loc b md own j e gg l m hd c d.symm g.symm o hi h k)
def Xy{c:Type}(b:bu->Option mV):jj c->Option (mV×(bu->Option c)):=Vb b (λz=>aC) λo k=>ab (o,λa=>Mf b (k a))
def LU{b:Type}(d:∀a o,c a=ab o->s.heap.get? a=ab o){t:jj b}{o:mV}{r:bu->Option b}{v:b}{Q:b->aH->Prop}(e:Xy c t=ab (o,r))(e2:r s.heap.objs.size=ab v)(q:Q v {s with heap:=s.heap.push o}):aP M A t Q E s:=
 GT d (λz=>ons) (λf k e=>by
  cases e;exact nd_alloc (Ba (λa o h=>aG _ (d a o h)) e2 q)) t e
def qQ{M:Tk}(h:d5 B w L A f ts ns ks R):d5 B w (M.bI L) A f ts ns ks (λK t=>∃L',K=M.bI L'/\R L' t):=by
 refine⟨λF s vs us bs j c m n Q E p=>?_⟩;refine h.run F s vs us bs j.2.1 (λa b=>c a (ag _ b)) m n Q E λv t L' F' s' u g l d r=>p v t (M.bI L') F' s' ⟨L',rfl,u⟩ (g.Dj λa b=>ag _ b) ⟨M.st j.1 g.le g.bh (λa b o e=>g.keep a o (j.2.2 a b) e) (λi G x e=>g.gens.1 i x e) g.toks,l,λa b q=>?_⟩ (λa b=>?_) r
 .rcases (d a q).2.2 with z|z
  .exact j.2.2 a b z
  .exact absurd (c a (ac _ b)).2 (aV.mpr z)
 .rcases ao.mp b with b|b
  .have k:=c a (ac _ b);exact⟨fY g k.1 k.2,aT k.2 g.size,.inl (ac _ b)⟩
  .refine ka (d a b) λy C D=>⟨y,C,D.imp (λz=>ag _ z) id⟩
abbrev Fr(G:List aE->List aE->(Lx0)->(Lx0)->aH->Prop)(B:gn)(w:bC)(K:Tk)(ts ks:List T)(R:Tk->T->Prop):Prop:=∀F s vs us,Bs B F s->K.I F s->(∀a∈K.tk,F a=aC/\a<s.heap.objs.size)->da w F vs ts->da w F us ks->∀(Q:Lx0) (E:Lx0),
 (∀v t K' F' s',R K' t->ic K.tk F s F' s'->K'.I F' s'->(∀a∈K'.tk,F' a=aC/\a<s'.heap.objs.size/\(a∈K.tk\/s.heap.objs.size<=a))->Rp w F' v t->Q v s')->G vs us Q E s
def Hx{G:List aE->List aE->(Lx0)->(Lx0)->aH->Prop}(h:Fr G B w L ts ks R)(k:∀K t,R K t->R' (K.bI M) t):Fr G B w (L.bI M) ts ks R':=by
 intro F s vs us bs j c n p Q E u;refine h F s vs us bs j.1 (λa b=>c a (ac _ b)) n p Q E λv t L' F' s' y g m d r=>?_;have f:∀a∈M.tk,a∉L.tk:=λa b q=>j.2.2 a q b;refine u v t (L'.bI M) F' s' (k _ _ y) (g.Dj λa b=>ac _ b) ⟨m,M.st j.2.1 g.le g.bh (λa b o e=>g.keep a o (f a b) e) (λi H x e=>g.gens.1 i x e) g.toks,λa b q=>?_⟩ (λa b=>?_) r
 .exact(d a b).2.2.elim (f a q) λz=>absurd (c a (ag _ q)).2 (aV.mpr z)
 .refine(ao.mp b).elim (λb=>ka (d a b) λA C D=>⟨A,C,D.imp (λz=>ac _ z) id⟩) λb=>?_;have l:=c a (ag _ b);exact⟨fY g l.1 l.2,aT l.2 g.size,.inl (ag _ b)⟩
def d5.cC(h:d5 B w L A f ts ns ks R)(k:∀K t,R K t->R' K t):d5 B w L A f ts ns ks R':=⟨λF s vs us bs b a c d Q E e=>h.run F s vs us bs b a c d Q E λv t K' F' s' g=>e v t K' F' s' (k _ _ g)⟩
def U4(h:d5 B w L A f ts ns ks R)(k:∀K t,R K t->R' (K.bI M) t):d5 B w (L.bI M) A f ts ns ks R':=⟨Hx (G:=λvs us Q E s=>aP (aO pw w) A (wY f vs (ns.zip us)) Q E s) h.run k⟩
def UK(h:d5 B w L A f ts ns ks R)(k:∀K t,R K t->R' (Tk.bI (Tk.bI (Tk.bI K M) N) O) t):d5 B w (Tk.bI (Tk.bI (Tk.bI L M) N) O) A f ts ns ks R':=U4 (R:=λK t=>R' (K.bI O) t) (U4 (R:=λK t=>R' ((K.bI N).bI O) t) (U4 h k) λz z h=>h) λz z h=>h
def Te{b:Type}{g:b->Tk}(h:d5 B w L A f ts ns ks (λK t=>t=c/\∃a,K=g a))(k:∀a,R' (Tk.bI (Tk.bI (Tk.bI (g a) M) N) O) c):d5 B w (Tk.bI (Tk.bI (Tk.bI L M) N) O) A f ts ns ks R':=UK h λK t h=>by obtain⟨rfl,a,rfl⟩:=h;exact k a
def Ur{d e:Type}{g:d->e->Tk}(h:d5 B w L A f ts ns ks (λK t=>t=c/\∃a b,K=g a b))(k:∀a b,R' (Tk.bI (Tk.bI (Tk.bI (g a b) M) N) O) c):d5 B w (Tk.bI (Tk.bI (Tk.bI L M) N) O) A f ts ns ks R':=UK h λK t h=>by obtain⟨rfl,a,b,rfl⟩:=h;exact k a b
def XE(h:d5 B w L A f ts ns ks R)(k:∀K t,R K t->R' (Tk.bI (Tk.bI M K) N) t):d5 B w (Tk.bI (Tk.bI M L) N) A f ts ns ks R':=U4 (qQ h) λK t h=>by obtain⟨K,rfl,h⟩:=h;exact k K t h
def AQ{K:Tk}(V:dg w B)(z:St B w X loc K F s)(M:A.handled=aC)(N:Ev (St.pre B w X loc K) w A X.ax o (.dict []))
 (O:eval (.Call (.Attribute o "items" j) [] [] c) X.ax=(do
  let C <-eval o X.ax
  ej j.atName
  let (f,first) <-fL [C] (ib C "items" pl)
  dB c f first (dc c (br [] X.ax)) (bR c (bk [] X.ax))))
 (R:((dc c (br [] X.ax)).any (·.1) || (bR c (bk [] X.ax)).any (·.1.isNone))=false)
 (k:∀F' s',St B w X loc K F' s'->Go w A bj X.ax Q s')
 (S:autoParam (∀x,bw (.Call (.Attribute o "items" j) [] [] c) X.ax x=cD x) y2):Go w A (.For target (.Call (.Attribute o "items" j) [] [] c) body [] pos::bj) X.ax Q s:=by
 refine⟨bF (JH (gX (N.run F s z _ _ λv D l g r=>?_) O) S)⟩;have i:=z.gr g;obtain⟨d,W,n,rfl,e,r,Y,E⟩:=r.cV
 (first|obtain rfl:=r.cV|obtain⟨Z,rfl⟩:=r.cV|obtain rfl:=r.nw|refine r.eI λZ=>?_)
 have u:=i.bs.bh _ _ e;have G:∀h:gn,h.get? d=ab (sg [] n)->h.DictAt (aR pw w) d [] n:=λh e=>⟨_,#[],e,⟨rfl,rfl,rfl⟩,rfl,(λZ h=>by simp at h),.nil,.nil⟩;have H:l.TypeIs (.ref d) "dict":=⟨_,u,rfl⟩;refine mQ H pi kL AF (λb q=>by cases q;exact⟨_,u,rfl⟩) <|dC (P:=λh=>∀a o,B.get? a=ab o->h.get? a=ab o) R (λh k=>(bK.bi (B:=B) (w:=w)).ry h k) (B7 rfl (l0 ⟨i.bs.keep,?_⟩));refine zR kL H zS (zh _) (Y8 (aR pw w) d (beq_eq_false_iff_ne.mpr E)) ⟨⟨[],?_⟩,?_⟩
 .exact⟨_,#[],_,u,⟨rfl,rfl,rfl⟩,rfl,(λZ h=>by simp at h),.nil,.nil⟩
 have p:=i.gr (fP (o:={cls:=.type "dict_items",data:=.fields #[.ref d]}) i.bs.bh);refine wpAny_pyIter_items ⟨_,aM _ rfl,rfl,rfl⟩ (G _ (p.bs.bh _ _ e)) ?_;have t:=p.gr (fP (o:={cls:=.type "dict_itemiterator",data:=.fields #[.none,.bool false,.ref d,.int 0 0,.int (([]:List (bT×aE)).length:Nat) 0,.int n 0,.none,.none]}) p.bs.bh);have I:IsItemIter ((l.heap.push {cls:=.type "dict_items",data:=.fields #[.ref d]}).push {cls:=.type "dict_itemiterator",data:=.fields #[.none,.bool false,.ref d,.int 0 0,.int (([]:List (bT×aE)).length:Nat) 0,.int n 0,.none,.none]}) (l.heap.push {cls:=.type "dict_items",data:=.fields #[.ref d]}).objs.size d 0 ([]:List (bT×aE)).length n .none .none:=aM _ rfl;have y:(l.heap.push {cls:=.type "dict_items",data:=.fields #[.ref d]}).objs.size=l.heap.objs.size+1:=aY ..;refine SX (λZ s'=>s'=_) ?_ 0 rfl;rintro Z s' rfl;refine i4 (wpAny_pyNext_items_end M I (G _ (t.bs.bh _ _ e)) rfl λh' U J=>DS ?_);have L:St B w X loc K D {l with heap:=h'}:=St.wf (wr:=[(l.heap.push {cls:=.type "dict_items",data:=.fields #[.ref d]}).objs.size]) (gw:=[]) t (λb m=>by
  cases aB.mp m;have m:=aA (cL _) (dm y.symm);exact⟨(i.fresh m).1,aA i.d6.size m,(i.fresh m).2⟩) kq ⟨λb o m e=>U b o (λq=>m (by rw[q];exact .head _)) e,λZ Z Z e=>e,id,rfl,ah _⟩ J
 exact(k D _ L).run
set_option backward.match.sparseCases false
def IU(h:jC b):jC (se b nm):=⟨λc a=>h.1 c (c3.mp a).1,aA (cH _ _) h.2⟩
def Ih:(eQ.all λl=>decide (l.length<=10))=true:=by decide +kernel
def ML(h:l∈eQ):l.length<=10:=of_decide_eq_true (bg.mp Ih l h)
abbrev siA(dx:bu)(nm a:Q1):M2:=[("self",bP 369 dx),("name",.str (Ss nm)),("val",.str (Ss a))]
def LA(b:dg w B)(i:Rm (n+4) A)(k:jC d)(m:nm∈eQ)(o:f∈eQ):d5 B w (Tk.mC w dx l d) A (.ref 284) [bP 369 dx,.str (Ss nm),.str (Ss f)] [] [] (λK' t=>K'=Tk.mC w dx l (se d nm++[(nm,f)])/\t=.none):=by
 refine⟨λF s vs us bs r p u v Q E x=>?_⟩;refine u.e3 λy z C D G H=>v.e0 <|enter (siA dx nm f) [y,z,C] (Tk.mC w dx l d).tk [] b bs i rfl #v[] (cb rfl) rfl rfl (.cons D (.cons G (.cons H .nil))) r p λL M N c=>yG b c (jb rfl) kl aF aF (CC w) (Qz w) #v[] (Mt b i.deeper k m) λR R O P g=>JB g λq c=>rf c (cP q (mZ b aF kl rfl (wd w) (DF w) (kb w) rfl) (iH (bU.right (bU.here rfl)))
  (kj (aq (eC (aq (cF aF (k8 b kl rfl (pQ w).symm (th w) (kb w) (oZ w)) (Bh (aq aF aK) (ms jL k9) rfl rfl rfl rfl) (bK.fn b #v[]) (lP b (i.deeper.dn rfl) m) rfl)
   (aq (cF aF (k8 b kl rfl (pQ w).symm (th w) (kb w) (oZ w)) (Bh (aq aF aK) (ms jL k9) rfl rfl rfl rfl) (bK.fn b #v[]) (lP b (i.deeper.dn rfl) o) rfl) aK)) (by show 2<=be;decide)) aK)) bK.bi (gl (bU.right (bU.here rfl)) (by rw[af,aJ];exact(bO Sv7) ((IU k).2))) rfl) (λK t h=>Qw h.2) rfl rfl λR R I J g=>JB g λq c=>?_
 have e:(se d nm).map kY++[kY (nm,f)]=(se d nm++[(nm,f)]).map kY:=by rw[aU];rfl
 rw[e]at c;exact oa (x _ .none (Tk.mC w dx l (se d nm++[(nm,f)])) I J ⟨rfl,rfl⟩ c.d6 c.cV (λa j=>⟨(c.apart a j).1,(c.apart a j).2.1,.inl j⟩) .none)
def Lk(c:dg w B)(m:Rm (n+3) A)(H:jC g)(I:nm∈eQ)(u:d∈eQ):d5 B w (Tk.mC w dx l g) A (.ref 366) [bP 369 dx,.str (Ss nm),.str (Ss d)] [] [] (λK' t=>K'=Tk.mC w dx l (g++[(nm,d)])/\t=.none):=by
 refine⟨λF s vs us bs J i N O Q E P=>?_⟩;refine N.e3 λv y z R S U=>O.e0 ?_;have gg:=lk (o:=l7) bs.bh rfl;have j:Le F (ie F s.heap.objs.size l7):=gg.le;have C:s.heap.objs.size≠1:=λq=>absurd (pd c bs) #v[(bO 0x1316130f) q];refine Ul (K:=Tk.mC w dx l g) [("self",bP 369 dx),("_name",.str (Ss nm)),("_value",.str (Ss d)),("_params",.dict [])] [v,y,z,.ref s.heap.objs.size] (Tk.mC w dx l g).tk [] c bs gg m rfl #v[]
  (λM A E Q q=>by
   refine LU (λa o h=>dY c bs a o h) (r:=λa=>ab ([("self",v),("_name",y),("_value",z),("_params",.ref a)]:List (bT×aE))) ?_ rfl q;kernel_rfl) rfl rfl
  (.cons (R.cC j) (.cons (S.cC j) (.cons (U.cC j) (.cons (.dict dG .nil .nil C) .nil)))) (Tk.gr J gg λ_ _ h=>nomatch h) (λa f=>⟨fY gg (i a f).1 (i a f).2,aT (i a f).2 gg.size⟩) λL s1 hL b=>?_
 refine sv (n:=0) (ts:=[]) b (jb rfl) (iD aK #v[_]) rfl (.inl rfl) rfl λpa F2 s2 D p b=>kF b (aN (aF rfl rfl) fQ eR) (λh V W b=>?_) (λh V W b=>absurd h #v[_]);refine j8 b (cF aF (k8 c iv2 rfl (pQ w).symm (th w) (kb w) (oZ w)) (Bh (aq aF aK) (ms jL k9) rfl rfl rfl rfl) (bK.fn c #v[]) (lP c (m.deeper.dn rfl) u) rfl) (.inl rfl) rfl λF4 s4 b=>rf b (cP p aF (iH (bU.right (bU.here rfl))) (kj (aq aF aK)) bK.bi (gl (bU.right (bU.here rfl)) #v[_]) rfl) (λK t h=>Qw h.2) rfl rfl λ_ _ F5 s5 k=>JB k λp b=>AQ c b #v[m.1] aF rfl rfl λF6 s6 b=>?_;have X:=H.2;refine rf b (cP p (mZ c aF iv2 rfl (wd w) (DF w) (kb w) rfl) (iH (bU.left (bU.right (bU.here rfl))))
  (kj (aq (eC (aq (cF aF (k8 c iv2 rfl (pQ w).symm (th w) (kb w) (oZ w)) (Bh (aq aF aK) (ms jL k9) rfl rfl rfl rfl) (bK.fn c #v[]) (lP c (m.deeper.dn rfl) I) rfl)
   (aq (t:=.str (Ss d)) (ul (x:= "parts") (ts:=[.str (Ss d)]) (n:=0) tG.right D rfl rfl (cF Be yf (kj (aq aF aK)) bK.bi (B3 (ys:=[Ss d]) ?_) rfl)) aK)) (by show 2<=be;decide)) aK)) bK.bi (gl (bU.left (bU.right (bU.here rfl))) (Kk X)) rfl) (λK t h=>Qw h.2) rfl rfl λ_ _ Y Z k=>JB k λp b=>?_
 .have G:d.length<=10:=ML u;rw[bN,qI,List.sum_cons,List.sum_nil,cX];have:("; " : bT).length=2:=by decide +kernel
  rw[this];simp;exact(bO 0xfffffe6900a30d) G
 have e:g.map kY++[kY (nm,d)]=(g++[(nm,d)]).map kY:=by rw[aU];rfl
 rw[e]at b;have b:=b.nM (λa f=>ac _ f) λq=>q.1;exact oa (P _ .none (Tk.mC w dx l (g++[(nm,d)])) Y Z ⟨rfl,rfl⟩ (ic.trans gg.Dj b.d6) b.cV (λa f=>⟨(b.apart a f).1,(b.apart a f).2.1,.inl f⟩) .none)
def rF{C:fv B}(a:dg w B)(b:Rm (n+5) A)(f:mS C (Tk.mC w dx l c))(g:jC c)(h:nm∈eQ):cR C w A (.ref 182) [bP 369 dx,.str (Ss nm)] [] [] (.bool (!(nL c nm).isNone)):=by
 refine⟨λF s vs us d i j Q E k=>?_⟩;refine i.e2 λm o p q=>j.e0 <|dS (f F s d) λt e=>enter [("a",bP 369 dx),("b",.str (Ss nm))] [m,o] [] [] a (C.bs d) b rfl #v[] (cb rfl) rfl rfl (.cons p (.cons q .nil)) t e λL x y u=>fi u (ky aF aF (E5 a kl (QX w) #v[] (zm a b.deeper gv g h))) λv F' s' h' r=>k v F' s' h'.d6 r
def yF{C:fv B}(a:dg w B)(b:Rm (n+6) A)(f:mS C (Tk.mC w dx l c))(g:jC c)(h:nm∈eQ):cR C w A (.ref 189) [bP 369 dx,.str (Ss nm)] [] [] (nL c nm):=by
 refine⟨λF s vs us d i j Q E k=>?_⟩;refine i.e2 λm o p q=>j.e0 <|dS (f F s d) λt e=>enter [("a",bP 369 dx),("b",.str (Ss nm))] [m,o] [] [] a (C.bs d) b rfl #v[] (cb rfl) rfl rfl (.cons p (.cons q .nil)) t e λL x y u=>fi u (Du a kl aF aF (Q2 w) #v[] #v[] (BR a b.deeper.in1 gv g h)) λv F' s' h' r=>k v F' s' h'.d6 r
def rJ{C:fv B}(a:dg w B)(d:Rm (n+4) A)(i:mS C (Tk.mC w dx l e))(f:jC e):cR C w A (.ref 211) [bP 369 dx] [] [] (iT e.length):=by
 refine⟨λF s vs us c j k Q E m=>?_⟩;refine j.e1 λo p=>k.e0 <|dS (i F s c) λq g=>enter [("obj",bP 369 dx),("default",.int 0)] [o,.int 0 584] [] [] a (C.bs c) d rfl #v[] (lN (dY a (C.bs c)) #v[]) rfl rfl (.cons p (.cons (.int _ _) .nil)) q g λL x y b=>kF b (rZ (eP (i0 (jo a) (kj (aq aF (aq (jo a) aK))) bK.bi tW rfl) lb)) (λh t u b=>absurd h #v[_]) (λh t u b=>?_);refine Sh (fi b (dD a aF bK.bi (DP a kl (TK w) #v[] (NO f.2 #v[_]) (MG a d.deeper.in1 gv f))) λv F' s' h' r=>m v F' s' h'.d6 r)
def xJ(e:dg w B)(g:Rm (n+5) A)(k:jC c)(m:nm∈eQ)(h:d∈eQ):d5 B w (Tk.mC w dx l c) A (.ref 203) [bP 369 dx,.str (Ss nm),.str (Ss d)] [] [] (λK' t=>K'=Tk.mC w dx l (se c nm++[(nm,d)])/\t=.none):=by
 refine⟨λF s vs us bs o i p q Q E r=>?_⟩;refine p.e3 λu v x y z C=>q.e0 <|enter [("a",bP 369 dx),("b",.str (Ss nm)),("c",.str (Ss d))] [u,v,x] (Tk.mC w dx l c).tk [] e bs g rfl #v[] (cb rfl) rfl rfl (.cons y (.cons z (.cons C .nil))) o i λL H I b=>yM e b (jb rfl) kl aF aF aF (CC w) (O2 w) #v[] (LA e g.deeper k m h) rfl λM M D G j=>JB j λJ b=>oa (r _ .none (Tk.mC w dx l (se c nm++[(nm,d)])) D G ⟨rfl,rfl⟩ b.d6 b.cV (λa f=>⟨(b.apart a f).1,(b.apart a f).2.1,.inl f⟩) .none)
structure TL where
 ret:Result->aH->Prop
 susp:aE->(Resume->jj Fin)->Code->List Frame->aH->Prop
def fu(M:Model)(A:cO)(Q:TL)(c:Code)(t:jj Fin)(a:List Frame)(s:aH):Prop:=
 ∀b p,b.code=c->b.Woken A->∃e s',Runs M b p t a s e s'/\match e with
  | .ret r=>Q.ret r s'
  | .susp v g l k c p a=>(tD v g l k c p a).quiet=true/\Q.susp v k c a s'
def Bt{g:Type}{m:jj g}{K:g->jj Fin}{gd lv}
 (h:aP M (A.over c b) m (λa s'=>fu M A Q c (K a) b s') (λx s'=>fu M A Q c (H x) b s') s):fu M A Q c (m.wrap K H gd lv) b s:=by
 rintro e p rfl d;exact runs_wrap_of_wp K H gd lv m (h (e.over b) p (d.over b)) (λa f s' h'=>h' e f rfl d) (λx f s' h'=>h' e f rfl d)
def jN{d:Type}{m:jj d}{K:d->jj Fin}(h:aP M (A.over c b) m (λa s'=>fu M A Q c (K a) b s') (λx s'=>fu M A Q c (.raise x) b s') s):fu M A Q c (m >>= K) b s:=by
 rw[pC];exact Bt h
def dq{d:Type}{e:Type}{m:jj d}{K:d->jj e}{K':e->jj Fin}{gd lv}
 (h:aP M (A.over c b) m (λa s'=>fu M A Q c ((K a).wrap K' H' gd lv) b s') (λx s'=>fu M A Q c (H' x) b s') s):fu M A Q c ((m >>= K).wrap K' H' gd lv) b s:=by
 rw[pC,uV];exact Bt h
def Ko(h:fu M A Q c (k ()) a s):fu M A Q c (.point l k) a s:=
 Bt (m:=point) (K:=k) (H:=.raise) (gd:=id) (lv:=λz=>l) (wpAny_point h)
def GD{h g l}(d:∀p,fu M A Q a (M.den a) (.ret k h g l c p []::f) s):fu M A Q c (.call a h g l k) f s:=by
 rintro i p rfl b;refine m8 (d p (i.goto a) p rfl (b.goto a)) λe s' j m=>⟨e,s',runs_call_seg j,m⟩
def Hz{k h g l a b f}(r)(i:fu M A Q a (k r) j s):fu M A Q c (NP r) (.ret k h g l a b f::j) s:=by
 rintro m p rfl d;refine m8 (i (m.goto a) b rfl (d.goto a)) λe s' n o=>⟨e,s',Runs.pop r n,o⟩
def yH(d:a.quiet=true)(f:fu M A Q a (M.den a) g s):fu M A Q c (.pure (.again a)) g s:=by
 rintro h p rfl b;refine m8 (f (h.goto a) p rfl (b.goto a)) λe s' i j=>⟨e,s',Runs.head (λz z x=>.again d x) i,j⟩
def TX(r)(h:Q.ret r s):fu M A Q c (NP r) [] s:=by
 rintro a p rfl z;exact⟨.ret r,s,Runs.leaf r,h⟩
def K6{v g l}(b:yW a=aC)(e:g=false)(d:false=a.any tL)(h:Q.susp v k c a s):fu M A Q c (.yield v g l k) a s:=by
 rintro f p rfl z;exact⟨_,s,Runs.yield' a b,yU (by simp[End.quiet,e,d]) h⟩
def GenState.KQ(M:Model)(A:cO)(Q:TL)(a:zH)(r:Resume)(s:aH):Prop:=
 match a with
 | .fresh c=>r=.send .none/\fu M A Q c (M.den c) [] s
 | .suspended k _ c _ b _=>fu M A Q c (k r) b s
 |z=>False
def zD{u:Type}{k:GenResult->jj u}{Q:u->aH->Prop}(w:s.gens[g]?=ab y)
 (o:GenState.KQ M A z y r (s.setGen g .running))
 (B:∀x a,z.ret x a->aP M A (k (End.ret x).result) Q E (a.setGen g .finished))
 (hY:∀v e f d p₀ b a i,(tD v i f e d p₀ b).quiet=true->z.susp v e d b a->aP M A (k (.yielded v)) Q E (a.setGen g (tD v i f e d p₀ b).genState)) :
 aP M A (.resume g r l k) Q E s:=by
 intro n p m;rw[Sem.wp_resume];have C:∀c,(n.wake c p).Woken A:=λc=>m.wake c p;cases y with
 |fresh c=>
  refine dS o λD F=>?_;subst D;refine m8 (F (n.wake c p) p rfl (C c)) λh a t j=>?_;have q:h.quiet=true:=by
   cases h with
   |ret x=>rfl
   |susp v i f e d p₀ b=>exact j.1
  refine⟨_,_,by delta Wakes;rw[w];exact⟨h,a,t,q,rfl,rfl⟩,?_⟩;cases h with
  |ret x=>exact B x a j n p m
  |susp v i f e d p₀ b=>exact hY v e f d p₀ b a i j.1 j.2 n p m
 |suspended e f d p₀ b cl=>
  refine m8 (o (n.wake d p) p₀ rfl (C d)) λh a t j=>?_;have q:h.quiet=true:=by
   cases h with
   |ret x=>rfl
   |susp v i f e d p₀ b=>exact j.1
  refine⟨_,_,by delta Wakes;rw[w];exact⟨h,a,t,q,rfl,rfl⟩,?_⟩;cases h with
  |ret x=>exact B x a j n p m
  |susp v i f e d p₀ b=>exact hY v e f d p₀ b a i j.1 j.2 n p m
 |running=>exact o.elim
 |finished=>exact o.elim
def D4(fp:List bu)(a s:aH):Prop:=∃h' tk,s={a with heap:=h',toks:=tk}/\(∀b o,b∉fp->a.heap.get? b=ab o->h'.get? b=ab o)/\a.heap.objs.size<=h'.objs.size/\a.toks<=tk
def D4.refl(fp)(s):D4 fp s s:=⟨s.heap,s.toks,rfl,λz z z e=>e,ah _,ah _⟩
def D4.step{fp':List bu}(x:D4 fp a s)(i:∀b∈fp',b∈fp\/a.heap.objs.size<=b)(j:∀b o,b∉fp'->s.heap.get? b=ab o->h'.get? b=ab o)(k:s.heap.objs.size<=h'.objs.size)(m:s.toks<=tk):D4 fp a {s with heap:=h',toks:=tk}:=by
 refine GR x λn h p c d f=>?_;subst p;exact⟨h',tk,rfl,λb o g e=>j b o (λq=>(i b q).elim g λl=>absurd (aS e) (aV.mpr l)) (c b o g e),aA d k,aA f m⟩
noncomputable def GQ(M:Model)(A:cO)(fj:List bu):List aE->List bu->aH->TL
 | [],fp,a=>⟨λr s'=>r=.ok (.ret .none)/\D4 fp a s',λz z z z z=>False⟩
 |v::vs,fp,a=>⟨λz z=>False,λe k c f s'=>e=v/\D4 fp a s'/\∃fp',(∀b∈fp',b∈fp\/a.heap.objs.size<=b)/\(∀b∈fp',b<s'.heap.objs.size)/\
  ∀d:aH,(∀b,b∈fp'\/b∈fj->∀o,s'.heap.get? b=ab o->d.heap.get? b=ab o)->fu M A (GQ M A fj vs fp' d) c (k (.send .none)) f d⟩
def xQ{id:String}(a:sn zL id=ab b)(h:fu (aO pw w) A Q (.builtin id args) (b args) c s):fu (aO pw w) A Q (.builtin id args) ((aO pw w).den (.builtin id args)) c s:=by
 have e:(aO pw w).den (.builtin id args)=b args:=by
  show (match sn zL id with
   |some b=>b args
   |none=>unsupported ((withoutEnding? id "#data").getD id))=_
  rw[a]
 rw[e];exact h
def Dy:sn zL "proto.yield_from" = ab Builtin.«proto.yield_from»:=so #v[]
noncomputable abbrev EZ(it:bu):Code:=.builtin "proto.yield_from" ⟨[.ref it,.bool false,.none],[]⟩
def yK:tw (.type "list_iterator") (nN "close")=cD aC:=by rw[fH,dw];kernel_rfl
def p8(a:s.heap.IsListIter it r i)(h:Q () s):aP M A (sd (.ref it) b) Q E s:=by
 refine mB a λo c d hd=>aa (tr c ?_);rw[d];exact au h
def Fi(m:yW c=aC)(p:false=c.any tL)(d:s.heap.IsListIter it r i)(t:s.heap.get? r=ab (uG vs n))(u:vs[i]?=ab v)
 (h:∀h',h'.IsListIter it r (i+1)->cN it s.heap h'->∀k,(∀j b,b.heap.IsListIter it r (i+1)->fu (aO pw w) A j (EZ it) ((aO pw w).den (EZ it)) c b->fu (aO pw w) A j (EZ it) (k (.send .none)) c b)->Q.susp v k (EZ it) c {s with heap:=h'}) :
 fu (aO pw w) A Q (EZ it) ((aO pw w).den (EZ it)) c s:=by
 refine xQ Dy <|jN (au ?_);refine mB (id d) λo e y hd=>jN (nJ (bq ?_));rw[if_neg ck,if_pos #v[_]];refine aa (fW (aa (gq d.typeIs p7
  (dJ p7 d.typeIs S4 ?_ (VX _)))))
 show aP _ _ (field (.ref it) 0 >>= _) _ _ s;refine aa (l6 e hd (x:=.ref r) rfl ?_);refine AU (show ¬((iP r==cS)=true) from ck) <|aa (l6 e hd rfl ?_);refine aa (vR t rfl ?_);have q:vs.toArray[i]?=ab v:=by simpa using u
 simp only[cx,q];refine aa (Gb e hd (by simp) (au ⟨v,rfl,au ?_⟩));generalize g:s.heap.update it _=h';have a:h'.IsListIter it r (i+1):=by
  rw[<-g];exact⟨_,fx _ e (HR (oK hd _)),(Os ..).trans y,by
   rw[oK hd];simp[gH]⟩
 refine jN (gV a.typeIs ?_);refine jN (dK yK ?_);refine jN (au ?_);refine jN (p8 a ?_);refine K6 m rfl p (h h' a (g▸bB ..) _ λj b f l=>?_);show fu _ _ _ _ (sd (.ref it) false >>= _) _ _;refine jN (p8 f ?_);refine jN (au ?_);exact yH (Code.quiet_builtin _ (by decide +kernel)) l
def I3(f:(A.over (EZ it) c).handled=aC)(a:s.heap.IsListIter it r i)(k:s.heap.get? r=ab (uG vs n))(l:vs[i]?=aC)
 (h:∀h',HP it s.heap h'->s.heap.objs.size<=h'.objs.size->fu (aO pw w) A Q (EZ it) (NP (.ok (.ret .none))) c {s with heap:=h'}) :
 fu (aO pw w) A Q (EZ it) ((aO pw w).den (EZ it)) c s:=by
 refine xQ Dy <|jN (au ?_);refine mB (id a) λo d g hd=>jN (nJ (bq ?_));rw[if_neg ck,if_pos #v[_]];refine aa (fW (aa (gq a.typeIs p7
  (dJ p7 a.typeIs S4 ?_ (VX _)))))
 show aP _ _ (field (.ref it) 0 >>= _) _ _ s;refine aa (l6 d hd (x:=.ref r) rfl ?_);refine AU (show ¬((iP r==cS)=true) from ck) <|aa (l6 d hd rfl ?_);refine aa (vR k rfl ?_);have j:vs.toArray[i]?=aC:=by simpa using l
 simp only[cx,j];refine aa (fW (aa (Gb d hd (by simp) ?_)));refine aa ?_;delta VY newTuple;refine aa (cE ?_ (by size_fits));refine aa (dK (by first|rfl | (delta Gc;rfl)) ?_);refine cE ?_ (by size_fits);delta RS;refine aa (Jw ?_)
 first|rw[show (A.over (EZ it) c).in1.handled=aC from f]|rw[f]
 refine aa (au (RT ?_));have m:∀(e:gn) (b:mV),b.isFreed=false->b.cls=.type "StopIteration"->AG {s with heap:=e.push b} (.ref e.objs.size) "StopIteration":=λe b p g=>⟨_,aM _ p,g⟩;have meta_stop:VV (.type "StopIteration")=cD (.type "type"):=by kernel_rfl
 refine jN <|aa (aa (gV (m _ _ rfl rfl) ?_));refine aa (dK Gd (aa (dK meta_stop (au ?_))));refine au ?_;rw[if_pos rfl,if_neg ck];refine jN (fW ?_);refine jN (l6 (aM _ rfl) rfl rfl ?_);refine h _ (((bB ..).extBut.push _).push _) ?_;rw[aY,aY];exact dy (dy (dm (bB ..).1.symm))
set_option backward.match.sparseCases true
def om{K:nP->jj Fin}{st:lS}(h:fu M A Q c ((exec st ax).wrap (λf=>match f with | .next=>(jl bj ax).wrap K H gd lv|f=>K f) H gd lv) a s):fu M A Q c ((jl (st::bj) ax).wrap K H gd lv) a s:=by rw[execs_cons_wrap];exact h
def Yn{K:nP->jj Fin}(h:aP M (A.over c g) (isTrue a ax (eval a ax)) (λe s'=>e=b/\fu M A Q c ((jl (if b then body else d) ax).wrap K H gd lv) g s') (λz z=>False) s):fu M A Q c ((exec (.If a body d pos) ax).wrap K H gd lv) g s:=by
 rw[arm_exec_If];refine dq (cz (dq (cj h (λe s' f=>?_) λz z h=>h.elim)));refine dS f λi f=>?_;subst i;cases e<;>exact f
def B0{K:nP->jj Fin}{tn:String}(hi:false=jy ax)(j:(d3 tn==d3 "coroutine")=false)
 (h:aP M (A.over c a) (eval e ax) (λv b=>b.TypeIs v tn/\aP M (A.over c a) (mM v) (λit l=>∀d k,(∀f g,fu M A f c (K .next) a g->fu M A f c (k (.ok (.ret .none))) a g)->fu M A Q (.builtin "proto.yield_from" ⟨[it,.bool false,.none],[]⟩) (M.den (.builtin "proto.yield_from" ⟨[it,.bool false,.none],[]⟩)) (.ret k aC (gd false) (lv []) c d []::a) l) (λz z=>False) b) (λz z=>False) s)
 (m:autoParam (cD false=cf (.YieldFrom e p) aC pos.line ax) ou):fu M A Q c ((exec (.Expr (.YieldFrom e p) pos) ax).wrap K H gd lv) a s:=by
 rw[exec_Expr ax _ pos hi.symm m.symm];refine dq (cz ?_);rw[arm_eval_YieldFrom,nG];refine dq (cj h (λv b i=>?_) λz z h=>h.elim);refine dS i λn i=>?_;rw[nG];refine dq (cz ?_);delta yieldFrom;rw[nG];refine dq (gV n ?_);rw[j,if_neg ck,nG];refine dq (bq (cj i (λit l o=>?_) λz z h=>h.elim));refine GD λd=>o d _ λf g q=>q
def UQ{K:nP->jj Fin}{Y9:bv}
 (h:aP M (A.over c b) (eval Y9 ax) (λx i=>aP M (A.over c b) (mM x) (λit j=>∀d k,(∀e f g,fu M A e c (K f) b g->fu M A e c (k (.ok f)) b g)->fu M A Q (.forLoop target it body a ax) (M.den (.forLoop target it body a ax)) (.ret k aC (gd false) (lv []) c d []::b) j) (λz z=>False) i) (λz z=>False) s)
 (l:autoParam (∀x,bw Y9 ax x=cD x) y2):fu M A Q c ((exec (.For target Y9 body a pos) ax).wrap K H gd lv) b s:=by
 rw[exec_For];refine dq (cz ?_);refine dq (cj h (λx i m=>?_) λz z h=>h.elim);refine dq (dK (l x) ?_);refine dq (cz ?_);refine dq (bq (cj m (λit j n=>?_) λz z h=>h.elim));refine GD λd=>n d _ λe f g o=>o
noncomputable abbrev Ny(x:bT)(px:D7)(it:bu)(body:List lS)(ax:uS):Code:=.forLoop (.Name x px) (.ref it) body [] ax
def yb(h:aP (aO pw w) (A.over (Ny x px it body ax) a) (mL (.ref it)) (λo b=>match o with
 |none=>fu (aO pw w) A Q (.block [] ax) (NP (.ok .next)) a b
 |some v=>aP (aO pw w) (A.over (Ny x px it body ax) a) (lU (.Name x px) ax v) (λz e=>∀K H,(∀c d,fu (aO pw w) A c (Ny x px it body ax) ((aO pw w).den (Ny x px it body ax)) a d->fu (aO pw w) A c (Ny x px it body ax) (K .next) a d)->
  fu (aO pw w) A Q (Ny x px it body ax) ((jl body ax).wrap K H id id) a e) (λz z=>False) b) (λz z=>False) s):fu (aO pw w) A Q (Ny x px it body ax) ((aO pw w).den (Ny x px it body ax)) a s:=by
 show fu _ A Q _ ((forTurn (.Name x px) (.ref it) body [] ax).onRaise (λx=>do YZ x ax;DT x)) a s;delta forTurn;rw[JN];refine dq (cz ?_);refine dq (wpAny_onRaise (cj h (λo b f=>?_) λz z h=>h.elim));cases o with
 |none=>
  exact yH rfl f
 |some v=>
  refine dq (dK (rfl:fE (.Name x px) (.ref it) v=cD ()) ?_);refine dq (cj f (λz e g=>?_) λz z h=>h.elim);rw[pC,uV];refine g _ _ λc d i=>yH rfl i
def Pc
 (h:fu (aO pw w) A Q (.func body ax) ((jl body ax).wrap (λf=>.pure (.done (.ret (match f with | .ret v=>v|_=>.none)))) (λe=>(leaving ax e).wrap (λz=>.raise e) .raise id id) id id) a s) :
 fu (aO pw w) A Q (.func body ax) ((aO pw w).den (.func body ax)) a s:=by
 refine Ko ?_;rw[JN,pC,uV];rw[Sem.wrap_congr (jl body ax) _ _ (K':=λf=>.pure (.done (.ret (match f with | .ret v=>v|_=>.none))))
  (H':=λe=>(leaving ax e).wrap (λz=>.raise e) .raise id id) (λf=>by cases f<;>rfl)
  (λe=>by rw[Sem.bind_eq_wrap,uV];rfl)]
 exact h
set_option backward.match.sparseCases false
abbrev V6:=bu×List aE
noncomputable def ox(a:List V6)(n:Nat):List aE:=n.rec [] λq b=>(a.getD q (0,[])).2++b
structure GB(rws:List V6)(dn:bu)(h:gn):Prop where
 c6:∃n,h.get? dn=ab (uG (rws.map λr=>.ref r.1) n)
 aD:∀r∈rws,∃n,h.get? r.1=ab (uG r.2 n)
noncomputable abbrev nV(a:List V6)(dn:bu):List bu:=dn::a.map (·.1)
def GB.keep(x:GB a dn h)(k:∀b∈nV a dn,∀o,h.get? b=ab o->h'.get? b=ab o):GB a dn h':=
 ⟨let ⟨n,e⟩:=x.c6;⟨n,k _ (.head _) _ e⟩,λr c=>let ⟨n,e⟩:=x.aD r c;⟨n,k _ (.tail _ (db c)) _ e⟩⟩
structure GF(rws:List V6)(dn C RI:bu)(q:Nat)(h:gn):Prop where
 b:GB rws dn h
 XV:h.IsRevIter RI dn ((q:Int)-1)
 ns:∃m,h.Ns C m
def GF.keep(x:GF a dn C c q h)(k:∀b,b=C\/b=c\/b∈nV a dn->∀o,h.get? b=ab o->h'.get? b=ab o):GF a dn C c q h':=
 ⟨x.b.keep λb d=>k b (.inr (.inr d)),x.XV.at λo e=>k _ (.inr (.inl rfl)) o e,let ⟨m,e⟩:=x.ns;⟨m,e.at' λo e=>k _ (.inl rfl) o e⟩⟩
def UL(fp:List bu)(a:aH)(l:List bu):Prop:=∀b∈l,b∈fp\/a.heap.objs.size<=b
def NG{li:bu}(I:yW fs0=aC)(J:false=fs0.any tL)(L:(A.over (EZ li) fs0).handled=aC)(M:r∈d)(bj)(t:li∉nV d dn)(u:li≠C)(v:li≠f)
 (E:∀fp c s,GF d dn C f q s.heap->UL fp c [C,f,li]->D4 fp c s->fu (aO pw w) A (GQ (aO pw w) A (nV d dn) bj fp c) (EZ li) (NP (.ok (.ret .none))) fs0 s) :
 ∀m i,r.2.length-i=m->i<=r.2.length->∀fp c s,s.heap.IsListIter li r.1 i->GF d dn C f q s.heap->UL fp c [C,f,li]->D4 fp c s->fu (aO pw w) A (GQ (aO pw w) A (nV d dn) (r.2.drop i++bj) fp c) (EZ li) ((aO pw w).den (EZ li)) fs0 s:=by
 intro m
 induction m with
 |zero=>
  intro i B hi fp c s x p g F;have N:i=r.2.length:=#v[(bW 0x10210d03015f) B hi];subst N;rw[Ot,ge];refine iA (p.b.aD r M) λn G=>I3 L x G (jz (ah _)) λh' O P=>?_;refine E fp c _ (p.keep λb a o e=>O b o (λq=>?_) e) g (F.step g (λb o a e=>O b o (λq=>a (by simp[q])) e) P (ah _));rcases a with a|a|a
  .exact u (q.symm.trans a)
  .exact v (q.symm.trans a)
  .exact t (q▸a)
 |succ m S=>
  intro i B hi fp c s x p g F;have j:i<r.2.length:=#v[(dO 0x10110d26015f) B hi];rw[kf j,eF];refine iA (p.b.aD r M) λn G=>Fi I J x G (ay j) λh' h l k U=>?_;have Q:D4 fp c {s with heap:=h'}:=F.step g (λb o a e=>(l.2 b λq=>a (by simp[q])).trans e) (dm l.1.symm) (ah _);refine⟨rfl,Q,[C,f,li],g,λb a=>?_,λy z=>U _ y (h.at λo e=>z li (.inl (by simp)) o e) (S (i+1) #v[(dO 0x21605201e26105f) B j] j [C,f,li] y y (h.at λo e=>z li (.inl (by simp)) o e) ?_ (λb a=>.inl a) (D4.refl _ _))⟩
  .have D:GF d dn C f q h':=p.keep λb a o e=>(l.2 b λq=>by
    rcases a with a|a|a
    .exact u (q.symm.trans a)
    .exact v (q.symm.trans a)
    .exact t (q▸a)).trans e
   have R:b=C\/b=f\/b=li:=by simpa using a
   rcases R with rfl|rfl|rfl
   .refine iA D.ns λm V=>?_;exact V.lt
   .refine cY D.XV λo H W=>?_;exact aS H
   .refine cY h λo H W=>?_;exact aS H
  .refine(p.keep λb a o e=>(l.2 b λq=>?_).trans e).keep λb a o e=>z b ?_ o e
   .rcases a with a|a|a
    .exact u (q.symm.trans a)
    .exact v (q.symm.trans a)
    .exact t (q▸a)
   .rcases a with a|a|a
    .exact .inl (by simp[a])
    .exact .inl (by simp[a])
    .exact .inr a
def GB.size(x:GB c dn h):∀b∈nV c dn,b<h.objs.size:=λb a=>by
 rcases aX.mp a with rfl|a
 .refine iA x.c6 λn e=>?_;exact aS e
 .refine cY (bp.mp a) λr d f=>?_;subst f;refine iA (x.aD r d) λn e=>?_;exact aS e
noncomputable abbrev DJ(x:bT)(p1 p2 a b c:D7):List lS:=[.If (.Name x p1) [.Expr (.YieldFrom (.Name x p2) a) b] [] c]
def Mg{p1:D7}{p2:D7}(F:n.locals=C)(V:n.kindOf x=ab .local)(W:n.scope.kind=.function)(Z:false=jy n)(hdb:(x==("__debug__" : bT))=false)
 (hfs:yW z=aC) (hfg:false=z.any tL) (hA:A.handled=aC) (hmk:∀c,(A.over c z).handled=aC) (hmk2:∀c c' k g l p,(A.over c (.ret k aC g l c' p []::z)).handled=aC) (X:y≠C) (hCb:C∉nV f dn) (hRb:y∉nV f dn) (hz:∀r∈f,r.2.length<=100000)
 (hend:∀fp j s,D4 fp j s->fu (aO pw w) A (GQ (aO pw w) A (nV f dn) [] fp j) (.block [] n) (NP (.ok .next)) z s) :
 ∀q,q<=f.length->∀fp j s,GF f dn C y q s.heap->UL fp j [C,y]->D4 fp j s->fu (aO pw w) A (GQ (aO pw w) A (nV f dn) (ox f q) fp j) (Ny x px y (DJ x p1 p2 p3 p4 p5) n) ((aO pw w).den (Ny x px y (DJ x p1 p2 p3 p4 p5) n)) z s:=by
 have _:=hA;intro q
 induction q with
 |zero=>
  intro U fp j s O D hg;refine yb ?_;have B:=O.XV;rw[show (((0:Nat):Int)-1) = -1 by decide]at B;refine gC (wpAny_pyNext_rev_end (hmk _) B λh' hx hsz htk=>?_);exact hend fp j _ (hg.step (fp':=[y]) (λb t=>D b (by simp at t;simp[t])) (λb o t e=>hx b o (λq=>t (by simp[q])) e) hsz (ah _))
 |succ q ih=>
  intro U fp j s O D hg;have hlt:q<f.length:=#v[(bW 0x101106d) U];have hr:f[q]?=ab (f.getD q (0,[])):=gS hlt _;have R:f.getD q (0,[])∈f:=bX hr;rw[(show ox f (q+1)=(f.getD q (0,[])).2++ox f q from rfl)];generalize f.getD q (0,[])=r at *;refine yb ?_;have B:=O.XV;rw[show (((q+1:Nat):Int)-1)=q by exact bO 0x71306755]at B;refine iA O.b.c6 λnd ed=>i4 (wpAny_pyNext_rev_item (i:=q) (x:=.ref r.1) B ⟨_,ed,rfl,nd,rfl⟩ ?_ λh₁ P G hsz₁=>?_)
  .simp [hr]
  refine iA O.ns λm hn=>gy (j5 (Om V (F▸hn.sameBut G X.symm) (λd I u htk₂=>?_) (by rw[W];rfl)));replace u:cN C h₁ d:=F▸u;have up:∀b o,b≠C->b≠y->s.heap.get? b=ab o->d.get? b=ab o:=λb o h1 h2 e=>(u.2 b h1).trans ((G.2 b h2).trans e);have J:GB f dn d:=O.b.keep λb t o e=>up b o (λq=>hCb (q▸t)) (λq=>hRb (q▸t)) e;have L:GF f dn C y q d:=⟨J,P.at λo e=>(u.2 y X).trans e,⟨_,F▸I⟩⟩;have M:∀tk,s.toks<=tk->D4 fp j {s with heap:=d,toks:=tk}:=λtk ht=>hg.step D (λb o t e=>up b o (λq=>t (by simp[q])) (λq=>t (by simp[q])) e) (by rw[u.1,G.1];exact ah _) ht;have Y:∀(A':cO) (Q:Lx0) (E:Lx0) (p:D7) tk,Q (.ref r.1) {s with heap:=d,toks:=tk}->aP (aO pw w) A' (eval (.Name x p) n) Q E {s with heap:=d,toks:=tk}:=λA' Q E p tk hQ=>FM (kz W V I (if_pos rfl) hQ) hdb;refine iA (J.aD r R) λnr er=>?_;have hl:∀tk,({s with heap:=d,toks:=tk}:aH).heap.IsList r.1 r.2.toArray:=λtk=>⟨_,er,rfl,nr,rfl⟩;intro K H hK;refine om (Yn (b:=!r.2.isEmpty) ?_);rw[(show isTrue (.Name x p1) n (eval (.Name x p1) n)=(do let v <-eval (.Name x p1) n;ej p1;fL [v] (truthy v)) from rfl)];refine aa (Y _ _ _ _ _ (aa (cz (bq (zM (hl _) (by simp only[aL];exact(jP 0x740e8d4a51000a93c186a0590d) (hz r R) ir) ⟨?_,?_⟩)))))
  .cases r.2<;>rfl
  by_cases S:r.2=[]
  .rw [S,ge];exact hK _ _ (ih #v[(bW Su3) U] fp j _ L D (M _ #v[bO 0x66600]))
  have hne:(!r.2.isEmpty)=true:=by
   cases q':r.2 with
   |nil=>exact absurd q' S
   |cons a b=>rfl
  rw[hne];refine om (B0 (tn:= "list") Z #v[_] ?_);refine Y _ _ _ _ _ ⟨(hl _).typeIs,qD (hl _) λp' k hk=>?_⟩;have N:∀b o,d.get? b=ab o->(d.push {cls:=.type "list_iterator",data:=.fields #[.ref r.1,.int 0 0]}).get? b=ab o:=λb o e=>aG _ e;have hli:(d.push {cls:=.type "list_iterator",data:=.fields #[.ref r.1,.int 0 0]}).IsListIter d.objs.size r.1 0:=⟨_,aM _ rfl,rfl,rfl⟩;have hlR:d.objs.size≠y:=λq=>by
   refine cY L.XV λo ho _=>absurd (aS ho) (by rw[<-q];exact cp _)
  have main:=NG (fs0:=.ret k aC false [] (Ny x px y (DJ x p1 p2 p3 p4 p5) n) p' []::z) (by show (yW z).map _=aC;rw[hfs];rfl) (by rw[kJ,<-hfg];rfl) (hmk2 _ _ _ _ _ _) (q:=q) R (ox f q) (λq=>(λb t=>cw (J.size b t)) _ q rfl) (λq=>absurd (F▸I).lt (by rw[<-q];exact cp _)) hlR
   (λfp j s3 hF3 hfo3 hg3=>Hz (.ok (.ret .none)) (hk _ _ (hK _ _ (ih #v[(bW Su3) U] fp j s3 hF3 (λb t=>hfo3 b (by simp at t;rcases t with h|h<;>simp[h])) hg3)))) r.2.length 0 rfl (bG _)
  rw[SZ]at main;refine main fp j _ hli (L.keep λb _ o e=>N b o e) (λb t=>?_) ((M _ ?_).step (fp':=[]) kq (λb o _ e=>N b o e) (by rw[aY];exact cL _) (ah _))
  .have hb':b=C\/b=y\/b=d.objs.size:=by simpa using t
   rcases hb' with rfl|rfl|rfl
   .exact D _ (by simp)
   .exact D _ (by simp)
   .refine .inr <|GR (M s.toks (ah _)) λh' tk e _ hz _=>?_;have:d=h':=congrArg Shared.heap e;rw[this];exact hz
  .exact bO 0x66600
def n9(r:A.handled=aC)(t:s.heap.NoLimit)(k:A.depth<pX)
 (m:s.heap.IsGen a g) (l:s.gens[g]?=ab p) (j:GenState.KQ (aO pw w) A.in1 q p (.send .none) (s.setGen g .running))
 (hY:∀v e h f p₀ d c i,(tD v i h e f p₀ d).quiet=true->q.susp v e f d c->Q (ab v) (c.setGen g (tD v i h e f p₀ d).genState))
 (u:∀x c,q.ret x c->x=.ok (.ret .none)/\∀h',(∀b o,c.heap.get? b=ab o->h'.get? b=ab o)->c.heap.objs.size<=h'.objs.size->Q aC {c.setGen g .finished with heap:=h'}) :
 aP (aO pw w) A (mL (.ref a)) Q E s:=by
 refine aa (nJ (gq m.typeIs slot_gen_next
  (dJ slot_gen_next m.typeIs entry_gen_next ?_ (args_gen_next _))))
 show aP _ _ (sH (.ref a) (.send .none)) _ _ s;delta sH;refine aa (bq (wpAny_genNumber m (aa (wpAny_genState l ?_))));cases p with
 |running=>exact j.elim
 |finished=>exact j.elim
 |_=>
  refine aa (wpAny_roomToWake t k ?_);refine zD l j (λx c y=>?_) (λv e h f p₀ d c i n z=>?_)
  .refine dS (u x c y) λn B=>?_;subst n;show aP _ _ (VY (.type "StopIteration") [] >>= _) _ _ _;refine aa ?_;delta VY newTuple;refine aa (cE ?_ (by size_fits));refine aa (dK (by first|rfl | (delta Gc;rfl)) ?_);refine cE ?_ (by size_fits);delta RS;refine aa (aa (Jw ?_));rw[show A.in1.handled=aC from r];refine RT <|aa (kX ⟨_,aM _ rfl,rfl⟩ Gd ?_);exact au (B _ (λb o C=>aG _ (aG _ C)) (by rw[aY,aY];exact dy (cL _)))
  .exact au ⟨v,rfl,au (hY v e h f p₀ d c i n z)⟩
def ZM(w:bC)(A:cO)(fj:List bu)(c:List aE)(fp:List bu)(g:Nat)(s:aH):Prop:=
 ∃d,s.gens[g]?=ab d/\∀a:aH,(∀b,b∈fp\/b∈fj->∀o,s.heap.get? b=ab o->a.heap.get? b=ab o)->GenState.KQ (aO pw w) A.in1 (GQ (aO pw w) A.in1 fj c fp a) d (.send .none) a
def qU{s:aH}(h:i≠g):(s.setGen g x).gens[i]?=s.gens[i]?:=by simp[RU,qaq h]
def DI{s:aH}(b:x.bare=true)(h:D6 s.gens):D6 (s.setGen g x).gens:=by
 intro y c;rcases qy.mp c with ⟨i,hi⟩
 by_cases q:i=g
 .subst q;have a:i<s.gens.size:=by
   simpa[RU] using ((eY.mp hi).1)
  rw[(RV (dW a))]at hi;cases hi;exact b
 .rw [qU q]at hi;exact h y (qy.mpr ⟨i,hi⟩)
def KJ(f:D4 fp (s.setGen g y) a)(h:y.bare=true)(j:x.bare=true)(l:∀b o,a.heap.get? b=ab o->h'.get? b=ab o):Mv fp [g] s {a.setGen g x with heap:=h'}:=by
 refine GR f λm tk n k r p=>?_;subst n;exact⟨λb o d e=>l b o (k b o d e),λi z hi e=>by
  have c:i≠g:=λq=>hi (by simp[q]);exact(qU c).trans ((qU c).trans e),λd=>DI j (DI h d),rfl,p⟩
def zF(B:A.handled=aC)(C:s.heap.NoLimit)(n:A.depth<pX)
 (D:s.heap.IsGen a g) (F:ZM w A fj (v::vs) fp g s)
 (k:∀s' fp',Mv fp [g] s s'->s.heap.objs.size<=s'.heap.objs.size->(∀b∈fp',b∈fp\/s.heap.objs.size<=b)->(∀b∈fp',b<s'.heap.objs.size)->ZM w A fj vs fp' g s'->Q (ab v) s'):aP (aO pw w) A (mL (.ref a)) Q E s:=by
 refine cY F λL p t=>n9 B C n D p (t _ λM M M e=>e) (λu d f i p₀ c j l m G=>?_) λx j h=>h.elim;refine ka G λm q o=>?_;refine mB o λfp' H I J=>?_;subst m;refine k (j.setGen g (tD u l f d i p₀ c).genState) fp' (KJ q rfl (End.bare_of_quiet m) λM M e=>e) ?_ H I ⟨(tD u l f d i p₀ c).genState,?_,λy z=>J y z⟩
 .obtain⟨r,tk,rfl,M,o,M⟩:=q;exact o
 .refine GR q λr tk m M o M=>?_;subst m;exact RV (RV p)
def BW(m:A.handled=aC)(n:s.heap.NoLimit)(b:A.depth<pX)
 (o:s.heap.IsGen a g) (p:ZM w A fj [] fp g s)
 (k:∀s',Mv fp [g] s s'->s.heap.objs.size<=s'.heap.objs.size->Q aC s'):aP (aO pw w) A (mL (.ref a)) Q E s:=by
 refine cY p λC d f=>n9 m n b o d (f _ λF F F e=>e) (λD q r t p₀ l c u i v=>v.elim) λx c h=>⟨h.1,λh' y j=>?_⟩;refine k _ (KJ h.2 rfl rfl y) (aA ?_ j);refine GR h.2 λz tk i F B F=>?_;subst i;exact B
def NH{p1:D7}{p2:D7}
 (hA:A.handled=aC) (j:a.locals=C) (t:a.kindOf x=ab .local) (u:a.kindOf r=ab .local) (v:a.kindOf n=ab .local) (g:a.scope.kind=.function) (l:false=jy a)
 (y:(x==("__debug__" : bT))=false) (mC:(r==("__debug__" : bT))=false) (z:(n==("__debug__" : bT))=false)
 (p:GB c dn s.heap) (h:s.heap.Ns C m) (B:m r=ab (.type "reversed")) (D:m n=ab (.ref dn)) (E:C∉nV c dn) (G:∀r∈c,r.2.length<=100000) :
 fu (aO pw w) A (GQ (aO pw w) A (nV c dn) (ox c c.length) [C] s) (.func [.For (.Name x px) (.Call (.Name r H) [.Name n pn] [] pc) (DJ x p1 p2 I J L) [] pos] a)
  ((aO pw w).den (.func [.For (.Name x px) (.Call (.Name r H) [.Name n pn] [] pc) (DJ x p1 p2 I J L) [] pos] a)) [] s:=by
 subst j;refine Pc (om (UQ ?_));refine iA p.c6 λnd M=>wpAny_Call_NameR (FM (kz g u h B ?_) mC);refine HS rfl (Calls.evalArgs_plain (Calls.spliced_cons (FM (kz g v h D ?_) z)));refine Calls.spliced_nil <|call_reversed_list ⟨_,M,rfl,nd,rfl⟩ ?_;have f:∀b o,s.heap.get? b=ab o->(s.heap.push (VZ dn (((c.map λr=>iP r.1).toArray.size:Int)-1))).get? b=ab o:=λb o e=>aG _ e;have d:(s.heap.push (VZ dn (((c.map λr=>iP r.1).toArray.size:Int)-1))).IsRevIter s.heap.objs.size dn (c.length-1):=by
  refine⟨_,aM _ rfl,rfl,?_⟩;simp[VZ]
 have i:s.heap.objs.size<=(s.heap.push (VZ dn (((c.map λr=>iP r.1).toArray.size:Int)-1))).objs.size:=by rw[aY];exact cL _
 generalize s.heap.push (VZ dn (((c.map λr=>iP r.1).toArray.size:Int)-1))=h' at d f i;refine wpAny_pyIter_revIter d λR k N=>Mg rfl t g l y rfl rfl hA (λU=>by exact hA) (λU U U U U U=>by exact hA) (λq=>absurd h.lt (by rw[<-q];exact cp _)) E (λq=>absurd (p.size _ q) (cp _)) G (λfp O S P=>?_) c.length (ah _) [a.locals] s {s with heap:=h'} ⟨p.keep λb U o e=>f b o e,d,⟨m,h.at' λo e=>f _ o e⟩⟩ (λb Q=>?_) ?_
 .refine Hz (.ok .next) (N _ _ _ ?_);exact TX (.ok (.ret .none)) ⟨rfl,P⟩
 .have F:b=a.locals\/b=s.heap.objs.size:=by simpa using Q
  exact F.elim (λq=>.inl (by simp[q])) λq=>.inr (dm q.symm)
 .exact(D4.refl _ s).step (fp':=[]) kq (λb o U e=>f b o e) i (ah _)
def sM{d}(e:s.heap.IsGen a g)(c:Q () s) :
 aP M A (fE (.Tuple f d pos) (.ref a) v) Q E s:=by
 refine PX e λo nm qn h i hd z=>?_;cases v with
 |ref b=>
  refine aa (tr h ?_);rw[i,hd];exact au c
 |_=>exact au c
noncomputable def Tk.gen(w:bC)(A:cO)(ex:List bu)(a:bu)(g:Nat)(fp:List bu)(c:List aE)(ts:List T):Tk where
 tk:=a::(fp++ex)
 gk:=[g]
 I:=λF s=>s.heap.IsGen a g/\ZM w A ex c fp g s/\da w F c ts
 st:=fun {F s F' s'} h le z k j z=>⟨Nw h.1 λo nm qn l r=>⟨o,nm,qn,k a (.head _) _ l,r⟩,cY h.2.1 λm n p=>⟨m,j g (.head _) _ n,λd f=>p d λb i o e=>f b i o (k b (.tail _ (ao.mpr i)) o e)⟩,h.2.2.cC le⟩
def H8{K:Tk}{Y9:bv}{f:Nat->M2->M2}(Inv:Nat->M2->Tk->Prop)
 (hB:dg w B) (hR:Rm 1 A) (hex:∀b∈ex,b∈K.tk)
 (hi:∀Q E,(∀a g fp l F1 s1,St B w X loc (K.and (Tk.gen w A ex a g fp l ts)) F1 s1->(∀b∈a::fp,X.s0.heap.objs.size<=b/\b∉K.tk)->a∉fp->X.s0.gens.size<=g->Q (.ref a) s1)->aP (aO pw w) A (eval Y9 X.ax) Q E s)
 (O:∀i loc' K',Inv i loc' K'->K'.tk=K.tk/\K'.gk=[]) (ht:∀i t,ts[i]?=ab t->zu B w A X (.Tuple elts kk tpos) t (f i)) (h0:Inv 0 loc K)
 (oD:∀L i loc' K' F' s',(∀b∈L.tk,b∈ex\/(b∉K.tk/\X.s0.heap.objs.size<=b))->i<ts.length->Inv i loc' K'->St B w X (f i loc') (K'.and L) F' s'->
  Go w A body X.ax (qA B w X (Inv (i+1)) L (Go w A bj X.ax Q) Q) s')
 (jO:∀loc' K' F' s',Inv ts.length loc' K'->St B w X loc' K' F' s'->Go w A F X.ax (qE (Go w A bj X.ax Q) Q) s')
 (hs:autoParam (∀x,bw Y9 X.ax x=cD x) y2):Go w A (.For (.Tuple elts kk tpos) Y9 body F pos::bj) X.ax Q s:=by
 refine UR hB.Vg λ_ _ _ _ _ TT=>⟨bF (JH (hi _ _ λa g fp l F1 s1 z p u hg=>?_) hs)⟩;refine wpAny_pyIter_gen z.cV.2.1 ?_;have G:=z.cV.2.2.2.length;have C:A.depth<pX:=by have:=hR.2.1;exact Sa this
 have ap:∀{i loc' K' fp vs ts' F' s'},Inv i loc' K'->St B w X loc' (K'.and (Tk.gen w A ex a g fp vs ts')) F' s'->(∀b∈a::fp,X.s0.heap.objs.size<=b/\b∉K.tk)->∀b∈a::fp,F' b=aC/\X.s0.heap.objs.size<=b/\b∉K'.tk/\b≠X.ax.locals/\∀x c,X.ax.cells.lookup x=ab c->b≠c:=λm e p b d=>
  ka (e.apart b (ag _ ((aX.mp d).elim (λq=>q▸.head _) λd=>.tail _ (ac _ d)))) λh1 _ h3=>⟨h1,(p b d).1,(O _ _ _ m).1▸(p b d).2,h3⟩
 have V:∀{i loc' K'},Inv i loc' K'->∀j∈[g],X.s0.gens.size<=j/\j∉K'.gk:=λm j hj=>by cases aB.mp hj;exact⟨hg,by rw[(O _ _ _ m).2];exact λh=>nomatch h⟩
 refine FE (n:=ts.length) (Pt:=λi t=>ts[i]?=ab t) (M0:=Tk.gen w A ex a g fp l ts) Inv (λi M=>∃fp,M=Tk.gen w A ex a g fp (l.drop i) (ts.drop i)/\(∀b∈a::fp,X.s0.heap.objs.size<=b/\b∉K.tk)/\a∉fp) z h0 ⟨fp,rfl,p,u⟩ ht ?_ ?_ (λM' i loc' K' F' s' H h m z=>?_) (λloc' K' F' s' m z=>(jO loc' K' F' s' m z).run) λfl s h=>by cases fl<;>first|exact h.run|exact h
 .intro i loc' K' M' F' s' E P I m H e k;obtain⟨fp,rfl,p,u⟩:=H;have v:=ap m e p;refine sE e.cV λ_ J y R=>?_;have hlv:i<l.length:=#v[(dO 0x10120e21f) G I];rw[kf hlv]at y R;rw[kf I]at R;obtain⟨r0,rs⟩:Rp w F' l[i] ts[i]/\da w F' (l.drop (i+1)) (ts.drop (i+1)):=by cases R with|cons a b=>exact⟨a,b⟩
  refine zF hR.1 (TT.nolimit.keeps e.bs.keep) C J y λS fp' U D N W hgo=>⟨_,rfl,?_⟩;have Y:S.heap.IsGen a g:=Nw J λo nm qn ho r=>⟨o,nm,qn,U.heap a _ u ho,r⟩;refine sM Y ?_;have Z:St B w X loc' K' F' S:=St.wf (e.nM (λb d=>ac _ d) λq=>q.1) (λb d=>v b (.tail _ d)) (V m) U D;have al:a<s'.heap.objs.size:=Nw J λo _ _ ho _=>aS ho;have al4:a<S.heap.objs.size:=aT al D;refine k _ _ _ _ _ (ay I) ⟨fp',rfl,λb d=>(aX.mp d).elim (λq=>q▸p a (.head _)) λd=>?_,λq=>(N a q).elim u λh=>absurd al (aV.mpr h)⟩ r0
   (Z.add ⟨Z.cV,Y,hgo,rs⟩ λb d=>(ao.mp d).elim .inl λd=>?_)
  .exact(N b d).elim (λh=>p b (.tail _ h)) λh=>⟨aA e.d6.size h,λq=>(e.fresh h).2.1 (ac _ ((O _ _ _ m).1.symm▸q))⟩
  .rcases aX.mp d with rfl|d
   .exact .inr ⟨(v b (.head _)).1,al4,(v b (.head _)).2.2.2⟩
   .refine(ao.mp d).elim (λd=>.inr ?_) λd=>.inl ((O _ _ _ m).1.symm▸hex b d);exact(N b d).elim (λh=>⟨(v b (.tail _ h)).1,W b d,(v b (.tail _ h)).2.2.2⟩) λh=>⟨(e.fresh h).1,W b d,(e.fresh h).2.2⟩
 .intro loc' K' M' F' s' E P m H e k;obtain⟨fp,rfl,p,u⟩:=H;refine sE e.cV λ_ J y R=>?_;rw[<-G,Ot]at y;exact BW hR.1 (TT.nolimit.keeps e.bs.keep) C J y λS U D=>⟨rfl,k F' _ (St.wf (e.nM (λb d=>ac _ d) λq=>q.1) (λb d=>ap m e p b (.tail _ d)) (V m) U D)⟩
 .obtain⟨fp,rfl,p,_⟩:=H;refine(oD _ i loc' K' F' s' (λb d=>?_) h m z).run;rcases aX.mp d with rfl|d
  .exact .inr (p b (.head _)).symm
  .exact(ao.mp d).elim (λd=>.inr (p b (.tail _ d)).symm) .inl
def JZ{K:Tk}(C:dg w B)(P:Rm 1 A)(n:St B w X loc K F s)(hG:GB j dn s.heap)(hex:∀b∈nV j dn,b∈K.tk)
 (hr:da w F (ox j j.length) ts) (hz:∀r∈j,r.2.length<=100000)
 (k:∀a g fp O F1 R,St B w X loc (K.and (Tk.gen w A (nV j dn) a g fp O ts)) F1 R->(∀b∈a::fp,X.s0.heap.objs.size<=b/\b∉K.tk)->a∉fp->X.s0.gens.size<=g->Q (.ref a) R) :
 aP (aO pw w) A (wY (.ref 75) [D,.ref dn] []) Q E s:=by
 refine UR C.Vg λ_ _ _ _ _ TT=>?_;have bs:=n.bs;have S:=dY C bs 75 _ rfl;refine kB (codeAny_call_generator (by have:=P.2.1;exact Sa this) S rfl rfl rfl rfl (codeRec_of (λa o e=>bs.keep a o (C.X a o e)) #v[]) (lN (dY C bs) (binds:=[("self",D),("ns_stack",.ref dn),("_reversed",.type "reversed")]) #v[] _ _ _ _ ?_));refine gy (FO rfl (kindsX rfl _) λd U s' x V=>?_);have hL:d.locals=s.heap.objs.size:=by rw[U];rfl
 refine m8 x.done λf tk hq G=>?_;subst hq;have I:=x.toInCall.ns;refine⟨(TT.nolimit.keeps bs.keep).keeps x.toInCall.keep,?_⟩;have l:s.heap.objs.size<=d.locals:=dm hL.symm;have p:d.locals<f.objs.size:=I.lt;generalize H:({cls:=.type "generator",data:=.fields #[.int ({s with heap:=f,toks:=tk}:aH).gens.size 0,_,_]}:mV)=t;have u:∀b o,s.heap.get? b=ab o->(f.push t).get? b=ab o:=λb o e=>aG _ (G b o e);have W:t.isFreed=false:=by rw[<-H];rfl
 have g:∀y:zH,y.bare=true->Gr F s F {s with gens:=s.gens.push y,toks:=tk+1+1,heap:=f.push t}:=by
  intro y hy;refine⟨Le.refl _,λ_ _ e=>.inl e,λb o _ e=>u b o e,λb o e=>u b o (bs.bh b o e),?_,⟨λi z e=>?_,λh=>h.push hy⟩,rfl,#v[(bW 0x1660010d) V]⟩
  .rw [aY];exact dy (aA l (c9 p))
  .have J:=(eY.mp e).1;rw[Array.getElem?_push_lt J];exact(dW J).symm.trans e
 have m:∀b,s.heap.objs.size<=b->F b=aC/\b∉K.tk/\b≠X.ax.locals/\∀y c,X.ax.cells.lookup y=ab c->b≠c:=λb h=>n.fresh h;have v:s.heap.objs.size<=f.objs.size:=aA l (c9 p);refine k f.objs.size s.gens.size [d.locals] (ox j j.length) F _ ?_ (λb h=>?_) (λq=>?_) ?_
 .refine(n.gr (g _ rfl)).add ⟨(n.gr (g _ rfl)).cV,⟨t,_,_,aM _ W,by rw[<-H],by rw[<-H],by rw[<-H]⟩,⟨_,Array.getElem?_push_size,λL M=>⟨rfl,?_⟩⟩,hr⟩ λb h=>(ao.mp h).elim .inl λh=>?_
  .have Y:GB j dn L.heap:=(hG.keep λb _ o e=>u b o e).keep λb h o e=>M b (.inr h) o e;have Z:L.heap.Ns d.locals _:=(I.keeps λb o e=>aG t e).at' λo e=>M _ (.inl (.head _)) o e;subst U;exact NH P.1 rfl rfl rfl rfl rfl rfl rfl rfl rfl Y Z (yB rfl _ _ (show (["self", "ns_stack", "_reversed"]:List bT).Nodup by decide) (.tail _ (.tail _ (.head _)))) (yB rfl _ _ (show (["self", "ns_stack", "_reversed"]:List bT).Nodup by decide) (.tail _ (.head _))) (λq=>absurd (n.apart _ (hex _ q)).2.1 (aV.mpr l)) hz
  .rcases aX.mp h with rfl|h
   .exact .inr ⟨(m _ v).1,by rw[aY];exact bH _,(m _ v).2.2⟩
   .rcases ao.mp h with h|h
    .have:b=d.locals:=by simpa using h
     subst this;exact .inr ⟨(m _ l).1,by rw[aY];exact c4 p,(m _ l).2.2⟩
    .exact .inl (hex b h)
 .have hb':b=f.objs.size\/b=d.locals:=by simpa using h
  have N:s.heap.objs.size<=b:=hb'.elim (λq=>q▸v) λq=>q▸l;exact⟨aA n.d6.size N,(m b N).2.1⟩
 .have:f.objs.size=d.locals:=by simpa using q
  exact absurd p (by rw[<-this];exact cp _)
 .refine qr λq=>?_;have e:=n.d6.gens.1 s.gens.size _ (dW q);have:=(eY.mp e).1;exact(bO 0x900e) this
noncomputable def Tk.set(w:bC)(a:bu)(xs:List bT):Tk where
 tk:=[a]
 gk:=[]
 I:=λz s=>∃n,n<=xs.length/\s.heap.SetOf (aR pw w) a (λk=>decide (k∈xs)) n
 st:=λb z z k z z=>cY b λn h c=>⟨n,h,ES c λo d f t e r=>⟨o,d,f,t,k _ (.head _) _ e,r⟩⟩
structure Wg(C:fv B)(w:bC)(A:cO)(ax:uS)(e:bv)(L:bu->Tk):Prop where
 run:∀F s,C.P F s->∀(Q:Lx0) (E:Lx0),(∀a F' s',Gr F s F' s'->(L a).I F' s'->F' a=aC->s.heap.objs.size<=a->a<s'.heap.objs.size->Q (.ref a) s')->aP (aO pw w) A (eval e ax) Q E s
def St.Vq{K:Tk}(f:St B w X loc K F s)(j:gM X K)(g:Gr F s F' s')(k:L.I F' s')(d:L.tk=[a])(l:F' a=aC)(i:s.heap.objs.size<=a)(m:a<s'.heap.objs.size):St B w X loc (K.bI L) F' s'/\gM X (K.bI L):=by
 have h:=f.gr g;have n:∀b∈K.tk,b∉L.tk:=λb c q=>by
  rw[d]at q;have e:b=a:=by simpa using q
  exact absurd (f.apart b c).2.1 (by rw[e];exact aV.mpr i)
 refine⟨h.add ⟨h.cV,k,n⟩ λb c=>(ao.mp c).imp id λq=>?_,λb c=>?_⟩
 .rw [d]at q;have e:b=a:=by simpa using q
  subst e;exact⟨l,m,(f.fresh i).2.2⟩
 .rcases ao.mp c with c|c
  .exact j b c
  .rw [d]at c;have e:b=a:=by simpa using c
   exact .inl (e▸aA f.d6.size i)
def E1{K:Tk}(c:St B w X loc K F s)(f:gM X K)(h:Wg (St.pre B w X loc K) w A X.ax b L)(i:∀a,(L a).tk=[a])
 (j:KO X x) (l:cD false=cf b (ab (.Name x d)) pos.line X.ax)
 (k:∀a F' s',X.s0.heap.objs.size<=a->gM X (K.bI (L a))->St B w X (dz x (.val (.ref a)) loc) (K.bI (L a)) F' s'->Go w A bj X.ax Q s'):Go w A (.Assign [.Name x d] b pos::bj) X.ax Q s:=by
 refine⟨bF (iO (h.run F s c _ _ λa u v g r m e n=>?_) l.symm)⟩;refine dS (c.Vq f g r (i a) m e n) λo p=>jM o (.val _) j λq t=>(k a _ q (aA c.d6.size e) p t).run
def Dk{h:gn}:(h.push {cls:=.type "set",dict:=aC,data:=.set #[] 0 (.fresh 0 0 led)}).SetOf (aR pw w) h.objs.size (λk=>decide (k∈([]:List bT))) 0:=
 ⟨_,#[],0,_,aM _ rfl,⟨rfl,rfl,rfl⟩,rfl,λe a=>by simp at a,λk=>by simp,by decide,by rfl,rfl⟩
def Mi(e:Ev C w A ax func (.val (.type "set"))) (f:eval (.Call func [] [] pos) ax=(do dB pos (<-eval func ax) [] (dc pos (br [] ax)) (bR pos (bk [] ax)))) :
 Wg C w A ax (.Call func [] [] pos) (λa=>Tk.set w a []):=by
 refine⟨λF s d Q E h=>?_⟩;rw[f];refine aa (e.run F s d _ _ λv b c g r=>?_);refine r.eV ?_;have bs:=C.bs (C.st d g);refine HS rfl (qar rfl (qas (call_set_0 λled=>?_)));have g2:Gr b c b {c with heap:=c.heap.push {cls:=.type "set",dict:=aC,data:=.set #[] 0 (.fresh 0 0 led)}}:=fP bs.bh (ah _);exact h _ b _ (g.trans g2) ⟨0,ah _,Dk⟩ (c8 bs.bh (ah _)) g.size (by rw[aY];exact bH _)
def Bz{K:Tk}(f:bU K K' (Tk.set w a xs) L'):mz (St.pre B w X loc K) w A (cQ .NotIn) (.str x) (.val (.ref a)) (.bool (!decide (x∈xs))):=by
 refine⟨λh i F s b c d Q E e=>?_⟩;refine c.eS λz=>?_;refine d.eV ?_;refine cY (f.get F s b.cV) λn z g=>wpAny_notInSet_of (by simp[aR,d9]) rfl g (e _ F _ (Gr.j4 b.bs.bh _) (.bool _))
def Xx{K:Tk}(f:bU K K' (Tk.set w a xs) L'):mD (St.pre B w X loc K) w A (.val (.ref a)) "add" (.builtin "set.add") true:=by
 refine⟨λF s e b r pl Q E c=>?_⟩
 (first|obtain rfl:=r.cV|obtain⟨z,rfl⟩:=r.cV|obtain rfl:=r.nw|refine r.eI λz=>?_)
 obtain⟨n,z,d⟩:=f.get F s b.cV;exact getMethod_set_add d (c F s (ic.refl b.bs.bh))
def Ke{K:Tk}(h:s.toks<=k)(f:bU K K' L L')(j:a∈L.tk)(bs:Bs B F s)(hi:K.I F s)(d:∀b∈K.tk,F b=aC/\b<s.heap.objs.size)(g:cN a s.heap h')(l:L'.I F {s with heap:=h',toks:=k}) :
 ic K.tk F s F {s with heap:=h',toks:=k}/\K'.I F {s with heap:=h',toks:=k}/\∀b∈K'.tk,F b=aC/\b<h'.objs.size/\(b∈K.tk\/s.heap.objs.size<=b):=by
 have i:a∈K.tk:=f.sub a j;have bh:∀b o,F b=ab o->h'.get? b=ab o:=λb o q=>(g.2 b (λz=>by rw[z,(d a i).1]at q;cases q)).trans (bs.bh b o q);refine⟨⟨Le.refl _,λy y q=>.inl q,λb o c q=>(g.2 b λz=>c (z▸i)).trans q,bh,by rw[g.1];exact ah _,.refl _,rfl,h⟩,
  f.put F s {s with heap:=h',toks:=k} hi bh (λb o c q=>(g.2 b λz=>c (z▸j)).trans q) (λy y e=>e) h l,λb c=>?_⟩
 rw[f.tk]at c;exact⟨(d b c).1,by rw[g.1];exact(d b c).2,.inl c⟩
def T7{K:Tk}(f:bU K K' (Tk.set w a xs) (Tk.set w a (xs++[x])))(i:xs.length+2<=1000):d5 B w K A (.builtin "set.add") [.val (.ref a),.str x] [] [] (λc u=>c=K'/\u=.none):=by
 refine⟨λF s vs us bs hi d j l Q E m=>?_⟩;refine j.e2 λC D o p=>l.e0 <|o.eV ?_;refine p.eS λG=>?_;refine cY (f.get F s hi) λn q r=>call_set_add (k:=x) (by simp[aR,d9]) rfl r #v[(bW 0x10004906110d3e8392314d) i q] λh' g h=>?_;have e:(λb=>decide (b∈xs++[x]))=(λb=>decide (b∈xs) ||decide (b=x)):=by
  funext b;rw[<-Bool.decide_or];exact decide_eq_decide.mpr (by simp)
 have t:(Tk.set w a (xs++[x])).I F {s with heap:=h',toks:=s.toks+1}:=⟨_,by rw[aw,bx];split<;>omega,e▸h⟩;refine ka (Ke (cL _) f (.head _) bs hi d g t) λv y z=>m _ _ _ _ _ ⟨rfl,rfl⟩ v y z .none
end Mine
namespace Mine
open PySem PySem.W PySem.Spec PySem.Calls PyProof.Rows
def Dl(a:s.heap.get? l=ab (ca "list" #[c,k] n)) (d:s.heap.get? b=ab (ca "list" #[f,o] m)) (g:HT c f B)
 (i:B=false->aP (aO prog w) A (richCompare .Lt c f) (λr s'=>Q (.done (.ret r)) s') E s)
 (j:B=true->Q (.again (.builtin "list.__eq__.loop" ⟨[.ref l,.ref b,gH 1,gH 0],[]⟩)) s):aP (aO prog w) A (Builtin.«list.__eq__.loop» ⟨[.ref l,.ref b,gH 0,gH 0],[]⟩) Q E s:=by
 refine aa (eM a rfl ?_);refine aa (eM d rfl ?_);refine aa (g _ _ _ _ _ _ ?_);cases B with
 |true=>exact au (j rfl)
 |false=>
  refine aa (eM a rfl ?_);refine aa (eM d rfl ?_);refine aa (cj (i rfl) (λr s' h=>?_) λz z e=>e);exact au h
def Mj(a:s.heap.get? l=ab (ca "list" #[h,c] n)) (d:s.heap.get? b=ab (ca "list" #[i,e] m)) (f:HT c e true)
 (g:Q (.again (.builtin "list.__eq__.loop" ⟨[.ref l,.ref b,gH 2,gH 0],[]⟩)) s):aP (aO prog w) A (Builtin.«list.__eq__.loop» ⟨[.ref l,.ref b,gH 1,gH 0],[]⟩) Q E s:=by
 refine aa (eM a rfl ?_);refine aa (eM d rfl ?_);refine aa (f _ _ _ _ _ _ ?_);exact au g
def MO(a:s.heap.get? l=ab (ca "list" #[e,f] n)) (c:s.heap.get? b=ab (ca "list" #[g,h] m))
 (d:Q (.done (.ret (.bool false))) s):aP (aO prog w) A (Builtin.«list.__eq__.loop» ⟨[.ref l,.ref b,gH 2,gH 0],[]⟩) Q E s:=by
 refine aa (eM a rfl ?_);refine aa (eM c rfl ?_);refine aa (eM a rfl ?_);refine aa (eM c rfl ?_);exact au d
def Ql(a:s.heap.get? l=ab (ca "list" #[.str c t0,.str f i] n)) (d:s.heap.get? b=ab (ca "list" #[.str g r,.str j k] m))
 (o:c=g->f=j) (h:Q (.bool (decide (c.cps.toList<g.cps.toList))) s):aP (aO prog w) A (wY (.builtin "list.__lt__") [.ref l,.ref b]) Q E s:=by
 have pl:=MeetsSeq3.plain_eq_loop;have e:=MeetsSeq3.entry_eq_loop;have t:=AutoSeq1.sub_list_list;refine kB (RW rO.plain PySem.F.entry_list_lt (rO.check _ _ _ _ _ _ _ _ ⟨_,a,rfl⟩ (PySem.F.args_list_lt_2 _ _) ?_));delta Builtin.«list.__lt__»;have p:=a
 wp_walk using zi a,zi d
 rw[(show (⟨s.heap,s.gens,s.drawn,s.toks,s.os⟩:aH)=s from rfl)];by_cases e0:c=g
 .subst e0;have e1:=o rfl;subst e1;have hd:decide (c.cps.toList<c.cps.toList)=false:=by rw[decide_eq_false_iff_not];exact iV _
  rw[hd]at h;exact⟨jV pl _,fJ e (by
   rw[eD pl _];refine Dl a d (RX _ _ _ _) (λq=>absurd q (by simp)) λz=>⟨jV pl _,fJ e ?_⟩;rw[eD pl _];refine Mj a d (by have:=RX f f i k;rwa[beq_self_eq_true]at this) <| ⟨jV pl _,fJ e ?_⟩;rw[eD pl _];exact MO a d h)⟩
 .exact⟨jV pl _,fJ e (by
   rw[eD pl _];refine Dl a d (RX _ _ _ _) (λz=>?_) λq=>absurd (kN q) e0;exact richCompare_gives (fV s _ _) (fV s _ _) PySem.F.slot_str_lt PySem.F.entry_str_lt (PySem.F.args_str_lt_2 _ _) (gives_str_lt _ _ _ _) (λx=>nomatch x) h)⟩
def ED(e:A.units<cLine)(a:s.heap.get? l=ab (ca "list" #[.str c t0,.str f k] n)) (g:s.heap.get? b=ab (ca "list" #[.str d o,.str i p] m))
 (j:c=d->f=i) (h:Q (decide (c.cps.toList<d.cps.toList)) s):aP (aO prog w) A (keyLt' oneType' (.ref l) (.ref b)) Q E s:=by
 rw[keyLt'_oneType,oneLt'_eq];rw[if_pos rfl];refine aa (wpAny_cRoomFor e ?_);refine aa (wpAny_callSpecialIfBound?_slot ⟨_,a,rfl⟩ rO (Ql a g j ?_));exact qB h
section
open PySem.Builtin PySem.Builtin.ObjectAttr
noncomputable def j9:List Q1:=[97,65,98,38].flatMap λx=>[97,65,98,38].flatMap λy=>[97,65,98,38].map λz=>[x,y,z]
def Dd:List Q1:=[112,113,114,115,116].flatMap λp=>j9.map λl=>p::l
def JD:List (Q1×Q1):=([97,108,108],[114])::([97,108,108],[122])::([117],[116])::([118],[116])::(Dd.map (λl=>(l,[101]))++Dd.map λl=>(l,[116]))
noncomputable def pv(u t:Q1):Q1:=123::(u++125::t)
def qOk(y:Q1×Q1):Bool:=decide (lm (Ss (pv y.1 y.2)) aC (ab 1)=Ss [123])&&decide (kU (Ss (y.1++125::y.2)) (Ss [125]) 1=[Ss y.1,Ss y.2])&&decide (ke (Ss (pv y.1 y.2)) (Ss [125]) 1=[Ss (123::y.1),Ss y.2])&&decide (y.1.length<=4)&&decide (0<y.1.length)&&decide (y.2.length=1)
def QL:JD.all qOk=true:=by decide +kernel
structure QOk(u t:Q1):Prop where
 sl:lm (Ss (pv u t)) aC (ab 1)=Ss [123]
 rs:kU (Ss (u++125::t)) (Ss [125]) 1=[Ss u,Ss t]
 sp:ke (Ss (pv u t)) (Ss [125]) 1=[Ss (123::u),Ss t]
 lu:u.length<=4
 pu:0<u.length
 lt:t.length=1
def qok(h:(u,t)∈JD):QOk u t:=by
 have h:=bg.mp QL _ h;simp only[qOk,bc,decide_eq_true_eq]at h;obtain⟨⟨⟨⟨⟨a,b⟩,c⟩,d⟩,e⟩,f⟩:=h;exact⟨a,b,c,d,e,f⟩
structure Z3(C:fv B)(w:bC)(A:cO)(ax:uS)(c6:Q1)(es:List bv)(res:Q1):Prop where
 run:∀F s,C.P F s->∀(Q:Lx0) (E:Lx0),(∀v F' s',Gr F s F' s'->Rp w F' v (.str (Ss res))->Q v s')->aP (aO pw w) A (joinParts (Ss c6) (evalEach es ax)) Q E s
def Eo(h:c6.length<=be):Z3 C w A ax c6 [] c6:=⟨λF s a Q E b=>joinParts_nil (b _ F _ (Gr.j4 (C.bs a).bh _) (.str _ _)) (by rw[cX];exact h)⟩
def oC(h:Ev C w A ax e (.str (Ss l)))(c:c6.length+l.length<=be)(k:Z3 C w A ax (c6++l) d a):Z3 C w A ax c6 (e::d) a:=by
 refine⟨λF s b Q E f=>vS (h.run F s b _ _ λv i j g r=>?_)⟩;refine r.eS λz=>?_;dsimp only;rw[rD];exact⟨by rw[cX,aw];exact c,k.run i j (C.st b g) Q E λv m n g2 o=>f v m n (g.trans g2) o⟩
def BK(h:Ev C w A ax e (.str (Ss l)))(b:l.length<=be):Ev C w A ax (.FormattedValue e (-1) aC pos) (.str (Ss l)):=by
 refine⟨λF s a Q E c=>vU (h.run F s a _ _ λv d j g r=>?_)⟩;refine r.eS λz=>?_;have bs:=C.bs (C.st a g);refine gC (qat (λk tk i f=>c _ d _ (g.trans (Gr.j4 bs.bh tk f)) (.str _ _)) (by rw[cX];exact b))
def QG{k:Nat}(h:Ev C w A ax e (.int (k:Int)))(a:k<10):Ev C w A ax (.FormattedValue e (-1) aC pos) (.str (Ss [48+k])):=by
 refine⟨λF s b Q E c=>vU (h.run F s b _ _ λv d f g r=>?_)⟩;refine r.eI λz=>?_;have bs:=C.bs (C.st b g);refine formatField_int_small (pP #v[(bO Sv8) a] #v[(bO Sw9) a]) <|c _ d _ (g.trans (Gr.j4 bs.bh _)) (oY k a▸.str _ _)
def vD(h:Z3 C w A ax [] (e1::e2::b) a):Ev C w A ax (.JoinedStr (e1::e2::b) pos) (.str (Ss a)):=
 ⟨λF s c Q E d=>qcY (h.run F s c Q E d)⟩
def FC{K:Tk}(f:bU K K' (Tk.gA w a kvs) L')(hi:K.I F s):∃ps ,s.heap.DictOf (aR pw w) a ps/\ps.map (·.1)=kvs.map (·.1)/\
 (∀x t,kvs.lookup x=ab t->∃v,qH ps x=ab v/\Rp w F v t)/\∀x,kvs.lookup x=wZ->qH ps x=wZ:=by
 refine qd (f.get F s hi) λk n e r d=>j14 r.pairs λps c g b h i=>⟨ps,⟨_,_,_,e,⟨rfl,rfl,rfl⟩,rfl,λe j=>c e (by simpa using j),by simpa using g,by rw[b];exact d⟩,b,h,i⟩
def Jf{K:Tk}(b:a≠1)(f:bU K K' (Tk.gA w a kvs) L'):mz (St.pre B w X loc K) w A (cQ .In) (.str x) (.val (.ref a)) (.bool (kvs.lookup x).isSome):=by
 refine⟨λm n F s c d g Q E h=>?_⟩;refine d.eS λz=>?_;refine g.eV ?_;refine Hl (FC f c.cV) λps i z j l=>wpAny_in_of (k:=x) (by simp[aR,d9]) (beq_eq_false_iff_ne.mpr b) i.mapOf ?_;have e:(qH ps x).isSome=(kvs.lookup x).isSome:=by
  cases q:kvs.lookup x with
  |none=>rw[l x q];rfl
  |some t=>refine cY (j x t q) λv e z=>?_;rw[e];rfl
 rw[e];exact h _ F _ (Gr.j4 c.bs.bh _) (.bool _)
def Pn{K:Tk}(f:bU K K' (Tk.gA w a kvs) L')(e:kvs.lookup x=ab t):gF (St.pre B w X loc K) w A (.val (.ref a)) (.str x) t:=by
 refine⟨λl m F s b d g Q E h=>?_⟩;refine d.eV ?_;refine g.eS λz=>?_;refine Hl (FC f b.cV) λps c z i z=>cY (i x t e) λv j k=>⟨"dict",_,c.typeIs,Wn.lookup,Y3 (by simp[aR,d9]) c.mapOf j (h _ _ _ (Gr.j4 b.bs.bh _) k)⟩
def Fg{K:Tk}(b:a≠1)(f:bU K K' (Tk.gA w a kvs) L')(e:kvs.length<=1000):cR (St.pre B w X loc K) w A (.builtin "len") [.val (.ref a)] [] [] (.int (kvs.length:Int)):=by
 refine⟨λF s vs us c g h Q E i=>?_⟩;refine g.e1 λm j=>h.e0 ?_;refine j.eV ?_;refine mB (FC f c.cV) λps k l z=>?_;have d:ps.length=kvs.length:=by have:=congrArg mX l;simpa using this
 refine call_len_dict (beq_eq_false_iff_ne.mpr b) k #v[(vj Sz3) e d ir] ?_;rw[d];exact i _ F _ (Gr.j4 c.bs.bh _) (.int _ _)
def wl{K:Tk}(f:bU K K' (Tk.cu w a ts) L')(c:0<k)(d:k<=ts.length)(g:k<=1000)(e:ts[ts.length-k]?=ab t):gF (St.pre B w X loc K) w A (.val (.ref a)) (.int (-(k:Int))) t:=by
 refine⟨λo p F s h j l Q E m=>?_⟩;refine l.eI λz=>?_;refine j.eV ?_;refine m8 (lg f h.cV) λvs n i r=>cY (r.get e) λv e1 e2=>?_;have b:=r.length;refine⟨"list",_,⟨_,i,rfl⟩,mP.lookup,wpAny_getItem_list_neg (items:=vs.toArray) ⟨_,i,rfl,n,rfl⟩ #v[(bO 0x3072f43e8390d003e) c g] (by rw[aL];exact(dO 0x172f072f320f21d) d b) #v[(jP 0x72f02f30e8d4a51000a93c3e8390d003e) c g ir] ?_ (m _ _ _ (ic.refl h.bs.bh) e2)⟩;rw[aL,b,show (-(k:Int)+(ts.length:Nat)).toNat=ts.length-k by exact(dO 0x1517072f4b212f10d) d b];simpa using e1
def uk
 (e:s.heap.get? a=ab {cls:=.type "dict",data:=.dict (c7 d) n}) (r:p9 w F d kvs) (f:(kvs.map (·.1)).Nodup) (g:Rp w F v t) (h:kvs.length<=be)
 (i:∀h' k b n',s.toks<=k->h'.get? a=ab {cls:=.type "dict",data:=.dict (c7 b) n'}->p9 w F b (dz x t kvs)->cN a s.heap h'->Q () {s with heap:=h',toks:=k}) :
 aP (aO pw w) A (Wq (.ref a) (.str x tk) v) Q E s:=by
 have c:s.TypeIs (.ref a) "dict":=⟨_,e,rfl⟩;delta Wq
 try with_reducible refine bq ?_
 refine aa (Wr c #v[_] ?_);refine aa (gq c Wt
  (dJ Wt c entry_dict_setitem ?_ (args_dict_setitem _ _ _)))
 refine aa (wpAny_notOrdered_dict c ?_);show aP _ _ (dictSet a (.str x tk) v >>= _) _ _ s;exact aa (Bq e r f g h λh' k b n' j l m o=>au ⟨.none,rfl,au (i h' k b n' j l m o)⟩)
def Bw{K:Tk}(m:St B w X loc K F s)(p:gM X K)(f:bU K K' (Tk.gA w a kvs) (Tk.gA w a (dz x t kvs)))(E:kvs.length<=1000)(G:Ev (St.pre B w X loc K) w A X.ax c t)
 (H:KO X y) (I:Ev (St.pre B w X (dz y t loc) K) w A X.ax o (.val (.ref a))) (J:Ev (St.pre B w X (dz y t loc) K) w A X.ax i (.str x))
 (L:cD aC=nI [.Name y px,.Subscript o i l] c X.ax) (k:∀F' s',gM X K'->St B w X (dz y t loc) K' F' s'->Go w A bj X.ax Q s'):Go w A (.Assign [.Name y px,.Subscript o i l] c pos::bj) X.ax Q s:=by
 refine⟨bF (Y6 (G.run F s m _ _ λv M s1 g r=>?_) rfl L)⟩;refine j5 (jM (m.gr g) r H λN h=>?_);rw[assign_Subscript];refine aa (bq (I.run M N h _ _ λov O P g2 R=>?_));refine aa (bq (J.run O P (h.gr g2) _ _ λiv q S g3 U=>?_));have j:=(h.gr g2).gr g3;refine R.eV ?_;refine U.eS λ_=>?_;refine aa (cz (aa (bq ?_)));refine qd (f.get q S j.cV) λes n e V d=>uk e V d ((r.cC g2.le).cC g3.le) (HZ E) λh' W u n' z Y C D=>wpAny_release (k q _ (λb Z=>p b (f.tk▸Z)) ((j.j4 W z).DE f p D (.head _) ⟨u,n',Y,C,(qZ d).1⟩)).run
def bU.qaS{K:Tk}(f:bU K K' M b)(h:∀a∈M.tk,a∉L.tk):bU (K.and L) (K'.and L) M b:=
 ⟨λa h=>ac _ (f.sub a h),by show _++_=_++_;rw[f.tk],by show _++_=_++_;rw[f.gk],λF h x=>f.get F h x.1,λF s s' x y z g t u=>
  ⟨f.put F s s' x.1 y z g t u,L.st x.2 (Le.refl _) y (λa c o e=>z a o (λq=>h a q c) e) (λi w=>g i) t⟩⟩
noncomputable abbrev gL(a:bu):T:=.val (.ref a)
abbrev Tk.U2(w:bC)(dn:bu)(as:List bu)(aD:List (List T)):Tk:=(Tk.cu w dn (as.map gL)).bI (Tk.y3 w as aD)
noncomputable def gT(aD:List (List T))(n:Nat):List T:=n.rec [] λq a=>aD.getD q []++a
def KH:∀{as:List bu} {vs:List aE},da w F vs (as.map gL)->vs=as.map .ref:=@gx _ _ (fun {z} h=>h.nw) λa as b {z} h=>by
 refine h.ec λv us r rs=>r.eV <|congrArg (_::·) (b rs)
def qaW(F:Fz)(s:aH)(w:bC)(aD:List (List T))(as:List bu)(a:List V6):Prop:=a.map (·.1)=as/\a.length=aD.length/\(∀r∈a,∃n,s.heap.get? r.1=ab (uG r.2 n))/\∀(i:Nat) r ts,a[i]?=ab r->aD[i]?=ab ts->da w F r.2 ts
def LL:∀as (aD:List (List T)),as.length=aD.length->(∀(i:Nat) a ts,as[i]?=ab a->aD[i]?=ab ts->(Tk.cu w a ts).I F s)->∃c:List V6,qaW F s w aD as c:=
 iX (iX (λz z=>⟨[],rfl,rfl,λz h=>(nomatch h),λz z z h=>ons h⟩) λz z z h=>nomatch h) λa as g=>iX (λh=>nomatch h) λts aD z j h=>by
  refine m8 (h 0 a ts rfl rfl) λvs n e r=>iA (g aD (pD j) λi b us e1 e2=>h (i+1) b us e1 e2) λc d=>⟨(a,vs)::c,congrArg (a::·) d.1,congrArg (· + 1) d.2.1,λr f=>?_,λi=>i.rec (λz z e1 e2=>?_) λi z=>d.2.2.2 i⟩
  .rcases aX.mp f with rfl|f
   .exact⟨n,e⟩
   .exact d.2.2.1 r f
  .exact bt e1▸bt e2▸r
def Fn(e:a.length=aD.length)(h:∀(i:Nat) r ts,a[i]?=ab r->aD[i]?=ab ts->da w F r.2 ts):∀q,q<=a.length->da w F (ox a q) (gT aD q):=ig (λz=>.nil) λq f c=>by
 have b:q<a.length:=c;have d:q<aD.length:=e▸b;show da w F ((a.getD q (0,[])).2++ox a q) (aD.getD q []++gT aD q);rw[gD b,gD d];exact da.append (h q _ _ (ay b) (ay d)) (f (gc c))
def Ui(h:(Tk.U2 w dn as aD).I F s):∃a ,a.map (·.1)=as/\GB a dn s.heap/\da w F (ox a a.length) (gT aD aD.length)/\∀r∈a,∃ts∈aD,r.2.length=ts.length:=by
 obtain⟨⟨vs,n,e,r⟩,⟨f,l,g⟩,z⟩:=h;refine Hl (LL as aD f g) λa c b j d=>⟨a,c,⟨⟨n,?_⟩,j⟩,b▸Fn b d _ (ah _),λr k=>?_⟩
 .rw [e,KH r,<-c,aQ];rfl
 .refine iA (jA.mp k) λi hi=>?_;have e2:=ay (b▸((bz.mp hi).1):i<aD.length);exact⟨_,bX e2,(d i r _ hi e2).length⟩
def VN{K:Tk}(u:dg w B)(x:Rm 1 A)(l:St B w X loc K F s)
 (y:∀F s,K.I F s->(Tk.U2 w dn as aD).I F s) (m:∀b∈dn::as,b∈K.tk) (z:∀ts∈aD,ts.length<=100000)
 (C:Ev (St.pre B w X loc K) w A X.ax o to) (D:mD (St.pre B w X loc K) w A to name (.ref 75) true) (q:si (St.pre B w X loc K) w A pos X.ax [arg] [] [gL dn] [] []) (G:bK B w (.ref 75))
 (k:∀a g fp n p e,St B w X loc (K.and (Tk.gen w A (dn::as) a g fp n (gT aD aD.length))) p e->(∀b∈a::fp,X.s0.heap.objs.size<=b/\b∉K.tk)->a∉fp->X.s0.gens.size<=g->Q (.ref a) e)
 (H:eval (.Call (.Attribute o name c) [arg] [] pos) X.ax=(do
  let t <-eval o X.ax
  ej c.atName
  let (f,first) <-fL [t] (ib t name pl)
  dB pos f first (dc pos (br [arg] X.ax)) (bR pos (bk [] X.ax)))):aP (aO pw w) A (eval (.Call (.Attribute o name c) [arg] [] pos) X.ax) Q E s:=by
 refine gX (C.run F s l _ _ λv p e g r=>D.run p e v (l.gr g) r pl _ _ λJ L g2=>?_) H;have d:=(l.gr g).gr g2;refine dC q.plain (λh k=>G.ry h k) (q.run _ J L d _ _ λvs us M N g3 O P=>⟨(d.gr g3).bs.keep,?_⟩);have j:=d.gr g3;refine O.e1 λZ i=>P.e0 ?_;(first|obtain rfl:=i.cV|obtain⟨_,rfl⟩:=i.cV|obtain rfl:=i.nw|refine i.eI λ_=>?_);obtain⟨Y,R,S,U,V⟩:=Ui (y M N j.cV);subst R;exact JZ u x j S m U (λr W=>cY (V r W) λts a b=>b▸z ts a) k
end
end Mine
set_option backward.match.sparseCases true
namespace Mine
open PySem PySem.W PySem.Spec PySem.Calls PyProof.Rows
abbrev Yd(Q:Lx0)(E:Lx0):Result->aH->Prop:=λr s'=>match r with | .ok (.ret v)=>Q v s' | .ok _=>False | .error e=>E e s'
structure nC(B:gn)(w:bC)(K:Tk)(A:cO)(f:aE)(ts:List T)(ns:List bT)(ks:List T)(R:Tk->T->Prop):Prop where
 run:∀F s vs us,Bs B F s->K.I F s->(∀a∈K.tk,F a=aC/\a<s.heap.objs.size)->da w F vs ts->da w F us ks->∀(Q:Lx0) (E:Lx0),
  (∀v t K' F' s',R K' t->ic K.tk F s F' s'->K'.I F' s'->(∀a∈K'.tk,F' a=aC/\a<s'.heap.objs.size/\(a∈K.tk\/s.heap.objs.size<=a))->Rp w F' v t->Q v s')->kP (aO pw w) A (.call f ⟨vs,ns.zip us⟩) (Yd Q E) s
def nC.call{K:Tk}(h:nC B w K A f ts ns ks R):d5 B w K A f ts ns ks R:=
 ⟨λF s vs us bs hi a b c Q E d=>kB (h.run F s vs us bs hi a b c Q E d)⟩
end Mine
set_option backward.match.sparseCases false
namespace Mine
open PySem PySem.W PySem.Spec PySem.Calls PyProof.Rows PySem.Builtin PySem.Builtin.ObjectAttr
abbrev Pr:=Nat×Nat
noncomputable def jv(q:Nat):Q1:=if q=10 then [120,109,108]else [110,48+q]
noncomputable def gP(aD:List (List Pr))(n:Nat):List Pr:=n.rec [] λq a=>aD.getD q []++a
def Oa(aD:List (List Pr))(pm:Q1)(ui:Nat):Nat:=match (gP aD aD.length).find? (·.1==ui)with
 |some y=>y.2
 |none=>pm.idxOf ui
def jF(aD:List (List Pr))(pm:Q1)(ui:Nat):List (List Pr):=match (gP aD aD.length).find? (·.1==ui)with
 |some z=>aD
 |none=>aD.set (aD.length-1) (aD.getD (aD.length-1) []++[(ui,pm.idxOf ui)])
def sm(aD:List (List Pr))(pm:Q1)(ui:Nat):Q1:=match (gP aD aD.length).find? (·.1==ui)with
 |some z=>pm
 |none=>if ui∈pm then pm else pm++[ui]
abbrev oz(U:S2)(y:Pr):T:=.qb [.str (Ss (U y.1)),.str (Ss (jv y.2))]
abbrev jp(U:S2)(aD:List (List Pr)):List (List T):=aD.map λr=>r.map (oz U)
abbrev yE(U:S2)(pm:Q1):M2:=pm.zipIdx.map λy=>(Ss (U y.1),.str (Ss (jv y.2)))
structure Xr(U:S2)(aD:List (List Pr))(pm:Q1):Prop where
 inj:∀i j,i<=8->j<=8->U i=U j->i=j
 len:∀i,(U i).length<=50
 ne:0<aD.length
 lr:aD.length<=20
 SG:∀r∈aD,r.length<=20/\∀y∈r,y.1<=8/\y.2<=10
 Fc:∀r∈aD,∀r'∈aD,∀y∈r,∀z∈r',y.2=z.2->y.1=z.1
 pm8:∀u∈pm,u<=8
 pl:pm.length<=8
 pn:pm.Nodup
abbrev Tk.qn(U:S2)(w:bC)(dx a dn:bu)(ats:M2)(as:List bu)(pm:Q1)(aD:List (List Pr)):Tk:=((Tk.gA w dx ats).bI (Tk.gA w a (yE U pm))).bI (Tk.U2 w dn as (jp U aD))
def OY(h:jv q=jv r):q=r:=by
 delta jv at h
 split at h<;>split at h
 .exact(bW 0x102a31fa30f) (by assumption) (by assumption)
 .cases h
 .cases h
 .have:=(cA (cA h).2).1;exact(bW 0x102130294030294f) this
def nY(q):(jv q).length<=3/\jv q≠[]:=by
 delta jv;split
 .exact⟨by decide,j6 _ _⟩
 .exact⟨by simp,j6 _ _⟩
def Tn(f)(aD):∀q,gT (aD.map λr=>r.map f) q=(gP aD q).map f:=ig rfl λq a=>by
 show (_++gT _ q)=(_++gP aD q).map f;rw[aU,a,ar,aI,ar];cases aD[q]?<;>rfl
def Mr:∀{q:Nat},y∈gP aD q->∃r∈aD,y∈r:=@Aw _ (λh=>nomatch h) λq a h=>by
 rcases ao.mp h with h|h
 .rw [ar]at h;cases e:aD[q]? with
  |none=>rw[e]at h;cases h
  |some r=>rw[e]at h;exact⟨r,bX e,h⟩
 .exact a h
def Vj(h:∀r∈aD,r.length<=20):∀q,(gP aD q).length<=q*20:=ig (ah _) λq a=>by
 show (aD.getD q []++gP aD q).length<=_;have:(aD.getD q []).length<=20:=by
  rw[ar];cases e:aD[q]? with
  |none=>exact bG _
  |some r=>exact h r (bX e)
 rw[aw];exact(dO 0x2600141f104014290d200141f1d) (a) this
def E4{fl:List Pr}(a:fl[i]?=ab y)(d:y.1=ui)(b:∀j,j<i->(fl.getD j (0,0)).1≠ui):fl.find? (·.1==ui)=ab y:=by
 induction fl generalizing i with
 |nil=>simp at a
 |cons x fl e=>
  cases i with
  |zero=>simp at a;subst a;rw[dQ,d];simp
  |succ i=>
   have:(x.1==ui)=false:=beq_eq_false_iff_ne.mpr (b 0 (lR _));rw[dQ,this];exact e (by simpa using a) λj c=>b (j+1) (yX c)
def Ky{fl:List Pr}(f:Pr->bT)(a:fl[i]?=ab y):(fl.take i).map f++[f y]=(fl.take (i+1)).map f:=by
 rw[d7,a,aU];rfl
def IB{U:S2}:∀{pm:Q1} {k:Nat},(∀u∈pm,U u=U ui->u=ui)->((pm.zipIdx k).map λy=>(Ss (U y.1),T.str (Ss (jv y.2)))).lookup (Ss (U ui))=if ui∈pm then ab (.str (Ss (jv (k+pm.idxOf ui))))else aC:=@gx _ _ (fun {k} x=>rfl) λu pm b {k} h=>by
 rw[xy,bN,lookup_cons];by_cases q:u=ui
 .subst q;rw[if_pos rfl,if_pos (.head _),List.idxOf_cons_self];rfl
 .rw [if_neg λz=>q (h u (.head _) (lL.mp z).symm),b λv c=>h v (.tail _ c),show qJ ui (u::pm)=qJ ui pm+1 by rw[nj,beq_eq_false_iff_ne.mpr q];rfl];by_cases a:ui∈pm
  .rw [if_pos a,if_pos (.tail _ a),show k+1+qJ ui pm=k+(qJ ui pm+1) by exact bW 0x160410642]
  .rw [if_neg a,if_neg λz=>(aX.mp z).elim (λz=>q z.symm) a]
def Tw(h:∀u∈pm,U u≠U ui):dz (Ss (U ui)) (.str (Ss (jv pm.length))) (yE U pm)=yE U (pm++[ui]):=by
 rw[A9]
 .show (yE U pm)++_=AD _ ((pm++[ui]).zipIdx);rw[JO,aU];simp
 .rw [NQ];intro y a;refine cY (bp.mp a) λz b c=>?_;subst c;simpa using λq=>h z.1 (List.fst_mem_of_mem_zipIdx b) (lL.mp q)
def Il{fl:List Pr}(h:∀j,j<fl.length->(fl.getD j (0,0)).1≠ui):fl.find? (·.1==ui)=aC:=by
 refine oj.mpr λy a=>?_;refine iA (jA.mp a) λj e=>?_;have:=h j (bz.mp e).1;rw[ar,e]at this;simpa using this
def Nu(w):eW (jw w) (.ref 150) "__getattribute__" = ab (ab (.builtin "object.__getattribute__")):=by kernel_rfl
def SQ(w):eW (jw w) (.ref 150) "__getattr__" = ab aC:=by kernel_rfl
def SN(w):(RP (jw w) 150).any (·.hasDict)=true:=by kernel_rfl
def m7{C:fv B}(a:dg w B)(b:Ev C w A ax (.Name n np) (bP 150 dx))(c:vn C w dx ats)(d:autoParam (ab t=ats.lookup name) ou)(e:autoParam (ab aC=eW (jw w) (.ref 150) name) wU)(f:autoParam (true=t.Rj) ou):Ev C w A ax (.Attribute (.Name n np) name pos) t:=mZ a b c d (SN w) e (Nu w) f
def P4{C:fv B}(a:dg w B)(b:vn C w dx ats)(c:autoParam (ats.lookup name=aC) ou)(d:autoParam (eW (jw w) (.ref 150) name=ab (ab (.ref f))) wU)(e:autoParam (VW (jw w) (.ref f)=ab (.type "function")) wU):mD C w A (bP 150 dx) name (.ref f) true:=k8 a b c.symm d.symm e.symm (Nu w) (SQ w)
structure SO(ats:M2)(pmA dn:bu):Prop where
 it:ats.lookup ("_iter_namespaces" : bT)=aC
 ds:ats.lookup ("_declared_ns_stack" : bT)=ab (gL dn)
 pm:ats.lookup ("_prefix_map" : bT)=ab (gL pmA)
 rw:ats.lookup ("_rewrite_prefixes" : bT)=ab (.bool true)
abbrev qnA(dx:bu)(u tg:Q1):M2:=[("self",bP 150 dx),("qname",.str (Ss (pv u tg))),("uri",.str (Ss u)),("tag",.str (Ss tg))]
def SE{p1:D7}{p2:D7}(c:Ev C w A ax (.Name x p1) (.str (Ss (jv q))))(d:Ev C w A ax (.Name y p2) (.str (Ss tg)))(b:tg.length=1) :
 Ev C w A ax (.JoinedStr [.FormattedValue (.Name x p1) (-1) aC f,.Constant (.str ":") k g,.FormattedValue (.Name y p2) (-1) aC h] i) (.str (Ss (jv q++58::tg))):=by
 have a:=(nY q).1;have e:jv q++58::tg=(([]++jv q)++[58])++tg:=by simp
 rw[e];exact vD (oC (BK c (HZ a)) (by rw[aJ];simp;exact(bO 0x10000007900330d) a) (oC (bJ #v[]) (by rw[aJ];simp;exact(bO 0xffffff6900330d) a) (oC (BK d (by rw[aJ];exact(bO 0x10000007900130f) b)) (by rw[aJ];simp;exact(bW 0x10000007910640330d131f) b a) (Eo (by rw[aJ];simp;exact(bW 0x10000007916040330d131f) b a)))))
abbrev qnB(dx sa:bu)(u tg:Q1):M2:=[("self",bP 150 dx),("qname",.str (Ss (pv u tg))),("uri",.str (Ss u)),("tag",.str (Ss tg)),("prefixes_seen",gL sa)]
def WV{K:Tk}(L)(e:Wg (St.pre B w X loc K) w A X.ax b L)(f:∀a,(L a).tk=[a])
 (g:KO X x) (i:cD false=cf b (ab (.Name x c)) pos.line X.ax)
 (k:∀a,X.s0.heap.objs.size<=a->Ho B w X A Q (dz x (.val (.ref a)) loc) (K.bI (L a)) bj):Ho B w X A Q loc K (.Assign [.Name x c] b pos::bj):=
 ⟨λz z j d=>E1 j d e f g i λa F s l d h=>(k a l).run F s h d⟩
def Yz{K:Tk}(f:bU K K' (Tk.gA w a kvs) (Tk.gA w a (dz x t kvs)))(e:kvs.length<=1000)(g:Ev (St.pre B w X loc K) w A X.ax b t)
 (j:KO X y) (l:Ev (St.pre B w X (dz y t loc) K) w A X.ax o (.val (.ref a))) (m:Ev (St.pre B w X (dz y t loc) K) w A X.ax i (.str x))
 (n:cD aC=nI [.Name y px,.Subscript o i c] b X.ax) (k:Ho B w X A Q (dz y t loc) K' bj):Ho B w X A Q loc K (.Assign [.Name y px,.Subscript o i c] b pos::bj):=⟨λz z p d=>Bw p d f e g j l m n λF s d h=>k.run F s h d⟩
def xZ(o:dg w B)(X:Rm (n+4) A)(p:SO ats c dn)(ok:Xr U aD pm)(Y:c≠1)(Z:ui<=8)(hq:(U ui,tg)∈JD) :
 nC B w (Tk.qn U w dx c dn ats as pm aD) A (.ref 90) [bP 150 dx,.str (Ss (pv (U ui) tg))] [] []
  (λK' t=>K'=Tk.qn U w dx c dn ats as (sm aD pm ui) (jF aD pm ui)/\t=.qb [.str (Ss (jv (Oa aD pm ui)++58::tg)),.str (Ss tg),.str (Ss (U ui))]):=by
 refine⟨λF s vs us bs hI hap hv V Q E hQ=>?_⟩;refine hv.e2 λv1 v2 r1 r2=>V.e0 ?_;have D:=qok hq;refine AY (K:=Tk.qn U w dx c dn ats as pm aD) [("self",bP 150 dx),("qname",.str (Ss (pv (U ui) tg))),("uri",.none)] [v1,v2,.none] (Tk.qn U w dx c dn ats as pm aD).tk [] o bs X rfl #v[] (lN (dY o bs) #v[]) rfl rfl (.cons r1 (.cons r2 (.cons .none .nil))) hI hap λL s1 hL C=>n6 C (jb rfl) <|mU (aN aF fQ Io) (λ_=>?_) (λh=>absurd h #v[_]);refine uE (t:=.list [.str (Ss (U ui)),.str (Ss tg)]) ?_ (KD #v[X.1] (ET (.inl rfl) (.inl rfl))) rfl rfl ?_
 .rw [show (T.list [.str (Ss (U ui)),.str (Ss tg)])=(if true=true then T.list ([Ss (U ui),Ss tg].map T.str)else T.qb [.str (Ss []),.str (Ss (pv (U ui) tg))]) from rfl];refine ja (aN (bf aF (iJ ct (g9 bA) ct) (mj (by rw[cX,aJ];have:=D.lu;have:=D.lt;simp[pv];exact(bW 0xffffff6916040131f430d) (by assumption) this))) (bJ (l:=[123]) #v[]) ?_) (λ_=>?_) (λh=>absurd h #v[_])
  .rw [D.sl];exact nv
  .refine cF (bf aF (iJ (g9 (bA (i:=1))) ct ct) (pb (k:=1) (by simp[pv]) (by have:=D.lu;have:=D.lt;simp[pv];exact(bW 0x3e73916040131f430d) (by assumption) this))) Nn (kj (aq (bJ (l:=[125]) #v[]) (aq bA aK))) bK.bi ?_ rfl;rw[<-D.rs];exact IW #v[_] #v[_] (by rw[cX,aJ];have:=D.lu;have:=D.lt;simp[pv];exact(bW 0xfffffe6916040131f430d) (by assumption) this)
 refine ii (qnA dx (U ui) tg) rfl <|WV (λa=>Tk.set w a []) (Mi (jo o) rfl) (λ_=>rfl) (.inl rfl) rfl λsa hsa=>⟨λF3 s3 C P=>?_⟩;have hfl:gT (jp U aD) (jp U aD).length=(gP aD aD.length).map (oz U):=by rw[af];exact Tn _ _ _
 generalize J:gP aD aD.length=fl at *;refine H8 (ts:=fl.map (oz U)) (ex:=dn::as) (f:=λi l=>dz "prefix" (.str (Ss (jv (fl.getD i (0,0)).2))) (dz "u" (.str (Ss (U (fl.getD i (0,0)).1))) l))
  (λi loc K=>K=(Tk.qn U w dx c dn ats as pm aD).bI (Tk.set w sa ((fl.take i).map λy=>Ss (jv y.2)))/\loc=qnB dx sa (U ui) tg/\∀j,j<i->(fl.getD j (0,0)).1≠ui) o (X.deeper.le #v[bO 0x3304130]) (λb hb=>?_) (λQ E k=>?_) (λi loc' K' h=>?_) (λi t e=>?_) ⟨rfl,rfl,λ_ h=>nomatch h⟩ ?_ ?_
 .exact ac _ (ag _ hb)
 .refine VN o (X.deeper.le #v[bO 0x3304130]) C (λF s h=>h.1.2.1) (λb hb=>ac _ (ag _ hb)) (λts hts=>?_) aF (P4 o zt p.it)
   (kj (aq (m7 o aF zt p.ds.symm) aK)) (bK.fn o #v[]) (λa g fp vals F1 s1 h1 h2 h3 h4=>k a g fp vals F1 s1 (hfl▸h1) h2 h3 h4) rfl
  refine cY (bp.mp hts) λr hr hq=>?_;subst hq;rw[af];exact aA (ok.SG r hr).1 #v[_]
 .refine dS h λhq _=>?_;subst hq;exact⟨rfl,rfl⟩
 .have e2:t=oz U (fl.getD i (0,0)):=rI e _;subst e2;exact nX #v[X.1] (ET (.inl rfl) (.inl rfl))
 .rintro L1 i loc K F5 s5 hL hi ⟨rfl,rfl,W⟩ C;rw[af]at hi;have ei:fl[i]?=ab (fl.getD i (0,0)):=gS hi _;have m:fl.length<=400:=by
   have h1:=Vj (λr hr=>(ok.SG r hr).1) aD.length;rw[J]at h1;exact(bW 0x190390014291d100141f0d) h1 ok.lr
  generalize hy:fl.getD i (0,0)=y at *;refine cY (Mr (J▸(bX ei))) λr0 hr0 hyr=>?_;generalize hxs:(fl.take i).map (λy=>Ss (jv y.2))=xs at *;have hsaL:∀a∈(Tk.set w sa xs).tk,a∉L1.tk:=λa d q=>by
   cases aB.mp d;rcases hL sa q with h | ⟨h,_⟩
   .exact C.cV.1.2.2 sa (ag _ h) (.head _)
   .exact h (ag _ (.head _))
  have foc:bU (((Tk.qn U w dx c dn ats as pm aD).bI (Tk.set w sa xs)).and L1) (((Tk.qn U w dx c dn ats as pm aD).bI (Tk.set w sa (xs++[Ss (jv y.2)]))).and L1) (Tk.set w sa xs) (Tk.set w sa (xs++[Ss (jv y.2)])):=bU.qaS (bU.right (bU.here rfl)) hsaL;have ho':∀X':Fx,X'.s0=s->X'.md=(Tk.qn U w dx c dn ats as pm aD).tk->gM X' (((Tk.qn U w dx c dn ats as pm aD).bI (Tk.set w sa xs)).and L1):=λX' e1 e2 a d=>by
   rcases ao.mp d with d|d
   .exact e1▸e2▸P a d
   .rcases hL a d with h|h
    .exact .inr (e2▸ag _ h)
    .exact .inl (e1▸h.2)
  refine n6 C (ho' _ rfl rfl) <|mU (dN (dR (aN aF aF nv) λ_=>dR (aN aF aF (Bz foc)) λ_=>rS)) (λh=>?_) (λh=>?_)
  .simp only[bc,decide_eq_true_eq]at h;have R:(gP aD aD.length).find? (·.1==ui)=ab y:=J▸E4 ei (ok.inj _ _ ((ok.SG r0 hr0).2 y hyr).1 Z (lL.mp h.1)) W;have e1:Oa aD pm ui=y.2:=by delta Oa;rw[R]
   have e2:jF aD pm ui=aD:=by delta jF;rw[R]
   have e3:sm aD pm ui=pm:=by delta sm;rw[R]
   have hb:(!decide (Ss (jv y.2)=jx))=true:=by rw[decide_eq_false (λq=>(nY y.2).2 (rE.mp q))];rfl
   refine i9 (t:=.qb [.str (Ss (jv y.2++58::tg)),.str (Ss tg),.str (Ss (U ui))]) (eC (aq ?_ (aq aF (aq aF aK))) (by show 3<=be;decide)) λv F' s' h' r=>?_
   .rw [show T.str (Ss (jv y.2++58::tg))=(if true=true then T.str (Ss (jv y.2++58::tg))else T.str (Ss tg)) from rfl];refine ja (hb▸eP aF (yJ (by rw[cX,aJ];have:=(nY y.2).1;exact(bO 0x10000007900330d) this))) (λ_=>SE aF aF D.lt) (λh=>absurd h #v[_])
   .exact hQ v _ (Tk.qn U w dx c dn ats as pm aD) F' s' ⟨by rw[e2,e3],by rw[e1]⟩ h'.d6 h'.cV.1.1 (λa d=>⟨(h'.apart a (ac _ (ac _ d))).1,(h'.apart a (ac _ (ac _ d))).2.1,.inl d⟩) r
  .have hyu:y.1≠ui:=λq=>by
    rw[q,decide_eq_true rfl,pB,mR,Bool.not_eq_false',decide_eq_true_eq,<-hxs]at h;refine cY (bp.mp h) λz hz e=>iA (jA.mp hz) λj e3=>?_;have hji:j<i:=aT (bz.mp e3).1 (by rw[dU];exact zN _ _);rw[List.getElem?_take_of_lt hji]at e3;refine cY (Mr (J▸bX e3)) λr1 hr1 hz1=>W j hji ?_;rw[ar,e3];exact(ok.Fc r1 hr1 r0 hr0 z hz1 y hyr (OY (lL.mp e))).trans q
   refine rj (λP=>cP P aF (Xx foc) (kj (aq aF aK)) bK.bi (T7 foc (by rw[<-hxs,af,dU];exact(bW 0x3e8392310d40190391d10e) hi m)) rfl) rfl rfl (wq λF7 s7 C P=>?_);refine⟨_,_,F7,⟨?_,rfl,λj hj'=>?_⟩,C.uy (yw rfl)⟩
   .rw [<-hxs,Ky _ ei]
   .rcases cU (gb hj')with q|q
    .exact W j q
    .rw [q,hy];exact hyu
 .rintro loc K F5 s5 ⟨rfl,rfl,W⟩ C;rw[af]at W C;have R:(gP aD aD.length).find? (·.1==ui)=aC:=by rw[J];exact Il W
  have e1:Oa aD pm ui=pm.idxOf ui:=by delta Oa;rw[R]
  have e2:jF aD pm ui=aD.set (aD.length-1) (aD.getD (aD.length-1) []++[(ui,pm.idxOf ui)]):=by delta jF;rw[R]
  have e3:sm aD pm ui=if ui∈pm then pm else pm++[ui]:=by delta sm;rw[R]
  rw[e1,e2,e3]at hQ;generalize (fl.take fl.length).map (λy=>Ss (jv y.2))=xs at *;have hpl:(yE U pm).length=pm.length:=by simp
  have S:(yE U pm).lookup (Ss (U ui))=if ui∈pm then ab (.str (Ss (jv (pm.idxOf ui))))else aC:=by
   have:=IB (U:=U) (ui:=ui) (pm:=pm) (k:=0) λu V e=>ok.inj u ui (ok.pm8 u V) Z e;rwa[fe]at this
  refine oa (n6 C P (mU (eP (m7 o aF zt p.rw.symm) lb) (λ_=>?_) (λh=>absurd h #v[_])))
  refine' X1 (λN q=>pm.idxOf ui=q/\(if ui∈pm then pm else pm++[ui])=N) (λ_ q=>dz "prefix" (.str (Ss (jv q))) (qnB dx sa (U ui) tg)) (λN _=>(Tk.qn U w dx c dn ats as N aD).bI (Tk.set w sa xs)) (λtail=>mU (aN aF (m7 o aF zt p.pm.symm) (Jf Y (bU.left (bU.left (bU.right (bU.here (L':=Tk.gA w c (yE U pm)) rfl)))))) (λh=>?_) (λh=>?_)) λN q h=>?_
  rotate_left
  .have G:ui∈pm:=by
    rw[S]at h;by_cases q:ui∈pm
    .exact q
    .rw [if_neg q]at h;exact absurd h #v[_]
   rw[if_pos G]at S;exact cy (t:=.str (Ss (jv (pm.idxOf ui)))) (bf (m7 o aF zt p.pm.symm) aF (Pn (bU.left (bU.left (bU.right (bU.here (L':=Tk.gA w c (yE U pm)) rfl)))) S)) (.inl rfl) rfl (tail _ _ ⟨rfl,if_pos G⟩)
  .have G:ui∉pm:=λq=>by rw[S,if_pos q]at h;cases h
   have O:pm.idxOf ui=pm.length:=HU G;have I:=ok.pl;have hpf:jv pm.length=[110,48+pm.length]:=by delta jv;rw[if_neg #v[(dO 0xa3026830d02f21f) e1 O I]]
   refine Yz (kvs:=yE U pm) (x:=Ss (U ui)) (t:=.str (Ss (jv pm.length))) (bU.left (bU.left (bU.right (bU.here (L':=Tk.gA w c (dz (Ss (U ui)) (.str (Ss (jv pm.length))) (yE U pm))) rfl)))) #v[(lM Sz2) e1 hpl O I] ?_ (.inl rfl) (m7 o aF zt p.pm.symm) aF rfl ?_
   .rw [hpf,show [110,48+pm.length]=([]++[110])++[48+pm.length] from rfl];refine vD (oC (bJ #v[]) #v[_] (oC (QG (dD o (m7 o aF zt p.pm.symm) bK.bi (by rw[<-hpl];exact Fg Y (bU.left (bU.left (bU.right (bU.here (L':=Tk.gA w c (yE U pm)) rfl)))) #v[(lM Sz2) e1 hpl O I])) #v[(dO 0xa301830d02f21f) e1 O I]) (by simp;decide) (Eo (by simp;decide))))
   rw[Tw λu V e=>G (ok.inj u ui (ok.pm8 u V) Z e▸V)];exact tail _ _ ⟨O,if_neg G⟩
  rw[h.1,h.2]at hQ;refine Hr (λF s h=>h.1.2.1.2.1.1) λm=>?_;rw[af]at m;have H:=ok.ne;have d:as[aD.length-1]?=ab (as[aD.length-1]' #v[(bW Sw6) m H]):=ay #v[(bW Sw6) m H];have hr:(jp U aD)[aD.length-1]?=ab ((aD.getD (aD.length-1) []).map (oz U)):=by rw[aI,ar,ay #v[(bO 0x13051003e) H]];rfl
  generalize (as[aD.length-1]' #v[(bW Sw6) m H])=la at d;have hlast:(as.map gL)[(as.map gL).length-1]?=ab (gL la):=by rw[af,aI,m,d];rfl
  have hrl:(aD.getD (aD.length-1) []).length<=20:=by
   rw[gD #v[(bO 0x13051003e) H]];exact(ok.SG _ (bV _)).1
  have frow:=bU.left (M:=Tk.set w sa xs) (bU.right (M:=(Tk.gA w dx ats).bI (Tk.gA w c (yE U N))) (bU.right (M:=Tk.cu w dn (as.map gL)) (bU.row (w:=w) (ts':=(aD.getD (aD.length-1) []).map (oz U)++[oz U (ui,q)]) d hr)));refine rj (λP=>cP P (bf (m7 o aF zt p.ds.symm) (td bA) (wl (k:=1) (bU.left (bU.right (bU.left (bU.here rfl)))) #v[_] (by rw[af];exact(bW 0x130103e10f) m H) #v[_] hlast)) (iH frow)
   (kj (aq (eC (aq aF (aq aF aK)) (by show 2<=be;decide)) aK)) bK.bi (gl frow (Kk hrl)) rfl) rfl rfl ?_
  have es:(jp U aD).set (aD.length-1) ((aD.getD (aD.length-1) []).map (oz U)++[oz U (ui,q)])=jp U (aD.set (aD.length-1) (aD.getD (aD.length-1) []++[(ui,q)])):=by
   rw[show (aD.getD (aD.length-1) []).map (oz U)++[oz U (ui,q)]=(aD.getD (aD.length-1) []++[(ui,q)]).map (oz U) by rw[aU];rfl];exact(D9 ..).symm
  rw[es];exact i9 (eC (aq (SE aF aF D.lt) (aq aF (aq aF aK))) (by show 3<=be;decide)) λv F' s' h' r=>hQ v _ _ F' s' ⟨rfl,rfl⟩ h'.d6 h'.cV.1 (λa d=>⟨(h'.apart a (ac _ d)).1,(h'.apart a (ac _ d)).2.1,.inl d⟩) r
end Mine
namespace Mine
open PySem PySem.W PySem.Spec PySem.Calls PyProof.Rows
noncomputable def rW{a:Type}(r:Nat->Nat)(t:Za a):a:=t.rec id λi j z b=>b (decide (r i<r j))
def uf{a:Type}{k:Bool->Za a}:rW r (.ask i j k)=rW r (k (decide (r i<r j))):=rfl
def qO{a:Type}{b:Type}(r)(f:a->Za b)(t:Za a):rW r (t.bind f)=rW r (f (rW r t)):=t.rec (λz=>rfl) λi j z c=>c (decide (r i<r j))
noncomputable abbrev rk(r:Nat->Nat)(p:Array Nat)(i:Nat):Nat:=r (p.getD i 0)
def JE(r:Nat->Nat)(p:Array Nat)(m:Nat):Prop:=∀i j,i<j->j<m->rk r p i<rk r p j
def Wb(r:Nat->Nat)(p:Array Nat)(m:Nat):Prop:=∀i j,i<j->j<m->rk r p j<rk r p i
def Qa(r:Nat->Nat)(p:Array Nat):Prop:=(p.toList.map r).Nodup
def EV(h:Qa r p)(hi:i<p.size)(c:j<p.size)(d:i≠j):rk r p i≠rk r p j:=λe=>by
 have a:i<(p.toList.map r).length:=by simpa using hi
 have b:j<(p.toList.map r).length:=by simpa using c
 have f:(p.toList.map r)[i]=(p.toList.map r)[j]:=by simpa[rk,Zb,hi,c] using e
 rcases NM d with q|q
 .exact dh.mp h i j a b q f
 .exact dh.mp h j i b a q f.symm
def ya(h:Qa r p)(a:q.Perm p):Qa r q:=((zU.mp a).map r).nodup_iff.mpr h
def xk(h:q[i]?=p[j]?):rk r q i=rk r p j:=by
 delta rk;rw[eG,eG,h]
def Mq(h:JE r p m)(b:m=0\/rk r p (m-1)<rk r p m):JE r p (m+1):=λi j a c=>by
 rcases cU (gb c)with q|q
 .exact h i j a q
 .subst q;rcases b with rfl|b
  .exact(dO 0x101032e) a
  .rcases cU (Jx a)with z|z
   .exact fO (h i (j-1) z #v[(bW 0x1305101e) a]) b
   .rw [z];exact b
def Do(h:Wb r p m)(b:m=0\/rk r p m<rk r p (m-1)):Wb r p (m+1):=λi j a c=>by
 rcases cU (gb c)with q|q
 .exact h i j a q
 .subst q;rcases b with rfl|b
  .exact(dO 0x101032e) a
  .rcases cU (Jx a)with z|z
   .exact fO b (h i (j-1) z #v[(bW 0x1305101e) a])
   .rw [z];exact b
def Lh(l:Qa r p):∀f n,1<=n->n+f<=p.size->JE r p n->n<=rW r (pj p f n)/\rW r (pj p f n)<=n+f/\JE r p (rW r (pj p f n))/\(rW r (pj p f n)=n+f\/rk r p (rW r (pj p f n))<rk r p (rW r (pj p f n)-1)):=ig (λn z z h=>⟨ah _,ah _,h,.inl rfl⟩) λf m n g k h=>by
 have e:pj p (f+1) n=.ask (p.getD n 0) (p.getD (n-1) 0) λc=>if c=true then .ret n else pj p f (n+1):=rfl
 rw[e,uf];by_cases c:r (p.getD n 0)<r (p.getD (n-1) 0)
 .rw [decide_eq_true c];exact⟨ah _,fK _ _,h,.inr c⟩
 .rw [decide_eq_false c];have o:rk r p (n-1)<rk r p n:=by delta rk at *;exact(bW 0x10101ac0116c) c (EV l (i:=n) (j:=n-1) #v[(dO 0x10112604d) k] #v[(dO 0x11305112604d013d) g k] #v[(bO 0x13050a013d) g])
  refine sE (m (n+1) #v[(bO 0x6130013d) g] #v[(dO Sv1) k] (Mq h (.inr o))) λa b d e=>⟨gc a,aA b #v[bW 0x160410640],d,e.imp (λq=>?_) id⟩;show rW r (pj p f (n+1))=_;exact(dO 0x26140221640f) q
def Rf(l:Qa r p):∀f n,1<=n->n+f<=p.size->Wb r p n->∃m,rW r (zV f p n 0)=(p,m,0)/\n<=m/\m<=n+f/\Wb r p m:=ig (λn z z h=>⟨n,rfl,ah _,ah _,h⟩) λf o n g k h=>by
 have ne:=EV l (i:=n) (j:=n-1) #v[(dO 0x10112604d) k] #v[(dO 0x11305112604d013d) g k] #v[(bO 0x13050a013d) g];have e:zV (f+1) p n 0=.ask (p.getD n 0) (p.getD (n-1) 0) λc=>if c=true then zV f p (n+1) 0
  else .ask (p.getD (n-1) 0) (p.getD n 0) λd=>if d=true then .ret (p,n,0)else zV f p (n+1) 1:=rfl
 rw[e,uf];by_cases c:r (p.getD n 0)<r (p.getD (n-1) 0)
 .rw [decide_eq_true c];refine Hl (o (n+1) #v[(bO 0x6130013d) g] #v[(dO Sv1) k] (Do h (.inr c))) λm a b d e=>⟨m,a,#v[(bW Su3) b],#v[(dO 0x26140021640d) d],e⟩
 .have q:r (p.getD (n-1) 0)<r (p.getD n 0):=by unfold rk at ne;exact(bW 0x1010116c01ac) ne c
  rw[decide_eq_false c];show ∃m,rW r (.ask (p.getD (n-1) 0) (p.getD n 0) λd=>if d=true then .ret (p,n,0)else zV f p (n+1) 1)=_/\_;rw[uf,decide_eq_true q];exact⟨n,rfl,ah _,#v[bW 0x160400],h⟩
def Pb(c:m<=p.size)(h:Wb r p m):JE r (Ed p 0 m) m:=λi j a b=>by
 have e:∀k,k<m->rk r (Ed p 0 m) k=rk r p (m-1-k):=λk d=>by
  have:=getElem?_mirror_all (xs:=p) (i:=0) (j:=m) c k;rw[if_pos ⟨bG _,d⟩,fe]at this;exact xk this
 rw[e i #v[(dO 0x10112e20e) a b],e j b];exact h _ _ #v[(dO 0x213055113055101e12e) a b] #v[(dO 0x113055102e21e) a b]
def MQ(s:Qa r p)(o:p.size=n)(c:2<=n):∃m q,rW r (Zc n p)=(m,q)/\1<=m/\m<=n/\q.Perm p/\JE r q m:=by
 delta Zc;rw[qO];refine sE (Lh s (n-1) 1 (ah _) #v[(bW 0x113051340023d01f) o c] (λi j f c=>by exact(lM 0x1011338e382e) f c)) λa b d g=>?_;generalize rW r (pj p (n-1) 1)=m at a b d g;by_cases h:m=n
 .rw [if_pos (beq_iff_eq.mpr h)];exact⟨m,p,rfl,a,#v[(bW 0x10010f) h],.refl _,d⟩
 .rw [if_neg (by simpa using h)];by_cases f:m > 1
  .rw [if_pos f];rw[uf,decide_eq_true (show r (p.getD 0 0)<r (p.getD (m-1) 0) from d 0 (m-1) #v[(bO 0x1305031013e) f] #v[(bO 0x13051013e) f])];exact⟨m,p,rfl,a,#v[(lM 0x1001026c38211315134028c13151340d123d) c b g h],.refl _,d⟩
  .rw [if_neg f];have v:m=1:=#v[(bO 0x130201316c013d) a f];subst v;delta kas_descPart;rw[qO];have w:Wb r p 1:=λi j f c=>by exact(lM 0x1011338e382e) f c
   have A:rk r p 1<rk r p 0:=g.elim (λq=>by exact(lM 0x101132513413f21326c380113251341328c223d) c g h q) id;refine Hl (Rf s (n-2) 2 #v[_] #v[(bW 0x123052340023d01f) o c] (Do w (.inr A))) λk e B t C=>?_;rw[show n-(1+1)=n-2 from rfl,show (1+1:Nat)=2 from rfl,e];dsimp only;rw[if_neg (cp 0)];delta kas_tail3;rw[qO];have u:(Ed p 0 k).Perm p:=vV _ _ _ _;have l:(Ed p 0 k).size=n:=(u.size_eq).trans o;refine sE (Lh (ya s u) (n-k) k #v[(bO 0x130023d) B] #v[(dO 0x201504012f23152340d123d) c t l] (Pb #v[(lM 0x100238f23252340d223d21f) o c t l] C)) λx y z D=>⟨_,_,rfl,#v[(bW 0x13001d123d) B x],#v[(Sz 0x1005848121524028c215240d138f23152342d123d) c t l y (by assumption)],u,z⟩
def LC(w:Qa r p)(s:k<p.size)(h:JE r p k):∀f l u,l<=u->u<=k->u-l<=f->(∀i,i<l->rk r p i<rk r p k)->(∀i,u<=i->i<k->rk r p k<rk r p i)->
 rW r (l8 p k f l u)<=k/\(∀i,i<rW r (l8 p k f l u)->rk r p i<rk r p k)/\∀i,rW r (l8 p k f l u)<=i->i<k->rk r p k<rk r p i:=ig (λl u n b d e g=>by
 have:l=u:=#v[(bW 0x10203015d10d) n d];subst this;exact⟨b,e,g⟩) λf t l u n b d e g=>by
 rw[(show l8 p k (f+1) l u=if l>=u then .ret l else .ask (p.getD k 0) (p.getD ((l+u) / 2) 0) λc=>if c=true then l8 p k f l ((l+u) / 2)else l8 p k f ((l+u) / 2+1) u from rfl)];by_cases q:l>=u
 .rw [if_pos q];have:l=u:=#v[(bW 0x10201d10d) n q];subst this;exact⟨b,e,g⟩
 .rw [if_neg q,uf];have a:l<=(l+u) / 2/\(l+u) / 2<u:=⟨(Nat.le_div_iff_mul_le qau).mpr ((bW 0x104020f00106c) q),(Nat.div_lt_iff_lt_mul qau).mpr ((bW 0x120f10410106c) q)⟩;generalize (l+u) / 2=m at a;have ne:=EV w (i:=k) (j:=m) s #v[(xF 0x101380104807c238d12e) s b a] #v[(lM 0x10a21113807c02d) b a];by_cases c:r (p.getD k 0)<r (p.getD m 0)
  .rw [decide_eq_true c];refine t l m #v[(dO 0x1002111007c) a] #v[(lM 0x10020103807c12d) b a] #v[(Sz 0x210505848ac38010107c13806c261385d) d q a ne] e λi hi v=>?_;rcases cU hi with z|z
   .exact fO c (h _ _ z v)
   .rw [<-z];exact c
  .rw [decide_eq_false c];have o:rk r p m<rk r p k:=by delta rk at *;exact(bW 0x1010116c01ac) ne c
   refine t (m+1) u #v[(dO 0x10601010207c) a] b #v[(Sz 0x2160504858e5848ac01113807c38006c263805d) d q a ne o] (λi hi=>?_) g;rcases cU (gb hi)with z|z
   .exact fO (h _ _ z #v[(lM 0x10120103807c12d) b a]) o
   .rw [z];exact o
def O3(o:k<p.size)(h:JE r p k)(l:x<=k)(q:∀i,i<x->rk r p i<rk r p k)(s:∀i,x<=i->i<k->rk r p k<rk r p i):JE r (bubble p k (k-x)) (k+1):=by
 have e:∀i,rk r (bubble p k (k-x)) i=if i=x then rk r p k else if x<i/\i<=k then rk r p (i-1)else rk r p i:=λi=>by
  have:=getElem?_bubble o (k-x) (qcX _ _) i;rw[show k-(k-x)=x by exact(bW 0x110505201d) l]at this;by_cases m:i=x
  .rw [if_pos m]at this ⊢;exact xk this
  .rw [if_neg m]at this ⊢;by_cases n:x<i/\i<=k
   .rw [if_pos n]at this ⊢;exact xk this
   .rw [if_neg n]at this ⊢;exact xk this
 intro i j a b;rw[e i,e j];by_cases c:i=x
 .rw [if_pos c,if_neg #v[(dO 0x102612f02e) a c],if_pos #v[(lM 0x2101017038f261e138e) a b c]];exact s _ #v[(dO 0x13150002f12e) a c] #v[(dO Sw5) a b]
 .rw [if_neg c];by_cases d:x<i/\i<=k
  .rw [if_pos d,if_neg #v[(lM 0x102638202117c02e) a d],if_pos #v[(lM 0x2101017238038017c261e138e) a b d]];exact h _ _ #v[(lM 0x13151305138000217c10e) a d] #v[(dO Sw5) a b]
  .rw [if_neg d];by_cases f:j=x
   .rw [if_pos f];exact q _ #v[(dO 0x10112f20e) a f]
   .rw [if_neg f];by_cases g:x<j/\j<=k
    .rw [if_pos g];rcases cU (show i<=j-1 by exact(bW 0x13150010e) a)with z|z
     .exact h _ _ z #v[(dO Sw5) a b]
     .exact(Sz 0x101133852f48380385817c583826c4820258176c58226c48638e382e) a b c d f g z
    .rw [if_neg g];exact h _ _ a #v[(dO 0x10110002176c2026c160e12d) l b f g]
def Ti:∀f p k,p.size=k+f->Qa r p->JE r p k->(rW r (NR f p k)).Perm p/\JE r (rW r (NR f p k)) (k+f):=ig (λp k z z h=>⟨.refl _,h⟩) λf n p k c d h=>by
 rw[(show NR (f+1) p k=(l8 p k k 0 k).bind λl=>NR f (bubble p k (k-l)) (k+1) from rfl),qO];refine ka (LC d #v[(dO 0x10126041f) c] h k 0 k (bG _) (ah _) (ah _) (λi hi=>by exact(dO 0x101032e) hi) (λi o q=>by exact(lM 0x101238e382d) o q)) λe g j=>?_;generalize rW r (l8 p k k 0 k)=x at e g j;have m:=bubble_perm p k (k-x);refine dS (n (bubble p k (k-x)) (k+1) (by rw[bubble_size];exact(dO 0x21640226140f) c) (ya d m) (O3 #v[(dO 0x10126041f) c] h e g j)) λa b=>⟨a.trans m,by rw[show k+(f+1)=k+1+f by exact bW Sv9];exact b⟩
def xn(v:2<=n)(h:((am n).map r).Nodup):(rW r (iq n)).toList.Perm (am n)/\((rW r (iq n)).toList.map r).Pairwise (· < ·):=by
 have f:(c7 (am n)).size=n:=by simp
 have o:Qa r (c7 (am n)):=h;delta iq;rw[qO];obtain⟨m,q,e,w,x,l,g⟩:=MQ o f v;rw[e];dsimp only;have c:q.size=n:=l.size_eq.trans f;have key:∀t:Array Nat,t.Perm q->JE r t n->t.toList.Perm (am n)/\(t.toList.map r).Pairwise (· < ·):=λt p g=>by
  refine⟨zU.mp (p.trans l),dh.mpr λi j hi y s=>?_⟩;have u:i<t.size:=by simpa using hi
  have k:j<t.size:=by simpa using y
  simpa[rk,Zb,u,k] using (g i j s #v[(xF 0x101480e148f138f12f) f c (p.size_eq.trans c) k])
 by_cases d:m<n
 .rw [if_pos d,show max m 1=m by exact(bO 0x130e2013d) w];refine dS (Ti (n-m) q m #v[(lM 0x125140221e20f238f) f c d] (ya o l) g) λa b=>key _ a (by rw[show m+(n-m)=n by exact(lM 0x101504210e138f12f) f c d]at b;exact b)
 .rw [if_neg d];have:m=n:=#v[(lM 0x1021016c138f10d12f) f x c d];subst this;exact key q (.refl _) g
def sk{a:Type}(n:Nat)(Pr:a->Prop)(t:Za a):Prop:=t.rec Pr λi j z c=>i<n/\j<n/\∀b,c b
def oU{c:Type}{d:Type}{Pr:c->Prop}{Pr':d->Prop}{f:c->Za d}(e:∀a,Pr a->sk n Pr' (f a)){t:Za c}(h:sk n Pr t):sk n Pr' (t.bind f):=
 t.rec (motive:=λt=>sk n Pr t->sk n Pr' (t.bind f)) e (λz z z g h=>⟨h.1,h.2.1,λb=>g b (h.2.2 b)⟩) h
def Dt{b:Type}{Pr:b->Prop}{P:aH->Prop}{Q:b->aH->Prop}
 (f:∀i j C s,i<n->j<n->P s->(∀s',P s'->C (decide (r i<r j)) s')->a i j C s) (t:Za b):∀s,sk n Pr t->P s->(∀s',P s'->Q (rW r t) s')->t.kasWp a Q s:=
 t.rec (motive:=λt=>∀s,sk n Pr t->P s->(∀s',P s'->Q (rW r t) s')->t.kasWp a Q s) (λz s z c d=>d s c) λi j z g s h c d=>f i j _ s h.1 h.2.1 c λs' e=>g (decide (r i<r j)) s' (h.2.2 _) e d
def Ce(n:Nat)(p:Array Nat):Prop:=∀k,p.getD k 0<n
def rG(h:q.Perm p)(a:Ce n p)(b:0<n):Ce n q:=λk=>by
 rw[eG];cases e:q[k]? with
 |none=>exact b
 |some x=>
  refine iA (qy.mp (h.mem_iff.mp (Ee e))) λi hi=>?_;have:=a i;rw[eG,hi]at this;exact this
def GC(h:Ce n p):∀f m,sk n (λz=>True) (pj p f m):=ig (λz=>trivial) λf a m=>⟨h _,h _,λb=>by cases b;exact a (m+1);exact trivial⟩
def Lq(c:0<n):∀f p m q,Ce n p->sk n (λr=>Ce n r.1) (zV f p m q):=ig (λz z z h=>h) λf a p m q h=>⟨h _,h _,λb=>by
 cases b
 .refine⟨h _,h _,λd=>?_⟩;cases d
  .exact a p _ _ h
  .exact h
 .show sk n _ (if q > 0 then _ else _)
  split
  .exact a _ _ _ (rG (vV _ _ _ _) h c)
  .exact a p _ _ h⟩
def Ag(b:0<n)(h:Ce n p)(m k):sk n (λr=>Ce n r.2) (kas_tail3 m k p):=by
 have a:Ce n (Ed p 0 m):=rG (vV _ _ _ _) h b;exact oU (Pr':=λr:Nat×Array Nat=>Ce n r.2) (f:=λx=>.ret (x,Ed p 0 m)) (λx z=>a) (GC a _ _)
def uF(a:0<n)(h:Ce n p)(m k):sk n (λr=>Ce n r.2) (kas_descPart m k p):=by
 refine oU (λr b=>?_) (Lq a _ p _ _ h)
 split
 .exact Ag a (rG (vV _ _ _ _) b a) _ _
 .exact Ag a b _ _
def Jh(a:0<n)(h:Ce n p)(k):sk n (λr=>Ce n r.2) (Zc k p):=by
 refine oU (λm z=>?_) (GC h _ _)
 split
 .exact h
 .split
  .refine⟨h _,h _,λb=>?_⟩;cases b
   .exact uF a (rG (vV _ _ _ _) h a) _ _
   .exact h
  .exact uF a h _ _
def Ij(h:Ce n p)(k):∀f l u,sk n (λz=>True) (l8 p k f l u):=ig (λz z=>trivial) λf a l u=>by
 unfold l8
 split
 .exact trivial
 .refine⟨h _,h _,λb=>?_⟩;cases b
  .exact a _ _
  .exact a _ _
def OV(a:0<n):∀f p k,Ce n p->sk n (Ce n) (NR f p k):=ig (λz z h=>h) λf b p k h=>oU (λz z=>b _ _ (rG (bubble_perm _ _ _) h a)) (Ij h _ _ _ _)
def DB(a:0<n):sk n (Ce n) (iq n):=by
 have h:Ce n (c7 (am n)):=λk=>by
  rw[eG];cases e:(c7 (am n))[k]? with
  |none=>exact a
  |some x=>
   simpa using (Ee e)
 refine oU (λr b=>?_) (Jh a h _)
 split
 .exact OV a _ _ _ b
 .exact b
def mo(r:Nat->Nat){a:Type}(d:a)(l:List a):List a:=(rW r (iq l.length)).toList.map λi=>l.getD i d
def M9(l:List bu)(s s':aH):Prop:=∀b o,b∉l->s.heap.get? b=ab o->s'.heap.get? b=ab o
structure EL(w:bC)(A:cO)(l:List bu)(s:aH)(κ:SortKind)(ks:List aE)(r:Nat->Nat):Prop where
 kind:∀s',M9 l s s'->∀Q:SortKind->aH->Prop,Q κ s'->aP (aO pw w) A (keyKind' (c7 ks)) Q (λ_ _=>False) s'
 lt:∀i j s',i<ks.length->j<ks.length->M9 l s s'->∀C:Bool->aH->Prop,(∀tk,s'.toks<=tk->C (decide (r i<r j)) {s' with toks:=tk})->aP (aO pw w) A (keyLt' κ (ks.getD i .none) (ks.getD j .none)) C (λ_ _=>False) s'
def PT(D:s.heap.get? a=ab (ca "list" vs.toArray n)) (k:2<=vs.length) (f:vs.length<64) (X:((am vs.length).map r).Nodup) (hA:EL w A [a] s κ vs r)
 (Y:∀h' tk c,(∀b o,b≠a->s.heap.get? b=ab o->h'.get? b=ab o)->h'.get? a=ab (ca "list" (mo r cS vs).toArray c)->s.heap.objs.size<=h'.objs.size->s.toks<=tk->P (.done (.ret .none)) {s with heap:=h',toks:=tk}) :
 aP (aO pw w) A (Builtin.«list.sort» ⟨[.ref a],[]⟩) P E s:=by
 have H:=bB s.heap a (bQ λ_=>(#[]:Array aE));obtain⟨e1,u⟩:∃e1,(s.heap.update a (bQ λ_=>(#[]:Array aE))).get? a=ab (ca "list" #[] e1):=⟨_,jR D λ_=>#[]⟩;rw[qav];refine aa (eM D rfl ?_);refine aa (jW D rfl ?_ (by rw[aL,aJ];exact(bO Sz1) k f) (bG _));refine aa (qK u rfl ?_);refine aa (vW ?_ (by show vs.length<=_;rw[aJ];exact(bO Sz1) k f));refine aa (rP ?_ (bG _));refine bq ?_;have m:∀b o,b≠a->s.heap.get? b=ab o->(((s.heap.update a (bQ λ_=>(#[]:Array aE))).push (ca "tuple" vs.toArray 0)).push (ca "list" #[] 0)).get? b=ab o:=λb o l e=>aG _ (aG _ ((H.2 b l).trans e));have g:(((s.heap.update a (bQ λ_=>(#[]:Array aE))).push (ca "tuple" vs.toArray 0)).push (ca "list" #[] 0)).get? a=ab (ca "list" #[] e1):=aG _ (aG _ u);have v:s.heap.objs.size<=(((s.heap.update a (bQ λ_=>(#[]:Array aE))).push (ca "tuple" vs.toArray 0)).push (ca "list" #[] 0)).objs.size:=by rw[aY,aY,H.1];exact dy (cL _)
 generalize ((s.heap.update a (bQ λ_=>(#[]:Array aE))).push (ca "tuple" vs.toArray 0)).push (ca "list" #[] 0)=d at m g v;have y:¬vs.toArray.size<2:=by rw[aL];exact(bO 0x2301640290e023d) k f
 rw[if_neg y,if_neg y];have I:∀tk,M9 [a] s {s with heap:=d,toks:=tk}:=λtk b o l e=>m b o (λq=>l (by simp[q])) e;refine aa (cj (hA.kind {s with heap:=d} (I s.toks) (λt s0=>t=κ/\s0={s with heap:=d}) ⟨rfl,rfl⟩) (λt s0 Z=>?_) λ_ _ x=>x.elim);refine dS Z λF J=>?_;subst F;subst J;have ask:(iq vs.length).kasWp (kas_ask pw w A t vs) (λp z=>p=rW r (iq vs.length)/\∃tk,s.toks<=tk/\z={s with heap:=d,toks:=tk}) {s with heap:=d}:=
  Dt (λi j C z hi hj G hC=>by
   refine cY G λtk ht F=>?_;subst F;exact hA.lt i j _ hi hj (I tk) C λL M=>hC _ ⟨L,aA ht M,rfl⟩) _ _ (DB #v[(bO 0x3140290e023d) k f]) ⟨s.toks,ah _,rfl⟩ λs' N=>⟨rfl,N⟩
 refine aa (cj (kat_run (Q:=λh s'=>∃p:Array Nat,arrOf h=p.map (kas_item (vs.toArray.zip vs.toArray))/\failedOf h=aC/\p=rW r (iq vs.length)/\∃tk,s.toks<=tk/\s'={s with heap:=d,toks:=tk})
  rfl k f (λp' h s' a1 a2 a3 a4=>⟨p',a2,a3,a4⟩) ask) ?_ λ_ _ e=>e)
 rintro ⟨⟨⟩,h⟩ s' B;refine Hl B λp O hf e1 R=>cY R λtk S e2=>?_;clear B R;subst e1;subst e2;dsimp only;have U:(mo r cS vs).length<=64:=by
  delta mo;rw[af,(xn k X).1.length_eq,aZ];exact c9 f
 rw[(kat_snds rfl O),(show (rW r (iq vs.length)).toList.map (λi=>vs.getD i cS)=mo r cS vs from rfl)];have V:=bB d a (bQ λ_=>(mo r cS vs).toArray);obtain⟨c2,W⟩:∃c2,(d.update a (bQ λ_=>(mo r cS vs).toArray)).get? a=ab (ca "list" (mo r cS vs).toArray c2):=⟨_,jR g λ_=>(mo r cS vs).toArray⟩;refine aa (qK g rfl ?_);refine aa (jW g rfl ?_ (bG _) (by rw[aL,aJ];exact(bO 0x10000007960040290d) U));rw[hf];refine AU (λq=>ck ((bne_self_eq_false _).symm.trans q)) ?_;refine au (Y _ tk c2 (λb o l e=>(V.2 b l).trans (m b o l e)) W (by rw[V.1];exact v) S)
noncomputable def AL(e:Int×aE):Option bT:=match e.2 with
 | .str x _=>ab x
 |z=>aC
structure v8(w:bC)(es:Array (Int×aE))(t:zW)(xs:List bT):Prop where
 el:ElemsOf (aR pw w) es.toList
 ks:(es.toList.map AL).Perm (xs.map ab)
 A2:t.fits es.size=true
 led:t.led=!(w.params.followText "set-order")
 plain:es.size≠0->t.plain=false
 lt:xs.length<64
def mG(w:bC)(h:gn)(a:bu)(xs:List bT):Prop:=∃o b c t,h.get? a=ab o/\o.ExactSet/\o.data=.set b c t/\v8 w b t xs
def v8.size(h:v8 w a t xs):a.size=xs.length:=by
 simpa using h.ks.length_eq
def EY(t)(a)(h)(x):(layNew t a h x).2.1.led=t.led:=by
 delta layNew
 split
 .show (Ef _ _).led=_;delta Ef
  split<;>rfl
 .rfl
def I4(t)(a)(n):(vY t a n).2.1.led=t.led/\(t.plain=false->(vY t a n).2.1.plain=false):=by
 delta vY
 split
 .rename_i c b e
  delta Jy zj at e;simp only[sI,kO]at e;refine cY e λd _ e=>?_;cases e;dsimp only
  split
  .exact⟨rfl,id⟩
  .exact⟨rfl,λ_=>rfl⟩
 .exact⟨rfl,λ_=>rfl⟩
def Rr(h:(aR pw w).is x e.2=true):AL e=ab x:=by
 obtain⟨i,v⟩:=e;delta AL;cases v<;>simp_all[aR,d9]
def z9{g:Bool->jj Unit}(G:∀b j z,z () j->aP (aO pw w) A (g b) z E j)
 (B:s.heap.get? a=ab o) (hex:o.ExactSet) (hd:o.data=.set J L t) (d:v8 w c t2 ys)
 (h:∀h',cN a s.heap h'->mG w h' a ys->R (ab true) {s with heap:=h'}) :
 aP (aO pw w) A (do
  storeSet a c t2
  if (!y&&t2.tooFull)=true then do
   g (vY t2 c (jB c.size)).2.2
   storeSet a (vY t2 c (jB c.size)).1 (vY t2 c (jB c.size)).2.1
   cD (ab true)
   else cD (ab true)) R E s:=by
 have C:=d.size;have f:c.size<wI:=by rw[C];delta wI;exact(bW 0x1000490140290e01f) C d.lt
 refine aa (zX B hd ?_ (Wu f));refine dS (RY (S':=λk=>decide (∃e∈c.toList,(aR pw w).is k e.2=true)) B hex hd d.el (λk=>by rw[decide_eq_true_eq]) f d.A2) λl M=>?_;have m:=bB s.heap a (Obj.putSet c t2)
 split
 .have r:=relayAll_perm t2 c (jB c.size);have u:=relayAll_fits t2 c (jB c.size);refine dS (I4 t2 c (jB c.size)) λv x=>?_;generalize I:vY t2 c (jB c.size)=H at r u v x ⊢;obtain⟨i,t3,F⟩:=H;have n:i.size=c.size:=by rw[<-dZ,r.length_eq,dZ]
  refine aa (G _ _ _ ?_);refine aa (zX l rfl ?_ (Wu (by rw[n];exact f)));have p:v8 w i t3 ys:=⟨d.el.perm r,(r.map AL).trans d.ks,u,v.trans d.led,λq=>x (d.plain (by rw[<-n];exact q)),d.lt⟩;refine dS (RY (S':=λk=>decide (∃e∈i.toList,(aR pw w).is k e.2=true)) l hex rfl p.el (λk=>by rw[decide_eq_true_eq]) (by rw[n];exact f) p.A2) λD M=>au (h _ (m.trans (bB _ a _)) ⟨_,i,_,t3,D,hex,rfl,p⟩)
 .exact au (h _ m ⟨_,c,_,t2,l,hex,rfl,d⟩)
def CF(J:mG w s.heap a xs)(M:x∉xs)(G:xs.length+1<64)
 (h:∀h',cN a s.heap h'->mG w h' a (xs++[x])->Q true {s with heap:=h'}) :
 aP (aO pw w) A (setAddHashed a (.str x tk) ((aR pw w).hash x)) Q E s:=by
 refine T6 J λo i V t u hex hd hA=>?_;have j:(aR pw w).is x (.str x tk)=true:=by simp[aR,d9]
 have k:(Ck x tk).scannable=true:=rfl;have N:i.size<wI:=by rw[hA.size];exact(bO 0x10004901402906e) G
 refine bq (aa (gu u hd hA.A2 ?_));dsimp only;rw[byScan_of k N hA.el];simp only[↓reduceIte];delta setAddByScan;refine aa <|aa (fW ?_);refine aa (wpAny_setScan_of j u hd hA.A2 hA.el ?_);have v:List.findIdx? (λe=>(aR pw w).is x e.2) i.toList=aC:=by
  refine List.findIdx?_eq_none_iff.mpr λe O=>?_;by_cases q:(aR pw w).is x e.2=true
  .have B:ab x∈i.toList.map AL:=bp.mpr ⟨e,O,Rr q⟩;refine cY (bp.mp (hA.ks.mem_iff.mp B)) λy P e2=>absurd (bt e2▸P) M
  .simpa using q
 rw[v];have H:∀b {d:aH} {l:Unit->aH->Prop},l () d->aP (aO pw w) A (match b with|true=>rule "set.scan.the-table-gave-way" |false=>cD ()) l E d:=
  λb d l g=>by cases b<;>first|exact au g|exact fW g
 have c:=layNew_perm t i ((aR pw w).hash x) (.str x tk);have f:=layNew_fits t i ((aR pw w).hash x) (.str x tk);have m:=EY t i ((aR pw w).hash x) (.str x tk);generalize W:layNew t i ((aR pw w).hash x) (.str x tk)=L at c f m ⊢;obtain⟨n,C,D,R⟩:=L;rw[vZ]at c;have F:(n.toList.map AL).Perm ((xs++[x]).map ab):=by
  refine(c.map AL).trans ?_;rw[aU,aU];exact List.Perm.append hA.ks #v[.refl _]
 have z:∀t2:zW,t2.fits n.size=true->t2.led=C.led->t2.plain=false->v8 w n t2 (xs++[x]):=λt2 B S U=>⟨((hA.el.push j k).perm c),F,B,S.trans (m.trans hA.led),λ_=>U,by rw[aw,bx];exact G⟩;refine aa (H _ ?_)
 split
 .refine aa ?_;rw[hashByValue_scannable 8 k];refine au <|z9 ?_ u hex hd (z {C with plain:=false} (SetTable.fits_plain_off f) rfl rfl) ?_
  .intro b d l g;cases b<;>first|exact au g|exact fW g
  .intro h' p r;exact au (h h' p r)
 .rename_i I
  refine aa (au ?_);simp only[↓reduceIte];refine z9 ?_ u hex hd (z C f rfl (by simpa using I)) ?_
  .intro b d l g;cases b<;>first|exact au g|exact fW g
  .intro h' p r;exact au (h h' p r)
def J3(h:∀h',(∀b o,s.heap.get? b=ab o->h'.get? b=ab o)->h'.objs.size=s.heap.objs.size+1->mG w h' s.heap.objs.size []->Q (.ref s.heap.objs.size) {s with heap:=h'}):aP (aO pw w) A (newSet (.type "set")) Q E s:=by
 refine aa (aa (kW (au ?_)));delta newObj;refine aa (wpAny_alloc (au (h _ (λb o e=>aG _ e) (aY ..) ⟨_,#[],0,_,aM _ rfl,⟨rfl,rfl,rfl⟩,rfl,⟨λe a=>by simp at a,.refl _,by rfl,rfl,λq=>absurd rfl q,by decide⟩⟩)))
def Cw:Manifest.owners.lookup (String.ofList ['r','o','t','a','r','e','t','i','_','t','e','s'].reverse)=ab Manifest.sig_set_iterator:=by kernel_rfl
def mY:Slot "set_iterator" "__next__" "set_iterator.__next__" :=
 .of (owner:= "set_iterator") (n:= "__next__") (by rw[fH,dw];kernel_rfl) (by decide +kernel) (by decide +kernel) (by decide +kernel)
  (by first|exact .inl (by decide +kernel)|exact .inr (by decide +kernel)) (by rw[ip];kernel_rfl)
def zx:sn zL "set_iterator.__next__" = ab Builtin.«set_iterator.__next__»:=so #v[]
def By(a):yV "set_iterator.__next__" ⟨[a],[]⟩:=by
 delta yV;rw[signature?_of (id:= "set_iterator.__next__") (n:=['_','_','t','x','e','n','_','_']) #v[] Cw];kernel_rfl
def tP:Slot "set_iterator" "__iter__" "set_iterator.__iter__" :=
 .of (owner:= "set_iterator") (n:= "__iter__") (by rw[fH,dw];kernel_rfl) (by decide +kernel) (by decide +kernel) (by decide +kernel)
  (by first|exact .inl (by decide +kernel)|exact .inr (by decide +kernel)) (by rw[ip];kernel_rfl)
def AM(a):yV "set_iterator.__iter__" ⟨[a],[]⟩:=by
 delta yV;rw[signature?_of (id:= "set_iterator.__iter__") (n:=['_','_','r','e','t','i','_','_']) #v[] Cw];kernel_rfl
def zz:sn zL "set_iterator.__iter__" = ab Builtin.«dict_keyiterator.__iter__»:=
 qcZ (id':= "dict_keyiterator.__iter__") #v[] (by first|rfl|decide +kernel | (delta String.splitOn;simp +decide [String.splitOnAux])) (by decide +kernel) #v[]
def xY:sn zL "set.__iter__" = ab Builtin.«frozenset.__iter__»:=
 qcZ (id':= "frozenset.__iter__") #v[] rfl (by decide +kernel) #v[]
def yx{a:Type}:∀{l:List a} {i:Nat} (h:i<l.length),(l[i]::l.eraseIdx i).Perm l:=
 @gx _ _ (fun {z} h=>absurd h (ft _)) λx l b {i}=>i.rec (λz=>.refl _) λi z h=>(List.Perm.swap x (l[i]'(lV h)) _).trans (.cons x (b (lV h)))
def AW(a:n≠0)(h:∀i d,i<n->Q i {s with drawn:=d}):aP M A (choose b n) Q E s:=
 λc p z=>⟨a,h _ _ (NS _ (Nat.pos_of_ne_zero a))⟩
def wO{b:Type}:∀n xs s (Q:List b->aH->Prop),xs.length=n->(∀ys d,ys.Perm xs->Q ys {s with drawn:=d})->aP M A (drawOrder n xs) Q E s:=ig (λxs s Q a h=>by
 rw[yY a]at h ⊢;exact au (h [] s.drawn (.refl _))) λn c xs s Q a h=>by
 cases xs with
 |nil=>cases a
 |cons x xs=>
  refine aa (AW (by simp) λi d hi=>?_);rw[ay hi];refine aa (c ((x::xs).eraseIdx i) _ _ (by rw[AH hi,a];rfl) λys e f=>au ?_);exact h _ e ((List.Perm.cons _ f).trans (yx hi))
def qa8{b:Type}{c6:Array b}{next:Nat->Nat}{left:List b}{x:b}(h:left[next k % left.length]?=ab x):tE next (a+1) k left c6=tE next a (k+1) (left.eraseIdx (next k % left.length)) (c6.push x):=by
 refine(show _=Wv (motive:=λ_=>Array b) c6 (λx=>tE next a (k+1) (left.eraseIdx (next k % left.length)) (c6.push x)) (left[next k % left.length]?) by kernel_rfl).trans ?_;rw[h]
def Iy{b:Type}(next):∀a k left (c6:Array b),left.length<=a->(tE next a k left c6).toList.Perm (c6.toList++left):=ig (λk left c6 h=>by
 rw[ll.mp (Nat.le_zero.mp h),cg];exact .refl _) λa c k left c6 h=>by
 cases left with
 |nil=>show c6.toList.Perm (c6.toList++[]);rw[cg]
 |cons x left=>
  have hi:next k % (x::left).length<(x::left).length:=NS _ (by simp);rw[qa8 (ay hi)];refine(c (k+1) _ _ (by rw[AH hi];simp at h ⊢;exact(bW 0x10010d) h)).trans ?_;rw[vZ,cm];exact List.Perm.append_left _ (yx hi)
def yz{a:Type}(next)(xs:Array a):(B9 next xs).toList.Perm xs.toList:=by
 simpa[B9] using (Iy next xs.size 0 xs.toList #[] (by simp))
def Nx(w:bC)(a:bu)(b:Array (Int×aE))(c:Nat)(t:zW)(ord:List aE)(i sl:Nat):Prop:=
 (w.params.followText "set-order" = true/\ord=(B9 (w.params.setOrder a c) b).toList.map (·.2)/\sl=0)\/
 (w.params.followText "set-order" = false/\b.size<=1/\ord=b.toList.map (·.2)/\(i=0->sl=0)/\(i=1->∃j,t.place = #[j]/\sl=j+1))
def MY(w:bC)(h:gn)(tp a:bu)(b:Array (Int×aE))(c:Nat)(t:zW)(ord:List aE)(i:Nat)(vs:Array aE):Prop:=
 (∃sl,Nx w a b c t ord i sl/\vs = #[.int sl 0,.int i 0,.ref a,.int b.size 0,.int c 0])\/
 (∃(ps:Q1) (ot:mV) (m:Nat),h.get? tp=ab ot/\ot.data=.seq (c7 (ps.map λ(p:Nat)=>gH p)) m/\ps.Perm (am b.size)/\ord=ps.map (λp=>(b.toList.map (·.2)).getD p .none)/\vs = #[.ref tp,.int i 0,.ref a,.int b.size 0,.int c 0])
inductive ww(w:bC)(it a tp:bu)(ord:List aE)(i:Nat)(s:aH):Prop
 |mk (oi vs os es ep t xs) (_:s.heap.get? it=ab oi) (_:oi.cls=.type "set_iterator") (_:oi.data=.fields vs) (_:s.heap.get? a=ab os) (_:os.data=.set es ep t) (_:v8 w es t xs) (_:ord.length=es.size) (_:MY w s.heap tp a es ep t ord i vs)
def I8(j k):SetTable.below #[j] k=if j<k then 1 else 0:=(show _=(if 0<1 then if j<k then 1 else 0 else 0) by kernel_rfl).trans (if_pos zg)
def wh{a:Array (Int×aE)}{t:zW}(h:a.size<=1):(!t.plain&&decide (a.size > 1))=false:=by
 rw[decide_eq_false #v[(bO 0x1316130d) h],S6]
def pJ(h:Q (w.params.followText "set-order") s):aP (aO pw w) A setsByText Q E s:=by
 exact aa (kW (au h))
def m9(b:s.heap.get? it=ab c)(hd:c.data=.fields vs)(d:k<vs.size)
 (h:∀h' a,h'.get? it=ab a->a.cls=c.cls->a.data=.fields (vs.setIfInBounds k x)->cN it s.heap h'->Q () {s with heap:=h'}):aP M A (setField (.ref it) k x) Q E s:=
 Gb b hd d (h _ _ (fx _ b (HR (oK hd _))) (Os ..) (oK hd _) (bB ..))
def nx{os:mV}(G:Nx w a b l t ord i sl)(n:s.heap.get? a=ab os)(o:os.data=.set b l t)(hA:v8 w b t xs)(x:ord.length=b.size)(hi:i<=ord.length)(H:0<ord.length)
 (y:∀m,i<ord.length->Nx w a b l t ord (i+1) m->Q (ab (ord.getD i .none,m)) s) (z:i=ord.length->Q aC s):aP (aO pw w) A (setNext a sl i l) Q E s:=by
 delta setNext;refine aa (gu n o hA.A2 ?_);dsimp only;refine aa (pJ ?_);rcases G with ⟨d,c,rfl⟩ | ⟨d,p,c,B,C⟩
 .rw [d,if_pos rfl,if_neg (by simp)];refine aa (aa (gu n o hA.A2 ?_));refine aa (pJ ?_);rw[d,if_pos rfl];have I:((B9 (w.params.setOrder a l) b)[i]?).map (λe=>(e.2,0))=ord[i]?.map λv=>(v,0):=by rw[c,aI,Option.map_map,l5];rfl
  refine aa (kW (au (dK (congrArg cD I) ?_)));rcases cU hi with h|h
  .have:=y 0 h (.inl ⟨d,c,rfl⟩);rw[gD h]at this;rw[ay h];exact this
  .rw [jz (dm h.symm)];exact z h
 .have f:b.size=1:=by exact(bW 0x1302130d01f103e) H x p
  have g:ord.length=1:=x.trans f;have D:t.place.size=1:=by
   have:=hA.A2;unfold zk at this;rw[bc,beq_iff_eq]at this;exact this.1.trans f
  refine iA (rQ.mp D) λj r=>iA (rQ.mp f) λe0 k=>?_;have u:t.led=true:=by rw[hA.led,d];rfl
  rw[d,if_neg ck];refine bZ (λq=>absurd q (by show ¬((!t.plain&&decide (b.size > 1))=true);rw[wh p];exact ck)) (λM=>?_);refine aa (dK (a:=()) (show (if (!t.led&&!b.isEmpty)=true then _ else cD ())=cD () by rw[u];rfl) ?_);rw[r,I8];rw[g]at hi;rcases Nat.le_one_iff_eq_zero_or_eq_one.mp hi with h|h
  .rw [B h,if_neg (ft j),k];have:=y (j+1) (by rw[h,g];exact zg) (.inr ⟨d,p,c,(λq=>absurd q (RO i)),λM=>⟨j,r,rfl⟩⟩);rw[h,c,k]at this;exact au this
  .refine cY (C h) λJ F L=>?_;have:j=J:=Array.singleton_inj.mp (r.symm.trans F);rw[L,<-this,if_pos (bH j),k];exact au (z (h.trans g.symm))
def yh{a:Type}{Q:a->aH->Prop}(c:A.handled=aC)(h:∀h' e,(∀b o,s.heap.get? b=ab o->h'.get? b=ab o)->AG {s with heap:=h'} (.ref e) "StopIteration"->d (.ref e) {s with heap:=h'}) :
 aP (aO pw w) A (VY (.type "StopIteration") [] >>= λe=>RS e:jj a) Q d s:=by
 refine aa ?_;delta VY newTuple;refine aa (cE ?_ (by size_fits));refine aa (dK (by first|rfl | (delta Gc;rfl)) ?_);refine cE ?_ (by size_fits);delta RS;refine aa (Jw ?_);rw[c];refine aa (au (RT ?_));exact h _ _ (λb o e=>aG _ (aG _ e)) ⟨_,aM _ rfl,rfl⟩
def HI{tp:bu}(O:A.handled=aC)(P:ww w it a tp ord i s)(x:it≠a)(I:it≠tp)(hi:i<=ord.length)(Z:0<ord.length)
 (R:∀h',i<ord.length->ww w it a tp ord (i+1) {s with heap:=h'}->cN it s.heap h'->Q (ab (ord.getD i .none)) {s with heap:=h'})
 (hD:∀h',i=ord.length->HP it s.heap h'->Q aC {s with heap:=h'}):aP (aO pw w) A (mL (.ref it)) Q E s:=by
 obtain⟨oi,vs,os,n,S,t,xs,r,J,hd,d,f,hA,L,hm⟩:=P;have U:s.TypeIs (.ref it) "set_iterator":=⟨oi,r,J⟩;refine aa (nJ (gq U mY
  (dJ mY U zx ?_ (By _))))
 refine aa (dK rfl ?_)
 try dsimp only
 refine aa (wpAny_fieldsOf r hd ?_);have y:i=ord.length->∀j:gn,cN it s.heap j->∀h' e,(∀b o,j.get? b=ab o->h'.get? b=ab o)->AG {s with heap:=h'} (.ref e) "StopIteration"->aP (aO pw w) A (do
  if <-isInstance (.ref e) (.type "StopIteration")then cD aC else throw (.ref e)) Q E {s with heap:=h'}:=λq j hs h' e z k=>by
  refine aa (kX k Gd ?_);exact au (hD _ q λb o hb e=>z b o ((hs.2 b hb).trans e))
 rcases hm with ⟨sl,hN,rfl⟩ | ⟨ps,ot,m,F,G,V,B,rfl⟩
 .dsimp only;refine aa (w3 d f hA.A2 ?_);refine AU (by simp) <|aa (nx hN d f hA L hi Z (λm h W=>?_) λh=>?_)
  .refine aa (m9 r hd (by simp) λj o1 u C v c=>?_);refine aa (m9 u v (by simp) λM o2 l1 X l3 D=>?_);exact au ⟨_,rfl,au (R M h ⟨o2,_,os,n,S,t,xs,l1,X.trans (C.trans J),l3,(D.2 a x.symm).trans ((c.2 a x.symm).trans d),f,hA,L,.inl ⟨m,W,rfl⟩⟩ (c.trans D))⟩
  .refine aa (m9 r hd (by simp) λj o1 u C v c=>?_);exact yh O λh' e z k=>y h j c h' e z k
 .dsimp only;refine aa (w3 d f hA.A2 ?_);refine AU (by simp) <|aa (vR F G ?_);have l:ps.length=ord.length:=by rw[B,af]
  have Y:(c7 (ps.map λ(p:Nat)=>gH p))[(i:Int).toNat]?=ps[i]?.map λ(p:Nat)=>gH p:=by rw[cx,FX,aI]
  dsimp only;rw[Y];rcases cU hi with h|h
  .have g:ps[i]'(l▸h)<n.size:=c5.mp (V.mem_iff.mp (bV _));rw[ay (l▸h)];have H:ord.getD i .none=(n[ps[i]'(l▸h)]'g).2:=by
    rw[gD h];simp[B,ar,g]
   generalize ps[i]'(l▸h)=N at g H;dsimp only[xz,gH];delta setNextDrawn;refine aa (aa (gu d f hA.A2 ?_));dsimp only;rw[if_neg (by simp),show n[(N:Int).toNat]?=ab (n[N]'g) by simp[g]];refine au <|aa (m9 r hd (by simp) λj o1 u C v c=>?_);refine au ⟨_,rfl,au ?_⟩;show Q (ab (n[N]'g).2) _;rw[<-H];exact R j h ⟨o1,_,os,n,S,t,xs,u,C.trans J,v,(c.2 a x.symm).trans d,f,hA,L,.inr ⟨ps,ot,m,(c.2 tp I.symm).trans F,G,V,B,rfl⟩⟩ c
  .rw [jz (dm (l.trans h.symm))];dsimp only[Option.map_none];refine aa (m9 r hd (by simp) λj o1 u C v c=>?_);refine aa (m9 u v (by simp) λM o2 l1 X l3 D=>?_);exact yh O λh' e z k=>y h M (c.trans D) h' e z k
def ww.at{tp:bu}(h:ww w it a tp ord i s)(k:∀b,b=it\/b=a\/b=tp->∀o,s.heap.get? b=ab o->s'.heap.get? b=ab o):ww w it a tp ord i s':=by
 obtain⟨f,vs,os,g,j,t,xs,l,n,hd,c,d,hA,p,u⟩:=h;exact⟨f,vs,os,g,j,t,xs,k _ (.inl rfl) _ l,n,hd,k _ (.inr (.inl rfl)) _ c,d,hA,p,u.imp id λq=>Nw q λps ot m e r=>⟨ps,ot,m,k _ (.inr (.inr rfl)) _ e,r⟩⟩
section
variable {w:bC}{A:cO}{E:Lx0}{s:aH}{it a tp:bu}{ord:List aE}{xs:List bT}
abbrev CA(v:aE):Option bT:=AL (0,v)
def mG.typeIs(h:mG w s.heap a xs):s.TypeIs (.ref a) "set":=T6 h λo z z z b c z z=>⟨o,b,c.1⟩
def T4{Q:Lx0}(J:mG w s.heap a xs)
 (h:∀it tp ord h' d,ww w it a tp ord 0 {s with heap:=h',drawn:=d}->(ord.map CA).Perm (xs.map ab)->it≠a->it≠tp->(∀b o,s.heap.get? b=ab o->h'.get? b=ab o)->s.heap.objs.size<=h'.objs.size->it<h'.objs.size->tp<h'.objs.size->s.heap.objs.size<=it->(tp=a\/s.heap.objs.size<=tp)->Q (.ref it) {s with heap:=h',drawn:=d}) :
 aP (aO pw w) A (mM (.ref a)) Q E s:=by
 have D:=J.typeIs;refine T6 J λo c k t l hex hd hA=>?_;have n:a<s.heap.objs.size:=aS l;refine Ww D Cm (dJ Cm D xY ?_ (PySem.F.args_set_iter_1 _));delta Builtin.«frozenset.__iter__»;refine aa (dK (a:=a) rfl ?_);delta RZ;refine aa (aa (w3 l hd hA.A2 (au ?_)));delta setDrawn;refine aa (aa (gu l hd hA.A2 ?_));dsimp only;refine aa (pJ (au ?_));have jO:∀(first:aE) (f:gn) (d:Drawn) (tp:bu) (ord:List aE),(∀b o,s.heap.get? b=ab o->f.get? b=ab o)->s.heap.objs.size<=f.objs.size->tp<f.objs.size->(tp=a\/s.heap.objs.size<=tp)->(ord.map CA).Perm (xs.map ab)->ord.length=c.size->
  MY w f tp a c k t ord 0 #[first,.int 0 0,.ref a,.int c.size 0,.int k 0]->
  aP (aO pw w) A.in1 (do
   let g <-setEpoch a
   let g <-newFields "set_iterator" [first,gH 0,.ref a,gH c.size,gH g]
   ret g) (λjO s'=>∃v,jO=.done (.ret v)/\∃L r,s'.TypeIs v L/\tw (.type L) "__next__" = cD (ab r)/\Q v s') E {s with heap:=f,drawn:=d}:=λfirst f d tp ord G H F I B M P=>by
  delta setEpoch;refine aa (aa (gu (G _ _ l) hd hA.A2 (au ?_)));dsimp only;delta newFields;refine aa (cE ?_ (by size_fits));have u:∀b o,f.get? b=ab o->(f.push {cls:=.type "set_iterator",data:=.fields [first,gH 0,.ref a,gH c.size,gH k].toArray}).get? b=ab o:=λb o e=>aG _ e;refine au ⟨_,rfl, "set_iterator",_,⟨_,aM _ rfl,rfl⟩,mY.lookup,?_⟩;refine h _ tp ord _ d ⟨_,_,o,c,k,t,xs,aM _ rfl,rfl,rfl,u _ _ (G _ _ l),hd,hA,M,P.imp id λq=>Nw q λps ot m R S=>⟨ps,ot,m,u _ _ R,S⟩⟩ B (kh (aT n H)) (kh F) (λb o e=>u b o (G b o e)) (by rw[aY];exact dy H) (by rw[aY];exact bH _) (by rw[aY];exact c4 F) H I
 have j:(c.toList.map (·.2)).map CA=c.toList.map AL:=by rw[aQ];rfl
 cases N:w.params.followText "set-order" with
 |true=>
  refine AU (by simp) ?_;have O:=yz (w.params.setOrder a k) c;refine aa (au ?_);refine jO (gH 0) s.heap s.drawn a ((B9 (w.params.setOrder a k) c).toList.map (·.2)) (λU U e=>e) (ah _) n (.inl rfl) ?_ (by rw[af,O.length_eq];simp) (.inl ⟨0,.inl ⟨N,rfl,rfl⟩,rfl⟩);refine((O.map (·.2)).map CA).trans ?_;rw[j];exact hA.ks
 |false=>
  by_cases f:c.size > 1
  .have x:(!t.plain&&decide (c.size > 1))=true:=by rw[hA.plain #v[(bO 0x30a013e) f],decide_eq_true f];rfl
   refine bZ (λU=>?_) (λq=>absurd (show ((!false)&&(!t.plain&&decide (c.size > 1)))=true by rw[x];rfl) q);refine aa (wO _ _ _ _ (by simp) λps d y=>?_);have z:ps.length=c.size:=by simpa using y.length_eq
   refine aa (vW ?_ (by have f:=hA.size;have C:=hA.lt;rw[af,z,aJ];exact(dO 0x1000000790040292e20f01f013e) (by assumption) z f C));refine jO _ _ d s.heap.objs.size (ps.map (λp=>(c.toList.map (·.2)).getD p .none)) (λb o e=>aG _ e) (by rw[aY];exact cL _) (by rw[aY];exact bH _) (.inr (ah _)) ?_ (by rw[af,z]) (.inr ⟨ps,_,_,aM _ rfl,rfl,y,rfl,rfl⟩);have e1:(am c.size).map (λp=>(c.toList.map (·.2)).getD p .none)=c.toList.map (·.2):=by
    apply gJ
    .simp
    .intro i f C;simp at f C;simp[ar,C]
   refine((y.map _).map CA).trans ?_;rw[e1,j];exact hA.ks
  .have x:(!t.plain&&decide (c.size > 1))=false:=wh #v[(bO 0x130001316c) f];refine bZ (λq=>absurd (show ((!false)&&(!t.plain&&decide (c.size > 1)))=true from q) (by rw[x];simp)) (λU=>?_);refine aa (au ?_);refine jO (gH 0) s.heap s.drawn a (c.toList.map (·.2)) (λU U e=>e) (ah _) n (.inl rfl) ?_ (by simp) (.inl ⟨0,.inr ⟨N,#v[(bO 0x130001316c) f],rfl,λU=>rfl,λq=>absurd q #v[_]⟩,rfl⟩);rw[j];exact hA.ks
def LB{Q:Bool->aH->Prop}(e:s.TypeIs (.ref a) "set") (h:Q false s):aP (aO pw w) A (uM (.ref a)) Q E s:=by
 delta uM;refine aa (DV e PySem.F.slot_set_len.lookup ?_);generalize d:("set.__len__" : String)=f
 wp_delta
 rw[show splitId f=ab ("set", "__len__") from by subst d;decide +kernel];subst d;refine aa (kX (T:= "set") (b:=true) e (by rw[ip];kernel_rfl) ?_);refine bZ (λc=>absurd c #v[_]) (λz=>?_);refine bZ (λz=>?_) (λc=>absurd (by decide +kernel) c);refine aa (gV e ?_);exact au h
def LS(l:A.handled=aC)(f:it≠a)(g:it≠tp)(m:0<ord.length):WalksS pw w A it [it,a,tp] [it] Eq ord.length (λi v=>v=ord.getD i .none) (λi s=>ww w it a tp ord i s) where
 sub:=λb c=>by cases aB.mp c;exact .head _
 grefl:=λF=>rfl
 gtrans:=λF F F x y=>x.trans y
 frame:=λi s h' tk h F k=>h.at λb c o e=>k b (by rcases c with rfl|rfl|rfl<;>simp) o e
 item:=λi s Q E hi h d=>HI l h f g (c9 hi) m (λh' F p n=>d _ _ rfl p ⟨λb o c e=>(n.2 b λq=>c (q▸.head _)).trans e,rfl,rfl,rfl,ah _⟩) λF e=>absurd e (cw hi)
 done:=λs Q E h d=>HI l h f g (ah _) m (λF e=>absurd e (cp _)) λh' F r=>d _ ⟨λb o c e=>r b o (λq=>c (q▸.head _)) e,rfl,rfl,rfl,ah _⟩
 self:=λi s Q E h d=>by
  have j:s.TypeIs (.ref it) "set_iterator":=by obtain⟨u,vs,os,C,D,t,xs,z,B,F⟩:=h;exact⟨u,z,B⟩
  refine Ww j tP (dJ tP j zz ?_ (AM _));exact au ⟨_,rfl, "set_iterator",_,j,mY.lookup,d⟩
def Bc{Q:List aE->aH->Prop}(hh:A.handled=aC)(U:mG w s.heap a xs)(Y:0<xs.length)
 (hQ:∀h' tk d vs,(∀b o,s.heap.get? b=ab o->h'.get? b=ab o)->s.heap.objs.size<=h'.objs.size->s.toks<=tk->(vs.map CA).Perm (xs.map ab)->Q vs {s with heap:=h',toks:=tk,drawn:=d}):aP (aO pw w) A (collect (.ref a)) Q E s:=by
 delta collect;refine aa (F8 (fJ PySem.F.entry_proto_collect ?_));rw[eD PySem.F.plain_proto_collect _];show aP _ A.in1 (qC [] >>= λl=>Wk (.builtin "list.__iadd__" ⟨[l,.ref a],[]⟩)) _ _ s;refine aa (cE ?_);refine au ⟨jV AI _,fJ PySem.F.entry_list_iadd ?_⟩;rw[eD AI _];have k:a<s.heap.objs.size:=by refine ES U λo _ _ _ v _=>?_;exact aS v
 have x:∀b o,s.heap.get? b=ab o->(s.heap.push {cls:=.type "list",data:=.seq ([]:List aE).toArray}).get? b=ab o:=λb o e=>aG _ e;have m:(s.heap.push {cls:=.type "list",data:=.seq ([]:List aE).toArray}).get? s.heap.objs.size=ab {cls:=.type "list",data:=.seq ([]:List aE).toArray}:=aM _ rfl;have n:(s.heap.push {cls:=.type "list",data:=.seq ([]:List aE).toArray}).objs.size=s.heap.objs.size+1:=aY ..;have p:mG w (s.heap.push {cls:=.type "list",data:=.seq ([]:List aE).toArray}) a xs:=ES U λo y V t v r=>⟨o,y,V,t,x _ _ v,r⟩;show aP _ A.in1 (uO (.ref s.heap.objs.size) (.ref a) (.ref s.heap.objs.size)) _ _ {s with heap:=s.heap.push {cls:=.type "list",data:=.seq ([]:List aE).toArray}};generalize s.heap.push {cls:=.type "list",data:=.seq ([]:List aE).toArray}=I at x m n p;delta uO;refine aa (gV (s:={s with heap:=I}) p.typeIs ?_);have e1:ni (.ref s.heap.objs.size) (.ref a)=false:=by have Z:s.heap.objs.size≠a:=kh k;simp[ni,Z]
 have e2:(d3 "set"==d3 "list")=false:=by decide
 have e3:(d3 "set"==d3 "tuple")=false:=by decide
 rw[e1];refine AU ck ?_;refine aa (T4 (s:={s with heap:=I}) p λit tp ord c d hIt u hia W B hz2 hlt1 hlt2 hf1 hf2=>?_);have hS2:mG w c a xs:=ES p λo y V t v r=>⟨o,y,V,t,B _ _ v,r⟩;refine aa (bq (LB (s:={s with heap:=c,drawn:=d}) hS2.typeIs ?_));refine bZ (λ_=>?_) (λq=>absurd #v[_] q);refine aa (fW ?_);have C:=B _ _ m;refine aa ?_;show aP _ A.in1 (Zd s.heap.objs.size (·.push .none) >>= λ_=>Zd s.heap.objs.size (·.pop)) _ _ _;refine aa (tK (s:={s with heap:=c,drawn:=d}) C rfl ?_);have M:=fx (bQ (·.push cS)) C rfl;refine tK M rfl ?_;have N:=fx (bQ (·.pop)) M rfl;have D:∀b o,b≠s.heap.objs.size->c.get? b=ab o->((c.update s.heap.objs.size (bQ (·.push cS))).update s.heap.objs.size (bQ (·.pop))).get? b=ab o:=
  λb o f e=>(qM _ _ (qaq f)).trans ((qM _ _ (qaq f)).trans e)
 have hz4:((c.update s.heap.objs.size (bQ (·.push cS))).update s.heap.objs.size (bQ (·.pop))).objs.size=c.objs.size:=by rw[Ou,Ou]
 generalize (c.update s.heap.objs.size (bQ (·.push cS))).update s.heap.objs.size (bQ (·.pop))=h4 at N D hz4;have g:I.objs.size<=it:=hf1;have F:s.heap.objs.size≠it:=λq=>by rw[n]at g;exact(bW 0x910f106d) g q
 have G:s.heap.objs.size≠tp:=λq=>by
  rcases hf2 with h|h
  .exact absurd (q.trans h) (kh k)
  .have h:I.objs.size<=tp:=h;rw[n]at h;exact(bW 0x9106d10f) q h
 have O:ord.length=xs.length:=by simpa using u.length_eq
 have X:ww w it a tp ord 0 {s with heap:=h4,drawn:=d}:=hIt.at λb f o e=>D b o (by
  rcases f with rfl|rfl|rfl
  .exact F.symm
  .exact cw k
  .exact G.symm) e
 have P:xs.length<64:=by refine T6 U λ_ _ _ _ _ _ _ hA=>?_;exact hA.lt
 refine au ⟨jV PySem.F.plain_extend_loop _,codeAny_extend_loopS (LS (A:=A.in1) hh hia W #v[(bW 0x3140291e10f103e) Y O P]) (by rw[aJ];exact(bW 0x1000000790040291e10f103e) Y O P) _ (by simp[F,G,kh k]) _ ord.length 0 _ _ _ rfl (bG _) X N (ItemsOf.nil _) λs' H c' hm R i=>?_⟩;show aP _ A (load s.heap.objs.size >>= _) _ _ s';refine aa (tr R ?_);have J:H.toList=ord:=by
  apply NL;intro j;by_cases L:j<ord.length
  .have S:j<H.size:=by rw[i.1];exact L
   have e:=i.2 j _ (dW S);rw[l5,dW S,e,ar,ay L];rfl
  .rw [l5,Array.getElem?_eq_none (by rw[i.1];exact(bW 0x1000116c) L),jz #v[(bW 0x1000116c) L]]
 obtain⟨m1,m2,m3,m4,m5⟩:=hm;have y:s'={s with heap:=s'.heap,toks:=s'.toks,drawn:=d}:=by
  obtain⟨q1,q2,q3,q4,q5⟩:=s';dsimp only at m2 m3 m4;rw[<-m2,m3,m4]
 refine au ?_;rw[J,y];exact hQ _ _ _ _ (λb o e=>m1 b o (λq=>by
  have f:=aS e;rcases aX.mp q with z|z
  .exact absurd z (cw f)
  .have h3:s.heap.objs.size+1<=it:=n▸g;rw[aB.mp z]at f;exact absurd f (aV.mpr (gc h3))) (D b o (cw (aS e)) (B b o (x b o e)))) (c9 (aS R)) m5 u
end
def CO{c:Q1}(h:a<b)(k:b<=c):a<c:=by
 refine List.not_le.mp λq=>yZ.mpr (List.le_trans k q) h
def yk{a:Type}(d v:a):mo r d [v]=[v]:=by
 have e:iq 1=.ret #[0]:=by kernel_rfl
 rw[e];rfl
noncomputable def wT(ks:List Q1)(i:Nat):Nat:=(ks.filter λk=>decide (k<ks.getD i [])).length
def uu(ks)(i j)(hi:i<ks.length):decide (wT ks i<wT ks j)=decide (ks.getD i []<ks.getD j []):=by
 delta wT;by_cases h:ks.getD i []<ks.getD j []
 .rw [decide_eq_true h,decide_eq_true_iff];have a:(ks.filter λk=>decide (k<ks.getD i []))=(ks.filter λk=>decide (k<ks.getD j [])).filter λk=>decide (k<ks.getD i []):=by
   rw[JP];refine NT λk z=>?_;by_cases q:k<ks.getD i []
   .rw [decide_eq_true q,decide_eq_true (V0 q h)];rfl
   .rw [decide_eq_false q];rfl
  rw[a];refine List.length_filter_lt_length_iff_exists.mpr ⟨ks.getD i [],c3.mpr ⟨?_,decide_eq_true h⟩,by simp[iV]⟩;rw[gD hi];exact bV hi
 .rw [decide_eq_false h,decide_eq_false_iff_not,aV];have a:(ks.filter λk=>decide (k<ks.getD j []))=(ks.filter λk=>decide (k<ks.getD i [])).filter λk=>decide (k<ks.getD j []):=by
   rw[JP];refine NT λk z=>?_;by_cases q:k<ks.getD j []
   .rw [decide_eq_true q,decide_eq_true (CO q (yZ.mp h))];rfl
   .rw [decide_eq_false q];rfl
  rw[a];exact cH _ _
def pK(h:ks.Nodup):((am ks.length).map (wT ks)).Nodup:=by
 refine cJ.mpr (dh.mpr λi j hi a b e=>?_);simp only[aZ]at hi a;rw[oe,oe]at e;have c:ks.getD i []=ks[i]:=by rw[ar,ay hi];rfl
 have d:ks.getD j []=ks[j]:=by rw[ar,ay a];rfl
 have l1:=uu ks i j hi;have f:=uu ks j i a;rw[e,decide_eq_false (cp _),c,d]at l1;rw[e,decide_eq_false (cp _),c,d]at f;exact(dh.mp h i j hi a b) (List.le_antisymm (yZ.mp (of_decide_eq_false f.symm)) (yZ.mp (of_decide_eq_false l1.symm)))
structure PP(C:fv B)(w:bC)(A:cO)(f:aE)(t k:T):Prop where
 run:∀v F s,C.P F s->Rp w F v t->∀(Q:Lx0) (E:Lx0),(∀kv F' s',Gr F s F' s'->Rp w F' kv k->Q kv s')->aP (aO pw w) A (wY f [v]) Q E s
def uw(g:Gr F s0 F' s)(c:cN a s.heap h')(d:s0.heap.objs.size<=a)(f:F' a=aC):Gr F s0 F' {s with heap:=h'}:=
 ⟨g.le,g.new,λb o h e=>(c.2 b (λq=>absurd (aS e) (by rw[q];exact aV.mpr d))).trans (g.keep b o h e),
  λb o e=>(c.2 b (λq=>by rw[q,f]at e;cases e)).trans (g.bh b o e),by rw[c.1];exact g.size,g.gens,g.os,g.toks⟩
def xr(g:Gr F s0 F' s):Gr F s0 F' {s with heap:=s.heap.push o}:=
 ⟨g.le,g.new,λb o a e=>aG _ (g.keep b o a e),λb o e=>aG _ (g.bh b o e),by rw[aY];exact dy g.size,g.gens,g.os,g.toks⟩
def oO(g:Gr F s0 F' s)(h:s.heap.objs.size<=a):F' a=aC:=by
 cases q:F' a with
 |none=>rfl
 |some o=>exact absurd (aS (g.bh _ _ q)) (aV.mpr h)
def QS(g:Gr F s0 F' s)(O:s.heap.get? a=ab (ca "list" #[] e1)) (R:s.heap.get? h=ab (ca "list" ks.toArray e)) (S:h≠a)
 (ha:s0.heap.objs.size<=a) (J:s0.heap.objs.size<=h) (U:F' a=aC) (V:F' h=aC) (t:ks.length=vs.length) (u:0<vs.length) (f:vs.length<64) (hr:((am vs.length).map r).Nodup)
 (hA:2<=vs.length->∃κ,EL w A [a,h] s κ ks r)
 (hP:∀s' c,Gr F s0 F' s'->s'.heap.get? a=ab (ca "list" (mo r cS vs).toArray c)->P (.done (.ret .none)) s') :
 aP (aO pw w) A (ksk_end a false vs.toArray e1 (.ref h) ks.toArray) P E s:=by
 have y:∀(d:SortSt) tk,s.toks<=tk->(arrOf d).map (·.2)=(mo r cS vs).toArray->failedOf d=aC->aP (aO pw w) A (ksk_tail a false e1 (.ref h) d) P E {s with toks:=tk}:=by
  intro d tk z L M;have W:(mo r cS vs).length<=64:=by
   delta mo;rw[af];by_cases l:2<=vs.length
   .rw [(xn l hr).1.length_eq,aZ];exact c9 f
   .have:vs.length=1:=by exact(bO 0x130202306c40290e003e) u f l
    rw[this,show iq 1=.ret #[0] from by kernel_rfl];exact bE rfl
  have X:ks.toArray.size<=64:=by rw[aL,t];exact c9 f
  delta ksk_tail
  try dsimp only
  rw[L];have Y:=bB s.heap h (bQ λ_=>(#[]:Array aE));refine aa (jW (s:={s with toks:=tk}) R rfl ?_ (HZ X) (bG _));have B:(s.heap.update h (bQ λ_=>(#[]:Array aE))).get? a=ab (ca "list" #[] e1):=(Y.2 a S.symm).trans O;refine aa (RQ ?_);refine aa (qK B rfl ?_);refine aa (jW B rfl ?_ (bG _) (by show (mo r cS vs).toArray.size<=_;rw[aL,aJ];exact(bO 0x10000007960040290d) W));rw[M];refine AU (λq=>ck ((bne_self_eq_false _).symm.trans q)) ?_;obtain⟨c2,Z⟩:∃c2,((s.heap.update h (bQ λ_=>(#[]:Array aE))).update a (bQ λ_=>(mo r cS vs).toArray)).get? a=ab (ca "list" (mo r cS vs).toArray c2):=⟨_,jR B λ_=>(mo r cS vs).toArray⟩;have g1:Gr F s0 F' {s with toks:=tk}:=g.trans (Gr.j4 g.bh tk z);exact au (hP _ c2 (uw (uw (h':=s.heap.update h (bQ λ_=>(#[]:Array aE))) g1 Y J V) (bB (s.heap.update h (bQ λ_=>(#[]:Array aE))) a (bQ λ_=>(mo r cS vs).toArray)) ha U) Z)
 delta ksk_end
 try dsimp only
 refine bZ (λq=>absurd q #v[_]) λ_=>?_;by_cases l:vs.length<2
 .have m:vs.toArray.size<2:=by rw[aL];exact l
  rw[if_pos m,if_pos m];refine aa (au ?_);rw[NU];refine aa (au ?_);refine y _ s.toks (ah _) ?_ rfl;have G:vs.length=1:=#v[(bO 0x1302230e40290e003e) u f l];refine iA (lI.mp G) λv n=>?_;subst n;refine iA (lI.mp (t.trans G)) λk n=>?_;subst n;rw[yk];show (#[k].zip #[v]).map (·.2) = #[v];simp
 .have m:¬vs.toArray.size<2:=by rw[aL];exact l
  rw[if_neg m,if_neg m];refine iA (hA #v[(bO 0x23023016c40290e003e) u f l]) λκ hA=>?_;have hK:∀tk,M9 [a,h] s {s with toks:=tk}:=λtk b o _ e=>e;refine aa (cj (hA.kind s (hK s.toks) (λD s0=>D=κ/\s0=s) ⟨rfl,rfl⟩) (λD s0 J=>?_) λ_ _ x=>x.elim);refine dS J λn hq2=>?_;subst n;subst hq2;have ask:(iq vs.length).kasWp (kas_ask pw w A D ks) (λp H=>p=rW r (iq vs.length)/\∃tk,s0.toks<=tk/\H={s0 with toks:=tk}) s0:=
   Dt (λi j C H hi hj N hC=>by
    refine cY N λtk ht n=>?_;subst n;exact hA.lt i j _ (t▸hi) (t▸hj) (hK tk) C λtk' ht'=>hC _ ⟨tk',aA ht ht',rfl⟩) _ _ (DB #v[(bO 0x3123016c40290e003e) u f l]) ⟨s0.toks,ah _,rfl⟩ λs' hs'=>⟨rfl,hs'⟩
  refine aa (cj (kat_run (Q:=λd s'=>∃p:Array Nat,arrOf d=p.map (kas_item (ks.toArray.zip vs.toArray))/\failedOf d=aC/\p=rW r (iq vs.length)/\∃tk,s0.toks<=tk/\s'={s0 with toks:=tk})
   t #v[(bO 0x23023016c40290e003e) u f l] f (λp' d s' a1 a2 a3 a4=>⟨p',a2,a3,a4⟩) ask) ?_ λ_ _ e=>e)
  rintro ⟨⟨⟩,d⟩ s' I;refine Hl I λp har M e1 h4=>cY h4 λtk z e2=>?_;clear I h4;subst e1;subst e2;exact y d tk z (kat_snds t har) M
def Kj(hC:C.P F s0)(g:Gr F s0 m s)(M:s.heap.get? a=ab (ca "list" #[] e1)) (N:s.heap.get? b=ab (ca "list" #[] 0)) (B:b≠a)
 (ha:s0.heap.objs.size<=a) (O:s0.heap.objs.size<=b) (Q:m a=aC) (R:m b=aC) (S:da w m vs ts) (o:kts.length=ts.length) (h:0<vs.length) (l:vs.length<64) (hr:((am vs.length).map r).Nodup)
 (J:∀(i:Nat) t k,ts[i]?=ab t->kts[i]?=ab k->PP C w A f t k)
 (hA:∀F' s' ks,Gr F s0 F' s'->F' a=aC->F' b=aC->da w F' ks kts->2<=kts.length->∃κ,EL w A [a,b] s' κ ks r)
 (hP:∀F' s' c,Gr F s0 F' s'->Le m F'->F' a=aC->s'.heap.get? a=ab (ca "list" (mo r cS vs).toArray c)->P (.done (.ret .none)) s') :
 aP (aO pw w) A (ksk_rest a f false vs.toArray e1 (.ref b)) P E s:=by
 have d:=S.length;refine aa (fW ?_)
 first
  |rw[List.forIn_toArray]
  | (rw[<-Array.forIn_toList];simp only[List.toList_toArray])
 refine aa (ksk_fold (λi s'=>∃F' kA e,Gr F s0 F' s'/\Le m F'/\s'.heap.get? a=ab (ca "list" #[] e1)/\s'.heap.get? b=ab (ca "list" kA e)/\F' a=aC/\F' b=aC/\da w F' kA.toList (kts.take i)) vs 0 s
  ⟨m,#[],0,g,Le.refl _,M,N,Q,R,by simpa using da.nil⟩ ?oD ?done)
 case oD=>
  intro j x s' U p;refine PX p λF' kA e q le y L=>sE L λn u z rk=>?_;simp only[fe]at rk ⊢;have V:j<vs.length:=(bz.mp U).1;refine cY (S.Ro U) λt et rx=>?_;obtain⟨k,D⟩:∃k,kts[j]?=ab k:=⟨_,ay #v[(lM 0x101380e238f21f) o d V]⟩;have W:kA.size<=vs.length:=by
   have h:=rk.length;rw[dZ,dU]at h;exact(xF 0x100248d0f148e381f382f) o d V h
  refine aa (nJ ((J j t k et D).run x F' s' (C.st hC q) (rx.cC le) _ _ λv F2 X g2 r2=>?_))
  try dsimp only
  have G:=g2.wi _ _ n;have Y:=bB X.heap b (bQ (·.push v));obtain⟨c2,Z⟩:∃c2,(X.heap.update b (bQ (·.push v))).get? b=ab (ca "list" (kA.push v) c2):=⟨_,jR G (·.push v)⟩;have H:=fY g2 z (aS n);refine aa (jW G rfl ?_ (by rw[aJ];exact(bW 0x1000000790010d40291e103e) h l W) (aA (dm (Array.size_push ..)) (by rw[aJ];exact(bW 0x100000079606010d40291e103e) h l W)));refine au ⟨rfl,F2,kA.push v,c2,uw (q.trans g2) Y O H,le.trans g2.le,(Y.2 a B.symm).trans (g2.wi _ _ y),Z,(fY g2 u (aS y)),H,?_⟩;rw[d7,D,vZ];exact(rk.cC g2.le).append (.cons r2 .nil)
 case done=>
  intro s' p;refine PX p λF' kA e q le y L=>sE L λn u z rk=>?_;rw[fe,jg #v[(dO 0x10021f20f) o d]]at rk;refine aa (eM n rfl ?_);have ekl:kA=kA.toList.toArray:=by simp
  rw[ekl]at n ⊢;have I:=rk.length;refine QS q y n B ha O u z (by rw[I,o,d]) h l hr (λh2=>hA F' s' _ q u z rk #v[(lM 0x230223d038f12f40292e203e10f) o h l d I h2]) λs3 c g3 e3=>hP F' s3 c g3 le u e3
def LY(x:C.P F s0)(g:Gr F s0 l s)(b:s.heap.get? a=ab (ca "list" vs.toArray n))
 (q:s0.heap.objs.size<=a) (e:l a=aC) (y:da w l vs ts) (z:kts.length=ts.length) (m:0<vs.length) (d:vs.length<64) (B:((am vs.length).map r).Nodup)
 (p:∀(i:Nat) t k,ts[i]?=ab t->kts[i]?=ab k->PP C w A f t k)
 (hA:∀u F' s' ks,Gr F s0 F' s'->F' a=aC->F' u=aC->da w F' ks kts->2<=kts.length->∃κ,EL w A [a,u] s' κ ks r)
 (D:∀F' s' c,Gr F s0 F' s'->Le l F'->F' a=aC->s'.heap.get? a=ab (ca "list" (mo r cS vs).toArray c)->P (.done (.ret .none)) s') :
 aP (aO pw w) A (ksk_tree a f false) P E s:=by
 have v:=bB s.heap a (bQ λG=>(#[]:Array aE));obtain⟨e1,h⟩:∃e1,(s.heap.update a (bQ λG=>(#[]:Array aE))).get? a=ab (ca "list" #[] e1):=⟨_,jR b λG=>#[]⟩;delta ksk_tree;refine aa (eM b rfl ?_);refine aa (jW b rfl ?_ (by rw[aL,aJ];exact(bO Sz0) m d) (bG _));refine aa (qK h rfl ?_);refine aa (vW ?_ (by rw[aJ];exact(bO Sz0) m d));refine aa (rP ?_ (bG _));refine bq ?_;have g2:=xr (o:=ca "tuple" vs.toArray 0) (uw g v q e);have j:((s.heap.update a (bQ λG=>(#[]:Array aE))).push (ca "tuple" vs.toArray 0)).objs.size=s.heap.objs.size+1:=by rw[aY,v.1]
 refine Kj
  x (xr g2) (aG _ (aG _ h)) (aM _ rfl) (by rw[j];exact kh (c4 (aS b))) q (by rw[j];exact aA g.size (cL _)) e (oO g2 (ah _)) y z m d B p (λF' s' ks=>hA _ F' s' ks) D
abbrev Dh(p:Q1×Q1):T:=.list [.str (Ss p.1),.str (Ss p.2)]
def Ri(h:Rp w F v (.list ts)):∃b vs n,v=.ref b/\F b=ab {cls:=.type "list",data:=.seq vs.toArray n}/\da w F vs ts:=by
 refine h.eL λz z z a c=>⟨_,_,_,rfl,a,c⟩
def BI(h:da w F vs [.str (Ss x),.str (Ss y)]):∃t u,vs=[.str (Ss x) t,.str (Ss y) u]:=by
 refine h.e2 λc d a b=>a.eS λz=>?_;refine b.eS λz=>?_;exact⟨_,_,rfl⟩
def t5{a:Type}{l:List a}(h:l.Nodup){j:Nat}{x:a}(hi:l[i]?=ab x)(d:l[j]?=ab x):i=j:=by
 refine iA (bz.mp hi) λb e1=>?_;refine iA (bz.mp d) λc e2=>?_;rcases pF i j with q|q|q
 .exact absurd (e1.trans e2.symm) (dh.mp h i j b c q)
 .exact q
 .exact absurd (e2.trans e1.symm) (dh.mp h j i c b q)
def Ek{ps:List (Q1×Q1)}(I:A.units<cLine)(g:∀b o,F b=ab o->s.heap.get? b=ab o)(J:F a=aC)(L:F r=aC)(y:da w F ks (ps.map Dh))(h:2<=ps.length)(M:(ps.map (·.1)).Nodup) :
 EL w A [a,r] s oneType' ks (wT (ps.map (·.1))):=by
 have c:=y.length;rw[af]at c;have ry:∀i,i<ps.length->∃b t u n p,ks.getD i .none=.ref b/\ps[i]?=ab p/\F b=ab (ca "list" #[.str (Ss p.1) t,.str (Ss p.2) u] n)/\b∉[a,r]:=by
  intro i hi;obtain⟨p,z⟩:∃p,ps[i]?=ab p:=⟨_,ay hi⟩;refine cY (y.get (by rw[aI,z];rfl)) λv ev N=>?_;refine DZ (Ri N) λb vs n l e1 O=>?_;subst l;refine GU (BI O) λt u l=>?_;subst l;refine⟨b,t,u,n,p,by rw[ar,ev];rfl,z,e1,λq=>?_⟩;rcases aX.mp q with q|q
  .rw [q,J]at e1;cases e1
  .rw [aB.mp q,L]at e1;cases e1
 constructor
 .intro s' f Q m;refine kas_kind (T:=.type "list") #v[(bW 0x23010f123d) h c] (λv P=>?_) #v[_] #v[_] m;refine iA (jA.mp P) λi B=>j53 (ry i #v[(dO Su4) c ((bz.mp B).1)]) λb t u n p e1 e2 e3 e4=>?_;rw[ar,B]at e1;have e1:v=.ref b:=e1;subst e1;exact λY Z E' X k q=>gV ⟨_,k _ _ (f b _ e4 (g _ _ e3)),rfl⟩ q
 .intro i j s' hi R f Q m;refine j53 (ry i #v[(dO Su4) c hi]) λb t u n p e1 e2 e3 e4=>j53 (ry j #v[(dO Su4) c R]) λS t' u' n' C D d E G=>?_;rw[e1,D];have U:(ps.map (·.1)).getD i []=p.1:=by rw[ar,aI,e2];rfl
  have V:(ps.map (·.1)).getD j []=C.1:=by rw[ar,aI,d];rfl
  refine ED I (f b _ e4 (g _ _ e3)) (f S _ G (g _ _ E)) (λq=>?_) ?_
  .have q:=lL.mp q;have W:(ps.map (·.1))[i]?=ab p.1:=by rw[aI,e2];rfl
   have h:(ps.map (·.1))[j]?=ab C.1:=by rw[aI,d];rfl
   have H:i=j:=t5 M W (q▸h);subst H;rw[e2]at d;cases d;rfl
  .have:=m s'.toks (ah _);rw[uu _ _ _ (by simp;exact(dO Su4) c hi),U,V]at this;have e:∀x:Q1,(Ss x).cps.toList=x:=λx=>by simp
   rw[e,e];exact this
def P0{c:Type}{R:c->c->Prop}(d:∀x y,R x y->R y x->False):∀{a b:List c},a.Perm b->a.Pairwise R->b.Pairwise R->a=b:=@gx _ _ (fun {z} p z z=>p.nil_eq) λx r i {b} p f g=>by
 cases b with
 |nil=>exact absurd p.length_eq (by simp)
 |cons y t=>
  have j:x∈y::t:=p.mem_iff.mp (.head _);have k:y∈x::r:=p.mem_iff.mpr (.head _);have e:x=y:=by
   rcases aX.mp j with h|h
   .exact h
   .rcases aX.mp k with h'|h'
    .exact h'.symm
    .exact absurd ((gO.mp f).1 y h') λq=>d _ _ q ((gO.mp g).1 x h)
  subst e;rw[i (List.Perm.cons_inv p) (gO.mp f).2 (gO.mp g).2]
def O4{b:Q1}(h:a<b)(k:b<a):False:=iV a (V0 h k)
def AN{c:Type}{d:c}{l:List c}{zs:List c}{key:c->Q1}(n:(l.map key).Nodup)(o:0<l.length)(g:zs.Perm l)(p:zs.Pairwise λx y=>key x<key y):mo (wT (l.map key)) d l=zs:=by
 by_cases h:2<=l.length
 .have k:=pK n;rw[af]at k;refine dS (xn h k) λp1 p2=>?_;delta mo;refine P0 (λx y=>O4) ?_ ?_ p
  .have e:(am l.length).map (λi=>l.getD i d)=l:=by
    refine gJ (by simp) λi a b=>?_;simp[ar,b]
   exact(e▸(p1.map λi=>l.getD i d)).trans g.symm
  .rw [cJ];refine(cJ.mp p2).imp_of_mem fun {i j} hi f m=>?_
   have hi:=c5.mp (p1.mem_iff.mp hi);have f:=c5.mp (p1.mem_iff.mp f);have:=uu (l.map key) i j (by rw[af];exact hi);rw[decide_eq_true m]at this;have:=of_decide_eq_true this.symm;rw[ar,ar,aI,aI,ay hi,ay f]at this;rw[ar,ar,ay hi,ay f];exact this
 .refine iA (lI.mp (show l.length=1 by exact(bO 0x130202306c003e) o h)) λv q=>?_;subst q;rw[yk];exact(List.perm_singleton.mp g).symm
def yn{a:Type}{τ:a->T}{l:List a}{d:a}(h:da w F vs (l.map τ))(g:0<l.length)(k:((am l.length).map r).Nodup):da w F (mo r cS vs) ((mo r d l).map τ):=by
 have c:vs.length=l.length:=by rw[h.length,af]
 delta mo;rw[c];have b:∀i∈(rW r (iq l.length)).toList,i<l.length:=by
  by_cases e:2<=l.length
  .exact λi hi=>c5.mp ((xn e k).1.mem_iff.mp hi)
  .have:l.length=1:=by exact(bW 0x130202306c01f003e) g c e
   rw[this,show iq 1=.ret #[0] from by kernel_rfl];intro i hi;have:i=0:=aB.mp hi;exact(bO 0x1301030f) this
 generalize (rW r (iq l.length)).toList=f at b
 induction f with
 |nil=>exact .nil
 |cons i f m=>
  have hi:=b i (.head _);refine cY (h.get (i:=i) (t:=τ l[i]) (by rw[aI,ay hi];rfl)) λv ev n=>?_;refine .cons ?_ (m λj o=>b j (.tail _ o));dsimp only;rw[ar,ev,gD hi];exact n
noncomputable def A6(pos:D7):Option bu->mV
 |none=>tabObj #[]
 |some c=>tabObj #[gH pos.line,gH pos.col,.ref c]
def KE(F:Fz)(c:bu)(qual:bT):Prop:=∃a vs t,F c=ab a/\a.data=.fields vs/\vs[1]?=ab (.str qual t)
noncomputable def Tk.tab(P:bu)(pos:D7)(qual:bT)(o:Option bu):Tk where
 tk:=[P]
 gk:=[]
 I:=λF s=>s.heap.get? P=ab (A6 pos o)/\∀c,o=ab c->KE F c qual
 st:=λh l z k z z=>⟨k P (.head _) _ h.1,λc e=>Nw (h.2 c e) λd vs t a b=>⟨d,vs,t,l _ _ a,b⟩⟩
def Xh(qual:bT)(a:Arguments)(body:bv)(scope:Cg)(c:bu)(o:mV):Prop:=∃pm b,o=pk "<lambda>" qual a body scope [] pm c b
def OE{K:Tk}{Kc:Option bu->Tk}(hB:dg w B)(i:St B w X loc K F s)(ho:gM X K)(D:∀c,bU K (Kc c) (Tk.tab P pos qual o) (Tk.tab P pos qual c))(G:Kc o=K)
 (R:FQ scope X.ax=cD []) (hg:X.ax.globals=fC) (hc:X.ax.code=.ref c) (hC:CodeHd B c P) (hq:X.ax.qual ++ "<lambda>" = qual) (hd:defaultsOf d X.ax=([],[]))
 (hQ:∀v f F' s',gM X (Kc (ab f))->St B w X loc (Kc (ab f)) F' s'->Le F F'->s.heap.objs.size<=s'.heap.objs.size->Rp w F' v (.pt (Xh qual d body scope f))->Q v s') :
 aP (aO pw w) A (dp (.Lambda d body scope pos) X.ax) Q E s:=by
 refine UR hB.Vg λp loose mean mg mb T=>dS ((D aC).get F s i.cV) λl hcode=>?_;have r:P∈K.tk:=(D aC).sub P (.head _);have keep:=i.bs.keep;have S:=T.g.keeps keep;refine qd T.bmain λJ ob b1 b2 b0=>sE b0 λu b4 b5 L=>?_;have m:=(i.apart P r).1;have U:J≠P:=λq=>by have e:=i.bs.fj _ _ u;rw[q,m]at e;cases e
 have hgP:fC≠P:=λq=>by refine DZ T.g λo es ep e hd _=>?_;have e:=i.bs.fj _ _ e;rw[q,m]at e;cases e
 have V:J≠fC:=λq=>by
  refine DZ T.g λo es ep e hd _=>?_;rw[q,e]at u;cases u;rw[hd]at L;cases L
 refine kla_eval hd ?_;rw[hq];cases o with
 |none=>
  refine gC (kla_makeFunction R hg S hc (hC.keeps keep) l trivial rfl hgP ⟨J,ob,b1,b2,V,U,keep _ _ u,b4,b5,L⟩ λf g h' tk M j x hrec htb y n=>?_);refine T6 hrec λc₂ N vs t e2 hoc hd2 hv=>?_;cases e2;have z:∀b o,b≠P->s.heap.get? b=ab o->(h'.push (pk "<lambda>" qual d body scope [] ((mg "__name__").getD .none) f g)).get? b=ab o:=λb o k e=>aG _ (M b o k e);have hinn:∀b o,F b=ab o->(h'.push (pk "<lambda>" qual d body scope [] ((mg "__name__").getD .none) f g)).get? b=ab o:=λb o e=>z b o (λq=>by rw[q,m]at e;cases e) (i.bs.bh b o e);have W:=aG (pk "<lambda>" qual d body scope [] ((mg "__name__").getD .none) f g) htb;have hof:(h'.push (pk "<lambda>" qual d body scope [] ((mg "__name__").getD .none) f g)).get? h'.objs.size=ab (pk "<lambda>" qual d body scope [] ((mg "__name__").getD .none) f g):=aM _ rfl;have hoc':=aG (pk "<lambda>" qual d body scope [] ((mg "__name__").getD .none) f g) hoc;generalize hH:h'.push (pk "<lambda>" qual d body scope [] ((mg "__name__").getD .none) f g)=H at *;have zK:∀a,s.heap.objs.size<=a->F a=aC:=λa O=>by
   cases q:F a with
   |none=>rfl
   |some o=>exact absurd (aS (i.bs.bh _ _ q)) (aV.mpr O)
  have g1:ic K.tk F s F {s with heap:=H,toks:=tk}:=⟨Le.refl _,λ_ _ e=>.inl e,λb o k e=>z b o (λq=>k (q▸r)) e,hinn,y,.refl _,rfl,n⟩;have g2:=iW g1 (zK f j) hoc' j;have Y:ie F f N h'.objs.size=aC:=by delta ie;rw[if_neg (kh x)];exact zK _ (aA j (c9 x))
  have g3:=iW g2 Y hof (aA j (c9 x));generalize Z:ie (ie F f N) h'.objs.size (pk "<lambda>" qual d body scope [] ((mg "__name__").getD .none) f g)=F' at g3;have hcF:F' f=ab N:=by rw[<-Z];exact ee Y _ _ (by delta ie;rw[if_pos rfl])
  have hfF:F' h'.objs.size=ab (pk "<lambda>" qual d body scope [] ((mg "__name__").getD .none) f g):=by rw[<-Z];delta ie;rw[if_pos rfl]
  have C:∀b,b≠P->(H.update P λ_=>A6 pos aC).get? b=H.get? b:=λb k=>qM _ _ k.symm;have hIm:K.I F' {s with heap:=H.update P λ_=>A6 pos aC,toks:=tk}:=K.st i.cV g3.le
   (λb o e=>by rw[show ({s with heap:=H.update P λ_=>A6 pos aC,toks:=tk}:aH).heap.get? b=_ from C b λq=>by rw[q,(fY g3 m (i.apart P r).2.1)]at e;cases e];exact g3.bh b o e)
   (λb k o e=>by
    by_cases q:b=P
    .subst q;rw[l]at e;cases e;exact fx (λ_=>A6 pos aC) W rfl
    .rw [show ({s with heap:=H.update P λ_=>A6 pos aC,toks:=tk}:aH).heap.get? b=_ from C b q];exact z b o q e) (λ_ _ _ e=>e) n
  have hI':(Kc (ab f)).I F' {s with heap:=H,toks:=tk}:=(D (ab f)).put F' _ _ hIm g3.bh
   (λb o k e=>by have hb':b≠P:=λq=>k (by rw[q];exact .head _);rw[show ({s with heap:=H.update P λ_=>A6 pos aC,toks:=tk}:aH).heap.get? b=_ from C b hb']at e;exact e) (λ_ _ e=>e) (ah _)
   ⟨W,λc₂ e=>by cases e;exact⟨N,vs,t,hcF,hd2,hv⟩⟩
  refine dS (i.mK ho g3 (λ_ h=>h) hI' λa O=>.inl (by rw[(D (ab f)).tk]at O;exact O)) λh1 h2=>hQ _ f F' _ h2 h1 g3.le g3.size (.pt hfF ⟨_,_,rfl⟩)
 |some f=>
  refine gC (kla_makeFunctionHit (mg:=mg) (cv:=.ref f) R hg S hc (hC.keeps keep) l trivial ?_ ⟨J,ob,b1,b2,V,U,keep _ _ u,b4,b5,L⟩ λg h' tk M j y n=>?_)
  .simp [codeAmong,gH]
  have g1:Gr F s F {s with heap:=h'.push (pk "<lambda>" qual d body scope [] ((mg "__name__").getD .none) f g),toks:=tk}:=
   ⟨Le.refl _,λ_ _ e=>.inl e,λb o _ e=>aG _ (M b o e),λb o e=>aG _ (M b o (i.bs.bh b o e)),y,.refl _,rfl,n⟩
  have fr:F h'.objs.size=aC:=by
   cases q:F h'.objs.size with
   |none=>rfl
   |some o=>exact absurd (aS (i.bs.bh _ _ q)) (aV.mpr j)
  have g2:=iW g1 fr (aM _ rfl) j;have hS2:=i.gr g2;rw[<-G]at hS2 ho;exact hQ _ f _ _ ho hS2 g2.le g2.size (.pt (by delta ie;rw[if_pos rfl]) ⟨_,_,rfl⟩)
def I9{K:Tk}
 (v:dg w B) (bs:Bs B F s) (x:Rm (n+1) A) (z:F f=ab o) (j:o.data=.func fd) (l:fd.scope.isCoroutine=false) (i:fd.scope.isGenerator=false)
 (b:fd.body=.expr body) (m:fd.closure=[]) (r:s.heap.CodeRec fd.code fd.qualname) (C:fd.scope.kind=.function) (c:(fd.scope.names.all λy=>y.2 != .free)=true)
 (d:RK fd ⟨pos,kw⟩=cD binds) (e:(binds.all λy=>fd.scope.names.lookup y.1==ab .local ||fd.scope.names.lookup y.1==ab .cell)=true)
 (t:(binds.map (·.1)).Nodup) (D:Sy w F binds loc) (hi:K.I F s) (u:∀a∈K.tk,F a=aC/\a<s.heap.objs.size)
 (k:∀L g,s.heap.objs.size<=L->St B w ⟨rm fd f L,s,F,md,own⟩ loc K F g->
  aP (aO pw w) (A.deeper (rm fd f L)) (dp body (rm fd f L)) Q (λM M=>False) g) :
 aP (aO pw w) A (wY (.ref f) pos kw) Q E s:=by
 refine UR v.Vg λp loose G mg J T=>kB (kla_callFunE (by have:=x.2.1;exact R1 this) (bs.bh _ _ z) j l i b r ?_);rw[d,m];refine au (z3 bs C c e t D hi u λg H I=>⟨(T.nolimit.keeps bs.keep).keeps H,kla_codeExpr (cj (k _ g (ah _) I) (λM M q=>q) λM M h=>h.elim)⟩)
noncomputable def LF(C:fv B)(f:bu)(d:mV)(c:bu)(qual:bT):fv B:=⟨λF s=>C.P F s/\F f=ab d/\KE F c qual,λh=>C.bs h.1,λh g=>⟨C.st h.1 g,g.le _ _ h.2.1,Nw h.2.2 λe vs t a b=>⟨e,vs,t,g.le _ _ a,b⟩⟩⟩
def QH{C:fv B}(h:dg w B)(i:Rm (n+2) A)(j:Xh qual a body scope c l)
 (m:∃p1,a={posonlyargs:=[],args:=[{arg:= "n",annotation:=aC,pos:=p1}],vararg:=aC,kwonlyargs:=[],kw_defaults:=[],kwarg:=aC,defaults:=[]})
 (d:scope={kind:=.function,names:=[("n",.local)],isGenerator:=false,isCoroutine:=false})
 (o:∀X ,X.ax.scope=scope->Ev (St.pre B w X [("n",t)] Tk.nil) w (A.deeper X.ax) X.ax body k) :
 PP (LF C f l c qual) w A (.ref f) t k:=by
 refine⟨λv F s p q Q E u=>?_⟩;refine ka p λx y z=>?_;refine DZ z λD vs G H hd I=>?_;refine GU j λpm N b=>?_;subst b;refine iA m λO b=>?_;subst b;subst d;have bs:=C.bs x;refine I9 (K:=Tk.nil) (loc:=[("n",t)]) (binds:=[("n",v)]) (md:=[]) (own:=[]) h bs (i.le (ah _)) y rfl rfl rfl rfl rfl ⟨c,D,vs,G,rfl,bs.bh _ _ H,hd,I⟩ rfl rfl ?_ rfl (by simp) (.cons q .nil) trivial kq λL J P e=>?_
 .rfl
 exact(o _ rfl).run F J e _ _ λM F' s' g r=>u M F' s' (e.gr g).d6 r
def BO{d:Type}{f:Type}{g:d->f}{l:List f}{m:List f}(h:l.Perm m):∀{ns:List d},m=ns.map g->∃c:List d,c.Perm ns/\l=c.map g:=by
 induction h with
 |nil=>intro ns e;cases ns with
  |nil=>exact⟨[],.refl _,rfl⟩
  |cons x r=>cases e
 |cons x z k=>
  intro ns e;cases ns with
  |nil=>cases e
  |cons y r=>
   refine dS (cA e) λe1 e2=>cY (k e2) λc p q=>⟨y::c,p.cons y,by rw[bN,<-e1,<-q]⟩
 |swap x y l=>
  intro ns e
  match ns,e with
  |a::b::r,e=>
   refine dS (cA e) λe1 e2=>dS (cA e2) λe2 e3=>⟨b::a::r,.swap a b r,by rw[bN,bN,<-e1,<-e2,<-e3]⟩
 |trans _ _ i j=>
  intro ns e;refine cY (j e) λn1 p1 n=>cY (i n) λn2 p2 o=>⟨n2,p2.trans p1,o⟩
abbrev i7(p:Q1×Q1):bT:=Ss (pv p.1 p.2)
def Li{vs:List aE}{ns:List (Q1×Q1)}(e:vs.map CA=ns.map (λp=>ab (i7 p))):da w F vs (ns.map λp=>.str (i7 p)):=by
 have key:∀(ns:List (Q1×Q1)) (vs:List aE),vs.map CA=ns.map (λp=>ab (i7 p))->da w F vs (ns.map λp=>.str (i7 p)):=iX (λvs e=>by cases vs with|nil=>exact .nil|cons _ _=>cases e) λp ns a vs e=>by
  cases vs with
  |nil=>cases e
  |cons v vs=>
   refine dS (cA e) λe1 e2=>.cons ?_ (a vs e2);cases v<;>first | (cases e1;done)|skip
   rename_i x t
   have:x=i7 p:=bt e1;rw[this];exact .str _ _
 exact key ns vs e
def Ct{zs:List (Q1×Q1)}(hh:A.handled=aC)(hu:A.in1.in1.units<cLine)(U:C.P F s)(L:mG w s.heap a (ns.map i7))(z:0<ns.length)(n:ns.length<64)(hn:(ns.map λp=>123::p.1).Nodup)
 (hp:zs.Perm ns) (hs:zs.Pairwise λx y=>(123::x.1:Q1)<123::y.1)
 (M:∀p∈ns,PP C w A.in1.in1 (.ref f) (.str (i7 p)) (Dh (123::p.1,p.2)))
 (hQ:∀D F' s',Gr F s F' s'->Rp w F' (.ref D) (.list (zs.map λp=>.str (i7 p)))->Q (.ref D) s') :
 aP (aO pw w) A (wY (.builtin "sorted") [.ref a] [(nN "key",.ref f)]) Q E s:=by
 refine call_function_entry_kw kind_sorted plain_sorted entry_sorted (ksk_s1 _ _) ?_;delta Ca;refine aa (m:=checkCount "sorted" 1 1 _) (au ?_);refine aa (Bc hh L (by rw[af];exact z) λh' tk d vs V N W v=>?_);rw[aQ]at v;refine cY (BO (g:=λp=>ab (i7 p)) v rfl) λh pn ev=>?_;have O:da w F vs (h.map λp=>.str (i7 p)):=Li ev;have j:vs.length=ns.length:=by rw[O.length,af,pn.length_eq]
 have X:Gr F s F {s with heap:=h',toks:=tk,drawn:=d}:=⟨Le.refl _,λ_ _ e=>.inl e,λb o _ e=>V b o e,λb o e=>V b o ((C.bs U).bh b o e),N,.refl _,rfl,W⟩;refine aa (rP ?_ (by rw[aJ];exact(bW Sy9) z n j));have I:(h'.push (ca "list" vs.toArray 0)).get? h'.objs.size=ab (ca "list" vs.toArray 0):=aM _ rfl;refine aa (bq (wpAny_call_entry_kw Ge ⟨_,I,rfl⟩ DW ?_ (ksk_l1 _ _)));show aP (aO pw w) A.in1.in1 (ksk_tree h'.objs.size (.ref f) false) _ _ _;have B:(h.map λp=>(123::p.1:Q1)).Nodup:=(pn.map _).nodup_iff.mpr hn;have P:=pK B;rw[af]at P;have Y:(h.map λp=>Dh (123::p.1,p.2))=(h.map λp=>((123::p.1,p.2):Q1×Q1)).map Dh:=by rw[aQ];rfl
 have J:((h.map λp=>((123::p.1,p.2):Q1×Q1)).map (·.1))=h.map λp=>(123::p.1:Q1):=by rw[aQ];rfl
 have u:=pn.length_eq;refine LY (C:=C) (F:=F) (kts:=h.map λp=>Dh (123::p.1,p.2)) (r:=wT (h.map λp=>(123::p.1:Q1))) U (xr (o:=ca "list" vs.toArray 0) X) I N (oO X (ah _)) O (by rw[af,af]) #v[(dO 0x3112f10f40291e103e) z n j u] #v[(dO 0x40290112f10f40291e103e) z n j u]
  (by rw[j,<-u];exact P) (λi t k G R=>?_) (λkS F' s' ks S H fk rk Z=>?_) λF' s' c S le H eo=>?_
 .rw [aI]at G R;cases q:h[i]? with
  |none=>rw[q]at G;cases G
  |some p=>
   rw[q]at G R;cases G;cases R;exact M p (pn.mem_iff.mp (bX q))
 .rw [af]at Z;rw[Y]at rk;have:=Ek hu S.bh H fk rk (by rw[af];exact Z) (by rw[J];exact B);rw[J]at this;exact⟨_,this⟩
 .refine⟨_,rfl,au ⟨_,rfl,?_⟩⟩;have rz:=yn (w:=w) (F:=F') (τ:=λp=>T.str (i7 p)) (l:=h) (d:=([],[])) (O.cC le) #v[(dO 0x3110f12f40291e103e) z n j u] P;rw[AN B #v[(dO 0x3110f12f40291e103e) z n j u] (hp.trans pn.symm) hs]at rz;refine hQ _ (ie F' h'.objs.size _) s' (iW S H eo N) (.list (by delta ie;rw[if_pos rfl]) (rz.cC (ee H)))
section
open PySem.Builtin PySem.Builtin.ObjectAttr
noncomputable def Tk.fz(a:bu)(o:mV):Tk where
 tk:=[]
 gk:=[]
 I:=λF z=>F a=ab o
 st:=λh l z z z z=>l _ _ h
noncomputable abbrev HM(f x:bu):T:=.pt (· = Ze (.ref f) (.ref x))
noncomputable abbrev Ob(id:String)(a:bu):mV:={cls:=.type "builtin_function_or_method",data:=.fields #[.builtin id,.ref a]}
noncomputable abbrev R8(id:String)(a:bu):T:=.pt (· = Ob id a)
structure MU(w:bC)(Cc:bu)(name:bT)(f:bu):Prop where
 hd:hasDictIn (jw w) Cc=true
 fd:eW (jw w) (.ref Cc) name=ab (ab (.ref f))
 fn:isFn (jw w) (.ref f)=true
 gt:specialIn (jw w) (.ref f) "__get__" = ab (ab (.builtin "function.__get__"))
 tk:takesIn (jw w) (.ref f)=ab false
 cn:copiedNames.contains name=false
 ga:eW (jw w) (.ref Cc) "__getattribute__" = ab (ab (.builtin "object.__getattribute__"))
 gg:eW (jw w) (.ref Cc) "__getattr__" = ab aC
def x6{K:Tk}(y:dg w B)(t:St B w X loc K F s)(z:Ev (St.pre B w X loc K) w A X.ax (.Name n np) (bP Cc dx))(C:vn (St.pre B w X loc K) w dx ats)(D:ats.lookup name=aC)(c:MU w Cc name f)
 (E:KO X x) (G:cD false=cf (.Attribute (.Name n np) name ap) (ab (.Name x q)) pos.line X.ax)
 (k:∀d F' s',St B w X (dz x (HM f d) loc) (K.and (Tk.fz d (iQ Cc dx))) F' s'->Go w A bj X.ax Q s'):Go w A (.Assign [.Name x q] (.Attribute (.Name n np) name ap) pos::bj) X.ax Q s:=by
 refine⟨bF (iO (FZ (z.run F s t _ _ λv i b g r=>?_)) G)⟩;have j:=t.gr g;have bs:=j.bs;refine r.eA λd o e p=>?_;subst p;refine qd (C i b j) λO m H I P=>?_;have u:=dY y bs;refine gy (get_bind u (jq bs e H) c.ga (findObj_fn c.hd c.fd c.gt c.tk c.cn (vz I D)) c.gg (kB (fn_get u (beq_iff_eq.mp c.fn) (handed_on rfl λN=>?_))));have g2:Gr i b i {b with heap:=b.heap.push (Ze (.ref f) (.ref d)),toks:=b.toks+1}:=fP bs.bh (cL _);have g3:=iW g2 (oO (Gr.j4 bs.bh _:Gr i b i {b with toks:=b.toks+1}) (ah b.heap.objs.size)) (aM _ rfl) (ah _);have l:=j.gr g3;exact jM (show St B w X loc (K.and (Tk.fz d (iQ Cc dx))) (ie i b.heap.objs.size (Ze (.ref f) (.ref d))) _ from l.add ⟨l.cV,g3.le _ _ e⟩ λa J=>.inl ((ao.mp J).elim id λh=>nomatch h)) (show Rp w _ _ (HM f d) from .pt (by delta ie;rw[if_pos rfl]) rfl) E λL M=>(k d _ L M).run
end
noncomputable def XJ(B):fv B:=⟨λF s=>Bs B F s,id,λh g=>h.gr g⟩
structure Qq(B:gn)(w:bC)(X:Fx)(loc:M2)(K M:Tk)(A:cO)(e:bv)(R:Tk->T->Prop):Prop where
 run:∀F s,St B w X loc (K.bI M) F s->∀(Q:Lx0) (E:Lx0),(∀v t K' F' s',R K' t->St B w X loc (K'.bI M) F' s'->Le F F'->Rp w F' v t->Q v s')->aP (aO pw w) A (dp e X.ax) Q E s
def St.GN{K:Tk}(c:St B w X loc (K.bI M) F s){K₂:Tk}(l:gM X K)(g:ic K.tk F s F' s')(f:K₂.I F' s')
 (j:∀a∈K₂.tk,F' a=aC/\a<s'.heap.objs.size/\(a∈K.tk\/s.heap.objs.size<=a)):St B w X loc (K₂.bI M) F' s':=by
 have d:∀a∈M.tk,a∉K.tk:=λa b q=>c.cV.2.2 a q b;obtain⟨m,y⟩:=St.mK (K₁:=K) (K₂:=K₂) (c.nM (K':=K) (λa b=>ac _ b) λq=>q.1) l g (λy h=>h) f λa b=>PU (j a b);refine m.add ⟨f,M.st c.cV.2.1 g.le g.bh (λa b o e=>g.keep a o (d a b) e) (λi y x e=>g.gens.1 i x e) g.toks,λa b q=>(j a b).2.2.elim (d a q) λz=>absurd (c.apart a (ag _ q)).2.1 (aV.mpr z)⟩ λa b=>(ao.mp b).imp id λb=>?_;obtain⟨n,k,p⟩:=c.apart a (ag _ b);exact⟨fY g n k,aT k g.size,p⟩
def En{K:Tk}(u:dg w B)(y:gM X K)(z:Ev (St.pre B w X loc (K.bI M)) w A X.ax func (HM f x))
 (c:si (St.pre B w X loc (K.bI M)) w A pos X.ax args d ts ns ks) (C:∀F s,St B w X loc (K.bI M) F s->F x=ab (iQ Cc dx)) (D:fnIn (jw w) f=true) (G:nC B w K A (.ref f) (bP Cc dx::ts) ns ks R)
 (H:dp (.Call func args d pos) X.ax=(do dB pos (<-dp func X.ax) [] (dc pos (br args X.ax)) (bR pos (bk d X.ax)))):Qq B w X loc K M A (.Call func args d pos) R:=by
 refine⟨λF s i Q E I=>?_⟩;rw[H];refine aa (z.run F s i _ _ λv J L g r=>?_);have e:=i.gr g;refine r.eA λq o eq p=>?_;subst p;refine dC (P:=MethP (jw w) q f (.ref x)) c.plain (keeps_M D) (c.run _ J L e _ _ λvs us j k g2 N h=>?_);have b:=e.gr g2;refine⟨⟨b.bs.bh _ _ (g2.le _ _ eq),dY u b.bs⟩,?_⟩;refine kB (method_call (b.bs.bh _ _ (g2.le _ _ eq)) (G.run j k (.ref x::vs) us b.bs b.cV.1 (λa c=>⟨(b.apart a (ac _ c)).1,(b.apart a (ac _ c)).2.1⟩) (.cons (.pt (C j k b) rfl) N) h Q E λv t l O S m g3 U n h=>?_));exact I v t l O S m (b.GN y g3 U n) ((g.le.trans g2.le).trans g3.le) h
def EN
 (h:aP (aO pw w) A first (λv b=>aP (aO pw w) A (dk e scope ax pos a false (cD v) c) Q E b) E s):aP (aO pw w) A (dk e scope ax pos a false first c) Q E s:=by
 delta dk at h ⊢;exact aa (cj h (λv b d=>by rw[wD]at d;exact d) λz z x=>x)
def Et{f:Nat->M2->M2}{Ki:Nat->Tk}
 (hB:dg w B) (I:St B w X loc (Ki 0) F s) (ho:gM X (Ki 0)) (r:∀i,(Ki i).tk=(Ki 0).tk) (ok:j0 X.ax scope) (hn:ts.length<=be)
 (hi:∀Q E,(∀(it:It w A) F' s',Gr F s F' s'->it.Ok F' s' s ts []->it.B2 target->it.gw=[]->Q (.ref it.I) s')->aP (aO pw w) A first (λxv Z=>aP (aO pw w) A (mM xv) Q E Z) E s)
 (ht:∀i t,ts[i]?=ab t->∀cells L s0 F0,zu B w A ⟨bY scope cells L X.ax,s0,F0,(Ki 0).tk,ownOf scope⟩ target t (f i))
 (O:∀i y u,(ci scope loc).lookup y=ab u->(f i (ci scope loc)).lookup y=ab u)
 (hkey:∀i,i<ts.length->∀cells L (D:fv B),On D w (bY scope cells L X.ax) (f i (ci scope loc))->Ev D w A (bY scope cells L X.ax) kx (.str (κ i)))
 (hval:∀i,i<ts.length->∀cells P M,gM ⟨bY scope cells P X.ax,s,F,(Ki 0).tk,ownOf scope⟩ (Ki i)->Qq B w ⟨bY scope cells P X.ax,s,F,(Ki 0).tk,ownOf scope⟩ (f i (ci scope loc)) (Ki i) M A vx (λK' t=>K'=Ki (i+1)/\t=τ i))
 (hs:∀x,bw iter X.ax x=cD x)
 (hQ:∀D Cl F' s',gM X (Ki ts.length)->St B w X loc (Ki ts.length) F' s'->Le F F'->Rp w F' (.ref D) (.dict (oT κ τ (λ_=>true) ts.length))->s.heap.objs.size<=Cl->Cl∉(Ki ts.length).tk->F' Cl=aC->(∃m,s'.heap.Ns Cl m)->pY (aO pw w) A E use Q (.ref D) Cl (.ok .next) s') :
 aP (aO pw w) A (dk (.DictComp kx vx [⟨target,iter,[],0⟩] scope pos) scope X.ax pos' Ea false first use) Q E s:=by
 have z:=I.apart;refine rY (τ:=λi _=>ts.getD i .none) (C:=St.pre B w X loc (Ki 0)) (C':=XJ B) (e:=.DictComp kx vx [⟨target,iter,[],0⟩] scope pos) (ifs:=[]) (bj:=[]) (ts:=ts) (ex:=[]) (fj:=(Ki 0).tk) (f:=λi _=>f i) (p:=λ_=>true) {cls:=.type "dict",data:=.dict #[]} (λD i=>(Ki i).and (Tk.gA w D (oT κ τ (λ_=>true) i)))
  G6 rfl I nf ok (λa c=>⟨(z a c).1,(z a c).2.1,(z a c).2.2.2⟩) (λF1 Z _ h=>h) (λD i=>by show (Ki i).tk++[D]=_;rw[r]) ?hK0 (λQ E k=>hi Q E λit F' s' g io l gw=>k it F' s' g io l gw (It.ZF io.n)) kq (λi _ hi=>ht i _ (gS hi _)) (λi _=>O i) (λi _ hi cells L D kn on=>je) ?R ?S ?hQ ?hnew hs
 case hK0=>exact λF1 Z s2 D g1 g2 e _=>⟨Tk.gr (Tk.gr I.cV g1 (λ_ _ h=>nomatch h)) g2 (λ_ _ h=>nomatch h),[],0,e,.nil,iS⟩
 case S=>intro i D hp;cases hp
 case hnew=>exact λs Q E h=>cE h
 case R=>
  intro i _ J _ cells P D L F' s' _ H hL U;have V:∀j,D∉(Ki j).tk:=λj q=>by rw[r]at q;exact absurd (z D q).2.1 (aV.mpr H)
  have hsep:∀j,∀b∈(Ki j).tk,b∉((Tk.gA w D (oT κ τ (λ_=>true) i)).and L).tk:=λj b d q=>by
   rcases ao.mp q with q|q
   .exact V j (aB.mp q▸d)
   .exact hL b q (ac _ (r j▸d))
  refine aa ((hkey i J _ _ (St.pre B w _ (f i (ci scope loc)) _) nf).run F' s' U _ _ λkv F2 s2 g2 r2=>?_);have hS3:St B w ⟨bY scope cells P X.ax,s,F,(Ki 0).tk,ownOf scope⟩ (f i (ci scope loc)) ((Ki i).bI ((Tk.gA w D (oT κ τ (λ_=>true) i)).and L)) F2 s2:=
   (U.gr g2).nM (λa c=>by
    rcases ao.mp c with c|c
    .exact ac _ (ac _ c)
    .rcases ao.mp c with c|c
     .exact ac _ (ag _ c)
     .exact ag _ c) λh=>⟨h.1.1,⟨h.1.2,h.2⟩,hsep i⟩
  refine aa (bq ((hval i J _ _ _ λa c=>.inr (r i▸c)).run F2 s2 hS3 _ _ λvv t K' F3 s3 hR v le r3=>?_));refine dS hR λhq hq2=>?_;subst hq;subst hq2;refine aa (cz (bq ?_));refine r2.eS λ_=>qd v.cV.2.1.1 λes n e1 e2 e3=>Bq e1 e2 e3 r3 (aA (CK i) #v[Sm hn J]) λh' k es' n' hkt e4 r4 G=>⟨F3,?_⟩;have W:∀b o,F3 b=ab o->h'.get? b=ab o:=λb o e=>(G.2 b λq=>by rw[q,(v.apart _ (ag _ (.head _))).1]at e;cases e).trans (v.bs.bh b o e);have h5:=St.uv (K':=((Ki (i+1)).and (Tk.gA w D (oT κ τ (λ_=>true) (i+1)))).and L) v G (.inl H) (ag _ (.head _))
   ⟨⟨(Ki (i+1)).st v.cV.1 (Le.refl _) W (λb d o e=>(G.2 b λq=>V _ (q▸d)).trans e) (λ_ _ _ e=>e) (ah _),es',n',e4,by rw[q7,if_pos rfl];exact r4,by rw[q7,if_pos rfl];exact(qZ e3).1⟩,
    L.st v.cV.2.1.2 (Le.refl _) W (λb d o e=>(G.2 b λq=>hL b d (ag _ (by rw[q];exact .head _))).trans e) (λ_ _ _ e=>e) (ah _)⟩ λb d=>?_
  .exact h5.j4 k hkt
  .rcases ao.mp d with d|d
   .rcases ao.mp d with d|d
    .exact ac _ d
    .exact ag _ (ac _ d)
   .exact ag _ (ag _ d)
 case hQ=>
  intro D Cl F' s' g hI hap' H Y hDC hCn hm;refine dS hI λhIK hz=>?_;refine qd hz λes n e1 e2 e3=>?_;have N:=(hap' D (ag _ (.head _))).1;have g2:=iW g N e1 H;refine dS (I.mK (K₂:=Ki ts.length) ho g2 (λ_ h=>h) ((Ki ts.length).st hIK (ee N) g2.bh (λ_ _ _ e=>e) (λ_ _ _ e=>e) (ah _)) λa c=>.inl (r _▸c)) λh1 h2=>hQ D Cl _ s' h2 h1 g2.le (.dict (n:=n) dG (e2.cC (ee N)) e3 (λq=>absurd (pd hB I.bs) (by rw[q]at H;exact(bO 0x1316130d) H))) Y (λq=>?_) ?_ hm
  .rw [r]at q;exact absurd (z Cl q).2.1 (aV.mpr Y)
  .delta ie;rw[if_neg λq=>hDC q.symm];exact hCn
def EF(hi:i<mask+1):uP mask (kM (mask+1) aC) (b+1) i a=ab i:=by
 refine(show _=Wv (motive:=λz=>Option Nat) (uP mask (kM (mask+1) aC) b (NV mask i a).1 (NV mask i a).2) (λk=>ab (i+k)) ((am (wJ mask i+1-i)).find? λk=>((kM (mask+1) (aC:Option Nat)).getD (i+k) (ab 0)).isNone) by kernel_rfl).trans ?_;have c:∃m,wJ mask i+1-i=m+1:=by
  unfold wJ
  split
  .exact⟨9,#v[bO 0x93609304652]⟩
  .exact⟨0,#v[bO 0x3600652]⟩
 refine iA c λm e=>?_;have e2:((kM (mask+1) (aC:Option Nat)).getD i (ab 0)).isNone=true:=by
  rw[eG,Array.getElem?_replicate,if_pos hi];rfl
 rw[e,Eg,dQ];simp only[FY,e2]
def Nr:∀m∈[7,15,31],∀i,i<m+1->(am (m+1)).filterMap (λj=>(((kM (m+1) (aC:Option Nat)).setIfInBounds i (ab 0)).getD j aC).map (λk=>(j,k)))=[(i,0)]:=by decide +kernel
def Lr{FS:Bool}(a:mask∈[7,15,31]) :
 zj mask finger moves led FS #[h]=ab ({mask:=mask,place:=#[ol h % (mask+1)],dummies:=#[],finger:=finger,led:=led,moves:=moves,plain:=FS},#[0]):=by
 have hi:ol h % (mask+1)<mask+1:=NS _ (lR _);have e1:Gf mask #[h]=ab ((kM (mask+1) (aC:Option Nat)).setIfInBounds (ol h % (mask+1)) (ab 0)):=by
  delta Gf;simp only[aL,List.foldl_toArray',jt,List.foldl_nil,sI,JQ,Option.map_bind];rw[(show SetTable.turns mask=(mask+14)+1 from rfl),EF hi];rfl
 delta zj;rw[e1];simp only[sI,JQ];rw[(Nr mask a _ hi)];rfl
def Kr:∀k,k<=16->dL k-1∈[7,15,31]/\dL k<=64:=by decide +kernel
def IV(v:mG w s.heap a [x])(y:b<=7)
 (h:∀h',cN a s.heap h'->mG w h' a [x]->Q () {s with heap:=h'}):aP (aO pw w) A (setRoomFor a b) Q E s:=by
 refine T6 v λo B C t c hex hd hA=>?_;have m:=hA.size;have D:t.place.size=1:=by
  have:=hA.A2;unfold zk at this;simp only[bc,beq_iff_eq]at this;rw[this.1,m];rfl
 delta setRoomFor;refine aa (gu c hd hA.A2 ?_);dsimp only;delta SetTable.roomFor
 split
 .rename_i n j
  split at j
  .cases j;rw[D];refine dS (Kr ((1+b)*2) #v[(bO 0x1029013420f0730d) y]) λg F=>?_;delta setRelay;refine aa (gu c hd hA.A2 ?_);dsimp only;refine bZ (λq=>absurd q (by rw[aJ];exact(bO 0x1000000791640290d) F)) λ_=>iA (rQ.mp m) λe G=>?_;subst G;have el:t.relaid ((#[e]:Array (Int×aE)).map (·.1)) ((1+b)*2)=ab ({mask:=dL ((1+b)*2)-1,place:=#[ol e.1 % (dL ((1+b)*2)-1+1)],dummies:=#[],finger:=t.finger,led:=t.led,moves:=t.movedTo (dL ((1+b)*2)-1),plain:=t.plain},#[0]):=by
    delta Jy;rw[show (#[e]:Array (Int×aE)).map (·.1) = #[e.1] by simp];exact Lr g
   rw[el];generalize d:({mask:=dL ((1+b)*2)-1,place:=#[ol e.1 % (dL ((1+b)*2)-1+1)],dummies:=#[],finger:=t.finger,led:=t.led,moves:=t.movedTo (dL ((1+b)*2)-1),plain:=t.plain}:zW)=f;have i:f.fits (#[e]:Array (Int×aE)).size=true:=by
    have p:1<=dL ((1+b)*2)-1:=by
     generalize dL ((1+b)*2)-1=z at g;simp at g;exact(bO 0x1301f2902f302873028c) g
    rw[<-d];delta zk SetTable.fill;simpa using p
   have r:f.led=t.led:=by rw[<-d]
   have l:f.plain=t.plain:=by rw[<-d]
   refine aa (dK (a:=(#[e],f)) ?_ ?_)
   .rfl
   .dsimp only;refine zX c hd ?_ (by show 1<=be;decide);refine dS (RY (knd:=aR pw w) (S':=λk=>decide (∃H∈(#[e]:Array (Int×aE)).toList,(aR pw w).is k H.2=true)) c hex hd hA.el (λk=>by rw[decide_eq_true_eq]) (by show 1<4096;decide) i) λu _=>h _ (bB s.heap a _) ⟨_,#[e],_,f,u,hex,rfl,⟨hA.el,hA.ks,i,r.trans hA.led,λq=>l.trans (hA.plain q),hA.lt⟩⟩
  .cases j
 .exact au (h s.heap (.refl _ _) ⟨o,B,C,t,c,hex,hd,hA⟩)
def wv(c:mG w s.heap a xs)(d:x∉xs)(e:xs.length+1<64)
 (h:∀h',cN a s.heap h'->mG w h' a (xs++[x])->Q true {s with heap:=h',toks:=s.toks+1}):aP (aO pw w) A (setAdd a (.str x tk)) Q E s:=by
 have b:(aR pw w).is x (.str x tk)=true:=by simp[aR,d9]
 exact bq (aa ((aR pw w).pyHash b (CF c d e h)))
def UN:∀{b:List iL} {i:Nat} {e:iL},p9 w F b kvs->b[i]?=ab e->∃x tk t,e.hash=(aR pw w).hash x/\e.key=.str x tk/\kvs[i]?=ab (x,t)/\Rp w F e.val t:=by
 induction kvs with
 |nil=>intro b i e r h;rw[r.nw]at h;cases h
 |cons y kvs c=>
  intro b i e r h;obtain⟨tk,v,ds,rfl,a,r⟩:=r.Af;cases i with
  |zero=>cases bt h;exact⟨_,_,_,rfl,rfl,rfl,a⟩
  |succ i=>exact c r h
def AP:∀{b:List iL},p9 w F b kvs->b.length=kvs.length:=by
 induction kvs with
 |nil=>intro b r;rw[r.nw];rfl
 |cons y kvs c=>
  intro b r;obtain⟨tk,v,ds,rfl,a,r⟩:=r.Af;exact congrArg (· + 1) (c r)
def Dm(V:A.handled=aC)(H:d≠I)(g:a≠I)(J:d≠a)(X:(x::ps.map (·.1)).Nodup)(Y:ps.length<=7):∀k i s,ps.length-i=k->i<=ps.length->s.heap.IsKeyIter I d i ps.length L->s.heap.DictAt (aR pw w) d ps L->mG w s.heap a (x::(ps.take i).map (·.1))->
 (∀h' tk,(∀b o,b≠a->b≠I->s.heap.get? b=ab o->h'.get? b=ab o)->mG w h' a (x::ps.map (·.1))->R (.ok (.ret .none)) {s with heap:=h',toks:=tk})->
 kP (aO pw w) A (.builtin "set.update.loop" ⟨[.ref a,.ref I],[]⟩) R s:=by
 intro k;have W:=Walks.dictKeys (prog:=pw) (w:=w) (A:=A.in1) (knd:=aR pw w) V I d H ps L
 induction k with
 |zero=>
  intro i s c hi B C l D;have M:i=ps.length:=#v[(bW 0x10210d03015f) c hi];subst M;refine fJ HV ?_;rw[eD rR _];refine aa (W.done s _ _ ⟨B,C⟩ λh' tk c=>?_);rw[iU]at l;exact au (D h' tk (λb o _ m e=>c b o (by simpa using m) e) (ES l λo E h t G r=>⟨o,E,h,t,c a o (by simpa using g) G,r⟩))
 |succ k Z=>
  intro i s c hi B C l D;have f:i<ps.length:=#v[(dO 0x10110d26015f) c hi];refine fJ HV ?_;rw[eD rR _];refine aa (W.item i s _ _ f ⟨B,C⟩ λv h' tk hP n p=>?_);refine m8 hP λy u hy hv=>iA (tz hv) λt hq=>?_;subst hq;have N:mG w h' a (x::(ps.take i).map (·.1)):=ES l λo E h t G r=>⟨o,E,h,t,p a o (by simpa using g) G,r⟩;have O:(ps.take (i+1)).map (·.1)=(ps.take i).map (·.1)++[y]:=by rw[d7,hy,aU];rfl
  have P:y∉x::(ps.take i).map (·.1):=by
   have:(x::(ps.take (i+1)).map (·.1)).Nodup:=X.sublist (xA _ ((NW _ _).map _));rw[O]at this;intro q;rw[<-eF]at this;exact(fb.mp this).2.2 y q y (.head _) rfl
  refine aa (bq (wv N P (by simp;exact(bW 0x402910d66110e731d) Y f) λh2 j Q=>?_));refine au ⟨jV rR _,Z (i+1) _ #v[(dO 0x21605201e26105f) c f] f ?_ ?_ (by rw[O];exact Q) λh3 S k3 U=>D h3 S (λb o m z e=>k3 b o m z ((j.2 b m).trans (p b o (by simpa using z) e))) U⟩
  .exact n.1.at λo e=>(j.2 I g.symm).trans e
  .exact n.2.at' λo e=>(j.2 d J).trans e
def IR(hh:A.handled=aC)(N:mG w s.heap a [x])(hd:s.heap.get? d=ab (sg f n))(G:p9 w F f kvs)(B:d≠a)(J:d≠1)(O:(x::kvs.map (·.1)).Nodup)(P:kvs.length<=7)
 (h:∀h' tk,(∀b o,b≠a->s.heap.get? b=ab o->h'.get? b=ab o)->s.heap.objs.size<=h'.objs.size->s.toks<=tk->mG w h' a (x::kvs.map (·.1))->Q () {s with heap:=h',toks:=tk}):aP (aO pw w) A (Gg a (.ref d)) Q E s:=by
 have R:s.TypeIs (.ref d) "dict":=⟨_,hd,rfl⟩;delta Gg;dsimp only;refine aa (kX R PySem.F.sub_dict_set ?_);refine bZ (λq=>absurd q #v[_]) λ_=>aa (kX R PySem.F.sub_dict_frozenset ?_);refine aa (kW ?_);have z:aP (aO pw w) A (do
  let it <-mM (iP d)
  let _ <-runValue (Eh "set.update.loop" ⟨[iP a,it],[]⟩)
  cD ()) Q E s:=by
  refine mB (Ey G) λps S U h3=>?_;have H:ps.map (·.1)=kvs.map (·.1):=h3.MD;have X:s.heap.DictAt (aR pw w) d ps n:=⟨_,f.toArray,hd,⟨rfl,rfl,rfl⟩,rfl,λe I=>S e (by simpa using I),by simpa using U,by rw[H];exact(du.mp O).2⟩;have Y:a<s.heap.objs.size:=by refine ES N λo _ _ _ V _=>?_;exact aS V
  have Z:ps.length=kvs.length:=by have:=congrArg mX H;simpa using this
  refine gC (aa (wpAny_pyIter_dict (beq_eq_false_iff_ne.mpr J) X ?_));have hI:(s.heap.push {cls:=.type "dict_keyiterator",data:=.fields #[.ref d,.int 0 0,.int ps.length 0,.int n 0]}).get? s.heap.objs.size=ab {cls:=.type "dict_keyiterator",data:=.fields #[.ref d,.int 0 0,.int ps.length 0,.int n 0]}:=aM _ rfl;have up:∀b o,s.heap.get? b=ab o->(s.heap.push {cls:=.type "dict_keyiterator",data:=.fields #[.ref d,.int 0 0,.int ps.length 0,.int n 0]}).get? b=ab o:=λb o e=>aG _ e;refine aa (F8 (Dm hh (cw (aS hd)) (cw Y) B (by rw[H];exact O) #v[(bW 0x730010f731d) P Z] _ 0 _ rfl (bG _) ⟨_,hI,rfl,rfl⟩ (X.at' λo e=>up _ _ e) (ES N λo f ep' t V r=>⟨o,f,ep',t,up _ _ V,r⟩) λh' tk k c=>au λhz htk=>h h' tk (λb o W e=>k b o W (cw (aS e)) (up b o e)) hz htk (H▸c)))
 split
 .rename_i v a1 C
  have ha1:a1=d:=by
   split at C
   .cases C
   .exact(Value.ref.inj C).symm
  subst ha1;refine bZ (λq=>absurd q #v[_]) λ_=>aa (gV R ?_);refine bZ (λ_=>?_) λq=>absurd #v[_] q;refine aa (fW ?_);refine bZ (λq=>absurd (kN q) J) λ_=>aa (qaw hd rfl ?_);refine aa (Wx hd rfl ?_);have g:f.toArray.size=kvs.length:=by rw[aL,AP G]
  rw[g];refine aa (IV N P λS hs1 hS1=>?_);rw[S7];simp only[S8,Nat.sub_zero,jm,Nat.div_one];refine aa (wpAny_forIn_list _ (λbj _ s'=>∃h' i,s'={s with heap:=h'}/\bj=pf i (kvs.length-i)/\i<=kvs.length/\cN a s.heap h'/\mG w h' a (x::(kvs.take i).map (·.1))) _ ?_ ?_ _ _ ⟨S,0,rfl,by simp,bG _,hs1,by simpa using hS1⟩)
  .intro j bj b s' l;refine GR l λh' i e0 p hi D=>dS D λm c=>?_;clear l D;subst e0;have u:i<kvs.length:=by
    rcases nO i kvs.length with h|h
    .exact h
    .rw [HN h]at p;simp at p
   have hj2:pf i (kvs.length-i)=i::pf (i+1) (kvs.length-(i+1)):=by
    rw[show kvs.length-i=(kvs.length-(i+1))+1 by exact(dO 0x16056105201e02f) g u,xx]
   rw[hj2]at p;refine dS (cA p) λhq hq2=>?_;subst hq;subst hq2;have L:h'.get? a1=ab (sg f n):=(m.2 _ B).trans hd;refine aa (Wx L rfl ?_);obtain⟨e,I⟩:∃e,f[j]?=ab e:=⟨_,ay (by rw[AP G];exact u)⟩;refine PX (UN G I) λy tk t q1 q2 q3 q4=>?_;have he':f.toArray[j]?=ab e:=by simpa using I
   rw[he'];dsimp only;rw[q1,q2];have ek:(kvs.take (j+1)).map (·.1)=(kvs.take j).map (·.1)++[y]:=by rw[d7,q3,aU];rfl
   have hy:y∉x::(kvs.take j).map (·.1):=by
    have:(x::(kvs.take (j+1)).map (·.1)).Nodup:=O.sublist (xA _ ((NW _ _).map _));rw[ek]at this;intro q;rw[<-eF]at this;exact(fb.mp this).2.2 y q y (.head _) rfl
   refine aa (bq (aa (CF c hy (by simp;exact(dO 0x402910d66110e12f731d) P g u) λU M hS2=>au ?_)));refine aa (qaw ((M.2 _ B).trans L) rfl ?_);refine bZ (λq=>absurd q (by simp)) λ_=>au ⟨U,j+1,rfl,rfl,u,m.trans M,?_⟩;rw[ek];exact hS2
  .intro b s' l;refine GR l λh' i e0 p hi D=>dS D λm c=>?_;clear l D;subst e0;have:i=kvs.length:=by
    rcases nO i kvs.length with h|h
    .rw [show kvs.length-i=(kvs.length-(i+1))+1 by exact(dO 0x16056105201e02f) g h,xx]at p;cases p
    .exact(dO 0x10201d10d12f) g hi h
   subst this;rw[iU]at c;exact au (h h' s.toks (λb o W e=>(m.2 b W).trans e) (dm m.1.symm) (ah _) c)
 .exact z
noncomputable def Tk.Kq(w:bC)(a:bu)(xs:List bT):Tk where
 tk:=[a]
 gk:=[]
 I:=λz s=>mG w s.heap a xs
 st:=λh z z k z z=>ES h λo b c t e r=>⟨o,b,c,t,k _ (.head _) _ e,r⟩
def Di{C:fv B}(hB:dg w B)(g:kdsCode (jw w) ax.code=true)(hh:A.handled=aC)(hx:Ev C w A ax x (.str u))(hy:Ev C w A ax y (.dict kvs))
 (N:br [x,.Starred y py] ax=[(false,dp x ax),(true,dp y ax)]) (hn:(u::kvs.map (·.1)).Nodup) (hl:kvs.length<=7):Wg C w A ax (.Set [x,.Starred y py] 0 pos) (λD=>Tk.Kq w D (u::kvs.map (·.1))):=by
 refine⟨λF s i Q E hQ=>?_⟩;rw[arm_eval_Set];refine aa (cz ?_);refine aa (kds_main (dY hB (C.bs i)) g λb=>?_);rw[N]
 try dsimp only
 refine bZ (λq=>absurd (show (zZ==qc0)=true from q) #v[_]) λ_=>aa (J3 λh' O H P=>?_);have bs:=C.bs i;have R:Gr F s F {s with heap:=h'}:=⟨Le.refl _,λ_ _ e=>.inl e,λb o _ e=>O b o e,λb o e=>O b o (bs.bh b o e),#v[(bW 0x100061f) H],.refl _,rfl,ah _⟩;generalize j:s.heap.objs.size=D at H P;refine aa (bq ?_);refine aa (wpAny_evalAll_cons (aa (hx.run F {s with heap:=h'} (C.st i R) _ _ λv I J g2 r=>aa (cz (au (wpAny_evalAll_nil ?_))))));refine r.eS λ_=>?_;have m:I D=aC:=fY g2 (oO (ic.refl bs.bh:Gr F s F s) (dm j)) #v[(bW 0x101061f) H];have S:mG w J.heap D []:=ES P λo k L t c r=>⟨o,k,L,t,g2.wi _ _ c,r⟩;refine aa (bq ?_);rw[rM];refine aa (aa (aa (wv S (λh=>nomatch h) #v[_] λh2 U z=>au ?_)));have g3:Gr F s I {J with heap:=h2,toks:=J.toks+1}:=by
  have h:=uw (R.trans g2) U (dm j) m;exact h.trans (Gr.j4 h.bh _ (cL _))
 dsimp only;rw[AE];refine au <|bZ (λq=>absurd (show (zZ==qc1)=true from q) #v[_]) λ_=>au ?_;show aP (aO pw w) A ((forIn [(true,do let v <-dp y ax;ej pos;cD v)] Zf λ(p:Bool×jj aE) (_:PUnit)=>do
  let v <-p.2
  if p.1 then fL [v] (Gg D v)else let _ <-fL [v] (setAdd D v)
  cD (mw Zf)) >>= λ_=>cD ()) _ _ _
 refine aa ?_;rw[rM];refine aa (aa (aa (hy.run I _ (C.st i g3) _ _ λv l V g4 r=>aa (cz (au ?_)))));have W:mG w V.heap D [u]:=ES z λo k L t c r=>⟨o,k,L,t,g4.wi _ _ c,r⟩;have f:l D=aC:=fY g4 m (by refine ES z λo _ _ _ c _=>?_;exact aS c);refine SL r.cV λd k n hq e rd nd d1=>?_;subst hq;refine bZ (λ_=>?_) λq=>absurd rfl q;have a:=g3.trans g4;have X:d≠D:=λq=>by rw[q,f]at e;cases e
 refine aa (bq (IR hh W (g4.bh _ _ e) rd X d1 hn hl λY tk Z hz4 htk G=>au ?_));dsimp only;rw[AE];refine au (au (au ?_));have M:∀b o,l b=ab o->Y.get? b=ab o:=λb o e=>Z b o (λq=>by rw[q,f]at e;cases e) (a.bh b o e);have g6:Gr F s l {V with heap:=Y,toks:=tk}:=⟨a.le,a.new,λb o _ e=>Z b o (λq=>absurd (aS e) (by rw[q,j];exact cp _)) (a.keep b o (λh=>nomatch h) e),M,aA a.size hz4,a.gens,a.os,aA a.toks htk⟩;exact hQ D l _ g6 G f (dm j) (by refine ES G λo _ _ _ c _=>?_;exact aS c)
def icc(h:nC B w L A f ts ns ks R)(k:∀K t,R K t->R' (K.bI M) t):nC B w (L.bI M) A f ts ns ks R':=⟨Hx (G:=λvs us Q E s=>kP (aO pw w) A (.call f ⟨vs,ns.zip us⟩) (Yd Q E) s) h.run k⟩
def qcy(h:nC B w L A f ts ns ks R)(k:∀K t,R K t->R' (Tk.bI (Tk.bI (Tk.bI K M) N) O) t):nC B w (Tk.bI (Tk.bI (Tk.bI L M) N) O) A f ts ns ks R':=icc (R:=λK t=>R' (K.bI O) t) (icc (R:=λK t=>R' ((K.bI N).bI O) t) (icc h k) λz z h=>h) λz z h=>h
def Jb{K:Tk}{Kc:Option bu->Tk}{zs:List (Q1×Q1)}
 (H:dg w B) (q:Rm (n+4) A) (J:St B w X loc K F s) (Z:gM X K) (hf:∀c,bU K (Kc c) (Tk.tab P e qual o) (Tk.tab P e qual c)) (i:Kc o=K)
 (L:Ev (St.pre B w X loc K) w A X.ax fn (.val (.builtin "sorted"))) (M:Ev (St.pre B w X loc K) w A X.ax (.Name qn t) (.val (.ref qa)))
 (u:∀c F s,(Kc c).I F s->mG w s.heap qa (ns.map i7)) (j:∀c F s,(Kc (ab c)).I F s->KE F c qual)
 (N:FQ scope X.ax=cD []) (hg:X.ax.globals=fC) (hc:X.ax.code=.ref c) (hC:CodeHd B c P) (hq:X.ax.qual ++ "<lambda>" = qual) (hd:defaultsOf b X.ax=([],[]))
 (hp:∃p1,b={posonlyargs:=[],args:=[{arg:= "n",annotation:=aC,pos:=p1}],vararg:=aC,kwonlyargs:=[],kw_defaults:=[],kwarg:=aC,defaults:=[]})
 (O:scope={kind:=.function,names:=[("n",.local)],isGenerator:=false,isCoroutine:=false})
 (hb:∀p∈ns,∀l ,l.ax.scope=scope->Ev (St.pre B w l [("n",.str (i7 p))] Tk.nil) w (A.in1.in1.deeper l.ax) l.ax body (Dh (123::p.1,p.2)))
 (h0:0<ns.length) (R:ns.length<64) (hn:(ns.map λp=>(123::p.1:Q1)).Nodup) (hz:zs.Perm ns) (hs:zs.Pairwise λx y=>(123::x.1:Q1)<123::y.1)
 (he:dp (.Call fn [.Name qn t] [⟨ab "key",.Lambda b body scope e,S⟩] d) X.ax=(do dB d (<-dp fn X.ax) [] (dc d (br [.Name qn t] X.ax)) (bR d (bk [⟨ab "key",.Lambda b body scope e,S⟩] X.ax))))
 (hQ:∀v g F' s',gM X (Kc (ab g))->St B w X loc (Kc (ab g)) F' s'->Le F F'->s.heap.objs.size<=s'.heap.objs.size->Rp w F' v (.list (zs.map λp=>.str (i7 p)))->Q v s') :
 aP (aO pw w) A (dp (.Call fn [.Name qn t] [⟨ab "key",.Lambda b body scope e,S⟩] d) X.ax) Q E s:=by
 rw[he];refine aa (L.run F s J _ _ λv F1 s1 z r=>?_);refine r.eV ?_;have m:=J.gr z;refine dC (P:=λh=>∀a o,B.get? a=ab o->h.get? a=ab o) rfl (λh k=>bK.bi.ry (w:=w) h k) (kR rfl ((aq (pos:=d) M aK).run F1 s1 m _ _ λvs F2 s2 g2 r2=>kwAll_cons ?_) rfl);refine r2.e1 λv1 G=>G.eV <|OE H (m.gr g2) Z hf i N hg hc hC hq hd λv g F3 s3 U f V W G=>l0 ⟨f.bs.keep,?_⟩;refine G.eA λfa fo ef hl=>Ct (C:=LF (St.pre B w X loc (Kc (ab g))) fa fo g qual) q.1 (NO (fK _ _) q.in1.in1.2.2) ⟨f,ef,(j _ _ _ f.cV)⟩ (u _ _ _ f.cV) h0 R hn hz hs (λp Y=>QH H q.in1.in1 hl hp O (hb p Y)) λD F4 s4 g4 r4=>hQ _ g F4 s4 U (f.gr g4) (((z.le.trans g2.le).trans V).trans g4.le) (aA (aA (aA z.size g2.size) W) g4.size) r4
abbrev iM(p:Q1×Q1):T:=.qb [.str (Ss p.1),.str (Ss p.2)]
def Th(h:Rp w F v (.qb ts)):∃b vs n,v=.ref b/\F b=ab {cls:=.type "tuple",data:=.seq vs.toArray n}/\da w F vs ts:=by
 refine h.eT λz z z a c=>⟨_,_,_,rfl,a,c⟩
def Nh(c:∀b o,F b=ab o->h.get? b=ab o){vs:List aE}{ps:List (Q1×Q1)}:da w F vs (ps.map iM)->∃a,KatTups h vs a/\a.length=ps.length/\∀v∈a,∃x t,v=.str x t:=by
 have key:∀(ps:List (Q1×Q1)) (vs),da w F vs (ps.map iM)->∃a,KatTups h vs a/\a.length=ps.length/\∀v∈a,∃x t,v=.str x t:=iX (λvs r=>by refine da.e0 r ?_;exact⟨[],.nil,rfl,kq⟩) λp ps d vs r=>by
  refine da.ec r λv us r rs=>?_;refine r.eT λb us n e f=>?_;refine GU (BI f) λt u g=>?_;subst g;refine mB (d _ rs) λa k l i=>⟨.str (Ss p.1) t::a,.cons (c _ _ e) rfl rfl rfl k,by rw[cq,cq,l],λv j=>(aX.mp j).elim (λq=>⟨_,_,q⟩) (i v)⟩
 exact key ps vs
def Ae{ps:List (Q1×Q1)}(H:∀b o,F b=ab o->s.heap.get? b=ab o)(I:F a=aC)(m:da w F vs (ps.map iM))(r:2<=ps.length)(J:(ps.map (·.1)).Nodup) :
 EL w A [a] s (tuples' (d3 "str" != d3 "tuple")) vs (wT (ps.map (·.1))):=by
 have d:=m.length;rw[af]at d;have f:∀{s':aH},M9 [a] s s'->∀b o,F b=ab o->s'.heap.get? b=ab o:=λh b o e=>h b o (λq=>by rw[aB.mp q,I]at e;cases e) (H b o e);have ry:∀i,i<ps.length->∃b t u n p,vs.getD i .none=.ref b/\ps[i]?=ab p/\F b=ab (ca "tuple" #[.str (Ss p.1) t,.str (Ss p.2) u] n):=by
  intro i hi;obtain⟨p,C⟩:∃p,ps[i]?=ab p:=⟨_,ay hi⟩;refine cY (m.get (by rw[aI,C];rfl)) λv ev L=>?_;refine DZ (Th L) λb us n c e1 M=>?_;subst c;refine GU (BI M) λt u c=>?_;subst c;exact⟨b,t,u,n,p,by rw[ar,ev];rfl,C,e1⟩
 constructor
 .intro s' h Q y;refine mB (Nh (f h) m) λV k l N=>kat_kind k #v[(dO 0x3110f12f123d) r d l] (λv O=>?_) #v[_] y;refine GU (N v O) λx t c=>?_;subst c;exact B6 rfl
 .intro i j s' hi P h Q y;refine j52 (ry i #v[(dO Su4) d hi]) λb t u n p e1 e2 e3=>j52 (ry j #v[(dO Su4) d P]) λW X Y n' B D g E=>?_;rw[e1,D];have R:(ps.map (·.1)).getD i []=p.1:=by rw[ar,aI,e2];rfl
  have S:(ps.map (·.1)).getD j []=B.1:=by rw[ar,aI,g];rfl
  have c:=y s'.toks (ah _);rw[uu _ _ _ (by simp;exact(dO Su4) d hi),R,S]at c;refine kat_lt (f h _ _ e3) rfl (f h _ _ E) rfl (kat_cons (eqBool_str ?_));by_cases q:p.1=B.1
  .have U:(ps.map (·.1))[i]?=ab p.1:=by rw[aI,e2];rfl
   have r:(ps.map (·.1))[j]?=ab B.1:=by rw[aI,g];rfl
   have G:i=j:=t5 J U (q▸r);subst G;rw[e2]at g;cases g;rw[beq_self_eq_true];refine kat_yes (kat_cons (eqBool_str ?_));rw[beq_self_eq_true];refine kat_yes (kat_nil ?_);rw[decide_eq_false (iV _)]at c;exact c
  .rw [beq_eq_false_iff_ne.mpr λz=>q (lL.mp z)];refine kat_no ?_;have e:∀x:Q1,(Ss x).cps.toList=x:=λx=>by simp
   exact oneLt_str (by rw[e,e];exact c)
def My(l:s.heap.get? a=ab (ca "list" #[v] n))
 (t:∀h' tk c,(∀b o,b≠a->s.heap.get? b=ab o->h'.get? b=ab o)->h'.get? a=ab (ca "list" #[v] c)->s.heap.objs.size<=h'.objs.size->s.toks<=tk->P (.done (.ret .none)) {s with heap:=h',toks:=tk}) :
 aP (aO pw w) A (Builtin.«list.sort» ⟨[.ref a],[]⟩) P E s:=by
 have m:=bB s.heap a (bQ λz=>(#[]:Array aE));obtain⟨e1,h⟩:∃e1,(s.heap.update a (bQ λz=>(#[]:Array aE))).get? a=ab (ca "list" #[] e1):=⟨_,jR l λz=>#[]⟩;rw[qav];refine aa (eM l rfl ?_);refine aa (jW l rfl ?_ (by show 1<=be;decide) (bG _));refine aa (qK h rfl ?_);refine aa (vW ?_ (by show 1<=be;decide));refine aa (rP ?_ (bG _));refine bq ?_;show aP (aO pw w) A _ P E {s with heap:=((s.heap.update a (bQ λz=>(#[]:Array aE))).push (ca "tuple" #[v] 0)).push (ca "list" #[] 0)};have i:∀b o,b≠a->s.heap.get? b=ab o->(((s.heap.update a (bQ λz=>(#[]:Array aE))).push (ca "tuple" #[v] 0)).push (ca "list" #[] 0)).get? b=ab o:=λb o g e=>aG _ (aG _ ((m.2 b g).trans e));have d:(((s.heap.update a (bQ λz=>(#[]:Array aE))).push (ca "tuple" #[v] 0)).push (ca "list" #[] 0)).get? a=ab (ca "list" #[] e1):=aG _ (aG _ h);have j:s.heap.objs.size<=(((s.heap.update a (bQ λz=>(#[]:Array aE))).push (ca "tuple" #[v] 0)).push (ca "list" #[] 0)).objs.size:=by rw[aY,aY,m.1];exact dy (cL _)
 generalize ((s.heap.update a (bQ λz=>(#[]:Array aE))).push (ca "tuple" #[v] 0)).push (ca "list" #[] 0)=f at i d j;dsimp only;have k:(#[v]:Array aE).size<2:=by show 1<2;decide
 rw[if_pos k,if_pos k];refine aa (au ?_);rw[NU];refine aa (au ?_);dsimp only;have p:=bB f a (bQ λz=>(#[v]:Array aE));obtain⟨c2,r⟩:∃c2,(f.update a (bQ λz=>(#[v]:Array aE))).get? a=ab (ca "list" #[v] c2):=⟨_,jR d λz=>#[v]⟩;refine aa (qK d rfl ?_);have u:Array.map (λ(x:Keyed)=>x.2) (arrOf (SortSt.mk' general' ((#[v]:Array aE).zip #[v]) #[] 7 aC)) = #[v]:=by
  show ((#[v]:Array aE).zip #[v]).map (·.2) = #[v];simp
 rw[u];refine aa (jW d rfl ?_ (bG _) (by show 1<=be+1;decide));refine bZ (λq=>absurd q (by simp)) λz=>au (t _ s.toks c2 (λb o g e=>(p.2 b g).trans (i b o g e)) r (by rw[p.1];exact j) (ah _))
def Cr(g:s.heap.get? a=ab (ca "list" vs.toArray n)) (i:0<vs.length) (d:vs.length<64) (j:((am vs.length).map r).Nodup) (hA:2<=vs.length->∃κ,EL w A [a] s κ vs r)
 (h:∀h' tk c,(∀b o,b≠a->s.heap.get? b=ab o->h'.get? b=ab o)->h'.get? a=ab (ca "list" (mo r cS vs).toArray c)->s.heap.objs.size<=h'.objs.size->s.toks<=tk->P (.done (.ret .none)) {s with heap:=h',toks:=tk}) :
 aP (aO pw w) A (Builtin.«list.sort» ⟨[.ref a],[]⟩) P E s:=by
 by_cases f:2<=vs.length
 .refine iA (hA f) λκ hA=>PT g f d j hA h
 .refine iA (lI.mp (show vs.length=1 by exact(bO 0x130202306c40290e003e) i d f)) λv l=>?_;subst l;refine My g λh' tk c k e m p=>h h' tk c k ?_ m p;rw[yk];exact e
def K8{K:Tk}{zs:List (Q1×Q1)}(f:bU K K' (Tk.cu w a (ps.map iM)) (Tk.cu w a (zs.map iM)))(m:0<ps.length)(g:ps.length<64)(v:(ps.map (·.1)).Nodup)(J:zs.Perm ps)(L:zs.Pairwise λx y=>x.1<y.1) :
 d5 B w K A (.builtin "list.sort") [.val (.ref a)] [] [] (λD u=>D=K'/\u=.none):=by
 refine⟨λF s vs us bs hi j M N Q E O=>?_⟩;refine M.e1 λU P=>N.e0 <|P.eV <|m8 (f.get F s hi) λws n e p=>?_;have t:a∈K.tk:=f.sub a (.head _);have h:=p.length;rw[af]at h;have C:=pK v;rw[af,<-h]at C;refine dJ Ge ⟨_,e,rfl⟩ DW (Cr (r:=wT (ps.map (·.1))) e #v[(bW 0x3110f40291e103e) m g h] #v[(bW 0x40290110f40291e103e) m g h] C (λR=>⟨_,Ae bs.bh (j a t).1 p #v[(bW 0x230123d01f40290e003e) m g h R] v⟩) λh' tk c k S G H=>⟨_,rfl,?_⟩) (qc2 _);have I:=yn (w:=w) (F:=F) (τ:=iM) (l:=ps) (d:=([],[])) (r:=wT (ps.map (·.1))) p #v[(bW 0x3101f40290e003e) m g h] (h▸C);rw[AN v #v[(bW 0x3101f40290e003e) m g h] J L]at I;have bh:∀b o,F b=ab o->h'.get? b=ab o:=λb o q=>k b o (λz=>by rw[z,(j a t).1]at q;cases q) (bs.bh b o q);refine O _ _ K' F _ ⟨rfl,rfl⟩ ⟨Le.refl _,λV V q=>.inl q,λb o i q=>k b o (λz=>i (z▸t)) q,bh,G,.refl _,rfl,H⟩
  (f.put F s _ hi bh (λb o i q=>k b o (λz=>i (by rw[z];exact .head _)) q) (λV V e=>e) H ⟨_,c,S,I⟩) (λb i=>?_) .none
 rw[f.tk]at i;exact⟨(j b i).1,aT (j b i).2 G,.inl i⟩
noncomputable def DQ(F:Fz)(h:gn)(as:List bu):Fz:=λb=>if b∈as then h.get? b else F b
def Qf(g:Gr F s c s')(d:∀a∈as,s.heap.objs.size<=a/\c a=aC):Gr F s (DQ c s'.heap as) s'/\Le c (DQ c s'.heap as):=by
 have le:Le c (DQ c s'.heap as):=λb o e=>by
  delta DQ;by_cases q:b∈as
  .rw [(d b q).2]at e;cases e
  .rw [if_neg q];exact e
 refine⟨⟨g.le.trans le,λb o e=>?_,g.keep,λb o e=>?_,g.size,g.gens,g.os,g.toks⟩,le⟩
 .unfold DQ at e;by_cases q:b∈as
  .exact .inr (d b q).1
  .rw [if_neg q]at e;exact g.new b o e
 .unfold DQ at e;by_cases q:b∈as
  .rw [if_pos q]at e;exact e
  .rw [if_neg q]at e;exact g.bh b o e
abbrev prT(p:Q1×Q1):bT×T:=(Ss p.1,.str (Ss p.2))
def Yo(h:Al w F ps kvs):∀{i:Nat},ps[i]?=ab (y,v)->∃t,kvs[i]?=ab (y,t)/\Rp w F v t:=by
 induction h with
 |nil=>intro i h;cases h
 | @cons x u t ps kvs r z a=>
  intro i h;cases i with
  |zero=>cases bt h;exact⟨t,rfl,r⟩
  |succ i=>exact a h
def Uf:∀{vs:List aE} {ts:List T},vs.length=ts.length->(∀(i:Nat) v t,vs[i]?=ab v->ts[i]?=ab t->Rp w F v t)->da w F vs ts:=
 @gx _ _ (fun {ts}=>ts.rec (λz z=>.nil) λz z z h z=>nomatch h) λv vs a {ts}=>ts.rec (λh z=>nomatch h) λt ts z b h=>.cons (h 0 v t rfl rfl) (a (pD b) λi=>h (i+1))
def xL{C:fv B}{zs:List (Q1×Q1)}(hB:dg w B)(hh:A.handled=aC)(hfn:Ev C w A ax fn (.val (.builtin "sorted"))) (hD:Ev C w A ax o (.dict (ps.map prT)))
 (R:0<ps.length) (J:ps.length<64) (hn:(ps.map (·.1)).Nodup) (hp:zs.Perm ps) (hs:zs.Pairwise λx y=>x.1<y.1)
 (he:dp (.Call fn [.Call (.Attribute o "items" u) [] [] j] [] H) ax=(do dB H (<-dp fn ax) [] (dc H (br [.Call (.Attribute o "items" u) [] [] j] ax)) (bR H (bk [] ax))))
 (hst:br [.Call (.Attribute o "items" u) [] [] j] ax=(false,dp (.Call (.Attribute o "items" u) [] [] j) ax)::br [] ax)
 (hi:dp (.Call (.Attribute o "items" u) [] [] j) ax=(do
  let ov <-dp o ax
  ej u.atName
  let (f,first) <-fL [ov] (ib ov "items" pl)
  dB j f first (dc j (br [] ax)) (bR j (bk [] ax))))
 (hp1:((dc H (br [.Call (.Attribute o "items" u) [] [] j] ax)).any (·.1) || (bR H (bk [] ax)).any (·.1.isNone))=false)
 (hp2:((dc j (br [] ax)).any (·.1) || (bR j (bk [] ax)).any (·.1.isNone))=false) :
 Ev C w A ax (.Call fn [.Call (.Attribute o "items" u) [] [] j] [] H) (.list (zs.map iM)):=by
 refine⟨λF s hP Q E hQ=>?_⟩;rw[he];refine aa (hfn.run F s hP _ _ λv F0 s0 g0 r=>?_);refine r.eV ?_;have hP0:=C.st hP g0;refine dC (P:=λh=>∀a o,B.get? a=ab o->h.get? a=ab o) hp1 (λh k=>(bK.bi (B:=B) (w:=w) (id:= "sorted")).ry h k) (kR rfl (kQ (gX (hD.run F0 s0 hP0 _ _ λv S L g r=>?_) hi) hst) hst);have V:=C.bs (C.st hP0 g);refine SL r.cV λd Z n hq e rd hnd hd1=>?_;subst hq;have eh:=V.bh _ _ e;have hT:L.TypeIs (.ref d) "dict":=⟨_,eh,rfl⟩;refine mQ hT pi kL AF (λb q=>by cases q;exact⟨_,eh,rfl⟩) <|dC (P:=λh=>∀a o,B.get? a=ab o->h.get? a=ab o) hp2 (λh k=>(bK.bi (B:=B) (w:=w) (id:= "dict.items")).ry h k) (B7 rfl (l0 ⟨V.keep,?_⟩));refine mB (Ey rd) λks q1 q2 q3=>?_;have hkk:=q3.MD;have D:ks.length=ps.length:=by have:=congrArg mX hkk;simpa using this
 have hm:∀h:gn,h.get? d=ab (sg Z n)->h.DictAt (aR pw w) d ks n:=λh e=>⟨_,Z.toArray,e,⟨rfl,rfl,rfl⟩,rfl,λe he=>q1 e (by simpa using he),by simpa using q2,by rw[hkk];exact hnd⟩;refine zR kL hT zS (zh _) (Y8 (aR pw w) d (beq_eq_false_iff_ne.mpr hd1)) ⟨⟨ks,let ⟨o,Z,r⟩:=hm _ eh;⟨o,Z,n,r⟩⟩,?_⟩;have g2:=fP (o:={cls:=.type "dict_items",data:=.fields #[.ref d]}) (n:=L.toks) V.bh;have N:=V.gr g2;have e2:=N.bh _ _ e;refine oF (l0 ⟨N.keep,?_⟩);have Y:Gr F s S _:=(g0.trans g).trans g2;have hv:(L.heap.push {cls:=.type "dict_items",data:=.fields #[.ref d]}).IsItemsView L.heap.objs.size d:=⟨_,aM _ rfl,rfl,rfl⟩;generalize L.heap.push {cls:=.type "dict_items",data:=.fields #[.ref d]}=W at g2 N e2 Y hv;refine call_function_entry kind_sorted plain_sorted entry_sorted (args_sorted1 _) ?_;delta Ca;refine aa (m:=checkCount "sorted" 1 1 _) (au ?_);refine aa (gC (kdx_collect (s:={L with heap:=W}) (knd:=aR pw w) hh hv (hm _ e2) (by rw[aJ];exact(bW Sy9) R J D) λU tk as k3 I hG hsz htk=>?_));have g3:Gr S {L with heap:=W} S {L with heap:=U,toks:=tk}:=⟨Le.refl _,λ_ _ e=>.inl e,λb o _ e=>k3 b o e,λb o e=>k3 b o (N.bh b o e),hsz,.refl _,rfl,htk⟩;have new:∀a∈as,s.heap.objs.size<=a/\S a=aC:=λa ha=>by
  have:=hG.above a ha;exact⟨aA Y.size (c9 this),oO (ic.refl N.bh:Gr S {L with heap:=W} S {L with heap:=W}) (c9 this)⟩
 refine dS (Qf (Y.trans g3) new) λg4 le4=>?_;generalize hF2:DQ S U as=X at g4 le4;have rv:da w X (as.map iP) (ps.map iM):=Uf (by rw[af,af,I,D]) λi v t ev O=>by
  rw[aI]at ev O;cases qa:as[i]? with
  |none=>rw[qa]at ev;cases ev
  |some a=>
   cases qp:ps[i]? with
   |none=>rw[qp]at O;cases O
   |some p=>
    rw[qa]at ev;rw[qp]at O;cases ev;cases O;refine DZ (hG.pairs i a qa) λkey k x ek hk eo=>cY (Yo q3 ek) λt O rt=>?_;rw[aI,qp]at O;refine dS (DU (bt O)) λek2 et2=>?_;subst ek2;subst et2;refine iA (tz hk) λtk1 hq=>?_;subst hq;refine .qb (n:=0) (vs:=[.str (Ss p.1) tk1,x]) ?_ (.cons (.str _ _) (.cons (rt.cC le4) .nil));rw[<-hF2];delta DQ;rw[if_pos (bX qa)];exact eo
 have G:(as.map iP).length=ps.length:=by rw[af,I,D]
 generalize as.map iP=vs at rv G;refine aa (rP ?_ (by rw[aJ];exact(lM 0x1000000790010f238f12f40291e103e) R J D I G));have M:=xr (o:=ca "list" vs.toArray 0) g4;have hoL:(U.push (ca "list" vs.toArray 0)).get? U.objs.size=ab (ca "list" vs.toArray 0):=aM _ rfl;have fD:X U.objs.size=aC:=oO g4 (ah _);have hr:=pK hn;rw[af,<-G]at hr;refine aa (bq (dJ Ge ⟨_,hoL,rfl⟩ DW (Cr (r:=wT (ps.map (·.1))) hoL #v[(lM 0x3110f238f12f40291e103e) R J D I G] #v[(lM 0x40290110f238f12f40291e103e) R J D I G] hr (λW=>⟨_,Ae M.bh fD rv #v[(lM 0x2303823d038f12f01f40290e003e) R J D I G W] hn⟩) λh' tk' c k e' hz ht=>⟨_,rfl,?_⟩) (qc2 _)));have rz:=yn (w:=w) (F:=X) (τ:=iM) (l:=ps) (d:=([],[])) (r:=wT (ps.map (·.1))) rv #v[(lM Sy8) R J D I G] (G▸hr);rw[AN (key:=(·.1)) hn #v[(lM Sy8) R J D I G] hp hs]at rz;have bh:∀b o,X b=ab o->h'.get? b=ab o:=λb o q=>k b o (λz=>by rw[z,fD]at q;cases q) (M.bh b o q);have hlo:s.heap.objs.size<=U.objs.size:=g4.size;have g6:Gr F s X {L with heap:=h',toks:=tk'}:=⟨M.le,M.new,λb o _ q=>k b o (λz=>absurd (aS q) (by rw[z];exact aV.mpr hlo)) (M.keep b o (λh=>nomatch h) q),bh,aA M.size hz,M.gens,M.os,aA M.toks ht⟩;refine au ⟨_,rfl,hQ _ (ie X U.objs.size _) _ (iW g6 fD e' hlo) (.list (n:=c) (by delta ie;rw[if_pos rfl]) (rz.cC (ee fD)))⟩
def E9(a x):(match DX "list.append" with
 |none=>cD ()
 |some b=>Bind.checkArgs "list.append" {b with full:= "list.append" } ⟨[a,x],[]⟩)=(cD ():jj Unit):=by kernel_rfl
def AS(a:s.heap.get? l=ab (ca "list" xs n)) (h:Q () s):aP (aO pw w) A (qc3 "list.append" ⟨[.ref l,x],[]⟩) Q E s:=by
 have key:=E9 (.ref l) x;have c:s.TypeIs (.ref l) "list":=⟨_,a,rfl⟩;delta qc3;cases d:DX "list.append" with
 |none=>exact au h
 |some f=>
  rw[d]at key;dsimp only at key ⊢;have e:builtinKind "list.append" = ab .method:=by kernel_rfl
  rw[e];dsimp only;refine bZ (λq=>absurd q #v[_]) λz=>aa (kX (b:=false) c (by rw[ip];kernel_rfl) ?_);refine bZ (λq=>absurd q (by decide +kernel)) λz=>aa (aa (Gh a (au ?_)));refine bZ (λq=>absurd (show false=true from q) #v[_]) λz=>aa (gV c ?_);dsimp only;have el:(FT (Zg "list")++FT "."++FT (Zg "list.append")) = "list.append":=by decide +kernel
  rw[el,key];exact au h
def GW(b:s.heap.get? q=ab (Ob "list.append" l)) (a:s.heap.get? l=ab (ca "list" xs n)) (e:xs.size<=be)
 (d:∀h' c,h'.get? l=ab (ca "list" (xs.push x) c)->cN l s.heap h'->Q .none {s with heap:=h'}):aP (aO pw w) A (wY (.ref q) [x]) Q E s:=by
 refine kB (qam ?_);refine aa (tr b ?_);refine bZ (λz=>?_) λq=>absurd (show (d3 "builtin_function_or_method"==d3 "method" ||d3 "builtin_function_or_method"==d3 "builtin_function_or_method" ||d3 "builtin_function_or_method"==d3 "method-wrapper")=true by decide) q;refine bZ (λz=>?_) λq=>absurd #v[_] q;refine aa (AS a ?_);refine aa (au (au ?_));refine⟨jV oJ.plain _,fJ PySem.F.entry_list_append ?_⟩;show aP _ _ (Zd l (·.push x) >>= λz=>ret .none) _ _ s;refine aa (tK a rfl (au (d _ (n+1) ?_ (bB ..))));rw[fx _ a (by rw[HW];rfl),HW]
def sX{K:Tk}(C:gM X K)(D:Ev (St.pre B w X loc K) w A X.ax func (R8 "list.append" l)) (d:Ev (St.pre B w X loc K) w A X.ax e t) (f:bU K K' (Tk.cu w l ts) (Tk.cu w l (ts++[t]))) (G:ts.length<=be)
 (H:dp (.Call func [e] [] pos) X.ax=(do dB pos (<-dp func X.ax) [] (dc pos (br [e] X.ax)) (bR pos (bk [] X.ax))))
 (I:((dc pos (br [e] X.ax)).any (·.1) || (bR pos (bk [] X.ax)).any (·.1.isNone))=false) (j:false=Tz e) :
 n8 B w X loc K A (.Call func [e] [] pos) (λm u=>m=K'/\u=.none):=by
 refine⟨λF s x Q E J=>?_⟩;rw[H];refine aa (D.run F s x _ _ λv L M g r=>?_);have i:=x.gr g;refine r.eA λq o eq p=>?_;subst p;refine dC (P:=λh=>h.get? q=ab (Ob "list.append" l)) I (λh k=>⟨.machine,.inr (.inl rfl),(qc4 (part:=aC) k).andThen .now⟩) (kR rfl ((aq (pos:=pos) d aK j).run L M i _ _ λvs y N g2 O=>l0 ⟨?_,?_⟩) (xp j))
 .exact(i.gr g2).bs.bh _ _ (g2.le _ _ eq)
 have b:=i.gr g2;refine O.e1 λv R=>m8 (f.get y N b.cV) λxs n e0 rs=>GW (b.bs.bh _ _ (g2.le _ _ eq)) e0 (by rw[aL,rs.length];exact G) λh' c e1 z=>ka (oM (n':=c) (ah _) f b.bs b.cV (λa d=>⟨(b.apart a d).1,(b.apart a d).2.1⟩) z (by rw[e1];simp) (rs.append (.cons R .nil))) λS U V=>?_;obtain⟨W,Y⟩:=b.mK C S (λZ h=>h) U λa d=>PU (V a d);exact J _ _ K' y _ ⟨rfl,rfl⟩ Y W (g.le.trans g2.le) .none
def Hn{K:Tk}(d:Ev (St.pre B w X loc K) w A X.ax (.Name x pos) (.val (.ref l)))(f:bU K K' (Tk.cu w l ts) L')(e:ts.length<=be):wS (St.pre B w X loc K) w A X.ax (.Name x pos) (!ts.isEmpty):=by
 refine⟨λF s b Q E h=>VT (d.run F s b _ _ λv c i g r=>?_) rfl⟩;have a:=b.gr g;refine r.eV <|m8 (f.get c i a.cV) λxs n e0 rs=>?_;have e2:(!xs.toArray.isEmpty)=!ts.isEmpty:=by cases rs<;>rfl
 refine zM ⟨_,e0,rfl,n,rfl⟩ ?_ (e2▸h _ c _ (g.trans (Gr.j4 a.bs.bh _)) rfl);rw[aL,rs.length];have:=e;rw[aJ]at this;exact(jP 0x740e8d4a51000a93c1000000790d) this ir
def BY{K:Tk}(x:A.handled=aC)(d:Ev (St.pre B w X loc K) w A X.ax iter (.val (.ref l)))(f:bU K K' (Tk.cu w l ts) L'):pO (St.pre B w X loc K) w A X.ax iter target ts [l]:=by
 refine⟨λF s k Q E y=>d.run F s k _ _ λv m a g r=>?_⟩;have c:=k.gr g;refine r.eV <|m8 (f.get m a c.cV) λvs n e r=>?_;have bh:=c.bs.bh;have p:a.heap.IsList l vs.toArray:=⟨_,e,rfl,n,rfl⟩;have q:l≠a.heap.objs.size:=cw (aS e);refine qD p (y (It.of (Jn x a.heap.objs.size l q vs.toArray)) m _ (g.trans (fP bh)) ⟨by show vs.toArray.size=_;rw[aL,r.length],⟨⟨_,aM _ rfl,rfl,rfl⟩,p.at λo e=>aG _ e⟩,λb j=>?_,kq,λb j=>?_,λi v G d=>?_⟩ (lO _ (λi h z=>mB z.1 λo C D H=>⟨o,C,D⟩) #v[_]) rfl)
 .cases aB.mp j;exact⟨c8 bh (ah _),g.size,by rw[aY];exact bH _⟩
 .rcases aX.mp j with h|h
  .exact .inl (by rw[h];exact .head _)
  .exact .inr (.inl h)
 .have u:vs.toArray[i]?=ab v:=d;refine cY (r.Ro (show vs[i]?=ab v by simpa using u)) λt e1 e2=>⟨t,e1,e2⟩
def Xj.I{K:Tk}{jk:Option (aE->jj Unit)->jj aE}(h:Xj (St.pre B w X loc K) w A jk us)(m:gM X K):UE B w X loc K A jk (λK' u=>∃D,X.s0.heap.objs.size<=D/\K'=K.bI (Tk.cu w D us)/\u=.val (.ref D)):=by
 refine⟨λF s a b Q E k=>h.run F s a b Q E λD Cl F' s' g o c d e l f n p=>?_⟩;refine dS (a.Vq m g o rfl c e d) λi j=>k D Cl _ _ F' s' ⟨D,aA a.d6.size e,rfl,rfl⟩ j i g.le (.val _) l (λq=>?_) n p;rcases ao.mp q with q|q
 .exact absurd (a.apart Cl q).2.1 (aV.mpr l)
 .exact f (aB.mp q).symm
structure xE(l:Q1):Prop where
 len:l.length<=50
 Uc:(lJ l).length<=300
 amp:38∉l->lJ l=l
 lt:60∉lJ l
 qt:34∉lJ l
 tb:9∉lJ l
 nl:10∉lJ l
 cr:13∉lJ l
def lh:mz C w A (cQ .In) (.str (Ss [c])) (.str (Ss l)) (.bool (decide (c∈l))):=by
 have:=VM (C:=C) (w:=w) (A:=A) (x:=Ss l) (y:=Ss [c]);rw[show (!(xw (Ss l) (Ss [c]) 0 (Ss l).length 1).isEmpty)=decide (c∈l) from StrLaws.found_one (Ss l) c]at this;exact this
def Kd{C:fv B}(k:dg w B)(m:Rm (n+3) A)(o:∀F s,C.P F s->1<=s.toks)(h:xE l):cR C w A (.ref 168) [.str (Ss l)] [] [] (.str (Ss (lJ l))):=by
 refine⟨λF s vs us f p q Q E g=>?_⟩;refine p.e1 λu x=>q.e0 <|enter (K:=Tk.dM 1) [("text",.str (Ss l))] [u] [] [] k (C.bs f) m rfl #v[] (cb rfl) rfl rfl (.cons x .nil) (o F s f) kq λL i D a=>Sh (kF a (aN (bJ (l:=[38]) #v[]) aF lh) (λb y i a=>?_) (λb y i a=>?_))
 .skip
  refine j8 (t:=.str (Ss (lJ l))) a ?_ (.inl rfl) rfl ?_
  .have z : "&" = Ss [38]:=by kernel_rfl
   have j : "&amp;" = Ss [38,97,109,112,59]:=by kernel_rfl
   rw[Ms];refine z▸j▸yj aF SM (by decide +kernel) ?_ rfl rfl;have:=h.len;rw[j,cX,cX];have:(l.length+1) * [38,97,109,112,59].length<=51*5:=tC #v[(bO 0x332906032290d) this] #v[_];exact(bW Sz4) (by assumption) this
  intro G H a;refine kF a (aN (bJ #v[]) aF lh) (λb c d a=>absurd (of_decide_eq_true b) h.lt) (λb c d a=>?_);refine kF a (aN (bJ #v[]) aF lh) (λb c d a=>absurd (of_decide_eq_true b) h.qt) (λb c d a=>?_);refine kF a (aN (bJ #v[]) aF lh) (λb c d a=>absurd (of_decide_eq_true b) h.tb) (λb c d a=>?_);refine kF a (aN (bJ #v[]) aF lh) (λb c d a=>absurd (of_decide_eq_true b) h.nl) (λb c d a=>?_);refine kF a (aN (bJ #v[]) aF lh) (λb c d a=>absurd (of_decide_eq_true b) h.cr) (λb c d a=>?_);exact fi a aF λv F' s' h' r=>g v F' s' h'.d6 r
 .have e:=h.amp (of_decide_eq_false b);rw[show [(nN "text",T.str (Ss l))]=[(nN "text",T.str (Ss (lJ l)))] by rw[e]]at a;refine kF a (aN (bJ #v[]) aF lh) (λb c d a=>absurd (of_decide_eq_true b) h.lt) (λb c d a=>?_);refine kF a (aN (bJ #v[]) aF lh) (λb c d a=>absurd (of_decide_eq_true b) h.qt) (λb c d a=>?_);refine kF a (aN (bJ #v[]) aF lh) (λb c d a=>absurd (of_decide_eq_true b) h.tb) (λb c d a=>?_);refine kF a (aN (bJ #v[]) aF lh) (λb c d a=>absurd (of_decide_eq_true b) h.nl) (λb c d a=>?_);refine kF a (aN (bJ #v[]) aF lh) (λb c d a=>absurd (of_decide_eq_true b) h.cr) (λb c d a=>?_);exact fi a aF λv F' s' h' r=>g v F' s' h'.d6 r
section
open PySem.Builtin PySem.Builtin.ObjectAttr
def P7(d:Rp w F v t){c:List iL}{kvs:M2}(r:p9 w F c kvs):p9 w F (putL name (eX w.params name) (.str name tk) v c) (dz name t kvs):=by
 induction kvs generalizing c with
 |nil=>obtain rfl:=r.nw;exact .cons d .nil
 |cons y l f=>
  refine DZ r.Af λb z ds g a rs=>?_;subst g;unfold putL;show p9 w F (if (Ck y.1 b).isStr name=true then _ else _) (if y.1=name then (name,t)::l else y::dz name t l);by_cases q:y.1=name
  .rw [if_pos q,if_pos (show (Ck y.1 b).isStr name=true from decide_eq_true q)];exact q▸.cons d rs
  .rw [if_neg q,if_neg λe:(Ck y.1 b).isStr name=true=>q (of_decide_eq_true e)];exact .cons a (f rs)
def Hs{K:Frag}(X:K.In s.heap)(I:InstAt s.heap x (iQ C dx) C (ab (sg d n)))(p:plainOver K C=true)(r:NX K C name=ab aC)(u:(RP K C).any (·.hasDict)=true)(i:p9 w F d kvs)(y:Rp w F v t)(B:kvs.length<=900)
 (h:∀h' g n',cN dx s.heap h'->h'.get? dx=ab (sg g n')->p9 w F g (dz name t kvs)->R (.ok (.ret .none)) {s with heap:=h',toks:=s.toks+1}) :
 kP (aO pw w) A (.call (.builtin "object.__setattr__") ⟨[.ref x,.str name tk,v],[]⟩) R s:=by
 have f:(B8 name (sg d n)).isSome=true:=by
  cases q:kvs.lookup name with
  |none=>rw[vz i q];rfl
  |some t=>refine cY (vf (n:=n) i q) λv e _=>?_;rw[e];rfl
 refine osa_open X I p r λb=>cY (any_some u) λL E j=>?_;obtain⟨G,J,M,D⟩:=I;have D:s.heap.get? dx=ab (sg d n):=D;refine aa (au (aa (aa (Gh G (aa ((looks_clsIn X E).here ?_))))));rw[j];refine au (a:=ab dx) (aa (au (aa ?_)));delta nsSet;refine aa (aa (kW (au (aa (wpAny_mkText (aa (Gh D ?_)))))));have e:qax name (eX w.params name) (.str name s.toks) v (sg d n)=sg (putL name (eX w.params name) (.str name s.toks) v d) (putN name d n):=putName_dict name _ _ v d n;have k:(s.heap.update dx (qax name (eX w.params name) (.str name s.toks) v)).get? dx=ab (sg (putL name (eX w.params name) (.str name s.toks) v d) (putN name d n)):=by
  rw[fx _ D (by rw[e];rfl),e]
 have c:(!d.toArray.any (·.key.isStr name)&&d.toArray.any (·.refKey))=false:=by
  delta B8 at f;dsimp only at f;rw[<-NY,<-NY]
  split at f
  .rename_i H l
   rw[Oi.mpr ⟨H,List.mem_of_find?_eq_some l,List.find?_some l⟩];rfl
  .split at f
   .cases f
   .rename_i z;rw[fG]at z;rw[z,S6]
 have m:=P7 (name:=name) (tk:=s.toks) y i;have o:(putL name (eX w.params name) (.str name s.toks) v d).length<=1000:=by
  rw[AP m];exact(bW 0x3e83900160d384391d) B (HB)
 dsimp only;rw[aRefKeyMayBeTheName_at,c];refine wpAny_updatePart D <|aa (wpAny_lookBehind k (pastItsLine_dict (by rw[aL,aJ];exact(bO 0x1000000796003e8390d) o)) ?_);exact au (h _ _ _ (bB s.heap dx _) k m)
structure pN(w:bC)(Cc:bu)(name:bT):Prop where
 sa:eW (jw w) (.ref Cc) "__setattr__" = ab (ab (.builtin "object.__setattr__"))
 po:plainOver (jw w) Cc=true
 tk:NX (jw w) Cc name=ab aC
 hd:(RP (jw w) Cc).any (·.hasDict)=true
def vo{K:Tk}(j:dg w B)(i:St B w X loc K F s)(l:gM X K)(C:Ev (St.pre B w X loc K) w A X.ax b t)(D:Ev (St.pre B w X loc K) w A X.ax (.Name n np) (bP Cc dx))
 (f:bU K K' (Tk.gA w dx ats) (Tk.gA w dx (dz name t ats))) (h:pN w Cc name) (E:ats.length<=900)
 (k:∀F' s',gM X K'->St B w X loc K' F' s'->Go w A bj X.ax Q s')
 (G:autoParam (cD false=cf b (ab (.Attribute (.Name n np) name ap)) pos.line X.ax) ou):Go w A (.Assign [.Attribute (.Name n np) name ap] b pos::bj) X.ax Q s:=by
 refine⟨bF (AJ (C.run F s i _ _ λv H I g r=>D.run H I (i.gr g) _ _ λR q c g2 J=>?_) G.symm)⟩;have d:=(i.gr g).gr g2;have bs:=d.bs;refine J.eA λx o e p=>?_;subst p;refine qd (f.get q c d.cV) λS m u L M=>set_plain (dY j bs) (jq bs e u) h.sa (Hs (dY j (bs.gr (Gr.j4 bs.bh (c.toks+1)))) (jq (bs.gr (Gr.j4 bs.bh (c.toks+1))) e u) h.po h.tk h.hd L (r.cC g2.le) E λh' y n' z N O=>?_);exact(k q _ (λa P=>l a (f.tk▸P)) (((d.j4 (c.toks+1)).DE f l z (.head _) ⟨y,n',N,O,(qZ M).1⟩).j4 (c.toks+1+1))).run
end
def PZ{K:Tk}(d:dg w B)(e:Ev (St.pre B w X loc K) w A X.ax (.Name n np) (bP Cc dx))(g:vn (St.pre B w X loc K) w dx ats)(i:ats.lookup name=aC)(j:MU w Cc name f)
 (l:KO X x) (m:cD false=cf (.Attribute (.Name n np) name ap) (ab (.Name x c)) pos.line X.ax)
 (k:∀b,Ho B w X A Q (dz x (HM f b) loc) (K.bI (Tk.fz b (iQ Cc dx))) bj):Ho B w X A Q loc K (.Assign [.Name x c] (.Attribute (.Name n np) name ap) pos::bj):=
 ⟨λz z o p=>x6 d o e g i j l m λb F s h=>(k b).run F s (h.bI kq) λa q=>p a ((ao.mp q).elim id λh=>nomatch h)⟩
def WH{K:Tk}{jk:Option (aE->jj Unit)->jj aE}(h:Xj (St.pre B w X loc K) w A jk us)
 (c:Cj a X.ax (lU (.Name x px) X.ax)=(do let _ <-jk (ab (lU (.Name x px) X.ax)))) (b:cD true=cf a (ab (.Name x px)) pos.line X.ax)
 (d:KO X x) (k:∀D,X.s0.heap.objs.size<=D->Ho B w X A Q (dz x (.val (.ref D)) loc) (K.bI (Tk.cu w D us)) bj):Ho B w X A Q loc K (.Assign [.Name x px] a pos::bj):=
 C4 _ (λe=>h.I e) c b d λK' t f=>by obtain⟨D,g,rfl,rfl⟩:=f;exact k D g
def Ao{K:Tk}(K')(c:dg w B)(d:Ev (St.pre B w X loc K) w A X.ax a t)(e:Ev (St.pre B w X loc K) w A X.ax (.Name n np) (bP Cc dx))
 (f:bU K K' (Tk.gA w dx ats) (Tk.gA w dx (dz name t ats))) (g:pN w Cc name) (i:ats.length<=900) (k:Ho B w X A Q loc K' bj)
 (j:autoParam (cD false=cf a (ab (.Attribute (.Name n np) name ap)) pos.line X.ax) ou):Ho B w X A Q loc K (.Assign [.Attribute (.Name n np) name ap] a pos::bj):=
 ⟨λz z l b=>vo c l b d e f g i (λF s b h=>k.run F s h b) j⟩
def TR{K:Tk}(l)(K')(g:wS (St.pre B w X loc K) w A X.ax d b)
 (i:b=true->Ho B w X A (λfl s=>fl=.next/\∃F,gM X K'/\St B w X l K' F s) loc K body) (j:b=false->Ho B w X A (λfl s=>fl=.next/\∃F,gM X K'/\St B w X l K' F s) loc K a)
 (k:Ho B w X A Q l K' bj):Ho B w X A Q loc K (.If d body a pos::bj):=by
 refine⟨λF s m c=>⟨Uv m g λF' s' h=>?_⟩⟩;rw[t8];have key:Go w A (if b then body else a) X.ax (λfl s=>fl=.next/\∃F,gM X K'/\St B w X l K' F s) s':=by
  cases b with
  |true=>exact(i rfl).run F' s' h c
  |false=>exact(j rfl).run F' s' h c
 refine aa (cj key.run (λfl e q=>?_) λz z q=>q);obtain⟨rfl,f,c,n⟩:=q;exact(k.run f e n c).run
def MW{K:Tk}:Ho B w X A (λfl s=>fl=.next/\∃F,gM X K/\St B w X loc K F s) loc K []:=wq λF z a b=>⟨rfl,F,b,a⟩
def Te2{d e:Type}(t:T)(K:Tk)(c:T)(f:d->e->Tk):Prop:=t=c/\∃a b,K=f a b
@[elab_as_elim] def XI{d e:Type}{t c:T}{K:Tk}{f:d->e->Tk}{P:T->Tk->Prop}(h:Te2 t K c f)(k:∀a b,P c (f a b)):P t K:=by obtain⟨rfl,a,b,rfl⟩:=h;exact k a b
def Tx2{d e:Type}(t:T)(K:Tk)(c:d->e->T)(f:d->e->Tk):Prop:=∃a b,t=c a b/\K=f a b
@[elab_as_elim] def tx2{d e:Type}{t:T}{K:Tk}{c:d->e->T}{f:d->e->Tk}{P:T->Tk->Prop}(h:Tx2 t K c f)(k:∀a b,P (c a b) (f a b)):P t K:=by obtain⟨a,b,rfl,rfl⟩:=h;exact k a b
end Mine
namespace Mine
def tS(aD:List (List Pr))(pm us:Q1)(n:Nat):List (List Pr)×Q1:=n.rec (aD,pm) λi a=>(jF a.1 a.2 (us.getD i 0),sm a.1 a.2 (us.getD i 0))
def R7{aD:List (List Pr)}{us pm:Q1}:tS aD pm us (i+1)=(jF (tS aD pm us i).1 (tS aD pm us i).2 (us.getD i 0),sm (tS aD pm us i).1 (tS aD pm us i).2 (us.getD i 0)):=rfl
def tI(aD:List (List Pr))(pm us:Q1)(i:Nat):Nat:=Oa (tS aD pm us i).1 (tS aD pm us i).2 (us.getD i 0)
structure y7(aD:List (List Pr))(pm:Q1):Prop where
 nd:(aD.flatten.map (·.1)).Nodup
 le:∀y∈aD.flatten,y=(8,10)\/(y.1∈pm/\y.2=pm.idxOf y.1)
 Vc:∀u∈pm,u<=7
 pn:pm.Nodup
 ne:0<aD.length
 lr:aD.length<=20
def xW:∀n (l:Q1),l.Nodup->(∀x∈l,x<n)->l.length<=n:=ig (λl z h=>l.rec (motive:=λl=>(∀x∈l,x<0)->l.length<=0) (λz=>ah _) (λx z z h=>absurd (h x (.head _)) (ft _)) h) λn a l b h=>by
 have d:=a (l.erase n) (b.erase n) λx e=>by
  have c:=(b.mem_erase_iff).mp e;exact NZ (gb (h x c.2)) c.1
 exact Nat.sub_le_iff_le_add.mp (aA List.le_length_erase d)
def VI:∀{n:Nat},y∈gP aD n↔∃i r,i<n/\aD[i]?=ab r/\y∈r:=@Aw _ ⟨λh=>(nomatch h),λh=>h.elim λz h=>h.elim λz h=>absurd h.1 (ft _)⟩ λn b=>by
 show _∈aD.getD n []++gP aD n↔_;rw[ao,b];constructor
 .rintro (h | ⟨i,r,hi,e,a⟩)
  .rw [ar]at h;cases q:aD[n]? with
   |none=>rw[q]at h;cases h
   |some r=>rw[q]at h;exact⟨n,r,bH _,q,h⟩
  .exact⟨i,r,c4 hi,e,a⟩
 .rintro ⟨i,r,hi,e,a⟩;rcases cU (gb hi)with q|q
  .exact .inr ⟨i,r,q,e,a⟩
  .subst q;left;rw[ar,e];exact a
def GH:y∈gP aD aD.length↔y∈aD.flatten:=by
 rw[VI,xB];constructor
 .rintro ⟨i,r,z,e,a⟩;exact⟨r,bX e,a⟩
 .rintro ⟨r,b,a⟩;refine iA (jA.mp b) λi e=>⟨i,r,(bz.mp e).1,e,a⟩
def I0:(gP aD aD.length).find? (·.1==ui)=aC↔∀y∈aD.flatten,y.1≠ui:=by
 rw[oj];constructor
 .intro h y a;simpa using h y (GH.mpr a)
 .intro h y a;simpa using h y (GH.mp a)
def Cu{c:Type}(aD:List (List c))(x)(h:0<aD.length):(aD.set (aD.length-1) (aD.getD (aD.length-1) []++[x])).flatten=aD.flatten++[x]:=by
 obtain⟨l,a,rfl⟩:∃l a,aD=l++[a]:=by
  have b:aD≠[]:=λq=>by rw[q]at h;cases h
  exact⟨_,_,(nk b).symm⟩
 rw[aw,bx,jm,ar,jX (ah _),nR,List.set_append_right _ _ (ah _),nR];simp
def MZ(h:y7 aD pm)(f:ui<=7):y7 (jF aD pm ui) (sm aD pm ui)/\(jF aD pm ui).length=aD.length:=by
 delta jF sm;cases q:(gP aD aD.length).find? (·.1==ui)with
 |some y=>exact⟨h,rfl⟩
 |none=>
  dsimp only;have j:∀u∈pm,(if ui∈pm then pm else pm++[ui]).idxOf u=pm.idxOf u:=λu f=>by
   split
   .rfl
   .rw [wK,if_pos f]
  have k:(if ui∈pm then pm else pm++[ui]).idxOf ui=pm.idxOf ui:=by
   split
   .rfl
   .rename_i z;rw[wK,if_neg z,HU z];simp
  refine⟨⟨?_,?_,?_,?_,by rw[nh];exact h.ne,by rw[nh];exact h.lr⟩,by rw[nh]⟩
  .rw [Cu aD _ h.ne,aU];refine fb.mpr ⟨h.nd,by simp,λa g b i=>?_⟩;refine cY (bp.mp g) λy c l=>?_;subst l;have:b=ui:=by simpa using i
   rw[this];exact(I0.mp q) y c
  .rw [Cu aD _ h.ne];intro y c;rcases ao.mp c with c|c
   .rcases h.le y c with e | ⟨e1,e2⟩
    .exact .inl e
    .refine .inr ⟨?_,by rw[e2,j _ e1]⟩
     split
     .exact e1
     .exact ac _ e1
   .have e:y=(ui,pm.idxOf ui):=by simpa using c
    subst e;refine .inr ⟨?_,k.symm⟩;show ui∈if ui∈pm then pm else pm++[ui]
    split
    .rename_i z;exact z
    .simp
  .intro u d
   split at d
   .exact h.Vc u d
   .rcases ao.mp d with z|z
    .exact h.Vc u z
    .have:u=ui:=by simpa using z
     rw[this];exact f
  .split
   .exact h.pn
   .rename_i z
    refine fb.mpr ⟨h.pn,by simp,λa g b i=>?_⟩;have:b=ui:=by simpa using i
    rw[this];exact λe=>z (e▸g)
def y7.qn(h:y7 aD pm)(hi:∀i j,i<=8->j<=8->U i=U j->i=j)(k:∀i,(U i).length<=50):Xr U aD pm:=by
 have c:pm.length<=8:=xW 8 pm h.pn λx d=>by have:=h.Vc x d;exact(bO 0x8301730d) this
 have fl:∀r∈aD,∀y∈r,y∈aD.flatten:=λr b y a=>xB.mpr ⟨r,b,a⟩;have SG:∀y∈aD.flatten,y.1<=8/\y.2<=10:=λy a=>by
  rcases h.le y a with e | ⟨e1,e2⟩
  .rw [e];decide
  .have:=h.Vc _ e1;have:=bS e1;exact(lM 0xa31083007238e730d381f832d) c e2 (by assumption) this
 refine⟨hi,k,h.ne,h.lr,λr b=>⟨?_,λy a=>SG y (fl r b y a)⟩,λr b l f y a z m e=>?_,λu n=>by have:=h.Vc u n;exact(bO 0x8300730d) this,c,h.pn⟩
 .have o:Wy r aD.flatten:=List.sublist_flatten_of_mem b;have:=xW 9 (r.map (·.1)) (h.nd.sublist (o.map _)) λx d=>by
   refine cY (bp.mp d) λy a p=>?_;subst p;have:=(SG y (fl r b y a)).1;exact(bO 0x9301830d) this
  rw[af]at this;exact(bO 0x142900930d) this
 .rcases h.le y (fl r b y a)with e1 | ⟨e1,e2⟩<;>rcases h.le z (fl l f z m)with e3 | ⟨e3,e4⟩
  .rw [e1,e3]
  .rw [e1]at e;have:=bS e3;have e:10=z.2:=e;exact absurd (aT this c) (by rw[<-e4,<-e];decide)
  .rw [e3]at e;have:=bS e1;have e:y.2=10:=e;exact absurd (aT this c) (by rw[<-e2,e];decide)
  .rw [e2,e4]at e;have q:=bS e1;have s:=bS e3;have g:pm[qJ y.1 pm]?=ab y.1:=by rw[ay q,oh]
   have g2:pm[qJ z.1 pm]?=ab z.1:=by rw[ay s,oh]
   rw[e,g2]at g;exact(bt g).symm
def Fh(h:y7 aD pm)(a:∀u∈us,u<=7):∀i,i<=us.length->y7 (tS aD pm us i).1 (tS aD pm us i).2/\(tS aD pm us i).1.length=aD.length:=ig (λz=>⟨h,rfl⟩) λi b hi=>by
 refine dS (b (gc hi)) λc d=>?_;have e:us.getD i 0<=7:=by
  rw[gD hi];exact a _ (bV _)
 refine dS (MZ c e) λf g=>⟨f,g.trans d⟩
def y7.push(h:y7 aD pm)(a:aD.length+1<=20):y7 (aD++[[]]) pm:=
 ⟨by simpa using h.nd,by simpa using h.le,h.Vc,h.pn,by simp,by simpa using a⟩
def y7.pop(h:y7 aD pm)(a:1<aD.length):y7 aD.dropLast pm:=by
 have c:Wy aD.dropLast.flatten aD.flatten:=by
  have b:aD≠[]:=λq=>by rw[q]at a;cases a
  have:aD.flatten=aD.dropLast.flatten++[aD.getLast b].flatten:=by rw[<-ko,(nk b)]
  rw[this];exact List.sublist_append_left _ _
 exact⟨h.nd.sublist (c.map _),λy d=>h.le y (c.mem d),h.Vc,h.pn,by rw[sJ];exact(bO 0x1305031013e) a,by rw[sJ];have:=h.lr;exact(bO 0x14291305014290d013e) a this⟩
end Mine
namespace Mine
open PySem PySem.W PySem.Spec PySem.Calls PyProof.Rows
def C3{C:fv B}(b:dg w B):Ev C w A ax (.Dict [] [] pos) (.dict []):=by
 refine⟨λF s a Q E c=>?_⟩;have bh:=(C.bs a).bh;rw[arm_eval_Dict];refine aa (cz ?_);show aP _ A Ea Q E s;refine cE <|c _ (ie F s.heap.objs.size {cls:=.type "dict",data:=.dict #[]}) _ (iW (fP bh) (c8 bh (ah _)) (aM _ rfl) (ah _))
  (.dict dG .nil iS (λq=>absurd (pd b (C.bs a)) (by rw[q];exact cp _)))
def OK(h:kvs.length<=1000):Tr w A (.dict kvs) (!kvs.isEmpty):=by
 refine⟨fun {B} C F s v c r Q E d=>?_⟩;have bh:=(C.bs c).bh;refine SL r.cV λa k n f e l n1 g=>?_;subst f;refine Hl (Rp.BP bh r) λps i j z z=>?_;have b:ps.length=kvs.length:=by have:=congrArg mX j;simpa using this
 have e2:(!ps.isEmpty)=!kvs.isEmpty:=by
  cases ps<;>cases kvs<;>first|rfl | (simp at b)
 exact wpAny_truthy_dict (beq_eq_false_iff_ne.mpr g) i #v[(vj Sz3) h b ir] (e2▸d F _ (Gr.j4 bh _ #v[bO 0x6600]))
def Mm:mD C w A (.dict kvs) "get" (.builtin "dict.get") true:=by
 refine⟨λF s h c r pl Q E f=>?_⟩;refine SL r.cV λa i n g e j n1 k=>?_;subst g;have d:=(C.bs c).bh _ _ e;exact mQ ⟨_,d,rfl⟩ pi qz PySem.F.type_dict_get (λb q=>by cases q;exact⟨_,d,rfl⟩) (f F s (ic.refl (C.bs c).bh))
def OS(h:kvs.lookup x=aC/\t=.none\/kvs.lookup x=ab t):cR C w A (.builtin "dict.get") [.dict kvs,.str x] [] [] t:=by
 refine⟨λF s vs us f g i Q E b=>?_⟩;refine g.e2 λu y c j=>i.e0 ?_;have bh:=(C.bs f).bh;refine j.eS λtk=>SL c.cV λa z n l e rd n1 m=>?_;subst l;refine Hl (Rp.BP bh c) λps d B o p=>zR qz d.typeIs Cb (PySem.F.args_dict_get_2 _ _) (meets_dict_get (aR pw w) a (k:=x) (by simp[aR,d9]) (beq_eq_false_iff_ne.mpr m)) ⟨_,d.mapOf,?_⟩;rcases h with ⟨h,rfl⟩|h
 .rw [p x h];exact b _ F _ (Gr.j4 bh _) .none
 .refine cY (o x t h) λv q r=>?_;rw[q];exact b _ F _ (Gr.j4 bh _) r
def MP(h:kvs.lookup x=aC/\t=d\/kvs.lookup x=ab t):cR C w A (.builtin "dict.get") [.dict kvs,.str x,d] [] [] t:=by
 refine⟨λF s vs us g i j Q E b=>?_⟩;refine i.e3 λB D l c m o=>j.e0 ?_;have bh:=(C.bs g).bh;refine m.eS λtk=>SL c.cV λa G n p e rd n1 q=>?_;subst p;refine Hl (Rp.BP bh c) λps f H r u=>zR qz f.typeIs Cb (PySem.F.args_dict_get_3 _ _ _) (meets_dict_get_default (aR pw w) a (k:=x) (by simp[aR,d9]) (beq_eq_false_iff_ne.mpr q) l) ⟨_,f.mapOf,?_⟩;rcases h with ⟨h,rfl⟩|h
 .rw [u x h];exact b _ F _ (Gr.j4 bh _) o
 .refine cY (r x t h) λv y z=>?_;rw[y];exact b _ F _ (Gr.j4 bh _) z
def yo{ls:List Q1}(h:ls.flatten.length<=90000):cR C w A (.builtin "str.join") [.str (Ss []),.list (ls.map λl=>.str (Ss l))] [] [] (.str (Ss ls.flatten)):=by
 have e1:(ls.map λl=>T.str (Ss l))=(ls.map Ss).map T.str:=by rw[aQ];rfl
 rw[<-Dv,e1];refine B3 ?_;rw[cX,rN,Y7,FY];have e2:((ls.map Ss).map (·.length)).sum=ls.flatten.length:=by
  rw[Ju,aQ];congr 1
 rw[e2];exact(bW 0x1000000790001f15f90590d) h e2
def Tj{K:Tk}(f:bU K K' (Tk.cu w a ts) L'):mD (St.pre B w X loc K) w A (.val (.ref a)) "sort" (.builtin "list.sort") true:=Df f PySem.F.slot_list_sort PySem.F.type_list_sort
def yc:∀{n:Nat},(∀i j,i<n->j<n->κ i=κ j->i=j)->oT κ τ (λz=>true) n=(am n).map λi=>(κ i,τ i):=@Aw _ (λz=>rfl) λn a h=>by
 rw[q7,if_pos rfl,(a λi j hi b=>h i j (c4 hi) (c4 b)),dv,aU,A9]
 .rfl
 .rw [NQ];intro y c;refine cY (bp.mp c) λi hi d=>?_;subst d;have hi:=c5.mp hi;simpa using λq=>absurd (h i n (c4 hi) (bH _) q) (cw hi)
def Ew:∀{n:Nat} {κ:Nat->bT} {τ:Nat->T},(∀i j,i<n->j<n->κ i=κ j->i=j)->∀{i:Nat},i<n->((am n).map λi=>(κ i,τ i)).lookup (κ i)=ab (τ i):=@Aw _ (fun {z z} z {z} hi=>absurd hi (ft _)) λn c {κ τ} h {i} hi=>by
 rw[Eg,bN,lookup_cons];by_cases q:κ i=κ 0
 .rw [if_pos q,h i 0 hi (lR _) q]
 .rw [if_neg q];cases i with
  |zero=>exact absurd rfl q
  |succ i=>
   rw[aQ];exact c (κ:=λi=>κ (i+1)) (τ:=λi=>τ (i+1)) (λa b d f e=>pD (h (a+1) (b+1) (yX d) (yX f) e)) (lV hi)
section
open PySem.Builtin PySem.Builtin.ObjectAttr
structure Wa where
 dx:bu
 pm:bu
 dn:bu
 ns:bu
 ps:bu
 pc:bu
abbrev nT(W:Wa)(rs rd:Bool):M2:=
 [("_write",R8 "list.append" W.pc),("_data",.list []),("_with_comments",.bool false),("_strip_text",.bool false),("_exclude_attrs",.none),("_exclude_tags",.none),("_rewrite_prefixes",.bool true),("_qname_aware_tags",.none),
  ("_find_qname_aware_attrs",.none),("_declared_ns_stack",gL W.dn),("_ns_stack",gL W.ns),("_prefix_map",gL W.pm),("_preserve_space",gL W.ps),("_pending_start",.none),("_root_seen",.bool rs),("_root_done",.bool rd),("_ignored_depth",.int 0)]
def Ni(W)(rs rd):SO (nT W rs rd) W.pm W.dn:=⟨rfl,rfl,rfl,rfl⟩
noncomputable abbrev iB:D7:=⟨135,71,135,96⟩
noncomputable abbrev gf:bT:= "C14NWriterTarget._start.<locals>.<lambda>"
noncomputable abbrev y6(k:Nat):List T:=aW k (.bool false)
noncomputable abbrev JF(k:Nat):List T:=aW k (.list [])
abbrev w8(pcs:List Q1):List T:=pcs.map λl=>.str (Ss l)
abbrev Tk.wz(w:bC)(W:Wa)(m k:Nat)(pcs:List Q1)(tb:Option bu):Tk:=
 ((((Tk.cu w W.ns (JF m)).bI (Tk.cu w W.ps (y6 k))).bI (Tk.cu w W.pc (w8 pcs))).bI (Tk.dM 1)).bI (Tk.tab 123 iB gf tb)
abbrev Tk.wr(U:S2)(w:bC)(W:Wa)(rs rd:Bool)(as:List bu)(pm:Q1)(aD:List (List Pr))(m k:Nat)(pcs:List Q1)(tb:Option bu):Tk:=
 (Tk.qn U w W.dx W.pm W.dn (nT W rs rd) as pm aD).bI (Tk.wz w W m k pcs tb)
abbrev At:=(Nat×Q1)×Q1
noncomputable abbrev jJ(U:S2)(z:Nat×Q1):Q1×Q1:=(U z.1,z.2)
abbrev iy(U:S2)(a:List At):M2:=a.map λy=>(i7 (jJ U y.1),.str (Ss y.2))
abbrev sV(q:Nat):Q1:=[120,109,108,110,115,58]++jv q
abbrev sr(U:S2)(l:List Pr):List (Q1×Q1):=l.map λy=>(sV y.2,U y.1)
abbrev xi(aD:List (List Pr))(pm us:Q1)(zs:List (Nat×Q1))(l:List At):List (Q1×Q1):=l.map λy=>(jv (tI aD pm us (zs.idxOf y.1))++58::y.1.2,y.2)
def s9(q:Nat)(tg:Q1):Q1:=60::(jv q++58::tg)
def wN(p:Q1×Q1):Q1:=(((([]++[32])++p.1)++[61,34])++lJ p.2)++[34]
def rK(l:List (Q1×Q1)):Q1:=(l.map wN).flatten
abbrev LP(U:S2)(zs:List (Nat×Q1))(i:Nat):bT:=i7 (jJ U (zs.getD i (0,[])))
abbrev Sl(U:S2)(aD:List (List Pr))(pm us:Q1)(zs:List (Nat×Q1))(i:Nat):T:=.qb [.str (Ss (jv (tI aD pm us i)++58::(zs.getD i (0,[])).2)),.str (Ss (zs.getD i (0,[])).2),.str (Ss (U (zs.getD i (0,[])).1))]
abbrev stC(U:S2)(W:Wa)(tg:Nat×Q1)(a:List At)(D:M2)(b:bu):M2:=
 [("self",bP 150 W.dx),("tag",.str (i7 (jJ U tg))),("attrs",.dict (iy U a)),("qname_text",.none),("qattrs",.none),("parsed_qnames",.dict D),("attr_list",gL b)]
abbrev stA(U:S2)(W:Wa)(tg:Nat×Q1)(a:List At)(na:bu):M2:=
 [("self",bP 150 W.dx),("tag",.str (i7 (jJ U tg))),("attrs",.dict (iy U a)),("new_namespaces",gL na),("qname_text",.none)]
def KR{K:Tk}
 (h:∀F s,St B w X loc K F s->∀a Q E,
  (∀D Cl t K' F' s',R K' t->gM X K'->St B w X loc K' F' s'->Le F F'->Rp w F' (.ref D) t->s.heap.objs.size<=Cl->Cl∉K'.tk->F' Cl=aC->(∃m,s'.heap.Ns Cl m)->pY (aO pw w) A E a Q (.ref D) Cl (.ok .next) s')->
  aP (aO pw w) A first (λv c=>aP (aO pw w) A (dk (.DictComp d e gens scope pos) scope X.ax b Ea false (cD v) a) Q E c) E s) :
 UE B w X loc K A (λa=>dk (.DictComp d e gens scope pos) scope X.ax b Ea false first a) R:=⟨λF s f a Q E g=>EN (h F s f a Q E g)⟩
def KN(w):MU w 150 "_qname" 90:=⟨by kernel_rfl,by kernel_rfl,by kernel_rfl,by kernel_rfl,by kernel_rfl,by decide,by kernel_rfl,by kernel_rfl⟩
def X2(w):pN w 150 "_root_seen":=⟨by kernel_rfl,by kernel_rfl,by kernel_rfl,by kernel_rfl⟩
def E0(a:dg w B):CodeHd B 125 123:=codeHd_of_K a.X #v[]
def J4:∀{a:List At},(∀y∈a,i7 (jJ U y.1)≠x)->(iy U a).lookup x=aC:=@gx _ _ (λw=>rfl) λy r b h=>by
 rw[iy,bN,lookup_cons,if_neg λq=>h y (.head _) q.symm];exact b λz c=>h z (.tail _ c)
def CB:∀{l:List Q1},(∀x∈l,x.length<=c)->l.flatten.length<=c*l.length:=@gx _ _ (λz=>ah _) λx l a h=>by
 rw[e9,aw,cq,Nat.mul_succ];exact(lM 0x38241040380d21d) (a λy b=>h y (.tail _ b)) (h x (.head _))
abbrev KA(U:S2)(w:bC)(W:Wa)(as:List bu)(b:List bT)(qa c:bu)(a:M2)(pm:Q1)(aD:List (List Pr))(z:Tk):Tk:=(((Tk.qn U w W.dx W.pm W.dn a as pm aD).bI z).bI (Tk.Kq w qa b)).bI (Tk.fz c (iQ 150 W.dx))
def C0(J:dg w B)(X:Rm (n+8) A)(hna:as[aD.length-1]?=ab na)(hn:(i7 (jJ U tg)::(iy U d).map (·.1)).Nodup)(hal:d.length<=7)
 (hUi:∀i j,i<=8->j<=8->U i=U j->i=j) (hUl:∀i,(U i).length<=50) (hpm1:W.pm≠1) (ok:y7 aD pm) (Z:zs.Perm (tg::d.map (·.1))) (hzs:(zs.map (jJ U)).Pairwise λx y=>(123::x.1:Q1)<123::y.1) (hzq:∀z∈zs,jJ U z∈JD) (hz7:∀z∈zs,z.1<=7)
  (hnn:G=(tS aD pm (zs.map (·.1)) zs.length).1.getD (aD.length-1) []) (hn0:G≠[]) (hnz:I.Perm G) (hnzs:I.Pairwise λx y=>sV x.2<sV y.2)
  (haz:C.Perm d) (hazs:C.Pairwise λx y=>pv (U x.1.1) x.1.2<pv (U y.1.1) y.1.2) (hav:∀y∈d,xE y.2) (hae:∀y∈G,xE (U y.1)) (hk1:1<=k) (hk2:k<=1000) (hm2:m<=1000) (hp2:pcs.length<=1000) :
 d5 B w (Tk.wr U w W rs rd as pm aD m k pcs tb) A (.ref 126) [bP 150 W.dx,.str (i7 (jJ U tg)),.dict (iy U d),gL na] [] [] (λK' t=>t=.none/\∃N,K'=Tk.wr U w W true rd as (tS aD pm (zs.map (·.1)) zs.length).2 (tS aD pm (zs.map (·.1)) zs.length).1 (m+1) (k+1) (((pcs++[s9 (tI aD pm (zs.map (·.1)) (zs.idxOf tg)) tg.2])++[rK (sr U I++xi aD pm (zs.map (·.1)) zs C)])++[[62]]) (ab N)):=by
 refine⟨λF s vs us bs hI hap hv hu Q E hQ=>?_⟩;refine hv.e4 λv1 v2 v3 v4 r1 r2 r3 r4=>hu.e0 <|enter (K:=Tk.wr U w W rs rd as pm aD m k pcs tb) (stA U W tg d na) [v1,v2,v3,v4,.none] (Tk.wr U w W rs rd as pm aD m k pcs tb).tk ["self", "parse_qname"] J bs X rfl #v[] (lN (dY J bs) #v[]) rfl rfl (.cons r1 (.cons r2 (.cons r3 (.cons r4 (.cons .none .nil))))) hI hap λL s1 hL hS=>n6 hS (jb rfl) <|ly ?_ ?_
 .exact dN (dR (b:=false) (c:=true) (aN (m7 J aF zt (t:=.none)) fQ eR) λh=>absurd h #v[_])
 refine WV (λD=>Tk.Kq w D (i7 (jJ U tg)::(iy U d).map (·.1))) ?_ (λ_=>rfl) (.inl rfl) rfl λqa hqa=>?_
 .exact Di J #v[] X.1 aF aF rfl hn (by rw[af];exact hal)
 refine cy (t:=.dict []) ?_ (.inl rfl) rfl ?_
 .exact C3 J
 refine ly ?_ ?_
 .exact aN (aF (t:=.none)) fQ eR
 refine ly ?_ ?_
 .exact dN (dR (b:=false) (c:=true) (aN (m7 J aF iv4 (t:=.none)) fQ eR) λh=>absurd h #v[_])
 refine cy (t:=.none) ?_ (.inl rfl) rfl ?_
 .exact fQ
 refine PZ (ats:=nT W rs rd) J ?_ iv4 rfl (KN w) (.inr ⟨rfl,.tail _ (.head _)⟩) rfl λR=>?_
 .exact aF
 have hqk:∀z∈zs,QOk (U z.1) z.2:=λz Z=>qok (hzq z Z);generalize hus:zs.map (·.1)=us;have hul:us.length=zs.length:=by rw[<-hus,af]
 have hus7:∀u∈us,u<=7:=λu hu=>by
  rw[<-hus]at hu;obtain⟨z,Z,rfl⟩:=bp.mp hu;exact hz7 z Z
 have hzl:zs.length=d.length+1:=by rw[Z.length_eq,cq,af]
 have hset:(i7 (jJ U tg)::(iy U d).map (·.1))=((tg::d.map (·.1)).map (jJ U)).map i7:=by simp
 have hpu:(zs.map (jJ U)).Perm ((tg::d.map (·.1)).map (jJ U)):=Z.map _;have hnd:(((tg::d.map (·.1)).map (jJ U)).map λp=>(123::p.1:Q1)).Nodup:=(hpu.map _).nodup_iff.mp (by
  rw[uW,cJ];exact hzs.imp fun {a b} h (e:(123::a.1:Q1)=123::b.1)=>by rw[e]at h;exact iV _ h)
 refine C4 (λK' t=>∃N,K'=KA U w W as (i7 (jJ U tg)::(iy U d).map (·.1)) qa R (nT W rs rd) (tS aD pm us zs.length).2 (tS aD pm us zs.length).1 (Tk.wz w W m k pcs (ab N))/\
  t=.dict (oT (LP U zs) (Sl U aD pm us zs) (λ_=>true) zs.length))
  (λS=>KR λF s hS use Q E hQ=>Jb (zs:=zs.map (jJ U)) (ns:=(tg::d.map (·.1)).map (jJ U)) (n:=n) (qa:=qa) (qual:=gf) (c:=125) (P:=123) (o:=tb)
   (Kc:=λo=>((Tk.wr U w W rs rd as pm aD m k pcs o).bI (Tk.Kq w qa (i7 (jJ U tg)::(iy U d).map (·.1)))).bI (Tk.fz R (iQ 150 W.dx))) J (X.deeper.dn rfl) hS S (λc=>bU.left (bU.left (bU.right (bU.right (bU.here (L:=Tk.tab 123 iB gf tb) (L':=Tk.tab 123 iB gf c) rfl))))) rfl ?_ ?_ ?_ ?_ rfl rfl rfl (E0 J) ?_ rfl ⟨_,rfl⟩ rfl ?_ ?_ ?_ hnd hpu hzs rfl ?_) rfl rfl (.inl rfl) λK' t hRR=>?_
 .exact jo J
 .exact aF
 .exact λc F s h=>hset▸h.1.2.1
 .exact λc F s h=>h.1.1.2.1.2.1.2 c rfl
 .rfl
 .intro p V X' hX;obtain⟨z,hz',rfl⟩:=bp.mp V;have hq:=hqk z (Z.mem_iff.mpr hz');have hk:X'.ax.kindOf "n" = ab .local:=by delta Env.kindOf;rw[hX];rfl
  refine cF (t:=Dh (123::U z.1,z.2)) (aF rfl (by delta okN;rw[hk,hX];rfl)) G7 (kj (aq (bJ (l:=[125]) #v[]) (aq bA aK))) bK.bi ?_ rfl;have hl:(i7 (jJ U z)).length+2<=be:=by rw[cX,aJ];have:=hq.lu;have:=hq.lt;simp[pv,jJ];exact(bW 0xfffffd6916040131f430d) (by assumption) this
  rw[show Dh (123::U z.1,z.2)=.list ((ke (i7 (jJ U z)) (Ss [125]) 1).map .str) by rw[hq.sp];rfl];exact Na #v[_] #v[_] hl
 .simp
 .simp;exact(bW 0x4029061061f730d) hal hzl
 .intro v N F1 s1 ho1 hS1 le1 hsz rz;refine Et (κ:=LP U zs) (τ:=Sl U aD pm us zs) (Ki:=λi=>KA U w W as (i7 (jJ U tg)::(iy U d).map (·.1)) qa R (nT W rs rd) (tS aD pm us i).2 (tS aD pm us i).1 (Tk.wz w W m k pcs (ab N)))
   (ts:=(zs.map (jJ U)).map λp=>.str (i7 p)) (f:=λi l=>dz "n" (.str (i7 (jJ U (zs.getD i (0,[]))))) l) J hS1 ho1 (λi=>rfl) su (by rw[af,af,aJ];exact(bW 0x10000007900160f731d) hal hzl)
   (λQ E k=>au ((iK X.deeper.1).run (St.pre B w _ _ _) F1 s1 v hS1 rz Q E k)) ?_ (λi=>j7 (.inl rfl)) ?_ ?_ (λx=>rfl) ?_
  .intro i t e cells L0 s0 F0;have ht:t=.str (i7 (jJ U (zs.getD i (0,[])))):=by
    rw[aI,aI]at e;cases q:zs[i]? with
    |none=>rw[q]at e;cases e
    |some z=>rw[q]at e;rw[ar,q];exact(bt e).symm
   subst ht;exact hO (.inl (kH rfl #v[_]))
  .intro i hi cells L0 D on;exact bD on
  .intro i hi cells Lo M own;rw[af,af]at hi;have hzi:zs.getD i (0,[])∈zs:=by rw[gD hi];exact bV _
   refine dS (Fh ok hus7 i #v[(dO 0x10020e21f) hul hi]) λw1 _=>?_;have hui:us.getD i 0=(zs.getD i (0,[])).1:=by
    rw[<-hus,ar,aI,ar,ay hi];rfl
   refine En (Cc:=150) (dx:=W.dx) (f:=90) (x:=R) (ts:=[.str (i7 (jJ U (zs.getD i (0,[]))))]) (ns:=[]) (ks:=[]) J own (bD nf) (kj (aq (bD nf) aK)) (λF s h=>h.cV.1.2.1) #v[] ?_ rfl;refine qcy (xZ (n:=n) J (X.deeper.dn rfl) (Ni W rs rd) (w1.qn hUi hUl) hpm1 (ui:=(zs.getD i (0,[])).1) (tg:=(zs.getD i (0,[])).2) (by have:=hz7 _ hzi;exact(bW 0x8300730d01f) hui this) (hzq _ hzi)) λK3 t h=>JB h <| ⟨?_,?_⟩
   .rw [<-hui];rfl
   .delta Sl tI;rw[hui]
  .intro D Cl F2 s2 own2 hS2 le2 r2 hCl hCK hCF hm;rw[af,af]at own2 hS2 r2 hCK;exact hQ D Cl _ _ F2 s2 ⟨N,rfl,rfl⟩ own2 hS2 (le1.trans le2) r2 (aA hsz hCl) hCK hCF hm
 refine exe hRR λN=>?_;rw[hus]at hnn;refine dS (Fh ok hus7 zs.length #v[(bW 0x10001f) hul]) λwF hrl=>?_;generalize hrows:(tS aD pm us zs.length).1=r at *;generalize hpm:(tS aD pm us zs.length).2=O at *;have hne:=ok.ne;refine Hr (λF s h=>h.1.1.1.2.1.2.1.1) λhasl=>?_;rw[af]at hasl;have hrr:(jp U r)[aD.length-1]?=ab (G.map (oz U)):=by rw[aI,hnn,ar,ay #v[(dO 0x11305112f003e01f) hrl hne hasl]];rfl
 have hnl:G.length<=20:=by
  rw[hnn,gD #v[(dO 0x11305112f003e01f) hrl hne hasl]];exact((wF.qn hUi hUl).SG _ (bV _)).1
 have frow:bU (KA U w W as (i7 (jJ U tg)::(iy U d).map (·.1)) qa R (nT W rs rd) O r (Tk.wz w W m k pcs (ab N))) _ (Tk.cu w na (G.map (oz U))) (Tk.cu w na (G.map (oz U))):=
  bU.left (bU.left (bU.left (bU.right (bU.right (bU.row (w:=w) (ts':=G.map (oz U)) hna hrr)))))
 have hnb:(!(G.map (oz U)).isEmpty)=true:=nE λq=>hn0 (tM.mp q);refine Sd ?_ ?_
 .exact hnb▸Hn aF frow (Kk hnl)
 refine WH (us:=(sr U G).map iM) ?_ rfl rfl (.inl rfl) λH hla=>?_
 .have eg:(sr U G).map iM=((am G.length).filter λ_=>true).map λi=>iM (sV (G.getD i (0,0)).2,U (G.getD i (0,0)).1):=by
   rw[pT,sr,aQ,jK G (0,0)];rfl
  rw[eg];refine z8 (n:=G.length) (τ:=λi=>oz U (G.getD i (0,0))) (ex:=[na]) (f:=λi l=>dz "prefix" (.str (Ss (jv (G.getD i (0,0)).2))) (dz "uri" (.str (Ss (U (G.getD i (0,0)).1))) l)) (p:=λ_=>true)
   nf su ((jK G (0,0) _)▸BY X.deeper.1 aF frow) (λa ha F s h=>?_) (HZ hnl) (λi hi=>x8 X.deeper.1 (.inl rfl) (.inl rfl)) (λi=>rV (.inl rfl) (.inl rfl)) (λi hi cells Lo D kn on=>je) (λi hi V cells Lo D kn on=>?_) (λx=>rfl)
  .cases aB.mp ha;refine sE (h.apart na (frow.sub na (.head _))) λq1 q2 _ q4=>⟨q1,q2,q4⟩
  .have V:=nY (G.getD i (0,0)).2;have hb:(!decide (Ss (jv (G.getD i (0,0)).2)=jx))=true:=by rw[decide_eq_false (λq=>V.2 (rE.mp q))];rfl
   refine eC (aq ?_ (aq (bD on) aK)) (by show 2<=be;decide);rw[show T.str (Ss (sV (G.getD i (0,0)).2))=(if true=true then T.str (Ss (sV (G.getD i (0,0)).2))else T.str (Ss [120,109,108,110,115])) from rfl];exact ja (hb▸eP (bD on) (yJ (Cz V.1))) (λ_=>bo (bJ (l:=[120,109,108,110,115,58]) #v[]) (bD on) (eO (a:=[120,109,108,110,115,58]) (b:=jv (G.getD i (0,0)).2) (by show 6+_<=10000000;exact(bO 0x9896806906340330d) V.1))) (λh=>absurd h #v[_])
 have ndz:((sr U G).map (·.1)).Nodup:=by
  have Y:(I.map λy=>sV y.2).Nodup:=by
   rw[uW,cJ];exact hnzs.imp fun {a b} h (e:sV a.2=sV b.2)=>by rw[e]at h;exact iV _ h
  rw[sr,aQ];exact(hnz.map λy=>sV y.2).nodup_iff.mp Y
 refine rj (λS=>cP S aF (Tj (bU.right (bU.here (L':=Tk.cu w H ((sr U G).map iM)) rfl))) AC bK.bi (K8 (ps:=sr U G) (zs:=sr U I) (bU.right (bU.here (L:=Tk.cu w H ((sr U G).map iM)) (L':=Tk.cu w H ((sr U I).map iM)) rfl)) ?_ ?_ ndz (hnz.map _) ?_) rfl) rfl rfl ?_
 .rw [af];exact tO.mpr hn0
 .rw [af];exact(bO 0x40290114290d) hnl
 .rw [cJ];exact hnzs
 have hnm:(zs.map λz=>i7 (jJ U z)).Nodup:=by
  have h2:=(hpu.map i7).nodup_iff.mpr (hset▸hn);rwa[aQ]at h2
 have hκ:∀i j,i<zs.length->j<zs.length->LP U zs i=LP U zs j->i=j:=λi j hi hj e=>by
  have g:∀i,i<zs.length->(zs.map λz=>i7 (jJ U z))[i]?=ab (LP U zs i):=λi hi=>by rw[aI,ay hi,LP,gD hi];rfl
  exact t5 hnm (g i hi) (e▸g j hj)
 rw[yc hκ];refine ii (stC U W tg d ((am zs.length).map λi=>(LP U zs i,Sl U aD pm us zs i)) H) rfl ?_;have hlook:∀z∈zs,((am zs.length).map λi=>(LP U zs i,Sl U aD pm us zs i)).lookup (i7 (jJ U z))=ab (.qb [.str (Ss (jv (tI aD pm us (zs.idxOf z))++58::z.2)),.str (Ss z.2),.str (Ss (U z.1))]):=λz Z=>by
  have hi:=bS Z;have e:zs.getD (zs.idxOf z) (0,[])=z:=by rw[ar,ay hi,oh];rfl
  have:=Ew (κ:=LP U zs) (τ:=Sl U aD pm us zs) hκ hi;simp only[LP,Sl,e]at this;exact this
 generalize hD:((am zs.length).map λi=>(LP U zs i,Sl U aD pm us zs i))=D at hlook ⊢;have hatz:∀y∈d,y.1∈zs:=λy hy=>Z.mem_iff.mpr (.tail _ (db hy));have hazl:C.length<=7:=by rw[haz.length_eq];exact hal
 have hnzl:I.length<=20:=by rw[hnz.length_eq];exact hnl
 refine TR (b:=!(iy U d).isEmpty) (stC U W tg d D H) ((KA U w W as (i7 (jJ U tg)::(iy U d).map (·.1)) qa R (nT W rs rd) O r (Tk.wz w W m k pcs (ab N))).bI (Tk.cu w H ((sr U I++xi aD pm us zs C).map iM)))
  ?_ (λhb=>?_) (λhb=>?_) ?_
 .exact eP aF (OK (by rw[af];exact(bW 0x3e83900061f730d) hal hzl))
 .refine Ft (ts:=(C.map λy=>((pv (U y.1.1) y.1.2,y.2):Q1×Q1)).map iM) (f:=λi l=>dz "v" (.str (Ss (C.getD i ((0,[]),[])).2)) (dz "k" (.str (Ss (pv (U (C.getD i ((0,[]),[])).1.1) (C.getD i ((0,[]),[])).1.2))) l))
   (λ_=>stC U W tg d D H) (λi=>(KA U w W as (i7 (jJ U tg)::(iy U d).map (·.1)) qa R (nT W rs rd) O r (Tk.wz w W m k pcs (ab N))).bI (Tk.cu w H ((sr U I++xi aD pm us zs (C.take i)).map iM))) ?_ (λ_=>⟨rfl,rfl⟩) (λi t e=>?_) rfl (by simp) ?_ ?_
  .have e1:iy U d=(d.map λy=>((pv (U y.1.1) y.1.2,y.2):Q1×Q1)).map prT:=by rw[aQ];rfl
   have h0:0<d.length:=pE hb;have nd:((d.map λy=>((pv (U y.1.1) y.1.2,y.2):Q1×Q1)).map (·.1)).Nodup:=by
    have Y:(C.map λy=>pv (U y.1.1) y.1.2).Nodup:=by
     rw[uW,cJ];exact hazs.imp fun {a b} h (e:pv (U a.1.1) a.1.2=pv (U b.1.1) b.1.2)=>by rw[e]at h;exact iV _ h
    rw[aQ];exact(haz.map λy=>pv (U y.1.1) y.1.2).nodup_iff.mp Y
   refine iC (t:=.list _) ?_ (iK X.deeper.1);refine xL (ps:=d.map λy=>((pv (U y.1.1) y.1.2,y.2):Q1×Q1)) J X.deeper.1 (jo J) (e1▸aF) (by rw[af];exact h0) (by rw[af];exact(bW 0x402901003e061f730d) hal hzl h0) nd (haz.map _) ?_ rfl rfl rfl rfl rfl;rw[cJ];exact hazs
  .have et:t=iM (pv (U (C.getD i ((0,[]),[])).1.1) (C.getD i ((0,[]),[])).1.2,(C.getD i ((0,[]),[])).2):=by
    rw[aI,aI]at e;cases q:C[i]? with
    |none=>rw[q]at e;cases e
    |some y=>rw[q]at e;rw[ar,q];exact(bt e).symm
   subst et;exact nX X.deeper.1 (ET (.inl rfl) (.inl rfl))
  .intro L1 i hi;rw[af,af]at hi;have ei:C[i]?=ab (C.getD i ((0,[]),[])):=gS hi _;have hym:C.getD i ((0,[]),[])∈C:=bX ei;generalize C.getD i ((0,[]),[])=y at ei hym ⊢;have hyz:=hatz y (haz.mem_iff.mp hym);have hq:=hqk _ hyz;refine ly ?_ ?_
   .exact dN (dR (b:=false) (c:=true) (aN (aF (t:=.none)) fQ eR) λh=>absurd h #v[_])
   refine uE (t:=.qb [.str (Ss (jv (tI aD pm us (zs.idxOf y.1))++58::y.1.2)),.str (Ss y.1.2),.str (Ss (U y.1.1))]) ?_ (nX X.deeper.1 (qbg (.inl rfl) (.inl rfl) (.inl rfl))) rfl rfl ?_
   .exact bf aF aF (oQ (hlook _ hyz))
   refine rj (λS=>cP S aF (iH (bU.left (bU.right (bU.here (L':=Tk.cu w H ((sr U I++xi aD pm us zs (C.take i)).map iM)) rfl)))) (kj (aq (eC (ts:=[.str (Ss (jv (tI aD pm us (zs.idxOf y.1))++58::y.1.2)),.str (Ss y.2)]) (aq ?_ (aq aF aK)) (by show 2<=be;decide)) aK)) bK.bi (gl (bU.left (bU.right (bU.here (L:=Tk.cu w H ((sr U I++xi aD pm us zs (C.take i)).map iM)) (L':=Tk.cu w H ((sr U I++xi aD pm us zs (C.take i)).map iM++[iM (jv (tI aD pm us (zs.idxOf y.1))++58::y.1.2,y.2)])) rfl))) ?_) rfl) rfl rfl ?_
   .have hb:(!decide (Ss (U y.1.1)=jx))=true:=by rw[decide_eq_false (λq=>by have Y:=rE.mp q;have h2:=hq.pu;rw[Y]at h2;cases h2)];rfl
    rw[show T.str (Ss (jv (tI aD pm us (zs.idxOf y.1))++58::y.1.2))=(if true=true then T.str (Ss (jv (tI aD pm us (zs.idxOf y.1))++58::y.1.2))else T.str (Ss y.1.2)) from rfl];exact ja (hb▸eP aF (yJ (by rw[cX,aJ];have:=hq.lu;exact(bO 0x10000007900430d) this))) (λ_=>aF) (λh=>absurd h #v[_])
   .rw [af,aw,af,af,dU,aJ];exact(dO 0x10000007921d04021e14290d732d) hazl hnzl hi
   have es:(sr U I++xi aD pm us zs (C.take i)).map iM++[iM (jv (tI aD pm us (zs.idxOf y.1))++58::y.1.2,y.2)]=(sr U I++xi aD pm us zs (C.take (i+1))).map iM:=by
    rw[d7,ei];simp[xi]
   rw[es];exact ma rfl
  .rw [af,af,iU];exact MW
 .have e0:d=[]:=zE hb;have e1:C=[]:=by have:=haz.length_eq;rw[e0]at this;exact yY this
  rw[e1,show xi aD pm us zs []=[] from rfl,cg];exact MW
 .have hns:(iy U d).lookup ("{http://www.w3.org/XML/1998/namespace}space" : bT)=aC:=by
   refine J4 λy hy q=>?_;have Y:=congrArg vP q;have h2:=hqk _ (hatz y hy);rw[cX]at Y;have h5:vP ("{http://www.w3.org/XML/1998/namespace}space" : bT)=43:=by kernel_rfl
   rw[h5]at Y;simp[pv]at Y;exact(bW 0x92a291604f131f430d) h2.lu h2.lt Y
  refine cy (t:=.none) ?_ (.inl rfl) rfl ?_
  .exact cF aF Mm (kj (aq Be aK)) bK.bi (OS (.inl ⟨hns,rfl⟩)) rfl
  have fps:∀ts',bU ((KA U w W as (i7 (jJ U tg)::(iy U d).map (·.1)) qa R (nT W rs rd) O r (Tk.wz w W m k pcs (ab N))).bI (Tk.cu w H ((sr U I++xi aD pm us zs C).map iM)))
   ((KA U w W as (i7 (jJ U tg)::(iy U d).map (·.1)) qa R (nT W rs rd) O r (((((Tk.cu w W.ns (JF m)).bI (Tk.cu w W.ps ts')).bI (Tk.cu w W.pc (w8 pcs))).bI (Tk.dM 1)).bI (Tk.tab 123 iB gf (ab N)))).bI (Tk.cu w H ((sr U I++xi aD pm us zs C).map iM)))
   (Tk.cu w W.ps (y6 k)) (Tk.cu w W.ps ts'):=λts'=>bU.left (bU.left (bU.left (bU.right (bU.left (bU.left (bU.left (bU.right (bU.here rfl))))))))
  have hlast:(y6 k)[(y6 k).length-1]?=ab (.bool false):=by rw[y6,dr,List.getElem?_replicate,if_pos #v[(bO 0x130513e8390d013d) hk1 hk2]]
  refine rj (λS=>cP S (m7 J aF N9 (t:=gL W.ps)) (iH (fps (y6 k))) (kj (aq (t:=.bool false) ?_ aK)) bK.bi (gl (fps (y6 k++[.bool false])) (by rw[y6,dr,aJ];exact(bO 0x100000079003e8390d013d) hk1 hk2)) rfl) rfl rfl ?_
  .rw [show T.bool false=(if false=true then T.bool false else T.bool false) from rfl];exact ja (eP aF pU) (λh=>absurd h #v[_]) (λ_=>bf (m7 J aF N9 (t:=gL W.ps)) (td bA) (wl (k:=1) (fps (y6 k)) #v[_] (by rw[y6,dr];exact hk1) #v[_] hlast))
  rw[eH.symm];refine cy (t:=R8 "list.append" W.pc) ?_ (.inl rfl) rfl ?_
  .exact m7 J aF N9 rfl
  have fpc:∀p1 p2,bU ((KA U w W as (i7 (jJ U tg)::(iy U d).map (·.1)) qa R (nT W rs rd) O r (Tk.wz w W m (k+1) p1 (ab N))).bI (Tk.cu w H ((sr U I++xi aD pm us zs C).map iM)))
   ((KA U w W as (i7 (jJ U tg)::(iy U d).map (·.1)) qa R (nT W rs rd) O r (Tk.wz w W m (k+1) p2 (ab N))).bI (Tk.cu w H ((sr U I++xi aD pm us zs C).map iM)))
   (Tk.cu w W.pc (w8 p1)) (Tk.cu w W.pc (w8 p2)):=λp1 p2=>bU.left (bU.left (bU.left (bU.right (bU.left (bU.left (bU.right (bU.here rfl)))))))
  have epc:∀(p1:List Q1) l,w8 p1++[.str (Ss l)]=w8 (p1++[l]):=λp1 l=>by simp[w8]
  have fapp:∀p1 l,bU ((KA U w W as (i7 (jJ U tg)::(iy U d).map (·.1)) qa R (nT W rs rd) O r (Tk.wz w W m (k+1) p1 (ab N))).bI (Tk.cu w H ((sr U I++xi aD pm us zs C).map iM)))
   ((KA U w W as (i7 (jJ U tg)::(iy U d).map (·.1)) qa R (nT W rs rd) O r (Tk.wz w W m (k+1) (p1++[l]) (ab N))).bI (Tk.cu w H ((sr U I++xi aD pm us zs C).map iM)))
   (Tk.cu w W.pc (w8 p1)) (Tk.cu w W.pc (w8 p1++[.str (Ss l)])):=λp1 l=>by rw[epc];exact fpc p1 (p1++[l])
  have htz:tg∈zs:=Z.mem_iff.mpr (.head _);refine rj (λS=>sX (ts:=w8 pcs) (t:=.str (Ss (s9 (tI aD pm us (zs.idxOf tg)) tg.2))) S aF ?_ (fapp pcs _) (Kk hp2) rfl rfl rfl) rfl rfl ?_
  .exact bo (bJ (l:=[60]) #v[]) (bf (bf aF aF (oQ (hlook _ htz))) bA (xb (i:=0) (j:=0) #v[_] #v[_] rfl rfl)) (eO (a:=[60]) (b:=jv (tI aD pm us (zs.idxOf tg))++58::tg.2) (by have:=(hqk _ htz).lt;simp;exact(bW 0x9896806916041340131f330d) ((nY (tI aD pm us (zs.idxOf tg))).1) this))
  have hlne:(!((sr U I++xi aD pm us zs C).map iM).isEmpty)=true:=nE λq=>by
   rw[tM.mp (Ec.mp (tM.mp q)).1]at hnz;exact hn0 hnz.nil_eq.symm
  have hll:(sr U I++xi aD pm us zs C).length<=27:=by rw[aw,af,af];exact(bW 0x1b29104014290d731d) hazl hnzl
  have fla:∀p1,bU ((KA U w W as (i7 (jJ U tg)::(iy U d).map (·.1)) qa R (nT W rs rd) O r (Tk.wz w W m (k+1) p1 (ab N))).bI (Tk.cu w H ((sr U I++xi aD pm us zs C).map iM))) _
   (Tk.cu w H ((sr U I++xi aD pm us zs C).map iM)) (Tk.cu w H ((sr U I++xi aD pm us zs C).map iM)):=λp1=>bU.right (bU.here rfl)
  generalize hal':sr U I++xi aD pm us zs C=al at fla fapp fpc hlne hll ⊢;refine Sd ?_ ?_
  .exact hlne▸Hn aF (fla _) (Kk hll)
  refine rj (λS=>sX (ts:=w8 (pcs++[s9 (tI aD pm us (zs.idxOf tg)) tg.2])) (t:=.str (Ss (rK al))) S aF ?_ (fapp _ _) (by rw[af,aw,bx,aJ];exact(bO Sw4) hp2) rfl rfl rfl) rfl rfl ?_
  .have hall:∀p∈al,xE p.2/\p.1.length<=20:=λp V=>by
    rw[<-hal']at V;rcases ao.mp V with V|V
    .obtain⟨y,hy,rfl⟩:=bp.mp V;exact⟨hae y (hnz.mem_iff.mp hy),by have:=(nY y.2).1;simp;exact(bO 0xe300330d) this⟩
    .obtain⟨y,hy,rfl⟩:=bp.mp V;have hy':=haz.mem_iff.mp hy;exact⟨hav y hy',by have:=(nY (tI aD pm us (zs.idxOf y.1))).1;have:=(hqk _ (hatz y hy')).lt;simp;exact(bW 0x142916040131f330d) (by assumption) this⟩
   have e1:(al.map wN).map (λl=>T.str (Ss l))=((am al.length).filter λ_=>true).map λi=>.str (Ss (wN (al.getD i ([],[])))):=by
    rw[pT,aQ,jK al ([],[])];rfl
   have hfl:((al.map wN).flatten).length<=90000:=by
    have:=CB (c:=330) (l:=al.map wN) λx hx=>by
     obtain⟨p,V,rfl⟩:=bp.mp hx;refine dS (hall p V) λY h2=>?_;simp[wN];exact(bW 0x14939166604012c391d14290d) h2 Y.Uc
    rw[af]at this;exact(bW 0x15f9059001014ac0d1b291d) hll this
   refine cF (t:=.str (Ss (al.map wN).flatten)) (bJ (l:=[]) #v[]) yf (kj (aq (t:=.list ((al.map wN).map λl=>.str (Ss l))) (mf ?_ rfl) aK)) bK.bi (yo hfl) rfl;rw[e1];refine uB (n:=al.length) (τ:=λi=>iM (al.getD i ([],[]))) (ex:=[H]) (f:=λi l=>dz "v" (.str (Ss (al.getD i ([],[])).2)) (dz "k" (.str (Ss (al.getD i ([],[])).1)) l)) (p:=λ_=>true)
    nf su ((jK al ([],[]) _)▸BY X.deeper.1 aF (fla _)) (λa ha F s h=>?_) (HZ hll) (λi hi=>x8 X.deeper.1 (.inl rfl) (.inl rfl)) (λi=>rV (.inl rfl) (.inl rfl)) (λi hi cells Lo D kn on=>je) (λi hi V cells Lo D kn on=>?_) (λx=>rfl)
   .cases aB.mp ha;refine sE (h.apart H ((fla (pcs++[s9 (tI aD pm us (zs.idxOf tg)) tg.2])).sub H (.head _))) λq1 q2 _ q4=>⟨q1,q2,q4⟩
   .have hpm':al.getD i ([],[])∈al:=by rw[gD hi];exact bV _
    refine dS (hall _ hpm') λhE hk'=>?_;have hEl:=hE.Uc;generalize al.getD i ([],[])=p at hE hk' hEl on;refine vD (oC (l:=[32]) ?_ ?_ (oC (l:=p.1) ?_ ?_ (oC (l:=[61,34]) ?_ ?_ (oC (l:=lJ p.2) ?_ ?_ (oC (l:=[34]) ?_ ?_ (Eo ?_))))))
    .exact bJ #v[]
    .decide
    .exact BK (bD on) (HZ hk')
    .rw [aJ];simp;exact(bO 0x1000000790134014290d) hk'
    .exact bJ #v[]
    .rw [aJ];simp;exact(bO 0xfffffd690014290d) hk'
    .refine BK (kD J (aq (bD on) aK) (Kd (n:=n) J (X.deeper.dn rfl) (λF s h=>(kn F s h).cV.1.1.1.2.1.1.2.1) hE)) (HZ hEl)
    .rw [aJ];simp;exact(bW 0x1000000791230464012c391d14290d) hk' hEl
    .exact bJ #v[]
    .rw [aJ];simp;exact(bW 0xfffffe6916604012c391d14290d) hk' hEl
    .rw [aJ];simp;exact(bW 0xffffff69166604012c391d14290d) hk' hEl
  refine rj (λS=>sX (ts:=w8 ((pcs++[s9 (tI aD pm us (zs.idxOf tg)) tg.2])++[rK al])) (t:=.str (Ss [62])) S aF (bJ #v[]) (fapp _ _) (by rw[af,aw,aw,bx,bx,aJ];exact(bO 0x10000007906603e8390d) hp2) rfl rfl rfl) rfl rfl <|ly ?_ ?_
  .exact aN (aF (t:=.none)) fQ eR
  have eu:dz ("_root_seen" : bT) (.bool true) (nT W rs rd)=nT W true rd:=by rfl
  refine Ao (ats:=nT W rs rd) (t:=.bool true) (((((((Tk.gA w W.dx (dz ("_root_seen" : bT) (.bool true) (nT W rs rd))).bI (Tk.gA w W.pm (yE U O))).bI (Tk.U2 w W.dn as (jp U r))).bI (Tk.wz w W m (k+1) (((pcs++[s9 (tI aD pm us (zs.idxOf tg)) tg.2])++[rK al])++[[62]]) (ab N))).bI (Tk.Kq w qa (i7 (jJ U tg)::(iy U d).map (·.1)))).bI (Tk.fz R (iQ 150 W.dx))).bI (Tk.cu w H (al.map iM)))
   J jL aF (bU.left (bU.left (bU.left (bU.left (bU.left (bU.left (bU.here (L:=Tk.gA w W.dx (nT W rs rd)) (L':=Tk.gA w W.dx (dz ("_root_seen" : bT) (.bool true) (nT W rs rd))) rfl))))))) (X2 w) (by show 17<=900;decide) ?_ rfl
  rw[eu];have fns:∀t1 t2,bU ((KA U w W as (i7 (jJ U tg)::(iy U d).map (·.1)) qa R (nT W true rd) O r (((((Tk.cu w W.ns t1).bI (Tk.cu w W.ps (y6 (k+1)))).bI (Tk.cu w W.pc (w8 (((pcs++[s9 (tI aD pm us (zs.idxOf tg)) tg.2])++[rK al])++[[62]])))).bI (Tk.dM 1)).bI (Tk.tab 123 iB gf (ab N)))).bI (Tk.cu w H (al.map iM)))
   ((KA U w W as (i7 (jJ U tg)::(iy U d).map (·.1)) qa R (nT W true rd) O r (((((Tk.cu w W.ns t2).bI (Tk.cu w W.ps (y6 (k+1)))).bI (Tk.cu w W.pc (w8 (((pcs++[s9 (tI aD pm us (zs.idxOf tg)) tg.2])++[rK al])++[[62]])))).bI (Tk.dM 1)).bI (Tk.tab 123 iB gf (ab N)))).bI (Tk.cu w H (al.map iM)))
   (Tk.cu w W.ns t1) (Tk.cu w W.ns t2):=λt1 t2=>bU.left (bU.left (bU.left (bU.right (bU.left (bU.left (bU.left (bU.left (bU.here (L:=Tk.cu w W.ns t1) (L':=Tk.cu w W.ns t2) rfl))))))))
  refine rj (λS=>cP S (m7 J aF N9 (t:=gL W.ns)) (iH (fns (JF m) (JF m))) (kj (aq (t:=.list []) (k7 aK #v[_]) aK)) bK.bi (gl (fns (JF m) (JF m++[.list []])) (by rw[JF,dr,aJ];exact(bO Sv7) hm2)) rfl) rfl rfl ?_;rw[eH.symm];refine wq λF23 s23 hS S=>(hQ .none .none (Tk.wr U w W true rd as O r (m+1) (k+1) (((pcs++[s9 (tI aD pm us (zs.idxOf tg)) tg.2])++[rK al])++[[62]]) (ab N)) F23 s23 ⟨rfl,N,?_⟩ hS.d6 hS.cV.1.1.1 (λa ha=>?_) .none)
  .rw [hus,hrows,hpm,hal']
  .have h:=hS.apart a (ac _ (ac _ (ac _ ha)));exact⟨h.1,h.2.1,.inl ha⟩
structure SOk(U:S2)(aD:List (List Pr))(pm:Q1)(tg:Nat×Q1)(at':List At)(zs:List (Nat×Q1))(nz:List Pr)(az:List At):Prop where
 nd:(i7 (jJ U tg)::(iy U at').map (·.1)).Nodup
 al:at'.length<=7
 zp:zs.Perm (tg::at'.map (·.1))
 zd:(zs.map (jJ U)).Pairwise λx y=>(123::x.1:Q1)<123::y.1
 zq:∀z∈zs,jJ U z∈JD
 z7:∀z∈zs,z.1<=7
 n0:(tS aD pm (zs.map (·.1)) zs.length).1.getD (aD.length-1) []≠[]
 np:nz.Perm ((tS aD pm (zs.map (·.1)) zs.length).1.getD (aD.length-1) [])
 nsd:nz.Pairwise λx y=>sV x.2<sV y.2
 ae:∀y∈nz,xE (U y.1)
 ap:az.Perm at'
 asd:az.Pairwise λx y=>pv (U x.1.1) x.1.2<pv (U y.1.1) y.1.2
 av:∀y∈at',xE y.2
structure UOk(U:S2):Prop where
 inj:∀i j,i<=8->j<=8->U i=U j->i=j
 len:∀i,(U i).length<=50
abbrev Sq(aD:List (List Pr))(pm:Q1)(zs:List (Nat×Q1)):List (List Pr):=(tS aD pm (zs.map (·.1)) zs.length).1
abbrev sPm(aD:List (List Pr))(pm:Q1)(zs:List (Nat×Q1)):Q1:=(tS aD pm (zs.map (·.1)) zs.length).2
abbrev Xk(U:S2)(aD:List (List Pr))(pm:Q1)(tg:Nat×Q1)(zs:List (Nat×Q1))(a:List Pr)(b:List At)(pcs:List Q1):List Q1:=
 ((pcs++[s9 (tI aD pm (zs.map (·.1)) (zs.idxOf tg)) tg.2])++[rK (sr U a++xi aD pm (zs.map (·.1)) zs b)])++[[62]]
def QR(h:((((((Tk.gA w W.dx (nT W rs rd)).bI (Tk.gA w W.pm (yE U pm))).bI ((Tk.cu w W.dn (as.map gL++[gL na])).bI (Tk.y3 w as (jp U aD)))).bI (Tk.wz w W m k pcs tb)).bI (Tk.cu w na []))).I F s) :
 (Tk.wr U w W rs rd (as++[na]) pm (aD++[[]]) m k pcs tb).I F s:=by
 obtain⟨⟨⟨⟨p,r,t⟩,⟨u,v,x⟩,l⟩,y,j⟩,n,g⟩:=h;have f:∀a∈(((Tk.gA w W.dx (nT W rs rd)).bI (Tk.gA w W.pm (yE U pm))).bI ((Tk.cu w W.dn (as.map gL++[gL na])).bI (Tk.y3 w as (jp U aD)))).tk,a≠na:=λa c q=>g a (ac _ c) (by rw[q];exact .head _);refine ka v λd z A=>⟨⟨⟨p,r,t⟩,⟨?_,⟨?_,?_,?_⟩,λa c q=>?_⟩,λa c q=>?_⟩,y,λa c q=>?_⟩
 .rw [aU];exact u
 .rw [af]at d;rw[aw,af,aw,d];rfl
 .refine fb.mpr ⟨z,by simp,λa c b B=>?_⟩;have:b=na:=by simpa using B
  rw[this];exact λe=>(λq=>f na (ag _ (ag _ q)) rfl) (e▸c)
 .intro i a ts e1 e2;rw[af]at d;rw[show jp U (aD++[[]])=jp U aD++[[]] from aU]at e2;by_cases hi:i<as.length
  .rw [ki hi]at e1;rw[ki (by rw[af];exact(dO Su4) d hi)]at e2;exact A i a ts e1 e2
  .rw [jX #v[(dO 0x1000116c20f) d hi]]at e1;rw[jX (by rw[af];exact(dO 0x1002116c02f) d hi),af,<-d]at e2;have o:i-as.length=0:=by
    have:=(bz.mp e1).1;simp at this;exact(bW 0x3105203105f) this
   rw[o]at e1 e2;have e1:na=a:=by simpa using e1
   have e2:([]:List T)=ts:=by simpa using e2
   subst e1;subst e2;exact n
 .have c:a=W.dn:=aB.mp c;subst c;rcases ao.mp q with q|q
  .exact x W.dn (.head _) q
  .exact f W.dn (ag _ (ac _ (.head _))) (aB.mp q)
 .rcases ao.mp q with q|q
  .exact l a c (ac _ q)
  .rcases ao.mp q with q|q
   .exact l a c (ag _ q)
   .exact f a (ac _ c) (aB.mp q)
 .rcases ao.mp c with c|c
  .exact j a (ac _ c) q
  .rcases ao.mp c with c|c
   .exact j a (ag _ (ac _ c)) q
   .rcases ao.mp c with c|c
    .exact j a (ag _ (ag _ c)) q
    .exact(show ∀a∈(Tk.wz w W m k pcs tb).tk,a≠na from λa c q=>g a (ag _ c) (by rw[q];exact .head _)) a q (aB.mp c)
def EE(e:dg w B)(r:Rm (n+9) A)(u:UOk U)(l:W.pm≠1)(ok:y7 (aD++[[]]) pm)(h:SOk U (aD++[[]]) pm tg g zs J M)(v:1<=k)(x:k<=1000)(z:m<=1000)(C:pcs.length<=1000) :
 d5 B w (Tk.wr U w W rs rd as pm aD m k pcs tb) A (.ref 120) [bP 150 W.dx,.str (i7 (jJ U tg)),.dict (iy U g)] [] [] (λK' t=>t=.none/\∃na o,K'=Tk.wr U w W true rd (as++[na]) (sPm (aD++[[]]) pm zs) (Sq (aD++[[]]) pm zs) (m+1) (k+1) (Xk U (aD++[[]]) pm tg zs J M pcs) (ab o)):=by
 refine⟨λF s vs us bs N D O P Q E R=>?_⟩;refine O.e3 λS V X Y Z r3=>P.e0 <|enter (K:=Tk.wr U w W rs rd as pm aD m k pcs tb) [("self",bP 150 W.dx),("tag",.str (i7 (jJ U tg))),("attrs",.dict (iy U g))] [S,V,X] (Tk.wr U w W rs rd as pm aD m k pcs tb).tk [] e bs r rfl #v[] (cb rfl) rfl rfl (.cons Y (.cons Z (.cons r3 .nil))) N D λL s1 hL hS=>n6 hS (jb rfl) <|ly ?_ ?_
 .exact dN (dR (b:=false) (c:=true) (aN (m7 e aF zt (t:=.none)) fQ eR) λh=>absurd h #v[_])
 refine ly ?_ ?_
 .exact eP (m7 e aF zt (t:=.list [])) (GA #v[_])
 refine pH (n:=0) (ts:=[]) ?_ rfl (.inl rfl) rfl λna hna=>?_
 .exact iD aK #v[_]
 have i:∀ts',bU ((Tk.wr U w W rs rd as pm aD m k pcs tb).bI (Tk.cu w na [])) (((((((Tk.gA w W.dx (nT W rs rd)).bI (Tk.gA w W.pm (yE U pm))).bI ((Tk.cu w W.dn ts').bI (Tk.y3 w as (jp U aD)))).bI (Tk.wz w W m k pcs tb)).bI (Tk.cu w na [])))) (Tk.cu w W.dn (as.map gL)) (Tk.cu w W.dn ts'):=
  λts'=>bU.left (bU.left (bU.right (bU.left (bU.here rfl))))
 refine Hr (λF s h=>h.1.1.2.1.2.1.1) λf=>?_;rw[af]at f;have j:=ok.lr;rw[aw,bx]at j;refine rj (λp=>cP p (m7 e aF iv4 rfl) (iH (i (as.map gL))) (kj (aq aF aK)) bK.bi (gl (i (as.map gL++[gL na])) (by rw[af,aJ];exact(bW 0x10000007900142916d10f) f j)) rfl) rfl rfl ?_;have G:∀a∈(Tk.wr U w W rs rd (as++[na]) pm (aD++[[]]) m k pcs tb).tk,a∈((((((Tk.gA w W.dx (nT W rs rd)).bI (Tk.gA w W.pm (yE U pm))).bI ((Tk.cu w W.dn (as.map gL++[gL na])).bI (Tk.y3 w as (jp U aD)))).bI (Tk.wz w W m k pcs tb)).bI (Tk.cu w na []))).tk:=λa d=>by
  rcases ao.mp d with d|d
  .rcases ao.mp d with d|d
   .exact ac _ (ac _ (ac _ d))
   .rcases ao.mp d with d|d
    .exact ac _ (ac _ (ag _ (ac _ d)))
    .rcases ao.mp d with d|d
     .exact ac _ (ac _ (ag _ (ag _ d)))
     .exact ag _ d
  .exact ac _ (ag _ d)
 refine q8 (Tk.wr U w W rs rd (as++[na]) pm (aD++[[]]) m k pcs tb) G (λ_ _=>QR) <|ly ?_ ?_
 .exact dN (dR (b:=false) (c:=true) (aN (m7 e aF zt (t:=.none)) fQ eR) λh=>absurd h #v[_])
 have q:(as++[na])[(aD++[[]]).length-1]?=ab na:=by
  rw[aw,bx,jm,<-f,jX (ah _),nR];rfl
 refine qN (λp=>cP p aF (P4 e zt) (kj (aq aF (aq aF (aq aF aK)))) (bK.fn e #v[])
  (C0 e (r.deeper.dn rfl) q h.nd h.al u.inj u.len l ok h.zp h.zd h.zq h.z7 rfl h.n0 h.np h.nsd h.ap h.asd h.av (λy hy=>h.ae y (h.np.mem_iff.mpr hy)) v x z C) rfl) (λK t h=>Qw h.1) rfl rfl λK' t H=>?_
 refine dS H λ_ hz=>?_;refine iA hz λo I=>?_;subst I;exact L6 R ⟨rfl,na,o,rfl⟩
def Em{K:Tk}(a:St B w X loc K F s)(b:n8 B w X loc K A e R)(hi:false=jy X.ax)(c:cD false=cf e aC pos.line X.ax)
 (k:∀K' t F' s',R K' t->gM X K'->St B w X loc K' F' s'->Go w A bj X.ax Q s'):Go w A (.Expr e pos::bj) X.ax Q s:=
 ⟨bF (wpAny_Expr_any (b.run F s a _ _ λv t d f g h i j z r=>(k d t f g h i j).run) hi.symm c.symm)⟩
def GX{K:Tk}(b:gM X K->n8 B w X loc K A e R)(hi:false=jy X.ax)(c:cD false=cf e aC pos.line X.ax)
 (k:∀K' t,R K' t->Ho B w X A Q loc K' bj):Ho B w X A Q loc K (.Expr e pos::bj):=⟨λz z d a=>Em d (b a) hi c λK' t F s r a h=>(k K' t r).run F s h a⟩
def RB{K:Tk}(j:n8 B w X loc K A b R)(h:∀K' t,R K' t->∃i r,R' K' r/\Ev (St.pre B w X loc K') w A X.ax slice i/\gF (St.pre B w X loc K') w A t i r):n8 B w X loc K A (.Subscript b slice pos) R':=by
 refine⟨λF s k Q E l=>FU (j.run F s k _ _ λc t d m n o p a e q=>?_)⟩;refine qd (h d t o) λi r f hi u=>hi.run m n a _ _ λg x y g2 z=>qd (u.run c g x y (a.gr g2) (q.cC g2.le) z Q E λv C D g3 G=>l v r d C D f p ((a.gr g2).gr g3) ((e.trans g2.le).trans g3.le) G) λT id H I J=>iA (BC c g) λM L=>tail_any H I J L
def Qb{K:Tk}{R:Tk->Q1->Prop}(h:n8 B w X loc K A e (λK' t=>∃l,t=.str (Ss l)/\R K' l/\l.length<=1000)):n8 B w X loc K A (.FormattedValue e (-1) aC pos) (λK' t=>∃l,t=.str (Ss l)/\R K' l/\l.length<=1000):=by
 refine⟨λF s f Q E g=>vU (h.run F s f _ _ λv t i j o b k a c r=>?_)⟩;obtain⟨l,rfl,b,d⟩:=b;refine r.eS λz=>gC (qat (λp tk n m=>g _ _ i j _ ⟨l,rfl,b,d⟩ k (a.gr (Gr.j4 a.bs.bh tk m)) c (.str _ _)) (Cz d))
def Ds{K:Tk}{e3:bv}{R:Tk->Q1->Prop}(i:Ev (St.pre B w X loc K) w A X.ax e1 (.str (Ss l1)))(j:n8 B w X loc K A e2 (λK' t=>∃l,t=.str (Ss l)/\R K' l/\l.length<=1000))
 (k:∀K',Ev (St.pre B w X loc K') w A X.ax e3 (.str (Ss l3))) (b:l1.length+l3.length<=1000):n8 B w X loc K A (.JoinedStr [e1,e2,e3] pos) (λK' t=>∃l,t=.str (Ss (l1++l++l3))/\R K' l/\l.length<=1000):=by
 refine⟨λF s e Q E m=>qcY (vS (i.run F s e _ _ λv n o g r=>?_))⟩;refine r.eS λz=>?_;have e0:jx++Ss l1=Ss l1:=by
  have:=rD [] l1;rwa[ge]at this
 dsimp only;rw[e0];refine⟨by rw[cX,aJ];exact(bW 0x100000079003e839104d) b,vS (j.run n o (e.gr g) _ _ λv t f p q d u a h r=>?_)⟩;obtain⟨l,rfl,d,c⟩:=d;refine r.eS λz=>?_;dsimp only;rw[rD];refine⟨by rw[cX,aw,aJ];exact(dO 0x10000007910403e8391d3e839204d) b c,?_⟩;refine vS ((k f).run p q a _ _ λv x y g3 r=>?_);refine r.eS λz=>?_;dsimp only;rw[rD];refine⟨by rw[cX,aw,aw,aJ];exact(dO Sy7) b c,joinParts_nil (m _ _ f x _ ⟨l,rfl,d,c⟩ u ((a.gr g3).gr (Gr.j4 (a.gr g3).bs.bh _)) ((g.le.trans h).trans g3.le) (.str _ _)) (by rw[cX,aw,aw,aJ];exact(dO Sy7) b c)⟩
def E7{K:Tk}{Kf:T->Tk->Tk}(I:dg w B)(hn:Ev (St.pre B w X loc K) w A X.ax (.Name n np) (bP Cc dx))(hD:vn (St.pre B w X loc K) w dx ats)(hl:ats.lookup name=ab (R8 "list.append" l))
 (hc:(RP (jw w) Cc).any (·.hasDict)=true) (J:eW (jw w) (.ref Cc) name=ab aC) (D:eW (jw w) (.ref Cc) "__getattribute__" = ab (ab (.builtin "object.__getattribute__"))) (L:eW (jw w) (.ref Cc) "__getattr__" = ab aC)
 (he:n8 B w X loc K A e R) (hz:t0.length<=be) (f:∀K' t,R K' t->bU K' (Kf t K') (Tk.cu w l t0) (Tk.cu w l (t0++[t])))
 (y:eval (.Call (.Attribute (.Name n np) name ap) [e] [] pos) X.ax=(do
  let M <-eval (.Name n np) X.ax
  ej ap.atName
  let (f,first) <-fL [M] (ib M name pl)
  dB pos f first (dc pos (br [e] X.ax)) (bR pos (bk [] X.ax))))
 (hp:autoParam (((dc pos (br [e] X.ax)).any (·.1) || (bR pos (bk [] X.ax)).any (·.1.isNone))=false) ou) (G:autoParam (br [e] X.ax=(false,eval e X.ax)::br [] X.ax) ou) :
 n8 B w X loc K A (.Call (.Attribute (.Name n np) name ap) [e] [] pos) (λK' u=>∃d t,R d t/\K'=Kf t d/\u=.none):=by
 refine⟨λF s N Q E hQ=>gX (hn.run F s N _ _ λv O S g r=>?_) y⟩;have i:=N.gr g;have bs:=i.bs;refine r.eA λx o ex p=>?_;subst p;refine qd (hD O S i) λes m z H _=>cY (vf (n:=m) H hl) λvw k1 U=>method_usual (dY I bs) (jq bs ex z) D L J rfl (get_value (dY I bs) (jq bs ex z) D (wb hc J k1) (HF U rfl) ?_);refine U.eA λq o2 eq p2=>?_;subst p2;refine dC (P:=λh=>h.get? q=ab (Ob "list.append" l)) hp (λh k=>⟨.machine,.inr (.inl rfl),(qc4 k).andThen .now⟩) (kR rfl (kQ (he.run O _ (i.gr (Gr.j4 bs.bh (S.toks+1))) _ _ λva t d V s3 W ho b j r3=>oF (l0 ⟨b.bs.bh _ _ (j _ _ eq),?_⟩)) G) G);have Y:=f d t W;refine m8 (Y.get V s3 b.cV) λxs n0 e0 rs=>GW (b.bs.bh _ _ (j _ _ eq)) e0 (by rw[aL,rs.length];exact hz) λh' c e1 Z=>ka (oM (n':=c) (ah _) Y b.bs b.cV (λa C=>⟨(b.apart a C).1,(b.apart a C).2.1⟩) Z (by rw[e1];simp) (rs.append (.cons r3 .nil))) λz H h3=>?_;obtain⟨h4,h5⟩:=b.mK ho z (λ_ h=>h) H λa C=>PU (h3 a C);exact hQ _ _ _ V _ ⟨d,t,W,rfl,rfl⟩ h5 h4 (g.le.trans j) .none
def Fu{K:Tk}(f:bU K K' (Tk.cu w l ts) L')(a:ts.length<=be):cR (St.pre B w X loc K) w A (.builtin "len") [.val (.ref l)] [] [] (.int (ts.length:Int)):=by
 refine⟨λF s vs us b c d Q E e=>?_⟩;refine c.e1 λh g=>d.e0 ?_;refine g.eV ?_;refine m8 (f.get F s b.cV) λxs n e0 rs=>?_;have e2:(xs.toArray.size:Int)=ts.length:=by rw[aL,rs.length]
 refine call_len_list ⟨_,e0,rfl,n,rfl⟩ (by rw[e2];rw[aJ]at a;exact(vj Sz6) a e2 ir) ?_;rw[e2];exact e _ F _ (Gr.j4 b.bs.bh _) (.int _ _)
def WN(w):pN w 150 "_root_done":=⟨by kernel_rfl,by kernel_rfl,by kernel_rfl,by kernel_rfl⟩
abbrev zA(q:Nat)(tg:Q1):Q1:=[60,47]++(jv q++58::tg)++[62]
def Uh{B:gn}{w:bC}{X:Fx}{loc:M2}{K:Tk}{F:Fz}{s:aH}(_:St B w X loc K F s)(h:X.md=K.tk):gM X K:=jb h
def Tq(h:((((Tk.gA w W.dx (nT W rs rd)).bI (Tk.gA w W.pm (yE U pm))).bI ((Tk.cu w W.dn (as.map gL)).bI (Tk.y3 w (as++[na]) (jp U (aD++[r]))))).bI (Tk.wz w W m k pcs tb)).I F s) :
 (Tk.wr U w W rs rd as pm aD m k pcs tb).I F s:=by
 obtain⟨⟨f,⟨g,j,l⟩,e⟩,n,c⟩:=h;refine ka j λd o p=>?_;have t:(jp U aD).length=as.length:=by
  rw[af,aw,aw]at d;rw[af];simp at d;exact(bW 0x10201f) d
 refine⟨⟨f,⟨g,⟨?_,(fb.mp o).1,λi a ts e1 e2=>p i a ts ?_ ?_⟩,λa b q=>l a b (ac _ q)⟩,λa b q=>?_⟩,n,λa b q=>?_⟩
 .exact t.symm
 .rw [ki (bz.mp e1).1];exact e1
 .rw [show jp U (aD++[r])=jp U aD++jp U [r] from aU,ki (bz.mp e2).1];exact e2
 .rcases ao.mp q with q|q
  .exact e a b (ac _ q)
  .exact e a b (ag _ (ac _ q))
 .rcases ao.mp b with b|b
  .exact c a (ac _ b) q
  .rcases ao.mp b with b|b
   .exact c a (ag _ (ac _ b)) q
   .exact c a (ag _ (ag _ (ac _ b))) q
def M6(g:dg w B)(J:Rm (n+6) A)(M:UOk U)(H:W.pm≠1)(ok:y7 (aD++[r]) pm)(h8:tg.1<=8)(q:jJ U tg∈JD)(I:(gP (aD++[r]) (aD++[r]).length).find? (·.1==tg.1)=ab y)(x:k<=1000)(N:m<=1000)(O:pcs.length<=1000) :
 d5 B w (Tk.wr U w W rs rd (as++[na]) pm (aD++[r]) (m+1) (k+1) pcs tb) A (.ref 133) [bP 150 W.dx,.str (i7 (jJ U tg))] [] [] (λK' t=>t=.none/\∃d,K'=Tk.wr U w W rs d as pm aD m k (pcs++[zA y.2 tg.2]) tb):=by
 refine⟨λF s vs us bs hI P hv hu Q E hQ=>?_⟩;refine hv.e2 λv1 v2 r1 r2=>hu.e0 ?_;have S:jF (aD++[r]) pm tg.1=aD++[r]:=by delta jF;rw[I]
 have o:sm (aD++[r]) pm tg.1=pm:=by delta sm;rw[I]
 have V:Oa (aD++[r]) pm tg.1=y.2:=by delta Oa;rw[I]
 refine enter (K:=Tk.wr U w W rs rd (as++[na]) pm (aD++[r]) (m+1) (k+1) pcs tb) [("self",bP 150 W.dx),("tag",.str (i7 (jJ U tg)))] [v1,v2] (Tk.wr U w W rs rd (as++[na]) pm (aD++[r]) (m+1) (k+1) pcs tb).tk [] g bs J rfl #v[] (cb rfl) rfl rfl (.cons r1 (.cons r2 .nil)) hI P λL s1 hL hS=>n6 hS (jb rfl) <|ly ?_ ?_
 .exact eP (m7 g aF zt (t:=.int 0)) Ml
 refine ly ?_ ?_
 .exact eP (m7 g aF zt (t:=.list [])) (GA #v[_])
 have X:∀p1 p2,bU (Tk.wr U w W rs rd (as++[na]) pm (aD++[r]) (m+1) (k+1) p1 tb) (Tk.wr U w W rs rd (as++[na]) pm (aD++[r]) (m+1) (k+1) p2 tb) (Tk.cu w W.pc (w8 p1)) (Tk.cu w W.pc (w8 p2)):=
  λp1 p2=>bU.right (bU.left (bU.left (bU.right (bU.here rfl))))
 have Y:∀(p1:List Q1) l,w8 p1++[.str (Ss l)]=w8 (p1++[l]):=λp1 l=>by simp[w8]
 refine GX (λp=>E7 (R:=λK' t=>K'=Tk.wr U w W rs rd (as++[na]) pm (aD++[r]) (m+1) (k+1) pcs tb/\t=.str (Ss (zA y.2 tg.2))) (Kf:=λt K'=>Tk.wr U w W rs rd (as++[na]) pm (aD++[r]) (m+1) (k+1) (pcs++[zA y.2 tg.2]) tb) (t0:=w8 pcs)
  g aF zt rfl (SN w) #v[] (Nu w) (SQ w) ?_ (Kk O) (λK' t h=>?_) rfl) rfl rfl λK' t j=>?_
 .refine n8.cC (Ds (l1:=[60,47]) (l3:=[62]) (R:=λK' l=>K'=Tk.wr U w W rs rd (as++[na]) pm (aD++[r]) (m+1) (k+1) pcs tb/\l=jv y.2++58::tg.2) (bJ #v[]) ?_ (λK'=>bJ #v[]) #v[_]) λK' t h=>?_
  .refine Qb (RB (R:=λK' t=>K'=Tk.wr U w W rs rd (as++[na]) pm (aD++[r]) (m+1) (k+1) pcs tb/\t=.qb [.str (Ss (jv y.2++58::tg.2)),.str (Ss tg.2),.str (Ss (U tg.1))]) ?_ λK' t h=>?_)
   .refine cP (f:=.ref 90) p aF (P4 g zt (ats:=nT W rs rd)) (kj (aq aF aK)) (bK.fn g #v[]) ?_ rfl;refine U4 ((xZ g (J.deeper.dn rfl) (Ni W rs rd) (ok.qn M.inj M.len) H h8 q).call) λK' t h=>JB h ?_;rw[S,o,V];exact⟨rfl,rfl⟩
   .refine dS h λq o=>?_;subst q;subst o;refine⟨.int 0,_,⟨_,rfl,⟨rfl,rfl⟩,?_⟩,bA,xb #v[_] #v[_] rfl rfl⟩;have:=(nY y.2).1;simp;exact(bW 0x3e83916040330d131f) ((qok q).lt) this
  .obtain⟨l,rfl,⟨rfl,rfl⟩,_⟩:=h;exact⟨rfl,rfl⟩
 .refine dS h λq o=>?_;subst q;subst o;rw[Y];exact X _ _
 obtain⟨K1,v,⟨rfl,rfl⟩,rfl,rfl⟩:=j;generalize hpc:pcs++[zA y.2 tg.2]=c at *;have z:∀v t2,bU (((((Tk.gA w W.dx (nT W rs rd)).bI (Tk.gA w W.pm (yE U pm))).bI (Tk.U2 w W.dn (as++[na]) (jp U (aD++[r]))))).bI (((((Tk.cu w W.ns (JF (m+1))).bI (Tk.cu w W.ps v)).bI (Tk.cu w W.pc (w8 c))).bI (Tk.dM 1)).bI (Tk.tab 123 iB gf tb)))
  (((((Tk.gA w W.dx (nT W rs rd)).bI (Tk.gA w W.pm (yE U pm))).bI (Tk.U2 w W.dn (as++[na]) (jp U (aD++[r]))))).bI (((((Tk.cu w W.ns (JF (m+1))).bI (Tk.cu w W.ps t2)).bI (Tk.cu w W.pc (w8 c))).bI (Tk.dM 1)).bI (Tk.tab 123 iB gf tb))) (Tk.cu w W.ps v) (Tk.cu w W.ps t2):=
  λv t2=>bU.right (bU.left (bU.left (bU.left (bU.right (bU.here rfl)))))
 have C:bU (Tk.wr U w W rs rd (as++[na]) pm (aD++[r]) (m+1) (k+1) c tb) (Tk.wr U w W rs rd (as++[na]) pm (aD++[r]) (m+1) k c tb) (Tk.cu w W.ps (y6 k++[.bool false])) (Tk.cu w W.ps (y6 k)):=eH▸z (y6 (k+1)) (y6 k);refine GX (λp=>cP p (m7 g aF zt rfl) (GS C) AC bK.bi (BX C (by rw[y6,dr,aJ];exact(bO Sw4) x)) rfl) rfl rfl λ_ _ j=>JB j <|Ao (((((Tk.gA w W.dx (dz "_root_done" (.bool (((y6 k).length:Int)==1)) (nT W rs rd))).bI (Tk.gA w W.pm (yE U pm))).bI (Tk.U2 w W.dn (as++[na]) (jp U (aD++[r]))))).bI (Tk.wz w W (m+1) k c tb))
  g ?_ aF (bU.left (bU.left (bU.left (bU.here rfl)))) (WN w) (by show 17<=900;decide) ?_ rfl
 .exact ky (dD g (m7 g aF zt rfl) bK.bi (Fu (z (y6 k) (y6 k)) (by rw[y6,dr,aJ];exact(bO Sv7) x))) bA EJ
 have eu:∀b:Bool,dz "_root_done" (.bool b) (nT W rs rd)=nT W rs b:=λb=>by rfl
 rw[eu];generalize (((y6 k).length:Int)==1)=d;have D:bU (Tk.wr U w W rs d (as++[na]) pm (aD++[r]) (m+1) k c tb) (((((Tk.gA w W.dx (nT W rs d)).bI (Tk.gA w W.pm (yE U pm))).bI ((Tk.cu w W.dn (as.map gL)).bI (Tk.y3 w (as++[na]) (jp U (aD++[r])))))).bI (Tk.wz w W (m+1) k c tb))
  (Tk.cu w W.dn (as.map gL++[gL na])) (Tk.cu w W.dn (as.map gL)):=by
  have e:as.map gL++[gL na]=(as++[na]).map gL:=by simp
  rw[e];exact bU.left (bU.right (bU.left (bU.here rfl)))
 refine Hr (λF s h=>h.1.2.1.2.1.1) λu=>?_;have Z:as.length<=20:=by
  have:=ok.lr;rw[af,aw,aw]at u;rw[aw]at this;simp at u this;exact(bW 0x14290013291d10f) u this
 refine GX (λp=>cP p (m7 g aF zt rfl) (GS D) AC bK.bi (BX D (by rw[af,aJ];exact(bO 0x10000007906014290d) Z)) rfl) rfl rfl λ_ _ j=>JB j ?_;have htk:∀a∈(Tk.wr U w W rs d as pm aD (m+1) k c tb).tk,a∈(((((Tk.gA w W.dx (nT W rs d)).bI (Tk.gA w W.pm (yE U pm))).bI ((Tk.cu w W.dn (as.map gL)).bI (Tk.y3 w (as++[na]) (jp U (aD++[r])))))).bI (Tk.wz w W (m+1) k c tb)).tk:=λa i=>by
  rcases ao.mp i with i|i
  .rcases ao.mp i with i|i
   .exact ac _ (ac _ i)
   .rcases ao.mp i with i|i
    .exact ac _ (ag _ (ac _ i))
    .exact ac _ (ag _ (ag _ (ac _ i)))
  .exact ag _ i
 refine q8 (Tk.wr U w W rs d as pm aD (m+1) k c tb) htk (λ_ _=>Tq) ?_;have G:bU (Tk.wr U w W rs d as pm aD (m+1) k c tb) (Tk.wr U w W rs d as pm aD m k c tb) (Tk.cu w W.ns (JF m++[.list []])) (Tk.cu w W.ns (JF m)):=by
  rw[<-eH];exact bU.right (bU.left (bU.left (bU.left (bU.left (bU.here rfl)))))
 refine GX (λp=>cP p (m7 g aF zt rfl) (GS G) AC bK.bi (BX G (by rw[JF,dr,aJ];exact(bO Sw4) N)) rfl) rfl rfl λ_ _ j=>JB j <|L6 hQ ⟨rfl,d,rfl⟩
def Rm.under(h:Rm (n+1) A):Rm n (A.under (.builtin "type.__call__" ⟨.ref C::vs,kw⟩)):=by
 have a:(Eh "type.__call__" ⟨.ref C::vs,kw⟩).weight=1:=by kernel_rfl
 have b:(Eh "type.__call__" ⟨.ref C::vs,kw⟩).cUnits=1:=by kernel_rfl
 refine⟨h.1,?_,?_⟩
 .have:=h.2.1;exact XN a this
 .have:=h.2.2;exact WZ b this
def x7{K:Tk}{R:bu->Tk->Prop}(D:dg w B)(G:Rm (n+1) A)(H:makesIn (jw w) C=true)(hi:eW (jw w) (.ref C) "__init__" = ab (ab (.ref fI))) (I:VW (jw w) (.ref fI)=ab (.type "function"))
 (h:∀dx m,Rm n m->nC B w (K.bI (Tk.gA w dx [])) m (.ref fI) (bP C dx::ts) ns ks (λK' t=>t=.none/\R dx K')):d5 B w K A (.ref C) ts ns ks (λK' t=>∃dx,t=bP C dx/\R dx K'):=by
 refine⟨λF s vs us bs J f L M Q E N=>kB ?_⟩;have j:=dY D bs;have p:Gr F s F {s with heap:=s.heap.push l7,toks:=s.toks}:=fP bs.bh (ah _);have g2:Gr F {s with heap:=s.heap.push l7,toks:=s.toks} F {s with heap:=(s.heap.push l7).push (iQ C s.heap.objs.size),toks:=s.toks}:=fP (bs.gr p).bh (ah _);have O:((s.heap.push l7).push (iQ C s.heap.objs.size)).get? (s.heap.objs.size+1)=ab (iQ C s.heap.objs.size):=by
  have:=aM (h:=s.heap.push l7) (o:=iQ C s.heap.objs.size) rfl;rwa[aY]at this
 have g4:=iW (p.trans g2) (c8 bs.bh (cL _)) O (cL _);have u:ie F (s.heap.objs.size+1) (iQ C s.heap.objs.size) s.heap.objs.size=aC:=by
  delta ie;rw[if_neg (cw (bH _))];exact c8 bs.bh (ah _)
 have x:s.heap.objs.size<((s.heap.push l7).push (iQ C s.heap.objs.size)).objs.size:=by rw[aY,aY];exact bO 0x6601
 have key:=(h s.heap.objs.size (A.under (.builtin "type.__call__" ⟨.ref C::vs,ns.zip us⟩)) G.under).run (ie F (s.heap.objs.size+1) (iQ C s.heap.objs.size)) {s with heap:=(s.heap.push l7).push (iQ C s.heap.objs.size),toks:=s.toks} (.ref (s.heap.objs.size+1)::vs) us (bs.gr g4)
  ⟨Tk.gr J g4 (λW W h=>nomatch h),⟨[],0,(aG _ (aM _ rfl)),.nil,iS⟩,λa c q=>?_⟩ (λa c=>?_) (.cons (.pt dG rfl) (L.cC g4.le)) (M.cC g4.le) (λv s'=>v=.none/\Q (.ref (s.heap.objs.size+1)) s') E λv t K' F' s' i g y k r=>?_
 .refine make_core (makes_of j H) (NN j hi) (λself=>bind_fn j self I) (.inl rfl) <|codeAny_mono key λr s' z=>?_;rcases r with e | (v|W|W|W)<;>first|exact z|exact z.elim
 .have e:a=s.heap.objs.size:=by simpa[Tk.gA] using q
  exact absurd (f a c).2 (by rw[e];exact cp _)
 .rcases ao.mp c with c|c
  .exact⟨fY g4 (f a c).1 (f a c).2,aT (f a c).2 g4.size⟩
  .have e:a=s.heap.objs.size:=by simpa[Tk.gA] using c
   subst e;exact⟨u,x⟩
 .obtain⟨rfl,i⟩:=i;refine r.eN <| ⟨rfl,N _ (bP C s.heap.objs.size) K' F' s' ⟨_,rfl,i⟩ ?_ y (λa c=>?_) (.pt (g.le _ _ dG) rfl)⟩
  .refine⟨g4.le.trans g.le,λa o e=>(g.new a o e).elim (λP=>g4.new a o P) λl=>.inr (aA g4.size l),λb o S e=>g.keep b o (λq=>?_) (g4.keep b o (λh=>nomatch h) e),g.bh,aA g4.size g.size,g4.gens.trans g.gens,g.os.trans g4.os,aA g4.toks g.toks⟩;rcases ao.mp q with q|q
   .exact S q
   .have e2:b=s.heap.objs.size:=by simpa[Tk.gA] using q
    exact absurd (aS e) (by rw[e2];exact cp _)
  .refine ka (k a c) λU V d=>⟨U,V,?_⟩;rcases d with d|d
   .rcases ao.mp d with d|d
    .exact .inl d
    .have e:a=s.heap.objs.size:=by simpa[Tk.gA] using d
     exact .inr (by rw[e];exact ah _)
   .exact .inr (aA g4.size d)
def Gn{K:Tk}(c:St B w X loc K F s)(g:Gr F s F' s')(d:s.heap.objs.size<=a):Le F (jH F' a):=λb o e=>by
 delta jH;rw[if_neg λq=>absurd (aS (c.bs.bh b o e)) (by rw[q];exact aV.mpr d)];exact g.le b o e
def w5{K:Tk}(d:gM X K)(f:JU (St.pre B w X loc K) w A X.ax e ts)(h:ts.all (T.nl n)=true):n8 B w X loc K A e (λK' t=>∃a,K'=K.bI (Tk.cu w a ts)/\t=.val (.ref a)):=
 ⟨λF s b Q E i=>f.run F s b _ _ λa m j g r c=>dS (b.T8 d g r c h) λk l=>i _ _ _ _ j ⟨a,rfl,rfl⟩ l k (Gn b g c) (.val _)⟩
def UI(w):pN w 369 "_headers":=⟨by kernel_rfl,by kernel_rfl,by kernel_rfl,by kernel_rfl⟩
def DD{K:Tk}(f:bU K K' (Tk.cu w a ts) L'):cR (St.pre B w X loc K) w A (.type "type") [.val (.ref a)] [] [] (.val (.type "list")):=by
 refine⟨λF s vs us b c d Q E e=>?_⟩;refine c.e1 λh g=>d.e0 ?_;refine g.eV ?_;refine m8 (f.get F s b.cV) λxs n e0 rs=>call_type_of ⟨_,e0,rfl⟩ #v[_] (e _ F s (ic.refl b.bs.bh) (.val _))
def zn:mz C w A (cQ .IsNot) (.val (.type a)) (.val (.type b)) (.bool (!(d3 a==d3 b))):=by
 refine⟨λg h F s c d e Q E f=>?_⟩;refine d.eV ?_;refine e.eV ?_;exact au (f _ F s (ic.refl (C.bs c).bh) (.bool _))
def KV(g:dg w B)(m:Rm (n+1) A):nC B w ((Tk.cu w a []).bI (Tk.gA w dx [])) A (.ref 263) [bP 369 dx,.val (.ref a)] [] [] (λK' t=>t=.none/\K'=Tk.mC w dx a []):=by
 refine⟨λF s vs us bs r o u v Q E x=>?_⟩;refine u.e2 λy z C D=>v.e0 <|AY (K:=(Tk.cu w a []).bI (Tk.gA w dx [])) [("self",bP 369 dx),("headers",.val (.ref a))] [y,z] ((Tk.cu w a []).bI (Tk.gA w dx [])).tk ["headers"] g bs m rfl #v[] (lN (dY g bs) #v[]) rfl rfl (.cons C (.cons D .nil)) r o λL G M c=>?_;have k:=Uh c rfl;refine j8 (t:=.val (.ref a)) c ?_ (.inl rfl) rfl λN G c=>?_
 .rw [show (T.val (.ref a))=(if true=true then T.val (.ref a)else T.none) from rfl];exact ja (aN aF fQ eR) (λW=>aF) (λh=>absurd h #v[_])
 refine W2 c ?_ λO P c=>?_
 .exact aN (dD g aF bK.ty (DD (bU.left (bU.here rfl)))) (jo g) zn
 refine vo (ats:=[]) g c k aF aF (bU.right (bU.here rfl)) (UI w) #v[_] (λR S k c=>?_) rfl;refine YM c ?_ λU V c=>?_
 .exact eP jL lb
 refine Md (ts:=[]) (f:=λW l=>l) (λi loc' K'=>K'=(Tk.cu w a []).bI (Tk.gA w dx [("_headers",.val (.ref a))])/\loc'=([("self",bP 369 dx),("headers",.val (.ref a))]:M2)) c (BY m.deeper.1 aF (bU.left (bU.here rfl))) (λW h=>.inl h) (λb d=>?_) (λi loc' K' h=>by rw[h.1];exact⟨rfl,rfl⟩) (λi t e=>nomatch e) ⟨rfl,rfl⟩ (λL i loc' K' F' s' W H=>absurd H (ft _)) ?_
 .exact ac _ d
 clear c k;rintro loc' K' I J ⟨rfl,rfl⟩ c;have j:∀b∈(Tk.mC w dx a []).tk,b∈((Tk.cu w a []).bI (Tk.gA w dx [("_headers",.val (.ref a))])).tk:=λb d=>(ao.mp d).elim (λh=>ag _ h) λh=>ac _ h;have c:=c.nM j λh=>⟨h.2.1,h.1,λb d q=>h.2.2 b q d⟩;refine oa (oa (x .none .none _ I J ⟨rfl,rfl⟩ c.d6 c.cV (λb d=>?_) .none));have p:=c.apart b d;exact⟨p.1,p.2.1,.inl (j b d)⟩
def LG(b:dg w B)(d:Rm (n+2) A):d5 B w (Tk.cu w a []) A (.ref 369) [.val (.ref a)] [] [] (λK' t=>∃dx,t=bP 369 dx/\K'=Tk.mC w dx a []):=
 x7 b d #v[] #v[] #v[] λdx e c=>KV b c
def GP{K:Tk}(g:dg w B)(i:Rm (n+2) A)(j:gM X K){p1:D7}(k:Ev (St.pre B w X loc K) w A X.ax func (.val (.ref 369)))
 (l:eval (.Call func [.List [] p1] [] pos) X.ax=(do dB pos (<-eval func X.ax) [] (dc pos (br [.List [] p1] X.ax)) (bR pos (bk [] X.ax))))
 (m:autoParam (((dc pos (br [.List [] p1] X.ax)).any (·.1) || (bR pos (bk [] X.ax)).any (·.1.isNone))=false) ou) (d:autoParam (br [.List [] p1] X.ax=(false,eval (.List [] p1) X.ax)::br [] X.ax) ou) :
 n8 B w X loc K A (.Call func [.List [] p1] [] pos) (λK' t=>∃dx a,t=bP 369 dx/\K'=K.bI (Tk.mC w dx a [])):=by
 refine z4 k (qP (w5 (n:=0) j (iD aK #v[_]) rfl) d) (bK.fn g #v[]) (λK' ts h=>?_) l m d;refine cY h λt e f=>?_;refine cY f λa b c=>?_;subst e;subst b;subst c;refine(qQ (LG g i)).cC λK' t h=>cY h λL' e f=>?_;refine cY f λdx b c=>?_;subst e;subst b;subst c;exact⟨dx,a,rfl,rfl⟩
def xM:Slot "list" "__getattribute__" "list.__getattribute__":=.of (owner:= "list") (n:= "__getattribute__") (by rw[fH,dw];kernel_rfl) (by decide +kernel) (by decide +kernel) (by decide +kernel)
 (by first|exact .inl (by decide +kernel)|exact .inr (by decide +kernel)) (by rw[ip];kernel_rfl)
def MI(o a):yV "list.__getattribute__" ⟨[o,a],[]⟩:=by delta yV;kernel_rfl
def xX:Slot "method_descriptor" "__get__" "method_descriptor.__get__":=.of (owner:= "method_descriptor") (n:= "__get__") (by rw[fH,dw];kernel_rfl) (by decide +kernel) (by decide +kernel) (by decide +kernel)
 (by first|exact .inl (by decide +kernel)|exact .inr (by decide +kernel)) (by rw[ip];kernel_rfl)
def H5:sn zL "method_descriptor.__get__" = ab Builtin.«method_descriptor.__get__»:=so #v[]
def LD(a b c):yV "method_descriptor.__get__" ⟨[a,b,c],[]⟩:=by delta yV;kernel_rfl
def U5:tw (.type "method_descriptor") "__set__" = cD aC:=by rw[fH,dw];kernel_rfl
def TJ:tw (.type "method_descriptor") "__delete__" = cD aC:=by rw[fH,dw];kernel_rfl
def Bo:VV (.builtin "list.append")=cD (.type "method_descriptor"):=zP
def KG{os:lz}(a:h.get? l=ab (ca "list" xs n)) (b:R (.ok (.ret (.ref h.objs.size))) ⟨h.push (Ob "list.append" l),g,d,t,os⟩) :
 kP (aO pw w) A (.call (.builtin "method_descriptor.__get__") ⟨[.builtin "list.append",.ref l,.type "list"],[]⟩) R ⟨h,g,d,t,os⟩:=by
 have c:(⟨h,g,d,t,os⟩:aH).TypeIs (.ref l) "list":=⟨_,a,rfl⟩;have e:isSubtype (.type "list") (.type (".".intercalate ("list.append".cutAt '.').dropLast))=cD true:=by
  rw[show ".".intercalate ("list.append".cutAt '.').dropLast = "list" by decide +kernel,ip];kernel_rfl
 refine RW xX.plain H5 (xX.check _ _ _ _ _ _ _ _ Bo (LD _ _ _) ?_)
 repeat (any_goals (first|assumption|wp_step))
def O9{os:lz}(a:h.get? l=ab (ca "list" xs n)) (b:Q (.done (.ret (.ref h.objs.size))) ⟨h.push (Ob "list.append" l),g,d,t,os⟩) :
 aP (aO pw w) A (Builtin.«object.__getattribute__» ⟨[.ref l,.str "append" tk],[]⟩) Q E ⟨h,g,d,t,os⟩:=by
 have e:(⟨h,g,d,t,os⟩:aH).TypeIs (.ref l) "list":=⟨_,a,rfl⟩;have c:(⟨h,g,d,t,os⟩:aH).TypeIs (.builtin "list.append") "method_descriptor":=Bo;have f:=oJ.lookup;have i:=Bo;have j:=xX.lookup;have k:=U5;have m:=TJ
 repeat (any_goals (first|assumption|wp_step))
 exact KG a (au b)
def BJ{os:lz}(c:h.get? l=ab (ca "list" xs n)) (a:Q (.ref h.objs.size) ⟨h.push (Ob "list.append" l),g,d,t+1,os⟩) :
 aP (aO pw w) A (getAttr (.ref l) "append" b) Q E ⟨h,g,d,t,os⟩:=by
 have e:∀i,(⟨h,g,d,i,os⟩:aH).TypeIs (.ref l) "list":=λy=>⟨_,c,rfl⟩;delta getAttr getAttrBy;refine aa (wpAny_mkText (bq (aa (gV (e _) (aa (dK xM.lookup ?_))))));show aP _ _ (qay (.ref l) (.str "append" t) (.type "list") (.builtin "list.__getattribute__") true b) _ _ _;delta qay hookBefore callGetattribute boundAndCalled;refine aa (dK (show (if onTheHeap (.type "list")then tw (.type "list") "__getattr__" else cD aC)=cD aC from rfl) ?_);refine aa (nJ (bq ?_));refine bZ (λq=>absurd q (by simp[onTheHeap])) λy=>aa (dK (xM.bind _) ?_);refine cj (Q:=λv s'=>v=.ref h.objs.size/\s'=⟨h.push (Ob "list.append" l),g,d,t+1,os⟩) (E:=λy y=>False)
  (dJ xM (e _) PySem.F.entry_list_ga (O9 c ⟨_,rfl,rfl,rfl⟩) (MI _ _)) (λv s' j=>?_) λy y z=>z.elim
 refine dS j λa f=>?_;subst a;subst f;exact au a
def EK{K:Tk}(e:Ev (St.pre B w X loc K) w A X.ax (.Name x np) (.val (.ref l)))(f:bU K K' (Tk.cu w l ts) L'):Ev (St.pre B w X loc K) w A X.ax (.Attribute (.Name x np) "append" ap) (R8 "list.append" l):=by
 refine⟨λF s d Q E h=>FZ (e.run F s d _ _ λv b a g r=>?_)⟩;have c:St B w X loc K b a:=d.gr g;refine r.eV <|m8 (f.get b a c.cV) λxs n e0 rs=>?_;have bh:=c.bs.bh;refine BJ e0 ?_;have g2:Gr b a b {a with heap:=a.heap.push (Ob "list.append" l),toks:=a.toks+1}:=fP bh (cL _);exact h _ (ie b a.heap.objs.size (Ob "list.append" l)) _ (g.trans (iW g2 (c8 bh (ah _)) (aM _ rfl) (ah _))) (.pt dG rfl)
noncomputable def VC:Q1:=[104,116,116,112,58,47,47,119,119,119,46,119,51,46,111,114,103,47,88,77,76,47,49,57,57,56,47,110,97,109,101,115,112,97,99,101]
def Kh(w)(h:NX (jw w) 150 name=ab aC):pN w 150 name:=⟨by kernel_rfl,by kernel_rfl,h,by kernel_rfl⟩
def CD{K:Tk}{R':Tk->Prop}(j:dg w B)(E:St B w X loc K F s)(G:n8 B w X loc K A c R)(H:∀K',Ev (St.pre B w X loc K') w A X.ax (.Name n np) (bP Cc dx))
 (f:∀K' t,R K' t->∃b,R' b/\bU K' b (Tk.gA w dx ats) (Tk.gA w dx (dz name t ats))) (h:pN w Cc name) (I:ats.length<=900)
 (k:∀b F' s',R' b->gM X b->St B w X loc b F' s'->Go w A bj X.ax Q s')
 (J:autoParam (cD false=cf c (ab (.Attribute (.Name n np) name ap)) pos.line X.ax) ou):Go w A (.Assign [.Attribute (.Name n np) name ap] c pos::bj) X.ax Q s:=by
 refine⟨bF (AJ (G.run F s E _ _ λv t l L M N q i _ r=>(H l).run L M i _ _ λZ u d g2 O=>?_) J.symm)⟩;refine cY (f l t N) λP y f=>?_;have g:=i.gr g2;have bs:=g.bs;refine O.eA λx o e p=>?_;subst p;refine qd (f.get u d g.cV) λes m z S U=>set_plain (dY j bs) (jq bs e z) h.sa (Hs (dY j (bs.gr (Gr.j4 bs.bh (d.toks+1)))) (jq (bs.gr (Gr.j4 bs.bh (d.toks+1))) e z) h.po h.tk h.hd S (r.cC g2.le) I λh' C n' D V W=>?_);exact(k P u _ y (λa Y=>q a (f.tk▸Y)) (((g.j4 (d.toks+1)).DE f q D (.head _) ⟨C,n',V,W,(qZ U).1⟩).j4 (d.toks+1+1))).run
def Yr{K:Tk}(d:dg w B)(f:gM X K)(h:Wg (St.pre B w X loc K) w A X.ax e L)(i:∀a,(L a).tk=[a]):n8 B w X loc K A e (λK' t=>∃a,1<a/\K'=K.bI (L a)/\t=.val (.ref a)):=
 ⟨λF s b Q E j=>h.run F s b _ _ λa p k g r l c m=>dS (b.Vq f g r (i a) l c m) λn o=>j _ _ _ _ k ⟨a,aT (pd d b.bs) c,rfl,rfl⟩ o n g.le (.val _)⟩
def IH:Wg C w A ax (.Dict [] [] pos) (λa=>Tk.gA w a []):=by
 refine⟨λF s b Q E c=>?_⟩;have bh:=(C.bs b).bh;rw[arm_eval_Dict];refine aa (cz ?_);show aP _ A Ea Q E s;refine cE ?_;have g:Gr F s F {s with heap:=s.heap.push l7,toks:=s.toks}:=fP bh (ah _);exact c _ F _ g ⟨[],0,aM _ rfl,.nil,iS⟩ (c8 bh (ah _)) (ah _) (by rw[aY];exact bH _)
def KW{K:Tk}(h:vc B w X loc K A pos i R)(e:∀K' ts,R K' ts->ts.length<=be/\ts.all (T.nl m)=true):n8 B w X loc K A (.List i pos) (λf t=>∃K' ts a,R K' ts/\f=K'.bI (Tk.cu w a ts)/\t=.val (.ref a)):=by
 refine⟨λF s j Q E k=>?_⟩;refine FR (h.run F s j _ _ λvs ts c q u d l b le r=>⟨by rw[r.length];exact(e c ts d).1,?_⟩);have bh:=b.bs.bh;have g:=lk (o:=ca "list" vs.toArray 0) bh rfl;refine dS (b.T8 l g (.list dG (r.cC (ee (c8 bh (ah _))))) (ah _) (e c ts d).2) λn p=>k _ _ _ _ _ ⟨c,ts,_,d,rfl,rfl⟩ p n (le.trans (Gn b g (ah _))) (.val _)
end
structure Tk.Sub(K K':Tk):Prop where
 tk:∀a∈K'.tk,a∈K.tk
 I:∀{F s},K.I F s->K'.I F s
inductive Tt where
 |l (i:Nat)
 |n (a b:Tt)
noncomputable def Tt.fl:Tt->Q1
 | .l i=>[i]
 | .n a b=>a.fl++b.fl
noncomputable def Tt.ev(f:List Tk):Tt->Tk
 | .l i=>f.getD i Tk.nil
 | .n a b=>(a.ev f).bI (b.ev f)
def MC(f:List Tk)(l:Q1):Prop:=∀i∈l,∀j∈l,i≠j->∀a∈(f.getD i Tk.nil).tk,a∉(f.getD j Tk.nil).tk
def Tt.tk(t:Tt):a∈(t.ev f).tk↔∃i∈t.fl,a∈(f.getD i Tk.nil).tk:=by
 induction t with
 |l i=>exact⟨λh=>⟨i,.head _,h⟩,λh=>cY h λz h k=>aB.mp h▸k⟩
 |n x y d e=>
  refine⟨λh=>?_,λ⟨i,h,k⟩=>?_⟩
  .rcases ao.mp h with h|h
   .refine cY (d.mp h) λi b c=>?_;exact⟨i,ac _ b,c⟩
   .refine cY (e.mp h) λi b c=>?_;exact⟨i,ag _ b,c⟩
  .rcases ao.mp h with h|h
   .exact ac _ (d.mpr ⟨i,h,k⟩)
   .exact ag _ (e.mpr ⟨i,h,k⟩)
def Tt.down(t:Tt)(h:(t.ev f).I F s):(∀i∈t.fl,(f.getD i Tk.nil).I F s)/\MC f t.fl:=by
 induction t with
 |l i=>exact⟨λj b=>aB.mp b▸h,λj b k g q=>absurd ((aB.mp b).trans (aB.mp g).symm) q⟩
 |n x y m o=>
  refine ka h λp r e=>dS (m p) λu v=>dS (o r) λw z=>⟨λi hi=>(ao.mp hi).elim (u i) (w i),λi hi j b q a c d=>?_⟩;rcases ao.mp hi with hi|hi<;>rcases ao.mp b with b|b
  .exact v i hi j b q a c d
  .exact e a (x.tk.mpr ⟨i,hi,c⟩) (y.tk.mpr ⟨j,b,d⟩)
  .exact e a (x.tk.mpr ⟨j,b,d⟩) (y.tk.mpr ⟨i,hi,c⟩)
  .exact z i hi j b q a c d
def Tt.up(t:Tt)(h:∀i∈t.fl,(f.getD i Tk.nil).I F s)(c:MC f t.fl)(g:t.fl.Nodup):(t.ev f).I F s:=by
 induction t with
 |l i=>exact h i (.head _)
 |n x y k m=>
  refine ka (fb.mp g) λn1 n2 o=>⟨k (λi hi=>h i (ac _ hi)) (λi hi j b=>c i (ac _ hi) j (ac _ b)) n1,
   m (λi hi=>h i (ag _ hi)) (λi hi j b=>c i (ag _ hi) j (ag _ b)) n2,λa d e=>?_⟩
  refine cY (x.tk.mp d) λi hi d=>cY (y.tk.mp e) λj b e=>c i (ac _ hi) j (ag _ b) (o i hi j b) a d e
def Tt.sub(f)(s t:Tt)(h:(t.fl.all s.fl.contains&&decide t.fl.Nodup)=true):Tk.Sub (s.ev f) (t.ev f):=by
 rw[bc,bg]at h;have b:∀i∈t.fl,i∈s.fl:=λi hi=>d8.mp (h.1 i hi);refine⟨λa c=>?_,λd=>?_⟩
 .refine cY (t.tk.mp c) λi hi k=>s.tk.mpr ⟨i,b i hi,k⟩
 .refine dS (s.down d) λe g=>t.up (λi hi=>e i (b i hi)) (λi hi j l=>g i (b i hi) j (b j l)) (of_decide_eq_true h.2)
def Tk.Sub.y3:Tk.Sub (Tk.cu w a ts) (Tk.y3 w [a] [ts]):=by
 refine⟨λz h=>h,λh=>⟨rfl,du.mpr ⟨λh=>(nomatch h),.nil⟩,λi b us e1 e2=>?_⟩⟩;cases i with
 |zero=>cases e1;cases e2;exact h
 |succ i=>cases e1
def Tk.Sub.bI{K:Tk}(h:Tk.Sub K K')(k:Tk.Sub L L'):Tk.Sub (K.bI L) (K'.bI L'):=
 ⟨λa b=>ao.mpr ((ao.mp b).imp (h.tk a) (k.tk a)),λq=>⟨h.I q.1,k.I q.2.1,λa b c=>q.2.2 a (h.tk a b) (k.tk a c)⟩⟩
def Tk.Sub.refl(K):Tk.Sub K K:=⟨λz h=>h,λh=>h⟩
def Tk.Sub.trans{K:Tk}(h:Tk.Sub K L)(k:Tk.Sub L M):Tk.Sub K M:=⟨λa b=>h.tk a (k.tk a b),λq=>k.I (h.I q)⟩
section
open PySem.Builtin PySem.Builtin.ObjectAttr
abbrev Tk.wp(w:bC)(pc:bu)(pcs:List Q1)(tb:Option bu):Tk:=((Tk.cu w pc (w8 pcs)).bI (Tk.dM 1)).bI (Tk.tab 123 iB gf tb)
def inL(dx pc:bu):M2:=[("self",bP 150 dx),("write",R8 "list.append" pc),("with_comments",.bool false),("strip_text",.bool false),("rewrite_prefixes",.bool true),("qname_aware_tags",.none),("qname_aware_attrs",.none),("exclude_attrs",.none),("exclude_tags",.none)]
def sD(W:Wa)(j:Nat):M2:=(nT W false false).take j
def Ub(w:bC)(pcs:List Q1)(tb:Option bu)(W:Wa)(j:Nat):Tk:=(Tk.wp w W.pc pcs tb).bI (Tk.gA w W.dx (sD W j))
def in1(w:bC)(pcs:List Q1)(tb:Option bu)(U:S2)(W:Wa)(a:bu)(j:Nat):Tk:=((Ub w pcs tb W j).bI (Tk.cu w a [oz U (8,10)])).bI (Tk.cu w W.dn [gL a])
def Vi(w:bC)(pcs:List Q1)(tb:Option bu)(U:S2)(W:Wa)(a:bu)(l:List T)(j:Nat):Tk:=(in1 w pcs tb U W a j).bI (Tk.cu w W.ns l)
def W1(w:bC)(pcs:List Q1)(tb:Option bu)(U:S2)(W:Wa)(a:bu)(j:Nat):Tk:=(Vi w pcs tb U W a [.list []] j).bI (Tk.gA w W.pm [])
def TH(w:bC)(pcs:List Q1)(tb:Option bu)(U:S2)(W:Wa)(a:bu)(j:Nat):Tk:=(W1 w pcs tb U W a j).bI (Tk.cu w W.ps [.bool false])
def Nl:Tk.Sub (TH w pcs tb U W a 17) (Tk.wr U w W false false [a] [] [[(8,10)]] 1 1 pcs tb):=
 (Tt.sub [Tk.cu w W.pc (w8 pcs),Tk.dM 1,Tk.tab 123 iB gf tb,Tk.gA w W.dx (nT W false false),Tk.cu w a [oz U (8,10)],Tk.cu w W.dn [gL a],Tk.cu w W.ns [.list []],Tk.gA w W.pm [],Tk.cu w W.ps [.bool false]]
  (.n (.n (.n (.n (.n (.n (.n (.n (.l 0) (.l 1)) (.l 2)) (.l 3)) (.l 4)) (.l 5)) (.l 6)) (.l 7)) (.l 8)) (.n (.n (.n (.l 3) (.l 7)) (.n (.l 5) (.l 4))) (.n (.n (.n (.n (.l 6) (.l 8)) (.l 0)) (.l 1)) (.l 2))) #v[_]).trans
  (Tk.Sub.bI (Tk.Sub.bI (.refl _) (Tk.Sub.bI (.refl _) .y3)) (.refl _))
def fo0:bU (Ub w pcs tb W i) (Ub w pcs tb W j) (Tk.gA w W.dx (sD W i)) (Tk.gA w W.dx (sD W j)):=bU.right (bU.here rfl)
def fo1:bU (in1 w pcs tb U W a i) (in1 w pcs tb U W a j) (Tk.gA w W.dx (sD W i)) (Tk.gA w W.dx (sD W j)):=bU.left (bU.left fo0)
def fo2:bU (Vi w pcs tb U W a l i) (Vi w pcs tb U W a l j) (Tk.gA w W.dx (sD W i)) (Tk.gA w W.dx (sD W j)):=bU.left fo1
def fo3:bU (W1 w pcs tb U W a i) (W1 w pcs tb U W a j) (Tk.gA w W.dx (sD W i)) (Tk.gA w W.dx (sD W j)):=bU.left fo2
def fo4:bU (TH w pcs tb U W a i) (TH w pcs tb U W a j) (Tk.gA w W.dx (sD W i)) (Tk.gA w W.dx (sD W j)):=bU.left fo3
def U0{K:Tk}(K')(c:dg w B)(d:St B w X loc K F s)(e:gM X K)(g:Ev (St.pre B w X loc K) w A X.ax a t)(h:Ev (St.pre B w X loc K) w A X.ax (.Name n np) (bP 150 W.dx))
 (f:bU K K' (Tk.gA w W.dx (sD W j)) (Tk.gA w W.dx (sD W (j+1)))) (b:(dz name t (sD W j)=sD W (j+1)/\j<=900)/\pN w 150 name)
 (k:∀F' s',gM X K'->St B w X loc K' F' s'->Go w A bj X.ax Q s')
 (i:autoParam (cD false=cf a (ab (.Attribute (.Name n np) name ap)) pos.line X.ax) ou):Go w A (.Assign [.Attribute (.Name n np) name ap] a pos::bj) X.ax Q s:=
 vo c d e g h (b.1.1.symm▸f) b.2 (aA (Jz _ _) b.1.2) k i
def Ry{K:Tk}{R':Tk->Prop}(d:dg w B)(e:St B w X loc K F s)(g:n8 B w X loc K A c i)(l:∀K',Ev (St.pre B w X loc K') w A X.ax (.Name n np) (bP 150 W.dx))
 (f:∀K' t,i K' t->∃a,R' a/\∃b ,b.dx=W.dx/\sD W j=sD b j/\dz name t (sD b j)=sD b (j+1)/\bU K' a (Tk.gA w b.dx (sD b j)) (Tk.gA w b.dx (sD b (j+1)))) (m:pN w 150 name) (o:j<=900)
 (k:∀a F' s',R' a->gM X a->St B w X loc a F' s'->Go w A bj X.ax Q s')
 (p:autoParam (cD false=cf c (ab (.Attribute (.Name n np) name ap)) pos.line X.ax) ou):Go w A (.Assign [.Attribute (.Name n np) name ap] c pos::bj) X.ax Q s:=by
 refine CD d e g l (ats:=sD W j) (λK' t h=>?_) m (aA (Jz _ _) o) k p;refine cY (f K' t h) λa q r=>?_;refine Hl r λb e1 e2 e3 u=>?_;rw[e2,e3,<-e1];exact⟨a,q,u⟩
def vt{a:Nat->Tk}(f:∀i j,bU (a i) (a j) (Tk.gA w W.dx (sD W i)) (Tk.gA w W.dx (sD W j)))(j)(d:dg w B)(e:Ev (St.pre B w X loc (a j)) w A X.ax b t)(g:Ev (St.pre B w X loc (a j)) w A X.ax (.Name n np) (bP 150 W.dx))
 (l:dz name t (sD W j)=sD W (j+1)) (k:Ho B w X A Q loc (a (j+1)) bj) (m:autoParam (j<=900) We) (o:autoParam (NX (jw w) 150 name=ab aC) wU)
 (p:autoParam (cD false=cf b (ab (.Attribute (.Name n np) name ap)) pos.line X.ax) ou):Ho B w X A Q loc (a j) (.Assign [.Attribute (.Name n np) name ap] b pos::bj):=
 ⟨λz z q c=>U0 (a (j+1)) d q c e g (f _ _) ⟨⟨l,m⟩,Kh w o⟩ (λF s c h=>k.run F s h c) p⟩
def Hp{K:Tk}(R':Tk->Prop)(g)(i:dg w B)(l:gM X K->n8 B w X loc K A c g)(m:∀K',Ev (St.pre B w X loc K') w A X.ax (.Name n np) (bP 150 W.dx))
 (f:∀K' t,g K' t->∃a,R' a/\∃b ,b.dx=W.dx/\sD W j=sD b j/\dz name t (sD b j)=sD b (j+1)/\bU K' a (Tk.gA w b.dx (sD b j)) (Tk.gA w b.dx (sD b (j+1))))
 (k:∀a,R' a->Ho B w X A Q loc a bj) (o:autoParam (j<=900) We) (p:autoParam (NX (jw w) 150 name=ab aC) wU)
 (q:autoParam (cD false=cf c (ab (.Attribute (.Name n np) name ap)) pos.line X.ax) ou):Ho B w X A Q loc K (.Assign [.Attribute (.Name n np) name ap] c pos::bj):=
 ⟨λz z d e=>Ry i d (l e) m f (Kh w p) o (λK' F s h e d=>(k K' h).run F s d e) q⟩
def IX(b:dg w B)(p:U 8=VC)(u:Rm (n+2) A) :
 nC B w ((Tk.wp w pc pcs tb).bI (Tk.gA w dx [])) A (.ref 67) [bP 150 dx,R8 "list.append" pc] ["rewrite_prefixes"] [.bool true] (λK' t=>t=.none/\∃pm dn ns ps c,1<pm/\K'=Tk.wr U w ⟨dx,pm,dn,ns,ps,pc⟩ false false [c] [] [[(8,10)]] 1 1 pcs tb):=by
 refine⟨λF s vs us bs v q x y Q E z=>?_⟩;refine x.e2 λC D G H=>y.e1 λN I=>I.eB <|AY (K:=Ub w pcs tb ⟨dx,0,0,0,0,pc⟩ 0) (inL dx pc) [C,D,.bool false,.bool false,.bool true,.none,.none,.none,.none] (Ub w pcs tb ⟨dx,0,0,0,0,pc⟩ 0).tk [] b bs u rfl #v[] (lN (dY b bs) #v[]) rfl rfl (.cons G (.cons H (.cons (.bool _) (.cons (.bool _) (.cons (.bool _) (.cons .none (.cons .none (.cons .none (.cons .none .nil))))))))) v q λL O P J=>n6 J (jb rfl) ?_;have f:∀i j,bU (Ub w pcs tb ⟨dx,0,0,0,0,pc⟩ i) (Ub w pcs tb ⟨dx,0,0,0,0,pc⟩ j) _ _:=λV V=>fo0;refine vt f 0 b aF aF rfl <|vt f 1 b (k7 aK #v[_]) aF rfl <|vt f 2 b aF aF rfl <|vt f 3 b aF aF rfl <|vt f 4 b ((show T.none=(if false=true then T.none else T.none) from rfl)▸ja (eP (aF (t:=.none)) pU) (λh=>absurd h #v[_]) (λV=>fQ)) aF rfl <|vt f 5 b ((show T.none=(if false=true then T.none else T.none) from rfl)▸ja (eP (aF (t:=.none)) pU) (λh=>absurd h #v[_]) (λV=>fQ)) aF rfl <|vt f 6 b aF aF rfl <|ly ?_ ?_
 .exact eP (aF (t:=.none)) pU
 refine vt f 7 b (fQ) aF rfl <|ly ?_ ?_
 .exact eP (aF (t:=.none)) pU
 refine vt f 8 b (fQ) aF rfl <|Hp (W:=⟨dx,0,0,0,0,pc⟩) (j:=9) (λK'=>∃c dn,K'=in1 w pcs tb U ⟨dx,0,dn,0,0,pc⟩ c 10) (λK' t=>∃c dn,K'=in1 w pcs tb U ⟨dx,0,dn,0,0,pc⟩ c 9/\t=gL dn) b (λg=>?_) (λK'=>aF) (λK' t h=>?_) (λK' h=>?_)
 .exact n8.cC (KW (m:=3) (qP (w5 (ts:=[oz U (8,10)]) (n:=3) g (iD (aq (eC (aq (p▸bJ #v[]) (aq (bJ #v[]) aK)) (by show 2<=be;decide)) aK) (by show 1<=be;decide)) rfl)) λK' ts h=>by (refine cY h λt d M=>?_;refine cY M λa e r=>?_;subst d;subst e;subst r;exact⟨by show 1<=be;decide,rfl⟩)) λK' t h=>by (obtain⟨R,ts,dn,⟨S,rfl,c,rfl,rfl⟩,rfl,rfl⟩:=h;exact⟨c,dn,rfl,rfl⟩)
 .refine m8 h λc dn d e=>?_;subst d;subst e;exact⟨_,⟨c,dn,rfl⟩,⟨dx,0,dn,0,0,pc⟩,rfl,rfl,rfl,fo1⟩
 refine GU h λc dn d=>?_;subst d;refine Hp (W:=⟨dx,0,dn,0,0,pc⟩) (j:=10) (λK'=>∃ns,K'=Vi w pcs tb U ⟨dx,0,dn,ns,0,pc⟩ c [] 11) (λK' t=>∃ns,K'=Vi w pcs tb U ⟨dx,0,dn,ns,0,pc⟩ c [] 10/\t=gL ns) b (λg=>w5 (n:=0) g (iD aK #v[_]) rfl) (λK'=>aF) (λK' t h=>?_) (λK' h=>?_)
 .refine cY h λns d e=>?_;subst d;subst e;exact⟨_,⟨ns,rfl⟩,⟨dx,0,dn,ns,0,pc⟩,rfl,rfl,rfl,fo2⟩
 refine iA h λns d=>?_;subst d;refine ly ?_ ?_
 .exact rZ (eP (aF (t:=.bool true)) lb)
 have o:bU (Vi w pcs tb U ⟨dx,0,dn,ns,0,pc⟩ c [] 11) (Vi w pcs tb U ⟨dx,0,dn,ns,0,pc⟩ c [.list []] 11) (Tk.cu w ns []) (Tk.cu w ns ([]++[.list []])):=bU.right (bU.here rfl);refine rj (λg=>cP g (m7 b aF (λF s h=>h.cV.1.1.1.2.1) (t:=gL ns)) (iH o) (kj (aq (t:=.list []) (k7 aK #v[_]) aK)) bK.bi (gl o #v[_]) rfl) rfl rfl <|Hp (W:=⟨dx,0,dn,ns,0,pc⟩) (j:=11) (λK'=>∃pm,1<pm/\K'=W1 w pcs tb U ⟨dx,pm,dn,ns,0,pc⟩ c 12) (λK' t=>∃pm,1<pm/\K'=W1 w pcs tb U ⟨dx,pm,dn,ns,0,pc⟩ c 11/\t=gL pm) b (λg=>Yr b g IH (λV=>rfl)) (λK'=>aF) (λK' t h=>?_) (λK' h=>?_)
 .refine mB h λpm k d e=>?_;subst d;subst e;exact⟨_,⟨pm,k,rfl⟩,⟨dx,pm,dn,ns,0,pc⟩,rfl,rfl,rfl,fo3⟩
 refine cY h λpm k d=>?_;subst d;refine Hp (W:=⟨dx,pm,dn,ns,0,pc⟩) (j:=12) (λK'=>∃ps,K'=TH w pcs tb U ⟨dx,pm,dn,ns,ps,pc⟩ c 13) (λK' t=>∃ps,K'=TH w pcs tb U ⟨dx,pm,dn,ns,ps,pc⟩ c 12/\t=gL ps) b (λg=>w5 (n:=0) g (iD (aq jL aK) (by show 1<=be;decide)) rfl) (λK'=>aF) (λK' t h=>?_) (λK' h=>?_)
 .refine cY h λps d e=>?_;subst d;subst e;exact⟨_,⟨ps,rfl⟩,⟨dx,pm,dn,ns,ps,pc⟩,rfl,rfl,rfl,fo4⟩
 refine iA h λps d=>?_;subst d;have l:∀i j,bU (TH w pcs tb U ⟨dx,pm,dn,ns,ps,pc⟩ c i) (TH w pcs tb U ⟨dx,pm,dn,ns,ps,pc⟩ c j) _ _:=λV V=>fo4;refine vt l 13 b (fQ) aF rfl <|vt l 14 b (jL) aF rfl <|vt l 15 b (jL) aF rfl <|vt l 16 b (bA) aF rfl <|q8 _ Nl.tk (λV V=>Nl.I) (L6 z ⟨rfl,pm,dn,ns,ps,c,k,rfl⟩)
end
noncomputable def kZ(p k:Nat):Q1:=((([32,120,109,108,110,115,58,110]++[48+(k+1)])++[61,34])++[1000+p])++[34]
noncomputable def qj(tie:Lx1)(o:Q1)(k:Nat):Q1:=(am k).filter λm=>tie (o.getD m 0) (o.getD k 0)
noncomputable def jd(l:Q1):Q1:=l.drop (l.length-1)
noncomputable def Dr(a:Q1)(p:Nat):Q1:=((a++[60,47,110])++[48+(p+1)])++[58,101,62]
noncomputable def qk(b a r:Q1):Q1×Q1:=r.rec (motive:=λz=>Q1->Q1×Q1) (λa=>(a,[])) (λp r c a=>if [p]=b then (a,p::r)else c (Dr a p)) a
def yr{b r:Q1}:qk a b (p::r)=if [p]=a then (b,p::r)else qk a (Dr b p) r:=rfl
noncomputable def BL(o a:Q1)(k:Nat)(b:Q1)(j:Nat):Q1:=
 if a.contains (o.idxOf j)then ((((b++[32,110])++[48+(o.idxOf j+1)])++[58,116,61,34])++[2000+10*j+o.getD k 0])++[34]else b
def nW(o a:Q1)(k:Nat)(b:Q1)(j:Nat):Q1:=j.rec b λj c=>BL o a k c j
def QP{b:Q1}:nW o a k b (j+1)=BL o a k (nW o a k b j) j:=rfl
def uo(o:Q1)(k:Nat)(a:Q1):Q1:=(((a++[60,110])++[48+(k+1)])++[58,101])++kZ (o.getD k 0) k
def stepT(tie:Lx1)(o:Q1)(k:Nat)(b:Q1×Q1):Q1×Q1:=
 let a:=qj tie o k
 let q:=qk (jd a) b.1 b.2
 (nW o a k (uo o k q.1) 5++[62],k::q.2)
def ji(tie:Lx1)(o:Q1)(k:Nat):Q1×Q1:=k.rec ([60,110,48,58,114,32,120,109,108,110,115,58,110,48,61,34,97,108,108,34,62],[]) λk a=>stepT tie o k a
noncomputable def zT(o:Q1)(a:Q1)(j:Nat):Q1:=((((a++[32,110])++[48+(o.idxOf j+1)])++[58,116,61,34])++[48+o.idxOf j])++[34]
def IP(o:Q1)(a:Q1)(j:Nat):Q1:=j.rec a λj b=>zT o b j
def uX(a:Q1×Q1):Q1:=a.2.foldl Dr a.1
def Dc(tie:Lx1)(o:Q1):Q1:=
 IP o (((uX (ji tie o 5)++[60,110,48,58,122])++((am 5).map λk=>kZ (o.getD k 0) k).flatten)++[32,120,109,108,110,115,58,110,54,61,34,117,34,32,120,109,108,110,115,58,110,55,61,34,118,34]) 5++[32,110,54,58,116,61,34,117,34,32,110,55,58,116,61,34,118,34,62,60,47,110,48,58,122,62,60,47,110,48,58,114,62]
def KZ(a):∀r b,(qk a b r).1.length<=b.length+7*(r.length-(qk a b r).2.length)/\(qk a b r).2.length<=r.length:=iX (λb=>⟨ah _,ah _⟩) λp r c b=>by
 rw[yr];by_cases q:[p]=a
 .rw [if_pos q];exact⟨fK ..,ah _⟩
 .rw [if_neg q];refine dS (c (Dr b p)) λd e=>?_;have:(Dr b p).length=b.length+7:=by delta Dr;rw[aw,aw,aw];rfl
  rw[cq];exact(xF 0x26380382657a14007731448f238d38257a4840d) d e this
def Ls(a):∀r b,∀x∈(qk a b r).2,x∈r:=iX (λz x h=>h) λp r c b x h=>by
 rw[yr]at h;by_cases q:[p]=a
 .rw [if_pos q]at h;exact h
 .rw [if_neg q]at h;exact .tail _ (c _ x h)
def xe(tie)(o):∀k,∀x∈(ji tie o k).2,x<k:=ig (λx h=>nomatch h) λk a x h=>by
 rcases aX.mp h with rfl|h
 .exact bH _
 .exact c4 (a x (Ls _ _ _ x h))
def u8(p k):(kZ p k).length=13:=by simp[kZ]
def KP(o a)(k)(b)(j):(BL o a k b j).length<=b.length+9:=by
 delta BL;split<;>simp
def vJ(o a)(k)(b):∀j,(nW o a k b j).length<=b.length+9*j:=ig (ah _) λj c=>by
 have:=KP o a k (nW o a k b j) j;exact(lM 0x269a1400933840d29a1438d) c this
def Ad(o)(k)(a):(uo o k a).length=a.length+18:=by
 delta uo;simp[u8]
def Dz(tie)(o):∀k,(ji tie o k).1.length+7*(ji tie o k).2.length<=21+100*k/\(ji tie o k).2.length<=k:=ig (by show 21<=21/\0<=0;decide) λk a=>by
 refine dS (a) λb c=>?_;show (nW o (qj tie o k) k (uo o k (qk (jd (qj tie o k)) (ji tie o k).1 (ji tie o k).2).1) 5++[62]).length+7*(k::(qk (jd (qj tie o k)) (ji tie o k).1 (ji tie o k).2).2).length<=_/\(k::(qk (jd (qj tie o k)) (ji tie o k).1 (ji tie o k).2).2).length<=_;refine dS (KZ (jd (qj tie o k)) (ji tie o k).2 (ji tie o k).1) λd e=>?_;simp only[aw,cq,rN];exact(ω7 0x26160260064c15294167a03604407539a6840d122958468f481d14857a38458d248d20064c15294487a384d) b c d e (Ad o k (qk (jd (qj tie o k)) (ji tie o k).1 (ji tie o k).2).1) (vJ o (qj tie o k) k (uo o k (qk (jd (qj tie o k)) (ji tie o k).1 (ji tie o k).2).1) 5)
def Hu(o)(a):∀j,(IP o a j).length=a.length+9*j:=ig rfl λj b=>by
 show (((((IP o a j++[32,110])++[48+(o.idxOf j+1)])++[58,116,61,34])++[48+o.idxOf j])++[34]).length=_;simp only[aw,cq,rN];exact(dO 0x269a140360360366660360366044444229a140f) (b)
abbrev BE(a:S2):T:=.dict ((am 5).map λp=>(ch (112+p),T.str (Ss (a p))))
def G4(a:S2)(h:p<5):((am 5).map λp=>(ch (112+p),T.str (Ss (a p)))).lookup (ch (112+p))=ab (.str (Ss (a p))):=by
 refine G9 h ?_ ?_ ?_ ?_ ?_<;>rfl
def YI(h:p<5):[112,113,114,115,116].getD p 0=112+p:=by
 refine G9 h ?_ ?_ ?_ ?_ ?_<;>rfl
abbrev tdA(a:S2)(d:Lx2)(eE:Int)(o:Q1)(N:Nat):M2:=[("names",BE a),("order",wV N o),("dues",mE d),("bound",.int eE)]
abbrev Xu(b:S2)(d:Lx2)(eE:Int)(o:Q1)(N:Nat)(c:Q1)(a:bu):M2:=
 [("names",BE b),("order",wV N o),("dues",mE d),("bound",.int eE),("heads",.list ((am 5).map λk=>Sr b d (kZ (o.getD k 0) k))),("place",.list ((am 5).map λj=>iT (o.idxOf j))),("page",Sr b d c),("opened",.val (.ref a))]
abbrev Zq(b:S2)(d:Lx2)(eE:Int)(o:Q1)(N:Nat)(e:Q1)(a:bu)(k:Nat)(c:Q1):M2:=
 [("names",BE b),("order",wV N o),("dues",mE d),("bound",.int eE),("heads",.list ((am 5).map λk=>Sr b d (kZ (o.getD k 0) k))),("place",.list ((am 5).map λj=>iT (o.idxOf j))),("page",Sr b d e),("opened",.val (.ref a)),("k",iT k),("ups",mT c)]
def tU{o:Q1}(a:∀x∈o,x<5)(i):o.getD i 0<5:=by
 rw[ar];by_cases h:i<o.length
 .rw [ay h];exact a _ (bV h)
 .rw [jz #v[(bW 0x1000116c) h]];decide
def sZ(h:p<5):gF C w A (.str (Ss [112,113,114,115,116])) (iT p) (.str (ch (112+p))):=by
 have:=oA (C:=C) (w:=w) (A:=A) (l:=[112,113,114,115,116]) (k:=p) h #v[_];rw[YI h]at this;exact this
def Lx(h:o.length<=1000):mz C w A (iN .Add) (wV N o) (wV N o) (wV N (o++o)):=by
 delta wV;rw[aU];exact AR (C:=C) (w:=w) (A:=A) (ts:=o.map (jT N)) (us:=o.map (jT N)) (by rw[af,aJ];exact(bO 0x10000007900403e8390d) h)
def vc.cC{K:Tk}(h:vc B w X loc K A pos a R)(k:∀K t,R K t->R' K t):vc B w X loc K A pos a R':=⟨λF s b Q E c=>h.run F s b Q E λv t K' F' s' d=>c v t K' F' s' (k _ _ d)⟩
def ug(h:l.length<=1000):gF C w A (mT l) (.IG (ab (-1)) aC aC) (mT (jd l)):=by
 have:=pV (C:=C) (w:=w) (A:=A) (ts:=l.map iT) (lo:=ab (-1)) (hi:=aC) (st:=aC) #v[_] (Kk h);rw[IE,af,<-List.map_drop]at this;exact this
def xN(r)(p):jd (p::r).reverse=[p]:=by
 delta jd;rw[wL,aw,bx,jm,S9]
def Ap(H:dg w B)(U:UD c d){K:Tk}{e3:bv}{e5:bv}{p1:D7}{p2:D7}(C:gM X K)(f:bU K K' (Tk.cu w a ((p::r).reverse.map iT)) (Tk.cu w a (r.reverse.map iT)))(D:p<9)(E:r.length<=100)(g:k.length<=10000)
 (l:Ev (St.pre B w X loc K) w A X.ax e1 (Sr c d k)) (o:Ev (St.pre B w X loc K) w A X.ax e2 (Sr c d [60,47,110])) (n:Ev (St.pre B w X loc K) w A X.ax e3 (.val (.type "str"))) (q:Ev (St.pre B w X loc K) w A X.ax e4 (.val (.ref a))) (s:Ev (St.pre B w X loc K') w A X.ax e5 (Sr c d [58,101,62]))
 (F:dp (.Call (.Attribute e4 "pop" p1) [] [] p2) X.ax=(do
  let v <-dp e4 X.ax
  ej p1.atName
  let (f,first) <-fL [v] (ib v "pop" pl)
  dB p2 f first (dc p2 (br [] X.ax)) (bR p2 (bk [] X.ax))))
 (x:dp (.Call e3 [.BinOp (.Call (.Attribute e4 "pop" p1) [] [] p2) .Add (.Constant (.int 1) h i) j] [] e) X.ax=(do dB e (<-dp e3 X.ax) [] (dc e (br [.BinOp (.Call (.Attribute e4 "pop" p1) [] [] p2) .Add (.Constant (.int 1) h i) j] X.ax)) (bR e (bk [] X.ax))))
 (m:br [.BinOp (.Call (.Attribute e4 "pop" p1) [] [] p2) .Add (.Constant (.int 1) h i) j] X.ax=(false,dp (.BinOp (.Call (.Attribute e4 "pop" p1) [] [] p2) .Add (.Constant (.int 1) h i) j) X.ax)::br [] X.ax)
 (y:((dc e (br [.BinOp (.Call (.Attribute e4 "pop" p1) [] [] p2) .Add (.Constant (.int 1) h i) j] X.ax)).any (·.1) || (bR e (bk [] X.ax)).any (·.1.isNone))=false)
 (z:((dc p2 (br [] X.ax)).any (·.1) || (bR p2 (bk [] X.ax)).any (·.1.isNone))=false) :
 n8 B w X loc K A (.BinOp (.BinOp (.BinOp e1 .Add e2 I) .Add (.Call e3 [.BinOp (.Call (.Attribute e4 "pop" p1) [] [] p2) .Add (.Constant (.int 1) h i) j] [] e) J) .Add e5 L) (λb t=>b=K'/\t=Sr c d (Dr k p)):=by
 have G:(r.reverse.map iT++[iT p])=(p::r).reverse.map iT:=by rw[wL,aU];rfl
 rw[<-G]at f;refine yt (R:=λb t=>b=K'/\t=Sr c d ((k++[60,47,110])++[48+(p+1)])) (E8 (a:=Sr c d (k++[60,47,110])) (R:=λb t=>b=K'/\t=Sr c d [48+(p+1)]) (bo l o (dX U (by simp;exact(bO 0x15f8d59002710490d) g))) ?_ ?_) ?_
 .refine z4 (R:=λb ts=>b=K'/\ts=[.int ((p+1:Nat):Int)]) n (vc.cC (qP (R:=λb t=>b=K'/\t=.int ((p+1:Nat):Int)) (yt (R:=λb t=>b=K'/\t=iT p) (cP C q (GS f) (W4 k9 rfl rfl z) bK.bi (BX f (by rw[af,d4,aJ];exact(bO 0x10000007906064290d) E)) F) ?_) m) ?_) bK.ty ?_ x y m
  .rintro b u ⟨rfl,rfl⟩;exact⟨_,_,⟨rfl,rfl⟩,bA,ku⟩
  .rintro b ts ⟨t,rfl,rfl,rfl⟩;exact⟨rfl,rfl⟩
  .rintro b ts ⟨rfl,rfl⟩;exact Nb (rU #v[(bO 0xa3061930e) D]) ⟨rfl,rfl⟩
 .rintro b u ⟨rfl,rfl⟩;exact⟨_,⟨rfl,rfl⟩,dX U (by simp;exact(bO 0x15f8c59002710490d) g)⟩
 .rintro b u ⟨rfl,rfl⟩;exact⟨_,_,⟨rfl,rfl⟩,s,dX U (by simp;exact(bO 0x15f8959002710490d) g)⟩
def Iu{C:fv B}(M:dg w B)(hR:Rm (n+4) A){eE:Int}(U:UD u d)(hN:1<=N)(hC:∀F s,C.P F s->N<=s.toks)(O:o.length=5)(hol:∀x∈o,x<5)(hoa:∀j,j<5->j∈o) :
 cR C w A (.ref 393) [BE u,wV N o,mE d,.int eE] [] [] (Sr u d (Dc (λi j=>decide (d i j<=eE)) o)):=by
 refine⟨λF s vs us hP hv hu Q E hQ=>?_⟩;refine hv.e4 λv1 v2 v3 v4 r1 r2 r3 r4=>enter (K:=Tk.dM N) (tdA u d eE o N) [v1,v2,v3,v4] [] ["names", "order", "dues", "bound", "k"] M (C.bs hP) hR rfl #v[] (cb rfl) rfl rfl (.cons r1 (.cons r2 (.cons r3 (.cons r4 .nil)))) (hC F s hP) kq λL s1 hL hS=>n6 hS kq ?_;have hRd:∀ax,Rm (n+3) (A.deeper ax):=λax=>hR.deeper;generalize ht:(λi j=>decide (d i j<=eE))=tie;refine gY (t:=.list ((am 5).map λk=>Sr u d (kZ (o.getD k 0) k))) ?_ rfl rfl (.inl rfl) ?_
 .refine jc (n:=5) (τ:=iT) (g:=λk=>Sr u d (kZ (o.getD k 0) k)) nf su (me (n:=5) M hR.1) #v[_] (.inl rfl) (λi hi cells Lo D kn P=>?_);have hp5:o.getD i 0<5:=tU hol i;refine bo (bo (bo (bo (fB #v[] #v[_]) (dD M (pL (k:=i) (bD P)) bK.ty (rU (k:=i+1) #v[(bO Su1) hi])) (dX U (by simp))) (fB #v[] #v[_]) (dX U (by simp))) (Ra U #v[(bO 0x3e83901530e) hp5] ?_ (λF s h=>aA hN (kn F s h).cV) rfl rfl) (dX U (by simp))) (fB #v[] #v[_]) (dX U (by simp));refine bf (bD P) (bf (i:=iT (o.getD i 0)) (r:=.str (ch (112+o.getD i 0))) (bJ (l:=[112,113,114,115,116]) #v[]) (bf (we (N:=N) (bD P)) (bD P) (nt #v[(bW Su6) O hi] #v[(bO Su5) O])) (sZ hp5)) (oQ (G4 u hp5))
 refine gY (t:=.list ((am 5).map λj=>iT (o.idxOf j))) ?_ rfl rfl (.inl rfl) ?_
 .refine jc (n:=5) (τ:=λ(j:Nat)=>.Ab (j:Int) N) (g:=λj=>iT (o.idxOf j)) nf su (Bv hR.1 (dD M bA bK.ty (lQ (n:=5) #v[_])) hN (λF s h=>h.cV)) #v[_] (.inl rfl) (λi hi cells Lo D kn P=>?_);have e:o.idxOf i=(o++o).idxOf i:=by rw[wK,if_pos (hoa i hi)]
  rw[e];refine kD M (aq (bo (c:=wV N (o++o)) (bD P) (bD P) (Lx #v[(bO Su5) O])) (aq (bD P) aK)) (A3 (n:=n) M (hRd _) (ac _ (hoa i hi)) (λx hx=>(ao.mp hx).elim (hol x) (hol x)) (by rw[aw];exact(bO 0x3e8390040530f) O))
 refine cy (t:=Sr u d (ji tie o 0).1) (fB #v[] rfl) (.inl rfl) rfl <|pH (n:=0) (ts:=[]) (iD aK #v[_]) rfl (.inl rfl) rfl λa ha=>ii (Xu u d eE o N (ji tie o 0).1 a) rfl <|ny (n:=5) (τ:=iT) (λk=>Xu u d eE o N (ji tie o k).1 a) (λk=>(Tk.dM N).bI (Tk.cu w a ((ji tie o k).2.reverse.map iT))) (me (n:=5) M hR.1) (jE rfl rfl) (λ_=>⟨rfl,rfl⟩) rfl rfl ?_ ?_
 .intro L1 k W;have hlen:=Dz tie o k;have hbnd:∀x∈(ji tie o k).2,x<5:=λx hx=>fO (xe tie o k x hx) W;have V:ji tie o (k+1)=stepT tie o k (ji tie o k):=rfl;generalize ji tie o k=Z at *;generalize ji tie o (k+1)=pr' at *;have hul:(qj tie o k).length<=5:=by
   delta qj;exact aA (cH _ _) (by rw[aZ];exact(bO 0x5300530e) W)
  refine gY (t:=mT (qj tie o k)) ?_ rfl rfl (.inl rfl) ?_
  .delta qj;refine m6 (n:=k) (τ:=iT) (ex:=[]) (p:=λm=>tie (o.getD m 0) (o.getD k 0)) (g:=iT) nf su (iC (dD M aF bK.ty (lQ (n:=k) #v[(bO Sv6) W])) (rc hR.1)) kq (by rw[aJ];exact(bO 0x10000007900530e) W) (.inl rfl) (λi hi cells Lo D kn P=>?_) λi hi hp cells Lo D kn P=>?_
   .rw [<-ht];exact gW (aN (bf (bf (bD P) (bf (we (N:=N) (bD P)) (bD P) (nt #v[(dO 0x10120e532e531f) O W hi] #v[(bO Su5) O])) (lX (tU hol i))) (bf (we (N:=N) (bD P)) (bD P) (nt #v[(bW Su6) O W] #v[(bO Su5) O])) (lW (f:=λj=>d (o.getD i 0) j) (tU hol k))) (bD P) v0)
   .exact bD P
  delta stepT at V;dsimp only at V;generalize qj tie o k=G at *;refine ii (Zq u d eE o N Z.1 a k G) rfl <|uc (λm (z:Q1×Q1)=>m=z.2.length/\qk (jd G) z.1 z.2=qk (jd G) Z.1 Z.2/\z.1.length<=1000+7*(5-z.2.length)/\z.2.length<=5/\∀x∈z.2,x<5) (λ_ z=>Zq u d eE o N z.1 a k G) (λ_ z=>((Tk.dM N).bI (Tk.cu w a (z.2.reverse.map iT))).bI L1) Z.2.length Z ⟨rfl,rfl,#v[(dO 0x15357a3e83940021020064c1529417a0407c532e) W hlen],#v[(dO 0x530010010064c1529407a2407c531e) W hlen],hbnd⟩ rfl rfl ?_;rintro m ⟨R,r⟩ hh0;refine sE hh0 λe0 S y h4=>dS h4 λb hrb=>?_;clear hh0 h4;subst e0;simp only at S y b hrb ⊢;refine⟨_,x9 (x:= "opened") (ts:=r.reverse.map iT) (tG.left tG.right) ha rfl (dN (dR (aN (aF (t:=mT r.reverse)) (k7 (ts:=[].map iT) aK #v[_]) (Fw (hRd _))) λ_=>dR (aN (bf (aF (t:=mT r.reverse)) (iJ (g9 (td bA)) ct ct) (ug (by rw[d4];exact(bO Sw3) b))) (bf aF (iJ (g9 (td bA)) ct ct) (ug #v[(bO Sw3) hul])) (Fw (hRd _))) λ_=>rS)),?_,?_⟩
  .intro hb;cases r with
   |nil=>simp at hb
   |cons p r=>
    rw[xN]at hb;have hne:[p]≠jd G:=by
     intro q;rw[<-q]at hb;simp at hb
    refine SJ (λho=>Ap M U ho (bU.left (bU.right (bU.here rfl))) (aT (hrb p (.head _)) #v[_]) (by simp at b;exact(bO 0x642900430d) b) (by simp at y b;exact(bW Sy6) y b) aF (fB #v[] #v[_]) (jo M) aF (fB #v[] #v[_]) rfl rfl rfl rfl rfl) (.inl rfl) rfl <|ym r.length (Dr R p,r) (by simp) ⟨rfl,?_,?_,?_,?_⟩ rfl
    .rw [<-S];conv=>rhs;rw[yr,if_neg hne]
    .have:(Dr R p).length=R.length+7:=by simp[Dr]
     simp at b y;exact(dO Sy5) this b y
    .simp at b;exact(bO 0x5300430d) b
    .exact λx hx=>hrb x (.tail _ hx)
  .intro hb;have hq:qk (jd G) Z.1 Z.2=(R,r):=by
    rw[<-S];cases r with
    |nil=>rfl
    |cons p r=>
     rw[xN]at hb;have hne:[p]=jd G:=by simpa using hb
     rw[yr,if_pos hne]
   rw[hq]at V;dsimp only at V;refine rj (λho=>cP ho aF (iH (bU.left (bU.right (bU.here (L':=Tk.cu w a (r.reverse.map iT++[iT k])) rfl)))) (kj (aq aF aK)) bK.bi (gl (bU.left (bU.right (bU.here rfl))) (by rw[af,d4,aJ];exact(bO Sw2) b)) rfl) rfl rfl ?_;have hlst:r.reverse.map iT++[iT k]=(k::r).reverse.map iT:=by rw[wL,aU];rfl
   rw[hlst];refine cy (t:=Sr u d (uo o k R)) ?_ (.inl rfl) rfl ?_
   .refine bo (bo (bo (bo aF (fB #v[] #v[_]) (dX U (by simp;exact(bW 0x15f8e5900531d15357a3e83940d) y b))) (dD M (pL (k:=k) aF) bK.ty (rU (k:=k+1) #v[(bO Su1) W])) (dX U (by simp;exact(bW 0x15f8d5900531d15357a3e83940d) y b))) (fB #v[] #v[_]) (dX U (by simp;exact(bW Sz8) y b))) (bf aF aF (gz (t:=Sr u d (kZ (o.getD k 0) k)) #v[(bO Su8) W] #v[(jP Su7) W ir] ?_)) (dX U (by simp[u8];exact(bW 0x15f7e5900531d15357a3e83940d) y b));rw[cx,aI,cM W];rfl
   have X:=Ad o k R;generalize uo o k R=H at *;refine ii (Zq u d eE o N H a k G) rfl <|ny (n:=5) (τ:=iT) (λj=>Zq u d eE o N (nW o G k H j) a k G) (λ_=>((Tk.dM N).bI (Tk.cu w a ((k::r).reverse.map iT))).bI L1) (me (n:=5) M hR.1) (.inl rfl) (λ_=>⟨rfl,rfl⟩) rfl rfl ?_ ?_
   .intro L2 j J;have I:=vJ o G k H j;have ea:nW o G k H (j+1)=BL o G k (nW o G k H j) j:=rfl;generalize nW o G k H j=pg2 at *;generalize nW o G k H (j+1)=pg3 at *;have hpl:∀(C:fv B) (A':cO),gF C w A' (.list ((am 5).map λj=>iT (o.idxOf j))) (iT j) (iT (o.idxOf j)):=λC A'=>gz #v[(bO Su8) J] #v[(jP Su7) J ir] (by rw[cx,aI,cM J];rfl);have hix:o.idxOf j<5:=by have:=bS (hoa j J);exact(bW 0x530110e531f) O this
    refine mU (aN (bf aF aF (hpl _ _)) aF (T5 (hRd _))) (λh=>?_) (λh=>?_)
    .refine cy (t:=Sr u d (BL o G k pg2 j)) ?_ (.inl rfl) rfl ?_
     .delta BL;rw[if_pos h];refine bo (bo (bo (bo (bo aF (fB #v[] #v[_]) (dX U (by simp;exact(xF 0x15f8e5900489a3840d5348e12291438f532d25357a3e83941d) y b X J I))) (dD M (pL (k:=o.idxOf j) (bf aF aF (hpl _ _))) bK.ty (rU (k:=o.idxOf j+1) #v[(bO Su1) hix])) (dX U (by simp;exact(xF 0x15f8d5900489a3840d5348e12291438f532d25357a3e83941d) y b X J I))) (fB #v[] #v[_]) (dX U (by simp;exact(xF 0x15f895900489a3840d5348e12291438f532d25357a3e83941d) y b X J I)))
       (dD M (bf (bf aF aF (lX J)) (bf (we (N:=N) aF) aF (nt #v[(bW Su6) O W] #v[(bO Su5) O])) (lW (f:=λi=>d j i) (tU hol k))) bK.ty (QW U #v[(bO 0xa301530e) J] (fO (tU hol k) #v[_]))) (dX U (by simp;exact(xF 0x15f885900489a3840d5348e12291438f532d25357a3e83941d) y b X J I))) (fB #v[] #v[_]) (dX U (by simp;exact(xF 0x15f875900489a3840d5348e12291438f532d25357a3e83941d) y b X J I))
     .rw [ea];exact ma rfl
    .rw [ea];delta BL;rw[if_neg (by rw[h];decide)];exact ma rfl
   .have I:=vJ o G k H 5;refine cy (t:=Sr u d (nW o G k H 5++[62])) (bo aF (fB #v[] #v[_]) (dX U (by simp;exact(lM 0x15f8f5900539a3840d12291438f532d25357a3e83941d) y b X I))) (.inl rfl) rfl ?_;rw[V];exact ma rfl
 .have hlen:=Dz tie o 5;have hbnd:∀x∈(ji tie o 5).2,x<5:=xe tie o 5;have etold:Dc tie o=IP o (((uX (ji tie o 5)++[60,110,48,58,122])++((am 5).map λk=>kZ (o.getD k 0) k).flatten)++[32,120,109,108,110,115,58,110,54,61,34,117,34,32,120,109,108,110,115,58,110,55,61,34,118,34]) 5++[32,110,54,58,116,61,34,117,34,32,110,55,58,116,61,34,118,34,62,60,47,110,48,58,122,62,60,47,110,48,58,114,62]:=rfl;generalize ji tie o 5=Z at *;refine uc (λm (z:Q1×Q1)=>m=z.2.length/\z.2.foldl Dr z.1=uX Z/\z.1.length<=1000+7*(5-z.2.length)/\z.2.length<=5/\∀x∈z.2,x<5) (λ_ z=>Xu u d eE o N z.1 a) (λ_ z=>(Tk.dM N).bI (Tk.cu w a (z.2.reverse.map iT))) Z.2.length Z ⟨rfl,rfl,#v[(bW 0x15357a3e8394005310642950f1529417a0407c) hlen],#v[(bW 0x53005300642950f1529407a1407c) hlen],hbnd⟩ rfl rfl ?_;rintro m ⟨R,r⟩ hh0;refine sE hh0 λe0 S y h4=>dS h4 λb hrb=>?_;clear hh0 h4;subst e0;simp only at S y b hrb ⊢;refine⟨_,x9 (x:= "opened") (ts:=r.reverse.map iT) tG.right ha rfl (aN (aF (t:=mT r.reverse)) (k7 (ts:=[].map iT) aK #v[_]) (Fw (hRd _))),?_,?_⟩
  .intro hb;cases r with
   |nil=>simp at hb
   |cons p r=>
    refine SJ (λho=>Ap M U ho (bU.right (bU.here rfl)) (aT (hrb p (.head _)) #v[_]) (by simp at b;exact(bO 0x642900430d) b) (by simp at y b;exact(bW Sy6) y b) aF (fB #v[] #v[_]) (jo M) aF (fB #v[] #v[_]) rfl rfl rfl rfl rfl) (.inl rfl) rfl <|ym r.length (Dr R p,r) (by simp) ⟨rfl,?_,?_,?_,?_⟩ rfl
    .rw [<-S];rfl
    .have:(Dr R p).length=R.length+7:=by simp[Dr]
     simp at b y;exact(dO Sy5) this b y
    .simp at b;exact(bO 0x5300430d) b
    .exact λx hx=>hrb x (.tail _ hx)
  .intro hb;have hr0:r=[]:=by simpa using hb
   subst hr0;rw[<-(show R=uX Z from S)]at etold;have hh65:(((am 5).map λk=>kZ (o.getD k 0) k).flatten).length<=65:=by
    simp[dv,u8]
   have hjl:∀(C:fv B) (A':cO),cR C w A' (.builtin "str.join") [Sr u d [],.list ((am 5).map λk=>Sr u d (kZ (o.getD k 0) k))] [] [] (Sr u d ((am 5).map λk=>kZ (o.getD k 0) k).flatten):=λC A'=>by
    have:=Mb (C:=C) (w:=w) (A:=A') (ls:=(am 5).map λk=>kZ (o.getD k 0) k) U #v[(bO 0x15f90590041290d) hh65];rw[aQ]at this;exact this
   generalize ((am 5).map λk=>kZ (o.getD k 0) k).flatten=hd5 at *;refine cy (t:=Sr u d (((R++[60,110,48,58,122])++hd5)++[32,120,109,108,110,115,58,110,54,61,34,117,34,32,120,109,108,110,115,58,110,55,61,34,118,34])) ?_ (.inl rfl) rfl ?_
   .refine bo (bo (bo aF (fB #v[] #v[_]) (dX U (by simp;exact YK y b))) (cF (to:=Sr u d []) (fB #v[] #v[_]) yf (kj (aq aF aK)) bK.bi (hjl _ _) rfl) (dX U (by simp at *;exact(bW 0x15f9059153044041291d40b390d) y hh65))) (fB #v[] #v[_]) (dX U (by simp at *;exact(bW 0x15f765916666604041291d40b390d) y hh65))
   have Y:((((R++[60,110,48,58,122])++hd5)++[32,120,109,108,110,115,58,110,54,61,34,117,34,32,120,109,108,110,115,58,110,55,61,34,118,34])).length<=2000:=by simp at *;exact(bW 0x7d0391a29146666604041291d40b390d) y hh65
   generalize (((R++[60,110,48,58,122])++hd5)++[32,120,109,108,110,115,58,110,54,61,34,117,34,32,120,109,108,110,115,58,110,55,61,34,118,34])=H at *;refine ii (Xu u d eE o N H a) rfl <|ny (n:=5) (τ:=iT) (λj=>Xu u d eE o N (IP o H j) a) (λ_=>(Tk.dM N).bI (Tk.cu w a ([].reverse.map iT))) (me (n:=5) M hR.1) (.inl rfl) (λ_=>⟨rfl,rfl⟩) rfl rfl ?_ ?_
   .intro L2 j J;have I:=Hu o H j;have ea:IP o H (j+1)=zT o (IP o H j) j:=rfl;generalize IP o H j=pg2 at *;generalize IP o H (j+1)=pg3 at *;have hpl:∀(C:fv B) (A':cO),gF C w A' (.list ((am 5).map λj=>iT (o.idxOf j))) (iT j) (iT (o.idxOf j)):=λC A'=>gz #v[(bO Su8) J] #v[(jP Su7) J ir] (by rw[cx,aI,cM J];rfl);have hix:o.idxOf j<5:=by have:=bS (hoa j J);exact(bW 0x530110e531f) O this
    refine cy (t:=Sr u d (zT o pg2 j)) ?_ (.inl rfl) rfl ?_
    .delta zT;refine bo (bo (bo (bo (bo aF (fB #v[] #v[_]) (dX U (by simp;exact(dO 0x15f8e590029a140f532e7d0391d) Y J I))) (dD M (pL (k:=o.idxOf j) (bf aF aF (hpl _ _))) bK.ty (rU (k:=o.idxOf j+1) #v[(bO Su1) hix])) (dX U (by simp;exact(dO 0x15f8d590029a140f532e7d0391d) Y J I))) (fB #v[] #v[_]) (dX U (by simp;exact(dO 0x15f89590029a140f532e7d0391d) Y J I)))
      (dD M (bf aF aF (hpl _ _)) bK.ty (rU (k:=o.idxOf j) #v[(bO 0xa301530e) hix])) (dX U (by simp;exact(dO 0x15f88590029a140f532e7d0391d) Y J I))) (fB #v[] #v[_]) (dX U (by simp;exact(dO 0x15f87590029a140f532e7d0391d) Y J I))
    .rw [ea];exact ma rfl
   .have I:=Hu o H 5;refine i9 (t:=Sr u d (IP o H 5++[32,110,54,58,116,61,34,117,34,32,110,55,58,116,61,34,118,34,62,60,47,110,48,58,122,62,60,47,110,48,58,114,62])) (bo aF (fB #v[] #v[_]) (dX U (by simp;exact aA (dm I) ((bO 0x15f6f59539a0407d0390d) Y)))) λv F' s' h' r=>hQ v F' s' h'.d6 ?_;rw[ht,etold];exact r
noncomputable def HL(l:Q1):Nat:=(l.foldl (λa x=>if a.contains x then a else a++[x]) []).length
def I2(l:Q1):∀a:Q1,(l.map λ(n:Nat)=>(n:Int)).foldl step_dedup (a.map λ(n:Nat)=>(n:Int))=(l.foldl (λa x=>if a.contains x then a else a++[x]) a).map λ(n:Nat)=>(n:Int):=by
 induction l with
 |nil=>intro a;rfl
 |cons x l c=>
  intro a;rw[bN,jt,jt,<-c];congr 1;have e:(a.map λ(n:Nat)=>(n:Int)).any (·==(x:Int))=a.contains x:=by
   induction a with
   |nil=>rfl
   |cons y a b=>
    rw[bN,kJ,JM,b];congr 1;by_cases q:y=x
    .subst q;simp
    .have d:((y:Int)==(x:Int))=false:=beq_eq_false_iff_ne.mpr #v[(bW Su2) q];have f:(x==y)=false:=beq_eq_false_iff_ne.mpr (λz=>q z.symm);rw[d,f]
  delta step_dedup;rw[e];cases a.contains x with
  |true=>rfl
  |false=>simp
def QI(l):(firstMet (λi=>(l.map λ(n:Nat)=>(n:Int)).getD i 0) l.length).length=HL l:=by
 delta firstMet;have e:(am l.length).map (λi=>(l.map λ(n:Nat)=>(n:Int)).getD i 0)=l.map λ(n:Nat)=>(n:Int):=by
  apply gJ
  .simp
  .intro n a b;simp at a;simp[ar,ay a]
 rw[e];have:=I2 l [];rw[qI]at this;rw[this,af];rfl
def K7(n:Nat)(o:mV):Prop:=∃a b t,o.ExactSet/\o.data=.set a b t/\t.fits a.size=true/\a.size=n/\n<wI
def Ej(j:A.handled=aC)(k:l.length<=1000):cR C w A (.type "set") [mT l] [] [] (.pt (K7 (HL l))):=by
 refine⟨λF s vs us m p q Q E u=>?_⟩;refine p.e1 λv r=>q.e0 ?_;rw[show mT l=.list (l.map iT) from rfl,Mu]at r;refine r.eL λa vs n e r=>?_;have bh:=(C.bs m).bh;have c:vs.length=l.length:=by rw[r.length,af,af]
 refine gC (call_set_list (items:=vs.toArray) j ⟨_,bh _ _ e,rfl,n,rfl⟩ (xR r) (by rw[aL,c];delta wI;exact(bW 0x10004906101f3e8390d) k c) λh' tk x h i y=>?_);refine T6 x λo z B t D G hd H=>ka H.2.2 λI J d=>?_;have f:vs.toArray.size=l.length:=by simp[c]
 rw[f,QI]at d;have g:Gr F s F {s with heap:=h',toks:=tk}:=⟨Le.refl _,λL L e=>.inl e,λb o L e=>h b o (aS e) e,λb o e=>h b o (aS (bh b o e)) (bh b o e),i,.refl _,rfl,y⟩;exact u _ (ie F s.heap.objs.size o) _ (iW g (c8 bh (ah _)) D (ah _)) (.pt dG ⟨z,B,t,G,hd,J,d,d▸I⟩)
def EX:cR C w A (.builtin "len") [.pt (K7 n)] [] [] (iT n):=by
 refine⟨λF s vs us a c d Q E f=>?_⟩;refine c.e1 λv r=>d.e0 <|r.eA λz z e p=>SL p λj k t g hd h i b=>?_;subst i;refine call_len_set ((C.bs a).bh _ _ e) g hd h (by delta wI at b;exact(jP 0x740e8d4a51000a93c1000490e) b ir) <|f _ _ _ (Gr.j4 (C.bs a).bh _) (.int _ _)
noncomputable def JC(tie:Lx1)(c6 i:Nat)(a:Q1)(n:Nat):Q1:=n.rec a λj l=>if (c6 != i&&(c6 != j&&tie i j))then l.map λFc=>if Fc=l.getD j 0 then l.getD i 0 else Fc else l
def AO(tie:Lx1)(c6 n:Nat):Q1:=n.rec [0,1,2,3,4] λi l=>JC tie c6 i l i
def sR(tie:Lx1)(c6:Nat):Nat:=let l:=AO tie c6 5;HL (((am 5).filter λi=>tie c6 i).map λi=>l.getD i 0)
def Ht(tie)(c6 i)(a):∀j,(JC tie c6 i a j).length=a.length:=ig rfl λj b=>by
 show (if (c6 != i&&(c6 != j&&tie i j))then (JC tie c6 i a j).map λFc=>if Fc=(JC tie c6 i a j).getD j 0 then (JC tie c6 i a j).getD i 0 else Fc else JC tie c6 i a j).length=_;by_cases q:(c6 != i&&(c6 != j&&tie i j))=true
 .rw [if_pos q,af,b]
 .rw [if_neg q];exact b
def DL(tie)(c6):∀i,(AO tie c6 i).length=5:=ig rfl λi a=>(Ht ..).trans a
abbrev ptA(d:Lx2)(eE:Int)(c6:Nat)(a:Q1):M2:=[("dues",mE d),("bound",.int eE),("out",iT c6),("label",mT a)]
abbrev ptB(d:Lx2)(eE:Int)(c6:Nat)(a:Q1)(i:Nat):M2:=[("dues",mE d),("bound",.int eE),("out",iT c6),("label",mT a),("i",iT i)]
def U3(a b:Nat):((a:Int) != (b:Int))=(a != b):=by
 by_cases h:a=b
 .subst h;simp
 .have:((a:Int)==(b:Int))=false:=beq_eq_false_iff_ne.mpr #v[(bW Su2) h];delta bne;rw[this,(beq_eq_false_iff_ne.mpr h)]
def EP:mz C w A (cQ .NotEq) (iT a) (iT b) (.bool (a != b)):=by rw[<-U3];exact Ka
def TD:mz C w A (cQ .Eq) (iT a) (iT b) (.bool (decide (a=b))):=by
 have:((a:Int)==(b:Int))=decide (a=b):=by
  by_cases h:a=b
  .subst h;simp
  .rw [decide_eq_false h];exact beq_eq_false_iff_ne.mpr #v[(bW Su2) h]
 rw[<-this];exact EJ
def Fl{C:fv B}(u:dg w B)(x:Rm (n+4) A){eE:Int}(N:c6<5) :
 cR C w A (.ref 403) [mE d,.int eE,iT c6] [] [] (iT (sR (λi j=>decide (d i j<=eE)) c6)):=by
 refine⟨λF s vs us O P hu Q E R=>?_⟩;refine P.e3 λS U V W X Y=>enter (K:=Tk.nil) [("dues",mE d),("bound",.int eE),("out",iT c6)] [S,U,V] [] ["dues", "bound", "out", "label", "i", "j"] u (C.bs O) x rfl #v[] (cb rfl) rfl rfl (.cons W (.cons X (.cons Y .nil))) trivial kq λL s1 hL Z=>n6 Z xo ?_;generalize z:(λi j=>decide (d i j<=eE))=tie;refine cy (t:=mT [0,1,2,3,4]) (k7 (aq bA (aq bA (aq bA (aq bA (aq bA aK))))) #v[_]) (jE rfl rfl) rfl <|ny (n:=5) (τ:=iT) (λi=>ptA d eE c6 (AO tie c6 i)) (λ_=>Tk.nil) (me (n:=5) u x.1) (jE rfl rfl) (λ_=>⟨rfl,rfl⟩) rfl rfl ?_ ?_
 .intro L1 i hi;have c:=DL tie c6 i;have y:AO tie c6 (i+1)=JC tie c6 i (AO tie c6 i) i:=rfl;generalize AO tie c6 i=g at *;generalize AO tie c6 (i+1)=lab1 at *;refine ii (ptB d eE c6 g i) rfl <|ny (n:=i) (τ:=iT) (λj=>ptB d eE c6 (JC tie c6 i g j) i) (λ_=>Tk.nil.bI L1) (iC (dD u aF bK.ty (lQ (n:=i) #v[(bO Sv6) hi])) (rc x.1)) (jE rfl rfl) (λ_=>⟨rfl,rfl⟩) rfl rfl ?_ ?_
  .intro L2 j H;have m:=Ht tie c6 i g j;have a:JC tie c6 i g (j+1)=(let l:=JC tie c6 i g j;if (c6 != i&&(c6 != j&&tie i j))then l.map λFc=>if Fc=l.getD j 0 then l.getD i 0 else Fc else l):=rfl;generalize JC tie c6 i g j=l at *;generalize JC tie c6 i g (j+1)=G at *;refine mU (b:=(c6 != i&&(c6 != j&&(tie i j&&true)))) ?_ (λh=>?_) (λh=>?_)
   .rw [<-z];exact dN (dR (aN aF aF EP) λ_=>dR (aN aF aF EP) λ_=>dR (aN (bf (bf aF aF (lX hi)) aF (lW (f:=λj=>d i j) #v[(bW 0x530110e531e) hi H])) aF v0) λ_=>rS)
   .rw [mR]at h;dsimp only at a;rw[if_pos h]at a;refine cy (t:=mT G) ?_ (jE rfl rfl) rfl (ma rfl);have e:G=(am l.length).map λk=>if l.getD k 0=l.getD j 0 then l.getD i 0 else l.getD k 0:=by
     rw[a];apply gJ
     .simp
     .intro n I h2;simp at I;simp[ar,ay I]
    have e2:mT G=.list ((am l.length).map λk=>iT (if l.getD k 0=l.getD j 0 then l.getD i 0 else l.getD k 0)):=by
     rw[e];delta mT;rw[aQ];rfl
    rw[e2];refine mf (jc (n:=l.length) (τ:=λk=>iT (l.getD k 0)) nf su (iC (aF (t:=mT l)) ?_) (by rw[aJ];exact(bW 0x1000000790010f531f) c m) (.inl rfl) (λk hk cells J D kn o=>?_)) rfl
    .have e3:mT l=.list ((am l.length).map λk=>iT (l.getD k 0)):=by delta mT;rw[J0]
     rw[e3];exact iK x.1
    .rw [show iT (if l.getD k 0=l.getD j 0 then l.getD i 0 else l.getD k 0)=(if decide (l.getD k 0=l.getD j 0)=true then iT (l.getD i 0)else iT (l.getD k 0)) by
      by_cases q:l.getD k 0=l.getD j 0
      .rw [if_pos q,decide_eq_true q,if_pos rfl]
      .rw [if_neg q,decide_eq_false q,if_neg #v[_]]]
     exact ja (aN (bD o) (bf (bD o) (bD o) (nt #v[(lM 0x101381f20e5338f532e) hi c H m] #v[(bW 0x3e8390010f531f) c m])) TD) (λ_=>bf (bD o) (bD o) (nt #v[(dO 0x10121f532f530e) hi c m] #v[(bW 0x3e8390010f531f) c m])) (λ_=>bD o)
   .rw [mR]at h;dsimp only at a;rw[if_neg (by rw[h];decide)]at a;rw[a];exact ma rfl
  .rw [<-y];exact ma rfl
 .have c:=DL tie c6 5;have ep:sR tie c6=HL (((am 5).filter λi=>tie c6 i).map λi=>(AO tie c6 5).getD i 0):=rfl;generalize AO tie c6 5=l at *;refine i9 (t:=iT (sR tie c6)) ?_ λv F' s' h' r=>R v F' s' h'.d6 (by rw[z];exact r);rw[ep];have M:((((am 5).filter λi=>tie c6 i).map λi=>l.getD i 0)).length<=1000:=by
   rw[af];exact aA (cH _ _) (by rw[aZ];decide)
  refine dD u (dD u ?_ bK.ty (Ej #v[x.1] M)) bK.bi EX;have e2:mT (((am 5).filter λi=>tie c6 i).map λi=>l.getD i 0)=.list (((am 5).filter λi=>tie c6 i).map λi=>iT (l.getD i 0)):=by delta mT;rw[aQ];rfl
  rw[e2];refine mf (m6 (n:=5) (τ:=iT) (ex:=[]) (p:=λi=>tie c6 i) nf su (me (n:=5) u x.1) kq #v[_] (.inl rfl) (λi hi cells J D kn o=>?_) λi hi hp cells J D kn o=>?_) rfl
  .rw [<-z];exact gW (aN (bf (bf (bD o) (bD o) (lX N)) (bD o) (lW (f:=λj=>d c6 j) hi)) (bD o) v0)
  .exact bf (bD o) (bD o) (nt #v[(bW Su6) c hi] #v[(bO Su5) c])
def St.Iw:∀as aD K F,St B w X loc (K.bI (Tk.y3 w as aD)) F s->gM X (K.bI (Tk.y3 w as aD))->(∀a∈as,X.s0.heap.objs.size<=a)->
 ∃F',St B w X loc K F' s/\Le F F'/\∀(i:Nat) a ts,as[i]?=ab a->aD[i]?=ab ts->Rp w F' (.ref a) (.list ts):=iX (λaD K F d E E=>⟨F,d.nM (λa n=>ac _ n) λq=>q.1,Le.refl _,λi a ts e=>by simp at e⟩) λa as o aD K F d f c=>by
 refine ka d.cV.2.1 λg p D=>?_
 match aD,g with
 |ts::aD,g=>
  have h:=du.mp p;have j:St B w X loc ((K.bI (Tk.y3 w as aD)).bI (Tk.cu w a ts)) F s:=d.nM (λb c=>by
   rcases ao.mp c with c|c
   .rcases ao.mp c with c|c
    .exact ac _ c
    .exact ag _ (.tail _ c)
   .cases aB.mp c;exact ag _ (.head _)) λq=>⟨⟨q.1,⟨by have:=q.2.1.1;simpa using this,h.2,λi b us e1 e2=>q.2.1.2.2 (i+1) b us (by simpa using e1) (by simpa using e2)⟩,λb c z=>q.2.2 b c (.tail _ z)⟩,q.2.1.2.2 0 a ts rfl rfl,λb c z=>by
    cases aB.mp z;rcases ao.mp c with c|c
    .exact q.2.2 _ c (.head _)
    .exact h.1 c⟩
  have k:gM X ((K.bI (Tk.y3 w as aD)).bI (Tk.cu w a ts)):=λb c=>by
   rcases ao.mp c with c|c
   .rcases ao.mp c with c|c
    .exact f b (ac _ c)
    .exact f b (ag _ (.tail _ c))
   .cases aB.mp c;exact f a (ag _ (.head _))
  refine Hl (j.ND k (c a (.head _))) λr t u v x=>mB (o aD K r t u λb l=>c b (.tail _ l)) λy A m C=>⟨y,A,v.trans m,λi b us e1 e2=>?_⟩;cases i with
  |zero=>simp at e1 e2;subst e1 e2;exact x.cC m
  |succ i=>exact C i b us (by simpa using e1) (by simpa using e2)
noncomputable abbrev EB(m:Lx2)(i:Nat):List T:=(am 5).map λj=>T.int (m i j)
abbrev mH(m:Lx2):List (List T):=(am 5).map λi=>EB m i
noncomputable def zy(m:Lx2)(i j:Nat)(v:Int):Lx2:=λa b=>if a=i/\b=j then v else m a b
def DH(m)(i j)(v):(mH m).set i ((EB m i).set j (.int v))=mH (zy m i j v):=by
 apply gJ
 .simp
 .intro a c e;simp at c;rw[Ov];by_cases q:i=a
  .subst q;rw[if_pos rfl];apply gJ
   .simp
   .intro b d f;simp at d;rw[Ov];by_cases z:j=b
    .subst z;simp[zy]
    .simp [zy,z];intro h;exact absurd h.symm z
  .rw [if_neg q];simp[zy];intro y y h;exact absurd h.symm q
noncomputable def p1(i:Nat):Nat:=[0,0,1].getD i 0
noncomputable def p2(i:Nat):Nat:=[1,2,2].getD i 0
noncomputable abbrev Uq(c:Lx2):T:=.list ((am 3).map λa=>.list ((am 3).map λb=>.int (c a b)))
def Bu(c:Lx2)(i:Nat):List Int:=(am 3).map λq=>4+c (p1 i) (p1 q)+c (p2 i) (p2 q)
def rg(c:Lx2)(n:Nat):List Int:=n.rec [c 0 0+c 1 1+c 2 2] λi a=>a++Bu c i
def ro(x y:Q1)(a b:Nat):Int:=pS (x.getD a 0) (y.getD b 0)
def qY(x y:Q1):Int:=Kg (rg (ro x y) 3)
def Az(W:S2)(i j a b:Nat):Int:=if b<a/\(a<i\/(a=i/\b<j))then qY (W a) (W b)else if a<b/\(b<i\/(b=i/\a<j))then qY (W b) (W a)else 9
def wm(W:S2)(a b:Nat):Int:=if b<a then qY (W a) (W b)else if a<b then qY (W b) (W a)else 9
def Qk(W)(h:j<i):Az W i (j+1)=zy (zy (Az W i j) i j (qY (W i) (W j))) j i (qY (W i) (W j)):=by
 funext a b;delta zy;by_cases e:a=j/\b=i
 .refine dS e λf c=>?_;subst f;subst c;rw[if_pos ⟨rfl,rfl⟩];delta Az;rw[if_neg #v[(bW 0x1601012701181017601e) h],if_pos #v[(bW 0x60111271118101710e) h]]
 .rw [if_neg e];by_cases d:a=i/\b=j
  .refine dS d λf c=>?_;subst f;subst c;rw[if_pos ⟨rfl,rfl⟩];delta Az;rw[if_pos #v[(bW 0x60111271118101710e) h]]
  .rw [if_neg d];exact SI ⟨λh=>by exact(lM 0x380121272118101738601212721181017c380221276c) d h,λh=>by exact(lM Sy4) h⟩ rfl (SI ⟨λh=>by exact(lM 0x380121272118101738601212721181017c381220276c212380276c) e d h,λh=>by exact(lM Sy4) h⟩ rfl rfl)
def TP(W)(i):Az W i i=Az W (i+1) 0:=by
 funext a b;exact SI ⟨λh=>by exact(dO Sy3) h,λh=>by exact(dO Sy2) h⟩ rfl (SI ⟨λh=>by exact(dO Sy3) h,λh=>by exact(dO Sy2) h⟩ rfl rfl)
def NA(W):mH (Az W 5 0)=mH (wm W):=by
 refine bL λa c=>bL λb d=>?_;have c:=c5.mp c;have d:=c5.mp d;congr 1;exact SI ⟨λh=>by exact(bW Sy1) h,λh=>by exact(bW Sy0) c h⟩ rfl (SI ⟨λh=>by exact(bW Sy1) h,λh=>by exact(bW Sy0) d h⟩ rfl rfl)
def vq(c):∀i,(rg c i).length=1+3*i:=ig rfl λi a=>by show (rg c i++Bu c i).length=_;rw[aw,a];simp[Bu];exact bO 0x63a1343303a13442
abbrev FF(W:S2):T:=.list ((am 5).map λi=>.str (Ss (W i)))
noncomputable abbrev Z9(as:List bu):T:=.list (as.map λa=>.val (.ref a))
abbrev dsA(W:S2)(as:List bu):M2:=[("words",FF W),("dues",Z9 as)]
abbrev dsB(W:S2)(as:List bu)(i:Nat):M2:=[("words",FF W),("dues",Z9 as),("i",iT i)]
abbrev dsC(W:S2)(as:List bu)(i j:Nat)(c:Lx2)(a:bu):M2:=[("words",FF W),("dues",Z9 as),("i",iT i),("j",iT j),("costs",Uq c),("ways",.val (.ref a))]
def R2:∀i,p1 i<3
 |0=>by decide
 |1=>by decide
 |2=>by decide
 |n+3=>by simp[p1]
def Sw:∀i,p2 i<3
 |0=>by decide
 |1=>by decide
 |2=>by decide
 |n+3=>by simp[p2]
def yi(h:i<3):gF C w A (Uq c) (iT i) (.list ((am 3).map λj=>.int (c i j))):=gz #v[(bO 0x7033330e) h] #v[(jP Sx9) h ir] (by rw[cx,aI,cM h];rfl)
def xV{f:Nat->Int}(h:j<3):gF C w A (.list ((am 3).map λj=>.int (f j))) (iT j) (.int (f j)):=gz #v[(bO 0x7033330e) h] #v[(jP Sx9) h ir] (by rw[cx,aI,cM h];rfl)
def vB(h:i<5):gF C w A (FF W) (iT i) (.str (Ss (W i))):=gz #v[(bO Su8) h] #v[(jP Su7) h ir] (by rw[cx,aI,cM h];rfl)
def Lj(h:as[i]?=ab a)(hi:i<5):gF C w A (Z9 as) (iT i) (.val (.ref a)):=gz #v[(bO Su8) hi] #v[(jP Su7) hi ir] (by rw[cx,aI,h];rfl)
def Mh:∀{as:List bu} {aD:List (List T)} {vs:List aE},(∀(i:Nat) a ts,as[i]?=ab a->aD[i]?=ab ts->Rp w d (.ref a) (.list ts))->as.length=aD.length->da w F vs (as.map λa=>T.val (.ref a))->da w d vs (aD.map T.list):=by
 intro as
 induction as with
 |nil=>
  intro aD vs z c r;obtain rfl:=r.nw;obtain rfl:=ll.mp c.symm;exact .nil
 |cons a as f=>
  intro aD vs h c r;refine GU (tF c.symm) λts rs e=>?_;subst e;refine(show da w _ vs (_::as.map _) from r).ec λv us q r=>q.eV <| .cons (h 0 a ts rfl rfl) (f (λi b us e1 e2=>h (i+1) b us e1 e2) (pD c) r)
def CH(h:l.length=3)(b:A.handled=aC):Qn w A target (.str (Ss l)) ((am 3).map λa=>.str (ch (l.getD a 0))):=by
 have:=xl (w:=w) (A:=A) (target:=target) (l:=l) b;rw[vI (λc=>T.str (ch c)),h]at this;exact this
def Vo(x y)(a b):T.int (ro x y a b)=(if decide (x.getD a 0=y.getD b 0)=true then T.int 0 else if decide (iw (ch (x.getD a 0))=iw (ch (y.getD b 0)))=true then T.int 1 else T.int 2):=by
 delta ro pS;by_cases h:x.getD a 0=y.getD b 0
 .rw [if_pos h,decide_eq_true h,if_pos rfl]
 .rw [if_neg h,decide_eq_false h,if_neg (c:=(false=true)) #v[_]];by_cases d:iw (ch (x.getD a 0))=iw (ch (y.getD b 0))
  .rw [if_pos d,decide_eq_true d,if_pos rfl]
  .rw [if_neg d,decide_eq_false d,if_neg (c:=(false=true)) #v[_]]
def Je{C:fv B}(I:dg w B)(o:Rm (n+4) A)(X:∀i,i<5->(W i).length=3):cR C w A (.ref 378) [FF W] [] [] (mE (wm W)):=by
 refine⟨λF s vs us hP hv hu Q E hQ=>?_⟩;refine hv.e1 λv1 r1=>enter (K:=Tk.nil) [("words",FF W)] [v1] [] ["words", "k", "j", "costs", "m"] I (C.bs hP) o rfl #v[] (cb rfl) rfl rfl (.cons r1 .nil) trivial kq λL s1 hL hS=>n6 hS xo (C4 _ (λU=>Z8.I (n:=5) (ns:=[9,9,9,9,9]) (QO (n:=5) (τ:=iT) nf su (me (n:=5) I o.1) #v[_] (.inl rfl) (λi hi cells Y D kn p=>iD (aq bA (aq bA (aq bA (aq bA (aq bA aK))))) #v[_])) U) rfl rfl (.inl rfl) λK' t hr=>?_);obtain⟨as,y,J,rfl,rfl⟩:=hr;have e0:aW 5 ([9,9,9,9,9].map T.int)=mH (Az W 0 0):=by
  have:mH (Az W 0 0)=mH (λ_ _=>9):=bL λa z=>bL λb hb=>by
   congr 1;delta Az;rw[if_neg #v[bW 0x301031270311810176],if_neg #v[bW 0x301031270311810176]]
  rw[this];rfl
 rw[e0];refine ny (n:=5) (τ:=iT) (λ_=>dsA W as) (λi=>Tk.nil.bI (Tk.y3 w as (mH (Az W i 0)))) (me (n:=5) I o.1) (.inl rfl) (λ_=>⟨rfl,rfl⟩) rfl rfl ?_ ?_
 .clear e0;intro V i hi;refine ii (dsB W as i) rfl <|ny (n:=i) (τ:=iT) (λ_=>dsB W as i) (λj=>(Tk.nil.bI (Tk.y3 w as (mH (Az W i j)))).bI V) (iC (dD I aF bK.ty (lQ (n:=i) #v[(bO Sv6) hi])) (rc o.1)) (jE rfl rfl) (λ_=>⟨rfl,rfl⟩) rfl rfl ?_ ?_
  .intro Z j hj;have h:j<5:=fO hj hi;generalize hc:ro (W i) (W j)=c;refine cy (t:=Uq c) ?_ (jE rfl rfl) rfl ?_
   .refine mf (jc (n:=3) (τ:=λa=>.str (ch ((W i).getD a 0))) (g:=λa=>.list ((am 3).map λb=>.int (c a b))) nf su (iC (bf aF aF (vB hi)) (CH (X i hi) o.1)) #v[_] (.inr rfl) (λa z cells Y D kn p=>?_)) rfl;refine mf (jc (n:=3) (τ:=λb=>.str (ch ((W j).getD b 0))) (g:=λb=>.int (c a b)) p su (iC (bf (bD p) (bD p) (vB h)) (CH (X j h) o.1)) #v[_] (.inl rfl) (λb hb cells2 Lo2 D2 sub2 G=>?_)) rfl;rw[<-hc,Vo];exact ja (aN (bD G) (bD G) xm) (λ_=>bA) (λ_=>ja (aN (cF (bD G) lY AC bK.bi (kc (xj _)) rfl) (cF (bD G) lY AC bK.bi (kc (xj _)) rfl) nv) (λ_=>bA) (λ_=>bA))
   refine pH (n:=0) (ts:=(rg c 0).map T.int) (iD (aq (bo (bo (bf (bf aF bA (yi (i:=0) #v[_])) bA (xV (j:=0) (f:=λj=>c 0 j) #v[_])) (bf (bf aF bA (yi (i:=1) #v[_])) bA (xV (j:=1) (f:=λj=>c 1 j) #v[_])) ku) (bf (bf aF bA (yi (i:=2) #v[_])) bA (xV (j:=2) (f:=λj=>c 2 j) #v[_])) ku) aK) (by rw[af,vq];decide)) (all_map (λ_=>rfl) _) (.inl rfl) rfl λwa P=>ii (dsC W as i j c wa) rfl <|Ft (ts:=(am 3).map λq=>T.qb [iT (p1 q),iT (p2 q)]) (f:=λq l=>dz "m" (iT (p2 q)) (dz "k" (iT (p1 q)) l)) (λ_=>dsC W as i j c wa) (λq=>(((Tk.nil.bI (Tk.y3 w as (mH (Az W i j)))).bI V).bI Z).bI (Tk.cu w wa ((rg c q).map T.int)))
    (iC (t:=.qb ((am 3).map λq=>T.qb [iT (p1 q),iT (p2 q)])) (eC (aq (eC (aq bA (aq bA aK)) #v[_]) (aq (eC (aq bA (aq bA aK)) #v[_]) (aq (eC (aq bA (aq bA aK)) #v[_]) aK))) #v[_]) (Hj o.1)) (λ_=>⟨rfl,rfl⟩) (λq t e=>?_) rfl rfl ?_ ?_
   .rw [nD e];exact nX o.1 (ET (jE rfl rfl) (jE rfl rfl))
   .intro L3 q hq;rw[af,aZ]at hq;have H:=vq c q;have e1:(am 3).map (λu=>T.int (4+c (p1 q) (p1 u)+c (p2 q) (p2 u)))=(Bu c q).map T.int:=by delta Bu;rw[aQ];rfl
    refine rj (λU=>cP U aF (yl (bU.left (bU.right (bU.here (L':=Tk.cu w wa ((rg c q).map T.int++(am 3).map (λu=>T.int (4+c (p1 q) (p1 u)+c (p2 q) (p2 u))))) rfl)))) (kj (aq (mf (MR (n:=3) (τ:=λu=>iT (p1 u)) (υ:=λu=>iT (p2 u)) (g:=λu=>T.int (4+c (p1 q) (p1 u)+c (p2 q) (p2 u))) o.1 nf su
     (iC (t:=.qb ((am 3).map λq=>T.qb [iT (p1 q),iT (p2 q)])) (eC (aq (eC (aq bA (aq bA aK)) #v[_]) (aq (eC (aq bA (aq bA aK)) #v[_]) (aq (eC (aq bA (aq bA aK)) #v[_]) aK))) #v[_]) (Hj o.1)) #v[_] (.inl rfl) (.inl rfl) (λu hu cells Y D kn p=>?_)) rfl) aK)) bK.bi (vp (bU.left (bU.right (bU.here rfl))) (by rw[af,af,aZ,aJ];exact(bW 0x1000000793304013a1340f331e) hq H)) rfl) rfl rfl ?_
    .exact bo (bo bA (bf (bf (bD p) (bD p) (yi (R2 q))) (bD p) (xV (f:=λj=>c (p1 q) j) (R2 u))) ku) (bf (bf (bD p) (bD p) (yi (Sw q))) (bD p) (xV (f:=λj=>c (p2 q) j) (Sw u))) ku
    .rw [e1,<-aU];exact ma rfl
   .have H:=vq c 3;have M:Kg (rg c 3)=qY (W i) (W j):=by rw[<-hc];rfl
    have hmn:=Qk W hj;generalize qY (W i) (W j)=d at *;have hK:(AD (λq=>T.qb [iT (p1 q),iT (p2 q)]) (am 3)).length=3:=rfl;rw[hK];generalize rg c 3=N at *;obtain⟨ai,R⟩:∃a,as[i]?=ab a:=⟨as[i],ay #v[(bW Su6) y hi]⟩;obtain⟨aj,S⟩:∃a,as[j]?=ab a:=⟨as[j],ay #v[(bW Su6) y h]⟩;have O:∀(m:Lx2) (k:Nat),k<5->(mH m)[k]?=ab (EB m k):=λm k hk=>by rw[aI,cM hk];rfl
    refine u9 (t:=.int d) (bU.left (bU.left (bU.left (bU.right (bU.row R (O (Az W i j) i hi)))))) ?_ (bf aF aF (Lj R hi)) aF #v[(bO Su8) h] #v[(jP Su7) h ir] (by simp;exact(bO 0x53074530e) h) rfl ?_
    .rw [<-M];exact ul (x:= "ways") (ts:=N.map T.int) (n:=0) tG.right P rfl rfl (dD I aF bK.bi (BB #v[o.1] #v[(bO 0x31333a1340f) H]))
    rw[show ((EB (Az W i j) i).set ((j:Nat):Int).toNat (T.int d))=(EB (Az W i j) i).set j (T.int d) from rfl,DH];refine u9 (t:=.int d) (bU.left (bU.left (bU.left (bU.right (bU.row S (O (zy (Az W i j) i j d) j h)))))) ?_ (bf aF aF (Lj S h)) aF #v[(bO Su8) hi] #v[(jP Su7) hi ir] (by simp;exact(bO 0x53074530e) hi) rfl ?_
    .rw [<-M];exact ul (x:= "ways") (ts:=N.map T.int) (n:=0) tG.right P rfl rfl (dD I aF bK.bi (BB #v[o.1] #v[(bO 0x31333a1340f) H]))
    rw[show ((EB (zy (Az W i j) i j d) j).set ((i:Nat):Int).toNat (T.int d))=(EB (zy (Az W i j) i j d) j).set i (T.int d) from rfl,DH,<-hmn];exact q8 ((Tk.nil.bI (Tk.y3 w as (mH (Az W i (j+1))))).bI V |>.bI Z) (λa z=>ac _ z) (λ_ _ q=>q.1) (ma rfl)
  .rw [TP];exact ma rfl
 .rw [NA];refine i9 aF λv F' s' h' r=>mB (St.Iw as _ _ F' h' (λa z=>.inl (J a z)) λa z=>J a z) λF2 q1 q2 q3=>hQ v F2 s' q1.d6 <|r.eL λD vs m e r=>.list (q2 _ _ e) <|Mh (λi a ts=>q3 i a ts) (by rw[y];simp) r
def Dp{C:fv B}(k:dg w B)(U:Rm (n+5) A)(V:a.length<=40)(l:b.length<=40)(hor:(Gx a b).2=[]\/a.length<=b.length) :
 cR C w A (.ref 225) [.str (Ss a),.str (Ss b),.int mx] [] [] (.int (nK a b mx)):=by
 refine⟨λF s vs us hP hv hu Q E hQ=>?_⟩;refine hv.e3 λva vb vm r1 r2 r3=>enter (K:=Tk.nil) [("a",.str (Ss a)),("b",.str (Ss b)),("max_cost",.int mx)] [va,vb,vm] [] [] k (C.bs hP) U rfl #v[] (cb rfl) rfl rfl (.cons r1 (.cons r2 (.cons r3 .nil))) trivial kq λL s1 hL hS=>n6 hS xo <|mU (aN aF aF nv) (λh=>?_) (λh=>?_)
 .refine i9 bA λv F' s' h' r=>hQ v F' s' h'.d6 ?_;have h:=lL.mp (of_decide_eq_true h);delta nK;rw[if_pos h];exact r
 have H:=Bg a b;refine cy bA (.inl rfl) rfl <|uc (σ:=Unit) (λn _=>n<=wc a b) (λn _=>ZI a b mx ((wc a b-n:Nat):Int)) (λ_ _=>Tk.nil) (wc a b) () (ah _) ?_ rfl ?_
 .show dz _ _ _=_;rw[nR];rfl
 intro m _ N;have hm':m<=wc a b:=N;generalize D:wc a b-m=p;have Y:p<=a.length:=#v[(xF Sx8) H N D];have I:p<=b.length:=#v[(xF Sx7) H N D];have hn:(a.drop p).length<=40/\(b.drop p).length<=40:=by simp only[gK];exact(xF 0x2829125028291050721d01d148385f28292d28290d) V l D Y I
 refine⟨_,dN (dR (eP (bf aF (iJ (g9 aF) ct ct) (pb Y #v[(bO Su9) V])) (Ai #v[(bW 0x3e839002829102829007c) hn])) λh1=>dR (eP (bf aF (iJ (g9 aF) ct ct) (pb I #v[(bO Su9) l])) (Ai #v[(bW 0x3e839002829002829107c) hn])) λh2=>
  dR (aN (bf aF aF (oA ?_ #v[(bO Su9) V])) (bf aF aF (oA ?_ #v[(bO Su9) l])) xm) λ_=>rS),?_,?_⟩
 .exact rT.mp h1
 .exact rT.mp h2
 .intro l;rw[Db #v[(dO 0x1000215f12d) N D]]at l;have l:=of_decide_eq_true l;refine SF rfl bA P2 (.inl rfl) (ym (m-1) () #v[(dO 0x1305112e2015f10d) N D l] #v[(bW 0x11305010d) N] ?_);rw[show wc a b-(m-1)=p+1 by exact(xF 0x26131505202e382d2105f01d480038007c282938d) V H N D Y l];rfl
 intro l;rw[Db #v[(dO 0x1000215f12d) N D]]at l;have l:=of_decide_eq_false l;have Z:p=wc a b:=#v[(dO 0x1021016c0215f12d) N D l];refine cy (bf aF (iJ (g9 aF) ct ct) (pb Y #v[(bO Su9) V])) (.inl rfl) rfl <|cy (bf aF (iJ (g9 aF) ct ct) (pb I #v[(bO Su9) (by assumption)])) (.inl rfl) rfl <|cy bA (.inl rfl) rfl ?_;have J:=Bg (a.drop p).reverse (b.drop p).reverse;rw[d4,d4]at J;have P:(a.drop p).length<=40:=by rw[gK];exact(xF 0x28291050381f21d148385f238003807c28292d28290d) V (by assumption) H D I Z
 have R:(b.drop p).length<=40:=by rw[gK];exact(xF 0x28291050381f01d148385f038023807c28290d28292d) V (by assumption) H D I Z
 have hor2:((a.drop p).take ((a.drop p).length-wc (a.drop p).reverse (b.drop p).reverse),(b.drop p).take ((b.drop p).length-wc (a.drop p).reverse (b.drop p).reverse))=Gx a b:=by rw[Z];rfl
 have hlen2:(Gx a b).2=[]\/(a.drop p).length<=(b.drop p).length:=hor.imp id λh=>by rw[gK,gK];exact(lM 0x125105020d381f21d238003807c) H I Z h
 generalize hA:a.drop p=G at *;generalize hB':b.drop p=y at *;generalize S:wc G.reverse y.reverse=W at *;refine uc (σ:=Unit) (λn _=>n<=W) (λn _=>YP G y mx p (-((W-n:Nat):Int))) (λ_ _=>Tk.nil) W () (ah _) ?_ rfl ?_
 .show dz _ _ _=_;rw[nR];rfl
 intro m2 _ x;generalize z:W-m2=q;have hm2':m2<=W:=x;refine⟨_,dN (dR (eP (bf aF (iJ ct (nU aF) ct) (A1 (q:=q) #v[(xF Sx8) J x z] #v[(bO Su9) P])) (Ai (by rw[dU];exact(bW 0x3e8390105d028290d) P))) λh1=>dR (eP (bf aF (iJ ct (nU aF) ct) (A1 (q:=q) #v[(xF Sx7) J x z] #v[(bO Su9) R])) (Ai (by rw[dU];exact(bW 0x3e8390105d028290d) R))) λh2=>
  dR (aN (bf aF (bo (c:=.int (-((q+1:Nat):Int))) aF bA ?_) (GI #v[(dO 0x60310215f) z] ?_ #v[(bO Su9) P])) (bf aF (bo (c:=.int (-((q+1:Nat):Int))) aF bA ?_) (GI #v[(dO 0x60310215f) z] ?_ #v[(bO Su9) R])) xm) λ_=>rS),?_,?_⟩
 .rw [show -((q+1:Nat):Int) = -(q:Int)-1 by exact bO 0x13072f50672f5];exact AZ
 .have:=r8.mp h1;exact(bW 0x106010e) this
 .rw [show -((q+1:Nat):Int) = -(q:Int)-1 by exact bO 0x13072f50672f5];exact AZ
 .have:=r8.mp h2;exact(bW 0x106010e) this
 .intro l;rw[Ac #v[(lM 0x10003825f238d21f) S x z]]at l;have l:=of_decide_eq_true l;rw[S]at l;refine SF rfl bA QM (.inl rfl) (ym (m2-1) () #v[(dO 0x1305112e2015f10d) x z l] #v[(bW 0x11305010d) x] ?_);rw[show -((W-(m2-1):Nat):Int) = -(q:Int)-1 from qaz #v[(dO 0x13251572f13072f5510e0215f12d) x z l]];rfl
 intro l;rw[Ac #v[(lM 0x10003825f238d21f) S x z]]at l;have l:=of_decide_eq_false l;rw[S]at l;have hqe:q=W:=#v[(dO 0x1021016c0215f12d) x z l];subst hqe;refine cy (t:=.str (Ss (G.take (G.length-q)))) ?_ (.inl rfl) rfl ?_
 .exact bf aF (iJ ct (nU aF) ct) (A1 (q:=q) #v[(lM 0x10003805f2001007c) J z] #v[(bO Su9) P])
 refine cy (t:=.str (Ss (y.take (y.length-q)))) ?_ (.inl rfl) rfl ?_
 .exact bf aF (iJ ct (nU aF) ct) (A1 (q:=q) #v[(lM 0x10003805f1002007c) J z] #v[(bO Su9) R])
 have g:(G.take (G.length-q)).length<=40:=by rw[dU];exact(bW 0x28290105d028290d) P
 have u:(y.take (y.length-q)).length<=40:=by rw[dU];exact(bW 0x28290105d028290d) R
 have hlen3:y.take (y.length-q)=[]\/(G.take (G.length-q)).length<=(y.take (y.length-q)).length:=by
  rcases hlen2 with h|h
  .rw [<-hor2]at h;exact .inl h
  .right;rw[dU,dU];exact(xF 0x2125d0105d020d14815f2100107c138f) S J z h
 generalize hA2:G.take (G.length-q)=f at *;generalize hB2:y.take (y.length-q)=e at *;have O:nK a b mx=if f=[]\/e=[]then 2*((f.length:Int)+(e.length:Int))else if ((e.length:Int)-(f.length:Int))*2 > mx then mx+1 else HA f e mx e.length 0:=by
  delta nK;rw[if_neg (show a≠b from λq=>of_decide_eq_false h (lL.mpr q)),<-hor2]
 refine mU (dN (lc (rZ (eP aF (Ai #v[(bO Su9) g]))) λ_=>lc (rZ (eP aF (Ai #v[(bO Su9) u]))) λ_=>yp)) (λh=>?_) (λh=>?_)
 .have h:f=[]\/e=[]:=by simpa using h
  refine i9 (bo (fg (v:=.int 2 _) (t:=.int 2) k rfl (λF=>.int _ _) rfl rfl rfl) (bo (dD k aF bK.bi (gG (Cz g)))
   (dD k aF bK.bi (gG (Cz u))) ku) (AT (.of_left #v[_]))) λv F' s' h' r=>hQ v F' s' h'.d6 ?_
  rw[O,if_pos h,<-cX f,<-cX e];exact r
 have hne:¬(f=[]\/e=[]):=by simpa using h
 refine mU (dN (lc (aN (dD k aF bK.bi (gG (Cz g))) (fg (v:=.int 40 _) (t:=.int 40) k rfl (λF=>.int _ _) rfl rfl rfl) C1) λ_=>
  lc (aN (dD k aF bK.bi (gG (Cz u))) (fg (v:=.int 40 _) (t:=.int 40) k rfl (λF=>.int _ _) rfl rfl rfl) C1) λ_=>yp)) (λh=>?_) (λh=>?_)
 .rw [cX,cX]at h;exfalso;simp only[Bool.or_false,ik,decide_eq_true_eq]at h;exact(bW 0x9172829407282948c28291d28290d) g u h
 clear h;refine mU (aN (dD k aF bK.bi (gG (Cz u)))
  (dD k aF bK.bi (gG (Cz g))) MV) (λh=>?_) (λh=>?_)
 .rw [cX,cX]at h;exfalso;have:=of_decide_eq_true h;exact(bW 0x907174c10d) (show f.length<=e.length from hlen3.resolve_left λq=>hne (.inr q)) this
 clear h;refine mU (aN (bo (bo (dD k aF bK.bi (gG (Cz u)))
  (dD k aF bK.bi (gG (Cz g))) AZ) (fg (v:=.int 2 _) (t:=.int 2) k rfl (λF=>.int _ _) rfl rfl rfl) (AT (.of_right #v[_]))) aF C1) (λh=>?_) (λh=>?_)
 .rw [cX,cX]at h;refine i9 (bo aF bA ku) λv F' s' h' r=>hQ v F' s' h'.d6 ?_;rw[O,if_neg hne,if_pos (of_decide_eq_true h)];exact r
 rw[cX,cX]at h;rw[if_neg hne,if_neg (of_decide_eq_false h)]at O;clear h;refine pH (n:=0) (ts:=((sO f e 0).map .int)) ?_ ?_ (.inl rfl) rfl λX hra=>?_
 .rw [show (sO f e 0).map T.int=((am f.length).map λ(i:Nat)=>T.int (2+(i:Int)*2)) from aQ];refine JW (jo k) (kj (aq (i0 (jo k) (kj (aq (fg (v:=.int 2 _) (t:=.int 2) k rfl (λF=>.int _ _) rfl rfl rfl) (aq (bo (fg (v:=.int 2 _) (t:=.int 2) k rfl (λF=>.int _ _) rfl rfl rfl) (bo (dD k aF bK.bi (gG (Cz g))) bA ku) (AT (.of_left #v[_]))) (aq (fg (v:=.int 2 _) (t:=.int 2) k rfl (λF=>.int _ _) rfl rfl rfl) aK)))) bK.ty (IK #v[_] ?_) rfl) aK)) bK.ty (by rw[cX];exact BD U.1 (KU g) (Qx g) (by omega)) rfl;rw[cX];exact Iz g
 .exact all_map (λ_=>rfl) _
 refine cy bA (.inl rfl) rfl <|ii (lvA f e mx X 0) rfl <|Uk (σ:=Unit) (n:=e.length) (τ:=λ(j:Nat)=>.int (0+(j:Int))) (λj _=>nK a b mx=HA f e mx (e.length-j) j) (λj _=>lvA f e mx X (if j=0 then 0 else (So f e (j-1)).2.1)) (λj _=>Tk.nil.bI (Tk.cu w X ((sO f e j).map .int)))
  (iC (dD k (dD k aF bK.bi (gG (Cz u))) bK.ty (uZ #v[(jP 0x702f30e8d4a51000a93c) sy] (by rw[cX];exact(jP Sx6) u sy)))
   (by rw[cX];exact xf U.1)) (.inl rfl) (λ_ _=>⟨rfl,rfl⟩) () O rfl rfl ?_ ?_
 .intro L1 j _ hj el;rw[fM];refine cy (bf aF aF (oA hj #v[(bO Su9) u])) (.inl rfl) rfl <|H7 (bo aF (fg (v:=.int 2 _) (t:=.int 2) k rfl (λF=>.int _ _) rfl rfl rfl) (AT (.of_right #v[_]))) (.inl rfl) (.inl rfl) rfl <|cy bA (.inl rfl) rfl <|ii (lvB f e mx X j (e.getD j 0) (s8 (e.getD j 0) f (sO f e j) ((j:Int)*2) 0)) rfl <|ny (n:=f.length) (τ:=λ(i:Nat)=>.int (0+(i:Int))) (λi=>lvB f e mx X j (e.getD j 0) (s8 (e.getD j 0) f (sO f e j) ((j:Int)*2) i)) (λi=>(Tk.nil.bI (Tk.cu w X ((s8 (e.getD j 0) f (sO f e j) ((j:Int)*2) i).2.2.2.map .int))).bI L1)
   (iC (dD k (dD k aF bK.bi (gG (Cz g))) bK.ty (uZ #v[(jP 0x702f30e8d4a51000a93c) sy] (by rw[cX];exact(jP Sx6) g sy)))
   (by rw[cX];exact xf U.1)) (.inl rfl) (λ_=>⟨rfl,rfl⟩) rfl rfl ?_ ?_
  .intro L2 i hi;rw[fM];have M:(s8 (e.getD j 0) f (sO f e j) ((j:Int)*2) i).2.2.2.length=f.length:=by rw[CJ,Mx]
   have hri:=Nj (M▸hi);have o:s8 (e.getD j 0) f (sO f e j) ((j:Int)*2) (i+1)=(let t:=s8 (e.getD j 0) f (sO f e j) ((j:Int)*2) i;let d:=t.2.2.2.getD i 0;let r:=mn (mn t.2.1 d+2) (t.1+pS (e.getD j 0) (f.getD i 0));(d,r,if r<t.2.2.1 then r else t.2.2.1,t.2.2.2.set i r)):=rfl;generalize s8 (e.getD j 0) f (sO f e j) ((j:Int)*2) i=t at *;generalize s8 (e.getD j 0) f (sO f e j) ((j:Int)*2) (i+1)=t' at *;refine cy (bo aF (kD k (aq aF (aq (bf aF aF (oA hi #v[(bW 0x3e8390001f28290d) g M])) aK)) (Fb (n:=n) k #v[U.deeper.dn rfl])) ku) (.inl rfl) rfl <|cy (bf aF aF (OD (bU.left (bU.left (bU.right (bU.here (L':=Tk.cu w X []) rfl)))) #v[bO 0x7033] #v[(YE Sx5) g hi M ir] hri)) (.inl rfl) rfl <|cy (bo (i0 (jo k) (kj (aq aF (aq aF aK))) bK.bi (Gv #v[U.1]) rfl) (fg (v:=.int 2 _) (t:=.int 2) k rfl (λF=>.int _ _) rfl rfl rfl) ku) (.inl rfl) rfl <|cy (i0 (jo k) (kj (aq aF (aq aF aK))) bK.bi (Gv #v[U.1]) rfl) (.inl rfl) rfl <|u9 (bU.left (bU.left (bU.right (bU.here rfl)))) aF aF aF #v[bO 0x7033] #v[(YE Sx5) g hi M ir] (by rw[af,M];exact(dO 0x1707412f10e) hi M) rfl ?_;rw[Qu];refine mU (aN aF aF MV) (λh=>?_) (λh=>?_)
   .refine cy aF (.inl rfl) rfl ?_;have h:=of_decide_eq_true h;delta mn at o;dsimp only at o;rw[if_pos h]at o;rw[o];exact ma rfl
   .have h:=of_decide_eq_false h;delta mn at o;dsimp only at o;rw[if_neg h]at o;rw[o];exact ma rfl
  .rw [Lm hj]at el;delta So at el;refine mU (aN aF aF C1) (λh=>?_) (λh=>?_)
   .refine i9 (bo aF bA ku) λv F' s' h' r=>hQ v F' s' h'.d6 ?_;rw[el,if_pos (of_decide_eq_true h)];exact r
   .exact yL () (by rw[el,if_neg (of_decide_eq_false h)]) rfl
 .intro _ el;refine i9 aF λv F' s' h' r=>hQ v F' s' h'.d6 ?_;rw[el,nR];exact r
def PE{C:fv B}(c:dg w B)(d:Rm (n+1) A):cR C w A (.ref 175) [.int a,.int b] [] [] (.bool (decide (a<=b))):=by
 refine⟨λF s vs us e f p Q E g=>?_⟩;obtain⟨i,j,rfl,k,l⟩:∃x y,vs=[x,y]/\Rp w F x (.int a)/\Rp w F y (.int b):=by
  refine f.ec λz z h r=>r.ec λz z m r=>r.e0 ?_;exact⟨_,_,rfl,h,m⟩
 refine enter (K:=Tk.nil) [("a",.int a),("b",.int b)] [i,j] [] [] c (C.bs e) d rfl #v[] (cb rfl) rfl rfl (.cons k (.cons l .nil)) trivial kq λL q t o=>fi o (ky aF aF v0) λv F' s' h r=>g v F' s' h.d6 r
end Mine
namespace Mine
open PySem
noncomputable section
noncomputable def sW(p:Nat):Nat:=bif cG p 5 then 0 else p+1
noncomputable def CS{a:Type}(r:a->Nat)(x:a)(l:List a):List a:=l.rec [x] λy l b=>bif cK (r x) (r y)then x::y::l else y::b
def jh{a:Type}(r:a->Nat)(l:List a):List a:=l.rec [] λx z b=>CS r x b
noncomputable def vT(p:Nat):Q1:=if p<5 then [1000+p]else if p=5 then [97,108,108]else if p=6 then [117]else [118]
noncomputable def lj(p:Q1×Q1):Q1:=32::(p.1++(61::34::(p.2++[34])))
inductive mF where
 |wQ (q c:Nat)
 |ql (ds:List Pr) (as:List (Nat×Nat))
 |gt
 |jO (q c:Nat)
structure WS where
 ord:Q1
 aD:List (List Pr)
 pm:Q1
 c6:List mF
 ok:Bool
noncomputable def ju(x:Nat)(l:Q1):Bool:=l.rec false λy z a=>bif cG x y then true else a
noncomputable def uR(x:Nat)(l:Q1):Nat:=l.rec 0 λy z a=>bif cG x y then 0 else a+1
noncomputable def Yl(u:Nat)(l:List Pr):Option Nat:=l.rec aC λy z a=>bif cG y.1 u then ab y.2 else a
noncomputable def TS(y:Pr)(l:List (List Pr)):List (List Pr):=l.rec [] λr l a=>l.rec [r++[y]] λz z z=>r::a
abbrev PK:=Q1×List (List Pr)×Q1
def lK(aD:List (List Pr))(pm us:Q1):PK:=us.rec (motive:=λz=>List (List Pr)->Q1->PK) (λaD pm=>([],aD,pm)) (λu z a aD pm=>
 (Yl u (gP aD aD.length)).rec (let r:=a (TS (u,uR u pm) aD) (bif ju u pm then pm else pm++[u]);(uR u pm::r.1,r.2)) λq=>let r:=a aD pm;(q::r.1,r.2)) aD pm
noncomputable def Pj(l:Q1):Bool:=l.rec true λx l a=>l.rec true λy z z=>fy x y&&a
noncomputable def Fq(t:Nat):Bool:=(cK 48 t&&cK t 57) ||cG t 117 ||cG t 118 || (cK 2000 t&&cK t 2099)
def cZ(S:WS)(u c:Nat)(a:List (Nat×Nat)):WS:=
 let zs:=jh sW (u::a.map (·.1))
 let r:=lK (S.aD++[[]]) S.pm zs
 let b:=jh (·.2) (r.2.1.getD S.aD.length [])
 let d:=λz=>r.1.getD (uR z zs) 0
 ⟨S.ord,r.2.1,r.2.2,S.c6++[.wQ (d u) c,.ql b ((jh (λy=>sW y.1) a).map λy=>(d y.1,y.2)),.gt],
  S.ok&&cK a.length 7&&Pj (zs.map sW)&&zs.all (cK · 7)&&!b.isEmpty&&Pj (b.map (·.2))&&b.all (λy=>cK y.1 7&&cK y.2 9)&&cK S.aD.length 18&&cK S.c6.length 100&&r.1.all (cK · 9)&&a.all (λy=>Fq y.2&&!cG y.1 5)⟩
def i3(S:WS)(u c:Nat):WS:=
 match Yl u (gP S.aD S.aD.length)with
 |some q=>⟨S.ord,S.aD.dropLast,S.pm,S.c6++[.jO q c],S.ok&&cK 2 S.aD.length&&cK S.c6.length 100&&cK q 9⟩
 |none=>{S with ok:=false}
noncomputable def lx(tie:Lx1)(i:Nat):Q1:=[0,1,2,3,4].filter (tie i)
def ut(tie:Lx1)(ord:Q1)(i:Nat):List (Nat×Nat):=((lx tie i).filter (ju · ord)).map λj=>(j,2000+10*j+i)
def oW(tie:Lx1)(f:Nat)(S:WS)(i:Nat):WS:=f.rec (motive:=λz=>WS->Nat->WS) (λS z=>{S with ok:=false}) (λz a S i=>
 i3 ((lx tie i).foldl (λS j=>bif ju j S.ord then S else a S j)
  (cZ {S with ord:=S.ord++[i],ok:=S.ok&&!ju i S.ord&&cK i 4} i 101 (ut tie (S.ord++[i]) i))) i 101) S i
noncomputable def S0:WS:=⟨[],[[(8,10)]],[],[],true⟩
def kG(ord:Q1):List (Nat×Nat):=[(7,118),(6,117),(4,48+uR 4 ord),(3,48+uR 3 ord),(2,48+uR 2 ord),(1,48+uR 1 ord),(0,48+uR 0 ord)]
def mI(tie:Lx1):WS:=[0,1,2,3,4].foldl (λS j=>bif ju j S.ord then S else oW tie 5 S j) (cZ S0 5 114 [])
def UY(tie:Lx1):WS:=
 let a:=mI tie
 i3 (i3 (cZ a 5 122 (kG a.ord)) 5 122) 5 114
noncomputable def t6(x:mF):Q1:=x.rec (λq c=>s9 q [c]) (λds as=>((ds.map λy=>lj (sV y.2,vT y.1))++as.map λy=>lj (jv y.1++[58,116],[y.2])).flatten) [62] λq c=>zA q [c]
noncomputable def pR(tie:Lx1)(o:Q1)(k:Nat):Q1:=(am k).filter λm=>tie (o.getD m 0) (o.getD k 0)
noncomputable def Fs(l:Q1):Option Nat:=l.rec aC λx l a=>l.rec (ab x) λz z z=>a
noncomputable def Z6(x:Nat):Option Nat->Bool
 |none=>false
 |some y=>cG x y
noncomputable def Ez(a:Option Nat)(c6:List mF)(l:Q1):List mF×Q1:=l.rec (motive:=λz=>List mF->List mF×Q1) (λc6=>(c6,[])) (λp r b c6=>bif Z6 p a then (c6,p::r)else b (c6++[.jO (p+1) 101])) c6
def Zu(o a:Q1)(k:Nat):List (Nat×Nat):=([0,1,2,3,4].filter λj=>ju (uR j o) a).map λj=>(uR j o+1,2000+10*j+o.getD k 0)
def wM(tie:Lx1)(o:Q1)(k:Nat):List mF×Q1:=k.rec ([.wQ 0 114,.ql [(5,0)] [],.gt],[]) λk b=>
 let a:=pR tie o k
 let q:=Ez (Fs a) b.1 b.2
 (q.1++[.wQ (k+1) 101,.ql [(o.getD k 0,k+1)] (Zu o a k),.gt],k::q.2)
def mv(tie:Lx1)(o:Q1):List mF:=
 let a:=wM tie o 5
 (a.2.foldl (λc6 p=>c6++[.jO (p+1) 101]) a.1)++[.wQ 0 122,.ql ([0,1,2,3,4].map (λk=>(o.getD k 0,k+1))++[(6,6),(7,7)]) ([0,1,2,3,4].map (λj=>(uR j o+1,48+uR j o))++[(6,117),(7,118)]),.gt,.jO 0 122,.jO 0 114]
def ZX{a:Type}(f:a->a->Bool)(l:List a):List a->Bool:=l.rec (λm=>m.rec true λz z z=>false) λx z b m=>m.rec false λy t z=>f x y&&b t
noncomputable abbrev eqL:List (Nat×Nat)->List (Nat×Nat)->Bool:=ZX λx y=>cG x.1 y.1&&cG x.2 y.2
noncomputable abbrev eqN:Q1->Q1->Bool:=ZX cG
def XT(x y:mF):Bool:=x.rec (λq c=>y.rec (λb e=>cG q b&&cG c e) (λz z=>false) false λz z=>false)
 (λd a=>y.rec (λz z=>false) (λf g=>eqL d f&&eqL a g) false λz z=>false) (y.rec (λz z=>false) (λz z=>false) true λz z=>false)
 λq c=>y.rec (λz z=>false) (λz z=>false) false λb e=>cG q b&&cG c e
abbrev X4:List mF->List mF->Bool:=ZX XT
noncomputable def Ak(k:Nat)(x:mF):Bool:=x.rec (λq c=>cG q (k+1)&&cG c 101) (λz z=>false) false λz z=>false
noncomputable def qX(k:Nat)(x:mF):Bool:=x.rec (λz z=>false) (λz z=>false) false λq c=>cG q (k+1)&&cG c 101
def ZS(k:Nat)(l:List mF):Option (List mF):=l.rec aC λx z a=>bif qX k x then ab []else a.map (x::·)
def uj(k:Nat)(l:List mF):Option (List mF):=l.rec aC λx l a=>bif Ak k x then (ZS k l).map (x::·)else bif qX k x then aC else a
noncomputable def nA(l:List mF):Q1:=l.rec [] λx z a=>x.rec (λz z=>a) (λz as=>as.map (·.1)++a) a λz z=>a
noncomputable def cB(c:Nat):Bool:=cG c 101 ||cG c 114 ||cG c 122
def lq(x:mF):Bool:=x.rec (λq c=>cK q 9&&cB c) (λds as=>cK ds.length 8&&cK as.length 8&&ds.all (λy=>cK y.1 7&&cK y.2 9)&&as.all λy=>cK y.1 9&&Fq y.2) true λq c=>cK q 9&&cB c
def Dw(tie:Lx1)(o:Q1)(k m:Nat):Bool:=Z6 k (Fs (pR tie o m))
def Dg(tie:Lx1)(o:Q1)(a:List mF)(k:Nat):Q1:=(pf (k+1) (4-k)).filter λm=>bif Dw tie o k m then (match uj m a with|some l=>(nA l).all (fy k)|none=>false)else false
def Rt(tie:Lx1)(o:Q1)(a:List mF)(k m:Nat):Bool:=bif Dw tie o k m then (match uj m a with|some l=>!(nA l).isEmpty|none=>false)else true
noncomputable def OB(i j:Nat):Nat:=i*(9-i) / 2+(j-i-1)
def KC(b:List Bool)(i j:Nat):Bool:=bif fy i j&&fy j 5 then b.getD (OB i j) false else bif fy j i&&fy i 5 then b.getD (OB j i) false else false
def Fd(tie:Lx1):Bool:=
 let S:=UY tie
 S.ok&&eqN S.ord (kr tie 5)&&X4 S.c6 (mv tie S.ord)&&S.c6.all lq&&cK S.c6.length 60
def EW(tie:Lx1):Bool:=
 let o:=kr tie 5
 let a:=mv tie o
 [0,1,2,3,4].all λk=>cG ((Dg tie o a k).length+(jd (pR tie o k)).length) (sR tie (o.getD k 0))&&(pf (k+1) (4-k)).all (Rt tie o a k)
noncomputable def qaR(f:Bool->Bool):Bool:=f true&&f false
def O6(n:Nat)(f:List Bool->Bool):Bool:=n.rec (motive:=λz=>(List Bool->Bool)->Bool) (λf=>f []) (λz a f=>qaR λb=>a λl=>f (b::l)) f
end
def n5{a:Type}{x:a}{y:a}:(bif b then x else y)=if b=true then x else y:=by cases b<;>rfl
def nF:cG x y=true↔x=y:=by rw[Nat.beq_eq]
def vy:cK x y=true↔x<=y:=by rw[Nat.ble_eq]
def O1:fy x y=true↔x<y:=by delta fy;rw[vy];exact Nat.succ_le_iff
def nbq(x y:Nat):(x==y)=cG x y:=nq.mpr (beq_iff_eq.trans nF.symm)
def nbr(x y:Nat):(x==y)=cG y x:=nq.mpr (beq_iff_eq.trans (eq_comm.trans nF.symm))
def oN:∀{l:Q1},ju x l=true↔x∈l:=@gx _ _ ⟨bff,λh=>(Og h).elim⟩ λy l a=>by
 show (bif cG x y then true else ju x l)=true↔_;rw[n5,aX];by_cases h:x=y
 .rw [if_pos (nF.mpr h)];exact iff_of_true rfl (.inl h)
 .rw [if_neg (λq=>h (nF.mp q)),a];exact(or_iff_right h).symm
def oq:∀{l:Q1},uR x l=l.idxOf x:=@gx _ _ rfl λy l a=>by
 show (bif cG x y then 0 else uR x l+1)=_;rw[nj,nbr,a]
def M1:∀{l:List Pr},Yl u l=(l.find? (·.1==u)).map (·.2):=@gx _ _ rfl λy l a=>by
 show (bif cG y.1 u then ab y.2 else Yl u l)=_;rw[dQ,nbq,a];cases cG y.1 u with
 |true=>rfl
 |false=>rfl
def Rz:∀{aD:List (List Pr)},TS y aD=aD.set (aD.length-1) (aD.getD (aD.length-1) []++[y]):=
 @gx _ _ rfl λr l=>l.rec (λz=>rfl) λz z z a=>congrArg (List.cons r) a
def Ma:lK aD pm (u::us)=(Yl u (gP aD aD.length)).rec (let r:=lK (TS (u,uR u pm) aD) (bif ju u pm then pm else pm++[u]) us;(uR u pm::r.1,r.2)) λq=>let r:=lK aD pm us;(q::r.1,r.2):=rfl
def Lb:∀us aD pm,(lK aD pm us).2=tS aD pm us us.length/\∀i,i<us.length->(lK aD pm us).1.getD i 0=tI aD pm us i:=iX (λaD pm=>⟨rfl,λi h=>absurd h (ft _)⟩) λu us a aD pm=>by
 have key:∀i,tS aD pm (u::us) (i+1)=tS (jF aD pm u) (sm aD pm u) us i:=by
  intro i
  induction i with
  |zero=>rfl
  |succ i c=>
   rw[R7,c,R7];rfl
 have b:∀i,tI aD pm (u::us) (i+1)=tI (jF aD pm u) (sm aD pm u) us i:=by
  intro i;delta tI;rw[key];rfl
 have d:lK aD pm (u::us)=(let r:=lK (jF aD pm u) (sm aD pm u) us;(Oa aD pm u::r.1,r.2)):=by
  have e:(if ju u pm=true then pm else pm++[u])=if u∈pm then pm else pm++[u]:=SI oN rfl rfl
  delta jF sm Oa;rw[Ma,M1,oq,Rz,n5,e];cases (gP aD aD.length).find? (·.1==u)with
  |some y=>rfl
  |none=>rfl
 refine dS (a (jF aD pm u) (sm aD pm u)) λf g=>?_;rw[d];refine⟨by rw[cq,key];exact f,λi hi=>?_⟩;cases i with
 |zero=>rfl
 |succ i=>rw[b];exact g i (lV hi)
def yd{a:Type}{r:a->Nat}{x:a}:∀{l:List a},(CS r x l).Perm (x::l):=@gx _ _ (.refl _) λy l b=>by
 show (bif cK (r x) (r y)then x::y::l else y::CS r x l).Perm _;cases cK (r x) (r y)with
 |true=>exact .refl _
 |false=>exact(b.cons y).trans (.swap x y l)
def qV{a:Type}{r:a->Nat}:∀{l:List a},(jh r l).Perm l:=@gx _ _ (.refl _) λx l b=>yd.trans (b.cons x)
def II{e:Type}{r:e->Nat}{x:e}:∀{l:List e},l.Pairwise (λa b=>r a<=r b)->(CS r x l).Pairwise (λa b=>r a<=r b):=@gx _ _ (λw=>qi _ _) λy l f h=>by
 show (bif cK (r x) (r y)then x::y::l else y::CS r x l).Pairwise _;cases q:cK (r x) (r y)with
 |true=>
  refine .cons (λb c=>?_) h;have d:=vy.mp q;rcases aX.mp c with rfl|c
  .exact d
  .exact aA d ((gO.mp h).1 b c)
 |false=>
  refine dS (gO.mp h) λd g=>.cons (λb c=>?_) (f g);rcases aX.mp ((yd).mem_iff.mp c)with rfl|c
  .have:¬r b<=r y:=λz=>by rw[vy.mpr z]at q;cases q
   exact(bW 0x1000106c) this
  .exact d b c
def EC{c:Type}{r:c->Nat}:∀{l:List c},(jh r l).Pairwise (λa b=>r a<=r b):=@gx _ _ .nil λx l d=>II d
def GL:∀{l:Q1},Pj l=true->l.Pairwise (· < ·):=@gx _ _ (λz=>.nil) λx l=>l.rec (λz z=>qi _ _) λy r z a h=>by
 have h:fy x y=true/\Pj (y::r)=true:=ba h;have d:=O1.mp h.1;have a:=a h.2;refine .cons (λb c=>?_) a;rcases aX.mp c with rfl|c
 .exact d
 .exact fO d ((gO.mp a).1 b c)
def UW(W:S2)(i:Nat):Q1:=if i<5 then (112+i)::W i else if i=5 then [97,108,108]else if i=6 then [117]else if i=7 then [118]else if i=8 then VC else []
def zB(W:S2):Prop:=∀i,i<5->W i∈j9
def K9(l:Q1):Bool:=cK l.length 50&&(l.contains 38 ||lJ l==l)&&cK (lJ l).length 50&&(lJ l).all λx=>!(x==60 ||x==34 ||x==9 ||x==10 ||x==13 ||x==32)
def Kp:List Q1:=Dd++([[97,108,108],[117],[118]]++[48,49,50,51,52,53,54,55,56,57].map λx=>[x])
theorem um:Kp.all K9=true:=by decide +kernel
theorem sY{l:Q1}(h:l∈Kp):xE l/\32∉lJ l:=by
 have h:=bg.mp um l h;unfold K9 at h;simp only[bc,ik,beq_iff_eq,d8,bg,iu,jU,beq_eq_false_iff_ne,vy]at h;obtain⟨⟨⟨b,c⟩,d⟩,a⟩:=h;exact⟨⟨b,#v[(bO 0x12c390032290d) d],λq=>c.resolve_left q,λq=>(a _ q).1.1.1.1.1 rfl,λq=>(a _ q).1.1.1.1.2 rfl,λq=>(a _ q).1.1.1.2 rfl,λq=>(a _ q).1.1.2 rfl,λq=>(a _ q).1.2 rfl⟩,λq=>(a _ q).2 rfl⟩
theorem mi{l:Q1}(h:l∈j9):l.length=3:=by
 have a:(j9.all λl=>l.length==3)=true:=by decide +kernel
 simpa using bg.mp a l h
noncomputable def Oe(p:Nat):Nat:=if p<5 then 112+p else if p=5 then 97 else if p=6 then 117 else 118
section
variable {W:S2}(hW:zB W)
include hW
theorem A0{i:Nat}(hi:i<5):UW W i∈Dd:=by
 delta UW Dd;rw[if_pos hi,dj];refine⟨112+i,?_,db (hW i hi)⟩;refine G9 hi ?_ ?_ ?_ ?_ ?_<;>decide
theorem vh{p:Nat}(a:p<=7):UW W p∈Kp:=by
 by_cases h:p<5
 .exact ac _ (A0 hW h)
 .refine ag _ (ac _ ?_);have:p=5\/p=6\/p=7:=#v[(bO Sw1) a h];rcases this with rfl|rfl|rfl
  .exact .head _
  .exact .tail _ (.head _)
  .exact .tail _ (.tail _ (.head _))
theorem Hi{p:Nat}(a:p<=7):∃r,UW W p=Oe p::r:=by
 delta UW Oe;by_cases h:p<5
 .rw [if_pos h,if_pos h];exact⟨_,rfl⟩
 .have:p=5\/p=6\/p=7:=by exact(bO Sw1) a h
  rcases this with rfl|rfl|rfl<;>exact⟨_,rfl⟩
omit hW in
theorem UH{x y:Nat}(a:x<=7)(b:y<=7)(h:Oe x=Oe y):x=y:=by
 have key:∀x,x<=7->∀y,y<=7->Oe x=Oe y->x=y:=by decide
 exact key x a y b h
theorem Se:UOk (UW W):=by
 have b:∀i,i<=8->(UW W i).length=if i<5 then 4 else if i=5 then 3 else if i=8 then 36 else 1:=by
  intro i hi;delta UW;by_cases h:i<5
  .rw [if_pos h,if_pos h,cq,mi (hW i h)]
  .have:i=5\/i=6\/i=7\/i=8:=by exact(bO 0x830273028630285302853016c830d) hi h
   rcases this with rfl|rfl|rfl|rfl<;>rfl
 refine⟨λi j hi c e=>?_,λi=>?_⟩
 .have e1:=congrArg mX e;rw[b i hi,b j c]at e1;by_cases f:i=8
  .subst f;by_cases a:j=8
   .exact a.symm
   .exfalso;by_cases d:j<5
    .rw [if_pos d]at e1;exact absurd e1 #v[_]
    .have:j=5\/j=6\/j=7:=by exact(bO Sx4) c a d
     rcases this with rfl|rfl|rfl<;>exact absurd e1 #v[_]
  .by_cases a:j=8
   .exfalso;subst a;by_cases d:i<5
    .rw [if_pos d]at e1;exact absurd e1 #v[_]
    .have:i=5\/i=6\/i=7:=by exact(bO Sx4) hi f d
     rcases this with rfl|rfl|rfl<;>exact absurd e1 #v[_]
   .refine iA (Hi hW (p:=i) #v[(bW Sx3) hi c f a]) λr e2=>iA (Hi hW (p:=j) #v[(bO 0x730083026c830d) c a]) λg e3=>?_;rw[e2,e3]at e;exact UH #v[(bW Sx3) hi c f a] #v[(bO 0x730083026c830d) c a] ((cA e).1)
 .by_cases h:i<=8
  .rw [b i h];split<;>(try split)<;>(try split)<;>decide
  .delta UW;rw[if_neg #v[(bO 0x5301683006c) h],if_neg #v[(bO 0x5302683006c) h],if_neg #v[(bO 0x6302683006c) h],if_neg #v[(bO 0x7302683006c) h],if_neg #v[(bO 0x8302683006c) h]];decide
omit hW in
theorem Xa{x y:Nat}(a:x<=7)(b:y<=7)(h:sW x<sW y):Oe x<Oe y:=by
 have key:∀x,x<=7->∀y,y<=7->sW x<sW y->Oe x<Oe y:=by decide
 exact key x a y b h
theorem L9{x y:Nat}(c:x<=7)(d:y<=7)(h:sW x<sW y)(a b:Q1):(123::(UW W x++a):Q1)<123::(UW W y++b):=by
 refine iA (Hi hW c) λr e2=>iA (Hi hW d) λe e3=>?_;rw[e2,e3,Gi];refine .inr ⟨rfl,?_⟩;rw[eF,eF,Gi];exact .inl (Xa c d h)
theorem Yy{p:Nat}(a:p<=7)(b:p≠5):(UW W p,[116])∈JD:=by
 by_cases h:p<5
 .refine .tail _ (.tail _ (.tail _ (.tail _ (ag _ ?_))));exact bp.mpr ⟨_,A0 hW h,rfl⟩
 .have:p=6\/p=7:=by exact(bO 0x73026302853016c530ac730d) a b h
  rcases this with rfl|rfl
  .exact .tail _ (.tail _ (.head _))
  .exact .tail _ (.tail _ (.tail _ (.head _)))
theorem XD{p:Nat}(h:p<5):(UW W p,[101])∈JD:=by
 refine .tail _ (.tail _ (.tail _ (.tail _ (ac _ ?_))));exact bp.mpr ⟨_,A0 hW h,rfl⟩
theorem Sj{d:Lx2}(lo:∀i j,0<=d i j)(hi:∀i j,d i j<10):UD (UW W) d:=by
 refine⟨λp=>?_,(Se hW).len,lo,hi⟩;by_cases h:p<=7
 .have:=(sY (vh hW h)).1.Uc;have a:=bg.mp um _ (vh hW h);unfold K9 at a;simp only[bc,vy]at a;exact aA a.1.2 #v[_]
 .by_cases b:p=8
  .subst b;show (lJ VC).length<=100;decide +kernel
  .have e:UW W p=[]:=by
    delta UW;rw[if_neg #v[(bO 0x5301673006c) h],if_neg #v[(bO 0x5302673006c) h],if_neg #v[(bO 0x6302673006c) h],if_neg #v[(bO 0x7302673006c) h],if_neg #v[(bO 0x8302683026c) b]]
   rw[e];decide +kernel
end
abbrev Cd(W:S2)(d:Lx2)(y:Nat×Nat):At:=((y.1,[116]),jr (UW W) d [y.2])
abbrev wP(W:S2)(d:Lx2)(l:List mF):List Q1:=l.map λit=>jr (UW W) d (t6 it)
theorem ye(U:S2)(d:Lx2):∀l:List Q1,jr U d l.flatten=(l.map (jr U d)).flatten:=iX rfl λx l a=>by rw[e9,tV,a];rfl
theorem tT{U:S2}{d:Lx2}{n v:Q1}(h:(n.all λn=>decide (n<1000))=true):jr U d (lj (n,v))=lj (n,jr U d v):=by
 have e:∀v:Q1,lj (n,v)=([32]++n++[61,34])++(v++[34]):=λv=>by simp[lj]
 rw[e,e,tV,tV U d v,jD U d (l:=[34]) rfl,jD U d (by rw[fq,fq,h];rfl)]
theorem G8(n r:Q1):wN (n,r)=lj (n,lJ r):=by simp[wN,lj]
theorem Hg{c d:Type} [BEq c] [LawfulBEq c] [BEq d] [LawfulBEq d]{f:c->d}(h:∀a b,f a=f b->a=b){x:c}:∀{l:List c},(l.map f).idxOf (f x)=l.idxOf x:=@gx _ _ rfl λy l g=>by
 rw[bN,nj,nj,g];by_cases q:y=x
 .subst q;simp
 .have i:(y==x)=false:=beq_eq_false_iff_ne.mpr q;have j:(f y==f x)=false:=beq_eq_false_iff_ne.mpr λe=>q (h _ _ e);rw[i,j]
theorem Yu{q r:Nat}(a:q<=9)(b:r<=9)(h:q<r):sV q<sV r:=by
 have key:∀q,q<=9->∀r,r<=9->q<r->sV q<sV r:=by decide
 exact key q a r b h
theorem nb{q:Nat}(a:q<=9):((jv q).all λn=>decide (n<1000))=true:=by
 have key:∀q,q<=9->((jv q).all λn=>decide (n<1000))=true:=by decide
 exact key q a
theorem Pq{x y:Nat}(h:sW x=sW y):x=y:=by
 delta sW at h;rw[n5,n5]at h
 split at h<;>split at h
 .rename_i a b;exact(nF.mp a).trans (nF.mp b).symm
 .cases h
 .cases h
 .exact(bW 0x1021606f) h
section
variable {W:S2}{d:Lx2}(hW:zB W)(hd:UD (UW W) d)
include hd in
theorem xq{t:Nat}(h:Fq t=true):jr (UW W) d [t]∈Kp/\38∉jr (UW W) d [t]:=by
 delta Fq at h;simp only[ik,bc,vy,nF]at h;have a:∀k,k<10->[48+k]∈Kp/\38∉[48+k]:=λk b=>by
  refine⟨ag _ (ag _ ?_),by simp;exact(bO 0x30294262926a30e) b⟩;refine XO b ?_ ?_ ?_ ?_ ?_ ?_ ?_ ?_ ?_ ?_<;>decide
 have pl:∀t,t<1000->jr (UW W) d [t]=[t]:=λt c=>jD _ _ (by simp[c]);rcases h with ((h|rfl)|rfl)|h
 .rw [pl t #v[(bO 0x3e839013929000302907c) h]];have:=a (t-48) #v[(bO Sx2) h];rwa[show 48+(t-48)=t by exact(bO Sx1) h]at this
 .rw [pl _ #v[_]];exact⟨ag _ (ac _ (.tail _ (.head _))),by decide⟩
 .rw [pl _ #v[_]];exact⟨ag _ (ac _ (.tail _ (.tail _ (.head _)))),by decide⟩
 .have e:jr (UW W) d [t]=[48+(d ((t-2000) / 10) ((t-2000) % 10)).toNat]:=by
   delta jr Su;rw[e8,if_neg #v[(bO 0x3e839016833390007d03907c) h],if_neg #v[(bO 0x7d039016833390007d03907c) h]];rfl
  rw[e];refine a _ <| (sj Sw8) (hd.lo ((t-2000) / 10) ((t-2000) % 10)) (hd.hi ((t-2000) / 10) ((t-2000) % 10))
include hd in
theorem Ha{t:Nat}(h:Fq t=true):lJ (jr (UW W) d [t])=jr (UW W) d [t]:=dS (xq hd h) λa b=>(sY a).1.amp b
include hW in
theorem Ku{p:Nat}(a:p<=7):lJ (UW W p)=jr (UW W) d (vT p):=by
 delta vT;by_cases h:p<5
 .rw [if_pos h];delta jr Su;rw[e8,if_neg #v[(bO 0x3e83903e839416530e730d) a h],if_pos #v[(bO 0x7d03903e83941530e730d) a h],show 1000+p-1000=p by exact(bO 0x3e83903e839452530e730d) a h];simp
 .have b:=(sY (vh hW a)).1.amp;have:p=5\/p=6\/p=7:=#v[(bO Sw1) a h];rcases this with rfl|rfl|rfl
  .rw [b (by show 38∉[97,108,108];decide)];exact(jD _ _ rfl).symm
  .rw [b (by show 38∉[117];decide)];exact(jD _ _ rfl).symm
  .rw [b (by show 38∉[118];decide)];exact(jD _ _ rfl).symm
end
structure Z1(S:WS)(u c:Nat)(at':List (Nat×Nat))(zs:Q1)(qs:Q1)(rows':List (List Pr))(pm':Q1)(nz:List Pr)(az:List (Nat×Nat)):Prop where
 zp:zs.Perm (u::at'.map (·.1))
 zl:zs.Pairwise λx y=>sW x<sW y
 z7:∀z∈zs,z<=7
 st:tS (S.aD++[[]]) S.pm zs zs.length=(rows',pm')
 qa:∀i,i<zs.length->tI (S.aD++[[]]) S.pm zs i=qs.getD i 0
 q9:∀i,qs.getD i 0<=9
 np:nz.Perm (rows'.getD S.aD.length [])
 n0:nz≠[]
 nl:nz.Pairwise λx y=>x.2<y.2
 n7:∀y∈nz,y.1<=7/\y.2<=9
 ap:az.Perm at'
 al:az.Pairwise λx y=>sW x.1<sW y.1
 a7:at'.length<=7
 ry:∀y∈at',Fq y.2=true/\y.1≠5
 r18:S.aD.length<=18
 VH:S.c6.length<=100
 c6:cZ S u c at'=⟨S.ord,rows',pm',S.c6++[.wQ (qs.getD (zs.idxOf u) 0) c,.ql nz (az.map λy=>(qs.getD (zs.idxOf y.1) 0,y.2)),.gt],true⟩
theorem Xn{S:WS}{u c:Nat}{d:List (Nat×Nat)}(ok:(cZ S u c d).ok=true):S.ok=true/\∃zs I f o J L,Z1 S u c d zs I f o J L:=by
 have p:=ok;have s:=ba ok;have t:=ba s.1;have g:=ba t.1;have v:=ba g.1;have w:=ba v.1;have A:=ba w.1;have B:=ba A.1;have C:=ba B.1;have D:=ba C.1;have E:=ba D.1;refine⟨E.1,?_⟩;refine dS (Lb (jh sW (u::d.map (·.1))) (S.aD++[[]]) S.pm) λe1 e2=>?_;have j:(jh sW (u::d.map (·.1))).Perm (u::d.map (·.1)):=qV;have k:(jh sW (u::d.map (·.1))).Pairwise λx y=>sW x<sW y:=by have:=GL D.2;rwa[cJ]at this
 have F:(u::d.map (·.1)).Nodup:=j.nodup_iff.mp (k.imp fun {a b} h e=>by rw[e]at h;exact cp _ h);have m:(jh (λy:Nat×Nat=>sW y.1) d).Perm d:=qV;refine⟨jh sW (u::d.map (·.1)),(lK (S.aD++[[]]) S.pm (jh sW (u::d.map (·.1)))).1,(lK (S.aD++[[]]) S.pm (jh sW (u::d.map (·.1)))).2.1,(lK (S.aD++[[]]) S.pm (jh sW (u::d.map (·.1)))).2.2,
  jh (·.2) ((lK (S.aD++[[]]) S.pm (jh sW (u::d.map (·.1)))).2.1.getD S.aD.length []),jh (λy=>sW y.1) d,?_⟩
 constructor
 .exact j
 .exact k
 .exact λz M=>bE (bg.mp C.2 z M)
 .exact e1.symm
 .exact λi hi=>(e2 i hi).symm
 .intro i;rw[ar];cases q:(lK (S.aD++[[]]) S.pm (jh sW (u::d.map (·.1)))).1[i]? with
  |none=>exact bG _
  |some x=>exact bE (bg.mp t.2 x (bX q))
 .exact qV
 .exact List.isEmpty_eq_false_iff.mp (bn B.2)
 .have:=GL A.2;rwa[cJ]at this
 .exact λy n=>(ba (bg.mp w.2 y n)).imp bE bE
 .exact m
 .have N:=EC (r:=λy:Nat×Nat=>sW y.1) (l:=d);have G:((jh (λy:Nat×Nat=>sW y.1) d).map (·.1)).Nodup:=(m.map _).nodup_iff.mpr (du.mp F).2;rw[uW,cJ]at G;exact N.imp₂ (λa b h h'=>NZ h λe=>h' (Pq e)) G
 .exact bE E.2
 .intro y n;refine dS (ba (bg.mp s.2 y n)) λa b=>⟨a,λq=>by rw[q]at b;cases b⟩
 .exact bE v.2
 .exact bE g.2
 .have H:(cZ S u c d)=⟨(cZ S u c d).ord,(cZ S u c d).aD,(cZ S u c d).pm,(cZ S u c d).c6,true⟩:=by rw[<-p]
  rw[H];delta cZ;simp only[oq]
section
variable {W:S2}{d:Lx2}(hW:zB W)(hd:UD (UW W) d)
include hW hd
theorem U6{S:WS}{u c:Nat}{f:List (Nat×Nat)}{zs G:Q1}{r:List (List Pr)}{w:Q1}{A:List Pr}{B:List (Nat×Nat)}(h:Z1 S u c f zs G r w A B)(k:(UW W u,[c])∈JD) :
 SOk (UW W) (S.aD++[[]]) S.pm (u,[c]) (f.map (Cd W d)) (zs.map λz=>if z=u then (u,[c])else (z,[116])) A (B.map (Cd W d)):=by
 have C:(u::f.map (·.1)).Nodup:=h.zp.nodup_iff.mp (h.zl.imp fun {a b} h e=>by rw[e]at h;exact cp _ h);have j:∀z,(if z=u then (u,[c])else (z,[116]):Nat×Q1).1=z:=λz=>by split;rename_i e;exact e.symm;rfl
 have t:(zs.map λz=>if z=u then (u,[c])else (z,[116])).map (·.1)=zs:=by rw[aQ];exact(bL λz _=>j z).trans (sG zs)
 have D:(f.map (Cd W d)).map (·.1)=(f.map (·.1)).map λz=>if z=u then (u,[c])else (z,[116]):=by
  rw[aQ,aQ];refine bL λy g=>?_;have:y.1≠u:=λq=>(du.mp C).1 (q▸db g);show (y.1,[116])=if y.1=u then (u,[c])else (y.1,[116])
  rw[if_neg this]
 have n:(zs.map λz=>if z=u then (u,[c])else (z,[116])).Perm ((u,[c])::(f.map (Cd W d)).map (·.1)):=by
  rw[D];have:=h.zp.map λz=>if z=u then (u,[c])else (z,[116])
  rwa[bN,if_pos rfl]at this
 have E:(zs.map λz=>if z=u then (u,[c])else (z,[116])).Pairwise λx y=>pv (UW W x.1) x.2<pv (UW W y.1) y.2:=by
  rw[cJ];refine h.zl.imp_of_mem fun {a b} l m i=>?_
  rw[j,j];exact L9 hW (h.z7 a l) (h.z7 b m) i _ _
 have o:∀y∈f,y.1<=7:=λy g=>h.z7 _ (h.zp.mem_iff.mpr (.tail _ (db g)));refine⟨?_,by rw[af];exact h.a7,n,?_,λz v=>?_,λz v=>?_,?_,?_,?_,λy g=>(sY (vh hW (h.n7 y g).1)).1,h.ap.map _,?_,λy g=>?_⟩
 .have e:(i7 (jJ (UW W) (u,[c]))::(iy (UW W) (f.map (Cd W d))).map (·.1))=((u,[c])::(f.map (Cd W d)).map (·.1)).map λz=>i7 (jJ (UW W) z):=by simp
  rw[e];refine(n.map _).nodup_iff.mp ?_;rw[uW,cJ];refine E.imp fun {a b} i e=>?_
  have e2:pv (UW W a.1) a.2=pv (UW W b.1) b.2:=by
   simpa using (congrArg (λs:bT=>s.cps.toList) e)
  rw[e2]at i;exact iV _ i
 .rw [cJ,cJ];refine h.zl.imp_of_mem fun {a b} l m i=>?_
  show (123::UW W _:Q1)<123::UW W _;rw[j,j];have:=L9 hW (h.z7 a l) (h.z7 b m) i [] [];rwa[cg,cg]at this
 .refine cY (bp.mp v) λx p k=>?_;subst k
  split
  .exact k
  .rename_i F
   refine cY (bp.mp ((aX.mp (h.zp.mem_iff.mp p)).resolve_left F)) λy g k=>?_;subst k;exact Yy hW (o y g) (h.ry y g).2
 .refine cY (bp.mp v) λx p k=>?_;subst k;rw[j];exact h.z7 x p
 .rw [t,af,h.st];intro q;rw[aw,bx,jm]at q;have:=h.np;rw[q]at this;exact h.n0 this.eq_nil
 .rw [t,af,h.st,aw,bx,jm];exact h.np
 .exact h.nl.imp_of_mem fun {a b} l m i=>Yu (h.n7 a l).2 (h.n7 b m).2 i
 .rw [cJ];refine h.al.imp_of_mem fun {a b} l m i=>L9 hW (o a (h.ap.mem_iff.mp l)) (o b (h.ap.mem_iff.mp m)) i _ _
 .refine cY (bp.mp g) λx p k=>?_;subst k;exact(sY (xq hd (h.ry x p).1).1).1
theorem PQ{S:WS}{u c:Nat}{f:List (Nat×Nat)}{zs p:Q1}{k:List (List Pr)}{s:Q1}{m:List Pr}{n:List (Nat×Nat)}(h:Z1 S u c f zs p k s m n)(A:c<1000) :
 Sq (S.aD++[[]]) S.pm (zs.map λz=>if z=u then (u,[c])else (z,[116]))=(cZ S u c f).aD/\sPm (S.aD++[[]]) S.pm (zs.map λz=>if z=u then (u,[c])else (z,[116]))=(cZ S u c f).pm/\
 Xk (UW W) (S.aD++[[]]) S.pm (u,[c]) (zs.map λz=>if z=u then (u,[c])else (z,[116])) m (n.map (Cd W d)) (wP W d S.c6)=wP W d (cZ S u c f).c6:=by
 have t:(u::f.map (·.1)).Nodup:=h.zp.nodup_iff.mp (h.zl.imp fun {a b} h e=>by rw[e]at h;exact cp _ h);have o:∀z,(if z=u then (u,[c])else (z,[116]):Nat×Q1).1=z:=λz=>by split;rename_i e;exact e.symm;rfl
 have g:(zs.map λz=>if z=u then (u,[c])else (z,[116])).map (·.1)=zs:=by rw[aQ];exact(bL λz _=>o z).trans (sG zs)
 have i:∀a b,(if a=u then (u,[c])else (a,[116]):Nat×Q1)=(if b=u then (u,[c])else (b,[116]))->a=b:=λa b e=>by have:=congrArg (·.1) e;simpa only[o] using this
 rw[h.c6];refine⟨?_,?_,?_⟩
 .show (tS _ _ _ _).1=_;rw[g,af,h.st]
 .show (tS _ _ _ _).2=_;rw[g,af,h.st]
 .have v:(zs.map λz=>if z=u then (u,[c])else (z,[116]):List (Nat×Q1)).idxOf (u,[c])=zs.idxOf u:=by
   have:=Hg (l:=zs) (x:=u) i;rwa[if_pos rfl]at this
  show ((wP W d S.c6++[s9 (tI _ _ _ _) [c]])++[rK _])++[[62]]=_;rw[g,v,h.qa _ (bS (h.zp.mem_iff.mpr (.head _)))];have e1:∀q,q<=9->jr (UW W) d (s9 q [c])=s9 q [c]:=λq B=>jD _ _ (by
   delta s9;rw[mO,fq,nb B];simp[A])
  have e2:rK (sr (UW W) m++xi (S.aD++[[]]) S.pm zs (zs.map λz=>if z=u then (u,[c])else (z,[116])) (n.map (Cd W d)))=jr (UW W) d (t6 (.ql m (n.map λy=>(p.getD (zs.idxOf y.1) 0,y.2)))):=by
   delta rK t6;rw[ye,aU,aU,aQ,aQ,aQ,aQ,aQ];congr 2
   .refine bL λy r=>dS (h.n7 y r) λC D=>?_;show wN (sV y.2,UW W y.1)=jr _ _ (lj (sV y.2,vT y.1));rw[G8,tT (by rw[fq,nb D];rfl),Ku hW C]
   .rw [aQ];refine bL λy r=>?_;have j:=h.ap.mem_iff.mp r;have w:(zs.map λz=>if z=u then (u,[c])else (z,[116]):List (Nat×Q1)).idxOf (y.1,[116])=zs.idxOf y.1:=by
     have:=Hg (l:=zs) (x:=y.1) i;rwa[if_neg (show y.1≠u from λq=>(du.mp t).1 (q▸db j))]at this
    show wN (jv (tI _ _ _ ((zs.map λz=>if z=u then (u,[c])else (z,[116]):List (Nat×Q1)).idxOf (y.1,[116])))++58::[116],jr (UW W) d [y.2])=jr _ _ (lj (jv (p.getD (zs.idxOf y.1) 0)++[58,116],[y.2]));rw[w,h.qa _ (bS (h.zp.mem_iff.mpr (.tail _ (db j)))),G8,Ha hd (h.ry y j).1,tT (by rw[fq,nb (h.q9 _)];rfl)]
  rw[e2,<-e1 _ (h.q9 _)];delta wP;simp[t6];exact(jD _ _ rfl).symm
end
section
open PySem.W PySem.Spec PySem.Calls PyProof.Rows PySem.Builtin PySem.Builtin.ObjectAttr
def Bb(h:Z1 S u c a zs f d e g i)(ok:y7 S.aD S.pm):y7 (cZ S u c a).aD (cZ S u c a).pm/\(cZ S u c a).aD.length=S.aD.length+1:=by
 have b:=Fh (ok.push (by have:=h.r18;exact(bO 0x142906012290d) this)) h.z7 zs.length (ah _);rw[h.st,aw,bx]at b;rw[h.c6];exact b
def SB(ok:(i3 S u c).ok=true):S.ok=true/\2<=S.aD.length/\S.c6.length<=100/\∃y,(gP S.aD S.aD.length).find? (·.1==u)=ab y/\y.2<=9/\i3 S u c=⟨S.ord,S.aD.dropLast,S.pm,S.c6++[.jO y.2 c],true⟩:=by
 delta i3 at ok ⊢;rw[M1]at ok ⊢;cases q:(gP S.aD S.aD.length).find? (·.1==u)with
 |none=>rw[q]at ok;cases ok
 |some y=>
  rw[q]at ok;have Oc:=ok;simp only[xz,bc,vy]at ok;obtain⟨⟨⟨a,b⟩,d⟩,e⟩:=ok;refine⟨a,b,d,y,rfl,e,?_⟩;simp only[xz]at Oc ⊢;rw[Oc]
abbrev Tk.ws(W:S2)(d:Lx2)(w:bC)(Wa:Mine.Wa)(rs rd:Bool)(as:List bu)(S:WS)(tb:Option bu):Tk:=Tk.wr (UW W) w Wa rs rd as S.pm S.aD S.aD.length S.aD.length (wP W d S.c6) tb
def rq{Wa:Wa}(o:dg w B)(p:Rm (n+9) A)(f:zB W)(hd:UD (UW W) d)(g:Wa.pm≠1)(ok:(cZ S u c e).ok=true)(wk:y7 S.aD S.pm)(i:(UW W u,[c])∈JD)(q:c<1000) :
 d5 B w (Tk.ws W d w Wa rs rd as S tb) A (.ref 120) [bP 150 Wa.dx,.str (i7 (jJ (UW W) (u,[c]))),.dict (iy (UW W) (e.map (Cd W d)))] [] [] (λK' t=>t=.none/\∃na j,K'=Tk.ws W d w Wa true rd (as++[na]) (cZ S u c e) (ab j)):=by
 refine dS (Xn ok) λz k=>?_;refine j60 k λzs v m s x y h=>?_;refine ka (PQ f hd h q) λe1 e2 e3=>dS (Bb h wk) λz e4=>?_;have b:=h.r18;have a:=wk.ne;refine(EE o p (Se f) g (wk.push #v[(bO 0x1429060003e12290d) b a]) (U6 f hd h i) #v[(bO 0x130003e12290d) b a] #v[(bO 0x3e83900003e12290d) b a] #v[(bO 0x3e83900003e12290d) b a] (by rw[af];exact(bO 0x3e8390064290d) h.VH)).cC λK' t r=>dS r λi k=>?_;refine GU k λna j l=>?_;subst i;subst l;refine⟨rfl,na,j,?_⟩;rw[e1,e2,e3,<-e4]
def u6{Wa:Wa}(z:dg w B)(C:Rm (n+6) A)(D:zB W)(j:Wa.pm≠1)(ok:(i3 S u c).ok=true)(wk:y7 S.aD S.pm)(E:u<=8)(o:(UW W u,[c])∈JD)(F:c<1000) :
 d5 B w (Tk.ws W d w Wa rs rd (as++[na]) S tb) A (.ref 133) [bP 150 Wa.dx,.str (i7 (jJ (UW W) (u,[c])))] [] [] (λK' t=>t=.none/\∃f,K'=Tk.ws W d w Wa rs f as (i3 S u c) tb):=by
 refine sE (SB ok) λM h G p=>?_;refine mB p λy H I J=>?_;have i:=wk.lr;obtain⟨b,r,e⟩:∃l a,S.aD=l++[a]:=by
  have v:S.aD≠[]:=λq=>by rw[q]at h;cases h
  exact⟨_,_,(nk v).symm⟩
 have s:S.aD.length=b.length+1:=by rw[e,aw];rfl
 have g:=M6 (rs:=rs) (rd:=rd) (as:=as) (na:=na) (tb:=tb) (W:=Wa) (k:=b.length) (m:=b.length) (pcs:=wP W d S.c6) (n:=n) (aD:=b) (r:=r) (pm:=S.pm) (tg:=(u,[c])) (y:=y) z C (Se D) j (e▸wk) E o (e▸H) #v[(bW Sx0) h i s] #v[(bW Sx0) h i s] (by rw[af];exact(bO 0x3e8390064290d) G);rw[<-e,<-s]at g;refine g.cC λK' t L=>dS L λo p=>?_;refine iA p λf x=>?_;subst o;subst x;refine⟨rfl,f,?_⟩;rw[J];have e1:jr (UW W) d (zA y.2 [c])=zA y.2 [c]:=jD _ _ (by
  delta zA;rw[fq,fq,fq,nb I];simp[F])
 have e2:wP W d (S.c6++[.jO y.2 c])=wP W d S.c6++[zA y.2 [c]]:=by delta wP;rw[aU];show _++[jr _ _ (zA y.2 [c])]=_;rw[e1]
 have e3:S.aD.dropLast=b:=by rw[e,List.dropLast_concat]
 show _=Tk.wr (UW W) w Wa rs f as S.pm S.aD.dropLast S.aD.dropLast.length S.aD.dropLast.length (wP W d (S.c6++[.jO y.2 c])) tb;rw[e2,e3]
end
end Mine
namespace Mine
open PySem PySem.W PySem.Spec PySem.Calls PyProof.Rows
noncomputable def my(ord:Q1):List y5:=ord.zipIdx.map λy=>([80+y.1],[48+y.2])
def wo(h:p<5):gm [80+p]=[112+p]:=by
 refine G9 h ?_ ?_ ?_ ?_ ?_<;>kernel_rfl
def Av(h:p<5):gm [112+p]=[112+p]:=by
 refine G9 h ?_ ?_ ?_ ?_ ?_<;>kernel_rfl
def IF(h:p<5):RM (Ss [112+p])=Ss [80+p]:=by
 refine G9 h ?_ ?_ ?_ ?_ ?_<;>kernel_rfl
def sP(h:p<5):[112+p]∈eQ:=by
 refine G9 h ?_ ?_ ?_ ?_ ?_<;>decide
def vG(h:p<5):[80+p]∈eQ:=by
 refine G9 h ?_ ?_ ?_ ?_ ?_<;>decide
def M3(h:k<10):[48+k]∈eQ:=by
 refine ac _ (ag _ ?_);exact bp.mpr ⟨k,c5.mpr h,rfl⟩
def xt{a:Type}:∀{l:List a} {n:Nat} {y:a×Nat},y∈l.zipIdx n->y.1∈l/\n<=y.2/\y.2<n+l.length:=@gx _ _ (fun {z}{z} h=>nomatch h) λx l b {n}{y} h=>by
 rw[xy]at h;rcases aX.mp h with rfl|h
 .exact⟨.head _,ah _,by rw[cq];exact bW 0x160401⟩
 .refine ka (b h) λc d e=>⟨.tail _ c,#v[(bW Su3) d],by rw[cq];exact(dO 0x26140121640e) e⟩
def uh(c:∀x∈ord,x<5)(a:ord.length<=5):jC (my ord):=by
 refine⟨λh b=>?_,by unfold my;rw[af,JR];exact(bO Sw3) a⟩;refine cY (bp.mp b) λy d e=>?_;subst e;refine ka (xt d) λf i g=>⟨vG (c _ f),M3 #v[(bW 0xa30110340e531d) a g]⟩
def Oz{ord:Q1}(c:∀x∈ord,x<5)(j:p<5):∀n,((ord.zipIdx n).map λy=>(([80+y.1],[48+y.2]):y5)).find? (λd=>gm d.1==[112+p])=if p∈ord then ab ([80+p],[48+(n+ord.idxOf p)])else aC:=by
 induction ord with
 |nil=>intro n;rfl
 |cons x l b=>
  intro n;rw[xy,bN,dQ,wo (c x (.head _))];have b:=b (λy f=>c y (.tail _ f)) (n+1);by_cases q:x=p
  .subst q;simp
  .have g:(([112+x]:Q1)==[112+p])=false:=beq_eq_false_iff_ne.mpr λe=>q (by have:=(cA e).1;exact(bW Sw0) this);have i:(x==p)=false:=beq_eq_false_iff_ne.mpr q;simp only[g];rw[b,nj,i];by_cases a:p∈l
   .rw (config:={}) [if_pos a,if_pos (.tail _ a)];simp;exact bW 0x160410642
   .rw [if_neg a,if_neg λh=>(aX.mp h).elim (λe=>q e.symm) a]
def LN(a:∀x∈ord,x<5)(b:p<5)(c:gm nm=[112+p]):nL (my ord) nm=if p∈ord then .str (Ss [48+ord.idxOf p])else .none:=by
 unfold nL my;rw[c,Oz a b 0];by_cases q:p∈ord
 .rw [if_pos q,if_pos q,fe]
 .rw [if_neg q,if_neg q]
def Kl(a:∀x∈ord,x<5)(b:p<5)(c:gm nm=[112+p]):(!(nL (my ord) nm).isNone)=ju p ord:=by
 rw[LN a b c];by_cases q:p∈ord
 .rw [if_pos q,oN.mpr q];rfl
 .rw [if_neg q];cases e:ju p ord with
  |true=>exact absurd (oN.mp e) q
  |false=>rfl
def Si(d:∀x∈ord,x<5)(i:p<5)(a:p∉ord)(f:gm nm=[112+p]):se (my ord) nm=my ord:=by
 refine Jv.mpr λj b=>cY (bp.mp b) λy g h=>?_;subst h;refine ka (xt g) λc z z=>?_;rw[f,wo (d _ c)];have:(([112+y.1]:Q1)==[112+p])=false:=beq_eq_false_iff_ne.mpr λe=>a (by have:=(cA e).1;have:y.1=p:=#v[(bW Sw0) this];exact this▸c);rw[this];rfl
def OX(ord)(p):my ord++[([80+p],[48+ord.length])]=my (ord++[p]):=by
 unfold my;rw[JO,aU,fe];rfl
def BF(ord):(my ord).length=ord.length:=by unfold my;rw[af,JR]
def IJ:∀{n:Nat},(∀i j,i<n->j<n->p i=true->p j=true->κ i=κ j->i=j)->oT κ τ p n=((am n).filter p).map λi=>(κ i,τ i):=@Aw _ (λx=>rfl) λn c h=>by
 have d:=c λi j hi k=>h i j (c4 hi) (c4 k);rw[q7,dv,dP,aU];cases q:p n with
 |false=>simp[q,d]
 |true=>
  rw[if_pos rfl,d];have m:∀l:M2,κ n∉l.map (·.1)->dz (κ n) (τ n) l=l++[(κ n,τ n)]:=by
   intro l
   induction l with
   |nil=>intro x;rfl
   |cons z l f=>
    intro b;obtain⟨y,t⟩:=z;rw[bN,aX,not_or]at b;rw[z1];rw[if_neg λe=>b.1 e.symm,f b.2];rfl
  rw (config:={}) [m _ ?_]
  .simp [q]
  .intro g;rw[aQ]at g;refine cY (bp.mp g) λi hi e=>dS (c3.mp hi) λo r=>?_;have a:=c5.mp o;exact absurd (h i n (c4 a) (bH _) r q e) (cw a)
section
open PySem.Builtin PySem.Builtin.ObjectAttr
def mJ(tie:Lx1)(f:Nat)(S:WS)(j:Nat):WS:=bif ju j S.ord then S else oW tie f S j
def sh(tie:Lx1)(S:WS)(i:Nat):WS:=cZ {S with ord:=S.ord++[i],ok:=S.ok&&!ju i S.ord&&cK i 4} i 101 (ut tie (S.ord++[i]) i)
def A4(tie)(f)(S)(i):oW tie (f+1) S i=i3 ((lx tie i).foldl (mJ tie f) (sh tie S i)) i 101:=rfl
def uD(a:∀S j,(g S j).ok=true->S.ok=true):∀{l:Q1} {S:WS},(l.foldl g S).ok=true->S.ok=true:=@gx _ _ (fun {z} h=>h) λz z b {z} h=>a _ _ (b h)
def PG(tie):∀f S i,(oW tie f S i).ok=true->S.ok=true:=ig (λS i h=>by cases h) λf b S i h=>by
 rw[A4]at h;have c:=uD (λS j h=>by
  delta mJ at h;cases q:ju j S.ord with
  |true=>rw[q]at h;exact h
  |false=>rw[q]at h;exact b S j h) ((SB h).1)
 refine dS (Xn c) λa z=>?_;simp only[bc]at a;exact a.1.1
def tc(tie)(f)(S)(j)(h:(mJ tie f S j).ok=true):S.ok=true:=by
 delta mJ at h;cases q:ju j S.ord with
 |true=>rw[q]at h;exact h
 |false=>rw[q]at h;exact PG tie f S j h
structure mh(S:WS):Prop where
 wk:y7 S.aD S.pm
 o5:∀x∈S.ord,x<5
 nd:S.ord.Nodup
 ot:2<=S.c6.length
def mh.len(h:mh S):S.ord.length<=5:=xW 5 S.ord h.nd h.o5
def Aj(h:(sh tie S i).ok=true)(j:mh S):S.ok=true/\i∉S.ord/\i<5/\mh (sh tie S i)/\(sh tie S i).ord=S.ord++[i]/\(sh tie S i).aD.length=S.aD.length+1/\(sh tie S i).c6.length=S.c6.length+3/\S.c6.length<=100:=by
 refine dS (Xn h) λl p=>?_;refine j60 p λzs y o w z A d=>?_;simp only[bc,iu,vy]at l;obtain⟨⟨r,m⟩,n⟩:=l;have f:i∉S.ord:=λq=>by rw[oN.mpr q]at m;cases m
 refine dS (Bb d j.wk) λs t=>?_;have k:(sh tie S i).ord=S.ord++[i]:=by delta sh;rw[d.c6]
 have g:(sh tie S i).c6.length=S.c6.length+3:=by delta sh;rw[d.c6,aw];rfl
 refine⟨r,f,#v[(bO 0x5301430d) n],⟨s,?_,?_,#v[(bW 0x23033140f) g]⟩,k,t,g,d.VH⟩
 .rw [k];intro x c;rcases ao.mp c with c|c
  .exact j.o5 x c
  .have:x=i:=by simpa using c
   exact(bW 0x530110f431d) n this
 .rw [k];exact fb.mpr ⟨j.nd,by simp,λa u b v=>by have:b=i:=(by simpa using v);rw[this];exact λe=>f (e▸u)⟩
def ux(h:(i3 S u c).ok=true)(a:mh S):mh (i3 S u c)/\(i3 S u c).ord=S.ord/\(i3 S u c).aD.length=S.aD.length-1/\(i3 S u c).c6.length=S.c6.length+1/\S.c6.length<=100:=by
 refine sE (SB h) λz d b e=>?_;refine mB e λy z z f=>?_;rw[f];exact⟨⟨a.wk.pop #v[(bO 0x131023d) d],a.o5,a.nd,by have:=a.ot;rw[aw];exact(bW 0x104230023d64290d) b this⟩,rfl,sJ,by rw[aw];rfl,b⟩
def r9(a:∀S j,(g S j).ok=true->S.ok=true)(b:∀S j,(g S j).ok=true->mh S->mh (g S j)/\(g S j).aD.length=S.aD.length):∀{l:Q1} {S:WS},(l.foldl g S).ok=true->mh S->mh (l.foldl g S)/\(l.foldl g S).aD.length=S.aD.length:=@gx _ _ (fun {z} z h=>⟨h,rfl⟩) λj l c {S} h d=>by
 refine dS (b S j (uD a h) d) λe f=>dS (c (S:=g S j) h e) λi k=>⟨i,k.trans f⟩
def Ii(tie):∀f S i,(oW tie f S i).ok=true->mh S->mh (oW tie f S i)/\(oW tie f S i).aD.length=S.aD.length:=ig (λS i h z=>by cases h) λf c S i h a=>by
 rw[A4]at h ⊢;have b:=(SB h).1;obtain⟨z,z,z,d,z,l1,z⟩:=Aj (uD (tc tie f) b) a;obtain⟨g2,e⟩:=r9 (tc tie f) (λS j h a=>by
  delta mJ at h ⊢;cases q:ju j S.ord with
  |true=>exact⟨a,rfl⟩
  |false=>rw[q]at h;exact c S j h a) b d
 refine sE (ux h g2) λg3 z l3 z=>⟨g3,by rw[l3,e,l1];rfl⟩
def uq(tie)(f)(S)(j)(h:(mJ tie f S j).ok=true)(a:mh S):mh (mJ tie f S j)/\(mJ tie f S j).aD.length=S.aD.length:=by
 delta mJ at h ⊢;cases q:ju j S.ord with
 |true=>exact⟨a,rfl⟩
 |false=>rw[q]at h;exact Ii tie f S j h a
def G1(b:∀S j,(g S j).ok=true->S.ok=true)(c:∀S j,(g S j).ok=true->mh S->mh (g S j)/\(g S j).aD.length=S.aD.length){l:Q1}(h:(l.foldl g S).ok=true)(d:mh S)(k) :
 ((l.take k).foldl g S).ok=true/\mh ((l.take k).foldl g S)/\((l.take k).foldl g S).aD.length=S.aD.length/\∀j,l[k]?=ab j->(l.take (k+1)).foldl g S=g ((l.take k).foldl g S) j/\(g ((l.take k).foldl g S) j).ok=true:=by
 have a:∀k,((l.take k).foldl g S).ok=true:=λk=>by
  rw[((List.take_append_drop k l).symm),N1]at h;exact uD b h
 refine dS (r9 b c (a k) d) λe g2=>⟨a k,e,g2,λj f=>?_⟩;have e2:(l.take (k+1)).foldl g S=g ((l.take k).foldl g S) j:=by rw[d7,f,N1];rfl
 exact⟨e2,e2▸a (k+1)⟩
def Yf{M:Tk}{R:Tk->Prop}(v:St B w X loc (M.bI (Tk.cu w a (aW c .none))) F s)(y:Ev (St.pre B w X loc (M.bI (Tk.cu w a (aW c .none)))) w A X.ax (.Name x np) (.val (.ref a)))
 (z:n8 B w X loc (M.bI (Tk.cu w a (aW c .none))) A e (λK' t=>t=.none/\∃b,R b/\K'=b.bI (Tk.cu w a (aW c .none)))) (C:c<=10000)
 (D:eval (.Call (.Attribute (.Name x np) "append" ap) [e] [] pos) X.ax=(do
  let n <-eval (.Name x np) X.ax
  ej ap.atName
  let (f,first) <-fL [n] (ib n "append" pl)
  dB pos f first (dc pos (br [e] X.ax)) (bR pos (bk [] X.ax))))
 (hi:false=jy X.ax) (E:cD false=cf (.Call (.Attribute (.Name x np) "append" ap) [e] [] pos) aC j.line X.ax)
 (k:∀b F' s',R b->gM X (b.bI (Tk.cu w a (aW (c+1) .none)))->St B w X loc (b.bI (Tk.cu w a (aW (c+1) .none))) F' s'->Go w A bj X.ax Q s')
 (G:autoParam (((dc pos (br [e] X.ax)).any (·.1) || (bR pos (bk [] X.ax)).any (·.1.isNone))=false) ou) (i:autoParam (br [e] X.ax=(false,eval e X.ax)::br [] X.ax) ou) :
 Go w A (.Expr (.Call (.Attribute (.Name x np) "append" ap) [e] [] pos) j::bj) X.ax Q s:=by
 have o:∀(M:Tk) ts ts',bU (M.bI (Tk.cu w a ts)) (M.bI (Tk.cu w a ts')) (Tk.cu w a ts) (Tk.cu w a ts'):=λM ts ts'=>bU.right (bU.here rfl);refine rf v (yy (R':=λK' t=>t=.none/\∃b,R b/\K'=b.bI (Tk.cu w a (aW (c+1) .none))) y (iH (o _ _ (aW c .none))) (qP z i) bK.bi (λK' ts h=>?_) D G i) (λK t h=>Qw h.1) hi E λK' t F' s' p H q=>?_
 .refine mB h λt g d l=>?_;refine cY l λb m r=>?_;subst g;subst d;subst r;refine(gl (o b (aW c .none) (aW c .none++[.none])) (by rw[dr,aJ];exact(bO 0x100000079002710490d) C)).cC λK' u h=>dS h λg d=>?_;subst g;subst d;exact⟨rfl,b,m,by rw[eH]⟩
 .refine dS p λg l=>?_;refine cY l λb m d=>?_;subst g;subst d;exact k b F' s' m H q
def C2{M:Tk}(R:Tk->Prop)(l:Ev (St.pre B w X loc (M.bI (Tk.cu w a (aW c .none)))) w A X.ax (.Name x np) (.val (.ref a)))
 (m:gM X (M.bI (Tk.cu w a (aW c .none)))->n8 B w X loc (M.bI (Tk.cu w a (aW c .none))) A e (λK' t=>t=.none/\∃b,R b/\K'=b.bI (Tk.cu w a (aW c .none)))) (n:c<=10000)
 (o:eval (.Call (.Attribute (.Name x np) "append" ap) [e] [] pos) X.ax=(do
  let i <-eval (.Name x np) X.ax
  ej ap.atName
  let (f,first) <-fL [i] (ib i "append" pl)
  dB pos f first (dc pos (br [e] X.ax)) (bR pos (bk [] X.ax))))
 (hi:false=jy X.ax) (p:cD false=cf (.Call (.Attribute (.Name x np) "append" ap) [e] [] pos) aC d.line X.ax)
 (k:∀b,R b->Ho B w X A Q loc (b.bI (Tk.cu w a (aW (c+1) .none))) bj)
 (q:autoParam (((dc pos (br [e] X.ax)).any (·.1) || (bR pos (bk [] X.ax)).any (·.1.isNone))=false) ou) (j:autoParam (br [e] X.ax=(false,eval e X.ax)::br [] X.ax) ou) :
 Ho B w X A Q loc (M.bI (Tk.cu w a (aW c .none))) (.Expr (.Call (.Attribute (.Name x np) "append" ap) [e] [] pos) d::bj):=
 ⟨λz z r g=>Yf r l (m g) n o hi p (λb F s u g h=>(k b u).run F s h g) q j⟩
def Kx(h:uY C w A f ts us):cR C w A f ts [] [] (.list us):=by
 refine⟨λF s vs i b c d Q E e=>?_⟩;refine d.e0 <|h.run F s vs b c Q E λa F' s' g r z=>e _ F' s' g r
def xh{k:Nat}(h:k<10):cR C w A (.type "str") [.int (k:Int)] [] [] (.str (Ss [48+k])):=by
 rw[<-oY k h];exact tj (pP #v[(bO Sv8) h] #v[(bO Sw9) h])
structure La where
 wa:Wa
 dn:bu
 ln:bu
 df:bu
 lf:bu
 an:bu
structure Kw(W:S2)(d:Lx2)(tie:Lx1)(near:List y5):Prop where
 qaP:jC near
 all:∀i,i<5->fR near [80+i]=(lx tie i).map λj=>[112+j]++jr (UW W) d [2000+10*j+i]
abbrev Tk.km(W:S2)(d:Lx2)(w:bC)(L:La)(a:List y5)(rd:Bool)(as:List bu)(S:WS)(tb:Option bu)(b:List y5):Tk:=((Tk.ws W d w L.wa true rd as S tb).bI (Tk.mC w L.dn L.ln a)).bI (Tk.mC w L.df L.lf b)
abbrev Tk.kw(W:S2)(d:Lx2)(w:bC)(L:La)(a:List y5)(e:Nat)(rd:Bool)(as:List bu)(S:WS)(tb:Option bu):Tk:=(Tk.km W d w L a rd as S tb (my S.ord)).bI (Tk.cu w L.an (aW (S.c6.length-2+e) .none))
def JV(c:zB W)(d:a<=8)(e:b<=8)(h:i7 (jJ (UW W) (a,t))=i7 (jJ (UW W) (b,t))):a=b:=by
 have e2:pv (UW W a) t=pv (UW W b) t:=by
  simpa using (congrArg (λs:bT=>s.cps.toList) h)
 exact(Se c).inj a b d e (List.append_cancel_right (cA e2).2)
abbrev lwA(W:S2)(L:La)(i:Nat):M2:=[("writer",bP 150 L.wa.dx),("near",bP 369 L.dn),("found",bP 369 L.df),("names",BE (UW W)),("name",.str (Ss [112+i])),("answers",.val (.ref L.an))]
abbrev lwB(W:S2)(L:La)(i:Nat)(a t2:T):M2:=[("writer",bP 150 L.wa.dx),("near",bP 369 L.dn),("found",bP 369 L.df),("names",BE (UW W)),("name",.str (Ss [112+i])),("answers",.val (.ref L.an)),("told",a),("ties",t2)]
def IS(g:dg w B)(Z:zB W)(hd:UD (UW W) d)(hpm1:L.wa.pm≠1)(hN:Kw W d tie m)(he:e<=1000):∀f S i,(oW tie f S i).ok=true->mh S->∀A as rd tb,Rm (n+f+14) A->
 d5 B w (Tk.kw W d w L m e rd as S tb) A (.ref 383) [bP 150 L.wa.dx,bP 369 L.dn,bP 369 L.df,BE (UW W),.str (Ss [112+i]),.val (.ref L.an)] [] [] (λK' t=>t=.none/\∃o y,K'=Tk.kw W d w L m e o as (oW tie f S i) y):=by
 intro f
 induction f with
 |zero=>intro S i ok;cases ok
 |succ f ih=>
  intro S i ok hG A as rd tb v;rw[A4]at ok ⊢;have okE:=(SB ok).1;have okB:=uD (tc tie f) okE;refine sE (Aj okB hG) λokS hno c h0=>sE h0 λgB oB rB h1=>dS h1 λlB N=>dS (r9 (tc tie f) (uq tie f) okE gB) λgE _=>sE (ux ok gE) λ_ oE _ hl0=>?_;have h5:=hG.o5;have U:=hG.len;have O:S.ord.length<=4:=by have:=gB.len;rw[oB,aw]at this;simp at this;exact(bO 0x4300430d530d) U this
  refine⟨λF s vs us bs hI hap hv hu Q E hQ=>?_⟩;refine hv.e6 λv1 v2 v3 v4 v5 v6 r1 r2 r3 r4 r5 r6=>hu.e0 <|enter (K:=Tk.kw W d w L m e rd as S tb) (lwA W L i) [v1,v2,v3,v4,v5,v6] (Tk.kw W d w L m e rd as S tb).tk ["found", "names"] g bs v rfl #v[] (cb rfl) rfl rfl (.cons r1 (.cons r2 (.cons r3 (.cons r4 (.cons r5 (.cons r6 .nil)))))) hI hap λLo s1 hL hS=>n6 hS (jb rfl) ?_;have gh:=uh h5 (by exact(bO 0x5300430d530d) U O:S.ord.length<=5);refine C2 (λG=>G=Tk.km W d w L m rd as S tb (my S.ord++[([112+i],[112+i])])) aF (λH=>?_) #v[(bW Ru9) he N] rfl rfl rfl λG hM=>?_
  .refine rn H (fg g rfl (λF=>.val (.ref 203)) rfl rfl rfl) (kj (aq aF (aq aF (aq aF aK)))) (bK.fn g #v[]) ?_ rfl;refine XE (xJ (n:=n) g (v.deeper.le #v[bW Sv5]) gh (sP c) (sP c)) λK2 t h=>JB h <| ⟨rfl,_,rfl,by rw[Si h5 c hno (Av c)]⟩
  subst hM;have gh2:jC (my S.ord++[([112+i],[112+i])]):=by
   refine⟨λkv hkv=>?_,by rw[aw,BF];simp;exact(bO 0x3e73900430d530d) U O⟩;rcases ao.mp hkv with h|h
   .exact gh.1 kv h
   .rw [aB.mp h];exact⟨sP c,sP c⟩
  refine C2 (λG=>G=Tk.km W d w L m rd as S tb (my (S.ord++[i]))) aF (λH=>?_) #v[(bW 0x2710491230546064290d3e8391d) he N] rfl rfl rfl λG hM=>?_
  .refine rn (ts:=[bP 369 L.df,.str (Ss [80+i]),.str (Ss [48+S.ord.length])]) H (fg g rfl (λF=>.val (.ref 203)) rfl rfl rfl) (kj (aq aF (aq ?_ (aq ?_ aK)))) (bK.fn g #v[]) ?_ rfl
   .exact cF aF A5 AC bK.bi (by rw[<-IF c];exact yv (by rw[IF c];rfl)) rfl
   .refine i0 (jo g) (kj (aq (t:=.int (S.ord.length:Int)) ?_ aK)) bK.ty (xh #v[(bO 0xa301430d530d) U O]) rfl;have e1:((S.ord.length:Nat):Int)=(((my S.ord++[([112+i],[112+i])]).length:Nat):Int)-1:=by rw[aw,BF];simp
    rw[e1];exact bo (kD g (aq aF aK) (rJ (n:=n) g (v.deeper.le #v[bW 0xd31604443040]) gv.left.right gh2)) bA AZ
   .refine XE (xJ (n:=n) g (v.deeper.le #v[bW Sv5]) gh2 (vG c) (M3 #v[(bO 0xa301430d530d) U O])) λK2 t h=>JB h <| ⟨rfl,_,rfl,?_⟩;have e1:se (my S.ord++[([112+i],[112+i])]) [80+i]=my S.ord:=by
     have:=Si h5 c hno (nm:=[80+i]) (wo c);unfold se at this ⊢;rw[dP,this,fF,Av c,wo c];simp
    rw[e1,OX]
  subst hM;have hb5:∀x∈S.ord++[i],x<5:=oB▸gB.o5;have htl5:∀j∈lx tie i,j<5:=λj p=>by
   have:=(c3.mp p).1;simp at this;exact(bO Sv4) this
  have htln:(lx tie i).Nodup:=(by decide:[0,1,2,3,4].Nodup).sublist List.filter_sublist;generalize htl:lx tie i=tl at *;refine cy (t:=.list (tl.map λj=>.str (Ss ([112+j]++jr (UW W) d [2000+10*j+i])))) ?_ (.inl rfl) rfl ?_
  .refine cF (f:=.ref 308) aF (k8 g (λF s h=>h.cV.1.1.2.1.1) (ats:=[("_headers",.val (.ref L.ln))]) rfl #v[] #v[] (kb w) (oZ w)) (kj (aq (t:=.str (Ss [80+i])) ?_ aK)) (bK.fn g #v[]) ?_ rfl
   .exact cF aF A5 AC bK.bi (by rw[<-IF c];exact yv (by rw[IF c];rfl)) rfl
   .have e1:(tl.map λj=>T.str (Ss ([112+j]++jr (UW W) d [2000+10*j+i])))=(fR m [80+i]).map λx=>.str (Ss x):=by rw[hN.all i c,htl,aQ];rfl
    rw[e1];exact Kx (BZ (n:=n) g (v.deeper.le #v[bW 0xd31604433040]) gv.left.left.right hN.qaP (vG c))
  have P:∀j,j<5->∃x,jr (UW W) d [2000+10*j+i]=[x]:=λj p=>⟨_,FA (aT p #v[_]) (aT c #v[_])⟩;have J:∀k,k<tl.length->tl.getD k 0<5:=λk r=>by rw[gD r];exact htl5 _ (bV r)
  have hts:ut tie (S.ord++[i]) i=(tl.filter λj=>ju j (S.ord++[i])).map λj=>(j,2000+10*j+i):=by delta ut;rw[htl]
  refine gY (t:=.dict (iy (UW W) ((ut tie (S.ord++[i]) i).map (Cd W d)))) ?_ rfl rfl (.inl rfl) ?_
  .have ed:iy (UW W) ((ut tie (S.ord++[i]) i).map (Cd W d))=oT (λk=>i7 (jJ (UW W) (tl.getD k 0,[116]))) (λk=>.str (Ss (jr (UW W) d [2000+10*tl.getD k 0+i]))) (λk=>ju (tl.getD k 0) (S.ord++[i])) (tl.map λj=>T.str (Ss ([112+j]++jr (UW W) d [2000+10*j+i]))).length:=by
    rw[af,IJ λa b ha V _ _ e=>by
     exact t5 htln (x:=tl.getD a 0) (gS ha _) (by rw[(JV Z (by have:=J a ha;exact(bO 0x8300530e) this) (by have:=J b V;exact(bO 0x8300530e) this) e),ar,ay V];rfl)]
    rw[hts,iy,aQ,aQ];exact(rH tl 0 (λj=>ju j (S.ord++[i])) (λj=>(i7 (jJ (UW W) (j,[116])),T.str (Ss (jr (UW W) d [2000+10*j+i]))))).symm
   rw[ed];refine Bp (ts:=tl.map λj=>.str (Ss ([112+j]++jr (UW W) d [2000+10*j+i]))) (f:=λk l=>dz "one" (.str (Ss ([112+tl.getD k 0]++jr (UW W) d [2000+10*tl.getD k 0+i]))) l) g nf su (iC aF (iK v.1)) (by rw[af,aJ];exact(bO Sw2) (xW 5 _ htln htl5)) ?_ (λk=>j7 (.inl rfl)) ?_ ?_ ?_ (λx=>rfl)
   .intro k t R cells L0 s0 F0;have ht:t=.str (Ss ([112+tl.getD k 0]++jr (UW W) d [2000+10*tl.getD k 0+i])):=rI R _;subst ht;exact hO (.inl (kH rfl #v[_]))
   .intro k r cells Lo D kn X;rw[af]at r;have p:=J k r;rw[<-Kl hb5 p (nm:=[112+tl.getD k 0]) (Av p)];refine gW (eP (kD g (aq (bD X) (aq (bf (bD X) bA (oA (k:=0) (l:=[112+tl.getD k 0]++jr (UW W) d [2000+10*tl.getD k 0+i]) (by simp) ?_)) aK)) (rF (n:=n) g (v.deeper.le #v[bW Sv5]) (λF s h=>(gv.left.right) F s (kn F s h)) (uh hb5 (oB▸gB.len)) (sP p))) lb);refine iA (P _ p) λx Y=>?_;rw[Y];show 2<=1000;decide
   .intro k r _ cells Lo D kn X;rw[af]at r;have p:=J k r;have u:=(Se Z).len (tl.getD k 0);have R:i7 (jJ (UW W) (tl.getD k 0,[116]))=Ss (([123]++UW W (tl.getD k 0))++[125,116]):=by delta i7 pv;simp
    rw[R];refine bo (bo (bJ #v[]) (bf (bD X) (bf (bD X) bA (oA (k:=0) (l:=[112+tl.getD k 0]++jr (UW W) d [2000+10*tl.getD k 0+i]) (by simp) ?_)) (oQ (G4 (UW W) p))) (eO (a:=[123]) (b:=UW W (tl.getD k 0)) (by rw[bx];exact(bO Sv3) u))) (bJ #v[]) (eO (by rw[aw,bx];show 1+_+2<=10000000;exact(bO Sv2) u));refine iA (P _ p) λx Y=>?_;rw[Y];show 2<=1000;decide
   .intro k r _ cells Lo D kn X;rw[af]at r;refine iA (P _ (J k r)) λx Y=>?_;rw[Y];rw[Y]at X;exact bf (bD X) (iJ (g9 bA) ct ct) (pb (k:=1) (l:=[112+tl.getD k 0,x]) (by simp) (by simp))
  have hat5:(UW W i,[101])∈JD:=XD Z c;refine C2 (λG=>∃na c',G=Tk.km W d w L m rd (as++[na]) (sh tie S i) (ab c') (my (sh tie S i).ord)) aF (λH=>?_) #v[(bW 0x27104912305466064290d3e8391d) he N] rfl rfl rfl λG hM=>?_
  .refine cP (f:=.ref 120) (ts:=[.str (i7 (jJ (UW W) (i,[101]))),.dict (iy (UW W) ((ut tie (S.ord++[i]) i).map (Cd W d)))]) H aF (P4 g N9 (ats:=nT L.wa true rd)) (kj (aq ?_ (aq aF aK))) (bK.fn g #v[]) ?_ rfl
   .have u:=(Se Z).len i;have R:i7 (jJ (UW W) (i,[101]))=Ss (([123]++UW W i)++[125,101]):=by delta i7 pv;simp
    rw[R];exact bo (bo (bJ #v[]) (bf aF aF (oQ (G4 (UW W) c))) (eO (a:=[123]) (b:=UW W i) (by rw[bx];exact(bO Sv3) u))) (bJ #v[]) (eO (by rw[aw,bx];show 1+_+2<=10000000;exact(bO Sv2) u))
   .refine Ur (rq (n:=n) (S:={S with ord:=S.ord++[i],ok:=S.ok&&!ju i S.ord&&cK i 4}) g (v.deeper.le #v[bW 0xd31604493040]) Z hd hpm1 okB hG.wk hat5 #v[_]) λna c'=>⟨rfl,_,⟨na,c',?_⟩,rfl⟩;rw[oB];rfl
  obtain⟨na,c',rfl⟩:=hM;have ec:S.c6.length-2+e+1+1+1=(sh tie S i).c6.length-2+e:=by have:=hG.ot;rw[lB];exact(bW 0x1233304541230546662023d64290d) N this
  rw[ec];refine ii (lwB W L i (.list (tl.map λj=>.str (Ss ([112+j]++jr (UW W) d [2000+10*j+i])))) (.dict (iy (UW W) ((ut tie (S.ord++[i]) i).map (Cd W d))))) rfl <|E3 (ts:=tl.map λj=>.str (Ss ([112+j]++jr (UW W) d [2000+10*j+i]))) (f:=λk l=>dz "one" (.str (Ss ([112+tl.getD k 0]++jr (UW W) d [2000+10*tl.getD k 0+i]))) l)
   (λ_ (_:Bool×Option bu)=>True) (λ_ _=>lwB W L i (.list (tl.map λj=>.str (Ss ([112+j]++jr (UW W) d [2000+10*j+i])))) (.dict (iy (UW W) ((ut tie (S.ord++[i]) i).map (Cd W d))))) (λk z=>Tk.kw W d w L m e z.1 (as++[na]) ((tl.take k).foldl (mJ tie f) (sh tie S i)) z.2)
   (iC aF (iK v.deeper.1)) (λ_ _=>⟨rfl,rfl⟩) (λk t R=>?_) (rd,ab c') trivial rfl rfl ?_ ?_
  .have ht:t=.str (Ss ([112+tl.getD k 0]++jr (UW W) d [2000+10*tl.getD k 0+i])):=rI R _;subst ht;exact hO (.inl rfl)
  .rintro L1 k ⟨rd2,M⟩ r _;simp only;rw[af]at r;have p:=J k r;refine sE (G1 (tc tie f) (uq tie f) okE gB k) λokk gk _ hnx=>dS (hnx _ (show tl[k]?=ab (tl.getD k 0) from gS r _)) λe2 Oc=>?_;rw[e2];generalize hSk:(tl.take k).foldl (mJ tie f) (sh tie S i)=I at *;refine iA (P _ p) λx Y=>?_;generalize hjj:tl.getD k 0=j at *;have hone:∀{C:fv B} {ax:uS},True->gF C w (A.deeper ax) (.str (Ss ([112+j]++jr (UW W) d [2000+10*j+i]))) (.int 0) (.str (ch (112+j))):=fun {C ax} _=>oA (k:=0) (l:=[112+j]++jr (UW W) d [2000+10*j+i]) (by simp) (by rw[Y];show 2<=1000;decide)
   refine mU (b:=!ju j I.ord) ?_ (λV=>?_) (λV=>?_)
   .rw [<-Kl gk.o5 p (nm:=[112+j]) (Av p)];exact rZ (eP (kD g (aq aF (aq (bf aF bA (hone trivial)) aK)) (rF (n:=n) g (v.deeper.le #v[bW Sv5]) gv.left.left.right (uh gk.o5 gk.len) (sP p))) lb)
   .have hm:ju j I.ord=false:=by cases q:ju j I.ord with
     |true=>rw[q]at V;cases V
     |false=>rfl
    have es:mJ tie f I j=oW tie f I j:=by delta mJ;rw[hm];rfl
    rw[es]at Oc ⊢;refine qN (λH=>rn (ts:=[bP 150 L.wa.dx,bP 369 L.dn,bP 369 L.df,BE (UW W),.str (Ss [112+j]),.val (.ref L.an)]) H (fg g rfl (λF=>.val (.ref 383)) rfl rfl rfl) (kj (aq aF (aq aF (aq aF (aq aF (aq (bf aF bA (hone trivial)) (aq aF aK))))))) (bK.fn g #v[])
     (U4 (R':=λK' t=>t=.none/\∃o y,K'=(Tk.kw W d w L m e o (as++[na]) (oW tie f I j) y).bI L1) (ih I j Oc gk (A.deeper _) (as++[na]) rd2 M (v.deeper.le #v[bW 0xd316044e310440])) λK' t h=>by obtain⟨rfl,o,y,rfl⟩:=h;exact⟨rfl,o,y,rfl⟩) rfl) (λK t h=>Qw h.1) rfl rfl λK' t hRR=>?_
    refine XI hRR λo y=>yL (o,y) trivial rfl
   .have hm:ju j I.ord=true:=by cases q:ju j I.ord with
     |false=>rw[q]at V;cases V
     |true=>rfl
    have es:mJ tie f I j=I:=by delta mJ;rw[hm];rfl
    rw[es];exact yL (rd2,M) trivial rfl
  .rintro ⟨rd2,M⟩ _;rw[af,iU];simp only;generalize hSf:tl.foldl (mJ tie f) (sh tie S i)=Sf at *;refine C2 (λG=>∃o,G=Tk.km W d w L m o as (i3 Sf i 101) M (my (i3 Sf i 101).ord)) aF (λH=>?_) ?_ rfl rfl rfl λG hM=>?_
   .refine cP (f:=.ref 133) (ts:=[.str (i7 (jJ (UW W) (i,[101])))]) H aF (P4 g N9 (ats:=nT L.wa true rd2)) (kj (aq ?_ aK)) (bK.fn g #v[]) ?_ rfl
    .have u:=(Se Z).len i;have R:i7 (jJ (UW W) (i,[101]))=Ss (([123]++UW W i)++[125,101]):=by delta i7 pv;simp
     rw[R];exact bo (bo (bJ #v[]) (bf aF aF (oQ (G4 (UW W) c))) (eO (a:=[123]) (b:=UW W i) (by rw[bx];exact(bO Sv3) u))) (bJ #v[]) (eO (by rw[aw,bx];show 1+_+2<=10000000;exact(bO Sv2) u))
    .refine Te (u6 (n:=n) g (v.deeper.le #v[bW 0xd31604463040]) Z hpm1 ok gE.wk #v[(bO 0x8300530e) c] hat5 #v[_]) λo=>⟨rfl,_,⟨o,?_⟩,rfl⟩;rw[oE]
   .refine sE (SB ok) λ_ _ hle _=>(bW Ru9) he hl0.2
   obtain⟨o,rfl⟩:=hM;have ec2:Sf.c6.length-2+e+1=(i3 Sf i 101).c6.length-2+e:=by have:=gE.ot;rw[hl0.1];exact(bW 0x123065412305462023d64290d) hl0.2 this
   rw[ec2];refine wq λF7 s7 hS H=>hQ .none .none (Tk.kw W d w L m e o as (i3 Sf i 101) M) F7 s7 ⟨rfl,o,M,rfl⟩ hS.d6 hS.cV (λa ha=>?_) .none;have h1:=hS.apart a ha;refine⟨h1.1,h1.2.1,?_⟩;rcases H a ha with q|q
   .exact .inr q
   .exact .inl q
end
end Mine
namespace Mine
open PySem PySem.W PySem.Builtin.Str
noncomputable def mq(l:List Q1):Q1:=l.rec [] λp l a=>l.rec p λz z z=>p++32::a
def joJ(l:List Q1):Q1:=l.rec [] λp z a=>p++32::a
def Vd{x y:Q1}:∀{p q:Q1},32∉p->32∉q->p++32::x=q++32::y->p=q/\x=y:=
 @gx _ _ (fun {q}=>q.rec (λw w h=>⟨rfl,(cA h).2⟩) λc q w w a h=>absurd (.head _) ((cA h).1▸a))
  λc p d {q}=>q.rec (λb w h=>absurd (.head _) ((cA h).1.symm▸b)) λe q w b a h=>dS (cA h) λe1 e2=>dS (d (λz=>b (.tail _ z)) (λz=>a (.tail _ z)) e2) λe3 e4=>⟨by rw[e1,e3],e4⟩
def WI:∀(a:List Q1) (p:Q1),mq (p::a)++[32]=joJ (p::a):=iX (λz=>rfl) λq r b p=>(cm p (32::mq (q::r)) [32]).trans (congrArg (λl=>p++32::l) (b q))
def Ph:∀{a b:List Q1},(∀p∈a,32∉p)->(∀p∈b,32∉p)->joJ a=joJ b->a=b:=
 @gx _ _ (fun {b}=>b.rec (λz z z=>rfl) λq b z z z h=>(gR q (j6 _ _) h.symm).elim)
  λp a f {b}=>b.rec (λz z h=>(gR p (j6 _ _) h).elim) λq b z d e h=>dS (Vd (d p (.head _)) (e q (.head _)) h) λe1 e2=>by rw[e1,f (λx c=>d x (.tail _ c)) (λx c=>e x (.tail _ c)) e2]
def H4{a b:List Q1}(c:a≠[])(d:b≠[])(e:∀p∈a,32∉p)(f:∀p∈b,32∉p)(h:mq a=mq b):a=b:=by
 cases a with
 |nil=>exact absurd rfl c
 |cons p a=>cases b with
  |nil=>exact absurd rfl d
  |cons q b=>exact Ph e f ((WI a p).symm.trans ((congrArg (·++[32]) h).trans (WI b q)))
def Vl:∀l,Str.join (Ss [32]) (l.map λp=>Ss p)=Ss (mq l):=iX rfl λp l=>l.rec (λz=>rfl) λq r z a=>by
 show Ss p++Ss [32]++Str.join (Ss [32]) ((q::r).map λp=>Ss p)=_;rw[a,rD,rD,cm];rfl
def J7(x y):i6 x y≠[]:=by
 delta i6
 split
 .simp
 .split
  .simp
  .rw [StrLaws.partsBetween_eq];refine GU (StrLaws.partsFrom_ne x y.length 0 (kC x y 0 x.length (x.length+1))) λp r e=>?_;rw[e];simp
def PM(b:ps≠[])(c:∀p∈ps,32∉p)(e:mq ps=l):i6 (Ss l) (Ss [32])=ps.map λp=>Ss p:=by
 have a:=StrLaws.join_split (Ss l) (Ss [32]);have e2:i6 (Ss l) (Ss [32])=((i6 (Ss l) (Ss [32])).map λs=>s.cps.toList).map λp=>Ss p:=by
  rw[aQ]
  conv=>lhs;rw[<-sG (i6 (Ss l) (Ss [32]))]
  exact bL λs z=>by simp
 rw[e2,Vl]at a;have d:mq ((i6 (Ss l) (Ss [32])).map λs=>s.cps.toList)=mq ps:=by rw[e];exact lL.mp a
 have f:=H4 (by simp[J7]) b (λp g=>by refine cY (bp.mp g) λs h i=>?_;subst i;exact(StrLaws.split_free (Ss l) 32) s h) c d;rw[e2,f]
def N8(a l:Q1)(i:Nat):Prop:=a <+: l.drop i/\∀k,k<i->¬a <+: l.drop k
def NB:V1 (Ss l) (Ss a) (Ss l).length i↔(a <+: l.drop i/\i+a.length<=l.length):=by
 delta V1;rw[StrLaws.subAt_eq,cX,cX,beq_iff_eq];rw[List.prefix_iff_eq_take];constructor
 .rintro ⟨b,c⟩;exact⟨c.symm,b⟩
 .rintro ⟨b,c⟩;exact⟨c,b.symm⟩
def Gw(f:a≠[])(h:N8 a l i):∃r,kC (Ss l) (Ss a) 0 (Ss l).length 1=i::r:=by
 have b:∀k,a <+: l.drop k->k+a.length<=l.length:=λk g=>by
  have d:=g.length_le;rw[gK]at d;have:0<a.length:=tO.mpr f;exact(dO 0x21040103e0251d) d this
 have hA:=NB.mpr ⟨h.1,b i h.1⟩;rcases StrLaws.occ_head (Ss l) (Ss a) 1 (ah _)with ⟨z,c⟩ | ⟨j,r,e,c,m⟩
 .exact absurd hA (c i)
 .have n:=NB.mp c;have:j=i:=by
   rcases pF j i with q|q|q
   .exact absurd n.1 (h.2 j q)
   .exact q
   .exact absurd hA (m i q)
  exact⟨r,this▸e⟩
def uA(b:∀k,k<c.length->¬a <+: (c++bj).drop k)(h:N8 a bj i):N8 a (c++bj) (c.length+i):=by
 have e:∀k,(c++bj).drop (c.length+k)=bj.drop k:=λk=>by rw[List.drop_append,Eb #v[bW 0x10400],show c.length+k-c.length=k by exact bW 0x1010452];rfl
 refine⟨by rw[e];exact h.1,λk d=>?_⟩;by_cases q:k<c.length
 .exact b k q
 .have:=h.2 (k-c.length) #v[(dO 0x210511016c2140e) d q];rwa[<-e,show c.length+(k-c.length)=k by exact(bW 0x10150420116c) q]at this
def C6:N8 a (a++bj) 0:=⟨List.prefix_append _ _,λk b=>absurd b (ft _)⟩
def uC{bj:Q1}(h:x∉c):∀k,k<c.length->¬(x::p) <+: (c++bj).drop k:=by
 intro k a b;rw[List.drop_append_of_le_length #v[(bW 0x10010e) a]]at b;refine iA b λt d=>?_;have hd:(c.drop k)≠[]:=by simp;exact(bW 0x10110e) a
 refine GU (jY hd) λy ys e=>?_;rw[e]at d;exact h (((cA d).1)▸sK (e▸List.mem_cons_self ..))
def xc{bj:Q1}(h:x∉c)(a:¬(x::p) <+: (x::c)++bj):∀k,k<(x::c).length->¬(x::p) <+: ((x::c)++bj).drop k:=by
 intro k b;cases k with
 |zero=>exact a
 |succ k=>exact uC h k (by simpa using b)
end Mine
namespace Mine
open PySem
theorem rh{ds as:List (Nat×Nat)}(h:lq (.ql ds as)=true):(ds.length<=8/\as.length<=8)/\(∀y∈ds,y.1<=7/\y.2<=9)/\∀y∈as,y.1<=9/\Fq y.2=true:=
 have b:=ba h;have c:=ba b.1;have d:=ba c.1
 ⟨⟨bE d.1,bE d.2⟩,λy a=>(ba (bg.mp c.2 y a)).imp bE bE,λy a=>(ba (bg.mp b.2 y a)).imp_left bE⟩
section
variable {W:S2}{d:Lx2}
abbrev zr(W:S2)(d:Lx2)(x:mF):Q1:=jr (UW W) d (t6 x)
def nc(W:S2)(d:Lx2)(l:List mF):Q1:=l.rec [] λx z a=>zr W d x++a
theorem sx{x:mF}{l:List mF}:nc W d (x::l)=zr W d x++nc W d l:=rfl
theorem Eu:∀l:List mF,nc W d l=(wP W d l).flatten:=iX rfl λx z a=>congrArg (zr W d x++·) a
theorem Hc:∀a b:List mF,nc W d (a++b)=nc W d a++nc W d b:=iX (λz=>rfl) λx z c b=>(congrArg (zr W d x++·) (c b)).trans (cm ..).symm
def V3(W:S2)(y:Pr):Q1:=sV y.2++61::34::(lJ (UW W y.1)++[34])
def PF(W:S2)(d:Lx2)(y:Nat×Nat):Q1:=jv y.1++58::116::61::34::(jr (UW W) d [y.2]++[34])
def CW(W:S2)(d:Lx2)(x:mF):List Q1:=x.rec (λz z=>[]) (λds as=>ds.map (V3 W)++as.map (PF W d)) [] λz z=>[]
theorem zw{q:Nat}(h:q<=9):jv q=[110,48+q]:=by delta jv;rw[if_neg #v[(bO 0xa3026930d) h]]
theorem C5{c:Nat}(h:cB c=true):c=101\/c=114\/c=122:=by
 delta cB at h;simp only[ik,nF]at h;rcases h with (h|h)|h
 .exact .inl h
 .exact .inr (.inl h)
 .exact .inr (.inr h)
theorem vE{q c:Nat}(h:lq (.wQ q c)=true):zr W d (.wQ q c)=[60,110,48+q,58,c]/\q<=9/\(c=101\/c=114\/c=122):=by
 delta lq at h;rw[bc,vy]at h;have a:=C5 h.2;refine⟨?_,h.1,a⟩;show jr _ _ (60::(jv q++58::[c]))=_;rw[zw h.1];exact jD _ _ (by simp;exact(bW Ru8) h.1 a)
theorem xT{q c:Nat}(h:lq (.jO q c)=true):zr W d (.jO q c)=[60,47,110,48+q,58,c,62]/\q<=9/\(c=101\/c=114\/c=122):=by
 delta lq at h;rw[bc,vy]at h;have a:=C5 h.2;refine⟨?_,h.1,a⟩;show jr _ _ ([60,47]++(jv q++58::[c])++[62])=_;rw[zw h.1];exact jD _ _ (by simp;exact(bW Ru8) h.1 a)
theorem G5:zr W d .gt=[62]:=jD _ _ rfl
variable (hW:zB W)(hd:UD (UW W) d)
include hW hd
theorem FB{ds as:List (Nat×Nat)}(h:lq (.ql ds as)=true):zr W d (.ql ds as)=((CW W d (.ql ds as)).map (32::·)).flatten:=by
 refine ka (rh h) λz e f=>?_;show jr _ _ (((ds.map λy=>lj (sV y.2,vT y.1))++as.map λy=>lj (jv y.1++[58,116],[y.2])).flatten)=_;rw[ye,CW,aU,aU,aQ,aQ,aQ,aQ];congr 2
 .refine bL λy a=>dS (e y a) λb c=>?_;show jr _ _ (lj (sV y.2,vT y.1))=32::V3 W y;rw[tT (by rw[fq,nb c];rfl),<-Ku hW b];rfl
 .refine bL λy a=>dS (f y a) λb c=>?_;show jr _ _ (lj (jv y.1++[58,116],[y.2]))=32::PF W d y;rw[tT (by rw[fq,nb b];rfl)];simp[lj,PF]
theorem ub{x:mF}(h:lq x=true):∀v∈CW W d x,32∉v/\60∉v/\2<=v.length/\v.length<=70:=by
 cases x with
 |ql ds as=>
  refine ka (rh h) λz l m=>?_;intro v b;rcases ao.mp b with b|b
  .refine cY (bp.mp b) λy g i=>?_;subst i;refine dS (l y g) λe c=>dS (sY (vh hW e)) λj f=>?_;have a:=bg.mp um _ (vh hW e);unfold K9 at a;simp only[bc,vy]at a;delta V3;rw[sV,zw c];refine⟨?_,?_,?_,?_⟩
   .simp [f];exact(bO 0x30294202926930d) c
   .simp [j.lt];exact(bO 0x302943c2926930d) c
   .simp
   .simp;exact aA a.1.2 #v[_]
  .refine cY (bp.mp b) λy g i=>?_;subst i;refine dS (m y g) λe c=>dS (sY (xq hd c).1) λj f=>?_;have a:=bg.mp um _ (xq hd c).1;unfold K9 at a;simp only[bc,vy]at a;have k:=j.lt;rw[Ha hd c]at f k a;delta PF;rw[zw e];refine⟨?_,?_,?_,?_⟩
   .simp [f];exact(bO 0x30294202926930d) e
   .simp [k];exact(bO 0x302943c2926930d) e
   .simp
   .simp;exact aA a.1.2 #v[_]
 |_=>intro v b;cases b
theorem Ve{x:mF}(h:lq x=true):(zr W d x).length<=1200:=by
 cases x with
 |wQ q c=>rw[(vE h).1];show 5<=1200;decide
 |gt=>rw[G5];decide
 |jO q c=>rw[(xT h).1];show 7<=1200;decide
 |ql ds as=>
  rw[FB hW hd h];have a:=CB (l:=(CW W d (.ql ds as)).map (32::·)) λx b=>by
   refine cY (bp.mp b) λv e f=>?_;subst f;rw[cq];exact(bO 0x472906046290d) (((ub hW hd h) v e).2.2.2)
  have h:=(rh h).1;have g:(CW W d (.ql ds as)).length<=16:=by
   show (ds.map (V3 W)++as.map (PF W d)).length<=16;rw[aw,af,af];exact Nat.add_le_add h.1 h.2
  rw[af]at a;exact(bW 0x4b0390010291d10047c0d) a g
theorem MJ:∀{l:List mF},(∀x∈l,lq x=true)->(nc W d l).length<=1200*l.length:=@gx _ _ (λz=>ah _) λx l a h=>by
 rw[sx,aw,cq];exact(dO 0x2604b0c1040204b0c1d4b0390d) (Ve hW hd (h x (.head _))) (a λy b=>h y (.tail _ b))
theorem HJ{ds as:List (Nat×Nat)}(h:lq (.ql ds as)=true):60∉zr W d (.ql ds as):=by
 rw[FB hW hd h];intro a;refine cY (xB.mp a) λl b a=>cY (bp.mp b) λv c e=>?_;subst e;rcases aX.mp a with a|a
 .cases a
 .exact(ub hW hd h v c).2.1 a
noncomputable abbrev C7(k:Nat):Q1:=[60,110,48+(k+1),58,101]
noncomputable abbrev Qm(k:Nat):Q1:=[60,47,110,48+(k+1),58,101]
omit hW hd in
theorem Tp{q c:Nat}(a:q<=9)(b:c=101\/c=114\/c=122):60∉[110,48+q,58,c]:=by simp;exact(bW 0x13c29260302943c292677a291272291286529128c930d) a b
omit hW hd in
theorem X7{q c:Nat}(a:q<=9)(b:c=101\/c=114\/c=122):60∉[47,110,48+q,58,c,62]:=λh=>(aX.mp h).elim (λh=>absurd h #v[_]) λh=>Tp a b ((ao (s:=[110,48+q,58,c]) (t:=[62])).mp h |>.elim id λh=>absurd (aB.mp h) #v[_])
theorem Vn{x:mF}(h:lq x=true){k:Nat}(a:Ak k x=false)(bj:Q1):∀i,i<(zr W d x).length->¬C7 k <+: (zr W d x++bj).drop i:=by
 cases x with
 |wQ q c=>
  refine ka (vE (W:=W) (d:=d) h) λe f g=>?_;rw[e];refine xc (Tp f g) λj=>iA j λt b=>?_;simp at b;delta Ak at a;rw[Gj]at a;rcases a with a|a
  .have:cG q (k+1)=true:=nF.mpr b.1.symm;rw[this]at a;cases a
  .have:cG c 101=true:=nF.mpr b.2.1.symm;rw[this]at a;cases a
 |gt=>rw[G5];exact uC #v[_]
 |jO q c=>
  refine ka (xT (W:=W) (d:=d) h) λe f g=>?_;rw[e];refine xc (X7 f g) λj=>iA j λt b=>?_;simp at b
 |ql ds as=>exact uC (HJ hW hd h)
theorem EO{x:mF}(h:lq x=true){k:Nat}(a:qX k x=false)(bj:Q1):∀i,i<(zr W d x).length->¬Qm k <+: (zr W d x++bj).drop i:=by
 cases x with
 |wQ q c=>
  refine ka (vE (W:=W) (d:=d) h) λe f g=>?_;rw[e];refine xc (Tp f g) λj=>iA j λt b=>?_;simp at b
 |gt=>rw[G5];exact uC #v[_]
 |jO q c=>
  refine ka (xT (W:=W) (d:=d) h) λe f g=>?_;rw[e];refine xc (X7 f g) λj=>iA j λt b=>?_;simp at b;delta qX at a;rw[Gj]at a;rcases a with a|a
  .have:cG q (k+1)=true:=nF.mpr b.1.symm;rw[this]at a;cases a
  .have:cG c 101=true:=nF.mpr b.2.1.symm;rw[this]at a;cases a
 |ql ds as=>exact uC (HJ hW hd h)
theorem M4{k:Nat}:∀{l sl:List mF},(∀x∈l,lq x=true)->ZS k l=ab sl->∃a,l=sl++.jO (k+1) 101::a/\N8 (Qm k) (nc W d l) (nc W d sl).length:=@gx _ _ (fun {z} z h=>by cases h) λx l g {sl} hi h=>by
 have h:(if qX k x=true then ab []else (ZS k l).map (x::·))=ab sl:=n5.symm.trans h;by_cases q:qX k x=true
 .rw [if_pos q]at h;cases h;cases x with
  |jO n c=>
   delta qX at q;rw[bc,nF,nF]at q;refine dS q λb f=>?_;subst b;subst f;refine⟨l,rfl,?_⟩;show N8 (Qm k) (zr W d (.jO (k+1) 101)++nc W d l) 0;rw[(xT (hi _ (.head _))).1];exact C6
  |_=>cases q
 .rw [if_neg q]at h;refine cY (qe.mp h) λm h' b=>?_;subst b;refine cY (g (λy i=>hi y (.tail _ i)) h') λa e j=>⟨a,by rw[e];rfl,?_⟩;rw[sx,sx,aw];exact uA (EO hW hd (hi x (.head _)) (fG _▸q) (nc W d l)) j
theorem E2{k:Nat}:∀{l sl:List mF},(∀x∈l,lq x=true)->uj k l=ab sl->∃pre a b,l=pre++sl++a/\sl=.wQ (k+1) 101::b/\N8 (C7 k) (nc W d l) (nc W d pre).length/\N8 (Qm k) (nc W d l) ((nc W d pre).length+(nc W d sl).length):=@gx _ _ (fun {z} z h=>by cases h) λx l p {sl} hi h=>by
 have h:(if Ak k x=true then (ZS k l).map (x::·)else bif qX k x then aC else uj k l)=ab sl:=n5.symm.trans h;by_cases q:Ak k x=true
 .rw [if_pos q]at h;refine cY (qe.mp h) λj h' f=>?_;subst f;refine cY (M4 hW hd (λy g=>hi y (.tail _ g)) h') λa e r=>?_;have m:=hi x (.head _);have n:qX k x=false:=by cases x<;>first|rfl|cases q
  cases x with
  |wQ u c=>
   delta Ak at q;rw[bc,nF,nF]at q;refine dS q λf o=>?_;subst f;subst o;refine⟨[],.jO (k+1) 101::a,j,by rw[e];rfl,rfl,?_,?_⟩
   .show N8 (C7 k) (zr W d (.wQ (k+1) 101)++nc W d l) 0;rw[(vE m).1];exact C6
   .have:=uA (EO hW hd m n (nc W d l)) r;rw[sx,sx,aw];show N8 _ _ (0+_);rw[fe];exact this
  |_=>cases q
 .rw [if_neg q]at h;have h:(if qX k x=true then aC else uj k l)=ab sl:=n5.symm.trans h;by_cases i:qX k x=true
  .rw [if_pos i]at h;cases h
  .rw [if_neg i]at h;refine PX (p (λy g=>hi y (.tail _ g)) h) λpre a b e e2 s t=>⟨x::pre,a,b,by rw[e];rfl,e2,?_,?_⟩
   .have:=uA (Vn hW hd (hi x (.head _)) (fG _▸q) (nc W d l)) s;rw[sx,sx,aw];exact this
   .have:=uA (EO hW hd (hi x (.head _)) (fG _▸i) (nc W d l)) t;rw[sx,sx,aw,Wp];exact this
end
section
open PySem.W PySem.Spec PySem.Calls PyProof.Rows
noncomputable def mu(a:Q1)(vs:List Q1):List (Q1)×Q1:=vs.rec (motive:=λz=>Q1->List (Q1)×Q1) (λa=>([],a)) (λv z b a=>let r:=b v;(a::r.1,r.2)) a
noncomputable def CG(x:mF):Bool:=x.rec (λz z=>false) (λz z=>true) false λz z=>false
noncomputable def xK(W:S2)(d:Lx2)(a:Q1)(l:List mF):List Q1:=l.rec (motive:=λz=>Q1->List Q1) (λa=>[a]) (λx z b a=>
 bif CG x then (mu a (CW W d x)).1++b (mu a (CW W d x)).2 else b (a++zr W d x)) a
theorem G0{x:mF}{l:List mF}{a:Q1}:xK W d a (x::l)=bif CG x then (mu a (CW W d x)).1++xK W d (mu a (CW W d x)).2 l else xK W d (a++zr W d x) l:=rfl
noncomputable def wR(p:Q1):Q1:=if p.head?=ab 110 then [p.getD 1 0-48]else []
theorem Ld{W:S2}{d:Lx2}:∀(l:List mF) (a:Q1),xK W d a l≠[]:=iX (λa=>j6 _ _) λx l b a=>by
 rw[G0];cases CG x with
 |true=>exact gR _ (b _)
 |false=>exact b _
theorem Jc(P:List Q1)(d:P≠[]):∀(vs:List Q1) (a:Q1) (X:Q1),mq P=(mu a vs).2++X->mq ((mu a vs).1++P)=a++((vs.map (32::·)).flatten++X):=iX (λa X h=>h) λv vs b a X h=>by
 have c:=b v X h;show mq (a::((mu v vs).1++P))=_;refine GU (jY (gR (mu v vs).1 d)) λp r e=>?_;rw[e]at c ⊢;show a++32::mq (p::r)=_;rw[c];simp
theorem yO{Q:Q1->Prop}:∀(vs:List Q1) (a:Q1),Q a->(∀v∈vs,Q v)->(∀v∈(mu a vs).1,Q v)/\Q (mu a vs).2:=iX (λa h z=>⟨λz h=>(nomatch h),h⟩) λv vs d a h c=>by
 refine dS (d v (c v (.head _)) λx b=>c x (.tail _ b)) λe f=>⟨λx b=>?_,f⟩;rcases aX.mp b with rfl|b
 .exact h
 .exact e x b
theorem QU:∀(vs:List Q1) (a:Q1),(mu a vs).1.flatMap wR++wR (mu a vs).2=wR a++vs.flatMap wR:=iX (λa=>(cg _).symm) λv vs b a=>by
 show wR a++(mu v vs).1.flatMap wR++wR (mu v vs).2=wR a++(wR v++vs.flatMap wR);rw[cm,(b v)]
def PJ(p:Q1):Prop:=32∉p/\2<=p.length/\(p.head?=ab 110->48<=p.getD 1 0/\p.getD 1 0<=57)
theorem TU{a:Q1}(h:2<=a.length)(b:Q1):wR (a++b)=wR a:=by
 cases a with
 |nil=>cases h
 |cons x a=>cases a with
  |nil=>cases h with|step h=>cases h
  |cons z y=>rfl
section
variable {W:S2}{d:Lx2}(hW:zB W)(hd:UD (UW W) d)
include hW hd
theorem PL{x:mF}(h:lq x=true)(f:CG x=false):32∉zr W d x:=by
 cases x with
 |wQ q c=>refine ka (vE (W:=W) (d:=d) h) λe a b=>?_;rw[e];simp;exact(bW Ru7) a b
 |gt=>rw[G5];decide
 |jO q c=>refine ka (xT (W:=W) (d:=d) h) λe a b=>?_;rw[e];simp;exact(bW Ru7) a b
 |ql z y=>cases f
theorem YR{x:mF}(h:lq x=true):∀v∈CW W d x,PJ v:=λv c=>by
 refine sE (ub hW hd h v c) λa z b z=>⟨a,b,λg=>?_⟩;cases x with
 |ql ds as=>
  have h:=(rh h).2;rcases ao.mp c with c|c
  .refine cY (bp.mp c) λy z e=>?_;subst e;cases g
  .refine cY (bp.mp c) λy i e=>?_;subst e;have f:=(h.2 y i).1;delta PF;rw[zw f];show 48<=48+y.1/\48+y.1<=57;exact(bO 0x39290302940030294302907930d) f
 |_=>cases c
theorem LK:∀(l:List mF) (a:Q1),(∀x∈l,lq x=true)->mq (xK W d a l)=a++nc W d l:=iX (λa z=>(cg _).symm) λx l b a h=>by
 have c:∀y∈l,lq y=true:=λy e=>h y (.tail _ e);rw[G0];cases q:CG x with
 |true=>
  cases x with
  |ql ds as=>
   show mq ((mu a (CW W d (.ql ds as))).1++_)=_;rw[(Jc (xK W d (mu a (CW W d (.ql ds as))).2 l) (Ld l _) (CW W d (.ql ds as)) a (nc W d l) (b _ c)),sx,FB hW hd (h _ (.head _))]
  |_=>cases q
 |false=>exact(b _ c).trans (cm ..)
theorem I1:∀(l:List mF) (b:Q1),(∀x∈l,lq x=true)->PJ b->∀p∈xK W d b l,PJ p:=iX (λb z e p a=>by rw (config:={}) [aB.mp a];exact e) λx l f b h e p a=>by
 have g:∀y∈l,lq y=true:=λy j=>h y (.tail _ j);rw[G0]at a;cases q:CG x with
 |true=>
  rw[q]at a;refine dS (yO (Q:=PJ) (CW W d x) b e λv k=>YR hW hd (h x (.head _)) v k) λm n=>?_;rcases ao.mp a with a|a
  .exact m p a
  .exact f _ g n p a
 |false=>
  rw[q]at a;refine f _ g ?_ p a;refine ka e λo i s=>⟨?_,by rw[aw];exact(bW 0x104230023d) i,?_⟩
  .intro c;rcases ao.mp c with c|c
   .exact o c
   .exact PL hW hd (h x (.head _)) q c
  .match b,i with
   |x::y::r,z=>exact s
theorem W9{x:mF}(h:lq x=true)(a:CG x=true):(CW W d x).flatMap wR=nA [x]:=by
 cases x with
 |ql ds as=>
  have b:=(rh h).2.2;clear h;show (ds.map (V3 W)++as.map (PF W d)).flatMap wR=as.map (·.1)++[];rw[nH,cg];have e1:(ds.map (V3 W)).flatMap wR=[]:=by
   rw[List.flatMap_eq_nil_iff];intro v c;refine cY (bp.mp c) λy w e=>?_;subst e;rfl
  rw[e1,ge];clear e1 a
  induction as with
  |nil=>rfl
  |cons y as f=>
   rw[bN,e8,f λz g=>b z (.tail _ g),bN];have:wR (PF W d y)=[y.1]:=by
    delta PF wR;rw[zw ((b y (.head _)).1)];simp
   rw[this];rfl
 |_=>cases a
theorem Tl:∀(l:List mF) (a:Q1),(∀x∈l,lq x=true)->2<=a.length->(xK W d a l).flatMap wR=wR a++nA l:=iX (λa w w=>rfl) λx l c a h b=>by
 have e:∀y∈l,lq y=true:=λy f=>h y (.tail _ f);rw[G0];cases q:CG x with
 |true=>
  refine dS (yO (Q:=λp=>2<=p.length) (CW W d x) a b λv g=>(ub hW hd (h x (.head _)) v g).2.2.1) λw i=>?_;show ((mu a (CW W d x)).1++_).flatMap wR=_;rw[nH,c _ e i,<-cm,QU,W9 hW hd (h x (.head _)) q,cm];cases x with
  |ql ds as=>exact congrArg (λz=>wR a++(z++nA l)) (cg _)
  |_=>cases q
 |false=>
  show (xK W d (a++zr W d x) l).flatMap wR=_;rw[c _ e (by rw[aw];exact(bW 0x104230023d) b),TU b];cases x with
  |ql ds as=>cases q
  |_=>rfl
end
def OF(h:k<10):cR C w A (.type "int") [.str (Ss [48+k])] [] [] (.int (k:Int)):=by
 refine⟨λF s vs us a b c Q E d=>?_⟩;refine b.e1 λf e=>c.e0 ?_;refine e.eS λz=>?_;rw[<-oY k h];exact KIN.call_num #v[(bO Sv8) h] (Int.lt_of_lt_of_le (rL.mpr h) #v[_]) (d _ F _ (Gr.j4 (C.bs a).bh _) (.int _ _))
def H3:∀ps:List Q1,ps.flatMap wR=(ps.filter λp=>decide (p.head?=ab 110)).map λp=>p.getD 1 0-48:=iX rfl λp ps a=>by
 rw[e8,a,fF];delta wR;by_cases q:p.head?=ab 110
 .rw [if_pos q,decide_eq_true q];rfl
 .rw [if_neg q,decide_eq_false q];rfl
def IT:∀ps,ps.length<=(mq ps).length+1:=iX (bG _) λp l=>l.rec (λz=>Ta ..) λq r z this=>by
 show _<=(p++32::mq (q::r)).length+1;simp only[aw,cq]at this ⊢;exact(dO 0x2614606602606d) this
def Fy{C:fv B}(P:dg w B)(X:Rm (n+3) A)(z:zB W)(hd:UD (UW W) d)(Y:k<5)(hi:∀x∈c6,lq x=true)(R:c6.length<=60)(hs:uj k c6=ab sl) :
 cR C w A (.ref 398) [.str (Ss (nc W d c6)),iT k] [] [] (mT (nA sl)):=by
 refine PX (E2 z hd hi hs) λpre S g e1 e2 f1 f2=>?_;have e:=MJ z hd hi;have M:∀x∈sl,lq x=true:=λx U=>hi x (by rw[e1];simp[U]);have o:∀x∈g,lq x=true:=λx U=>M x (by rw[e2];exact .tail _ U);have q:nc W d c6=nc W d pre++(nc W d sl++nc W d S):=by rw[e1,Hc,Hc,cm]
 have N:nc W d sl=mq (xK W d (C7 k) g):=by
  rw[LK z hd _ _ o,e2];show zr W d (.wQ (k+1) 101)++_=_;rw[(vE (M _ (by rw[e2];exact .head _))).1];rfl
 have G:=I1 z hd g (C7 k) o ⟨by simp;exact(bO 0x630294202926530e) Y,by show 2<=5;decide,λh=>by cases h⟩;have O:=Tl z hd g (C7 k) o (by show 2<=5;decide);rw[(show wR (C7 k)=[] from rfl),ge]at O;have Z:nA sl=nA g:=by rw[e2];rfl
 generalize hps:xK W d (C7 k) g=ps at *;refine⟨λF s vs us hP hv hu Q E hQ=>?_⟩;refine hv.e2 λv1 v2 r1 r2=>hu.e0 <|enter (K:=Tk.nil) [("page",.str (Ss (nc W d c6))),("k",iT k)] [v1,v2] [] [] P (C.bs hP) X rfl #v[] (cb rfl) rfl rfl (.cons r1 (.cons r2 .nil)) trivial kq λL s1 hL u=>j8 (t:=.str (Ss (([110]++[48+(k+1)])++[58,101]))) u ?_ (.inl rfl) rfl λF2 s2 u=>?_
 .exact bo (bo (bJ #v[]) (dD P (pL (k:=k) aF) bK.ty (xh (k:=k+1) #v[(bO Su1) Y])) (eO (by show 2<=10000000;decide))) (bJ #v[]) (eO (by show 4<=10000000;decide))
 rw[(show ([110]++[48+(k+1)])++[58,101]=[110,48+(k+1),58,101] from rfl)]at u;refine j8 (t:=.list (ps.map λp=>.str (Ss p))) u ?_ (.inl rfl) rfl λF3 s3 u=>?_
 .have H:(nc W d sl).length<=72000:=by rw[q]at e;simp at e;exact(lM 0x119405900104b0c380424d3c291d) R e
  refine cF (to:=.str (Ss (nc W d sl))) ?_ G7 (kj (aq (bJ (l:=[32]) #v[]) aK)) bK.bi ?_ rfl
  .have ec:lm (Ss (nc W d c6)) (ab ((nc W d pre).length:Int)) (ab (((nc W d pre).length+(nc W d sl).length:Nat):Int))=Ss (nc W d sl):=by
    rw[H0 #v[(bW 0x1040011940591d) H] (by rw[q];simp),q];congr 1;rw[S9,show (nc W d pre).length+(nc W d sl).length-(nc W d pre).length=(nc W d sl).length by exact(bW 0x101045211940591d) H,List.take_left]
   rw[<-ec];refine iA (Gw (by simp) f1) λr1 o1=>iA (Gw (by simp) f2) λr2 o2=>bf aF (iJ (g9 ?_) (g9 ?_) ct) (mj (by rw[cX,aJ];exact(bW 0x10000007900104b0c0d3c291d) R e))
   .exact cF aF Gu (kj (aq (bo (bJ (l:=[60]) #v[]) aF (eO (a:=[60]) (b:=[110,48+(k+1),58,101]) (by show 5<=10000000;decide))) aK)) bK.bi (CI o1) rfl
   .exact cF aF Gu (kj (aq (bo (bJ (l:=[60,47]) #v[]) aF (eO (a:=[60,47]) (b:=[110,48+(k+1),58,101]) (by show 6<=10000000;decide))) aK)) bK.bi (CI o2) rfl
  .have e4:(ps.map λp=>T.str (Ss p))=(i6 (Ss (nc W d sl)) (Ss [32])).map .str:=by rw[PM (hps▸Ld g _) (λp I=>(G p I).1) N.symm,aQ];rfl
   rw[e4];exact IN #v[_] (by rw[cX,aJ];exact(bO 0x1000000792304011940590d) H)
 have V:ps.length<=80000:=by have:=IT ps;rw[<-N]at this;rw[q]at e;simp at e;exact(xF 0x138805900104b0c4824384d260d3c291d) R this e
 have ef:mT (nA sl)=.list (((am ps.length).filter λi=>decide ((ps.getD i []).head?=ab 110)).map λi=>.int (((ps.getD i []).getD 1 0-48:Nat):Int)):=by
  have e3:nA sl=(ps.filter λp=>decide (p.head?=ab 110)).map λp=>p.getD 1 0-48:=by
   rw[Z,<-O,H3]
  show T.list ((nA sl).map iT)=_;rw[e3,aQ,<-rH ps [] (λp=>decide (p.head?=ab 110))];rfl
 refine fi u ?_ λv F' s' h' r=>hQ v F' s' h'.d6 r;rw[ef];refine mf (uB (n:=ps.length) (τ:=λi=>.str (Ss (ps.getD i []))) (ex:=[]) (f:=λi l=>dz "piece" (.str (Ss (ps.getD i []))) l) (p:=λi=>decide ((ps.getD i []).head?=ab 110))
  nf su (iC (aF rfl rfl) (jK ps [] (λp=>T.str (Ss p))▸iK X.1)) (λa ha=>nomatch ha) (HZ V) (λi hi=>kE (.inl rfl)) (λi=>j7 (.inl rfl)) (λi hi cells Lo D kn j=>?_) (λi hi I cells Lo D kn j=>?_) (λx=>rfl)) rfl
 .have I:ps.getD i []∈ps:=by rw[ar,ay hi];exact bV _
  refine ka (G _ I) λ_ J _=>?_;generalize ps.getD i []=p at J j
  match p,J,j with
  |x::y::r,_,j=>
   have e3:decide ((x::y::r).head?=ab 110)=decide (x=110):=by simp
   rw[e3];exact gW (aN (bf (bD j) bA (w4 (c:=x) (i:=((0:Nat):Int)) #v[_] (BN (gS (l:=x::y::r) (by simp) 0)))) (bJ (l:=[110]) #v[]) xm)
 .have hpm:ps.getD i []∈ps:=by rw[ar,ay hi];exact bV _
  refine ka (G _ hpm) λ_ J m=>?_;have m:=m (of_decide_eq_true I);generalize ps.getD i []=p at J m j
  match p,J,m,j with
  |x::y::r,_,m,j=>
   have m:48<=y/\y<=57:=m;have ey:Ss [48+(y-48)]=ch y:=by show _=(⟨#[y]⟩:bT);rw[show 48+(y-48)=y by exact(bO Sx1) m]
   refine i0 (jo P) (kj (aq (t:=.str (Ss [48+(y-48)])) ?_ aK)) bK.ty (OF (k:=y-48) #v[(bO Sx2) m]) rfl;rw[ey];exact bf (bD j) bA (w4 (c:=y) (i:=((1:Nat):Int)) #v[_] (BN (gS (l:=x::y::r) (by simp) 0)))
end
end Mine
namespace Mine
open PySem PySem.W
def OU(x y):0<=pS x y/\pS x y<=2:=by
 delta pS
 split
 .exact⟨by decide,by decide⟩
 .split<;>exact⟨by decide,by decide⟩
def G2(x y):0<=qY x y/\qY x y<=8:=by
 delta qY;have d:∀v∈rg (ro x y) 3,0<=v/\v<=8:=by
  have f:∀a b,0<=ro x y a b/\ro x y a b<=2:=λa b=>OU _ _;have g:∀i,∀v∈Bu (ro x y) i,0<=v/\v<=8:=λi v c=>by
   refine cY (bp.mp c) λq z k=>?_;subst k;have:=f (p1 i) (p1 q);have:=f (p2 i) (p2 q);exact(VK 0x8310434431043440337231310337c230300337c) (by assumption) this
  intro v c;have c:v∈(([ro x y 0 0+ro x y 1 1+ro x y 2 2]++Bu (ro x y) 0)++Bu (ro x y) 1)++Bu (ro x y) 2:=c;rcases ao.mp c with c|c
  .rcases ao.mp c with c|c
   .rcases ao.mp c with c|c
    .have:=f 0 0;have:=f 1 1;have:=f 2 2;rw[aB.mp c];exact(qbU 0x83210443210440337232320337c231310337c230300337c) (by assumption) (by assumption) this
    .exact g 0 v c
   .exact g 1 v c
  .exact g 2 v c
 have j:rg (ro x y) 3≠[]:=lp (lp (lp (j6 _ _) _) _) _;refine GU (jY j) λa r e=>?_;rw[e]at d ⊢;refine dS (vA r a) λh z=>?_;show 0<=r.foldl (λa b=>if b<a then b else a) a/\r.foldl (λa b=>if b<a then b else a) a<=8;rcases h with h|h
 .rw [h];exact d a (.head _)
 .exact d _ (.tail _ h)
def jQ(W:S2)(i j:Nat):Int:=if i<5/\j<5 then wm W i j else 9
def J9(W):mE (wm W)=mE (jQ W):=
 congrArg T.list (bL λi hi=>congrArg T.list (bL λj a=>by
  delta jQ;rw[if_pos ⟨c5.mp hi,c5.mp a⟩]))
def qT(W)(i j):0<=jQ W i j/\jQ W i j<10:=by
 delta jQ wm
 split
 .split
  .have:=G2 (W i) (W j);exact(sj 0xa30400337830300337c) this
  .split
   .have:=G2 (W j) (W i);exact(sj 0xa30400337830300337c) this
   .decide
 .decide
def A8(W)(i j):jQ W i j=jQ W j i:=by
 delta jQ wm;by_cases h:i<5/\j<5
 .rw [if_pos h,if_pos (show j<5/\i<5 from ⟨h.2,h.1⟩)];rcases pF i j with q|q|q
  .rw [if_neg (show ¬j<i by exact(bW 0x101601e) q),if_pos q,if_pos q]
  .subst q;rfl
  .rw [if_pos q,if_neg (show ¬i<j by exact(bW 0x101601e) q),if_pos q]
 .rw [if_neg h,if_neg (show ¬(j<5/\i<5) from λq=>h ⟨q.2,q.1⟩)]
def Hd(W)(i):jQ W i i=9:=by
 delta jQ wm
 split
 .rw [if_neg #v[bO 0x16],if_neg #v[bO 0x16]]
 .rfl
abbrev dE(W:S2)(b:Int)(i j:Nat):Bool:=decide (jQ W i j<=b)
abbrev EG(W:S2)(i j:Nat):Q1:=[48+(jQ W i j).toNat]
def oV(W:S2)(b:Int)(i j:Nat):List y5:=if dE W b i j then [([112+i],[112+j]++EG W i j),([80+j],[112+i]++EG W i j)]else []
def sU(W:S2)(b:Int)(i n:Nat):List y5:=n.rec [] λm a=>a++oV W b i (i+1+m)
def KM:sU W b i (m+1)=sU W b i m++oV W b i (i+1+m):=rfl
def dH(W:S2)(b:Int)(n:Nat):List y5:=n.rec [([112,113,114,115,116],[97,108,108])] λi a=>a++sU W b i (4-i)
def CM(W)(b)(i j):(oV W b i j).length<=2:=by delta oV;split<;>simp
def CZ(W)(b)(i):∀m,(sU W b i m).length<=2*m:=ig (ah _) λm a=>by
 have:=CM W b i (i+1+m);refine aA (dm aw) ?_;exact(dO 0x262a1040231d22a0d) a this
def xG(W)(b):∀i,(dH W b i).length<=1+8*i:=ig (ah _) λi a=>by
 have:=CZ W b i (4-i);refine aA (dm aw) ?_;exact(dO 0x268a134104024352a1d28a1340d) a this
def Gp(W:S2)(b:Int):Prop:=∀i j,i<j->j<5->decide (nK (W i) (W j) b<=b)=dE W b i j/\(dE W b i j=true->nK (W i) (W j) b=jQ W i j)
def Hq(f:Q1):Prop:=nK f (f++[45]) 0=2/\nK ([45]++f) f 0=2/\nK ([45,45]++f) (f++[61,61]) 8=8/\(Gx ([45]++f) f).2=[]
def A7(a:p<5)(b:k<10):[112+p]++[48+k]∈eQ:=by
 refine ag _ ?_;rw[dj];refine⟨112+p,?_,bp.mpr ⟨k,c5.mpr b,rfl⟩⟩;refine G9 a ?_ ?_ ?_ ?_ ?_<;>decide
def IY(W)(b)(hi:i<5)(d:j<5):∀c∈oV W b i j,c.1∈eQ/\c.2∈eQ:=by
 intro c a;have hd:=qT W i j;delta oV at a
 split at a
 .rcases aX.mp a with rfl|a
  .exact⟨sP hi,A7 d #v[(sj Sz9) hd]⟩
  .rw [aB.mp a];exact⟨vG d,A7 hi #v[(sj Sz9) hd]⟩
 .cases a
def Gl(W)(b):jC (dH W b 5):=by
 have d:∀i,i<5->∀m,i+1+m<=5->∀a∈sU W b i m,a.1∈eQ/\a.2∈eQ:=λi hi m=>by
  induction m with
  |zero=>intro z a h;cases h
  |succ m c=>
   intro e a h;rcases ao.mp h with h|h
   .exact c #v[(bW 0x53106405316064d) e] a h
   .exact IY W b hi #v[(bW 0x53106415316064d) e] a h
 have f:∀i,i<=5->∀a∈dH W b i,a.1∈eQ/\a.2∈eQ:=λi=>by
  induction i with
  |zero=>intro z a h;rw (config:={}) [aB.mp h];exact⟨by decide,by decide⟩
  |succ i c=>
   intro hi a h;rcases ao.mp h with h|h
   .exact c #v[(bO 0x53005306d) hi] a h
   .exact d i #v[(bO 0x53015306d) hi] _ #v[(bO 0x53043506405306d) hi] a h
 exact⟨f 5 (ah _),by have:=xG W b 5;exact(bO 0x3e83900538a1340d) this⟩
section
open PySem.Spec PySem.Calls PyProof.Rows
def ER{K:Tk}(x:gM X K)(y:Ev (St.pre B w X loc (K.bI M)) w A X.ax o to)(z:mD (St.pre B w X loc (K.bI M)) w A to name f j)
 (c:si (St.pre B w X loc (K.bI M)) w A pos X.ax args d ts ns ks) (C:bK B w f) (D:d5 B w K A f ((if j then [to]else [])++ts) ns ks R)
 (G:dp (.Call (.Attribute o name e) args d pos) X.ax=(do
  let m <-dp o X.ax
  ej e.atName
  let (f,first) <-fL [m] (ib m name pl)
  dB pos f first (dc pos (br args X.ax)) (bR pos (bk d X.ax)))):Qq B w X loc K M A (.Call (.Attribute o name e) args d pos) R:=by
 refine⟨λF s l Q E H=>gX (y.run F s l _ _ λv I J g r=>z.run I J v (l.gr g) r pl _ _ λL N g2=>?_) G⟩;have i:=(l.gr g).gr g2;refine dC c.plain (λh k=>C.ry h k) (c.run f L N i _ _ λvs us n O g3 P S=>⟨(i.gr g3).bs.keep,?_⟩);have b:=i.gr g3;have U:da w n (if j then [v]else []) (if j then [to]else []):=by
  cases j with
  |true=>exact .cons ((r.cC g2.le).cC g3.le) .nil
  |false=>exact .nil
 refine D.run n O _ us b.bs b.cV.1 (λa c=>⟨(b.apart a (ac _ c)).1,(b.apart a (ac _ c)).2.1⟩) (U.append P) S Q E λv t p V W q g4 Y u Z=>H v t p V W q (b.GN x g4 Y u) (((g.le.trans g2.le).trans g3.le).trans g4.le) Z
def Ig{f:Nat->M2->M2}{Ki:Nat->Tk}
 (ho:gM X (Ki 0)) (n:∀i,(Ki i).tk=(Ki 0).tk) (ok:j0 X.ax scope) (hn:ts.length<=be)
 (hi:∀F s,St B w X loc (Ki 0) F s->∀Q E,(∀(it:It w A) F' s',Gr F s F' s'->it.Ok F' s' s ts []->it.B2 target->it.gw=[]->Q (.ref it.I) s')->aP (aO pw w) A first (λxv W=>aP (aO pw w) A (mM xv) Q E W) E s)
 (ht:∀i t,ts[i]?=ab t->∀cells L s0 F0,zu B w A ⟨bY scope cells L X.ax,s0,F0,(Ki 0).tk,ownOf scope⟩ target t (f i))
 (J:∀i y u,(ci scope loc).lookup y=ab u->(f i (ci scope loc)).lookup y=ab u)
 (Y:∀i,i<ts.length->∀F s cells N M,gM ⟨bY scope cells N X.ax,s,F,(Ki 0).tk,ownOf scope⟩ (Ki i)->Qq B w ⟨bY scope cells N X.ax,s,F,(Ki 0).tk,ownOf scope⟩ (f i (ci scope loc)) (Ki i) M A vx (λK' t=>K'=Ki (i+1)/\t=τ i))
 (hs:∀x,bw iter X.ax x=cD x) :
 UE B w X loc (Ki 0) A (λR=>dk (.ListComp vx [⟨target,iter,[],0⟩] scope pos) scope X.ax pos' (qC []) false first R) (λK' t=>∃D,K'=(Ki ts.length).bI (Tk.cu w D ((am ts.length).map τ))/\t=.val (.ref D)):=by
 refine⟨λF s H R Q E Z=>?_⟩;have r:=H.apart;refine rY (τ:=λi _=>ts.getD i .none) (C:=St.pre B w X loc (Ki 0)) (C':=XJ B) (e:=.ListComp vx [⟨target,iter,[],0⟩] scope pos) (ifs:=[]) (bj:=[]) (ts:=ts) (ex:=[]) (fj:=(Ki 0).tk) (f:=λi _=>f i) (p:=λ_=>true) {cls:=.type "list",data:=.seq #[]} (λD i=>(Ki i).and (Tk.cu w D ((am i).map τ)))
  w9 rfl H nf ok (λa c=>⟨(r a c).1,(r a c).2.1,(r a c).2.2.2⟩) (λF1 W _ h=>h) (λD i=>by show (Ki i).tk++[D]=_;rw[n]) ?hK0 (λQ E k=>hi F s H Q E λit F' s' g io l gw=>k it F' s' g io l gw (It.ZF io.n)) kq (λi _ hi=>ht i _ (gS hi _)) (λi _=>J i) (λi _ hi cells L D kn on=>je) ?O ?P ?Z ?hnew hs
 case hK0=>exact λF1 W s2 D g1 g2 e _=>⟨Tk.gr (Tk.gr H.cV g1 (λ_ _ h=>nomatch h)) g2 (λ_ _ h=>nomatch h),[],0,e,.nil⟩
 case P=>intro i D hp;cases hp
 case hnew=>exact λs Q E h=>cE h
 case O=>
  intro i _ S _ cells N D L F' s' _ I hL hS';have z:∀j,D∉(Ki j).tk:=λj q=>by rw[n]at q;exact absurd (r D q).2.1 (aV.mpr I)
  have hsep:∀j,∀b∈(Ki j).tk,b∉((Tk.cu w D ((am i).map τ)).and L).tk:=λj b d q=>by
   rcases ao.mp q with q|q
   .exact z j (aB.mp q▸d)
   .exact hL b q (ac _ (n j▸d))
  have hS3:St B w ⟨bY scope cells N X.ax,s,F,(Ki 0).tk,ownOf scope⟩ (f i (ci scope loc)) ((Ki i).bI ((Tk.cu w D ((am i).map τ)).and L)) F' s':=
   hS'.nM (λa c=>by
    rcases ao.mp c with c|c
    .exact ac _ (ac _ c)
    .rcases ao.mp c with c|c
     .exact ac _ (ag _ c)
     .exact ag _ c) λh=>⟨h.1.1,⟨h.1.2,h.2⟩,hsep i⟩
  refine aa ((Y i S F s _ _ _ λa c=>.inr (n i▸c)).run F' s' hS3 _ _ λvv t K' F3 s3 hR v le r3=>?_);refine dS hR λhq hq2=>?_;subst hq;subst hq2;refine m8 v.cV.2.1.1 λvs m e1 r1=>aa (gp (items:=vs.toArray) ⟨m,e1⟩ (λh' hl G=>au ⟨F3,?_⟩) ?_)
  .refine iA hl λn' e2=>?_;have U:∀b o,F3 b=ab o->h'.get? b=ab o:=λb o e=>(G.2 b λq=>by rw[q,(v.apart _ (ag _ (.head _))).1]at e;cases e).trans (v.bs.bh b o e);refine St.uv (K':=((Ki (i+1)).and (Tk.cu w D ((am (i+1)).map τ))).and L) v G (.inl I) (ag _ (.head _))
    ⟨⟨(Ki (i+1)).st v.cV.1 (Le.refl _) U (λb d o e=>(G.2 b λq=>z _ (q▸d)).trans e) (λ_ _ _ e=>e) (ah _),vs++[vv],n',?_,?_⟩,
     L.st v.cV.2.1.2 (Le.refl _) U (λb d o e=>(G.2 b λq=>hL b d (ag _ (by rw[q];exact .head _))).trans e) (λ_ _ _ e=>e) (ah _)⟩ λb d=>?_
   .show h'.get? D=_;rw[e2];simp
   .rw [dv,aU];exact r1.append (.cons r3 .nil)
   .rcases ao.mp d with d|d
    .rcases ao.mp d with d|d
     .exact ac _ d
     .exact ag _ (ac _ d)
    .exact ag _ (ag _ d)
  .have e3:=r1.length;rw[af,aZ]at e3;simp only[aL];exact YN hn S e3
 case Z=>
  intro D Cl F' s' g hI hap' I V hDC hCn hm;have z:∀b∈(Ki ts.length).tk,b∉(Tk.cu w D ((am ts.length).map τ)).tk:=λb d q=>by
   rw[aB.mp q,n]at d;exact absurd (r D d).2.1 (aV.mpr I)
  obtain⟨h1,h2⟩:=H.mK (K₁:=Ki 0) (K₂:=(Ki ts.length).bI (Tk.cu w D ((am ts.length).map τ))) ho g (λ_ h=>h) ⟨hI.1,hI.2,z⟩ λa c=>by
   rcases ao.mp c with c|c
   .exact .inl (n _▸c)
   .rw (config:={}) [aB.mp c];have:=hap' D (ag _ (.head _));exact .inr ⟨this.1,this.2,I⟩
  refine Z D Cl _ _ F' s' ⟨D,rfl,rfl⟩ h2 h1 g.le (.val _) V (λq=>?_) hCn hm;rcases ao.mp q with q|q
  .rw [n]at q;exact absurd (r Cl q).2.1 (aV.mpr V)
  .exact hDC (aB.mp q).symm
end
def xH(a c)(nm):fR (a++c) nm=fR a nm++fR c nm:=by delta fR;rw[dP,aU]
def xP(W:S2)(i j:Nat):Q1:=[112+j,48+(jQ W j i).toNat]
noncomputable def qL(Y:Nat->List Q1)(i a c:Nat):List Q1:=(bif a==i then Y c else [])++bif c==i then Y a else []
def PB(W:S2)(b:Int)(i j:Nat):List Q1:=bif dE W b i j then [xP W i j]else []
def Lv{a i:Nat}(k:Nat):(([k+a]:Q1)==[k+i])=(a==i):=nq.mpr (beq_iff_eq.trans (Iff.trans ⟨λe=>uQ (cA e).1,λe=>e▸rfl⟩ beq_iff_eq.symm))
def DM(d:a<5)(e:c<5)(hi:i<5):fR (oV W b a c) [80+i]=qL (PB W b i) i a c:=by
 have f:∀x y,dE W b x y=dE W b y x:=λx y=>by delta dE;rw[A8]
 have key:∀z:Bool,fR (if z=true then [([112+a],[112+c]++EG W a c),([80+c],[112+a]++EG W a c)]else []) [80+i]=(bif a==i then bif z then [[112+c]++EG W a c]else []else [])++bif c==i then bif z then [[112+a]++EG W a c]else []else []:=λz=>by
  cases z with
  |false=>cases a==i<;>cases c==i<;>rfl
  |true=>
   delta fR;rw[if_pos rfl,fF,fF,Av d,wo e,wo hi,Lv,Lv];cases a==i<;>cases c==i<;>rfl
 refine(key _).trans <|congr (congrArg _ ?_) ?_
 .cases q:a==i with
  |false=>rfl
  |true=>rw[kN q,show EG W i c=[48+(jQ W c i).toNat] by rw[A8]];rfl
 .cases q:c==i with
  |false=>rfl
  |true=>rw[kN q,f];rfl
noncomputable def gIn(G:Nat->Nat->List Q1)(a m:Nat):List Q1:=lT [] (λm r=>r++G a (a+1+m)) m
noncomputable def gU(G:Nat->Nat->List Q1)(n:Nat):List Q1:=lT [] (λa r=>r++gIn G a (4-a)) n
def Uy(c:a<5)(hi:i<5)(m:Nat):a+m<5->fR (sU W b a m) [80+i]=gIn (qL (PB W b i) i) a m:=by
 induction m with
 |zero=>exact λz=>rfl
 |succ m d=>
  intro h;show fR (sU W b a m++oV W b a (a+1+m)) _=gIn _ a m++_;rw[xH,d (Nat.lt_of_succ_lt h),DM c (DR a m▸h) hi]
def YU(hi:i<5)(n:Nat):n<=5->fR (dH W b n) [80+i]=gU (qL (PB W b i) i) n:=by
 induction n with
 |zero=>exact λz=>G9 hi #v[] #v[] #v[] #v[] #v[]
 |succ n a=>
  intro h;show fR (dH W b n++sU W b n (4-n)) _=gU _ n++_;rw[xH,a (c9 h),Uy h hi _ (by rw[Nat.add_sub_cancel' (gb h)];decide)]
def gU5(G:Nat->Nat->List Q1):gU G 5=G 0 1++(G 0 2++(G 0 3++(G 0 4++(G 1 2++(G 1 3++(G 1 4++(G 2 3++(G 2 4++G 3 4)))))))):=by
 show ((((([]++(((([]++G 0 1)++G 0 2)++G 0 3)++G 0 4))++((([]++G 1 2)++G 1 3)++G 1 4))++(([]++G 2 3)++G 2 4))++([]++G 3 4))++[])=_;simp only[cm,ge,cg]
def VG(hi:i<5):∀Y:Nat->List Q1,Y i=[]->gU (qL Y i) 5=[0,1,2,3,4].flatMap Y:=by
 refine G9 hi ?_ ?_ ?_ ?_ ?_<;>exact λY h=>by rw[gU5];simp[qL,h]
def MH(f:Nat->Bool)(X:S2)(l:Q1):(l.filter f).map X=l.flatMap λj=>bif f j then [X j]else []:=by
 induction l with
 |nil=>rfl
 |cons a l b=>
  rw[fF,e8,<-b];cases f a<;>rfl
def CT(a:b<=4)(hi:i<5):fR (dH W b 5) [80+i]=(lx (dE W b) i).map (xP W i):=
 (YU hi 5 (ah 5)).trans ((VG hi _ (by delta PB;rw[show dE W b i i=false by delta dE;rw[Hd];exact decide_eq_false #v[(sj 0x93364303c) a]];rfl)).trans (MH (dE W b i) (xP W i) [0,1,2,3,4]).symm)
def P8(hi:i<5)(a:j<5):[112+j]++jr (UW W) (jQ W) [2000+10*j+i]=xP W i j:=by
 rw[FA (aT a #v[_]) (aT hi #v[_])];rfl
def Rc(c:b<=4):Kw W (jQ W) (dE W b) (dH W b 5):=by
 refine⟨Gl W b,λi hi=>?_⟩;rw[CT c hi];refine bL λj d=>?_;have a:j<5:=by
  have:=(c3.mp d).1;simp at this;exact(bO Sv4) this
 exact(P8 hi a).symm
def N6(W:S2)(b:Int)(i:Nat):T:=match lx (dE W b) i with
 | []=>.none
 |j::z=>.str (Ss (xP W i j))
def J2(a:List y5)(nm:Q1):nL a nm=match fR a nm with
 | []=>.none
 |x::z=>.str (Ss x):=by
 delta nL fR
 induction a with
 |nil=>rfl
 |cons b a c=>
  rw[dQ,fF];cases gm b.1==gm nm with
  |true=>rfl
  |false=>exact c
def EA(a:b<=4)(hi:i<5):nL (dH W b 5) [80+i]=N6 W b i:=by
 rw[J2,CT a hi];delta N6;cases lx (dE W b) i<;>rfl
section
open PySem.Spec PySem.Calls PyProof.Rows
def ve(n)(b:Rm (k+1) A)(c:n<=49)(a:T.ok n t=true):mz C w A (cQ .NotEq) t t (.bool false):=by
 have h:=LJ (C:=C) (w:=w) n b c a a;rw[qc5 _ (LI n t a).1]at h;exact h
def PN:(eQ.all λl=>qh (Ss l))=true:=by decide +kernel
def te(h:l∈eQ):qh (Ss l)=true:=bg.mp PN l h
def Fa(d:jC b):T.ok 2 (.list (b.map kY))=true:=by
 show (b.map kY).all (T.ok 1)=true;rw[wy,bg];intro a c;refine dS (d.1 a c) λe f=>?_;show (qh (Ss a.1)&&(qh (Ss a.2)&&true))=true;rw[te e,te f];rfl
def X0(W)(b)(i):T.ok 0 (N6 W b i)=true:=by
 delta N6;cases q:lx (dE W b) i with
 |nil=>rfl
 |cons j l=>
  have c:j∈lx (dE W b) i:=by rw[q];exact .head _
  have a:j<5:=by
   have:=(c3.mp c).1;simp at this;exact(bO Sv4) this
  exact te (A7 a (by have:=qT W j i;exact(sj Sz9) this))
def Q5{K:Tk}(f:bU K K' (Tk.cu w a ts) L'):mD (St.pre B w X loc K) w A (.val (.ref a)) "clear" (.builtin "list.clear") true:=Df f AK PySem.F.type_list_clear
def KI{K:Tk}(f:bU K K' (Tk.cu w a ts) (Tk.cu w a []))(g:ts.length<=be):d5 B w K A (.builtin "list.clear") [.val (.ref a)] [] [] (λb u=>b=K'/\u=.none):=by
 refine⟨λF s vs p bs hi c h i Q E j=>?_⟩;refine h.e1 λq k=>i.e0 ?_;refine k.eV ?_;refine m8 (lg f hi) λxs n e rs=>?_;have d:xs.toArray.size<=be:=by rw[aL,rs.length];exact g
 refine i5 AK ⟨_,e,rfl⟩ PySem.F.entry_list_clear (PySem.F.args_list_clear_1 _) (AutoSeq1.list_clear_list_0 a xs.toArray n d) ⟨e,?_⟩;refine ka (oM (ah _) f bs hi c (bB s.heap a _) (lw e λz=>#[]) .nil) λl m o=>j _ _ _ _ _ ⟨rfl,rfl⟩ l m o .none
def Jk{C:fv B}(n:Ev C w A ax o to)(p:mD C w A to name f d)
 (i:si C w A pos ax args [] ts [] []) (q:bK B w f) (t:uY C w A f ((if d then [to]else [])++ts) us)
 (u:dp (.Call (.Attribute o name b) args [] pos) ax=(do
  let j <-dp o ax
  ej b.atName
  let (f,first) <-fL [j] (ib j name pl)
  dB pos f first (dc pos (br args ax)) (bR pos (bk [] ax)))):JU C w A ax (.Call (.Attribute o name b) args [] pos) us:=by
 refine⟨λF s e Q E x=>gX (n.run F s e _ _ λv y z g r=>p.run y z v (C.st e g) r pl _ _ λD G g2=>?_) u⟩;have c:=C.st (C.st e g) g2;refine dC i.plain (λh k=>q.ry h k) (i.run f D G c _ _ λvs P l H g3 I J=>⟨(C.bs (C.st c g3)).keep,?_⟩);have L:da w l (if d then [v]else []) (if d then [to]else []):=by
  cases d with
  |true=>exact .cons ((r.cC g2.le).cC g3.le) .nil
  |false=>exact .nil
 refine J.e0 <|t.run l H _ (C.st c g3) (L.append I) Q E λa M N g4 O m=>x a M N (((g.trans g2).trans g3).trans g4) O (aA (aA (aA g.size g2.size) g3.size) m)
end
end Mine
namespace Mine
open PySem
def BV{a:Type}{f:a->a->Bool}(b:∀{x y},f x y=true->x=y):∀{l m},ZX f l m=true->l=m:=@gx _ _ (@gx _ _ (λz=>rfl) λz z z h=>nomatch h) λx l c=>@gx _ _ (λh=>nomatch h) λy m z h=>by
 rw[b (ba h).1,c (ba h).2]
def Po{l m}:eqN l m=true->l=m:=BV nF.mp
def Hy{l m}:eqL l m=true->l=m:=BV fun {x y} h=>Prod.ext (nF.mp (ba h).1) (nF.mp (ba h).2)
def PS:∀{x y:mF},XT x y=true->x=y
 | .wQ q c,.wQ b e,h=>by delta XT at h;simp only[bc,nF]at h;rw[h.1,h.2]
 | .ql d a,.ql f g,h=>by delta XT at h;rw[bc]at h;rw[Hy h.1,Hy h.2]
 | .gt,.gt,_=>rfl
 | .jO q c,.jO b e,h=>by delta XT at h;simp only[bc,nF]at h;rw[h.1,h.2]
 | .wQ _ _,.ql _ _,h | .wQ _ _,.gt,h | .wQ _ _,.jO _ _,h | .ql _ _,.wQ _ _,h | .ql _ _,.gt,h | .ql _ _,.jO _ _,h | .gt,.wQ _ _,h | .gt,.ql _ _,h | .gt,.jO _ _,h | .jO _ _,.wQ _ _,h | .jO _ _,.ql _ _,h | .jO _ _,.gt,h=>by cases h
def Lz{l m}:X4 l m=true->l=m:=BV PS
def pW(ok:(cZ S u c a).ok=true)(wk:y7 S.aD S.pm)(f:∀x∈S.ord,x<5)(g:S.ord.Nodup):mh (cZ S u c a)/\(cZ S u c a).ord=S.ord/\(cZ S u c a).c6.length=S.c6.length+3/\S.ok=true/\S.c6.length<=100:=by
 refine dS (Xn ok) λi j=>?_;refine j60 j λzs m e l n o h=>?_;refine dS (Bb h wk) λk z=>?_;have b:(cZ S u c a).ord=S.ord:=by rw[h.c6]
 have d:(cZ S u c a).c6.length=S.c6.length+3:=by rw[h.c6,aw];rfl
 exact⟨⟨k,b▸f,b▸g,#v[(bW 0x23033140f) d]⟩,b,d,i,h.VH⟩
def YA:y7 S0.aD S0.pm:=⟨by decide,(λy b=>.inl (by simpa[S0] using b)),(λu a=>by (first|obtain rfl:=a.cV|obtain⟨z,rfl⟩:=a.cV|obtain rfl:=a.nw|cases a)),iS,by decide,by decide⟩
def ok1:(cZ S0 5 114 []).ok=true:=by decide +kernel
def R4:mh (cZ S0 5 114 []):=(pW ok1 YA (λx h=>by cases h) iS).1
def Uo(tie):mI tie=[0,1,2,3,4].foldl (mJ tie 5) (cZ S0 5 114 []):=rfl
structure R9(tie:Lx1):Prop where
 Oc:(mI tie).ok=true
 g2:mh (mI tie)
 o2:(mI tie).ord=kr tie 5
 Ys:(cZ (mI tie) 5 122 (kG (mI tie).ord)).ok=true
 g3:mh (cZ (mI tie) 5 122 (kG (mI tie).ord))
 l3:(cZ (mI tie) 5 122 (kG (mI tie).ord)).c6.length=(mI tie).c6.length+3
 ok4:(i3 (cZ (mI tie) 5 122 (kG (mI tie).ord)) 5 122).ok=true
 g4:mh (i3 (cZ (mI tie) 5 122 (kG (mI tie).ord)) 5 122)
 ok5:(UY tie).ok=true
 c6:(UY tie).c6=mv tie (kr tie 5)
 itk:∀x∈mv tie (kr tie 5),lq x=true
 len:(mv tie (kr tie 5)).length<=60
def XA(h:Fd tie=true):R9 tie:=by
 delta Fd at h;simp only[bc,vy,bg]at h;obtain⟨⟨⟨⟨f,b⟩,a⟩,g⟩,i⟩:=h;have b:=Po b;have a:=Lz a;have j:(i3 (i3 (cZ (mI tie) 5 122 (kG (mI tie).ord)) 5 122) 5 114).ok=true:=f;have c:=(SB j).1;have d:=(SB c).1;have e:=(Xn d).1;have g2:mh (mI tie):=by
  rw[Uo]at e ⊢;exact(r9 (tc tie 5) (uq tie 5) e R4).1
 refine sE (pW d g2.wk g2.o5 g2.nd) λg3 o3 l3 z=>ka (ux c g3) λg4 o4 z=>ka (ux j g4) λk o5 z=>?_;rw[b]at a;rw[a]at g i;exact⟨e,g2,(o5.trans (o4.trans o3))▸b,d,g3,l3,c,g4,f,a,g,i⟩
def Qs:∀k,k<5->([0,1,2,3,4]:Q1)[k]?=ab k:=by decide
def OH(h:R9 tie):∃a fl,cZ S0 5 114 []=a/\fl=5/\mh a/\a.ord=[]/\a.c6.length=3/\mI tie=[0,1,2,3,4].foldl (mJ tie fl) a/\([0,1,2,3,4].foldl (mJ tie fl) a).ok=true:=
 ⟨_,5,rfl,rfl,R4,rfl,rfl,rfl,h.Oc⟩
def MM:∀p,p<5->∀k,k<10->(kY ([80+p],[48+k])).toD.shown.length<=20:=by decide +kernel
def wj(a:List y5):(T.list (a.map kY)).toD.showable=true:=by
 rw[mc,N2]
 induction a with
 |nil=>rfl
 |cons b a c=>exact(congrArg (N2 (kY b).toD&&·) c).trans rfl
def C8(ts:List bT):∀k a,(∀t∈ts,t.length<=20)->(textFrom k a ts).length<=a.length+22*ts.length:=by
 induction ts with
 |nil=>exact λk a z=>ah _
 |cons t r b=>
  intro k a h;have c:((if k > 0 then ", " else "" : String):bT).length<=2:=by split<;>decide
  refine aA (b (k+1) (a++(if k > 0 then ", " else "" : String)++t) λx d=>h x (.tail _ d)) ?_;rw[JA,JA,cq];exact(xF 0x260016c14002338d142948d20016c483814440d) (ah _) (h t (.head _)) c
def Bx(l:List PyData):N3 l=l.map Tb:=by
 induction l with
 |nil=>rfl
 |cons a l b=>exact congrArg (a.shown::·) b
def Mo(e:∀x∈ord,x<5)(b:ord.length<=5):(T.list ((my ord).map kY)).toD.shown.length<=200:=by
 rw[mc];show (textFrom 0 "[" (N3 (((my ord).map kY).map T.toD)) ++ "]").length<=200;rw[Bx,aQ,aQ,JA];have c:=C8 ((my ord).map (Tb∘T.toD∘kY)) 0 "[" λt f=>by
  refine cY (bp.mp f) λj d a=>?_;subst a;refine cY (bp.mp d) λy g a=>?_;subst a;refine ka (xt g) λh z i=>MM _ (e _ h) _ #v[(bW 0xa30110340e531d) b i]
 rw[af,BF]at c;exact YG b c rfl rfl
def Py(ord)(f:ord.length=5):my ord=(am 5).map λk=>(([80+ord.getD k 0],[48+k]):y5):=by
 match ord,f with
 | [a,b,c,d,e],z=>rfl
section
open PySem.W PySem.Spec PySem.Calls PyProof.Rows
def VB(h:Ev C w A ax a t)(d:Tr w A t true)(k:Ev C w A ax (.BoolOp .And (b::bj) pos) u):Ev C w A ax (.BoolOp .And (a::b::bj) pos) u:=
 ⟨λF s c Q E e=>BoolOp_and (h.run F s c _ _ λv f i g r=>d.run C f i v (C.st c g) r _ _ λj l g2=>k.run j l (C.st (C.st c g) g2) Q E λv m n g3 o=>e v m n ((g.trans g2).trans g3) o)⟩
def Iq{K:Tk}(h:vc B w X loc K A pos d R)(e:∀K' ts,R K' ts->ts.length<=be):n8 B w X loc K A (.List d pos) (λK' t=>∃ts,R K' ts/\t=.list ts):=by
 refine⟨λF s f Q E i=>?_⟩;refine FR (h.run F s f _ _ λvs ts b k l c j a le r=>⟨by rw[r.length];exact e b ts c,?_⟩);have bh:=a.bs.bh;have g:=lk (o:=ca "list" vs.toArray 0) bh rfl;exact i _ _ b _ _ ⟨ts,c,rfl⟩ j (a.gr g) (le.trans g.le) (.list dG (r.cC (ee (c8 bh (ah _)))))
noncomputable def oR:Q1:=[118,117,116,115,114,113,112]
noncomputable def Od:Q1:=[7,6,4,3,2,1,0]
def Bl(ord:Q1)(i:Nat):Nat:=if i<2 then oR.getD i 0 else 48+uR (6-i) ord
def Td:∀i,i<7->[oR.getD i 0]∈eQ:=by decide
def Rb:∀i,i<7->∀j,j<7->Od.getD i 0=Od.getD j 0->i=j:=by decide
def Lg:∀i,i<7->Od.getD i 0<=8:=by decide
def LH(b:zB W)(ord):iy (UW W) ((kG ord).map (Cd W d))=oT (λi=>i7 (jJ (UW W) (Od.getD i 0,[116]))) (λi=>.str (Ss (jr (UW W) d [Bl ord i]))) (λz=>true) 7:=by
 rw[yc λi j hi a e=>Rb i hi j a (JV b (Lg i hi) (Lg j a) e)];rfl
def Ji(W)(hi:i<7) :
 (((am 5).map λp=>(ch (112+p),T.str (Ss (UW W p)))).lookup (ch (oR.getD i 0))=aC/\T.str (Ss (UW W (Od.getD i 0)))=.str (Ss [oR.getD i 0]))\/((am 5).map λp=>(ch (112+p),T.str (Ss (UW W p)))).lookup (ch (oR.getD i 0))=ab (.str (Ss (UW W (Od.getD i 0)))):=by
 refine lt7 hi (.inl ⟨rfl,rfl⟩) (.inl ⟨rfl,rfl⟩) (.inr rfl) (.inr rfl) (.inr rfl) (.inr rfl) (.inr rfl)
def Xq:∀i,i<2->gm [oR.getD i 0]=[oR.getD i 0]:=by
 intro i hi;refine lt2 hi ?_ ?_<;>kernel_rfl
def NE(d:∀x∈ord,x<5)(hi:i<2):nL (my ord) [oR.getD i 0]=.none:=by
 delta nL;have e:(my ord).find? (λb=>gm b.1==gm [oR.getD i 0])=aC:=by
  rw[oj];intro b c;refine cY (bp.mp c) λy f g=>?_;subst g;refine ka (xt f) λh z z=>?_;have a:=d _ h;rw[Xq i hi,wo a];intro q;have q:=(cA (beq_iff_eq.mp q)).1;exact lt2 (P:=λi=>112+y.1≠oR.getD i 0) hi (λq=>absurd (uQ (show 112+y.1=112+6 from q)) (cw (c4 a))) (λq=>absurd (uQ (show 112+y.1=112+5 from q)) (cw a)) q
 rw[e]
def Kv(e:∀x∈ord,x<5)(a:∀p,p<5->p∈ord)(f:ord.length<=5)(hi:i<7)(c:¬i<2):nL (my ord) [oR.getD i 0]=.str (Ss (jr (UW W) d [Bl ord i])):=by
 have b:6-i<5:=#v[(bO 0x530635123016c730e) hi c];have g:oR.getD i 0=112+(6-i):=lt7 (P:=λi=>¬i<2->oR.getD i 0=112+(6-i)) hi (λh=>absurd #v[_] h) (λh=>absurd #v[_] h) (λz=>rfl) (λz=>rfl) (λz=>rfl) (λz=>rfl) (λz=>rfl) c;rw[g,LN e b (Av b),if_pos (a _ b)];delta Bl;rw[if_neg c,oq,jD _ _ (by simp;exact(bW 0x3e839030294110e531d) f (bS (a _ b)))]
def TI(ord)(a:i<2):jr (UW W) d [Bl ord i]=[oR.getD i 0]:=by
 delta Bl;rw[if_pos a];refine jD _ _ <|lt2 a ?_ ?_<;>rfl
def Nk{ord:Q1}(c:∀x∈ord,x<5)(d:ord.Nodup)(e:ord.length=5):∀p,p<5->p∈ord:=by
 intro p f;cases Classical.em (p∈ord)with
 |inl h=>exact h
 |inr h=>
  exfalso;have b:=xW 5 (p::ord) (du.mpr ⟨h,d⟩) λx a=>by
   rcases aX.mp a with rfl|a
   .exact f
   .exact c x a
  rw[cq]at b;exact(bO 0x95306d530f) e b
end
def D0(l:List mF):Q1:=(l.map t6).flatten
def xd(a b):D0 (a++b)=D0 a++D0 b:=by delta D0;rw[aU,ko]
def l9(a)(b):D0 (a::b)=t6 a++D0 b:=rfl
def JX(h:p<5)(a):a++t6 (.jO (p+1) 101)=Dr a p:=by
 show a++([60,47]++(jv (p+1)++58::[101])++[62])=_;rw[zw #v[(bO 0x93060530e) h]];simp[Dr]
def CY:∀(l:Q1) p,Z6 p (Fs l)=decide ([p]=jd l):=iX (λz=>rfl) λx l=>l.rec (λz p=>nq.mpr (nF.trans (Iff.trans ⟨λe=>e▸rfl,λe=>(cA e).1⟩ decide_eq_true_iff.symm))) λz z z a p=>a p
def U7:Ez a c6 (p::r)=bif Z6 p a then (c6,p::r)else Ez a (c6++[.jO (p+1) 101]) r:=rfl
def fl1(x):D0 [x]=t6 x:=cg _
def Ue(a):∀r c6,(∀x∈r,x<5)->qk (jd a) (D0 c6) r=(D0 (Ez (Fs a) c6 r).1,(Ez (Fs a) c6 r).2):=iX (λc6 z=>rfl) λp r b c6 h=>by
 rw[yr,U7,CY,n5];by_cases q:[p]=jd a
 .rw [if_pos q,if_pos (decide_eq_true q)]
 .rw [if_neg q,if_neg (by rw[decide_eq_false q];decide)];have c:=b (c6++[.jO (p+1) 101]) λx d=>h x (.tail _ d);rw[xd,fl1,JX (h p (.head _))]at c;exact c
def Gq(h:q<=9):lj (jv q++[58,116],[t])=[32,110,48+q,58,116,61,34,t,34]:=by rw[zw h];rfl
def Qh(d:o.length=5)(c):∀m,nW o b k c m=c++((((am m).filter λj=>ju (uR j o) b).map λj=>(uR j o+1,2000+10*j+o.getD k 0)).map λy=>lj (jv y.1++[58,116],[y.2])).flatten:=ig (cg c).symm λm f=>by
 have g:o.idxOf m<=5:=by have:=HX (a:=m) (l:=o);exact(bW 0x530010d531f) d this
 rw[QP,f,dv,dP,aU,aU,ko,<-cm];delta BL;by_cases q:b.contains (o.idxOf m)=true
 .have:ju (uR m o) b=true:=oN.mpr (by rw[oq];exact d8.mp q);rw[if_pos q];simp only[fF,this,if_true,List.filter_nil,bN,qI,e9,xC];rw[Gq (by rw[oq];exact(bO 0x93060530d) g),oq];simp
 .have:ju (uR m o) b=false:=by
   cases e:ju (uR m o) b with
   |true=>exact absurd (d8.mpr (by rw[<-oq];exact oN.mp e)) q
   |false=>rfl
  rw[if_neg q];simp[fF,this]
def HD(a:p<5)(b:k<5):lj (sV (k+1),vT p)=kZ p k:=by
 delta sV vT kZ;rw[if_pos a,zw #v[(bO 0x93060530e) b]];rfl
def To(c:o.length=5)(g:∀x∈o,x<5):∀k,k<=5->D0 (wM tie o k).1=(ji tie o k).1/\(wM tie o k).2=(ji tie o k).2:=ig (λz=>⟨by rfl,rfl⟩) λk h a=>by
 refine dS (h #v[(bO 0x53005306d) a]) λi b=>?_;have d:o.getD k 0<5:=by rw[gD #v[(bW 0x1015306d531f) c a]];exact g _ (bV _)
 have e:=Ue (pR tie o k) (wM tie o k).2 (wM tie o k).1 λx f=>by rw[b]at f;have:=(xe tie o k) x f;exact(bW 0x530110e5316d) a this
 rw[i,b]at e;rw[(show ji tie o (k+1)=(nW o (qj tie o k) k (uo o k (qk (jd (qj tie o k)) (ji tie o k).1 (ji tie o k).2).1) 5++[62],k::(qk (jd (qj tie o k)) (ji tie o k).1 (ji tie o k).2).2) from rfl),(show qj tie o k=pR tie o k from rfl),e];rw[(show wM tie o (k+1)=((Ez (Fs (pR tie o k)) (wM tie o k).1 (wM tie o k).2).1++[.wQ (k+1) 101,.ql [(o.getD k 0,k+1)] (Zu o (pR tie o k) k),.gt],k::(Ez (Fs (pR tie o k)) (wM tie o k).1 (wM tie o k).2).2) from rfl),b];refine⟨?_,rfl⟩;rw[xd,Qh c];delta uo;rw[<-HD d #v[(bO 0x53015306d) a]];rw[l9,l9,l9];show _++(60::(jv (k+1)++58::[101])++(([lj (sV (k+1),vT (o.getD k 0))]++(Zu o (pR tie o k) k).map λy=>lj (jv y.1++[58,116],[y.2])).flatten++([62]++[])))=_;rw[zw #v[(bO 0x930605306d) a]];delta Zu;rw[show am 5=[0,1,2,3,4] from rfl];simp only[cm,eF,ge,e9,cg]
def YC(c:o.length=5)(b):∀m,IP o b m=b++(((am m).map λj=>(uR j o+1,48+uR j o)).map λy=>lj (jv y.1++[58,116],[y.2])).flatten:=ig (cg b).symm λm d=>by
 have e:o.idxOf m<=5:=by have:=HX (a:=m) (l:=o);exact(bW 0x530010d531f) c this
 show zT o (IP o b m) m=_;rw[d,dv,aU,aU,ko,<-cm];simp only[bN,qI,e9,xC];rw[Gq (by rw[oq];exact(bO 0x93060530d) e),oq];delta zT;simp only[cm,eF,ge,cg]
def MX:∀(r:Q1) c6,(∀x∈r,x<5)->D0 (r.foldl (λc6 p=>c6++[.jO (p+1) 101]) c6)=r.foldl Dr (D0 c6):=iX (λc6 z=>rfl) λp r a c6 h=>by
 rw[jt,jt,a _ λx b=>h x (.tail _ b),xd,fl1,JX (h p (.head _))]
def Pa(b:o.length=5)(c:∀x∈o,x<5):D0 (mv tie o)=Dc tie o:=by
 refine dS (To (tie:=tie) b c 5 (ah _)) λg d=>?_;have e:∀k,k<5->o.getD k 0<5:=λk a=>by rw[gD #v[(bW Su6) b a]];exact c _ (bV _)
 rw[(show mv tie o=((wM tie o 5).2.foldl (λc6 p=>c6++[.jO (p+1) 101]) (wM tie o 5).1)++[.wQ 0 122,.ql ([0,1,2,3,4].map (λk=>(o.getD k 0,k+1))++[(6,6),(7,7)]) ([0,1,2,3,4].map (λj=>(uR j o+1,48+uR j o))++[(6,117),(7,118)]),.gt,.jO 0 122,.jO 0 114] from rfl),(show Dc tie o=IP o (((uX (ji tie o 5)++[60,110,48,58,122])++((am 5).map λk=>kZ (o.getD k 0) k).flatten)++[32,120,109,108,110,115,58,110,54,61,34,117,34,32,120,109,108,110,115,58,110,55,61,34,118,34]) 5++[32,110,54,58,116,61,34,117,34,32,110,55,58,116,61,34,118,34,62,60,47,110,48,58,122,62,60,47,110,48,58,114,62] from rfl),xd,MX _ _ (λx f=>by rw[d]at f;exact(xe tie o 5) x f),g,d,YC b];rw[(show ((am 5).map λk=>kZ (o.getD k 0) k)=(am 5).map λk=>lj (sV (k+1),vT (o.getD k 0)) from bL λk a=>(HD (e k (c5.mp a)) (c5.mp a)).symm)];show _++D0 [_,_,_,_,_]=_;rw[l9,l9,l9,l9,l9];delta uX;show _++([60,110,48,58,122]++(((([0,1,2,3,4].map (λk=>(o.getD k 0,k+1))++[(6,6),(7,7)]).map λ(y:Nat×Nat)=>lj (sV y.2,vT y.1))++([0,1,2,3,4].map (λj=>(uR j o+1,48+uR j o))++[(6,117),(7,118)]).map λ(y:Nat×Nat)=>lj (jv y.1++[58,116],[y.2])).flatten++([62]++([60,47,110,48,58,122,62]++([60,47,110,48,58,114,62]++[])))))=_;have h:lj (sV 6,vT 6)=[32,120,109,108,110,115,58,110,54,61,34,117,34]:=by decide
 have i:lj (sV 7,vT 7)=[32,120,109,108,110,115,58,110,55,61,34,118,34]:=by decide
 have l:lj (jv 6++[58,116],[117])=[32,110,54,58,116,61,34,117,34]:=by decide
 have m:lj (jv 7++[58,116],[118])=[32,110,55,58,116,61,34,118,34]:=by decide
 simp only[aU,aQ,bN,qI,ko,e9,xC,h,i,l,m,cm,cg,eF,ge,show am 5=[0,1,2,3,4] from rfl,Function.comp];simp[lj,sV,jv,(show vT 6=[117] from rfl),(show vT 7=[118] from rfl)]
section
open PySem.W PySem.Spec PySem.Calls PyProof.Rows
def Uu(l):nc W d l=jr (UW W) d (D0 l):=by
 rw[Eu];delta D0 wP;rw[ye,aQ];rfl
def PA(h:l≠[])(k:Nat):decide (Kg (l.map λ(n:Nat)=>(n:Int)) > (k:Int))=l.all (fy k):=by
 refine GU (jY h) λx r j=>?_;subst j;refine ka (vA (r.map λ(n:Nat)=>n) x) λc g i=>?_;generalize (r.map λn=>n).foldl (λa b=>if b<a then b else a) x=v at c g i;rw[nq,decide_eq_true_iff,bg];constructor
 .intro d y f;rw[O1];rcases aX.mp f with rfl|f
  .exact(vj 0x1011703c0074c) d g
  .have:=i (y:Int) (db f);exact(vj 0x1011703c0074c) d this
 .intro d;rcases c with c|c
  .have:=O1.mp (d x (.head _));exact(vj 0x7410e1705c) c this
  .refine cY (bp.mp c) λy f e=>?_;have:=O1.mp (d y (.tail _ f));exact(vj 0x7410e0175c) e this
def Zh(a:List mF)(k m:Nat):Bool:=match uj m a with
 |some l=>(nA l).all (fy k)
 |none=>false
def OJ(tie:Lx1)(o:Q1)(a:List mF)(k m:Nat):Bool:=bif Dw tie o k m then Zh a k m else false
def O5(tie)(o)(a)(k m):OJ tie o a k m=(Dw tie o k m&&(Zh a k m&&true)):=by
 delta OJ;cases Dw tie o k m<;>simp
def Pv(tie)(o)(a)(k):(Dg tie o a k).length=((am (4-k)).filter λm=>OJ tie o a k (k+1+m)).length:=by
 delta Dg;rw[Cn,y8,af];rfl
def GZ(tie)(o)(k m):Dw tie o k m=decide (jd (pR tie o m)=[k]):=by
 delta Dw;rw[CY];exact decide_eq_decide.mpr ⟨qaz,qaz⟩
def QA(h:EW tie=true)(a:k<5):(Dg tie (kr tie 5) (mv tie (kr tie 5)) k).length+(jd (pR tie (kr tie 5) k)).length=sR tie ((kr tie 5).getD k 0)/\∀m,m<4-k->Rt tie (kr tie 5) (mv tie (kr tie 5)) k (k+1+m)=true:=by
 delta EW at h;rw[bg]at h;have h:=h k (by simp;exact(bO 0x430233028230281302803028530e) a);rw[bc,nF,bg]at h;refine⟨h.1,λm b=>h.2 _ ?_⟩;rw[List.mem_range'_1];exact(bW 0x435064106411064060704351e) b
def Vx(a:Rm (k+1) A):mz C w A (cQ .Eq) (mT l) (mT m) (.bool (decide (l=m))):=by
 have h:=UO (C:=C) (w:=w) (t:=mT l) (u:=mT m) 1 a #v[_] (all_map (λz=>rfl) _) (all_map (λz=>rfl) _);rw[DN]at h;exact h
def Gy(h:l.length<=1000):cR C w A (.builtin "len") [mT l] [] [] (iT l.length):=by
 have:=nZ (C:=C) (w:=w) (A:=A) (ts:=l.map iT) (Kk h);rwa[af]at this
def Bi{K:Tk}(g:St B w X loc K F s)(l:Ev (St.pre B w X loc K) w A X.ax r b)(m:mz (St.pre B w X loc K) w A (iN j) (.int i) b c)
 (n:KO X x) (o:cD false=cf (.BinOp (.Constant (.int i) k p) j r d) (ab (.Name x e)) pos.line X.ax)
 (h:∀F' s',St B w X (dz x c loc) ((Tk.dM 1).bI K) F' s'->Go w A bj X.ax Q s'):Go w A (.Assign [.Name x e] (.BinOp (.Constant (.int i) k p) j r d) pos::bj) X.ax Q s:=by
 refine⟨bF (iO (Ch (VS ?_)) o)⟩;have f:=g.gr (Gr.j4 g.bs.bh (s.toks+1));refine l.run F _ f _ _ λq t u g2 y=>m.run _ q t u (f.gr g2) (.int i _) y _ _ λv z H g3 C=>jM (((f.gr g2).gr g3).nM (K':=(Tk.dM 1).bI K) (λa D=>D) λhi=>⟨(aA (Ta 1 s.toks) (aA g2.toks g3.toks)),hi,kq⟩) C n λE G=>(h z E G).run
def XR{K:Tk}(g:Ev (St.pre B w X loc K) w A X.ax r b)(e:mz (St.pre B w X loc K) w A (iN f) (.int i) b c)
 (j:KO X x) (l:cD false=cf (.BinOp (.Constant (.int i) k p) f r a) (ab (.Name x d)) pos.line X.ax)
 (h:Ho B w X A Q (dz x c loc) ((Tk.dM 1).bI K) bj):Ho B w X A Q loc K (.Assign [.Name x d] (.BinOp (.Constant (.int i) k p) f r a) pos::bj):=⟨λz z m n=>Bi m g e j l λF s h'=>h.run F s h' n⟩
def M8(tie)(o)(a)(k):mT (Dg tie o a k)=.list (((am (4-k)).filter λm=>OJ tie o a k (k+1+m)).map λm=>iT (k+1+m)):=by
 delta Dg mT;rw[Cn,y8,aQ];rfl
def Xb(h:Rt tie o a k m=true)(b:Dw tie o k m=true):∃l,uj m a=ab l/\nA l≠[]/\Zh a k m=(nA l).all (fy k):=by
 delta Rt at h;rw[b,cond_true]at h;delta Zh;cases q:uj m a with
 |none=>rw[q]at h;cases h
 |some l=>
  rw[q]at h;refine⟨l,rfl,λe=>?_,rfl⟩;simp only[e]at h;cases h
def GO(tie)(o)(k):(pR tie o k).length<=k:=aA (cH _ _) (dm aZ)
def MB(tie)(o)(a:m<5):((am 5).map λk=>mT (pR tie o k))[((m:Nat):Int).toNat]?=ab (mT (pR tie o m)):=by
 rw[cx,aI,cM a];rfl
def Nq(l):(jd l).length<=1:=by delta jd;rw[gK];exact bO 0x131305050
def VP(tie)(o)(a)(k):(Dg tie o a k).length<=4:=by
 rw[Pv];exact aA (cH _ _) (by rw[aZ];exact bO 0x4304350)
end
end Mine
namespace Mine
open PySem PySem.W PySem.Spec PySem.Calls PyProof.Rows PySem.Builtin PySem.Builtin.ObjectAttr
noncomputable def Hb(l:List Int)(lo hi st:Option Int):List Int:=(il (eZ lo hi st l.length).1 (eZ lo hi st l.length).2.1 (eZ lo hi st l.length).2.2).filterMap (l[·]?)
def Lu(l)(lo hi st):ta (l.map .int) lo hi st=(Hb l lo hi st).map .int:=by
 delta ta Hb;rw[af,List.map_filterMap];congr 1;funext i;rw[aI]
def tQ(a:List Int)(k:Nat):Int:=([39,36,20,4,42]:List Int).getD k 0+(Hb a (ab (k:Int)) aC (ab 5)).sum
noncomputable def yC(n:Int)(d:Nat):Nat:=[97,65,98,38].getD ((n.fdiv ((4:Int) ^ d)).fmod 4).toNat 0
def IQ(a:List Int)(k:Nat):Q1:=[yC (tQ a k) 0,yC (tQ a k) 1,yC (tQ a k) 2]
def SA(a:Int):0<=a.fmod 4/\a.fmod 4<4:=⟨Gk _ #v[_],N4 _ #v[_]⟩
def BQ(n)(d):yC n d∈[97,65,98,38]:=by
 delta yC;have a:((n.fdiv ((4:Int) ^ d)).fmod 4).toNat<4:=#v[(sj 0x430b1430400337c) (SA (n.fdiv ((4:Int) ^ d)))];rw[ar,ay #v[a]];exact bV _
def OP(a):zB (IQ a):=λi z=>by
 delta IQ j9;rw[dj];refine⟨_,BQ (tQ a i) 0,?_⟩;rw[dj];refine⟨_,BQ (tQ a i) 1,?_⟩;exact db (BQ (tQ a i) 2)
def QN:gF C w A (.str (Ss [97,65,98,38])) (.int ((m.fdiv ((4:Int) ^ d)).fmod 4)) (.str (Ss [yC m d])):=by
 have h:=SA (m.fdiv ((4:Int) ^ d));have a:=oA (C:=C) (w:=w) (A:=A) (l:=[97,65,98,38]) (k:=((m.fdiv ((4:Int) ^ d)).fmod 4).toNat) (by show _<4;exact(sj 0x430b1430400337c) h) #v[_];rwa[uJ h.1]at a
abbrev ua(a:List Int):T:=.list ((am 5).map λk=>.int (tQ a k))
noncomputable abbrev Ng(a:List Int):T:=.list (a.map .int)
def CN{a:Nat}(b:A.handled=aC):Qn w A target (.D3 (a:Int) m) ((am m).map λk=>iT (a+k)):=by
 have:=xf (w:=w) (A:=A) (target:=target) (a:=(a:Int)) (n:=m) b;have e:(λ(i:Nat)=>T.int ((a:Int)+(i:Int)))=λk=>iT (a+k):=funext λk=>by show T.int _=T.int _;rw[SU]
 rwa[e]at this
def MN(h:p<5):gF C w A (.str (Ss [80,81,82,83,84])) (iT p) (.str (ch (80+p))):=by
 have:=oA (C:=C) (w:=w) (A:=A) (l:=[80,81,82,83,84]) (k:=p) h #v[_];have e:[80,81,82,83,84].getD p 0=80+p:=by
  refine G9 h ?_ ?_ ?_ ?_ ?_<;>rfl
 rwa[e]at this
def ue(a:0<=v)(b:v<10):cR C w A (.type "str") [.int v] [] [] (.str (Ss [48+v.toNat])):=by
 have:=xh (C:=C) (w:=w) (A:=A) (k:=v.toNat) #v[(sj Sw8) a b];rwa[uJ a]at this
def vC{C:fv B}(d:dg w B)(f:Rm (n+5) A)(e:nK a b mx=v)(g:a.length<=40)(h:b.length<=40)(c:(Gx a b).2=[]\/a.length<=b.length) :
 cR C w A (.ref 225) [.str (Ss a),.str (Ss b),.int mx] [] [] (.int v):=by subst e;exact Dp d f g h c
noncomputable def Ia(a:List Int):Int:=2+a.sum.fmod 3
def I7(a):Ia a=2\/Ia a=3\/Ia a=4:=by
 have b:=Gk a.sum (show (0:Int)<3 by decide);have c:=N4 a.sum (show (0:Int)<3 by decide);delta Ia;exact(sj 0x430234533023458230234583304c0033c) b c
abbrev lA(a:List Int)(W:S2)(b:Int):M2:=[("script",Ng a),("numbers",ua a),("words",FF W),("names",BE (UW W)),("bound",.int b),("dues",mE (jQ W))]
abbrev lB(c:List Int)(W:S2)(b:Int)(a:bu):M2:=[("script",Ng c),("numbers",ua c),("words",FF W),("names",BE (UW W)),("bound",.int b),("dues",mE (jQ W)),("lines",.val (.ref a))]
abbrev lC(c:List Int)(W:S2)(b:Int)(a:bu)(i:Nat):M2:=[("script",Ng c),("numbers",ua c),("words",FF W),("names",BE (UW W)),("bound",.int b),("dues",mE (jQ W)),("lines",.val (.ref a)),("i",iT i)]
abbrev lD(a:List Int)(W:S2)(b:Int)(dn:bu):M2:=[("script",Ng a),("numbers",ua a),("words",FF W),("names",BE (UW W)),("bound",.int b),("dues",mE (jQ W)),("lines",.list ((dH W b 5).map kY)),("near",bP 369 dn)]
abbrev lE(a:List Int)(W:S2)(b:Int)(dn an:bu):M2:=[("script",Ng a),("numbers",ua a),("words",FF W),("names",BE (UW W)),("bound",.int b),("dues",mE (jQ W)),("lines",.list ((dH W b 5).map kY)),("near",bP 369 dn),("answers",.val (.ref an))]
abbrev lF(a:List Int)(W:S2)(b:Int)(dn an:bu):M2:=[("script",Ng a),("numbers",ua a),("words",FF W),("names",BE (UW W)),("bound",.int b),("dues",mE (jQ W)),("near",bP 369 dn),("answers",.val (.ref an))]
abbrev lG(a:List Int)(W:S2)(b:Int)(L:La):M2:=[("script",Ng a),("numbers",ua a),("words",FF W),("names",BE (UW W)),("bound",.int b),("dues",mE (jQ W)),("near",bP 369 L.dn),("answers",.val (.ref L.an)),("pieces",.val (.ref L.wa.pc)),("found",bP 369 L.df),("writer",bP 150 L.wa.dx)]
abbrev lH(a:List Int)(W:S2)(b:Int)(L:La)(ld:bT):M2:=[("script",Ng a),("numbers",ua a),("words",FF W),("names",BE (UW W)),("bound",.int b),("dues",mE (jQ W)),("near",bP 369 L.dn),("answers",.val (.ref L.an)),("pieces",.val (.ref L.wa.pc)),("found",bP 369 L.df),("writer",bP 150 L.wa.dx),("laid",.str ld)]
abbrev lZ(a:List Int)(W:S2)(b:Int)(ld:bT)(c:Q1)(N:Nat)(o:Q1)(tie:Lx1):M2:=[("script",Ng a),("names",BE (UW W)),("bound",.int b),("dues",mE (jQ W)),("laid",.str ld),("page",.str (Ss c)),("order",wV N o),("ups",.list ((am 5).map λk=>mT (pR tie o k)))]
def P9:(Tk.kw W d w L a e r as S t).tk=(Tk.kw W d w L a e b as S' c).tk/\(Tk.kw W d w L a e r as S t).gk=(Tk.kw W d w L a e b as S' c).gk:=⟨rfl,rfl⟩
abbrev kT(tb:Option bu):Tk:=(Tk.dM 1).bI (Tk.tab 123 iB gf tb)
def LaE(pc dn ln df lf an:bu)(t:T)(K:Tk)(R:La->bu->Prop)(f:La->T)(g:La->bu->Tk):Prop:=∃L:La,∃a,R L a/\L.wa.pc=pc/\L.dn=dn/\L.ln=ln/\L.df=df/\L.lf=lf/\L.an=an/\t=f L/\K=g L a
@[elab_as_elim] def laE{R:La->bu->Prop}{f:La->T}{g:La->bu->Tk}{P:bu->bu->bu->bu->bu->bu->T->Tk->Prop}{pc dn ln df lf an:bu}{t:T}{K:Tk}(h:LaE pc dn ln df lf an t K R f g)(k:∀L a,R L a->P L.wa.pc L.dn L.ln L.df L.lf L.an (f L) (g L a)):P pc dn ln df lf an t K:=by
 obtain⟨L,a,h,rfl,rfl,rfl,rfl,rfl,rfl,rfl,rfl⟩:=h;exact k L a h
def LO(G:dg w B)(hR:Rm (n+40) A)(hLev:∀W b,zB W->(b=2\/b=3\/b=4)->Gp W b)(hAsk:∀f∈j9,Hq f)(hChk:∀W b,zB W->(b=2\/b=3\/b=4)->Fd (dE W b)=true/\EW (dE W b)=true)(hg:A.guards=ab [])(hsc:y.length<=63) :
 d5 B w (Tk.tab 123 iB gf tb) A (.ref 408) [Ng y] [] [] (λK' t=>t=.bool true/\∀F s,K'.I F s->∃o,s.heap.get? 123=ab (A6 iB o)):=by
 refine⟨λF s vs us bs hI hap hv hu Q E hQ=>?_⟩;refine hv.e1 λv1 r1=>hu.e0 <|enter (K:=Tk.tab 123 iB gf tb) [("script",Ng y)] [v1] (Tk.tab 123 iB gf tb).tk ["script", "k", "words", "names", "bound", "dues", "near", "found", "page", "order", "ups"] G bs hR rfl #v[] (cb rfl) rfl rfl (.cons r1 .nil) hI hap λLo s1 hL hS=>n6 hS (jb rfl) ?_;have H:∀ax,Rm (n+39) (A.deeper ax):=λax=>hR.deeper;have hscz:(y.map T.int).length<=be:=Kk hsc;refine gY (t:=ua y) ?_ rfl rfl (.inl rfl) ?_
 .refine jc (n:=5) (τ:=iT) (g:=λk=>.int (tQ y k)) nf su (me (n:=5) G hR.1) #v[_] (.inl rfl) (λi hi cells Lo D kn J=>?_);refine bo (bf (k7 (ts:=[.int 39,.int 36,.int 20,.int 4,.int 42]) (aq bA (aq bA (aq bA (aq bA (aq bA aK))))) #v[_]) (bD J) (gz (t:=.int (([39,36,20,4,42]:List Int).getD i 0)) #v[(bO Su8) hi] #v[(jP Su7) hi ir] ?_)) (i0 (f:=.builtin "sum") (jo G) (kj (aq (t:=.list ((Hb y (ab (i:Int)) aC (ab 5)).map .int)) ?_ aK)) bK.bi (Hf (H _).1) rfl) ku
  .rw [cx];refine G9 hi ?_ ?_ ?_ ?_ ?_<;>rfl
  .rw [<-Lu];exact bf (bD J) (iJ (g9 (bD J)) ct (g9 bA)) (pV #v[_] hscz)
 refine cy (t:=FF (IQ y)) (mf ?_ rfl) (jE rfl rfl) rfl ?_
 .refine jc (n:=5) (τ:=λk=>.int (tQ y k)) (g:=λk=>.str (Ss (IQ y k))) nf su (iC aF (iK hR.1)) #v[_] (.inr rfl) (λi hi cells Lo D kn J=>?_);have ew:(IQ y i)=(([0,1,2].map λd=>[yC (tQ y i) d]).flatten):=rfl;rw[ew];refine cF (bJ (l:=[]) #v[]) yf (kj (aq (t:=.list (([0,1,2].map λd=>[yC (tQ y i) d]).map λl=>.str (Ss l))) (mf ?_ rfl) aK)) bK.bi (yo (by show 3<=90000;decide)) rfl;have e2:(([0,1,2].map λd=>[yC (tQ y i) d]).map λl=>T.str (Ss l))=(am 3).map λd=>T.str (Ss [yC (tQ y i) d]):=rfl;rw[e2];refine jc (n:=3) (τ:=iT) (g:=λd=>.str (Ss [yC (tQ y i) d])) J su (me (n:=3) G hR.1) #v[_] (.inl rfl) (λdd hdd cells2 Lo2 D2 sub2 S=>?_);refine bf (bJ (l:=[97,65,98,38]) #v[]) (bo (bo (bD S) (bo bA (bD S) (Vk (a:=4) (b:=(dd:Int)) #v[(bO 0x7033330e) hdd] ?_)) (Rn ?_ ?_)) bA (Km #v[_])) (QN (d:=dd))
  .refine lt3 hdd ?_ ?_ ?_<;>decide
  .refine lt3 hdd ?_ ?_ ?_<;>decide
  .refine lt3 hdd ?_ ?_ ?_<;>rfl
 generalize hWW:IQ y=W;have Y:zB W:=hWW▸OP y;refine cy (t:=BE (UW W)) (mf ?_ rfl) (jE rfl rfl) rfl ?_
 .have ed:((am 5).map λp=>(ch (112+p),T.str (Ss (UW W p))))=oT (λp=>ch (112+p)) (λp=>T.str (Ss (UW W p))) (λ_=>true) ((am 5).map iT).length:=by
   rw[af,aZ,yc λa b _ _ e=>by have:=Bd.mp e;exact(bW Sw0) this]
  show Cp _ _ _ _ (.dict _);rw[ed];refine Bp (ts:=(am 5).map iT) (f:=λk l=>dz "k" (iT k) l) G nf su (me (n:=5) G hR.1) #v[_] ?_ (λk=>j7 (.inl rfl)) (λk O cells Lo D kn J=>je) ?_ ?_ (λx=>rfl)
  .intro k t X cells L0 s0 F0;have ht:t=iT k:=nD X;subst ht;exact hO (.inl (kH rfl #v[_]))
  .intro k O _ cells Lo D kn J;rw[af,aZ]at O;exact bf (bJ (l:=[112,113,114,115,116]) #v[]) (bD J) (sZ O)
  .intro k O _ cells Lo D kn J;rw[af,aZ]at O;have eu:UW W k=[112+k]++W k:=by delta UW;rw[if_pos O];rfl
   rw[eu];exact bo (bf (bJ (l:=[112,113,114,115,116]) #v[]) (bD J) (sZ O)) (bf (bD J) (bD J) (vB O)) (eO (a:=[112+k]) (b:=W k) (by rw[bx,mi (Y k O)];decide))
 have hb234:=I7 y;refine XR (c:=.int (Ia y)) (bo (i0 (f:=.builtin "sum") (jo G) (kj (aq aF aK)) bK.bi (Hf (H _).1) rfl) bA (Km #v[_])) ku (jE rfl rfl) rfl ?_;generalize Ia y=b at hb234 ⊢;have hL:=hLev W b Y hb234;refine cy (t:=mE (jQ W)) ?_ (jE rfl rfl) rfl ?_
 .rw [<-J9];exact kD G (aq aF aK) (Je (n:=n) G ((H _).dn rfl) λi hi=>mi (Y i hi))
 refine ii (lA y W b) rfl ?_;refine pH (n:=2) (ts:=(dH W b 0).map kY) (iD (aq (eC (aq (bJ (l:=[112,113,114,115,116]) #v[]) (aq (bJ (l:=[97,108,108]) #v[]) aK)) (by show 2<=be;decide)) aK) (by show 1<=be;decide)) rfl (.inl rfl) rfl λa ha=>ny (n:=5) (τ:=iT) (λ_=>lB y W b a) (λi=>(kT tb).bI (Tk.cu w a ((dH W b i).map kY))) (me (n:=5) G hR.1) (.inl rfl) (λ_=>⟨rfl,rfl⟩) rfl rfl ?_ ?_
 .intro L1 i hi;refine ii (lC y W b a i) rfl <|ny (n:=4-i) (τ:=λm=>iT (i+1+m)) (λ_=>lC y W b a i) (λm=>((kT tb).bI (Tk.cu w a ((dH W b i++sU W b i m).map kY))).bI L1) (iC (i0 (jo G) (kj (aq (pL (k:=i) aF) (aq bA aK))) bK.ty (As (a:=((i+1:Nat):Int)) (b:=5) #v[(jP Ru6) hi sy] #v[(jP Ru5) hi sy] #v[_] #v[_]) rfl) ?_) (.inl rfl) (λ_=>⟨rfl,rfl⟩) rfl (congrArg (λl=>((kT tb).bI (Tk.cu w a (l.map kY))).bI L1) (cg (dH W b i)).symm) ?_ ?_
  .rw [show ((5:Int)-((i+1:Nat):Int)).toNat=4-i by exact(bO 0x435067535b2530e) hi];exact CN (H _).1
  .intro L2 m hm;generalize hj:i+1+m=j;have hj5:j<5:=#v[(dO 0x530102164f14352e531e) hi hm hj];refine dS (hL i j #v[(dO 0x10112064f) hj] hj5) λZI YP=>?_;have hdj:=qT W i j;refine cy (t:=.int (nK (W i) (W j) b)) ?_ (.inl rfl) rfl ?_
   .exact kD G (aq (bf aF aF (vB hi)) (aq (bf aF aF (vB hj5)) (aq aF aK))) (Dp (n:=n) G ((H _).dn rfl) (by rw[mi (Y i hi)];decide) (by rw[mi (Y j hj5)];decide) (.inr (by rw[mi (Y i hi),mi (Y j hj5)];decide)))
   generalize nK (W i) (W j) b=lv at ZI YP ⊢;refine cy (t:=.bool (dE W b i j)) ?_ (.inl rfl) rfl ?_
   .rw [<-ZI];exact kD G (aq aF (aq aF aK)) (PE (n:=n) G ((H _).dn rfl))
   refine ly ?_ ?_
   .have e1:∀x:bT,(!decide (x=x))=false:=λx=>by simp
    refine dN (lc (b:=false) (c:=false) ?_ λ_=>lc (b:=false) (c:=false) ?_ λ_=>yp)
    .rw [<-e1 (if dE W b i j then "True" else "False")];exact aN (dD G aF bK.ty v9) (dD G (ky (bf (bf aF aF (lX hi)) aF (lW hj5)) aF v0) bK.ty v9) Bj
    .have e2:(dE W b i j&&(false&&true))=false:=by simp
     rw[<-e2];refine dN (dR (b:=dE W b i j) (c:=false&&true) (eP aF lb) λht=>dR (b:=false) (c:=true) ?_ λh=>absurd h #v[_]);have:=YP ht;subst this;rw[<-e1 (Ss [48+(jQ W i j).toNat])];exact aN (dD G aF bK.ty (ue hdj.1 hdj.2)) (dD G (bf (bf aF aF (lX hi)) aF (lW hj5)) bK.ty (ue hdj.1 hdj.2)) Bj
   have hl1:=xG W b i;have hl2:=CZ W b i m;have hl3:=CM W b i j;refine mU (b:=dE W b i j) (eP aF lb) (λht=>?_) (λhf=>?_)
   .have:=YP ht;subst this;have fl:∀ts',bU ((((kT tb).bI (Tk.cu w a ((dH W b i++sU W b i m).map kY))).bI L1).bI L2) ((((kT tb).bI (Tk.cu w a ts')).bI L1).bI L2) (Tk.cu w a ((dH W b i++sU W b i m).map kY)) (Tk.cu w a ts'):=λts'=>bU.left (bU.left (bU.right (bU.here rfl)));refine rj (λho=>cP ho aF (yl (fl [])) (kj (aq (t:=.list ((oV W b i j).map kY)) ?_ aK)) bK.bi (vp (fl _) (by rw[af,af,aw,aJ];exact(Sz 0x100000079210440232d482a1d388a1340d5358e58483864f5338e) hi hj hj5 hl1 hl2 hl3)) rfl) rfl rfl ?_
    .have ep:(oV W b i j).map kY=[.qb [.str (ch (112+i)),.str (Ss ([112+j]++[48+(jQ W i j).toNat]))],.qb [.str (ch (80+j)),.str (Ss ([112+i]++[48+(jQ W i j).toNat]))]]:=by delta oV;rw[if_pos ht];rfl
     rw[ep];exact k7 (aq (eC (aq (bf (bJ (l:=[112,113,114,115,116]) #v[]) aF (sZ hi)) (aq (bo (bf (bJ (l:=[112,113,114,115,116]) #v[]) aF (sZ hj5)) (dD G aF bK.ty (ue hdj.1 hdj.2)) (eO (a:=[112+j]) (by show 2<=10000000;decide))) aK)) (by show 2<=be;decide))
      (aq (eC (aq (bf (bJ (l:=[80,81,82,83,84]) #v[]) aF (MN hj5)) (aq (bo (bf (bJ (l:=[112,113,114,115,116]) #v[]) aF (sZ hi)) (dD G aF bK.ty (ue hdj.1 hdj.2)) (eO (a:=[112+i]) (by show 2<=10000000;decide))) aK)) (by show 2<=be;decide)) aK)) (by show 2<=be;decide)
    have el:(dH W b i++sU W b i m).map kY++(oV W b i j).map kY=(dH W b i++sU W b i (m+1)).map kY:=by rw[KM,hj,aU,aU,aU,cm]
    rw[el];exact ma rfl
   .have el:dH W b i++sU W b i m=dH W b i++sU W b i (m+1):=by rw[KM,hj,oV,if_neg (by rw[hf];decide),cg]
    rw[el];exact ma rfl
  .exact ma rfl
 refine yg ("lines" : bT) ha rfl ?_;have hf0:W 0∈j9:=Y 0 #v[_];refine sE (hAsk _ hf0) λak1 ak2 ak3 ak4=>?_;have hf3:=mi hf0;refine cy (t:=.str (Ss (W 0))) ?_ (.inl rfl) rfl ?_
 .exact bf aF bA (vB (i:=0) #v[_])
 refine pH (n:=0) (ts:=[.int 2,.int 2]) ?_ rfl (.inl rfl) rfl λak hak=>?_
 .refine iD (aq ?_ (aq ?_ aK)) (by show 2<=be;decide)
  .exact kD G (aq aF (aq (bo aF (bJ (l:=[45]) #v[]) (eO (by rw[hf3];decide))) (aq bA aK))) (vC (n:=n) G ((H _).dn rfl) ak1 (by rw[hf3];decide) (by rw[aw,hf3];decide) (.inr (by rw[aw];exact X3)))
  .exact kD G (aq (bo (bJ (l:=[45]) #v[]) aF (eO (by rw[hf3];decide))) (aq aF (aq bA aK))) (vC (n:=n) G ((H _).dn rfl) ak2 (by rw[aw,hf3];decide) (by rw[hf3];decide) (.inl ak4))
 have fk:∀ts',bU ((kT tb).bI (Tk.cu w ak [.int 2,.int 2])) ((kT tb).bI (Tk.cu w ak ts')) (Tk.cu w ak [.int 2,.int 2]) (Tk.cu w ak ts'):=λts'=>bU.right (bU.here rfl);refine rj (λho=>cP ho aF (iH (fk [])) (kj (aq (t:=.int 8) ?_ aK)) bK.bi (gl (fk _) (by show 2<=be;decide)) rfl) rfl rfl ?_
 .exact kD G (aq (bo (bJ (l:=[45,45]) #v[]) aF (eO (a:=[45,45]) (b:=W 0) (by rw[hf3];decide))) (aq (bo aF (bJ (l:=[61,61]) #v[]) (eO (a:=W 0) (b:=[61,61]) (by rw[hf3];decide))) (aq bA aK))) (vC (n:=n) G ((H _).dn rfl) ak3 (by rw[aw,hf3];decide) (by rw[aw,hf3];decide) (.inr (by rw[aw,aw,hf3];decide)))
 refine yg ("asked" : bT) hak rfl <|ly ?_ ?_
 .have e1:(!decide ((T.list [.int 2,.int 2,.int 8]).toD.shown=("[2, 2, 8]" : bT)))=false:=by kernel_rfl
  rw[<-e1];exact aN (dD G aF bK.ty (rC (k:=n) 2 ((H _).dn rfl) hg #v[_] rfl #v[] (by decide +kernel))) Be Bj
 refine pG (λho=>GP (n:=n) G ((H _).dn rfl) ho (fg G rfl (λF=>.val (.ref 369)) rfl rfl rfl) rfl) (jE rfl rfl) rfl λK' t hRR=>tx2 hRR λdn ln=>ii (lD y W b dn) rfl ?_;have hlg:=Gl W b;have hll:=xG W b 5;refine C4 _ (λho=>Ig (Ki:=λi=>(kT tb).bI (Tk.mC w dn ln ((dH W b 5).take i))) (ts:=(dH W b 5).map kY) (f:=λi l=>dz "value" (.str (Ss ((dH W b 5).getD i e0).2)) (dz "name" (.str (Ss ((dH W b 5).getD i e0).1)) l)) (τ:=λ_=>.none)
  ho (λi=>rfl) su (Kk hll) (λF s hS Q E k=>(iC aF (iK (H _).1)).run F s hS Q E k) ?_ (λi=>rV (.inl rfl) (.inl rfl)) ?_ (λx=>rfl)) rfl rfl (.inl rfl) λK' t hRR=>?_
 .intro i t X cells L0 s0 F0;have ht:t=kY ((dH W b 5).getD i e0):=rI X _;subst ht;exact nX (H _).1 (ET (.inl (kH rfl #v[_])) (.inl (kH rfl #v[_])))
 .intro i hi F s cells Lo2 M own;rw[af]at hi;have hgi:=vg hlg hi;have hei:(dH W b 5)[i]?=ab ((dH W b 5).getD i e0):=by rw[ar,ay hi];rfl
  have hgt:jC ((dH W b 5).take i):=⟨λkv hkv=>hlg.1 kv (sL hkv),by rw[dU];exact(bW 0x3e83910d010e538a1341d) hll hi⟩;refine ER (f:=.ref 366) (ts:=[.str (Ss ((dH W b 5).getD i e0).1),.str (Ss ((dH W b 5).getD i e0).2)]) own (bD nf) (k8 G iva (ats:=[("_headers",.val (.ref ln))]) rfl #v[] #v[] (kb w) (oZ w)) (kj (aq (bD nf) (aq (bD nf) aK))) (bK.fn G #v[]) ?_ rfl;refine(qQ (Lk (n:=n) G ((H _).dn rfl) hgt hgi.1 hgi.2)).cC λK' t h=>?_;obtain⟨L',rfl,rfl,rfl⟩:=h;refine⟨?_,rfl⟩;have e5:(dH W b 5).take i++[((dH W b 5).getD i e0)]=(dH W b 5).take (i+1):=by rw[d7,hei];rfl
  rw[<-e5]
 obtain⟨an,rfl,rfl⟩:=hRR;rw[af,iU];have er:(am (dH W b 5).length).map (λ_=>T.none)=aW (dH W b 5).length .none:=by rw[R0,aZ]
 rw[er];refine ii (lE y W b dn an) rfl ?_;have hb4:b<=4:=#v[(sj 0x430343053305823058c) hb234];refine gY (t:=.list ((am 5).map (N6 W b))) ?_ rfl rfl (.inl rfl) ?_
 .refine jc (n:=5) (τ:=iT) (g:=N6 W b) nf su (me (n:=5) G hR.1) #v[_] (.inr rfl) (λi hi cells Lo D kn J=>?_);have htl:∀j∈lx (dE W b) i,j<5:=λj hj=>by
   have:=(c3.mp hj).1;simp at this;exact(bO Sv4) this
  refine bf (bo (a:=.list ((lx (dE W b) i).map λj=>.str (Ss (xP W i j)))) (b:=.list [.none]) (c:=.list ((lx (dE W b) i).map (λj=>T.str (Ss (xP W i j)))++[.none])) (mf ?_ rfl) (k7 (aq fQ aK) #v[_]) (AR ?_)) bA (gz (i:=0) #v[_] #v[_] ?_)
  .have ef:(lx (dE W b) i).map (λj=>T.str (Ss (xP W i j)))=((am 5).filter λj=>dE W b i j).map λj=>.str (Ss (xP W i j)):=rfl;rw[ef];refine m6 (n:=5) (τ:=iT) (ex:=[]) J su (me (n:=5) G hR.1) (λa ha=>nomatch ha) #v[_] (.inl rfl) (λj hj cells2 Lo2 D2 sub2 S=>?_) (λj hj hp cells2 Lo2 D2 sub2 S=>?_)
   .exact gW (aN (bf (bf (bD S) (bD S) (lX hi)) (bD S) (lW hj)) (bD S) v0)
   .have hdj:=qT W i j;have ev:xP W i j=[112+j]++[48+(jQ W i j).toNat]:=by delta xP;rw[A8];rfl
    rw[ev];exact bo (bf (bJ (l:=[112,113,114,115,116]) #v[]) (bD S) (sZ hj)) (dD G (bf (bf (bD S) (bD S) (lX hi)) (bD S) (lW hj)) bK.ty (ue hdj.1 hdj.2)) (eO (a:=[112+j]) (by show 2<=10000000;decide))
  .rw [af,aJ];have:(lx (dE W b) i).length<=5:=cH _ _;show _+1<=_;exact(bO 0x100000079060530d) this
  .delta N6;cases lx (dE W b) i<;>rfl
 refine ly ?_ ?_
 .refine dN (lc (b:=false) (c:=false) ?_ λ_=>lc (b:=false) (c:=false) ?_ λ_=>lc (b:=false) (c:=false) ?_ λ_=>yp)
  .exact aN (a:=.list ((dH W b 5).map kY)) (cF (f:=.ref 333) aF (k8 G iva (ats:=[("_headers",.val (.ref ln))]) rfl #v[] #v[] (kb w) (oZ w)) AC (bK.fn G #v[]) (Kx (yq (n:=n) G ((H _).dn rfl) gv.left.right hlg)) rfl) aF (ve (k:=n) 2 ((H _).dn rfl) #v[_] (Fa hlg))
  .have e1:(((dH W b 5).length != (dH W b 5).length):Bool)=false:=by simp
   rw[<-e1];exact aN (kD G (aq aF aK) (rJ (n:=n) G ((H _).dn rfl) gv.left.right hlg)) (i0 (f:=.builtin "len") (t:=iT (dH W b 5).length) (jo G) (kj (aq aF aK)) bK.bi (by rw[show iT (dH W b 5).length=.int (((dH W b 5).map kY).length:Int) by rw[af]];exact nZ (Kk hll)) rfl) EP
  .refine aN (a:=.list ((am 5).map (N6 W b))) (mf ?_ rfl) aF (ve (k:=n) 1 ((H _).dn rfl) #v[_] ?_)
   .refine jc (n:=5) (τ:=λi=>.str (Ss [80+i])) (g:=N6 W b) nf su (iC (t:=.str (Ss [80,81,82,83,84])) (bJ #v[]) ?_) #v[_] (.inl rfl) (λi hi cells Lo2 D kn J=>?_)
    .exact xl (H _).1
    .rw [<-EA hb4 hi];exact kD G (aq (bD J) (aq (bD J) aK)) (yF (n:=n) G ((H _).dn rfl) (λF s h=>(gv.left.right) F s (kn F s h)) hlg (vG hi))
   .show ((am 5).map (N6 W b)).all (T.ok 0)=true;rw[wy,bg];exact λi _=>X0 W b i
 refine ii (lF y W b dn an) rfl ?_;refine pH (n:=0) (ts:=[]) (iD aK #v[_]) rfl (.inl rfl) rfl λpc hpc=>pG (λho=>GP (n:=n) G ((H _).dn rfl) ho (fg G rfl (λF=>.val (.ref 369)) rfl rfl rfl) rfl) (jE rfl rfl) rfl λK' t hRR=>tx2 hRR λdf lf=>?_;have hsu:Tk.Sub (((((kT tb).bI (Tk.mC w dn ln (dH W b 5))).bI (Tk.cu w an (aW (dH W b 5).length .none))).bI (Tk.cu w pc [])).bI (Tk.mC w df lf [])) ((((Tk.wp w pc [] tb).bI (Tk.mC w dn ln (dH W b 5))).bI (Tk.mC w df lf [])).bI (Tk.cu w an (aW (dH W b 5).length .none))):=
  Tt.sub [Tk.dM 1,Tk.tab 123 iB gf tb,Tk.mC w dn ln (dH W b 5),Tk.cu w an (aW (dH W b 5).length .none),Tk.cu w pc [],Tk.mC w df lf []] (.n (.n (.n (.n (.n (.l 0) (.l 1)) (.l 2)) (.l 3)) (.l 4)) (.l 5)) (.n (.n (.n (.n (.n (.l 4) (.l 0)) (.l 1)) (.l 2)) (.l 5)) (.l 3)) #v[_]
 refine q8 _ hsu.tk (λ_ _=>hsu.I) ?_;clear hsu;have fpc:bU ((((Tk.wp w pc [] tb).bI (Tk.mC w dn ln (dH W b 5))).bI (Tk.mC w df lf [])).bI (Tk.cu w an (aW (dH W b 5).length .none))) ((((Tk.wp w pc [] tb).bI (Tk.mC w dn ln (dH W b 5))).bI (Tk.mC w df lf [])).bI (Tk.cu w an (aW (dH W b 5).length .none))) (Tk.cu w pc []) (Tk.cu w pc []):=bU.left (bU.left (bU.left (bU.left (bU.left (bU.here rfl)))));refine pG (λho=>rn (f:=.ref 150) (ts:=[R8 "list.append" pc]) (ks:=[.bool true]) (R:=λK' t=>∃L:La,∃V,L.wa.pm≠1/\L.wa.pc=pc/\L.dn=dn/\L.ln=ln/\L.df=df/\L.lf=lf/\L.an=an/\t=bP 150 L.wa.dx/\K'=(((Tk.ws W (jQ W) w L.wa false false [V] S0 tb).bI (Tk.mC w L.dn L.ln (dH W b 5))).bI (Tk.mC w L.df L.lf (my []))).bI (Tk.cu w L.an (aW (dH W b 5).length .none)))
  ho (fg G rfl (λF=>.val (.ref 150)) rfl rfl rfl) (Bh (aq (EK aF fpc) aK) (ms jL k9) rfl rfl rfl rfl) (bK.fn G #v[]) ?_ rfl) (.inl rfl) rfl λK' t hRR=>?_
 .refine UK (x7 (n:=n+30) (C:=150) (fI:=67) (R:=λdx K'=>∃pm dn' ns ps V,1<pm/\K'=Tk.wr (UW W) w ⟨dx,pm,dn',ns,ps,pc⟩ false false [V] [] [[(8,10)]] 1 1 [] tb) G ((H _).le #v[bO 0x2729041e290460]) #v[] #v[] #v[] λdx A' hR'=>IX (n:=n+28) G rfl hR') λK3 t h=>?_;obtain⟨dx,rfl,pm,dn',ns,ps,V,hpm,rfl⟩:=h;exact⟨⟨⟨dx,pm,dn',ns,ps,pc⟩,dn,ln,df,lf,an⟩,V,by show pm≠1;exact kh hpm,rfl,rfl,rfl,rfl,rfl,rfl,rfl,rfl⟩
 clear fpc;revert hpc;refine laE hRR λL V hpm1=>?_;intro hpc;refine ii (lG y W b L) rfl ?_;refine C2 (λM'=>∃na c',M'=Tk.km W (jQ W) w L (dH W b 5) false [V,na] (cZ S0 5 114 []) (ab c') (my [])) aF (λho=>?_) #v[(bO 0x27104900538a1340d) hll] rfl rfl rfl λM' hM=>?_
 .refine cP (f:=.ref 120) (ts:=[.str (i7 (jJ (UW W) (5,[114]))),.dict (iy (UW W) (([]:List (Nat×Nat)).map (Cd W (jQ W))))]) ho aF (P4 G N9 (ats:=nT L.wa false false)) (kj (aq (bJ #v[]) (aq (C3 G) aK))) (bK.fn G #v[]) ?_ rfl;exact Ur (rq (n:=n) G ((H _).dn rfl) Y (Sj Y (λi j=>(qT W i j).1) (λi j=>(qT W i j).2)) hpm1 ok1 YA (.head _) #v[_]) λna c'=>⟨rfl,_,⟨na,c',rfl⟩,rfl⟩
 obtain⟨na,c',rfl⟩:=hM;have hN:=Rc (W:=W) hb4;have hd:=Sj Y (λi j=>(qT W i j).1) (λi j=>(qT W i j).2);refine dS (hChk W b Y hb234) λck1 ck2=>?_;have Z:=XA ck1;generalize hne:(dH W b 5).length=ne at hll ⊢;refine GR (OH Z) λS1 fl e1 hfl gS1 hm0=>sE hm0 λoS1 lS1 hmid okE=>?_;rw[e1];have ec0:ne+1=S1.c6.length-2+ne:=by rw[lS1];exact bO 0x233354062
 have eK:(Tk.km W (jQ W) w L (dH W b 5) false [V,na] S1 (ab c') (my [])).bI (Tk.cu w L.an (aW (ne+1) .none))=Tk.kw W (jQ W) w L (dH W b 5) ne false [V,na] S1 (ab c'):=by
  show _=(Tk.km W (jQ W) w L (dH W b 5) false [V,na] S1 (ab c') (my S1.ord)).bI (Tk.cu w L.an (aW (S1.c6.length-2+ne) .none));rw[oS1,<-ec0]
 rw[eK];refine E3 (ts:=[112,113,114,115,116].map λc=>.str (ch c)) (f:=λk l=>dz "name" (.str (Ss [112+k])) l)
  (λ_ (_:Bool×Option bu)=>True) (λ_ _=>lG y W b L) (λk z=>Tk.kw W (jQ W) w L (dH W b 5) ne z.1 [V,na] (([0,1,2,3,4].take k).foldl (mJ (dE W b) fl) S1) z.2)
  (iC (t:=.str (Ss [112,113,114,115,116])) (bJ #v[]) (xl (H _).1)) (λ_ _=>P9) (λk t X=>?_) (false,ab c') trivial rfl rfl ?_ ?_
 .have ht:t=.str (Ss [112+k]):=by
   match k,X with
   |0,X=>exact(bt X).symm
   |1,X=>exact(bt X).symm
   |2,X=>exact(bt X).symm
   |3,X=>exact(bt X).symm
   |4,X=>exact(bt X).symm
   |k+5,X=>cases X
  subst ht;exact hO (.inl rfl)
 .rintro L1 k ⟨rd2,tb2⟩ O _;simp only;have hk5:k<5:=O;have hjk:=Qs k hk5;refine sE (G1 (tc (dE W b) fl) (uq (dE W b) fl) okE gS1 k) λokk gk _ hnx=>dS (hnx _ hjk) λe2 Oc=>?_;rw[e2];generalize hSk:([0,1,2,3,4].take k).foldl (mJ (dE W b) fl) S1=Sk at *;have hgk:=uh gk.o5 gk.len;refine mU (b:=!ju k Sk.ord) ?_ (λhb=>?_) (λhb=>?_)
  .rw [<-Kl gk.o5 hk5 (nm:=[80+k]) (wo hk5)];refine rZ (eP (kD G (aq aF (aq (t:=.str (Ss [80+k])) ?_ aK)) (rF (n:=n) G ((H _).dn rfl) gv.left.left.right hgk (vG hk5))) lb);exact cF aF A5 AC bK.bi (by rw[<-IF hk5];exact yv (by rw[IF hk5];rfl)) rfl
  .have hm:ju k Sk.ord=false:=by cases q:ju k Sk.ord with
    |true=>rw[q]at hb;cases hb
    |false=>rfl
   have es:mJ (dE W b) fl Sk k=oW (dE W b) fl Sk k:=by delta mJ;rw[hm];rfl
   rw[es]at Oc ⊢;refine qN (λho=>rn (ts:=[bP 150 L.wa.dx,bP 369 L.dn,bP 369 L.df,BE (UW W),.str (Ss [112+k]),.val (.ref L.an)]) ho (fg G rfl (λF=>.val (.ref 383)) rfl rfl rfl) (kj (aq aF (aq aF (aq aF (aq aF (aq aF (aq aF aK))))))) (bK.fn G #v[])
    (U4 (R':=λK' t=>t=.none/\∃P U,K'=(Tk.kw W (jQ W) w L (dH W b 5) ne P [V,na] (oW (dE W b) fl Sk k) U).bI L1) (IS (n:=n) G Y hd hpm1 hN #v[(bW 0x3e83900538a1340d01f) hne hll] fl Sk k Oc gk (A.deeper _) [V,na] rd2 tb2 ((H _).le #v[(bW 0x272904e310440531f) hfl])) λK' t h=>by obtain⟨rfl,P,U,rfl⟩:=h;exact⟨rfl,P,U,rfl⟩) rfl) (λK t h=>Qw h.1) rfl rfl λK' t hRR=>?_
   refine XI hRR λP U=>yL (P,U) trivial rfl
  .have hm:ju k Sk.ord=true:=by cases q:ju k Sk.ord with
    |false=>rw[q]at hb;cases hb
    |true=>rfl
   have es:mJ (dE W b) fl Sk k=Sk:=by delta mJ;rw[hm];rfl
   rw[es];exact yL (rd2,tb2) trivial rfl
 rintro ⟨rd2,tb2⟩ _;simp only;have g2:=Z.g2;have Ys:=Z.Ys;have g3:=Z.g3;have l3:=Z.l3;have ok4:=Z.ok4;have g4:=Z.g4;have ok5:(i3 (i3 (cZ (mI (dE W b)) 5 122 (kG (mI (dE W b)).ord)) 5 122) 5 114).ok=true:=Z.ok5;have o2:=Z.o2;have out5:(i3 (i3 (cZ (mI (dE W b)) 5 122 (kG (mI (dE W b)).ord)) 5 122) 5 114).c6=_:=Z.c6;have hlen5:List.take (AD (λc=>T.str (ch c)) [112,113,114,115,116]).length [0,1,2,3,4]=([0,1,2,3,4]:Q1):=rfl;rw[hlen5,<-hmid];generalize mI (dE W b)=I at *;have hg2:=uh g2.o5 g2.len;refine pH (n:=2) (ts:=(my I.ord).map kY) ?_ ?_ (.inl rfl) rfl λit hit=>?_
 .exact Jk (f:=.ref 333) aF (k8 G iva (ats:=[("_headers",.val (.ref L.lf))]) rfl #v[] #v[] (kb w) (oZ w)) AC (bK.fn G #v[]) (yq (n:=n) G ((H _).dn rfl) gv.left.right hg2) rfl
 .rw [wy,bg];intro kv _;rfl
 have hls2:=Mo g2.o5 g2.len;refine cy (t:=.str (T.list ((my I.ord).map kY)).toD.shown) (ul (x:=("items" : bT)) (n:=0) tG.right hit rfl rfl ?_) (.inl rfl) rfl ?_
 .exact dD G aF bK.ty (rC (k:=n) 2 ((H _).dn rfl) hg #v[_] (Fa hg2) (wj _) (HZ hls2))
 have A2:bU ((Tk.kw W (jQ W) w L (dH W b 5) ne rd2 [V,na] I tb2).bI (Tk.cu w it ((my I.ord).map kY))) ((Tk.kw W (jQ W) w L (dH W b 5) ne rd2 [V,na] I tb2).bI (Tk.cu w it [])) (Tk.cu w it ((my I.ord).map kY)) (Tk.cu w it []):=bU.right (bU.here rfl);refine rj (λho=>cP ho aF (Q5 A2) AC bK.bi (KI A2 (by rw[af,BF,aJ];have:=g2.len;exact(bO Sw2) this)) rfl) rfl rfl <|q8 (Tk.kw W (jQ W) w L (dH W b 5) ne rd2 [V,na] I tb2) (λx hx=>ac _ hx) (λ_ _ h=>h.1) (ii (lH y W b L (T.list ((my I.ord).map kY)).toD.shown) rfl ?_);generalize hld:(T.list ((my I.ord).map kY)).toD.shown=ld;have ol5:I.ord.length=5:=by rw[o2];exact yN _ 5
 have hall:=Nk g2.o5 g2.nd ol5;refine gY (t:=.dict (iy (UW W) ((kG I.ord).map (Cd W (jQ W))))) ?_ rfl rfl (.inl rfl) ?_
 .rw [LH Y];refine Bp (ts:=oR.map λc=>.str (ch c)) (f:=λk l=>dz "name" (.str (Ss [oR.getD k 0])) l) (p:=λ_=>true) G nf su (iC (t:=.str (Ss oR)) (bJ #v[]) (xl (H _).1)) #v[_] ?_ (λk=>j7 (.inl rfl)) (λk O cells Lo D kn J=>je) ?_ ?_ (λx=>rfl)
  .intro k t X cells L0 s0 F0;have ht:t=.str (Ss [oR.getD k 0]):=rI X _;subst ht;exact hO (.inl (kH rfl #v[_]))
  .intro k O _ cells Lo D kn J;have hul:=(Se Y).len (Od.getD k 0);have X:i7 (jJ (UW W) (Od.getD k 0,[116]))=Ss (([123]++UW W (Od.getD k 0))++[125,116]):=by delta i7 pv;simp
   rw[X];exact bo (bo (bJ #v[]) (cF (bD J) Mm (kj (aq (bD J) (aq (bD J) aK))) bK.bi (MP (Ji W O)) rfl) (eO (a:=[123]) (b:=UW W (Od.getD k 0)) (by rw[bx];exact(bO Sv3) hul))) (bJ #v[]) (eO (by rw[aw,bx];show 1+_+2<=10000000;exact(bO Sv2) hul))
  .intro k O _ cells Lo D kn J;have hget:∀t,nL (my I.ord) [oR.getD k 0]=t->∀ax,cR D w (A.deeper ax) (.ref 189) [bP 369 L.df,.str (Ss [oR.getD k 0])] [] [] t:=λt e ax=>e▸yF (n:=n) G ((H ax).dn rfl) (λF s h=>(gv.left.right) F s (kn F s h)) hg2 (Td k O);by_cases h2:k<2
   .rw [TI _ h2];exact MF (b:=false) (t:=.none) (kD G (aq (bD J) (aq (bD J) aK)) (hget _ (NE g2.o5 h2) _)) pU λ_=>E6 (bD J)
   .have hne2:(!decide (Ss (jr (UW W) (jQ W) [Bl I.ord k])=jx))=true:=by
     have hx:=bS (hall (6-k) #v[(bO 0x530635123016c) h2]);delta Bl;rw[if_neg h2,oq,jD _ _ (by simp;exact(bW 0x3e839030294110e531f) ol5 hx),decide_eq_false (λq=>by have:=rE.mp q;cases this)];rfl
    exact MF (b:=true) (t:=.str (Ss (jr (UW W) (jQ W) [Bl I.ord k]))) (u:=.none) (kD G (aq (bD J) (aq (bD J) aK)) (hget _ (Kv (W:=W) (d:=jQ W) g2.o5 hall #v[(bO 0x5300530f) ol5] O h2) _)) (hne2▸yJ (by rw[cX,aJ];have:=(xg (d:=jQ W) hd.Zw [Bl I.ord k]);rw[bx]at this;exact(bO 0x10000007900642910f0d) this)) λh=>absurd h #v[_]
 have e5:([V]++[na]:List bu)=[V,na]:=rfl;refine qN (λho=>yy (R:=λK' ts=>∃P U,ts=[.list [.none,.none,.none]]/\K'=(Tk.km W (jQ W) w L (dH W b 5) P [V] (i3 (i3 (cZ I 5 122 (kG I.ord)) 5 122) 5 114) U (my I.ord)).bI (Tk.cu w L.an (aW (I.c6.length-2+ne) .none)))
  (R':=λK' t=>t=.none/\∃P U,K'=(Tk.km W (jQ W) w L (dH W b 5) P [V] (i3 (i3 (cZ I 5 122 (kG I.ord)) 5 122) 5 114) U (my I.ord)).bI (Tk.cu w L.an (aW (I.c6.length-2+ne+3) .none))) aF (yl (bU.right (bU.here (L':=Tk.cu w L.an (aW (I.c6.length-2+ne) .none)) rfl))) ?_ bK.bi (λK' ts h=>?_) rfl) (λK t h=>Qw h.1) rfl rfl λK' t hRR=>?_
 .refine vc.cC (qP (R:=λK' t=>t=.list [.none,.none,.none]/\∃P U,K'=(Tk.km W (jQ W) w L (dH W b 5) P [V] (i3 (i3 (cZ I 5 122 (kG I.ord)) 5 122) 5 114) U (my I.ord)).bI (Tk.cu w L.an (aW (I.c6.length-2+ne) .none))) ?_ rfl) λK' ts h=>by obtain⟨t,rfl,rfl,P,U,rfl⟩:=h;exact⟨P,U,rfl,rfl⟩
  refine n8.cC (Iq (R:=λK' ts=>ts=[.none,.none,.none]/\∃P U,K'=(Tk.km W (jQ W) w L (dH W b 5) P [V] (i3 (i3 (cZ I 5 122 (kG I.ord)) 5 122) 5 114) U (my I.ord)).bI (Tk.cu w L.an (aW (I.c6.length-2+ne) .none))) ?_ λK' ts h=>by rw[h.1];show 3<=be;decide) λK' t h=>by obtain⟨ts,⟨rfl,h2⟩,rfl⟩:=h;exact⟨rfl,h2⟩
  refine r7 (R:=λK' t=>t=.none/\∃nz c2,K'=(Tk.km W (jQ W) w L (dH W b 5) rd2 ([V,na]++[nz]) (cZ I 5 122 (kG I.ord)) (ab c2) (my I.ord)).bI (Tk.cu w L.an (aW (I.c6.length-2+ne) .none))) ?_ (λK1 t1 h1 ho1=>?_) rfl
  .refine cP (f:=.ref 120) (ts:=[.str (i7 (jJ (UW W) (5,[122]))),.dict (iy (UW W) ((kG I.ord).map (Cd W (jQ W))))]) ho aF (P4 G N9 (ats:=nT L.wa true rd2)) (kj (aq (bJ #v[]) (aq aF aK))) (bK.fn G #v[]) ?_ rfl;exact Ur (rq (n:=n) G ((H _).dn rfl) Y hd hpm1 Ys g2.wk (.tail _ (.head _)) #v[_]) λnz c2=>⟨rfl,nz,c2,rfl⟩
  revert ho1;refine XI h1 λnz c2=>?_;intro ho1;refine r7 (R:=λK' t=>t=.none/\∃P U,K'=(Tk.km W (jQ W) w L (dH W b 5) P [V,na] (i3 (cZ I 5 122 (kG I.ord)) 5 122) U (my I.ord)).bI (Tk.cu w L.an (aW (I.c6.length-2+ne) .none))) ?_ (λK2 t2 h2 ho2=>?_) rfl
  .refine cP (f:=.ref 133) (ts:=[.str (i7 (jJ (UW W) (5,[122])))]) ho1 aF (P4 G N9 (ats:=nT L.wa true rd2)) (kj (aq (bJ #v[]) aK)) (bK.fn G #v[]) ?_ rfl;exact Te (u6 (n:=n) G ((H _).dn rfl) Y hpm1 ok4 g3.wk #v[_] (.tail _ (.head _)) #v[_]) λP=>⟨rfl,P,_,rfl⟩
  revert ho2;refine XI h2 λrd3 tb3=>?_;intro ho2;refine r7 (R:=λK' t=>t=.none/\∃P U,K'=(Tk.km W (jQ W) w L (dH W b 5) P [V] (i3 (i3 (cZ I 5 122 (kG I.ord)) 5 122) 5 114) U (my I.ord)).bI (Tk.cu w L.an (aW (I.c6.length-2+ne) .none))) ?_ (λK3 t3 h3 ho3=>Dx ho3 ⟨by rw[h3.1],h3.2⟩) rfl;refine cP (f:=.ref 133) (ts:=[.str (i7 (jJ (UW W) (5,[114])))]) ho2 aF (P4 G N9 (ats:=nT L.wa true rd3)) (kj (aq (bJ #v[]) aK)) (bK.fn G #v[]) ?_ rfl;exact Te (u6 (n:=n) (as:=[V]) (na:=na) G ((H _).dn rfl) Y hpm1 ok5 g4.wk #v[_] (.head _) #v[_]) λP=>⟨rfl,P,_,rfl⟩
 .obtain⟨P,U,rfl,rfl⟩:=h;have h100:I.c6.length<=100:=(pW Ys g2.wk g2.o5 g2.nd).2.2.2.2;refine(vp (bU.right (bU.here (L':=Tk.cu w L.an (aW (I.c6.length-2+ne) .none++[.none,.none,.none])) rfl)) (by rw[dr,aJ];show _+3<=_;exact(dO 0x100000079331230544064290d538a1341d12f) hne hll h100)).cC λK' t h=>?_;obtain⟨rfl,rfl⟩:=h;refine⟨rfl,P,U,?_⟩;have er:aW (I.c6.length-2+ne) T.none++[.none,.none,.none]=aW (I.c6.length-2+ne+3) .none:=by
   rw[eH,eH,eH];simp
  rw[er]
 refine XI hRR λrd5 tb5=>?_;generalize hS5:i3 (i3 (cZ I 5 122 (kG I.ord)) 5 122) 5 114=S5 at out5 ⊢;generalize hcc:I.c6.length-2+ne+3=cc;have hccz:cc<=1000:=by have:=(pW Ys g2.wk g2.o5 g2.nd).2.2.2.2;exact(lM 0x3e83900642938d03322338544f538a1342d21f) hne hll hcc this
 refine ly ?_ ?_
 .refine aN (a:=.list []) (b:=.list []) (mf ?_ rfl) (k7 aK #v[_]) (ve (k:=n) 1 ((H _).dn rfl) #v[_] rfl);have ef:(T.list [])=.list (((am cc).filter λ_=>false).map λ_=>T.none):=by simp
  have er:(am cc).map (λ_=>T.none)=aW cc .none:=by rw[R0,aZ]
  rw[ef];have fan:bU ((Tk.km W (jQ W) w L (dH W b 5) rd5 [V] S5 tb5 (my I.ord)).bI (Tk.cu w L.an (aW cc .none))) ((Tk.km W (jQ W) w L (dH W b 5) rd5 [V] S5 tb5 (my I.ord)).bI (Tk.cu w L.an (aW cc .none))) (Tk.cu w L.an (aW cc .none)) (Tk.cu w L.an (aW cc .none)):=bU.right (bU.here rfl);refine m6 (n:=cc) (τ:=λ_=>.none) (ex:=[L.an]) nf su (by rw[er];exact BY (H _).1 aF fan) (λa ha F s h=>?_) (HZ hccz) (.inl rfl) (λi hi cells Lo2 D kn J=>gW (aN (bD J) fQ eR)) (λi hi hp=>by cases hp);cases aB.mp ha;refine sE (h.apart L.an (fan.sub L.an (.head _))) λq1 q2 _ q4=>⟨q1,q2,q4⟩
 have htie:(λi j=>decide (jQ W i j<=b))=dE W b:=rfl;have hpgl:=MJ Y hd Z.itk;have hlen6:=Z.len;have hitk:=Z.itk;refine cy (t:=.str (Ss (nc W (jQ W) (mv (dE W b) (kr (dE W b) 5))))) (ul (x:=("pieces" : bT)) (n:=0) (tG.left (tG.left (tG.left (tG.X9 (tG.left (tG.left tG.right)))))) hpc rfl rfl ?_) (jE rfl rfl) rfl ?_
 .rw [Eu,<-out5];exact cF (bJ (l:=[]) #v[]) yf (kj (aq aF aK)) bK.bi (yo (by rw[out5,<-Eu];exact(bW 0x15f9059003c291d104b0c0d) hpgl hlen6)) rfl
 refine xD (t:=λN=>wV N (kr (dE W b) 5)) (N0:=1) (LW (fg G rfl (λF=>.val (.ref 388)) rfl rfl rfl) (kj (aq aF (aq aF aK))) (bK.fn G #v[]) (CL (n:=n) G ((H _).dn rfl) λF s h=>h.cV.1.1.1.2.1.1.2.1) rfl) (λF s h=>h.1.1.1.2.1.1.2.1) (λ_ _ _ _ h r=>r.Sv h) (jE rfl rfl) rfl λN hN=>q8 ((Tk.dM N).bI (Tk.tab 123 iB gf tb5)) (λx hx=>ag _ (ac _ (ac _ (ac _ (ag _ (ag _ hx)))))) (λF s h=>⟨h.1,h.2.1.1.1.1.2.1.2.1,kq⟩) ?_;have hol:=yN (dE W b) 5;have hlt:=Gs (dE W b) 5;have hgo:∀k,k<5->(kr (dE W b) 5).getD k 0<5:=λk O=>by rw[ar,ay #v[(bW Su6) hol O]];exact hlt _ (bV _)
 have hon:=o2▸g2.nd;have hoa:=Nk hlt hon hol;have htold:=Pa (tie:=dE W b) hol hlt;have hck:=λk O=>QA ck2 (k:=k) O;rw[o2]at hld;generalize ho5:kr (dE W b) 5=o at *;generalize htt:dE W b=tie at *;refine cy (t:=.list ((am 5).map λk=>mT (pR tie o k))) (mf ?_ rfl) (jE rfl rfl) rfl ?_
 .refine jc (n:=5) (τ:=iT) (g:=λk=>mT (pR tie o k)) nf su (me (n:=5) G hR.1) #v[_] (.inr rfl) (λk O cells Lo2 D kn J=>mf ?_ rfl);have ef:mT (pR tie o k)=.list (((am k).filter λm=>tie (o.getD m 0) (o.getD k 0)).map iT):=rfl;rw[ef];refine m6 (n:=k) (τ:=iT) (ex:=[]) J su (iC (dD G (bD J) bK.ty (lQ (n:=k) #v[(bO Sv6) O])) (rc hR.1)) (λa ha=>nomatch ha) (by rw[aJ];exact(bO 0x10000007900530e) O) (.inl rfl) (λm hm cells2 Lo3 D2 sub2 S=>?_) (λm hm hp cells2 Lo3 D2 sub2 S=>bD S);rw[<-htt];exact gW (aN (bf (bf (bD S) (bf (we (N:=N) (bD S)) (bD S) (nt #v[(dO 0x10120e532e531f) hol O hm] #v[(bO Su5) hol])) (lX (hgo m #v[(bW 0x530110e531e) O hm]))) (bf (we (N:=N) (bD S)) (bD S) (nt #v[(bW Su6) hol O] #v[(bO Su5) hol])) (lW (hgo k O))) (bD S) v0)
 refine ii (lZ y W b ld (nc W (jQ W) (mv tie o)) N o tie) rfl ?_;refine ny (n:=5) (τ:=iT) (λ_=>lZ y W b ld (nc W (jQ W) (mv tie o)) N o tie) (λ_=>(Tk.dM N).bI (Tk.tab 123 iB gf tb5)) (me (n:=5) G hR.1) (jE rfl rfl) (λ_=>⟨rfl,rfl⟩) rfl rfl ?_ ?_
 .intro L1 k O;refine dS (hck k O) λhc1 hc2=>gY (t:=mT (Dg tie o (mv tie o) k)) ?_ rfl rfl (.inl rfl) ?_
  .rw [M8];refine m6 (n:=4-k) (τ:=λm=>iT (k+1+m)) (ex:=[]) nf su (iC (i0 (jo G) (kj (aq (pL (k:=k) aF) (aq bA aK))) bK.ty (As (a:=((k+1:Nat):Int)) (b:=5) #v[(jP Ru6) O sy] #v[(jP Ru5) O sy] #v[_] #v[_]) rfl) ?_) (λa ha=>nomatch ha) (by rw[aJ];exact(bO 0x10000007904350530e) O) (.inl rfl) (λm hm cells Lo D kn J=>?_) (λm hm hp cells Lo D kn J=>bD J)
   .rw [show ((5:Int)-((k+1:Nat):Int)).toNat=4-k by exact(bO 0x435067535b2530e) O];exact CN (H _).1
   .have hm2:=hc2 m hm;generalize hmm:k+1+m=m' at hm2 J ⊢;have hm5:m'<5:=#v[(dO 0x530102164f14352e531e) O hm hmm];rw[O5,GZ];refine gW (dN (dR (aN (bf (bf (bD J) (bD J) (gz #v[(bO Su8) hm5] #v[(jP Su7) hm5 ir] (MB tie o hm5))) (iJ (g9 (td bA)) ct ct) (ug (by have:=GO tie o m';exact(lM 0x3e83900380d5338e382164f531e) O hmm hm5 this))) (k7 (ts:=[k].map iT) (aq (bD J) aK) (by show 1<=be;decide)) (Vx (H _))) λhkid=>dR ?_ λ_=>rS));rw[<-GZ]at hkid;refine mB (Xb hm2 hkid) λl hl hne e=>?_;rw[e,<-PA hne];refine aN (i0 (f:=.builtin "min") (jo G) (kj (aq (t:=.list (((nA l).map λ(n:Nat)=>(n:Int)).map .int)) ?_ aK)) bK.bi (BB (H _).1 (by rw[af];exact tO.mpr hne)) rfl) (bD J) C1;rw[aQ];exact kD G (aq (bD J) (aq (bD J) aK)) (Fy (n:=n) G ((H _).dn rfl) Y hd hm5 hitk hlen6 hl)
  have hcl:=VP tie o (mv tie o) k;have hll:=Nq (pR tie o k);have hul:=GO tie o k;refine ly ?_ ?_
  .have e1:∀x:Int,(x != x)=false:=λx=>by simp
   rw[<-e1 ((sR tie (o.getD k 0):Nat):Int)];refine aN (a:=iT (sR tie (o.getD k 0))) ?_ ?_ Ka
   .rw [<-hc1];exact bo (dD G aF bK.bi (Gy #v[(dO 0x3e83900430d2104f) hc1 hcl])) (dD G (bf (bf aF aF (gz #v[(bO Su8) O] #v[(jP Su7) O ir] (MB tie o O))) (iJ (g9 (td bA)) ct ct) (ug #v[(bW 0x3e8390010d531e) O hul])) bK.bi (Gy #v[(bO 0x3e83900130d) hll])) ku
   .rw [<-htie];exact kD G (aq aF (aq aF (aq (bf (we (N:=N) aF) aF (nt #v[(bW Su6) hol O] #v[(bO Su5) hol])) aK))) (Fl (n:=n) G ((H _).dn rfl) (hgo k O))
  exact ma rfl
 refine i9 (t:=.bool true) ?_ λv F' s' h' r=>hQ v _ ((Tk.dM N).bI (Tk.tab 123 iB gf tb5)) F' s' ⟨rfl,λF s h=>⟨_,h.2.1.1⟩⟩ h'.d6 h'.cV (λa ha=>⟨(h'.apart a ha).1,(h'.apart a ha).2.1,.inl ha⟩) r;have hho:=Py o hol;have epg:nc W (jQ W) (mv tie o)=jr (UW W) (jQ W) (Dc (λi j=>decide (jQ W i j<=b)) o):=by rw[Uu,htold,htie]
 refine VB (t:=.bool true) ?_ lb (E6 ?_)
 .have e1:decide (ld=ld)=true:=decide_eq_true rfl;rw[<-e1];refine ky aF ?_ nv;rw[<-hld];have hg3:jC (my o):=o2▸hg2;have hls3:(T.list ((my o).map kY)).toD.shown.length<=200:=o2▸hls2;have e2:(my o).map kY=(am 5).map λk=>kY ([80+o.getD k 0],[48+k]):=by rw[hho,aQ];rfl
  refine i0 (jo G) (kj (aq (t:=.list ((my o).map kY)) ?_ aK)) bK.ty (rC (k:=n) 2 ((H _).dn rfl) hg #v[_] (Fa hg3) (wj _) (HZ hls3)) rfl;rw[e2];refine mf (jc (n:=5) (τ:=iT) (g:=λk=>kY ([80+o.getD k 0],[48+k])) nf su (me (n:=5) G hR.1) #v[_] (.inl rfl) (λk O cells Lo D kn J=>?_)) rfl;exact eC (aq (t:=.str (ch (80+o.getD k 0))) (bf (bJ (l:=[80,81,82,83,84]) #v[]) (bf (we (N:=N) (bD J)) (bD J) (nt #v[(bW Su6) hol O] #v[(bO Su5) hol])) (MN (hgo k O))) (aq (dD G (bD J) bK.ty (xh (k:=k) #v[(bO 0xa301530e) O])) aK)) (by show 2<=be;decide)
 .have e1:decide (Ss (nc W (jQ W) (mv tie o))=Ss (nc W (jQ W) (mv tie o)))=true:=decide_eq_true rfl;rw[<-e1];refine ky aF ?_ nv;rw[epg];exact kD G (aq aF (aq aF (aq aF (aq aF aK)))) (Iu (n:=n) G ((H _).dn rfl) hd #v[(bO 0x130013d) (by assumption)] iv1 hol hlt hoa)
end Mine
namespace Mine
open PySem PySem.W PySem.Spec PySem.Calls PyProof.Rows
def Jg:∀{ns:List Int} {vs:List aE},WellAll w.params h vs (ofPys (ns.map .int))->da w F vs (ns.map T.int):=@gx _ _ (fun {vs} r=>by
 have b:WellAll w.params h vs []:=r;cases b with
 |nil=>exact .nil) λn ns c {vs} r=>by
 have b:WellAll w.params h vs (.int n::ofPys (ns.map .int)):=r;cases b with
 |cons a d=>cases a with
  |int z t=>exact .cons (.int n t) (c d)
def Rk(n:∀W b,zB W->(b=2\/b=3\/b=4)->Gp W b)(p:∀f∈j9,Hq f)(s:∀W b,zB W->(b=2\/b=3\/b=4)->Fd (dE W b)=true/\EW (dE W b)=true) :
 WalkO qv V7 (λ_ _=>True) HK.says PySem.Challenge.rw_tc0100_01.row.toRowW lwD [] λf vs=>YV f vs:=by
 intro w N i mg X G Y a o pm Z S dV kV ho U V hD A O args P as u x C E F;have y:(KF w.params).In i.heap:=km_in_of Y;refine Ground.open G ?_;intro T B D TE TW
 wrow_args u x C E F
 rename_i k _ _ _ _ _ _ _ l _ _ _ _ z _ _ _ H _
 have I:k.length<=63:=#v[(bO 0x3f2900073f2946c) H];have e2:a=408:=by have h:=A.symm.trans (show mg "law" = ab (.ref 408) from mg_of y T.g #v[]);cases h;rfl
 subst e2;have d:TabsAt [(125,123)] i.heap:=λq Q=>by
  rw[aB.mp Q];exact⟨codeHd_of_K y #v[],(km_tabs_of Y) 123 (.head _)⟩
 have z:Well w.params i.heap (.ref l) (.list (ofPys (k.map .int))):=z;cases z with
 |list e r=>
  have J:Rm (0+40) callerA:=⟨rfl,by decide +kernel,by decide +kernel⟩;refine(LO (tb:=aC) ⟨ghost_K d y #v[],_,_,_,_,_,ghost_top d T⟩ J n p s rfl I).run (λb=>(ghostOf i.heap [(125,123)]).get? b) i [.ref l] [] ⟨λb o e=>e,(λb o e=>of_hideAll _ e)⟩ ⟨(d _ (.head _)).2,λc h=>nomatch h⟩ ?_ (.cons (.list (ghost_get d e (λq=>by cases q)) (Jg r)) .nil) .nil _ _ ?_
  .intro b j;cases aB.mp j;exact⟨hideAll_none _ (.head _),aS (d _ (.head _)).2⟩
  .rintro v t K' F' s' ⟨rfl,L⟩ g R _ r;refine r.eB ?_;have keep:∀b o,b≠123->i.heap.get? b=ab o->s'.heap.get? b=ab o:=λb o j e=>g.keep b o (λh=>j (aB.mp h)) e;refine iA (L F' s' R) λo m=>?_;obtain⟨ps,M⟩:∃ps,A6 iB o=tabObj ps:=by cases o<;>exact⟨_,rfl⟩
   rw[M]at m;refine⟨.inl ⟨.bool true,.bool true,[],rfl,λ_=>rfl,.bool true,by kernel_rfl,λ_=>⟨iS,kq⟩⟩,⟨λb o e=>?_,λb o e=>?_⟩,g.os,g.gens.2 (.of_eq O)⟩
   .by_cases j:b=123
    .subst j;have e2:=(d _ (.head _)).2;rw[e]at e2;obtain rfl:=bt e2;exact .inr (.inl ⟨((d _ (.head _)).1.tab (d _ (.head _)).2).isCodeTable,rfl,#[],ps,rfl,by rw[Array.empty_append];exact m⟩)
    .exact .inl (keep b o j e)
   .by_cases j:b=123
    .subst j;exact⟨_,m⟩
    .exact⟨o,keep b o j e⟩
def Jl(a:∀W b,zB W->(b=2\/b=3\/b=4)->Gp W b)(c:∀f∈j9,Hq f)(d:∀W b,zB W->(b=2\/b=3\/b=4)->Fd (dE W b)=true/\EW (dE W b)=true):PySem.Challenge.rw_tc0100_01.Holds:=LV (Rk a c d)
end Mine
namespace Mine
open PySem PySem.W
noncomputable def CV(x y:Nat):Nat:=cond (fy y x) y x
def gQ(l:Q1):Nat->Nat:=kI (λz=>0) (λx z a n=>lT x (λm z=>a m) n) l
def sQ(l:Q1):Nat->S2:=kI (λz z=>[]) (λx r a n v=>lT (v::r) (λm z=>x::a m v) n) l
noncomputable def loQ(x:Nat):Nat:=cond (cG x 65) 97 x
noncomputable def Iv(x y:Nat):Nat:=cond (cG x y) 0 (cond (cG (loQ x) (loQ y)) 1 2)
theorem Bm(x y:Nat):mn (x:Int) (y:Int)=((CV x y:Nat):Int):=by
 delta mn CV;by_cases h:y<x
 .rw [if_pos #v[(bW 0x1707410e) h],show fy y x=true from jn.mpr h];rfl
 .rw [if_neg #v[(bW 0x1707461016c) h],show fy y x=false from f9.mpr λq=>h (jn.mp q)];rfl
theorem Ay:∀(l:Q1) (n:Nat),l.getD n 0=gQ l n:=iX (λz=>rfl) λz z a n=>n.rec rfl λn z=>a n
theorem WW:∀(l:Q1) (n v:Nat),l.set n v=sQ l n v:=iX (λz z=>rfl) λx z a n=>n.rec (λz=>rfl) λn z v=>congrArg (x::·) (a n v)
noncomputable abbrev cI(l:Q1):List Int:=l.map λ(n:Nat)=>(n:Int)
theorem gI(l:Q1)(i:Nat):(cI l).getD i 0=((gQ l i:Nat):Int):=by
 rw[<-Ay,ar,ar,aI];cases l[i]?<;>rfl
def IM(c:Nat)(a row:Q1)(e:Nat)(i:Nat):Nat×Nat×Nat×Q1:=
 lT (e,e,9223372036854775807,row) (λi t=>HY (λd x=>HY (λr y=>HY (λm row=>(λf=>(λb=>(f,b,CV m b,sQ row i b)) (CV (nS (CV r f) 2) (nS d (Iv c (gQ a i))))) (gQ row i)) y) x) t) i
def cT(t:Nat×Nat×Nat×Q1):Int×Int×Int×List Int:=((t.1:Int),(t.2.1:Int),(t.2.2.1:Int),cI t.2.2.2)
theorem OW(c:Nat)(a row:Q1)(b:Nat)(hs:∀x∈a,pS c x=((Iv c x:Nat):Int)):∀i,i<=a.length->s8 c a (cI row) b i=cT (IM c a row b i):=ig (λz=>rfl) λi g h=>by
 show (λt:Int×Int×Int×List Int=>(t.2.2.2.getD i 0,mn (mn t.2.1 (t.2.2.2.getD i 0)+2) (t.1+pS c (a.getD i 0)),if mn (mn t.2.1 (t.2.2.2.getD i 0)+2) (t.1+pS c (a.getD i 0))<t.2.2.1 then mn (mn t.2.1 (t.2.2.2.getD i 0)+2) (t.1+pS c (a.getD i 0))else t.2.2.1,t.2.2.2.set i (mn (mn t.2.1 (t.2.2.2.getD i 0)+2) (t.1+pS c (a.getD i 0))))) (s8 c a (cI row) b i)=_;rw[g #v[(bW Su3) h]];have e:pS c (a.getD i 0)=((Iv c (gQ a i):Nat):Int):=by
  rw[<-Ay];refine hs _ ?_;rw[gD #v[(bW 0x101106d) h]];exact bV _
 rw[(show IM c a row b (i+1)=(λt:Nat×Nat×Nat×Q1=>(gQ t.2.2.2 i,CV (nS (CV t.2.1 (gQ t.2.2.2 i)) 2) (nS t.1 (Iv c (gQ a i))),CV t.2.2.1 (CV (nS (CV t.2.1 (gQ t.2.2.2 i)) 2) (nS t.1 (Iv c (gQ a i)))),sQ t.2.2.2 i (CV (nS (CV t.2.1 (gQ t.2.2.2 i)) 2) (nS t.1 (Iv c (gQ a i)))))) (IM c a row b i) from rfl)];generalize IM c a row b i=t;obtain⟨d,r,m,f⟩:=t;have e3:mn (mn (r:Int) ((gQ f i:Nat):Int)+2) (d+((Iv c (gQ a i):Nat):Int))=((CV (nS (CV r (gQ f i)) 2) (nS d (Iv c (gQ a i))):Nat):Int):=by
  rw[Bm,<-Bm (nS _ _)];rfl
 simp only[cT,e,gI,e3];rw[(show ∀x y:Nat,(if x<(y:Int)then (x:Int)else y)=((CV y x:Nat):Int) from λx y=>Bm y x)];simp only[Prod.mk.injEq,true_and];rw[<-WW];exact(D9 ..).symm
def Q8(a b:Q1)(j:Nat):Q1:=lT ((am a.length).map λi=>2+i*2) (λj row=>(IM (gQ b j) a row (Nat.mul j 2) a.length).2.2.2) j
def Cf(a b:Q1)(j:Nat):Nat×Nat×Nat×Q1:=IM (gQ b j) a (Q8 a b j) (Nat.mul j 2) a.length
section
variable {a b:Q1}(hs:∀y∈b,∀x∈a,pS y x=((Iv y x:Nat):Int))
include hs
theorem Hw{row:List Int}{j:Nat}(c:j<b.length)(e:row=cI (Q8 a b j)):s8 (b.getD j 0) a row ((j:Int)*2) a.length=cT (Cf a b j):=by
 subst e;rw[Ay];refine OW (gQ b j) a (Q8 a b j) (j*2) (hs _ ?_) a.length (ah _);rw[<-Ay,gD c];exact bV _
theorem Rv:∀j,j<=b.length->sO a b j=cI (Q8 a b j):=ig (λz=>by
 show ((am a.length).map λ(i:Nat)=>2+(i:Int)*2)=((am a.length).map λi=>2+i*2).map _;rw[aQ];rfl) λj c h=>by
 show (s8 (b.getD j 0) a (sO a b j) ((j:Int)*2) a.length).2.2.2=_;rw[Hw hs #v[(bW 0x101106d) h] (c #v[(bW Su3) h])];rfl
theorem MT{j:Nat}(c:j<b.length):So a b j=cT (Cf a b j):=Hw hs c (Rv hs j #v[(bW 0x10010e) c])
theorem PO{mx:Int}{r:Nat}(d:(Cf a b (b.length-1)).2.1=r)(f:∀j,j<b.length->(Cf a b j).2.2.1<=r)(c:0<b.length):∀n j,n+j=b.length->((r:Int)<=mx->HA a b mx n j=r)/\(mx<r->mx<HA a b mx n j):=ig (λj e=>by
 have:HA a b mx 0 j=r:=by
  show (if j=0 then 0 else (So a b (j-1)).2.1)=_;rw[if_neg #v[(bW 0x302610034f103e) c e],show j-1=b.length-1 by exact(bW 0x13151305210034f103e) c e,MT hs #v[(bW 0x1305101034f003e) c e],<-d];rfl
 rw[this];exact⟨λy=>rfl,id⟩) λn g j e=>by
 rw[Xo,MT hs (show j<b.length by exact(dO 0x10110264f) e)];by_cases z:(cT (Cf a b j)).2.2.1 > mx
 .rw [if_pos z];exact⟨λq=>by exact(vj 0x70650073c1704c01d) (f j #v[(dO 0x10110264f) e]) z q,λy=>by exact sj 0x604⟩
 .rw [if_neg z];exact g (j+1) #v[(dO 0x21604221064f) e]
end
noncomputable abbrev Es:Q1:=[0,97,65,98,38,45,61]
theorem M7:∀x∈Es,∀y∈Es,pS x y=((Iv x y:Nat):Int):=by decide +kernel
theorem Yk{l:Q1}(h:∀x∈l,x∈Es)(i:Nat):l.getD i 0∈Es:=by
 rw[ar];cases e:l[i]? with
 |none=>exact .head _
 |some x=>exact h x (bX e)
noncomputable def KL(n:Nat)(f:Nat->Bool):Bool:=lT true (λi r=>cond (f i) r false) n
theorem Pg{f:Nat->Bool}{n:Nat}(h:KL n f=true):∀i,i<n->f i=true:=by
 induction n with
 |zero=>exact λi h=>absurd h (ft _)
 |succ n a=>
  have h:cond (f n) (KL n f) false=true:=h;cases e:f n with
  |false=>rw[e]at h;cases h
  |true=>
   rw[e]at h;intro i hi;rcases nO i n with q|q
   .exact a h i q
   .obtain rfl:i=n:=by exact(bW 0x10201d160e) hi q
    exact e
def Yg(l:Q1):Q1->Bool:=kI (λm=>kI true (λz z z=>false) m) (λx z a m=>kI false (λy m z=>cond (cG x y) (a m) false) m) l
theorem L8:∀(l m:Q1),Yg l m=decide (l=m):=iX (λm=>m.rec rfl λz z z=>rfl) λx l a m=>m.rec rfl λy m z=>by
 show cond (cG x y) (Yg l m) false=_;rw[a m];by_cases h:x=y
 .subst h;rw[show cG x x=true from Nat.beq_refl x];simp
 .rw [show cG x y=false from f9.mpr λq=>h (jI q)];exact(decide_eq_false λe=>h (cA e).1).symm
def wyQ(x y:Q1):Q1:=
 (λs:Nat->Nat->Nat=>[s 0 0+s 1 1+s 2 2,4+s 0 0+s 1 1,4+s 0 0+s 1 2,4+s 0 1+s 1 2,4+s 0 0+s 2 1,4+s 0 0+s 2 2,4+s 0 1+s 2 2,4+s 1 0+s 2 1,4+s 1 0+s 2 2,4+s 1 1+s 2 2]) λi j=>Iv (gQ x i) (gQ y j)
def Yj(x y:Q1):Nat:=(λl:Q1=>kI 0 (λa l z=>(kI (λa=>a) (λb z c a=>c (CV a b)) l:Nat->Nat) a) l) (wyQ x y)
theorem T2{x y:Q1}(e:∀c∈x,c∈Es)(f:∀c∈y,c∈Es):qY x y=((Yj x y:Nat):Int):=by
 have g:ro x y=λi j=>((Iv (gQ x i) (gQ y j):Nat):Int):=by
  funext i j;delta ro;rw[M7 _ (Yk e i) _ (Yk f j),Ay,Ay]
 delta qY;rw[g];rw[(show rg (λi j=>((Iv (gQ x i) (gQ y j):Nat):Int)) 3=cI (wyQ x y) from rfl)];have key:∀(l:Q1) (a:Nat),(cI l).foldl (λa b=>if b<a then b else a) (a:Int)=(((kI (λa=>a) (λb z d a=>d (CV a b)) l:Nat->Nat) a:Nat):Int):=by
  intro l
  induction l with
  |nil=>intro a;rfl
  |cons b l d=>
   intro a;show (cI l).foldl _ (mn (a:Int) (b:Int))=_;rw[Bm,d]
 delta Yj;generalize h:wyQ x y=l
 match l with
 | []=>rfl
 |a::l=>exact key l a
def prQ(x y:Q1):Bool:=
 cond (Yg x y) (cG (Yj y x) 0) ((λt:Q1×Q1=>HY (λa b=>
  cond (cG a.length b.length) (kI false (λz r z=>(λv=>cond (KL b.length λj=>cK (Cf a b j).2.2.1 v) ((λd=>cond (cG v d) true (cond (cK 5 v) (cK 5 d) false)) (Yj y x)) false) (Cf a b r.length).2.1) b) false) t) (Gx x y))
def Ya(c:Nat):Bool:=j9.all λy=>[97,65,98,38].all λd=>[97,65,98,38].all λe=>prQ [c,d,e] y
def qbX:Ya 97=true:=by decide +kernel
def qaU:Ya 65=true:=by decide +kernel
def qbL:Ya 98=true:=by decide +kernel
def qaY:Ya 38=true:=by decide +kernel
def UG(b:x∈j9)(f:y∈j9):prQ x y=true:=by
 delta j9 at b;refine cY (dj.mp b) λc a b=>cY (dj.mp b) λd hd b=>cY (bp.mp b) λe g i=>?_;subst i;have h:Ya c=true:=by
  rcases aX.mp a with rfl|a
  .exact qbX
  rcases aX.mp a with rfl|a
  .exact qaU
  rcases aX.mp a with rfl|a
  .exact qbL
  obtain rfl:=aB.mp a;exact qaY
 exact bg.mp (bg.mp (bg.mp h y f) d hd) e g
def Hk:∀x∈j9,∀c∈x,c∈Es:=by decide +kernel
def Vm(a:∀c∈x,c∈Es)(b:∀c∈y,c∈Es):(∀c∈(Gx x y).1,c∈Es)/\∀c∈(Gx x y).2,c∈Es:=
 ⟨λc h=>a c (sK (sL h)),λc h=>b c (sK (sL h))⟩
def Ic(h:cond a b false=true):a=true/\b=true:=by cases a<;>simp_all
def SH(d:∀c∈a,c∈Es)(e:∀c∈b,c∈Es)(f:0<b.length)(g:KL b.length (λj=>cK (Cf a b j).2.2.1 (Cf a b (b.length-1)).2.1)=true) :
 (((Cf a b (b.length-1)).2.1:Int)<=mx->HA a b mx b.length 0=((Cf a b (b.length-1)).2.1:Nat))/\(mx<((Cf a b (b.length-1)).2.1:Nat)->mx<HA a b mx b.length 0):=
 PO (λy h x i=>M7 y (e y h) x (d x i)) rfl (λj k=>bE (Pg g j k)) f b.length 0 #v[bO 0x3042]
def L5(f:a≠b)(e:Gx a b=(t,u))(c:t.length=u.length)(d:0<u.length)(g:0<=mx):nK a b mx=HA t u mx u.length 0:=by
 delta nK;rw[if_neg f];simp only[e];rw[if_neg,if_neg #v[(vj 0x1707520f0460033c01f) c g]];rintro (h|h)
 .rw [h]at c;simp at c;exact(bO 0x9003e003f) c d
 .rw [h]at d;simp at d
def Yi(a:x∈j9)(f:y∈j9)(i:b=2\/b=3\/b=4):decide (nK x y b<=b)=decide (qY y x<=b)/\(qY y x<=b->nK x y b=qY y x):=by
 have h:=UG a f;have a:=Hk x a;have f:=Hk y f;rw[T2 f a];unfold prQ at h;rw[L8]at h;by_cases q:x=y
 .rw [decide_eq_true q]at h;have e:nK x y b=0:=by delta nK;rw[if_pos q]
  rw[(jI h),e];exact⟨rfl,λw=>rfl⟩
 .rw [decide_eq_false q]at h;refine dS (Vm a f) λj t2=>?_;generalize e:Gx x y=t at h j t2;obtain⟨t,u⟩:=t;refine dS (Ic h) λm h=>?_
  match u,h with
  |c::r,h=>
   refine dS (Ic h) λl h=>?_;have g:=SH (mx:=b) j t2 (lR _) l;rw[L5 q e (jI m) (lR _) #v[(O0 0x331040704c07150073c7c43053305823058c) i g]];have e0:(Cf t (c::r) r.length).2.1=(Cf t (c::r) ((c::r).length-1)).2.1:=rfl;rw[e0]at h;simp only at g;generalize (Cf t (c::r) ((c::r).length-1)).2.1=v at g h;generalize HA t (c::r) b (c::r).length 0=z at g;generalize Yj y x=d at h;have h:cond (cG v d) true (cond (cK 5 v) (cK 5 d) false)=true:=h;have h:v=d\/(5<=v/\5<=d):=by
    cases q:cG v d with
    |true=>exact .inl (jI q)
    |false=>
     rw[q]at h;refine dS (Ic h) λn o=>.inr ⟨bE n,bE o⟩
   clear l e0 j t2;rcases YX b v with k|k
   .have:=g.2 k;rw[decide_eq_false #v[(VK 0x1036014c) this],decide_eq_false #v[(Q3 0x7361704c0530153070128c1041704c17150173c7c43053305823058c) i g h k]];exact⟨rfl,λw=>by exact(Q3 0x7051073c014c1714c0530153070128c0141714c17051173c7c43153315823158c) i g h k this (by assumption)⟩
   .have:=g.1 k;rw[decide_eq_true #v[(O0 0x1030705c1073c) k this],decide_eq_true #v[(Q3 0x731715c0173c0530153070128c1041704c17150173c7c43053305823058c) i g h k this]];exact⟨rfl,λw=>by exact(Q3 0x7051073c1705c1173c0530153070128c0141714c17051173c7c43153315823158c) i g h k this (by assumption)⟩
def TO(W)(b)(d:zB W)(f:b=2\/b=3\/b=4):Gp W b:=by
 intro i j a c;have e:jQ W i j=qY (W j) (W i):=by
  delta jQ wm;rw[if_pos ⟨#v[(bW 0x5301531e10e) a c],c⟩,if_neg #v[(bW 0x101601e) a],if_pos a]
 have h:=Yi (d i #v[(bW 0x5301531e10e) a c]) (d j c) f;delta dE;rw[e];exact⟨h.1,λq=>h.2 (of_decide_eq_true q)⟩
def akQ(f:Q1):Bool:=(λa b=>cond (Yg (Gx a b).1 a) (cond (Yg (Gx a b).2 b) (cond (cG (Cf a b 4).2.1 8) (KL 5 λj=>cK (Cf a b j).2.2.1 (Cf a b 4).2.1) false) false) false) (45::45::f) (f++[61,61])
def qbv:∀f∈j9,nK f (f++[45]) 0=2/\nK ([45]++f) f 0=2/\(Gx ([45]++f) f).2=[]/\f.length=3:=by decide +kernel
def qci:j9.all akQ=true:=by decide +kernel
def qcF:∀f∈j9,∀c∈45::45::(f++[61,61]),c∈Es:=by decide +kernel
def qbI:∀f∈j9,45::45::f≠f++[61,61]:=by decide +kernel
def UT:∀f∈j9,Hq f:=by
 intro f b;refine sE (qbv f b) λi j k d=>⟨i,j,?_,k⟩;have e:=qcF f b;have h:=bg.mp qci f b;have l:∀c∈45::45::f,c∈Es:=λc h=>e c (by
  rcases aX.mp h with h|h
  .exact h▸.head _
  .rcases aX.mp h with h|h
   .exact h▸.head _
   .exact .tail _ (.tail _ (ac _ h)))
 unfold akQ at h;refine dS (Ic h) λe1 h=>dS (Ic h) λe2 h=>dS (Ic h) λe3 h=>?_;rw[L8]at e1 e2;have a:(f++[61,61]).length=5:=by rw[aw,d];rfl
 show nK (45::45::f) (f++[61,61]) 8=8;rw[L5 (qbI f b) (Prod.ext (of_decide_eq_true e1) (of_decide_eq_true e2)) (by rw[a];simp[d]) #v[(bO 0x31530f) a] #v[_]];have g:=(SH (mx:=8) l (λc h=>e c (.tail _ (.tail _ h))) #v[(bO 0x31530f) a] (by rw[a];exact h)).1;rw[a,(jI e3)]at g;rw[a];exact g #v[_]
def qcg(l:List Bool):Bool:=Fd (KC l)&&EW (KC l)
def bb{P:Bool->Prop}(a:P true)(c:P false)(b:Bool):P b:=b.casesOn c a
def OL:∀(n:Nat) {f:List Bool->Bool},O6 n f=true->∀l:List Bool,l.length=n->f l=true:=by
 intro n
 induction n with
 |zero=>exact λh l e=>ll.mp e▸h
 |succ n b=>
  intro f h l e;have h:((O6 n λl=>f (true::l))&&(O6 n λl=>f (false::l)))=true:=h;rw[bc]at h;refine GU (tF e) λa l q=>?_;rw[q]at e ⊢;have e:=pD e;exact bb (P:=λa=>f (a::l)=true) (b h.1 l e) (b h.2 l e) a
def qbN(a b c d e f:Bool):Bool:=O6 4 λl=>qcg (a::b::c::d::e::f::l)
def Vr:∀(a b c d e f:Bool),qbN a b c d e f=true:=by
 refine bb ?_ ?_<;>refine bb ?_ ?_<;>refine bb ?_ ?_<;>refine bb ?_ ?_<;>refine bb ?_ ?_<;>refine bb ?_ ?_<;>decide +kernel
noncomputable def GG(t:Lx1):List Bool:=[t 0 1,t 0 2,t 0 3,t 0 4,t 1 2,t 1 3,t 1 4,t 2 3,t 2 4,t 3 4]
def LM{t:Lx1}(a:∀i j,t i j=t j i)(hd:∀i,t i i=false)(b:∀i j,5<=j->t i j=false):t=KC (GG t):=by
 have up:∀i j,i<j->j<5->t i j=(GG t).getD (OB i j) false:=λi j h c=>by
  refine G9 (P:=λj=>∀i,i<j->t i j=(GG t).getD (OB i j) false) c N7 (qm N7 ?_) (qm (qm N7 ?_) ?_) (qm (qm (qm N7 ?_) ?_) ?_) (qm (qm (qm (qm N7 ?_) ?_) ?_) ?_) i h<;>kernel_rfl
 funext i j;unfold KC;rcases pF i j with q|q|q
 .rw [show fy i j=true from jn.mpr q,pB];rcases nO j 5 with h|h
  .rw [show fy j 5=true from jn.mpr h];exact up i j q h
  .rw [show fy j 5=false from f9.mpr λz=>absurd (jn.mp z) (aV.mpr h),show fy j i=false from f9.mpr λz=>absurd (jn.mp z) (aV.mpr (c9 q))];exact b i j h
 .subst q;rw[show fy i i=false from f9.mpr λz=>absurd (jn.mp z) (cp i)];exact hd i
 .rw [show fy i j=false from f9.mpr λz=>absurd (jn.mp z) (aV.mpr (c9 q)),show fy j i=true from jn.mpr q,pB];rcases nO i 5 with h|h
  .rw [show fy i 5=true from jn.mpr h,a i j];exact up j i q h
  .rw [show fy i 5=false from f9.mpr λz=>absurd (jn.mp z) (aV.mpr h),a i j];exact b j i h
def Tg(W:S2)(b:Int)(_:zB W)(c:b=2\/b=3\/b=4):Fd (dE W b)=true/\EW (dE W b)=true:=by
 have a:¬(9:Int)<=b:=by omega
 have e:dE W b=KC (GG (dE W b)):=LM (λi j=>by unfold dE;rw[A8]) (λi=>by unfold dE;rw[Hd];exact decide_eq_false a)
  (λi j h=>by unfold dE jQ;rw[if_neg λq=>absurd q.2 (aV.mpr h)];exact decide_eq_false a)
 rw[e];have h:=OL 4 (Vr (dE W b 0 1) (dE W b 0 2) (dE W b 0 3) (dE W b 0 4) (dE W b 1 2) (dE W b 1 3)) [dE W b 1 4,dE W b 2 3,dE W b 2 4,dE W b 3 4] rfl;exact(bc ..).mp h
end Mine
theorem PySem.Challenge.cw_tc0100_01_holds : PySem.Challenge.rw_tc0100_01.Holds :=
 Mine.Jl Mine.TO Mine.UT Mine.Tg
