import PyProof.Rows.All
import Wide.All
import OpenK.AllK
import Wide.FinOn
import PyProof.DictCompW
import PyProof.SetNew
import PyProof.SetRoads
import PyProof.StrReplace2
import PyProof.StrCalls2
import PyProof.ReprRoads
import KE.KxPercentT
import PyProof.RangeFor
import PyProof.ConsumeWalk
import PyProof.WalkInts
import PyProof.NeData
import KE.KEqDict
import PyProof.Rows.SortStr
import PyProof.Rows.TupDisplay
import Lean
import PySem.Challenge.RW_rp0002_08
open Array renaming getElem?_eq_getElem->dI,getElem?_toList->fJ,length_toList->kM,toList_append->pV,getElem?_eq_some_iff->qF,mem_toList_iff->vk,toList_push->yG,toList_eraseIdxIfInBounds->yR,getElem?_eq_none->GL,toList->GN,toArray_toList->I9,forIn_toList->Ld,size_modify->MY,any_toList->OX
open Bool renaming and_eq_true_iff->aU,or_eq_false_iff->bp,not_eq_true->bN,false_ne_true->de,eq_iff_iff->dM,or_eq_true_iff->dZ,and_eq_true->d8,or_false->ef,or_eq_true->gm,false_and->g8,and_false->jl,or_true->jE,eq_false_iff->mG,and_eq_false_iff->uy,noConfusion->Ao,and_true->E0,false_or->E1,or_assoc->E2,not_eq_true'->OY,and_self->Wr,true_and->Ws,or_comm->XC
open Classical renaming propDecidable->Bs
open Eq renaming symm->kY
open Exists renaming imp->XH
open ForInStep renaming yield->se
open HMul renaming hMul->PN
open Inhabited renaming default->kv
open Int renaming ofNat->aY,ofNat_lt->dG,negSucc->dH,natCast_nonneg->dW,toNat_natCast->eC,le_trans->fy,add_sub_cancel->fR,ofNat_le->kU,neg_le_neg->qW,not_lt->qX,le_of_lt->um,not_le->uo,negSucc_lt_zero->M1,toNat_of_nonneg->M3,lt_of_lt_of_le->O3,le_natAbs->XK,ofNat_inj->XM,lt_trans->μ,toNat->acz
open Int.ofNat renaming inj->ig
open LawfulBEq renaming eq_of_beq->bW
open List renaming length_map->aD,mem_of_getElem?->aJ,map_append->aK,length_append->aL,getElem?_map->aN,getElem?_eq_getElem->aP,replicate->aQ,getD_eq_getElem?_getD->aW,mem_singleton->aX,getElem?_eq_some_iff->bw,length_replicate->bx,getElem?_append_right->bO,append_nil->bQ,mem_append->bV,range->bX,getElem?_append_left->b0,length_cons->cq,append_assoc->cN,eq_of_mem_replicate->cU,map_cons->dc,tail_drop->df,all_eq_true->dw,length_range->dy,map_map->dQ,map_congr_left->d4,getElem?_eq_none->eS,mem_cons->eT,nodup_cons->eX,lookup_cons->fj,mem_of_mem_drop->fm,head?_drop->fG,mem_range->fZ,takeWhile_cons->gu,take_of_length_le->gF,map_drop->gG,length_take->gI,not_mem_nil->gJ,map_replicate->g9,count_append->iX,mem_append_left->iY,length_drop->jm,mem_filter->jP,getElem?_toArray->jY,take_append_drop->jZ,nodup_append->j2,length->kh,length_eraseIdx_of_lt->ki,nodup_nil->mH,tail_cons->mJ,eraseIdx_eq_take_drop_succ->nQ,contains_iff_mem->og,cons->oo,map_take->o1,count_replicate->px,eq_nil_of_length_eq_zero->pz,mem_map_of_mem->p9,toArray->qi,findIdx?_eq_none_iff->rt,getElem?_eq_none_iff->rz,getElem?_zip_eq_some->rD,ext_getElem?->rV,range'->rW,size_toArray->rZ,any_eq_true->s9,isEmpty_map->ta,map_nil->tY,mem_map->tZ,forIn_cons->uq,mem_of_mem_take->vY,getElem?_range->wY,perm_singleton->wZ,getElem?_inj->yU,map_set->yV,append_cons->Ap,getElem_mem->Aq,map_fst_zip->Ar,mem_reverse->As,range_succ->Bw,count_replicate_self->DY,mem_or_eq_of_mem_set->D0,getElem?_cons_succ->GO,length_eq_zero_iff->GP,pairwise_singleton->GR,drop_of_length_le->G2,map_id'->G3,length_filter_le->Jb,mem_append_right->Jc,getElem?_modify->JD,lookup->JE,range_eq_range'->JF,append_toArray->Lk,filterMap_cons->Ll,replicate_succ->Ln,filter_append->M4,getElem?_drop->M5,any_eq_false->O8,getElem?_set->O9,map_inj_left->Pa,drop_length->PT,filter_cons->PU,getElem_map->PV,find?_cons->TX,length_nil->TY,of_mem_zip->TZ,drop_zero->Uy,map->Uz,nil->UA,perm_cons->UB,all_cons->Wy
open List.Pairwise renaming filter->π,imp->υ
open List.cons renaming inj->fK
open Nat renaming beq->aA,le_trans->aC,le_refl->aG,lt_of_lt_of_le->aH,ble->aO,lt_succ_self->a8,blt->bg,ble_eq->bh,le_antisymm->bo,succ_le_succ->bz,add_le_add_left->bH,lt_of_le_of_lt->bI,blt_eq->cb,add_le_add_right->cm,succ_pos->cD,add_le_add->cJ,zero_le->cO,le_of_not_lt->cR,mod_lt->cT,le_succ_of_le->dz,lt_succ_of_lt->dA,le_of_ble_eq_true->d6,le_succ->d7,add_assoc->ew,le_of_lt->eD,zero_add->eE,le_of_succ_le->fB,lt_of_succ_lt_succ->fC,lt_irrefl->fY,le_of_lt_succ->gp,mul_le_mul_left->gy,lt_of_not_le->gV,succ_lt_succ->gW,noConfusion->iZ,le_of_eq->i5,succ_mul->i6,sub_le->i8,exists_eq_add_of_le->jn,zero_mul->jL,min_eq_left->jV,lt_succ_of_le->j4,not_lt->ko,le_add_right->kW,ne_of_lt->kX,lt_succ_iff_lt_or_eq->lI,div_le_self->lT,min_le_left->lU,add_zero->mM,mul_le_mul->mN,ne_of_gt->mO,min_le_right->o2,mul_le_mul_right->pI,le_add_left->qc,add_sub_cancel'->qj,lt_or_ge->qH,lt_trans->qI,lt_of_le_of_ne->qY,sub_add_cancel->qZ,add_comm->ur,le_sub_iff_add_le'->uu,sub_self->uw,eq_of_beq_eq_true->vn,min->w6,add_right_comm->yI,min_eq_right->AX,succ_ne_self->AY,mod_mod->BB,not_lt_zero->Dg,succ_pred_eq_of_ne_zero->Dv,add_sub_cancel_left->G4,le_of_succ_le_succ->Jd,max->Je,mul_zero->Jf,zero_min->Jg,div_le_of_le_mul->Lp,not_succ_le_zero->Lq,max_le->Pb,sub_lt->Pc,div_add_mod'->T7,beq_refl->χ,min_zero->ω,add_mul->A!,casesOn->B?,mul_pos->B!,one_pos->C?,mod_le->abX
open Nat.le renaming intro->lY
open Nat.succ renaming inj->w7
open Ne renaming symm->xx
open Option renaming none->aI,bind_some->fN,isSome_iff_exists->i0,map_eq_some_iff->jw,none->lJ,map_map->qk,map_some->tI,map_id'->uz,rec->BF,isNone_map->Lu
open Option.some renaming inj->aV,injEq->E8
open Or renaming elim->Av,inr->JH
open Prod renaming snd->d9,fst->eA,ext->Dx,ext_iff->XR
open Prod.mk renaming inj->cZ,injEq->P0
open PyProof.Rows renaming IsTup->tW,callWith_type->xI,tail_any->Dp,Subscript_->Ji,joinParts_cons->Jl,slot_tuple_getitem->Xn,add_str->D!,ge_int->E',getItem_tuple->E?,gt_int->E!,iadd_int->F?,isub_int->F!,le_int->G?,len_tuple->G!,lt_int->H?,sub_int'->H!,formatField_str->aaf,wpAny_operate'->acu,subscriptTail->ad8
open PySem renaming wpAny_bind->aB,wpAny_pure->aF,Value->a0,wpAny->bf,wpAny_holding->bK,wpAny_mono->bP,Shared->cL,wpAny_call_entry->cV,mainGlobals->dC,wpAny_standAt->dD,wpAny_callSpecial?_slot->dK,PyData->et,DictEntry->eB,starEach->eF,model->eN,wpAny_newObj_type->eZ,wpAny_dictEpoch->fQ,wpAny_specialOf->gH,backTo->hQ,isSubtype->ij,assignEach->iT,placesWithHash->iV,wpAny_Call_Name_kw->iW,wpAny_dictEntries->jk,wpAny_rule->jt,builtinsNs->j3,attributeBase->kl,partValue->km,foldedSetIterable->ky,slot_dict_getitem->kJ,methodCallForm->lg,unsupported->lx,wpAny_field->lB,bootBuiltins->lL,pyIter->lX,NameKind->mE,sizeLine->mF,letOwnedTupleGo->mL,wpAny_setField_rec->nM,sizeLine_eq->nZ,Str->oh,wpAny_sequenceKey->pg,wpAny_setField->ph,wpAny_truthy_bool->pj,compareOp->qd,wpAny_typeNameOfWhole_itemiter->qh,swappedStores->qC,Addr->qJ,cLine->qK,wpAny_typeNameOfWhole_keyiter->qL,Scope->rF,mem_of_lookup_some->sa,strKind->sb,swapsWith->sR,Around->sT,call_meets->sU,rawInt->sV,sysModules->sW,typeIs_str->sX,getItem->t9,wpAny_pyIter_slot->uk,wpAny_forIn_list->vU,wpAny_isInstance->vV,DefRec->wq,codeAny_mono->wu,wpAny_isOneOf_itemiter->wX,wpAny_callSpecialIfBoundUnlessNone?_slot->xC,wpAny_notOrdered_dict->xF,World->yJ,binaryOp->yK,wpAny_of_eq->yO,wpAny_seqItems->yP,Builtin->yS,Program->yW,codeAny->y9,standAt->zV,strValues->zW,swapsWithSole->AU,IsItemIter->AW,Params->AZ,assign->A4,reduceHash->Bj,slot_dict_contains->Bl,strKind_is->Bm,wpAny_pyIter_tuple->Bq,call_meetsIn->Di,eqIsQuiet_byValue->Dk,execs->Dl,getMethod_builtin->Dm,codeAmong->D8,seqIndex?->ES,start->GC,wpAny_loadPart'->GX,wpAny_ret_mkInt->GY,valueAt->I0,IsEnum->Ja,PlainAttrs->Jh,bindArgs->Jj,markedBehindIn->Jm,pyNext->Jo,recursionLimit->Jp,reprText->Jq,truthy->Jr,typeIs_int->Js,typeLookup->Jt,wpAny_call->Ju,behindInMarks->LN,strLen_append->MN,wpAny_getItem_list_slice->MX,dictEpoch->Nq,wpAny_callSpecial?_none->OV,ret->Pj,dictGet->Pq,getAttr->Pt,holding->Pu,tableMayTell->PD,wpAny_typeOf->PE,wpAny_isOneOf_keyiter->TG,Operator->T9,formatField->Ug,setField->Uj,subscripted->Uk,textFrom->Ul,wpAny_letGo->Um,wpAny_loadName_local->Un,wpAny_mkInt->Uo,wpAny_newFunctionEnv->Up,plainExc_IndexError->VR,assign->WD,entry_dict_getitem->W0,wpAny_missed_other->Xv,BindsTo->XB,args_dict_getitem->Yd,dictSet->Yv,keyPart->Y4,slot_dict_setitem->ZJ,slot_list_setitem->ZK,wpAny_assign_Name->Z6,wpAny_pyIter_list->Z7,TriplesOk->Φ,cellsFrom->b!,converted->d?,entry_len->d!,eqIsQuiet->e?,inplaceOp->f?,noteFrame->j!,plain_len->l!,seqItems?->n?,importedModules->aap,ReadsAll->ab0,callWith->ab6,isSubtype_stop->acb,storeAll->acn,wpAny_Expr_any->acr,wpAny_fieldsOf->acs,Comprehension->acw,IsItemIterOut->acA,comprehension->adl,dictWalkPlain->adm,wpAny_attempt->aem,wpAny_release->aen
open PySem.Around renaming in1->Fb
open PySem.Builtin.Dict renaming showsAll->rp,missed->t?
open PySem.Builtin.Dict_items renaming ownsTuple->PF,pairFromOwner->PG
open PySem.Builtin.Int renaming intBits->abM
open PySem.Builtin.List renaming listFitsIndex->oj,listSubscript?->t!,listTooLong->u?
open PySem.Builtin.Range renaming rangeSize->η
open PySem.Builtin.Str renaming strSliceIndices->jv,glued->vl,tooLong->Dq,occurrences->abN,strOf->abO
open PySem.Builtin.Tuple renaming tupleHashOf->fq,tupleItemsOf->xu
open PySem.Calls renaming callWith_builtin->vr,call_function_entry->Dr,wpAny_keep->OZ,spliced_cons->PC,Name_function_global->T5
open PySem.Code renaming builtin->XF
open PySem.Data renaming noConfusion->cn
open PySem.F renaming slot_dict_itemiterator_next->jO,slot_tuple_iterator_next->kO,slot_NoneType_hash->p8,slot_dict_keyiterator_next->qG,plainAttrs_list->sY,slot_tuple_hash->sZ,slot_dict_len->vW,slot_tuple_getitem->xw,slot_list_getitem->yH,slot_dict_itemiterator_iter->Ds,args_tuple_iterator_next_1->DV,slot_dict_get->DW,slot_list_pop->DX,entry_tuple_iterator_next->E5,slot_dict_items_iter->Li,slot_enumerate_iter->MZ,slot_list_append->TO,slot_list_insert->TU,slot_str_getitem->TV,plainAttrs_dict->Us,slot_dict_items->Ut,slot_list_index->Uu,entry_dict_get->Wt,entry_list_pop->Wu,slot_dict_iter->Wv,slot_int_rmul->XI,slot_str_join->XJ,slot_str_mod->ι
open PySem.Flow renaming next->abT
open PySem.Heap renaming get?_push_of_some->bu,get?_push_size->bG,get?_update_self->eR,SameBut->gE,get?_update_other->jF,lt_size->jG,ExtBut->Jz,NewExc->JA
open PySem.Heap.IsSliceOf renaming new->s8
open PySem.Heap.SameBut renaming update->eG
open PySem.Manifest renaming find?->Au
open PySem.MeetsIn renaming of_wp->PX
open PySem.NameKind renaming cell->Bz,free->BA
open PySem.Obj renaming data_mapFields->jM,isFreed_of_fields->oq,cls_mapFields->sf,mapFields->GU,mapSeq->Pd
open PySem.PyData renaming eqv->b7,eqvAll->eo,depthAll->Aw,str->BG,shown->E9,canLayAll0->Lv,shownAll->Pg,keyHash->P1,tuple->UD,list->WC
open PySem.SeqAt.Reads renaming unique->Ua
open PySem.Str renaming ofString->fD,empty_append->lK,mk->Pk,empty->Ub
open PySem.StrLaws renaming found_one->Γ
open PySem.Txt renaming slice->acN
open PySem.Value renaming none->jC,ref->Aa,noConfusion->Ay,bool->Ψ
open PySem.Value.bool renaming inj->UE
open PySem.Value.int renaming inj->Ax
open PySem.Value.ref renaming inj->jN,inj->A0
open PySem.Value.str renaming inj->lZ
open PySem.Value.type renaming inj->yY
open PySem.W renaming findIn->jo,boot_heap->nR,handedIn->vA,hideAll_get->yL,tabObj->Bn,instObj->Dn,looks_findIn->Pw,copiedNames->Ue,boot_drawn->WN,of_hideAll->Xe,typeIn->Xr,SharedT->XU,boot_toks->b?,specialIn->n!
open PySem.W.KPc renaming turn->Wx,good_add->ν,obj_none->ξ
open PySem.W.OpenRow renaming toRowW->Pe
open PySem.W.RowW renaming records->XS
open And renaming elim ->And.e
open Array renaming size ->Array.s,toList ->Array.t,setIfInBounds ->Array.S,eraseIdxIfInBounds ->Array.e
open Eq renaming trans ->Eq.t,symm ->Eq.s,mpr ->Eq.m,mp ->Eq.M
open Exists renaming elim ->Exists.e,imp ->Exists.i,choose_spec ->Exists.c
open False renaming elim ->False.e
open Iff renaming mp ->Iff.m,mpr ->Iff.M,trans ->Iff.t
open Int renaming ofNat ->Int.o,negSucc ->Int.n,toNat ->Int.t,natAbs ->Int.N
open List renaming length ->List.L,map ->List.m,getD ->List.g,rec ->List.R,drop ->List.d,lookup ->List.o,all ->List.a,take ->List.t,toArray ->List.T,isEmpty ->List.i,eraseIdx ->List.e,tail ->List.b,Nodup ->List.N,zip ->List.z,set ->List.s,head? ->List.h,headD ->List.H,contains ->List.c,any ->List.A,foldl ->List.f,count ->List.C,getLast? ->List.G,flatMap ->List.F,filterMap ->List.M,filter ->List.j
open List.Mem renaming head ->List.Mem.h,tail ->List.Mem.t
open Nat renaming rec ->Nat.r
open Ne renaming symm ->Ne.s
open Option renaming map ->Option.m,isSome ->Option.i,getD ->Option.g,elim ->Option.e,bind ->Option.b,isNone ->Option.I
open Or renaming inr ->Or.i,inl ->Or.I,elim ->Or.e,imp ->Or.m,imp_right ->Or.p,resolve_left ->Or.r
open PySem.Around renaming units ->PySem.Around.u,handled ->PySem.Around.h
open PySem.CmpOp renaming Eq ->PySem.CmpOp.E,In ->PySem.CmpOp.I,NotIn ->PySem.CmpOp.N,NotEq ->PySem.CmpOp.o
open PySem.Code renaming compLoop ->PySem.Code.c
open PySem.Data renaming fields ->PySem.Data.f,seq ->PySem.Data.s,dict ->PySem.Data.d,func ->PySem.Data.F
open PySem.DefRec renaming scope ->PySem.DefRec.s,params ->PySem.DefRec.p
open PySem.DictEntry renaming key ->PySem.DictEntry.k,hash ->PySem.DictEntry.h
open PySem.Env renaming locals ->PySem.Env.l,kindOf ->PySem.Env.k,cells ->PySem.Env.c,frame ->PySem.Env.f
open PySem.ExceptHandler renaming ExceptHandler ->PySem.ExceptHandler.E
open PySem.Expr renaming Name ->PySem.Expr.N,Call ->PySem.Expr.C,ListComp ->PySem.Expr.L,Attribute ->PySem.Expr.A,Tuple ->PySem.Expr.T,Subscript ->PySem.Expr.S,Lambda ->PySem.Expr.a,Slice ->PySem.Expr.l,Compare ->PySem.Expr.o,FormattedValue ->PySem.Expr.F,Constant ->PySem.Expr.n
open PySem.Flow renaming ret ->PySem.Flow.r,next ->PySem.Flow.n
open PySem.Heap renaming get? ->PySem.Heap.g,objs ->PySem.Heap.o,push ->PySem.Heap.p,Ns ->PySem.Heap.N,IsCell ->PySem.Heap.I,FunFrames ->PySem.Heap.F,IsTupleIter ->PySem.Heap.s,IsKeyIter ->PySem.Heap.K
open PySem.Heap.SameBut renaming extBut ->PySem.Heap.SameBut.e
open PySem.IsL renaming isList ->PySem.IsL.i
open PySem.NameKind renaming free ->PySem.NameKind.f,cell ->PySem.NameKind.c,globalImplicit ->PySem.NameKind.g
open PySem.Obj renaming data ->PySem.Obj.d,cls ->PySem.Obj.c,dict ->PySem.Obj.D
open PySem.Pos renaming line ->PySem.Pos.l,col ->PySem.Pos.c,endLine ->PySem.Pos.e
open PySem.PyData renaming str ->PySem.PyData.s,list ->PySem.PyData.l,tuple ->PySem.PyData.t
open PySem.Scope renaming names ->PySem.Scope.n
open PySem.ScopeKind renaming function ->PySem.ScopeKind.f
open PySem.Shared renaming heap ->PySem.Shared.h,toks ->PySem.Shared.t,gens ->PySem.Shared.g,TypeIs ->PySem.Shared.T
open PySem.Slot renaming lookup ->PySem.Slot.l
open PySem.Stmt renaming Assign ->PySem.Stmt.A,AugAssign ->PySem.Stmt.u
open PySem.Str renaming cps ->PySem.Str.c,length ->PySem.Str.l
open PySem.Value renaming ref ->PySem.Value.r,type ->PySem.Value.t,none ->PySem.Value.n,int ->PySem.Value.i,str ->PySem.Value.s,bool ->PySem.Value.b,builtin ->PySem.Value.B
open PySem.World renaming params ->PySem.World.p
open Option renaming some ->M
open Bool renaming true ->Z
open Bool renaming false ->D
open PySem PySem.W PyProof.Rows PySem.Calls PySem.SeqAt
set_option Elab.async false
set_option autoImplicit true
set_option linter.all false
set_option maxRecDepth 100000
set_option genInjectivity false
set_option genSizeOf false
set_option genCtorIdx false
set_option backward.match.sparseCases false
set_option tactic.hygienic false
set_option bootstrap.genMatcherCode false
set_option compiler.extract_closed false
noncomputable section
namespace eH
noncomputable abbrev pw:=Challenge.pw_rp0002_08
abbrev Tc:=Challenge.rw_rp0002_08
noncomputable def GD(tb:String->Option yS)(p:yW)(w:yJ)(cu:Nat)(ann:Option a0)(n:Nat):XU->Thread->Option XU:=n.r (λ_ _=>aI) λ_ ih s t=>match through t with
 |true=>M s
 |false=>match stepOk cu ann t with
  |false=>aI
  |true=>match stepT (denote tb) p w s t with
   |some (s',t')=>ih s' t'
   |none=>aI
theorem OO{tb:String->Option yS}{p:yW}{w:yJ}{cu:Nat}{ann:Option a0}(n:Nat):∀{s s':XU} {t:Thread},GD tb p w cu ann n s t=M s'->topRun tb p w cu ann n s.abs t=M s'.abs:=by
 induction n with
 |zero=>exact λh=>nomatch h
 |succ n ih=>
  intro s s' t h
  dsimp only[GD]at h
  rw[topRun]
  cases ht:through t with
  |true=>rw[ht]at h;cases h;rfl
  |false=>
   rw[ht]at h
   cases hk:stepOk cu ann t with
   |false=>rw[hk]at h;simp at h
   |true=>
    rw[hk]at h
    dsimp only at h⊢
    cases hs:stepT (denote tb) p w s t with
    |none=>rw[hs]at h;simp at h
    |some r=>
     obtain⟨sS,ae9⟩:=r
     rw[hs]at h
     rw[stepT_spec hs]
     exact ih h
def YV(l:List Obj):BT->Nat->BT:=l.R (λt _=>t) λo _ ih t n=>ih (t.ins n o) (n+1)
def hS0(P:AZ)(os:OsState):XU:=⟨YV (nR P).o.t BT.nil 0,(nR P).o.s,(nR P).life,#[],WN,b?,os⟩
theorem XT(P:AZ)(os:OsState):(hS0 P os).abs=⟨nR P,#[],WN,b?,os⟩:=by kernel_rfl
theorem VF{p q:yW}{loose:List Str}{Xt:cL->Bool}{α:Type}{Yf:cL->α}{Ya:yJ->α}{N:Nat}
  (e:opening p=plainProg p.main.scope.n) (hN:aO 600 N=Z) (f:∀s,fenceModules? p s=M s)
  (hns:∀P,(nR P).isNs dC=Z)
  (h:∀w:yJ,(λos=>(GD treeTable p w (nR w.p).o.s ((nR w.p).nsMap dC "__annotations__") N (hS0 w.p os) (topStub p)).m λs=>(staticsOk (aap p.main.body) (nR w.p) s.abs.h&&namesBound p s.abs.h&&gensDone s.abs&&laidKept (nR w.p) s.abs.h,
   openSeen q loose (aap p.main.body) Xt Z s.abs,Yf s.abs))=λx=>M (Z,openGood q loose,Ya w)):LeftO p q loose Xt Yf Ya N:=λw=>by
 have hb:=boot_open (p:=p) e hN f w
 obtain⟨ad9,h0,h1⟩:=jw.m hb
 obtain⟨hp,gs,dr,tk,os⟩:=ad9
 simp only[P0]at h1
 obtain⟨rfl,rfl,rfl,rfl⟩:=h1
 obtain⟨s,h2,h3⟩:=jw.m (congrFun (h w) os)
 simp only[P0]at h3
 obtain⟨h3,h4,h5⟩:=h3
 have h6:=OO _ h2
 rw[XT]at h6
 have h7:topFrom treeTable p w N ⟨nR w.p,#[],WN,b?,os⟩=M s.abs:=by
  unfold topFrom
  dsimp only
  rw[hns]
  simp only[Ws,Array.size_empty,beq_self_eq_true]
  erw [h6]
  simp only[fN,h3]
 unfold openEnds
 rw[h0]
 simp only[fN]
 erw [h7]
 simp only[tI,h4,h5]
noncomputable def loose:List Str:=[fD "Production",fD "Grammar",fD "LRGeneratedTable"]
def hq0:yW:=view pw [0,2,3,4,5,6,7,8,9,10,11,12,13,14,15,16,18,19,20,21,22,23]
def kS(s:String):Str:=fD s
noncomputable def ux(s:String)(t:Nat):a0:=.s (fD s) t
noncomputable def gq(P:AZ)(s:String)(t:Nat)(v:a0):eB:=⟨P1 P (fD s),.s (fD s) t,v⟩
noncomputable def aax:wq:=⟨fD "",⟨[],[],aI,[],[],aI,[]⟩,[],kv,kv⟩
def dOf(o:Option Stmt):wq:=match o with
 |some (.FunctionDef name params body _ _ _ scope _ _ pos)=>⟨name,params,body,scope,pos⟩
 |_=>aax
def Kn(i:Nat):wq:=dOf (pw.main.body[i]?:Option Stmt)
def Ag(i j:Nat):wq:=match(pw.main.body[i]?:Option Stmt)with
 |some (.ClassDef _ _ _ b _ _ _ _ _ _ _)=>dOf (b[j]?:Option Stmt)
 |_=>aax
abbrev KR:=Addr×wq×String×a0×Nat×Int
def Vs(pm:a0)(x:Bool)(r:KR):Frag:=[
 (r.1,⟨.t "code",aI,.f #[.s r.2.1.name r.2.2.2.2.1,ux r.2.2.1 (r.2.2.2.2.1+1),ux "/claim/cut.py" (r.2.2.2.2.1+2),.i r.2.1.pos.l 0,.i (.o r.2.1.p.args.L) 0,.i 0 0,.i 0 0,.i 3 0,.r (r.1 - bif x then 5 else 3),.b Z,.i 181 0,.r (r.1 - bif x then 4 else 2),.n,bif x then .r (r.1 - 3)else .n,bif x then .r (r.1 - 2)else .n,.r (r.1 - 1),.i r.2.2.2.2.2 0,.i r.2.1.pos.l 0,ux "/claim/cut.py" (r.2.2.2.2.2.t+1)],#[]⟩),
 (r.1+1,⟨.t "function",aI,.F {name:=r.2.1.name,qualname:=kS r.2.2.1,params:=r.2.1.p,body:=.stmts r.2.1.body,scope:=r.2.1.s,globals:=dC,closure:=[],defaults:=r.2.2.2.1,kwdefaults:=.n,doc:=.n,pyModule:=pm,code:=.r r.1,closureTuple:=.n,builtins:=j3},#[]⟩)]
def kA:List KR:=[(61,Ag 7 2,"Production.__init__",(.r 55),253,265),
 (82,Ag 7 5,"Production.__len__",.n,282,286),
 (117,Ag 8 0,"LRItem.__init__",.n,338,344),
 (145,Kn 9,"rightmost_terminal",.n,377,383),
 (171,Ag 11 0,"Grammar.__init__",.n,414,420),
 (200,Ag 11 4,"Grammar.add_production",(.r 194),450,469),
 (208,Ag 11 5,"Grammar.set_start",(.r 202),472,477),
 (257,Ag 11 12,"Grammar._first",.n,522,531),
 (264,Ag 11 13,"Grammar.compute_first",.n,534,543),
 (272,Ag 11 14,"Grammar.compute_follow",(.r 266),546,559),
 (279,Ag 11 15,"Grammar.build_lritems",.n,562,571),
 (293,Kn 12,"digraph",.n,592,602),
 (300,Kn 13,"traverse",.n,605,620),
 (332,Ag 16 0,"LRGeneratedTable.__init__",(.r 326),658,665),
 (339,Ag 16 1,"LRGeneratedTable.lr0_closure",.n,668,677),
 (346,Ag 16 2,"LRGeneratedTable.lr0_goto",.n,680,692),
 (353,Ag 16 3,"LRGeneratedTable.lr0_items",.n,695,707),
 (360,Ag 16 4,"LRGeneratedTable.compute_nullable_nonterminals",.n,710,718),
 (367,Ag 16 5,"LRGeneratedTable.find_nonterminal_transitions",.n,721,731),
 (374,Ag 16 6,"LRGeneratedTable.dr_relation",.n,734,747),
 (381,Ag 16 7,"LRGeneratedTable.reads_relation",.n,750,764),
 (388,Ag 16 8,"LRGeneratedTable.compute_lookback_includes",.n,767,789),
 (395,Ag 16 9,"LRGeneratedTable.compute_read_sets",.n,792,805),
 (402,Ag 16 10,"LRGeneratedTable.compute_follow_sets",.n,808,820),
 (409,Ag 16 11,"LRGeneratedTable.add_lookaheads",.n,823,835),
 (416,Ag 16 12,"LRGeneratedTable.add_lalr_lookaheads",.n,838,849),
 (423,Ag 16 13,"LRGeneratedTable.lr_parse_table",.n,852,886)]
noncomputable def kB:List KR:=[(437,Kn 18,"_law_next",.n,912,916),
 (444,Kn 19,"_law_slip",.n,919,927),
 (451,Kn 20,"_law_run",.n,930,944),
 (458,Kn 21,"_law_long",.n,947,954),
 (465,Kn 22,"_law_sums",.n,957,977)]
noncomputable def kC:List KR:=[(38,Kn 4,"_is_identifier",.n,218,221),
 (317,Kn 15,"_place",.n,639,642)]
def kD:KR:=(470,Kn 23,"law",.n,980,983)
def kP:a0:=ux "ply.yacc" 194
noncomputable def kL:a0:=ux "law_rp0002_08" 910
def kK(P:AZ):Frag:=kA.F (Vs kP Z)++(kB.F (Vs kL Z)++(kC.F (Vs kP D)++(Vs kL D kD++[
 (1,⟨(.t "dict"),aI,.d #[gq P "builtins" 162 (.r 4),gq P "__main__" 163 (.r 5)] 2,#[]⟩),
 (3,⟨(.t "dict"),aI,.d #[gq P "__name__" 165 (ux "law_rp0002_08" 910),gq P "__doc__" 166 .n,gq P "__package__" 167 .n,gq P "__loader__" 168 (.B "__main__.__loader__#opaque"),gq P "__spec__" 169 .n,gq P "__annotations__" 170 (.r 6),gq P "__builtins__" 171 (.r 4),gq P "__file__" 173 (ux "/claim/cut.py" 172),gq P "__cached__" 174 .n,gq P "_wall" 193 (.r 21),gq P "MAXINT" 197 (.i 9223372036854775807 196),gq P "YaccError" 217 (.r 31),gq P "_is_identifier" 223 (.r 39),gq P "_IDENTIFIER" 225 (ux "abcdefghijklmnopqrstuvwxyzABCDEFGHIJKLMNOPQRSTUVWXYZ0123456789_-" 224),gq P "_literal" 232 (.r 46),gq P "Production" 325 (.r 100),gq P "LRItem" 376 (.r 135),gq P "rightmost_terminal" 385 (.r 146),gq P "GrammarError" 401 (.r 156),gq P "Grammar" 591 (.r 283),gq P "digraph" 604 (.r 294),gq P "traverse" 622 (.r 301),gq P "LALRError" 638 (.r 311),gq P "_place" 644 (.r 318),gq P "LRGeneratedTable" 909 (.r 427),gq P "_law_next" 918 (.r 438),gq P "_law_slip" 929 (.r 445),gq P "_law_run" 946 (.r 452),gq P "_law_long" 956 (.r 459),gq P "_law_sums" 979 (.r 466),gq P "law" 985 (.r 471)] 31,#[]⟩),
 (4,⟨(.t "module"),(M 0),.plain,#[]⟩),
 (54,⟨(.t "tuple"),aI,.s #[(ux "right" 249),(.i 0 250)] 0,#[]⟩),
 (55,⟨(.t "tuple"),aI,.s #[(.r 54),.n,(ux "" 251),(.i 0 252)] 0,#[]⟩),
 (99,⟨(.t "dict"),aI,.d #[gq P "__module__" 240 (ux "ply.yacc" 194),gq P "__firstlineno__" 244 (.i 15 243),gq P "reduced" 246 (.i 0 245),gq P "lr0_added" 248 (.i 0 247),gq P "__init__" 267 (.r 62),gq P "__str__" 274 (.r 69),gq P "__repr__" 281 (.r 76),gq P "__len__" 288 (.r 83),gq P "__getitem__" 296 (.r 90),gq P "bind" 304 (.r 97),gq P "__static_attributes__" 318 (.r 98),gq P "__dict__" 320 (.r 101),gq P "__weakref__" 322 (.r 102),gq P "__doc__" 323 .n] 4,#[]⟩),
 (100,⟨(.t "type"),aI,.cls ⟨kS "Production",[(.t "object")],[(.r 100),(.t "object")],99,kS "Production",Z,[],[],D,aI,D⟩,#[M (.r 47),aI,M (ux "Production" 233),M (ux "Production" 241),M (.B "object.__new__"),M (.b Z)]⟩),
 (134,⟨(.t "dict"),aI,.d #[gq P "__module__" 333 (ux "ply.yacc" 194),gq P "__firstlineno__" 337 (.i 54 336),gq P "__init__" 346 (.r 118),gq P "__str__" 354 (.r 125),gq P "__repr__" 361 (.r 132),gq P "__static_attributes__" 369 (.r 133),gq P "__dict__" 371 (.r 136),gq P "__weakref__" 373 (.r 137),gq P "__doc__" 374 .n] 4,#[]⟩),
 (135,⟨(.t "type"),aI,.cls ⟨kS "LRItem",[(.t "object")],[(.r 135),(.t "object")],134,kS "LRItem",Z,[],[],D,aI,D⟩,#[M (.r 105),aI,M (ux "LRItem" 326),M (ux "LRItem" 334),M (.B "object.__new__"),M (.b Z)]⟩),
 (194,⟨(.t "tuple"),aI,.s #[.n,(ux "" 448),(.i 0 449)] 0,#[]⟩),
 (202,⟨(.t "tuple"),aI,.s #[.n] 0,#[]⟩),
 (266,⟨(.t "tuple"),aI,.s #[.n] 0,#[]⟩),
 (282,⟨(.t "dict"),aI,.d #[gq P "__module__" 409 (ux "ply.yacc" 194),gq P "__firstlineno__" 413 (.i 85 412),gq P "__init__" 422 (.r 172),gq P "__len__" 429 (.r 179),gq P "__getitem__" 437 (.r 186),gq P "set_precedence" 447 (.r 193),gq P "add_production" 471 (.r 201),gq P "set_start" 479 (.r 209),gq P "find_unreachable" 486 (.r 216),gq P "infinite_cycles" 493 (.r 223),gq P "undefined_symbols" 500 (.r 230),gq P "unused_terminals" 507 (.r 237),gq P "unused_rules" 514 (.r 244),gq P "unused_precedence" 521 (.r 251),gq P "_first" 533 (.r 258),gq P "compute_first" 545 (.r 265),gq P "compute_follow" 561 (.r 273),gq P "build_lritems" 573 (.r 280),gq P "__static_attributes__" 584 (.r 281),gq P "__dict__" 586 (.r 284),gq P "__weakref__" 588 (.r 285),gq P "__doc__" 589 .n] 4,#[]⟩),
 (283,⟨(.t "type"),aI,.cls ⟨kS "Grammar",[(.t "object")],[(.r 283),(.t "object")],282,kS "Grammar",Z,[],[],D,aI,D⟩,#[M (.r 159),aI,M (ux "Grammar" 402),M (ux "Grammar" 410),M (.B "object.__new__"),M (.b Z)]⟩),
 (326,⟨(.t "tuple"),aI,.s #[(ux "LALR" 657),.n] 0,#[]⟩),
 (426,⟨(.t "dict"),aI,.d #[gq P "__module__" 652 (ux "ply.yacc" 194),gq P "__firstlineno__" 656 (.i 327 655),gq P "__init__" 667 (.r 333),gq P "lr0_closure" 679 (.r 340),gq P "lr0_goto" 694 (.r 347),gq P "lr0_items" 709 (.r 354),gq P "compute_nullable_nonterminals" 720 (.r 361),gq P "find_nonterminal_transitions" 733 (.r 368),gq P "dr_relation" 749 (.r 375),gq P "reads_relation" 766 (.r 382),gq P "compute_lookback_includes" 791 (.r 389),gq P "compute_read_sets" 807 (.r 396),gq P "compute_follow_sets" 822 (.r 403),gq P "add_lookaheads" 837 (.r 410),gq P "add_lalr_lookaheads" 851 (.r 417),gq P "lr_parse_table" 888 (.r 424),gq P "__static_attributes__" 902 (.r 425),gq P "__dict__" 904 (.r 428),gq P "__weakref__" 906 (.r 429),gq P "__doc__" 907 .n] 4,#[]⟩),
 (427,⟨(.t "type"),aI,.cls ⟨kS "LRGeneratedTable",[(.t "object")],[(.r 427),(.t "object")],426,kS "LRGeneratedTable",Z,[],[],D,aI,D⟩,#[M (.r 319),aI,M (ux "LRGeneratedTable" 645),M (ux "LRGeneratedTable" 653),M (.B "object.__new__"),M (.b Z)]⟩)])))
noncomputable def Kas:List Addr:=(kA++(kB++(kC++[kD]))).F (λr=>[r.1,r.1+1])++[1,3,4,54,55,99,100,134,135,194,202,266,282,283,326,426,427]
theorem XN(P:AZ):Kas=(kK P).m (·.1):=by kernel_rfl
def lq:yW:=view pw [23]
noncomputable def FO:List Str:=(["__name__","_wall","MAXINT","YaccError","_is_identifier","_IDENTIFIER","_literal","Production","LRItem","rightmost_terminal","GrammarError","Grammar","digraph","traverse","LALRError","_place","LRGeneratedTable","_law_next","_law_slip","_law_run","_law_long","_law_sums"]:List String).map fD
def hook:Hook:=kmHook kK Kas XN [391,398]
theorem left:LeftO pw lq FO (λs=>xlAt lq [] s&&recOk (XS (Pe Tc.row)) s) hook.obs hook.val 6782:=by
 refine VF (by kernel_rfl) (by rfl) (λs=>by kernel_rfl) (λP=>by kernel_rfl) ?_
 intro w
 kernel_rfl
noncomputable def FK:wq:=match(pw.main.body[23]?:Option Stmt)with
 |some (.FunctionDef name params body _ _ _ scope _ _ pos)=>⟨name,params,body,scope,pos⟩
 |_=>⟨fD "",⟨[],[],aI,[],[],aI,[]⟩,[],kv,kv⟩
theorem ZI:Tc.wellSaid=true:=by kernel_rfl
theorem lk1:defOf lq Tc.row.name=some (FK,[]):=by kernel_rfl
theorem head(call:WalkO lq FO (XL lq []) hook.says Tc.row.toRowW FK [] λf vs=>PySem.call f vs):Tc.Holds:=by
 refine holds_law ZI λZI=> ?_
 refine holds_open (q:=lq) (loose:=FO) (Xt:=λs=>xlAt lq [] s&&recOk (XS (Pe Tc.row)) s) (XP:=XL lq []) (Yf:=hook.obs) (Ya:=hook.val) (YP:=hook.says) (N:=6782) (d:=FK) (kwd:=[])
  left hook.of hook.keeps (λs e=>xl_of s (aU.mp e).1) XL.keeps lk1 (by kernel_rfl) (by kernel_rfl) (λs e=>recFacts_of (aU.mp e).2) (by rfl) ZI (by kernel_rfl) ⟨rfl,rfl,rfl,rfl,rfl,by kernel_rfl⟩ ?hw call
 w_witness2
theorem U{α:Sort u}{a:α}:a=a:=rfl
theorem ir{G:Prop}(h:b/\a)(k:b->a->G):G:=k h.1 h.2
theorem sk{G:Prop}(h:c/\b/\a)(k:c->b->a->G):G:=k h.1 h.2.1 h.2.2
theorem QN{G:Prop}(h:d/\c/\b/\a)(k:d->c->b->a->G):G:=k h.1 h.2.1 h.2.2.1 h.2.2.2
theorem U7{G:Prop}(h:e/\d/\c/\b/\a)(k:e->d->c->b->a->G):G:=k h.1 h.2.1 h.2.2.1 h.2.2.2.1 h.2.2.2.2
theorem j8{d:Type}{c:d->Prop}{G:Prop}(h:∃b,c b)(k:∀b,c b->G):G:=h.e λb a=>k b a
theorem cz{e:Type}{d c:e->Prop}{G:Prop}(h:∃b,d b/\c b)(k:∀b,d b->c b->G):G:=h.e λb a=>k b a.1 a.2
theorem eV{f:Type}{e d c:f->Prop}{G:Prop}(h:∃b,e b/\d b/\c b)(k:∀b,e b->d b->c b->G):G:=h.e λb a=>k b a.1 a.2.1 a.2.2
theorem hM{g:Type}{f e d c:g->Prop}{G:Prop}(h:∃b,f b/\e b/\d b/\c b)(k:∀b,f b->e b->d b->c b->G):G:=h.e λb a=>k b a.1 a.2.1 a.2.2.1 a.2.2.2
theorem QO{i:Type}{g f e d c:i->Prop}{G:Prop}(h:∃b,g b/\f b/\e b/\d b/\c b)(k:∀b,g b->f b->e b->d b->c b->G):G:=h.e λb a=>k b a.1 a.2.1 a.2.2.1 a.2.2.2.1 a.2.2.2.2
theorem Yy{g f:Type}{e:g->f->Prop}{G:Prop}(h:∃d c,e d c)(k:∀d c,e d c->G):G:=h.e λd a=>a.e λc b=>k d c b
theorem Fw{i g:Type}{f e:i->g->Prop}{G:Prop}(h:∃d c,f d c/\e d c)(k:∀d c,f d c->e d c->G):G:=h.e λd a=>a.e λc b=>k d c b.1 b.2
theorem zc{j i:Type}{g f e:j->i->Prop}{G:Prop}(h:∃d c,g d c/\f d c/\e d c)(k:∀d c,g d c->f d c->e d c->G):G:=h.e λd a=>a.e λc b=>k d c b.1 b.2.1 b.2.2
theorem Y?{l j:Type}{i g f e:l->j->Prop}{G:Prop}(h:∃d c,i d c/\g d c/\f d c/\e d c)(k:∀d c,i d c->g d c->f d c->e d c->G):G:=h.e λd a=>a.e λc b=>k d c b.1 b.2.1 b.2.2.1 b.2.2.2
theorem Y!{m l:Type}{j i g f e:m->l->Prop}{G:Prop}(h:∃d c,j d c/\i d c/\g d c/\f d c/\e d c)(k:∀d c,j d c->i d c->g d c->f d c->e d c->G):G:=h.e λd a=>a.e λc b=>k d c b.1 b.2.1 b.2.2.1 b.2.2.2.1 b.2.2.2.2
theorem Z?{j i γ:Type}{g:j->i->γ->Prop}{G:Prop}(h:∃f e d,g f e d)(k:∀f e d,g f e d->G):G:=h.e λf a=>a.e λe b=>b.e λd c=>k f e d c
theorem ado{l j γ:Type}{i g:l->j->γ->Prop}{G:Prop}(h:∃f e d,i f e d/\g f e d)(k:∀f e d,i f e d->g f e d->G):G:=h.e λf a=>a.e λe b=>b.e λd c=>k f e d c.1 c.2
theorem Yz{m l γ:Type}{j i g:m->l->γ->Prop}{G:Prop}(h:∃f e d,j f e d/\i f e d/\g f e d)(k:∀f e d,j f e d->i f e d->g f e d->G):G:=h.e λf a=>a.e λe b=>b.e λd c=>k f e d c.1 c.2.1 c.2.2
theorem DE{n m γ:Type}{l j i g:n->m->γ->Prop}{G:Prop}(h:∃f e d,l f e d/\j f e d/\i f e d/\g f e d)(k:∀f e d,l f e d->j f e d->i f e d->g f e d->G):G:=h.e λf a=>a.e λe b=>b.e λd c=>k f e d c.1 c.2.1 c.2.2.1 c.2.2.2
theorem adp{o n γ:Type}{m l j i g:o->n->γ->Prop}{G:Prop}(h:∃f e d,m f e d/\l f e d/\j f e d/\i f e d/\g f e d)(k:∀f e d,m f e d->l f e d->j f e d->i f e d->g f e d->G):G:=h.e λf a=>a.e λe b=>b.e λd c=>k f e d c.1 c.2.1 c.2.2.1 c.2.2.2.1 c.2.2.2.2
@[elab_as_elim] theorem Y {c:Type} {p:c->Prop} {a b:c} (h:a=b) (k:p b):p a:=h▸k
@[elab_as_elim] theorem rR {c:Type} {p:c->Prop} {a b:c} (h:a=b) (k:p a):p b:=h▸k
theorem sJ{c:Type}{a b:c}(h:M a=M b):a=b:=aV h
@[elab_as_elim] theorem rS {c:Type} {p:c->Prop} {a b:c} (h:M a=M b) (k:p a):p b:=rR (sJ h) k
@[elab_as_elim] theorem rP {f e:Type} {p:f->e->Prop} {a b:f} {c d:e} (h:(a,c)=(b,d)) (k:p a c):p b d:=rR (cZ h).1<|rR (cZ h).2 k
theorem kb(f:e)(d:c)(b:a):e/\c/\a:=⟨f,d,b⟩
theorem br{d:Type}{c b:d->Prop}(a:d)(f:c a)(e:b a):∃a,c a/\b a:=⟨a,f,e⟩
theorem eI{e:Type}{d c b:e->Prop}(a:e)(h:d a)(g:c a)(f:b a):∃a,d a/\c a/\b a:=⟨a,h,g,f⟩
theorem ie{f:Type}{e d c b:f->Prop}(a:f)(j:e a)(i:d a)(h:c a)(g:b a):∃a,e a/\d a/\c a/\b a:=⟨a,j,i,h,g⟩
theorem we{f e:Type}{d c:f->e->Prop}(b:f)(a:e)(h:d b a)(g:c b a):∃b a,d b a/\c b a:=⟨b,a,h,g⟩
theorem rJ{g f:Type}{e d c:g->f->Prop}(b:g)(a:f)(j:e b a)(i:d b a)(h:c b a):∃b a,e b a/\d b a/\c b a:=⟨b,a,j,i,h⟩
theorem mK{h g:Type}{f e d c:h->g->Prop}(b:h)(a:g)(l:f b a)(k:e b a)(j:d b a)(i:c b a):∃b a,f b a/\e b a/\d b a/\c b a:=⟨b,a,l,k,j,i⟩
theorem bF{p:Prop}(h:D=Z):p:=Ao h
theorem bT{p:Prop}(h:Z=D):p:=Ao h
theorem nS{b:Type}{a:b}{p:Prop}(h:aI=M a):p:=by cases h
theorem sN{b:Type}{a:b}{p:Prop}(h:M a=aI):p:=by cases h
theorem bC{p:Prop}(t:b=Z->p)(f:b=D->p):p:=by cases b with|true=>exact t rfl|false=>exact f rfl
inductive Lx where
 |n (k:Nat)
 |v (i:Nat)
 |a (x y:Lx)
 |m (k:Nat) (x:Lx)
noncomputable section
def Lx.E(c:Nat->Nat)(t:Lx):Nat:=t.rec (λk=>k) c (λ_ _ i j=>i+j) λk _ i=>k*i
def Lx.C(i:Nat)(t:Lx):Nat:=t.rec (λk=>bif aA i 0 then k else 0) (λj=>bif aA i (j+1)then 1 else 0) (λ_ _ i j=>i+j) λk _ i=>k*i
def Lx.b(t:Lx):Bool:=t.rec (λ_=>Z) (λj=>bg j 6) (λ_ _ i j=>i&&j) λ_ _ i=>i
abbrev Qx:=List (Lx×Lx)
theorem cAd{d:Nat}(h:a=b)(k:c=d):a+c=b+d:=Y h<|Y k rfl
noncomputable def OJ(c f:Nat->Nat)(n:Nat):Nat:=n.r (f 0) λn a=>a+f (n+1)*c n
theorem yB(c f g:Nat->Nat)(n:Nat):OJ c f n+OJ c g n=OJ c (λi=>f i+g i) n:=n.r rfl λn a=>(Nat.add_add_add_comm _ _ _ _).t<|cAd a (A! _ _ _).s
theorem V8(k:Nat)(c f:Nat->Nat)(n:Nat):k*OJ c f n=OJ c (λi=>k*f i) n:=n.r rfl λn a=>(Nat.mul_add _ _ _).t<|cAd a (Nat.mul_assoc _ _ _).s
theorem ZM(n:Nat):(∀i,i<n+1->f i<=g i)->OJ c f n<=OJ c g n:=n.r (λh=>h 0<|a8 0) λn b h=>cJ (b λi a=>h i<|dA a)<|pI _<|h _<|a8 _
theorem aby(c:Nat->Nat)(k n:Nat):OJ c (λi=>(Lx.n k).C i) n=k:=n.r rfl λn a=>cAd a<|jL<|c n
theorem abz(c:Nat->Nat)(j:Nat):∀n,OJ c (λi=>(Lx.v j).C i) n=bif bg j n then c j else 0
 :=λd=>d.r rfl λn a=>by
  show OJ c (λi=>(Lx.v j).C i) n+(bif aA n j then 1 else 0)*c n=_
  refine Y a<|bC (b:=aA n j) (λh=> ?_) λh=> ?_
  .refine Y h<|Y (vn h).s ?_
   rw[show bg n n=D from mG.M λz=>fY n<|cb.M z,show bg n (n+1)=Z from cb.m<|a8 n]
   exact(eE _).t<|Nat.one_mul _
  .refine Y h ?_
   rw[show bg j (n+1)=bg j n from dM.M<|Y cb<|Y cb ⟨λz=>qY (gp z) λe=>Nat.ne_of_beq_eq_false h e.s,dA⟩]
   exact congrArg _<|jL _
theorem Lx.j(c:Nat->Nat)(t:Lx):t.b=Z->t.E c=OJ c (λi=>t.C i) 6:=
 t.rec (λk _=>(aby c k 6).s) (λj h=>kY<|(abz c j 6).t<|Y (a:=bg j 6) h rfl)
  (λx y i j h=>(cAd (i (aU.m h).1)<|j (aU.m h).2).t<|yB c _ _ 6) λk x i h=>(congrArg (k*·)<|i h).t<|V8 k c _ 6
def Qx.n(q:Qx)(i:Nat)(c:Nat->Nat):Prop:=(q.g i (.n 0,.n 0)).1.E c<=(q.g i (.n 0,.n 0)).2.E c
def Qx.l(q:Qx)(i:Nat):Nat:=q.R 0 λp _ a=>p.1.C i+a
def Qx.r(q:Qx)(i:Nat):Nat:=q.R 0 λp _ a=>p.2.C i+a
def Qx.S(q:Qx):Bool:=q.R Z λp _ a=>p.1.b&&(p.2.b&&a)
def Qx.x:Qx->Bool
 |[]=>D
 |g::r=>g.1.b&&(g.2.b&&(Qx.S r&&(bX 7).a λi=>aO (g.1.C i+Qx.r r i)<|g.2.C i+Qx.l r i))
def Qx.w(c:Nat->Nat)(q:Qx):Prop:=q.R True λp _ a=>p.1.E c<=p.2.E c/\a
theorem Qx.y(c:Nat->Nat):∀q:Qx,Qx.S q=Z->Qx.w c q->OJ c (Qx.l q) 6<=OJ c (Qx.r q) 6
 :=λg=>g.R (λ_ _=>aG _) λp r f h a=>ir (aU.m h) λe h=>ir (aU.m h) λd b=>
  rR (yB c p.1.C (Qx.l r) 6)<|rR (yB c p.2.C (Qx.r r) 6)<|cJ (rR (Lx.j c _ e)<|rR (Lx.j c _ d) a.1)<|f b a.2
theorem Qx.E(c:Nat->Nat):∀q:Qx,Qx.x q=Z->Qx.w c q.b->Qx.n q 0 c
 |g::r,e,h=>ir (aU.m e) λf e=>ir (aU.m e) λd e=>ir (aU.m e) λb e=>by
  have t:=ZM (c:=c) 6 λi a=>d6<|dw.m e i<|fZ.M a
  rw[<-yB,<-yB]at t
  show g.1.E c<=g.2.E c
  exact Y (Lx.j c _ f)<|Y (Lx.j c _ d)<|Nat.le_of_add_le_add_right<|aC t<|bH (Qx.y c r b h) _
def sj(l:List Nat):Nat->Nat:=l.R (λ_=>0) λx _ a i=>i.r x λi _=>a i
theorem Qx.J{q:Qx}:(∀i,i<q.L->Qx.n q i c)->Qx.w c q:=q.R (λ_=>trivial) λ_ _ b h=>⟨h 0<|Nat.zero_lt_succ _,b λi a=>h (i+1)<|gW a⟩
def Qx.v(q:Qx)(k:Nat):Bool:=q.x&&aA q.L (k+1)
theorem Qx.u{q:Qx}(e:q.v k=Z)(h:∀i,i<k->q.n (i+1) c):q.n 0 c:=by
 obtain⟨b,a⟩:=aU.m e
 have a:=vn a
 refine Qx.E c q b<|Qx.J λi d=> ?_
 rcases q with _|⟨g,r⟩;(exact bF b);(exact h i<|Nat.lt_of_lt_of_eq d<|w7 a)
theorem zS{p:Nat->Prop}(h:p 0)(t:∀i,i<k->p (i+1)):∀i,i<k+1->p i:=λi=>B? i (λx=>h) λi a=>t i<|fC a
theorem z0{p:Nat->Prop}:∀i,i<0->p i:=λi a=>absurd a<|Dg i
@[elab_as_elim] theorem z2 {p:Nat->Prop} (a:p 0) (b:p 1) (i:Nat) (h:i<2):p i:=zS a (zS (p:=λi=>p<|i+1) b z0) i h
@[elab_as_elim] theorem z3 {p:Nat->Prop} (a:p 0) (b:p 1) (c:p 2) (i:Nat) (h:i<3):p i:=zS a (z2 (p:=λi=>p<|i+1) b c) i h
@[elab_as_elim] theorem z4 {p:Nat->Prop} (a:p 0) (b:p 1) (c:p 2) (d:p 3) (i:Nat) (h:i<4):p i:=zS a (z3 (p:=λi=>p<|i+1) b c d) i h
theorem du(q:Qx)(e:q.v 0=Z):q.n 0 (sj [a]):=Qx.u e z0
theorem bZ(q:Qx)(e:q.v 1=Z)(b:q.n 1 (sj [a])):q.n 0 (sj [a]):=Qx.u e<|zS b z0
theorem Df(q:Qx)(e:q.v 2=Z)(c:q.n 1 (sj [a]))(b:q.n 2 (sj [a])):q.n 0 (sj [a]):=Qx.u e<|zS c<|zS b z0
theorem gD(q:Qx)(e:q.v 0=Z):q.n 0 (sj [b,a]):=Qx.u e z0
theorem bU(q:Qx)(e:q.v 1=Z)(c:q.n 1 (sj [b,a])):q.n 0 (sj [b,a]):=Qx.u e<|zS c z0
theorem eM(q:Qx)(e:q.v 2=Z)(d:q.n 1 (sj [b,a]))(c:q.n 2 (sj [b,a])):q.n 0 (sj [b,a]):=Qx.u e<|zS d<|zS c z0
theorem EY(q:Qx)(e:q.v 0=Z):q.n 0 (sj [c,b,a]):=Qx.u e z0
theorem lR(q:Qx)(e:q.v 1=Z)(d:q.n 1 (sj [c,b,a])):q.n 0 (sj [c,b,a]):=Qx.u e<|zS d z0
theorem ju(q:Qx)(e:q.v 2=Z)(f:q.n 1 (sj [c,b,a]))(d:q.n 2 (sj [c,b,a])):q.n 0 (sj [c,b,a]):=Qx.u e<|zS f<|zS d z0
theorem TM(q:Qx)(e:q.v 3=Z)(g:q.n 1 (sj [c,b,a]))(f:q.n 2 (sj [c,b,a]))(d:q.n 3 (sj [c,b,a])):q.n 0 (sj [c,b,a]):=Qx.u e<|zS g<|zS f<|zS d z0
theorem yF(q:Qx)(e:q.v 1=Z)(f:q.n 1 (sj [d,c,b,a])):q.n 0 (sj [d,c,b,a]):=Qx.u e<|zS f z0
theorem pU(q:Qx)(e:q.v 2=Z)(g:q.n 1 (sj [d,c,b,a]))(f:q.n 2 (sj [d,c,b,a])):q.n 0 (sj [d,c,b,a]):=Qx.u e<|zS g<|zS f z0
theorem I8(q:Qx)(e:q.v 3=Z)(h:q.n 1 (sj [d,c,b,a]))(g:q.n 2 (sj [d,c,b,a]))(f:q.n 3 (sj [d,c,b,a])):q.n 0 (sj [d,c,b,a]):=Qx.u e<|zS h<|zS g<|zS f z0
theorem I7(q:Qx)(e:q.v 2=Z)(h:q.n 1 (sj [f,d,c,b,a]))(g:q.n 2 (sj [f,d,c,b,a])):q.n 0 (sj [f,d,c,b,a]):=Qx.u e<|zS h<|zS g z0
theorem Xy(q:Qx)(e:q.v 3=Z)(j:q.n 1 (sj [g,f,d,c,b,a]))(i:q.n 2 (sj [g,f,d,c,b,a]))(h:q.n 3 (sj [g,f,d,c,b,a])):q.n 0 (sj [g,f,d,c,b,a]):=Qx.u e<|zS j<|zS i<|zS h z0
theorem nN{a b:Nat}{p:Prop}(h:a=b)(e:aA a b=D):p:=bF<|e.s.t<|h▸χ a
theorem zF(h:1<=0):False:=Lq 0 h
theorem zE{b:Nat}(h:a=b):a<=b:=i5 h
theorem zG{b:Nat}(h:a=b):b<=a:=i5 h.s
theorem zs(a b:Nat):a<=a - b+b:=Nat.sub_le_iff_le_add.m<|aG _
end
theorem lr{n:Nat}:n<=n:=aG n
theorem bq{a b:Nat}(h:aA a b=Z):a=b:=vn h
theorem bR(a:Nat):aA a a=Z:=χ a
theorem qb{b:Nat}(h:a=b):aA a b=Z:=h▸bR a
theorem an(h:(a&&b)=Z):a=Z/\b=Z:=aU.m h
theorem na(h:a=Z)(k:b=Z):(a&&b)=Z:=aU.M ⟨h,k⟩
theorem on(h:(a||b)=D):a=D/\b=D:=bp.m h
theorem oy(h:(a||b)=Z):a=Z\/b=Z:=dZ.m h
theorem bl{a b:Nat}(h:aO a b=Z):a<=b:=d6 h
theorem lb{b:Nat}(h:a<=b):aO a b=Z:=bh.m h
theorem bt(h:bg a b=Z):a<b:=d6 h
theorem tb(h:a<b):bg a b=Z:=bh.m h
section
variable{α β:Type}{a b:α}{l m:List α}{i:Nat}
theorem m1(h:a∈[b]):a=b:=aX.m h
theorem mc(h:a∈b::l):a=b\/a∈l:=eT.m h
theorem ma(h:a∈l++m):a∈l\/a∈m:=bV.m h
theorem mm{b:β}(h:b∈l.m f):∃a,a∈l/\f a=b:=tZ.m h
theorem gL(h:l[i]?=M a):i<l.L:=(bw.m h).1
theorem oM{f:α->β}{b:β}(h:x.m f=M b):∃a,x=M a/\f a=b:=jw.m h
end
theorem iU{n:Nat}(h:k<=n)(z:aO n 1000000=Z):(k:Int)<2^63:=dG.M<|bI (aC h<|d6 z) (by decide:1000000<2^63)
theorem iN{k:Nat}{i:Int}(h:i=k):¬i<0:=Y h<|qX.M<|dW k
theorem iA(h:k.N<=1000000): -2^62<=k/\k<2^62:=have z:(k.N:Int)<2^62:=dG.M<|bI h (by decide:1000000<2^62);⟨fy (qW<|um z)<|Int.neg_le_of_neg_le<|Int.natAbs_neg k▸XK,Int.lt_of_le_of_lt XK z⟩
section
open Lx
def Lx.c:Lx:=v 0
def Lx.d:Lx:=v 1
def Lx.e:Lx:=v 2
def Lx.f:Lx:=v 3
def Lx.g:Lx:=v 4
def Lx.h:Lx:=v 5
def Lx.o:Lx:=n 0
def Lx.i:Lx:=n 1
def Lx.s(x:Lx):Lx:=a x (n 1)
noncomputable def ZL:List Qx:=[[(i,o),(s c,c)],
 [(i,o),(s c,d),(d,c)],
 [(s c,s d),(s c,d)],
 [(c,d),(s c,d)],
 [(s c,n 1114112),(c,n 99)],
 [(s c,s (s c))],
 [(s o,c),(s d,c)],
 [(s c,s (s d)),(s c,d)],
 [(a (s c) d,a c (s d))],
 [(a c (s d),a (s c) d)],
 [(c,d),(c,d)],
 [(n 5,c),(n 5,c)],
 [(s c,d),(s c,d)],
 [(s c,a d (n 2)),(s c,d)],
 [(s (a c (n 2)),s (s (s c)))],
 [(s (s c),s (s c))],
 [(c,n 1000),(s c,n 900)],
 [(c,n 1000),(d,n 990),(c,d)],
 [(c,a c (n 2))],
 [(c,n 900),(c,n 15)],
 [(c,n 3),(c,n 2)],
 [(i,c),(n 3,s c)],
 [(n 2,c),(n 3,s c)],
 [(c,n 1000),(s c,n 1000)],
 [(c,s d),(c,d)],
 [(s c,n 1000),(s c,n 900)],
 [(s (s c),s d),(s c,d)],
 [(s c,s d),(c,d)],
 [(i,o),(s c,o)],
 [(c,a c d)],
 [(c,n 1000),(c,n 990)],
 [(c,n 16777216),(c,n 1000)],
 [(c,a d (n 2)),(c,d)],
 [(c,d),(s c,s d)],
 [(c,s c)],
 [(c,n 900),(a c (s d),n 900)],
 [(c,n 1000),(d,n 1000),(c,d)],
 [(s c,d),(a e f,d),(s c,e)],
 [(s (a c (n 3)),a c (n 5))],
 [(s (a c (n 3)),a c (n 4))],
 [(i,c),(n 2,s c)],
 [(s (s c),a c (n 2))],
 [(s (s (a c (n 6))),d),(s (a c (n 10)),d)],
 [(c,d),(a c (s e),s d)],
 [(c,n 1000),(c,n 16)],
 [(o,c)],
 [(c,s d),(c,s d)],
 [(c,n 1000),(d,n 990),(c,s d)],
 [(s c,a c (n 2))],
 [(i,o),(c,d),(s d,c)],
 [(c,n 24),(c,n 24)],
 [(s c,d),(s (s (a c e)),d)],
 [(s (s (a (s c) d)),e),(s (s (a c f)),e),(s d,f)],
 [(c,n 1000),(d,n 24),(c,d)],
 [(a c d,n 900),(c,n 10),(d,n 10)],
 [(s c,s (s (s d))),(s c,d)],
 [(i,o),(s c,d),(s d,s c)],
 [(s (n 4),c),(n 5,c)],
 [(n 4,c),(n 4,c)],
 [(c,c)],
 [(s c,s (s (s c)))],
 [(s (s c),s (s (s c)))],
 [(s c,d),(s c,e),(s (s (s e)),d)],
 [(a (s c) d,n 900),(a c (s d),n 900)],
 [(s c,n 3),(s c,n 3)],
 [(s c,n 3),(c,n 2)],
 [(c,d),(a c (s e),d)],
 [(s (a c d),e),(a c f,e),(s d,f)],
 [(s c,d),(e,d),(s c,e)],
 [(c,d),(c,e),(e,d)],
 [(c,a d (n 4)),(c,d)],
 [(s (a c (n 4)),a c (n 5))],
 [(a c (n 2),n 40),(c,n 38)],
 [(s c,d),(s e,d),(s c,e)],
 [(a c d,n 800),(a (a e f) g,n 60),(a c d,e)],
 [(a (a c d) e,n 800),(a (a c f) g,n 60),(a d e,f)],
 [(i,s c)],
 [(n 2,s c),(n 44,s (s c))],
 [(c,n 1000),(c,n 3)],
 [(s c,n 1000),(c,n 3)],
 [(a (a (s c) (m 8 d)) (n 40),a (a c (m 8 (s d))) (n 40))],
 [(c,n 1000000),(c,n 900)],
 [(c,d),(s (s c),d)],
 [(s o,a i c)],
 [(a i c,n 3),(s c,n 3)],
 [(c,n 2),(s c,n 3)],
 [(s c,n 1000),(c,d),(s d,n 900)],
 [(i,o),(c,d),(s (s d),s c)],
 [(s c,d),(s c,e),(s e,d)],
 [(i,o),(s c,a d o),(d,c)],
 [(a (s c) d,s e),(a c (s d),s e)],
 [(s c,a (s d) e),(s c,a d (s e))],
 [(i,o),(s (n 9),c),(c,o)],
 [(i,o),(s (n 9),c),(c,i)],
 [(i,o),(s (n 9),c),(c,n 2)],
 [(i,o),(s (n 9),c),(c,n 8)],
 [(i,o),(s (n 9),c),(c,n 9)],
 [(i,o),(s (s c),s o)],
 [(c,o),(s c,s o)],
 [(i,o),(s (s c),s (s d)),(s d,c)],
 [(c,s d),(s c,s (s d))],
 [(s c,d),(s (s c),s d)],
 [(i,o),(s (s c),d),(d,c)],
 [(c,n 1000),(c,d),(s d,n 900)],
 [(c,n 16),(c,n 15)],
 [(i,o),(s (s c),o)],
 [(i,o),(s c,d),(s d,c)],
 [(c,a d e),(c,d)],
 [(i,o),(s (s c),s c)],
 [(i,o),(a c (n 2),c)],
 [(c,d),(a c (n 2),d)],
 [(s (a c d),e),(d,n 30),(s (a (a c (m 8 f)) (n 40)),e)],
 [(c,n 1000),(c,n 24)],
 [(a c d,a (s e) f),(a c d,a e (s f))],
 [(a (s c) d,a e f),(a c (s d),a e f)],
 [(a o c,n 16777216),(c,n 1000)],
 [(a (a o c) (n 11),n 16777216),(c,n 1000)],
 [(a c d,n 16777216),(c,n 1000),(d,n 1000)],
 [(a (a c d) e,n 16777216),(c,n 1000),(d,n 1000),(e,n 6000)],
 [(s c,d),(s c,e),(e,d)],
 [(s o,c),(i,c)],
 [(i,o),(a c (s d),o)],
 [(a c d,e),(a c (s d),s e)],
 [(s (a (s (n 301)) (a (m 3 c) (n 2))),n 1000),(s (a (m 3 c) (n 400)),n 1000)],
 [(c,n 1000),(c,n 900)],
 [(a c d,n 900),(c,n 15),(d,n 15)],
 [(a (a (a c (n 3)) (m 8 d)) (n 40),a (a c (m 8 (s d))) (n 40))],
 [(i,o),(n 97,c),(c,n 83)],
 [(i,o),(c,n 99),(a (a d (n 13)) (n 1000),c)],
 [(i,o),(a (a c (n 13)) (n 1000),n 83)],
 [(i,o),(a (a c (n 13)) (n 1000),n 84)],
 [(i,o),(a (a c (n 13)) (n 1000),n 46)],
 [(i,o),(c,a (a d e) f),(s (a (a d e) f),c)],
 [(a (a c (n 2)) (m 2 d),a c (m 2 (s d)))],
 [(a c (m 2 (s d)),a (a c (n 2)) (m 2 d))],
 [(i,a (a (a o (n 2)) (m 2 c)) (n 2))],
 [(a (a (a (a o (n 2)) (m 2 c)) (n 2)) (m 2 d),n 38),(a d c,n 17),(a d c,n 17)],
 [(s c,a (n 18) d),(c,a (n 17) d)],
 [(i,o),(n 4,c),(s d,n 4),(c,d)],
 [(s c,n 4),(s (s c),n 5)],
 [(i,o),(n 5,c),(s c,n 5)],
 [(c,s (s c))],
 [(s (s (s c)),s (s (s c)))],
 [(s c,n 1000),(c,n 900)],
 [(a c (n 9),n 900),(a c (m 9 (s d)),n 900)],
 [(c,n 900),(a c (m 2 (s d)),n 900)],
 [(a c (m 9 d),n 900),(a e (m 9 (s d)),n 900),(c,a e (n 9))],
 [(a c d,n 900),(a e (s d),n 900),(c,s e)],
 [(a c (m 2 d),n 900),(a e (m 2 (s d)),n 900),(c,a e (n 2))],
 [(c,a d (m 9 (s e))),(f,a d (n 9)),(c,a f (m 9 e))],
 [(i,o),(n 97,c),(c,n 84)],
 [(c,s (s (s c)))],
 [(c,n 1000),(c,d),(d,n 1000)],
 [(s c,n 1000),(s c,n 4)],
 [(c,n 1000),(a c (s d),n 4)],
 [(c,n 4),(s c,n 4)],
 [(a (s c) d,n 4),(a c (s d),n 4)],
 [(a (a o c) o,d),(c,d)],
 [(n 97,a (n 97) c)],
 [(a (n 97) c,n 99),(s c,n 3)],
 [(a c (a d e),n 51),(f,n 50),(a c e,f),(d,i)],
 [(a c d,n 17),(c,n 6),(d,n 6)],
 [(a (a c d) e,a c (a e d))],
 [(a c (a d e),a (a c e) d)],
 [(a (s c) (s d),a c (s (s d)))],
 [(a c (s (s d)),a (s c) (s d))],
 [(c,n 800),(a c (s d),n 800)],
 [(s i,s c),(s o,c)],
 [(s o,s c)],
 [(a (s c) d,n 800),(a c (s d),n 800)],
 [(a (a c d) e,a c (a d e))],
 [(a c (a d e),a (a c d) e)],
 [(a c d,a (a c e) f),(d,a f e)],
 [(a (a c d) e,a c f),(a e d,f)],
 [(a c d,n 800),(a c e,n 800),(a d f,e)],
 [(a (a c d) e,n 800),(a c f,n 800),(a d e,f)],
 [(i,o),(c,o),(s o,d),(d,c)],
 [(s o,c),(d,c),(s o,d)],
 [(a c d,n 800),(a c e,n 800),(d,e)],
 [(i,o),(s c,d),(a d e,c)],
 [(a c d,n 800),(a c e,n 800),(s d,e)],
 [(i,o),(a c (n 2),s c)],
 [(s c,d),(a c (n 2),d)],
 [(i,o),(a c (n 3),a c (n 2))],
 [(a c (n 2),d),(a c (n 3),d)],
 [(s c,s c)],
 [(i,o),(a c (n 4),a c (n 3))],
 [(a c (n 3),d),(a c (n 4),d)],
 [(s c,a d (n 3)),(s c,d)],
 [(s c,d),(s e,d),(c,f),(f,e)],
 [(c,a d (n 3)),(c,d)],
 [(a (s c) d,s (a c d))],
 [(s (a c d),a (s c) d)],
 [(a c (a (a d (s o)) e),n 800),(a (s (a c d)) e,n 800)],
 [(a (s (m 2 o)) c,s c)],
 [(s c,a (s (m 2 o)) c)],
 [(c,a d e),(c,a e d)],
 [(a c d,e),(a d c,e)],
 [(a (s (m 2 (s c))) d,a (a (s (m 2 c)) (n 2)) d)],
 [(a (a (s (m 2 c)) (n 2)) d,a (s (m 2 (s c))) d)],
 [(a (s (a c d)) e,n 800),(e,n 2),(f,n 700),(a c d,f)],
 [(c,n 700),(d,n 700),(a c e,d)],
 [(a (a (m 2 o) (a (m 2 c) (n 2))) d,s (a (s (m 2 c)) d))],
 [(s (a (s (m 2 c)) d),a (a (m 2 o) (a (m 2 c) (n 2))) d)],
 [(s c,n 800),(a c (m 0 d),n 700)],
 [(c,n 700),(a c (m 0 d),n 700)],
 [(a c d,a e (a c f)),(d,a f e)],
 [(a c (a d e),a d f),(a e c,f)],
 [(a (a (m 2 (s c)) (a (m 2 d) (n 2))) e,a (a (a (m 2 c) (a (m 2 d) (n 2))) (n 2)) e)],
 [(a (a (a (m 2 c) (a (m 2 d) (n 2))) (n 2)) e,a (a (m 2 (s c)) (a (m 2 d) (n 2))) e)],
 [(a (a o c) d,a c d)],
 [(a c d,a (a o c) d)],
 [(a (s (a (a c d) e)) f,n 800),(f,n 2),(a c g,n 700),(a d e,g)],
 [(a c d,n 700),(a c e,n 700),(a d f,e)],
 [(a o c,n 800),(a (a d e) f,n 60),(a c g,d)],
 [(s (a (a o c) d),e),(a c f,e),(s d,f)],
 [(a (a o c) d,e),(a c d,e)],
 [(c,a (a o d) e),(c,a d e)],
 [(a o c,d),(a c e,d)],
 [(c,a o d),(c,a d e),(e,o)],
 [(a c d,n 800),(a (a e f) g,n 60),(a d h,f),(c,e)],
 [(a (a c d) e,a c f),(a d e,f)],
 [(a c d,a (a c e) f),(d,a e f)],
 [(a c d,a c e),(a d f,e)],
 [(a c d,a c e),(d,a e f),(f,o)],
 [(a c d,n 800),(a (a c d) e,n 60)],
 [(c,o),(d,o),(c,a (m 0 e) d)],
 [(s (s c),n 4096),(c,n 1000)],
 [(c,a d (a e (m 1 (m 2 f)))),(g,f),(c,a (a (a d h) g) e),(h,f)],
 [(i,o),(c,d),(s e,c),(d,e)],
 [(i,c),(n 3,c)],
 [(s (n 3),c),(n 6,a c (n 2))],
 [(n 40,c),(n 42,a c (n 2))],
 [(n 6,s c),(n 43,s (s c))],
 [(n 3,s c),(n 43,s (s c))],
 [(n 42,s c),(n 43,s (s c))],
 [(n 3,s c),(n 44,s (s c))],
 [(n 43,s c),(n 44,s (s c))],
 [(n 2,s c),(n 45,s (s c))],
 [(n 44,s c),(n 45,s (s c))],
 [(s (a c (n 6)),a c (n 7))],
 [(s c,a c (n 17))],
 [(s (a c (n 6)),a c (n 16))],
 [(s (a c (n 7)),a c (n 16))],
 [(s (a c (n 14)),a c (n 16))],
 [(s (a c (n 15)),a c (n 16))],
 [(s (a c (n 6)),a c (n 15))],
 [(s (a c (n 6)),s (a c (n 7)))],
 [(s (a c (n 7)),a c (n 15))],
 [(s (a c (n 7)),s (a c (n 7)))],
 [(s (a c (n 14)),a c (n 15))],
 [(s (s c),s d),(s (s c),d)],
 [(s (s c),d),(s (s c),e),(s e,d)],
 [(s c,d),(s e,s d),(s c,e)],
 [(s (s c),s d),(e,f),(s f,s d),(s c,e)],
 [(s c,s d),(e,d),(s c,e)],
 [(s c,n 100000),(c,n 1000)],
 [(s c,n 64),(s c,n 20)],
 [(c,n 1000),(c,i)],
 [(c,d),(c,e),(f,a d o),(e,f)],
 [(i,c),(s o,c)],
 [(a (s c) d,e),(a c (s d),e)],
 [(c,a (s (s c)) (n 2))],
 [(s c,a d (n 3)),(s c,e),(e,d)],
 [(s c,a d (n 3)),(c,d)],
 [(s (s c),a c (n 3))],
 [(s c,a d (n 2)),(s c,e),(e,d)],
 [(s c,a d (n 2)),(c,d)],
 [(a o c,d),(c,d)],
 [(i,o),(s (s c),c)],
 [(a (a (s (a (a (m 2 c) (a (m 2 d) (n 2))) e)) c) d,n 200),(a (a d c) e,n 60),(a (a d c) e,n 60),(a (a d c) e,n 60)],
 [(c,a d e),(s c,d)],
 [(a c d,n 700),(a (a c d) e,n 60)],
 [(a (a (a i c) c) d,n 200),(a (a d c) e,n 60),(a (a d c) e,n 60)],
 [(a (a i c) c,n 200),(a (a c d) e,n 60),(a (a c d) e,n 60)],
 [(a c (a d e),s f),(a c e,f),(d,i)],
 [(c,d),(c,e),(e,f),(f,d)],
 [(a i (a (n 3) (m 5 c)),s (a (m 5 c) (n 5)))]]
def zQ(n:Nat):Qx:=ZL.g n []
end
set_option genInjectivity true in
inductive Loc where
 |t (k n:Nat)
 |o (k a b:Nat)
def Loc.ctorIdx(l:Loc):Nat:=l.rec (λ_ _=>0) λ_ _ _=>1
theorem IU(h:j<n):Loc.t k j≠Loc.t a n:=λz=>fY n<|(Loc.t.inj z).2▸h
theorem k!(h:a<n):Loc.o k a b≠Loc.o d n c:=λz=>fY n<|(Loc.o.inj z).2.1▸h
set_option genInjectivity true in
inductive V where
 |u
 |N
 |o (b:Bool)
 |I (i:Int)
 |s (l:List Nat)
 |a
 |T (hd tl:V)
 |L (n:Loc)
def V.ctorIdx(v:V):Nat:=v.rec 0 1 (λ_=>2) (λ_=>3) (λ_=>4) 5 (λ_ _ _ _=>6) λ_=>7
set_option genInjectivity true in
inductive O where
 |l (vs:List V)
 |d (kvs:List (V×V))
 |s (vs:List V)
 |i (c:Addr) (fs:List (Nat×V))
 |C (k:Nat) (vs:List V)
 |t (k:Nat)
def O.ctorIdx(o:O):Nat:=o.rec (λ_=>0) (λ_=>1) (λ_=>2) (λ_ _=>3) (λ_ _=>4) λ_=>5
theorem beq_iff(a b:Nat):aA a b=Z↔a=b:=by rw[<-Nat.beq_eq]
theorem qm{b:Nat}(h:a≠b):aA a b=D:=mG.M λz=>h<|bq z
theorem sx(h:0<i):∃j,i=j+1:=⟨i - 1,(qZ h).s⟩
structure St where
 l:List V
 h:Loc->Option O
 n:Nat
abbrev W(α:Type):=(α->St->Prop)->St->Prop
def bE{b:Type}(a:b):W b:=λQ σ=>Q a σ
def bD{c b:Type}(m:W c)(f:c->W b):W b:=λQ σ=>m (λa=>f a Q) σ
def jD{a:Type}:W a:=λx x=>False
def Vq{d:Type}(c:W Bool)(a b:W d):W d:=bD c λx Q σ=>cond x (a Q σ)<|b Q σ
def lW{c:Type}(a b:W c):W c:=λQ σ=>a Q σ\/b Q σ
def V.t(l:List V):V:=l.R .a λv _ a=>.T v a
def V.e(v:V):List V:=v.rec [] [] (λ_=>[]) (λ_=>[]) (λ_=>[]) [] (λa _ _ r=>a::r) λ_=>[]
def V.d(v:V):Bool:=v.rec D D (λ_=>D) (λ_=>D) (λ_=>D) Z (λ_ _ _ _=>Z) λ_=>D
def V.c(v:V):Bool:=v.rec D Z (λ_=>D) (λ_=>D) (λ_=>D) D (λ_ _ _ _=>D) λ_=>D
def eh(c:Bool)(m:W a):W a:=λQ σ=>c=Z/\m Q σ
def uF(p:Option c)(f:c->W a):W a:=λQ σ=>∃b,p=M b/\f b Q σ
def CH(v:V)(f:Loc->List V->W a):W a:=λQ σ=>∃n vs,v=.L n/\σ.h n=M (.l vs)/\f n vs Q σ
def KI(v:V)(f:Loc->List (V×V)->W b):W b:=λQ σ=>∃n a,v=.L n/\σ.h n=M (.d a)/\f n a Q σ
def onS(v:V)(f:Loc->List V->W a):W a:=λQ σ=>∃n vs,v=.L n/\σ.h n=M (.s vs)/\f n vs Q σ
def l?(v:V)(f:Loc->Addr->List (Nat×V)->W b):W b:=λQ σ=>∃n c a,v=.L n/\σ.h n=M (.i c a)/\f n c a Q σ
def vp(v:V)(f:Int->W a):W a:=λQ σ=>∃i,v=.I i/\f i Q σ
def Ye(v:V)(f:Nat->W a):W a:=λQ σ=>∃k,v=.I (.o k)/\f k Q σ
def Dh(v:V)(f:List Nat->W a):W a:=λQ σ=>∃l,v=.s l/\f l Q σ
def Po(v:V)(f:List V->W a):W a:=λQ σ=>v.d=Z/\f v.e Q σ
def Yc(vs:List b)(m:W a):W a:=λQ σ=>vs=[]/\m Q σ
def wa(vs:List b)(f:b->W a):W a:=λQ σ=>∃w,vs=[w]/\f w Q σ
def Nf(vs:List a)(f:a->a->W b):W b:=λQ σ=>∃v w,vs=[v,w]/\f v w Q σ
def Loc.E(l m:Loc):Bool:=l.rec (λk n=>m.rec (λc n'=>aA k c&&aA n n') λ_ _ _=>D) λk a b=>m.rec (λ_ _=>D) λc e d=>aA k c&&(aA a e&&aA b d)
theorem Loc.e:Loc.E l m=Z↔l=m:=by
 refine⟨λh=> ?_,λh=>h▸l.rec (λk n=>na (bR k)<|bR n) λk a b=>na (bR k)<|na (bR a)<|bR b⟩
 rcases l with⟨k,n⟩|⟨k,a,b⟩<;>rcases m with⟨c,n'⟩|⟨c,e,d⟩
 .exact(an h).e λa b=>(beq_iff k c).m a▸(beq_iff n n').m b▸U
 .exact bF h
 .exact bF h
 .exact(an h).e λx h=>(an h).e λy z=>(beq_iff k c).m x▸(beq_iff a e).m y▸(beq_iff b d).m z▸U
noncomputable instance:DecidableEq Loc:=λa b=>decidable_of_iff _ (Loc.e (l:=a) (m:=b))
def aZ(f:Loc->Option O)(n:Loc)(o:O):Loc->Option O:=λk=>bif Loc.E k n then M o else f k
theorem sz(h:k=n):aZ f n o k=M o:=by unfold aZ;refine Y (Loc.e.M h) ?_;rfl
theorem sv(h:k≠n):aZ f n o k=f k:=by
 unfold aZ;refine Y (mG.M λe=>h<|Loc.e.m e) ?_;rfl
def AN(n:Loc)(o:O)(σ:St):St:=⟨σ.l,aZ σ.h n o,σ.n⟩
def Gq(n:Loc)(o:O)(a:b):W b:=λQ σ=>Q a<|AN n o σ
def iB(o:O):W V:=λQ σ=>∃l,σ.h l=lJ/\Q (.L l) ⟨σ.l,aZ σ.h l o,σ.n+1⟩
def fO(l:List (Nat×V))(n:Nat):Option V:=l.R aI λp _ a=>bif aA p.1 n then M p.2 else a
def j9(l:List (Nat×V))(n:Nat)(v:V):List (Nat×V):=l.R [(n,v)] λp r a=>bif aA p.1 n then(p.1,v)::r else p::a
theorem A9(k:Nat)(v:V)(a:List (Nat×V)):fO ((k,v)::a) k=M v:=congrArg (λc=>bif c then M v else fO a k)<|bR k
theorem vv(v:V)(a:List (Nat×V))(h:k≠j):fO ((k,v)::a) j=fO a j:=congrArg (λc=>bif c then M v else fO a j)<|qm h
theorem fe(a:List (Nat×V))(k:Nat)(w:V)(j:Nat):fO (j9 a k w) j=if j=k then M w else fO a j:=
 a.R (if h:j=k then by rw[if_pos h,h];exact A9 k w []else by rw[if_neg h];exact vv w []<|xx h) λp a d=>by
  by_cases h:p.1=k
  .revert d;refine rR h ?_;intro d
   refine Y ((show j9 ((p.1,p.2)::a) p.1 w=(p.1,w)::a from congrArg (λc=>bif c then(p.1,w)::a else(p.1,p.2)::j9 a p.1 w)<|bR p.1)) ?_
   by_cases b:j=p.1
   .rw[if_pos b,b];exact A9 ..
   .rw[if_neg b,vv w a<|xx b];exact(vv p.2 a<|xx b).s
  .refine Y ((show j9 ((p.fst,p.2)::a) k w=(p.fst,p.2)::j9 a k w from congrArg (λc=>bif c then(p.fst,w)::a else(p.fst,p.2)::j9 a k w)<|qm h)) ?_
   by_cases b:p.1=j
   .revert d;refine rR b ?_;intro d;rw[if_neg h,A9];exact(A9 p.1 p.2 a).s
   .exact Y (vv p.2 _ b)<|Y d<|Y (vv p.2 a b) U
def okV(v:V):Option V:=V.rec aI (M v) (λ_=>M v) (λ_=>M v) (λ_=>M v) (M v) (λ_ _ _ _=>M v) (λ_=>M v) v
theorem Zm{c b:Type}{x:Option c}{f:c->Option b}{y:b}{G:Prop}(h:x.b f=M y)(k:∀a,x=M a->f a=M y->G):G:=by
 rcases x with _|a;(exact nS h);(exact k a U h)
def x5(j:Nat)(σ:St):Option V:=(σ.l[j]?).b okV
theorem Co(h:x5 j σ=M v):σ.l[j]?=M v/\v≠.u:=Zm h λw e h=>have t:=(show okV w=M v->w=v/\v≠.u from by rcases w with _|_<;>first|exact nS|exact λh=>rS h ⟨U,λe=>V.noConfusion e⟩) h;⟨t.1▸e,t.2⟩
def aS(i:Nat):W V:=λQ σ=>(x5 i σ).e False λv=>Q v σ
def ck(i:Nat)(v:V):W Unit:=λQ σ=>bif aO (i+1) σ.l.L then Q () ⟨σ.l.s i v,σ.h,σ.n⟩else False
inductive F where
 |n|brk|cont
 |r (v:V)
abbrev aa:=Nat->List Nat
abbrev ab:=V->St->Prop
abbrev ae:=Loc->List V->W V
abbrev ag:=Nat->Nat
abbrev ah:=F->St->Prop
abbrev ai:=Bool->St->Prop
abbrev aj:=Unit->St->Prop
abbrev ak:=V->W Unit
abbrev ao:=List Nat
abbrev aq:=List V
abbrev ar:=List (Nat×V)
abbrev au:=List (V×V)
abbrev aw:=List (Nat×List Nat)
abbrev ax(a b c:Nat):V:=.L (.o a b c)
abbrev ay(a b:Nat):V:=.L (.t a b)
def F.ctorIdx(f:F):Nat:=f.rec 0 1 2 λ_=>3
noncomputable def fits(n:Nat):Bool:=aO n 1000
def cY(vs:aq):W V:=eh (fits vs.L)<|bE<|V.t vs
def bj(vs:aq):W V:=eh (fits vs.L)<|iB<|.l vs
noncomputable def SE:F->V
 |.r v=>v
 |_=>.N
def qn(k:Nat)(v:V):W V:=l? v λx x a=>uF (fO a k) bE
def wy(c:Addr)(k:Nat)(d:V)(v:V):W V:=l? v λx c' a=>eh (aA c c')<|bE<|(fO a k).g d
def AR(k:Nat)(v w:V):W Unit:=l? v λn c a=>eh (fits a.L)<|Gq n (.i c<|j9 a k w) ()
def o7(v:V):W Unit:=CH v λx x=>bE ()
def Ei(v:V):W Unit:=KI v λx x=>bE ()
def isSet(v:V):W Unit:=onS v λx x=>bE ()
def isS(v:V):W Unit:=Dh v λx=>bE ()
def jc(l:ao):List Nat->Bool:=l.R (λm=>m.R Z λ_ _ _=>D) λa _ c m=>m.R D λb t _=>aA a b&&c t
theorem fS:jc l m=Z↔l=m:=⟨(show∀m,jc l m=Z->l=m from l.R (λm=>m.R (λ_=>U) λ_ _ _=>bF) λa r c m=>m.R bF λb t _ h=>bq (an h).1▸c t (an h).2▸U) m,λh=>h▸l.R U λa _ c=>na (bR a) c⟩
def dX(v:V):V->Bool:=v.rec
 (λw=>w.rec Z D (λ_=>D) (λ_=>D) (λ_=>D) D (λ_ _ _ _=>D) λ_=>D) V.c
 (λa w=>w.rec D D (λb=>a==b) (λ_=>D) (λ_=>D) D (λ_ _ _ _=>D) λ_=>D)
 (λa w=>w.rec D D (λ_=>D) (λb=>a==b) (λ_=>D) D (λ_ _ _ _=>D) λ_=>D)
 (λa w=>w.rec D D (λ_=>D) (λ_=>D) (λb=>jc a b) D (λ_ _ _ _=>D) λ_=>D)
 (λw=>w.rec D D (λ_=>D) (λ_=>D) (λ_=>D) Z (λ_ _ _ _=>D) λ_=>D)
 (λ_ _ i j w=>w.rec D D (λ_=>D) (λ_=>D) (λ_=>D) D (λc d _ _=>i c&&j d) λ_=>D)
 λa w=>w.rec D D (λ_=>D) (λ_=>D) (λ_=>D) D (λ_ _ _ _=>D) λb=>Loc.E a b
theorem vq(v:V):∀w,dX v w=Z->v=w:=by
 induction v with
 |T x y i j=>intro w;rcases w with _|_<;>first|exact bF|exact λh=>(an h).e λp q=>congr (congrArg _<|i _ p)<|j _ q
 |_=>intro w;rcases w with _|_<;>first|exact bF|exact λh=>U|exact λh=>congrArg V.s (fS.m h)|exact λh=>congrArg V.L (Loc.e.m h)|exact λh=>congrArg V.o (bW h)|exact λh=>congrArg V.I<|bW h
theorem uA:∀a,dX a a=Z:=
 @V.rec (λa=>dX a a=Z) U U (λb=>beq_self_eq_true b) (λb=>beq_self_eq_true b) (λl=>l.R U λa _ c=>na (bR a) c) U (λx x p q=>na p q) λx=>Loc.e.M U
theorem gN:dX a b=Z↔a=b:=⟨vq a b,λh=>h▸uA a⟩
def zg(v:V):Nat->Bool:=v.rec (λ_=>D) (λ_=>Z) (λ_ _=>D) (λ_ _=>Z) (λ_ _=>Z) (λ_=>Z) (λ_ _ i j d=>d.r D (λd _=>i d)&&j d) λ_ _=>D
def pY(v:V)(d:Nat):Bool:=zg v d
def eqM(v w:V):W Bool:=eh (zg v 6&&zg w 6)<|bE<|dX v w
def notM(f:V->V->W Bool)(v w:V):W Bool:=bD (f v w) λb=>bE<| !b
def neM(v w:V):W Bool:=eh (zg v 6&&zg w 6)<|bE<| !dX v w
def ltM(v w:V):W Bool:=vp v λa=>vp w λb=>bE<|decide<|a<b
def leM(v w:V):W Bool:=vp v λa=>vp w λb=>bE<|decide<|a<=b
def gtM(v w:V):W Bool:=vp v λa=>vp w λb=>bE<|decide<|b<a
def geM(v w:V):W Bool:=vp v λa=>vp w λb=>bE<|decide<|b<=a
def isM(v w:V):W Bool:=eh w.c<|bE v.c
def YZ(v w:V):W Bool:=eh w.c<|bE<| !v.c
def qq(v:V)(l:aq):Bool:=l.A λw=>dX w v
def Cf(l:aq):Bool:=l.a λv=>zg v 6
def Kg(v w:V):W Bool:=CH w λx vs=>eh (zg v 6&&Cf vs)<|bE<|qq v vs
def szW(n:Nat):W Bool:=eh (fits n)<|bE<| !(aA n 0)
def ZR(v:V):W Bool:=lW (eh v.c<|bE D)<|lW (λQ σ=>∃b,v=.o b/\Q b σ)<|lW (vp v λi=>bE<| !(i==0))<|lW (Dh v λl=>szW l.L)<|lW (Po v λl=>szW l.L)
 <|lW (CH v λx l=>szW l.L)<|KI v λx l=>szW l.L
def Wh(c:Addr)(v:V):W Bool:=lW (eh v.c<|bE D)<|l? v λx c' x=>eh (aA c c')<|bE Z
def eK(l:au)(x:V):Option V:=l.R aI λp _ a=>bif dX p.1 x then M p.2 else a
def gi(l:au)(x w:V):List (V×V):=l.R [(x,w)] λp r a=>bif dX p.1 x then(p.1,w)::r else p::a
def WX(d k:V):W V:=KI d λx a=>eh (pY k 6)<|uF (eK a k) bE
def zb(w d k:V):W V:=KI d λx a=>eh (pY k 6)<|bE<|(eK a k).g w
def Yx(k d:V):W Bool:=KI d λx a=>eh (pY k 6)<|bE (eK a k).i
def BZ(d k w:V):W Unit:=KI d λn a=>eh (pY k 6&&fits a.L)<|Gq n (.d<|gi a k w) ()
noncomputable def idx(n:Nat):Int->Option Nat
 |.o j=>bif bg j n then M j else aI
 |.n j=>bif bg j n then M (n - (j+1))else aI
def Ol{a:Type}(l:List a)(k:Int):Option a:=(idx l.L k).b (l[·]?)
def VL(vs:aq)(k:Int):W V:=eh (fits vs.L)<|uF (Ol vs k) bE
def dj(o i:V):W V:=lW (CH o λx vs=>vp i<|VL vs)<|lW (WX o i)<|lW (Dh o λl=>vp i λk=>eh (fits l.L)<|uF (Ol l k) λc=>bE<|.s [c])<|Po o λvs=>vp i<|VL vs
def cM(o i w:V):W Unit:=lW (CH o λm vs=>Ye i λk=>eh (bg k vs.L&&fits vs.L)<|Gq m (.l<|vs.s k w) ())<|BZ o i w
def sO(v w:V):W V:=vp v λi=>vp w λj=>bE<|.I<|i+j
def kc(v w:V):W V:=vp v λi=>vp w λj=>bE<|.I<|i - j
def qr(v:V):W V:=vp v λi=>bE<|.I<| -i
def ej(v w:V):W V:=lW (sO v w)<|lW (Dh v λl=>Dh w λk=>eh (fits l.L&&fits k.L)<|bE<|.s<|l++k)<|CH v λx vs=>CH w λx a=>eh (fits vs.L&&fits a.L)<|iB<|.l<|vs++a
noncomputable def clip(n:Nat):Int->Nat
 |.o j=>bif aO j n then j else n
 |.n j=>n - (j+1)
def Er(n:Nat):Option Int->Nat
 |none=>0
 |some i=>clip n i
def FD(n:Nat):Option Int->Nat
 |none=>n
 |some i=>clip n i
def cut{a:Type}(l:List a)(lo b:Option Int):List a:=(l.d<|Er l.L lo).t<|FD l.L b - Er l.L lo
noncomputable def part:V->Option (Option Int)
 |.N=>M aI
 |.I i=>M<|M i
 |_=>aI
noncomputable def W3:Option Int->Option Int->Option Nat
 |some (.o j),aI=>M j
 |_,_=>aI
def i4(o l u:V):W V:=uF (part l) λlo=>uF (part u) λa=>lW (CH o λy vs=>eh (fits vs.L)<|iB<|.l<|cut vs lo a)<|lW (Dh o λx=>eh (fits x.L)<|bE<|.s<|cut x lo a)
 <|Po o λvs=>uF (W3 lo a) λj=>eh (bg 0 j&&aO j vs.L&&fits vs.L)<|bE<|V.t<|vs.d j
def zK{a:Type}(o:V)(f:Loc->List V->W a):W a:=CH o λm vs=>eh (fits vs.L)<|f m vs
def hH(o:V)(vs:aq):W V:=wa vs λw=>zK o λm a=>Gq m (.l<|a++[w]) .N
def DN(o:V)(vs:aq):W V:=lW (Yc vs<|zK o λm a=>uF a[a.L - 1]? λv=>Gq m (.l<|a.t<|a.L - 1) v)<|wa vs λw=>Ye w λk=>zK o λm a=>uF a[k]? λv=>Gq m (.l<|a.e k) v
def YX(o:V)(vs:aq):W V:=Nf vs λi w=>Ye i λk=>zK o λm a=>eh (aO k a.L)<|Gq m (.l<|a.t k++w::a.d k) .N
def N8(n:Nat):W V:=eh (fits n)<|bE<|.I<|.o n
def Y8(vs:aq):W V:=wa vs λv=>lW (Dh v λl=>N8 l.L)<|lW (Po v λl=>N8 l.L)<|lW (CH v λx l=>N8 l.L)<|KI v λx l=>N8 l.L
def pC(v:V):W (List V):=lW (Po v λa=>eh (fits a.L)<|bE a)<|CH v λx a=>eh (fits a.L)<|bE a
def z5(vs:aq):W V:=wa vs λv=>bD (pC v) λa=>bE<|V.t a
def Eo(vs:aq):W V:=wa vs λv=>bD (pC v) λa=>iB<|.l a
def Oe(vs:aq):W V:=Nf vs λv w=>vp v λa=>vp w λb=>bE<|.I<|bif decide (b<a)then b else a
inductive It where
 |L (p:Loc×Nat)
 |r (vs:aq)
 |k (p:Loc×Nat×Nat)
 |s (l:ao)
 |E (p:Loc×Nat)
 |e (p:Nat×List V)
 |I (p:Loc×Nat×Nat)
 |R (p:Nat×Nat)
def It.ctorIdx(i:It):Nat:=i.rec (λ_=>0) (λ_=>1) (λ_=>2) (λ_=>3) (λ_=>4) (λ_=>5) (λ_=>6) λ_=>7
def ys(v w:V):V:=.T v<|.T w .a
def RY:It->W (Option<|V×It)
 |.L p=>CH (.L p.1) λx vs=>bE<|(vs[p.2]?).m λv=>(v,.L (p.1,p.2+1))
 |.r vs=>bE<|vs.h.m λv=>(v,.r vs.b)
 |.k p=>KI (.L p.1) λx l=>eh (aA l.L p.2.2)<|bE<|(l[p.2.1]?).m λe=>(e.1,.k (p.1,p.2.1+1,p.2.2))
 |.s l=>bE<|l.h.m λc=>(.s [c],.s l.b)
 |.E p=>CH (.L p.1) λx vs=>eh (aO p.2 vs.L)<|bE<|(vs[p.2]?).m λv=>(ys (.I<|.o p.2) v,.E (p.1,p.2+1))
 |.e p=>bE<|p.2.h.m λv=>(ys (.I<|.o p.1) v,.e (p.1+1,p.2.b))
 |.I p=>KI (.L p.1) λx l=>eh (aA l.L p.2.2)<|bE<|(l[p.2.1]?).m λe=>(ys e.1 e.2,.I (p.1,p.2.1+1,p.2.2))
 |.R p=>bE<|bif aA p.2 0 then aI else M (.I<|.o p.1,.R (p.1+1,p.2 - 1))
noncomputable def uD(a:rF)(b c:List Str):Bool:=
 a.kind==.f&&a.n.a (λx=>x.2 !=.c&&(!(x.2==.f)||c.c x.1))&&a.n.a (λx=> !(x.2==.local)||a.n.o x.1==M .local)&&
 b.a (λx=>a.n.o x==M .local&& !(x==("__debug__":Str))&& !(x==("__classdict__":Str)))&&
 c.a (λx=>a.n.o x==M .f&& !(x==("__debug__":Str))&& !(x==("__classdict__":Str)))&&decide (b++c).N
noncomputable def Cw(c:Nat)(l:ao):Bool:=l.A λd=>aA d c
def Q5(v w:V):W Bool:=Dh v λa=>wa a λc=>Dh w λl=>bE<|Cw c l
def Bk(vs:aq):W V:=Yc vs<|iB<|.s []
def ER(o:V)(vs:aq):W V:=wa vs λw=>Dh w λl=>onS o λm a=>eh (fits a.L)<|Gq m (.s<|bif qq (.s l) a then a else a++[.s l]) .N
def Kh(v w:V):W Bool:=Dh v λl=>onS w λx vs=>bE<|qq (.s l) vs
def Rz(vs:aq):W V:=wa vs λv=>onS v λx a=>N8 a.L
def aaZ(v w:V):W V:=vp v λa=>vp w λb=>eh (decide<|b≠0)<|bE<|.I<|a.fmod b
def B7(v w:V):W V:=vp v λa=>vp w λb=>eh (decide (b≠0)&&aO b.N 1000000)<|bE<|.I<|a.fdiv b
noncomputable def AO{a:Type}(k:Nat)(l:List a):List a:=(aQ k l).flatten
def jq(v w:V):W V:=lW (vp v λa=>vp w λb=>eh (aO a.N 1000000)<|bE<|.I<|a*b)<|lW (Dh v λl=>Ye w λk=>eh (fits k&&fits l.L)<|bE<|.s<|AO k l)
 <|CH v λx vs=>Ye w λk=>eh (fits k&&fits vs.L)<|iB<|.l<|AO k vs
def abA(v:V):Option (List Nat):=v.rec aI aI (λ_=>aI) (λ_=>aI) M aI (λ_ _ _ _=>aI) λ_=>aI
def bool?(v:V):Option Bool:=v.rec aI aI M (λ_=>aI) (λ_=>aI) aI (λ_ _ _ _=>aI) λ_=>aI
def strsOf(l:aq):Option (List<|List Nat):=l.R (M []) λv _ a=>(abA v).b λl=>a.m (l::·)
def tn(a:ao)(l:List (List Nat)):List Nat:=l.R [] λx r b=>r.R x λ_ _ _=>x++a++b
def small(ls:List (List Nat)):Bool:=fits ls.L&&ls.a λl=>fits l.L
def joinM(o:V)(vs:aq):W V:=wa vs λv=>Dh o λa=>bD (pC v) λb=>uF (strsOf b) λls=>eh (small<|a::ls)<|bE<|.s<|tn a ls
noncomputable def pD(l:ao):Bool:=match l with
 |[c]=>(aO 65 c&&aO c 90)||(aO 97 c&&aO c 122)
 |_=>D
def yx(ls:List (List Nat)):List Nat:=91::(tn [44,32] (ls.m λl=>39::(l++[39]))++[93])
noncomputable def YJ:List Nat:=[37,115,32,45,62,32,60,101,109,112,116,121,62]
noncomputable def Eu:List Nat:=[32,45,62,32,60,101,109,112,116,121,62]
def YK(v w:V):W V:=Dh v λf=>eh (jc f YJ)<|Dh w λa=>eh (fits a.L)<|bE<|.s<|a++Eu
def UY(c:ao)(v:V):W Unit:=Dh v λa=>eh (fits a.L&&fits c.L)<|bE ()
def FF(c:ao)(v w:V):W V:=Dh v λa=>lW (Dh w λb=>eh (fits b.L)<|bE<|.s<|a++c++b)<|CH w λx vs=>uF (strsOf vs) λls=>eh (fits ls.L&&ls.a pD)<|bE<|.s<|a++c++yx ls
def boolsOf(l:aq):Option (List Bool):=l.R (M []) λv _ a=>(bool? v).b λl=>a.m (l::·)
def allM(vs:aq):W V:=wa vs λv=>CH v λx a=>uF (boolsOf a) λbs=>bE<|.o<|bs.a id
def sQ{b:Type}(l:List (Option b)):Option (List b):=l.R (M []) λx _ c=>x.b λa=>c.m (a::·)
def vs?(o:O):Option (List V):=o.rec M (λ_=>aI) (λ_=>aI) (λ_ _=>aI) (λ_ _=>aI) λ_=>aI
def gg(e:Loc->Option O)(n:Nat):V->Option et:=n.r (λ_=>aI) λ_ d v=>v.rec aI (M .none) (λb=>M<|.bool b) (λi=>M<|.int i)
 (λl=>bif l.a (λc=>bg c 1114112)then M (.s ⟨l.T⟩)else aI) (M<|.t []) (λa b _ _=>(sQ<|(V.e<|.T a b).m d).m .t)
 λm=>(e m).b λo=>(vs? o).b λvs=>(sQ<|vs.m d).m .l
def Yt{a:Type}(v:V)(f:et->W a):W a:=λQ σ=>∃d,gg σ.h 40 v=M d/\f d Q σ
def aaa(v w:V):W Bool:=Yt v λd=>Yt w λe=>bE<|b7 d e
def Sq(d:et)(l:List et):Option Nat:=l.R aI λe _ a=>bif b7 e d then M 0 else a.m (·+1)
def q9(o:V)(vs:aq):W V:=wa vs λw=>zK o λm a=>Yt w λd Q σ=>∃ds k,sQ (a.m<|gg σ.h 40)=M ds/\Sq d ds=M k/\Q (.I<|.o k) σ
noncomputable def j?(a b:ao):Bool:=decide<|a<b
def yC:List (List Nat)->Option (List<|List Nat)
 |[]=>M []
 |[a]=>M [a]
 |[a,b]=>if j? b a then M [b,a]else if j? a b then M [a,b]else aI
 |_=>aI
def MM(vs:aq):W V:=wa vs λv=>CH v λx b=>uF (strsOf b) λls=>uF (yC ls) λa=>iB<|.l<|a.m .s
def vS(d:V)(l:au):W Unit:=l.R (bE ()) λp _ a=>bD (BZ d p.1 p.2) λx=>a
def ti(b:Loc->Option O)(l:au):Option (List<|List Nat×et):=l.R (M []) λp _ a=>(abA p.1).b λl=>(gg b 20 p.2).b λd=>a.m ((l,d)::·)
def hitsD(b l:List (List Nat×et)):Bool:=l.R Z λp _ a=>(b.o p.1).e D λe=>b7 p.2 e&&a
def Mq(v w:V):W Bool:=KI v λx a=>KI w λx b Q σ=>∃d c,ti σ.h a=M d/\ti σ.h b=M c/\Q (!(d.L==c.L&&hitsD c d)) σ
structure PR where
 q:Str
 P:Arguments
 b:Expr
 s:rF
 p:List Str
 c:List Str
structure L! where
 c:Addr
 P:Addr
 p:List Pos
noncomputable def Qs(s:rF):List Str:=((s.n.j λx=>x.2==.f).m (·.1)).reverse
def UW(l:ao)(a:aq):Option (List V):=l.R (M []) λi _ b=>((a[i]?).b okV).b λv=>b.m (v::·)
def aaD(k:Nat)(t:Loc)(j:Nat)(a:ao):W V:=λQ σ=>∃vs,σ.h t=M (.t j)/\UW a σ.l=M vs/\iB (.C k vs) (λv σ'=>Q v<|AN t (.t<|j+1) σ') σ
def consW(m:W V)(a:W (List V)):W (List V):=bD m λv=>bD a λvs=>bE<|v::vs
def Yb(c:BoolOp)(l:List (W Bool)):W Bool:=l.R (bE<|c==.And) λm _ a=>bD m λb Q σ=>c.rec (cond b (a Q σ)<|Q D σ)<|cond b (Q Z σ)<|a Q σ
def aR(a b:W F):W F:=bD a λf=>match f with
 |.n=>b
 |f=>bE f
def qE(c:W Bool)(body a:W F)(n:Nat):W F:=n.r jD λ_ b=>bD c λx=>cond x (bD body λf=>f.rec b (bE .n) b λv=>bE<|.r v) a
def zf(bind:ak)(body a:W F)(n:Nat):It->W F:=n.r (λ_=>jD) λ_ b i=>bD (RY i) λr=>r.rec a λp=>bD (bind p.1) λx=>bD body λf=>f.rec (b p.2) (bE .n) (b p.2) λv=>bE<|.r v
def Cg(a:aq)(m:W F):W V:=λQ σ=>m (λf σ'=>Q (SE f) ⟨σ.l,σ'.h,σ'.n⟩) ⟨a,σ.h,σ.n⟩
def fV(mt:Addr->Option (List V->W V))(c:Addr)(vs:aq):W V:=match mt c with
 |some a=>a vs
 |none=>jD
def fU(v:V):W Addr:=l? v λx c x=>bE c
def Rx(mt:Addr->Option (List V->W V)):List V->W V
 |[v]=>bD (fU v) λc=>bD (fV mt c [v]) λr Q σ=>∃k:Nat,r=.I (.o k)/\k<=1000/\Q r σ
 |_=>jD
def HG(l:List (V->W Unit)):List V->W Unit:=l.R (λvs=>vs.R (bE ()) λ_ _ _=>jD) λf _ a vs=>vs.R jD λv vs _=>bD (f v) λx=>a vs
def pE(o:O):W V:=iB o
def jz(v:V):W It:=lW (CH v λk x=>bE<|.L (k,0))<|lW (KI v λk a=>bE<|.k (k,0,a.L))<|lW (Po v λl=>bE<|.r l)<|Dh v λl=>bE<|.s l
def B3(v:V):W It:=lW (CH v λk x=>bE<|.E (k,0))<|Po v λl=>bE<|.e (0,l)
def Cj(v:V):W It:=KI v λk a=>bE<|.I (k,0,a.L)
def C4(v:V):W It:=vp v λn=>eh (aO n.N 1000000)<|bE<|.R (0,n.t)
def Ah(c:Addr)(a:List V->W V)(vs:aq):W V:=bD (iB<|.i c []) λv=>bD (a<|v::vs) λr=>eh r.c<|bE v
def g7(a:List (V->W Unit))(v:V):W Unit:=Po v λl=>eh (aA l.L a.L)<|HG a l
abbrev XW(α:Type):=(α->St->Prop)->(String->St->Prop)->St->Prop
def KQ{a:Type}(m:W a):XW a:=λQ x=>m Q
def tV(v w:V):XW V:=λQ E σ=>(∃n a,v=.L n/\σ.h n=M (.d a)/\pY w 6=Z/\(eK a w).e (E "KeyError" σ) λu=>Q u σ)\/
 (v.d=Z/\∃k,w=.I k/\(fits v.e.L&&aO k.N 1000)=Z/\(Ol v.e k).e (E "IndexError" σ) λu=>Q u σ)
def Gp(l:List (W V×W V)):W (List<|V×V):=l.R (bE []) λp _ a=>bD p.1 λk=>bD p.2 λv=>bD a λr=>bE<|(k,v)::r
def K6(c:XW F)(b:List String)(a:W F):W F:=λQ=>c Q λT σ=>T∈b/\a Q σ
def aaF(c b:Nat)(m:W V)(k:Nat)(l:Loc)(vs:aq):W V:=λQ σ=>∃a,σ.h l=M (.C k a)/\vs.L=c/\a.L=b/\Cg (vs++a) (bD m λv=>bE<|.r v) Q σ
def lG(l:List (W Bool)):W Bool:=l.R (bE Z) λm _ a=>bD m λb=>cond b a<|bE D
def q5(bind:ak)(a:W Bool)(c:W Unit)(n:Nat):It->W Unit:=n.r (λ_=>jD) λ_ d i=>bD (RY i) λr=>r.rec (bE ()) λp=>bD (bind p.1) λx=>bD a λb=>cond b (bD c λx=>d p.2)<|d p.2
def inComp(b:Nat)(a:ao)(m:W Unit):W Unit:=λQ σ=>m (λx σ'=>Q () ⟨σ.l,σ'.h,σ'.n⟩) ⟨aQ b .u++a.m λj=>(σ.l[j]?).g .u,σ.h,σ.n⟩
def pK(GC:W It)(c:W V)(e:Nat)(b:ao)(a:V->It->W Unit):W V:=bD GC λi=>bD c λd=>bD (inComp e b<|a d i) λx=>bE d
inductive Gl where
 |f (mf:List V->W V)
 |C (c:Addr) (mf:List V->W V)
 |d (id:String)
 |b (T:String)
 |a (v:V)
 |n
def Gl.ctorIdx(i:Gl):Nat:=i.rec (λ_=>0) (λ_ _=>1) (λ_=>2) (λ_=>3) (λ_=>4) 5
structure G where
 n:List Str
 k:List (Str×mE)
 c:Bool
 T:Bool
 l:Str->Gl
 A:Str->Option Nat
 d:Str->Option (Addr×V)
 t:Addr->Bool
 m:Str->Addr->Option (List V->W V)
 C:Loc->List V->W V
 L:List (Expr×W V)
 e:Str->Option String
def pos?(l:List Str)(x:Str):Option Nat:=l.R aI λy _ a=>bif decide (x=y)then M 0 else a.m (·+1)
noncomputable def Sy(a ns:List (Str×mE)):List (Str×mE):=ns.m λ(n,k)=>if(k==BA&&Z&&a.o n==M .c)then(n,Bz)else(n,k)
def G.i(g:G)(a:rF)(names b:List Str):G:={g with n:=names++b,k:=Sy g.k a.n,T:=D,L:=[]}
def G.h(g:G):G:={g with c:=D,L:=[]}
def p5{a:Type}(b:Bool)(m:W a):W a:=match b with
 |true=>m
 |false=>jD
noncomputable def isStar:Expr->Bool|.Starred .. =>Z|_=>D
noncomputable def isCall:Expr->Bool|.C .. =>Z|_=>D
noncomputable def rK:Expr->Bool|.Set .. =>Z|_=>D
noncomputable def isSlice:Expr->Bool|.l .. =>Z|_=>D
noncomputable def zm:Expr->Bool|.L .. =>Z|.SetComp .. =>Z|.DictComp .. =>Z|_=>D
noncomputable def isTup:Expr->Bool|.T .. =>Z|_=>D
noncomputable def Mi:Expr->Bool|.T .. =>Z|.List .. =>Z|_=>D
def uS(es:List Expr):Bool:=es.a (λe=> !isStar e)&&decide (es.L<30)
def QB:Const->W V
 |.none=>bE .N
 |.bool b=>bE<|.o b
 |.int i=>bE<|.I i
 |.str x=>bE<|.s x.c.t
 |_=>jD
def Mp(g:G)(x:Str):W V:=match pos? g.n x with
 |some i=>(aS i)
 |none=>p5 (g.k.o x==M .g)<|match g.l x with
  |.a v=>bE v
  |_=>jD
def P!:T9->V->V->W V
 |.Add,v,w=>ej v w
 |.Sub,v,w=>(kc v w)
 |.Mult,v,w=>jq v w
 |.Mod,v,w=>lW (aaZ v w)<|(YK v w)
 |.FloorDiv,v,w=>(B7 v w)
 |_,_,_=>jD
def Yi:T9->V->V->W V
 |.Add,v,w=>(sO v w)
 |.Sub,v,w=>(kc v w)
 |_,_,_=>jD
def cw:CmpOp->V->V->W Bool
 |.E,v,w=>lW (eqM v w)<|(aaa v w)
 |.o,v,w=>lW (neM v w)<|Mq v w
 |.Lt,v,w=>(ltM v w)
 |.LtE,v,w=>(leM v w)
 |.Gt,v,w=>(gtM v w)
 |.GtE,v,w=>(geM v w)
 |.Is,v,w=>(isM v w)
 |.IsNot,v,w=>(YZ v w)
 |.I,v,w=>lW (Kg v w)<|lW (Yx v w)<|lW (Kh v w)<|(Q5 v w)
 |.N,v,w=>lW (notM Kg v w)<|lW (notM Yx v w)<|notM Kh v w
def ZS(g:G)(v:V):W Bool:=lW (ZR v)<|bD (fU v) λc=>p5 (g.t c)<|(Wh c v)
def Yh(g:G)(a:Str)(v:V):W V:=match g.A a with
 |some j=>(match g.d a with
  |some (c,b)=>(wy c j b v)
  |none=>(qn j v))
 |none=>jD
def bfW(g:G)(id:String)(vs:aq):W V:=bif id=="len" then lW (Y8 vs) (lW (Rz vs)<|p5 g.c<|Rx (g.m "__len__") vs)
 else bif id=="min" then p5 g.c ((Oe vs))else bif id=="all" then p5 g.c ((allM vs))else bif id=="sorted" then MM vs else jD
def btW(T:String)(vs:aq):W V:=bif T=="tuple" then(z5 vs)else bif T=="list" then Eo vs else bif T=="set" then Bk vs else jD
structure BM where
 T:String
 i:String
 c:V->W Unit
 o:V->List V->W V
noncomputable def Ni(name:Str):Option BM:=bif decide (name="append")then M ⟨"list","list.append",o7,hH⟩else bif decide (name="get")then M ⟨"dict","dict.get",Ei,λv vs=>lW (wa vs λk=>zb .N v k)<|Nf vs λk w=>zb w v k⟩
 else bif decide (name="pop")then M ⟨"list","list.pop",o7,DN⟩else bif decide (name="insert")then M ⟨"list","list.insert",o7,YX⟩else bif decide (name="index")then M ⟨"list","list.index",o7,q9⟩
 else bif decide (name="add")then M ⟨"set","set.add",isSet,ER⟩else bif decide (name="join")then M ⟨"str","str.join",isS,joinM⟩else aI
def WM(g:G)(b:BoolOp)(l:List (W V)):W V:=l.R jD λm r a=>r.R m λ_ _ _=>bD m λv=>bD (ZS g v) λt Q σ=>b.rec (cond t (a Q σ)<|Q v σ)<|cond t (Q v σ)<|a Q σ
noncomputable def jd(a:rF):List Str:=(a.n.j λx=>x.2==.f).m (·.1)
noncomputable def ownOf(a:rF):List Str:=(a.n.j λx=>x.2==.local).m (·.1)
def tg(a:List Str)(l:List Str):Option (List Nat):=l.R (M []) λx _ b=>(pos? a x).b λi=>b.m (i::·)
noncomputable def D7(g:G)(a:List Str):Bool:=a.a λx=>g.k.o x==M .c||g.k.o x==M .f
def nU(l:List (W V)):W (List V):=l.R (bE []) λm _ a=>consW m a
noncomputable def fieldOf:Expr->Option Expr
 |.F e c aI _=>bif c==115 then M e else aI
 |_=>aI
noncomputable def litOf:Expr->Option Str
 |.n (.str s) _ _=>M s
 |_=>aI
def jnW(f:Expr->W V):List Expr->W V
 |[a,b,c]=>(fieldOf a).e jD λx=>(litOf b).e jD λs=>(fieldOf c).e jD λy=>bD (f x) λv=>bD (UY s.c.t v) λz=>bD (f y) λw=>FF s.c.t v w
 |_=>jD
noncomputable def nameOf:Expr->Option Str
 |.N x _=>M x
 |_=>aI
noncomputable def pairOf:Expr->Option (Expr×Expr)
 |.T [a,b] _ _=>M (a,b)
 |_=>aI
def Vc(g:G)(a:Str)(m:String->W F):W F:=p5 (g.k.o a==M .g)<|(g.e a).e jD m
def aeg(g:G)(t:Expr)(b:XW F)(a:W F):W F:=match nameOf t with
 |some d=>Vc g d λT=>K6 b [T] a
 |none=>(pairOf t).e jD λp=>(nameOf p.1).e jD λn=>(nameOf p.2).e jD λn'=>Vc g n λT=>Vc g n' λc=>K6 b [T,c] a
def cP(f:Expr->W V)(o:Option Expr):W V:=o.e (bE .N) f
def cI(f:Expr->W V)(g:G)(e b:Expr):W It:=match e with
 |.C (.N x _) [y] [] _=>(match pos? g.n x with
  |some _=>jD
  |none=>p5 (g.k.o x==M .g&& !isStar y)<|match g.l x with
   |.b T=>bif T=="enumerate" then p5 (isTup b) (bD (f y) B3)else bif T=="range" then bD (f y) C4 else jD
   |_=>bD (f e) jz)
 |.C (.A o name a) [] [] c=>bif decide (name="items")then p5 (isTup b&&a.e==c.l&& !isCall o) (bD (f o) Cj)else bD (f e) jz
 |e=>bD (f e) jz
structure Cc where
 E:G->Expr->W V
 a:G->Expr->W Bool
 A:G->Expr->V->W Unit
def ccE(h:Cc)(g:G)(e:Expr):W V:=match e with
 |.n c _ _=>QB c
 |.N x _=>Mp g x
 |.BinOp l J r _=>bD (h.E g l) λv=>bD (h.E g r) λw=>P! J v w
 |.UnaryOp .USub x _=>bD (h.E g x) λv=>(qr v)
 |.o l [J] [r] _=>p5 (!rK r)<|bD (h.E g l) λv=>bD (h.E g r) λw=>bD (cw J v w) λb=>bE<|.o b
 |.BoolOp J vs _=>WM g J<|vs.m<|h.E g
 |.IfExp t b o _=>Vq (h.a g t) (h.E g b)<|h.E g o
 |.T es _ _=>p5 (uS es)<|bD (nU<|es.m<|h.E g) λvs=>(cY vs)
 |.List es _=>p5 (uS es)<|bD (nU<|es.m<|h.E g) λvs=>bj vs
 |.A v a _=>p5 (!isCall v)<|bD (h.E g v)<|Yh g a
 |.S v i _=>(match i with
  |.l lo S aI _=>bD (h.E g v) λv=>bD (cP (h.E g) lo) λl=>bD (cP (h.E g) S) λu=>i4 v l u
  |i=>p5 (!isSlice i)<|bD (h.E g v) λv=>bD (h.E g i) λw=>(dj v w))
 |.C (.A o name I) k [] H=>p5 (uS k&&I.e==H.l&& !isCall o)<|match Ni name with
  |some b=>bD (h.E g o) λv=>bD ((b.c v)) λz=>bD (nU<|k.m<|h.E g) λvs=>(b.o v vs)
  |none=>p5 g.c<|bD (h.E g o) λv=>bD (fU v) λc=>bD (λQ σ=>(g.m name c).i=Z/\nU (k.m<|h.E g) Q σ) λvs=>fV (g.m name) c<|v::vs
 |.C (.N x p) k [] H=>p5 (uS k)<|match pos? g.n x with
  |some _=>(match k with
   |[]=>jD
   |_::_=>p5 g.c<|bD (Mp g x) λv Q σ=>∃l,v=.L l/\bD (nU<|k.m<|h.E g) (λvs=>g.C l vs) Q σ)
  |none=>p5 (g.k.o x==M .g)<|match g.l x with
   |.f N=>p5 g.c<|bD (nU<|k.m<|h.E g) N
   |.C c N=>p5 g.c<|bD (nU<|k.m<|h.E g)<|Ah c N
   |.d id=>bD (nU<|k.m<|h.E g)<|bfW g id
   |.b T=>bD (nU<|k.m<|h.E g)<|btW T
   |_=>jD
 |.Dict [] [] _=>iB<|.d []
 |.Dict C vs _=>p5 (C.a (·.i)&&C.L==vs.L&&decide (C.L<=15))<|match C with
  |[]=>jD
  |_::_=>bD (pE<|.d []) λd=>bD (Gp<|(C.z vs).m λp=>(p.1.e jD<|h.E g,h.E g p.2)) λps=>bD ((vS d ps)) λz=>bE d
 |.L L [⟨m,n,s,0⟩] f _=>p5 (g.c&&D7 g (jd f)&&uD f (ownOf f) (jd f)&& !rK n)<|match tg g.n (jd f)with
  |none=>jD
  |some q=>pK (cI (h.E g) g n m) (pE<|.l []) (ownOf f).L q λd i Q σ=>∃j,q5 (h.A (g.i f (ownOf f)<|jd f) m) (lG<|s.m<|h.a<|g.i f (ownOf f)<|jd f) (bD (h.E (g.i f (ownOf f)<|jd f) L) λx=>bD ((hH d [x])) λz=>bE ()) j i Q σ
 |.DictComp R P [⟨m,n,s,0⟩] f _=>p5 (g.c&&D7 g (jd f)&&uD f (ownOf f) (jd f)&& !rK n)<|match tg g.n (jd f)with
  |none=>jD
  |some q=>pK (cI (h.E g) g n m) (pE<|.d []) (ownOf f).L q λd i Q σ=>∃j,q5 (h.A (g.i f (ownOf f)<|jd f) m) (lG<|s.m<|h.a<|g.i f (ownOf f)<|jd f) (bD (h.E (g.i f (ownOf f)<|jd f) R) λx=>bD (h.E (g.i f (ownOf f)<|jd f) P) λy=>(BZ d x y)) j i Q σ
 |.JoinedStr vs _=>jnW (h.E g) vs
 |.a a b c d=>λQ σ=>∃p∈g.L,p.1=.a a b c d/\p.2 Q σ
 |_=>jD
def ccB(a:Cc)(g:G)(e:Expr):W Bool:=match e with
 |.UnaryOp .Not x _=>bD (a.a g x) λb=>bE<| !b
 |.BoolOp c vs _=>Yb c<|vs.m<|a.a g
 |.o l [c] [r] _=>p5 (!rK r)<|bD (a.E g l) λv=>bD (a.E g r) λw=>cw c v w
 |.o .. =>jD
 |.IfExp .. =>jD
 |.UnaryOp .. =>jD
 |e=>bD (a.E g e)<|ZS g
def ccA(b:Cc)(g:G)(t:Expr):V->W Unit:=match t with
 |.N x _=>(match pos? g.n x with
  |some i=>λv=>p5 (g.k.o x==M .local)<|(ck i v)
  |none=>λy=>jD)
 |.A o a _=>(match g.A a with
  |some j=>λw=>bD (b.E g o) λv=>(AR j v w)
  |none=>λy=>jD)
 |.S o i _=>λw=>p5 (!isSlice i)<|bD (b.E g o) λv=>bD (b.E g i) λk=>(cM v k w)
 |.T es _ _=>λv=>p5 (g.c&&es.a (λe=> !isStar e))<|g7 (es.m<|b.A g) v
 |_=>λy=>jD
noncomputable def cc(n:Nat):Cc:=n.r ⟨λ_ _=>jD,λ_ _=>jD,λ_ _ _=>jD⟩ λ_ c=>⟨ccE c,ccB c,ccA c⟩
def cE(k:Nat):G->Expr->W V:=(cc k).E
def cB(k:Nat):G->Expr->W Bool:=(cc k).a
def cA(k:Nat):G->Expr->V->W Unit:=(cc k).A
def cX(n:Nat):G->Expr->XW V:=n.r (λ_ _ _ _ _=>False) λk f g e=>match e with
 |.S v i _=>λQ E=>p5 (g.c&& !isSlice i) (cE k g v) λv=>f g i (λw=>tV v w Q E) E
 |.C (.A o name c) a [] d=>(match Ni name with
  |some b=>λQ E σ=>(uS a&&c.e==d.l&& !isCall o)=Z/\f g o (λv=>bD ((b.c v)) (λx=>bD (nU<|a.m<|cE k g) λvs=>(b.o v vs)) Q) E σ
  |none=>λx x x=>False)
 |e=>KQ<|cE k g e
def cXs(k:Nat)(g:G):List Stmt->XW F
 |[.Expr e _]=>λQ E σ=>zm e=D/\cX k g e (λx=>Q .n) E σ
 |[.A [t] v _]=>λQ E σ=>(!zm v&& !isStar t&& !(Mi t&&isTup v))=Z/\cX k g v (λv=>cA k g t v λx=>Q .n) E σ
 |_=>λx x x=>False
def V!(k:Nat)(g:G)(h b c:Expr)(f:List Expr)(a:rF):W V:=p5 (g.c&&D7 g (jd a)&&uD a (ownOf a) (jd a)&& !rK c)<|match tg g.n (jd a)with
 |none=>jD
 |some e=>pK (cI (cE k g) g c b) (pE<|.l []) (ownOf a).L e λd i Q σ=>∃j,q5 (cA k (g.i a (ownOf a)<|jd a) b) (lG<|f.m<|cB k<|g.i a (ownOf a)<|jd a) (bD (cE k (g.i a (ownOf a)<|jd a) h) λx=>bD ((hH d [x])) λy=>bE ()) j i Q σ
def UT(c:G->Stmt->W F)(g:G)(l:List Stmt):W F:=l.R (bE .n) λs r a=>r.R (c g s) λ_ _ _=>aR (c g s) a
def cS(n:Nat):G->Stmt->W F:=n.r (λ_ _=>jD) λk h g s=>match s with
 |.Pass _=>bE .n
 |.Break _=>bE .brk
 |.Continue _=>bE .cont
 |.Return (M e) _=>bD (cE k g e) λv=>bE<|.r v
 |.Expr e _=>p5 (!zm e)<|bD (cE k g e) λy=>bE .n
 |.A [t] v _=>(match v with
  |.L A [⟨d,m,z,0⟩] c r=>(match t with
   |.N x C=>p5 (g.k.o x==M .local&&C.l==r.l&& !(c.n.A λ(n,k)=>n==x&&(k==.local||k==.c)))<|bD (V! k g A d m z c) λv=>bD (cA k g (.N x C) v) λy=>bE .n
   |_=>jD)
  |v=>p5 (!zm v&& !isStar t&& !(Mi t&&isTup v))<|bD (cE k g v) λv=>bD (cA k g t v) λy=>bE .n)
 |.u (.N x _) q v _=>(match pos? g.n x with
  |some i=>p5 (g.k.o x==M .local)<|bD ((aS i)) λa=>bD (cE k g v) λb=>bD (Yi q a b) λu=>bD ((ck i u)) λy=>bE .n
  |none=>jD)
 |.u (.A o a _) q v _=>(match g.A a with
  |some j=>bD (cE k g o) λx=>bD (Yh g a x) λp=>bD (cE k g v) λw=>bD (Yi q p w) λu=>bD ((AR j x u)) λy=>bE .n
  |none=>jD)
 |.For t i b o _=>p5 (g.c&& !rK i)<|bD (cI (cE k g) g i t) λE Q σ=>∃j,zf (cA k g t) (UT h g b) (UT h g o) j E Q σ
 |.While t b o _=>λQ σ=>∃j,qE (cB k g t) (UT h g b) (UT h g o) j Q σ
 |.If t b o _=>Vq (cB k g t) (UT h g b)<|UT h g o
 |.Try body [.E (M t) aI (l::f) _] [] [] _=>p5 (g.c&&g.T)<|aeg g t (cXs k g body)<|UT h g.h<|l::f
 |_=>jD
def cSs(k:Nat):G->List Stmt->W F:=UT<|cS k
abbrev Δ:=Loc×Bool->Option Addr
structure Zt where
 ρ:Δ
 σ:St
 s:cL
abbrev Zt.h(z:Zt):Heap:=z.s.h
def Own(a:Δ)(b:Addr):Prop:=∃k,a k=M b
def txt(l:ao):Str:=⟨l.T⟩
def rH(z:Zt)(L:List a0->Prop)(x:a0):Prop:=∃a b,x=.r a/\tW z.h a (qi b)/\L b
def G7(z:Zt)(v:V):(a0->Prop)×(List a0->Prop):=v.rec (λ_=>False,λ_=>False) (λx=>x=.n,λ_=>False) (λb=>(λx=>x=.b b,λ_=>False))
 (λi=>(λx=>∃t,x=.i i t,λ_=>False)) (λl=>(λx=>∃t,x=.s (txt l) t,λ_=>False)) (rH z λc=>c=[],λc=>c=[])
 (λ_ _ i j=>(rH z λc=>∃y d,c=y::d/\i.1 y/\j.2 d,λc=>∃y d,c=y::d/\i.1 y/\j.2 d)) λk=>(λx=>∃a,x=.r a/\z.ρ (k,D)=M a,λ_=>False)
def bB(z:Zt)(v:V)(x:a0):Prop:=(G7 z v).1 x
def kj(z:Zt)(v:V)(a:List a0):Prop:=(G7 z v).2 a
def bJ(z:Zt)(vs:aq)(a:List a0):Prop:=kj z (V.t vs) a
def K2(h a:Heap):Prop:=(∀b i,tW h b i->tW a b i)/\∀b v,h.I b (M v)->a.I b (M v)
structure Le(z z':Zt):Prop where
 b:∀k a,z.ρ k=M a->z'.ρ k=M a
 c:K2 z.h z'.h
section
variable{G:a0->Prop}{Gs:List a0->Prop}
theorem K2.l(h:Heap):K2 h h:=⟨λx x q=>q,λx x q=>q⟩
theorem K2.n(x:K2 d c)(y:K2 c a):K2 d a:=⟨λb i q=>y.1 b i<|x.1 b i q,λb v q=>y.2 b v<|x.2 b v q⟩
theorem rH.w(l:Le z z')(k:∀b,L b->c b)(r:rH z L x):rH z' c x:=
 XH (λa r=>XH (λb r=>⟨r.1,l.c.1 _ _ r.2.1,k _ r.2.2⟩) r) r
theorem G7.q(l:Le z z'):∀v,(∀x,bB z v x->bB z' v x)/\∀b,kj z v b->kj z' v b:=
 @V.rec (λv=>(∀x,bB z v x->bB z' v x)/\∀b,kj z v b->kj z' v b) ⟨λu e=>e,λu e=>e⟩ ⟨λu e=>e,λu e=>e⟩ (λu=>⟨λu e=>e,λu e=>e⟩) (λu=>⟨λu e=>e,λu e=>e⟩) (λu=>⟨λu e=>e,λu e=>e⟩)
  ⟨λu r=>rH.w l (λu e=>e) r,λu e=>e⟩
  (λv w i j=>
   have k:=λb r=>r.i λy r=>r.i λc r=>⟨r.1,i.1 _ r.2.1,j.2 _ r.2.2⟩
   ⟨λu r=>rH.w l k r,k⟩)
  λk=>⟨λx r=>r.i λa r=>⟨r.1,l.b _ _ r.2⟩,λu e=>e⟩
theorem bB.u(l:Le z z')(r:bB z v x):bB z' v x:=(G7.q l v).1 x r
theorem bJ.J(l:Le z z')(r:bJ z vs a):bJ z' vs a:=(G7.q l<|V.t vs).2 a r
theorem bB.y:bB z (.I i) (.i i t):=⟨t,U⟩
theorem bB.ofStr:bB z (.s l) (.s (txt l) t):=⟨t,U⟩
theorem bB.yd(e:z.ρ (k,D)=M a):bB z (.L k) (.r a):=br a U e
theorem bB.pG:bB z .N .n:=U
theorem bB.ofBool:bB z (.o b) (.b b):=U
theorem FE(r:bB z (.I i) x)(k:∀t,G<|.i i t):G x:=r.e λt e=>e▸k t
theorem Wb(r:bB z (.s l) x)(k:∀t,G<|.s (txt l) t):G x:=r.e λt e=>e▸k t
theorem FN(r:bB z (.L l) x)(k:∀a,z.ρ (l,D)=M a->G (.r a)):G x:=r.e λa e=>e.1▸k a e.2
theorem x7(r:bB z .N x)(k:G .n):G x:=kY r▸k
theorem bJ.nil:bJ z [] []:=U
theorem bJ.cons(r:bB z v x)(b:bJ z vs a):bJ z (v::vs) (x::a):=rJ x a U r b
theorem bJ.K(r:bB z v x):bJ z [v] [x]:=.cons r .nil
theorem BS(r:bJ z (v::vs) b)(k:∀y a,bB z v y->bJ z vs a->Gs (y::a)):Gs b:=r.e λy r=>r.e λa r=>r.1▸k y a r.2.1 r.2.2
theorem Zo(r:bJ z [v] a)(k:∀y,bB z v y->Gs [y]):Gs a:=BS r λy b q r=>kY r▸((k y q))
theorem aeh(r:bJ z [v,w] b)(k:∀y u,bB z v y->bB z w u->Gs [y,u]):Gs b:=BS r λy a q r=>Zo (Gs:=λa=>Gs<|y::a) r λu=>k y u q
theorem bJ.X:∀(vs:aq) (a:List a0),bJ z vs a->∃ps:List (V×a0),ps.m eA=vs/\ps.m d9=a/\∀p∈ps,bB z p.1 p.2:=
 @List.rec V (λvs=>∀(a:List a0),bJ z vs a->∃ps:List (V×a0),ps.m eA=vs/\ps.m d9=a/\∀p∈ps,bB z p.1 p.2)
  (λa r=>eI [] U (kY r) λp q=>by cases q)
  λv vs c a r=>by
   apply BS r;intro y b q r
   exact(c b r).e λps h=>eI ((v,y)::ps) (congrArg _ h.1) (congrArg _ h.2.1)<|List.forall_mem_cons.M ⟨q,h.2.2⟩
theorem bJ.unzip:∀(ps:List (V×a0)),(∀p∈ps,bB z p.1 p.2)->bJ z (ps.m eA) (ps.m d9):=
 @List.rec (V×a0) (λps=>(∀p∈ps,bB z p.1 p.2)->bJ z (ps.m eA) (ps.m d9)) (λx=>.nil) λp ps a h=>.cons (h p<|.h _)<|a λq m=>h q<|.t _ m
theorem bJ.by(F:{a:Type}->List a->List a)(c:∀{a e:Type} (f:a->e) (l:List a),(F l).m f=F (l.m f))(d:∀{a:Type} (l:List a) p,p∈F l->p∈l)(r:bJ z vs b):bJ z (F vs) (F b):=
 (bJ.X vs b r).e λps h=>h.1▸h.2.1▸c eA ps▸c d9 ps▸bJ.unzip _ λp m=>h.2.2 p<|d ps p m
theorem bJ.E(r:bJ z vs a):a.L=vs.L:=(bJ.X vs a r).e λps h=>by refine rR h.1 ?_;refine rR h.2.1 ?_;rw[aD,aD]
theorem bJ.Q{i:Nat}(r:bJ z vs a)(e:vs[i]?=M v):∃x,a[i]?=M x/\bB z v x:=(bJ.X vs a r).e λps h=>by
 rw[<-h.1,aN]at e
 exact(oM e).e λp q=>br p.2 (by refine rR h.2.1<|Y aN<|Y q.1 ?_;rfl)<|q.2▸h.2.2 p (aJ q.1)
theorem bJ.S(r:bJ z vs c)(q:bJ z b a):bJ z (vs++b) (c++a):=(bJ.X vs c r).e λps h=>(bJ.X b a q).e λd k=>by
 exact rR h.1<|rR h.2.1<|rR k.1<|rR k.2.1<|rR aK<|rR aK<|bJ.unzip _ λp m=>(ma m).e (h.2.2 p)<|k.2.2 p
theorem bJ.take(n:Nat)(r:bJ z vs a):bJ z (vs.t n) (a.t n):=r.by (λl=>l.t n) (λx x=>o1) λx x=>vY
theorem bJ.drop(n:Nat)(r:bJ z vs a):bJ z (vs.d n) (a.d n):=r.by (λl=>l.d n) (λx x=>gG) λx x=>fm
theorem bJ.erase(n:Nat)(r:bJ z vs a):bJ z (vs.e n) (a.e n):=by
 rw[nQ,nQ]
 exact(r.take n).S<|r.drop<|n+1
theorem bJ.set(i:Nat)(r:bJ z vs a)(q:bB z v x):bJ z (vs.s i v) (a.s i x):=(bJ.X vs a r).e λps h=>by
 refine rR h.1<|rR h.2.1 ?_
 have:=bJ.unzip (ps.s i (v,x)) λp m=>(D0 m).e (h.2.2 p) λe=>e▸q
 rwa [yV,yV]at this
theorem bB.tup(r:bJ z vs b)(t:tW z.h a b.T):bB z (V.t vs) (.r a):=match vs,r with
 |[],r=>rJ a b U t r
 |_::_,r=>rJ a b U t r
theorem kj.k:∀v (a:List a0),kj z v a->bJ z v.e a:=
 @V.rec (λv=>∀(a:List a0),kj z v a->bJ z v.e a) (λx e=>e.e) (λx e=>e.e) (λx x e=>e.e) (λx x e=>e.e) (λx x e=>e.e) (λx e=>e)
  (λv w x b a r=>r.i λy r=>r.i λc r=>⟨r.1,r.2.1,b _ r.2.2⟩) λx x e=>e.e
theorem Tx(r:bB z v x)(d:v.d=Z)(k:∀a c,tW z.h a (qi c)->bJ z v.e c->G (.r a)):G x:=by
 have go:rH z (kj z v) x->G x:=λr=>r.e λa r=>r.e λc r=>r.1▸k a c r.2.1 (kj.k v c r.2.2)
 cases v with
 |a=>exact go r
 |T a b=>exact go r
 |_=>exact bF d
end
def tc(o o':Obj):Prop:=o'=o\/(∀vs,o.d≠.f vs)/\∃a,o'={o with slots:=a}
theorem tc.l(o:Obj):tc o o:=.I U
theorem tc.n(x:tc o o'):o'.d=o.d:=x.e (λe=>congrArg Obj.data e) λe=>e.2.e λy e=>(congrArg Obj.data e:)
theorem tc.E(x:tc o o')(h:∃vs,o.d=.f vs):o'=o:=x.e id λe=>h.e λvs q=>(e.1 vs q).e
theorem tc.q(x:tc o o')(y:tc o' c):tc o c:=
 x.e (λe=>e▸y) λx=>x.2.e λd q=>y.e (λb=>.i ⟨x.1,d,b.t q⟩) λy=>y.2.e λa b=>.i ⟨x.1,a,Y b<|Y q U⟩
structure lS(fp:List Addr)(z z':Zt):Prop extends Le z z' where
 N:∀k a,z'.ρ k=M a->z.ρ k=M a\/z.h.g a=aI
 K:∀b o,z.h.g b=M o->¬Own z.ρ b->b∉fp->∃o',z'.h.g b=M o'/\tc o o'
 A:∀b o,z.h.g b=M o->∃o',z'.h.g b=M o'
theorem lS.r(a:List Addr)(z:Zt):lS a z z:=⟨⟨λx x e=>e,.l _⟩,λx x e=>.I e,λx o e x x=>br o e<|.l o,λx o e=>⟨o,e⟩⟩
theorem none_of{a:Type}{p:Option a}(h:∀o,p≠M o):p=aI:=match p,h with
 |none,_=>U
 |some o,h=>(h o U).e
theorem dq{a:Type}{p:Option a}{o:a}{G:Prop}(h:p=aI)(k:p=M o):G:=nS<|h.s.t k
theorem lS.w(G:lS d z z')(e:z.h.g b=M o)(n:¬Own z.ρ b):¬Own z'.ρ b:=λa=>j8 a λk c=>(G.N k b c).e (λq=>n ⟨k,q⟩) λq=>dq q e
theorem lS.m(G:lS b z z')(e:z'.h.g a=aI):z.h.g a=aI:=none_of λo q=>(G.A a o q).e λx q=>dq e q
theorem lS.t(G:lS j z z')(d:lS j z' g):lS j z g:=
 ⟨⟨λk a e=>d.b k a<|G.b k a e,G.c.n d.c⟩,λk a e=>(d.N k a e).e (G.N k a) λq=>.i<|G.m q,
  λb o e n f=>(G.K b o e n f).e λc q=>(d.K b c q.1 (G.w e n) f).i λi h=>⟨h.1,q.2.q h.2⟩,λb o e=>(G.A b o e).e<|d.A b⟩
theorem lS.q(G:lS c z z')(h:∀b∈c,b∈a):lS a z z':=⟨G.toLe,G.N,λb o e n f=>G.K b o e n λm=>f<|h b m,G.A⟩
theorem qo(k:∀b o,h.g b=M o->c.g b=M o):K2 h c:=⟨λb i a=>cz a λo e r=>br o (k b o e) r,λb i a=>cz a λo e r=>br o (k b o e) r⟩
theorem lS.u(e:z'.ρ=z.ρ)(k:∀b o,z.h.g b=M o->z'.h.g b=M o):lS a z z':=
 ⟨⟨λx x q=>e▸q,qo k⟩,λx x q=>.I<|e▸q,λb o q x x=>br o (k b o q)<|.l o,λb o q=>⟨o,k b o q⟩⟩
noncomputable def xR(K:Frag)(c:Addr):Bool:=
 (clsIn K c).any (·.hasDict)&&jo K (.r c) "__getattribute__"==M (M<|.B "object.__getattribute__")&&jo K (.r c) "__getattr__"==M aI&&
 jo K (.r c) "__setattr__"==M (M<|.B "object.__setattr__")&&plainOver K c&&makesIn K c
structure Cx where
 p:yW
 w:yJ
 K:Frag
 s:Heap
 m:Str->Option a0
 j:Str->Option a0
 A:Nat->Str
 l:List Addr
 i:K.In s
 n:s.N dC m
 f:s.N j3 j
 N:s.NoLimit
 u:∀x:Str,x≠"__name__"->j x=lL x
 g:∀c∈l,xR K c=Z
 S:∃o,s.g sW=M o
 h:Array GenState
 e:OsState
 L:Nat->List Addr->Obj->Addr->Obj->Prop
 d:∀k cs o c oc,L k cs o c oc->(o.c=.t "function"/\∃fd,o.d=.F fd)/\∃vs,oc.d=.f vs
 t:Nat->Addr->Obj->Prop
 T:∀k a o,t k a o->∃vs,o.d=.f vs
structure Fx where
 e:Env
 C:Bool
 f:List Env
 n:List Str
 k:e.scope.kind=.f
 g:e.globals=dC
 b:e.builtins=j3
 N:n.N
 K:∀x∈n,e.k x=M .local\/((e.k x=M .c\/e.k x=M .f)/\∃c,e.c.o x=M c)
 P:∀x∈n,(x==("__debug__":Str))=D/\(x==("__classdict__":Str))=D
def Fx.p(X:Fx):List Addr:=[X.e.l]
def Fx.r(X:Fx):List Addr:=X.f.M (·.f)
inductive Dw(X:Fx)(n:Nat)(A:sT):Prop
 |mk (handled:X.C=Z->A.h=aI) (depth:A.depth+n<Jp) (units:A.u+8*n+40<qK) (guards:A.guards=M []) (frames:A.frames=M X.f)
structure Px where
 C:Cx
 X:Fx
 n:Nat
 A:sT
 o:Dw X n A
abbrev Px.e(P:Px):Env:=P.X.e
abbrev Cx.b(C:Cx):Model:=eN C.p C.w
def Grows(P:Px)(z z':Zt):Prop:=lS P.X.p z z'
def Ha(a:Env)(h:Heap)(x:Str)(v:a0):Prop:=
 (a.k x=M .local/\∃m,h.N a.l m/\m x=M v)\/
 ((a.k x=M .c\/a.k x=M .f)/\∃c,a.c.o x=M c/\h.I c (M v))
def W6(P:AZ)(v:V):Int×List Int:=v.rec (0,[]) (4238894112,[]) (λ_=>(0,[])) (λi=>(hashInt i,[])) (λl=>(P1 P<|txt l,[]))
 (Bj<|fq [],[]) (λ_ _ i j=>(Bj<|fq<|i.1::j.2,i.1::j.2)) λ_=>(0,[])
def kZ(P:AZ)(v:V):Int:=(W6 P v).1
inductive fF(P:AZ)(z:Zt)(kvs:au)(es:List eB):Prop
 |mk (hash:es.m (·.h)=kvs.m λp=>kZ P p.1) (keys:bJ z (kvs.m (·.1)) (es.m (·.k))) (vals:bJ z (kvs.m (·.2)) (es.m (·.val)))
def pq(a:au):Prop:=(a.m (·.1)).N/\∀p∈a,pY p.1 6=Z
inductive z8(C:Cx)(z:Zt)(fs:ar)(m:Str->Option a0):Prop
 |mk (at_:∀n v,fO fs n=M v->∃x,m (C.A n)=M x/\bB z v x) (all:∀y x,m y=M x->∃n v,fO fs n=M v/\C.A n=y)
def DQ(vs:aq)(k:Str):Bool:=vs.A λv=>match v with
 |.s l=>decide<|txt l=k
 |_=>D
inductive G6(z:Zt)(vs:aq)(cs:List Addr):Prop
 |mk (len:cs.L=vs.L) (at_:∀(i:Nat) v,vs[i]?=M v->∃c y,cs[i]?=M c/\z.h.I c (M y)/\bB z v y)
def O.I:O->Bool
 |.i .. =>Z
 |.C .. =>Z
 |_=>D
inductive XO(z:Zt)(n:Loc)(vs:aq):Prop
 |mk (a:Addr) (items:Array a0) (ep:Nat) (e:z.ρ (n,D)=M a) (l:IsL z.h a items ep) (r:bJ z vs items.t)
inductive DictAt(C:Cx)(z:Zt)(n:Loc)(kvs:au):Prop
 |mk (a:Addr) (es:Array eB) (e:z.ρ (n,D)=M a) (l:z.h.g a=M {cls:=.t "dict",data:=.d es es.s}) (r:fF C.w.p z kvs es.t) (ok:pq kvs)
inductive J?(C:Cx)(z:Zt)(n:Loc)(vs:aq):Prop
 |mk (a:Addr) (e:z.ρ (n,D)=M a) (l:z.h.SetOf (strKind C.p C.w) a (DQ vs) vs.L) (st:∀v∈vs,∃l,v=.s l)
inductive z?(C:Cx)(z:Zt)(n:Loc)(c:Addr)(fs:ar):Prop
 |mk (a d:Addr) (m:Str->Option a0) (e:z.ρ (n,D)=M a) (e':z.ρ (n,Z)=M d) (l:z.h.g a=M (Dn c d)) (ns:z.h.Ns1 d m) (r:z8 C z fs m) (hc:c∈C.l)
inductive v!(C:Cx)(z:Zt)(n:Loc)(k:Nat)(vs:aq):Prop
 |mk (a c:Addr) (o oc:Obj) (cs:List Addr) (e:z.ρ (n,D)=M a) (e':z.ρ (n,Z)=M c) (l:z.h.g a=M o) (l':z.h.g c=M oc) (hl:C.L k cs o c oc) (r:G6 z vs cs)
inductive TabAt(C:Cx)(z:Zt)(n:Loc)(k:Nat):Prop
 |mk (a:Addr) (o:Obj) (e:z.ρ (n,D)=M a) (l:z.h.g a=M o) (hl:C.t k a o)
def BH(C:Cx)(z:Zt)(n:Loc):O->Prop
 |.l vs=>XO z n vs
 |.d a=>DictAt C z n a
 |.s vs=>J? C z n vs
 |.i c b=>z? C z n c b
 |.C k vs=>v! C z n k vs
 |.t k=>TabAt C z n k
inductive dJ(C:Cx)(X:Fx)(z:Zt):Prop
 |mk (base:∀b o,C.s.g b=M o->z.h.g b=M o) (off:∀b,Own z.ρ b->C.s.g b=aI/\b∉X.p) (offF:∀b∈X.p,C.s.g b=aI) (inj:∀k k' a,z.ρ k=M a->z.ρ k'=M a->k=k') (objs:∀n o,z.σ.h n=M o->BH C z n o) (dom:∀n b a,z.ρ (n,b)=M a->∃o,z.σ.h n=M o/\(b=Z->o.I=Z)) (stk:z.h.F C.s X.f) (stkO:∀b∈X.r,¬Own z.ρ b) (locs:∀(i:Nat) x v,X.n[i]?=M x->z.σ.l[i]?=M v->v≠.u->∃y,Ha X.e z.h x y/\bB z v y) (len:z.σ.l.L=X.n.L) (ns:∃m,z.h.N X.e.l m) (gens:z.s.g=C.h) (os:z.s.os=C.e)
def Sat(P:Px)(z:Zt):Prop:=dJ P.C P.X z
def Lr(o:Obj):Prop:=(o.c=.t "tuple"->∀a n,o.d≠.s a n)/\∀v,o.d≠.cell v
section
variable{h h':Heap}
theorem Lr.k(e:o.d=.d es a):Lr o:=⟨λx x x q=>(cn<|e.s.t q),λx q=>cn<|e.s.t q⟩
theorem Lr.l(e:o.d=.f vs):Lr o:=⟨λx x x q=>(cn<|e.s.t q),λx q=>cn<|e.s.t q⟩
theorem cK{c:Type}{p:Option c}{a b:c}(e:p=M a)(q:p=M b):a=b:=sJ<|e.s.t q
theorem BH.v{o:O}(r:BH C z n o)(q:z.ρ (n,t)=M a)(g:t=Z->o.I=Z):∃j,z.h.g a=M j/\Lr j:=by
 rcases o with vs|u|vs|⟨c,y⟩|⟨k,vs⟩|k
 .exact r.rec λb x x e l x=>by cases t with|true=>exact bF (g U)|false=>exact cK e q▸eI _ l (λe=>absurd (yY e) (by decide)) λx e=>cn e
 .exact r.rec λb x e l x x=>by cases t with|true=>exact bF (g U)|false=>exact cK e q▸br _ l (.k U)
 .exact r.rec λb e l x=>by rcases t with _|_;(exact cK e q▸l.i λo l=>l.e λes l=>l.e λs l=>l.e λt l=>⟨l.1,λe=>absurd (yY<|l.2.1.1.s.t e) (by decide),λx e=>cn<|l.2.2.1.s.t e⟩);(exact bF<|g U)
 .exact r.rec λb d m e i l ns x x=>by rcases t with _|_;(exact cK e q▸eI _ l (λx x x q=>cn q) λx q=>cn q);(exact cK i q▸ns.i λo ns=>ns.e λes ns=>ns.e λs ns=>⟨ns.1,.k ns.2.1⟩)
 .exact r.rec λb c o w v e i l p f x=>by
   rcases t with _|_;(exact cK e q▸br _ l ((C.d _ _ _ _ _ f).1.2.e λx e=>⟨λx x x q=>(cn<|e.s.t q),λx q=>cn<|e.s.t q⟩));(exact cK i q▸br _ p ((C.d _ _ _ _ _ f).2.e λx e=>.l e))
 .exact r.rec λb o e l f=>by rcases t with _|_;(exact cK e q▸br _ l ((C.T _ _ _ f).e λx e=>.l e));(exact bF<|g U)
theorem dJ.F5(S:dJ C X z)(c:Own z.ρ a):∃b,z.h.g a=M b/\Lr b:=c.e λk e=>(S.6 k.1 k.2 a e).e λo q=>(S.5 _ _ q.1).v e q.2
theorem dJ.xU(S:dJ C X z)(c:a∈X.p):∃b,z.h.g a=M b/\Lr b:=m1 c▸S.11.e λm q=>q.i λo q=>q.e λes q=>q.e λd q=>⟨q.1,.k q.2.1⟩
theorem dJ.xW(S:dJ C X z)(c:a∈X.r):C.s.g a=aI/\∃b,z.h.g a=M b/\∀vs,b.d≠.f vs:=S.7.mem c
theorem dJ.KH(S:dJ C X z)(f:z.h.g a=M o)(d:¬Lr o):¬Own z.ρ a/\a∉X.p:=
 have k:=λe=>e.e λg e=>d<|cK f e.1▸e.2
 ⟨λc=>k<|S.F5 c,λb=>k<|S.xU b⟩
theorem tc.u(r:h.g a=M o)(k:∃o',h'.g a=M o'/\tc o o'){G:Prop}(f:∀o',h'.g a=M o'->o'.d=o.d->o'.c=o.c->G):G:=
 k.e λo' e=>f o' e.1 e.2.n<|e.2.e (λe=>congrArg Obj.cls e) λe=>e.2.e λx e=>(congrArg Obj.cls e:)
theorem dJ.k2(S:dJ C X z)(a:∀b o,z.h.g b=M o->¬Own z.ρ b->b∉X.p->∃o',h'.g b=M o'/\tc o o'):K2 z.h h':=
 ⟨λb i t=>t.e λo t=>t.2.2.e λm d=>have f:=S.KH t.1 λk=>k.1 t.2.1 _ _ d
   tc.u t.1 (a b o t.1 f.1 f.2) λo' j g c'=>⟨o',j,c'.t t.2.1,m,g.t d⟩,
  λb v c=>cz c λo e d=>have f:=S.KH e λk=>k.2 _ d
   tc.u e (a b o e f.1 f.2) λo' j g c'=>br o' j<|g.t d⟩
theorem fF.f(l:Le z z')(r:fF p z a es):fF p z' a es:=⟨r.1,r.2.J l,r.3.J l⟩
theorem z8.L(l:Le z z')(r:z8 C z a m):z8 C z' a m:=⟨λn v e=>(r.1 n v e).i λx q=>⟨q.1,q.2.u l⟩,r.2⟩
theorem G6.L(l:Le z z')(r:G6 z vs a):G6 z' vs a:=⟨r.1,λi v e=>(r.2 i v e).i λc q=>q.i λy q=>⟨q.1,l.c.2 _ _ q.2.1,q.2.2.u l⟩⟩
theorem BH.u(l:Le z z'){o:O}(r:BH C z n o)(k:∀t a j,z.ρ (n,t)=M a->z.h.g a=M j->z'.h.g a=M j):BH C z' n o:=by
 rcases o with vs|y|vs|⟨c,A⟩|⟨f,vs⟩|f
 .exact r.rec λa i p e q r=>⟨a,i,p,l.b _ _ e,k _ _ _ e q,r.J l⟩
 .exact r.rec λa es e q r ok=>⟨a,es,l.b _ _ e,k _ _ _ e q,r.f l,ok⟩
 .exact r.rec λa e q st=>⟨a,l.b _ _ e,q.i λo q=>q.i λes q=>q.i λp q=>q.i λt q=>⟨k _ _ _ e q.1,q.2⟩,st⟩
 .exact r.rec λa d m e b q ns r x=>⟨a,d,m,l.b _ _ e,l.b _ _ b,k _ _ _ e q,ns.at λj w=>k _ _ _ b w,r.L l,x⟩
 .exact r.rec λa c o v u e b q s g r=>⟨a,c,o,v,u,l.b _ _ e,l.b _ _ b,k _ _ _ e q,k _ _ _ b s,g,r.L l⟩
 .exact r.rec λa o e q g=>⟨a,o,l.b _ _ e,k _ _ _ e q,g⟩
theorem FW(r:h.N a m)(k:∀o,h.g a=M o->∃o',h'.g a=M o'/\tc o o'):h'.N a m:=
 r.e λo r=>r.e λes r=>r.e λb r=>tc.u r.1 (k o r.1) λo' e d x=>⟨o',es,b,e,d.t r.2.1,r.2.2⟩
theorem Ha.n{x:Str}(r:Ha a z.h x v)(l:Le z z')(k:∀m,z.h.N a.l m->z'.h.N a.l m):Ha a z'.h x v:=
 r.m (λr=>⟨r.1,r.2.i λm q=>⟨k m q.1,q.2⟩⟩) λr=>⟨r.1,r.2.i λc q=>⟨q.1,l.c.2 _ _ q.2⟩⟩
theorem frames_at:h.F a l->(∀b∈l.M (·.f),∀o,h.g b=M o->(∀vs,o.d≠.f vs)->∃o',h'.g b=M o'/\∀vs,o'.d≠.f vs)->h'.F a l:=by
 induction l with
 |nil=>exact λ_ _=>trivial
 |cons c r g=>
  exact λf=>f.2.1.e λL q=>q.e λo q k=>by
   have e:(c::r).M (·.f)=L::r.M (·.f):=Y Ll<|Y q.1 U
   have k:=e▸k
   exact⟨f.1,(k L (.h _) o q.2.2.1 q.2.2.2).e λo' p=>rJ L o' q.1 q.2.1 p,g f.2.2 λb d=>k b<|.t _ d⟩
theorem dJ.s(S:dJ C X z)(l:Le z z')(u:z'.σ.l=z.σ.l)(f:∀m,z.h.N X.e.l m->z'.h.N X.e.l m)(I:z'.s.g=z.s.g)(H:z'.s.os=z.s.os)
  (e:∀b o,C.s.g b=M o->z'.h.g b=M o) (r:∀b,Own z'.ρ b->C.s.g b=aI/\b∉X.p) (p:∀k t a,z'.ρ k=M a->z'.ρ t=M a->k=t)
  (d:∀n o,z'.σ.h n=M o->BH C z' n o) (j:∀n b a,z'.ρ (n,b)=M a->∃o,z'.σ.h n=M o/\(b=Z->o.I=Z)) (g:z'.h.F C.s X.f) (c:∀b∈X.r,¬Own z'.ρ b):dJ C X z':=
 ⟨e,r,S.3,p,d,j,g,c,λi x v E A w=>(S.9 i x v E (u▸A) w).i λy q=>⟨q.1.n l f,q.2.u l⟩,u▸S.10,S.11.i f,I.t S.12,H.t S.13⟩
end
inductive Ge where
 |n (f:Addr)
 |C (c fI:Addr)
 |d (id:String)
 |b (T:String)
 |l (v:V) (y:a0)
def Ge.ctorIdx(i:Ge):Nat:=i.rec (λ_=>0) (λ_ _=>1) (λ_=>2) (λ_=>3) λ_ _=>4
abbrev CF:=Addr->List V->W V
def Ge.g(N:CF):Ge->Gl
 |.n f=>.f<|N f
 |.C c a=>.C c<|N a
 |.d id=>.d id
 |.b T=>.b T
 |.l v _=>.a v
noncomputable def isFn(kK:Frag)(f:Addr):Bool:=match kK.o f with
 |some ⟨_,_,.F _,_⟩=>Z
 |_=>D
noncomputable def ZX:V->a0->Bool
 |.I i,.i j _=>decide<|i=j
 |.s l,.s x _=>decide<|x.c.t=l
 |.N,.n=>Z
 |_,_=>D
def geB(kK:Frag)(a:List Addr)(p:Str×Ge):Bool:= !(p.1==("__debug__":Str))&&match p.2 with
 |.n f=>isFn kK f&&nsIn kK dC p.1==M (M<|.r f)
 |.C c b=>keepIn kK (.r c)&&decide (c∈a)&&jo kK (.r c) "__init__"==M (M<|.r b)&&Xr kK (.r b)==M (.t "function")&&nsIn kK dC p.1==M (M<|.r c)
 |.d id=>nsIn kK dC p.1==M aI&&lL p.1==M (.B id)&&decide (p.1≠("__name__":Str))
 |.b T=>nsIn kK dC p.1==M aI&&lL p.1==M (.t T)&&decide (p.1≠("__name__":Str))
 |.l v y=>nsIn kK dC p.1==M (M y)&&ZX v y
def asc{a:Type}(l:List (Str×a))(x:Str):Option a:=l.R aI λp _ b=>bif decide (x=p.1)then M p.2 else b
structure Tab where
 ge:List (Str×Ge)
 atts:List Str
 xN:List (Str×Addr×V×a0)
 K:List (Str×Addr×Addr)
 classes:List Addr
 p?:List Addr
 J4:List (Str×String)
def zx(l:List (Str×Addr×Addr))(x:Str)(c:Addr):Option Addr:=l.R aI λp _ a=>bif decide (x=p.1)&&aA c p.2.1 then M p.2.2 else a
def acR(kK:Frag)(T:Tab)(a:Str):Bool:=T.classes.a λc=>takerIn kK c a==M aI&&((asc T.xN a).i||jo kK (.r c) a==M aI)
def O!(kK:Frag)(p:Str×Addr×V×a0):Bool:=jo kK (.r p.2.1) p.1==M (M p.2.2.2)&&n! kK p.2.2.2 "__get__"==M aI&& !Ue.c p.1&&ZX p.2.2.1 p.2.2.2
def aaX(kK:Frag)(T:Tab)(p:Str×Addr×Addr):Bool:=isFn kK p.2.2&&jo kK (.r p.2.1) p.1==M (M<|.r p.2.2)&&Xr kK (.r p.2.2)==M (.t "function")&& !T.atts.c p.1
noncomputable def aef(kK:Frag)(c:Addr):Bool:=jo kK (.r c) "__bool__"==M aI&&jo kK (.r c) "__len__"==M aI
noncomputable def adA(kK:Frag)(p:Str×String):Bool:=nsIn kK dC p.1==M aI&&lL p.1==M (.t p.2)&&decide (p.1≠("__name__":Str))&& !(p.1==("__debug__":Str))&&decide (p.2≠"tuple")&&decide (p.2≠"traceback")
noncomputable def nz(a:Str):Bool:=match a.c.t with
 |0::_=>D
 |_=>Z
def Tab.ok(T:Tab)(kK:Frag):Bool:=T.ge.a (geB kK T.classes)&&T.atts.a (acR kK T)&&T.xN.a (O! kK)&&T.K.a (aaX kK T)&&T.p?.a (aef kK)&&T.J4.a (adA kK)&&decide T.atts.N&&T.classes.a (xR kK)&&T.atts.a nz&&T.K.a λp=>nz p.1
def Tab.g(T:Tab)(N:CF)(clo:ae)(lams:List (Expr×W V))(names:List Str)(knd:List (Str×mE)):G where
 n:=names
 k:=knd
 c:=Z
 T:=Z
 l:=λx=>match asc T.ge x with
  |some e=>e.g N
  |none=>.n
 A:=pos? T.atts
 d:=λa=>match asc T.xN a with
  |some (c,v,_)=>M (c,v)
  |none=>aI
 t:=λc=>decide<|c∈T.p?
 m:=λa c=>match zx T.K a c with
  |some f=>M<|N f
  |none=>aI
 C:=clo
 L:=lams
 e:=asc T.J4
noncomputable def Tab.a!(T:Tab)(i:Nat):Str:=match T.atts[i]? with
 |some a=>a
 |none=>⟨Array.replicate (i+1) 0⟩
def T8:Tab where
 ge:=[(kS "_is_identifier",.n 39),(kS "rightmost_terminal",.n 146),(kS "digraph",.n 294),(kS "traverse",.n 301),(kS "_place",.n 318),(kS "_law_next",.n 438),(kS "_law_slip",.n 445),(kS "_law_run",.n 452),(kS "_law_long",.n 459),(kS "_law_sums",.n 466),
  (kS "Production",.C 100 62),(kS "LRItem",.C 135 118),(kS "Grammar",.C 283 172),(kS "LRGeneratedTable",.C 427 333),
  (kS "len",.d "len"),(kS "min",.d "min"),(kS "all",.d "all"),(kS "sorted",.d "sorted"),(kS "tuple",.b "tuple"),(kS "list",.b "list"),(kS "set",.b "set"),(kS "enumerate",.b "enumerate"),(kS "range",.b "range"),
  (kS "MAXINT",.l (.I 9223372036854775807)<|.i 9223372036854775807 196),(kS "_IDENTIFIER",.l (.s (kS "abcdefghijklmnopqrstuvwxyzABCDEFGHIJKLMNOPQRSTUVWXYZ0123456789_-").c.t)<|ux "abcdefghijklmnopqrstuvwxyzABCDEFGHIJKLMNOPQRSTUVWXYZ0123456789_-" 224)]
 atts:=["name","prod","number","func","callable","file","line","prec","len","usyms","lr_items","lr_next","str","reduced","lr0_added","lr_index","lookaheads","lr_after","lr_before","Productions","Prodnames","Prodmap","Terminals","Nonterminals","First","Follow","Precedence","UsedPrecedence","Start","grammar","lr_method","lr_action","lr_goto","lr_productions","lr_goto_cache","lr0_cidhash","_add_count","sr_conflict","rr_conflict","conflicts","sr_conflicts","rr_conflicts"].m kS
 xN:=[(kS "reduced",100,.I 0,.i 0 245),(kS "lr0_added",100,.I 0,.i 0 247)]
 K:=[(kS "__len__",100,83),(kS "add_production",283,201),(kS "set_start",283,209),(kS "_first",283,258),(kS "compute_first",283,265),(kS "compute_follow",283,273),(kS "build_lritems",283,280),
  (kS "lr0_closure",427,340),(kS "lr0_goto",427,347),(kS "lr0_items",427,354),(kS "compute_nullable_nonterminals",427,361),(kS "find_nonterminal_transitions",427,368),(kS "dr_relation",427,375),(kS "reads_relation",427,382),(kS "compute_lookback_includes",427,389),
  (kS "compute_read_sets",427,396),(kS "compute_follow_sets",427,403),(kS "add_lookaheads",427,410),(kS "add_lalr_lookaheads",427,417),(kS "lr_parse_table",427,424)]
 classes:=[100,135,283,427]
 p?:=[135]
 J4:=[(kS "KeyError","KeyError"),(kS "IndexError","IndexError")]
structure FR where
 f:Addr
 d:wq
 q:Str
 b:a0
 P:a0
 c:a0
 p:List Str
 R:List Str
def FR.a(r:FR):FuncData:=fnOf r.d.name r.q r.d.p r.d.body r.d.s r.b .n .n r.P aI r.c .n
def sg(T:Tab)(N:CF)(a:ae)(lams:List (Expr×W V))(r:FR):W F:=cSs 60 (T.g N a lams (r.p++r.R) r.d.s.n) r.d.body
def gw(r:FR)(b:W F)(na:Nat)(a:aq):List V->W V:=λvs Q σ=>vs.L=na/\Cg (vs++a++aQ r.R.L .u) b Q σ
def mR(p:a0)(r:KR)(l:List String):FR:=⟨r.1+1,r.2.1,kS r.2.2.1,r.2.2.2.1,p,.r r.1,r.2.1.p.args.m (·.arg),l.m kS⟩
def rA(k:Nat):List String->FR:=mR kP<|kA.g k kD
def rB(k:Nat):List String->FR:=mR kL<|kB.g k kD
def rC(k:Nat):List String->FR:=mR kP<|kC.g k kD
def tT:FR:=rC 0 []
def eP:FR:=rA 0 ["s"]
def sP:FR:=rA 1 []
def wU:FR:=rA 2 []
def oY:FR:=rA 3 ["i"]
def vh:FR:=rA 4 ["term"]
def fP:FR:=rA 5 ["n","s","c","precname","prodprec","map","m","pnumber","t","p"]
def jb:FR:=rA 6 []
def tS:FR:=rA 7 ["result","x","x_produces_empty","f"]
def lQ:FR:=rA 8 ["t","n","some_change","p","f"]
def dU:FR:=rA 9 ["k","didadd","p","i","B","fst","hasempty","f"]
def lP:FR:=rA 10 ["p","lastlri","i","lr_items","lri"]
def EM:FR:=rA 11 ["N","x","stack","F"]
def C3:FR:=rA 12 ["d","rel","y","a","element"]
def MC:FR:=rC 1 []
def gh:FR:=rA 13 []
def ji:FR:=rA 14 ["J","didadd","j","x"]
def jX:FR:=rA 15 ["g","s","gs","p","n","s1"]
def jK:FR:=rA 16 ["C","i","I","asyms","ii","s","x","g"]
def eL:FR:=rA 17 ["nullable","num_nullable","p","t"]
def eO:FR:=rA 18 ["trans","stateno","state","p","t"]
def jh:FR:=rA 19 ["state","N","terms","g","p","a"]
def ib:FR:=rA 20 ["rel","state","N","g","j","p","a"]
def fh:FR:=rA 21 ["lookdict","includedict","dtrans","t","state","N","lookb","includes","p","lr_index","j","li","g","r","i"]
def dY:FR:=rA 22 ["FP","R","F"]
def dP:FR:=rA 23 ["FP","R","F"]
def hW:FR:=rA 24 ["trans","lb","state","p","f","a"]
def fW:FR:=rA 25 ["nullable","trans","readsets","lookd","included","followsets"]
def hZ:FR:=rA 26 ["Productions","Precedence","goto","action","actionp","C","st","I","st_action","st_actionp","st_goto","p","laheads","a","r","sprec","slevel","rprec","rlevel","oldp","pp","chosenp","rejectp","i","g","j","nkeys","ii","s","n"]
def C0:FR:=rB 0 []
def C1:FR:=rB 1 ["kind","place","letter"]
def EN:FR:=rB 2 ["states","trees","place","_","act","name","symbols","rest"]
def CZ:FR:=rB 3 ["end"]
def C2:FR:=rB 4 ["x","y","z","i","k","j","l","ones","twos","due","ends","tree","_"]
noncomputable def W8:Expr->Bool|.a .. =>Z|_=>D
noncomputable def Vx:Expr->Arguments|.a p _ _ _=>p|_=>⟨[],[],aI,[],[],aI,[]⟩
noncomputable def aaC:Expr->Expr|.a _ b _ _=>b|e=>e
noncomputable def Rn:Expr->rF|.a _ _ s _=>s|_=>kv
noncomputable def rL:Expr->Pos|.a _ _ _ p=>p|_=>kv
noncomputable def Mn(d:wq)(k:Nat):Expr:=match d.body[k]? with
 |some (.A _ e _)=>e
 |_=>.N (fD "") kv
def adP(q:Str)(e:Expr):PR:=⟨q,Vx e,aaC e,Rn e,(Vx e).args.m (·.arg),Qs<|Rn e⟩
def WW:wq:=Ag 16 9
def WV:wq:=Ag 16 10
def qp(k:Nat):Expr:=[Mn WW 0,Mn WW 1,Mn WV 0].g k<|Mn WV 1
def aaE(k:Nat):Str:=bif aO k 1 then kS "LRGeneratedTable.compute_read_sets.<locals>.<lambda>" else kS "LRGeneratedTable.compute_follow_sets.<locals>.<lambda>"
def wi(k:Nat):PR:=adP (aaE k)<|qp k
def DS(j:Nat):L!:=[⟨395,391,[rL (qp 0),rL<|qp 1]⟩,⟨395,391,[rL (qp 1)]⟩,⟨395,391,[]⟩,⟨402,398,[rL (qp 2),rL<|qp 3]⟩,⟨402,398,[rL (qp 3)]⟩].g j ⟨402,398,[]⟩
def Ru(T:Tab)(N:CF)(L:PR):W V:=cE 60 (T.g N (λx x=>jD) [] (L.p++L.c) L.s.n) L.b
def Rm(N:CF)(k:Nat)(l:Loc)(vs:aq):W V:=aaF (wi k).p.L (wi k).c.L (Ru T8 N<|wi k) k l vs
def AB(N:CF)(l:Loc)(vs:aq):W V:=lW (Rm N 0 l vs)<|lW (Rm N 1 l vs)<|lW (Rm N 2 l vs)<|Rm N 3 l vs
def Em(k j:Nat)(t:Loc)(a:ao):W V:=aaD k t j a
def Rp:List (Expr×W V):=[(qp 0,Em 0 0 (.o 90 0 0) [0,3,1]),(qp 1,Em 1 1 (.o 90 0 0) [0,3,1])]
def Ro:List (Expr×W V):=[(qp 2,Em 2 3 (.o 91 0 0) [2]),(qp 3,Em 3 4 (.o 91 0 0) [3])]
def RD(l:List (Addr×(List V->W V)))(f:Addr):List V->W V:=l.R (λ_=>jD) λp _ a=>bif aA p.1 f then p.2 else a
def rPl:List FR:=[tT,sP,wU,oY,vh,tS,lQ,lP,EM,C3,MC,ji,jX,jK,eL,eO,jh,ib,fh,hW,fW,hZ,C0,C1,EN,CZ,C2]
noncomputable def Xk(N:CF)(a:ae):List (Addr×(List V->W V)):=rPl.m (λr=>(r.f,gw r (sg T8 N a [] r) r.p.L []))++[
 (62,λvs=>lW (gw eP (sg T8 N a [] eP) 4 [V.t [.s (kS "right").c.t,.I 0],.N,.s [],.I 0] vs)<|gw eP (sg T8 N a [] eP) 8 [] vs),
 (201,gw fP (sg T8 N a [] fP) 3 [.N,.s [],.I 0]),
 (209,gw jb (sg T8 N a [] jb) 2 []),
 (273,λvs=>lW (gw dU (sg T8 N a [] dU) 1 [.N] vs)<|gw dU (sg T8 N a [] dU) 2 [] vs),
 (333,gw gh (sg T8 N a [] gh) 3 [.N]),
 (396,gw dY (sg T8 N a Rp dY) 4 []),
 (403,gw dP (sg T8 N a Ro dP) 4 [])]
def dT(n:Nat):CF:=n.r (λ_ _=>jD) λ_ f=>RD<|Xk f<|AB f
def uM:wq:=Kn 23
def VB:List Str:=["tape","letters","x","y","z","i","k","j","l","rows","rest","rules","method","rounds","turns","word","grammar","name","symbols","outer","inner","table"].m kS
def Y6:List Str:=VB++[kS "follow"]
def ID:Δ:=λk=>if k=(.o 90 0 0,D)then M 391 else if k=(.o 91 0 0,D)then M 398 else aI
def HD:Loc->Option O:=λl=>if l=.o 90 0 0 then M (.t 0)else if l=.o 91 0 0 then M (.t 3)else aI
def o?:St:=⟨aQ 22 .u,HD,0⟩
def Rq:List Stmt:=uM.body
noncomputable def xD:Expr->List Expr×List acw×Pos×rF
 |.L a g s p=>([a],g,p,s)
 |.S a b p=>([a,b],[],p,kv)
 |.l _ (M u) _ p=>([u],[],p,kv)
 |.N _ p=>([],[],p,kv)
 |_=>([],[],kv,kv)
def xE(e:Expr)(i:Nat):Expr:=(xD e).1.g i e
def xP(e:Expr):Pos:=(xD e).2.2.1
def Pp(k:Nat):Expr×Expr×Pos:=match Rq[k]? with
 |some (.A [t] v p)=>(t,v,p)
 |_=>(.T [] 0 kv,.T [] 0 kv,kv)
def QD:Expr:=(Pp 0).2.1
def U4:acw:=(xD QD).2.1.H ⟨QD,QD,[],0⟩
def pre:List Stmt:=(Rq.d 1).t 19
def o!:List Stmt:=Rq.d 21
def Yu(N:CF)(a:ae):G:=T8.g N a [] VB uM.s.n
def dg2(N:CF)(a:ae):G:=T8.g N a [] Y6 uM.s.n
def startB(a:aq):W It:=λQ σ=>∃l,σ.h l=aI/\Q (.L (l,0)) ⟨σ.l,aZ σ.h l<|.l<|cut a aI<|M 24,σ.n+1⟩
def QU(N:CF)(a:ae)(b:aq):W F:=
 bD (pK (startB b) (pE<|.l []) [kS "n"].L [] λd i Q σ=>∃k,q5 (cA 60 ((Yu N a).i (xD QD).2.2.2 [kS "n"] []) U4.target) (lG []) (bD (cE 60 ((Yu N a).i (xD QD).2.2.2 [kS "n"] [])<|xE QD 0) λx=>bD (hH d [x]) λy=>bE ()) k i Q σ) λv=>bD (cA 60 (Yu N a) (.N (kS "tape")<|xP (Pp 0).1) v) λy=>bE .n
def SD(N:CF)(a:ae):W F:=
 pre.foldr (λux m=>aR (cS 60 (Yu N a) ux) m) (λQ=>cE 60 (Yu N a) (Pp 20).2.1 λv σ=>cSs 60 (dg2 N a) o! Q ⟨σ.l++[v],σ.h,σ.n⟩)
def VD(N:CF)(a:ae)(b:aq):W F:=aR (QU N a b)<|SD N a
def uL(f:F)(σ:St):Prop:=f=.r (.o Z)/\(∃j,σ.h (.o 90 0 0)=M (.t j))/\∃j,σ.h (.o 91 0 0)=M (.t j)
section
def sd(N:CF)(a:Str)(c:qJ):Option (List V->W V):=match zx T8.K a c with
 |some f=>M<|N f
 |none=>aI
abbrev nx{α:Type}(Q:ah):α->St->Prop:=λ_=>Q .n
def fX(v:V):W Bool:=lW (ZR v)<|bD (fU v) λc=>p5 (decide<|c∈[135])<|(Wh c v)
def nV(N:CF)(v:V):W V:=lW (Y8 [v])<|lW (Rz [v])<|Rx (sd N<|kS "__len__") [v]
def Dj(v:V)(vs:aq):W V:=lW (wa vs λk=>zb .N v k)<|Nf vs λk w=>zb w v k
def tx(v w:V):W V:=lW (aaZ v w)<|(YK v w)
def su(bind:ak)(body a:W F)(b:It):W F:=λQ σ=>∃j,zf bind body a j b Q σ
def lH(c:W Bool)(body a:W F):W F:=λQ σ=>∃j,qE c body a j Q σ
def D9(bind:ak)(d:V)(b:It)(a:W Unit):W Unit:=λQ σ=>∃j,q5 bind (lG []) a j b Q σ
def Ce:List Nat:=(kS "abcdefghijklmnopqrstuvwxyzABCDEFGHIJKLMNOPQRSTUVWXYZ0123456789_-").c.t
@[irreducible] def B (i j:Nat):W V:=λK=>(aS i) λv=>(qn j v) K
@[irreducible] def NC (i j k:Nat):W V:=λK=>(aS i) λv=>(qn j v) λw=>(qn k w) K
@[irreducible] def sA (i j:Nat) (w:V):W Unit:=λK=>(aS i) λv=>(AR j v w) K
abbrev sF(bind:ak)(body:W F)(Q:ah):V->St->Prop:=λa=>jz a λb=>su bind body (bE .n) b Q
abbrev iE(x y:St->Prop):Bool->St->Prop:=λb σ=>cond b (x σ) (y σ)
abbrev iI(x:St->Prop)(Q:ah):Bool->St->Prop:=λb σ=>cond b (x σ) (Q .n σ)
abbrev mI(f:qJ->Option (List V->W V))(P:(qJ->Option (List V->W V))->qJ->St->Prop):qJ->St->Prop:=λb σ=>(f b).i=Z/\P f b σ
variable(N:CF)(clo:ae)
def yg:W F:=λQ=>(λ(i:ab)=>aS 0 λa=>nV N a λb=>cw .Gt b (.I 0) λc=>fX (.o c)<|iE (pK (λe=>aS 0 λf=>jz f e) (pE<|.l []) 2 [] (λd j=>D9 (ck 1) d j λK=>aS 1 λa=>cw .I a (.s Ce) λb=>hH d [.o b] λx=>K ()) λg=>allM [g] i)<|i<|.o c) λh=>Q<|.r h
def tR:W F:=yg N
def wo:W F:=λQ=>B 0 1 λa=>nV N a λb=>sA 0 8 b<|nx Q
def mj:=aR (λQ=>aS 2 λa=>sA 0 0 a<|nx Q)<|aR (λQ=>aS 3 λa=>z5 [a] λb=>sA 0 1 b<|nx Q)<|aR (λQ=>aS 1 λa=>sA 0 2 a<|nx Q)<|aR (λQ=>aS 5 λa=>sA 0 3 a<|nx Q)<|aR (λQ=>sA 0 4 .N<|nx Q)<|aR (λQ=>aS 6 λa=>sA 0 5 a<|nx Q)<|aR (λQ=>aS 7 λa=>sA 0 6 a<|nx Q)<|aR (λQ=>aS 4 λa=>sA 0 7 a<|nx Q)<|aR (wo N)<|aR (λQ=>bj [] λa=>sA 0 9 a<|nx Q)<|aR (λQ=>B 0 1<|sF (ck 8) (λQ=>aS 8 λa=>B 0 9 λb=>cw .N a b<|iI (B 0 9 λa=>o7 a λx=>aS 8 λb=>hH a [b]<|nx Q) Q) Q)<|aR (λQ=>bj [] λa=>sA 0 10 a<|nx Q)<|aR (λQ=>sA 0 11 .N<|nx Q) λQ=>B 0 1 λa=>fX a<|iE (B 0 0 λa=>UY [32,45,62,32] a λx=>isS (.s [32]) λx=>B 0 1 λb=>joinM (.s [32]) [b] λc=>FF [32,45,62,32] a c λd=>sA 0 12 d<|nx Q)<|B 0 0 λa=>tx (.s [37,115,32,45,62,32,60,101,109,112,116,121,62]) a λb=>sA 0 12 b<|nx Q
def xj:W F:=λQ=>B 0 1 λa=>nV N a λb=>Q<|.r b
def zL:W F:=xj N
def AH:W F:=λQ=>B 0 1 λa=>nV N a λb=>sA 0 8 b<|nx Q
def wH:=aR (λQ=>B 1 0 λa=>sA 0 0 a<|nx Q)<|aR (λQ=>B 1 1 λa=>Eo [a] λb=>sA 0 1 b<|nx Q)<|aR (λQ=>B 1 2 λa=>sA 0 2 a<|nx Q)<|aR (λQ=>aS 2 λa=>sA 0 15 a<|nx Q)<|aR (λQ=>iB (.d []) λa=>sA 0 16 a<|nx Q)<|aR (λQ=>B 0 1 λa=>o7 a λx=>aS 2 λb=>YX a [b,(.s [46])]<|nx Q)<|aR (λQ=>B 0 1 λa=>z5 [a] λb=>sA 0 1 b<|nx Q)<|aR (AH N) λQ=>B 1 9 λa=>sA 0 9 a<|nx Q
def tG:W F:=λQ=>aS 0 λa=>nV N a λb=>kc b (.I 1) λc=>ck 2 c<|nx Q
def my:=aR (λQ=>aS 0 λa=>aS 2 λb=>dj a b λc=>aS 1 λd=>cw .I c d<|iI (aS 0 λa=>aS 2 λb=>dj a b λc=>Q<|.r c) Q) λQ=>aS 2 λa=>kc a (.I 1) λe=>ck 2 e<|nx Q
def mz:W F:=λQ=>Q<|.r .N
def oX:=aR (tG N)<|aR (lH (λK=>aS 2 λa=>cw .GtE a (.I 0) K) my<|bE .n) mz
def CI:W F:=λQ=>bj [] λa=>B 0 22 λb=>aS 2 λc=>cM b c a<|nx Q
def CJ:W F:=λQ=>bj [] λa=>B 0 22 λb=>cM b (.s [101,114,114,111,114]) a<|nx Q
def Ih(N:CF):W F:=aR (λQ=>bj [.N] λa=>sA 0 19 a<|nx Q)<|aR (λQ=>iB (.d []) λa=>sA 0 20 a<|nx Q)<|aR (λQ=>iB (.d []) λa=>sA 0 21 a<|nx Q)<|aR (λQ=>iB (.d []) λa=>sA 0 22 a<|nx Q)<|aR (λQ=>aS 1<|sF (ck 2) CI Q)<|aR CJ<|aR (λQ=>iB (.d []) λa=>sA 0 23 a<|nx Q)<|aR (λQ=>iB (.d []) λa=>sA 0 24 a<|nx Q)<|aR (λQ=>iB (.d []) λa=>sA 0 25 a<|nx Q)<|aR (λQ=>iB (.d []) λa=>sA 0 26 a<|nx Q)<|aR (λQ=>Bk [] λa=>sA 0 27 a<|nx Q) λQ=>sA 0 28 .N<|nx Q
def uU:W F:=λQ=>aS 1 λa=>N 39 [a] λb=>fX b λc σ=>cond (!c) (jD Q σ)<|Q .n σ
def uV:W F:=λQ=>(λ(e:ai)=>aS 7 λa=>N 39 [a] λb=>fX b λc σ=>cond (!c) ((aS 7 λd=>cw .o d (.s [37,112,114,101,99])<|iE (e Z)<|e D) σ)<|e D σ)<|iI (jD Q) Q
def uW:=aR (λQ=>aS 7 λa=>dj a (.I 0) λb=>cw .I b (.s [39,34])<|iI (λx=>False) Q)<|uV N
def oB:W F:=λQ=>aS 2 λa=>B3 a λb=>su (g7 [λv=>ck 6 v,λv=>ck 7 v]) (uW N) (bE .n) b Q
def ub:W F:=λQ=>aS 2 λa=>B 0 22 λb=>N 146 [a,b] λc=>ck 9 c<|nx Q
def mU:W F:=λQ=>aS 2 λa=>cw .I (.s [37,112,114,101,99]) a<|iE (aR (λQ=>aS 2 λa=>qr (.I 1) λb=>dj a b λc=>cw .E c (.s [37,112,114,101,99])<|iI (jD Q) Q) (aR (λQ=>aS 2 λa=>qr (.I 2) λb=>dj a b λc=>cw .o c (.s [37,112,114,101,99])<|iI (jD Q) Q)<|aR (λQ=>aS 2 λa=>qr (.I 1) λb=>dj a b λc=>ck 9 c<|nx Q)<|aR (λQ=>B 0 26 λa=>Ei a λx=>aS 9 λb=>Dj a [b] λc=>ck 10 c<|nx Q)<|aR (λQ=>aS 10 λa=>fX a λb σ=>cond (!b) (jD Q σ)<|(B 0 27 λa=>isSet a λx=>aS 9 λb=>ER a [b]<|nx Q) σ) jD) Q)<|(aR (ub N) λQ=>B 0 26 λa=>Ei a λx=>aS 9 λb=>cY [.s [114,105,103,104,116],.I 0] λc=>Dj a [b,c] λd=>ck 10 d<|nx Q) Q
def mV:W F:=λQ=>aS 1 λa=>UY [32,45,62,32] a λx=>aS 2 λb=>FF [32,45,62,32] a b λc=>ck 11 c<|nx Q
def uc:W F:=λQ=>B 0 19 λa=>nV N a λb=>ck 13 b<|nx Q
def mW:W F:=λQ=>B 0 23 λa=>aS 14 λb=>dj a b λc=>o7 c λx=>aS 13 λd=>hH c [d]<|nx Q
def jS:W F:=λQ=>aS 2<|sF (ck 14) (λQ=>aS 14 λa=>B 0 22 λb=>cw .I a b<|iE (B 0 22 λa=>aS 14 λb=>dj a b λc=>o7 c λx=>aS 13 λd=>hH c [d]<|nx Q)<|aR (λQ=>aS 14 λa=>B 0 23 λb=>cw .N a b<|iI (bj [] λa=>B 0 23 λb=>aS 14 λc=>cM b c a<|nx Q) Q) mW Q) Q
def mX:W F:=λQ=>aS 13 λa=>aS 1 λb=>aS 2 λc=>aS 10 λd=>aS 3 λe=>aS 4 λf=>aS 5 λg=>Ah 100 (N 62) [a,b,c,d,e,f,g] λh=>ck 15 h<|nx Q
def mY:W F:=λQ=>B 0 19 λa=>o7 a λx=>aS 15 λb=>hH a [b]<|nx Q
def mZ:W F:=λQ=>aS 15 λa=>B 0 21 λb=>aS 11 λc=>cM b c a<|nx Q
def m4:W F:=λQ=>K6 (λQ E σ=>D=D/\(λσ=>Z=Z/\(B 0 20 λa=>aS 1 λb=>tV a b (λx=>o7 x λy=>aS 15 λc=>hH x [c]<|nx Q) E) σ) σ) ["KeyError"] (λQ=>aS 15 λa=>bj [a] λb=>B 0 20 λc=>aS 1 λd=>cM c d b<|nx Q) Q
def qt:=aR (λQ=>aS 1 λa=>B 0 22 λb=>cw .I a b<|iI (jD Q) Q)<|aR (λQ=>aS 1 λa=>cw .E a (.s [101,114,114,111,114])<|iI (jD Q) Q)<|aR (uU N)<|aR (oB N)<|aR (mU N)<|aR mV<|aR (λQ=>aS 11 λa=>B 0 21 λb=>cw .I a b<|iI (aR (λQ=>B 0 21 λa=>aS 11 λb=>dj a b λc=>ck 12 c<|nx Q) jD Q) Q)<|aR (uc N)<|aR (λQ=>aS 1 λa=>B 0 23 λb=>cw .N a b<|iI (bj [] λa=>B 0 23 λb=>aS 1 λc=>cM b c a<|nx Q) Q)<|aR jS<|aR (mX N)<|aR mY<|aR mZ m4
def AG:W F:=λQ=>aS 1 λa=>bj [a] λb=>Ah 100 (N 62) [.I 0,.s [83,39],b] λc=>B 0 19 λd=>cM d (.I 0) c<|nx Q
def wD:=aR (λQ=>aS 1 λa=>fX a λb σ=>cond (!b) ((B 0 19 λa=>dj a (.I 1) λb=>qn 0 b λc=>ck 1 c<|nx Q) σ)<|Q .n σ)<|aR (λQ=>aS 1 λa=>B 0 23 λb=>cw .N a b<|iI (jD Q) Q)<|aR (AG N)<|aR (λQ=>B 0 23 λa=>aS 1 λb=>dj a b λc=>o7 c λx=>hH c [.I 0]<|nx Q) λQ=>aS 1 λa=>sA 0 28 a<|nx Q
def Aj:W F:=λQ=>aS 5 λa=>cw .E a (.s [60,101,109,112,116,121,62])<|iE (ck 4 (.o Z)<|nx Q)<|aS 5 λa=>aS 2 λb=>cw .N a b<|iI (aS 2 λa=>o7 a λx=>aS 5 λb=>hH a [b]<|nx Q) Q
def Ak:=aR (λQ=>ck 4 (.o D)<|nx Q)<|aR (λQ=>B 0 24 λa=>aS 3 λb=>dj a b<|sF (ck 5) Aj Q) λQ=>aS 4 λa=>fX a<|iE (bE .n Q)<|bE .brk Q
def Ew(N:CF):W F:=aR (λQ=>bj [] λa=>ck 2 a<|nx Q)<|aR (λQ=>aS 1 λa=>jz a λb=>su (ck 3) Ak (λQ=>aS 2 λa=>o7 a λx=>hH a [.s [60,101,109,112,116,121,62]]<|nx Q) b Q) λQ=>aS 2 λa=>Q<|.r a
def wm:W F:=λQ=>B 0 24 λa=>fX a<|iI (B 0 24 λa=>Q<|.r a) Q
def pP:W F:=λQ=>aS 1 λa=>bj [a] λb=>B 0 24 λc=>aS 1 λd=>cM c d b<|nx Q
def pQ:W F:=λQ=>B 0 22<|sF (ck 1) pP Q
def pR:W F:=λQ=>bj [.s [36,101,110,100]] λa=>B 0 24 λb=>cM b (.s [36,101,110,100]) a<|nx Q
def pS:W F:=λQ=>bj [] λa=>B 0 24 λb=>aS 2 λc=>cM b c a<|nx Q
def pT:W F:=λQ=>B 0 23<|sF (ck 2) pS Q
def oF:W F:=λQ=>aS 5 λa=>B 0 24 λb=>aS 2 λc=>dj b c λd=>cw .N a d<|iI ((aR (λQ=>B 0 24 λa=>aS 2 λb=>dj a b λc=>o7 c λx=>aS 5 λd=>hH c [d]<|nx Q) λQ=>ck 3 (.o Z)<|nx Q) Q) Q
def oG:W F:=λQ=>aS 0 λa=>fU a<|mI (sd N<|kS "_first") λd b=>B 4 1 λc=>fV d b [a,c]<|sF (ck 5) oF Q
def oH:W F:=λQ=>B 0 20 λa=>aS 2 λb=>dj a b<|sF (ck 4) (oG N) Q
def uZ:W F:=λQ=>B 0 23<|sF (ck 2) (oH N) Q
def oK:=aR (λQ=>ck 3 (.o D)<|nx Q)<|aR (uZ N) λQ=>aS 3 λa=>fX a λb σ=>cond (!b) (bE .brk Q σ)<|Q .n σ
def oN:=lH (λK=>fX (.o Z) K) (oK N)<|bE .n
def oO:W F:=λQ=>B 0 24 λa=>Q<|.r a
def ye:=aR wm<|aR pQ<|aR pR<|aR pT<|aR (oN N) oO
def u0:W F:=λQ=>B 0 25 λa=>fX a<|iI (B 0 25 λa=>Q<|.r a) Q
def u3:W F:=λQ=>aS 0 λa=>fU a<|mI (sd N<|kS "compute_first") λc b=>fV c b [a]<|nx Q
def u4:W F:=λQ=>B 0 24 λa=>fX a λb σ=>cond (!b) (u3 N Q σ)<|Q .n σ
def oQ:W F:=λQ=>bj [] λa=>B 0 25 λb=>aS 2 λc=>cM b c a<|nx Q
def oR:W F:=λQ=>B 0 23<|sF (ck 2) oQ Q
def oS:W F:=λQ=>aS 1 λa=>fX a λb σ=>cond (!b) ((B 0 19 λa=>dj a (.I 1) λb=>qn 0 b λc=>ck 1 c<|nx Q) σ)<|Q .n σ
def oT:W F:=λQ=>bj [.s [36,101,110,100]] λa=>B 0 25 λb=>aS 1 λc=>cM b c a<|nx Q
def ud:W F:=λQ=>aS 0 λa=>fU a<|mI (sd N<|kS "_first") λh b=>B 4 1 λc=>aS 5 λd=>ej d (.I 1) λe=>i4 c e .N λf=>fV h b [a,f] λg=>ck 7 g<|nx Q
def m5:W F:=λQ=>aS 9 λa=>cw .E a (.s [60,101,109,112,116,121,62])<|iI (ck 8 (.o Z)<|nx Q) Q
def m6:=aR (λQ=>(λ(g:ai)=>aS 9 λa=>cw .o a (.s [60,101,109,112,116,121,62])<|iE (aS 9 λc=>B 0 25 λd=>aS 6 λe=>dj d e λf=>cw .N c f<|iE (g Z)<|g D)<|g D)<|iI ((aR (λQ=>B 0 25 λa=>aS 6 λb=>dj a b λc=>o7 c λx=>aS 9 λd=>hH c [d]<|nx Q) λQ=>ck 3 (.o Z)<|nx Q) Q) Q) m5
def jT:W F:=λQ=>aS 9 λa=>B 0 25 λb=>aS 6 λc=>dj b c λd=>cw .N a d<|iI ((aR (λQ=>B 0 25 λa=>aS 6 λb=>dj a b λc=>o7 c λx=>aS 9 λd=>hH c [d]<|nx Q) λQ=>ck 3 (.o Z)<|nx Q) Q) Q
def m7:W F:=λQ=>(λ(g:ai)=>aS 8 λa=>fX a<|iE (g Z)<|aS 5 λc=>B 4 1 λd=>nV N d λe=>kc e (.I 1) λf=>cw .E c f<|iE (g Z)<|g D)<|iI (B 0 25 λa=>B 4 0 λb=>dj a b<|sF (ck 9) jT Q) Q
def m8:W F:=λQ=>aS 6 λa=>B 0 23 λb=>cw .I a b<|iI (aR (ud N) (aR (λQ=>ck 8 (.o D)<|nx Q)<|aR (λQ=>aS 7<|sF (ck 9) m6 Q)<|m7 N) Q) Q
def m9:W F:=λQ=>B 4 1 λa=>B3 a λb=>su (g7 [λv=>ck 5 v,λv=>ck 6 v]) (m8 N) (bE .n) b Q
def ue:W F:=λQ=>B 0 19 λa=>i4 a (.I 1) .N<|sF (ck 4) (m9 N) Q
def nf:=aR (λQ=>ck 3 (.o D)<|nx Q)<|aR (ue N) λQ=>aS 3 λa=>fX a λb σ=>cond (!b) (bE .brk Q σ)<|Q .n σ
def ng:=lH (λK=>fX (.o Z) K) (nf N)<|bE .n
def nh:W F:=λQ=>B 0 25 λa=>Q<|.r a
def lF:=aR u0<|aR (u4 N)<|aR oR<|aR oS<|aR oT<|aR (ng N) nh
def wj:W F:=λQ=>aS 1 λa=>aS 3 λb=>Ah 135 (N 118) [a,b] λc=>ck 5 c<|nx Q
def pM:W F:=λQ=>bj [] λa=>sA 5 17 a<|nx Q
def pN:W F:=λQ=>K6 (λQ E σ=>Z=Z/\(B 0 20 λa=>B 5 1 λb=>aS 3 λc=>ej c (.I 1) λd=>tV b d (λx=>tV a x (λx=>sA 5 17 x<|nx Q) E) E) σ) ["IndexError","KeyError"] pM Q
def pO:W F:=λQ=>K6 (λQ E σ=>Z=Z/\(B 5 1 λa=>aS 3 λb=>kc b (.I 1) λc=>tV a c (λx=>sA 5 18 x<|nx Q) E) σ) ["IndexError"] (λQ=>sA 5 18 .N<|nx Q) Q
def wk:W F:=λQ=>aS 3 λa=>aS 1 λb=>nV N b λc=>cw .Gt a c<|iE (ck 5 .N<|nx Q)<|aR (wj N) (aR pN pO) Q
def oC:=aR (wk N)<|aR (λQ=>aS 5 λa=>sA 2 11 a<|nx Q)<|aR (λQ=>aS 5 λa=>fX a λb σ=>cond (!b) (bE .brk Q σ)<|Q .n σ)<|aR (λQ=>aS 4 λa=>o7 a λx=>aS 5 λb=>hH a [b]<|nx Q)<|aR (λQ=>aS 5 λa=>ck 2 a<|nx Q) λQ=>aS 3 λa=>sO a (.I 1) λc=>ck 3 c<|nx Q
def uX:=lH (λK=>fX (.o Z) K) (oC N)<|bE .n
def oE:=aR (λQ=>aS 1 λa=>ck 2 a<|nx Q)<|aR (λQ=>ck 3 (.I 0)<|nx Q)<|aR (λQ=>bj [] λa=>ck 4 a<|nx Q)<|aR (uX N) λQ=>aS 4 λa=>sA 1 10 a<|nx Q
def uY:W F:=λQ=>B 0 19<|sF (ck 1) (oE N) Q
def rh:W F:=uY N
def Io:W F:=λQ=>aS 4 λa=>aS 3 λb=>aS 5 λc=>aS 6 λd=>aS 0 λe=>aS 1 λf=>aS 2 λg=>N 301 [a,b,c,d,e,f,g]<|nx Q
def Ip:W F:=λQ=>aS 3 λa=>aS 4 λb=>dj a b λc=>cw .E c (.I 0)<|iI (Io N Q) Q
def Iq:W F:=λQ=>aS 0<|sF (ck 4) (Ip N) Q
def Ex:=aR (λQ=>iB (.d []) λa=>ck 3 a<|nx Q)<|aR (λQ=>aS 0<|sF (ck 4) (λQ=>aS 3 λa=>aS 4 λb=>cM a b (.I 0)<|nx Q) Q)<|aR (λQ=>bj [] λa=>ck 5 a<|nx Q)<|aR (λQ=>iB (.d []) λa=>ck 6 a<|nx Q)<|aR (Iq N) λQ=>aS 6 λa=>Q<|.r a
def Gi:W F:=λQ=>aS 2 λa=>nV N a λb=>ck 7 b<|nx Q
def Gj(N:CF)(clo:ae):W F:=λQ=>aS 6 λa σ=>∃b,a=.L b/\(aS 0 λc=>clo b [c] λd=>aS 3 λe=>aS 0 λf=>cM e f d<|nx Q) σ
def Gk(N:CF)(clo:ae):W F:=λQ=>aS 5 λa σ=>∃b,a=.L b/\(aS 0 λc=>clo b [c] λd=>ck 8 d<|nx Q) σ
def Gm:W F:=λQ=>aS 9 λa=>aS 1 λb=>aS 2 λc=>aS 3 λd=>aS 4 λe=>aS 5 λf=>aS 6 λg=>N 301 [a,b,c,d,e,f,g]<|nx Q
def Gn:W F:=λQ=>aS 1 λa=>aS 9 λb=>dj a b λc=>cw .E c (.I 0)<|iI (Gm N Q) Q
def yr:W F:=λQ=>aS 1 λa=>aS 0 λb=>dj a b λc=>aS 1 λd=>aS 9 λe=>dj d e λf=>Oe [c,f] λg=>aS 1 λh=>aS 0 λi=>cM h i g<|nx Q
def rU:W F:=λQ=>aS 3 λa=>Ei a λx=>aS 9 λb=>bj [] λc=>Dj a [b,c]<|sF (ck 10) (λQ=>aS 10 λa=>aS 3 λb=>aS 0 λc=>dj b c λd=>cw .N a d<|iI (aS 3 λa=>aS 0 λb=>dj a b λc=>o7 c λx=>aS 10 λd=>hH c [d]<|nx Q) Q) Q
def wQ:=aR (Gn N)<|aR yr rU
def DM:W F:=λQ=>aS 8<|sF (ck 9) (wQ N) Q
def CY(N:CF)(clo:ae):W F:=aR (λQ=>aS 2 λa=>o7 a λx=>aS 0 λb=>hH a [b]<|nx Q)<|aR (Gi N)<|aR (λQ=>aS 7 λa=>aS 1 λb=>aS 0 λc=>cM b c a<|nx Q)<|aR (Gj N clo)<|aR (Gk N clo)<|aR (DM N) λQ=>aS 1 λa=>aS 0 λb=>dj a b λc=>aS 7 λd=>cw .E c d<|iI (aR (λQ=>aS 1 λa=>aS 2 λb=>qr (.I 1) λc=>dj b c λd=>cM a d (.I 9223372036854775807)<|nx Q) (aR (λQ=>aS 3 λa=>aS 0 λb=>dj a b λc=>aS 3 λd=>aS 2 λe=>qr (.I 1) λf=>dj e f λg=>cM d g c<|nx Q)<|aR (λQ=>aS 2 λa=>o7 a λx=>DN a [] λb=>ck 11 b<|nx Q)<|lH (λK=>aS 11 λa=>aS 0 λb=>cw .o a b K) (aR (λQ=>aS 1 λa=>aS 2 λb=>qr (.I 1) λc=>dj b c λd=>cM a d (.I 9223372036854775807)<|nx Q)<|aR (λQ=>aS 3 λa=>aS 0 λb=>dj a b λc=>aS 3 λd=>aS 2 λe=>qr (.I 1) λf=>dj e f λg=>cM d g c<|nx Q) λQ=>aS 2 λa=>o7 a λx=>DN a [] λb=>ck 11 b<|nx Q)<|bE .n) Q) Q
def Ot:W F:=λQ=>cY [] λa=>Q<|.r a
def Ou:W F:=λQ=>aS 0 λa=>fX a λb σ=>cond (!b) (Ot Q σ)<|Q .n σ
def Ov(d:V)(e:It):W Unit:=D9 (ck 1) d e λK=>B 1 2 λa=>B 1 15 λb=>cY [a,b] λc=>hH d [c] λx=>K ()
def Ow:W F:=λQ=>pK (λe=>aS 0 λa=>jz a e) (pE<|.l []) 2 [] (λd f=>Ov d f) λb=>z5 [b] λc=>Q<|.r c
def MB(N:CF):W F:=aR Ou Ow
def Ij:W F:=λQ=>B 0 29 λa=>fU a<|mI (sd N<|kS "build_lritems") λc b=>fV c b [a]<|nx Q
def Ik:W F:=λQ=>B 0 29 λa=>fU a<|mI (sd N<|kS "compute_first") λc b=>fV c b [a]<|nx Q
def Il:W F:=λQ=>B 0 29 λa=>fU a<|mI (sd N<|kS "compute_follow") λc b=>fV c b [a]<|nx Q
def Im:W F:=λQ=>aS 0 λa=>fU a<|mI (sd N<|kS "lr_parse_table") λc b=>fV c b [a]<|nx Q
def Ii:=aR (λQ=>aS 2 λa=>bj [.s [83,76,82],.s [76,65,76,82]] λb=>cw .N a b<|iI (jD Q) Q)<|aR (λQ=>aS 1 λa=>sA 0 29 a<|nx Q)<|aR (λQ=>aS 2 λa=>sA 0 30 a<|nx Q)<|aR (λQ=>iB (.d []) λa=>sA 0 31 a<|nx Q)<|aR (λQ=>iB (.d []) λa=>sA 0 32 a<|nx Q)<|aR (λQ=>B 1 19 λa=>sA 0 33 a<|nx Q)<|aR (λQ=>iB (.d []) λa=>sA 0 34 a<|nx Q)<|aR (λQ=>iB (.d []) λa=>sA 0 35 a<|nx Q)<|aR (λQ=>sA 0 36 (.I 0)<|nx Q)<|aR (λQ=>sA 0 37 (.I 0)<|nx Q)<|aR (λQ=>sA 0 38 (.I 0)<|nx Q)<|aR (λQ=>bj [] λa=>sA 0 39 a<|nx Q)<|aR (λQ=>bj [] λa=>sA 0 40 a<|nx Q)<|aR (λQ=>bj [] λa=>sA 0 41 a<|nx Q)<|aR (Ij N)<|aR (Ik N)<|aR (Il N)<|Im N
def mq:W F:=λQ=>aS 2 λa=>o7 a λx=>B 5 11 λb=>hH a [b]<|nx Q
def mu:W F:=λQ=>B 0 36 λa=>sA 5 14 a<|nx Q
def mw:W F:=λQ=>ck 3 (.o Z)<|nx Q
def rm:=aR (λQ=>aS 5 λa=>wy 100 14 (.I 0) a λb=>B 0 36 λc=>cw .E b c<|iI (bE .cont Q) Q)<|aR mq<|aR mu mw
def rn:W F:=λQ=>B 4 17<|sF (ck 5) rm Q
def qx:=lH (λK=>aS 3 λa=>fX a K) (aR (λQ=>ck 3 (.o D)<|nx Q) λQ=>aS 2<|sF (ck 4) rn Q)<|bE .n
def tO(N:CF):W F:=aR (λQ=>aS 0 λa=>qn 36 a λb=>sO b (.I 1) λc=>AR 36 a c<|nx Q)<|aR (λQ=>aS 1 λa=>i4 a .N .N λb=>ck 2 b<|nx Q)<|aR (λQ=>ck 3 (.o Z)<|nx Q)<|aR qx λQ=>aS 2 λa=>Q<|.r a
def CK:W F:=λQ=>B 0 34 λa=>Ei a λx=>aS 1 λb=>N 318 [b] λc=>aS 2 λd=>cY [c,d] λe=>Dj a [e] λf=>ck 3 f<|nx Q
def u6:W F:=λQ=>B 0 34 λa=>Ei a λx=>aS 2 λb=>Dj a [b] λc=>ck 4 c<|nx Q
def u7:W F:=λQ=>aS 4 λa=>fX a λb σ=>cond (!b) ((aR (λQ=>iB (.d []) λa=>ck 4 a<|nx Q) λQ=>aS 4 λa=>B 0 34 λb=>aS 2 λc=>cM b c a<|nx Q) Q σ)<|Q .n σ
def u9:W F:=λQ=>bj [] λa=>ck 5 a<|nx Q
def tP:=aR (λQ=>B 6 11 λa=>ck 7 a<|nx Q) λQ=>(λ(f:ai)=>aS 7 λa=>fX a<|iE (B 7 18 λc=>aS 2 λd=>cw .E c d<|iE (f Z)<|f D)<|f D)<|iI (aR (λQ=>aS 4 λa=>Ei a λx=>B 7 2 λb=>B 7 15 λc=>cY [b,c] λd=>Dj a [d] λe=>ck 8 e<|nx Q) (aR (λQ=>aS 8 λa=>fX a λb σ=>cond (!b) ((aR (λQ=>iB (.d []) λa=>ck 8 a<|nx Q) λQ=>aS 8 λa=>aS 4 λb=>B 7 2 λc=>B 7 15 λd=>cY [c,d] λe=>cM b e a<|nx Q) Q σ)<|Q .n σ)<|aR (λQ=>aS 5 λa=>o7 a λx=>aS 7 λb=>hH a [b]<|nx Q) λQ=>aS 8 λa=>ck 4 a<|nx Q) Q) Q
def lj:W F:=λQ=>aS 1<|sF (ck 6) tP Q
def lu:W F:=λQ=>aS 4 λa=>Ei a λx=>Dj a [.s [36,101,110,100]] λb=>ck 3 b<|nx Q
def AI:W F:=λQ=>aS 0 λa=>fU a<|mI (sd N<|kS "lr0_closure") λe b=>aS 5 λc=>fV e b [a,c] λd=>ck 3 d<|nx Q
def tQ:W F:=λQ=>aS 5 λa=>fX a<|iE ((aR (AI N) λQ=>aS 3 λa=>aS 4 λb=>cM b (.s [36,101,110,100]) a<|nx Q) Q)<|aS 5 λa=>aS 4 λb=>cM b (.s [36,101,110,100]) a<|nx Q
def ip:W F:=λQ=>aS 3 λa=>fX a λb σ=>cond (!b) (tQ N Q σ)<|Q .n σ
def jI:W F:=λQ=>aS 3 λa=>B 0 34 λb=>aS 1 λc=>N 318 [c] λd=>aS 2 λe=>cY [d,e] λf=>cM b f a<|nx Q
def jJ:W F:=λQ=>aS 3 λa=>Q<|.r a
def tD:=aR (CK N)<|aR (λQ=>aS 3 λa=>fX a<|iI (aS 3 λa=>Q<|.r a) Q)<|aR u6<|aR u7<|aR u9<|aR lj<|aR lu<|aR (ip N)<|aR (jI N) jJ
def AJ:W F:=λQ=>aS 0 λa=>fU a<|mI (sd N<|kS "lr0_closure") λi b=>NC 0 29 19 λc=>dj c (.I 0) λd=>qn 11 d λe=>bj [e] λf=>fV i b [a,f] λg=>bj [g] λh=>ck 1 h<|nx Q
def AK:W F:=λQ=>aS 2 λa=>B 0 35 λb=>aS 3 λc=>N 318 [c] λd=>cM b d a<|nx Q
def AL:=aR (AK N) λQ=>aS 2 λa=>sO a (.I 1) λb=>ck 2 b<|nx Q
def AM:W F:=λQ=>aS 1<|sF (ck 3) (AL N) Q
def sG:W F:=λQ=>aS 3<|sF (ck 5) (λQ=>B 5 9<|sF (ck 6) (λQ=>aS 4 λa=>aS 6 λb=>cM a b .N<|nx Q) Q) Q
def zN:W F:=λQ=>aS 0 λa=>fU a<|mI (sd N<|kS "lr0_goto") λf b=>aS 3 λc=>aS 7 λd=>fV f b [a,c,d] λe=>ck 8 e<|nx Q
def zO:W F:=λQ=>(λ(f:ai)=>aS 8 λa=>fX a λb σ=>cond (!b) (f Z σ)<|(aS 8 λc=>N 318 [c] λd=>B 0 35 λe=>cw .I d e<|iE (f Z)<|f D) σ)<|iI (bE .cont Q) Q
def zP:W F:=λQ=>aS 1 λa=>nV N a λb=>B 0 35 λc=>aS 8 λd=>N 318 [d] λe=>cM c e b<|nx Q
def sH:=aR (zN N)<|aR (zO N)<|aR (zP N) λQ=>aS 1 λa=>o7 a λx=>aS 8 λb=>hH a [b]<|nx Q
def sI:W F:=λQ=>aS 4<|sF (ck 7) (sH N) Q
def sL:=aR (λQ=>aS 1 λa=>aS 2 λb=>dj a b λc=>ck 3 c<|nx Q)<|aR (λQ=>aS 2 λa=>sO a (.I 1) λd=>ck 2 d<|nx Q)<|aR (λQ=>iB (.d []) λa=>ck 4 a<|nx Q)<|aR sG<|sI N
def sM:=lH (λK=>aS 2 λa=>aS 1 λb=>nV N b λc=>cw .Lt a c K) (sL N)<|bE .n
def wK:=aR (AJ N)<|aR (λQ=>ck 2 (.I 0)<|nx Q)<|aR (AM N)<|aR (λQ=>ck 2 (.I 0)<|nx Q)<|aR (sM N) λQ=>aS 1 λa=>Q<|.r a
def gB:=aR (λQ=>B 3 8 λa=>cw .E a (.I 0)<|iI (aR (λQ=>aS 1 λa=>isSet a λx=>B 3 0 λb=>ER a [b]<|nx Q) (bE .cont) Q) Q) λQ=>B 3 1 λa=>jz a λb=>su (ck 4) (λQ=>aS 4 λa=>aS 1 λb=>cw .N a b<|iI (bE .brk Q) Q) (λQ=>aS 1 λa=>isSet a λx=>B 3 0 λb=>ER a [b]<|nx Q) b Q
def k6:W F:=λQ=>aS 1 λa=>nV N a λb=>aS 2 λc=>cw .E b c<|iI (bE .brk Q) Q
def kz:W F:=λQ=>aS 1 λa=>nV N a λb=>ck 2 b<|nx Q
def kE:=aR (λQ=>NC 0 29 19 λa=>i4 a (.I 1) .N<|sF (ck 3) gB Q)<|aR (k6 N)<|kz N
def kG:=lH (λK=>fX (.o Z) K) (kE N)<|bE .n
def hV:=aR (λQ=>Bk [] λa=>ck 1 a<|nx Q)<|aR (λQ=>ck 2 (.I 0)<|nx Q)<|aR (kG N) λQ=>aS 1 λa=>Q<|.r a
def gU:W F:=λQ=>B 5 15 λa=>B 5 8 λb=>kc b (.I 1) λc=>cw .Lt a c<|iI ((aR (λQ=>aS 3 λa=>B 5 1 λb=>B 5 15 λc=>ej c (.I 1) λd=>dj b d λe=>cY [a,e] λf=>ck 6 f<|nx Q) λQ=>aS 6 λa=>dj a (.I 1) λb=>NC 0 29 23 λc=>cw .I b c<|iI (aS 6 λa=>aS 2 λb=>cw .N a b<|iI (aS 2 λa=>o7 a λx=>aS 6 λb=>hH a [b]<|nx Q) Q) Q) Q) Q
def iR(N:CF):W F:=aR (λQ=>bj [] λa=>ck 2 a<|nx Q)<|aR (λQ=>aS 1 λa=>B3 a λb=>su (g7 [λv=>ck 3 v,λv=>ck 4 v]) (λQ=>aS 4<|sF (ck 5) gU Q) (bE .n) b Q) λQ=>aS 2 λa=>Q<|.r a
def yf:W F:=λQ=>aS 0 λa=>fU a<|mI (sd N<|kS "lr0_goto") λh b=>aS 1 λc=>aS 4 λd=>dj c d λe=>aS 5 λf=>fV h b [a,e,f] λg=>ck 7 g<|nx Q
def rj:W F:=λQ=>B 8 15 λa=>B 8 8 λb=>kc b (.I 1) λc=>cw .Lt a c<|iI ((aR (λQ=>B 8 1 λa=>B 8 15 λb=>ej b (.I 1) λc=>dj a c λd=>ck 9 d<|nx Q) λQ=>aS 9 λa=>NC 0 29 22 λb=>cw .I a b<|iI (aS 9 λa=>aS 6 λb=>cw .N a b<|iI (aS 6 λa=>o7 a λx=>aS 9 λb=>hH a [b]<|nx Q) Q) Q) Q) Q
def rk:W F:=λQ=>aS 6 λa=>o7 a λx=>hH a [.s [36,101,110,100]]<|nx Q
def qw:W F:=λQ=>aS 6 λa=>Q<|.r a
def tN:=aR (λQ=>aS 2 λa=>g7 [λv=>ck 4 v,λv=>ck 5 v] a<|nx Q)<|aR (λQ=>bj [] λa=>ck 6 a<|nx Q)<|aR (yf N)<|aR (λQ=>aS 7<|sF (ck 8) rj Q)<|aR (λQ=>(λ(b:ai)=>aS 4 λa=>cw .E a (.I 0)<|iE (aS 5 λc=>NC 0 29 19 λd=>dj d (.I 0) λe=>qn 1 e λf=>dj f (.I 0) λg=>cw .E c g<|iE (b Z)<|b D)<|b D)<|iI (rk Q) Q) qw
def vd:W F:=λQ=>aS 0 λa=>fU a<|mI (sd N<|kS "lr0_goto") λh b=>aS 1 λc=>aS 5 λd=>dj c d λe=>aS 6 λf=>fV h b [a,e,f] λg=>ck 7 g<|nx Q
def vf:W F:=λQ=>B 0 35 λa=>Ei a λx=>aS 7 λb=>N 318 [b] λc=>qr (.I 1) λd=>Dj a [c,d] λe=>ck 8 e<|nx Q
def qz:=aR (λQ=>bj [] λa=>ck 4 a<|nx Q)<|aR (λQ=>aS 2 λa=>g7 [λv=>ck 5 v,λv=>ck 6 v] a<|nx Q)<|aR (vd N)<|aR (vf N)<|aR (λQ=>aS 7<|sF (ck 9) (λQ=>B 9 15 λa=>B 9 8 λb=>kc b (.I 1) λc=>cw .Lt a c<|iI ((aR (λQ=>B 9 1 λa=>B 9 15 λb=>ej b (.I 1) λc=>dj a c λd=>ck 10 d<|nx Q) λQ=>aS 10 λa=>aS 3 λb=>cw .I a b<|iI (aS 4 λa=>o7 a λx=>aS 8 λb=>aS 10 λc=>cY [b,c] λd=>hH a [d]<|nx Q) Q) Q) Q) Q) λQ=>aS 4 λa=>Q<|.r a
def iC:=lH (λK=>aS 15 λa=>B 12 8 λb=>cw .Lt a b K) (aR (λQ=>B 12 1 λa=>aS 15 λb=>dj a b λc=>NC 0 29 22 λd=>cw .I c d<|iI (bE .brk Q) Q)<|aR (λQ=>B 12 1 λa=>aS 15 λb=>dj a b λc=>aS 3 λd=>cw .N c d<|iI (bE .brk Q) Q) λQ=>aS 15 λa=>ej a (.I 1) λb=>ck 15 b<|nx Q) λQ=>aS 11 λa=>o7 a λx=>aS 14 λb=>aS 7 λc=>cY [b,c] λd=>hH a [d]<|nx Q
def iD:W F:=λQ=>aS 0 λa=>fU a<|mI (sd N<|kS "lr0_goto") λh b=>aS 1 λc=>aS 14 λd=>dj c d λe=>aS 7 λf=>fV h b [a,e,f] λg=>ck 16 g<|nx Q
def iF:W F:=λQ=>B 0 35 λa=>Ei a λx=>aS 16 λb=>N 318 [b] λc=>qr (.I 1) λd=>Dj a [c,d] λe=>ck 14 e<|nx Q
def iG:=aR (λQ=>aS 13 λa=>ej a (.I 1) λb=>ck 13 b<|nx Q)<|aR (λQ=>B 12 1 λa=>aS 13 λb=>dj a b λc=>ck 7 c<|nx Q)<|aR (λQ=>aS 14 λa=>aS 7 λb=>cY [a,b] λc=>aS 6 λd=>cw .I c d<|iI (aR (λQ=>aS 13 λa=>ej a (.I 1) λb=>ck 15 b<|nx Q) iC Q) Q)<|aR (iD N)<|iF N
def iH:=lH (λK=>aS 13 λa=>B 12 8 λb=>kc b (.I 1) λc=>cw .Lt a c K) (iG N)<|bE .n
def iJ:=aR (λQ=>B 17 0 λa=>B 12 0 λb=>cw .o a b<|iI (bE .cont Q) Q)<|aR (λQ=>B 17 8 λa=>B 12 8 λb=>cw .o a b<|iI (bE .cont Q) Q)<|aR (λQ=>ck 18 (.I 0)<|nx Q)<|lH (λK=>aS 18 λa=>B 17 15 λb=>cw .Lt a b K) (aR (λQ=>B 17 1 λa=>aS 18 λb=>dj a b λc=>B 12 1 λd=>aS 18 λe=>ej e (.I 1) λf=>dj d f λg=>cw .o c g<|iI (bE .brk Q) Q) λQ=>aS 18 λa=>ej a (.I 1) λb=>ck 18 b<|nx Q) λQ=>aS 10 λa=>o7 a λx=>aS 14 λb=>aS 17 λc=>cY [b,c] λd=>hH a [d]<|nx Q
def iK:=aR (λQ=>B 12 0 λa=>aS 9 λb=>cw .o a b<|iI (bE .cont Q) Q)<|aR (λQ=>B 12 15 λa=>ck 13 a<|nx Q)<|aR (λQ=>aS 8 λa=>ck 14 a<|nx Q)<|aR (iH N) λQ=>aS 1 λa=>aS 14 λb=>dj a b<|sF (ck 17) iJ Q
def iL:W F:=λQ=>aS 1 λa=>aS 8 λb=>dj a b<|sF (ck 12) (iK N) Q
def iM:W F:=λQ=>aS 5 λa=>aS 18 λb=>dj a b λc=>o7 c λx=>aS 8 λd=>aS 9 λe=>cY [d,e] λf=>hH c [f]<|nx Q
def iO:=aR (λQ=>aS 18 λa=>aS 5 λb=>cw .N a b<|iI (bj [] λa=>aS 5 λb=>aS 18 λc=>cM b c a<|nx Q) Q) iM
def iP:W F:=λQ=>aS 11<|sF (ck 18) iO Q
def iQ:=aR (λQ=>bj [] λa=>ck 10 a<|nx Q)<|aR (λQ=>bj [] λa=>ck 11 a<|nx Q)<|aR (iL N)<|aR iP λQ=>aS 10 λa=>aS 4 λb=>aS 8 λc=>aS 9 λd=>cY [c,d] λe=>cM b e a<|nx Q
def mn:W F:=λQ=>aS 2<|sF (g7 [λv=>ck 8 v,λv=>ck 9 v]) (iQ N) Q
def jr:=aR (λQ=>iB (.d []) λa=>ck 4 a<|nx Q)<|aR (λQ=>iB (.d []) λa=>ck 5 a<|nx Q)<|aR (λQ=>iB (.d []) λa=>ck 6 a<|nx Q)<|aR (λQ=>aS 2<|sF (ck 7) (λQ=>aS 6 λa=>aS 7 λb=>cM a b (.I 1)<|nx Q) Q)<|aR (mn N) λQ=>aS 4 λa=>aS 5 λb=>cY [a,b] λc=>Q<|.r c
def oU:W F:=λQ=>aS 2 λa=>Ei a λx=>aS 3 λb=>bj [] λc=>Dj a [b,c] λd=>ck 7 d<|nx Q
def kf:W F:=λQ=>aS 7<|sF (ck 8) (λQ=>aS 8 λa=>B 6 16 λb=>aS 5 λc=>dj b c λd=>cw .N a d<|iI (B 6 16 λa=>aS 5 λb=>dj a b λc=>o7 c λx=>aS 8 λd=>hH c [d]<|nx Q) Q) Q
def oV:=aR (λQ=>aS 5 λa=>B 6 16 λb=>cw .N a b<|iI (bj [] λa=>B 6 16 λb=>aS 5 λc=>cM b c a<|nx Q) Q)<|aR oU kf
def qu(N:CF):W F:=λQ=>aS 1 λa=>Cj a λb=>su (g7 [λv=>ck 3 v,λv=>ck 4 v]) (λQ=>aS 4<|sF (g7 [λv=>ck 5 v,λv=>ck 6 v]) oV Q) (bE .n) b Q
def qN:W F:=λQ=>aS 0 λa=>fU a<|mI (sd N<|kS "compute_nullable_nonterminals") λd b=>fV d b [a] λc=>ck 2 c<|nx Q
def qO:W F:=λQ=>aS 0 λa=>fU a<|mI (sd N<|kS "find_nonterminal_transitions") λe b=>aS 1 λc=>fV e b [a,c] λd=>ck 3 d<|nx Q
def qP:W F:=λQ=>aS 0 λa=>fU a<|mI (sd N<|kS "compute_read_sets") λg b=>aS 1 λc=>aS 3 λd=>aS 2 λe=>fV g b [a,c,d,e] λf=>ck 4 f<|nx Q
def qQ:W F:=λQ=>aS 0 λa=>fU a<|mI (sd N<|kS "compute_lookback_includes") λg b=>aS 1 λc=>aS 3 λd=>aS 2 λe=>fV g b [a,c,d,e] λf=>g7 [λv=>ck 5 v,λv=>ck 6 v] f<|nx Q
def qR:W F:=λQ=>aS 0 λa=>fU a<|mI (sd N<|kS "compute_follow_sets") λg b=>aS 3 λc=>aS 4 λd=>aS 6 λe=>fV g b [a,c,d,e] λf=>ck 7 f<|nx Q
def qS:W F:=λQ=>aS 0 λa=>fU a<|mI (sd N<|kS "add_lookaheads") λe b=>aS 5 λc=>aS 7 λd=>fV e b [a,c,d]<|nx Q
def lO:=aR (qN N)<|aR (qO N)<|aR (qP N)<|aR (qQ N)<|aR (qR N)<|qS N
def va:W F:=λQ=>aS 0 λa=>fU a<|mI (sd N<|kS "lr0_items") λd b=>fV d b [a] λc=>ck 6 c<|nx Q
def vb:W F:=λQ=>aS 0 λa=>fU a<|mI (sd N<|kS "add_lalr_lookaheads") λd b=>aS 6 λc=>fV d b [a,c]<|nx Q
def vc:W F:=λQ=>B 0 30 λa=>cw .E a (.s [76,65,76,82])<|iI (vb N Q) Q
def oW:W F:=λQ=>ck 7 (.I 0)<|nx Q
def ni:W F:=λQ=>aS 1 λa=>B 12 2 λb=>dj a b λc=>wy 100 13 (.I 0) c λd=>sO d (.I 1) λe=>AR 13 c e<|nx Q
def nj:=aR (λQ=>aS 9 λa=>Ei a λx=>aS 14 λb=>Dj a [b] λc=>ck 15 c<|nx Q) λQ=>aS 15 λa=>cw .IsNot a .N<|iE (aS 15 λa=>cw .Gt a (.I 0)<|iE (aR (λQ=>aS 2 λa=>Ei a λx=>aS 14 λb=>cY [.s [114,105,103,104,116],.I 0] λc=>Dj a [b,c] λd=>g7 [λv=>ck 16 v,λv=>ck 17 v] d<|nx Q) (aR (λQ=>aS 1 λa=>B 12 2 λb=>dj a b λc=>qn 7 c λd=>g7 [λv=>ck 18 v,λv=>ck 19 v] d<|nx Q) λQ=>(λ(j:ai)=>aS 17 λa=>aS 19 λb=>cw .Lt a b<|iE (j Z)<|(λ(i:ai)=>aS 17 λd=>aS 19 λe=>cw .E d e<|iE (aS 18 λg=>cw .E g (.s [108,101,102,116])<|iE (i Z)<|i D)<|i D)<|iE (j Z)<|j D)<|iE (aR (λQ=>B 12 2 λa=>qr a λb=>aS 9 λc=>aS 14 λd=>cM c d b<|nx Q) (aR (λQ=>aS 12 λa=>aS 10 λb=>aS 14 λc=>cM b c a<|nx Q)<|aR (λQ=>(λ(h:ai)=>aS 17 λa=>fX a λb σ=>cond (!b) ((aS 19 λc=>fX c λd σ=>cond (!d) (h Z σ)<|h D σ) σ)<|h D σ)<|iI (B 0 40 λa=>o7 a λx=>aS 7 λb=>aS 14 λc=>cY [b,c,(.s [114,101,100,117,99,101])] λd=>hH a [d]<|nx Q) Q) λQ=>aS 1 λa=>B 12 2 λb=>dj a b λc=>wy 100 13 (.I 0) c λd=>sO d (.I 1) λm=>AR 13 c m<|nx Q) Q)<|(λ(f:ai)=>aS 17 λa=>aS 19 λb=>cw .E a b<|iE (aS 18 λd=>cw .E d (.s [110,111,110,97,115,115,111,99])<|iE (f Z)<|f D)<|f D)<|iE (aS 9 λa=>aS 14 λb=>cM a b .N<|nx Q)<|aS 19 λa=>fX a λb σ=>cond (!b) ((B 0 40 λa=>o7 a λx=>aS 7 λb=>aS 14 λc=>cY [b,c,(.s [115,104,105,102,116])] λd=>hH a [d]<|nx Q) σ)<|Q .n σ) Q)<|aS 15 λa=>cw .Lt a (.I 0)<|iE (aR (λQ=>aS 1 λa=>aS 15 λb=>qr b λc=>dj a c λd=>ck 20 d<|nx Q) (aR (λQ=>aS 1 λa=>B 12 2 λb=>dj a b λc=>ck 21 c<|nx Q)<|aR (λQ=>B 20 6 λa=>B 21 6 λb=>cw .Gt a b<|iE (aR (λQ=>B 12 2 λa=>qr a λb=>aS 9 λc=>aS 14 λd=>cM c d b<|nx Q) (aR (λQ=>aS 12 λa=>aS 10 λb=>aS 14 λc=>cM b c a<|nx Q)<|aR (λQ x=>False)<|aR (λQ=>aS 1 λa=>B 12 2 λb=>dj a b λc=>wy 100 13 (.I 0) c λd=>sO d (.I 1) λl=>AR 13 c l<|nx Q) λQ=>aS 1 λa=>B 20 2 λb=>dj a b λc=>wy 100 13 (.I 0) c λd=>kc d (.I 1) λk=>AR 13 c k<|nx Q) Q) (λx=>False)) λQ=>B 0 41 λa=>o7 a λx=>aS 7 λb=>aS 22 λc=>aS 23 λd=>cY [b,c,d] λe=>hH a [e]<|nx Q) Q)<|jD Q)<|aR (λQ=>B 12 2 λa=>qr a λb=>aS 9 λc=>aS 14 λd=>cM c d b<|nx Q) (aR (λQ=>aS 12 λa=>aS 10 λb=>aS 14 λc=>cM b c a<|nx Q) ni) Q
def nq:W F:=λQ=>aS 13<|sF (ck 14) nj Q
def nr:W F:=λQ=>B 12 0 λa=>cw .E a (.s [83,39])<|iE ((aR (λQ=>aS 9 λa=>cM a (.s [36,101,110,100]) (.I 0)<|nx Q) λQ=>aS 12 λa=>aS 10 λb=>cM b (.s [36,101,110,100]) a<|nx Q) Q)<|aR (λQ=>B 0 30 λa=>cw .E a (.s [76,65,76,82])<|iE (B 12 16 λa=>aS 7 λb=>dj a b λc=>ck 13 c<|nx Q)<|NC 0 29 25 λa=>B 12 0 λb=>dj a b λc=>ck 13 c<|nx Q) nq Q
def nu:W F:=λQ=>B 12 15 λa=>ck 24 a<|nx Q
def nC:W F:=λQ=>B 12 1 λa=>aS 24 λb=>ej b (.I 1) λc=>dj a c λd=>ck 14 d<|nx Q
def uf:W F:=λQ=>aS 0 λa=>fU a<|mI (sd N<|kS "lr0_goto") λf b=>aS 8 λc=>aS 14 λd=>fV f b [a,c,d] λe=>ck 25 e<|nx Q
def ug:W F:=λQ=>B 0 35 λa=>Ei a λx=>aS 25 λb=>N 318 [b] λc=>qr (.I 1) λd=>Dj a [c,d] λe=>ck 26 e<|nx Q
def nD:W F:=λQ=>aS 14 λa=>NC 0 29 22 λb=>cw .I a b<|iI (aR (uf N) (aR (ug N) λQ=>aS 26 λa=>cw .GtE a (.I 0)<|iI ((aR (λQ=>aS 9 λa=>Ei a λx=>aS 14 λb=>Dj a [b] λc=>ck 15 c<|nx Q) λQ=>aS 15 λa=>cw .IsNot a .N<|iE (aS 15 λa=>cw .Gt a (.I 0)<|iE (aS 15 λa=>aS 26 λb=>cw .o a b<|iI (jD Q) Q)<|aS 15 λa=>cw .Lt a (.I 0)<|iE (aR (λQ=>aS 2 λa=>Ei a λx=>aS 14 λb=>cY [.s [114,105,103,104,116],.I 0] λc=>Dj a [b,c] λd=>g7 [λv=>ck 16 v,λv=>ck 17 v] d<|nx Q) (aR (λQ=>aS 1 λa=>aS 10 λb=>aS 14 λc=>dj b c λd=>qn 2 d λe=>dj a e λf=>qn 7 f λg=>g7 [λv=>ck 18 v,λv=>ck 19 v] g<|nx Q) λQ=>(λ(k:ai)=>aS 17 λa=>aS 19 λb=>cw .Gt a b<|iE (k Z)<|(λ(j:ai)=>aS 17 λd=>aS 19 λe=>cw .E d e<|iE (aS 18 λg=>cw .E g (.s [114,105,103,104,116])<|iE (j Z)<|j D)<|j D)<|iE (k Z)<|k D)<|iE (aR (λQ=>aS 1 λa=>aS 10 λb=>aS 14 λc=>dj b c λd=>qn 2 d λe=>dj a e λf=>wy 100 13 (.I 0) f λg=>kc g (.I 1) λl=>AR 13 f l<|nx Q) (aR (λQ=>aS 26 λa=>aS 9 λb=>aS 14 λc=>cM b c a<|nx Q)<|aR (λQ=>aS 12 λa=>aS 10 λb=>aS 14 λc=>cM b c a<|nx Q) λQ=>aS 19 λa=>fX a λb σ=>cond (!b) ((B 0 40 λa=>o7 a λx=>aS 7 λb=>aS 14 λc=>cY [b,c,(.s [115,104,105,102,116])] λd=>hH a [d]<|nx Q) σ)<|Q .n σ) Q)<|(λ(i:ai)=>aS 17 λa=>aS 19 λb=>cw .E a b<|iE (aS 18 λd=>cw .E d (.s [110,111,110,97,115,115,111,99])<|iE (i Z)<|i D)<|i D)<|iE (aS 9 λa=>aS 14 λb=>cM a b .N<|nx Q)<|(λ(h:ai)=>aS 17 λa=>fX a λb σ=>cond (!b) ((aS 19 λc=>fX c λd σ=>cond (!d) (h Z σ)<|h D σ) σ)<|h D σ)<|iI (B 0 40 λa=>o7 a λx=>aS 7 λb=>aS 14 λc=>cY [b,c,(.s [114,101,100,117,99,101])] λd=>hH a [d]<|nx Q) Q) Q)<|jD Q)<|(aR (λQ=>aS 26 λa=>aS 9 λb=>aS 14 λc=>cM b c a<|nx Q) λQ=>aS 12 λa=>aS 10 λb=>aS 14 λc=>cM b c a<|nx Q) Q) Q) Q) Q) Q
def uh:W F:=λQ=>B 12 8 λa=>B 12 15 λb=>ej b (.I 1) λc=>cw .E a c<|iE (nr Q)<|aR nu (aR nC<|nD N) Q
def nF:W F:=λQ=>aS 8<|sF (ck 12) (uh N) Q
def nG:W F:=λQ=>aS 8<|sF (ck 28) (λQ=>B 28 9<|sF (ck 29) (λQ=>aS 29 λa=>NC 0 29 23 λb=>cw .I a b<|iI (aS 27 λa=>aS 29 λb=>cM a b .N<|nx Q) Q) Q) Q
def ui:W F:=λQ=>aS 0 λa=>fU a<|mI (sd N<|kS "lr0_goto") λf b=>aS 8 λc=>aS 30 λd=>fV f b [a,c,d] λe=>ck 25 e<|nx Q
def uj:W F:=λQ=>B 0 35 λa=>Ei a λx=>aS 25 λb=>N 318 [b] λc=>qr (.I 1) λd=>Dj a [c,d] λe=>ck 26 e<|nx Q
def nH:W F:=λQ=>aS 26 λa=>cw .GtE a (.I 0)<|iI (aS 26 λa=>aS 11 λb=>aS 30 λc=>cM b c a<|nx Q) Q
def nI:=aR (ui N)<|aR (uj N) nH
def nJ:W F:=λQ=>aS 27<|sF (ck 30) (nI N) Q
def nK:=aR (λQ=>iB (.d []) λa=>ck 9 a<|nx Q)<|aR (λQ=>iB (.d []) λa=>ck 10 a<|nx Q)<|aR (λQ=>iB (.d []) λa=>ck 11 a<|nx Q)<|aR (nF N)<|aR (λQ=>iB (.d []) λa=>ck 27 a<|nx Q)<|aR nG<|aR (nJ N)<|aR (λQ=>aS 9 λa=>aS 4 λb=>aS 7 λc=>cM b c a<|nx Q)<|aR (λQ=>aS 10 λa=>aS 5 λb=>aS 7 λc=>cM b c a<|nx Q)<|aR (λQ=>aS 11 λa=>aS 3 λb=>aS 7 λc=>cM b c a<|nx Q) λQ=>aS 7 λa=>sO a (.I 1) λd=>ck 7 d<|nx Q
def jU:W F:=λQ=>aS 6<|sF (ck 8) (nK N) Q
def qy:=aR (λQ=>NC 0 29 19 λa=>ck 1 a<|nx Q)<|aR (λQ=>NC 0 29 26 λa=>ck 2 a<|nx Q)<|aR (λQ=>B 0 32 λa=>ck 3 a<|nx Q)<|aR (λQ=>B 0 31 λa=>ck 4 a<|nx Q)<|aR (λQ=>iB (.d []) λa=>ck 5 a<|nx Q)<|aR (va N)<|aR (vc N)<|aR oW<|jU N
def CV(N:CF):W F:=λQ=>(λ(b:ab)=>aS 0 λa=>fX a<|iE (aS 0 λc=>o7 c λx=>DN c [.I 0] b)<|b<|.I 0) λd=>Q<|.r d
def Ga:W F:=λQ=>aS 0 λa=>N 438 [a] λb=>tx b (.I 4) λc=>ck 2 c<|nx Q
def Gb:W F:=λQ=>aS 0 λa=>N 438 [a] λb=>aS 1 λc=>nV N c λd=>ej d (.I 1) λe=>tx b e λf=>ck 3 f<|nx Q
def Gd:W F:=λQ=>aS 0 λa=>N 438 [a] λb=>tx b (.I 3) λc=>dj (.s [97,98,99]) c λd=>ck 4 d<|nx Q
def CW:=aR (Ga N)<|aR (Gb N)<|aR (Gd N)<|aR (λQ=>aS 2 λa=>cw .E a (.I 1)<|iI (aS 1 λa=>aS 3 λb=>i4 a .N b λc=>aS 4 λd=>ej c d λe=>aS 1 λf=>aS 3 λg=>i4 f g .N λh=>ej e h λi=>Q<|.r i) Q)<|aR (λQ=>aS 2 λa=>cw .E a (.I 2)<|iI (aS 1 λa=>aS 3 λb=>i4 a .N b λc=>aS 1 λd=>aS 3 λe=>ej e (.I 1) λf=>i4 d f .N λg=>ej c g λh=>Q<|.r h) Q)<|aR (λQ=>aS 2 λa=>cw .E a (.I 3)<|iI (aS 1 λa=>aS 3 λb=>i4 a .N b λc=>aS 4 λd=>ej c d λe=>aS 1 λf=>aS 3 λg=>ej g (.I 1) λh=>i4 f h .N λi=>ej e i λj=>Q<|.r j) Q) λQ=>aS 1 λa=>Q<|.r a
def Am:W F:=λQ=>B 0 31 λa=>aS 3 λb=>qr (.I 1) λc=>dj b c λd=>dj a d λe=>Ei e λx=>(λ(i:ab)=>aS 5 λf=>aS 2 λg=>nV N g λh=>cw .Lt f h<|iE (aS 2 λj=>aS 5 λk=>dj j k i)<|i<|.s [36,101,110,100]) λl=>Dj e [l] λm=>ck 7 m<|nx Q
def Ir:W F:=λQ=>aS 3 λa=>o7 a λx=>aS 7 λb=>hH a [b]<|nx Q
def Iu:W F:=λQ=>aS 4 λa=>o7 a λx=>aS 2 λb=>aS 5 λc=>dj b c λd=>hH a [d]<|nx Q
def F7:W F:=λQ=>aS 5 λa=>sO a (.I 1) λb=>ck 5 b<|nx Q
def yj:W F:=λQ=>aS 1 λa=>aS 7 λb=>qr b λc=>kc c (.I 1) λd=>dj a d λe=>g7 [λv=>ck 8 v,λv=>ck 9 v] e<|nx Q
def yl:W F:=λQ=>aS 4 λa=>nV N a λb=>aS 9 λc=>nV N c λd=>kc b d λe=>ck 10 e<|nx Q
def ym:W F:=λQ=>aS 4 λa=>aS 10 λb=>i4 a .N b λc=>aS 7 λd=>qr d λe=>aS 4 λf=>aS 10 λg=>i4 f g .N λh=>cY [e,h] λi=>bj [i] λj=>ej c j λk=>ck 4 k<|nx Q
def yn:W F:=λQ=>aS 3 λa=>aS 10 λb=>ej b (.I 1) λc=>i4 a .N c λd=>ck 3 d<|nx Q
def yo:W F:=λQ=>aS 3 λa=>o7 a λx=>B 0 32 λb=>aS 3 λc=>qr (.I 1) λd=>dj c d λe=>dj b e λf=>aS 8 λg=>dj f g λh=>hH a [h]<|nx Q
def F8:W F:=λQ=>aS 7 λa=>cw .Gt a (.I 0)<|iE (aR Ir (aR Iu F7) Q)<|aR yj (aR (yl N)<|aR ym<|aR yn yo) Q
def tF:=aR (Am N)<|aR (λQ=>aS 7 λa=>cw .Is a .N<|iI (aS 5 λa=>cY [a,.N] λb=>Q<|.r b) Q)<|aR (λQ=>aS 7 λa=>cw .E a (.I 0)<|iI (aS 5 λa=>aS 4 λb=>cY [a,b] λc=>Q<|.r c) Q)<|F8 N
def F9:W F:=λQ=>C4 (.I 200) λa=>su (ck 6) (tF N) (bE .n) a Q
def yp:W F:=λQ=>Q<|.r .N
def EJ:=aR (λQ=>bj [.I 0] λa=>ck 3 a<|nx Q)<|aR (λQ=>bj [] λa=>ck 4 a<|nx Q)<|aR (λQ=>ck 5 (.I 0)<|nx Q)<|aR (F9 N) yp
def yh:W F:=λQ=>aS 3 λa=>sO a (.I 1) λb=>ck 3 b<|nx Q
def F6:=lH (λK=>(λ(d:ai)=>aS 3 λa=>aS 0 λb=>nV N b λc=>cw .Lt a c<|iE (aS 0 λe=>aS 3 λf=>dj e f λg=>aS 2 λh=>cw .E g h<|iE (d Z)<|d D)<|d D) K) yh<|bE .n
def tE:W F:=λQ=>aS 3 λa=>aS 1 λb=>kc a b λc=>Q<|.r c
def CN:=aR (λQ=>aS 1 λa=>ck 3 a<|nx Q)<|aR (F6 N) tE
def Gf:W F:=λQ=>aS 3 λa=>aS 4 λb=>N 459 [a,(.I 0),b] λc=>ck 11 c<|nx Q
def Gg:W F:=λQ=>aS 3 λa=>aS 11 λb=>aS 5 λc=>N 459 [a,b,c] λd=>ck 12 d<|nx Q
def Gh:W F:=λQ=>aS 3 λa=>aS 11 λb=>aS 12 λc=>ej b c λd=>aS 6 λe=>N 459 [a,d,e] λf=>ck 14 f<|nx Q
def yq:W F:=λQ=>aS 11 λa=>aS 12 λb=>ej a b λc=>aS 14 λd=>aS 13 λe=>Oe [d,e] λf=>ej c f λg=>cY [g,.N] λh=>Q<|.r h
def DK:W F:=λQ=>(λ(c:ai)=>aS 14 λa=>aS 13 λb=>cw .o a b<|iE (c Z)<|aS 11 λd=>aS 12 λe=>ej d e λf=>aS 14 λg=>ej f g λh=>aS 3 λi=>nV N i λj=>cw .Lt h j<|iE (c Z)<|c D)<|iI (yq Q) Q
def rM:W F:=λQ=>aS 1 λa=>o7 a λx=>aS 0 λb=>dj b (.I 3) λc=>q9 a [c] λd=>ej d (.I 1) λe=>bj [] λf=>cY [e,f] λg=>ck 15 g<|nx Q
def wM:W F:=λQ=>aS 1 λa=>o7 a λx=>aS 0 λb=>dj b (.I 2) λc=>q9 a [c] λd=>ej d (.I 1) λe=>aS 5 λf=>bj [f] λg=>aS 8 λh=>jq g h λi=>aS 15 λj=>bj [j] λk=>ej i k λl=>aS 6 λm=>bj [m] λn=>aS 10 λo=>jq n o λp=>ej l p λq=>cY [e,q] λr=>ck 15 r<|nx Q
def rN:W F:=λQ=>aS 12 λa=>aS 8 λb=>B7 a b λc=>C4 c λd=>su (ck 16) wM (bE .n) d Q
def rO:W F:=λQ=>aS 1 λa=>o7 a λx=>aS 0 λb=>dj b (.I 1) λc=>q9 a [c] λd=>ej d (.I 1) λe=>aS 15 λf=>bj [f] λg=>cY [e,g] λh=>ck 15 h<|nx Q
def wO:W F:=λQ=>aS 1 λa=>o7 a λx=>aS 0 λb=>dj b (.I 0) λc=>q9 a [c] λd=>ej d (.I 1) λe=>aS 4 λf=>bj [f] λg=>aS 7 λh=>jq g h λi=>aS 15 λj=>bj [j] λk=>ej i k λl=>aS 6 λm=>bj [m] λn=>aS 9 λo=>jq n o λp=>ej l p λq=>cY [e,q] λr=>ck 15 r<|nx Q
def rQ:W F:=λQ=>aS 11 λa=>aS 7 λb=>B7 a b λc=>C4 c λd=>su (ck 16) wO (bE .n) d Q
def rT:W F:=λQ=>aS 3 λa=>nV N a λb=>aS 15 λc=>bj [c] λd=>cY [b,d] λe=>Q<|.r e
def CX:=aR (λQ=>aS 2 λa=>g7 [λv=>ck 4 v,λv=>ck 5 v,λv=>ck 6 v,λv=>ck 7 v,λv=>ck 8 v,λv=>ck 9 v,λv=>ck 10 v] a<|nx Q)<|aR (Gf N)<|aR (λQ=>aS 11 λa=>aS 7 λb=>tx a b λc=>fX c<|iI (aS 11 λa=>cY [a,.N] λb=>Q<|.r b) Q)<|aR (Gg N)<|aR (λQ=>aS 12 λa=>aS 8 λb=>tx a b λc=>fX c<|iI (aS 11 λa=>aS 12 λb=>ej a b λc=>cY [c,.N] λd=>Q<|.r d) Q)<|aR (λQ=>aS 11 λa=>aS 7 λb=>B7 a b λc=>aS 9 λd=>jq c d λe=>aS 12 λf=>aS 8 λg=>B7 f g λh=>aS 10 λi=>jq h i λj=>ej e j λk=>ck 13 k<|nx Q)<|aR (Gh N)<|aR (DK N)<|aR rM<|aR rN<|aR rO<|aR rQ<|rT N
end
section
variable(N:CF)(clo:ae)
def Ey:W F:=λQ=>(bj [(.s [97]),(.s [98]),(.s [99])]) λa=>ck 1 a<|nx Q
def Ez:W F:=λQ=>aS 1 λa=>o7 a λx=>aS 0 λb=>N 438 [b] λc=>tx c (.I 3) λd=>DN a [d] λe=>ck 2 e<|nx Q
def EA:W F:=λQ=>aS 1 λa=>o7 a λx=>aS 0 λb=>N 438 [b] λc=>tx c (.I 2) λd=>DN a [d] λe=>ck 3 e<|nx Q
def EB:W F:=λQ=>aS 1 λa=>dj a (.I 0) λb=>ck 4 b<|nx Q
def EC:W F:=λQ=>aS 0 λa=>N 438 [a] λb=>tx b (.I 3) λc=>ej (.I 1) c λd=>ck 5 d<|nx Q
def ED:W F:=λQ=>aS 0 λa=>N 438 [a] λb=>tx b (.I 3) λc=>ej (.I 1) c λd=>ck 6 d<|nx Q
def EE:W F:=λQ=>aS 0 λa=>N 438 [a] λb=>ej (.I 1) b λc=>tx c (.I 3) λd=>ck 7 d<|nx Q
def EF:W F:=λQ=>aS 0 λa=>N 438 [a] λb=>ej (.I 1) b λc=>tx c (.I 3) λd=>ck 8 d<|nx Q
def EG:W F:=λQ=>aS 2 λa=>bj [a] λb=>aS 5 λc=>jq b c λd=>(bj [(.s [83])]) λe=>ej d e λf=>aS 4 λg=>bj [g] λh=>aS 7 λi=>jq h i λj=>ej f j λk=>(cY [(.s [83]),k]) λl=>(bj [(.s [84])]) λm=>(cY [(.s [83]),m]) λn=>aS 3 λo=>bj [o] λp=>aS 6 λq=>jq p q λr=>(bj [(.s [84])]) λs=>ej r s λt=>aS 4 λu=>bj [u] λv=>aS 8 λw=>jq v w λy=>ej t y λz=>(cY [(.s [84]),z]) λE=>bj [] λC=>(cY [(.s [84]),C]) λA=>bj [l,n,E,A] λx=>ck 9 x<|nx Q
def EH:W F:=λQ=>aS 9 λa=>Eo [a] λb=>ck 10 b<|nx Q
def CO:W F:=λQ=>bj [] λa=>ck 11 a<|nx Q
def CP:W F:=λQ=>aS 11 λa=>o7 a λx=>aS 10 λb=>o7 b λx=>aS 0 λc=>N 438 [c] λd=>aS 10 λe=>nV N e λf=>tx d f λg=>DN b [g] λh=>hH a [h]<|nx Q
def CQ:=lH (λK=>aS 10 λa=>fX a K) (CP N)<|bE .n
def CR:W F:=λQ=>(bj [(.s [76,65,76,82]),(.s [83,76,82])]) λa=>aS 0 λb=>N 438 [b] λc=>tx c (.I 2) λd=>dj a d λe=>ck 12 e<|nx Q
def CS:W F:=λQ=>aS 0 λa=>N 438 [a] λb=>ej (.I 2) b λc=>tx c (.I 6) λd=>ck 13 d<|nx Q
def CT:W F:=λQ=>aS 0 λa=>N 438 [a] λb=>ej (.I 2) b λc=>tx c (.I 6) λd=>ck 14 d<|nx Q
def CU:W F:=λQ=>aS 0 λa=>aS 2 λb=>aS 5 λc=>aS 13 λd=>jq c d λe=>jq b e λf=>aS 3 λg=>aS 6 λh=>aS 14 λi=>jq h i λj=>jq g j λk=>ej f k λl=>aS 4 λm=>aS 7 λn=>aS 13 λo=>jq n o λp=>aS 8 λq=>aS 14 λr=>jq q r λs=>ej p s λt=>jq m t λu=>ej l u λv=>N 445 [a,v] λw=>ck 15 w<|nx Q
def xk:W F:=λQ=>(bj [(.s [97]),(.s [98]),(.s [99])]) λa=>Ah 283 (N 172) [a] λb=>ck 16 b<|nx Q
def KJ:W F:=λQ=>aS 16 λa=>fU a<|mI (sd N<|kS "add_production") λf b=>aS 17 λc=>aS 18 λd=>Eo [d] λe=>fV f b [a,c,e]<|nx Q
def xl:W F:=λQ=>aS 11<|sF (g7 [λv=>(ck 17 v),λv=>(ck 18 v)]) (KJ N) Q
def xm:W F:=λQ=>aS 16 λa=>fU a<|mI (sd N<|kS "set_start") λc b=>fV c b [a,(.s [83])]<|nx Q
def zR:W F:=λQ=>(bj [(.s [36,101,110,100])]) λa=>(λ(g:ab)=>aS 7 λb=>fX b λc=>λσ=>cond c ((aS 4 λd=>bj [d] g) σ)<|(bj [] g) σ) λe=>ej a e λf=>ck 19 f<|nx Q
def vM:W F:=λQ=>(bj [(.s [36,101,110,100])]) λa=>(λ(k:ab)=>(λ(j:ai)=>aS 7 λb=>fX b λc=>λσ=>cond c (j Z σ)<|(aS 8 λd=>fX d λe=>λσ=>cond e (j Z σ)<|j D σ) σ) λf=>λσ=>cond f ((aS 4 λg=>bj [g] k) σ)<|(bj [] k) σ) λh=>ej a h λi=>ck 20 i<|nx Q
def EI(d:V)(g:It):W Unit:=D9 (ck 1) d g (λK=>aS 1 λa=>aS 2 λb=>aS 1 λc=>dj b c λe=>MM [e] λf=>BZ d a f λx=>K ())
def Oo:W F:=λQ=>Q<|.r<|.o D
def zT:W F:=λQ=>pK (λh=>aS 22 λa=>jz a h) (pE<|.d []) 2 [22] (λd i=>(EI d i)) λb=>pE (.d []) λc=>aS 19 λe=>aS 20 λf=>(vS c [((.s [83]),e),((.s [84]),f)]) λx=>cw .o b c λg=>λσ=>cond g ((Oo Q) σ)<|(Q .n) σ
def vN:W F:=λQ=>aS 16 λa=>aS 12 λb=>Ah 427 (N 333) [a,b] λc=>ck 21 c<|nx Q
def Oq:W F:=λQ=>Q<|.r<|.o D
def vO:W F:=λQ=>(λ(q:ai)=>B 21 40 λa=>fX a λb=>λσ=>cond b (q Z σ)<|(B 21 41 λc=>fX c λd=>λσ=>cond d (q Z σ)<|(B 21 32 λe=>nV N e λf=>aS 5 λg=>aS 7 λh=>ej g h λi=>aS 6 λj=>ej i j λk=>aS 8 λl=>ej k l λm=>ej m (.I 5) λn=>cw .o f n λo=>λσ=>cond o (q Z σ)<|q D σ) σ) σ) λp=>λσ=>cond p ((Oq Q) σ)<|(Q .n) σ
def vP:W F:=λQ=>aS 21 λa=>aS 11 λb=>aS 15 λc=>N 452 [a,b,c] λd=>aS 9 λe=>aS 11 λf=>aS 2 λg=>aS 3 λh=>aS 4 λi=>aS 5 λj=>aS 6 λk=>aS 7 λl=>aS 8 λm=>cY [g,h,i,j,k,l,m] λn=>aS 15 λo=>N 466 [e,f,n,o] λp=>cw .E d p λq=>Q<|.r<|.o q
def Bh:W F:=λQ=>aS 16 λa=>fU a<|mI (sd N<|kS "compute_follow") λd b=>fV d b [a,(.s [83])] λc=>λσ=>((aR zR<|aR vM<|aR zT<|aR (vN N)<|aR (vO N)<|vP N) Q) ⟨σ.l++[c],σ.h,σ.n⟩
def KN:W F:=(aR Ey<|aR (Ez N)<|aR (EA N)<|aR EB<|aR (EC N)<|aR (ED N)<|aR (EE N)<|aR (EF N)<|aR EG<|aR EH<|aR CO<|aR (CQ N)<|aR (CR N)<|aR (CS N)<|aR (CT N)<|aR (CU N)<|aR (xk N)<|aR (xl N)<|aR (xm N)<|Bh N)
theorem DJ{N:CF}(clo:ae):SD N clo=KN N:=by kernel_rfl
end
end eH
namespace eH.C
theorem OW{R:Prop}(h:(e&&(d&&c))=Z)(k:e=Z->d=Z->c=Z->R):R:=let b:=an h;let a:=an b.2;k b.1 a.1 a.2
theorem zb4{R:Prop}(h:(e&&(d&&(c&&b)))=Z)(k:e=Z->d=Z->c=Z->b=Z->R):R:=let a:=an h;OW a.2 (k a.1)
theorem zb5{R:Prop}(h:(f&&(e&&(d&&(c&&b))))=Z)(k:f=Z->e=Z->d=Z->c=Z->b=Z->R):R:=let a:=an h;zb4 a.2 (k a.1)
theorem zb6{R:Prop}(h:(g&&(f&&(e&&(d&&(c&&b)))))=Z)(k:g=Z->f=Z->e=Z->d=Z->c=Z->b=Z->R):R:=let a:=an h;zb5 a.2 (k a.1)
theorem zb7{R:Prop}(h:(i&&(g&&(f&&(e&&(d&&(c&&b))))))=Z)(k:i=Z->g=Z->f=Z->e=Z->d=Z->c=Z->b=Z->R):R:=let a:=an h;zb6 a.2 (k a.1)
theorem zb8{R:Prop}(h:(j&&(i&&(g&&(f&&(e&&(d&&(c&&b)))))))=Z)(k:j=Z->i=Z->g=Z->f=Z->e=Z->d=Z->c=Z->b=Z->R):R:=let a:=an h;zb7 a.2 (k a.1)
theorem zb9{R:Prop}(h:(l&&(j&&(i&&(g&&(f&&(e&&(d&&(c&&b))))))))=Z)(k:l=Z->j=Z->i=Z->g=Z->f=Z->e=Z->d=Z->c=Z->b=Z->R):R:=let a:=an h;zb8 a.2 (k a.1)
theorem abI{R:Prop}(h:(m&&(l&&(j&&(i&&(g&&(f&&(e&&(d&&(c&&b)))))))))=Z)(k:m=Z->l=Z->j=Z->i=Z->g=Z->f=Z->e=Z->d=Z->c=Z->b=Z->R):R:=let a:=an h;zb9 a.2 (k a.1)
theorem aep{R:Prop}(h:(n&&(m&&(l&&(j&&(i&&(g&&(f&&(e&&(d&&(c&&a))))))))))=Z)(k:n=Z->m=Z->l=Z->j=Z->i=Z->g=Z->f=Z->e=Z->d=Z->c=Z->a=Z->R):R:=let b:=an h;abI b.2 (k b.1)
theorem abJ{R:Prop}(h:(o&&(n&&(m&&(l&&(j&&(i&&(g&&(f&&(e&&(d&&(b&&a)))))))))))=Z)(k:o=Z->n=Z->m=Z->l=Z->j=Z->i=Z->g=Z->f=Z->e=Z->d=Z->b=Z->a=Z->R):R:=let c:=an h;aep c.2 (k c.1)
abbrev Hp:=Loc->Option O
inductive P9(I:St->Prop)(Q K:ah):Prop
 |mk (next:∀σ,I σ->K .n σ) (cont:∀σ,I σ->K .cont σ) (brk:∀σ,Q .n σ->K .brk σ) (ret:∀v σ,Q (.r v) σ->K (.r v) σ)
theorem xS{a:Type}{vs r:List a}{b:a}(h:vs.d i=b::r):b∈vs:=fm<|h▸List.Mem.head _
theorem BY{a:Type}{vs r:List a}(h:vs.d i=r):vs[i]?=r.h:=h▸fG.s
noncomputable def ys(i:Nat)(v:V):V:=.T (.I<|.o i)<|.T v .a
section
variable{β:Type}{vs:List β}{K:Option (V×It)->St->Prop}
theorem Be(h:σ.h L=M (.l<|vs.m e))(k:K ((vs.d i).h.m λb=>(e b,.L (L,i+1))) σ):RY (.L (L,i)) K σ:=rJ L _ U h (by show K ((vs.m e)[i]?.m _) σ;rw[aN,qk,<-fG];exact k)
theorem Zf(k:K ((vs.d i).h.m λb=>(e b,.r<|(vs.d<|i+1).m e)) σ):RY (.r<|(vs.d i).m e) K σ:=by
 rw[<-df]at k
 revert k
 rcases vs.d i with _|_<;>exact id
theorem Mr(h:∃c,σ.h a=M (.d c)/\c.m (·.1)=vs.m e)(f:m=vs.L)(k:K ((vs.d i).h.m λb=>(e b,.k (a,i+1,m))) σ):RY (.k (a,i,m)) K σ:=h.e λc h=>(mK a c U h.1 (qb (by refine Y f ?_;have:=congrArg kh h.2;rwa [aD,aD]at this)) (by
 have d:c[i]?.m (·.1)=(vs.d i).h.m e:=rR aN<|Y h.2<|Y aN<|rR fG U
 show K (c[i]?.m ((λv=>(v,It.k (a,i+1,m)))∘(·.1))) σ
 rw[<-qk,d,qk];exact k))
theorem RX(k:K ((vs.d i).h.m λb=>(ys i<|e b,.e (i+1,(vs.d<|i+1).m e))) σ):RY (.e (i,(vs.d i).m e)) K σ:=by
 rw[<-df]at k
 revert k
 rcases vs.d i with _|_<;>exact id
end
section
variable{bind:ak}{β:Type}
theorem Ma(k:Nat->It)(e:Nat->β->V)(vs:List β)(I:List β->St->Prop)
  (j:∀i r σ K,I r σ->vs.d i=r->i<=vs.L->K (r.h.m λb=>(e i b,k<|i+1)) σ->RY (k i) K σ)
  (p:∀σ,I [] σ->g Q σ) (o:∀i b r σ,vs.d i=b::r->I (b::r) σ->∀K,P9 (I r) Q K->bind (e i b) (λx=>body K) σ) (h:I vs σ):su bind body g (k 0) Q σ:=
 have m:∀r i σ,vs.d i=r->i<=vs.L->I r σ->zf bind body g (r.L+1) (k i) Q σ:=λr=>r.R (λi σ a l f=>j i _ σ _ f a l<|p σ f) λb r n i σ a l f=>
  have d:=rR df<|Y a<|Y mJ U
  have c:=(gL<|BY a)
  j i _ σ _ f a l (o i b r σ a f _ ⟨λσ h=>n _ σ d c h,λσ h=>n _ σ d c h,λσ h=>h,λv σ h=>h⟩)
 ⟨_,m vs 0 σ U (cO _) h⟩
variable(e:β->V)(vs:List β)(I:List β->St->Prop)
theorem Ef(j:∀r σ,I r σ->σ.h L=M (.l<|vs.m e))(g:∀σ,I [] σ->d Q σ)(f:∀b r σ,b∈vs->I (b::r) σ->∀K,P9 (I r) Q K->bind (e b) (λx=>body K) σ)(h:I vs σ):su bind body d (.L (L,0)) Q σ:=
 Ma (λi=>.L (L,i)) (λx=>e) vs I (λi r σ K c a x k=>Be (j r σ c)<|a▸k) g (λi b r σ a c=>f b r σ (xS a) c) h
theorem NB(o:∀r σ,I r σ->∃c,σ.h a=M (.d c)/\c.m (·.1)=vs.m e)(n:m=vs.L)(l:∀σ,I [] σ->g Q σ)(j:∀b r σ,b∈vs->I (b::r) σ->∀K,P9 (I r) Q K->bind (e b) (λx=>body K) σ)(h:I vs σ):su bind body g (.k (a,0,m)) Q σ:=
 Ma (λi=>.k (a,i,m)) (λx=>e) vs I (λi r σ K f d x k=>Mr (o r σ f) n<|d▸k) l (λi b r σ d f=>j b r σ (xS d) f) h
end
noncomputable def ob{c b:Type}(x:Option c)(f:c->Option b):Option b:=match x with
 |some a=>f a
 |none=>aI
theorem bc{G:Prop}(h:ob x f=M y)(k:∀a,x=M a->f a=M y->G):G:=by
 rcases x with _|a;(exact nS h);(exact k a U h)
theorem cW{d:Type}{a b:d}{y:d}{G:Prop}(h:(bif c then a else b)=y)(f:c=Z->a=y->G)(e:c=D->b=y->G):G:=by
 rcases c with _|_;(exact e U h);(exact f U h)
@[elab_as_elim] theorem ot {f:Type} {a b y:f} {p:Bool->Prop} (h:(bif c then a else b)=y) (e:c=Z->a=y->p Z) (d:c=D->b=y->p D):p c:=by rcases c with _|_;(exact d U h);(exact e U h)
noncomputable def mQ{c:Type}(b:Bool)(a:c):Option c:=bif b then M a else aI
@[elab_as_elim] theorem Yq {p:c->Prop} (h:mQ b a=M y) (k:b=Z->p a):p y:=by rcases b with _|_;(exact nS h);(exact rS h<|k U)
theorem cj(h:mQ b a=M y):b=Z/\a=y:=by
 rcases b with _|_;(exact nS h);(exact⟨U,sJ h⟩)
inductive Nx{α γ:Type}(ls:α->γ->List V)(P:α->Hp->Nat->Prop)(K:ah)(a:α):Prop
 |mk (next:∀g H n,P a H n->K .n ⟨ls a g,H,n⟩) (cont:∀g H n,P a H n->K .cont ⟨ls a g,H,n⟩)
def bA{c d:Type}(f:c->d->Option c)(l:List d):c->Option c:=l.R M λb _ e a=>ob (f a b) e
def Af{c d:Type}(f:c->d->Option (c×Bool))(l:List d):c->Option (c×Bool):=l.R (λa=>M (a,D)) λb _ e a=>ob (f a b) λp=>bif p.2 then M p else e p.1
theorem vw{G:Prop}(h:bA f (b::r) a=M y)(k:∀c,f a b=M c->bA f r c=M y->G):G:=bc (f:=bA f r) h k
section
variable{β:Type}{bind:ak}(e:Nat->β->V)(vs:List β)(it:Nat->It)
 (ls:α->γ->List V) (P:α->Hp->Nat->Prop)
def Goes:Prop:=∀i a g H n K,P a H n->K ((vs.d i).h.m λb=>(e i b,it<|i+1)) ⟨ls a g,H,n⟩->RY (it i) K ⟨ls a g,H,n⟩
theorem QZ(f:α->β->Option (α×Bool))(J:Af f vs j=M (c,z))(s:Goes e vs it ls P)
  (C:∀a g b u z i H n K,vs[i]?=M b->f a b=M (u,z)->P a H n->(z=D->Nx ls P K u)->(z=Z->∀g H n,P u H n->K .brk ⟨ls u g,H,n⟩)->bind (e i b) (λx=>body K) ⟨ls a g,H,n⟩)
  (I:∀g H n,P c H n->z=D->q Q ⟨ls c g,H,n⟩) (E:∀g H n,P c H n->z=Z->Q .n ⟨ls c g,H,n⟩) (h:P j l k):su bind body q (it 0) Q ⟨ls j g₀,l,k⟩:=by
 have v:∀r i a g H n,vs.d i=r->Af f r a=M (c,z)->P a H n->zf bind body q (r.L+1) (it i) Q ⟨ls a g,H,n⟩:=by
  intro r
  induction r with
  |nil=>exact λi a g H n o m d=>s i a g H n _ d (by refine Y o ?_;cases m;exact I g H n d U)
  |cons b r A=>
   intro i a g H n o m d
   refine s i a g H n _ d<|Y o ?_
   have w:vs[i]?=M b:=by rw[BY o];rfl
   refine bc m λp t hz=>cW hz (λy hz=> ?_) λy hz=> ?_
   .revert t y;refine Y (sJ hz) ?_;exact λt y=>C a g b c z i H n _ w t d (λx=>bT<|y.s.t x) λ_ g H n d=>E g H n d y
   .exact C a g b p.1 p.2 i H n _ w t d (λx=>⟨λg H n d=>A _ p.1 g H n (rR df<|Y o<|Y mJ U) hz d,λg H n d=>A _ p.1 g H n (rR df<|Y o<|Y mJ U) hz d⟩) λx=>bF<|y.s.t x
 exact⟨_,v vs 0 j g₀ l k U J h⟩
theorem ei(f:α->β->Option α)(C:bA f vs j=M c)(q:Goes e vs it ls P)
  (A:∀a g b k i H n K,vs[i]?=M b->f a b=M k->P a H n->Nx ls P K k->bind (e i b) (λx=>body K) ⟨ls a g,H,n⟩)
  (y:∀g H n,P c H n->p Q ⟨ls c g,H,n⟩) (h:P j m l):su bind body p (it 0) Q ⟨ls j g₀,m,l⟩:=by
 have w:∀r a,bA f r a=M c->Af (λa b=>(f a b).m λk=>(k,D)) r a=M (c,D):=λr=>r.R (λa h=>rS h U) λb r v a h=>vw h λk d h=>by
  show ob ((f a b).m _) _=_
  rw[d];exact v k h
 refine QZ e vs it ls P _ (w vs j C) q (λa g b k z i H n K u h o t x=> ?_) (λg H n o x=>y g H n o) (λx x x x z=>bF z) h
 rcases d:f a b with _|s;(rw[d]at h;exact nS h);(rw[d]at h;cases h;exact A a g b _ i H n K u d o<|t U)
inductive Nh{α γ:Type}(ls:α->γ->List V)(Hf:α->Hp)(n:Nat)(K:ah)(a:α):Prop
 |mk (next:∀g,K .n ⟨ls a g,Hf a,n⟩) (cont:∀g,K .cont ⟨ls a g,Hf a,n⟩)
theorem Mb(j:α->Hp)(n:Nat)(f:α->β->Option (α×Bool))(w:Af f vs d=M (c,z))(p:Goes e vs it ls λa H m=>H=j a/\m=n)
  (v:∀a g b k z i K,vs[i]?=M b->f a b=M (k,z)->(z=D->Nh ls j n K k)->(z=Z->∀g,K .brk ⟨ls k g,j k,n⟩)->bind (e i b) (λx=>body K) ⟨ls a g,j a,n⟩)
  (u:∀g,z=D->o Q ⟨ls c g,j c,n⟩) (t:∀g,z=Z->Q .n ⟨ls c g,j c,n⟩):su bind body o (it 0) Q ⟨ls d g₀,j d,n⟩:=by
 refine QZ e vs it ls _ f w p (λa g b k z i H m K s h l q r=> ?_) (λg H m l=> ?_) (λg H m l=> ?_) ⟨U,U⟩
 .obtain⟨rfl,rfl⟩:=l
  exact v a g b k z i K s h (λz=>⟨λg=>(q z).1 g _ _ ⟨U,U⟩,λg=>(q z).2 g _ _ ⟨U,U⟩⟩) λz g=>r z g _ _ ⟨U,U⟩
 .obtain⟨rfl,rfl⟩:=l;exact u g
 .obtain⟨rfl,rfl⟩:=l;exact t g
theorem Ka(j:α->Hp)(n:Nat)(f:α->β->Option α)(u:bA f vs d=M c)(q:Goes e vs it ls λa H m=>H=j a/\m=n)
  (t:∀a g b l i K,vs[i]?=M b->f a b=M l->Nh ls j n K l->bind (e i b) (λx=>body K) ⟨ls a g,j a,n⟩)
  (p:∀g,o Q ⟨ls c g,j c,n⟩):su bind body o (it 0) Q ⟨ls d g₀,j d,n⟩:=by
 refine ei e vs it ls _ f u q (λa g b l i H m K s h k r=> ?_) (λg H m k=> ?_) ⟨U,U⟩
 .obtain⟨rfl,rfl⟩:=k
  exact t a g b l i K s h ⟨λg=>r.1 g _ _ ⟨U,U⟩,λg=>r.2 g _ _ ⟨U,U⟩⟩
 .revert p;refine Y k.1<|rR k.2 ?_;intro p;exact p g
variable{e:β->V}{vs:List β}{ls:α->γ->List V}{P:α->Hp->Nat->Prop}
theorem cH(c:∀a H n,P a H n->H L=M (.l<|vs.m e)):Goes (λx=>e) vs (λi=>.L (L,i)) ls P:=λi a g H n K b k=>Be (c a H n b) k
theorem Cd:Goes (λx=>e) vs (λi=>.r<|(vs.d i).m e) ls P:=λi a g H n K b k=>Zf k
theorem qf(h:m=vs.L)(f:∀a H n,P a H n->∃c,H b=M (.d c)/\c.m (·.1)=vs.m e):Goes (λx=>e) vs (λi=>.k (b,i,m)) ls P:=λi a g H n K d k=>Mr (f a H n d) h k
end
inductive BN(α:Type) where
 |g (a:α)
 |r (a:α)
 |o
def BN.ctorIdx{a:Type}(i:BN a):Nat:=i.rec (λ_=>0) (λ_=>1) 2
@[elab_as_elim] theorem rG {p:c->Prop} (h:M (BN.g a)=M (BN.g b)) (k:p a):p b:=by cases h;exact k
def i7{b:Type}(f:b->Option (BN b))(m:Nat):b->Option (b×Bool):=m.r (λ_=>aI) λ_ d a=>ob (f a) λs=>s.rec d (λc=>M (c,Z))<|M (a,D)
section
variable(ls:α->γ->List V)(P:α->Hp->Nat->Prop)
def WK(K:ah)(X:St->Prop)(a:α)(g:γ)(H:Hp)(n:Nat):BN α->Prop
 |.g b=>Nx ls P K b
 |.r b=>∀g H n,P b H n->K .brk ⟨ls b g,H,n⟩
 |.o=>X ⟨ls a g,H,n⟩
theorem mD(f:α->Option (BN α))(o:i7 f m d=M (b,z))
  (v:∀a g s H n K X KB,f a=M s->P a H n->WK ls P K X a g H n s->(∀σ,body K σ->KB Z σ)->(∀σ,X σ->KB D σ)->c KB ⟨ls a g,H,n⟩)
  (l:∀g H n,P b H n->z=D->k Q ⟨ls b g,H,n⟩) (t:∀g H n,P b H n->z=Z->Q .n ⟨ls b g,H,n⟩) (h:P d j i):lH c body k Q ⟨ls d g₀,j,i⟩:=by
 have r:∀m a g H n,i7 f m a=M (b,z)->P a H n->qE c body k m Q ⟨ls a g,H,n⟩:=by
  intro m
  induction m with
  |zero=>exact λa g H n h=>nS h
  |succ m u=>
   intro a g H n h e
   refine bc h λs q h=> ?_
   refine v a g s H n _ _ _ q e ?_ (λσ h=>h) λσ h=>h
   cases s with
   |g p=>exact⟨λg H n e=>u p g H n h e,λg H n e=>u p g H n h e⟩
   |r p=>revert o l t;refine rR (cZ<|sJ h).1<|rR (cZ<|sJ h).2 ?_;intro o l t;exact λg H n e=>t g H n e U
   |o=>revert o l;refine rR (cZ<|sJ h).1<|rR (cZ<|sJ h).2 ?_;intro o l;exact l g H n e U
 exact⟨m,r m d g₀ j i o h⟩
end
theorem aT(H:Hp)(r:Loc)(o:O):aZ H r o r=M o:=sz U
theorem bS(H:Hp)(o:O)(h:l≠r):aZ H r o l=H l:=sv h
theorem hA{H:Hp}:aZ H r o r=M o:=aT H r o
theorem hN{H:Hp}(h:l≠r):aZ H r o l=H l:=bS H o h
theorem b8{H:Hp}{k c:Nat}(h:aA c k=D):aZ H (.o k a b) o (.o c e d)=H (.o c e d):=bS _ _ λz=>by rw[qb (Loc.o.inj z).1]at h;exact bT h
theorem k8{H:Hp}{k b:Nat}(h:aA b k=D):aZ H (.t k a) o (.t b c)=H (.t b c):=bS _ _ λz=>by rw[qb (Loc.t.inj z).1]at h;exact bT h
theorem gY{H:Hp}:aZ H (.t k a) o (.o d c b)=H (.o d c b):=bS _ _ λz=>by cases z
theorem iw{H:Hp}:aZ H (.o k a b) o (.t d c)=H (.t d c):=bS _ _ λz=>by cases z
theorem lM(H:Hp)(r:Loc)(a b:O):aZ (aZ H r a) r b=aZ H r b:=by
 funext l;delta aZ;rcases Loc.E l r with _|_<;>rfl
inductive cy(W:Nat->Nat->Nat->Bool)(n:Nat)(H:Hp)(n':Nat)(H':Hp):Prop
 |mk (le:n<=n') (obj:∀k a b,W k a b=D->H' (.o k a b)=H (.o k a b)) (tmp:∀k m,m<n->H' (.t k m)=H (.t k m)) (free:∀k m,n'<=m->H' (.t k m)=aI)
section
variable{W:Nat->Nat->Nat->Bool}
theorem cy.s(h:∀k m,n<=m->H (.t k m)=aI):cy W n H n H:=⟨aG _,λx x x x=>U,λx x x=>U,h⟩
theorem cy.t(N:cy W n H n' H')(w:W k a b=D)(h:H (.o k a b)=x):H' (.o k a b)=x:=(N.2 k a b w).t h
theorem cy.q(N:cy W n H n' H')(w:W k a b=D):H' (.o k a b)=H (.o k a b):=N.2 k a b w
theorem cy.j(N:cy W n H n' H')(h:m<n):H' (.t k m)=H (.t k m):=N.3 k m h
theorem cy.i(N:cy W n H n' H')(h:n'<=m):H' (.t k m)=aI:=N.4 k m h
theorem cy.S(N:cy W n H n' H'):cy W' n' H' n' H':=.s N.4
theorem cy.T(N:cy W n H n' H')(M':cy W' n' H' d c)(h:∀k a b,W k a b=D->W' k a b=D):cy W n H d c:=
 ⟨aC N.1 M'.1,λk a b w=>(M'.2 k a b<|h k a b w).t<|N.2 k a b w,λk m e=>(M'.3 k m<|aH e N.1).t<|N.3 k m e,M'.4⟩
theorem cy.l(N:cy W n H n' H')(h:∀k a b,W' k a b=D->W k a b=D):cy W' n H n' H':=⟨N.1,λk a b w=>N.2 k a b<|h k a b w,N.3,N.4⟩
theorem cy.p(N:cy W n H n' H')(h:W k a b=Z):cy W n H n' (aZ H' (.o k a b) o):=
 ⟨N.1,λc f e w=>(bS _ _ λz=>by revert h;refine rR (Loc.o.inj z).1<|rR (Loc.o.inj z).2.1<|rR (Loc.o.inj z).2.2 ?_;intro h;rw[h]at w;exact bT w).t<|N.2 c f e w,λc m d=>N.3 c m d,λc m d=>N.4 c m d⟩
theorem cy.u(N:cy W n H n' H')(g:n<=m)(f:m<n'):cy W n H n' (aZ H' (.t k m) o):=
 ⟨N.1,λb e d w=>N.2 b e d w,λb c a=>(bS _ _ λz=>by cases z;exact zF<|eM (zQ 49) U g a).t<|N.3 b c a,λb c a=>(bS _ _ (IU<|(aH f a)).s).t<|N.4 b c a⟩
theorem cy.e(N:cy W n H n' H'):cy W n H (n'+1) (aZ H' (.t k n') o):=
 ⟨dz N.1,λb e d w=>N.2 b e d w,λb c a=>(bS _ _<|IU<|(aH a N.1)).t<|N.3 b c a,λb c a=>(bS _ _ (IU a).s).t<|N.4 b c<|bU (zQ 3) U a⟩
theorem cy.r(N:cy W n H n' H'):cy W n H (n'+1) H':=⟨dz N.1,N.2,N.3,λk m h=>N.4 k m<|bU (zQ 3) U h⟩
theorem cy.A(N:cy W n H n' H'):H' (.t k n')=aI:=N.4 k n'<|aG _
end
theorem eJ{K:ab}{H:Hp}(h:H r=aI)(k:K (.L r) ⟨a,aZ H r o,n+1⟩):iB o K ⟨a,H,n⟩:=br r h k
theorem b9{K:ab}{H:Hp}(h:H r=aI)(b:fits vs.L=Z)(k:K (.L r) ⟨a,aZ H r<|.l vs,n+1⟩):bj vs K ⟨a,H,n⟩:=⟨b,r,h,k⟩
inductive bM(nm:aa):Prop
 |mk (inj:∀a b,jc (nm a) (nm b)=aA a b) (n0:nm 0=[60,101,109,112,116,121,62]) (n1:nm 1=[36,101,110,100])
noncomputable abbrev sy(nm:aa)(a:Nat):V:=.s (nm a)
inductive Keyed{β:Type}(e:β->V)(q:β->β->Bool):Prop
 |mk (beq:∀a b,dX (e a) (e b)=q a b) (eq:∀a b,q a b=Z↔a=b)
section
variable{q:β->β->Bool}
def fw(q:β->β->Bool)(x:β)(l:List β):Bool:=l.R D λa _ b=>q a x||b
noncomputable def eQ{γ:Type}(q:β->β->Bool)(f:β->γ)(x:β)(v:γ):β->γ:=λa=>bif q a x then v else f a
theorem Es(d:∀a b,q a b=Z↔a=b)(l:List β):fw q x l=Z↔x∈l:=l.R ⟨bF,λh=>by cases h⟩ λb r c=>by
 show(q b x||fw q x r)=Z↔_
 rw[gm,c,d,eT]
 exact or_congr_left eq_comm
variable(hk:Keyed e q)
include hk
theorem fH:fw q x l=Z↔x∈l:=Es hk.2 l
variable(f:β->V)(x:β)
theorem l9(l:List β):eK (l.m λa=>(e a,f a)) (e x)=bif fw q x l then M (f x)else aI:=l.R U λa r c=>by
 show(bif dX (e a) (e x)then M (f a)else eK (r.m λa=>(e a,f a)) (e x))=bif q a x||fw q x r then _ else _
 rw[hk.1,c]
 exact bC (b:=q a x) (λh=>Y h<|Y ((hk.2 _ _).m h) U) λh=>Y h U
theorem ox(v:V)(l:List β):fw q x l=D->gi (l.m λa=>(e a,f a)) (e x) v=(l.m λa=>(e a,f a))++[(e x,v)]:=l.R (λ_=>U) λa r b h=>by
 show(bif dX (e a) (e x)then _ else(e a,f a)::gi (r.m λa=>(e a,f a)) (e x) v)=_
 rw[hk.1,(on h).1,b (on h).2];rfl
theorem FH(l:List β):fw q x l=Z->gi (l.m λa=>(e a,f a)) (e x) (f x)=l.m λa=>(e a,f a):=l.R bF λa r d=>by
 show(q a x||fw q x r)=Z->(bif dX (e a) (e x)then(e a,f x)::r.m λa=>(e a,f a)else(e a,f a)::gi (r.m λa=>(e a,f a)) (e x) (f x))=_
 rw[hk.1]
 exact bC (b:=q a x) (λc=>Y c<|Y ((hk.2 _ _).m c) λ_=>U) λc=>Y c λh=>congrArg (oo _)<|d h
theorem HO(v:V)(l:List β):fw q x l=Z->l.N->gi (l.m λa=>(e a,f a)) (e x) v=l.m λa=>(e a,eQ q f x v a):=l.R bF λa r j=>by
 show(q a x||fw q x r)=Z->_->(bif dX (e a) (e x)then(e a,v)::r.m λa=>(e a,f a)else(e a,f a)::gi (r.m λa=>(e a,f a)) (e x) v)=(e a,bif q a x then v else f a)::r.m λa=>(e a,eQ q f x v a)
 rw[hk.1]
 exact bC (b:=q a x) (λc=>Y c<|rR ((hk.2 _ _).m c) λ_ g=>congrArg (oo _)<|d4 λb i=>bC (b:=q b a) (λd=>absurd (rR ((hk.2 _ _).m d) i) (eX.m g).1) λd=>by delta eQ;rw[d];rfl) λc=>Y c λh g=>congrArg (oo _)<|j h (eX.m g).2
end
def has(a:Nat)(l:ao):Bool:=fw aA a l
theorem gX:has a l=Z↔a∈l:=Es beq_iff l
theorem jH(a b:Nat)(l:ao):has a (l++[b])=(has a l||aA b a):=l.R (ef _) λc r d=>by show(aA c a||has a (r++[b]))=_;rw[d,<-E2];rfl
theorem je(l:ao):Cf (l.m<|sy b)=Z:=l.R U λ_ _ a=>a
section
variable(hn:bM nm)
include hn
theorem NV:Keyed (sy nm) aA:=⟨hn.1,beq_iff⟩
theorem YY(a:Nat):jc (nm a) [60,101,109,112,116,121,62]=aA a 0:=rR hn.2<|hn.1 _ _
theorem g5(a:Nat)(l:ao):qq (sy nm a) (l.m<|sy nm)=has a l:=l.R U λb r c=>by
 show(dX ((sy nm) b) ((sy nm) a)||qq ((sy nm) a) (r.m<|sy nm))=_
 rw[((NV hn)).1,c];rfl
theorem vF(f:Nat->V)(x:Nat)(l:ao):eK (l.m λa=>(sy nm a,f a)) (sy nm x)=bif has x l then M (f x)else aI:=l9 (NV hn) f x l
theorem md(f:Nat->V)(x:Nat)(v:V)(l:ao):has x l=D->gi (l.m λa=>(sy nm a,f a)) (sy nm x) v=(l.m λa=>(sy nm a,f a))++[(sy nm x,v)]:=ox (NV hn) f x v l
end
theorem Bp:∀l,(V.t l).d=Z
 :=λa=>a.R U (λx x x=>U)
theorem vD:∀l,(V.t l).e=l
 :=λb=>b.R U (λv r a=>by show v::(V.t r).e=_;exact Y a U)
theorem xo{K:It->St->Prop}(k:K (.r l) σ):jz (V.t l) K σ:=.i<|.i<|.I ⟨Bp _,by rw[vD];exact k⟩
theorem bL{K:It->St->Prop}(h:σ.h r=M (.l vs))(k:K (.L (r,0)) σ):jz (.L r) K σ:=.I<|rJ r vs U h k
theorem kg{K:It->St->Prop}(h:σ.h r=M (.d a))(k:K (.k (r,0,a.L)) σ):jz (.L r) K σ:=.i<|.I<|rJ r a U h k
theorem fz(h:n<=m)(k:fits m=Z):fits n=Z:=lb<|aC h<|bl k
theorem cG(n:Nat):fits n=decide (n<=1000):=by
 delta fits
 rcases h:aO n 1000 with _|_;(rw[decide_eq_false λz=>by rw[lb z]at h;exact bT h]);(rw[decide_eq_true (bl h)])
section
variable{K:ab}{call:CF}
def Xm(b:W F)(Q:ah):F->St->Prop:=λf=>(match f with
 |.n=>b
 |f=>bE f) Q
@[irreducible] def qT (b:W F) (Q:ah):F->St->Prop:=Xm b Q
theorem yw:qT b Q=Xm b Q:=by delta qT;rfl
theorem aM(q:a (qT b Q) σ):aR a b Q σ:=by rw[yw]at q;exact q
theorem aE(q:b Q σ):qT b Q .n σ:=by rw[yw];exact q
theorem H0(q:Q .brk σ):qT b Q .brk σ:=by rw[yw];exact q
theorem uP(q:Q .cont σ):qT b Q .cont σ:=by rw[yw];exact q
theorem oz(q:Q (.r v) σ):qT b Q (.r v) σ:=by rw[yw];exact q
theorem gk{K:b->St->Prop}(q:K a σ):bE a K σ:=q
theorem VE(h:σ.l[j]?=M (V.t vs)):x5 j σ=M (V.t vs):=by
 delta x5;refine Y h ?_;rcases vs with _|_<;>rfl
theorem cg(h:x5 j σ=M v)(q:K v σ):aS j K σ:=by delta aS;exact Y h q
theorem zB(h:σ.h l=M (.i c a))(b:fO a k=M v)(q:K v σ):qn k (.L l) K σ:=⟨l,c,a,U,h,v,b,q⟩
theorem Mt(h:σ.h l=M (.i c a))(b:fO a k=M v)(q:K v σ):wy c k d (.L l) K σ:=⟨l,c,a,U,h,bR c,Y b q⟩
theorem Ia(h:σ.h l=M (.i c a))(b:fO a k=aI)(q:K d σ):wy c k d (.L l) K σ:=⟨l,c,a,U,h,bR c,Y b q⟩
theorem F2{H:Hp}(h:H l=M (.i c b))(e:fits b.L=Z)(q:d () ⟨a,aZ H l<|.i c<|j9 b k w,n⟩):AR k (.L l) w d ⟨a,H,n⟩:=⟨l,c,b,U,h,e,q⟩
theorem bY{i:Nat}(d:σ.l[i]?=M (.L l))(h:σ.h l=M (.i c b))(a:fO b j=M v)(q:K v σ):B i j K σ:=by delta B;exact cg (by delta x5;exact Y d U)<|(zB h a q)
theorem uQ{i:Nat}(k:σ.l[i]?=M (.L l))(h:σ.h l=M (.i c g))(f:fO g j=M (.L e))(d:σ.h e=M (.i c' b))(a:fO b m=M v)(q:K v σ):NC i j m K σ:=by delta NC;exact cg (by delta x5;exact Y k U)<|(zB h f<|zB d a q)
theorem AF{i:Nat}{H:Hp}(f:a[i]?=M (.L l))(h:H l=M (.i c b))(e:fits b.L=Z)(q:d () ⟨a,aZ H l<|.i c<|j9 b j w,n⟩):sA i j w d ⟨a,H,n⟩:=by delta sA;exact cg (by delta x5;exact Y f U)<|(F2 h e q)
theorem eY(h:σ.h l=M (.d a))(c:pY i 6=Z)(b:eK a i=M v)(q:K v σ):dj (.L l) i K σ:=.i<|.I ⟨l,a,U,h,c,v,b,q⟩
theorem jR(h:σ.h l=M (.l vs))(c:fits vs.L=Z)(b:idx vs.L j=M m)(a:vs[m]?=M v)(q:K v σ):dj (.L l) (.I j) K σ:=.I ⟨l,vs,U,h,j,U,c,v,by delta Ol;exact Y b a,q⟩
theorem fE(h:σ.h l=M (.l vs))(q:a () σ):o7 (.L l) a σ:=rJ l vs U h q
theorem qs(h:σ.h l=M (.d a))(q:b () σ):Ei (.L l) b σ:=rJ l a U h q
theorem Xb(h:σ.h l=M (.s vs))(q:a () σ):isSet (.L l) a σ:=rJ l vs U h q
theorem gA{H:Hp}(h:H l=M (.l vs))(b:fits vs.L=Z)(q:K .N ⟨a,aZ H l<|.l<|vs++[w],n⟩):hH (.L l) [w] K ⟨a,H,n⟩:=⟨w,U,l,vs,U,h,b,q⟩
theorem DI(e:aO r.L 1=Z)(h:σ.h l=M (.d a))(c:pY i 6=Z)(b:eK a i=M v)(q:K v σ):Dj (.L l) (i::r) K σ:=match r,e with
 |[],_=>.I<|br i U<|mK l a U h c<|(Y b q)
 |[d],_=>.i<|we i d U<|mK l a U h c<|(Y b q)
 |_::_::_,h=>bF h
theorem tK(j:(match r with|[]=>V.N|a::_=>a)=d)(g:aO r.L 1=Z)(h:σ.h l=M (.d b))(f:pY i 6=Z)(c:eK b i=aI)(q:K d σ):Dj (.L l) (i::r) K σ:=match r,j,g with
 |[],e,_=>.I<|br i U<|mK l b U h f<|(by have e:V.N=d:=e;exact Y e<|Y c q)
 |[a],e,_=>.i<|we i a U<|mK l b U h f<|(by have e:a=d:=e;exact Y e<|Y c q)
 |_::_::_,_,h=>bF h
theorem ee{H:Hp}(h:H l=M (.d a))(e:pY i 6=Z)(d:fits a.L=Z)(q:c () ⟨b,aZ H l<|.d<|gi a i w,n⟩):cM (.L l) i w c ⟨b,H,n⟩:=.i<|mK l a U h (na e d) q
theorem nY(b:zg v 6=Z)(a:zg w 6=Z)(q:KB (dX v w) σ):cw .E v w KB σ:=.I ⟨na b a,q⟩
theorem Ic(b:zg v 6=Z)(a:zg w 6=Z)(q:KB (!dX v w) σ):cw .o v w KB σ:=.I ⟨na b a,q⟩
theorem FZ{i j:Int}(q:KB (decide<|i<j) σ):cw .Lt (.I i) (.I j) KB σ:=⟨i,U,j,U,q⟩
theorem R1{i:Int}(q:KB (decide<|j<i) σ):cw .Gt (.I i) (.I j) KB σ:=⟨i,U,j,U,q⟩
theorem R0{i:Int}(q:KB (decide<|j<=i) σ):cw .GtE (.I i) (.I j) KB σ:=⟨i,U,j,U,q⟩
theorem aa7(h:σ.h l=M (.l vs))(b:zg v 6=Z)(a:Cf vs=Z)(q:KB (qq v vs) σ):cw .I v (.L l) KB σ:=.I<|mK l vs U h (na b a) q
theorem pF(h:σ.h l=M (.l vs))(b:zg v 6=Z)(a:Cf vs=Z)(q:KB (!qq v vs) σ):cw .N v (.L l) KB σ:=.I<|mK l vs U h (na b a) q
theorem tL(h:σ.h l=M (.d a))(b:pY v 6=Z)(q:KB (eK a v).i σ):cw .I v (.L l) KB σ:=.i<|.I<|mK l a U h b q
theorem CB(h:σ.h l=M (.d a))(b:pY v 6=Z)(q:KB (!(eK a v).i) σ):cw .N v (.L l) KB σ:=.i<|.I<|mK l a U h b q
theorem aa8(h:σ.h l=M (.s vs))(q:KB (qq (.s s) vs) σ):cw .I (.s s) (.L l) KB σ:=.i<|.i<|.I ⟨s,U,l,vs,U,h,q⟩
theorem R6(h:σ.h l=M (.s vs))(q:KB (!qq (.s s) vs) σ):cw .N (.s s) (.L l) KB σ:=.i<|.i ⟨s,U,l,vs,U,h,q⟩
theorem CE(h:σ.h l=M (.l vs))(a:fits vs.L=Z)(q:KB (!aA vs.L 0) σ):fX (.L l) KB σ:=.I<|.i<|.i<|.i<|.i<|.i<|.I<|mK l vs U h a q
theorem KD(h:σ.h l=M (.d a))(b:fits a.L=Z)(q:KB (!aA a.L 0) σ):fX (.L l) KB σ:=.I<|.i<|.i<|.i<|.i<|.i<|.i<|mK l a U h b q
theorem dO(h:σ.h l=M (.i c b))(q:a c σ):fU (.L l) a σ:=⟨l,c,b,U,h,q⟩
theorem abc(h:σ.h l=M (.i 135 a))(q:KB Z σ):fX (.L l) KB σ:=.i<|dO h<|.i ⟨l,135,a,U,h,U,q⟩
theorem uR(h:σ.h l=M (.l vs))(a:fits vs.L=Z)(q:K (.I<|.o vs.L) σ):nV call (.L l) K σ:=.I<|br _ U<|.i<|.i<|.I<|mK l vs U h a q
theorem R4(h:σ.h l=M (.s vs))(a:fits vs.L=Z)(q:K (.I<|.o vs.L) σ):nV call (.L l) K σ:=.i<|.I ⟨_,U,l,vs,U,h,a,q⟩
theorem y6(q:f vs Q σ):Po (V.t vs) f Q σ:=⟨Bp vs,by rw[vD];exact q⟩
theorem FY(h:fits vs.L=Z)(q:K (.I<|.o vs.L) σ):nV call (V.t vs) K σ:=.I<|br _ U<|.i<|.I<|y6 ⟨h,q⟩
theorem i3(h:sd call a c=M (call f))(q:call f vs K σ):fV (sd call a) c vs K σ:=by
 delta fV;exact Y h q
theorem wA(h:sd call a c=M (call f)):(sd call a c).i=Z:=by refine Y h ?_;rfl
theorem zH(q:KB b σ):fX (.o b) KB σ:=.I<|.i<|.I<|br b U q
theorem F3(q:KB D σ):fX .N KB σ:=.I<|.I ⟨U,q⟩
theorem Se{l:ao}(a:fits l.L=Z)(q:KB (!aA l.L 0) σ):fX (.s l) KB σ:=.I<|.i<|.i<|.i<|.I<|eI l U a q
theorem CC{H:Hp}{lo:V}(h:H l=M (.l vs))(e:part lo=M a)(d:fits vs.L=Z)(c:H r=aI)(q:K (.L r) ⟨b,aZ H r<|.l<|cut vs a aI,n+1⟩):i4 (.L l) lo .N K ⟨b,H,n⟩:=
 ⟨a,e,_,U,.I ⟨l,vs,U,h,d,r,c,q⟩⟩
theorem Ej(b:fits vs.L=Z)(q:a vs σ):pC (V.t vs) a σ:=.I<|y6 ⟨b,q⟩
theorem KG(h:σ.h l=M (.l vs))(a:fits vs.L=Z)(q:K (V.t vs) σ):z5 [.L l] K σ:=br _ U<|.i<|mK l vs U h a q
def aaY(r:Loc)(K:ab):V->St->Prop:=λx=>(eh x.c (bE (V.L r):W V)) K
@[irreducible] def mkK (r:Loc) (K:ab):V->St->Prop:=aaY r K
theorem RJ:mkK r K=aaY r K:=by delta mkK;rfl
theorem CA{H:Hp}(h:H r=aI)(q:b (.L r::vs) (mkK r K) ⟨a,aZ H r<|.i c [],n+1⟩):Ah c b vs K ⟨a,H,n⟩:=br r h (by rw[RJ]at q;exact q)
theorem R5(q:K (.L r) σ):mkK r K .N σ:=by rw[RJ];exact⟨U,q⟩
theorem LC(b:decide (-1000<=j)=Z)(a:decide (j<=1000)=Z):aO j.N 1000=Z:=lb<|match j with|.o n=>kU.m (of_decide_eq_true a:(n:Int)<=(1000:Nat))|.n n=>kU.m<|Int.neg_le_neg_iff.m (of_decide_eq_true b: -((1000:Nat):Int)<= -((n+1:Nat):Int))
theorem Xx(e:fits vs.L=Z)(d:decide (-1000<=j)=Z)(c:decide (j<=1000)=Z)(b:idx vs.L j=M m)(a:vs[m]?=M u)(q:Q u σ):tV (V.t vs) (.I j) Q E σ:=
 .i ⟨Bp vs,j,U,by rw[vD];exact⟨na e<|LC d c,Y ((show Ol vs j=M u from by delta Ol;exact Y b a)) q⟩⟩
theorem TK(e:vs≠[])(d:fits vs.L=Z)(c:decide (-1000<=j)=Z)(b:decide (j<=1000)=Z)(a:idx vs.L j=aI)(q:E "IndexError" σ):tV (V.t vs) (.I j) Q E σ:=
 .i ⟨Bp vs,j,U,by rw[vD];exact⟨na d<|LC c b,by delta Ol;exact Y a q⟩⟩
theorem TJ(h:σ.h l=M (.d a))(c:pY i 6=Z)(b:eK a i=M v)(q:Q v σ):tV (.L l) i Q E σ:=.I<|mK l a U h c<|Y b q
theorem EX(h:σ.h l=M (.d a))(c:pY i 6=Z)(b:eK a i=aI)(q:E "KeyError" σ):tV (.L l) i Q E σ:=.I<|mK l a U h c<|Y b q
theorem W?:∀l:List c,cut l (M 1) aI=l.d 1
 :=λb=>b.R U (λa r x=>by
  show((a::r).d<|bif aO 1 (r.L+1)then 1 else r.L+1).t ((a::r).L - bif aO 1 (r.L+1)then 1 else r.L+1)=r
  exact gF (by simp))
theorem jf(q:e a (λx=>d b c) σ):g7 [e,d] (.T a<|.T b .a) c σ:=kb U U q
theorem Nt{l:aq}{K:It->St->Prop}(k:K (.e (0,l)) σ):B3 (V.t l) K σ:=.i<|y6 k
theorem wz{i j:Int}(q:K (.I<|i+j) σ):ej (V.I i) (V.I j) K σ:=.I ⟨i,U,j,U,q⟩
theorem p4{i j:Int}(q:K (.I<|i - j) σ):kc (V.I i) (V.I j) K σ:=⟨i,U,j,U,q⟩
theorem tA{i j:Int}(q:K (.I<|i+j) σ):sO (V.I i) (V.I j) K σ:=⟨i,U,j,U,q⟩
theorem x9{i:Int}(q:K (.I<| -i) σ):qr (V.I i) K σ:=br i U q
theorem gR(a:fits vs.L=Z)(q:K (V.t vs) σ):cY vs K σ:=⟨a,q⟩
theorem g6{a:Prop}(h:b=Z)(q:A):cond b A a:=Y h q
theorem gv{a:Prop}(h:b=D)(q:a):cond b A a:=Y h q
theorem ff{a:Prop}(q:A):cond Z A a:=q
theorem fx{a:Prop}(q:a):cond D A a:=q
theorem x8{a:Prop}(q:a):cond (!Z) A a:=q
theorem uH:(bif b then M v else aI).i=b:=by rcases b with _|_<;>rfl
end
theorem fM(c:aO (k+1) a.L=Z)(q:b () ⟨a.s k v,H,n⟩):ck k v b ⟨a,H,n⟩:=by unfold ck;refine Y c ?_;exact q
theorem hU(c:aO (i+1) a.L=Z)(h:⟨a.s i v,H,n⟩=σ')(q:b () σ'):ck i v b ⟨a,H,n⟩:=fM c<|h▸q
noncomputable def HB(st:V):List (Nat×V):=[(19,ax 1 1 0),(20,ax 1 2 0),(21,ax 1 3 0),(22,ax 1 4 0),(23,ax 1 5 0),(24,ax 10 0 0),(25,ax 11 0 0),(26,ax 1 8 0),(27,ax 1 9 0),(28,st)]
inductive k7(nm:aa)(st:V)(xs:ao)(F:aa)(H:Hp):Prop
 |mk (gr:H (.o 1 0 0)=M (.i 283 (HB st))) (dict:H (.o 10 0 0)=M (.d (xs.m λa=>(sy nm a,ax 5 a 0)))) (lists:∀x,has x xs=Z->H (.o 5 x 0)=M (.l ((F x).m (sy nm))))
def X5(p:List Nat×Bool)(f:Nat):Option (List Nat×Bool):=bif aA f 0 then M (p.1,Z)else bif has f p.1 then M p else mQ (fits p.1.L) (p.1++[f],p.2)
def xa(F:aa)(a:ao)(x:Nat):Option (List Nat×Bool):=ob (bA X5 (F x) (a,D)) λp=>M (p.1,!p.2)
def firstM(F:aa)(a:ao):Option (List Nat):=ob (Af (xa F) a []) λp=>bif p.2 then M p.1 else mQ (fits p.1.L) (p.1++[0])
theorem ba{a b:Type}{f:a->b}{l:List a}(h:fits l.L=Z):fits (l.m f).L=Z:=by exact Y (aD _) h
theorem k9(c:bM b){f:Nat->V}(h:has x l=Z):eK (l.m λa=>(sy b a,f a)) (sy b x)=M (f x):=by rw[vF c,h];rfl
section
variable(hn:bM nm){st:V}{F:aa}
include hn
theorem Vd{H:Hp}(a:X5 p f=M e)
  (k:Q .n ⟨[g,b,.L r,x,.o e.2,sy nm f],aZ H r<|.l<|e.1.m<|sy nm,n⟩):
  Aj Q ⟨[g,b,.L r,x,.o p.2,sy nm f],aZ H r<|.l<|p.1.m<|sy nm,n⟩:=by
 refine cW a (λh a=> ?_) λh a=> ?_
 .obtain rfl:=aV a
  refine(nY U U ?_);exact g6 ((YY hn f).t h) k
 .refine ot a (λd a=> ?_) λd a=> ?_
  .obtain rfl:=aV a
   refine(nY U U ?_);exact gv ((YY hn f).t h) (pF (aT _ _ _) U (je _) (gv (congrArg (!·)<|(g5 hn _ _).t d) k))
  .refine ir (cj a) λhz c=> ?_;revert k;refine rR c ?_;intro k
   refine(nY U U ?_);refine gv ((YY hn f).t h) (pF (aT _ _ _) U (je _) (g6 (congrArg (!·)<|(g5 hn _ _).t d) ?_))
   have hz:=ba (f:=sy nm) hz
   refine(fE (aT _ _ _)<|(gA (aT _ _ _) hz ?_));rw[aK]at k
   rw[lM]
   exact k
theorem Ve(l:k7 nm st t F H)(q:has c t=Z)(j:∀k a b,r≠.o k a b)(e:xa F m c=M (d,z))
  (k:∀g:V×V,Q (bif z then .brk else .n) ⟨[ax 1 0 0,s,.L r,sy nm c,g.1,g.2],aZ H r<|.l<|d.m<|sy nm,n⟩):
  Ak Q ⟨[ax 1 0 0,s,.L r,sy nm c,b,w],aZ H r<|.l<|m.m<|sy nm,n⟩:=by
 refine bY U ((λv=>(hN (j 1 0 0).s).t l.1) _) U<|eY ((λv=>(hN (j 10 0 0).s).t l.2) _) U (k9 hn q)<|bL ((hN (j 5 c 0).s).t<|l.3 c q)<|bc e λp h e=> ?_
 obtain⟨rfl,rfl⟩:=cZ<|sJ e
 refine Ka (λx=>sy nm) (F c) _ (λp g=>[ax 1 0 0,s,.L r,sy nm c,.o p.2,g]) (λp=>aZ H r<|.l<|p.1.m<|sy nm) n X5 h (cH λa x x h=>h.1▸(λa=>(bS _ _ (j 5 c 0).s).t<|l.3 c q) a) (λa g f u i K x e T=> ?_) λg=> ?_
 .exact Vd hn e<|T.1 _
 .refine(zH ?_);have:=k (.o p.2,g)
  rcases h:p.2 with _|_<;>rw[h]at this<;>exact this
end
def rq(f:aa)(call:CF):Prop:=∀{st:V} {g:ao} {F:aa} {Q:ab} {c e:ao} {d:aq} {H:Hp} {n:Nat} (r:Loc),k7 f st g F H->(∀x∈c,has x g=Z)->(∀k a b,r≠.o k a b)->H r=aI->
 firstM F c=M e->Q (.L r) ⟨d,aZ H r<|.l<|e.m<|sy f,n+1⟩->call 258 [ax 1 0 0,V.t<|c.m<|sy f] Q ⟨d,H,n⟩
theorem J7(m:bM d){call:CF}{st:V}{F:aa}(r:Loc)(A:k7 d st w F H)(v:∀x∈c,has x w=Z)(u:∀k a b,r≠.o k a b)(t:H r=aI)
  (e:firstM F c=M l) (k:∀j,Q (.r<|.L r) ⟨j,aZ H r<|.l<|l.m<|sy d,n+1⟩):Ew call Q ⟨[ax 1 0 0,V.t<|c.m<|sy d,.u,.u,.u,.u],H,n⟩:=by
 refine b9 t U<|cg (VE U)<|(xo<|bc e λp h e=>Mb (λy=>sy d) c _ (λa g=>[ax 1 0 0,V.t<|c.m<|sy d,.L r,g.1,g.2.1,g.2.2]) (λa=>aZ H r<|.l<|a.m<|sy d) (n+1) (xa F) h Cd (λa g x C z i K s e T q=> ?_) (λg hz=> ?_) (λg hz=> ?_) (g₀:=(.u,.u,.u)))
 .refine fM U<|Ve m A (v x<|aJ s) u e λg=> ?_
  rcases z with _|_;(exact(T U).1 (_,g));(exact q U (_,g))
 .obtain⟨hz,rfl⟩:=cj<|hz▸e
  have hz:=ba (f:=sy d) hz
  have k:=k [ax 1 0 0,V.t<|c.m<|sy d,.L r,g.1,g.2.1,g.2.2]
  rw[aK,dc,show sy d 0=.s [60,101,109,112,116,121,62]from congrArg V.s m.2]at k
  refine(fE (aT _ _ _)<|gA (aT _ _ _) hz ?_);rw[lM]
  exact k
 .obtain rfl:=aV<|hz▸e
  exact k _
theorem Hn(h:bM g)(d:Nat):rq g (dT<|d+1):=λr f e c b a k=>by
 exact Y (show dT (d+1) 258=gw tS (Ew<|dT d) 2 []from by kernel_rfl)<|⟨U,J7 h r f e c b a λx=>k⟩
structure Gr where
 p:List (Nat×List Nat)
 t:List Nat
 n:List Nat
 L:List Nat
def Gr.l(g:Gr)(k:Nat):Nat:=(g.p.g k (0,[])).1
def Gr.r(g:Gr)(k:Nat):List Nat:=(g.p.g k (0,[])).2
def byName(a:Nat)(l:aw):Nat->List Nat:=l.R (λ_=>[]) λp _ b k=>bif aA p.1 a then k::b (k+1)else b (k+1)
def Gr.b(g:Gr)(a:Nat):List Nat:=byName a g.p.b 1
inductive Pf(nm:aa)(g:Gr)(k:Nat)(fs:ar):Prop
 |mk (name:fO fs 0=M (sy nm (g.l k))) (prod:fO fs 1=M (V.t ((g.r k).m (sy nm)))) (number:fO fs 2=M (.I (.o k))) (len:fO fs 8=M (.I (.o (g.r k).L))) (usyms:fO fs 9=M (ax 2 k 1))
inductive GS(nm:aa)(g:Gr)(st:V)(H:Hp):Prop
 |mk (gr:H (.o 1 0 0)=M (.i 283 (HB st))) (prods:H (.o 1 1 0)=M (.l ((bX g.p.L).m λk=>ax 2 k 0))) (names:H (.o 1 2 0)=M (.d (g.L.m λa=>(sy nm a,ax 7 a 0)))) (terms:H (.o 1 4 0)=M (.d (g.t.m λa=>(sy nm a,ax 8 a 0)))) (nons:H (.o 1 5 0)=M (.d (g.n.m λa=>(sy nm a,ax 9 a 0)))) (by_:∀a,has a g.L=Z->H (.o 7 a 0)=M (.l ((g.b a).m λk=>ax 2 k 0))) (pr:∀k,k<g.p.L->∃fs,H (.o 2 k 0)=M (.i 100 fs)/\Pf nm g k fs)
noncomputable def isG(k:Nat):Bool:=aA k 1||aA k 2||aA k 7
theorem GS.m{st:V}{W:Nat->Nat->Nat->Bool}(G:GS i g st H)(N:cy W n H n' H')(c:∀k a b,isG k=Z->W k a b=D):GS i g st H':=
 ⟨N.t (c 1 _ _ U) G.1,N.t (c 1 _ _ U) G.2,N.t (c 1 _ _ U) G.3,N.t (c 1 _ _ U) G.4,N.t (c 1 _ _ U) G.5,
  λa h=>N.t (c 7 _ _ U)<|(G.6 a h),λk h=>cz (G.7 k h) λf e d=>br f (N.t (c 2 _ _ U) e) d⟩
theorem zo(h:isG k=Z){P:Nat->Prop}(c:P 1)(b:P 2)(a:P 7):P k:=by
 rcases oy h with h|h
 .rcases oy h with h|h<;>refine Y (bq h) ?_<;>assumption
 .refine Y (bq h) ?_;assumption
noncomputable def wF(k _ _:Nat):Bool:=aA k 5||aA k 10
inductive FI(nm:aa)(F:aa)(cu:Nat)(cC:Hp)(ds:ao)(H:Hp)(n:Nat):Prop
 |mk (dict:H (.o 10 0 0)=M (.d (ds.m λa=>(sy nm a,ax 5 a 0)))) (lists:∀x,H (.o 5 x 0)=bif has x ds then M (.l ((F x).m (sy nm)))else aI) (now:cy wF cu cC n H)
def lV(ds:ao)(t:Nat):Option (List Nat):=mQ (!has t ds&&fits ds.L)<|ds++[t]
theorem jW(h:lV ds t=M a):has t ds=D/\fits ds.L=Z/\a=ds++[t]:=by
 exact rR ((cj h)).2<|kb (by simpa using(an ((cj h)).1).1) (an ((cj h)).1).2 U
section
variable(hn:bM nm){st:V}{F:aa}
theorem FI.s(I:FI nm F d c ds H n)(h:lV ds t=M i)(g:l=(F t).m (sy nm)):
  FI nm F d c i (aZ (aZ H (.o 5 t 0)<|.l l) (.o 10 0 0)<|.d<|(ds.m λa=>(sy nm a,ax 5 a 0))++[(sy nm t,ax 5 t 0)]) (n+1):=by
 refine sk (jW h) λy y f=>Y f<|⟨by rw[aT,aK];rfl,λx=> ?_,((I.3.p U).p U).r⟩
 rw[hN (by intro z;cases z),jH]
 by_cases b:x=t
 .revert g;refine rR b ?_;intro g;rw[aT,bR x,jE,g];rfl
 .refine Y (bS _ _ λz=>b (by revert b;refine rR (Loc.o.inj z).2.1 ?_;intro b;rfl))<|Y (I.2 x) ?_
  have:aA t x=D:=qm λe=>b e.s
  rw[this,ef]
include hn
theorem ac2(r:H (.o 1 0 0)=M (.i 283<|HB st))(I:FI nm F g b ds H n)(h:lV ds t=M j)(q:F t=[t])
  (k:∀H' n',FI nm F g b j H' n'->Q .n ⟨[ax 1 0 0,sy nm t,c,d,e,p],H',n'⟩):pP Q ⟨[ax 1 0 0,sy nm t,c,d,e,p],H,n⟩:=by
 refine sk (jW h) λl i x=> ?_
 have i:=ba (f:=λa=>(sy nm a,ax 5 a 0)) i
 have m:=I.1
 refine b9 ((I.2 t).t (by refine Y l ?_;rfl)) U ?_
 refine bY U r U<|(ee m U i ?_);exact Y (md hn _ _ _ _ l)<|k _ _<|I.s h (by refine Y q ?_;rfl)
theorem ac1(r:H (.o 1 0 0)=M (.i 283<|HB st))(I:FI nm F g c ds H n)(h:lV ds t=M j)(q:F t=[])
  (k:∀H' n',FI nm F g c j H' n'->Q .n ⟨[ax 1 0 0,b,sy nm t,d,e,p],H',n'⟩):pS Q ⟨[ax 1 0 0,b,sy nm t,d,e,p],H,n⟩:=by
 refine sk (jW h) λl i x=> ?_
 have i:=ba (f:=λa=>(sy nm a,ax 5 a 0)) i
 have m:=I.1
 refine b9 ((I.2 t).t (by refine Y l ?_;rfl)) U ?_
 refine bY U r U<|(ee m U i ?_);exact Y (md hn _ _ _ _ l)<|k _ _<|I.s h (by refine Y q ?_;rfl)
end
noncomputable def upd(F:aa)(x:Nat)(l:ao):Nat->List Nat:=λy=>bif aA y x then l else F y
def DA(x:Nat)(q:(Nat->List Nat)×Bool)(f:Nat):Option ((Nat->List Nat)×Bool):=bif has f (q.1 x)then M q else mQ (fits (q.1 x).L) (upd q.1 x<|q.1 x++[f],Z)
def cfP(g:Gr)(x:Nat)(q:(Nat->List Nat)×Bool)(k:Nat):Option ((Nat->List Nat)×Bool):=ob (firstM q.1<|g.r k) λa=>bA (DA x) a q
def cfN(g:Gr)(q:(Nat->List Nat)×Bool)(x:Nat):Option ((Nat->List Nat)×Bool):=bA (cfP g x) (g.b x) q
def R'(g:Gr)(F:aa):Option (BN<|Nat->List Nat):=ob (bA (cfN g) g.n (F,D)) λq=>M<|bif q.2 then .g q.1 else .r q.1
def F0(g:Gr)(x:Nat):List Nat:=bif has x g.t||aA x 1 then[x]else[]
inductive Hc(g:Gr)(xs:ao):Prop
 |mk (ns0:∀x∈g.n,F0 g x=[]) (nsx:∀x∈g.n,has x xs=Z) (nsl:∀x∈g.n,has x g.L=Z) (rhs:∀k,k<g.p.L->∀x∈g.r k,has x xs=Z) (by_:∀a,∀k∈g.b a,k<g.p.L)
inductive FM(nm:aa)(st:V)(xs:ao)(cu:Nat)(cC:Hp)(F:aa)(H:Hp)(n:Nat):Prop
 |mk (at_:k7 nm st xs F H) (now:cy wF cu cC n H)
section
variable{st:V}{F:aa}
theorem k7.p(I:k7 a st e F H)(d:c=l.m (sy a)):k7 a st e (upd F x l) (aZ H (.o 5 x 0)<|.l c):=by
 refine⟨I.1,I.2,λy b=> ?_⟩
 delta upd
 rcases h:aA y x with _|_;(exact(hN λz=>by rw[qb (Loc.o.inj z).2.1]at h;exact bT h).t<|I.3 y b);(refine rR (bq h) ?_;rw[aT,d];rfl)
theorem k7.n(I:k7 c st b F H):k7 c st b F (aZ H (.t k m) o):=⟨I.1,I.2,λy a=>I.3 y a⟩
theorem FM.p(I:FM c st f b a F H n)(e:d=l.m (sy c)):FM c st f b a (upd F x l) (aZ H (.o 5 x 0)<|.l d) n:=⟨I.1.p e,I.2.p U⟩
theorem FM.N(I:FM d st c b a F H n):FM d st c b a F (aZ H (.t k n) o) (n+1):=⟨I.1.n,I.2.e⟩
end
theorem HV{call:CF}:sd call (kS "_first") 283=M (call 258):=by kernel_rfl
section
variable(hn:bM nm){call:CF}{st:V}{xs:ao}{g:Gr}{cu:Nat}{cC:Hp}
include hn
theorem acX(I:FM nm st xs cu cC q.1 H n)(r:has x xs=Z)(b:DA x q f=M l)
  (k:∀H',FM nm st xs cu cC l.1 H' n->(∀k m,H' (.t k m)=H (.t k m))->Q .n ⟨[ax 1 0 0,t,sy nm x,.o l.2,p,sy nm f],H',n⟩):oF Q ⟨[ax 1 0 0,t,sy nm x,.o q.2,p,sy nm f],H,n⟩:=by
 have j:=I.1.1
 have i:=I.1.2
 have e:=k9 hn (f:=λa=>ax 5 a 0) r
 have d:=I.1.3 x r
 refine(bY U j U<|(eY i U e ?_));refine pF d U (je _)<|cW b (λh b=> ?_) λh b=> ?_
 .obtain rfl:=sJ b
  exact gv (congrArg (!·)<|(g5 hn _ _).t h)<|k H I λy y=>U
 .refine ir (cj b) λhz c=> ?_;revert k;refine rR c ?_;intro k
  have hz:=ba (f:=sy nm) hz
  refine g6 (congrArg (!·)<|(g5 hn _ _).t h) ?_
  refine aM<|bY U j U<|(eY i U e ?_);refine fE d<|gA d hz<|aE ?_;exact k _ (I.p (by refine Y aK ?_;rfl)) λy y=>U
theorem acY(C:rq nm call)(G:GS nm g st cC)(A:k<g.p.L)(l:∀x∈g.r k,has x xs=Z)(I:FM nm st xs cu cC q.1 H n)(w:has x xs=Z)(d:cfP g x q k=M m)
  (K:∀f H' n',FM nm st xs cu cC m.1 H' n'->Q .n ⟨[ax 1 0 0,t,sy nm x,.o m.2,ax 2 k 0,f],H',n'⟩):oG call Q ⟨[ax 1 0 0,t,sy nm x,.o q.2,ax 2 k 0,L],H,n⟩:=by
 refine cz (G.7 k A) λJ v u=> ?_
 have s:=(I.2.2 2 k 0 U).t v
 have r:=u.2
 refine dO I.1.1 ⟨wA HV,(bY U s r ?_)⟩;refine bc d λc h d=>C (.t 61 n) I.1 l (λk a b z=>by cases z) I.2.A h (bL (hA)<|ei (λy=>sy nm) c _ (λq g=>[ax 1 0 0,t,sy nm x,.o q.2,ax 2 k 0,g]) (λq H' n'=>FM nm st xs cu cC q.1 H' n'/\H' (.t 61 n)=M (.l<|c.m<|sy nm)) (DA x) d (cH λa y y h=>h.2) (λa g f E i H n K y d j T=> ?_) (λg H n j=> ?_) ⟨I.N,hA⟩)
 . exact fM U<|acX hn j.1 w d λH' p e=>T.1 _ _ _ ⟨p,(e _ _).t j.2⟩
 . exact K _ _ _ j.1
theorem acZ(z:rq nm call)(G:GS nm g st cC)(W:Hc g xs)(b:x∈g.n)(I:FM nm st xs cu cC q.1 H n)(d:cfN g q x=M l)
  (K:∀p f H' n',FM nm st xs cu cC l.1 H' n'->Q .n ⟨[ax 1 0 0,t,sy nm x,.o l.2,p,f],H',n'⟩):oH call Q ⟨[ax 1 0 0,t,sy nm x,.o q.2,p,w],H,n⟩:=by
 have v:=(I.2.2 1 2 0 U).t G.3
 have j:=λH n q (I:FM nm st xs cu cC q H n)=>(I.2.2 7 x 0 U).t<|G.6 x<|W.3 x b
 have u:=I.1.1
 have s:=k9 hn (f:=λa=>ax 7 a 0)<|W.3 x b
 refine bY U u U<|(eY v U s ?_);refine bL (j H n _ I)<|ei (λy k=>ax 2 k 0) (g.b x) _ (λq g=>[ax 1 0 0,t,sy nm x,.o q.2,g.1,g.2]) (λq H' n'=>FM nm st xs cu cC q.1 H' n') (cfP g x) d (cH λa H n h=>j H n _ h) (λa g' k A i H n K r d c T=> ?_) (λg H n c=> ?_) I (g₀:=(p,w))
 .have e:=W.5 x k<|aJ r
  exact acY hn z G e (W.4 k e) c (W.2 x b) d λf H' n' m=>T.1 (_,f) _ _ m
 .exact K _ _ _ _ c
theorem ac0(u:rq nm call){F:aa}(G:GS nm g st cC)(W:Hc g xs)(I:FM nm st xs cu cC F H n)(c:R' g F=M s)
  (K:WK (λy g=>[ax 1 0 0,t,g.1,g.2.1,g.2.2.1,g.2.2.2]) (FM nm st xs cu cC) Q X F (x,b,p,j) H n s):oK call Q ⟨[ax 1 0 0,t,x,b,p,j],H,n⟩:=by
 have e:=λH n q (I:FM nm st xs cu cC q H n)=>(I.2.2 1 5 0 U).t G.5
 have r:=I.1.1
 refine aM<|aE<|aM<|bY U r U ?_;refine kg (e H n _ I)<|bc c λm h c=> ?_
 obtain rfl:=sJ c
 refine ei (λy=>sy nm) g.n (λi=>.k (.o 1 5 0,i,_)) (λq g=>[ax 1 0 0,t,g.1,.o q.2,g.2.1,g.2.2]) (λq H' n'=>FM nm st xs cu cC q.1 H' n') (cfN g) h (qf (aD ..) λa H n h=>br _ (e H n _ h) (by refine Y dQ ?_;rfl)) (λa g' x w i H n K l c d T=> ?_) (λg H n d=> ?_) I (g₀:=(x,p,j))
 .exact acZ hn u G W (aJ l) d c λp f H' n' k=>T.1 (_,p,f) _ _ k
 .obtain⟨v,z⟩:=m
  refine aE<|(zH ?_);rcases z with _|_;(exact K (_,_,_,_) _ _ d);(exact K.1 (_,_,_,_) _ _ d)
inductive CfM(g:Gr)(xs:ao)(F:aa):Prop
 |mk (well:Hc g xs) (keys:∃d1 d2,bA lV g.t []=M d1/\lV d1 1=M d2/\bA lV g.n d2=M xs) (loop:∃m,i7 (R' g) m (F0 g)=M (F,Z))
theorem R?(hc:rq nm call){F:aa}(G:GS nm g st H)(M':CfM g xs F)(h0:∀k m,n<=m->H (.t k m)=aI)(h1:H (.o 10 0 0)=M (.d []))(h2:∀a,H (.o 5 a 0)=aI)
  (K:∀E H' n',FM nm st xs n H F H' n'->Q (.r<|ax 10 0 0) ⟨E,H',n'⟩):aR pQ (aR pR<|aR pT<|aR (oN call) oO) Q ⟨[ax 1 0 0,t,x,b,p,C],H,n⟩:=by
 refine zc M'.2 λd1 d2 k1 R k3=> ?_
 obtain⟨m,A⟩:=M'.3
 have e:=λH' n' ds (I:FI nm (F0 g) n H ds H' n')=>(I.3.2 1 0 0 U).t G.1
 have te:=λH' n' ds (I:FI nm (F0 g) n H ds H' n')=>(I.3.2 1 4 0 U).t G.4
 have P:=λH' n' ds (I:FI nm (F0 g) n H ds H' n')=>(I.3.2 1 5 0 U).t G.5
 have w:=G.1
 refine aM<|bY U w U ?_;refine kg G.4 (ei (λz=>sy nm) g.t (λi=>.k (.o 1 4 0,i,_)) (λz t=>[ax 1 0 0,t,x,b,p,C]) (λds H' n'=>FI nm (F0 g) n H ds H' n') lV k1 (qf (aD ..) λa H n h=>br _ (te H n _ h) (by refine Y dQ ?_;rfl)) (λds d y v i H n K u r c T=> ?_) (λd H' n' c=> ?_) ⟨h1,h2,.s h0⟩)
 .refine ac2 hn (e _ _ _ c) c r ?_ λH' n' q=>T.1 _ _ _ q
  delta F0;refine Y (gX.M<|aJ u) ?_;rfl
 .refine sk (jW R) λN j z=> ?_
  have L:=e _ _ _ c
  have g3:=c.1
  have j:=ba (f:=λa=>(sy nm a,ax 5 a 0)) j
  refine gk<|aE<|b9 ((c.2 1).t (by refine Y N ?_;rfl)) U ?_
  refine Y (congrArg V.s hn.3.s) ?_
  refine bY U L U<|ee g3 U j<|aM<|bY U L U ?_;refine Y (md hn _ _ _ _ N) ?_
  have J:=c.s R (l:=[sy nm 1]) (by delta F0;rw[XC];rfl)
  refine kg (P _ _ _ J) (ei (λz=>sy nm) g.n (λi=>.k (.o 1 5 0,i,_)) (λz x=>[ax 1 0 0,d,x,b,p,C]) (λds H' n'=>FI nm (F0 g) n H ds H' n') lV k3 (qf (aD ..) λa H n h=>br _ (P H n _ h) (by refine Y dQ ?_;rfl)) (λds d y v i H n K u r c T=> ?_) (λx' H' n' c=> ?_) J)
  .exact ac1 hn (e _ _ _ c) c r (M'.1.1 _<|aJ u) λH' n' q=>T.1 _ _ _ q
  .refine gk (aE (by
    refine mD (λy g=>[ax 1 0 0,d,g.1,g.2.1,g.2.2.1,g.2.2.2]) (FM nm st xs n H) (R' g) A (λa g s H' n' K X KB A c hK hT y=> ?_) (λy y y y z=>bT z) (λg H' n' c y=> ?_) (⟨⟨e _ _ _ c,c.1,λx S=>(c.2 x).t (by refine Y S ?_;rfl)⟩,c.3⟩) (g₀:=(x',b,p,C))
    .exact zH<|hT _<|ac0 hn hc G M'.1 c A hK
    .have w:=c.1.1
     refine bY U w U ?_;exact K _ _ _ c))
end
def Ur(d:aa)(call:CF):Prop:=∀{st:V} {g:Gr} {c:ao} {F:aa} {Q:ab} {b:aq} {H:Hp} {n:Nat},GS d g st H->CfM g c F->(∀k m,n<=m->H (.t k m)=aI)->H (.o 10 0 0)=M (.d [])->(∀a,H (.o 5 a 0)=aI)->
 (∀H' n',FM d st c n H F H' n'->Q (ax 10 0 0) ⟨b,H',n'⟩)->call 265 [ax 1 0 0] Q ⟨b,H,n⟩
theorem sr:dT (d+1) 265=gw lQ (ye<|dT d) 1 []:=by kernel_rfl
def Z0(k a b:Nat):Bool:=wF k a b||aA k 6||aA k 11
noncomputable def s0(s a:Nat):Nat:=bif aA a s then 1 else 0
inductive G0(nm:aa)(g:Gr)(s:Nat)(Fo:aa)(H:Hp):Prop
 |mk (dict:H (.o 11 0 0)=M (.d (g.n.m λa=>(sy nm a,ax 6 a (s0 s a))))) (lists:∀a,has a g.n=Z->H (.o 6 a (s0 s a))=M (.l ((Fo a).m (sy nm))))
inductive xG(nm:aa)(st:V)(g:Gr)(xs:ao)(F:aa)(s cu:Nat)(cC:Hp)(Fo:aa)(H:Hp)(n:Nat):Prop
 |mk (fa:k7 nm st xs F H) (fo:G0 nm g s Fo H) (now:cy Z0 cu cC n H)
def Td(l:ao):List (List Nat):=l.R [] λa r b=>(a::r)::b
theorem V5(b:aa):∀l,(Td l).m (λs=>sy b<|s.H 0)=l.m (sy b)
 :=λd=>d.R U λa r c=>congrArg (oo _) c
theorem V4:∀{i:Nat},(Td l)[i]?=M s->l.d i=s/\i<l.L:=by
 induction l with
 |nil=>exact λh=>nS h
 |cons a r b=>
  intro i;rcases i with _|i;(exact λh=>⟨sJ h,cD _⟩);(exact λh=>⟨(b h).1,gW (b h).2⟩)
abbrev Q2:=(Nat->List Nat)×Bool
def coA(a:Nat)(p:Q2×Bool)(f:Nat):Option (Q2×Bool):=bif aA f 0 then M (p.1,Z)else ob (DA a p.1 f) λq=>M (q,p.2)
def U?(g:Gr)(k a:Nat)(b:Bool)(p:Q2×Bool):Option Q2:=bif p.2||b then bA (DA a) (p.1.1<|g.l k) p.1 else M p.1
def GW(g:Gr)(F:aa)(k:Nat)(q:Q2):List Nat->Option Q2
 |[]=>aI
 |a::b=>bif has a g.n then ob (firstM F b) λc=>ob (bA (coA a) c (q,D)) (U? g k a b.i)else M q
def c!(g:Gr)(F:aa)(q:Q2)(k:Nat):Option Q2:=bA (GW g F k) (Td<|g.r k) q
def Ud(g:Gr)(F:aa)(a:aa):Option (BN<|Nat->List Nat):=ob (bA (c! g F) (rW 1<|g.p.L - 1) (a,D)) λq=>M<|bif q.2 then .g q.1 else .r q.1
section
variable{st:V}{F:aa}
theorem xG.N(I:xG f st g e F s c b d H n):xG f st g e F s c b d (aZ H (.t k n) o) (n+1):=⟨I.1.n,⟨I.2.1,λa h=>I.2.2 a h⟩,I.3.e⟩
theorem xG.p(I:xG d st g j F s b a i H n)(f:e=l.m (sy d)):xG d st g j F s b a (upd i x l) (aZ H (.o 6 x<|s0 s x)<|.l e) n:=by
 refine⟨⟨I.1.1,I.1.2,λy c=>I.1.3 y c⟩,⟨I.2.1,λy c=> ?_⟩,I.3.p U⟩
 delta upd
 rcases h:aA y x with _|_;(exact(hN λz=>by rw[qb (Loc.o.inj z).2.1]at h;exact bT h).t<|I.2.2 y c);(refine rR (bq h) ?_;rw[aT,f];rfl)
end
theorem Qh{q a:Q2}(h:DA x q f=M a)(b:has f (q.1 x)=Z):a=q:=by
 delta DA at h;rw[b]at h;cases h;rfl
theorem Vz{r:ao}(h:L=i+1+r.L):dX (.I<|.o i) (.I<|.o L - 1)=r.i:=by
 subst h
 have e:aY i+1+r.L - 1=aY i+r.L:=(congrArg (· - 1)<|Int.add_right_comm _ _ _).t<|fR _ _
 refine Y e ?_
 cases r with
 |nil=>exact beq_self_eq_true _
 |cons a r=>exact beq_eq_false_iff_ne.M λz=>by have:=ig z;simp at this
section
variable(hn:bM nm){call:CF}{st:V}{xs:ao}{F:aa}{s cu:Nat}{cC:Hp}
include hn
theorem adf{q l:Q2}(I:xG nm st g xs F s cu cC q.1 H n)(u:has c g.n=Z)(d:DA c q f=M l)
  (k:∀H',xG nm st g xs F s cu cC l.1 H' n->Q .n ⟨[ax 1 0 0,a,b,.o l.2,p,i,sy nm c,w,v,sy nm f],H',n⟩):
  jT Q ⟨[ax 1 0 0,a,b,.o q.2,p,i,sy nm c,w,v,sy nm f],H,n⟩:=by
 have t:=I.1.1
 have r:=I.2.1
 have m:=k9 hn (f:=λa=>.L<|.o 6 a<|s0 s a) u
 have j:=I.2.2 c u
 refine(bY U t U<|(eY r U m ?_));refine pF j U (je _)<|cW d (λh d=> ?_) λh d=> ?_
 .obtain rfl:=sJ d
  exact gv (congrArg (!·)<|(g5 hn _ _).t h)<|k H I
 .refine ir (cj d) λhz e=> ?_;revert k;refine rR e ?_;intro k
  have hz:=ba (f:=sy nm) hz
  refine g6 (congrArg (!·)<|(g5 hn _ _).t h) ?_
  refine aM<|bY U t U<|(eY r U m ?_);refine fE j<|gA j hz<|aE ?_;exact k _<|I.p (by refine Y aK ?_;rfl)
theorem Ys{f:Nat}{H:Hp}(h:(m||aA f 0)=e)
  (k:Q .n ⟨[l,a,b,j,p,i,c,g,.o e,sy nm f],H,n⟩):m5 Q ⟨[l,a,b,j,p,i,c,g,.o m,sy nm f],H,n⟩:=by
 subst h
 refine(nY U U ?_);exact bC (b:=aA f 0) (λd=>by rw[d,jE]at k;exact g6 ((YY hn f).t d) k) λd=>by rw[d,ef]at k;exact gv ((YY hn f).t d) k
theorem adh(I:xG nm st g xs F s cu cC q.1.1 H n)(z:has c g.n=Z)(d:coA c q f=M u)
  (k:∀H',xG nm st g xs F s cu cC u.1.1 H' n->(∀k m,H' (.t k m)=H (.t k m))->Q .n ⟨[ax 1 0 0,a,b,.o u.1.2,p,i,sy nm c,C,.o u.2,sy nm f],H',n⟩):
  m6 Q ⟨[ax 1 0 0,a,b,.o q.1.2,p,i,sy nm c,C,.o q.2,sy nm f],H,n⟩:=by
 have y:=I.1.1
 have w:=I.2.1
 have v:=k9 hn (f:=λa=>.L<|.o 6 a<|s0 s a) z
 have r:=I.2.2 c z
 refine ot d (λe d=> ?_) λe d=> ?_
 .obtain rfl:=sJ d
  refine aM<|(Ic U U ?_);refine gv (congrArg (!·)<|(YY hn f).t e)<|gv U<|aE<|Ys hn ?_<|k H I λx x=>U
  rw[e,jE]
 .refine bc d λA j d=> ?_
  revert k;refine rR (sJ d) ?_;intro k
  refine aM<|(Ic U U ?_);refine g6 (congrArg (!·)<|(YY hn f).t e) ?_
  refine(bY U y U<|(eY w U v ?_));refine pF r U (je _)<|cW j (λh j=> ?_) λh j=> ?_
  .obtain rfl:=sJ j
   refine gv (congrArg (!·)<|(g5 hn _ _).t h)<|gv U<|aE<|Ys hn ?_<|k H I λx x=>U
   rw[e,ef]
  .refine ir (cj j) λhz l=> ?_;revert k;refine rR l ?_;intro k
   have hz:=ba (f:=sy nm) hz
   refine g6 (congrArg (!·)<|(g5 hn _ _).t h)<|g6 U<|aM<|bY U y U ?_;refine eY w U v<|fE r<|(gA r hz ?_);refine aE ?_
   refine aE<|Ys hn ?_<|k _ (I.p (by refine Y aK ?_;rfl)) λx x=>U
   rw[e,ef]
theorem adg{l:ao}(hp:∀H n Fo,xG nm st g xs F s cu cC Fo H n->H (.o 2 k 0)=M (.i 100 fs))(N:Pf nm g k fs)(hl:(g.r k).L=i+1+l.L)(hz:fits (g.r k).L=Z)
  (I:xG nm st g xs F s cu cC q.1 H n) (hB:has c g.n=Z) (hN:has (g.l k) g.n=Z) (d:U? g k c l.i (q,L)=M m)
  (K:∀v f H',xG nm st g xs F s cu cC m.1 H' n->Q .n ⟨[ax 1 0 0,a,b,.o m.2,ax 2 k 0,.I<|.o i,sy nm c,y,v,f],H',n⟩):
  m7 call Q ⟨[ax 1 0 0,a,b,.o q.2,ax 2 k 0,.I<|.o i,sy nm c,y,.o L,f0],H,n⟩:=by
 have J:=I.1.1
 have E:=I.2.1
 have X:=N.2
 have C:=N.1
 have w:=hp _ _ _ I
 have A:=k9 hn (f:=λa=>.L<|.o 6 a<|s0 s a) hN
 have hz:=ba (f:=sy nm) hz
 have p:∀u,bA (DA c) (q.1<|g.l k) q=M m->jz (.L<|.o 6 (g.l k)<|s0 s<|g.l k) (λi=>su (λv=>ck 9 v) jT (bE .n) i Q) ⟨[ax 1 0 0,a,b,.o q.2,ax 2 k 0,.I<|.o i,sy nm c,y,u,f0],H,n⟩:=λu d=>by
  refine bL (I.2.2 _ hN) (ei (λx=>sy nm) (q.1<|g.l k) _ (λq g=>[ax 1 0 0,a,b,.o q.2,ax 2 k 0,.I<|.o i,sy nm c,y,u,g]) (λm H' n'=>xG nm st g xs F s cu cC m.1 H' n'/\n'=n/\m.1 (g.l k)=q.1 (g.l k)) (DA c) d (cH λa x x h=>h.2.2▸h.1.2.2 _ hN) (λa g' f S j H n K R d e T=> ?_) (λg H n e=> ?_)<|kb I U U)
  .exact fM U (adf hn e.1 hB d λH' P=>T.1 _ _ _ (kb P e.2.1 (bC (b:=aA (g.l k) c) (λt=>by
    obtain rfl:=bq t
    exact Y (Qh d<|Y e.2.2<|gX.M<|aJ R) e.2.2) λt=>Y ((show S.1 (Gr.l g k)=a.1 (Gr.l g k)from by
     refine ot d (λz d=> ?_) λz d=> ?_
     .refine rR (sJ d) ?_;rfl
     .refine rR ((cj d)).2 ?_;show(bif aA (Gr.l g k) c then _ else _)=_;refine Y t ?_;rfl)) e.2.2)))
  .revert I K;refine rR e.2.1 ?_;intro I K
   exact K _ _ _ e.1
 rcases L with _|_;(
  refine(zH ?_);refine bY U w X<|FY hz<|p4<|nY U U ?_;rw[aD,Vz hl]
  refine cW d (λr d=> ?_) λr d=> ?_
  .refine g6 r ?_;refine ff<|bY U J U<|bY U w C<|eY E U A ?_;exact p _ d
  .revert K;refine rR (sJ d) ?_;intro K;exact gv r<|gv U<|K _ _ _ I);(refine(zH<|ff ?_);refine ff<|bY U J U<|bY U w C<|eY E U A ?_;exact p _ d)
theorem adi(hc:rq nm call)(S:∀H n Fo,xG nm st g xs F s cu cC Fo H n->H (.o 2 k 0)=M (.i 100 fs))(R:Pf nm g k fs)(G:GS nm g st cC)(C:∀x∈g.r k,has x xs=Z)(hN:has (g.l k) g.n=Z)(hz:fits (g.r k).L=Z)
  (hi:(Td<|g.r k)[i]?=M (c::m)) (I:xG nm st g xs F s cu cC q.1 H n) (l:GW g F k q (c::m)=M P)
  (K:∀N L f H' n',xG nm st g xs F s cu cC P.1 H' n'->Q .n ⟨[ax 1 0 0,a,b,.o P.2,ax 2 k 0,.I<|.o i,sy nm c,N,L,f],H',n'⟩):
  m8 call Q ⟨[ax 1 0 0,a,b,.o q.2,ax 2 k 0,.I<|.o i,sy nm c,N,L,f0],H,n⟩:=by
 refine ir (V4 hi) λhd J=> ?_
 have E:=I.1.1
 have p1:=R.2
 have p2:=S _ _ _ I
 have d:(g.r k).d (i+1)=m:=by refine rR df<|Y hd ?_;rfl
 refine(bY U E U ?_);refine tL ((I.3.2 1 5 0 U).t G.5) U ?_
 rw[vF hn,uH]
 refine cW l (λu l=> ?_) λu l=> ?_
 .refine g6 u<|dO E ⟨wA HV,(bY U p2 p1<|(wz ?_))⟩;refine⟨_,U,_,U,.i<|.i<|y6<|eI (i+1) U (na (na U<|lb<|(by rw[aD];exact J))<|(ba hz))<|(rR gG<|Y d<|bc l λr h l=>(hc (.t 61 n) I.1 (λx hx=>C x<|fm<|Y d hx) (λk a b z=>by cases z) I.3.A h ?_))⟩
  refine ff<|aM<|aE<|aM ?_;refine bL (aT _ _ _) (bc l λp X l=>ei (λy=>sy nm) r _ (λp g=>[ax 1 0 0,a,b,.o p.1.2,ax 2 k 0,.I<|.o i,sy nm c,ay 61 n,.o p.2,g]) (λp H' n'=>xG nm st g xs F s cu cC p.1.1 H' n'/\H' (.t 61 n)=M (.l<|r.m<|sy nm)) (coA c) X (cH λa y y h=>h.2) (λa g f a' j H n K hj l w T=> ?_) (λg' H n w=> ?_) ⟨I.N,aT _ _ _⟩)
  .exact fM U<|adh hn w.1 u l λH' A e=>T.1 _ _ _ ⟨A,(e _ _).t w.2⟩
  .refine gk<|aE<|adg hn S R ?_ hz w.1 u hN l λv f H' A=>K _ _ _ _ _ A
   exact rR d<|Y jm (qj J).s
 .revert K;refine rR (sJ l) ?_;intro K
  exact gv u<|K _ _ _ _ _ I
theorem adj(L:rq nm call)(u:k<g.p.L)(G:GS nm g st cC)(W:Hc g xs)(hN:has (g.l k) g.n=Z)(hz:fits (g.r k).L=Z)
  (I:xG nm st g xs F s cu cC q.1 H n) (h:c! g F q k=M m)
  (K:∀(e:V×V×V×V×V) H' n',xG nm st g xs F s cu cC m.1 H' n'->Q .n ⟨[ax 1 0 0,a,b,.o m.2,ax 2 k 0,e.1,e.2.1,e.2.2.1,e.2.2.2.1,e.2.2.2.2],H',n'⟩):
  m9 call Q ⟨[ax 1 0 0,a,b,.o q.2,ax 2 k 0,J,E,l,j,C],H,n⟩:=by
 refine cz (G.7 k u) λN t r=> ?_
 have A:=r.2
 have z:=(λH n y I=>(I.3.2 2 k 0 U).t t) _ _ _ I
 refine bY U z A ?_;refine Nt<|rR (V5 nm<|g.r k)<|ei (λi s=>ys i<|sy nm<|s.H 0) (Td<|g.r k) _ (λq e=>[ax 1 0 0,a,b,.o q.2,ax 2 k 0,e.1,e.2.1,e.2.2.1,e.2.2.2.1,e.2.2.2.2]) (λq H' n'=>xG nm st g xs F s cu cC q.1 H' n') (GW g F k) h (λi a g H n K d k=>RX k) (λm e o! x i H n K w h d T=> ?_) (λe H n d=> ?_) I (g₀:=(J,E,l,j,C))
 .cases o! with
  |nil=>exact nS h
  |cons c p=>
   exact jf<|adi hn L (λH n y I=>(I.3.2 2 k 0 U).t t) r G (W.4 k u) hN hz w d h λl j f H' n' v=>T.1 (_,_,l,j,f) _ _ v
 .exact K e _ _ d
theorem adk(hc:rq nm call)(G:GS nm g st cC)(W:Hc g xs)(hN:∀k,0<k->k<g.p.L->has (g.l k) g.n=Z)(hz:∀k,k<g.p.L->fits (g.r k).L=Z)(hy:fits g.p.L=Z)
  (I:xG nm st g xs F s cu cC N H n) (l:Ud g F N=M z)
  (K:WK (λx e=>[ax 1 0 0,a,b,e.1,e.2.1,e.2.2.1,e.2.2.2.1,e.2.2.2.2.1,e.2.2.2.2.2.1,e.2.2.2.2.2.2]) (xG nm st g xs F s cu cC) Q X N (v3,J,E,C,A,y,w) H n z):
  nf call Q ⟨[ax 1 0 0,a,b,v3,J,E,C,A,y,w],H,n⟩:=by
 have g1:=I.1.1
 refine aM<|aE<|aM<|bY U g1 U ?_;refine CC ((I.3.2 1 1 0 U).t G.2) U (by rw[aD,dy];exact hy) (r:=.t 62 n) I.3.A<|bL (aT _ _ _) ?_
 have e1:cut ((bX g.p.L).m λk=>ax 2 k 0) (M 1) aI=(rW 1<|g.p.L - 1).m λk=>ax 2 k 0:=by
  rw[W?,<-gG,JF,List.drop_range']
 refine Y e1<|bc l λv h l=> ?_
 obtain rfl:=sJ l
 refine ei (λx k=>ax 2 k 0) (rW 1<|g.p.L - 1) _ (λq e=>[ax 1 0 0,a,b,.o q.2,e.1,e.2.1,e.2.2.1,e.2.2.2.1,e.2.2.2.2.1,e.2.2.2.2.2]) (λq H' n'=>xG nm st g xs F s cu cC q.1 H' n'/\n<n'/\H' (.t 62 n)=M (.l<|(rW 1<|g.p.L - 1).m λk=>ax 2 k 0)) (c! g F) h (cH λa x x h=>h.2.2) (λv e k q'' i H n K S l m T=> ?_) (λe H n m=> ?_) (kb I.N (a8 _)<|aT _ _ _) (g₀:=(J,E,C,A,y,w))
 .refine sk m λj f R=> ?_
  obtain⟨d,u⟩:=List.mem_range'_1.m<|aJ S
  have p:k<g.p.L:=(λL=>B? L (λh=>absurd h<|ko.M d) λn (h:k<1+n)=>aH h (i5<|ur 1 n):∀L,k<1+(L - 1)->k<L) _ u
  exact adj hn hc p (G.m j.3 λk a b h=>zo h (P:=λk=>Z0 k a b=D) U U U) W (hN k (bZ (zQ 120) U d) p) (hz k p) ⟨j.1,j.2,j.3.S⟩ l λe H' n' c=>T.1 (_,e) _ _ ⟨⟨c.1,c.2,j.3.T c.3 λx x x h=>h⟩,aH f c.3.1,(c.3.3 62 _ f).t R⟩
 .obtain⟨F',z'⟩:=v
  refine aE<|(zH ?_);rcases z' with _|_;(exact K (_,_,_,_,_,_,_) _ _ m.1);(exact K.1 (_,_,_,_,_,_,_) _ _ m.1)
inductive θ(g:Gr)(xs:ao)(F:aa)(s:Nat)(Fo:aa):Prop
 |mk (cf:CfM g xs F) (lhs:∀k,0<k->k<g.p.L->has (g.l k) g.n=Z) (small:∀k,k<g.p.L->fits (g.r k).L=Z) (few:fits g.p.L=Z) (nfit:fits g.n.L=Z) (keys:bA lV g.n []=M g.n) (GC:has s g.n=Z) (loop:∃m,i7 (Ud g F) m (λa=>bif aA a s then[1]else[])=M (Fo,Z))
inductive FoI(nm:aa)(cu:Nat)(cC:Hp)(ds:ao)(H:Hp)(n:Nat):Prop
 |mk (dict:H (.o 11 0 0)=M (.d (ds.m λa=>(sy nm a,ax 6 a 0)))) (lists:∀x b,H (.o 6 x b)=bif has x ds&&aA b 0 then M (.l [])else aI) (now:cy Z0 cu cC n H) (frame:∀k a b,aA k 6=D->aA k 11=D->H (.o k a b)=cC (.o k a b))
end
theorem Rj(d:bM b)(f:Nat->V)(x:Nat)(v:V)(l:ao)(c:l.N)(h:has x l=Z):gi (l.m λa=>(sy b a,f a)) (sy b x) v=l.m λa=>(sy b a,bif aA a x then v else f a):=HO (NV d) f x v l h c
theorem Hq:∀{ds f:ao},bA lV l ds=M f->ds.N->f.N:=by
 induction l with
 |nil=>exact λh i=>rS h i
 |cons t r m=>exact λh i=>vw h λd c h=>m h (by
  refine sk (jW c) λc x g=>Y g<|j2.M ⟨i,GR _ _,λa k b j e=> ?_⟩
  revert c;refine rR (m1 j) ?_;intro c
  rw[gX.M (e▸k)]at c;exact bT c)
section
variable{nm:aa}(hn:bM nm){call:CF}{clo:ae}{Q:ah}{st:V}{g:Gr}{xs:ao}{F Fo:aa}{s cu:Nat}{cC:Hp}
include hn
theorem U!(L:cC (.o 1 0 0)=M (.i 283<|HB st))(I:FoI nm cu cC ds H n)(h:lV ds t=M l)
  (k:∀H' n',FoI nm cu cC l H' n'->Q .n ⟨[ax 1 0 0,a,sy nm t,J,E,C,A,y,w,v],H',n'⟩):oQ Q ⟨[ax 1 0 0,a,sy nm t,J,E,C,A,y,w,v],H,n⟩:=by
 refine sk (jW h) λq j i=> ?_;subst i
 have j:=ba (f:=λa=>(sy nm a,ax 6 a 0)) j
 have u:=(I.4 1 0 0 U U).t L
 have r:=I.1
 refine b9 ((I.2 t 0).t (by refine Y q ?_;rfl)) U ?_
 refine bY U u U<|(ee r U j ?_);refine Y (md hn _ _ _ _ q)<|k _ _ ⟨by rw[aT,aK];rfl,λx b=> ?_,((I.3.p U).p U).r,λk a b p m=> ?_⟩
 .rw[b8 U,jH]
  by_cases c:x=t/\b=0
  .rw[c.1,c.2,aT,bR t,jE];rfl
  .exact Y (bS _ _ λz=>c (by exact rR (Loc.o.inj z).2.1<|Y (Loc.o.inj z).2.2<|⟨U,U⟩))<|Y (I.2 x b)<|bC λd=>by
    have:aA t x=D:=qm λe=>c ⟨e.s,(beq_iff _ _).m d⟩
    rw[this,ef] λd=>by refine Y d ?_;rw[jl,jl]
 .exact Y (b8 m)<|Y (b8 p)<|I.4 k a b p m
theorem V'(hc:rq nm call)(u:fits (nm s).L=Z)(r:aA (nm s).L 0=D)(G:GS nm g st H)(M':θ g xs F s Fo)(P:k7 nm st xs F H)(h0:∀k m,n<=m->H (.t k m)=aI)(h1:H (.o 11 0 0)=M (.d []))(q:∀a b,H (.o 6 a b)=aI)
  (K:∀p H' n',xG nm st g xs F s n H Fo H' n'->Q (.r<|ax 11 0 0) ⟨p,H',n'⟩):aR oR (aR oS<|aR oT<|aR (ng call) nh) Q ⟨[ax 1 0 0,sy nm s,v2,N,L,J,E,C,A,w],H,n⟩:=by
 have d:=G.1
 have no:=λH' n' ds (I:FoI nm n H ds H' n')=>(I.4 1 5 0 U U).t G.5
 refine aM<|bY U d U ?_;refine kg G.5 (ei (λx=>sy nm) g.n (λi=>.k (.o 1 5 0,i,_)) (λx t=>[ax 1 0 0,sy nm s,t,N,L,J,E,C,A,w]) (FoI nm n H) lV M'.6 (qf (aD ..) λa H n h=>br _ (no H n _ h) (by refine Y dQ ?_;rfl)) (λds v y ds' i H' n' K hi j c T=> ?_) (λv H' n' c=> ?_) ⟨h1,q,.s h0,λx x x x x=>U⟩)
 .exact U! hn d c j λH' n' I'=>T.1 _ _ _ I'
 .refine aE<|aM ?_;exact Se u (Y r (gv U (aE (by
   have d:=(c.4 1 0 0 U U).t G.1
   have g2:=c.1
   have q:=ba (f:=λa=>(sy nm a,ax 6 a 0)) M'.5
   refine j8 M'.8 λm hm=>b9 ((c.2 s 1).t (by rw[Bool.and_comm];rfl)) U<|bY U d U<|(ee g2 U q ?_);refine Y (Rj hn _ _ _ _ (Hq M'.6 .nil) M'.7) (mD (λy (e:V×V×V×V×V×V×V)=>[ax 1 0 0,sy nm s,v,e.1,e.2.1,e.2.2.1,e.2.2.2.1,e.2.2.2.2.1,e.2.2.2.2.2.1,e.2.2.2.2.2.2]) (xG nm st g xs F s n H) (Ud g F) hm (λa e z H' n' K X KB j c hK hT y=> ?_) (λy y y y z=>bT z) (λe H' n' c y=> ?_) (by
    refine⟨⟨?_,?_,λx S=> ?_⟩,⟨?_,λa R=> ?_⟩,((c.3.p U).p U).r⟩
    .exact d
    .exact Y (b8 U)<|Y (b8 U)<|Y (c.4 _ _ _ U U) P.2
    .exact Y (b8 U)<|Y (b8 U)<|Y (c.4 _ _ _ U U)<|P.3 x S
    .refine congrArg (λl=>M<|O.d l)<|d4 λa y=> ?_
     delta s0
     rcases h:aA a s with _|_;(rfl);(refine Y (bq h) ?_;rfl)
    .rw[b8 U]
     delta s0
     rcases h:aA a s with _|_;(exact(bS _ _ λz=>by cases z).t<|(c.2 a 0).t (by refine Y R ?_;rfl));(
      refine Y (bq h)<|(aT _ _ _).t<|rR hn.3 ?_;rfl)) (g₀:=(N,L,J,E,C,A,w)))
   .exact zH<|hT _<|adk hn hc G M'.1.1 M'.2 M'.3 M'.4 c j hK
   .have d:=c.1.1
    refine bY U d U ?_;exact K _ _ _ c))))
end
def PH(d:aa)(call:CF):Prop:=∀{st:V} {g:Gr} {f:ao} {F e:aa} {s:Nat} {Q:ab} {c:aq} {H:Hp} {n:Nat},fits (d s).L=Z->aA (d s).L 0=D->GS d g st H->θ g f F s e->(∀k m,n<=m->H (.t k m)=aI)->
 H (.o 10 0 0)=M (.d [])->(∀a,H (.o 5 a 0)=aI)->H (.o 11 0 0)=M (.d [])->(∀a b,H (.o 6 a b)=aI)->
 (∀H' n',xG d st g f F s n H e H' n'->Q (ax 11 0 0) ⟨c,H',n'⟩)->call 273 [ax 1 0 0,sy d s] Q ⟨c,H,n⟩
theorem vJ{call:CF}:sd call (kS "compute_first") 283=M (call 265):=by kernel_rfl
theorem U2(E:bM c){call:CF}{st:V}{F:aa}(C:rq c call)(l:Ur c call)(j:fits (c s).L=Z)(i:aA (c s).L 0=D)(G:GS c g st H)(M':θ g A F s z)(y:∀k m,n<=m->H (.t k m)=aI)
  (q:H (.o 10 0 0)=M (.d [])) (w:∀a,H (.o 5 a 0)=aI) (p:H (.o 11 0 0)=M (.d [])) (v:∀a b,H (.o 6 a b)=aI) (K:∀d H' n',xG c st g A F s n H z H' n'->Q (.r<|ax 11 0 0) ⟨d,H',n'⟩):
  lF call Q ⟨[ax 1 0 0,sy c s,v2,X,T,S,R,N,L,J],H,n⟩:=by
 have f:=G.1
 refine aM<|bY U f U ?_;refine KD p U<|aE<|aM<|bY U f U ?_;exact KD q U<|dO f ⟨wA vJ,(i3 vJ<|l G M'.1 y q w λH' n' I=>(aE<|V' E C j i (G.m I.2 λk a b h=>zo h (P:=λk=>wF k a b=D) U U U) M' I.1 I.2.4 (I.2.t U p) (λa b=>I.2.t U<|(v a b)) λd u r e=>K _ _ _ ⟨e.1,e.2,cy.T (I.2.l λk a b h=>((on (on h).1).1)) e.3 λx x x h=>h⟩))⟩
theorem q8:dT (d+1) 273=λvs=>lW (gw dU (lF<|dT d) 1 [.N] vs) (gw dU (lF<|dT d) 2 [] vs):=by kernel_rfl
noncomputable def dot(l:ao)(i:Nat):List Nat:=l.t i++9::l.d i
def it0(a:aa)(g:Gr)(k i:Nat):List (Nat×V):=[(0,sy a<|g.l k),(1,V.t<|(dot (g.r k) i).m<|sy a),(2,.I<|.o k),(15,.I<|.o i),(16,ax 4 k i),(8,.I<|.o<|(g.r k).L+1),(9,ax 2 k 1)]
noncomputable def wI(k i c a b:Nat):Bool:=(aA c 3||aA c 4)&&aA a k&&aA b i
inductive Ww(k i cu:Nat)(cC:Hp)(fl:ar)(H:Hp)(n:Nat):Prop
 |mk (at_:H (.o 3 k i)=M (.i 135 fl)) (now:cy (wI k i) cu cC n H)
theorem uJ{fl:ar}{K:aj}(S:Ww k i c b fl H n)(d:fits fl.L=Z)(q:∀H',Ww k i c b (j9 fl j v) H' n->(∀t a,H' (.t t a)=H (.t t a))->H' (.o 4 k i)=H (.o 4 k i)->K () ⟨ax 3 k i::r,H',n⟩):
 sA 0 j v K ⟨ax 3 k i::r,H,n⟩:=AF U S.1 d<|q _ ⟨hA,S.2.p (by delta wI;refine Y (bR k)<|Y (bR i) ?_;rfl)⟩ (λx x=>iw)<|b8 U
def vm(c:aa)(call:CF):Prop:=∀{g:Gr} {k i:Nat} {b:ar} {Q:ab} {a:aq} {H:Hp} {n:Nat},H (.o 2 k 0)=M (.i 100 b)->Pf c g k b->H (.o 3 k i)=M (.i 135 [])->H (.o 4 k i)=aI->(∀k m,n<=m->H (.t k m)=aI)->i<=(g.r k).L->fits ((g.r k).L+1)=Z->
 (∀H' n',Ww k i n H (it0 c g k i) H' n'->H' (.o 4 k i)=M (.d [])->Q .N ⟨a,H',n'⟩)->call 118 [ax 3 k i,ax 2 k 0,.I<|.o i] Q ⟨a,H,n⟩
section
variable(hn:bM nm)(h9:nm 9=[46]){call:CF}
include h9
theorem NP(p2:H (.o 2 k 0)=M (.i 100 X))(j:Pf nm g k X)(h3:H (.o 3 k i)=M (.i 135 []))(h4:H (.o 4 k i)=aI)(h0:∀k m,n<=m->H (.t k m)=aI)(hi:i<=(g.r k).L)(hz:fits ((g.r k).L+1)=Z)
  (K:∀H' n',Ww k i n H (it0 nm g k i) H' n'->H' (.o 4 k i)=M (.d [])->Q .n ⟨[ax 3 k i,ax 2 k 0,.I<|.o i],H',n'⟩):wH call Q ⟨[ax 3 k i,ax 2 k 0,.I<|.o i],H,n⟩:=by
 have z:∀{fl H' n'},Ww k i n H fl H' n'->H' (.o 2 k 0)=M (.i 100 X):=λS=>(S.2.2 2 k 0 U).t p2
 have pn:=j.1
 have pp:=j.2
 have pk:=j.3
 have pu:=j.5
 have e:=ba (f:=sy nm) (by rw[cG]at hz⊢;have:=of_decide_eq_true hz;exact decide_eq_true<|(bZ (zQ 23) U this))
 have T:=congrArg V.s h9.s
 have ed:((g.r k).m<|sy nm).t i++V.s [46]::((g.r k).m<|sy nm).d i=(dot (g.r k) i).m (sy nm):=(Y aK<|Y dc<|Y o1<|Y gG<|Y T U)
 have R:(dot (g.r k) i).L=(g.r k).L+1:=aL.t (congrArg (·+1)<|aL.s.t<|congrArg _<|jZ _ _)
 have d:fits ((dot (g.r k) i).m<|sy nm).L=Z:=by rw[aD,R];exact hz
 refine aM<|bY U p2 pn ?_;refine uJ ⟨h3,.s h0⟩ U λP h e1 y=> ?_
 have p1:=z h
 refine aE<|aM<|bY U p1 pp ?_;refine br _ U<|Ej e<|br (.t 63 n) h.2.A ?_
 have S2:Ww k i n H _ (aZ P (.t 63 n)<|.l<|(g.r k).m<|sy nm) (n+1):=⟨h.1,h.2.e⟩
 have l2:=aT P (.t 63 n)<|.l<|(g.r k).m<|sy nm
 have f2:=y.t h4
 refine uJ S2 U λH3 N e3 x=> ?_
 have p3:=z N
 have l3:=(e3 63 n).t l2
 have f3:=x.t f2
 refine aE<|aM<|bY U p3 pk ?_;refine uJ N U λH4 S4 e4 w=> ?_
 have l4:=(e4 63 n).t l3
 have f4:=w.t f3
 refine aE ?_;refine uJ S4 U λL J e5 v=> ?_
 have l5:=(e5 63 n).t l4
 have f5:=v.t f4
 refine aM ?_;refine eJ f5 ?_
 have S6:Ww k i n H _ (aZ L (.o 4 k i)<|.d []) (n+1+1):=⟨J.1,(J.2.p (by delta wI;refine Y (bR k)<|Y (bR i) ?_;rfl)).r⟩
 have l6:=l5
 have f6:=aT L (.o 4 k i)<|.d []
 refine uJ S6 U λI u e7 s=> ?_
 have E:=(e7 63 n).t l6
 have f7:=s.t f6
 have C:=u.1
 refine aE<|aM<|bY U C U<|fE E ?_;refine⟨_,_,U,i,U,(Loc.t 63 n),(Uz (sy nm)<|Gr.r g k),U,E,e,lb<|(by rw[aD];exact hi),((Y ed ?_))⟩
 have S8:Ww k i n H _ (aZ I (.t 63 n)<|.l<|(dot (g.r k) i).m<|sy nm) (n+1+1):=⟨u.1,u.2.u (lr)<|du (zQ 5) U⟩
 have l8:=aT I (.t 63 n)<|.l<|(dot (g.r k) i).m<|sy nm
 have f8:=f7
 refine aE<|aM<|bY U C U ?_;refine KG l8 d<|uJ S8 U λH9 A T r=> ?_
 have a9:=A.1
 have f9:=r.t f8
 refine aE<|aM<|bY U a9 U<|FY d ?_;rw[aD,R]
 refine uJ A U λH10 c e10 b=> ?_
 have q:=z c
 have p:=b.t f9
 refine aE<|bY U q pu ?_;exact uJ c U λH11 l e11 a=>K _ _ l<|a.t p
end
theorem Vr(i:h 9=[46])(d:Nat):vm h (dT<|d+1):=λg f e c b a hz K=>by
 exact Y (show dT (d+1) 118=gw wU (wH<|dT d) 3 []from by kernel_rfl)<|⟨U,NP i g f e c b a hz K⟩
def PS(call:CF):Prop:=∀{l:Loc} {vs:aq} {b:ar} {Q:ab} {a:aq} {H:Hp} {n:Nat},H l=M (.i 100 b)->fO b 1=M (V.t vs)->fits vs.L=Z->Q (.I<|.o vs.L) ⟨a,H,n⟩->call 83 [.L l] Q ⟨a,H,n⟩
theorem Y9(d:Nat):PS (dT<|d+1):=λh b a K=>by
 exact Y (show dT (d+1) 83=gw sP (zL<|dT d) 1 []from by kernel_rfl)<|⟨U,by refine bY U h b<|FY a ?_;exact K⟩
def kq(g:Gr)(k i:Nat):Bool:=bif bg i (g.r k).L then !has ((g.r k).g i 0) g.L else Z
def Nc(g:Gr)(k i:Nat):V:=bif kq g k i then ax 12 k i else .L (.o 7 ((g.r k).g i 0) 0)
def Fg(g:Gr)(k i:Nat):Nat:=(dot (g.r k) i).g (bif aA i 0 then(g.r k).L else i - 1) 0
def VN(g:Gr)(k i:Nat):V:=bif bg i (g.r k).L then .L (.o 3 k<|i+1)else .N
def Y0(a:aa)(g:Gr)(k i:Nat):List (Nat×V):=it0 a g k i++[(17,Nc g k i),(18,sy a<|Fg g k i)]
def Ra(a:aa)(g:Gr)(k i:Nat):List (Nat×V):=Y0 a g k i++[(11,VN g k i)]
noncomputable def wJ(k i c a b:Nat):Bool:=(aA c 3||aA c 4||aA c 12)&&aA a k&&aA b i
theorem Z2:wJ k i 3 k i=Z:=by delta wJ;refine Y (bR k)<|Y (bR i) ?_;rfl
theorem pX(a:i<=l.L):(dot l i).L=l.L+1:=aL.t (congrArg (·+1)<|aL.s.t<|congrArg _<|jZ _ _)
theorem J1(a:i<l.L):(dot l i)[i+1]?=M (l.g i 0):=by
 delta dot
 rw[bO (by exact Y gI<|bU (zQ 24) U<|lU _ _),gI,jV<|eD a,G4,GO,M5,mM,aW,aP a]
 rfl
section
variable(hn:bM nm){k i:Nat}{st:V}{Q:ah}{H cC:Hp}{n cu:Nat}
include hn
theorem acS(N:cy (wJ k i) cu cC n H)(E:H (.o 1 0 0)=M (.i 283<|HB st))(d:H (.o 1 2 0)=M (.d<|g.L.m λa=>(sy nm a,ax 7 a 0)))(w:H (.o 3 k i)=M (.i 135<|it0 nm g k i))(u:H (.o 12 k i)=aI)(A:i<=(g.r k).L)(hz:(g.r k).L+1<=900)
  (K:∀H' n',cy (wJ k i) cu cC n' H'->H' (.o 3 k i)=M (.i 135<|it0 nm g k i++[(17,Nc g k i)])->H' (.o 4 k i)=H (.o 4 k i)->H' (.o 12 k i)=(bif kq g k i then M (.l [])else aI)->Q .n ⟨[ax 1 0 0,p,e,.I<|.o i,t,ax 3 k i],H',n'⟩):
  pN Q ⟨[ax 1 0 0,p,e,.I<|.o i,t,ax 3 k i],H,n⟩:=by
 have v:=pX A
 have s:fits ((dot (g.r k) i).m<|sy nm).L=Z:=by rw[aD,v,cG];exact decide_eq_true<|bZ (zQ 25) U hz
 obtain⟨y,x⟩:=(show decide (-1000<=(aY<|i+1))=Z/\decide (aY (i+1)<=1000)=Z from by exact⟨decide_eq_true<|fy (by decide)<|dW<|i+1,decide_eq_true<|kU.M<|(eM (zQ 86) U A hz)⟩)
 have q:kq g k i=Z->∀T,T∈["IndexError","KeyError"]->(T∈["IndexError","KeyError"]/\pM Q ⟨[ax 1 0 0,p,e,.I<|.o i,t,ax 3 k i],H,n⟩):=λh T C=>by
  refine⟨C,(b9 (r:=.o 12 k i) u U ?_)⟩
  refine AF U (w) U<|K _ _ ((N.p (by delta wJ;refine Y (bR k)<|Y (bR i) ?_;rfl)).p Z2).r (by rw[aT];delta Nc;refine Y h ?_;rfl) ?_ ?_
  .exact Y (b8 U)<|Y (b8 U) U
  .rw[b8 U,aT,h];rfl
 refine⟨U,?_⟩
 refine bY U E U<|bY U w U<|(wz ?_);by_cases c:i<(g.r k).L
 .refine Xx (j:=aY<|i+1) (m:=i+1) s y x ?_ (by refine Y aN<|Y (J1 c) ?_;rfl) ?_
  .show(bif bg (i+1) _ then M (i+1)else aI)=_
   rw[aD,v,tb (by exact bU (zQ 26) U c)];rfl
  exact bC (b:=has ((g.r k).g i 0) g.L) (λl=>by
   have h:kq g k i=D:=by delta kq;refine Y (tb c)<|Y l ?_;rfl
   refine TJ d U (k9 hn (f:=λa=>ax 7 a 0) l) ?_
   refine AF U w U<|K _ _ (N.p Z2) (by rw[aT];delta Nc;refine Y h ?_;rfl) ?_ ?_
   .exact(b8 U)
   .refine Y (b8 U)<|Y u<|Y h ?_;rfl) λl=>by
   exact EX d U (by rw[vF hn,l];rfl)<|q (by delta kq;refine Y (tb c)<|Y l ?_;rfl) _<|.t _<|.h _
 .have h:kq g k i=Z:=by delta kq;refine Y ((by rw[<-bN,cb];exact c:bg i (g.r k).length=false)) ?_;rfl
  refine TK (j:=aY<|i+1) (by intro z;have:=congrArg kh z;rw[aD,v]at this;cases this) s y x ?_<|q h _<|.h _
  show(bif bg (i+1) _ then M (i+1)else aI)=_
  rw[aD,v,(by rw[<-bN,cb];exact(λhz=>zF<|eM (zQ 87) U (cR c) hz):bg (i+1) ((g.r k).length+1)=false)];rfl
theorem Yk(a:i<=(g.r k).L):∃m,idx (g.r k).L.succ (aY i - 1)=M m/\(dot (g.r k) i)[m]?=M (Fg g k i):=by
 rcases i with _|j;(
  refine(br ((g.r k).L) U ?_)
  show _=M ((dot (g.r k) 0).g (g.r k).L 0)
  refine Y aW<|Y (aP<|bU (zQ 12) U<|zG<|pX a) ?_;rfl);(
  refine(br j ?_ ?_)
  .have e:aY (j+1) - 1=aY j:=fR (j:Int) 1
   refine Y e ?_
   show(bif bg j _ then M j else aI)=_
   refine Y (tb (by exact bU (zQ 2) U a)) ?_;rfl
  .show _=M ((dot (g.r k)<|j+1).g j 0)
   refine Y aW<|Y (aP<|ju (zQ 88) U a<|zG<|pX a) ?_;rfl)
theorem acT{fl:ar}(N:cy (wJ k i) cu cC n H)(d:H (.o 3 k i)=M (.i 135 fl))(q:fO fl 1=M (V.t<|(dot (g.r k) i).m<|sy nm))(l:fits fl.L=Z)(b:i<=(g.r k).L)(hz:(g.r k).L+1<=900)
  (K:∀H',cy (wJ k i) cu cC n H'->H' (.o 3 k i)=M (.i 135<|j9 fl 18<|sy nm<|Fg g k i)->(∀j,H' (.o 4 k j)=H (.o 4 k j))->(∀j,H' (.o 12 k j)=H (.o 12 k j))->Q .n ⟨[h,p,a,.I<|.o i,c,ax 3 k i],H',n⟩):
  pO Q ⟨[h,p,a,.I<|.o i,c,ax 3 k i],H,n⟩:=by
 refine cz (Yk hn b) λm f e=> ?_
 refine⟨U,(bY U d q<|(p4 ?_))⟩;refine Xx (m:=m) (u:=sy nm<|Fg g k i) (by rw[aD,(pX b),cG];exact decide_eq_true<|bZ (zQ 25) U hz) ?_ ?_ (by rw[aD,(pX b)];exact f) (by refine Y aN<|Y e ?_;rfl) ?_
 . exact decide_eq_true<|fy (by decide)<|Int.sub_le_sub_right (dW i) 1
 . exact decide_eq_true<|fy (Int.sub_le_self _ (by decide))<|kU.M<|aC b<|aC (fB hz) (by decide)
 exact AF U d l<|K _ (N.p Z2) (hA) (λj=>b8 U) λj=>b8 U
end
noncomputable def UP(L:Nat):Option Nat->Option (BN<|Option Nat)
 |some i=>M<|bif aO i L then .g (M<|i+1)else .r aI
 |none=>aI
theorem Qo(h:i<=L):UP L (M i)=M (.g<|M<|i+1):=by delta UP;dsimp only;refine Y (lb h) ?_;rfl
theorem Qn(h:¬i<=L):UP L (M i)=M (.r aI):=by delta UP;dsimp only;refine Y ((by rw[<-bN,bh];exact h:aO i L=false)) ?_;rfl
theorem Qp:∀d i,i+d=L+1->i7 (UP L) (d+1) (M i)=M (aI,Z)
 :=λc=>c.r (λi a=>by show ob (UP L<|M i) _=_;rw[Qn (by exact λhz=>zF<|eM (zQ 89) U (zG a) hz)];rfl) (λd b i a=>by show ob (UP L<|M i) (BN.rec (i7 (UP L)<|d+1) _ _)=_;rw[Qo (by exact lR (zQ 43) U<|zE a)];exact b (i+1)<|bo (lR (zQ 90) U<|zE a)<|lR (zQ 91) U<|zG a)
noncomputable def wB(k c a b:Nat):Bool:=(aA c 3||aA c 4||aA c 12||(aA c 2&&aA b 0))&&aA a k
noncomputable def En(k:Nat):Nat->Loc
 |0=>.o 2 k 0
 |j+1=>.o 3 k j
def PZ(b:aa)(g:Gr)(k:Nat)(a:ar):Prop:=Pf b g k a/\fO a 14=aI/\fO a 13=aI
inductive BI(nm:aa)(g:Gr)(k m cu:Nat)(cC:Hp)(i:Nat)(H:Hp)(n:Nat):Prop
 |mk (now:cy (wB k) cu cC n H) (prod:∃fs,H (.o 2 k 0)=M (.i 100 fs)/\PZ nm g k fs/\(fs.L<=16/\(i=0->fs.L<=15))/\(0<i->fO fs 11=M (ax 3 k 0))) (full:∀j,j+1<i->H (.o 3 k j)=M (.i 135 (Ra nm g k j))) (last:∀j,j+1=i->H (.o 3 k j)=M (.i 135 (Y0 nm g k j))) (dicts:∀j,j<i->H (.o 4 k j)=M (.d [])) (aft:∀j,j<i->kq g k j=Z->H (.o 12 k j)=M (.l [])) (free:∀j,i<=j->H (.o 3 k j)=aI/\H (.o 4 k j)=aI/\H (.o 12 k j)=aI) (lst:H (.t 64 m)=M (.l ((bX i).m λj=>ax 3 k j))) (lt:cu<=m/\m<n)
theorem TA:∀c a b,wJ k i c a b=D->wI k i c a b=D:=λc a b h=>by
 delta wI
 rcases uy.m h with h|h
 .rcases uy.m h with h|h
  .rw[(on h).1,g8,g8]
  .rw[h,jl,g8]
 .rw[h,jl]
theorem I5{t j:Nat}(h:(aA t 3||aA t 4||aA t 12||(aA t 2&&aA j 0))=Z):wB k t k j=Z:=by delta wB;refine Y (bR k)<|Y h ?_;rfl
inductive BJ(nm:aa)(g:Gr)(k m i n₁:Nat)(acx:Hp)(H:Hp)(n:Nat):Prop
 |mk (now:cy (wJ k i) n₁ acx n H) (at_:H (.o 3 k i)=M (.i 135 (Y0 nm g k i))) (dict:H (.o 4 k i)=M (.d [])) (aft:H (.o 12 k i)=(bif kq g k i then M (.l [])else aI))
section
variable{nm:aa}{g:Gr}{k i m cu n n':Nat}{cC H H':Hp}
theorem xV(a:ar)(j:Nat)(v:V):(j9 a j v).L<=a.L+1:=a.R (lr) λp r b=>by
 show(bif aA p.1 j then(p.1,v)::r else p::j9 r j v).L<=_
 rcases aA p.1 j with _|_;(exact bz b);(exact d7 _)
theorem Pf.p(h:Pf nm g k b)(a:9<j):Pf nm g k (j9 b j v):=
 ⟨by rw[fe,if_neg (by exact(λhz=>zF<|Df (zQ 92) U a<|zG hz))];exact h.1,by rw[fe,if_neg (by exact(λhz=>zF<|Df (zQ 93) U a<|zG hz))];exact h.2,by rw[fe,if_neg (by exact(λhz=>zF<|Df (zQ 94) U a<|zG hz))];exact h.3,by rw[fe,if_neg (by exact(λhz=>zF<|Df (zQ 95) U a<|zG hz))];exact h.4,by rw[fe,if_neg (by exact(λhz=>zF<|Df (zQ 96) U a<|zG hz))];exact h.5⟩
theorem PZ.P(h:PZ nm g k b)(a:9<j/\j≠14/\j≠13):PZ nm g k (j9 b j v):=⟨h.1.p a.1,by rw[fe,if_neg (λe=>a.2.1 (by first|exact e|exact e.s))];exact h.2.1,by rw[fe,if_neg (λe=>a.2.2 (by first|exact e|exact e.s))];exact h.2.2⟩
def acM(nm:aa)(g:Gr)(k m cu:Nat)(cC:Hp)(i:Nat)(H:Hp)(n:Nat)(c:qJ)(b:ar):Prop:=
 let a:=aZ H (En k i)<|.i c<|j9 b 11<|ax 3 k i
 H (En k i)=M (.i c b)/\fits b.L=Z/\a (.o 3 k i)=M (.i 135<|Y0 nm g k i)/\a (.t 64 m)=M (.l<|(bX i).m λj=>ax 3 k j)/\
  BI nm g k m cu cC (i+1) (aZ a (.t 64 m)<|.l<|(bX i).m (λj=>ax 3 k j)++[ax 3 k i]) n
theorem BJ.t(e:BI nm g k m cu cC i H n)(J:BJ nm g k m i (n+1) (aZ H (.o 3 k i)<|.i 135 []) H' n')(R:i<=(g.r k).L):∃c u,acM nm g k m cu cC i H' n' c u:=by
 have l:∀{t j:Nat},j≠i->H' (.o t k j)=H (.o t k j):=λf=>J.1.t (by
   delta wJ
   rw[(qm f),jl])<|(hN λz=>f (by refine Y (Loc.o.inj z).1<|rR (Loc.o.inj z).2.2 ?_;rfl))
 have P:cy (wB k) cu cC n' H':=((e.1.p<|I5 U).r).T (J.1.l λS a b h=>by
  delta wJ
  rcases uy.m h with h|h
  .rw[(on h).1,g8,g8]
  .rw[h,jl,g8]) λx x x h=>h
 have N:(bX i).m (λj=>ax 3 k j)++[ax 3 k i]=(bX<|i+1).m (λj=>ax 3 k j):=by refine Y Bw<|Y aK ?_;rfl
 have p:cu<=m/\m<n':=⟨e.9.1,aH e.9.2<|fB J.1.1⟩
 have ls:H' (.t 64 m)=_:=(((J.1.3 _ _<|bU (zQ 2) U e.9.2))).t e.8
 refine hM e.2 λu L I A Q=> ?_
 have E:∀j,j<i+1->H' (.o 4 k j)=M (.d []):=λj f=>by
  rcases lI.m f with h|h
  .exact(l<|kX h).t<|e.5 j h
  .exact h▸J.3
 have C:∀j,j<i+1->kq g k j=Z->H' (.o 12 k j)=M (.l []):=λj f s=>by
  rcases lI.m f with h|h
  .exact(l<|kX h).t<|e.6 j h s
  .subst h;refine Y J.4<|Y s ?_;rfl
 have r:∀j,i+1<=j->H' (.o 3 k j)=aI/\H' (.o 4 k j)=aI/\H' (.o 12 k j)=aI:=λj f=>by
  exact sk (e.7 j<|bU (zQ 3) U f) λa b d=>⟨(l (by exact(λhz=>zF<|eM (zQ 1) U f<|zE hz))).t a,(l (by exact(λhz=>zF<|eM (zQ 1) U f<|zE hz))).t b,(l (by exact(λhz=>zF<|eM (zQ 1) U f<|zE hz))).t d⟩
 rcases i with _|i;(
  refine(⟨100,u,((((J.1.t U)) L)),((by rw[cG];exact decide_eq_true<|bZ (zQ 44) U A.1)),J.2,ls,((Y N<|⟨(P.p<|I5 U).u p.1 p.2,(ie _ (((aT _ _ _))) (I.P (by decide)) (⟨aC (xV _ _ _)<|bz<|A.2 U,λz=>iZ z⟩) (λx=>by rw[fe,if_pos U])),λj f=>absurd f<|(λhz=>zF<|bZ (zQ 97) U f),λj f=> ?_,λj f=>((((E j f)))),λj f s=>((((C j f s)))),λj f=> ?_,aT _ _ _,p⟩))⟩)
  .exact Y ((bo (bZ (zQ 98) U<|zE f) (du (zQ 45) U):j=0))<|J.2
  .exact(kb (((r j f)).1) (((r j f)).2.1)<|gY.t<|((r j f)).2.2));(
  have y:j9 (Y0 nm g k i) 11 (.L<|.o 3 k<|i+1)=Ra nm g k i:=by
   delta Ra VN;refine Y (tb (by exact bU (zQ 12) U R)) ?_;rfl
  refine⟨135,Y0 nm g k i,(l ((λhz=>zF (bZ (zQ 0) U (zG hz))))).t (e.4 i U),U,(bS _ _ (λz=>by cases z)).t J.2,ls,(Y N ?_)⟩
  have q:∀{t j:Nat},t≠3\/j≠i->∀{v w},aZ (aZ H' (En k (i+1)) v) (.t 64 m) w (.o t k j)=H' (.o t k j):=λh=>gY.t (bS _ _ λz=>by cases z;simp at h)
  refine⟨(P.p (I5 U)).u p.1 p.2,(ie u (((((J.1.t U)) L))) I (⟨A.1,λz=>iZ z⟩) (λx=>Q (cD _))),λj f=> ?_,λj f=> ?_,λj f=>((E j f)),λj f s=>((C j f s)),λj f=> ?_,aT _ _ _,p⟩
  .by_cases h:j=i
   .revert e J l r y q f;refine rR h ?_;intro e J l r y q f;show aZ _ (.o 3 k j) _ _=_;rw[aT,y]
   .exact(q (.i h)).t ((l ((λhz=>zF (eM (zQ 99) U f (zG hz))))).t (e.3 j (gW (qY (gp (fC f)) h))))
  .exact Y ((bo (bU (zQ 100) U (zE f)) (bU (zQ 101) U (zG f)):j=i+1)) ((q (.i ((λhz=>zF (bZ (zQ 0) U (zE hz)))))).t J.2)
  .exact(kb ((q (.i ((λhz=>zF (eM (zQ 102) U f (zE hz)))))).t ((r j f)).1) ((r j f)).2.1 ((r j f)).2.2))
end
section
variable{nm:aa}(hn:bM nm){call:CF}{clo:ae}{g:Gr}{k i m:Nat}{st:V}{Q:ah}{H cC:Hp}{n cu:Nat}
include hn
inductive BD(nm:aa)(g:Gr)(k L cu:Nat)(cC:Hp)(H:Hp)(n:Nat):Prop
 |mk (now:cy (wB k) cu cC n H) (prod:∃fs,H (.o 2 k 0)=M (.i 100 fs)/\PZ nm g k fs/\fs.L<=L/\fO fs 11=M (ax 3 k 0)) (full:∀j,j<=(g.r k).L->H (.o 3 k j)=M (.i 135 (Ra nm g k j))) (dicts:∀j,j<=(g.r k).L->H (.o 4 k j)=M (.d [])) (aft:∀j,j<=(g.r k).L->kq g k j=Z->H (.o 12 k j)=M (.l []))
theorem Ym(w:PS call)(hz:(g.r k).L+1<=900)(v:i=(g.r k).L+1)(a:BI nm g k m cu cC i H n)
  (K:∀H' n',BD nm g k 16 cu cC H' n'->Q .brk ⟨[ax 1 0 0,ax 2 k 0,.L<|En k i,.I<|.o i,ay 64 m,.N],H',n'⟩):
  oC call Q ⟨[ax 1 0 0,ax 2 k 0,.L<|En k i,.I<|.o i,ay 64 m,u],H,n⟩:=by
 refine hM a.2 λs c d r p=> ?_
 subst v
 refine .i<|.i<|dO c<|i3 (by kernel_rfl)<|((λQ q=>w c d.1.2 (by rw[aD,cG];exact decide_eq_true<|bZ (zQ 16) U hz) q)) _<|eI (((g.r k).m<|sy nm).L) U ((by rw[aD];exact bZ (zQ 16) U hz))<|(R1 ?_);refine g6 (by rw[aD];exact decide_eq_true<|dG.M<|a8 _) ?_
 refine AF U (l:=.o 3 k (g.r k).L) (a.4 (g.r k).L U) U ?_
 have f:j9 (Y0 nm g k (g.r k).L) 11 .N=Ra nm g k (g.r k).L:=by
  delta Ra VN;refine Y ((by rw[<-bN,cb];exact(λhz=>zF<|bZ (zQ 0) U hz):bg (g.r k).length (g.r k).length=false)) ?_;rfl
 refine Y f ?_
 refine aM<|F3<|H0 ?_;refine K _ _ ⟨a.1.p<|I5 U,(ie s c d r.1<|p<|cD _),λj b=> ?_,λj b=>((a.5 j<|bU (zQ 27) U b)),λj b e=>((a.6 j (bU (zQ 27) U b) e))⟩
 by_cases h:j=(g.r k).L
 . exact rR h hA
 . exact(hN λz=>h (by refine Y (Loc.o.inj z).2.2 ?_;rfl)).t<|a.3 j<|gW<|qY b h
theorem Q?(hI:vm nm call)(hL:PS call)(gr:H (.o 1 0 0)=M (.i 283<|HB st))(l:H (.o 1 2 0)=M (.d<|g.L.m λa=>(sy nm a,ax 7 a 0)))(v:H (.o 2 k 0)=M (.i 100 y))(w:PZ nm g k y)(T:y.L<=15)
  (S:∀k m,n<=m->H (.t k m)=aI) (L:∀j,H (.o 3 k j)=aI/\H (.o 4 k j)=aI/\H (.o 12 k j)=aI) (hz:(g.r k).L+1<=900)
  (K:∀(e:V×V×V×V) H' n',BD nm g k 17 n H H' n'->Q .n ⟨[ax 1 0 0,ax 2 k 0,e.1,e.2.1,e.2.2.1,e.2.2.2],H',n'⟩):
  oE call Q ⟨[ax 1 0 0,ax 2 k 0,v2,v3,v4,I],H,n⟩:=by
 refine b9 (r:=.t 64 n) (S _ _<|aG _) U ?_
 have N0:cy (wB k) n H n H:=.s S
 have B0:BI nm g k n n H 0 (aZ H (.t 64 n)<|.l []) (n+1):=⟨N0.e,(ie y v w (⟨by exact bZ (zQ 104) U T,λx=>T⟩) (λz=>absurd z<|fY _)),λj d=>absurd d (by exact(λhz=>zF<|bZ (zQ 105) U d)),λj d=>absurd d (by exact(λhz=>zF<|bZ (zQ 28) U<|zE d)),λj d=>absurd d (by exact(λhz=>zF<|bZ (zQ 28) U d)),λj d=>absurd d (by exact(λhz=>zF<|bZ (zQ 28) U d)),λj x=>⟨((L j).1),((L j).2.1),((L j).2.2)⟩,aT _ _ _,⟨aG _,a8 _⟩⟩
 refine mD (λ(a:Option Nat) (e:V×V×V×V)=>match a with|some i=>[ax 1 0 0,ax 2 k 0,.L<|En k i,.I<|.o i,ay 64 n,e.1]|none=>[ax 1 0 0,ax 2 k 0,e.1,e.2.1,ay 64 n,e.2.2.2]) (λa H' n'=>match a with|some i=>i<=(g.r k).L+1/\BI nm g k n n H i H' n'|none=>BD nm g k 16 n H H' n') (UP (g.r k).L) (Qp _ 0<|eE _) (λa e s H' n' K X KB E f R hT x=> ?_) (λx x x x z=>bT z) (λe H' n' f x=> ?_) ⟨cO _,B0⟩ (g₀:=(I,.N,.N,.N))
 .refine zH<|hT _ ?_
  rcases a with _|i;(exact nS E);(
   by_cases h:i<=(g.r k).L
   .obtain rfl:=aV<|(Qo h).s.t E
    refine hM f.2.2 λy v w x x=> ?_
    refine .i<|.i<|dO v<|i3 (by kernel_rfl)<|((λK q=>hL v w.1.2 (by rw[aD,cG];exact decide_eq_true<|bZ (zQ 16) U hz) q)) _<|eI (((g.r k).m<|sy nm).L) U ((by rw[aD];exact bZ (zQ 16) U hz))<|(R1 ?_);refine gv (by rw[aD];exact decide_eq_false<|qX.M<|kU.M h) ?_
    refine CA (r:=.o 3 k i) (f.2.7 i<|lr).1<|hI (g:=g) (v) w.1 (hA) (((f.2.7 i<|lr).2.1)) (λk' m' h=>((f.2.1.4 k' m'<|bU (zQ 3) U h))) h (by rw[cG];exact decide_eq_true<|bZ (zQ 25) U hz) λH1 n1 u d1=>R5 ?_;refine acS hn (st:=st) (u.2.l (W':=wJ k i) TA) (((u.2.l (W':=wJ k i) TA).2 1 0 0 U).t<|(((f.2.1.2 1 0 0 U).t gr))) (((u.2.l (W':=wJ k i) TA).2 1 2 0 U).t<|(((f.2.1.2 1 2 0 U).t l))) u.1 ((u.2.2 12 k i U).t<|(f.2.7 i<|lr).2.2) h hz λH2 n2 N2 a2 d2 f2=> ?_
    refine acT hn N2 a2 U U h hz λH3 N3 a3 d3 f3=> ?_
    have J:BJ nm g k n i (n'+1) (aZ H' (.o 3 k i)<|.i 135 []) H3 n2:=⟨N3,a3,(d3 i).t<|d2.t d1,(f3 i).t f2⟩
    refine Y! (J.t f.2 h) λc p t1 t2 t3 P t5=> ?_
    refine AF U t1 t2 ?_
    refine abc t3<|aM<|(fE P ?_);refine gA P (by rw[aD,dy,cG];exact decide_eq_true<|eM (zQ 103) U h hz)<|aE ?_;refine aM<|aE<|(tA ?_);exact(λC A B'=>R.1 (_,.N,.N,.N) _ _ ⟨by exact bU (zQ 27) U h,B'⟩) _ _ t5
   .obtain rfl:=aV<|(Qn h).s.t E
    exact Ym hn hL hz (by exact bo (bU (zQ 46) U f.1)<|bU (zQ 12) U<|gV h) f.2 λC A b=>R (_,_,.N,_) _ _ b)
 .refine hM f.2 λp q1 q2 N q4=> ?_
  exact AF U q1 (by rw[cG];exact decide_eq_true (by exact bZ (zQ 44) U N))<|K (e.1,e.2.1,ay 64 n,e.2.2.2) _ _ ⟨f.1.p<|I5 U,(ie (j9 p 10<|ay 64 n) (aT _ _ _) (q2.P (by decide)) (aC (xV _ _ _)<|bz N) (by rw[fe,if_neg (by decide)];exact q4)),λj d=>((f.3 j d)),λj d=>((f.4 j d)),λj d ha=>((f.5 j d ha))⟩
end
inductive ItA(nm:aa)(g:Gr)(k:Nat)(H:Hp):Prop
 |mk (prod:∃fs,H (.o 2 k 0)=M (.i 100 fs)/\PZ nm g k fs/\fs.L<=17/\fO fs 11=M (ax 3 k 0)) (full:∀j,j<=(g.r k).L->H (.o 3 k j)=M (.i 135 (Ra nm g k j))) (dicts:∀j,j<=(g.r k).L->H (.o 4 k j)=M (.d [])) (aft:∀j,j<=(g.r k).L->kq g k j=Z->H (.o 12 k j)=M (.l []))
noncomputable def wL(k _ b:Nat):Bool:=aA k 3||aA k 4||aA k 12||(aA k 2&&aA b 0)
inductive BK(nm:aa)(g:Gr)(cu:Nat)(cC:Hp)(a:Nat)(H:Hp)(n:Nat):Prop
 |mk (now:cy wL cu cC n H) (done:∀k,k<a->ItA nm g k H) (rest:∀k,a<=k->H (.o 2 k 0)=cC (.o 2 k 0)/\∀j,H (.o 3 k j)=aI/\H (.o 4 k j)=aI/\H (.o 12 k j)=aI)
def RM(a k:Nat):Option Nat:=mQ (aA a k)<|a+1
theorem Oh:∀m s,bA RM (rW s m) s=M (s+m)
 :=λb=>b.r (λs=>U) (λm a s=>by
  show ob (mQ (aA s s)<|s+1) _=_
  rw[(beq_iff s s).M U]
  show bA RM (rW (s+1) m) (s+1)=_
  refine Y (a<|s+1) ?_;congr 1;exact bo (gD (zQ 8) U)<|gD (zQ 9) U)
def Jv(c:aa)(call:CF):Prop:=∀{st:V} {g:Gr} {Q:ab} {a:aq} {H:Hp} {n:Nat},GS c g st H->(∀k,k<g.p.L->∃b,H (.o 2 k 0)=M (.i 100 b)/\PZ c g k b/\b.L<=15)->(∀k,k<g.p.L->(g.r k).L+1<=900)->
 (∀k m,n<=m->H (.t k m)=aI)->(∀k j,H (.o 3 k j)=aI/\H (.o 4 k j)=aI/\H (.o 12 k j)=aI)->
 (∀H' n',cy wL n H n' H'->(∀k,k<g.p.L->ItA c g k H')->Q .N ⟨a,H',n'⟩)->call 280 [ax 1 0 0] Q ⟨a,H,n⟩
theorem JV(hn:bM u){call:CF}{st:V}(hI:vm u call)(hL:PS call)(G:GS u g st H)(hp:∀k,k<g.p.L->∃r,H (.o 2 k 0)=M (.i 100 r)/\PZ u g k r/\r.L<=15)(hz:∀k,k<g.p.L->(g.r k).L+1<=900)
  (h0:∀k m,n<=m->H (.t k m)=aI) (fr:∀k j,H (.o 3 k j)=aI/\H (.o 4 k j)=aI/\H (.o 12 k j)=aI)
  (K:∀z H' n',cy wL n H n' H'->(∀k,k<g.p.L->ItA u g k H')->Q .n ⟨z,H',n'⟩):rh call Q ⟨[ax 1 0 0,v1,v2,v3,v4,v5],H,n⟩:=by
 have A:=G.1
 refine bY U A U ?_;refine bL G.2<|ei (λx k=>ax 2 k 0) (bX g.p.L) _ (λ(x:Nat) (e:V×V×V×V×V)=>[ax 1 0 0,e.1,e.2.1,e.2.2.1,e.2.2.2.1,e.2.2.2.2]) (BK u g n H) RM (by exact Y JF<|(Oh _ 0).t (by rw[eE])) (cH λa H' n' h=>(h.1.2 1 1 0 U).t G.2) (λa e k a' i H' n' K' y X q T=> ?_) (λe H' n' q=> ?_) ⟨.s h0,λk p=>absurd p<|Dg k,λk x=>⟨U,fr k⟩⟩ (g₀:=(v1,v2,v3,v4,v5))
 .revert T;refine Yq X λS T=> ?_
  revert y;refine rR ((beq_iff _ _).m S) ?_;intro y
  have p:a<g.p.L:=fZ.m<|aJ y
  refine eV (hp a p) λr R P N=>fM U<|Q? hn hI hL ((q.1.2 1 0 0 U).t A) ((q.1.2 1 2 0 U).t G.3) ((q.3 a<|aG _).1.t R) P N q.1.4 (q.3 a<|aG _).2 (hz a p) λe w L f=> ?_
  have l:∀{t k b:Nat},k≠a->w (.o t k b)=H' (.o t k b):=λp=>f.1.2 _ _ _<|by
    delta wB
    rw[(qm p),jl]
  refine T.1 (_,e) _ _ ⟨q.1.T (f.1.l λk' a b h=>by
   delta wL at h;delta wB;rw[h,g8]) λx x x h=>h,λk p=> ?_,λk p=> ?_⟩
  .by_cases h:k=a
   .exact Y h<|⟨f.2,f.3,f.4,f.5⟩
   .obtain⟨⟨r,J,I⟩,b,c,d⟩:=q.2 k<|qY (gp p) h
    exact⟨(br r ((l h).t J) I),λj s=>(l h).t<|b j s,λj s=>(l h).t<|c j s,λj s E=>(l h).t<|d j s E⟩
  .exact ir (q.3 k (by exact bU (zQ 3) U p)) λC v=>⟨(l (by exact(λhz=>zF<|eM (zQ 1) U p<|zE hz))).t C,λj=>⟨(l (by exact(λhz=>zF<|eM (zQ 1) U p<|zE hz))).t (v j).1,(l (by exact(λhz=>zF<|eM (zQ 1) U p<|zE hz))).t (v j).2.1,(l (by exact(λhz=>zF<|eM (zQ 1) U p<|zE hz))).t (v j).2.2⟩⟩
 .exact K _ _ _ q.1 q.2
theorem Qq(h:bM a)(d:Nat)(g:vm a (dT d))(f:PS (dT d)):Jv a (dT<|d+1):=λG e hz c b K=>by
 exact Y (show dT (d+1) 280=gw lP (rh<|dT d) 1 []from by kernel_rfl)<|⟨U,JV h g f G e hz c b λx=>K⟩
section
variable{β:Type}{bind:ak}{e:β->V}{ls:γ->List V}
theorem za(vs:List β)(o:∀b done g (K:St->Prop),b∈vs->done.L<=vs.L->(∀g,K ⟨ls g,aZ H r<|.l<|done++[w b],n⟩)->bind (e b) (λx=>a λx=>K) ⟨ls g,aZ H r<|.l done,n⟩)(h:Nat->It)
  (f:∀i g done K,K ((vs.d i).h.m λb=>(e b,h<|i+1)) ⟨ls g,aZ H r<|.l done,n⟩->RY (h i) K ⟨ls g,aZ H r<|.l done,n⟩) (k:∀g,Q () ⟨ls g,aZ H r<|.l<|vs.m w,n⟩):D9 bind (.L r) (h 0) a Q ⟨ls g₀,aZ H r<|.l [],n⟩:=by
 have j:∀l i done g,vs.d i=l->done++l.m w=vs.m w->q5 bind (lG []) a (l.L+1) (h i) Q ⟨ls g,aZ H r<|.l done,n⟩:=by
  intro l
  induction l with
  |nil=>
   intro i done g d c
   refine f i g done _<|Y d ?_
   rw[tY,bQ]at c
   exact Y c<|k g
  |cons b l m=>
   intro i done g d c
   exact f i g done _<|Y d<|o b done g _ (xS d) (by have:=congrArg kh c;simp at this;exact lR (zQ 66) U<|zE this) λg'=>m (i+1) _ g' (by refine rR df<|Y d ?_;rfl) (by rw[cN];exact c)
 exact⟨_,j vs 0 [] g₀ U U⟩
end
abbrev Itm:=Nat×Nat
def iv(p:Itm):V:=ax 3 p.1 p.2
def pv(p:Itm):V:=V.t [.I (.o p.1),.I<|.o p.2]
def xH(a:aa)(g:Gr)(H:Hp):Prop:=∀k j,k<g.p.L->j<=(g.r k).L->H (.o 3 k j)=M (.i 135<|Ra a g k j)
def j1(g:Gr)(I:List Itm):Prop:=∀p∈I,p.1<g.p.L/\p.2<=(g.r p.1).L
def gK(b:aa)(call:CF):Prop:=∀{g:Gr} {I:List Itm} {L:Loc} {Q:ab} {a:aq} {H:Hp} {n:Nat},H L=M (.l<|I.m iv)->L≠.t 66 n->xH b g H->j1 g I->fits I.L=Z->(∀k m,n<=m->H (.t k m)=aI)->
 (∀H' n',cy (λx x x=>D) n H n' H'->Q (V.t<|I.m pv) ⟨a,H',n'⟩)->call 318 [.L L] Q ⟨a,H,n⟩
theorem Kz{GC:W It}{K:ab}(q:GC (λi=>pE (.l []) λd σ=>a d i (λx σ'=>K d ⟨σ.l,σ'.h,σ'.n⟩) ⟨aQ b .u,σ.h,σ.n⟩) σ):pK GC (pE<|.l []) b [] a K σ:=by
 delta pK bD inComp bE
 simpa using q
theorem KP{call:CF}(h:H L=M (.l<|I.m iv))(l:L≠.t 66 n)(j:xH o g H)(ok:j1 g I)(hz:fits I.L=Z)(a:∀k m,n<=m->H (.t k m)=aI)
  (K:∀H' n',cy (λx x x=>D) n H n' H'->Q (.r<|V.t<|I.m pv) ⟨[.L L],H',n'⟩):MB call Q ⟨[.L L],H,n⟩:=by
 refine aM<|CE h (ba (f:=iv) hz) ?_
 cases I with
 |nil=>exact g6 U<|gR U<|oz<|K H n<|.s a
 |cons p I=>
  refine gv U (aE<|Kz<|bL h<|eJ (r:=.t 66 n) (a _ _<|aG _)<|za (w:=pv) (ls:=λg=>[.u,g]) (p::I) (λb done g K d e k=> ?_) (λi=>.L (L,i)) (λi g done K k=>Be ((λdone=>(bS _ _ l).t h) done) k) λg=> ?_)
  .have c:=j b.1 b.2 ((ok b d)).1 ((ok b d)).2
   refine ff<|bY U c U<|bY U c U<|gR U ?_;exact gA (aT _ _ _) (by rw[cG]at hz⊢;have:=of_decide_eq_true hz;exact decide_eq_true<|eM (zQ 152) U e this)<|Y (lM _ _ _ _)<|k _
  .exact KG (aT _ _ _) (ba (f:=pv) hz)<|K _ _<|cy.e<|.s a
theorem Ho:dT (d+1) 318=gw MC (MB<|dT d) 1 []:=by kernel_rfl
theorem qA(e:aa)(d:Nat):gK e (dT<|d+1):=λh c b ok hz a K=>by
 exact Y Ho<|⟨U,KP h c b ok hz a K⟩
def C8{c d:Type}(get:c->List d)(f:c->d->Option c)(m:Nat):Nat->c->Option c:=m.r (λ_ _=>aI) λ_ e i a=>((get a)[i]?).rec (M a) λb=>ob (f a b)<|e<|i+1
theorem YM{bind:ak}(e:w->V)(get:r->List w)(ls:r->γ->List V)(P:r->Hp->Nat->Prop)(f:r->w->Option r)(E:C8 get f m 0 d=M c)(C:∀a H n,P a H n->H L=M (.l<|(get a).m e))
  (A:∀a g b p H n K,b∈get a->f a b=M p->P a H n->Nx ls P K p->bind (e b) (λx=>body K) ⟨ls a g,H,n⟩)
  (t:∀g H n,P c H n->q Q ⟨ls c g,H,n⟩) (h:P d o l):su bind body q (.L (L,0)) Q ⟨ls d g₀,o,l⟩:=by
 have nx:∀i a g H n K,P a H n->K ((get a)[i]?.m λb=>(e b,.L (L,i+1))) ⟨ls a g,H,n⟩->RY (.L (L,i)) K ⟨ls a g,H,n⟩:=λi a g H n K j k=>rJ L _ U (C a H n j) (by show K (((get a).m e)[i]?.m _) _;rw[aN,qk];exact k)
 have s:∀m i a g H n,C8 get f m i a=M c->P a H n->zf bind body q m (.L (L,i)) Q ⟨ls a g,H,n⟩:=by
  intro m
  induction m with
  |zero=>exact λi a g H n h=>nS h
  |succ m v=>
   intro i a g H n h j
   refine(nx i) a g H n _ j ?_
   revert h
   show BF (motive:=λ_=>Option r) (M a) (λb=>ob (f a b)<|C8 get f m<|i+1) (get a)[i]?=_->_
   rcases z:(get a)[i]? with _|b;(exact λh=>by revert t;exact rR (sJ h) (λt=>t g H n j));(exact λh=>bc h λp y u=>A a g b p H n _ (aJ z) y j ⟨λg H n j=>v _ p g H n u j,λg H n j=>v _ p g H n u j⟩)
 exact⟨m,s m 0 d g₀ o l E h⟩
noncomputable def ON(a:V)(c:Nat):List (Nat×V):=[(29,ax 1 0 0),(30,a),(31,ax 21 0 0),(32,ax 22 0 0),(33,ax 1 1 0),(34,ax 23 0 0),(35,ax 24 0 0),(36,.I<|.o c),(37,.I 0),(38,.I 0),(39,ax 25 0 0),(40,ax 25 0 1),(41,ax 25 0 2)]
def MV(a:ar):Nat:=match fO a 13 with
 |some _=>1
 |none=>0
theorem De(a:ar):MV a<=1:=by
 delta MV
 rcases fO a 13 with _|_;(exact cO _);(exact lr)
theorem ZZ(a:ar)(v:V):MV (j9 a 14 v)=MV a:=by delta MV;rw[fe,if_neg (by decide)]
def r!(a:ar)(c:Nat):Prop:=(fO a 13=aI\/∃i:Int,fO a 13=M (.I i))/\(fO a 14=M (.I<|.o c)/\a.L<=18+MV a\/fO a 14=aI/\c=0/\a.L<=17+MV a)
inductive tX(nm:aa)(g:Gr)(st qM:V)(c:Nat)(ad:ag)(H:Hp):Prop
 |mk (tb:H (.o 20 0 0)=M (.i 427 (ON qM c))) (gr:H (.o 1 0 0)=M (.i 283 (HB st))) (prods:H (.o 1 1 0)=M (.l ((bX g.p.L).m λk=>ax 2 k 0))) (terms:H (.o 1 4 0)=M (.d (g.t.m λa=>(sy nm a,ax 8 a 0)))) (nons:H (.o 1 5 0)=M (.d (g.n.m λa=>(sy nm a,ax 9 a 0)))) (by_:∀a,has a g.L=Z->H (.o 7 a 0)=M (.l ((g.b a).m λk=>ax 2 k 0))) (it:xH nm g H) (aft:∀k j,k<g.p.L->j<=(g.r k).L->kq g k j=Z->H (.o 12 k j)=M (.l [])) (pr:∀k,k<g.p.L->∃fs,H (.o 2 k 0)=M (.i 100 fs)/\Pf nm g k fs/\fO fs 11=M (ax 3 k 0)/\r! fs (ad k))
noncomputable def wC(k _ b:Nat):Bool:=aA k 20||(aA k 2&&aA b 0)
section
variable{st:V}{ad:ag}
theorem tX.u(A:tX m g st d c ad H):tX m g st d c' ad (aZ H (.o 20 0 0)<|.i 427<|ON d c'):=
 ⟨hA,A.2,A.3,A.4,A.5,λa h=>A.6 a h,λk j f e=>A.7 k j f e,λk j f e l=>A.8 k j f e l,
  λk h=>cz (A.9 k h) λi a b=>br i a b⟩
theorem tX.t(A:tX n g st d c ad H):tX n g st d c ad (aZ H (.t k m) o):=
 ⟨A.1,A.2,A.3,A.4,A.5,λa h=>A.6 a h,λk j f e=>A.7 k j f e,λk j f e l=>A.8 k j f e l,
  λk h=>cz (A.9 k h) λi a b=>br i a b⟩
theorem Ht:fO a j=M v->(j9 a j w).L=a.L:=a.R (λh=>nS h) λp r b=>by
 show(bif aA p.1 j then M p.2 else fO r j)=M v->(bif aA p.1 j then(p.1,w)::r else p::j9 r j w).L=_
 rcases aA p.1 j with _|_;(exact λh=>congrArg (·+1)<|b h);(exact λ_=>U)
def Uc(ad:ag)(c:Nat)(M':ao)(k:Nat):Nat:=bif has k M' then c else ad k
theorem tX.p{m:Nat}(A:tX s g st l c (Uc ad m M') H)(I:H (.o 2 x 0)=M (.i 100 f))(E:Pf s g x f)(C:fO f 11=M (ax 3 x 0))(y:f.L<=17+MV f\/f.L<=18+MV f/\∃v,fO f 14=M v)(r:fO f 13=aI\/∃i:Int,fO f 13=M (.I i)):
  tX s g st l c (Uc ad m<|x::M') (aZ H (.o 2 x 0)<|.i 100<|j9 f 14<|.I<|.o m):=by
 refine⟨A.1,A.2,A.3,A.4,A.5,λa h=>A.6 a h,λk j q p=>A.7 k j q p,λk j q p w=>A.8 k j q p w,λk u=> ?_⟩
 by_cases h:k=x
 .subst h
  refine⟨_,aT _ _ _,E.p (by decide),by rw[fe,if_neg (by decide)];exact C,by rw[fe,if_neg (by decide)];exact r,.I ⟨?_,?_⟩⟩
  .rw[fe,if_pos U]
   show _=M (V.I<|aY<|bif aA k k||has k M' then _ else _);refine Y (bR k) ?_;rfl
  .rw[ZZ]
   rcases y with h|⟨h,v,t⟩
   .exact aC (xV _ _ _)<|bU (zQ 137) U h
   .exact Y (Ht t) h
 .refine hM (A.9 k u) λn a b d e=>ie n ((bS _ _ λz=>h (by revert h;refine rR (Loc.o.inj z).2.1 ?_;intro h;rfl)).t a) b d ?_
  have:Uc ad m (x::M') k=Uc ad m M' k:=by
   show(bif aA x k||has k M' then _ else _)=_;rw[qm λe=>h e.s];rfl
  exact Y this e
end
abbrev QC:=(List Itm×List Nat)×Bool
def pZ(g:Gr)(p:Itm):List Nat:=bif kq g p.1 p.2 then[]else g.b ((g.r p.1).g p.2 0)
def Qy(q:QC)(x:Nat):Option QC:=bif has x q.1.2 then M q else mQ (fits q.1.1.L) ((q.1.1++[(x,0)],x::q.1.2),Z)
def JY(g:Gr)(q:QC)(j:Itm):Option QC:=bA Qy (pZ g j) q
def Qw(g:Gr)(q:QC):Option (BN QC):=bif q.2 then ob (C8 (λq:QC=>q.1.1) (JY g) 200 0 (q.1,D)) λa=>M (.g a)else M .o
def DC(g:Gr)(I:List Itm):Option (List Itm):=ob (i7 (Qw g) 100 ((I,[]),Z)) λp=>M p.1.1.1
inductive CL(nm:aa)(g:Gr)(st qM:V)(c:Nat)(ad:ag)(m cu:Nat)(cC:Hp)(q:QC)(H:Hp)(n:Nat):Prop
 |mk (lr:tX nm g st qM c (Uc ad c q.1.2) H) (js:H (.t 65 m)=M (.l (q.1.1.m iv))) (now:cy wC cu cC n H) (ok:j1 g q.1.1)
section
variable{st:V}{ad:ag}
theorem ada(S:x<g.p.L)(C:∀k,ad k<c)(R:a<=m/\m<n)(I:CL nm g st l c ad m a j q H n)(i:Qy q x=M P)
  (K:∀z H',z=F.n\/z=F.cont->CL nm g st l c ad m a j P H' n->Q z ⟨[ax 20 0 0,v1,ay 65 m,.o P.2,N,ax 2 x 0],H',n⟩):
  rm Q ⟨[ax 20 0 0,v1,ay 65 m,.o q.2,N,ax 2 x 0],H,n⟩:=by
 have tb:=I.1.1
 refine QO (I.1.9 x S) λA d pf L y w=> ?_
 have J:=I.2
 have v:fits A.L=Z:=w.e (λh=>fz (aC h.2<|bH (De A) 18) U) λh=>fz (aC h.2.2<|bH (De A) 17) U
 refine aM ?_
 have go:B 0 36 (λX=>cw .E (.I<|.o<|Uc ad c q.1.2 x) X λT=>λσ=>cond T (bE .cont (qT (aR mq<|aR mu mw) Q) σ)<|qT (aR mq<|aR mu mw) Q .n σ) ⟨[ax 20 0 0,v1,ay 65 m,.o q.2,N,ax 2 x 0],H,n⟩:=by
  refine bY U tb U<|nY U U ?_
  rw[(show dX (.I<|.o<|Uc ad c q.fst.snd x) (.I<|.o c)=has x q.fst.snd from by
    delta Uc
    rcases hh:has x q.fst.snd with _|_;(exact beq_eq_false_iff_ne.M λz=>zF<|eM (zQ 1) U ((C x))<|zG<|ig z);(exact beq_self_eq_true _))]
  refine cW i (λh i=> ?_) λh i=> ?_
  .obtain rfl:=sJ i
   exact g6 h<|gk<|uP<|K _ _ (.i U) I
  .refine ir (cj i) λhz u=> ?_;revert K;refine rR u ?_;intro K
   have hz:=ba (f:=iv) hz
   refine gv h<|aE<|aM<|(fE J ?_);refine bY U d L<|gA J hz<|aE<|aM ?_;refine bY U tb U<|AF U d v<|aE<|fM U ?_;refine K _ _ (.I U) ⟨I.1.t.p d pf L (w.e (λh=>.i ⟨h.2,_,h.1⟩) λh=>.I h.2.2) y,?_,(I.3.u R.1 R.2).p U,λp b=> ?_⟩
   .rw[iw,aT,aK];rfl
   .rcases ma b with b|b
    .exact I.4 p b
    .exact Y (m1 b)<|⟨S,cO _⟩
 refine w.e (λs=>ir s λr E=> ?_) λs=>sk s λr E a3=> ?_
 .exact Mt d r go
 .refine Ia d r ?_
  have e:V.I 0=.I (.o<|Uc ad c q.1.2 x):=by refine Y E ?_;rfl
  exact Y e go
theorem WO(W:∀a,∀k∈g.b a,k<g.p.L):∀x∈pZ g p,x<g.p.L:=λx c=>by
 delta pZ at c
 exact bC (b:=kq g p.1 p.2) (λh=>by have c:=h▸c;cases c) λh=>(W _ x<|h▸c)
theorem adb(W:∀a,∀k∈g.b a,k<g.p.L)(hp:p∈q.1.1)(J:∀k,ad k<c)(hm:d<=m/\m<n)(I:CL E g st f c ad m d e q H n)(C:JY g q p=M A)
  (K:∀x H',CL E g st f c ad m d e A H' n->Q .n ⟨[ax 20 0 0,v1,ay 65 m,.o A.2,iv p,x],H',n⟩):
  rn Q ⟨[ax 20 0 0,v1,ay 65 m,.o q.2,iv p,x0],H,n⟩:=by
 refine ir (I.4 p hp) λR P=> ?_
 have w:=I.1.7 p.1 p.2 R P
 refine bY U w U ?_
 have ls:∀H n q,CL E g st f c ad m d e q H n->∃l,Nc g p.1 p.2=.L l/\H l=M (.l<|(pZ g p).m λk=>ax 2 k 0):=λH n q I=>by
  delta Nc pZ
  exact bC (b:=kq g p.1 p.2) (λh=>Y h<|br _ U<|I.1.8 p.1 p.2 R P h) λh=>by
   refine Y h<|br _ U<|I.1.6 _ ?_
   delta kq at h
   exact bC (b:=bg p.2 (g.r p.1).L) (λv=>by rw[v]at h;simpa using h) λv=>by rw[v]at h;exact bT h
 refine cz (ls H n q I) λl N e2=>Y N (bL e2<|ei (λy k=>ax 2 k 0) (pZ g p) _ (λq x=>[ax 20 0 0,v1,ay 65 m,.o q.2,iv p,x]) (λq H' n'=>CL E g st f c ad m d e q H' n'/\n'=n) Qy C (cH λa H' n' h=> ?_) (λA x k X i H' n' K' w C u T=> ?_) (λx H' n' u=> ?_) ⟨I,U⟩)
 .refine cz (ls H' n' a h.1) λl' s j=> ?_
  revert j;refine rR (V.L.inj<|N.s.t s) ?_;intro j;exact j
 .obtain⟨r,rfl⟩:=u
  refine fM U<|ada (WO W k<|aJ w) J hm r C λz S hz L=> ?_
  rcases hz with rfl|rfl
  .exact T.1 _ _ _ ⟨L,U⟩
  .exact T.2 _ _ _ ⟨L,U⟩
 .obtain⟨r,rfl⟩:=u;exact K _ _ r
theorem S!(W:∀a,∀k∈g.b a,k<g.p.L)(C:∀k,ad k<c)(hm:d<=m/\m<n)(I:CL A g st l c ad m d j q H n)(i:i7 (Qw g) f q=M (E,z))
  (K:∀(e:V×V) H',CL A g st l c ad m d j E H' n->Q .n ⟨[ax 20 0 0,v1,ay 65 m,.o E.2,e.1,e.2],H',n⟩):
  qx Q ⟨[ax 20 0 0,v1,ay 65 m,.o q.2,v4,v5],H,n⟩:=by
 refine mD (λq e=>[ax 20 0 0,v1,ay 65 m,.o q.2,e.1,e.2]) (λq H' n'=>CL A g st l c ad m d j q H' n'/\n'=n) (Qw g) i (λa e s H' n' K' X KB i r v S R=> ?_) (λe H' n' r y=> ?_) (λe H' n' r y=> ?_) ⟨I,U⟩ (g₀:=(v4,v5))
 .obtain⟨p,rfl⟩:=r
  refine zH<|cW i (λh i=> ?_) λh i=> ?_
  .refine bc i λq1 P i=> ?_
   obtain rfl:=sJ i
   refine Y h (S _<|bL p.2<|YM iv (λq:QC=>q.1.1) (λq (e:V×V)=>[ax 20 0 0,v1,ay 65 m,.o q.2,e.1,e.2]) (λq H' u=>CL A g st l c ad m d j q H' u/\u=n') (JY g) P (λa H n h=>h.1.2) (λa e b a' H n K N i r T=> ?_) (λe H n r=> ?_) ⟨⟨p.1,p.2,p.3,p.4⟩,U⟩)
   .obtain⟨w,rfl⟩:=r
    exact adb W N C hm w i λx L J=>T.1 (_,x) _ _ ⟨J,U⟩
   .exact gk<|v.1 e _ _ r
  .obtain rfl:=sJ i
   have v:X ⟨[ax 20 0 0,v1,ay 65 m,.o a.2,e.1,e.2],H',n'⟩:=v
   rw[h]at v⊢
   exact R _ v
 .obtain⟨p,rfl⟩:=r;exact gk<|K e _ p
 .obtain⟨p,rfl⟩:=r;exact K e _ p
end
def Bt(f:aa)(call:CF):Prop:=∀{g:Gr} {st b:V} {c:Nat} {ad:ag} {I J:List Itm} {L:Loc} {Q:ab} {e:aq} {H:Hp} {n:Nat},(∀a,∀k∈g.b a,k<g.p.L)->tX f g st b c ad H->(∀k,ad k<=c)->H L=M (.l<|I.m iv)->L≠.o 20 0 0->j1 g I->fits I.L=Z->(∀k m,n<=m->H (.t k m)=aI)->
 DC g I=M J->(∀H' n' d,cy wC n H n' H'->tX f g st b (c+1) d H'->(∀k,d k<=c+1)->n<n'->H' (.t 65 n)=M (.l<|J.m iv)->j1 g J->Q (ay 65 n) ⟨e,H',n'⟩)->call 340 [ax 20 0 0,.L L] Q ⟨e,H,n⟩
theorem R9{H:Hp}{K:ab}(h:H l=M (.l vs))(c:fits vs.L=Z)(b:H r=aI)(q:K (.L r) ⟨a,aZ H r<|.l vs,n+1⟩):i4 (.L l) .N .N K ⟨a,H,n⟩:=by
 refine CC h U c b ?_
 have:cut vs aI aI=vs:=gF<|lr
 exact Y this q
theorem Nl{call:CF}{st:V}{ad:ag}(W:∀a,∀k∈g.b a,k<g.p.L)(A:tX y g st b c ad H)(u:∀k,ad k<=c)(x:H L=M (.l<|I.m iv))(q:L≠.o 20 0 0)(ok:j1 g I)(hz:fits I.L=Z)(w:∀k m,n<=m->H (.t k m)=aI)
  (l:DC g I=M J) (K:∀j H' n' d,cy wC n H n' H'->tX y g st b (c+1) d H'->(∀k,d k<=c+1)->n<n'->H' (.t 65 n)=M (.l<|J.m iv)->j1 g J->Q (.r<|ay 65 n) ⟨j,H',n'⟩):
  tO call Q ⟨[ax 20 0 0,.L L,N,E,C,z],H,n⟩:=by
 have tb:=A.1
 refine bc l λp h l=> ?_
 revert K;refine rR (sJ l) ?_;intro K
 refine aM<|zB tb U<|tA ?_;refine F2 tb U ?_
 have v:=A.u (c':=c+1)
 have s:cy wC n H n (aZ H (.o 20 0 0)<|.i 427<|ON b<|c+1):=(cy.s w).p U
 refine aE<|aM<|R9 ((hN q).t x) (ba (f:=iv) hz) (r:=.t 65 n) s.A<|fM U<|aE<|aM<|fM U<|aE<|aM<|S! W (λk=>j4<|u k) ⟨lr,a8 _⟩ ⟨v.t,hA,s.e,ok⟩ h λe H' i=>(aE<|K _ _ _ _ i.3 i.1 (λk=> ?_) (a8 _) i.2 i.4)
 delta Uc
 rcases has k p.1.1.2 with _|_;(exact dz<|u k);(exact lr)
theorem LV(g:aa)(d:Nat):Bt g (dT<|d+1):=λW A f e a ok hz c b K=>by
 exact Y (show dT (d+1) 340=gw ji (tO<|dT d) 2 []from by kernel_rfl)<|⟨U,Nl W A f e a ok hz c b λx=>K⟩
theorem ix(k v x:V)(l:au):eK (gi l k v) x=bif dX k x then M v else eK l x:=l.R U λp r d=>by
 show eK (bif dX p.1 k then(p.1,v)::r else p::gi r k v) x=bif dX k x then M v else bif dX p.1 x then M p.2 else eK r x
 rcases h:dX p.1 k with _|_;(
  show(bif dX p.1 x then M p.2 else eK (gi r k v) x)=_
  exact Y d<|bC (b:=dX p.1 x) (λc=>by
   exact rR (gN.m c)<|bC (b:=dX k p.1) (λa=>by rw[gN.m a,gN.M U]at h;exact bT h) λa=>by refine Y a ?_;rfl) λc=>by refine Y c ?_;rfl);(
  refine Y (gN.m h) ?_
  show(bif dX k x then M v else eK r x)=_
  rcases dX k x with _|_<;>rfl)
theorem sC(l:au)(k v:V):(gi l k v).L<=l.L+1:=l.R (lr) λp r a=>by
 show(bif dX p.1 k then(p.1,v)::r else p::gi r k v).L<=_
 rcases dX p.1 k with _|_;(exact bz a);(exact d7 _)
theorem Ml(k v:V)(l:au):gi l k v≠[]:=λh=>by
 have:=ix k v k l
 rw[h,gN.M U]at this;exact nS this
theorem vB:∀(l:aq) (d:Nat),(∀v∈l,pY v d=Z)->pY (V.t l) (d+1)=Z
 :=λc=>c.R (λx x=>U) (λv r b d h=>by
  show(pY v d&&pY (V.t r) (d+1))=Z
  refine Y (h v<|.h _)<|Y (b d λw a=>h w<|.t _ a) ?_;rfl)
theorem Sw(h:pv p=pv q):p=q:=by
 injection h with b a
 injection a with a _
 injection b with b
 injection a with a
 exact Dx (ig b)<|ig a
theorem EK{I:List Itm}:∀{J:List Itm},V.t (I.m pv)=V.t (J.m pv)->I=J:=by
 induction I with
 |nil=>intro J h;rcases J with _|_;(rfl);(exact V.noConfusion h)
 |cons p I a=>intro J h;rcases J with _|⟨q,J⟩;(exact V.noConfusion h);(exact Y (Sw (V.T.inj h).1)<|Y (a (V.T.inj h).2) U)
def xX(a:aa)(I:List Itm)(x:Nat):V:=V.t [V.t (I.m pv),sy a x]
theorem xZ(c:aa)(I:List Itm)(x:Nat):pY (xX c I x) 6=Z:=vB _ 5 λv a=>by
 rcases mc a with rfl|a
 .exact vB _ 4 λv a=>by
   refine cz (mm a) λp y b=> ?_;subst b
   rfl
 .refine Y (m1 a) ?_;rfl
theorem Tn(d:bM c)(h:sy c a=sy c b):a=b:=by
 have e:=d.1 a b
 rw[V.s.inj h,d.1]at e
 rw[bR b]at e
 exact bq e.s
theorem Hz(b:bM a)(h:xX a I x=xX a J y):I=J/\x=y:=
 ⟨EK (V.T.inj h).1,Tn b (V.T.inj (V.T.inj h).2).1⟩
noncomputable abbrev J2:V:=.s [36,101,110,100]
def xg(g:Gr)(x:Nat)(p:Itm):Bool:=bg p.2 (g.r p.1).L&&aA (Fg g p.1<|p.2+1) x
noncomputable def zy(p:Itm):Itm:=(p.1,p.2+1)
def moved(g:Gr)(x:Nat)(I:List Itm):List Itm:=(I.j<|xg g x).m zy
def U8(g:Gr)(ps:List Itm):Option (List Itm):=bif ps.i then M []else DC g ps
def mS(g:Gr)(x:Nat)(I:List Itm):Option (List Itm):=U8 g<|moved g x I
abbrev TP:=Nat->Option (Nat×List Itm)
def z6(n:Nat)(H:Hp)(v:V)(o:Option (List Itm)):Prop:=∃k j J,v=ay k j/\j<n/\H (.t k j)=M (.l<|J.m iv)/\o=M J
def yX(n:Nat)(H:Hp)(v:V)(o:Option (List Itm)):Prop:=v=.N/\o=M []\/z6 n H v o
inductive Nd(g:Gr)(tp:TP)(n:Nat)(H:Hp)(x:Nat)(ps:List Itm)(kvs:au):Prop
 |mk (ch:∀p v,eK kvs (pv p)=M v->∃m,v=ax 26 m 0/\tp m=M (x,ps++[p])) (en:∀v,eK kvs J2=M v->z6 n H v (U8 g ps))
inductive Tr(nm:aa)(g:Gr)(bd:ag)(b:Nat)(cur:Option Nat)(tp:TP)(nl n:Nat)(H:Hp)(top:au):Prop
 |mk (node:∀m x ps,tp m=M (x,ps)->m<n/\∃kvs,H (.o 26 m 0)=M (.d kvs)/\(kvs=[]->cur=M m)/\kvs.L<=bd ps.L/\Nd g tp nl H x ps kvs) (at_:H (.o 23 0 0)=M (.d top)) (len:top.L<=b) (root:∀x v,eK top (sy nm x)=M v->∃m,v=ax 26 m 0/\tp m=M (x,[])) (keys:∀I x v,eK top (xX nm I x)=M v->yX nl H v (mS g x I)) (free:∀m,n<=m->H (.o 26 m 0)=aI)
theorem z6.l(h:z6 n H v o)(f:n<=n')(e:∀k m,m<n->H' (.t k m)=H (.t k m)):z6 n' H' v o:=
 DE h λk j J a b c d=>⟨k,j,J,a,aH b f,(e k j b).t c,d⟩
theorem yX.l(h:yX n H v o)(b:n<=n')(a:∀k m,m<n->H' (.t k m)=H (.t k m)):yX n' H' v o:=h.m id λh=>h.l b a
theorem Nd.o(N:Nd g j n H x ps d)(i:n<=n')(f:∀k m,m<n->H' (.t k m)=H (.t k m))(e:∀m a,j m=M a->c m=M a):Nd g c n' H' x ps d:=
 ⟨λp v h=>cz (N.1 p v h) λm a b=>br m a<|e _ _ b,λv h=>(N.2 v h).l i f⟩
theorem Tr.o(T:Tr u g bd b s A y n H top)(hn:y<=p)(ht:∀k m,m<y->H' (.t k m)=H (.t k m))(hp:∀m a,A m=M a->i m=M a)(X:H' (.o 23 0 0)=M (.d e))(S:e.L<=R)(Q:∀x v,eK e (sy u x)=M v->∃m,v=ax 26 m 0/\i m=M (x,[]))
  (P:∀I x v,eK e (xX u I x)=M v->yX p H' v (mS g x I)) (N:∀l,bd l<=r l) (L:∀m,n'<=m->H' (.o 26 m 0)=aI)
  (w:∀m x ps,i m=M (x,ps)->m<n'/\(A m=M (x,ps)/\H' (.o 26 m 0)=H (.o 26 m 0)/\(s=M m->j=M m)\/∃f,H' (.o 26 m 0)=M (.d f)/\(f=[]->j=M m)/\f.L<=r ps.L/\Nd g i p H' x ps f)):Tr u g r R j i p n' H' e:=
 ⟨λm x ps h=>⟨(w m x ps h).1,(w m x ps h).2.e (λq=>sk q λJ E C=>hM (T.1 m x ps J).2 λf a b c d=>ie f (E.t a) (λz=>C<|b z) (aC c<|N _)<|d.o hn ht hp) id⟩,X,S,Q,P,L⟩
theorem Tr.K(T:Tr s g r b f q p n H e)(l:p<=d)(j:n<=n')(i:∀k m,m<p->H' (.t k m)=H (.t k m))(c:H' (.o 23 0 0)=H (.o 23 0 0))(a:∀m,H' (.o 26 m 0)=H (.o 26 m 0)):Tr s g r b f q d n' H' e:=
 T.o l i (λy y h=>h) (c.t T.2) T.3 T.4 (λI x v h=>(T.5 I x v h).l l i) (λy=>lr) (λm h=>(a m).t<|T.6 m<|aC j h)
  λm x ps h=>⟨aH (T.1 m x ps h).1 j,.I ⟨h,a m,id⟩⟩
noncomputable def wT(k _ _:Nat):Bool:=aA k 23||aA k 26
noncomputable def JR(b c l:Nat):Nat:=bif bg l c then b+1 else b
theorem JS(h:c<=d):JR b c l<=JR b d l:=by
 delta JR
 rcases a:bg l c with _|_;(rcases bg l d with _|_;(exact lr);(exact d7 _));(rw[tb (aH (bt a) h)];exact lr)
theorem A5:JR b c l<=b+1:=by
 delta JR
 rcases bg l c with _|_;(exact d7 _);(exact lr)
theorem Ff:JR b c c=b:=by
 delta JR
 rcases h:bg c c with _|_;(rfl);(exact absurd (bt h)<|fY _)
theorem Yj:JR b (c+1) c=b+1:=by
 delta JR;refine Y (tb<|a8 c) ?_;rfl
inductive GI(nm:aa)(g:Gr)(b x gn cu:Nat)(cC:Hp)(top:au)(done:List Itm)(tp:TP)(m:Nat)(H:Hp)(n:Nat):Prop
 |mk (tr:Tr nm g (JR b (moved g x done).L) (b+1) (M m) tp gn n H top) (it:xH nm g H) (cur:tp m=M (x,moved g x done)) (gs:H (.t 67 gn)=M (.l ((moved g x done).m iv))) (now:cy wT cu cC n H)
noncomputable def Xp(a:TP)(n x:Nat)(ps:List Itm):TP:=λm=>bif aA m n then M (x,ps)else a m
theorem Et(h:xg g x p=Z):moved g x (done++[p])=moved g x done++[zy p]:=by
 delta moved
 rw[M4,PU,h,aK]
 rfl
theorem Tr.lt(T:Tr f g (JR b (moved g x done).L) (b+1) (M m) d e n H c)(h:d a=M (y,ps)):a<n:=(T.1 a y ps h).1
theorem GH(c:∀m a,b m=M a->m<n)(m:Nat)(a:Nat×List Itm)(h:b m=M a):Xp b n x ps m=M a:=by
 delta Xp
 exact Y ((qm λhz=>zF<|eM (zQ 1) U (c m a h)<|zG hz)) h
theorem GG:Xp a n x ps n=M (x,ps):=by delta Xp;refine Y (bR n) ?_;rfl
theorem GI.l(I:GI T g b x q d i s done E m H n)(r:xg g x p=Z)(C:d<=q/\q<n)(S:H (.o 26 m 0)=M (.d f))(h:eK f (pv<|zy p)=M (ax 26 A 0))(R:E A=M (x,moved g x done++[zy p])):
  GI T g b x q d i s (done++[p]) E A (aZ H (.t 67 q)<|.l<|(moved g x done++[zy p]).m iv) n:=by
 have e:=Et (done:=done) r
 refine⟨(I.1.o (lr) (λk j a=>hN<|IU a) (λw w h=>h) I.1.2 I.1.3 I.1.4 (λJ y v h=>(I.1.5 J y v h).l (lr) λk j a=>hN<|IU a) (λl=>JS<|Y e<|Y aL<|gD (zQ 29) U) (λm r=>I.1.6 m r) λj y ps a=>⟨I.1.lt a,?_⟩),λk j Q P=>I.2 k j Q P,Y e R,Y e<|hA,I.5.u C.1 C.2⟩
 by_cases hz:M m=M j
 .obtain rfl:=sJ hz
  obtain⟨_,c,u,X,N,L⟩:=I.1.1 m y ps a
  obtain rfl:c=f:=O.d.inj<|sJ<|u.s.t S
  exact .i<|ie c u (λz=>by rw[z]at h;exact nS h) (aC N<|JS<|Y e<|Y aL<|gD (zQ 29) U)<|L.o (aG _) (λk j a=>bS _ _<|IU a) λw w h=>h
 .exact .I ⟨a,gY,λz=>absurd z hz⟩
theorem GI.j(I:GI nm g b x s i N S done tp m H n)(hm:xg g x p=Z)(hg:i<=s/\s<n)(hk:H (.o 26 m 0)=M (.d L))(h:eK L (pv<|zy p)=aI):
  GI nm g b x s i N S (done++[p]) (Xp tp n x<|moved g x done++[zy p]) n (aZ (aZ (aZ H (.o 26 n 0)<|.d []) (.o 26 m 0)<|.d<|gi L (pv<|zy p)<|ax 26 n 0) (.t 67 s)<|.l<|(moved g x done++[zy p]).m iv) (n+1):=by
 have e:=Et (done:=done) hm
 have R:∀m a,tp m=M a->m<n:=λm a h=>(I.1.1 m a.1 a.2 h).1
 have r:=GH (x:=x) (ps:=moved g x done++[zy p]) R
 have E:=R m _ I.3
 have Q:∀{A c:O} {C:aq} k j,j<s->aZ (aZ (aZ H (.o 26 n 0) A) (.o 26 m 0) c) (.t 67 s) (.l C) (.t k j)=H (.t k j):=λk j d=>hN<|IU d
 obtain⟨_,kvs1,a1,a2,X,T⟩:=I.1.1 m _ _ I.3
 refine rR (O.d.inj<|sJ<|a1.s.t hk) ?_
 rw[Ff]at X
 refine⟨(I.1.o (lr) Q r (gY.t I.1.2) I.1.3 (λy v h=>cz (I.1.4 y v h) λm a b=>br m a<|r _ _ b) (λJ y v h=>(I.1.5 J y v h).l (lr) Q) (λl=>JS<|Y e<|Y aL<|gD (zQ 29) U) (λj d=>gY.t<|(hN λz=>by cases z;exact zF<|eM (zQ 106) U E d).t<|(hN (k! d).s).t<|I.1.6 j<|bU (zQ 3) U d) λj y ps d=> ?_),λk j h1 h2=>gY.t<|((I.2 k j h1 h2)),Y e GG,Y e<|hA,((I.5.p (by rfl)).p (by rfl)).r.u hg.1<|dA hg.2⟩
 unfold Xp at d
 exact bC (b:=aA j n) (λhz=>by
  rw[hz]at d
  refine Y (bq hz)<|⟨a8 _,.i<|ie [] (gY.t<|(hN (k! E).s).t<|hA) (λw=>U) (cO _) ⟨λw w h=>nS h,λw h=>nS h⟩⟩) λhz=>by
   rw[hz]at d
   have u:=R j _ d
   refine⟨dA u,?_⟩
   by_cases hz:M m=M j
   .obtain rfl:=sJ hz
    have:=sJ<|d.s.t I.3
    obtain rfl:=(cZ this).1;refine Y ((cZ this).2) ?_
    refine .i<|ie _ (aT _ _ _) (λz=>absurd z<|Ml _ _ _) ?_ ?_
    .exact Y e<|Y aL<|Y Yj<|aC (sC _ _ _)<|bz X
    .refine⟨λq v f=> ?_,λv f=> ?_⟩
     .rw[ix]at f
      exact bC (b:=dX (pv<|zy p)<|pv q) (λP=>by
       rw[P]at f
       exact rR (Sw<|gN.m P)<|br n (sJ f.s) GG) λP=>by
       rw[P]at f
       exact cz (T.1 q v f) λm' b1 b2=>br m' b1<|r _ _ b2
     .rw[ix]at f
      exact(T.2 v f).l (aG _) Q
   .exact .I ⟨d,gY.t<|(bS _ _ λz=>by revert hz;refine rR (Loc.o.inj z).2.1 ?_;intro hz;exact hz U).t<|bS _ _<|k! u,λz=>absurd z hz⟩
def Uh(L:Loc)(e:aa)(x:Nat)(d:V)(m c:Nat)(p b a:V):List V:=[ax 20 0 0,.L L,sy e x,d,ax 26 m 0,ay 67 c,p,b,a]
theorem aah(hn:bM j)(I:GI j g b x i c y top done tp m H n)(f:c<=i/\i<n)(hp:p.1<g.p.L/\p.2<=(g.r p.1).L)(hb:b<=990)(hd:(moved g x done).L<=990)
  (K:∀q P tp' N H' n',GI j g b x i c y top (done++[p]) tp' N H' n'->i<n'->Q .n ⟨Uh L j x v3 N i (iv p) q P,H',n'⟩):
  tP Q ⟨Uh L j x v3 m i (iv p) q P,H,n⟩:=by
 have hi:=I.2 p.1 p.2 hp.1 hp.2
 refine aM<|bY U hi U<|fM U<|aE ?_
 have E:xg g x p=D->∀q,Q .n ⟨[ax 20 0 0,.L L,sy j x,v3,ax 26 m 0,ay 67 i,iv p,q,P],H,n⟩:=λh q=>K q P tp m H n (by
  have e:=(show moved g x (done++[p])=moved g x done from by
      delta moved
      rw[M4,PU,h]
      simp)
  exact⟨by exact Y e I.1,I.2,Y e I.3,Y e I.4,I.5⟩) f.2
 delta VN
 exact bC (b:=bg p.2 (g.r p.1).L) (λd=>by
  refine Y d ?_
  have X:=bt d
  have l:=I.2 p.1 (p.2+1) hp.1 X
  refine abc l<|bY U l U<|nY U U ?_
  have T:dX (sy j<|Fg g p.1<|p.2+1) (sy j x)=aA (Fg g p.1<|p.2+1) x:=hn.1 _ _
  refine Y T ?_
  exact bC (b:=aA (Fg g p.1<|p.2+1) x) (λw=>by
   refine Y w ?_
   have hm:xg g x p=Z:=by delta xg;refine Y d<|Y w ?_;rfl
   obtain⟨_,u,k,a2,a3,a4⟩:=I.1.1 m _ _ I.3
   rw[Ff]at a3
   have C:=I.4
   have hz:fits u.L=Z:=by rw[cG];exact decide_eq_true<|eM (zQ 17) U hb a3
   have s:fits ((moved g x done).m iv).L=Z:=by rw[cG,aD];exact decide_eq_true<|bZ (zQ 30) U hd
   refine ff<|aM ?_
   refine qs k<|bY U l U<|bY U l U<|gR U ?_
   rcases r:eK u (pv<|zy p)with _|v;(
    refine tK U U k U r<|fM U<|aE<|aM<|cg U<|F3<|ff<|aM<|eJ (I.1.6 n<|lr)<|fM U<|aE ?_
    refine bY U l U<|bY U l U<|gR U ?_
    refine ee ((hN λz=>by revert I f E left;refine rR (Loc.o.inj z).2.1 ?_;intro I f E left;exact absurd left<|fY _).t k) U hz<|aE<|aM<|fE C<|gA C s<|aE<|cg U<|fM U ?_
    have J:=I.j hm f k r
    rw[aK]at J
    exact K _ _ _ _ _ _ J<|dA f.2);(
    refine cz (a4.1 _ _ r) λN S A=> ?_;subst S
    obtain⟨_,a,c1,c2,c3,c4⟩:=I.1.1 N _ _ A
    have R:aA a.L 0=D:=by
     cases a with
     |nil=>
      rw[<-sJ (c2 U),I.3]at A
      have:=congrArg kh (cZ<|sJ A).2
      simp at this
     |cons _ _=>rfl
    refine DI U k U r<|(aE<|aM<|(KD c1 (by rw[cG];exact decide_eq_true<|eM (zQ 47) U hb<|aC c3 A5) ?_))
    refine Y R<|x8<|aE<|aM<|fE C<|gA C s<|aE ?_
    have J:=I.l hm f k r A
    rw[aK]at J
    exact K _ _ _ _ _ _ J f.2)) λw=>Y w<|E (by delta xg;refine Y d<|Y w ?_;rfl) _) λd=>by
  exact Y d<|F3<|E (by delta xg;refine Y d ?_;rfl) _
theorem aai(N:bM o)(w:∀n' H',cy wT a c n' H'->H' L=M (.l<|s.m iv))(I:GI o g b x i a c q [] l m H n)(v:a<=i/\i<n)(ok:j1 g s)(E:b<=990)(C:s.L<=990)
  (K:∀j f d k t H' n',GI o g b x i a c q s k t H' n'->i<n'->Q .n ⟨Uh L o x u t i j f d,H',n'⟩):
  lj Q ⟨Uh L o x u m i j f d,H,n⟩:=by
 refine bL (w _ _ I.5)<|Ef iv s (λr σ=>∃done j f d l m H n,s=done++r/\σ=⟨Uh L o x u m i j f d,H,n⟩/\GI o g b x i a c q done l m H n/\i<n) (λr σ h=> ?_) (λσ h=> ?_) (λp r σ A h P T=> ?_) ⟨[],j,f,d,l,m,H,n,U,U,I,v.2⟩
 .obtain⟨done,j,f,d,l,m,H,n, -,rfl,J, -⟩:=h
  exact w _ _ J.5
 .obtain⟨done,j,f,d,l,m,H,n,e,rfl,J,h⟩:=h
  rw[bQ]at e
  exact gk<|K _ _ _ _ _ _ _ (e▸J) h
 .obtain⟨done,j,f,d,l,m,H,n,e,rfl,J,h⟩:=h
  refine aah N J ⟨v.1,h⟩ (ok p A) E (by
   refine aC ?_ C
   delta moved
   rw[aD,e,aL]
   exact lR (zQ 107) U<|Jb (xg g x) done) λf d k t H' n' z y=> ?_
  exact T.1 _ ⟨done++[p],_,f,d,k,t,H',n',by rw[cN];exact e,U,z,y⟩
theorem GI.a(T:Tr o g (λw=>b) b aI i n n H e)(s:xH o g H)(N:cy wT d c n H)(r:i m=M (x,[])):GI o g b x n d c e [] i m (aZ H (.t 67 n)<|.l []) (n+1):=by
 refine⟨?_,λk j q p=>s k j q p,r,hA,N.e⟩
 have f:∀{C:O} k j,j<n->aZ H (.t 67 n) C (.t k j)=H (.t k j):=λk j a=>hN<|IU a
 refine T.o (lr) f (λw w h=>h) T.2 (dz T.3) T.4 (λJ y v h=>(T.5 J y v h).l (lr) f) (λl=> ?_) (λj a=>T.6 j<|fB a) λj y ps a=>⟨dA (T.1 j y ps a).1,.I ⟨a,gY,λz=>nS z⟩⟩
 delta JR
 rcases bg l (moved g x []).L with _|_;(exact lr);(exact d7 _)
theorem GI.t(X:bM e)(T:Tr e g (λw=>b) b aI E n n H r)(S:xH e g H)(N:cy wT q p n H):
  GI e g b x (n+1) q p (gi r (sy e x)<|ax 26 n 0) [] (Xp E n x []) n (aZ (aZ (aZ H (.o 26 n 0)<|.d []) (.o 23 0 0)<|.d<|gi r (sy e x)<|ax 26 n 0) (.t 67<|n+1)<|.l []) (n+2):=by
 have u:∀m a,E m=M a->m<n:=λm a h=>(T.1 m a.1 a.2 h).1
 refine⟨?_,λk j R Q=>gY.t<|((S k j R Q)),GG,hA,((N.p (by rfl)).p (by rfl)).r.e⟩
 have i:∀{A c C:O} k j,j<n->aZ (aZ (aZ H (.o 26 n 0) A) (.o 23 0 0) c) (.t 67<|n+1) C (.t k j)=H (.t k j):=λk j d=>(λk j d=>bS _ _ λz=>by cases z;exact zF<|bZ (zQ 108) U d) k j<|dA d
 refine T.o (d7 _) i (GH (x:=x) (ps:=[]) u) gY (aC (sC _ _ _)<|bz T.3) (λy v h=> ?_) (λJ y v h=> ?_) (λl=> ?_) (λj d=>gY.t<|(b8 U).t<|(bS _ _ λz=>by cases z;exact zF<|bZ (zQ 109) U d).t<|T.6 j<|bU (zQ 110) U d) λj y ps d=> ?_
 .rw[ix]at h
  exact bC (b:=dX (sy e x)<|sy e y) (λs=>by
   rw[s]at h
   exact rR (Tn X<|gN.m s)<|br n (sJ h.s) GG) λs=>by
   rw[s]at h
   exact cz (T.4 y v h) λP L I=>br P L<|(GH (x:=x) (ps:=[]) u) _ _ I
 .rw[ix]at h
  exact(T.5 J y v h).l (d7 _) i
 .delta JR
  rcases bg l (moved g x []).L with _|_;(exact aG _);(exact d7 _)
 .unfold Xp at d
  exact bC (b:=aA j n) (λhz=>by
   exact rR (bq hz)<|⟨du (zQ 48) U,.i<|ie [] (((aT _ _ _))) (λw=>U) (cO _) ⟨λw w h=>nS h,λw h=>nS h⟩⟩) λhz=>by
   rw[hz]at d
   have f:=u j _ d
   exact⟨bU (zQ 13) U f,.I ⟨d,gY.t<|(b8 U).t<|bS _ _<|k! f,λz=>nS z⟩⟩
theorem Tr.J(T:Tr L g (JR b ps.L) (b+1) (M m) s r n H f)(d:s m=M (x,ps))(I:H (.o 26 m 0)=M (.d e))(E:z6 r H v (U8 g ps)):Tr L g (λw=>b+1) (b+1) aI s r n (aZ H (.o 26 m 0)<|.d<|gi e J2 v) f:=by
 refine T.o (lr) (λk j a=>iw) (λw w h=>h) T.2 T.3 T.4 (λJ y v h=>(T.5 J y v h).l (lr) (λk j a=>iw)) (λl=>A5) (λj a=>(hN λz=>by cases z;exact zF<|eM (zQ 49) U a (T.1 m _ _ d).1).t<|T.6 j a) λj y C a=>⟨(T.1 j y C a).1,?_⟩
 by_cases hz:M m=M j
 .obtain rfl:=sJ hz
  obtain rfl:=(cZ<|sJ<|a.s.t d).1;obtain rfl:=(cZ<|sJ<|a.s.t d).2
  obtain⟨_,p,A,N,i,t⟩:=T.1 m _ _ d
  refine rR (O.d.inj<|sJ<|A.s.t I) ?_
  rw[Ff]at i
  refine .i<|ie _ (aT _ _ _) (λz=>absurd z<|Ml _ _ _) (aC (sC _ _ _)<|bz i) ⟨λq u c=> ?_,λu c=> ?_⟩
  .rw[ix]at c
   exact t.1 q u c
  .rw[ix,gN.M U]at c
   refine rR (sJ c) ?_
   exact E.l (aG _) (λk j a=>iw)
 .exact .I ⟨a,bS _ _ λz=>by revert hz;refine rR (Loc.o.inj z).2.1 ?_;intro hz;exact hz U,λz=>absurd z hz⟩
theorem Tr.adB(T:Tr u g (JR b ps.L) (b+1) (M m) k t n H e)(C:k m=M (x,ps))(s:H (.o 26 m 0)=M (.d c))(i:eK c J2=M v):Tr u g (λw=>b+1) (b+1) aI k t n H e:=by
 refine T.o (lr) (λw w w=>U) (λw w h=>h) T.2 T.3 T.4 T.5 (λl=>A5) T.6 λj y r d=>⟨(T.1 j y r d).1,?_⟩
 by_cases hz:M m=M j
 .obtain rfl:=sJ hz
  obtain⟨_,a,f,A,q,p⟩:=T.1 m _ _ d
  obtain rfl:a=c:=O.d.inj<|sJ<|f.s.t s
  exact .i<|ie a f (λz=>by rw[z]at i;exact nS i) (aC q A5) p
 .exact .I ⟨d,U,λz=>absurd z hz⟩
theorem Tr.setTop(m:bM c)(T:Tr c g (λz=>b+1) (b+1) aI r i n H e)(q:yX i H v (mS g x f)):Tr c g (λz=>b+2) (b+2) aI r i n (aZ H (.o 23 0 0)<|.d<|gi e (xX c f x) v) (gi e (xX c f x) v):=by
 refine T.o (lr) (λk j a=>iw) (λz z h=>h) (hA) (aC (sC _ _ _)<|bz T.3) (λy u h=> ?_) (λJ y u h=> ?_) (λl=>d7 _) (λj a=>T.6 j a) λj y p a=>⟨(T.1 j y p a).1,.I ⟨a,b8 U,id⟩⟩
 .rw[ix]at h
  exact T.4 y u h
 .rw[ix]at h
  exact bC (b:=dX (xX c f x)<|xX c J y) (λd=>by
   rw[d]at h
   refine rR ((Hz m<|gN.m d)).1<|rR ((Hz m<|gN.m d)).2 ?_
   refine rR (sJ h) ?_
   exact q.l (aG _) (λk j a=>iw)) λd=>by
   rw[d]at h
   exact(T.5 J y u h).l (aG _) (λk j a=>iw)
theorem tX.K{st:V}{ad:ag}(A:tX o g st e c ad H){W:Nat->Nat->Nat->Bool}(N:cy W n H n' H')(d:∀k a b,aO 21 k=D->W k a b=D):tX o g st e c ad H':=
 ⟨N.t (d _ _ _ U) A.1,N.t (d _ _ _ U) A.2,N.t (d _ _ _ U) A.3,N.t (d _ _ _ U) A.4,N.t (d _ _ _ U) A.5,λa h=>N.t (d _ _ _ U)<|(A.6 a h),λk j i f=>N.t (d _ _ _ U)<|(A.7 k j i f),λk j i f m=>N.t (d _ _ _ U)<|(A.8 k j i f m),
  λk h=>cz (A.9 k h) λl a b=>br l (N.t (d _ _ _ U) a) b⟩
theorem MW(k a b:Nat)(h:aO 21 k=D):wT k a b=D:=by
 exact bC (b:=wT k a b) (λc=>by
  rcases oy c with c|c<;>rw[bq c]at h<;>exact bT h) λc=>by refine Y c ?_;rfl
def wG(k a b:Nat):Bool:=wC k a b||wT k a b
theorem aaj{call:CF}{st:V}{ad:ag}(hc:Bt E call)(W:∀a,∀k∈g.b a,k<g.p.L)(A:tX E g st qM c ad H)(C:∀k,ad k<=c)(I:GI E g b x P e s top w tp m H n)(hg:e<=P/\P<n)(ok:j1 g w)(hb:b<=990)(hd:w.L<=990)
  (u:mS g x w=M J) (hk:H (.o 26 m 0)=M (.d kvs)) (h3:l=(eK kvs J2).g .N) (hJ:fits J.L=Z) (oJ:j1 g J)
  (K:∀l H' n' c' i,cy wG e s n' H'->tX E g st qM c' i H'->(∀k,i k<=c')->Tr E g (λy=>b+1) (b+1) aI tp n' n' H' top->yX n' H' l (M J)->Q .n ⟨Uh L E x l m P v6 v7 v8,H',n'⟩):
  ip call Q ⟨Uh L E x l m P v6 v7 v8,H,n⟩:=by
 obtain⟨_,d,a1,a2,a3,a4⟩:=I.1.1 m _ _ I.3
 obtain rfl:d=kvs:=O.d.inj<|sJ<|a1.s.t hk
 rw[Ff]at a3
 have T:=I.1.K (eD hg.2) (aG n) (λy y y=>U) U λy=>U
 have NG:cy wG e s n H:=I.5.l λk a b h=>(on h).2
 have hz:fits d.L=Z:=by rw[cG];exact decide_eq_true<|eM (zQ 17) U hb a3
 have gs:=I.4
 have X:fits (moved g x w).L=Z:=by
  rw[cG]
  refine decide_eq_true<|aC (aC ?_ hd) (by decide)
  delta moved
  rw[aD]
  exact Jb _ _
 have om:j1 g (moved g x w):=λq hq=>by
  refine cz (mm hq) λp hp zr1=> ?_;subst zr1
  exact⟨(ok p (jP.m hp).1).1,bt (an (jP.m hp).2).1⟩
 have fb:∀l,(J=[]->yX n H l (M J))->tQ call Q ⟨[ax 20 0 0,.L L,sy E x,l,ax 26 m 0,ay 67 P,v6,v7,v8],H,n⟩:=λl hv=>by
  refine CE gs (ba X) ?_
  delta mS at u
  cases hm:moved g x w with
  |nil=>
   rw[hm]at u gs
   obtain rfl:[]=J:=sJ u
   exact ee hk U hz<|K _ _ _ c ad (NG.p U) (A.K ((cy.s I.5.4).p U) MW) C (T.J I.3 hk ⟨67,P,[],U,hg.2,gs,by rw[hm];rfl⟩)<|(hv U).l (lr) λy y y=>iw
  |cons p r=>
   refine g6 (by rfl)<|aM<|dO A.1 ⟨U,cg U ?_⟩
   have hfc:DC g (moved g x w)=M J:=by rw[hm]at u⊢;exact u
   refine hc W A C gs (λz=>Loc.noConfusion z) om X I.5.4 hfc λH' n' i N A' S f hl oJ=> ?_
   have R:=N.t U hk
   refine fM U<|aE<|ee R U hz<|K _ _ _ (c+1) i ((NG.T (N.l λk a b h=>(on h).1) λy y y h=>h).p U) (A'.K ((cy.s N.4).p U) MW) S ((T.K (eD f) (eD f) N.3 (N.q U) λm=>N.q U).J I.3 R ⟨65,n,J,U,f,hl,u⟩)<|.i ⟨65,n,J,U,f,hl,U⟩
 rcases he:eK d J2 with _|v;(
  rw[he]at h3
  subst h3
  exact(F3<|((fb _ λh=>.I ⟨U,Y h U⟩))));(
  rw[he]at h3
  refine DE (a4.2 v he) λk j J' e1 e2 e3 e4=> ?_
  obtain rfl:J=J':=sJ<|u.s.t e4
  refine Y (Eq.trans h3 e1) ?_
  have hL:z6 n H (ay k j) (M J):=⟨k,j,J,U,qI e2 hg.2,e3,U⟩
  refine CE e3 (ba hJ) ?_
  cases hJJ:J with
  |nil=>
   exact((fb _ λy=>.i hL))
  |cons p r=>
   exact x8<|K _ _ _ c ad NG A C (T.adB I.3 hk he)<|.i hL)
theorem yX.q{b:V}{H':Hp}(h:yX n H v o):x5 3 ⟨a::b::c::v::r,H',n'⟩=M v:=by
 rcases h with⟨rfl, -⟩|⟨k,j,J,rfl, -⟩<;>rfl
abbrev UJ(nm:aa)(Is:List Itm)(x:Nat)(top top':au):Prop:=(∀k,(eK top k).i=Z->(eK top' k).i=Z)/\(eK top' (xX nm Is x)).i=Z
theorem Vk{call:CF}{st:V}{ad:ag}(hn:bM e)(hc:Bt e call)(hp:gK e call)(hL:∀n' H',cy wG d j n' H'->H' L=M (.l<|l.m iv))(S:∀m,d<=m->L≠.t 66 m)(W:∀a,∀k∈g.b a,k<g.p.L)(A:tX e g st q c ad H)(R:∀k,ad k<=c)(I:GI e g b x w d j P l tp m H n)(hg:d<=w/\w<n)(ok:j1 g l)(hb:b<=990)(hd:l.L<=990)
  (hf:mS g x l=M J) (hJ:fits J.L=Z) (oJ:j1 g J)
  (K:∀v E H' n' c' h i,cy wG d j n' H'->tX e g st q c' h H'->(∀k,h k<=c')->Tr e g (λy=>b+2) (b+2) aI tp n' n' H' i->UJ e l x P i->yX n' H' v (M J)->Q (.r v) ⟨E,H',n'⟩):
  aR lu (aR (ip call)<|aR (jI call) jJ) Q ⟨Uh L e x u m w v6 v7 v8,H,n⟩:=by
 obtain⟨_,p,s,a2,a3,a4⟩:=I.1.1 m _ _ I.3
 have step:∀u,u=(eK p J2).g .N->aR (ip call) (aR (jI call) jJ) Q ⟨Uh L e x u m w v6 v7 v8,H,n⟩:=λu h3=>by
  refine aM<|aaj hc W A R I hg ok hb hd hf s h3 hJ oJ λv H' n' c' h N C o T hr=> ?_
  refine aE<|aM<|cg hr.q<|bY U C.1 U<|hp (hL _ _ N) (S _ N.1) C.7 ok (by rw[cG];exact decide_eq_true<|bZ (zQ 30) U hd) N.4 λH2 n2 f=>gR U ?_
  have X:=T.K f.1 f.1 f.3 (f.2 _ _ _ U) λm=>f.2 _ _ _ U
  have z:=hr.l f.1 f.3
  refine ee X.2 (xZ e l x) (by rw[cG];exact decide_eq_true<|eM (zQ 47) U hb T.3)<|aE<|cg z.q<|K v _ _ _ c' h _ ((N.T f λy y y y=>U).p U) ((C.K f λy y y y=>U).K ((cy.s f.4).p U) MW) o (X.setTop hn<|Y hf z) ⟨λk hk=> ?_,?_⟩<|z.l (aG _) λy y y=>iw
  .rw[ix]
   rcases dX (xX e l x) k with _|_;(exact hk);(rfl)
  .rw[ix,gN.M U];rfl
 refine aM<|qs s ?_
 rcases r:eK p J2 with _|v;(
  exact tK U U s U r<|aE<|(r▸step) _ U);(
  rw[r]at step
  exact DI U s U r<|aE<|step _ U)
def qV(f:aa)(call:CF):Prop:=∀{g:Gr} {st e:V} {c b x:Nat} {ad:ag} {q:TP} {l:au} {j J:List Itm} {L:Loc} {Q:ab} {i:aq} {H:Hp} {n:Nat},(∀a,∀k∈g.b a,k<g.p.L)->tX f g st e c ad H->(∀k,ad k<=c)->Tr f g (λy=>b) b aI q n n H l->(∀n' H',cy wG n H n' H'->H' L=M (.l<|j.m iv))->(∀m,n<=m->L≠.t 66 m)->j1 g j->b<=990->j.L<=990->(∀k m,n<=m->H (.t k m)=aI)->
 mS g x j=M J->fits J.L=Z->j1 g J->
 (∀v H' n' c' h p d,cy wG n H n' H'->tX f g st e c' h H'->(∀k,h k<=c')->Tr f g (λy=>b+2) (b+2) aI p n' n' H' d->UJ f j x l d->yX n' H' v (M J)->Q v ⟨i,H',n'⟩)->call 347 [ax 20 0 0,.L L,sy f x] Q ⟨i,H,n⟩
theorem NH{call:CF}{st:V}{ad:ag}(hn:bM e)(hc:Bt e call)(hp:gK e call)(W:∀a,∀k∈g.b a,k<g.p.L)(A:tX e g st qM c ad H)(hle:∀k,ad k<=c)(T:Tr e g (λy=>b) b aI tp n n H s)(hL:∀n' H',cy wG n H n' H'->H' L=M (.l<|R.m iv))(hLn:∀m,n<=m->L≠.t 66 m)(ok:j1 g R)(hb:b<=990)(hd:R.L<=990)(h0:∀k m,n<=m->H (.t k m)=aI)
  (hf:mS g x R=M J) (hJ:fits J.L=Z) (oJ:j1 g J)
  (K:∀v P H' n' c' u tp' i,cy wG n H n' H'->tX e g st qM c' u H'->(∀k,u k<=c')->Tr e g (λy=>b+2) (b+2) aI tp' n' n' H' i->UJ e R x s i->yX n' H' v (M J)->Q (.r v) ⟨P,H',n'⟩):
  tD call Q ⟨[ax 20 0 0,.L L,sy e x,v3,v4,v5,v6,v7,v8],H,n⟩:=by
 have tb:=A.1
 refine aM<|bY U tb U<|qs T.2<|hp (hL _ _<|.s h0) (hLn _<|aG _) A.7 ok (by rw[cG];exact decide_eq_true<|bZ (zQ 30) U hd) h0 λH1 n1 l=> ?_
 have X:=A.K l λy y y y=>U
 have d:=T.K l.1 l.1 l.3 (l.2 _ _ _ U) λm=>l.2 _ _ _ U
 have NT:cy wT n H n1 H1:=l.l λy y y y=>U
 have q:∀v3,aR u6 (aR u7<|aR u9<|aR lj<|aR lu<|aR (ip call)<|aR (jI call) jJ) Q ⟨[ax 20 0 0,.L L,sy e x,v3,v4,v5,v6,v7,v8],H1,n1⟩:=λv3=>by
  have C:∀{gn m:Nat} {tp1:TP} {z:au} {H2:Hp} {n2:Nat},GI e g b x gn n H z [] tp1 m H2 n2->n<=gn/\gn<n2->(∀k,(eK s k).i=Z->(eK z k).i=Z)->aR lj (aR lu<|aR (ip call)<|aR (jI call) jJ) Q ⟨Uh L e x v3 m gn v6 v7 v8,H2,n2⟩:=λI hg ht=>by
   exact aM<|aai hn (λn' H' N=>hL n' H'<|N.l λk a b h=>(on h).2) I hg ok hb hd λv6 v7 v8 tp' m' H' n' I' hlt=>(aE<|Vk hn hc hp hL hLn W (A.K I'.5 MW) hle I' ⟨hg.1,hlt⟩ ok hb hd hf hJ oJ λv P H' n' c' u i N A' S T' h1 hr=>K v P H' n' c' u _ i N A' S T' ⟨λk f=>h1.1 k<|ht k f,h1.2⟩ hr)
  refine aM<|bY U X.1 U<|qs d.2 ?_
  rcases f:eK s (sy e x)with _|v;(
   refine tK U U d.2 U f<|aE<|aM<|cg U<|F3<|ff<|aM<|eJ (d.6 n1<|aG _)<|aE<|bY U X.1 U ?_
   refine ee d.2 U (by rw[cG];exact decide_eq_true<|eM (zQ 17) U hb T.3)<|aE<|aM<|b9 (r:=.t 67<|n1+1) (((l.4 _ _<|d7 _))) U<|aE<|C (GI.t hn d X.7 NT) ⟨dz l.1,a8 _⟩ λk f=> ?_
   rw[ix]
   rcases dX (sy e x) k with _|_;(exact f);(rfl));(
   refine cz (d.4 x v f) λm E b2=> ?_;subst E
   obtain⟨_,w,c1,c2,c3,c4⟩:=d.1 m _ _ b2
   have hne:aA w.L 0=D:=by
    cases w with
    |nil=>cases c2 U
    |cons _ _=>rfl
   refine DI U d.2 U f<|(aE<|aM<|(KD c1 (by rw[cG];exact decide_eq_true<|eM (zQ 17) U hb c3) ?_))
   exact Y hne<|x8<|aE<|aM<|b9 (r:=.t 67 n1) (l.4 _ _<|aG _) U<|aE<|C (GI.a d X.7 NT b2) ⟨l.1,a8 _⟩ λk f=>f)
 refine gR U ?_
 rcases f:eK s (xX e R x)with _|v;(exact tK U U d.2 (xZ e R x) f<|aE<|aM<|cg U<|F3<|fx<|aE<|q _);(
  refine DI U d.2 (xZ e R x) f<|fM U<|aE<|aM ?_
  have hr:=d.5 _ _ _ f
  rcases hr with⟨rfl, -⟩|hr
  .exact F3<|fx<|aE<|q _
  .refine DE hr λk j J' E e2 e3 e4=> ?_;subst E
   revert e3;refine rR (((sJ<|hf.s.t e4))) ?_;intro e3
   refine CE e3 (ba hJ) ?_
   cases hJJ:J with
   |nil=>exact fx<|aE<|q _
   |cons p r=>
    refine ff<|oz<|K _ _ _ _ c ad tp s (l.l λy y y y=>U) X hle ?_ ⟨λy h=>h,by refine Y f ?_;rfl⟩<|.i ⟨k,j,J,U,e2,e3,U⟩
    exact d.o (aG _) (λy y y=>U) (λy y h=>h) d.2 (aC d.3<|du (zQ 18) U) d.4 d.5 (λy=>du (zQ 18) U) d.6 λm x ps h=>⟨(d.1 m x ps h).1,.I<|kb h U id⟩)
theorem L8:dT (d+1) 347=gw jX (tD<|dT d) 3 []:=by kernel_rfl
theorem Vj(a:aa)(n:bM a)(d:Nat)(m:Bt a (dT d))(l:gK a (dT d)):qV a (dT<|d+1):=λW A c T k b ok j i h g f e K=>by
 exact Y L8<|⟨U,NH n m l W A c T k b ok j i h g f e λv x=>K v⟩
def Az(q:ao)(s:Nat):Option (List Nat):=mQ (fits q.L)<|bif has s q then q else q++[s]
def uniq(l:ao):List Nat:=l.f (λq s=>bif has s q then q else q++[s]) []
def Gr.u(g:Gr)(k:Nat):List Nat:=uniq<|g.r k
def UK(a:aa)(g:Gr)(H:Hp):Prop:=∀k,k<g.p.L->H (.o 2 k 1)=M (.l<|(g.u k).m<|sy a)
def DR(g:Gr)(I:List Itm):Option (List Nat):=bA (λq (p:Itm)=>bA Az (g.u p.1) q) I []
inductive AS(nm:aa)(a cu:Nat)(cC:Hp)(q:ao)(H:Hp)(n:Nat):Prop
 |mk (d:H (.t 69 a)=M (.d (q.m λs=>(sy nm s,.N)))) (now:cy (λx x x=>D) cu cC n H)
theorem aar(X:bM f)(b:UK f g c)(A:xH f g c)(R:∀n' H',cy (λx x x=>D) d c n' H'->H' L=M (.l<|I.m iv))(ok:j1 g I)(P:d<=a/\a<n)(S:AS f a d c q H n)(w:bA (λq p=>bA Az (g.u p.1) q) I q=M q')
  (K:∀N v H',AS f a d c q' H' n->Q .n ⟨[v0,v1,J,.L L,ay 69 a,N,v,E,C],H',n⟩):
  sG Q ⟨[v0,v1,J,.L L,ay 69 a,N,v,E,C],H,n⟩:=by
 refine bL (R _ _ S.2)<|ei (λx=>iv) I _ (λq e=>[v0,v1,J,.L L,ay 69 a,e.1,e.2,E,C]) (λq H' n'=>AS f a d c q H' n'/\n'=n) _ w (cH λa H' n' h=>R _ _ h.1.2) (λq e p q1 i H' n' K' y w k T=> ?_) (λe H' n' k=> ?_) ⟨S,U⟩ (g₀:=(N,v))
 .obtain⟨u,rfl⟩:=k
  have r:∀q H' n',AS f a d c q H' n'->H' (.o 2 p.1 1)=M (.l<|(g.u p.1).m<|sy f):=λq H' n' h=>h.2.t U<|(b p.1 ((ok p<|aJ y)).1)
  refine bY U (u.2.t U<|(A p.1 p.2 ((ok p<|aJ y)).1 ((ok p<|aJ y)).2)) U (bL (r _ _ _ u)<|ei (λx=>sy f) (g.u p.1) _ (λq v=>[v0,v1,J,.L L,ay 69 a,iv p,v,E,C]) (λq H' j=>AS f a d c q H' j/\j=n') Az w (cH λa H' n' h=>r _ _ _ h.1) (λq e s q1 i H' j K'' y w k z=> ?_) (λe H' n' k=> ?_) ⟨u,U⟩)
  .obtain⟨m,rfl⟩:=k
   revert z;refine Yq w λhz z=> ?_
   refine ee m.1 U (ba hz)<|z.1 _ _ _ ⟨⟨(aT _ _ _).t ?_,m.2.u P.1 P.2⟩,U⟩
   rcases h:has s q with _|_;(exact Y (md X (λx=>.N) s .N q h)<|congrArg (λl=>M<|O.d l) (aK (l₂:=[s])).s);(refine Y ((FH (NV X) ((λx=>.N)) s q) h) ?_;rfl)
  .exact gk<|T.1 (iv p,e) _ _ k
 .obtain⟨u,rfl⟩:=k;exact gk<|K _ _ _ u
noncomputable def eqT(u t:Nat×Nat):Bool:=aA u.1 t.1&&aA u.2 t.2
theorem q6:eqT u t=Z↔u=t:=by delta eqT;rw[d8,beq_iff,beq_iff,XR]
def t8(I:List Itm):List Itm->Bool:=I.R (λJ=>J.R Z λ_ _ _=>D) λp _ a J=>J.R D λq J _=>eqT p q&&a J
theorem ou:∀{J:List Itm},t8 I J=Z↔I=J:=by
 induction I with
 |nil=>intro J;cases J with
  |nil=>exact⟨λx=>U,λx=>U⟩
  |cons=>exact⟨bF,λh=>by cases h⟩
 |cons p I a=>intro J;cases J with
  |nil=>exact⟨bF,λh=>by cases h⟩
  |cons q J=>show(eqT p q&&t8 I J)=Z↔_;rw[d8,q6,a,List.cons.injEq]
def l7(J:List Itm)(C:List (List Itm)):Nat->Option Nat:=C.R (λ_=>aI) λI _ a i=>bif t8 I J then M i else a (i+1)
theorem NN(J K:List Itm):∀(C:List (List Itm)) (i:Nat),l7 J (C++[K]) i=(l7 J C i).or (bif t8 K J then M (i+C.L)else aI)
 :=λb=>b.R (λi=>U) (λI C a i=>by
  show(bif t8 I J then M i else l7 J (C++[K]) (i+1))=(bif t8 I J then M i else l7 J C (i+1)).or _
  rw[a (i+1),cq,ew,ur 1]
  rcases t8 I J with _|_<;>rfl)
def vg(J:List Itm):V:=V.t<|J.m pv
inductive HA(C:List (List Itm))(H:Hp)(kvs:au):Prop
 |mk (at_:H (.o 24 0 0)=M (.d kvs)) (len:kvs.L<=C.L) (get:∀J,eK kvs (vg J)=(l7 J C 0).m λi=>.I (.o i))
theorem HA.a(h:HA C H c)(e:l7 J C 0=aI):HA (C++[J]) (aZ H (.o 24 0 0)<|.d<|gi c (vg J)<|.I<|.o C.L) (gi c (vg J)<|.I<|.o C.L):=by
 refine⟨hA,?_,λK=> ?_⟩
 .exact Y aL<|aC (sC _ _ _)<|bz h.2
 .rw[ix,h.3,NN]
  exact bC (b:=dX (vg J)<|vg K) λa=>by
   refine Y a<|rR (EK<|gN.m a) ?_
   rw[e,ou.M U,eE];rfl λa=>by
   refine Y a ?_
   have:t8 J K=D:=by
    exact bC (b:=t8 J K) (λd=>by rw[ou.m d,gN.M U]at a;exact bT a) λd=>by refine Y d ?_;rfl
   refine Y this ?_
   rcases l7 K C 0 with _|_<;>rfl
def Rows(n:Nat)(H:Hp)(r:aq)(C:List (List Itm)):Prop:=r.L=C.L/\∀(i:Nat) (I:List Itm),C[i]?=M I->∃v,r[i]?=M v/\z6 n H v (M I)
theorem Rows.l(h:Rows n H r C):r.L=C.L:=h.1
theorem Rows.u{i:Nat}(h:Rows n H r C)(e:C[i]?=M I):∃v,r[i]?=M v/\z6 n H v (M I):=h.2 i I e
theorem Rows.q(d:n<=n')(c:∀k m,m<n->H' (.t k m)=H (.t k m))(h:Rows n H r C):Rows n' H' r C:=⟨h.1,λi I e=>cz (h.2 i I e) λv a b=>br v a<|b.l d c⟩
theorem Rows.w(b:z6 n H v (M I))(h:Rows n H r C):Rows n H (r++[v]) (C++[I]):=by
 refine⟨by rw[aL,aL,h.1];rfl,λi J=> ?_⟩
 rcases qH i C.L with a|a
 .rw[b0 a,b0<|h.1▸a];exact h.2 i J
 .rw[bO a,bO<|h.1▸a,h.1]
  rcases i - C.L with _|k;(exact λe=>br v U<|rS e b);(exact λe=>nS e)
theorem vy{P:m->Prop}:∀{a c:m},(∀a b c,b∈l->P a->f a b=M c->P c)->P a->bA f l a=M c->P c:=by
 induction l with
 |nil=>exact λ_ h e=>rS e h
 |cons b r k=>exact λd h e=>vw e λj i e=>k (λa b c g=>d a b c<|.t _ g) (d _ b j (.h _) h i) e
theorem SY{get:d->List p}{P:d->Prop}(o:∀a b c,b∈get a->P a->f a b=M c->P c):∀{i:Nat} {a c:d},P a->C8 get f m i a=M c->P c:=by
 induction m with
 |zero=>exact λ_ e=>nS e
 |succ m n=>
  intro i a c h
  show BF (motive:=λ_=>Option d) (M a) (λb=>ob (f a b)<|C8 get f m<|i+1) (get a)[i]?=_->_
  rcases l:(get a)[i]? with _|b;(exact λe=>rS e h);(exact λe=>bc e λk j g=>n (o a b k (aJ l) h j) g)
theorem Qz(c:x<g.p.L)(h:j1 g q.1.1)(e:Qy q x=M b):j1 g b.1.1:=by
 refine ot e (λy e=> ?_) λy e=> ?_
 .refine rR (sJ e) ?_;exact h
 .refine rR ((cj e)).2 ?_
  intro p a
  rcases ma a with a|a
  .exact h p a
  .exact Y (m1 a)<|⟨c,cO _⟩
theorem Od{P:d->Prop}(j:∀a b,P a->f a=M (.g b)->P b)(i:∀a b,P a->f a=M (.r b)->P b):∀{a:d} {r:d×Bool},P a->i7 f m a=M r->P r.1:=by
 induction m with
 |zero=>exact λ_ e=>nS e
 |succ m g=>
  intro a r h e
  refine bc e λs c e=> ?_
  rcases s with a1|a1|_;(exact g (j _ a1 h c) e);(exact rS e<|i _ a1 h c);(exact rS e h)
theorem tu(W:∀a,∀k∈g.b a,k<g.p.L)(h:j1 g I)(e:mS g x I=M J):j1 g J:=by
 refine ot e (λy e=> ?_) λy e=>by
  refine bc e λp r e=>rR (sJ e)<|Od (P:=λq=>j1 g q.1.1) (λq o d e=> ?_) (λq o d e=> ?_) ((λq d=>by
   refine cz (mm d) λp c i=> ?_;refine rR i ?_
   exact⟨(h p (jP.m c).1).1,bt (an (jP.m c).2).1⟩)) r
  .refine cW e (λy e=>(bc e λn j e=> ?_)) λy e=>by cases e
   refine rG e ?_
   exact SY (λa b m y f e=>vy (P:=λq=>j1 g q.1.1) (λa x m l f e=>Qz (WO W x l) f e) f e) d j
  .exact cW e (λy e=>(bc e λn j e=>by cases e)) λy e=>by cases e
 refine rR (sJ e) ?_;intro p c;cases c
def Z3(k a b:Nat):Bool:=wG k a b||aA k 24||aA k 27
inductive IT(nm:aa)(g:Gr)(st qM:V)(cu:Nat)(cC:Hp)(C:List (List Itm))(b:Nat)(c:Nat)(ad:ag)(tp:TP)(top kvs:au)(ls:aq)(H:Hp)(n:Nat):Prop
 |mk (lr:tX nm g st qM c ad H) (le:∀k,ad k<=c) (tr:Tr nm g (λx=>b) b aI tp n n H top) (ha:HA C H kvs) (cl:H (.o 27 0 0)=M (.l ls)) (rows:Rows n H ls C) (ok:∀I∈C,j1 g I/\aO I.L 900=Z) (now:cy Z3 cu cC n H)
abbrev QI:=List (List Itm)×Nat
def Vp(g:Gr)(I:List Itm)(q:QI)(x:Nat):Option QI:=ob (mS g x I) λJ=>mQ (aO J.L 900&&aO q.2 990&&aO q.1.L 900) (bif J.i||(l7 J q.1 0).i then q.1 else q.1++[J],q.2+2)
section
variable{st:V}{ad:ag}
theorem IT.K(T:IT j g st e d a C b c ad i h f ls H n)(N:cy (λx x x=>D) n H n' H'):IT j g st e d a C b c ad i h f ls H' n':=
 ⟨T.1.K N λx x x x=>U,T.2,T.3.K N.1 N.1 N.3 (N.q U) λm=>N.q U,⟨N.t U T.4.1,T.4.2,T.4.3⟩,N.t U T.5,T.6.q N.1 N.3,T.7,T.8.T N λx x x x=>U⟩
theorem i9{k:Nat}(h:aO k 900=Z):fits k=Z:=fz (bl h) U
theorem aas{call:CF}(hn:bM w)(hg:qV w call)(hp:gK w call)(W:∀a,∀k∈g.b a,k<g.p.L)(T:IT w g st R P E C b c ad tp top s ls H n)(X:z6 n H (.L L) (M I))(oI:j1 g I)(zI:aO I.L 900=Z)(hf:Vp g I (C,b) x=M q')
  (K:∀z v8 c' q l d kvs' ls' H' n',z=F.n\/z=.cont->n<=n'->(∀k m,m<n->H' (.t k m)=H (.t k m))->IT w g st R P E q'.1 q'.2 c' q l d kvs' ls' H' n'->UJ w I x top d->Q z ⟨[ax 20 0 0,ax 27 0 0,v2,.L L,v4,v5,v6,sy w x,v8],H',n'⟩):
  sH call Q ⟨[ax 20 0 0,ax 27 0 0,v2,.L L,v4,v5,v6,sy w x,v8],H,n⟩:=by
 have tb:=T.1.1
 obtain⟨k,j,I',e1,e2,e3,e4⟩:=X
 obtain rfl:=V.L.inj e1
 obtain rfl:=sJ e4
 refine bc hf λJ hJ hf=> ?_
 refine ir (cj hf) λhz zr1=> ?_;revert K;refine rR zr1 ?_;intro K
 obtain⟨hz,z3⟩:=an hz
 obtain⟨z1,z2⟩:=an hz
 have oJ:=tu W oI hJ
 refine aM ?_
 refine dO tb ⟨U,cg U<|cg U<|hg W T.1 T.2 T.3 (λn' H' N=>(N.3 _ _ e2).t e3) (λm A z=>by cases z;exact zF<|eM (zQ 1) U e2 A) oI (bl z2) (aC (bl zI) (by decide)) T.8.4 hJ (i9 z1) oJ λv H' n' c' q l d N A' hle' T' h1 hr=> ?_⟩
 have T1:IT w g st R P E C (b+2) c' q l d s ls H' n':=⟨A',hle',T',⟨N.t U T.4.1,T.4.2,T.4.3⟩,N.t U T.5,T.6.q N.1 N.3,T.7,T.8.T N λk a b h=>(on (on h).1).1⟩
 have f:∀{v8:V} {H2:Hp} {n2:Nat},cy (λy y y=>D) n' H' n2 H2->(J.i||(l7 J C 0).i)=Z->Q .cont ⟨[ax 20 0 0,ax 27 0 0,v2,ay k j,v4,v5,v6,sy w x,v8],H2,n2⟩:=λe h=>by
  exact K .cont _ c' q l d s ls _ _ (.i U) (aC N.1 e.1) (λk m A=>(e.3 k m<|aH A N.1).t<|N.3 k m A) (Y h<|T1.K e) h1
 refine aE<|aM ?_
 dsimp only
 rcases hr with⟨rfl,h⟩|⟨k',j',J',rfl,f2,f3,f4⟩
 .obtain rfl:=sJ h
  exact F3<|ff<|ff<|gk<|uP<|f (.s N.4) U
 obtain rfl:=sJ f4
 refine CE f3 (ba<|i9 z1) ?_
 cases hJ0:J with
 |nil=>exact ff<|ff<|gk<|uP<|f (.s N.4) (by refine Y hJ0 ?_;rfl)
 |cons p r=>
  have he:J.i=D:=by refine Y hJ0 ?_;rfl
  refine gv (by rfl)<|hp f3 ((IU f2)) A'.7 oJ (i9 z1) N.4 λH2 n2 e=> ?_
  have T2:=T1.K e
  have tb2:=T2.1.1
  refine bY U tb2 U<|tL T2.4.1 (vB _ 5 λv hv=>by obtain⟨p,_,rfl⟩:=mm hv;rfl)<|Y (T2.4.3 J) ?_
  rcases hi:l7 J C 0 with _|i;(
   have f3':=(e.3 _ _ f2).t f3
   have zls:fits ls.L=Z:=Y T.6.l<|i9 z3
   refine fx<|fx<|aE<|aM<|uR T2.5 zls<|bY U tb2 U<|hp f3' ((IU<|(aH f2 e.1))) T2.1.7 oJ (i9 z1) e.4 λH3 n3 S=> ?_
   have u:=T2.K S
   have zk:fits s.L=Z:=fz T.4.2<|i9 z3
   refine ee u.4.1 (vB _ 5 λv hv=>by obtain⟨p,_,rfl⟩:=mm hv;rfl) zk<|aE ?_
   refine fE u.5<|gA u.5 zls ?_
   have hq:(bif J.i||(l7 J C 0).i then C else C++[J])=C++[J]:=by refine Y he<|Y hi ?_;rfl
   have hh:=u.4.a hi
   rw[<-T.6.l]at hh
   refine K .n _ c' q l d (gi s (vg J)<|.I<|.o ls.L) (ls++[ay k' j']) _ n3 (.I U) (aC N.1<|aC e.1 S.1) (λk m A=>(((((S.3 k m<|aH A<|aC N.1 e.1).t<|(e.3 k m<|ju (zQ 119) U A N.1).t<|N.3 k m A))))) (Y hq ?_) h1
   have ht:∀k m,m<n3->aZ (aZ H3 (.o 24 0 0)<|.d<|gi s (V.t<|J.m pv)<|.I<|.o ls.L) (.o 27 0 0) (.l<|ls++[ay k' j']) (.t k m)=H3 (.t k m):=λk m y=>iw
   refine⟨u.1.K (W:=λk y y=>aA k 24||aA k 27) (((cy.s S.4).p U).p U) λk a b h=> ?_,u.2,u.3.K (aG _) (aG _) ht (b8 U) λm=>b8 U,⟨hh.1,hh.2,hh.3⟩,aT _ _ _,(u.6.w ⟨k',j',J,U,aH f2<|aC e.1 S.1,((S.3 _ _<|aH f2 e.1).t f3'),U⟩).q (aG _) ht,λI X=> ?_,u.8.T (((cy.s S.4).p U).p U) λy y y h=>h⟩
   .exact bC (b:=aA k 24||aA k 27) (λh2=>by rcases oy h2 with h2|h2<;>rw[bq h2]at h<;>exact bT h) λh2=>by refine Y h2 ?_;rfl
   .rcases ma X with X|X
    .exact T.7 I X
    .exact Y (m1 X)<|⟨oJ,z1⟩);(exact ff<|ff<|gk<|uP<|f e (by refine Y hi<|Y he ?_;rfl))
def Ux(b:aa)(a:au)(I:List Itm)(l:ao):Prop:=∀x∈l,(eK a<|xX b I x).i=Z
inductive I18(nm:aa)(g:Gr)(st:V)(qM:V)(cu:Nat)(cC:Hp)(I:List Itm)(asy:ao)(q':QI)(lv:V->V->List V)(n:Nat)(H:Hp)(top:au)(r:ao):St->Prop
 |mk {done:ao} {q:QI} {c':Nat} {ad':ag} {tp':TP} {top' kvs':au} {ls':aq} {H':Hp} {n':Nat} (v7 v8:V) (e1:asy=done++r) (e2:bA (Vp g I) r q=M q') (e4:n<=n') (e5:∀k m,m<n->H' (.t k m)=H (.t k m)) (e6:IT nm g st qM cu cC q.1 q.2 c' ad' tp' top' kvs' ls' H' n') (e7:∀k,(eK top k).i=Z->(eK top' k).i=Z) (e8:Ux nm top' I done):I18 nm g st qM cu cC I asy q' lv n H top r ⟨lv v7 v8,H',n'⟩
theorem aat{call:CF}(hn:bM v)(hg:qV v call)(hp:gK v call)(W:∀a,∀k∈g.b a,k<g.p.L)(T:IT v g st p l j C b c ad tp E kvs ls H n)(hI:z6 n H (.L L) (M I))(oI:j1 g I)(zI:aO I.L 900=Z)(hd:H (.t 69 a)=M (.d<|i.m λs=>(sy v s,.N)))(ha:a<n)(hf:bA (Vp g I) i (C,b)=M q')
  (K:∀u f c' ad' tp' d A X H' n',n<=n'->IT v g st p l j q'.1 q'.2 c' ad' tp' d A X H' n'->(∀k,(eK E k).i=Z->(eK d k).i=Z)->Ux v d I i->Q .n ⟨[ax 20 0 0,ax 27 0 0,v2,.L L,ay 69 a,v5,v6,u,f],H',n'⟩):
  sI call Q ⟨[ax 20 0 0,ax 27 0 0,v2,.L L,ay 69 a,v5,v6,u,f],H,n⟩:=by
 refine kg hd<|NB (sy v) i (I18 v g st p l j I i q' (λu f=>[ax 20 0 0,ax 27 0 0,v2,.L L,ay 69 a,v5,v6,u,f]) n H E) (λr σ h=> ?_) (aD ..) (λσ h=> ?_) (λx r σ hx h K' T'=> ?_)<|.mk u f (done:=[]) U hf (lr) (λw w w=>U) T (λw h=>h) λw h=>by cases h
 . cases h with
  |mk u f S N J R e6 e7 e8=>exact br _ ((R _ _ ha).t hd) (by refine Y dQ ?_;rfl)
 . cases h with
  |mk u f S N J R e6 e7 e8=>
   cases N
   rw[bQ]at S
   exact gk<|K _ _ _ _ _ _ _ _ _ _ J e6 e7<|S▸e8
 . cases h with
  | @mk done q c' ad' tp' d A X H' n' u f S N J R e6 e7 e8=>
   refine bc N λq1 h1 N=>fM U<|aas hn hg hp W e6 (hI.l J R) oI zI h1 λz f c2 ad2 tp2 top2 kvs2 ls2 H2 n2 hz f4 f5 f6 f7=> ?_
   have F:I18 v g st p l j I i q' (λu f=>[ax 20 0 0,ax 27 0 0,v2,.L L,ay 69 a,v5,v6,u,f]) n H E r ⟨_,H2,n2⟩:=.mk (sy v x) f (S.t<|Ap ..) N (aC J f4) (λk m hm=>(f5 k m<|aH hm J).t<|R k m hm) f6 (λk h=>f7.1 k<|e7 k h) λy P=>(ma P).e (λP=>f7.1 _<|e8 y P) λP=>m1 P▸f7.2
   exact hz.e (λe=>e▸T'.1 _ F) λe=>e▸T'.2 _ F
theorem Mj(h:bA (Vp g I) l q=M j):∃t,j.1=q.1++t:=
 vy (P:=λr=>∃t,r.1=q.1++t) (λa b i x c e=>j8 c λt f=>j8 ((show∃t,i.1=a.1++t from by
  refine bc e λJ y e=> ?_
  refine rR ((cj e)).2 ?_
  rcases J.i||(l7 J a.1 0).i with _|_;(exact⟨[J],U⟩);(exact⟨[],(bQ _).s⟩))) λu d=>⟨t++u,by rw[d,f,cN]⟩) ⟨[],(bQ _).s⟩ h
theorem lt_int(i j:Nat):decide (aY i<aY j)=bg i j:=by
 rcases h:bg i j with _|_;(exact decide_eq_false λz=>by rw[tb (dG.m z)]at h;exact bT h);(exact decide_eq_true<|dG.M<|bt h)
end
def g!(g:Gr)(q:QI×Nat):Option (BN<|QI×Nat):=bif aO q.1.1.L 900 then(match q.1.1[q.2]? with
 |none=>M .o
 |some I=>ob (DR g I) λa=>ob (bA (Vp g I) a q.1) λb=>M<|.g (b,q.2+1))else aI
inductive IW(nm:aa)(g:Gr)(st qM:V)(cu:Nat)(cC:Hp)(q:QI×Nat)(H:Hp)(n:Nat):Prop
 |intro(c:Nat) (ad:ag) (tp:TP) (top kvs:au) (ls:aq) (it:IT nm g st qM cu cC q.1.1 q.1.2 c ad tp top kvs ls H n) (hit:∀k I asy,k<q.2->q.1.1[k]?=M I->DR g I=M asy->Ux nm top I asy)
theorem gZ(h:i<m):idx m (aY i)=M i:=by
 show(bif bg i m then M i else aI)=_
 refine Y (cb.m h) ?_;rfl
section
variable{st:V}{call:CF}
theorem aau(hn:bM f)(hg:qV f call)(hp:gK f call)(W:∀a,∀k∈g.b a,k<g.p.L)(b:UK f g d)(T:IW f g st A z d q H n)(hz:aO q.1.1.L 900=Z)(w:q.1.1[q.2]?=M I)(hs:DR g I=M asy)(hf:bA (Vp g I) asy q.1=M q')
  (K:∀v3 v4 v5 v6 v7 v8 H' n',IW f g st A z d (q',q.2+1) H' n'->Q .n ⟨[ax 20 0 0,ax 27 0 0,.I<|.o<|q.2+1,v3,v4,v5,v6,v7,v8],H',n'⟩):
  sL call Q ⟨[ax 20 0 0,ax 27 0 0,.I<|.o q.2,v3,v4,v5,v6,v7,v8],H,n⟩:=by
 obtain⟨c,ad,tp,top,kvs,ls,T,ht⟩:=T
 refine cz (T.6.u w) λv h1 hv=>DE (id hv) λk j I' e1 e2 e3 e4=> ?_
 obtain rfl:=aV e4
 subst e1
 have zl:fits ls.L=Z:=by exact Y T.6.l<|i9 hz
 have X:=(bw.m h1).1
 obtain⟨u,zI⟩:=T.7 I<|aJ w
 refine aM<|cg U<|jR T.5 zl (gZ X) h1<|fM U<|aE<|aM<|tA<|fM U<|aE<|aM ?_
 have S0:AS f n n H [] (aZ H (.t 69 n)<|.d []) (n+1):=⟨aT _ _ _,(cy.s T.8.4).e⟩
 refine eJ (r:=.t 69 n) (T.8.4 _ _<|aG _)<|fM U<|aE<|aM ?_
 have hL:∀n' H',cy (λy y y=>D) n H n' H'->H' (.t k j)=M (.l<|I.m iv):=λn' H' N=>(N.3 _ _ e2).t e3
 refine aar hn (λk h=>(T.8.2 _ _ _ U).t<|b k h) T.1.7 hL u ⟨aG _,a8 _⟩ S0 hs λv5 v6 H' S=>aE<|aat hn hg hp W (T.K S.2) (hv.l S.2.1 S.2.3) u zI S.1 (a8 _) hf λv7 v8 c' R P s p L H2 n2 hle T2 h8 h9=>K _ _ _ _ _ _ _ _ ⟨c',R,P,s,p,L,T2,λi J m E C l=> ?_⟩
 rcases lI.m E with E|rfl
 .obtain⟨t,e⟩:=Mj hf
  exact λx hx=>h8 _<|ht i J m E (by
   rw[e,b0<|qI E (bw.m w).1]at C;exact C) l x hx
 .obtain⟨t,e⟩:=Mj hf
  rw[e,b0 (bw.m w).1,w]at C
  obtain rfl:=aV C
  exact rR (aV<|hs.s.t l) h9
theorem aav(hn:bM r)(hg:qV r call)(hp:gK r call)(W:∀a,∀k∈g.b a,k<g.p.L)(b:UK r g i)(T:IW r g st l j i q H n)(hf:i7 (g! g) f q=M (q',z))
  (K:∀E H' n',IW r g st l j i q' H' n'->Q .n ⟨ax 20 0 0::ax 27 0 0::E,H',n'⟩):
  sM call Q ⟨[ax 20 0 0,ax 27 0 0,.I<|.o q.2,C,A,y,w,v,u],H,n⟩:=by
 refine mD (λq e=>[ax 20 0 0,ax 27 0 0,.I<|.o q.2,e.1,e.2.1,e.2.2.1,e.2.2.2.1,e.2.2.2.2.1,e.2.2.2.2.2]) (λq H' n'=>IW r g st l j i q H' n') (g! g) hf (λa e s H' n' K' X KB d p t hT hX=>(cW d (λhz d=> ?_) λx d=>nS d)) (λe H' n' p x=>gk<|K _ _ _ p) (λe H' n' p x=>K _ _ _ p) T (g₀:=(C,A,y,w,v,u))
 obtain⟨c,ad,tp,S,R,ls,T,ht⟩:=id p
 refine uR T.5 (by exact Y T.6.l<|i9 hz)<|FZ ?_
 rw[lt_int,T.6.l]
 rcases m:a.1.1[a.2]? with _|I;(
  rw[m]at d
  obtain rfl:=aV d
  have:bg a.2 a.1.1.L=D:=by
   exact bC (λh=>by rw[aP (cb.M h)]at m;exact sN m) λh=>by refine Y h ?_;rfl
  exact Y this<|hX _ t);(
  rw[m]at d
  rw[cb.m (bw.m m).1]
  refine bc d λP N d=>bc d λq1 L d=> ?_
  revert t;refine rR (aV d) ?_;intro t
  exact hT _<|aau hn hg hp W b p hz m N L λC A y w v u H' n' J=>t.1 (C,A,y,w,v,u) _ _ J)
end
noncomputable def kLR(k:Nat):Bool:=aA k 1||aA k 2||aA k 3||aA k 7||aA k 12||aA k 20||aA k 23||aA k 24||aA k 26||aA k 27
theorem zq(h:kLR k=Z)(c:kLR j=D):aA k j=D:=by
 exact bC (b:=aA k j) (λa=>by obtain rfl:=bq a;rw[h]at c;exact bT c) λa=>by refine Y a ?_;rfl
theorem tX.S{st:V}{ad:ag}(A:tX o g st e c ad H){W:Nat->Nat->Nat->Bool}(N:cy W n H n' H')(d:∀k a b,kLR k=Z->W k a b=D):tX o g st e c ad H':=
 ⟨N.t (d _ _ _ U) A.1,N.t (d _ _ _ U) A.2,N.t (d _ _ _ U) A.3,N.t (d _ _ _ U) A.4,N.t (d _ _ _ U) A.5,λa h=>N.t (d _ _ _ U)<|(A.6 a h),λk j i f=>N.t (d _ _ _ U)<|(A.7 k j i f),λk j i f m=>N.t (d _ _ _ U)<|(A.8 k j i f m),
  λk h=>cz (A.9 k h) λl a b=>br l (N.t (d _ _ _ U) a) b⟩
structure LD where
 n:Nat->List Nat
 g:Gr
 s:V
 m:V
 C:List (List Itm)
 b:Nat
inductive r0(g:Gr):Prop
 |mk (by_:∀a,∀k∈g.b a,k<g.p.L) (pos:0<g.p.L) (few:fits g.p.L=Z) (short:∀k,fits ((g.r k).L+1)=Z)
inductive LR(d:LD)(H:Hp)(n:Nat):Prop
 |intro(c:Nat) (ad:ag) (tp:TP) (top kvs:au) (ls:aq) (it:IT d.n d.g d.s d.m n H d.C d.b c ad tp top kvs ls H n) (us:UK d.n d.g H) (hit:∀(k:Nat) (I:List Itm) (asy:ao),d.C[k]?=M I->DR d.g I=M asy->Ux d.n top I asy)
theorem LR.K(T:LR d H n){W:Nat->Nat->Nat->Bool}(N:cy W n H n' H')(e:∀k a b,kLR k=Z->W k a b=D):LR d H' n':=by
 obtain⟨c,ad,l,i,g,ls,T,j,f⟩:=T
 exact⟨c,ad,l,i,g,ls,⟨T.1.S N e,T.2,T.3.K N.1 N.1 N.3 (N.q<|e _ _ _ U) λm=>N.q<|e _ _ _ U,⟨N.t (e _ _ _ U) T.4.1,T.4.2,T.4.3⟩,N.t (e _ _ _ U) T.5,T.6.q N.1 N.3,T.7,.s N.4⟩,λk h=>N.t (e _ _ _ U)<|(j k h),f⟩
def pC(g:Gr):Option (List (List Itm)×Nat):=ob (DC g [(0,0)]) λI=>bif aO I.L 900 then ob (i7 (g! g) 900 (([I],0),0)) λp=>mQ (aO p.1.1.1.L p.1.2) p.1.1 else aI
def wIt(k a b:Nat):Bool:=Z3 k a b
def JB(e:aa)(call:CF):Prop:=∀{g:Gr} {st a:V} {c:Nat} {ad:ag} {C:List (List Itm)} {b:Nat} {Q:ab} {d:aq} {H:Hp} {n:Nat},r0 g->tX e g st a c ad H->(∀k,ad k<=c)->UK e g H->H (.o 23 0 0)=M (.d [])->(∀m,H (.o 26 m 0)=aI)->H (.o 24 0 0)=M (.d [])->H (.o 27 0 0)=aI->(∀k m,n<=m->H (.t k m)=aI)->
 pC g=M (C,b)->(∀H' n',cy Z3 n H n' H'->LR ⟨e,g,st,a,C,b⟩ H' n'->Q (ax 27 0 0) ⟨d,H',n'⟩)->call 354 [ax 20 0 0] Q ⟨d,H,n⟩
theorem Kl{call:CF}{st:V}{ad:ag}(hn:bM L)(hc:Bt L call)(hg:qV L call)(hp:gK L call)(W:r0 g)(A:tX L g st E c ad H)(hle:∀k,ad k<=c)(d:UK L g H)(h23:H (.o 23 0 0)=M (.d []))(h26:∀m,H (.o 26 m 0)=aI)(h24:H (.o 24 0 0)=M (.d []))(h27:H (.o 27 0 0)=aI)(h0:∀k m,n<=m->H (.t k m)=aI)
  (l:pC g=M (C,b)) (K:∀loc H' n',cy Z3 n H n' H'->LR ⟨L,g,st,E,C,b⟩ H' n'->Q (.r<|ax 27 0 0) ⟨loc,H',n'⟩):
  wK call Q ⟨[ax 20 0 0,v1,v2,v3,v4,v5,v6,v7,v8],H,n⟩:=by
 refine bc l λI h1 l=>cW l (λzI l=>(bc l λp w l=> ?_)) λy l=>nS l
 have tb:=A.1
 have gr:=A.2
 refine hM (A.9 0 W.2) λfs p1 p2 p3 y=>aM ?_
 refine dO tb ⟨U,(uQ U tb U gr U<|jR A.3 (ba (by exact Y dy W.3)) (gZ (by rw[aD,dy];exact W.2)) (by refine Y aN<|Y (wY W.2) ?_;rfl) ?_)⟩
 refine zB p1 p3<|b9 (r:=.t 80 n) (h0 _ _<|aG _) U ?_
 have ok0:j1 g [(0,0)]:=λq hq=>by exact Y (aX.m hq)<|⟨W.2,cO _⟩
 have N1:cy Z3 n H (n+1) (aZ H (.t 80 n)<|.l [ax 3 0 0]):=(cy.s h0).e
 refine hc W.1 A.t hle (aT _ _ _) (λz=>Loc.noConfusion z) ok0 U N1.4 h1 λP n2 ad2 N A2 hle2 hlt hl X=> ?_
 have N3:=N1.T N λk a b h=>(bp.m (bp.m (bp.m h).1).1).1
 refine b9 ((N.2 _ _ _ U).t h27) U<|fM U<|aE<|aM<|aE<|aM<|bL (aT P (.o 27 0 0)<|.l [.L (.t 65<|n+1)]) ?_
 have S:∀(k _a _b:Nat),aO 21 k=D->(aA k 24||aA k 27)=D:=λk a b h=>by
  exact bC (b:=aA k 24||aA k 27) (λw=>by rcases dZ.m w with w|w<;>rw[(beq_iff _ _).m w]at h<;>exact bT h) λw=>by refine Y w ?_;rfl
 refine Ef id [.L (.t 65<|n+1)] (λr σ=>r.R (∃v3 H' n' j,σ=⟨[ax 20 0 0,ax 27 0 0,.I<|.o 1,v3,v4,v5,v6,v7,v8],H',n'⟩/\IT L g st E n H [I] 0 (c+1) ad2 (λy=>aI) [] j [.L (.t 65<|n+1)] H' n') λ_ r _=>r.R (σ=⟨[ax 20 0 0,ax 27 0 0,.I 0,v3,v4,v5,v6,v7,v8],aZ P (.o 27 0 0)<|.l [.L (.t 65<|n+1)],n2+1⟩) λ_ _ _=>False) (λr σ h=> ?_) (λσ h=> ?_) (λv r σ hv h K' T=> ?_) U
 .rcases r with _|⟨_,_|_⟩;(obtain⟨v3,H',n',j,rfl,T⟩:=h;exact T.5);(exact Y h<|aT P (.o 27 0 0)<|.l [.L (.t 65<|n+1)]);(exact h.e)
 .obtain⟨v3,H',n',j,rfl,T⟩:=h
  refine gk<|aE<|aM<|aE<|aM<|aav hn hg hp W.1 d (q:=(([I],0),0)) ⟨_,_,_,_,_,_,T,λk I R h=>by cases h⟩ w λloc H' n' f=> ?_
  obtain⟨⟨⟨C',b'⟩,i'⟩,z'⟩:=p
  obtain⟨c,ad,tp,top,j,ls,f,ht⟩:=f
  revert K;refine rR (cZ (cj l).2).1<|rR (cZ (cj l).2).2 ?_;intro K
  exact aE<|K _ _ _ f.8 ⟨c,ad,tp,top,j,ls,⟨f.1,f.2,f.3,f.4,f.5,f.6,f.7,.s f.8.4⟩,λk h=>(f.8.2 _ _ _ U).t<|d k h,λk I R h hs=>ht k I R (aH (bw.m h).1<|bh.M (cj l).1) h hs⟩
 .refine Y (aX.m hv) ?_
  rcases r with _|_;rotate_left;(exact h.e)
  refine Y h ?_
  have NL:cy (λk y y=>aA k 27) n2 P (n2+1) (aZ P (.o 27 0 0)<|.l [.L (.t 65<|n+1)]):=((cy.s N.4).p U).r
  have NI:cy Z3 n H (n2+1) (aZ P (.o 27 0 0)<|.l [.L (.t 65<|n+1)]):=(N3.p U).r
  have A3:=A2.K NL λk a b h=>(bp.m<|S k a b h).2
  refine fM U<|aM<|bY U A3.1 U<|hp hl (λz=>by cases z) A3.7 X (i9 zI) NI.4 λH4 n4 s=> ?_
  have u:H4 (.o 24 0 0)=M (.d []):=(s.2 _ _ _ U).t<|((N.2 _ _ _ U).t h24)
  refine ee u (vB _ 5 λv hv=>by refine cz (tZ.m hv) λp y zr1=> ?_;subst zr1;rfl) U<|aE ?_
  refine tA<|fM U ?_
  have he:∀m,aZ H4 (.o 24 0 0) (.d [(vg I,.I 0)]) (.o 26 m 0)=aI:=λm=>(b8 U).t<|(s.2 _ _ _ U).t<|(((N.2 _ _ _ U).t<|h26 m))
  refine T.1 _ ⟨_,_,n4,[(vg I,.I 0)],U,(A3.K s λy y y y=>U).K ((cy.s s.4).p U) S,hle2,⟨λm x ps h=>nS h,?_,aG _,λx v h=>nS h,λI x v h=>nS h,λm y=>he m⟩,?_,?_,Rows.w (r:=[]) (C:=[]) (⟨65,n+1,I,U,?_,(((s.3 _ _ (by exact bU (zQ 251) U hlt)).t hl)),U⟩) ⟨U,λi J e=>nS e⟩,λJ hJ=> ?_,?_⟩
  .exact(b8 U).t<|(s.2 _ _ _ U).t<|((N.2 _ _ _ U).t h23)
  .exact HA.a (C:=[]) ⟨u,aG _,λJ=>U⟩ U
  .exact((s.2 _ _ _ U))
  .exact ju (zQ 252) U hlt s.1
  .exact Y (aX.m hJ)<|⟨X,zI⟩
  .exact(NI.T s λy y y y=>U).p U
theorem Rb(b:aa)(n:bM b)(d:Nat)(m:Bt b (dT d))(l:qV b (dT d))(k:gK b (dT d)):JB b (dT<|d+1):=λW A h a g f e c j i K=>by
 exact Y (show dT (d+1) 354=gw jK (wK<|dT d) 1 []from by kernel_rfl)<|⟨U,Kl n m l k W A h a g f e c j i λx=>K⟩
def foldI{c d:Type}(f:Nat->c->d->Option c)(l:List d):Nat->c->Option c:=l.R (λ_=>M) λb _ e i a=>ob (f i a b)<|e<|i+1
section
variable{β:Type}{bind:ak}(vs:List β)(ls:α->γ->List V)(P:α->Hp->Nat->Prop)
theorem J9(f:Nat->α->β->Option α)(A:foldI f vs 0 j=M d)(s:Goes e vs w ls P)
  (z:∀a g b p i H n K,vs[i]?=M b->f i a b=M p->P a H n->Nx ls P K p->bind (e i b) (λx=>body K) ⟨ls a g,H,n⟩)
  (y:∀g H n,P d H n->q Q ⟨ls d g,H,n⟩) (h:P j m l):su bind body q (w 0) Q ⟨ls j g₀,m,l⟩:=by
 have u:∀r i a g H n,vs.d i=r->foldI f r i a=M d->P a H n->zf bind body q (r.L+1) (w i) Q ⟨ls a g,H,n⟩:=by
  intro r
  induction r with
  |nil=>exact λi a g H n o c k=>s i a g H n _ k (by refine Y o ?_;cases c;exact y g H n k)
  |cons b r v=>
   intro i a g H n o c k
   refine s i a g H n _ k<|Y o ?_
   exact bc (f:=foldI f r<|i+1) c λp t c=>z a g b p i H n _ (Y (BY o) U) t k ⟨λg H n k=>v _ p g H n (rR df<|Y o<|Y mJ U) c k,λg H n k=>v _ p g H n (rR df<|Y o<|Y mJ U) c k⟩
 exact⟨_,u vs 0 j g₀ m l U A h⟩
variable{vs}{ls}{P}
theorem kH{c:Type}{a:aq}(f:V->c)(b:a.L=vs.L):a[i]?.m f=(vs.d i).h.m λx=>f (a.g i .u):=by
 rw[fG]
 by_cases h:i<a.L
 .refine Y (aP h)<|Y (aP<|b▸h)<|Y aW<|Y (aP h) ?_;rfl
 .refine Y (eS<|ko.m h)<|Y (eS<|b▸ko.m h) ?_;rfl
theorem NF(e:b.L=vs.L)(d:∀a H n,P a H n->H L=M (.l b)):Goes (λi x=>b.g i .u) vs (λi=>.L (L,i)) ls P:=λi a g H n K c k=>rJ L b U (d a H n c)<|by
 show K (b[i]?.m λv=>(v,It.L (L,i+1))) _
 exact Y (kH _ e) k
theorem Cb(c:b.L=vs.L)(e:∀a H n,P a H n->H L=M (.l b)):Goes (λi x=>ys i<|b.g i .u) vs (λi=>.E (L,min i vs.L)) ls P:=λi a g H n K d k=>(mK L b U (e a H n d) (bh.m<|c▸o2 i vs.L) (by
 refine Y (kH _ c) ?_
 rcases qH i vs.L with h|h
 .refine Y (jV<|eD h) ?_
  have k:K ((vs.d i).h.m λx=>(ys i<|b.g i .u,It.E (L,min (i+1) vs.L))) _:=k
  rw[jV h]at k
  exact k
 .rw[List.drop_eq_nil_of_le h]at k
  exact Y (AX h)<|Y PT k))
end
theorem B4{K:It->St->Prop}(h:σ.h r=M (.l vs))(k:K (.E (r,0)) σ):B3 (.L r) K σ:=.I<|rJ r vs U h k
noncomputable abbrev w0:Nat->Nat->Nat->Bool:=λx x x=>D
inductive KL(cu:Nat)(cC:Hp)(k m:Nat)(o:O)(H:Hp)(n:Nat):Prop
 |mk (now:cy w0 cu cC n H) (at_:H (.t k m)=M o)
theorem KL.p(S:KL a b k m o H n)(d:a<=m)(c:m<n):KL a b k m o' (aZ H (.t k m) o') n:=⟨S.1.u d c,hA⟩
theorem KL.e(S:KL b a k m o H n)(h:m<n)(N:cy w0 n H n' H'):KL b a k m o H' n':=⟨S.1.T N λx x x x=>U,(N.j h).t S.2⟩
theorem KL.s(a:∀k m,n<=m->H (.t k m)=aI):KL n H k n o (aZ H (.t k n) o) (n+1):=⟨(cy.s a).e,hA⟩
def uO(g:Gr)(p:Itm):Nat:=(g.r p.1).g p.2 0
def more(g:Gr)(p:Itm):Bool:=bg p.2 (g.r p.1).L
section
variable{K:ab}
theorem CD(c:fits vs.L=Z)(b:idx vs.L j=M m)(a:vs[m]?=M v)(q:K v σ):dj (V.t vs) (.I j) K σ:=.i<|.i<|.i<|y6 ⟨_,U,c,v,by delta Ol;exact Y b a,q⟩
theorem KA(b:σ.l[i]?=M (iv p))(a:σ.h (.o 3 p.1 p.2)=M (.i 135<|Ra f g p.1 p.2))(q:KB (more g p) σ):B i 15 (λe=>B i 8 λd=>kc d (.I 1) λc=>cw .Lt e c KB) σ:=by
 refine bY b a U<|bY b a U<|p4<|FZ ?_
 have:decide (aY p.2<aY (g.r p.1).L+1 - 1)=more g p:=by
  exact Y (fR (aY (g.r p.1).L) 1)<|lt_int _ _
 exact Y this q
theorem RZ(d:σ.l[i]?=M (iv p))(c:σ.h (.o 3 p.1 p.2)=M (.i 135<|Ra h g p.1 p.2))(hz:fits ((g.r p.1).L+1)=Z)(a:more g p=Z)(q:K (sy h<|uO g p) σ):B i 1 (λf=>B i 15 λe=>ej e (.I 1) λv10=>dj f v10 K) σ:=by
 have a:=bt a
 have b:=pX<|eD a
 refine bY d c U<|bY d c U<|wz<|CD (by rw[aD,b];exact hz) ?_ (by refine Y aN<|Y (J1 a) ?_;rfl) q
 rw[aD,b]
 exact gZ<|gW a
end
def Dt(call:CF):Prop:=∀{d:LD} {k x:Nat} {I J:List Itm} {b:ao} {L:Loc} {Q:ab} {a:aq} {H:Hp} {n:Nat},LR d H n->d.C[k]?=M I->DR d.g I=M b->has x b=Z->z6 n H (.L L) (M I)->mS d.g x I=M J->J.i=D->fits J.L=Z->
 (∀c H' n',cy w0 n H n' H'->z6 n' H' (.L c) (M J)->Q (.L c) ⟨a,H',n'⟩)->call 347 [ax 20 0 0,.L L,sy d.n x] Q ⟨a,H,n⟩
theorem Q4{call:CF}{k:Nat}(hp:gK d.n call)(T:LR d H n)(r:d.C[k]?=M I)(hs:DR d.g I=M b)(hx:has x b=Z)(hL:z6 n H (.L L) (M I))(z:mS d.g x I=M J)(y:J.i=D)(zJ:fits J.L=Z)
  (K:∀w q H' n',cy w0 n H n' H'->z6 n' H' (.L w) (M J)->Q (.r<|.L w) ⟨q,H',n'⟩):tD call Q ⟨[ax 20 0 0,.L L,sy d.n x,v3,v4,v5,v6,v7,v8],H,n⟩:=by
 obtain⟨c,ad,tp,p,X,ls,T,us,m⟩:=T
 refine DE hL λt j I' S R P N=>Y (V.L.inj S) ?_
 obtain rfl:=sJ N
 refine aM ?_
 refine bY U T.1.1 U<|qs T.3.2<|hp P ((IU R)) T.1.7 (T.7 I<|aJ r).1 (i9 (T.7 I<|aJ r).2) T.8.4 λH1 n1 e=>gR U ?_
 have u:=m k I b r hs x<|gX.m hx
 rcases l:eK p (xX d.n I x)with _|v;(rw[l]at u;exact bF u);(
  refine DI U ((e.2 _ _ _ U).t T.3.2) (xZ d.n I x) l<|fM U<|aE<|aM ?_
  rcases T.3.5 _ _ _ l with⟨-,h⟩|⟨E,A,J',rfl,a,i,f⟩
  .obtain rfl:=(sJ<|z.s.t h);exact bT y
  .have s:=(e.3 _ _ a).t<|aV (z.s.t f)▸i
   exact CE s (ba zJ)<|g6 (by rcases J with _|_<;>first|rfl|exact bT y)<|oz<|K _ _ _ _ e ⟨E,A,J,U,aH a e.1,s,U⟩)
theorem YT(d:Nat)(k:∀j,gK j<|dT d):Dt (dT<|d+1):=λT i h g f e c b K=>by
 exact Y L8<|⟨U,Q4 (k _) T i h g f e c b λa x=>K a⟩
abbrev TR:=Nat×Nat
def tv(a:aa)(t:TR):V:=.T (.I<|.o t.1)<|.T (sy a t.2) .a
def YQ(t:TR)(l:List TR):Bool:=fw eqT t l
theorem oi(a b:Nat):(aY a==aY b)=aA a b:=by
 rcases h:aA a b with _|_;(exact beq_eq_false_iff_ne.M λz=>by rw[qb (ig z)]at h;exact bT h);(exact Y (bq h)<|beq_self_eq_true _)
theorem Fh(b:bM a)(u t:TR):dX (tv a u) (tv a t)=eqT u t:=by
 show(aY u.1==aY t.1&&(jc (a u.2) (a t.2)&&Z))=_
 rw[oi,b.1,E0];rfl
theorem VH(d:bM a)(t:TR):∀l,qq (tv a t) (l.m<|tv a)=YQ t l
 :=λc=>c.R U (λu r b=>by
  show(dX (tv a u) (tv a t)||qq (tv a t) (r.m<|tv a))=_
  rw[Fh d,b];rfl)
theorem NO(l:List TR):Cf (l.m<|tv b)=Z:=l.R U λ_ _ a=>a
def trX(g:Gr)(s:Nat)(l:List TR)(p:Itm):Option (List TR):=bif more g p&&(has (uO g p) g.n&& !YQ (s,uO g p) l)then mQ (fits l.L) (l++[(s,uO g p)])else M l
def zZ(g:Gr)(C:List (List Itm)):Option (List TR):=foldI (λs l I=>bA (trX g s) I l) C 0 []
def JM(call:CF):Prop:=∀{d:LD} {l:List TR} {Q:ab} {a:aq} {H:Hp} {n:Nat},LR d H n->bM d.n->r0 d.g->zZ d.g d.C=M l->
 (∀H' n',KL n H 70 n (.l<|l.m<|tv d.n) H' n'->Q (ay 70 n) ⟨a,H',n'⟩)->call 368 [ax 20 0 0,ax 27 0 0] Q ⟨a,H,n⟩
inductive LS(d:LD)(c:Nat)(H:Hp):Prop
 |mk (tb:H (.o 20 0 0)=M (.i 427 (ON d.m c))) (gr:H (.o 1 0 0)=M (.i 283 (HB d.s))) (prods:H (.o 1 1 0)=M (.l ((bX d.g.p.L).m λk=>ax 2 k 0))) (terms:H (.o 1 4 0)=M (.d (d.g.t.m λa=>(sy d.n a,ax 8 a 0)))) (nons:H (.o 1 5 0)=M (.d (d.g.n.m λa=>(sy d.n a,ax 9 a 0)))) (it:xH d.n d.g H) (pr:∀k,k<d.g.p.L->∃fs,H (.o 2 k 0)=M (.i 100 fs)/\Pf d.n d.g k fs)
theorem LS.o(S:LS d c H)(N:cy w0 n H n' H'):LS d c H':=⟨N.t U S.1,N.t U S.2,N.t U S.3,N.t U S.4,N.t U S.5,λk j g f=>N.t U<|(S.6 k j g f),λk h=>cz (S.7 k h) λe a b=>br e (N.t U a) b⟩
theorem LR.l(T:LR d H n):∃c,LS d c H:=let⟨c,ad,l,i,g,ls,T,j,f⟩:=T
 ⟨c,T.1.1,T.1.2,T.1.3,T.1.4,T.1.5,T.1.7,λk h=>eV (T.1.9 k h) λe a b x=>br e a b⟩
theorem uG(c:bM b)(f:Nat->V)(x:Nat)(l:ao):(eK (l.m λa=>(sy b a,f a))<|sy b x).i=has x l:=Y (vF c f x l) uH
theorem aee(x:bM d.n)(G:r0 d.g)(q:LS d c h)(S:KL f h 70 m (.l<|l.m<|tv d.n) H n)(w:f<=m/\m<n)(v:p.1<d.g.p.L/\p.2<=(d.g.r p.1).L)(e:trX d.g s l p=M z)
  (K:∀u H',KL f h 70 m (.l<|z.m<|tv d.n) H' n->Q .n ⟨[ax 20 0 0,v1,ay 70 m,.I<|.o s,y,iv p,u],H',n⟩):
  gU Q ⟨[ax 20 0 0,v1,ay 70 m,.I<|.o s,y,iv p,u],H,n⟩:=by
 have L:=q.o S.1
 have r:=L.6 p.1 p.2 v.1 v.2
 refine KA U r ?_
 delta trX at e
 rcases i:more d.g p with _|_;(have e:=i▸e;cases e;exact K _ _ S);(
  rw[i]at e
  refine ff<|aM<|RZ U r (G.4 _) i<|gR U<|fM U<|aE<|CD (vs:=[(V.I<|aY s),(sy d.n<|uO d.g p)]) U U U<|(uQ U L.1 U L.2 U<|tL L.5 U ?_)
  rw[uG x λa=>ax 9 a 0]
  exact bC (b:=has (uO d.g p) d.g.n) (λk=>by
   refine Y k ?_
   rw[k]at e
   refine ff<|pF S.2 U (NO _) ?_
   rw[show V.t [V.I (aY s),sy d.n<|uO d.g p]=tv d.n (s,uO d.g p)from U,VH x]
   exact bC (b:=YQ (s,uO d.g p) l) (λj=>by refine Y j ?_;rw[j]at e;cases e;exact K _ _ S) λj=>by
    refine Y j ?_
    rw[j]at e
    obtain⟨hz,rfl⟩:=cj e
    refine ff<|fE S.2<|gA S.2 (ba hz) ?_
    have:=S.p (o':=.l<|(l++[(s,uO d.g p)]).m<|tv d.n) w.1 w.2
    rw[aK]at this
    refine K _ _ ?_
    rw[aK];exact this) λk=>by refine Y k ?_;have e:=k▸e;cases e;exact K _ _ S)
theorem K3{call:CF}(T:LR d H n)(hn:bM d.n)(G:r0 d.g)(z:zZ d.g d.C=M l)
  (K:∀y H' n',KL n H 70 n (.l<|l.m<|tv d.n) H' n'->Q (.r<|ay 70 n) ⟨y,H',n'⟩):iR call Q ⟨[ax 20 0 0,ax 27 0 0,v2,v3,v4,v5,L],H,n⟩:=by
 obtain⟨c,ad,tp,top,kvs,ls,T,us,hit⟩:=T
 refine aM<|b9 (r:=.t 70 n) (T.8.i<|lr) U<|aE<|aM ?_
 have J:∀l H' n',KL n H 70 n (.l l) H' n'->H' (.o 27 0 0)=M (.l ls):=λl H' n' S=>(S.1.q U).t T.5
 refine B4 (J [] _ (n+1)<|.s T.8.4)<|J9 d.C (λx e=>[ax 20 0 0,ax 27 0 0,ay 70 n,e.1,e.2.1,e.2.2.1,e.2.2.2]) (λl H' n'=>KL n H 70 n (.l<|l.m<|tv d.n) H' n'/\n<n') _ z (Cb T.6.l λa H n h=>J _ _ _ h.1) (λl e I l' i H' n' K' E z f T'=> ?_) (λe H' n' f=> ?_) ⟨.s T.8.4,a8 _⟩ (g₀:=(v3,v4,v5,L))
 .obtain⟨v,w1,k,j,I',rfl,w3,X,R⟩:=T.6.u E
  obtain rfl:=aV R
  refine Y aW<|Y w1 ?_
  refine jf<|fM U ?_
  have A:∀l H' n',KL n H 70 n (.l l) H' n'->H' (.t k j)=M (.l<|I.m iv):=λl H' n' S=>(S.1.3 _ _ w3).t X
  refine bL (A _ _ _ f.1) (ei (γ:=V×V) (λx=>iv) I _ (λx e=>[ax 20 0 0,ax 27 0 0,ay 70 n,.I<|.o i,ay k j,e.1,e.2]) (λl q m=>KL n H 70 n (.l<|l.m<|tv d.n) q m/\n<m) _ z (cH λa H n h=>A _ _ _ h.1) (λl e p l' i' q m P w u f s=> ?_) (λe H' n' f=> ?_) f)
  .exact fM U<|aee hn G ⟨T.1.1,T.1.2,T.1.3,T.1.4,T.1.5,T.1.7,λk h=>eV (T.1.9 k h) λN a b x=>br N a b⟩ f.1 ⟨aG _,f.2⟩ ((T.7 I<|aJ E).1 p<|aJ w) u λL H' S=>s.1 (_,_) _ _ ⟨S,f.2⟩
  .exact gk<|T'.1 (_,_,e) _ _ f
 .exact gk<|aE<|K _ _ _ f.1
theorem Tu(d:Nat):JM (dT<|d+1):=λT b G a K=>by
 exact Y (show dT (d+1) 368=gw eO (iR<|dT d) 2 []from by kernel_rfl)<|⟨U,K3 T b G a λx=>K⟩
theorem R8{K:ab}{H:Hp}(h:H l=M (.s vs))(b:fits vs.L=Z)(q:K .N ⟨a,aZ H l<|.s<|bif qq (.s s) vs then vs else vs++[.s s],n⟩):ER (.L l) [.s s] K ⟨a,H,n⟩:=
 ⟨_,U,s,U,l,vs,U,h,b,q⟩
def LH(s l:ao):Bool:=l.R Z λt _ a=>has t s&&a
def X6(s:ao)(a:Nat):List Nat:=bif has a s then s else s++[a]
def RT(g:Gr)(s:ao)(k:Nat):Option (List Nat):=bif LH s (g.r k)then mQ (fits s.L) (X6 s<|g.l k)else M s
def aa2(g:Gr)(q:List Nat×Nat):Option (BN<|List Nat×Nat):=ob (bA (RT g) ((bX g.p.L).d 1) q.1) λs=>mQ (fits s.L)<|bif aA s.L q.2 then .r (s,q.2)else .g (s,s.L)
def Cy(g:Gr):Option (List Nat):=ob (i7 (aa2 g) 100 ([],0)) λp=>mQ p.2 p.1.1
def XQ(call:CF):Prop:=∀{d:LD} {s:ao} {Q:ab} {a:aq} {H:Hp} {n:Nat},LR d H n->bM d.n->r0 d.g->Cy d.g=M s->(∀k m,n<=m->H (.t k m)=aI)->
 (∀H' n',n<n'->KL n H 71 n (.s<|s.m<|sy d.n) H' n'->Q (ay 71 n) ⟨a,H',n'⟩)->call 361 [ax 20 0 0] Q ⟨a,H,n⟩
theorem Nz:∀l,Af (λx t=>M ((),!has t s)) l ()=M ((),!LH s l)
 :=λc=>c.R U (λt r a=>by
  show(bif !has t s then _ else Af _ r ())=M ((),!(has t s&&LH s r))
  exact bC (b:=has t s) (λh=>Y h a) λh=>by refine Y h ?_;rfl)
theorem adT(R:bM d.n)(G:r0 d.g)(u:LS d c f)(S:KL e f 71 m (.s<|s.m<|sy d.n) H n)(P:e<=m/\m<n)(X:k<d.g.p.L)(l:RT d.g s k=M s')
  (K:∀z p H',z=.n\/z=.cont->KL e f 71 m (.s<|s'.m<|sy d.n) H' n->(∀j,H' (.t 72 j)=H (.t 72 j))->Q z ⟨[ax 20 0 0,ay 71 m,N,ax 2 k 0,p],H',n⟩):
  gB Q ⟨[ax 20 0 0,ay 71 m,N,ax 2 k 0,p],H,n⟩:=by
 refine cz ((u.o S.1).7 k X) λfs y w=> ?_
 have r:LH s (d.g.r k)=Z->KL e f 71 m (.s<|s'.m<|sy d.n) (aZ H (.t 71 m)<|.s<|bif qq (sy d.n<|d.g.l k) (s.m<|sy d.n)then s.m (sy d.n)else s.m (sy d.n)++[sy d.n (d.g.l k)]) n/\fits (s.m<|sy d.n).L=Z:=λh=>by
  delta RT at l;rw[h]at l
  refine ir (cj l) λhz J=>rR J<|⟨?_,ba hz⟩
  rw[g5 R]
  have:=S.p (o':=.s<|(X6 s<|d.g.l k).m<|sy d.n) P.1 P.2
  unfold X6 at this⊢
  rcases L:has (d.g.l k) s with _|_;(rw[L]at this;rw[cond_false,aK]at this⊢;exact this);(rw[L]at this;exact this)
 refine aM<|bY U y w.4<|nY U U<|Y (show dX (.I<|.o (d.g.r k).L) (.I 0)=aA (d.g.r k).L 0 from oi _ 0) ?_
 exact bC (b:=aA (d.g.r k).L 0) (λv=>by
  refine Y v ?_
  refine ir (r (by rw[pz (bq v)];rfl)) λI E=>ff<|aM<|Xb S.2<|bY U y w.1<|R8 S.2 E<|aE<|uP<|K _ _ _ (.i U) I λx=>k8 U) λv=>by
   refine Y v (fx<|aE<|bY U y w.2<|xo<|Mb (λx=>sy d.n) (d.g.r k) (λi=>.r<|((d.g.r k).d i).m<|sy d.n) (λx p=>[ax 20 0 0,ay 71 m,N,ax 2 k 0,p]) (λx=>H) n _ (Nz (s:=s)<|d.g.r k) Cd (λa p t a' z i K' hi l C A=> ?_) (λp hz=> ?_) λp hz=> ?_)
   .revert C A;refine rR (cZ<|sJ l).1<|rR (cZ<|sJ l).2 ?_;intro C A
    refine fM U<|R6 S.2 ?_
    rw[g5 R]
    exact bC (b:=has t s) (λq=>by exact Y q<|(C (by refine Y q ?_;rfl)).1<|sy d.n t) λq=>by exact Y q<|A (by refine Y q ?_;rfl)<|sy d.n t
   .exact ir (r (by simpa using hz)) λI E=>Xb S.2<|bY U y w.1<|R8 S.2 E<|K _ _ _ (.I U) I λx=>k8 U
   .have T:=by simpa using hz
    delta RT at l;have l:=T▸l;cases l
    exact K _ _ _ (.I U) S λx=>U
theorem RU{call:CF}(T:LR d H n)(hn:bM d.n)(G:r0 d.g)(h0:∀k m,n<=m->H (.t k m)=aI)(J:Cy d.g=M s)
  (K:∀N H' n',n<n'->KL n H 71 n (.s<|s.m<|sy d.n) H' n'->Q (.r<|ay 71 n) ⟨N,H',n'⟩):hV call Q ⟨[ax 20 0 0,v1,v2,v3,v4],H,n⟩:=by
 refine j8 T.l λc f=>bc J λp h1 J=> ?_
 obtain⟨hz,rfl⟩:=cj J
 refine aM<|⟨U,(.t 71 n),((h0 _ _<|aG _)),((aE<|aM<|aE<|aM ?_))⟩
 refine mD (λq e=>[ax 20 0 0,ay 71 n,.I<|.o q.2,e.1,e.2]) (λq H' n'=>KL n H 71 n (.s<|q.1.m<|sy d.n) H' n'/\n<n') (aa2 d.g) h1 (λq e st H' n' K' X KB L v C hT hX=> ?_) (λe H' n' v z=>by rw[hz]at z;exact bT z) (λe H' n' v x=> ?_) ⟨.s h0,a8 _⟩ (g₀:=(v3,v4))
 .refine zH<|hT _<|ir v λS u=> ?_
  refine bc L λs' h2 L=> ?_
  refine ir (cj L) λI y=> ?_;revert C;refine rR y ?_;intro C
  refine aM<|uQ U (f.o S.1).1 U (f.o S.1).2 U<|CC (r:=.t 72 n') (f.o S.1).3 U (ba (by exact Y dy G.3)) (S.1.4 _ _<|aG _) ?_
  rw[W?,<-gG]
  refine bL (aT H' (.t 72 n') _) (ei (γ:=V×V) (λx k=>ax 2 k 0) ((bX d.g.p.L).d 1) _ (λx e=>[ax 20 0 0,ay 71 n,.I<|.o q.2,e.1,e.2]) (λs l j=>KL n H 71 n (.s<|s.m<|sy d.n) l j/\j=n'+1/\l (.t 72 n')=M (.l<|((bX d.g.p.L).d 1).m λk=>ax 2 k 0)) (RT d.g) h2 (cH λa H n h=>h.2.2) (λs e k s' i l j K'' hi J v T=> ?_) (λe l j v=> ?_) ⟨S.e u (cy.s S.1.4).e,U,aT _ _ _⟩)
  .refine sk v λA y w=> ?_;subst y
   refine fM U<|adT hn G f A ⟨aG _,bU (zQ 2) U u⟩ (fZ.m<|fm<|aJ hi) J λz v4 H3 hz R P=> ?_
   rcases hz with rfl|rfl
   .exact T.1 (_,_) _ _ ⟨R,U,(P _).t w⟩
   .exact T.2 (_,_) _ _ ⟨R,U,(P _).t w⟩
  .obtain⟨A,rfl,w⟩:=v
   refine gk<|aE<|aM<|R4 A.2 (ba I)<|nY U U ?_
   rw[aD,show dX (.I<|.o s'.L) (.I<|.o q.2)=aA s'.L q.2 from oi _ _]
   exact bC (b:=aA s'.L q.2) (λE=>by
    refine Y E ?_
    rw[E]at C
    exact ff<|H0<|C _ _ _ ⟨A,bU (zQ 2) U u⟩) λE=>by
    refine Y E ?_
    rw[E]at C
    refine fx<|aE<|R4 A.2 (ba I) ?_
    refine Y (aD _) ?_
    exact C.1 _ _ _ ⟨A,bU (zQ 2) U u⟩
 .exact aE<|K _ _ _ v.2 v.1
theorem Ze(d:Nat):XQ (dT<|d+1):=λT c G b a K=>by
 exact Y (show dT (d+1) 361=gw eL (hV<|dT d) 1 []from by kernel_rfl)<|⟨U,RU T c G a b λx=>K⟩
def xe(g:Gr)(C:List (List Itm))(s x:Nat):Option (List Itm):=ob C[s]? λI=>ob (DR g I) λa=>ob (mS g x I) λJ=>mQ (has x a&&(!J.i&&fits J.L)) J
section
variable{call:CF}
theorem aba{K:ab}(T:LR d H n)(e:d.C[s]?=M I)(q:∀L,z6 n H (.L L) (M I)->j1 d.g I->aO I.L 900=Z->K (.L L) ⟨b,H,n⟩)(w:aO d.C.L 1000=Z):dj (ax 27 0 0) (.I<|.o s) K ⟨b,H,n⟩:=by
 obtain⟨c,ad,y,u,t,ls,T,x,r⟩:=T
 refine cz (T.6.u e) λv f p=> ?_
 refine jR T.5 (Y T.6.l w) (gZ<|gL f) f ?_
 exact DE p λk j m a l i h=>Y a<|q _ ⟨k,j,m,U,l,i,h⟩ (T.7 I<|aJ e).1 (T.7 I<|aJ e).2
theorem R2{K:ab}(hc:Dt call)(X:aO d.C.L 1000=Z)(T:LR d H n)(b:xe d.g d.C s x=M J)(S:a[0]?=M (ax 20 0 0))(R:a[i]?=M (ax 27 0 0))(Q:a[j]?=M (.I<|.o s))(P:a[k]?=M (sy d.n x))
  (q:∀L H' n',cy w0 n H n' H'->z6 n' H' (.L L) (M J)->J.i=D->j1 d.g J->fits J.L=Z->K (.L L) ⟨a,H',n'⟩) (W:r0 d.g):
  aS 0 (λp=>fU p λm σ=>(sd call (kS "lr0_goto") m).i=Z/\(aS i λE=>aS j λA=>dj E A λz=>aS k λy=>fV (sd call<|kS "lr0_goto") m [p,z,y] K) σ) ⟨a,H,n⟩:=by
 obtain⟨c,e⟩:=T.l
 refine bc b λI l b=>bc b λw v b=>bc b λJ h b=> ?_
 revert q;refine rR ((cj b)).2 ?_;intro q
 obtain⟨z2,z3⟩:=an (an ((cj b)).1).2
 refine cg (by delta x5;exact Y S U)<|dO e.1 ⟨U,?_⟩
 exact cg (by delta x5;exact Y R U)<|cg (by delta x5;exact Y Q U)<|aba T l (λL u t zI=>(cg (by delta x5;exact Y P U)<|i3 U<|hc T l v (an ((cj b)).1).1 u h (by simpa using z2) z3 λr H' n' N f=>q r H' n' N f (by simpa using z2) (tu W.1 t h) z3)) X
def Fp(C:List (List Itm))(J:List Itm):V:=match l7 J C 0 with
 |some i=>.I<|.o i
 |none=>.I<| -1
theorem Ms{K:ab}(hp:gK d.n call)(T:LR d H n)(h0:a[0]?=M (ax 20 0 0))(X:a[i]?=M (.L L))(S:z6 n H (.L L) (M J))(R:j1 d.g J)(Q:fits J.L=Z)(q:∀H' n',cy w0 n H n' H'->K (Fp d.C J) ⟨a,H',n'⟩):
  B 0 35 (λb=>Ei b λx=>aS i λv13=>call 318 [v13] λm=>qr (.I 1) λv14=>Dj b [m,v14] K) ⟨a,H,n⟩:=by
 obtain⟨c,ad,tp,P,N,ls,T,us,I⟩:=T
 obtain⟨k,j,J',E,A,l,z⟩:=S
 obtain rfl:=V.L.inj E
 revert l;refine rR (sJ z) ?_;intro l
 refine bY h0 T.1.1 U<|qs T.4.1<|cg (by delta x5;exact Y X U)<|hp l ((IU A)) T.1.7 R Q T.8.4 λy w t=> ?_
 have s:=t.t U T.4.1
 have r:pY (V.t<|J.m pv) 6=Z:=vB _ 5 λv u=>by refine cz (mm u) λp x f=> ?_;subst f;rfl
 have e:=T.4.3 J
 refine x9 ?_
 have q:=q y w t
 unfold Fp at q
 rcases h:l7 J d.C 0 with _|i;(rw[h]at q e;exact tK U U s r e q);(rw[h]at q e;exact DI U s r e q)
end
theorem LR.f(T:LR d H n):∀k m,n<=m->H (.t k m)=aI:=let⟨_,_,_,_,_,_,T,_,_⟩:=T;T.8.4
theorem LR.o(T:LR d H n)(N:cy w0 n H n' H'):LR d H' n':=T.K N λx x x x=>U
theorem z6.q(h:z6 n H (.L L) (M J)):∃k j,L=.t k j/\j<n/\H (.t k j)=M (.l<|J.m iv):=by
 exact DE h λk j e d c b a=>Y (V.L.inj d)<|Y (sJ a)<|rJ k j U c b
def X?(g:Gr)(l:ao)(p:Itm):Option (List Nat):=bif more g p&&(has (uO g p) g.t&& !has (uO g p) l)then mQ (fits l.L) (l++[uO g p])else M l
def QM(g:Gr)(C:List (List Itm))(t:TR):Option (List Nat):=ob (xe g C t.1 t.2) λJ=>ob (bA (X? g) J []) λl=>bif aA t.1 0&&aA t.2 ((g.r 0).g 0 0)then mQ (fits l.L&& !(g.r 0).i) (l++[1])else mQ (!(g.r 0).i) l
def x?(call:CF):Prop:=∀{d:LD} {t:TR} {l:ao} {b:V} {Q:ab} {a:aq} {H:Hp} {n:Nat},LR d H n->bM d.n->r0 d.g->aO d.C.L 1000=Z->QM d.g d.C t=M l->
 (∀H' n',n<n'->KL n H 73 n (.l<|l.m<|sy d.n) H' n'->Q (ay 73 n) ⟨a,H',n'⟩)->call 375 [ax 20 0 0,ax 27 0 0,tv d.n t,b] Q ⟨a,H,n⟩
theorem adn(C:bM d.n)(G:r0 d.g)(v:LS d c q)(S:KL i q 73 m (.l<|l.m<|sy d.n) H n)(A:i<=m/\m<n)(y:p.1<d.g.p.L/\p.2<=(d.g.r p.1).L)(e:X? d.g l p=M R)
  (K:∀f H',KL i q 73 m (.l<|R.m<|sy d.n) H' n->(∀k j,(k=73->j≠m)->H' (.t k j)=H (.t k j))->Q .n ⟨[ax 20 0 0,v1,P,N,J,I,ay 73 m,E,iv p,f],H',n⟩):
  rj Q ⟨[ax 20 0 0,v1,P,N,J,I,ay 73 m,E,iv p,f],H,n⟩:=by
 have L:=v.o S.1
 have w:=L.6 p.1 p.2 y.1 y.2
 refine KA U w ?_
 delta X? at e
 rcases r:more d.g p with _|_;(have e:=r▸e;cases e;exact(λf S=>K f H S λx x x=>U) _ S);(
  rw[r]at e
  refine ff<|aM<|RZ U w (G.4 _) r<|fM U<|aE<|uQ U L.1 U L.2 U<|tL L.4 U ?_
  rw[uG C λa=>ax 8 a 0]
  exact bC (b:=has (uO d.g p) d.g.t) (λu=>by
   refine Y u ?_
   rw[u]at e
   refine ff<|pF S.2 U (je _) ?_
   rw[g5 C]
   exact bC (b:=has (uO d.g p) l) (λs=>by refine Y s ?_;rw[s]at e;cases e;exact(λf S=>K f H S λx x x=>U) _ S) λs=>by
    refine Y s ?_
    rw[s]at e
    obtain⟨hz,rfl⟩:=cj e
    refine ff<|fE S.2<|gA S.2 (ba hz) ?_
    have:=S.p (o':=.l<|(l++[uO d.g p]).m<|sy d.n) A.1 A.2
    rw[aK]at this
    refine K _ _ ?_ λk j h=>hN λz=>by cases z;exact h U U
    rw[aK];exact this) λu=>by refine Y u ?_;cases(u▸e);exact(λf S=>K f H S λx x x=>U) _ S)
theorem U6{call:CF}(hc:Dt call)(T:LR d H n)(hn:bM d.n)(G:r0 d.g)(hC:aO d.C.L 1000=Z)(f:QM d.g d.C t=M l)
  (K:∀w H' n',n<n'->KL n H 73 n (.l<|l.m<|sy d.n) H' n'->Q (.r<|ay 73 n) ⟨w,H',n'⟩):tN call Q ⟨[ax 20 0 0,ax 27 0 0,tv d.n t,v3,v4,v5,v6,v7,v8,v9],H,n⟩:=by
 refine bc f λJ h1 f=>bc f λN h2 f=>aM<|jf<|fM U<|fM U<|aE<|aM<|b9 (r:=.t 73 n) (T.f _ _<|aG _) U<|fM U<|aE<|aM ?_
 have S0:KL n H 73 n (.l []) _ (n+1):=.s T.f
 refine R2 hc hC (T.o S0.1) h1 U U U U (λL H1 n1 N1 hL I oJ zJ=>(zc hL.q λk j u e2 X=>Y u ?_)) G
 have S1:=S0.e (a8 n) N1
 refine j8 T.l λc q=>aE<|aM ?_
 have R:¬(k=73/\j=n):=λh=>by
  obtain⟨rfl,rfl⟩:=h
  rw[List.map_eq_nil_iff.m (O.l.inj<|aV<|X.s.t S1.2)]at I;exact bT I
 refine bL X<|ei (γ:=V×V) (λy=>iv) J _ (λy e=>[ax 20 0 0,ax 27 0 0,tv d.n t,v3,.I<|.o t.1,sy d.n t.2,ay 73 n,ay k j,e.1,e.2]) (λl H' n'=>KL n H 73 n (.l<|l.m<|sy d.n) H' n'/\n<n'/\H' (.t k j)=M (.l<|J.m iv)) _ h2 (cH λa H n h=>h.2.2) (λl e p l' i H' n' K' hi f x T'=> ?_) (λe H' n' x=> ?_) (kb S1 (bU (zQ 12) U N1.1) X) (g₀:=(v8,v9))
 .refine fM U<|adn hn G q x.1 ⟨aG _,x.2.1⟩ (oJ p<|aJ hi) f λv9 H2 S2 h=>T'.1 (_,_) _ _<|kb S2 x.2.1<|(h _ _ λz z'=>R ⟨z,z'⟩).t x.2.2
 .refine sk x λS m y=> ?_
  have L:=q.o S.1
  have P:∀l H',fits l.L=Z->KL n H 73 n (.l<|l.m<|sy d.n) H' n'->(∀w E s,n<s->KL n H 73 n (.l<|(l++[1]).m<|sy d.n) E s->Q (.r<|ay 73 n) ⟨w,E,s⟩)->rk (qT qw Q) ⟨[ax 20 0 0,ax 27 0 0,tv d.n t,v3,.I<|.o t.1,sy d.n t.2,ay 73 n,ay k j,e.1,e.2],H',n'⟩:=λl H' hz S K=>by
   refine fE S.2<|gA S.2 (ba hz)<|aE ?_
   have:=S.p (o':=.l<|(l++[1]).m<|sy d.n) (aG _) m
   refine K _ _ _ m ?_
   rw[aK]at this⊢
   exact Y (congrArg V.s hn.3.s) this
  refine gk<|aE<|aM<|nY U U<|Y (show dX (.I<|.o t.1) (.I 0)=aA t.1 0 from oi _ 0) ?_
  exact bC (b:=aA t.1 0) (λA=>by
   refine Y A ?_
   rw[A]at f
   have f:(bif aA t.2 ((d.g.r 0).g 0 0)then mQ (fits N.L&& !(d.g.r 0).i) (N++[1])else mQ (!(d.g.r 0).i) N)=M l:=f
   have hr:0<(d.g.r 0).L:=by
    refine ot f (λy f=> ?_) λy f=> ?_
    .have:=(aU.m (cj f).1).2
     cases h:d.g.r 0 with
     |nil=>rw[h]at this;cases this
     |cons _ _=>exact cD _
    .have:=(cj f).1
     cases h:d.g.r 0 with
     |nil=>rw[h]at this;cases this
     |cons _ _=>exact cD _
   refine cz (L.7 0 G.2) λfs p1 p2=>uQ U L.1 U L.2 U<|jR L.3 (ba (by exact Y dy G.3)) (gZ (by rw[aD,dy];exact G.2)) (by refine Y aN<|Y (wY G.2) ?_;rfl) ?_
   refine zB p1 p2.2<|CD (v:=sy d.n<|(d.g.r 0).g 0 0) (ba (by have:=G.4 0;rw[cG]at this⊢;have:=of_decide_eq_true this;exact decide_eq_true<|bZ (zQ 23) U this)) (gZ (by rw[aD];exact hr)) (by refine Y aN<|Y aW<|Y (aP hr) ?_;rfl) ?_
   refine nY U U ?_
   refine Y (show dX (sy d.n t.2) (sy d.n<|(d.g.r 0).g 0 0)=aA t.2 ((d.g.r 0).g 0 0)from hn.1 _ _) ?_
   refine ot f (λh f=> ?_) λh f=> ?_
   .obtain⟨hz,rfl⟩:=cj f
    exact P N _ (aU.m hz).1 S K
   .obtain⟨-,rfl⟩:=cj f
    exact aE<|K _ _ _ m S) λA=>by
   refine Y A ?_
   refine ir (cj<|A▸f) λ_ u=> ?_;revert K;refine rR u ?_;intro K
   exact aE<|K _ _ _ m S
theorem X!(d:Nat)(e:Dt (dT d)):x? (dT<|d+1):=λT c G b a K=>by
 exact Y (show dT (d+1) 375=gw jh (tN<|dT d) 4 []from by kernel_rfl)<|⟨U,U6 e T c G b a λx=>K⟩
def rdX(g:Gr)(s:ao)(p:Itm):Bool:= !(more g p&&has (uO g p) s)
def allB{a:Type}(f:a->Bool)(l:List a):Bool:=l.R Z λb _ c=>f b&&c
theorem ql:allB f l=Z->∀b∈l,f b=Z:=l.R (λ_ _ h=>by cases h) λc r d h b a=>(mc a).e (λe=>e▸(an h).1)<|d (an h).2 b
def Ui(g:Gr)(C:List (List Itm))(s:ao)(t:TR):Bool:=match xe g C t.1 t.2 with
 |some J=>allB (rdX g s) J
 |none=>D
def I?(call:CF):Prop:=∀{d:LD} {t:TR} {s:ao} {q:Nat} {Q:ab} {a:aq} {H:Hp} {n:Nat},LR d H n->bM d.n->r0 d.g->aO d.C.L 1000=Z->gK d.n call->H (.t 71 q)=M (.s<|s.m<|sy d.n)->q<n->Ui d.g d.C s t=Z->
 (∀H' n',n<n'->KL n H 74 n (.l []) H' n'->Q (ay 74 n) ⟨a,H',n'⟩)->call 382 [ax 20 0 0,ax 27 0 0,tv d.n t,ay 71 q] Q ⟨a,H,n⟩
theorem VS{call:CF}(hc:Dt call)(hp:gK d.n call)(T:LR d H n)(hn:bM d.n)(G:r0 d.g)(hC:aO d.C.L 1000=Z)(hs:H (.t 71 q)=M (.s<|s.m<|sy d.n))(hq:q<n)(z:Ui d.g d.C s t=Z)
  (K:∀X H' n',n<n'->KL n H 74 n (.l []) H' n'->Q (.r<|ay 74 n) ⟨X,H',n'⟩):qz call Q ⟨[ax 20 0 0,ax 27 0 0,tv d.n t,ay 71 q,v4,v5,v6,v7,v8,v9,v10],H,n⟩:=by
 delta Ui at z
 rcases S:xe d.g d.C t.1 t.2 with _|J;(rw[S]at z;exact bF z);(
 rw[S]at z
 refine aM<|b9 (r:=.t 74 n) (T.f _ _<|aG _) U<|fM U<|aE<|aM<|jf<|fM U<|fM U<|aE<|aM ?_
 have S0:KL n H 74 n (.l []) _ (n+1):=.s T.f
 have T1:=T.o S0.1
 refine R2 hc hC T1 S U U U U (λL H1 n1 I hL hJe R zJ=> ?_) G
 have S1:=S0.e (a8 n) I
 obtain⟨c,w⟩:=T.l
 refine fM U<|aE<|aM<|Ms hp (T1.o I) U U hL R zJ λH2 n2 E=> ?_
 have S2:=S1.e I.1 E
 have N3:=S2.1
 refine zc (hL.l E.1 E.3).q λk j P e2 e3=>Y P ?_
 have N:=w.o N3
 refine aE<|aM<|bL e3 ?_
 have v:∀l:List Itm,bA (λy y=>M ()) l ()=M ():=λl=>by
  induction l with
  |nil=>rfl
  |cons _ _ ih=>exact ih
 refine Ka (λy=>iv) J _ (λy e=>[ax 20 0 0,ax 27 0 0,tv d.n t,ay 71 q,ay 74 n,.I<|.o t.1,sy d.n t.2,ay k j,Fp d.C J,e.1,e.2]) (λy=>H2) n2 _ (v J) (cH λa x x h=>h.1▸(λy=>e3) a) (λy e p y i K' A y T'=> ?_) (λe=> ?_) (g₀:=(v9,v10))
 .have m:=aJ A
  have A:=N.6 p.1 p.2 (R p m).1 (R p m).2
  have u:=ql z p m
  unfold rdX at u
  exact KA U A<|bC (b:=more d.g p) (λf=>by
   refine Y f ?_
   rw[f]at u
   have u:=by simpa using u
   refine ff<|aM<|RZ U A (G.4 _) f<|fM U<|aE<|aa8 ((N3.3 _ _ hq).t hs) ?_
   rw[g5 hn,u]
   exact T'.1 (_,_)) λf=>by exact Y f<|T'.1 (_,_)
 .exact gk<|aE<|K _ _ _ (aH I.1 E.1) S2)
theorem abq(d:Nat)(i:Dt (dT d))(h:∀g,gK g<|dT d):I? (dT<|d+1):=λT f G e x c b a K=>by
 exact Y (show dT (d+1) 382=gw ib (qz<|dT d) 4 []from by kernel_rfl)<|⟨U,VS i (h _) T f G e c b a λx=>K⟩
theorem lC(b:bM a):Keyed (tv a) eqT:=⟨Fh b,λx x=>q6⟩
theorem fT(a:aa)(t:TR):pY (tv a t) 6=Z:=U
structure TQ where
 N:TR->Nat
 s:List TR
 f:List TR
 c:TR->List Nat
noncomputable def P?:Nat:=9223372036854775807
def Qi(x:TR)(q:TQ)(a:Nat):Option TQ:=bif has a (q.c x)then M q else mQ (fits (q.c x).L) {q with c:=eQ eqT q.c x<|q.c x++[a]}
noncomputable def VI(a b:Nat):Nat:=bif bg b a then b else a
def Tv(X:List TR)(b:TQ->TR->Option TQ)(x:TR)(q:TQ)(y:TR):Option TQ:=bif fw eqT y X then ob (bif aA (q.N y) 0 then b q y else M q) λa=>bif fw eqT y a.f&&fw eqT x a.f then(bif eqT y x then M {a with N:=eQ eqT a.N x<|VI (a.N x)<|a.N y}else bA (Qi x) (a.c y) {a with N:=eQ eqT a.N x<|VI (a.N x)<|a.N y})else aI else aI
def EW(X:List TR)(c:TR->List TR)(f:Nat):TQ->TR->Option TQ:=f.r (λ_ _=>aI) λ_ b q x=>bif fw eqT x X&&(!fw eqT x q.f&&(fits (q.s.L+1)&&fits q.f.L))then ob (bA (Tv X b x) (c x) ⟨eQ eqT q.N x<|q.s.L+1,q.s++[x],q.f++[x],q.c⟩) λa=>bif aA (a.N x) (q.s.L+1)then mQ (t8 a.s (q.s++[x])&&(fw eqT x a.f&&fits a.f.L)) {a with N:=eQ eqT a.N x P?,s:=q.s}else M a else aI
noncomputable def kT(k:Nat):Bool:=aA k 73||aA k 75||aA k 76||aA k 77
abbrev UH:=List TR->(TR->Loc)->(TR->List Nat)->Hp->Nat->Prop
inductive Ph(nm:aa)(X:List TR)(rl:TR->List TR)(a b c:Nat)(Rl Fl:Loc)(Rdy:UH):Prop
 |mk (nd:X.N) (fit:fits X.L=Z) (on:∀{fk fl fc H n H' n'},Rdy fk fl fc H n->cy w0 n H n' H'->Rdy fk fl fc H' n') (put:∀{fk fl fc H n k m o},Rdy fk fl fc H n->(k=75/\m=a\/k=76/\m=b\/k=77/\m=c)->m<n->Rdy fk fl fc (aZ H (.t k m) o) n) (app:∀{fk fl fc H n y l},Rdy fk fl fc H n->y∈fk->Rdy fk fl (eQ eqT fc y l) (aZ H (fl y) (.l (l.m (sy nm)))) n) (free:∀{fk fl fc H n},Rdy fk fl fc H n->∀k m,n<=m->H (.t k m)=aI)
inductive D?(nm:aa)(X:List TR)(rl:TR->List TR)(Rl Fl:Loc)(Rdy:UH)(clo:ae):Prop
 |mk (fp:∀{x fk fl fc H n} {K:ab} {loc:aq},Rdy fk fl fc H n->x∈X->x∉fk->(∀j H' n',cy w0 n H n' H'->j<n'->(∀y∈fk,fl y≠.t 73 j)->H' (.t 73 j)=M (.l ((fc x).m (sy nm)))->Rdy (fk++[x]) (eQ eqT fl x (.t 73 j)) fc H' n'->K (ay 73 j) ⟨loc,H',n'⟩)->clo Fl [tv nm x] K ⟨loc,H,n⟩) (rl_:∀{x fk fl fc H n} {K:ab} {loc:aq},Rdy fk fl fc H n->x∈X->(∀k j H' n',cy w0 n H n' H'->kT k=D->j<n'->H' (.t k j)=M (.l ((rl x).m (tv nm)))->K (ay k j) ⟨loc,H',n'⟩)->clo Rl [tv nm x] K ⟨loc,H,n⟩)
inductive TI(nm:aa)(X:List TR)(a b c:Nat)(Rdy:UH)(q:TQ)(fl:TR->Loc)(H:Hp)(n:Nat):Prop
 |mk (rdy:Rdy q.f fl q.c H n) (dN:H (.t 75 a)=M (.d (X.m λx=>(tv nm x,.I (.o (q.N x)))))) (dS:H (.t 76 b)=M (.l (q.s.m (tv nm)))) (dF:H (.t 77 c)=M (.d (q.f.m λx=>(tv nm x,.L (fl x))))) (lst:∀y∈q.f,∃j,fl y=.t 73 j/\j<n/\H (.t 73 j)=M (.l ((q.c y).m (sy nm)))) (inj:∀y∈q.f,∀z∈q.f,fl y=fl z->y=z) (lt:a<n/\b<n/\c<n) (nd:q.f.N) (sub:∀y∈q.f,y∈X)
def Off(n:Nat)(H H':Hp):Prop:=∀k j,j<n->kT k=D->H' (.t k j)=H (.t k j)
theorem gx{f:TR->γ}{x:TR}:eQ eqT f x v x=v:=by delta eQ;refine Y (q6.M U) ?_;rfl
theorem eW{f:TR->γ}{y:TR}(h:y≠x):eQ eqT f x v y=f y:=by
 delta eQ
 exact bC (λe=>absurd (q6.m e) h) λe=>by refine Y e ?_;rfl
theorem TI.S(k:bM d)(P:Ph d X p a b c o m Rdy)(T:TI d X a b c Rdy q fl H n){x:TR}(i:fw eqT x X=Z):TI d X a b c Rdy {q with N:=eQ eqT q.N x v} fl (aZ H (.t 75 a)<|.d<|gi (X.m λx=>(tv d x,V.I<|.o<|q.N x)) (tv d x)<|.I<|.o v) n:=by
 refine⟨P.4 T.1 (.I ⟨U,U⟩) T.7.1,?_,T.3,T.4,λy h=>eV (T.5 y h) λj g f e=>eI j g f e,T.6,T.7,T.8,T.9⟩
 rw[aT,HO (lC k) (λx=>.I<|.o<|q.N x) x _ X i P.1]
 refine congrArg (λl=>M<|O.d l)<|d4 λy z=> ?_
 show(tv d y,bif eqT y x then V.I (aY v)else V.I (aY<|q.N y))=(tv d y,V.I<|aY<|bif eqT y x then v else q.N y)
 rcases eqT y x with _|_<;>rfl
theorem TI.L(P:Ph d X l a b c k i Rdy)(T:TI d X a b c Rdy q fl H n):TI d X a b c Rdy {q with s:=s} fl (aZ H (.t 76 b)<|.l<|s.m<|tv d) n:=
 ⟨P.4 T.1 (.i<|.I ⟨U,U⟩) T.7.2.1,T.2,aT _ _ _,T.4,λy h=>eV (T.5 y h) λj g f e=>eI j g f e,T.6,T.7,T.8,T.9⟩
theorem TI.K(P:Ph e X l a b c k i Rdy)(T:TI e X a b c Rdy q fl H n)(N:cy w0 n H n' H'):TI e X a b c Rdy q fl H' n':=
 ⟨P.3 T.1 N,(N.3 _ _ T.7.1).t T.2,(N.3 _ _ T.7.2.1).t T.3,(N.3 _ _ T.7.2.2).t T.4,λy h=>eV (T.5 y h) λj g d f=>eI j g (aH d N.1)<|(N.3 _ _ d).t f,T.6,⟨aH T.7.1 N.1,aH T.7.2.1 N.1,aH T.7.2.2 N.1⟩,T.8,T.9⟩
theorem TI.app(P:Ph e X v a b c u s Rdy)(T:TI e X a b c Rdy q fl H n)(h:x∈q.f):TI e X a b c Rdy {q with c:=eQ eqT q.c x l} fl (aZ H (fl x)<|.l<|l.m<|sy e) n:=by
 refine eV (T.5 x h) λj f r p=>⟨P.5 T.1 h,?_,?_,?_,λy k=> ?_,T.6,T.7,T.8,T.9⟩
 .exact Y f T.2
 .exact Y f T.3
 .exact Y f T.4
 .refine eV (T.5 y k) λi g o m=>eI i g o ?_
  by_cases d:y=x
  .subst d
   refine Y (Loc.t.inj<|g.s.t f).2 ?_
   refine Y f ?_;rw[aT]
   show M (O.l<|l.m<|sy e)=M (O.l<|(eQ eqT q.c y l y).m<|sy e)
   exact Y gx U
  .refine(bS _ _ λz=>d<|T.6 y k x h<|Y g<|Y z U).t ?_
   rw[m]
   show _=M (O.l<|(eQ eqT q.c x l y).m<|sy e)
   exact Y (eW d) U
theorem Off.l:Off n H H:=λx x x x=>U
theorem Off.q(h:Off n H H')(e:n<=n')(d:Off n' H' a):Off n H a:=λk j c b=>(d k j (aH c e) b).t<|h k j c b
theorem Off.P(h:Off n H H')(b:kT k=Z):Off n H (aZ H' (.t k m) o):=λd j c a=>(bS _ _ λz=>by revert b;refine rR (Loc.t.inj z).1<|rR (Loc.t.inj z).2 ?_;intro b;rw[b]at a;exact bT a).t<|h d j c a
theorem Off.w(h:Off n H H')(e:n<=n')(N:cy w0 n' H' d a):Off n H a:=λk j b c=>(N.3 _ _<|aH b e).t<|h k j b c
theorem aa9{K:ab}(q:K (.I<|.o<|VI i j) σ):Oe [.I (.o i),.I<|.o j] K σ:=⟨_,_,U,_,U,_,U,by
 show K (.I<|bif decide (aY j<aY i)then aY j else aY i) σ
 refine Y (lt_int _ _) ?_;delta VI at q;revert q
 rcases bg j i with _|_<;>exact id⟩
theorem Zi{K:ab}{H:Hp}(h:H l=M (.l<|vs++[w]))(b:fits (vs++[w]).L=Z)(q:K w ⟨a,aZ H l<|.l vs,n⟩):DN (.L l) [] K ⟨a,H,n⟩:=
 have e:(vs++[w]).L - 1=vs.L:=by refine Y aL ?_;rfl
 .I ⟨U,l,_,U,h,b,w,by rw[e,bO<|lr,uw];rfl,Y e<|Y List.take_left q⟩
theorem Lb(h:∀X,(∀σ,a Q σ->X D σ)->c X σ):lH c body a Q σ:=⟨1,h _ λσ e=>e⟩
def Lz(f:aa)(X:List TR)(a b c:Nat)(k j:Loc)(Rdy:UH)(i:TQ->TR->Option TQ)(call:CF):Prop:=∀{q g:TQ} {x:TR} {fl:TR->Loc} {h:Loc} {Q:ab} {d:aq} {H:Hp} {n:Nat},TI f X a b c Rdy q fl H n->i q x=M g->
 (∀e H' n',n<=n'->TI f X a b c Rdy g e H' n'->Off n H H'->Q .N ⟨d,H',n'⟩)->call 301 [tv f x,ay 75 a,ay 76 b,ay 77 c,.L h,.L k,.L j] Q ⟨d,H,n⟩
section
variable{q:TQ}{fl:TR->Loc}
abbrev ZU(nm:aa)(a b c:Nat)(v4 Rl Fl:Loc)(x:TR)(v7 v8 v9 v10 v11:V):List V:=[tv nm x,ay 75 a,ay 76 b,ay 77 c,.L v4,.L Rl,.L Fl,v7,v8,v9,v10,v11]
theorem TI.t(f:bM d)(T:TI d X a b c Rdy q fl H n)(e:fw eqT y X=Z):eK (X.m λx=>(tv d x,.I<|.o<|q.N x)) (tv d y)=M (.I<|.o<|q.N y):=by
 rw[l9 (lC f) λx=>.I<|.o<|q.N x,e];rfl
theorem TI.J(c:bM a)(b:fw eqT y q.f=Z):eK (q.f.m λx=>(tv a x,.L<|fl x)) (tv a y)=M (.L<|fl y):=by
 rw[l9 (lC c) λx=>.L<|fl x,b];rfl
theorem abC(m:bM d)(P:Ph d X rl a b c Rl S Rdy)(T:TI d X a b c Rdy q fl H n)(hy:fw eqT y q.f=Z)(hx:fw eqT x q.f=Z)(f:(bif eqT y x then M q else bA (Qi x) (q.c y) q)=M q')
  (K:∀v10 H' n',n<=n'->TI d X a b c Rdy q' fl H' n'->Off n H H'->Q .n ⟨ZU d a b c v4 Rl S x v7 v8 (tv d y) v10 u,H',n'⟩):
  rU Q ⟨ZU d a b c v4 Rl S x v7 v8 (tv d y) v10 u,H,n⟩:=by
 have N:=(fH<|lC m).m hy
 have L:=(fH<|lC m).m hx
 have N0:cy w0 n H (n+1) (aZ H (.t 78 n)<|.l []):=(cy.s<|P.6 T.1).e
 have J:=T.K P N0
 have O0:=Off.w .l (aG _) N0
 refine qs T.4<|b9 (r:=.t 78 n) (P.6 T.1 _ _<|aG _) U<|DI U J.4 (fT _ _) (TI.J m hy) ?_
 refine eV (J.5 y N) λj e1 e2 e3=>Y e1<|bL e3<|cW f (λk hf1=> ?_) λk f=> ?_
 .obtain rfl:=q6.m k
  revert f K;refine rR (sJ hf1) ?_;intro f K
  have I:∀l:List Nat,bA (λz z=>M ()) l ()=M ():=λl=>by
   induction l with
   |nil=>rfl
   |cons _ _ ih=>exact ih
  refine Ka (λz=>sy d) (q.c y) _ (λz e=>[tv d y,ay 75 a,ay 76 b,ay 77 c,.L v4,.L Rl,.L S,v7,v8,tv d y,e,u]) (λz=>aZ H (.t 78 n)<|.l []) (n+1) _ (I _) (cH λa x x h=>h.1▸(λz=>e3) a) (λz e s z i K' hi z w=> ?_) λe=> ?_
  .refine eY J.4 (fT _ _) (TI.J m hy)<|Y e1<|pF e3 U (je _) ?_
   rw[g5 m,gX.M<|aJ hi]
   exact w.1 _
  .exact gk<|K _ _ _ (d7 _) J O0
 .refine ei (λz=>sy d) (q.c y) _ (λz e=>[tv d x,ay 75 a,ay 76 b,ay 77 c,.L v4,.L Rl,.L S,v7,v8,tv d y,e,u]) (λp H' n'=>TI d X a b c Rdy p fl H' n'/\n'=n+1/\p.f=q.f/\p.c y=q.c y/\Off n H H') (Qi x) f (cH λp H' n' h=> ?_) (λp e s q2 i H' n' K' hi f hP w=> ?_) (λe H' n' hP=> ?_) (⟨J,U,U,U,O0⟩)
  .exact eV (h.1.5 y<|h.2.2.1▸N) λj' E f2 C=>rR (Loc.t.inj<|E.s.t e1).2<|rR h.2.2.2.1 C
  .refine U7 hP λg o v h3 R=> ?_;subst o
   have A:fw eqT x p.f=Z:=Y v hx
   refine eV (g.5 x<|v▸L) λjx E f2 C=>eY g.4 (fT _ _) (TI.J m A)<|Y E<|pF C U (je _) ?_
   refine Y (g5 m _ _) ?_
   refine ot f (λh f=> ?_) λh f=> ?_
   .obtain rfl:=(sJ f)
    exact Y h<|w.1 _ _ _<|⟨g,U,v,h3,R⟩
   .revert w;refine rR ((cj f)).2 ?_;intro w
    refine Y h<|eY g.4 (fT _ _) (TI.J m A)<|Y E<|fE C<|gA C (ba ((cj f)).1) ?_
    have T2:=g.app P (v▸L) (l:=p.c x++[s])
    rw[E,aK]at T2
    exact w.1 _ _ _<|⟨T2,U,v,(((eW λh=>by rw[q6.M h]at k;exact bT k).t h3)),((R.P U))⟩
  .refine U7 hP λg o v h3 R=> ?_;revert g;refine Y o ?_;intro g
   exact gk<|K _ _ _ (d7 _) g R
theorem abD{call:CF}(v:bM e)(P:Ph e X rl a b c u s Rdy)(hc:Lz e X a b c u s Rdy tr call)(T:TI e X a b c Rdy q fl H n)(hX:fw eqT x X=Z)(f:Tv X tr x q y=M S)
  (K:∀v10 h H' n',n<=n'->TI e X a b c Rdy S h H' n'->Off n H H'->Q .n ⟨ZU e a b c J u s x I E (tv e y) v10 o,H',n'⟩):
  wQ call Q ⟨ZU e a b c J u s x I E (tv e y) v10 o,H,n⟩:=by
 refine cW f (λR f=>(bc f λq1 r f=>cW f (λC f=>(ir (an C) λC h3=> ?_)) λw f=>nS f)) λw f=>nS f
 have d:∀{fl H' n'},n<=n'->TI e X a b c Rdy q1 fl H' n'->Off n H H'->(∀v10 h m l,n<=l->TI e X a b c Rdy S h m l->Off n H m->Q .n ⟨ZU e a b c J u s x I E (tv e y) v10 o,m,l⟩)->aR yr rU Q ⟨ZU e a b c J u s x I E (tv e y) v10 o,H',n'⟩:=λg i A K=>by
  refine aM<|cg U<|cg U<|eY i.2 (fT _ _) (i.t v hX)<|cg U<|cg U<|eY i.2 (fT _ _) (i.t v R)<|aa9<|ee i.2 (fT _ _) (ba P.2)<|aE<|abC v P (i.S v P hX) C h3 f λv10 H2 n2 p T2 O2=>K _ _ _ _ (aC g p) T2<|A.q g λk j hj L=>(O2 k j hj L).t<|bS _ _ λz=>((show k≠73/\k≠75/\k≠76/\k≠77 from by refine⟨?_,?_,?_,?_⟩<;>(rintro rfl;exact bT L))).2.1 (by refine Y (Loc.t.inj z).1<|rR (Loc.t.inj z).2 ?_;rfl)
 refine aM<|eY T.2 (fT _ _) (T.t v R)<|nY U U ?_
 refine Y (show dX (.I<|.o<|q.N y) (.I 0)=aA (q.N y) 0 from oi _ 0) ?_
 refine ot r (λh0 r=> ?_) λh0 r=> ?_
 .exact hc T r λh H' n' g i A=>aE<|d g i A K
 .revert d;refine rR (sJ r) ?_;intro d
  exact fx<|aE<|d (aG _) T .l K
theorem TI.Q(o:bM f)(P:Ph f X I a b c E C Rdy)(T:TI f X a b c Rdy q fl H n)(A:x∈X)(m:fw eqT x q.f=D)(N:cy w0 n H n' H')(w:j<n')(k:∀y∈q.f,fl y≠.t 73 j)(v:H' (.t 73 j)=M (.l<|(q.c x).m<|sy f))(r:Rdy (q.f++[x]) (eQ eqT fl x<|.t 73 j) q.c H' n'):
  TI f X a b c Rdy {q with f:=q.f++[x]} (eQ eqT fl x<|.t 73 j) (aZ H' (.t 77 c)<|.d<|gi (q.f.m λx=>(tv f x,V.L<|fl x)) (tv f x)<|ay 73 j) n':=by
 have g:=T.K P N
 have d:∀y∈q.f,y≠x:=λy hy z=>(λh=>by rw[(fH<|lC o).M h]at m;exact bT m)<|z▸hy
 refine⟨P.4 r (.i<|.i ⟨U,U⟩) g.7.2.2,g.2,g.3,?_,λy hy=> ?_,λy hy z hz e=> ?_,g.7,?_,λy hy=> ?_⟩
 .rw[aT,ox (lC o) (λx=>.L<|fl x) x _ _ m,aK]
  refine congrArg (λl=>M<|O.d l)<|congr (congrArg _<|d4 λy hy=> ?_) ?_
  .exact Y (eW<|d y hy) U
  .show _=[(tv f x,V.L<|eQ eqT fl x (.t 73 j) x)]
   exact Y gx U
 .rcases ma hy with hy|hy
  .exact eV (g.5 y hy) λi u s p=>eI i ((eW<|d y hy).t u) s p
  .exact Y (m1 hy)<|eI j gx w v
 .rcases ma hy with hy1|hy1<;>rcases ma hz with hz1|hz1
  .rw[eW (d y hy1),eW<|d z hz1]at e;exact g.6 y hy1 z hz1 e
  .rw[m1 hz1,eW<|d y hy1,gx]at e;exact absurd e<|k y hy1
  .rw[m1 hy1,eW<|d z hz1,gx]at e;exact absurd e.s<|k z hz1
  .exact(m1 hy1).t (m1 hz1).s
 .exact j2.M ⟨T.8,eX.M ⟨λh=>(gJ h),mH⟩,λy hy z hz e=>d y hy<|e.t<|m1 hz⟩
 .rcases ma hy with hy|hy
  .exact T.9 y hy
  .exact Y (m1 hy) A
theorem TI.push(P:Ph d X g a b c f e Rdy)(T:TI d X a b c Rdy q fl H n):TI d X a b c Rdy {q with s:=q.s++[x]} fl (aZ H (.t 76 b)<|.l<|q.s.m (tv d)++[tv d x]) n:=by
 have:=T.L P (s:=q.s++[x])
 rw[aK]at this;exact this
theorem TI.R(P:Ph d X l a b c k i Rdy)(T:TI d X a b c Rdy q fl H n):TI d X a b c Rdy q fl (aZ H (.t 77 c)<|.d<|q.f.m λx=>(tv d x,V.L<|fl x)) n:=
 ⟨P.4 T.1 (.i<|.i ⟨U,U⟩) T.7.2.2,T.2,T.3,hA,λy h=>eV (T.5 y h) λj g f e=>eI j g f e,T.6,T.7,T.8,T.9⟩
theorem HF(k:Nat):idx (k+1) (-1)=M k:=by
 rfl
theorem OP{call:CF}(m:bM d)(P:Ph d X rl a b c Rl Fl Rdy)(C:D? d X rl Rl Fl Rdy clo)(hc:Lz d X a b c Rl Fl Rdy (EW X rl f) call)(T:TI d X a b c Rdy q fl H n)(l:EW X rl (f+1) q x=M q')
  (K:∀z loc r H' n',SE z=.N->n<=n'->TI d X a b c Rdy q' r H' n'->Off n H H'->Q z ⟨loc,H',n'⟩):
  CY call clo Q ⟨ZU d a b c v4 Rl Fl x v7 v8 v9 v10 v11,H,n⟩:=by
 refine cW l (λhz l=>(ir (an hz) λhX hz=> ?_)) λw l=>nS l
 obtain⟨S,hz⟩:=an hz
 obtain⟨z1,z2⟩:=an hz
 have S:=by simpa using S
 have p:=(fH<|lC m).m hX
 have hx':x∉q.f:=λh=>by rw[(fH<|lC m).M h]at S;exact bT S
 have z1':fits q.s.L=Z:=by rw[cG]at z1⊢;have:=of_decide_eq_true z1;exact decide_eq_true<|bZ (zQ 23) U this
 refine bc l λu h1 l=>aM<|cg U<|fE T.3<|gA T.3 (ba z1')<|aE<|aM ?_
 have T1:=T.push P (x:=x)
 have l1:(q.s.m (tv d)++[tv d x]).L=q.s.L+1:=by rw[aL,aD];rfl
 refine uR (aT _ _ _) (Y l1 z1) ?_
 refine Y l1<|fM U<|aE<|aM<|cg U<|ee T1.2 (fT _ _) (ba P.2)<|aE<|aM<|br _ U ?_
 have T2:=T1.S m P hX (v:=q.s.L+1)
 refine C.1 T2.1 p hx' λj H3 n3 R hj hne hl r3=> ?_
 have T2':=T2.K P R
 refine ee T2'.4 (fT _ _) (ba z2)<|aE<|aM<|br _ U ?_
 have T3:=T2.Q m P p S R hj hne hl r3
 refine C.2 T3.1 p λk i H4 n4 N4 hk hi L=> ?_
 have T4:=T3.K P N4
 have O4:=Off.w ((Off.w ((Off.l.P U).P U) (aG _) R).P U) R.1 N4
 have J:=aC R.1 N4.1
 refine fM U<|aE<|aM<|bL L<|ei (λw=>tv d) (rl x) _ (λw e=>[tv d x,ay 75 a,ay 76 b,ay 77 c,.L v4,.L Rl,.L Fl,.I<|.o<|q.s.L+1,ay k i,e.1,e.2,v11]) (λu H' n'=>∃fl,TI d X a b c Rdy u fl H' n'/\n4<=n'/\Off n4 H4 H') (Tv X (EW X rl f) x) h1 (cH λu H' n' h=> ?_) (λu e y q2 i' H' n' K' hi' hf' hP T'=> ?_) (λe H' n' hP=> ?_) (eI _ T4 (aG _) .l) (g₀:=(v9,v10))
 .exact eV h λfl o I E=>(E _ _ hi hk).t L
 .exact eV hP λfl o I E=>fM U<|abD m P hc o hX hf' λv10 r H6 n6 g A O6=>T'.1 (_,_) _ _<|eI r A (aC I g)<|E.q I O6
 .refine eV hP λfl5 o I E=> ?_
  have O6:=O4.q J E
  have g:=aC J I
  refine gk<|aE<|cg U<|eY o.2 (fT _ _) (o.t m hX)<|nY U U ?_
  refine Y (show dX (.I<|.o<|u.N x) (.I<|.o<|q.s.L+1)=aA (u.N x) (q.s.L+1)from oi _ _) ?_
  refine ot l (λh0 l=> ?_) λh0 l=> ?_
  .obtain⟨hz,rfl⟩:=cj l
   obtain⟨hs,hz⟩:=an hz
   have hs:=ou.m hs
   have s:=o.3
   have s:=aK▸hs▸s
   have lz:fits (q.s.m (tv d)++[tv d x]).L=Z:=Y l1 z1
   have il:idx (q.s.m (tv d)++[tv d x]).L (-1)=M q.s.L:=Y l1<|HF _
   have ia:(q.s.m (tv d)++[tv d x])[q.s.L]?=M (tv d x):=by
    rw[bO (by rw[aD];exact aG _),aD,uw];rfl
   refine ff<|aM<|x9<|jR s lz il ia<|ee o.2 (fT _ _) (ba P.2)<|aE<|aM ?_
   have A:=o.S m P hX (v:=P?)
   refine eY A.4 (fT _ _) (TI.J m ((an hz)).1)<|x9 ?_
   refine jR s lz il ia<|ee A.4 (fT _ _) (ba ((an hz)).2)<|Y (FH (lC m) (λx=>.L<|fl5 x) x _ ((an hz)).1)<|aE<|aM ?_
   refine fE s<|Zi s lz<|aE<|Lb λY' hY=>(Ic U U ?_)
   rw[Fh m,q6.M U]
   exact hY _<|K _ _ _ _ _ U g ((A.R P).L P)<|((O6.P U).P U).P U
  .revert K;refine rR (sJ l) ?_;intro K
   exact K _ _ _ _ _ U g o O6
end
theorem Wg(s:bM j)(P:Ph j X m a b c l k Rdy)(C:∀d,d0<=d->D? j X m l k Rdy (AB<|dT d)):∀f d,d0+f<=d->Lz j X a b c l k Rdy (EW X m f) (dT d)
 :=λr=>r.r (λd _=>λx i=>nS i) λf q d=>by
  rcases d with _|d;(exact λh=>absurd h (λhz=>zF<|bU (zQ 121) U h));(intro h;exact λT i K=>Y (show dT (d+1) 301=gw C3 (CY (dT d)<|AB<|dT d) 7 []from by kernel_rfl) ⟨U,OP s P (C d<|lR (zQ 43) U h) (q d<|lR (zQ 122) U h) T i λz p g H' n' hz e o n=>Y hz<|K g H' n' e o n⟩)
def xJ(l:List TR)(x:TR):Option (List TR):=mQ (!fw eqT x l&&fits l.L)<|l++[x]
def X'(X:List TR)(a:TR->List TR)(f:Nat)(q:TQ)(x:TR):Option TQ:=bif aA (q.N x) 0 then EW X a f q x else M q
def AD(X:List TR)(b:TR->List TR)(f:Nat)(a:TR->List Nat):Option TQ:=bA (X' X b f) X ⟨λx=>0,[],[],a⟩
theorem LG(g:bM j)(h:bA xJ X []=M Y'):Y'.N:=vy (λa b i x f e=>by
 refine Yq e λhz=> ?_
 have c:=(an hz).1
 refine j2.M ⟨f,eX.M ⟨λh=>(gJ h),mH⟩,λy d z hz e=> ?_⟩
 rw[(fH<|lC g).M (m1 hz▸e▸d)]at c;exact bF c) mH h
theorem QK{call:CF}(E:bM c)(P:Ph c X C n (n+1) (n+2) v u Rdy)(hc:Lz c X n (n+1) (n+2) v u Rdy (EW X C f) call)(hX:bA xJ X []=M X)(A:Rdy [] fl fc H n)(R:H (.t 70 m)=M (.l<|X.m<|tv c))(L:m<n)(d:AD X C f fc=M q)
  (K:∀w k H' n',n<=n'->TI c X n (n+1) (n+2) Rdy q k H' n'->Off n H H'->Q (.r<|.L<|.t 77<|n+2) ⟨w,H',n'⟩):
  Ex call Q ⟨[ay 70 m,.L v,.L u,v3,v4,v5,v6],H,n⟩:=by
 refine aM<|eJ (r:=.t 75 n) (P.6 A _ _<|aG _)<|aE<|aM ?_
 have j:∀n' H',cy w0 n H n' H'->H' (.t 70 m)=M (.l<|X.m<|tv c):=λn' H' N=>(N.3 _ _ L).t R
 have J:KL n H 75 n (.d []) (aZ H (.t 75 n)<|.d []) (n+1):=.s<|P.6 A
 refine bL (j _ _ J.1) (ei (λz=>tv c) X _ (λz e=>[ay 70 m,.L v,.L u,ay 75 n,e,v5,v6]) (λl H' n'=>KL n H 75 n (.d<|l.m λx=>(tv c x,.I 0)) H' n'/\n'=n+1) xJ hX (cH λa H n h=>j _ _ h.1.1) (λl e x l' i H' n' K' I d g T=> ?_) (λe H1 n1 g=> ?_) ⟨J,U⟩)
 .obtain⟨S,rfl⟩:=g
  obtain⟨hz,rfl⟩:=cj d
  refine ee S.2 (fT _ _) (ba (aU.m hz).2)<|T.1 _ _ _ ⟨?_,U⟩
  rw[ox (lC E) (λz=>.I 0) x _ _ (by simpa using(aU.m hz).1)]
  have:=S.p (o':=.d<|(l++[x]).m λx=>(tv c x,V.I 0)) (aG _)<|a8 _
  rw[aK]at this⊢;exact this
 .obtain⟨S,rfl⟩:=g
  refine gk<|aE<|aM<|b9 (r:=.t 76<|n+1) (S.1.4 _ _<|aG _) U<|fM U<|aE<|aM ?_
  refine eJ (r:=.t 77<|n+1+1) (S.1.e.4 _ _<|aG _)<|fM U<|aE<|aM ?_
  refine bL (j _ _ S.1.e.e) ?_
  have T0:TI c X n (n+1) (n+2) Rdy ⟨λz=>0,[],[],fc⟩ fl (aZ (aZ H1 (.t 76<|n+1)<|.l []) (.t 77<|n+1+1)<|.d []) (n+1+1+1):=
   ⟨P.3 A S.1.e.e,S.2,aT _ _ _,aT _ _ _,λy s=>(nomatch s),λy s=>(nomatch s),⟨du (zQ 60) U,⟨du (zQ 61) U,du (zQ 14) U⟩⟩,mH,λy s=>nomatch s⟩
  refine ei (λz=>tv c) X _ (λz e=>[ay 70 m,.L v,.L u,ay 75 n,e,.L<|.t 76<|n+1,.L<|.t 77<|n+2]) (λq H' n'=>∃fl,TI c X n (n+1) (n+2) Rdy q fl H' n'/\n<=n'/\Off n H H') (X' X C f) d (cH λa H' n' h=> ?_) (λq e x q' i H' n' K' I d g T=> ?_) (λe H' n' g=> ?_) (eI fl T0 (du (zQ 151) U)<|Off.w .l (aG _) S.1.e.e)
  .exact eV h λfl T b O=>(O _ _ L U).t R
  .refine eV g λfl o b O=>fM U<|eY o.2 (fT _ _) (o.t E<|(fH<|lC E).M<|aJ I)<|nY U U ?_
   refine Y (show dX (.I<|.o<|q.N x) (.I 0)=aA (q.N x) 0 from oi _ 0) ?_
   refine ot d (λh0 d=> ?_) λh0 d=> ?_
   .exact hc o d λk H' n' p T' O'=>T.1 _ _ _<|eI k T' (aC b p)<|O.q b O'
   .revert T;refine rR (sJ d) ?_;intro T
    exact T.1 _ _ _<|eI fl o b O
  .exact eV g λfl o b O=>gk<|aE<|K _ fl _ _ b o O
theorem QL{fl:TR->Loc}(i:bM a)(P:Ph a X h n (n+1) (n+2) g e Rdy)(C:∀d,d0<=d->D? a X h g e Rdy (AB<|dT d))(s:d0+f<=d)(r:bA xJ X []=M X)(p:Rdy [] fl o H n)(l:H (.t 70 m)=M (.l<|X.m<|tv a))(k:m<n)(j:AD X h f o=M q)
  (K:∀c H' n',n<=n'->TI a X n (n+1) (n+2) Rdy q c H' n'->Off n H H'->Q (.L<|.t 77<|n+2) ⟨b,H',n'⟩):dT (d+1) 294 [ay 70 m,.L g,.L e] Q ⟨b,H,n⟩:=by
 exact Y (show dT (d+1) 294=gw EM (Ex<|dT d) 3 []from by kernel_rfl)<|⟨U,QK i P (Wg i P C f d s) r p l k j λx=>K⟩
def Vw(lams:List (Expr×W V))(e:Expr):W V:=λQ σ=>∃p∈lams,p.1=e/\p.2 Q σ
theorem Mv{K:ab}{H:Hp}(e:H t=M (.t j))(d:UW b a=M vs)(c:H r=aI)(q:K (.L r) ⟨a,aZ (aZ H r<|.C k vs) t<|.t<|j+1,n+1⟩):Em k j t b K ⟨a,H,n⟩:=⟨vs,e,d,r,c,q⟩
def Sn(call:CF):W F:=aR (λQ=>Vw Rp (qp 0) λv=>(ck 4 v)<|nx Q)<|aR (λQ=>Vw Rp (qp 1) λv=>(ck 5 v)<|nx Q)<|aR (λQ=>(aS 2) λa=>(aS 5) λb=>(aS 4) λc=>call 294 [a,b,c] λv=>(ck 6 v)<|nx Q) (λQ=>(aS 6) λv=>Q<|.r v)
def Sl(call:CF):W F:=aR (λQ=>Vw Ro (qp 2) λv=>(ck 4 v)<|nx Q)<|aR (λQ=>Vw Ro (qp 3) λv=>(ck 5 v)<|nx Q)<|aR (λQ=>(aS 1) λa=>(aS 5) λb=>(aS 4) λc=>call 294 [a,b,c] λv=>(ck 6 v)<|nx Q) (λQ=>(aS 6) λv=>Q<|.r v)
def MA(call:CF)(a:String):W V:=λQ=>(aS 1) λv=>fU v λc σ=>(sd call (kS a) c).i=Z/\((aS 3) λe=>(aS 0) λd=>(aS 2) λb=>fV (sd call<|kS a) c [v,e,d,b] Q) σ
def LY(g:Gr)(C:List (List Itm))(t:TR):List Nat:=(QM g C t).g []
def noR:TR->List TR:=λx=>[]
def readM(g:Gr)(C:List (List Itm))(s:ao)(X:List TR):Bool:=allB (λt=>(QM g C t).i&&Ui g C s t) X&&((match bA xJ X []with|some Y'=>t8 Y' X|none=>D)&&(match AD X noR 1 (LY g C)with|some q=>t8 q.f X|none=>D))
theorem T?{call:CF}{K:ab}(h:σ.h l=M (.C 0 a))(b:a.L=3)(q:MA call "dr_relation" (λv σ'=>K v ⟨σ.l,σ'.h,σ'.n⟩) ⟨x::a,σ.h,σ.n⟩):AB call l [x] K σ:=
 Or.inl<|ie a h (by kernel_rfl) b<|Y (show Ru T8 call (wi 0)=MA call "dr_relation" from by kernel_rfl) q
theorem T!{call:CF}{K:ab}(h:σ.h l=M (.C 1 a))(b:a.L=3)(q:MA call "reads_relation" (λv σ'=>K v ⟨σ.l,σ'.h,σ'.n⟩) ⟨x::a,σ.h,σ.n⟩):AB call l [x] K σ:=
 JH<|Or.inl<|ie a h (by kernel_rfl) b<|Y (show Ru T8 call (wi 1)=MA call "reads_relation" from by kernel_rfl) q
inductive acG(d:LD)(X:List TR)(cu:Nat)(cC:Hp)(fk:List TR)(fl:TR->Loc)(fc:TR->List Nat)(H:Hp)(n:Nat):Prop
 |mk (now:cy w0 cu cC n H) (lst:∀y∈fk,∃j,fl y=.t 73 j/\cu<=j/\j<n) (fc_:∀y∈X,y∉fk->fc y=LY d.g d.C y)
section
variable{m1:Nat}
noncomputable def Nk(k:Nat)(a:Nat):O:=.C k [ax 20 0 0,ay 71 a,ax 27 0 0]
theorem adX{call:CF}(hn:bM d.n)(G:r0 d.g)(hC:aO d.C.L 1000=Z)(hd:x? call)(hr:I? call)(hp:gK d.n call)(T:LR d i f)(h1:i (.t 81 m1)=M (Nk 0 q))(h2:i (.t 81 Q)=M (Nk 1 q))(l1:m1<f)(l2:Q<f)(hs:i (.t 71 q)=M (.s<|s.m<|sy d.n))(P:q<f)(N:allB (λt=>(QM d.g d.C t).i&&Ui d.g d.C s t) X=Z):
  D? d.n X noR (.t 81 Q) (.t 81 m1) (acG d X f i) (AB call):=⟨λ{x fk fl fc H n K I} R v u k=>by
  have r:=T.o R.1
  obtain⟨c,L⟩:=r.l
  obtain⟨E,J⟩:=aU.m<|ql N x v
  have e:=R.3 x v u
  unfold LY at e
  rcases p:QM d.g d.C x with _|l;(rw[p]at E;exact bF E);(
   rw[p]at e
   refine T? ((R.1.3 _ _ l1).t h1) U<|dO L.1 ⟨U,(hd r hn G hC p λH' n' m S=>k n H' n' S.1 m (λy o z=> ?_) ?_ ⟨R.1.T S.1 λw w w w=>U,λy o=> ?_,λy o A=>R.3 y o λh=>A<|iY _ h⟩)⟩
   .refine eV (R.2 y o) λj a b c=> ?_
    have z:=a▸z;cases z;exact zF<|bZ (zQ 0) U c
   .exact Y e S.2
   .rcases bV.m o with o|o
    .exact eV (R.2 y o) λj a b c=>eI j ((eW λe=>u (by exact rR e o)).t a) b<|qI c m
    .exact rR (aX.m o)<|eI n gx R.1.1 m),
 λ{x fk fl fc H n K I} R v k=>by
  have r:=T.o R.1
  obtain⟨c,L⟩:=r.l
  exact ir (aU.m<|ql N x v) λE J=>T! ((R.1.3 _ _ l2).t h2) U<|dO L.1 ⟨U,(hr r hn G hC hp ((R.1.3 _ _ P).t hs) (aH P R.1.1) J λH' n' m S=>k 74 n H' n' S.1 U m S.2)⟩⟩
theorem Yw(h:AD X noR f c=M q):q.c=c:=by
 exact vy (P:=λ(q:TQ)=>q.c=c) (λa b i x d e=>by
 refine ot e (λx e=>((show i.c=a.c from by
  rcases f with _|f;(exact nS e);(
  refine ot e (λy e=>bc e λj g e=> ?_) λy e=>nS e
  cases g
  refine ot e (λy e=> ?_) λy e=> ?_
  .refine rR ((cj e)).2 ?_;rfl
  .refine rR (sJ e) ?_;rfl))).t d) λx e=> ?_
 refine rR (sJ e) ?_;exact d) (a:=⟨λx=>0,[],[],c⟩) U h
inductive DL(nm:aa)(X:List TR)(c nb:Nat)(fl:TR->Loc)(fc:TR->List Nat)(H:Hp)(n:Nat):Prop
 |mk (at_:H (.t 77 c)=M (.d (X.m λx=>(tv nm x,.L (fl x))))) (lt:c<n) (ge:nb<=c) (lst:∀y∈X,∃j,fl y=.t 73 j/\nb<=j/\j<n/\H (.t 73 j)=M (.l ((fc y).m (sy nm)))) (inj:∀y∈X,∀z∈X,fl y=fl z->y=z)
noncomputable def w90(k _ _:Nat):Bool:=aA k 90
theorem Zq(hn:bM d.n)(G:r0 d.g)(hC:aO d.C.L 1000=Z)(hd:∀k,d0<=k->x? (dT k))(hr:∀k,d0<=k->I? (dT k))(hp:∀k,d0<=k->gK d.n (dT k))(hdd:d0+1<=dd)(J:cy w90 n H n2 A)(t2:A (.o 90 0 0)=M (.t 2))(T2:LR d A n2)(c1:A (.t 81 n)=M (Nk 0 m))(c2:A (.t 81<|n+1)=M (Nk 1 m))(hn2:n2=n+1+1)(hl:H (.t 70 m1)=M (.l<|X.m<|tv d.n))(l1:m1<n)(hs:H (.t 71 m)=M (.s<|s.m<|sy d.n))(l2:m<n)(hz:fits X.L=Z)(hf:readM d.g d.C s X=Z)
 (K:∀T c fl H' n',cy w90 n H n' H'->H' (.o 90 0 0)=M (.t 2)->DL d.n X c n fl (LY d.g d.C) H' n'->Q (.r<|ay 77 c) ⟨T,H',n'⟩):
 dT (dd+1) 294 [ay 70 m1,.L<|.t 81<|n+1,ay 81 n] (λv=>ck 6 v λx=>qT (λQ=>aS 6 λv=>Q<|.r v) Q .n) ⟨[ax 20 0 0,ax 27 0 0,ay 70 m1,ay 71 m,ay 81 n,.L<|.t 81<|n+1,v6],A,n2⟩:=by
 refine ir (an hf) λS hf=> ?_
 obtain⟨I,u⟩:=an hf
 rcases r:bA xJ X []with _|Y';(rw[r]at I;exact bF I);(
 rw[r]at I
 revert hl hz K S u r;refine rR (ou.m I) ?_;intro hl hz K S u r
 rcases E:AD Y' noR 1 (LY d.g d.C)with _|q;(rw[E]at u;exact bF u);(
 rw[E]at u
 have i:=ou.m u
 subst hn2
 refine QL (fl:=λx=>.t 0 0) hn (⟨((LG hn r)),
  hz,
  λR N=>⟨R.1.T N λx x x x=>U,λy f=>eV (R.2 y f) λj a b c=>eI j a b<|aH c N.1,R.3⟩,
  λR h hm=>⟨R.1.u (h.e (λh=>zG h.2) λh=>h.e (λh=>Y h.2<|d7 _) λh=>Y h.2<|kW _ 2) hm,R.2,R.3⟩,
  λ{fk fl fc H n y l} R f=>by
   refine eV (R.2 y f) λj a b c=>⟨?_,R.2,λz hz w=> ?_⟩
   .exact Y a<|R.1.u b c
   .exact Y (eW λe=>w (by exact Y e f))<|R.3 z hz w,
  λR=>R.1.4⟩) (λk P=>adX hn G hC (hd k P) (hr k P) (hp k P) T2 c1 c2 (du (zQ 5) U) (du (zQ 15) U) ((J.j l2).t hs) (bU (zQ 7) U l2) S) hdd r ⟨.s J.4,λy f=>(by cases f),λy x x=>U⟩ ((J.j l1).t hl) (bU (zQ 7) U l1) E λL H' n' hle p O'=>fM U<|aE ?_
 have dF:=p.4
 rw[i]at dF
 refine K _ _ L _ _ (J.T p.1.1 λx x x x=>U) (p.1.1.t U t2) ⟨dF,p.7.2.2,du (zQ 262) U,λy f=>(eV (p.5 y<|i▸f) λj a b c=>eV (p.1.2 y<|i▸f) λj' a' b' c'=> ?_),λy f z hz=>p.6 y (i▸f) z<|i▸hz⟩
 exact(ie j a ((bU (zQ 82) U<|(Loc.t.inj<|a.s.t a').2▸b')) b<|Yw E▸c)))
theorem OB(L:bM d.n)(G:r0 d.g)(J:aO d.C.L 1000=Z)(I:∀k,d0<=k->x? (dT k))(E:∀k,d0<=k->I? (dT k))(A:∀k,d0<=k->gK d.n (dT k))(l:d0+1<=q)(T:LR d H n)(j:H (.o 90 0 0)=M (.t 0))(y:H (.t 70 m1)=M (.l<|X.m<|tv d.n))(x:m1<n)(w:H (.t 71 e)=M (.s<|s.m<|sy d.n))(v:e<n)(hz:fits X.L=Z)(u:readM d.g d.C s X=Z)
  (K:∀i c fl H' n',cy w90 n H n' H'->H' (.o 90 0 0)=M (.t 2)->DL d.n X c n fl (LY d.g d.C) H' n'->Q (.r<|ay 77 c) ⟨i,H',n'⟩):
  Sn (dT<|q+1) Q ⟨[ax 20 0 0,ax 27 0 0,ay 70 m1,ay 71 e,R,P,N],H,n⟩:=by
 generalize f:dT (q+1)=call
 refine aM<|eI _ (.h _) U<|Mv (r:=.t 81 n) j U (T.f _ _<|aG _)<|fM U<|aE<|aM<|eI _ (.t _<|.h _) U ?_
 have p:=(cy.s T.f).e (k:=81) (o:=Nk 0 e).p (W:=w90) (k:=90) (a:=0) (b:=0) (o:=.t 1) U
 refine Mv (r:=.t 81<|n+1) (aT _ _ _) U (p.4 _ _<|aG _)<|fM U<|aE<|aM<|cg U<|cg U<|cg U ?_
 have m:=p.e (k:=81) (o:=Nk 1 e).p (k:=90) (a:=0) (b:=0) (o:=.t 2) U
 subst f
 exact Zq L G J I E A l m (aT _ _ _) (T.K m λk a b h=>zq h U) (iw.t<|(bS _ _ λz=>by cases z).t<|aT _ _ _) (aT _ _ _) U y x w v hz u K
end
theorem Vg:dT (d+1) 396=gw dY (Sn<|dT d) 4 []:=by kernel_rfl
def pd(g:Gr)(p:Itm):List Nat:=dot (g.r p.1) p.2
def Jn(g:Gr)(p:Itm):Nat:=(g.r p.1).L+1
def i?(g:Gr)(s:ao)(p:Itm)(a:Nat):Option (BN Nat):=bif bg a (Jn g p)then M (bif has ((pd g p).g a 0) g.t|| !has ((pd g p).g a 0) s then .r a else .g (a+1))else M .o
abbrev WQ:=Nat×Nat×List TR
def Q6(g:Gr)(s:ao)(X:List TR)(p:Itm)(w:WQ):Option (List TR):=bif fw eqT (w.2.1,(pd g p).g (w.1+1) 0) X then ob (i7 (i? g s p) 200<|w.1+2) λz=>bif z.2 then M w.2.2 else mQ (fits w.2.2.L) (w.2.2++[(w.2.1,(pd g p).g (w.1+1) 0)])else M w.2.2
def Xu(g:Gr)(C:List (List Itm))(s:ao)(X:List TR)(p:Itm)(w:WQ):Option (BN WQ):=bif bg w.1 (g.r p.1).L then ob (Q6 g s X p w) λa=>ob (xe g C w.2.1<|(pd g p).g (w.1+1) 0) λJ=>ob (l7 J C 0) λj=>M (.g (w.1+1,j,a))else M .o
def Nm(g:Gr)(p r:Itm)(i:Nat):Option (BN Nat):=bif bg i r.2 then M (bif aA ((pd g r).g i 0) ((pd g p).g (i+1) 0)then .g (i+1)else .r i)else M .o
abbrev LB:=Nat×Itm
def Y7(g:Gr)(p:Itm)(j:Nat)(lb:List LB)(r:Itm):Option (List LB):=bif aA (g.l r.1) (g.l p.1)&&aA (Jn g r) (Jn g p)then ob (i7 (Nm g p r) 200 0) λz=>bif z.2 then M lb else mQ (fits lb.L) (lb++[(j,r)])else M lb
def lv(l:LB):V:=.T (.I<|.o l.1)<|.T (iv l.2) .a
inductive K2(nm:aa)(cu:Nat)(cC:Hp)(m1 m2:Nat)(lb:List LB)(ic:List TR)(H:Hp)(n:Nat):Prop
 |mk (now:cy w0 cu cC n H) (lb_:H (.t 83 m1)=M (.l (lb.m lv))) (ic_:H (.t 87 m2)=M (.l (ic.m (tv nm)))) (lt:cu<=m1/\m1<n/\cu<=m2/\m2<n)
theorem K2.o{m1:Nat}{lb:List LB}(S:K2 e b a m1 d lb c H n)(N:cy w0 n H n' H'):K2 e b a m1 d lb c H' n':=
 ⟨S.1.T N λx x x x=>U,(N.j S.4.2.1).t S.2,(N.j S.4.2.2.2).t S.3,S.4.1,aH S.4.2.1 N.1,S.4.2.2.1,aH S.4.2.2.2 N.1⟩
noncomputable abbrev yN(x70 q71 a b c:Nat)(v7 v8 v9 v10 v11 v12 v13 v14 v15 v16 v17 v18:V):List V:=[ax 20 0 0,ax 27 0 0,ay 70 x70,ay 71 q71,ay 82 a,ay 84 b,ay 86 c,v7,v8,v9,v10,v11,v12,v13,v14,v15,v16,v17,v18]
section
variable{m1 cc:Nat}{lb:List LB}
theorem Cz{K:ab}(d:i<Jn g p)(hz:fits (Jn g p)=Z)(b:p.2<=(g.r p.1).L)(q:K (sy c<|(pd g p).g i 0) σ):dj (V.t<|(dot (g.r p.1) p.2).m<|sy c) (.I<|.o i) K σ:=by
 have a:i<(dot (g.r p.1) p.2).L:=by rw[(pX b)];exact d
 refine CD (by rw[aD,(pX b)];exact hz) (by refine Y (aD _) ?_;exact gZ a) (Y aN<|Y (aP a) ?_) q
 refine Y aW<|Y (aP a) ?_;rfl
theorem aaK(hn:bM d.n)(G:r0 d.g)(y:LS d cc i)(f:i (.t 71 k)=M (.s<|s.m<|sy d.n))(hq:k<l)(E:p.1<d.g.p.L/\p.2<=(d.g.r p.1).L)(S:K2 d.n l i m1 C lb X H n)(hf:i7 (i? d.g s p) 200 m=M (li',z))(w:(bif z then M X else mQ (fits X.L) (X++[(j,t)]))=M T)
  (K:∀R H',K2 d.n l i m1 C lb T H' n->Q .n ⟨yN v k a b c (sy d.n t) v8 v9 v10 (ay 87 C) (iv p) v13 (.I<|.o j) R v16 v17 v18,H',n⟩):
  iC Q ⟨yN v k a b c (sy d.n t) v8 v9 v10 (ay 87 C) (iv p) v13 (.I<|.o j) (.I<|.o m) v16 v17 v18,H,n⟩:=by
 have L:=y.o S.1
 have P:=L.6 p.1 p.2 E.1 E.2
 have N:=(S.1.3 _ _ hq).t f
 refine mD (λm _=>yN v k a b c (sy d.n t) v8 v9 v10 (ay 87 C) (iv p) v13 (.I<|.o j) (.I<|.o m) v16 v17 v18) (λx H' n'=>H'=H/\n'=n) (i? d.g s p) hf (λm e st H' n' K' Y' KB f u A hT hY=> ?_) (λe H' n' u hz=> ?_) (λe H' n' u hz=> ?_) ⟨U,U⟩ (g₀:=())
 .refine ir u λJ I=> ?_;subst I;subst J
  refine bY U P U<|FZ ?_
  rw[lt_int]
  refine ot f (λh f=> ?_) λh f=> ?_
  .skip
   refine hT _<|aM ?_
   refine bY U P U<|Cz (cb.M h) (G.4 _) E.2<|uQ U L.1 U L.2 U<|tL L.4 U ?_
   rw[uG hn λa=>ax 8 a 0]
   exact bC (b:=has ((pd d.g p).g m 0) d.g.t) (λr=>by
    refine Y r ?_
    rw[r]at f
    obtain rfl:=aV f
    exact ff<|H0<|A () _ _ ⟨U,U⟩) λr=>by
    refine Y r ?_
    rw[r]at f
    refine fx<|aE<|aM<|bY U P U<|Cz (cb.M h) (G.4 _) E.2<|R6 N ?_
    refine Y (g5 hn _ _) ?_
    exact bC (b:=has ((pd d.g p).g m 0) s) (λq=>by
     refine Y q ?_
     rw[q]at f
     obtain rfl:=aV f
     exact fx<|aE<|wz<|A.1 () _ _ ⟨U,U⟩) λq=>by
     refine Y q ?_
     rw[q]at f
     obtain rfl:=aV f
     exact ff<|H0<|A () _ _ ⟨U,U⟩
  .skip
   obtain rfl:=aV f
   exact hY _ A
 .obtain⟨rfl,rfl⟩:=u
  obtain⟨hz,rfl⟩:=cj<|hz▸w
  refine cg U<|fE S.3<|gR U<|gA S.3 (ba hz)<|K _ _ ⟨S.1.u S.4.2.2.1 S.4.2.2.2,S.2,?_,S.4⟩
  rw[aT,aK];rfl
 .obtain⟨rfl,rfl⟩:=u
  exact K _ _<|aV (hz▸w)▸S
end
inductive LK(d:LD)(s:ao)(X:List TR)(x70 q71 c:Nat)(H:Hp)(n:Nat):Prop
 |mk (lr:LR d H n) (set:H (.t 71 q71)=M (.s (s.m (sy d.n)))) (dt:H (.t 86 c)=M (.d (X.m λx=>(tv d.n x,.I 1)))) (ls:H (.t 70 x70)=M (.l (X.m (tv d.n)))) (lt:q71<n/\c<n/\x70<n)
inductive nO(nm:aa)(call:CF):Prop
 |mk (hit:Dt call) (place:gK nm call)
section
variable{m1:Nat}{lb:List LB}{call:CF}
theorem aaL(hn:bM d.n)(G:r0 d.g)(hC:aO d.C.L 1000=Z)(hc:nO d.n call)(f:LK d s X r q c m l)(A:p.1<d.g.p.L/\p.2<=(d.g.r p.1).L)(S:K2 d.n l m m1 y lb w.2.2 H n)(k:Xu d.g d.C s X p w=M (.g I))
  (K:∀v7 i v16 H' n',K2 d.n l m m1 y lb I.2.2 H' n'->Q .n ⟨yN r q a b c v7 R P v10 (ay 87 y) (iv p) (.I<|.o I.1) (.I<|.o I.2.1) i v16 v17 v18,H',n'⟩):
  iG call Q ⟨yN r q a b c v7 R P v10 (ay 87 y) (iv p) (.I<|.o w.1) (.I<|.o w.2.1) i v16 v17 v18,H,n⟩:=by
 refine cW k (λh k=>(bc k λic u k=>bc k λJ h2 k=>bc k λj' h3 k=> ?_)) λx k=>by cases k
 revert K;refine rG k ?_;intro K
 refine j8 f.1.l λcc o=> ?_
 have L:=o.o S.1
 refine aM<|wz<|fM U<|aE<|aM<|bY U (L.6 p.1 p.2 A.1 A.2) U<|Cz (gW<|cb.M h) (G.4 _) A.2<|fM U<|aE<|aM ?_
 have j:∀i {H n},K2 d.n l m m1 y lb ic H n->aR (iD call) (iF call) Q ⟨yN r q a b c (sy d.n<|(pd d.g p).g (w.1+1) 0) R P v10 (ay 87 y) (iv p) (.I<|.o w.1+1) (.I<|.o w.2.1) i v16 v17 v18,H,n⟩:=λi H n S=>by
  have T:=f.1.o S.1
  refine aM<|R2 hc.1 hC T h2 U U U U (λL H1 n1 N hL hJe oJ zJ=>(aE<|Ms hc.2 (T.o N) U U hL oJ zJ λH2 n2 N2=> ?_)) G
  have e:Fp d.C J=.I (.o j'):=by delta Fp;exact Y h3 U
  exact Y e<|K _ _ _ _ _<|(S.o N).o N2
 refine cg U<|gR U<|tL (v:=tv d.n (w.2.1,(pd d.g p).g (w.1+1) 0)) ((S.1.3 _ _ f.5.2.1).t f.3) U<|Y (l9 (lC hn) (λx=>V.I 1) _ X)<|Y uH<|cW u (λE u=> ?_) λE u=> ?_
 .rw[E]
  exact bc u λz h4 h5=>ff<|aM<|wz<|fM U<|aE<|aaK hn G o f.2 f.5.1 A S h4 h5 λi H' S'=>aE<|j i S'
 .rw[E]
  revert j;refine rR (sJ u) ?_;intro j
  exact fx<|aE<|j _ S
theorem aaM(hn:bM d.n)(G:r0 d.g)(hC:aO d.C.L 1000=Z)(hc:nO d.n call)(i:LK d s X q o c l k)(I:p.1<d.g.p.L/\p.2<=(d.g.r p.1).L)(S:K2 d.n k l m1 v lb w.2.2 H n)(hf:i7 (Xu d.g d.C s X p) f w=M (E,z))
  (K:∀A m v16 H' n',K2 d.n k l m1 v lb E.2.2 H' n'->Q .n ⟨yN q o a b c A P N v10 (ay 87 v) (iv p) (.I<|.o E.1) (.I<|.o E.2.1) m v16 v17 v18,H',n'⟩):
  iH call Q ⟨yN q o a b c A P N v10 (ay 87 v) (iv p) (.I<|.o w.1) (.I<|.o w.2.1) m v16 v17 v18,H,n⟩:=by
 refine j8 i.1.l λcc u=> ?_
 refine mD (λw e=>yN q o a b c e.1 P N v10 (ay 87 v) (iv p) (.I<|.o w.1) (.I<|.o w.2.1) e.2.1 e.2.2 v17 v18) (λw H' n'=>K2 d.n k l m1 v lb w.2.2 H' n') (Xu d.g d.C s X p) hf (λw e st H' n' K' Y' KB L r y hT T=> ?_) (λe H' n' r x=>gk<|K _ _ _ _ _ r) (λe H' n' r x=>K _ _ _ _ _ r) S (g₀:=(A,m,v16))
 refine bY U ((u.o r.1).6 p.1 p.2 I.1 I.2) U<|p4<|FZ ?_
 rw[show aY ((d.g.r p.1).L+1) - 1=aY (d.g.r p.1).L from fR (aY (d.g.r p.1).L) 1,lt_int]
 refine ot (id L) (λh j=> ?_) λh j=> ?_
 .refine bc j λic h1 j=>bc j λJ h2 j=>bc j λj' h3 j=> ?_
  obtain rfl:=aV j
  exact hT _<|aaL hn G hC hc i I r L λA m v16 H' n' R=>y.1 (_,_,_) _ _ R
 .revert y;refine rR (aV j) ?_;intro y
  exact T _ y
theorem aaN(hn:bM d.n)(G:r0 d.g)(l:∃cc,LS d cc s)(X:p.1<d.g.p.L/\p.2<=(d.g.r p.1).L)(P:r.1<d.g.p.L/\r.2<=(d.g.r r.1).L)(S:K2 d.n q s m1 m2 lb ic H n)(f:Y7 d.g p j lb r=M T)
  (K:∀z v18 H',z=.n\/z=.cont->K2 d.n q s m1 m2 T ic H' n->(∀k i,k≠83->H' (.t k i)=H (.t k i))->(∀i,i<q->H' (.t 83 i)=H (.t 83 i))->Q z ⟨yN N J a b c v7 v8 v9 (ay 83 m1) I (iv p) v13 (.I<|.o j) E v16 (iv r) v18,H',n⟩):
  iJ Q ⟨yN N J a b c v7 v8 v9 (ay 83 m1) I (iv p) v13 (.I<|.o j) E v16 (iv r) v18,H,n⟩:=by
 obtain⟨cc,l⟩:=l
 have L:=l.o S.1
 have R:=L.6 p.1 p.2 X.1 X.2
 have m:=L.6 r.1 r.2 P.1 P.2
 refine aM<|bY U m U<|bY U R U<|Ic U U<|Y (show dX (sy d.n<|d.g.l r.1) (sy d.n<|d.g.l p.1)=aA (d.g.l r.1) (d.g.l p.1)from hn.1 _ _) ?_
 delta Y7 at f
 rcases h1:aA (d.g.l r.1) (d.g.l p.1)with _|_;(
  exact ff<|uP<|K _ _ _ (.i U) (aV (h1▸f)▸S) (λx x x=>U) λx x=>U);(
 rw[h1]at f
 refine fx<|aE<|aM<|bY U m U<|bY U R U<|Ic U U<|Y (show dX (.I<|.o<|Jn d.g r) (.I<|.o<|Jn d.g p)=aA (Jn d.g r) (Jn d.g p)from oi _ _) ?_
 exact bC (b:=aA (Jn d.g r)<|Jn d.g p) (λu=>by
 refine Y u ?_
 have f:=u▸f
 have C:=(beq_iff _ _).m u
 refine bc f λz h3 f=>fx<|aE<|aM<|aE<|mD (λi _=>yN N J a b c v7 v8 v9 (ay 83 m1) I (iv p) v13 (.I<|.o j) E v16 (iv r)<|.I<|.o i) (λx H' n'=>H'=H/\n'=n) (Nm d.g p r) h3 (λi e st H' n' K' Y' KB o A y hT hY=> ?_) (λe H' n' A hz=> ?_) (λe H' n' A hz=> ?_) ⟨U,U⟩ (g₀:=())
 .obtain⟨rfl,rfl⟩:=A
  refine bY U m U<|FZ ?_
  rw[lt_int]
  refine cW o (λh o=> ?_) λh o=> ?_
  .rw[h]
   have w:=cb.M h
   refine hT _<|aM<|bY U m U<|Cz (ju (zQ 255) U P.2 w) (G.4 _) P.2 ?_
   exact bY U R U<|wz<|Cz (I8 (zQ 254) U P.2 (zE C) w) (G.4 _) X.2<|Ic U U<|Y (show dX (sy d.n<|(pd d.g r).g i 0) (sy d.n<|(pd d.g p).g (i+1) 0)=aA ((pd d.g r).g i 0) ((pd d.g p).g (i+1) 0)from hn.1 _ _)<|bC (b:=aA ((pd d.g r).g i 0)<|(pd d.g p).g (i+1) 0) (λv=>by
    refine Y v ?_
    rw[v]at o
    obtain rfl:=aV o
    exact fx<|aE<|wz<|y.1 () _ _ ⟨U,U⟩) λv=>by
    refine Y v ?_
    rw[v]at o
    obtain rfl:=aV o
    exact ff<|H0<|y () _ _ ⟨U,U⟩
  .rw[h]
   revert y;refine rR (aV o) ?_;intro y
   exact hY _ y
 .obtain⟨rfl,rfl⟩:=A
  obtain⟨hz,rfl⟩:=cj<|hz▸f
  refine cg U<|fE S.2<|gR U<|gA S.2 (ba hz)<|K _ _ _ (.I U) ⟨S.1.u S.4.1 S.4.2.1,?_,S.3,S.4⟩ (λk i h=>bS _ _ λz=>h (by refine Y (eH.Loc.t.inj z).1<|rR (eH.Loc.t.inj z).2 ?_;rfl)) λi h=>bS _ _<|IU<|(aH h S.4.1)
  rw[aT,aK];rfl
 .obtain⟨rfl,rfl⟩:=A
  exact K _ _ _ (.I U) (aV (hz▸f)▸S) (λx x x=>U) λx x=>U) λu=>by
  refine Y u ?_
  rw[u]at f
  exact ff<|uP<|K _ _ _ (.i U) (aV f▸S) (λx x x=>U) λx x=>U)
end
def Zb(g:Gr)(C:List (List Itm))(s:ao)(X:List TR)(x:TR)(q:List LB×List TR)(p:Itm):Option (List LB×List TR):=bif aA (g.l p.1) x.2 then ob (i7 (Xu g C s X p) 200 (p.2,x.1,q.2)) λw=>ob C[w.1.2.1]? λJ=>ob (bA (Y7 g p w.1.2.1) J q.1) λlb=>M (lb,w.1.2.2)else M q
section
variable{m1:Nat}{call:CF}
theorem R7{K:ab}(T:LR d b a)(N:cy w0 a b n H)(l:d.C[i]?=M I)(q:∀k j,j<a->b (.t k j)=M (.l<|I.m iv)->j1 d.g I->K (ay k j) ⟨f,H,n⟩)(y:aO d.C.L 1000=Z):dj (ax 27 0 0) (.I<|.o i) K ⟨f,H,n⟩:=by
 obtain⟨c,ad,E,x,w,ls,T,A,u⟩:=T
 refine cz (T.6.u l) λv h s=> ?_
 refine jR (N.t U T.5) (Y T.6.l y) (gZ<|gL h) h ?_
 exact DE s λk j z e r p m=>Y e<|q k j r (sJ m▸p) (T.7 I<|aJ l).1
theorem aaO(hn:bM d.n)(G:r0 d.g)(hC:aO d.C.L 1000=Z)(hc:nO d.n call)(f:LK d s X A v c m l)(hp:p.1<d.g.p.L/\p.2<=(d.g.r p.1).L)(S:K2 d.n l m m1 P q.1 q.2 H n)(o:Zb d.g d.C s X x q p=M q')
  (K:∀z v7 v13 v14 u v16 v17 v18 H' n',z=.n\/z=.cont->K2 d.n l m m1 P q'.1 q'.2 H' n'->Q z ⟨yN A v a b c v7 (.I<|.o x.1) (sy d.n x.2) (ay 83 m1) (ay 87 P) (iv p) v13 v14 u v16 v17 v18,H',n'⟩):
  iK call Q ⟨yN A v a b c v7 (.I<|.o x.1) (sy d.n x.2) (ay 83 m1) (ay 87 P) (iv p) v13 v14 u v16 v17 v18,H,n⟩:=by
 obtain⟨cc,L⟩:=f.1.l
 have R:=(L.o S.1).6 p.1 p.2 hp.1 hp.2
 refine aM<|bY U R U<|Ic U U ?_
 rw[show dX (sy d.n<|d.g.l p.1) (sy d.n x.2)=aA (d.g.l p.1) x.2 from hn.1 _ _]
 refine cW o (λh o=> ?_) λh o=> ?_
 .rw[h]
  refine bc o λw h1 o=>bc o λJ h2 o=>bc o λlb h3 o=> ?_
  obtain rfl:=(sJ o)
  refine fx<|aE<|aM<|bY U R U<|fM U<|aE<|aM<|aE<|aM<|aaM hn G hC hc f hp S h1 λv7 u v16 H1 n1 S1=>aE<|R7 f.1 S1.1 h2 (λk j hj hl oJ=> ?_) hC
  have I:∀{H' n'},cy w0 l m n' H'->H' (.t k j)=M (.l<|J.m iv):=λN=>(N.3 _ _ hj).t hl
  refine bL (I S1.1)<|ei (λy=>iv) J _ (λy e=>yN A v a b c v7 (.I<|.o x.1) (sy d.n x.2) (ay 83 m1) (ay 87 P) (iv p) (.I<|.o w.1.1) (.I<|.o w.1.2.1) u v16 e.1 e.2) (λlb H' n'=>K2 d.n l m m1 P lb w.1.2.2 H' n') (Y7 d.g p w.1.2.1) h3 (cH λa H n h=>I h.1) (λlb e r lb' i H' n' K' R o hP T=> ?_) (λe H' n' hP=> ?_) S1 (g₀:=(v17,v18))
  .refine fM U<|aaN hn G f.1.l hp (oJ r<|aJ R) hP o λz v18 H'' hz E y y=> ?_
   rcases hz with rfl|rfl
   .exact T.1 (_,_) _ _ E
   .exact T.2 (_,_) _ _ E
  .exact gk<|K _ _ _ _ _ _ _ _ _ _ (.I U) hP
 .rw[h]
  revert K;refine rR (sJ o) ?_;intro K
  exact ff<|uP<|K _ _ _ _ _ _ _ _ _ _ (.i U) S
theorem aaP(hn:bM d.n)(G:r0 d.g)(hC:aO d.C.L 1000=Z)(hc:nO d.n call)(f:LK d s X v u c m l)(hI:d.C[x.1]?=M I)(S:K2 d.n l m m1 A q.1 q.2 H n)(P:bA (Zb d.g d.C s X x) I q=M L)
  (K:∀E r v13 v14 o v16 v17 v18 H' n',K2 d.n l m m1 A L.1 L.2 H' n'->Q .n ⟨yN v u a b c E (.I<|.o x.1) (sy d.n x.2) (ay 83 m1) (ay 87 A) r v13 v14 o v16 v17 v18,H',n'⟩):
  iL call Q ⟨yN v u a b c E (.I<|.o x.1) (sy d.n x.2) (ay 83 m1) (ay 87 A) r v13 v14 o v16 v17 v18,H,n⟩:=by
 refine R7 f.1 S.1 hI (λk j hj R oI=> ?_) hC
 refine bL ((λN=>(N.j hj).t R) S.1)<|ei (λy=>iv) I _ (λy e=>yN v u a b c e.1 (.I<|.o x.1) (sy d.n x.2) (ay 83 m1) (ay 87 A) e.2.1 e.2.2.1 e.2.2.2.1 e.2.2.2.2.1 e.2.2.2.2.2.1 e.2.2.2.2.2.2.1 e.2.2.2.2.2.2.2) (λq H' n'=>K2 d.n l m m1 A q.1 q.2 H' n') (Zb d.g d.C s X x) P (cH λa H n h=>(λN=>(N.j hj).t R) h.1) (λq e p L i H' n' K' hi P J T=>(aaO hn G hC hc f (oI p<|aJ hi) J P λz E v13 v14 o v16 v17 v18 H'' n'' hz w=> ?_)) (λe H' n' J=>gk<|K _ _ _ _ _ _ _ _ _ _ J) S (g₀:=(E,r,v13,v14,o,v16,v17,v18))
 rcases hz with rfl|rfl
 . exact T.1 (_,_,_,_,_,_,_,_) _ _ w
 . exact T.2 (_,_,_,_,_,_,_,_) _ _ w
end
abbrev IQ:=List TR×(TR->List TR)
def adI(q:IQ)(i:TR):Option IQ:=bif fw eqT i q.1 then M q else mQ (fits q.1.L) (q.1++[i],eQ eqT q.2 i [])
def adH(x:TR)(q:IQ)(i:TR):Option IQ:=bif fw eqT i q.1 then mQ (fits (q.2 i).L) (q.1,eQ eqT q.2 i<|q.2 i++[x])else aI
def Vn(x:TR)(q:IQ)(i:TR):Option IQ:=ob (adI q i) λa=>adH x a i
abbrev LQ:=List TR×(TR->List LB)×IQ
def i!(g:Gr)(C:List (List Itm))(s:ao)(X:List TR)(q:LQ)(x:TR):Option LQ:=ob C[x.1]? λI=>ob (bA (Zb g C s X x) I ([],[])) λr=>ob (bA (Vn x) r.2 q.2.2) λu=>mQ (!fw eqT x q.1&&fits q.1.L) (q.1++[x],eQ eqT q.2.1 x r.1,u)
inductive LT(d:LD)(a b:Nat)(nb:Nat)(Hb:Hp)(lk:List TR)(lbf:TR->List LB)(u:IQ)(lbl il:TR->Loc)(H:Hp)(n:Nat):Prop
 |mk (now:cy w0 nb Hb n H) (da:H (.t 82 a)=M (.d (lk.m λx=>(tv d.n x,.L (lbl x))))) (db:H (.t 84 b)=M (.d (u.1.m λx=>(tv d.n x,.L (il x))))) (la:∀x∈lk,∃j,lbl x=.t 83 j/\nb<=j/\j<n/\H (.t 83 j)=M (.l ((lbf x).m lv))) (lb_:∀x∈u.1,∃j,il x=.t 85 j/\nb<=j/\j<n/\H (.t 85 j)=M (.l ((u.2 x).m (tv d.n)))) (inj:∀x∈u.1,∀y∈u.1,il x=il y->x=y) (lt:nb<=a/\a<n/\nb<=b/\b<n)
theorem LT.c(T:LT d a b p o m k u i l H n)(N:cy w0 n H n' H'):LT d a b p o m k u i l H' n':=
 ⟨T.1.T N λy y y y=>U,(N.j T.7.2.1).t T.2,(N.j T.7.2.2.2).t T.3,λx h=>hM (T.4 x h) λj g f c e=>ie j g f (aH c N.1)<|(N.j c).t e,λx h=>hM (T.5 x h) λj g f c e=>ie j g f (aH c N.1)<|(N.j c).t e,T.6,T.7.1,aH T.7.2.1 N.1,T.7.2.2.1,aH T.7.2.2.2 N.1⟩
theorem LT.f(E:bM d.n)(T:LT d a b L J I C u A r H n)(w:fw eqT i u.1=D):LT d a b L J I C (u.1++[i],eQ eqT u.2 i []) A (eQ eqT r i<|.t 85 n) (aZ (aZ H (.t 85 n)<|.l []) (.t 84 b)<|.d<|gi (u.1.m λx=>(tv d.n x,V.L<|r x)) (tv d.n i)<|ay 85 n) (n+1):=by
 have k:=T.c (H':=aZ H (.t 85 n)<|.l []) (cy.s T.1.4).e
 have m:∀y∈u.1,y≠i:=λy g z=>(λh=>by rw[(fH<|lC E).M h]at w;exact bT w)<|z▸g
 refine⟨k.1.u k.7.2.2.1 k.7.2.2.2,k.2,?_,λx h=>hM (k.4 x h) λj q v p s=>ie j q v p s,λy g=> ?_,λy g z hz e=> ?_,k.7⟩
 .rw[aT,ox (lC E) (λx=>.L<|r x) i _ _ w]
  refine Y aK<|congrArg (λl=>M<|O.d l)<|congr (congrArg _<|d4 λy g=> ?_) ?_
  .exact Y (eW<|m y g) U
  .show _=[(tv d.n i,V.L<|eQ eqT r i (.t 85 n) i)]
   exact Y gx U
 .rcases bV.m g with c|c
  .refine hM (k.5 y c) λj q v p s=>(ie j ((eW<|m y c).t q) v p<|s.t ?_)
   show _=M (O.l<|(eQ eqT u.2 i [] y).m<|tv d.n)
   exact Y (eW<|m y c) U
  .refine Y (aX.m c)<|(ie n gx T.1.1 (a8 _)<|(aT _ _ _).t ?_)
   show _=M (O.l<|(eQ eqT u.2 i [] i).m<|tv d.n)
   refine Y gx ?_;rfl
 .have o:∀y∈u.1,r y≠.t 85 n:=λy g z=>by
   refine hM (T.5 y g) λj q v p s=> ?_
   have z:=q▸z;cases z;exact zF<|bZ (zQ 0) U p
  rcases bV.m g with c|c<;>rcases bV.m hz with f|f
  .rw[eW (m y c),eW<|m z f]at e;exact k.6 y c z f e
  .rw[aX.m f,eW<|m y c,gx]at e;exact absurd e<|o y c
  .rw[aX.m c,eW<|m z f,gx]at e;exact absurd e.s<|o z f
  .exact(aX.m c).t (aX.m f).s
theorem LT.h(T:LT d a b J I E o u m s H n)(r:i∈u.1):LT d a b J I E o (u.1,eQ eqT u.2 i l) m s (aZ H (s i)<|.l<|l.m<|tv d.n) n:=by
 refine hM (T.5 i r) λj e k g q=> ?_
 refine Y e<|⟨T.1.u k g,T.2,T.3,λx h=>hM (T.4 x h) λj e k g q=>ie j e k g q,λy p=>(hM (T.5 y p) λC f A w v=>ie C f A w ?_),T.6,T.7⟩
 by_cases c:y=i
 .subst c
  refine rR (Loc.t.inj<|e.s.t f).2 ?_
  rw[aT]
  show M (O.l<|l.m<|tv d.n)=M (O.l<|(eQ eqT u.2 y l y).m<|tv d.n)
  exact Y gx U
 .refine(bS _ _ λz=>c<|T.6 y p i r<|Y f<|Y e<|Y z U).t<|v.t ?_
  show _=M (O.l<|(eQ eqT u.2 i l y).m<|tv d.n)
  exact Y (eW c) U
def Cv(g:Gr)(C:List (List Itm))(s:ao)(X:List TR):Option ((TR->List LB)×IQ):=ob (bA (i! g C s X) X ([],λx=>[],[],λx=>[])) λq=>mQ (t8 q.1 X&&(fits X.L&&(match bA xJ X []with|some Y'=>t8 Y' X|none=>D))) q.2
def OffI(n:Nat)(H H':Hp):Prop:=∀k j,j<n->k≠84->k≠85->H' (.t k j)=H (.t k j)
section
variable{m1:Nat}{call:CF}{lb:List LB}
theorem aaQ(C:bM d.n)(T:LT d a b nb Hb lk A u w il H n)(m:Vn x u i=M u')
  (K:∀S H' n',n<=n'->LT d a b nb Hb lk A u' w S H' n'->OffI n H H'->Q .n ⟨yN v s a b c v7 (.I<|.o x.1) (sy d.n x.2) v10 q p v13 v14 o v16 v17<|tv d.n i,H',n'⟩):
  iO Q ⟨yN v s a b c v7 (.I<|.o x.1) (sy d.n x.2) v10 q p v13 v14 o v16 v17<|tv d.n i,H,n⟩:=by
 refine bc m λu1 e m=>cW m (λR m=>(ir (cj m) λhz P=> ?_)) λy m=>nS m;revert K;refine rR P ?_;intro K
 have step:∀{g I E},n<=E->LT d a b nb Hb lk A u1 w g I E->OffI n H I->iM Q ⟨yN v s a b c v7 (.I<|.o x.1) (sy d.n x.2) v10 q p v13 v14 o v16 v17<|tv d.n i,I,E⟩:=λ{g I E} N L O1=>by
  refine hM (L.5 i<|(fH<|lC C).m R) λj e1 e2 e3 e4=>(eY L.3 (fT _ _) (by rw[l9 (lC C) λx=>.L<|g x,R];rfl) ?_)
  refine Y e1<|fE e4<|gR U<|gA e4 (ba hz) ?_
  have T2:=L.h ((fH<|lC C).m R) (l:=u1.2 i++[x])
  rw[e1,aK]at T2
  exact K _ _ _ N T2 λk i X e f=>(bS _ _ λz=>f (by revert e f;refine Y (eH.Loc.t.inj z).1<|rR (eH.Loc.t.inj z).2 ?_;intro e f;rfl)).t<|O1 k i X e f
 refine aM<|CB T.3 (fT _ _) ?_
 rw[l9 (lC C) λx=>.L<|il x,uH]
 refine ot e (λh e=> ?_) λh e=> ?_
 .exact x8<|aE<|step (aG _) (aV e▸T) λy y y y y=>U
 .obtain⟨J,rfl⟩:=cj e
  refine((b9 (r:=.t 85 n) (T.1.4 _ _<|aG _) U<|ee T.3 (fT _ _) (ba J)<|aE<|step (d7 _) (T.f C h) λk i X e f=>(bS _ _ λz=>e (by revert f;refine Y (eH.Loc.t.inj z).1<|rR (eH.Loc.t.inj z).2 ?_;intro f;rfl)).t<|bS _ _ λz=>f (by refine Y (eH.Loc.t.inj z).1<|rR (eH.Loc.t.inj z).2 ?_;rfl)))
theorem aaR(hn:bM d.n)(T:LT d a b nb X S w u v l H n)(s:H (.t 87 z)=M (.l<|R.m<|tv d.n))(hm:z<n)(E:bA (Vn x) R u=M P)
  (K:∀v18 g H' n',n<=n'->LT d a b nb X S w P v g H' n'->OffI n H H'->Q .n ⟨yN r q a b c N (.I<|.o x.1) (sy d.n x.2) v10 (ay 87 z) p v13 v14 o v16 v17 v18,H',n'⟩):
  iP Q ⟨yN r q a b c N (.I<|.o x.1) (sy d.n x.2) v10 (ay 87 z) p v13 v14 o v16 v17 v18,H,n⟩:=by
 refine bL s (ei (λy=>tv d.n) R _ (λy e=>yN r q a b c N (.I<|.o x.1) (sy d.n x.2) v10 (ay 87 z) p v13 v14 o v16 v17 e) (λu H' n'=>∃l,LT d a b nb X S w u v l H' n'/\n<=n'/\OffI n H H') (Vn x) E (cH λu H' n' h=> ?_) (λu e i P k H' n' K' hi E C T'=> ?_) (λe H' n' C=> ?_)<|eI l T (lr) λy y y y y=>U)
 . exact eV h λl T f O=>(O _ _ hm (by decide) (by decide)).t s
 . refine eV C λl T f O=>fM U<|aaQ hn T E λg H'' n'' m A O'=>T'.1 _ _ _<|eI g A (aC f m) λk j L J I=>(O' k j (aH L f) J I).t<|O k j L J I
 . exact eV C λl T f O=>gk<|K _ _ _ _ f T O
theorem LT.S(v:bM d.n)(T:LT d a b s I g r u e E H n)(q:fw eqT x g=D)(C:H (.t 83 m1)=M (.l<|lb.m lv))(A:s<=m1)(w:m1<n):LT d a b s I (g++[x]) (eQ eqT r x lb) u (eQ eqT e x<|.t 83 m1) E (aZ H (.t 82 a)<|.d<|gi (g.m λx=>(tv d.n x,V.L<|e x)) (tv d.n x)<|ay 83 m1) n:=by
 have p:∀y∈g,y≠x:=λy f z=>(λh=>by rw[(fH<|lC v).M h]at q;exact bT q)<|z▸f
 refine⟨T.1.u T.7.1 T.7.2.1,?_,T.3,λy f=> ?_,λy f=>hM (T.5 y f) λj o m k i=>ie j o m k i,T.6,T.7⟩
 .rw[aT,ox (lC v) (λx=>.L<|e x) x _ _ q,aK]
  refine congrArg (λl=>M<|O.d l)<|congr (congrArg _<|d4 λy f=> ?_) ?_
  .exact Y (eW<|p y f) U
  .show _=[(tv d.n x,V.L<|eQ eqT e x (.t 83 m1) x)]
   exact Y gx U
 .rcases bV.m f with c|c
  .exact hM (T.4 y c) λj o m k i=>ie j ((eW<|p y c).t o) m k (by exact Y (eW<|p y c) i)
  .exact Y (aX.m c)<|ie m1 gx A w (by exact Y gx C)
theorem aaS(A:bM d.n)(G:r0 d.g)(hC:aO d.C.L 1000=Z)(hc:nO d.n call)(e:LK d s X v p c H n)(T:LT d a b nb Hb q.1 q.2.1 q.2.2 S il H n)(h:i! d.g d.C s X q x=M z)
 (K:∀y v10 o k v13 v14 j v16 v17 v18 m i H' n',n<=n'->LT d a b nb Hb z.1 z.2.1 z.2.2 m i H' n'->H' (.t 86 c)=M (.d<|X.m λx=>(tv d.n x,.I 1))->Q .n ⟨yN v p a b c y (.I<|.o x.1) (sy d.n x.2) v10 o k v13 v14 j v16 v17 v18,H',n'⟩):
 iQ call Q ⟨yN v p a b c y (.I<|.o x.1) (sy d.n x.2) v10 o k v13 v14 j v16 v17 v18,H,n⟩:=by
 refine bc h λI R h=>bc h λr P h=>bc h λu N h=> ?_
 revert K;refine rR ((cj h)).2 ?_;intro K
 obtain⟨w,z2⟩:=an ((cj h)).1
 have w:=by simpa using w
 have L:cy w0 n H (n+1) (aZ H (.t 83 n)<|.l []):=(cy.s T.1.4).e
 refine aM<|b9 (T.1.i<|lr) U<|fM U<|aE<|aM<|b9 (r:=.t 87<|n+1) (L.i<|lr) U<|fM U<|aE<|aM ?_
 refine aaP A G hC hc e R (⟨L.e,hA,hA,⟨du (zQ 59) U,⟨du (zQ 5) U,⟨du (zQ 34) U,du (zQ 15) U⟩⟩⟩⟩) P λy k v13 v14 j v16 v17 v18 H1 n1 f=>aE<|aM<|aaR A (T.c f.1) f.3 f.4.2.2.2 N λv18 i H2 n2 l J E=>aE ?_
 exact cg U<|cg U<|gR U<|ee J.2 (fT _ _) (ba z2)<|K _ _ _ _ _ _ _ _ _ _ _ i _ _ (aC f.1.1 l) (J.S A w ((E 83 n f.4.2.1 (by decide) (by decide)).t f.2) T.1.1<|aH f.4.2.1 l)<|(E 86 c (aH e.5.2.1 f.1.1) (by decide) (by decide)).t<|(f.1.j e.5.2.1).t e.3
theorem Oc(hn:bM d.n)(G:r0 d.g)(hC:aO d.C.L 1000=Z)(hc:nO d.n call)(T:LR d H n)(hs:H (.t 71 m)=M (.s<|s.m<|sy d.n))(l1:m<n)(hl:H (.t 70 k)=M (.l<|X.m<|tv d.n))(l2:k<n)(E:Cv d.g d.C s X=M r)
  (K:∀loc a b c I H' n',LT d a b n H X r.1 r.2 c I H' n'->Q (.r<|V.t [ay 82 a,ay 84 b]) ⟨loc,H',n'⟩):
  jr call Q ⟨[ax 20 0 0,ax 27 0 0,ay 70 k,ay 71 m,v4,v5,v6,v7,v8,v9,v10,A,z,v13,v14,w,v16,v17,v18],H,n⟩:=by
 refine bc E λq h1 E=> ?_
 obtain⟨hz,rfl⟩:=cj E
 refine OW hz λz1 z2 z3=> ?_
 rcases g1:bA xJ X []with _|Y';(rw[g1]at z3;exact bF z3);(
 rw[g1]at z3
 have hY:=ou.m z3
 subst hY
 have N1:cy w0 n H (n+1) (aZ H (.t 82 n)<|.d []):=(cy.s T.f).e
 have N2:cy w0 n H (n+1+1) (aZ (aZ H (.t 82 n)<|.d []) (.t 84<|n+1)<|.d []):=N1.e
 refine aM<|eJ (T.f _ _<|aG _)<|fM U<|aE<|aM<|eJ (N1.4 _ _<|aG _)<|fM U<|aE<|aM<|eJ (r:=.t 86<|n+1+1) (N2.4 _ _<|aG _)<|aE<|aM ?_
 have j:∀{n' H'},cy w0 n H n' H'->H' (.t 70 k)=M (.l<|Y'.m<|tv d.n):=λN=>(N.3 _ _ l2).t hl
 refine bL (j N2.e) (ei (λy=>tv d.n) Y' _ (λy e=>yN k m n (n+1) (n+1+1) e v8 v9 v10 A z v13 v14 w v16 v17 v18) (λl H' n'=>cy w0 n H n' H'/\n'=n+1+1+1/\H' (.t 86<|n+1+1)=M (.d<|l.m λx=>(tv d.n x,.I 1))/\H' (.t 82 n)=M (.d [])/\H' (.t 84<|n+1)=M (.d [])) xJ g1 (cH λa H n h=>j h.1) (λl e x l' i H' n' K' hi E v T=> ?_) (λe H1 n1 v=> ?_)<|⟨N2.e,U,((aT _ _ _)),((((aT _ _ _)))),((aT _ _ _))⟩)
 .refine U7 v λN u e1 e2 S=> ?_;subst u
  obtain⟨hz,rfl⟩:=cj E
  refine ee e1 (fT _ _) (ba (aU.m hz).2)<|T.1 _ _ _<|⟨((N.u (du (zQ 141) U)<|du (zQ 142) U)),U,?_,e2,S⟩
  rw[ox (lC hn) (λy=>.I 1) x _ _ (by simpa using(aU.m hz).1),aT,aK];rfl
 .refine U7 v λN u e1 e2 S=> ?_;subst u
  refine gk<|aE<|aM<|bL (j N) ?_
  have T0:LT d n (n+1) n H [] (λy=>[]) ([],λy=>[]) (λy=>.t 0 0) (λy=>.t 0 0) H1 (n+1+1+1):=⟨N,e2,S,λx h=>(nomatch h),λx h=>(nomatch h),λx h=>(nomatch h),⟨du (zQ 59) U,⟨du (zQ 60) U,⟨du (zQ 34) U,du (zQ 61) U⟩⟩⟩⟩
  refine ei (λy=>tv d.n) Y' _ (λy e=>yN k m n (n+1) (n+1+1) e.1 e.2.1 e.2.2.1 e.2.2.2.1 e.2.2.2.2.1 e.2.2.2.2.2.1 e.2.2.2.2.2.2.1 e.2.2.2.2.2.2.2.1 e.2.2.2.2.2.2.2.2.1 e.2.2.2.2.2.2.2.2.2.1 e.2.2.2.2.2.2.2.2.2.2.1 e.2.2.2.2.2.2.2.2.2.2.2) (λq H' n'=>∃c I,LT d n (n+1) n H q.1 q.2.1 q.2.2 c I H' n'/\n+1+1<n'/\H' (.t 86<|n+1+1)=M (.d<|Y'.m λx=>(tv d.n x,.I 1))) (i! d.g d.C s Y') h1 (cH λq H' n' h=> ?_) (λq e x q' i H' n' K' hi E v T'=> ?_) (λe H' n' v=> ?_) (rJ _ _ T0 (a8 _) e1) (g₀:=(e,v8,v9,v10,A,z,v13,v14,w,v16,v17,v18))
  .exact zc h λc I T y y=>j T.1
  .refine zc v λc I p f hd=>jf<|fM U<|fM U<|aaS hn G hC hc ⟨T.o p.1,(p.1.3 _ _ l1).t hs,hd,j p.1,ju (zQ 62) U l1 f,f,ju (zQ 62) U l2 f⟩ p E λv7 v10 A z v13 v14 w v16 v17 v18 L R H2 n2 J T2 P=>T'.1 (_,_,_,_,_,_,_,_,_,_,_,_) _ _<|rJ L R T2 (aH f J) P
  .refine zc v λc I p f hd=> ?_
   rw[ou.m z1]at p
   exact gk<|aE<|gR U<|K _ _ _ _ _ _ _ p)
end
def SG(u:IQ)(x:TR):List TR:=bif fw eqT x u.1 then u.2 x else[]
noncomputable def w9(k _ _:Nat):Bool:=aA k 90||aA k 91
inductive BE(nb:Nat)(Hb:Hp)(n:Nat)(H:Hp):Prop
 |mk (now:cy w9 nb Hb n H) (t90:∃j,H (.o 90 0 0)=M (.t j)) (t91:∃j,H (.o 91 0 0)=M (.t j))
theorem BE.T(N:BE d c n H)(M':cy w0 n H n' H')(h:∀k a b,w9 k a b=D->w0 k a b=D):BE d c n' H':=
 ⟨N.1.T M' h,j8 N.2 λj e=>⟨j,M'.t U e⟩,j8 N.3 λj e=>⟨j,M'.t U e⟩⟩
theorem BE.t(N:BE a d n H)(c:a<=m)(b:m<n):BE a d n (aZ H (.t k m) o):=
 ⟨N.1.u c b,j8 N.2 λj e=>⟨j,e⟩,j8 N.3 λj e=>⟨j,e⟩⟩
theorem BE.f(N:BE b a n H):∀k m,n<=m->H (.t k m)=aI:=N.1.4
theorem BE.l(N:BE a b n H):a<=n:=N.1.1
inductive G5(nm:aa)(X:List TR)(u:IQ)(nb c0 b k1 k2:Nat)(Hb:Hp)(fl0 il:TR->Loc)(fk:List TR)(fl:TR->Loc)(fc:TR->List Nat)(H:Hp)(n:Nat):Prop
 |mk (now:BE nb Hb n H) (dr:H (.t 77 c0)=M (.d (X.m λx=>(tv nm x,.L (fl0 x))))) (di:H (.t 84 b)=M (.d (u.1.m λx=>(tv nm x,.L (il x))))) (li:∀x∈u.1,∃j,il x=.t 85 j/\j<n/\H (.t 85 j)=M (.l ((u.2 x).m (tv nm)))) (q1:H (.t 81 k1)=M (.C 2 [ay 77 c0])) (q2:H (.t 81 k2)=M (.C 3 [ay 84 b])) (lf:∀y∈X,∃j,fl0 y=.t 73 j/\nb<=j/\j<n/\H (.t 73 j)=M (.l ((fc y).m (sy nm)))) (inj:∀y∈X,∀z∈X,fl0 y=fl0 z->y=z) (old:∀y∈fk,y∈X/\fl y=fl0 y) (lt:c0<n/\b<n/\k1<n/\k2<n)
theorem phF(hX:X.N)(hz:fits X.L=Z)(h1:s<=a')(h2:s<=b')(h3:s<=c')(h4:T<c'):Ph S X (SG u) a' b' c' Rl Fl (G5 S X u s T b k1 k2 Hb Q il):=⟨hX,
 hz,
 λR N=>⟨R.1.T N λw w w w=>U,(N.j R.10.1).t R.2,(N.j R.10.2.1).t R.3,λx h=>eV (R.4 x h) λj a d c=>eI j a (aH d N.1)<|(N.j d).t c,(N.j R.10.2.2.1).t R.5,(N.j R.10.2.2.2).t R.6,λx h=>hM (R.7 x h) λj a d c p=>ie j a d (aH c N.1)<|(N.j c).t p,R.8,R.9,aH R.10.1 N.1,aH R.10.2.1 N.1,aH R.10.2.2.1 N.1,aH R.10.2.2.2 N.1⟩,
 λ{P fl L H n k m o} R h J=>by
  have e:k≠84/\k≠85/\k≠81/\k≠73:=by rcases h with⟨rfl, -⟩|⟨rfl, -⟩|⟨rfl, -⟩<;>decide
  refine⟨R.1.t (by rcases h with⟨-,rfl⟩|⟨-,rfl⟩|⟨-,rfl⟩<;>assumption) J,(bS _ _ λz=> ?_).t R.2,(bS _ _ λz=>e.1 (by revert h e;refine rR (eH.Loc.t.inj z).1<|rR (eH.Loc.t.inj z).2 ?_;intro h e;rfl)).t R.3,λx h=>eV (R.4 x h) λj a d c=>eI j a d<|(bS _ _ λz=>e.2.1 (by revert h e;refine rR (eH.Loc.t.inj z).1<|rR (eH.Loc.t.inj z).2 ?_;intro h e;rfl)).t c,(bS _ _ λz=>e.2.2.1 (by revert h e;refine rR (eH.Loc.t.inj z).1<|rR (eH.Loc.t.inj z).2 ?_;intro h e;rfl)).t R.5,(bS _ _ λz=>e.2.2.1 (by refine rR (eH.Loc.t.inj z).1<|rR (eH.Loc.t.inj z).2 ?_;rfl)).t R.6,λx h=>hM (R.7 x h) λj a d c p=>ie j a d c<|(bS _ _ λz=>e.2.2.2 (by revert h;refine rR (eH.Loc.t.inj z).1<|rR (eH.Loc.t.inj z).2 ?_;intro h;rfl)).t p,R.8,R.9,R.10⟩
  revert h;refine rR (eH.Loc.t.inj z).1<|rR (eH.Loc.t.inj z).2 ?_;intro h
  rcases h with⟨h, -⟩|⟨h, -⟩|⟨-,h⟩
  .cases h
  .cases h
  .exact zF<|eM (zQ 1) U h4<|zG h,
 λ{P fl L H n y l} R I=>by
  obtain⟨f,E⟩:=R.9 y I
  refine hM (R.7 y f) λj a d c p=> ?_
  refine Y E<|Y a<|⟨R.1.t d c,R.2,R.3,λx h=>eV (R.4 x h) λj a d c=>eI j a d c,R.5,R.6,λz hz=>(hM (R.7 z hz) λi r C A v=>ie i r C A ?_),R.8,R.9,R.10⟩
  by_cases g:z=y
  .revert f a;refine rR g ?_;intro f a
   refine rR (Loc.t.inj<|a.s.t r).2 ?_
   rw[aT,gx]
  .rw[eW g]
   exact(bS _ _ λq=>g<|R.8 z hz y f<|Y r<|Y a<|Y q U).t v,
 λR=>R.1.f⟩
theorem adW{call:CF}(i:bM v):D? v X (SG u) (.t 81 L) (.t 81 J) (G5 v X u Q I b J L P p s) (AB call):=⟨λ{x E fl C H n K o} R h g k=>by
  refine hM (R.7 x h) λj f q m A=>JH<|JH<|Or.inl<|((ie (oo (V.L<|Loc.t 77 I) UA) R.5 (by kernel_rfl) U<|(eY R.2 (fT _ _) (by rw[l9 (lC i) λx=>.L<|p x,(fH<|lC i).M h,f];rfl)<|k j H n (.s R.1.f) m (λy d z=> ?_) A ⟨R.1,R.2,R.3,R.4,R.5,R.6,R.7,R.8,λy d=> ?_,R.10⟩)))
  .rw[(R.9 y d).2,<-f]at z
   exact g<|R.8 y (R.9 y d).1 x h z▸d
  .rcases bV.m d with a|a
   .obtain⟨l,w⟩:=R.9 y a
    exact⟨l,(eW λe=>g (by exact rR e a)).t w⟩
   .rw[aX.m a]
    exact⟨h,gx.t f.s⟩,
 λ{x E fl C H n K o} R h k=>by
  refine JH<|JH<|JH<|((ie (oo (V.L<|Loc.t 84 b) UA) R.6 (by kernel_rfl) U<|(qs R.3<|b9 (r:=.t 78 n) (R.1.f _ _<|aG _) U ?_)))
  have N:cy w0 n H (n+1) (aZ H (.t 78 n)<|.l []):=(cy.s R.1.f).e
  exact bC (λc=>by
   refine eV (R.4 x<|(fH<|lC i).m c) λj f q m=>DI U R.3 (fT _ _) (by rw[l9 (lC i) λx=>.L<|s x,c,f];rfl)<|k 85 j _ _ N U (dA q)<|m.t ?_
   delta SG;refine Y c ?_;rfl) λc=>by
   refine tK U U R.3 (fT _ _) (by rw[l9 (lC i) λx=>.L<|s x,c];rfl)<|k 78 n _ _ N U (a8 _)<|(aT H (.t 78 n)<|.l []).t ?_
   delta SG;refine Y c ?_;rfl⟩
theorem YL{d0 m1:Nat}(o:bM g)(m:f<=J)(R:G5 g X u y w b i h s e r [] e l H n)(I:H (.t 70 m1)=M (.l<|X.m<|tv g))(E:m1<n)(p:bA xJ X []=M X)(hz:fits X.L=Z)(C:AD X (SG u) f l=M q)
  (K:∀j c d H' n',n<=n'->TI g X n (n+1) (n+2) (G5 g X u y w b i h s e r) q d H' n'->Off n H H'->c=n+2->Q (.r<|ay 77 c) ⟨j,H',n'⟩):
  dT (J+1) 294 [ay 70 m1,ay 81 h,ay 81 i] (λv=>ck 6 v λx=>qT (λQ=>aS 6 λv=>Q<|.r v) Q .n) ⟨[v0,ay 70 m1,P,N,ay 81 i,ay 81 h,L],H,n⟩:=by
 have a:=R.1.l
 exact QL (Rdy:=G5 g X u y w b i h s e r) o (phF (LG o p) hz (bU (zQ 10) U a) (bU (zQ 24) U a) (bU (zQ 32) U a)<|bU (zQ 13) U R.10.1) (λk x=>adW o) (bU (zQ 268) U m) p R I E C λd H' n' a A z=>aE<|K _ _ d _ _ a A z U
theorem NA{m1:Nat}(hn:bM m)(T:f<=dd)(N:cy w9 S Hb n H)(P:∃j,H (.o 90 0 0)=M (.t j))(d:DL m X w S l v H n)(di:H (.t 84 b)=M (.d<|u.1.m λx=>(tv m x,.L<|L x)))(li:∀x∈u.1,∃j,L x=.t 85 j/\j<n/\H (.t 85 j)=M (.l<|(u.2 x).m<|tv m))(hb:b<n)(J:H (.o 91 0 0)=M (.t 3))(hl:H (.t 70 m1)=M (.l<|X.m<|tv m))(l1:m1<n)(hX:bA xJ X []=M X)(hz:fits X.L=Z)(hf:AD X (SG u) f v=M q)
  (K:∀s c i H' n' a' b' k1 k2,TI m X a' b' c (G5 m X u S w b k1 k2 Hb l L) q i H' n'->n<=n'->Off n H H'->Q (.r<|ay 77 c) ⟨s,H',n'⟩):
  Sl (dT<|dd+1) Q ⟨[v0,ay 70 m1,ay 77 w,ay 84 b,v4,v5,v6],H,n⟩:=by
 generalize g:dT (dd+1)=call
 refine aM<|eI _ (.h _) U<|Mv (r:=.t 81 n) J U (N.i<|lr)<|fM U<|aE<|aM<|eI _ (.t _<|.h _) U ?_
 have N1:=N.e (k:=81) (o:=.C 2 [ay 77 w]).p (k:=91) (a:=0) (b:=0) (o:=.t 4) U
 refine Mv (r:=.t 81<|n+1) (hA) U (N1.i<|lr)<|fM U<|aE<|aM<|cg U<|cg U<|cg U ?_
 have N2:=N1.e (k:=81) (o:=.C 3 [ay 84 b]).p (k:=91) (a:=0) (b:=0) (o:=.t 5) U
 subst g
 have R:G5 m X u S w b n (n+1) Hb l L [] l v (aZ (aZ (aZ (aZ H (.t 81 n)<|.C 2 [ay 77 w]) (.o 91 0 0)<|.t<|3+1) (.t 81<|n+1)<|.C 3 [ay 84 b]) (.o 91 0 0)<|.t<|4+1) (n+1+1):=
  ⟨⟨N2,j8 P λj e=>⟨j,(b8 U).t<|gY.t e⟩,⟨_,hA⟩⟩,d.1,di,λx h=>eV (li x h) λj I E C=>(eI j I (bU (zQ 7) U E) C),iw.t<|(hN λz=>by cases z).t<|hA,hA,λx h=>hM (d.4 x h) λj I E C e4=>(ie j I E (bU (zQ 7) U C) e4),d.5,λy hy=>(by cases hy),⟨bU (zQ 7) U d.2,⟨bU (zQ 7) U hb,⟨du (zQ 5) U,du (zQ 15) U⟩⟩⟩⟩
 exact YL (d0:=0) hn T R hl (bU (zQ 7) U l1) hX hz hf λs c i H' n' A T' O' hc=>by
  subst hc
  exact K _ _ i _ _ _ _ _ _ T' (bU (zQ 82) U A) λk j p hk=>(O' k j (bU (zQ 7) U p) hk).t<|(λk j p=>iw.t<|(hN λz=>by cases z;exact zF<|bZ (zQ 269) U p).t<|iw.t<|hN<|IU p) k j p
theorem Vf:dT (d+1) 403=gw dP (Sl<|dT d) 4 []:=by kernel_rfl
theorem vT(c:∀a b,q a b=Z↔a=b):eQ q f x v x=v:=by delta eQ;refine Y ((c x x).M U) ?_;rfl
theorem p7(c:∀a b,q a b=Z↔a=b)(h:y≠x):eQ q f x v y=f y:=by
 delta eQ
 exact bC (λe=>absurd ((c _ _).m e) h) λe=>by refine Y e ?_;rfl
theorem Kd{e w:j->V}(h:m=vs.L)(f:∀a H n,P a H n->H c=M (.d<|vs.m λb=>(e b,w b))):Goes (λx b=>.T (e b)<|.T (w b) .a) vs (λi=>.I (c,i,m)) ls P:=λi a g H n K d k=>mK c _ U (f a H n d) (qb (by rw[aD,h]))<|by
 rw[aN,qk,<-fG];exact k
theorem NQ{K:It->St->Prop}(h:σ.h a=M (.d b))(k:K (.I (a,0,b.L)) σ):Cj (.L a) K σ:=rJ a b U h k
theorem FG:Keyed (λs=>V.I<|.o s) aA:=⟨λa b=>oi a b,λa b=>beq_iff a b⟩
def Hm(u t:LB):Bool:=aA u.1 t.1&&eqT u.2 t.2
theorem jy(u t:LB):Hm u t=Z↔u=t:=by delta Hm;rw[d8,beq_iff,q6];exact XR.symm
abbrev AQ:=(Itm->List Nat)×(LB->List Nat)
def laN(q:AQ)(l:LB):Option AQ:=bif fw aA l.1 (q.1 l.2)then M q else mQ (fits (q.1 l.2).L) (eQ eqT q.1 l.2<|q.1 l.2++[l.1],eQ Hm q.2 l [])
def laA(l:LB)(q:AQ)(a:Nat):Option AQ:=bif has a (q.2 l)then M q else mQ (fits (q.2 l).L) (q.1,eQ Hm q.2 l<|q.2 l++[a])
def Om(g:Gr)(p:Itm):Bool:=bg p.1 g.p.L&&aO p.2 (g.r p.1).L
def h!(g:Gr)(b:TR->List Nat)(x:TR)(q:AQ)(l:LB):Option AQ:=bif Om g l.2 then ob (laN q l) λa=>bif fw aA l.1 (a.1 l.2)then bA (laA l) (b x) a else aI else aI
def laT(g:Gr)(b:TR->List Nat)(a:TR->List LB)(q:AQ)(x:TR):Option AQ:=bA (h! g b x) (a x) q
def Nu(q:TQ)(x:TR):List Nat:=bif fw eqT x q.f then q.c x else[]
def laM(g:Gr)(b:TR->List Nat)(a:TR->List LB)(X:List TR):Option AQ:=bA (laT g b a) X (λx=>[],λx=>[])
noncomputable def w4(k _ _:Nat):Bool:=aA k 4
inductive LA(d:LD)(cu:Nat)(cC:Hp)(q:AQ)(lo:LB->Loc)(H:Hp)(n:Nat):Prop
 |mk (now:cy w4 cu cC n H) (dk:∀p,Om d.g p=Z->H (.o 4 p.1 p.2)=M (.d ((q.1 p).m λs=>(.I (.o s),.L (lo (s,p)))))) (ls:∀p s,s∈q.1 p->∃j,lo (s,p)=.t 88 j/\cu<=j/\j<n/\H (.t 88 j)=M (.l ((q.2 (s,p)).m (sy d.n)))) (inj:∀p s p' s',s∈q.1 p->s'∈q.1 p'->lo (s,p)=lo (s',p')->(s,p)=(s',p'))
section
variable{lo:LB->Loc}
theorem LA.o(T:LA d b a q lo H n)(N:cy w0 n H n' H'):LA d b a q lo H' n':=
 ⟨T.1.T N λx x x x=>U,λp h=>N.t U<|(T.2 p h),λp s h=>hM (T.3 p s h) λj g f c e=>ie j g f (aH c N.1)<|(N.j c).t e,T.4⟩
theorem LA.e(T:LA d u r q lo H n)(y:fw aA l.1 (q.1 l.2)=D)(E:Om d.g l.2=Z):LA d u r (eQ eqT q.1 l.2<|q.1 l.2++[l.1],eQ Hm q.2 l []) (eQ Hm lo l<|.t 88 n) (aZ (aZ H (.t 88 n)<|.l []) (.o 4 l.2.1 l.2.2)<|.d<|gi ((q.1 l.2).m λs=>(V.I<|.o s,V.L<|lo (s,l.2))) (.I<|.o l.1)<|ay 88 n) (n+1):=by
 have f:=T.o (H':=aZ H (.t 88 n)<|.l []) (cy.s T.1.4).e
 have a:∀p s,s∈q.1 p->(s,p)≠l:=λp s h z=>(λh=>by rw[(fH FG).M (z▸h)]at y;exact bT y) h
 have c:∀p s,s∈eQ eqT q.1 l.2 (q.1 l.2++[l.1]) p->s∈q.1 p\/(s,p)=l:=λp s h=>by
  by_cases v:p=l.2
  .subst v
   rw[gx]at h
   rcases bV.m h with h|h
   .exact .I h
   .exact .i (by rw[aX.m h])
  .rw[eW v]at h;exact .I h
 refine⟨f.1.p U,λp v=> ?_,λp s h=> ?_,λp s m s' h h' e=> ?_⟩
 .by_cases b:p=l.2
  .subst b
   show _=M (O.d<|(eQ eqT q.1 l.2 (q.1 l.2++[l.1]) l.2).m _)
   rw[gx,aT,ox FG (λs=>.L<|lo (s,l.2)) l.1 _ _ y,aK]
   refine congrArg (λl=>M<|O.d l)<|congr (congrArg _<|d4 λs x=> ?_) ?_
   .exact Y (p7 jy<|a _ s x) U
   .show _=[(V.I<|.o l.1,V.L<|eQ Hm lo l (.t 88 n) l)]
    exact Y (vT jy) U
  .refine(bS _ _ λz=>b<|Dx (Loc.o.inj z).2.1 (Loc.o.inj z).2.2).t<|(f.2 p v).t ?_
   show _=M (O.d<|(eQ eqT q.1 l.2 (q.1 l.2++[l.1]) p).m _)
   exact Y (eW b)<|congrArg (λl=>M<|O.d l)<|d4 λs x=>(Y (p7 jy<|a _ s x) U)
 .rcases c p s h with h|h
  .exact hM (f.3 p s h) λj w C k A=>(ie j ((p7 jy<|a p s h).t w) C k<|A.t (by show _=M (O.l<|(eQ Hm q.2 l [] (s,p)).m _);exact Y (p7 jy<|a p s h) U))
  .exact Y h<|(ie n (vT jy) T.1.1 (a8 _)<|(aT _ _ _).t (by show _=M (O.l<|(eQ Hm q.2 l [] l).m _);refine Y (vT jy) ?_;rfl))
 .have i:∀p s,s∈q.1 p->lo (s,p)≠.t 88 n:=λp s h z=>by
   refine hM (T.3 p s h) λj w C k A=> ?_
   have z:=w▸z;revert f e k;refine rR (eH.Loc.t.inj z).2 ?_;intro f e k;exact zF<|bZ (zQ 0) U k
  rcases c p s h with h|h<;>rcases c m s' h' with h'|h'
  .rw[p7 jy (a p s h),p7 jy<|a m s' h']at e;exact f.4 p s m s' h h' e
  .rw[h',p7 jy<|a p s h,vT jy]at e;exact absurd e<|i p s h
  .rw[h,p7 jy<|a m s' h',vT jy]at e;exact absurd e.s<|i m s' h'
  .exact h.t h'.s
theorem LA.A(T:LA d b a q lo H n)(g:l.1∈q.1 l.2):LA d b a (q.1,eQ Hm q.2 l r) lo (aZ H (lo l)<|.l<|r.m<|sy d.n) n:=by
 refine hM (T.3 l.2 l.1 g) λj f v u w=> ?_
 refine Y f<|⟨T.1.u v u,λp h=>T.2 p h,λp s h=>(hM (T.3 p s h) λi e o m k=>ie i e o m ?_),T.4⟩
 by_cases c:(s,p)=l
 .subst c
  refine rR (Loc.t.inj<|f.s.t e).2 ?_
  rw[aT]
  show M (O.l<|r.m<|sy d.n)=M (O.l<|(eQ Hm q.2 (s,p) r (s,p)).m<|sy d.n)
  exact Y (vT jy) U
 .refine(bS _ _ λz=>c<|T.4 p s l.2 l.1 h g (by exact Y e<|Y z f.s)).t<|k.t ?_
  show _=M (O.l<|(eQ Hm q.2 l r (s,p)).m<|sy d.n)
  exact Y (p7 jy c) U
end
section
variable{lo:LB->Loc}{lbl:TR->Loc}
inductive LF(d:LD)(c:Nat)(tq:TQ)(fl:TR->Loc)(cC:Hp)(cu:Nat):Prop
 |mk (it:xH d.n d.g cC) (dF:cC (.t 77 c)=M (.d (tq.f.m λx=>(tv d.n x,.L (fl x))))) (lst:∀y∈tq.f,∃j,fl y=.t 73 j/\j<cu/\cC (.t 73 j)=M (.l ((tq.c y).m (sy d.n)))) (lt:c<cu)
theorem aa6{K:ab}(T:LA d c b q lo H n)(f:Om d.g l.2=Z)(e:fw aA l.1 (q.1 l.2)=Z)(k:K (.L<|lo l) ⟨a,H,n⟩):dj (ax 4 l.2.1 l.2.2) (.I<|.o l.1) K ⟨a,H,n⟩:=
 eY (T.2 l.2 f) U (by rw[l9 FG λs=>.L<|lo (s,l.2),e];rfl) k
theorem adO(hn:bM d.n)(F0:LF d c tq fl m b)(T:LA d b m q lo H n)(f:h! d.g (Nu tq) x q l=M q')
  (K:∀v7 v8 lo' H' n',LA d b m q' lo' H' n'->Q .n ⟨[ax 20 0 0,v1,ay 77 c,tv d.n x,v4,.I<|.o l.1,iv l.2,v7,v8],H',n'⟩):
  oV Q ⟨[ax 20 0 0,v1,ay 77 c,tv d.n x,v4,.I<|.o l.1,iv l.2,v7,v8],H,n⟩:=by
 refine cW f (λL f=>(bc f λq1 J f=>cW f (λhm f=> ?_) λy f=>nS f)) λy f=>nS f
 have X:=aU.m L
 have w:∀{q lo H n},LA d b m q lo H n->H (.o 3 l.2.1 l.2.2)=M (.i 135<|Ra d.n d.g l.2.1 l.2.2):=λT=>(T.1.2 _ _ _ U).t<|F0.1 l.2.1 l.2.2 (cb.M X.1)<|bh.M X.2
 have p:∀{lo1 I v},LA d b m q1 lo1 I v->aR oU kf Q ⟨[ax 20 0 0,v1,ay 77 c,tv d.n x,v4,.I<|.o l.1,iv l.2,v7,v8],I,v⟩:=λ{lo1 I v} T1=>by
  have dF:=(T1.1.3 _ _ F0.4).t F0.2
  have T2:=T1.o (H':=aZ I (.t 78 v)<|.l []) (cy.s T1.1.4).e
  have S:=(T2.1.3 _ _ F0.4).t F0.2
  refine aM<|qs dF<|b9 (r:=.t 78 v) (T1.1.4 _ _<|aG _) U ?_
  have A:∀k i,k=78/\i=v\/k=73/\i<b->aZ I (.t 78 v) (.l []) (.t k i)=M (.l<|(Nu tq x).m<|sy d.n)->kf Q ⟨[ax 20 0 0,v1,ay 77 c,tv d.n x,v4,.I<|.o l.1,iv l.2,ay k i,v8],aZ I (.t 78 v)<|.l [],v+1⟩:=λk i hki hl=>by
   refine bL hl ?_
   have hk:k≠88:=by rcases hki with⟨rfl, -⟩|⟨rfl, -⟩<;>decide
   refine ei (λy=>sy d.n) (Nu tq x) _ (λy e=>[ax 20 0 0,v1,ay 77 c,tv d.n x,v4,.I<|.o l.1,iv l.2,ay k i,e]) (λq H' n'=>LA d b m q lo1 H' n'/\q.1=q1.1/\H' (.t k i)=M (.l<|(Nu tq x).m<|sy d.n)) (laA l) f (cH λa H n h=>h.2.2) (λq e s q' j H' n' K' hi f hP T'=>(sk hP λE R u=> ?_)) (λe H' n' hP=>gk<|K _ _ _ _ _ hP.1)<|kb T2 U hl
   have C:fw aA l.1 (q.1 l.2)=Z:=by exact Y R hm
   have P:=(fH FG).m C
   refine hM (E.3 l.2 l.1 P) λjj f1 f2 f3 f4=> ?_
   refine fM U ?_
   refine bY U (w E) U<|aa6 E L C<|Y f1<|pF f4 U (je _) ?_
   refine Y (g5 hn _ _) ?_
   refine ot f (λh f=> ?_) λh f=> ?_
   .obtain rfl:=(sJ f)
    skip
    exact T'.1 _ _ _<|kb E R u
   .revert T';refine rR ((cj f)).2 ?_;intro T'
    refine Y h ?_
    refine bY U (w E) U<|aa6 E L C<|Y f1<|fE f4<|gA f4 (ba ((cj f)).1) ?_
    have T4:=E.A P (r:=q.2 l++[s])
    rw[f1,aK]at T4
    exact T'.1 _ _ _<|kb T4 R<|(bS _ _ λz=>hk (by revert u;refine Y (eH.Loc.t.inj z).1<|rR (eH.Loc.t.inj z).2 ?_;intro u;rfl)).t u
  cases N:fw eqT x tq.f with
  |true=>
   refine eV (F0.3 x<|(fH<|lC hn).m N) λj R e2 e3=>DI U S (fT _ _) (by rw[l9 (lC hn) λx=>.L<|fl x,N,R];rfl)<|aE<|A _ _ (.i ⟨U,e2⟩)<|(T2.1.3 _ _ e2).t<|e3.t ?_
   delta Nu;refine Y N ?_;rfl
  |false=>
   refine tK U U S (fT _ _) (by rw[l9 (lC hn) λx=>.L<|fl x,N];rfl)<|aE<|A _ _ (.I ⟨U,U⟩)<|(aT _ _ _).t ?_
   delta Nu;refine Y N ?_;rfl
 refine aM<|bY U (w T) U<|CB (T.2 l.2 L) U ?_
 rw[l9 FG λs=>.L<|lo (s,l.2),uH]
 refine ot J (λh J=> ?_) λh J=> ?_
 .exact x8<|aE<|p<|aV J▸T
 .revert p;refine rR ((cj J)).2 ?_;intro p
  exact((b9 (r:=.t 88 n) (T.1.4 _ _<|aG _) U<|bY U (w<|T.o (cy.s T.1.4).e) U<|ee (T.2 l.2 L) U (ba ((cj J)).1)<|aE<|p<|T.e h L))
theorem Vu{call:CF}(hn:bM d.n)(F0:LF d c z fl k b)(T:LA d b k q lo k b)(ha:a<b)(L:k (.t 82 a)=M (.d<|X.m λx=>(tv d.n x,.L<|lbl x)))(la:∀x∈X,∃j,lbl x=.t 83 j/\j<b/\k (.t 83 j)=M (.l<|(p x).m lv))(r:bA (laT d.g (Nu z) p) X q=M v)
  (K:∀u n H' n',LA d b k v n H' n'->Q .n ⟨u,H',n'⟩):
  qu call Q ⟨[ax 20 0 0,ay 82 a,ay 77 c,v3,v4,v5,v6,J,I],k,b⟩:=by
 refine NQ L<|ei _ X _ (λy e=>[ax 20 0 0,ay 82 a,ay 77 c,e.1,e.2.1,e.2.2.1,e.2.2.2.1,e.2.2.2.2.1,e.2.2.2.2.2]) (λq H' n'=>∃lo,LA d b k q lo H' n') (laT d.g (Nu z) p) r (Kd (e:=tv d.n) (w:=λx=>.L<|lbl x) (aD ..) λq H' n' h=> ?_) (λq e x v i H' n' K' H r m T'=> ?_) (λe H' n' m=> ?_) ⟨lo,T⟩ (g₀:=(v3,v4,v5,v6,J,I))
 .obtain⟨lo,T⟩:=h;exact(T.1.3 _ _ ha).t L
 .obtain⟨lo,E⟩:=m
  refine eV (la x<|aJ H) λj S C A=> ?_
  refine Y S (jf<|fM U<|bL ((E.1.3 _ _ C).t A)<|ei (γ:=V×V×V×V) (λy=>lv) (p x) _ (λy f=>[ax 20 0 0,ay 82 a,ay 77 c,tv d.n x,ay 83 j,f.1,f.2.1,f.2.2.1,f.2.2.2]) (λq H' n'=>∃lo,LA d b k q lo H' n') (h! d.g (Nu z) x) r (cH λq H' n' h=> ?_) (λq f l v i H' n' R H r m s=> ?_) (λf H' n' m=> ?_) ⟨lo,E⟩)
  .obtain⟨lo,T⟩:=h;exact(T.1.3 _ _ C).t A
  .obtain⟨lo,P⟩:=m
   exact jf<|adO hn F0 P r λJ I n H' n' N=>s.1 (_,_,_,_) _ _ ⟨n,N⟩
  .exact gk<|T'.1 (_,_,f) _ _ m
 .obtain⟨lo,T⟩:=m;exact gk<|K _ _ _ _ T
end
def Lw(call:CF):Prop:=∀{d:LD} {X:List TR} {s:ao} {n a m1:Nat} {H:Hp} {Q:ab} {b:aq},bM d.n->r0 d.g->aO d.C.L 1000=Z->LR d H n->H (.o 90 0 0)=M (.t 0)->H (.t 70 m1)=M (.l<|X.m<|tv d.n)->m1<n->H (.t 71 a)=M (.s<|s.m<|sy d.n)->a<n->fits X.L=Z->readM d.g d.C s X=Z->
 (∀c fl H' n',cy w90 n H n' H'->H' (.o 90 0 0)=M (.t 2)->DL d.n X c n fl (LY d.g d.C) H' n'->Q (ay 77 c) ⟨b,H',n'⟩)->call 396 [ax 20 0 0,ax 27 0 0,ay 70 m1,ay 71 a] Q ⟨b,H,n⟩
theorem VT(p:∀k,d0<=k->x? (dT k))(o:∀k,d0<=k->I? (dT k))(n:∀k,d0<=k->∀m,gK m<|dT k)(b:d0+1<=l):Lw (dT<|l+2):=λj G i T a g f e d hz c K=>Y Vg ⟨U,OB j G i p o (λk h=>n k h _) b T a g f e d hz c λx=>K⟩
def PW(call:CF):Prop:=∀{d:LD} {X:List TR} {s:ao} {r:(TR->List LB)×IQ} {n e c:Nat} {H:Hp} {Q:ab} {f:aq},bM d.n->r0 d.g->aO d.C.L 1000=Z->LR d H n->H (.t 71 e)=M (.s<|s.m<|sy d.n)->e<n->H (.t 70 c)=M (.l<|X.m<|tv d.n)->c<n->Cv d.g d.C s X=M r->
 (∀a b h i H' n',LT d a b n H X r.1 r.2 h i H' n'->Q (V.t [ay 82 a,ay 84 b]) ⟨f,H',n'⟩)->call 389 [ax 20 0 0,ax 27 0 0,ay 70 c,ay 71 e] Q ⟨f,H,n⟩
theorem VG(k:Dt (dT d))(j:∀i,gK i<|dT d):PW (dT<|d+1):=λh G g T f e c b a K=>Y (show dT (d+1) 389=gw fh (jr<|dT d) 4 []from by kernel_rfl) ⟨U,Oc h G g ⟨k,j _⟩ T f e c b a λx=>K⟩
def PK(f:Nat)(call:CF):Prop:=∀{a:aa} {X:List TR} {u:IQ} {n l k b m1:Nat} {m H:Hp} {g i:TR->Loc} {e:TR->List Nat} {q:TQ} {v0:Loc} {Q:ab} {d:aq},bM a->cy w9 l m n H->(∃j,H (.o 90 0 0)=M (.t j))->DL a X k l g e H n->H (.t 84 b)=M (.d<|u.1.m λx=>(tv a x,.L<|i x))->(∀x∈u.1,∃j,i x=.t 85 j/\j<n/\H (.t 85 j)=M (.l<|(u.2 x).m<|tv a))->b<n->H (.o 91 0 0)=M (.t 3)->H (.t 70 m1)=M (.l<|X.m<|tv a)->m1<n->bA xJ X []=M X->fits X.L=Z->AD X (SG u) f e=M q->
 (∀c h H' n' v s r p,TI a X v s c (G5 a X u l k b r p m g i) q h H' n'->n<=n'->Off n H H'->Q (ay 77 c) ⟨d,H',n'⟩)->call 403 [.L v0,ay 70 m1,ay 77 k,ay 84 b] Q ⟨d,H,n⟩
theorem Vh(d:f<=n):PK f (dT<|n+2):=λm N c a l k j b i h g hz e K=>Y Vf ⟨U,NA m d N c a l k j b i h g hz e λx=>K⟩
def LaC(call:CF):Prop:=∀{d:LD} {e a c:Nat} {b:Hp} {m:TQ} {fl i:TR->Loc} {lo:LB->Loc} {q l:AQ} {h:TR->List LB} {X:List TR} {Q:ab} {f:aq},bM d.n->LF d c m fl b e->LA d e b q lo b e->a<e->b (.t 82 a)=M (.d<|X.m λx=>(tv d.n x,.L<|i x))->(∀x∈X,∃j,i x=.t 83 j/\j<e/\b (.t 83 j)=M (.l<|(h x).m lv))->bA (laT d.g (Nu m) h) X q=M l->
 (∀k H' n',LA d e b l k H' n'->Q .N ⟨f,H',n'⟩)->call 410 [ax 20 0 0,ay 82 a,ay 77 c] Q ⟨f,b,e⟩
theorem aaB(d:Nat):LaC (dT<|d+1):=λf F0 T e c b a K=>Y (show dT (d+1) 410=gw hW (qu<|dT d) 3 []from by kernel_rfl) ⟨U,Vu f F0 T e c b a λx=>K⟩
def Cn(g:Gr)(C:List (List Itm)):Option AQ:=ob (Cy g) λs=>ob (zZ g C) λX=>bif readM g C s X&&(fits X.L&&aO C.L 1000)then ob (Cv g C s X) λr=>ob (AD X (SG r.2) 40<|LY g C) λq=>laM g (Nu q) r.1 X else aI
noncomputable def p!(k _ _:Nat):Bool:=aA k 4||aA k 90||aA k 91
inductive LA0(d:LD)(nb:Nat)(q:AQ)(lo:LB->Loc)(H:Hp)(n:Nat):Prop
 |mk (dk:∀p,Om d.g p=Z->H (.o 4 p.1 p.2)=M (.d ((q.1 p).m λs=>(.I (.o s),.L (lo (s,p)))))) (ls:∀p s,s∈q.1 p->∃j,lo (s,p)=.t 88 j/\nb<=j/\j<n/\H (.t 88 j)=M (.l ((q.2 (s,p)).m (sy d.n))))
def Lj(call:CF):Prop:=∀{d:LD} {q:AQ} {n:Nat} {H:Hp} {Q:ab} {a:aq},bM d.n->r0 d.g->LR d H n->H (.o 90 0 0)=M (.t 0)->H (.o 91 0 0)=M (.t 3)->(∀p,Om d.g p=Z->H (.o 4 p.1 p.2)=M (.d []))->Cn d.g d.C=M q->
 (∀lo H' n',LA0 d n q lo H' n'->cy p! n H n' H'->(∃j,H' (.o 90 0 0)=M (.t j))/\(∃j,H' (.o 91 0 0)=M (.t j))->Q .N ⟨a,H',n'⟩)->call 417 [ax 20 0 0,ax 27 0 0] Q ⟨a,H,n⟩
theorem KL.l(S:KL b a k m o H n):m<n:=by
 by_cases h:m<n
 .exact h
 .cases(S.1.4 k m<|ko.m h).s.t S.2
theorem NX{call:CF}(hN:XQ call)(hT:JM call)(hR:Lw call)(hL:PW call)(hF:PK 40 call)(hA:LaC call)(S:bM d.n)(G:r0 d.g)(T:LR d H n)(h90:H (.o 90 0 0)=M (.t 0))(h91:H (.o 91 0 0)=M (.t 3))(h4:∀p,Om d.g p=Z->H (.o 4 p.1 p.2)=M (.d []))(m:Cn d.g d.C=M q)
  (K:∀loc lo H' n',LA0 d n q lo H' n'->cy p! n H n' H'->(∃j,H' (.o 90 0 0)=M (.t j))/\(∃j,H' (.o 91 0 0)=M (.t j))->Q .n ⟨loc,H',n'⟩):lO call Q ⟨[ax 20 0 0,ax 27 0 0,v2,v3,v4,v5,v6,v7],H,n⟩:=by
 refine bc m λs e1 m=>bc m λX e2 m=>cW m (λe3 m=>bc m λr e4 m=>bc m λtq e5 e6=>OW e3 λe3 zX hC=> ?_) λz m=>nS m
 have hX:bA xJ X []=M X:=by
  refine bc e4 λq h1 h2=> ?_
  have z3:=(aU.m (aU.m (cj h2).1).2).2
  rcases g1:bA xJ X []with _|Y';(rw[g1]at z3;exact bF z3);(rw[g1]at z3;exact Y (ou.m z3) U)
 obtain⟨c,L⟩:=T.l
 refine aM<|dO L.1 ⟨U,i3 U<|hN T S G e1 T.f λH1 n1 hlt S1=>fM U<|aE<|aM ?_⟩
 have T1:=T.o S1.1
 have L1:=L.o S1.1
 refine dO L1.1 ⟨U,cg U<|i3 U<|hT T1 S G e2 λH2 n2 A=>fM U<|aE<|aM ?_⟩
 have T2:=T1.o A.1
 have L2:=L1.o A.1
 have s2:=(A.1.3 _ _ hlt).t S1.2
 have N2:=S1.1.T A.1 λz z z z=>U
 have f:=A.l
 have N:=qI hlt f
 refine dO L2.1 ⟨U,cg U<|cg U<|cg U<|i3 U<|hR S G hC T2 ((N2.2 _ _ _ U).t h90) A.2 f s2 N zX e3 λc0 fl0 H3 n3 J t3 R=>fM U<|aE<|aM ?_⟩
 have T3:=T2.K J λk a b h=>zq h U
 obtain⟨cc,L3⟩:=T3.l
 refine dO L3.1 ⟨U,cg U<|cg U<|cg U<|i3 U ?_⟩
 have hn3:=aH N J.1
 have w:=aH f J.1
 refine hL S G hC T3 ((J.3 _ _ N).t s2) hn3 ((J.3 _ _ f).t A.2) w e4 λa b lbl il H4 n4 i=>jf<|fM U<|fM U<|aE<|aM ?_
 have N24:cy w9 n2 H2 n4 H4:=(J.l λk a b h=>(bp.m h).1).T i.1 λz z z z=>U
 have L4:=L3.o i.1
 refine dO L4.1 ⟨U,cg U<|cg U<|cg U<|i3 U<|hF S N24 ⟨2,(i.1.2 _ _ _ U).t t3⟩ ⟨(i.1.3 _ _ R.2).t R.1,aH R.2 i.1.1,R.3,λy hy=>hM (R.4 y hy) λj I f2 u E=>ie j I f2 (aH u i.1.1)<|(i.1.3 _ _ u).t E,R.5⟩ i.3 (λx h=>hM (i.5 x h) λj I f2 u E=>eI j I u E) i.7.2.2.2 ((i.1.2 _ _ _ U).t<|(J.2 _ _ _ U).t<|(N2.2 _ _ _ U).t h91) ((N24.3 _ _ f).t A.2) (aH w i.1.1) hX zX e5 λcF fl' H5 n5 a' b' k1 k2 P v O5=>fM U<|aE ?_⟩
 have l:=P.1.1.1
 refine dO ((l.2 _ _ _ U).t L2.1) ⟨U,cg U<|cg U<|i3 U ?_⟩
 have N5:cy p! n H n5 H5:=(N2.l λk a b h=>U).T l λk a b h=>by
  obtain⟨h1,h2⟩:=bp.m h
  exact bp.M ⟨(bp.m h1).2,h2⟩
 refine hA (q:=(λz=>[],λz=>[])) (lo:=λz=>.t 0 0) S ⟨λk j h1 h2=>(l.2 _ _ _ U).t<|L2.6 k j h1 h2,P.4,P.5,P.7.2.2⟩ ⟨.s l.4,λp hp=>(l.2 _ _ _ U).t<|(N2.2 _ _ _ U).t<|h4 p hp,λp s h=>(nomatch h),λp s p' s' h=>nomatch h⟩ (aH i.7.2.1 v) ((O5 _ _ i.7.2.1 U).t i.2) (λx hx=> ?_) e6 λlo' H6 n6 T6=> ?_
 .exact hM (i.4 x hx) λj I f2 u E=>eI j I (aH u v)<|(O5 _ _ u U).t E
 .exact K _ lo' _ _ ⟨T6.2,λp s h=>hM (T6.3 p s h) λj I f2 u E=>ie j I (aC N5.1 f2) u E⟩ (N5.T T6.1 λk a b h=>(bp.m (bp.m h).1).1) ⟨j8 P.1.1.2 λj e=>⟨j,(T6.1.2 _ _ _ U).t e⟩,j8 P.1.1.3 λj e=>⟨j,(T6.1.2 _ _ _ U).t e⟩⟩
theorem Vv(hN:XQ (dT d))(j:JM (dT d))(i:Lw (dT d))(h:PW (dT d))(g:PK 40 (dT d))(hA:LaC (dT d)):Lj (dT<|d+1):=λf G T b a e c K=>Y (show dT (d+1) 417=gw fW (lO<|dT d) 2 []from by kernel_rfl) ⟨U,NX hN j i h g hA f G T b a e c λx=>K⟩
def nW{b:Type}(l:List (Nat×b))(a:Nat):Option b:=l.R aI λe _ c=>bif aA e.1 a then M e.2 else c
section
variable(hn:bM nm)(f:β->V)
include hn
theorem Rh(a:Nat):∀l,eK (l.m λe=>(sy nm e.1,f e.2)) (sy nm a)=(nW l a).m f
 :=λc=>c.R U λe r b=>by
  show(bif jc (nm e.1) (nm a)then M (f e.2)else eK (r.m λe=>(sy nm e.1,f e.2)) (sy nm a))=(bif aA e.1 a then M e.2 else nW r a).m f
  rw[hn.1,b]
  rcases aA e.1 a with _|_<;>rfl
theorem xf(a:Nat)(v:V):∀l,nW l a=aI->gi (l.m λe=>(sy nm e.1,f e.2)) (sy nm a) v=(l.m λe=>(sy nm e.1,f e.2))++[(sy nm a,v)]
 :=λc=>c.R (λx=>U) λe r b=>by
  show(bif aA e.1 a then M e.2 else nW r a)=aI->(bif jc (nm e.1) (nm a)then _ else _::gi (r.m λe=>(sy nm e.1,f e.2)) (sy nm a) v)=_
  rw[hn.1]
  rcases aA e.1 a with _|_;(exact λh=>congrArg (oo _)<|b h);(exact λh=>sN h)
end
abbrev SA:=List (Nat×Int)×List (Nat×Itm)
def ptR(p:Itm)(q:SA)(a:Nat):Option SA:=mQ ((nW q.1 a).I&&((nW q.2 a).I&&(fits q.1.L&&fits q.2.L))) (q.1++[(a, -(aY p.1))],q.2++[(a,p)])
def DG(a:Bool)(g:Gr)(b:AQ)(c:aa)(st:Nat)(p:Itm):Option (List Nat):=bif a then(bif fw aA st (b.1 p)then M (b.2 (st,p))else aI)else(bif has (g.l p.1) g.n then M (c<|g.l p.1)else aI)
def Py(a:Bool)(g:Gr)(C:List (List Itm))(c:AQ)(b:aa)(st:Nat)(q:SA)(p:Itm):Option SA:=bif aA p.2 (g.r p.1).L then(bif aA (g.l p.1) 8 then mQ ((nW q.1 1).I&&((nW q.2 1).I&&(fits q.1.L&&fits q.2.L))) (q.1++[(1,0)],q.2++[(1,p)])else ob (DG a g c b st p) λl=>bA (ptR p) l q)else(bif has (uO g p) g.t then ob (xe g C st<|uO g p) λJ=>ob (l7 J C 0) λj=>mQ ((nW q.1<|uO g p).I&&((nW q.2<|uO g p).I&&(fits q.1.L&&fits q.2.L))) (q.1++[(uO g p,aY j)],q.2++[(uO g p,p)])else M q)
inductive PB(d:LD)(qa:AQ)(lo:LB->Loc)(nb:Nat)(s0c:Nat)(Fo:aa)(H:Hp)(n:Nat):Prop
 |mk (lr:LR d H n) (la:LA0 d nb qa lo H n) (fo:G0 d.n d.g s0c Fo H)
noncomputable def kPB(k:Nat):Bool:=kLR k||aA k 4||aA k 6||aA k 11
theorem PB.K{lo:LB->Loc}(S:PB d q lo o e m H n){W:Nat->Nat->Nat->Bool}(N:cy W n H n' H')(c:∀k a b,kPB k=Z->W k a b=D):PB d q lo o e m H' n':=
 ⟨S.1.K N λk a b h=>c k a b (by delta kPB;refine Y h ?_;rfl),⟨λp h=>N.t (c _ _ _ U)<|S.2.1 p h,λp s h=>hM (S.2.2 p s h) λj l i f g=>ie j l i (aH f N.1)<|(N.j f).t g⟩,⟨N.t (c _ _ _ U) S.3.1,λa h=>N.t (c _ _ _ U)<|S.3.2 a h⟩⟩
section
variable{lo:LB->Loc}
theorem ZY(v:V):MV (j9 a 13 v)=1:=by delta MV;rw[fe,if_pos U]
theorem tX.R{st:V}{ad:ag}(A:tX C g st m c ad H)(h:H (.o 2 k 0)=M (.i 100 y))(E:k<g.p.L):tX C g st m c ad (aZ H (.o 2 k 0)<|.i 100<|j9 y 13<|.I i):=by
 refine⟨A.1,A.2,A.3,A.4,A.5,λa h=>A.6 a h,λk j s r=>A.7 k j s r,λk j s r w=>A.8 k j s r w,λx u=> ?_⟩
 by_cases l:x=k
 .subst l
  refine QO (A.9 x u) λd a b c e f=>rR (O.i.inj<|sJ<|a.s.t h).2<|⟨_,hA,((b.p (by decide))),((by rw[fe,if_neg (by decide)];exact c)),((.i ⟨i,by rw[fe,if_pos U]⟩)),?_⟩
  rw[ZY,fe,if_neg (by decide)]
  have t:(j9 d 13<|.I i).L<=d.L+(1 - MV d):=by
   rcases e with e|⟨j,e⟩
   .have:MV d=0:=by delta MV;exact Y e U
    exact Y this<|xV _ _ _
   .rw[Ht e];exact kW _ _
  have:=De d
  refine f.e (λq=>ir q λp n=> ?_) λq=>sk q λp n v=> ?_
  .exact .I ⟨p,aC t<|aC (cm n _)<|Y (ew _ _ _)<|Y (qj this)<|aG _⟩
  .exact .i ⟨p,n,aC t<|aC (cm v _)<|Y (ew _ _ _)<|Y (qj this)<|aG _⟩
 .exact cz (A.9 x u) λd a b=>br d ((bS _ _ λz=>l (by refine rR (eH.Loc.o.inj z).2.1 ?_;rfl)).t a) b
theorem LR.r(T:LR d H n)(h:H (.o 2 k 0)=M (.i 100 q))(p:k<d.g.p.L):LR d (aZ H (.o 2 k 0)<|.i 100<|j9 q 13<|.I i) n:=by
 obtain⟨c,ad,l,e,b,ls,T,j,a⟩:=T
 exact⟨c,ad,l,e,b,ls,⟨T.1.R h p,T.2,T.3.K lr lr (λx x x=>iw) (b8 U) λm=>b8 U,⟨T.4.1,T.4.2,T.4.3⟩,T.5,T.6.q lr λx x x=>iw,T.7,.s λk m f=>T.8.4 k m f⟩,λk h=>(hN λz=>by cases z).t<|j k h,a⟩
theorem PB.R(S:PB d u lo t b r H n)(h:H (.o 2 k 0)=M (.i 100 q))(m:k<d.g.p.L):PB d u lo t b r (aZ H (.o 2 k 0)<|.i 100<|j9 q 13<|.I i) n:=
 ⟨S.1.r h m,⟨λp h=>S.2.1 p h,λp s h=>hM (S.2.2 p s h) λj l f e c=>ie j l f e c⟩,⟨S.3.1,λa h=>S.3.2 a h⟩⟩
end
noncomputable def wR(st k a b:Nat):Bool:=wG k a b||((aA k 31||aA k 32||aA k 33)&&aA a st)
theorem TB{st k:Nat}(h:(aA k 31||aA k 32||aA k 33)=Z):wR st k st 0=Z:=by delta wR;rw[h,bR st,XC];rfl
inductive RS(d:LD)(qa:AQ)(lo:LB->Loc)(nb s0c:Nat)(Fo:aa)(cu:Nat)(cC:Hp)(st:Nat)(o3:O)(q:SA)(H:Hp)(n:Nat):Prop
 |mk (now:cy (wR st) cu cC n H) (pb:PB d qa lo nb s0c Fo H n) (da:H (.o 31 st 0)=M (.d (q.1.m λe=>(sy d.n e.1,.I e.2)))) (dp:H (.o 32 st 0)=M (.d (q.2.m λe=>(sy d.n e.1,iv e.2)))) (dg:H (.o 33 st 0)=M o3)
noncomputable abbrev Bi(st:Nat)(v8 v11 v12 v13 v14 v15 v16 v17 v18 v19 v20 v21 v22 v23 v24 v25 v26 v27 v28 v29 v30:V):List V:=
 [ax 20 0 0,ax 1 1 0,ax 1 8 0,ax 22 0 0,ax 21 0 0,ax 30 0 0,ax 27 0 0,.I (.o st),v8,ax 31 st 0,ax 32 st 0,v11,v12,v13,v14,v15,v16,v17,v18,v19,v20,v21,v22,v23,v24,v25,v26,v27,v28,v29,v30]
theorem Ib(q:KB D σ):cw .IsNot .N .N KB σ:=⟨U,q⟩
section
variable{lo:LB->Loc}{st:Nat}
theorem RS.o(S:RS d h lo g c f b a st e q H n)(N:cy w0 n H n' H'):RS d h lo g c f b a st e q H' n':=
 ⟨S.1.T N λx x x x=>U,S.2.K N λx x x x=>U,N.t U S.3,N.t U S.4,N.t U S.5⟩
theorem RS.A(S:RS d s lo r j m g f st l q H n):RS d s lo r j m g f st l (q.1++[(a,i)],q.2++[(a,p)]) (aZ (aZ H (.o 31 st 0)<|.d<|(q.1.m λe=>(sy d.n e.1,V.I e.2))++[(sy d.n a,.I i)]) (.o 32 st 0)<|.d<|(q.2.m λe=>(sy d.n e.1,iv e.2))++[(sy d.n a,iv p)]) n:=by
 have N:cy (λk x x=>aA k 31||aA k 32) n H n (aZ (aZ H (.o 31 st 0)<|.d<|(q.1.m λe=>(sy d.n e.1,V.I e.2))++[(sy d.n a,.I i)]) (.o 32 st 0)<|.d<|(q.2.m λe=>(sy d.n e.1,iv e.2))++[(sy d.n a,iv p)]):=((cy.s S.1.4).p U).p U
 refine⟨(S.1.p<|TB U).p<|TB U,S.2.K N λk a b h=> ?_,(hA).t (by refine Y aK ?_;rfl),(hA).t (by refine Y aK ?_;rfl),S.5⟩
 exact bC (b:=aA k 31||aA k 32) λc=>by rcases oy c with c|c<;>(obtain rfl:=bq c;exact bF h) λc=>by refine Y c ?_;rfl
theorem LR.P(T:LR d H n)(q:k<d.g.p.L):∃j,H (.o 2 k 0)=M (.i 100 j)/\fits j.L=Z/\(fO j 13=aI\/∃i:Int,fO j 13=M (.I i)):=by
 obtain⟨c,ad,s,p,m,ls,T,r,l⟩:=T
 refine QO (T.1.9 k q) λj a b e f g=>eI j a ?_ f
 exact g.e (λh=>fz (aC h.2<|bH (De j) 18) U) λh=>fz (aC h.2.2<|bH (De j) 17) U
theorem abf(G:r0 d.g)(a:p.1<d.g.p.L/\p.2<=(d.g.r p.1).L)(S:RS d T lo R A P z y st N q H n)(K:∀H',RS d T lo R A P z y st N q H' n->Q .n ⟨Bi st E x (iv p) v13 v14 w v16 v17 v18 v19 v20 v21 v u t s r m l k h,H',n⟩):
  ni Q ⟨Bi st E x (iv p) v13 v14 w v16 v17 v18 v19 v20 v21 v u t s r m l k h,H,n⟩:=by
 refine j8 S.2.1.l λc L=>eV (S.2.1.P a.1) λJ f C I=> ?_
 have b:∀i,Q .n ⟨Bi st E x (iv p) v13 v14 w v16 v17 v18 v19 v20 v21 v u t s r m l k h,aZ H (.o 2 p.1 0)<|.i 100<|j9 J 13<|.I i,n⟩:=λi=>K _ ⟨S.1.p U,S.2.R f a.1,S.3,S.4,S.5⟩
 refine(bY U (L.6 p.1 p.2 a.1 a.2) U<|jR L.3 (ba<|Y dy G.3) (gZ (by rw[aD,dy];exact a.1)) (by refine Y aN<|Y (wY a.1) ?_;rfl) ?_)
 rcases I with e|⟨j,e⟩
 .exact Ia f e<|tA<|F2 f C<|b _
 .exact Mt f e<|tA<|F2 f C<|b _
theorem lN{a:Type}{x:Option a}(h:x.I=Z):x=aI:=Option.isNone_iff_eq_none.m h
theorem abg(y:bM d.n)(G:r0 d.g)(x:p.1<d.g.p.L/\p.2<=(d.g.r p.1).L)(S:RS d T lo R w P f e st N q H n)(J:ptR p q a=M I)
  (K:∀b H',RS d T lo R w P f e st N I H' n->Q .n ⟨Bi st E v (iv p) v13 (sy d.n a) b v16 v17 v18 v19 v20 v21 u t s r o m l k j,H',n⟩):
  nj Q ⟨Bi st E v (iv p) v13 (sy d.n a) b v16 v17 v18 v19 v20 v21 u t s r o m l k j,H,n⟩:=by
 refine ir (cj J) λhz i=> ?_;subst i
 refine zb4 hz λh C A z2=> ?_
 have h:=lN h
 obtain⟨c,L⟩:=S.2.1.l
 refine aM<|(qs S.3<|(tK U U S.3 U (by rw[Rh y V.I,h];rfl)<|(aE<|cg U<|Ib<|fx<|aM<|bY U (L.6 p.1 p.2 x.1 x.2) U<|x9 ?_)))
 exact ee S.3 U (ba A)<|aE<|aM<|cg U<|(ee S.4 U (ba z2)<|aE<|Y (xf y V.I a _ _ h)<|Y (xf y iv a _ _<|lN C)<|abf G x S.A λH' z=>K _ H' z)
noncomputable def gQ(a:Bool):V:=.s<|bif a then[76,65,76,82]else[83,76,82]
theorem abh(hn:bM d.n)(h8:d.n 8=[83,39])(hm:d.m=gQ r)(G:r0 d.g)(hp:p.1<d.g.p.L/\p.2<=(d.g.r p.1).L)(S:RS d qa lo nb t Fo y w st o3 q H n)(he:aA p.2 (d.g.r p.1).L=Z)(k:Py r d.g C' qa Fo st q p=M q')
  (K:∀v13 v14 m H',RS d qa lo nb t Fo y w st o3 q' H' n->Q .n ⟨Bi st v8 X (iv p) v13 v14 m v16 v17 v18 v19 v20 v21 R P N J I E C A z,H',n⟩):
  nr Q ⟨Bi st v8 X (iv p) v13 v14 m v16 v17 v18 v19 v20 v21 R P N J I E C A z,H,n⟩:=by
 delta Py at k
 rw[he]at k
 refine j8 S.2.1.l λc L=> ?_
 have hi:=L.6 p.1 p.2 hp.1 hp.2
 refine bY U hi U<|nY U U<|Y (congrArg V.s h8.s)<|Y (show dX (sy d.n<|d.g.l p.1) (sy d.n 8)=aA (d.g.l p.1) 8 from hn.1 _ _) ?_
 have k:(bif aA (d.g.l p.1) 8 then mQ ((nW q.1 1).I&&((nW q.2 1).I&&(fits q.1.L&&fits q.2.L))) (q.1++[(1,0)],q.2++[(1,p)])else ob (DG r d.g qa Fo st p) λl=>bA (ptR p) l q)=M q':=k
 refine ot k (λh k=> ?_) λh k=> ?_
 .obtain⟨hz,rfl⟩:=cj k
  refine zb4 hz λf h2 z1 z2=>ff<|aM<|Y (congrArg V.s hn.3.s)<|ee S.3 U (ba z1)<|aE<|cg U ?_
  exact Y (congrArg V.s hn.3.s)<|ee S.4 U (ba z2)<|Y (xf hn V.I 1 _ _<|lN f)<|Y (xf hn iv 1 _ _<|lN h2)<|K _ _ _ _ S.A
 .refine bc k λl f k=> ?_
  have u:∀Lh,(∀H n,PB d qa lo nb t Fo H n->H Lh=M (.l<|l.m<|sy d.n))->nq Q ⟨Bi st v8 X (iv p) (.L Lh) v14 m v16 v17 v18 v19 v20 v21 R P N J I E C A z,H,n⟩:=λLh hL=>by
   refine bL (hL _ _ S.2)<|ei (λx=>sy d.n) l _ (λx e=>Bi st v8 X (iv p) (.L Lh) e.1 e.2 v16 v17 v18 v19 v20 v21 R P N J I E C A z) (λq H' n'=>RS d qa lo nb t Fo y w st o3 q H' n'/\n'=n) (ptR p) k (cH λa H n h=>hL _ _ h.1.2) (λq e a q' i H' n' K' hi k hP T=> ?_) (λe H' n' hP=> ?_) ⟨S,U⟩ (g₀:=(v14,m))
   .obtain⟨S1,rfl⟩:=hP
    exact fM U<|abg hn G hp S1 k λm H' S'=>T.1 (_,_) _ _ ⟨S',U⟩
   .obtain⟨S1,rfl⟩:=hP
    exact gk<|K _ _ _ _ S1
  refine fx<|aM<|bY U L.1 (by refine Y hm ?_;rfl)<|nY U U ?_
  rcases r with _|_;(
   have f:(bif has (d.g.l p.1) d.g.n then M (Fo<|d.g.l p.1)else aI)=M l:=f
   refine cW f (λhs f=> ?_) λx f=>nS f
   obtain rfl:=aV f
   refine fx<|uQ U L.1 U L.2 U<|bY U hi U<|eY S.2.3.1 U (by rw[vF hn λa=>.L<|.o 6 a<|s0 t a,hs];rfl)<|aE<|u _ λH n b=>b.3.2 _ hs);(
   have f:(bif fw aA st (qa.1 p)then M (qa.2 (st,p))else aI)=M l:=f
   refine cW f (λhs f=> ?_) λx f=>nS f
   obtain rfl:=aV f
   refine ff<|bY U hi U ?_
   exact eY (v:=.L<|lo (st,p)) (S.2.2.1 p<|aU.M ⟨cb.m hp.1,bh.m hp.2⟩) U (by rw[l9 FG λs=>.L<|lo (s,p),hs];rfl)<|(aE<|u _ λH n b=>hM (b.2.2 p st<|(fH FG).m hs) λj e1 x x e4=>Y e1 e4))
theorem abi{call:CF}(z:bM d.n)(G:r0 d.g)(hC:aO d.C.L 1000=Z)(hc:nO d.n call)(y:p.1<d.g.p.L/\p.2<=(d.g.r p.1).L)(hI:d.C[st]?=M I)(hI2:∀{H n},LR d H n->H (.o 27 0 0)=f (.o 27 0 0)->z6 n H (ay k0 j0) (M I))(S:RS d qa lo nb s0c Fo u f st o3 q H n)(he:aA p.2 (d.g.r p.1).L=D)(b:Py lalr d.g d.C qa Fo st q p=M q')
  (K:∀v14 s r m l H' n',RS d qa lo nb s0c Fo u f st o3 q' H' n'->n<=n'->Q .n ⟨Bi st (ay k0 j0) v11 (iv p) v13 v14 s v16 v17 v18 v19 v20 v21 v22 v23 r m l v27 v28 X R,H',n'⟩):
  aR nu (aR nC<|nD call) Q ⟨Bi st (ay k0 j0) v11 (iv p) v13 v14 s v16 v17 v18 v19 v20 v21 v22 v23 r m l v27 v28 X R,H,n⟩:=by
 delta Py at b
 rw[he]at b
 refine j8 S.2.1.l λc L=> ?_
 have hi:=L.6 p.1 p.2 y.1 y.2
 have k:p.2<(d.g.r p.1).L:=by
  rcases Nat.lt_or_eq_of_le y.2 with h|h
  .exact h
  .rw[h,(beq_iff _ _).M U]at he;exact bT he
 refine aM<|bY U hi U<|fM U<|aE<|aM<|bY U hi U<|wz ?_
 have hd:=pX y.2
 refine CD (v:=sy d.n<|uO d.g p) (by rw[aD,hd];exact G.4 _) (by rw[aD,hd];exact gZ<|gW k) (by refine Y aN<|Y (J1 k) ?_;rfl)<|fM U<|aE ?_
 refine uQ U L.1 U L.2 U ?_
 refine tL L.4 U<|Y (uG z (λa=>ax 8 a 0) _ _) ?_
 have b:(bif has (uO d.g p) d.g.t then ob (xe d.g d.C st<|uO d.g p) λJ=>ob (l7 J d.C 0) λj=>mQ ((nW q.1<|uO d.g p).I&&((nW q.2<|uO d.g p).I&&(fits q.1.L&&fits q.2.L))) (q.1++[(uO d.g p,aY j)],q.2++[(uO d.g p,p)])else M q)=M q':=b
 refine ot b (λh b=> ?_) λh b=> ?_
 .refine bc b λJ h1 b=>bc b λj P b=> ?_
  obtain⟨hz,rfl⟩:=cj b
  refine zb4 hz λx y2 z1 z2=> ?_
  have x:=lN x
  refine bc h1 λI' f1 h5=>bc h5 λasy N h6=>bc h6 λJ' w h7=> ?_
  revert P b;refine rR (cj h7).2 ?_;intro P b
  revert N w;refine rR (aV<|hI.s.t f1) ?_;intro N w
  refine OW (cj h7).1 λx1 x2 x3=>ff<|aM<|dO L.1 ⟨U,cg U<|cg U<|i3 U ?_⟩
  refine hc.1 S.2.1 hI N x1 (hI2 S.2.1<|S.1.2 _ _ _ U) w (by simpa using x2) x3 λL' H1 n1 E A=>fM U<|aE<|aM<|Ms hc.2 (S.o E).2.1 U U A (tu G.1 (by obtain⟨_,_,_,_,_,_,T,_,_⟩:=S.2.1;exact(T.7 I<|aJ hI).1) w) x3 λH2 n2 N2=> ?_
  have i:=(S.o E).o N2
  have e:Fp d.C J'=.I (.o j):=by delta Fp;exact Y P U
  refine Y e ?_
  refine aE<|R0<|g6 (decide_eq_true<|dW j) ?_
  refine aM<|(qs i.3<|(tK U U i.3 U (by rw[Rh z V.I,x];rfl)<|fM U<|aE<|cg U<|Ib<|fx<|aM<|cg U ?_))
  exact ee i.3 U (ba z1)<|aE<|cg U<|(ee i.4 U (ba z2)<|Y (xf z V.I _ _ _ x)<|Y (xf z iv _ _ _<|lN y2)<|K _ _ _ _ _ _ _ i.A<|aC E.1 N2.1)
 .revert K;refine rR (sJ b) ?_;intro K
  exact fx<|K _ _ _ _ _ _ _ S<|aG _
end
theorem Of(a b:Nat):aA a b=aA b a:=by
 rcases h:aA a b with _|_;(exact bC (b:=aA b a) (λc=>by rw[bq c,bR _]at h;exact bT h) λc=>by refine Y c ?_;rfl);(rw[bq h];exact(bR _).s)
def M9(g:Gr)(q:ao)(s:Nat):Option (List Nat):=bif has s g.n then Az q s else M q
def nkM(g:Gr)(I:List Itm):Option (List Nat):=bA (λq (p:Itm)=>bA (M9 g) (g.u p.1) q) I []
section
variable{lo:LB->Loc}{st:Nat}{call:CF}
theorem abj(hn:bM d.n)(h8:d.n 8=[83,39])(hm:d.m=gQ u)(G:r0 d.g)(hC:aO d.C.L 1000=Z)(hc:nO d.n call)(hI:d.C[st]?=M I)(hI2:∀{H n},LR d H n->H (.o 27 0 0)=b (.o 27 0 0)->z6 n H (ay k0 j0) (M I))(S:RS d qa lo nb w Fo s b st o3 q H n)(hf:bA (Py u d.g d.C qa Fo st) I q=M q')
  (K:∀v v13 v14 f r m l H' n',RS d qa lo nb w Fo s b st o3 q' H' n'->n<=n'->Q .n ⟨Bi st (ay k0 j0) v11 v v13 v14 f v16 v17 v18 v19 v20 v21 X R r m l P N J E,H',n'⟩):
  nF call Q ⟨Bi st (ay k0 j0) v11 v v13 v14 f v16 v17 v18 v19 v20 v21 X R r m l P N J E,H,n⟩:=by
 have hL:∀{q H n},RS d qa lo nb w Fo s b st o3 q H n->H (.t k0 j0)=M (.l<|I.m iv):=λS=>zc (hI2 S.2.1<|S.1.q U).q λk j e1 e2 e3=>Y e1 e3
 have oI:j1 d.g I:=by obtain⟨_,_,_,_,_,_,T,_,_⟩:=S.2.1;exact(T.7 I<|aJ hI).1
 refine bL (hL S)<|ei (λx=>iv) I _ (λx e=>Bi st (ay k0 j0) v11 e.1 e.2.1 e.2.2.1 e.2.2.2.1 v16 v17 v18 v19 v20 v21 X R e.2.2.2.2.1 e.2.2.2.2.2.1 e.2.2.2.2.2.2 P N J E) (λq H' n'=>RS d qa lo nb w Fo s b st o3 q H' n'/\n<=n') (Py u d.g d.C qa Fo st) hf (cH λa H n h=>hL h.1) (λq e p q' i H' n' K' hi hf hP T=> ?_) (λe H' n' hP=>gk<|K _ _ _ _ _ _ _ _ _ hP.1 hP.2) ⟨S,lr⟩ (g₀:=(v,v13,v14,f,r,m,l))
 obtain⟨S1,A⟩:=hP
 have hp:=oI p<|aJ hi
 obtain⟨c,L⟩:=S1.2.1.l
 have z:=L.6 p.1 p.2 hp.1 hp.2
 refine fM U<|bY U z U<|bY U z U<|wz<|nY U U ?_
 have eb:dX (.I<|.o<|(d.g.r p.1).L+1) (.I<|aY p.2+1)=aA p.2 (d.g.r p.1).L:=(oi ((d.g.r p.1).L+1)<|p.2+1).t<|Of (d.g.r p.1).L p.2
 refine Y eb ?_
 rcases h:aA p.2 (d.g.r p.1).L with _|_;(exact fx<|abi hn G hC hc hp hI hI2 S1 h hf λv14 f r m l H2 n2 S2 y=>T.1 (iv p,e.2.1,v14,f,r,m,l) _ _ ⟨S2,aC A y⟩);(exact ff<|abh hn h8 hm G hp S1 h hf λv13 v14 f H2 S2=>T.1 (_,_,_,_,_,_,_) _ _ ⟨S2,A⟩)
theorem abk(hn:bM d.n)(T:LR d b j)(hl:b v8=M (.l<|I.m iv))(hv:∀n' H',cy w0 j b n' H'->H' v8=b v8)(oI:j1 d.g I)(S:KL j b 94 a (.d<|k.m λs=>(sy d.n s,.N)) H n)(ha:j<=a/\a<n)(r:bA (λq p=>bA (M9 d.g) (d.g.u p.1) q) I k=M X)
  (K:∀R P H',KL j b 94 a (.d<|X.m λs=>(sy d.n s,.N)) H' n->Q .n ⟨Bi st (.L v8) N L v13 v14 J v16 v17 v18 v19 v20 v21 E C A z y (ay 94 a) R P w,H',n⟩):
  nG Q ⟨Bi st (.L v8) N L v13 v14 J v16 v17 v18 v19 v20 v21 E C A z y (ay 94 a) R P w,H,n⟩:=by
 refine j8 T.l λc u=> ?_
 obtain⟨_,_,_,_,_,_,_,us,_⟩:=T
 refine bL ((hv _ _ S.1).t hl)<|ei (λx=>iv) I _ (λx e=>Bi st (.L v8) N L v13 v14 J v16 v17 v18 v19 v20 v21 E C A z y (ay 94 a) e.1 e.2 w) (λk H' n'=>KL j b 94 a (.d<|k.m λs=>(sy d.n s,.N)) H' n'/\n'=n) _ r (cH λa H n h=>(hv _ _ h.1.1).t hl) (λk e p X i H' n' K' hi r v T=> ?_) (λe H' n' v=> ?_) ⟨S,U⟩ (g₀:=(R,P))
 .obtain⟨S1,rfl⟩:=v
  have hp:=oI p<|aJ hi
  refine bY U ((u.o S1.1).6 p.1 p.2 hp.1 hp.2) U<|bL ((λS=>(S.1.2 _ _ _ U).t<|us p.1 hp.1) S1)<|ei (λx=>sy d.n) (d.g.u p.1) _ (λx f=>Bi st (.L v8) N L v13 v14 J v16 v17 v18 v19 v20 v21 E C A z y (ay 94 a) (iv p) f w) (λk H' m=>KL j b 94 a (.d<|k.m λs=>(sy d.n s,.N)) H' m/\m=n') (M9 d.g) r (cH λa H n h=>(λS=>(S.1.2 _ _ _ U).t<|us p.1 hp.1) h.1) (λk f s X i H' m K'' hi r v T'=> ?_) (λf H' m v=> ?_) ⟨S1,U⟩
  .obtain⟨S2,rfl⟩:=v
   have L2:=u.o S2.1
   refine uQ U L2.1 U L2.2 U<|tL L2.5 U<|Y (uG hn (λa=>ax 9 a 0) _ _)<|ot r (λh r=> ?_) λh r=> ?_
   .obtain⟨hz,rfl⟩:=cj r
    refine ff<|ee S2.2 U (ba hz)<|T'.1 _ _ _ ⟨⟨S2.1.u ha.1 ha.2,(aT _ _ _).t ?_⟩,U⟩
    rcases h:has s k with _|_;(exact Y (md hn (λx=>.N) s .N k h)<|congrArg (λl=>M<|O.d l) (aK (l₂:=[s])).s);(refine Y ((FH (NV hn) ((λx=>.N)) s k) h) ?_;rfl)
   .revert T';refine rR (sJ r) ?_;intro T'
    exact fx<|T'.1 _ _ _ ⟨S2,U⟩
  .obtain⟨S2,rfl⟩:=v
   exact gk<|T.1 (_,f) _ _ ⟨S2,U⟩
 .obtain⟨S1,rfl⟩:=v
  exact gk<|K _ _ _ S1
end
def w8(call:CF):Prop:=∀{Q:ab} {a:aq} {H:Hp} {n:Nat},Q .a ⟨a,H,n⟩->call 318 [.N] Q ⟨a,H,n⟩
theorem Oz(d:Nat):w8 (dT<|d+1):=λ{Q a H n} k=>(Y Ho ⟨U,aM<|F3<|ff<|gR U<|oz k⟩)
abbrev GQ:=Nat×List (Nat×Int)
def Zd(g:Gr)(C:List (List Itm))(st:Nat)(I:List Itm)(q:GQ)(x:Nat):Option GQ:=ob (mS g x I) λJ=>bif J.i then mQ (aO q.1 990&&(l7 [] C 0).I) (q.1+2,q.2)else ob (xe g C st x) λJ=>ob (l7 J C 0) λj=>mQ ((nW q.2 x).I&&fits q.2.L) (q.1,q.2++[(x,aY j)])
def LD.a(d:LD)(b:Nat):LD:={d with b:=b}
noncomputable def BV(a:aa)(l:List (Nat×Int)):O:=.d<|l.m λe=>(sy a e.1,.I e.2)
abbrev RG(d:LD)(qa:AQ)(lo:LB->Loc)(nb s0c:Nat)(Fo:aa)(cu:Nat)(cC:Hp)(st:Nat)(q:SA)(u:GQ)(H:Hp)(n:Nat):Prop:=RS (d.a u.1) qa lo nb s0c Fo cu cC st (BV d.n u.2) q H n
section
variable{lo:LB->Loc}{st:Nat}{call:CF}
theorem abl(hn:bM d.n)(G:r0 d.g)(hC:aO d.C.L 1000=Z)(hc:nO d.n call)(hg:qV d.n call)(hpn:w8 call)(hI:d.C[st]?=M I)(hI2:∀{b H n},LR (d.a b) H n->H (.o 27 0 0)=w (.o 27 0 0)->z6 n H (ay k0 j0) (M I))(S:RG d qa lo nb s0c Fo P w st q u H n)(i:Zd d.g d.C st I u x=M u')
  (K:∀r v26 H' n',RG d qa lo nb s0c Fo P w st q u' H' n'->n<=n'->(∀k m,m<n->H' (.t k m)=H (.t k m))->Q .n ⟨Bi st (ay k0 j0) (ax 33 st 0) v12 v13 v14 v15 v16 v17 v18 v19 v20 v21 v22 v23 v24 r v26 v27 v28 v29<|sy d.n x,H',n'⟩):
  nI call Q ⟨Bi st (ay k0 j0) (ax 33 st 0) v12 v13 v14 v15 v16 v17 v18 v19 v20 v21 v22 v23 v24 r v26 v27 v28 v29<|sy d.n x,H,n⟩:=by
 refine j8 S.2.1.l λcc L=> ?_
 have T:=S.2.1
 have hL:=hI2 T<|S.1.2 _ _ _ U
 refine bc i λJ h1 i=>aM<|dO L.1 ⟨U,cg U<|cg U<|i3 U<|cW i (λhe i=> ?_) λhe i=> ?_⟩
 .refine ir (cj i) λhz zr1=> ?_;subst zr1
  obtain⟨z1,z2⟩:=aU.m hz
  have z2:=lN z2
  have hJ:=List.isEmpty_iff.m he
  revert h1 i;refine Y hJ ?_;intro h1 i
  obtain⟨c,ad,tp,top,kvs,ls,TI,us,hit⟩:=T
  refine zc hL.q λk j e1 e2 e3=>hg G.1 TI.1 TI.2 TI.3 (λn' H' N=>Y e1<|(N.3 _ _ e2).t e3) (λm hm z=>by have z:=e1▸z;cases z;exact zF<|eM (zQ 1) U e2 hm) (TI.7 I<|aJ hI).1 (bh.M z1) (aC (bh.M (TI.7 I<|aJ hI).2) (by decide)) TI.8.4 h1 U (λp hp=>nomatch hp) λv H1 n1 c1 ad1 tp1 top1 f A1 le1 T1 t1 hr=> ?_
  have LR1:LR (d.a<|u.1+2) H1 n1:=⟨c1,ad1,tp1,top1,kvs,ls,⟨A1,le1,T1,⟨(f.2 _ _ _ U).t TI.4.1,TI.4.2,TI.4.3⟩,(f.2 _ _ _ U).t TI.5,TI.6.q f.1 f.3,TI.7,.s f.4⟩,λk h=>(f.2 _ _ _ U).t<|us k h,λk I asy h1 A x hx=>t1.1 _<|hit k I asy h1 A x hx⟩
  have S1:RG d qa lo nb s0c Fo P w st q (u.1+2,u.2) H1 n1:=⟨S.1.T f λk a b h=>(on h).1,⟨LR1,⟨λp h=>(f.2 _ _ _ U).t<|S.2.2.1 p h,λp s h=>hM (S.2.2.2 p s h) λj e1 e2 e3 e4=>ie j e1 e2 (aH e3 f.1)<|(f.3 _ _ e3).t e4⟩,⟨(f.2 _ _ _ U).t S.2.3.1,λa h=>(f.2 _ _ _ U).t<|S.2.3.2 a h⟩⟩,(f.2 _ _ _ U).t S.3,(f.2 _ _ _ U).t S.4,(f.2 _ _ _ U).t S.5⟩
  have fin:∀{r X R},cy w0 n1 H1 R X->qr (.I 1) (λv14=>Dj (ax 24 0 0) [.a,v14] λv269=>ck 26 v269 λy=>qT nH Q .n) ⟨Bi st (ay k0 j0) (ax 33 st 0) v12 v13 v14 v15 v16 v17 v18 v19 v20 v21 v22 v23 v24 r v26 v27 v28 v29<|sy d.n x,X,R⟩:=λ{r X R} l=>by
   refine x9 ?_
   have ha:=(l.2 _ _ _ U).t<|(f.2 _ _ _ U).t TI.4.1
   refine tK U U ha U ((TI.4.3 []).t (by refine Y z2 ?_;rfl))<|aE<|cg U<|R0 ?_
   exact fx<|K _ _ _ _ (S1.o l) (aC f.1 l.1) λk m hm=>(l.3 k m<|aH hm f.1).t<|f.3 k m hm
  rcases hr with⟨rfl, -⟩|hr
  .exact aE<|aM<|bY U A1.1 U<|qs ((f.2 _ _ _ U).t TI.4.1)<|hpn<|fin<|.s f.4
  .refine DE hr λk' j' J' zr1 f2 E f4=>Y zr1 ?_
   revert E;refine rR (aV f4) ?_;intro E
   exact fM U<|aE<|aM<|bY U A1.1 U<|qs ((f.2 _ _ _ U).t TI.4.1)<|hc.2 E (IU f2) A1.7 (λp hp=>nomatch hp) U f.4 λX R l=>fin l
 .refine bc i λJ A i=>bc i λj h3 i=> ?_
  revert K;refine rR (cj i).2 ?_;intro K
  obtain⟨z1,z2⟩:=aU.m (cj i).1
  have z1:=lN z1
  refine bc A λI' f1 h5=>bc h5 λasy f2 h6=>bc h6 λJ' E h7=> ?_
  revert f2 E;refine rR (aV<|hI.s.t f1) ?_;intro f2 E
  refine OW (cj h7).1 λx1 x2 x3=> ?_
  revert A h3;refine rR (cj h7).2 ?_;intro A h3
  have oI:j1 d.g I:=by obtain⟨_,_,_,_,_,_,T,_,_⟩:=T;exact(T.7 I<|aJ hI).1
  refine hc.1 (d:=d.a u.1) T hI f2 x1 hL E (by simpa using x2) x3 λL' H1 n1 f hL'=>fM U<|aE<|aM<|Ms (d:=d.a u.1) hc.2 (S.o f).2.1 U U hL' (tu G.1 oI E) x3 λX R l=> ?_
  have S2:=(S.o f).o l
  have e:Fp d.C J'=.I (.o j):=by delta Fp;exact Y h3 U
  refine Y e<|aE<|R0<|g6 (decide_eq_true<|dW j)<|cg U<|ee S2.5 U (ba z2)<|Y (xf hn V.I _ _ _ z1) ?_
  have N3:cy (λk y y=>aA k 33) R X R (aZ X (.o 33 st 0)<|.d<|u.2.m (λe=>(sy d.n e.1,V.I e.2))++[(sy d.n x,.I<|.o j)]):=(cy.s l.4).p U
  refine K _ _ _ _ ⟨S2.1.p<|TB U,S2.2.K N3 λk a b h=> ?_,S2.3,S2.4,(aT _ _ _).t (by delta BV;refine Y aK ?_;rfl)⟩ (aC f.1 l.1) λk m hm=>(l.3 k m<|aH hm f.1).t<|f.3 k m hm
  exact bC (b:=aA k 33) (λA=>by obtain rfl:=(beq_iff _ _).m A;exact bF h) λA=>by refine Y A ?_;rfl
end
structure xA where
 A:List (List (Nat×Int))
 G:List (List (Nat×Int))
 b:Nat
def AV(a:Bool)(g:Gr)(C:List (List Itm))(e:AQ)(d:aa)(i:Nat)(q:xA)(I:List Itm):Option xA:=bif aA q.A.L i&&(aA q.G.L i&&fits q.A.L)then ob (bA (Py a g C e d i) I ([],[])) λr=>ob (nkM g I) λc=>ob (bA (Zd g C i I) c (q.b,[])) λu=>M ⟨q.A++[r.1],q.G++[u.2],u.1⟩else aI
def ZO(a:Bool)(g:Gr)(C:List (List Itm))(d:AQ)(c:aa)(b:Nat):Option xA:=foldI (AV a g C d c) C 0 ⟨[],[],b⟩
noncomputable def wTb(k a b:Nat):Bool:=wG k a b||aA k 21||aA k 22||aA k 30||aA k 31||aA k 32||aA k 33
noncomputable def An(k m:Nat):O:=.d<|(bX m).m λi=>(.I<|.o i,ax k i 0)
inductive TS(d:LD)(qa:AQ)(lo:LB->Loc)(nb s0c:Nat)(Fo:aa)(nT:Nat)(HT:Hp)(q:xA)(H:Hp)(n:Nat):Prop
 |mk (now:cy wTb nT HT n H) (pb:PB (d.a q.b) qa lo nb s0c Fo H n) (d1:H (.o 21 0 0)=M (An 31 q.A.L)) (d2:H (.o 22 0 0)=M (An 33 q.A.L)) (d3:H (.o 30 0 0)=M (An 32 q.A.L)) (ra:∀i l,q.A[i]?=M l->H (.o 31 i 0)=M (BV d.n l)) (rg:∀i l,q.G[i]?=M l->H (.o 33 i 0)=M (BV d.n l)) (len:q.G.L=q.A.L) (fr:∀i,q.A.L<=i->H (.o 31 i 0)=aI/\H (.o 32 i 0)=aI/\H (.o 33 i 0)=aI)
theorem Cm(k m:Nat):gi ((bX m).m λi=>(V.I<|.o i,ax k i 0)) (.I<|.o m) (ax k m 0)=(bX<|m+1).m λi=>(V.I<|.o i,ax k i 0):=by
 refine Y (ox FG (λi=>ax k i 0) m _ (bX m)<|by
  exact bC (λh=>absurd (fZ.m<|(fH FG).m h)<|fY m) λh=>by refine Y h ?_;rfl)<|Y Bw<|Y aK ?_;rfl
section
variable{lo:LB->Loc}{st:Nat}{call:CF}
theorem abm(hn:bM d.n)(G:r0 d.g)(hC:aO d.C.L 1000=Z)(hc:nO d.n call)(hg:qV d.n call)(hpn:w8 call)(hI:d.C[st]?=M I)(hI2:∀{b H n},LR (d.a b) H n->H (.o 27 0 0)=c (.o 27 0 0)->z6 n H (ay X R) (M I))(S:RG d qa lo nb L Fo k c st q u H n)(hd:H (.t 94 a)=M (.d<|P.m λs=>(sy d.n s,.N)))(ha:a<n)(N:bA (Zd d.g d.C st I) P u=M u')
  (K:∀j f m H' n',RG d qa lo nb L Fo k c st q u' H' n'->n<=n'->Q .n ⟨Bi st (ay X R) (ax 33 st 0) J v13 v14 E v16 v17 v18 v19 v20 v21 A z w j f (ay 94 a) v r m,H',n'⟩):
  nJ call Q ⟨Bi st (ay X R) (ax 33 st 0) J v13 v14 E v16 v17 v18 v19 v20 v21 A z w j f (ay 94 a) v r m,H,n⟩:=by
 refine kg hd<|ei (λy=>sy d.n) P (λi=>.k (.t 94 a,i,_)) (λy e=>Bi st (ay X R) (ax 33 st 0) J v13 v14 E v16 v17 v18 v19 v20 v21 A z w e.1 e.2.1 (ay 94 a) v r e.2.2) (λu H' n'=>RG d qa lo nb L Fo k c st q u H' n'/\n<=n'/\H' (.t 94 a)=M (.d<|P.m λs=>(sy d.n s,.N))) (Zd d.g d.C st I) N (qf (aD ..) λu H n h=>br _ h.2.2 (by refine Y dQ ?_;rfl)) (λu e x u' i H' n' K' hi N l T=> ?_) (λe H' n' l=>gk<|K _ _ _ _ _ l.1 l.2.1) (kb S (lr) hd) (g₀:=(j,f,m))
 refine fM U<|abl hn G hC hc hg hpn hI hI2 l.1 N λj f H2 n2 S2 p ht=>T.1 (_,_,_) _ _<|kb S2 (aC l.2.1 p)<|(ht _ _<|aH ha l.2.1).t l.2.2
noncomputable abbrev ptA(st:Nat)(v8 v9 v10 v11 v12 v13 v14 v15 v16 v17 v18 v19 v20 v21 v22 v23 v24 v25 v26 v27 v28 v29 v30:V):List V:=
 [ax 20 0 0,ax 1 1 0,ax 1 8 0,ax 22 0 0,ax 21 0 0,ax 30 0 0,ax 27 0 0,.I (.o st),v8,v9,v10,v11,v12,v13,v14,v15,v16,v17,v18,v19,v20,v21,v22,v23,v24,v25,v26,v27,v28,v29,v30]
theorem abn{q:xA}(hn:bM d.n)(h8:d.n 8=[83,39])(hm:d.m=gQ lalr)(G:r0 d.g)(hC:aO d.C.L 1000=Z)(hc:nO d.n call)(hg:qV d.n call)(hpn:w8 call)(hI:d.C[st]?=M I)(S:TS d qa lo nb s0c Fo nT HT q H n)(hr:∃ls,H (.o 27 0 0)=M (.l ls)/\ls[st]?=M (ay k0 j0))(p:AV lalr d.g d.C qa Fo st q I=M q')
  (K:∀v9 v10 v11 v12 v13 v14 X R y w v27 P L J H' n',TS d qa lo nb s0c Fo nT HT q' H' n'->H' (.o 27 0 0)=H (.o 27 0 0)->Q .n ⟨ptA (st+1) (ay k0 j0) v9 v10 v11 v12 v13 v14 X v16 v17 v18 v19 v20 v21 v22 v23 R y w v27 P L J,H',n'⟩):
  nK call Q ⟨ptA st (ay k0 j0) v9 v10 v11 v12 v13 v14 X v16 v17 v18 v19 v20 v21 v22 v23 R y w v27 P L J,H,n⟩:=by
 refine cW p (λhz p=>OW hz λz1 z2 z3=> ?_) λx p=>nS p
 have z2:=(beq_iff _ _).m z2
 have z1:=(beq_iff _ _).m z1
 subst z1
 refine bc p λr h1 p=>bc p λnk h2 p=>bc p λu h3 p=> ?_
 revert K;refine rR (aV p) ?_;intro K
 refine sk (S.9 q.A.L<|aG _) λf1 f2 f3=>cz hr λls w1 w2=> ?_
 have free:=S.1.4
 have NW:cy (λk a x=>(aA k 31||aA k 32||aA k 33)&&aA a q.A.L) n H (n+1+1+1) (aZ (aZ (aZ H (.o 31 q.A.L 0)<|.d []) (.o 32 q.A.L 0)<|.d []) (.o 33 q.A.L 0)<|.d []):=
  ((((cy.s free).p (by rw[(beq_iff q.A.L q.A.L).M U];rfl)).r.p (by rw[(beq_iff q.A.L q.A.L).M U];rfl)).r.p (by rw[(beq_iff q.A.L q.A.L).M U];rfl)).r
 refine aM<|eJ f1<|fM U<|aE<|aM<|eJ (r:=.o 32 q.A.L 0) f2<|fM U<|aE<|aM<|eJ (r:=.o 33 q.A.L 0) f3<|fM U<|aE<|aM ?_
 have E:∀{b H' n'},LR (d.a b) H' n'->H' (.o 27 0 0)=H (.o 27 0 0)->z6 n' H' (ay k0 j0) (M I):=λ{b H' n'} T e=>by
  obtain⟨_,_,_,_,_,ls',T,_,_⟩:=T
  obtain rfl:ls'=ls:=O.l.inj<|aV<|(T.5.s.t e).t w1
  exact cz (T.6.u hI) λv x1 x2=>rR (aV<|x1.s.t w2) x2
 have S0:RS (d.a q.b) qa lo nb s0c Fo n H q.A.L (BV d.n []) ([],[]) (aZ (aZ (aZ H (.o 31 q.A.L 0)<|.d []) (.o 32 q.A.L 0)<|.d []) (.o 33 q.A.L 0)<|.d []) (n+1+1+1):=
  ⟨NW.l λk a b h=>(bp.m h).2,S.2.K NW λk a b h=> ?_,((aT _ _ _)),aT _ _ _,aT _ _ _⟩
 .refine abj (d:=d.a q.b) hn h8 hm G hC hc hI (λT e=>E T e) S0 h1 λv12 v13 v14 X R y w H1 n1 z hle1=>aE<|aM ?_
  have hL:=E z.2.1<|z.1.2 _ _ _ U
  refine zc hL.q λk j e1 e2 e3=> ?_
  revert e2 e3;refine rR (eH.Loc.t.inj e1).1<|rR (eH.Loc.t.inj e1).2 ?_;intro e2 e3
  have oI:j1 d.g I:=by obtain⟨_,_,_,_,_,_,T,_,_⟩:=z.2.1;exact(T.7 I<|aJ hI).1
  refine eJ (z.1.4 _ _<|aG _)<|fM U<|aE<|aM<|abk (d:=d.a q.b) hn z.2.1 e3 (λn' H' N=>N.3 _ _ e2) oI (.s z.1.4) ⟨aG _,a8 _⟩ h2 λP L H2 S2=>aE<|aM ?_
  have S3:=z.o S2.1
  refine abm hn G hC hc hg hpn hI E S3 S2.2 (a8 _) h3 λy w J H4 n4 s hle4=>aE ?_
  have far:∀k i,(aA k 31||aA k 32||aA k 33)=Z->i≠q.A.L->wR q.A.L k i 0=D:=λk i hk c=>by
   have:=qm c
   delta wR
   rw[this,jl,ef]
   rcases dZ.m hk with hk|hk
   .rcases dZ.m hk with hk|hk<;>(refine Y ((beq_iff _ _).m hk) ?_;rfl)
   .refine Y ((beq_iff _ _).m hk) ?_;rfl
  have d1:=(s.1.2 _ _ _ U).t S.3
  have zr:∀k,fits ((bX q.A.L).m λi=>(V.I<|.o i,ax k i 0)).L=Z:=λk=>ba<|Y dy z3
  refine aM<|cg U<|((ee d1 U (zr 31)<|aE<|aM<|cg U<|((ee ((s.1.2 _ _ _ U).t S.5) U (zr 32)<|aE<|aM<|cg U<|((ee ((s.1.2 _ _ _ U).t S.4) U (zr 33)<|aE<|tA<|fM U ?_))))))
  rw[Cm,Cm,Cm]
  have N6:cy (λk x x=>aA k 21||aA k 22||aA k 30) n4 H4 n4 (aZ (aZ (aZ H4 (.o 21 0 0)<|An 31<|q.A.L+1) (.o 30 0 0)<|An 32<|q.A.L+1) (.o 22 0 0)<|An 33<|q.A.L+1):=(((cy.s s.1.4).p U).p U).p U
  have m:=λk i hk c=>by
   refine(N6.2 k i 0 ?_).t<|s.1.2 _ _ _<|far k i hk c
   rcases dZ.m hk with hk|hk
   .rcases dZ.m hk with hk|hk<;>(refine Y ((beq_iff _ _).m hk) ?_;rfl)
   .refine Y ((beq_iff _ _).m hk) ?_;rfl
  have ll:(q.A++[r.1]).L=q.A.L+1:=by refine Y aL ?_;rfl
  refine K _ _ _ _ _ _ _ _ _ _ _ _ _ _ _ _ ⟨(S.1.T s.1 λk a b h=> ?_).T N6 λk a b h=> ?_,s.2.K N6 λk a b h=> ?_,(b8 U).t<|((((Y ll U)))),((Y ll U)),((((Y ll U)))),λi l c=> ?_,λi l c=> ?_,?_,λi c=> ?_⟩<|s.1.2 _ _ _ U
  .obtain⟨h,h33⟩:=bp.m h
   obtain⟨h,h32⟩:=bp.m h
   obtain⟨h,h31⟩:=bp.m h
   obtain⟨h, -⟩:=bp.m h
   delta wR;refine Y (bp.m (bp.m h).1).1<|Y h31<|Y h32<|Y h33 ?_;rfl
  .obtain⟨h, -⟩:=bp.m h
   obtain⟨h, -⟩:=bp.m h
   obtain⟨h, -⟩:=bp.m h
   obtain⟨h,h30⟩:=bp.m h
   obtain⟨h,h22⟩:=bp.m h
   refine Y (bp.m h).2<|Y h22<|Y h30 ?_;rfl
  .rcases h2:aA k 21||aA k 22||aA k 30 with _|_;(rfl);(
    rcases dZ.m h2 with h2|h2
    .rcases dZ.m h2 with h2|h2<;>(obtain rfl:=(beq_iff _ _).m h2;exact bF h)
    .obtain rfl:=(beq_iff _ _).m h2;exact bF h)
  .have c:=c
   by_cases f:i<q.A.L
   .rw[b0 f]at c
    exact(m 31 i U<|kX f).t<|S.6 i l c
   .have:=(bw.m c).1
    obtain rfl:i=q.A.L:=by rw[ll]at this;exact bo (bU (zQ 33) U this)<|bU (zQ 10) U<|cR f
    rw[bO (aG _),uw]at c
    exact rR (aV c) s.3
  .have c:=c
   by_cases f:i<q.G.L
   .rw[b0 f]at c
    exact(m 33 i U<|(λhz=>zF<|TM (zQ 229) U (zE z2) f<|zG hz)).t<|S.7 i l c
   .have:=(bw.m c).1
    obtain rfl:i=q.G.L:=by rw[aL]at this;exact bo (bU (zQ 33) U this)<|bU (zQ 10) U<|cR f
    rw[bO (aG _),uw]at c
    exact rR (aV c)<|Y z2 s.5
  .refine Y ll<|Y aL<|Y z2 ?_;rfl
  .have c:=ll▸c
   exact sk (S.9 i<|bU (zQ 3) U c) λg1 g2 g3=>⟨(m 31 i U<|(λhz=>zF<|eM (zQ 1) U c<|zE hz)).t g1,(m 32 i U<|(λhz=>zF<|eM (zQ 1) U c<|zE hz)).t g2,(m 33 i U<|(λhz=>zF<|eM (zQ 1) U c<|zE hz)).t g3⟩
 .rcases h2:(aA k 31||aA k 32||aA k 33)&&aA a q.A.L with _|_;(rfl);(
   obtain⟨h2, -⟩:=aU.m h2
   rcases dZ.m h2 with h2|h2
   .rcases dZ.m h2 with h2|h2<;>(obtain rfl:=(beq_iff _ _).m h2;exact bF h)
   .revert h;refine Y ((beq_iff _ _).m h2) ?_;intro h;exact bF h)
end
def jA(a:Bool)(g:Gr)(c:aa):Option (List (List Itm)×xA):=ob (pC g) λp=>bif aO p.1.L 1000 then ob (bif a then Cn g p.1 else M (λx=>[],λx=>[])) λb=>ob (ZO a g p.1 b c p.2) λt=>M (p.1,t)else aI
def M8(H:Hp):Prop:=(∃j,H (.o 90 0 0)=M (.t j))/\∃j,H (.o 91 0 0)=M (.t j)
inductive JL(nm:aa)(t:xA)(H:Hp):Prop
 |mk (d1:H (.o 21 0 0)=M (An 31 t.A.L)) (d2:H (.o 22 0 0)=M (An 33 t.A.L)) (ra:∀i l,t.A[i]?=M l->H (.o 31 i 0)=M (BV nm l)) (rg:∀i l,t.G[i]?=M l->H (.o 33 i 0)=M (BV nm l)) (len:t.G.L=t.A.L)
section
variable{lo:LB->Loc}{v29 v30:V}{lalr:Bool}{call:CF}{clo:ae}
theorem abo(hn:bM d.n)(h8:d.n 8=[83,39])(hm:d.m=gQ lalr)(G:r0 d.g)(hC:aO d.C.L 1000=Z)(hc:nO d.n call)(hg:qV d.n call)(hpn:w8 call)(S:TS d qa lo nb E Fo nT HT q H n)(b:foldI (AV lalr d.g d.C qa Fo) d.C 0 q=M q')
  (K:∀loc H' n',TS d qa lo nb E Fo nT HT q' H' n'->Q .n ⟨loc,H',n'⟩):
  jU call Q ⟨ptA q.A.L v8 v9 v10 y w v13 v14 s v16 v17 v18 v19 v20 v21 X R p m l f c v29 v30,H,n⟩:=by
 obtain⟨_,_,_,_,_,ls,T,_,_⟩:=id S.2.1
 refine bL T.5<|J9 d.C (λq e=>ptA q.A.L e.1 e.2.1 e.2.2.1 e.2.2.2.1 e.2.2.2.2.1 e.2.2.2.2.2.1 e.2.2.2.2.2.2.1 e.2.2.2.2.2.2.2.1 e.2.2.2.2.2.2.2.2.1 e.2.2.2.2.2.2.2.2.2.1 e.2.2.2.2.2.2.2.2.2.2.1 e.2.2.2.2.2.2.2.2.2.2.2.1 e.2.2.2.2.2.2.2.2.2.2.2.2.1 e.2.2.2.2.2.2.2.2.2.2.2.2.2.1 e.2.2.2.2.2.2.2.2.2.2.2.2.2.2.1 e.2.2.2.2.2.2.2.2.2.2.2.2.2.2.2.1 e.2.2.2.2.2.2.2.2.2.2.2.2.2.2.2.2.1 e.2.2.2.2.2.2.2.2.2.2.2.2.2.2.2.2.2.1 e.2.2.2.2.2.2.2.2.2.2.2.2.2.2.2.2.2.2.1 e.2.2.2.2.2.2.2.2.2.2.2.2.2.2.2.2.2.2.2.1 e.2.2.2.2.2.2.2.2.2.2.2.2.2.2.2.2.2.2.2.2.1 e.2.2.2.2.2.2.2.2.2.2.2.2.2.2.2.2.2.2.2.2.2.1 e.2.2.2.2.2.2.2.2.2.2.2.2.2.2.2.2.2.2.2.2.2.2) (λq H' n'=>TS d qa lo nb E Fo nT HT q H' n'/\H' (.o 27 0 0)=M (.l ls)) _ b (NF T.6.l λa H n h=>h.2) (λq e I q' i H' n' K' hi b P T'=> ?_) (λe H' n' P=>gk<|K _ _ _ P.1) ⟨S,T.5⟩ (g₀:=(v8,v9,v10,y,w,v13,v14,s,v16,v17,v18,v19,v20,v21,X,R,p,m,l,f,c,v29,v30))
 obtain⟨S1,z⟩:=P
 obtain⟨e1,e2⟩:=(show q'.A.L=q.A.L+1/\q.A.L=i from by exact cW b (λhz b=>(bc b λr x b=>bc b λnk x b=>bc b λu x b=>rR (sJ b) ⟨aL,bq (an hz).1⟩)) λx b=>nS b)
 subst e2
 have hw:∃N L,ls[q.A.L]?=M (ay N L):=by
  obtain⟨v,J,k,j,_,rfl,_⟩:=T.6.u hi
  exact⟨k,j,J⟩
 refine Yy hw λN L J=>Y aW<|Y J ?_
 exact fM U<|abn hn h8 hm G hC hc hg hpn hi S1 (br ls z J) b λv9 v10 y w v13 v14 s p m l f c v29 v30 H2 n2 S2 h2=>((e1▸T'.1 (ay N L,v9,v10,y,w,v13,v14,s,e.2.2.2.2.2.2.2.2.1,e.2.2.2.2.2.2.2.2.2.1,e.2.2.2.2.2.2.2.2.2.2.1,e.2.2.2.2.2.2.2.2.2.2.2.1,e.2.2.2.2.2.2.2.2.2.2.2.2.1,e.2.2.2.2.2.2.2.2.2.2.2.2.2.1,e.2.2.2.2.2.2.2.2.2.2.2.2.2.2.1,e.2.2.2.2.2.2.2.2.2.2.2.2.2.2.2.1,p,m,l,f,c,v29,v30) H2 n2 ⟨S2,h2.t z⟩))
end
def X0(h:aa)(call:CF):Prop:=∀{e:Bool} {g:Gr} {st d:V} {c s:Nat} {ad:ag} {j:aa} {C:List (List Itm)} {t:xA} {Q:ab} {f:aq} {H:Hp} {n:Nat},d=gQ e->r0 g->tX h g st d c ad H->(∀k,ad k<=c)->UK h g H->H (.o 23 0 0)=M (.d [])->(∀m,H (.o 26 m 0)=aI)->H (.o 24 0 0)=M (.d [])->H (.o 27 0 0)=aI->(∀k m,n<=m->H (.t k m)=aI)->
 (∀p,Om g p=Z->H (.o 4 p.1 p.2)=M (.d []))->H (.o 90 0 0)=M (.t 0)->H (.o 91 0 0)=M (.t 3)->G0 h g s j H->H (.o 21 0 0)=M (.d [])->H (.o 22 0 0)=M (.d [])->H (.o 30 0 0)=aI->(∀i,H (.o 31 i 0)=aI/\H (.o 32 i 0)=aI/\H (.o 33 i 0)=aI)->jA e g j=M (C,t)->
 (∀H' n',JL h t H'->(∀k a b,aA k 25=Z->H' (.o k a b)=H (.o k a b))->(∃c',H' (.o 20 0 0)=M (.i 427<|ON d c'))->(∀k m,m<n->H' (.t k m)=H (.t k m))->(∀k m,n'<=m->H' (.t k m)=aI)->n<=n'->M8 H'->Q .N ⟨f,H',n'⟩)->call 424 [ax 20 0 0] Q ⟨f,H,n⟩
theorem Tp{call:CF}{st:V}{ad:ag}(hn:bM I)(h8:I 8=[83,39])(hIt:JB I call)(hLa:Lj call)(hc:nO I call)(hg:qV I call)(hpn:w8 call)(hm:u=gQ z)(G:r0 g)(A:tX I g st u c ad H)(hle:∀k,ad k<=c)(d:UK I g H)(h23:H (.o 23 0 0)=M (.d []))(h26:∀m,H (.o 26 m 0)=aI)(h24:H (.o 24 0 0)=M (.d []))(h27:H (.o 27 0 0)=aI)(h0:∀k m,n<=m->H (.t k m)=aI)
  (h4:∀p,Om g p=Z->H (.o 4 p.1 p.2)=M (.d [])) (X:H (.o 90 0 0)=M (.t 0)) (T:H (.o 91 0 0)=M (.t 3)) (fo:G0 I g s Fo H) (h21:H (.o 21 0 0)=M (.d [])) (h22:H (.o 22 0 0)=M (.d [])) (h30:H (.o 30 0 0)=aI) (fr:∀i,H (.o 31 i 0)=aI/\H (.o 32 i 0)=aI/\H (.o 33 i 0)=aI) (y:jA z g Fo=M (C,t))
  (K:∀R H' n',JL I t H'->(∀k a b,aA k 25=Z->H' (.o k a b)=H (.o k a b))->(∃c',H' (.o 20 0 0)=M (.i 427<|ON u c'))->(∀k m,m<n->H' (.t k m)=H (.t k m))->(∀k m,n'<=m->H' (.t k m)=aI)->n<=n'->M8 H'->Q .n ⟨R,H',n'⟩):
  qy call Q ⟨[ax 20 0 0,v1,v2,v3,v4,v5,v6,v7,v8,v9,v10,v11,v12,v13,v14,v15,v16,v17,v18,v19,v20,v21,v22,v23,v24,v25,v26,v27,v28,v29,v30],H,n⟩:=by
 refine bc y λp e1 y=>cW y (λhC y=>bc y λqa e2 y=>bc y λt' e3 y=> ?_) λx y=>nS y
 obtain⟨C',b⟩:=p
 revert K;refine rR (cZ<|aV y).1<|rR (cZ<|aV y).2 ?_;intro K
 have tb:=A.1
 refine aM<|uQ U tb U A.2 U<|fM U<|aE<|aM ?_
 refine uQ U tb U A.2 U<|fM U<|aE<|aM<|bY U tb U<|fM U<|aE<|aM<|bY U tb U<|fM U<|aE<|aM<|eJ h30<|fM U<|aE<|aM ?_
 have N1:cy (λk x x=>aA k 30) n H (n+1) (aZ H (.o 30 0 0)<|.d []):=((cy.s h0).p U).r
 have A1:=A.S N1 λk a b h=>zq h U
 refine dO A1.1 ⟨U,i3 U<|hIt G A1 hle (λk h=>d k h) h23 (λm=>h26 m) h24 h27 N1.4 e1 λH2 n2 P T2=>fM U<|aE<|aM<|j8 T2.l λcc L2=> ?_⟩
 have f:∀k a b,Z3 k a b=D->aA k 30=D->H2 (.o k a b)=H (.o k a b):=λk a b h1 h2=>(P.2 _ _ _ h1).t<|N1.2 _ _ _ h2
 have r:∀(lo:LB->Loc) v E N,(∀k a b,p! k a b=D->E (.o k a b)=H2 (.o k a b))->cy p! n2 H2 N E->LA0 ⟨I,g,st,u,C',b⟩ n2 qa lo E N->M8 E->aR oW (jU call) Q ⟨[ax 20 0 0,ax 1 1 0,ax 1 8 0,ax 22 0 0,ax 21 0 0,ax 30 0 0,ax 27 0 0,v,v8,v9,v10,v11,v12,v13,v14,v15,v16,v17,v18,v19,v20,v21,v22,v23,v24,v25,v26,v27,v28,v29,v30],E,N⟩:=λlo v E N q L L3 J=>by
  have T3:=T2.K L λk a b h=>by
   delta p!;refine Y (zq h U)<|Y (zq h U)<|Y (zq h U) ?_;rfl
  have S:TS ⟨I,g,st,u,C',b⟩ qa lo n2 s Fo N E ⟨[],[],b⟩ E N:=
   ⟨.s L.4,⟨T3,L3,⟨(q _ _ _ U).t<|(f _ _ _ U U).t fo.1,λa h=>(q _ _ _ U).t<|(f _ _ _ U U).t<|fo.2 a h⟩⟩,(q _ _ _ U).t<|(f _ _ _ U U).t h21,(q _ _ _ U).t<|(f _ _ _ U U).t h22,(q _ _ _ U).t<|P.2 _ _ _ U,λi l h=>nS h,λi l h=>nS h,U,λi x=>⟨(q _ _ _ U).t<|(f _ _ _ U U).t (fr i).1,(q _ _ _ U).t<|(f _ _ _ U U).t (fr i).2.1,(q _ _ _ U).t<|(f _ _ _ U U).t (fr i).2.2⟩⟩
  refine abo hn h8 hm G hC hc hg hpn S e3 λR H4 n4 w=> ?_
  obtain⟨c4,L4⟩:=w.2.1.l
  refine K _ _ _ ⟨w.3,w.4,w.6,w.7,w.8⟩ (λk a b hk=> ?_) ⟨c4,L4.1⟩ (λk m hm=> ?_) w.1.4 ?_ ⟨j8 J.1 λj e=>⟨j,(w.1.2 _ _ _ U).t e⟩,j8 J.2 λj e=>⟨j,(w.1.2 _ _ _ U).t e⟩⟩
  .obtain rfl:=(beq_iff _ _).m hk
   exact(w.1.2 _ _ _ U).t<|(q _ _ _ U).t<|f _ _ _ U U
  .have h1:=dA hm
   have h2:=aH h1 P.1
   exact(w.1.3 _ _<|aH h2 L.1).t<|(L.3 _ _ h2).t<|P.3 _ _ h1
  .exact aC (fB P.1)<|aC L.1 w.1.1
 refine bY (v:=gQ z) U L2.1 (by refine Y hm ?_;rfl)<|nY U U ?_
 rcases z with _|_;(
  revert r;refine rR (aV e2) ?_;intro r
  exact fx<|aE<|r (λx=>.t 0 0) _ H2 n2 (λx x x x=>U) (.s P.4) ⟨λp hp=>(f _ _ _ U U).t<|h4 p hp,λp s h=>nomatch h⟩ ⟨⟨0,(f _ _ _ U U).t X⟩,⟨3,(f _ _ _ U U).t T⟩⟩);(
  exact ff<|dO L2.1 ⟨U,cg U<|i3 U<|hLa hn G T2 ((f _ _ _ U U).t X) ((f _ _ _ U U).t T) (λp hp=>(f _ _ _ U U).t<|h4 p hp) e2 λlo E N L3 L J=>aE<|r lo _ E N L.2 L L3 J⟩)
theorem ZP(E:bM b)(C:b 8=[83,39])(p:JB b (dT d))(o:Lj (dT d))(z:Dt (dT d))(y:gK b (dT d))(w:qV b (dT d))(n:w8 (dT d)):X0 b (dT<|d+1):=λv G A m a l k j i u t h g s f e c r q K=>(Y (show dT (d+1) 424=gw hZ (qy<|dT d) 1 []from by kernel_rfl) ⟨U,Tp E C p o ⟨z,y⟩ w n v G A m a l k j i u t h g s f e c r q λx=>K⟩)
theorem Mu(q:KB (Cw c l) σ):cw .I (.s [c]) (.s l) KB σ:=.i<|.i<|.i ⟨[c],U,c,U,l,U,q⟩
def IdC(b:aa)(call:CF):Prop:=∀{c:Nat} {Q:ab} {a:aq} {H:Hp} {n:Nat},Cw c Ce=Z->(∀k m,n<=m->H (.t k m)=aI)->
 (∀H' n',cy w0 n H n' H'->Q (.o Z) ⟨a,H',n'⟩)->call 39 [.s [c]] Q ⟨a,H,n⟩
theorem Vl{call:CF}(h:Cw c Ce=Z)(a:∀k m,n<=m->H (.t k m)=aI)(K:∀H' n',cy w0 n H n' H'->Q (.r<|.o Z) ⟨[.s [c]],H',n'⟩):tR call Q ⟨[.s [c]],H,n⟩:=by
 refine .I<|br _ U<|.I<|eI [c] U U<|R1<|zH<|g6 U<|Kz<|.i<|.i<|.i<|br [c] U<|((show pE (.l []) _ _ from eJ (r:=.t 95 n) (a _ _<|aG _)<|za (e:=λc=>V.s [c]) (w:=λx=>V.o Z) (ls:=λg=>[.u,g]) [c] (λb done g K f d k=> ?_) (λi=>.s<|[c].d i) (λi g done K k=> ?_) λg=> ?_))
 .exact Y (m1 f)<|Mu<|Y h<|gA (aT _ _ _) (Y (cG _)<|decide_eq_true<|bZ (zQ 258) U d)<|Y (lM _ _ _ _)<|k _
 .rcases i with _|i;(exact k);(
   have e:[c].d (i+1)=[]:=by rcases i with _|_<;>rfl
   rw[e]at k⊢
   exact k)
 .exact⟨_,U,_,_,U,aT _ _ _,[Z],U,K _ _ (cy.s a).e⟩
theorem aan(c:aa)(d:Nat):IdC c (dT<|d+1):=λb a K=>Y (show dT (d+1) 39=gw tT (tR<|dT d) 1 []from by kernel_rfl) ⟨U,Vl b a λH' n' N=>K H' n' N⟩
def RtC(c:aa)(call:CF):Prop:=∀{ts w:ao} {L:Loc} {Q:ab} {b:aq} {H:Hp} {n:Nat},H L=M (.l<|w.m<|sy c)->H (.o 1 4 0)=M (.d<|ts.m λa=>(sy c a,ax 8 a 0))->fits w.L=Z->
 (∀v,(v=.N\/∃a,v=sy c a)->Q v ⟨b,H,n⟩)->call 146 [.L L,ax 1 4 0] Q ⟨b,H,n⟩
def rtS(ts w:ao)(i:Nat):Option (BN Nat):=match i with
 |0=>M .o
 |j+1=>bif has (w.g j 0) ts then M (.r<|j+1)else M (.g j)
theorem qg(h:∀X,(∀σ,(∀Y',(∀σ,qE c body a k Q σ->Y' .n σ)->(∀σ,qE c body a k Q σ->Y' .cont σ)->(∀σ,Q .n σ->Y' .brk σ)->(∀v σ,Q (.r v) σ->Y' (.r v) σ)->body Y' σ)->X Z σ)->(∀σ,a Q σ->X D σ)->c X σ):qE c body a (k+1) Q σ:=
 h _ (λσ e=>e _ (λσ h=>h) (λσ h=>h) (λσ h=>h) λv σ h=>h) λσ e=>e
theorem V2(t:bM b){call:CF}{ts w:ao}{H:Hp}(j:H L=M (.l<|w.m<|sy b))(s:H (.o 1 4 0)=M (.d<|ts.m λa=>(sy b a,ax 8 a 0)))(hz:fits w.L=Z)
  (K:∀v i,(v=.N\/∃a,v=sy b a)->Q (.r v) ⟨i,H,n⟩):oX call Q ⟨[.L L,ax 1 4 0,y],H,n⟩:=by
 have z:=ba (f:=sy b) hz
 refine aM<|uR j z<|p4<|aE<|aM<|Y (aD _) ?_
 have h:∀m,m<=w.L->qE (λK=>aS 2 λg=>cw .GtE g (.I 0) λe=>K e) my (bE .n) (m+1) (qT mz Q) ⟨[.L L,ax 1 4 0,.I<|aY m - 1],H,n⟩:=by
  intro m
  induction m with
  |zero=>
   intro _
   exact qg λX l k=>R0<|k _<|gk<|aE<|K _ _<|.I U
  |succ m r=>
   intro d
   refine Y (fR (aY m) 1)<|qg λX l k=>R0<|Y (decide_eq_true<|dW m)<|l _ λY' q x u p=>aM ?_
   have c:m<(w.m<|sy b).L:=by rw[aD];exact d
   refine jR j z (gZ c) (v:=sy b<|w.g m 0) (by refine Y aN<|Y aW<|Y (aP d) ?_;rfl) ?_
   refine tL s U<|Y (uG t (λa=>ax 8 a 0) _ _) ?_
   rcases has (w.g m 0) ts with _|_;(exact fx<|aE<|p4<|q _<|r<|fB d);(
    refine ff<|jR j z (gZ c) (v:=sy b<|w.g m 0) (by refine Y aN<|Y aW<|Y (aP d) ?_;rfl) ?_
    exact oz<|p _ _<|oz<|K _ _<|.i ⟨_,U⟩)
 exact⟨_,h w.L<|aG _⟩
theorem abx(e:bM c)(d:Nat):RtC c (dT<|d+1):=λb a hz K=>Y (show dT (d+1) 146=gw oY (oX<|dT d) 2 []from by kernel_rfl) ⟨U,V2 e b a hz λv x=>K v⟩
noncomputable def wP(k b a _:Nat):Bool:=aA b 2&&aA a k
theorem I6:wP k 2 k b=Z:=by unfold wP;refine Y (bR k) ?_;rfl
inductive Wz(k cu:Nat)(cC:Hp)(fs:ar)(H:Hp)(n:Nat):Prop
 |mk (at_:H (.o 2 k 0)=M (.i 100 fs)) (now:cy (wP k) cu cC n H)
section
variable{K:aj}
theorem mA(S:Wz k b a c H n)(d:fits c.L=Z)(q:∀H',Wz k b a (j9 c j v) H' n->H' (.o 2 k 1)=H (.o 2 k 1)->K () ⟨ax 2 k 0::r,H',n⟩):sA 0 j v K ⟨ax 2 k 0::r,H,n⟩:=
 AF U S.1 d<|q _ ⟨hA,S.2.p I6⟩<|hN λz=>by cases z
theorem EU:∀w:List Nat,strsOf (w.m<|sy b)=M (w.m b)
 :=λd=>d.R U λa r c=>by show(strsOf<|r.m<|sy b).m _=_;refine Y c ?_;rfl
theorem Zl(a:fits vs.L=Z)(q:KB (!vs.i) σ):fX (V.t vs) KB σ:=
 .I<|.i<|.i<|.i<|.i<|.I<|y6 ⟨a,by rcases vs with _|_<;>exact q⟩
end
def strOk(a:aa)(A:Nat)(w:ao):Bool:=fits (a A).L&&(small ([32]::w.m a)&&fits (tn [32]<|w.m a).L)
theorem Na:∀{q u:ao},bA Az l q=M u->u=l.f (λq s=>bif has s q then q else q++[s]) q:=by
 induction l with
 |nil=>exact λh=>(sJ h).s
 |cons s r b=>exact λh=>vw h λc a h=>by revert h;exact rR (cj a).2 b
inductive PrG(nm:aa)(k A:Nat)(w:ao)(fs:ar):Prop
 |mk (name:fO fs 0=M (sy nm A)) (prod:fO fs 1=M (V.t (w.m (sy nm)))) (number:fO fs 2=M (.I (.o k))) (len:fO fs 8=M (.I (.o w.L))) (usyms:fO fs 9=M (ax 2 k 1)) (f14:fO fs 14=aI) (f13:fO fs 13=aI) (few:fs.L<=15)
theorem EL(hn:bM b){call:CF}(hz:fits w.L=Z)(hs:strOk b A w=Z)(hu:bA Az w []=M u)(S:Wz k g d [] H n)(hL:d (.t kk m)=M (.l<|w.m<|sy b))(hm:m<g)(h21:H (.o 2 k 1)=aI)(X:∀{H n},x5 4 ⟨[ax 2 k 0,.I<|.o k,sy b A,ay kk m,I,E,C,y,R],H,n⟩=M I/\x5 5 ⟨[ax 2 k 0,.I<|.o k,sy b A,ay kk m,I,E,C,y,R],H,n⟩=M E/\x5 6 ⟨[ax 2 k 0,.I<|.o k,sy b A,ay kk m,I,E,C,y,R],H,n⟩=M C/\x5 7 ⟨[ax 2 k 0,.I<|.o k,sy b A,ay kk m,I,E,C,y,R],H,n⟩=M y)
  (K:∀loc fs H' n',Wz k g d fs H' n'->PrG b k A w fs->H' (.o 2 k 1)=M (.l<|(uniq w).m<|sy b)->Q .n ⟨loc,H',n'⟩):
  mj call Q ⟨[ax 2 k 0,.I<|.o k,sy b A,ay kk m,I,E,C,y,R],H,n⟩:=by
 refine OW hs λs1 s2 s3=> ?_
 have z:=ba (f:=sy b) hz
 refine aM<|cg U<|mA S U λH1 S1 e1=>aE<|aM<|cg U<|KG ((S1.2.3 _ _ hm).t hL) z<|mA S1 U λH2 S2 e2=>aE<|aM<|cg U<|mA S2 U λH3 S3 e3=>aE<|aM<|cg X.2.1<|mA S3 U λH4 S4 e4=>aE<|aM<|mA S4 U λH5 S5 e5=>aE<|aM<|cg X.2.2.1<|mA S5 U λH6 S6 e6=>aE<|aM<|cg X.2.2.2<|mA S6 U λH7 S7 e7=>aE<|aM<|cg X.1<|mA S7 U λH8 S8 e8=>aE<|aM<|bY U S8.1 U<|FY z<|mA S8 U λH9 S9 e9=>aE<|aM ?_
 have f9:=e9.t<|e8.t<|e7.t<|e6.t<|e5.t<|e4.t<|e3.t<|e2.t<|e1.t h21
 rw[aD]at S9
 refine b9 f9 U<|mA ⟨(bS _ _ λz=>by cases z).t S9.1,(S9.2.p I6).r⟩ U λH10 P e10=>aE<|aM ?_
 have l10:=e10.t<|aT _ _ _
 refine bY U P.1 U<|xo<|ei (λx=>sy b) w (λi=>.r<|(w.d i).m<|sy b) (λx e=>[ax 2 k 0,.I<|.o k,sy b A,ay kk m,I,E,C,y,e]) (λq H' n'=>Wz k g d _ H' n'/\H' (.o 2 k 1)=M (.l<|q.m<|sy b)) Az hu Cd (λq e s q' i H' n' K' hi hf hP T=> ?_) (λe H' n' hP=> ?_) ⟨P,l10⟩
 .obtain⟨v,J⟩:=hP
  revert T;refine rR (cj hf).2 ?_;intro T
  refine fM U<|cg U<|bY U v.1 U<|pF J U (je _)<|Y (g5 hn _ _) ?_
  rcases hh:has s q with _|_;(
   rw[hh]at T
   exact((bY U v.1 U<|fE J<|cg U<|gA J (ba (cj hf).1)<|T.1 _ _ _ ⟨⟨(bS _ _ λz=>by cases z).t v.1,v.2.p I6⟩,(aT _ _ _).t<|congrArg (λl=>M<|O.l l) (aK (l₂:=[s])).s⟩)));(rw[hh]at T;exact x8<|T.1 _ _ _ ⟨v,J⟩)
 .obtain⟨v,J⟩:=hP
  rw[Na hu]at J
  refine gk<|aE<|aM<|b9 (r:=.t 96 n') (v.2.4 _ _<|aG _) U<|mA ⟨gY.t v.1,v.2.e⟩ U λH11 S11 e11=>aE<|aM<|mA S11 U λH12 h e12=>aE<|bY U h.1 U<|Zl z ?_
  have N:∀L c,Wz k g d [(0,sy b A),(1,V.t<|w.m<|sy b),(2,.I<|.o k),(3,E),(4,.N),(5,C),(6,y),(7,I),(8,.I<|.o w.L),(9,ax 2 k 1),(10,ay 96 n'),(11,.N),(12,L)] c (n'+1)->c (.o 2 k 1)=H12 (.o 2 k 1)->Q .n ⟨[ax 2 k 0,.I<|.o k,sy b A,ay kk m,I,E,C,y,e],c,n'+1⟩:=λL c p j=>K _ _ _ _ p ⟨U,U,U,U,U,U,U,by show 13<=15;decide⟩<|j.t<|e12.t<|e11.t<|gY.t J
  cases w with
  |nil=>
   exact fx<|bY U h.1 U<|.i ⟨_,U,U,_,U,s1,mA h U λc p j=>N _ c p j⟩
  |cons a r=>
   exact ff<|bY U h.1 U<|⟨_,U,aU.M ⟨s1,U⟩,(gk<|⟨_,U,(bY U h.1 U<|⟨_,U,(oo 32 UA),U,Ej z ⟨(Uz b<|oo a r),((EU _)),s2,(⟨_,U,.I ⟨_,U,s3,mA h U λc p j=>N _ c p j⟩⟩)⟩⟩)⟩)⟩
def Iz:V:=V.t [.s [114,105,103,104,116],.I 0]
def JJ(b:aa)(call:CF):Prop:=∀{k A kk m n:Nat} {w u:ao} {H:Hp} {Q:ab} {a:aq},fits w.L=Z->strOk b A w=Z->bA Az w []=M u->H (.o 2 k 0)=M (.i 100 [])->H (.o 2 k 1)=aI->H (.t kk m)=M (.l<|w.m<|sy b)->m<n->(∀k m,n<=m->H (.t k m)=aI)->
 (∀c H' n',Wz k n H c H' n'->PrG b k A w c->H' (.o 2 k 1)=M (.l<|(uniq w).m<|sy b)->Q .N ⟨a,H',n'⟩)->call 62 [ax 2 k 0,.I<|.o k,sy b A,ay kk m,Iz,.N,.s [],.I 0] Q ⟨a,H,n⟩
def JI(b:aa)(call:CF):Prop:=∀{k A kk m n:Nat} {w u:ao} {H:Hp} {Q:ab} {a:aq},fits w.L=Z->strOk b A w=Z->bA Az w []=M u->H (.o 2 k 0)=M (.i 100 [])->H (.o 2 k 1)=aI->H (.t kk m)=M (.l<|w.m<|sy b)->m<n->(∀k m,n<=m->H (.t k m)=aI)->
 (∀c H' n',Wz k n H c H' n'->PrG b k A w c->H' (.o 2 k 1)=M (.l<|(uniq w).m<|sy b)->Q .N ⟨a,H',n'⟩)->call 62 [ax 2 k 0,.I<|.o k,sy b A,ay kk m] Q ⟨a,H,n⟩
theorem L9:dT (d+1) 62=λvs=>lW (gw eP (mj<|dT d) 4 [Iz,.N,.s [],.I 0] vs) (gw eP (mj<|dT d) 8 [] vs):=by kernel_rfl
theorem Sv(j:bM i)(d:Nat):JJ i (dT<|d+1):=λhz h g f e c b a K=>Y L9<|.i ⟨U,EL j hz h g ⟨f,.s a⟩ c b e (⟨U,U,U,U⟩) λx=>K⟩
theorem Su(j:bM i)(d:Nat):JI i (dT<|d+1):=λhz h g f e c b a K=>Y L9<|.I ⟨U,EL j hz h g ⟨f,.s a⟩ c b e (⟨U,U,U,U⟩) λx=>K⟩
noncomputable def wNT(k a _:Nat):Bool:=(aA k 1&&aA a 5)||aA k 8||aA k 9
inductive NT(nm:aa)(ts:ao)(cu:Nat)(cC:Hp)(ns:ao)(B':Nat)(H:Hp)(n:Nat):Prop
 |mk (now:cy wNT cu cC n H) (nons:H (.o 1 5 0)=M (.d (ns.m λa=>(sy nm a,ax 9 a 0)))) (tl:∀t,has t ts=Z->∃l,H (.o 8 t 0)=M (.l l)/\l.L<=B') (nl:∀a,has a ns=Z->∃l,H (.o 9 a 0)=M (.l l)/\l.L<=B') (f9:∀a,has a ns=D->H (.o 9 a 0)=aI)
theorem NT.N(p:bM i)(S:NT i ts g f ns c H n)(m:has a ns=D):NT i ts g f (ns++[a]) c (aZ (aZ H (.o 9 a 0)<|.l []) (.o 1 5 0)<|.d<|gi (ns.m λa=>(sy i a,ax 9 a 0)) (sy i a)<|ax 9 a 0) (n+1):=by
 refine⟨((S.1.p (by rfl)).p U).r,?_,λt h=>cz (S.3 t h) λl e z=>br l e z,λb h=> ?_,λb h=> ?_⟩
 .rw[aT,md p (λa=>ax 9 a 0) a _ ns m,aK];rfl
 .rw[jH]at h
  by_cases d:b=a
  .exact rR d<|br [] (aT _ _ _)<|cO _
  .have:=qm λe=>d e.s
   rw[this,ef]at h
   exact cz (S.4 b h) λl e z=>br l ((b8 U).t<|(bS _ _ λz=>d (by revert d;refine rR (eH.Loc.o.inj z).2.1 ?_;intro d;rfl)).t e) z
 .rw[jH]at h
  obtain⟨k,j⟩:=bp.m h
  have d:b≠a:=λe=>by rw[e,(beq_iff a a).M U]at j;exact bT j
  exact(b8 U).t<|(bS _ _ λz=>d (by refine rR (eH.Loc.o.inj z).2.1 ?_;rfl)).t<|S.5 b k
theorem NT.u(S:NT k ts g f ns c H n)(i:has a ns=Z)(j:l.L<=c):NT k ts g f ns (c+1) (aZ H (.o 9 a 0)<|.l<|l++[v]) n:=by
 refine⟨S.1.p (by rfl),S.2,λt h=>cz (S.3 t h) λl e z=>br l e<|dz z,λb h=> ?_,λb h=> ?_⟩
 .by_cases d:b=a
  .exact Y d<|br _ hA<|Y aL<|bz j
  .exact cz (S.4 b h) λl e z=>br l ((bS _ _ λz=>d (by revert i d;refine rR (eH.Loc.o.inj z).2.1 ?_;intro i d;rfl)).t e)<|dz z
 .have d:b≠a:=λe=>by rw[e,i]at h;exact bT h
  exact(bS _ _ λz=>d (by refine rR (eH.Loc.o.inj z).2.1 ?_;rfl)).t<|S.5 b h
theorem NT.b(S:NT j ts f d ns c H n)(k:has a ts=Z)(i:l.L<=c):NT j ts f d ns (c+1) (aZ H (.o 8 a 0)<|.l<|l++[v]) n:=by
 refine⟨S.1.p (by rfl),S.2,λb h=> ?_,λb h=>cz (S.4 b h) λl e z=>br l e<|dz z,λb h=>S.5 b h⟩
 by_cases g:b=a
 .exact rR g<|br _ hA<|Y aL<|bz i
 .exact cz (S.3 b h) λl e z=>br l ((hN λz=>g (by refine rR (Loc.o.inj z).2.1 ?_;rfl)).t e)<|dz z
def tJ(ts:ao)(ns:ao)(t:Nat):Option (List Nat):=bif has t ts then M ns else bif has t ns then M ns else mQ (fits ns.L) (ns++[t])
noncomputable def x6(b:aa)(a:Nat):Bool:=match b a with
 |[c]=>Cw c Ce&&pD [c]
 |_=>D
def mapKey(a:aa)(A:Nat)(w:ao):List Nat:=a A++[32,45,62,32]++yx (w.m a)
structure Uv where
 r:List (Nat×List Nat)
 n:List Nat
 l:List Nat
 p:List (List Nat)
 c:Nat
def ej(a:aa)(ts:ao)(g:Uv)(r:Nat×List Nat):Option Uv:=
 bif !has r.1 ts&&(!aA r.1 2&&(x6 a r.1&&(allB (x6 a) r.2&&(!has 3 r.2&&(strOk a r.1 r.2&&(fits r.2.L&&(!fw jc (mapKey a r.1 r.2) g.p&&(aO (g.c+r.2.L) 900&&(aO g.r.L 900&&(fits g.l.L&&aO g.p.L 900))))))))))then
  ob (bA Az r.2 []) λx=>ob (bif has r.1 g.n then M g.n else mQ (fits g.n.L) (g.n++[r.1])) λns=>ob (bA (tJ ts) r.2 ns) λns=>M ⟨g.r++[r],ns,bif has r.1 g.l then g.l else g.l++[r.1],g.p++[mapKey a r.1 r.2],g.c+r.2.L⟩
 else aI
inductive GB(nm:aa)(ts:ao)(g:Uv)(H:Hp)(n:Nat):Prop
 |mk (free:∀k m,n<=m->H (.t k m)=aI) (gr:H (.o 1 0 0)=M (.i 283 (HB .N))) (prods:H (.o 1 1 0)=M (.l (.N::(bX g.r.L).m λk=>ax 2 (k+1) 0))) (names:H (.o 1 2 0)=M (.d (g.l.m λa=>(sy nm a,ax 7 a 0)))) (pmap:∃kvs,H (.o 1 3 0)=M (.d kvs)/\kvs.L<=g.p.L/\∀key,fw jc key g.p=D->eK kvs (.s key)=aI) (terms:H (.o 1 4 0)=M (.d (ts.m λa=>(sy nm a,ax 8 a 0)))) (prec:H (.o 1 8 0)=M (.d [])) (nt:NT nm ts n H g.n g.c H n) (by_:∀a,has a g.l=Z->H (.o 7 a 0)=M (.l ((byName a g.r 1).m λk=>ax 2 k 0))) (pr:∀k r,g.r[k]?=M r->∃fs,H (.o 2 (k+1) 0)=M (.i 100 fs)/\PrG nm (k+1) r.1 r.2 fs/\H (.o 2 (k+1) 1)=M (.l ((uniq r.2).m (sy nm)))) (f2:∀k b,(k=0\/g.r.L<k)->H (.o 2 k b)=aI) (f7:∀a,has a g.l=D->H (.o 7 a 0)=aI) (fb:∀a,has a g.l=D->byName a g.r 1=[])
inductive UC(nm:aa):Prop
 |mk (hn:bM nm) (n2:nm 2=[101,114,114,111,114]) (n3:nm 3=[37,112,114,101,99]) (n8:nm 8=[83,39])
theorem zv(h:x6 d a=Z):∃c,d a=[c]/\Cw c Ce=Z/\pD [c]=Z/\Cw c [39,34]=D:=by
 delta x6 at h
 rcases k:d a with _|⟨c,_|_⟩<;>rw[k]at h<;>first|exact bF h|skip
 .obtain⟨j,b⟩:=an h
  refine ie c U j b ?_
  have i:(aA 34 c||D)=Z->aA 34 c=Z:=λh=>by rcases g:aA 34 c with _|_;(rw[g]at h;exact h);(rfl)
  cases f:Cw c [39,34]with
  |false=>rfl
  |true=>
   rcases(oy f).m id λh=>i h with e|e<;>(rw[<-bq e]at b;exact bF b)
noncomputable abbrev LJ(nm:aa)(A kk m:Nat)(v6 v7 v8 v9 v10 v11 v12 v13 v14 v15:V):List V:=[ax 1 0 0,sy nm A,ay kk m,.N,.s [],.I 0,v6,v7,v8,v9,v10,v11,v12,v13,v14,v15]
section
variable{ts:ao}{call:CF}
theorem OQ:∀(l:List c) (i:Nat),foldI (λx x x=>M ()) l i ()=M ()
 :=λb=>b.R (λx=>U) λx r a i=>a<|i+1
theorem acP(P:IdC d call)(L:allB (x6 d) w=Z)(v:b (.t kk m)=M (.l<|w.m<|sy d))(u:m<a)(N:cy w0 a b n H)
  (K:∀l k H' n',cy w0 a b n' H'->Q .n ⟨LJ d A kk m l k r q v10 j g v13 v14 f,H',n'⟩):
  oB call Q ⟨LJ d A kk m l k r q v10 j g v13 v14 f,H,n⟩:=by
 refine B4 ((λN=>(N.j u).t v) N)<|J9 w (λx e=>LJ d A kk m e.1 e.2 r q v10 j g v13 v14 f) (λx H' n'=>cy w0 a b n' H') _ (OQ w 0) (Cb (aD ..) λx H n h=>(λN=>(N.j u).t v) h) (λx e s x i H1 n1 K' p x o T=>hM (zv<|ql L s<|aJ p) λc J I X E=> ?_) (λe H' n' C=>gk<|K _ _ _ _ C) N (g₀:=(l,k))
 have z:(w.m<|sy d).g i .u=.s [c]:=by refine Y aW<|Y aN<|Y p ?_;exact congrArg V.s J
 exact Y z<|jf<|fM U<|fM U<|aM<|.i<|.i<|.I ⟨_,U,0,U,U,c,U,gk<|Mu<|Y E<|fx<|aE<|P I o.4 λS R y=>zH<|x8<|fx<|T.1 (_,_) _ _<|o.T y λx x x x=>U⟩
theorem N?(k:UC b)(u:RtC b call)(j:H (.o 1 0 0)=M (.i 283<|HB .N))(s:H (.o 1 4 0)=M (.d<|ts.m λa=>(sy b a,ax 8 a 0)))(i:H (.o 1 8 0)=M (.d []))(h:H (.t kk m)=M (.l<|w.m<|sy b))(hz:fits w.L=Z)(r:has 3 w=D)
  (K:∀g,Q .n ⟨LJ b A kk m q p l g Iz e d v13 v14 c,H,n⟩):
  mU call Q ⟨LJ b A kk m q p l g v10 e d v13 v14 c,H,n⟩:=by
 refine cg U<|Y (congrArg V.s k.3.s)<|aa7 h U (je _) ?_
 rw[g5 k.1,r]
 exact fx<|aM<|bY U j U<|u h s hz λv f=>fM U<|aE<|bY U j U<|qs i<|cg (v:=v) (by rcases f with rfl|⟨a,rfl⟩<;>rfl)<|gR U<|tK U U i (by rcases f with rfl|⟨a,rfl⟩<;>rfl) U<|K _
theorem N!(hA:fits (b A).L=Z)(s:H (.t kk m)=M (.l<|w.m<|sy b))(hz:fits w.L=Z)(q:allB (x6 b) w=Z)
  (K:Q .n ⟨LJ b A kk m p o l k v10 (.s<|mapKey b A w) e v13 v14 d,H,n⟩):
  mV Q ⟨LJ b A kk m p o l k v10 j e v13 v14 d,H,n⟩:=by
 exact(eI _ U (aU.M ⟨hA,U⟩)<|gk<|br _ U<|.i ⟨_,_,U,s,_,EU w,aU.M ⟨ba hz,(show allB (x6 b) w=Z->(w.m b).a pD=Z from w.R (λ_=>U) λa r i h=>by
  refine hM (zv (an h).1) λc g x f x=> ?_
  show(pD (b a)&&(r.m b).a pD)=Z
  refine Y g<|Y f<|Y (i (an h).2) ?_;rfl) q⟩,gk K⟩)
def ntS(ts:ao)(q:List Nat×Nat)(t:Nat):Option (List Nat×Nat):=ob (tJ ts q.1 t) λns=>mQ (aO q.2 900) (ns,q.2+1)
theorem RP:∀{ns b:ao} {a:Nat},bA (tJ ts) l ns=M b->aO (a+l.L) 900=Z->bA (ntS ts) l (ns,a)=M (b,a+l.L):=by
 induction l with
 |nil=>exact λh _=>rS h U
 |cons t r i=>
  intro ns b a h g
  refine vw h λf d h=> ?_
  have c:=bh.M g
  show ob (ob (tJ ts ns t) _) _=_
  rw[d]
  have e:aO a 900=Z:=bh.m<|lR (zQ 66) U c
  rw[e]
  exact Y ((bo (gD (zQ 9) U) (gD (zQ 8) U):a+(r.L+1)=a+1+r.L))<|i h (by rw[bh];exact lR (zQ 261) U c)
theorem O?(E:bM f)(gr:c (.o 1 0 0)=M (.i 283<|HB .N))(te:c (.o 1 4 0)=M (.d<|ts.m λa=>(sy f a,ax 8 a 0)))(hL:c (.t kk m)=M (.l<|w.m<|sy f))(hm:m<d)(S:NT f ts d c ns b H n)(C:bA (ntS ts) w (ns,b)=M (ns',B'))
  (K:∀v14 H' n',NT f ts d c ns' B' H' n'->Q .n ⟨LJ f A kk m v6 v7 v8 v9 v10 u s (.I<|.o k) v14 r,H',n'⟩):
  jS Q ⟨LJ f A kk m v6 v7 v8 v9 v10 u s (.I<|.o k) v14 r,H,n⟩:=by
 refine bL ((S.1.j hm).t hL)<|ei (λx=>sy f) w _ (λx e=>LJ f A kk m v6 v7 v8 v9 v10 u s (.I<|.o k) e r) (λq H' n'=>NT f ts d c q.1 q.2 H' n') (ntS ts) C (cH λq H n h=>(h.1.3 _ _ hm).t hL) (λq e t q' i H1 n1 K' hi C j T=>bc C λz g C=>ir (cj C) λN X=> ?_) (λe H' n' hP=>gk<|K _ _ _ hP) S;revert T;refine rR X ?_;intro T
 have N:=bh.M N
 have L:=(λS=>(S.1.2 _ _ _ U).t gr) j
 have t1:=(λS=>(S.1.2 _ _ _ U).t te) j
 refine fM U<|bY U L U<|tL t1 U<|Y (uG E (λa=>ax 8 a 0) _ _)<|ot g (λh g=> ?_) λh g=> ?_
 .obtain rfl:=aV g
  obtain⟨l,y,v⟩:=j.3 t h
  refine ff<|bY U L U<|eY t1 U (k9 E h)<|fE y<|gA y (fz (aC v N) U)<|T.1 _ _ _<|j.b h v
 .refine fx<|aM<|bY U L U<|CB j.2 U<|Y (uG E (λa=>ax 9 a 0) _ _) ?_
  have step:∀{R P},NT f ts d c z q.2 R P->has t z=Z->mW K' ⟨LJ f A kk m v6 v7 v8 v9 v10 u s (.I<|.o k) (sy f t) r,R,P⟩:=λ{R P} J p=>by
   have g2:=(λS=>(S.1.2 _ _ _ U).t gr) J
   obtain⟨l,y,v⟩:=J.4 t p
   exact bY U g2 U<|eY J.2 U (k9 E p)<|fE y<|gA y (fz (aC v N) U)<|T.1 _ _ _<|J.u p v
  refine ot g (λI g=> ?_) λI g=> ?_
  .obtain rfl:=aV g
   exact x8<|aE<|step j I
  .revert step;refine rR (cj g).2 ?_;intro step
   refine((b9 (j.5 t I) U<|bY U L U<|ee j.2 U (ba (cj g).1)<|aE<|step (j.N E I) ?_))
   rw[jH,(beq_iff t t).M U,jE]
end
theorem uB(a:Nat)(r:Nat×List Nat):∀(l:aw) (k:Nat),byName a (l++[r]) k=byName a l k++bif aA r.1 a then[k+l.L]else[]
 :=λc=>c.R λk=>by
  show(bif aA r.1 a then k::[]else[])=_
  rcases aA r.1 a with _|_<;>rfl λp l b k=>by
  show(bif aA p.1 a then k::byName a (l++[r]) (k+1)else byName a (l++[r]) (k+1))=(bif aA p.1 a then k::byName a l (k+1)else byName a l (k+1))++_
  refine Y (b<|k+1)<|Y cq<|Y ((bo (gD (zQ 8) U) (gD (zQ 9) U):k+1+l.L=k+(l.L+1))) ?_
  rcases aA p.1 a with _|_<;>rfl
theorem JW(a:Nat):∀(l:aw) (k:Nat),(byName a l k).L<=l.L
 :=λc=>c.R (λx=>lr) λp l b k=>by
  show(bif aA p.1 a then k::byName a l (k+1)else byName a l (k+1)).L<=l.L+1
  have:=b<|k+1
  rcases aA p.1 a with _|_;(exact dz this);(exact bz this)
theorem ja{H:Hp}{a c:Nat}(h:aA c a=D):aZ H (.o k a b) o (.o e c d)=H (.o e c d):=hN λz=>by rw[qb (Loc.o.inj z).2.1]at h;exact bT h
noncomputable def xr(k _ _:Nat):Bool:=aO k 2||(aO 7 k&&aO k 9)
def q!(b:aa)(ts:ao)(call:CF):Prop:=∀{g g':Uv} {A kk m n:Nat} {w:ao} {H:Hp} {Q:ab} {a:aq},GB b ts g H n->H (.t kk m)=M (.l<|w.m<|sy b)->m<n->ej b ts g (A,w)=M g'->
 (∀H' n',GB b ts g' H' n'->cy xr n H n' H'->Q .N ⟨a,H',n'⟩)->call 201 [ax 1 0 0,sy b A,ay kk m] Q ⟨a,H,n⟩
section
variable{call:CF}
theorem GB.o(S:GB f ts g H n)(N:cy w0 n H n' H'):GB f ts g H' n':=
 ⟨N.4,N.t U S.2,N.t U S.3,N.t U S.4,cz S.5 λc e z=>br c (N.t U e) z,N.t U S.6,N.t U S.7,
  ⟨.s N.4,N.t U S.8.2,λt h=>cz (S.8.3 t h) λl e z=>br l (N.t U e) z,λt h=>cz (S.8.4 t h) λl e z=>br l (N.t U e) z,λa h=>N.t U<|(S.8.5 a h)⟩,
  λa h=>N.t U<|(S.9 a h),λk r h=>eV (S.10 k r h) λd e p u=>eI d (N.t U e) p<|N.t U u,λk b h=>N.t U<|(S.11 k b h),λa h=>N.t U<|(S.12 a h),S.13⟩
theorem Qj(h8:UC c)(hI:IdC c call)(hR:RtC c call)(hP:JJ c call)(S:GB c ts g H n)(hL:H (.t kk m)=M (.l<|w.m<|sy c))(hm:m<n)(N:ej c ts g (A,w)=M g')
  (K:∀loc H' n',GB c ts g' H' n'->cy xr n H n' H'->Q .n ⟨loc,H',n'⟩):
  qt call Q ⟨LJ c A kk m v6 v7 v8 v9 v10 v11 v12 v13 v14 v15,H,n⟩:=by
 have hn:=h8.1
 refine ot N (λhc N=>(abJ hc λc1 c2 c3 c4 c5 c6 c7 c8 c9 L c11 c12=> ?_)) λx N=>nS N
 have c1:has A ts=D:=by simpa using c1
 have c2:aA A 2=D:=by simpa using c2
 have c5:has 3 w=D:=by simpa using c5
 have c8:fw jc (mapKey c A w) g.p=D:=by simpa using c8
 have L:=bl L
 have c12:=bl c12
 refine bc N λu eu N=>bc N λns1 e1 N=>bc N λns2 e2 N=> ?_
 revert K;refine rR (sJ N) ?_;intro K
 refine hM (zv c3) λcA hcA hcI x x=> ?_
 have fA:fits (c A).L=Z:=by refine Y hcA ?_;rfl
 refine aM<|(bY U S.2 U<|tL S.6 U ?_)
 rw[uG hn (λa=>ax 8 a 0),c1]
 refine fx<|aE<|aM<|cg U ?_
 have e2':V.s [101,114,114,111,114]=sy c 2:=congrArg V.s h8.2.s
 refine Y e2'<|nY U U<|Y (show dX (sy c A) (sy c 2)=aA A 2 from hn.1 _ _)<|Y c2 ?_
 refine fx<|aE<|aM<|cg U<|Y (show sy c A=.s [cA]from congrArg V.s hcA)<|hI hcI S.1 λH1 n1 N1=>zH<|x8<|aE<|aM<|acP hI c4 hL hm N1 λv6 v7 H2 n2 N2=>aE<|aM ?_
 have d:=S.o N2
 have hL2:=(N2.3 _ _ hm).t hL
 have hm2:=aH hm N2.1
 refine N? h8 hR d.2 d.6 d.7 hL2 c7 c5 λv9=>aE<|aM ?_
 refine N! fA hL2 c7 c4<|aE<|aM<|eV d.5 λC m1 m2 m3=>((bY U d.2 U ?_))
 refine tL m1 U<|Y (m3 _ c8)<|fx<|aE<|aM<|bY U d.2 U ?_
 have lp:(V.N::(bX g.r.L).m λk=>ax 2 (k+1) 0).L=g.r.L+1:=by rw[cq,aD,dy]
 refine uR d.3 (fz (m:=901) (Y lp<|bz L) U)<|Y lp ?_
 refine fM U<|aE<|aM<|(bY U d.2 U<|CB d.8.2 U<|Y (uG hn (λa=>ax 9 a 0) _ _) ?_)
 have go:∀{H3 n3},NT c ts n2 H2 ns1 g.c H3 n3->aR jS (aR (mX call)<|aR mY<|aR mZ m4) Q ⟨LJ c A kk m v6 v7 v8 v9 Iz (.s<|mapKey c A w) v12 (.I<|.o<|g.r.L+1) v14 v15,H3,n3⟩:=λ{H3 n3} T3=>by
  refine aM<|O? (k:=g.r.L+1) hn d.2 d.6 hL2 hm2 T3 (RP e2 c9) λv14 H4 n4 J=>aE<|aM ?_
  have f0:H4 (.o 2 (g.r.L+1) 0)=aI:=J.1.t U<|(d.11 _ _<|.i<|a8 _)
  have f1:H4 (.o 2 (g.r.L+1) 1)=aI:=J.1.t U<|(d.11 _ _<|.i<|a8 _)
  have hL4:=(J.1.3 _ _ hm2).t hL2
  have hm4:=aH hm2 J.1.1
  refine cg U<|cg U<|cg U<|cg U<|cg U<|((CA (r:=.o 2 (g.r.L+1) 0) f0 ?_))
  have NM:cy (wP<|g.r.L+1) n4 H4 (n4+1) (aZ H4 (.o 2 (g.r.L+1) 0)<|.i 100 []):=((cy.s J.1.4).p I6).r
  refine hP c7 c6 eu (aT _ _ _) ((bS _ _ λz=>by cases z).t f1) (hL4) (bU (zQ 2) U hm4) NM.4 λfs E n5 P5 pg5 u5=>R5<|fM U<|aE<|aM ?_
  have N5:cy (wP<|g.r.L+1) n4 H4 n5 E:=NM.T P5.2 λx x x h=>h
  have p:∀k a b,wP (g.r.L+1) k a b=D->wNT k a b=D->E (.o k a b)=H2 (.o k a b):=λk a b h1 s=>N5.t h1<|(J.1.2 _ _ _ s)
  have gr5:E (.o 1 0 0)=_:=(p _ _ _ U U).t d.2
  have pr5:E (.o 1 1 0)=_:=(p _ _ _ U U).t d.3
  have mp5:E (.o 1 3 0)=_:=(p _ _ _ U U).t m1
  refine bY U gr5 U<|fE pr5<|(gA pr5 (fz (m:=901) (Y lp<|bz L) U)<|aE<|aM<|(bY (l:=.o 1 0 0) U gr5 U<|(ee (mp5) U (fz (aC m2 c12) U)<|aE<|kb U U ?_)))
  have pe:(V.N::(bX g.r.L).m λk=>ax 2 (k+1) 0)++[ax 2 (g.r.L+1) 0]=V.N::(bX (g.r++[(A,w)]).L).m λk=>ax 2 (k+1) 0:=by
   refine Y aL<|Y List.length_singleton<|Y Bw<|Y aK ?_;rfl
  refine Y pe ?_
  have X:∀{T n7},cy (λk a b=>aA k 1&&(aA a 1||aA a 2||aA a 3)||aA k 7&&aA a A) n5 E n7 T->T (.o 1 1 0)=M (.l<|V.N::(bX (g.r++[(A,w)]).L).m λk=>ax 2 (k+1) 0)->T (.o 1 3 0)=M (.d<|gi C (.s<|mapKey c A w)<|ax 2 (g.r.L+1) 0)->
    T (.o 1 2 0)=M (.d<|(bif has A g.l then g.l else g.l++[A]).m λa=>(sy c a,ax 7 a 0))->T (.o 7 A 0)=M (.l<|(byName A (g.r++[(A,w)]) 1).m λk=>ax 2 k 0)->Q .n ⟨LJ c A kk m v6 v7 v8 v9 Iz (.s<|mapKey c A w) v12 (.I<|.o<|g.r.L+1) v14<|ax 2 (g.r.L+1) 0,T,n7⟩:=λ{T n7} v q1 q3 q2 q7=>by
   have I:∀{k b},k≠g.r.L+1->T (.o 2 k b)=H2 (.o 2 k b):=λR=>v.t U<|(p _ _ _ (by delta wP;refine Y ((qm R)) ?_;rfl) U)
   have far7:∀{a},a≠A->T (.o 7 a 0)=H2 (.o 7 a 0):=λ{a} ha=>v.t (by refine Y ((qm ha)) ?_;rfl)<|(p _ _ _ U U)
   have ll:(g.r++[(A,w)]).L=g.r.L+1:=by refine Y aL ?_;rfl
   refine K _ _ _ ⟨v.4,v.t U gr5,q1,q2,(eI _ q3 ?_ (λi R=> ?_)),v.t U<|((p _ _ _ U U).t d.6),v.t U<|((p _ _ _ U U).t d.7),⟨.s v.4,(v.2 _ _ _ U).t<|N5.t U J.2,λt h=>cz (J.3 t h) λl e z=>(br l ((v.2 _ _ _ U).t<|N5.t U e) z),λt h=>cz (J.4 t h) λl e z=>(br l ((v.2 _ _ _ U).t<|N5.t U e) z),λa h=>(v.2 _ _ _ U).t<|N5.t U<|(J.5 a h)⟩,λa h=> ?_,λk r h=> ?_,λk b h=> ?_,λa h=> ?_,λa h=> ?_⟩ ?_
   .exact Y aL<|aC (sC _ _ _)<|bz m2
   .have hk':fw jc i g.p=D/\jc (mapKey c A w) i=D:=by
     have:∀l:List (List Nat),fw jc i (l++[mapKey c A w])=(fw jc i l||jc (mapKey c A w) i):=λl=>by
      induction l with
      |nil=>show(jc (mapKey c A w) i||D)=_;rw[ef];rfl
      |cons a r ih=>show(jc a i||fw jc i (r++_))=(jc a i||fw jc i r||_);rw[ih,E2]
     rw[this]at R
     exact on R
    rw[ix,show dX (.s<|mapKey c A w) (.s i)=jc (mapKey c A w) i from U,hk'.2]
    exact m3 i hk'.1
   .by_cases ha:a=A
    .exact Y ha q7
    .rw[uB,(qm λe=>ha e.s),cond_false,bQ]
     exact(far7 ha).t<|d.9 a<|by
      exact bC (b:=has A g.l) (λq=>by rw[q]at h;exact h) λq=>by
       rw[q]at h
       have h:has a (g.l++[A])=Z:=h
       rw[jH,(qm λe=>ha e.s),ef]at h
       exact h
   .by_cases R:k<g.r.L
    .rw[b0 R]at h
     exact eV (d.10 k r h) λfs a1 a2 a3=>(eI fs ((I (by exact(λhz=>zF<|eM (zQ 56) U R<|zG hz))).t a1) a2<|(I (by exact(λhz=>zF<|eM (zQ 56) U R<|zG hz))).t a3)
    .have hlt:=(gL h)
     obtain rfl:k=g.r.L:=by rw[ll]at hlt;exact bo (bU (zQ 33) U hlt)<|bU (zQ 10) U<|cR R
     rw[bO (aG _),uw]at h
     exact rR (sJ h)<|(eI fs (v.t U P5.1) pg5<|v.t U u5)
   .rw[ll]at h
    exact(I (λe=>h.e (λz=>iZ<|z.s.t e) λz=>fY _<|e▸z)).t<|d.11 k b<|h.m id Nat.lt_of_succ_lt
   .have h:has a (bif has A g.l then g.l else g.l++[A])=D:=h
    have s:has a g.l=D/\a≠A:=by
     cases q:has A g.l with
     |true=>
      rw[q]at h
      have h:has a g.l=D:=h
      exact⟨h,λe=>by rw[e,q]at h;cases h⟩
     |false=>
      rw[q]at h
      have h:has a (g.l++[A])=D:=h
      rw[jH]at h
      obtain⟨h1,s⟩:=on h
      exact⟨h1,λe=>by rw[e,(beq_iff A A).M U]at s;cases s⟩
    exact(far7 s.2).t<|d.12 a s.1
   .have h:has a (bif has A g.l then g.l else g.l++[A])=D:=h
    have s:has a g.l=D/\a≠A:=by
     cases q:has A g.l with
     |true=>
      rw[q]at h
      have h:has a g.l=D:=h
      exact⟨h,λe=>by rw[e,q]at h;cases h⟩
     |false=>
      rw[q]at h
      have h:has a (g.l++[A])=D:=h
      rw[jH]at h
      obtain⟨h1,s⟩:=on h
      exact⟨h1,λe=>by rw[e,(beq_iff A A).M U]at s;cases s⟩
    rw[uB,d.13 a s.1,(qm λe=>s.2 e.s)];rfl
   .have y:∀{k j:Nat},xr k 0 0=D->xr j 0 0=Z->aA k j=D:=λ{k j} h1 s=>by
     rw[<-bN,beq_iff]
     intro e;rw[e,s]at h1;exact bT h1
    exact(((N2.l (W':=xr) λx x x x=>U).T J.1 λk a b h=>by delta wNT;refine Y (y h U)<|Y (y h U)<|Y (y h U) ?_;rfl).T N5 λk a b h=>by delta wP;refine Y (y h U) ?_;rfl).T v λk a b h=>by refine Y (y h U)<|Y (y h U) ?_;rfl
  have N6:cy (λk a b=>aA k 1&&(aA a 1||aA a 2||aA a 3)||aA k 7&&aA a A) n5 E n5 (aZ (aZ E (.o 1 1 0)<|.l<|V.N::(bX (g.r++[(A,w)]).L).m λk=>ax 2 (k+1) 0) (.o 1 3 0)<|.d<|gi C (.s<|mapKey c A w)<|ax 2 (g.r.L+1) 0):=((cy.s P5.2.4).p U).p U
  have nA:(λk a (b:Nat)=>aA k 1&&(aA a 1||aA a 2||aA a 3)||aA k 7&&aA a A) 7 A 0=Z:=by show(D||(Z&&aA A A))=Z;refine Y (bR A) ?_;rfl
  have gr6:(aZ (aZ E (.o 1 1 0)<|.l<|V.N::(bX (g.r++[(A,w)]).L).m λk=>ax 2 (k+1) 0) (.o 1 3 0)<|.d<|gi C (.s<|mapKey c A w)<|ax 2 (g.r.L+1) 0) (.o 1 0 0)=M (.i 283<|HB .N):=(gr5)
  have P:(aZ (aZ E (.o 1 1 0)<|.l<|V.N::(bX (g.r++[(A,w)]).L).m λk=>ax 2 (k+1) 0) (.o 1 3 0)<|.d<|gi C (.s<|mapKey c A w)<|ax 2 (g.r.L+1) 0) (.o 1 2 0)=M (.d<|g.l.m λa=>(sy c a,ax 7 a 0)):=(((((p _ _ _ U U).t d.4))))
  have eb:byName A (g.r++[(A,w)]) 1=byName A g.r 1++[g.r.L+1]:=by
   rw[uB,(bR A),ur 1];rfl
  have q3:(aZ (aZ E (.o 1 1 0)<|.l<|V.N::(bX (g.r++[(A,w)]).L).m λk=>ax 2 (k+1) 0) (.o 1 3 0)<|.d<|gi C (.s<|mapKey c A w)<|ax 2 (g.r.L+1) 0) (.o 1 1 0)=_:=((ja U))
  have q4:=aT (aZ E (.o 1 1 0)<|.l<|V.N::(bX (g.r++[(A,w)]).L).m λk=>ax 2 (k+1) 0) (.o 1 3 0)<|.d<|gi C (.s<|mapKey c A w)<|ax 2 (g.r.L+1) 0
  refine bY U gr6 U<|cg U ?_
  exact bC (b:=has A g.l) (λq=>by
   rw[q]at X
   refine TJ P U (k9 hn (f:=λa=>ax 7 a 0) q)<|fE ((((((p _ _ _ U U))))).t<|d.9 A q)<|(gA ((((((p _ _ _ U U))))).t<|d.9 A q) ?_ ?_)
   .rw[aD,cG]
    exact decide_eq_true<|aC (JW A g.r 1)<|aC L (by decide)
   .refine X (N6.p nA) (q3) (q4) (P)<|(aT _ _ _).t<|Y eb<|Y aK ?_;rfl) λq=>by
   rw[q]at X
   refine EX P U (by rw[vF hn,q];rfl) ⟨.h _,(b9 (r:=.o 7 A 0) ((((((p _ _ _ U U))))).t<|d.12 A q) U ?_)⟩
   refine bY (l:=.o 1 0 0) U gr6 U<|(ee (P) U (ba c11)<|Y (md hn (λa=>ax 7 a 0) A _ g.l q)<|X ((N6.p nA).r.p U) (((ja U))) ((q4)) (?_)<|(((aT _ _ _).t ?_)))
   .exact congrArg (λl=>M<|O.d l) (aK (l₂:=[A])).s
   .refine Y eb<|Y (d.13 A q) ?_;rfl
 refine ot e1 (λh e1=> ?_) λh e1=> ?_
 .exact x8<|aE<|go<|(sJ e1)▸d.8
 .revert go;refine rR ((cj e1)).2 ?_;intro go
  exact((b9 (r:=.o 9 A 0) (d.8.5 A h) U<|bY (l:=.o 1 0 0) U d.2 U<|(ee (d.8.2) U (ba ((cj e1)).1)<|aE<|go<|d.8.N hn h)))
end
theorem X7(i:UC a)(d:Nat)(h:IdC a (dT d))(g:RtC a (dT d))(f:JJ a (dT d)):q! a ts (dT<|d+1):=λS e c b K=>by
 refine Y (show dT (d+1) 201=gw fP (qt<|dT d) 3 [.N,.s [],.I 0]from by kernel_rfl) ?_
 exact⟨U,Qj i h g f S e c b λx=>K⟩
noncomputable def Z1(k _ _:Nat):Bool:=aO k 11
inductive Jy(fs:ar)(D':Hp)(cu:Nat)(cC H:Hp)(n:Nat):Prop
 |mk (at_:H (.o 1 0 0)=M (.i 283 fs)) (ob:∀k a b,aO k 11=Z->(Loc.o k a b)≠.o 1 0 0->H (.o k a b)=D' (.o k a b)) (now:cy Z1 cu cC n H)
theorem Hy{K:ab}(S:Jy t c e d H n)(i:aO k 11=Z)(h:Loc.o k a b≠.o 1 0 0)(s:c (.o k a b)=aI)(q:∀H',Jy t (aZ c (.o k a b) o) e d H' (n+1)->H' (.o k a b)=M o->K (ax k a b) ⟨g,H',n+1⟩):iB o K ⟨g,H,n⟩:=by
 refine eJ ((S.2 _ _ _ i h).t s)<|q _ ⟨(hN λz=>h z.s).t S.1,λr p m l j=> ?_,(S.3.p i).r⟩<|hA
 by_cases f:Loc.o r p m=.o k a b
 .rw[f,aT,aT]
 .rw[hN f,hN f];exact S.2 _ _ _ l j
theorem DF{K:aj}(S:Jy e a c b H n)(g:fits e.L=Z)(q:∀H',Jy (j9 e j v) a c b H' n->K () ⟨ax 1 0 0::r,H',n⟩):sA 0 j v K ⟨ax 1 0 0::r,H,n⟩:=
 AF U S.1 g<|q _ ⟨hA,λk i h f d=>(hN d).t<|S.2 _ _ _ f d,S.3.p U⟩
theorem Kb(S:Jy q c e d H n)(p:aO k 11=Z)(m:Loc.o k a b≠.o 1 0 0):Jy q (aZ c (.o k a b) o) e d (aZ H (.o k a b) o) n:=by
 refine⟨(hN λz=>m z.s).t S.1,λl j i h g=> ?_,S.3.p p⟩
 by_cases f:Loc.o l j i=.o k a b
 .rw[f,aT,aT]
 .rw[hN f,hN f];exact S.2 _ _ _ h g
def Wf(d:aa)(ts:ao)(c:Hp):Hp:=λl=>match l with
 |.o k a b=>bif aA k 8&&aA b 0 then(bif has a ts then M (.l [])else aI)else bif aA k 1&&(aA a 4&&aA b 0)then M (.d<|ts.m λa=>(sy d a,ax 8 a 0))else c l
 |_=>c l
theorem W4(S:Jy p (Wf l ts c) f e H n)(h:lV ts t=M j):Jy p (Wf l j c) f e (aZ (aZ H (.o 8 t 0)<|.l []) (.o 1 4 0)<|.d<|(ts.m λa=>(sy l a,ax 8 a 0))++[(sy l t,ax 8 t 0)]) (n+1):=by
 refine Y (jW h).2.2 ?_
 have v:∀o,aZ H (.o 8 t 0) o (.o 1 0 0)=M (.i 283 p):=λo=>S.1
 refine⟨v _,λk a b d u=> ?_,((S.3.p U).p U).r⟩
 by_cases i:Loc.o k a b=.o 1 4 0
 .refine Y i ?_
  show _=M (O.d _)
  refine Y aK ?_;rfl
 .rw[bS _ _ i]
  by_cases g:Loc.o k a b=.o 8 t 0
  .refine Y g ?_
   rw[aT]
   show _=bif has t (ts++[t])then M (O.l [])else aI
   rw[jH,(beq_iff t t).M U,jE];rfl
  .refine Y (bS _ _ g)<|Y (S.2 _ _ _ d u) ?_
   show(bif aA k 8&&aA b 0 then bif has a ts then M (O.l [])else aI else bif aA k 1&&(aA a 4&&aA b 0)then _ else c _)=bif aA k 8&&aA b 0 then bif has a (ts++[t])then M (O.l [])else aI else bif aA k 1&&(aA a 4&&aA b 0)then _ else c _
   rcases m:aA k 8&&aA b 0 with _|_;(
    exact bC (b:=aA k 1&&(aA a 4&&aA b 0)) (λd=>by
     exact Y d<|OW d λs r q=>absurd (Y ((beq_iff _ _).m s)<|Y ((beq_iff _ _).m r)<|Y ((beq_iff _ _).m q) U) i) λd=>by refine Y d ?_;rfl);(
    have:aA t a=D:=by
     rw[<-bN,beq_iff]
     intro z
     exact g<|Y ((beq_iff _ _).m (aU.m m).1)<|Y ((beq_iff _ _).m (aU.m m).2)<|Y z U
    rw[jH,this,ef];rfl)
theorem Vi(k:bM e){K:ah}(S:Jy i (Wf e ts b) d c H n)(g:fO i 22=M (ax 1 4 0))(h:lV ts t=M f)
  (q:∀H',Jy i (Wf e f b) d c H' (n+1)->K .n ⟨[ax 1 0 0,v1,sy e t],H',n+1⟩):CI K ⟨[ax 1 0 0,v1,sy e t],H,n⟩:=by
 refine b9 (r:=.o 8 t 0) ((S.2 _ _ _ U λz=>by cases z).t (by show(bif has t ts then _ else aI)=_;refine Y (jW h).1 ?_;rfl)) U ?_
 have j:∀o,aZ H (.o 8 t 0) o (.o 1 0 0)=M (.i 283 i):=λo=>S.1
 exact bY U (j<|.l []) g<|(ee ((S.2 _ _ _ U λz=>by cases z)) U (ba (jW h).2.1)<|Y (md k (λa=>ax 8 a 0) t _ ts (jW h).1)<|q _<|W4 S h)
theorem YO(j:UC i){K:ah}(S:Jy g (Wf i ts b) d c H n)(f:fO g 22=M (ax 1 4 0))(h:lV ts 2=M e)
  (q:∀H',Jy g (Wf i e b) d c H' (n+1)->K .n ⟨[ax 1 0 0,v1,p],H',n+1⟩):CJ K ⟨[ax 1 0 0,v1,p],H,n⟩:=by
 show(bj [] λm=>B 0 22 λl=>cM l (.s [101,114,114,111,114]) m<|nx K) _
 exact Y (congrArg V.s j.2.s)<|by
   refine b9 (r:=.o 8 2 0) ((S.2 _ _ _ U λz=>by cases z).t (by show(bif has 2 ts then _ else aI)=_;refine Y (jW h).1 ?_;rfl)) U ?_
   have k:∀o,aZ H (.o 8 2 0) o (.o 1 0 0)=M (.i 283 g):=λo=>S.1
   exact bY U (k<|.l []) f<|ee ((S.2 _ _ _ U λz=>by cases z)) U (ba (jW h).2.1)<|Y (md j.1 (λa=>ax 8 a 0) 2 _ ts (jW h).1)<|q _<|W4 S h
def PM(e:aa)(call:CF):Prop:=∀{w ts d:ao} {kk m n:Nat} {H:Hp} {Q:ab} {c:aq},H (.o 1 0 0)=M (.i 283 [])->(∀k a b,aO k 11=Z->Loc.o k a b≠.o 1 0 0->H (.o k a b)=aI)->H (.t kk m)=M (.l<|w.m<|sy e)->m<n->(∀k m,n<=m->H (.t k m)=aI)->bA lV w []=M ts->lV ts 2=M d->
 (∀H' n',GB e d ⟨[],[],[],[],0⟩ H' n'->H' (.o 10 0 0)=M (.d [])->H' (.o 11 0 0)=M (.d [])->(∀k a b,aO 2 k=Z->aO k 7=Z->H' (.o k a b)=aI)->cy Z1 n H n' H'->Q .N ⟨c,H',n'⟩)->call 172 [ax 1 0 0,ay kk m] Q ⟨c,H,n⟩
theorem Kc(h8:UC C){call:CF}(hg:H (.o 1 0 0)=M (.i 283 []))(h0:∀k a b,aO k 11=Z->Loc.o k a b≠.o 1 0 0->H (.o k a b)=aI)(hL:H (.t kk m)=M (.l<|w.m<|sy C))(hm:m<n)(hf:∀k m,n<=m->H (.t k m)=aI)(A:bA lV w []=M ts)(y:lV ts 2=M E)
  (K:∀X H' n',GB C E ⟨[],[],[],[],0⟩ H' n'->H' (.o 10 0 0)=M (.d [])->H' (.o 11 0 0)=M (.d [])->(∀k a b,aO 2 k=Z->aO k 7=Z->H' (.o k a b)=aI)->cy Z1 n H n' H'->Q .n ⟨X,H',n'⟩):
  Ih call Q ⟨[ax 1 0 0,ay kk m,v2],H,n⟩:=by
 have S0:Jy [] (λx=>aI) n H H n:=⟨hg,h0,.s hf⟩
 refine aM<|⟨U,Hy (a:=1) (b:=0) S0 U (λz=>by cases z) U λv f x=>DF f U λH2 S2=>aE<|aM<|Hy (a:=2) (b:=0) S2 U (λz=>by cases z) U λv f x=>DF f U λH3 S3=>aE<|aM<|Hy (a:=3) (b:=0) S3 U (λz=>by cases z) U λv f x=>DF f U λH4 S4=>aE<|aM<|Hy (a:=4) (b:=0) S4 U (λz=>by cases z) U λv f x=>DF f U λH5 I=>aE<|aM ?_⟩
 have S:Jy [(19,ax 1 1 0),(20,ax 1 2 0),(21,ax 1 3 0),(22,ax 1 4 0)] (Wf C []<|aZ (aZ (aZ (λx=>aI) (.o 1 1 0)<|.l [.N]) (.o 1 2 0)<|.d []) (.o 1 3 0)<|.d []) n H H5 (n+1+1+1+1):=by
  refine⟨I.1,λk a b d e2=>(I.2 k a b d e2).t ?_,I.3⟩
  by_cases R:Loc.o k a b=.o 1 4 0
  .refine Y R ?_;rfl
  .rw[bS _ _ R]
   show _=bif aA k 8&&aA b 0 then aI else bif aA k 1&&(aA a 4&&aA b 0)then _ else _
   cases e8:aA k 8&&aA b 0 with
   |true=>
    exact Y ((beq_iff _ _).m (aU.m e8).1)<|((b8 U))
   |false=>
    rcases d:aA k 1&&(aA a 4&&aA b 0)with _|_;(rfl);(
     exact OW d λx1 x2 x3=>absurd ((Y ((beq_iff _ _).m x1)<|Y ((beq_iff _ _).m x2)<|Y ((beq_iff _ _).m x3) U)) R)
 refine bL ((I.3.3 _ _ hm).t hL)<|ei (λx=>sy C) w (λi=>.L (.t kk m,i)) (λx e=>[ax 1 0 0,ay kk m,e]) (λq H' n'=>Jy _ (Wf C q _) n H H' n') lV A (cH λx H' n' S'=>(S'.3.3 _ _ hm).t hL) (λq e s q' i H' n' K' hi hf hP T=> ?_) (λe H6 n6 S6=> ?_) S
 .exact fM U<|Vi h8.1 hP U hf λH7 P=>T.1 _ _ _ P
 .refine aE<|aM<|YO h8 S6 U y λH7 P=>aE<|aM ?_
  have d5:∀{ts a},aA a 4=D->Wf C ts (aZ (aZ (aZ (λx=>aI) (.o 1 1 0)<|.l [.N]) (.o 1 2 0)<|.d []) (.o 1 3 0)<|.d []) (.o 1 a 0)=aZ (aZ (aZ (λx=>aI) (.o 1 1 0)<|.l [.N]) (.o 1 2 0)<|.d []) (.o 1 3 0) (.d []) (.o 1 a 0):=λ{ts a} h=>by
   show(bif Z&&aA a 4&&Z then _ else _)=_
   refine Y h ?_;rfl
  refine Hy (a:=5) P U (λz=>by cases z) (d5 U) λv f x=>DF f U λH8 S8=>aE<|aM<|Hy (k:=10) (a:=0) (b:=0) S8 U (λz=>by cases z) U λv f x=>DF f U λH9 S9=>aE<|aM<|Hy (k:=11) (a:=0) (b:=0) S9 U (λz=>by cases z) U λv f x=>DF f U λH10 N=>aE<|aM ?_
  refine Hy (a:=8) (b:=0) N U (λz=>by cases z) ((b8 U).t<|((ja U))) λv f x=>DF f U λH11 g=>aE<|aM<|⟨U,(Loc.o 1 9 0),(((g.2 1 9 0 U λz=>by cases z).t<|(ja U).t<|(b8 U).t<|((ja U)))),((DF (⟨((Kb g U λz=>by cases z)).1,((Kb g U λz=>by cases z)).2,((Kb g U λz=>by cases z)).3.r⟩) U λH12 L=>aE<|DF L U λu c=> ?_))⟩
  have p:∀k a b,aO 2 k=Z->aO k 7=Z->u (.o k a b)=aI:=λk a b A y=>by
   have d:∀j,aO j 1=Z\/aO 8 j=Z->aA k j=D:=λj l=>by
    rw[<-bN,beq_iff]
    exact λe=>l.e (λl=>absurd (aC (bh.M A)<|aC (zE e)<|bh.M l) (by decide)) λl=>absurd (aC (bh.M l)<|aC (zG e)<|bh.M y) (by decide)
   refine(c.2 k a b (bh.m<|aC (bh.M y) (by decide)) λz=>by cases z;exact bF A).t<|(b8<|d _<|.I U).t<|(b8<|d _<|.I U).t<|(b8<|d _<|.i U).t<|(b8<|d _<|.i U).t<|(b8<|d _<|.I U).t ?_
   show(bif aA k 8&&aA b 0 then _ else bif aA k 1&&(aA a 4&&aA b 0)then _ else _)=aI
   exact Y (d 8<|.i U)<|Y (d 1<|.I U)<|(b8<|d _<|.I U).t<|(b8<|d _<|.I U).t<|b8<|d _<|.I U
  have J:∀a,aO a 3=Z->Loc.o 1 a 0≠.o 1 0 0->u (.o 1 a 0)=aZ (aZ (aZ (λx=>aI) (.o 1 1 0)<|.l [.N]) (.o 1 2 0)<|.d []) (.o 1 3 0) (.d []) (.o 1 a 0):=λa A y=>by
   have d:∀j,aO 4 j=Z->aA a j=D:=λj l=>by
    rw[<-bN,beq_iff]
    exact λe=>absurd (aC (bh.M l)<|aC (zG e)<|bh.M A) (by decide)
   exact(c.2 1 a 0 U y).t<|(ja<|d _ U).t<|(ja<|d _ U).t<|(b8 U).t<|(b8 U).t<|(ja<|d _ U).t<|d5<|d _ U
  have o8:∀t,u (.o 8 t 0)=bif has t E then M (.l [])else aI:=λt=>(c.2 8 t 0 U λz=>by cases z).t ((b8 U).t ((b8 U).t ((b8 U).t U)))
  refine K _ _ _ ⟨c.3.4,c.1,(J 1 U λz=>by cases z).t (((ja U))),(J 2 U λz=>by cases z),(eI [] (J 3 U λz=>by cases z) (aG _) λx x=>U),?_,?_,⟨.s c.3.4,?_,λt h=>br [] ((o8 t).t (by refine Y h ?_;rfl)) (aG _),λt h=>bF h,λa x=>(λt=>(c.2 9 t 0 U λz=>by cases z).t ((b8 U).t ((b8 U).t ((b8 U).t ((b8 U).t ((b8 U).t ((((b8 U)):aZ (aZ (aZ (λx=>aI) (.o 1 1 0) (.l [V.N])) (.o 1 2 0) (.d [])) (.o 1 3 0) (.d []) (.o 9 t 0)=aI)))))))) a⟩,λa h=>bF h,λk r h=>nS h,λk b x=> ?_,λa x=>p _ _ _ U U,λx x=>U⟩ ?_ ?_ p c.3
  .exact(c.2 1 4 0 U λz=>by cases z).t ((ja U).t ((ja U).t ((b8 U).t U)))
  .exact c.2 1 8 0 U λz=>by cases z
  .exact(c.2 1 5 0 U λz=>by cases z).t ((ja U).t ((ja U).t (((b8 U)))))
  .exact p _ _ _ U U
  .exact(c.2 10 0 0 U λz=>by cases z).t ((b8 U).t (((b8 U))))
  .exact(c.2 11 0 0 U λz=>by cases z).t (((b8 U)))
theorem Q3(j:UC i)(d:Nat):PM i (dT<|d+1):=λh g f e c b a K=>(Y (show dT (d+1) 172=gw vh (Ih<|dT d) 2 []from by kernel_rfl) ⟨U,Kc j h g f e c b a λx=>K⟩)
theorem Zj{H:Hp}(h:H l=M (.l vs))(d:bg k vs.L=Z)(c:fits vs.L=Z)(q:b () ⟨a,aZ H l<|.l<|vs.s k w,n⟩):cM (.L l) (.I<|.o k) w b ⟨a,H,n⟩:=
 .I ⟨l,vs,U,h,k,U,aU.M ⟨d,c⟩,q⟩
inductive GF(nm:aa)(g:Gr)(st:V)(H:Hp)(n:Nat):Prop
 |mk (gs:GS nm g st H) (pr:∀k,k<g.p.L->∃fs,H (.o 2 k 0)=M (.i 100 fs)/\PZ nm g k fs/\fs.L<=15) (us:UK nm g H) (free:∀k m,n<=m->H (.t k m)=aI)
noncomputable def Ke(ts:ao)(s:Nat)(g:Uv):Gr:=⟨(8,[s])::g.r,ts,g.n,g.l⟩
def P7(a:aa)(ts:ao)(call:CF):Prop:=∀{g:Uv} {s n:Nat} {H:Hp} {Q:ab} {b:aq},GB a ts g H n->fits (a s).L=Z->aA (a s).L 0=D->strOk a 8 [s]=Z->has s g.n=Z->aO g.c 900=Z->fits (g.r.L+1)=Z->
 (∀H' n',GF a (Ke ts s g) (sy a s) H' n'->cy xr n H n' H'->Q .N ⟨b,H',n'⟩)->call 209 [ax 1 0 0,sy a s] Q ⟨b,H,n⟩
theorem KW(h8:UC e){call:CF}(hP:JI e call)(S:GB e ts g H n)(f1:fits (e s).L=Z)(f2:aA (e s).L 0=D)(f3:strOk e 8 [s]=Z)(E:has s g.n=Z)(hc:aO g.c 900=Z)(hr:fits (g.r.L+1)=Z)
  (K:∀C H' n',GF e (Ke ts s g) (sy e s) H' n'->cy xr n H n' H'->Q .n ⟨C,H',n'⟩):
  wD call Q ⟨[ax 1 0 0,sy e s],H,n⟩:=by
 have X:=h8.1
 refine aM<|Se f1<|Y f2 fx<|aE<|aM<|bY U S.2 U<|CB S.8.2 U ?_
 rw[uG X λa=>ax 9 a 0,E]
 refine fx<|aE<|aM<|b9 (r:=.t 97 n) (S.1 _ _<|aG _) U ?_
 have e8:=congrArg V.s h8.4.s
 refine Y e8 ?_
 have g0:aZ H (.t 97 n) (.l [sy e s]) (.o 2 0 0)=aI:=S.11 0 0<|.I U
 refine CA g0 ?_
 have T:cy (wP 0) n H (n+1+1) (aZ (aZ H (.t 97 n)<|.l [sy e s]) (.o 2 0 0)<|.i 100 []):=((cy.s S.1).e.p I6).r
 refine hP (u:=[s]) U f3 U (aT _ _ _) (S.11 0 1<|.I U) (aT _ _ _) (du (zQ 5) U) T.4 λi A n2 R c u2=>R5 ?_
 have j:=T.T R.2 λx x x h=>h
 have q:=(j.2 _ _ _ U).t S.2
 have z:=(j.2 _ _ _ U).t S.3
 refine bY U q U ?_
 have lp:(V.N::(bX g.r.L).m λk=>ax 2 (k+1) 0).L=g.r.L+1:=by rw[cq,aD,dy]
 refine Zj z (by rfl) (Y lp hr)<|aE<|aM ?_
 have p:=q
 refine cz (S.8.4 s E) λP N z9=>bY U p U<|eY ((j.2 _ _ _ U).t S.8.2) U (k9 X E)<|fE ((j.2 _ _ _ U).t N)<|gA ((j.2 _ _ _ U).t N) ?_<|aE ?_
 .rw[cG];exact decide_eq_true<|aC z9<|aC (bh.M hc) (by decide)
 generalize y:(V.N::(bX g.r.L).m λk=>ax 2 (k+1) 0).s 0 (ax 2 0 0)=L at*
 refine AF U p U ?_
 have J:cy xr n H n2 (aZ (aZ (aZ A (.o 1 1 0)<|.l L) (.o 9 s 0)<|.l<|P++[.I 0]) (.o 1 0 0)<|.i 283<|j9 (HB .N) 28<|sy e s):=(((j.l λk a b h=>by
  delta wP
  exact bC (b:=aA k 2) (λw=>by rw[(beq_iff _ _).m w]at h;exact bT h) λw=>by refine Y w ?_;rfl).p U).p U).p U
 have l:∀a,aA a 0=D->aA a 1=D->aZ (aZ (aZ A (.o 1 1 0)<|.l L) (.o 9 s 0)<|.l<|P++[.I 0]) (.o 1 0 0) (.i 283<|j9 (HB .N) 28<|sy e s) (.o 1 a 0)=H (.o 1 a 0):=λa h1 h9=>(ja h1).t<|(ja h9).t<|j.2 _ _ _ U
 have I:∀k,k<(Ke ts s g).p.L->∃i,A (.o 2 k 0)=M (.i 100 i)/\PZ e (Ke ts s g) k i/\i.L<=15:=λk d=>by
  rcases k with _|k;(exact eI i R.1 (kb ⟨c.1,c.2,c.3,c.4,c.5⟩ c.6 c.7) c.8);(
   have d:=fC d
   refine eV (S.10 k _<|aP d) λi m f x=> ?_
   have el:(Ke ts s g).l (k+1)=g.r[k].1:=congrArg eA<|(aW ..).t (by refine Y (U:(Ke ts s g).p[k+1]?=g.r[k]?)<|Y (aP d) ?_;rfl)
   have v:(Ke ts s g).r (k+1)=g.r[k].2:=congrArg d9<|(aW ..).t (by refine Y (U:(Ke ts s g).p[k+1]?=g.r[k]?)<|Y (aP d) ?_;rfl)
   refine(eI i ((j.2 _ _ _ ?_).t m) (kb ⟨Y el f.1,Y v f.2,f.3,Y v f.4,f.5⟩ f.6 f.7) f.8)
   rfl)
 refine K _ _ _ ⟨⟨aT _ _ _,?_,(l 2 U U).t S.4,(l 4 U U).t S.6,(l 5 U U).t S.8.2,λa h=>(j.2 _ _ _ U).t<|S.9 a h,λk d=>eV (I k d) λi m f x=>br i m f.1⟩,λk d=>cz (I k d) λi m f=>br i m f,λk d=> ?_,J.4⟩ J
 .refine(ja U).t<|rR y<|Y List.range_succ_eq_map<|Y dc<|Y dQ ?_;rfl
 .rcases k with _|k;(exact u2);(
   have d:=fC d
   refine eV (S.10 k _<|aP d) λi x x a3=> ?_
   have v:(Ke ts s g).r (k+1)=g.r[k].2:=congrArg d9<|(aW ..).t (by refine Y (U:(Ke ts s g).p[k+1]?=g.r[k]?)<|Y (aP d) ?_;rfl)
   refine(j.2 _ _ _ U).t<|a3.t ?_
   delta Gr.u;exact Y v U)
theorem Tg(j:UC a)(d:Nat)(i:JI a (dT d)):P7 a ts (dT<|d+1):=λS h g f e c b K=>Y (show dT (d+1) 209=gw jb (wD<|dT d) 2 []from by kernel_rfl) ⟨U,KW j i S h g f e c b λx=>K⟩
def yQ(l:Loc)(f:qJ)(call:CF):Prop:=∀{a:au} {st:V} {Q:ab} {σ:St},σ.h (.o 1 0 0)=M (.i 283<|HB st)->σ.h l=M (.d a)->fits a.L=Z->aA a.L 0=D->Q (.L l) σ->call f [ax 1 0 0] Q σ
theorem X8(d:Nat):yQ (.o 10 0 0) 265 (dT<|d+1):=λ{a st Q σ} g h f z K=>by
 refine Y sr ?_
 exact⟨U,aM<|bY U g U<|KD h f<|Y z<|ff<|bY U g U<|oz K⟩
theorem X9(d:Nat):yQ (.o 11 0 0) 273 (dT<|d+1):=λ{a st Q σ} g h f z K=>by
 refine Y q8 ?_
 exact .I ⟨U,aM<|bY U g U<|KD h f<|Y z<|ff<|bY U g U<|oz K⟩
noncomputable def Xs(k _ _:Nat):Bool:=aO 20 k&&aO k 33
inductive L?(fs:ar)(D':Hp)(cu:Nat)(cC H:Hp)(n:Nat):Prop
 |mk (at_:H (.o 20 0 0)=M (.i 427 fs)) (ob:∀k a b,Xs k a b=Z->(Loc.o k a b)≠.o 20 0 0->H (.o k a b)=D' (.o k a b)) (now:cy Xs cu cC n H)
theorem KZ{K:ab}(S:L? t c e d H n)(i:Xs k a b=Z)(h:Loc.o k a b≠.o 20 0 0)(s:c (.o k a b)=aI)(q:∀H',L? t (aZ c (.o k a b) o) e d H' (n+1)->K (ax k a b) ⟨g,H',n+1⟩):iB o K ⟨g,H,n⟩:=by
 refine eJ ((S.2 _ _ _ i h).t s)<|q _ ⟨(hN λz=>h z.s).t S.1,λr p m l j=> ?_,(S.3.p i).r⟩
 by_cases f:Loc.o r p m=.o k a b
 .rw[f,aT,aT]
 .rw[hN f,hN f];exact S.2 _ _ _ l j
theorem zY{K:aj}(S:L? e a c b H n)(g:fits e.L=Z)(q:∀H',L? (j9 e j v) a c b H' n->K () ⟨ax 20 0 0::r,H',n⟩):sA 0 j v K ⟨ax 20 0 0::r,H,n⟩:=
 AF U S.1 g<|q _ ⟨hA,λk i h f d=>(hN d).t<|S.2 _ _ _ f d,S.3.p U⟩
inductive UG(nm:aa)(g:Gr)(st:V)(xs:ao)(s:Nat)(Fo:aa)(H:Hp)(n:Nat):Prop
 |mk (gf:GF nm g st H n) (fi:H (.o 10 0 0)=M (.d (xs.m λa=>(sy nm a,ax 5 a 0)))) (fo:G0 nm g s Fo H) (z1:fits xs.L=Z/\aA xs.L 0=D) (z2:fits g.n.L=Z/\aA g.n.L 0=D) (ok:r0 g) (short:∀k,k<g.p.L->(g.r k).L+1<=900) (fr:∀k a b,aA k 3=Z\/aA k 4=Z\/aA k 12=Z->H (.o k a b)=aI) (up:∀k a b,Xs k a b=Z->Loc.o k a b≠.o 20 0 0->H (.o k a b)=aI) (t0:H (.o 90 0 0)=M (.t 0)) (t1:H (.o 91 0 0)=M (.t 3))
def JK(d:aa)(call:CF):Prop:=∀{a:Bool} {g:Gr} {st:V} {e:ao} {s:Nat} {c:aa} {C:List (List Itm)} {t:xA} {Q:ab} {b:aq} {H:Hp} {n:Nat},UG d g st e s c H n->H (.o 20 0 0)=M (.i 427 [])->jA a g c=M (C,t)->
 (∀H' n',JL d t H'->H' (.o 25 0 1)=M (.l [])->H' (.o 25 0 2)=M (.l [])->(∃c',H' (.o 20 0 0)=M (.i 427<|ON (gQ a) c'))->(∀k m,m<n->H' (.t k m)=H (.t k m))->(∀k m,n'<=m->H' (.t k m)=aI)->n<=n'->M8 H'->Q .N ⟨b,H',n'⟩)->call 333 [ax 20 0 0,ax 1 0 0,gQ a] Q ⟨b,H,n⟩
theorem HU{call:CF}:sd call (kS "build_lritems") 283=M (call 280):=by kernel_rfl
theorem vK{call:CF}:sd call (kS "compute_follow") 283=M (call 273):=by kernel_rfl
theorem HX{call:CF}:sd call (kS "lr_parse_table") 427=M (call 424):=by kernel_rfl
theorem K0{call:CF}(hB:Jv nm call)(h1:yQ (.o 10 0 0) 265 call)(h2:yQ (.o 11 0 0) 273 call)(hT:X0 nm call){st:V}(R:UG nm g st xs s Fo H n)(h20:H (.o 20 0 0)=M (.i 427 []))(hf:jA c g Fo=M (C,t))
  (K:∀loc H' n',JL nm t H'->H' (.o 25 0 1)=M (.l [])->H' (.o 25 0 2)=M (.l [])->(∃c',H' (.o 20 0 0)=M (.i 427<|ON (gQ c) c'))->(∀k m,m<n->H' (.t k m)=H (.t k m))->(∀k m,n'<=m->H' (.t k m)=aI)->n<=n'->M8 H'->Q .n ⟨loc,H',n'⟩):
  Ii call Q ⟨[ax 20 0 0,ax 1 0 0,gQ c,v3],H,n⟩:=by
 refine aM<|(b9 (r:=.t 98 n) (R.1.4 _ _<|lr) U<|pF (hA) (by cases c<;>rfl) U<|Y ((by cases c<;>rfl:qq (gQ c) [.s [83,76,82],.s [76,65,76,82]]=true)) ?_)
 have S1:L? [] (λx=>aI) n H (aZ H (.t 98 n)<|.l [.s [83,76,82],.s [76,65,76,82]]) (n+1):=⟨gY.t h20,λk a b L J=>gY.t<|R.9 k a b L J,(cy.s R.1.4).e⟩
 refine fx<|aE<|aM<|(zY S1 U λH2 S2=>aE<|aM<|(zY S2 U λH3 S3=>aE<|aM<|KZ (k:=21) (a:=0) (b:=0) S3 U (λz=>by cases z) U λH4 S4=>zY S4 U λH5 S5=>aE<|aM ?_))
 refine KZ (k:=22) (a:=0) (b:=0) S5 U (λz=>by cases z) U λH6 S6=>zY S6 U λH7 S7=>aE<|aM<|bY (v:=ax 1 1 0) U ((S7.3.2 1 0 0 U).t R.1.1.1) U<|zY S7 U λH8 S8=>aE<|aM<|KZ (k:=23) (a:=0) (b:=0) S8 U (λz=>by cases z) U λH9 S9=>zY S9 U λH10 S10=>aE<|aM<|KZ (k:=24) (a:=0) (b:=0) S10 U (λz=>by cases z) U λH11 S11=>zY S11 U λH12 S12=>aE<|aM ?_
 refine zY S12 U λH13 S13=>aE<|aM<|zY S13 U λH14 S14=>aE<|aM<|zY S14 U λH15 S15=>aE<|aM<|(show bj [] _ _ from⟨U,KZ (k:=25) (a:=0) (b:=0) S15 U (λz=>by cases z) U λH16 S16=>zY S16 U λH17 S17=>aE<|aM<|((⟨U,KZ (k:=25) (a:=0) (b:=1) S17 U (λz=>by cases z) U λH18 S18=>zY S18 U λH19 S19=>aE<|aM<|((⟨U,KZ (k:=25) (a:=0) (b:=2) S19 U (λz=>by cases z) U λH20 S20=>zY S20 U λX S=>aE<|aM ?_⟩))⟩))⟩)
 have tb:X (.o 20 0 0)=M (.i 427<|ON (gQ c) 0):=S.1
 have q:=S.3
 have ob:∀k a b,Xs k a b=D->X (.o k a b)=H (.o k a b):=q.2
 have N:GS nm g st X:=R.1.1.m q λk a b h=>zo h (P:=λk=>Xs k a b=D) U U U
 refine bY (v:=ax 1 0 0) U tb U<|dO N.1 ⟨wA HU,i3 HU<|hB N (λk hk=>cz (R.1.2 k hk) λfs a b=>(br fs ((ob _ _ _ U).t a) b)) R.7 q.4 (λk j=>⟨(ob _ _ _ U).t<|R.8 _ _ _<|.I U,(ob _ _ _ U).t<|R.8 _ _ _<|.i<|.I U,(ob _ _ _ U).t<|R.8 _ _ _<|.i<|.i U⟩) λy n22 e I=>aE<|aM ?_⟩
 have d:∀k a b,Xs k a b=D->wL k a b=D->y (.o k a b)=H (.o k a b):=λk a b L J=>e.t J<|(ob _ _ _ L)
 have E:y (.o 20 0 0)=M (.i 427<|ON (gQ c) 0):=e.t U tb
 have w:y (.o 1 0 0)=M (.i 283<|HB st):=(d _ _ _ U U).t R.1.1.1
 have ml:∀{α β:Type} {f:α->β} {l:List α},fits l.L=Z/\aA l.L 0=D->fits (l.m f).L=Z/\aA (l.m f).L 0=D:=λ{α β f l} h=>Y (aD _) h
 refine bY (v:=ax 1 0 0) U E U<|dO w ⟨wA vJ,i3 vJ ?_⟩
 refine h1 w ((d _ _ _ U U).t R.2) (ml R.4).1 (ml R.4).2<|aE<|aM<|bY (v:=ax 1 0 0) U E U<|dO w ⟨wA vK,i3 vK<|h2 w ((d _ _ _ U U).t R.3.1) (ml R.5).1 (ml R.5).2<|aE<|(dO E ⟨wA HX,i3 HX ?_⟩)⟩
 have u:∀k a b,Xs k a b=Z->Loc.o k a b≠.o 20 0 0->wL k a b=D->y (.o k a b)=_:=λk a b L J e3=>e.t e3<|(S.2 k a b L J)
 have A:tX nm g st (gQ c) 0 (λx=>0) y:=⟨E,w,(d _ _ _ U U).t R.1.1.2,(d _ _ _ U U).t R.1.1.4,(d _ _ _ U U).t R.1.1.5,λa h=>(d _ _ _ U U).t<|R.1.1.6 a h,λk j L J=>(I k L).2 j J,λk j L J e3=>(I k L).4 j J e3,λk hk=>hM (I k hk).1 λfs a1 a2 a3 a4=>⟨fs,a1,a2.1,a4,((.I a2.2.2)),((.i ⟨a2.2.1,U,aC a3<|kW _ _⟩))⟩⟩
 exact hT U R.6 A (λx=>lr) (λk hk=>(d _ _ _ U U).t<|R.1.3 k hk) ((u 23 0 0 U (λz=>by cases z) U).t U) (λm=>(u 26 m 0 U (λz=>by cases z) U).t U) ((u 24 0 0 U (λz=>by cases z) U).t U) ((u 27 0 0 U (λz=>by cases z) U).t U) e.4 (λp hp=>(I p.1<|bt (an hp).1).3 p.2<|bl (an hp).2) ((d _ _ _ U U).t R.10) ((d _ _ _ U U).t R.11) ⟨(d _ _ _ U U).t R.3.1,λa h=>(d _ _ _ U U).t<|R.3.2 a h⟩ ((u 21 0 0 U (λz=>by cases z) U).t U) ((u 22 0 0 U (λz=>by cases z) U).t U) ((u 30 0 0 U (λz=>by cases z) U).t U) (λi=>⟨(u 31 i 0 U (λz=>by cases z) U).t U,(u 32 i 0 U (λz=>by cases z) U).t U,(u 33 i 0 U (λz=>by cases z) U).t U⟩) hf λH' n' T e25 c20 tm fr le tb=>K _ _ _ T ((e25 _ _ _ U).t<|(u 25 0 1 U (λz=>by cases z) U).t U) ((e25 _ _ _ U).t<|(u 25 0 2 U (λz=>by cases z) U).t U) c20 (λk m hm=>(tm k m<|aH hm<|aC q.1 e.1).t<|(e.3 k m<|aH hm q.1).t<|q.3 k m hm) fr (aC q.1<|aC e.1 le) tb
theorem Tt(d:Nat)(h:Jv b (dT d))(g:yQ (.o 10 0 0) 265 (dT d))(f:yQ (.o 11 0 0) 273 (dT d))(e:X0 b (dT d)):JK b (dT<|d+1):=λR a c K=>by
 refine Y (show dT (d+1) 333=gw gh (Ii<|dT d) 3 [.N]from by kernel_rfl) ?_
 exact⟨U,K0 h g f e R a c λx=>K⟩
abbrev nv(k:Nat):V:=.I (.o k)
section
variable{K:ab}
theorem lE(c:0<b)(q:K (nv<|a % b) σ):tx (nv a) (nv b) K σ:=.I ⟨_,U,_,U,decide_eq_true λe=>absurd (ig e)<|mO c,(congrArg (λi=>K (.I i) σ)<|(Int.ofNat_fmod a b).s).m q⟩
theorem gj(q:K (nv<|a+b) σ):eH.ej (nv a) (nv b) K σ:=.I ⟨_,U,_,U,q⟩
theorem xh(d:fits a.L=Z)(c:fits b.L=Z)(q:K (.s<|a++b) σ):eH.ej (.s a) (.s b) K σ:=.i<|.I ⟨_,U,_,U,na d c,q⟩
theorem F1(c:fits k=Z)(b:fits a.L=Z)(q:K (.s<|AO k a) σ):jq (.s a) (nv k) K σ:=.i<|.I ⟨_,U,_,U,na c b,q⟩
theorem sE{call:CF}(h:fits a.L=Z)(q:K (nv a.L) σ):nV call (.s a) K σ:=.I<|br _ U<|.I<|eI a U h q
theorem yb(h:fits a.L=Z)(b:a[k]?=M c)(q:K (.s [c]) σ):dj (.s a) (nv k) K σ:=
 .i<|.i<|.I ⟨a,U,_,U,h,c,by delta Ol;exact Y ((gZ<|gL b)) b,q⟩
theorem WU(b:k<=a.L):cut a aI (M<|.o k)=a.t k:=by
 show(a.d 0).t (bif aO k a.L then k else a.L - 0)=_
 refine Y (bh.m b) ?_;rfl
theorem WT:cut a (M<|.o k) aI=a.d k:=by
 show(a.d<|bif aO k a.L then k else a.L).t (a.L - bif aO k a.L then k else a.L)=_
 rcases b:aO k a.L with _|_;(
  exact Y PT<|Y List.take_nil<|Y (G2<|eD<|gV λz=>by rw[bh.m z]at b;exact bT b) U);(exact gF<|Y jm lr)
theorem zD(h:fits a.L=Z)(b:k<=a.L)(q:K (.s<|a.t k) σ):i4 (.s a) .N (nv k) K σ:=⟨_,U,_,U,.i<|.I<|eI a U h<|(congrArg (λi=>K (.s i) σ)<|WU b).m q⟩
theorem zC(h:fits a.L=Z)(q:K (.s<|a.d k) σ):i4 (.s a) (nv k) .N K σ:=⟨_,U,_,U,.i<|.I<|eI a U h<|(congrArg (λi=>K (.s i) σ) WT).m q⟩
end
theorem NK{H:Hp}(h:H r=M o):aZ H r o=H:=by
 funext l
 by_cases a:l=r
 .rw[a,aT,h]
 .exact hN a
def z7(call:CF):Prop:=∀{a:ao} {L:Loc} {H:Hp} {n:Nat} {Q:ab} {b:aq},H L=M (.l<|a.m nv)->fits a.L=Z->Q (nv<|a.H 0) ⟨b,aZ H L<|.l<|a.b.m nv,n⟩->call 438 [.L L] Q ⟨b,H,n⟩
theorem Oi{b:ao}{H:Hp}{call:CF}(h:H L=M (.l<|b.m nv))(f:fits b.L=Z)(K:Q (.r<|nv<|b.H 0) ⟨[.L L],aZ H L<|.l<|b.b.m nv,n⟩):CV call Q ⟨[.L L],H,n⟩:=by
 refine CE h (ba f) ?_
 .cases b with
  |nil=>
   have:aZ H L (.l<|[].b.m nv)=H:=NK h
   rw[this]at K
   exact K
  |cons a r=>
   exact ff<|fE h<|.i ⟨_,U,0,U,_,_,U,h,ba f,_,U,K⟩
theorem Bd(d:Nat):z7 (dT<|d+1):=λh f K=>Y (show dT (d+1) 438=gw C0 (CV<|dT d) 1 []from by kernel_rfl) ⟨U,Oi h f K⟩
noncomputable def dm(w:ao)(c:Nat):Nat:=(w.takeWhile λb=>aA b c).L
def z!(call:CF):Prop:=∀{w:ao} {p c:Nat} {σ:St} {Q:ab},fits w.L=Z->p<=w.L->Q (nv<|dm (w.d p) c) σ->call 459 [.s w,nv p,.s [c]] Q σ
theorem Fv{w:ao}(h:w.d e=a::r):w[e]?=M a/\w.d (e+1)=r:=by
 refine⟨?_,?_⟩
 .refine rR fG<|Y h ?_;rfl
 .refine rR df<|Y h ?_;rfl
theorem Ob{H:Hp}{call:CF}(f:fits w.L=Z)(L:p<=w.L)(K:∀o,Q (.r<|nv<|dm (w.d p) c) ⟨o,H,n⟩):CN call Q ⟨[.s w,nv p,.s [c],S],H,n⟩:=by
 refine aM<|cg U<|hU U U<|aE<|aM ?_
 have h:∀e,p+dm (w.d p) c=e->qT tE Q .n ⟨[.s w,nv p,.s [c],nv e],H,n⟩:=λe g=>by
  subst g
  refine aE<|p4 ?_
  have:=by
   show(p+dm (w.d p) c:Int) - p=dm (w.d p) c
   exact(congrArg (· - (p:Int))<|Int.add_comm _ _).t<|fR _ _
  exact Y this<|K _
 have m:∀(r:ao) (e:Nat),w.d e=r->e<=w.L->p+dm (w.d p) c=e+dm r c->qE (λK=>(λl=>aS 3 λJ=>aS 0 λI=>nV call I λE=>cw .Lt J E λC=>λσ=>cond C ((aS 0 λk=>aS 3 λv13=>dj k v13 λj=>aS 2 λv14=>cw .E j v14 λi=>λσ=>cond i (l Z σ)<|l D σ) σ)<|l D σ) λA=>K A) yh (bE .n) (r.L+1) (qT tE Q) ⟨[.s w,nv p,.s [c],nv e],H,n⟩:=λr=>by
  induction r with
  |nil=>
   intro e d u b
   refine qg λX t g=>sE f<|FZ ?_
   have:=bo u<|List.drop_eq_nil_iff.m d
   exact Y (decide_eq_false λz=>kX (dG.m z) this)<|fx<|g _<|h e b
  |cons a r y=>
   intro e d u b
   have s:=gL (Fv d).1
   refine qg λX t g=>(sE f<|FZ<|Y (decide_eq_true<|dG.M s) ff<|cg U<|yb f (Fv d).1<|nY U U ?_)
   have x:dX (.s [a]) (.s [c])=aA a c:=E0 _
   refine Y x ?_
   delta dm at b
   rw[gu]at b
   rcases q:aA a c with _|_;(
    have b:=q▸b
    exact fx<|g _<|h e b);(
    have b:=q▸b
    exact ff<|t _ λY' v R P N=>tA<|hU U U<|v _<|y (e+1) (Fv d).2 s<|bo (yF (zQ 113) U<|zE b)<|yF (zQ 114) U<|zG b)
 exact⟨_,m _ p U L U⟩
noncomputable def yA(a b c:Nat)(w:ao):List Nat:=bif aA (a % 4) 1 then w.t (b % (w.L+1))++[97+c % 3]++w.d (b % (w.L+1))else bif aA (a % 4) 2 then w.t (b % (w.L+1))++w.d (b % (w.L+1)+1)else bif aA (a % 4) 3 then w.t (b % (w.L+1))++[97+c % 3]++w.d (b % (w.L+1)+1)else w
theorem Qd(c:Nat):[97,98,99][c % 3]?=M (97+c % 3):=(by decide:∀n,n<3->[97,98,99][n]?=some (97+n)) _<|cT c (by decide)
def P6(call:CF):Prop:=∀{a w:ao} {L:Loc} {H:Hp} {n:Nat} {Q:ab} {b:aq},H L=M (.l<|a.m nv)->fits a.L=Z->aO w.L 900=Z->
 Q (.s<|yA (a.H 0) (a.b.H 0) (a.b.b.H 0) w) ⟨b,aZ H L<|.l<|a.b.b.b.m nv,n⟩->call 445 [.L L,.s w] Q ⟨b,H,n⟩
theorem zd{l:ao}(h:fits l.L=Z):fits l.b.L=Z:=by
 rw[cG]at h⊢
 have h:=of_decide_eq_true h
 exact decide_eq_true<|Y List.length_tail<|eM (zQ 36) U h<|i8 _ _
theorem OI{d:ao}{H:Hp}{call:CF}(hN:z7 call)(h:H L=M (.l<|d.m nv))(f:fits d.L=Z)(t:aO w.L 900=Z)
 (K:∀o,Q (.r<|.s<|yA (d.H 0) (d.b.H 0) (d.b.b.H 0) w) ⟨o,aZ H L<|.l<|d.b.b.b.m nv,n⟩):CW call Q ⟨[.L L,.s w,I,E,C],H,n⟩:=by
 have g:=i9 t
 have A:=bl t
 generalize z:d.H 0=a at K
 generalize v:d.b.H 0=b at K
 generalize u:d.b.b.H 0=c at K
 refine aM<|hN h f<|Y z<|lE (by decide)<|hU U U<|aE<|aM<|hN hA (zd f) ?_
 rw[v,lM]
 refine sE g<|gj<|lE (cD _)<|hU U U<|aE<|aM<|hN hA (zd<|zd f) ?_
 rw[u,lM]
 refine lE (b:=3) (by decide)<|yb U (Qd c)<|hU U U<|aE<|aM<|nY U U ?_
 have m:b % (w.L+1)<=w.L:=gp<|cT _<|cD _
 have l:∀x y,dX (nv x) (nv y)=aA x y:=λx y=>by
  show(aY x==aY y)=_
  rcases j:aA x y with _|_;(rw[<-bN,beq_iff_eq];exact λe=>by rw[ig e,bR y]at j;exact bT j);(exact Y (bq j)<|beq_self_eq_true _)
 have i:∀k,fits (w.t k).L=Z:=λk=>fz (Y gI<|o2 _ _) g
 have fd:∀k,fits (w.d k).L=Z:=λk=>fz (Y jm<|i8 _ _) g
 have s:∀k,fits (w.t k++[97+c % 3]).L=Z:=λk=>fz (Y aL<|Y gI bz<|aC (o2 _ _) A) U
 delta yA at K
 refine Y (l _ 1) ?_
 rcases r:aA (a % 4) 1 with _|_;(
 rw[r]at K
 refine fx<|aE<|aM<|nY U U<|Y (l _ 2) ?_
 rcases q:aA (a % 4) 2 with _|_;(
 rw[q]at K
 refine fx<|aE<|aM<|nY U U<|Y (l _ 3) ?_
 rcases p:aA (a % 4) 3 with _|_;(
 rw[p]at K
 exact fx<|aE<|K _);(
  rw[p]at K
  exact ff<|cg U<|cg U<|zD g m<|cg U<|xh (i _) U<|gj<|zC g<|xh (s _) (fd _)<|oz<|K _));(
  rw[q]at K
  exact ff<|cg U<|cg U<|zD g m<|gj<|zC g<|xh (i _) (fd _)<|oz<|K _));(
  exact ff<|cg U<|cg U<|zD g m<|cg U<|xh (i _) U<|zC g<|xh (s _) (fd _)<|oz<|(r▸K) _)
theorem V7(d:Nat)(hN:z7 (dT d)):P6 (dT<|d+1):=λh f a K=>Y (show dT (d+1) 445=gw C1 (CW<|dT d) 2 []from by kernel_rfl) ⟨U,OI hN h f a λx=>K⟩
def Sub(h a:Hp):Prop:=∀l o,h l=M o->a l=M o
theorem Ks{c b:Type}{x y:Option c}{F:c->b}{d:b}(h:x.m F=M d)(k:∀a,x=M a->y=M a):y.m F=M d:=by
 rcases x with _|a;(exact nS h);(exact Y (k a U) h)
theorem MI{g':V->Option f}(c:∀v d,g v=M d->g' v=M d){l:aq}:∀{ds:List f},sQ (l.m g)=M ds->sQ (l.m g')=M ds:=by
 induction l with
 |nil=>exact id
 |cons v l b=>
  exact λh=>Zm h λd e h=>by
   show(g' v).b (λa=>(sQ<|l.m g').m (a::·))=_
   rw[c v d e];exact Ks h λa=>b
theorem j7(k:Sub h i):∀{f':Nat} {v:V} {d:et},f<=f'->gg h f v=M d->gg i f' v=M d:=by
 induction f with
 |zero=>exact λ_ e=>nS e
 |succ f g=>
  intro f' v d c e
  rcases f' with _|f';(exact absurd c<|Lq _);(
   cases v with
   |u=>exact nS e
   |T a b=>exact Ks e λds=>MI λv d=>g<|Jd c
   |L m=>
    refine Zm e λo j e=> ?_
    show(i m).b _=_
    refine Y (k m o j) ?_
    rcases o with _|_|_|_|_|_<;>first|exact nS e|exact Ks e λds=>MI λv d=>g<|Jd c
   |_=>exact e)
noncomputable def dh(H:Hp):Hp:=λl=>match l with
 |.t k m=>bif aA k 102 then H (.t k m)else aI
 |.o _ _ _=>aI
theorem QH(H:Hp):Sub (dh H) H:=λl o e=>by
 rcases l with⟨k,m⟩|⟨k,a,b⟩;(
  have e:(bif aA k 102 then H (.t k m)else aI)=M o:=e
  exact bC (b:=aA k 102) (λc=>by rw[c]at e;exact e) λc=>by rw[c]at e;exact nS e);(exact nS e)
theorem jQ{k:Nat}(c:aA k 102=D\/H (.t k m)=aI):Sub (dh H) (dh<|aZ H (.t k m) o):=λl o' e=>by
 rcases l with⟨f,g⟩|⟨k,a,b⟩;(
  have e:(bif aA f 102 then H (.t f g)else aI)=M o':=e
  show(bif aA f 102 then aZ H (.t k m) o (.t f g)else aI)=M o'
  exact bC (b:=aA f 102) (λd=>by
   refine Y d ?_
   rw[d]at e
   rw[bS _ _ ?_]
   .exact e
   .intro z
    revert c;refine rR (eH.Loc.t.inj z).1<|rR (eH.Loc.t.inj z).2 ?_;intro c
    rcases c with c|c
    .rw[d]at c;exact bT c
    .rw[c]at e;exact nS e) λd=>by rw[d]at e;exact nS e);(exact nS e)
abbrev TE:=V×Nat×et
def Jx(h:Hp)(es:List TE):Prop:=∀e∈es,gg h e.2.1 e.1=M e.2.2
theorem Jx.u(E:Jx h es)(c:Sub h b):Jx b es:=λe a=>j7 c (aG _)<|E e a
def mx(l:List (Nat×et)):Nat:=l.R 0 λe _ a=>Je e.1 a
theorem YF{F:Nat}:Jx h es->mx (es.m d9)<=F->sQ ((es.m eA).m<|gg h F)=M ((es.m d9).m d9):=by
 induction es with
 |nil=>exact λ_ _=>U
 |cons e r c=>
  intro E a
  show sQ (gg h F e.1::(r.m eA).m (gg h F))=_
  refine Y (j7 (λy y z=>z) (aC (Nat.le_max_left _ _) a)<|E e<|.h _) ?_
  show(sQ<|(r.m eA).m<|gg h F).m _=_
  rw[c (λx b=>E x<|.t _ b) (aC (Nat.le_max_right _ _) a)];rfl
theorem vu(E:Jx h es)(a:h l=M (.l<|es.m eA)):gg h (mx (es.m d9)+1) (.L l)=M (.l<|(es.m d9).m d9):=by
 show(h l).b _=_
 refine Y a ?_
 show(sQ<|(es.m eA).m<|gg h<|mx<|es.m d9).m WC=_
 refine Y (YF E<|aG _) ?_;rfl
theorem nX{h:Hp}(a:gg h (f+1) v=M d):gg h (f+2) (V.t [nv k,v])=M (.t [.int (.o k),d]):=by
 show(sQ [M (.int<|.o k),gg h (f+1) v]).m UD=_
 refine Y a ?_;rfl
theorem Cq{h:Hp}(a:bg c 1114112=Z):gg h 1 (.s [c])=M (.s ⟨[c].T⟩):=by
 show(bif [c].a λc=>bg c 1114112 then M (BG ⟨[c].T⟩)else aI)=_
 refine Y (by show(bg c 1114112&&Z)=Z;refine Y a ?_;rfl:[c].all (λc=>bg c 1114112)=true) ?_;rfl
theorem SS{bind:ak}(h:∀Y',(∀σ,zf bind body a k (.R (i+1,r)) Q σ->Y' .n σ)->(∀σ,zf bind body a k (.R (i+1,r)) Q σ->Y' .cont σ)->(∀σ,Q .n σ->Y' .brk σ)->(∀v σ,Q (.r v) σ->Y' (.r v) σ)->bind (nv i) (λx=>body Y') σ):zf bind body a (k+1) (.R (i,r+1)) Q σ:=
 h _ (λσ h=>h) (λσ h=>h) (λσ h=>h) λv σ h=>h
def vZ(l:List (Nat×Int))(x:Nat):Option Int:=l.R aI λe _ a=>bif aA e.1 x then M e.2 else a
theorem Ek(d:bM a)(x:Nat):∀l,eK (l.m λe=>(sy a e.1,V.I e.2)) (sy a x)=(vZ l x).m V.I
 :=λc=>c.R U λe r b=>by
  show(bif dX (sy a e.1) (sy a x)then M (V.I e.2)else eK (r.m λe=>(sy a e.1,V.I e.2)) (sy a x))=(bif aA e.1 x then M e.2 else vZ r x).m V.I
  refine Y (show dX (sy a e.1) (sy a x)=aA e.1 x from d.1 _ _)<|Y b ?_
  rcases aA e.1 x with _|_<;>rfl
theorem BP(a b:Nat):dX (nv a) (nv b)=aA a b:=by
 show(aY a==aY b)=_
 rcases c:aA a b with _|_;(rw[<-bN,beq_iff_eq];exact λe=>by rw[ig e,bR b]at c;exact bT c);(rw[bq c];exact beq_self_eq_true _)
theorem HM(k s:Nat):∀l,has s l=Z->eK (l.m λi=>(nv i,ax k i 0)) (nv s)=M (ax k s 0)
 :=λc=>c.R (λh=>bF h) λa r b h=>by
  show(bif dX (nv a) (nv s)then M (ax k a 0)else eK (r.m λi=>(nv i,ax k i 0)) (nv s))=_
  refine Y (BP _ _) ?_
  have h:(aA a s||has s r)=Z:=h
  rcases e:aA a s with _|_;(rw[e,E1]at h;exact b h);(refine Y (bq e) ?_;rfl)
section
variable{K:ab}
theorem Xd(h:H l=M (.l vs))(d:fits vs.L=Z)(c:k<=vs.L)(b:H r=aI)(q:K (.L r) ⟨a,aZ H r<|.l<|vs.t k,n+1⟩):i4 (.L l) .N (nv k) K ⟨a,H,n⟩:=
 ⟨_,U,_,U,.I<|mK l vs U h d<|eJ b<|Y (WU c) q⟩
theorem abb(h:H l=M (.l vs))(c:fits vs.L=Z)(d:k<=vs.L)(b:H r=aI)(q:K (.L r) ⟨a,aZ H r<|.l<|vs.d k,n+1⟩):i4 (.L l) (nv k) .N K ⟨a,H,n⟩:=
 ⟨_,U,_,U,.I<|mK l vs U h c<|eJ b<|Y WT q⟩
theorem p0(h:H l=M (.l vs))(g:H d=M (.l c))(f:fits vs.L=Z)(b:fits c.L=Z)(e:H r=aI)(q:K (.L r) ⟨a,aZ H r<|.l<|vs++c,n+1⟩):eH.ej (.L l) (.L d) K ⟨a,H,n⟩:=
 .i<|.i ⟨l,vs,U,h,d,c,U,g,na f b,eJ e q⟩
end
structure RQ where
 s:List Nat
 t:List (Nat×et)
 p:Nat
set_option genInjectivity true in
inductive RR
 |g (q:RQ)
 |n (pl:Nat)
 |y (pl:Nat) (trs:List (Nat×et))
def RR.ctorIdx(i:RR):Nat:=i.rec (λ_=>0) (λ_=>1) λ_ _=>2
def ke(k:Nat)(ts:List (Nat×et)):Nat×et:=(mx ts+2,.t [.int (.o k),.l<|ts.m d9])
def Sx(t:xA)(rules:aw)(q:RQ)(k:Nat):Option RR:=ob rules[k]? λr=>bif aO r.2.L q.t.L&&fits r.2.L then ob (q.s.t<|q.t.L - r.2.L+1).G λs=>ob t.G[s]? λa=>ob (vZ a r.1) λj=>(match j with
 |.o j=>M<|.g ⟨q.s.t (q.t.L - r.2.L+1)++[j],q.t.t (q.t.L - r.2.L)++[ke (k+1) (q.t.d<|q.t.L - r.2.L)],q.p⟩
 |.n _=>aI)else aI
def X3(t:xA)(rules:aw)(ch:ag)(u:ao)(q:RQ):Option Int->Option RR
 |none=>M<|.n q.p
 |some (.o 0)=>M<|.y q.p q.t
 |some (.o<|a+1)=>ob u[q.p]? λc=>M<|.g ⟨q.s++[a+1],q.t++[(1,.s ⟨[ch c].T⟩)],q.p+1⟩
 |some (.n k)=>Sx t rules q k
def IG(t:xA)(rules:aw)(ch:ag)(u:ao)(q:RQ):Option RR:=bif aO q.s.L 900&&aO q.t.L 900&&aO q.t.L (q.s.L - 1)then ob q.s.G λs=>ob t.A[s]? λa=>X3 t rules ch u q (vZ a<|u.g q.p 1)else aI
def KV(t:xA)(rules:aw)(ch:ag)(u:ao)(n:Nat):RQ->Option RR:=n.r (λ_=>aI) λ_ b q=>ob (IG t rules ch u q) λr=>match r with
 |.g a=>b a
 |r=>M r
inductive I!(nm:aa)(RL:Loc)(rules:aw)(cu:Nat)(H:Hp):Prop
 |mk (at_:∃kr mr,RL=.t kr mr/\mr<cu) (rv:∃rvs,H RL=M (.l rvs)/\fits rvs.L=Z/\∀(k:Nat) (r:Nat×List Nat),rules[k]?=M r->∃kk m,rvs[k]?=M (V.t [sy nm r.1,ay kk m])/\m<cu/\H (.t kk m)=M (.l (r.2.m (sy nm))))
inductive BL(nm:aa)(ch:ag)(u:ao)(t:xA)(rules:aw)(RL:Loc)(cu:Nat)(cC:Hp):Prop
 |mk (hn:bM nm) (tb:∃qM c,cC (.o 20 0 0)=M (.i 427 (ON qM c))) (tab:JL nm t cC) (ru:I! nm RL rules cu cC) (ch:∀c∈u,nm c=[ch c]/\bg (ch c) 1114112=Z) (fu:fits u.L=Z)
inductive RI(cu:Nat)(cC:Hp)(q:RQ)(a b:Nat)(H:Hp)(n:Nat):Prop
 |mk (now:cy (λx x x=>D) cu cC n H) (ha:cu<=a/\a<n) (hb:cu<=b/\b<n) (sts:H (.t 100 a)=M (.l (q.s.m nv))) (trs:∃es:List TE,es.m d9=q.t/\H (.t 101 b)=M (.l (es.m eA))/\Jx (dh H) es)
noncomputable abbrev PA(RL:Loc)(w:ao)(a b pl:Nat)(v6 v7 v8 v9 v10:V):List V:=[ax 20 0 0,.L RL,.s w,ay 100 a,ay 101 b,nv pl,v6,v7,v8,v9,v10]
section
variable{call:CF}
theorem uK(h:l.G=M s):idx (l.m nv).L (-1)=M (l.L - 1)/\(l.m nv)[l.L - 1]?=M (nv s)/\l≠[]:=by
 cases l with
 |nil=>exact nS h
 |cons a r=>
  refine Y (aD _) ⟨HF r.L,Y aN<|rR List.getLast?_eq_getElem?<|Y h ?_,λz=>by cases z⟩;rfl
theorem ad0(R:BL S ch u t rules p j i)(I:RI j i q a b H n)(hz:fits q.s.L=Z)(J:q.s.G=M s)(m:t.A[s]?=M d)
  (K:Q .n ⟨PA p (u.m ch) a b q.p E (((vZ d<|u.g q.p 1).m V.I).g .N) C w v10,H,n⟩):Am call Q ⟨PA p (u.m ch) a b q.p E P C w v10,H,n⟩:=by
 refine Yy R.2 λv c tb=> ?_
 have ob:=λk x y=>I.1.2 k x y U
 refine bY U ((ob _ _ _).t tb) U<|x9<|jR I.4 (ba hz) (uK J).1 (uK J).2.1<|eY ((ob _ _ _).t R.3.1) U (HM 31 s _<|gX.M<|fZ.M<|(bw.m m).1)<|qs ((ob _ _ _).t<|R.3.3 s d m)<|sE (ba R.6)<|FZ ?_
 have h:∀f,f=sy S (u.g q.p 1)->Dj (ax 31 s 0) [f] (λN=>ck 7 N<|nx Q) ⟨PA p (u.m ch) a b q.p E P C w v10,H,n⟩:=λf L=>by
  subst L
  have g:=Ek R.1 (u.g q.p 1) d
  rcases e:vZ d (u.g q.p 1)with _|x;(
   rw[e]at g K
   exact tK U U ((ob _ _ _).t<|R.3.3 s d m) U g<|hU U U K);(
   rw[e]at g K
   exact DI U ((ob _ _ _).t<|R.3.3 s d m) U g<|hU U U K)
 refine Y (aD _) ?_
 by_cases l:q.p<u.L
 .rw[decide_eq_true (show aY q.p<aY u.L from dG.M l)]
  have r:u[q.p]?=M (u.g q.p 1):=by refine Y aW<|Y (aP l) ?_;rfl
  refine ff<|yb (ba R.6) (by refine Y aN<|Y r ?_;rfl)<|h _ ?_
  exact congrArg V.s (R.5 _<|aJ r).1.s
 .rw[decide_eq_false (λz=>l (dG.m z):¬aY q.p<aY u.L)]
  refine fx<|h _<|Y aW<|Y (eS<|bU (zQ 10) U<|cR l) ?_
  exact congrArg V.s R.1.3.s
end
section
variable{call:CF}
theorem l0(h:a<m):aZ H (.t k m) o (.t b a)=H (.t b a):=hN<|IU h
theorem ZF(R:BL nm ch u t rules RL i g)(I:RI i g q a b H n)(z1:fits q.s.L=Z)(z2:fits q.t.L=Z)(z3:q.t.L+1<=q.s.L)(A:Sx t rules q k=M (.g q'))
  (K:∀a b v8 v9 v10 H' n',RI i g q' a b H' n'->Q .n ⟨PA RL (u.m ch) a b q'.p v6 (.I<|.n k) v8 v9 v10,H',n'⟩):
  aR yj (aR (yl call)<|aR ym<|aR yn yo) Q ⟨PA RL (u.m ch) a b q.p v6 (.I<|.n k) v8 v9 v10,H,n⟩:=by
 refine Yy R.2 λqM c tb=>eV I.5 λes e1 e2 e3=> ?_
 have el:es.L=q.t.L:=by refine rR e1 ?_;rw[aD]
 have zl:fits (es.m eA).L=Z:=by rw[aD,el];exact z2
 refine bc A λr hr A=>cW A (λhb A=>(bc A λs hs A=>bc A λrow hg A=>bc A λj hj A=> ?_)) λw A=>nS A
 rcases j with j|j;(
 revert K;refine rR (RR.g.inj<|aV A) ?_;intro K
 obtain⟨b1,b2⟩:=aU.m hb
 have b1:=bh.M b1
 refine Fw R.4.1 λkr mr zr1 hmr=> ?_;subst zr1
 refine eV R.4.2 λrvs r1 r2 r3=>zc (r3 k r hr) λkk m r4 hm r5=> ?_
 generalize p:q.t.L - r.2.L=f at*
 refine aM<|((x9<|p4 ?_))
 have ek: -(dH k) - 1=aY k:=fR (aY k) 1
 refine Y ek ?_
 have hrv:H (.t kr mr)=M (.l rvs):=(I.1.3 _ _ hmr).t r1
 refine jR (m:=k) hrv r2 (gZ (bw.m r4).1) r4<|jf ?_
 refine hU U (σ':=⟨PA (.t kr mr) (u.m ch) a b q.p v6 (.I<|.n k) (sy nm r.1) v9 v10,H,n⟩) U<|hU U (σ':=⟨PA (.t kr mr) (u.m ch) a b q.p v6 (.I<|.n k) (sy nm r.1) (ay kk m) v10,H,n⟩) U<|aE<|aM ?_
 have hsy:H (.t kk m)=M (.l<|r.2.m<|sy nm):=(I.1.3 _ _ hm).t r5
 refine(uR e2 zl<|(uR hsy (ba b2)<|p4 ?_))
 have er:aY (es.m eA).L - aY (r.2.m<|sy nm).L=aY f:=by
  rw[aD,aD,el,<-p]
  exact(Int.ofNat_sub b1).s
 refine Y er<|hU U (σ':=⟨PA (.t kr mr) (u.m ch) a b q.p v6 (.I<|.n k) (sy nm r.1) (ay kk m)<|nv f,H,n⟩) U<|aE<|aM ?_
 have hrl:f<=(es.m eA).L:=by rw[aD,el];exact ju (zQ 69) U (zG p)<|i8 _ _
 have f0:∀k m,n<=m->H (.t k m)=aI:=I.1.4
 refine cg U<|cg U<|Xd (r:=.t 103 n) e2 zl hrl (f0 _ _<|aG _)<|cg U<|x9<|(?_)
 generalize L:aZ H (.t 103 n) (.l<|(es.m eA).t f)=X
 have k1:∀k m,m<n->X (.t k m)=H (.t k m):=λk m h=>by exact rR L<|l0 h
 have g1:∀k m,n+1<=m->X (.t k m)=aI:=λk m h=>by exact rR L<|(bS _ _ (IU h).s).t<|f0 _ _ (by exact bU (zQ 3) U h)
 have N1:cy (λw w w=>D) i g (n+1) X:=L▸I.1.e
 have a1:X (.t 103 n)=M (.l<|(es.m eA).t f):=by exact rR L<|aT _ _ _
 have s1:Sub (dh H) (dh X):=L▸jQ (.I U)
 refine abb (r:=.t 102<|n+1) ((k1 _ _ I.3.2).t e2) zl hrl (g1 _ _<|aG _) ?_
 generalize J:aZ X (.t 102<|n+1) (.l<|(es.m eA).d f)=S
 have k2:∀k m,m<n+1->S (.t k m)=X (.t k m):=λk m h=>by exact rR J<|l0 h
 have g2:∀k m,n+2<=m->S (.t k m)=aI:=λk m h=>by exact rR J<|(bS _ _ λz=>by cases z;exact zF<|bZ (zQ 181) U h).t<|g1 _ _ (by exact bU (zQ 182) U h)
 have N2:cy (λw w w=>D) i g (n+2) S:=J▸N1.e
 have a2:S (.t 102<|n+1)=M (.l<|(es.m eA).d f):=by exact rR J<|aT _ _ _
 have s2:Sub (dh X) (dh S):=J▸jQ (.i<|g1 _ _<|aG _)
 have ea: -(dH k)=aY (k+1):=U
 refine Y ea<|gR U<|b9 (r:=.t 104<|n+2) (g2 _ _<|aG _) U ?_
 generalize E:aZ S (.t 104<|n+2) (.l [V.t [nv (k+1),.L<|.t 102<|n+1]])=T
 have k3:∀k m,m<n+2->T (.t k m)=S (.t k m):=λk m h=>by exact rR E<|l0 h
 have g3:∀k m,n+3<=m->T (.t k m)=aI:=λk m h=>by exact rR E<|(bS _ _ λz=>by cases z;exact zF<|bZ (zQ 183) U h).t<|g2 _ _ (by exact bU (zQ 184) U h)
 have N3:cy (λw w w=>D) i g (n+3) T:=E▸N2.e
 have a3:T (.t 104<|n+2)=M (.l [V.t [nv (k+1),.L<|.t 102<|n+1]]):=by exact rR E<|aT _ _ _
 have s3:Sub (dh S) (dh T):=E▸jQ (.I U)
 refine p0 (r:=.t 101<|n+3) ((k3 _ _ (by exact du (zQ 48) U)).t<|(k2 _ _ (by exact du (zQ 185) U)).t a1) a3 (by rw[cG]at zl⊢;have zl:=of_decide_eq_true zl;exact Y gI (decide_eq_true (by exact eM (zQ 36) U zl (o2 _ _)))) U (g3 _ _ (aG _)) ?_
 generalize C:aZ T (.t 101 (n+3)) (.l ((es.m eA).t f++[V.t [nv (k+1),ay 102 (n+1)]]))=P
 have k4:∀k m,m<n+3->P (.t k m)=T (.t k m):=λk m h=>by exact rR C (l0 h)
 have g4:∀k m,n+4<=m->P (.t k m)=aI:=λk m h=>by exact rR C ((bS _ _ λz=>by cases z;exact zF (bZ (zQ 186) U h)).t (g3 _ _ (by exact bU (zQ 187) U h)))
 have N4:cy (λw w w=>D) i g (n+4) P:=C▸N3.e
 have a4:P (.t 101 (n+3))=M (.l ((es.m eA).t f++[V.t [nv (k+1),ay 102 (n+1)]])):=by exact rR C (aT _ _ _)
 have s4:Sub (dh T) (dh P):=C▸jQ (.I U)
 refine hU U (σ':=⟨PA (.t kr mr) (u.m ch) a (n+3) q.p v6 (.I (.n k)) (sy nm r.1) (ay kk m) (nv f),P,n+4⟩) U (aE (aM ?_))
 have st4:P (.t 100 a)=M (.l (q.s.m nv)):=(k4 _ _ (by exact bU (zQ 188) U I.2.2)).t ((k3 _ _ (by exact bU (zQ 13) U I.2.2)).t ((k2 _ _ (by exact bU (zQ 2) U I.2.2)).t ((k1 _ _ I.2.2).t I.4)))
 have hlen:f+1<=(q.s.m nv).L:=by rw[aD];exact I8 (zQ 189) U z3 (zG p) (i8 _ _)
 refine((gj (Xd (r:=.t 100 (n+4)) st4 (ba z1) hlen (g4 _ _ (aG _)) (rR o1 ?_))))
 generalize N:aZ P (.t 100 (n+4)) (.l ((q.s.t (f+1)).m nv))=H5
 have k5:∀k m,m<n+4->H5 (.t k m)=P (.t k m):=λk m h=>(rR N (l0 h))
 have N5:=N▸N4.e
 have a5:H5 (.t 100 (n+4))=M (.l ((q.s.t (f+1)).m nv)):=(rR N (aT _ _ _))
 have s5:=N▸jQ (.I U)
 refine hU U U (aE ?_)
 have ob5:=λk x y=>N5.2 k x y U
 have zt:fits (q.s.t (f+1)).L=Z:=by rw[cG]at z1⊢;have z1:=of_decide_eq_true z1;exact Y gI (decide_eq_true ((eM (zQ 36) U z1 (o2 _ _))))
 refine(fE a5 (bY U ((ob5 _ _ _).t tb) U ((x9 (jR a5 (ba zt) (uK hs).1 (uK hs).2.1 (eY ((ob5 _ _ _).t R.3.2) U (HM 33 s _ (gX.M (fZ.M ((R.3.5▸(bw.m hg).1))))) ?_))))))
 refine eY (v:=nv j) ((ob5 _ _ _).t (R.3.4 s row hg)) U ?_ (gA a5 (ba zt) ?_)
 .exact(Ek R.1 r.1 row).t (by refine Y hj ?_;rfl)
 refine K _ _ _ _ _ _ _ ⟨N5.u ((bU (zQ 70) U I.1.1)) ((du (zQ 71) U)),⟨(bU (zQ 70) U I.1.1),(du (zQ 71) U)⟩,⟨(bU (zQ 190) U I.1.1),(du (zQ 38) U)⟩,?_,es.t f++[(V.t [nv (k+1),ay 102 (n+1)],ke (k+1) (q.t.d f))],?_,?_,?_⟩
 .refine(aT H5 (.t 100 (n+4)) (.l ((q.s.t (f+1)).m nv++[nv j]))).t (Y aK ?_);rfl
 .refine Y aK (Y o1 (Y e1 ?_));rfl
 .refine((k5 _ _ (by exact du (zQ 39) U)).t (a4.t (Y aK (Y o1 ?_))));rfl
 .intro e he
  rcases bV.m he with he|he
  .exact j7 (λl o z=>jQ (.I U) _ _ (s5 _ _ (s4 _ _ (s3 _ _ (s2 _ _ (s1 _ _ z)))))) (aG _) (e3 e (vY he))
  .refine Y (aX.m he) ?_
   have hl:dh S (.t 102 (n+1))=M (.l ((es.d f).m eA)):=(Y gG a2)
   have d:=nX (k:=k+1) (vu (λe he=>j7 (λl o z=>s2 _ _ (s1 _ _ z)) (aG _) (e3 e (fm he))) hl)
   rw[gG,e1]at d
   exact j7 (λl o z=>jQ (.I U) _ _ (s5 _ _ (s4 _ _ (s3 _ _ z)))) (aG _) d);(exact nS A)
end
def Dz:RR->V->Hp->Prop
 |.n b,v,_=>v=V.t [nv b,.N]
 |.y b a,v,H=>∃l,v=V.t [nv b,.L l]/\gg H (mx a+2) v=M (.t [.int (.o b),.l<|a.m d9])
 |.g _,_,_=>False
section
variable{call:CF}
theorem R3(q:KB Z σ):cw .Is .N .N KB σ:=⟨U,q⟩
theorem FX(q:KB D σ):cw .Is (.I x) .N KB σ:=⟨U,q⟩
theorem abr(R:BL nm ch u t rules RL g f)(I:RI g f q a b H n)(d:IG t rules ch u q=M r)
  (K1:∀h,r=.g h->∀a b v7 T S v10 H' n',RI g f h a b H' n'->Q .n ⟨PA RL (u.m ch) a b h.p v6 v7 T S v10,H',n'⟩)
  (K2:∀v P,Dz r v H->Q (.r v) ⟨P,H,n⟩):tF call Q ⟨PA RL (u.m ch) a b q.p v6 v7 T S v10,H,n⟩:=by
 refine cW d (λhz d=>ir (an hz) λhz z3=> ?_) λy d=>nS d
 obtain⟨p,z2⟩:=an hz
 have p:=i9 p
 have z3:=bl z3
 refine bc d λs N d=>bc d λm C d=>aM<|ad0 R I p N C<|aE<|aM ?_
 have L:=List.length_pos_iff.M (uK N).2.2
 generalize vZ m (u.g q.p 1)=x at d
 rcases x with _|((_|x)|k)
 . obtain rfl:=sJ d
   refine R3<|ff<|gR U<|oz<|K2 _ _ U
 . obtain rfl:=sJ d
   exact FX<|fx<|aE<|aM<|nY U U<|ff<|((gR U<|oz<|K2 _ _<|eV I.5 λes A w J=>((br (.t 101 b) U<|A▸nX (vu (J.u<|QH H) w)))))
 . refine bc d λc X d=> ?_
   obtain rfl:=sJ d
   exact(FX (fx (aE (aM (nY U U ((λe=>Y e (fx (aE (R1 (Y (decide_eq_true<|dG.M<|cD x) (ff (by
     refine eV I.5 λes A w J=>aM<|cg U<|fE I.4<|(gA I.4 (ba p)<|aE<|aM<|(fE w<|cg U<|(yb (ba R.6) (by refine Y aN<|Y X ?_;rfl)<|gA w (by rw[aD,<-aD,A];exact((i9 z2)))<|aE<|tA<|hU U U<|(λH' E=>K1 _ U _ _ _ _ _ _ _ _ E) _ ?_)))
     refine⟨(I.1.u I.2.1 I.2.2).u I.3.1 I.3.2,I.2,I.3,?_,es++[(.s [ch c],1,.s ⟨[ch c].T⟩)],?_,?_,?_⟩
     .refine(aT _ _ _).t<|Y aK ?_;rfl
     .refine Y aK<|Y A ?_;rfl
     .refine(aT (aZ H (.t 100 a)<|.l<|q.s.m nv++[nv (HAdd.hAdd x 1)]) (.t 101 b)<|.l<|es.m eA++[.s [ch c]]).t ?_
      refine Y aK ?_;rfl
     .intro e i
      rcases bV.m i with i|i
      .exact j7 (λl o z=>jQ (.I U) _ _<|jQ (.I U) _ _ z) (aG _)<|J e i
      .exact Y (aX.m i)<|Cq (R.5 c<|aJ X).2)))))))<|BP (x+1) 0))))))
 . refine cg U<|FX<|fx<|aE<|aM<|nY U U<|fx<|aE<|R1 ?_
   have C:∃h,r=.g h:=by
    refine bc d λr1 C d=>cW d (λhb d=>bc d λs N d=>bc d λm hg d=>bc d λj hj d=> ?_) λy d=>nS d
    rcases j with j|j;(exact⟨_,(sJ d).s⟩);(exact nS d)
   obtain⟨h,rfl⟩:=C
   exact fx<|ZF R I p (i9 z2) (Nat.lt_of_le_pred L z3) d λa b T S v10 H' n' E=>K1 _ U _ _ _ _ _ _ _ _ E
theorem VZ(R:BL S ch u t rules L d c)(K2:∀v f H' n',cy (λx x x=>D) d c n' H'->Dz r v H'->Q (.r v) ⟨f,H',n'⟩):∀(m:Nat) (q:RQ) (i a b n:Nat) (H:Hp) (l k j h v10:V),KV t rules ch u m q=M r->RI d c q a b H n->
  zf (λv=>ck 6 v) (tF call) (bE .n) (m+1) (.R (i,m)) (qT yp Q) ⟨PA L (u.m ch) a b q.p l k j h v10,H,n⟩
 :=λJ=>J.r (λq i a b n H l k j h v10 g I=>nS g) λm E q i a b n H l k j h v10 g I=>by
  refine bc g λC A g=>SS λY' z P N y=>hU U U<|abr R I A (λp e a b k j h v10 H' n' w=>z _ ?_) λv f o=>y _ _<|oz<|K2 v f H n I.1 ?_
  .subst e
   exact E p (i+1) a b n' H' _ _ _ _ _ g w
  .rcases C with p|s|⟨s,ts⟩;(exact o.e);all_goals(exact rR (aV g) o)
theorem Tb(R:BL w ch u t rules f n H)(c:∀k m,n<=m->H (.t k m)=aI)(d:KV t rules ch u 200 ⟨[0],[],0⟩=M r)
  (K:∀v a H' n',cy (λx x x=>D) n H n' H'->Dz r v H'->Q (.r v) ⟨a,H',n'⟩):EJ call Q ⟨[ax 20 0 0,.L f,.s<|u.m ch,s,q,p,l,j,i,g,v10],H,n⟩:=by
 refine aM<|b9 (r:=.t 100 n) (c _ _<|aG _) U<|hU U U<|aE<|aM ?_
 have b:cy (λx x x=>D) n H (n+1) (aZ H (.t 100 n)<|.l [.I 0]):=(cy.s c).e
 refine b9 (b.4 _ _<|aG _) U<|hU U U<|aE<|aM<|hU U U<|aE<|aM<|eI _ U (bh.m<|(by decide))<|⟨201,VZ R K 200 ⟨[0],[],0⟩ 0 n (n+1) _ _ _ _ _ _ _ d ⟨b.e,⟨aG _,du (zQ 5) U⟩,⟨du (zQ 34) U,du (zQ 15) U⟩,aT _ _ _,[],U,aT (aZ H (.t 100 n)<|.l [.I 0]) (.t 101<|n+1)<|.l [],λe h=>nomatch h⟩⟩
end
def acI(call:CF):Prop:=∀{c:aa} {ch:ag} {u:ao} {t:xA} {rules:aw} {b:Loc} {n:Nat} {H:Hp} {Q:ab} {a:aq} {r:RR},BL c ch u t rules b n H->(∀k m,n<=m->H (.t k m)=aI)->KV t rules ch u 200 ⟨[0],[],0⟩=M r->
 (∀v H' n',cy (λx x x=>D) n H n' H'->Dz r v H'->Q v ⟨a,H',n'⟩)->call 452 [ax 20 0 0,.L b,.s<|u.m ch] Q ⟨a,H,n⟩
section
variable{K:ab}
theorem Bg(h:H l=M (.l vs))(d:fits k=Z)(c:fits vs.L=Z)(b:H r=aI)(q:K (.L r) ⟨a,aZ H r<|.l<|AO k vs,n+1⟩):jq (.L l) (nv k) K ⟨a,H,n⟩:=
 .i<|.i ⟨l,vs,U,h,k,U,na d c,eJ b q⟩
theorem Bf{b:Nat}(d:0<b)(c:aO b 1000000=Z)(q:K (nv<|a/b) σ):B7 (nv a) (nv b) K σ:=
 ⟨_,U,_,U,na (decide_eq_true λe=>absurd (ig e)<|mO d) c,(congrArg (λi=>K (.I i) σ) (Int.ofNat_fdiv a b).s).m q⟩
theorem vL{a b:Nat}(c:aO a 1000000=Z)(q:K (nv<|a*b) σ):jq (nv a) (nv b) K σ:=.I ⟨_,U,_,U,c,q⟩
end
theorem qB(a:d):∀k,AO k [a]=aQ k a
 :=λc=>c.r U λk b=>by
  show(aQ (k+1) [a]).flatten=_
  exact Y Ln (Y List.flatten_cons (Y Ln (congrArg (a::·) b)))
noncomputable def Kj{b:Type}(f:b->b)(k:Nat):b->b:=k.r (λa=>a) λ_ c a=>c<|f a
noncomputable def sD(c:Nat):Nat×et:=(1,.s ⟨[c].T⟩)
def mT(p y k z l:Nat)(e:Nat×et):Nat×et:=ke (p+1)<|aQ k (sD y)++[e]++aQ l (sD z)
def wW(p:ag)(x y z i k j l:Nat)(w:ao):RR:=
 bif !aA (dm w x % i) 0 then .n (dm w x)else
 bif !aA (dm (w.d<|dm w x) y % k) 0 then .n (dm w x+dm (w.d<|dm w x) y)else
 bif !aA (dm (w.d<|dm w x+dm (w.d<|dm w x) y) z) (dm w x/i*j+dm (w.d<|dm w x) y/k*l)||bg (dm w x+dm (w.d<|dm w x) y+dm (w.d<|dm w x+dm (w.d<|dm w x) y) z) w.L then .n (dm w x+dm (w.d<|dm w x) y+w6 (dm (w.d<|dm w x+dm (w.d<|dm w x) y) z) (dm w x/i*j+dm (w.d<|dm w x) y/k*l))else
 .y w.L [Kj (mT (p 0) x i z j) (dm w x/i) (ke (p 1+1) [Kj (mT (p 2) y k z l) (dm (w.d<|dm w x) y/k) (ke (p 3+1) [])])]
theorem Cp{h:Hp}(e:gg h f v=M d)(a:σ.l[i]?=M v):x5 i σ=M v:=by
 delta x5;refine Y a ?_
 rcases v with _|_|_|_|_|_|_|_;(rcases f with _|_<;>exact nS e);all_goals(rfl)
inductive M7(RW RL:Loc)(p:ag)(n:Nat)(H:Hp):Prop
 |mk (rl:∀n' H',cy (λx x x=>D) n H n' H'->∃vs,H' RL=M (.l vs)) (Tc:∀n' H',cy (λx x x=>D) n H n' H'->∃vs,H' RW=M (.l vs)/\fits vs.L=Z/\∀e,e<4->∃v,vs[e]?=M v/\∀(K:ab) loc,K (nv (p e)) ⟨loc,H',n'⟩->(q9 (.L RL) [v]) K ⟨loc,H',n'⟩)
noncomputable abbrev MJ(RW RL:Loc)(lens:V)(w:ao)(x y z i k j l:Nat)(v11 v12 v13 v14 v15 v16:V):List V:=[.L RW,.L RL,lens,.s w,.s [x],.s [y],.s [z],nv i,nv k,nv j,nv l,v11,v12,v13,v14,v15,v16]
def RO(w v u t:Nat)(e:Int):W F:=λQ=>(aS 1) λa=>(o7 a) λx=>(aS 0) λs=>(dj s<|.I e) λr=>(q9 a [r]) λq=>(eH.ej q<|.I 1) λp=>(aS w) λo=>(bj [o]) λn=>(aS v) λm=>(jq n m) λl=>(aS 15) λk=>(bj [k]) λj=>(eH.ej l j) λi=>(aS u) λh=>(bj [h]) λg=>(aS t) λf=>(jq g f) λd=>(eH.ej i d) λc=>(cY [p,c]) λb=>(ck 15 b)<|nx Q
inductive WG(cu:Nat)(cC:Hp)(v:V)(e:Nat×et)(H:Hp)(n:Nat):Prop
 |mk (now:cy (λx x x=>D) cu cC n H) (at_:gg (dh H) e.1 v=M e.2)
theorem QT(b:bg c 1114112=Z):Jx h (aQ k (.s [c],sD c)):=λe a=>Y (cU a)<|Cq b
theorem ML(S:M7 RW RL p f c)(I:e<4)(h1:∀H n,x5 iy ⟨MJ RW RL g w x y z i k j l E C v13 v14 a v16,H,n⟩=M (.s [q]))(h2:∀H n,x5 ik ⟨MJ RW RL g w x y z i k j l E C v13 v14 a v16,H,n⟩=M (nv A))
  (h3:∀H n,x5 iz ⟨MJ RW RL g w x y z i k j l E C v13 v14 a v16,H,n⟩=M (.s [J])) (h4:∀H n,x5 il ⟨MJ RW RL g w x y z i k j l E C v13 v14 a v16,H,n⟩=M (nv cl)) (zk:A<=3) (zl:cl<=3) (hy:bg q 1114112=Z) (hz:bg J 1114112=Z) (T:WG f c a t H n)
  (K:∀v H' n',WG f c v (mT (p e) q A J cl t) H' n'->Q .n ⟨MJ RW RL g w x y z i k j l E C v13 v14 v v16,H',n'⟩):RO iy ik iz il (.o e) Q ⟨MJ RW RL g w x y z i k j l E C v13 v14 a v16,H,n⟩:=by
 refine j8 (S.1 _ _ T.1) λrvs r1=>eV (S.2 _ _ T.1) λwvs w1 w2 w3=>cz (w3 e I) λve w4 w5=>(fE r1<|(jR (m:=e) w1 w2 (gZ (bw.m w4).1) w4<|w5 _ _<|gj (b:=1)<|cg (h1 _ _) ?_))
 have fk:∀{k:Nat},k<=3->fits k=Z:=λh=>by rw[cG];exact decide_eq_true (by exact bZ (zQ 78) U h)
 have f0:∀k m,n<=m->H (.t k m)=aI:=T.1.4
 refine b9 (r:=.t 104 n) (f0 _ _<|aG _) U ?_
 generalize X:aZ H (.t 104 n) (.l [.s [q]])=H1
 have N1:cy (λu u u=>D) f c (n+1) H1:=X▸T.1.e
 have a1:H1 (.t 104 n)=M (.l [.s [q]]):=by exact rR X<|aT _ _ _
 have s1:Sub (dh H) (dh H1):=X▸jQ (.I U)
 refine cg (h2 _ _)<|Bg (r:=.t 105<|n+1) a1 (fk zk) U (N1.4 _ _<|aG _)<|Y (qB _ _) ?_
 generalize R:aZ H1 (.t 105<|n+1) (.l<|aQ A<|.s [q])=H2
 have N2:cy (λu u u=>D) f c (n+2) H2:=R▸N1.e
 have a2:H2 (.t 105<|n+1)=M (.l<|aQ A<|.s [q]):=by exact rR R<|aT _ _ _
 have s2:Sub (dh H1) (dh H2):=R▸jQ (.I U)
 refine cg (Cp T.2 U)<|b9 (r:=.t 106<|n+2) (N2.4 _ _<|aG _) U ?_
 generalize L:aZ H2 (.t 106<|n+2) (.l [a])=H3
 have N3:cy (λu u u=>D) f c (n+3) H3:=L▸N2.e
 have a3:H3 (.t 106<|n+2)=M (.l [a]):=by exact rR L<|aT _ _ _
 have b3:H3 (.t 105<|n+1)=M (.l<|aQ A<|.s [q]):=by exact rR L a2
 have s3:Sub (dh H2) (dh H3):=L▸jQ (.I U)
 refine p0 (r:=.t 107<|n+3) b3 a3 (by exact Y bx<|fk zk) U (N3.4 _ _<|aG _) ?_
 generalize P:aZ H3 (.t 107<|n+3) (.l<|aQ A (.s [q])++[a])=H4
 have N4:cy (λu u u=>D) f c (n+4) H4:=P▸N3.e
 have a4:H4 (.t 107<|n+3)=M (.l<|aQ A (.s [q])++[a]):=by exact rR P<|aT _ _ _
 have s4:Sub (dh H3) (dh H4):=P▸jQ (.I U)
 refine cg (h3 _ _)<|b9 (r:=.t 104<|n+4) (N4.4 _ _<|aG _) U ?_
 generalize o:aZ H4 (.t 104<|n+4) (.l [.s [J]])=H5
 have a5:H5 (.t 104<|n+4)=M (.l [.s [J]]):=by exact rR o<|aT _ _ _
 have b5:H5 (.t 107<|n+3)=M (.l<|aQ A (.s [q])++[a]):=(rR o a4)
 have s5:=o▸jQ (.I U)
 refine cg (h4 _ _)<|Bg (r:=.t 105<|n+5) a5 (fk zl) U (o▸N4.e.4 _ _ (aG _))<|Y (qB _ _) ?_
 generalize s:aZ H5 (.t 105<|n+5) (.l<|aQ cl<|.s [J])=H6
 have a6:H6 (.t 105<|n+5)=M (.l<|aQ cl<|.s [J]):=(rR s<|aT _ _ _)
 have b6:H6 (.t 107<|n+3)=M (.l<|aQ A (.s [q])++[a]):=(rR s b5)
 have s6:=s▸jQ (.I U)
 refine p0 (r:=.t 102<|n+6) b6 a6 (by rw[aL,bx,cG];exact decide_eq_true<|bZ (zQ 79) U zk) (Y bx<|fk zl) ((s▸(o▸N4.e).e).4 _ _<|aG _) ?_
 generalize N:aZ H6 (.t 102<|n+6) (.l<|aQ A (.s [q])++[a]++aQ cl (.s [J]))=H7
 have N7:=N▸(s▸(o▸N4.e).e).e
 have a7:H7 (.t 102<|n+6)=M (.l<|aQ A (.s [q])++[a]++aQ cl (.s [J])):=rR N<|aT _ _ _
 have s7:=N▸jQ (.i<|s▸(o▸N4.e).e.4 _ _ (aG _))
 refine gR U<|hU U U<|K _ _ _ ⟨N7,?_⟩
 have hl:dh H7 (.t 102<|n+6)=M (.l<|(aQ A ((.s [q],sD q):TE)++[(a,t)]++aQ cl ((.s [J],sD J):TE)).m eA):=Y aK<|Y aK<|Y g9<|Y g9 a7
 have d:=nX (k:=p e+1) (vu (λe I=>by
  rcases bV.m I with I|I
  .rcases bV.m I with I|I
   .exact QT hy e I
   .exact Y (aX.m I)<|j7 (λu u z=>s7 _ _<|s6 _ _<|s5 _ _<|s4 _ _<|s3 _ _<|s2 _ _<|s1 _ _ z) (aG _) T.2
  .exact QT hz e I) hl)
 have d:=(g9▸(g9▸aK▸aK▸d))
 exact d
theorem CG{m:Nat}(q:KB (!aA m 0) σ):fX (nv m) KB σ:=.I<|.i<|.i<|.I<|br _ U<|(congrArg (λi=>KB (!i) σ)<|BP m 0).m q
theorem Xc{a b:Nat}(q:KB (!aA a b) σ):cw .o (nv a) (nv b) KB σ:=Ic U U (by rw[BP];exact q)
theorem Zg{K:ab}(q:K (nv<|w6 a b) σ):Oe [nv a,nv b] K σ:=by
 exact⟨_,_,U,_,U,_,U,(congrArg (λi=>K (.I i) σ) (by
  by_cases h:b<a
  .rw[(decide_eq_true (dG.M h):decide (aY b<aY a)=Z),show w6 a b=b from AX<|eD h];rfl
  .rw[(decide_eq_false λz=>h (dG.m z):decide (aY b<aY a)=D),show w6 a b=a from jV<|cR h];rfl)).m q⟩
theorem HR(w:ao)(c:Nat):dm w c<=w.L:=by
 delta dm
 induction w with
 |nil=>exact lr
 |cons a r b=>
  refine Y gu ?_
  rcases aA a c with _|_;(exact cO _);(exact bz b)
section
variable{call:CF}
theorem MK(A:∀{Q:ah} {b v16 t H n},WG e d b t H n->(∀v H' n',WG e d v (f t) H' n'->Q .n ⟨MJ p o c w x y z i k j l h g v13 v14 v v16,H',n'⟩)->body Q ⟨MJ p o c w x y z i k j l h g v13 v14 b v16,H,n⟩):∀(m a:Nat) (b v16:V) (t:Nat×et) (H:Hp) (n:Nat),WG e d b t H n->(∀v v16 H' n',WG e d v (Kj f m t) H' n'->Q .n ⟨MJ p o c w x y z i k j l h g v13 v14 v v16,H',n'⟩)->
  zf (λv=>ck 16 v) body (bE .n) (m+1) (.R (a,m)) Q ⟨MJ p o c w x y z i k j l h g v13 v14 b v16,H,n⟩
 :=λu=>u.r (λa b v16 t H n T K=>((gk<|K _ _ _ _ T))) λm s a b v16 t H n T K=>SS λY' r I E C=>hU U U<|A T λv H' n' q=>r _<|s (a+1) v (nv a) (f t) H' n' q K
theorem V9(S:M7 RW RL p a b)(h0:∀k m,a<=m->b (.t k m)=aI)(zi:0<i/\i<=3)(zk:0<k/\k<=3)(zj:j<=2)(zl:l<=2)(hx:bg x 1114112=Z)(hy:bg y 1114112=Z)(hz:bg z 1114112=Z)(hw:aO w.L 900=Z)(ho:d<=900)(ht:c<=900)
  (K:∀v loc H' n',cy (λu u u=>D) a b n' H'->Dz (.y w.L [Kj (mT (p 0) x i z j) (d/i) (ke (p 1+1) [Kj (mT (p 2) y k z l) (c/k) (ke (p 3+1) [])])]) v H'->Q (.r v) ⟨loc,H',n'⟩):
  aR rM (aR rN<|aR rO<|aR rQ<|rT call) Q ⟨MJ RW RL lens w x y z i k j l (nv d) (nv c) v13 v14 A v16,b,a⟩:=by
 have X:cy (λu u u=>D) a b a b:=.s h0
 refine j8 (S.1 _ _ X) λR P=>eV (S.2 _ _ X) λN L J I=>cz (I 3 (by decide)) λve w4 E=>aM<|(fE P<|jR L J (gZ (bw.m w4).1) w4<|E _ _<|gj ?_)
 refine b9 (r:=.t 102 a) (h0 _ _<|aG _) U<|gR U<|hU U U<|aE<|aM ?_
 have T3:WG a b (V.t [nv (p 3+1),ay 102 a]) (ke (p 3+1) []) (aZ b (.t 102 a)<|.l []) (a+1):=⟨X.e,nX<|vu (es:=[]) (λe h=>by cases h)<|aT b (.t 102 a)<|.l []⟩
 refine((Bf zk.1 (bh.m (by exact aC zk.2 (by decide)))<|eI _ U (bh.m<|(aC (lT _ _)<|bZ (zQ 81) U ht))<|⟨c/k+1,MK (f:=mT (p 2) y k z l) (λ{Q A v16 t H n} T K=> ?_) (c/k) 0 _ _ _ _ _ T3 λv v16 H1 s g=>aE<|aM ?_⟩))
 .exact Y (show wM=RO 5 8 6 10 2 from U)<|ML S (by decide) (λu u=>U) (λu u=>U) (λu u=>U) (λu u=>U) zk.2 (bZ (zQ 20) U zl) hy hz T K
 generalize Kj (mT (p 2) y k z l) (c/k) (ke (p 3+1) [])=C at g K
 refine j8 (S.1 _ _ g.1) λR P=>eV (S.2 _ _ g.1) λN L J I=>cz (I 1 (by decide)) λve w4 E=>(fE P<|jR L J (gZ (bw.m w4).1) w4<|E _ _<|gj<|cg (Cp g.2 U) ?_)
 refine b9 (r:=.t 102 s) (g.1.4 _ _<|aG _) U<|gR U<|hU U U<|aE<|aM ?_
 have T2:WG a b (V.t [nv (p 1+1),ay 102 s]) (ke (p 1+1) [C]) (aZ H1 (.t 102 s)<|.l [v]) (s+1):=⟨g.1.e,nX<|vu (es:=[(v,C)]) (λe h=>Y (aX.m h)<|j7 (jQ<|.i<|g.1.4 _ _<|aG _) (aG _) g.2)<|aT H1 (.t 102 s)<|.l [v]⟩
 refine((Bf zi.1 (bh.m (by exact aC zi.2 (by decide)))<|eI _ U (bh.m ((aC (lT _ _) (bZ (zQ 81) U ho)))) (⟨d/i+1,MK (f:=mT (p 0) x i z j) (λ{Q A v16 t H n} T K=> ?_) (d/i) 0 _ _ _ _ _ T2 λv' v16 H3 n3 q=>aE ?_⟩)))
 .exact Y (show wO=RO 4 7 6 9 0 from U) (ML S (by decide) (λu u=>U) (λu u=>U) (λu u=>U) (λu u=>U) zi.2 (bZ (zQ 20) U zj) hx hz T K)
 generalize Kj (mT (p 0) x i z j) (d/i) (ke (p 1+1) [C])=t2 at q K
 refine sE (i9 hw) (cg (Cp q.2 U) (b9 (r:=.t 104 n3) (q.1.4 _ _ (aG _)) U ?_))
 exact gR U (K _ _ _ _ q.1.e (br _ U (nX (vu (es:=[(v',t2)]) (λe h=>Y (aX.m h) (j7 (λl o z=>QH _ _ _ (jQ (.I U) _ _ z)) (aG _) q.2)) (aT H3 (.t 104 n3) (.l [v']))))))
theorem OL(hL:z! call)(S:M7 P N p f d)(L:∀k m,f<=m->d (.t k m)=aI)(J:0<i/\i<=3)(I:0<k/\k<=3)(zj:j<=2)(zl:l<=2)(hx:bg x 1114112=Z)(hy:bg y 1114112=Z)(hz:bg z 1114112=Z)(X:aO w.L 900=Z)
  (K:∀v s H' n',cy (λu u u=>D) f d n' H'->Dz (wW p x y z i k j l w) v H'->Q (.r v) ⟨s,H',n'⟩):
  CX call Q ⟨[.L P,.L N,V.t [.s [x],.s [y],.s [z],nv i,nv k,nv j,nv l],.s w,v4,v5,v6,v7,v8,v9,v10,T,C,v13,v14,r,v16],d,f⟩:=by
 have H:=i9 X
 have n:=bh.M X
 delta wW at K
 generalize q:V.t [.s [x],.s [y],.s [z],nv i,nv k,nv j,nv l]=g at*
 refine aM<|cg (by refine rR q ?_;rfl) ?_
 refine((λh=>(kb U U h):qT _ _ .n ⟨MJ P N g w x y z i k j l T C v13 v14 r v16,d,f⟩->_))<|aE<|aM ?_
 generalize ha:dm w x=a at K
 have lo:=ha▸HR w x
 refine((hL H (cO _)<|Y Uy<|Y ha<|hU U (σ':=⟨MJ P N g w x y z i k j l (nv a) C v13 v14 r v16,d,f⟩) U<|aE<|aM<|lE J.1<|CG ?_))
 rcases h1: !aA (a % i) 0 with _|_;(
 rw[h1]at K
 refine fx<|aE<|aM ?_
 generalize hb:dm (w.d a) y=b at K
 have R:a+b<=w.L:=by have:=HR (w.d a) y;rw[hb,jm]at this;exact(uu lo).m this
 refine cg U<|((hL H lo<|Y hb<|hU U U<|aE<|aM<|lE I.1<|CG ?_))
 rcases h2: !aA (b % k) 0 with _|_;(
 have K:=h2▸K
 refine fx<|aE<|aM ?_
 have q0:a/i<=900:=aC (lT _ _) (by exact aC lo n)
 have q1:b/k<=900:=aC (lT _ _) (by exact aC (aC (qc _ _) R) n)
 refine cg U<|cg U<|Bf J.1 (bh.m (by exact aC J.2 (by decide)))<|cg U<|vL (bh.m (by exact aC q0 (by decide)))<|cg U<|Bf I.1 (bh.m (by exact aC I.2 (by decide)))<|vL (bh.m (by exact aC q1 (by decide)))<|gj ?_
 generalize hdue:a/i*j+b/k*l=o at K
 refine hU U U<|aE<|aM<|cg U<|cg U<|gj<|hL H R ?_
 generalize hc:dm (w.d<|a+b) z=c at K
 refine hU U U<|aE<|aM ?_
 have A:(∀v s H' n',cy (λu u u=>D) f d n' H'->Dz (.n<|a+b+w6 c o) v H'->Q (.r v) ⟨s,H',n'⟩)->yq (qT (aR rM<|aR rN<|aR rO<|aR rQ<|rT call) Q) ⟨MJ P N g w x y z i k j l (nv a) (nv b) (nv o) (nv c) r v16,d,f⟩:=λK=>
  cg U<|cg U<|gj<|Zg<|gj<|gR U<|oz<|K _ _ _ _ (.s L) U
 refine Xc ?_
 rcases h3: !aA c o with _|_;(
 rw[h3,E1]at K
 refine fx<|cg U<|cg U<|gj<|gj<|sE H<|FZ ?_
 by_cases E:a+b+c<w.L
 .rw[cb.m E]at K
  rw[decide_eq_true (show aY (a+b+c)<aY w.L from dG.M E)]
  exact ff<|ff<|A K
 .rw[(by rw[<-bN,cb];exact E:bg (a+b+c) w.length=false)]at K
  rw[decide_eq_false ((λe=>E (dG.m e):¬aY (a+b+c)<aY w.L))]
  exact fx<|fx<|aE<|V9 S L J I zj zl hx hy hz X (by exact aC lo n) (by exact aC (aC (qc _ _) R) n) K);(
  rw[h3,Bool.true_or]at K
  exact ff<|ff<|A K));(
  exact ff<|(gj<|gR U<|oz<|(h2▸K) _ _ _ _ (.s L) U)));(
  rw[h1]at K
  exact ff<|gR U<|oz<|K _ _ _ _ (.s L) U)
end
def K?(call:CF):Prop:=∀{c b:Loc} {w:ao} {p:ag} {x y z i k j l n:Nat} {H:Hp} {Q:ab} {a:aq},M7 c b p n H->(∀k m,n<=m->H (.t k m)=aI)->0<i/\i<=3->0<k/\k<=3->j<=2->l<=2->bg x 1114112=Z->bg y 1114112=Z->bg z 1114112=Z->aO w.L 900=Z->
 (∀v H' n',cy (λu u u=>D) n H n' H'->Dz (wW p x y z i k j l w) v H'->Q v ⟨a,H',n'⟩)->call 466 [.L c,.L b,V.t [.s [x],.s [y],.s [z],nv i,nv k,nv j,nv l],.s w] Q ⟨a,H,n⟩
def Al(b:aq):W F:=λQ=>pK (startB b) (pE<|.l []) 1 [] (λd a=>D9 (λv=>(ck 0 v)) d a (λK=>(aS 0) λv=>tx v (.I 720720) λr=>(hH d [r]) λx=>K ())) λv=>(ck 0 v)<|nx Q
theorem CM{call:CF}(a:ae):QU call a b=Al b:=by kernel_rfl
noncomputable def EV(a:List Int):List Nat:=(a.t 24).m λx=>(x.fmod 720720).t
theorem Zh{K:ab}(q:K (nv (x.fmod 720720).t) σ):tx (.I x) (.I 720720) K σ:=.I ⟨_,U,_,U,U,(congrArg (λi=>K (.I i) σ)<|M3<|Int.fmod_nonneg_of_pos x (by decide)).M q⟩
theorem OM(s:a.L<=63)(j:∀k m,n<=m->H (.t k m)=aI)
  (K:∀H',cy (λy y y=>D) n H (n+2) H'->H' (.t 111<|n+1)=M (.l<|(EV a).m nv)->Q .n ⟨.L (.t 111<|n+1)::r,H',n+2⟩):Al (a.m .I) Q ⟨v0::r,H,n⟩:=by
 refine Kz<|br (.t 110 n) (j _ _ lr) ?_
 have p:cut (a.m V.I) aI (M 24)=(a.t 24).m V.I:=by
  show((a.m V.I).d 0).t (bif aO 24 (a.m V.I).L then 24 else(a.m V.I).L - 0)=_
  refine Y o1 ?_
  rcases h:aO 24 (a.m V.I).L with _|_;(
   exact Y List.take_length<|Y (gF<|eD<|gV λz=>by rw[bh.m z]at h;exact bT h) U);(rfl)
 refine Y p ?_
 dsimp only
 generalize c:aZ H (.t 110 n) (.l<|(a.t 24).m V.I)=f
 have d:cy (λy y y=>D) n H (n+1) f:=c▸(cy.s j).e
 have o:f (.t 110 n)=M (.l<|(a.t 24).m V.I):=rR c<|aT _ _ _
 refine eJ (r:=.t 111<|n+1) (d.4 _ _<|aG _)<|za (e:=V.I) (w:=λx=>nv (x.fmod 720720).t) (a.t 24) (λb done g K q l k=> ?_) (λi=>.L (.t 110 n,i)) (λi g done K k=> ?_) λg=> ?_
 .refine hU U U<|(Zh<|gA (aT _ _ _) (by rw[cG];exact decide_eq_true<|bZ (zQ 112) U<|aC l<|Y gI<|bZ (zQ 50) U<|lU _ _) ?_)
  rw[lM]
  exact k _
 .exact Be ((λdone=>o) done) k
 .refine hU U U<|K _ d.e<|(aT _ _ _).t<|Y dQ ?_;rfl
inductive LI(tp:ao)(mt:Nat)(m:Nat)(cu:Nat)(cC H:Hp)(n:Nat):Prop
 |mk (now:cy (λx x x=>D) cu cC n H) (lt:cu<=mt/\mt<n) (at_:H (.t 111 mt)=M (.l ((tp.d m).m nv)))
theorem Bb(l:ao)(m:Nat):(l.d m).H 0=l.g m 0:=by
 refine Y aW<|rR fG ?_
 rcases l.d m with _|_<;>rfl
section
variable{mt:Nat}{call:CF}
theorem rd{K:ab}(hN:z7 call)(e:d.L<=24)(I:LI d mt m b a H n)(q:∀H',LI d mt (m+1) b a H' n->(∀k j,aA k 111=D->H' (.t k j)=H (.t k j))->K (nv<|d.g m 0) ⟨c,H',n⟩):call 438 [ay 111 mt] K ⟨c,H,n⟩:=by
 refine hN I.3 (by rw[cG,jm];exact decide_eq_true<|eM (zQ 53) U e<|i8 _ _) ?_
 rw[Bb,df]
 exact q _ ⟨I.1.u I.2.1 I.2.2,I.2,hA⟩ λk j h=>k8 h
theorem LI.p{k:Nat}(I:LI f mt m a b H n)(e:aA 111 k=D)(d:a<=j)(c:j<n):LI f mt m a b (aZ H (.t k j) o) n:=⟨I.1.u d c,I.2,(k8 e).t I.3⟩
theorem LI.N{k:Nat}(I:LI d mt m b a H n)(c:aA 111 k=D):LI d mt m b a (aZ H (.t k n) o) (n+1):=⟨I.1.e,⟨I.2.1,dA I.2.2⟩,(k8 c).t I.3⟩
theorem KC{K:ab}(h:H l=M (.l vs))(c:fits vs.L=Z)(b:vs[k]?=M v)(q:K v ⟨a,aZ H l<|.l<|vs.e k,n⟩):DN (.L l) [nv k] K ⟨a,H,n⟩:=.i ⟨_,U,k,U,_,_,U,h,c,_,b,q⟩
end
theorem Kr{b d:Type}(f:b->d)(l:List b):∀k,(l.m f).e k=(l.e k).m f:=l.R (λ_=>U) λa l c k=>k.r U λk _=>congrArg (f a::·)<|c k
abbrev cv(c:Nat):V:=.s [c]
noncomputable def l1(a:Nat):List Nat:=[97,98,99].e<|a % 3
def xM(a:Nat):Nat:=97+a % 3
noncomputable def yM(a b:Nat):Nat:=(l1 a).g (b % 2) 0
noncomputable def zM(a b:Nat):Nat:=((l1 a).e<|b % 2).g 0 0
theorem FP(a:Nat):a % 3=0\/a % 3=1\/a % 3=2:=(by decide:∀n,n<3->n=0\/n=1\/n=2) _<|cT a (by decide)
theorem mod2(a:Nat):a % 2=0\/a % 2=1:=(by decide:∀n,n<2->n=0\/n=1) _<|cT a (by decide)
theorem adK(a b:Nat):(l1 a)[b % 2]?=M (yM a b):=by
 delta yM l1
 rcases FP a with h|h|h<;>rcases mod2 b with c|c<;>refine Y h (Y c ?_)<;>rfl
theorem adN(a b:Nat):(l1 a).e (b % 2)=[zM a b]:=by
 delta zM l1
 rcases FP a with h|h|h<;>rcases mod2 b with c|c<;>refine Y h (Y c ?_)<;>rfl
section
variable{mt:Nat}{call:CF}
noncomputable abbrev adU(tp:ao)(mt ml:Nat)(r:aq):List V:=ay 111 mt::ay 112 ml::cv (xM (tp.g 0 0))::cv (yM (tp.g 0 0) (tp.g 1 0))::cv (zM (tp.g 0 0) (tp.g 1 0))::nv (1+tp.g 2 0 % 3)::nv (1+tp.g 3 0 % 3)::nv ((1+tp.g 4 0) % 3)::nv ((1+tp.g 5 0) % 3)::r
theorem RV(hN:z7 call)(f:c.L<=24)(I:LI c mt 0 e d H n)
  (K:∀H',LI c mt 6 e d H' (n+1)->a Q ⟨adU c mt n r,H',n+1⟩):
  aR Ey (aR (Ez call)<|aR (EA call)<|aR EB<|aR (EC call)<|aR (ED call)<|aR (EE call)<|aR (EF call) a) Q ⟨ay 111 mt::v1::v2::v3::v4::X::T::S::R::r,H,n⟩:=by
 refine aM<|b9 (r:=.t 112 n) (I.1.i lr) U<|fM U<|aE<|aM ?_
 have E:LI c mt 0 e d (aZ H (.t 112 n)<|.l [cv 97,cv 98,cv 99]) (n+1):=I.N U
 have l:=I.1.1
 have k:=aT H (.t 112 n)<|.l [cv 97,cv 98,cv 99]
 refine fE k<|rd hN f E λj C A=>lE (b:=3) (by decide)<|KC (v:=cv<|xM<|c.g 0 0) ((A _ _ U).t k) U ?_<|fM U<|aE<|aM ?_
 .show([97,98,99].m cv)[c.g 0 0 % 3]?=_
  rw[aN,Qd];rfl
 refine Y (Kr cv [97,98,99] _) ?_
 have z:LI c mt 1 e d (aZ j (.t 112 n)<|.l<|(l1<|c.g 0 0).m cv) (n+1):=C.p U l<|a8 _
 have i:=aT j (.t 112 n)<|.l<|(l1<|c.g 0 0).m cv
 refine fE i<|rd hN f z λg y w=>lE (b:=2) (by decide)<|KC (v:=cv<|yM (c.g 0 0)<|c.g 1 0) ((w _ _ U).t i) (by
  delta l1
  rcases FP (c.g 0 0)with h|h|h<;>refine Y h ?_<;>rfl) ?_<|fM U<|aE<|aM ?_
 .rw[aN,adK];rfl
 rw[Kr,adN]
 have u:LI c mt 2 e d (aZ g (.t 112 n)<|.l<|[zM (c.g 0 0) (c.g 1 0)].m cv) (n+1):=y.p U l<|a8 _
 have s:=aT g (.t 112 n)<|.l<|[zM (c.g 0 0) (c.g 1 0)].m cv
 exact jR s U U U<|fM U<|aE<|aM<|(rd hN f u λP q x=>lE (b:=3) (by decide)<|gj<|fM U<|aE<|aM<|rd hN f q λN p x=>lE (b:=3) (by decide)<|gj<|fM U<|aE<|aM<|rd hN f p λL o x=>gj<|lE (b:=3) (by decide)<|fM U<|aE<|aM<|rd hN f o λJ m x=>gj<|lE (b:=3) (by decide)<|aE<|K _ m)
end
noncomputable def mB(a k b c l:Nat):List Nat:=aQ k a++[b]++aQ l c
theorem Sd{K:ab}(h2:∀H n,x5 ik ⟨d,H,n⟩=M (nv k))(h3:∀H n,x5 iz ⟨d,H,n⟩=M (cv c))(h4:∀H n,x5 il ⟨d,H,n⟩=M (nv l))(N:k<=3)(zl:l<=3)(f0:∀k m,n<=m->H (.t k m)=aI)
  (q:∀H',cy (λx x x=>D) n H (n+7) H'->H' (.t 113<|n+6)=M (.l<|(mB a k b c l).m cv)->K (.L<|.t 113<|n+6) ⟨d,H',n+7⟩):
  bj [cv a] (λL=>aS ik λJ=>jq L J λI=>bj [cv b] λE=>eH.ej I E λC=>aS iz λA=>bj [A] λz=>aS il λy=>jq z y λw=>eH.ej C w K) ⟨d,H,n⟩:=by
 have g:∀{k:Nat},k<=3->fits k=Z:=λh=>by rw[cG];exact decide_eq_true<|bZ (zQ 78) U h
 refine b9 (r:=.t 104 n) (f0 _ _ lr) U ?_
 have v:cy (λx x x=>D) n H (n+1) (aZ H (.t 104 n)<|.l [cv a]):=(cy.s f0).e
 have a1:=aT H (.t 104 n)<|.l [cv a]
 generalize aZ H (.t 104 n) (.l [cv a])=u at v a1
 refine cg (h2 _ _)<|Bg (r:=.t 105<|n+1) a1 (g N) U (v.i lr)<|Y (qB _ _) ?_
 have s:cy (λx x x=>D) n H (n+2) (aZ u (.t 105<|n+1)<|.l<|aQ k<|cv a):=v.e
 have a2:=aT u (.t 105<|n+1)<|.l<|aQ k<|cv a
 generalize aZ u (.t 105<|n+1) (.l<|aQ k<|cv a)=f at s a2
 refine b9 (r:=.t 106<|n+2) (s.i lr) U ?_
 have p:cy (λx x x=>D) n H (n+3) (aZ f (.t 106<|n+2)<|.l [cv b]):=s.e
 have a3:=aT f (.t 106<|n+2)<|.l [cv b]
 have X:aZ f (.t 106<|n+2) (.l [cv b]) (.t 105<|n+1)=_:=a2
 generalize aZ f (.t 106<|n+2) (.l [cv b])=o at p a3 X
 refine p0 (r:=.t 107<|n+3) X a3 (Y bx<|g N) U (p.i lr) ?_
 have j:cy (λx x x=>D) n H (n+4) (aZ o (.t 107<|n+3)<|.l<|aQ k (cv a)++[cv b]):=p.e
 have T:=aT o (.t 107<|n+3)<|.l<|aQ k (cv a)++[cv b]
 generalize aZ o (.t 107<|n+3) (.l<|aQ k (cv a)++[cv b])=e at j T
 refine cg (h3 _ _)<|b9 (r:=.t 104<|n+4) (j.i lr) U ?_
 have i:cy (λx x x=>D) n H (n+5) (aZ e (.t 104<|n+4)<|.l [cv c]):=j.e
 have S:=aT e (.t 104<|n+4)<|.l [cv c]
 have R:aZ e (.t 104<|n+4) (.l [cv c]) (.t 107<|n+3)=_:=T
 generalize aZ e (.t 104<|n+4) (.l [cv c])=Q at i S R
 refine cg (h4 _ _)<|Bg (r:=.t 105<|n+5) S (g zl) U (i.i lr)<|Y (qB _ _) ?_
 have P:cy (λx x x=>D) n H (n+6) (aZ Q (.t 105<|n+5)<|.l<|aQ l<|cv c):=i.e
 have a6:=aT Q (.t 105<|n+5)<|.l<|aQ l<|cv c
 have b6:=R
 refine p0 b6 a6 (by rw[aL,bx,cG];exact decide_eq_true<|bZ (zQ 79) U N) (Y bx<|g zl) (P.i lr)<|q _ P.e<|hA.t<|Y aK<|Y aK<|Y g9<|Y g9 ?_;rfl
noncomputable def C7(e:Nat):Nat:=bif aO e 1 then 83 else 84
noncomputable def abw(x y z i k j l e:Nat):List Nat:=match e with
 |0=>mB x i 83 z j
 |1=>[84]
 |2=>mB y k 84 z l
 |_=>[]
def DP(m:ag)(e:Nat):V:=V.t [cv (C7 e),.L<|.t 113<|m e]
inductive UI(x y z i k j l:Nat)(m:ag)(n₁:Nat)(H:Hp):Prop
 |mk (lt:∀e,m e<n₁) (at_:∀e,e<4->H (.t 113 (m e))=M (.l ((abw x y z i k j l e).m cv)))
theorem OD(L:i<=3)(J:k<=3)(I:j<=3)(E:l<=3)(C:∀k m,n<=m->H (.t k m)=aI)
  (K:∀(m:ag) H' n',cy (λw w w=>D) n H n' H'->n<n'->UI x y z i k j l m (n' - 1) H'->H' (.t 114<|n' - 1)=M (.l<|[0,1,2,3].m<|DP m)->Q .n ⟨v0::v1::cv x::cv y::cv z::nv i::nv k::nv j::nv l::.L (.t 114<|n' - 1)::r,H',n'⟩):
  EG Q ⟨v0::v1::cv x::cv y::cv z::nv i::nv k::nv j::nv l::N::r,H,n⟩:=by
 refine Sd (λw w=>U) (λw w=>U) (λw w=>U) L I C λd o A=>gR U<|b9 (r:=.t 113<|n+7) (o.i lr) U ?_
 have g:cy (λw w w=>D) n H (n+8) (aZ d (.t 113<|n+7)<|.l [cv 84]):=o.e
 have v:=aT d (.t 113<|n+7)<|.l [cv 84]
 have u:aZ d (.t 113<|n+7) (.l [cv 84]) (.t 113<|n+6)=_:=(l0 (by exact du (zQ 240) U)).t A
 refine gR U<|Sd (λw w=>U) (λw w=>U) (λw w=>U) J E g.4 λb a s=>gR U<|b9 (r:=.t 113<|n+15) (a.4 _ _<|aG _) U ?_
 have f:cy (λw w w=>D) n H (n+16) (aZ b (.t 113<|n+15)<|.l []):=(g.T a λw w w h=>h).e
 have q:=aT b (.t 113<|n+15)<|.l []
 have c:∀j,j<n+15->aZ b (.t 113<|n+15) (.l []) (.t 113 j)=b (.t 113 j):=λj h=>l0 h
 refine gR U<|b9 (f.4 _ _<|aG _) U<|fM U<|K (λe=>match e with|0=>n+6|1=>n+7|2=>n+14|_=>n+15) _ (n+17) f.e (du (zQ 241) U) ⟨λe=> ?_,λe p=> ?_⟩<|aT _ _ _
 .rcases e with _|_|_|e
  .exact du (zQ 242) U
  .exact du (zQ 243) U
  .exact du (zQ 244) U
  .exact du (zQ 245) U
 .exact z4 ((c (n+6)<|du (zQ 246) U).t<|(a.3 113 (n+6)<|du (zQ 247) U).t u) ((c (n+7)<|du (zQ 248) U).t<|(a.3 113 (n+7)<|du (zQ 249) U).t v) ((c (n+14)<|du (zQ 250) U).t s) q e p
noncomputable def Ig(b:ao)(f:Nat):Nat->List Nat->List Nat:=f.r (λ_ _=>[]) λ_ c m a=>a.g (b.g m 0 % a.L) 0::c (m+1) (a.e<|b.g m 0 % a.L)
theorem Mw{K:ab}{H:Hp}(h:H l=M (.l vs))(c:fits vs.L=Z)(b:H r=aI)(q:K (.L r) ⟨a,aZ H r<|.l vs,n+1⟩):Eo [.L l] K ⟨a,H,n⟩:=
 br _ U<|.i<|mK l vs U h c<|eJ b q
theorem getD_at{l:ao}(h:k<l.L):l[k]?=M (l.g k 0):=by refine Y aW<|Y (aP h) ?_;rfl
def Oth(H H':Hp):Prop:=∀k j,aA k 111=D->aA k 115=D->aA k 116=D->H' (.t k j)=H (.t k j)
section
variable{mt:Nat}{call:CF}
noncomputable abbrev ruL(mt a b:Nat)(v1 v2 v3 v4 v5 v6 v7 v8 v9:V)(r:aq):List V:=ay 111 mt::v1::v2::v3::v4::v5::v6::v7::v8::v9::ay 116 a::ay 115 b::r
theorem Sj(hN:z7 call)(ht:h.L<=24)(L:e<=a/\a<n)(J:e<=b/\b<n):∀(c m:Nat) (d rules:ao) (H:Hp),d.L=c->c<=4->rules.L+c<=4->LI h mt m e l H n->H (.t 116 a)=M (.l<|d.m f)->H (.t 115 b)=M (.l<|rules.m f)->
  (∀H',LI h mt (m+c) e l H' n->Oth H H'->H' (.t 115 b)=M (.l<|(rules++Ig h c m d).m f)->Q .n ⟨ruL mt a b v1 v2 v3 v4 v5 v6 v7 v8 v9 r,H',n⟩)->
  qE (λK=>aS 10 λw=>fX w λu=>K u) (CP call) (bE .n) (c+1) Q ⟨ruL mt a b v1 v2 v3 v4 v5 v6 v7 v8 v9 r,H,n⟩
 :=λt'=>t'.r λm d rules H o x x I g i K=>by
  obtain rfl:=GP.m o
  refine qg λX E C=>CE g U<|C _<|gk<|K H I (λx x x x x=>U) ?_
  rw[i]
  show _=M (O.l<|(rules++[]).m f)
  rw[bQ] (λc ih m d rules H o A z I g i K=>by
  have fl:fits (d.m f).L=Z:=by rw[aD,o,cG];exact decide_eq_true<|bZ (zQ 153) U A
  have fr:fits (rules.m f).L=Z:=by rw[aD,cG];exact decide_eq_true<|bU (zQ 154) U z
  refine qg λX E C=>CE g fl ?_
  rw[aD,o]
  refine E _ λY' y1 y2 y3 y4=>cg U<|fE i<|cg U<|fE g<|rd hN ht I λs I1 q=>uR ((q _ _ U).t g) fl ?_
  have y:h.g m 0 % d.L<d.L:=cT _<|bU (zQ 6) U<|zG o
  refine Y (aD _)<|lE (bU (zQ 6) U<|zG o)<|KC (v:=f<|d.g (h.g m 0 % d.L) 0) ((q _ _ U).t g) fl ?_ ?_
  .refine Y aN<|Y (getD_at y) ?_;rfl
  refine Y (Kr _ _ _) ?_
  generalize hk:h.g m 0 % d.L=k at*
  have I2:LI h mt (m+1) e l (aZ s (.t 116 a)<|.l<|(d.e k).m f) n:=I1.p U L.1 L.2
  have a2:=aT s (.t 116 a)<|.l<|(d.e k).m f
  have T:=(q _ _ U).t i
  have S:Oth H (aZ s (.t 116 a)<|.l<|(d.e k).m f):=λR j g i p=>(k8 p).t<|q _ _ g
  refine gA T fr<|y1 _<|ih (m+1) (d.e k) (rules++[d.g k 0]) _ ?_ (bZ (zQ 155) U A) (Y aL<|bU (zQ 156) U z) (I2.p U J.1 J.2) a2 ((aT _ _ _).t (by refine Y aK ?_;rfl)) λH' P o' N=>K H' (by exact Y ((bo (gD (zQ 9) U) (gD (zQ 8) U):m+(c+1)=m+1+c)) P) (λR j g i p=>(o' _ _ g i p).t<|(k8 i).t<|S _ _ g i p) ?_
  .refine Y (ki y)<|Y o ?_;rfl
  .rw[N]
   show M (O.l<|(rules++[d.g k 0]++Ig h c (m+1) (d.e k)).m f)=M (O.l<|(rules++d.g (h.g m 0 % d.L) 0::Ig h c (m+1) (d.e<|h.g m 0 % d.L)).m f)
   rw[hk,cN];rfl)
theorem Si(hN:z7 call)(P:e.L<=24)(I:LI e mt m d b H n)(N:H (.t 114 c)=M (.l<|[0,1,2,3].m f))(R:c<n)
  (K:∀H',LI e mt (m+4) d b H' (n+2)->Oth H H'->H' (.t 115<|n+1)=M (.l<|(Ig e 4 m [0,1,2,3]).m f)->a Q ⟨ruL mt n (n+1) v1 L J E C A z y (ay 114 c) r,H',n+2⟩):
  aR EH (aR CO<|aR (CQ call) a) Q ⟨ay 111 mt::v1::L::J::E::C::A::z::y::ay 114 c::v10::w::r,H,n⟩:=by
 have p:=I.1.1
 refine aM<|Mw (r:=.t 116 n) N U (I.1.i lr)<|fM U<|aE<|aM ?_
 have o:LI e mt m d b (aZ H (.t 116 n)<|.l<|[0,1,2,3].m f) (n+1):=I.N U
 have v:=aT H (.t 116 n)<|.l<|[0,1,2,3].m f
 have u:Oth H (aZ H (.t 116 n)<|.l<|[0,1,2,3].m f):=λk j x x h=>k8 h
 refine b9 (o.1.i lr) U<|fM U<|aE<|aM ⟨5,Sj hN P ⟨p,du (zQ 5) U⟩ ⟨bU (zQ 24) U p,du (zQ 15) U⟩ 4 m [0,1,2,3] [] _ U lr lr (o.N U) v hA λH' s o' q=>aE<|K H' s (λk j l g i=>(o' _ _ l g i).t<|(k8 g).t<|u _ _ l g i) q⟩
end
noncomputable def yE(x y z i k j l b a:Nat):List Nat:=aQ (i*b) x++aQ (k*a) y++aQ (j*b+l*a) z
theorem vR{d:Nat}(f:a<=c)(e:b<=d):a*b<=c*d:=mN f e
theorem rd3{mt:Nat}{call:CF}{K:ab}(g:P6 call)(f:c.L<=24)(I:LI c mt m b a H n)(e:aO w.L 900=Z)(q:∀H',LI c mt (m+3) b a H' n->(∀k j,aA k 111=D->H' (.t k j)=H (.t k j))->K (.s<|yA (c.g m 0) (c.g (m+1) 0) (c.g (m+2) 0) w) ⟨d,H',n⟩):call 445 [ay 111 mt,.s w] K ⟨d,H,n⟩:=by
 refine g I.3 (by rw[cG,jm];exact decide_eq_true<|eM (zQ 53) U f<|i8 _ _) e<|Y df<|Y df ?_;rw[df,Bb,Bb,Bb]
 exact q _ ⟨I.1.u I.2.1 I.2.2,I.2,hA⟩ λk j h=>k8 h
section
variable{mt:Nat}{call:CF}
theorem OU(hN:z7 call)(hS:P6 call)(u:d.L<=24)(R:i<=3)(P:k<=3)(N:j<=2)(L:l<=2)(I:LI d mt m f e H n)
  (K:∀H',LI d mt (m+6) f e H' (n+1)->(∀k j,aA k 111=D->j<n->H' (.t k j)=H (.t k j))->c Q ⟨ay 111 mt::v1::cv x::cv y::cv z::nv i::nv k::nv j::nv l::v9::v10::A::gQ (aA (d.g m 0 % 2) 0)::nv ((2+d.g (m+1) 0) % 6)::nv ((2+d.g (m+2) 0) % 6)::.s (yA (d.g (m+3) 0) (d.g (m+4) 0) (d.g (m+5) 0)<|yE x y z i k j l ((2+d.g (m+1) 0) % 6)<|(2+d.g (m+2) 0) % 6)::r,H',n+1⟩):
  aR (CR call) (aR (CS call)<|aR (CT call)<|aR (CU call) c) Q ⟨ay 111 mt::v1::cv x::cv y::cv z::nv i::nv k::nv j::nv l::v9::v10::A::v12::v13::v14::v15::r,H,n⟩:=by
 refine aM<|b9 (r:=.t 117 n) (I.1.i lr) U ?_
 have I1:LI d mt m f e (aZ H (.t 117 n)<|.l [gQ Z,gQ D]) (n+1):=I.N U
 have a1:=aT H (.t 117 n)<|.l [gQ Z,gQ D]
 have e1:∀k j,j<n->aZ H (.t 117 n) (.l [gQ Z,gQ D]) (.t k j)=H (.t k j):=λk j h=>l0 h
 refine rd hN u I1 λH2 I2 J=>lE (by decide) ?_
 have hm:[gQ Z,gQ D][d.g m 0 % 2]?=M (gQ<|aA (d.g m 0 % 2) 0):=by
  rcases mod2 (d.g m 0)with h|h<;>refine Y h ?_<;>rfl
 refine jR ((J _ _ U).t a1) U (gZ<|cT _ (by decide)) hm<|fM U<|aE<|aM<|rd hN u I2 λH3 I3 e3=>gj<|lE (b:=6) (by decide)<|fM U<|aE<|aM<|rd hN u I3 λH4 I4 e4=>gj<|lE (b:=6) (by decide)<|fM U<|aE<|aM ?_
 have E:(2+d.g (m+1) 0) % 6<=5:=gp<|cT _ (by decide)
 have C:(2+d.g (m+2) 0) % 6<=5:=gp<|cT _ (by decide)
 have s:=vR R E
 have q:=vR P C
 have w:=vR N E
 have v:=vR L C
 have g:∀{a:Nat},a<=900->fits a=Z:=λh=>by rw[cG];exact decide_eq_true<|bZ (zQ 124) U h
 have p:∀{a:Nat},a<=3->aO a 1000000=Z:=λh=>bh.m<|aC h (by decide)
 refine cg U<|cg U<|((vL (p R)<|F1 (g<|bZ (zQ 19) U s) U<|cg U<|vL (p P)<|F1 (g<|bZ (zQ 19) U q) U ?_))
 rw[qB,qB]
 refine xh (Y bx<|g<|bZ (zQ 19) U s) (Y bx<|g<|bZ (zQ 19) U q)<|cg U<|cg U<|cg U<|vL (p<|bZ (zQ 20) U N)<|((vL (p<|bZ (zQ 20) U L)<|gj<|F1 (g<|eM (zQ 54) U w v) U<|Y (qB _ _)<|xh (Y aL<|Y bx<|Y bx<|g<|eM (zQ 125) U s q) (Y bx<|g<|eM (zQ 54) U w v)<|rd3 hS u I4 (bh.m<|Y aL<|Y aL<|Y bx<|Y bx<|Y bx<|aC (cJ (cJ s q)<|cJ w v) (by decide)) λH5 X T=>aE (K H5 X λk j o S=>(T _ _ o).t ((e4 _ _ o).t ((e3 _ _ o).t ((J _ _ o).t (e1 _ _ S)))))))
end
noncomputable def fL(x y z a:Nat):List Nat:=[[60,101,109,112,116,121,62],[36,101,110,100],[101,114,114,111,114],[37,112,114,101,99],[83],[84],[x],[y],[83,39],[46],[1010],[1011],[z]].g a [a+1000]
inductive Abc(x y z:Nat):Prop
 |mk (x_:97<=x/\x<=99) (y_:97<=y/\y<=99) (z_:97<=z/\z<=99) (xy:x≠y) (xz:x≠z) (yz:y≠z)
noncomputable def W!(x y z:Nat):List Nat->Nat
 |[c]=>bif aA c 83 then 4 else bif aA c 84 then 5 else bif aA c 46 then 9 else bif bg c 100 then(bif aA c x then 6 else bif aA c y then 7 else 12)else c - 1000
 |[_,_]=>8
 |[_,_,_,_]=>1
 |[c,_,_,_,_]=>bif aA c 101 then 2 else 3
 |_=>0
theorem Abc.d(h:97<=c/\c<=99):W! x y z [c]=bif aA c x then 6 else bif aA c y then 7 else 12:=by
 obtain⟨d,rfl⟩:=Nat.exists_eq_add_of_le' h.1
 show(bif bg (d+97) 100 then _ else _)=_
 rw[cb.m (j4 h.2)];rfl
theorem QE(h:Abc x y z)(a:Nat):W! x y z (fL x y z a)=a:=by
 rcases a with _|_|_|_|_|_|_|_|_|_|_|_|_|a<;>first|rfl|exact(Abc.d h.1).t (Y (bR x) U)|exact(Abc.d h.2).t (Y (qm h.4.s)<|Y (bR y) U)|exact(Abc.d h.3).t<|Y (qm h.5.s)<|Y (qm h.6.s) U
theorem names8(h:Abc x y z):bM (fL x y z):=⟨λa b=>by
  rcases e:aA a b with _|_;(
   rw[<-bN,fS]
   intro z'
   rw[(beq_iff a b).M (rR (QE h a)<|rR (QE h b)<|Y z' U)]at e;exact bT e);(rw[(beq_iff a b).m e];exact fS.M U),
 U,
 U⟩
theorem Kw(h:Abc x y z):UC (fL x y z):=⟨names8 h,U,U,U⟩
theorem Qe(a b:Nat):Abc (xM a) (yM a b) (zM a b):=by
 delta xM yM zM l1
 rcases FP a with h|h|h<;>rcases mod2 b with c|c<;>refine Y h (Y c ?_)<;>exact⟨by decide,by decide,by decide,by decide,by decide,by decide⟩
noncomputable def wx(x y:Nat)(c:Nat):Nat:=bif aA c x then 6 else bif aA c y then 7 else 12
noncomputable def ku(a b:Nat):List Nat:=[97,98,99].m<|wx (xM a)<|yM a b
theorem D4(a b:Nat):bA lV (ku a b) []=M (ku a b)/\lV (ku a b) 2=M (ku a b++[2]):=by
 delta ku xM yM l1
 rcases FP a with h|h|h<;>rcases mod2 b with c|c<;>refine Y h (Y c ?_)<;>exact⟨U,U⟩
section
variable{call:CF}
theorem NJ(J:PM (fL (xM a) (yM a b)<|zM a b) call)(l:∀k m,n<=m->H (.t k m)=aI)(j:∀k a b,aO k 11=Z->H (.o k a b)=aI)
  (K:∀H' n',GB (fL (xM a) (yM a b)<|zM a b) (ku a b++[2]) ⟨[],[],[],[],0⟩ H' n'->H' (.o 10 0 0)=M (.d [])->H' (.o 11 0 0)=M (.d [])->(∀k a b,aO 2 k=Z->aO k 7=Z->H' (.o k a b)=aI)->cy Z1 n H n' H'->c Q ⟨v0::v1::I::E::C::A::z::y::w::v::v10::f::e::v13::v14::d::ax 1 0 0::r,H',n'⟩):
  aR (xk call) c Q ⟨v0::v1::I::E::C::A::z::y::w::v::v10::f::e::v13::v14::d::v16::r,H,n⟩:=by
 refine aM<|b9 (r:=.t 118 n) (l _ _<|aG _) U ?_
 have i:cy Z1 n H (n+1) (aZ H (.t 118 n)<|.l<|[97,98,99].m cv):=(cy.s l).e
 refine CA (r:=.o 1 0 0) (j _ _ _ U)<|J (aT _ _ _) (λk a b u s=>(bS _ _ s).t<|j _ _ _ u) ((aT H (.t 118 n)<|.l<|[97,98,99].m cv).t<|Y ((show[97,98,99].m cv=(ku a b).m (sy<|fL (xM a) (yM a b)<|zM a b)from by
   delta ku xM yM zM l1
   rcases FP a with h|h|h<;>rcases mod2 b with g|g<;>refine Y h (Y g ?_)<;>rfl)) U) (du (zQ 5) U) (i.p U).r.4 (D4 a b).1 (D4 a b).2 λH' n' G q p lo N=>R5<|aE<|K H' n' G q p lo<|(i.p U).r.T N λx x x h=>h
end
noncomputable def oZ(i k j l e:Nat):List Nat:=match e with
 |0=>mB 6 i 4 12 j
 |1=>[5]
 |2=>mB 7 k 5 12 l
 |_=>[]
noncomputable def hO(i k j l e:Nat):Nat×List Nat:=(bif aO e 1 then 4 else 5,oZ i k j l e)
theorem MQ(h:cv g=sy (fL x y z) a)(f:cv e=sy (fL x y z) b)(d:cv c'=sy (fL x y z) c):(mB g k e c' l).m cv=(mB a k b c l).m (sy<|fL x y z):=by
 delta mB
 simp only[aK,g9,dc,tY]
 exact Y h<|Y f<|Y d U
theorem Gz:∀e,(abw x y z i k j l e).m cv=(oZ i k j l e).m (sy<|fL x y z)
 |0=>MQ U U U
 |1=>U
 |2=>MQ U U U
 |_+3=>U
theorem MF(e:Nat):cv (C7 e)=sy (fL x y z) (hO i k j l e).1:=by
 delta C7 hO
 rcases aO e 1 with _|_<;>rfl
theorem RK{call:CF}:sd call (kS "add_production") 283=M (call 201):=by kernel_rfl
theorem HW{call:CF}:sd call (kS "set_start") 283=M (call 209):=by kernel_rfl
section
variable{os:ao}{call:CF}
noncomputable abbrev X4(bb:Nat)(v0 v1 v2 v3 v4 v5 v6 v7 v8 v9 v10 v12 v13 v14 v15 v17 v18:V)(r:aq):List V:=v0::v1::v2::v3::v4::v5::v6::v7::v8::v9::v10::ay 115 bb::v12::v13::v14::v15::ax 1 0 0::v17::v18::r
theorem Nb(hA:q! (fL x y z) ts call)(R:UI x y z i k j l m o H)(h1:o<=n)(hb:f<n)(X:H (.t 115 f)=M (.l<|os.m<|DP m))(h4:∀e∈os,e<4)(G:GB (fL x y z) ts ⟨[],[],[],[],0⟩ H n)
  (hf:bA (λg e=>ej (fL x y z) ts g<|hO i k j l e) os ⟨[],[],[],[],0⟩=M gb)
  (K:∀v17 v18 H' n',GB (fL x y z) ts gb H' n'->cy xr n H n' H'->a Q ⟨X4 f v0 v1 S P N L J I E C v10 d v13 v14 c v17 v18 r,H',n'⟩):
  aR (xl call) a Q ⟨X4 f v0 v1 S P N L J I E C v10 d v13 v14 c v17 v18 r,H,n⟩:=by
 refine aM<|bL X<|ei (λw=>DP m) os (λi=>.L (.t 115 f,i)) (λw e=>X4 f v0 v1 S P N L J I E C v10 d v13 v14 c e.1 e.2 r) (λg H' n'=>GB (fL x y z) ts g H' n'/\cy xr n H n' H') _ hf (cH λw H' n' h=>(h.2.3 _ _ hb).t X) (λg e s g' i' H' n' K' hi p b T=> ?_) (λe H' n' b=>gk<|aE<|K _ _ _ _ b.1 b.2) ⟨G,.s G.1⟩ (g₀:=(v17,v18))
 have A:=h4 s<|aJ hi
 refine jf<|hU U U<|hU U U<|cg U<|dO b.1.2 ⟨wA RK,?_⟩
 refine Mw (r:=.t 119 n') ((b.2.3 _ _<|aH (R.1 s) h1).t<|(R.2 s A).t (by rw[Gz])) (by
  exact cW p (λv w=>(zb7 v λw w w w w w v=>ba (aU.m v).1)) λw p=>nS p) (b.1.1 _ _<|aG _)<|i3 RK ?_
 refine Y (MF (x:=x) (y:=y) (z:=z) (i:=i) (k:=k) (j:=j) (l:=l) s)<|hA (b.1.o<|(cy.s b.1.1).e) (aT H' (.t 119 n')<|.l<|(oZ i k j l s).m<|sy<|fL x y z) (a8 _) p λH'' n'' u q=>T.1 (sy (fL x y z) (hO i k j l s).1,.L<|.t 113<|m s) _ _ ⟨u,(b.2.T (((cy.s b.1.1).e).l λw w w w=>U) λw w w h=>h).T q λw w w h=>h⟩
theorem OF(v:P7 (fL x y z) ts call)(G:GB (fL x y z) ts b H n)(u:strOk (fL x y z) 8 [4]=Z)(t:has 4 b.n=Z)(s:aO b.c 900=Z)(q:fits (b.r.L+1)=Z)
  (K:∀H' n',GF (fL x y z) (Ke ts 4 b) (sy (fL x y z) 4) H' n'->cy xr n H n' H'->a Q ⟨X4 p v0 v1 o m l k j i h g v10 d v13 v14 c v17 v18 r,H',n'⟩):
  aR (xm call) a Q ⟨X4 p v0 v1 o m l k j i h g v10 d v13 v14 c v17 v18 r,H,n⟩:=by
 exact aM<|dO G.2 ⟨wA HW,i3 HW<|v G U U u t s q λH' n' f e=>aE<|K H' n' f e⟩
end
section
variable{call:CF}
noncomputable abbrev QW(x y z i k j l bb:Nat)(v0 v1 v9 v10 v12 v13 v14 v15 v17 v18 v19 v20 v21:V):List V:=[v0,v1,cv x,cv y,cv z,nv i,nv k,nv j,nv l,v9,v10,ay 115 bb,v12,v13,v14,v15,ax 1 0 0,v17,v18,v19,v20,v21,ax 11 0 0]
theorem QX{F:aa}{st:V}(c:f 4=[83])(v:PH f call)(G:GF f g st H n)(M':θ g u F 4 t)(s:H (.o 10 0 0)=M (.d []))(r:∀a,H (.o 5 a 0)=aI)(q:H (.o 11 0 0)=M (.d []))(p:∀a b,H (.o 6 a b)=aI)
  (K:∀H' n',xG f st g u F 4 n H t H' n'->aR zR (aR vM<|aR zT<|aR (vN call)<|aR (vO call)<|vP call) Q ⟨QW x y z i k j l m v0 v1 h v10 e v13 v14 d v17 v18 v19 v20 v21,H',n'⟩):
  Bh call Q ⟨X4 m v0 v1 (cv x) (cv y) (cv z) (nv i) (nv k) (nv j) (nv l) h v10 e v13 v14 d v17 v18 [v19,v20,v21],H,n⟩:=by
 exact dO G.1.1 ⟨wA vK,i3 vK<|Y (congrArg V.s c.s)<|v (by refine Y c ?_;rfl) (by refine Y c ?_;rfl) G.1 M' G.4 s r q p λH' n' I=>K H' n' I⟩
noncomputable def ua(j:Nat):List Nat:=bif aA j 0 then[1]else[1,12]
noncomputable def Jk(j l:Nat):List Nat:=bif aA j 0&&aA l 0 then[1]else[1,12]
theorem OT(X:∀k m,n<=m->H (.t k m)=aI)
  (K:∀m1 R H' n',cy (λw w w=>D) n H n' H'->n<=m1/\m1<n'->n<=R/\R<n'->H' (.t 120 m1)=M (.l<|(ua j).m<|sy<|fL x y z)->H' (.t 120 R)=M (.l<|(Jk j l).m<|sy<|fL x y z)->a Q ⟨QW x y z i k j l P v0 v1 N v10 q v13 v14 p v17 v18 (ay 120 m1) (ay 120 R) v21,H',n'⟩):
  aR zR (aR vM a) Q ⟨QW x y z i k j l P v0 v1 N v10 q v13 v14 p v17 v18 v19 v20 v21,H,n⟩:=by
 have e:∀m1 o c,cy (λw w w=>D) n H c o->n<=m1/\m1<c->o (.t 120 m1)=M (.l<|(ua j).m<|sy<|fL x y z)->vM (qT a Q) ⟨QW x y z i k j l P v0 v1 N v10 q v13 v14 p v17 v18 (ay 120 m1) v20 v21,o,c⟩:=λm1 o c L v a1=>by
  refine b9 (r:=.t 121 c) (L.i lr) U ?_
  have d:cy (λw w w=>D) n H (c+1) (aZ o (.t 121 c)<|.l [sy (fL x y z) 1]):=L.e
  have u:=aT o (.t 121 c)<|.l [sy (fL x y z) 1]
  have S:aZ o (.t 121 c) (.l [sy (fL x y z) 1]) (.t 120 m1)=_:=a1
  show(aS 7 λI=>fX I _) ⟨_,aZ o (.t 121 c)<|.l [sy (fL x y z) 1],c+1⟩
  generalize aZ o (.t 121 c) (.l [sy (fL x y z) 1])=T at d u S
  have f:Jk j l=[1,12]->aS 4 (λE=>bj [E] λh=>eH.ej (ay 121 c) h λg=>ck 20 g λw=>qT a Q .n) ⟨QW x y z i k j l P v0 v1 N v10 q v13 v14 p v17 v18 (ay 120 m1) v20 v21,T,c+1⟩:=λs=>by
   refine(b9 (r:=.t 122<|c+1) (d.i lr) U<|p0 u hA U U (d.e.i lr)<|aE<|K m1 (c+2) _ _ d.e.e ⟨v.1,bU (zQ 55) U v.2⟩ ⟨bU (zQ 32) U L.1,du (zQ 14) U⟩ ((l0<|bU (zQ 13) U v.2).t S)<|hA.t (by refine Y s ?_;rfl))
  have J:Jk j l=[1]->bj [] (λh=>eH.ej (ay 121 c) h λg=>ck 20 g λw=>qT a Q .n) ⟨QW x y z i k j l P v0 v1 N v10 q v13 v14 p v17 v18 (ay 120 m1) v20 v21,T,c+1⟩:=λs=>by
   refine b9 (r:=.t 122<|c+1) (d.i lr) U<|p0 u hA U U (d.e.i lr)<|aE<|K m1 (c+2) _ _ d.e.e ⟨v.1,bU (zQ 55) U v.2⟩ ⟨bU (zQ 32) U L.1,du (zQ 14) U⟩ ((l0<|bU (zQ 13) U v.2).t S)<|hA.t (by refine Y s ?_;rfl)
  refine CG ?_
  delta Jk at f J
  rcases C:aA j 0 with _|_;(rw[C]at f;exact((ff<|f U)));(
   rw[C]at f J
   exact x8<|CG<|bC (b:=aA l 0) (λA=>by refine Y A ?_;rw[A]at J;exact x8<|fx<|J U) λA=>by refine Y A ?_;rw[A]at f;exact((ff<|f U)))
 refine aM<|b9 (r:=.t 121 n) (X _ _ lr) U ?_
 have d:cy (λw w w=>D) n H (n+1) (aZ H (.t 121 n)<|.l [sy (fL x y z) 1]):=(cy.s X).e
 have u:=aT H (.t 121 n)<|.l [sy (fL x y z) 1]
 refine CG ?_
 rcases C:aA j 0 with _|_;(
  refine(((b9 (r:=.t 122<|n+1) (d.i lr) U<|p0 u hA U U (d.e.i lr)<|aE<|aM<|e (n+2) _ _ d.e.e ⟨du (zQ 18) U,du (zQ 14) U⟩<|hA.t ?_)))
  delta ua;refine Y C ?_;rfl);(
  refine x8<|b9 (r:=.t 122<|n+1) (d.i lr) U<|p0 u hA U U (d.e.i lr)<|aE<|aM<|e (n+2) _ _ d.e.e ⟨du (zQ 18) U,du (zQ 14) U⟩<|hA.t ?_
  delta ua;refine Y C ?_;rfl)
end
section
variable{bind:ak}
theorem U3(f:I->J->Option I)(E:bA f vs k=M j)(t:Goes (λx=>e) vs y ls P)
  (C:∀a g b p H n (K:St->Prop),b∈vs->f a b=M p->P a H n->(∀g H n,P p H n->K ⟨ls p g,H,n⟩)->bind (e b) (λx=>o λx=>K) ⟨ls a g,H,n⟩)
  (A:∀g H n,P j H n->Q () ⟨ls j g,H,n⟩) (h:P k m l):D9 bind d (y 0) o Q ⟨ls k g₀,m,l⟩:=by
 have w:∀r i a g H n,vs.d i=r->bA f r a=M j->P a H n->q5 bind (lG []) o (r.L+1) (y i) Q ⟨ls a g,H,n⟩:=by
  intro r
  induction r with
  |nil=>
   intro i a g H n s c q
   refine t i a g H n _ q<|Y s ?_
   cases c;exact A g H n q
  |cons b r z=>
   intro i a g H n s c q
   exact t i a g H n _ q<|Y s<|vw c λp v c=>C a g b p H n _ (xS s) v q λg' H' n' u=>z (i+1) p g' H' n' (by refine rR df<|Y s ?_;rfl) c u
 exact⟨_,w vs 0 k g₀ m l U E h⟩
theorem VO{GC:W It}{K:ab}(q:GC (λi=>pE (.d []) λd σ=>a d i (λx σ'=>K d ⟨σ.l,σ'.h,σ'.n⟩) ⟨aQ c .u++b.m λj=>σ.l[j]?.g .u,σ.h,σ.n⟩) σ):pK GC (pE<|.d []) c b a K σ:=q
end
theorem Zk{K:ab}{H:Hp}(h:H l=M (.l<|d.m .s))(i:yC d=M b)(g:H r=aI)(q:K (.L r) ⟨c,aZ H r<|.l<|b.m .s,n+1⟩):MM [.L l] K ⟨c,H,n⟩:=by
 have f:∀l,strsOf (l.m V.s)=M l:=λl=>by
  induction l with
  |nil=>rfl
  |cons a t e=>show(strsOf<|t.m V.s).m (a::·)=_;refine Y e ?_;rfl
 exact⟨_,U,l,_,U,h,d,f d,b,i,eJ g q⟩
inductive DcP(nm:aa)(wc:aa)(d cu:Nat)(cC:Hp)(done:ao)(H:Hp)(n:Nat):Prop
 |intro(lo:ag) (now:cy (λx x x=>D) cu cC n H) (hd:cu<=d/\d<n) (at_:H (.t 123 d)=M (.d (done.m λa=>(sy nm a,ay 124 (lo a))))) (li:∀a,has a done=Z->lo a<n/\H (.t 124 (lo a))=M (.l ((wc a).m (sy nm))))
theorem To(w:ao):w.m (sy a)=(w.m a).m V.s:=by refine Y dQ ?_;rfl
theorem U5{K:ab}(X:bM f)(hk:bA lV g.n []=M g.n)(A:G0 f g s Fo H)(S:∀k m,n<=m->H (.t k m)=aI)(R:i[22]?=M (ax 11 0 0))(hs:∀a,has a g.n=Z->yC ((Fo a).m f)=M ((Q a).m f))
  (q:∀d H' n',DcP f Q d n H g.n H' n'->K (ay 123 d) ⟨i,H',n'⟩):pK (λp=>aS 22 λw=>jz w λu=>p u) (pE<|.d []) 2 [22] (λd it=>EI d it) K ⟨i,H,n⟩:=by
 refine VO<|cg (by delta x5;exact Y R U)<|kg A.1<|eJ (r:=.t 123 n) (S _ _ lr) ?_
 have e3:(aQ 2 V.u++[22].m λj=>i[j]?.g .u)=[.u,.u,ax 11 0 0]:=by
  show[.u,.u,i[22]?.g .u]=_
  refine Y R ?_;rfl
 rw[e3,aD]
 refine U3 (e:=sy f) (ls:=λx v=>[.u,v,ax 11 0 0]) lV hk (qf U λx H' n' h=> ?_) (λdone v a P H' n' K' hm hf N T=> ?_) (λv H' n' N=>q n H' n' N) ⟨λx=>0,(cy.s S).e,⟨aG _,a8 _⟩,aT _ _ _,λa h=>bF h⟩
 .obtain⟨lo,c, -, -, -⟩:=h
  exact br _ ((c.2 _ _ _ U).t A.1) (by refine Y dQ ?_;rfl)
 .obtain⟨lo,c,y,L,J⟩:=N
  refine sk (jW hf) λI f2 E=> ?_;subst E
  have C:=gX.M hm
  refine hU U U<|cg U<|((eY ((c.2 _ _ _ U).t A.1) U (k9 X C)<|Zk ((c.2 _ _ _ U).t<|(A.2 a C).t (by rw[To])) (hs a C) (c.4 _ _<|aG _)<|rR (To _)<|(show BZ (ay 123 n) (sy f a) (ay 124 n') _ _ from mK _ _ U L (na U<|ba f2)<|T _ (aZ (aZ H' (.t 124 n')<|.l<|(Q a).m<|sy f) (.t 123 n)<|.d<|gi (done.m λa=>(sy f a,V.L<|.t 124<|lo a)) (sy f a)<|ay 124 n') (n'+1) ⟨λb=>bif aA b a then n' else lo b,c.e.u y.1<|bU (zQ 2) U y.2,⟨y.1,bU (zQ 2) U y.2⟩,?_,λb l=> ?_⟩)))
  .refine(aT _ _ _).t<|Y (md X (λa=>.L<|.t 124<|lo a) a _ done I)<|Y aK ?_
   have e1:done.m (λa=>(sy f a,V.L<|.t 124<|lo a))=done.m λb=>(sy f b,V.L<|.t 124<|bif aA b a then n' else lo b):=d4 λb l=>by
    have:aA b a=D:=by
     rw[<-bN,beq_iff]
     intro z
     rw[z]at l
     rw[gX.M l]at I;exact bT I
    refine Y this ?_;rfl
   refine Y e1 ?_
   show M (O.d<|_++[(sy f a,ay 124 n')])=M (O.d<|_++[(sy f a,V.L<|.t 124<|bif aA a a then n' else lo a)])
   refine Y ((beq_iff a a).M U) ?_;rfl
  .rw[jH]at l
   rcases e:aA b a with _|_;(
    have e':aA a b=D:=qm λz=>by rw[z,(beq_iff b b).M U]at e;exact bT e
    rw[e',ef]at l
    exact⟨dA (J b l).1,(l0 (J b l).1).t (J b l).2⟩);(
    exact rR ((beq_iff _ _).m e) ⟨a8 _,aT _ _ _⟩)
theorem Sa{H:Hp}{K:aj}(h:H l=M (.d []))(f:pY c 6=Z)(e:pY b 6=Z)(q:K () ⟨a,aZ H l<|.d<|gi [(c,v1)] b d,n⟩):vS (.L l) [(c,v1),(b,d)] K ⟨a,H,n⟩:=by
 refine⟨l,_,U,h,na f U,l,_,U,hA,na e U,?_⟩
 show K () ⟨a,aZ (aZ H l _) l _,n⟩
 rw[lM];exact q
def xq(l:ao):et:=.s ⟨l.T⟩
noncomputable def Ea(a:aa)(w:ao):et:=.l<|w.m λc=>xq<|a c
theorem QS:∀w:List (List Nat),eo (w.m xq) (w.m xq)=Z
 :=λc=>c.R (by rfl) λa r b=>by
  have:=b
  simp[eo,b7,xq]at this⊢
  exact this
theorem B6(a:aa)(w:ao):b7 (Ea a w) (Ea a w)=Z:=by
 have e:w.m (λc=>xq<|a c)=(w.m a).m xq:=by refine Y dQ ?_;rfl
 delta Ea
 refine Y e ?_
 simpa[b7]using QS (w.m a)
noncomputable def y8(a:aa)(w:ao):Bool:=w.a λc=>(a c).a λx=>bg x 1114112
theorem Ct{h:Hp}(i:h l=M (.l<|w.m<|sy a))(b:y8 a w=Z):gg h (f+2) (.L l)=M (Ea a w):=by
 show(h l).b _=_
 refine Y i ?_
 show(sQ<|(w.m<|sy a).m<|gg h<|f+1).m WC=_
 refine Y ((show y8 a w=Z->sQ ((w.m<|sy a).m<|gg h<|f+1)=M (w.m λc=>xq<|a c)from w.R (λ_=>U) λc r g b=>by
  obtain⟨e,d⟩:=an<|show(((a c).a λx=>bg x 1114112)&&y8 a r)=Z from b
  show(bif (a c).a λc=>bg c 1114112 then M (BG ⟨(a c).T⟩)else aI).b _=_
  refine Y e ?_
  show(sQ<|(r.m<|sy a).m<|gg h<|f+1).m _=_
  rw[g d];rfl) b) ?_;rfl
theorem BU{h:Hp}{e:aa}{lo:Nat->Loc}:(∀a,has a ns=Z->h (lo a)=M (.l<|(e a).m<|sy c)/\y8 c (e a)=Z)->ti h (ns.m λa=>(sy c a,.L<|lo a))=M (ns.m λa=>(c a,Ea c<|e a)):=by
 induction ns with
 |nil=>exact λ_=>U
 |cons a r k=>
  intro f
  obtain⟨j,i⟩:=f a (by show(aA a a||has a r)=Z;refine Y (bR a) ?_;rfl)
  show(gg h 20<|.L<|lo a).b (λd=>(ti h<|r.m λa=>(sy c a,V.L<|lo a)).m ((c a,d)::·))=_
  refine Y (Ct j i)<|Y (k λb g=>f b (by show(aA a b||has b r)=Z;rw[g,jE])) ?_;rfl
section
variable{m1:Nat}
noncomputable def Z4(j l a:Nat):List Nat:=bif aA a 4 then ua j else Jk j l
theorem QA(h:Abc x y z)(J:g.n=[4,5]\/g.n=[5,4])(hk:bA lV g.n []=M g.n)(fo:G0 (fL x y z) g s Fo H)(h0:∀k m,n<=m->H (.t k m)=aI)(hs:∀a,has a g.n=Z->yC ((Fo a).m<|fL x y z)=M ((Z4 j l a).m<|fL x y z))(I:m1<n)(E:o<n)(a1:H (.t 120 m1)=M (.l<|(ua j).m<|sy<|fL x y z))(a2:H (.t 120 o)=M (.l<|(Jk j l).m<|sy<|fL x y z))
  (K:∀H' n',cy (λw w w=>D) n H n' H'->c Q ⟨QW x y z i k j l bb v0 v1 v9 v10 C v13 v14 A v17 v18 (ay 120 m1) (ay 120 o) v21,H',n'⟩):
  aR zT c Q ⟨QW x y z i k j l bb v0 v1 v9 v10 C v13 v14 A v17 v18 (ay 120 m1) (ay 120 o) v21,H,n⟩:=by
 have hn:=names8 h
 refine aM<|U5 hn hk fo h0 U hs λd u f b=> ?_
 obtain⟨lo,e,hd,v,li⟩:=b
 refine eJ (r:=.t 125 f) (e.4 _ _<|aG _) ?_
 have N2:cy (λw w w=>D) n H (f+1) (aZ (aZ u (.t 125 f)<|.d []) (.t 125 f)<|.d [(sy (fL x y z) 4,ay 120 m1),(sy (fL x y z) 5,ay 120 o)]):=e.e.u e.1<|a8 _
 have b1:=aT (aZ u (.t 125 f)<|.d []) (.t 125 f)<|.d [(sy (fL x y z) 4,ay 120 m1),(sy (fL x y z) 5,ay 120 o)]
 have p:∀k m,aA k 125=D->aZ (aZ u (.t 125 f)<|.d []) (.t 125 f) (.d [(sy (fL x y z) 4,ay 120 m1),(sy (fL x y z) 5,ay 120 o)]) (.t k m)=u (.t k m):=λk m h=>(k8 h).t<|k8 h
 refine Sa (aT _ _ _) U U ?_
 have d1:=(p _ _ U).t v
 have zz:=h.3
 have S:y8 (fL x y z) (ua j)=Z/\y8 (fL x y z) (Jk j l)=Z:=by
  have R:y8 (fL x y z) [1,12]=Z:=by
   have q:([z].a λx=>bg x 1114112)=Z:=by
    refine Y Wy<|Y (cb.m<|bZ (zQ 4) U zz.2) ?_;rfl
   have q1:y8 (fL x y z) [12]=Z:=by
    have:y8 (fL x y z) [12]=(([z].a λx=>bg x 1114112)&&Z):=U
    refine Y this<|Y q ?_;rfl
   have:y8 (fL x y z) [1,12]=(Z&&y8 (fL x y z) [12]):=U
   refine Y this<|Y q1 ?_;rfl
  delta ua Jk
  constructor
  .rcases aA j 0 with _|_<;>first|rfl|exact R
  .rcases aA j 0&&aA l 0 with _|_<;>first|rfl|exact R
 have P:∀a,y8 (fL x y z) (Z4 j l a)=Z:=λa=>by
  delta Z4
  rcases aA a 4 with _|_
  .exact S.2
  .exact S.1
 have D1:=BU λa N=>⟨(p _ _ U).t (li a N).2,P a⟩
 have X:=
  BU (lo:=λa=>bif aA a 4 then .t 120 m1 else .t 120 o) (ns:=[4,5]) λa N=>by
   refine⟨?_,P a⟩
   delta Z4
   rcases aA a 4 with _|_
   .exact(p _ _ U).t<|(e.3 _ _ E).t a2
   .exact(p _ _ U).t<|(e.3 _ _ I).t a1
 refine .i<|⟨_,_,U,d1,_,_,U,b1,_,_,D1,X,?_⟩
 have T:(!((g.n.m λa=>(fL x y z a,Ea (fL x y z)<|Z4 j l a)).L==[([83],Ea (fL x y z)<|ua j),([84],Ea (fL x y z)<|Jk j l)].L&&hitsD [([83],Ea (fL x y z)<|ua j),([84],Ea (fL x y z)<|Jk j l)] (g.n.m λa=>(fL x y z a,Ea (fL x y z)<|Z4 j l a))))=D:=by
  rcases J with L|L<;>refine Y L ?_
  .show(!(Z&&(b7 (Ea (fL x y z)<|ua j) (Ea (fL x y z)<|ua j)&&(b7 (Ea (fL x y z)<|Jk j l) (Ea (fL x y z)<|Jk j l)&&Z))))=_
   refine Y (B6 (fL x y z)<|ua j)<|Y (B6 (fL x y z)<|Jk j l) ?_;rfl
  .show(!(Z&&(b7 (Ea (fL x y z)<|Jk j l) (Ea (fL x y z)<|Jk j l)&&(b7 (Ea (fL x y z)<|ua j) (Ea (fL x y z)<|ua j)&&Z))))=_
   refine Y (B6 (fL x y z)<|ua j)<|Y (B6 (fL x y z)<|Jk j l) ?_;rfl
 exact Y T<|fx<|aE<|K _ _ N2
end
section
variable{st:V}{call:CF}
noncomputable abbrev taL(x y z i k j l bb:Nat)(lalr:Bool)(v0 v1 v9 v10 v13 v14 v15 v17 v18 v19 v20:V):List V:=QW x y z i k j l bb v0 v1 v9 v10 (gQ lalr) v13 v14 v15 v17 v18 v19 v20 (ax 20 0 0)
theorem Tq(hT:JK r call)(R:UG r g st xs s Fo H n)(q:H (.o 20 0 0)=aI)(hf:jA d g Fo=M (C,t))
  (K:∀H' n',JL r t H'->H' (.o 25 0 1)=M (.l [])->H' (.o 25 0 2)=M (.l [])->(∃c',H' (.o 20 0 0)=M (.i 427<|ON (gQ d) c'))->(∀k m,m<n->H' (.t k m)=H (.t k m))->(∀k m,n'<=m->H' (.t k m)=aI)->n<=n'->M8 H'->c Q ⟨taL x y z i k j l X d v0 v1 S v10 v13 v14 p v17 v18 v19 v20,H',n'⟩):
  aR (vN call) c Q ⟨QW x y z i k j l X v0 v1 S v10 (gQ d) v13 v14 p v17 v18 v19 v20 v21,H,n⟩:=by
 refine aM<|(CA q ?_)
 have ob:∀k a b,aA k 20=D->aZ H (.o 20 0 0) (.i 427 []) (.o k a b)=H (.o k a b):=λk a b h=>b8 h
 exact hT (by
  have f:GS r g st (aZ H (.o 20 0 0)<|.i 427 []):=⟨R.1.1.1,R.1.1.2,R.1.1.3,R.1.1.4,R.1.1.5,λa h=>R.1.1.6 a h,λk h=>cz (R.1.1.7 k h) λe a b=>br e a b⟩
  exact⟨⟨f,λk h=>cz (R.1.2 k h) λe a b=>br e a b,λk h=>R.1.3 k h,λk m h=>R.1.4 k m<|fB h⟩,R.2,⟨R.3.1,λa h=>R.3.2 a h⟩,R.4,R.5,R.6,R.7,λk a b h=>(ob _ _ _ (λk h=>by
  rcases h with h|h|h<;>refine Y (bq h) ?_<;>rfl k h)).t<|R.8 k a b h,λk a b P u=>(bS _ _ u).t<|R.9 k a b P u,R.10,R.11⟩) (aT _ _ _) hf λH' n' T N L J I E A w=>R5<|(aE<|K H' n' T N L J (λk m v=>I k m<|dA v) E (fB A) w)
theorem Np(T:JL r t H)(q:H (.o 25 0 1)=M (.l []))(p:H (.o 25 0 2)=M (.l []))(tb:H (.o 20 0 0)=M (.i 427<|ON f c))(m:aA t.A.L (i+j+k+l+5)=Z)(hz:fits t.A.L=Z)
  (K:a Q ⟨taL x y z i k j l h d v0 v1 g v10 v13 v14 e v17 v18 v19 v20,H,n⟩):aR (vO call) a Q ⟨taL x y z i k j l h d v0 v1 g v10 v13 v14 e v17 v18 v19 v20,H,n⟩:=by
 refine aM<|bY U tb U<|CE q U<|fx<|bY U tb U<|CE p U<|fx ?_
 have b:((bX t.A.L).m λi=>(nv i,ax 33 i 0)).L=t.A.L:=by rw[aD,dy]
 refine bY U tb U<|.I<|br _ U<|.i<|.i<|.i<|mK (Loc.o 22 0 0) _ U T.2 ((Y b hz)) ?_
 exact Y b<|cg U<|cg U<|gj<|(gj<|gj<|gj<|Xc<|Y m<|x8<|fx<|aE K)
end
def GZ:RR->Prop
 |.n _=>True
 |.y _ a=>mx a<=38/\eo (a.m d9) (a.m d9)=Z
 |.g _=>False
theorem YE(g:Dz r v m)(h:Dz r w f)(l:Sub m f)(ok:GZ r)(q:KB Z ⟨d,f,n⟩):cw .E v w KB ⟨d,f,n⟩:=by
 rcases r with p|a|⟨a,k⟩;(exact g.e);(
  subst g h
  refine nY U U ?_
  have e:dX (V.t [nv a,.N]) (V.t [nv a,.N])=Z:=by
   show(dX (nv a) (nv a)&&_)=Z
   rw[BP,bR a];rfl
  exact Y e q);(
  refine cz g λl1 c j=>cz h λo c i=> ?_;exact .i ⟨_,(j7 l (f':=40) (bZ (zQ 72) U ok.1) j),_,j7 (λx x z=>z) (bZ (zQ 72) U ok.1) i,(congrArg (λb=>KB b _)<|by
   simp only[b7,eo,ok.2,beq_self_eq_true,Wr,E0,Ws]).m q⟩)
section
variable{call:CF}
theorem QQ(hR:acI call)(hS:K? call)(R:BL nm ch u t rules (.t 115 s) n H)(S:M7 (.t 114 c) (.t 115 s) p n H)(h0:∀k m,n<=m->H (.t k m)=aI)(zi:0<i/\i<=3)(zk:0<k/\k<=3)(X:j<=2)(T:l<=2)(P:bg x 1114112=Z)(L:bg y 1114112=Z)(hz:bg z 1114112=Z)(J:aO u.L 900=Z)
  (I:KV t rules ch u 200 ⟨[0],[],0⟩=M (wW p x y z i k j l<|u.m ch)) (ok:GZ (wW p x y z i k j l<|u.m ch))
  (K:∀g H' n',cy (λa a a=>D) n H n' H'->Q (.r<|.o Z) ⟨g,H',n'⟩):vP call Q ⟨taL x y z i k j l s r v0 v1 (ay 114 c) v10 v13 v14 (.s<|u.m ch) v17 v18 v19 v20,H,n⟩:=by
 exact cg U (hR R h0 I λv H1 E d C=>(gR U (hS ⟨λn' H' N=>S.1 n' H'<|d.T N λa a a h=>h,λn' H' N=>S.2 n' H'<|d.T N λa a a h=>h⟩ d.4 zi zk X T P L hz (by refine Y (aD _) ?_;exact J) λw H2 n2 f A=>YE C A (λl o e=>by
  rcases l with⟨k,m⟩|⟨k,a,b⟩;(
   by_cases q:m<E
   .exact(f.3 k m q).t e
   .rw[d.4 k m (bU (zQ 10) U<|cR q)]at e;exact nS e);(exact(f.2 k a b U).t e)) ok<|K _ _ _<|d.T f λa a a h=>h)))
end
theorem upF{P:Nat->Prop}(m:Nat)(f:∀d,P<|d+m)(k:Nat)(h:m<=k):P k:=qZ h▸f (k - m)
theorem MT(d:Nat):Dt (dT<|d+2):=YT (d+1) λa=>qA a d
theorem Tz(b:bM a)(d:Nat):qV a (dT<|d+2):=Vj a b (d+1) (LV a d)<|qA a d
theorem ZW:Lw (dT 43):=VT (upF 3 λd=>X! (d+2)<|MT d) (upF 3 λd=>abq (d+2) (MT d) λa=>qA a<|d+1) (upF 3 λd a=>qA a<|d+2)<|bl U
theorem ZV:Lj (dT 44):=Vv (Ze 42) (Tu 42) ZW (VG (MT 40) λa=>qA a 41) (Vh<|bl U)<|aaB 42
theorem Wk(b:bM a)(d:a 8=[83,39])(c:a 9=[46]):JK a (dT 46):=
 Tt 45 (Qq b 44 (Vr c 43)<|Y9 43) (X8 44) (X9 44)<|ZP b d (Rb a b 43 (LV a 42) (Tz b 41)<|qA a 42) ZV (MT 42) (qA a 43) (Tz b 42)<|Oz 43
end eH.C
namespace eH
theorem lD{b:Heap}{a:Addr}(e:b.o.s<=a):b.g a=aI:=none_of λo q=>absurd (jG q)<|ko.M e
theorem dB(c:Heap)(o:Obj):∀b a,c.g b=M a->(c.p o).g b=M a:=λb a e=>bu _ e
theorem fg(a:Heap):a.g a.o.s=aI:=lD<|aG _
noncomputable abbrev Sh(s:cL)(h:Heap)(tk:Nat):cL:={s with heap:=h,toks:=tk}
abbrev Zt.o(z:Zt)(σ:St)(h:Heap)(tk:Nat):Zt:=⟨z.ρ,σ,Sh z.s h tk⟩
theorem dJ.keeps(S:dJ C X z)(k:∀b o,z.h.g b=M o->s'.h.g b=M o)(c:s'.g=z.s.g)(a:s'.os=z.s.os):dJ C X ⟨z.ρ,z.σ,s'⟩:=
 have l:=⟨λx x e=>e,qo k⟩
 S.s l U (λm q=>q.keeps k) c a (λb o e=>k b o<|S.1 b o e) S.2 S.4 (λn o e=>(S.5 n o e).u l λx x x x q=>k _ _ q) S.6 (S.7.of_keeps λb o e x=>br o (k b o e) U) S.8
inductive Apart(C:Cx)(X:Fx)(z:Zt)(a:Addr):Prop
 |mk (base:C.s.g a=aI) (fp:a∉X.p) (fr:a∉X.r) (own:¬Own z.ρ a)
theorem dJ.N{W:List Addr}(S:dJ C X z)(f:∀a∈W,Apart C X z a)(k:∀b o,b∉W->z.h.g b=M o->p.g b=M o)(j:∀a∈W,∀o,z.h.g a=M o->Lr o):dJ C X (z.o z.σ p tk)/\K2 z.h p:=
 have g:=⟨λb i t=>t.i λo t=>⟨k b o (λw=>t.2.2.e λm d=>(j b w o t.1).1 t.2.1 _ _ d) t.1,t.2⟩,λb v c=>cz c λo e d=>br o (k b o (λw=>(j b w o e).2 _ d) e) d⟩
 have l:=⟨λx x e=>e,g⟩
 ⟨S.s l U (λm c=>ado c λo es y q r=>⟨o,es,y,k _ _ (λw=>(f _ w).2<|.h _) q,r⟩) U U (λb o e=>k b o (λw=>dq (f b w).1 e)<|S.1 b o e) S.2 S.4
  (λn o e=>(S.5 n o e).u l λt a A e q=>k _ _ (λw=>(f a w).4 ⟨_,e⟩) q) S.6 (frames_at S.7 λb u o e s=>br o (k b o (λw=>(f b w).3 u) e) s) S.8,g⟩
theorem lS.s{W:List Addr}(G:lS l z₀ z)(j:K2 z.h c)(k:∀b o,b∉W->z.h.g b=M o->c.g b=M o)(i:∀a∈W,z₀.h.g a=aI):lS l z₀ (z.o σ c tk):=
 have f:=λb o o' e q=>k b o' (λw=>dq (i b w) e) q
 ⟨⟨G.b,G.c.n j⟩,G.N,λb o q g d=>(G.K b o q g d).i λo' e=>⟨f b o o' q e.1,e.2⟩,λb o q=>(G.A b o q).i λo' e=>f b o o' q e⟩
theorem dJ.K(S:dJ C X z)(a:z.h.g b=aI):Apart C X z b:=
 ⟨none_of λo q=>dq a<|S.1 _ _ q,λm=>(S.xU m).e λx q=>dq a q.1,λm=>(S.xW m).2.e λx q=>dq a q.1,λc=>(S.F5 c).e λx q=>dq a q.1⟩
theorem dJ.q(S:dJ C X z)(e:z.σ.h n=M o)(H:z.ρ (n,t)=M a)(E:gE a z.h p)(A:∃oa,p.g a=M oa)(r:Le z (z.o (AN n o' z.σ) p tk)->BH C (z.o (AN n o' z.σ) p tk) n o')(hi:o'.I=o.I):
  dJ C X (z.o (AN n o' z.σ) p tk)/\lS X.p z (z.o (AN n o' z.σ) p tk):=
 have y:=⟨_,H⟩
 have u:=S.2 a y
 have s:∀b o,b≠a->z.h.g b=M o->p.g b=M o:=λb o q e=>(E.2 b q).t e
 have j:=λb o e T x=>br o (s b o (λq=>T<|q▸y) e)<|.l o
 have l:=⟨λx x e=>e,S.k2 j⟩
 have w:∀{k:Loc} {i:O} {G:Prop},(AN n o' z.σ).h k=M i->(k=n->o'=i->G)->(k≠n->z.σ.h k=M i->G)->G:=λ{k i G} q f g=>
  if d:k=n then f d (sJ<|(sz d).s.t q)else g d ((sv d).s.t q)
 ⟨S.s l U (λm q=>q.sameBut E λz=>u.2<|z▸.h _) U U (λb o e=>s b o (λq=>dq u.1<|q▸e)<|S.1 b o e) S.2 S.4
  (λk i q=>w q (λe R=>Y e<|rR R<|r l) λQ q=>(S.5 k i q).u l λt' P v N L=>s P v (λz=>Q<|congrArg eA<|S.4 _ _ _ N<|z▸H) L)
  (λk b c q=>(S.6 k b c q).e λi h=>if d:k=n then⟨o',sz d,λz=>hi.t<|cK (d▸h.1) e▸h.2 z⟩else⟨i,(sv d).t h.1,h.2⟩)
  (frames_at S.7 λb J o e I=>br o (s b o (λq=>S.8 a (q▸J) y) e) I) S.8,
  ⟨l,λx x e=>.I e,j,λb o e=>if q:b=a then q▸A else⟨o,s b o q e⟩⟩⟩
def FT(a:Δ)(l:Loc)(f:Bool->Option Addr):Δ:=λk=>if k.1=l then f k.2 else a k
def Og(σ:St)(l:Loc)(o:O):St:=⟨σ.l,aZ σ.h l o,σ.n+1⟩
theorem mi(t:Bool):FT a l f (l,t)=f t:=if_pos U
theorem dJ.new(S:dJ C X z)(v:z.σ.h l=aI)(k:∀b o,z.h.g b=M o->E.g b=M o)(ha:∀t a,f t=M a->z.h.g a=aI)(y:∀a,f D=M a->f Z≠M a)(hi:∀a,f Z=M a->o.I=Z)
   (r:Le z ⟨FT z.ρ l f,Og z.σ l o,Sh z.s E tk⟩->BH C ⟨FT z.ρ l f,Og z.σ l o,Sh z.s E tk⟩ l o):
   dJ C X ⟨FT z.ρ l f,Og z.σ l o,Sh z.s E tk⟩/\lS X.p z ⟨FT z.ρ l f,Og z.σ l o,Sh z.s E tk⟩:=
 have no:∀t a,z.ρ (l,t)≠M a:=λt a q=>(S.6 _ _ _ q).e λo e=>dq v e.1
 have i:∀{k:Loc×Bool} {a:Addr} {G:Prop},FT z.ρ l f k=M a->(k.1=l->f k.2=M a->z.h.g a=aI->G)->(k.1≠l->z.ρ k=M a->Own z.ρ a->G)->G:=λ{k a G} q g g'=>
   if d:k.1=l then g d ((if_pos d).s.t q) (ha _ _<|(if_pos d).s.t q)else g' d ((if_neg d).s.t q) ⟨_,(if_neg d).s.t q⟩
 have sub:∀k a,z.ρ k=M a->FT z.ρ l f k=M a:=λk a e=>(if_neg λh:k.1=l=>no k.2 a<|h▸e).t e
 have u:=⟨sub,qo k⟩
 have j:∀b,z.h.g b=aI->Own z.ρ b->False:=λb e c=>(S.F5 c).e λx q=>dq e q.1
 ⟨S.s u U (λm q=>q.keeps k) U U (λb o e=>k b o<|S.1 b o e) (λb t=>t.e λp e=>i e (λx x g=>have A:=S.K g;⟨A.1,A.2⟩) λx x c=>S.2 b c)
   (λk1 k2 a w n=>i w (λT L R=>i n (λH J x=>by
    obtain⟨a1,Q⟩:=k1;obtain⟨a2,P⟩:=k2
    revert v r i u w n H;refine rR T ?_;intro v r i u w n H;cases H
    rcases Q with _|_<;>rcases P with _|_<;>first|rfl|exact(y _ L J).e|exact(y _ J L).e) λx x c=>(j a R c).e) λx w c=>i n (λx x g=>(j a g c).e) λx n x=>S.4 _ _ _ w n)
   (λp I q=>if d:p=l then by cases d;exact rR (sJ<|(sz U).s.t q) (r u)else(S.5 p I<|(sv d).s.t q).u u λx x x x q=>k _ _ q)
   (λp t a e=>i e (λh e x=>br o (sz h) λq=>hi a<|q▸e) λN e x=>(S.6 _ _ _ e).i λI q=>⟨(sv N).t q.1,q.2⟩)
   (S.7.of_keeps λb o e x=>br o (k b o e) U) λb v t=>t.e λp e=>i e (λx x g=>(S.xW v).2.e λx q=>dq g q.1) λx x c=>S.8 b v c,
  ⟨u,λp a e=>i e (λx x g=>.i g) λx e x=>.I e,λb o e x x=>br o (k b o e)<|.l o,λb o e=>⟨o,k b o e⟩⟩⟩
theorem dJ.stored(S:dJ C X z)(J:X.n[i]?=M x)(hk:X.e.k x=M .local)(hi:i<z.σ.l.L)(hm:z.h.N X.e.l m)(hs:gE X.e.l z.h A)
  (T:bB z v y) (t:A.N X.e.l λu=>if u=x then M y else m u):dJ C X (z.o ⟨z.σ.l.s i v,z.σ.h,z.σ.n⟩ A tk)/\lS X.p z (z.o ⟨z.σ.l.s i v,z.σ.h,z.σ.n⟩ A tk):=
 have I:=.h _
 have n:∀b o,b≠X.e.l->z.h.g b=M o->A.g b=M o:=λb o q e=>(hs.2 b q).t e
 have d:=λb o e a R=>br o (n b o (λq=>R<|q▸I) e)<|.l o
 have l:=⟨λa a e=>e,S.k2 d⟩
 have g:=t.i λo q=>q.e λes q=>q.e λep q=>⟨q.1,λvs e=>cn<|q.2.1.s.t e⟩
 ⟨⟨λb o e=>n b o (λq=>dq (S.3 _ I)<|q▸e)<|S.1 b o e,S.2,S.3,S.4,λk Q q=>(S.5 k Q q).u l λt' P H f s=>n P H (λq=>(S.2 _ ⟨_,f⟩).2<|q▸I) s,S.6,
  frames_at S.7 λb hb o e N=>if q:b=X.e.l then q▸g else br o (n b o q e) N,S.8,
  λj u w f s L=>if E:i=j then by
    subst E
    refine rR (cK J f)<|rR (sJ<|(List.getElem?_set_self hi).s.t s) ?_
    exact br y (.I ⟨hk,_,t,if_pos U⟩)<|T.u l
   else(S.9 j u w f ((List.getElem?_set_ne E).s.t s) L).i λyu q=>⟨by
    have hz:u≠x:=λq=>E<|(yU (gL J) X.N).m<|J.t<|q▸f.s
    exact q.1.m (λr=>⟨r.1,_,t,(if_neg hz).t<|r.2.e λm' p=>(hm.agree p.1 u).t p.2⟩) λr=>⟨r.1,r.2.i λc p=>⟨p.1,l.c.2 _ _ p.2⟩⟩,q.2.u l⟩,
  Y List.length_set S.10,⟨_,t⟩,S.12,S.13⟩,
  ⟨l,λa a e=>.I e,d,λb o e=>if q:b=X.e.l then q▸g.i λa q=>q.1 else⟨o,n b o q e⟩⟩⟩
abbrev cQ{α:Type}:α->cL->Prop:=λx x=>False
inductive ez{α β:Type}(P:Px)(z:Zt)(R:β->α->Zt->Prop)(Q:β->St->Prop)(a:α):cL->Prop
 |mk (z':Zt) (b:β) (q:Q b z'.σ) (S:Sat P z') (G:Grows P z z') (r:R b a z'):ez P z R Q a z'.s
def Sm{b a:Type}(P:Px)(t:Sem b)(m:W a)(R:a->b->Zt->Prop):Prop:=∀z Q,Sat P z->m Q z.σ->bf P.C.b P.A t (ez P z R Q) cQ z.s
def L1{c b:Type}(P:Px)(t:a0->Sem c)(f:V->W b)(R:b->c->Zt->Prop):Prop:=∀z Q v a,Sat P z->bB z v a->f v Q z.σ->bf P.C.b P.A (t a) (ez P z R Q) cQ z.s
def L2{d c:Type}(P:Px)(t:a0->a0->Sem d)(f:V->V->W c)(R:c->d->Zt->Prop):Prop:=∀z Q v w a b,Sat P z->bB z v a->bB z w b->f v w Q z.σ->bf P.C.b P.A (t a b) (ez P z R Q) cQ z.s
def Ls{c b:Type}(P:Px)(t:List a0->Sem c)(f:List V->W b)(R:b->c->Zt->Prop):Prop:=∀z Q vs a,Sat P z->bJ z vs a->f vs Q z.σ->bf P.C.b P.A (t a) (ez P z R Q) cQ z.s
def Rep(v:V)(a:a0)(z:Zt):Prop:=bB z v a
def acH(v:aq)(a:List a0)(z:Zt):Prop:=bJ z v a
def G9{c:Type}(b a:c)(z:Zt):Prop:=a=b
def TT{d c:Type}(b:c)(a:d)(z:Zt):Prop:=True
def M6:F->Flow->Zt->Prop
 |.n,f,_=>f=.n
 |.brk,f,_=>f=.brk
 |.cont,f,_=>f=.cont
 |.r v,f,z=>∃a,f=.r a/\bB z v a
abbrev WE(P:Px)(e:Expr)(m:W V):Prop:=Sm P (eval e P.e) m Rep
abbrev WB(P:Px)(e:Expr)(m:W Bool):Prop:=Sm P (isTrue e P.e (eval e P.e)) m G9
abbrev WA(P:Px)(t:Expr)(f:ak):Prop:=L1 P (A4 t P.e) f TT
abbrev WS(P:Px)(st:Stmt)(m:W F):Prop:=Sm P (exec st P.e) m M6
abbrev Pn(P:Px)(st:List Stmt)(m:W F):Prop:=Sm P (Dl st P.e) m M6
abbrev Pm(P:Px)(ts:List (Bool×Sem a0))(m:W (List V)):Prop:=Sm P (spliced ts) m acH
theorem Grows.k:Grows P z z:=lS.r _ _
theorem Grows.n(G:Grows P z z')(b:Grows P z' a):Grows P z a:=lS.t G b
theorem Grows.l(G:Grows P z z'):Le z z':=lS.toLe G
theorem dR(x:bf c A t (ez P z R Q) cQ s)(k:∀z' b a,Q b z'.σ->Sat P z'->Grows P z z'->R b a z'->Q' a z'.s):bf c A t Q' E s:=
 bP x (λa s' y=>y.rec λz' b q S G r=>k z' b a q S G r) λw w y=>y.e
theorem ez.T(G:Grows P z z')(y:ez P z' R Q a s):ez P z R Q a s:=y.rec λc b q S d r=>.mk c b q S (G.n d) r
theorem t7(G:Grows P z z')(x:bf a A t (ez P z' R Q) cQ s):bf a A t (ez P z R Q) cQ s:=bP x (λw w y=>y.T G) λw w y=>y
theorem ez.h(q:Q b z.σ)(S:Sat P z)(r:R b a z):ez P z R Q a z.s:=.mk z b q S .k r
theorem ez.N(q:Q b z'.σ)(c:Sat P z'/\Grows P z z')(r:R b a z'):ez P z R Q a z'.s:=.mk z' b q c.1 c.2 r
theorem bB.n(G:Grows P z z')(r:bB z v x):bB z' v x:=r.u G.l
theorem bJ.mono(G:Grows P z z')(r:bJ z v x):bJ z' v x:=bJ.J G.l r
theorem Sat.u(S:Sat P z)(s':cL)(k:∀b o,z.h.g b=M o->s'.h.g b=M o)(c:s'.g=z.s.g)(a:s'.os=z.s.os):Sat P ⟨z.ρ,z.σ,s'⟩/\Grows P z ⟨z.ρ,z.σ,s'⟩:=⟨dJ.keeps S k c a,.u U k⟩
theorem Sat.x(S:Sat P z)(tk:Nat):Sat P ⟨z.ρ,z.σ,{z.s with toks:=tk}⟩/\Grows P z ⟨z.ρ,z.σ,{z.s with toks:=tk}⟩:=S.u _ (λx x e=>e) U U
theorem ez.t{Q:ab}(tk:Nat)(q:Q b z.σ)(S:Sat P z)(r:bB z b a):ez P z Rep Q a {z.s with toks:=tk}:=.N (z':=⟨z.ρ,z.σ,_⟩) q (S.x tk)<|r.n (S.x tk).2
theorem Sm.l{c:d->γ->Zt->Prop}(x:Sm P t m R)(y:∀z b a Q,Sat P z->R b a z->g b Q z.σ->bf P.C.b P.A (f a) (ez P z c Q) cQ z.s):Sm P (t>>=f) (bD m g) c:=
 λz Q S e=>aB<|dR (x z _ S e) λz' b a q S G r=>t7 G<|y z' b a Q S r q
theorem Sm.S(x:Sm P t m R):Sm P (zV p>>=λy=>t) m R:=λz Q S e=>aB<|dD<|x z Q S e
theorem Sm.u(r:∀z,R b a z):Sm P (pure a) (bE b) R:=λz Q S e=>aF<|.h e S<|r z
theorem Sm.n:Sm P t jD R:=λz Q S e=>e.e
theorem Sm.q(x:Sm P a m R)(e:t=a):Sm P t m R:=e▸x
theorem WE.bin(x:WE P l m)(y:WE P r h)(u:L2 P (yK g) f Rep):WE P (.BinOp l g r d) (bD m λv=>bD h λw=>f v w):=
 Sm.q (.l x λz v a Q S r e=>aB<|dR (bK<|y z _ S e) λz' w b q S G c=>aB<|dD<|acu<|t7 G<|u z' Q v w a b S (r.n G) c q)<|eval_BinOp ..
theorem WE.aao{t:Expr}(x:WB P t c)(y:WE P b m)(w:WE P o f):WE P (.IfExp t b o d) (Vq c m f):=
 Sm.l x λz k a Q S r e=>by
  refine Y r ?_
  rcases k with _|_;(exact w z Q S e);(exact y z Q S e)
theorem Pm.cons(x:WE P e m)(y:Pm P ts g):Pm P ((D,eval e P.e)::ts) (consW m g):=
 λz Q S e=>PC<|dR (x z _ S e) λz₁ b a q S G r=>dR (y z₁ _ S q) λc bs as q S d f=>.mk c _ q S (G.n d)<|bJ.cons (r.n d) f
theorem WE.cmp(x:WE P l m)(y:WE P r A)(u:L2 P (qd d) f λb c i=>c=.b b)(s:LN d r=D):
  WE P (.o l [d] [r] j) (bD m λv=>bD A λw=>bD (f v w) λb=>bE<|.o b):=
 λz Q S e=>by
  have p:eval (.o l [d] [r] j) P.e=(do compareChain j (<-eval l P.e) [d] [Jm d r (eval r P.e)]):=U
  exact Y p<|Y ((by delta Jm;exact Y s U:Jm d r (eval r P.e)=eval r P.e))<|aB<|dR (x z _ S e) λz₁ v a q S G r=>aB<|bK<|dR (y z₁ _ S q) λh w b q S n o=>aB<|dD<|acu<|dR (u h _ v w a b S (r.n n) o q) λg t c q S k r=>.mk g _ q S ((G.n n).n k)<|kY r▸bB.ofBool
theorem WB.Q(x:WE P l m)(y:WE P r s)(u:L2 P (qd k) f λb c i=>c=.b b)(p:LN k r=D):
  WB P (.o l [k] [r] o) (bD m λv=>bD s λw=>f v w):=
 λz Q S e=>wpAny_isTrue_Compare1 (dR (x z _ S e) λz₁ v a q S G r=>dR (y z₁ _ S q) λg w b q S j n=>dR (u g _ v w a b S (r.n j) n q) λd t c q S h r=>kY r▸pj (.mk d t q S ((G.n j).n h) U)) p
theorem WB.X(x:WE P e m)(c:L1 P Jr f G9)(b:isTrue e P.e (eval e P.e)=do let v<-eval e P.e;zV e.pos;Pu [v] (Jr v)):WB P e (bD m f):=
 Sm.q (.l x λz v a Q S r e=>aB<|dD<|bK<|c z Q v a S r e) b
theorem WB.J(x:WB P e m):WB P (.UnaryOp .Not e d) (bD m λb=>bE !b):=
 λz Q S a=>wpAny_isTrue_Not<|dR (x z _ S a) λz₁ b c q S G r=>.mk z₁ _ q S G<|congrArg _ r
abbrev Qa(P:Px)(op:BoolOp)(es:List Expr)(m:W Bool):Prop:=Sm P (allTrue op es P.e) m G9
set_option backward.match.sparseCases true in
theorem Qa.cons(x:WB P e m)(y:Qa P a es (Yb a f)):Qa P a (e::es) (Yb a<|m::f):=
 λz Q S d=>by
  have:allTrue a (e::es) P.e=(do match a,<-isTrue e P.e (eval e P.e)with|.And,D=>pure D|.Or,Z=>pure Z|_,_=>allTrue a es P.e):=U
  refine Y this<|aB<|dR (x z _ S d) λz₁ b c q S G r=> ?_
  cases r
  rcases a with _|_<;>rcases b with _|_<;>first|exact aF (.mk z₁ _ q S G U)|exact t7 G<|y z₁ Q S q
theorem WB.boolOp(x:Qa P c es m):WB P (.BoolOp c es b) m:=λz Q S a=>wpAny_isTrue_BoolOp<|x z Q S a
theorem ldK(b:P.X.n[i]?=M x)(S:Sat P z)(e:aS i Q z.σ)(k:∀v y,Q v z.σ->bB z v y->Q' y z.s):bf P.C.b A (loadName P.e x) Q' E z.s:=
 ((show∃v,z.σ.l[i]?=M v/\v≠.u/\Q v z.σ from by
   unfold aS at e
   rcases h:x5 i z.σ with _|v;(rw[h]at e;exact e.e);(rw[h]at e;exact⟨v,(Co h).1,(Co h).2,e⟩))).e λv e=>(S.9 i x v b e.1 e.2.1).e λy r=>have q:=e.2.2;r.1.e (λa=>a.2.e λm h=>Un P.X.k a.1 h.1 h.2<|k v y q r.2)
  λa=>a.2.e λc h=>a.1.e (λo=>wpAny_loadName_cell P.X.k o h.1 h.2<|k v y q r.2) λo=>wpAny_loadName_free P.X.k o h.1 h.2 (k v y q r.2) (P.X.P x<|aJ b).2
theorem Th{Q:aj}(g:P.X.n[i]?=M x)(b:P.X.e.k x=M .local)(S:Sat P z)(r:bB z v y)(e:ck i v Q z.σ)
  (k:∀z',Q () z'.σ->Sat P z'->Grows P z z'->Q' () z'.s):bf P.C.b A (storeName P.e x y) Q' E z.s:=
 have e:=(show i<z.σ.l.L/\Q () ⟨z.σ.l.s i v,z.σ.h,z.σ.n⟩from by
   unfold ck at e
   rcases h:aO (i+1) z.σ.l.L with _|_;(rw[h]at e;exact e.e);(rw[h]at e;exact⟨bl h,e⟩))
 S.11.e λm a=>wpAny_storeName_local b a (λf d c=>have T:=dJ.stored S g b e.1 a c r d;k (z.o _ f _) e.2 T.1 T.2) (by refine Y P.X.k ?_;rfl)
theorem pB(t a:Expr)(c:Pos)(b:Env)(f:sR a (M t) c.l b=pure D)(e:qC [t] a b=pure aI)(d:iT [t] b=[(D,A4 t b)]):
  exec (.A [t] a c) b=(do zV c;let v<-eval a b;A4 t b v;pure .n):=by
 show(do
  zV c
  if<-AU [t] a c.l b then do
   evalThenUse a b λv=>assignAll v<|(iT [t] b).m d9
   pure abT
  else do
   let v<-eval a b
   assignStores b v (<-qC [t] a b) ((iT [t] b).m d9))=_
 refine Y (show AU [t] a c.l b=sR a (M t) c.l b from U)<|Y f<|Y e<|Y d ?_
 rfl
theorem WS.iff(x:WB P b c)(y:Pn P body m)(w:Pn P a f):WS P (.If b body a d) (Vq c m f):=
 λz Q S e=>wpAny_If<|dR (x z _ S e) λz₁ t g q S G r=>by
  refine Y r ?_
  rcases t with _|_;(exact t7 G<|w z₁ Q S q);(exact t7 G<|y z₁ Q S q)
theorem Ed{K:F->Flow->Prop}(r:M6 f g z)(e:K .n .n)(d:K .brk .brk)(c:K .cont .cont)(b:∀v a,bB z v a->K (.r v) (.r a)):K f g:=by
 rcases f with _|_|_|v;(exact kY r▸e);(exact kY r▸d);(exact kY r▸c);(exact r.e λa r=>r.1▸b v a r.2)
theorem WS.wh(x:WB P H c)(y:Pn P body m)(w:Pn P l J):WS P (.While H body l L) λQ σ=>∃k,qE c m J k Q σ:=
 λz Q S E=>j8 E λk e=>wpAny_While (codeAny_whileLoop (λj A=>ez P z (λu u _=>True) (λu σ=>qE c m J j Q σ) () A) (λj A I=>I.rec λz₁ u e C s u=>by
  rcases j with _|j;(exact e.e);(
   refine dR (x z₁ _ C e) λp t N e o n r=> ?_
   cases r
   rcases t with _|_;(
    exact dR (w p _ o e) λh b g q d i r=>.mk h b q d ((s.n n).n i) r);(
    refine dR (y p _ o e) λh f g e d i r=> ?_
    have G:=(s.n n).n i
    revert e
    apply Ed r
    .exact λe=>⟨j,a8 _,.mk h () e d G trivial⟩
    .exact λe=>.mk h _ e d G U
    .exact λe=>⟨j,a8 _,.mk h () e d G trivial⟩
    .exact λv a r e=>.mk h _ e d G<|br a U r))) k<|.mk z () e S .k trivial)
def Lm(P:Px)(id:String)(f:V->List V->W V):Prop:=∀z Q v vs a b,Sat P z->bB z v a->bJ z vs b->f v vs Q z.σ->bf P.C.b P.A (call (.B id)<|a::b) (ez P z Rep Q) cQ z.s
section
variable{G:a0->Prop}{Gs:List a0->Prop}{Go:Prop}
theorem Sg(e:lW f g Q σ)(k:f Q σ->Go)(a:g Q σ->Go):Go:=Av e k a
theorem mP(r:bB z v a)(e:vp v f Q z.σ)(k:∀i t,f i Q z.σ->G (.i i t)):G a:=e.e λi e=>FE (e.1▸r) λt=>k i t e.2
theorem He(r:bB z v a)(e:Ye v f Q z.σ)(k:∀(m:Nat) (i:Int) t,i=m->f m Q z.σ->G (.i i t)):G a:=e.e λi e=>FE (e.1▸r) λt=>k i _ t U e.2
theorem pJ(r:bB z v a)(e:Dh v f Q z.σ)(k:∀l t,f l Q z.σ->G (.s (txt l) t)):G a:=e.e λl e=>Wb (e.1▸r) λt=>k l t e.2
theorem BO(r:bB z v a)(e:Po v f Q z.σ)(k:∀l c b,tW z.h l (qi b)->bJ z c b->f c Q z.σ->G (.r l)):G a:=Tx r e.1 λl b t q=>k l v.e b t q e.2
theorem Qm(r:bJ z vs a)(e:Yc vs m Q z.σ)(k:m Q z.σ->Gs []):Gs a:=kY ((e.1▸r))▸((k e.2))
theorem pA(r:bJ z vs a)(e:wa vs f Q z.σ)(k:∀w y,bB z w y->f w Q z.σ->Gs [y]):Gs a:=e.e λw e=>Zo (e.1▸r) λy q=>k w y q e.2
theorem JO(r:bJ z vs b)(e:Nf vs f Q z.σ)(k:∀w u x y,bB z w x->bB z u y->f w u Q z.σ->Gs [x,y]):Gs b:=e.e λw e=>e.e λu e=>aeh (e.1▸r) λx y q a=>k w u x y q a e.2
theorem adD(e:uF p f Q σ)(k:∀b,p=M b->f b Q σ->Go):Go:=e.e λb e=>k b e.1 e.2
theorem oA(S:Sat P z)(r:bB z v a)(e:CH v f Q z.σ)(k:∀n b l items c,z.σ.h n=M (.l b)->z.ρ (n,D)=M l->IsL z.h l items c->bJ z b items.t->items.s=b.L->f n b Q z.σ->G (.r l)):G a:=
 e.e λn e=>e.e λb e=>FN (e.1▸r) λl q=>(S.5 n _ e.2.1).rec λi items c d g r=>cK d q▸k n b i items c e.2.1 d g r r.E e.2.2
theorem tM(S:Sat P z)(r:bB z v a)(e:KI v f Q z.σ)(k:∀n b l es,z.σ.h n=M (.d b)->z.ρ (n,D)=M l->z.h.g l=M {cls:=.t "dict",data:=.d es es.s}->fF P.C.w.p z b es.t->pq b->f n b Q z.σ->G (.r l)):G a:=
 e.e λn e=>e.e λb e=>FN (e.1▸r) λl q=>(S.5 n _ e.2.1).rec λg es c d r ok=>cK c q▸k n b g es e.2.1 c d r ok e.2.2
theorem My(S:Sat P z)(r:bB z v a)(e:onS v f Q z.σ)(k:∀n b l,z.σ.h n=M (.s b)->z.ρ (n,D)=M l->z.h.SetOf (strKind P.C.p P.C.w) l (DQ b) b.L->(∀v∈b,∃l,v=.s l)->f n b Q z.σ->G (.r l)):G a:=
 e.e λn e=>e.e λb e=>FN (e.1▸r) λl q=>(S.5 n _ e.2.1).rec λg c d st=>cK c q▸k n b g e.2.1 c d st e.2.2
theorem Ie(S:Sat P z)(r:bB z v a)(e:l? v f Q z.σ)
  (k:∀n c b l d m,z.σ.h n=M (.i c b)->z.ρ (n,D)=M l->z.ρ (n,Z)=M d->z.h.g l=M (Dn c d)->z.h.Ns1 d m->z8 P.C z b m->c∈P.C.l->f n c b Q z.σ->G (.r l)):G a:=
 e.e λn e=>e.e λc e=>e.e λb e=>FN (e.1▸r) λl q=>(S.5 n _ e.2.1).rec λp d m g o j ns r i=>cK g q▸k n c b p d m e.2.1 g o j ns r i e.2.2
theorem L2.k(p:L2 P t f R)(q:L2 P t g R):L2 P t (λv w=>lW (f v w)<|g v w) R:=λz Q v w a b S r c e=>Av e (p z Q v w a b S r c)<|q z Q v w a b S r c
theorem L1.l(p:L1 P t f R)(q:L1 P t g R):L1 P t (λv=>lW (f v)<|g v) R:=λz Q v a S r e=>Av e (p z Q v a S r)<|q z Q v a S r
theorem Ls.l(p:Ls P t f R)(q:Ls P t g R):Ls P t (λv=>lW (f v)<|g v) R:=λz Q v a S r e=>Av e (p z Q v a S r)<|q z Q v a S r
theorem Lm.k{id:String}(p:Lm P id f)(q:Lm P id g):Lm P id λv w=>lW (f v w) (g v w):=λz Q v w a b S r c e=>Av e (p z Q v w a b S r c)<|q z Q v w a b S r c
theorem dE{n:Nat}(h:fits n=Z):n<=1000:=bl h
theorem sq{n:Nat}(h:fits n=Z):n<=mF:=aC (dE h) (by decide)
theorem WE.const:WE P (.n c k a) (QB c):=by
 intro z Q S e
 cases c with
 |none=>exact aF<|.h e S U
 |bool b=>exact aF<|.h e S U
 |int i=>exact Uo<|.t _ e S .y
 |str x=>exact Constant_str<|.t _ e S (by have:=bB.ofStr (z:=z) (l:=x.c.t) (t:=z.s.t);rwa [show txt x.c.t=x from congrArg Pk I9 ..]at this)
 |_=>exact e.e
theorem ez.K{Q:ab}(d:s'.g=z.s.g)(c:s'.os=z.s.os)(k:∀b o,z.h.g b=M o->s'.h.g b=M o)(q:Q v z.σ)(S:Sat P z)(r:Grows P z ⟨z.ρ,z.σ,s'⟩->bB ⟨z.ρ,z.σ,s'⟩ v a):ez P z Rep Q a s':=
 have T:=S.u s' k d c
 .N (z':=⟨z.ρ,z.σ,s'⟩) q T (r T.2)
theorem Ku:Ls P newTuple cY Rep:=λz Q vs a S r e=>
 eZ (.K U U (dB _ _) e.2 S λG=>bB.tup (r.mono G) ⟨_,bG _ U,U,0,U⟩) (by show a.T.s<=mF;exact Y rZ<|Y r.E<|sq e.1)
noncomputable def one(a:Addr)(t:Bool):Option Addr:=cond t aI<|M a
theorem ez.w{Q:ab}(S:Sat P z)(e:iB o Q z.σ)(k:∀b o,z.h.g b=M o->c.g b=M o)(f:z.h.g l=aI)(r:∀z' n,z'.s=Sh z.s c tk->Le z z'->z'.ρ (n,D)=M l->BH P.C z' n o):
  ez P z Rep Q (.r l) (Sh z.s c tk):=e.e λn e=>
 have T:=dJ.new S e.1 k (λt a q=>by rcases t with _|_<;>cases q;exact f) (λa q d=>nS d) (λa q=>nS q) λl=>r _ n U l<|mi D
 .mk ⟨FT z.ρ n<|one l,Og z.σ n o,Sh z.s c tk⟩ (.L n) e.2 T.1 T.2 (bB.yd<|mi D)
theorem ez.L{Q:ab}(S:Sat P z)(e:iB (.l vs) Q z.σ)(r:bJ z vs items.t):ez P z Rep Q (.r z.h.o.s) (Sh z.s (z.h.p {cls:=.t "list",data:=.s items}) tk):=
 .w S e (dB _ _) (fg _) λz' n e l q=>⟨_,items,0,q,by delta Zt.h;exact Y e<|bG _ U,r.J l⟩
theorem Ai:Ls P newList bj Rep:=λz Q vs a S r e=>
 eZ (.L S e.2 r) (by show a.T.s<=mF;exact Y rZ<|Y r.E<|sq e.1)
theorem tw(r:bB z v x):vA x=Z:=by
 have c:∀{L:List a0->Prop},rH z L x->vA x=Z:=λr=>r.e λa r=>r.e λd r=>r.1▸U
 cases v with
 |u=>exact r.e
 |N=>exact x7 (G:=λx=>vA x=Z) r U
 |o b=>exact kY r▸U
 |I i=>exact FE (G:=λx=>vA x=Z) r λy=>U
 |s l=>exact Wb (G:=λx=>vA x=Z) r λy=>U
 |a=>exact c r
 |T a b=>exact c r
 |L n=>exact FN (G:=λx=>vA x=Z) r λy y=>U
theorem zw{h:Heap}(ns:h.Ns1 d m):∃a,h.g d=M a/\lookIn name a=M (m name):=by
 refine adp ns λo es k i g f j c=>br o i ?_
 delta lookIn
 refine Y g ?_
 dsimp only
 refine rR (c name) ?_
 delta nsFind findBy
 refine rR Array.find?_toList ?_
 cases q:es.t.find? λe=>e.k.isStr name with
 |some e=>rfl
 |none=>
  have:es.t.A (·.refKey)=D:=O8.M λe b=>(f e<|vk.m b).e λx q=>q.e λt q=>by simp[DictEntry.refKey,q]
  simp only[this]
  rfl
inductive w?(K:Frag)(c:Addr):Prop
 |mk (cd:∃cd,clsIn K c=M cd/\cd.hasDict=Z) (g:jo K (.r c) "__getattribute__"=M (M (.B "object.__getattribute__"))) (g':jo K (.r c) "__getattr__"=M aI) (s:jo K (.r c) "__setattr__"=M (M (.B "object.__setattr__"))) (p:plainOver K c=Z) (m:makesIn K c=Z)
theorem Hi{K:Frag}{c:Addr}(e:xR K c=Z):w? K c:=by
 simp only[xR,d8,beq_iff_eq]at e
 exact⟨(any_some e.1.1.1.1.1).i λx q=>q,e.1.1.1.1.2,e.1.1.1.2,e.1.1.2,e.1.2,e.2⟩
theorem Sat.v(S:Sat P z):P.C.K.In z.h:=λa o q=>S.1 _ _<|P.C.i a o q
theorem Ki(b:h.g l=M (Dn c d))(ns:h.Ns1 d m)(name:Str):∃a,InstAt h l (Dn c d) c (M a)/\lookIn name a=M (m name):=
 (zw ns).i λa q=>⟨⟨b,U,U,q.1⟩,q.2⟩
theorem uE(S:Sat P z)(u:z.h.g l=M (Dn c d))(ns:z.h.Ns1 d m)(y:z8 P.C z w m)(f:c∈P.C.l)
  (v:P.C.A j=name) (t:jo P.C.K (.r c) name=M dx) (b:∀x,dx=M x->n! P.C.K x "__get__"=M aI/\Ue.c name=D/\vA x=Z) (e:m name=M x/\vA x=Z\/m name=aI/\dx=M x) (r:Q' x {z.s with toks:=z.s.t+1}):bf P.C.b P.A (Pt (.r l) name Z) Q' E z.s:=by
 refine cz (Hi<|P.C.g c f).1 λp o n=>cz (Ki u ns name) λk i g=>get_value S.v i (Hi<|P.C.g c f).2 ?_ (e.e (·.2) λq=>(b x q.2).2.2) r
 delta findObj
 rw[o,fN,t,fN]
 have a:W.ownOf p (M k) name=M (m name):=by delta W.ownOf;exact Y n<|Y (if_pos U) g
 rcases dx with _|dx;(exact Y a<|e.e λq=>by refine Y q.1 ?_;rfl λq=>nS q.2);(
  dsimp only
  rw[(b dx U).1,fN]
  rw[fN]
  dsimp only
  rw[a,fN]
  rcases e with q|q
  .rw[q.1]
  .rw[q.1];refine rR (sJ q.2) ?_
   dsimp only
   rw[(b dx U).2.1,g8,if_neg (by decide),(b dx U).2.2,if_pos U])
theorem Q1(g:P.C.A j=name)(o:∀c∈P.C.l,jo P.C.K (.r c) name=M aI):L1 P (λa=>Pt a name Z) (qn j) Rep:=λz Q v a S r e=>by
 apply Ie S r e;intro n c t l d m q s p k ns f b e
 exact adD e λw i q=>(f.1 j w i).e λx h=>uE S k ns f b g (o c b) (λy q=>nS q) (.I ⟨g▸h.1,tw h.2⟩)<|.t _ q S h.2
end
section
variable{P:Px}
theorem z8.w(r:z8 P.C z a m):Within m (a.m λp=>P.C.A p.1):=λy c=>by
 rcases q:m y with _|x;(exact absurd q c);(exact(r.2 _ _ q).e λi e=>e.e λv e=>((show fO a i=M v->∃p∈a,p.1=i from a.R (λe=>nS e) λp a b e=>if h:p.1=i then br p (.h _) h else(b<|(vv p.2 a h).s.t e).i λq k=>⟨.t _ k.1,k.2⟩) e.1).e λp k=>tZ.M<|br p k.1<|k.2▸e.2)
theorem IH(T:P.C.A j=name)(hf:∀c∈P.C.l,takerIn P.C.K c name=M aI)(p:∀i,P.C.A i=name->i=j):L2 P (λw v=>setAttr v name w) (λw v=>AR j v w) TT:=λz Q w v y a S rw r e=>by
 apply Ie S r e;intro n c fs l d m q ha R N ns J I e
 have K:=Hi<|P.C.g c I
 refine cz K.1 λcd h1 h2=>cz (Ki N ns name) λod IA ho=>set_plain S.v IA K.4<|osa_open (s:={z.s with toks:=z.s.t+1}) S.v IA K.5 (hf c I) λb=> ?_
 refine aB<|aF<|aB<|aB<|wpAny_loadPart N<|aB<|looks_clsIn S.v h1 _ _ _ _ (λo o e=>e)<|Y h2<|aF<|aB<|aF<|aB<|wpAny_nsSet1 ns λh' g X=>Yz (g.count<|Within.cons name y J.w) λoD esD epD f H E=> ?_
 exact aB (wpAny_lookBehind f (Y H<|pastItsLine_dict<|aC E (by rw[cq,aD];exact aC (bz<|dE e.1) (by decide))) (aF (.N (z':=z.o (AN n (.i c<|j9 fs j w) z.σ) h' _) e.2 (dJ.q S q R X ⟨oD,f⟩ (λL=>⟨l,d,_,ha,R,(X.2 l λq=>Ao<|congrArg d9<|S.4 _ _ _ (q▸ha) R).t N,g,⟨λi u e=>by
   rw[fe]at e
   by_cases A:i=j
   .subst A;have e:=if_pos U▸e;exact rR (sJ e)<|br y (if_pos T)<|rw.u L
   .rw[if_neg A]at e;exact(J.1 i u e).i λx h=>⟨(if_neg λz=>A<|p i z).t h.1,h.2.u L⟩,
  λu x e=>if t:u=name then we j w (by rw[fe,if_pos U]) (T.t t.s)else(J.2 u x<|(if_neg t).s.t e).i λi h=>h.i λv h=>⟨by rw[fe,if_neg λk:i=j=>t<|h.2.s.t<|k.s▸T];exact h.1,h.2⟩⟩,I⟩) U) trivial)))
def Kind(P:Px)(T:String)(c:ak):Prop:=∀z Q v a,Sat P z->bB z v a->c v Q z.σ->Q () z.σ/\z.s.T a T/\∀b,a=.r b->∃o,z.h.g b=M o/\o.D=aI
theorem vH:Kind P "list" o7:=λz Q v a S r e=>oA (G:=λa=>Q () z.σ/\z.s.T a "list"/\∀b,a=.r b->∃o,z.h.g b=M o/\o.D=aI) S r e λn j l items i q g c f d e=>⟨e,br _ c U,λb q=>A0 q▸br _ c U⟩
theorem Ri:Kind P "set" isSet:=λz Q v a S r e=>My (G:=λa=>Q () z.σ/\z.s.T a "set"/\∀b,a=.r b->∃o,z.h.g b=M o/\o.D=aI) S r e λn g l q f c st e=>
 c.e λo h=>h.e λes h=>h.e λd h=>h.e λt h=>⟨e,br _ h.1 h.2.1.1,λb q=>A0 q▸br _ h.1 h.2.1.2.1⟩
theorem gz(d:ts.a (λt=> !t.1)=Z)(a:bf M' A (spliced ts) (λvs s'=>Q ⟨vs,[]⟩ s') E s):bf M' A (evalArgs f Z ts []) Q E s:=by
 cases ts with
 |nil=>exact aB<|bP a (λvs s' c=>aB<|aF<|bK<|aB<|aF<|aB<|aF<|aF c) λx x z=>z
 |cons t ts=>
  obtain⟨b,t⟩:=t
  rcases b with _|_;(exact evalArgs_plain a);(exact bF d)
theorem lh
  (l:kl o name P.e (eval o P.e)=eval o P.e) (k:lg (a.L+0) (hQ b<|eF a P.e) []=Z) (j:(c.e==b.l)=Z)
  (i:bf P.C.b A (eval o P.e) (λh e=>bf P.C.b A (getMethod h name do return(<-importBound o P.e).g Z) (λr d=>bf P.C.b A (ab6 b r.1 r.2 (hQ b<|eF a P.e) []) Q E d) E e) E s):
  bf P.C.b A (eval (.C (.A o name c) a [] b) P.e) Q E s:=by
 show bf _ _ (kl o name P.e (eval o P.e)>>=λh=>zV c.atName>>=λx=>methodCall o name c b P.e h (a.L+0) (hQ b<|eF a P.e) []) _ _ _
 refine Y l<|aB<|bP i (λh e g=>aB<|dD ?_) λx x z=>z
 delta methodCall calleeOf methodCallPos
 exact Y k<|Y (if_pos U)<|aB<|bK<|bP g (λr d f=>Y j<|aB<|aF f) λx x z=>z
theorem any_false{ts:List (Bool×Sem a0)}(b:ts.a (λt=> !t.1)=Z):ts.A (·.1)=D:=
 O8.M λt a q=>by have:=dw.m b t a;rw[q]at this;exact bF this
theorem WE.Q!{ma:W (List V)}{id:String}
  (x:WE P o m) (y:Pm P (hQ c<|eF b P.e) ma) (H:Kind P T i) (E:Jh T) (g:Slot T name id) (h:typeOf (.B id)=pure (.t "method_descriptor")) (u:Lm P id C)
  (A:kl o name P.e (eval o P.e)=eval o P.e) (s:lg (b.L+0) (hQ c<|eF b P.e) []=Z) (p:(f.e==c.l)=Z) (k:(hQ c<|eF b P.e).a (λt=> !t.1)=Z):
  WE P (.C (.A o name f) b [] c) (bD m λv=>bD (i v) λw=>bD ma λvs=>C v vs):=
 λz Q S e=>lh A s p<|dR (x z _ S e) λz₁ v a q S G r=>(H z₁ _ v a S r q).e λq t=>Dm t.1 E g h t.2<|vr (any_false k)<|gz k
  <|dR (y z₁ _ S q) λd vs n q S j l=>t7 (G.n j)<|u d Q v vs a n S (r.n j) l q
theorem ez.u(f:Array a0->Array a0)(S:Sat P z)(q:z.σ.h n=M (.l i))(c:z.ρ (n,D)=M l)(b:IsL z.h l items g)(e:Q v (AN n (.l a) z.σ))(r:bJ z a (f items).t)(d:bB z v x):
  ez P z Rep Q x {z.s with heap:=z.s.h.update l<|Pd f}:=
 have T:=dJ.q (o':=.l a) S q c (eG ..) ⟨_,b.update f⟩ (λL=>⟨l,f items,_,c,b.update f,r.J L⟩) U
 .N e T (d.n T.2)
theorem uT{G:a0->Prop}(S:Sat P z)(r:bB z v a)(e:zK v f Q z.σ)(k:∀n b l items c,z.σ.h n=M (.l b)->z.ρ (n,D)=M l->IsL z.h l items c->bJ z b items.t->items.s=b.L->b.L<=1000->f n b Q z.σ->G (.r l)):G a:=
 oA S r e λn b l items c q j i g d e=>k n b l items c q j i g d (dE e.1) e.2
theorem vI{n:Nat}(h:n<=1000):n<=mF:=aC h (by decide)
theorem Hd:Lm P "list.append" hH:=λz Q v vs a k S r i e=>by
 apply pA i e;intro w y h e
 apply uT S r e;intro n j l items g q f b d c hz e
 exact sU TO (br _ b U) F.entry_list_append (F.args_list_append_2 _ _) (list_append l items g y<|vI<|c▸hz) ⟨b,.u (λx=>x.push y) S q f b e (Y yG<|d.S<|bJ.K h) .pG⟩
theorem bJ.qn{items:Array a0}{k:Nat}(r:bJ z a items.t)(h:a[k]?=M u):∃x,items[k]?=M x/\bB z u x:=fJ▸r.Q h
theorem fitsIndex{k:Nat}{i:Int}(e:i=k)(h:k<100000):oj i=Z:=by simp[oj];exact Y e ⟨fy (by decide)<|dW k,dG.M<|qI h (by decide)⟩
theorem yv{k:Nat}{i:Int}(e:i=k)(h:k<m):ES i m=M k:=by
 delta ES
 have a:¬i<0:=iN e
 simp only[a,if_false]
 rw[if_pos (by simp;exact⟨qX.m a,Y e<|dG.M h⟩)]
 congr 1;exact Y e<|eC k
theorem Sp:Lm P "list.pop" DN:=λz Q v vs a C S r s e=>by
 apply Sg e<;>intro e
 .apply Qm s e;intro e
  apply uT S r e;intro n A l items o q m b h d hz e
  refine cz e λu j e=>cz (h.qn j) λy c g=> ?_
  have c:=d.s▸c
  refine sU DX (br _ b U) Wu (F.args_list_pop_1 _) (MeetsSeq.list_pop_last l items o y c<|vI<|d▸hz) ⟨b,.u (λx=>x.e<|items.s - 1) S q m b e ?_ g⟩
  rw[yR,nQ,G2 (by exact Y kM<|bU (zQ 46) U<|zs _ _),bQ,<-d]
  exact h.take _
 .apply pA s e;intro w y g e
  apply He g e;intro k i t p e
  apply uT S r e;intro n A l items o q m b h d hz e
  refine cz e λu j e=>cz (h.qn j) λy c g=> ?_
  have f:=(qF.m c).1
  exact sU DX (br _ b U) Wu (F.args_list_pop_2 _ _) (MeetsSeq.list_pop_at l items o i t k y (fitsIndex p<|qI f<|d▸bZ (zQ 256) U hz) (yv p f) c<|vI<|d▸hz) ⟨b,.u (λx=>x.e k) S q m b e (Y yR<|h.erase k) g⟩
noncomputable def YW(x:Int)(y:a0)(a:Array a0):Array a0:=
 have k:=if x<0 then(x+(a.s:Int)).t else min x.t a.s
 (a.extract 0 k).push y++a.extract k
theorem Q7:Lm P "list.insert" YX:=λz Q v vs a C S r s e=>by
 apply JO s e;intro w u y x p o e
 apply He p e;intro k i t c e
 apply uT S r e;intro n A l items m q j b f d hz e
 exact sU TU (br _ b U) F.entry_list_insert (F.args_list_insert_3 _ _ _) (AutoSeq1.list_insert_list_int_val_1 l items m i t x (by refine Y (fitsIndex c<|bZ (zQ 256) U<|(aC (bl e.1) hz)) ?_;decide)<|vI<|d▸hz) ⟨b,.u (YW i x) S q j b e.2 ((Y ((show(YW i x items).t=items.t.t k++x::items.t.d k from by
  have h:¬i<0:=iN c
  have g:i.t=k:=Y c<|eC k
  simp[YW,h,g,jV<|(d▸bl e.1)]
  exact gF (by simp)))<|(f.take k).S<|.cons o<|f.drop k)) .pG⟩
end
def V.g:V->Nat
 |.N=>0
 |.o _=>1
 |.I _=>2
 |.s _=>3
 |_=>4
noncomputable def Wq:a0->Nat
 |.n=>0
 |.b _=>1
 |.i .. =>2
 |.s .. =>3
 |_=>4
theorem MS(p:tW h l i)(q:tW h l j):i=j:=p.e λo p=>q.e λo' q=>p.2.2.e λm b=>q.2.2.e λc a=>by
 revert a;refine rR (cK p.1 q.1) ?_;intro a
 exact(Data.seq.inj<|b.s.t a).1
theorem Wj(S:dJ C X z)(p:tW z.h l i)(q:z.ρ k=M l):False:=p.e λo p=>p.2.2.e λm d=>(S.KH p.1 λa=>a.1 p.2.1 _ _ d).1 ⟨k,q⟩
theorem rH.v{G:Prop}(p:rH z L x)(k:∀l a,x=.r l->tW z.h l (qi a)->L a->G):G:=p.e λl p=>p.e λa p=>k l a p.1 p.2.1 p.2.2
theorem rH.P{G:Prop}(p:rH z L x)(q:rH z f x)(k:∀a,L a->f a->G):G:=
 p.v λl a e t h=>q.v λi g d b c=>by revert b;refine rR (jN<|e.s.t d) ?_;intro b;obtain rfl:=congrArg GN<|MS t b;exact k a h c
theorem bB.tag(r:bB z v x):Wq x=v.g:=by
 have t:∀{L:List a0->Prop},rH z L x->Wq x=4:=λp=>p.v λy y e y y=>e▸U
 cases v with
 |u=>exact r.e
 |N=>exact congrArg Wq r
 |o b=>exact congrArg Wq r
 |a=>exact t r
 |T=>exact t r
 |I i=>exact r.e λy e=>e▸U
 |s i=>exact r.e λy e=>e▸U
 |L i=>exact r.e λy e=>e.1▸U
theorem G7.inj(S:dJ C X z):∀a,(∀b x,bB z a x->bB z b x->a=b)/\∀b d,kj z a d->kj z b d->a=b:=by
 have f:∀{a b:V} {x:a0},bB z a x->bB z b x->a.g=b.g:=λp q=>p.tag.s.t q.tag
 have m:∀{L:List a0->Prop} {k:Loc} {x:a0} {G:Prop},rH z L x->bB z (.L k) x->G:=λp q=>p.v λl d e t j=>q.e λv q=>by obtain rfl:=jN<|e.s.t q.1;exact(Wj S t q.2).e
 intro a
 induction a with
 |u=>exact⟨λb x p=>p.e,λb d p=>p.e⟩
 |N=>exact⟨λb x p q=>by rcases b with _|_<;>first|rfl|exact q.e|exact(iZ<|f p q),λb d p=>p.e⟩
 |o c=>exact⟨λb x p q=>by rcases b with _|_<;>first|exact q.e|(refine rR (UE<|p.s.t q) ?_;rfl)|exact(nN (f p q) U),λb d p=>p.e⟩
 |I i=>exact⟨λb x p q=>by rcases b with _|_<;>first|exact q.e|exact p.e λt p=>q.e λu q=>by refine rR (Ax<|p.s.t q).1<|rR (Ax<|p.s.t q).2 ?_;rfl|exact(nN (f p q) U),λb d p=>p.e⟩
 |s i=>exact⟨λb x p q=>by rcases b with _|_<;>first|exact q.e|exact p.e λt p=>q.e λu q=>congrArg _ (congrArg (λs=>s.c.t) (Value.str.inj<|p.s.t q).1)|exact(nN (f p q) U),λb d p=>p.e⟩
 |L i=>exact⟨λb x p q=>by rcases b with _|_<;>first|exact q.e|exact m q p|exact p.e λt p=>q.e λu q=>by obtain rfl:=jN<|p.1.s.t q.1;exact congrArg (λp=>V.L p.1) (S.4 _ _ _ p.2 q.2)|exact(nN (f p q) U),λb d p=>p.e⟩
 |a=>
  have T:∀b d,kj z .a d->kj z b d->V.a=b:=λb d p q=>by rcases b with _|_<;>first|rfl|exact q.e|exact q.e λy q=>q.e λn q=>nomatch p.s.t q.1
  exact⟨λb x p q=>by rcases b with _|_<;>first|rfl|exact q.e|exact m p q|exact rH.P p q λd p q=>T _ d p q|exact(nN (f p q) U),T⟩
 |T u w h g=>
  have T:∀b d,kj z (.T u w) d->kj z b d->V.T u w=b:=λb d p q=>by
   rcases b with _|_<;>first|exact q.e|exact p.e λy p=>p.e λn p=>nomatch q.s.t p.1|exact p.e λy p=>p.e λn p=>q.e λr q=>q.e λo q=>by obtain rfl:=(fK<|p.1.s.t q.1).1;obtain rfl:=(fK<|p.1.s.t q.1).2;exact congr (congrArg _<|h.1 _ _ p.2.1 q.2.1)<|g.2 _ _ p.2.2 q.2.2
  exact⟨λb x p q=>by rcases b with _|_<;>first|exact q.e|exact m p q|exact rH.P p q λd p q=>T _ d p q|exact(nN (f p q) U),T⟩
theorem bB.inj(S:dJ C X z)(p:bB z v x)(q:bB z w x):v=w:=(G7.inj S v).1 w x p q
theorem Kf{G:V->a0->Prop}(i:zg v d=Z)(r:bB z v x)(n:G .N .n)(j:∀i t,G (.I i)<|.i i t)(k:∀l t,G (.s l)<|.s (txt l) t)
  (t:∀u l c,u.d=Z->zg u d=Z->tW z.h l (qi c)->kj z u c->G u (.r l)):G v x:=by
 cases v with
 |N=>exact x7 r n
 |I m=>exact FE r<|j m
 |s m=>exact Wb r<|k m
 |a=>exact rH.v r λl c e q h=>e▸t _ l c U i q h
 |T a b=>exact rH.v r λl c e q h=>e▸t _ l c U i q h
 |_=>exact bF i
theorem vC:∀(v:V) {d:Nat},zg v d=Z->∀e∈v.e,∃g,d=g+1/\zg e g=Z:=by
 intro v
 induction v with
 |T a b _ i=>
  intro d f e c
  rcases d with _|d;(exact bF f);(
   have h:=an f
   exact(mc c).e (λq=>br d U<|q▸h.1) λc=>i h.2 e c)
 |_=>exact λ_ _ c=>by cases c
def e!(l t:aq)(j:Nat):Bool:=(l[j]?).e Z λa=>(t[j]?).e Z λb=>dX a b
theorem U9(l t:aq):((bX<|min l.L t.L).a (e! l t)&&l.L==t.L)=Z↔l=t:=by
 rw[aU,dw]
 refine⟨λh=>rV λj=> ?_,λh=>And.intro (λj b=> ?_)<|h▸beq_self_eq_true _⟩
 .have e:=bW h.2
  by_cases b:j<l.L
  .have:=h.1 j<|fZ.M (by exact Nat.lt_min.M ⟨b,e▸b⟩)
   rw[e!,aP b,aP<|e▸b]at this
   exact Y (aP b)<|Y (aP<|e▸b)<|Y (vq _ _ this) U
  .exact Y (eS<|ko.m b)<|Y (eS<|e▸ko.m b) U
 .refine rR h ?_;rw[e!]
  rcases l[j]? with _|a;(rfl);(exact uA a)
theorem kj.l:∀v (a:List a0),kj z v a->V.t v.e=v:=
 @V.rec (λv=>∀(a:List a0),kj z v a->V.t v.e=v) (λx e=>e.e) (λx e=>e.e) (λx x e=>e.e) (λx x e=>e.e) (λx x e=>e.e) (λx x=>U)
  (λv w x b a r=>r.e λy r=>r.e λc r=>congrArg _<|b _ r.2.2) λx x e=>e.e
theorem JT(r:kj z v b)(q:kj z w a):((bX<|min b.L a.L).a (e! v.e w.e)&&b.L==a.L)=dX v w:=by
 rw[(kj.k v b r).E,(kj.k w a q).E,dM,U9,gN]
 exact⟨λe=>(kj.l v b r).s.t<|(congrArg V.t e).t<|kj.l w a q,λe=>congrArg V.e e⟩
theorem ne_T(h:v.d=Z)(k:w.d=D):dX v w=D/\dX w v=D:=
 ⟨mG.M λq=>bF<|k.s.t<|(congrArg V.d<|vq _ _ q).s.t h,mG.M λq=>bF<|k.s.t<|(congrArg V.d<|vq _ _ q).t h⟩
inductive E3(A:sT)(s:cL)(x y:a0)(b:Bool):Prop
 |mk (eq:EqAt A s x y b) (rc:RcAt A s x y b) (ne:RcNeAt A s x y (!b))
theorem E3.t(S:dJ C X z)(ih:∀g,d=g+1->∀{A:sT} {v w:V} {x y:a0} {d':Nat},zg v g=Z->zg w d'=Z->bB z v x->bB z w y->A.u+g+1<qK->E3 A z.s x y (dX v w))
  (i:zg v d=Z) (H:zg w d'=Z) (r:bB z v x) (E:bB z w y) (T:A.u+d+1<qK):E3 A z.s x y (dX v w):=by
 have b:A.u<qK:=lR (zQ 51) U T
 apply Kf (G:=λv x=>E3 A z.s x y<|dX v w) i r
 .apply Kf (G:=λw y=>E3 A z.s .n y<|dX .N w) H E
  .exact⟨.same _,.none_none,.none_none⟩
  .exact λi t=>⟨.none_int i t,.none_int i t,.none_int i t⟩
  .exact λi t=>⟨.none_str _ t,.none_str _ t,.none_str _ t⟩
  .exact λu l f h a t a=>(ne_T (w:=.N) h U).2▸⟨.none_tuple t b,.none_tuple t b,.none_tuple t b⟩
 .intro j u
  apply Kf (G:=λw y=>E3 A z.s (.i j u) y<|dX (.I j) w) H E
  .exact⟨.int_none j u,.int_none j u,.int_none j u⟩
  .exact λi t=>⟨.int_int j u i t,.int_int j u i t,.int_int j u i t⟩
  .exact λi t=>⟨.int_str j u _ t,.int_str j u _ t,.int_str j u _ t⟩
  .exact λn l f h a t a=>(ne_T (w:=.I j) h U).2▸⟨.int_tuple j u t b,.int_tuple j u t b,.int_tuple j u t b⟩
 .intro j u
  apply Kf (G:=λw y=>E3 A z.s (.s (txt j) u) y<|dX (.s j) w) H E
  .exact⟨.str_none _ u,.str_none _ u,.str_none _ u⟩
  .exact λi t=>⟨.str_int _ u i t,.str_int _ u i t,.str_int _ u i t⟩
  .exact λi t=>((show(txt j==txt i)=jc j i from dM.M ⟨λh=>fS.M<|congrArg (λs=>s.c.t)<|bW h,λh=>fS.m h▸beq_self_eq_true _⟩)▸⟨.str_str _ u _ t,.str_str _ u _ t,.str_str _ u _ t⟩:E3 A z.s _ _ (jc j i))
  .exact λn l f h a t a=>(ne_T (w:=.s j) h U).2▸⟨.str_tuple _ u t b,.str_tuple _ u t b,.str_tuple _ u t b⟩
 .intro u l f h iu t q
  apply Kf (G:=λw y=>E3 A z.s (.r l) y<|dX u w) H E
  .exact(ne_T (w:=.N) h U).1▸⟨.tuple_none t b,.tuple_none t b,.tuple_none t b⟩
  .exact λi v=>(ne_T (w:=.I i) h U).1▸⟨.tuple_int i v t b,.tuple_int i v t b,.tuple_int i v t b⟩
  .exact λi v=>(ne_T (w:=.s i) h U).1▸⟨.tuple_str _ v t b,.tuple_str _ v t b,.tuple_str _ v t b⟩
  .intro n l' c h' P p k
   have m:∀j (N:j<f.T.s) (L:j<c.T.s),EqAt A.in1 z.s f.T[j] c.T[j] (e! u.e n.e j):=λj N L=>by
    have J:j<u.e.L:=((kj.k u f q).E)▸N
    have I:j<n.e.L:=(kj.k n c k).E▸L
    refine cz ((kj.k u f q).Q<|aP J) λx' hx rx=> ?_
    refine cz ((kj.k n c k).Q<|aP I) λy' hy ry=> ?_
    refine cz (vC u iu _<|Aq J) λd1 R i1=>cz (vC n P _<|Aq I) λd2 a i2=> ?_
    have ex:f.T[j]=x':=cK (aP N) hx
    have ey:c.T[j]=y':=cK (aP L) hy
    rw[e!,aP J,aP I,ex,ey]
    exact(ih d1 R (A:=A.in1) i1 i2 rx ry<|(pU (zQ 52) U T<|zG R)).1
   have o:=RcAt.tuples t p b m
   have Q:=RcNeAt.tuples t p b m
   rw[show f.T.s=f.L from U,show c.T.s=c.L from U,JT q k]at o Q
   exact⟨if e:l=l' then by revert p o;refine rR e ?_;intro p o;obtain rfl:=(congrArg GN<|MS t p);rw[(G7.inj S u).2 n f q k,uA];exact .same _ else .of_refs e o,o,Q⟩
theorem Fy(S:dJ C X z):∀(d:Nat) {A:sT} {v w:V} {x y:a0} {c:Nat},zg v d=Z->zg w c=Z->bB z v x->bB z w y->A.u+d+1<qK->E3 A z.s x y (dX v w):=by
 intro d
 induction d with
 |zero=>exact E3.t S λu e=>iZ e
 |succ d b=>exact E3.t S λa e=>by cases e;exact b
abbrev Cmp(P:Px)(op:CmpOp)(f:V->V->W Bool):Prop:=L2 P (qd op) f λb c x=>c=.b b
section
variable{w:V}
theorem ez.j{b:Bool}(q:Q b z.σ)(S:Sat P z):ez P z (λb c x=>c=Ψ b) Q (Ψ b) z.s:=.h q S U
theorem ez.m{b:d}{a:c}(q:Q b z.σ)(S:Sat P z)(r:∀z,R b a z):ez P z R Q a {z.s with toks:=tk}:=.N (z':=⟨z.ρ,z.σ,_⟩) q (S.x tk)<|r _
theorem mC(P:Px){k:Nat}(h:aO k 30=Z):P.A.u+k<qK:=have h:=bl h;pU (zQ 111) U h P.o.3
theorem A6{p:Int->Int->Bool}(f:∀{A:sT} {E:a0->cL->Prop} {s:cL} {a b:Int} {t u:Tok} {Q:a0->cL->Prop},Q (.b<|p a b) s->bf P.C.b A (qd d (.i a t)<|.i b u) Q E s):
  Cmp P d λv w=>vp v λa=>vp w λb=>bE (p a b):=λz Q v w a b S r c e=>by
 apply mP r e;intro i t e
 apply mP c e;intro j u e
 exact f<|.j e S
theorem HK(h:w.c=Z):w=.N:=by rcases w with _|_<;>first|rfl|exact bF h
theorem Q9(r:bB z v a):(a==.n)=v.c:=by
 cases v with
 |u=>exact r.e
 |N=>exact congrArg (·==jC) r
 |o b=>exact congrArg (·==jC) r
 |a=>exact(λp=>p.v λx x e x x=>e▸U) r
 |T=>exact(λp=>p.v λx x e x x=>e▸U) r
 |I i=>exact r.e λx e=>e▸U
 |s i=>exact r.e λx e=>e▸U
 |L i=>exact r.e λx e=>e.1▸U
theorem bJ.aaV(r:bJ z c b)(a:w∈c):∃x∈b,bB z w x:=(bJ.X c b r).e λps h=>by
 rw[<-h.1]at a
 exact(mm a).e λp k=>br p.2 (h.2.1▸p9 k.1)<|k.2▸h.2.2 p k.1
theorem bJ.aaW(r:bJ z c b)(a:y∈b):∃w∈c,bB z w y:=(bJ.X c b r).e λps h=>by
 rw[<-h.2.1]at a
 exact(mm a).e λp k=>br p.1 (h.1▸p9 k.1)<|k.2▸h.2.2 p k.1
theorem HH(S:Sat P z)(r:bB z v a)(L:bB z w b)(e:Kg v w Q z.σ):
  ∃t,Q t z.σ/\∀(Q:a0->cL->Prop) (E:a0->cL->Prop),(Q (.b t) z.s->bf P.C.b P.A (qd .I a b) Q E z.s)/\(Q (.b !t) z.s->bf P.C.b P.A (qd .N a b) Q E z.s):=by
 apply oA S L e;intro n g l items T q R J I N e
 have h:=an e.1
 exact((show∃f:a0->Bool,(∀y∈items.t,EqAt (Fb P.A) z.s y a<|f y)/\(∀w y,w∈g->bB z w y->f y=dX w v)/\items.t.A f=qq v g from by
   classical
   have d:∀w y,w∈g->bB z w y->decide (∃w∈g,bB z w y/\dX w v=Z)=dX w v:=λw y j H=>by
    rw[dM,decide_eq_true_eq]
    exact⟨λc=>eV c λu x k e=>bB.inj S k H▸e,λe=>eI w j H e⟩
   refine eI (λy=>decide<|∃w∈g,bB z w y/\dX w v=Z) (λy i=>(I.aaW i).e λw k=> ?_) d ?_
   .show EqAt (Fb P.A) z.s y a (decide _)
    rw[d w y k.1 k.2]
    exact(Fy S 6 (dw.m h.2 w k.1) h.1 k.2 r<|(mC P U (k:=8))).1
   .rw[dM,s9,qq,s9]
    exact⟨λc=>cz c λy i e=>(of_decide_eq_true e).e λw k=>br w k.1 k.2.2,λc=>cz c λw j e=>(I.aaV j).e λy k=>br y k.1<|decide_eq_true<|eI w j k.2 e⟩)).e λf k=>have p:=λy i=>k.1 y<|vk.M i;have o:=(OX ..).s.t k.2.2
  br _ e.2 λQ E=>⟨λm=>in_listAt f J.i p<|o▸m,λm=>notIn_listAt f J.i p<|o▸m⟩
theorem Sat.y(S:Sat P z)(e:z.ρ k=M l):(l==sW)=D:=beq_false_of_ne λq=>P.C.S.e λo a=>dq (S.2 l ⟨_,e⟩).1<|q▸a
noncomputable abbrev iS(es:Array eB)(ep:Nat):Obj:={cls:=.t "dict",data:=.d es ep}
section
variable{w:yJ}
theorem MD{Q:a0->cL->Prop}(j:(d==sW)=D)(f:s.h.g d=M (iS es i))(c:(es.s:Int)<2^63)
  (g:Q (.i es.s<|s.t+1) {s with toks:=s.t+1+1}):bf (eN b w) A (yS.«len» ⟨[.r d],[]⟩) (λe s'=>∃r,e=.done (.r r)/\Q r s') E s:=by
 have a:MeetsIn b w (yS.«dict.__len__» ⟨[.r d],[]⟩) λx R s=>s.h.g d=M (iS es i)/\R (.ok<|.r<|.i es.s s.t) {s with toks:=s.t+1}:=
  .of_wp λA R s h=>aB (m:=dictSize d)<|aB<|jk h.1 U<|aF<|aB<|wpAny_pendingCount_other j<|GY<|Y (mM _) h.2
 refine aB<|aF<|aB<|dK (br _ f U) vW
  <|Di vW (br _ f U) F.entry_dict_len (F.args_dict_len_1 _) a ⟨f,?_⟩
 refine aB<|bK<|aF<|aB<|Um ?_
 exact Y (if_neg<|uo.M c)<|aB<|Uo<|aF<|br _ U g
theorem K4(k:(d==sW)=D)(h:s.h.g d=M (iS es l))(g:(es.s:Int)<2^63)
  (a:Q ((es.s:Int) !=0) {s with toks:=s.t+1+1}):bf (eN f w) A (Jr<|.r d) Q E s:=by
 have c:bf (eN f w) A (runValue<|.builtin "len" ⟨[.r d],[]⟩) (λr s'=>r=.i es.s (s.t+1)/\Q ((es.s:Int) !=0) s') E s:=by
  refine wpAny_runValue<|codeAny_builtin d!<|Y (Around.under_plainId l! _) ?_
  exact bP (MD k h g ⟨U,a⟩) (λj s' b=>cz b λr i a=>Y i a) λx x e=>e
 first
  |refine aB<|OV (br _ h U) noBool_dict ?_
  |refine aB<|aF<|aB<|OV br _ h rfl noBool_dict ?_
 first
  |refine aB<|gH (br _ h U) vW.l ?_
  |refine aB<|aF<|aB<|gH br _ h rfl vW.lookup ?_
 first
  |exact aB<|bP c (λr s' b=>by obtain⟨rfl,a⟩:=b;exact aF a) λx x e=>e
  |exact aB<|aF<|aB bP c λr s' b=>by obtain⟨rfl,a⟩:=b λx x e=>e
end
theorem txt_length{l:ao}:(txt l).l=l.L:=U
theorem fF.L(r:fF p z a es):es.L=a.L:=by have:=congrArg kh r.1;rwa [aD,aD]at this
theorem ne0(n:Nat):((n:Int) !=0)= !aA n 0:=by
 rcases n with _|n;(rfl);(exact bne_iff_ne.M<|Int.ofNat_ne_zero.M<|Nat.succ_ne_zero n)
theorem Ci{items:Array c}{a:List b}(h:items.s=a.L):(!items.isEmpty)= !aA a.L 0:=by
 refine rR h ?_
 show(!decide (items.s=0))=_
 rcases items.s with _|_<;>rfl
theorem K5:L1 P Jr ZR G9:=λz Q v a S r e=>by
 apply Sg e<;>intro e
 .obtain rfl:=HK e.1;apply x7 r;exact truthy_none<|.h e.2 S U
 apply Sg e<;>intro e
 .exact e.e λb e=>kY ((e.1▸r))▸((pj<|.h e.2 S U))
 apply Sg e<;>intro e
 .apply mP r e;intro i t e;exact PySem.P.truthy_int<|.h e S U
 apply Sg e<;>intro e
 .apply pJ r e;intro l t e
  refine PySem.P.truthy_str (by exact Y txt_length<|uo.M<|iU (dE e.1) U) ?_
  rw[txt_length,ne0]
  exact .m e.2 S λx=>U
 apply Sg e<;>intro e
 .apply BO r e;intro l c m t k e
  exact truthy_tuple t ((Y (show m.T.s=c.L from k.E) (λh=>iU (dE h) U) e.1))<|(Y (Ci k.E)<|.m e.2 S λx=>U)
 apply Sg e<;>intro e
 .apply oA S r e;intro n c l items o q j d g f e
  exact wpAny_truthy_list d.i (f▸iU (dE e.1) U)<|Y (Ci f)<|.m e.2 S λx=>U
 .apply tM S r e;intro n c l es q j d g ok e
  have hz:es.s=c.L:=g.L
  exact K4 (S.y j) d (hz▸iU (dE e.1) U) (by rw[ne0,hz];exact .m e.2 S λx=>U)
end
theorem YS(h:v.d=Z):kZ p v=Bj (fq<|v.e.m<|kZ p):=by
 refine rR ((@V.rec (λv=>(W6 _ v).2=v.e.m (kZ _)) U U (λx=>U) (λx=>U) (λx=>U) U (λv w x c=>congrArg (kZ _ v::·) c) λx=>U) _) ?_
 cases v with
 |a=>exact(U:Bj (fq [])=_)
 |T a b=>exact U
 |_=>exact bF h
theorem Mc{γ:Type}(I:List V->w->cL->Prop)(r:bJ z g t)(q:I g f s)
  (step:∀u g y b s,bB z u y->I (u::g) b s->bf (eN d p) A (body y b) (λst s'=>match st with|.yield c=>I g c s'|.done c=>Q c s') E s) (m:∀b s,I [] b s->Q b s):
  bf (eN d p) A (forIn t f body) Q E s:=by
 refine vU _ (λa b s'=>∃left,bJ z left a/\I left b s') _ ?_ ?_ _ _<|br g r q
 .rintro y a b s' ⟨left,i,h⟩
  cases left with
  |nil=>exact by cases i
  |cons u left=>
   refine zc i λv o e l j=> ?_
   revert l j;refine rR (fK e).1<|rR (fK e).2 ?_;intro l j
   exact bP (step u left y b s' l h) (λst n k=>by cases st with|yield c=>exact br left j k|done c=>exact k) λx x k=>k
 .rintro b s' ⟨left,i,h⟩
  cases left with
  |nil=>exact m b s' h
  |cons u left=>exact i.e λy e=>e.e λo e=>by cases e.1
theorem Eg(ih:∀j,d=j+1->∀(k:V) (x:a0) (A:sT) (s:cL) (Q:Int->cL->Prop),zg k j=Z->s.h=z.h->bB z k x->A.u+j+1<qK->(∀tk,Q (kZ g.p k) {s with toks:=tk})->bf (eN f g) A (pyHash x) Q E s)
  (P:zg k d=Z) (p:s.h=z.h) (r:bB z k x) (S:A.u+d+1<qK) (c:∀tk,Q (kZ g.p k) {s with toks:=tk}):bf (eN f g) A (pyHash x) Q E s:=by
 revert c
 apply Kf P r
 .exact λc=>(aB<|aF<|aB<|gH U p8.l<|Y (if_neg de)<|aB<|gH U p8.l<|aB<|xC U p8<|cV p8 U F.entry_NoneType_hash (GY<|aF<|c _)<|F.args_NoneType_hash_1 _)
 .exact λi t c=>wpAny_pyHash_int<|c<|s.t+1
 .exact λl t c=>(strKind f g).pyHash (Bm f g (txt l) t)<|c<|s.t+1
 intro u a xs hT P zi rr c;obtain⟨o,H,J,n,hd⟩:=zi
 rw[YS hT]at c
 first|refine aB (wpAny_cRoomFor_or (.i<|lR (zQ 51) U S) ?_)|skip
 refine aB<|gH (br o (p▸H) J) sZ.l<|Y (if_neg de)<|aB<|gH (br o (p▸H) J) sZ.l<|aB<|xC (br o (p▸H) J) sZ<|cV sZ (br o (p▸H) J) F.entry_tuple_hash ?_<|F.args_tuple_hash_1 _
 show bf _ _ (xu (.r a)>>=_) _ _ s
 refine aB<|wpAny_tupleItemsOf (p▸H) hd<|aB<|rR Ld<|Mc (γ:=Unit) (λleft b s'=>(∀e∈left,e∈u.e)/\b.t++left.m (kZ g.p)=u.e.m (kZ g.p)/\∃tk,s'={s with toks:=tk}) (kj.k u xs rr) ⟨λw h=>h,U,s.t,U⟩ ?_ ?_
 .rintro e left y b s' X ⟨R,I,tk,rfl⟩
  refine cz (vC u P e<|R e<|.h _) λT C N=>aB<|ih T C e y A.in1 {s with toks:=tk} _ N p X (pU (zQ 52) U S<|zG C) λv=> ?_
  have q:(∀e∈left,e∈u.e)/\(b.push<|kZ g.p e).t++left.m (kZ g.p)=u.e.m (kZ g.p)/\∃tk,{s with toks:=v}={s with toks:=tk}:=⟨λe h=>R e<|.t _ h,by rw[yG,cN];exact I,v,U⟩
  first
   |exact aF q
   |exact aB aF aF q
 .rintro b s' ⟨_,I,tk,rfl⟩
  rw[tY,bQ]at I
  show bf _ _ (retInt<|fq b.t) _ _ _
  refine Y I<|GY ?_
  generalize fq (u.e.m<|kZ g.p)=m at c
  show bf _ _ (if(decide (-2^63<=m)&&decide (m<2^63))=Z then _ else _) Q E _
  delta Bj at c
  split
  .rename_i L;rw[if_pos L]at c;exact aF<|c _
  .rename_i L;rw[if_neg L]at c;exact aB<|jt<|aF<|c _
theorem Me:∀(d:Nat) (k:V) (x:a0) (A:sT) (s:cL) (Q:Int->cL->Prop),zg k d=Z->s.h=z.h->bB z k x->A.u+d+1<qK->(∀tk,Q (kZ f.p k) {s with toks:=tk})->bf (eN b f) A (pyHash x) Q E s:=by
 intro d
 induction d with
 |zero=>exact λk x A s Q=>Eg λy e=>iZ e
 |succ d c=>exact λk x A s Q=>Eg λa e=>by cases e;exact c
theorem IB:∀(m d:Nat) (k:V) (x:a0) (Q:Bool->cL->Prop),d<m->zg k d=Z->bB z k x->Q Z z.s->bf (eN H wd) A (e? m x) Q E z.s:=by
 intro m
 induction m with
 |zero=>exact λd k x Q p=>by cases p
 |succ m R=>
  intro d k x Q p l r b
  apply Kf l r
  .exact Y (Dk _ U) aF b
  .intro i t;exact Y (Dk _ U)<|aF b
  .intro i t;exact Y (Dk _ U)<|aF b
  intro u a P X l N L;obtain⟨o,j,C,n,g⟩:=N
  unfold e?
  refine aB<|gH (br o j C) F.slot_tuple_eq.l<|aB<|vV (br o j C) isSubtype_tuple_tuple ?_
  dsimp only
  refine aB<|yP j g<|aB<|rR Ld<|Mc (γ:=Unit) (λleft r s'=>r.1=aI/\s'=z.s/\∀e∈left,e∈u.e) (kj.k u P L) (kb U U λw h=>h) ?_ ?_
  .rintro e left y r s' J ⟨v,rfl,q⟩
   exact cz (vC u l e<|q e<|.h _) λI f c=>aB<|R I e y _ (ju (zQ 253) U p<|zG f) c J<|aF<|kb U U λe h=>q e<|.t _ h
  .rintro⟨T,S⟩ s' ⟨v,rfl,_⟩
   exact Y v<|aF b
section
variable{es:Array eB}{t:Option Nat}
inductive Fd(A:sT)(s:cL)(d:Addr)(es:Array eB)(ep:Nat)(x:a0)(hv:Int)(t:Option Nat):Prop
 |mk (ho:s.h.g d=M (iS es ep)) (eq:∀y en,es[y]?=M en->EqAt A s en.k x (decide (t=M y))) (at_:∀y,t=M y->∃en,es[y]?=M en/\en.h=hv) (str:∀l u,x=.s l u->∀(y:Nat) (en:eB),es[y]?=M en->(en.k.isStr l=Z↔t=M y)) (same:∀(y:Nat) (en:eB),es[y]?=M en->en.k=x->en.h=hv) (quiet:∀{prog:yW} {wd:yJ} {E:a0->cL->Prop} {Q:Bool->cL->Prop} (k:a0),(k=x\/∃(y:Nat) (en:eB),es[y]?=M en/\en.k=k)->Q Z s->bf (eN prog wd) A (e? 8 k) Q E s)
theorem zh:y∈iV es.s (λi=>es[i]?.m (·.h)) b↔∃a,es[y]?=M a/\a.h=b:=by
 delta iV
 rw[jP,fZ,beq_iff_eq,jw]
 exact⟨λh=>h.2,λh=>⟨h.e λa h=>(qF.m h.1).1,h⟩⟩
theorem Fd.m(F:Fd A s d es b x a t)(h:t=M y):y∈iV es.s (λi=>es[i]?.m (·.h)) a:=zh.M<|F.3 y h
theorem J6(F:Fd A s d es r x g t)(n:Q t s):bf (eN l p) A (adm d x g es (iV es.s (λi=>es[i]?.m (·.h)) g)) Q E s:=by
 refine aB<|vU _ (λa b s'=>s'=s/\b=(aI,())/\(∀i,t=M i->i∈a)/\∀i∈a,∃c,es[i]?=M c/\c.h=g) _ ?_ ?_ _ _<|⟨U,U,((λi e=>F.m e)),(λi h=>zh.m h)⟩
 .rintro y a b s' ⟨rfl,rfl,f,k⟩
  refine cz (k y<|.h _) λc j o=>Y j ?_
  dsimp only
  refine Y (if_pos<|Y o<|beq_self_eq_true _) ?_
  refine aB<|fQ F.1 U<|aB<|F.2 y c j _ _ _ _<|aB<|fQ F.1 U<|Y (if_neg (by exact Y (bne_self_eq_false _) de)) ?_
  by_cases h:t=M y
  .exact Y (decide_eq_true h)<|aB<|jt<|aF<|aF<|h▸n
  .exact Y (decide_eq_false h)<|aB<|jt<|aF<|⟨U,U,((λi e=>(mc<|f i e).r λq=>h<|q▸e)),(λi m=>k i<|.t _ m)⟩
 .rintro b s' ⟨rfl,rfl,f,_⟩
  exact aF<|none_of (λi e=>gJ<|f i e)▸n
theorem Nv(F:Fd A s d es j x g t){stored:List a0}(h:∀k∈stored,∃(y:Nat) (b:eB),es[y]?=M b/\b.k=k){Q:Bool->cL->Prop}(f:Q D s):
  bf (eN e i) A (PD x stored) Q E s:=by
 delta PD
 split
 .exact aF f
 refine aB<|F.6 x (.I U) ?_
 refine aB<|vU _ (λa r s'=>s'=s/\r=(aI,())/\∀v∈a,∃(y:Nat) (b:eB),es[y]?=M b/\b.k=v) _ ?_ ?_ _ _<|kb U U h
 .rintro y a r s' ⟨rfl,rfl,c⟩
  refine aB<|F.6 y (.i<|c y<|.h _) ?_
  exact aF<|kb U U λv g=>c v<|.t _ g
 .rintro r s' ⟨rfl,rfl,_⟩
  exact aF f
set_option backward.match.sparseCases true in
theorem L7(F:Fd A s d es ep x p t)(P:Q t s):bf (eN H wd) A (dictFind d x p) Q E s:=by
 have w:∀k∈(iV es.s (λi=>es[i]?.m (·.h)) p).M λi=>es[i]?.m (·.k),∃(y:Nat) (o:eB),es[y]?=M o/\o.k=k:=λk hk=>(List.mem_filterMap.m hk).e λy h=>(oM h.2).e λo h=>⟨y,o,h⟩
 have nd:(iV es.s (λi=>es[i]?.m (·.h)) p).N:=π _ List.nodup_range
 have C:∀stored:List a0,bf (eN H wd) A (do
   let mut f:=aI
   for i in iV es.s (λi=>es[i]?.m (·.h)) p do
    if let M e:=es[i]? then
     if e.h==p then
      let n<-Nq d (Y4 x)
      let same<-eqBool e.k x
      if(<-Nq d (Y4 x)) !=n then lx "dict.changed-during-lookup"
      if same then
       if f.i then lx "dict.find:order-among-keys-of-one-hash"
       rule "dict.find.hit"
       if stored.L<2 then return M i
       f:=M i
      else
       rule "dict.find.same-hash-other-key"
       if D&& !(0<=p&&p<32)then lx "dict.find:asked-again-or-not-hangs-on-the-table"
   return f) Q E s:=by
  intro stored
  refine aB<|vU _ (λg b s'=>s'=s/\b.1=aI/\g.N/\(∀i,t=M i->i∈g\/b.2=M i)/\(∀i,b.2=M i->t=M i/\i∉g)/\∀i∈g,∃o,es[i]?=M o/\o.h=p) _ ?_ ?_ _ _
   ⟨U,U,nd,λi e=>.I<|F.m e,λi e=>(nS e),λi h=>zh.m h⟩
  .rintro y g ⟨b,f⟩ s' ⟨rfl,hb,r,X,N,h3⟩
   have r:=eX.m r
   refine cz (h3 y<|.h _) λo L hh=> ?_
   refine Y L ?_
   dsimp only
   refine Y (if_pos<|Y hh<|beq_self_eq_true _)<|aB<|fQ F.1 U<|aB<|F.2 y o L _ _ _ _<|aB<|fQ F.1 U<|Y (if_neg (by rw[bne_self_eq_false];exact de)) ?_
   have J:=λi m=>h3 i<|.t _ m
   by_cases h:t=M y
   .have hn:f=aI:=none_of λi e=>(N i e).2<|aV (h.s.t (N i e).1)▸.h _
    rcases hn with rfl
    refine Y (decide_eq_true h)<|aB<|jt ?_
    split
    .exact aF<|aF<|h▸P
    .exact aF ⟨U,U,r.2,λi e=>.i<|h.s.t e,λi e=>⟨h.t e,aV e▸r.1⟩,J⟩
   .refine Y (decide_eq_false h) ?_
    have z:(∀i,t=M i->i∈g\/f=M i)/\∀i,f=M i->t=M i/\i∉g:=⟨λi e=>(X i e).imp_left λm=>(eT.m m).r λq=>h<|e.t<|congrArg M q,λi e=>⟨(N i e).1,λm=>(N i e).2<|.t _ m⟩⟩
    refine aB<|jt ?_
    first
     |exact aF ⟨U,U,r.2,z.1,z.2,J⟩
     |exact aB aF aF ⟨rfl,rfl,r.2,z.1,z.2,J⟩
  .rintro⟨b,f⟩ s' ⟨rfl,hb,_,X,N,_⟩
   rcases hb with rfl
   have:f=t:=by
    rcases ht:t with _|i;(exact none_of λi e=>nS<|ht.s.t (N i e).1);(exact(X i ht).e (λm=>by cases m) id)
   exact aF<|this▸P
 have I:∀{stored:List a0} {c:Prop} [Decidable c],(∀k∈stored,∃(y:Nat) (o:eB),es[y]?=M o/\o.k=k)->bf (eN H wd) A (if c then adm d x p es (iV es.s (λi=>es[i]?.m (·.h)) p)else do
   let v<-if stored==[x]then pure D else PD x stored
   if v&&stored.L>=2 then lx "dict.find:order-among-keys-of-one-hash"
   let mut f:=aI
   for i in iV es.s (λi=>es[i]?.m (·.h)) p do
    if let M e:=es[i]? then
     if e.h==p then
      let n<-Nq d (Y4 x)
      let same<-eqBool e.k x
      if(<-Nq d (Y4 x)) !=n then lx "dict.changed-during-lookup"
      if same then
       if f.i then lx "dict.find:order-among-keys-of-one-hash"
       rule "dict.find.hit"
       if stored.L<2 then return M i
       f:=M i
      else
       rule "dict.find.same-hash-other-key"
       if v&& !(0<=p&&p<32)then lx "dict.find:asked-again-or-not-hangs-on-the-table"
   return f) Q E s:=by
  intro stored c _ w
  split
  .exact J6 F P
  by_cases h:(stored==[x])=Z
  .rw[if_pos h];exact aB<|aF<|C stored
  .rw[if_neg h];exact aB<|Nv F w<|C stored
 refine bK<|aB<|jk F.1 U ?_
 cases x with
 |str l u=>
  dsimp only
  by_cases hs:(es.all λe=>isExactStrKey e.k)=Z
  .rw[if_pos hs];exact by
     delta foundByValue
     cases hf:es.findIdx? λe=>e.k.isStr l with
     |none=>exact aF<|none_of (λi e=>(F.3 i e).e λo h=>by
       have:=Array.findIdx?_eq_none_iff.m hf o<|Array.mem_of_getElem? h.1
       rw[(F.4 l u U i o h.1).M e]at this;exact bT this)▸P
     |some i=>
      obtain⟨T,hi,_⟩:=Array.findIdx?_eq_some_iff_getElem.m hf
      have L:=dI T
      have h:=(F.4 l u U i es[i] L).m hi
      dsimp only
      exact Y L<|aB<|fQ F.1 U<|aB<|F.2 i es[i] L _ _ _ _<|aB<|fQ F.1 U<|Y (if_neg (by rw[bne_self_eq_false];exact de))<|Y (decide_eq_true h)<|aB<|jt<|aF<|h▸P
  .rw[if_neg hs];exact I w
 |ref a=>
  dsimp only
  refine Y (if_neg<|de)<|Y (if_neg<|by
   rw[<-OX,s9]
   rintro⟨o,S,R⟩
   obtain⟨j,hj⟩:=List.getElem?_of_mem S
   have R:=aU.m R
   exact bne_iff_ne.m R.2<|F.5 j o (by refine rR fJ ?_;exact hj)<|bW R.1) ?_
  have:=I (c:=False) w
  exact this
 |_=>first|exact I w|(rfl)
end
def wg(a:au)(k:V):Option Nat:=a.findIdx? λp=>dX p.1 k
theorem El:wg (p::a) k=if dX p.1 k=Z then M 0 else(wg a k).m (·+1):=List.findIdx?_cons
theorem vG(h:wg a k=M j):∃p,a[j]?=M p/\p.1=k:=(List.findIdx?_eq_some_iff_getElem.m h).e λb q=>br _ (aP b)<|vq _ _ q.1
theorem Vt(g:(a.m (·.1)).N)(h:a[j]?=M p)(e:p.1=k):wg a k=M j:=by
 rcases q:wg a k with _|i;(
  have:=rt.m q p<|aJ h
  rw[e,uA]at this;exact bT this);(
  refine cz (vG q) λl f d=> ?_
  have b:(a.m (·.1))[i]?=M k:=by refine Y aN<|Y f ?_;exact congrArg M d
  have c:(a.m (·.1))[j]?=M k:=by refine Y aN<|Y h ?_;exact congrArg M e
  exact congrArg M<|(yU (gL b) g).m<|b.t c.s)
theorem Rg(a:au)(k:V):eK a k=(wg a k).b λj=>a[j]?.m (·.2):=
 a.R U λp a b=>by
  refine Y El ?_
  show(bif dX p.1 k then M p.2 else eK a k)=_
  rcases dX p.1 k with _|_;(
   refine Y b ?_
   rcases wg a k with _|_<;>rfl);(rfl)
theorem HN(a:au)(k w:V):gi a k w=(wg a k).e (a++[(k,w)]) λj=>a.s j (k,w):=
 a.R U λp a c=>by
  refine Y El ?_
  show(bif dX p.1 k then(p.1,w)::a else p::gi a k w)=_
  exact bC (b:=dX p.1 k) λh=>by refine Y h<|Y (vq _ _ h) ?_;rfl λh=>by
   refine Y h ?_
   refine Y c ?_
   rcases wg a k with _|_<;>rfl
theorem pq.P(ok:pq c)(i:pY k 6=Z):pq (gi c k w):=by
 rw[HN]
 rcases h:wg c k with _|j;(
  have o:∀q∈c,q.1≠k:=λq m e=>by have:=rt.m h q m;rw[e,uA]at this;exact bT this
  refine⟨?_,λq m=>(ma m).e (ok.2 q) λm=>m1 m▸i⟩
  exact Y aK<|j2.M ⟨ok.1,eX.M ⟨λm=>(gJ m),mH⟩,λa m b n e=>(mm m).e λq h=>o q h.1<|h.2.t<|e.t<|m1 n⟩);(
  refine cz (vG h) λp g e=> ?_
  have f:=(gL g)
  refine⟨?_,λq m=>(D0 m).e (ok.2 q) λe=>e▸i⟩
  refine Y yV ?_
  have l:(c.m (·.1))[j]'(Y (aD _) f)=k:=by rw[PV,(bw.m g).2];exact e
  have d:=List.set_getElem_self (as:=c.m (·.1)) (by rw[aD];exact f)
  rw[l]at d
  exact Y d ok.1)
section
variable{wd:yJ}
theorem fF.g{es:List eB}{j:Nat}(r:fF p z a es)(e:es[j]?=M c):∃q,a[j]?=M q/\c.h=kZ p q.1/\bB z q.1 c.k/\bB z q.2 c.val:=by
 have i:=r.L▸(gL e)
 have b:=aP i
 have g:=congrArg (·[j]?) r.1
 have f:=r.2.Q (by refine Y aN<|Y b ?_;rfl)
 have d:=r.3.Q (by refine Y aN<|Y b ?_;rfl)
 simp only[aN,e,b,tI,E8]at g f d
 exact ie a[j] b g (f.e λx h=>h.1▸h.2)<|d.e λx h=>h.1▸h.2
theorem fF.i(S:dJ C X z)(r:fF wd.p z b es.t)(ok:pq b)(Q:z.h.g d=M (iS es P))(o:pY k 6=Z)(E:bB z k x)(N:A.u+10<qK):Fd A z.s d es P x (kZ wd.p k) (wg b k):=by
 have a:∀{j:Nat} {c:eB},es[j]?=M c->∃q,b[j]?=M q/\c.h=kZ wd.p q.1/\bB z q.1 c.k/\bB z q.2 c.val:=λe=>r.g<|fJ.t e
 have n:∀{j:Nat} {q:V×V},b[j]?=M q->(q.1=k↔wg b k=M j):=λe=>⟨λq=>Vt ok.1 e q,λh=>(vG h).e λp q=>cK e q.1▸q.2⟩
 refine⟨Q,λj c e=>(a e).e λq h=> ?_,λj e=>(vG e).e λp q=> ?_,λl u e j c i=>(a i).e λq h=> ?_,λj c i e=>(a i).e λq h=>h.2.1.t<|congrArg _<|bB.inj S h.2.2.1<|e▸E,λv L J=> ?_⟩
 .exact Y (dM.M<|decide_eq_true_iff.t<|(n h.1).symm.t gN.symm)<|(Fy S 6 ((λe=>ok.2 _<|aJ e) h.1) o h.2.2.1 E<|bU (zQ 42) U N).1
 .have I:=kM.s.t r.L▸(gL q.1)
  exact(a<|dI I).e λR h=>(br _ (dI I)<|h.2.1.t<|Y (cK h.1 q.1)<|Y q.2 U)
 .rw[<-n h.1]
  have f:=e▸E
  refine⟨λg=> ?_,λe=> ?_⟩
  .have w:=h.2.2.1
   cases o:c.k with
   |str y v=>
    rw[o]at g w
    rcases bW g with rfl
    cases k with
    |s m=>exact f.e λt e=>by obtain rfl:=(lZ e).1;exact rR (lZ e).2<|bB.inj S w .ofStr
    |_=>first|exact nN f.tag U|exact f.elim
   |_=>have g:=o▸g;exact bF g
  .have w:=e▸h.2.2.1
   cases k with
   |s m=>exact f.e λt H=>by revert e f;refine Y (lZ H).1<|rR (lZ H).2 ?_;intro e f;exact w.e λt e=>Y e<|beq_self_eq_true<|txt m
   |_=>first|exact nN f.tag U|exact f.elim
 .rcases L with rfl|⟨j,c,i,rfl⟩
  .exact IB 8 6 k v _ (by decide) o E J
  .exact(a i).e λq h=>IB 8 6 q.1 _ _ (by decide) ((λe=>ok.2 _<|aJ e) h.1) h.2.2.1 J
theorem tj(S:Sat P z)(r:fF wd.p z a es.t)(ok:pq a)(m:z.h.g d=M (iS es u))(l:pY k 6=Z)(i:bB z k x)(g:A.u+10<qK)
  (c:eK a k=aI->∀tk,Q aI {z.s with toks:=tk}) (b:∀v y,eK a k=M v->bB z v y->∀tk,Q (M y) {z.s with toks:=tk}):bf (eN f wd) A (Pq d x) Q E z.s:=by
 refine bK<|aB<|Me 6 k x A z.s _ l U i (bU (zQ 42) U g) λtk=>aB<|L7 (fF.i (S.x tk).1 (r.f (S.x tk).2.l) ok m l (i.n (S.x tk).2) g) ?_
 rw[Rg]at c b
 rcases h:wg a k with _|j;(rw[h]at c;exact aF<|c U _);(
  refine cz (vG h) λp t w=> ?_
  have e:=kM.s.t r.L▸(gL t)
  refine hM (r.g<|fJ.t<|dI e) λq o w w n=> ?_
  rw[h]at b
  refine aB<|jk m U<|Y (dI e) ?_
  exact aF<|b q.2 _ (by rw[fN,o];rfl) n tk)
theorem fF.m{es:List eB}(r:fF p z a es)(h:kZ p k=v)(t:bB z k x)(c:bB z w y):fF p z (gi a k w) ((wg a k).e (es++[⟨v,x,y⟩]) λj=>es.modify j λe=>{e with val:=y}):=by
 rw[HN]
 rcases q:wg a k with _|j;(exact⟨by refine Y aK<|Y aK<|Y r.1<|rR h ?_;rfl,Y aK<|Y aK<|r.2.S<|.K t,
   Y aK<|Y aK<|r.3.S<|.K c⟩);(
  refine cz (vG q) λs o e=> ?_
  have l:=(bw.m o).1
  have n:∀{d:Type} (f:eB->d) (g:eB->eB),(∀e,f (g e)=f e)->(es.modify j g).m f=es.m f:=λf g h=>by
   apply rV
   intro i
   rw[aN,aN,JD]
   rcases es[i]? with _|e;(rfl);(split<;>first|rfl|exact congrArg M<|h e)
  have m:∀{d:Type} (f:V×V->d),f (k,w)=f s->(a.s j (k,w)).m f=a.m f:=λf h=>by
   apply rV
   intro i
   refine Y aN<|Y aN<|Y O9 ?_
   by_cases b:j=i
   .exact rR b<|Y (if_pos U)<|Y (if_pos l)<|Y o<|congrArg M h
   .exact Y (if_neg b) U
  refine⟨?_,?_,?_⟩
  .exact Y (n (·.h) (λe=>{e with val:=y}) λu=>U)<|Y (m _ (by exact Y e U))<|Y r.1 U
  .exact Y (n (·.k) (λe=>{e with val:=y}) λu=>U)<|Y (m _ e.s) r.2
  .have:(es.modify j λe=>{e with val:=y}).m (·.val)=(es.m (·.val)).s j y:=by
    apply rV
    intro i
    rw[aN,JD,O9,aN,aD]
    by_cases b:j=i
    .refine rR b<|Y (aP<|r.L▸l)<|Y (if_pos U)<|Y (if_pos<|r.L▸l) ?_
     show M (ite _ _ _:eB).val=_
     exact Y (if_pos U) U
    .rw[if_neg b]
     rcases es[i]? with _|e;(rfl);(show M (ite _ _ _:eB).val=_;refine Y (if_neg b) ?_;rfl)
   exact Y this<|Y yV<|r.3.set j c)
theorem BX(S:Sat P z)(r:fF wd.p z a es.t)(ok:pq a)(c:z.h.g d=M (iS es es.s))(n:pY k 6=Z)(g:bB z k x)(o:bB z w y)(hz:fits a.L=Z)(m:A.u+10<qK)
  (l:∀f b tk,f.g d=M (iS b b.s)->gE d z.h f->fF wd.p z (gi a k w) b.t->Q () {z.s with heap:=f,toks:=tk}):bf (eN i wd) A (Yv d x y) Q E z.s:=by
 have hsz:es.s=a.L:=r.L
 refine bK<|aB<|Me 6 k x A z.s _ n U g (bU (zQ 42) U m) λtk=> ?_
 refine bK<|aB<|L7 (fF.i (S.x tk).1 (r.f (S.x tk).2.l) ok c n (g.n (S.x tk).2) m) ?_
 have R:=r.m U g o
 rcases h:wg a k with _|j;(
  have R:=h▸R
  refine aB<|jt<|wpAny_updateDictKeys (hz:=by refine Y hsz<|Y nZ ?_;have:=dE hz;exact bZ (zQ 31) U this) c U<|l _ (es.push ⟨kZ wd.p k,x,y⟩) tk ?_ (eG ..) (by rw[yG];exact R)
  exact(eR (Obj.mapDictKeys (·.push ⟨kZ wd.p k,x,y⟩)) c U).t (by rw[Array.size_push];rfl));(
  rw[h]at R
  exact aB (jt (aB (wpAny_updateDict c U (wpAny_point (l _ (es.modify j λe=>{e with val:=y}) tk ((eR (Obj.mapDict (·.modify j λe=>{e with val:=y})) c U).t (by rw[MY];rfl)) (eG ..) (by rw[Array.toList_modify];exact R)))))))
end
def Sb(P:Px)(f:V->V->W V):Prop:=∀z Q o i x y,Sat P z->bB z o x->bB z i y->f o i Q z.σ->(∃T id,z.s.T x T/\Jt (.t T) "__getitem__"=pure (M<|.B id))/\bf P.C.b P.A (t9 x y) (ez P z Rep Q) cQ z.s
def Ξ(P:Px)(f:V->V->V->W Unit):Prop:=∀z Q v k w a c b,Sat P z->bB z v a->bB z k c->bB z w b->f v k w Q z.σ->bf P.C.b P.A (setItem a c b) (ez P z TT Q) cQ z.s
theorem Sb.k(p:Sb P f)(q:Sb P g):Sb P λo i=>lW (f o i) (g o i):=λz Q o i x y S r a e=>Av e (p z Q o i x y S r a)<|q z Q o i x y S r a
theorem Ξ.k(p:Ξ P f)(q:Ξ P g):Ξ P λo i w=>lW (f o i w) (g o i w):=λz Q v k w a c b S r h d e=>Av e (p z Q v k w a c b S r h d)<|q z Q v k w a c b S r h d
theorem WE.sub(x:WE P b m)(y:WE P a p)(u:Sb P f)(n:∀o i,Uk a D o i=operate [o,i] (t9 o i)):WE P (.S b a l) (bD m λv=>bD p λw=>f v w):=
 λz Q S e=>Ji<|dR (x z _ S e) λz₁ v o q S G r=>dR (y z₁ _ S q) λc w i q S g k=>ir (u c Q v w o i S (r.n g) k q) λd u=>Fw d λT id j h=>Dp j h (t7 (G.n g) u)<|n o i
theorem Ky{l:List g}{k:Int}{v:g}(h:Ol l k=M v):∃j,l[j]?=M v/\ES k l.L=M j/\(0<=k/\k=j\/k<0/\ -l.L<=k/\(k+l.L).t=j):=by
 refine cz (Option.bind_eq_some_iff.m h) λj a f=>br j f ?_
 rcases k with i|i;(
  have a:(bif bg i l.L then M i else aI)=M j:=a
  exact bC (b:=bg i l.L) (λc=>by have a:=c▸a;cases a;exact⟨yv U<|gL f,.I ⟨dW _,U⟩⟩) λc=>(nS<|c▸a));(
  have a:(bif bg i l.L then M (l.L - (i+1))else aI)=M j:=a
  exact bC (b:=bg i l.L) (λc=>by
   have a:=c▸a
   have d:=bt c
   have e:dH i+l.L=(l.L - (i+1):Nat):=Int.subNatNat_of_le d
   cases a
   exact⟨(MeetsSeq.seqIndex_neg (M1 i)<|Y e<|dW _).t<|congrArg M<|congrArg acz e,.i ⟨by exact M1 i,qW<|kU.M d,congrArg acz e⟩⟩) λc=>(nS<|c▸a))
theorem Ti:Sb P λo i=>CH o λw vs=>vp i (VL vs):=λz Q o i x y S r A e=>by
 apply oA S r e;intro n H l items E q C c v p e
 refine⟨we "list" _ (br _ c U) yH.l,?_⟩
 apply mP A e;intro k t e
 refine cz e.2 λu s m=>eV (Ky s) λj b w h=>cz (v.qn b) λy g f=> ?_
 have hz:=dE e.1
 rcases h with⟨a,h⟩|⟨a,d,h⟩
 .exact wpAny_getItem_list c.i a (by have:=(gL b);exact Y h<|iU (aC (eD<|gL b) hz) U) (Y h g)<|.h m S f
 .exact wpAny_getItem_list_neg c.i a (Y (congrArg (λn:Nat=> -(n:Int)) p) d) (fy (qW<|um<|iU hz U) d) (Y p<|Y h g)<|.h m S f
theorem MO:Sb P λo i=>Po o λvs=>vp i (VL vs):=λz Q o i x y S r v e=>by
 apply BO r e;intro l s q d c e
 refine⟨we "tuple" _ d.typeIs xw.l,?_⟩
 apply mP v e;intro k t e
 refine cz e.2 λu p n=>eV (Ky p) λj b m h=>cz (c.Q b) λy g f=> ?_
 have hz:=dE e.1
 have a:=(gL b)
 exact E? d (h.e (λh=>fy (by decide) h.1) λh=>fy (qW<|um<|iU hz U) h.2.1) (h.e (λh=>Y h.2<|iU (aC (eD a) hz) U) λh=>μ h.1 (by decide)) (Y (show q.T.s=s.L from c.E) m) (by refine Y jY ?_;exact g)<|.h n S f
theorem We:Sb P λo i=>Dh o λl=>vp i λk=>eh (fits l.L) (uF (Ol l k) λc=>bE<|.s [c]):=λz Q o i x y S r m e=>by
 apply pJ r e;intro l t e
 refine⟨we "str" _ (sX _ _ _) TV.l,?_⟩
 apply mP m e;intro k u e
 obtain⟨c,g,f⟩:=e.2
 refine eV (Ky g) λj b d h=> ?_
 have hz:=dE e.1
 have a:=(gL b)
 refine PySem.P.getItem_str (by simp only[bp,decide_eq_false_iff_not];exact⟨qX.M<|h.e (λh=>fy (by decide) h.1) λh=>fy (qW<|um<|iU hz U) h.2.1,uo.M<|h.e (λh=>Y h.2<|iU (aC (eD a) hz) U) λh=>μ h.1 (by decide)⟩) ?_<|.t _ f S .ofStr
 rw[txt_length,d,fN]
 refine Y jY ?_;exact b
theorem IM:Sb P WX:=λz Q o i x y S r j e=>by
 apply tM S r e;intro n t l es q p c g ok e
 have a:z.s.T (.r l) "dict":=br _ c U
 refine⟨we "dict" _ a kJ.l,cz e.2 λu b f=> ?_⟩
 refine bK<|aB<|pg a (by decide)<|aB<|dK a kJ<|cV kJ a W0 ?_<|Yd _ _
 exact aB (m:=Pq l y)<|tj S g ok c e.1 j (mC P U (k:=11)) (λh=>nS<|h.s.t b) λv y h d tk=>aF<|br y U<|aF<|.t tk f S<|sJ (b.s.t h)▸d
theorem Hw:Sb P dj:=Ti.k<|IM.k<|We.k MO
theorem Eh(S:Sat P z)(r:bB z v a)(j:bB z w b)(e:Yx v w Q z.σ):∃t,Q t z.σ/\∀(Q:Bool->cL->Prop) (E:a0->cL->Prop),(∀tk,Q t {z.s with toks:=tk})->bf P.C.b P.A (contains b a) Q E z.s:=by
 apply tM S j e;intro n p l es q i f g ok e
 refine br _ e.2 λQ E d=> ?_
 have c:z.s.T (.r l) "dict":=br _ f U
 refine bK<|aB<|gH c Bl.l ?_
 refine Y (if_neg de)<|aB<|wpAny_callSpecialUnlessNone?_slot c Bl<|cV Bl c entry_dict_contains ?_<|args_dict_contains _ _
 refine aB (m:=Pq l a)<|tj S g ok f e.1 r (mC P U (k:=11)) (λh tk=> ?_) λv y h o tk=> ?_
 .exact aB<|wpAny_pendingKey_other (S.y i)<|aF<|br _ U<|pj (by have:=d tk;rwa [h]at this)
 .exact aF<|br _ U<|pj (by have:=d tk;rwa [h]at this)
set_option maxRecDepth 4000 in
theorem II{j:Nat}{k:Int}{v:a0}(c:k=j)(b:IsL s.h l items h)(f:j<items.s)(hz:items.s<=1000)
  (e:Q () {s with heap:=s.h.update l (Pd (·.S j v))}):bf (eN d g) A (setItem (.r l) (.i k t) v) Q E s:=by
 have a:s.T (.r l) "list":=⟨_,b,U⟩
 refine bK<|aB<|pg a (by decide)<|aB<|dK a ZK
  <|cV ZK a entry_list_setitem ?_<|args_list_setitem _ _ _
 show bf _ _ (t! (.i k t)>>=_) _ _ s
 refine aB<|wpAny_listSubscript_int (fitsIndex_of (Y c<|dW _)<|Y c<|iU (aC (eD f) hz) U) ?_
 subst c
 refine aB<|aB<|wpAny_seqItemAt b U<|aF ?_
 rw[dI f]
 exact aB<|wpAny_setSeqItemAt b U (by first|exact aB aF aF ⟨.none,rfl,aF e⟩|exact aF ⟨.n,U,aF e⟩)
theorem set_list:Ξ P λo i w=>CH o λm vs=>Ye i λk=>eh (bg k vs.L&&fits vs.L) (Gq m (.l<|vs.s k w) ()):=λz Q v k w a c b S r y d e=>by
 apply oA S r e;intro n C l items A q s p x g e
 apply He y e;intro j i t u e
 have h:=an e.1
 have f:=eR (Pd (·.S j b)) p U
 exact II u p (g▸bt h.1) (g▸dE h.2)<|.N (z':=z.o _ _ _) e.2 (dJ.q S q s (eG ..) ⟨_,f⟩ (λL=>⟨l,items.S j b,_,s,f,(Y Array.toList_setIfInBounds<|(x.set j d).J L)⟩) U) trivial
theorem Sat.J(S:Sat P z)(q:z.σ.h n=M (.d a))(e:z.ρ (n,D)=M l)(ok:pq a)(g:pY k 6=Z)(d:c.g l=M (iS b b.s))(f:gE l z.h c)(r:fF P.C.w.p z (gi a k w) b.t):
  Sat P (z.o (AN n (.d<|gi a k w) z.σ) c tk)/\Grows P z (z.o (AN n (.d<|gi a k w) z.σ) c tk):=
 dJ.q S q e f ⟨_,d⟩ (λL=>⟨l,b,e,d,r.f L,ok.P g⟩) U
theorem IJ:Ξ P cM:=set_list.k λz Q v k w a c b S r s f e=>by
 apply tM S r e;intro n u l es q p d o ok e
 have h:=an e.1
 refine bK<|aB<|pg (br _ d U) (by decide)<|aB<|dK (br _ d U) ZJ<|cV ZJ (br _ d U) entry_dict_setitem ?_<|args_dict_setitem _ _ _
 exact aB<|xF (br _ d U)<|aB (m:=Yv l c b)<|BX S o ok d h.1 s f h.2 (mC P U (k:=11)) λt j tk i g R=>aF<|br .n U<|aF<|.N (z':=z.o _ _ _) e.2 (S.J q p ok h.1 i g R) trivial
set_option backward.match.sparseCases true in
theorem Hx(S:Sat P z)(r:fF p.p z a es.t)(ok:pq a)(o:z.h.g d=M (iS es es.s))(n:(d==sW)=D)(m:pY k 6=Z)(l:bB z k y)(j:A.u+10<qK)(i:bB z w b)
  (e:∀u tk,bB z ((eK a k).g w) u->g (.done<|.r u) {z.s with toks:=tk}):bf (eN c p) A (do
   if let M v<-Pq d y then return<-Pj v
   match<-t? d y with
   |some v=>Pj v
   |none=>Pj b) g E z.s:=
 aB<|tj S r ok o m l j (λh tk=>aB<|Xv n<|aF<|e _ _<|Y h i) λv y h f tk=>aF<|e _ _<|Y h f
theorem QF:Lm P "dict.get" λv vs=>wa vs λk=>zb .N v k:=λz Q v vs a m S r j e=>by
 apply pA j e;intro k y i e
 apply tM S r e;intro n g l es q f c d ok e
 exact Di DW (br _ c U) Wt (F.args_dict_get_2 _ _) (PX (S:=λb R s'=>s'=z.s/\b.in1.u+10<qK/\∀u tk,bB z ((eK g k).g .N) u->R (.ok<|.r u) {z.s with toks:=tk})
  λb R s' h=>(Y h.1<|Hx S d ok c (S.y f) e.1 i h.2.1 .pG λu tk r=>br u U<|h.2.2 u tk r)) ⟨U,mC P U (k:=11),λu tk r=>.t tk e.2 S r⟩
theorem QG:Lm P "dict.get" λv vs=>Nf vs λk w=>zb w v k:=λz Q v vs a p S r o e=>by
 apply JO o e;intro k w y m j i e
 apply tM S r e;intro n g l es q f c d ok e
 exact Di DW (br _ c U) Wt (F.args_dict_get_3 _ _ _) (PX (S:=λb R s'=>s'=z.s/\b.in1.u+10<qK/\∀u tk,bB z ((eK g k).g w) u->R (.ok<|.r u) {z.s with toks:=tk})
  λb R s' h=>(Y h.1<|Hx S d ok c (S.y f) e.1 j h.2.1 i λu tk r=>br u U<|h.2.2 u tk r)) ⟨U,mC P U (k:=11),λu tk r=>.t tk e.2 S r⟩
abbrev Lf(P:Px)(id:String)(f:List V->W V):Prop:=Ls P (λxs=>call (.B id) xs) f Rep
abbrev Lt(P:Px)(T:String)(f:List V->W V):Prop:=Ls P (λxs=>call (.t T) xs) f Rep
abbrev Bo(P:Px)(t:a0->a0->Sem a0)(f:V->V->W V):Prop:=L2 P t f Rep
theorem Fj{p:Int->Int->Int}(f:∀{A:sT} {E:a0->cL->Prop} {s:cL} {a b:Int} {d u:Tok} {Q:a0->cL->Prop},Q (.i (p a b) s.t) {s with toks:=s.t+1}->bf P.C.b A (t (.i a d)<|.i b u) Q E s):
  Bo P t λv w=>vp v λi=>vp w λj=>bE (.I<|p i j):=λz Q v w a b S r c e=>by
 apply mP r e;intro i t e
 apply mP c e;intro j u e
 exact f<|.t _ e S .y
theorem IX{n:Nat}(h:(fits n&&fits m)=Z):n+m<=mF:=by
 have h:=an h
 exact Y nZ<|aC (cJ (dE h.1)<|dE h.2) (by decide)
theorem Yn:Bo P (yK .Add) ej:=L2.k (Fj λh=>PySem.P.add_int h)<|L2.k (λz Q v w a b S r j e=>by
 apply pJ r e;intro l t e
 apply pJ j e;intro m u e
 exact D! (λI tk=>Y (show txt l++txt m=txt (l++m)from congrArg Pk<|Lk ..)<|.t _ e.2 S .ofStr)<|IX e.1) λz Q v w a b S r j e=>by
 apply oA S r e;intro n H l items A q E k y x e
 apply oA S j e;intro n' s p c i C o d g f e
 exact concat_meets (br _ k U) (br _ d U) noFill_list_add seq_list_add PySem.F.slot_list_add PySem.F.entry_list_add (PySem.F.args_list_add_2 _ _) (list_addW l p items c A i aI aI #[] #[]<|Y x<|Y f<|IX e.1)<|kb k d<|.L S e.2<|Y pV<|y.S g
theorem UR:Bo P (yK .FloorDiv) B7:=λz Q v w a b S r d e=>by
 apply mP r e;intro i t e
 apply mP d e;intro j u e
 have h:=an e.1
 have c:=bl h.2
 exact floordiv_int (of_decide_eq_true h.1) (.t _ e.2 S .y)<|.I<|PyProof.noPylong_small<|bI c (by decide)
theorem IC:∀k,AO k ([]:List b)=[]:=λk=>k.r U λk a=>a
theorem Hr(items:Array f):∀(k:Nat) (a:Array f),((aQ k items).f (λe d=>e++d) a).t=a.t++AO k items.t
 :=λc=>c.r (λa=>(bQ _).s) λk b a=>(b<|a++items).t (by rw[pV,cN];rfl)
theorem bJ.rep(r:bJ z c b):∀k,bJ z (AO k c) (AO k b):=λk=>k.r .nil λk a=>r.S a
theorem FQ{w:yJ}{k:Nat}{x:Int}
  (a:s.h.g l=M {cls:=.t "list",dict:=aI,data:=.s items k,slots:= #[]})
  (c: -2^63<=x) (b:x<2^63) (hsz:items.s*x.t<=2^24)
  (h:Q (.r s.h.o.s) {s with heap:=s.h.p {cls:=.t "list",data:=.s<|List.foldl (λf e=>f++e) #[]<|aQ (if items.isEmpty=Z then 0 else x.t) items}}):
  bf (eN d w) A (yK .Mult (.r l)<|.i x u) Q E s:=
 wpAny_binaryOp_repeat_ref (by decide) ⟨_,a,U⟩ (λs'=>Js s' x u) noFill_list_mul F.fills_int_mul XI repeat_list F.slot_int_index.l
  <|sU XI (Js s x u) F.entry_int_rmul (F.args_int_rmul_2 _ _) (int___rmul___int_list x u l items k)
   <|⟨a,U,(⟨_,a,U⟩),((sU F.slot_list_mul ⟨_,a,U⟩ F.entry_list_mul (F.args_list_mul_2 _ _)
    (AutoListH.list___mul___list_int_3 l items k x u (by simp[oj];exact⟨c,b⟩) (ko.M<|aC hsz (by decide)) (by simp[u?,mF];exact aC hsz (by decide)))
    ⟨a,h⟩))⟩
theorem US:Bo P (yK .Mult) jq:=L2.k (λz Q v w a b S r d e=>by
 apply mP r e;intro i t e
 apply mP d e;intro j u e
 have q:=d6 e.1
 exact mul_int (.t _ e.2 S .y) (.of_left (by
  delta abM
  split
  .exact cO _
  .rename_i p
   have:i.N.log2<20:=(Nat.log2_lt (by simpa using p)).M (by exact bI q (by decide))
   exact bZ (zQ 257) U this))) (L2.k (λz Q v w a b S r d e=>by
 apply pJ r e;intro l t e
 apply He d e;intro k i u c e
 have h:=aU.m e.1
 have f:=dE h.1
 exact SB.mul (mulOk_of 1000 1000 (dE h.2) (by exact Y c<|kU.M f) (by exact Y c<|fy (by decide)<|dW _) (by decide) (by decide)) λA tk=>((show Txt.mul (txt l) i=txt (AO k l)from by
   refine Y c ?_
   delta Txt.mul
   by_cases h:(k:Int)<1
   .rw[if_pos h,Nat.lt_one_iff.m<|dG.m h];rfl
   .rw[if_neg h]
    by_cases q:((k:Int)==1||(txt l).l==0)=Z
    .rw[if_pos q]
     exact(dZ.m q).e (λq=>Y (XM.m (bW q):k=1)<|congrArg txt (bQ l).s) λq=>Y (GP.m (bW q):l=[])<|Y (IC k) U
    .rw[if_neg q,eC]
     exact congrArg Pk<|Array.toList_inj.m<|Hr l.T k #[])).s▸.t _ e.2 S .ofStr) λz Q v w a b S r d e=>by
 apply oA S r e;intro n y l items x q s o m g e
 apply He d e;intro k i u c e
 have h:=aU.m e.1
 have f:=dE h.1
 refine FQ o (by exact Y c<|fy (by decide)<|dW _) (by exact Y c<|iU f U) (by rw[g,c,eC];exact aC (mN (dE h.2) f) (by decide))<|.L S e.2 ?_
 rw[Hr,c,eC]
 have:AO (if items.isEmpty=Z then 0 else k) items.t=AO k items.t:=by
  split
  .rename_i q;rw[congrArg GN (Array.isEmpty_iff.m q)];exact(IC k).s
  .rfl
 exact Y this<|m.rep k)
theorem Rw{n:Nat}(e:N8 n Q z.σ)(S:Sat P z)(h:m=n):ez P z Rep Q (.i m t) {z.s with toks:=tk}:=h▸.t _ e.2 S .y
theorem RA:Lf P "len" Y8:=λz Q vs g S h e=>by
 apply pA h e;intro w y r e
 apply Sg e<;>intro e
 .apply pJ r e;intro l t e
  exact PySem.P.len_str (by have:=dE e.1;refine Y txt_length ?_;exact uo.M<|iU (dE e.1) U)<|Rw e S U
 apply Sg e<;>intro e
 .apply BO r e;intro l b g t a e
  exact G! t (by have:=dE e.1;refine Y (show g.T.s=b.L from a.E) ?_;exact iU (dE e.1) U)<|Rw e S a.E
 apply Sg e<;>intro e
 .apply oA S r e;intro n b l items i q f c a d e
  exact call_len_list c.i (by have:=dE e.1;exact Y (congrArg Nat.cast d)<|iU (dE e.1) U)<|Rw e S d
 .apply tM S r e;intro n b l es q f c a ok e
  have hz:es.s=b.L:=a.L
  exact Dr kind_len l! d! (args_len1 _)<|MD ((S.y f)) c ((hz▸iU (dE e.1) U))<|(Rw e S hz)
theorem Kk{G:a0->Prop}(S:Sat P z)(r:bB z v a)(e:pC v Q z.σ)(k:∀b l items,bJ z b items.t->items.s=b.L->b.L<=1000->(∃d,IsL z.h l items d)\/tW z.h l items/\V.t b=v->Q b z.σ->G (.r l)):G a:=by
 apply Sg e<;>intro e
 .refine Tx r e.1 λl j t c=> ?_
  have i:=by
   have q:rH z (kj z v) a:=by cases v with|a=>exact r|T=>exact r|_=>exact bF e.1
   exact q.v λx x x x h=>kj.l v _ h
  exact k v.e l j.T c c.E (dE e.2.1) (.i ⟨t,i⟩) e.2.2
 .apply oA S r e;intro n b l items d q m g c f e
  exact k b l items c f (dE e.1) (.I ⟨d,g⟩) e.2
theorem La:Lt P "tuple" z5:=λz Q vs p S i e=>by
 apply pA i e;intro w y r e
 refine Kk (G:=λy=>bB z w y->bf P.C.b P.A (call (.t "tuple") [y]) (ez P z Rep Q) cQ z.s) S r e (λn l items h g hz k e=> ?_) r
 rcases k with⟨m,f⟩|⟨d,c⟩
 .exact λx=>call_tuple_list f.i (λj a=>.K U U (λb o e=>bu _<|a b o e) e S λG=>bB.tup (h.mono G) ⟨_,bG _ U,U,0,U⟩)<|vI<|g▸hz
 .exact λr=>call_tuple_tup d<|.h e S<|c▸r
theorem ez.E(S:Sat P z)(e:iB (.l g) Q z.σ)(r:bJ z g items.t)(k:∀b o,z.h.g b=M o->a.g b=M o)(f:z.h.g l=aI)(d:IsL a l items c):ez P z Rep Q (.r l) (Sh z.s a tk):=
 .w S e k f λz' n e L q=>⟨_,items,c,q,by delta Zt.h;exact Y e d,r.J L⟩
theorem Oa:Lt P "list" Eo:=λz Q vs x S q e=>by
 apply pA q e;intro w y r e
 apply Kk S r e;intro v l items p n hz k e
 have a:∀{T:String} {o:Obj} {c:Nat},T="list"\/T="tuple"->z.h.g l=M o->o.c=.t T->o.d=.s items c->bf P.C.b P.A (call (.t "list") [.r l]) (ez P z Rep Q) cQ z.s:=λm f d b=>
  call_list_seq (hsz:=vI<|n▸hz) l m f d b λu c' j i=>.E S e p j (fg _) i
 rcases k with⟨t,g⟩|⟨⟨o,f,d,c,b⟩,_⟩
 .exact a (.I U) g U U
 .exact a (.i U) f d b
theorem RH(d:P.X.C=Z):Lf P "min" Oe:=λz Q vs g S c e=>by
 apply JO c e;intro v w x y r b e
 apply mP r e;intro i t e
 apply mP b e;intro j u e
 refine min_two_ints (P.o.1 d) λf tk a=>.K U U a e S λG=> ?_
 split
 .rename_i h;rw[decide_eq_true h];exact .y
 .rename_i h;rw[decide_eq_false h];exact .y
theorem OR(c:Nat)(l:ao):(!(abN (txt l) (txt [c]) 0 (txt l).l 1).i)=Cw c l:=by
 rw[show txt [c]=⟨#[c]⟩from U,Γ,dM,(show Cw c l=Z↔c∈l from s9.t ⟨λa=>cz a λd h e=>(beq_iff d c).m e▸h,λh=>br c h<|bR c⟩)]
 simp[txt]
 exact decide_eq_true_iff
theorem Vm{G:a0->a0->Prop}(r:bB z v a)(f:bB z w b)(e:Q5 v w Q z.σ)(k:∀c l t u,Q (Cw c l) z.σ->G (.s (txt [c]) t) (.s (txt l) u)):G a b:=by
 apply pJ r e;intro m t e
 obtain⟨c,d,e⟩:=e
 refine Y d ?_
 apply pJ f e;intro l u e
 exact k c l t u e
theorem C9{l:ao}:DQ vs (txt l)=qq (.s l) vs:=by
 refine congrArg vs.A<|funext λv=> ?_
 cases v with
 |s m=>exact dM.M<|decide_eq_true_iff.t ⟨λh=>fS.M<|congrArg (λs=>s.c.t) h,λh=>congrArg txt<|fS.m h⟩
 |_=>rfl
theorem IK:Lt P "set" Bk:=λz Q vs d S c e=>by
 apply Qm c e;intro e
 exact call_set_0 λb=>.w S e (dB _ _) (fg _) λz' n e L q=>
  ⟨_,q,⟨_,#[],0,_,by delta Zt.h;exact Y e<|bG _ U,kb U U U,U,λe a=>absurd a gJ,λk=>⟨bF,λh=>h.e λ_ h=>absurd h.1 gJ⟩,by decide,by rfl,U⟩,λv h=>by cases h⟩
theorem OE:Lm P "set.add" ER:=λz Q v vs a x S r u e=>by
 apply pA u e;intro w y s e
 apply pJ s e;intro l t e
 apply My S r e;intro n c d q i p st e
 refine call_set_add (Bm _ _ _ _) U p (bZ (zQ 227) U<|dE e.1) λo m g=> ?_
 obtain⟨o',_,_,_,j,_⟩:=id g
 refine .N (z':=z.o (AN n (.s<|bif qq (.s l) c then c else c++[V.s l]) z.σ) o _) e.2 (dJ.q S q i m ⟨o',j⟩ (λL=>⟨d,i,?_,λv f=> ?_⟩) U) .pG
 .refine Y (show DQ (bif qq (.s l) c then c else c++[.s l])=λk=>DQ c k||decide (k=txt l)from by
    funext k
    rcases q:qq (.s l) c with _|_;(
     rw[cond_false,DQ,List.any_append]
     exact congrArg (DQ c k||·)<|(ef _).t<|decide_eq_decide.M eq_comm);(
     rw[cond_true]
     by_cases e:k=txt l
     .refine Y e<|Y C9<|Y q ?_;rfl
     .rw[decide_eq_false e,ef])) ?_
  have:(bif qq (.s l) c then c else c++[V.s l]).L=if DQ c (txt l)=Z then c.L else c.L+1:=by
   refine Y C9 ?_
   rcases qq (.s l) c with _|_;(exact aL);(rfl)
  exact Y this g
 .exact bC (b:=qq (.s l) c) (λh=>by rw[h]at f;exact st v f) λh=>by rw[h]at f;exact(bV.m f).e (st v) λf=>⟨l,aX.m f⟩
theorem Mh{G:a0->a0->Prop}(S:Sat P z)(r:bB z v a)(g:bB z w b)(e:Kh v w Q z.σ)(k:∀l t d c,z.h.SetOf (strKind P.C.p P.C.w) d (DQ c) c.L->Q (DQ c<|txt l) z.σ->G (.s (txt l) t) (.r d)):G a b:=by
 apply pJ r e;intro l t e
 apply My S g e;intro n c d q i f st e
 exact k l t d c f<|C9▸e
theorem N9:Lf P "len" Rz:=λz Q vs l S h e=>by
 apply pA h e;intro w y r e
 apply My S r e;intro n k d q j g st e
 obtain⟨o,es,i,t,f,b,c,_,_,_,a,hsz⟩:=g
 exact call_len_set f b c a (hsz▸iU (dE e.1) U)<|Rw e S hsz
theorem vj:∀{ls:List (List Nat)},strsOf a=M ls->a=ls.m .s:=by
 induction a with
 |nil=>exact λe=>sJ e▸U
 |cons v a b=>
 intro ls e
 cases v with
 |s l=>exact(oM e).e λm q=>q.2▸congrArg (V.s l::·) (b q.1)
 |_=>exact nS e
theorem Dc{ls:List (List Nat)}:∀{a:List a0},bJ z (ls.m .s) a->∃l:List (Str×Tok),a=zW l/\l.m (·.1)=ls.m txt:=by
 induction ls with
 |nil=>exact λ{a} r=>kY r▸((br [] U U))
 |cons l ls c=>exact λ{a} r=>BS (Gs:=λa=>∃q:List (Str×Tok),a=zW q/\q.m (·.1)=txt l::ls.m txt) r λy d b r=>b.e λt e=>(c r).e λq h=>br ((txt l,t)::q) (by refine Y e<|Y h.1 ?_;rfl)<|congrArg _ h.2
theorem jB(a b:ao):txt a++txt b=txt (a++b):=congrArg Pk<|Lk ..
theorem ND(a:ao)(ls:List (List Nat)):vl (txt a) (ls.m txt)=txt (tn a ls):=by
 rw[StrLaws.glued_eq_join]
 induction ls with
 |nil=>rfl
 |cons x r b=>
  cases r with
  |nil=>rfl
  |cons y r=>
   show txt x++txt a++Str.join (txt a) ((y::r).m txt)=txt (x++a++tn a (y::r))
   rw[b,jB,jB]
theorem QY(m b:Nat):∀(l:List Str) (c:Nat),(∀x∈l,x.l<=b)->m<=b->l.f (λa p=>a+p.l+m) c<=c+l.L*(2*b)
 :=λg=>g.R λc x x=>by simp λx l f c h d=>by
  rw[cq,A!]
  exact Xy (zQ 228) U d (f (c+x.l+m) (λy e=>h y<|.t _ e) d)<|h x<|.h _
theorem NS:Lm P "str.join" joinM:=λz Q v vs a xs S r rs e=>by
 apply pA rs e;intro w x rx e
 apply pJ r e;intro b t e
 apply Kk S rx e;intro us N items L hn hz k e
 obtain⟨ls,J,j,e⟩:=e
 revert L k;refine Y (vj J) ?_;intro L k
 refine cz (Dc L) λl el I=> ?_
 have j:=an j
 have h:=dw.m j.2
 have H:=by have:=congrArg kh I;rwa [aD,aD]at this
 have pY:Dq ((l.m (·.1)).T.foldl (·+·.l+(txt b).l) 0)=D:=by
  delta Dq
  rw[nZ,List.foldl_toArray]
  have h1:=QY (txt b).l 1000 (l.m (·.1)) 0 (λy hy=>by
   rw[I]at hy
   exact cz (mm hy) λm hm E=>rR E<|dE<|h m<|.t _ hm)<|dE<|h b<|.h _
  have h2:=dE j.1
  rw[aD]at h1
  rw[cq]at h2
  exact decide_eq_false<|ko.M<|aC h1<|aC (i5<|eE _)<|aC (pI _<|Y H<|fB h2)<|bl U
 have X:vl (txt b) (l.m (·.1))=txt (tn b ls):=by rw[I,ND]
 refine call_givesAt XJ (sX _ _ _) F.entry_str_join (F.args_str_join_2 _ _) ((show GivesAt (λs=>∃o T n,s.h.g N=M o/\o.c=.t T/\(T="list"\/T="tuple")/\o.d=.s (zW l).T n) (yS.«str.join» ⟨[.s _ t,.r N],[]⟩) (joinMade _ l)from by
    intro g w A R s zi hq;obtain⟨o,T,n,i,C,hT,u⟩:=zi
    obtain⟨q,e⟩:=join_tree _ t N
    refine Y e ?_
    exact aB<|PE ⟨o,i,C⟩<|Y (if_pos (by rcases hT with rfl|rfl<;>decide))<|aB<|yP i u (by rcases l with _|⟨_,_|_⟩<;>exact gives_joinTail _ _ pY g w A R s hq))) (rR el<|k.e (λf=>j8 f λep hl=>⟨_,"list",ep,hl,U,.I U,U⟩) λ⟨⟨o,i,C,c,u⟩,_⟩=>⟨o,"tuple",c,i,C,.i U,u⟩) ?_
 have d:(Made.str (vl (txt b) (l.m (·.1)))).post (ez P z Rep Q) z.s:=⟨(joinFit_length pY),X▸.t _ e S .ofStr⟩
 rcases l with _|⟨p,_|⟨p',r⟩⟩
 . exact d
 . exact(.h e S (Y (show p.1=txt (tn b ls)from X) .ofStr):ez P z Rep Q (.s p.1 p.2) z.s)
 . exact d
inductive Rd(h:Heap)(x:a0)(d:et)(k:Nat):Prop
 |mk (rd:∃as,Reads h x d as) (lay:d.canLay0=Z) (dep:d.depth<=k)
section
variable{P:Px}
theorem vQ{l:List (Option c)}:∀{r:List c},sQ l=M r->l=r.m M:=by
 induction l with
 |nil=>exact λe=>sJ e▸U
 |cons a l b=>intro r e;rcases a with _|a;(exact nS e);(exact(oM e).e λd q=>q.2▸congrArg (M a::·) (b q.1))
theorem EO{k:Nat}(j:∀v d x,f v=M d->bB z v x->Rd z.h x d k):∀(vs:aq) (a:List a0) (ds:List et),vs.m f=ds.m M->bJ z vs a->(∃as,ab0 z.h a ds as)/\Lv ds=Z/\Aw ds<=k:=by
 intro vs
 induction vs with
 |nil=>intro a ds e r;cases ds with
  |nil=>exact kY r▸(⟨⟨_,.nil⟩,U,cO _⟩)
  |cons=>exact by cases e
 |cons v vs b=>intro a ds e r;cases ds with
  |nil=>exact by cases e
  |cons d ds=>
   exact BS (Gs:=λa=>(∃as,ab0 z.h a (d::ds) as)/\Lv (d::ds)=Z/\Aw (d::ds)<=k) r λy i g r=>by
    have e:=fK e
    have R:=j v d y e.1 g
    have A:=b i ds e.2 r
    exact⟨R.1.e λas h=>A.1.e λbs c=>⟨_,.cons h c⟩,aU.M ⟨R.2,A.2.1⟩,Pb.M ⟨R.3,A.2.2⟩⟩
theorem vi(S:Sat P z):∀(k:Nat) (v:V) (d:et) (x:a0),gg z.σ.h k v=M d->bB z v x->Rd z.h x d k:=by
 intro k
 induction k with
 |zero=>exact λv d x e=>nS e
 |succ k n=>
  intro v d x e r
  have j:∀{vs:aq} {o:Option et},(sQ<|vs.m<|gg z.σ.h k).m .t=M d->(∀G:a0->Prop,(∀a f,tW z.h a (qi f)->bJ z vs f->G (.r a))->G x)->Rd z.h x d (k+1):=λe g=>(oM e).e λds q=>
   g (λx=>Rd z.h x d<|k+1) λa f t r=>t.e λo t=>t.2.2.e λm H=>have R:=EO n _ f ds (vQ q.1) r
   q.2▸⟨R.1.e λas h=>⟨_,((.tuple t.1 t.2.1 H h))⟩,R.2.1,bz R.2.2⟩
  rcases v with _|_|b|i|l|_|⟨p,q⟩|m;(exact nS e);(cases e;exact x7 (G:=λx=>Rd z.h x _<|k+1) r ⟨⟨_,.none⟩,U,cO _⟩);(cases e;exact kY r▸(⟨⟨_,((.bool b))⟩,U,cO _⟩));(cases e;exact FE (G:=λx=>Rd z.h x _<|k+1) r λt=>⟨⟨_,((.int i t))⟩,U,cO _⟩);(
   have e:(bif l.a λc=>bg c 1114112 then M (BG ⟨l.T⟩)else aI)=M d:=e
   exact bC (b:=l.a λc=>bg c 1114112) (λq=>by
    have e:=q▸e;cases e
    refine Wb (G:=λx=>Rd z.h x _<|k+1) r λt=>⟨⟨_,((.str _ t))⟩,?_,cO _⟩
    show(l.T.all λc=>decide<|c<1114112)=Z
    exact Y List.all_toArray<|dw.M λc E=>decide_eq_true<|bt<|dw.m q c E) λq=>(nS<|q▸e));(exact j (vs:=[]) (o:=aI) e λG g=>Tx r U λa f t h=>g a f t h);(exact j (o:=aI) e λG g=>Tx r U λa f t h=>g a f t h);(
   refine Zm e λC A e=> ?_
   rcases C with vs|_|_|_|_|_<;>first|exact nS e|(
     refine cz (oM e) λds q e=>FN (G:=λx=>Rd z.h x d<|k+1) r λa y=>(S.5 m _ A).rec λl items I w u s=>rR (cK w y) ?_
     have R:=EO n _ _ ds (vQ q) s
     exact e▸⟨R.1.e λas h=>⟨_,((.list u U U h))⟩,R.2.1,bz R.2.2⟩))
theorem MU(a:0<P.n){k:Nat}(h:aO k 48=Z):P.A.u+k<qK:=bI (bH (aC (bl h)<|cm (gy 8 a) 40) _)<|rR (ew _ _ _) P.o.3
theorem U1(l:0<P.n):Cmp P .E aaa:=λz Q v w a b S r j e=>e.e λd e=>e.2.e λi f=>
 have R:=vi S 40 v d a e.1 r;have c:=vi S 40 w i b f.1 j
 R.1.e λas h=>c.1.e λbs g=>compareEq_reads h g R.2 c.2 (bI (bH (aC (lU _ _) R.3) _)<|MU l (k:=40) U)<|.j f.2 S
theorem OA:∀{k:Nat},Sq d ds=M k->∃e,ds[k]?=M e/\b7 e d=Z/\∀(j:Nat) g,j<k->ds[j]?=M g->b7 g d=D:=by
 induction ds with
 |nil=>exact λe=>nS e
 |cons x r n=>
  intro k
  show(bif b7 x d then M 0 else(Sq d r).m (·+1))=M k->_
  rcases f:b7 x d with _|_;(exact λe=>cz (oM e) λo m z=>rR z (eV (n m) λc l i h=>eI c l i λj w a b=>by
   rcases j with _|j;(exact rS b f);(exact h j w (fC a) b)));(exact λe=>rS e<|eI x U f λj c a=>absurd a<|Dg _)
theorem HI(hn:0<P.n):Lm P "list.index" q9:=λz Q v vs a xs S r rs e=>by
 apply pA rs e;intro w y ry e
 apply uT S r e;intro n us l items ep q ha hl hr C hz zi;obtain⟨d,J,ds,k,I,hk,e⟩:=zi
 have R:=vi S 40 w d y J ry
 refine eV (OA hk) λaeU h1 h2 h3=> ?_
 have i:=by have:=congrArg kh<|vQ I;rw[aD,aD]at this;exact this.s
 have t:∀(j:Nat) (p:j<items.s),∃b,ds[j]?=M b/\Rd z.h items[j] b 40:=λj p=>by
  have o:=C▸p
  refine cz (hr.qn<|aP o) λx hx rx=> ?_
  have J:ds[j]?=M (ds[j]'(i▸o)):=aP _
  have:=congrArg (·[j]?)<|vQ I
  simp only[aN,aP o,J,tI,E8]at this
  exact br _ J<|cK (dI p) hx▸vi S 40 _ _ _ this rx
 let f:=λx=> @decide (∃b,(∃as,Reads z.h x b as)/\b.canLay0=Z/\b7 b d=Z)<|Bs _
 have fv:∀{x b},Rd z.h x b 40->f x=b7 b d:=λ{x b} R=>by
  rw[dM]
  exact(@decide_eq_true_iff _<|Bs _).t ⟨λH=>eV H λd2 E c2 e2=>j8 E λas X=>R.1.e λbs T=>Y (Ua b d2 _ _ _ R.2 T X) e2,λe=>eI b R.1 R.2 e⟩
 have m:=C▸i▸(bw.m h1).1
 refine sU Uu (br _ hl U) F.entry_list_index (F.args_list_index_2 _ _) (list_indexAt l items ep aI #[] y f k m (by exact O3 (dG.M<|aH m<|Y C hz) (by decide:((1000:Nat):Int)<=2^63 - 1)) ?_ λj p N=> ?_) ⟨hl,λu L=> ?_,.t _ e S .y⟩
 .exact cz (t k m) λb c g=>Y (fv g)<|Y (cK c h1) h2
 .refine cz (t j p) λb c g=> ?_
  rw[fv g];exact h3 j b N c
 .obtain⟨j,p,rfl⟩:=Array.getElem_of_mem L
  refine cz (t j p) λb c g=> ?_
  rw[fv g]
  exact R.1.e λbs T=>g.1.e λas X=>eqAt_reads b d P.A.in1 z.s _ _ as bs X T g.2 R.2<|Y (ew P.A.u 1 _)<|bI (bH (bH (aC (lU _ _) g.3) 1) _)<|MU hn (k:=41) U
theorem Wc{a:List (Str×Tok)}:StrsAre (zW a) (a.m (·.1)):=a.R .nil λp a b=>.cons _ _ b
theorem StrsAre.l{k:List (List Nat)}:∀{o:List a0},StrsAre o (k.m txt)->bJ z (k.m .s) o:=by
 induction k with
 |nil=>exact λh=>by cases h;exact .nil
 |cons c k a=>exact λh=>by cases h with|cons x t z'=>exact .cons .ofStr<|a z'
theorem IL:Lf P "sorted" MM:=λz Q vs xs S N e=>by
 apply pA N e;intro w y r e
 apply oA S r e;intro n us l items X q T L t s J;obtain⟨ls,p,m,f,e⟩:=J
 revert t s;refine Y (vj p) ?_;intro t s
 refine cz (Dc t) λI A H=>sorted_strs (by exact rR A L.i) (H▸Wc) (by
  refine rR A ?_;rw[kM,s,aD]
  rcases ls with _|⟨_,_|⟨_,_|_⟩⟩<;>first|exact nS f|exact bl U) λk d j c v=> ?_
 revert j;refine Y ((show d=m.m txt from by
   have u:∀{a b:ao},j? b a=Z->sortedS [txt a,txt b]=Z->False:=λ{a b} q h=>by
    have h:(!Spec.ltCps (txt b).c.t (txt a).c.t&&Z)=Z:=h
    rw[ltCps_eq,show decide ((txt b).c.t<(txt a).c.t)=j? b a from U,q]at h
    exact bF h
   have g:∀{a b:Str},d.Perm [a,b]->d=[a,b]\/d=[b,a]:=λ{a b} c=>by
    have i:=c.length_eq
    rcases d with _|⟨x,_|⟨y,_|_⟩⟩;(exact nN i U);(exact nN i U);(
     rcases eT.m (c.mem_iff.m List.mem_cons_self ..)with rfl|E
     .exact .I<|congrArg _<|wZ.m<|(UB _).m c
     .revert c;refine rR (aX.m E) ?_;intro c
      exact .i<|congrArg _<|wZ.m<|(UB _).m<|c.trans<|List.Perm.swap _ _ _);(exact nN i U)
   rcases ls with _|⟨a,_|⟨b,_|_⟩⟩;(exact rS f<|List.perm_nil.m c);(exact rS f<|wZ.m c);(
    refine bC (b:=j? b a) (λq=> ?_) λq=> ?_
    .exact rS ((if_pos q).s.t f)<|(g c).e (λh=>(u q<|h▸v).e) id
    .have f:=(if_neg (λz=>bF<|q.s.t z)).s.t f
     exact bC (b:=j? a b) (λq=>rS ((if_pos q).s.t f)<|(g c).e id λh=>(u q<|h▸v).e) λq=>nS<|(if_neg (λz=>bF<|q.s.t z)).s.t f);(exact nS f))) ?_;intro j
 obtain⟨R,C⟩:=sortedAll_at z.h (zW I) k
 exact .E S e (StrsAre.l j) (λb o e=>sortedAll_old e) (lD<|d7 _) C
theorem Nj:∀{a:List a0} {bs:List Bool},boolsOf d=M bs->bJ z d a->a=bs.m .b:=by
 induction d with
 |nil=>exact λe r=>sJ e▸r
 |cons v d g=>
 intro a bs e r
 cases v with
 |o b=>exact(oM e).e λc q=>q.2▸BS (Gs:=λa=>a=(b::c).m .b) r λy h f r=>by refine Y f<|Y (g q.1 r) ?_;rfl
 |_=>exact nS e
theorem all_bools(bs:List Bool):(bX bs.L).a (λi=>bs[i]?.g Z)=bs.a id:=by
 rw[dM,dw,dw]
 refine⟨λh b c=> ?_,λh i a=> ?_⟩
 .obtain⟨i,a,rfl⟩:=List.getElem_of_mem c
  have:=h i<|fZ.M a
  rwa [aP a]at this
 .rw[aP (fZ.m a)];exact h _<|Aq _
theorem Ql(C:P.X.C=Z):Lf P "all" allM:=λz Q vs R S u e=>by
 apply pA u e;intro w y r e
 apply oA S r e;intro n N l items L q J j t I s;obtain⟨bs,g,e⟩:=s
 have c:=Nj g t
 have hsz:items.s=bs.L:=by refine rR kM ?_;rw[c,aD]
 refine call_all_walk<|Z7 j.i ⟨z.h.o.s,[z.h.o.s,l],[z.h.o.s],items.s,_,_,λi=>bs[i]?.g Z,U,Walks.list (A:=P.A.in1) (P.o.1 C) _ l (kX<|jG j) items,⟨eI _ (bG _ U) U U,j.i.push _⟩,λi v a Q E p d=> ?_,λH tk k=> ?_⟩
 .have:=fJ.t p
  rw[c,aN]at this
  refine cz (jw.m this) λb g f=>rR f ?_
  have d:Q (bs[i]?.g Z) a:=d
  rw[g]at d
  exact pj d
 .rw[hsz,all_bools]
  exact .K U U (λb o e=>k b o (λm=>kX (jG e)<|aX.m m)<|dB _ _ b o e) e S λx=>.ofBool
end
def D3(z:Zt)(ps:au):List (a0×a0)->Prop:=ps.R (λa=>a=[]) λp _ c a=>∃y w b,a=(y,w)::b/\bB z p.1 y/\bB z p.2 w/\c b
inductive X2(P:Px):List (Option Expr)->List Expr->List (W V×W V)->Prop
 |nil:X2 P [] [] []
 |cons {k v:Expr} {ks:List (Option Expr)} {vs:List Expr} {mk mv:W V} {ms:List (W V×W V)} (x:WE P k mk) (y:WE P v mv) (r:X2 P ks vs ms):X2 P (M k::ks) (v::vs) ((mk,mv)::ms)
inductive DZ(h:Heap):List (Str×a0)->List (List Nat×et)->Prop
 |nil:DZ h [] []
 |cons {l:ao} {v:a0} {d:et} {ka:List (Str×a0)} {ds:List (List Nat×et)} (rd:Rd h v d 20) (r:DZ h ka ds):DZ h ((txt l,v)::ka) ((l,d)::ds)
theorem LZ(t:A.u+10<qK)(S:Sat P z)(p:z.ρ (d,D)=M l)(o:bB z k y)(c:bB z w x)(e:BZ (.L d) k w Q z.σ)
  (m:∀z',z'.ρ=z.ρ->Q () z'.σ->Sat P z'->Grows P z z'->Q' () z'.s):bf P.C.b A (Yv l y x) Q' E z.s:=by
 refine Y? e λn j i q a e=> ?_
 revert q e;refine rR (V.L.inj i) ?_;intro q e
 have a:=an a
 exact(S.5 d _ q).rec λv es f b r ok=>rR (cK f p)<|BX S r ok b a.1 o c a.2 t λu h tk b g R=>have T:=S.J q f ok a.1 b g R;m (z.o _ _ _) U e T.1 T.2
theorem D3.x(L:Le z z'):∀{a:List (a0×a0)},D3 z ps a->D3 z' ps a:=by
 induction ps with
 |nil=>exact id
 |cons _ _ b=>exact λe=>e.i λx e=>e.i λx e=>e.i λx e=>⟨e.1,((e.2.1.u L)),((e.2.2.1.u L)),((b e.2.2.2))⟩
theorem X2.R{vs:List Expr}(x:X2 P p vs o):Sm P (evalPairs<|pairTrees p vs P.e n) (Gp o) λb a z=>D3 z b a:=by
 induction x with
 |nil=>exact λz Q S e=>pairTrees_nil_walk<|.h e S U
 |cons x y _ m=>exact λz Q S e=>pairTrees_cons_walk<|dR (x z _ S e) λz₁ k a e S G r=>dR (y z₁ _ S e) λh v c e S j l=>dR (m h _ S e) λg ps d q S f i=>.mk g _ q S ((G.n j).n f) ⟨a,c,d,U,r.n<|j.n f,l.n f,i⟩
theorem OK(x:A.u+10<qK):∀(ps:au) (b:List (a0×a0)) (z:Zt),Sat P z->z.ρ (d,D)=M l->D3 z ps b->vS (.L d) ps Q z.σ->(∀z',z'.ρ (d,D)=M l->Q () z'.σ->Sat P z'->Grows P z z'->Q' ⟨⟩ z'.s)->bf P.C.b A (acn l b) Q' E z.s:=by
 intro ps
 induction ps with
 |nil=>exact λb z S a r e i=>Y r<|aF<|i z a e S .k
 |cons p ps v=>
  intro b z S a h e i
  obtain⟨y,w,u,t,o,n,m⟩:=h
  refine Y t ?_
  delta acn
  exact Y (uq _ _ _ _)<|aB<|aB<|LZ x S a o n e λz' g e k G=>aF<|v u z' k (g▸a) (D3.x G.l m) e λf a q c j=>i f a q c<|G.n j
theorem HZ{Q':a0->cL->Prop}(S:Sat P z)(e:iB (.d []) Q z.σ)(k:∀z' d,z'.s=Sh z.s (z.h.p {cls:=.t "dict",data:=.d #[]}) tk->Q (.L d) z'.σ->Sat P z'->Grows P z z'->z'.ρ (d,D)=M z.h.o.s->Q' (.r z.h.o.s) z'.s):Q' (.r z.h.o.s) (Sh z.s (z.h.p {cls:=.t "dict",data:=.d #[]}) tk):=e.e λn e=>
 have T:=dJ.new (o:=.d []) S e.1 (dB _ _) (λt a q=>by rcases t with _|_<;>cases q;exact fg _) (λa q b=>nS b) (λa q=>nS q) λL=>⟨_,#[],mi D,bG _ U,⟨U,.nil,.nil⟩,mH,λp m=>by cases m⟩
 k ⟨FT z.ρ n<|one z.h.o.s,Og z.σ n<|.d [],Sh z.s _ tk⟩ n U e.2 T.1 T.2 (mi D)
theorem WE.dict{vs:List Expr}(x:X2 P b vs u)(p:b.a (·.i)=Z)(I:b.L=vs.L)(H:b≠[])(o:b.L<=15):
  WE P (.Dict b vs t) (bD (pE<|.d []) λd=>bD (Gp u) λps=>bD (vS d ps) λy=>bE d):=λz Q S e=>
 wpAny_Dict_any p I H o<|HZ (Q':=λv s'=>bf P.C.b P.A (evalPairs<|pairTrees b vs P.e t) (λs r=>bf P.C.b P.A (acn z.h.o.s s) (λy n=>ez P z Rep Q v n) cQ r) cQ s') (Q:=λd σ=>bD (Gp u) (λps=>bD (vS d ps) λy=>bE d) Q σ) S e λz₁ d J e m l E=>
  dR (x.R z₁ _ m e) λk ps s e j a i=>OK (mC P U) ps s k j (a.l.b _ _ E) i e λg w q f c=>.mk g _ q f ((l.n a).n c)<|bB.yd w
theorem fF.u{G:List eB->Prop}(r:fF p z (q::e) es)(k:∀d c,d.h=kZ p q.1->bB z q.1 d.k->bB z q.2 d.val->fF p z e c->G (d::c)):G es:=by
 cases es with
 |nil=>exact by cases r.1
 |cons d c=>
  have h:=fK r.1
  exact r.2.e λx a=>a.e λx a=>r.3.e λx b=>b.e λx b=>k d c h.1 ((show d.k=_ from(fK a.1).1)▸a.2.1) ((show d.val=_ from(fK b.1).1)▸b.2.1) ⟨h.2,(fK a.1).2▸a.2.2,(fK b.1).2▸b.2.2⟩
theorem Hk(S:Sat P z):∀{es:List eB} {ds:List (List Nat×et)},ti z.σ.h b=M ds->fF P.C.w.p z b es->
  b.m (·.1)=ds.m (λp=>V.s p.1)/\∃c:List (Str×a0),Pairs (sb P.C.p P.C.w) es c/\DZ z.h c ds/\∀e∈es,∃k,(sb P.C.p P.C.w).is k e.k=Z/\e.h=(sb P.C.p P.C.w).hash k:=by
 induction b with
 |nil=>intro es ds e r;cases es with
  |nil=>exact rS e ⟨U,[],.nil,.nil,λe g=>nomatch g⟩
  |cons=>exact by injection r.1
 |cons q b Q=>
  intro es ds e r
  refine DE ((show∃l d a,q.1=.s l/\gg z.σ.h 20 q.2=M d/\ti z.σ.h b=M a/\ds=(l,d)::a from by
   obtain⟨k,v⟩:=q
   cases k with
   |s l=>
    exact Zm e λd q e=>(oM e).e λa h=>⟨l,d,a,U,q,h.1,h.2.s⟩
   |_=>exact nS e)) λl d a o N L f=>Y f ?_
  apply r.u;intro n J m j I H
  obtain⟨E,c,A,y,x⟩:=Q L H
  rw[o]at j m
  have i:(sb P.C.p P.C.w).is (txt l) n.k=Z:=j.e λt u=>u▸Bm _ _ _ _
  exact⟨Y dc<|Y dc<|Y E<|Y o U,(txt l,n.val)::c,.cons i U A,.cons (vi S 20 _ d _ N I) y,λe g=>(mc g).e (λs=>s▸br _ i m)<|x e⟩
theorem DZ.L(q:DZ h b ds):b.L=ds.L:=by induction q with
 |nil=>rfl
 |cons _ _ a=>exact congrArg _ a
theorem DZ.K(q:DZ h b ds):b.m (·.1)=ds.m λp=>txt p.1:=by induction q with
 |nil=>rfl
 |cons _ _ a=>exact congrArg _ a
theorem DZ.u(q:DZ h c b)(k:ao):I0 c (txt k)=aI/\b.o k=aI\/∃y e,I0 c (txt k)=M y/\b.o k=M e/\Rd h y e 20:=by
 induction q with
 |nil=>exact .I ⟨U,U⟩
 | @cons l v d a ds j r i=>
  by_cases q:k=l
  .refine rR q<|.i<|rJ v d ?_ ?_ j
   .delta I0;refine Y TX<|Y (decide_eq_true U) ?_;rfl
   .rw[fj,beq_self_eq_true]
  .have g:I0 ((txt l,v)::a) (txt k)=I0 a (txt k):=by delta I0;exact Y TX<|Y (decide_eq_false λz=>q (congrArg (λs=>s.c.t) z).s) U
   have f:JE k ((l,d)::ds)=JE k ds:=Y fj<|Y (beq_false_of_ne q) U
   exact Y g<|Y f i
theorem DZ.H(o:A.u+20<qK)(q:DZ s.h j h)(r:DZ s.h i n):KeqHits A s j i (hitsD h n):=by
 induction r with
 |nil=>exact .nil
 | @cons l v d i ds a r m=>
  show KeqHits A s j _ ((h.o l).e D λe=>b7 d e&&hitsD h ds)
  rcases q.u l with⟨g,f⟩|⟨y,e,g,f,c⟩
  .exact Y f<|.miss g
  .exact Y f<|.hit g (a.1.e λas b=>c.1.e λbs k=>eqAt_reads d e A s _ _ _ _ b k a.2 c.2 (by have:=a.3;have:=c.3;exact bI (bH (aC (lU _ _) a.3) _) o)) m
theorem BW(S:Sat P z)(m:z.h.g l=M {cls:=.t "dict",data:=.d es es.s})(r:fF P.C.w.p z a es.t)(ok:pq a)(e:ti z.σ.h a=M ds):
  ∃c,z.h.DictOf (sb P.C.p P.C.w) l c/\DZ z.h c ds:=by
 obtain⟨k,c,j,g,i⟩:=Hk S e r
 refine(br c ⟨_,es,es.s,m,kb U U U,U,λe f=>i e<|vk.M f,j,?_⟩ g)
 have b:=ok.1
 rw[k]at b
 rw[g.K]
 delta List.Nodup at b⊢
 rw[List.pairwise_map]at b⊢
 exact b.imp λd f=>d<|congrArg V.s<|congrArg (λs=>s.c.t) f
theorem JZ:Cmp P .o Mq:=λz Q v w a b S r A e=>by
 apply tM S r e;intro n N l es q y u t ok e
 apply tM S A e;intro n' L J s I g f d c p;obtain⟨H,E,o,m,e⟩:=p
 refine cz (BW S u t ok o) λC Da i=> ?_
 exact cz (BW S f d c m) λlb j h=>keq_ne (S.y y) (S.y g) Da j (mC P U (k:=0)) (λx=>DZ.H (mC P U (k:=21)) h i)<|Y i.L<|Y h.L<|.j e S
theorem LU(n:Nat)(i:Int):clip n i=clipAt n i:=by
 rcases i with j|j;(
  show(bif aO j n then j else n)=clipAt n j
  refine Y (clipAt_nat n j) ?_
  rcases h:aO j n with _|_;(
   have a:¬j<=n:=λq=>by rw[Nat.ble_eq_true_of_le q]at h;exact bT h
   exact(AX<|Nat.le_of_not_le a).s);(exact(jV<|bl h).s));(exact clipAt_neg n (j+1) (cD j)▸U)
theorem RE(n:Nat)(o:Option Int):Er n o=o.e 0 (clipAt n):=by rcases o with _|_<;>first|rfl|exact LU ..
theorem Mf(n:Nat)(o:Option Int):FD n o=o.e n (clipAt n):=by rcases o with _|_<;>first|rfl|exact LU ..
theorem wV(items:Array a0)(lo a:Option Int):slicePick items lo a aI=(cut items.t lo a).T:=by
 rw[slicePick_plain]
 simp[cut,RE,Mf]
theorem U0(n:Nat)(i:Int):clip n i<=n:=by
 rcases i with j|j;(
  show(bif aO j n then j else n)<=n
  rcases h:aO j n with _|_;(exact aG _);(exact bl h));(exact i8 ..)
theorem HJ(lo a:Option Int)(n:Nat):jv lo a 1 n=(bX<|FD n a - Er n lo).m (Er n lo+·):=by
 rw[<-sliceRange_one,RE,Mf]
 rcases lo with _|_<;>rcases a with _|_<;>simp[jv,clipAt_cast]
theorem OS(l:ao)(lo a:Option Int):acN (txt l) lo a=txt (cut l lo a):=by
 delta acN
 refine Y (HJ _ _ _)<|Y txt_length ?_;rw[pick_run]
 split
 .rename_i b
  have c:=(show FD l.L a<=l.L from by rcases a with _|_<;>first|exact aG _|exact U0 ..)
  have b:=by simpa using b
  have:cut l lo a=l:=by
   delta cut
   rcases Nat.eq_zero_or_pos (Er l.L lo)with e|e
   .exact Y e<|Y Uy<|gF<|I8 (zQ 259) U (zG b) (zs _ _)<|i8 _ _
   .rw[pz (Nat.eq_zero_of_not_pos λz=>fY _<|bI (aC (i5 b.s)<|Nat.sub_le_sub_right c _)<|Pc z e)];simp
  exact Y this U
 .exact U
noncomputable abbrev xn(l u:a0):Obj:={cls:=.t "slice",data:=.f #[l,u,.n]}
abbrev WP(P:Px)(x:Option Expr)(m:W V):Prop:=Sm P (evalPart x P.e) m Rep
section
variable{lo:Option Int}
theorem bJ.cut(r:bJ z c b):bJ z (cut c lo a) (cut b lo a):=by
 delta eH.cut
 exact Y r.E<|(r.drop _).take _
theorem WP.v:WP P lJ (bE .N):=.u λx=>U
theorem So{G:a0->Prop}(r:bB z v a)(e:part v=M lo)(k:∀p,IsPart (km p) lo->p.m (·.1)=lo->G (km p)):G a:=by
 cases v with
 |N=>cases e;exact x7 r<|k lJ .none U
 |I i=>cases e;exact FE r λt=>k (M (i,t)) (.int i t) U
 |_=>exact nS e
theorem OG(n:i.m (·.1)=lo)(l:g.m (·.1)=a)(S:Sat P z)(r:bB z v x)(e:Dh v (λx=>eh (fits x.L)<|bE<|.s<|cut x lo a) Q z.σ):
  bf P.C.b P.A (ad8 f (.l d c lJ p) x<|.r z.h.o.s) (ez P z Rep Q) cQ {z.s with heap:=z.h.p<|xn (km i)<|km g}:=by
 have T:=S.u {z.s with heap:=z.h.p<|xn (km i)<|km g} (dB _ _) U U
 apply pJ r e;intro m t e
 refine Dp (sX _ _ _) TV.l (wpAny_getItem_str_slice (st:=lJ) (eI _ (bG _ U) U U) U ?_) U
 have b:sliceMade (txt m) t i g lJ=if(1==1&&(jv lo a 1 (txt m).l).L==(txt m).l)=Z then .val (.s (txt m) t)else .str ⟨((jv lo a 1 (txt m).l).M ((txt m).c[·]?)).T⟩:=by
  delta sliceMade slicePicked
  refine Y n<|Y l ?_;rfl
 exact Y b<|post_val_or_str ⟨aC (Txt.slice_le _ _ _)<|Y txt_length<|sq e.1,λj k=>.T T.2<|.t k e.2 T.1<|⟨j,((OS m lo a).s)▸U⟩⟩
theorem OH(o:k.m (·.1)=lo)(E:g.m (·.1)=f)(S:Sat P z)(r:bB z v x)(e:Po v (λvs=>uF (W3 lo f) λj=>eh (bg 0 j&&aO j vs.L&&fits vs.L)<|bE<|V.t<|vs.d j) Q z.σ):
  bf P.C.b P.A (ad8 d (.l c b lJ p) x<|.r z.h.o.s) (ez P z Rep Q) cQ {z.s with heap:=z.h.p<|xn (km k)<|km g}:=by
 have T:=S.u {z.s with heap:=z.h.p<|xn (km k)<|km g} (dB _ _) U U
 apply BO (r.n T.2) e;intro l y w t n u;obtain⟨j,a,e⟩:=u
 have h:=an e.1
 have m:w.T.s=y.L:=n.E
 rcases lo with _|i;(exact nS a);(rcases i with _|_;(rcases f with _|_;(cases a;rcases g with _|_;(rcases k with _|q;(exact nS o);(
   obtain⟨i,H⟩:=q
   cases o
   exact Dp t.typeIs xw.l (getItem_tuple_from t (s8 ..) (bZ (zQ 260) U<|bt (an h.1).1) (ju (zQ 69) U (bl (an h.1).2)<|zG m) (.T T.2<|.K U U (dB _ _) e.2 T.1 λG=>bB.tup ((n.drop j).mono G) ⟨_,bG _ U,U,0,U⟩)<|Y m<|sq h.2) U));(exact sN E));(exact nS a));(rcases f with _|_<;>exact nS a))
theorem WE.slice(x:WE P f m)(y:WP P d ml)(u:WP P c X):WE P (.S f (.l d c lJ p) R) (bD m λv=>bD ml λl=>bD X λu=>i4 v l u):=
 λz Q S e=>Ji<|dR (x z _ S e) λz₁ v o q S G r=>wpAny_Slice<|dR (y z₁ _ S q) λj l lv q S E N=>dR (u j _ S q) λa u uv q S b A=>by
  obtain⟨lo,w,hi,t,q⟩:=q
  have k:=r.n<|E.n b
  apply So (N.n b) w;intro L w i
  apply So A t;intro J t g
  exact aF<|t7 ((G.n E).n b)<|q.e (λe=>by
   have T:=S.u {a.s with heap:=a.h.p<|xn (km L)<|km J} (dB _ _) U U
   apply oA T.1 (k.n T.2) e;intro n us l items ep q ha C I H e
   exact Dp (br _ C U) yH.l (MX ⟨_,C,U,_,U⟩ (s8 ..) w t .none (by decide) (Y (wV _ _ _)<|.T T.2<|.L T.1 e.2 I.cut)<|Y H<|sq e.1) U) λq=>q.e (OG i g S k)<|OH i g S k
theorem WS.UO{x:Str}(o:P.X.n[i]?=M x)(C:P.X.e.k x=M .local)(y:WE P g m)(u:Bo P (f? A) f):
  WS P (.u (.N x n) A g t) (bD (aS i) λv=>bD m λw=>bD (f v w) λu=>bD (ck i u) λj=>bE .n):=
 λz Q S e=>wpAny_AugAssign_Name<|ldK o S e λv a q r=>dR (y z _ S q) λz₁ w b q S G s=>dR (u z₁ _ v w a b S (r.n G) s q) λl c d q S p r=>Th o C S r q λh q S k=>.mk h _ q S ((G.n p).n k) U
theorem WS.UN{h:V->V->W V}{st:V->V->W Unit}(x:WE P o m)(hg:L1 P (λa=>Pt a name Z) g Rep)(y:WE P p X)(u:Bo P (f? T) f)(R:L2 P (λw v=>setAttr v name w) (λw v=>st v w) TT):
  WS P (.u (.A o name L) T p N) (bD m λv=>bD (g v) λn=>bD X λw=>bD (f n w) λu=>bD (st v u) λi=>bE .n):=
 λz Q S e=>wpAny_AugAssign_AttributeAny<|dR (x z _ S e) λz₁ v a q S G r=>dR (hg z₁ _ v a S r q) λJ n b q S l I=>dR (y J _ S q) λH w c q S j E=>dR (u H _ n w b c S (I.n j) E q) λC u d q S k A=>
  dR (R C _ u v d a S A (r.n<|(l.n j).n k) q) λt i i q S s i=>.mk t _ q S (G.n<|((l.n j).n k).n s) U
inductive WH(P:Px):List (a0->Sem Unit)->List (V->W Unit)->Prop
 |nil:WH P [] []
 |cons {t:a0->Sem Unit} {f:ak} {ts:List (a0->Sem Unit)} {fs:List (V->W Unit)} (x:L1 P t f TT) (y:WH P ts fs):WH P (t::ts) (f::fs)
theorem WH.l(x:WH P ts b):ts.L=b.L:=by induction x with|nil=>rfl|cons _ _ a=>exact congrArg _ a
theorem WH.r(x:WH P ts a):Ls P (assignInOrder ts) (HG a) TT:=by
 induction x with
 |nil=>
  intro z Q vs g S r e
  cases vs with
  |nil=>exact rR r<|aF<|.mk z () e S .k trivial
  |cons v vs=>exact e.e
 | @cons t f ts a x y d=>
  intro z Q vs g S r e
  cases vs with
  |nil=>exact e.e
  |cons v vs=>
   apply BS r;intro y c b r
   exact aB<|bK<|dR (x z _ v y S b e) λz₁ w w q S G w=>t7 G<|d z₁ Q vs c S (r.mono G) q
end
end eH
section
open AutoSeq1 (wpAny_loadPart')
namespace eH
theorem wb:entryFor table "dict_itemiterator.__iter__"=M yS.«dict_keyiterator.__iter__»:=
 entryFor_alias (id':="dict_keyiterator.__iter__") (by kernel_rfl) U (by decide+kernel) (by kernel_rfl)
theorem xp(f:A.h=aI)(d:∀c e,(∀b o,s.h.g b=M o->c.g b=M o)->Shared.TypeIs {s with heap:=c} (.r e) "StopIteration"->E (.r e) {s with heap:=c}):bf M' A (newExc (.t "StopIteration") []>>=raiseNew) Q E s:=by
 refine aB ?_
 refine aB<|eZ (aB<|yO (a:=jC) (by first|rfl|(rfl))<|eZ ?_ (by size_fits)) (by size_fits)
 exact aB<|wpAny_handled<|Y f<|aB<|aF<|wpAny_throw<|d _ _ (λb o e=>bu _<|bu _ e)<|br _ (bG _ U) U
theorem Rc(g:(d==sW)=D)(b:s.h.g d=M (iS es f))
  (e:Q (.r s.h.o.s) {s with heap:=s.h.p {cls:=.t "dict_keyiterator",data:=.f #[.r d,.i 0 0,.i es.s 0,.i f 0]}}):
  bf (eN c w) A (lX<|.r d) Q E s:=by
 refine uk (br _ b U) Wv<|cV Wv (br _ b U) F.entry_dict_iter (aB<|aB<|xF (br _ b U)<|aF (a:=Aa d) ?_)<|F.args_dict_iter_1 _
 show bf _ _ (rp d>>=_) _ _ s
 delta rp
 exact Y (if_neg (by exact Y g de))<|aB<|aF<|aB<|jk b U<|aB<|fQ b U<|aB<|eZ<|aF ⟨_,U,"dict_keyiterator",_,br _ (bG _ U) U,qG.l,e⟩
theorem Oj(y:A.h=aI)(a:s.h.K g d i es.s q)(j:s.h.g d=M (iS es q))
  (x:∀en h,es[i]?=M en->h.K g d (i+1) es.s q->gE g s.h h->Q (M en.k) {s with heap:=h}) (p:es[i]?=aI->∀h,Jz g s.h h->Q aI {s with heap:=h}):bf (eN r w) A (Jo<|.r g) Q E s:=by
 refine eV (id a) λo n v c=> ?_
 refine aB<|aem<|dK a.typeIs qG
  <|cV qG a.typeIs F.entry_dict_keyiterator_next ?_<|F.args_dict_keyiterator_next_1 _
 refine aB<|aF<|aB<|aB<|aB<|qL a.typeIs<|aF<|aB<|acs n c<|Y (if_neg (by decide)) ?_
 show bf _ _ (if(Aa d==jC)=Z then _ else _) _ _ s
 refine Y (if_neg<|de)<|aB<|aF<|aB<|jk j U ?_
 refine Y (if_neg (by simp))<|aB<|aF<|aB<|fQ j U<|Y (if_neg (by simp))<|aF ?_
 rcases l:es[i]? with _|en;(
  simp only[(iN U),if_false,eC,l]
  exact aB<|aB<|qL a.typeIs<|aF<|aB (m:=Uj (.r g) 0 .n)<|ph n c (by simp)<|xp y λh e k u=>aB<|vV u acb<|aF<|p l _ λb o t e=>k b o<|(eG ..).e b o t e);(
  simp only[(iN U),if_false,eC,l]
  refine aB<|aB<|qL a.typeIs<|aF<|aB<|TG a.typeIs<|aB (m:=Uj (.r g) 1<|sV<|i+1)<|ph n c (by simp) ?_
  have f:(s.h.update g (GU (·.S 1<|sV<|i+1))).K g d (i+1) es.s q:=
   eI _ (eR _ n<|oq<|jM c _) ((sf ..).t v) (by refine Y (jM c _) ?_;rfl)
  exact aB<|bK<|aB<|TG f.typeIs<|aF<|aF<|br _ U<|aF<|x en _ l f<|eG ..)
theorem NR(g:(d==sW)=D)(c:s.h.g d=M (iS es j))
  (f:Q (.r s.h.o.s) {s with heap:=s.h.p {cls:=.t "dict_items",data:=.f #[.r d]}}):bf (eN b w) A (call (.B "dict.items") [.r d]) Q E s:=by
 have m:MeetsIn b w (yS.«dict.items» ⟨[.r d],[]⟩) λx R s'=>s'=s/\R (.ok<|.r<|.r s.h.o.s) {s with heap:=s.h.p {cls:=.t "dict_items",data:=.f #[.r d]}}:=
  .of_wp λi R s' a=>ir a λe h=>by
   refine Y e<|aB<|aB<|xF (br _ c U)<|aF ?_
   delta rp
   exact Y (if_neg (by exact Y g de))<|aB<|aF<|aB<|eZ<|aF<|br _ U h
 exact Di Ut (br _ c U) F.entry_dict_items (F.args_dict_items_1 _) m ⟨U,f⟩
theorem Ck(c:s.h.IsItemsView v d)(g:s.h.g d=M (iS es i))
  (k:Q (.r s.h.o.s) {s with heap:=s.h.p {cls:=.t "dict_itemiterator",data:=.f #[.n,.b D,.r d,.i 0 0,.i es.s 0,.i i 0,.n,.n]}}):
  bf (eN f w) A (lX<|.r v) Q E s:=by
 refine eV (id c) λj b h a=>uk c.typeIs Li<|cV Li c.typeIs F.entry_dict_items_iter (aB<|aF<|aB<|aB<|lB b a (x:=.r d) U<|aF<|aB<|aB<|jk g U<|aB<|fQ g U ?_)<|F.args_dict_items_iter_1 _
 have e:PF "dict_itemiterator"=Z:=by decide
 skip
 refine eZ (aF ⟨_,U,"dict_itemiterator",_,br _ (bG _ U) U,jO.l,?_⟩)
  (by skip;exact bl U)
 trivial
theorem KO(C:AW s.h z d i n J ok I)
  (T:∀H,acA H z d i n J k t s.h.o.s->H.g s.h.o.s=M {cls:=.t "tuple",data:=.s #[k,t]}->(∀b o,b≠z->s.h.g b=M o->H.g b=M o)->Q (.r s.h.o.s) {s with heap:=H}):
  bf (eN R w) A (PG (.r z) 6 k t) Q E s:=by
 refine aB<|wpAny_newTuple ?_
 have HE:AW (s.h.p {cls:=.t "tuple",data:=.s #[k,t]}) z d i n J ok I:=bu _ C
 have c:(s.h.p {cls:=.t "tuple",data:=.s #[k,t]}).g s.h.o.s=M {cls:=.t "tuple",data:=.s #[k,t]}:=bG _ U
 have f:=dB s.h {cls:=.t "tuple",data:=.s #[k,t]}
 obtain⟨S,g,X,tk,os⟩:=s
 dsimp only at*
 generalize S.p {cls:=.t "tuple",data:=.s #[k,t]}=P at HE c f
 refine aB ?_
 refine aB<|lB HE U (x:=.n) U<|aF ?_
 refine aB<|lB HE U (x:=ok) U<|aB<|lB HE U (x:=I) U<|aB<|nM HE (by simp) λy a r=> ?_
 replace a:AW y z d i n J k I:=a
 refine aB<|nM a (by simp) λN q p=> ?_
 refine aB<|nM q (by simp) λL m l=> ?_
 refine aB<|nM m (by simp) λv j h=> ?_
 have K:=λb o u e=>h.e b o u<|l.e b o u<|p.e b o u<|r.e b o u e
 exact aB<|Um<|aF<|T v j (K _ _ (mO<|jG C) c) λb o u e=>K b o u<|f b o e
theorem Kv(I:A.h=aI)(h:AW s.h l d i es.s z ok N)(p:s.h.g d=M (iS es z))
  (H:∀j f,es[i]?=M j->acA f l d (i+1) es.s z j.k j.val s.h.o.s->f.g s.h.o.s=M {cls:=.t "tuple",data:=.s #[j.k,j.val]}->
   (∀b o,b≠l->s.h.g b=M o->f.g b=M o)->Q (M<|.r s.h.o.s) {s with heap:=f}) (t:es[i]?=aI->∀f,Jz l s.h f->Q aI {s with heap:=f}):bf (eN y w) A (Jo<|.r l) Q E s:=by
 have n:s.T (.r l) "dict_itemiterator":=br _ h U
 refine aB<|aem<|dK n jO
  <|cV jO n F.entry_dict_itemiterator_next ?_<|F.args_dict_itemiterator_next_1 _
 refine aB<|aF<|aB<|aB<|aB<|qh n<|aF<|aB<|acs h U<|Y (if_pos (by decide)) ?_
 show bf _ _ (if(Aa d==jC)=Z then _ else _) _ _ s
 refine Y (if_neg<|de)<|aB<|aF<|aB<|jk p U ?_
 refine Y (if_neg (by simp))<|aB<|aF<|aB<|fQ p U ?_
 refine Y (if_neg (by simp))<|aF ?_
 cases r:es[i]? with
 |none=>
  simp only[(iN U),if_false,eC,r]
  refine aB<|aB<|qh n<|aF ?_
  exact aB (m:=Uj (.r l) 2 .n)<|ph h U (by simp)<|xp I λf e k C=>aB<|vV C acb<|aF<|t r _ λb o q e=>k b o<|(eG ..).e b o q e
 |some j=>
  simp only[(iN U),if_false,eC,r]
  refine aB<|aB<|qh n<|aF<|aB<|wX n ?_
  obtain⟨L,g,J,tk,os⟩:=s
  refine aB (m:=Uj (.r l) 3<|sV<|i+1)<|nM h (by simp) λx a c=> ?_
  refine aB<|bK<|aB<|wX (br _ a U)<|aB<|wX (br _ a U)<|KO a λf v u k=>aF<|br _ U<|aF ?_
  rw[c.1]at v u⊢
  exact H j f r v u λb o q e=>k b o q<|c.e b o q e
theorem vE{i:Int}(a:Ja s.h e f i d)(c:Q (.r e) s):bf (eN b w) A (lX<|.r e) Q E s:=by
 exact uk (br _ a U) MZ<|cV MZ (br _ a U) F.entry_enumerate_iter (aF ⟨_,U,"enumerate",_,br _ a U,F.slot_enumerate_next.l,c⟩)<|F.args_enumerate_iter_1 _
theorem Hl(H:A.h=aI)(g t:Addr)(l:t≠g)(items:Array a0):
  Draws C w A g [g,t] items.s (λi v=>items[i]?=M v) (λi h=>h.s g t i/\h.IsTuple t items) where
 live:=λy y st=>cz st.1 λo a y=>⟨o,a⟩
 frame:=λy y y st z=>⟨st.1.i λo q=>⟨z g (.h _) o q.1,q.2⟩,st.2.i λo q=>⟨z t (.t _<|.h _) o q.1,q.2⟩⟩
 item:=λi s Q E u st N=>by
  obtain⟨⟨o,a,r,f⟩,p,d,j,n,c⟩:=id st
  refine aB (m:=callSpecial? _ _)<|dK (name:=fD "__next__") st.1.typeIs kO
   <|cV kO st.1.typeIs E5 ?_<|DV _
  refine aB (m:=field (.r g) 0)<|lB a f (x:=.r t) U ?_
  refine Y (if_neg<|de)<|aB (m:=field (.r g) 1)<|lB a f (x:=.i i 0) U<|aB (m:=n?<|.r t)<|yP d c ?_
  simp only[eC,dI u]
  refine aB<|ph a f (by simp)<|aF<|br items[i] U<|aF<|N _ _ s.t (dI u) ⟨?_,?_⟩<|eG ..
  .exact(eI _ (eR _ a<|oq<|jM f _) ((sf ..).t r) (by refine Y (jM f _) ?_;rfl))
  .exact⟨p,(jF _ _<|xx l).t d,j,n,c⟩
 done:=λs Q E st L=>by
  obtain⟨⟨o,a,r,f⟩,p,d,j,n,c⟩:=id st
  refine aB (m:=callSpecial? _ _)<|dK (name:=fD "__next__") st.1.typeIs kO
   <|cV kO st.1.typeIs E5 ?_<|DV _
  refine aB (m:=field (.r g) 0)<|lB a f (x:=.r t) U ?_
  refine Y (if_neg<|de)<|aB (m:=field (.r g) 1)<|lB a f (x:=.i items.s 0) U<|aB (m:=n?<|.r t)<|yP d c ?_
  simp only[eC,GL<|aG items.s]
  exact aB<|jt<|aB<|ph a f (by simp)<|xp (by first|exact H|exact(H:A.i.handled=aI)) λP e k J=>L _ _ (λb o I q=>k b o<|(eG ..).e b o I q) J
theorem abp{b:Bool}(h:∀b,Q b s):bf M' A (pure b) Q E s:=aF<|h b
set_option tactic.hygienic true in
theorem B5(l:Addr)(items:Array a0)(n:Nat)(dct:Option Addr)(sl:Array (Option a0)):
  Meets (yS.«enumerate.__new__» ⟨[.t "enumerate",.r l],[]⟩) (λx R s=>s.h.g l=M {cls:=.t "tuple",dict:=dct,data:=.s items n,slots:=sl}/\
   R (.ok<|.r<|.r (s.h.p {cls:=.t "tuple_iterator",data:=.f #[.r l,.i 0 0]}).o.s)
    {s with heap:=(s.h.p {cls:=.t "tuple_iterator",data:=.f #[.r l,.i 0 0]}).p {cls:=.t "enumerate",data:=.f #[.n,.b D,.r s.h.o.s,sV 0,.n,.n]}}):=
 .of_wp λprog w A R s h=>by
  obtain⟨hp,g,d,tk,os⟩:=s;obtain⟨hl,h⟩:=h
  have hsub:=sub_enumerate
  have hL:Heap.IsTuple (Shared.heap ⟨hp,g,d,tk,os⟩) l items:=⟨_,hl,U,n,U⟩
  wp_walk using GX hl
  refine wpAny_stack_any λst=>abp λb=> ?_
  rcases b with _|_
  .wp_walk using GX hl,Bq hL
   exact⟨_,U,h⟩
  .wp_walk using GX hl,Bq hL
   exact⟨_,U,h⟩
theorem AA(p:s.h.IsTuple l items)
  (h:∀a,Ja a (s.h.o.s+1) s.h.o.s 0 .n->a.s s.h.o.s l 0->(∀b o,s.h.g b=M o->a.g b=M o)->Q (.r<|s.h.o.s+1) {s with heap:=a}):
  bf (eN g w) A (call (.t "enumerate") [.r l]) Q E s:=by
 obtain⟨⟨c,e,q,m⟩,k,j,n,i⟩:=p
 subst j;refine callType_new F.called_enumerate (by decide) (F.typeCall_enumerate_1 _) (F.newCall_enumerate_1 _) (λd=>F.args_object_init_2 d _) F.entry_enumerate_new
  (B5 l items n e m) ⟨(i▸k),?_⟩
 have hz:(s.h.p {cls:=.t "tuple_iterator",data:=.f #[.r l,.i 0 0]}).o.s=s.h.o.s+1:=Heap.size_push ..
 show _/\_
 refine Y hz ?_
 have f:Ja ((s.h.p {cls:=.t "tuple_iterator",data:=.f #[.r l,.i 0 0]}).p
   {cls:=.t "enumerate",data:=.f #[.n,.b D,.r s.h.o.s,sV 0,.n,.n]}) (s.h.o.s+1) s.h.o.s 0 .n:=
  hz▸bG (s.h.p {cls:=.t "tuple_iterator",data:=.f #[.r l,.i 0 0]}) (o:={cls:=.t "enumerate",data:=.f #[.n,.b D,.r s.h.o.s,sV 0,.n,.n]}) U
 exact⟨(br _ f U),h _ f (eI _ (bu _<|bG _ U) U U) λb o x=>bu _<|bu _ x⟩
end eH
end
namespace eH
noncomputable def Md:List String:=["enumerate","zip","dict_itemiterator","dict_reverseitemiterator","odict_iterator","itertools.zip_longest","itertools.pairwise"]
theorem Cr(b:∃o,s.h.g e=M o/\o.c=.t T)(d:Md.c T=D)(h:Q () s):
  bf M' A (mL a (.r e) v) Q E s:=by
 refine cz b λo b c=> ?_
 delta mL
 rcases a with _|_<;>first|exact aF h|skip
 all_goals
  skip
  rcases v with _|_<;>first|exact aF h|skip
  refine aB<|wpAny_load b<|Y c ?_
  rcases o.d with _|_<;>first|exact aF h|skip
  dsimp only
  exact Y (d)<|Y (g8 _)<|aF h
def yT(t:Expr):Prop:=∃a k b,t=.T a k b
inductive gM(tgt:Expr)(z:Zt)(it:Addr):List Addr->It->Prop
 |list {n:Loc} {la:Addr} {i:Nat} (e:z.ρ (n,D)=M la) (I:z.h.IsListIter it la i):gM tgt z it [it] (.L (n,i))
 |row {t:Addr} {all:aq} {xs:List a0} {k:Nat} (T:tW z.h t xs.T) (r:bJ z all xs) (I:z.h.s it t k):gM tgt z it [it] (.r (all.d k))
 |keys {n:Loc} {d:Addr} {i k:Nat} (e:z.ρ (n,D)=M d) (I:z.h.K it d i k k):gM tgt z it [it] (.k (n,i,k))
 |str {ty:String} {all:ao} {t:Tok} {k:Nat} (hty:ty="str_ascii_iterator"\/ty="str_iterator") (I:z.h.IsStrIter it ty (txt all) t k):gM tgt z it [it] (.s (all.d k))
 |B1 {n:Loc} {la l:Addr} {i:Nat} {old:a0} (ht:yT tgt) (ne:it≠l) (e:z.ρ (n,D)=M la) (E:Ja z.h it l i old) (I:z.h.IsListIter l la i):gM tgt z it [it,l] (.E (n,i))
 |B2 {t l:Addr} {all:aq} {xs:List a0} {k:Nat} {old:a0} (ht:yT tgt) (ne:it≠l) (T:tW z.h t xs.T) (r:bJ z all xs) (hk:k<=all.L) (E:Ja z.h it l k old) (I:z.h.s l t k):gM tgt z it [it,l] (.e (k,all.d k))
 |items {n:Loc} {d:Addr} {i k:Nat} {ok ov:a0} (ht:yT tgt) (e:z.ρ (n,D)=M d) (I:AW z.h it d i k k ok ov):gM tgt z it [it] (.I (n,i,k))
 |range {i k:Nat} (I:IsRangeIter z.h it i k 1):gM tgt z it [it] (.R (i,k))
abbrev PJ(h:Heap)(a:Addr):Prop:=∃o,h.g a=M o/\∃vs,o.d=.f vs
section
variable{h h':Heap}{W:List Addr}
theorem J8(x:∃o,h.g a=M o/\o.c=c/\o.d=.f vs):PJ h a:=x.i λo q=>⟨q.1,vs,q.2.2⟩
theorem all1{p:Addr->Prop}(h:p a):∀b∈[a],p b:=λb m=>m1 m▸h
theorem all2{p:Addr->Prop}(h:p a)(h':p l):∀b∈[a,l],p b:=λb m=>(mc m).e (λe=>e▸h) λm=>m1 m▸h'
theorem gM.L(I:gM f z j W i):∀a∈W,PJ z.h a:=by
 cases I with
 |list e I=>exact all1<|J8 I
 |row T r I=>exact all1<|J8 I
 |keys e I=>exact all1<|J8 I
 |str d I=>exact all1<|J8 I
 |B1 b c e E I=>exact all2 ⟨_,E,_,U⟩<|J8 I
 |B2 b c T r g E I=>exact all2 ⟨_,E,_,U⟩<|J8 I
 |items b e I=>exact all1 ⟨_,I,_,U⟩
 |range I=>exact all1 ⟨_,I,_,U⟩
theorem Ng(k:∀o,h.g a=M o->h'.g a=M o)(x:∃o,h.g a=M o/\o.c=c/\o.d=.f vs):∃o,h'.g a=M o/\o.c=c/\o.d=.f vs:=x.i λo q=>⟨k o q.1,q.2⟩
theorem gM.p(b:Le z z')(I:gM g z l W i)(k:∀a∈W,∀o,z.h.g a=M o->z'.h.g a=M o):gM g z' l W i:=by
 cases I with
 |list e I=>exact .list (b.b _ _ e)<|Ng (k _<|.h _) I
 |row T r I=>exact .row (b.c.1 _ _ T) (r.J b)<|Ng (k _<|.h _) I
 |keys e I=>exact .keys (b.b _ _ e)<|Ng (k _<|.h _) I
 |str f I=>exact .str f<|Ng (k _<|.h _) I
 |B1 c d e E I=>exact .B1 c d (b.b _ _ e) (k _ (.h _) _ E)<|Ng (k _<|.t _<|.h _) I
 |B2 c d T r j E I=>exact .B2 c d (b.c.1 _ _ T) (r.J b) j (k _ (.h _) _ E)<|Ng (k _<|.t _<|.h _) I
 |items c e I=>exact .items c (b.b _ _ e)<|k _ (.h _) _ I
 |range I=>exact .range<|k _ (.h _) _ I
theorem lS.S(G:lS X.p z z')(x:Apart C X z a)(f:PJ z.h a):(∀o,z.h.g a=M o->z'.h.g a=M o)/\Apart C X z' a:=
 f.e λb q=>⟨λo e=>(G.K a o e x.4 x.2).e λo' k=>k.2.E (cK q.1 e▸q.2)▸k.1,x.1,x.2,x.3,G.w q.1 x.4⟩
theorem gM.m(G:lS X.p z z')(I:gM b z c W i)(x:∀a∈W,Apart C X z a):gM b z' c W i/\∀a∈W,Apart C X z' a:=
 ⟨I.p G.toLe λa m=>(G.S (x a m)<|I.L a m).1,λa m=>(G.S (x a m)<|I.L a m).2⟩
abbrev Du(W:List Addr)(h h':Heap):Prop:=∀b o,b∉W->h.g b=M o->h'.g b=M o
inductive Got(z:Zt)(tgt:Expr)(it:Addr)(W:List Addr)(v:V)(i:It)(a:a0):cL->Prop
 |mk {h':Heap} {tk:Nat} (k:Du W z.h h') (r:Le z (z.o z.σ h' tk)->bB (z.o z.σ h' tk) v a/\gM tgt (z.o z.σ h' tk) it W i):Got z tgt it W v i a (Sh z.s h' tk)
inductive Turn(P:Px)(z:Zt)(tgt:Expr)(it:Addr)(W:List Addr)(Q:Option (V×It)->St->Prop):Option a0->cL->Prop
 |fin {h':Heap} (q:Q aI z.σ) (k:Du W z.h h'):Turn P z tgt it W Q aI (Sh z.s h' z.s.t)
 |item {a:a0} {sS:cL} {v:V} {i':It} (q:Q (M (v,i')) z.σ) (w:bf P.C.b P.A (mL tgt (.r it) a) (λx KX=>Got z tgt it W v i' a KX) cQ sS):Turn P z tgt it W Q (M a) sS
theorem x4(k:Jz a h h'):Du [a] h h':=λb o n e=>k b o (λq=>n<|q▸.h _) e
theorem Turn.n{a:a0}(q:Q (M (v,i)) z.σ)(f:∃o,h'.g b=M o/\o.c=.t T)(e:Md.c T=D)(d:gE b z.h h')(r:bB z v a)(I:Le z (z.o z.σ h' tk)->gM c (z.o z.σ h' tk) b [b] i):Turn P z c b [b] Q (M a) (Sh z.s h' tk):=
 .item q<|Cr f e<|.mk (x4 d.e) λl=>⟨r.u l,I l⟩
theorem listE{c:Prop}(S:Sat P z)(q:z.σ.h n=M (.l b))(e:z.ρ (n,D)=M l)(k:∀items a,IsL z.h l items a->bJ z b items.t->items.s=b.L->c):c:=
 (S.5 n _ q).rec λg items a f d r=>k items a (cK f e▸d) r r.E
theorem QJ{b:Prop}(S:Sat P z)(q:z.σ.h n=M (.d a))(e:z.ρ (n,D)=M l)(k:∀es,z.h.g l=M (iS es es.s)->fF P.C.w.p z a es.t->es.s=a.L->b):b:=
 (S.5 n _ q).rec λf es d c r ok=>k es (cK d e▸c) r r.L
theorem aaU{Q:c->St->Prop}{b:Prop}(e:CH (.L n) f Q σ)(k:∀a,σ.h n=M (.l a)->f n a Q σ->b):b:=e.e λn' e=>e.e λa e=>by obtain rfl:=V.L.inj e.1;exact k a e.2.1 e.2.2
theorem aaT{Q:c->St->Prop}{b:Prop}(e:KI (.L n) f Q σ)(k:∀a,σ.h n=M (.d a)->f n a Q σ->b):b:=e.e λn' e=>e.e λa e=>by obtain rfl:=V.L.inj e.1;exact k a e.2.1 e.2.2
theorem Sk{c b:Type}{items:Array c}{a:List b}{j:Nat}(z:items.s=a.L)(e:a[j]?=aI):items[j]?=aI:=GL<|z▸rz.m e
theorem Mz{c b:Type}{items:Array c}{a:List b}{j:Nat}(z:items.s=a.L)(e:items[j]?=aI):a[j]?=aI:=eS<|z▸Array.getElem?_eq_none_iff.m e
theorem Ec{k:Nat}{st:Nat->Heap->Prop}{j:aq}{f:V->It}(a:Draws P.C.p P.C.w P.A.in1 l fp m p st)(ht:yT H)(R:Ja z.h d l k E)(u:st k z.h)(ne:d≠l)(t:d∉fp)(N:m=j.L)(L:k<=j.L)
  (q:Q (j[k]?.m λv=>(ys (.I<|.o k) v,f v)) z.σ) (hp:∀x v,p k x->j[k]?=M v->bB z v x)
  (I:∀h' tk E v,j[k]?=M v->Le z (z.o z.σ h' tk)->Ja h' d l (k+1:Nat) E->st (k+1) h'->gM H (z.o z.σ h' tk) d [d,l] (f v)):bf P.C.b P.A (Jo<|.r d) (Turn P z H d [d,l] Q) cQ z.s:=by
 rcases i:j[k]? with _|v;(
  rw[i]at q
  exact wpAny_pyNext_enum_endD a R (bo (N▸L) (N▸rz.m i)▸u) λh' k=>.fin q λb o n e=>k b o (λq=>n<|q▸.t _ (.h _)) e);(
  rw[i]at q
  refine Z? ht λT kk pos J=> ?_;subst J
  refine wpAny_pyNext_enum_itemD a R u (N▸(gL i)) ne t λx r tk hx ho hs hT y L=>.item q<|wpAny_letOwnedTupleGo_enum ho λg he c=> ?_
  replace c:gE d r g:=c
  exact .mk (tk:=tk+1) (λb o n e=>(c.2 b λq=>n<|q▸.h _).t<|L b o (λq=>n<|q▸.h _) (λq=>n<|q▸.t _ (.h _)) e) λS=>⟨bB.tup (.cons bB.y<|.K<|((hp x v hx i).u S))<|⟨_,(c.2 _<|mO<|jG R).t hT,U,0,U⟩,I g _ x v i S he<|a.frame _ _ _ hs λb X o q=>(c.2 b λz=>t<|z▸X).t q⟩)
theorem gM.s(hc:P.X.C=Z)(S:Sat P z)(I:gM tgt z it W i)(x:∀a∈W,Apart P.C P.X z a)(e:RY i Q z.σ):bf P.C.b P.A (Jo<|.r it) (Turn P z tgt it W Q) cQ z.s:=by
 have hh:=P.o.1 hc
 cases I with
 | @list n la j e0 I=>
  apply aaU e;intro us q e
  apply listE S q e0;intro items ep L r hz
  rcases w:us[j]? with _|v;(rw[w]at e;exact wpAny_pyNext_list_end hh I ⟨_,L,U,_,U⟩ (Sk hz w) λh' k=>.fin e<|x4 k);(rw[w]at e;exact cz (r.qn w) λy hy hr=>wpAny_pyNext_list_item I ⟨_,L,U,_,U⟩ hy λh' H R=>.n e (H.i λo q=>⟨q.1,q.2.1⟩) (by decide) R hr λN=>.list (N.b _ _ e0) H)
 | @row t g xs j T r I=>
  replace e:Q (((g.d j).h).m λv=>(v,.r (g.d j).b)) z.σ:=e
  have e:=(df▸(fG▸e))
  rcases w:g[j]? with _|v;(rw[w]at e;exact wpAny_pyNext_tuple_end hh I T (Sk (Y rZ r.E) w) λh' k=>.fin e<|x4 k);(have e:=(w▸e);exact cz (r.Q w) λy hy hr=>wpAny_pyNext_tuple_item I T (by rwa [jY]) λh' H R=>.n e (H.i λo q=>⟨q.1,q.2.1⟩) (by decide) R hr λN=>.row (N.c.1 _ _ T) (r.J N) H)
 | @keys n d j k e0 I=>
  apply aaT e;intro us q e
  apply QJ S q e0;intro es L r hz
  have hk:es.s=k:=hz.t<|bq e.1
  subst hk
  exact Oj hh I L (λen h' he H R=>by
   refine hM (r.g (by rw[fJ];exact he)) λp hp u hr u=> ?_
   have e:=e.2
   rw[hp]at e
   exact .n e (H.i λo q=>⟨q.1,q.2.1⟩) (by decide) R hr λN=>.keys (N.b _ _ e0) H) λhe h' k=>.fin (by have e:=e.2;rw[Mz hz he]at e;exact e)<|x4 k
 | @str ty g t j hty I=>
  replace e:Q (((g.d j).h).m λc=>(.s [c],.s (g.d j).b)) z.σ:=e
  have e:=(df▸fG▸e)
  have hx:(txt g).c[j]?=g[j]?:=jY ..
  rcases w:g[j]? with _|c;(
   rw[w]at e hx
   rcases hty with rfl|rfl
   .exact wpAny_pyNext_ascii_end hh I hx λh' k=>.fin e<|x4 k
   .exact wpAny_pyNext_wide_end hh I hx λh' k=>.fin e<|x4 k);(
   rw[w]at e hx
   have fin:∀h' tk,h'.IsStrIter it ty (txt g) t (j+1)->gE it z.h h'->Turn P z tgt it [it] Q (M<|.s ⟨#[c]⟩ z.s.t) (Sh z.s h' tk):=λh' tk H R=>.n e (H.i λo q=>⟨q.1,q.2.1⟩) (by refine hty.e (λz=>Y z ?_) λz=>Y z ?_<;>decide) R (bB.ofStr) λN=>.str hty H
   rcases hty with rfl|rfl
   .exact wpAny_pyNext_ascii_item I hx λh' H R=>fin h' _ H R
   .exact wpAny_pyNext_wide_item I hx λh' H R=>fin h' _ H R)
 | @B1 n la l j old ht ne e0 E I=>
  apply aaU e;intro us q e
  apply listE S q e0;intro items ep L r hz
  have lne:∀b∈[it,l],la≠b:=λb m q=>(x b m).4 ⟨_,q▸e0⟩
  exact Ec (Draws.list (A:=P.A.in1) hh l la (lne l<|.t _<|.h _) items) ht E ⟨I,⟨_,L,U,_,U⟩⟩ ne (λm=>(mc m).e ne λm=>lne it (.h _) (m1 m).s) hz (bl e.1) e.2
   (λy v hy w=>(r.qn w).e λy' q=>cK q.1 hy▸q.2) λh' tk old v w N he R=>.B1 ht ne (N.b _ _ e0) he R.1
 | @B2 t l g xs j old ht ne T r hk E I=>
  have tne:∀b,PJ z.h b->t≠b:=λb f q=>T.e λo p=>f.e λo' p'=>by subst q;obtain rfl:=cK p.1 p'.1;obtain⟨m,hm⟩:=p.2.2;exact p'.2.e λvs w=>cn<|hm.s.t w
  exact Ec (Hl (A:=P.A.in1) hh l t (tne l<|J8 I) xs.T) ht E ⟨I,T⟩ ne (λm=>(mc m).e ne λm=>tne it ⟨_,E,_,U⟩ (m1 m).s) (Y rZ r.E) hk (f:=λv=>.e (j+1,g.d<|j+1)) (df▸(fG▸e))
   (λy v hy w=>(r.Q w).e λy' q=>cK q.1 ((jY ..).s.t hy)▸q.2) λh' tk old v w N he R=>.B2 ht ne (N.c.1 _ _ T) (r.J N) (gL w) he R.1
 | @items n d j k ok ov ht e0 I=>
  apply aaT e;intro us q e
  apply QJ S q e0;intro es L r hz
  have hk:es.s=k:=hz.t<|bq e.1
  subst hk
  exact Kv hh I L (λen h' he H hT kp=>by
   refine hM (r.g (by rw[fJ];exact he)) λp hp u hr hr'=> ?_
   have e:=e.2
   rw[hp]at e
   refine Z? ht λelts kk pos zr1=> ?_;subst zr1
   refine .item e<|wpAny_letOwnedTupleGo_items H λaal JC J=> ?_
   replace J:gE it h' aal:=J
   exact .mk (tk:=z.s.t) (λb o n e=>(J.2 b λq=>n<|q▸.h _).t<|kp b o (λq=>n<|q▸.h _) e) λN=>⟨bB.tup (.cons ((hr.u N))<|.K<|(hr'.u N))<|⟨_,(J.2 _<|mO<|jG I).t hT,U,0,U⟩,.items ht (N.b _ _ e0) JC⟩) λhe h' k=>.fin (by have e:=e.2;rw[Mz hz he]at e;exact e)<|x4 k
 | @range j k I=>
  rcases k with _|k;(exact wpAny_pyNext_range_end hh I (Int.le_refl 0) λh' k=>.fin e<|x4 k);(exact wpAny_pyNext_range_item I (dG.M<|cD k) λh' H R=>.n e (br _ H U) (by decide) R bB.y λN=>.range<|(fR k 1▸H:IsRangeIter h' it (j+1) k 1))
end
inductive vX(P:Px)(z:Zt)(tgt:Expr)(Q:It->St->Prop):a0->cL->Prop
 |mk (z':Zt) (it:Addr) (W:List Addr) (i:It) (q:Q i z'.σ) (S:Sat P z') (G:Grows P z z') (I:gM tgt z' it W i) (x:∀a∈W,Apart P.C P.X z' a/\z.h.g a=aI):vX P z tgt Q (.r it) z'.s
def WI(P:Px)(e:Expr)(m:W It)(b:Expr):Prop:=∀z Q,Sat P z->m Q z.σ->bf P.C.b P.A (eval e P.e) (λx a=>bf P.C.b P.A (lX x) (vX P z b Q) cQ a) cQ z.s
theorem FL(S:Sat P z)(e:nsIn P.C.K dC x=M (M a))(f:P.X.e.k x=M .g)(d:(x=="__debug__")=D)(c:Q' a z.s):bf P.C.b A (eval (.N x b) P.e) Q' E z.s:=
 T5 P.X.k f (loadGlobal_global (P.X.g▸P.C.n.keeps S.1) (mg_of P.C.i P.C.n e) c) d
theorem ld_built(S:Sat P z)(e:nsIn P.C.K dC x=M aI/\lL x=M a/\x≠"__name__")(f:P.X.e.k x=M .g)(d:(x=="__debug__")=D)(c:Q' a z.s):bf P.C.b A (eval (.N x b) P.e) Q' E z.s:=
 T5 P.X.k f (loadGlobal_builtin (P.X.g▸P.C.n.keeps S.1) (mg_none_of P.C.i P.C.n e.1) (P.X.b▸P.C.f.keeps S.1) ((P.C.u x e.2.2).t e.2.1) c) d
theorem vX.g(q:Q i z'.σ)(S:Sat P z')(G:Grows P z z')(k:∀b o,z'.h.g b=M o->c.g b=M o)(n:∀a∈f,z'.h.g a=aI)(I:Le z' (z'.o z'.σ c tk)->gM d (z'.o z'.σ c tk) e f i):vX P z d Q (.r e) (Sh z'.s c tk):=
 have T:=S.u (Sh z'.s c tk) k U U
 .mk (z'.o z'.σ c tk) e f i q T.1 (G.n T.2) (I T.2.l) λa m=>have x:=dJ.K S<|n a m;⟨⟨x.1,x.2,x.3,x.4⟩,lS.m G<|n a m⟩
theorem Kt{h:Heap}:∀a∈[h.o.s],h.g a=aI:=all1<|fg _
theorem aa0{h:Heap}:∀a∈[h.o.s+1,h.o.s],h.g a=aI:=all2 (lD<|d7 _)<|fg _
theorem HL{h:Heap}:∃o,(h.p {cls:=c,data:=.f vs}).g h.o.s=M o/\o.c=c/\o.d=.f vs:=eI _ (bG _ U) U U
theorem ET(S:Sat P z')(G:Grows P z z')(r:bB z' v a)(e:jz v Q z'.σ):bf P.C.b A (lX a) (vX P z b Q) cQ z'.s:=
 e.e (λe=>oA (G:=λa=>bf P.C.b A (lX a) (vX P z b Q) cQ z'.s) S r e λn h l items m q d g f j e=>Z7 ⟨_,g,U,_,U⟩<|.g e S G (dB _ _) Kt λc=>.list (c.b _ _ d) HL) λe=>e.e
  (λe=>tM (G:=λa=>bf P.C.b A (lX a) (vX P z b Q) cQ z'.s) S r e λn h l es q d g f ok e=>Rc (S.y d) g<|.g e S G (dB _ _) Kt λc=>.keys (c.b _ _ d)<|f.L.s▸HL) λe=>e.e
  (λe=>BO (G:=λa=>bf P.C.b A (lX a) (vX P z b Q) cQ z'.s) r e λl h i t f e=>Bq t<|.g e S G (dB _ _) Kt λc=>.row (c.c.1 _ _ t) (f.J c) HL)
  λe=>pJ (G:=λa=>bf P.C.b A (lX a) (vX P z b Q) cQ z'.s) r e λl t e=>by
   rcases d:(txt l).c.all (·<128)with _|_
   .exact wpAny_pyIter_wide d<|.g e S G (dB _ _) Kt λc=>.str (k:=0) (.i U) HL
   .exact wpAny_pyIter_ascii d<|.g e S G (dB _ _) Kt λc=>.str (k:=0) (.I U) HL
theorem WI.u(x:WE P e m):WI P e (bD m jz) b:=λz Q S e=>dR (x z _ S e) λz₁ v a q S G r=>ET S G r q
theorem WI.v(y:WE P o m)(g:Slot "dict" name "dict.items")
  (l:kl o name P.e (eval o P.e)=eval o P.e) (C:lg (([]:List Expr).L+0) (hQ f<|eF [] P.e) []=Z) (A:(c.e==f.l)=Z) (x:Jh "dict") (k:typeOf (.B "dict.items")=pure (.t "method_descriptor")) (w:yT j):
  WI P (.C (.A o name c) [] [] f) (bD m Cj) j:=
 λz Q S e=>lh l C A<|dR (y z _ S e) λz₁ v a q S G r=>by
  apply tM S r q;intro n E d es q p i u ok e
  refine Dm (br _ i U) x g k (λb l=>rR (jN l)<|br _ i U)<|vr U<|gz U<|spliced_nil<|NR (S.y p) i<|Ck (eI _ (bG _ U) U U) (bu _ i) ?_
  have T:=S.u {z₁.s with heap:=z₁.h.p {cls:=.t "dict_items",data:=.f #[.r d]}} (dB _ _) U U
  exact .g (z':=⟨z₁.ρ,z₁.σ,_⟩) e T.1 (G.n T.2) (dB _ _) Kt λt=>.items w (t.b _ _ p)<|Y u.L.s<|bG _ U
theorem Hs{M':Type}{u:a0}{s:cL}(I:Nat->cL->Prop)
  (q:∀n s,I n s->bf (eN c w) A (Jo u) (λr b=>match r with
   |none=>bf (eN c w) A (Dl e l) (λf a=>R (.ok f) a) cQ b
   |some v=>bf (eN c w) A (mL d u v) (λy b=>bf (eN c w) A (A4 d l v) (λy j=>bf (eN c w) A (Dl body l) (λf a=>match f with
    |.n|.cont=>∃m,m<n/\I m a
    |.brk=>R (.ok .n) a
    |.r v=>R (.ok<|.r v) a) cQ j) cQ b) cQ b) cQ s)
  (n:Nat) (h:I n s):y9 (eN c w) A (.forLoop d u body e l) R s:=by
 refine codeAny_loop' U I (λn s x=>wpAny_noted<|aB<|dD<|aB<|wpAny_onRaise<|bP (q n s x) (λr b i=> ?_) λy y p=>p.e) n h
 rcases r with _|v;(exact aF<|.i ⟨U,codeAny_block<|bP i (λy y z=>z) λy y z=>z.e⟩);(
  refine aB<|bP i (λy t k=>aB<|bP k (λy j o=>aB<|bP o (λf a g=> ?_) λy y p=>p.e) λy y p=>p.e) λy y z=>z.e
  rcases f with _|_<;>first|exact aF (.I ⟨U,g⟩)|exact aF g)
inductive A?(P:Px)(z:Zt)(tgt:Expr)(it:Addr)(W:List Addr)(m:It->St->Prop):cL->Prop
 |mk (z':Zt) (i:It) (S:Sat P z') (G:Grows P z z') (I:gM tgt z' it W i) (x:∀a∈W,Apart P.C P.X z' a) (e:m i z'.σ):A? P z tgt it W m z'.s
theorem WS.for{bind:ak}(x:WI P iter m A)(y:WA P A bind)(w:Pn P body mb)(o:Pn P I me)
  (hs:∀x,ky iter P.e x=pure x) (hc:P.X.C=Z):WS P (.For A iter body I pos) (bD m λi Q σ=>∃k,zf bind mb me k i Q σ):=
 λz Q S e=>wpAny_For (bP (x z _ S e) (λl sS YU=>bP YU (λb KX aeo=>aeo.rec λTN it Wl i q Fc Bu JC Lc=>q.e λk q=>by
  refine Hs (M':=Unit) (λj=>A? P z A it Wl λi=>zf bind mb me j i Q) (λj aea l=>l.rec λc i Fe E6 PO n e=> ?_) k<|.mk TN i Fc Bu JC (λa m=>(Lc a m).1) q
  rcases j with _|j;(exact e.e);(
   have R:∀{h':Heap} {tk:Nat},Du Wl c.h h'->(Sat P (c.o c.σ h' tk)/\Le c (c.o c.σ h' tk))/\Grows P z (c.o c.σ h' tk):=λ{h' tk} k=>
    have T:=dJ.N Fe n k λa m o q=>(PO.L a m).e λo' p=>p.2.e λvs d=>Lr.l<|cK p.1 q▸d
    ⟨⟨T.1,λu u e=>e,T.2⟩,lS.s E6 T.2 k λa m=>(Lc a m).2⟩
   refine bP (PO.s hc Fe n e) (λr aeb t=>t.rec (λ{h'} q k=> ?_) λ{a sS v i'} q Z8=>bP Z8 (λu KX g=>g.rec λ{h' tk} k r=> ?_) λu u z=>z) λu u z=>z
   .have T:=R (tk:=c.s.t) k
    exact t7 T.2<|o _ Q T.1.1 q
   .have T:=R (tk:=tk) k
    refine dR (y _ _ v a T.1.1 (r T.1.2).1 q) λζ u u q XY L u=>dR (w ζ _ XY q) λH f g q E J C=> ?_
    have N:=gM.m (lS.t L J) (r T.1.2).2 λa m=>⟨(n a m).1,(n a m).2,(n a m).3,(n a m).4⟩
    have G:=T.2.n<|L.n J
    rcases f with _|_|_|v;(cases C;exact⟨j,a8 _,.mk H i' E G N.1 N.2 q⟩);(exact Y C<|.mk H _ q E G U);(cases C;exact⟨j,a8 _,.mk H i' E G N.1 N.2 q⟩);(exact C.e λa e=>Y e.1<|.mk H _ q E G<|br a U e.2))) λu u z=>z) λu u z=>z) hs
noncomputable def uC(scope:rF)(a:List Str):Bool:=
 scope.kind==.f&& !scope.isCoroutine&& !scope.isGenerator&&a.a (λx=>(scope.n.o x==M .local||scope.n.o x==M .c)&& !(x==("__debug__":Str))&& !(x==("__classdict__":Str)))&&decide a.N
theorem nb(h:(!b)=Z):b=D:=(OY b).M h
inductive XD(scope:rF)(names:List Str):Prop
 |mk (kind:scope.kind=.f) (co:scope.isCoroutine=D) (gen:scope.isGenerator=D) (all:∀x∈names,(scope.n.o x=M .local\/scope.n.o x=M .c)/\(x==("__debug__":Str))=D/\(x==("__classdict__":Str))=D) (nodup:names.N)
theorem xQ(e:uC i h=Z):XD i h:=
 have a:=an e;have b:=an a.1;have c:=an b.1;have d:=an c.1
 ⟨bW d.1,nb d.2,nb c.2,λx j=>have f:=an<|dw.m b.2 x j;have g:=an f.1;⟨(oy g.1).m bW bW,nb g.2,nb f.2⟩,of_decide_eq_true a.2⟩
theorem si(x:Str):∀(a:List (Str×mE)) (k:Nat) (c:List (Str×Addr)),a.o x=M .c\/(c.o x).i=Z->((b! k a c).o x).i=Z:=by
 intro a
 induction a with
 |nil=>exact λk c h=>h.e (λh=>nS h) id
 |cons p r e=>
  intro k c h
  unfold b!
  rw[fj]at h
  exact bC (b:=x==p.1) (λd=>by
   rw[d]at h
   split
   .exact e _ _<|.i (by refine Y fj<|Y d ?_;rfl)
   .rename_i f
    exact e _ _<|.i<|h.e (λh=>absurd (by refine Y (sJ h) ?_;rfl) f) id) λd=>by
   rw[d]at h
   split
   .exact e _ _<|h.m id λh=>Y fj<|Y d h
   .exact e _ _ h
theorem Hg(h:x∉bs.m (·.1)):∀m,bindL kd bs m x=m x/\bindC kd bs m x=m x:=by
 induction bs with
 |nil=>exact λm=>⟨U,U⟩
 |cons p r a=>
  intro m
  have a:=a λz=>h<|.t _ z
  have b:x≠p.1:=λz=>h<|z▸.h _
  by_cases q:kd p.1=M .local
  .unfold bindL bindC;rw[if_pos q,if_pos q];exact⟨(a _).1.t<|if_neg b,(a m).2⟩
  .unfold bindL bindC;rw[if_neg q,if_neg q];exact⟨(a m).1,(a _).2.t<|if_neg b⟩
theorem Fi(a:(bs.m (·.1)).N)(h:(x,v)∈bs):∀m,(kd x=M .local->bindL kd bs m x=M v)/\(kd x≠M .local->bindC kd bs m x=M v):=by
 induction bs with
 |nil=>exact by cases h
 |cons p r b=>
  intro m
  rw[dc,eX]at a
  unfold bindL bindC
  refine(mc h).e (λq=> ?_) λq=> ?_
  .subst q;exact⟨λq=>by rw[(Hg a.1 _).1,if_pos q,if_pos U],λq=>by rw[(Hg a.1 _).2,if_neg q,if_pos U]⟩
  .exact⟨(b a.2 q _).1,(b a.2 q _).2⟩
noncomputable def YB(qual:Str)(scope:rF)(L f:Addr)(cdv:a0):Env:={scope:=scope,locals:=L,globals:=dC,cells:=b! (L+1) scope.n [],qual:=qual++".<locals>.",func:=M f,code:=cdv,frame:=M L,builtins:=j3}
def Q0(qual:Str)(scope:rF)(L f:Addr)(cdv:a0)(names:List Str)(outer:List Env)(e:uC scope names=Z):Fx where
 e:=YB qual scope L f cdv
 C:=Z
 f:=YB qual scope L f cdv::outer
 n:=names
 k:=(xQ e).1
 g:=U
 b:=U
 N:=(xQ e).5
 K:=λx hx=>((xQ e).4 x hx).1.m id λq=>⟨.I q,i0.m<|si x _ _ _<|.I q⟩
 P:=λx hx=>((xQ e).4 x hx).2
def SF(P:Px)(z:Zt)(Q:ab)(r:Result)(s':cL):Prop:=∃a,r=.ok (.r a)/\ez P z Rep Q a s'
def WF(C:Cx)(n:Nat)(f:Addr)(a:List V->W V):Prop:=
 ∀X A (ok:Dw X n A) z Q vs as,X.C=Z->dJ C X z->bJ z vs as->a vs Q z.σ->y9 C.b A (.call (.r f) ⟨as,[]⟩) (SF ⟨C,X,n,A,ok⟩ z Q) z.s
theorem Dw.d(a:Dw X (n+1) A)(c:X.C=Z)(b:Y'.f=Y'.e::X.f):Dw Y' n (A.deeper Y'.e):=
 ⟨λx=>a.1 c,bI (i5<|yI ..) a.2,bI (by exact gD (zQ 126) U) a.3,a.4,by show A.frames.m (Y'.e::·)=_;refine Y a.5<|Y b ?_;rfl⟩
theorem dJ.enter(S:dJ C X z)(k:∀b o,z.h.g b=M o->d.g b=M o)(p:z.h.g Y'.e.l=aI)(j:C.s.g Y'.e.l=aI->d.F C.s Y'.f)(g:∀b∈Y'.r,b=Y'.e.l\/b∈X.r)
  (locs:∀(i:Nat) x v,Y'.n[i]?=M x->a[i]?=M v->v≠.u->∃y,Ha Y'.e d x y/\bB (z.o ⟨a,z.σ.h,z.σ.n⟩ d tk) v y) (r:a.L=Y'.n.L)
  (f:∃m,d.N Y'.e.l m):dJ C Y' (z.o ⟨a,z.σ.h,z.σ.n⟩ d tk):=
 have A:=S.K p
 have l:=⟨λw w e=>e,qo k⟩
 ⟨λb o e=>k b o<|S.1 b o e,λb c=>⟨(S.2 b c).1,λm=>A.4<|m1 m▸c⟩,all1 A.1,S.4,λn o e=>(S.5 n o e).u l λw w w w q=>k _ _ q,S.6,j A.1,
  λb m c=>(g b m).e (λe=>A.4<|e▸c) λm=>S.8 b m c,locs,r,f,S.12,S.13⟩
noncomputable def back(z z':Zt):Zt:=⟨z'.ρ,⟨z.σ.l,z'.σ.h,z'.σ.n⟩,z'.s⟩
theorem dJ.Rv(S:dJ C X z)(l:Le z (back z z'))(g:∀m,z.h.N X.e.l m->z'.h.N X.e.l m)(f:¬Own z'.ρ X.e.l)(d:z'.h.F C.s X.f)(c:∀b∈X.r,¬Own z'.ρ b)(a:dJ C Y' z'):dJ C X (back z z'):=
 S.s l U g (a.12.t S.12.s) (a.13.t S.13.s) a.1 (λb i=>⟨(a.2 b i).1,λj=>f<|m1 j▸i⟩) a.4 (λn o e=>BH.u (z:=z') (z':=back z z') ⟨λx x e=>e,.l _⟩ (a.5 n o e) λx x x x q=>q) a.6 d c
theorem dJ.leave(S:dJ C X z)(d:z₁.ρ=z.ρ)(k:∀b o,z.h.g b=M o->z₁.h.g b=M o)(g:z.h.g Y'.e.l=aI)(r:z'.h.F C.s Y'.f->z'.h.F C.s X.f)(l:∀b∈X.r,b∈Y'.r)(j:dJ C Y' z')(G:lS Y'.p z₁ z'):
  dJ C X (back z z')/\lS X.p z (back z z'):=
 have c:=⟨⟨λf a e=>G.b f a<|d▸e,(qo k).n G.c⟩,λf a e=>(G.N f a e).m (λq=>d▸q) λq=>none_of λo e=>dq q<|k _ _ e,
  λb o e n x=>G.K b o (k b o e) (d.s▸n) λm=>dq g<|m1 m▸e,λb o e=>G.A b o<|k b o e⟩
 ⟨S.Rv c.toLe (λm q=>FW q λo e=>G.K _ o (k _ o e) (d.s▸λi=>(S.2 _ i).2<|.h _) λm=>dq g<|m1 m▸e)
  (λi=>i.e λf e=>(c.N f _ e).e (λq=>(S.2 _ ⟨f,q⟩).2<|.h _) λq=>(S.xU<|.h _).e λx p=>dq q p.1) (r j.7) (λb s=>j.8 b<|l b s) j,c⟩
theorem FA{X Y':Fx}(h:Y'.f=Y'.e::X.f)(a:Y'.e.f=M Y'.e.l):Y'.r=Y'.e.l::X.r:=by delta Fx.r;exact Y h<|Y Ll<|Y a U
theorem WF.K{an:Option Addr}{na:Nat}(ps t:List Str)
  (ho:C.K.o f=M ⟨oc,od,.F<|fnOf name u params body k dV kV doc pm an E ct,osl⟩) (hcd:codeIn C.K E u=Z) (pY:uC k (ps++t)=Z)
  (hb:∀(s:cL) as,(∀b o,C.s.g b=M o->s.h.g b=M o)->as.L=na->XB s (fnOf name u params body k dV kV doc pm an E ct) ⟨as,[]⟩ (ps.z<|as++ds))
  (hd:∀z,(∀b o,C.s.g b=M o->z.h.g b=M o)->bJ z J ds) (hl:ps.L=na+ds.L) (hbody:∀L outer A ok,Pn ⟨C,Q0 u k L f E (ps++t) outer pY,n,A,ok⟩ body m):
  WF C (n+1) f λvs Q σ=>vs.L=na/\Cg (vs++J++aQ t.L .u) m Q σ:=by
 intro X A ok z Q vs as hc S r zi;obtain⟨hlen,e⟩:=zi
 have K:=xQ pY
 have rA:=r.S<|hd z S.1
 have lA:(as++ds).L=ps.L:=Y aL<|Y r.E<|Y hlen<|Y hl U
 have nd:=(Ar<|i5 lA.s).s▸(j2.m K.5).1
 refine codeAny_call_function (bI (kW _ _) ok.2) (S.1 _ _<|C.i _ _ ho) U K.2 K.3 U (codeRec_of (λa o q=>S.1 _ _<|C.i a o q) hcd)<|hb z.s as S.1 (r.E.t hlen) _ _ _ _
  <|wpAny_newFunctionEnv_cells K.1 (λx hx=>(K.4 x.1<|iY _ (TZ hx).1).1.m id λq=>⟨q,si _ _ _ _<|.I q⟩) λenv he sS I=> ?_
 subst he
 refine⟨C.N.keeps λb o e=>I.toInCall.keep b o<|S.1 b o e,codeAny_func<|Fw I.done λR tk zr1 hk=> ?_⟩;subst zr1
 have hns:=I.toInCall.ns
 have l:Le z (z.o ⟨vs++J++aQ t.L .u,z.σ.h,z.σ.n⟩ R tk):=⟨λw w e=>e,qo hk⟩
 have T:dJ C (Q0 u k z.h.o.s f E (ps++t) X.f pY) (z.o ⟨vs++J++aQ t.L .u,z.σ.h,z.σ.n⟩ R tk):=S.enter hk (fg _)
  (λd=>hns.e λo q=>q.e λes q=>q.e λep q=>⟨K.1.s▸by decide,(mK _ o U d q.1 λvs e=>cn<|q.2.1.s.t e),S.7.of_keeps λb o e w=>br o (hk b o e) U⟩)
  (λb m=>eT.m<|FA (Y':=Q0 u k z.h.o.s f E (ps++t) X.f pY) U U▸m) (λi x v e1 e2 e3=>by
   have q:=(show ps[i]?=M x/\(HAppend.hAppend vs J)[i]?=M v from by
     rcases qH i ps.L with q|q
     .exact⟨(b0 q).s.t e1,(b0<|((rA.E▸lA))▸q).s.t e2⟩
     .rw[bO (((rA.E▸lA))▸q)]at e2
      exact absurd (cU<|aJ e2) e3)
   refine cz (rA.Q q.2) λy hy ry=> ?_
   have hm:(x,y)∈ps.z (as++ds):=aJ<|rD.M ⟨q.1,hy⟩
   refine br y ?_<|ry.u l
   rcases(K.4 x<|iY _<|aJ q.1).1 with q|q
   .exact .I ⟨q,_,hns,(Fi nd hm _).1 q⟩
   .obtain⟨c,hc⟩:=i0.m<|si x k.n (z.h.o.s+1) []<|.I q
    exact .i ⟨.I q,c,hc,((Fi (kd:=(YB u k z.h.o.s f E).k) nd hm λw=>aI).2 λp=>by cases q.s.t p)▸I.cell x c hc⟩)
  (by show(vs++J++aQ t.L V.u).L=(ps++t).L;exact Y aL<|rR rA.E<|Y lA<|Y aL<|Y bx U)<|⟨_,hns⟩
 refine dR (P:=⟨C,Q0 u k z.h.o.s f E (ps++t) X.f pY,n,_,ok.d hc U⟩) (hbody _ _ _ _ _ _ T e) λN fl g q Fc Bu H=> ?_
 have j:=dJ.leave (z₁:=z.o ⟨vs++J++aQ t.L V.u,z.σ.h,z.σ.n⟩ R tk) (Y':=Q0 u k z.h.o.s f E (ps++t) X.f pY) S U hk (fg _) (λp=>p.2.2) (λb m=>FA (Y':=Q0 u k z.h.o.s f E (ps++t) X.f pY) U U▸.t _ m) Fc Bu
 refine br _ U<|.mk (back z N) (SE fl) q j.1 j.2 ?_
 have l:Le N (back z N):=⟨λw w e=>e,.l _⟩
 cases fl with
 |r v=>exact H.e λa e=>Y e.1<|e.2.u l
 |n=>exact Y H bB.pG
 |brk=>exact Y H bB.pG
 |cont=>exact Y H bB.pG
theorem Dw.l(a:Dw X n A)(h:k<=n):Dw X k A:=
 ⟨a.1,bI (bH h _) a.2,bI (cm (bH (gy 8 h) _) _) a.3,a.4,a.5⟩
theorem Dw.i(a:Dw X (n+1) A):Dw X n A.in1:=
 ⟨a.1,bI (bH (d7 n) _) a.2,bI (by exact gD (zQ 80) U) a.3,a.4,a.5⟩
theorem Dw.m(a:Dw X (n+1) A):Dw X n (A.under<|.builtin "type.__call__" ⟨.r c::as,[]⟩):=by
 have w:(XF "type.__call__" ⟨.r c::as,[]⟩).weight=1:=U
 have u:(XF "type.__call__" ⟨.r c::as,[]⟩).cUnits=1:=U
 refine⟨a.1,bI (Y w<|i5<|yI ..) a.2,bI (Y u<|gD (zQ 80) U) a.3,?_,?_⟩
 .exact a.4
 .exact a.5
theorem ez.p(y:ez ⟨C,X,n,A,ok⟩ z R Q a s):ez ⟨C,X,n',d,c⟩ z R Q a s:=y.rec λz' b q S G r=>.mk z' b q S G r
inductive Fn(C:Cx)(k:Nat)(f:Addr)(mf:List V->W V):Prop
 |mk (wf:WF C k f mf) (fn:∃oc od fd osl,C.K.o f=M ⟨oc,od,.F fd,osl⟩)
inductive JG(C:Cx)(k:Nat)(c:Addr)(name:Str)(mf:List V->W V):Prop
 |mk (ex:∃f,Fn C k f mf/\jo C.K (.r c) name=M (M (.r f))/\Xr C.K (.r f)=M (.t "function")) (own:∀i,C.A i≠name)
section
variable{ma:W (List V)}{id:String}
theorem WF.l(i:WF P.C k f g)(h:k<=P.n)(d:P.X.C=Z):Ls P (λb=>call (.r f) b) g Rep:=λz Q vs b S r e=>
 Ju<|wu (i P.X P.A (P.o.l h) z Q vs b d S r e) λr c y=>by obtain⟨a,rfl,y⟩:=y;exact ez.p y
theorem Ab{E:a0->cL->Prop}{Q:a0->cL->Prop}(j:Fn P.C k f v)(h:k<=P.n)(u:P.X.C=Z)(p:(hQ c<|eF b P.e).a (λt=> !t.1)=Z)(y:Pm P (hQ c<|eF b P.e) ma)(S:Sat P z)(r:bJ z vs i)(e:ma (λg=>v (vs++g) Q') z.σ):
  bf P.C.b P.A (ab6 c (.r f) i (hQ c<|eF b P.e) []) (ez P z Rep Q') cQ z.s:=
 j.2.e λx q=>q.e λw q=>q.e λfd q=>q.e λo m=>callWith_function<|gz p<|dR (y z _ S e) λz₁ g l q a G d=>⟨⟨a.1 _ _<|P.C.i _ _ m,U⟩,t7 G<|j.1.l h u z₁ Q' (vs++g) (i++l) a ((r.mono G).S d) q⟩
noncomputable def two(a b:Addr)(t:Bool):Option Addr:=cond t (M b)<|M a
theorem WE.make(y:Pm P (hQ i<|eF g P.e) ma)(hf:WF P.C k N mf)(h:k+1<=P.n)(hk:keepIn P.C.K (.r c)=Z)(L:c∈P.C.l)(hi:jo P.C.K (.r c) "__init__"=M (M<|.r N))(H:Xr P.C.K (.r N)=M (.t "function"))
  (hg:nsIn P.C.K dC x=M (M<|.r c)) (hx:P.X.e.k x=M .g) (hd:(x=="__debug__")=D) (J:(hQ i<|eF g P.e).a (λt=> !t.1)=Z) (E:P.X.C=Z):WE P (.C (.N x p) g [] i) (bD ma<|Ah c mf):=
 λz Q S e=>iW<|FL S hg hx hd<|callWith_of (by
  rw[show backToKw i (keywordEach [] P.e)=[]from U,List.any_nil,ef];exact any_false J) (keeps_K hk)<|gz J
  <|dR (y z _ S e) λz₁ vs xs q S G r=>⟨S.v,t7 G<|by
   refine Ju<|make_core (makes_of S.v (Hi<|P.C.g c L).6) (Pw S.v hi) (λA=>bind_fn S.v A H) (.I U) ?_
   have k1:∀b o,z₁.h.g b=M o->((z₁.h.p emptyDict).p<|Dn c z₁.h.o.s).g b=M o:=λb o q=>bu _<|bu _ q
   refine cz q λn hb q=> ?_
   have T:=dJ.new (tk:=z₁.s.t) (f:=two (z₁.h.o.s+1) z₁.h.o.s) (o:=.i c []) S hb k1 (λt a q=>by rcases t with _|_<;>cases q;exact lD<|d7 _;exact fg _) (λa q q'=>absurd (sJ<|q.t q'.s)<|AY _) (λw w=>U)
    λl=>⟨z₁.h.o.s+1,z₁.h.o.s,λw=>aI,mi D,mi Z,by heap_get,.of_empty ⟨_,_,_,bu _<|bG _ U,U,λq R=>by simp at R,λw=>U⟩,⟨λn v q=>nS q,λy x q=>nS q⟩,L⟩
   refine wu (hf P.X _ (P.o.l h).m ⟨_,_,_⟩ _ (.L n::vs) (.r (z₁.h.o.s+1)::xs) E T.1 (.cons (bB.yd<|mi D)<|r.J T.2.toLe) q) λr I y=> ?_
   obtain⟨a,rfl,y⟩:=y
   cases y with
   |mk u b q m d j=>
    obtain rfl:=HK q.1
    exact⟨j,.mk u _ q.2 m (lS.t T.2 d)<|(bB.yd<|mi D).u d.toLe⟩⟩
theorem W7{G:a0->Prop}(S:Sat P z)(r:bB z v a)(e:fU v Q z.σ)(k:∀l d b c,Q c z.σ->InstAt z.h l (Dn c d) c (M b)->c∈P.C.l->(∀name,(∀i,P.C.A i≠name)->shadowIn (M b) name=M D)->G (.r l)):G a:=
 Ie S r e λn c y l d mm q w t s ns p o e=>(zw (name:="") ns).e λb q=>k l d b c e ⟨s,U,U,q.1⟩ o λname m=>(zw ns).e λj f=>by
  delta shadowIn
  dsimp only
  refine Y (cK q.1 f.1)<|Y f.2<|Y (none_of λu g=>(p.2 _ _ g).e λi q=>q.e λx q=>m i q.2) ?_
  rfl
theorem WE.qM{mt:Addr->Option (List V->W V)}(w:WE P o m)(y:Pm P (hQ g<|eF b P.e) ma)(u:∀c s,mt c=M s->JG P.C k c name s)(h:k<=P.n)
  (hb:kl o name P.e (eval o P.e)=eval o P.e) (hm:lg (b.L+0) (hQ g<|eF b P.e) []=Z) (hp:(p.e==g.l)=Z) (T:(hQ g<|eF b P.e).a (λt=> !t.1)=Z) (j:P.X.C=Z):
  WE P (.C (.A o name p) b [] g) (bD m λv=>bD (fU v) λc=>bD (λQ σ=>(mt c).i=Z/\ma Q σ) λvs=>fV mt c<|v::vs):=
 λz Q S e=>lh hb hm hp<|dR (w z _ S e) λz₁ v a q S G r=>by
  have H:=r
  revert H
  apply W7 S r q;intro l d od c q R N L H
  obtain⟨s,i⟩:=i0.m q.1
  have K:=Hi<|P.C.g c N
  refine eV (u c s i).1 λf J A I=>method_fn S.v R K.2 K.3 A I (L name (u c s i).2)<|bP (Ab (E:=cQ) (Q:=λx x=>True) J h j T y S (.K H) ?_) (λx x y=>y.T G) λx x y=>y
  have q:=q.2
  unfold fV at q
  have q:=i▸q
  exact q
theorem Tw(h:jo P.C.K (.r c) "__bool__"=M aI)(g:jo P.C.K (.r c) "__len__"=M aI):L1 P Jr (Wh c) G9:=λz Q v a S r e=>by
 rcases e with e|e
 .obtain rfl:=HK e.1;exact x7 (G:=λa=>bf P.C.b P.A (Jr a) (ez P z G9 Q) cQ z.s) r<|aF<|.mk z _ e.2 S .k U
 .apply Ie S r e;intro n c' p l d mm q o m f ns k j e
  obtain rfl:=bq e.1
  refine cz (Ki f ns "__bool__") λi b x=> ?_
  exact aB<|aB<|aB<|b.type.here<|(Pw S.v h).here<|aF<|aB<|aB<|b.type.here<|(Pw S.v g).here<|aF<|.mk z _ e.2 S .k U
theorem Ry{mt:Addr->Option (List V->W V)}(u:∀c m,mt c=M m->JG P.C k c "__len__" m)(h:k+1<=P.n)(j:P.X.C=Z):Lf P "len" (Rx mt):=λz Q vs R S I e=>by
 match vs,e with
 |[v],e=>
  apply Zo I;intro a r
  have s:=r
  revert s
  apply W7 S r e;intro l d N c q H L J s
  delta fV at q
  rcases g:mt c with _|m;(rw[g]at q;exact q.e);(
   rw[g]at q
   refine eV (u c m g).1 λf E p A=>Dr kind_len l! d! (args_len1 _)<|aB<|aF<|aB<|special_fn S.v H p A<|dR (E.1.l (P:=⟨P.C,P.X,k,_,(P.o.l h).i⟩) (aG _) j z _ [v] [.r l] S (.K s) q) λx b a q S G r=>eV q λw o y q=> ?_;subst o
   generalize hz:aY w=i at r q
   have hz:i=w:=hz.s
   revert q
   apply FE r;intro t q
   refine aB<|bK<|aF<|aB<|Um ?_
   refine Y (if_neg (by exact iN hz)) ?_
   exact Y (if_neg (by exact uo.M<|Y hz<|iU y U))<|aB<|Uo<|aF<|br _ U<|ez.p<|.T G<|.t _ q S .y)
end
noncomputable abbrev KY(ifs:List Expr)(env:Env)(b:Bool):Sem Bool:=forIn ifs b λc r=>if r=Z then do let ok<-isTrue c env (eval c env);pure (se ok)else pure (se r)
noncomputable def WZ(c:Expr)(b:a0)(a:Env):Sem Unit:=do let _<-call (.B "list.append") [b,<-eval c a]
noncomputable def WY(f d:Expr)(a:Addr)(b:Env):Sem Unit:=do
 let c<-eval f b
 let e<-Pu [c] (eval d b)
 zV {f.pos with endLine:=d.pos.e,endCol:=d.pos.endCol}
 Pu [c,e] (Yv a c e)
noncomputable def v?(e a f:Expr)(i:List Expr)(h g:a0)(b:Env)(d:Sem Unit):Sem Fin:=do
 zV f.pos
 match<-Jo h with
 |none=>pure<|.done .n
 |some v=>
  mL a h v
  A4 a b v
  let mut ok:=Z
  for c in i do
   if ok then ok<-isTrue c b (eval c b)
  if ok then d
  again (.c e 0 h g b)
inductive DU(e target iter:Expr)(ifs:List Expr)(emit:Addr->Env->Sem Unit):Prop
 |mk (cl:clausesOf e=[⟨target,iter,ifs,0⟩]) (tree:∀it D' env,compTurn e 0 it (.r D') env=v? e target iter ifs it (.r D') env (emit D' env)) (under:∀(A:sT) it acc env,A.under (.c e 0 it acc env)=A) (den:∀prog w it acc env,(eN prog w).den (.c e 0 it acc env)=(compTurn e 0 it acc env).onRaise λx=>do j! x env;theTreesLotGoes x) (GC:∀{prog:yW} {w:yJ} {A:sT} {it acc:a0} {env:Env} {R:Result->cL->Prop} {s:cL},y9 (eN prog w) A (.c e 0 it acc env) R s->bf (eN prog w) A (lX it) (λit' s'=>y9 (eN prog w) A (.c e 0 it' acc env) R s') (notedBy (eN prog w) A env λx s'=>R (.error x) s') s->y9 (eN prog w) A (.compStart e 0 it acc env) R s)
theorem BR(f b c:Expr)(e:List Expr)(d:rF)(g:Pos):DU (.L f [⟨b,c,e,0⟩] d g) b c e λa=>WZ f (.r a):=
 ⟨U,λx x x=>compTurn_list ..,λx x x x=>U,λx x x x x=>U,codeAny_compStart_list⟩
theorem J0(g f a b:Expr)(d:List Expr)(c:rF)(e:Pos):DU (.DictComp g f [⟨a,b,d,0⟩] c e) a b d (WY g f):=
 ⟨U,λx x x=>compTurn_dict ..,λx x x x=>U,λx x x x x=>U,codeAny_compStart_dict⟩
inductive u!(P:Px)(z:Zt)(W:List Addr)(Q:aj):cL->Prop
 |mk (z':Zt) {h':Heap} {tk:Nat} (q:Q () z'.σ) (S:Sat P (z'.o z'.σ h' tk)) (k2:K2 z'.h h') (G:lS (W++P.X.p) z z') (k:Du W z'.h h'):u! P z W Q (Sh z'.s h' tk)
inductive w!(P:Px)(z:Zt)(tgt:Expr)(it:Addr)(W:List Addr)(m:It->St->Prop):cL->Prop
 |mk (z':Zt) (i:It) (S:Sat P z') (G:lS (W++P.X.p) z z') (I:gM tgt z' it W i) (x:∀a∈W,Apart P.C P.X z' a) (e:m i z'.σ):w! P z tgt it W m z'.s
inductive Qb(P:Px):List Expr->List (W Bool)->Prop
 |nil:Qb P [] []
 |cons {c:Expr} {m:W Bool} {cs:List Expr} {ms:List (W Bool)} (x:WB P c m) (y:Qb P cs ms):Qb P (c::cs) (m::ms)
theorem lS.I(G:lS p z z₁)(g:lS i z₁ d)(h:∀b∈i,z.h.g b=aI):lS p z d:=
 ⟨⟨λk a e=>g.b k a<|G.b k a e,G.c.n g.c⟩,λk a e=>(g.N k a e).e (G.N k a) λq=>.i<|G.m q,
  λb o e n f=>(G.K b o e n f).e λc q=>(g.K b c q.1 (G.w e n) λm=>dq (h b m) e).i λl j=>⟨j.1,q.2.q j.2⟩,λb o e=>(G.A b o e).e<|g.A b⟩
theorem lS.v{W:List Addr}(G:lS f z₀ z)(l:K2 z.h c)(k:Du W z.h c)(j:∀a∈W,a∈f)(i:∀a∈W,PJ c a):lS f z₀ (z.o σ c tk):=
 ⟨⟨G.b,G.c.n l⟩,G.N,λb o q g d=>(G.K b o q g d).i λo' e=>⟨k b o' (λw=>d<|j b w) e.1,e.2⟩,λb o q=>(G.A b o q).e λo' e=>if w:b∈W then(i b w).i λx p=>p.1 else⟨o',k b o' w e⟩⟩
section
variable{P:Px}
theorem IS(f:Q D s):∀a,bf M' A (KY a e D) Q E s
 :=λd=>d.R (aF f) λc g b=>by
  show bf _ _ (forIn (_::_) _ _) _ _ _
  rw[uq]
  exact aB<|aF b
theorem Qb.r(x:Qb P d g):Sm P (KY d P.e Z) (lG g) G9:=by
 induction x with
 |nil=>exact .u λw=>U
 |cons x y f=>
  intro z Q S e
  show bf _ _ (forIn (_::_) _ _) _ _ _
  rw[uq]
  refine aB<|aB<|dR (x z _ S e) λz₁ b a q c G r=>Y r<|aF ?_
  rcases b with _|_;(exact IS (.mk z₁ _ q c G U) _);(exact t7 G<|f z₁ Q c q)
theorem Fs{J:a0}(H:DU e d L E y)(I:Nat->cL->Prop)
  (u:∀n s,I n s->bf (eN c w) A (Jo J) (λr b=>match r with
   |none=>R (.ok .n) b
   |some v=>bf (eN c w) A (mL d J v) (λx b=>bf (eN c w) A (A4 d p v) (λx k=>bf (eN c w) A (KY E p Z) (λok f=>
    if ok=Z then bf (eN c w) A (y a p) (λx j=>∃m,m<n/\I m j) cQ f else∃m,m<n/\I m f) cQ k) cQ b) cQ b) cQ s) (n:Nat) (s:cL) (h:I n s):y9 (eN c w) A (.c e 0 J (.r a) p) R s:=by
 refine codeAny_loop U I (λn s N=> ?_) n h
 rw[H.3,H.4]
 refine wpAny_noted ?_
 rw[H.2]
 refine aB<|dD<|aB<|bP (u n s N) (λr b i=> ?_) λx x o=>o.e
 rcases r with _|v;(exact aF i);(
  refine aB<|bP i (λx C l=>aB<|bP l (λx k t=>aB<|bP t (λok f g=> ?_) λx x o=>o.e) λx x o=>o.e) λx x z=>z.e
  rcases ok with _|_;(exact aF ⟨U,g⟩);(exact aB<|bP g (λx j q=>aF ⟨U,q⟩) λx x o=>o.e))
theorem Nn{bind:ak}(hT:DU e E iter ifs emit)
  (y:WA P E bind) (t:Qb P ifs ms) (u:∀z Q,Sat P z->z.ρ (d,D)=M c->J Q z.σ->bf P.C.b P.A (emit c P.e) (ez P z TT Q) cQ z.s)
  (hc:P.X.C=Z) (S:Sat P z) (I:gM E z it Wl i) (x:∀a∈Wl,Apart P.C P.X z a) (hd:z.ρ (d,D)=M c) (q:q5 bind (lG ms) J k i Q z.σ):
  y9 P.C.b P.A (.c e 0 (.r it) (.r c) P.e) (λr s'=>r=.ok .n/\u! P z Wl Q s') z.s:=by
 refine Fs hT (λj=>w! P z E it Wl λi=>q5 bind (lG ms) J j i Q) (λj aea l=>l.rec λn i Fe E6 PO f e=> ?_) k z.s<|.mk z i S (.r ..) I x q
 rcases j with _|j;(exact e.e);(
  have H:∀{h':Heap} {tk:Nat},Du Wl n.h h'->Sat P (n.o n.σ h' tk)/\K2 n.h h':=λ{h' tk} k=>
   dJ.N Fe f k λa m o q=>(PO.L a m).e λo' p=>p.2.e λvs d=>Lr.l<|cK p.1 q▸d
  refine bP (PO.s hc Fe f e) (λr aeb t'=>t'.rec (λ{h'} q k=> ?_) λ{a sS v i'} q Z8=>bP Z8 (λw KX g=>g.rec λ{h' tk} k r=> ?_) λw w z=>z) λw w z=>z
  .exact⟨U,.mk n q (H k).1 (H (tk:=n.s.t) k).2 E6 k⟩
  .have T:=H (tk:=tk) k
   have r:=r ⟨λw w e=>e,T.2⟩
   refine dR (y _ _ v a T.1 r.1 q) λζ w w q XY Uw w=>dR (t.r ζ _ XY q) λabL b b' q K! R ad6=>Y ad6 ?_
   have N:=gM.m (lS.t Uw R) r.2 λa m=>⟨(f a m).1,(f a m).2,(f a m).3,(f a m).4⟩
   have G:=lS.t (E6.v T.2 k (λa m=>iY _ m) r.2.L)<|lS.q (Uw.n R) λb m=>Jc _ m
   rcases b with _|_;(exact br j (a8 _)<|.mk abL i' K! G N.1 N.2 q);(exact dR (u abL _ K! (G.b _ _ hd) q) λaes w w q acK L w=>have N:=gM.m L N.1 N.2;br j (a8 _) (.mk aes i' acK (G.t<|lS.q L λb m=>Jc _ m) N.1 N.2 q)))
theorem gM.u(I:gM f z c h i)(q:Q (.r c) z.s):bf P.C.b A (lX<|.r c) Q E z.s:=by
 cases I with
 |list e I=>exact wpAny_pyIter_listiter I q
 |row T r I=>exact wpAny_pyIter_tupleiter I q
 |keys e I=>exact wpAny_pyIter_keyiter I q
 |str a I=>exact a.e (λe=>wpAny_pyIter_striter_ascii (e▸I) q) λe=>wpAny_pyIter_striter_wide (e▸I) q
 |B1 b d e E I=>exact vE E q
 |B2 b d T r g E I=>exact vE E q
 |items b e I=>exact uk (br _ I U) Ds<|cV Ds (br _ I U) wb (aF ⟨_,U,"dict_itemiterator",_,br _ I U,jO.l,q⟩)<|F.args_dict_itemiterator_iter_1 _
 |range I=>exact wpAny_pyIter_rangeiter I q
end
inductive Jw(scope:rF)(names cap:List Str):Prop
 |mk (kind:scope.kind=.f) (free:∀x∈scope.n,x.2≠.c/\(x.2=.f->x.1∈cap)) (loc:∀x∈scope.n,x.2=.local->scope.n.o x.1=M .local) (own:∀x∈names,scope.n.o x=M .local/\(x==("__debug__":Str))=D/\(x==("__classdict__":Str))=D) (fre:∀x∈cap,scope.n.o x=M .f/\(x==("__debug__":Str))=D/\(x==("__classdict__":Str))=D) (nodup:(names++cap).N)
theorem t6{a:Type}{p:a->Bool}{l:List a}(h:l.a p=Z)(x:a)(m:x∈l):p x=Z:=dw.m h x m
theorem Ft(e:uD i h j=Z):Jw i h j:=
 have a:=an e;have b:=an a.1;have c:=an b.1;have d:=an c.1;have f:=an d.1
 ⟨bW f.1,λx m=>have g:=an<|t6 f.2 x m;⟨bne_iff_ne.m g.1,λq=>(oy g.2).e (λp=>bF<|(nb p).s.t<|beq_iff_eq.M q) og.m⟩,
  λx m q=>(oy<|t6 d.2 x m).e (λp=>bF<|(nb p).s.t<|beq_iff_eq.M q) bW,
  λx m=>have g:=an<|t6 c.2 x m;have g':=an g.1;⟨bW g'.1,nb g'.2,nb g.2⟩,λx m=>have g:=an<|t6 b.2 x m;have g':=an g.1;⟨bW g'.1,nb g'.2,nb g.2⟩,of_decide_eq_true a.2⟩
noncomputable def j6(a:List (Str×Addr))(ns:List (Str×mE))(b:List (Str×Addr)):List (Str×Addr):=(((ns.j λx=>x.2==.f).m (·.1)).reverse.m λx=>(x,(a.o x).g 0))++b
theorem Ad(ns:List (Str×mE))(b:List (Str×Addr)):j6 a ns b=(((ns.j λx=>x.2==.f).m (·.1)).reverse.m λx=>(x,(a.o x).g 0))++b:=U
theorem HS{g:Str->Addr}:∀l:List Str,(l.m λx=>(x,g x)).o x=bif l.c x then M (g x)else aI
 :=λd=>d.R U (λy r c=>by
  exact Y dc<|Y fj<|Y List.contains_cons<|bC (b:=x==y) λa=>by refine Y a<|Y (bW a) ?_;rfl λa=>Y a c)
theorem Mx(h:x∈Qs s):∃p∈s.n,p.2=.f/\p.1=x:=(mm<|As.m h).i λp q=>have f:=jP.m q.1;kb f.1 (bW f.2) q.2
theorem Ae(l:∀x∈g.n,x.2=.f->∃c,d.c.o x.1=M c):closureFor g d=pure (j6 d.c g.n []):=by
 have n:∀(f:Str×mE->List (Str×Addr)->Sem (ForInStep<|List<|Str×Addr)) (o:∀x k i,f (x,k) i=if k==.f then do let a<-cellOf d x;pure (.yield<|(x,a)::i)else pure (.yield i)),
   ∀(ns:List (Str×mE)) (b:List (Str×Addr)),(∀x∈ns,x.2=.f->∃c,d.c.o x.1=M c)->forIn ns b f=pure (j6 d.c ns b):=by
  intro f o ns
  induction ns with
  |nil=>exact λb z=>List.forIn_nil
  |cons p r j=>
   intro b h
   have j:=λb=>j b λy m=>h y<|.t _ m
   rw[uq,o]
   rcases q:p.2==.f with _|_;(exact(j _).t<|congrArg pure (by delta j6;rw[List.filter_cons_of_neg (p:=λx:Str×mE=>x.2==.f) (q▸de)]));(
    refine j8 (h p (.h _)<|bW q) λc l=> ?_
    delta cellOf
    have e:j6 d.c (p::r) b=j6 d.c r ((p.1,c)::b):=by
     delta j6
     rw[List.filter_cons_of_pos (p:=λx:Str×mE=>x.2==.f) q,dc,List.reverse_cons,aK,cN,<-Option.getD_some (a:=c),<-l];rfl
    exact Y l<|Y e<|j _)
 exact(congrArg (·>>=pure) (n (λx i=>if x.2==.f then do let a<-cellOf d x.1;pure (.yield<|(x.1,a)::i)else pure (.yield i)) (λz z z=>U) g.n [] l)|>.t (pure_bind _ _))
theorem pL{b:Env}{x:Str}{a:List (Str×mE)}:a.o x=M .f->
  (a.m λ(n,k)=>if k==BA&&b.scope.kind==.f&&b.k n==M .c then(n,Bz)else(n,k)).o x=M .c\/
  (a.m λ(n,k)=>if k==BA&&b.scope.kind==.f&&b.k n==M .c then(n,Bz)else(n,k)).o x=M .f:=by
 induction a with
 |nil=>exact λh=>nS h
 |cons p r d=>
  obtain⟨n,k⟩:=p
  intro h
  refine Y dc ?_
  dsimp only
  rw[fj]at h
  split<;>refine Y fj ?_<;>rcases c:x==n with _|_<;>rw[c]at h<;>first|exact d h|exact .I U|exact .i h
inductive qU(X:Fx)(scope:rF)(names cap:List Str)(capI:ao):Prop
 |mk (ok:Jw scope names cap) (cell:∀x∈cap,∃c,X.e.c.o x=M c) (kd:∀x∈cap,X.e.k x≠M .local) (idx:cap.m M=capI.m (X.n[·]?))
theorem qU.A(h:qU X a d b e)(m:x∈b)(q:X.e.c.o x=M c):(j6 X.e.c a.n []).o x=M c:=by
 refine Y (show(j6 X.e.c a.n []).o x=bif (Qs a).c x then M ((X.e.c.o x).g 0)else aI from by rw[Ad,bQ];exact HS _)<|Y (og.M<|As.M<|tZ.M<|br _ (jP.M ⟨sa<|(h.1.5 x m).1,U⟩) U)<|Y q ?_;rfl
noncomputable def YN(X:Fx)(L:Addr)(h:qU X scope names cap capI):Fx where
 e:=compEnvC scope (j6 X.e.c scope.n []) L X.e
 C:=X.C
 f:=X.f
 n:=names++cap
 k:=h.1.1
 g:=X.g
 b:=X.b
 N:=h.1.6
 K:=λx hx=>(bV.m hx).e (λm=>.I<|lookup_relabel_local (h.1.4 x m).1) λm=>.i ⟨pL (h.1.5 x m).1,(h.2 x m).i λc q=>h.A m q⟩
 P:=λx hx=>(bV.m hx).e (λm=>(h.1.4 x m).2) λm=>(h.1.5 x m).2
abbrev Px.c(P:Px)(L:Addr)(h:qU P.X scope names cap capI):Px:=⟨P.C,YN P.X L h,P.n,P.A,⟨P.o.1,P.o.2,P.o.3,P.o.4,P.o.5⟩⟩
theorem qU.L(h:qU X l a d e){c:aq}{i:Nat}(g:(a++d)[i]?=M x)(b:(aQ a.L V.u++e.m λj=>c[j]?.g V.u)[i]?=M v)(p:v≠.u):x∈d/\∃j:Nat,X.n[j]?=M x/\c[j]?=M v:=by
 generalize o:aQ a.L V.u=s at b
 have k:=o▸bx.s
 rcases qH i a.L with f|f
 .rw[b0 (k▸f)]at b
  exact absurd (cU<|o▸aJ b) p
 .rw[bO (k▸f),<-k,aN]at b
  have g:=bO f▸g
  have n:(d.m M)[i - a.L]?=M (M x):=by refine Y aN<|Y g ?_;rfl
  rw[h.4,aN]at n
  refine cz (oM n) λj r q=> ?_
  rw[r]at b
  refine⟨aJ g,j,q,?_⟩
  have b:c[j]?.g V.u=v:=sJ b
  rcases m:c[j]? with _|w;(rw[m]at b;exact absurd b.s p);(rw[m]at b;exact congrArg M b)
theorem dJ.comp(S:Sat P z)(h:qU P.X n a l d)(g:f.N z.h.o.s λw=>aI)(k:∀b o,z.h.g b=M o->f.g b=M o):
  Sat (P.c z.h.o.s h) (z.o ⟨aQ a.L .u++d.m λj=>z.σ.l[j]?.g .u,z.σ.h,z.σ.n⟩ f tk):=
 have T:=dJ.keeps (s':=Sh z.s f tk) S k U U
 S.enter k (fg _) (λw=>T.7) (λb m=>.i m) (λi x v E C p=>by
  obtain⟨m,j,A,u⟩:=h.L E C p
  refine cz (T.9 j x v A u p) λy r t=>br y ?_<|bB.u (z:=⟨z.ρ,z.σ,Sh z.s f tk⟩) ⟨λw w e=>e,.l _⟩ t
  rcases r with r|⟨_,c,q,r⟩
  .exact absurd r.1<|h.3 x m
  .exact .i ⟨pL (h.1.5 x m).1,c,h.A m q,r⟩) (by
  have:=congrArg kh h.4
  rw[aD,aD]at this
  show(aQ a.L V.u++d.m λj=>z.σ.l[j]?.g .u).L=(a++l).L
  rw[aL,aL,bx,aD,this]) (⟨_,g⟩)
theorem Hj{bind:ak}{emitM:ak}
  (hT:DU e target iter ifs emit) (accS:Sm P accT (pE o) Rep) (h:qU P.X scope R cap capI)
  (x:∀Q,m Q z.σ->bf P.C.b P.A (eval iter P.e) (λx sS=>bf P.C.b P.A (lX x) (vX P z target Q) cQ sS) cQ z.s) (y:∀L,WA (P.c L h) target bind) (t:∀L,Qb (P.c L h) ifs ms)
  (u:∀L d g z Q,Sat (P.c L h) z->z.ρ (d,D)=M g->emitM (.L d) Q z.σ->bf P.C.b P.A (emit g (P.c L h).e) (ez (P.c L h) z TT Q) cQ z.s)
  (hs:∀x,ky iter P.e x=pure x) (hc:P.X.C=Z) (S:Sat P z) (e':pK m (pE o) R.L capI (λd i Q σ=>∃k,q5 bind (lG ms) (emitM d) k i Q σ) Q z.σ)
  (fin:∀z' L dn g,Q (.L dn) z'.σ->Sat P z'->Apart P.C P.X z' L->(∃m,z'.h.N L m)->z.h.g L=aI->Grows P z z'->z'.ρ (dn,D)=M g->compPost P.C.b P.A cQ use Q' (.r g) L (.ok .n) z'.s):
  bf P.C.b P.A (adl e scope P.e pos accT D (eval iter P.e) use) Q' cQ z.s:=by
 refine wpAny_comprehension_free hT.1 hs (Ae λx hx hf=>h.2 x.1<|(h.1.2 x hx).2 hf) h.1.1 h.1.3<|bP (x _ e') (λxv sS E=>bP E (λb KX ia=>ia.rec λTN it Wl i q Fc Bu JC Lc=>dR (accS TN (λd σ=>∃n,d=.L n/\bD (inComp R.L capI λQ σ=>∃k,q5 bind (lG ms) (emitM d) k i Q σ) (λw=>bE d) Q σ) Fc<|q.i λn q=>⟨q.1,n,U,q.2⟩) λl d av q Fe E6 ad5=> ?_) λw w z=>z) λw w z=>z
 obtain⟨dn,rfl,k,e'⟩:=q
 apply FN ad5;intro g hd
 refine Up (λx hx=>(h.1.2 x hx).1) (λw m=>by cases m) (λE hns hsb=> ?_) h.1.1
 have N:l.h.g l.h.o.s=aI:=fg _
 have keep:=λb o e=>hsb.e b o (λq=>dq N<|q▸e)<|bu _ e
 have T:=Fe.u (Sh l.s E l.s.t) keep U U
 have M0:=lS.t E6 T.2
 have st:=λa m=>M0.S (Lc a m).1<|JC.L a m
 have dl:∀a∈Wl,a≠l.h.o.s:=λa m q=>(JC.L a m).e λo p=>(E6.A a o p.1).e λw p=>dq N<|q▸p
 have I:=JC.p (z':=l.o ⟨aQ R.L .u++capI.m λj=>l.σ.l[j]?.g .u,l.σ.h,l.σ.n⟩ E l.s.t) ⟨M0.b,M0.c⟩ λa m=>(st a m).1
 have LA:=dJ.K Fe N
 have Lx:P.X.e.l∉Wl++[l.h.o.s]:=λm=>(ma m).e (λm=>(Lc _ m).1.2<|.h _) λm=>LA.2<|m1 m▸.h _
 have Lo:=λow=>(T.1.2 _ ow).2<|.h _
 have loop:=Nn hT (y _) (t _) (u _ dn g) hc (dJ.comp Fe h hns keep) I (λa m=>have A:=(st a m).2;⟨A.1,λq=>dl a m<|m1 q,A.3,A.4⟩) hd e'
 have loop:=wu loop λr s' c=>(c.1▸c.2.rec λJ {aam tk} q H k2 v aay=>
  have f:Sat P (back (l.o l.σ E l.s.t)<|J.o J.σ aam tk):=dJ.Rv T.1 ⟨v.b,v.c.n k2⟩ (λm q=>FW q λo e=>(v.K _ o e Lo Lx).i λo' p=>⟨aay _ o' (λm=>Lx<|iY _ m) p.1,p.2⟩)
   ((T.1.xU<|.h _).e λw p=>v.w p.1 Lo) H.7 H.8 H
  have Uw:=⟨⟨v.b,v.c⟩,v.N,v.K,v.A⟩
  fin (back (l.o l.σ E l.s.t)<|J.o J.σ aam tk) _ dn g q f ⟨LA.1,LA.2,LA.3,λow=>(H.2 _ ow).2<|.h _⟩ H.11 ((lS.t Bu E6).m N)
   (lS.s (z:=J) ((lS.t Bu M0).I Uw λb m=>(ma m).e (λm=>(Lc b m).2) λm=>m1 m▸(lS.t Bu E6).m N) k2 aay λa m=>(Lc a m).2) (v.b _ _ hd):compPost P.C.b P.A cQ use Q' (.r g) l.h.o.s r s')
 exact hT.5 loop<|I.u loop
section
variable{bind:ak}{emitM:ak}
theorem Sat.E{mm:Str->Option a0}(S:Sat P z')(d:Apart P.C P.X z' L)(ns:z'.h.N L mm)(c:z.h.g L=aI)(G:Grows P z z')(a:gE L z'.h b):Sat P (z'.o z'.σ b z'.s.t)/\Grows P z (z'.o z'.σ b z'.s.t):=
 have k:=x4 a.e
 have T:=dJ.N S (all1 d) k<|all1 λo q=>ns.e λo' p=>p.e λes p=>p.e λe p=>Lr.k<|cK p.1 q▸p.2.1
 ⟨T.1,lS.s G T.2 k<|all1 c⟩
theorem WE.K(w:eval e P.e=adl e g P.e pos p D (eval c P.e))(hT:DU e b c v n)(l:Sm P p (pE o) Rep)(h:qU P.X g f cap j)(x:WI P c m b)(y:∀L,WA (P.c L h) b bind)(t:∀L,Qb (P.c L h) v ms)
  (u:∀L d a z Q,Sat (P.c L h) z->z.ρ (d,D)=M a->emitM (.L d) Q z.σ->bf P.C.b P.A (n a (P.c L h).e) (ez (P.c L h) z TT Q) cQ z.s)
  (hs:∀x,ky c P.e x=pure x) (hc:P.X.C=Z):WE P e (pK m (pE o) f.L j λd i Q σ=>∃k,q5 bind (lG ms) (emitM d) k i Q σ):=λz Q S R=>
 w▸Hj hT l h (λQ=>x z Q S) y t u hs hc S R λz' L dn a q N J ns I G H=>ns.e λmm ns=>br mm ns λE r=>have T:=N.E J ns I G r;.mk (z'.o z'.σ E z'.s.t) _ q T.1 T.2 (bB.yd H)
theorem N':Sm P (newList []) (pE<|.l []) Rep:=λz Q S e=>Ai z Q [] [] S .nil ⟨U,e⟩
theorem M!:Sm P newDict (pE<|.d []) Rep:=λz Q S e=>eZ<|HZ S e λz' d b q S G a=>.mk z' _ q S G<|bB.yd a
theorem Eb(u:WE P i k)(d:Loc)(b:Addr)(z:Zt)(Q:aj)(S:Sat P z)(j:z.ρ (d,D)=M b)(e:(bD k λx=>bD (hH (.L d) [x]) λy=>bE ()) Q z.σ):bf P.C.b P.A (WZ i (.r b) P.e) (ez P z TT Q) cQ z.s:=
 aB<|dR (u z _ S e) λz₁ x a q h G r=>aB<|dR (Hd z₁ _ (.L d) [x] (.r b) [a] h (bB.yd<|G.l.b _ _ j) (.K r) q) λg y y q f c y=>aF<|.mk g _ q f (G.n c) trivial
theorem Nr(u:WE P w mk)(v:WE P t p)(d:Loc)(c:Addr)(z:Zt)(Q:aj)(S:Sat P z)(o:z.ρ (d,D)=M c)(e:(bD mk λx=>bD p λy=>BZ (.L d) x y) Q z.σ):bf P.C.b P.A (WY w t c P.e) (ez P z TT Q) cQ z.s:=
 aB<|dR (u z _ S e) λz₁ x a q l G r=>aB<|bK<|dR (v z₁ _ l q) λm y b q k f j=>aB<|dD<|bK
  <|LZ (mC P U) k ((G.n f).l.b _ _ o) (r.n f) j q λi n q h g=>.mk i () q h ((G.n f).n g) trivial
theorem wt{Q:ah}(hsw:sR (.L o [⟨c,g,n,0⟩] e r) (M j) l.l P.e=pure Z)(h3:iT [j] P.e=[(D,WD j P.e)])(ya:WA P j f)
  (h:qU P.X e I cap capI) (x:∀Q,m Q z.σ->bf P.C.b P.A (eval g P.e) (λx sS=>bf P.C.b P.A (lX x) (vX P z c Q) cQ sS) cQ z.s) (y:∀L,WA (P.c L h) c bind) (t:∀L,Qb (P.c L h) n ms) (u:∀L,WE (P.c L h) o me) (hs:∀x,ky g P.e x=pure x) (hc:P.X.C=Z) (S:Sat P z)
  (e':(bD (pK m (pE<|.l []) I.L capI λd i Q σ=>∃k,q5 bind (lG ms) (bD me λx=>bD (hH d [x]) λw=>bE ()) k i Q σ) λv=>bD (f v) λw=>bE .n) Q z.σ):
  bf P.C.b P.A (exec (.A [j] (.L o [⟨c,g,n,0⟩] e r) l) P.e) (ez P z M6 Q) cQ z.s:=by
 show bf _ _ (do
  zV l
  if<-AU [j] (.L o [⟨c,g,n,0⟩] e r) l.l P.e then do
   evalThenUse (.L o [⟨c,g,n,0⟩] e r) P.e λv=>assignAll v<|(iT [j] P.e).m d9
   pure abT
  else do
   let v<-eval (.L o [⟨c,g,n,0⟩] e r) P.e
   assignStores P.e v (<-qC [j] (.L o [⟨c,g,n,0⟩] e r) P.e) ((iT [j] P.e).m d9)) _ _ _
 refine Y (show AU [j] (.L o [⟨c,g,n,0⟩] e r) l.l P.e=sR (.L o [⟨c,g,n,0⟩] e r) (M j) l.l P.e from U)<|Y hsw<|Y h3<|aB<|dD<|aB<|aF<|Y (if_pos U)<|aB<|aB<|Hj (BR ..) N' h x y t (λL=>Eb<|u L) hs hc S e' λz' L dn a q S' J ns hL G hd=>dR (ya z' _ (.L dn) (.r a) S' (bB.yd hd) q) λE b w q R H w=>ns.e λmm ns=>Yz ns λoL es ep q1 q2 q3=> ?_
 have N:E.h.N L mm:=(H.K L oL q1 J.4 J.2).e λo' p=>⟨o',es,ep,p.1,p.2.n.t q2,q3⟩
 exact br mm N λh' hsb=>have T:=R.E ⟨J.1,J.2,J.3,H.w q1 J.4⟩ N hL (G.n H) hsb;aF (aF<|.mk (E.o E.σ h' E.s.t) _ q T.1 T.2 U)
theorem WS.JP(q:sR (.L o [⟨a,c,n,0⟩] b p) (M e) l.l P.e=pure Z)(J:iT [e] P.e=[(D,WD e P.e)])(I:WA P e f)
  (h:qU P.X b g H j) (x:WI P c m a) (y:∀L,WA (P.c L h) a bind) (t:∀L,Qb (P.c L h) n E) (u:∀L,WE (P.c L h) o C) (A:∀x,ky c P.e x=pure x) (s:P.X.C=Z):
  WS P (.A [e] (.L o [⟨a,c,n,0⟩] b p) l) (bD (pK m (pE<|.l []) g.L j λd i Q σ=>∃k,q5 bind (lG E) (bD C λx=>bD (hH d [x]) λw=>bE ()) k i Q σ) λv=>bD (f v) λw=>bE .n):=
 λz Q S r=>wt q J I h (λQ=>x z Q S) y t u A s S r
end
abbrev Lg(h:Heap)(ea:Addr)(T:String):Prop:=∃ob t,h.g ea=M ob/\ob.c=.t T/\ob.d=.f #[t,.n,.n,.n,.b D,.n]
inductive rE(P:Px)(z:Zt)(E:String->St->Prop):a0->cL->Prop
 |mk (z':Zt) {T:String} {ea:Addr} (q:E T z'.σ) (S:Sat P z') (G:Grows P z z') (hn:z.h.g ea=aI) (ap:Apart P.C P.X z' ea) (d:Lg z'.h ea T):rE P z E (.r ea) z'.s
def Θ{b a:Type}(P:Px)(t:Sem b)(m:XW a)(R:a->b->Zt->Prop):Prop:=∀z Q E,Sat P z->m Q E z.σ->bf P.C.b P.A t (ez P z R Q) (rE P z E) z.s
abbrev XE(P:Px)(e:Expr)(m:XW V):Prop:=Θ P (eval e P.e) m Rep
abbrev Ω(P:Px)(st:List Stmt)(m:XW F):Prop:=Θ P (Dl st P.e) m M6
section
variable{P:Px}
theorem Θ.k{m:W a}(x:Sm P t m R):Θ P t (KQ m) R:=λz Q E S e=>bP (x z Q S e) (λy y z=>z) λy y z=>z.e
theorem rE.t(G:Grows P z z')(r:rE P z' E e s):rE P z E e s:=r.rec λa {T g} q S f c b d=>.mk a q S (G.n f) (lS.m G c) b d
theorem rE.n(S:Sat P z)(q:E T z.σ)(N:JA z.h a b T):rE P z E (.r b) (Sh z.s a tk):=
 have K:=S.u (Sh z.s a tk) N.keeps U U
 have x:=dJ.K S N.new
 .mk (z.o z.σ a tk) q K.1 K.2 N.new ⟨x.1,x.2,x.3,x.4⟩ N.there
theorem QP{Q:g->St->Prop}{E:a0->cL->Prop}(x:bf f A t (ez P z R Q) E s)(k:∀z' b a,Q b z'.σ->Sat P z'->Grows P z z'->R b a z'->Q' a z'.s)(d:∀e s',E e s'->c e s'):bf f A t Q' c s:=
 bP x (λa s' y=>y.rec λz' b q S G r=>k z' b a q S G r) d
theorem VM(h:Ol l k=aI):ES k l.L=aI:=by
 have a:∀j,j<l.L->(M j).b (l[·]?)≠aI:=λj g e=>sN<|(aP g).s.t e
 have c:∀i:Int,¬(0<=i/\i<l.L)->(if(decide (0<=i)&&decide (i<l.L))=Z then M i.t else aI)=aI:=λi f=>if_neg λe=>f<|(an e).imp of_decide_eq_true of_decide_eq_true
 rcases k with j|j;(exact bC (b:=bg j l.L) (λq=>absurd (show(bif bg j l.L then M j else aI).b (l[·]?)=aI from h)<|q▸a j (bt q)) λq=>c _ λe=>bF<|q.s.t<|cb.m<|dG.m e.2);(exact bC (λq=>by have d:=bt q;exact absurd (show(bif bg j l.L then M (l.L - (j+1))else aI).b (l[·]?)=aI from h)<|q▸a _ (Pc (bI (cO _) d)<|cD _)) λq=>c _ λe=>bF<|q.s.t<|cb.m (by omega))
theorem Hv{E:a0->cL->Prop}{Q:a0->cL->Prop}(b:tW s.h g items)(f:k.N<=1000)(h:ES k items.s=aI)(d:A.h=aI)
  (c:∀a tk e,JA s.h a e "IndexError"->E (.r e) (Sh s a tk)):bf P.C.b A (t9 (.r g)<|.i k u) Q E s:=by
 delta t9
 try with_reducible refine bK ?_
 first|refine aB aF ?_|skip
 refine aB<|pg b.typeIs (by decide)<|aB<|dK b.typeIs Xn<|cV Xn b.typeIs entry_tuple_getitem ?_<|args_tuple_getitem _ _
 show bf _ _ (xu (.r g)>>=_) _ _ s
 refine aB<|tupleItemsOf_ b<|aB<|PE (Js s k u)<|Y (if_neg (by decide)) ?_
 refine aB<|gH (Js s k u) int_index<|Y (if_neg (by decide))<|aB<|yO U<|Y (if_neg (by simp only[gm,decide_eq_true_eq];exact λz=>z.e (qX.M<|fy (by decide) (iA<|aC f (by decide)).1)<|uo.M<|O3 (iA<|aC f (by decide)).2 (by decide))) ?_
 simp only[h,Option.bind_none]
 first
  |exact aB<|jt (by exact_raiseError VR (d) λa tk e N=>c a tk e N)
  |exact aB<|jt<|aB (by exact_raiseError VR (d) λa tk e N=>c a tk e N)
  |skip
theorem Fu{Q:a0->cL->Prop}{E:a0->cL->Prop}(q:P.X.C=Z)(S:Sat P z)(p:z.ρ (n,D)=M l)(b:z.h.g l=M (iS es es.s))(o:fF P.C.w.p z a es.t)(ok:pq a)
  (j:bB z w y) (i:pY w 6=Z) (g:eK a w=aI) (f:∀c e tk,JA z.h c e "KeyError"->E (.r e) (Sh z.s c tk)):bf P.C.b P.A (t9 (.r l) y) Q E z.s:=by
 refine bK<|aB<|pg (br _ b U) (by decide)<|aB<|dK (br _ b U) kJ<|cV kJ (br _ b U) W0 ?_<|Yd _ _
 refine aB (m:=Pq l y)<|tj S o ok b i j (mC P U (k:=11)) (λx tk=> ?_) λv y h=>nS<|g.s.t h
 refine aB<|Xv (S.y p)<|aB<|PE (br _ b U) ?_
 exact Y (if_neg (by decide))<|aB<|jt<|wpAny_raise_newExc plainExc_KeyError (P.o.1 q) λc e d=>f c e tk d
theorem FC(H:P.X.C=Z)(S:Sat P z)(r:bB z v x)(g:bB z w y)(e:tV v w Q E z.σ):
  (∃T id,z.s.T x T/\Jt (.t T) "__getitem__"=pure (M<|.B id))/\bf P.C.b P.A (t9 x y) (ez P z Rep Q) (rE P z E) z.s:=by
 have p:∀{f},Sb P f->f v w Q z.σ->(∃T id,z.s.T x T/\Jt (.t T) "__getitem__"=pure (M<|.B id))/\bf P.C.b P.A (t9 x y) (ez P z Rep Q) (rE P z E) z.s:=
  λs e=>(s z Q v w x y S r g e).imp id λk=>bP k (λa a z=>z) λa a z=>z.e
 rcases e with⟨n,c,rfl,q,o,e⟩|⟨m,k,rfl,R,e⟩
 .rcases b:eK c w with _|u;(
   rw[b]at e
   exact FN (G:=λx=>(∃T id,z.s.T x T/\Jt (.t T) "__getitem__"=pure (M<|.B id))/\bf P.C.b P.A (t9 x y) (ez P z Rep Q) (rE P z E) z.s) r λl j=>QJ S q j λes i d hz=>⟨we "dict" _ (br _ i U) kJ.l,Fu H S j i d ((S.5 n _ q).rec λa a a a a ok=>ok) g o b λL J tk N=>.n S e N⟩);(rw[b]at e;exact p IM ⟨n,c,U,q,o,u,b,e⟩)
 .have f:=an R
  rcases b:Ol v.e k with _|u;(
   have e:=b▸e
   apply Tx r m;intro l I h d
   refine⟨we "tuple" _ h.typeIs xw.l,?_⟩
   apply FE g;intro t
   exact Hv h (d6 f.2) (Y (show I.T.s=v.e.L from d.E)<|VM b) (P.o.1 H) λL tk J N=>.n S e N);(rw[b]at e;exact p MO ⟨m,k,U,f.1,u,b,e⟩)
theorem XE.S{m:W V}(x:WE P c m)(y:XE P b s)(p:∀o i,Uk b D o i=operate [o,i] (t9 o i))(n:P.X.C=Z):XE P (.S c b l) λQ E=>m λv=>s (λw=>tV v w Q E) E:=
 λz Q E S e=>Ji<|dR (x z _ S e) λz₁ v o q S G r=>QP (y z₁ _ E S q) (λg w i q S f k=>ir (FC n S (r.n f) k q) λd u=>Fw d λT id j h=>Dp j h (bP u (λa a y=>y.T<|G.n f) λa a y=>y.t<|G.n f)<|p o i) λa a y=>y.t G
theorem XE.q{ma:W (List V)}{id:String}(x:XE P o m)(y:Pm P (hQ f<|eF d P.e) ma)(R:Kind P T n)(N:Jh T)(j:Slot T name id)(l:typeOf (.B id)=pure (.t "method_descriptor"))(u:Lm P id L)
  (J:kl o name P.e (eval o P.e)=eval o P.e) (I:lg (d.L+0) (hQ f<|eF d P.e) []=Z) (H:(i.e==f.l)=Z) (s:(hQ f<|eF d P.e).a (λt=> !t.1)=Z):
  XE P (.C (.A o name i) d [] f) λQ E=>m (λv=>bD (n v) (λw=>bD ma λvs=>L v vs) Q) E:=
 λz Q E S e=>lh J I H<|QP (x z _ E S e) (λz₁ v a q S G r=>(R z₁ _ v a S r q).e λq t=>Dm t.1 N j l t.2<|vr (any_false s)<|gz s
  <|dR (y z₁ _ S q) λh vs C q S p A=>dR (u h Q v vs a C S (r.n p) A q) λg b c q S k r=>.mk g b q S ((G.n p).n k) r) λw w y=>y
theorem Ω.l{t:Expr}(x:XE P b m)(y:WA P t f)(j:sR b (M t) c.l P.e=pure D)(i:qC [t] b P.e=pure aI)(h:iT [t] P.e=[(D,A4 t P.e)]):
  Ω P [.A [t] b c] λQ=>m λv=>f v λw=>Q .n:=λz Q E S g=>by
 show bf _ _ (exec (.A [t] b c) P.e>>=_) _ _ _
 exact Y (pB t b c P.e j i h)<|aB<|aB<|dD<|aB<|QP (x z _ E S g) (λz₁ v a q S G r=>aB<|dR (y z₁ _ v a S r q) λd w w q S e w=>aF<|aF<|.mk d _ q S (G.n e) U) λw w y=>y
end
def D2(h:Heap)(c:Addr)(T:String)(fl:a0)(tb:Addr):Prop:=
 (∃b vs,h.g c=M b/\b.c=.t T/\b.d=.f vs/\vs[1]?=M (.r tb))/\∃a ts,h.g tb=M a/\a.c=.t "traceback"/\a.d=.f ts/\ts[3]?=M fl
def Fx.h(X:Fx):Fx:={X with C:=D}
abbrev Px.H(P:Px)(ea:Addr):Px:=⟨P.C,P.X.h,P.n,P.A.mark (M (.r ea)),⟨λe=>(nomatch e),P.o.2,P.o.3,P.o.4,P.o.5⟩⟩
section
variable{tb L:Addr}
theorem dJ.slots(S:dJ C X z)(f:Heap.SlotsOnly X.r z.h g):dJ C X (z.o z.σ g tk)/\lS X.p z (z.o z.σ g tk):=
 have c:∀b o,z.h.g b=M o->∃o',g.g b=M o'/\tc o o':=λb o e=>if d:b∈X.r
   then(S.xW d).2.e λs q=>(f.2.2 b o e).e λr p=>br _ p<|.i ⟨cK q.1 e▸q.2,r,U⟩
   else br o ((f.2.1 b d).t e) (.l o)
 have n:=S.k2 λb o e x x=>(c b o e).i λx p=>⟨p.1,p.2⟩
 have l:=⟨λx x e=>e,n⟩
 ⟨S.s l U (λm q=>FW q<|c _) U U (λb o e=>(f.2.1 b λd=>dq (S.xW d).1 e).t<|S.1 b o e) S.2 S.4 (λk o e=>(S.5 k o e).u l λt a s j i=>(f.2.1 a λd=>S.8 a d ⟨_,j⟩).t i) S.6 (S.7.of_slotsOnly f) S.8,
  ⟨l,λx x e=>.I e,λb o e x x=>c b o e,λb o e=>(c b o e).i λx p=>p.1⟩⟩
theorem IY:Du [a] h (h.update a f):=λb o n e=>(jF _ _ λq=>n<|aX.M q.s).t e
theorem DH(H:P.X.f=P.e::R)(hL:P.e.f=M L)(S:Sat P z)(l:Grows P z₀ z)(hn:z₀.h.g p=aI)(u:Apart P.C P.X z p)(d:Lg z.h p T)(hT:T≠"tuple")
  (hq:∀y tb,Sat P (z.o z.σ y z.s.t)->Grows P z₀ (z.o z.σ y z.s.t)->Apart P.C P.X z tb->z₀.h.g tb=aI->D2 y p T (sV L) tb->Q () (Sh z.s y z.s.t)):bf P.C.b P.A (j! (.r p) P.e) Q E z.s:=by
 refine zc d λoe t he r w=> ?_
 delta j!
 simp only[hL]
 refine aB<|lB he w (x:=.n) U<|Y (if_neg (by decide))<|aB<|wpAny_frameOf_fun (H▸P.o.5) (H▸S.7) hL λa i=> ?_
 have e:=dJ.slots (tk:=z.s.t) S (by delta Fx.r;exact Y H i)
 have c:=(i.2.1 p (by have:=u.3;unfold Fx.r at this;rwa [H]at this)).t he
 refine aB<|wpAny_entryPlaceOf λv N=> ?_
 refine aB<|eZ ?_<|N.sizeOk5 _ _ _ _ _
 dsimp only
 generalize n:({cls:=Value.type "traceback",dict:=aI,data:=Data.fields ([jC,.r L,.n,sV L,.n]++if v.i then aQ 6 jC else v).T}:Obj)=m
 have J:m.c=.t "traceback":=n▸U
 have I:m.d=.f ([jC,.r L,.n,sV L,.n]++if v.i then aQ 6 jC else v).T:=n▸U
 refine ph (bu _ c) w (by show 1<6;decide) ?_
 have b:=dJ.K e.1<|fg a
 have g:=jM w (·.S 1<|Aa a.o.s)
 have k:Du [p] (a.p m) _:=IY (f:=GU (·.S 1<|Aa a.o.s))
 have j:=dJ.N (tk:=z.s.t) (Sat.u e.1 (Sh z.s (a.p m) z.s.t) (dB _ _) U U).1 (all1 ⟨u.1,u.2,u.3,u.4⟩) k<|all1 λo q=>Lr.l<|cK ((bu _ c)) q▸w
 refine hq _ a.o.s j.1 (lS.s (z:=z.o z.σ (a.p m) z.s.t) (lS.t (lS.t l e.2) (Sat.u e.1 (Sh z.s (a.p m) z.s.t) (dB _ _) U U).2) j.2 k<|all1 hn) ⟨b.1,b.2,b.3,b.4⟩ ((lS.t l e.2).m<|fg _) ⟨mK _ _ (eR _ (bu _ c)<|oq g) ((sf _ _).t r) g U,m,_,?_,J,I,U⟩
 rw[jF _ _ (xx<|mO<|jG c)]
 exact bG a<|n▸U
theorem tU(S:Sat P z)(d:Grows P z₀ z)(x:z₀.h.g tb=aI)(w:Apart P.C P.X z tb)(N:D2 z.h l T fl tb)(v:T≠"traceback")(u:∀g,Sat P (z.o z.σ g z.s.t)->Grows P z₀ (z.o z.σ g z.s.t)->D2 g l T .n tb->Q () (Sh z.s g z.s.t)):
  bf P.C.b A (setFlight (.r l) aI) Q E z.s:=by
 obtain⟨⟨t,vs,j,p,n,m⟩,y,ts,e,c,a,r⟩:=N
 have hsz:=(qF.m r).1
 have i:l≠tb:=λq=>v<|yY<|p.s.t<|cK (q▸j) e▸c
 refine wpAny_setFlight_none j n m e a hsz ?_
 have k:Du [tb] z.h _:=IY (f:=GU (·.S 3 jC))
 have K:=dJ.N (tk:=z.s.t) S (all1 w) k<|all1 λo q=>Lr.l<|cK e q▸a
 have b:=jM a (·.S 3 jC)
 exact u _ K.1 (lS.s d K.2 k<|all1 x) ⟨mK t vs ((jF _ _<|xx i).t j) p n m,_,_,eR _ e<|oq b,(sf _ _).t c,b,Y (Array.getElem?_setIfInBounds_self_of_lt hsz) U⟩
theorem D2.K(N:D2 h c T fl tb)(k:∀b o,h.g b=M o->a.g b=M o):D2 a c T fl tb:=
 ⟨N.1.i λx q=>q.i λx q=>⟨k _ _ q.1,q.2⟩,N.2.i λx q=>q.i λx q=>⟨k _ _ q.1,q.2⟩⟩
theorem WS.abE(hX:P.X.f=P.e::outer)(hL:P.e.f=M L)(x:Ω P body mb)(y:∀m,Pn (P.H m) (l::j) mh)(hTs:∀T∈Ts,T≠"tuple"/\T≠"traceback")
  (n:∀T∈Ts,∀z m Q,Sat P z->z.s.T (.r m) T->(∀h',(∀b o,z.h.g b=M o->h'.g b=M o)->bf P.C.b (P.A.mark<|M<|.r m) (setFlight (.r m) aI) (λw KX=>bf P.C.b (P.A.mark<|M<|.r m) (Dl (l::j) P.e) Q cQ KX) cQ (Sh z.s h' z.s.t))->
   bf P.C.b P.A (handleBy (.r m) P.e [.E (M t) aI (l::j) hpos]) Q cQ z.s):WS P (.Try body [.E (M t) aI (l::j) hpos] [] [] pos) (K6 mb Ts mh):=λz Q S e=>by
 refine wpAny_Try_except<|QP (x z _ _ S e) (λz₁ v f q S G r=> ?_) λev sS R=>R.rec λz₁ {T m} q acJ M0 hn ap d=> ?_
 .revert q
  apply Ed r
  .exact λq=>aF<|.mk z₁ _ q S G U
  .exact λq=>.mk z₁ _ q S G U
  .exact λq=>.mk z₁ _ q S G U
  .exact λv a r q=>.mk z₁ _ q S G<|br a U r
 .have hT:=hTs T q.1
  refine DH hX hL acJ M0 hn ap d hT.1 λaal tb Fc Bu i hnt acD=>tU Fc Bu hnt ⟨i.1,i.2,i.3,i.4⟩ acD hT.2 λadG I N H=>n T q.1 (z₁.o z₁.σ adG z₁.s.t) m _ I (H.1.i λw q=>q.e λw q=>⟨q.1,q.2.1⟩) λE u=> ?_
  have p:=Sat.u I (Sh z₁.s E z₁.s.t) u U U
  exact tU (z:=z₁.o z₁.σ E z₁.s.t) p.1 (N.n p.2) hnt ⟨i.1,i.2,i.3,i.4⟩ (H.K u) hT.2 λaeX c J aeN=>dR (y m _ Q (⟨c.1,c.2,c.3,c.4,c.5,c.6,c.7,c.8,c.9,c.10,c.11,c.12,c.13⟩) q.2) λz' b g q k G' r'=>.mk z' b q (⟨k.1,k.2,k.3,k.4,k.5,k.6,k.7,k.8,k.9,k.10,k.11,k.12,k.13⟩) (J.n G') r'
inductive PI(P:Px)(nm:Str)(T:String):Prop
 |mk (ld:nsIn P.C.K dC nm=M aI/\lL nm=M (.t T)/\nm≠"__name__") (x:P.X.e.k nm=M .g) (d:(nm==("__debug__":Str))=D) (tup:T≠"tuple"/\T≠"traceback") (exc:ij (.t T) (.t "BaseException")=pure Z) (nt:ij (.t ((Au T).e "type" λx=>x.metatype)) (.t "tuple")=pure D) (self:ij (.t T) (.t T)=pure Z)
theorem WS.ZT(hX:P.X.f=P.e::H)(hL:P.e.f=M L)(x:Ω P body mb)(y:∀E,Pn (P.H E) (f::c) mh)(i:PI P m r)(e:PI P l n)
  (v:ij (.t r) (.t n)=pure b12) (g:ij (.t n) (.t r)=pure b21):WS P (.Try body [.E (M<|.T [.N m p1,.N l T] kk p) aI (f::c) j] [] [] R) (K6 mb [r,n] mh):=
 WS.abE hX hL x y (λu h=>(mc h).e (λh=>h▸i.4) λh=>m1 h▸e.4) λu h z E Q S N k=>by
   have d:∀{a b:Bool},ij (.t u) (.t r)=pure a->ij (.t u) (.t n)=pure b->(a||b)=Z->bf P.C.b P.A (handleBy (.r E) P.e [.E (M<|.T [.N m p1,.N l T] kk p) aI (f::c) j]) Q cQ z.s:=by
    intro a b J I t
    refine wpAny_handleBy_tup2 i.5 i.6 e.5 e.6 J I ?_
    refine aB<|dD<|aB<|PC<|ld_built S i.1 i.2 i.3<|PC<|ld_built S e.1 e.2 e.3<|aF<|eZ (ie _ U ⟨_,bG _ U,U,0,U⟩ (N.i λo q=>⟨bu _ q.1,q.2⟩) ?_) (by show 2<=mF;decide)
    rw[if_pos t]
    exact bP (k _<|dB _ _) (λw w y=>bP y (λw w y=>y) λw w y=>y.e) λw w y=>y.e
   rcases eT.m h with rfl|h
   .exact d i.7 v U
   .revert e g d;refine rR (aX.m h) ?_;intro e g d
    exact d g e.7<|jE _
end
end eH
section
open PySem.Builtin.Str
namespace eH
abbrev PSt:=List a0×Writer×List Nat
noncomputable def abF(v:a0)(e:List a0)(w:Writer)(d:Bool)(c:ao):Sem (ForInStep PSt):=
 (Pu [v]<|abO v>>=λo=>asStr? o>>=λg=>match g with
  |some s=>pure (s.c.t,M o,D)
  |_=>lx "internal:str.__mod__")>>=λ(x:List Nat×Option a0×Bool)=>match x with
  |(b,f,a)=>pure<|se (e,w.add ⟨b.T⟩<|if d then f else aI,c)
noncomputable def guarded(w:Writer)(t:Sem (ForInStep PSt)):Sem (ForInStep PSt):=if tooLong w.total=Z then(lx "str.__mod__:memory">>=λ(x:PUnit)=>t)else t
theorem xd(e:c=guarded b t)(g:KPc.Good b T N)(a:N<=16777216)(h:bf M' A t Q E s):bf M' A c Q E s:=by
 refine Y e ?_
 delta guarded
 exact Y (if_neg<|KPc.short_good g a) h
theorem Nw(x:ao)(t j:Tok)(i:x.L<=1000)(h:∀u tk,Q (.done<|.r<|.s (txt<|x++Eu) u) {s with toks:=tk}):
  bf (eN g w) A (percentFormat (.s (txt YJ) t) (txt YJ)<|.s (txt x) j) Q E s:=by
 refine aB<|vV (sX _ _ _) F.sub_str_tuple<|aB<|yO U<|aB<|KPc.wp_fills_str ?_
 intro m
 refine aB<|aF<|aB<|Y (KPc.range_list _ _ _) KPc.start ?_
 intro f e
 refine Wx<|xd (t:=abF (.s (txt x) j) [] f D Eu) (by kernel_rfl) e (by decide) ?_
 have b:=ν (x:=txt x) e<|ξ U
 refine(aB<|bK<|aB<|yO (KPc.strOf_str _ _)<|aB<|yO U<|aF<|aF ?_)
 generalize f.add (txt x) aI=d at b⊢
 refine Wx<|xd (t:=pure<|se ([],d.add (txt Eu) aI,[])) (by kernel_rfl) b (Y txt_length<|bZ (zQ 115) U i)<|aF ?_
 have a:=ν (x:=txt Eu) b<|ξ U
 generalize d.add (txt Eu) aI=l at a⊢
 have c:=(bZ (zQ 116) U i)
 refine Wx<|xd (t:=pure<|ForInStep.done ([],l,[])) (by kernel_rfl) a c<|aF ?_
 exact KPc.finish_ok a c (by rw[lK,jB]) λu k=>h u k
theorem Cs(h:pD l=Z):∃c,l=[c]/\(aO 65 c&&aO c 90||aO 97 c&&aO c 122)=Z:=by
 cases l with
 |nil=>exact bF h
 |cons c r=>cases r with
  |nil=>exact⟨c,U,h⟩
  |cons=>exact bF h
theorem AP(h:pD l=Z):Jq (txt l)=txt (39::(l++[39])):=by
 refine cz (Cs h) λc e h=>Y e<|(show∀c:Nat,c<123->(aO 65 c&&aO c 90||aO 97 c&&aO c 122)=Z->Jq ⟨#[c]⟩=⟨#[39,c,39]⟩from by decide+kernel) c ?_ h
 exact(oy h).e (λh=>bI (bl (an h).2) (by decide)) λh=>j4<|bl (an h).2
theorem Ca(a:ao)(r:List (List Nat)):∀x,tn a (x::r)=x++r.F λt=>a++t:=r.R (λx=>(bQ x).s) λy r b x=>by
 show x++a++tn a (y::r)=x++(a++y++_)
 rw[b,cN,cN];rfl
theorem DT:∀(ts:List (List Nat)) (k:Nat) (a:ao),0<k->Ul k (txt a) (ts.m txt)=txt (a++ts.F λt=>[44,32]++t)
 :=λd=>d.R λk a x=>by simp[Ul] (λt ts c k a b=>by
  show Ul (k+1) (txt a++(if k>0 then ", " else "")++txt t) (ts.m txt)=_
  refine Y (if_pos b) ?_
  have e:(txt a++", "++txt t:oh)=txt (a++[44,32]++t):=by
   rw[(by decide+kernel:(", ":oh)=txt [44,32]),jB,jB]
  refine Y e<|Y (c (k+1) _<|cD k) ?_
  simp[cN])
theorem DO:∀(l:List (oh×Tok)),ab0 c (zW l) (l.m λp=>.s p.1) []
 :=λb=>b.R .nil λp l a=>.cons (.str _ _) a
theorem shownAll_strs:∀l:List oh,Pg (l.m .s)=l.m Jq
 :=λb=>b.R (by rfl) λx l a=>by simp[Pg,E9,a]
theorem showableAll_strs:∀l:List oh,PyData.showableAll (l.m .s)=Z
 :=λa=>a.R (by rfl) λx l b=>by trivial
theorem AE:∀l:List oh,PyData.hasDictAll (l.m .s)=D
 :=λa=>a.R (by rfl) λx l b=>by trivial
theorem DD:∀l:List oh,Aw (l.m .s)=0
 :=λa=>a.R (by rfl) λx l b=>by trivial
theorem yy(d:∀l∈ls,pD l=Z):(yx ls).L<=5*ls.L+2:=by
 have a:∀r:List (List Nat),(∀l∈r,pD l=Z)->((r.m λl=>39::(l++[39])).F λt=>[44,32]++t).L<=5*r.L:=λr=>r.R (λ_=>aG _) λy r f b=>cz (Cs<|b y<|.h _) λc e _=>Y e<|cm (f λl h=>b l<|.t _ h) 5
 cases ls with
 |nil=>exact aG _
 |cons x r=>
  refine cz (Cs<|d x<|.h _) λc e _=>Y e ?_
  delta yx
  refine Y dc ?_
  rw[Ca]
  show(([91]++([39,c,39]++_))++[93]).L<=_
  rw[aL,aL,aL]
  exact bz<|aC (bH (bH (a r λl h=>d l<|.t _ h) 3) 1) (by show 1+(3+5*r.L)<=5*r.L+5+1;exact du (zQ 277) U)
section
variable{P:Px}
theorem Yo:Bo P (yK .Mod) YK:=λz Q v w a b S r c e=>by
 apply pJ r e;intro f t e
 refine Y (fS.m e.1) ?_
 apply pJ c e.2;intro x u e
 refine wpAny_binaryOp_same (sX _ _ _) (sX _ _ _) F.fills_str_mod ι<|cV ι (sX _ _ _) F.entry_str_mod ?_<|F.args_str_mod_2 _ _
 refine Y (KPc.entry_is_s _ _ _ _) ?_
 exact Nw _ _ _ (dE e.1) λu tk=>eI _ U (λq=>Ay q)<|.t tk e.2 S .ofStr
theorem y?(h:bf f A (eval b e) (λv a=>bf f A (d? 115 v) (λr d=>bf f A (Ug r Ub) Q E d) E a) E s):
 bf f A (eval (.F b 115 aI g) e) Q E s:=aB<|bP h (λv a c=>aB<|dD<|aB<|bK c) λy y x=>x
theorem Iv(hz:x.L<=1000)(h:∀u tk,Q (.s (txt x) u) {s with toks:=tk}):
  bf c A (d? 115<|.s (txt x) t) (λr a=>bf c A (Ug r Ub) Q E a) E s:=
 have hz:=Y nZ<|Y txt_length<|bZ (zQ 31) U hz
 habitSame_str (λd tk=>aaf (λu b=>h u b) hz) hz
theorem Oy(j:IsL z.h y items H)(r:bJ z (ls.m .s) items.t)(w:ls.L<=1000)(m:∀l∈ls,pD l=Z)
  (h:∀f u tk,(∀b o,z.h.g b=M o->f.g b=M o)->Q (.s (txt<|yx ls) u) {z.s with heap:=f,toks:=tk}):bf P.C.b P.A (d? 115<|.r y) (λr d=>bf P.C.b P.A (Ug r Ub) Q E d) E z.s:=by
 refine cz (Dc r) λl v t=> ?_
 have a:(l.m λp=>BG p.1)=(l.m (·.1)).m .s:=by rw[dQ];rfl
 have c:E9 (.l<|l.m λp=>.s p.1)=txt (yx ls):=by
  rw[a]
  unfold E9
  rw[shownAll_strs,t,dQ]
  exact(show∀ls,(∀l∈ls,pD l=Z)->listText (ls.m λl=>Jq<|txt l)=txt (yx ls)from by
   intro ls j
   have e:ls.m (λl=>Jq<|txt l)=(ls.m λl=>39::(l++[39])).m txt:=Y dQ<|d4 λl h=>AP<|j l h
   refine Y e ?_
   delta listText yx
   have i:∀z,(txt z++"]")=txt (z++[93]):=λz=>by rw[(by decide+kernel:"]"=txt [93]),jB]
   cases ls with
   |nil=>decide+kernel
   |cons x r=>
    refine Y dc<|Y dc ?_
    show Ul 1 ("["++(if 0>0 then ", " else "")++txt (39::(x++[39]))) ((r.m λl=>39::(l++[39])).m txt)++"]"=_
    have q:("["++(if 0>0 then ", " else "")++txt (39::(x++[39])):oh)=txt (91::39::(x++[39])):=by
     rw[(by decide+kernel:("["++(if 0>0 then ", " else ""):oh)=txt [91]),jB];rfl
    refine Y q ?_;rw[DT _ _ _ C?,i,Ca]
    rfl) ls m
 have hz:(txt<|yx ls).l<=mF:=by have:=yy m;refine Y nZ<|Y txt_length ?_;exact aC this<|aC (cm (gy 5 w) 2) (by decide)
 refine pyStrObj_of_reads (.list j U U<|Y v<|DO l) ?_ (PyData.noDict_hsm ?_) P.o.4 ?_ (λx x e=>e) (λf u tk k=> ?_)<|(Y c hz)
 .refine Y a ?_;exact showableAll_strs _
 .refine Y a ?_;exact AE _
 .refine Y a ?_;unfold PyData.depth;rw[DD];exact mC P U
 .exact Y c<|aaf (λn g=>h f n g k) hz
theorem WE.joined{m1:W V}(x:WE P e1 m1)(y:WE P e2 m2):
  WE P (.JoinedStr [.F e1 115 aI p1,.n (.str c) j p2,.F e2 115 aI p3] p) (bD m1 λv=>bD (UY c.c.t v) λi=>bD m2 λw=>FF c.c.t v w):=λz Q S e=>by
 have ec:c=txt c.c.t:=congrArg Pk (I9 ..).s
 generalize c.c.t=cs at ec e
 subst ec
 refine JoinedStr_many<|Jl<|y?<|dR (x z _ S e) λz₁ v a q X R N=>eV q λl zr1 hf q=> ?_;subst zr1
 obtain⟨t,rfl⟩:=N
 have f:=an hf
 have f1:=dE f.1
 have f2:=dE f.2
 have T:=λtk=>Sat.x X tk
 refine Iv f1 λu tk=>⟨by rw[lK,nZ,txt_length];exact bZ (zQ 31) U f1,Jl<|Constant_str ⟨?_,Jl<|y?<|dR (y ⟨z₁.ρ,z₁.σ,{z₁.s with toks:=tk+1}⟩ _ (T _).1 q) λm w b g E L r=> ?_⟩⟩
 .rw[lK,MN,txt_length,txt_length,nZ];exact eM (zQ 117) U f1 f2
 rw[lK]
 have J:∀(bs:ao) (u:Tok) (d:cL),bs.L<=6000->(∀b o,m.h.g b=M o->d.h.g b=M o)->d.g=m.s.g->d.os=m.s.os->Q (.s<|l++cs++bs) m.σ->
   match Value.str (txt bs) u with|.s y _=>(txt l++txt cs++y).l<=mF/\bf P.C.b P.A (joinParts (txt l++txt cs++y) []) (ez P z Rep Q) cQ d|_=>False:=λbs u d hb k hg ho q=>by
  have hz:(txt l++txt cs++txt bs).l<=mF:=by rw[MN,MN,txt_length,txt_length,txt_length,nZ];exact TM (zQ 118) U f1 f2 hb
  have K:=E.u d k hg ho
  exact⟨hz,joinParts_nil (.T (((R.n (T _).2).n L).n K.2)<|.t _ q K.1 (by rw[jB,jB];exact .ofStr)) hz⟩
 refine cz g λi I g=> ?_
 revert g;refine rR (eH.V.s.inj I) ?_;intro g
 rcases g with q|q
 .obtain⟨bs,rfl,H,q⟩:=q
  obtain⟨t2,rfl⟩:=r
  have H:=dE H
  exact Iv H λu tk=>J bs u _ (aC H (by decide)) (λi i e=>e) U U q
 .apply oA E r q;intro n us la items ep _ ha hl hr hn q
  obtain⟨ls,hls,hf,q⟩:=q
  revert hr;refine Y (vj hls) ?_;intro hr
  have f:=an hf
  have H:=dE f.1
  have fl:=t6 f.2
  have hz:=yy fl
  exact Oy hl hr H fl λh' u tk k=>J _ u _ (aC hz<|aC (cm (gy 5 H) 2) (by decide)) k U U q
end
end eH
end
namespace eH
def Mm(e:Str->Option a0)(L:PR)(b:List Addr)(o:Obj)(c:Addr)(d:Obj):Prop:=
 b.L=L.c.L/\∃a vs t,o=kla_obj "<lambda>" L.q L.P L.b L.s (L.c.z b) ((e "__name__").g .n) c a/\d.d=.f vs/\vs[1]?=M (.s L.q t)
noncomputable def W9(scope:rF)(ps a:List Str):Bool:=uD scope ps a&& !scope.isCoroutine&& !scope.isGenerator
theorem lookup_mem{b:Type}{y:b}{l:List (Str×b)}:(l.m (·.1)).N->(x,y)∈l->l.o x=M y:=l.R (λ_ h=>by cases h) λp l c a h=>by
 rw[dc,eX]at a
 refine Y fj ?_
 rcases mc h with q|q
 .revert a;refine rR q ?_;intro a;exact Y (beq_self_eq_true _) U
 .exact Y (beq_false_of_ne λe:x=p.1=>a.1<|e▸p9 q)<|c a.2 q
theorem Kq{b:Type}{l:List Str}:∀{r:List b},x∈l->r.L=l.L->∃c,(l.z r).o x=M c:=by
 induction l with
 |nil=>exact λh=>by cases h
 |cons y l a=>
  intro r h e
  cases r with
  |nil=>exact iZ e
  |cons c r=>
   refine Y List.zip_cons_cons<|Y fj ?_
   rcases q:x==y with _|_;(exact a ((mc h).r λz=>bF<|q.s.t<|beq_iff_eq.M z)<|w7 e);(exact⟨c,U⟩)
noncomputable def Hu(L:PR)(D' f:Addr)(cdv:a0)(cs:List Addr)(outer:List Env)(k:Jw L.s L.p L.c)(hl:cs.L=L.c.L):Fx where
 e:=envX L.q L.s D' f cdv<|L.c.z cs
 C:=Z
 f:=envX L.q L.s D' f cdv (L.c.z cs)::outer
 n:=L.p++L.c
 k:=k.1
 g:=U
 b:=U
 N:=k.6
 K:=λx hx=>(bV.m hx).m (λm=>(k.4 x m).1) λm=>⟨.i (k.5 x m).1,Kq m hl⟩
 P:=λx hx=>(bV.m hx).e (λm=>(k.4 x m).2) λm=>(k.5 x m).2
def WL(C:Cx)(n:Nat)(a:ae):Prop:=
 ∀X A (ok:Dw X n A) z Q l f vs as,X.C=Z->dJ C X z->z.ρ (l,D)=M f->bJ z vs as->a l vs Q z.σ->(∃o fd,z.h.g f=M o/\o.d=.F fd)/\y9 C.b A (.call (.r f) ⟨as,[]⟩) (SF ⟨C,X,n,A,ok⟩ z Q) z.s
theorem WL.q(x:WL C n d)(y:WL C n a):WL C n λl vs=>lW (d l vs) (a l vs):=λX A ok z Q l f vs as c S b r e=>e.e (x X A ok z Q l f vs as c S b r)<|y X A ok z Q l f vs as c S b r
theorem WL.u(hL:C.L k=Mm C.m L)(pY:W9 L.s L.p L.c=Z)
  (hb:∀cl pm cdv ctv (as:List a0),as.L=L.p.L->Jj (kla_fn "<lambda>" L.q L.P L.b L.s cl pm cdv ctv) ⟨as,[]⟩=pure (L.p.z as))
  (hbody:∀t f cdv cs R k hl A ok,WE ⟨C,Hu L t f cdv cs R k hl,n,A,ok⟩ L.b m):WL C (n+1) (aaF L.p.L L.c.L m k):=by
 intro X A ok z Q l f vs as hc S hf r zi;obtain⟨cvs,q,H,hn2,e⟩:=zi
 have a:=an pY
 have b:=an a.1
 have K:=Ft b.1
 refine(S.5 _ _ q).rec λf' c o oc cs J e2 ga gc hl rc=> ?_
 cases cK J hf
 rw[hL]at hl
 obtain⟨E,ctv,fs,tq,rfl,hod,hfs⟩:=hl
 refine⟨we _ _ ga U,?_⟩
 have nd:=j2.m K.6
 refine kla_callFunE (bI (kW _ _) ok.2) ga U (nb b.2) (nb a.2) U ⟨c,oc,fs,tq,U,gc,hod,hfs⟩<|Y (hb _ _ _ _ as<|r.E.t H)<|aF<|Up (λx hx=>(K.2 x hx).1) (λx hx=>(K.4 x.1 (TZ hx).1).1) (λI N hsb=> ?_) K.1
 have hk:=λb o e=>hsb.e b o (kX<|jG e)<|bu _ e
 refine⟨C.N.keeps λb o e=>hk b o<|S.1 b o e,?_⟩
 have l:∀{σ},Le z (z.o σ I<|z.s.t+(L.p.z as).L):=⟨λu u e=>e,qo hk⟩
 have hfr:=FA (Y':=Hu L z.h.o.s f (.r c) cs X.f K E) U U
 have T:dJ C (Hu L z.h.o.s f (.r c) cs X.f K E) (z.o ⟨vs++cvs,z.σ.h,z.σ.n⟩ I<|z.s.t+(L.p.z as).L):=S.enter hk (fg _)
  (λd=>N.e λo q=>q.e λes q=>q.e λep q=>⟨K.1.s▸by decide,mK _ o U d q.1 λvs e=>cn<|q.2.1.s.t e,S.7.of_keeps λb o e u=>br o (hk b o e) U⟩)
  (λb m=>eT.m<|hfr▸m) (λi x v J e2 e3=>by
   have J:(L.p++L.c)[i]?=M x:=J
   rcases qH i L.p.L with hi|hi
   .rw[b0 (H.s▸hi)]at e2
    rw[b0 hi]at J
    exact cz ((r.J l).Q e2) λy hy ry=>br y (.I ⟨(K.4 x<|aJ J).1,_,N,lookup_mem (Y List.map_reverse<|Y (Ar<|i5 (r.E.t H).s) (λh=>List.pairwise_reverse.M<|υ xx h) nd.1)<|As.M<|aJ<|rD.M ⟨J,hy⟩⟩) ry
   .rw[bO (H.s▸hi),H]at e2
    rw[bO hi]at J
    exact zc ((rc.L l).2 _ _ e2) λc' y q1 q2 q3=>br y (.i ⟨.i (K.5 x<|aJ J).1,c',lookup_mem ((Ar<|i5 E.s).s▸nd.2.1)<|aJ<|rD.M ⟨J,q1⟩,q2⟩) q3)
  (Y aL<|Y aL<|Y H<|Y hn2 U)<|⟨_,N⟩
 refine kla_codeExpr<|dR (P:=⟨C,Hu L z.h.o.s f (.r c) cs X.f K E,n,_,ok.d hc U⟩) (hbody _ _ _ _ _ K E _ _ _ _ T e) λTN w g q Fc Bu ZH=> ?_
 have j:=dJ.leave (z₁:=z.o ⟨vs++cvs,z.σ.h,z.σ.n⟩ I<|z.s.t+(L.p.z as).L) (Y':=Hu L z.h.o.s f (.r c) cs X.f K E) S U hk (fg _) (λp=>p.2.2) (λb m=>hfr▸.t _ m) Fc Bu
 exact br _ U<|.mk (back z TN) w q j.1 j.2<|bB.u ⟨λu u e=>e,.l _⟩ ZH
def tabAt(T:L!)(a:Addr)(o:Obj):Prop:=a=T.P/\∃ps,o=Bn ps/\Φ ps.t/\∀b∈T.p,D8 b ps.t=aI
theorem codeAmong_snoc{g:Pos}(k:(g.l==f.l&&g.c==f.c)=D)(l:List a0)(m:Φ l)(o:D8 f l=aI):D8 f (l++[sV g.l,sV g.c,c])=aI:=by
 fun_induction Φ l with
 |case1=>
  show(if _ then _ else _)=_
  have:((g.l:Int)==f.l&&(g.c:Int)==f.c)=D:=by
   have e:∀i j:Nat,((i:Int)==(j:Int))=(i==j):=λi j=>dM.M (by rw[beq_iff_eq,beq_iff_eq];exact XM)
   rw[e,e];exact k
  rw[this];rfl
 |case2 a _ b _ d r n=>
  revert o
  show(if(a==f.l&&b==f.c)=Z then M d else D8 f r)=aI->(if(a==f.l&&b==f.c)=Z then M d else D8 f (r++_))=aI
  rcases a==(f.l:Int)&&b==(f.c:Int)with _|_;(exact n m);(exact λh=>sN h)
 |case3=>exact m.e
theorem LO:∀{vs:aq},UW a b=M vs->vs.L=a.L/\∀(i:Nat) v,vs[i]?=M v->∃j:Nat,a[i]?=M j/\b[j]?=M v/\v≠.u:=by
 induction a with
 |nil=>exact λe=>rS e ⟨U,λi v e=>nS e⟩
 |cons i r d=>
  refine λe=>Zm e λv q e=>ir (oM e).c λc f=>rR f ⟨congrArg Nat.succ (d c).1,λk=> ?_⟩
  rcases k with _|k;(exact λw h=>⟨i,U,rS h<|Co (σ:=⟨b,λ_=>aI,0⟩) q⟩);(exact(d c).2 k)
theorem Qt(S:Sat P z){a:List Str}(e:UW d z.σ.l=M vs)(h:a.m M=d.m (P.X.n[·]?))(s:∀x∈a,(∃c,P.X.e.c.o x=M c)/\P.X.e.k x≠M .local):G6 z vs (a.m λx=>(P.X.e.c.o x).g 0):=by
 have k:=congrArg kh h
 rw[aD,aD]at k
 refine⟨by rw[aD,k,(LO e).1],λi v q=>eV ((LO e).2 i v q) λj p o n=> ?_⟩
 have f:(a.m M)[i]?=M P.X.n[j]?:=by refine Y h<|Y aN<|Y p ?_;rfl
 rw[aN]at f
 refine cz (oM f) λx g f=>cz (S.9 j x v f.s o n) λy r m=> ?_
 obtain⟨⟨c,b⟩,l⟩:=s x<|aJ g
 refine rJ c y (by rw[aN,g,tI,b];rfl) ?_ m
 rcases r with r|⟨_,c',q,r⟩
 .exact absurd r.1 l
 .exact cK q b▸r
theorem WE.Y5
  (hL:P.C.L k=Mm P.C.m L) (hT:P.C.t j=tabAt T) (hT':P.C.t (j+1)=tabAt T') (hP:T'.P=T.P) (hpos:s∈T.p) (v:∀p∈T'.p,p∈T.p/\(s.l==p.l&&s.c==p.c)=D)
  (hq:L.q=P.X.e.qual++"<lambda>") (hpa:L.P=r) (hbo:L.b=body) (hsc:L.s=g) (hdef:defaultsOf r P.X.e=([],[]))
  (hcode:P.X.e.code=.r T.c) (hhd:CodeHd P.C.s T.c T.P) (hbm:∃bm o,P.C.m "__builtins__"=M (.r bm)/\bm≠j3/\bm≠dC/\P.C.s.g bm=M o/\o.c=.t "module"/\o.D=M j3/\o.d=.plain)
  (u:∀x∈g.n,x.2=.f->∃c,P.X.e.c.o x.1=M c) (I:Qs g=L.c) (hk:∀x∈L.c,P.X.e.k x≠M .local) (hidx:L.c.m M=capI.m (P.X.n[·]?)):
  WE P (.a r body g s) (aaD k t j capI):=λz Q S e=>by
 obtain⟨vs,q,qv,n,hfr,e⟩:=e
 subst hpa;subst hbo;subst hsc
 refine(S.5 _ _ q).rec λTP oP hρ hgP A=> ?_
 rw[hT]at A
 obtain⟨rfl,ps,rfl,ht,hnf⟩:=A
 have hoff:=(S.2 _ ⟨_,hρ⟩).1
 have nb:∀{b o},P.C.s.g b=M o->b≠T.P:=λe q=>dq hoff<|q▸e
 refine Y! hbm λbm obm b1 b2 b3 b4 b5=> ?_
 have hns:=P.C.n.keeps S.1
 have hgne:=P.C.n.e λo q=>q.e λes q=>q.e λep q=>nb q.1
 refine kla_eval hdef<|kla_makeFunction (Ae u) P.X.g hns hcode (hhd.keeps S.1) hgP ht (hnf s hpos) hgne (⟨bm,obm,b1,b2,b3,((nb b4)),((S.1 _ _ b4)),b5⟩) λc' ctv h' tk hx R hlt H A=> ?_
 rw[<-hq]at H⊢
 obtain⟨c₀,oc,fs,tq,ec,N,hod,hfs⟩:=H
 revert N;refine rR (jN ec) ?_;intro N
 generalize J:L.c.m (λx=>(P.X.e.c.o x).g 0)=cs
 have rc:=J▸Qt S qv hidx λx m=>⟨(Mx<|I.s▸m).e λp q=>q.2.2▸u p q.1 q.2.1,hk x m⟩
 have hcl:j6 P.X.e.c L.s.n []=L.c.z cs:=by rw[Ad,bQ,<-J,<-I];exact List.map_prod_left_eq_zip
 refine Y hcl ?_
 have hlen:=J▸aD _
 generalize hfo:kla_obj "<lambda>" L.q L.P L.b L.s (L.c.z cs) ((P.C.m "__name__").g .n) c' ctv=fo
 have nP:∀b,z.h.o.s<=b->b≠T.P:=λb w q=>ko.M (q▸w)<|jG hgP
 have hsz:=aC R<|eD hlt
 have gP:(h'.p fo).g T.P=M (Bn<|ps++ #[sV s.l,sV s.c,.r c']):=bu _ A
 generalize d:(h'.p fo).update T.P (λy=>Bn ps)=YU
 have adF:=d▸eR _ gP U
 have l:∀b,b≠T.P->YU.g b=(h'.p fo).g b:=λb w=>d▸jF _ _ (xx w)
 have i:=dJ.new (o:=.C k vs) (tk:=tk) (f:=two h'.o.s c') S hfr (λb o e=>if w:b=T.P then w▸adF.t (congrArg M<|cK hgP<|w▸e)else(l b w).t (bu _<|hx b o w e)) (λt a e=>by rcases t with _|_<;>cases e<;>first|exact lD R|exact lD hsz) (λa e e'=>kX hlt<|sJ<|e'.t e.s)
  (λa e=>U) λle=>⟨_,_,_,_,cs,mi D,mi Z,(l _<|nP _ hsz).t<|bG _<|hfo▸U,(l _<|nP _ R).t<|bu _ N,(Y hL ⟨hlen,ctv,fs,tq,hfo.s,hod,hfs⟩),rc.L le⟩
 have E:=dJ.q (o':=.t<|j+1) (tk:=tk) i.1 ((sv λe=>dq hfr<|e▸q).t q) (i.2.b _ _ hρ) (⟨(rR d (MY ..).s),λb w=>(l b w).s⟩) ⟨_,gP⟩
  (λle=>⟨T.P,_,i.2.b _ _ hρ,gP,by
   refine Y hT' ?_
   exact⟨hP.s,_,U,Y pV<|TriplesOk_snoc _ _ _ _ ht,λp hp=>Y pV (eH.codeAmong_snoc (v p hp).2 _ ht (hnf p (v p hp).1):)⟩⟩) U
 exact .mk _ _ e E.1 (lS.t i.2 E.2)<|bB.yd<|mi D
theorem adJ{_:Decidable c}{b:Prop}(x:a)(y:b):if c then a else b:=if h:c then Y (if_pos h) x else Y (if_neg h) y
theorem DB
  (h:bf M' A (evalArgs (.r a) Z f []) (λx b=>(∃o fd,b.h.g a=M o/\o.d=.F fd)/\bf M' A (call (.r a) (first++x.pos) x.kw) Q E b) E s):
  bf M' A (ab6 p (.r a) first f []) Q E s:=by
 refine aB<|bK<|bP h (λx b i=>ir i λg d=>Fw g λo fd n m=>aB<|dD ?_) λy y x=>x
 have done:∀{t:Sem a0},bf M' A t Q E b->bf M' A (t>>=λr=>Pu [r] point>>=λy=>pure r) Q E b:=
  λl=>aB<|bP l (λr c j=>aB<|bK<|wpAny_point<|aF j) λy y x=>x
 have e:bf M' A (keeperOf<|.r a) (λk c=>k=.frame/\c=b) E b:=(aB<|wpAny_load n<|Y m aF ⟨U,U⟩)
 rcases u:f.A (·.1)with _|_;(
  refine aB<|bP e (λk c q=> ?_) λy y z=>z
  exact Y q.1<|Y q.2<|wpAny_ite<|adJ (done d)<|done<|OZ d);(
  refine aB<|bP e (λk c q=> ?_) λy y z=>z
  refine Y q.1<|Y q.2 ?_
  exact done<|OZ d)
theorem WE.UU(J:WL P.C k I)(h:k<=P.n)(H:WE P (.N x p) E)(y:Pm P (hQ i<|eF (e::es) P.e) m)(w:(hQ i<|eF (e::es) P.e).a (λt=> !t.1)=Z)(u:P.X.C=Z):
  WE P (.C (.N x p) (e::es) [] i) (bD E λv Q σ=>∃l,v=.L l/\bD m (λvs=>I l vs) Q σ):=λz Q S s=>
 iW<|dR (H z _ S s) λz₁ v a q S G r=>q.e λl q=>by
  obtain rfl:=q.1
  apply FN r;intro f o
  exact DB<|gz w<|dR (y z₁ _ S q.2) λg vs as q d b c=>(J P.X P.A (P.o.l h) g Q l f vs as u d (b.l.b _ _ o) c q).imp id λk=>Ju<|wu k λr j y=>by obtain⟨a,rfl,y⟩:=y;exact .T (G.n b)<|ez.p y
abbrev BC(x:Str):Prop:=(x==("__debug__":Str))=D
abbrev E4(C:Cx)(x:Str)(v:a0):Prop:=nsIn C.K dC x=M aI/\lL x=M v/\x≠"__name__"
inductive x!(C:Cx)(x:Str)(T:String):Prop
 |mk (ld:E4 C x (.t T)) (d:BC x) (tup:T≠"tuple"/\T≠"traceback") (exc:ij (.t T) (.t "BaseException")=pure Z) (nt:ij (.t ((Au T).e "type" λx=>x.metatype)) (.t "tuple")=pure D) (self:ij (.t T) (.t T)=pure Z)
inductive w'(C:Cx)(k:Nat)(x:Str)(c:Addr)(mf:List V->W V)(fI:Addr):Prop
 |mk (wf:WF C k fI mf) (keep:keepIn C.K (.r c)=Z) (mem:c∈C.l) (init:jo C.K (.r c) "__init__"=M (M (.r fI))) (fn:Xr C.K (.r fI)=M (.t "function")) (ld:nsIn C.K dC x=M (M (.r c))) (d:BC x)
inductive s?(C:Cx)(xN:Str->Option (Addr×V))(a:Str)(j:Nat):Prop
 |mk (nm:C.A j=a) (inj:∀i,C.A i=a->i=j) (taker:∀c∈C.l,takerIn C.K c a=M aI) (find:xN a=aI->∀c∈C.l,jo C.K (.r c) a=M aI)
inductive XA(C:Cx)(a:Str)(c:Addr)(dv:V)(dx:a0):Prop
 |mk (find:jo C.K (.r c) a=M (M dx)) (get:n! C.K dx "__get__"=M aI) (cp:Ue.c a=D) (rep:∀z,bB z dv dx)
inductive y!(C:Cx)(k:Nat)(gl:Str->Gl)(att:Str->Option Nat)(xN:Str->Option (Addr×V))(p?:Addr->Bool)(qM:Str->Addr->Option (List V->W V))(ex:Str->Option String):Prop
 |mk (gfn:∀x mf,gl x=.f mf->∃f,Fn C k f mf/\nsIn C.K dC x=M (M (.r f))/\BC x) (gcls:∀x c mf,gl x=.C c mf->∃fI,w' C k x c mf fI) (gbf:∀x id,gl x=.d id->E4 C x (.B id)/\BC x) (gbt:∀x T,gl x=.b T->E4 C x (.t T)/\BC x) (gval:∀x v,gl x=.a v->∃y,nsIn C.K dC x=M (M y)/\(∀z,bB z v y)/\BC x) (att:∀a j,att a=M j->s? C xN a j) (xN:∀a c dv,xN a=M (c,dv)->∃dx,XA C a c dv dx) (p?:∀c,p? c=Z->jo C.K (.r c) "__bool__"=M aI/\jo C.K (.r c) "__len__"=M aI) (qM:∀a c mf,qM a c=M mf->JG C k c a mf) (exc:∀x T,ex x=M T->x! C x T) (exc2:∀x y T U',ex x=M T->ex y=M U'->∃b,ij (.t T) (.t U')=pure b)
inductive Good(P:Px)(k:Nat)(g:G):Prop
 |mk (names:P.X.n=g.n) (knd:P.X.e.scope.n=g.k) (calm:g.c=Z->P.X.C=Z) (top:g.T=Z->∃outer L,P.X.f=P.X.e::outer/\P.X.e.f=M L) (room:k+1<=P.n) (gl:y! P.C k g.l g.A g.d g.t g.m g.e) (clo:WL P.C (k+1) g.C) (lams:∀p∈g.L,WE P p.1 p.2)
theorem Iw:∀{i:Nat},pos? l x=M i->l[i]?=M x:=by
 induction l with
 |nil=>exact λh=>nS h
 |cons y r b=>
  intro i e
  have e:(bif decide (x=y)then M 0 else(pos? r x).m (·+1))=M i:=e
  by_cases a:x=y
  .rw[decide_eq_true a]at e;exact rS e<|congrArg M a.s
  .rw[decide_eq_false a]at e
   obtain⟨j,h,rfl⟩:=oM e
   exact b h
theorem Sm.k(x:b=Z->Sm P t m R):Sm P t (p5 b m) R:=match b,x with
 |true,x=>x U
 |false,_=>.n
theorem L1.n{t:a0->Sem a}:L1 P t (λx=>jD) R:=λx x x x x x e=>e.e
theorem L2.n{t:a0->a0->Sem a}:L2 P t (λx x=>jD) R:=λx x x x x x x x x e=>e.e
theorem Ls.k{t:List a0->Sem a}:Ls P t (λx=>jD) R:=λx x x x x x e=>e.e
theorem L1.k{t:a0->Sem a}(x:b=Z->L1 P t f R):L1 P t (λv=>p5 b<|f v) R:=match b,x with
 |true,x=>x U
 |false,_=>.n
theorem Ls.n{t:List a0->Sem a}(x:b=Z->Ls P t f R):Ls P t (λv=>p5 b<|f v) R:=match b,x with
 |true,x=>x U
 |false,_=>.k
theorem Good.K(a:Good P k g)(e:(g.k.o x==o)=Z):P.X.e.k x=o:=(congrArg (λl=>JE x l) a.2).t<|bW e
theorem Good.N(a:Good P k g)(e:pos? g.n x=M i):P.X.n[i]?=M x:=a.1▸Iw e
theorem HY(a:Good P k g):WE P (.N x f) (Mp g x):=by
 delta Mp
 rcases b:pos? g.n x with _|i;(
  refine .k λd=> ?_
  cases c:g.l x with
  |a v=>exact(a.6.5 x v c).e λy h=>λz Q S e=>FL S h.1 (a.K d) h.2.2<|.h e S<|h.2.1 z
  |_=>exact .n);(exact λz Q S e=>wpAny_Name (ldK ((a.N b)) S e λv y q r=>.h q S r) (P.X.P x<|aJ<|(a.N b)).1)
theorem UQ:∀{c:T9},Bo P (yK c)<|P! c
 |.Add=>Yn
 |.Sub=>Fj λh=>H! h
 |.Mult=>US
 |.Mod=>L2.k (λz Q v w a b S r d e=>by
  apply mP r e;intro i t e
  apply mP d e;intro j u e
  exact mod_int' (of_decide_eq_true e.1)<|.t _ e.2 S .y) Yo
 |.FloorDiv=>UR
 |.Div|.Pow|.LShift|.RShift|.BitOr|.BitXor|.BitAnd|.MatMult=>L2.n
theorem LM:∀{a:T9},Bo P (f? a)<|Yi a
 |.Add=>Fj λh=>F? h
 |.Sub=>Fj λh=>F! h
 |.Mult|.Mod|.FloorDiv|.Div|.Pow|.LShift|.RShift|.BitOr|.BitXor|.BitAnd|.MatMult=>L2.n
theorem LW(o:0<P.n):∀{j:CmpOp},Cmp P j<|cw j
 |.E=>L2.k (λz Q v w a b S r f e=>have i:=an e.1;(Fy S 6 i.1 i.2 r f<|mC P U).2 _ _ _ _ (.j e.2 S))<|U1 o
 |.o=>L2.k (λz Q v w a b S r f e=>have i:=an e.1;(Fy S 6 i.1 i.2 r f<|mC P U).3 _ _ _ _ (.j e.2 S)) JZ
 |.Lt=>A6 λh=>H? h
 |.LtE=>A6 λh=>G? h
 |.Gt=>A6 λh=>E! h
 |.GtE=>A6 λh=>E' h
 |.Is=>λz Q v w a b S r f e=>by
  obtain rfl:=HK e.1
  apply x7 f
  exact is_none_gen<|Q9 r▸.j e.2 S
 |.IsNot=>λz Q v w a b S r f e=>by
  obtain rfl:=HK e.1
  apply x7 f
  exact isnot_none_gen<|Q9 r▸.j e.2 S
 |.I=>L2.k (λz Q v w a b S r f e=>(HH S r f e).e λt k=>(k.2 _ _).1<|.j k.1 S)<|L2.k (λz Q v w a b S r f e=>(Eh S r f e).e λt k=>aB<|k.2 _ _ λtk=>aF<|.m k.1 S λx=>U)<|L2.k (λz Q v w a b S r f e=>Mh (G:=λa b=>bf P.C.b P.A (qd .I a b) (ez P z _ Q) cQ z.s) S r f e λl t d m g e=>wpAny_inSet_of (Bm _ _ _ _) U g<|.m e S λx=>U) λz Q v w a b S r f e=>Vm (G:=λa b=>bf P.C.b P.A (qd .I a b) (ez P z _ Q) cQ z.s) r f e λc l t u e=>PySem.P.in_str<|OR c l▸.j e S
 |.N=>L2.k (λz Q v w a b S r f e=>(HH S r f e).e λt k=>(k.2 _ _).2<|.j k.1 S)<|L2.k (λz Q v w a b S r f e=>(Eh S r f e).e λt k=>aB<|k.2 _ _ λtk=>aF<|.m k.1 S λx=>U) λz Q v w a b S r f e=>Mh (G:=λa b=>bf P.C.b P.A (qd .N a b) (ez P z _ Q) cQ z.s) S r f e λl t d m g e=>wpAny_notInSet_of (Bm _ _ _ _) U g<|.m e S λx=>U
theorem MR(h:Good P k g):L1 P Jr (ZS g) G9:=K5.l λz Q v a S r f=>Yz f λn c l j i e=>by
 have e:p5 (g.t c) (Wh c v) Q z.σ:=e
 exact bC (b:=g.t c) (λd=>by rw[d]at e;exact Tw (h.6.8 c d).1 (h.6.8 c d).2 z Q v a S r e) λd=>by rw[d]at e;exact e.e
theorem LL(H:Good P k g):L1 P (λx=>Pt x a Z) (Yh g a) Rep:=by
 have u:∀{o:Option Nat},g.A a=o->L1 P (λx=>Pt x a Z) (λv=>match o with
   |some j=>match g.d a with
    |some (c,L)=>wy c j L v
    |none=>qn j v
   |none=>jD) Rep:=λ{o} E=>by
  rcases o with _|j;(exact .n);(
   have A:=H.6.6 a j E
   rcases t:g.d a with _|p;(exact Q1 A.1<|A.4 t);(exact(H.6.7 a p.1 p.2 t).e λN b=>(λz Q v a S r e=>by
    apply Ie S r e;intro n c' J l d m q E t C ns s y e
    obtain rfl:=bq e.1
    have q:=e.2
    rcases f:fO J j with _|w;(rw[f]at q;exact uE S C ns s y A.1 b.1 (λx q=>sJ q▸kb b.2 b.3 (tw<|b.4 z)) (.i ⟨none_of λx I=>(s.2 _ _ I).e λi q=>q.e λw q=>dq f<|A.2 i q.2▸q.1,U⟩)<|.t _ q S<|b.4 z);(rw[f]at q;exact(s.1 j w f).e λx h=>uE S C ns s y A.1 b.1 (λx q=>sJ q▸kb b.2 b.3 (tw<|b.4 z)) (.I ⟨A.1▸h.1,tw h.2⟩)<|.t _ q S h.2))))
 exact u U
theorem Yl(d:Good P k g){id:String}:Lf P id (bfW g id):=by
 have e:∀{s:String} {f f':List V->W V},(id=s->Lf P id f)->Lf P id f'->Lf P id λvs=>bif id==s then f vs else f' vs:=λ{s f f'} a b=>by
  rcases h:id==s with _|_;(exact b);(exact a<|bW h)
 exact e (λh=>h▸RA.l (N9.l<|.n λc=>Ry (d.6.9 _) d.5<|d.3 c))<|e (λh=>h▸.n λc=>RH<|d.3 c)<|e (λh=>h▸.n λc=>Ql<|d.3 c)<|e (λh=>h▸IL) .k
theorem Yp:Lt P T (btW T):=by
 have c:∀{s:String} {f f':List V->W V},(T=s->Lt P T f)->Lt P T f'->Lt P T λvs=>bif T==s then f vs else f' vs:=λ{s f f'} a b=>by
  rcases h:T==s with _|_;(exact b);(exact a<|bW h)
 exact c (λh=>h▸La)<|c (λh=>h▸Oa)<|c (λh=>h▸IK) .k
inductive Uq(P:Px)(name:Str)(b:BM):Prop
 |mk (kind:Kind P b.T b.c) (pa:Jh b.T) (slot:Slot b.T name b.i) (ty:typeOf (.B b.i)=pure (.t "method_descriptor")) (op:Lm P b.i b.o)
theorem WJ(i:0<P.n)(h:Ni name=M b):Uq P name b:=by
 have d:∀{s:Str} {c:BM} {r:Option BM},Uq P s c->(r=M b->Uq P name b)->(bif decide (name=s)then M c else r)=M b->Uq P name b:=λ{s c r} a f h=>by
  by_cases q:name=s
  .have h:=decide_eq_true q▸h;cases h;exact q▸a
  .have h:=decide_eq_false q▸h;exact f h
 revert h
 refine d ?_<|d ?_<|d ?_<|d ?_<|d ?_<|d ?_<|d ?_ λh=>nS h
 .exact⟨vH,sY,TO,F.type_list_append,Hd⟩
 .exact⟨λz Q v a S r e=>tM (G:=λa=>Q () z.σ/\z.s.T a "dict"/\∀b,a=.r b->∃o,z.h.g b=M o/\o.D=aI) S r e λn m l es q k g j ok e=>⟨e,br _ g U,λb q=>A0 q▸br _ g U⟩,Us,DW,F.type_dict_get,QF.k QG⟩
 .exact⟨vH,sY,DX,F.type_list_pop,Sp⟩
 .exact⟨vH,sY,TU,F.type_list_insert,Q7⟩
 .exact⟨vH,sY,Uu,F.type_list_index,HI i⟩
 .exact⟨Ri,F.plainAttrs_set,F.slot_set_add,F.type_set_add,OE⟩
 .exact⟨λz Q v a S r e=>pJ (G:=λa=>Q () z.σ/\z.s.T a "str"/\∀b,a=.r b->∃o,z.h.g b=M o/\o.D=aI) r e λl t e=>kb e U λb q=>Ay q,F.plainAttrs_str,XJ,F.type_str_join,NS⟩
set_option backward.match.sparseCases true in
theorem JU(o:Good P k g)(j:∀e,WE P e<|f e):∀es,Sm P (boolOp n i<|evalEach es P.e) (WM g i<|es.m f) Rep:=by
 intro es
 induction es with
 |nil=>exact .n
 |cons e r m=>cases r with
  |nil=>exact j e
  |cons p r=>
   show Sm P _ (bD (f e) _) _
   refine Sm.l (j e) λz v a Q S h q=>aB<|dD<|aB<|bK<|dR (MR o z _ v a S h q) λz₁ b c q d G l=> ?_
   cases l
   rcases i with _|_<;>rcases b with _|_<;>first|exact aF (.mk z₁ v q d G<|h.n G)|exact t7 G<|m z₁ Q d q
theorem W2{a:Type}{F:List Expr->List (Bool×a)}{h:Expr->a}(d:F []=[])(c:∀e r,isStar e=D->F (e::r)=(D,h e)::F r){es:List Expr}:es.a (λe=> !isStar e)=Z->F es=es.m λe=>(D,h e):=es.R (λ_=>d) λe r b q=>(c e r<|nb (an q).1).t<|congrArg _<|b (an q).2
theorem y7(h:es.a (λe=> !isStar e)=Z):hQ b (eF es a)=es.m λe=>(D,eval e a):=by
 refine Y (W2 (F:=λes=>eF es a) (h:=λe=>eval e a) U (λe r q=>by rcases e with _|_<;>first|rfl|exact bT q) h) ?_;delta hQ;refine Y dQ ?_;rfl
theorem Vb(c:∀e,WE P e<|f e):∀es:List Expr,Pm P (es.m λe=>(D,eval e P.e))<|nU<|es.m f
 :=λb=>b.R (.u λx=>bJ.nil) λe r a=>Pm.cons (c e) a
theorem rI(b:∀e,WE P e<|f e)(h:es.a (λe=> !isStar e)=Z):Pm P (hQ a<|eF es P.e) (nU<|es.m f):=y7 h▸Vb b es
theorem j5(h:uS es=Z):(hQ b<|eF es a).a (λt=> !t.1)=Z:=Y (y7 (an h).1)<|Y List.all_map dw.M λx x=>U
theorem vo(h:uS es=Z):lg (es.L+0) (hQ b<|eF es a) []=Z:=by
 delta lg
 exact Y (j5 h) decide_eq_true<|of_decide_eq_true (an h).2
theorem K8{f:Expr->W Bool}(c:∀e,WB P e<|f e):∀es,Qb P es<|es.m f
 :=λb=>b.R .nil λe r a=>.cons (c e) a
theorem Zp(d:∀e,WE P e<|f e)(b:List (Option Expr)):∀vs,b.a (·.i)=Z->b.L=vs.L->X2 P b vs ((b.z vs).m λp=>(p.1.e jD f,f p.2)):=by
 induction b with
 |nil=>intro vs h c;rcases vs with _|_;(exact .nil);(exact nN c U)
 |cons a b g=>intro vs h c;rcases vs with _|⟨v,vs⟩;(exact nN c U);(rcases a with _|a;(exact bF h);(exact .cons (d a) (d v)<|g vs h<|w7 c))
theorem xO(h:isCall o=D):kl o a b t=t:=by rcases o with _|_<;>first|rfl|exact bT h
theorem sub_eq(h:isSlice i=D)(o x:a0):Uk i D o x=operate [o,x] (t9 o x):=by rcases i with _|_<;>first|rfl|exact bT h
theorem fold_eq(h:rK i=D)(x:a0):ky i a x=pure x:=by rcases i with _|_<;>first|rfl|exact bT h
theorem Mo(h:rK r=D):LN a r=D:=by rcases r with _|_<;>first|rfl|exact bT h
theorem swap_eq(h:zm v=D):sR v t l a=pure D:=by rcases v with _|_<;>first|rfl|exact bT h
theorem MP(h:(Mi t&&isTup v)=D):qC [t] v a=pure aI:=by
 rcases t with _|_<;>first|rfl|(rcases v with _|_<;>first|rfl|exact bT h)
theorem Sf(h:isStar t=D):iT [t] a=[(D,A4 t a)]:=by rcases t with _|_<;>first|rfl|exact bT h
theorem Good.I(c:Good P k g){b:List Str}(h:qU P.X a b d f):Good (P.c L h) k (g.i a b d):=⟨U,
 by
  show(relabel a P.X.e).n=Sy g.k a.n
  delta relabel Sy
  refine Y P.X.k<|rR c.2 ?_
  rfl,
 c.3,
 λe=>bF e,
 c.5,
 c.6,
 c.7,
 λp i=>by cases i⟩
theorem Good.H(a:Good P k g)(c:Addr):Good (P.H c) k g.h:=⟨a.1,
 a.2,
 λe=>bF e,
 a.4,
 a.5,
 a.6,
 a.7,
 λp b=>by cases b⟩
theorem Good.C(f:Good P k g)(h:D7 g a=Z)(ok:uD b d a=Z)(n:tg g.n a=M l):qU P.X b d a l:=by
 have idx:∀(a:List Str) (l:ao),tg g.n a=M l->a.m M=l.m (P.X.n[·]?):=λa=>a.R λl h=>by cases h;rfl λy r m l h=>Zm h λi j h=>(oM h).e λo h=>rR h.2<|Y dc<|Y dc<|Y (f.N j)<|Y (m _ h.1) U
 have q:=idx _ _ n
 have kd:∀x∈a,P.X.e.k x≠M .local:=λx c=>(oy<|t6 h x c).e (λe z=>absurd ((f.K e).s.t z) (by decide)) λe z=>absurd ((f.K e).s.t z) (by decide)
 exact⟨Ft ok,λx c=>(P.X.K x<|(mm<|q▸p9 c).e λi e=>aJ e.2).e (λe=>(kd x c e).e) λe=>e.2,kd,q⟩
inductive J!(k':Nat):Prop
 |mk (E:∀{P k g},Good P k g->∀e,WE P e (cE k' g e)) (B':∀{P k g},Good P k g->∀e,WB P e (cB k' g e)) (A:∀{P k g},Good P k g->∀t,WA P t (cA k' g t))
theorem WI.q(h:m=jD):WI P e m t:=λz Q S e=>(h▸e).e
theorem WI.n(x:b=Z->WI P e m t):WI P e (p5 b m) t:=match b,x with
 |true,x=>x U
 |false,_=>.q U
theorem K9(h:isTup t=Z):yT t:=by rcases t with _|_<;>first|exact⟨_,_,_,U⟩|exact bF h
theorem Mg(gd:Good P k g){f:Expr->W V}(hE:∀e,WE P e<|f e)(e t:Expr):WI P e (cI f g e t) t:=by
 have pl:∀e,WI P e (bD (f e) jz) t:=λe=>WI.u<|hE e
 cases e with
 |Call adC args kws p=>
  cases adC with
  |Name x q=>
   rcases args with _|⟨y,_|⟨y',r⟩⟩
   .exact pl _
   .cases kws with
    |cons a r=>exact pl _
    |nil=>
     show WI P _ (match pos? g.n x with|some _=>jD|none=>p5 (g.k.o x==M .g&& !isStar y)<|match g.l x with
      |.b T=>bif T=="enumerate" then p5 (isTup t) (bD (f y) B3)else bif T=="range" then bD (f y) C4 else jD
      |_=>bD (f<|.C (.N x q) [y] [] p) jz) t
     rcases hp:pos? g.n x with _|i;(
      refine .n λh=> ?_
      have h:=an h
      have hg:=gd.K h.1
      have hb:hQ p (eF [y] P.X.e)=[(D,eval y P.X.e)]:=y7<|aU.M ⟨h.2,U⟩
      cases hl:g.l x with
      |b T=>
       have b:=gd.6.4 x T hl
       show WI P _ (bif T=="enumerate" then _ else bif T=="range" then _ else _) t
       exact bC (b:=T=="enumerate") (λh1=>by obtain rfl:=bW h1;exact .n λht=>λz Q S e=>iW<|ld_built S b.1 hg b.2 (by
        exact Y hb<|callWith_type1<|dR (((hE y)) z _ S e) λz₁ v a q S G r=>q.e
         (λe=>oA (G:=λa=>bf P.C.b P.A (call (.t "enumerate") [a]) (λy sS=>bf P.C.b P.A (lX y) (vX P z t Q) cQ sS) cQ z₁.s) S r e λn us l items ep q ha hl hr hn e=>call_enumerate_list ⟨_,hl,U,_,U⟩ λh' hE hI u hk=>vE hE<|.g e S G hk aa0 λle=>.B1 ((K9 ht)) (AY _) (le.b _ _ ha) hE hI)
         λe=>BO (G:=λa=>bf P.C.b P.A (call (.t "enumerate") [a]) (λy sS=>bf P.C.b P.A (lX y) (vX P z t Q) cQ sS) cQ z₁.s) r e λl us xs t hr e=>AA t λh' hE hI hk=>vE hE<|.g e S G hk aa0 λle=>.B2 ((K9 ht)) (AY _) (le.c.1 _ _ t) (hr.J le) (cO _) hE hI)) λh1=>by
        exact Y h1<|bC (b:=T=="range") (λh2=>by obtain rfl:=bW h2;exact λz Q S e=>iW<|ld_built S b.1 hg b.2 (by
         refine Y hb<|xI U<|Calls.evalArgs_plain<|Calls.spliced_cons<|dR (((hE y)) z _ S e) λz₁ v a q S G r=>Calls.spliced_nil<|mP (G:=λa=>bf P.C.b P.A (call (.t "range") [a]) (λy sS=>bf P.C.b P.A (lX y) (vX P z t Q) cQ sS) cQ z₁.s) r q λN t e=>call_range_1 ?_
         have hf:=bl e.1
         refine wpAny_pyIter_range (IsRange.new ..) (small_one (by decide) (by decide) (iA hf).1 (iA hf).2)<|Y (by rw[rangeSize_one];split;(rename_i h;exact(Int.sub_zero N).t (M3<|um h).s);(rename_i h;exact congrArg Nat.cast (Int.toNat_of_nonpos<|qX.m h).s):η 0 N 1=N.toNat) ?_
         have T:=S.u {z₁.s with heap:=z₁.h.p {cls:=.t "range",data:=.f #[.i 0 z₁.s.t,.i N t,.i 1<|z₁.s.t+1]},toks:=z₁.s.t+1+1} (dB _ _) U U
         exact .g (z':=⟨z₁.ρ,z₁.σ,_⟩) e.2 T.1 (G.n T.2) (dB _ _) Kt λle=>.range<|bG _ U)) λh2=>Y h2 .q U
      |_=>exact pl _);(exact .q U)
   .exact pl _
  |Attribute o name apos=>
   cases args with
   |cons a r=>exact pl _
   |nil=>
    cases kws with
    |cons a r=>exact pl _
    |nil=>
     show WI P _ (bif decide (name="items")then p5 (isTup t&&apos.e==p.l&& !isCall o) (bD (f o) Cj)else bD (f<|.C (.A o name apos) [] [] p) jz) t
     by_cases hn:name="items"
     .exact Y (decide_eq_true hn)<|Y hn<|.n λh=>have h:=an h;have h':=an h.1;WI.v (hE o) Ut (xO<|nb h.2) (vo U) h'.2 Us F.type_dict_items (K9 h'.1)
     .exact Y (decide_eq_false hn)<|pl _
  |_=>exact pl _
 |_=>exact pl _
theorem Xg{f:Expr->W V}(a:∀e,WE P e<|f e):∀o,WP P o (cP f o):=λo=>o.rec WP.v a
theorem Qr(S:J! J)(a:Good P k g):WE P (.C f m s A) (cE (J+1) g<|.C f m s A):=by
 have j:=S.1 a
 have H:=fB a.5
 cases s with
 |cons _ _=>rcases f with _|_<;>exact .n
 |nil=>
  cases f with
  |Attribute o name C=>
   refine .k λd=> ?_
   have h:=an d
   have n:=an h.1
   have l:=(an n.1).1
   rcases I:Ni name with _|b;(exact .k λd=>WE.qM (j o) (rI j l) (a.6.9 name) H (xO<|nb h.2) (vo n.1) n.2 (j5 n.1)<|a.3 d);(have q:=WJ (aH (cD k) a.5) I;exact WE.Q! (j o) (rI j l) q.1 q.2 q.3 q.4 q.5 (xO<|nb h.2) (vo n.1) n.2<|j5 n.1)
  |Name x p=>
   refine .k λh=> ?_
   have l:=(an h).1
   cases L:pos? g.n x with
   |some i=>
    cases m with
    |nil=>exact .n
    |cons e r=>exact .k λd=>WE.UU a.7 a.5 (HY a) (rI j l) (j5 h)<|a.3 d
   |none=>
    refine .k λu=> ?_
    rcases t:g.l x with y|⟨c,y⟩|id|T|_|_;(exact .k λd=>(a.6.1 x y t).e λf q=>λz Q S e=>iW<|FL S q.2.1 ((a.K u)) q.2.2<|Ab (E:=cQ) (Q:=λw w=>True) q.1 H ((a.3 d)) ((j5 h)) ((rI j l)) S .nil e);(exact .k λd=>(a.6.2 x c y t).e λf q=>WE.make (rI j l) q.1 a.5 q.2 q.3 q.4 q.5 q.6 (a.K u) q.7 (j5 h)<|a.3 d);(have q:=a.6.3 x id t;exact λz Q S e=>iW<|ld_built S q.1 ((a.K u)) q.2<|vr (any_false<|(j5 h))<|gz ((j5 h))<|dR (((rI j l)) z _ S e) λz₁ vs v q S G r=>t7 G<|((Yl a)) z₁ Q vs v S r q);(have q:=a.6.4 x T t;exact λz Q S e=>iW<|ld_built S q.1 ((a.K u)) q.2<|xI (any_false<|(j5 h))<|gz ((j5 h))<|dR (((rI j l)) z _ S e) λz₁ vs v q S G r=>t7 G<|Yp z₁ Q vs v S r q);all_goals(exact .n)
  |_=>exact .n
theorem B8(h:fieldOf a=M x):∃p,a=.F x 115 aI p:=by
 cases a with
 |FormattedValue e c o p=>
  rcases o with _|_;(
   have h:(bif c==115 then M e else aI)=M x:=h
   exact bC (b:=c==115) (λq=>by have h:=q▸h;cases h;exact⟨p,bW q▸U⟩) λq=>nS<|q▸h);(exact nS h)
 |_=>exact nS h
theorem Sm.E{γ:Type}{f:γ->W a}{o:Option γ}(x:∀c,o=M c->Sm P t (f c) R):Sm P t (o.e jD f) R:=by rcases o with _|c;(exact .n);(exact x c U)
theorem Z!(S:J! k')(u:Good P k g)(e:Expr):WE P e (cE (k'+1) g e):=by
 have n:=S.1 u
 have hn:=aH (cD k) u.5
 cases e with
 |Constant c j p=>exact WE.const
 |Name x p=>exact HY u
 |BinOp l R r p=>exact WE.bin (n l) (n r) UQ
 |UnaryOp R x p=>rcases R with _|_<;>first
  |exact λz Q S e=>wpAny_UnaryOp (dR (((n x)) z _ S e) λz₁ v a q S G r=>by
   apply mP r q;intro i t q
   exact PySem.P.neg_int<|.T G<|.t _ q S .y)
  |exact .n
 |Compare l ops rs p=>
  rcases ops with _|⟨R,_|_⟩<;>first|exact .n|(rcases rs with _|⟨r,_|_⟩<;>first|exact .n|exact .k λh=>WE.cmp (n l) (n r) (LW hn)<|Mo<|nb h)
 |BoolOp R vs p=>exact JU u n vs
 |IfExp t b o p=>exact WE.aao (S.2 u t) (n b)<|n o
 |Tuple es j p=>exact .k λh=>Sm.S<|.l ((rI n (an h).1)) λz vs as Q S r e=>Ku z Q vs as S r e
 |List es p=>exact .k λh=>Sm.S<|.l ((rI n (an h).1)) λz vs as Q S r e=>Ai z Q vs as S r e
 |Attribute v a p=>exact .k λh=>(λz Q S e=>by
  show bf _ _ (kl v a P.e (eval v P.e)>>=_) _ _ _
  exact Y ((xO<|nb h))<|aB<|dR (((n v)) z _ S e) λz₁ v a q S G r=>aB<|dD<|aB<|bK<|dR (((LL u)) z₁ Q v a S r q) λJ b c q S G' r=>aB<|wpAny_letTemporaryGo<|aF<|.mk J b q S (G.n G') r)
 |Subscript v i p=>
  cases i with
  |Slice lo I st q=>rcases st with _|_;(exact WE.slice (n v) (Xg n lo)<|Xg n I);(exact .n)
  |_=>exact .k λh=>WE.sub (n v) (n _) Hw<|sub_eq<|nb h
 |Call f args kws p=>exact Qr S u
 |Dict ks vs p=>
  rcases ks with _|⟨a,ks⟩
  .rcases vs with _|⟨v,vs⟩;(exact λz Q S e=>aB<|dD<|M! z Q S e);(exact λz Q S e=>e.e)
  .exact .k λh=>have h:=an h;have N:=an h.1;WE.dict (Zp n (a::ks) vs N.1<|bW N.2) N.1 (bW N.2) (λq=>by cases q) (of_decide_eq_true h.2)
 |ListComp elt C w p=>
  rcases C with _|⟨⟨m,A,E,(_|_)|_⟩,_|_⟩<;>first|exact .n|(
   refine .k λX=> ?_
   have a:=an X;have b:=an a.1;have c:=an b.1
   rcases I:tg g.n (jd w)with _|l;(exact .n);(have h:=u.C c.2 b.2 I;exact WE.K (eval_ListComp ..) (BR ..) N' h ((Mg u n A m)) ((λL=>S.3 (u.I h) m)) ((λL=>K8 (S.2<|u.I h) E)) (λL=>Eb<|((λL=>S.1 (u.I h) elt)) L) ((fold_eq<|nb a.2))<|(u.3 c.1)))
 |DictComp kx vx C w p=>
  rcases C with _|⟨⟨m,A,E,(_|_)|_⟩,_|_⟩<;>first|exact .n|(
   refine .k λX=> ?_
   have a:=an X;have b:=an a.1;rcases I:tg g.n (jd w)with _|l;(exact .n);(have h:=u.C (an b.1).2 b.2 I;exact WE.K (arm_eval_DictComp ..) (J0 ..) M! h ((Mg u n A m)) ((λL=>S.3 (u.I h) m)) ((λL=>K8 (S.2<|u.I h) E)) (λL=>Nr (((λL=>S.1 (u.I h) kx)) L)<|((λL=>S.1 (u.I h) vx)) L) ((fold_eq<|nb a.2))<|(u.3 (an b.1).1)))
 |JoinedStr vs p=>
  rcases vs with _|⟨a,_|⟨b,_|⟨c,_|⟨d,r⟩⟩⟩⟩<;>first|exact .n|skip
  exact .E λx hx=>.E λs hs=>.E λy hy=>(B8 hx).e λp1 e1=>((show∃j p,b=.n (.str s) j p from by
    cases b with
    |Constant c j p=>rcases c with _|_<;>cases hs;exact⟨j,p,U⟩
    |_=>exact nS hs)).e λj T=>T.e λp2 T=>(B8 hy).e λp3 e3=>e1▸T▸e3▸WE.joined (n _) (n _)
 |Lambda a b c d=>exact λz Q S H=>eV H λp hp he q=>he▸u.8 p hp z Q S q
 |_=>exact .n
theorem P'(S:J! m)(a:Good P k g)(e:Expr):WB P e (cB (m+1) g e):=by
 have f:=S.1 a
 cases e with
 |UnaryOp d x p=>rcases d with _|_<;>first|exact WB.J (S.2 a x)|exact .n
 |BoolOp d vs p=>exact WB.boolOp<|vs.R (.u λx=>U) λe r j=>Qa.cons (((S.2 a)) e) j
 |Compare l c i p=>
  rcases c with _|⟨d,_|_⟩<;>first|exact .n|(rcases i with _|⟨r,_|_⟩<;>first|exact .n|exact .k λh=>WB.Q (f l) (f r) (LW<|aH (cD k) a.5)<|Mo<|nb h)
 |IfExp t b o p=>exact .n
 |_=>exact WB.X (f _) (MR a) U
theorem M?(S:J! H)(f:Good P k g)(t:Expr):WA P t (cA (H+1) g t):=by
 have E:=S.1 f
 cases t with
 |Name x p=>
  show WA P _ (match pos? g.n x with|some i=>λv=>p5 (g.k.o x==M .local) (ck i v)|none=>λy=>jD)
  rcases hp:pos? g.n x with _|i;(exact L1.n);(exact L1.k λh=>λz Q v a S r e=>Z6<|Th ((f.N hp)) ((f.K h)) S r e λz' q S G=>.mk z' () q S G trivial)
 |Attribute o a p=>
  show WA P _ (match g.A a with|some j=>λw=>bD (cE H g o) λv=>AR j v w|none=>λy=>jD)
  rcases ha:g.A a with _|j;(exact L1.n);(have A:=f.6.6 a j ha;exact λz Q w b S rw e=>Y (assign_Attribute _ _ _ _)<|aB<|bK<|dR (((E o)) z _ S e) λz₁ v a q S G r=>aB<|dD<|aB<|bK<|dR (((IH A.1 A.3 A.2)) z₁ _ w v b a S (rw.n G) r q) λd c y q S u y=>aen<|.mk d c q S (G.n u) trivial)
 |Subscript o i p=>exact L1.k λy=>(λz Q w b S rw e=>by
  exact aB<|bK<|dR (((E o)) z _ S e) λz₁ v a q S G r=>aB<|bK<|dR (((E i)) z₁ _ S q) λd k c q S u r'=>aB<|dD<|aB<|bK
   <|dR (IJ d _ v k w a c b S (r.n u) r' (rw.n<|G.n u) q) λn t j q S C j=>aen<|.mk n t q S ((G.n u).n C) trivial)
 |Tuple es j p=>exact L1.k λh=>have h:=an h;have q:=(show WH P ((iT es P.e).m (·.2)) (es.m<|cA H g)/\(iT es P.e).findIdx? (·.1)=aI from Y (W2 (F:=λes=>iT es<|Px.e P) U (λe r q=>by rcases e with _|_<;>first|rfl|exact bT q) h.2)<|Y dQ ⟨es.R .nil λe r X=>.cons (((S.3 f)) e) X,rt.M λx m=>(mm m).e λe q=>q.2▸U⟩);(λz Q v a S r e=>by
  apply BO r e;intro l R N t I e
  refine assign_Tuple_tuple (P.o.1<|(f.3 h.1)) t (by have:=q.1.l;rw[aD]at this;exact Y this<|rR (bq e.1) I.E.s) q.2 λL J=> ?_
  have T:=S.u {z.s with heap:=L} (λb o e=>J b o (λq=>dq (fg<|Zt.h z)<|q▸e) e) U U
  exact t7 T.2<|q.1.r ⟨z.ρ,z.σ,_⟩ Q R N T.1 (I.mono T.2) e.2)
 |_=>exact L1.n
theorem snd:∀k,J! k
 :=λa=>a.r ⟨λx x=>.n,λx x=>.n,λx x=>L1.n⟩ λk S=>⟨Z! S,P' S,M? S⟩
theorem Θ.n:Θ P t (λx x x=>False) R:=λx x x x e=>e.e
theorem Xw(y:Good P k g):∀(d:Nat) (e:Expr),XE P e<|cX d g e
 :=λI=>I.r (λe=>.n) λd A e=>by
  have u:=(snd d).1 y
  have H:=aH (cD k) y.5
  have t:∀e,XE P e (KQ<|cE d g e):=λe=>.k<|u e
  cases e with
  |Subscript v i p=>
   intro z Q E S e
   have e:p5 (g.c&& !isSlice i) (cE d g v) (λv=>cX d g i (λw=>tV v w Q E) E) z.σ:=e
   exact bC (b:=g.c&& !isSlice i) (λj=>by rw[j]at e;exact XE.S (u v) (A i) (sub_eq<|nb (an j).2) (y.3 (an j).1) z Q E S e) λj=>by rw[j]at e;exact e.e
  |Call f c s p=>
   cases f with
   |Attribute o name m=>
    cases s with
    |cons a r=>exact t _
    |nil=>
     show XE P _ (match Ni name with
      |some b=>λQ E σ=>(uS c&&m.e==p.l&& !isCall o)=Z/\cX d g o (λv=>bD (b.c v) (λx=>bD (nU<|c.m<|cE d g) λvs=>b.o v vs) Q) E σ
      |none=>λx x x=>False)
     rcases C:Ni name with _|b;(exact .n);(exact λz Q E S l=>ir l λj e=>have h:=an j;have n:=an h.1;have q:=WJ H C;XE.q (A o) (rI u (an n.1).1) q.1 q.2 q.3 q.4 q.5 (xO<|nb h.2) (vo n.1) n.2 (j5 n.1) z Q E S e)
   |_=>exact t _
  |_=>exact t _
theorem δ(i:Good P k g)(c:Nat)(f:List Stmt):Ω P f (cXs c g f):=by
 rcases f with _|⟨s,_|⟨s',r⟩⟩
 .exact .n
 .cases s with
  |Expr e p=>exact λz Q E S b=>ir b λh d=>aB<|acr (QP (((Xw i c e)) z _ E S d) (λz₁ v a q S G r=>aF<|.mk z₁ _ q S G U) λw w y=>y) ((by delta interactive;refine Y P.X.k ?_;rfl))<|(swap_eq h)
  |Assign ts v p=>
   rcases ts with _|⟨t,_|⟨l,r⟩⟩
   .exact .n
   .exact λz Q E S b=>ir b λh d=>have h:=an h;have j:=an h.1;Ω.l (Xw i c v) ((snd c).3 i t) (swap_eq<|nb j.1) (MP<|nb h.2) (Sf<|nb j.2) z Q E S d
   .exact .n
  |_=>exact .n
 .cases s with
  |Assign ts v p=>rcases ts with _|⟨t,_|⟨l,r⟩⟩<;>exact .n
  |_=>exact .n
inductive XX(k':Nat):Prop
 |mk (S:∀{P k g},Good P k g->∀s,WS P s (cS k' g s)) (Ss:∀{P k g},Good P k g->∀ss,Pn P ss (cSs k' g ss))
theorem Fz(a:Good P k g){R:F->Flow->Zt->Prop}(h:∀T,g.e x=M T->PI P x T->Sm P t (f T) R):Sm P t (Vc g x f) R:=
 .k λb=>.E λT q=>have E:=a.6.10 x T q;h T q ⟨E.1,a.K b,E.2,E.3,E.4,E.5,E.6⟩
theorem zA(h:nameOf t=M x):∃p,t=.N x p:=by
 cases t with
 |Name y p=>cases h;exact⟨p,U⟩
 |_=>exact nS h
theorem Ox(h:pairOf t=M q):∃j p,t=.T [q.1,q.2] j p:=by
 cases t with
 |Tuple es j p=>rcases es with _|⟨a,_|⟨b,_|⟨c,r⟩⟩⟩<;>cases h;exact⟨j,p,U⟩
 |_=>exact nS h
theorem Wi(S:XX v)(d:Good P k g):
  WS P (.Try body [.E (M t) aI (c::a) f] [] [] l) (cS (v+1) g<|.Try body [.E (M t) aI (c::a) f] [] [] l):=by
 have b:=λu=>S.2 (d.H u)<|c::a
 have s:=δ d v body
 refine .k λh=>Fw (d.4 (an h).2) λi L r o=> ?_
 show WS P _ (match nameOf t with|some nm=>_|none=>_)
 rcases ht:nameOf t with _|nm;(exact .E λq hq=>.E λn1 h1=>.E λn2 X=>(Ox hq).e λj e=>e.e λp e=>(zA h1).e λp1 R=>(zA X).e λp2 N=>e▸R▸N▸Fz d λT1 n J=>Fz d λT2 m I=>(d.6.11 _ _ _ _ n m).e λb1 H=>(d.6.11 _ _ _ _ m n).e λb2 C=>WS.ZT r o s b J I H C);(exact(zA ht).e λp e=>e▸Fz d λT x E=>(WS.abE r o s b (λA h=>m1 h▸E.4) λA h z u Q S y k=>by
  obtain rfl:=m1 h
  exact wpAny_handleBy_builtin E.5 E.6 E.7<|ld_built S E.1 E.2 E.3<|kb U y<|bP (k z.h λw w e=>e) (λw w b=>bP b (λw w b=>b) λw w b=>b.e) λw w b=>b.e))
theorem Xl(S:XX k')(gd:Good P k g)(s:Stmt):WS P s (cS (k'+1) g s):=by
 have T:=snd k'
 cases s with
 |Pass p=>exact Sm.S<|.u λx=>U
 |Break p=>exact Sm.S<|.u λx=>U
 |Continue p=>exact Sm.S<|.u λx=>U
 |Return o p=>rcases o with _|e;(exact .n);(exact λz Q S e'=>wpAny_Return_some<|dR (((T.1 gd e)) z _ S e') λz₁ b a q S G r=>.mk z₁ _ q S G<|br a U r)
 |Expr e p=>exact .k λh=>λz Q S e'=>acr (dR (((T.1 gd e)) z _ S e') λz₁ b a q S G r=>.mk z₁ _ q S G U) ((by delta interactive;refine Y P.X.k ?_;rfl))<|(swap_eq<|nb h)
 |Assign ts v p=>
  rcases ts with _|⟨t,_|⟨t',r⟩⟩
  .exact .n
  .have usual:WS P (.A [t] v p) (p5 (!zm v&& !isStar t&& !(Mi t&&isTup v))<|bD (cE k' g v) λv=>bD (cA k' g t v) λy=>bE .n):=
    .k λh=>have h:=an h;have h':=an h.1;Sm.q (.S<|.l ((T.1 gd v)) λz v a Q S r e=>aB<|dR (((T.3 gd t)) z _ v a S r e) λz' w w q S G w=>aF<|.mk z' _ q S G U) (pB t v p P.e ((swap_eq<|nb h'.1)) ((MP<|nb h.2))<|(Sf<|nb h'.2))
   cases v with
   |ListComp elt gens scope pos=>
    rcases gens with _|⟨⟨target,iter,ifs,(_|_)|_⟩,_|_⟩<;>first
     |exact usual
     |rcases t with _|_<;>first
      |exact .n
      |have S:=snd k'
       refine .k λh=> ?_
       have h:=an h
       have h':=an h.1
       have hsw:=by
        show(pure (P.X.e.blockKind==.f&&P.X.e.k id==M .local&&pos_1.l==pos.l&& !scope.n.A λ(n,k)=>n==id&&(k==.local||k==.c)):Sem Bool)=pure Z
        refine Y h.2<|Y h'.2<|Y (gd.K h'.1) ?_
        delta Env.blockKind
        refine Y P.X.k ?_
        rfl
       show WS P _ (bD (p5 (g.c&&D7 g (jd scope)&&uD scope (ownOf scope) (jd scope)&& !rK iter)<|match tg g.n (jd scope)with|none=>_|some capI=>_) _)
       exact bC (b:=g.c&&D7 g (jd scope)&&uD scope (ownOf scope) (jd scope)&& !rK iter) λhc=>by
        refine Y hc ?_
        have a:=an hc;rcases hi:tg g.n (jd scope)with _|l;(exact λz Q S e=>e.e);(have h:=gd.C (an (an a.1).1).2 (an a.1).2 hi;exact WS.JP hsw U (S.3 gd _) h (Mg gd (S.1 gd) iter target) (λL=>S.3 (gd.I h) target) (λL=>K8 (S.2<|gd.I h) ifs) (λL=>S.1 (gd.I h) elt) (fold_eq<|nb a.2)<|gd.3 (an (an a.1).1).1) λhc=>Y hc λz Q S e=>e.e
   |_=>exact usual
  .exact .n
 |AugAssign t op v p=>
  cases t with
  |Name x q=>
   show WS P _ (match pos? g.n x with|some i=>_|none=>_)
   rcases hp:pos? g.n x with _|i;(exact .n);(exact .k λh=>WS.UO (gd.N hp) (gd.K h) (T.1 gd v) LM)
  |Attribute o a q=>
   show WS P _ (match g.A a with|some i=>_|none=>_)
   rcases ha:g.A a with _|j;(exact .n);(have A:=gd.6.6 a j ha;exact WS.UN (h:=λy=>bE) (T.1 gd o) (LL gd) (T.1 gd v) LM<|IH A.1 A.3 A.2)
  |_=>exact .n
 |For t i b o p=>exact .k λh=>WS.for (Mg gd (T.1 gd) i t) (T.3 gd t) (S.2 gd b) (S.2 gd o) (fold_eq<|nb (an h).2)<|gd.3 (an h).1
 |While t b o p=>exact WS.wh (T.2 gd t) (S.2 gd b)<|S.2 gd o
 |If t b o p=>exact WS.iff (T.2 gd t) (S.2 gd b)<|S.2 gd o
 |Try body hs els fin p=>
  rcases hs with _|⟨⟨_|t,_|nm,_|⟨aeO,suite⟩,hp⟩,_|⟨h2,h3⟩⟩<;>first|exact .n|skip
  rcases els with _|⟨e1,e2⟩<;>first|exact .n|skip
  rcases fin with _|⟨f1,f2⟩<;>first|exact .n|skip
  exact Wi S gd
 |_=>exact .n
theorem Tf{c:G->Stmt->W F}(i:Good P k g)(h:∀s,WS P s<|c g s):∀b,Pn P b (UT c g b):=λb=>b.R (.u λx=>U) λs r d=>List.casesOn r (λx=>λz Q S e=>aB (dR (((h s)) z _ S e) λz₁ f g q S G r=>by
 revert q
 apply Ed r
 .exact λq=>aF<|.mk z₁ _ q S G U
 .exact λq=>aF<|.mk z₁ _ q S G U
 .exact λq=>aF<|.mk z₁ _ q S G U
 .exact λv a r q=>aF<|.mk z₁ _ q S G<|br a U r)) (λx y d=>λz Q S e=>aB (dR (((h s)) z _ S e) λz₁ f g q S G r=>by
   revert q
   apply Ed r
   .exact λq=>t7 G<|d z₁ Q S q
   .exact λq=>aF<|.mk z₁ _ q S G U
   .exact λq=>aF<|.mk z₁ _ q S G U
   .exact λv a r q=>aF<|.mk z₁ _ q S G<|br a U r)) d
theorem ZN:∀k,XX k:=λn=>n.r ⟨λx x=>.n,λa=>Tf a λx=>.n⟩ λk S=>⟨Xl S,λa=>Tf a<|Xl S a⟩
theorem xK:asc l x=M e->(x,e)∈l:=l.R (λh=>nS h) λp r a=>by
 show(bif decide (x=p.1)then M p.2 else asc r x)=M e->_
 by_cases q:x=p.1
 .rw[decide_eq_true q];exact λh=>rS h<|Y (Dx q U:(x,p.2)=p)<|.h _
 .rw[decide_eq_false q];exact λh=>.t _<|a h
theorem Vo{K:Frag}(h:isFn K f=Z):∃c b fd a,K.o f=M ⟨c,b,.F fd,a⟩:=by
 delta isFn at h
 rcases q:K.o f with _|o;(rw[q]at h;exact bF h);(
  rw[q]at h
  obtain⟨c,b,d,a⟩:=o
  cases d with
  |func fd=>exact⟨c,b,fd,a,U⟩
  |_=>exact bF h)
theorem IZ(h:ZX v y=Z):bB z v y:=by
 cases v with
 |I i=>cases y with
  |int j t=>exact rR (of_decide_eq_true h) .y
  |_=>exact bF h
 |s l=>cases y with
  |str x t=>exact rR (of_decide_eq_true h) .ofStr
  |_=>exact bF h
 |N=>rcases y with _|_|_|_|_|_|_;(exact .pG);all_goals(exact bF h)
 |_=>rcases y with _|_<;>exact bF h
inductive P8(C:Cx)(T:Tab):Prop
 |mk (ok:T.ok C.K=Z) (a!:C.A=T.a!) (classes:C.l=T.classes) (J4:∀p∈T.J4,ij (.t p.2) (.t "BaseException")=pure Z/\ij (.t ((Au p.2).e "type" λx=>x.metatype)) (.t "tuple")=pure D/\ij (.t p.2) (.t p.2)=pure Z) (excs2:∀p∈T.J4,∀q∈T.J4,∃b,ij (.t p.2) (.t q.2)=pure b)
section
variable{T:Tab}{call:CF}
theorem JN(c:T.a! i=a)(d:nz a=Z):T.atts[i]?=M a:=by
 delta Tab.a! at c
 rcases q:T.atts[i]? with _|b;(rw[q]at c;rw[<-c]at d;exact bF d);(rw[q]at c;exact congrArg M c)
theorem Tab.adE(h:P8 C T)(m:∀f,WF C k f<|call f):
  have g:=T.g call S lams s R;y! C k g.l g.A g.d g.t g.m g.e:=by
 have o:=an h.1
 have o9:=t6 o.2
 have o:=an o.1
 have o8:=t6 o.2
 have o:=an (an o.1).1
 have nd:=of_decide_eq_true o.2
 have o:=an o.1
 have o6:=t6 o.2
 have o:=an o.1
 have o5:=t6 o.2
 have o:=an o.1
 have o4:=t6 o.2
 have o:=an o.1
 have o3:=t6 o.2
 have o:=an o.1
 have H:∀{x:Str} {E:Gl},(T.g call S lams s R).l x=E->E≠.n->∃e,e.g call=E/\geB C.K T.classes (x,e)=Z:=λ{x E} e Q=>by
  have e:(match asc T.ge x with|some e=>e.g call|none=>Gl.n)=E:=e
  rcases q:asc T.ge x with _|d;(rw[q]at e;exact(Q e.s).e);(rw[q]at e;exact br d e<|t6 o.1 _<|xK q)
 have fn:∀{f:Addr},isFn C.K f=Z->Fn C k f (call f):=λb=>⟨m _,Vo b⟩
 refine⟨λx P e=> ?_,λx c P e=> ?_,λx id e=> ?_,λx id e=> ?_,λx v e=> ?_,λa j e=> ?_,λa c dv e=> ?_,λc A=> ?_,λa c P e=> ?_,λx t e=> ?_,λx y t u e d=>h.5 _ (xK e) _<|xK d⟩
 .obtain⟨d,q,b⟩:=H e Gl.noConfusion
  cases d<;>first|cases q|skip
  exact eI _ (fn (an (an b).2).1) (bW (an (an b).2).2)<|nb (an b).1
 .refine cz (H e Gl.noConfusion) λd q b=> ?_
  cases d<;>first|cases q|skip
  have b:=an b
  have w:=an b.2
  have n:=an w.1
  exact⟨_,m _,(an (an n.1).1).1,h.3▸of_decide_eq_true (an (an n.1).1).2,bW (an n.1).2,bW n.2,bW w.2,nb b.1⟩
 .obtain⟨d,q,b⟩:=H e Gl.noConfusion
  cases d<;>first|cases q|skip
  have b:=an b
  exact⟨⟨bW (an (an b.2).1).1,bW (an (an b.2).1).2,of_decide_eq_true (an b.2).2⟩,nb b.1⟩
 .obtain⟨d,q,b⟩:=H e Gl.noConfusion
  cases d<;>first|cases q|skip
  have b:=an b
  exact⟨⟨bW (an (an b.2).1).1,bW (an (an b.2).1).2,of_decide_eq_true (an b.2).2⟩,nb b.1⟩
 .obtain⟨d,q,b⟩:=H e Gl.noConfusion
  cases d<;>first|cases q|skip
  exact eI _ (bW (an (an b).2).1) (λz=>IZ (an (an b).2).2)<|nb (an b).1
 .have N:=Iw e
  have l:=aJ N
  have X:=t6<|t6 o.2 a l
  refine⟨?_,λi J=>(yU (bw.m<|JN (h.2▸J)<|o8 a l).1 nd).m<|(JN (h.2▸J)<|o8 a l).t N.s,λc A=>bW (an<|X c<|h.3▸A).1,λI c A=> ?_⟩
  .refine Y h.2 ?_;delta Tab.a!;exact Y N U
  .have b:=(an<|X c<|h.3▸A).2
   have I:(match asc T.xN a with|some (c,v,_)=>M (c,v)|none=>aI)=aI:=I
   rcases q:asc T.xN a with _|e;(rw[q]at b;exact bW b);(rw[q]at I;exact sN I)
 .have e:(match asc T.xN a with|some (c,v,_)=>M (c,v)|none=>aI)=M (c,dv):=e
  rcases q:asc T.xN a with _|p;(rw[q]at e;exact nS e);(
   rw[q]at e
   refine rR (cZ<|sJ e).1<|rR (cZ<|sJ e).2 ?_
   have b:=an<|o3 _<|xK q
   exact⟨p.2.2,bW (an (an b.1).1).1,bW (an (an b.1).1).2,nb (an b.1).2,λz=>IZ b.2⟩)
 .have b:=an<|o5 c<|of_decide_eq_true A
  exact⟨bW b.1,bW b.2⟩
 .have e:(match zx T.K a c with|some f=>M (call f)|none=>aI)=M P:=e
  rcases q:zx T.K a c with _|f;(exact nS<|q▸e);(
   have e:=q▸e;refine rR (sJ e) ?_
   have l:=(show zx T.K a c=M f->(a,c,f)∈T.K from T.K.R (λh=>nS h) λp r ih=>by
    show(bif decide (a=p.1)&&aA c p.2.1 then M p.2.2 else zx r a c)=M f->_
    rcases q:decide (a=p.1)&&aA c p.2.1 with _|_;(exact λh=>.t _<|ih h);(exact λh=>rS h<|Y (Dx (of_decide_eq_true (an q).1) (Dx (bq (an q).2) U):(a,c,p.2.2)=p)<|.h _)) q
   have b:=an<|o4 _ l
   exact⟨eI f (fn (an (an b.1).1).1) (bW (an (an b.1).1).2)<|bW (an b.1).2,λi J=>bF<|(nb b.2).s.t<|og.M<|aJ<|JN (h.2▸J)<|o9 _ l⟩)
 .have l:=xK e
  have b:=an<|o6 _ l
  have w:=an b.1
  have n:=an w.1
  have L:=an n.1
  exact⟨⟨bW (an L.1).1,bW (an L.1).2,of_decide_eq_true L.2⟩,nb n.2,⟨of_decide_eq_true w.2,of_decide_eq_true b.2⟩,(h.4 _ l).1,(h.4 _ l).2.1,(h.4 _ l).2.2⟩
theorem Tab.good(h:P8 P.C T)(d:∀f,WF P.C k f<|call f)(e:WL P.C (k+1) j)(c:∀p∈lams,WE P p.1 p.2)
  (r:P.X.n=b) (q:P.X.e.scope.n=i) (o:P.X.C=Z) (m:∃a L,P.X.f=P.X.e::a/\P.X.e.f=M L) (l:k+1<=P.n):Good P k (T.g call j lams b i):=
 ⟨r,q,λx=>o,λx=>m,l,Tab.adE h d,e,c⟩
end
inductive O7(C:Cx):Prop
 |mk (K:C.K=kK C.w.p) (tab:P8 C T8) (lam:∀k,k<4->C.L k=Mm C.m (wi k)) (tabs:∀j,j<6->C.t j=tabAt (DS j)) (hd1:CodeHd C.s 395 391) (hd2:CodeHd C.s 402 398) (bm:∃bm o,C.m "__builtins__"=M (.r bm)/\bm≠j3/\bm≠dC/\C.s.g bm=M o/\o.c=.t "module"/\o.D=M j3/\o.d=.plain)
inductive P2(r:FR):Prop
 |mk (ho:∀P,(kK P).o r.f=M ⟨.t "function",aI,.F r.a,#[]⟩) (hcd:∀P,codeIn (kK P) r.c r.q=Z) (pY:uC r.d.s (r.p++r.R)=Z)
abbrev Br(C:Cx)(h:Heap):Prop:=∀b o,C.s.g b=M o->h.g b=M o
section
variable{call:CF}{r:FR}{na:Nat}{p:List a0->Prop}
theorem GJ(H:O7 C)(c:∀f,WF C n f<|call f)(e:WL C (n+1) i)(R:P2 r)(m:∀s,Br C s.h->∀as,as.L=na->XB s r.a ⟨as,[]⟩ (r.p.z<|as++ds))
  (l:∀z,Br C z.h->bJ z g ds) (k:r.p.L=na+ds.L) (b:∀L a A ok,∀p∈lams,WE ⟨C,Q0 r.q r.d.s L r.f r.c (r.p++r.R) a R.3,n+1,A,ok⟩ p.1 p.2):WF C (n+2) r.f (gw r (sg T8 call i lams r) na g):=
 WF.K r.p r.R (H.1▸R.1 _) (H.1▸R.2 _) R.3 (λs as j=>m s j as) l k λL a A ok=>(ZN 60).2 (Tab.good H.2 c e (b L a A ok) U U U (we _ _ U U)<|aG _) _
theorem Z5(H:O7 C)(a:∀f,WF C n f<|call f)(b:WL C (n+1) c)(R:P2 r)(e:∀as,as.L=r.p.L->Jj r.a ⟨as,[]⟩=pure (r.p.z as)):WF C (n+2) r.f (gw r (sg T8 call c [] r) r.p.L []):=
 GJ H a b R (λs x as d=>.of_eq<|Y (bQ _)<|e as d) (λx x=>.nil) U λx x x x x m=>by cases m
noncomputable def bk(Kn:FuncData)(as:List a0):{k:Option (Array a0)->Sem (List<|Str×a0)//Jj Kn ⟨as,[]⟩=n? Kn.defaults>>=k}:=⟨_,U⟩
theorem tC(H:O7 C)(c:r.b=.r T)(b:∀P,(kK P).o T=M ⟨.t "tuple",aI,.s items 0,#[]⟩)(a:Br C s.h)
 (h:(bk r.a as).1 (M items)=pure binds):XB s r.a ⟨as,[]⟩ binds:=.of_defaults c (a _ _<|C.i _ _<|H.1▸b _) U (bk r.a as).2 h
theorem xt(H:O7 C)(a:∀f,WF C n f<|call f)(b:WL C (n+1) d)(R:P2 r)(i:∀s,Br C s.h->∀as,as.L=na->XB s r.a ⟨as,[]⟩ (r.p.z<|as++ds))
 (g:∀z,Br C z.h->bJ z c ds) (e:r.p.L=na+ds.L):WF C (n+2) r.f (gw r (sg T8 call d [] r) na c):=GJ H a b R i g e λx x x x x m=>nomatch m
theorem WF.q(x:WF C n f a)(y:WF C n f b):WF C n f λvs=>lW (a vs) (b vs):=λX A ok z Q vs as c S r e=>e.e (x X A ok z Q vs as c S r)<|y X A ok z Q vs as c S r
theorem WF.v:WF C n f λx=>jD:=λx x x x x x x x x x e=>e.e
theorem WF.w(x:WF C n f m):WF C (n+1) f m:=λX A ok z Q vs as c S r e=>wu (x X A (ok.l<|d7 n) z Q vs as c S r e) λr s y=>y.i λa y=>⟨y.1,ez.p y.2⟩
end
section
variable{call:CF}{r:FR}
theorem Vy(h:W8 e=Z):e=.a (Vx e) (aaC e) (Rn e) (rL e):=by rcases e with _|_<;>first|rfl|exact bF h
def acO(p:List a0->Prop)(n:Nat):Prop:=n.r (motive:=λ_=>(List a0->Prop)->Prop) (λp=>p []) (λ_ b p=>∀a,b λas=>p<|a::as) p
theorem zu{p:List a0->Prop}(h:acO p n):∀as,as.L=n->p as:=by
 induction n generalizing p with
 |zero=>exact λas e=>pz e▸h
 |succ n b=>exact λas=>as.casesOn (λe=>iZ e) λa as e=>(λa=>b<|h a) a as<|w7 e
theorem GK(H:O7 C)(b:∀f,WF C n f<|call f)(l:k<4)(pY:W9 (wi k).s (wi k).p (wi k).c=Z)
  (j:∀i h c g (as:List a0),as.L=(wi k).p.L->Jj (kla_fn "<lambda>" (wi k).q (wi k).P (wi k).b (wi k).s i h c g) ⟨as,[]⟩=pure ((wi k).p.z as)):WL C (n+2) (Rm call k):=
 WL.u (H.3 k l) pY j λa f c q d p o A ok=>(snd 60).1 (Tab.good (lams:=[]) H.2 b (λx x x x x x x x x x x x x e=>e.e) (λx m=>nomatch m) U U U (we _ _ U U)<|aG _) _
theorem TF(H:O7 C)(b:∀f,WF C n f<|call f):WL C (n+2) (AB call):=
 .q (GK H b (by decide) (by kernel_rfl) λg e d c=>zu λa=>(by kernel_rfl))<|.q (GK H b (by decide) (by kernel_rfl) λg e d c=>zu λa=>(by kernel_rfl))
  <|.q (GK H b (by decide) (by kernel_rfl) λg e d c=>zu λa=>(by kernel_rfl))<|GK H b (by decide) (by kernel_rfl) λg e d c=>zu λa=>(by kernel_rfl)
theorem FJ(H:O7 C)(pY:uC r.d.s (r.p++r.R)=Z)(ok:Dw (Q0 r.q r.d.s R r.f r.c (r.p++r.R) i pY) n A)(Q:k<4)(I:j<5)(N:W8 (qp k)=Z)
  (L:(DS<|j+1).P=(DS j).P) (b:(DS j).p=rL (qp k)::(DS<|j+1).p) (z:∀p∈(DS<|j+1).p,((rL<|qp k).l==p.l&&(rL<|qp k).c==p.c)=D) (J:aaE k=r.q++".<locals>."++"<lambda>") (s:∀w,defaultsOf (Vx<|qp k) w=([],[]))
  (g:r.c=.r (DS j).c) (v:CodeHd C.s (DS j).c (DS j).P) (e:(Rn<|qp k).n.a λx=>x.2 !=.f||r.d.s.n.o x.1==M .c=Z) (o:(Qs<|Rn<|qp k).m M=m.m ((r.p++r.R)[·]?)):
  WE ⟨C,Q0 r.q r.d.s R r.f r.c (r.p++r.R) i pY,n,A,ok⟩ (qp k) (Em k j t m):=
 have a:=λx l u=>(oy<|t6 e x l).e (λq=>absurd u<|bne_iff_ne.m q) bW
 (Vy N).s▸WE.Y5 (H.3 k Q) (H.4 j<|dA I) (H.4 (j+1)<|gW I) L (b▸.h _) (λp E=>⟨b▸.t _ E,z p E⟩) J U U U (s _) g v H.7
  (λx l u=>i0.m<|si _ _ _ _<|.I<|a x l u) U (λx l q=>(Mx l).e λy h=>NameKind.noConfusion<|sJ<|(h.2.2▸a y h.1 h.2.1).s.t q) o
inductive EZ(C:Cx)(n:Nat):List (Addr×(List V->W V))->Prop
 |nil:EZ C n []
 |cons {a:Addr} {m:List V->W V} {r:List (Addr×(List V->W V))} (x:WF C n a m) (y:EZ C n r):EZ C n ((a,m)::r)
theorem EZ.L(h:EZ C n l)(f:Addr):WF C n f (RD l f):=by
 induction h with
 |nil=>exact .v
 | @cons a m r x y b=>
  show WF C n f (bif aA a f then m else RD r f)
  rcases q:aA a f with _|_;(exact b);(revert b;refine rR (bq q) ?_;intro b;exact x)
def m?:List FR:=rPl++[eP,fP,jb,dU,gh,dY,dP]
theorem MH(m:r∈m?):P2 r:=⟨λP=>Pa.m ((show(m?.m λr=>(kK P).o r.f)=m?.m λr=>M ⟨.t "function",aI,.F r.a,#[]⟩from by kernel_rfl)) r m,λP=>dw.m ((show m?.a (λr=>codeIn (kK P) r.c r.q)=Z from by kernel_rfl)) r m,dw.m (show m?.a (λr=>uC r.d.s<|r.p++r.R)=Z from by kernel_rfl) r m⟩
theorem kH(k:Nat)(h:m?[k]?=M r):P2 r:=MH<|aJ h
theorem Yg(as:List a0):(bX as.L).m (λi=>as.g i .n)=as:=List.ext_getElem (by rw[aD,dy]) λi b a=>by
 rw[PV,List.getElem_range,aW,aP a];rfl
theorem EZ.p{g:FR->List V->W V}{t:List (Addr×(List V->W V))}{l:List FR}(y:EZ C n t)(h:∀r∈l,WF C n r.f<|g r):EZ C n (l.m (λr=>(r.f,g r))++t):=by
 induction l with
 |nil=>exact y
 |cons a l b=>exact .cons (h a<|.h _)<|b λr m=>h r<|.t _ m
theorem SX(H:O7 C)(j:∀f,WF C n f<|call f)(k:WL C (n+1) v):EZ C (n+2) (Xk call v):=
 .p (.cons (.q (xt (r:=eP) (ds:=[.r 54,.n,ux "" 251,.i 0 252]) H j k (kH 27 U) (λs l=>zu λa b c d=>(tC (items:= #[.r 54,.n,ux "" 251,.i 0 252]) H U λP=>by kernel_rfl l (by kernel_rfl))) (λz u=>.cons (bB.tup (.cons .ofStr<|.K .y) ⟨⟨.t "tuple",aI,.s #[ux "right" 249,.i 0 250] 0,#[]⟩,u _ _<|C.i _ _ (by refine Y H.1 ?_;kernel_rfl),U,0,U⟩)<|.cons .pG<|.cons .ofStr<|.K .y) U)<|xt H j k (kH 27 U) (λs l=>zu λa b c d e f g h=>(tC (items:= #[.r 54,.n,ux "" 251,.i 0 252]) H U λP=>by kernel_rfl l (by kernel_rfl))) (λz u=>.nil) U)<|
 .cons (xt (ds:=[.n,ux "" 448,.i 0 449]) H j k (kH 28 U) (λs l=>zu λa b c=>(tC (items:= #[.n,ux "" 448,.i 0 449]) H U λP=>by kernel_rfl l (by kernel_rfl))) (λz u=>.cons .pG<|.cons .ofStr<|.K .y) U)<|
 .cons (xt H j k (kH 29 U) (λs l=>zu λa b=>(tC (items:= #[.n]) H U λP=>by kernel_rfl l (by kernel_rfl))) (λz u=>.nil) U)<|
 .cons (.q (xt H j k (kH 30 U) (λs l=>zu λa=>(tC (items:= #[.n]) H U λP=>by kernel_rfl l (by kernel_rfl))) (λz u=>.K .pG) U)<|xt H j k (kH 30 U) (λs l=>zu λa b=>(tC (items:= #[.n]) H U λP=>by kernel_rfl l (by kernel_rfl))) (λz u=>.nil) U)<|
 .cons (xt H j k (kH 31 U) (λs l=>zu λa b c=>(tC (items:= #[ux "LALR" 657,.n]) H U λP=>by kernel_rfl l (by kernel_rfl))) (λz u=>.K .pG) U)<|
 .cons (GJ H j k (kH 32 U) (λs x=>zu λa b c d=>(.of_eq (by kernel_rfl))) (λx x=>.nil) U λL t A ok p o=>(mc o).e
   (λe=>e▸FJ H (kH 32 U).3 ok (by decide) (by decide) (by kernel_rfl) U U (λp o=>m1 o▸by kernel_rfl) (by kernel_rfl) λq=>by kernel_rfl U H.5 (by kernel_rfl) (by kernel_rfl))
   λe=>m1 e▸FJ H (kH 32 U).3 ok (by decide) (by decide) (by kernel_rfl) U U (λp o=>by cases o) (by kernel_rfl) λq=>by kernel_rfl U H.5 (by kernel_rfl) (by kernel_rfl))<|
 .cons (GJ H j k (kH 33 U) (λs x=>zu λa b c d=>(.of_eq (by kernel_rfl))) (λx x=>.nil) U λL t A ok p o=>(mc o).e
   (λe=>e▸FJ H (kH 33 U).3 ok (by decide) (by decide) (by kernel_rfl) U U (λp o=>m1 o▸by kernel_rfl) (by kernel_rfl) λq=>by kernel_rfl U H.6 (by kernel_rfl) (by kernel_rfl))
   λe=>m1 e▸FJ H (kH 33 U).3 ok (by decide) (by decide) (by kernel_rfl) U U (λp o=>by cases o) (by kernel_rfl) λq=>by kernel_rfl U H.6 (by kernel_rfl) (by kernel_rfl)) .nil) λr m=>Z5 H j k (MH<|iY _ m) λas e=>by
  have b:=Pa.m ((show(rPl.m λr=>Jj r.a ⟨(bX r.p.L).m (λi=>as.g i .n),[]⟩)=rPl.m λr=>pure (r.p.z<|(bX r.p.L).m (λi=>as.g i .n))from by kernel_rfl)) r m
  rw[<-e,Yg]at b
  exact b
theorem QV(H:O7 C):∀d f,WF C (3*d) f<|dT d f
 :=λb=>b.r (λf=>.v) (λd a f=>have a:=a;(SX (n:=3*d+1) H (λf=>(a f).w)<|TF H a).L f)
end
inductive G1(w:yJ)(h:Heap)(mg mb:Str->Option a0):Prop
 |mk (K:(eH.kK w.p).In h) (tabs:∀P∈[391,398],h.g P=M (Bn #[])) (g:h.N dC mg) (b:h.N j3 mb) (nolimit:h.NoLimit) (builtins:∀x:Str,x≠"__name__"->mb x=lL x) (bm:∃bm ob,mg "__builtins__"=M (.r bm)/\bm≠j3/\h.g bm=M ob/\ob.c=.t "module"/\ob.D=M j3/\ob.d=.plain)
theorem Dd{h:Heap}(d:∀P∈[391,398],h.g P=M (Bn #[]))(e:h.g b=M o)(c:o.d≠.f #[]):b∉[391,398]:=λa=>c<|cK e (d b a)▸U
theorem FV(b:∀P∈[391,398],h.g P=M (Bn #[]))(n:h.N a m):(hideAll h [391,398]).N a m:=
 n.i λo n=>n.i λes n=>n.i λc n=>⟨yL _ n.1<|Dd b n.1 λq=>cn<|n.2.1.s.t q,n.2⟩
theorem Bc{w:yJ}(c:(eH.kK w.p).In h):(eH.kK w.p).In (hideAll h [391,398]):=λa o q=>
 yL _ (c a o q) λb=>bF<|(nb<|t6 ((show((kK w.p).a λp=> !([391,398]:List Nat).c p.1)=Z from by kernel_rfl)) _<|mem_of_lookupK q).s.t<|og.M b
theorem XZ(P:AZ):T8.classes.a (xR<|kK P)=Z:=by kernel_rfl
noncomputable def cx(w:yJ)(s:cL)(mg mb:Str->Option a0)(H:G1 w s.h mg mb):Cx where
 p:=pw
 w:=w
 K:=kK w.p
 s:=hideAll s.h [391,398]
 m:=mg
 j:=mb
 A:=T8.a!
 l:=T8.classes
 i:=Bc H.1
 n:=FV H.2 H.3
 f:=FV H.2 H.4
 N:=H.5.i λmc q=>⟨FV H.2 q.1,q.2⟩
 u:=H.6
 g:=λc hc=>t6 (XZ w.p) c hc
 S:=⟨_,Bc H.1 1 ⟨.t "dict",aI,.d #[gq w.p "builtins" 162 (.r 4),gq w.p "__main__" 163<|.r 5] 2,#[]⟩ (by kernel_rfl)⟩
 h:=s.g
 e:=s.os
 L:=λk=>Mm mg<|wi k
 d:=λk cs o c oc h=>by obtain⟨_,ctv,vs,t,rfl,hd,_⟩:=h;exact⟨⟨U,_,U⟩,vs,hd⟩
 t:=λj=>tabAt<|DS j
 T:=λk a o h=>by obtain⟨_,ps,rfl,_⟩:=h;exact⟨_,U⟩
theorem is8(H:G1 w s.h n m):O7 (cx w s n m H):=⟨U,
 ⟨by kernel_rfl,U,U,λp a=>by
 rcases mc a with rfl|a
 .exact⟨by kernel_rfl,by kernel_rfl,by kernel_rfl⟩
 .exact Y (m1 a) ⟨by kernel_rfl,by kernel_rfl,by kernel_rfl⟩,λp a q b=>by
 rcases mc a with rfl|a<;>rcases mc b with rfl|b
 .exact⟨Z,by kernel_rfl⟩
 .exact Y (m1 b) ⟨D,by kernel_rfl⟩
 .exact Y (m1 a) ⟨D,by kernel_rfl⟩
 .exact Y (m1 a)<|Y (m1 b) ⟨Z,by kernel_rfl⟩⟩,
 λk x=>U,
 λj x=>U,
 codeHd_of_K (Bc H.1) (by kernel_rfl),
 codeHd_of_K (Bc H.1) (by kernel_rfl),
 (Y? H.7 λl i h f d c=>⟨l,i,h,f,((λe=>H.3.e λo g=>g.e λes g=>g.e λr g=>cn<|(cK d (e▸g.1)▸c.2.2).s.t g.2.1)),((yL _ d<|Dd H.2 d λe=>cn<|c.2.2.s.t e)),c⟩)⟩
theorem VC:uC uM.s VB=Z:=by kernel_rfl
theorem VA:uC uM.s Y6=Z:=by kernel_rfl
noncomputable def Y1(L:Addr):Fx:=Q0 (kS "law") uM.s L 471 (.r 470) VB [] VC
noncomputable def Y2(L:Addr):Fx:=Q0 (kS "law") uM.s L 471 (.r 470) Y6 [] VA
theorem zU{G:Prop}(h:ID k=M a)(d:k=(.o 90 0 0,D)->a=391->G)(c:k=(.o 91 0 0,D)->a=398->G):G:=by
 delta ID at h
 by_cases e:k=(.o 90 0 0,D)
 .rw[if_pos e]at h;exact d e (sJ h).s
 .rw[if_neg e]at h
  by_cases b:k=(.o 91 0 0,D)
  .rw[if_pos b]at h;exact c b (aV h).s
  .rw[if_neg b]at h;exact nS h
theorem NY(H:G1 w s.h P N)(A:s.h.g L=aI)(k:∀b o,s.h.g b=M o->c.h.g b=M o)(ns:∃m,c.h.N L m)(J:c.g=s.g)(I:c.os=s.os):dJ (cx w s P N H) (Y1 L) ⟨ID,o?,c⟩:=
 have d:=none_of λo q=>dq A<|Xe _ q
 have j:∀b,Own ID b->b∈[391,398]:=λb g=>j8 g λy h=>zU h (λy e=>e▸.h _) λy e=>e▸.t _ (.h _)
 have z:=λf=>dq A<|H.2 L<|j L f
 ⟨λb o e=>k b o<|Xe _ e,
  λb f=>⟨hideAll_none _<|j b f,λ(t:b∈[L])=>z<|aX.m t▸f⟩,
  all1 d,
  λS R a E u=>zU E (λe q=>zU u (λr y=>e.t r.s) λy p=>nN (q.s.t p) U) λe q=>zU u (λy p=>nN (q.s.t p) U) λr y=>e.t r.s,
  λn o (e:HD n=M o)=>by
   delta HD at e
   by_cases h:n=.o 90 0 0
   .have e:=if_pos h▸e;exact rR (sJ e)<|Y h ⟨391,_,U,k _ _<|H.2 391<|.h _,U,#[],U,trivial,λy y=>U⟩
   .rw[if_neg h]at e
    by_cases l:n=.o 91 0 0
    .have e:=if_pos l▸e;exact rR (sJ e)<|Y l ⟨398,_,U,k _ _<|H.2 398<|.t _<|.h _,U,#[],U,trivial,λy y=>U⟩
    .rw[if_neg l]at e;exact nS e,
  λn b a h=>zU h (λq y=>⟨.t 0,by revert h;refine Y (cZ q).1<|Y (cZ q).2 ?_;intro h;rfl,λe=>by cases q;exact bF e⟩) λq y=>⟨.t 3,by refine Y (cZ q).1<|Y (cZ q).2 ?_;rfl,λe=>by cases q;exact bF e⟩,
  ns.e λm q=>q.e λo q=>q.e λes q=>q.e λQ q=>⟨(Y1 L).k.s▸by decide,mK L o U d q.1 λvs e=>cn<|q.2.1.s.t e,trivial⟩,
  λb t f=>z<|aX.m t▸f,
  λi x v y h C=>absurd (cU<|aJ h) C,
  U,
  ns,
  J,
  I⟩
inductive E7(X Y':Fx)(x:Str):Prop
 |mk (env:Y'.e=X.e) (frames:Y'.f=X.f) (calm:Y'.C=X.C) (names:Y'.n=X.n++[x]) (kind:X.e.k x=M .c)
theorem dJ.more(S:dJ C X z)(O:E7 X Y' x)(R:X.e.c.o x=M c)(Q:Apart C X z c)(h0:z.h.I c aI)(hv:bB z v y)(hc:L.I c (M y))(hs:gE c z.h L):
  dJ C Y' (z.o ⟨z.σ.l++[v],z.σ.h,z.σ.n⟩ L tk)/\Le z (z.o ⟨z.σ.l++[v],z.σ.h,z.σ.n⟩ L tk):=
 have J:Y'.p=X.p:=by delta Fx.p;exact Y O.1 U
 have P:Y'.r=X.r:=by delta Fx.r;exact Y O.2 U
 have s:∀{b o},z.h.g b=M o->(∀v,o.d≠.cell v)\/b≠c->L.g b=M o:=λ{b o} e q=>(hs.2 b<|q.e (λq N=>h0.e λoc p=>q _<|cK p.1 (N▸e)▸p.2) id).t e
 have nc:∀{b o},z.h.g b=M o->(∃v,o.d=.cell (M v))->b≠c:=λ{b o} e q N=>h0.e λoc p=>q.e λv q=>nomatch (cK p.1 (N▸e)▸p.2).s.t q
 have l:=⟨λk k e=>e,λb i t=>t.i λo t=>⟨s t.1<|.I λk p=>t.2.2.e λn d=>cn<|d.s.t p,t.2⟩,λb u I=>cz I λo e d=>br o (s e<|.i<|nc e ⟨u,d⟩) d⟩
 have H:∀{a m},z.h.N a m->L.N a m:=λn=>n.i λo n=>n.i λes n=>n.i λep n=>⟨s n.1<|.I λk p=>cn<|n.2.1.s.t p,n.2⟩
 ⟨⟨λb o e=>s (S.1 b o e)<|.i λq=>dq Q.1<|q▸e,
   λb ow=>⟨(S.2 b ow).1,J▸(S.2 b ow).2⟩,
   λb E=>S.3 b<|J▸E,
   S.4,
   λn o e=>(S.5 n o e).u l λt a ob f g=>s g<|.i λq=>Q.4 ⟨_,q▸f⟩,
   S.6,
   O.2▸frames_at S.7 λb E o e hd=>br o (s e<|.i λq=>Q.3<|q▸E) hd,
   λb E=>S.8 b<|P▸E,
   λi u w f g e3=>by
    rw[O.4]at f
    refine Y O.1 ?_
    rcases qH i X.n.L with A|A
    .rw[b0 A]at f
     rw[b0 (S.10.s▸A)]at g
     exact(S.9 i u w f g e3).i λy r=>⟨r.1.n l λm q=>H q,r.2.u l⟩
    .have f:=bO A▸f
     have g:=S.10▸bO (S.10.s▸A)▸g
     rcases T:i - X.n.L with _|j;(rw[T]at f g;cases f;cases g;exact br y (.i ⟨.I O.5,c,R,hc⟩)<|hv.u l);(rw[T]at f;exact nS f),
   by refine Y O.4<|Y aL<|Y aL<|Y S.10 ?_;rfl,
   S.11.i λm q=>O.1▸H q,
   S.12,
   S.13⟩,l⟩
theorem ez.H{Q':c->cL->Prop}(y:ez P z R Q a s)(k:∀z' b,Q b z'.σ->Sat P z'->Grows P z z'->R b a z'->Q' a z'.s):Q' a s:=y.rec λz' b q S G r=>k z' b q S G r
inductive XG(C:Cx)(Xz:Δ)(Q:ah):Flow->cL->Prop
 |mk (Z':Fx) (z':Zt) {b:F} {f:Flow} (q:Q b z'.σ) (S:dJ C Z' z') (sub:∀k a,Xz k=M a->z'.ρ k=M a) (r:M6 b f z'):XG C Xz Q f z'.s
def G8(P:Px)(z₀:Zt)(t:Sem Flow)(m:W F):Prop:=∀z Q,Sat P z->Grows P z₀ z->m Q z.σ->bf P.C.b P.A t (XG P.C z₀.ρ Q) cQ z.s
theorem G8.n{f:Stmt->W F}(y:G8 P z₀ (Dl d P.e) j)(h:∀st,WS P st<|f st)(l:List Stmt):G8 P z₀ (Dl (l++d) P.e) (l.foldr (λst m=>aR (f st) m) j):=
 l.R y λp l i=>λz Q S G e=>aB (dR (((h p)) z _ S e) λz₁ g f q b c r=>by
  have sub:=(G.n c).l.b
  revert q
  apply Ed r
  .exact λq=>i z₁ Q b (G.n c) q
  .exact λq=>aF<|.mk P.X z₁ q b sub U
  .exact λq=>aF<|.mk P.X z₁ q b sub U
  .exact λv a r q=>aF<|.mk P.X z₁ q b sub<|br a U r)
theorem G8.k(O:E7 P.X Y' x)(u:P.X.e.c.o x=M c)(j:Apart P.C P.X z₀ c)(J:z₀.h.I c aI)(y:WE P d m)
  (h1:sR d (M<|.N x E) H.l P.e=pure D) (h2:qC [.N x E] d P.e=pure aI) (h3:iT [.N x E] P.e=[(D,A4 (.N x E) P.e)]) (w:Pn ⟨P.C,Y',P.n,P.A,ok⟩ i m'):
  G8 P z₀ (Dl (.A [.N x E] d H::i) P.e) λQ=>m λv σ=>m' Q ⟨σ.l++[v],σ.h,σ.n⟩:=λz Q S G e=>by
 refine aB<|Y (pB _ _ _ _ h1 h2 h3)<|aB<|dD<|aB<|dR (y z _ S e) λz₁ v a q t l r=>aB ?_
 have g:=G.n l
 have I:z₁.h.I c aI:=J.e λo p=>(g.K c o p.1 j.4 j.2).i λo' k=>⟨k.1,k.2.n.t p.2⟩
 refine Z6<|wpAny_storeName_cell P.X.k O.5 u I λh' T R=>aF ?_
 show bf P.C.b P.A (Dl i P.X.e) _ _ _
 exact rR O.1<|dR (w (z₁.o ⟨z₁.σ.l++[v],z₁.σ.h,z₁.σ.n⟩ h' z₁.s.t) Q (dJ.more t O u ⟨j.1,j.2,j.3,J.e λo p=>g.w p.1 j.4⟩ I r T R).1 q) λz' b f q N L r=>.mk Y' z' q N (λk a e=>L.b k a<|g.b k a e) r
theorem bJ.ints(e:IntsAre vs b):bJ z (b.m .I) vs:=by
 induction e with
 |nil=>exact .nil
 |cons m t _ a=>exact .cons .y a
theorem JQ{mm:Str->Option a0}(hu:WE P f (bE<|.I N))(S:Sat P z)(ns:z.h.N P.X.e.l mm)(hm:mm x=M (.r a))(hk:P.X.e.k x=M .local)(hd:BC x)
  (hl:P.C.s.IsList a items) (hr:∀z,bJ z J items.t) (hsz:items.s<=mF) (q:∃l,z.σ.h l=aI/\Q (.L (l,0)) ⟨z.σ.l,aZ z.σ.h l<|.l<|cut J aI<|M N,z.σ.n+1⟩):
  bf P.C.b P.A (eval (.S (.N x np) (.l aI (M f) aI p) pos) P.e) (λx E=>bf P.C.b P.A (lX x) (vX P z I Q) cQ E) cQ z.s:=by
 refine cz q λl H q=>Ji<|wpAny_Name (Un P.X.k hk ns hm<|wpAny_Slice<|dR (WP.v z (λv σ=>v=.N/\σ=z.σ) S ⟨U,U⟩) λd lo lv q2 y w r=> ?_) hd
 obtain rfl:=q2.1
 apply x7 r
 refine dR (hu d (λv σ=>v=.I N/\σ=d.σ) y ⟨U,U⟩) λc u uv R n m k=> ?_
 obtain rfl:=R.1
 apply FE k;intro t
 refine Y (evalPart_none _)<|aF ?_
 have T:=n.u (Sh c.s (c.h.p<|xn .n<|.i N t) c.s.t) (dB _ _) U U
 have e:(c.h.p<|xn .n<|.i N t).IsList a items:=hl.i λo q=>⟨T.1.1 _ _ q.1,q.2⟩
 refine Dp (br _ e.c.1 e.c.2.1) yH.l (MX e (s8 ..) .none (.int N t) .none (by decide) (Y (wV _ _ _) ?_) hsz) U
 have en:iB (.l<|cut J aI<|M N) (λv σ=>∃l,v=.L l/\σ.h l=M (.l<|cut J aI<|M N)/\Q (.L (l,0)) σ) c.σ:=R.2.t q2.2▸⟨l,H,l,U,sz U,q⟩
 exact ez.H (Q':=λa s=>bf P.C.b P.A (lX a) (vX P z I Q) cQ s) (ez.L T.1 en (hr _).cut) λL b q j i g=>ET j ((w.n m).n<|T.2.n i) g<|.I<|q.e λl q=>rJ l _ q.1 q.2.1 q.2.2
inductive PQ(s s':cL):Prop
 |mk (old:∀b o,s.h.g b=M o->b∉[391,398]->s'.h.g b=M o) (tabs:∀b∈[391,398],∃ps,s'.h.g b=M (Bn ps)) (gens:s'.g=s.g) (os:s'.os=s.os)
section
variable{call:CF}
noncomputable abbrev PL(C:Cx)(L:Addr)(n:Nat)(A:sT)(ok:Dw (Y1 L) n A):Px:=⟨C,Y1 L,n,A,ok⟩
theorem W5(H:O7 C)(a:∀f,WF C n f<|call f)(b:WL C (n+1) c)(ok:Dw (Y1 L) (n+1) A):Good (PL C L (n+1) A ok) n (Yu call c):=
 Tab.good H.2 a b (λx m=>nomatch m) U U U (we _ _ U U)<|aG _
theorem Rt(H:O7 C)(a:∀f,WF C n f<|call f)(b:WL C (n+1) g)(ok:Dw (Y1 L) (n+1) A)(j:∀c,(Y1 L).e.c.o (kS "follow")=M c->Apart C (Y1 L) z₀ c/\z₀.h.I c aI):
  G8 (PL C L (n+1) A ok) z₀ (Dl (pre++.A [.N (kS "follow") (xP (Pp 20).1)] (Pp 20).2.1 (Pp 20).2.2::o!) (Y1 L).e) (SD call g):=by
 refine j8 (i0.m<|si (kS "follow") uM.s.n (L+1) []<|.I (by kernel_rfl)) λc d=> ?_
 have i:=W5 H a b ok
 have e:Dw (Y2 L) (n+1) A:=⟨ok.1,ok.2,ok.3,ok.4,ok.5⟩
 exact G8.n (G8.k (ok:=e) (show E7 (Y1 L) (Y2 L) (kS "follow")from⟨U,U,U,U,by kernel_rfl⟩) d (j c d).1 (j c d).2 ((snd 60).1 i (Pp 20).2.1) (by kernel_rfl) (by kernel_rfl) U<|(ZN 60).2 (Tab.good (lams:=[]) H.2 a b (λx m=>nomatch m) U U U (we _ _ U U)<|aG _) o!) ((ZN 60).1 i) pre
end
set_option backward.match.sparseCases true in
theorem Rr(H:G1 w s.h mg mb)(hd:3*d+400<Jp)(hl:s.h.IsList la N.T)(hi:IntsAre N xs)(hsz:N.L<=mF)(t:VD (dT d) (AB<|dT d) (xs.m .I) uL o?):
  bf (eN pw w) callerA (call (.r 471) [.r la]) (λv s'=>v=.b Z/\PQ s s') cQ s:=by
 have h8:=is8 H
 have hK:(kK w.p).o 471=M ⟨.t "function",aI,.F<|fnOf uM.name (kS "law") uM.p uM.body uM.s .n .n .n (ux "law_rp0002_08" 910) aI (.r 470) .n,#[]⟩:=by kernel_rfl
 refine Ju<|codeAny_call_cells (fd:=fnOf uM.name (kS "law") uM.p uM.body uM.s .n .n .n (ux "law_rp0002_08" 910) aI (.r 470) .n) (body:=uM.body) (binds:=[(kS "script",.r la)]) (by decide) (H.1 _ _ hK) U H.5
  (codeRec_of H.1 (by kernel_rfl)) U (by kernel_rfl) U (λx hx=> ?_) (λsS I=> ?_) (by kernel_rfl) (by kernel_rfl) (by kernel_rfl)
 .rcases aX.m hx with rfl
  exact .I (by kernel_rfl)
 refine Fw I.done λE tk L hk=> ?_;subst L
 have C:dJ (cx w s mg mb H) (Y1 s.h.o.s) ⟨ID,o?,Sh s E tk⟩:=NY H (fg _) hk ⟨_,I.toInCall.ns⟩ U U
 have p:=λf=>(QV h8 d f).w
 have A:=TF h8<|QV h8 d
 have ok:Dw (Y1 s.h.o.s) (3*d+2) (callerA.deeper (Y1 s.h.o.s).e):=⟨λy=>U,by exact bZ (zQ 123) U hd,by exact bI (cm (bH (gy 8<|cm (eD<|Nat.lt_of_add_lt_add_right<|hd) 2)<|4+3) 40) (by decide),U,U⟩
 have hlB:(cx w s mg mb H).s.IsList la N.T:=hl.i λo q=>⟨yL _ q.1 (Dd H.2 q.1 λe=>q.2.2.e λn r=>nomatch r.s.t e),q.2⟩
 have fin:∀f s',XG (cx w s mg mb H) ID uL f s'->(match f with|.r v=>v|_=>.n)=.b Z/\PQ s s':=λf s' e=>e.rec λZ' z' {b f} q S sub r=>by
  refine sk q λL t1 t2=> ?_;subst L
  obtain⟨a,rfl,r⟩:=r
  exact⟨r,⟨λb o e nb=>S.1 b o<|yL _ e nb,
   λb hb=>by
   have at_:∀{l:Loc} {b:Addr},(∃j,z'.σ.h l=M (.t j))->ID (l,D)=M b->∃ps,z'.h.g b=M (Bn ps):=λq e=>q.e λj q=>(S.5 _ _ q).rec λa o e' q hl=>by
    refine rR (cK e'<|sub _ _ e) ?_
    obtain⟨_,ps,rfl,_⟩:=hl
    exact⟨ps,q⟩
   rcases mc hb with rfl|hb
   . exact at_ t1 U
   . exact Y (m1 hb)<|at_ t2 U,
   S.12,
   S.13⟩⟩
 show bf _ _ (Dl Rq _) _ _ _
 refine Y (show Rq=.A [.N (kS "tape") (xP (Pp 0).1)] (.L (xE QD 0) [⟨U4.target,.S (.N (kS "script")<|xP<|xE U4.iter 0) (.l aI (M<|xE (xE U4.iter 1) 0) aI<|xP<|xE U4.iter 1)<|xP U4.iter,[],0⟩] (xD QD).2.2.2<|xP QD) (Pp 0).2.2::(pre++.A [.N (kS "follow") (xP (Pp 20).1)] (Pp 20).2.1 (Pp 20).2.2::o!)from by kernel_rfl)<|aB<|dR (by
   have gd:=W5 h8 p A ok
   have T:=snd 60
   have h:qU (Y1<|Array.size s.h.o) (xD QD).2.2.2 [kS "n"] [] []:=⟨Ft (by kernel_rfl),λy m=>(nomatch m),λy m=>(nomatch m),U⟩
   exact wt (by kernel_rfl) U (T.3 gd _) h (λQ t=>JQ (by
     have e:cE 60 (Yu (dT d)<|AB<|dT d) (xE (xE U4.iter 1) 0)=bE (.I 24):=by kernel_rfl
     exact e▸T.1 gd (xE (xE U4.iter 1) 0)) C I.toInCall.ns (((Fi (bs:=[(kS "script",.r la)]) (GR _ _) (.h _) _).1 (by kernel_rfl))) (by kernel_rfl) (by kernel_rfl) hlB ((λy=>bJ.ints hi)) hsz t) (λL'=>T.3 (gd.I h) U4.target) (λL'=>.nil) (λL'=>T.1 (gd.I h)<|xE QD 0) λx=>by kernel_rfl U C t) λz₁ g f q z u ZH=> ?_
 have X:=Rt (z₀:=⟨ID,o?,Sh s E tk⟩) h8 p A ok λc hc=>by
  have J:=I.cell _ c hc
  have i:=I.above _ _<|sa hc
  have i:=lD<|eD i
  have nL:=λm=>mO (I.above _ _<|sa hc)<|aX.m m
  exact⟨⟨none_of λo q=>dq i<|Xe _ q,nL,nL,λR=>j8 R λk e=>zU e (λy q=>dq i<|q▸H.2 391 (.h _)) λy q=>dq i<|q▸H.2 398 (.t _<|.h _)⟩,J⟩
 revert q
 apply Ed ZH
 .exact λq=>bP (X z₁ uL z u q) (λf P e=>fin f P e) λy y e=>e.e
 .exact λq=>nomatch q.1
 .exact λq=>nomatch q.1
 .exact λv a r q=>aF<|fin _ _<|.mk _ z₁ q z u.l.b ⟨a,U,r⟩
end eH
namespace eH.C
def wN(_ _ _:Nat):Bool:=D
inductive Bv(x y z i k j l:Nat)(m:ag)(c bb:Nat)(os:ao)(n:Nat)(H:Hp):Prop
 |mk (ri:UI x y z i k j l m n H) (hc:c<n) (hb:bb<n) (Tc:H (.t 114 c)=M (.l ([0,1,2,3].m (DP m)))) (ru:H (.t 115 bb)=M (.l (os.m (DP m))))
section
variable{os:ao}
theorem Bv.o(I:Bv x y z i k j l m c d os n H)(b:n<=n')(a:∀k j,j<n->H' (.t k j)=H (.t k j)):Bv x y z i k j l m c d os n' H':=
 ⟨⟨λe=>aH (I.1.1 e) b,λe h=>(a _ _<|I.1.1 e).t<|I.1.2 e h⟩,aH I.2 b,aH I.3 b,(a _ _ I.2).t I.4,(a _ _ I.3).t I.5⟩
theorem Bv.r(I:Bv x y z i k j l m c b os n H)(a:∀e∈os,e<4)(hz:fits os.L=Z):I! (fL x y z) (.t 115 b) (os.m<|hO i k j l) n H:=
 ⟨we _ _ U I.3,_,I.5,ba hz,λq r h=>by
  rw[aN]at h
  rcases e:os[q]? with _|s;(rw[e]at h;exact nS h);(
   have h:=e▸h;cases h
   refine rJ 113 (m s) ?_ (I.1.1 s)<|(I.1.2 s<|a s<|aJ e).t (by refine Y (Gz _) ?_;rfl)
   refine Y aN<|Y e ?_
   show M (V.t [cv (C7 s),.L<|.t 113<|m s])=_
   exact Y (MF _) U)⟩
end
def pH(e:Nat)(l:ao):Nat:=l.R 0 λa _ b=>bif aA a e then 0 else b+1
theorem Sr{e:Nat}{os:ao}:(∀a∈os,b7 (c a) (c e)=aA a e)->has e os=Z->Sq (c e) (os.m c)=M (pH e os):=os.R (λ_ h=>bF h) λa r g d=>by
 show(aA a e||has e r)=Z->(bif b7 (c a) (c e)then M 0 else(Sq (c e)<|r.m c).m (·+1))=M (bif aA a e then 0 else pH e r+1)
 refine Y (d a<|.h _) ?_
 rcases aA a e with _|_;(exact λh=>Y (g (λb f=>d b<|.t _ f) h) U);(exact λ_=>U)
noncomputable def yt(x y z i k j l e:Nat):et:=.t [xq [C7 e],Ea (fL x y z)<|oZ i k j l e]
theorem L6(a b c d:et):b7 (.t [a,b]) (.t [c,d])=(b7 a c&&(b7 b d&&Z)):=by rfl
theorem QR(a c:et)(b d:List et):b7 (.l<|a::b) (.l<|c::d)=(b7 a c&&eo b d):=by rfl
theorem L5(a b:Nat):b7 (xq [a]) (xq [b])=aA a b:=by
 show b7 (.s _) (.s _)=_
 rw[b7]
 rcases q:aA a b with _|_;(
  rw[<-bN,beq_iff_eq]
  intro z
  revert q;refine rR (fK<|congrArg (λs:Str=>s.c.t) z).1 ?_;intro q
  rw[bR a]at q;exact bT q);(exact Y (bq q)<|beq_self_eq_true _)
section
variable(h:Abc x y z)(hi:0<i)(hk:0<k)
include h hi hk
theorem SU:∀a,a<4->∀e,e<4->b7 (yt x y z i k j l a) (yt x y z i k j l e)=aA a e:=by
 obtain⟨i,rfl⟩:∃r,i=r+1:=sx hi
 obtain⟨k,rfl⟩:∃p,k=p+1:=sx hk
 have g:=h.1
 have o:aA x 84=D:=qm λe=>absurd (e▸g.1) (by decide)
 have n:aA 84 x=D:=qm λe=>absurd (e▸g.1) (by decide)
 have same:∀a,b7 (yt x y z (i+1) (k+1) j l a) (yt x y z (i+1) (k+1) j l a)=Z:=λa=>by
  delta yt;rw[L6,L5,B6,bR _];rfl
 have b:∀a e,aA (C7 a) (C7 e)=D->b7 (yt x y z (i+1) (k+1) j l a) (yt x y z (i+1) (k+1) j l e)=D:=λa e q=>by
  delta yt;rw[L6,L5,q];rfl
 have f:b7 (yt x y z (i+1) (k+1) j l 0) (yt x y z (i+1) (k+1) j l 1)=D:=by
  show(Z&&(b7 (.l<|xq [x]::_) (.l<|xq [84]::[])&&Z))=D
  rw[QR,L5,o];rfl
 have d:b7 (yt x y z (i+1) (k+1) j l 1) (yt x y z (i+1) (k+1) j l 0)=D:=by
  show(Z&&(b7 (.l<|xq [84]::[]) (.l<|xq [x]::_)&&Z))=D
  rw[QR,L5,n];rfl
 refine λa m=>z4 (λe c=>z4 (same 0) f (b _ _ U) (b _ _ U) e c) (λe c=>z4 d (same 1) (b _ _ U) (b _ _ U) e c) (λe c=>z4 (b _ _ U) (b _ _ U) (same 2) U e c) (λe c=>z4 (b _ _ U) (b _ _ U) U (same 3) e c) a m
omit hi hk in
omit hi hk in
theorem EP(R:UI x y z i k j l m g H)(r:e<4):gg H (f+3) (DP m e)=M (yt x y z i k j l e):=by
 show(sQ [gg H (f+2) (cv<|C7 e),gg H (f+2)<|.L<|.t 113<|m e]).m UD=_
 rw[Ct ((R.2 e r).t (by rw[Gz])) ((show y8 (fL x y z) (oZ i k j l e)=Z from by
   have p:=h.1;have o:=h.2;have hz:=h.3
   have one:∀c,c=4\/c=5\/c=6\/c=7\/c=12->((fL x y z c).a λx=>bg x 1114112)=Z:=λc d=>by
    have q:∀w,w<=99->([w].a λx=>bg x 1114112)=Z:=λw n=>by
     rw[Wy,(cb.m (bZ (zQ 4) U n):bg w 1114112=Z)];rfl
    rcases d with rfl|rfl|rfl|rfl|rfl
    .rfl
    .rfl
    .exact q x p.2
    .exact q y o.2
    .exact q z hz.2
   refine dw.M λc d=>one c ?_
   have sy:∀{a k b c' l},c∈mB a k b c' l->c=a\/c=b\/c=c':=λ{a k b c' l} d=>by
    rcases bV.m d with d|d
    .rcases bV.m d with d|d
     .exact .I<|cU d
     .exact .i<|.I<|aX.m d
    .exact .i<|.i<|cU d
   rcases e with _|_|_|e
   .rcases sy d with rfl|rfl|rfl<;>decide
   .rw[aX.m d];decide
   .rcases sy d with rfl|rfl|rfl<;>decide
   .exact absurd d gJ))]
 have q:gg H (f+2) (cv<|C7 e)=M (xq [C7 e]):=by
  unfold C7
  rcases aO e 1 with _|_<;>rfl
 rw[q];rfl
theorem Bv.s{os:ao}(I:Bv x y z i k j l m c u os n H)(g:∀e∈os,e<4)(hz:fits os.L=Z)(b:∀e,e<4->has e os=Z):M7 (.t 114 c) (.t 115 u) (λe=>pH e os) n H:=by
 refine⟨λn' H' N=>⟨_,(N.3 _ _ I.3).t I.5⟩,λn' H' N=>eI _ ((N.3 _ _ I.2).t I.4) U λe d=>br (DP m e) ?_ λK p q=> ?_⟩
 .exact z4 U U U U e d
 .have J:=I.o N.1 N.3
  have s:∀{w:ao},(∀e∈w,e<4)->sQ ((w.m<|DP m).m<|gg H' 40)=M (w.m<|yt x y z i k j l):=λ{w} f=>by
   induction w with
   |nil=>rfl
   |cons e r o=>
    show sQ (gg H' 40 (DP m e)::_)=_
    refine Y (EP h J.1<|f e<|.h _) ?_
    show(sQ<|(r.m<|DP m).m<|gg H' 40).m _=_
    refine Y (o λa b=>f a<|.t _ b) ?_;rfl
  exact⟨_,U,_,_,U,J.5,ba hz,_,EP h J.1 d,_,_,s g,Sr (λa b=>SU h hi hk a (g a b) e d)<|b e d,q⟩
end
noncomputable def YA(k:Nat):Bool:=aA k 3||aA k 4||aA k 12||(aO 20 k&&aO k 33)
section
variable{os:ao}{F:aa}{st:V}
inductive Ly(i k j l:Nat):Prop
 |mk (i_:0<i/\i<=3) (k_:0<k/\k<=3) (j_:j<=2) (l_:l<=2)
inductive PY(os:ao):Prop
 |mk (lt:∀e∈os,e<4) (fit:fits os.L=Z) (all:∀e,e<4->has e os=Z)
inductive P4(x y z i k j l:Nat)(os u:ao)(ch:ag)(t:xA):Prop
 |mk (hc:∀c∈u,fL x y z c=[ch c]/\bg (ch c) 1114112=Z) (hu:aO u.L 900=Z) (run:KV t (os.m (hO i k j l)) ch u 200 ⟨[0],[],0⟩=M (wW (λe=>pH e os) x y z i k j l (u.m ch))) (fin:GZ (wW (λe=>pH e os) x y z i k j l (u.m ch)))
theorem aaJ(h:Abc x y z)(a:Ly i k j l)(q:PY os)(R:UG (fL x y z) g st xs 4 Fo H n)(w:H (.o 20 0 0)=aI)(I:Bv x y z i k j l m c bb os n H)
  (s:jA p g Fo=M (C,t)) (tl:aA t.A.L (i+j+k+l+5)=Z) (tz:fits t.A.L=Z) (d:P4 x y z i k j l os u ch t):
  aR (vN<|dT 46) (aR (vO<|dT 46)<|vP<|dT 46) uL ⟨QW x y z i k j l bb v0 v1 (ay 114 c) v10 (gQ p) v13 v14 (.s<|u.m ch) v17 v18 v19 v20 v21,H,n⟩:=by
 refine Tq (Wk (names8 h) U U) R w s λH1 n1 T e1 e2 b L e5 J E=>j8 b λc' tb=>Np T e1 e2 tb tl tz ?_
 have ft:fits u.L=Z:=by rw[cG];exact decide_eq_true<|aC (bl d.2) (by decide)
 refine QQ (λR r s K=>Y (show dT (45+1) 452=gw EN (EJ<|dT 45) 3 []from by kernel_rfl) ⟨U,Tb R r s λv x=>K v⟩) (λS r zi zk zj zl hx hy hz X K=>(Y (show dT (45+1) 466=gw C2 (CX<|dT 45) 4 []from by kernel_rfl) ⟨U,OL ((λf Q K=>Y (show dT (44+1) 459=gw CZ (CN<|dT 44) 3 []from by kernel_rfl) ⟨U,Ob f Q λx=>K⟩)) S r zi zk zj zl hx hy hz X λv x=>K v⟩)) ⟨names8 h,⟨_,_,tb⟩,T,(I.o J L).r q.1 q.2,d.1,ft⟩ ((I.o J L).s h a.1.1 a.2.1 q.1 q.2 q.3) e5 a.1 a.2 a.3 a.4 (cb.m<|bZ (zQ 4) U h.1.2) (cb.m<|bZ (zQ 4) U h.2.2) (cb.m<|bZ (zQ 4) U h.3.2) d.2 d.3 d.4 λP H' n' N=>kb U ?_ ?_
 .exact E.1.i λj e=>(N.2 _ _ _ U).t e
 .exact E.2.i λj e=>(N.2 _ _ _ U).t e
inductive X1(x y z i k j l:Nat)(lalr:Bool)(g:Gr)(xs:ao)(F Fo:aa)(C:List (List Itm))(t:xA):Prop
 |mk (co:θ g xs F 4 Fo) (ns:g.n=[4,5]\/g.n=[5,4]) (so:∀c,has c g.n=Z->yC ((Fo c).m (fL x y z))=M ((Z4 j l c).m (fL x y z))) (z1:fits xs.L=Z/\aA xs.L 0=D) (ok:r0 g) (sh:∀k,k<g.p.L->(g.r k).L+1<=900) (tm:jA lalr g Fo=M (C,t)) (tl:aA t.A.L (i+j+k+l+5)=Z) (tz:fits t.A.L=Z)
theorem aaI(h:Abc x y z)(sm:Ly i k j l)(o4:PY os)(G:GF (fL x y z) g st H n)(p:H (.o 10 0 0)=M (.d []))(v:∀a,H (.o 5 a 0)=aI)(X:H (.o 11 0 0)=M (.d []))(T:∀a b,H (.o 6 a b)=aI)
  (em:∀k a b,YA k=Z->H (.o k a b)=aI) (t0:H (.o 90 0 0)=M (.t 0)) (t1:H (.o 91 0 0)=M (.t 3)) (I:Bv x y z i k j l m c bb os n H) (d:X1 x y z i k j l s g xs F Fo C t) (rf:P4 x y z i k j l os u ch t):
  Bh (dT 46) uL ⟨X4 bb v0 v1 (cv x) (cv y) (cv z) (nv i) (nv k) (nv j) (nv l) (ay 114 c) v10 (gQ s) v13 v14 (.s<|u.m ch) v17 v18 [v19,v20,v21],H,n⟩:=by
 refine QX U (λS R G M' Q p v X T K=>by
  exact Y q8<|.i ⟨U,U2 ((names8 h)) ((Hn (names8 h) 44)) ((λG M' Q p v K=>by
   exact Y sr<|⟨U,by
    have g1:=G.1
    refine aM<|bY U g1 U ?_;exact KD p U<|gv U<|aE<|R? (((names8 h))) (((Hn (names8 h) 43))) G M' Q p v (λx=>K)⟩)) S R G M' Q p v X T λx=>K⟩) G d.1 p v X T λH1 n1 M'=>OT M'.3.4 λm1 m2 H2 n2 A P L a1 a2=> ?_
 have f:G0 (fL x y z) g 4 Fo H2:=⟨(A.2 _ _ _ U).t M'.2.1,λa h=>(A.2 _ _ _ U).t<|M'.2.2 a h⟩
 refine QA h d.2 d.1.6 f A.4 d.3 P.2 L.2 a1 a2 λH3 n3 J=> ?_
 have r:=A.T J λw w w h=>h
 have N:=M'.3.T r λw w w w=>U
 have E:=λk a b h=>(N.2 _ _ _<|by
   rcases q:Z0 k a b with _|_;(rfl);(
   simp only[Z0,wF,gm,beq_iff]at q
   rcases q with((rfl|rfl)|rfl)|rfl<;>exact bF h)).t<|em k a b h
 have gf:GF (fL x y z) g st H3 n3:=⟨G.1.m N λk a b h=> ?_,λk h=>cz (G.2 k h) λfs a b=>br fs ((N.2 _ _ _ U).t a) b,λk h=>(N.2 _ _ _ U).t<|G.3 k h,N.4⟩
 .refine aaJ h sm o4 ⟨gf,(r.2 _ _ _ U).t M'.1.2,⟨(J.2 _ _ _ U).t f.1,λa h=>(J.2 _ _ _ U).t<|f.2 a h⟩,d.4,?_,d.5,d.6,λk a b h=>E k a b ?_,λk a b h w=>E k a b ?_,(N.2 _ _ _ U).t t0,(N.2 _ _ _ U).t t1⟩ (E _ _ _ U) (I.o N.1 N.3) d.7 d.8 d.9 rf
  .rcases d.2 with e|e<;>refine Y e ?_<;>exact⟨U,U⟩
  .rcases h with h|h|h<;>refine Y ((beq_iff _ _).m h) ?_<;>rfl
  .delta YA;rw[show(aO 20 k&&aO k 33)=Z from h];simp
 .rcases q:Z0 k a b with _|_;(rfl);(
   simp only[Z0,wF,gm,beq_iff]at q
   rcases q with((rfl|rfl)|rfl)|rfl<;>exact bF h)
inductive r?(x y z i k j l:Nat)(ts os:ao)(gb:Uv):Prop
 |mk (adds:bA (λg e=>ej (fL x y z) ts g (hO i k j l e)) os ⟨[],[],[],[],0⟩=M gb) (s1:strOk (fL x y z) 8 [4]=Z) (s2:has 4 gb.n=Z) (s3:aO gb.c 900=Z) (s4:fits (gb.r.L+1)=Z)
theorem Wm(h:YA k=Z):xr k a b=D/\Z1 k a b=D\/aO k 4=Z:=by
 exact bC (b:=aO k 4) (λq=>Y q .i U) λq=>by
  refine .I ?_
  simp only[YA,gm,d8,beq_iff,bh]at h
  have:¬k<=4:=λz=>by rw[bh.m z]at q;exact bT q
  have h:11<k:=h.e (λh=>h.e (λh=>h.e (λe=>absurd (aC (zE e) (by decide)) this) λe=>absurd (zE e) this) λe=>Y e (by decide)) λh=>aC (by decide) h.1
  constructor
  .rw[<-bN]
   simp only[xr,gm,d8,bh];exact λq=>q.e (λq=>absurd (aC h q) (by decide)) λq=>absurd (aC h q.2) (by decide)
  .rw[<-bN]
   simp only[Z1,bh];exact Nat.not_le.M h
end
theorem Wn(h:YA k=Z):xr k a b=D:=by
 refine rR (bN _) ?_
 intro q
 simp only[YA,gm,d8,beq_iff,bh]at h
 simp only[xr,gm,d8,bh]at q
 exact h.e (λh=>h.e (λh=>h.e (λe=>q.e (λq=>absurd (aC (zG e) q) (by decide)) λq=>absurd (aC q.1<|zE e) (by decide)) λe=>q.e (λq=>absurd (aC (zG e) q) (by decide)) λq=>absurd (aC q.1<|zE e) (by decide)) λe=>q.e (λq=>absurd (aC (zG e) q) (by decide)) λq=>absurd (aC (zG e) q.2) (by decide)) λh=>q.e (λq=>absurd (aC h.1 q) (by decide)) λq=>absurd (aC h.1 q.2) (by decide)
section
variable{os:ao}{F:aa}
theorem aaH(sm:Ly i k j l)(w:PY os)(r:cy wN 0 HD n H)(I:Bv (xM a) (yM a b) (zM a b) i k j l m c X os n H)(p:r? (xM a) (yM a b) (zM a b) i k j l (ku a b++[2]) os T)(S:X1 (xM a) (yM a b) (zM a b) i k j l g (Ke (ku a b++[2]) 4 T) xs F Fo C t)(R:P4 (xM a) (yM a b) (zM a b) i k j l os u ch t):
  aR (xk<|dT 46) (aR (xl<|dT 46)<|aR (xm<|dT 46)<|Bh<|dT 46) uL ⟨v0::v1::cv (xM a)::cv (yM a b)::cv (zM a b)::nv i::nv k::nv j::nv l::ay 114 c::v10::ay 115 X::gQ g::v13::v14::.s (u.m ch)::v16::[v17,v18,v19,v20,v21],H,n⟩:=by
 have h:=Qe a b
 have v:∀k a b,aA k 90=D->aA k 91=D->H (.o k a b)=aI:=λk a b Q P=>(r.2 k a b U).t<|by
  delta HD
  exact Y (if_neg λe=>by cases e;exact bT Q)<|Y (if_neg λe=>by cases e;exact bT P) U
 have lo:∀k a b,aO k 11=Z->H (.o k a b)=aI:=λk a b h=>v k a b (by
  rw[<-bN,beq_iff];intro e;subst e;exact bF h)<|by
  rw[<-bN,beq_iff];intro e;subst e;exact bF h
 refine NJ (Q3 (Kw h) 45) r.4 lo λH1 n1 N L J lo1 f=>Nb (X7 (Kw h) 45 (aan (fL (xM a) (yM a b)<|zM a b) 44) (abx (names8 h) 44)<|Sv (names8 h) 44) (I.o f.1 f.3).1 (aG _) (aH I.3 f.1) (I.o f.1 f.3).5 w.1 N p.1 λv17 v18 H2 n2 E A=>OF (Tg (Kw h) 45<|Su (names8 h) 44) E p.2 p.3 p.4 p.5 λH3 n3 z y=> ?_
 have d:=A.T y λx x x h=>h
 refine aaI h sm w z ((d.2 _ _ _ U).t L) (λa=>(d.2 _ _ _ U).t<|lo1 _ _ _ U U) ((d.2 _ _ _ U).t J) (λa b=>(d.2 _ _ _ U).t<|lo1 _ _ _ U U) (λk a b h=>(d.2 _ _ _<|Wn h).t ?_)
  ((d.2 _ _ _ U).t<|(f.2 _ _ _ U).t<|r.2 _ _ _ U) ((d.2 _ _ _ U).t<|(f.2 _ _ _ U).t<|r.2 _ _ _ U) ((I.o f.1 f.3).o d.1 d.3) S R
 rcases Wm h with⟨-,q⟩|q
 .refine(f.2 _ _ _ q).t (v _ _ _ ?_ ?_)<;>(refine rR (bN _) ?_;rw[beq_iff];intro e;subst e;exact bF h)
 .exact lo1 _ _ _ (by
   exact bC (b:=aO 2 k) λs=>by refine Y s ?_;rfl λs=>by
    simp only[YA,gm,d8,beq_iff,bh]at h
    exact bh.m<|h.e (λh=>h.e (λh=>h.e (λe=>Y e (by decide)) λe=>Y e (by decide)) λe=>Y e (by decide)) λh=>aC (by decide) h.1)<|bh.m<|aC (bh.M q) (by decide)
noncomputable def i_(a:ao):Nat:=1+a.g 2 0 % 3
noncomputable def k_(a:ao):Nat:=1+a.g 3 0 % 3
noncomputable def j_(a:ao):Nat:=(1+a.g 4 0) % 3
noncomputable def l_(a:ao):Nat:=(1+a.g 5 0) % 3
def x_(a:ao):Nat:=xM<|a.g 0 0
noncomputable def y_(a:ao):Nat:=yM (a.g 0 0)<|a.g 1 0
noncomputable def z_(a:ao):Nat:=zM (a.g 0 0)<|a.g 1 0
noncomputable def os_(a:ao):List Nat:=Ig a 4 6 [0,1,2,3]
noncomputable def Xq(a:ao):List Nat:=ku (a.g 0 0) (a.g 1 0)++[2]
noncomputable def w_(a:ao):List Nat:=yA (a.g 13 0) (a.g 14 0) (a.g 15 0)<|yE (x_ a) (y_ a) (z_ a) (i_ a) (k_ a) (j_ a) (l_ a) ((2+a.g 11 0) % 6)<|(2+a.g 12 0) % 6
noncomputable def me_(a:ao):Bool:=aA (a.g 10 0 % 2) 0
inductive Plain(tp:ao):Prop
 |intro(gb:Uv) (xs:ao) (F Fo:aa) (C:List (List Itm)) (t:xA) (u:ao) (ch:ag) (o4:PY (os_ tp)) (af:r? (x_ tp) (y_ tp) (z_ tp) (i_ tp) (k_ tp) (j_ tp) (l_ tp) (Xq tp) (os_ tp) gb)
  (tf:X1 (x_ tp) (y_ tp) (z_ tp) (i_ tp) (k_ tp) (j_ tp) (l_ tp) (me_ tp) (Ke (Xq tp) 4 gb) xs F Fo C t) (hw:w_ tp=u.m ch) (rf:P4 (x_ tp) (y_ tp) (z_ tp) (i_ tp) (k_ tp) (j_ tp) (l_ tp) (os_ tp) u ch t)
theorem sml(a:ao):Ly (i_ a) (k_ a) (j_ a) (l_ a):=⟨⟨du (zQ 83) U,bZ (zQ 84) U<|cT _ (by decide)⟩,⟨du (zQ 83) U,bZ (zQ 84) U<|cT _ (by decide)⟩,bZ (zQ 85) U<|cT _ (by decide),bZ (zQ 85) U<|cT _ (by decide)⟩
theorem aaG{c:List Int}(S:c.L<=63)(P:Plain (EV c)):VD (dT 46) R (c.m .I) uL o?:=by
 obtain⟨gb,Q,F,Fo,C,t,u,ch,N,L,J,I,H⟩:=P
 have b:=sml<|EV c
 have p:(EV c).L<=24:=by delta EV;rw[aD,gI];exact bZ (zQ 50) U<|lU _ _
 delta VD
 refine Y (CM _)<|Y (DJ _)<|aM<|OM S (λk m x=>U) λH1 E A=>aE ?_
 generalize hT:EV c=a at*
 refine RV (Bd 45) p ⟨E,⟨cO _,by decide⟩,A⟩ λH2 f=>aM<|OD b.1.2 b.2.2 (dz b.3) (dz b.4) f.1.4 λm X i o n l q=>aE<|Si (Bd 45) p ⟨f.1.T o λx x x h=>h,⟨cO _,aH f.2.2 o.1⟩,(o.j f.2.2).t f.3⟩ q (Pc (bI (cO _) n) C?) λT z d y=>OU (Bd 45) (V7 45<|Bd 44) p b.1.2 b.2.2 b.3 b.4 z λw v j=> ?_
 have s:Bv (x_ a) (y_ a) (z_ a) (i_ a) (k_ a) (j_ a) (l_ a) m (i - 1) (i+1) (os_ a) (i+3) w:=by
  refine⟨⟨λe=>ju (zQ 263) U (l.1 e)<|i8 _ _,λe r=> ?_⟩,bU (zQ 264) U<|i8 _ _,du (zQ 265) U,?_,?_⟩
  .exact(j _ _ U<|ju (zQ 266) U (l.1 e)<|i8 _ _).t<|(d _ _ U U U).t<|l.2 e r
  .exact(j _ _ U<|bU (zQ 267) U<|i8 _ _).t<|(d _ _ U U U).t q
  .exact(j _ _ U<|du (zQ 41) U).t y
 have g:=aaH (v0:=ay 111 1) (v1:=ay 112 2) (v10:=ay 116 i) (v13:=nv<|(2+a.g 11 0) % 6) (v14:=nv<|(2+a.g 12 0) % 6) (v16:=.u) (v17:=.u) (v18:=.u) (v19:=.u) (v20:=.u) (v21:=.u) b N v.1 s L J H
 rw[<-I]at g
 exact g
end
abbrev ZE:=Nat×(Nat×et)
noncomputable def cfg(Z':List ZE)(a:Nat):RQ:=⟨0::Z'.m (·.1),Z'.m (·.2),a⟩
noncomputable def kn(Z':List ZE):Nat:=(Z'.G.m (·.1)).g 0
theorem qD(Z':List ZE)(s:Nat)(d:Nat×et):kn (Z'++[(s,d)])=s:=by delta kn;refine Y List.getLast?_concat ?_;rfl
theorem IV(Z':List ZE):(0::Z'.m (·.1)).G=M (kn Z'):=by
 delta kn
 rcases e:Z'.G with _|a;(refine Y (List.getLast?_eq_none_iff.m e) ?_;rfl);(exact Y List.getLast?_cons<|Y List.getLast?_map<|Y e U)
def Ac(t:xA)(s c:Nat)(o:Option Int):Prop:=∃a,t.A[s]?=M a/\vZ a c=o
def Gt(t:xA)(s c j:Nat):Prop:=∃a,t.G[s]?=M a/\vZ a c=M (aY j)
def Fin(t:xA)(rules:aw)(ch:ag)(u:ao)(m:Nat)(q:RQ)(r:RR):Prop:=∀f,KV t rules ch u (f+m) q=M r
theorem GA(hz:Z'.L<=800)(h:Ac t (kn Z') (u.g a 1) o):IG t rules ch u (cfg Z' a)=X3 t rules ch u (cfg Z' a) o:=by
 refine cz h λc e d=> ?_
 have b:(aO (cfg Z' a).s.L 900&&aO (cfg Z' a).t.L 900&&aO (cfg Z' a).t.L ((cfg Z' a).s.L - 1))=Z:=by
  simp only[cfg,cq,aD,d8,bh];exact⟨⟨aC (bz hz) (by decide),aC hz (by decide)⟩,aG _⟩
 delta IG
 refine Y b<|Y (IV Z') ?_
 dsimp only[cond,ob]
 refine Y e ?_
 show X3 t rules ch u (cfg Z' a) (vZ c<|u.g a 1)=_
 exact Y d U
theorem Fin.l(hz:Z'.L<=800)(h:Ac t (kn Z') (u.g a 1) aI):Fin t rules ch u (m+1) (cfg Z' a) (.n a):=λf=>by
 show ob (IG t rules ch u<|cfg Z' a) _=_
 refine Y (GA hz h) ?_;rfl
theorem Fin.E(hz:Z'.L<=800)(h:Ac t (kn Z') (u.g a 1) (M 0)):Fin t rules ch u (m+1) (cfg Z' a) (.y a (Z'.m (·.2))):=λf=>by
 show ob (IG t rules ch u<|cfg Z' a) _=_
 refine Y (GA hz h) ?_;rfl
theorem Fin.S(hz:Z'.L<=800)(i:u.g b 1=c)(d:c≠1)(h:Ac t (kn Z') c (M<|aY s))(g:0<s)(k:Fin t rules ch u m (cfg (Z'++[(s,sD<|ch c)])<|b+1) r):Fin t rules ch u (m+1) (cfg Z' b) r:=λf=>by
 obtain⟨s,rfl⟩:∃a,s=a+1:=sx g
 subst i
 have e:u[b]?=M (u.g b 1):=by
  rw[aW]at d⊢
  rcases q:u[b]? with _|c;(rw[q]at d;exact absurd U d);(rfl)
 show ob (IG t rules ch u<|cfg Z' b) _=_
 refine Y (GA hz h) ?_
 show ob (ob u[b]? _) _=_
 refine Y e ?_
 have k:=k f
 unfold cfg at k
 rw[aK,aK]at k
 exact k
theorem Fin.x(hz:(Z'++P).L<=800)(h:Ac t (kn<|Z'++P) (u.g c 1) (M<|dH k))(s:rules[k]?=M (a,w))(d:w.L=P.L)(g:Gt t (kn Z') a j)
  (kk:Fin t rules ch u m (cfg (Z'++[(j,ke (k+1) (P.m (·.2)))]) c) r):Fin t rules ch u (m+1) (cfg (Z'++P) c) r:=λf=>by
 refine cz g λq p o=> ?_
 have n:(cfg (Z'++P) c).t.L - w.L=Z'.L:=by simp[cfg,d]
 have l:(0::(Z'++P).m (·.1)).t (Z'.L+1)=0::Z'.m (·.1):=by simp
 have i:((Z'++P).m (·.2)).t Z'.L=Z'.m (·.2):=by simp
 have e:((Z'++P).m (·.2)).d Z'.L=P.m (·.2):=by simp
 have b:(aO w.L (cfg (Z'++P) c).t.L&&fits w.L)=Z:=by
  have hz:=aL▸hz
  simp only[cfg,aD,aL,d8,bh,fits,d];exact⟨qc _ _,aC (aC (qc _ _) hz) (by decide)⟩
 show ob (IG t rules ch u<|cfg (Z'++P) c) _=_
 refine Y (GA hz h) ?_
 have:Sx t rules (cfg (Z'++P) c) k=M (.g (cfg (Z'++[(j,ke (k+1) (P.m (·.2)))]) c)):=by
  delta Sx
  refine Y s ?_
  dsimp only[ob]
  rw[b,n,show(cfg (Z'++P) c).s.t (Z'.L+1)=_ from l,IV]
  dsimp only[cond]
  refine Y p ?_
  dsimp only
  refine Y o ?_
  show M (RR.g ⟨0::Z'.m (·.1)++[j],((Z'++P).m (·.2)).t Z'.L++[ke (k+1) (((Z'++P).m (·.2)).d Z'.L)],c⟩)=_
  refine Y i<|Y e ?_
  delta cfg
  refine Y aK<|Y aK ?_;rfl
 show ob (Sx t rules (cfg (Z'++P) c) k) _=_
 exact Y this<|kk f
inductive Tbl(t:xA)(p:ag)(i k j l:Nat)(st:Nat->Nat->Nat):Prop
 |mk (s0:st 4 0=0) (pos:∀e d,0<d->0<st e d) (x0:Ac t (st 4 0) 6 (M (aY (st 0 1)))) (xi:Ac t (st 0 i) 6 (M (aY (st 0 1)))) (xc:∀d,0<d->d<i->Ac t (st 0 d) 6 (M (aY (st 0 (d+1))))/\∀c,c=1\/c=7\/c=12->Ac t (st 0 d) c aI) (y0:Ac t (st 4 0) 7 (M (aY (st 2 1)))) (yi:Ac t (st 0 i) 7 (M (aY (st 2 1)))) (yk:Ac t (st 2 k) 7 (M (aY (st 2 1)))/\Ac t (st 2 k) 6 aI) (yc:∀d,0<d->d<k->Ac t (st 2 d) 7 (M (aY (st 2 (d+1))))/\∀c,c=1\/c=6\/c=12->Ac t (st 2 d) c aI) (zj:∀m,m<j->Ac t (st 0 (i+1+m)) 12 (M (aY (st 0 (i+1+(m+1)))))/\∀c,c=1\/c=6\/c=7->Ac t (st 0 (i+1+m)) c aI) (zl:∀m,m<l->Ac t (st 2 (k+1+m)) 12 (M (aY (st 2 (k+1+(m+1)))))/\∀c,c=1\/c=6\/c=7->Ac t (st 2 (k+1+m)) c aI) (no_:∀s,s=st 0 (i+1+j)\/s=st 2 (k+1+l)\/s=st 1 1\/s=st 4 1->Ac t s 6 aI/\Ac t s 7 aI) (a1:Ac t (st 4 1) 1 (M 0)/\Ac t (st 4 1) 12 aI) (rT0:Ac t (st 4 0) 1 (M (dH (p 3)))/\(Ac t (st 4 0) 12 (M (dH (p 3)))\/Ac t (st 4 0) 12 aI)) (rTi:(Ac t (st 0 i) 1 (M (dH (p 3)))\/Ac t (st 0 i) 1 aI/\0<j)/\(Ac t (st 0 i) 12 (M (dH (p 3)))\/Ac t (st 0 i) 12 aI/\j=0)) (rTk:(Ac t (st 2 k) 1 (M (dH (p 3)))\/Ac t (st 2 k) 1 aI/\0<l)/\(Ac t (st 2 k) 12 (M (dH (p 3)))\/Ac t (st 2 k) 12 aI/\j=0/\l=0)) (rS:Ac t (st 1 1) 1 (M (dH (p 1)))/\(Ac t (st 1 1) 12 (M (dH (p 1)))\/Ac t (st 1 1) 12 aI/\j=0)) (rX:Ac t (st 0 (i+1+j)) 1 (M (dH (p 0)))/\(Ac t (st 0 (i+1+j)) 12 (M (dH (p 0)))\/Ac t (st 0 (i+1+j)) 12 aI/\j=0)) (rY:Ac t (st 2 (k+1+l)) 1 (M (dH (p 2)))/\(Ac t (st 2 (k+1+l)) 12 (M (dH (p 2)))\/Ac t (st 2 (k+1+l)) 12 aI/\j=0/\l=0)) (gS:Gt t (st 4 0) 4 (st 4 1)/\Gt t (st 0 i) 4 (st 0 (i+1))) (gT:Gt t (st 4 0) 5 (st 1 1)/\Gt t (st 0 i) 5 (st 1 1)/\Gt t (st 2 k) 5 (st 2 (k+1)))
inductive Wd(u:ao)(a b e:Nat):Prop
 |mk (x:∀q,q<a->u.g q 1=6) (y:∀q,q<b->u.g (a+q) 1=7) (z:∀q,q<e->u.g (a+b+q) 1=12) (nx:u.g a 1≠6) (ny:u.g (a+b) 1≠7) (nz:u.g (a+b+e) 1≠12) (all:∀q,u.g q 1=1\/u.g q 1=6\/u.g q 1=7\/u.g q 1=12) (few:a+b+e<=60)
section
variable{st:Nat->Nat->Nat}
theorem Fin.v(h:Fin t rules ch u m q r)(k:m<=200):Fin t rules ch u 200 q r:=λf=>rR ((ew _ _ _).t<|congrArg _<|qZ k)<|h<|f+(200 - m)
theorem Fin.y(n:Nat)(h:Fin t rules ch u m q r):Fin t rules ch u (m+n) q r:=λf=>by
 have:=h<|f+n
 rwa [(bo (EY (zQ 162) U) (EY (zQ 163) U):f+n+m=f+(m+n))]at this
noncomputable def Hh(st:Nat->Nat->Nat)(ch:ag)(e c d0 n:Nat):List ZE:=n.r (motive:=λ_=>Nat->List ZE) (λ_=>[]) (λ_ a d0=>(st e<|d0+1,sD<|ch c)::a (d0+1)) d0
theorem Qv:Hh st ch e c d0 0=[]:=U
theorem WR:Hh st ch e c d0 (n+1)=(st e<|d0+1,sD<|ch c)::Hh st ch e c (d0+1) n:=U
theorem iq:∀n d0,(Hh st ch e c d0 n).L=n
 :=λb=>b.r (λx=>U) λn a d0=>congrArg (·+1)<|a<|d0+1
theorem Fm:∀n d0,(Hh st ch e c d0 n).m (·.2)=aQ n (sD<|ch c)
 :=λb=>b.r (λx=>U) λn a d0=>congrArg (sD (ch c)::·)<|a<|d0+1
theorem vt:∀n d0 Z',kn (Z'++Hh st ch e c d0 (n+1))=st e (d0+(n+1))
 :=λb=>b.r (λd0 Z'=>qD Z' _ _) (λn a d0 Z'=>by
  rw[WR,Ap,a<|d0+1]
  exact congrArg (st e)<|bo (gD (zQ 164) U)<|gD (zQ 165) U)
theorem chain(s:c≠1)(f:∀e d,0<d->0<st e d):∀n d0 m a Z',(0<n->Ac t (kn Z') c (M<|aY<|st e<|d0+1))->(∀q,0<q->q<n->Ac t (st e<|d0+q) c (M<|aY<|st e<|d0+q+1))->(∀q,q<n->u.g (a+q) 1=c)->Z'.L+n<=800->
  Fin t rules ch u m (cfg (Z'++Hh st ch e c d0 n)<|a+n) r->Fin t rules ch u (m+n) (cfg Z' a) r
 :=λp=>p.r (λd0 m a Z' _ _ _ _ k=>by rw[Qv,bQ]at k;exact k) λn o d0 m a Z' l j i g k=>by
  refine Fin.S (bU (zQ 166) U g) (i 0<|cD n) s (l<|cD n) (f _ _<|cD d0)<|o (d0+1) m (a+1) _ (λh=> ?_) (λq v b=> ?_) (λq b=> ?_) ?_ ?_
  .exact Y (qD _ _ _)<|j 1 (by decide)<|bZ (zQ 167) U h
  .have:=j (q+1) (du (zQ 168) U)<|bU (zQ 26) U b
   rwa [(by exact bo (gD (zQ 9) U) (gD (zQ 8) U):d0+(q+1)=d0+1+q)]at this
  .have:=i (q+1)<|bU (zQ 26) U b
   rwa [(by exact bo (gD (zQ 9) U) (gD (zQ 8) U):a+(q+1)=a+1+q)]at this
  .refine Y aL ?_;exact bU (zQ 169) U g
  .rw[WR,Ap]at k
   rwa [(by exact bo (gD (zQ 8) U) (gD (zQ 9) U):a+1+n=a+(n+1))]
noncomputable def rep(Z' a:List ZE)(n:Nat):List ZE:=n.r Z' λ_ b=>b++a
theorem Sz:rep Z' a (n+1)=rep Z' a n++a:=U
theorem ro(Z' a:List ZE):∀n,(rep Z' a n).L=Z'.L+n*a.L
 :=λc=>c.r (by rw[jL];rfl) λn b=>by rw[Sz,aL,b,i6];exact bo (EY (zQ 170) U)<|EY (zQ 171) U
theorem rounds(A:c≠1)(f:∀e d,0<d->0<st e d)(z:0<i)(y:Ac t (kn Z') c (M<|aY<|st e 1))(w:Ac t (st e i) c (M<|aY<|st e 1))(v:∀q,0<q->q<i->Ac t (st e q) c (M<|aY<|st e<|q+1)):∀n m,(∀q,q<n*i->u.g (j+q) 1=c)->Z'.L+n*i<=800->
  Fin t rules ch u m (cfg (rep Z' (Hh st ch e c 0 i) n)<|j+n*i) r->Fin t rules ch u (m+n*i) (cfg Z' j) r
 :=λs=>s.r (λm x x k=>by rw[jL]at k⊢;exact k) (λn p m h g k=>by
  have a:=i6 n i
  refine Y ((bo (yF (zQ 172) U<|zE a) (yF (zQ 173) U<|zG a):m+(n+1)*i=m+i+n*i))<|p (m+i) (λq b=>h q<|pU (zQ 37) U (zG a) b) (pU (zQ 174) U g<|zG a)<|chain (e:=e) A f i 0 m _ _ (λx=> ?_) (λq o b=> ?_) (λq b=> ?_) ?_ ?_
  .rcases n with _|n;(exact y);(
   obtain⟨i,rfl⟩:∃l,i=l+1:=sx z
   rw[Sz,vt,eE];exact w)
  .exact Y (eE _)<|v q o b
  .rw[ew];exact h _<|pU (zQ 67) U (zG a) b
  .rw[ro,iq];exact pU (zQ 175) U g<|zG a
  .rwa [ew,<-a])
inductive Zs(u:ao)(pl E:Nat):Prop
 |mk (z:∀q,q<E->u.g (pl+q) 1=12) (nz:u.g (pl+E) 1≠12)
theorem Zs.d(W:Zs u b E)(h:n<=E):Zs u (b+n) (E - n):=⟨λq a=>by rw[ew];exact W.1 _<|ur n q▸Nat.add_lt_of_lt_sub a,by rw[ew,qj h];exact W.2⟩
noncomputable def p6(u:ao)(N E a:Nat)(τ:Nat×et):RR:=bif aA E N&&aA (u.g (a+E) 1) 1 then .y (a+E) [τ]else .n (a+w6 E N)
theorem OC(h:n<=E):p6 u (n+N) E a τ=p6 u N (E - n) (a+n) τ:=by
 obtain⟨k,rfl⟩:=jn h
 rw[G4]
 have d:aA (n+k) (n+N)=aA k N:=dM.M<|Y (propext<|beq_iff _ _)<|Y (propext<|beq_iff _ _) Nat.add_left_cancel_iff
 have c:=(congrArg (a+·)<|Nat.add_min_add_left n k N).t (ew _ _ _).s
 have b:a+n+k=a+(n+k):=ew _ _ _
 delta p6;exact Y d<|Y c<|Y b U
theorem Gu(h:E≠N\/u.g (c+E) 1≠1)(d:w6 E N=n):p6 u N E c τ=.n (c+n):=by
 have:(aA E N&&aA (u.g (c+E) 1) 1)=D:=by
  rw[<-bN,d8,beq_iff,beq_iff];intro⟨a,b⟩;rcases h with h|h<;>contradiction
 delta p6;refine Y this<|Y d ?_;rfl
theorem Zr(W:Zs u d E)(x:u.g d 1=1\/u.g d 1=6\/u.g d 1=7\/u.g d 1=12)(v:kn (Z'++P)=s)(hz:(Z'++P).L<=800)(r:u.g d 1=6->Ac t s 6 aI)(q:u.g d 1=7->Ac t s 7 aI)
  (l:Ac t s 1 (M<|dH kk)\/Ac t s 1 aI/\0<N) (j:Ac t s 12 (M<|dH kk)\/Ac t s 12 aI/\N=0) (p:rules[kk]?=M (A,w)) (o:w.L=P.L) (n:Gt t (kn Z') A g)
  (k:Fin t rules ch u m (cfg (Z'++[(g,ke (kk+1) (P.m (·.2)))]) d) (p6 u N E d τ)):Fin t rules ch u (m+1) (cfg (Z'++P) d) (p6 u N E d τ):=by
 subst v
 have f:u.g d 1≠12->E=0:=λh=>by
  rcases E with _|E;(rfl);(exact absurd (W.1 0<|cD _) h)
 have i:Ac t (kn<|Z'++P) (u.g d 1) aI->E≠N\/u.g (d+E) 1≠1->w6 E N=0->Fin t rules ch u (m+1) (cfg (Z'++P) d) (p6 u N E d τ):=λa b c=>by
  rw[Gu b c];exact .l hz a
 have e:Ac t (kn<|Z'++P) (u.g d 1) (M<|dH kk)->Fin t rules ch u (m+1) (cfg (Z'++P) d) (p6 u N E d τ):=λa=>.x hz a p o n k
 rcases x with c|c|c|c
 .have f:=f (by refine Y c ?_;decide)
  rcases l with l|⟨l,hN⟩
  .exact e<|Y c l
  .exact i (Y c l) (.I<|(λhz=>zF<|(show((zQ 176)).n 0 (sj [E,N])from Qx.u U<|zS ((zE f))<|zS hN<|zS ((zG hz)) z0)))<|Y f<|Jg _
 .have f:=f (by refine Y c ?_;decide)
  subst f
  exact i (by rw[c];exact r c) (.i (by rw[mM,c];decide))<|Jg _
 .revert W i e;refine Y (f (by refine Y c ?_;decide)) ?_;intro W i e
  exact i (by rw[c];exact q c) (.i (by rw[mM,c];decide))<|Jg _
 .rcases j with j|⟨j,hN⟩
  .exact e<|Y c j
  .exact i (Y c j) (.I λz=>W.2<|Y z<|Y hN c)<|Y hN<|ω _
theorem turn(o:∀e d,0<d->0<st e d)(W:Zs u a E)(s:∀q,u.g q 1=1\/u.g q 1=6\/u.g q 1=7\/u.g q 1=12)(p:kn Z'=st e d0)(hz:Z'.L+n<=800)
  (l:∀m,m<n->Ac t (st e<|d0+m) 12 (M<|aY<|st e<|d0+(m+1))/\∀c,c=1\/c=6\/c=7->Ac t (st e<|d0+m) c aI)
  (k:n<=E->Fin t rules ch u (m+(E - n)) (cfg (Z'++Hh st ch e 12 d0 n)<|a+n) (p6 u N (E - n) (a+n) τ)):Fin t rules ch u (m+1+E) (cfg Z' a) (p6 u (n+N) E a τ):=by
 have f:∀q,kn (Z'++Hh st ch e 12 d0 q)=st e (d0+q):=λq=>by
  rcases q with _|q;(rw[Qv,bQ];exact p);(exact vt q d0 Z')
 have go:∀q,q<=n->q<=E->∀m,Fin t rules ch u m (cfg (Z'++Hh st ch e 12 d0 q)<|a+q) (p6 u (n+N) E a τ)->Fin t rules ch u (m+q) (cfg Z' a) (p6 u (n+N) E a τ):=λq j r m k=>
  chain (by decide) o q d0 m a Z' (λh=>by exact Y p<|(l 0<|eM (zQ 177) U j h).1) (λi x g=>(l i<|ju (zQ 68) U j g).1) (λi g=>W.1 i<|ju (zQ 68) U r g) (ju (zQ 178) U hz j) k
 by_cases h:n<=E
 .rw[OC h]at go⊢
  have:=(go n (aG _) h _<|k h).y 1
  rwa [(congrArg (·+1)<|(ew _ _ _).t<|congrArg _<|qZ h).t (yI _ _ _)]at this
 .refine go E (bU (zQ 3) U<|gV h) (aG _) (m+1)<|Y (Gu (.I<|(λhz=>zF<|ju (zQ 179) U (gV h)<|zG hz))<|jV (by exact lR (zQ 271) U<|gV h)) ?_
  have b:=l E<|bU (zQ 12) U<|gV h
  refine .l (by rw[aL,iq];exact ju (zQ 180) U hz<|gV h)<|Y (f _) ?_
  rcases s (a+E)with c|c|c|c
  .exact Y c<|b.2 1<|.I U
  .exact Y c<|b.2 6<|.i<|.I U
  .exact Y c<|b.2 7<|.i<|.i U
  .exact absurd c W.2
end
section
variable{p:ag}{st:Nat->Nat->Nat}{rules:aw}{u:ao}
theorem aec(b:kn Z'=st e d0):∀q,kn (Z'++Hh st ch e c d0 q)=st e (d0+q)
 :=λa=>a.r (by rw[Qv,bQ];exact b) λq x=>vt q d0 Z'
noncomputable abbrev Bx(st:Nat->Nat->Nat)(ch:ag)(i:Nat):List ZE:=Hh st ch 0 6 0 i
noncomputable abbrev By(st:Nat->Nat->Nat)(ch:ag)(k:Nat):List ZE:=Hh st ch 2 7 0 k
theorem tH(d:0<i):∀n,kn (rep Z' (Hh st ch e c 0 i) n)=bif aA n 0 then kn Z' else st e i
 :=λb=>b.casesOn U λn=>by
  obtain⟨i,rfl⟩:∃a,i=a+1:=sx d
  rw[Sz,vt,eE];rfl
theorem yD:(mB a k b c l).L=k+1+l:=by simp only[mB,aL,bx];rfl
theorem rule(i:∀e d,0<d->0<st e d)(W:Zs u a E)(l:∀q,u.g q 1=1\/u.g q 1=6\/u.g q 1=7\/u.g q 1=12)(hz:Z'.L+P.L+1+n<=800)
  (C:∀m,m<n->Ac t (st e<|d0+m) 12 (M<|aY<|st e<|d0+(m+1))/\∀c,c=1\/c=6\/c=7->Ac t (st e<|d0+m) c aI)
  (b:Ac t (st e<|d0+n) 6 aI/\Ac t (st e<|d0+n) 7 aI) (z:Ac t (st e<|d0+n) 1 (M<|dH<|p e)) (y:Ac t (st e<|d0+n) 12 (M<|dH<|p e)\/Ac t (st e<|d0+n) 12 aI/\N=0) (v:rules[p e]?=M (A,w)) (s:w.L=P.L+1+n) (r:Gt t (kn Z') A g)
  (k:∀E a,Zs u a E->Fin t rules ch u (M'+E) (cfg (Z'++[(g,ke (p e+1) (P.m (·.2)++[τ]++aQ n (sD<|ch 12)))]) a) (p6 u N E a f)):
  Fin t rules ch u (M'+2+E) (cfg (Z'++P++[(st e d0,τ)]) a) (p6 u (n+N) E a f):=by
 refine turn i W l (qD _ _ _) (Y aL<|Y aL hz) C λh=> ?_
 have o:Z'++P++[(st e d0,τ)]++Hh st ch e 12 d0 n=Z'++(P++[(st e d0,τ)]++Hh st ch e 12 d0 n):=by simp only[cN]
 have j:=aec (ch:=ch) (c:=12) (qD (Z'++P) (st e d0) τ) n
 rw[o]at j⊢
 refine Y ((bo (gD (zQ 191) U) (gD (zQ 192) U):M'+1+(E - n)=M'+(E - n)+1))<|Zr (W.d h) (l _) j ?_ (λx=>b.1) (λx=>b.2) (.I z) y v ?_ r ?_
 . simp only[aL,iq,cq,TY];exact lR (zQ 193) U hz
 . simp only[aL,iq,cq,TY];exact s
 . simpa only[aK,Fm,dc,tY]using k _ _ (W.d h)
section
variable(T:Tbl t p i k j l st)(hr:∀e,e<4->rules[p e]?=M (hO i k j l e))(hi:0<i)(hk:0<k)(hj:j<=2)(hl:l<=2)(al:∀q,u.g q 1=1\/u.g q 1=6\/u.g q 1=7\/u.g q 1=12)
include T hr hi hk hj hl al
theorem aei:∀r d E τ,Zs u d E->r*i<=700->Fin t rules ch u (2*r+1+E) (cfg (rep [] (Bx st ch i) r++[(bif aA r 0 then st 4 1 else st 0 (i+1),τ)]) d) (p6 u (r*j) E d<|Kj (mT (p 0) (ch 6) i (ch 12) j) r τ)
 :=λv=>v.r (λd E τ W x=>by
  rw[jL]
  have n:=T.12 (st 4 1)<|.i<|.i<|.i U
  refine Y ((by exact bo (du (zQ 194) U) (du (zQ 195) U):2*0+1+E=E+1)) ?_
  have m:u.g d 1≠12->E=0:=λh=>by
   rcases E with _|E;(rfl);(exact absurd (W.1 0<|cD _) h)
  have f:Ac t (st 4 1) (u.g d 1) aI->E≠0\/u.g (d+E) 1≠1->Fin t rules ch u (E+1) (cfg ([]++[(st 4 1,τ)]) d) (p6 u 0 E d τ):=λa b=>by
   rw[Gu b (ω E)];exact .l (d6 U)<|Y (qD [] (st 4 1) τ) a
  rcases al d with c|c|c|c
  .refine Y (m (by refine Y c ?_;decide)) ?_
   have:p6 u 0 0 d τ=.y d [τ]:=by delta p6;refine Y (mM _)<|Y c ?_;rfl
   show Fin t rules ch u (0+1) _ (p6 u 0 0 d τ)
   rw[this]
   exact .E (d6 U)<|Y (qD [] (st 4 1) τ)<|Y c T.13.1
  .exact f (by rw[c];exact n.1)<|.i (by rw[m (by rw[c];decide),mM,c];decide)
  .exact f (by rw[c];exact n.2)<|.i (by rw[m (by rw[c];decide),mM,c];decide)
  .exact f (by rw[c];exact T.13.2)<|.I λz=>W.2<|Y z c) (λr s d E τ W hz=>by
  refine Y ((by exact bo (lR (zQ 196) U<|zE<|i6 r j) (lR (zQ 197) U<|zG<|i6 r j):(r+1)*j=j+r*j))<|Y ((by exact bo (gD (zQ 198) U) (gD (zQ 199) U):2*(r+1)+1+E=2*r+1+2+E)) ?_
  have o:(rep [] (Bx st ch i) r).L=r*i:=by rw[ro,iq];exact eE _
  refine rule (d0:=i+1) (w:=mB 6 i 4 12 j) (g:=bif aA r 0 then st 4 1 else st 0 (i+1)) T.2 W al (Y o<|Y (iq _ _)<|I8 (zQ 200) U hj hz<|zG<|i6 r i) T.10 (T.12 _<|.I U) T.18.1 (T.18.2.p λh=>⟨h.1,by refine Y h.2 ?_;rfl⟩) (hr 0 (by decide)) (by rw[yD,iq]) ?_ λE d W=> ?_
  .refine Y (tH hi _) ?_
   rcases r with _|r;(have:=T.20.1;rwa [T.1]at this);(exact T.20.2)
  .exact Y (Fm _ _)<|s d E _ W<|ju (zQ 201) U hz<|zG<|i6 r i)
theorem aej{r:Nat}:∀n a E τ,Zs u a E->r*i+n*k<=700->Fin t rules ch u (2*n+(2*r+2)+E) (cfg (rep (rep [] (Bx st ch i) r) (By st ch k) n++[(bif aA n 0 then st 1 1 else st 2 (k+1),τ)]) a) (p6 u (r*j+n*l) E a<|Kj (mT (p 0) (ch 6) i (ch 12) j) r<|ke (p 1+1) [Kj (mT (p 2) (ch 7) k (ch 12) l) n τ])
 :=λd=>d.r (λa E τ W hz=>by
  have b:(rep [] (Bx st ch i) r).L=r*i:=by rw[ro,iq];exact eE _
  rw[jL,(by exact bo (gD (zQ 202) U) (gD (zQ 203) U):2*0+(2*r+2)+E=2*r+1+E+1)]
  refine Zr (g:=bif aA r 0 then st 4 1 else st 0 (i+1)) W (al _) (qD _ _ _) ?_ (λx=>(T.12 _<|.i<|.i<|.I U).1) (λx=>(T.12 _<|.i<|.i<|.I U).2) (.I T.17.1) (T.17.2.p λh=>⟨h.1,by refine Y h.2 ?_;rfl⟩) (hr 1 (by decide)) U ?_ ?_
  .rw[aL];show(rep [] (Bx st ch i) r).L+_<=_;rw[b];exact bU (zQ 204) U hz
  .show Gt _ (kn<|rep [] (Bx st ch i) r) _ _;rw[tH hi]
   rcases r with _|r;(have:=T.20.1;rwa [T.1]at this);(exact T.20.2)
  .exact aei T hr hi hk hj hl al r a E _ W<|bU (zQ 205) U hz) (λn c a E τ W hz=>by
  refine Y ((by exact bo (yF (zQ 206) U<|zE<|i6 n l) (yF (zQ 207) U<|zG<|i6 n l):r*j+(n+1)*l=l+(r*j+n*l)))<|Y ((by exact bo (EY (zQ 208) U) (EY (zQ 209) U):2*(n+1)+2*r+2+E=2*n+2*r+2+2+E)) ?_
  have b:(rep (rep [] (Bx st ch i) r) (By st ch k) n).L=r*i+n*k:=by rw[ro,ro,iq,iq];exact bo (gD (zQ 210) U)<|gD (zQ 211) U
  refine rule (d0:=k+1) (w:=mB 7 k 5 12 l) (g:=bif aA n 0 then st 1 1 else st 2 (k+1)) T.2 W al (Y b<|Y (iq _ _)<|(show((zQ 212)).n 0 (sj [(PN r i),(PN n k),k,l,(PN (Nat.succ n) k)])from Qx.u U<|zS hl<|zS hz<|zS ((zG<|i6 n k)) z0)) T.11 (T.12 _<|.i<|.I U) T.19.1 (T.19.2.p λh=>⟨h.1,by refine Y h.2.1<|Y h.2.2 ?_;rfl⟩) (hr 2 (by decide)) (by rw[yD,iq]) ?_ λE a W=> ?_
  .show Gt t (kn<|rep (rep [] (Bx st ch i) r) (By st ch k) n) _ _
   rw[tH hk,tH hi]
   rcases n with _|n;(
    rcases r with _|r;(have:=T.21.1;rwa [T.1]at this);(exact T.21.2.1));(exact T.21.2.2)
  .exact Y (Fm _ _)<|c a E _ W<|pU (zQ 213) U hz<|zG<|i6 n k)
def J5(p:ag)(x y z i k j l a b e:Nat)(u:ao):RR:=bif !aA (a % i) 0 then .n a else bif !aA (b % k) 0 then .n (a+b)else p6 u (a/i*j+b/k*l) e (a+b) (Kj (mT (p 0) x i z j) (a/i)<|ke (p 1+1) [Kj (mT (p 2) y k z l) (b/k) (ke (p 3+1) [])])
theorem V3(W:Wd u a b e):KV t rules ch u 200 (cfg [] 0)=M (J5 p (ch 6) (ch 7) (ch 12) i k j l a b e u):=by
 have f:=W.8
 suffices h:Fin t rules ch u 200 (cfg [] 0) (J5 p (ch 6) (ch 7) (ch 12) i k j l a b e u)from h 0
 have y:=T7 a i
 have x:=T7 b k
 have ma:=cT a hi
 have mb:=cT b hk
 have la:a/i<=a:=lT a i
 have lb:b/k<=b:=lT b k
 delta J5
 generalize hr':a/i=r at*
 generalize ht':b/k=n at*
 have t0:kn []=st 4 0:=T.1.s
 have S:∀m v,Fin t rules ch u m (cfg (rep [] (Bx st ch i) r)<|0+r*i) v->Fin t rules ch u (m+r*i) (cfg [] 0) v:=λm v h=>
  rounds (by decide) T.2 hi (Y t0 T.3) T.4 (λq H s=>(T.5 q H s).1) r m (λq s=>Y (eE _)<|W.1 q<|pU (zQ 37) U (zE y) s) (I7 (zQ 214) U f<|zE y) h
 exact bC (b:=aA (a % i) 0) (λQ=>by
  refine Y Q ?_
  have H:a % i=0:=bq Q
  have ea:0+r*i=a:=bo (lR (zQ 218) U<|zE y)<|ju (zQ 219) U (zG y)<|zE H
  rw[ea]at S
  have L:=tH (Z':=[]) (st:=st) (ch:=ch) (e:=0) (c:=6) hi r
  rw[t0]at L
  have J:(rep [] (Bx st ch i) r).L=a:=by rw[ro,iq];exact ea
  generalize hX:rep [] (Bx st ch i) r=X at S L J
  have y0:Ac t (kn X) 7 (M<|aY<|st 2 1):=by
   refine Y L ?_;rcases r with _|r;(exact T.6);(exact T.7)
  have ry:∀m v,Fin t rules ch u m (cfg (rep X (By st ch k) n)<|a+n*k) v->Fin t rules ch u (m+n*k) (cfg X a) v:=λm v h=>
   rounds (by decide) T.2 hk y0 T.8.1 (λq H s=>(T.9 q H s).1) n m (λq s=>W.2 q<|pU (zQ 37) U (zE x) s) (Xy (zQ 220) U f (zE x)<|zE J) h
  have R:=tH (Z':=X) (st:=st) (ch:=ch) (e:=2) (c:=7) hk n
  have ly:(rep X (By st ch k) n).L=a+n*k:=by rw[ro,iq,J]
  exact bC (b:=aA (b % k) 0) (λI=>by
   refine Y I ?_
   have h1:b % k=0:=bq I
   have eb:a+n*k=a+b:=bo (yF (zQ 223) U<|zE x)<|pU (zQ 224) U (zG x)<|zE h1
   rw[eb]at ry ly
   have:=(S _ _<|ry (2*n+(2*r+2)+e+1) _<|by
    exact rR (bQ<|rep X (By st ch k) n)<|Zr (m:=2*n+(2*r+2)+e) (N:=r*j+n*l) (E:=e) (τ:=Kj (mT (p 0) (ch 6) i (ch 12) j) r<|ke (p 1+1) [Kj (mT (p 2) (ch 7) k (ch 12) l) n (ke (p 3+1) [])]) (Z':=rep X (By st ch k) n) (P:=[]) (A:=5) (g:=bif aA n 0 then st 1 1 else st 2 (k+1)) (kk:=p 3) (w:=[]) (⟨W.3,W.6⟩) (W.7 _) U (by rw[bQ,ly];exact lR (zQ 225) U f) (λh=>by
    rw[bQ,R]
    rcases n with _|n;(
     have:b=0:=bo (ju (zQ 226) U (zE h1)<|zG x)<|du (zQ 45) U
     rw[this]at h;exact absurd h W.4);(exact T.8.2)) (λh=>absurd h W.5) (by
    rw[bQ,R]
    cases n with
    |zero=>
     refine Y (show(bif aA 0 0 then kn X else st 2 k)=kn X from U)<|Y L ?_
     cases r with
     |zero=>exact .I T.14.1
     |succ r=>exact T.15.1.p λh=>⟨h.1,aH (B! (cD r) h.2)<|kW _ _⟩
    |succ n=>exact T.16.1.p λh=>⟨h.1,aH (B! (cD n) h.2)<|qc _ _⟩) (by
    rw[bQ,R]
    cases n with
    |zero=>
     refine Y (show(bif aA 0 0 then kn X else st 2 k)=kn X from U)<|Y L ?_
     cases r with
     |zero=>exact T.14.2.p λh=>⟨h,by rw[jL,jL]⟩
     |succ r=>exact T.15.2.p λh=>⟨h.1,by rw[h.2,jL,Jf]⟩
    |succ n=>exact T.16.2.p λh=>⟨h.1,by rw[h.2.1,h.2.2,Jf,Jf]⟩) (hr 3 (by decide)) U (by
    refine Y R ?_
    cases n with
    |zero=>
     refine Y (show(bif aA 0 0 then kn X else st 2 k)=kn X from U)<|Y L ?_
     cases r with
     |zero=>exact T.21.1
     |succ r=>exact T.21.2.1
    |succ n=>exact T.21.2.2) (by
    exact rR hX<|aej T hr hi hk hj hl al n _ _ _ (⟨W.3,W.6⟩)<|aC (cJ (lY y)<|lY x)<|lR (zQ 272) U f)).v<|aC (cJ (cJ (cm (cm (cJ (gy 2 lb)<|cm (gy 2 la) 2) e) 1)<|lY x)<|lY y)<|TM (zQ 270) U f f f
   exact this) λI=>by
   refine Y I ?_
   have h1:b % k≠0:=λz=>by rw[z]at I;exact bT I
   have:=S _ _ (ry (1+b % k) (.n<|a+b) (chain (e:=2) (c:=7) (by decide) T.2 (b % k) 0 1 _ _ (λo=>by
    refine Y R ?_;cases n with
    |zero=>exact y0
    |succ n=>exact T.8.1) (λq H s=>by rw[eE];exact(T.9 q H<|ju (zQ 73) U mb s).1) (λq s=>by rw[ew];exact W.2 _<|pU (zQ 67) U (zE x) s) (by rw[ly];exact I7 (zQ 75) U f<|zE x) (by
    refine Y ((bo (yF (zQ 221) U<|zE x) (yF (zQ 222) U<|zG x):a+n*k+b % k=a+b))<|.l (by rw[aL,ly,iq];exact I7 (zQ 75) U f<|zE x) ?_
    obtain⟨d,C⟩:∃d,b % k=d+1:=⟨b % k - 1,(Dv h1).s⟩
    rw[C,vt,eE,<-C]
    rcases W.7 (a+b)with c|c|c|c
    . exact Y c<|(T.9 _ (bU (zQ 6) U<|zG C) mb).2 1<|.I U
    . exact Y c<|(T.9 _ (bU (zQ 6) U<|zG C) mb).2 6<|.i<|.I U
    . exact absurd c W.5
    . exact Y c<|(T.9 _ (bU (zQ 6) U<|zG C) mb).2 12<|.i<|.i U)))
   exact this.v<|aC (cJ (cJ (bH (abX b k) 1)<|lY x)<|lY y)<|ju (zQ 273) U f f) λQ=>by
  refine Y Q ?_
  have H:a % i≠0:=λz=>by rw[z]at Q;exact bT Q
  have J:(rep [] (Bx st ch i) r).L=r*i:=by rw[ro,iq];exact eE _
  have:=S (1+a % i) (.n a) (chain (e:=0) (c:=6) (by decide) T.2 (a % i) 0 1 _ _ (λo=>by
   refine Y (tH (Z':=[]) (st:=st) (ch:=ch) (e:=0) (c:=6) hi r)<|Y t0 ?_;rcases r with _|r;(exact T.3);(exact T.4)) (λq H s=>by rw[eE];exact(T.5 q H<|ju (zQ 73) U ma s).1) (λq s=>W.1 _<|pU (zQ 215) U (zE y) s) (by rw[J];exact I7 (zQ 74) U f<|zE y) (by
   refine Y ((bo (lR (zQ 216) U<|zE y) (lR (zQ 217) U<|zG y):0+r*i+a % i=a))<|.l (by rw[aL,J,iq];exact I7 (zQ 74) U f<|zE y) ?_
   obtain⟨d,C⟩:∃d,a % i=d+1:=⟨a % i - 1,(Dv H).s⟩
   rw[C,vt,eE,<-C]
   rcases W.7 a with c|c|c|c
   . exact Y c<|(T.5 _ (bU (zQ 6) U<|zG C) ma).2 1<|.I U
   . exact absurd c W.4
   . rw[c];exact(T.5 _ (bU (zQ 6) U<|zG C) ma).2 7<|.i<|.I U
   . rw[c];exact(T.5 _ (bU (zQ 6) U<|zG C) ma).2 12<|.i<|.i U))
  exact this.v<|aC (cJ (bH (abX a i) 1)<|lY y)<|ju (zQ 274) U f f
end
end
theorem RC(c:Nat)(u:ao):dm u c<=u.L:=(List.takeWhile_sublist _).length_le
theorem RB:∀{q:Nat},q<dm u c->u.g q 1=c:=by
 induction u with
 |nil=>exact λh=>by cases h
 |cons b u a=>
  intro q h
  delta dm at h
  rw[gu]at h
  exact bC (b:=aA b c) λe=>by
   rw[e]at h
   rcases q with _|q;(exact bq e);(exact a<|fC h) λe=>by have h:=e▸h;cases h
theorem Kp(d:c≠1){u:ao}:u.g (dm u c) 1≠c:=u.R (λz=>d z.s) λb u a=>by
 delta dm
 refine Y gu ?_
 rcases e:aA b c with _|_;(exact λz=>by rw[show b=c from z,bR c]at e;exact bT e);(exact a)
theorem vz(u:ao)(a q:Nat):(u.d a).g q 1=u.g (a+q) 1:=Y aW<|Y aW<|Y M5 U
theorem Cu{c:Nat}{u:ao}:(∀b∈u,aA (ch b) (ch c)=aA b c)->dm (u.m ch) (ch c)=dm u c:=u.R (λ_=>U) λb u d h=>by
 unfold dm
 refine Y dc<|Y gu<|Y gu<|Y (h b<|.h _) ?_
 rcases aA b c with _|_;(rfl);(exact congrArg (·+1)<|d λb a=>h b<|.t _ a)
def g?(u:ao):Prop:=∀c∈u,c=6\/c=7\/c=12
theorem abG(h:g? u)(q:Nat):u.g q 1=1/\u.L<=q\/(u.g q 1=6\/u.g q 1=7\/u.g q 1=12)/\q<u.L:=by
 refine Y aW ?_
 rcases e:u[q]? with _|c;(exact .I ⟨U,rz.m e⟩);(exact .i ⟨h c<|aJ e,gL e⟩)
abbrev nA(u:ao):Nat:=dm u 6
noncomputable abbrev nB(u:ao):Nat:=dm (u.d (nA u)) 7
noncomputable abbrev nE(u:ao):Nat:=dm (u.d (nA u+nB u)) 12
theorem TC(h:g? u)(d:u.L<=60):Wd u (nA u) (nB u) (nE u)/\nA u+nB u+nE u<=u.L:=by
 have l1:=RC 6 u
 have c:=RC 7<|u.d<|nA u
 have b:=RC 12<|u.d<|nA u+nB u
 rw[jm]at c b
 have a:=(uu<|(uu l1).m c).m b
 refine⟨⟨λq h=>RB h,λq h=> ?_,λq h=> ?_,Kp (by decide),?_,?_,λq=> ?_,aC a d⟩,a⟩
 .rw[<-vz];exact RB h
 .rw[<-vz];exact RB h
 .rw[<-vz];exact Kp (by decide)
 .rw[<-vz];exact Kp (by decide)
 .rcases abG h q with⟨h,_⟩|⟨h,_⟩
  .exact .I h
  .exact .i h
theorem Tj(h:g? u)(t:u.L<=60)(m:∀b∈u,∀c,c=6\/c=7\/c=12->aA (ch b) (ch c)=aA b c):
  wW p (ch 6) (ch 7) (ch 12) i k j l (u.m ch)=J5 p (ch 6) (ch 7) (ch 12) i k j l (nA u) (nB u) (nE u) u:=by
 have g:∀n,∀b∈u.d n,∀c,c=6\/c=7\/c=12->aA (ch b) (ch c)=aA b c:=λn b d=>m b<|fm d
 have s:dm (u.m ch) (ch 6)=nA u:=Cu λb d=>m b d 6<|.I U
 have r:dm ((u.m ch).d<|nA u) (ch 7)=nB u:=rR gG<|Cu λb d=>g _ b d 7<|.i<|.I U
 have q:dm ((u.m ch).d<|nA u+nB u) (ch 12)=nE u:=rR gG<|Cu λb d=>g _ b d 12<|.i<|.i U
 delta wW J5
 refine Y s<|Y r<|Y q ?_
 generalize nA u/i*j+nB u/k*l=N
 rcases aA (nA u % i) 0 with _|_;(rfl);(
  rcases aA (nB u % k) 0 with _|_;(rfl);(
   delta p6
   refine Y (aD _) ?_
   rcases aA (nE u) N with _|_;(rfl);(
    refine(abG h<|nA u+nB u+nE u).e (λf=>ir f λa b=> ?_) λf=>ir f λa b=> ?_
    .have e:bg (nA u+nB u+nE u) u.L=D:=by rw[<-bN,cb];exact λhz=>zF<|pU (zQ 132) U b hz
     refine Y e<|Y a<|Y (bo (TC h t).2 b) ?_;rfl
    .have o:aA (u.g (nA u+nB u+nE u) 1) 1=D:=by rcases a with a|a|a<;>refine Y a ?_<;>rfl
     refine Y (cb.m b)<|Y o ?_;rfl)))
theorem Zc:∀a b,mx (a++b)=Je (mx a) (mx b)
 :=λd=>d.R (λb=>(Nat.zero_max _).s) λe a c b=>by show Je e.1 (mx<|a++b)=Je (Je e.1<|mx a) (mx b);exact Y (c b) (Nat.max_assoc _ _ _).s
theorem J3{a b:List et}(c:eo a a=Z)(f:eo b b=Z):eo (a++b) (a++b)=Z:=by
 induction a with
 |nil=>exact f
 |cons e a d=>
  rw[eo,d8]at c
  show eo (e::(a++b)) (e::(a++b))=Z
  rw[eo,c.1,d c.2];rfl
def Pl(n:Nat)(e:Nat×et):Prop:=e.1<=n/\b7 e.2 e.2=Z
def GV(n:Nat)(l:List (Nat×et)):Prop:=mx l<=n/\eo (l.m d9) (l.m d9)=Z
theorem GV.nil(n:Nat):GV n []:=⟨cO _,by rw[tY,eo]⟩
theorem GV.cons{l:List (Nat×et)}(b:Pl n e)(a:GV n l):GV n (e::l):=⟨Pb.M ⟨b.1,a.1⟩,by rw[dc,eo,b.2,a.2];rfl⟩
theorem GV.v(d:GV n a)(c:GV n b):GV n (a++b):=⟨by rw[Zc];exact Pb.M ⟨d.1,c.1⟩,Y aK<|J3 d.2 c.2⟩
theorem GV.u(d:1<=n)(c:Nat):∀k,GV n<|aQ k<|sD c
 :=λb=>b.r (.nil n) λk a=>.cons ⟨d,((show Pl 1 (sD c)from⟨aG _,beq_self_eq_true _⟩)).2⟩ a
theorem GV.q{l:List (Nat×et)}(h:GV n l):Pl (n+2) (ke k l):=⟨cm h.1 2,by
 show b7 (.t [.int (.o k),.l<|l.m d9]) (.t [.int (.o k),.l<|l.m d9])=Z
 simp only[b7,eo,h.2,beq_self_eq_true,Wr]⟩
theorem Pl.S{p:Nat}(a:1<=n)(h:Pl n e):Pl (n+2) (mT p y k z l e):=(((GV.u a y k).v<|.cons h<|.nil n).v<|GV.u a z l).q
theorem Pl.w{p y k z l m:Nat}:∀{n:Nat} {e:Nat×et},1<=n->Pl n e->Pl (n+2*m) (Kj (eH.C.mT p y k z l) m e):=by
 induction m with
 |zero=>exact λ_ h=>h
 |succ m b=>
 intro n e a h
 have:=b (Nat.le_add_right_of_le a)<|h.S (p:=p) (y:=y) (k:=k) (z:=z) (l:=l) a
 rwa [(bo (gD (zQ 133) U) (gD (zQ 134) U):n+2+2*m=n+2*(m+1))]at this
theorem YI(h:a/i+b/k<=17):GZ (J5 p x y z i k j l a b e u):=by
 delta J5
 rcases aA (a % i) 0 with _|_;(trivial);(
  rcases aA (b % k) 0 with _|_;(trivial);(
   delta p6
   rcases aA e (a/i*j+b/k*l)&&aA (u.g (a+b+e) 1) 1 with _|_;(trivial);(
    have d:Pl (0+2) (ke (p 3+1) []):=(GV.nil 0).q
    have c:=GV.cons (Pl.w (p:=p 0) (y:=x) (k:=i) (z:=z) (l:=j) (m:=a/i) (by exact du (zQ 135) U)<|(GV.cons (Pl.w (p:=p 2) (y:=y) (k:=k) (z:=z) (l:=l) (m:=b/k) (by decide) d)<|.nil _).q (k:=p 1+1))<|.nil _
    exact⟨aC c.1<|eM (zQ 136) U h h,c.2⟩)))
open List in
theorem Te(a b c:Nat)(w:ao):∃n,yA a b c w<+w.t n++([97+c % 3]++w.d n):=by
 have d:∀n,w.d (n+1)<+w.d n:=λn=>by rw[<-List.drop_drop];exact drop_sublist 1<|w.d n
 refine⟨b % (w.L+1),?_⟩
 unfold yA
 generalize b % (w.L+1)=n
 rcases aA (a % 4) 1 with _|_;(
  rcases aA (a % 4) 2 with _|_;(
   rcases aA (a % 4) 3 with _|_;(
    have:w.t n++w.d n<+w.t n++([97+c % 3]++w.d n):=(Sublist.refl _).append<|sublist_append_right [97+c % 3] _
    rwa [jZ]at this);(
    show w.t n++[97+c % 3]++w.d (n+1)<+_
    rw[cN]
    exact(Sublist.refl<|w.t n).append<|(Sublist.refl [97+c % 3]).append<|d n));(exact(Sublist.refl _).append<|(d n).trans<|sublist_append_right [97+c % 3] _));(exact cN _ _ _▸Sublist.refl _)
theorem HQ(c:Nat)(w:ao):dm w c<=w.C c:=w.R (aG _) λb w a=>by
 delta dm
 refine Y gu ?_
 rcases e:aA b c with _|_;(exact cO _);(
  exact rR (bq e)<|Y List.count_cons_self<|bz<|Y (bq e) a)
noncomputable def Qu(x y z c:Nat):Nat:=bif aA c 6 then x else bif aA c 7 then y else bif aA c 12 then z else 0
section
variable(h:Abc x y z)
include h
set_option synthInstance.maxSize 2000 in
omit h in
theorem pig(j:97<=x/\x<=99)(i:97<=y/\y<=99)(hz:97<=z/\z<=99)(g:97<=q/\q<=99)(p:x≠y)(o:x≠z)(n:y≠z)(m:q≠x)(k:q≠y):z=q:=by
 obtain⟨a,rfl⟩:=jn j.1
 obtain⟨b,rfl⟩:=jn i.1
 obtain⟨c,rfl⟩:=jn hz.1
 obtain⟨d,rfl⟩:=jn g.1
 have l:∀{a},97+a<=99->a<3:=λh=>Nat.lt_of_add_lt_add_left<|j4 h
 have f:∀{a b:_root_.Fin 3},97+a.val≠97+b.val->a≠b:=λh e=>h<|congrArg (λa=>97+a.val) e
 exact congrArg (λa=>97+a.val)<|(by decide:∀x y z q,x≠y->x≠z->y≠z->q≠x->q≠y->z=q) ⟨a,l j.2⟩ ⟨b,l i.2⟩ ⟨c,l hz.2⟩ ⟨d,l g.2⟩ (f p) (f o) (f n) (f m)<|f k
theorem LP(e:97<=q/\q<=99):Qu x y z (wx x y q)=q/\(wx x y q=6\/wx x y q=7\/wx x y q=12):=by
 delta wx
 rcases b:aA q x with _|_;(
  rcases a:aA q y with _|_;(
   have d:q≠x:=λz=>by rw[qb z]at b;exact bT b
   have c:q≠y:=λz=>by rw[qb z]at a;exact bT a
   exact⟨pig h.1 h.2 h.3 e h.4 h.5 h.6 d c,.i<|.i U⟩);(exact⟨(bq a).s,.i<|.I U⟩));(exact⟨(bq b).s,.I U⟩)
theorem JX(i:b=6\/b=7\/b=12)(g:c=6\/c=7\/c=12):aA (Qu x y z b) (Qu x y z c)=aA b c:=by
 have f:=h.4;have d:∀{a b:Nat},a≠b->aA a b=D:=λh=>qm h
 have e:=λa=>bR a
 rcases i with rfl|rfl|rfl<;>rcases g with rfl|rfl|rfl
 .exact e x
 .exact d f
 .exact d h.5
 .exact d f.s
 .exact e y
 .exact d h.6
 .exact d h.5.s
 .exact d h.6.s
 .exact e z
theorem Wo(p:Ly i k j l)(Q:o<=5)(P:m<=5)(hw:w=yA a b c (yE x y z i k j l o m)):∃u,w=u.m (Qu x y z)/\g? u/\u.L<=51/\nA u/i+nB u/k<=17:=by
 refine j8 (Te a b c<|yE x y z i k j l o m) λn g=> ?_
 rw[<-hw]at g
 refine QN ((show(yE x y z i k j l o m).C x<=i*5/\(yE x y z i k j l o m).C y<=k*5/\(yE x y z i k j l o m).L<=50/\∀c∈yE x y z i k j l o m,97<=c/\c<=99 from by
   have N:=mN (aG i) Q
   have L:=mN (aG k) P
   have f3:=mN p.3 Q
   have f4:=mN p.4 P
   refine⟨?_,?_,?_,(λc d=> ?_)⟩
   .exact Y iX<|Y iX<|Y DY<|Y px<|Y px<|Y (if_neg (by simpa using h.4.s))<|Y (if_neg (by simpa using h.5.s)) N
   .exact Y iX<|Y iX<|Y DY<|Y px<|Y px<|Y (if_neg (by simpa using h.4))<|Y (if_neg (by simpa using h.6.s))<|bU (zQ 157) U L
   .exact Y aL<|Y aL<|Y bx<|Y bx<|Y bx<|cJ (cJ (aC N<|pI 5 p.1.2)<|aC L<|pI 5 p.2.2)<|cJ f3 f4
   .rcases bV.m d with d|d
    .rcases bV.m d with d|d
     .rw[cU d];exact h.1
     .rw[cU d];exact h.2
    .rw[cU d];exact h.3)) λJ I H E=> ?_
 generalize yE x y z i k j l o m=w0 at g J I H E
 have v:∀q∈w,97<=q/\q<=99:=λq v=>by
  rcases bV.m (g.subset v)with h|h
  .exact E q<|vY h
  .rcases bV.m h with h|h
   .rw[aX.m h];exact⟨du (zQ 158) U,bZ (zQ 159) U<|cT _ (by decide)⟩
   .exact E q<|fm h
 have cnt:∀q,w.C q<=w0.C q+1:=λq=>by
  refine aC (g.count_le q)<|Y iX<|Y iX ?_
  have e:w0.C q=(w0.t n).C q+(w0.d n).C q:=by refine rR iX ?_;rw[jZ]
  exact pU (zQ 275) U (zG e) List.count_le_length
 have t:(w.m<|wx x y).m (Qu x y z)=w:=by
  rw[dQ]
  exact(d4 λq f=>(LP h<|v q f).1).t<|List.map_id w
 have r:g? (w.m<|wx x y):=λq f=>by
  refine cz (tZ.m f) λs g C=> ?_;subst C
  exact(LP h<|v s g).2
 refine ie (w.m<|wx x y) t.s r (by rw[aD];exact(by
  refine aC g.length_le<|Y aL<|Y aL ?_
  have e:w0.L=(w0.t n).L+(w0.d n).L:=by refine rR aL ?_;rw[jZ]
  exact I8 (zQ 160) U H (zG e)<|zE U)) ?_
 generalize w.m (wx x y)=u at t r
 have a1:dm w x=nA u:=rR t<|Cu λb A=>JX h (r b A)<|.I U
 have a2:dm (w.d<|nA u) y=nB u:=rR t<|rR gG<|Cu λb A=>JX h (r b<|fm A)<|.i<|.I U
 have b1:=aC (HQ x w)<|cnt x
 have b2:=aC (aC (HQ y<|w.d<|nA u)<|(List.drop_sublist _ _).count_le y)<|cnt y
 have X:=p.1.1;have T:=p.2.1
 have S:nA u/i<=6:=Lp<|rR a1<|aC b1<|aC (bz J)<|bH X<|i*5
 have R:nB u/k<=6:=Lp<|rR a2<|aC b2<|aC (bz I)<|bH T<|k*5
 exact eM (zQ 161) U S R
theorem ad4{os:ao}{st:Nat->Nat->Nat}(f:Ly i k j l)(T:Tbl t (λe=>pH e os) i k j l st)(s:∀e,e<4->os[pH e os]?=M e)(d:g? u)(m:u.L<=51)(q:nA u/i+nB u/k<=17):P4 x y z i k j l os u (Qu x y z) t:=by
 have a:u.L<=60:=aC m (by decide)
 have e:=Tj (p:=λe=>pH e os) (i:=i) (k:=k) (j:=j) (l:=l) d a λb o c g=>JX h (d b o) g
 have r:=V3 (ch:=Qu x y z) (rules:=os.m<|hO i k j l) T λe n=>by refine Y aN<|Y (s e n) ?_;rfl f.1.1 f.2.1 f.3 f.4 (TC d a).1.7 (TC d a).1
 rw[<-e]at r
 refine⟨λc g=>by
  rcases((d c g))with rfl|rfl|rfl
  .exact⟨U,cb.m (bZ (zQ 4) U h.1.2:x<_)⟩
  .exact⟨U,cb.m (bZ (zQ 4) U h.2.2:y<_)⟩
  .exact⟨U,cb.m<|(bZ (zQ 4) U h.3.2:z<_)⟩,bh.m<|aC m (by decide),r,?_⟩
 show GZ (wW _ (Qu x y z 6) (Qu x y z 7) (Qu x y z 12) i k j l _)
 rw[e]
 exact YI q
end
section
variable{α β:Type}
theorem jg{b:β->c}(h:∀a,f' (φ a)=(f a).m b):ob (x.m φ) f'=(ob x f).m b:=by
 rcases x with _|a;(rfl);(exact h a)
theorem tB{b:β->c}(h:∀a,f' a=(f a).m b):ob x f'=(ob x f).m b:=by
 rcases x with _|a;(rfl);(exact h a)
theorem th(b:Bool)(a:α):mQ b (φ a)=(mQ b a).m φ:=by rcases b with _|_<;>rfl
theorem qe{φ:α->d}(h:∀a b,f' (φ a) (ψ b)=(f a b).m φ)(l:List β):∀(a:α),bA f' (l.m ψ) (φ a)=(bA f l a).m φ:=l.R (λa=>U) λb l c a=>by
 show ob (f' (φ a)<|ψ b) (bA f'<|l.m ψ)=(ob (f a b)<|bA f l).m φ
 exact Y (h _ _)<|jg c
theorem xb{φ:α->c}(h:∀a b,f' (φ a) b=(f a b).m φ)(l:List β)(a:α):bA f' l (φ a)=(bA f l a).m φ:=by
 have:=qe h l a
 rwa [G3]at this
theorem xT(h:∀a b,f' a (ψ b)=f a b)(l:List β)(a:α):bA f' (l.m ψ) a=bA f l a:=by
 have:=qe (λa b=>(h a b).t uz.s) l a
 rwa [uz]at this
theorem Ee{φ:α->d}(h:∀i a b,f' i (φ a) (ψ b)=(f i a b).m φ)(l:List β):∀(i:Nat) (a:α),foldI f' (l.m ψ) i (φ a)=(foldI f l i a).m φ:=l.R (λi a=>U) λb l c i a=>by
 show ob (f' i (φ a)<|ψ b) (foldI f' (l.m ψ)<|i+1)=(ob (f i a b)<|foldI f l<|i+1).m φ
 exact Y (h _ _ _)<|jg<|c<|i+1
def BN.m(φ:α->b):BN α->BN b
 |.g a=>.g<|φ a
 |.r a=>.r<|φ a
 |.o=>.o
theorem Ep{φ:α->d}(h:∀a,f' (φ a)=(f a).m (BN.m φ))(m:Nat):∀a,i7 f' m (φ a)=(i7 f m a).m λp=>(φ p.1,p.2):=m.r (λa=>U) λm c a=>by
 show ob (f'<|φ a) _=(ob (f a) _).m _
 refine Y (h _) ?_
 rcases f a with _|s;(rfl);(
  rcases s with b|_|_;(exact c b);all_goals(rfl))
theorem Ta{get:α->List β}{φ:α->g}(e:∀a,c (φ a)=(get a).m ψ)(h:∀a b,f' (φ a) (ψ b)=(f a b).m φ)(m:Nat):∀i a,C8 c f' m i (φ a)=(C8 get f m i a).m φ:=m.r (λi a=>U) λm d i a=>by
 show BF (M<|φ a) (λb=>ob (f' (φ a) b)<|C8 c f' m<|i+1) (c<|φ a)[i]?=(BF (motive:=λ_=>Option α) (M a) (λb=>ob (f a b)<|C8 get f m<|i+1) (get a)[i]?).m φ
 rw[e,aN]
 rcases(get a)[i]? with _|b;(rfl);(show ob (f' (φ a)<|ψ b) _=(ob (f a b) _).m φ;exact Y (h _ _)<|jg<|d<|i+1)
end
inductive Ren(g g':Gr)(κ:ag):Prop
 |mk (inj:∀a b,aA (κ a) (κ b)=aA a b) (k0:κ 0=0) (rhs:∀k,g.r (κ k)=g'.r k) (lhs:∀k,g.l (κ k)=g'.l k) (by_:∀a,g.b a=(g'.b a).m κ) (ts:∀x,has x g.t=has x g'.t) (ns:∀x,has x g.n=has x g'.n) (ls:∀x,has x g.L=has x g'.L) (len:∀k,bg (κ k) g.p.L=bg k g'.p.L)
section
variable(R:Ren g g' κ)
noncomputable abbrev kI(κ:ag)(p:Itm):Itm:=(κ p.1,p.2)
noncomputable abbrev kL(κ:ag)(I:List Itm):List Itm:=I.m (kI κ)
noncomputable abbrev kQ(κ:ag)(q:QC):QC:=((kL κ q.1.1,q.1.2.m κ),q.2)
include R
theorem Zw(x:Nat):∀M',has (κ x) (M'.m κ)=has x M'
 :=λc=>c.R U λb M' a=>by show(aA (κ b) (κ x)||has (κ x) (M'.m κ))=_;rw[R.1,a];rfl
theorem SH(k i:Nat):kq g (κ k) i=kq g' k i:=by delta kq;exact Y (R.3 _)<|Y (R.8 _) U
theorem SI(p:Itm):pZ g (kI κ p)=(pZ g' p).m κ:=by
 delta pZ
 rw[SH R,R.3,R.5]
 rcases kq g' p.1 p.2 with _|_<;>rfl
theorem VV(q:QC)(j:Itm):JY g (kQ κ q) (kI κ j)=(JY g' q j).m (kQ κ):=by
 delta JY;exact Y (SI R _)<|qe (λq x=>by
  delta Qy
  rw[Zw R,aD]
  rcases has x q.1.2 with _|_;(
   rcases fits q.1.1.L with _|_;(rfl);(
    show M _=M ((kL κ<|q.1.1++[(x,0)],κ x::q.1.2.m κ),Z)
    exact Y (show kL κ (q.1.1++[(x,0)])=kL κ q.1.1++[(κ x,0)]from aK) U));(rfl)) _ _
theorem SJ(I:List Itm):DC g (kL κ I)=(DC g' I).m (kL κ):=by
 show ob (i7 (Qw g) 100<|kQ κ ((I,[]),Z)) _=_
 exact Y (Ep (λq=>by
  delta Qw
  rcases h:q.2 with _|_;(rfl);(
   show ob (C8 (λq=>q.1.1) (JY g) 200 0<|kQ κ (q.1,D)) _=_
   rw[Ta (φ:=kQ κ) (λx=>U) (VV R)]
   exact jg λa=>U)) _ _)<|jg λa=>U
theorem SO(x:Nat)(I:List Itm):moved g x (kL κ I)=kL κ (moved g' x I):=by
 delta moved
 refine Y List.filter_map<|Y dQ ?_
 have:xg g x∘kI κ=xg g' x:=funext λp=>(show xg g x (kI κ p)=xg g' x p from by delta xg Fg;exact Y (R.3 _) U)
 exact Y this<|dQ (f:=zy) (g:=kI κ).s
theorem Gw(x:Nat)(I:List Itm):mS g x (kL κ I)=(mS g' x I).m (kL κ):=by
 delta mS U8
 rw[SO R,ta,SJ R]
 rcases(moved g' x I).i with _|_<;>rfl
theorem Xi(k:Nat):g.u (κ k)=g'.u k:=by delta Gr.u;rw[R.3]
theorem SP(I:List Itm):DR g (kL κ I)=DR g' I:=xT (λa p=>by exact Y (Xi R _) U) I []
theorem VW(I:List Itm):∀J,t8 (kL κ I) (kL κ J)=t8 I J:=I.R (λJ=>J.R U λ_ _ _=>U) λp I a J=>J.R U λq J _=>by
 show(aA (κ p.1) (κ q.1)&&aA p.2 q.2&&t8 (kL κ I) (kL κ J))=_
 rw[R.1,a J];rfl
theorem C6(J:List Itm)(C:List (List Itm)):∀(n:Nat),l7 (kL κ J) (C.m<|kL κ) n=l7 J C n:=C.R (λn=>U) λI C a n=>by
 show(bif t8 (kL κ I) (kL κ J)then M n else l7 (kL κ J) (C.m<|kL κ) (n+1))=_
 rw[VW R,a];rfl
noncomputable abbrev kC(κ:ag)(q:QI):QI:=(q.1.m (kL κ),q.2)
theorem Zz(I:List Itm)(q:QI)(x:Nat):Vp g (kL κ I) (kC κ q) x=(Vp g' I q x).m (kC κ):=by
 delta Vp
 refine Y (Gw R _ _)<|jg λJ=> ?_
 rw[aD,aD,ta,C6 R,<-th]
 refine congrArg (mQ _) ?_
 rcases J.i||(l7 J q.1 0).i with _|_;(show(q.1.m (kL κ)++[kL κ J],q.2+2)=((q.1++[J]).m<|kL κ,q.2+2);refine Y aK ?_;rfl);(rfl)
theorem Zy(q:QI×Nat):g! g (kC κ q.1,q.2)=(g! g' q).m (BN.m λq=>(kC κ q.1,q.2)):=by
 delta g!
 rw[aD,aN]
 rcases aO q.1.1.L 900 with _|_;(rfl);(
  rcases q.1.1[q.2]? with _|I;(rfl);(
   show ob (DR g<|kL κ I) _=_
   refine Y (SP R _)<|tB λb=> ?_
   rw[xb (Zz R I)]
   exact jg λa=>U))
theorem SN:pC g=(pC g').m (kC κ):=by
 delta pC
 have:DC g [(0,0)]=(DC g' [(0,0)]).m (kL κ):=by rw[<-SJ R];show _=DC g [(κ 0,0)];exact Y R.2 U
 refine Y this<|jg λI=>Y (aD _) ?_
 rcases aO I.L 900 with _|_;(rfl);(
  exact Y (Ep (Zy R) 900 (([I],0),0))<|jg λp=>Y (aD _)<|th (φ:=kC κ) _ _)
end
section
variable(R:Ren g g' κ)
noncomputable abbrev kB(κ:ag)(l:LB):LB:=(l.1,kI κ l.2)
include R
theorem Gy(p:Itm):uO g (kI κ p)=uO g' p:=by delta uO;exact Y (R.3 _) U
theorem Gx(p:Itm):more g (kI κ p)=more g' p:=by delta more;exact Y (R.3 _) U
theorem SR:zZ g (C.m<|kL κ)=zZ g' C:=by
 have:=Ee (ψ:=kL κ) (f':=λs l I=>bA (trX g s) I l) (λs a I=>by
  exact Y uz<|xT λl p=>by delta trX;rw[Gx R,Gy R,R.7] I a) C 0 []
 rwa [uz]at this
theorem C5(s x:Nat):xe g (C.m<|kL κ) s x=(xe g' C s x).m (kL κ):=by
 delta xe
 refine Y aN ?_
 refine jg λI=>Y (SP R _)<|tB λa=>Y (Gw R _ _) ?_
 exact jg λJ=>Y ta<|Y (aD _)<|th _ _
theorem Xh(t:TR):QM g (C.m<|kL κ) t=QM g' C t:=by
 delta QM
 have a:g.r 0=g'.r 0:=by rw[<-R.3,R.2]
 rw[C5 R,a]
 rcases xe g' C t.1 t.2 with _|J;(rfl);(show ob (bA (X? g) (kL κ J) []) _=_;refine Y ((λJ l=>xT λl p=>by delta X?;rw[Gx R,Gy R,R.6] J l) _ _) ?_;rfl)
theorem SK:LY g (C.m<|kL κ)=LY g' C:=funext λt=>by delta LY;exact Y (Xh R _) U
theorem VU(h:∀p,f (kI κ p)=f' p):∀J,allB f (kL κ J)=allB f' J
 :=λb=>b.R U (λp J a=>by show(f (kI κ p)&&allB f (kL κ J))=_;rw[h,a];rfl)
theorem abv(s:ao)(t:TR):Ui g (C.m<|kL κ) s t=Ui g' C s t:=by
 delta Ui
 refine Y (C5 R _ _) ?_
 rcases xe g' C t.1 t.2 with _|J;(rfl);(exact VU R λp=>by delta rdX;rw[Gx R,Gy R] J)
theorem V0(s:ao)(X:List TR):readM g (C.m<|kL κ) s X=readM g' C s X:=by
 delta readM
 exact Y (SK R)<|Y ((funext λt=>by rw[Xh R,abv R]:(λt=>(QM g (C.m<|kL κ) t).i&&Ui g (C.m<|kL κ) s t)=λt=>(QM g' C t).i&&Ui g' C s t)) U
theorem IE(p:Itm):pd g (kI κ p)=pd g' p:=by delta pd;exact Y (R.3 _) U
theorem KS(p:Itm):Jn g (kI κ p)=Jn g' p:=by delta Jn;exact Y (R.3 _) U
theorem Zx(s:ao)(X:List TR)(p:Itm)(w:WQ):Q6 g s X (kI κ p) w=Q6 g' s X p w:=by
 have:i? g s (kI κ p)=i? g' s p:=funext λa=>by delta i?;rw[KS R,IE R,R.6]
 delta Q6;exact Y (IE R _)<|Y this U
theorem Zu(p r:Itm):Nm g (kI κ p) (kI κ r)=Nm g' p r:=funext λi=>by delta Nm;exact Y (IE R _)<|Y (IE R _) U
theorem abu(p:Itm)(j:Nat)(lb:List LB)(r:Itm):Y7 g (kI κ p) j (lb.m<|kB κ) (kI κ r)=(Y7 g' p j lb r).m (Uz<|kB κ):=by
 delta Y7
 refine Y (R.4 _) ?_;rw[R.4,KS R,KS R,Zu R,aD]
 rcases aA (g'.l r.1) (g'.l p.1)&&aA (Jn g' r) (Jn g' p)with _|_;(rfl);(
  rcases i7 (Nm g' p r) 200 0 with _|z;(rfl);(
   show(bif z.2 then M _ else mQ (fits lb.L) (lb.m (kB κ)++[kB κ (j,r)]))=(bif z.2 then M lb else mQ (fits lb.L) (lb++[(j,r)])).m _
   rw[show lb.m (kB κ)++[kB κ (j,r)]=(lb++[(j,r)]).m (kB κ)from aK (l₂:=[(j,r)]).s,th]
   rcases z.2 with _|_<;>rfl))
theorem ZC(s:ao)(X:List TR)(x:TR)(q:List LB×List TR)(p:Itm):Zb g (C.m<|kL κ) s X x (q.1.m<|kB κ,q.2) (kI κ p)=(Zb g' C s X x q p).m λq=>(q.1.m<|kB κ,q.2):=by
 have e:Xu g (C.m<|kL κ) s X (kI κ p)=Xu g' C s X p:=funext λw=>by
   delta Xu
   rw[R.3,Zx R,IE R,C5 R]
   rcases bg w.1 (g'.r p.1).L with _|_;(rfl);(
    rcases Q6 g' s X p w with _|a;(rfl);(
     rcases xe g' C w.2.1 ((pd g' p).g (w.1+1) 0)with _|J;(rfl);(show ob (l7 (kL κ J) _ 0) _=ob (l7 J C 0) _;rw[C6 R])))
 delta Zb
 rw[R.4,e]
 rcases aA (g'.l p.1) x.2 with _|_;(rfl);(
  cases i7 (Xu g' C s X p) 200 (p.2,x.1,q.2)with
  |none=>rfl
  |some w=>
   show ob (C.m<|kL κ)[w.1.2.1]? _=(ob C[w.1.2.1]? _).m _
   refine Y aN ?_
   exact jg λJ=>Y (qe (abu R p w.1.2.1) _ _)<|jg λlb=>U)
noncomputable abbrev kF(κ:ag)(f:TR->List LB):TR->List LB:=λt=>(f t).m (kB κ)
theorem ZD(s:ao)(X:List TR)(q:LQ)(x:TR):i! g (C.m<|kL κ) s X (q.1,kF κ q.2.1,q.2.2) x=(i! g' C s X q x).m λq=>(q.1,kF κ q.2.1,q.2.2):=by
 delta i!
 refine Y aN ?_
 refine jg λI=>Y ((qe (ZC R s X x) I ([],[]))) ?_
 refine jg λr=>tB λu=>rR (th _ _)<|congrArg (mQ _) ?_
 have:eQ eqT (kF κ q.2.1) x (r.1.m<|kB κ)=kF κ (eQ eqT q.2.1 x r.1):=funext λt=>by
  delta eQ;dsimp only[kF];rcases eqT t x with _|_<;>rfl
 exact Y this U
theorem VY(s:ao)(X:List TR):Cv g (C.m<|kL κ) s X=(Cv g' C s X).m λr=>(kF κ r.1,r.2):=by
 delta Cv
 exact Y ((xb (ZD R s X) X ([],λx=>[],[],λx=>[])))<|jg λq=>th (φ:=λr:(TR->List LB)×IQ=>(kF κ r.1,r.2)) _ _
inductive Dy(κ:ag)(q q':AQ):Prop
 |mk (a:∀p,q.1 (kI κ p)=q'.1 p) (b:∀l,q.2 (kB κ l)=q'.2 l)
inductive t4{α β:Type}(P:α->β->Prop):Option α->Option β->Prop
 |no:t4 P aI aI
 |yes {a:α} {b:β} (h:P a b):t4 P (M a) (M b)
omit R in
theorem t4.C(c:Bool)(h:P a b):t4 P (mQ c a) (mQ c b):=by
 rcases c with _|_;(exact .no);(exact .yes h)
omit R in
theorem t4.o(h:t4 P x y)(k:∀a b,P a b->t4 Q (f a) (f' b)):t4 Q (ob x f) (ob y f'):=by
 cases h with
 |no=>exact .no
 |yes h=>exact k _ _ h
omit R in
theorem ze{f:e->γ->Option e}{f':d->o->Option d}(h:∀a b c,P a b->t4 P (f a<|ψ c) (f' b c)):∀(l:List o) (a:e) (b:d),P a b->t4 P (bA f (l.m ψ) a) (bA f' l b)
 :=λn=>n.R (λ_ _ p=>.yes p) λc l m a b p=>(h a b c p).o λk j i=>m k j i
theorem SM(p r:Itm):eqT (kI κ p) (kI κ r)=eqT p r:=by delta eqT;exact Y (R.1 _ _) U
theorem Zv(p r:LB):Hm (kB κ p) (kB κ r)=Hm p r:=by delta Hm;exact Y (SM R _ _) U
theorem Dy.d(h:Dy κ q b)(p:Itm)(v:ao)(u a:LB->List Nat)(c:∀l,u (kB κ l)=a l):Dy κ (eQ eqT q.1 (kI κ p) v,u) (eQ eqT b.1 p v,a):=⟨λr=>by show eQ eqT q.1 (kI κ p) v (kI κ r)=eQ eqT b.1 p v r;delta eQ;rw[SM R,h.1],c⟩
theorem ME(h:∀l,f (kB κ l)=f' l)(x:LB)(v:ao)(l:LB):eQ Hm f (kB κ x) v (kB κ l)=eQ Hm f' x v l:=by delta eQ;rw[Zv R,h]
theorem ZA(e:TR->List Nat)(x:TR)(h:Dy κ q d)(l:LB):t4 (Dy κ) (h! g e x q<|kB κ l) (h! g' e x d l):=by
 delta h!
 refine Y ((show Om g (kI κ l.2)=Om g' l.2 from by delta Om;rw[R.9,R.3])) ?_
 rcases Om g' l.2 with _|_;(exact .no);(
  refine((show t4 (Dy κ) (laN q<|kB κ l) (laN d l)from by
    delta laN
    refine Y (h.1 l.2) ?_
    rcases fw aA l.1 (d.1 l.2)with _|_;(exact .C _<|h.d R l.2 _ _ _<|ME R h.2 l []);(exact .yes h))).o λq d h=>Y (h.1 l.2) ?_
  rcases fw aA l.1 (d.1 l.2)with _|_;(exact .no);(
   have:=ze (λa b c p=>(show t4 (Dy κ) (laA (kB κ l) a c) (laA l b c)from by
     delta laA
     refine Y (p.2 l) ?_
     rcases has c (b.2 l)with _|_;(exact .C _ ⟨p.1,ME R p.2 l _⟩);(exact .yes p))) (e x) q d h
   rwa [G3]at this))
theorem abt(c:TR->List Nat)(f:TR->List LB)(X:List TR):t4 (Dy κ) (laM g c (kF κ f) X) (laM g' c f X):=by
 have:=ze (ψ:=λa=>a) (λa b x p=>ze (λa b l p=>ZA R c x p l) (f x) a b p) X (λy=>[],λy=>[]) (λy=>[],λy=>[]) ⟨λy=>U,λy=>U⟩
 rwa [G3]at this
theorem VX(a:Cy g=Cy g'):t4 (Dy κ) (Cn g<|C.m<|kL κ) (Cn g' C):=by
 delta Cn
 rw[a,SR R,SK R,aD]
 rcases Cy g' with _|s;(exact .no);(
  rcases zZ g' C with _|X;(exact .no);(
   show t4 _ (bif readM g (C.m<|kL κ) s X&&_ then _ else aI) (bif readM g' C s X&&_ then _ else aI)
   rw[V0 R,VY R]
   rcases readM g' C s X&&(fits X.L&&aO C.L 1000)with _|_;(exact .no);(
    rcases Cv g' C s X with _|r;(exact .no);(
     show t4 _ (ob (AD X (SG r.2) 40<|LY g' C) λq=>laM g (Nu q) (kF κ r.1) X) (ob (AD X (SG r.2) 40<|LY g' C) λq=>laM g' (Nu q) r.1 X)
     rcases AD X (SG r.2) 40 (LY g' C)with _|q;(exact .no);(exact abt R _ _ _)))))
end
noncomputable def kN(a:ag):Int->Int
 |.o n=>.o n
 |.n n=> -(.o<|a<|n+1)
noncomputable def kR(a:ag)(r:List (Nat×Int)):List (Nat×Int):=r.m λe=>(e.1,kN a e.2)
noncomputable abbrev kS(κ:ag)(q:SA):SA:=(kR κ q.1,q.2.m λe=>(e.1,kI κ e.2))
noncomputable abbrev NU(κ:ag)(t:xA):xA:=⟨t.A.m (kR κ),t.G,t.b⟩
theorem Zn{c:d->γ}(h:t4 P x y)(k:∀a b,P a b->f a=(f' b).m c):ob x f=(ob y f').m c:=by
 cases h with
 |no=>rfl
 |yes h=>exact k _ _ h
theorem HP(f:d->γ)(a:Nat):∀l,nW (l.m λe=>(e.1,f e.2)) a=(nW l a).m f
 :=λc=>c.R U λe l b=>by
  show(bif aA e.1 a then M (f e.2)else nW (l.m λe=>(e.1,f e.2)) a)=(bif aA e.1 a then M e.2 else nW l a).m f
  refine Y b ?_
  rcases aA e.1 a with _|_<;>rfl
section
variable(R:Ren g g' κ)
include R
theorem Y3(n:Nat):kN κ (-aY n)= -aY (κ n):=by
 rcases n with _|n;(refine Y R.2 ?_;rfl);(rfl)
theorem Rf(q:SA)(a:Nat):nW (kS κ q).1 a=(nW q.1 a).m (kN κ)/\nW (kS κ q).2 a=(nW q.2 a).m (kI κ):=⟨HP _ a q.1,HP _ a q.2⟩
theorem Km(q:SA)(a:Nat)(v b:Int)(p:Itm)(c:kN κ v=b):mQ ((nW (kS κ q).1 a).I&&((nW (kS κ q).2 a).I&&(fits (kS κ q).1.L&&fits (kS κ q).2.L))) ((kS κ q).1++[(a,b)],(kS κ q).2++[(a,kI κ p)])=(mQ ((nW q.1 a).I&&((nW q.2 a).I&&(fits q.1.L&&fits q.2.L))) (q.1++[(a,v)],q.2++[(a,p)])).m (kS κ):=by
 subst c
 rw[(Rf R q a).1,(Rf R q a).2,Lu,Lu,<-th]
 dsimp only[kS]
 delta kR
 rw[aD,aD,aK,aK];rfl
theorem V1(h:Dy κ f c)(i:Nat)(q:xA)(I:List Itm):AV b g (C.m<|kL κ) f d i (NU κ q) (kL κ I)=(AV b g' C c d i q I).m (NU κ):=by
 delta AV
 refine Y (aD _)<|Y ((show nkM g (kL κ _)=nkM g' _ from xT λq p=>by
  rw[Xi R,(funext λq=>funext λs=>by delta M9;rw[R.7]:M9 g=M9 g')] _ [])) ?_
 rcases aA q.A.L i&&(aA q.G.L i&&fits q.A.L)with _|_;(rfl);(
  show ob (bA (Py b g (C.m<|kL κ) f d i) (kL κ I)<|kS κ ([],[])) _=_
  refine Y (qe (λq p=>by
   delta Py
   rw[R.3,R.4,Gy R,R.6,C5 R]
   rcases aA p.2 (g'.r p.1).L with _|_;(
    rcases has (uO g' p) g'.t with _|_;(rfl);(
     refine jg λJ=> ?_
     rw[C6 R]
     exact tB λj=>Km R q (uO g' p) _ _ p U));(
    rcases aA (g'.l p.1) 8 with _|_;(
     have e:DG b g f d i (kI κ p)=DG b g' c d i p:=by
      delta DG
      rw[h.1,h.2 (i,p),R.4,R.7]
     show ob (DG b g f d i<|kI κ p) _=(ob (DG b g' c d i p) _).m _
     exact Y e<|tB λl=>xb (λq a=>Km R q a _ _ p<|Y3 R p.1) l q);(exact Km R q 1 0 0 p U))) _ _)<|jg λr=>tB λm=>Y (funext λq=>funext λx=>by
       have k:l7 [] (C.m<|kL κ) 0=l7 [] C 0:=C6 R [] C 0
       delta Zd
       rw[Gw R,C5 R,k]
       rcases mS g' x I with _|J;(rfl);(
        show(bif (kL κ J).i then _ else _)=bif J.i then _ else _
        refine Y ta ?_
        rcases J.i with _|_;(
         rcases xe g' C i x with _|J;(rfl);(show ob (l7 (kL κ J) _ 0) _=ob (l7 J C 0) _;rw[C6 R]));(rfl)):Zd g (C.m<|kL κ) i (kL κ I)=Zd g' C i I)<|tB λu=> ?_
  show M (xA.mk _ _ _)=M (xA.mk _ _ _)
  refine Y aK ?_;rfl)
theorem SQ(f:Cy g=Cy g')(h:jA a g' c=M (C,t)):jA a g c=M (C.m<|kL κ,NU κ t):=by
 have b:jA a g c=(jA a g' c).m λr=>(r.1.m<|kL κ,NU κ r.2):=by
  delta jA
  refine Y (SN R)<|jg λp=>Y (aD _) ?_
  rcases aO p.1.L 1000 with _|_;(rfl);(
   refine Zn (by
    cases a with
    |true=>exact VX R f
    |false=>exact .yes ⟨λx=>U,λx=>U⟩) λi e d=> ?_
   delta ZO
   exact Y (show⟨[],[],p.2⟩=NU κ ⟨[],[],p.2⟩from U)<|Y (Ee (V1 R d) _ _ _)<|jg λt=>U)
 refine Y b<|Y h ?_;rfl
end
noncomputable def eqI:Int->Int->Bool
 |.o a,.o b=>aA a b
 |.n a,.n b=>aA a b
 |_,_=>D
noncomputable def aab:Option Int->Option Int->Bool
 |none,aI=>Z
 |some a,M b=>eqI a b
 |_,_=>D
theorem YC:∀{a b:Int},eqI a b=Z->a=b
 |.o a,.o b,h=>congrArg aY<|bq h
 |.n a,.n b,h=>congrArg dH<|bq h
 |.o _,.n _,h=>bF h
 |.n _,.o _,h=>bF h
theorem Va:∀{a b:Option Int},aab a b=Z->a=b
 |none,aI,_=>U
 |some _,M _,h=>congrArg M<|YC h
 |none,M _,h=>bF h
 |some _,aI,h=>bF h
def atR(R:List (List<|Nat×Int))(s c:Nat):Option (Option Int):=match R[s]? with
 |some a=>M<|vZ a c
 |none=>aI
def isA(R:List (List<|Nat×Int))(s c:Nat)(o:Option Int):Bool:=match atR R s c with
 |some v=>aab v o
 |none=>D
def goR(R:List (List<|Nat×Int))(s c:Nat):Nat:=match atR R s c with
 |some (M<|.o n)=>n
 |_=>0
def q?(R:List (List<|Nat×Int))(c n s:Nat):Nat:=n.r s λ_ a=>goR R a c
def stR(t:xA)(i k e d:Nat):Nat:=match e with
 |4=>goR t.G 0 4
 |1=>goR t.G 0 5
 |0=>bif aO d i then q? t.A 6 d 0 else q? t.A 12 (d - i - 1) (goR t.G (q? t.A 6 i 0) 4)
 |_=>bif aO d k then q? t.A 7 d 0 else q? t.A 12 (d - k - 1) (goR t.G (q? t.A 7 k 0) 5)
def Xo(t:xA)(i k e d:Nat):Nat:=bif aA d 0 then 0 else stR t i k e d - 1+1
noncomputable def pW(n:Nat):(Nat->Bool)->Bool:=n.r (λ_=>Z) λi a f=>f i&&a f
theorem eU:pW n f=Z->d<n->f d=Z:=n.r (λ_ h=>by cases h) λn b h a=>(lI.m a).e (b (an h).2) λe=>e▸(an h).1
section
variable(t:xA)(p:ag)(i k j l:Nat)
abbrev V6(e d c e' d':Nat):Bool:=isA t.A (Xo t i k e d) c (M (.o (Xo t i k e' d')))
abbrev xB(e d c:Nat):Bool:=isA t.A (Xo t i k e d) c aI
abbrev Pz(e d c r:Nat):Bool:=isA t.A (Xo t i k e d) c (M (.n (p r)))
abbrev gtB(e d c e' d':Nat):Bool:=isA t.G (Xo t i k e d) c (M (.o (Xo t i k e' d')))
def zp(n:Nat):Bool:=aA n 0
def ac7:Bool:=V6 t i k 4 0 6 0 1&&(V6 t i k 0 i 6 0 1&&(pW i λd=>zp d||(V6 t i k 0 d 6 0 (d+1)&&(xB t i k 0 d 1&&(xB t i k 0 d 7&&xB t i k 0 d 12)))))
def ac8:Bool:=V6 t i k 4 0 7 2 1&&(V6 t i k 0 i 7 2 1&&(V6 t i k 2 k 7 2 1&&(xB t i k 2 k 6&&pW k λd=>zp d||(V6 t i k 2 d 7 2 (d+1)&&(xB t i k 2 d 1&&(xB t i k 2 d 6&&xB t i k 2 d 12))))))
def ac9:Bool:=(pW j λm=>V6 t i k 0 (i+1+m) 12 0 (i+1+(m+1))&&(xB t i k 0 (i+1+m) 1&&(xB t i k 0 (i+1+m) 6&&xB t i k 0 (i+1+m) 7)))&&(pW l λm=>V6 t i k 2 (k+1+m) 12 2 (k+1+(m+1))&&(xB t i k 2 (k+1+m) 1&&(xB t i k 2 (k+1+m) 6&&xB t i k 2 (k+1+m) 7)))
def ac4:Bool:=xB t i k 0 (i+1+j) 6&&(xB t i k 0 (i+1+j) 7&&(xB t i k 2 (k+1+l) 6&&(xB t i k 2 (k+1+l) 7&&(xB t i k 1 1 6&&(xB t i k 1 1 7&&(xB t i k 4 1 6&&(xB t i k 4 1 7&&(xB t i k 4 1 12&&isA t.A (Xo t i k 4 1) 1 (M<|.o 0)))))))))
def ac6:Bool:=Pz t p i k 4 0 1 3&&((Pz t p i k 4 0 12 3||xB t i k 4 0 12)&&((Pz t p i k 0 i 1 3||(xB t i k 0 i 1&& !zp j))&&((Pz t p i k 0 i 12 3||(xB t i k 0 i 12&&zp j))&&
 ((Pz t p i k 2 k 1 3||(xB t i k 2 k 1&& !zp l))&&((Pz t p i k 2 k 12 3||(xB t i k 2 k 12&&(zp j&&zp l)))&&(Pz t p i k 1 1 1 1&&((Pz t p i k 1 1 12 1||(xB t i k 1 1 12&&zp j))&&
 (Pz t p i k 0 (i+1+j) 1 0&&((Pz t p i k 0 (i+1+j) 12 0||(xB t i k 0 (i+1+j) 12&&zp j))&&(Pz t p i k 2 (k+1+l) 1 2&&(Pz t p i k 2 (k+1+l) 12 2||(xB t i k 2 (k+1+l) 12&&(zp j&&zp l)))))))))))))
def ac3:Bool:=gtB t i k 4 0 4 4 1&&(gtB t i k 0 i 4 0 (i+1)&&(gtB t i k 4 0 5 1 1&&(gtB t i k 0 i 5 1 1&&gtB t i k 2 k 5 2 (k+1))))
def UZ:Bool:=aA t.A.L (i+j+k+l+5)&&(ac7 t i k&&(ac8 t i k&&(ac9 t i k j l&&(ac4 t i k j l&&(ac6 t p i k j l&&ac3 t i k)))))
end
noncomputable def Xf(b a:Bool):List Nat:=(bif b then[1,0]else[0,1])++(bif a then[3,2]else[2,3])
noncomputable def gC(i k j l:Nat)(os:ao):Gr:=⟨(8,[4])::os.m (hO i k j l),[6,7,12,2],[4,5],[4,5]⟩
noncomputable def Ny(j l:Nat)(fl:Bool)(c:Nat):List Nat:=bif aA c 4 then ua j else bif zp j&&zp l then[1]else bif fl then[12,1]else[1,12]
def ev1(a:Bool)(i k j l:Nat)(os:ao)(b:aa):Bool:=match jA a (gC i k j l os) b with
 |some (C,t)=>UZ t (λe=>pH e os) i k j l
 |none=>D
def ev(i k j l:Nat)(b a:Bool):Bool:=ev1 Z i k j l (Xf b a) (λx=>[])&&(ev1 D i k j l (Xf b a) (Ny j l D)&&(zp j&&zp l||ev1 D i k j l (Xf b a) (Ny j l Z)))
theorem Q8(h:isA R s c o=Z):∃a,R[s]?=M a/\vZ a c=o:=by
 delta isA atR at h
 rcases e:R[s]? with _|a;(rw[e]at h;exact bF h);(rw[e]at h;exact br a U<|Va h)
theorem UM(c:Nat):∀a,vZ (kR b a) c=(vZ a c).m (kN b)
 :=λf=>f.R U λe r d=>by
  show(bif aA e.1 c then M (kN b e.2)else vZ (kR b r) c)=(bif aA e.1 c then M e.2 else vZ r c).m (kN b)
  refine Y d ?_
  rcases aA e.1 c with _|_<;>rfl
theorem uI(h:zp n=Z):n=0:=bq h
theorem Xa(h:(!zp n)=Z):0<n:=by
 rcases n with _|n;(exact bF h);(exact cD n)
theorem Qf(h:isA t.A s c o=Z)(e:o.m (kN b)=o'):Ac (NU b t) s c o':=by
 refine cz (Q8 h) λa f d=>br (kR b a) (Y aN<|Y f ?_) (by rw[UM,d,e]);rfl
theorem HC(h:isA t.G s c (M<|.o n)=Z):Gt (NU a t) s c n:=Q8 h
theorem ZQ(h:UZ t p i k j l=Z)(I:∀e,kN u (.n<|p e)=.n (N e)):Tbl (NU u t) N i k j l (Xo t i k):=by
 refine zb7 h λx hX hY L hN hR hG=>OW hX λx1 x2 x3=>zb5 hY λy1 y2 y3 y4 y5=>abI hN λn1 n2 n3 n4 n5 n6 n7 n8 n9 H=>abJ hR λr1 r2 r3 r4 r5 r6 r7 r8 r9 E C z=>zb5 hG λg1 g2 g3 g4 X=> ?_
 have rd:∀{s c e},isA t.A s c (M<|.n<|p e)=Z->Ac (NU u t) s c (M<|.n<|N e):=λh=>Qf h<|congrArg M<|I _
 have f:∀{s c},isA t.A s c aI=Z->Ac (NU u t) s c aI:=λh=>Qf h U
 have g:∀{s c n},isA t.A s c (M<|.o n)=Z->Ac (NU u t) s c (M<|.o n):=λh=>Qf h U
 have v:∀{a b c d:Bool},(a&&(b&&(c&&d)))=Z->a=Z/\b=Z/\c=Z/\d=Z:=λh=>OW h λa b h=>kb a b<|an h
 have J:∀{d},0<d->∀{b},(zp d||b)=Z->b=Z:=λ{d} r {b} h=>by
  rcases oy h with h|h
  .rw[uI h]at r;exact absurd r<|fY 0
  .exact h
 have o:∀{s a b c},isA t.A s a aI=Z->isA t.A s b aI=Z->isA t.A s c aI=Z->∀q,q=a\/q=b\/q=c->Ac (NU u t) s q aI:=λT S R q Q=>by
  rcases Q with rfl|rfl|rfl
  .exact f T
  .exact f S
  .exact f R
 exact⟨U,
  λe d r=>by
   rcases d with _|d;(exact absurd r<|fY 0);(exact cD _),
  g x1,
  g x2,
  λd y r=>QN (v<|J y<|eU x3 r) λa b c d=>⟨g a,o b c d⟩,
  g y1,
  g y2,
  ⟨g y3,f y4⟩,
  λd y r=>QN (v<|J y<|eU y5 r) λa b c d=>⟨g a,o b c d⟩,
  λm w=>QN (v<|eU (an L).1 w) λa b c d=>⟨g a,o b c d⟩,
  λm w=>QN (v<|eU (an L).2 w) λa b c d=>⟨g a,o b c d⟩,
  λs P=>by
   rcases P with rfl|rfl|rfl|rfl
   .exact⟨f n1,f n2⟩
   .exact⟨f n3,f n4⟩
   .exact⟨f n5,f n6⟩
   .exact⟨f n7,f n8⟩,
  ⟨g H,f n9⟩,
  ⟨rd r1,(oy r2).m rd f⟩,
  ⟨(oy r3).m rd λh=>⟨f (an h).1,Xa (an h).2⟩,(oy r4).m rd λh=>⟨f (an h).1,uI (an h).2⟩⟩,
  ⟨(oy r5).m rd λh=>⟨f (an h).1,Xa (an h).2⟩,(oy r6).m rd λh=>⟨f (an h).1,uI (an (an h).2).1,uI (an (an h).2).2⟩⟩,
  ⟨rd r7,(oy r8).m rd λh=>⟨f (an h).1,uI (an h).2⟩⟩,
  ⟨rd r9,(oy E).m rd λh=>⟨f (an h).1,uI (an h).2⟩⟩,
  ⟨rd C,(oy z).m rd λh=>⟨f (an h).1,uI (an (an h).2).1,uI (an (an h).2).2⟩⟩,
  ⟨HC g1,HC g2⟩,
  ⟨HC g3,HC g4,HC X⟩⟩
def κO(os a:ao)(k:Nat):Nat:=bif bg k 5 then(match k with
 |0=>0
 |k+1=>pH (a.g k 0) os+1)else k
def spO(os:ao):Bool:=bg (pH 1 os)<|pH 0 os
def tpO(os:ao):Bool:=bg (pH 3 os)<|pH 2 os
def F4(os:ao):List Nat:=Xf (spO os)<|tpO os
noncomputable def YD:Option Nat->Option Nat->Bool
 |none,aI=>Z
 |some a,M b=>aA a b
 |_,_=>D
theorem L0:∀{a b:Option Nat},YD a b=Z->a=b
 |none,aI,_=>U
 |some a,M b,h=>congrArg M<|bq h
 |none,M _,h=>bF h
 |some _,aI,h=>bF h
noncomputable def RN(os:ao):List (Nat×List Nat):=os.m<|hO 0 0 0 0
def S?(os:ao)(c:ag):Bool:=aA os.L 4&&(allB (λe=>bg e 4) os&&((pW 4 λe=>has e os&&YD os[pH e os]? (M e))&&((pW 5 λa=>bg (c a) 5&&pW 5 λb=>bif aA (c a) (c b)then aA a b else !aA a b)&&
 ((pW 4 λk=>YD os[c (k+1) - 1]? (F4 os)[k]?&& !aA (c<|k+1) 0)&&(jc (byName 4 (RN os) 1) ((byName 4 (RN<|F4 os) 1).m<|c)&&(jc (byName 5 (RN os) 1) ((byName 5 (RN<|F4 os) 1).m<|c)&&(pW 5 λe=>aA (c<|pH e (F4 os)+1)<|pH e os+1)))))))
def ac5(os:ao):Bool:=S? os<|κO os<|F4 os
section
variable{os:ao}
theorem td(a:Nat)(os:ao):∀(n:Nat),byName a (os.m<|hO i k j l) n=byName a (RN os) n:=os.R (λn=>U) λe os b n=>by
 show(bif aA (hO i k j l e).1 a then n::byName a (os.m<|hO i k j l) (n+1)else byName a (os.m<|hO i k j l) (n+1))=_
 refine Y (b<|n+1) ?_;rfl
theorem D6{a:Nat}(d:aA 4 a=D)(c:aA 5 a=D)(os:ao):∀(n:Nat),byName a (os.m<|hO i k j l) n=[]:=os.R (λn=>U) λe os b n=>by
 show(bif aA (bif aO e 1 then 4 else 5) a then n::byName a (os.m<|hO i k j l) (n+1)else byName a (os.m<|hO i k j l) (n+1))=_
 refine Y (b<|n+1) ?_
 rcases aO e 1 with _|_;(refine Y c ?_;rfl);(refine Y d ?_;rfl)
theorem YR(h:∀x,x∈a↔x∈b):has x a=has x b:=by rw[dM,gX,gX];exact h x
noncomputable def VQ(a b c:Nat):List Nat:=[0,1,2,3].g a 0::([0,1,2,3].e a).g b 0::(([0,1,2,3].e a).e b).g c 0::[((([0,1,2,3].e a).e b).e c).g 0 0]
inductive C!(os:ao)(κ:ag):Prop
 |mk (o4:PY os) (hp:∀e,e<4->os[pH e os]?=M e) (ren:∀(i k j l:Nat) (g:Gr),g.p=(8,[4])::os.m (hO i k j l)->(∀x,has x g.t=has x [6,7,12,2])->(∀x,has x g.n=has x [4,5])->(∀x,has x g.L=has x [4,5])->Ren g (gC i k j l (F4 os)) κ) (num:∀e,kN κ (.n (pH e (F4 os)))=.n (pH e os))
theorem Iy:(∀a∈os,a<4)->4<=e->pH e os=os.L:=os.R (λ_ _=>U) λa r f h c=>by
 show(bif aA a e then 0 else pH e r+1)=_
 have e:aA a e=D:=qm λhz=>zF<|(show((zQ 138)).n 0 (sj [e,a])from Qx.u U<|zS c<|zS ((h a<|.h _))<|zS ((zG hz)) z0)
 rw[e,f (λb d=>h b<|.t _ d) c];rfl
theorem VP(h:S? os d=Z)(L:d 0=0)(c:∀k,5<=k->d k=k):C! os d:=by
 refine zb8 h λr h4 J I hr b4 X T=> ?_
 have r:=bq r
 have H:=λe f=>cb.M<|ql h4 e f
 have C:∀k,k<5->d k<5:=λk h=>cb.M (an<|eU I h).1
 obtain⟨A,k!⟩:=(show(F4 os).L=4/\∀a∈F4 os,a<4 from by
   delta F4 Xf
   rcases spO os with _|_<;>rcases tpO os with _|_<;>exact⟨U,by decide⟩)
 have t:∀k,k<4->os[d (k+1) - 1]?=(F4 os)[k]?/\d (k+1)≠0:=λk h=>by
  exact ir (an<|eU hr h) λa b=>⟨L0 a,λz=>by rw[z]at b;exact bF b⟩
 refine⟨⟨H,by refine Y r ?_;rfl,λe f=>(an<|eU J f).1⟩,λe f=>L0 (an<|eU J f).2,λi k j l g y S x w=> ?_,λe=> ?_⟩
 .have s:∀q,g.p.g (d q) (0,[])=(gC i k j l<|F4 os).p.g q (0,[]):=λq=>by
   refine Y y<|Y aW<|Y aW ?_
   refine congrArg (Option.getD · (0,[])) ?_
   by_cases n:q<5
   .rcases q with _|q;(refine Y L ?_;rfl);(
     obtain⟨E,R⟩:=t q<|bZ (zQ 139) U n
     obtain⟨m,Q⟩:∃m,d (q+1)=m+1:=sx<|Nat.pos_of_ne_zero R
     rw[Q]at E⊢
     exact Y aN<|Y aN<|Y E U)
   .rw[c q (bZ (zQ 11) U<|cR n)]
    rw[eS (by rw[cq,aD,r];exact bZ (zQ 57) U<|cR n)]
    exact(eS (by show((8,[4])::(F4 os).m (hO i k j l)).L<=q;rw[cq,aD,A];exact bZ (zQ 57) U<|cR n)).s
  refine⟨λa b=> ?_,L,λq=>congrArg d9<|s q,λq=>congrArg eA<|s q,λa=> ?_,S,x,w,λq=> ?_⟩
  .by_cases p:a<5<;>by_cases o:b<5
   .have:=eU (an<|eU I p).2 o
    rcases q:aA (d a) (d b)with _|_;(rw[q]at this;exact((OY _).M this).s);(rw[q]at this;exact this.s)
   .have this:=C a p
    rw[c b (bZ (zQ 11) U<|cR o),dM,beq_iff,beq_iff];exact⟨λe=>(o<|rR e this).e,λe=>(o<|rR e p).e⟩
   .have:=C b o
    rw[c a (bZ (zQ 11) U<|cR p),dM,beq_iff,beq_iff];exact⟨λe=>(p<|Y e this).e,λe=>(p<|Y e o).e⟩
   .exact Y (c a<|bZ (zQ 11) U<|cR p)<|Y (c b<|bZ (zQ 11) U<|cR o) U
  .show byName a g.p.b 1=(byName a ((F4 os).m<|hO i k j l) 1).m d
   exact Y y<|Y mJ<|bC (b:=aA 4 a) (λv=>by
    refine rR ((beq_iff _ _).m v) ?_
    rw[td,td];exact fS.m b4) λv=>by
    exact bC (b:=aA 5 a) (λu=>by
     refine rR ((beq_iff _ _).m u) ?_
     rw[td,td];exact fS.m X) λu=>by rw[D6 v u,D6 v u];rfl
  .have P:g.p.L=5:=by rw[y,cq,aD,r]
   have N:=by show((8,[4])::(F4 os).m (hO i k j l)).L=5;rw[cq,aD,A]
   refine Y P<|Y N ?_
   by_cases n:q<5
   .rw[cb.m n,cb.m<|C q n]
   .rw[c q (bZ (zQ 11) U<|cR n)]
 .show -aY (d<|pH e (F4 os)+1)=_
  by_cases f:e<4
  .have q:=eU T<|dA f
   refine Y ((beq_iff _ _).m q) ?_;rfl
  .refine Y (Iy k!<|bZ (zQ 58) U<|cR f)<|Y (Iy H<|bZ (zQ 58) U<|cR f)<|Y A<|Y r<|Y (c 5<|aG _) ?_;rfl
theorem os_eq(d:ao):os_ d=VQ (d.g 6 0 % 4) (d.g 7 0 % 3) (d.g 8 0 % 2):=by
 have j:=cT (d.g 6 0) (by decide:0<4)
 have k:=cT (d.g 7 0) (by decide:0<3)
 have l1:∀a,a<4->([0,1,2,3].e a).L=3:=λa h=>ki h
 have i:∀a b,a<4->b<3->(([0,1,2,3].e a).e b).L=2:=λa b h e=>by rw[ki (by rw[l1 a h];exact e),l1 a h]
 have l:∀a b c,a<4->b<3->c<2->((([0,1,2,3].e a).e b).e c).L=1:=λa b c h e g=>by rw[ki (by rw[i a b h e];exact g),i a b h e]
 have s:∀f m r,Ig d (f+1) m r=r.g (d.g m 0 % r.L) 0::Ig d f (m+1) (r.e<|d.g m 0 % r.L):=λ_ _ _=>U
 show Ig d 4 6 [0,1,2,3]=_
 rw[s,s,s,s]
 rw[show[0,1,2,3].L=4 from U,l1 _ j,i _ _ j k,l _ _ _ j k<|cT (d.g 8 0) (by decide),Nat.mod_one];rfl
end
def KU(a:aa)(ts:ao)(r:Nat×List Nat):Bool:= !has r.1 ts&&(!aA r.1 2&&(x6 a r.1&&(allB (x6 a) r.2&&(!has 3 r.2&&(strOk a r.1 r.2&&(fits r.2.L&&((bA Az r.2 []).i&&aO r.2.L 9)))))))
def ad(a:Nat)(ns:ao):List Nat:=bif has a ns then ns else ns++[a]
noncomputable def uN(e:Nat):Nat:=bif aO e 1 then 4 else 5
def k?(ns:ao)(e:Nat):List Nat:=match e with
 |0=>ad 4 ns
 |1=>ad 5<|ad 4 ns
 |_=>ad 5 ns
def lsP(ls:ao)(e:Nat):List Nat:=ad (uN e) ls
theorem B9(f:d->c->Option d)(b:c)(l:List c)(a:d):bA f (b::l) a=ob (f a b) (bA f l):=U
theorem yZ(a:Nat)(ns:ao):(ad a ns).L<=ns.L+1:=by
 delta ad
 rcases has a ns with _|_;(exact Y aL<|aG _);(exact d7 _)
theorem Qg(a:Nat)(ns:ao):has a (ad a ns)=Z:=by
 delta ad
 rcases h:has a ns with _|_;(show has a (ns++[a])=Z;rw[jH,bR a,jE]);(exact h)
theorem RF(q:c->c->Bool)(x:c)(b:c):∀l,fw q x (l++[b])=(fw q x l||q b x)
 :=λe=>e.R (by show(q b x||D)=(D||q b x);rw[ef,E1]) (λa l d=>by show(q a x||fw q x (l++[b]))=(q a x||fw q x l||q b x);rw[d,E2])
theorem VK{w:ao}:(∀t∈w,has t ts=Z\/has t ns=Z)->bA (tJ ts) w ns=M ns:=w.R (λ_=>U) λt w b h=>by
 have e:tJ ts ns t=M ns:=by
  delta tJ
  rcases h t (.h _)with h|h<;>refine Y h ?_
  .rfl
  .rcases has t ts with _|_<;>rfl
 rw[B9,e]
 exact b λt a=>h t<|.t _ a
theorem IF(h:t∈oZ i k j l e):t=6\/t=7\/t=12\/t=4/\e=0\/t=5/\(e=1\/e=2):=by
 have sy:∀{a k b c' l},t∈mB a k b c' l->t=a\/t=b\/t=c':=λ{a k b c' l} c=>by
  rcases ma c with c|c
  .rcases ma c with c|c
   .exact .I<|cU c
   .exact .i<|.I<|aX.m c
  .exact .i<|.i<|cU c
 rcases e with _|_|_|e
 .rcases sy h with rfl|rfl|rfl<;>decide
 .refine Y (aX.m h) ?_;decide
 .rcases sy h with rfl|rfl|rfl<;>decide
 .exact absurd h gJ
theorem Qk(N:e<4)(L:KU f ts (hO i k j l e)=Z)(d:has 6 ts=Z/\has 7 ts=Z/\has 12 ts=Z)(J:has 5 ts=D)(I:fw jc (mapKey f (uN e)<|oZ i k j l e) g.p=D)(H:g.c+9<=900)(E:g.r.L<=900)(C:g.p.L<=900)(A:g.l.L<=900)(n:g.n.L<=900):
  ∃c,ej f ts g (hO i k j l e)=M ⟨g.r++[hO i k j l e],k? g.n e,lsP g.l e,g.p++[mapKey f (uN e) (oZ i k j l e)],c⟩/\c<=g.c+9:=by
 refine zb9 L λz y x w v u s m a=> ?_
 have a:=bl a
 refine br (g.c+(hO i k j l e).2.L) ?_<|bH a _
 delta ej
 refine Y z (Y y (Y x (Y w (Y v (Y u (Y s (Y (congrArg (!·) I)<|Y (bh.m (by exact aC (bH a _) H))<|Y (bh.m E)<|Y (show fits g.l.L=Z from bh.m (by exact aC A (by decide)))<|Y (bh.m C) ?_)))))))
 rcases h:bA Az (hO i k j l e).2 []with _|q;(rw[h]at m;exact bF m);(
  have r:(bif has (uN e) g.n then M g.n else mQ (fits g.n.L) (g.n++[uN e]))=M (ad (uN e) g.n):=by
   rw[show fits g.n.L=Z from bh.m (by exact aC n (by decide))]
   delta ad
   rcases has (uN e) g.n with _|_<;>rfl
  refine Y r ?_
  show ob (bA (tJ ts) (oZ i k j l e)<|ad (uN e) g.n) _=_
  refine Y ((show bA (tJ ts) (oZ i k j l e) (ad (uN e) g.n)=M (k? g.n e)from by
    have b:∀{e},e≠1->bA (tJ ts) (oZ i k j l e) (ad (uN e) g.n)=M (ad (uN e) g.n):=λ{e} p=>VK λt h=>by
     rcases IF h with rfl|rfl|rfl|⟨rfl,rfl⟩|⟨rfl,o⟩
     .exact .I d.1
     .exact .I d.2.1
     .exact .I d.2.2
     .exact .i<|Qg _ _
     .rcases o with rfl|rfl
      .exact absurd U p
      .exact .i<|Qg _ _
    refine z4 (b (by decide)) ?_ (b (by decide)) (b (by decide)) e N
    .show ob (tJ ts (ad 4 g.n) 5) M=_
     delta tJ
     refine Y J ?_
     show ob (bif has 5 (ad 4 g.n)then M (ad 4 g.n)else mQ (fits (ad 4 g.n).L) (ad 4 g.n++[5])) M=M (ad 5<|ad 4 g.n)
     have:fits (ad 4 g.n).L=Z:=bh.m<|aC (yZ 4 g.n)<|(bZ (zQ 143) U n)
     refine Y this ?_
     delta ad
     rcases has 5 (bif has 4 g.n then g.n else g.n++[4])with _|_<;>rfl)) ?_;rfl)
theorem UL(P:has 6 ts=Z/\has 7 ts=Z/\has 12 ts=Z)(N:has 5 ts=D)(L:∀e,e<4->KU h ts (hO i k j l e)=Z)(J:∀e,e<4->∀m,m<4->e≠m->jc (mapKey h (uN e)<|oZ i k j l e) (mapKey h (uN m)<|oZ i k j l m)=D):∀(os:ao) (g:Uv),(∀e∈os,e<4)->os.N->(∀e∈os,fw jc (mapKey h (uN e)<|oZ i k j l e) g.p=D)->g.c+9*os.L<=900->g.r.L+os.L<=900->g.p.L+os.L<=900->g.l.L+os.L<=900->g.n.L+2*os.L<=900->
  ∃b,bA (λg e=>ej h ts g<|hO i k j l e) os g=M b/\b.r=g.r++os.m (hO i k j l)/\b.n=os.f k? g.n/\b.l=os.f lsP g.l/\b.c<=g.c+9*os.L
 :=λI=>I.R (λg x x x x x x x x=>⟨g,U,((bQ _).s),U,U,((aG _))⟩) (λe os H g f u t r q p o n=>by
  rw[cq]at r q p o n
  refine cz (Qk (f e<|.h _) (L e<|f e<|.h _) P N (t e<|.h _) (bU (zQ 144) U r) (bU (zQ 35) U q) (bU (zQ 35) U p) (bU (zQ 35) U o)<|bU (zQ 145) U n) λc E s=> ?_
  have l1:∀e,(k? g.n e).L<=g.n.L+2:=λe=>by
   rcases e with _|_|e
   .exact dz<|yZ 4 g.n
   .exact aC (yZ 5<|ad 4 g.n)<|bz<|yZ 4 g.n
   .exact dz<|yZ 5 g.n
  refine QO (H ⟨g.r++[hO i k j l e],k? g.n e,lsP g.l e,g.p++[mapKey h (uN e) (oZ i k j l e)],c⟩ (λa d=>f a<|.t _ d) (eX.m u).2 λa d=>by
   rw[RF,t a<|.t _ d,J e (f e<|.h _) a (f a<|.t _ d) λz=>(eX.m u).1<|z▸d];rfl (ju (zQ 146) U r s) (by refine Y aL ?_;exact bU (zQ 63) U q) (by refine Y aL ?_;exact bU (zQ 63) U p) (ju (zQ 147) U o<|yZ _ _)<|ju (zQ 148) U n<|l1 _) λb C A y w v=> ?_
  refine(⟨b,?_,?_,y,w,((pU (zQ 149) U s v))⟩)
  .rw[B9,E];exact C
  .rw[A,dc,cN];rfl)
theorem TH(a:Nat):xM (a % 3)=xM a:=by delta xM;rw[BB]
theorem Rk(a:Nat):l1 (a % 3)=l1 a:=by delta l1;rw[BB]
theorem TL(a b:Nat):yM (a % 3) (b % 2)=yM a b:=by delta yM;rw[Rk,BB]
theorem ε(a b:Nat):zM (a % 3) (b % 2)=zM a b:=by delta zM;rw[Rk,BB]
theorem Qc(a b:Nat):ku (a % 3) (b % 2)=ku a b:=by delta ku;rw[TH,TL]
def SW(a b i j:Nat):Bool:=KU (fL (xM a) (yM a b)<|zM a b) (ku a b++[2]) (hO (i+1) 1 j 0 0)&&KU (fL (xM a) (yM a b)<|zM a b) (ku a b++[2]) (hO 1 (i+1) 0 j 2)
def Xj(a b:Nat):Bool:=strOk (fL (xM a) (yM a b)<|zM a b) 8 [4]&&(KU (fL (xM a) (yM a b)<|zM a b) (ku a b++[2]) (hO 1 1 0 0 1)&&KU (fL (xM a) (yM a b)<|zM a b) (ku a b++[2]) (hO 1 1 0 0 3))
theorem ZG(f:Ly i k j l)(a b:Nat):strOk (fL (xM a) (yM a b)<|zM a b) 8 [4]=Z/\∀e,e<4->KU (fL (xM a) (yM a b)<|zM a b) (ku a b++[2]) (hO i k j l e)=Z:=by
 obtain⟨d,c⟩:=an<|eU (eU (show(pW 3 λa=>pW 2 λb=>Xj a b&&pW 3 λi=>pW 3 λj=>SW a b i j)=Z from by kernel_rfl)<|cT a (by decide))<|cT b (by decide)
 delta Xj at d
 have c:∀i,i<3->∀j,j<3->SW (a % 3) (b % 2) i j=Z:=λi q j p=>eU (eU c q) p
 delta SW at c
 rw[TH,TL,ε,Qc]at d c
 refine OW d λo d n=> ?_
 have i_:=f.1;have k_:=f.2;obtain⟨i,rfl⟩:∃m,i=m+1:=sx i_.1
 obtain⟨k,rfl⟩:∃h,k=h+1:=sx k_.1
 refine⟨o,λe g=> ?_⟩
 exact z4 (an<|c i (bZ (zQ 64) U i_.2) j<|bZ (zQ 65) U f.3).1 d (an<|c k (bZ (zQ 64) U k_.2) l<|bZ (zQ 65) U f.4).2 n e g
theorem key_ne(h:Abc x y z)(p:Ly i k j l):∀e,e<4->∀m,m<4->e≠m->jc (mapKey (fL x y z) (uN e)<|oZ i k j l e) (mapKey (fL x y z) (uN m)<|oZ i k j l m)=D:=by
 have i_:=p.1;have k_:=p.2
 obtain⟨i,rfl⟩:∃u,i=u+1:=sx i_.1
 obtain⟨k,rfl⟩:∃t,k=t+1:=sx k_.1
 have o:∀{a b:ao} (n:Nat),a[n]?≠b[n]?->jc a b=D:=λn s=>by
  rw[<-bN,fS];exact λz=>s<|Y z U
 have g:∀{a b:ao},jc a b=D->jc b a=D:=λh=>by
  rw[<-bN,fS]at h⊢;exact λz=>h z.s
 have r:(mapKey (fL x y z) 4<|oZ (i+1) (k+1) j l 0)[7]?=M x:=by rcases i with _|_<;>rfl
 have q:(mapKey (fL x y z) 5<|oZ (i+1) (k+1) j l 2)[6]?=M 39:=by rcases k with _|_<;>rfl
 have f:jc (mapKey (fL x y z) 4<|oZ (i+1) (k+1) j l 0) (mapKey (fL x y z) 4<|oZ (i+1) (k+1) j l 1)=D:=o 7<|by
  exact Y r (λz=>zF<|Df (zQ 150) U h.1.1<|zE<|sJ z)
 have d:jc (mapKey (fL x y z) 5<|oZ (i+1) (k+1) j l 2) (mapKey (fL x y z) 5<|oZ (i+1) (k+1) j l 3)=D:=o 6<|by
  exact Y q λz=>absurd (sJ z) (by decide)
 refine λe c=>z4 (λe c=>z4 (λh=>absurd U h) (λ_=>f) (λ_=>U) (λ_=>U) e c) (λe c=>z4 (λ_=>g f) (λh=>absurd U h) (λ_=>U) (λ_=>U) e c) (λe c=>z4 (λ_=>U) (λ_=>U) (λh=>absurd U h) (λ_=>d) e c) (λe c=>z4 (λ_=>U) (λ_=>U) (λ_=>g d) (λh=>absurd U h) e c) e c
def Kx(os:ao):List Nat:=os.f k? []
def lsO(os:ao):List Nat:=os.f lsP []
abbrev gO(i k j l:Nat)(os ts:ao):Gr:=⟨(8,[4])::os.m (hO i k j l),ts,Kx os,lsO os⟩
def F0c(x:Nat):List Nat:=bif has x [6,7,12,2]||aA x 1 then[x]else[]
noncomputable def adZ(x:Option ((Nat->List Nat)×Bool)):Nat->List Nat:=match x with
 |some p=>p.1
 |none=>λy=>[]
def cfF(i k j l:Nat)(os ts:ao):Nat->List Nat:=adZ<|i7 (R'<|gO i k j l os ts) 10 F0c
def CfP(os:ao):Prop:=∀i k j l ts,Cy (gO (i+1) (k+1) j l os ts)=M [5,4]/\i7 (R'<|gO (i+1) (k+1) j l os ts) 10 F0c=M (cfF (i+1) (k+1) j l os ts,Z)/\cfF (i+1) (k+1) j l os ts 12=[12]
theorem R!:∀a,a<4->∀b,b<3->∀c,c<2->CfP (VQ a b c):=by
 refine λa f=>z4 ?_ ?_ ?_ ?_ a f<;>refine λb e=>z3 ?_ ?_ ?_ b e<;>refine λc d=>z2 ?_ ?_ c d<;>exact λi k j l ts=>kb (by kernel_rfl) (by kernel_rfl) (by kernel_rfl)
noncomputable def Ba(n:Nat):Nat:=bif zp n then 0 else 1
section
variable{F:aa}
theorem A7(h:has c g.n=D)(q:Q2):bA (GW g F k) (Td<|aQ n c++w) q=bA (GW g F k) (Td w) q:=by
 induction n with
 |zero=>rfl
 |succ n a=>
  show ob (GW g F k q<|c::aQ n c++w) _=_
  refine Y (by delta GW;dsimp only;refine Y h ?_;rfl:GW g F k q (c::(aQ n c++w))=some q) ?_
  exact a
theorem LX(c:F 12=[12]):∀m,firstM F (aQ m 12)=firstM (λx=>[x]) (aQ (Ba m) 12)/\(aQ m 12).i=(aQ (Ba m) 12).i
 :=λb=>b.r ⟨U,U⟩ λm x=>⟨by
  have e:xa F [] 12=M ([12],Z):=by delta xa;refine Y c ?_;rfl
  have a:Af (xa F) (aQ (m+1) 12) []=M ([12],Z):=by show ob (xa F [] 12) _=_;rw[e];rfl
  delta firstM
  refine Y a ?_;rfl,U⟩
theorem Fq(d:g.n=g'.n)(l:g.l k=g'.l k)(j:has a g.n=D)(i:has 12 g.n=D)(h:F 12=[12])(q:Q2):
  bA (GW g F k) (Td<|mB a n b 12 m) q=bA (GW g' (λx=>[x]) k) (Td<|mB a n' b 12<|Ba m) q:=by
 delta mB
 rw[cN,cN,A7 j,A7<|d▸j]
 show ob (GW g F k q<|b::aQ m 12) _=ob (GW g' (λx=>[x]) k q<|b::aQ (Ba m) 12) _
 have e:GW g F k q (b::aQ m 12)=GW g' (λx=>[x]) k q (b::aQ (Ba m) 12):=by
  delta GW
  dsimp only
  exact Y d<|Y (LX h m).1<|Y (LX h m).2<|Y (by delta U?;exact Y l U:U? g k b (aQ (Ba m) 12).isEmpty=U? g' k b (aQ (Ba m) 12).isEmpty) U
 refine Y e ?_
 have:=λm q=>by
  have:=A7 (F:=F) (k:=k) (n:=m) (w:=[]) i q
  rwa [bQ]at this
 have c:=λm q=>by
  have:=A7 (F:=λx=>[x]) (k:=k) (n:=m) (w:=[]) (d▸i) q
  rwa [bQ]at this
 rcases GW g' (λx=>[x]) k q (b::aQ (Ba m) 12)with _|f;(rfl);(exact(this m f).t (c _ f).s)
end
section
variable{os:ao}{F:aa}
def g1(j l:Nat)(os:ao):Gr:=gO 1 1 (Ba j) (Ba l) os [6,7,12,2]
theorem MG(q:Nat):q=0/\(gO i k j l os ts).r q=[4]\/(∃e,(gO i k j l os ts).r q=oZ i k j l e/\(g1 j l os).r q=oZ 1 1 (Ba j) (Ba l) e)\/(gO i k j l os ts).r q=[]/\(g1 j l os).r q=[]:=by
 rcases q with _|q;(exact .I ⟨U,U⟩);(
  have a:∀i k j l ts,(gO i k j l os ts).r (q+1)=((os.m<|hO i k j l)[q]?.g (0,[])).2:=λi k j l ts=>by
   rfl
  delta g1
  rw[a,a,aN,aN]
  rcases os[q]? with _|e;(exact .i<|.i ⟨U,U⟩);(exact .i<|.I<|br e U U))
theorem Ko(q:Nat):(gO i k j l os ts).l q=(g1 j l os).l q:=by
 rcases q with _|q;(rfl);(
  have a:∀i k j l ts,(gO i k j l os ts).l (q+1)=((os.m<|hO i k j l)[q]?.g (0,[])).1:=λi k j l ts=>by
   rfl
  delta g1
  rw[a,a,aN,aN]
  rcases os[q]? with _|_<;>rfl)
theorem Yr(t:has 6 (Kx os)=D)(u:has 7 (Kx os)=D)(p:has 12 (Kx os)=D)(o:F 12=[12]):Ud (gO i k j l os ts) F=Ud (g1 j l os) λx=>[x]:=by
 have f:∀(q:Q2) e,c! (gO i k j l os ts) F q e=c! (g1 j l os) (λx=>[x]) q e:=λq e=>by
  delta c!
  have a:∀b,bA (GW (gO i k j l os ts) F e) (Td [b]) q=bA (GW (g1 j l os) (λx=>[x]) e) (Td [b]) q:=λb=>Fq (g:=gO i k j l os ts) (g':=g1 j l os) (n:=0) (n':=0) (m:=0) U (Ko e) t p o q
  rcases MG e with⟨h,r⟩|⟨s,d,c⟩|⟨d,c⟩
  .subst h;exact a 4
  .refine Y d<|Y c ?_
   match s with
   |0=>exact Fq (g:=gO i k j l os ts) (g':=g1 j l os) U (Ko e) t p o q
   |1=>exact a 5
   |2=>exact Fq (g:=gO i k j l os ts) (g':=g1 j l os) U (Ko e) u p o q
   |s+3=>rfl
  .refine Y d<|Y c ?_;rfl
 delta Ud
 exact Y (funext λq=>funext λe=>f q e)<|Y (by show((8,[4])::os.m (hO i k j l)).L=((8,[4])::os.m (hO 1 1 (Ba j)<|Ba l)).L;rw[cq,cq,aD,aD]:(gO i k j l os ts).p.length=(g1 j l os).p.length) U
end
def foQ(os:ao)(j l:Nat):Bool:=match i7 (Ud (g1 j l os) (λx=>[x])) 10 (λa=>bif aA a 4 then[1]else[])with
 |some (b,Z)=>jc (b 4) (Ny j l D 4)&&(jc (b 5) (Ny j l D 5)||jc (b 5) (Ny j l Z 5))
 |_=>D
def nsQ(ns:ao):Bool:=jc ns [4,5]||jc ns [5,4]
def aa1(l:ao):Bool:=l.R Z λa r b=> !has a r&&b
theorem VJ:aa1 l=Z->l.N:=l.R (λ_=>.nil) λa r b h=>eX.M ⟨λz=>by have h:=(an h).1;rw[gX.M z]at h;exact bF h,b (an h).2⟩
def UX(os:ao):Bool:=aa1 os&&(nsQ (Kx os)&&(nsQ (lsO os)&&pW 2 λj=>pW 2 λl=>foQ os j l))
theorem FU(h:nsQ ns=Z):ns=[4,5]\/ns=[5,4]:=(oy h).m fS.m fS.m
theorem aae{os:ao}(h:UX os=Z)(j l:Nat):∃i fl,i7 (Ud (g1 j l os) λx=>[x]) 10 (λa=>bif aA a 4 then[1]else[])=M (i,Z)/\∀c,c=4\/c=5->i c=Ny j l fl c:=by
 have e:∀n,Ba (Ba n)=Ba n/\zp (Ba n)=zp n/\Ba n<2:=λn=>by rcases n with _|_<;>exact kb U U<|bl U
 have d:=eU (eU (an (an (an h).2).2).2 (e j).2.2) (e l).2.2
 unfold foQ at d
 have g:g1 (Ba j) (Ba l) os=g1 j l os:=by delta g1;exact Y (e j).1<|Y (e l).1 U
 have f:∀fl c,Ny (Ba j) (Ba l) fl c=Ny j l fl c:=λfl c=>by
  delta Ny ua
  exact Y (e j).2.1<|Y (e l).2.1<|Y (show aA (Ba j) 0=aA j 0 from(e j).2.1) U
 rw[g]at d
 rcases o:i7 (Ud (g1 j l os) λx=>[x]) 10 λa=>bif aA a 4 then[1]else[]with _|r;(rw[o]at d;exact bF d);(
  obtain⟨i,z⟩:=r
  rw[o]at d
  rcases z with _|_;(exact bF d);(
   obtain⟨k,b⟩:=an d
   have k:=fS.m k
   rw[f]at k
   rcases oy b with b|b
   .have b:=fS.m b
    rw[f]at b
    exact⟨i,D,U,λc m=>by rcases m with rfl|rfl<;>assumption⟩
   .have b:=fS.m b
    rw[f]at b
    exact⟨i,Z,U,λc m=>by
     rcases m with rfl|rfl
     .exact k
     .exact b⟩))
theorem IP{lalr:Bool}{g:Gr}{Fo Fo':aa}(h:lalr=Z\/∀c,has c g.n=Z->Fo c=Fo' c):jA lalr g Fo=jA lalr g Fo':=by
 have e:∀qa st p,DG lalr g qa Fo st p=DG lalr g qa Fo' st p:=λqa st p=>by
  unfold DG
  cases lalr with
  |true=>rfl
  |false=>
   have h:=h.r (λz=>by cases z)
   show(bif has (g.l p.1) g.n then M (Fo (g.l p.1))else aI)=(bif has (g.l p.1) g.n then M (Fo' (g.l p.1))else aI)
   cases q:has (g.l p.1) g.n with
   |true=>rw[h _ q]
   |false=>rfl
 have e2:∀C qa,AV lalr g C qa Fo=AV lalr g C qa Fo':=λC qa=>by
  funext i q I
  unfold AV
  rw[show Py lalr g C qa Fo i=Py lalr g C qa Fo' i from funext λq=>funext λp=>by unfold Py;rw[e]]
 unfold jA ZO
 rw[show(λp:List (List Itm)×Nat=>bif aO p.1.L 1000 then ob (bif lalr then Cn g p.1 else M (λx=>[],λx=>[])) λqa=>ob (foldI (AV lalr g p.1 qa Fo) p.1 0 ⟨[],[],p.2⟩) λt=>M (p.1,t)else aI)=_ from funext λp=>by
  rw[show(λqa:AQ=>ob (foldI (AV lalr g p.1 qa Fo) p.1 0 ⟨[],[],p.2⟩) λt=>M (p.1,t))=λqa=>ob (foldI (AV lalr g p.1 qa Fo') p.1 0 ⟨[],[],p.2⟩) λt=>M (p.1,t)from funext λqa=>by rw[e2]]]
theorem D5{a:Nat}(l:aw):∀(n k:Nat),k∈byName a l n->k<n+l.L:=l.R (λn k h=>nomatch h) λp l ih n k=>by
 have ih:=ih (n+1) k
 rw[ew,ur 1]at ih
 show k∈(bif aA p.1 a then n::byName a l (n+1)else byName a l (n+1))->k<n+(l.L+1)
 cases aA p.1 a with
 |true=>exact λh=>(eT.m h).e (λe=>e▸Nat.lt_add_of_pos_right (cD _)) ih
 |false=>exact ih
noncomputable def Z9(ts ns:ao):List Nat:=ts++[1]++ns
theorem Mk(a b:Nat){ns:ao}(h:ns=[4,5]\/ns=[5,4]):(∃d1 d2,bA lV (ku a b++[2]) []=M d1/\lV d1 1=M d2/\bA lV ns d2=M (Z9 (ku a b++[2]) ns))/\(fits (Z9 (ku a b++[2]) ns).L=Z/\aA (Z9 (ku a b++[2]) ns).L 0=D)/\bA lV ns []=M ns:=by
 unfold ku xM yM l1
 rcases FP a with h1|h1|h1<;>rcases mod2 b with h2|h2<;>rw[h1,h2]<;>rcases h with rfl|rfl<;>exact⟨⟨_,_,U,U,U⟩,⟨U,U⟩,U⟩
theorem xY{A B':ao}(h:(allB (λy=>has y B') A&&allB (λy=>has y A) B')=Z)(x:Nat):has x A=has x B':=YR λx=>⟨λq=>gX.m (ql (an h).1 x q),λq=>gX.m (ql (an h).2 x q)⟩
theorem K7(a b:Nat):∀x,has x (ku a b++[2])=has x [6,7,12,2]:=xY (by
 unfold ku xM yM l1
 rcases FP a with h1|h1|h1<;>rcases mod2 b with h2|h2<;>rw[h1,h2]<;>rfl)
theorem Wa(a b:Nat):yC [fL (xM a) (yM a b) (zM a b) 1,fL (xM a) (yM a b) (zM a b) 12]=M [fL (xM a) (yM a b) (zM a b) 1,fL (xM a) (yM a b) (zM a b) 12]/\yC [fL (xM a) (yM a b) (zM a b) 12,fL (xM a) (yM a b) (zM a b) 1]=M [fL (xM a) (yM a b) (zM a b) 1,fL (xM a) (yM a b) (zM a b) 12]:=by
 unfold xM yM zM l1
 rcases FP a with h1|h1|h1<;>rcases mod2 b with h2|h2<;>rw[h1,h2]<;>exact⟨U,U⟩
theorem SV{i k j l:Nat}(sm:Ly i k j l)(e:Nat):(oZ i k j l e).L<=9:=by
 have i_:=sm.1;have k_:=sm.2;have j_:=sm.3;have l_:=sm.4
 rcases e with _|_|_|e
 .show(mB 6 i 4 12 j).L<=9;rw[yD];exact aC (cJ (bz i_.2) j_) (by decide)
 .exact d6 U
 .show(mB 7 k 5 12 l).L<=9;rw[yD];exact aC (cJ (bz k_.2) l_) (by decide)
 .exact cO _
section
variable{i k j l:Nat}{os ts:ao}
theorem Gv(sm:Ly i k j l)(q:Nat):((gO i k j l os ts).r q).L<=9/\∀x∈(gO i k j l os ts).r q,x=6\/x=7\/x=12\/x=4\/x=5:=by
 rcases MG (i:=i) (k:=k) (j:=j) (l:=l) (os:=os) (ts:=ts) q with⟨_,r⟩|⟨e,r,_⟩|⟨r,_⟩
 .rw[r];exact⟨d6 U,λx h=>by rw[aX.m h];simp⟩
 .rw[r];exact⟨SV sm e,λx h=>by rcases IF h with h|h|h|h|h<;>simp[h]⟩
 .rw[r];exact⟨cO _,λx h=>nomatch h⟩
theorem Za{q:Nat}(h0:0<q)(hq:q<(gO i k j l os ts).p.L):(gO i k j l os ts).l q=4\/(gO i k j l os ts).l q=5:=by
 obtain⟨q,rfl⟩:∃q',q=q'+1:=sx h0
 have hq:q+1<((8,[4])::os.m (hO i k j l)).L:=hq
 rw[cq,aD]at hq
 show(((8,[4])::os.m (hO i k j l)).g (q+1) (0,[])).1=4\/(((8,[4])::os.m (hO i k j l)).g (q+1) (0,[])).1=5
 rw[aW,GO,aN,aP (fC hq)]
 show(bif aO _ 1 then 4 else 5)=4\/(bif aO _ 1 then 4 else 5)=5
 cases aO _ 1
 .exact .i U
 .exact .I U
end
def Pr(i k:Nat):Bool:=pW 3 λj=>pW 3 λl=>ev (i+1) (k+1) j l D D&&(ev (i+1) (k+1) j l D Z&&(ev (i+1) (k+1) j l Z D&&ev (i+1) (k+1) j l Z Z))
theorem adq:Pr 0 0=Z:=by kernel_rfl
theorem ads:Pr 0 1=Z:=by kernel_rfl
theorem adt:Pr 0 2=Z:=by kernel_rfl
theorem adu:Pr 1 0=Z:=by kernel_rfl
theorem adv:Pr 1 1=Z:=by kernel_rfl
theorem adw:Pr 1 2=Z:=by kernel_rfl
theorem adx:Pr 2 0=Z:=by kernel_rfl
theorem ady:Pr 2 1=Z:=by kernel_rfl
theorem adz:Pr 2 2=Z:=by kernel_rfl
theorem YG(i k:Nat)(a:i<3)(b:k<3):Pr i k=Z:=z3 (p:=λi=>Pr i k=Z) (z3 adq ads adt k b) (z3 adu adv adw k b) (z3 adx ady adz k b) i a
theorem aad{i k j l:Nat}(sm:Ly i k j l)(sp tp:Bool):ev i k j l sp tp=Z:=by
 have i_:=sm.1;have k_:=sm.2;have j_:=sm.3;have l_:=sm.4
 obtain⟨i,rfl⟩:∃i',i=i'+1:=sx i_.1
 obtain⟨k,rfl⟩:∃k',k=k'+1:=sx k_.1
 have h:=YG i k i_.2 k_.2
 unfold Pr at h
 have h:=eU (eU h (j4 j_)) (j4 l_)
 refine zb4 h λh1 h2 h3 h4=> ?_
 cases sp<;>cases tp
 .exact h1
 .exact h2
 .exact h3
 .exact h4
end eH.C
section
open PySem.Spec
namespace eH
theorem aak{a:cL}(G:Ground lq FO Tc.row.records (XL lq []) w c e d a.h)(Y':hook.says w a.h):G1 w a.h e d:=⟨km_in_of Y',km_tabs_of Y',G.T.g,G.T.b,G.T.nolimit,G.T.builtins,G.T.bmain⟩
theorem abd(c:∀P∈[391,398],s.h.g P=M (Bn #[]))(h:∀b∈[391,398],isCodeTable s.h b)(k:PQ s s'):OldK s.h s'.h where
 old:=λb o e=>by
  by_cases a:b∈[391,398]
  .refine .i<|.I ⟨h b a,Y (sJ<|e.s.t<|c b a) ?_⟩
   obtain⟨ps,lq⟩:=k.2 b a
   exact⟨U,#[],ps,U,Y lq<|Y Array.empty_append U⟩
  .exact .I<|k.1 b o e a
 there:=λb o e=>if a:b∈[391,398]then(k.2 b a).e λps lq=>⟨_,lq⟩else⟨o,k.1 b o e a⟩
noncomputable def oAt(a:Frag)(c:Addr):Obj:=(a.o c).g kv
noncomputable def vAt(o:Obj):Array a0:=match o.d with|.f vs=>vs|_=> #[]
theorem BQ(i:a.In h)(c:Addr)(g:a.o c=M (oAt a c))(f:(oAt a c).c=.t "code")(e:(oAt a c).d=.f (vAt<|oAt a c))(d:(vAt<|oAt a c)[11]?=M (.r b)):isCodeTable h b:=⟨c,_,_,i _ _ g,f,e,d⟩
set_option tactic.hygienic true in
theorem NZ(S:3*d+400<Jp)(k:∀j:List Int,j.L<=63->VD (dT d) (AB<|dT d) (j.m .I) uL o?):Tc.Holds:=by
 refine head λw A y R mb G Y' a o pm Q P dV kV ho N L hD q J u t as i g p n m=> ?_
 wrow_args i g p n m
 rename_i j _ _ _ _ _ _ _ X I _ H _ _ _ s _ f _
 have c:=aak G Y'
 have E:R FK.name=M (.r 471):=mg_of c.1 c.3 (by kernel_rfl)
 cases q.s.t E
 have r:j.L<=63:=by exact kU.m<|qX.m f
 refine bP (Rr c S H s (aC (s.length▸r) (by decide))<|k j r) (λv s' e=>ir e λC l=> ?_) λx x z=>z.e
 refine Y C<|⟨((.I ⟨.b Z,.bool Z,[],U,?_,.bool Z,?_,λx=>⟨.nil,λa z=>by cases z⟩⟩)),((abd c.2 (λb hb=> ?_) l)),l.4,?_⟩
 .exact raisesW_false λT h=>by cases h
 .exact postW_of (by rfl) (by kernel_rfl) U
 rotate_left
 .exact .of_eq<|l.3.t J
 rcases eT.m hb with rfl|hb
 .exact BQ c.1 395 (by kernel_rfl) (by kernel_rfl) (by kernel_rfl) (by kernel_rfl)
 .rcases aX.m hb with rfl
  exact BQ c.1 402 (by kernel_rfl) (by kernel_rfl) (by kernel_rfl) (by kernel_rfl)
end eH
end
namespace eH.C
theorem V?{os:ao}(n:Ly i k j l)(w:os.L=4)(v:UX os=Z)(L:CfP os)(s:i7 (Ud (g1 j l os) λx=>[x]) 10 (λa=>bif aA a 4 then[1]else[])=M (J,Z)):
  θ (gO i k j l os<|ku a b++[2]) (Z9 (ku a b++[2])<|Kx os) (cfF i k j l os<|ku a b++[2]) 4 J:=by
 have i_:=n.1;have k_:=n.2
 have f:=FU (an (an v).2).1
 refine sk (Mk a b f) λkk y r=> ?_
 have d:∀x,has x (Kx os)=has x [4,5]:=λx=>by
  rcases f with h|h<;>refine Y h ?_<;>first|rfl|exact xY U x
 have p:∀x,has x (lsO os)=has x [4,5]:=λx=>by
  rcases FU (an (an (an v).2).2).1 with h|h<;>refine Y h ?_<;>first|rfl|exact xY U x
 have g:∀{x},x∈Kx os->x=4\/x=5:=λ{x} e=>by
  exact f.e (λh=>(eT.m<|h▸e).m id aX.m) λh=>((eT.m<|h▸e).m id aX.m).symm
 have m:∀x,x=6\/x=7\/x=12\/x=4\/x=5->has x (Z9 (ku a b++[2])<|Kx os)=Z:=λx e=>by
  delta Z9
  refine gX.M ?_
  rw[bV,bV,<-gX,K7 a b x,<-gX (l:=Kx os),d]
  rcases e with rfl|rfl|rfl|rfl|rfl<;>decide
 obtain⟨i,rfl⟩:∃I,i=I+1:=sx i_.1
 obtain⟨k,rfl⟩:∃H,k=H+1:=sx k_.1
 refine sk (L i k j l<|ku a b++[2]) λy E C=> ?_
 have u:F0 (gO (i+1) (k+1) j l os<|ku a b++[2])=F0c:=funext λx=>by delta F0 F0c;exact Y (K7 a b x) U
 have t:(gO (i+1) (k+1) j l os<|ku a b++[2]).p.L=5:=by rw[cq,aD,w]
 refine⟨⟨⟨λx e=> ?_,λx e=> ?_,λx e=> ?_,λq y x e=>m x<|(Gv n q).2 x e,λc q o=> ?_⟩,kk,⟨10,Y u E⟩⟩,λq A o=> ?_,λq y=>bh.m<|aC (Gv n q).1 (by decide),by refine Y t ?_;rfl,?_,r,by rw[d];rfl,⟨10,?_⟩⟩
 .refine Y u ?_;rcases g e with rfl|rfl<;>rfl
 .exact m x (by refine(g e).e (λz=>rR z ?_) λz=>rR z ?_<;>simp)
 .rw[p];rcases g e with rfl|rfl<;>rfl
 .have:=D5 (os.m<|hO (i+1) (k+1) j l) 1 q o
  rw[aD,w]at this
  exact Y t this
 .rw[d];rcases Za A o with h|h<;>refine Y h ?_<;>rfl
 .show fits (Kx os).L=Z
  rcases f with h|h<;>refine Y h ?_<;>rfl
 .exact Y (Yr (by rw[d];rfl) (by rw[d];rfl) (by rw[d];rfl) C) s
theorem aa3(c:Ly i k j l)(b a:Bool):Cy (gC i k j l<|Xf b a)=M [5,4]:=by
 have i_:=c.1;have k_:=c.2
 obtain⟨i,rfl⟩:∃e,i=e+1:=sx i_.1
 obtain⟨k,rfl⟩:∃d,k=d+1:=sx k_.1
 rcases b with _|_<;>rcases a with _|_<;>kernel_rfl
theorem aa4{os:ao}(a:Ly i k j l)(d:CfP os):Cy (gO i k j l os ts)=M [5,4]:=by
 have i_:=a.1;have k_:=a.2
 obtain⟨i,rfl⟩:∃c,i=c+1:=sx i_.1
 obtain⟨k,rfl⟩:∃b,k=b+1:=sx k_.1
 exact(d i k j l ts).1
theorem A8{os:ao}(h:ev1 a i k j l os b=Z):∃C t,jA a (gC i k j l os) b=M (C,t)/\UZ t (λe=>pH e os) i k j l=Z:=by
 delta ev1 at h
 rcases e:jA a (gC i k j l os) b with _|r;(rw[e]at h;exact bF h);(rw[e]at h;exact we r.1 r.2 U h)
theorem YH(h:ev i k j l g f=Z)(a fl:Bool):∃C t,jA a (gC i k j l<|Xf g f) (Ny j l fl)=M (C,t)/\UZ t (λe=>pH e<|Xf g f) i k j l=Z:=by
 refine OW h λm d b=> ?_
 rcases a with _|_;(
  rcases fl with _|_;(exact A8 d);(
   rcases oy b with b|b
   .have:Ny j l Z=Ny j l D:=funext λc=>by delta Ny;refine Y b ?_;rfl
    exact Y this<|A8 d
   .exact A8 b));(exact Y (IP<|.I U)<|A8 m)
theorem plain(d:ao):Plain d:=by
 have e:=sml d
 have p:=(show C! (os_ d) (κO (os_ d)<|F4<|os_ d)from by
   have ev:(pW 4 λa=>pW 3 λb=>pW 2 λc=>ac5<|VQ a b c)=Z:=by kernel_rfl
   exact Y (os_eq _)<|VP (eU (eU (eU ev<|cT (d.g 6 0) (by decide))<|cT (d.g 7 0) (by decide))<|cT (d.g 8 0) (by decide)) U λk hk=>by
    have:bg k 5=D:=by rw[<-bN,cb];exact λhz=>zF<|Df (zQ 140) U hk hz
    delta κO;refine Y this ?_;rfl)
 have h1:=cT (d.g 6 0)<|(by decide:0<4)
 have h2:=cT (d.g 7 0)<|(by decide:0<3)
 have o:UX (os_ d)=Z:=by rw[os_eq];exact eU (eU (eU (show(pW 4 λa=>pW 3 λb=>pW 2 λc=>UX<|VQ a b c)=Z from by kernel_rfl) h1) h2)<|cT (d.g 8 0) (by decide)
 have X:CfP (os_ d):=by rw[os_eq];exact R! _ h1 _ h2 _<|cT (d.g 8 0) (by decide)
 have g:(os_ d).L=4:=U
 have h:=Qe (d.g 0 0)<|d.g 1 0
 refine hM (Wo (w:=w_ d) h e (gp<|cT (2+d.g 11 0) (by decide)) (gp<|cT (2+d.g 12 0) (by decide)) U) λu hw iu ul un=> ?_
 obtain⟨s1,rb⟩:=ZG e (d.g 0 0)<|d.g 1 0
 have n:=K7 (d.g 0 0)<|d.g 1 0
 refine QO (UL ⟨(n 6),(n 7),(n 12)⟩ ((n 5)) rb (key_ne h e) (os_ d) ⟨[],[],[],[],0⟩ p.1.1 (VJ (an o).1) (λy y=>U) (by refine Y g ?_;decide) (by rw[g];decide) (by rw[g];decide) (by rw[g];decide) (by refine Y g ?_;decide)) λT a1 S R a4 a5=> ?_
 have eg:Ke (Xq d) 4 T=gO (i_ d) (k_ d) (j_ d) (l_ d) (os_ d) (Xq d):=by delta Ke;refine Y S (Y R (Y a4 ?_));rfl
 refine Fw (aae o (j_ d) (l_ d)) λFo fl N m=> ?_
 have f:=FU (an (an o).2).1
 have co:=V? (a:=d.g 0 0) (b:=d.g 1 0) e g o X N
 have i:∀{x},has x (Kx (os_ d))=Z->x=4\/x=5:=λ{x} s=>by
  have s:=gX.m s
  exact f.e (λh=>(eT.m (h▸s)).m id aX.m) λh=>((eT.m (h▸s)).m id aX.m).symm
 refine Fw (YH (aad e (spO (os_ d)) (tpO (os_ d))) (me_ d) fl) λC t tm L=> ?_
 have l:∀x,has x (Kx (os_ d))=has x [4,5]:=λx=>by
  rcases f with h|h<;>refine Y h ?_<;>first|rfl|exact xY U x
 have J:∀x,has x (lsO (os_ d))=has x [4,5]:=λx=>by
  rcases FU (an (an (an o).2).2).1 with h|h<;>refine Y h ?_<;>first|rfl|exact xY U x
 have Q:=SQ (p.3 (i_ d) (k_ d) (j_ d) (l_ d) (gO (i_ d) (k_ d) (j_ d) (l_ d) (os_ d) (Xq d)) U n l J) ((aa4 e X).t (aa3 e _ _).s) tm
 rw[IP (.i λc r=>(m c (i r)).s)]at Q
 have I:=e.1;have H:=e.2;have E:=e.3;have A:=e.4
 have P:(gO (i_ d) (k_ d) (j_ d) (l_ d) (os_ d) (Xq d)).p.L=5:=by rw[cq,aD,g]
 refine⟨T,Z9 (Xq d) (Kx (os_ d)),cfF (i_ d) (k_ d) (j_ d) (l_ d) (os_ d) (Xq d),Fo,C.m (kL (κO (os_ d) (F4 (os_ d)))),NU (κO (os_ d) (F4 (os_ d))) t,u,Qu (x_ d) (y_ d) (z_ d),p.1,⟨a1,s1,?_,?_,?_⟩,?_,hw,ad4 h e (ZQ L p.4) p.2 iu ul un⟩
 .refine Y R ?_;show has 4 (Kx (os_ d))=Z;rw[l];rfl
 .exact bh.m (aC a5 (by rw[g];decide))
 .refine Y S ?_;rfl
 .refine Y eg ⟨co,f,λc r=> ?_,(Mk (d.g 0 0) (d.g 1 0) f).2.1,⟨λc q hq=> ?_,by rw[P];decide,by rfl,λq=>bh.m (aC (cm (Gv e q).1 1) (by decide))⟩,λq y=>aC (cm (Gv e q).1 1) (by decide),Q,(beq_iff _ _).M ((aD _).t ((beq_iff _ _).m (an L).1)),bh.m (by rw[(aD _).t ((beq_iff _ _).m (an L).1)];exact aC (cm (cJ (cJ (cJ I.2 E) H.2) A) 5) (by decide))⟩
  .obtain⟨j,v⟩:=Wa (d.g 0 0) (d.g 1 0)
   refine Y (m c (i r)) ?_
   have so:∀q,yC ((bif q then[1]else[1,12]).m (fL (x_ d) (y_ d) (z_ d)))=M ((bif q then[1]else[1,12]).m (fL (x_ d) (y_ d) (z_ d))):=λq=>by
    rcases q with _|_;(exact j);(rfl)
   refine(i r).e (λz=>Y z ?_) λz=>Y z ?_
   .exact so (aA (j_ d) 0)
   .show yC ((bif zp (j_ d)&&zp (l_ d)then[1]else bif fl then[12,1]else[1,12]).m _)=M ((bif zp (j_ d)&&zp (l_ d)then[1]else[1,12]).m _)
    rcases zp (j_ d)&&zp (l_ d)with _|_;(
     rcases fl with _|_;(exact j);(exact v));(rfl)
  .have:=D5 ((os_ d).m (hO (i_ d) (k_ d) (j_ d) (l_ d))) 1 q hq
   exact Y P this
end eH.C
theorem PySem.Challenge.cw_rp0002_08_holds : PySem.Challenge.rw_rp0002_08.Holds :=
 eH.NZ (d:=46) (by decide) λb a=>eH.C.aaG a<|eH.C.plain _
