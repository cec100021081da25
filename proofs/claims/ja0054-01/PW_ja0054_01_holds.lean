import PyProof.Rows.All
import OpenK.XGo
import KE.KBytesCut
import KE.KToBytes
import KE.KFromBytes
import KE.BytesMake
import KE.KBytesWalk
import KE.KRevIter
import KE.KDictLaws
import KE.KDictList
import KE.KNest
import OpenK.KEqL
import Open.Head
import Lean
import PySem.Challenge.RW_ja0054_01
open And renaming intro->xb
open Array renaming any_toList->aaE,append_assoc->nH,append_empty->xg,forIn_toList->aaw,getElem?_eq_getElem->q5,getElem?_eq_none->tH,getElem?_push_lt->Φ,getElem?_push_size->Ψ,getElem?_toList->tB,length_toList->aaf,size_eq_length_toList->aba
open Bool renaming and_eq_true->eH,and_false->pw,false_and->xZ,false_eq_true->fO,false_ne_true->iY,not_eq_true'->hc,not_eq_true->aaF,not_true->ra,or_eq_true->pr,true_and->Hf
open Eq renaming symm->nD
open False renaming elim->Gl
open Int renaming add_le_add->F0,add_sub_cancel->ρ,emod_nonneg->aaK,eq_ofNat_of_zero_le->Hx,fdiv_eq_ediv_of_nonneg->xv,fmod_eq_emod_of_nonneg->GD,le_of_lt->F6,le_trans->mo,lt_or_le->F5,natAbs_natCast->aar,natCast_add->ty,natCast_mul->GB,natCast_nonneg->qV,ofNat_nonneg->tx,ofNat_sub->FZ,toNat->GR,toNat_le_toNat->qX,toNat_natCast->ft,toNat_of_nonneg->pg
open List renaming all_append->Hq,all_cons->xm,all_eq_true->iw,any_cons->Ht,append_assoc->lH,append_cons->abk,append_nil->nR,append_toArray->mu,concat_ne_nil->abl,cons_append->tD,cons_ne_nil->aap,contains_iff_mem->aag,count_append->tW,count_cons->tX,drop_append->aaT,drop_append_of_le_length->Hm,drop_eq_getElem_cons->Hc,drop_eq_nil_of_le->aaA,drop_left->aa1,drop_of_length_le->Hn,drop_succ_cons->Hg,drop_zero->xP,ext_getElem?->pi,filterMap_cons->jw,flatMap_append->aa4,flatMap_cons->aa5,flatten_append->x7,flatten_cons->GH,foldl->xA,foldl_append->jv,foldl_cons->fP,foldl_nil->iE,forIn_cons->mB,forIn_nil->tQ,getD_eq_getElem?_getD->dY,getElem?_append_left->pD,getElem?_append_right->pE,getElem?_cons_succ->mq,getElem?_cons_zero->j1,getElem?_eq_getElem->da,getElem?_eq_none->jy,getElem?_map->dR,getElem?_of_mem->fr,getElem?_range->nY,getElem?_set_ne->F9,getElem?_set_self->xh,getElem_map->rm,getElem_mem->j9,length->kI,length_append->dZ,length_cons->ec,length_drop->tT,length_map->eG,length_nil->abf,length_range->xs,length_replicate->pC,length_singleton->t1,length_take->iC,lookup_cons->f0,map_append->g3,map_congr_left->Gd,map_cons->dC,map_map->nN,map_nil->iB,map_take->Hk,mem_append->lD,mem_append_cons_self->n0,mem_append_left->cU,mem_append_right->dt,mem_cons->dD,mem_cons_of_mem->e3,mem_cons_self->q4,mem_map_of_mem->fN,mem_of_getElem?->cx,mem_of_getLast?->py,mem_of_mem_take->mz,nil_append->ix,nil_sublist->aaQ,nodup_cons->tS,nodup_nil->qZ,nodup_range->Gy,not_mem_nil->eR,of_mem_zip->Gc,push_toArray->xD,range->bH,range_succ->h1,range_succ_eq_map->xw,replicate->he,replicate_succ->aal,reverse_cons->tE,size_toArray->cN,sublist_append_right->abn,sublist_cons_self->cJ,take_add_one->hf,take_append_drop->rl,take_append_of_le_length->rn,take_left->aa0,take_length->h3,take_of_length_le->nV,take_succ_cons->Hd,take_zero->Hl,zipIdx_cons->aat,zipIdx_nil->aau,zip_cons_cons->jr
open List.Pairwise renaming imp->aah
open List.Perm renaming swap->aaL
open List.Sublist renaming refl->ka
open List.cons renaming injEq->Hh
open Nat renaming add_add_add_comm->aaj,add_assoc->mj,add_comm->hW,add_le_add->qW,add_le_add_left->gY,add_le_add_right->lq,add_left_cancel->xa,add_lt_add_left->o9,add_lt_add_of_lt_of_le->Z9,add_lt_add_right->κ,add_mod_right->Z4,add_mul->FX,add_mul_div_right->Z6,add_right_cancel->abm,add_right_comm->pb,add_sub_cancel->w9,add_sub_cancel_left->tu,add_sub_of_le->tq,add_zero->Hr,and_le_right->my,and_two_pow_sub_one_eq_mod->mx,beq->xf,ble->tp,blt->tM,div_add_mod->mh,div_div_eq_div_mul->tt,div_eq_of_lt->Z7,div_le_div_right->δ,div_le_self->pf,div_lt_of_lt_mul->pc,le_add_left->tw,le_add_right->mn,le_antisymm->kF,le_of_add_le_add_right->xc,le_of_add_left_le->ο,le_of_ble_eq_true->b6,le_of_eq->ir,le_of_lt->hD,le_of_lt_succ->nC,le_of_not_lt->xe,le_of_sub_eq_zero->tv,le_of_succ_le->nF,le_refl->c9,le_sub_of_add_le->F4,le_succ->gZ,le_succ_of_le->ml,le_trans->bZ,lt_irrefl->dn,lt_of_add_right_lt->F8,lt_of_le_of_lt->cF,lt_of_lt_of_eq->ε,lt_of_lt_of_le->cQ,lt_of_sub_eq_succ->pa,lt_of_succ_le->xd,lt_or_ge->gB,lt_succ_of_le->tr,lt_succ_of_lt->nE,lt_succ_self->qY,lt_trans->kG,lt_trichotomy->aaJ,min_eq_left->pd,min_eq_right->ν,min_le_left->nB,min_le_right->mm,min_self->lp,mod_eq_of_lt->mi,mod_lt->eQ,mod_two_eq_zero_or_one->ξ,mul_add->GC,mul_assoc->FY,mul_comm->ts,mul_le_mul_left->pe,mul_le_mul_right->ln,mul_lt_mul_of_pos_right->μ,mul_right_comm->γ,ne_of_gt->mr,ne_of_lt->g0,not_le_of_lt->π,not_lt_zero->tY,not_succ_le_zero->τ,one_lt_succ_succ->rg,pow_le_pow_right->aaZ,pow_mul->GS,shiftLeft_eq->pG,shiftLeft_xor_distrib->Ha,shiftRight_eq_div_pow->tU,shiftRight_xor_distrib->aaI,sub_add_cancel->mg,sub_eq_of_eq_add->FW,sub_eq_zero_of_le->Z3,sub_le->iU,sub_le_sub_right->w8,sub_lt_left_of_lt_add->β,sub_self->Gk,sub_sub->w7,sub_sub_self->Z8,sub_zero->Gj,succ_le_succ->iv,succ_lt_succ->θ,succ_mul->qU,succ_ne_self->ι,xor_assoc->rk,xor_lt_two_pow->tN,xor_mod_two_pow->aak,xor_zero->Hj,zero_add->iu,zero_le->e2,zero_lt_of_lt->Z5,zero_xor->kP
open Nat.ToInt renaming of_diseq->F7
open Nat.le renaming intro->ζ
open Nat.succ renaming inj->η
open Ne renaming symm->fk
open Option renaming getD_some->He,isNone_iff_eq_none->aan,isSome_iff_exists->Γ,map_some->G8
open Option.some renaming inj->dg,injEq->kH
open Prod.mk renaming inj->tC,injEq->Hp
open PyProof renaming noPylong_small->GA
open PyProof.Rows renaming AllBare->nG,IsTupIter->tV,MethodCall_->tR,args_tupleiter_next->aaN,assignInOrder_cons->pz,assignInOrder_nil->xO,entry_tupleiter_next->aaM,slot_tupleiter_next->xW,subscriptTail->lx
open PyProof.Rows.F renaming entry_set_update_loop->aad,plain_set_update_loop->Gw
open PySem renaming Addr->x,Args->js,Arguments->ph,Around->aQ,CmpOp->pk,DictEntry->j0,Env->ao,Expr->am,Flow->eb,FuncBody->tA,GenState->f2,Heap->au,IsPair->nU,Model->gD,Moved->nK,NameKind->pq,Obj->V,Operator->q0,OsState->pt,Params->gC,Pos->az,Result->gh,Scope->bj,Sem->eF,Shared->H,Stmt->bu,Str->al,Tok->aF,Value->p,WalksS->j3,World->aD,assign->dX,backTo->lr,binaryOp->fg,bindArgs->hE,bindSpecialIfBound?->aaP,bm_if_false->iz,bm_if_true->xq,bootBuiltins->fs,builtinLookup_eq_fast->tK,byteArr->iy,callSpecialIfBoundUnlessNone?->aaO,callType_codes->xt,callWith->q1,call_meets->nO,call_meetsIn->t0,checkBuiltinCall->nL,closureFor->lv,codeAny->g1,codeAny_builtin->kN,codeAny_call_builtin->lC,codeAny_call_function->Ga,codeAny_forLoop_any->ω,codeAny_func->Gb,codeAny_handlers_suite->abi,codeAny_handlers_test->abh,codeAny_mono->iX,codeAny_of_tree->q8,compEnvC->f3,compTurn->q3,compareOp->f1,comprehension->GO,eqBool->nZ,eval->bA,exec->g2,execs->ej,field->j7,firstArgMember->rj,foldedSetIterable->q2,formatField->Hb,getAttr->hJ,getItem->hG,getMethod->mC,handleBy->x6,holding->lw,inplaceOp->xi,isInstance->j8,isSubtype->h2,isSubtype_stop->GZ,isSubtype_type->mv,isTrue->hF,leaving->nJ,letOwnedTupleGo->gi,list_append->GK,loadIfAlive->GW,lookup_relabel_local->aao,mainGlobals->HD,newExc->ri,newFunctionEnv->re,noteFrame->rb,nsFind->pj,object_init_meets->Gv,opaqueClassAbove->rf,operate->lz,passOn->GM,plainId_quiet->kO,preSum->ju,pyIter->hX,pyNext->gE,rangeSize_one->Gz,rawInt->eu,relabel->kQ,ret->nM,scanBound->tL,seg_bind_wrap->ls,seqIndex?->q7,seqIndex_of->GF,seqItems?->pB,setField->xL,setFlight->pu,sizeLine->eI,sizeLine_eq->gG,size_pos_of_not_empty->lG,slicePick_upto'->ro,specialOf->px,standAt->j2,starEach->iW,storeName->kK,subscripted->ly,swapsWith->xj,truthy->ms,typeIs_int->tP,typeIs_str->nS,typeLookup_type->tJ,typeOf->hH,unpackItems->xY,valueAt->lI,wordsOf->aaU,wpAny->aL,wpAny_Call_NameR->pl,wpAny_Name->xk,wpAny_Try_except->Hi,wpAny_alloc->GP,wpAny_askSetting->tG,wpAny_attempt->nQ,wpAny_bind->ab,wpAny_call->hY,wpAny_callSpecial?_slot->mF,wpAny_call_entry->jx,wpAny_field->fE,wpAny_handleBy_cons->abg,wpAny_handled->G0,wpAny_holding->dH,wpAny_isInstance->xz,wpAny_isOneOf_itemiter->Hv,wpAny_ite_false->GQ,wpAny_letGo->pp,wpAny_load->po,wpAny_loadName_local->Gg,wpAny_loadPart'->Hs,wpAny_loadPart->G6,wpAny_mkBytes->xp,wpAny_mkInt->GU,wpAny_mono->cy,wpAny_newFunctionEnv->σ,wpAny_newObj_type->lB,wpAny_newTuple->GY,wpAny_of_eq->c3,wpAny_onRaise->xJ,wpAny_pure->aI,wpAny_pyIter_list->xn,wpAny_pyNext_genexpQ->Ξ,wpAny_rule->kM,wpAny_seqItems->mA,wpAny_setField->rc,wpAny_setField_rec->iA,wpAny_specialOf->j4,wpAny_standAt->lu,wpAny_storeName_local->υ,wpAny_throw->xE,wpAny_truthy_bool->pn,wpAny_tryCatch->Gr,wpAny_tupleItemsOf->x1,wpAny_typeNameOfWhole_itemiter->x4,wpAny_typeNameOf_itemiter->x5,wpAny_updateSeq_pair->GX
open PySem.Around renaming frames_deeper->lF,under_plainId->lA
open PySem.Bind renaming madeBy->xQ,staticBase->aaB
open PySem.Builtin renaming bitAnd->Gm,bitXor->Gn,divisionGoesByPylong->ψ
open PySem.Builtin.Bytes renaming bindOptional->aas,buffer?->Gq
open PySem.Builtin.Dict_items renaming ownedTupleIsFree->Hu,ownsTuple->aa9,pairFromOwner->abb
open PySem.Builtin.Frozenset renaming updateFrom->abT
open PySem.Builtin.Int renaming intBits->Ω
open PySem.Builtin.List renaming listExtendWith->xx,listItems->GG
open PySem.Builtin.Range renaming rangeFitsLong->ps,rangeSize->xu
open PySem.Builtin.SmallTypes renaming nextOf->j6,ownedTupleHandOut->aav,ownedTupleIsFree->xI
open PySem.Builtin.Str renaming spaceWords->aaX,strSliceIndices->Hz,strSub->aaV
open PySem.Calls renaming Constant_str->Ge,Name_function_global->xl,callWith_builtin->Gh,loadGlobal_builtin->χ,loadGlobal_global->φ
open PySem.Challenge renaming pw_ja0054_01->ff
open PySem.Code renaming quiet_builtin->aae
open PySem.F renaming args_dict_itemiterator_next_1->aa8,args_list_append_2->GJ,args_object_init_2->aac,args_zip_next_1->aax,bm_called->Gs,bm_entry->Gp,bm_plain->q9,bm_plain_loop->tI,entry_dict_itemiterator_next->aa7,entry_list_append->GI,entry_object_init->Gu,excCall_ValueError->nW,excRaise_ValueError->nX,plainAttrs_dict->x2,plainAttrs_list->nT,plainAttrs_str->xT,plain_reversed_new->aai,slot_dict_getitem->aaS,slot_dict_itemiterator_iter->abc,slot_dict_itemiterator_next->x3,slot_dict_items->abd,slot_dict_setdefault->aa3,slot_dict_values->Hw,slot_list_append->lE,slot_list_contains->aa2,slot_str_lower->aaY,slot_str_split->aaW,slot_zip_next->xK,type_dict_values->abe,type_list_append->pv
open PySem.Heap renaming ExtBut->kL,SameBut->hb,get?_none_of_le->xF,get?_push_of_some->cM,get?_push_size->eX,get?_update_other->pm,get?_update_self->nI,lt_size->cr,size_push->hZ
open PySem.Heap.IsSliceOf renaming new->aab
open PySem.Heap.SameBut renaming refl->xX,update->kJ
open PySem.IsL renaming update->xC
open PySem.Manifest renaming find?->abj,isStub->xH
open PySem.MeetsSeq renaming EqGives->Ho
open PySem.MeetsSeq.EqGives renaming int->abU
open PySem.NameKind renaming cell->xB,free->aam
open PySem.Obj renaming cls_mapFields->aay,data_mapFields->rd,isFreed_of_fields->GL,mapBytearray->xr,mapSeq->nP,putName->G9
open PySem.P renaming neg_int->aaa
open PySem.PyData renaming keyHash->tz
open PySem.Sem renaming bind_eq_wrap'->Δ,onRaise_eq_wrap->Gi
open PySem.SetTable renaming eraseAt->xU
open PySem.Shared renaming TypeIs->Gx,setGen->Θ
open PySem.Str renaming append->xG,empty->xV,join->aaG,length->pF,ofString->et
open PySem.Txt renaming slice->Hy
open PySem.Unicode renaming isSpace->kR,lowerAt->x0
open PySem.Value renaming bool->rh,builtin->mw,bytes->tO,int->gF,isInt_shape->aaH,isStrOf->aaR,none->fD,ref->e4,type->jt
open PySem.Value.ref renaming inj->aa6
open PySem.W renaming InstAt->iD,Looks->c2,SharedT->rp,boot_drawn->rq,boot_heap->gH,boot_toks->t2,callWith_of->tF,check_slot->pA,emptyDict->d0,findCls->mD,findIn->dK,findObj->eS,handedIn->fu,instObj->eT,keepIn->cX,looks_clsIn->xR,looks_findIn->mE,looks_mroIn->G7,methodObj->tZ,noRoadLSs->pH,nsIn->bK,openGood->x9,specialIn->xS,typeIs_bytes->q6
open PySem.W.Fast renaming te17119622794617984870->abo,te8326940854005059898->HE,tw4187177175401517315->x8
open PySem.W.KBw renaming IsBytesIter->aaq,iter_typeIs->xM,pyIter_bytes->xy,slot_next->xN
open PySem.W.KBy renaming picked->Go
open PySem.W.KFB renaming bound->GV
open PySem.W.Looks renaming andThen->aaC,ld->hI,of_pure->iV
open PySem.W.OpenLaw renaming wellSaid->abp
open PySem.W.OpenRow renaming wellSaid->HF
open PySem.W.WTm renaming value->HB
open PySem.Walks renaming list->xo
open PySem.callAny renaming viaDunder->aaD
open UInt8 renaming ofNat->G4,ofNat_toNat->aaz,toNat->j5,toNat_ofNat'->G5
open PySem PySem.W PyProof.Rows PySem.Calls PySem.Spec
set_option Elab.async false
set_option maxRecDepth 100000
set_option genInjectivity false
set_option genSizeOf false
set_option linter.all false
namespace Zz.Internal
def Zza(k:Lean.Name)(a:Array Lean.Syntax):Lean.Syntax:=.node .none k a
def Zzb(t:Array Lean.Syntax):Lean.Syntax:=Zza ``Lean.Parser.Tactic.tacticSeq #[Zza ``Lean.Parser.Tactic.tacticSeq1Indented #[Zza `null t]]
def Zzd:=Zzb #[Zza ``Lean.Parser.Tactic.decide #[.atom .none "decide",Zza ``Lean.Parser.Tactic.optConfig #[Zza `null #[]]]]
def Zzk:=Zza `tacticKernel_rfl #[.atom .none "kernel_rfl"]
def Zzr:=Zza ``Lean.Parser.Tactic.tacticRfl #[.atom .none "rfl"]
def Zz2(t:Lean.Syntax):=Zzb #[Zza ``Lean.Parser.Tactic.intros #[.atom .none "intros",Zza `null #[]],Zza `null #[],t]
def Zzi:=Zz2 Zzr
def Zzj:=Zz2 Zzk
def Zze(n:Lean.Name):=Zzb #[Zza ``Lean.Parser.Tactic.exact #[.atom .none "exact",Lean.mkIdent n]]
def Zzf:=Zze `Zz.Internal.Zzx
def Zzl:=Zze `Zz.Internal.Zzw
def Zzg:=Zzb #[Zza ``Lean.Parser.Tactic.first #[.atom .none "first",Zza `null (#[`Zz.Internal.Zzy,`Zz.Internal.Zzz,`id].map λn=>Zza `group #[.atom .none "|",Zze n])]]
theorem Zzy{b:Bool}:b=true->true=true:=λW=>rfl
theorem Zzw{n k:Nat}:n<=n+k:=Nat.le_add_right _ _
theorem Zzz{b:Bool}:false=true->b=true:=λh=>nomatch h
local macro_rules (kind:=Lean.Parser.Term.inaccessible)|s=>match s[1].isNatLit? with|none=>Lean.Macro.throwUnsupported|some n=>return Zza ``Lean.Parser.Term.byTactic #[.atom .none "by",if n=0 then Zzb #[Zzk] else Zzd]
section
variable{ap:Prop}{dp:Sort _}{dI:Sort _}{ev:Sort _}{fl:Sort _}{gj:Sort _}{hg:Sort _}{jz:Sort _}{lJ:Sort _}{rr:Sort _}{ya:Sort _}{cm:Sort _}
section
variable{z t A bz aA cC aC dL fQ mG pI:Prop}
theorem bE(f:z/\t)(an:z->t->ap):ap:=f.elim an
theorem ek(f:z/\t/\A)(an:z->t->A->ap):ap:=f.elim λz t=>bE t (an z)
theorem kS(f:z/\t/\A/\bz)(an:z->t->A->bz->ap):ap:=f.elim λz t=>ek t (an z)
theorem dM(f:z/\t/\A/\bz/\aA)(an:z->t->A->bz->aA->ap):ap:=f.elim λz t=>kS t (an z)
theorem pJ(f:z/\t/\A/\bz/\aA/\cC)(an:z->t->A->bz->aA->cC->ap):ap:=f.elim λz t=>dM t (an z)
theorem t3(f:z/\t/\A/\bz/\aA/\cC/\aC)(an:z->t->A->bz->aA->cC->aC->ap):ap:=f.elim λz t=>pJ t (an z)
theorem mH(f:z/\t/\A/\bz/\aA/\cC/\aC/\dL)(an:z->t->A->bz->aA->cC->aC->dL->ap):ap:=f.elim λz t=>t3 t (an z)
theorem yb(f:z/\t/\A/\bz/\aA/\cC/\aC/\dL/\fQ)(an:z->t->A->bz->aA->cC->aC->dL->fQ->ap):ap:=f.elim λz t=>mH t (an z)
theorem yc(f:z/\t/\A/\bz/\aA/\cC/\aC/\dL/\fQ/\mG)(an:z->t->A->bz->aA->cC->aC->dL->fQ->mG->ap):ap:=f.elim λz t=>yb t (an z)
theorem HG(f:z/\t/\A/\bz/\aA/\cC/\aC/\dL/\fQ/\mG/\pI)(an:z->t->A->bz->aA->cC->aC->dL->fQ->mG->pI->ap):ap:=f.elim λz t=>yc t (an z)
theorem pK(a:z)(b:t):z/\t:=⟨a,b⟩
theorem bO(a:z)(b:t)(c:A):z/\t/\A:=⟨a,pK b c⟩
theorem dS(a:z)(b:t)(c:A)(d:bz):z/\t/\A/\bz:=⟨a,bO b c d⟩
theorem cV(a:z)(b:t)(c:A)(d:bz)(e:aA):z/\t/\A/\bz/\aA:=⟨a,dS b c d e⟩
theorem yd(a:z)(b:t)(c:A)(d:bz)(e:aA)(ca:cC):z/\t/\A/\bz/\aA/\cC:=⟨a,cV b c d e ca⟩
theorem n2(a:z)(b:t)(c:A)(d:bz)(e:aA)(ca:cC)(f:aC):z/\t/\A/\bz/\aA/\cC/\aC:=⟨a,yd b c d e ca f⟩
theorem mI(a:z)(b:t)(c:A)(d:bz)(e:aA)(ca:cC)(f:aC)(hK:dL):z/\t/\A/\bz/\aA/\cC/\aC/\dL:=⟨a,n2 b c d e ca f hK⟩
theorem ye(a:z)(b:t)(c:A)(d:bz)(e:aA)(ca:cC)(f:aC)(hK:dL)(G:fQ):z/\t/\A/\bz/\aA/\cC/\aC/\dL/\fQ:=⟨a,mI b c d e ca f hK G⟩
end
section
variable{z t A bz aA cC aC:dp->Prop}
theorem bo(f:∃c,z c)(an:∀c,z c->ap):ap:=f.elim an
theorem bp(f:∃c,z c/\t c)(an:∀c,z c->t c->ap):ap:=bo f λc t=>t.elim (an c)
theorem g4(f:∃c,z c/\t c/\A c)(an:∀c,z c->t c->A c->ap):ap:=bo f λc t=>ek t (an c)
theorem t4(f:∃c,z c/\t c/\A c/\bz c/\aA c)(an:∀c,z c->t c->A c->bz c->aA c->ap):ap:=bo f λc t=>dM t (an c)
theorem n3(f:∃c,z c/\t c/\A c/\bz c/\aA c/\cC c)(an:∀c,z c->t c->A c->bz c->aA c->cC c->ap):ap:=bo f λc t=>pJ t (an c)
theorem yf(f:∃c,z c/\t c/\A c/\bz c/\aA c/\cC c/\aC c)(an:∀c,z c->t c->A c->bz c->aA c->cC c->aC c->ap):ap:=bo f λc t=>t3 t (an c)
theorem n4(c:dp)(a:z c):∃c,z c:=⟨c,a⟩
theorem bF(c:dp)(a:z c)(b:t c):∃c,z c/\t c:=⟨c,pK a b⟩
theorem du(c:dp)(a:z c)(b:t c)(d:A c):∃c,z c/\t c/\A c:=⟨c,bO a b d⟩
theorem yg(c:dp)(a:z c)(b:t c)(d:A c)(e:bz c)(f:aA c):∃c,z c/\t c/\A c/\bz c/\aA c:=⟨c,cV a b d e f⟩
end
section
variable{z t A bz aA cC:dp->dI->Prop}
theorem eJ(f:∃c b,z c b)(an:∀c b,z c b->ap):ap:=f.elim λc a=>bo a (an c)
theorem db(f:∃c b,z c b/\t c b)(an:∀c b,z c b->t c b->ap):ap:=eJ f λc b t=>t.elim (an c b)
theorem kb(f:∃c b,z c b/\t c b/\A c b)(an:∀c b,z c b->t c b->A c b->ap):ap:=eJ f λc b t=>ek t (an c b)
theorem n5(f:∃c b,z c b/\t c b/\A c b/\bz c b)(an:∀c b,z c b->t c b->A c b->bz c b->ap):ap:=eJ f λc b t=>kS t (an c b)
theorem t5(f:∃c b,z c b/\t c b/\A c b/\bz c b/\aA c b)(an:∀c b,z c b->t c b->A c b->bz c b->aA c b->ap):ap:=eJ f λc b t=>dM t (an c b)
theorem yh(f:∃c b,z c b/\t c b/\A c b/\bz c b/\aA c b/\cC c b)(an:∀c b,z c b->t c b->A c b->bz c b->aA c b->cC c b->ap):ap:=eJ f λc b t=>pJ t (an c b)
theorem h4(c:dp)(b:dI)(a:z c b):∃c b,z c b:=⟨c,n4 b a⟩
theorem eU(c:dp)(b:dI)(a:z c b)(d:t c b):∃c b,z c b/\t c b:=⟨c,n4 b (pK a d)⟩
theorem el(c:dp)(b:dI)(a:z c b)(d:t c b)(e:A c b):∃c b,z c b/\t c b/\A c b:=⟨c,n4 b (bO a d e)⟩
theorem pL(c:dp)(b:dI)(a:z c b)(d:t c b)(e:A c b)(f:bz c b):∃c b,z c b/\t c b/\A c b/\bz c b:=⟨c,n4 b (dS a d e f)⟩
theorem rs(c:dp)(b:dI)(a:z c b)(d:t c b)(e:A c b)(f:bz c b)(g:aA c b):∃c b,z c b/\t c b/\A c b/\bz c b/\aA c b:=⟨c,n4 b (cV a d e f g)⟩
theorem n6(c:dp)(b:dI)(a:z c b)(d:t c b)(e:A c b)(f:bz c b)(g:aA c b)(ca:cC c b):∃c b,z c b/\t c b/\A c b/\bz c b/\aA c b/\cC c b:=⟨c,n4 b (yd a d e f g ca)⟩
end
section
variable{z t A bz aA cC aC dL fQ mG pI:dp->dI->ev->Prop}
theorem iF(f:∃c b e,z c b e)(an:∀c b e,z c b e->ap):ap:=f.elim λc a=>eJ a (an c)
theorem f4(f:∃c b e,z c b e/\t c b e)(an:∀c b e,z c b e->t c b e->ap):ap:=iF f λc b e t=>t.elim (an c b e)
theorem kc(f:∃c b e,z c b e/\t c b e/\A c b e)(an:∀c b e,z c b e->t c b e->A c b e->ap):ap:=iF f λc b e t=>ek t (an c b e)
theorem kT(f:∃c b e,z c b e/\t c b e/\A c b e/\bz c b e)(an:∀c b e,z c b e->t c b e->A c b e->bz c b e->ap):ap:=iF f λc b e t=>kS t (an c b e)
theorem t6(f:∃c b e,z c b e/\t c b e/\A c b e/\bz c b e/\aA c b e)(an:∀c b e,z c b e->t c b e->A c b e->bz c b e->aA c b e->ap):ap:=iF f λc b e t=>dM t (an c b e)
theorem t7(f:∃c b e,z c b e/\t c b e/\A c b e/\bz c b e/\aA c b e/\cC c b e/\aC c b e/\dL c b e/\fQ c b e/\mG c b e/\pI c b e)(an:∀c b e,z c b e->t c b e->A c b e->bz c b e->aA c b e->cC c b e->aC c b e->dL c b e->fQ c b e->mG c b e->pI c b e->ap):ap:=iF f λc b e t=>HG t (an c b e)
theorem mJ(c:dp)(b:dI)(e:ev)(a:z c b e):∃c b e,z c b e:=⟨c,h4 b e a⟩
theorem hh(c:dp)(b:dI)(e:ev)(a:z c b e)(d:t c b e):∃c b e,z c b e/\t c b e:=⟨c,h4 b e (pK a d)⟩
theorem iZ(c:dp)(b:dI)(e:ev)(a:z c b e)(d:t c b e)(f:A c b e):∃c b e,z c b e/\t c b e/\A c b e:=⟨c,h4 b e (bO a d f)⟩
theorem h5(c:dp)(b:dI)(e:ev)(a:z c b e)(d:t c b e)(f:A c b e)(g:bz c b e):∃c b e,z c b e/\t c b e/\A c b e/\bz c b e:=⟨c,h4 b e (dS a d f g)⟩
theorem n7(c:dp)(b:dI)(e:ev)(a:z c b e)(d:t c b e)(f:A c b e)(g:bz c b e)(h:aA c b e):∃c b e,z c b e/\t c b e/\A c b e/\bz c b e/\aA c b e:=⟨c,h4 b e (cV a d f g h)⟩
end
section
variable{z t A bz aA cC aC dL:dp->dI->ev->fl->Prop}
theorem lK(f:∃c b e q,z c b e q)(an:∀c b e q,z c b e q->ap):ap:=f.elim λc a=>iF a (an c)
theorem h6(f:∃c b e q,z c b e q/\t c b e q)(an:∀c b e q,z c b e q->t c b e q->ap):ap:=lK f λc b e q t=>t.elim (an c b e q)
theorem gk(f:∃c b e q,z c b e q/\t c b e q/\A c b e q)(an:∀c b e q,z c b e q->t c b e q->A c b e q->ap):ap:=lK f λc b e q t=>ek t (an c b e q)
theorem yi(f:∃c b e q,z c b e q/\t c b e q/\A c b e q/\bz c b e q)(an:∀c b e q,z c b e q->t c b e q->A c b e q->bz c b e q->ap):ap:=lK f λc b e q t=>kS t (an c b e q)
theorem HH(f:∃c b e q,z c b e q/\t c b e q/\A c b e q/\bz c b e q/\aA c b e q)(an:∀c b e q,z c b e q->t c b e q->A c b e q->bz c b e q->aA c b e q->ap):ap:=lK f λc b e q t=>dM t (an c b e q)
theorem yj(f:∃c b e q,z c b e q/\t c b e q/\A c b e q/\bz c b e q/\aA c b e q/\cC c b e q)(an:∀c b e q,z c b e q->t c b e q->A c b e q->bz c b e q->aA c b e q->cC c b e q->ap):ap:=lK f λc b e q t=>pJ t (an c b e q)
theorem kU(f:∃c b e q,z c b e q/\t c b e q/\A c b e q/\bz c b e q/\aA c b e q/\cC c b e q/\aC c b e q)(an:∀c b e q,z c b e q->t c b e q->A c b e q->bz c b e q->aA c b e q->cC c b e q->aC c b e q->ap):ap:=lK f λc b e q t=>t3 t (an c b e q)
theorem pM(f:∃c b e q,z c b e q/\t c b e q/\A c b e q/\bz c b e q/\aA c b e q/\cC c b e q/\aC c b e q/\dL c b e q)(an:∀c b e q,z c b e q->t c b e q->A c b e q->bz c b e q->aA c b e q->cC c b e q->aC c b e q->dL c b e q->ap):ap:=lK f λc b e q t=>mH t (an c b e q)
theorem yk(c:dp)(b:dI)(e:ev)(q:fl)(a:z c b e q):∃c b e q,z c b e q:=⟨c,mJ b e q a⟩
theorem jA(c:dp)(b:dI)(e:ev)(q:fl)(a:z c b e q)(d:t c b e q):∃c b e q,z c b e q/\t c b e q:=⟨c,mJ b e q (pK a d)⟩
theorem fR(c:dp)(b:dI)(e:ev)(q:fl)(a:z c b e q)(d:t c b e q)(f:A c b e q):∃c b e q,z c b e q/\t c b e q/\A c b e q:=⟨c,mJ b e q (bO a d f)⟩
theorem pN(c:dp)(b:dI)(e:ev)(q:fl)(a:z c b e q)(d:t c b e q)(f:A c b e q)(g:bz c b e q):∃c b e q,z c b e q/\t c b e q/\A c b e q/\bz c b e q:=⟨c,mJ b e q (dS a d f g)⟩
end
section
variable{z t A bz aA cC aC dL fQ:dp->dI->ev->fl->gj->Prop}
theorem t8(f:∃c b e q o,z c b e q o)(an:∀c b e q o,z c b e q o->ap):ap:=f.elim λc a=>lK a (an c)
theorem yl(f:∃c b e q o,z c b e q o/\t c b e q o/\A c b e q o)(an:∀c b e q o,z c b e q o->t c b e q o->A c b e q o->ap):ap:=t8 f λc b e q o t=>ek t (an c b e q o)
theorem rt(c:dp)(b:dI)(e:ev)(q:fl)(o:gj)(a:z c b e q o):∃c b e q o,z c b e q o:=⟨c,yk b e q o a⟩
theorem ym(c:dp)(b:dI)(e:ev)(q:fl)(o:gj)(a:z c b e q o)(d:t c b e q o)(f:A c b e q o)(g:bz c b e q o)(h:aA c b e q o)(ca:cC c b e q o)(i:aC c b e q o)(hK:dL c b e q o)(G:fQ c b e q o):∃c b e q o,z c b e q o/\t c b e q o/\A c b e q o/\bz c b e q o/\aA c b e q o/\cC c b e q o/\aC c b e q o/\dL c b e q o/\fQ c b e q o:=⟨c,yk b e q o (ye a d f g h ca i hK G)⟩
end
section
variable{z t A bz aA cC aC dL:dp->dI->ev->fl->gj->hg->Prop}
theorem ru(f:∃c b e q o C,z c b e q o C)(an:∀c b e q o C,z c b e q o C->ap):ap:=f.elim λc a=>t8 a (an c)
theorem yn(f:∃c b e q o C,z c b e q o C/\t c b e q o C/\A c b e q o C/\bz c b e q o C)(an:∀c b e q o C,z c b e q o C->t c b e q o C->A c b e q o C->bz c b e q o C->ap):ap:=ru f λc b e q o C t=>kS t (an c b e q o C)
theorem rv(f:∃c b e q o C,z c b e q o C/\t c b e q o C/\A c b e q o C/\bz c b e q o C/\aA c b e q o C)(an:∀c b e q o C,z c b e q o C->t c b e q o C->A c b e q o C->bz c b e q o C->aA c b e q o C->ap):ap:=ru f λc b e q o C t=>dM t (an c b e q o C)
theorem t9(f:∃c b e q o C,z c b e q o C/\t c b e q o C/\A c b e q o C/\bz c b e q o C/\aA c b e q o C/\cC c b e q o C/\aC c b e q o C/\dL c b e q o C)(an:∀c b e q o C,z c b e q o C->t c b e q o C->A c b e q o C->bz c b e q o C->aA c b e q o C->cC c b e q o C->aC c b e q o C->dL c b e q o C->ap):ap:=ru f λc b e q o C t=>mH t (an c b e q o C)
theorem yo(c:dp)(b:dI)(e:ev)(q:fl)(o:gj)(C:hg)(a:z c b e q o C):∃c b e q o C,z c b e q o C:=⟨c,rt b e q o C a⟩
theorem pO(c:dp)(b:dI)(e:ev)(q:fl)(o:gj)(C:hg)(a:z c b e q o C)(d:t c b e q o C)(f:A c b e q o C)(g:bz c b e q o C):∃c b e q o C,z c b e q o C/\t c b e q o C/\A c b e q o C/\bz c b e q o C:=⟨c,rt b e q o C (dS a d f g)⟩
theorem ua(c:dp)(b:dI)(e:ev)(q:fl)(o:gj)(C:hg)(a:z c b e q o C)(d:t c b e q o C)(f:A c b e q o C)(g:bz c b e q o C)(h:aA c b e q o C):∃c b e q o C,z c b e q o C/\t c b e q o C/\A c b e q o C/\bz c b e q o C/\aA c b e q o C:=⟨c,rt b e q o C (cV a d f g h)⟩
theorem yp(c:dp)(b:dI)(e:ev)(q:fl)(o:gj)(C:hg)(a:z c b e q o C)(d:t c b e q o C)(f:A c b e q o C)(g:bz c b e q o C)(h:aA c b e q o C)(ca:cC c b e q o C)(i:aC c b e q o C)(hK:dL c b e q o C):∃c b e q o C,z c b e q o C/\t c b e q o C/\A c b e q o C/\bz c b e q o C/\aA c b e q o C/\cC c b e q o C/\aC c b e q o C/\dL c b e q o C:=⟨c,rt b e q o C (mI a d f g h ca i hK)⟩
end
section
variable{z t A bz aA:dp->dI->ev->fl->gj->hg->jz->Prop}
theorem ub(f:∃c b e q o C g,z c b e q o C g)(an:∀c b e q o C g,z c b e q o C g->ap):ap:=f.elim λc a=>ru a (an c)
theorem uc(f:∃c b e q o C g,z c b e q o C g/\t c b e q o C g/\A c b e q o C g)(an:∀c b e q o C g,z c b e q o C g->t c b e q o C g->A c b e q o C g->ap):ap:=ub f λc b e q o C g t=>ek t (an c b e q o C g)
theorem yq(f:∃c b e q o C g,z c b e q o C g/\t c b e q o C g/\A c b e q o C g/\bz c b e q o C g/\aA c b e q o C g)(an:∀c b e q o C g,z c b e q o C g->t c b e q o C g->A c b e q o C g->bz c b e q o C g->aA c b e q o C g->ap):ap:=ub f λc b e q o C g t=>dM t (an c b e q o C g)
theorem ud(c:dp)(b:dI)(e:ev)(q:fl)(o:gj)(C:hg)(g:jz)(a:z c b e q o C g):∃c b e q o C g,z c b e q o C g:=⟨c,yo b e q o C g a⟩
theorem yr(c:dp)(b:dI)(e:ev)(q:fl)(o:gj)(C:hg)(g:jz)(a:z c b e q o C g)(d:t c b e q o C g)(f:A c b e q o C g)(h:bz c b e q o C g)(i:aA c b e q o C g):∃c b e q o C g,z c b e q o C g/\t c b e q o C g/\A c b e q o C g/\bz c b e q o C g/\aA c b e q o C g:=⟨c,yo b e q o C g (cV a d f h i)⟩
end
section
variable{z t A bz aA cC aC dL:dp->dI->ev->fl->gj->hg->jz->lJ->Prop}
theorem ue(f:∃c b e q o C g f,z c b e q o C g f)(an:∀c b e q o C g f,z c b e q o C g f->ap):ap:=f.elim λc a=>ub a (an c)
theorem ys(f:∃c b e q o C g f,z c b e q o C g f/\t c b e q o C g f/\A c b e q o C g f/\bz c b e q o C g f/\aA c b e q o C g f)(an:∀c b e q o C g f,z c b e q o C g f->t c b e q o C g f->A c b e q o C g f->bz c b e q o C g f->aA c b e q o C g f->ap):ap:=ue f λc b e q o C g f t=>dM t (an c b e q o C g f)
theorem HI(f:∃c b e q o C g f,z c b e q o C g f/\t c b e q o C g f/\A c b e q o C g f/\bz c b e q o C g f/\aA c b e q o C g f/\cC c b e q o C g f/\aC c b e q o C g f/\dL c b e q o C g f)(an:∀c b e q o C g f,z c b e q o C g f->t c b e q o C g f->A c b e q o C g f->bz c b e q o C g f->aA c b e q o C g f->cC c b e q o C g f->aC c b e q o C g f->dL c b e q o C g f->ap):ap:=ue f λc b e q o C g f t=>mH t (an c b e q o C g f)
theorem HJ(c:dp)(b:dI)(e:ev)(q:fl)(o:gj)(C:hg)(g:jz)(f:lJ)(a:z c b e q o C g f):∃c b e q o C g f,z c b e q o C g f:=⟨c,ud b e q o C g f a⟩
theorem rx(c:dp)(b:dI)(e:ev)(q:fl)(o:gj)(C:hg)(g:jz)(f:lJ)(a:z c b e q o C g f)(d:t c b e q o C g f)(h:A c b e q o C g f)(i:bz c b e q o C g f)(j:aA c b e q o C g f):∃c b e q o C g f,z c b e q o C g f/\t c b e q o C g f/\A c b e q o C g f/\bz c b e q o C g f/\aA c b e q o C g f:=⟨c,ud b e q o C g f (cV a d h i j)⟩
theorem yt(c:dp)(b:dI)(e:ev)(q:fl)(o:gj)(C:hg)(g:jz)(f:lJ)(a:z c b e q o C g f)(d:t c b e q o C g f)(h:A c b e q o C g f)(i:bz c b e q o C g f)(j:aA c b e q o C g f)(ca:cC c b e q o C g f)(k:aC c b e q o C g f)(hK:dL c b e q o C g f):∃c b e q o C g f,z c b e q o C g f/\t c b e q o C g f/\A c b e q o C g f/\bz c b e q o C g f/\aA c b e q o C g f/\cC c b e q o C g f/\aC c b e q o C g f/\dL c b e q o C g f:=⟨c,ud b e q o C g f (mI a d h i j ca k hK)⟩
end
section
variable{z t:dp->dI->ev->fl->gj->hg->jz->lJ->rr->Prop}
theorem yu(f:∃c b e q o C g f m,z c b e q o C g f m)(an:∀c b e q o C g f m,z c b e q o C g f m->ap):ap:=f.elim λc a=>ue a (an c)
theorem HK(f:∃c b e q o C g f m,z c b e q o C g f m/\t c b e q o C g f m)(an:∀c b e q o C g f m,z c b e q o C g f m->t c b e q o C g f m->ap):ap:=yu f λc b e q o C g f m t=>t.elim (an c b e q o C g f m)
theorem HL(c:dp)(b:dI)(e:ev)(q:fl)(o:gj)(C:hg)(g:jz)(f:lJ)(m:rr)(a:z c b e q o C g f m):∃c b e q o C g f m,z c b e q o C g f m:=⟨c,HJ b e q o C g f m a⟩
end
section
variable{z t A bz aA cC aC dL fQ:dp->dI->ev->fl->gj->hg->jz->lJ->rr->ya->Prop}
theorem HM(f:∃c b e q o C g f m a0,z c b e q o C g f m a0)(an:∀c b e q o C g f m a0,z c b e q o C g f m a0->ap):ap:=f.elim λc a=>yu a (an c)
theorem yv(f:∃c b e q o C g f m a0,z c b e q o C g f m a0/\t c b e q o C g f m a0/\A c b e q o C g f m a0/\bz c b e q o C g f m a0/\aA c b e q o C g f m a0/\cC c b e q o C g f m a0/\aC c b e q o C g f m a0/\dL c b e q o C g f m a0/\fQ c b e q o C g f m a0)(an:∀c b e q o C g f m a0,z c b e q o C g f m a0->t c b e q o C g f m a0->A c b e q o C g f m a0->bz c b e q o C g f m a0->aA c b e q o C g f m a0->cC c b e q o C g f m a0->aC c b e q o C g f m a0->dL c b e q o C g f m a0->fQ c b e q o C g f m a0->ap):ap:=HM f λc b e q o C g f m a0 t=>yb t (an c b e q o C g f m a0)
theorem yw(c:dp)(b:dI)(e:ev)(q:fl)(o:gj)(C:hg)(g:jz)(f:lJ)(m:rr)(a0:ya)(a:z c b e q o C g f m a0)(d:t c b e q o C g f m a0)(h:A c b e q o C g f m a0)(i:bz c b e q o C g f m a0)(j:aA c b e q o C g f m a0)(ca:cC c b e q o C g f m a0)(k:aC c b e q o C g f m a0)(hK:dL c b e q o C g f m a0)(G:fQ c b e q o C g f m a0):∃c b e q o C g f m a0,z c b e q o C g f m a0/\t c b e q o C g f m a0/\A c b e q o C g f m a0/\bz c b e q o C g f m a0/\aA c b e q o C g f m a0/\cC c b e q o C g f m a0/\aC c b e q o C g f m a0/\dL c b e q o C g f m a0/\fQ c b e q o C g f m a0:=⟨c,HL b e q o C g f m a0 (ye a d h i j ca k hK G)⟩
end
end
theorem aJ{α:Type S}{P:α->Prop}{c:α}{G:List α}(f:P c)(u:∀i∈G,P i):∀i∈c::G,P i:=List.forall_mem_cons.mpr ⟨f,u⟩
def b0:=Zzb #[Zzr]
theorem aG.{S}{α:Type S}{c:α}{G:List α}:c∈c::G:=.head _
theorem d.{S}{α:Sort S}{c:α}:c=c:=rfl
theorem HN{α:Type S}{P:α->Prop}{c:α}(f:P c):∀i∈[c],P i:=aJ f nofun
theorem yx{α:Type S}{P:α->Prop}{c b:α}(f:P c)(m:P b):∀i∈[c,b],P i:=aJ f (HN m)
theorem yy{α:Type S}{P:α->Prop}{c b e:α}(f:P c)(m:P b)(a0:P e):∀i∈[c,b,e],P i:=aJ f (yx m a0)
theorem yz{α:Type S}{P:α->Prop}{c b e q:α}(f:P c)(m:P b)(a0:P e)(l:P q):∀i∈[c,b,e,q],P i:=aJ f (yy m a0 l)
theorem yA{α:Type S}{P:α->Prop}{c b e q o:α}(f:P c)(m:P b)(a0:P e)(l:P q)(G:P o):∀i∈[c,b,e,q,o],P i:=aJ f (yz m a0 l G)
theorem HO{α:Type S}{P:α->Prop}{c b e q o C:α}(f:P c)(m:P b)(a0:P e)(l:P q)(G:P o)(R:P C):∀i∈[c,b,e,q,o,C],P i:=aJ f (yA m a0 l G R)
@[elab_as_elim] theorem ed{α:Type S}{c b:α}{motive:α->Prop}{i:α}(t:i∈[c,b])(h0:motive c)(a:motive b):motive i:=yx h0 a i t
@[elab_as_elim] theorem iG{α:Type S}{c b e:α}{motive:α->Prop}{i:α}(t:i∈[c,b,e])(h0:motive c)(a:motive b)(d:motive e):motive i:=yy h0 a d i t
@[elab_as_elim] theorem HP{α:Type S}{c b e q:α}{motive:α->Prop}{i:α}(t:i∈[c,b,e,q])(h0:motive c)(a:motive b)(d:motive e)(f:motive q):motive i:=yz h0 a d f i t
@[elab_as_elim] theorem ry{α:Type S}{c b e q o:α}{motive:α->Prop}{i:α}(t:i∈[c,b,e,q,o])(h0:motive c)(a:motive b)(d:motive e)(f:motive q)(g:motive o):motive i:=yA h0 a d f g i t
@[elab_as_elim] theorem HQ{α:Type S}{c b e q o C:α}{motive:α->Prop}{i:α}(t:i∈[c,b,e,q,o,C])(h0:motive c)(a:motive b)(d:motive e)(f:motive q)(g:motive o)(h:motive C):motive i:=HO h0 a d f g h i t
@[elab_as_elim] theorem j{α:Sort S}{c b:α}{motive:α->Prop}(f:c=b)(i:motive b):motive c:=f▸i
@[elab_as_elim] theorem be{α:Sort S}{c b:α}{motive:α->Prop}(f:b=c)(i:motive b):motive c:=f▸i
theorem cz{α:Type S}{c:α}{ap:Prop}(f:none=some c):ap:=nomatch f
theorem iH{α:Type S}{c:α}{ap:Prop}(f:some c=none):ap:=nomatch f
theorem cD{c b:Nat}(f:tp c b=true):c<=b:=b6 f
theorem bI{c b e:Nat}(f:c<=b)(l:tp b e=true):c<=e:=bZ f (cD l)
theorem fh{c b e:Nat}(f:c<b)(l:tp b e=true):c<e:=cQ f (cD l)
theorem jB{c b v:Nat}(f:c<v)(l:b<16):c*16+b<v*16:=cQ (o9 l _) (by rw[<-qU];exact ln 16 f)
theorem HR{c b e:Nat}(f:c-b=e+1):c-(b+1)=e:=by rw[<-w7,f];rfl
theorem pP{c b e:Nat}(f:c-b=e+1):c=b+(e+1):=f▸(tq (hD (pa f))).symm
theorem lL{b:Nat}(f:b<=16):b-1<16:=tr (w8 f 1:b-1<=15)
theorem HS{c b e q o:Nat}:c<16->b<=16->e<=16->q<16->o<=16->(((c*16+(b-1))*16+(e-1))*16+q)*16+(o-1)<1024^2:=λa d f g h=>jB (jB (jB (jB a (lL d)) (lL f)) g) (lL h)
theorem HT{c b:Nat}:c<=b->¬b-1<c-1:=λa=>Nat.not_lt.mpr (w8 a 1)
theorem rz{c b e:Nat}:c-b=e+1->c-(b+1)=e:=HR
theorem HU{c b e:Nat}:c-b=e+1->c-(e+1-1)=b+1:=λa=>by rw[pP a];exact FW (by show _=b+1+e;rw[pb];rfl)
theorem HV{c b e:Nat}:c-(b+1-1)=e+1->c-(e+1)=b:=λa=>by rw[pP a];exact w9 ..
theorem HW{c b:Nat}:c<=b->c-2+(b-(c-2))=b:=λa=>tq (bZ (iU ..) a)
theorem HX{c b:Nat}:c-b=c-(b+1)+1->c-1-(c-(b+1))=b:=λa=>by have d:=pP a;generalize c-(b+1)=e at*;subst d;exact w9 ..
theorem yB{c b:Nat}:c-b=c-(b+1)+1->c-(c-(b+1))=b+1:=λa=>by have d:=pP a;generalize c-(b+1)=e at*;subst d;exact FW (by rw[pb];rfl)
theorem HY{c:Nat}:(c-4)%4=3->c%4=3:=λa=>by
 rcases gB c 4 with b|b
 ·rw[Z3 (hD b)] at a;cases a
 ·rw[<-mg b,Z4];exact a
theorem n8(c l:Nat):c/l*l+c%l=c:=by rw[ts];exact mh c l
theorem uf(i:Nat):(i/64*4+i/16%4)*16+i%16=i:=by rw[show i/64=i/16/4 from(tt i 16 4).symm,n8,n8]
theorem HZ{c b:Nat}:c/64=b/64->c/16%4=b/16%4->c%16=b%16->c=b:=λa d e=>by rw[<-uf c,<-uf b,a,d,e]
theorem H0{c:Nat}:c/64*2^6+c/16%4*2^4+c%16=c:=.trans (congrArg (·+c%16) (by rw[FX,FY])) (uf c)
theorem H1{c:Nat}:c<2^30->c/2^20%1024*2^20+(c/2^10%1024*2^10+c%1024)=c:=λa=>by rw[mi (pc a:c/2^20<1024),<-mj,show c/2^20=c/2^10/1024 from(tt c 1024 1024).symm,show(2:Nat)^20=1024*1024 from rfl,<-FY,show(2:Nat)^10=1024 from rfl,<-FX,n8,n8]
theorem yC{c b:Nat}(f:b<=3):min c b+(b-(c+1))<=3:=by
 rcases gB c b with a|a
 ·rw[pd (hD a)];exact bZ (bZ (gY (Nat.sub_le_sub_left (gZ c) b) c) (ir (tq (hD a)))) f
 ·rw[Z3 (ml a)];exact bZ (mm ..) f
theorem H2{c b:Nat}:c<=3->min b c+(c-(b+1))<=20:=λa=>bI (yC a) rfl
theorem H3{c b:Nat}:c<=3->min b c+(c-(b+1))<=16777216:=λa=>bI (yC a) rfl
theorem lM{c b l:Nat}(f:c<l):(b*l+c)/l=b/\(b*l+c)%l=c:=by have a:0<l:=Z5 f;exact⟨by rw[hW,Z6 _ _ a,Z7 f,iu],by rw[hW,Nat.add_mul_mod_self_right,mi f]⟩
theorem H4{c b:Nat}:c<16->(b*16+c)/16=b/\(b*16+c)%16=c:=lM
theorem H5{c b:Nat}:c<2^8->(b*256+c)/256=b:=λa=>(lM a).1
theorem H6{c b:Nat}:(c*256+b)/256=c->(c*256+b)%256=b:=λa=>by have:=n8 (c*256+b) 256;rw[a] at this;exact xa this
theorem rA(c b e:Nat):e*32+b*16+c=(e*2+b)*16+c:=by rw[FX,FY]
theorem H7{c b e:Nat}:c<16->b<2->(e*32+b*16+c)/2^4%2=b:=λa d=>by rw[rA];exact(congrArg (·%2) (lM a).1).trans (lM d).2
theorem H8{c b e:Nat}:c<16->b<2->(e*32+b*16+c)/2^5=e:=λa d=>by rw[rA,show(2:Nat)^5=16*2 from rfl,<-tt,(lM a).1];exact(lM d).1
theorem H9{c b e:Nat}:c<16->(b*32+e*16+c)%16=c:=λa=>by rw[rA];exact(lM a).2
theorem Ia{c b e:Nat}:c<2^15->b<16->e<2->c*32+e*16+b<1024^2:=λa d f=>by rw[rA];exact jB (v:=65536) (cQ (o9 f _) (by rw[<-qU];exact ln 2 a)) d
theorem Ib{c b e:Nat}:c<b->e<2^8->c*256+e<b*256:=λa d=>cQ (o9 d _) (by rw[<-qU];exact ln 256 a)
theorem Ic{c b:Nat}:c<16->1<=b/\b<=16->c*2^4+(b-1)<2^64:=λa d=>fh (jB a (lL d.2)) rfl
theorem Ie{c b e:Nat}:c<16->1<=b/\b<=16->1<=e/\e<=16->(c*2^4+(b-1))*2^4+(e-1)<2^64:=λa d f=>fh (jB (jB a (lL d.2)) (lL f.2)) rfl
theorem Ig{c b e q:Nat}:c<16->1<=b/\b<=16->1<=e/\e<=16->q<16->((c*2^4+(b-1))*2^4+(e-1))*2^4+q<2^64:=λa d f g=>fh (jB (jB (jB a (lL d.2)) (lL f.2)) g) rfl
theorem Ih{c e:Nat}(f:c<=26):10*c-e<=260:=bZ (iU ..) (pe 10 f)
theorem Ii{c:Nat}:c<=26->(↑(10*c-10*c%16):Int)<2^40:=λa=>Int.ofNat_lt.mpr (cF (Ih a) (cD rfl))
theorem pQ{c b:Nat}(f:c<=b):(↑b:Int)-(↑c:Int)=(↑(b-c):Int):=(FZ f).symm
theorem Ij{c b:Nat}:c<=b->(↑b:Int)-(↑(c-2):Int)=(↑(b-(c-2)):Int):=λa=>pQ (bZ (iU ..) a)
theorem Ik{c b:Nat}:c<=b->(↑b:Int)-(↑(b-c):Int)=(↑c:Int):=λa=>(pQ (iU ..)).trans (congrArg _ (Z8 a))
theorem ug{c:Nat}(f:c%2=0):c/2+c/2=c:=by have:=n8 c 2;rw[f,Nat.mul_two] at this;exact this
theorem Il{c:Nat}:c%2=0->c/2+c/2=c:=ug
theorem Im{c:Nat}:c%2=0->min (c/2) c=c/2/\c-c/2=c/2:=λa=>⟨pd (pf ..),FW (ug a).symm⟩
theorem uh{c b:Nat}:c<b->(↑b:Int)-1+(↑c:Int)*-1=(↑(b-1-c):Int):=λa=>by rw[<-pQ (Nat.le_sub_one_of_lt a),<-pQ (Z5 a),Int.mul_neg,Int.mul_one];rfl
theorem Io{c:Nat}:c<3->(↑3:Int)-1+(↑c:Int)*-1=(↑(2-c):Int):=λa=>uh (b:=3) a
theorem Ip{c:Nat}:0<c->(0<=-1+(↑c:Int)/\-1+(↑c:Int)<(↑c:Int))/\(-1+(↑c:Int)).toNat=c-1:=λa=>by rw[Int.add_comm,show(↑c:Int)+-1=↑(c-1) from pQ a];exact⟨⟨qV _,Int.ofNat_lt.mpr (Nat.sub_one_lt_of_lt a)⟩,rfl⟩
theorem Iq{c b e q:Nat}:c<=b->b<=16->e<900->q<c-2->e+q<1000:=λa d f g=>fh (Nat.add_lt_add f (cQ g (bZ (iU ..) (bZ a d)))) rfl
theorem Ir{c b e:Nat}:c<=b->b<=16->e<900->e+(c-2)<1000:=λa d f=>fh (Z9 f (bZ (iU ..) (bZ a d))) rfl
theorem It{c b:Int}:-1<=c/\c<=3->-1<=b/\b<=15->-1<=c/\c<=3/\-2<=c+b/\c+b<=18:=λa d=>⟨a.1,a.2,F0 a.1 d.1,F0 a.2 d.2⟩
theorem pR{c b:Nat}:c+1<=b->b-c=b-(c+1)+1:=λa=>by rw[<-w7,mg (F4 (hW c 1▸a))]
theorem Iu{c:Nat}:2-c<2^64:=cF (iU ..) (cD rfl)
theorem Iv{c b:Nat}:c<=100->b=c-4->b+c<=1000:=λa d=>bI (qW (d▸bZ (iU ..) a) a) rfl
theorem Iw{c b:Nat}:c<=100->b=c->b-4+c<=1000:=λa d=>bI (qW (d▸bZ (iU ..) a) a) rfl
theorem Ix{c b:Nat}:c<=100->b=c-4->4+b<=16777216:=λa d=>bI (gY (d▸bZ (iU ..) a) 4) rfl
theorem a5{c b:Nat}(z:c<=b)(t:b<=16)(l):c-l<=16:=bZ (iU ..) (bZ z t)
theorem Iy{c b:Nat}:c<=b->b<=16->(c-2).succ<=16777216:=λa d=>bI (iv (a5 a d 2)) rfl
theorem Iz{c b e:Nat}:c<=b->b<=16->e=c-2->e<=16777214:=λa d f=>bI (f▸a5 a d 2) rfl
theorem IA{c b:Nat}:c<=b->b<=16->(↑(c-2):Int)<2^62:=λa d=>Int.ofNat_lt.mpr (cF (a5 a d 2) (cD rfl))
theorem rB{c b e q:Nat}(z:c<=q)(f:b<c-e):e+b<q:=cQ (Nat.add_lt_of_lt_sub' f) z
theorem IB{c b e:Nat}:c<=16->b<c-(e-2)->e-2+b<254:=λa d=>fh (rB a d) rfl
theorem IC{c b e q:Nat}:c<=16->b<c-(e-2)->q=e-2+b->q<16777216:=λa d f=>f▸fh (rB a d) rfl
theorem ID{c b e:Nat}:c<=16->b<c-(e-2)->e-2<=20:=λa d=>bI (hD (cF (mn _ b) (rB a d))) rfl
theorem IE{c b e q:Nat}:c<=100->b-e<c-(q-2)->q-2<=200:=λa d=>bI (hD (cF (mn _ (b-e)) (rB a d))) rfl
theorem IF{c:Nat}:c<=100->c-4<=1000:=λa=>bI (bZ (iU ..) a) rfl
theorem IG{c:Nat}:c<=20->c-2<=20:=bZ (iU ..)
theorem IH{c:Nat}:¬c<3->¬c=3->c-3=c-4+1:=λa b=>pR (c:=3) (Nat.lt_of_le_of_ne (Nat.not_lt.mp a) (fk b))
theorem II{c b:Nat}:c<=b->c=min c (b-(b-c)):=λa=>by rw[Z8 a,lp]
theorem IJ{c b e:Nat}:c+2*0=b+e->c=b+e:=id
theorem yD{c:Nat}:4<=c->4+(c-4)=c:=tq
theorem IK{c:Nat}:max 0 (min 0 (↑c:Int))=0:=by rw[Int.min_eq_left (qV _)];rfl
theorem IL{c b:Nat}:c+(4*b+1)-c=4*b+1:=tu ..
theorem IM{c:Nat}:4*c+3-4*c=3:=tu ..
theorem IN{c:Nat}:c+1-c=1:=tu ..
theorem pS{c b:Nat}:c<b->b-(c+1)<b-c:=Nat.sub_succ_lt_self b c
theorem IP{c b e:Nat}:c=b-2->¬e<c->b-2+(e-c)=e:=λa d=>a▸tq (Nat.not_lt.mp d)
theorem IQ{c:Nat}:c<1024^2->c/1024%1024=c/1024:=λa=>mi (pc a)
theorem IR{c:Nat}:c<1024^2->c/1024<1024:=pc
theorem IS{c:Nat}:c/2^10%1024*2^10+c%1024<2^20:=cQ (o9 (eQ _ (cD rfl)) _) (by rw[show(2:Nat)^10=1024 from rfl,<-qU];exact ln 1024 (eQ _ (cD rfl)))
theorem rC{c b:Int}:c<=b->c.toNat<=b.toNat:=qX
theorem IT{c:Nat}:(↑c:Int)<=126↔c<=126:=Int.ofNat_le
theorem IU{c:Nat}:c%256%2^8=c%256:=Nat.mod_mod ..
theorem IV{c b e:Nat}:c<b+e->c>=b->c-b<e:=λa d=>β d a
theorem ui{c:Nat}:c/16%4<4:=eQ _ (cD rfl)
theorem uj{c:Nat}:c%16<16:=eQ _ (cD rfl)
theorem yE{c:Nat}:c<256->c/2^7<2:=λa=>pc (show c<2^7*2 from a)
theorem uk{c b:Nat}:c-b=0->c-b=0:=id
theorem IW{c:Nat}:c<=3->c<=3:=id
theorem IX{c b:Nat}:c<=b->c<=b:=id
theorem IY{c b:Nat}:c-b=0->c<=b:=tv
theorem IZ{c b:Nat}:¬c<b->c-b=0->c=b:=λa d=>kF (tv d) (Nat.not_lt.mp a)
theorem ul{c b:Nat}:c-b=0->b<=c->b=c:=λa d=>kF d (tv a)
theorem yF{c b e:Nat}:c=b->e>=c->e-c=0->e=b:=λa d f=>a▸kF (tv f) d
theorem I0{c b e:Nat}:c=b->¬e<c->e-c=0->b=e:=λa d f=>a▸kF (Nat.not_lt.mp d) (tv f)
theorem I2{c:Nat}:c<256->c%2^8=c:=mi
theorem I3{c:Nat}:c<256->c=c%2^8:=λa=>(mi a).symm
theorem I4{c:Int}:-2^63<=c->c<2^63->-9223372036854775808<=c/\c<9223372036854775808:=xb
theorem rD{c b e:Nat}:c-b=e+1->b<c:=pa
theorem I5{c b:Nat}:c<=1000->min c b<=16777216:=λa=>bI (bZ (nB ..) a) rfl
theorem I6{c b:Nat}:c<=1000->min b c<=16777216:=λa=>bI (bZ (mm ..) a) rfl
theorem I7{c:Nat}:min 3 c<=1000:=bI (nB ..) rfl
theorem I8{c:Nat}:min 63 c<=64:=bI (nB ..) rfl
theorem I9{c b:Nat}:c=20->min b c<=20:=λa=>a▸mm ..
theorem Ja{c:Nat}:min 8 c=8->8<=c:=λa=>a▸mm ..
theorem Jb{c b:Nat}:min (min c b) b=min c b:=pd (mm ..)
theorem rE{c b:Nat}:c<=b->b-c+c<=b:=λa=>ir (mg a)
theorem Jc{c:Nat}:10*c%16<=8->¬8<10*c%16:=Nat.not_lt.mpr
theorem Jd{c:Int}:¬c>16->c<=16:=Int.not_lt.mp
theorem Je{c:Nat}:¬c=0->c/2<c:=Nat.bitwise_rec_lemma
theorem Jf{c:Nat}:(c+c)/2=c:=by rw[<-Nat.mul_two];exact Nat.mul_div_cancel _ (cD rfl)
theorem Jg{c:Nat}:(16*c+7)/8=2*c:=by rw[show 16*c+7=7+(2*c)*8 by rw[γ,hW],Z6 _ _ (cD rfl)];exact iu _
theorem rF{c b e:Nat}:c<=b->e<c->b-c+e<b:=λa d=>cQ (o9 d _) (ir (mg a))
theorem Jh{c:Int}{b:Nat}:0<=c->c<(↑b:Int)->c.toNat<b:=λa d=>(Int.toNat_lt a).mpr d
theorem Ji{c b e:Nat}:c<=b->e+b<9900->e+c<9900:=λa d=>cF (gY a e) d
theorem Jj{c b e:Nat}:c<=b->e+b<1000->e+c<1000:=λa d=>cF (gY a e) d
theorem Jk{c b:Nat}:c+(b+1)<9900->c+1+b<9900:=λa=>by rw[pb];exact a
theorem Jl{c b:Nat}:c+(b+1)<1000->c+1+b<1000:=λa=>by rw[pb];exact a
theorem Jm{c b:Nat}:c+(b+3)<9900->c+3+b<9900:=λa=>by rw[pb];exact a
theorem um{c b e:Nat}:c+(b+1)=e->c+1+b=e:=λa=>by rw[pb];exact a
theorem Jn{c:Nat}:c<1024->c/64<2^64:=λa=>cF (pf ..) (fh a rfl)
theorem un{c:Nat}:c<256->0<=(↑c:Int)/\(↑c:Int)<256:=λa=>⟨qV _,Int.ofNat_lt.mpr a⟩
theorem uo{c b e:Nat}:c<=1000->b=c/2/\e=c/2->b<=1000:=λa d=>d.1▸bZ (pf ..) a
theorem yG{c b e:Nat}:c<=1000->b=c/2/\e=c/2->e<=1000:=λa d=>d.2▸bZ (pf ..) a
theorem yH{c b e:Nat}:c<=1000->b=c/2/\e=c/2->e+b<=16777216:=λa d=>bI (qW (yG a d) (uo a d)) rfl
theorem Jo{c:Nat}:c<=1048575->c*2^10<2^30:=λa=>cF (ln _ a) (cD rfl)
theorem Jp{c b:Nat}:20<c->b<=20->b<256/\b≠c:=λd a=>⟨cF a (cD rfl),g0 (cF a d)⟩
theorem uq{c:Int}:1<=c->1<=c.toNat:=λa=>qX a
theorem Jq{c b:Int}:c<=b->b<=16->c.toNat<=20:=λa d=>bI (qX (mo a d)) rfl
theorem Jr{c:Nat}:c<=2^24->c<=16777216:=id
theorem Js{c:Int}:0<=c->c=(↑c.toNat:Int):=λa=>(pg a).symm
theorem Jt{c b:Nat}:c<b->¬c/4=b:=λa d=>dn _ (cF (d▸pf ..) a)
theorem Ju{c:Nat}:16<=c->13<=(c*8+9)/10:=λa=>δ (c:=10) (lq (ln 8 a) 9)
theorem ur{c:Nat}:c<2->c=0\/c=1:=λa=>(Nat.le_one_iff_eq_zero_or_eq_one).mp (nC a)
theorem Jv{c:Nat}{b e:Int}:(↑c:Int)=b->e<=b->min e.toNat c=e.toNat:=λa d=>pd (Int.toNat_le.mpr (a▸d))
theorem Jw{c b e:Nat}:c<=3->b<=3->b+min e c<=16777216:=λa d=>bI (qW d (bZ (mm ..) a)) rfl
theorem Jx{c b:Nat}:c<=3->b+(c-2)+1<=b+3:=λa=>gY (iv (bZ (w8 a 2) (cD rfl)):(c-2).succ<=3) b
theorem yI{c:Nat}:c<=26->7+c<1000000:=λa=>cF (gY a 7) (cD rfl)
theorem Jy{c b e q:Nat}:c+1<b->e<c->q<=e->q+1<b:=λa d f=>cF (iv (bZ f (hD d))) a
theorem Jz{c:Nat}:c<90->33+c<256:=λa=>fh (o9 a 33) rfl
theorem yJ{c b:Nat}:c=b->b<=20->c<1000:=λa d=>a▸cF d (cD rfl)
theorem JA{c:Int}:-1<=c/\c<=4->-1<=c:=And.left
theorem h7{c b:Nat}(f:c<b):(↑c:Int)<(↑b:Int):=Int.ofNat_lt.mpr f
theorem mK{c b:Nat}(f:(↑c:Int)<=(↑b:Int)):c<=b:=Int.ofNat_le.mp f
theorem JB{c b e:Nat}:c-b=e+1->c-1-(e+1-1)=b:=λa=>by rw[pP a];exact w9 ..
theorem yK{c b:Nat}:c<b->b-c=b-(c+1)+1:=pR
theorem JC{c b e:Nat}:c=3->b-3=b-4+1->b<c+(e+1)->b-4<e:=λa d f=>by subst a;exact β (pa d) (ε f (by rw[hW e 1,<-mj]))
theorem JD{c b:Nat}:(2*c*8+9)/10=b->16*c<=10*b/\10*b<=16*c+9:=λd=>by have a:=mh (2*c*8+9) 10;have e:=eQ (2*c*8+9) (show 0<10 from cD rfl);rw[d] at a;generalize(2*c*8+9)%10=f at*;rw[γ] at a;exact⟨xc (b:=9) (a▸gY (nC e) _),ζ a⟩
theorem mL{c:Int}{b:Nat}(f:¬(c<1\/b>16)):1<=c/\b<=16:=⟨Int.not_lt.mp λa=>f (.inl a),Nat.not_lt.mp λa=>f (.inr a)⟩
theorem JE{c b:Int}:¬(1<=c/\c<=b/\b<=16)->c<1\/c>b\/b>16:=λe=>
 (F5 c 1).elim .inl λf=>(F5 b c).elim (λa=>.inr (.inl a)) λa=>(F5 16 b).elim (λd=>.inr (.inr d)) λd=>absurd ⟨f,a,d⟩ e
theorem n9{c b:Nat}(f:c+1=4*b):∃e,b=e+1/\c=4*e+3:=by
 cases b with
 |zero=>cases f
 |succ e=>exact⟨e,rfl,η f⟩
theorem JF{c b:Nat}:c+1=4*b->c=4*(b-1)+3:=λa=>by obtain⟨e,rfl,d⟩:=n9 a;exact d
theorem oa{b A:Nat}(f:A<4):(4*b+A)/4=b/\(4*b+A)%4=A:=by rw[ts];exact lM f
theorem JG{c b:Nat}:c+1=4*b->c/4=b-1:=λa=>by obtain⟨d,rfl,rfl⟩:=n9 a;exact(oa (cD rfl)).1
theorem JH{c b:Nat}:c+1=4*b->c%4≠0:=λa=>by obtain⟨d,rfl,rfl⟩:=n9 a;rw[(oa (cD rfl)).2];exact nofun
theorem mM(c:Nat):c=4*(c/4)+c%4:=(mh c 4).symm
theorem JI{c:Nat}:c%4=3->(c+1)/4=c/4+1:=λd=>by have a:=mM c;rw[d] at a;generalize c/4=b at*;subst a;exact(oa (b:=b+1) (A:=0) (cD rfl)).1
theorem dT{c A:Nat}(f:c%4=A)(G:A+1<4):(c+1)/4=c/4/\(c+1)%4=A+1:=by have a:=mM c;rw[f] at a;generalize c/4=b at*;subst a;exact oa G
theorem JJ{c:Nat}:c%4=0->(c+1)/4=c/4:=λa=>(dT a .(1)).1
theorem JK{c:Nat}:c%4=1->(c+1)/4=c/4:=λa=>(dT a .(1)).1
theorem JL{c:Nat}:c%4=2->(c+1)/4=c/4:=λa=>(dT a .(1)).1
theorem us{c:Nat}:(c+1)/4=c/4->(c+1)%4≠0:=λd e=>by have a:=mM (c+1);have b:=mn (4*(c/4)) (c%4);rw[d,e] at a;rw[<-mM c] at b;exact dn c (cQ (ir a) b)
theorem JM{c:Nat}:(c+1)%4=0->4*(c/4)+3=c:=λd=>by have a:=mM (c+1);rw[d] at a;obtain⟨e,W,rfl⟩:=n9 a;rw[(oa (b:=e) (A:=3) (cD rfl)).1]
theorem yL{c:Nat}:(c+1)/4=c/4+1->(c+1)%4=0:=λe=>by
 rcases gB (c%4) 3 with a|a
 ·have:=(dT rfl (θ a)).1;rw[e] at this;exact absurd this (ι _)
 ·have f:c%4=3:=kF (nC (eQ _ (cD rfl))) a;have d:=mM c;rw[f] at d;rw[d];exact(oa (b:=c/4+1) (A:=0) (cD rfl)).2
theorem JN{c:Nat}:c%4=0->4*(c/4)=c:=λb=>by have a:=mM c;rw[b] at a;exact a.symm
theorem JO{c:Nat}:c%2=0->c=2*(c/2):=λa=>by rw[Nat.two_mul];exact(ug a).symm
theorem JP{c:Nat}:c<=1000->c-2<=1000000:=λa=>bI (bZ (iU ..) a) rfl
theorem JQ{c b e q o:Nat}:c=b->b<=e->e<254->q=o->o<c->q<256/\q≠e:=λf a g h d=>by subst f;subst h;exact⟨fh (kG (cQ d a) g) rfl,g0 (cQ d a)⟩
theorem JR{c b e q:Nat}:c<100->¬((↑b:Int)<1\/e>16)->q<e->c+3+3*q<900:=λa d f=>fh (Z9 (κ a 3) (pe 3 (bZ (hD f) (mL d).2))) rfl
theorem dj{c b e q:Nat}(z:c<=b)(t:e<=q):c+e<=b+q:=qW z t
theorem JS{c b e q o C g:Nat}:c<=100->b<=100->e<=100->q<=100->o<=10->C<=1000->g<=10->0+c+o+b+C+e+g+q<=100000:=λc b e q o C g=>bI (dj (dj (dj (dj (dj (dj (dj (c9 _) c) o) b) C) e) g) q) rfl
theorem JT{c b e q o C:Nat}:c<=100->b<=100->e<=100->q<=10->o<=1000->C<=10->0+c+q+b+o+e+C<=100000:=λc b e q o C=>bI (dj (dj (dj (dj (dj (dj (c9 _) c) q) b) o) e) C) rfl
theorem JU{c b e q o:Nat}:c<=100->b<=100->e<=100->q<=10->o<=1000->0+c+q+b+o+e<=100000:=λc b e q o=>bI (dj (dj (dj (dj (dj (c9 _) c) q) b) o) e) rfl
theorem JV{c b e q:Nat}:c<=100->b<=100->e<=10->q<=1000->0+c+e+b+q<=100000:=λc b e q=>bI (dj (dj (dj (dj (c9 _) c) e) b) q) rfl
theorem yM{c b e:Nat}:c<=10->b<=100->e<=100->0+b+c+e<=100000:=λc b e=>bI (dj (dj (dj (c9 _) b) c) e) rfl
theorem JW{c b e:Nat}:c<=1000->b<=1000->e<=1000->c+1+(b+e)<=10000:=λc b e=>bI (dj (iv c) (dj b e)) rfl
theorem JX{c b e:Nat}:c<900->b<=0+min e c->b<=1000:=λa d=>bI (bZ (iu _▸d) (bZ (mm ..) (hD a))) rfl
theorem JY{c b e:Nat}:c<=0+min b e->c<=b:=λa=>bZ (iu _▸a) (nB ..)
theorem yN{c:Nat}(f:c<=32):(c*8+9)/10<=26:=δ (c:=10) (lq (ln 8 f) 9)
theorem JZ{c:Nat}:((↑(c*8):Int)+9)/10=(↑((c*8+9)/10):Int):=rfl
theorem pT{c b:Nat}(f:c<=32)(o:((↑(c*8):Int)+9)/10=(↑b:Int)):b<=26:=Int.ofNat.inj o▸yN f
theorem J0{c b:Nat}:c<=32->((↑(c*8):Int)+9)/10=(↑b:Int)->7+b<=16777216:=λa d=>bI (dj (c9 7) (pT a d)) rfl
theorem J1{c b:Nat}:c<=32->((↑(c*8):Int)+9)/10=(↑b:Int)->4+b<=16777216:=λa d=>bI (dj (c9 4) (pT a d)) rfl
theorem J2{c b:Nat}:c<=32->((↑(c*8):Int)+9)/10=(↑b:Int)->4+b<=100:=λa d=>bI (dj (c9 4) (pT a d)) rfl
theorem J3{c b:Nat}:c<=32->((↑(c*8):Int)+9)/10=(↑b:Int)->b<=40:=λa d=>bI (pT a d) rfl
theorem J4{c:Nat}:c<=32->(c*8+9)/10<=26:=yN
theorem J5{c:Nat}:8*c<=10*((c*8+9)/10):=by have a:=mh (c*8+9) 10;refine xc (b:=9) ?_;rw[ts 8 c];exact bZ (ir a.symm) (gY (nC (eQ _ (cD rfl))) _)
theorem ut{c b:Nat}:c<=b+4->b+12<9900->c+8<9900:=λa d=>cF (lq a 8) d
theorem uu{c b:Nat}:c<=b+1->b+3<1000->c+2<1000:=λa d=>cF (lq a 2) d
theorem J6{c b:Nat}:¬((↑c:Int)<1\/b>16)->1<=c:=λa=>mK (mL a).1
theorem J7{c:Int}{b:Nat}:¬(c<1\/b>16)->0<=c:=λa=>mo .(1) (mL a).1
theorem J8{c:Int}{b:Nat}:c<1\/b>16->c<1\/c>(↑b:Int)\/(↑b:Int)>16:=λa=>a.imp id λd=>.inr (h7 d)
theorem J9{c b e q:Nat}:c<=3->c-b+b<=c->e+(q+1)=b->e+q<=20:=λa d f=>bI (bZ (gZ _) (bZ (ir f) (bZ (tw ..) (bZ d a)))) rfl
theorem Ka{c b e q:Nat}:c<=3->c-b+b<=c->e+(q+1)=b->e+(q+1)<=20:=λa d f=>bI (bZ (ir f) (bZ (tw ..) (bZ d a))) rfl
theorem Kb{c b:Nat}:c<=3->c-b+b<=c->b<=20:=λa d=>bI (bZ (tw ..) (bZ d a)) rfl
theorem Kc{c b:Nat}:c+1=4*min 3 b->c<=1000:=λa=>bI (bZ (gZ c) (bZ (ir a) (pe 4 (nB ..)))) rfl
theorem Kd{c:Nat}:0<c->c=c-1+1:=λa=>(mg a).symm
theorem Ke{c b e:Nat}:c<=2->b+(e+2)<1000->b+0+c+e<1000:=λa d=>cF (by rw[mj];exact gY (hW e 2▸lq a e) b) d
theorem Kf{c b e:Nat}:c<=6->b+(e+6)<9900->b+0+c+e<9900:=λa d=>cF (by rw[mj];exact gY (hW e 6▸lq a e) b) d
theorem yO{c b e:Nat}:c<=3->c-b+e<c->(↑(c-b+e):Int)<2^63:=λa d=>h7 (cQ d (bI a rfl))
theorem Kg{c:Nat}{b:Int}{e q o C:Nat}:c=b.toNat->b.toNat<=16->e=q/\o=C->q<c->e<16:=λa d f g=>f.1▸cQ g (a▸d)
theorem Kh{c b:Nat}:c<=3\/c>16/\c<100->¬(↑b:Int)>(↑c:Int)->¬((↑b:Int)<1\/c>16)->b<=3:=λa d e=>a.elim (bZ (mK (Int.not_lt.mp d))) λf=>absurd f.1 (Nat.not_lt.mpr (mL e).2)
theorem Ki{c b:Int}:c<1\/c>b\/b>16->¬c<1->¬c>b->b>(↑16:Int):=λa d e=>(a.resolve_left d).resolve_left e
theorem Kj{c:Nat}:c<1024->c*2^10<2^20:=λa=>μ a (cD rfl)
theorem Kk{c b e q o:Nat}:c<=b->e<=q+c+1+o->e<=q+(o+(b+1)):=λa d=>bZ d (by rw[mj q c 1,mj q];exact gY (hW o (b+1)▸lq (iv a) o) q)
theorem Kl{c:Nat}:c<1024->c/2^6<2^62:=λa=>cF (pf ..) (fh a rfl)
theorem Km{c:Nat}:c/16%4<2^62:=fh (eQ _ (cD rfl)) rfl
theorem Kn{c:Nat}:c%16<2^62:=fh (eQ _ (cD rfl)) rfl
theorem Ko{c:Nat}:c<16->(↑(c*8):Int)<(↑128:Int):=λa=>h7 (μ a (cD rfl))
theorem Kp{c b:Nat}:64<=c->b+c<9900->b+64<9900:=λa d=>cF (gY a b) d
theorem yP{c b e:Nat}:c<=1000->b=c/2/\e=c/2->e<=1000:=yG
theorem yQ{c b:Nat}:c=3->b<c->¬b%4=3:=λe a d=>by rw[e] at a;rw[mi (fh a rfl)] at d;exact dn _ (d▸a)
theorem Kq{c:Nat}:c<3->¬c%4=3:=yQ rfl
theorem Kr{c b:Int}:c<=b->b<=16->c.toNat<=16:=λa d=>qX (mo a d)
theorem Ks{c b e q o:Nat}:c<=3->b<c->e=b/\q=o->e<16:=λa d f=>f.1▸fh (cQ d a) rfl
theorem Kt{c b e:Nat}:c<4->b=c->e=b->(↑e:Int)<9223372036854775808:=λa d f=>by subst f;subst d;exact h7 (fh a rfl)
theorem Ku{c b:Nat}:c<=1000->b<=0+c*(1000+1)->¬b>16777216:=λa d=>Nat.not_lt.mpr (bI (bZ d (bZ (ir (iu _)) (ln 1001 a))) rfl)
theorem Kv{c:Int}:-1<=c/\c<=4->c<=4:=And.right
theorem Kw{c b:Nat}:c<b->c<b:=id
theorem Kx{c b e:Nat}:(c*256+b)%32768*2+e=((0*256+c)*256+b)%32768*2+e:=by rw[Nat.zero_mul,iu]
theorem Ky{c b:Nat}:¬(↑c:Int)>(↑b:Int)->¬((↑c:Int)<1\/b>16)->c<=20:=λa d=>bI (bZ (mK (Int.not_lt.mp a)) (mL d).2) rfl
theorem yR{c b:Nat}:c<=3\/c>16/\c<100->b=c->(↑b:Int)<9223372036854775808:=λd e=>e▸h7 (d.elim (λa=>cF a (cD rfl)) λa=>fh a.2 rfl)
theorem Kz{c:Int}:0<=c->c<256->¬c<0/\¬c>=256:=λa b=>⟨Int.not_lt.mpr a,Int.not_le.mpr b⟩
theorem KA{c b e q o:Nat}:c=b->e=q->q<=3->b<=o->o<=3->c+e<=16777216:=λa d f g h=>by subst a;subst d;exact bI (dj (bZ g h) f) rfl
theorem KB{c:Nat}:c<2^8->0<=(↑c:Int)/\(↑c:Int)<256:=un
theorem KC{c:Nat}:c<17->(↑(1+c):Int)<=17:=λa=>Int.ofNat_le.mpr (hW c 1▸a)
theorem KD{c b e:Nat}:c<=26->b=7+c->e+1=4*b->e<=16777216:=λa d f=>bI (bZ (gZ e) (f▸pe 4 (d▸dj (c9 7) a))) rfl
theorem rG{b l:Nat}(z:l<=b)(t:b<=l+1):b=l\/b=l+1:=(Nat.eq_or_lt_of_le z).imp nD λa=>kF t a
theorem KF{c b e:Nat}:c+b<=e->e<=3->2<=b->b=2\/b=3:=λa d f=>rG f (bZ (tw ..) (bZ a d))
theorem KG{c b:Nat}:c<=3->b+2<=c->b=0\/b=1:=λa d=>rG (e2 _) (xc (b:=2) (bZ d a))
theorem KH{c b:Nat}:c<=3->b+3<=c->b=0:=λa d=>Nat.eq_zero_of_le_zero (xc (b:=3) (bZ d a))
theorem KI{c b e q:Nat}:c<b->e+(q+1)=c->e<b:=λa d=>cF (ζ d) a
theorem KJ{c b e q:Nat}:¬c<16->b=e/\q=c->6<=q:=λa d=>d.2▸bZ (cD rfl) (Nat.not_lt.mp a)
theorem yS{c:Nat}:c<=40->c<2^62:=λa=>cF a (cD rfl)
theorem yT{c:Nat}:c<=20->c<2^64:=λa=>cF a (cD rfl)
theorem yU{c b e q:Nat}:c+b<=e->q<b->c+q<e:=λa d=>cQ (o9 d c) a
theorem uv{c b e:Nat}:c+(b+1)=e->c+b<e:=λa=>xd (ir a)
theorem uw{c b e:Nat}:c+(b+1)=e->c<e:=λa=>cF (mn c b) (uv a)
theorem yV{c:Int}:1<=c.toNat->0<=c:=λa=>F6 (Int.lt_of_not_ge λb=>by rw[Int.toNat_of_nonpos b] at a;cases a)
theorem KL{c b:Int}:1<=c.toNat->c.toNat<=b.toNat->(↑b.toNat:Int)=b:=λa d=>pg (yV (bZ a d))
theorem KM{c b e q:Nat}:c<=3->b=c->e=q->q<=1->b+e<=16777216:=λa d f g=>by subst d;subst f;exact bI (dj a g) rfl
theorem KN{c b:Nat}:min c b=c\/min c b=b:=(Nat.le_total c b).imp pd ν
theorem yW{c b:Nat}:c=3->b<3->b<c:=λa d=>a▸d
theorem KO{c b:Nat}:c=3->¬b<3->c<=b:=λa d=>a▸Nat.not_lt.mp d
theorem KP{c b:Nat}:c<1000->b<=c->b<100000:=λa d=>fh (cF d a) rfl
theorem KQ{c b:Nat}:c<=1000->b<c->b+3<2^64:=λa d=>fh (κ (cQ d a) 3) rfl
theorem KR{c b:Nat}:c<=1000->b<c->b<2^64:=λa d=>fh (cQ d a) rfl
theorem yX{c b e q:Nat}:c<=32->b=e/\q=c->q<=1000:=λa d=>d.2▸bI a rfl
theorem KS{c b:Nat}:c<=16->b=c->b<1000:=λa d=>d▸cF a (cD rfl)
theorem yY{c b:Nat}:c=b->0=min c b->c=0:=λd a=>by subst d;rw[lp] at a;exact a.symm
theorem KT{c b:Nat}:c<b->(↑c:Int)<(↑b:Int):=h7
theorem KU{c b e q:Nat}:c<b->e<c->q<=e->q<b:=λa d f=>cF f (kG d a)
theorem KV{c b:Nat}:c<=26->b=7+c->b<=1000:=λa d=>d▸bI (dj (c9 7) a) rfl
theorem KW{c:Nat}:c<100000->c+1<4611686018427387904:=λa=>fh (θ a) rfl
theorem KX{c b e q:Nat}:c+b+3<=e->q=c->b+q<=e:=λa d=>by subst d;rw[hW];exact bZ (mn ..) a
theorem KY{c b e q:Nat}:c+b+3<=e->q=c->b+q+3<=e:=λa d=>by subst d;rw[hW b];exact a
theorem KZ{c b e q:Nat}:c+b+3<=e->q=c->q<=e:=λa d=>by subst d;exact bZ (bZ (mn ..) (mn ..)) a
theorem K0{c b:Nat}:c<=100->b<=100->c+b+3<=16777216:=λa d=>bI (lq (dj a d) 3) rfl
theorem K1{c b e:Nat}:c<=100->b=134217728->e<8*c->¬e>=b:=λa d f=>Nat.not_le.mpr (d▸fh (cQ f (pe 8 a)) rfl)
theorem K2{c b e q o C g:Nat}:c<=32->b=e/\q=c->o=C/\g=q->g<=32:=λa d f=>f.2▸d.2▸a
theorem K3{c:Nat}:c<=32->(↑(c*8):Int)<2^40:=λa=>h7 (cF (ln 8 a) (cD rfl))
theorem K4{c:Nat}:c<=3->c+1<4096:=λa=>cF (iv a) (cD rfl)
theorem K5{c b e:Nat}:c<900->b<c->e<=b->e<1000:=λa d f=>fh (cF f (kG d a)) rfl
theorem K6{c b:Nat}:c+1=4*(b+1)->3+(c+1)+1=4*(b+1+1):=λa=>by rw[a,Nat.mul_succ 4 (b+1),hW 3]
theorem yZ{c b e:Nat}:c=b->e=b->min c e=b:=λa d=>by rw[a,d,lp]
theorem y0{c b e:Nat}:c=b->¬e<b->c<=e:=λa d=>a▸Nat.not_lt.mp d
theorem y1{c:Int}:c<=3->c.toNat<=20:=λa=>bI (qX a) rfl
theorem ux{c:Int}:c<=16->c.toNat<=100:=λa=>bI (qX a) rfl
theorem K7{c:Nat}:¬2<c->¬(↑c:Int)>2:=λa b=>a (Int.ofNat_lt.mp b)
theorem K8{c:Nat}:(↑c:Int)<=16->c.succ<=16777216:=λa=>bI (iv (mK a)) rfl
theorem K9{c b e:Nat}:c<4->b<c->e=b->e.succ<=16777216:=λa d f=>f▸bI (hD (cF d a)) rfl
theorem La{c:Nat}:min 3 (7+c)=0->False:=λa=>by rw[pd (bZ (cD rfl) (mn 7 c))] at a;cases a
theorem Lb{c:Nat}:c<=26->c<1000000:=λa=>cF a (cD rfl)
theorem Lc{c b e:Nat}:c=b->e<b->1<=c:=λa d=>a▸cF (e2 e) d
theorem Ld{c:Nat}:c<=16->c<200:=λa=>cF a (cD rfl)
theorem Le{c:Nat}:-2^64<(↑c:Int):=Int.lt_of_lt_of_le .(1) (qV c)
theorem uy{c:Nat}:¬c%2=0->c%2=1:=λa=>(ξ c).resolve_left a
theorem Lf{c:Nat}:¬c%2=1->c%2=0:=λa=>(ξ c).resolve_right a
theorem Lg{c b:Nat}:c<=3->b+3+3*c<=b+20:=λa=>by rw[mj];exact gY (bI (gY (pe 3 a) 3) rfl) b
theorem uz{c b:Nat}:c<=3->b=c->(↑b:Int)<2^63:=λa d=>d▸h7 (cF a (cD rfl))
theorem Lh{c:Nat}:13<=c->¬7+c<20:=λa=>Nat.not_lt.mpr (gY a 7)
theorem Li{c:Nat}:c<=64->(↑c:Int)<9223372036854775808:=λa=>h7 (cF a (cD rfl))
theorem Lj{c:Nat}{b:Int}:(↑c:Int)=b->b<=3->c<=3:=λa d=>mK (a▸d)
theorem Lk{c b e q o:Nat}:c=b->16<=b->e=q/\o=c->4<=o:=λa d f=>f.2▸a▸bZ (cD rfl) d
theorem y2{c b:Nat}:c<4->b=c->b<=3:=λa d=>d▸nC a
theorem Ll{c b:Nat}:c=b->b<=20->c<200:=λa d=>a▸cF d (cD rfl)
theorem y3{c b:Nat}:c=b+1->b<c+1:=λa=>a▸nE (qY b)
theorem Lm{c:Nat}:2<=c->¬2<c->2=c:=λa b=>kF a (Nat.not_lt.mp b)
theorem Ln{c:Nat}:c+1<=64->c<=16777215:=λa=>bI (nF a) rfl
theorem Lo{c b:Int}:c.toNat<=b.toNat->0+c.toNat<=b.toNat:=λa=>by rw[iu];exact a
theorem y4{c:Nat}:c<=16->(↑c:Int)<2^62:=λa=>h7 (cF a (cD rfl))
theorem uA{c b:Nat}:c<=20->b=c->b<=1000:=λa d=>d▸bI a rfl
theorem Lp{c b:Int}{e:Nat}:c<2^62->c-b=(↑e:Int)->b<2^62:=λa d=>Int.lt_of_le_of_lt (Int.sub_nonneg.mp (d▸qV e)) a
theorem Lq{c b:Int}{e:Nat}:-2^62<=c->b-c=(↑e:Int)->-2^62<=b:=λa d=>mo a (Int.sub_nonneg.mp (d▸qV e))
theorem fm{c:Nat}:0<=(↑c:Int):=by intros;apply tx
theorem kV{c:Nat}:c<=1000->c<=16777216:=λa=>bI a rfl
theorem kW{c:Nat}:c<=1000->c<=1099511627776:=λa=>bI a rfl
theorem lN{c b:Nat}:¬c<b->b<=c:=λa=>xe a
theorem ob{c:Nat}:c<=3->c<=100:=λa=>bI a rfl
theorem oc{c:Nat}:c<=32->c<=1000:=λa=>bI a rfl
theorem rH{c b:Nat}:(↑c:Int)<=(↑b:Int)->c<=b:=by lia
theorem od{c:Nat}:(↑c:Int)-0=(↑c:Int):=by lia
theorem pU{c:Nat}:0+(↑c:Int)*1=(↑c:Int):=by lia
theorem pV{c:Nat}:c<=100->c<=16777216:=λa=>bI a rfl
theorem pW{c:Nat}:¬(↑c:Int)<0:=by lia
theorem rI{c:Nat}:c<=c+3:=by lia
theorem rJ{c:Nat}:c<=100->c<=1000:=λa=>bI a rfl
theorem pX{c b:Nat}:c+(b+1)=c+1+b:=by lia
theorem pY{c b:Nat}:16<=c->b=c->4<=b:=by lia
theorem rK{c b:Nat}:c+1<=b->c<=b:=λa=>nF a
theorem uB{c b e:Nat}:c<b->e<c->e<b:=λa d=>kG d a
theorem uC{c b:Nat}:¬c=b->¬(↑c:Int)=(↑b:Int):=λa=>F7 rfl rfl a
theorem uD{c:Nat}:c<=32->c<=100:=λa=>bI a rfl
theorem rL{c b:Nat}:c<b->c<b+1:=λa=>Nat.lt_add_right 1 a
theorem rM{c:Nat}:c<=100->c<=1099511627776:=λa=>bI a rfl
theorem uE{c b:Nat}:c<=b->b<=3->c<=20:=by lia
theorem Lr{c:Nat}:1<=(↑c:Int)->1<=c:=λa=>(λ{b d}=>Int.ofNat_le.mp) a
theorem rN{c:Nat}:c<1024->c/64<16:=λa=>pc a
theorem rO{c:Nat}:c<=26->7+c<=16777216:=by lia
theorem uF{c b:Nat}:c<=b->c>=b->c=b:=λa d=>kF a d
theorem uG{c:Nat}:c+3<=c+3:=by lia
theorem uH{c:Nat}:c+7<=c+8:=by lia
theorem uI{c b:Nat}:c<=c+1+b:=by lia
theorem uJ{c:Nat}:0<c->(↑c:Int)≠0:=by lia
theorem uK{c:Nat}:c<=1000000->(↑c:Int)<=1000000:=λa=>Nat.ToInt.of_le rfl rfl a
theorem uL{c b:Nat}:c<=100->b=c->b<=16777216:=by lia
theorem y5{c:Nat}:c<=32->c<=1099511627776:=λa=>bI a rfl
theorem uM{c:Nat}:c<1000->(↑c:Int)<2^63:=λa=>Int.ofNat_lt.mpr (cQ a (b6 rfl))
theorem uN{c:Nat}:c<c+1:=by lia
theorem Ls{c:Int}:1<=c->0<=c:=λa=>F6 a
theorem y6{c:Nat}{b:Int}:(↑c:Int)<=b->0<=b:=by lia
theorem uO{c b:Nat}:c<=b->b<=3->c<=16:=by lia
theorem y7{c:Nat}:c<16->c<=15:=λa=>nC a
theorem y8{c b:Nat}:c<=32->b=c->b<=32:=λa d=>le_of_eq_of_le d a
theorem uP{c:Nat}:c<=64->c<=16777216:=λa=>bI a rfl
theorem uQ{c b:Nat}:c<=c+b:=by lia
theorem uR{c b:Nat}:c<=3->b=c->b<=16777216:=by lia
theorem y9{c b:Nat}:c=b+1->b<c:=by lia
theorem za{c:Nat}:c+2<=c+3:=by lia
theorem zb{c:Nat}:c+6<=c+6:=by lia
theorem zc{c:Nat}:c<=20->(↑c:Int)<=1000000:=by lia
theorem zd{c:Nat}:-2^63<=(↑c:Int):=by lia
theorem ze{c b:Nat}:c+b<=10000->c+b<=16777216:=λa=>bI a rfl
theorem zf{c:Nat}:c<=1000->c.succ<=16777216:=by lia
theorem zg{c:Nat}:0<c->0<(↑c:Int):=by lia
theorem zh{c b:Nat}:c<=1000->b=c->b<=16777216:=by lia
theorem zi{c b e:Nat}:c=b\/c=e->c<b->c=e:=by lia
theorem zj{c:Nat}:c<=c+4:=by lia
theorem zk{c:Nat}:c<=c+2:=by lia
theorem zl{c:Nat}:c<=c:=by lia
theorem zm{c:Nat}:c<=c+1:=by lia
theorem zn{c:Nat}:c<=8->c<=1000:=λa=>bI a rfl
theorem zo{c:Nat}:c<1000->(↑c:Int)<9223372036854775808:=λa=>Int.ofNat_lt.mpr (cQ a (b6 rfl))
theorem zp{c:Nat}:c<4096->(↑c:Int)<2^63:=λa=>Int.ofNat_lt.mpr (cQ a (b6 rfl))
theorem zq{c:Nat}:0<c+1:=by lia
theorem Lu{c b:Nat}:c<=b->¬(↑c:Int)>(↑b:Int):=by lia
theorem zr{c:Nat}:1<=c->¬c=1->2<=c:=by lia
theorem zs{c:Nat}:6<=c->4<=c:=λa=>ο a
theorem zt{c:Nat}:c<=100000->c<=16777216:=λa=>bI a rfl
theorem zu{c b e:Nat}:c+(b+1)<=e->c<e:=λa=>F8 a
theorem Lv{c:Nat}:c<=3->c<=16:=λa=>bI a rfl
theorem Lw{c:Nat}:c<100->c<900:=λa=>bI a rfl
theorem Lx{c:Nat}:c<=3->c.succ<=16777216:=by lia
theorem Ly{c:Nat}:(↑c:Int)<=3->c<=3:=λa=>(λ{b d}=>Int.ofNat_le.mp) a
theorem Lz{c:Nat}:(↑c:Int)<=16->c<=16:=λa=>(λ{b d}=>Int.ofNat_le.mp) a
theorem LF{c b e q:Nat}:c<=32->b=e/\q=c->q<=100:=by lia
theorem LG{c b:Nat}:c+3+3*b<=c+3+3*b+3:=by lia
theorem LH{c:Nat}:(↑c:Int)<=16->c<=100:=by lia
theorem zv{c b:Nat}:¬(↑c:Int)>(↑b:Int)->c<=b:=by lia
theorem zw{c b:Nat}:c<b+1->c>=b->c=b:=λa d=>Nat.eq_of_le_of_lt_succ d a
theorem LI{c:Nat}:32<=c->32<=(↑c:Int):=λa=>(λ{b} {d}=>Int.toNat_le.mp) a
theorem LJ{c:Nat}:¬32<=c->¬32<=(↑c:Int):=by lia
theorem zx{c:Int}:c<=16->c.toNat<=16:=λa=>(λ{b} {d}=>Int.toNat_le.mpr) a
theorem zy{c:Nat}:c<1024->c<2^20:=λa=>bI a rfl
theorem zz{c:Nat}:c<1000->c.succ<=16777216:=λa=>bI a rfl
theorem zA{c b e:Nat}:c=b->e<c->e<b:=λa d=>ε d a
theorem zB{c:Nat}:c<4->(↑c:Int)<2^62:=λa=>Int.ofNat_lt.mpr (cQ a (b6 rfl))
theorem zC{c b:Nat}:c<=b->c+1<=b+1:=λa=>lq a 1
theorem zD{c b:Nat}:c<=3->b<=c->b<=20:=by lia
theorem zE{c b:Nat}:c<b->c=b->False:=by lia
theorem zF{c:Nat}{b:Int}:c=b.toNat->1<=b.toNat->c=0->False:=by lia
theorem zG{c b e:Nat}:0<=(↑(c-b+e):Int):=by intros;apply tx
theorem zH{c:Nat}:c<=3->c<=16777216:=λa=>bI a rfl
theorem zI{c:Nat}:c<=3->c<=1000:=λa=>bI a rfl
theorem zJ{c b:Nat}:c<=3->b=c->b.succ<=16777216:=by lia
theorem LK{c:Nat}:c<=20->c<=32:=λa=>bI a rfl
theorem zK{c:Nat}:c<8->(↑c:Int)<2^63:=λa=>Int.ofNat_lt.mpr (cQ a (b6 rfl))
theorem LL{c b:Nat}:c+b<1000->c<1000:=λa=>F8 a
theorem LM{c b:Nat}:c+b<9900->c<9900:=λa=>F8 a
theorem LN{c:Nat}:c-c=0:=by lia
theorem LO{c b:Nat}:c<b->b-c=b-c-1+1:=by lia
theorem LQ{c b e:Nat}:c<=b->e<c->¬e+1>b:=by lia
theorem LS:0<4096:=by lia
theorem LU{c b:Nat}:c<c+1+b:=by lia
theorem LV{c:Int}:0+(c-1)*1=c-1:=by lia
theorem LW{c:Nat}:c<2^62->(↑c:Int)<2^62:=λa=>Int.ofNat_lt.mpr (cQ a (b6 rfl))
theorem LY{c:Nat}:0<=(↑(c-1):Int):=by intros;apply tx
theorem LZ{c:Nat}:c<2^64->(↑c:Int)<2^64:=λa=>Int.ofNat_lt.mpr (cQ a (b6 rfl))
theorem L0{c:Int}:c+8-1=c+7:=by lia
theorem L1{c:Nat}:c<=40->c<=16777216:=λa=>bI a rfl
theorem L2{c:Nat}:c+1<=10->c<=10:=λa=>nF a
theorem L3{c:Nat}:c+1<=10->c<10:=λa=>xd a
theorem L5{c:Nat}:c<10->(↑c:Int)<2^63:=λa=>Int.ofNat_lt.mpr (cQ a (b6 rfl))
theorem L6{c:Nat}:c<10->(↑c:Int)<(↑10:Int):=λa=>(λ{b} {d}=>Int.lt_toNat.mp) a
theorem L7{c:Nat}:c<=2^24->¬c>(2^63-1)/8:=by lia
theorem L8{c:Nat}:c<2^20->(↑c:Int)<2^63:=λa=>Int.ofNat_lt.mpr (cQ a (b6 rfl))
theorem L9{c b:Nat}:c+1+b≠c:=by lia
theorem Ma{c b e:Nat}:c+1+b=c+1+e->b=e:=λa=>xa a
theorem Mb{c b:Nat}:c+1+1+b=c->False:=by lia
theorem Mc{c b:Nat}:c+1+1+b<c->False:=by lia
theorem Md{c:Nat}:c<2^62->(↑c:Int)<9223372036854775808:=λa=>Int.ofNat_lt.mpr (cQ a (b6 rfl))
theorem Me{c:Nat}:c<1024->c/2^6<16:=λa=>pc a
theorem Mf{c:Nat}:c<=15->c<16:=λa=>tr a
theorem Mg{c b:Nat}:c+b<=10000->c<=1099511627776:=by lia
theorem Mh{c:Nat}:c+1<=64->c<=64:=λa=>nF a
theorem Mi{c:Nat}:c<=1000->c<=1000000:=λa=>bI a rfl
theorem Mj{c:Nat}:c<=1000->1+c<=16777216:=by lia
theorem Mk{c b:Nat}:c<=1000->b<=1000->c+b<=16777216:=by lia
theorem Ml{c:Nat}:c<=15->c<=1000000:=λa=>bI a rfl
theorem Mm{c:Nat}:¬(↑c:Int)< -2^63:=by lia
theorem Mn{c:Nat}:c<=100->¬(↑c:Int)>=2^63:=by lia
theorem Mo{c:Nat}:c<=100->¬(↑c:Int)>2^63-1-33:=by lia
theorem Mp{c:Nat}:c<=100->¬(↑c:Int)>(↑16777216:Int):=by lia
theorem Mq{c:Int}:0<=c->¬c<0:=λa=>Int.not_lt_of_ge a
theorem Mr{c b:Nat}:c<=8*b->¬(↑c:Int)>8*(↑b:Int):=by lia
theorem Ms{c:Nat}:c<=900->c<=16777216:=λa=>bI a rfl
theorem Mt{c:Nat}:c<2^15->c<2^64:=λa=>bI a rfl
theorem Mu{c:Nat}:c<16->c<2^64:=λa=>bI a rfl
theorem Mv{c:Int}:c+10-1=c+9:=by lia
theorem Mw{c:Nat}:2+(2+c)=4+c:=by lia
theorem Mx{c:Nat}:4+c+3=7+c:=by lia
theorem My{c:Nat}:0<=(↑(c*8):Int):=by intros;apply tx
theorem Mz{c:Nat}:c<=26->7+c<=1000:=by lia
theorem MA{c:Nat}:c<=1000->(↑c:Int)<9223372036854775808:=by lia
theorem MB{c:Nat}:c<=1000->¬(↑c:Int)>2^63-34:=by lia
theorem MC{c:Nat}:c<256->c<1000:=λa=>bI a rfl
theorem MD{c:Nat}:c<255->c<1000:=λa=>bI a rfl
theorem ME{c:Nat}:0<c+2:=by lia
theorem MF{c b:Nat}:c<b+1->c<b+2:=λa=>nE a
theorem MG{c:Nat}:c=0->c<=c-1:=by lia
theorem MH{c:Nat}:c<100000->c<=16777216:=by lia
theorem MI{c:Nat}:2<c->(↑c:Int)>2:=λa=>Int.lt_of_toNat_lt a
theorem MJ{c b:Nat}:c+b<=1000->c+b<=10000:=λa=>bI a rfl
theorem MK{c:Nat}:c<254->c<256:=λa=>bI a rfl
theorem ML{c b:Nat}:c=b->b<=20->c<=98:=by lia
theorem MM{c:Nat}:1<=c->¬(↑c:Int)<1:=by lia
theorem MN{c:Nat}:c<=16->¬(↑c:Int)>(↑16:Int):=by lia
theorem MO{c:Nat}:c<=16->c.succ<=16777216:=by lia
theorem MP{c:Nat}:¬c=1->(↑c:Int)≠1:=λa=>F7 rfl rfl a
theorem MQ{c:Nat}:(↑(c-2):Int)-0=(↑(c-2):Int):=by lia
theorem MR{c:Nat}:6<=c->2<=c:=λa=>ο a
theorem MS{c:Nat}:6<=c->2<=c-4:=λa=>F4 a
theorem MT{c:Nat}:-2^62<=(↑(c-2):Int):=by lia
theorem MU{c b:Nat}:(↑(c-2):Int)+(↑b:Int)*1=(↑(c-2+b):Int):=by lia
theorem MV{c b:Nat}:c-2<=c-2+b:=by lia
theorem MW{c b:Nat}:c+b<=100000->c+b<=16777216:=λa=>bI a rfl
theorem MX{c:Nat}:c<200->c<1920:=λa=>bI a rfl
theorem MY{c:Nat}:c≠1->(↑c:Int)≠1:=λa=>F7 rfl rfl a
theorem MZ{c b:Nat}:c+b<c->False:=by lia
theorem M0:200<254:=by lia
theorem M1{c:Nat}:c<1000000->(↑c:Int)<2^63:=λa=>Int.ofNat_lt.mpr (cQ a (b6 rfl))
theorem M2{c b:Nat}:¬((↑c:Int)<1\/b>16)->b<=16:=by lia
theorem M3{c:Nat}:¬c<16->6<=c:=by lia
theorem M4{c b:Nat}:¬((↑c:Int)<1\/b>16)->b<=100:=by lia
theorem M5{c:Nat}:¬c<16->c<16->False:=λa b=>(λ{c} d=>(iff_false_intro d).mp) a b
theorem M6{c:Nat}:c=2->c<=100:=by lia
theorem M7{c b e q:Nat}:4<=c->b=e/\q=c->4<=q:=by lia
theorem M8{c b:Nat}:c<=3->b=c->b<=16:=by lia
theorem M9:1<=30:=by lia
theorem Na:1+20<=30:=by lia
theorem Nb{c b:Nat}:c<=3->b=c->b<16777216:=by lia
theorem Nc{c b:Nat}:c<=32->b=c->b<=1000:=by lia
theorem Nd{c b e q o:Nat}:16<=c->b=c->e=q/\o=b->4<=o:=by lia
theorem Nf{c:Nat}:c<=16->c<16777216:=by lia
theorem Ng{c:Nat}:¬c+16<16:=by lia
theorem Nh{c:Nat}:¬c+4<4:=by lia
theorem Ni{c:Nat}:4*(c+1)=3+(4*c+1):=by lia
theorem Nj{c b:Nat}:c<=c+(4*b+1):=by lia
theorem Nk{c:Nat}:0+c=c:=by lia
theorem Nl{c:Nat}:2<=c->c=1->False:=by lia
theorem zL{c:Nat}:0+c<=c:=by lia
theorem Nm{c b:Nat}:c+b=b+c:=by lia
theorem Nn{c:Nat}:c*2^10*2^10=c*2^20:=by lia
theorem No{c:Nat}:2<=c->c≠1:=λa=>fk (g0 a)
theorem Np{c b:Nat}:c<=3->b+3<=c->c=3:=by lia
theorem Nq{c b e:Nat}:10*c=16*b+e->e<=9->e<=8:=by lia
theorem Nr{c:Nat}:2<=4+c:=by lia
theorem Nt{c b:Nat}:c=7+b->2<=c:=by lia
theorem Nu{c:Nat}:7<=7+c:=by lia
theorem Nv{c:Nat}:c<=26->7+c<=100:=by lia
theorem Nw{c:Nat}:4<=7+c:=by lia
theorem Nx{c:Nat}:min (2+2) (7+c)=4:=by lia
theorem Ny{c:Nat}:0<=(↑(10*c-10*c%16):Int):=by intros;apply tx
theorem Nz{c b:Nat}:(10*c-10*c%16+7)/8=b->((↑(10*c-10*c%16):Int)+7)/8=(↑b:Int):=by lia
theorem NA{c:Nat}:c<1000->c<1000000:=λa=>bI a rfl
theorem NB{c:Nat}:c<1000->¬(↑c:Int)>=2^63:=by lia
theorem NC{c b e q o C g:Nat}:c+(b+e+q+o)+C+g=c+b+g+e+q+o+C:=by lia
theorem ND{c b e q o C g:Nat}:c+(0+b+e+q)+o+C+g=c+o+g+b+e+q+C:=by lia
theorem NE{c b e q o C g:Nat}:c+b+e+q+o+C+g=c+b+g+e+q+o+C:=by lia
theorem NF{c b e q o C g m:Nat}:c+(b+e+q+o)+C+g+m=c+(b+q+o+m)+e+C+g:=by lia
theorem NG{c:Nat}:(↑(c+1):Int)=(↑c:Int)+1:=by lia
theorem NH{c b:Nat}:c<=100->b<=10->0+c+b<=100000:=by lia
theorem NI{c:Nat}:c<=1000->c<=100000:=λa=>bI a rfl
theorem NJ{c b:Nat}:c<=16->b=c->b.succ<=16777216:=by lia
theorem NK{c b:Nat}:c=b->b<=20->(↑c:Int)<9223372036854775808:=by lia
theorem NL{c:Nat}:c<7->(↑c:Int)<2^63:=λa=>Int.ofNat_lt.mpr (cQ a (b6 rfl))
theorem NM{c:Nat}:c<6->(↑c:Int)<2^63:=λa=>Int.ofNat_lt.mpr (cQ a (b6 rfl))
theorem NN{c:Nat}:-1<=(↑c:Int):=by lia
theorem NO{c:Nat}:-1<=(↑c:Int)-1:=by lia
theorem NP{c:Nat}:c<6->(↑c:Int)-1<=4:=by lia
theorem NQ{c:Nat}:c<3->(↑c:Int)<2^63:=λa=>Int.ofNat_lt.mpr (cQ a (b6 rfl))
theorem NR{c:Nat}:c<=100->c.succ<=16777216:=by lia
theorem NS{c:Nat}:c<32->¬32<=c:=λa=>π a
theorem NU{c:Nat}:126<c->¬c<=126:=λa=>π a
theorem NV{c:Nat}:¬c<32->32<=c:=λa=>xe a
theorem NW{c:Nat}:¬126<c->c<=126:=λa=>xe a
theorem NX{c b:Nat}:c<=100->b<=c->(↑b:Int)<2^63:=by lia
theorem NY{c:Int}:c<1->1<=c->False:=by lia
theorem NZ{c b:Int}:c>b->c<=b->False:=by lia
theorem N0{c:Int}:c>16->c<=16->False:=by lia
theorem N1{c:Int}:¬c<1->1<=c:=λa=>(λ{c b}=>Int.not_lt.mp) a
theorem N2{c:Nat}:c%2=0->c%2=1->False:=by lia
theorem N3{c:Nat}:True/\8-0=c->c=8:=by lia
theorem N4{c:Nat}:c=8->c<=8:=λa=>ir a
theorem N5{c:Nat}:c=c+1->False:=by lia
theorem N6{c b:Nat}:c=b->16<=b->4<=c:=by lia
theorem N7{c b:Nat}:c=b->b<=20->c<=1000:=by lia
theorem N8{c b e q o:Nat}:c=b->b<=20->e=q/\o=c->o<=1000:=by lia
theorem N9{c b e q o:Nat}:c=b->e=q/\o=c->o=b:=by lia
theorem Oa{c b e q o C g m:Nat}:c=b->e=q/\o=c->C=g/\m=o->m=b:=by lia
theorem Ob{c b e:Nat}:c<=b->c<=e+b:=λa=>Nat.le_add_left_of_le a
theorem Oc{c b:Nat}:c<b->b<=3->c<16:=by lia
theorem Od{c b:Nat}:1<=c->c<=b->1<=b:=λa d=>bZ a d
theorem Oe{c b:Int}:c.toNat<=b.toNat->b.toNat<=16->c.toNat<=16:=λa d=>bZ a d
theorem Of{c b e q:Nat}:c<=20->b=e/\q=c->q<=32:=by lia
theorem Og{c b:Nat}:c<b->¬c=b:=λa=>g0 a
theorem Oh{c b e:Nat}:c+(b+1)<=e->c+b<e:=λa=>xd a
theorem Oi{c b e:Nat}:c+(b+1)<=e->c+b<=e:=λa=>nF a
theorem Oj{c:Nat}{b:Int}:c=b.toNat->c<=3->b.toNat<=3:=λa d=>le_of_eq_of_le (id (nD a)) d
theorem Ok{c:Nat}:1<=c->0=c->False:=by lia
theorem Ol{c:Nat}:c<=3->c<=20:=λa=>bI a rfl
theorem Om{c:Nat}:c<=3->c+1<=20:=by lia
theorem On{c b:Nat}:c<=20->b<=c->b<=20:=λa d=>bZ d a
theorem Oo{c b:Nat}{e:Int}:c+(b+1)=e.toNat->c+b=e.toNat->False:=by lia
theorem Op{c b:Nat}:-2^62<=(↑(c-b):Int):=by lia
theorem Oq{c:Nat}:c<=3->(↑c:Int)<2^62:=by lia
theorem Os{c b e:Nat}:(↑(c-b):Int)+(↑e:Int)*1=(↑(c-b+e):Int):=by lia
theorem Ot{c b e:Nat}:c-b+e<c->c-b+e<=c:=λa=>nF a
theorem Ou{c b:Nat}:c=b->0<b->0<c:=by lia
theorem Ov{c b e:Nat}:c=b->e<b->e+1<=c:=λa d=>le_of_le_of_eq d (id (nD a))
theorem Ow{c b:Nat}:c=b->b<=3->c<=3:=λa d=>le_of_eq_of_le a d
theorem Ox{c b e:Nat}:(c*2+b)*16+e=c*32+b*16+e:=by lia
theorem Oy{c:Nat}:c<=20->c<=16777215:=λa=>bI a rfl
theorem Oz{c:Nat}:c<=20->c<=16777214:=λa=>bI a rfl
theorem OA{c:Nat}:c<=20->c<=16777213:=λa=>bI a rfl
theorem OB{c:Nat}:c<=20->c<=16777212:=λa=>bI a rfl
theorem OC{c:Nat}:c<=3->(↑c:Int)<2^63:=by lia
theorem OD{c b:Nat}:c=7+b->c=0->False:=by lia
theorem OE{c b:Nat}:c+1<=b->c<b:=λa=>xd a
theorem OF{c:Nat}{b e:Int}:(↑c:Int)<=b->1<=e->(↑c:Int)+1<=b+e:=λa d=>F0 a d
theorem OG{c:Nat}:c<=63->c<=64:=λa=>bI a rfl
theorem OH{c:Nat}:c=20->c<=16777216:=by lia
theorem OI{c:Nat}:c<4->c.succ<=16777216:=λa=>bI a rfl
theorem OJ{c:Nat}:c<=200->c<256:=by lia
theorem OK{c:Nat}:c<=3->c<=17:=λa=>bI a rfl
theorem OL{c:Nat}:c<=20->c<=100:=λa=>bI a rfl
theorem OM{c:Nat}:c<=17->c<=100:=λa=>bI a rfl
theorem ON{c b:Int}:1<=c->c<=b->1<=b:=λa d=>mo a d
theorem OO{c:Int}:¬c>3->c<=3:=λa=>(λ{c b}=>Int.not_lt.mp) a
theorem OP{c:Nat}:c-3=c-4+1->c%4=3->(c-4)%4=3:=λb a=>by rw[<-mg (show 4<=c from pa b),Z4] at a;exact a
theorem OQ{c:Nat}:c%4=0\/c%4=1\/c%4=2\/c%4=3:=(gB (c%4) 2).elim (λa=>(rG (e2 _) (nC a)).imp id .inl) λa=>.inr (.inr (rG a (nC (eQ _ (cD rfl)))))
theorem OR{c b:Nat}:c<b->b+1-1-c=b-1-c+1:=λa=>(pR a).trans (congrArg (·+1) (by rw[w7,hW 1 c]))
theorem OS{c b:Nat}:c<=32->((↑(c*8):Int)+9)/10=(↑b:Int)->4+b+3<=16777216:=λa d=>bI (dj (dj (c9 4) (pT a d)) (c9 3)) rfl
theorem OT{c:Nat}:c<1024->c/64<2^62:=λa=>cF (pf ..) (fh a rfl)
theorem OU{c b:Nat}:¬((↑c:Int)<1\/b>16)->b.succ<=16777216:=λa=>bI (iv (mL a).2) rfl
theorem OV{c b e q:Nat}:c+2*b=e+q->(↑e:Int)+(↑q:Int)-(↑b:Int)-(↑b:Int)=(↑c:Int):=λa=>by rw[<-ty,<-a,Nat.two_mul,ty,ty,<-Int.add_assoc,ρ,ρ]
theorem OW{c b e:Nat}:c<=100->b<=100->e<=10->0+c+e+b<=100000:=λc b e=>bI (dj (dj (dj (c9 _) c) e) b) rfl
theorem zM{c b:Nat}:c<=10->b<=100->0+b+c<=100000:=λc b=>bI (dj (dj (c9 _) b) c) rfl
theorem OX{c:Nat}:¬c<16->¬(↑(c*8):Int)<(↑128:Int):=λa=>Int.not_lt.mpr (Int.ofNat_le.mpr (ln 8 (Nat.not_lt.mp a)))
theorem zN{c b:Nat}:c<=20->b=c->b<=100:=λa d=>d▸bI a rfl
theorem OY{c b:Nat}:c=b->b<=3->(↑c:Int)<2^63:=λa d=>a▸h7 (cF d (cD rfl))
theorem OZ{c b e q:Nat}:¬c<16->b=e/\q=c->4<=q:=λa d=>d.2▸bZ (cD rfl) (Nat.not_lt.mp a)
theorem O0{c b e q o:Nat}:c<=32->b=c->e=q/\o=b->o<=1000:=λa d f=>f.2▸d▸bI a rfl
theorem O1{c:Nat}:c<=100->(↑c:Int)<2^63:=λa=>h7 (cF a (cD rfl))
theorem zO{c b e:Nat}:c+(b+1)<=e->c+1+b<=e:=λa=>by rw[pb];exact a
theorem O2{c:Nat}:1<=(↑(1+c):Int):=Int.ofNat_le.mpr (mn 1 c)
theorem O3{c b e:Nat}:c<=100->b<=100->e=c->b+e<=16777216:=λa d f=>f▸bI (dj d a) rfl
theorem zP{c b:Nat}:c<=100->b=c->(↑b:Int)<9223372036854775808:=λa d=>d▸h7 (cF a (cD rfl))
theorem uS{c:Nat}:c<=1000->(↑c:Int)<2^62:=λa=>h7 (cF a (cD rfl))
theorem O4{c:Nat}:c<1000->c<=16777216:=λa=>bI (hD a) rfl
theorem O5{c b:Nat}:(↑c:Int)<=16->(↑b:Int)<=(↑c:Int)->b<=20:=λa d=>bI (mK (mo d a)) rfl
theorem O6{c b:Int}:¬c>b->c<=b:=Int.not_lt.mp
theorem pZ{c b e:Nat}:c=b->e<b->e<c:=λa d=>a▸d
theorem O7{c b:Nat}:c<=17->b=c->b.succ<=16777216:=λa d=>d▸bI (iv a) rfl
theorem zQ{c:Nat}:c<=100->c+1<4096:=λa=>cF (iv a) (cD rfl)
theorem O8{c b:Nat}:¬((↑c:Int)<1\/b>16)->b<1000000:=λa=>cF (mL a).2 (cD rfl)
theorem O9{c:Nat}:c<=15->c<2^62:=λa=>cF a (cD rfl)
theorem Pa{c:Nat}:¬c<16->4<=c:=λa=>bZ (cD rfl) (Nat.not_lt.mp a)
theorem Pb{c:Nat}:1<=c/\c<=16->c<200:=λa=>cF a.2 (cD rfl)
theorem Pc{c:Nat}:c=0->c<256:=λa=>a▸cD rfl
theorem zR{c:Nat}:c<=26->c<2^64:=λa=>cF a (cD rfl)
theorem zS{c b e:Nat}:c<=1000->b<c->e=b->e.succ<=16777216:=λa d f=>f▸bI (bZ d a) rfl
theorem rP{c:Nat}:c<=20->c<1000:=λa=>cF a (cD rfl)
theorem Pd{c:Int}{b:Nat}:c<=3->(↑b:Int)<=c->b<=3:=λa d=>mK (mo d a)
theorem Pe{c:Nat}:7+c-3-4=c:=by rw[w7];exact tu ..
theorem Pf{c:Nat}:c<=20->c<900:=λa=>cF a (cD rfl)
theorem Pg{c:Nat}:c+1<c+2:=qY _
theorem Ph{c b:Nat}:c<=1000->b+1=4*c->b<=16777216:=λa d=>bI (bZ (gZ b) (d▸pe 4 a)) rfl
theorem Pj{c b:Nat}:c+1<b+1->c<b:=Nat.lt_of_succ_lt_succ
theorem Pk{c b e:Nat}:c<4->b=c->e=b->(↑e:Int)<=4:=λa d f=>Int.ofNat_le.mpr (f▸d▸hD a)
theorem Pl{c b:Nat}:c=b->¬c<b:=λa=>a▸dn _
noncomputable abbrev y(s:String):Str:=et s
noncomputable def bX(m:Nat):Stmt:=PySem.Challenge.pw_ja0054_01.main.body.getD m (.Pass default)
noncomputable def c4(m l:Nat):Stmt:=match bX m with
 |.ClassDef _ _ _ b _ _ _ _ _ _ _=>b.getD l (.Pass default)
 |s=>s
noncomputable def ay(P:gC)(v:String)(u:aF)(E:p):DictEntry:=⟨tz P (y v),.str (y v) u,E⟩
noncomputable def rQ:bu->al
 |.FunctionDef v _ _ _ _ _ _ _ _ _=>v
 |_=>⟨#[]⟩
noncomputable def p0:bu->ph
 |.FunctionDef _ c _ _ _ _ _ _ _ _=>c
 |_=>default
noncomputable def fv:bu->List bu
 |.FunctionDef _ _ b _ _ _ _ _ _ _=>b
 |_=>[]
noncomputable def d1:bu->bj
 |.FunctionDef _ _ _ _ _ _ a _ _ _=>a
 |_=>default
structure a1 where
 doc:p
 params:ph
 body:tA
 scope:bj
noncomputable def lO:a1:=⟨.none,default,default,default⟩
noncomputable def mN(m:a1)(v t:al)(a b c code d:p)(e:Option x):FuncData:={name:=v,qualname:=t,params:=m.params,body:=m.body,scope:=m.scope,globals:=3,closure:=[],defaults:=a,kwdefaults:=b,doc:=m.doc,pyModule:=c,annotations:=e,code:=code,closureTuple:=d,builtins:=0}
noncomputable def kd(m:a1)(v t:al)(a b c code d:p)(e:Option x):Data:=.func (mN m v t a b c code d e)
noncomputable def oe:List Nat:=[1,3,5,15,17,51,85,255,26,46,114,150,161,248,19,53,95,225,56,72,216,115,149,164,247,2,6,10,30,34,102,170,229,52,92,228,55,89,235,38,106,190,217,112,144,171,230,49,83,245,4,12,20,60,68,204,79,209,104,184,211,110,178,205,76,212,103,169,224,59,77,215,98,166,241,8,24,40,120,136,131,158,185,208,107,189,220,127,129,152,179,206,73,219,118,154,181,196,87,249,16,48,80,240,11,29,39,105,187,214,97,163,254,25,43,125,135,146,173,236,47,113,147,174,233,32,96,160,251,22,58,78,210,109,183,194,93,231,50,86,250,21,63,65,195,94,226,61,71,201,64,192,91,237,44,116,156,191,218,117,159,186,213,100,172,239,42,126,130,157,188,223,122,142,137,128,155,182,193,88,232,35,101,175,234,37,111,177,200,67,197,84,252,31,33,99,165,244,7,9,27,45,119,153,176,203,70,202,69,207,74,222,121,139,134,145,168,227,62,66,198,81,243,14,18,54,90,238,41,123,141,140,143,138,133,148,167,242,13,23,57,75,221,124,132,151,162,253,28,36,108,180,199,82,246]
noncomputable def og:List Nat:=[0,0,25,1,50,2,26,198,75,199,27,104,51,238,223,3,100,4,224,14,52,141,129,239,76,113,8,200,248,105,28,193,125,194,29,181,249,185,39,106,77,228,166,114,154,201,9,120,101,47,138,5,33,15,225,36,18,240,130,69,53,147,218,142,150,143,219,189,54,208,206,148,19,92,210,241,64,70,131,56,102,221,253,48,191,6,139,98,179,37,226,152,34,136,145,16,126,110,72,195,163,182,30,66,58,107,40,84,250,133,61,186,43,121,10,21,155,159,94,202,78,212,172,229,243,115,167,87,175,88,168,80,244,234,214,116,79,174,233,213,231,230,173,232,44,215,117,122,235,22,11,245,89,203,95,176,156,169,81,160,127,12,246,111,23,196,73,236,216,67,31,45,164,118,123,183,204,187,62,90,251,96,177,134,59,82,161,108,170,85,41,157,151,178,135,144,97,190,220,252,188,149,207,205,55,63,91,209,83,57,132,60,65,162,109,71,20,42,158,93,86,242,211,171,68,17,146,217,35,32,46,137,180,124,184,38,119,153,227,165,103,74,237,222,197,49,254,24,13,99,140,128,192,247,112,7]
noncomputable def i0:List Nat->Nat->List p
 |[],_=>[]
 |i::A,u=>.int i u::i0 A (u+1)
noncomputable def uT:Nat->Nat->List Nat->List Nat
 |0,_,c=>c
 |C+1,v,c=>match xf v 0 with
  |true=>c
  |false=>uT C (v/256) (v%256::c)
noncomputable def bS(P:gC)(v:Nat)(u:aF)(E:p):DictEntry:=⟨tz P ⟨(uT 60 v []).toArray⟩,.str ⟨(uT 60 v []).toArray⟩ u,E⟩
noncomputable def hL(A:Nat)(v t:String)(u:Nat)(G l J C S:Int)(aY aC ci co cW:p):Obj:=⟨.type "code",none,.fields #[.str (y v) u,.str (y t) (u+1),.str (y "/claim/cut.py") (u+2),.int G 0,.int l 0,.int J 0,.int 0 0,.int C 0,.ref A,.bool true,.int 181 0,aY,aC,ci,co,cW,.int S 0,.int G 0,.str (y "/claim/cut.py") (S.toNat+1)],#[]⟩
noncomputable def bY(A:Nat)(v t:String)(u:Nat)(G l J C S:Int):Obj:=hL A v t u G l J C S (.ref (A+1)) .none (.ref (A+2)) (.ref (A+3)) (.ref (A+4))
noncomputable def b7(m:a1)(v t:String)(R:p)(e:Nat):Obj:=⟨.type "function",none,kd m (y v) (y t) .none .none R (.ref e) .none none,#[]⟩
noncomputable def Pm:Value:=.str (y "__main__") 164
noncomputable def rU:Value:=.str (y "shamir_mnemonic.utils") 232
noncomputable def p1:Value:=.str (y "shamir_mnemonic.cipher") 292
noncomputable def uU:Value:=.str (y "shamir_mnemonic.rs1024") 359
noncomputable def rV:Value:=.str (y "shamir_mnemonic.wordlist") 387
noncomputable def fF:Value:=.str (y "shamir_mnemonic.share") 482
noncomputable def ew:Value:=.str (y "shamir_mnemonic.shamir") 1051
noncomputable def kX:Value:=.str (y "law_ja0054_01") 2031
noncomputable def Pn(P:gC)(h:x->a1):List (x×V):=[
 (2,⟨.none,none,(.dict #[ay P "type.__subclasses__.Exception.0" 250 (.int 31 0),ay P "type.__subclasses__.Exception.n" 251 (.int 1 0)] 2),#[]⟩),
 (3,⟨(.type "dict"),none,(.dict #[bS P 0x5f5f6e616d655f5f 165 (.str (y "law_ja0054_01") 2031),bS P 0x5f5f646f635f5f 166 (h 3).doc,bS P 0x5f5f7061636b6167655f5f 167 .none,bS P 0x5f5f6c6f616465725f5f 168 (.builtin "__main__.__loader__#opaque"),bS P 0x5f5f737065635f5f 169 .none,bS P 0x5f5f616e6e6f746174696f6e735f5f 170 (.ref 6),bS P 0x5f5f6275696c74696e735f5f 171 (.ref 4),bS P 0x5f5f66696c655f5f 173 (.str (y "/claim/cut.py") 172),bS P 0x5f5f6361636865645f5f 174 .none,bS P 0x5f77616c6c 193 (.ref 21),bS P 0x52414449585f42495453 195 (.int 10 194),bS P 0x5241444958 197 (.int 1024 196),bS P 0x49445f4c454e4754485f42495453 199 (.int 15 198),bS P 0x455854454e4441424c455f464c41475f4c454e4754485f42495453 201 (.int 1 200),bS P 0x495445524154494f4e5f4558505f4c454e4754485f42495453 203 (.int 4 202),bS P 0x49445f4558505f4c454e4754485f574f524453 205 (.int 2 204),bS P 0x4d41585f53484152455f434f554e54 207 (.int 16 206),bS P 0x434845434b53554d5f4c454e4754485f574f524453 209 (.int 3 208),bS P 0x4449474553545f4c454e4754485f4259544553 211 (.int 4 210),bS P 0x435553544f4d495a4154494f4e5f535452494e475f4f524947 213 (.bytes #[115,104,97,109,105,114] 212),bS P 0x435553544f4d495a4154494f4e5f535452494e475f455854454e4441424c45 215 (.bytes #[115,104,97,109,105,114,95,101,120,116,101,110,100,97,98,108,101] 214),bS P 0x47524f55505f5052454649585f4c454e4754485f574f524453 217 (.int 3 216),bS P 0x4d455441444154415f4c454e4754485f574f524453 219 (.int 7 218),bS P 0x4d494e5f535452454e4754485f42495453 221 (.int 128 220),bS P 0x4d494e5f4d4e454d4f4e49435f4c454e4754485f574f524453 223 (.int 20 222),bS P 0x424153455f495445524154494f4e5f434f554e54 225 (.int 10000 224),bS P 0x524f554e445f434f554e54 227 (.int 4 226),bS P 0x5345435245545f494e444558 229 (.int 255 228),bS P 0x4449474553545f494e444558 231 (.int 254 230),bS P 0x4d6e656d6f6e69634572726f72 253 (.ref 31),bS P 0x5f726f756e645f62697473 262 (.ref 41),bS P 0x626974735f746f5f6279746573 270 (.ref 48),bS P 0x626974735f746f5f776f726473 278 (.ref 55),bS P 0x696e745f746f5f696e6469636573 291 (.ref 62),bS P 0x5f786f72 301 (.ref 69),bS P 0x5f726f756e645f66756e6374696f6e 314 (.ref 76),bS P 0x5f6765745f73616c74 323 (.ref 83),bS P 0x656e6372797074 340 (.ref 90),bS P 0x64656372797074 357 (.ref 97),bS P 0x646563727970745f636970686572 358 (.ref 97),bS P 0x5f706f6c796d6f64 372 (.ref 104),bS P 0x6372656174655f636865636b73756d 378 (.ref 109),bS P 0x7665726966795f636865636b73756d 386 (.ref 116),bS P 0x5f4f55544552 390 (.str (y "bdfghjklmnprstvz") 389),bS P 0x5f494e4e4552 392 (.str (y "aiou") 391),bS P 0x5f4f555445525f494e4445585f4d4150 441 (.ref 117),bS P 0x5f494e4e45525f494e4445585f4d4150 454 (.ref 118),bS P 0x5f776f7264 461 (.ref 125),bS P 0x5f696e646578 468 (.ref 132),bS P 0x776f7264735f66726f6d5f696e6469636573 475 (.ref 139),bS P 0x6d6e656d6f6e69635f746f5f696e6469636573 481 (.ref 144),bS P 0x5f7475706c65676574746572 540 (.ref 493),bS P 0x7475706c656765747465725f7368617265 541 (.ref 183),bS P 0x5f696e745f746f5f776f72645f696e6469636573 550 (.ref 194),bS P 0x5f696e745f66726f6d5f776f72645f696e6469636573 560 (.ref 201),bS P 0x5f637573746f6d697a6174696f6e5f737472696e67 567 (.ref 208),bS P 0x5368617265436f6d6d6f6e506172616d6574657273 721 (.ref 285),bS P 0x536861726547726f7570506172616d6574657273 901 (.ref 371),bS P 0x5368617265 1050 (.ref 450),bS P 0x7475706c656765747465725f7368616d6972 1110 (.ref 493),bS P 0x5261775368617265 1225 (.ref 565),bS P 0x536861726547726f7570 1332 (.ref 660),bS P 0x456e637279707465644d6173746572536563726574 1411 (.ref 705),bS P 0x5f4558505f5441424c455f3030 1540 (.ref 710),bS P 0x5f4558505f5441424c455f3031 1668 (.ref 711),bS P 0x4558505f5441424c45 1669 (.ref 712),bS P 0x5f4c4f475f5441424c455f3030 1798 (.ref 713),bS P 0x5f4c4f475f5441424c455f3031 1927 (.ref 714),bS P 0x4c4f475f5441424c45 1928 (.ref 715),bS P 0x5f696e746572706f6c617465 1944 (.ref 722),bS P 0x5f6372656174655f646967657374 1953 (.ref 729),bS P 0x5f73706c69745f736563726574 1959 (.ref 734),bS P 0x5f7265636f7665725f736563726574 1972 (.ref 741),bS P 0x6465636f64655f6d6e656d6f6e696373 1984 (.ref 748),bS P 0x73706c69745f656d73 1991 (.ref 753),bS P 0x5f72616e646f6d5f6964656e746966696572 2000 (.ref 760),bS P 0x67656e65726174655f6d6e656d6f6e696373 2009 (.ref 766),bS P 0x7265636f7665725f656d73 2016 (.ref 771),bS P 0x636f6d62696e655f6d6e656d6f6e696373 2030 (.ref 779),bS P 0x5f6c61775f66656564 2041 (.ref 786),bS P 0x5f6c61775f64726177 2049 (.ref 793),bS P 0x5f6c61775f6f6374657473 2060 (.ref 800),bS P 0x5f6c61775f7365616c 2070 (.ref 807),bS P 0x5f6c61775f73747265746368 2076 (.ref 812),bS P 0x5f6c61775f7061697273 2087 (.ref 819),bS P 0x5f6c61775f72656675736564 2093 (.ref 824),bS P 0x5f6c61775f636f6d62696e6564 2101 (.ref 831),bS P 0x6c6177 2107 (.ref 836)] 88),#[]⟩),
 (4,⟨.type "module",some 0,.plain,#[]⟩),
 (20,bY 15 "_wall" "_wall" 187 1 1 0 3 191),
 (21,b7 (h 21) "_wall" "_wall" Pm 20),
 (30,⟨(.type "dict"),none,(.dict #[ay P "__module__" 241 (.str (y "shamir_mnemonic.utils") 232),ay P "__firstlineno__" 245 (.int 24 244),ay P "__static_attributes__" 246 (.ref 29),ay P "__weakref__" 248 (.ref 32),ay P "__doc__" 249 (h 30).doc] 3),#[]⟩),
 (31,⟨(.type "type"),none,(.cls ⟨(y "MnemonicError"),[(.type "Exception")],[(.ref 31),(.type "Exception"),(.type "BaseException"),(.type "object")],30,(y "MnemonicError"),true,[],[],false,none,false⟩),#[(some (.ref 22)),none,(some (.str (y "MnemonicError") 234)),(some (.str (y "MnemonicError") 242)),(some (.builtin "Exception.__new__")),(some (.bool true))]⟩),
 (40,bY 35 "_round_bits" "_round_bits" 254 26 2 0 3 259),
 (41,b7 (h 41) "_round_bits" "_round_bits" rU 40),
 (47,bY 42 "bits_to_bytes" "bits_to_bytes" 263 29 1 0 3 267),
 (48,b7 (h 48) "bits_to_bytes" "bits_to_bytes" rU 47),
 (54,bY 49 "bits_to_words" "bits_to_words" 271 32 1 0 3 275),
 (55,b7 (h 55) "bits_to_words" "bits_to_words" rU 54),
 (61,bY 56 "int_to_indices" "int_to_indices" 279 35 3 0 3 288),
 (62,b7 (h 62) "int_to_indices" "int_to_indices" rU 61),
 (68,bY 63 "_xor" "_xor" 294 40 2 0 3 299),
 (69,b7 (h 69) "_xor" "_xor" p1 68),
 (75,bY 70 "_round_function" "_round_function" 302 42 6 0 3 311),
 (76,b7 (h 76) "_round_function" "_round_function" p1 75),
 (82,bY 77 "_get_salt" "_get_salt" 315 45 2 0 3 321),
 (83,b7 (h 83) "_get_salt" "_get_salt" p1 82),
 (89,bY 84 "encrypt" "encrypt" 324 50 6 0 3 338),
 (90,b7 (h 90) "encrypt" "encrypt" p1 89),
 (96,bY 91 "decrypt" "decrypt" 341 60 6 0 3 355),
 (97,b7 (h 97) "decrypt" "decrypt" p1 96),
 (103,bY 98 "_polymod" "_polymod" 361 72 1 0 3 370),
 (104,b7 (h 104) "_polymod" "_polymod" uU 103),
 (108,hL 105 "create_checksum" "create_checksum" 373 81 2 0 3 376 (.ref 106) .none .none .none (.ref 107)),
 (109,b7 (h 109) "create_checksum" "create_checksum" uU 108),
 (115,bY 110 "verify_checksum" "verify_checksum" 379 85 2 0 3 384),
 (116,b7 (h 116) "verify_checksum" "verify_checksum" uU 115),
 (117,⟨(.type "dict"),none,(.dict #[ay P "b" 393 (.int 0 394),ay P "d" 396 (.int 1 397),ay P "f" 399 (.int 2 400),ay P "g" 402 (.int 3 403),ay P "h" 405 (.int 4 406),ay P "j" 408 (.int 5 409),ay P "k" 411 (.int 6 412),ay P "l" 414 (.int 7 415),ay P "m" 417 (.int 8 418),ay P "n" 420 (.int 9 421),ay P "p" 423 (.int 10 424),ay P "r" 426 (.int 11 427),ay P "s" 429 (.int 12 430),ay P "t" 432 (.int 13 433),ay P "v" 435 (.int 14 436),ay P "z" 438 (.int 15 439)] 16),#[]⟩),
 (118,⟨(.type "dict"),none,(.dict #[ay P "a" 442 (.int 0 443),ay P "i" 444 (.int 1 445),ay P "o" 446 (.int 2 447),ay P "u" 448 (.int 3 449)] 4),#[]⟩),
 (124,bY 119 "_word" "_word" 455 92 1 0 3 459),
 (125,b7 (h 125) "_word" "_word" rV 124),
 (131,bY 126 "_index" "_index" 462 94 1 0 3 466),
 (132,b7 (h 132) "_index" "_index" rV 131),
 (138,bY 133 "words_from_indices" "words_from_indices" 469 98 1 0 3 473),
 (139,b7 (h 139) "words_from_indices" "words_from_indices" rV 138),
 (143,hL 140 "mnemonic_to_indices" "mnemonic_to_indices" 476 100 1 0 3 479 (.ref 141) .none .none .none (.ref 142)),
 (144,b7 (h 144) "mnemonic_to_indices" "mnemonic_to_indices" rV 143)]
noncomputable def Po(P:gC)(h:x->a1):List (x×V):=[
 (157,bY 152 "__init__" "_tuplegetter.__init__" 496 108 3 0 3 502),
 (158,b7 (h 158) "__init__" "_tuplegetter.__init__" fF 157),
 (159,⟨(.type "tuple"),none,(.seq #[.none] 0),#[]⟩),
 (165,bY 160 "__get__" "_tuplegetter.__get__" 505 112 3 0 3 511),
 (166,⟨(.type "function"),none,(kd (h 166) (y "__get__") (y "_tuplegetter.__get__") (.ref 159) .none (.str (y "shamir_mnemonic.share") 482) (.ref 165) .none none),#[]⟩),
 (172,bY 167 "__set__" "_tuplegetter.__set__" 514 119 3 0 3 520),
 (173,b7 (h 173) "__set__" "_tuplegetter.__set__" fF 172),
 (179,bY 174 "__delete__" "_tuplegetter.__delete__" 523 122 2 0 3 528),
 (180,b7 (h 180) "__delete__" "_tuplegetter.__delete__" fF 179),
 (182,⟨(.type "dict"),none,(.dict #[ay P "__module__" 491 (.str (y "shamir_mnemonic.share") 482),ay P "__firstlineno__" 495 (.int 106 494),ay P "__init__" 504 (.ref 158),ay P "__get__" 513 (.ref 166),ay P "__set__" 522 (.ref 173),ay P "__delete__" 530 (.ref 180),ay P "__static_attributes__" 533 (.ref 181),ay P "__dict__" 535 (.ref 184),ay P "__weakref__" 537 (.ref 185),ay P "__doc__" 538 (h 182).doc] 4),#[]⟩),
 (183,⟨(.type "type"),none,(.cls ⟨(y "_tuplegetter"),[(.type "object")],[(.ref 183),(.type "object")],182,(y "_tuplegetter"),true,[],[],false,none,false⟩),#[none,none,(some (.str (y "_tuplegetter") 484)),(some (.str (y "_tuplegetter") 492)),(some (.builtin "object.__new__")),(some (.bool true))]⟩),
 (193,bY 188 "_int_to_word_indices" "_int_to_word_indices" 542 125 2 0 3 547),
 (194,b7 (h 194) "_int_to_word_indices" "_int_to_word_indices" fF 193),
 (200,bY 195 "_int_from_word_indices" "_int_from_word_indices" 551 128 1 0 3 557),
 (201,b7 (h 201) "_int_from_word_indices" "_int_from_word_indices" fF 200),
 (207,bY 202 "_customization_string" "_customization_string" 561 134 1 0 3 565),
 (208,b7 (h 208) "_customization_string" "_customization_string" fF 207),
 (225,bY 220 "__new__" "ShareCommonParameters.__new__" 591 145 6 0 3 600),
 (226,b7 (h 226) "__new__" "ShareCommonParameters.__new__" fF 225),
 (232,bY 227 "_make" "ShareCommonParameters._make" 604 149 2 0 3 610),
 (233,⟨(.type "function"),none,(kd (h 233) (y "_make") (y "ShareCommonParameters._make") .none .none (.str (y "shamir_mnemonic.share") 482) (.ref 232) .none (some 236)),#[]⟩),
 (235,⟨(.type "classmethod"),(some 234),(.fields #[(.ref 233),(.bool false)]),#[]⟩),
 (243,bY 238 "_replace" "ShareCommonParameters._replace" 626 157 1 1 11 633),
 (250,bY 245 "__repr__" "ShareCommonParameters.__repr__" 638 168 1 0 3 642),
 (251,b7 (h 251) "__repr__" "ShareCommonParameters.__repr__" fF 250),
 (257,bY 252 "_asdict" "ShareCommonParameters._asdict" 646 172 1 0 3 650),
 (258,b7 (h 258) "_asdict" "ShareCommonParameters._asdict" fF 257),
 (264,bY 259 "__getnewargs__" "ShareCommonParameters.__getnewargs__" 653 175 1 0 3 657),
 (265,b7 (h 265) "__getnewargs__" "ShareCommonParameters.__getnewargs__" fF 264),
 (267,⟨(.type "dict"),none,(.dict #[ay P "index" 673 (.int 0 667),ay P "__doc__" 675 (h 267).doc] 2),#[]⟩),
 (268,⟨(.ref 183),(some 267),.plain,#[]⟩),
 (270,⟨(.type "dict"),none,(.dict #[ay P "index" 683 (.int 1 677),ay P "__doc__" 685 (h 270).doc] 2),#[]⟩),
 (271,⟨(.ref 183),(some 270),.plain,#[]⟩),
 (273,⟨(.type "dict"),none,(.dict #[ay P "index" 693 (.int 2 687),ay P "__doc__" 695 (h 273).doc] 2),#[]⟩),
 (274,⟨(.ref 183),(some 273),.plain,#[]⟩),
 (276,⟨(.type "dict"),none,(.dict #[ay P "index" 703 (.int 3 697),ay P "__doc__" 705 (h 276).doc] 2),#[]⟩),
 (277,⟨(.ref 183),(some 276),.plain,#[]⟩),
 (279,⟨(.type "dict"),none,(.dict #[ay P "index" 713 (.int 4 707),ay P "__doc__" 715 (h 279).doc] 2),#[]⟩),
 (280,⟨(.ref 183),(some 279),.plain,#[]⟩),
 (284,⟨(.type "dict"),none,(.dict #[ay P "__module__" 575 (.str (y "shamir_mnemonic.share") 482),ay P "__firstlineno__" 579 (.int 139 578),ay P "__doc__" 581 (h 284).doc,ay P "__slots__" 583 (.ref 217),ay P "_fields" 589 (.ref 218),ay P "_field_defaults" 590 (.ref 219),ay P "__new__" 603 (.ref 286),ay P "_make" 625 (.ref 235),ay P "_replace" 636 (.ref 244),ay P "__replace__" 637 (.ref 244),ay P "__repr__" 645 (.ref 251),ay P "_asdict" 652 (.ref 258),ay P "__getnewargs__" 660 (.ref 265),ay P "__match_args__" 666 (.ref 266),ay P "identifier" 676 (.ref 268),ay P "extendable" 686 (.ref 271),ay P "iteration_exponent" 696 (.ref 274),ay P "group_threshold" 706 (.ref 277),ay P "group_count" 716 (.ref 280),ay P "__static_attributes__" 717 (.ref 282)] 2),#[]⟩),
 (285,⟨(.type "type"),none,(.cls ⟨(y "ShareCommonParameters"),[(.type "tuple")],[(.ref 285),(.type "tuple"),(.type "object")],284,(y "ShareCommonParameters"),false,[],[],false,none,false⟩),#[(some (.ref 209)),none,(some (.str (y "ShareCommonParameters") 568)),(some (.str (y "ShareCommonParameters") 576)),(some .none),(some (.bool false))]⟩)]
noncomputable def Pp(P:gC)(h:x->a1):List (x×V):=[
 (286,⟨(.type "staticmethod"),none,(.fields #[(.ref 226)]),#[]⟩),
 (305,bY 300 "__new__" "ShareGroupParameters.__new__" 747 190 8 0 3 758),
 (306,b7 (h 306) "__new__" "ShareGroupParameters.__new__" fF 305),
 (312,bY 307 "_make" "ShareGroupParameters._make" 762 194 2 0 3 768),
 (313,⟨(.type "function"),none,(kd (h 313) (y "_make") (y "ShareGroupParameters._make") .none .none (.str (y "shamir_mnemonic.share") 482) (.ref 312) .none (some 316)),#[]⟩),
 (315,⟨(.type "classmethod"),(some 314),(.fields #[(.ref 313),(.bool false)]),#[]⟩),
 (323,bY 318 "_replace" "ShareGroupParameters._replace" 784 202 1 1 11 791),
 (330,bY 325 "__repr__" "ShareGroupParameters.__repr__" 796 213 1 0 3 800),
 (331,b7 (h 331) "__repr__" "ShareGroupParameters.__repr__" fF 330),
 (337,bY 332 "_asdict" "ShareGroupParameters._asdict" 804 217 1 0 3 808),
 (338,b7 (h 338) "_asdict" "ShareGroupParameters._asdict" fF 337),
 (344,bY 339 "__getnewargs__" "ShareGroupParameters.__getnewargs__" 811 220 1 0 3 815),
 (345,b7 (h 345) "__getnewargs__" "ShareGroupParameters.__getnewargs__" fF 344),
 (347,⟨(.type "dict"),none,(.dict #[ay P "index" 833 (.int 0 827),ay P "__doc__" 835 (h 347).doc] 2),#[]⟩),
 (348,⟨(.ref 183),(some 347),.plain,#[]⟩),
 (350,⟨(.type "dict"),none,(.dict #[ay P "index" 843 (.int 1 837),ay P "__doc__" 845 (h 350).doc] 2),#[]⟩),
 (351,⟨(.ref 183),(some 350),.plain,#[]⟩),
 (353,⟨(.type "dict"),none,(.dict #[ay P "index" 853 (.int 2 847),ay P "__doc__" 855 (h 353).doc] 2),#[]⟩),
 (354,⟨(.ref 183),(some 353),.plain,#[]⟩),
 (356,⟨(.type "dict"),none,(.dict #[ay P "index" 863 (.int 3 857),ay P "__doc__" 865 (h 356).doc] 2),#[]⟩),
 (357,⟨(.ref 183),(some 356),.plain,#[]⟩),
 (359,⟨(.type "dict"),none,(.dict #[ay P "index" 873 (.int 4 867),ay P "__doc__" 875 (h 359).doc] 2),#[]⟩),
 (360,⟨(.ref 183),(some 359),.plain,#[]⟩),
 (362,⟨(.type "dict"),none,(.dict #[ay P "index" 883 (.int 5 877),ay P "__doc__" 885 (h 362).doc] 2),#[]⟩),
 (363,⟨(.ref 183),(some 362),.plain,#[]⟩),
 (365,⟨(.type "dict"),none,(.dict #[ay P "index" 893 (.int 6 887),ay P "__doc__" 895 (h 365).doc] 2),#[]⟩),
 (366,⟨(.ref 183),(some 365),.plain,#[]⟩),
 (370,⟨(.type "dict"),none,(.dict #[ay P "__module__" 729 (.str (y "shamir_mnemonic.share") 482),ay P "__firstlineno__" 733 (.int 184 732),ay P "__doc__" 735 (h 370).doc,ay P "__slots__" 737 (.ref 297),ay P "_fields" 745 (.ref 298),ay P "_field_defaults" 746 (.ref 299),ay P "__new__" 761 (.ref 372),ay P "_make" 783 (.ref 315),ay P "_replace" 794 (.ref 324),ay P "__replace__" 795 (.ref 324),ay P "__repr__" 803 (.ref 331),ay P "_asdict" 810 (.ref 338),ay P "__getnewargs__" 818 (.ref 345),ay P "__match_args__" 826 (.ref 346),ay P "identifier" 836 (.ref 348),ay P "extendable" 846 (.ref 351),ay P "iteration_exponent" 856 (.ref 354),ay P "group_index" 866 (.ref 357),ay P "group_threshold" 876 (.ref 360),ay P "group_count" 886 (.ref 363),ay P "member_threshold" 896 (.ref 366),ay P "__static_attributes__" 897 (.ref 368)] 2),#[]⟩),
 (371,⟨(.type "type"),none,(.cls ⟨(y "ShareGroupParameters"),[(.type "tuple")],[(.ref 371),(.type "tuple"),(.type "object")],370,(y "ShareGroupParameters"),false,[],[],false,none,false⟩),#[(some (.ref 289)),none,(some (.str (y "ShareGroupParameters") 722)),(some (.str (y "ShareGroupParameters") 730)),(some .none),(some (.bool false))]⟩),
 (372,⟨(.type "staticmethod"),none,(.fields #[(.ref 306)]),#[]⟩),
 (387,bY 382 "__init__" "Share.__init__" 917 234 10 0 3 930),
 (388,b7 (h 388) "__init__" "Share.__init__" fF 387),
 (394,bY 389 "__eq__" "Share.__eq__" 933 245 2 0 3 938),
 (395,b7 (h 395) "__eq__" "Share.__eq__" fF 394),
 (401,bY 396 "common_parameters" "Share.common_parameters" 941 248 1 0 3 945),
 (402,b7 (h 402) "common_parameters" "Share.common_parameters" fF 401),
 (408,bY 403 "group_parameters" "Share.group_parameters" 949 252 1 0 3 953),
 (409,b7 (h 409) "group_parameters" "Share.group_parameters" fF 408),
 (415,bY 410 "_encode_id_exp" "Share._encode_id_exp" 957 256 1 0 3 962),
 (416,b7 (h 416) "_encode_id_exp" "Share._encode_id_exp" fF 415)]
noncomputable def Pq(P:gC)(h:x->a1):List (x×V):=[
 (422,bY 417 "_encode_share_params" "Share._encode_share_params" 965 262 1 0 3 970),
 (423,b7 (h 423) "_encode_share_params" "Share._encode_share_params" fF 422),
 (429,bY 424 "words" "Share.words" 973 274 1 0 3 982),
 (430,b7 (h 430) "words" "Share.words" fF 429),
 (436,bY 431 "mnemonic" "Share.mnemonic" 986 283 1 0 3 990),
 (437,b7 (h 437) "mnemonic" "Share.mnemonic" fF 436),
 (443,bY 438 "from_mnemonic" "Share.from_mnemonic" 994 287 2 0 3 1018),
 (444,⟨(.type "function"),none,(kd (h 444) (y "from_mnemonic") (y "Share.from_mnemonic") .none .none (.str (y "shamir_mnemonic.share") 482) (.ref 443) .none (some 447)),#[]⟩),
 (446,⟨(.type "classmethod"),(some 445),(.fields #[(.ref 444),(.bool false)]),#[]⟩),
 (449,⟨(.type "dict"),none,(.dict #[ay P "__module__" 909 (.str (y "shamir_mnemonic.share") 482),ay P "__firstlineno__" 913 (.int 231 912),ay P "__doc__" 915 (h 449).doc,ay P "__init__" 932 (.ref 388),ay P "__eq__" 940 (.ref 395),ay P "common_parameters" 948 (.ref 402),ay P "group_parameters" 956 (.ref 409),ay P "_encode_id_exp" 964 (.ref 416),ay P "_encode_share_params" 972 (.ref 423),ay P "words" 985 (.ref 430),ay P "mnemonic" 993 (.ref 437),ay P "from_mnemonic" 1033 (.ref 446),ay P "__static_attributes__" 1043 (.ref 448),ay P "__dict__" 1045 (.ref 451),ay P "__weakref__" 1047 (.ref 452),ay P "__hash__" 1048 .none] 4),#[]⟩),
 (450,⟨(.type "type"),none,(.cls ⟨(y "Share"),[(.type "object")],[(.ref 450),(.type "object")],449,(y "Share"),true,[],[],false,none,false⟩),#[none,none,(some (.str (y "Share") 902)),(some (.str (y "Share") 910)),(some (.builtin "object.__new__")),(some (.bool true))]⟩),
 (467,bY 462 "__init__" "_tuplegetter.__init__" 1065 320 3 0 3 1071),
 (468,b7 (h 468) "__init__" "_tuplegetter.__init__" ew 467),
 (469,⟨(.type "tuple"),none,(.seq #[.none] 0),#[]⟩),
 (475,bY 470 "__get__" "_tuplegetter.__get__" 1074 324 3 0 3 1080),
 (476,⟨(.type "function"),none,(kd (h 476) (y "__get__") (y "_tuplegetter.__get__") (.ref 469) .none (.str (y "shamir_mnemonic.shamir") 1051) (.ref 475) .none none),#[]⟩),
 (482,bY 477 "__set__" "_tuplegetter.__set__" 1083 331 3 0 3 1089),
 (483,b7 (h 483) "__set__" "_tuplegetter.__set__" ew 482),
 (489,bY 484 "__delete__" "_tuplegetter.__delete__" 1092 334 2 0 3 1097),
 (490,b7 (h 490) "__delete__" "_tuplegetter.__delete__" ew 489),
 (492,⟨(.type "dict"),none,(.dict #[ay P "__module__" 1060 (.str (y "shamir_mnemonic.shamir") 1051),ay P "__firstlineno__" 1064 (.int 318 1063),ay P "__init__" 1073 (.ref 468),ay P "__get__" 1082 (.ref 476),ay P "__set__" 1091 (.ref 483),ay P "__delete__" 1099 (.ref 490),ay P "__static_attributes__" 1102 (.ref 491),ay P "__dict__" 1104 (.ref 494),ay P "__weakref__" 1106 (.ref 495),ay P "__doc__" 1107 (h 492).doc] 4),#[]⟩),
 (493,⟨(.type "type"),none,(.cls ⟨(y "_tuplegetter"),[(.type "object")],[(.ref 493),(.type "object")],492,(y "_tuplegetter"),true,[],[],false,none,false⟩),#[none,none,(some (.str (y "_tuplegetter") 1053)),(some (.str (y "_tuplegetter") 1061)),(some (.builtin "object.__new__")),(some (.bool true))]⟩),
 (514,bY 509 "__new__" "RawShare.__new__" 1131 343 3 0 3 1137),
 (515,b7 (h 515) "__new__" "RawShare.__new__" ew 514),
 (521,bY 516 "_make" "RawShare._make" 1141 347 2 0 3 1147),
 (522,⟨(.type "function"),none,(kd (h 522) (y "_make") (y "RawShare._make") .none .none (.str (y "shamir_mnemonic.shamir") 1051) (.ref 521) .none (some 525)),#[]⟩),
 (524,⟨(.type "classmethod"),(some 523),(.fields #[(.ref 522),(.bool false)]),#[]⟩),
 (532,bY 527 "_replace" "RawShare._replace" 1163 355 1 1 11 1170),
 (539,bY 534 "__repr__" "RawShare.__repr__" 1175 366 1 0 3 1179),
 (540,b7 (h 540) "__repr__" "RawShare.__repr__" ew 539),
 (546,bY 541 "_asdict" "RawShare._asdict" 1183 370 1 0 3 1187),
 (547,b7 (h 547) "_asdict" "RawShare._asdict" ew 546),
 (553,bY 548 "__getnewargs__" "RawShare.__getnewargs__" 1190 373 1 0 3 1194),
 (554,b7 (h 554) "__getnewargs__" "RawShare.__getnewargs__" ew 553),
 (556,⟨(.type "dict"),none,(.dict #[ay P "index" 1207 (.int 0 1201),ay P "__doc__" 1209 (h 556).doc] 2),#[]⟩),
 (557,⟨(.ref 493),(some 556),.plain,#[]⟩),
 (559,⟨(.type "dict"),none,(.dict #[ay P "index" 1217 (.int 1 1211),ay P "__doc__" 1219 (h 559).doc] 2),#[]⟩),
 (560,⟨(.ref 493),(some 559),.plain,#[]⟩),
 (564,⟨(.type "dict"),none,(.dict #[ay P "__module__" 1118 (.str (y "shamir_mnemonic.shamir") 1051),ay P "__firstlineno__" 1122 (.int 337 1121),ay P "__doc__" 1124 (h 564).doc,ay P "__slots__" 1126 (.ref 506),ay P "_fields" 1129 (.ref 507),ay P "_field_defaults" 1130 (.ref 508),ay P "__new__" 1140 (.ref 566),ay P "_make" 1162 (.ref 524),ay P "_replace" 1173 (.ref 533),ay P "__replace__" 1174 (.ref 533),ay P "__repr__" 1182 (.ref 540),ay P "_asdict" 1189 (.ref 547),ay P "__getnewargs__" 1197 (.ref 554),ay P "__match_args__" 1200 (.ref 555),ay P "x" 1210 (.ref 557),ay P "data" 1220 (.ref 560),ay P "__static_attributes__" 1221 (.ref 562)] 2),#[]⟩),
 (565,⟨(.type "type"),none,(.cls ⟨(y "RawShare"),[(.type "tuple")],[(.ref 565),(.type "tuple"),(.type "object")],564,(y "RawShare"),false,[],[],false,none,false⟩),#[(some (.ref 498)),none,(some (.str (y "RawShare") 1111)),(some (.str (y "RawShare") 1119)),(some .none),(some (.bool false))]⟩),
 (566,⟨(.type "staticmethod"),none,(.fields #[(.ref 515)]),#[]⟩)]
noncomputable def Pr(P:gC)(h:x->a1):List (x×V):=[
 (581,bY 576 "__init__" "ShareGroup.__init__" 1238 381 1 0 3 1242),
 (582,b7 (h 582) "__init__" "ShareGroup.__init__" ew 581),
 (588,bY 583 "__iter__" "ShareGroup.__iter__" 1245 384 1 0 35 1250),
 (589,b7 (h 589) "__iter__" "ShareGroup.__iter__" ew 588),
 (595,bY 590 "__len__" "ShareGroup.__len__" 1253 388 1 0 3 1257),
 (596,b7 (h 596) "__len__" "ShareGroup.__len__" ew 595),
 (602,bY 597 "__bool__" "ShareGroup.__bool__" 1260 391 1 0 3 1264),
 (603,b7 (h 603) "__bool__" "ShareGroup.__bool__" ew 602),
 (609,bY 604 "__contains__" "ShareGroup.__contains__" 1267 394 2 0 3 1272),
 (610,b7 (h 610) "__contains__" "ShareGroup.__contains__" ew 609),
 (616,bY 611 "add" "ShareGroup.add" 1275 397 2 0 3 1280),
 (617,b7 (h 617) "add" "ShareGroup.add" ew 616),
 (621,hL 618 "to_raw_shares" "ShareGroup.to_raw_shares" 1283 403 1 0 3 1286 (.ref 619) .none .none .none (.ref 620)),
 (622,b7 (h 622) "to_raw_shares" "ShareGroup.to_raw_shares" ew 621),
 (628,bY 623 "get_minimal_group" "ShareGroup.get_minimal_group" 1289 406 1 0 3 1293),
 (629,b7 (h 629) "get_minimal_group" "ShareGroup.get_minimal_group" ew 628),
 (635,bY 630 "common_parameters" "ShareGroup.common_parameters" 1296 409 1 0 3 1300),
 (636,b7 (h 636) "common_parameters" "ShareGroup.common_parameters" ew 635),
 (642,bY 637 "group_parameters" "ShareGroup.group_parameters" 1303 412 1 0 3 1307),
 (643,b7 (h 643) "group_parameters" "ShareGroup.group_parameters" ew 642),
 (649,bY 644 "member_threshold" "ShareGroup.member_threshold" 1310 415 1 0 3 1314),
 (650,b7 (h 650) "member_threshold" "ShareGroup.member_threshold" ew 649),
 (656,bY 651 "is_complete" "ShareGroup.is_complete" 1317 418 1 0 3 1321),
 (657,b7 (h 657) "is_complete" "ShareGroup.is_complete" ew 656),
 (659,⟨(.type "dict"),none,(.dict #[ay P "__module__" 1233 (.str (y "shamir_mnemonic.shamir") 1051),ay P "__firstlineno__" 1237 (.int 379 1236),ay P "__init__" 1244 (.ref 582),ay P "__iter__" 1252 (.ref 589),ay P "__len__" 1259 (.ref 596),ay P "__bool__" 1266 (.ref 603),ay P "__contains__" 1274 (.ref 610),ay P "add" 1282 (.ref 617),ay P "to_raw_shares" 1288 (.ref 622),ay P "get_minimal_group" 1295 (.ref 629),ay P "common_parameters" 1302 (.ref 636),ay P "group_parameters" 1309 (.ref 643),ay P "member_threshold" 1316 (.ref 650),ay P "is_complete" 1323 (.ref 657),ay P "__static_attributes__" 1325 (.ref 658),ay P "__dict__" 1327 (.ref 661),ay P "__weakref__" 1329 (.ref 662),ay P "__doc__" 1330 (h 659).doc] 4),#[]⟩),
 (660,⟨(.type "type"),none,(.cls ⟨(y "ShareGroup"),[(.type "object")],[(.ref 660),(.type "object")],659,(y "ShareGroup"),true,[],[],false,none,false⟩),#[none,none,(some (.str (y "ShareGroup") 1226)),(some (.str (y "ShareGroup") 1234)),(some (.builtin "object.__new__")),(some (.bool true))]⟩),
 (677,bY 672 "__init__" "EncryptedMasterSecret.__init__" 1345 422 5 0 3 1353),
 (678,b7 (h 678) "__init__" "EncryptedMasterSecret.__init__" ew 677),
 (684,bY 679 "__eq__" "EncryptedMasterSecret.__eq__" 1356 428 2 0 3 1361),
 (685,b7 (h 685) "__eq__" "EncryptedMasterSecret.__eq__" ew 684),
 (691,bY 686 "from_master_secret" "EncryptedMasterSecret.from_master_secret" 1364 431 7 0 3 1375),
 (692,⟨(.type "function"),none,(kd (h 692) (y "from_master_secret") (y "EncryptedMasterSecret.from_master_secret") .none .none (.str (y "shamir_mnemonic.shamir") 1051) (.ref 691) .none (some 695)),#[]⟩),
 (694,⟨(.type "classmethod"),(some 693),(.fields #[(.ref 692),(.bool false)]),#[]⟩),
 (701,bY 696 "decrypt" "EncryptedMasterSecret.decrypt" 1390 436 3 0 3 1396),
 (702,b7 (h 702) "decrypt" "EncryptedMasterSecret.decrypt" ew 701),
 (704,⟨(.type "dict"),none,(.dict #[ay P "__module__" 1340 (.str (y "shamir_mnemonic.shamir") 1051),ay P "__firstlineno__" 1344 (.int 420 1343),ay P "__init__" 1355 (.ref 678),ay P "__eq__" 1363 (.ref 685),ay P "from_master_secret" 1389 (.ref 694),ay P "decrypt" 1398 (.ref 702),ay P "__static_attributes__" 1403 (.ref 703),ay P "__dict__" 1405 (.ref 706),ay P "__weakref__" 1407 (.ref 707),ay P "__doc__" 1408 (h 704).doc,ay P "__hash__" 1409 .none] 5),#[]⟩),
 (705,⟨(.type "type"),none,(.cls ⟨(y "EncryptedMasterSecret"),[(.type "object")],[(.ref 705),(.type "object")],704,(y "EncryptedMasterSecret"),true,[],[],false,none,false⟩),#[none,none,(some (.str (y "EncryptedMasterSecret") 1333)),(some (.str (y "EncryptedMasterSecret") 1341)),(some (.builtin "object.__new__")),(some (.bool true))]⟩),
 (712,⟨(.type "list"),none,(.seq (i0 (oe.take 128) 1412++i0 (oe.drop 128) 1541).toArray 0),#[]⟩),
 (715,⟨(.type "list"),none,(.seq (i0 (og.take 128) 1670++i0 (og.drop 128) 1799).toArray 0),#[]⟩),
 (721,bY 716 "_interpolate" "_interpolate" 1929 444 2 0 3 1941)]
noncomputable def Ps(P:gC)(h:x->a1):List (x×V):=[
 (722,b7 (h 722) "_interpolate" "_interpolate" ew 721),
 (728,bY 723 "_create_digest" "_create_digest" 1945 470 3 0 3 1951),
 (729,b7 (h 729) "_create_digest" "_create_digest" ew 728),
 (733,hL 730 "_split_secret" "_split_secret" 1954 472 5 0 3 1957 (.ref 731) .none .none .none (.ref 732)),
 (734,b7 (h 734) "_split_secret" "_split_secret" ew 733),
 (740,bY 735 "_recover_secret" "_recover_secret" 1960 489 3 0 3 1970),
 (741,b7 (h 741) "_recover_secret" "_recover_secret" ew 740),
 (747,bY 742 "decode_mnemonics" "decode_mnemonics" 1973 499 1 0 3 1982),
 (748,b7 (h 748) "decode_mnemonics" "decode_mnemonics" ew 747),
 (752,hL 749 "split_ems" "split_ems" 1985 511 5 0 3 1988 (.ref 750) .none .none .none (.ref 751)),
 (753,b7 (h 753) "split_ems" "split_ems" ew 752),
 (759,bY 754 "_random_identifier" "_random_identifier" 1992 534 1 0 3 1997),
 (760,b7 (h 760) "_random_identifier" "_random_identifier" ew 759),
 (761,⟨(.type "tuple"),none,(.seq #[(.bytes #[] 2001),(.bool true),(.int 1 2002)] 0),#[]⟩),
 (765,hL 762 "generate_mnemonics" "generate_mnemonics" 2003 538 9 0 3 2006 (.ref 763) .none .none .none (.ref 764)),
 (766,⟨(.type "function"),none,(kd (h 766) (y "generate_mnemonics") (y "generate_mnemonics") (.ref 761) .none (.str (y "shamir_mnemonic.shamir") 1051) (.ref 765) .none none),#[]⟩),
 (770,hL 767 "recover_ems" "recover_ems" 2010 563 2 0 3 2013 (.ref 768) .none .none .none (.ref 769)),
 (771,b7 (h 771) "recover_ems" "recover_ems" ew 770),
 (772,⟨(.type "tuple"),none,(.seq #[(.bytes #[] 2017)] 0),#[]⟩),
 (778,bY 773 "combine_mnemonics" "combine_mnemonics" 2018 590 4 0 3 2027),
 (779,⟨(.type "function"),none,(kd (h 779) (y "combine_mnemonics") (y "combine_mnemonics") (.ref 772) .none (.str (y "shamir_mnemonic.shamir") 1051) (.ref 778) .none none),#[]⟩),
 (785,bY 780 "_law_feed" "_law_feed" 2033 608 1 0 3 2039),
 (786,b7 (h 786) "_law_feed" "_law_feed" kX 785),
 (792,bY 787 "_law_draw" "_law_draw" 2042 613 2 0 3 2047),
 (793,b7 (h 793) "_law_draw" "_law_draw" kX 792),
 (799,bY 794 "_law_octets" "_law_octets" 2050 618 2 0 3 2058),
 (800,b7 (h 800) "_law_octets" "_law_octets" kX 799),
 (806,bY 801 "_law_seal" "_law_seal" 2061 630 2 0 3 2068),
 (807,b7 (h 807) "_law_seal" "_law_seal" kX 806),
 (811,hL 808 "_law_stretch" "_law_stretch" 2071 635 4 0 3 2074 (.ref 809) .none .none .none (.ref 810)),
 (812,b7 (h 812) "_law_stretch" "_law_stretch" kX 811),
 (818,bY 813 "_law_pairs" "_law_pairs" 2077 640 1 0 3 2085),
 (819,b7 (h 819) "_law_pairs" "_law_pairs" kX 818),
 (823,hL 820 "_law_refused" "_law_refused" 2088 649 4 0 3 2091 (.ref 821) .none .none .none (.ref 822)),
 (824,b7 (h 824) "_law_refused" "_law_refused" kX 823),
 (830,bY 825 "_law_combined" "_law_combined" 2094 658 2 0 3 2099),
 (831,b7 (h 831) "_law_combined" "_law_combined" kX 830),
 (835,hL 832 "law" "law" 2102 663 1 0 3 2105 (.ref 833) .none .none .none (.ref 834)),
 (836,b7 (h 836) "law" "law" kX 835)]
noncomputable def i1(P:gC)(h:x->a1):List (x×V):=Pn P h++Po P h++Pp P h++Pq P h++Pr P h++Ps P h
noncomputable def oh:List Nat:=[2,3,4,20,21,30,31,40,41,47,48,54,55,61,62,68,69,75,76,82,83,89,90,96,97,103,104,108,109,115,116,117,118,124,125,131,132,138,139,143,144,157,158,159,165,166,172,173,179,180,182,183,193,194,200,201,207,208,225,226,232,233,235,243,250,251,257,258,264,265,267,268,270,271,273,274,276,277,279,280,284,285,286,305,306,312,313,315,323,330,331,337,338,344,345,347,348,350,351,353,354,356,357,359,360,362,363,365,366,370,371,372,387,388,394,395,401,402,408,409,415,416,422,423,429,430,436,437,443,444,446,449,450,467,468,469,475,476,482,483,489,490,492,493,514,515,521,522,524,532,539,540,546,547,553,554,556,557,559,560,564,565,566,581,582,588,589,595,596,602,603,609,610,616,617,621,622,628,629,635,636,642,643,649,650,656,657,659,660,677,678,684,685,691,692,694,701,702,704,705,712,715,721,722,728,729,733,734,740,741,747,748,752,753,759,760,761,765,766,770,771,772,778,779,785,786,792,793,799,800,806,807,811,812,818,819,823,824,830,831,835,836]
noncomputable def cK:List Addr:=[57,64,134,717,750,763,833]
noncomputable def uV:List (x×bu):=[(21,(bX 0)),(41,(bX 22)),(48,(bX 23)),(55,(bX 24)),(62,(bX 25)),(69,(bX 27)),(76,(bX 28)),(83,(bX 29)),(90,(bX 30)),(97,(bX 31)),(104,(bX 34)),(109,(bX 35)),(116,(bX 36)),(125,(bX 42)),(132,(bX 43)),(139,(bX 44)),(144,(bX 45)),(166,(c4 47 1)),(194,(bX 49)),(201,(bX 50)),(208,(bX 51)),(226,(c4 52 4)),(306,(c4 53 4)),(388,(c4 54 1)),(395,(c4 54 2)),(402,(c4 54 3)),(409,(c4 54 4)),(416,(c4 54 5)),(423,(c4 54 6)),(430,(c4 54 7)),(437,(c4 54 8)),(444,(c4 54 9)),(476,(c4 56 1)),(515,(c4 58 4)),(582,(c4 59 0)),(596,(c4 59 2)),(617,(c4 59 5)),(622,(c4 59 6)),(636,(c4 59 8)),(643,(c4 59 9)),(650,(c4 59 10)),(678,(c4 60 0)),(692,(c4 60 2)),(702,(c4 60 3)),(722,(bX 67)),(729,(bX 68)),(734,(bX 69)),(741,(bX 70)),(748,(bX 71)),(753,(bX 72)),(760,(bX 73)),(766,(bX 74)),(771,(bX 75)),(779,(bX 76)),(786,(bX 78)),(793,(bX 79)),(800,(bX 80)),(807,(bX 81)),(812,(bX 82)),(819,(bX 83)),(824,(bX 84)),(831,(bX 85)),(836,(bX 86))]
noncomputable def rW:List Nat:=uV.map (·.1)
noncomputable def rX:List Stmt:=uV.map (·.2)
noncomputable def g5:List Nat->Nat->List V->List V
 |_,_,[]=>[]
 |[],_,_::_=>[]
 |c::a,m,b::os=>bif xf c m then b::g5 a (m+1) os else g5 (c::a) (m+1) os
noncomputable def p2(o:j0):Bool:=o.key.isStr (y "__doc__")
noncomputable def oi:List j0->List j0
 |[]=>[]
 |o::A=>bif p2 o then⟨o.hash,o.key,.none⟩::A else o::oi A
noncomputable def oj(q:p):List j0->List j0
 |[]=>[]
 |o::A=>bif p2 o then⟨o.hash,o.key,q⟩::A else o::oj q A
noncomputable def ol:List j0->p
 |[]=>.none
 |o::A=>bif p2 o then o.val else ol A
theorem zT:∀G:List j0,oj (ol G) (oi G)=G
 |[]=>rfl
 |a::c=>by
  refine(?_:oj (bif p2 a then _ else _) (bif p2 a then _ else _)=_)
  cases b:p2 a with
  |true=>refine(?_:(bif p2 a then _ else _)=_);rw[b];rfl
  |false=>refine(?_:(bif p2 a then _ else _)=_);rw[b];exact congrArg (a::·) (zT c)
noncomputable def om(J:V):Obj:=match J with
 |⟨e,q,.func a,bw⟩=>⟨e,q,.func {a with doc:=.none,params:=default,body:=default,scope:=default},bw⟩
 |⟨e,q,.dict b v,bw⟩=>⟨e,q,.dict (oi b.toList).toArray v,bw⟩
 |J=>J
noncomputable def ex(E:a1)(J:V):Obj:=match J with
 |⟨e,q,.func a,bw⟩=>⟨e,q,.func {a with doc:=E.doc,params:=E.params,body:=E.body,scope:=E.scope},bw⟩
 |⟨e,q,.dict b v,bw⟩=>⟨e,q,.dict (oj E.doc b.toList).toArray v,bw⟩
 |J=>J
noncomputable def docOf(J:V):a1:=match J with
 |⟨_,_,.func a,_⟩=>⟨a.doc,a.params,a.body,a.scope⟩
 |⟨_,_,.dict b _,_⟩=>{lO with doc:=ol b.toList}
 |_=>lO
theorem Pt(J:V):ex (docOf J) (om J)=J:=by
 obtain⟨b,c,d,e⟩:=J;cases d<;>try rfl
 rename_i a f;refine(?_:(⟨b,c,.dict (oj (ol a.toList) (oi a.toList).toArray.toList).toArray f,e⟩:V)=_);simp only[List.toList_toArray,zT,Array.toArray_toList]
theorem cA{b8:gD}{n:aQ}{α:Type}{u:eF α}{r:α->H->Prop}{M:p->H->Prop}{s:H}(f:let aO:α->H->Prop:=r;aL b8 n u aO M s):aL b8 n u r M s:=f
theorem p3:∀(os:List V) (a:List Nat) (m:Nat),(g5 a m os).length=a.length->∀(l c:Nat),a[l]?=some c->m<=c/\∃J,os[c-m]?=some J/\(g5 a m os)[l]?=some J
 |[],a,m,d,l,c,b=>by
  have:(g5 a m [])=[]:=by cases a<;>rfl
  rw[this] at d;have:a=[]:=List.length_eq_zero_iff.mp d.symm;subst this;simp at b
 |J::os,[],m,d,l,c,b=>by simp at b
 |J::os,e::a,m,d,l,c,b=>by
  cases g:xf e m with
  |true=>
   have h:g5 (e::a) m (J::os)=J::g5 a (m+1) os:=by refine(?_:(bif xf e m then _ else _)=_);rw[g];rfl
   have n:e=m:=Nat.eq_of_beq_eq_true g;rw[h] at d⊢;cases l with
   |zero=>simp only[j1,kH] at b;subst b;subst n;exact⟨c9 _,J,by simp,by simp⟩
   |succ l=>simp only[mq] at b;obtain⟨f,i,o,k⟩:=p3 os a (m+1) (by simpa using d) l c b;refine⟨by exact rK f,i,?_,by assumption⟩;have:c-m=(c-(m+1))+1:=pR f;refine j this ?_;assumption
  |false=>
   have h:g5 (e::a) m (J::os)=g5 (e::a) (m+1) os:=by refine(?_:(bif xf e m then _ else _)=_);rw[g];rfl
   rw[h] at d⊢;obtain⟨f,i,o,k⟩:=p3 os (e::a) (m+1) d l c b;refine⟨by exact rK f,i,?_,k⟩;have:c-m=(c-(m+1))+1:=pR f;refine j this ?_;assumption
theorem uW(P:gC)(h:x->a1):(i1 P h).map (·.1)=oh:=by kernel_rfl
theorem Pu(P:gC)(h:x->a1):i1 P h=(i1 P λW=>lO).map λz=>(z.1,ex (h z.1) z.2):=by kernel_rfl
theorem Pv(P:gC)(h:x->a1):((i1 P h).all λz=>!z.2.isFreed)=true:=by kernel_rfl
noncomputable def zU(J:V):Option (ph×tA×bj):=match J with
 |⟨_,_,.func a,_⟩=>some (a.params,a.body,a.scope)
 |_=>none
noncomputable def lP(s:H):(List V×List V)×List (Option (ph×tA×bj)):=(((g5 oh 0 s.heap.objs.toList).map om,g5 cK 0 s.heap.objs.toList),(g5 rW 0 s.heap.objs.toList).map zU)
noncomputable def uX:Obj:=⟨.none,none,.fields #[],#[]⟩
noncomputable def lQ(w:aD):(List V×List V)×List (Option (ph×tA×bj)):=(((i1 w.params λW=>lO).map (·.2),cK.map λW=>uX),rX.map λa9=>some (p0 a9,.stmts (fv a9),d1 a9))
def p4(w:aD)(f:au):Prop:=∃h:x->a1,((∀z∈i1 w.params h,f.get? z.1=some z.2)/\∀u∈cK,f.get? u=some uX)/\∀(m:Nat) c a9,rW[m]?=some c->rX[m]?=some a9->(h c).params=p0 a9/\(h c).body=.stmts (fv a9)/\(h c).scope=d1 a9
theorem zV{α a b:Type}{C:α->b}{g:a->b}{G:List α}{c:List a}(o:G.map C=c.map g):G.length=c.length:=by have d:=congrArg kI o;rw[eG,eG] at d;exact d
theorem zW{α a d:Type}{C:α->d}{g:a->d}{G:List α}{e:List a}(o:G.map C=e.map g){m:Nat}{c:α}{b:a}(f:G[m]?=some c)(ag:e[m]?=some b):C c=g b:=by have h:=congrArg (λi:List d=>i[m]?) o;rw[dR,dR,f,ag] at h;exact dg h
noncomputable def mO(f:au)(c:x):a1:=match f.objs[c]? with
 |some a=>docOf a
 |none=>lO
theorem Pw(w:aD)(s:H)(o:lP s=lQ w):p4 w s.heap:=by
 have n:(g5 oh 0 s.heap.objs.toList).map om=(i1 w.params λW=>lO).map (·.2):=congrArg (λf=>f.1.1) o;have p:g5 cK 0 s.heap.objs.toList=cK.map λW=>uX:=congrArg (λf=>f.1.2) o;have q:(g5 rW 0 s.heap.objs.toList).map zU=rX.map λa9=>some (p0 a9,.stmts (fv a9),d1 a9):=congrArg (λf=>f.2) o;have get:∀{c:Nat} {a:V},s.heap.objs.toList[c-0]?=some a->s.heap.objs[c]?=some a:=λg=>by rw[<-tB];exact g
 have r:∀{c:Nat} {a:V},s.heap.objs[c]?=some a->mO s.heap c=docOf a:=λg=>by unfold mO;rw[g]
 refine⟨mO s.heap,⟨λu l=>?_,λv x=>?_⟩,λy c a9 z A=>?_⟩
 ·have h:=List.all_eq_true.mp (Pv w.params (mO s.heap)) u l;rw[Pu] at l;obtain⟨b,B,rfl⟩:=List.mem_map.mp l;obtain⟨k,i⟩:=fr B;have C:oh[k]?=some b.1:=by refine be (uW w.params λW=>lO) (j dR (j i ?_));rfl
  obtain⟨W,a,d,e⟩:=p3 _ _ 0 ((zV n).trans (by rw[<-uW w.params λW=>lO,eG])) k b.1 C;have D:om a=b.2:=zW n e i;replace d:=get d;have E:ex (mO s.heap b.1) b.2=a:=by rw[r d,<-D,Pt]
  replace h:(!(ex (mO s.heap b.1) b.2).isFreed)=true:=h;show s.heap.get? b.1=some (ex (mO s.heap b.1) b.2);rw[E] at h⊢;refine Heap.get?_some_iff.mpr ⟨d,?_⟩;cases g:a.isFreed with
  |true=>rw[g] at h;exact h.symm
  |false=>rfl
 ·refine bo (fr x) λk i=>?_;obtain⟨W,a,d,e⟩:=p3 _ _ 0 ((congrArg kI p).trans (eG ..)) k v i;rw[p,dR,i] at e;(obtain rfl:=dg e;clear e);exact Heap.get?_some_iff.mpr ⟨get d,rfl⟩
 ·obtain⟨W,a,d,e⟩:=p3 _ _ 0 ((zV q).trans ((eG ..).trans (eG ..).symm)) y c z;have t:=zW q e A;rw[r (get d)];obtain⟨I,J,F,K⟩:=a;cases F with
  |func L=>exact bE (tC (dg t)) λc m=>bE (tC m) λm G=>⟨c,m,G⟩
  |_=>exact iH (id t.symm)
noncomputable def zX:Hook where
 α:=(List V×List V)×List (Option (ph×tA×bj))
 obs:=lP
 val:=lQ
 says:=p4
 of:=Pw
 keeps:=λW W W ⟨h,⟨a,ag⟩,b⟩ l=>⟨h,⟨λz c=>l _ _ (a z c),λu d=>l _ _ (ag u d)⟩,b⟩
section
theorem aV{P:Prop}(f:∀ap:Prop,(P->ap)->ap):P:=f P id
noncomputable abbrev aZ(w:aD):Model:=model ff w
noncomputable abbrev ak(w:aD)(h:x->a1):Frag:=i1 w.params h
noncomputable def hM:List (x×x):=[(61,57),(68,64),(138,134),(721,717),(752,750),(765,763),(835,833)]
def Px(f:au):Prop:=∀z∈hM,∃ah,f.IsCode z.1 z.2 ah/\f.TableAt z.1 z.2 ah
theorem Py:∀u∈cK,u<837:=by decide
theorem Pz(w:aD)(h:x->a1):∀z∈i1 w.params h,z.1<837/\z.1∉cK:=by
 have b:(oh.all λa=>decide (a<837/\a∉cK))=true:=by decide+kernel
 intro z c;have:z.1∈oh:=by refine be (uW w.params h) ?_;exact fN c
 exact of_decide_eq_true (List.all_eq_true.mp b _ this)
theorem ck{v:Nat}(f:v<=16777216):v<=sizeLine:=f
theorem ey{v:Nat}(f:true=tp v 16777216):v<=sizeLine:=b6 f.symm
theorem hj{α:Type}{G:List α}(f:G.length=1):∃c,G=[c]:=by
 cases G with
 |nil=>exact nomatch f
 |cons c a=>cases a with
  |nil=>exact⟨c,rfl⟩
  |cons=>exact nomatch f
theorem p5{α:Type}{v:Nat}{G:List α}(f:G.length=v+1):∃c A,G=c::A/\A.length=v:=by
 cases G with
 |nil=>exact nomatch f
 |cons c A=>exact(eU (c) (A) (rfl) (η f))
theorem hk{α:Type}{G:List α}(f:G.length=2):∃c b,G=[c,b]:=by
 (refine db (p5 f) λc e a d=>?_;obtain rfl:=a);(refine bo (hj d) λb a=>?_;obtain rfl:=a);exact(h4 (c) (b) (rfl))
theorem uY{α:Type}{G:List α}(f:G.length=3):∃c b e,G=[c,b,e]:=by
 (refine db (p5 f) λc g a d=>?_;obtain rfl:=a);(refine eJ (hk d) λb e a=>?_;obtain rfl:=a);exact(mJ (c) (b) (e) (rfl))
theorem PA{α:Type}{G:List α}(f:G.length=5):∃c b e q o,G=[c,b,e,q,o]:=by
 (refine db (p5 f) λc i a d=>?_;obtain rfl:=a);(refine db (p5 d) λb j a g=>?_;obtain rfl:=a);(refine db (p5 g) λe k a h=>?_;obtain rfl:=a);(refine eJ (hk h) λq o a=>?_;obtain rfl:=a);exact⟨c,b,e,q,o,rfl⟩
theorem uZ{α:Type}{c:Nat}{J:α}:∀{G:List (Nat×α)},G.lookup c=some J->(c,J)∈G
 |[],a=>cz a
 |b::e,a=>by
  obtain⟨f,g⟩:=b;simp only[List.lookup] at a;split at a
  ·rename_i d;(obtain rfl:=(dg a).symm;clear a);refine j (beq_iff_eq.mp d) ?_;exact .head _
  ·exact .tail _ (uZ a)
theorem jC{w:aD}{h:x->a1}{c:x}{J:V}(f:(ak w h).lookup c=some J):c<837/\c∉cK:=Pz w h _ (uZ f)
theorem i2:∀z∈hM,z.1<837/\z.2<837/\z.2∈cK/\z.1∉cK:=by decide
theorem zY:∀u∈cK,∃z∈hM,z.2=u:=by decide
theorem gI{c:x}(f:837<=c):c∉cK:=λa=>dn _ (cQ (Py c a) f)
noncomputable def PB(w:aD)(h:x->a1):Obj:=match(ak w h).lookup 836 with|some a=>a|none=>default
structure aH(w:aD)(h:x->a1)(s:H):Prop where
 l:(ak w h).In s.heap
 tab:Px s.heap
 bare:nG s.gens
 b:∃zZ,s.heap.Ns builtinsNs zZ/\∀i:al,i≠"__name__"->zZ i=fs i
structure bP(ae:List x)(s k:H)(t:Bool:=false):Prop where
 heap:∀b J,b∉ae->(b∉cK\/t=true)->s.heap.get? b=some J->k.heap.get? b=some J
 cK:∀z∈hM,∀ah,s.heap.TableAt z.1 z.2 ah->∃more,k.heap.TableAt z.1 z.2 (ah++more)
 gens:∀(m:Nat) i,s.gens[m]?=some i->k.gens[m]?=some i
 g6:t=true->k.gens=s.gens
 os:k.os=s.os
 e5:t=true->k.drawn=s.drawn
theorem bP.trans{ae:List x}{t:Bool}{e f g:H}(i:bP ae e f t)(ai:bP ae f g t):bP ae e g t:=
 ⟨λh j b c d=>ai.heap h j b c (i.heap h j b c d),
  λk l o a=>let⟨p,b⟩:=i.cK k l o a;let⟨q,c⟩:=ai.cK k l _ b;⟨p++q,by refine be nH ?_;exact c⟩,
  λm n d=>ai.gens m n (i.gens m n d),λa=>(ai.g6 a).trans (i.g6 a),ai.os.trans i.os,λa=>(ai.e5 a).trans (i.e5 a)⟩
theorem bP.mono{ae on:List x}{t:Bool}{a c:H}(i:bP ae a c t)(f:∀b∈ae,b∈on):bP on a c t:=⟨λb d e g h=>i.heap b d (λt=>e (f b t)) g h,i.cK,i.gens,i.g6,i.os,i.e5⟩
theorem bP.p7{ae:List x}{t bV:Bool}{b c:H}(i:bP ae b c t)(f:bV=true->t=true):bP ae b c bV:=⟨λd e g h j=>i.heap d e g (h.imp id f) j,i.cK,i.gens,λa=>i.g6 (f a),i.os,λa=>i.e5 (f a)⟩
structure ee(F:List x)(s k:H):Prop where
 heap:∀b J,b∉F->s.heap.get? b=some J->k.heap.get? b=some J
 gens:k.gens=s.gens
 os:k.os=s.os
 e5:k.drawn=s.drawn
theorem ee.Z{w:aD}{h:x->a1}{F:List x}{s k:H}(R:ee F s k)(p:∀b∈F,837<=b)(L:aH w h s):aH w h k:=by
 have a:∀b,b<837->b∉F:=λb q r=>dn _ (cQ q (p b r));refine⟨λb c i=>R.heap b c (a b (jC i).1) (L.l b c i),λl m=>?_,by refine j R.gens ?_;exact L.bare,?_⟩
 ·refine bp (L.tab l m) λt n o=>?_;have e:=i2 l m;refine aV λu f=>?_;(refine yv n λc v y z A B C D E G I J K M N O P b g=>?_;clear n);all_goals refine f ?_
  (refine bE o λd Q=>?_;clear o;(refine n5 d λS T U V W X=>?_;clear d));exact⟨t,(yw (c) (v) (y) (z) (A) (B) (C) (D) (E) (G) (R.heap _ _ (a _ e.1) I) (J) (K) (M) (N) (O) (P) (R.heap _ _ (a _ e.2.1) b) (g)),⟨⟨S,T,R.heap _ _ (a _ e.1) U,V,W,X⟩,R.heap _ _ (a _ e.2.1) Q⟩⟩
 ·refine aV λu f=>?_;(refine bp L.b λY d Z=>?_;(refine f4 d λc aa ab ac g=>?_;clear d));all_goals refine f ?_
  exact⟨Y,(hh (c) (aa) (ab) (R.heap _ _ (a _ .(1)) ac) (g)),Z⟩
theorem ee.aS{F ae:List x}{s k:H}(R:ee F s k)(h:∀b∈F,837<=b)(bi:∀b∈F,b∈ae\/s.heap.get? b=none){t:Bool}:bP ae s k t:=by
 have d:∀b,b<837->b∉F:=λb i t=>dn _ (cQ i (h b t));refine⟨λb l m A a=>R.heap b l (λt=>?_) a,λn o B e=>⟨#[],?_⟩,λC c a=>by refine j R.gens ?_;exact a,λW=>R.gens,R.os,λW=>R.e5⟩
 ·rcases bi b t with c|c
  ·exact m c
  ·exact cz (c.symm.trans a)
 ·have f:=i2 n o;refine aV λD p=>?_;(refine bE e λg q=>?_;clear e;(refine n5 g λr u v w y z=>?_;clear g));all_goals refine p ?_
  refine j xg<|⟨(pL (r) (u) (R.heap _ _ (d _ f.1) v) (w) (y) (z)),R.heap _ _ (d _ f.2.1) q⟩
structure dq where
 t:Bool
 ae:List x
 P:au->Prop
 ge:∀b∈ae,837<=b
 live:∀f:au,P f->∀b∈ae,∃J,f.get? b=some J
 eV:∀f ag:au,(∀b∈ae,∀J,f.get? b=some J->ag.get? b=some J)->P f->P ag
noncomputable abbrev dq.none(t:Bool:=false):dq:=⟨t,[],λW=>True,λW a=>(nomatch a),λW W W a=>(nomatch a),λW W W W=>trivial⟩
structure eK where
 br:List x
 P:au->Prop
 eV:∀f ag:au,(∀b∈br,∀J,f.get? b=some J->ag.get? b=some J)->P f->P ag
noncomputable def eK.none:eK:=⟨[],λW=>True,λW W W W=>trivial⟩
noncomputable def eK.and(i ai:eK):eK:=⟨i.br++ai.br,λa=>i.P a/\ai.P a,λa ag l z=>⟨i.eV a ag (λb c=>l b (cU _ c)) z.1,ai.eV a ag (λb c=>l b (dt _ c)) z.2⟩⟩
structure f5 where
 D:ao
 names:List al
 aX:List al
structure aP where
 l:f5
 aK:H
 af:dq
 hd:eK
noncomputable abbrev aP.D(e:aP):Env:=e.l.D
noncomputable abbrev aP.push(e:aP)(i:eK):aP:={e with hd:=i.and e.hd}
noncomputable def ez(names:List al)(I:List (Option p))(i:al):Option Value:=((names.zip I).lookup i).getD Option.none
structure f5.bL(e:f5):Prop where
 kind:e.D.scope.kind=.function
 kf:e.D.globals=3
 blt:e.D.builtins=0
 fn:∀i∈e.names,e.D.kindOf i=some .local
 rY:∀i∈e.aX,e.D.kindOf i=some .globalImplicit
 z0:∀i∈e.names,(i==("__debug__":al))=false
 rZ:∀i∈e.aX,(i==("__debug__":al))=false
 h8:e.names.Nodup
structure h9(e:aP)(c:x):Prop where
 new:e.aK.heap.get? c=none
 ge:837<=c
 dc:c∉e.af.ae
structure N(w:aD)(h:x->a1)(e:aP)(I:List (Option p))(led:List (x×V))(s:H):Prop where
 Z:aH w h s
 aS:bP e.af.ae e.aK s e.af.t
 b4:e.af.P s.heap
 ch:s.heap.Ns e.D.locals (ez e.l.names I)
 cE:h9 e e.D.locals
 ld:∀z∈led,s.heap.get? z.1=some z.2/\z.1≠e.D.locals/\h9 e z.1
 dE:(led.map (·.1)).Nodup
 bG:e.hd.P s.heap
 b9:∀b∈e.hd.br,b≠e.D.locals/\b∉e.af.ae/\b∉led.map (·.1)/\837<=b/\∃J,s.heap.get? b=some J
variable{w:aD}{h:x->a1}{e:aP}{I:List (Option p)}{led:List (x×V)}{s:H}
theorem aH.size(L:aH w h s):837<=s.heap.objs.size:=cr (L.l 836 (PB w h) .(0))
theorem N.lt(a:N w h e I led s):e.D.locals<s.heap.objs.size:=a.ch.lt
theorem N.at(a:N w h e I led s)(m:Nat){c:x}{J:V}(f:some (c,J)=led[m]?):s.heap.get? c=some J:=(a.ld _ (cx f.symm)).1
theorem N.bc(a:N w h e I led s){c:x}{J:V}(o:e.aK.heap.get? c=some J)(cY:c∉e.af.ae)(b:837<=c):s.heap.get? c=some J:=a.aS.heap c J cY (.inl (gI b)) o
theorem ee.push(s:H)(J:V)(F:List x):ee F s {s with heap:=s.heap.push J}:=⟨λW W W a=>cM _ a,rfl,rfl,rfl⟩
theorem ee.same{s:H}{c:x}{ag:au}{u:Nat}(a:hb c s.heap ag):ee [c] s {s with heap:=ag,toks:=u}:=⟨λb g d e=>(a.2 b λf=>d (f▸.head _)).trans e,rfl,rfl,rfl⟩
theorem N.kY(a:N w h e I led s){c:x}{J:V}(f:e.aK.heap.get? c=some J):c≠e.D.locals:=λb=>by have:=a.cE.new;rw[<-b,f] at this;exact iH this
theorem N.fresh(a:N w h e I led s):h9 e s.heap.objs.size:=by
 have d:∀b,s.heap.get? s.heap.objs.size≠some b:=λb c=>dn _ (cr c);have f:s.heap.objs.size∉e.af.ae:=λg=>let⟨b,c⟩:=e.af.live _ a.b4 _ g;d b c;refine⟨?_,a.Z.size,f⟩;cases i:e.aK.heap.get? s.heap.objs.size with
 |none=>rfl
 |some b=>exact absurd (a.aS.heap _ b f (.inl (gI a.Z.size)) i) (d b)
theorem N.step(a:N w h e I led s){F:List x}{k:H}(R:ee F s k)(m:∀b∈F,h9 e b)(v:e.D.locals∉F){d6:List (x×V)}(n:d6.map (·.1)=led.map (·.1))(y:∀z∈d6,k.heap.get? z.1=some z.2)(r:∀b∈e.hd.br,b∉F):N w h e I d6 k:=by
 refine⟨R.Z (λb c=>(m b c).ge) a.Z,?_,?_,?_,a.cE,λz i=>?_,by refine j n ?_;exact a.dE,?_,λb c=>?_⟩
 ·refine⟨λb d o p f=>?_,?_,?_,λl=>R.gens.trans (a.aS.g6 l),?_,λl=>R.e5.trans (a.aS.e5 l)⟩
  ·exact R.heap b d (λt=>by have:=(m b t).new;exact iH (f.symm.trans this)) (a.aS.heap b d o p f)
  ·intro z i A l;refine bo (a.aS.cK z i A l) λB g=>?_;have q:=(R.aS (ae:=F) (t:=false) (λb c=>(m b c).ge) λb c=>.inl c).cK z i _ g;refine bo q λC q=>⟨B++C,by refine be nH ?_;exact q⟩
  ·intro D g f;refine j R.gens ?_;exact a.aS.gens D g f
  ·exact R.os.trans a.aS.os
 ·exact e.af.eV _ _ (λb c d f=>R.heap b d (λt=>(m b t).dc c) f) a.b4
 ·refine f4 a.ch λd E G J K=>(hh (d) (E) (G) (R.heap _ _ v J) (K))
 ·have:z.1∈led.map (·.1):=by refine be n ?_;exact fN i
  refine bp (List.mem_map.mp this) λt L f=>?_;have g:=a.ld t L;rw[f] at g;exact⟨y z i,g.2⟩
 ·exact e.hd.eV _ _ (λb c d f=>R.heap b d (r b c) f) a.bG
 ·refine aV λS M=>?_;(refine dM (a.b9 b c) λo p O P u=>?_;(refine bo u λd Q=>?_;clear u));all_goals refine M ?_
  (exact(cV (o) (p) (by refine j n ?_;exact O) (P) ⟨d,R.heap b d (r b c) Q⟩))
theorem N.toks(a:N w h e I led s){u:Nat}(i:autoParam (s.toks<=u) Zzl):N w h e I led {s with toks:=u}:=a.step (F:=[]) (k:={s with toks:=u}) ⟨λW W W c=>c,rfl,rfl,rfl⟩ (λW b=>nomatch b) (λb=>nomatch b) d (λf g=>(a.ld f g).1) λW W b=>nomatch b
theorem N.alloc(a:N w h e I led s){J:V}(o:J.isFreed=false):N w h e I ((s.heap.objs.size,J)::led) {s with heap:=s.heap.push J}:=by
 have f:N w h e I led {s with heap:=s.heap.push J}:=a.step (F:=[]) (ee.push s J []) (λW g=>nomatch g) (λg=>nomatch g) d (λb c=>cM _ (a.ld b c).1) λW W g=>nomatch g;have p:∀b∈led,b.1≠s.heap.objs.size:=λb c k=>dn _ (k▸cr (a.ld b c).1);refine⟨f.Z,f.aS,f.b4,f.ch,f.cE,λb c=>?_,?_,f.bG,λl m=>?_⟩
 ·rcases List.mem_cons.mp c with rfl|c
  ·exact(bO (eX _ o) (mr a.lt) (a.fresh))
  ·exact f.ld b c
 ·refine j dC<|List.nodup_cons.mpr<|⟨λi=>let⟨b,c,k⟩:=List.mem_map.mp i;p b c k,a.dE⟩
 ·refine dM (f.b9 l m) λq r t u v=>aV λz x=>?_;(refine dM (a.b9 l m) λW W W W n=>?_;(refine bo n λA y=>?_;clear n));all_goals refine x ?_
  refine(cV (q) (r) (?_) (u) (v));refine j dC<|j (propext dD)<|λi=>i.elim (λi=>dn _ (i▸cr y)) t
theorem z2{G:List x}(f:G.Nodup){m a0:Nat}{i ai:x}(aW:G[m]?=some i)(h:G[a0]?=some ai)(j:m≠a0):i≠ai:=by
 obtain⟨b,c⟩:=List.getElem?_eq_some_iff.mp aW;refine bo (List.getElem?_eq_some_iff.mp h) λd e=>?_;have g:=List.pairwise_iff_getElem.mp f;rcases Nat.lt_or_gt_of_ne j with a|a
 ·exact c▸e▸g m a0 b d a
 ·exact λk=>g a0 m d b a (e.trans (k.symm.trans c.symm))
theorem z3{led:List (x×V)}{m:Nat}{c:x}{J b:V}(f:led[m]?=some (c,J)):(led.set m (c,b)).map (·.1)=led.map (·.1):=by
 refine j List.map_set<|pi λe=>by
  by_cases a:e=m
  ·subst a;(refine j (xh (by refine j (eG ..) ?_;exact(List.getElem?_eq_some_iff.mp f).1)) (j dR (j f ?_)));rfl
  ·exact j (F9 (fk a)) d
theorem N.r0(a:N w h e I led s){m:Nat}{c:x}{J l:V}{ag:au}{u:Nat}(f:led[m]?=some (c,J))(n:hb c s.heap ag)(q:ag.get? c=some l):
 N w h e I (led.set m (c,l)) {s with heap:=ag,toks:=u}:=by
 have o:=a.ld _ (cx f);refine a.step (ee.same n) (λp d=>by refine j (List.mem_singleton.mp d) ?_;exact o.2.2) (λg=>o.2.1 (List.mem_singleton.mp g).symm) (z3 f) (λi r=>?_) λp d g=>(a.b9 p d).2.2.1 (by refine j (List.mem_singleton.mp g) ?_;exact fN (cx f));obtain⟨a0,b⟩:=fr r;by_cases k:a0=m
 ·subst k;rw[xh (List.getElem?_eq_some_iff.mp f).1] at b;(obtain rfl:=dg b;clear b);exact q
 ·rw[F9 (fk k)] at b;have t:i.1≠c:=z2 a.dE (m:=a0) (a0:=m) (by refine j dR (j b ?_);rfl) (by refine j dR (j f ?_);rfl) k;exact(n.2 i.1 t).trans (a.ld i (cx b)).1
theorem N.PC(a:N w h e I led s){m:Nat}{c:x}{J:V}{C:V->V}(f:led[m]?=some (c,J))(b:(C J).isFreed=false):
 N w h e I (led.set m (c,C J)) {s with heap:=s.heap.update c C}:=
 a.r0 (u:=s.toks) f (kJ ..) (by first|exact nI C (a.ld _ (cx f)).1 b|exact nI _ (a.ld _ (cx f)).1 b)
theorem lR:∀{names:List al} {I:List (Option p)} {m:Nat} {i:al} {J:Option p},names.Nodup->names[m]?=some i->I[m]?=some J->ez names I i=J
 |[],_,_,_,_,_,a,_=>by trivial
 |_::_,[],_,_,_,_,_,a=>by trivial
 |c::f,g::h,0,i,J,_,a,b=>by simp only[j1,kH] at a b;subst a;subst b;simp[ez]
 |c::f,g::h,m+1,i,J,d,a,b=>by simp only[mq] at a b;have e:=lR (List.nodup_cons.mp d).2 a b;have k:i≠c:=λl=>(List.nodup_cons.mp d).1 (l▸cx a);unfold ez at e⊢;refine j jr (j f0 ?_);simp only[beq_eq_false_iff_ne.mpr k];exact e
theorem PD{names:List al}{I:List (Option p)}{m:Nat}{i:al}{E:p}(b:names.Nodup)(f:names[m]?=some i)(c:m<I.length):
 ez names (I.set m (some E))=λai=>if ai=i then some E else ez names I ai:=by
 funext ai
 by_cases a:ai=i
 ·subst a;refine j (if_pos d)<|lR b f (xh c)
 ·refine j (if_neg a) ?_;clear b;induction names generalizing I m with
  |nil=>rfl
  |cons e k g=>
   cases I with
   |nil=>rfl
   |cons l h=>
    cases m with
    |zero=>simp only[j1,kH] at f;subst f;unfold ez;exact j List.set_cons_zero (j jr (j jr (j f0 (j f0 (j (beq_eq_false_iff_ne.mpr a) d)))))
    |succ m=>
     have:=g (I:=h) (m:=m) (by simpa using f) (by simpa using c);unfold ez at this⊢;refine j List.set_cons_succ (j jr (j jr (j f0 (j f0 ?_))));cases n:(ai==e) with
     |true=>rfl
     |false=>exact this
theorem N.z4(a:N w h e I led s)(x:e.l.bL){m:Nat}{i:al}{E:p}(aW:e.l.names[m]?=some i)(y:m<I.length){ag:au}(bi:ag.Ns e.D.locals (λai=>if ai=i then some E else ez e.l.names I ai))(f:hb e.D.locals s.heap ag):N w h e (I.set m (some E)) led {s with heap:=ag,toks:=s.toks+1}:=by
 have o:ee [e.D.locals] s {s with heap:=ag,toks:=s.toks+1}:=ee.same f;have q:∀b∈[e.D.locals],h9 e b:=λb c=>by refine j (List.mem_singleton.mp c) ?_;exact a.cE
 refine⟨o.Z (λb c=>(q b c).ge) a.Z,?_,?_,?_,a.cE,λg l=>?_,a.dE,?_,λb c=>?_⟩
 ·refine⟨λb k n r d=>o.heap b k (λt=>by have:=(q b t).new;exact iH (d.symm.trans this)) (a.aS.heap b k n r d),λg l z u=>?_,λm i d=>a.aS.gens m i d,λu=>a.aS.g6 u,a.aS.os,a.aS.e5⟩;refine bo (a.aS.cK g l z u) λA i=>bo ((o.aS (ae:=[e.D.locals]) (t:=false) (λb c=>(q b c).ge) λb c=>.inl c).cK g l _ i) λB ai=>⟨A++B,by refine be nH ?_;exact ai⟩
 ·exact e.af.eV _ _ (λb c k d=>(f.2 b λt=>a.cE.dc (t▸c)).trans d) a.b4
 ·refine j (PD x.h8 aW y) ?_;exact bi
 ·have:=a.ld g l;exact⟨(f.2 g.1 this.2.1).trans this.1,this.2⟩
 ·exact e.hd.eV _ _ (λb c H d=>(f.2 b (a.b9 b c).1).trans d) a.bG
 ·refine aV λJ C=>?_;(refine dM (a.b9 b c) λn r D F v=>?_;(refine bo v λk G=>?_;clear v));all_goals refine C ?_
  exact(cV (n) (r) (D) (F) ⟨k,(f.2 b n).trans G⟩)
theorem N.en(a:N w h e I led s){k:H}(R:bP e.af.ae s k e.af.t)(L:aH w h k)(m:e.af.P k.heap):N w h e I led k:=by
 have f:∀b c,b∉e.af.ae->837<=b->s.heap.get? b=some c->k.heap.get? b=some c:=λb c n d g=>R.heap b c n (.inl (gI d)) g;refine⟨L,a.aS.trans R,m,?_,a.cE,λo p=>?_,a.dE,e.hd.eV _ _ (λb d c g=>f b c (a.b9 b d).2.1 (a.b9 b d).2.2.2.1 g) a.bG,λb d=>?_⟩
 ·refine f4 a.ch λc q r t u=>(hh (c) (q) (r) (f _ _ a.cE.dc a.cE.ge t) (u))
 ·have:=a.ld o p;exact⟨f _ _ this.2.2.dc this.2.2.ge this.1,this.2⟩
 ·refine aV λA v=>?_;(refine dM (a.b9 b d) λx i y j l=>?_;(refine bo l λc z=>?_;clear l));all_goals refine v ?_
  exact(cV (x) (i) (y) (j) ⟨c,f b c i j z⟩)
theorem N.call(a:N w h e I led s){k:H}{t:Bool}(R:bP [] s k t)(L:aH w h k)(c:autoParam (e.af.t=true->t=true) Zzg):N w h e I led k:=a.en ((R.p7 c).mono λW f=>(nomatch f)) L (e.af.eV _ _ (λb d g i=>R.heap b g (λf=>nomatch f) (.inl (gI (e.af.ge b d))) i) a.b4)
theorem N.p8{k:H}(a:N w h e I led s)(b:N w h e I led k){c:x}{J:V}(f:k.heap.get? c=some J)(bi:s.heap.objs.size<=c)(r:c∉e.hd.br):N w h e I ((c,J)::led) k:=by
 have m:s.heap.get? c=none:=by
  cases d:s.heap.get? c with
  |none=>rfl
  |some J=>exact absurd (cr d) (Nat.not_lt.mpr bi)
 have t:c≠e.D.locals:=λg=>dn _ (cQ a.lt (g▸bi));have n:c∉e.af.ae:=λg=>by refine bo (e.af.live _ a.b4 _ g) λJ d=>?_;exact cz (m.symm.trans d)
 have o:837<=c:=bZ a.Z.size bi;have u:e.aK.heap.get? c=none:=by
  cases d:e.aK.heap.get? c with
  |none=>rfl
  |some J=>have:=a.aS.heap c J n (.inl (gI o)) d;exact cz (m.symm.trans this)
 have v:∀i∈led,i.1≠c:=λi l d=>by have:=(a.ld i l).1;rw[d,m] at this;exact cz this
 refine⟨b.Z,b.aS,b.b4,b.ch,b.cE,λi l=>?_,?_,b.bG,λp q=>?_⟩
 ·rcases List.mem_cons.mp l with rfl|l
  ·exact(bO (f) (t) ⟨u,o,n⟩)
  ·exact b.ld i l
 ·refine j dC<|List.nodup_cons.mpr<|⟨λg=>let⟨i,l,d⟩:=List.mem_map.mp g;v i l d,b.dE⟩
 ·refine dM (b.b9 p q) λy z A B C=>?_;(exact(cV (y) (z) (by refine j dC (j (propext dD) ?_);exact λg=>g.elim (λ(g:p=c)=>r (by refine be g ?_;exact q)) A) (B) (C)))
theorem N.PE(a:N w h e I led s)(c:e.af.t=false){q:Drawn}:N w h e I led {s with drawn:=q}:=⟨⟨a.Z.l,a.Z.tab,a.Z.bare,a.Z.b⟩,⟨a.aS.heap,a.aS.cK,a.aS.gens,a.aS.g6,a.aS.os,λb=>by rw[c] at b;exact absurd b .(1)⟩,a.b4,a.ch,a.cE,a.ld,a.dE,a.bG,a.b9⟩
theorem N.hl(a:N w h e I led s)(i:eK)(d:i.P s.heap)(f:∀b∈i.br,b≠e.D.locals/\b∉e.af.ae/\b∉led.map (·.1)/\837<=b/\∃J,s.heap.get? b=some J):N w h (e.push i) I led s:=⟨a.Z,a.aS,a.b4,a.ch,⟨a.cE.new,a.cE.ge,a.cE.dc⟩,λg j=>let⟨k,b,c⟩:=a.ld g j;⟨k,b,c.new,c.ge,c.dc⟩,a.dE,⟨d,a.bG⟩,λb l=>(List.mem_append.mp l).elim (f b) (a.b9 b)⟩
theorem N.drop{i:eK}(a:N w h (e.push i) I led s):N w h e I led s:=⟨a.Z,a.aS,a.b4,a.ch,⟨a.cE.new,a.cE.ge,a.cE.dc⟩,λd f=>let⟨g,b,c⟩:=a.ld d f;⟨g,b,c.new,c.ge,c.dc⟩,a.dE,a.bG.2,λb j=>a.b9 b (dt _ j)⟩
theorem N.cd(a:N w h e I led s){d6:List (x×V)}(f:d6.Sublist led):N w h e I d6 s:=⟨a.Z,a.aS,a.b4,a.ch,a.cE,λb c=>a.ld b (f.subset c),a.dE.sublist (f.map _),a.bG,λd g=>let⟨i,j,k,l,m⟩:=a.b9 d g;⟨i,j,λn=>k ((f.map (·.1)).subset n),l,m⟩⟩
theorem PF{cG:Array j0}(f:(cG.all λo=>match o.key with|.str _ _=>true|_=>false)=true):StrKeys cG:=λo a=>by
 have b:=(Array.all_eq_true'.mp f) o a;generalize o.key=v at b⊢;cases v<;>first|exact⟨_,_,rfl⟩|exact nomatch (show false=true from b)
theorem aH.ns(L:aH w h s){c:x}{J:V}{cG:Array j0}{c5:Nat}(a:(ak w h).lookup c=some J)(hd:J.data=.dict cG c5)(b:(cG.all λo=>match o.key with|.str _ _=>true|_=>false)=true):s.heap.Ns c (pj cG):=⟨J,cG,c5,L.l _ _ a,hd,PF b,λW=>rfl⟩
noncomputable def PG(P:gC):Array DictEntry:=#[ay P "type.__subclasses__.Exception.0" 250 (.int 31 0),ay P "type.__subclasses__.Exception.n" 251 (.int 1 0)]
theorem aH.mQ(L:aH w h s):s.heap.NoLimit:=⟨_,L.ns (c:=2) (J:=⟨.none,none,.dict (PG w.params) 2,#[]⟩) .(0) d .(0),by kernel_rfl⟩
theorem N.jD(a:N w h e I led s)(af:dq)(cY:af.ae=e.af.ae)(f:af.t=e.af.t)(g:af.P s.heap):N w h {e with af:=af} I led s:=⟨a.Z,by refine(?_:bP af.ae _ _ af.t);refine j cY (j f ?_);exact a.aS,g,a.ch,⟨a.cE.new,a.cE.ge,by refine(?_:_∉af.ae);refine j cY ?_;exact a.cE.dc⟩,λi k=>let⟨c,d,b⟩:=a.ld i k;⟨c,d,b.new,b.ge,by refine(?_:_∉af.ae);refine j cY ?_;exact b.dc⟩,a.dE,a.bG,λd l=>let⟨c,b,m⟩:=a.b9 d l;⟨c,by refine(?_:_∉af.ae);refine j cY ?_;exact b,m⟩⟩
theorem N.eo(a:N w h e I led s){ap:Prop}(f:let b:List (Option p):=I;let X:List (x×V):=led;N w h e b X s->ap):ap:=f a
theorem N.ef(a:N w h e I led s){b:List (Option p)}{d6:List (x×V)}(c:I=b)(d:led=d6){ap:Prop}(f:let g:List (Option p):=b;let X:List (x×V):=d6;N w h e g X s->ap):ap:=by subst c d;exact f a
theorem N.gl(a:N w h e I led s){ap:Prop}(f:let aO:aP:=e;N w h aO I led s->ap):ap:=f a
theorem N.jE(a:N w h e I led s){ap:Prop}(f:let b:List (Option p):=I;N w h e b led s->ap):ap:=f a
theorem N.eL(a:N w h e I led s){ap:Prop}(f:let X:List (x×V):=led;N w h e I X s->ap):ap:=f a
theorem N.z6(a:N w h e I led s){ap:Prop}(f:let aO:aP:=e;let b:List (Option p):=I;N w h aO b led s->ap):ap:=f a
theorem N.z7(a:N w h e I led s){ap:Prop}(f:let aO:aP:=e;let X:List (x×V):=led;N w h aO I X s->ap):ap:=f a
end
section
structure bJ where
 a9:bu
 t:al
 fG:Nat
 code:Nat
 rR:p
 rS:p
 hi:p
 rT:Option x
 names:List al
 aX:List al
noncomputable def bJ.D(C:bJ)(ac:x)(ba:List (al×x)):Env:={scope:=d1 C.a9,locals:=ac,globals:=3,cells:=ba,qual:=C.t++".<locals>.",func:=some C.fG,code:=.ref C.code,frame:=some ac,builtins:=0}
noncomputable abbrev bJ.eg(C:bJ)(ac:x)(ba:List (al×x)):f5:=⟨C.D ac ba,C.names,C.aX⟩
noncomputable def bJ.d5(C:bJ)(doc:p):FuncData:=mN ⟨doc,p0 C.a9,.stmts (fv C.a9),d1 C.a9⟩ (rQ C.a9) C.t C.rR .none C.rS (.ref C.code) C.hi C.rT
structure z8(h:x->a1)(c:x)(a9:bu):Prop where
 params:(h c).params=p0 a9
 body:(h c).body=.stmts (fv a9)
 scope:(h c).scope=d1 a9
noncomputable def bJ.ok(C:bJ):Bool:=(d1 C.a9).kind==.function&&!(d1 C.a9).isGenerator&&!(d1 C.a9).isCoroutine&&C.names.all (λi=>(d1 C.a9).names.lookup i==some .local)&&decide C.names.Nodup&&C.aX.all (λi=>(d1 C.a9).names.lookup i==some .globalImplicit)&&C.names.all (λi=>!(i==("__debug__":al)))&&C.aX.all (λi=>!(i==("__debug__":al)))
noncomputable def bJ.cj(C:bJ):Bool:=(d1 C.a9).names.all λi=>i.2 !=.cell
structure ce(w:aD)(h:x->a1)(C:bJ):Prop where
 aW:z8 h C.fG C.a9
 abq:(ak w h).lookup C.fG=some ⟨.type "function",none,.func (mN (h C.fG) (rQ C.a9) C.t C.rR .none C.rS (.ref C.code) C.hi C.rT),#[]⟩
 abv:codeIn (ak w h) (.ref C.code) C.t=true
 ok:C.ok=true
structure aR(n:aQ)(q S:Nat):Prop where
 depth:n.depth+q<1000
 units:n.units+S<9900
 bd:n.handled=none
theorem aR.mono{n:aQ}{q S a b:Nat}(A:aR n q S)(hd:autoParam (a<=q) Zzd)(c:autoParam (b<=S) Zzd):aR n a b:=⟨by have:=A.depth;exact Jj hd this,by have:=A.units;exact Ji c this,A.bd⟩
theorem aR.deeper{n:aQ}{q S:Nat}(A:aR n (q+1) (S+3))(o:ao):aR (n.deeper o) q S:=⟨by have:=A.depth;refine(?_:n.depth+1+q<1000);exact Jl this,by have:=A.units;refine(?_:n.units+3+S<9900);exact Jm this,A.bd⟩
theorem aR.in1{n:aQ}{q S:Nat}(A:aR n q (S+1)):aR n.in1 q S:=⟨A.depth,by have:=A.units;refine(?_:n.units+1+S<9900);exact Jk this,A.bd⟩
theorem aR.hm{n:aQ}{q S:Nat}(A:aR n q S):n.depth<recursionLimit:=by have:=A.depth;refine(?_:n.depth<1000);exact LL this
theorem aR.e{n:aQ}{q S:Nat}(A:aR n q S):n.units<cLine:=by have:=A.units;refine(?_:n.units<9900);exact LM this
structure aa{α:Type}(w:aD)(n:aQ)(u:eF α)(r:α->H->Prop)(M:p->H->Prop)(s:H):Prop where
 run:aL (aZ w) n u r M s
theorem aE{w:aD}{n:aQ}{α:Type}{u:eF α}{r:α->H->Prop}{M:p->H->Prop}{s:H}(f:let aO:α->H->Prop:=r;aa w n u aO M s):aa w n u r M s:=f
structure bk(w:aD)(n:aQ)(e:Code)(av:gh->H->Prop)(s:H):Prop where
 run:g1 (aZ w) n e av s
def bW(r:p->H->Prop)(A:gh)(s:H):Prop:=match A with
 |.ok (.ret E)=>r E s
 |_=>False
noncomputable def r1:eb->p
 |.ret E=>E
 |_=>.none
abbrev ia(r:p->H->Prop)(a:eb)(s:H):Prop:=r (r1 a) s
theorem bJ.u1{C:bJ}(f:C.ok=true)(ac:x)(ba:List (al×x)):(C.eg ac ba).bL:=by
 simp only[bJ.ok,eH,beq_iff_eq,hc,iw,decide_eq_true_eq] at f;refine aV λj b=>?_;(refine bE f λa c=>?_;clear f;(refine bE a λa d=>?_;(refine bE a λa e=>?_;obtain⟨⟨⟨⟨g,W⟩,W⟩,h⟩,i⟩:=a)));all_goals refine b ?_
 exact⟨g,rfl,rfl,h,e,d,c,i⟩
variable{w:aD}{h:x->a1}{e:aP}{I:List (Option p)}{led:List (x×V)}{s:H}{n:aQ}{M:p->H->Prop}{r:p->H->Prop}
theorem z9{a:Nat}{t:al}(L:aH w h s)(f:codeIn (ak w h) (.ref a) t=true):s.heap.CodeRec (.ref a) t:=codeRec_of L.l f
theorem Aa{G:List (al×p)}{i:al}(f:∀z∈G,z.1≠i):G.lookup i=none:=by
 induction G with
 |nil=>rfl
 |cons z d a=>refine j f0<|j (beq_eq_false_iff_ne.mpr (fk (f z aG)))<|a λb c=>f b (.tail _ c)
theorem Ab{names:List al}{bQ:List (al×p)}(c:names.Nodup)(d:(bQ.all λi=>names.contains i.1)=true):
 ez names (names.map λi=>bQ.reverse.lookup i)=λi=>bQ.reverse.lookup i:=by
 funext i
 by_cases a:i∈names
 ·refine bo (fr a) λo e=>?_;exact lR c e (by refine j dR (j e ?_);rfl)
 ·have f:(bQ.reverse.lookup i)=none:=Aa λg h b=>a (by have:=List.all_eq_true.mp d g (List.mem_reverse.mp h);refine be b ?_;exact List.mem_of_elem_eq_true this);refine j f ?_;unfold ez;have:(names.zip (names.map λi=>bQ.reverse.lookup i)).lookup i=none:=by
   clear c d f;induction names with
   |nil=>rfl
   |cons k q l=>have m:i≠k:=λb=>a (by refine j b ?_;exact .head _);refine j dC<|j jr<|j f0<|j (beq_eq_false_iff_ne.mpr m)<|l λn=>a (.tail _ n)
  refine j this ?_;rfl
theorem u2{C:bJ}{args:js}{bQ:List (al×p)}{av:gh->H->Prop}{I:List (Option p)}(af:dq)(L:aH w h s)(x:af.P s.heap){q S:Nat}(A:aR n q S)(F:ce w h C)(K:C.cj=true)(a:∀doc,c2 (aZ w) s.heap (hE (C.d5 doc) args) bQ)(M:(bQ.all λi=>(d1 C.a9).names.lookup i.1==some .local)=true)(O:C.names.map (λi=>bQ.reverse.lookup i)=I)(P:(bQ.all λi=>C.names.contains i.1)=true)(f:∀ac k,(C.eg ac []).bL->N w h ⟨C.eg ac [],s,af,.none⟩ I [] k->aa w (n.deeper (C.D ac [])) (ej (fv C.a9) (C.D ac [])) (λQ k=>av (.ok (.ret (r1 Q))) k) (λo k=>aa w (n.deeper (C.D ac [])) (nJ (C.D ac []) o) (λQ l=>av (.error o) l) (λR l=>av (.error R) l) k) k):
 bk w n (.call (.ref C.fG) args) av s:=⟨by
 obtain⟨m,y,T,z⟩:=F;have r:=z;simp only[bJ.ok,eH,beq_iff_eq,hc,iw,decide_eq_true_eq] at r;refine aV λah U=>?_;(refine bE r λe Q=>?_;clear r;(refine bE e λe Q=>?_;(refine bE e λe Q=>?_;obtain⟨⟨⟨⟨V,W⟩,X⟩,ai⟩,Y⟩:=e)));all_goals refine U ?_
 have Z:mN (h C.fG) (rQ C.a9) C.t C.rR .none C.rS (.ref C.code) C.hi C.rT=C.d5 (h C.fG).doc:=by unfold bJ.d5 mN;exact j m.params (j m.body (j m.scope d))
 rw[Z] at y;refine Ga (fd:=C.d5 (h C.fG).doc) A.hm (L.l _ _ y) d X W d (z9 L T) ?_;have ab:∀i∈(d1 C.a9).names,i.2≠.cell:=λi t=>by have:=List.all_eq_true.mp K i t;simpa using this
 refine(a _).here (σ ab (λi t=>by have:=List.all_eq_true.mp M i t;exact eq_of_beq this) (λu ad ae=>?_) V);have aj:=ee.push s {cls:=.type "frame",data:=.dict #[]} [];have B:∀b,s.heap.get? s.heap.objs.size≠some b:=λb o=>dn _ (cr o);have D:s.heap.get? s.heap.objs.size=none:=by
  cases o:s.heap.get? s.heap.objs.size with
  |none=>rfl
  |some b=>exact absurd o (B b)
 have v:ee [s.heap.objs.size] s {s with heap:=u,toks:=s.toks+bQ.length}:=⟨λc b a o=>(ae.2 c λg=>a (by refine j g ?_;exact .head _)).trans (cM _ o),rfl,rfl,rfl⟩;have E:∀c∈[s.heap.objs.size],837<=c:=λc a=>by refine j (List.mem_singleton.mp a) ?_;exact L.size
 have G:aH w h {s with heap:=u,toks:=s.toks+bQ.length}:=v.Z E L;have J:s.heap.objs.size∉af.ae:=λg=>let⟨b,o⟩:=af.live _ x _ g;B b o;refine⟨G.mQ,Gb<|cy (aa.run (f s.heap.objs.size {s with heap:=u,toks:=s.toks+bQ.length} (bJ.u1 z _ _) ⟨G,v.aS E (λc a=>.inr (by refine j (List.mem_singleton.mp a) ?_;exact D)),?_,?_,⟨D,L.size,J⟩,λW ag=>(nomatch ag),qZ,trivial,λW f=>(nomatch f)⟩)) (λW W i=>i) (λW W i=>i.run)⟩
 ·exact af.eV _ _ (λc a b o=>v.heap c b (λg=>J (by refine be (List.mem_singleton.mp g) ?_;exact a)) o) x
 ·have:ez C.names I=λi=>bQ.reverse.lookup i:=by subst O;exact Ab Y P
  refine j this ?_;exact ad⟩
theorem enter{C:bJ}{args:js}{bQ:List (al×p)}{av:gh->H->Prop}{I:List (Option p)}(af:dq)(L:aH w h s)(b:af.P s.heap){q S:Nat}(A:aR n q S)(F:ce w h C)(c:C.cj=true)(d:∀doc,hE (C.d5 doc) args=pure bQ)(e:(bQ.all λi=>(d1 C.a9).names.lookup i.1==some .local)=true)(g:C.names.map (λi=>bQ.reverse.lookup i)=I)(j:(bQ.all λi=>C.names.contains i.1)=true)(f:∀ac k,(C.eg ac []).bL->N w h ⟨C.eg ac [],s,af,.none⟩ I [] k->aa w (n.deeper (C.D ac [])) (ej (fv C.a9) (C.D ac [])) (λl k=>av (.ok (.ret (r1 l))) k) (λo k=>aa w (n.deeper (C.D ac [])) (nJ (C.D ac []) o) (λW a=>av (.error o) a) (λm a=>av (.error m) a) k) k):
 bk w n (.call (.ref C.fG) args) av s:=u2 af L b A F c (λdoc=>iV (d doc)) e g j f
theorem Ad{C:bJ}{args:js}{bQ:List (al×p)}{r:p->H->Prop}{I:List (Option p)}(af:dq)(L:aH w h s)(d:af.P s.heap){q S:Nat}(A:aR n (q+1) (S+3))(F:ce w h C)(e:C.cj=true)(g:∀doc,hE (C.d5 doc) args=pure bQ)(j:(bQ.all λi=>(d1 C.a9).names.lookup i.1==some .local)=true)(l:C.names.map (λi=>bQ.reverse.lookup i)=I)(m:(bQ.all λi=>C.names.contains i.1)=true)(f:∀ac k,let b:aP:=⟨C.eg ac [],s,af,.none⟩;let c:Around:=n.deeper b.D;let o:List (Option p):=I;b.l.bL->N w h b o [] k->aR c q S->aa w c (ej (fv C.a9) b.D) (ia r) (λW W=>False) k):
 bk w n (.call (.ref C.fG) args) (bW r) s:=
 enter af L d A F e g j l m λac k t a=>⟨cy (f ac k t a (A.deeper _)).run (λW W i=>i) λW W i=>i.elim⟩
theorem Ae{C:bJ}{args:js}{bQ:List (al×p)}{r:p->H->Prop}{I:List (Option p)}(af:dq)(L:aH w h s)(d:af.P s.heap){q S:Nat}(A:aR n (q+1) (S+3))(F:ce w h C)(e:C.cj=true)(g:∀doc,c2 (aZ w) s.heap (hE (C.d5 doc) args) bQ)(j:(bQ.all λi=>(d1 C.a9).names.lookup i.1==some .local)=true)(l:C.names.map (λi=>bQ.reverse.lookup i)=I)(m:(bQ.all λi=>C.names.contains i.1)=true)(f:∀ac k,let b:aP:=⟨C.eg ac [],s,af,.none⟩;let c:Around:=n.deeper b.D;let o:List (Option p):=I;b.l.bL->N w h b o [] k->aR c q S->aa w c (ej (fv C.a9) b.D) (ia r) (λW W=>False) k):
 bk w n (.call (.ref C.fG) args) (bW r) s:=
 u2 af L d A F e g j l m λac k t a=>⟨cy (f ac k t a (A.deeper _)).run (λW W i=>i) λW W i=>i.elim⟩
end
section
variable{w:aD}{h:x->a1}
noncomputable def abw:bJ:=⟨(bX 0),y "_wall",21,20,.none,(.str (y "__main__") 164),.none,none,[y "k"],[]⟩
noncomputable def Af:bJ:=⟨(bX 22),y "_round_bits",41,40,.none,(.str (y "shamir_mnemonic.utils") 232),.none,none,[y "n",y "radix_bits"],[]⟩
theorem PH:Af.cj=true:=by decide+kernel
theorem Ag:cX (ak w h) (.ref 41)=true:=by kernel_rfl
noncomputable def Ah:bJ:=⟨(bX 23),y "bits_to_bytes",48,47,.none,(.str (y "shamir_mnemonic.utils") 232),.none,none,[y "n"],[y "_round_bits"]⟩
theorem PI:Ah.cj=true:=by decide+kernel
theorem r2:cX (ak w h) (.ref 48)=true:=by kernel_rfl
noncomputable def Ai:bJ:=⟨(bX 24),y "bits_to_words",55,54,.none,(.str (y "shamir_mnemonic.utils") 232),.none,none,[y "n"],[y "_round_bits"]⟩
theorem PJ:Ai.cj=true:=by decide+kernel
theorem PK:cX (ak w h) (.ref 55)=true:=by kernel_rfl
noncomputable def mR:bJ:=⟨(bX 25),y "int_to_indices",62,61,.none,(.str (y "shamir_mnemonic.utils") 232),.none,none,[y "length"],[y "reversed",y "range"]⟩
theorem Aj:cX (ak w h) (.ref 62)=true:=by kernel_rfl
noncomputable def Ak:bJ:=⟨(bX 27),y "_xor",69,68,.none,(.str (y "shamir_mnemonic.cipher") 292),.none,none,[y "a",y "b"],[y "bytes",y "zip"]⟩
theorem PM:Ak.cj=true:=by decide+kernel
theorem Al:cX (ak w h) (.ref 69)=true:=by kernel_rfl
noncomputable def Am:bJ:=⟨(bX 28),y "_round_function",76,75,.none,(.str (y "shamir_mnemonic.cipher") 292),.none,none,[y "i",y "passphrase",y "e",y "salt",y "r",y "pbkdf2"],[y "bytes",y "BASE_ITERATION_COUNT",y "ROUND_COUNT",y "len"]⟩
theorem PN:Am.cj=true:=by decide+kernel
theorem An:cX (ak w h) (.ref 76)=true:=by kernel_rfl
noncomputable def Ao:bJ:=⟨(bX 29),y "_get_salt",83,82,.none,(.str (y "shamir_mnemonic.cipher") 292),.none,none,[y "identifier",y "extendable",y "identifier_len"],[y "bytes",y "bits_to_bytes",y "ID_LENGTH_BITS",y "CUSTOMIZATION_STRING_ORIG"]⟩
theorem PO:Ao.cj=true:=by decide+kernel
theorem Ap:cX (ak w h) (.ref 83)=true:=by kernel_rfl
noncomputable def u4:bJ:=⟨(bX 30),y "encrypt",90,89,.none,(.str (y "shamir_mnemonic.cipher") 292),.none,none,[y "master_secret",y "passphrase",y "iteration_exponent",y "identifier",y "extendable",y "pbkdf2",y "l",y "r",y "salt",y "i",y "f"],[y "len",y "ValueError",y "_get_salt",y "range",y "ROUND_COUNT",y "_round_function",y "_xor"]⟩
theorem Aq:u4.cj=true:=by decide+kernel
theorem Ar:cX (ak w h) (.ref 90)=true:=by kernel_rfl
noncomputable def As:bJ:=⟨(bX 31),y "decrypt",97,96,.none,(.str (y "shamir_mnemonic.cipher") 292),.none,none,[y "encrypted_master_secret",y "passphrase",y "iteration_exponent",y "identifier",y "extendable",y "pbkdf2",y "l",y "r",y "salt",y "i",y "f"],[y "len",y "ValueError",y "_get_salt",y "reversed",y "range",y "ROUND_COUNT",y "_round_function",y "_xor"]⟩
theorem PP:As.cj=true:=by decide+kernel
theorem PQ:cX (ak w h) (.ref 97)=true:=by kernel_rfl
noncomputable def At:bJ:=⟨(bX 34),y "_polymod",104,103,.none,(.str (y "shamir_mnemonic.rs1024") 359),.none,none,[y "values",y "GEN",y "chk",y "v",y "b",y "i"],[y "range"]⟩
theorem PR:At.cj=true:=by decide+kernel
theorem Au:cX (ak w h) (.ref 104)=true:=by kernel_rfl
noncomputable def u5:bJ:=⟨(bX 35),y "create_checksum",109,108,.none,(.str (y "shamir_mnemonic.rs1024") 359),.none,none,[y "data",y "customization_string",y "values"],[y "list",y "CHECKSUM_LENGTH_WORDS",y "_polymod",y "reversed",y "range"]⟩
theorem PS:cX (ak w h) (.ref 109)=true:=by kernel_rfl
noncomputable def Av:bJ:=⟨(bX 36),y "verify_checksum",116,115,.none,(.str (y "shamir_mnemonic.rs1024") 359),.none,none,[y "data",y "customization_string"],[y "_polymod",y "list"]⟩
theorem PT:Av.cj=true:=by decide+kernel
theorem PU:cX (ak w h) (.ref 116)=true:=by kernel_rfl
noncomputable def Aw:bJ:=⟨(bX 42),y "_word",125,124,.none,(.str (y "shamir_mnemonic.wordlist") 387),.none,none,[y "i"],[y "_OUTER",y "_INNER"]⟩
theorem PV:Aw.cj=true:=by decide+kernel
theorem PW:cX (ak w h) (.ref 125)=true:=by kernel_rfl
noncomputable def Ax:bJ:=⟨(bX 43),y "_index",132,131,.none,(.str (y "shamir_mnemonic.wordlist") 387),.none,none,[y "word"],[y "len",y "KeyError",y "_OUTER_INDEX_MAP",y "_INNER_INDEX_MAP"]⟩
theorem PX:Ax.cj=true:=by decide+kernel
noncomputable def Ay:bJ:=⟨(bX 44),y "words_from_indices",139,138,.none,(.str (y "shamir_mnemonic.wordlist") 387),.none,none,[y "indices"],[]⟩
theorem PY:Ay.cj=true:=by decide+kernel
theorem PZ:cX (ak w h) (.ref 139)=true:=by kernel_rfl
noncomputable def Az:bJ:=⟨(bX 45),y "mnemonic_to_indices",144,143,.none,(.str (y "shamir_mnemonic.wordlist") 387),.none,none,[y "mnemonic"],[y "KeyError",y "MnemonicError"]⟩
theorem P0:Az.cj=true:=by decide+kernel
theorem P8:cX (ak w h) (.ref 144)=true:=by kernel_rfl
noncomputable def r3:bJ:=⟨(c4 47 1),y "_tuplegetter.__get__",166,165,(.ref 159),(.str (y "shamir_mnemonic.share") 482),.none,none,[y "self",y "obj",y "objtype"],[y "issubclass",y "type",y "tuple",y "_wall"]⟩
theorem P9:r3.cj=true:=by decide+kernel
noncomputable def AA:bJ:=⟨(bX 49),y "_int_to_word_indices",194,193,.none,(.str (y "shamir_mnemonic.share") 482),.none,none,[y "value",y "length"],[y "list",y "int_to_indices",y "RADIX_BITS"]⟩
theorem Qa:AA.cj=true:=by decide+kernel
theorem u6:cX (ak w h) (.ref 194)=true:=by kernel_rfl
noncomputable def AB:bJ:=⟨(bX 50),y "_int_from_word_indices",201,200,.none,(.str (y "shamir_mnemonic.share") 482),.none,none,[y "indices",y "value",y "index"],[y "RADIX"]⟩
theorem Qb:AB.cj=true:=by decide+kernel
theorem u7:cX (ak w h) (.ref 201)=true:=by kernel_rfl
noncomputable def AD:bJ:=⟨(bX 51),y "_customization_string",208,207,.none,(.str (y "shamir_mnemonic.share") 482),.none,none,[y "extendable"],[y "CUSTOMIZATION_STRING_EXTENDABLE",y "CUSTOMIZATION_STRING_ORIG"]⟩
theorem Qc:AD.cj=true:=by decide+kernel
theorem AE:cX (ak w h) (.ref 208)=true:=by kernel_rfl
noncomputable def AF:bJ:=⟨(c4 52 4),y "ShareCommonParameters.__new__",226,225,.none,(.str (y "shamir_mnemonic.share") 482),.none,none,[y "_cls",y "identifier",y "extendable",y "iteration_exponent",y "group_threshold",y "group_count"],[y "tuple"]⟩
theorem Qd:AF.cj=true:=by decide+kernel
noncomputable def AG:bJ:=⟨(c4 53 4),y "ShareGroupParameters.__new__",306,305,.none,(.str (y "shamir_mnemonic.share") 482),.none,none,[y "_cls",y "identifier",y "extendable",y "iteration_exponent",y "group_index",y "group_threshold",y "group_count",y "member_threshold"],[y "tuple"]⟩
theorem Qe:AG.cj=true:=by decide+kernel
noncomputable def AH:bJ:=⟨(c4 54 1),y "Share.__init__",388,387,.none,(.str (y "shamir_mnemonic.share") 482),.none,none,[y "self",y "identifier",y "extendable",y "iteration_exponent",y "group_index",y "group_threshold",y "group_count",y "index",y "member_threshold",y "value"],[]⟩
theorem Qf:AH.cj=true:=by decide+kernel
noncomputable def AI:bJ:=⟨(c4 54 2),y "Share.__eq__",395,394,.none,(.str (y "shamir_mnemonic.share") 482),.none,none,[y "self",y "other"],[y "isinstance",y "Share"]⟩
theorem Qg:AI.cj=true:=by decide+kernel
noncomputable def AJ:bJ:=⟨(c4 54 3),y "Share.common_parameters",402,401,.none,(.str (y "shamir_mnemonic.share") 482),.none,none,[y "self"],[y "ShareCommonParameters"]⟩
theorem Qh:AJ.cj=true:=by decide+kernel
noncomputable def AK:bJ:=⟨(c4 54 4),y "Share.group_parameters",409,408,.none,(.str (y "shamir_mnemonic.share") 482),.none,none,[y "self"],[y "ShareGroupParameters"]⟩
theorem Qi:AK.cj=true:=by decide+kernel
noncomputable def AL:bJ:=⟨(c4 54 5),y "Share._encode_id_exp",416,415,.none,(.str (y "shamir_mnemonic.share") 482),.none,none,[y "self",y "id_exp_int"],[y "ITERATION_EXP_LENGTH_BITS",y "EXTENDABLE_FLAG_LENGTH_BITS",y "_int_to_word_indices",y "ID_EXP_LENGTH_WORDS"]⟩
theorem Qj:AL.cj=true:=by decide+kernel
noncomputable def AM:bJ:=⟨(c4 54 6),y "Share._encode_share_params",423,422,.none,(.str (y "shamir_mnemonic.share") 482),.none,none,[y "self",y "val"],[y "_int_to_word_indices"]⟩
theorem Qk:AM.cj=true:=by decide+kernel
noncomputable def AN:bJ:=⟨(c4 54 7),y "Share.words",430,429,.none,(.str (y "shamir_mnemonic.share") 482),.none,none,[y "self",y "value_word_count",y "value_int",y "value_data",y "share_data",y "checksum"],[y "bits_to_words",y "len",y "int",y "_int_to_word_indices",y "create_checksum",y "_customization_string",y "list",y "words_from_indices"]⟩
theorem Ql:AN.cj=true:=by decide+kernel
noncomputable def AO:bJ:=⟨(c4 54 8),y "Share.mnemonic",437,436,.none,(.str (y "shamir_mnemonic.share") 482),.none,none,[y "self"],[]⟩
theorem Qm:AO.cj=true:=by decide+kernel
noncomputable def AP:bJ:=⟨(c4 54 9),y "Share.from_mnemonic",444,443,.none,(.str (y "shamir_mnemonic.share") 482),.none,(some 447),[y "cls",y "mnemonic",y "mnemonic_data",y "padding_len",y "id_exp_data",y "id_exp_int",y "identifier",y "extendable",y "iteration_exponent",y "share_params_data",y "share_params_int",y "share_params",y "group_index",y "group_threshold",y "group_count",y "index",y "member_threshold",y "value_data",y "value_byte_count",y "value_int",y "value"],[y "mnemonic_to_indices",y "len",y "MIN_MNEMONIC_LENGTH_WORDS",y "MnemonicError",y "RADIX_BITS",y "METADATA_LENGTH_WORDS",y "ID_EXP_LENGTH_WORDS",y "_int_from_word_indices",y "EXTENDABLE_FLAG_LENGTH_BITS",y "ITERATION_EXP_LENGTH_BITS",y "bool",y "verify_checksum",y "_customization_string",y "int_to_indices",y "CHECKSUM_LENGTH_WORDS",y "bits_to_bytes",y "OverflowError"]⟩
theorem Qn:AP.cj=true:=by decide+kernel
noncomputable def r4:bJ:=⟨(c4 56 1),y "_tuplegetter.__get__",476,475,(.ref 469),(.str (y "shamir_mnemonic.shamir") 1051),.none,none,[y "self",y "obj",y "objtype"],[y "issubclass",y "type",y "tuple",y "_wall"]⟩
theorem Qo:r4.cj=true:=by decide+kernel
noncomputable def AQ:bJ:=⟨(c4 58 4),y "RawShare.__new__",515,514,.none,(.str (y "shamir_mnemonic.shamir") 1051),.none,none,[y "_cls",y "x",y "data"],[y "tuple"]⟩
theorem Qp:AQ.cj=true:=by decide+kernel
noncomputable def AS:bJ:=⟨(c4 59 0),y "ShareGroup.__init__",582,581,.none,(.str (y "shamir_mnemonic.shamir") 1051),.none,none,[y "self"],[]⟩
theorem Qq:AS.cj=true:=by decide+kernel
noncomputable def AT:bJ:=⟨(c4 59 2),y "ShareGroup.__len__",596,595,.none,(.str (y "shamir_mnemonic.shamir") 1051),.none,none,[y "self"],[y "len"]⟩
theorem Qr:AT.cj=true:=by decide+kernel
noncomputable def oq:bJ:=⟨(c4 59 5),y "ShareGroup.add",617,616,.none,(.str (y "shamir_mnemonic.shamir") 1051),.none,none,[y "self",y "share"],[y "MnemonicError"]⟩
theorem Qs:oq.cj=true:=by decide+kernel
noncomputable def AU:bJ:=⟨(c4 59 6),y "ShareGroup.to_raw_shares",622,621,.none,(.str (y "shamir_mnemonic.shamir") 1051),.none,none,[y "self"],[]⟩
theorem Qt:AU.cj=true:=by decide+kernel
noncomputable def AV:bJ:=⟨(c4 59 8),y "ShareGroup.common_parameters",636,635,.none,(.str (y "shamir_mnemonic.shamir") 1051),.none,none,[y "self"],[]⟩
theorem Qu:AV.cj=true:=by decide+kernel
noncomputable def AW:bJ:=⟨(c4 59 9),y "ShareGroup.group_parameters",643,642,.none,(.str (y "shamir_mnemonic.shamir") 1051),.none,none,[y "self"],[]⟩
theorem Qv:AW.cj=true:=by decide+kernel
noncomputable def AX:bJ:=⟨(c4 59 10),y "ShareGroup.member_threshold",650,649,.none,(.str (y "shamir_mnemonic.shamir") 1051),.none,none,[y "self"],[]⟩
theorem Qw:AX.cj=true:=by decide+kernel
noncomputable def AY:bJ:=⟨(c4 60 0),y "EncryptedMasterSecret.__init__",678,677,.none,(.str (y "shamir_mnemonic.shamir") 1051),.none,none,[y "self",y "identifier",y "extendable",y "iteration_exponent",y "ciphertext"],[]⟩
theorem Qx:AY.cj=true:=by decide+kernel
noncomputable def u8:bJ:=⟨(c4 60 2),y "EncryptedMasterSecret.from_master_secret",692,691,.none,(.str (y "shamir_mnemonic.shamir") 1051),.none,(some 695),[y "cls",y "master_secret",y "passphrase",y "identifier",y "extendable",y "iteration_exponent",y "pbkdf2",y "ciphertext"],[y "encrypt",y "EncryptedMasterSecret"]⟩
theorem AZ:u8.cj=true:=by decide+kernel
noncomputable def A0:bJ:=⟨(c4 60 3),y "EncryptedMasterSecret.decrypt",702,701,.none,(.str (y "shamir_mnemonic.shamir") 1051),.none,none,[y "self",y "passphrase",y "pbkdf2"],[y "decrypt_cipher"]⟩
theorem Qy:A0.cj=true:=by decide+kernel
noncomputable def u9:bJ:=⟨(bX 67),y "_interpolate",722,721,.none,(.str (y "shamir_mnemonic.shamir") 1051),.none,none,[y "shares",y "x_coordinates",y "share_value_lengths",y "log_prod",y "result"],[y "set",y "len",y "MnemonicError",y "sum",y "bytes",y "LOG_TABLE",y "zip"]⟩
theorem va:cX (ak w h) (.ref 722)=true:=by kernel_rfl
noncomputable def A1:bJ:=⟨(bX 68),y "_create_digest",729,728,.none,(.str (y "shamir_mnemonic.shamir") 1051),.none,none,[y "random_data",y "shared_secret",y "hmac_sha256"],[y "DIGEST_LENGTH_BYTES"]⟩
theorem Qz:A1.cj=true:=by decide+kernel
theorem A2:cX (ak w h) (.ref 729)=true:=by kernel_rfl
noncomputable def r5:bJ:=⟨(bX 69),y "_split_secret",734,733,.none,(.str (y "shamir_mnemonic.shamir") 1051),.none,none,[y "threshold",y "share_count",y "hmac_sha256",y "i",y "random_share_count",y "shares",y "random_part",y "digest",y "base_shares"],[y "ValueError",y "MAX_SHARE_COUNT",y "range",y "len",y "DIGEST_LENGTH_BYTES",y "_create_digest",y "RawShare",y "DIGEST_INDEX",y "SECRET_INDEX",y "_interpolate"]⟩
theorem A3:cX (ak w h) (.ref 734)=true:=by kernel_rfl
noncomputable def vb:bJ:=⟨(bX 70),y "_recover_secret",741,740,.none,(.str (y "shamir_mnemonic.shamir") 1051),.none,none,[y "threshold",y "shares",y "hmac_sha256",y "shared_secret",y "digest_share",y "digest",y "random_part"],[y "_interpolate",y "SECRET_INDEX",y "DIGEST_INDEX",y "DIGEST_LENGTH_BYTES",y "_create_digest",y "MnemonicError"]⟩
theorem QA:vb.cj=true:=by decide+kernel
theorem A4:cX (ak w h) (.ref 741)=true:=by kernel_rfl
noncomputable def A5:bJ:=⟨(bX 71),y "decode_mnemonics",748,747,.none,(.str (y "shamir_mnemonic.shamir") 1051),.none,none,[y "mnemonics",y "common_params",y "groups",y "mnemonic",y "share",y "group"],[y "Share",y "ShareGroup",y "len",y "MnemonicError",y "ID_EXP_LENGTH_WORDS"]⟩
theorem QB:A5.cj=true:=by decide+kernel
theorem QC:cX (ak w h) (.ref 748)=true:=by kernel_rfl
noncomputable def A6:bJ:=⟨(bX 72),y "split_ems",753,752,.none,(.str (y "shamir_mnemonic.shamir") 1051),.none,none,[y "group_shares"],[y "len",y "MIN_STRENGTH_BITS",y "ValueError",y "bits_to_bytes",y "any",y "_split_secret",y "zip"]⟩
theorem QD:cX (ak w h) (.ref 753)=true:=by kernel_rfl
noncomputable def A7:bJ:=⟨(bX 73),y "_random_identifier",760,759,.none,(.str (y "shamir_mnemonic.shamir") 1051),.none,none,[y "random_bytes",y "identifier"],[y "int",y "bits_to_bytes",y "ID_LENGTH_BITS"]⟩
theorem QE:A7.cj=true:=by decide+kernel
theorem QF:cX (ak w h) (.ref 760)=true:=by kernel_rfl
noncomputable def p9:bJ:=⟨(bX 74),y "generate_mnemonics",766,765,(.ref 761),(.str (y "shamir_mnemonic.shamir") 1051),.none,none,[y "group_threshold",y "groups",y "master_secret",y "random_bytes",y "hmac_sha256",y "pbkdf2",y "passphrase",y "extendable",y "iteration_exponent",y "identifier",y "encrypted_master_secret",y "grouped_shares"],[y "all",y "ValueError",y "_random_identifier",y "EncryptedMasterSecret",y "split_ems"]⟩
theorem QG:p9.cj=true:=by decide+kernel
theorem QH:cX (ak w h) (.ref 766)=true:=by kernel_rfl
noncomputable def A8:bJ:=⟨(bX 75),y "recover_ems",771,770,.none,(.str (y "shamir_mnemonic.shamir") 1051),.none,none,[y "groups",y "params",y "group",y "share_words",y "prefix",y "group_shares",y "ciphertext"],[y "MnemonicError",y "list",y "len",y "GROUP_PREFIX_LENGTH_WORDS",y "_recover_secret",y "EncryptedMasterSecret"]⟩
theorem QI:cX (ak w h) (.ref 771)=true:=by kernel_rfl
noncomputable def ot:bJ:=⟨(bX 76),y "combine_mnemonics",779,778,(.ref 772),(.str (y "shamir_mnemonic.shamir") 1051),.none,none,[y "mnemonics",y "hmac_sha256",y "pbkdf2",y "passphrase",y "groups",y "encrypted_master_secret"],[y "MnemonicError",y "decode_mnemonics",y "recover_ems"]⟩
theorem QJ:ot.cj=true:=by decide+kernel
theorem QK:cX (ak w h) (.ref 779)=true:=by kernel_rfl
noncomputable def A9:bJ:=⟨(bX 78),y "_law_feed",786,785,.none,(.str (y "law_ja0054_01") 2031),.none,none,[y "script",y "seed",y "number"],[y "list"]⟩
theorem QL:A9.cj=true:=by decide+kernel
theorem QM:cX (ak w h) (.ref 786)=true:=by kernel_rfl
noncomputable def vc:bJ:=⟨(bX 79),y "_law_draw",793,792,.none,(.str (y "law_ja0054_01") 2031),.none,none,[y "feed",y "many"],[]⟩
theorem QN:vc.cj=true:=by decide+kernel
theorem gm:cX (ak w h) (.ref 793)=true:=by kernel_rfl
noncomputable def Ba:bJ:=⟨(bX 80),y "_law_octets",800,799,.none,(.str (y "law_ja0054_01") 2031),.none,none,[y "feed",y "size",y "number",y "found",y "k"],[y "_law_draw",y "range",y "bytes"]⟩
theorem QO:Ba.cj=true:=by decide+kernel
theorem Bb:cX (ak w h) (.ref 800)=true:=by kernel_rfl
noncomputable def Bc:bJ:=⟨(bX 81),y "_law_seal",807,806,.none,(.str (y "law_ja0054_01") 2031),.none,none,[y "key",y "text",y "total",y "octet"],[y "bytes",y "len"]⟩
theorem QP:Bc.cj=true:=by decide+kernel
theorem QQ:cX (ak w h) (.ref 807)=true:=by kernel_rfl
noncomputable def vd:bJ:=⟨(bX 82),y "_law_stretch",812,811,.none,(.str (y "law_ja0054_01") 2031),.none,none,[y "word",y "salt",y "rounds",y "size",y "octet"],[y "bytes",y "range"]⟩
theorem QR:cX (ak w h) (.ref 812)=true:=by kernel_rfl
noncomputable def Bd:bJ:=⟨(bX 83),y "_law_pairs",819,818,.none,(.str (y "law_ja0054_01") 2031),.none,none,[y "feed",y "pairs",y "k",y "need",y "many"],[y "_law_draw",y "range",y "len"]⟩
theorem QS:Bd.cj=true:=by decide+kernel
theorem QT:cX (ak w h) (.ref 819)=true:=by kernel_rfl
noncomputable def ou:bJ:=⟨(bX 84),y "_law_refused",824,823,.none,(.str (y "law_ja0054_01") 2031),.none,none,[y "secret",y "word",y "pairs",y "least",y "need",y "many"],[y "len"]⟩
theorem QU:ou.cj=true:=by decide+kernel
theorem QV:cX (ak w h) (.ref 824)=true:=by kernel_rfl
noncomputable def r6:bJ:=⟨(bX 85),y "_law_combined",831,830,.none,(.str (y "law_ja0054_01") 2031),.none,none,[y "texts",y "word"],[y "combine_mnemonics",y "_law_seal",y "_law_stretch",y "MnemonicError"]⟩
theorem QW:r6.cj=true:=by decide+kernel
theorem Be:cX (ak w h) (.ref 831)=true:=by kernel_rfl
noncomputable def r7:bJ:=⟨(bX 86),y "law",836,835,.none,(.str (y "law_ja0054_01") 2031),.none,none,[y "script",y "size",y "secret",y "word",y "pairs",y "least",y "due",y "longer",y "exponent",y "draw",y "told",y "texts",y "every",y "number",y "outer",y "part",y "some",y "g",y "at"],[y "_law_feed",y "_law_draw",y "_law_octets",y "bytes",y "range",y "_law_pairs",y "_law_refused",y "sum",y "generate_mnemonics",y "_law_seal",y "_law_stretch",y "ValueError",y "len",y "set",y "_law_combined"]⟩
theorem ve:bK (ak w h) 3 (y "RADIX_BITS")=some (some (.int 10 194)):=by kernel_rfl
theorem QX:bK (ak w h) 3 (y "RADIX")=some (some (.int 1024 196)):=by kernel_rfl
theorem vf:bK (ak w h) 3 (y "ID_LENGTH_BITS")=some (some (.int 15 198)):=by kernel_rfl
theorem Bf:bK (ak w h) 3 (y "EXTENDABLE_FLAG_LENGTH_BITS")=some (some (.int 1 200)):=by kernel_rfl
theorem qa:bK (ak w h) 3 (y "ITERATION_EXP_LENGTH_BITS")=some (some (.int 4 202)):=by kernel_rfl
theorem qb:bK (ak w h) 3 (y "ID_EXP_LENGTH_WORDS")=some (some (.int 2 204)):=by kernel_rfl
theorem vg:bK (ak w h) 3 (y "MAX_SHARE_COUNT")=some (some (.int 16 206)):=by kernel_rfl
theorem vh:bK (ak w h) 3 (y "CHECKSUM_LENGTH_WORDS")=some (some (.int 3 208)):=by kernel_rfl
theorem r8:bK (ak w h) 3 (y "DIGEST_LENGTH_BYTES")=some (some (.int 4 210)):=by kernel_rfl
theorem Bg:bK (ak w h) 3 (y "CUSTOMIZATION_STRING_ORIG")=some (some (.bytes #[115,104,97,109,105,114] 212)):=by kernel_rfl
theorem QY:bK (ak w h) 3 (y "CUSTOMIZATION_STRING_EXTENDABLE")=some (some (.bytes #[115,104,97,109,105,114,95,101,120,116,101,110,100,97,98,108,101] 214)):=by kernel_rfl
theorem QZ:bK (ak w h) 3 (y "GROUP_PREFIX_LENGTH_WORDS")=some (some (.int 3 216)):=by kernel_rfl
theorem Q0:bK (ak w h) 3 (y "METADATA_LENGTH_WORDS")=some (some (.int 7 218)):=by kernel_rfl
theorem Bh:bK (ak w h) 3 (y "MIN_STRENGTH_BITS")=some (some (.int 128 220)):=by kernel_rfl
theorem Q1:bK (ak w h) 3 (y "MIN_MNEMONIC_LENGTH_WORDS")=some (some (.int 20 222)):=by kernel_rfl
theorem Q2:bK (ak w h) 3 (y "BASE_ITERATION_COUNT")=some (some (.int 10000 224)):=by kernel_rfl
theorem vi:bK (ak w h) 3 (y "ROUND_COUNT")=some (some (.int 4 226)):=by kernel_rfl
theorem Bi:bK (ak w h) 3 (y "SECRET_INDEX")=some (some (.int 255 228)):=by kernel_rfl
theorem Bj:bK (ak w h) 3 (y "DIGEST_INDEX")=some (some (.int 254 230)):=by kernel_rfl
theorem r9:bK (ak w h) 3 (y "MnemonicError")=some (some (.ref 31)):=by kernel_rfl
theorem Bk:bK (ak w h) 3 (y "_round_bits")=some (some (.ref 41)):=by kernel_rfl
theorem sa:bK (ak w h) 3 (y "bits_to_bytes")=some (some (.ref 48)):=by kernel_rfl
theorem Q3:bK (ak w h) 3 (y "bits_to_words")=some (some (.ref 55)):=by kernel_rfl
theorem Bl:bK (ak w h) 3 (y "int_to_indices")=some (some (.ref 62)):=by kernel_rfl
theorem Bm:bK (ak w h) 3 (y "_xor")=some (some (.ref 69)):=by kernel_rfl
theorem Bn:bK (ak w h) 3 (y "_round_function")=some (some (.ref 76)):=by kernel_rfl
theorem Bo:bK (ak w h) 3 (y "_get_salt")=some (some (.ref 83)):=by kernel_rfl
theorem Bp:bK (ak w h) 3 (y "encrypt")=some (some (.ref 90)):=by kernel_rfl
theorem Q4:bK (ak w h) 3 (y "decrypt_cipher")=some (some (.ref 97)):=by kernel_rfl
theorem Bq:bK (ak w h) 3 (y "_polymod")=some (some (.ref 104)):=by kernel_rfl
theorem Q5:bK (ak w h) 3 (y "create_checksum")=some (some (.ref 109)):=by kernel_rfl
theorem Q6:bK (ak w h) 3 (y "verify_checksum")=some (some (.ref 116)):=by kernel_rfl
theorem Br:bK (ak w h) 3 (y "_OUTER_INDEX_MAP")=some (some (.ref 117)):=by kernel_rfl
theorem Q7:bK (ak w h) 3 (y "_INNER_INDEX_MAP")=some (some (.ref 118)):=by kernel_rfl
theorem Q8:bK (ak w h) 3 (y "_word")=some (some (.ref 125)):=by kernel_rfl
theorem Q9:bK (ak w h) 3 (y "words_from_indices")=some (some (.ref 139)):=by kernel_rfl
theorem Ra:bK (ak w h) 3 (y "mnemonic_to_indices")=some (some (.ref 144)):=by kernel_rfl
theorem vj:bK (ak w h) 3 (y "_int_to_word_indices")=some (some (.ref 194)):=by kernel_rfl
theorem vk:bK (ak w h) 3 (y "_int_from_word_indices")=some (some (.ref 201)):=by kernel_rfl
theorem Bs:bK (ak w h) 3 (y "_customization_string")=some (some (.ref 208)):=by kernel_rfl
theorem Rb:bK (ak w h) 3 (y "ShareCommonParameters")=some (some (.ref 285)):=by kernel_rfl
theorem Rc:bK (ak w h) 3 (y "ShareGroupParameters")=some (some (.ref 371)):=by kernel_rfl
theorem vl:bK (ak w h) 3 (y "Share")=some (some (.ref 450)):=by kernel_rfl
theorem mS:bK (ak w h) 3 (y "RawShare")=some (some (.ref 565)):=by kernel_rfl
theorem Rd:bK (ak w h) 3 (y "ShareGroup")=some (some (.ref 660)):=by kernel_rfl
theorem vm:bK (ak w h) 3 (y "EncryptedMasterSecret")=some (some (.ref 705)):=by kernel_rfl
theorem Re:bK (ak w h) 3 (y "EXP_TABLE")=some (some (.ref 712)):=by kernel_rfl
theorem sb:bK (ak w h) 3 (y "LOG_TABLE")=some (some (.ref 715)):=by kernel_rfl
theorem vn:bK (ak w h) 3 (y "_interpolate")=some (some (.ref 722)):=by kernel_rfl
theorem Bt:bK (ak w h) 3 (y "_create_digest")=some (some (.ref 729)):=by kernel_rfl
theorem Bu:bK (ak w h) 3 (y "_split_secret")=some (some (.ref 734)):=by kernel_rfl
theorem Bv:bK (ak w h) 3 (y "_recover_secret")=some (some (.ref 741)):=by kernel_rfl
theorem Rf:bK (ak w h) 3 (y "decode_mnemonics")=some (some (.ref 748)):=by kernel_rfl
theorem Rg:bK (ak w h) 3 (y "split_ems")=some (some (.ref 753)):=by kernel_rfl
theorem Rh:bK (ak w h) 3 (y "_random_identifier")=some (some (.ref 760)):=by kernel_rfl
theorem Ri:bK (ak w h) 3 (y "recover_ems")=some (some (.ref 771)):=by kernel_rfl
theorem Rj:bK (ak w h) 3 (y "combine_mnemonics")=some (some (.ref 779)):=by kernel_rfl
theorem Rk:bK (ak w h) 3 (y "_law_feed")=some (some (.ref 786)):=by kernel_rfl
theorem gn:bK (ak w h) 3 (y "_law_draw")=some (some (.ref 793)):=by kernel_rfl
theorem Bw:bK (ak w h) 3 (y "_law_octets")=some (some (.ref 800)):=by kernel_rfl
theorem Bx:bK (ak w h) 3 (y "_law_seal")=some (some (.ref 807)):=by kernel_rfl
theorem By:bK (ak w h) 3 (y "_law_stretch")=some (some (.ref 812)):=by kernel_rfl
theorem Rl:bK (ak w h) 3 (y "_law_pairs")=some (some (.ref 819)):=by kernel_rfl
theorem Rm:bK (ak w h) 3 (y "_law_refused")=some (some (.ref 824)):=by kernel_rfl
theorem Bz:bK (ak w h) 3 (y "_law_combined")=some (some (.ref 831)):=by kernel_rfl
theorem kZ:bK (ak w h) 3 (y "ValueError")=some none:=by kernel_rfl
theorem Rn:bK (ak w h) 3 (y "all")=some none:=by kernel_rfl
theorem Ro:bK (ak w h) 3 (y "any")=some none:=by kernel_rfl
theorem Rp:bK (ak w h) 3 (y "bool")=some none:=by kernel_rfl
theorem jF:bK (ak w h) 3 (y "bytes")=some none:=by kernel_rfl
theorem Rq:bK (ak w h) 3 (y "int")=some none:=by kernel_rfl
theorem Rr:bK (ak w h) 3 (y "isinstance")=some none:=by kernel_rfl
theorem BA:bK (ak w h) 3 (y "issubclass")=some none:=by kernel_rfl
theorem dv:bK (ak w h) 3 (y "len")=some none:=by kernel_rfl
theorem lS:bK (ak w h) 3 (y "list")=some none:=by kernel_rfl
theorem hN:bK (ak w h) 3 (y "range")=some none:=by kernel_rfl
theorem sc:bK (ak w h) 3 (y "reversed")=some none:=by kernel_rfl
theorem vo:bK (ak w h) 3 (y "set")=some none:=by kernel_rfl
theorem vp:bK (ak w h) 3 (y "sum")=some none:=by kernel_rfl
theorem mT:bK (ak w h) 3 (y "tuple")=some none:=by kernel_rfl
theorem BB:bK (ak w h) 3 (y "type")=some none:=by kernel_rfl
theorem vq:bK (ak w h) 3 (y "zip")=some none:=by kernel_rfl
structure bb(h:x->a1):Prop where
 cu:∀(m:Nat) c a9,uV[m]?=some (c,a9)->z8 h c a9
theorem Rs(f:bb h):ce w h Af:=⟨f.cu 1 _ _ d,by kernel_rfl,by kernel_rfl,by decide+kernel⟩
theorem Rt(f:bb h):ce w h Ah:=⟨f.cu 2 _ _ d,by kernel_rfl,by kernel_rfl,by decide+kernel⟩
theorem Ru(f:bb h):ce w h Ai:=⟨f.cu 3 _ _ d,by kernel_rfl,by kernel_rfl,by decide+kernel⟩
theorem BC(f:bb h):ce w h mR:=⟨f.cu 4 _ _ d,by kernel_rfl,by kernel_rfl,by decide+kernel⟩
theorem Rv(f:bb h):ce w h Ak:=⟨f.cu 5 _ _ d,by kernel_rfl,by kernel_rfl,by decide+kernel⟩
theorem Rw(f:bb h):ce w h Am:=⟨f.cu 6 _ _ d,by kernel_rfl,by kernel_rfl,by decide+kernel⟩
theorem Rx(f:bb h):ce w h Ao:=⟨f.cu 7 _ _ d,by kernel_rfl,by kernel_rfl,by decide+kernel⟩
theorem BD(f:bb h):ce w h u4:=⟨f.cu 8 _ _ d,by kernel_rfl,by kernel_rfl,by decide+kernel⟩
theorem Ry(f:bb h):ce w h As:=⟨f.cu 9 _ _ d,by kernel_rfl,by kernel_rfl,by decide+kernel⟩
theorem Rz(f:bb h):ce w h At:=⟨f.cu 10 _ _ d,by kernel_rfl,by kernel_rfl,by decide+kernel⟩
theorem RA(f:bb h):ce w h u5:=⟨f.cu 11 _ _ d,by kernel_rfl,by kernel_rfl,by decide+kernel⟩
theorem RB(f:bb h):ce w h Av:=⟨f.cu 12 _ _ d,by kernel_rfl,by kernel_rfl,by decide+kernel⟩
theorem RC(f:bb h):ce w h Aw:=⟨f.cu 13 _ _ d,by kernel_rfl,by kernel_rfl,by decide+kernel⟩
theorem RD(f:bb h):ce w h Ax:=⟨f.cu 14 _ _ d,by kernel_rfl,by kernel_rfl,by decide+kernel⟩
theorem RF(f:bb h):ce w h Ay:=⟨f.cu 15 _ _ d,by kernel_rfl,by kernel_rfl,by decide+kernel⟩
theorem RG(f:bb h):ce w h Az:=⟨f.cu 16 _ _ d,by kernel_rfl,by kernel_rfl,by decide+kernel⟩
theorem RH(f:bb h):ce w h r3:=⟨f.cu 17 _ _ d,by kernel_rfl,by kernel_rfl,by decide+kernel⟩
theorem RI(f:bb h):ce w h AA:=⟨f.cu 18 _ _ d,by kernel_rfl,by kernel_rfl,by decide+kernel⟩
theorem RJ(f:bb h):ce w h AB:=⟨f.cu 19 _ _ d,by kernel_rfl,by kernel_rfl,by decide+kernel⟩
theorem RK(f:bb h):ce w h AD:=⟨f.cu 20 _ _ d,by kernel_rfl,by kernel_rfl,by decide+kernel⟩
theorem RL(f:bb h):ce w h AF:=⟨f.cu 21 _ _ d,by kernel_rfl,by kernel_rfl,by decide+kernel⟩
theorem RM(f:bb h):ce w h AG:=⟨f.cu 22 _ _ d,by kernel_rfl,by kernel_rfl,by decide+kernel⟩
theorem RN(f:bb h):ce w h AH:=⟨f.cu 23 _ _ d,by kernel_rfl,by kernel_rfl,by decide+kernel⟩
theorem RO(f:bb h):ce w h AI:=⟨f.cu 24 _ _ d,by kernel_rfl,by kernel_rfl,by decide+kernel⟩
theorem RP(f:bb h):ce w h AJ:=⟨f.cu 25 _ _ d,by kernel_rfl,by kernel_rfl,by decide+kernel⟩
theorem RQ(f:bb h):ce w h AK:=⟨f.cu 26 _ _ d,by kernel_rfl,by kernel_rfl,by decide+kernel⟩
theorem RR(f:bb h):ce w h AL:=⟨f.cu 27 _ _ d,by kernel_rfl,by kernel_rfl,by decide+kernel⟩
theorem RS(f:bb h):ce w h AM:=⟨f.cu 28 _ _ d,by kernel_rfl,by kernel_rfl,by decide+kernel⟩
theorem RT(f:bb h):ce w h AN:=⟨f.cu 29 _ _ d,by kernel_rfl,by kernel_rfl,by decide+kernel⟩
theorem RU(f:bb h):ce w h AO:=⟨f.cu 30 _ _ d,by kernel_rfl,by kernel_rfl,by decide+kernel⟩
theorem RV(f:bb h):ce w h AP:=⟨f.cu 31 _ _ d,by kernel_rfl,by kernel_rfl,by decide+kernel⟩
theorem RW(f:bb h):ce w h r4:=⟨f.cu 32 _ _ d,by kernel_rfl,by kernel_rfl,by decide+kernel⟩
theorem RX(f:bb h):ce w h AQ:=⟨f.cu 33 _ _ d,by kernel_rfl,by kernel_rfl,by decide+kernel⟩
theorem RY(f:bb h):ce w h AS:=⟨f.cu 34 _ _ d,by kernel_rfl,by kernel_rfl,by decide+kernel⟩
theorem RZ(f:bb h):ce w h AT:=⟨f.cu 35 _ _ d,by kernel_rfl,by kernel_rfl,by decide+kernel⟩
theorem R0(f:bb h):ce w h oq:=⟨f.cu 36 _ _ d,by kernel_rfl,by kernel_rfl,by decide+kernel⟩
theorem R1(f:bb h):ce w h AU:=⟨f.cu 37 _ _ d,by kernel_rfl,by kernel_rfl,by decide+kernel⟩
theorem R2(f:bb h):ce w h AV:=⟨f.cu 38 _ _ d,by kernel_rfl,by kernel_rfl,by decide+kernel⟩
theorem R3(f:bb h):ce w h AW:=⟨f.cu 39 _ _ d,by kernel_rfl,by kernel_rfl,by decide+kernel⟩
theorem R4(f:bb h):ce w h AX:=⟨f.cu 40 _ _ d,by kernel_rfl,by kernel_rfl,by decide+kernel⟩
theorem R5(f:bb h):ce w h AY:=⟨f.cu 41 _ _ d,by kernel_rfl,by kernel_rfl,by decide+kernel⟩
theorem BE(f:bb h):ce w h u8:=⟨f.cu 42 _ _ d,by kernel_rfl,by kernel_rfl,by decide+kernel⟩
theorem R6(f:bb h):ce w h A0:=⟨f.cu 43 _ _ d,by kernel_rfl,by kernel_rfl,by decide+kernel⟩
theorem R7(f:bb h):ce w h u9:=⟨f.cu 44 _ _ d,by kernel_rfl,by kernel_rfl,by decide+kernel⟩
theorem R8(f:bb h):ce w h A1:=⟨f.cu 45 _ _ d,by kernel_rfl,by kernel_rfl,by decide+kernel⟩
theorem BF(f:bb h):ce w h r5:=⟨f.cu 46 _ _ d,by kernel_rfl,by kernel_rfl,by decide+kernel⟩
theorem R9(f:bb h):ce w h vb:=⟨f.cu 47 _ _ d,by kernel_rfl,by kernel_rfl,by decide+kernel⟩
theorem Sa(f:bb h):ce w h A5:=⟨f.cu 48 _ _ d,by kernel_rfl,by kernel_rfl,by decide+kernel⟩
theorem Sb(f:bb h):ce w h A6:=⟨f.cu 49 _ _ d,by kernel_rfl,by kernel_rfl,by decide+kernel⟩
theorem Sc(f:bb h):ce w h A7:=⟨f.cu 50 _ _ d,by kernel_rfl,by kernel_rfl,by decide+kernel⟩
theorem Sd(f:bb h):ce w h p9:=⟨f.cu 51 _ _ d,by kernel_rfl,by kernel_rfl,by decide+kernel⟩
theorem Se(f:bb h):ce w h A8:=⟨f.cu 52 _ _ d,by kernel_rfl,by kernel_rfl,by decide+kernel⟩
theorem Sf(f:bb h):ce w h ot:=⟨f.cu 53 _ _ d,by kernel_rfl,by kernel_rfl,by decide+kernel⟩
theorem Sg(f:bb h):ce w h A9:=⟨f.cu 54 _ _ d,by kernel_rfl,by kernel_rfl,by decide+kernel⟩
theorem Sh(f:bb h):ce w h vc:=⟨f.cu 55 _ _ d,by kernel_rfl,by kernel_rfl,by decide+kernel⟩
theorem Si(f:bb h):ce w h Ba:=⟨f.cu 56 _ _ d,by kernel_rfl,by kernel_rfl,by decide+kernel⟩
theorem Sj(f:bb h):ce w h Bc:=⟨f.cu 57 _ _ d,by kernel_rfl,by kernel_rfl,by decide+kernel⟩
theorem Sk(f:bb h):ce w h vd:=⟨f.cu 58 _ _ d,by kernel_rfl,by kernel_rfl,by decide+kernel⟩
theorem Sl(f:bb h):ce w h Bd:=⟨f.cu 59 _ _ d,by kernel_rfl,by kernel_rfl,by decide+kernel⟩
theorem Sm(f:bb h):ce w h ou:=⟨f.cu 60 _ _ d,by kernel_rfl,by kernel_rfl,by decide+kernel⟩
theorem Sn(f:bb h):ce w h r6:=⟨f.cu 61 _ _ d,by kernel_rfl,by kernel_rfl,by decide+kernel⟩
theorem So(f:bb h):ce w h r7:=⟨f.cu 62 _ _ d,by kernel_rfl,by kernel_rfl,by decide+kernel⟩
end
variable{w:aD}{h:x->a1}{e:aP}{I:List (Option p)}{led:List (x×V)}{s:H}{n:aQ}{M:p->H->Prop}{r:p->H->Prop}{D:ao}{pos bB:az}{ax G C c L ai ac U aq aT af:x}{i name:al}{args bl:List am}{q l m b v R:Nat}{S u aA bf bh bn:aF}{o E aY aC:p}{value target iter slice:am}{z:az}{body bq:List bu}{ar O aU:List p}{k aK:H}{aM:Array p}{ag:au}{ah:List (Nat×List UInt8)}{scope:bj}{ae:List x}{t:Bool}{aB:List ao}{as aw:List UInt8}{bt:V}{av bs:x->V->Prop}{Q:List (Int×Int)}
theorem Sp{ax a:List (al×p)}(f:∀z∈ax,z.1≠i):(ax++a).lookup i=a.lookup i:=by
 induction ax with
 |nil=>rfl
 |cons z e b=>refine j (tD ..)<|j f0<|j (beq_eq_false_iff_ne.mpr (fk (f z aG)))<|b λc d=>f c (.tail _ d)
theorem BG:∀{names:List al} {args:List p},names.Nodup->args.length<=names.length->names.map (λi=>(names.zip args).reverse.lookup i)=args.map some++he (names.length-args.length) none
 |names,[],_,_=>by rw[List.zip_nil_right];exact List.map_const' ..
 |[],_::_,_,d=>absurd d (τ _)
 |a::names,b::args,j,d=>by
  have e:=List.nodup_cons.mp j;have f:=BG e.2 (Nat.le_of_succ_le_succ d);have k:∀g∈(names.zip args).reverse,g.1≠a:=λg l h=>e.1 (h▸(Gc (List.mem_reverse.mp l)).1);rw[jr,tE,dC,dC,Sp k];have m:([(a,b)]:List (al×p)).lookup a=some b:=by rw[f0,beq_self_eq_true]
  rw[m];refine congrArg (some b::·) ?_;rw[ec,ec,Nat.succ_sub_succ];refine Eq.trans ?_ f;refine Gd λi n=>?_;have o:i≠a:=λh=>e.1 (h▸n);have:∀c:List (al×p),(c++[(a,b)]).lookup i=c.lookup i:=λc=>by
   induction c with
   |nil=>rw[ix,f0,beq_eq_false_iff_ne.mpr o]
   |cons g q f=>rw[tD,f0,f0,f]
  exact this _
theorem bJ.fn{C:bJ}(f:C.ok=true):(∀i∈C.names,(d1 C.a9).names.lookup i=some .local)/\C.names.Nodup:=by simp only[bJ.ok,eH,beq_iff_eq,hc,iw,decide_eq_true_eq] at f;exact⟨f.1.1.1.1.2,f.1.1.1.2⟩
theorem cZ{C:bJ}{args:List p}{r:p->H->Prop}(F:ce w h C)(e:C.cj=true)(af:dq)(L:aH w h s)(g:af.P s.heap){S:Nat}(A:aR n (q+1) (S+3))(f:∀ac k,let a:aP:=⟨C.eg ac [],s,af,.none⟩;let d:Around:=n.deeper a.D;let i:List (Option p):=args.map some++he (C.names.length-args.length) none;a.l.bL->N w h a i [] k->aR d q S->aa w d (ej (fv C.a9) a.D) (ia r) (λW W=>False) k)(j:autoParam (∀doc,hE (C.d5 doc) ⟨args,[]⟩=pure (C.names.zip args)) Zzj)(l:autoParam (tp args.length C.names.length=true) b0):bk w n (.call (.ref C.fG) ⟨args,[]⟩) (bW r) s:=
 Ad af L g A F e j (List.all_eq_true.mpr λb c=>beq_iff_eq.mpr ((bJ.fn F.ok).1 _ (Gc (Prod.eta b▸c)).1))
  (BG (bJ.fn F.ok).2 (b6 l)) (List.all_eq_true.mpr λb c=>List.elem_eq_true_of_mem (Gc (Prod.eta b▸c)).1) f
abbrev sd(w:aD)(n:aQ)(dd:List bu)(D:ao)(r:eb->H->Prop)(M:p->H->Prop)(C:eb)(s:H):Prop:=match C with|.next=>aa w n (ej dd D) r M s|C=>r C s
def i3(P hO:H->Prop)(b:Bool)(s:H):Prop:=if b then P s else hO s
theorem d2{P hO:H->Prop}(f:P s):i3 P hO true s:=f
theorem dw{P hO:H->Prop}(f:hO s):i3 P hO false s:=f
theorem fi{P hO:H->Prop}{b:Bool}(o:b=true)(f:P s):i3 P hO b s:=by subst o;exact f
theorem dN{P hO:H->Prop}{b:Bool}(o:b=false)(f:hO s):i3 P hO b s:=by subst o;exact f
abbrev Sq(r:eb->H->Prop)(E:p):H->Prop:=r (.ret E)
abbrev BH(w:aD)(n:aQ)(D:ao)(i:al)(r:eb->H->Prop)(M:p->H->Prop)(E:p)(s:H):Prop:=aa w n (kK D i E) (λW=>r .next) M s
abbrev Sr(w:aD)(n:aQ)(D:ao)(i:al)(op:q0)(a:p)(r:eb->H->Prop)(M:p->H->Prop)(E:p)(s:H):Prop:=aa w n (xi op a E) (BH w n D i r M) M s
abbrev Ss(w:aD)(n:aQ)(D:ao)(i:al)(op:q0)(value:am)(r:eb->H->Prop)(M:p->H->Prop)(a:p)(s:H):Prop:=aa w n (bA value D) (Sr w n D i op a r M) M s
abbrev Su(w:aD)(n:aQ)(op:q0)(c:p)(r M:p->H->Prop)(b:p)(s:H):Prop:=aa w n (fg op c b) r M s
abbrev Sv(w:aD)(n:aQ)(A:am)(D:ao)(op:q0)(r M:p->H->Prop)(c:p)(s:H):Prop:=aa w n (bA A D) (Su w n op c r M) M s
abbrev BI(w:aD)(n:aQ)(op:pk)(c:p)(r M:p->H->Prop)(b:p)(s:H):Prop:=aa w n (f1 op c b) r M s
abbrev BJ(w:aD)(n:aQ)(A:am)(D:ao)(op:pk)(r M:p->H->Prop)(c:p)(s:H):Prop:=aa w n (bA A D) (BI w n op c r M) M s
abbrev BK(w:aD)(n:aQ)(r:Bool->H->Prop)(M:p->H->Prop)(E:p)(s:H):Prop:=aa w n (ms E) r M s
theorem aa.mono{α:Type}{u:eF α}{r a:α->H->Prop}{M b:p->H->Prop}(f:aa w n u r M s)(d:∀c s,r c s->a c s)(e:∀o s,M o s->b o s):aa w n u a b s:=⟨cy f.run d e⟩
theorem aa.J{α:Type}{u:eF α}{r a:α->H->Prop}(f:aa w n u r M s)(b:∀c s,r c s->a c s):aL (aZ w) n u a M s:=cy f.run b λW W d=>d
abbrev ov(w:aD)(n:aQ)(aO M:p->H->Prop)(i:p)(s:H):Prop:=aa w n (hX i) aO M s
section stmts
variable{r:eb->H->Prop}
theorem seq{a9:bu}{dd:List bu}(f:aa w n (g2 a9 D) (sd w n dd D r M) M s):aa w n (ej (a9::dd) D) r M s:=⟨wpAny_execs_cons (f.J λb c a=>by cases b<;>first|exact a.run|exact a)⟩
theorem bv(f:r .next s):aa w n (ej [] D) r M s:=⟨wpAny_execs_nil f⟩
theorem doc(f:r .next {s with toks:=s.toks+1})(aW:autoParam (interactive D=false) b0):aa w n (g2 (.Expr (.Constant (.str i) l pos) bB) D) r M s:=⟨wpAny_Expr (Ge f) aW d⟩
theorem b2{o:am}(f:aa w n (bA o D) (Sq r) M s):aa w n (g2 (.Return (some o) pos) D) r M s:=⟨wpAny_Return_some f.run⟩
theorem bN(f:aa w n (bA value D) (BH w n D i r M) M s)(a:autoParam (xj value (some (.Name i z)) pos.line D=pure false) b0):
 aa w n (g2 (.Assign [.Name i z] value pos) D) r M s:=⟨wpAny_Assign_Name (f.J λW W i=>i.run) a⟩
theorem jG{op:q0}(f:aa w n (loadName D i) (Ss w n D i op value r M) M s):
 aa w n (g2 (.AugAssign (.Name i z) op value pos) D) r M s:=⟨wpAny_AugAssign_Name (f.J λW W i=>i.J λW W i=>i.J λW W i=>i.run)⟩
theorem ifs{a:am}(f:aa w n (hF a D (bA a D)) (i3 (aa w n (ej body D) r M) (aa w n (ej bq D) r M)) M s):
 aa w n (g2 (.If a body bq pos) D) r M s:=⟨wpAny_If (f.J λb W c=>by cases b<;>simpa using(show aa _ _ _ _ _ _ from c).run)⟩
end stmts
section Sw
theorem a2{G A:am}{op:q0}(f:aa w n (bA G D) (Sv w n A D op r M) M s):aa w n (bA (.BinOp G op A pos) D) r M s:=⟨wpAny_BinOp (f.J λW W a=>a.J λW W a=>a.run)⟩
theorem lT{G A:am}{op:pk}(f:aa w n (bA G D) (BJ w n A D op r M) M s)(b:autoParam (behindInMarks op A=false) b0):aa w n (bA (.Compare G [op] [A] pos) D) r M s:=⟨wpAny_Compare1 (f.J λW W a=>a.J λW W a=>a.run) b⟩
theorem ite{a body bq:am}(f:aa w n (hF a D (bA a D)) (i3 (aa w n (bA body D) r M) (aa w n (bA bq D) r M)) M s):aa w n (bA (.IfExp a body bq pos) D) r M s:=⟨wpAny_IfExp (f.J λb W c=>by cases b<;>simpa using(show aa _ _ _ _ _ _ from c).run)⟩
theorem Y(a:N w h e I led s)(b:e.l.bL)(m:Nat)(aW:some i=e.l.names[m]?)(c:some (some E)=I[m]?)(f:r E s)(d:autoParam (D=e.D) b0):aa w n (bA (.Name i pos) D) r M s:=by subst d;exact⟨xk (Gg b.kind (b.fn _ (cx aW.symm)) a.ch (lR b.h8 aW.symm c.symm) f) (b.z0 _ (cx aW.symm))⟩
theorem jH(a:N w h e I led s)(b:e.l.bL)(m:Nat)(aW:some i=e.l.names[m]?)(c:some (some E)=I[m]?)(f:r E s)(d:autoParam (D=e.D) b0):
 aa w n (loadName D i) r M s:=by
 subst d;exact⟨Gg b.kind (b.fn _ (cx aW.symm)) a.ch (lR b.h8 aW.symm c.symm) f⟩
theorem Sx{r:Unit->H->Prop}(a:N w h e I led s)(b:e.l.bL)(m:Nat)(aW:some i=e.l.names[m]?)(c:m<I.length)(f:∀k,N w h e (I.set m (some E)) led k->r () k)(d:autoParam (D=e.D) b0):aa w n (kK D i E) r M s:=by subst d;exact⟨υ (b.fn _ (cx aW.symm)) a.ch (λo g l=>f _ (a.z4 b aW.symm c g l)) (by refine j b.kind ?_;rfl)⟩
noncomputable def qc(P:gC)(h:x->a1):Array DictEntry:=match(i1 P h).lookup 3 with|some ⟨_,_,.dict a _,_⟩=>a|_=>#[]
theorem aH.main(L:aH w h s):s.heap.Ns 3 (pj (qc w.params h)):=L.ns (c:=3) (J:=⟨.type "dict",none,.dict (qc w.params h) 88,#[]⟩) .(0) d .(0)
theorem eA(a:N w h e I led s)(b:e.l.bL)(m:Nat)(aW:some i=e.l.aX[m]?)(o:bK (ak w h) 3 i=some (some E))(f:r E s)(c:autoParam (D=e.D) b0):aa w n (bA (.Name i pos) D) r M s:=by subst c;exact⟨xl b.kind (b.rY _ (cx aW.symm)) (φ (env:=e.D) (by refine j b.kf ?_;exact a.Z.main) (mg_of a.Z.l a.Z.main o) f) (b.rZ _ (cx aW.symm))⟩
theorem mU(a:N w h e I led s)(b:e.l.bL)(m:Nat)(aW:some i=e.l.aX[m]?)(o:bK (ak w h) 3 i=some none)(c:fs i=some E/\i≠"__name__")(f:r E s)(d:autoParam (D=e.D) b0):aa w n (bA (.Name i pos) D) r M s:=by subst d;refine bp a.Z.b λl g k=>⟨xl b.kind (b.rY _ (cx aW.symm)) (χ (env:=e.D) (by refine j b.kf ?_;exact a.Z.main) (mg_none_of a.Z.l a.Z.main o) (by refine j b.blt ?_;exact g) ((k i c.2).trans c.1) f) (b.rZ _ (cx aW.symm))⟩
theorem cg{m:Int}(a:N w h e I led s)(f:∀u k,N w h e I led k->r (.int m u) k):aa w n (bA (.Constant (.int m) l pos) D) r M s:=⟨wpAny_Constant_int (f _ _ a.toks)⟩
theorem fj(a:N w h e I led s)(f:∀u k,N w h e I led k->r (.str i u) k):aa w n (bA (.Constant (.str i) l pos) D) r M s:=⟨Ge (f _ _ a.toks)⟩
variable{c b:Int}{u S:aF}
theorem ow(a:N w h e I led s)(f:∀u k,N w h e I led k->r (.int (c+b) u) k):aa w n (fg .Add (.int c u) (.int b S)) r M s:=⟨add_int (f _ _ a.toks)⟩
theorem mV(a:N w h e I led s)(f:∀u k,N w h e I led k->r (.int (c-b) u) k):aa w n (fg .Sub (.int c u) (.int b S)) r M s:=⟨sub_int (f _ _ a.toks)⟩
theorem se(a:N w h e I led s)(d:b≠0)(f:∀u k,N w h e I led k->r (.int (c.fmod b) u) k):aa w n (fg .Mod (.int c u) (.int b S)) r M s:=⟨mod_int d (f _ _ a.toks)⟩
theorem BL(a:N w h e I led s)(d:b≠0)(g:ψ c b=false)(f:∀u k,N w h e I led k->r (.int (c.fdiv b) u) k):aa w n (fg .FloorDiv (.int c u) (.int b S)) r M s:=⟨floordiv_int d (f _ _ a.toks) (.inl g)⟩
end Sw
abbrev Sy(aO:List p->H->Prop)(E:p)(ar:List p):H->Prop:=aO (E::ar)
abbrev Sz(F:(List p->H->Prop)->H->Prop)(aO:List p->H->Prop)(E:p):H->Prop:=F (Sy aO E)
noncomputable def eM(w:aD)(n:aQ)(M:p->H->Prop)(D:ao):List am->(List p->H->Prop)->H->Prop
 |[],aO,s=>aO [] s
 |o::A,aO,s=>aa w n (bA o D) (Sz (eM w n M D A) aO) M s
noncomputable def fH(o:am):Bool:=!(xf o.ctorIdx (Expr.Starred default default).ctorIdx)
theorem sf{o:am}{A:List am}(f:fH o=true):iW (o::A) D=(false,bA o D)::iW A D:=by cases o<;>first|rfl|exact nomatch f
theorem qd:∀{args:List am} {aO:List p->H->Prop} {s:H},args.all fH=true->eM w n M D args aO s->aL (aZ w) n (spliced (lr pos (iW args D))) aO M s
 |[],_,_,_,a=>spliced_nil a
 |d::e,aO,s,b,a=>by simp only[xm,eH] at b;refine j (sf b.1)<|spliced_cons (aa.J a λf g c=>qd b.2 c)
theorem iI:∀{args:List am},args.all fH=true->(lr pos (iW args D)).any (·.1)=false
 |[],_=>rfl
 |c::b,a=>by simp only[xm,eH] at a;refine j (sf a.1)<|(?_:(false||(lr pos (iW b D)).any (·.1))=false);refine j (iI a.2) ?_;rfl
theorem jI{C:p}{aO:js->H->Prop}(a:args.all fH=true)(f:eM w n M D args (λar c=>aO ⟨ar,[]⟩ c) s):aL (aZ w) n (evalArgs C true (lr pos (iW args D)) []) aO M s:=by
 cases args with
 |nil=>exact evalArgs_nil3 f
 |cons d e=>have b:=qd (pos:=pos) a f;simp only[xm,eH] at a;rw[sf a.1] at b⊢;exact evalArgs_plain b
theorem k0{C:p}{b:List (al×p)}(f:bk w n (.call C ⟨ar,b⟩) (bW r) s):aL (aZ w) n (call C ar b) r M s:=
 hY (iX f.run λc e a=>by
  cases c with
  |error g=>exact a.elim
  |ok d=>cases d<;>first|exact a|exact a.elim)
abbrev BM(w:aD)(h:x->a1)(n:aQ)(aJ:x)(r:p->H->Prop)(ar:List p)(s:H):Prop:=(ak w h).In s.heap/\bk w n (.call (.ref aJ) ⟨ar,[]⟩) (bW r) s
abbrev BN(w:aD)(n:aQ)(C:p)(r M:p->H->Prop)(ar:List p)(s:H):Prop:=aa w n (call C ar) r M s
theorem sg{first :List p}(c:cX (ak w h) (.ref C)=true)(a:args.all fH=true)(f:eM w n M D args (λar b=>(ak w h).In b.heap/\aL (aZ w) n (call (.ref C) (first ++ar)) r M b) s):
 aL (aZ w) n (q1 pos (.ref C) first (lr pos (iW args D)) []) r M s:=
 tF (by refine j (iI a) ?_;rfl) (keeps_K c) (jI a f)
theorem b3{C:al}{aJ:x}(a:N w h e I led s)(i:e.l.bL)(m:Nat)(aW:some C=e.l.aX[m]?)(o:bK (ak w h) 3 C=some (some (.ref aJ)))(c:cX (ak w h) (.ref aJ)=true)(f:eM w n M D args (BM w h n aJ r) s)(j:autoParam (args.all fH=true) b0)(k:autoParam (D=e.D) b0):
 aa w n (bA (.Call (.Name C z) args [] pos) D) r M s:=by
 refine⟨pl (aa.run (eA a i m aW o ?_ k))⟩;refine sg c j ?_;simp only[ix];revert f;generalize l:BM w h n aJ r=aO;intro f;have q:∀{args:List am} {aO d:List p->H->Prop} {s:H},(∀g s,aO g s->d g s)->eM w n M D args aO s->eM w n M D args d s:=by
  intro args;induction args with
  |nil=>intro aO d s c f;exact c _ _ f
  |cons o v t=>intro aO d s c f;exact aa.mono f (λy A u=>t (λg s b=>c _ _ b) u) λW W b=>b
 subst l;exact q (λg s b=>⟨b.1,k0 b.2⟩) f
theorem eM.mono:∀{args:List am} {aO d:List p->H->Prop} {s:H},(∀ar s,aO ar s->d ar s)->eM w n M D args aO s->eM w n M D args d s
 |[],_,_,_,a,b=>a _ _ b
 |_::_,_,_,_,a,b=>aa.mono b (λW W e=>eM.mono (λar s c=>a _ _ c) e) λW W c=>c
theorem c0{C:al}{id:String}(a:N w h e I led s)(c:e.l.bL)(m:Nat)(aW:some C=e.l.aX[m]?)(o:bK (ak w h) 3 C=some none)(d:fs C=some (.builtin id)/\C≠"__name__")(f:eM w n M D args (BN w n (.builtin id) r M) s)(b:autoParam (args.all fH=true) b0)(g:autoParam (D=e.D) b0):
 aa w n (bA (.Call (.Name C z) args [] pos) D) r M s:=
 ⟨pl (aa.run (mU a c m aW o d (Gh (iI b) (jI b (f.mono λW W i=>by exact i.run))) g))⟩
theorem c6{C:al}{T:String}(a:N w h e I led s)(c:e.l.bL)(m:Nat)(aW:some C=e.l.aX[m]?)(o:bK (ak w h) 3 C=some none)(d:fs C=some (.type T)/\C≠"__name__")(f:eM w n M D args (BN w n (.type T) r M) s)(b:autoParam (args.all fH=true) b0)(g:autoParam (D=e.D) b0):
 aa w n (bA (.Call (.Name C z) args [] pos) D) r M s:=
 ⟨pl (aa.run (mU a c m aW o d (PyProof.Rows.callWith_type (iI b) (jI b (f.mono λW W i=>by exact i.run))) g))⟩
section
structure k1(w:aD)(n:aQ)(L:x)(br ae:List x)(v:Nat)(P:Nat->p->au->Prop)(N:Nat->au->Prop):Prop where
 sub:∀b∈ae,b∈br
 frame:∀m f ag,N m f->(∀b∈br,∀J,f.get? b=some J->ag.get? b=some J)->N m ag
 item:∀m (s:H) (r:Option p->H->Prop) (M:p->H->Prop),m<v->N m s.heap->
  (∀E ag a3,P m E ag->N (m+1) ag->(∀b J,b∉ae->s.heap.get? b=some J->ag.get? b=some J)->r (some E) {s with heap:=ag,toks:=a3})->aL (aZ w) n (gE (.ref L)) r M s
 done:∀(s:H) (r:Option p->H->Prop) (M:p->H->Prop),N v s.heap->
  (∀ag a3,(∀b J,b∉ae->s.heap.get? b=some J->ag.get? b=some J)->r none {s with heap:=ag,toks:=a3})->aL (aZ w) n (gE (.ref L)) r M s
 self:∀m (s:H) (r:p->H->Prop) (M:p->H->Prop),N m s.heap->r (.ref L) s->aL (aZ w) n (hX (.ref L)) r M s
theorem k1.of{L:x}{br ae:List x}{v:Nat}{P:Nat->p->Prop}{cH:Nat->au->Prop}(W:Walks ff w n L br ae v P cH):k1 w n L br ae v (λm E Y=>P m E) cH:=⟨W.sub,W.frame,W.item,W.done,W.self⟩
structure eY(w:aD)(n:aQ)(L:x)(br ae:List x)(v:Nat)(P:Nat->p->au->Prop)(cH:Nat->au->Prop):Prop where
 W:k1 w n L br ae v P cH
 live:∀l f,cH l f->∀b∈br,∃J,f.get? b=some J
variable{L:x}{br ae:List x}{v:Nat}{P:Nat->p->au->Prop}{cH:Nat->au->Prop}
noncomputable abbrev cs(W:eY w n L br ae v P cH)(l:Nat):eK:=⟨br,cH l,λa ag i z=>W.W.frame l a ag z i⟩
theorem N.item{W:eY w n L br ae v P cH}{lU:Nat}(a:N w h (e.push (cs W l)) I led s)(o:∀b∈ae,h9 e b/\b∉e.hd.br)(R:ee ae s k)(aW:cH lU k.heap):N w h (e.push (cs W lU)) I led k:=by
 have c:N w h e I led k:=a.drop.step R (λb f=>(o b f).1) (λg=>((a.b9 _ (cU _ (W.W.sub _ g))).1 d)) d (λi j=>R.heap _ _ (λg=>(a.b9 i.1 (cU _ (W.W.sub _ g))).2.2.1 (fN j)) (a.ld i j).1) λb f g=>(o b g).2 f;(refine⟨c.Z,c.aS,c.b4,c.ch,⟨c.cE.new,c.cE.ge,c.cE.dc⟩,λi j=>let⟨p,b,m⟩:=c.ld i j;(bO (p) (b) ⟨m.new,m.ge,m.dc⟩),c.dE,⟨aW,c.bG⟩,λb f=>?_⟩);rcases List.mem_append.mp f with f|f
 ·refine dM (a.b9 b (cU _ f)) λq r t u Y=>(cV (q) (r) (t) (u) (W.live _ _ aW b f))
 ·exact c.b9 b f
structure d7(e:aP)(ae:List x):Prop where
 own:∀b∈ae,h9 e b/\b∉e.hd.br
def SA(r:eb->H->Prop)(A:gh)(s:H):Prop:=match A with|.ok C=>r C s|.error _=>False
abbrev dh:p->H->Prop:=λW W=>False
abbrev BO(w:aD)(n:aQ)(target:am)(body bq:List bu)(D:ao)(av:gh->H->Prop)(it:p)(s:H):Prop:=bk w n (.forLoop target it body bq D) av s
theorem gJ{r:eb->H->Prop}(f:aa w n (bA iter D) (ov w n (BO w n target body bq D (SA r)) dh) dh s)(b:autoParam (∀i,q2 iter D i=pure i) Zzi):aa w n (g2 (.For target iter body bq pos) D) r dh s:=⟨wpAny_For (f.J λW W i=>i.J λW W i=>iX i.run λc d a=>by cases c<;>first|exact a|exact a.elim) b⟩
abbrev SB(w:aD)(n:aQ)(body:List bu)(D:ao)(r:eb->H->Prop)(M:p->H->Prop)(_:Unit)(s:H):Prop:=aa w n (ej body D) r M s
abbrev SD(w:aD)(n:aQ)(target:am)(D:ao)(E:p)(body:List bu)(r:eb->H->Prop)(M:p->H->Prop)(_:Unit)(s:H):Prop:=aa w n (dX target D E) (SB w n body D r M) M s
theorem gK{av:gh->H->Prop}(W:eY w n L br ae v P cH)(z:d7 e ae)(g:Nat->List (Option p)->List (x×V)->Prop)(a:N w h (e.push (cs W 0)) I led s)(h0:g 0 I led)(step:∀l E I led s (A:eb->H->Prop),l<v->P l E s.heap->g l I led->let J:aP:=e.push (cs W (l+1));(∀m d6 k,g (l+1) m d6->N w h J m d6 k->A .next k)->(∀E k,av (.ok (.ret E)) k->A (.ret E) k)->N w h J I led s->
  aa w n (gi target (.ref L) E) (SD w n target D E body A dh) dh s)
 (done:∀I led s,g v I led->N w h e I led s->aa w n (ej bq D) (λC k=>av (.ok C) k) dh s):
 bk w n (.forLoop target (.ref L) body bq D) av s:=by
 refine⟨ω (λf s=>∃l I led,f=v-l/\l<=v/\g l I led/\N w h (e.push (cs W l)) I led s) ?_ v (h5 (0) (I) (led) (rfl) (e2 _) (h0) (a))⟩;(intro f s K;(refine kT K λl I led R S M a=>?_;clear K;obtain rfl:=R));rcases gB l v with i|T
 ·refine W.W.item l s _ _ i a.bG.1 λE u y U X B=>?_;have f:ee ae s {s with heap:=u,toks:=y}:=⟨B,rfl,rfl,rfl⟩;refine cy (step l E I led _ (λC F=>match C with
   |.next|.cont=>∃m d6,g (l+1) m d6/\N w h (e.push (cs W (l+1))) m d6 F
   |.brk=>False
   |.ret E=>av (.ok (.ret E)) F) i U M (λo q k r c=>(eU (o) (q) (r) (c))) (λK K b=>b) (a.item z.own f X)).run (λX ac Y=>?_) λX X b=>b.elim
  refine cy Y.run (λY ad Z=>?_) λY Y b=>b.elim;refine cA ?_;intro af;refine cy Z.run (λC F j=>?_) λY Y b=>b.elim;cases C with
  |next=>(refine db j λo q r c=>?_;clear j);exact(bF (v-(l+1)) (pS i) (h5 (l+1) (o) (q) (rfl) (i) (r) (c)))
  |cont=>(refine db j λo q r c=>?_;clear j);exact(bF (v-(l+1)) (pS i) (h5 (l+1) (o) (q) (rfl) (i) (r) (c)))
  |brk=>exact j.elim
  |ret E=>exact j
 ·have:l=v:=kF S T;subst this;refine W.W.done s _ _ a.bG.1 λu y B=>?_;have f:ee ae s {s with heap:=u,toks:=y}:=⟨B,rfl,rfl,rfl⟩;have ab:N w h e I led {s with heap:=u,toks:=y}:=a.drop.step f (λc G=>(z.own c G).1) (λt=>((a.b9 _ (cU _ (W.W.sub _ t))).1 d)) d (λO Q=>f.heap _ _ (λt=>(a.b9 O.1 (cU _ (W.W.sub _ t))).2.2.1 (fN Q)) (a.ld O Q).1) λc G t=>(z.own c t).2 G;exact cy (done I led _ M ab).run (λW W b=>b) λW W b=>b.elim
theorem dF{it:p}{r:Unit->H->Prop}(f:r () s):aa w n (gi (.Name i z) it E) r M s:=⟨aI f⟩
theorem cp{r:Unit->H->Prop}(f:aa w n (kK D i E) r M s):aa w n (dX (.Name i z) D E) r M s:=⟨wpAny_assign_Name f.run⟩
theorem vr(v:n.handled=none)(a:N w h e I led s)(c:s.heap.IsList G aM)(i:G≠e.D.locals/\G∉e.af.ae/\G∉led.map (·.1)/\837<=G)(f:∀L k,(W:eY w n L [L,G] [L] aM.size (λm E Y=>aM[m]?=some E) (λm f=>f.IsListIter L G m/\f.IsList G aM))->d7 e [L]->N w h (e.push (cs W 0)) I led k->r (.ref L) k):
 aa w n (hX (.ref G)) r M s:=by
 refine⟨xn c ?_⟩;have x:G≠s.heap.objs.size:=λo=>by(refine bp c λJ b Y=>?_;clear c);exact dn _ (o▸cr b)
 have W:eY w n s.heap.objs.size [s.heap.objs.size,G] [s.heap.objs.size] aM.size (λm E Y=>aM[m]?=some E) (λm f=>f.IsListIter s.heap.objs.size G m/\f.IsList G aM):=
  ⟨k1.of (xo v _ _ x aM),λB f ⟨⟨J,b,_⟩,⟨C,y,_⟩⟩ q g=>by
   refine ed g ?_ ?_
   ·exact⟨_,b⟩
   ·exact⟨_,y⟩⟩
 have l:=a.alloc (J:={cls:=.type "list_iterator",data:=.fields #[.ref G,.int 0 0]}) d;have t:=l.at 0 d;have z:=l.cd (cJ _ _);have A:s.heap.objs.size∉e.hd.br:=λo=>by(refine dM (a.b9 _ o) λY Y Y Y u=>?_;(refine bo u λJ b=>?_;clear u));exact dn _ (cr b)
 (refine f _ _ W ⟨λq g=>by refine j (List.mem_singleton.mp g) ?_;exact⟨a.fresh,A⟩⟩ (z.hl _ ⟨(du (_) (t) (rfl) (rfl)),c.at λJ b=>cM _ b⟩ λq g=>?_));refine ed g ?_ ?_
 ·have p:=l.ld _ aG;exact(cV (p.2.1) (p.2.2.dc) ((List.nodup_cons.mp l.dE).1) (p.2.2.ge) ⟨_,t⟩)
 ·(refine bp c λJ b Y=>?_;clear c);exact(cV (i.1) (i.2.1) (i.2.2.1) (i.2.2.2) ⟨J,cM _ b⟩)
end
theorem BP:∀z∈hM,∀a∈hM,z.2=a.2->z=a:=by decide
theorem TableAt.ext{f:au}{P i:x}{ah}(u:f.TableAt c P ah)(o:kL i f ag)(b:c≠i)(d:P≠i):ag.TableAt c P ah:=by
 (refine bE u λa e=>?_;clear u;(refine db a λg h j k=>?_;clear a));exact⟨(eU (g) (h) (o _ _ b j) (k)),o _ _ d e⟩
theorem N.ext(a:N w h e I led s)(v:e.af.t=false){z:x×x}(y:z∈hM){ah more:Array p}{a3:Nat}(g:kL z.2 s.heap ag)(oy:s.heap.TableAt z.1 z.2 ah)(aA:ag.IsCode z.1 z.2 (ah++more))(bf:ag.TableAt z.1 z.2 (ah++more)):
 N w h e I led {s with heap:=ag,toks:=a3}:=by
 have o:=i2 z y;have q:∀b,837<=b->b≠z.2:=λb n d=>dn _ (cQ (d▸o.2.1) n);have L:∀c∈hM,∀m,s.heap.TableAt c.1 c.2 m->∃A,ag.TableAt c.1 c.2 (m++A):=by
  intro c l m u;by_cases d:c.2=z.2
  ·have:=BP c l z y d;subst this;have i:m=ah:=by have M:=u.2;have b:=oy.2;rw[M] at b;injection b with b;injection b with _ _ b;injection b
   exact⟨more,i▸bf⟩
  ·exact⟨#[],by refine j xg ?_;exact TableAt.ext u g (λB=>(i2 c l).2.2.2 (B▸o.2.2.1)) d⟩
 refine⟨⟨λb f i=>g b f (λd=>(jC i).2 (d▸o.2.2.1)) (a.Z.l b f i),λc l=>?_,a.Z.bare,?_⟩,?_,?_,?_,a.cE,λd v=>?_,a.dE,?_,λb n=>?_⟩
 ·by_cases d:c.2=z.2
  ·have:=BP c l z y d;refine j this<|(bF (_) (aA) (bf))
  ·refine bp (a.Z.tab c l) λm r O=>?_;have H:c.1≠z.2:=λB=>(i2 c l).2.2.2 (B▸o.2.2.1);exact(bF (m) (r.extBut g H d) (TableAt.ext O g H d))
 ·(refine bp a.Z.b λP t k=>?_;(refine f4 t λf C D E F=>?_;clear t));(exact⟨P,(hh (f) (C) (D) (g _ _ (λd=>by have J:=o.2.2.1;rw[<-d] at J;revert J;decide) E) (F)),k⟩)
 ·refine⟨λb f G k i=>g b f (λd=>?_) (a.aS.heap b f G k i),λc l m u=>?_,a.aS.gens,a.aS.g6,a.aS.os,a.aS.e5⟩
  ·rcases k with k|k
   ·exact k (d▸o.2.2.1)
   ·exact nomatch v.symm.trans k
  ·refine bo (a.aS.cK c l m u) λA Q=>bo (L c l _ Q) λR S=>⟨A++R,by refine be nH ?_;exact S⟩
 ·exact e.af.eV _ _ (λb n f i=>g b f (q b (e.af.ge b n)) i) a.b4
 ·refine f4 a.ch λf C D E F=>(hh (f) (C) (D) (g _ _ (q _ a.cE.ge) E) (F))
 ·have r:=a.ld d v;exact⟨g _ _ (q _ r.2.2.ge) r.1,r.2⟩
 ·exact e.hd.eV _ _ (λb n f i=>g b f (q b (a.b9 b n).2.2.2.1) i) a.bG
 ·(refine dM (a.b9 b n) λG k T K t=>?_;(refine bo t λf U=>?_;clear t));exact(cV (G) (k) (T) (K) ⟨f,g b f (q b K) U⟩)
theorem BQ{m:al}(a:N w h e I led s)(o:e.af.t=false)(z:x×x)(g:e.D.code=.ref z.1)(d:z∈hM)(f:∀E k,N w h e I led k->(∀b J,s.heap.get? b=some J->837<=b->k.heap.get? b=some J)->r E k):aL (aZ w) n (genexprCode e.D pos m scope) r M s:=by
 refine bp (a.Z.tab z d) λp i j=>?_;cases c:codeAmong pos p.toList with
 |some q=>exact wpAny_genexprCode_hit g i c (f _ _ a λW W c W=>c)
 |none=>exact wpAny_genexprCodeX g i j c λq A B l W W t W u W=>f _ _ (a.ext o d l j t u) λb J c v=>l b J (λy=>dn _ (cQ (y▸(i2 z d).2.1) v)) c
theorem aH.si{run:x}{r:x->H->Prop}(L:aH w h s)(f:r 0 s):aL (aZ w) n (builtinsFor 3 run) r M s:=wpAny_builtinsFor (o:=⟨.type "module",some 0,.plain,#[]⟩) L.main (bm:=4) (mg_of L.l L.main .(0)) .(1) (L.l _ _ .(0)) d d d f
section
noncomputable def sj(f:au)(b:x):Heap:=f.update b λW=>⟨.none,none,.freed,#[]⟩
noncomputable def fw:List x->au->au
 |[],a=>a
 |b::G,a=>sj (fw G a) b
theorem SF(f:au)(b:x):(sj f b).get? b=none:=by
 obtain⟨a,e⟩:=f;have c:((a.modify b λW=>⟨.none,none,.freed,#[]⟩)[b]?)=(a[b]?).map λW=>⟨.none,none,.freed,#[]⟩:=by rw[Array.getElem?_modify,if_pos d]
 unfold sj Heap.update Heap.get?;refine j c ?_;cases a[b]?<;>rfl
theorem bC{α:Type}{c:α}:c∉([]:List α):=λa=>(nomatch a)
theorem Zzx{α:Type}{a b:α}:a∉([]:List α)/\b∉([]:List α):=⟨bC,bC⟩
theorem i4{G:List x}{f:au}{b:x}(c:b∈G):(fw G f).get? b=none:=by
 induction G with
 |nil=>exact nomatch c
 |cons d G e=>
  by_cases a:d=b
  ·subst a;exact SF _ _
  ·exact(pm _ _ a).trans (e ((List.mem_cons.mp c).resolve_left (fk a)))
theorem ib{G:List x}{f:au}{b:x}(a:b∉G):(fw G f).get? b=f.get? b:=by
 induction G with
 |nil=>rfl
 |cons d G c=>rw[dD,not_or] at a;exact(pm _ _ (fk a.1)).trans (c a.2)
noncomputable def BR(c:au)(ae:List x):eK:=
 ⟨(bH c.objs.size).filter λb=>decide (837<=b)&&decide (b∉ae)&&(c.get? b).isSome,λd=>∀b a,c.get? b=some a->837<=b->b∉ae->d.get? b=some a,
  λd ag l z b a o e f=>l b (List.mem_filter.mpr ⟨List.mem_range.mpr (cr o),by simp[e,f,o]⟩) a (z b a o e f)⟩
theorem BS{c:au}{b:x}(f:b∈(BR c ae).br):b<c.objs.size/\837<=b/\b∉ae/\∃J,c.get? b=some J:=by refine bE (List.mem_filter.mp f) λd a=>?_;simp only[eH,decide_eq_true_eq,Γ] at a;exact(dS (List.mem_range.mp d) (a.1.1) (a.1.2) (a.2))
structure c7 where
 l:f5
 L:x
 br:List x
 ae:List x
 v:Nat
 P:Nat->p->au->Prop
 cH:Nat->au->Prop
 g7:au
 base:List x
structure c7.bL(w:aD)(g:c7):Prop where
 W:∀n:aQ,n.handled=none->eY w n g.L g.br g.ae g.v g.P g.cH
 abz:g.l.bL
 U:g.l.D.locals=g.g7.objs.size
 jJ:837<=g.g7.objs.size
 k2:∀b∈g.br,837<=b/\b<g.g7.objs.size
noncomputable abbrev c7.kg(g:c7)(b:H):aP:=⟨g.l,b,.none true,BR g.g7 g.ae⟩
noncomputable def c7.qf{w:aD}{g:c7}(ap:g.bL w)(l:Nat):eK:=⟨g.br,g.cH l,λa ag i z=>(ap.W {} rfl).W.frame l a ag z i⟩
structure c7.aH(w:aD)(h:x->a1)(g:c7)(l:Nat)(I:List (Option p))(s:H):Prop where
 Z:Internal.aH w h s
 ch:s.heap.Ns g.l.D.locals (ez g.l.names I)
 len:I.length=g.l.names.length
 it:g.cH l s.heap
 ref:∀b J,g.g7.get? b=some J->b∉g.ae->s.heap.get? b=some J
noncomputable def c7.mW(g:c7)(s:H):Shared:={s with heap:=fw (g.l.D.locals::g.ae) s.heap}
variable{g:c7}
theorem c7.aH.a9(ap:g.bL w)(d:g.aH w h l I s):N w h ((g.kg (g.mW s)).push (c7.qf ap l)) I [] s:=by
 have q:g.l.D.locals∉g.br:=λf=>by have:=(ap.k2 _ f).2;rw[ap.U] at this;exact dn _ this
 refine⟨d.Z,⟨λa c Y Y e=>?_,λr t D n=>⟨#[],?_⟩,λE F e=>e,λY=>rfl,rfl,λY=>rfl⟩,trivial,d.ch,⟨i4 aG,by refine(?_:837<=g.l.D.locals);refine j ap.U ?_;exact ap.jJ,bC⟩,λY f=>(nomatch f),qZ,⟨d.it,λa c e Y u=>d.ref a c e u⟩,λa b=>?_⟩
 ·by_cases f:a∈g.l.D.locals::g.ae
  ·have:=i4 (f:=s.heap) f;exact cz ((show(g.mW s).heap.get? a=none from this).symm.trans e)
  ·exact(ib f).symm.trans e
 ·refine j xg ?_;have o:=i2 r t;have p:∀a,a<837->a∉g.l.D.locals::g.ae:=λa b f=>by
   rcases List.mem_cons.mp f with f|f
   ·rw[f,ap.U] at b;exact dn _ (cQ b ap.jJ)
   ·exact dn _ (cQ b (ap.k2 _ ((ap.W {} rfl).W.sub _ f)).1)
  (refine bE n λi v=>?_;clear n;(refine db i λc x y z=>?_;clear i));exact⟨(eU (c) (x) ((ib (p _ o.1)).symm.trans y) (z)),(ib (p _ o.2.1)).symm.trans v⟩
 ·rcases List.mem_append.mp b with b|b
  ·exact(cV (λk=>q (k▸b)) (bC) (bC) ((ap.k2 a b).1) ((ap.W {} rfl).live _ _ d.it a b))
  ·(refine kS (BS b) λm A B i=>?_;(refine bo i λc C=>?_;clear i));(exact(cV (λk=>by rw[k] at m;rw[show((g.kg (g.mW s)).push (c7.qf ap l)).D.locals=g.g7.objs.size from ap.U] at m;exact dn _ m) (bC) (bC) (A) ⟨c,d.ref a c C B⟩))
theorem c7.own(ap:g.bL w)(s:H):d7 (g.kg (g.mW s)) g.ae:=⟨λb a=>⟨⟨i4 (.tail _ a),(ap.k2 b ((ap.W {} rfl).W.sub b a)).1,bC⟩,λc=>(BS c).2.2.1 a⟩⟩
theorem c7.vs(ap:g.bL w)(c:g.aH w h l I aK){lU:Nat}{b:List (Option p)}{d6}(m:b.length=I.length)(a:N w h ((g.kg (g.mW aK)).push (c7.qf ap lU)) b d6 s):g.aH w h lU b s:=by refine⟨a.Z,a.ch,m.trans c.len,a.bG.1,λe f i k=>a.aS.heap e f (bC) (.inr d)<|(ib ?_).trans (c.ref e f i k)⟩;refine j (propext dD)<|not_or.mpr<|⟨λn=>by have:=cr i;rw[n,ap.U] at this;exact dn _ this,k⟩
structure c7.kh(g:c7)(s k:H):Prop where
 heap:∀b J,b≠g.l.D.locals->b∉g.ae->s.heap.get? b=some J->k.heap.get? b=some J
 gens:k.gens=s.gens
 os:k.os=s.os
 e5:k.drawn=s.drawn
theorem c7.SH{e:aP}(b:e.aK=g.mW aK)(hd:e.af=.none true)(a:N w h e I led s):g.kh aK s:=by obtain⟨m,c,n,o⟩:=e;simp only at b hd;subst b hd;exact⟨λc f i k l=>a.aS.heap c f (bC) (.inr d) ((ib (by refine j (propext dD) (not_or.mpr ?_);exact⟨i,k⟩)).trans l),a.aS.g6 d,a.aS.os,a.aS.e5 d⟩
noncomputable def c7.vt(w:aD)(h:x->a1)(g:c7)(F:Nat->p->Prop):Protocol:=λR aK E s b=>
 F (g.v-1-R) E/\g.kh aK s/\∃I,g.aH w h (g.v-R) I s/\∀a:H,g.aH w h (g.v-R) I a->b (.send .none) a
def c7.BU(w:aD)(h:x->a1)(g:c7)(ap:g.bL w)(q S:Nat)(target bM:am)(F:Nat->p->Prop):Prop:=
 ∀(n:aQ) l E b I s,aR n q S->l<g.v->g.P l E s.heap->I.length=g.l.names.length->d7 (g.kg b) g.ae->N w h ((g.kg b).push (c7.qf ap (l+1))) I [] s->
  aa w n (gi target (.ref g.L) E) (λW c=>aa w n (dX target g.l.D E) (λW d=>aa w n (bA bM g.l.D) (λai e=>F l ai/\∃a,a.length=I.length/\∃f,N w h ((g.kg b).push (c7.qf ap (l+1))) a f e) dh d) dh c) dh s
theorem BV(bM target iter:am)(scope:bj)(pos:az)(it a:p)(D:ao):
 q3 (.GeneratorExp bM [⟨target,iter,[],0⟩] scope pos) 0 it a D=(do
  j2 iter.pos
  match<-gE it with
  |none=>pure (.done .next)
  |some E=>
   gi target it E
   dX target D E
   (do let E<-bA bM D;j2 bM.pos;let _<-yieldOut D E)
   again (.compLoop (.GeneratorExp bM [⟨target,iter,[],0⟩] scope pos) 0 it a D)):=by rfl
theorem aR.over{S:Nat}{a:Code}(A:aR n (q+2) (S+6))(f:a.weight<=2)(b:a.cUnits<=6)(c:(n.over a []).handled=n.handled):aR (n.over a []) q S:=⟨by have:=A.depth;refine(?_:n.depth+0+a.weight+q<1000);exact Ke f this,by have:=A.units;refine(?_:n.units+0+a.cUnits+S<9900);exact Kf b this,c.trans A.bd⟩
theorem SI(ap:g.bL w){bM:am}{F:Nat->p->Prop}{S:Nat}(A:aR n (q+2) (S+6))(L:g.l.D.scope.isCoroutine=false)(M:g.BU w h ap q S target bM F):
 ∀(a0 l:Nat) (aK s:H) (I:List (Option p)),g.v-l=a0->l<=g.v->g.aH w h l I s->g.kh aK s->
  Seg (aZ w) n (λv aK A C=>A=.ok .next/\(v=0/\g.kh aK C)) (g.vt w h F) (g.v-l) aK
   (.compLoop (.GeneratorExp bM [⟨target,iter,[],0⟩] scope pos) 0 (.ref g.L) .none g.l.D)
   ((aZ w).den (.compLoop (.GeneratorExp bM [⟨target,iter,[],0⟩] scope pos) 0 (.ref g.L) .none g.l.D)) [] s:=by
 intro a0;have z:aR (n.over (.compLoop (.GeneratorExp bM [⟨target,iter,[],0⟩] scope pos) 0 (.ref g.L) .none g.l.D) []) q S:=A.over (b6 d) (b6 d) (by rw[A.bd];exact A.bd);induction a0 with
 |zero=>intro l aK s I r D e c;have:l=g.v:=ul r D;subst this;refine(?_:Seg _ n _ _ _ aK _ ((q3 (.GeneratorExp bM [⟨target,iter,[],0⟩] scope pos) 0 (.ref g.L) .none g.l.D).onRaise (nJ g.l.D)) [] s);refine j (BV ..)<|j (Gi ..)<|ls<|lu<|ls<|(ap.W _ z.bd).W.done s _ _ e.it λae af O=>seg_end (.ok .next) (bO (rfl) LN (⟨λf i t m b=>O f i m (c.heap f i t m b),c.gens,c.os,c.e5⟩))
 |succ a0 P=>
  intro l aK s I r D e c;have u:l<g.v:=rD r;refine(?_:Seg _ n _ _ _ aK _ ((q3 (.GeneratorExp bM [⟨target,iter,[],0⟩] scope pos) 0 (.ref g.L) .none g.l.D).onRaise (nJ g.l.D)) [] s);refine j (BV ..)<|j (Gi ..)<|ls<|lu<|ls ((ap.W _ z.bd).W.item l s _ _ u e.it λo Q R T U V=>?_);have a:=e.a9 ap;have Y:=N.item (W:=ap.W {} rfl) (l:=l) (lU:=l+1) a (c7.own ap s).own (k:={s with heap:=Q,toks:=R}) ⟨V,rfl,rfl,rfl⟩ U;have X:=M _ l o (g.mW s) I _ z u T e.len (c7.own ap s) Y;refine ls (cy X.run (λW C X=>?_) λW W b=>b.elim);refine ls (cy X.run (λW ag X=>?_) λW W b=>b.elim);have x:g.v-l=(g.v-(l+1))+1:=yK u;refine j x ?_;have Z:∀o,yieldOut g.l.D o=yieldValue o:=λo=>by simp only[yieldOut,L,fO,if_false]
  simp only[Z];rw[Δ,Δ,Sem.wrap_wrap,Sem.wrap_wrap];refine seg_wrap (cy X.run (λah aa X=>?_) λW W b=>b.elim);(refine bE X λab B=>?_;clear X;(refine bp B λE ac B=>?_;obtain⟨ai,G⟩:=B));have ad:=c7.vs ap e ac G;have y:g.kh s aa:=c7.SH d d G;refine seg_at (seg_yield d d d (bO (?_) (⟨λf i t m b=>y.heap f i t m (c.heap f i t m b),y.gens.trans c.gens,y.os.trans c.os,y.e5.trans c.e5⟩) (bF (E) (?_) (λJ K=>?_))))
  ·have:g.v-1-(g.v-(l+1))=l:=by exact HX x
   refine j this ?_;exact ab
  ·have:g.v-(g.v-(l+1))=l+1:=by exact yB x
   refine j this ?_;exact ad
  ·have:g.v-(g.v-(l+1))=l+1:=by exact yB x
   rw[this] at K;exact seg_again d (P (l+1) J J E (rz r) u K ⟨λW W W W b=>b,rfl,rfl,rfl⟩)
end
section
variable{w:aD}{h:x->a1}{e:aP}{I:List (Option p)}{led:List (x×V)}{s:H}{n:aQ}{M:p->H->Prop}{r:p->H->Prop}{D:ao}{pos bB:az}{g:c7}
theorem BY(ap:g.bL w){bM target iter:am}{scope:bj}{F:Nat->p->Prop}{q S:Nat}(A:aR n (q+2) (S+6))(c:g.l.D.scope.isCoroutine=false)(e:g.BU w h ap q S target bM F)(aK s:H)(I:List (Option p))(a:g.aH w h 0 I s)(f:g.kh aK s):
 Seg (aZ w) n (λv aK A i=>A=.ok .next/\(v=0/\g.kh aK i)) (g.vt w h F) (g.v-0) aK
  (.compStart (.GeneratorExp bM [⟨target,iter,[],0⟩] scope pos) 0 (.ref g.L) .none g.l.D)
  ((aZ w).den (.compStart (.GeneratorExp bM [⟨target,iter,[],0⟩] scope pos) 0 (.ref g.L) .none g.l.D)) [] s:=by
 have b:=SI (pos:=pos) (iter:=iter) (scope:=scope) ap A c e g.v 0 aK s I (Gj _) (e2 _) a f;have k:(n.over (.compStart (.GeneratorExp bM [⟨target,iter,[],0⟩] scope pos) 0 (.ref g.L) .none g.l.D) []).handled=none:=A.bd;refine(?_:Seg _ n _ _ _ aK _ ((compStart (.GeneratorExp bM [⟨target,iter,[],0⟩] scope pos) 0 (.ref g.L) .none g.l.D).onRaise (nJ g.l.D)) [] s);unfold compStart;refine j (Gi ..)<|(?_:Seg _ n _ _ _ aK _ ((ask>>=_).wrap _ _ _ _) [] s);refine ls (tG ?_);split
 ·exact seg_again d b
 ·refine ls<|kM<|(?_:Seg _ n _ _ _ aK _ ((j2 iter.pos>>=_).wrap _ _ _ _) [] s);exact ls (lu (ls ((ap.W _ k).W.self 0 s _ _ a.it (seg_again d b))))
def f6(ep:Nat)(c b:Array f2):Prop:=(∀m,m≠ep->b[m]?=c[m]?)/\(nG c->nG b)
theorem f6.refl(ep:Nat)(c:Array f2):f6 ep c c:=⟨λW W=>rfl,id⟩
theorem f6.trans{ep:Nat}{c b q:Array f2}(i:f6 ep c b)(ai:f6 ep b q):f6 ep c q:=⟨λd a=>(ai.1 d a).trans (i.1 d a),λa=>ai.2 (i.2 a)⟩
theorem f6.set{ep:Nat}{s:H}{ai:f2}(d:ai.bare=true):f6 ep s.gens (s.setGen ep ai).gens:=
 ⟨λe a=>by simp[Θ,fk a],λa f b=>by
  simp only[Θ] at b;obtain⟨e,c,rfl⟩:=Array.mem_iff_getElem.mp b;refine j (Array.getElem_setIfInBounds (by simpa using c)) ?_;split
  ·exact d
  ·exact a _ (Array.getElem_mem (by simpa using c))⟩
structure c7.dz(w:aD)(h:x->a1)(g:c7)(F:Nat->p->Prop)(c:x)(ep:Nat)(n:aQ)(l:Nat)(s:H):Prop where
 vu:s.heap.IsGen c ep
 a9:∃I Q,g.aH w h l I s/\s.gens[ep]?=some Q/\∀Ac:H,g.aH w h l I Ac->Q.Goes (aZ w) n.in1 (λv aK A p6=>A=.ok .next/\(v=0/\g.kh aK p6)) (g.vt w h F) (g.v-l) (.send .none) Ac
theorem c7.aH.gens{l:Nat}(a:g.aH w h l I s){Q:Array f2}(f:nG Q):g.aH w h l I {s with gens:=Q}:=⟨⟨a.Z.l,a.Z.tab,f,a.Z.b⟩,a.ch,a.len,a.it,a.ref⟩
theorem aH.ext(L:aH w h s){ag:au}{a3:Nat}(f:∀b,b<837->∀J,s.heap.get? b=some J->ag.get? b=some J):aH w h {s with heap:=ag,toks:=a3}:=by
 refine⟨λb J g=>f b (jC g).1 J (L.l b J g),λi j=>?_,L.bare,?_⟩
 ·refine bp (L.tab i j) λm k l=>?_;have c:=i2 i j;refine aV λn d=>?_;(refine yv k λJ o p q r t u v x y z A B C D E F b e=>?_;clear k);all_goals refine d ?_
  (refine bE l λa G=>?_;clear l;(refine n5 a λH I K M N O=>?_;clear a));exact⟨m,(yw (J) (o) (p) (q) (r) (t) (u) (v) (x) (y) (f _ c.1 _ z) (A) (B) (C) (D) (E) (F) (f _ c.2.1 _ b) (e)),⟨⟨H,I,f _ c.1 _ K,M,N,O⟩,f _ c.2.1 _ G⟩⟩
 ·refine aV λn d=>?_;(refine bp L.b λP a Q=>?_;(refine f4 a λJ R S T e=>?_;clear a));all_goals refine d ?_
  exact⟨P,(hh (J) (R) (S) (f _ .(1) _ T) (e)),Q⟩
theorem c7.aH.ext(ap:g.bL w){l:Nat}(c:g.aH w h l I s){ag:au}{a3:Nat}(f:∀b,b<=g.g7.objs.size->∀J,s.heap.get? b=some J->ag.get? b=some J):g.aH w h l I {s with heap:=ag,toks:=a3}:=by refine⟨c.Z.ext λb d J a=>f b (hD (cQ d ap.jJ)) J a,?_,c.len,(ap.W {} rfl).W.frame _ _ _ c.it λb d J a=>f b (hD (ap.k2 b d).2) J a,λb J a e=>f b (hD (cr a)) J (c.ref b J a e)⟩;refine f4 c.ch λJ i j k m=>(hh (J) (i) (j) (f _ (ir ap.U) _ k) (m))
theorem c7.walks(ap:g.bL w){F:Nat->p->Prop}{c:x}{ep:Nat}(W:g.g7.objs.size<c){q S:Nat}(A:aR n (q+3) (S+7)):
 j3 ff w n c (c::g.l.D.locals::bH g.g7.objs.size) (g.l.D.locals::g.ae) (f6 ep) g.v F (g.dz w h F c ep n) where
 sub:=λa b=>by
  rcases List.mem_cons.mp b with rfl|b
  ·exact .tail _ aG
  ·exact e3 _ (e3 _ (List.mem_range.mpr (ap.k2 a ((ap.W {} rfl).W.sub a b)).2))
 grefl:=f6.refl ep
 gtrans:=λF F F t ai=>t.trans ai
 frame:=λo s J aq a9 F u=>by
  have ac:∀a,a<=g.g7.objs.size->∀e,s.heap.get? a=some e->J.get? a=some e:=λa b e m=>u a (by
   rcases gB a g.g7.objs.size with f|f
   ·exact e3 _ (e3 _ (List.mem_range.mpr f))
   ·have:a=g.l.D.locals:=by refine j ap.U ?_;exact uF b f
    refine j this ?_;exact .tail _ aG) e m
  refine aV λX v=>?_;obtain⟨⟨e,K,L,M,A⟩,N,O,l,ad,ae⟩:=a9;all_goals refine v ?_
  exact⟨(hh (e) (K) (L) (u c (q4 ..) e M) (A)),N,O,l.ext ap ac,ad,ae⟩
 item:=λo s af ag ah a9 y=>by
  refine aV λX v=>?_;obtain⟨E,N,O,l,G,z⟩:=a9;all_goals refine v ?_
  obtain⟨r,Q⟩:∃r,g.v-o=r+1:=⟨g.v-o-1,by exact LO ah⟩;rw[Q] at z;refine wpAny_with_toks (c9 s.toks)<|Ξ (P:=λR T i=>R=0/\g.kh T i) A.bd l.Z.mQ A.hm E G (z _ (l.gens (f6.set d|>.2 l.Z.bare))) (λY i U b B=>?_) (λi H J u=>?_)
  ·(refine ek B λZ k C=>?_;clear B;(refine bp C λaa D I=>?_;clear C));have aj:g.v-1-(r+1-1)=o:=JB Q;have ab:g.v-(r+1-1)=o+1:=HU Q;rw[aj] at Z;rw[ab] at D I;have ak:c∉g.ae:=λf=>Nat.lt_asymm W (ap.k2 _ ((ap.W {} rfl).W.sub _ f)).2;have al:c≠g.l.D.locals:=by refine j ap.U ?_;exact mr W
   have am:i.gens[ep]?=some .running:=by refine j k.gens ?_;exact setGen_self G
   intro V;refine y Y _ Z ⟨let⟨e,K,L,M,A⟩:=E;⟨e,K,L,k.heap c e al ak M,A⟩,aa,U,D.gens (f6.set b|>.2 D.Z.bare),setGen_self am,λan ao=>?_⟩
    ⟨λa e b m=>k.heap a e (λf=>b (f▸q4 ..)) (λf=>b (e3 _ f)) m,?_,k.e5,k.os,V⟩
   ·have m:g.v-(o+1)=r:=by exact HV ab
    refine j m<|I an ao
   ·have t:=f6.set (ep:=ep) (s:=s) (ai:=.running) d;have ai:=f6.set (ep:=ep) (s:=i) (ai:=U) b;rw[k.gens] at ai;exact t.trans ai
  ·exact absurd H.1 (Nat.succ_ne_zero r)
 done:=λs af ag a9 y=>by
  refine aV λX v=>?_;obtain⟨E,N,O,l,G,z⟩:=a9;all_goals refine v ?_
  rw[Gk] at z;refine wpAny_with_toks (c9 s.toks)<|Ξ (P:=λR T i=>R=0/\g.kh T i) A.bd l.Z.mQ A.hm E G (z _ (l.gens (f6.set d|>.2 l.Z.bare))) (λY i U b B=>?_) (λi H J u=>?_)
  ·(refine ek B λW W C=>?_;clear B;(refine bp C λaa D I=>?_;clear C));exact Gl (I i D)
  ·(refine bE H λW k=>?_;clear H);intro V;refine y _ ⟨λa e b m=>u a e (k.heap a e (λf=>b (f▸q4 ..)) (λf=>b (e3 _ f)) m),?_,k.e5,k.os,V⟩;have t:=f6.set (ep:=ep) (s:=s) (ai:=.running) d;have ai:=f6.set (ep:=ep) (s:=i) (ai:=.finished) d;rw[k.gens] at ai;exact t.trans ai
 self:=λW W W W a9 y=>wpAny_pyIter_gen a9.vu y
structure sk(w:aD)(n:aQ)(D:ao)(bM target iter:am)(scope:bj)(pos:az)(r:p->H->Prop)(M:p->H->Prop)(it:p)(ke:H):Prop where
 run:ke.heap.NoLimit/\aL (aZ w) n (genexprCode D pos (D.qual++"<genexpr>") scope) (λcode u0=>aL (aZ w) n (builtinsFor D.globals D.builtins) (λsi i5=>
  ∃ba,lv scope D=pure ba/\∀ag,ag.Ns i5.heap.objs.size (λai=>if ai=".0" then some it else none)->hb i5.heap.objs.size (i5.heap.push {cls:=.type "frame",data:=.dict #[]}) ag->
   r (.ref ag.objs.size) {i5 with
    gens:=i5.gens.push (.fresh (.compStart (.GeneratorExp bM [⟨target,iter,[],0⟩] scope pos) 0 it .none (genEnv scope ba i5.heap.objs.size code si D))),
    toks:=i5.toks+1+1+1,
    heap:=ag.push {cls:=.type "generator",data:=.fields #[.int i5.gens.size 0,.str "<genexpr>" (i5.toks+1),.str (D.qual++"<genexpr>") (i5.toks+1+1)]}}) M u0) M ke
noncomputable def i6(scope:bj)(aN aX:List al):Bool:=scope.kind==.function&&!scope.isCoroutine&&scope.names.all (λi=>i.2 !=.cell)&&((".0":al)::aN).all (λi=>scope.names.lookup i==some .local)&&decide ((".0":al)::aN).Nodup&&aX.all (λi=>scope.names.lookup i==some .globalImplicit)&&((".0":al)::aN).all (λi=>!(i==("__debug__":al)))&&aX.all (λi=>!(i==("__debug__":al)))
theorem jK{bM target iter:am}{scope:bj}{aN aX:List al}(ba:List (al×x))(e:lv scope D=pure ba)(A:n.depth<recursionLimit)(c:i6 scope aN aX=true)(f:aa w n (bA iter D) (ov w n (sk w n D bM target iter scope pos r M) M) M s)(g:autoParam (∀i,genFold iter D i=pure i) Zzi):
 aa w n (bA (.GeneratorExp bM [⟨target,iter,[],0⟩] scope pos) D) r M s:=by
 simp only[i6,eH,beq_iff_eq,hc,iw,decide_eq_true_eq,bne_iff_ne] at c;refine aV λq h=>?_;(refine bE c λb t=>?_;clear c;(refine bE b λb u=>?_;(refine bE b λb v=>?_;obtain⟨⟨⟨⟨j,k⟩,l⟩,m⟩,y⟩:=b)));all_goals refine h ?_
 refine⟨wpAny_GeneratorExp_make k e l (m _ aG) j A (f.J λW W i=>i.J λW z i=>⟨i.run.1,cy i.run.2 (λW W o=>cy o (λW W d=>?_) λW W a=>a) λW W a=>a⟩) g⟩;refine bp d λp a d=>?_;rw[e] at a;cases(show ba=p by injection a);exact d
end
section
variable{w:aD}{h:x->a1}{e:aP}{I:List (Option p)}{led:List (x×V)}{s:H}{n:aQ}{M:p->H->Prop}{r:p->H->Prop}{D:ao}{pos bB:az}{g:c7}
structure Apart(e:aP)(led:List (x×V))(b:x):Prop where
 own:h9 e b
 fn:b≠e.D.locals
 hd:b∉e.hd.br
 led:b∉led.map (·.1)
theorem N.vv(a:N w h e I led s){Q:Array f2}(d:e.af.t=false)(f:∀m,m<e.aK.gens.size->Q[m]?=s.gens[m]?)(g:nG Q):N w h e I led {s with gens:=Q}:=⟨⟨a.Z.l,a.Z.tab,g,a.Z.b⟩,⟨a.aS.heap,a.aS.cK,λm i b=>(f m (Array.getElem?_eq_some_iff.mp b).1).trans (a.aS.gens m i b),(λc=>by rw[d] at c;exact absurd c .(1)),a.aS.os,a.aS.e5⟩,a.b4,a.ch,a.cE,a.ld,a.dE,a.bG,a.b9⟩
def sl(v:Nat)(ap:Array f2->Array f2->Prop):Prop:=∀i ai,ap i ai->(∀m,m<v->ai[m]?=i[m]?)/\(nG i->nG ai)
theorem N.lV(a:N w h e I led s)(l:e.af.t=false){F:List x}{ap:Array f2->Array f2->Prop}{k:H}(R:nK F ap s k)(f:∀b∈F,Apart e led b)(m:sl e.aK.gens.size ap):N w h e I led k:=by have n:N w h e I led {k with gens:=s.gens}:=a.step (F:=F) (k:={k with gens:=s.gens}) ⟨R.heap,rfl,R.os,R.drawn⟩ (λb g=>(f b g).own) (λc=>(f _ c).fn d) d (λo i=>R.heap _ _ (λc=>(f _ c).led (fN i)) (a.ld o i).1) λb g c=>(f _ c).hd g;have j:=m _ _ R.gens;exact n.vv l j.1 (j.2 a.Z.bare)
structure i7(w:aD)(h:x->a1)(e:aP)(led:List (x×V))(v:Nat)(F:Nat->p->Prop)(q S:Nat)(c:x)(s:H):Prop where
 eh:∃(br ae:List x) (ap:Array f2->Array f2->Prop) (dz:aQ->Nat->H->Prop),(∀n,aR n (q+3) (S+7)->j3 ff w n c br ae ap v F (dz n))/\(∀n,aR n (q+3) (S+7)->dz n 0 s)/\(∀n m s,dz n m s->∃g,s.heap.IsGen c g)/\(∀b∈br,b<s.heap.objs.size)/\c∈br/\
  (∀b∈ae,Apart e led b)/\sl e.aK.gens.size ap
theorem BZ{aN:List al}(E:p)(f:(((".0":al)::aN)).Nodup):ez (".0"::aN) (some E::aN.map λW=>none)=λai=>if ai=(".0":al) then some E else none:=by
 funext ai
 by_cases a:ai=(".0":al)
 ·refine j (if_pos a)<|j a<|lR (m:=0) f d d
 ·refine j (if_neg a) ?_;unfold ez;refine j jr (j f0 (j (beq_eq_false_iff_ne.mpr a) ?_));clear f;induction aN with
  |nil=>rfl
  |cons b e c=>
   refine j dC (j jr (j f0 ?_));cases ai==b with
   |true=>rfl
   |false=>exact c
noncomputable abbrev qg(scope:bj)(ba:List (al×x))(U:x)(code:p)(D:ao)(aN aX:List al):f5:=⟨genEnv scope ba U code 0 D,".0"::aN,aX⟩
abbrev SJ(w:aD)(n:aQ)(bM:am)(D:ao)(r M:p->H->Prop)(_:Unit)(s:H):Prop:=aa w n (bA bM D) r M s
abbrev qh(w:aD)(n:aQ)(target:am)(e7:ao)(E:p)(bM:am)(r M:p->H->Prop)(_:Unit)(s:H):Prop:=aa w n (dX target e7 E) (SJ w n bM e7 r M) M s
def sm(w:aD)(h:x->a1)(D:ao)(scope:bj)(ba:List (al×x))(aN aX:List al)(L:x)(v:Nat)(P:Nat->p->au->Prop)(ae:List x)(q S:Nat)(target bM:am)(F:Nat->p->Prop)(h0:au):Prop:=
 ∀(U:x) (code:p) (b:H) (c:eK) (n:aQ) l E I s (d:p->H->Prop),let a:aP:=⟨qg scope ba U code D aN aX,b,.none true,c⟩;a.l.bL->(∀e,c.P e->∀b f,h0.get? b=some f->837<=b->b∉ae->e.get? b=some f)->aR n q S->l<v->P l E s.heap->I.length=aN.length+1->
  (∀ai g j i,F l ai->g.length=I.length->N w h a g j i->d ai i)->N w h a I [] s->aa w n (gi target (.ref L) E) (qh w n target a.D E bM d dh) dh s
def vw(w:aD)(h:x->a1)(D:ao)(scope:bj)(ba:List (al×x))(aN aX:List al)(L:x)(v:Nat)(P:Nat->p->au->Prop)(br ae:List x)(cH:Nat->au->Prop)(j:∀l f ag,(∀b∈br,∀J,f.get? b=some J->ag.get? b=some J)->cH l f->cH l ag)(q S:Nat)(target bM:am)(F:Nat->p->Prop)(h0:au):Prop:=
 ∀(U:x) (code:p) (b:H) (c:eK) (n:aQ) l E I s (d:p->H->Prop),let e:aP:=⟨qg scope ba U code D aN aX,b,.none true,c⟩;let a:aP:=aP.push e ⟨br,cH (l+1),j (l+1)⟩;a.l.bL->(∀f,c.P f->∀b J,h0.get? b=some J->837<=b->b∉ae->f.get? b=some J)->aR n q S->l<v->P l E s.heap->I.length=aN.length+1->
  (∀ai g k i,F l ai->g.length=I.length->N w h a g k i->d ai i)->d7 e ae->N w h a I [] s->aa w n (gi target (.ref L) E) (qh w n target a.D E bM d dh) dh s
theorem sm.B1{scope:bj}{ba:List (al×x)}{aN aX:List al}{L:x}{v:Nat}{P:Nat->p->au->Prop}{br ae:List x}{cH:Nat->au->Prop}{d:∀l f ag,(∀b∈br,∀J,f.get? b=some J->ag.get? b=some J)->cH l f->cH l ag}{q S:Nat}{target bM:am}{F:Nat->p->Prop}{h0:au}(f:sm w h D scope ba aN aX L v P ae q S target bM F h0):vw w h D scope ba aN aX L v P br ae cH d q S target bM F h0:=λe code b y g l i j k m n o r s c t u W a=>f e code b _ g l i j k m n (λh0 c=>o h0 c.2) r s c t u a
theorem i6.eg{scope:bj}{aN aX:List al}(b:i6 scope aN aX=true)(ba:List (al×x))(U:x)(code:p)(c:D.globals=3):(qg scope ba U code D aN aX).bL:=by
 simp only[i6,eH,beq_iff_eq,hc,iw,decide_eq_true_eq,bne_iff_ne] at b;refine aV λk d=>?_;(refine bE b λa e=>?_;clear b;(refine bE a λa f=>?_;(refine bE a λa g=>?_;obtain⟨⟨⟨⟨h,l⟩,m⟩,i⟩,j⟩:=a)));all_goals refine d ?_
 exact⟨h,c,rfl,i,g,f,e,j⟩
theorem sn{bM target iter:am}{scope:bj}{aN aX:List al}{L:x}{br ae:List x}{v:Nat}{P:Nat->p->au->Prop}{cH:Nat->au->Prop}(W:∀y:aQ,y.handled=none->eY w y L br ae v P cH)(A:n.handled=none)(a:N w h (e.push (cs (W n A) 0)) I led s)(V:d7 e ae)(B:e.af.t=false)(Y:e.l.bL)(z:x×x)(ao:e.D.code=.ref z.1)(C:z∈hM)(ba:List (al×x))(ap:lv scope e.D=pure ba)(G:i6 scope aN aX=true){q S:Nat}{F:Nat->p->Prop}(aq:vw w h e.D scope ba aN aX L v P br ae cH (λl f ag i z=>(W n A).W.frame l f ag z i) q S target bM F s.heap)(f:∀c k,N w h e I led k->i7 w h e led v F q S c k->r (.ref c) k):sk w n e.D bM target iter scope pos r M (.ref L) s:=by
 refine⟨a.Z.mQ,cA ?_⟩;intro ar;have aT:∀b m,s.heap.get? b=some m->837<=b->b<s.heap.objs.size:=λb m o M=>cr o;refine cy (BQ (e:=e.push (cs (W n A) 0)) (r:=λH k=>N w h (e.push (cs (W n A) 0)) I led k/\∀b m,s.heap.get? b=some m->837<=b->k.heap.get? b=some m) a B z ao C λH k as l=>⟨as,l⟩) (λcode g X=>?_) λM M o=>o;refine cA ?_;intro ar;(refine bE X λa av=>?_;clear X);refine j Y.kf<|a.Z.si (bF (ba) (ap) (λag aw Z=>?_));have J:ag.objs.size=g.heap.objs.size+1:=by rw[Z.1,hZ]
 have ax:∀b m,g.heap.get? b=some m->ag.get? b=some m:=λb m o=>Z.extBut b m (g0 (cr o)) (cM _ o);have E:∀b m,g.heap.get? b=some m->(ag.push {cls:=.type "generator",data:=.fields #[.int g.gens.size 0,.str "<genexpr>" (g.toks+1),.str (e.D.qual++"<genexpr>") (g.toks+1+1)]}).get? b=some m:=λb m o=>cM _ (ax b m o);let aa:c7:=⟨qg scope ba g.heap.objs.size code e.D aN aX,L,br,ae,v,P,cH,g.heap,[]⟩;have K:=i6.eg G (D:=e.D) (ba:=ba) (U:=g.heap.objs.size) (code:=code) Y.kf;have ab:aa.bL w:=⟨W,K,rfl,a.Z.size,λb t=>by
  refine aV λaU ay=>?_;(refine dM (a.b9 b (cU _ t)) λY Y Y az ac=>?_;(refine bo ac λm aA=>?_;clear ac));all_goals refine ay ?_
  exact⟨az,cr aA⟩⟩
 have u:=a.drop;have aB:∀b∈g.heap.objs.size::ae,Apart e led b:=λb t=>by
  rcases List.mem_cons.mp t with rfl|t
  ·have ad:∀m,g.heap.get? g.heap.objs.size≠some m:=λm o=>dn _ (cr o);exact⟨u.fresh,mr u.lt,λf=>let⟨_,_,_,_,m,o⟩:=u.b9 _ f;ad m o,λf=>let⟨af,B,o⟩:=List.mem_map.mp f;ad af.2 (o▸(u.ld af B).1)⟩
  ·have i:=a.b9 b (cU _ ((W n A).W.sub b t));exact⟨(V.own b t).1,i.1,(V.own b t).2,i.2.2.1⟩
 have ah:e.aK.gens.size<=g.gens.size:=by
  rcases gB g.gens.size e.aK.gens.size with f|f
  ·have:=u.aS.gens g.gens.size _ (q5 f);exact cz ((tH (c9 _)).symm.trans this)
  ·exact f
 have ai:N w h e I led {g with heap:=ag.push {cls:=.type "generator",data:=.fields #[.int g.gens.size 0,.str "<genexpr>" (g.toks+1),.str (e.D.qual++"<genexpr>") (g.toks+1+1)]},toks:=g.toks+1+1+1}:=u.step (F:=[]) (k:={g with heap:=ag.push {cls:=.type "generator",data:=.fields #[.int g.gens.size 0,.str "<genexpr>" (g.toks+1),.str (e.D.qual++"<genexpr>") (g.toks+1+1)]},toks:=g.toks+1+1+1}) ⟨λb m Y o=>E b m o,rfl,rfl,rfl⟩ (λb t=>nomatch t) (λf=>nomatch f) d (λz C=>E _ _ (u.ld z C).1) λb t f=>nomatch f;have aj:=ai.vv (Q:=g.gens.push (.fresh (.compStart (.GeneratorExp bM [⟨target,iter,[],0⟩] scope pos) 0 (.ref L) .none (genEnv scope ba g.heap.objs.size code 0 e.D)))) B (λO R=>by exact(Φ (cQ R ah)).trans (q5 _).symm) (ai.Z.bare.push d);refine f _ _ aj ⟨_,_,f6 g.gens.size,aa.dz w h F ag.objs.size g.gens.size,λy T=>c7.walks ab (by refine(?_:g.heap.objs.size<_);exact y9 J) T,λy T=>?_,λy O s i=>⟨_,i.vu⟩,λb t=>?_,.head _,aB,λi aW l=>⟨λO R=>l.1 O (g0 (cQ R ah)),l.2⟩⟩
 ·(refine⟨(h5 (_) (_) (_) (eX _ d) (rfl) (rfl) (rfl)),some (.ref L)::aN.map λY=>none,_,⟨aj.Z,?_,by refine(?_:((some (e4 L))::aN.map λY=>none).length=((".0":al)::aN).length);simp,(W n A).W.frame _ _ _ a.bG.1 λb W m o=>E b m o,λb m o W=>E b m o⟩,Ψ ..,λak aC=>⟨rfl,BY (n:=y.in1) ab (q:=q) (S:=S) (T.in1.mono za zb) ?_ ?_ ak ak _ aC ⟨λW W W W o=>o,rfl,rfl,rfl⟩⟩⟩)
  ·refine(?_:Heap.Ns _ g.heap.objs.size (ez (".0"::aN) _));refine j (BZ _ K.h8) ?_;exact aw.push _
  ·simp only[i6,eH,beq_iff_eq,hc,iw,decide_eq_true_eq,bne_iff_ne] at G;exact G.1.1.1.1.1.1.2
  ·intro aD l H b aE aF aG aH aI aJ aK aL;refine aq _ _ _ _ aD l H aE aF _ K ?_ aG aH aI aJ (λW aM aO W c b e=>⟨c,aM,b,aO,e⟩) aK aL;exact λC aP an m o t aR=>aP an m (av an m o t) t aR
 ·refine(?_:b<(ag.push _).objs.size);refine j (hZ ..) ?_;rcases List.mem_cons.mp t with rfl|t
  ·exact qY _
  rcases List.mem_cons.mp t with rfl|t
  ·refine(?_:g.heap.objs.size<_);exact y3 J
  ·have aS:b<g.heap.objs.size:=List.mem_range.mp t;refine j J ?_;exact nE (nE aS)
theorem mX{bM target iter:am}{scope:bj}{aN aX:List al}{L:x}{br ae:List x}{v:Nat}{P:Nat->p->au->Prop}{cH:Nat->au->Prop}(W:∀b:aQ,b.handled=none->eY w b L br ae v P cH)(d:n.handled=none)(a:N w h (e.push (cs (W n d) 0)) I led s)(g:d7 e ae)(i:e.af.t=false)(j:e.l.bL)(z:x×x)(l:e.D.code=.ref z.1)(m:z∈hM)(ba:List (al×x))(o:lv scope e.D=pure ba)(t:i6 scope aN aX=true){q S:Nat}{F:Nat->p->Prop}(u:sm w h e.D scope ba aN aX L v P ae q S target bM F s.heap)(f:∀c k,N w h e I led k->i7 w h e led v F q S c k->r (.ref c) k):sk w n e.D bM target iter scope pos r M (.ref L) s:=sn W d a g i j z l m ba o t u.B1 f
end
theorem N.a3(a:N w h e I led s){u:Nat}:N w h e I led {s with toks:=u}:=a.step (F:=[]) (k:={s with toks:=u}) ⟨λW W W c=>c,rfl,rfl,rfl⟩ (λW b=>nomatch b) (λb=>nomatch b) d (λf g=>(a.ld f g).1) λW W b=>nomatch b
theorem i8{b:Bool}(f:r (.bool b) s):aa w n (bA (.Constant (.bool b) l pos) D) r M s:=⟨wpAny_Constant_bool f⟩
theorem B2(f:r .none s):aa w n (bA (.Constant .none l pos) D) r M s:=⟨wpAny_Constant_none f⟩
section SK
variable{c b:Int}{u S:aF}
theorem so(a:N w h e I led s)(d:Ω b<=64)(f:∀u k,N w h e I led k->r (.int (c*b) u) k):aa w n (fg .Mult (.int c u) (.int b S)) r M s:=⟨PySem.P.mul_int (f _ _ a.a3) (.of_right d)⟩
theorem vx(a:N w h e I led s)(f:∀u k,N w h e I led k->r (.int (Gm c b) u) k):aa w n (fg .BitAnd (.int c u) (.int b S)) r M s:=⟨and_int (f _ _ a.a3)⟩
theorem SL(a:N w h e I led s)(f:∀u k,N w h e I led k->r (.int (Gn c b) u) k):aa w n (fg .BitXor (.int c u) (.int b S)) r M s:=⟨xor_int (f _ _ a.a3)⟩
theorem vy(a:N w h e I led s)(bi:0<=b)(f:∀u k,N w h e I led k->r (.int (c.fdiv (2^b.toNat)) u) k):aa w n (fg .RShift (.int c u) (.int b S)) r M s:=⟨rshift_int bi (f _ _ a.a3)⟩
theorem vz(a:N w h e I led s)(bi:0<=b)(d:b<=1000000)(g:c.natAbs<2^64)(f:∀u k,N w h e I led k->r (.int (c*2^b.toNat) u) k):aa w n (fg .LShift (.int c u) (.int b S)) r M s:=⟨lshift_int_small bi d g (f _ _ a.a3)⟩
theorem qi(f:r (.bool (c==b)) s):aa w n (f1 .Eq (.int c u) (.int b S)) r M s:=⟨PySem.P.eq_int f⟩
theorem qj(f:r (.bool (c !=b)) s):aa w n (f1 .NotEq (.int c u) (.int b S)) r M s:=⟨PySem.P.ne_int f⟩
theorem oz(f:r (.bool (decide (c<b))) s):aa w n (f1 .Lt (.int c u) (.int b S)) r M s:=⟨PySem.P.lt_int f⟩
theorem B3(f:r (.bool (decide (c<=b))) s):aa w n (f1 .LtE (.int c u) (.int b S)) r M s:=⟨PySem.P.le_int f⟩
theorem iJ(f:r (.bool (decide (c>b))) s):aa w n (f1 .Gt (.int c u) (.int b S)) r M s:=⟨PySem.P.gt_int f⟩
theorem SM(f:r (.bool (decide (c>=b))) s):aa w n (f1 .GtE (.int c u) (.int b S)) r M s:=⟨PySem.P.ge_int f⟩
end SK
abbrev SN(w:aD)(n:aQ)(op:UnaryOp)(r M:p->H->Prop)(E:p)(s:H):Prop:=aa w n (unaryOp op E) r M s
theorem sp{op:UnaryOp}{i:am}(f:aa w n (bA i D) (SN w n op r M) M s):aa w n (bA (.UnaryOp op i pos) D) r M s:=⟨wpAny_UnaryOp (f.J λW W i=>i.run)⟩
theorem vA{c:Int}{u:aF}(a:N w h e I led s)(f:∀u k,N w h e I led k->r (.int (-c) u) k):aa w n (unaryOp .USub (.int c u)) r M s:=⟨aaa (f _ _ a.a3)⟩
section SO
variable{r:Bool->H->Prop}
theorem cT{G A:am}{op:pk}{b:eF p}(f:aa w n (bA G D) (BJ w n A D op (BK w n r M) M) M s)(c:autoParam (behindInMarks op A=false) b0):aa w n (hF (.Compare G [op] [A] pos) D b) r M s:=⟨wpAny_isTrue_Compare1 (f.J λW W a=>a.J λW W a=>a.J λW W a=>a.run) c⟩
theorem cn{b:Bool}(f:r b s):aa w n (ms (.bool b)) r M s:=⟨pn f⟩
theorem SP{c:Int}{u:aF}(f:r (c !=0) s):aa w n (ms (.int c u)) r M s:=⟨PySem.P.truthy_int f⟩
theorem qk{G:x}{aM:Array p}(a:N w h e I led s)(b:s.heap.IsList G aM)(c:(aM.size:Int)<2^63)(f:∀k,N w h e I led k->r (!aM.isEmpty) k):aa w n (ms (.ref G)) r M s:=⟨wpAny_truthy_list b c (f _ a.a3)⟩
theorem gq{o:am}{a:eF p}(f:aa w n a (BK w n r M) M s)(b:autoParam (hF o D a=(do let E<-a;j2 o.pos;lw [E] (ms E))) b0):aa w n (hF o D a) r M s:=⟨isTrue_plain (f.J λW W c=>c.run) b⟩
abbrev SQ(r:Bool->H->Prop)(b:Bool):H->Prop:=r (!b)
theorem mY{i:am}{a:eF p}(f:aa w n (hF i D (bA i D)) (SQ r) M s):aa w n (hF (.UnaryOp .Not i pos) D a) r M s:=⟨isTrue_not f.run⟩
end SO
section bytes
variable{c b:Array UInt8}{u S:aF}
theorem SR(f:r (.bool (c.toList==b.toList)) s):aa w n (f1 .Eq (.bytes c u) (.bytes b S)) r M s:=⟨W.eq_bytes f⟩
theorem B4(f:r (.bool (c.toList !=b.toList)) s):aa w n (f1 .NotEq (.bytes c u) (.bytes b S)) r M s:=⟨W.ne_bytes f⟩
theorem ho(a:N w h e I led s)(c:b.size<=1099511627776)(f:∀u k,N w h e I led k->r (.int b.size u) k):aa w n (call (.builtin "len") [.bytes b u]) r M s:=⟨W.len_bytes c (f _ _ a.a3)⟩
end bytes
section SS
variable{G:x}{aM:Array p}
theorem i9(a:N w h e I led s)(b:s.heap.IsList G aM)(c:(aM.size:Int)<2^63)(f:∀u k,N w h e I led k->r (.int aM.size u) k):aa w n (call (.builtin "len") [.ref G]) r M s:=⟨Calls.call_len_list b c (f _ _ a.a3)⟩
theorem ja(f:eM w n M D bl (λar a=>ar.length<=eI/\r (.ref a.heap.objs.size) {a with heap:=a.heap.push {cls:=.type "tuple",data:=.seq ar.toArray}}) s)(b:autoParam (bl.all fH=true) b0):aa w n (bA (.Tuple bl l pos) D) r M s:=⟨wpAny_Tuple (qd b f)⟩
theorem f7(f:eM w n M D bl (λar a=>ar.length<=eI/\r (.ref a.heap.objs.size) {a with heap:=a.heap.push {cls:=.type "list",data:=.seq ar.toArray}}) s)(b:autoParam (bl.all fH=true) b0):aa w n (bA (.List bl pos) D) r M s:=⟨wpAny_List (qd b f)⟩
noncomputable abbrev a4(O:List p)(v:Nat:=0):Obj:=⟨.type "list",none,.seq O.toArray v,#[]⟩
theorem IsList.new{f:au}{c:x}(o:f.get? c=some (a4 O v)):f.IsList c O.toArray:=⟨_,o,rfl,v,rfl⟩
theorem N.e8(a:N w h e I led s)(O:List p):N w h e I ((s.heap.objs.size,a4 O)::led) {s with heap:=s.heap.push (a4 O)}:=a.alloc d
theorem jL{c b:x}(a:N w h e I led s)(d:IsL s.heap c O.toArray v)(g:IsL s.heap b aU.toArray R)(l:O.length+aU.length<=eI)(f:∀G k,N w h e I ((G,a4 (O++aU))::led) k->r (.ref G) k):aa w n (fg .Add (.ref c) (.ref b)) r M s:=by have i:(O.toArray++aU.toArray)=(O++aU).toArray:=mu O aU;refine⟨P.add_list d g ?_ (by assumption)⟩;refine j i ?_;exact f _ _ (a.e8 _)
end SS
section SU
abbrev SV(w:aD)(n:aQ)(value slice:am)(J:p)(r M:p->H->Prop)(m:p)(s:H):Prop:=aa w n (lx value slice J m) r M s
abbrev SW(w:aD)(n:aQ)(value slice:am)(D:ao)(r M:p->H->Prop)(J:p)(s:H):Prop:=aa w n (bA slice D) (SV w n value slice J r M) M s
theorem dr(f:aa w n (bA value D) (SW w n value slice D r M) M s):aa w n (bA (.Subscript value slice pos) D) r M s:=⟨Subscript_ (f.J λW W a=>a.J λW W a=>a.run)⟩
theorem oA{J m:p}{a:List p}{T id:String}(b:s.TypeIs J T)(c:typeLookup (.type T) "__getitem__"=pure (some (.builtin id)))(d:aL (aZ w) n (hG J m) r M s)(e:ly slice false J m=lz a (hG J m)):aa w n (lx value slice J m) r M s:=⟨tail_any b c d e⟩
theorem f8{G:x}{l:Int}{u:aF}{i:p}(a:s.heap.IsList G O.toArray)(h0:0<=l)(b:l<2^63)(c:O[l.toNat]?=some i)(f:r i s)(d:autoParam (ly slice false (.ref G) (.int l u)=lz [.ref G,.int l u] (hG (.ref G) (.int l u))) b0):aa w n (lx value slice (.ref G) (.int l u)) r M s:=oA a.typeIs slot_list_getitem.lookup (getItem_listL a h0 b c f) d
theorem B5{i:List UInt8}{m:Int}{u S:aF}(a:N w h e I led s)(b:i.length<=1099511627776)(h0:0<=m)(c:m<(i.length:Int))(f:∀u k,N w h e I led k->r (.int (i.getD m.toNat 0).toNat u) k)(d:autoParam (ly slice false (.bytes i.toArray S) (.int m u)=lz [.bytes i.toArray S,.int m u] (hG (.bytes i.toArray S) (.int m u))) b0):aa w n (lx value slice (.bytes i.toArray S) (.int m u)) r M s:=oA (q6 _ _ _) FB.slot_bytes_getitem.lookup (W.getItem_bytes b h0 c (f _ _ a.a3)) d
theorem B6{c:x}{l:Int}{u:aF}{a0:Nat}{i:p}(a:IsTup s.heap c O.toArray)(b:-(2^63)<=l)(d:l<2^63)(e:q7 l O.length=some a0)(g:O[a0]?=some i)(f:r i s)(h:autoParam (ly slice false (.ref c) (.int l u)=lz [.ref c,.int l u] (hG (.ref c) (.int l u))) b0):aa w n (lx value slice (.ref c) (.int l u)) r M s:=⟨item_tupleT a b d e g f h⟩
def fx(w:aD)(n:aQ)(M:p->H->Prop)(i:Option am)(D:ao)(aO:p->H->Prop)(s:H):Prop:=match i with
 |none=>aO .none s
 |some o=>aa w n (bA o D) aO M s
theorem fx.run{i:Option am}{aO:p->H->Prop}(f:fx w n M i D aO s):aL (aZ w) n (evalPart i D) aO M s:=by
 cases i with
 |none=>exact aI f
 |some a=>exact aa.run f
abbrev SX(w:aD)(n:aQ)(T:String)(r M:p->H->Prop)(J G S:p)(a:H):Prop:=({a with heap:=a.heap.push {cls:=.type "slice",data:=.fields #[G,S,.none]}}:H).TypeIs J T/\aa w n (hG J (.ref a.heap.objs.size)) r M {a with heap:=a.heap.push {cls:=.type "slice",data:=.fields #[G,S,.none]}}
abbrev SY(w:aD)(n:aQ)(a:Option am)(D:ao)(T:String)(r M:p->H->Prop)(J G:p):H->Prop:=fx w n M a D (SX w n T r M J G)
abbrev SZ(w:aD)(n:aQ)(a b:Option am)(D:ao)(T:String)(r M:p->H->Prop)(J:p):H->Prop:=fx w n M a D (SY w n b D T r M J)
theorem gr{b c:Option am}(T id:String)(d:typeLookup (.type T) "__getitem__"=pure (some (.builtin id)))(f:aa w n (bA value D) (SZ w n b c D T r M) M s)(e:autoParam (∀J m,ly (.Slice b c none z) false J m=lz [m,J] (hG J m)) Zzi):aa w n (bA (.Subscript value (.Slice b c none z) pos) D) r M s:=by refine dr (f.mono (λJ g a=>⟨wpAny_Slice (cy a.run (λh i a=>cy (fx.run a) (λk l a=>?_) λW W a=>a) λW W a=>a)⟩) λW W a=>a);refine cA ?_;intro o;refine j (evalPart_none ..) ?_;exact aI (oA a.1 d a.2.run (e _ _))
theorem kj{c:x}{G S:p}{eB aW:Option Int}(a:N w h e I led s)(g:s.heap.IsList c O.toArray)(i:IsPart G eB)(j:IsPart S aW)(m:O.length<=eI)(f:∀b k aU,aU=(slicePick O.toArray eB aW none).toList->N w h e I ((b,a4 aU)::led) k->r (.ref b) k):
 ({s with heap:=s.heap.push {cls:=.type "slice",data:=.fields #[G,S,.none]}}:H).TypeIs (.ref c) "list"/\aa w n (hG (.ref c) (.ref s.heap.objs.size)) r M {s with heap:=s.heap.push {cls:=.type "slice",data:=.fields #[G,S,.none]}}:=by
 have l:=(a.alloc (J:={cls:=.type "slice",data:=.fields #[G,S,.none]}) d).cd (cJ _ _);refine⟨(g.push _).typeIs,⟨wpAny_getItem_list_slice (g.push _) (aab ..) i j .none (by simp) ?_ (by assumption)⟩⟩;have:=l.e8 (slicePick O.toArray eB aW none).toList;exact f _ _ _ d this
theorem lW{b:Array UInt8}{u:aF}{G S:p}{eB aW:Option Int}(a:N w h e I led s)(c:IsPart G eB)(g:IsPart S aW)(i:b.size<=eI)(f:∀u k,N w h e I led k->r (.bytes (Go b eB aW) u) k):
 ({s with heap:=s.heap.push {cls:=.type "slice",data:=.fields #[G,S,.none]}}:H).TypeIs (.bytes b u) "bytes"/\aa w n (hG (.bytes b u) (.ref s.heap.objs.size)) r M {s with heap:=s.heap.push {cls:=.type "slice",data:=.fields #[G,S,.none]}}:=by
 have j:=(a.alloc (J:={cls:=.type "slice",data:=.fields #[G,S,.none]}) d).cd (cJ _ _);exact⟨q6 _ _ _,⟨getItem_meets (q6 _ _ _) .(1) FB.slot_bytes_getitem FB.entry_bytes_getitem (FB.args_bytes_getitem_2 _ _) (KBc.meets_slice2 b u _ c g) (bO (aab _ _ _ _) (bZ (KBc.size_picked_le b eB aW) i) (λl m=>f _ _ j.a3))⟩⟩
theorem lX{c b:Array UInt8}{u S:aF}(a:N w h e I led s)(d:c.size+b.size<=16777216)(f:∀u k,N w h e I led k->r (.bytes (c++b) u) k):aa w n (fg .Add (.bytes c u) (.bytes b S)) r M s:=⟨KBy.add_bytes d λW W=>f _ _ a.a3⟩
end SU
section Ta
variable{L:x}{br ae:List x}{ap:Array f2->Array f2->Prop}{v:Nat}{P:Nat->p->Prop}{dz:Nat->H->Prop}
theorem Tb{av:gh->H->Prop}(W:j3 ff w n.in1 L br ae ap v P dz)(C:Nat->Int)(I:∀m E,m<v->P m E->∃u,E=.int (C m) u)(J:∀m,m<v->0<=C m/\C m<256)(t:v<=eI)(B:x)(y:B∉br):
 ∀(l m:Nat) (s:H),v-m=l->m<=v->dz m s->s.heap.get? B=some {cls:=.type "bytearray",data:=.bytearray (iy ((bH m).map C))}->
  (∀k u,nK (B::ae) ap s k->av (.ok (.ret (.bytes (iy ((bH v).map C)) u))) k)->
  g1 (aZ w) n (.builtin "bytes.__new__.loop" ⟨[.type "bytes",.ref L,.ref B],[]⟩) av s:=by
 have z:B∉ae:=λc=>y (W.sub _ c);have A:∀b∈ae,b∈B::ae:=λb e=>e3 _ e;intro l;induction l with
 |zero=>
  intro m s h D i o p;have K:m=v:=ul h D;subst K;refine kN F.bm_entry_loop<|j (lA tI _)<|(?_:aL _ n.in1 (gE (.ref L)>>=_) _ _ s);refine ab (W.done s _ _ i λk a=>?_);have f:=a.heap B _ z o;refine ab<|cA ?_;intro M;unfold Builtin.Bytes.payload Builtin.Bytes.payload?;refine ab<|ab<|po f<|aI<|aI<|ab (xp ?_ (by refine j (byteArr_size ..) ?_;simpa using t));refine(?_:aL _ _ (if(jt "bytes"==jt "bytes")=true then _ else _) _ _ _);refine xq .(1) ?_;have bv:∀q u,k.toks<=q->av (.ok (.ret (.bytes (iy ((bH m).map C)) u))) {k with toks:=q}:=λq u N=>p _ u ⟨(a.mono A).heap,a.gens,a.drawn,a.os,bZ a.toks N⟩;first
   |exact aI (bv _ _ (gZ _))
   |exact ab (aI (aI (bv _ _ (gZ _))))
 |succ l O=>
  intro m s h D i o p;have g:m<v:=rD h;refine bE (J m g) λQ R=>kN F.bm_entry_loop<|j (lA tI _)<|(?_:aL _ n.in1 (gE (.ref L)>>=_) _ _ s);refine ab (W.item m s _ _ g i λE k S T a=>?_);obtain⟨u,rfl⟩:=I m E g S;have f:=a.heap B _ z o;refine ab<|dH<|c3 (rfl:asIndex (.int (C m) u)=pure (C m))<|ab<|pp<|iz (by simp only[Bool.or_eq_false_iff,decide_eq_false_iff_not];exact Kz Q R)<|ab<|cA ?_;intro M;refine(?_:aL _ _ (updateBytearray B (·.push (C m).toNat.toUInt8)) _ _ _);unfold updateBytearray;refine ab<|po f<|(?_:aL _ _ (update B (xr (·.push (C m).toNat.toUInt8))>>=λZ=>lookBehind B) _ _ _);refine ab (wpAny_update f ?_);have G:(k.heap.update B (xr (·.push (C m).toNat.toUInt8))).get? B=some {cls:=.type "bytearray",data:=.bytearray (iy ((bH (m+1)).map C))}:=by
   have:iy ((bH (m+1)).map C)=(iy ((bH m).map C)).push (C m).toNat.toUInt8:=by simp[iy,h1]
   refine j this<|nI (xr (·.push (C m).toNat.toUInt8)) f d
  refine wpAny_lookBehind G ?_ ?_
  ·refine(?_:(if(iy ((bH (m+1)).map C)).size>eI then some "bytearray:memory" else none)=none);rw[if_neg];rw[byteArr_size,eG,xs];exact LQ t g
  ·refine aI ⟨kO tI _,O (m+1) {k with heap:=k.heap.update B (xr (·.push (C m).toNat.toUInt8))} (rz h) g (W.frame _ k _ k.toks T (c9 _) λb e U r=>(pm _ _ (λc:B=b=>y (c▸e))).trans r) G λV X Y=>?_⟩;exact p V X (Moved.trans W.gtrans ((a.mono A).then_heap (c9 _) λb U e r=>(pm _ _ (λc:B=b=>e (c▸q4))).trans r) Y)
theorem Tc:typeLookup (.type "generator") "__bytes__"=pure none:=by rw[tJ,tK];kernel_rfl
theorem Td:typeLookup (.type "generator") "__index__"=pure none:=by rw[tJ,tK];kernel_rfl
theorem B7:typeLookup (.type "generator") "__buffer__"=pure none:=by rw[tJ,tK];kernel_rfl
theorem Te(W:j3 ff w n.in1 L br ae ap v P dz)(c:∀m s,dz m s->s.TypeIs (.ref L) "generator")(g:∀m s,dz m s->∃J ar,s.heap.get? L=some J/\J.data=.fields ar)(e:dz 0 s)(h:∀b∈br,b<s.heap.objs.size)(C:Nat->Int)(i:∀m E,m<v->P m E->∃u,E=.int (C m) u)(l:∀m,m<v->0<=C m/\C m<256)(o:v<=eI)(p:∀k u,nK ae ap s k->r (.bytes (iy ((bH v).map C)) u) k):
 g1 (aZ w) n (.call (.builtin "bytes.__new__") ⟨[.type "bytes",.ref L],[]⟩) (wants r M) s:=by
 refine q8 ?_;(refine(?_:aL _ n.in1 (do nL "bytes.__new__" ⟨[.type "bytes",.ref L],[]⟩;again (.builtin "bytes.__new__" ⟨[.type "bytes",.ref L],[]⟩)) _ _ s));refine ab (c3 (F.bm_newCall _) (aI ⟨kO q9 _,kN Gp<|j (lA q9 _) ?_⟩));have c:s.TypeIs (.ref L) "generator":=c 0 s e;refine db (g 0 s e) λD ar q t=>?_;unfold Builtin.«bytes.__new__»;refine ab<|c3 (a:=true) d<|iz d<|ab<|c3 F.bm_sub<|iz d<|ab<|c3 (F.bm_bind _)<|ab<|c3 (a:=()) d<|ab<|c3 (a:=()) d<|iz d<|ab<|j4 c Tc<|ab<|ab<|cA ?_;intro x;refine(?_:aL _ _ (load L>>=_) _ _ _);refine ab (po q ?_);refine j t<|aI<|aI<|iz d<|ab<|j4 c Td<|xq d ?_;first
  |refine(?_:aL _ _ (Gq "bytes.__new__" (.ref L) true>>=_) _ _ _)
  |(refine ab ?_;show aL _ _ (Gq "bytes.__new__" (.ref L) true>>=_) _ _ _)
 refine ab ?_;unfold Gq;refine ab<|j4 c B7<|ab<|j4 c B7<|aI<|ab<|Gr<|W.self 0 _ _ _ e<|ab<|dH<|cA ?_;intro x;unfold Builtin.Bytes.lengthHint;refine ab (j4 c F.gen_no_len ?_);dsimp only;refine iz d<|iz d<|ab<|j4 c F.gen_no_hint<|aI<|ab ?_;unfold Builtin.Bytes.newBytearray;refine lB ?_ (e2 _);have y:s.heap.objs.size∉br:=λz=>dn _ (h _ z);have f:=Tb (w:=w) (n:=n) (av:=wants r M) W C i l o s.heap.objs.size y v 0 {s with heap:=s.heap.push {cls:=.type "bytearray",data:=.bytearray #[]}} rfl (e2 _) (W.frame 0 s _ s.toks e (c9 _) λb Y J A=>cM _ A) (eX _ d)
  λk u B=>p k u (B.drop_new (c9 _))
 first
  |exact aI ⟨kO tI _,f⟩
  |exact aI (aI ⟨kO tI _,f⟩)
theorem Tf(W:j3 ff w n.in1.in1 L br ae ap v P dz)(e:∀m s,dz m s->s.TypeIs (.ref L) "generator")(f:∀m s,dz m s->∃J ar,s.heap.get? L=some J/\J.data=.fields ar)(g:dz 0 s)(h:∀b∈br,b<s.heap.objs.size)(C:Nat->Int)(i:∀m E,m<v->P m E->∃u,E=.int (C m) u)(j:∀m,m<v->0<=C m/\C m<256)(l:v<=eI)(o:∀k u,nK ae ap s k->r (.bytes (iy ((bH v).map C)) u) k):aL (aZ w) n (call (.type "bytes") [.ref L]) r M s:=by
 refine xt (Q₁:=λa c=>c.TypeIs a "bytes"/\r a c) Gs (F.bm_typeCall _) Gu
  (Te W e f g h C i j l λk u p=>⟨q6 _ _ _,o k u p⟩) λa c d=>?_
 exact(bO (d.1) (aac a _) (Gv F.bm_called.init.lookup F.bm_called.made .(1) _ w n.in1 _ c (bO (d.1) (rfl) (d.2))))
end Ta
section
variable{aO:Type}[DecidableEq aO]
noncomputable def seen(val:Nat->aO)(m:Nat)(l:aO):Bool:=(bH m).any λa=>decide (val a=l)
noncomputable def fT(val:Nat->aO):Nat->Nat
 |0=>0
 |m+1=>if seen val m (val m) then fT val m else fT val m+1
theorem B8(val:Nat->aO):∀m,fT val m<=m
 |0=>c9 _
 |m+1=>by refine(?_:(if seen val m (val m) then fT val m else fT val m+1)<=m+1);have:=B8 val m;split<;>lia
theorem Tg(val:Nat->aO)(m:Nat)(l:aO):seen val (m+1) l=(seen val m l||decide (l=val m)):=by unfold seen;refine j h1 (j List.any_append ?_);simp[eq_comm]
variable{L:x}{br ae:List x}{ap:Array f2->Array f2->Prop}{v:Nat}{P:Nat->p->Prop}{dz:Nat->H->Prop}
theorem B9{f9:KeyKind ff w aO}{f:au}{a b:aO->Bool}{v d:Nat}(e:f.SetOf f9 c a v)(o:∀l,a l=b l)(ay:v=d):f.SetOf f9 c b d:=by have:a=b:=funext o;subst this;subst ay;exact e
theorem Th{f9:KeyKind ff w aO}{av:gh->H->Prop}(W:j3 ff w n.in1 L br ae ap v P dz)(B:x)(z:B∉br)(val:Nat->aO)(I:∀m E,m<v->P m E->f9.is (val m) E=true/\E.scannable=true)(b:v+1<tL):
 ∀(l m:Nat) (s:H),v-m=l->m<=v->dz m s->s.heap.SetOf f9 B (seen val m) (fT val m)->
  (∀k,nK (B::ae) ap s k->k.heap.SetOf f9 B (seen val v) (fT val v)->av (.ok (.ret .none)) k)->
  g1 (aZ w) n (.builtin "set.update.loop" ⟨[.ref B,.ref L],[]⟩) av s:=by
 have A:B∉ae:=λc=>z (W.sub _ c);have C:∀a∈ae,a∈B::ae:=λa b=>e3 _ b;intro l;induction l with
 |zero=>
  intro m s h D o e p;have J:m=v:=by exact ul h D
  subst J;refine kN aad<|j (lA Gw _)<|(?_:aL _ n.in1 (gE (.ref L)>>=_) _ _ s);refine ab<|W.done s _ _ o λk f=>(?_:aL _ n.in1 (nM fD) _ _ k);exact aI (p k (f.mono C) (by
   (refine h6 e λg q r K t u=>?_;clear e);exact(jA (g) (q) (r) (K) (f.heap B _ A t) (u))))
 |succ l M=>
  intro m s h D o e p;have i:m<v:=by exact rD h
  refine kN aad<|j (lA Gw _)<|(?_:aL _ n.in1 (gE (.ref L)>>=_) _ _ s);refine ab<|W.item m s _ _ i o λE k N O f=>bE (I m E i N) λF Q=>?_;have R:k.heap.SetOf f9 B (seen val m) (fT val m):=by
   (refine h6 e λg q r S t u=>?_;clear e);exact(jA (g) (q) (r) (S) (f.heap B _ A t) (u))
  refine(?_:aL _ n.in1 (lw [E] (setAdd B E)>>=_) _ _ k);refine ab<|dH<|cA ?_;intro ad;unfold setAdd;refine dH<|ab (f9.pyHash (k:=val m) F ?_);have T:fT val m+1<scanBound:=by have:=B8 val m;exact Jy b i this
  refine wpAny_setAddHashed_of (knd:=f9) (s:={k with toks:=k.toks+1}) F Q R T λU G V=>?_;have X:U.SetOf f9 B (seen val (m+1)) (fT val (m+1)):=B9 V (λY=>(Tg val m Y).symm) d;refine aI ⟨kO Gw _,M (m+1) _ (rz h) i (W.frame _ k _ _ O (gZ _) λa b g y=>?_) X λZ aa ac=>?_⟩
  ·(refine j (G.2 a (λc:a=B=>z (by refine be c ?_;exact b))) ?_);exact y
  ·refine p Z (Moved.trans W.gtrans ((f.mono C).then_heap (gZ _) λa g b y=>?_) aa) ac;(refine j (G.2 a (λc:a=B=>b (by refine j c ?_;exact q4))) ?_);exact y
set_option maxHeartbeats 3200000 in
theorem Ca{f9:KeyKind ff w aO}{J:V}{T:String}(q:s.heap.get? c=some J)(h:J.cls=.type T)(aA:h2 (.type T) (.type "set")=pure false)(bf:h2 (.type T) (.type "frozenset")=pure false)(bh:(jt T==jt "dict")=false)(f:∀led:Bool,aL (aZ w) n.in1.in1 (hX (.ref c)) (λit a5=>∃L br ae ap v P dz val,it=.ref L/\j3 ff w n.in1.in1.in1 L br ae ap v P dz/\dz 0 a5/\s.heap.objs.size∉br/\(∀m E,m<v->P m E->f9.is (val m) E=true/\E.scannable=true)/\v+1<tL/\
  a5.heap.get? s.heap.objs.size=some {cls:=.type "set",dict:=none,data:=.set #[] 0 (.fresh 0 0 led)}/\∀k,nK (s.heap.objs.size::ae) ap a5 k->k.heap.SetOf f9 s.heap.objs.size (seen val v) (fT val v)->r (.ref s.heap.objs.size) k) (λV V=>False) {s with heap:=s.heap.push {cls:=.type "set",dict:=none,data:=.set #[] 0 (.fresh 0 0 led)}}):
 aL (aZ w) n (call (.type "set") [.ref c]) r M s:=by
 refine eJ F.called_set.mro λZ aa ac=>?_;have ad:=F.called_set.made;have af:=F.called_set.sub;refine hY<|q8<|(?_:aL _ _ (callAny (.type "set") _) _ _ _);refine aI ⟨aae _ (by decide+kernel),kN F.entry_type_call<|cA ?_⟩;intro t;refine j (Around.under_plain (weight_type_call_type "set" [.ref c] []) d) ?_;have ag:=F.called_set.notType;have ah:=F.called_set.canCreate;have ai:=F.typeCall_set_1 (.ref c);repeat(any_goals (first|assumption|wp_step))
 refine iX (code_set_new_1 (.ref c) (E:=M) (Q₁:=λi l=>∃led:Bool,i=.ref s.heap.objs.size/\l={s with heap:=s.heap.push {cls:=.type "set",dict:=none,data:=.set #[] 0 (.fresh 0 0 led)}}) λled=>(bF (led) (rfl) (rfl))) λb l e=>?_;cases b with
 |error u=>exact e
 |ok x=>
  cases x with
  |ret i=>
   (refine bp e λled a y=>?_;clear e;refine j a ?_;refine j y ?_);have z:(s.heap.push {cls:=.type "set",dict:=none,data:=.set #[] 0 (.fresh 0 0 led)}).get? s.heap.objs.size=some {cls:=.type "set",dict:=none,data:=.set #[] 0 (.fresh 0 0 led)}:=eX _ d;have A:Gx {s with heap:=s.heap.push {cls:=.type "set",dict:=none,data:=.set #[] 0 (.fresh 0 0 led)}} (.ref s.heap.objs.size) "set":=(bF (_) (z) (rfl));have aj:=F.called_set.init.lookup;have ak:=F.called_set.init.bind (.ref s.heap.objs.size);repeat(any_goals (first|assumption|wp_step))
   refine iX (lC (R:=wants (λb o=>b=.none/\r (.ref s.heap.objs.size) o) M) F.called_set.init.plain F.entry_set_init (check_set_init_1 A ?_)) λB o g=>?_
   ·have f:=f led;obtain⟨al,C,D,G⟩:=J;simp only at h;subst h;have am:(s.heap.push {cls:=.type "set",dict:=none,data:=.set #[] 0 (.fresh 0 0 led)}).get? c=some {cls:=.type T,dict:=C,data:=D,slots:=G}:=cM _ q;unfold Builtin.«set.__init__» noKeywords abT;generalize H:hX=an
    wp_walk
    subst H;refine cy f (λit a5 f=>?_) λT T I=>I.elim;refine cA ?_;intro t;(refine HI f λL br ae ap v P dz val a W K N O Q S p=>?_;clear f;refine j a ?_);refine ab<|wpAny_runValue<|Th W s.heap.objs.size N val O Q v 0 _ (Gj _) (e2 _) K ?_ λk U X=>?_
    ·exact B9 ((PyProof.Rows.setObjOf_fresh (knd:=f9) led).setOf S (by unfold tL;exact LS)) (λW=>rfl) d
    ·refine aI<|(?_:aL _ _ (nM fD) _ _ _);exact aI ⟨rfl,p k U X⟩
   ·cases B with
    |error u=>exact g
    |ok Y=>
     cases Y with
     |ret b=>(refine bE g λa p=>?_;clear g;refine j a ?_);repeat(any_goals (first|assumption|wp_step))
     |_=>exact g.elim
  |_=>exact e.elim
end
section
variable{v q S:Nat}{F:Nat->p->Prop}{c:x}
theorem N.hP(a:N w h e I led s):Apart e led s.heap.objs.size:=by have f:∀c,s.heap.get? s.heap.objs.size≠some c:=λc b=>dn _ (cr b);exact⟨a.fresh,mr a.lt,λd=>let⟨_,_,_,_,c,b⟩:=a.b9 _ d;f c b,λd=>let⟨g,i,b⟩:=List.mem_map.mp d;f g.2 (b▸(a.ld g i).1)⟩
theorem Cb{a:Array p}(f:ItemsOf F a v):a.toList.length=v/\∀a0 E,a.toList[a0]?=some E->F a0 E:=⟨by refine j aaf ?_;exact f.1,λa0 E b=>f.2 a0 E (by refine be tB ?_;exact b)⟩
theorem Cc(a:N w h e I led s)(l:e.af.t=false)(m:i7 w h e led v F q S c s)(A:aR n (q+3) (S+9))(o:v<=eI)(f:∀G O R k,N w h e I ((G,a4 O R)::led) k->O.length=v->(∀a0 E,O[a0]?=some E->F a0 E)->r (.ref G) k):aa w n (call (.type "list") [.ref c]) r M s:=by
 refine aV λU p=>kU m.eh λV X Y Z W t u x y z B=>?_;all_goals refine p ?_
 have i:aR n.in1.in1 (q+3) (S+7):=aR.in1 (aR.in1 A);refine⟨call_list_gen (W _ i) (λC s b=>(u _ C s b).elim λW D=>D.typeIs) (t _ i) x y (λk d H J j K=>?_) o⟩;have L:=(a.e8 []).cd (cJ _ _);have P:=L.lV l J (λQ g=>by
  rcases List.mem_cons.mp g with rfl|g
  ·exact a.hP
  ·exact z Q g) B
 have b:=Cb K;have T:d=d.toList.toArray:=by dsimp
 rw[T] at j;refine f _ d.toList H _ (a.p8 P j (c9 _) a.hP.hd) b.1 b.2
theorem Cd(a:N w h e I led s)(i:e.af.t=false)(j:i7 w h e led v F q S c s)(A:aR n (q+3) (S+9))(l:v<=eI)(C:Nat->Int)(o:∀m E,m<v->F m E->∃u,E=.int (C m) u)(p:∀m,m<v->0<=C m/\C m<256)(f:∀u k,N w h e I led k->r (.bytes (iy ((bH v).map C)) u) k):aa w n (call (.type "bytes") [.ref c]) r M s:=by
 refine aV λL t=>kU j.eh λO P Q R W x d y T z B=>?_;all_goals refine t ?_
 have g:aR n.in1.in1 (q+3) (S+7):=aR.in1 (aR.in1 A);exact⟨Tf (W _ g) (λm s b=>(d _ m s b).elim λY D=>D.typeIs) (λm s b=>(d _ m s b).elim λY ⟨G,U,V,H,X,J,_⟩=>(eU (G) (_) (H) (J))) (x _ g) y C o p l λk u K=>f u _ (a.lV i K z B)⟩
theorem Ti:h2 (.type "generator") (.type "set")=pure false:=by rw[mv];kernel_rfl
theorem Tj:h2 (.type "generator") (.type "frozenset")=pure false:=by rw[mv];kernel_rfl
theorem Ce(a:N w h e I led s)(G:e.af.t=false)(H:i7 w h e led v F q S c s)(A:aR n (q+3) (S+10))(K:v+1<tL)(C:Nat->Int)(L:∀m E,m<v->F m E->∃u,E=.int (C m) u)(f:∀B J k,N w h e I ((B,J)::led) k->(∀ag:au,ag.get? B=some J->ag.SetOf (intKind ff w) B (seen C v) (fT C v))->r (.ref B) k):aa w n (call (.type "set") [.ref c]) r M s:=by
 refine aV λl b=>kU H.eh λo O P Q W p R T am U V=>?_;all_goals refine b ?_
 have g:aR n.in1.in1.in1 (q+3) (S+7):=aR.in1 (aR.in1 (aR.in1 A));refine aV λl b=>yi (R _ 0 s (p _ g)) λan J ao ap X Y aq R=>?_;all_goals refine b ?_
 have Z:s.heap.objs.size∉o:=λf=>dn _ (T _ f);refine⟨Ca (aO:=Int) (f9:=intKind ff w) X Y Ti Tj .(1) λt=>cA ?_⟩;intro ar;have x:=(W _ g).frame 0 s (s.heap.push {cls:=.type "set",dict:=none,data:=.set #[] 0 (.fresh 0 0 t)}) s.toks (p _ g) (c9 _) λy Y J i=>cM _ i;refine((W _ g).of_in1).self 0 _ _ _ x (yt (c) (o) (O) (P) (v) (F) (Q _) (C) (rfl) (W _ g) (x) (Z) (λm E ab ac=>?_) (K) (eX _ d) (λk ad z=>?_))
 ·obtain⟨u,rfl⟩:=L m E ab ac;exact⟨intKind_is _ _ _ _,rfl⟩
 ·have ae:=(a.alloc (J:={cls:=.type "set",dict:=none,data:=.set #[] 0 (.fresh 0 0 t)}) d).cd (cJ _ _);have af:=ae.lV G ad (λy j=>by
   rcases List.mem_cons.mp j with rfl|j
   ·exact a.hP
   ·exact U y j) V
  refine aV λl b=>?_;(refine h6 z λD ah ai aj ak al=>?_;clear z);all_goals refine b ?_
  exact f _ D _ (a.p8 af ak (c9 _) a.hP.hd) λag i=>(jA (D) (ah) (ai) (aj) (i) (al))
theorem Cf(a:N w h e I led s)(g:e.af.t=false)(i:i7 w h e led v F q S c s)(A:aR n (q+3) (S+9))(C:Nat->Int)(j:∀m E,F m E->∃u,E=.int (C m) u)(f:∀u k,N w h e I led k->r (.int (ju C v) u) k):aa w n (call (.builtin "sum") [.ref c]) r M s:=by
 refine aV λG l=>kU i.eh λo p t x W d H y J z B=>?_;all_goals refine l ?_
 have b:aR n.in1 (q+3) (S+7):=(aR.in1 A).mono uG uH;exact⟨call_sum_walkAnyS ((W _ b).self 0 _ _ _ (d _ b) ⟨c,o,p,t,v,F,x _,C,rfl,W _ b,d _ b,y,j,(λk u D=>f u _ (a.lV g D z B))⟩)⟩
theorem Tk(a:N w h e I led s)(g:e.af.t=false)(i:i7 w h e led v F q S c s)(A:aR n (q+3) (S+9))(C:Nat->Bool)(j:∀m E,F m E->E=.bool (C m))(f:∀k,N w h e I led k->r (.bool ((bH v).all C)) k):aa w n (call (.builtin "all") [.ref c]) r M s:=by
 refine aV λG l=>kU i.eh λo p t u W d H J K x y=>?_;all_goals refine l ?_
 have b:aR n.in1 (q+3) (S+7):=(aR.in1 A).mono uG uH;(exact⟨call_all_walkS ((W _ b).self 0 _ _ _ (d _ b) (rx (c) (o) (p) (t) (v) (F) (u _) (C) (rfl) (W _ b) (d _ b) ((λm E s r M z B=>by rw[j m E z];exact pn B)) (λk D=>f _ (a.lV g D x y))))⟩)
theorem Tl(a:N w h e I led s)(g:e.af.t=false)(i:i7 w h e led v F q S c s)(A:aR n (q+3) (S+9))(C:Nat->Bool)(j:∀m E,F m E->E=.bool (C m))(f:∀k,N w h e I led k->r (.bool ((bH v).any C)) k):aa w n (call (.builtin "any") [.ref c]) r M s:=by
 refine aV λG l=>kU i.eh λo p t u W d H J K x y=>?_;all_goals refine l ?_
 have b:aR n.in1 (q+3) (S+7):=(aR.in1 A).mono uG uH;(exact⟨call_any_walkS ((W _ b).self 0 _ _ _ (d _ b) (rx (c) (o) (p) (t) (v) (F) (u _) (C) (rfl) (W _ b) (d _ b) ((λm E s r M z B=>by rw[j m E z];exact pn B)) (λk D=>f _ (a.lV g D x y))))⟩)
end
noncomputable def cl:List al->x->List (al×x)->List (al×x)
 |[],_,a=>a
 |i::A,v,a=>cl A (v+1) ((i,v)::a)
theorem Cg(G:List (al×p))(v:al)(E:p)(ai:al):(G++[(v,E)]).lookup ai=(G.lookup ai).or (if ai=v then some E else none):=by
 induction G with
 |nil=>
  simp only[ix,f0,List.lookup_nil,Option.none_or];by_cases a:ai=v
  ·subst a;simp
  ·simp[a,beq_eq_false_iff_ne.mpr a]
 |cons b G c=>
  obtain⟨d,e⟩:=b;refine j tD (j f0 (j f0 ?_));cases a:ai==d with
  |true=>rfl
  |false=>exact c
theorem Ch(c:al->Option pq):∀(bQ:List (al×p)) (R:al->Option p) (ai:al),bindL c bQ R ai=if c ai=some .local then(bQ.reverse.lookup ai).or (R ai) else R ai
 |[],R,ai=>by refine(?_:R ai=_);simp
 |(f,g)::e,R,ai=>by
  refine(?_:bindL c e (if c f=some .local then _ else _) ai=_);rw[Ch c e];simp only[tE];refine j (Cg ..) ?_;by_cases a:c f=some .local
  ·rw[if_pos a];by_cases b:ai=f
   ·subst b;simp only[if_pos a,if_pos];cases e.reverse.lookup ai<;>rfl
   ·simp only[if_neg b];cases e.reverse.lookup ai<;>rfl
  ·refine j (if_neg a) ?_;by_cases b:ai=f
   ·subst b;exact j (if_neg a) (j (if_neg a) d)
   ·simp only[if_neg b];cases e.reverse.lookup ai<;>rfl
theorem Ci(a:al->Option pq):∀(bQ:List (al×p)) (R:al->Option p) (ai:al),a ai≠some .local->bindC a bQ R ai=(bQ.reverse.lookup ai).or (R ai)
 |[],R,ai,_=>rfl
 |(d,g)::b,R,ai,e=>by
  refine(?_:bindC a b (if a d=some .local then _ else _) ai=_);rw[Ci a b _ ai e];simp only[tE];refine j (Cg ..) ?_;by_cases c:ai=d
  ·subst c;simp only[if_neg e,if_pos];cases b.reverse.lookup ai<;>rfl
  ·by_cases f:a d=some .local
   ·refine j (if_pos f) ?_;simp only[if_neg c];cases b.reverse.lookup ai<;>rfl
   ·rw[if_neg f];simp only[if_neg c];cases b.reverse.lookup ai<;>rfl
theorem Zzs{i:al}{A:List al}{v:x}{a:List (al×x)}:cl (i::A) v a=cl A (v+1) ((i,v)::a):=rfl
theorem vB:∀(e:List al) (v:x) (b:List (al×x)) (m:Nat) (i:al),e.Nodup->(∀z∈b,z.1∉e)->e[m]?=some i->(cl e v b).lookup i=some (v+m)
 |[],_,_,m,i,_,_,a=>by trivial
 |k::c,v,b,m,i,f,n,a=>by
  have o:∀(c:List al) (v:x) (b:List (al×x)) (d:al),d∉c->(cl c v b).lookup d=b.lookup d:=by
   intro c;induction c with
   |nil=>intros;rfl
   |cons p c g=>intro v b d l;rw[Zzs,g (v+1) _ d (λa=>l (.tail _ a)),f0,beq_eq_false_iff_ne.mpr (λa=>l (by refine j a ?_;exact .head _))]
  cases m with
  |zero=>simp only[j1,kH] at a;subst a;rw[Zzs,o c _ _ k (List.nodup_cons.mp f).1,f0,beq_self_eq_true];rfl
  |succ m=>
   have g:=vB c (v+1) ((k,v)::b) m i (List.nodup_cons.mp f).2 (λz h=>by
    rcases List.mem_cons.mp h with rfl|h
    ·exact(List.nodup_cons.mp f).1
    ·exact λa=>n z h (.tail _ a)) (by simpa using a)
   rw[Zzs,g];congr 1;exact Nat.succ_add_eq_add_succ v m
theorem Cj{C:bJ}{args:js}{bQ:List (al×p)}{av:gh->H->Prop}{I:List (Option p)}(a:List al){O:List (Option p)}(af:dq)(L:aH w h s)(P:af.P s.heap){S:Nat}(A:aR n q S)(F:ce w h C)(Q:∀ac,cellsFrom (ac+1) (d1 C.a9).names []=cl a (ac+1) [])(e:∀doc,hE (C.d5 doc) args=pure bQ)(aj:(a.all λi=>(d1 C.a9).names.lookup i==some .cell)=true)(ak:a.Nodup)(R:(bQ.all λi=>C.names.contains i.1||a.contains i.1)=true)(am:C.names.map (λi=>bQ.reverse.lookup i)=I)(an:a.map (λi=>bQ.reverse.lookup i)=O)(f:∀(ac:x) (B:Nat->V) k,(C.eg ac (cl a (ac+1) [])).bL->(∀(m:Nat) E,O[m]?=some E->(B m).data=.cell E)->N w h ⟨C.eg ac (cl a (ac+1) []),s,af,.none⟩ I ((bH a.length).map λm=>(ac+1+m,B m)) k->aa w (n.deeper (C.D ac (cl a (ac+1) []))) (ej (fv C.a9) (C.D ac (cl a (ac+1) []))) (λao k=>av (.ok (.ret (r1 ao))) k) (λo k=>aa w (n.deeper (C.D ac (cl a (ac+1) []))) (nJ (C.D ac (cl a (ac+1) [])) o) (λ_ G=>av (.error o) G) (λap G=>av (.error ap) G) k) k):
 bk w n (.call (.ref C.fG) args) av s:=⟨by
 obtain⟨b,T,aq,U⟩:=F;have u:=U;simp only[bJ.ok,eH,beq_iff_eq,hc,iw,decide_eq_true_eq] at u;(refine bE u λr _=>?_;clear u;(refine bE r λr _=>?_;(refine bE r λr _=>?_;obtain⟨⟨⟨⟨ar,as⟩,au⟩,W⟩,aw⟩:=r)));have ax:mN (h C.fG) (rQ C.a9) C.t C.rR .none C.rS (.ref C.code) C.hi C.rT=C.d5 (h C.fG).doc:=by unfold bJ.d5 mN;exact j b.params (j b.body (j b.scope d))
 rw[ax] at T;have J:∀i∈a,(d1 C.a9).names.lookup i=some .cell:=λi g=>eq_of_beq (List.all_eq_true.mp aj i g);have Y:∀(m:Nat) i ac,a[m]?=some i->(cl a (ac+1) []).lookup i=some (ac+1+m):=λm i ac f=>vB a (ac+1) [] m i ak (λ_ f=>(nomatch f)) f;refine Ga (fd:=C.d5 (h C.fG).doc) A.hm (L.l _ _ T) d au as d (z9 L aq)<|j (e ..)<|aI (wpAny_newFunctionEnv_cells ar (λi g=>?_) λay az k X=>?_)
 ·have:=List.all_eq_true.mp R i g;simp only[pr,aag] at this;rcases this with f|f
  ·exact .inl (W i.1 f)
  ·refine .inr ⟨J _ f,bo (fr f) λm b=>?_⟩;refine(?_:((cellsFrom (s.heap.objs.size+1) (d1 C.a9).names []).lookup i.1).isSome=true);refine j (Q ..) (j (Y m _ _ b) ?_);rfl
 have aA:ay=C.D s.heap.objs.size (cl a (s.heap.objs.size+1) []):=by refine j az<|(?_:newEnv (d1 C.a9) _ 3 (cellsFrom (s.heap.objs.size+1) (d1 C.a9).names []) _ _ _ none _=_);refine j (Q ..) ?_;rfl
 subst aA;have K:∀c,s.heap.objs.size<=c->s.heap.get? c=none:=λc e=>by
  cases o:s.heap.get? c with
  |none=>rfl
  |some v=>exact absurd (cr o) (Nat.not_lt.mpr e)
 (refine eJ X.toInCall.same λt Z r=>?_;obtain rfl:=r);have ab:ee [] s {s with heap:=t,toks:=Z}:=⟨λc v _ o=>X.toInCall.keep c v o,rfl,rfl,rfl⟩;have ad:aH w h {s with heap:=t,toks:=Z}:=ab.Z (λc e=>nomatch e) L;have ae:∀c,s.heap.objs.size<=c->c∉af.ae:=λc e aB=>by refine bo (af.live _ P _ aB) λv o=>?_;exact cz ((K c e).symm.trans o)
 refine⟨ad.mQ,Gb ?_⟩;have aC:=bJ.u1 U s.heap.objs.size (cl a (s.heap.objs.size+1) []);have ag:∀(m:Nat) i,a[m]?=some i->t.IsCell (s.heap.objs.size+1+m) (bQ.reverse.lookup i):=λm i g=>by
  have:=X.cell i _ (Y m i _ g);rw[Ci] at this
  ·simpa using this
  ·refine(?_:(d1 C.a9).names.lookup i≠_);refine j (J i (cx g)) ?_;decide
 let B:Nat->Obj:=λm=>(t.get? (s.heap.objs.size+1+m)).getD default;refine cy (aa.run (f s.heap.objs.size B _ aC (λm E b=>?_) ⟨ad,ab.aS (λc e=>nomatch e) (λc e=>nomatch e),?_,?_,⟨K _ (c9 _),L.size,ae _ (c9 _)⟩,λah M=>?_,?_,trivial,λ_ f=>(nomatch f)⟩)) (λ_ _ i=>i) (λ_ _ i=>i.run)
 ·rw[<-an,dR] at b;cases g:a[m]? with
  |none=>rw[g] at b;exact cz b
  |some i=>rw[g] at b;(obtain rfl:=dg b;clear b);refine bp (ag m i g) λv u aD=>(?_:((t.get? (s.heap.objs.size+1+m)).getD default).data=_);refine j u ?_;exact aD
 ·exact af.eV _ _ (λc e v o=>X.toInCall.keep c v o) P
 ·have o:ez C.names I=bindL (C.D s.heap.objs.size (cl a (s.heap.objs.size+1) [])).kindOf bQ (λ_=>none):=by
   funext l
   refine j (Ch ..) ?_;subst am;by_cases y:l∈C.names
   ·refine j (if_pos (show(C.D s.heap.objs.size (cl a (s.heap.objs.size+1) [])).kindOf l=_ from W l y))<|bo (fr y) λm b=>?_;(refine j (lR aw b (by refine j dR (j b ?_);rfl)) ?_);refine(?_:bQ.reverse.lookup l=(bQ.reverse.lookup l).or none);exact j Option.or_none d
   ·have aE:ez C.names (C.names.map λi=>bQ.reverse.lookup i) l=none:=by
     unfold ez;have:∀(D:List al) (z:List (Option p)),l∉D->(D.zip z).lookup l=none:=by
      intro D;induction D with
      |nil=>intro z _;rfl
      |cons aK A aF=>
       intro z y;cases z with
       |nil=>rfl
       |cons E z=>(refine j jr (j f0 (j (beq_eq_false_iff_ne.mpr (λf=>y (by refine j f ?_;exact .head _))) ?_)));exact aF z λf=>y (.tail _ f)
     refine j (this _ _ y) ?_;rfl
    refine j aE ?_;split
    ·rename_i aG;have:bQ.reverse.lookup l=none:=Aa λah M o=>by
      have:=List.all_eq_true.mp R ah (List.mem_reverse.mp M);simp only[pr,aag] at this;rcases this with f|f
      ·exact y (o▸f)
      ·have ai:=J _ f;rw[o] at ai;exact nomatch (show(d1 C.a9).names.lookup l=_ from aG).symm.trans ai
     refine j this ?_;rfl
    ·rfl
  refine(?_:t.Ns s.heap.objs.size (ez C.names I));refine j o ?_;exact X.toInCall.ns
 ·(refine bp (List.mem_map.mp M) λm b r=>?_;obtain rfl:=r);have b:=List.mem_range.mp b;refine bp (ag m _ (da b)) λv u _=>?_;refine(bO (?_) (?_) ⟨K _ ?_,?_,ae _ ?_⟩)
  ·refine(?_:t.get? _=some ((t.get? (s.heap.objs.size+1+m)).getD default));refine j u ?_;rfl
  ·refine(?_:s.heap.objs.size+1+m≠s.heap.objs.size);have:s.heap.objs.size<s.heap.objs.size+1+m:=LU;exact mr this
  ·refine(?_:s.heap.objs.size<=s.heap.objs.size+1+m);exact uI
  ·exact bZ L.size (by refine(?_:s.heap.objs.size<=s.heap.objs.size+1+m);exact uI)
  ·refine(?_:s.heap.objs.size<=s.heap.objs.size+1+m);exact uI
 ·refine j nN<|List.nodup_iff_pairwise_ne.mpr<|List.pairwise_map.mpr<|aah ?_ (List.nodup_iff_pairwise_ne.mp Gy);intro aL c aJ f;exact aJ (xa f)⟩
theorem mZ{C:bJ}{args:js}{bQ:List (al×p)}{r:p->H->Prop}{I:List (Option p)}(b:List al){e:List (Option p)}(af:dq)(L:aH w h s)(g:af.P s.heap){S:Nat}(A:aR n q S)(F:ce w h C)(j:∀ac,cellsFrom (ac+1) (d1 C.a9).names []=cl b (ac+1) [])(l:∀doc,hE (C.d5 doc) args=pure bQ)(o:(b.all λi=>(d1 C.a9).names.lookup i==some .cell)=true)(t:b.Nodup)(u:(bQ.all λi=>C.names.contains i.1||b.contains i.1)=true)(v:C.names.map (λi=>bQ.reverse.lookup i)=I)(y:b.map (λi=>bQ.reverse.lookup i)=e)(f:∀(ac:x) (c:Nat->V) k,let d:aP:=⟨C.eg ac (cl b (ac+1) []),s,af,.none⟩;let z:Around:=n.deeper d.D;let B:List (Option p):=I;let D:List (x×V):=(bH b.length).map λm=>(ac+1+m,c m);d.l.bL->(∀(m:Nat) E,e[m]?=some E->(c m).data=.cell E)->N w h d B D k->aa w z (ej (fv C.a9) d.D) (ia r) dh k):
 bk w n (.call (.ref C.fG) args) (bW r) s:=
 Cj b af L g A F j l o t u v y λac c k G J a=>⟨cy (f ac c k G J a).run (λW W i=>i) λW W i=>i.elim⟩
noncomputable abbrev oB(c b:Int)(u S E:aF):Obj:={cls:=.type "range",data:=.fields #[.int c u,.int b S,.int 1 E]}
theorem iK{v:Int}(a:N w h e I led s)(f:∀A u S E k,N w h e I ((A,oB 0 v u S E)::led) k->r (.ref A) k):aa w n (call (.type "range") [.int v u]) r M s:=⟨call_range_1 (f _ _ _ _ _ ((a.alloc d).a3))⟩
theorem Ck{c b:Int}(a:N w h e I led s)(f:∀A u S E k,N w h e I ((A,oB c b u S E)::led) k->r (.ref A) k):aa w n (call (.type "range") [.int c u,.int b S]) r M s:=⟨call_range_2 (f _ _ _ _ _ ((a.alloc d).a3))⟩
theorem hp(a:n.handled=none)(L:x)(c l:Int)(v:Nat):eY w n L [L] [L] v (λm E W=>∃u,E=.int (c+m*l) u) (λm f=>IsRangeIter f L (c+(m:Nat)*l) ((v:Int)-(m:Nat)) l):=⟨k1.of (Walks.range a L c l v),λm f b e d=>by refine j (List.mem_singleton.mp d)<|⟨_,b⟩⟩
theorem N.Cm(a:N w h e I led s)(m:n.handled=none){c l:Int}(o:L=s.heap.objs.size)(p:k={s with heap:=s.heap.push {cls:=.type "range_iterator",data:=.fields #[eu c,eu v,eu l]}}):d7 e [L]/\N w h (e.push (cs (hp (w:=w) m L c l v) 0)) I led k:=by
 subst o p;have b:=a.alloc (J:={cls:=.type "range_iterator",data:=.fields #[eu c,eu v,eu l]}) d;have i:=b.at 0 d;have q:=b.cd (cJ _ _);refine⟨⟨λr f=>by refine j (List.mem_singleton.mp f) ?_;exact⟨a.fresh,a.hP.hd⟩⟩,q.hl _ ?_ λr f=>?_⟩
 ·refine(?_:IsRangeIter _ _ _ _ _);have t:c+((0:Nat):Int)*l=c:=by simp
  have u:(v:Int)-((0:Nat):Int)=v:=by rfl
  refine j t<|j u<|i
 ·refine j (List.mem_singleton.mp f) ?_;have g:=b.ld _ aG;exact(cV (g.2.1) (g.2.2.dc) ((List.nodup_cons.mp b.dE).1) (g.2.2.ge) ⟨_,i⟩)
theorem jM{A:x}{c b:Int}{E:aF}(g:n.handled=none)(a:N w h e I led s)(p:s.heap.get? A=some (oB c b u S E))(i:-(2^62)<=c)(m:b<2^62)(bi:b-c=v)(f:∀L k,d7 e [L]->N w h (e.push (cs (hp (w:=w) g L c 1 v) 0)) I led k->r (.ref L) k):aa w n (hX (.ref A)) r M s:=by
 refine⟨wpAny_pyIter_range (a:=c) (b:=b) (c:=1) p (small_one i (Lp m bi) (Lq i bi) m) ?_⟩;have q:xu c b 1=(v:Int):=by refine j (Gz ..) ?_;split<;>lia
 refine j q ?_;have o:=a.Cm (n:=n) g (c:=c) (l:=1) (v:=v) d d;exact f _ _ o.1 o.2
theorem Tp{v:Int}(h0:0<=v)(f:v<2^62):(ps 0&&ps v&&ps 1&&ps (-1)&&ps (0-1)&&ps (xu 0 v 1))=true:=by
 have a:xu 0 v 1=v:=by refine j (Gz ..) ?_;split<;>lia
 refine j a ?_;simp only[ps,eH,decide_eq_true_eq]
 lia
theorem Tq(A:x)(v:Int)(u S E:aF)(h0:0<=v)(bi:v<2^62):
 Meets (Builtin.«range.__reversed__» ⟨[.ref A],[]⟩) (λW av s=>s.heap.get? A=some (oB 0 v u S E)/\av (.ok (.ret (e4 s.heap.objs.size))) {s with heap:=s.heap.push {cls:=jt "range_iterator",data:=Data.fields #[eu (v-1),eu v,eu (-1)]},toks:=s.toks}):=by
 refine .of_wp λe f g av s a=>?_;have b:=Tp h0 bi;have c:xu 0 v 1=v:=by refine j (Gz ..) ?_;split<;>lia
 rw[c] at b;have d:0+(v-1)*1=v-1:=LV;obtain⟨h,i,k,l,os⟩:=s;refine bE a λm a=>?_;unfold Builtin.«range.__reversed__»
 wp_walk
 simp only[c,d,b,ra,fO,if_false,if_true]
 wp_walk
 exact(bF (_) (rfl) (a))
theorem Tr:h2 (.type "range_iterator") (.type "reversed")=pure false:=by rw[mv];kernel_rfl
theorem Ts{A:x}{E:aF}{lY:p->H->Prop}(b:s.heap.get? A=some (oB 0 v u S E))(bi:v<2^62)(f:lY (.ref s.heap.objs.size) {s with heap:=s.heap.push {cls:=.type "range_iterator",data:=.fields #[eu ((v:Int)-1),eu v,eu (-1)]}}):
 g1 (aZ w) n (.call (.builtin "reversed.__new__") ⟨[.type "reversed",.ref A],[]⟩) (wants lY M) s:=by
 have c:s.TypeIs (.ref A) "range":=(bF (_) (b) (rfl));refine q8 ?_;(refine(?_:aL _ n.in1 (do nL "reversed.__new__" ⟨[.type "reversed",.ref A],[]⟩;again (.builtin "reversed.__new__" ⟨[.type "reversed",.ref A],[]⟩)) _ _ s));refine ab (c3 (F.newCall_reversed_1 _) (aI ⟨kO aai _,kN F.entry_reversed_new<|j (lA aai _) ?_⟩));unfold Builtin.«reversed.__new__»;refine ab (c3 (newClass_reversed _) ?_);try dsimp only
 refine ab<|c3 (a:=()) (by first|rfl|kernel_rfl)<|ab (c3 (a:=()) (by first|rfl|kernel_rfl) ?_);try dsimp only
 refine ab (j4 c F.slot_range_reversed.lookup ?_);try dsimp only
 refine ab (c3 (F.slot_range_reversed.bind _) ?_);try dsimp only
 first
 |refine j (if_neg (show¬((mw "range.__reversed__"==fD)=true) from iY)) ?_
 |(show aL _ _ (if(mw "range.__reversed__"==fD)=true then _ else _) _ _ _;rw[if_neg (show¬((mw "range.__reversed__"==fD)=true) from iY)])
 refine ab<|kM<|ab (m:=runValue (.call (.builtin "range.__reversed__") ⟨[.ref A],[]⟩)) (show aL _ _ (call (.builtin "range.__reversed__") [.ref A]) _ _ _ from nO F.slot_range_reversed c F.entry_range_reversed (F.args_range_reversed_1 _) (Tq A v u S E fm (LW bi)) ⟨b,?_⟩);first
 |exact aI f
 |exact ab (aI (aI f))
theorem sq{A:x}{E:aF}(b:n.handled=none)(a:N w h e I led s)(p:s.heap.get? A=some (oB 0 v u S E))(bi:v<2^62)(f:∀L k,d7 e [L]->N w h (e.push (cs (hp (w:=w) b L ((v:Int)-1) (-1) v) 0)) I led k->r (.ref L) k):aa w n (call (.type "reversed") [.ref A]) r M s:=by
 refine⟨callType_other (U:="range_iterator") (Q₁:=λg i=>g=.ref s.heap.objs.size/\i={s with heap:=s.heap.push {cls:=.type "range_iterator",data:=.fields #[eu ((v:Int)-1),eu v,eu (-1)]}}) (by decide+kernel) F.create_reversed ⟨_,_,F.mro_reversed⟩ F.made_reversed Tr (F.typeCall_reversed_1 _) (Ts p bi ⟨rfl,rfl⟩) ?_⟩
 ·(intro g i m;(refine bE m λq t=>?_;clear m;refine j q ?_;refine j t ?_));have o:=a.Cm (n:=n) b (c:=(v:Int)-1) (l:=-1) (v:=v) d d;exact⟨(bF (_) (eX _ d) (rfl)),f _ _ o.1 o.2⟩
theorem m0{br:List x}{P:Nat->p->au->Prop}{cH:Nat->au->Prop}{W:eY w n L br ae v P cH}(a:N w h (e.push (cs W 0)) I led s)(f:r (.ref L) s):aa w n (hX (.ref L)) r M s:=⟨W.W.self 0 s _ _ a.bG.1 f⟩
theorem cR{J:V}(k:N w h e I led s)(a:e.l.bL)(b:e.D.kindOf i=some .cell)(d:some c=e.D.cells.lookup i)(o:s.heap.get? c=some J)(hd:J.data=.cell (some E))(f:r E s)(bi:autoParam ((i==("__debug__":al))=false) Zzd)(g:autoParam (D=e.D) b0):aa w n (bA (.Name i pos) D) r M s:=by refine j g<|⟨xk (wpAny_loadName_cell a.kind b d.symm (bF (J) (o) (hd)) f) bi⟩
theorem ic{J:V}(l:N w h e I led s)(a:e.l.bL)(b:e.D.kindOf i=some .free)(d:some c=e.D.cells.lookup i)(o:s.heap.get? c=some J)(hd:J.data=.cell (some E))(f:r E s)(bi:autoParam ((i==("__debug__":al))=false) Zzd)(g:autoParam ((i==("__classdict__":al))=false) Zzd)(k:autoParam (D=e.D) b0):aa w n (bA (.Name i pos) D) r M s:=by refine j k<|⟨xk (wpAny_loadName_free a.kind b d.symm (bF (J) (o) (hd)) f g) bi⟩
theorem iL{J:V}{aY:Option p}{r:Unit->H->Prop}(a:N w h e I led s)(d:e.l.bL)(m:Nat)(aW:some (c,J)=led[m]?)(hd:J.data=.cell aY)(g:e.D.kindOf i=some .cell)(l:some c=e.D.cells.lookup i)(f:∀b k,b.data=.cell (some E)->N w h e I (led.set m (c,b)) k->r () k)(o:autoParam (D=e.D) b0):aa w n (kK D i E) r M s:=by refine j o<|⟨wpAny_storeName_cell d.kind g l.symm (bF (J) (a.at m aW) (hd)) λx ⟨b,q,t⟩ v=>f b _ t (a.r0 (u:=s.toks) aW.symm v q)⟩
theorem Tt{C:al}{aJ:x}{g:az}{c:am}{b:am}(a:N w h e I led s)(q:e.l.bL)(m:Nat)(aW:some C=e.l.aX[m]?)(o:bK (ak w h) 3 C=some (some (.ref aJ)))(t:cX (ak w h) (.ref aJ)=true)(f:eM w n M D (c::args) (λar p=>aa w n (bA b D) (λE k=>(ak w h).In k.heap/\bk w n (.call (.ref aJ) ⟨ar,[(i,E)]⟩) (bW r) k) M p) s)(d:autoParam ((c::args).all fH=true) b0)(u:autoParam (D=e.D) b0):
 aa w n (bA (.Call (.Name C z) (c::args) [⟨some i,b,g⟩] pos) D) r M s:=by
 refine⟨wpAny_Call_Name_kw (aa.run (eA a q m aW o ?_ u))⟩;have v:iW (c::args) D=(false,bA c D)::iW args D:=sf (by simp only[xm,eH] at d;exact d.1);have l:(backToKw pos (keywordEach [⟨some i,b,g⟩] D))=[(some i,do let E<-bA b D;j2 pos;pure E)]:=rfl;refine tF (P:=(ak w h).In) (by refine j (iI d) (j l ?_);rfl) (keeps_K t) ?_;refine cA ?_;intro y;refine evalArgs_kw2 (e:=c) (rest:=args) (kws:=[⟨some i,b,g⟩]) (by refine j l ?_;rfl) ?_ v;refine qd d (f.mono λar p i=>?_);refine j l<|wpAny_evalAll_cons<|ab<|i.J λE k i=>ab<|lu<|aI<|wpAny_evalAll_nil<|⟨i.1,by simpa using k0 i.2⟩
structure GenR(w:aD)(s:H)(v:Nat)(F:Nat->p->Prop)(q S:Nat)(c:x)(k:H):Prop where
 eh:∃(br ae:List x) (ap:Array f2->Array f2->Prop) (dz:aQ->Nat->H->Prop),(∀n,aR n (q+3) (S+7)->j3 ff w n c br ae ap v F (dz n))/\(∀n,aR n (q+3) (S+7)->dz n 0 k)/\(∀n m s,dz n m s->∃g,s.heap.IsGen c g)/\(∀b∈br,b<k.heap.objs.size)/\c∈br/\
  (∀b∈ae,s.heap.get? b=none/\837<=b)/\sl s.gens.size ap
theorem i7.sr{S:Nat}{F:Nat->p->Prop}(f:i7 w h e led v F q S c k):GenR w e.aK v F q S c k:=by
 refine aV λx g=>kU f.eh λi j l m n o r s t a u=>?_;all_goals refine g ?_
 exact⟨i,j,l,m,n,o,r,s,t,λb d=>⟨(a b d).own.new,(a b d).own.ge⟩,u⟩
theorem N.eC(a:N w h e I led s){b:x}(l:s.heap.get? b=none)(j:837<=b):Apart e led b:=by
 have g:∀c,s.heap.get? b≠some c:=λc d=>cz (l.symm.trans d);have k:b∉e.af.ae:=λf=>let⟨c,d⟩:=e.af.live _ a.b4 _ f;g c d;refine⟨⟨?_,j,k⟩,λf=>?_,λi=>let⟨_,_,_,_,c,d⟩:=a.b9 _ i;g c d,λi=>let⟨f,m,d⟩:=List.mem_map.mp i;g f.2 (d▸(a.ld f m).1)⟩
 ·cases i:e.aK.heap.get? b with
  |none=>rfl
  |some c=>exact absurd (a.aS.heap _ c k (.inl (gI j)) i) (g c)
 ·refine f4 a.ch λc o p n W=>g c (f▸n)
theorem N.Tu(a:N w h e I led s):e.aK.gens.size<=s.gens.size:=by
 rcases gB s.gens.size e.aK.gens.size with b|b
 ·have:=a.aS.gens s.gens.size _ (q5 b);exact cz ((tH (c9 _)).symm.trans this)
 ·exact b
theorem GenR.vC{S:Nat}{F:Nat->p->Prop}(av:GenR w s v F q S c k)(a:N w h e I led s):i7 w h e led v F q S c k:=by
 refine aV λD m=>kU av.eh λn o r t u x y z A b d=>?_;all_goals refine m ?_
 exact⟨n,o,r,t,u,x,y,z,A,λf g=>a.eC (b f g).1 (b f g).2,λi j l=>⟨λB C=>(d i j l).1 B (cQ C a.Tu),(d i j l).2⟩⟩
theorem N.oC{i:eK}(a:N w h (e.push i) I led s){hd:eK}(g:∀f,hd.P f->∀b J,s.heap.get? b=some J->837<=b->b∉ae->f.get? b=some J)(cY:∀b∈ae,b∈i.br)(m:Nat){J:V}(f:led[m]?=some (c,J)):∀d:au,hd.P d->d.get? c=some J:=λd j=>g d j c J (a.at m f.symm) (a.ld _ (cx f)).2.2.ge λk=>(a.b9 c (cU _ (cY c k))).2.2.1 (fN (cx f))
theorem Co(i l:Nat):Gm (i:Int) ((2:Int)^l-1)=((i%2^l:Nat):Int):=by
 have a:(1:Nat)<=2^l:=Nat.one_le_two_pow;have b:((2:Int)^l-1)=((2^l-1:Nat):Int):=by refine j (FZ a) ?_;dsimp
 refine j b (j (bitAnd_pp fm LY) ?_);simp only[ft,mx]
theorem vD(i l:Nat):((i:Nat):Int).fdiv (2^l)=((i/2^l:Nat):Int):=by refine j (xv _ (F6 (Int.pow_pos .(1)))) ?_;dsimp
theorem intBits_le(f:v<2^64):Ω (v:Int)<=64:=intBits_le_64 Le (LZ f)
theorem N.hq(a:N w h e I led s){l:List (Option p)}(b:N w h e l led k){J:V}(f:k.heap.get? c=some J)(bi:s.heap.get? c=none)(o:837<=c):N w h e l ((c,J)::led) k:=by
 have d:=a.eC bi o;refine⟨b.Z,b.aS,b.b4,b.ch,b.cE,λq g=>?_,?_,b.bG,λm n=>?_⟩
 ·rcases List.mem_cons.mp g with rfl|g
  ·exact(bO (f) (d.fn) (d.own))
  ·exact b.ld q g
 ·refine j dC<|List.nodup_cons.mpr<|⟨d.led,b.dE⟩
 ·refine dM (b.b9 m n) λr t u v x=>?_;(exact(cV (r) (t) (by refine j dC (j (propext dD) ?_);exact λi=>i.elim (λ(i:m=c)=>d.hd (i▸n)) u) (v) (x)))
theorem d8{r:Unit->H->Prop}(a:N w h e I led s)(b:e.l.bL)(m:Nat)(aW:some i=e.l.names[m]?)(c:true=tM m I.length)(f:∀k,N w h e (I.set m (some E)) led k->r () k)(d:autoParam (D=e.D) b0):aa w n (kK D i E) r M s:=Sx a b m aW (Nat.blt_eq.mp c.symm) f d
theorem bx{r:Unit->H->Prop}(a:N w h e I led s)(b:e.l.bL)(m:Nat)(aW:some i=e.l.names[m]?)(c:true=tM m I.length)(f:∀k,let d:List (Option p):=I.set m (some E);N w h e d led k->r () k)(g:autoParam (D=e.D) b0):aa w n (kK D i E) r M s:=d8 a b m aW c f g
theorem gL{z:List (Option p)->List (Option p)}{J:Option p}{A:List (Option p)}{r:Unit->H->Prop}(a:N w h e (z (J::A)) led s)(c:e.l.bL)(m:Nat)(aW:some i=e.l.names[m]?)(d:z (some E::A)=(z (J::A)).set m (some E))(g:true=tM m (z (J::A)).length)(f:∀k,let P:List (Option p)->List (Option p):=λu=>z (some E::u);N w h e (P A) led k->r () k)(j:autoParam (D=e.D) b0):aa w n (kK D i E) r M s:=by refine d8 a c m aW g (λk b=>?_) j;rw[<-d] at b;exact f k b
theorem Tv:fs (y "bool")=some (.type "bool")/\(y "bool")≠"__name__":=by decide+kernel
theorem jN:fs (y "bytes")=some (.type "bytes")/\(y "bytes")≠"__name__":=by decide+kernel
theorem Tw:fs (y "int")=some (.type "int")/\(y "int")≠"__name__":=by decide+kernel
theorem lZ:fs (y "list")=some (.type "list")/\(y "list")≠"__name__":=by decide+kernel
theorem hQ:fs (y "range")=some (.type "range")/\(y "range")≠"__name__":=by decide+kernel
theorem ss:fs (y "reversed")=some (.type "reversed")/\(y "reversed")≠"__name__":=by decide+kernel
theorem vE:fs (y "set")=some (.type "set")/\(y "set")≠"__name__":=by decide+kernel
theorem m1:fs (y "tuple")=some (.type "tuple")/\(y "tuple")≠"__name__":=by decide+kernel
theorem Cp:fs (y "type")=some (.type "type")/\(y "type")≠"__name__":=by decide+kernel
theorem vF:fs (y "zip")=some (.type "zip")/\(y "zip")≠"__name__":=by decide+kernel
theorem k3:fs (y "ValueError")=some (.type "ValueError")/\(y "ValueError")≠"__name__":=by decide+kernel
theorem v_all:fs (y "all")=some (.builtin "all")/\(y "all")≠"__name__":=by decide+kernel
theorem v_any:fs (y "any")=some (.builtin "any")/\(y "any")≠"__name__":=by decide+kernel
theorem Tx:fs (y "isinstance")=some (.builtin "isinstance")/\(y "isinstance")≠"__name__":=by decide+kernel
theorem Cq:fs (y "issubclass")=some (.builtin "issubclass")/\(y "issubclass")≠"__name__":=by decide+kernel
theorem dx:fs (y "len")=some (.builtin "len")/\(y "len")≠"__name__":=by decide+kernel
theorem v_sum:fs (y "sum")=some (.builtin "sum")/\(y "sum")≠"__name__":=by decide+kernel
section
variable{w:aD}{h:x->a1}{e:aP}{I:List (Option p)}{led:List (x×V)}{s:H}{n:aQ}{M:p->H->Prop}{r:p->H->Prop}
theorem Cr(e:bb h)(L:aH w h s)(A:aR n 2 8){v b:Int}{u S:aF}(g:b≠0)(i:ψ (v+b-1) b=false)(f:∀u k,bP [] s k->aH w h k->r (.int ((v+b-1).fdiv b) u) k):
 bk w n (.call (.ref 41) ⟨[.int v u,.int b S],[]⟩) (bW r) s:=by
 refine cZ (q:=1) (S:=5) (Rs e) PH .none L trivial A ?_;intro j s l m o c a A;refine seq (doc ?_);replace a:=a.toks (gZ _);refine seq<|b2<|a2<|a2<|a2<|Y a c 0 d d<|Y a c 1 d d<|ow a λW s a=>cg a λW s a=>mV a λW s a=>Y a c 1 d d<|BL a g i λu s a=>f _ _ a.aS a.Z
theorem su(b:bb h)(L:aH w h s)(A:aR n 4 16){v:Int}{u:aF}(h0:0<=v)(i:v<2^40)(f:∀u k,bP [] s k->aH w h k->r (.int ((v+7)/8) u) k):
 bk w n (.call (.ref 48) ⟨[.int v u],[]⟩) (bW r) s:=by
 refine cZ (q:=3) (S:=12) (Rt b) PI .none L trivial (A.mono) ?_;intro l s m o p c a A;refine seq (doc ?_);replace a:=a.toks (gZ _);refine seq<|b2<|b3 a c 0 d Bk Ag<|Y a c 0 d d<|cg a λW s a=>⟨a.Z.l,Cr b a.Z A.mono .(1) (GA (by lia)) λu s e L=>?_⟩;replace a:=a.call e L;have g:(v+8-1).fdiv 8=(v+7)/8:=by refine j (xv _ .(1)) ?_;congr 1;exact L0
 refine j g<|f _ _ a.aS a.Z
end
noncomputable def de(E v di l:Nat):Nat:=E/2^((v-1-l)*di)%2^di
theorem Tz(P:bb h)(L:aH w h s)(A:aR n 4 20){E di:Nat}{eN qe:aF}(J:di<=20)(bi:v<=40)(args:js)(Q:∀doc,hE (mR.d5 doc) args=pure [(y "value",.int E u),(y "length",.int v eN),(y "radix_bits",.int di qe)])(f:∀c k,bP [] s k->aH w h k->GenR w s v (λl p=>∃u,p=.int (de E v di l) u) 0 0 c k->r (.ref c) k):
 bk w n (.call (.ref 62) args) (bW r) s:=by
 refine mZ (C:=mR) (q:=4) (S:=20) [y "value",y "radix_bits",y "mask"] .none L trivial A (BC P) (λP=>by kernel_rfl) Q .(0) .(1) .(0) d d ?_;intro e i s ah ai R o g t a;have T:=t 0 _ d;have K:=t 1 _ d;have z:=t 2 _ d;let o:List (x×V):=[(e+1,i 0),(e+2,i 1),(e+3,i 2)];replace a:N w h _ _ o s:=a;have B:aR (n.deeper (mR.D e (cl [y "value",y "radix_bits",y "mask"] (e+1) []))) 3 17:=aR.deeper A _;refine seq (doc ?_);replace a:=a.a3 (u:=s.toks+1);refine seq<|bN<|aE ?_;intro U;refine a2<|a2<|cg a λQ s a=>cR a g .(0) d (a.at 1 d) K<|vz a fm (zc J) .(1) λQ s a=>cg a λQ s a=>mV a λQ s a=>iL a g 2 d z .(0) d λW s z a=>?_;let o:List (x×V):=[(e+1,i 0),(e+2,i 1),(e+3,W)];replace a:N w h _ _ o s:=a;refine seq<|b2<|jK (aN:=[y "i"]) (aX:=[]) _ d B.hm (by decide+kernel)<|aE ?_;intro U;refine c6 a g 0 d sc ss<|c6 a g 1 d hN hQ<|Y a g 0 d d<|iK a λj W W W s a=>a.eL ?_;intro aj a;refine sq (n:=n.deeper _) B.bd a (a.at 0 d) (yS bi) λD s X a=>m0 a<|mX (aN:=[y "i"]) (aX:=[]) (λZ aa=>hp aa D _ _ v) B.bd a X d g (61,57) d .(1) _ d (by decide+kernel) (q:=0) (S:=0) (F:=λl p=>∃u,p=.int (de E v di l) u) ?_ ?_
 ·intro ak code M al Z l am an k ao ap m G aq ab O ac ad b;(refine eJ (hk ac) λar as H=>?_;obtain rfl:=H);(refine bo O λau H=>?_;clear O;obtain rfl:=H);have I:∀M∈[D],M∈[D]:=λW f=>f;refine dF (cp (bx b m 1 d d ?_));intro k R b;refine a2<|a2<|ic b m d d (a.oC G I 1 d _ b.bG) T<|a2<|Y b m 1 d d<|ic b m d d (a.oC G I 2 d _ b.bG) K<|so b (by have:di<2^64:=yT J;exact intBits_le this) λW k b=>?_;have ae:((v:Int)-1+(l:Int)*-1)*(di:Int)=(((v-1-l)*di:Nat):Int):=by rw[GB];congr 1;exact uh ab
  rw[ae];refine vy b fm λW k b=>ic b m d d (a.oC G I 3 d _ b.bG) z<|vx b λaf k b=>ad _ _ _ _ ⟨af,?_⟩ (by rfl) b;rw[ft,vD,ft,Int.one_mul,Co];rfl
 ·intro c k b ag;exact f c k b.aS b.Z ag.sr
noncomputable def cf:List p->List Nat->Prop
 |[],[]=>True
 |E::O,v::a=>(∃u,E=gF (v:Int) u)/\cf O a
 |_,_=>False
theorem cf.len:∀{O:List p} {ns:List Nat},cf O ns->O.length=ns.length
 |[],[],_=>rfl
 |_::_,_::_,a=>j ec (j ec (j (cf.len a.2) d))
theorem cf.at:∀{O:List p} {ns:List Nat},cf O ns->∀{m:Nat} {E:p},O[m]?=some E->∃v u,ns[m]?=some v/\E=gF ((v:Nat):Int) u
 |[],[],_,_,_,a=>by trivial
 |c::O,v::ns,b,0,E,a=>by simp only[j1,kH] at a;refine bo b.1 λu d=>(eU (v) (u) (rfl) (a▸d))
 |c::O,v::ns,b,m+1,E,a=>by have:=cf.at b.2 (m:=m) (by simpa using a);assumption
theorem cf.of{C:Nat->Nat}(a:O.length=v)(f:∀a0 E,O[a0]?=some E->∃u,E=gF ((C a0:Nat):Int) u):cf O ((bH v).map C):=by
 subst a;induction O generalizing C with
 |nil=>trivial
 |cons b e c=>refine j ec<|j xw<|j dC<|j nN<|xb (f 0 b d) (c (C:=C∘Nat.succ) λa0 E g=>f (a0+1) E (by assumption))
theorem vG(e:bb h)(L:aH w h s)(A:aR n 6 26){E:Nat}{eN:aF}(bi:v<=40)(f:∀G O R k,bP [] s k->aH w h k->k.heap.get? G=some (a4 O R)->s.heap.get? G=none->837<=G->cf O ((bH v).map (de E v 10))->r (.ref G) k):
 bk w n (.call (.ref 194) ⟨[.int E u,.int v eN],[]⟩) (bW r) s:=by
 refine cZ (q:=5) (S:=23) (RI e) Qa .none L trivial A.mono ?_;intro p g t x y b a A;refine seq (doc ?_);replace a:=a.a3 (u:=g.toks+1);refine seq<|b2<|c6 a b 0 d lS lZ<|Tt a b 1 d Bl Aj<|Y a b 0 d d<|Y a b 1 d d<|eA a b 2 d ve<|⟨a.Z.l,Tz e a.Z A.mono (E:=E) (v:=v) (di:=10) (u:=u) (eN:=eN) (qe:=194) .(1) bi _ (λW=>by kernel_rfl) λz k R i av=>?_⟩;have j:=av.vC a;replace a:=a.call R i;refine Cc a d j A.mono (ck (L1 bi)) λG O l k a m o=>?_;have c:=a.ld _ aG;exact f G O l k a.aS a.Z c.1 c.2.2.new c.2.2.ge (cf.of m o)
theorem vH(B:bb h)(L:aH w h s)(A:aR n 3 10){ns:List Nat}(t:s.heap.get? G=some (a4 O R))(v:837<=G)(x:cf O ns)(f:∀u k,bP [] s k true->aH w h k->r (.int (ns.foldl (λc i=>c*1024+i) 0:Nat) u) k):
 bk w n (.call (.ref 201) ⟨[.ref G],[]⟩) (bW r) s:=by
 refine cZ (q:=2) (S:=7) (RJ B) Qb (.none true) L trivial A.mono ?_;intro C b D T U e a A;have E:G≠C:=a.kY t;refine seq (doc ?_);replace a:=a.a3 (u:=b.toks+1);refine seq<|bN<|cg a λV b a=>d8 a e 1 d d λb a=>seq<|gJ<|Y a e 0 d d<|vr A.bd a (IsList.new (a.bc t bC v)) (dS (E) (bC) (bC) (v)) λX b W F a=>gK W F (λm H I=>∃u y,H=[some (.ref G),some (.int ((ns.take m).foldl (λc i=>c*1024+i) 0:Nat) u),y]/\I=[]) a (eU (_) (_) (rfl) (rfl)) ?_ ?_
 ·(intro m y W W b Z aa J g D K W a;(refine db g λu M l o=>?_;clear g;obtain rfl:=l;obtain rfl:=o));(refine db (x.at (by simpa using J)) λz N P l=>?_;obtain rfl:=l);refine dF<|cp<|d8 a e 2 d d λb a=>seq<|bN<|a2<|a2<|Y a e 1 d d<|eA a e 0 d QX<|so a .(1) λW b a=>Y a e 2 d d<|ow a λQ b a=>d8 a e 1 d d λb a=>bv (K _ _ _ (eU (Q) (some (.int z N)) (?_) (rfl)) a);have p:ns.take (m+1)=ns.take m++[z]:=by refine j hf (j P ?_);rfl
  refine j p (j jv ?_);dsimp
 ·(intro W W b g a;(refine db g λu M l o=>?_;clear g;obtain rfl:=l;obtain rfl:=o));refine bv<|seq<|b2<|Y a e 1 d d ?_;have p:(O.toArray.size)=ns.length:=by simp[x.len]
  refine j p<|j h3<|f _ _ a.aS a.Z
section
noncomputable abbrev aj(v:Nat)(u:aF):Value:=.int (v:Int) u
theorem Cs(c b:Nat):Gm (c:Int) (b:Int)=((c&&&b:Nat):Int):=by refine j (bitAnd_pp fm fm) ?_;rfl
theorem oD{z t:Nat}(a:z<2)(b:t<2):(z^^^t)+2*(z&&&t)=z+t:=(show∀z,z<2->∀t,t<2->(z^^^t)+2*(z&&&t)=z+t by decide) z a t b
theorem sv{X a i ai n B z t:Nat}(f:X+2*a=n+B)(l:i+2*ai=z+t):(2*X+i)+2*(2*a+ai)=(2*n+z)+(2*B+t):=by rw[GC 2 (2*a),aaj,l,<-GC,f,GC,aaj]
theorem Ct(c:Nat):∀(b:Nat),(c^^^b)+2*(c&&&b)=c+b:=by
 induction c using Nat.strongRecOn with
 |ind c e=>
  intro b;by_cases a:c=0
  ·rw[a,kP,Nat.zero_and];exact hW ..
  ·have f:c^^^b=2*((c/2)^^^(b/2))+((c%2)^^^(b%2)):=by rw[<-Nat.xor_div_two,<-show(c^^^b)%2=_ from aak (n:=1)];exact(mh ..).symm
   have g:c&&&b=2*((c/2)&&&(b/2))+((c%2)&&&(b%2)):=by rw[<-Nat.and_div_two,<-show(c&&&b)%2=_ from Nat.and_mod_two_pow (n:=1)];exact(mh ..).symm
   have d:(2*((c/2)^^^(b/2))+((c%2)^^^(b%2)))+2*(2*((c/2)&&&(b/2))+((c%2)&&&(b%2)))=(2*(c/2)+c%2)+(2*(b/2)+b%2):=sv (e (c/2) (Je a) (b/2)) (oD (eQ _ .(1)) (eQ _ .(1)));rw[<-f,<-g,mh,mh] at d;exact d
theorem Cu(c b:Nat):Gn (c:Int) (b:Int)=((c^^^b:Nat):Int):=by unfold Gn;refine j (bitOr_and ..) (j (Cs ..) ?_);have:=Ct c b;exact OV this
theorem a8{m:Int}(v:Nat)(a:N w h e I led s)(f:∀u k,N w h e I led k->r (aj v u) k)(bi:autoParam (m=(v:Int)) b0):aa w n (bA (.Constant (.int m) l pos) D) r M s:=by subst bi;exact cg a f
theorem dJ(v:Nat)(u:aF)(a:N w h e I led s)(b:e.l.bL)(m:Nat)(aW:some i=e.l.aX[m]?)(o:bK (ak w h) 3 i=some (some E))(f:r (aj v u) s)(c:autoParam (E=aj v u) b0)(d:autoParam (D=e.D) b0):aa w n (bA (.Name i pos) D) r M s:=by subst c;exact eA a b m aW o f d
variable{c b:Nat}{u S:aF}
theorem eZ(a:N w h e I led s)(f:∀u k,N w h e I led k->r (aj (c+b) u) k):aa w n (fg .Add (aj c u) (aj b S)) r M s:=ow a λu k d=>by refine be (ty ..) ?_;exact f u k d
theorem jO(a:N w h e I led s)(d:b<=c)(f:∀u k,N w h e I led k->r (aj (c-b) u) k):aa w n (fg .Sub (aj c u) (aj b S)) r M s:=mV a λu k g=>by refine be (FZ d) ?_;exact f u k g
theorem hr(a:N w h e I led s)(d:b<2^64)(f:∀u k,N w h e I led k->r (aj (c*b) u) k):aa w n (fg .Mult (aj c u) (aj b S)) r M s:=so a (intBits_le d) λu k g=>by refine be (GB ..) ?_;exact f u k g
theorem fI(a:N w h e I led s)(d:0<b)(f:∀u k,N w h e I led k->r (aj (c%b) u) k):aa w n (fg .Mod (aj c u) (aj b S)) r M s:=se a (uJ d) λu k g=>by refine j (GD _ fm) (be (Int.natCast_emod ..) ?_);exact f u k g
theorem iM(a:N w h e I led s)(d:0<b)(i:b<1073741824)(f:∀u k,N w h e I led k->r (aj (c/b) u) k):aa w n (fg .FloorDiv (aj c u) (aj b S)) r M s:=BL a (uJ d) (GA (by lia)) λu k g=>by refine j (xv _ fm) (be (Int.natCast_ediv ..) ?_);exact f u k g
theorem l0(a:N w h e I led s)(f:∀u k,N w h e I led k->r (aj (c&&&b) u) k):aa w n (fg .BitAnd (aj c u) (aj b S)) r M s:=vx a λu k d=>by refine j (Cs ..) ?_;exact f u k d
theorem m2(a:N w h e I led s)(f:∀u k,N w h e I led k->r (aj (c^^^b) u) k):aa w n (fg .BitXor (aj c u) (aj b S)) r M s:=SL a λu k d=>by refine j (Cu ..) ?_;exact f u k d
theorem m3(a:N w h e I led s)(f:∀u k,N w h e I led k->r (aj (c/2^b) u) k):aa w n (fg .RShift (aj c u) (aj b S)) r M s:=vy a fm λu k d=>by refine j (ft ..) (j (vD ..) ?_);exact f u k d
theorem m4(a:N w h e I led s)(d:b<=1000000)(l:c<2^64)(f:∀u k,N w h e I led k->r (aj (c*2^b) u) k):aa w n (fg .LShift (aj c u) (aj b S)) r M s:=vz a fm (uK d) (by assumption) λu k g=>by
 refine j (ft ..) ?_;have i:(c:Int)*2^b=((c*2^b:Nat):Int):=by dsimp
 refine j i ?_;exact f u k g
theorem oE(a:N w h e I led s)(f:∀u k,N w h e I led k->r (aj (c+b) u) k):aa w n (xi .Add (aj c u) (aj b S)) r M s:=⟨P.iadd_int (by refine be (ty ..) ?_;exact f _ _ a.a3)⟩
theorem Cv(a:N w h e I led s)(f:∀u k,N w h e I led k->r (aj (c^^^b) u) k):aa w n (xi .BitXor (aj c u) (aj b S)) r M s:=⟨ixor_int (by refine j (Cu ..) ?_;exact f _ _ a.a3)⟩
theorem sw(a:N w h e I led s)(d:b<=1000000)(i:c<2^64)(f:∀u k,N w h e I led k->r (aj (c*2^b) u) k):aa w n (xi .LShift (aj c u) (aj b S)) r M s:=⟨ilshift_int_small fm (uK d) (by assumption) (by
 refine j (ft ..) ?_;have g:(c:Int)*2^b=((c*2^b:Nat):Int):=by dsimp
 refine j g ?_;exact f _ _ a.a3)⟩
theorem vI{c:Nat}{u:aF}{r:Bool->H->Prop}(f:r (c !=0) s):aa w n (ms (aj c u)) r M s:=SP (by
 have a:((c:Int) !=0)=(c !=0):=by cases f:(c !=0)<;>simp_all
 refine j a ?_;exact f)
end
noncomputable abbrev l1(O:List p):Obj:=⟨.type "tuple",none,.seq O.toArray,#[]⟩
theorem N.jb(a:N w h e I led s)(O:List p):N w h e I ((s.heap.objs.size,l1 O)::led) {s with heap:=s.heap.push (l1 O)}:=a.alloc d
noncomputable def vJ:List Nat:=[14737472,29474944,58949888,117899776,235798537,470557714,940076068,814808136,565311632,66318624]
noncomputable def gM(b:Nat)(e m:Nat):Nat:=e^^^(if(b/2^m&&&1) !=0 then vJ.getD m 0 else 0)
noncomputable def d9(a E:Nat):Nat:=(bH 10).foldl (gM (a/2^20)) (((a&&&1048575)*2^10)^^^E)
noncomputable def jc(ar:List Nat):Nat:=ar.foldl d9 1
theorem TA:∀m,m<10->vJ.getD m 0<2^30:=by decide
theorem TB{e:Nat}(a:e<2^30)(aW:m<10):gM b e m<2^30:=by
 unfold gM;refine tN a ?_;split
 ·exact TA m aW
 ·decide
theorem Cw:∀(l e:Nat),l<=10->e<2^30->(bH l).foldl (gM b) e<2^30
 |0,e,_,a=>a
 |l+1,e,c,a=>by refine j h1<|j jv<|TB (Cw l e (L2 c) a) (L3 c)
theorem TC{e E:Nat}(a:E<2^30):d9 e E<2^30:=by refine Cw 10 _ .(1) (tN ?_ a);have:e&&&1048575<=1048575:=my;exact Jo this
theorem Cx{ar:List Nat}(f:∀E∈ar,E<2^30):jc ar<2^30:=by
 have:∀(ar:List Nat) (a:Nat),a<2^30->(∀E∈ar,E<2^30)->ar.foldl d9 a<2^30:=by
  intro ar;induction ar with
  |nil=>intro a f W;exact f
  |cons E e b=>intro a W f;exact b _ (TC (f E aG)) λc d=>f c (.tail _ d)
 exact this ar 1 .(1) f
theorem Cy(ai:bb h)(L:aH w h s)(A:aR n 3 10){ns:List Nat}(F:s.heap.get? G=some (a4 O R))(T:837<=G)(U:cf O ns)(X:∀v∈ns,v<2^30)(f:∀u k,bP [] s k true->aH w h k->r (aj (jc ns) u) k):bk w n (.call (.ref 104) ⟨[.ref G],[]⟩) (bW r) s:=by
 refine cZ (q:=2) (S:=7) (Rz ai) PR (.none true) L trivial A.mono ?_;intro ak b Z aS m c a A;have al:G≠ak:=a.kY F;refine seq<|bN<|aE ?_;intro z;refine ja<|a8 14737472 a λaa b a=>a8 29474944 a λam b a=>a8 58949888 a λI b a=>a8 117899776 a λB b a=>a8 235798537 a λan b a=>a8 470557714 a λao b a=>a8 940076068 a λap b a=>a8 814808136 a λaq b a=>a8 565311632 a λar b a=>a8 66318624 a λas b a=>⟨ey d,?_⟩;have o:∃i,i=[aj 14737472 aa,aj 29474944 am,aj 58949888 I,aj 117899776 B,aj 235798537 an,aj 470557714 ao,aj 940076068 ap,aj 814808136 aq,aj 565311632 ar,aj 66318624 as]:=⟨_,rfl⟩;obtain⟨i,o⟩:=o;refine be o ?_;have au:∀C,C<10->∃u,i[C]?=some (aj (vJ.getD C 0) u):=by
  intro C av;refine j o ?_
  match C,av with
  |0,_=>exact⟨_,rfl⟩
  |1,_=>exact⟨_,rfl⟩
  |2,_=>exact⟨_,rfl⟩
  |3,_=>exact⟨_,rfl⟩
  |4,_=>exact⟨_,rfl⟩
  |5,_=>exact⟨_,rfl⟩
  |6,_=>exact⟨_,rfl⟩
  |7,_=>exact⟨_,rfl⟩
  |8,_=>exact⟨_,rfl⟩
  |9,_=>exact⟨_,rfl⟩
 have aw:i.length=10:=by subst o;rfl
 clear o;replace a:=a.jb i;generalize b.heap.objs.size=p at a;refine bx a c 1 d d ?_;intro b m a;refine seq<|bN<|a8 1 a λaa b a=>bx a c 2 d d ?_;intro b m a;refine seq<|gJ<|Y a c 0 d d ?_;have ax:G∉([(p,l1 i)]:List (x×V)).map (·.1):=by intro ay;have:=(a.ld _ aG).2.2.new;rw[List.mem_singleton.mp ay] at F;exact cz ((show s.heap.get? p=none from this).symm.trans F)
 refine vr A.bd a (IsList.new (a.bc F bC T)) (dS (al) (bC) (ax) (T)) λaT b W az a=>gK W az (λl J K=>∃u aA aB M,J=[some (.ref G),some (.ref p),some (aj ((ns.take l).foldl d9 1) u),aA,aB,M]/\K=[(p,l1 i)]) a (jA (_) (_) (_) (_) (rfl) (rfl)) ?_ ?_
 ·intro l N W W b aC aU aD H Z t W a;refine aE ?_;intro z;refine aV λab D=>?_;(refine h6 H λu aF e P e E=>?_;clear H;obtain rfl:=e;obtain rfl:=E);refine D ?_;(refine db (U.at (by simpa using aD)) λv I ac e=>?_;obtain rfl:=e);have aW:=X v (cx ac);refine dF (cp (d8 a c 3 d d λb a=>?_));have aI:(ns.take l).foldl d9 1<2^30:=Cx λN aJ=>X N (mz aJ);have y:(ns.take (l+1)).foldl d9 1=d9 ((ns.take l).foldl d9 1) v:=by
   have y:ns.take (l+1)=ns.take l++[v]:=by refine j hf (j ac ?_);rfl
   refine j y (j jv ?_);rfl
  rw[y] at t;clear y;generalize(ns.take l).foldl d9 1=g at a aI t;refine seq<|bN<|aE ?_;intro z;refine a2<|Y a c 2 d d<|a8 20 a λW b a=>a.jE ?_;intro ad a;refine m3 a λW b a=>d8 a c 4 d d λb a=>a.jE ?_;intro ad a;refine seq<|bN<|aE ?_;intro z;refine a2<|a2<|a2<|Y a c 2 d d<|a8 1048575 a λW b a=>l0 a λW b a=>a8 10 a λW b a=>m4 a .(1) (cF my .(1)) λW b a=>Y a c 3 d d<|m2 a λaX b a=>d8 a c 2 d d λb a=>a.jE ?_;intro ad a;refine seq<|gJ<|aE ?_;intro z;refine c6 a c 0 d hN hQ<|a8 10 a λW b a=>iK a λj W W W b a=>jM (v:=10) A.bd a (a.at 0 d) .(1) .(1) d λaK b aL a=>?_;replace a:=a.cd (cJ _ _);refine gK (hp A.bd aK 0 1 10) aL (λa0 J K=>∃u M,J=[some (.ref G),some (.ref p),some (aj ((bH a0).foldl (gM (g/2^20)) (((g&&&1048575)*2^10)^^^v)) u),some (aj v I),some (aj (g/2^20) _),M]/\K=[(p,l1 i)]) a (eU (_) (_) (rfl) (rfl)) ?_ ?_
  ·intro a0 N W W b aC Q ae H Z t W a;refine aV λab D=>?_;(refine bo ae λaf e=>?_;clear ae;obtain rfl:=e);refine db H λu P e E=>a.ef e E ?_;intro m aM a;refine D ?_;have aN:(0:Int)+(a0:Int)*1=(a0:Int):=pU;rw[aN];refine dF (cp (bx a c 5 d d ?_));intro b m a;refine seq<|jG<|jH a c 2 d d<|ite<|gq<|a2<|a2<|Y a c 4 d d<|Y a c 5 d d<|m3 a λW b a=>a8 1 a λW b a=>l0 a λW b a=>vI ?_;have ag:∀R,R=gM (g/2^20) ((bH a0).foldl (gM (g/2^20)) (((g&&&1048575)*2^10)^^^v)) a0->R=(bH (a0+1)).foldl (gM (g/2^20)) (((g&&&1048575)*2^10)^^^v):=λR aO=>by rw[h1,jv];exact aO
   cases ah:((g/2^20/2^a0&&&1) !=0) with
   |true=>refine d2<|dr<|Y a c 1 d d<|Y a c 5 d d<|bo (au a0 Q) λaY aP=>?_;(refine B6 (a0:=a0) (du (_) (a.at 0 d) (rfl) ⟨_,rfl⟩) zd (L5 Q) (by rw[aw,GF fm (L6 Q)];dsimp) aP ?_);refine Cv a λB b a=>?_;refine bx a c 2 d d ?_;intro b m a;refine bv (t _ _ _ (eU (B) (some (.int a0 af)) (?_) (rfl)) a);refine be (ag _ d) ?_;unfold gM;rw[if_pos ah];rfl
   |false=>refine dw<|a8 0 a λW b a=>Cv a λB b a=>?_;refine bx a c 2 d d ?_;intro b m a;refine bv (t _ _ _ (eU (B) (some (.int a0 af)) (?_) (rfl)) a);refine be (ag _ d) ?_;unfold gM;rw[ah];rfl
  ·rintro W W b ⟨u,P,rfl,rfl⟩ a;refine bv<|bv (t _ _ _ (jA (u) (_) (_) (_) (rfl) (rfl)) a)
 ·intro W W b aQ a;refine aE ?_;intro z;refine aV λab D=>h6 aQ λu aF e P e E=>a.ef e E ?_;intro m aM a;refine D<|bv<|seq<|b2<|Y a c 2 d d ?_;have y:(O.toArray.size)=ns.length:=by simp[U.len]
  refine j y<|j h3<|f _ _ a.aS a.Z
theorem TE:typeLookup (.type "bytes") "__len__"=pure (some (.builtin "bytes.__len__")):=by rw[tJ,tK];kernel_rfl
abbrev CC(b:Array UInt8):Nat->p->Prop:=λm E=>∃e S,b[m]?=some e/\E=.int (e.toNat:Int) S
theorem TF{av:gh->H->Prop}(m:n.handled=none)(i:Array UInt8)(u:aF)(a:x)(h:p)(q:Nat)(l:s.heap.get? a=some {cls:=.type "list",data:=.seq #[] q})(r:∀ag a3 e c,(∀b J,b≠a->s.heap.get? b=some J->ag.get? b=some J)->ag.get? a=some {cls:=.type "list",dict:=none,data:=.seq e c,slots:=#[]}->
  ItemsOf (CC i) e i.size->av (.ok (.ret h)) {s with heap:=ag,toks:=a3})(bi:i.size<=eI):
 aL (aZ w) n.in1 (xx (.ref a) (.bytes i u) h)
  (λbv k=>match bv with|.done C=>av (.ok C) k|.again c=>c.quiet=true/\g1 (aZ w) n c av k) (λo k=>av (.error o) k) s:=by
 have t:a≠s.heap.objs.size:=g0 (cr l);have y:a∉[s.heap.objs.size]:=λf=>t (List.mem_singleton.mp f);unfold xx;refine ab (wpAny_typeOf (T:="bytes") (v:=.bytes i u) d ?_);have z:Builtin.List.listSameRef (.ref a) (.bytes i u)=false:=rfl;have B:(jt "bytes"==jt "list")=false:=by decide
 have D:(jt "bytes"==jt "tuple")=false:=by decide
 simp only[z,B,D,Bool.or_false,fO,if_false];refine ab<|xy<|ab (dH ?_);unfold Builtin.List.listLengthHint;refine ab (j4 (T:="bytes") (v:=.bytes i u) d TE ?_)
 wp_delta
 refine ab<|xz (T:="bytes") (v:=.bytes i u) (b:=true) d (by rw[mv];kernel_rfl)<|(?_:aL _ _ (hH (tO i u)>>=_) _ _ _);refine ab<|wpAny_typeOf (T:="bytes") (v:=.bytes i u) d<|aI<|j (if_neg .(1))<|aI ⟨kO F.plain_extend_loop _,codeAny_extend_loopS (KBw.walks (A:=n.in1) m s.heap.objs.size i u).toS bi _ y _ i.size 0 _ _ _ d (e2 _) (du (_) (eX _ d) (rfl) (rfl)) (cM _ l) (ItemsOf.nil _) λk e c f E G=>?_⟩;refine j (Moved.eq_with f)<|r k.heap k.toks e c (λb I K o=>f.heap b I (λg=>?_) (cM _ o)) E G;rcases List.mem_cons.mp g with L|g
 ·exact K L
 ·exact absurd (cr o) (by refine j (List.mem_singleton.mp g) ?_;exact dn _)
theorem TG{av:gh->H->Prop}(h:n.handled=none)(i:Array UInt8)(u:aF)(a:x)(g:s.heap.get? a=some {cls:=.type "list",data:=.seq #[]})(j:∀ag a3 e c,(∀b J,b≠a->s.heap.get? b=some J->ag.get? b=some J)->ag.get? a=some {cls:=.type "list",dict:=none,data:=.seq e c,slots:=#[]}->
  ItemsOf (CC i) e i.size->av (.ok (.ret .none)) {s with heap:=ag,toks:=a3})(bi:i.size<=eI):
 aL (aZ w) n.in1 (Builtin.«list.__init__» ⟨[.ref a,.bytes i u],[]⟩)
  (λbv k=>match bv with|.done C=>av (.ok C) k|.again c=>c.quiet=true/\g1 (aZ w) n c av k) (λo k=>av (.error o) k) s:=by
 (refine(?_:aL _ _ (do let l<-GG (.ref a);Builtin.List.listUpdate (.ref a) (λW=>#[]);letGo l.toList.reverse;xx (.ref a) (.bytes i u) .none) _ _ s));refine ab ?_;unfold GG;refine ab<|mA g d<|aI<|(?_:aL _ _ (updateSeq a (λW=>#[])>>=λW=>letGo (#[]:Array p).toList.reverse>>=λW=>xx (.ref a) (.bytes i u) .none) _ _ s);refine ab (wpAny_updateSeq g d ?_);have m:=nI (nP (λW=>(#[]:Array p))) g d;have q:∀b J,b≠a->s.heap.get? b=some J->(s.heap.update a (nP (λW=>(#[]:Array p)))).get? b=some J:=λb J f o=>(pm _ _ (fk f)).trans o;refine ab<|pp<|TF (bi:=bi) h i u a .none _ m λag a3 e c r t v=>j ag a3 e c (λb J f o=>r b J f (q b J f o)) t v
theorem N.CD(a:N w h e I led s){a3:Nat}(f:∀b J,s.heap.get? b=some J->ag.get? b=some J){J:V}(g:ag.get? s.heap.objs.size=some J):N w h e I ((s.heap.objs.size,J)::led) {s with heap:=ag,toks:=a3}:=by have i:N w h e I led {s with heap:=ag,toks:=a3}:=a.step (F:=[]) (k:={s with heap:=ag,toks:=a3}) ⟨λb J W j=>f b J j,rfl,rfl,rfl⟩ (λW c=>nomatch c) (λc=>nomatch c) d (λl m=>f _ _ (a.ld l m).1) λW W c=>nomatch c;exact a.p8 i g (c9 _) a.hP.hd
theorem CF{i:Array UInt8}(a:N w h e I led s)(y:n.handled=none)(bi:i.size<=eI)(f:∀G O R k,N w h e I ((G,a4 O R)::led) k->cf O (i.toList.map j5)->r (.ref G) k):aa w n (call (.type "list") [.bytes i u]) r M s:=by
 refine⟨xt (Q₁:=λm o=>m=.ref s.heap.objs.size/\o={s with heap:=s.heap.push {cls:=.type "list",data:=.seq #[]}}) F.called_list (F.typeCall_list_1 _) F.entry_list_init
  (code_list_new _ ⟨rfl,rfl⟩) λm o p=>?_⟩
 (refine bE p λg z=>?_;clear p;refine j g ?_;refine j z ?_);have q:(s.heap.push {cls:=.type "list",data:=.seq #[]}).get? s.heap.objs.size=some {cls:=.type "list",data:=.seq #[]}:=eX _ d;refine(bO ((bF (_) (q) (rfl))) (F.args_list_init_2 _ _)<|TG (n:=n.in1) (bi:=bi) y i u _ q λT U l A B t C=>⟨rfl,?_⟩);have b:l=l.toList.toArray:=by dsimp
 rw[b] at t;have v:=Cb C;refine f _ l.toList A _ (a.CD (λD E b=>B D E (g0 (cr b)) (cM _ b)) t) ?_;have H:i.toList.map j5=(bH i.size).map λc=>(i.toList.map j5).getD c 0:=by
  refine pi λJ=>?_;by_cases x:J<i.size
  ·simp[x]
  ·simp[x]
 refine j H<|cf.of v.1 λc K L=>?_;(refine db (v.2 c K L) λP Q S g=>?_;refine j g ?_);refine⟨Q,?_⟩;have:(i.toList.map j5).getD c 0=P.toNat:=by refine j dY (j dR (j tB (j S ?_)));rfl
 exact j this d
theorem vK(a:N w h e I led s)(b:s.heap.get? c=some (a4 O R))(bi:O.length<=eI)(f:∀G R k,N w h e I ((G,a4 O R)::led) k->r (.ref G) k):aa w n (call (.type "list") [.ref c]) r M s:=⟨call_list_seq c (T:="list") (.inl d) b d d (λl g i j=>f _ g _ (a.CD (a3:=s.toks) i j)) (by assumption)⟩
theorem TH{i:Int}(a:s.heap.get? G=some {cls:=.type "list",dict:=none,data:=.seq aM l,slots:=#[]})(c:-(2^63:Int)<=i)(d:i<2^63)(b:aM.size*i.toNat<=2^24)(f:r (.ref s.heap.objs.size) {s with heap:=s.heap.push {cls:=.type "list",data:=.seq (xA (λfQ e=>fQ++e) #[] (he (if aM.isEmpty=true then 0 else i.toNat) aM))}}):
 aL (aZ w) n (fg .Mult (.ref G) (.int i S)) r M s:=
 wpAny_binaryOp_repeat_ref (T:="list") (U:="int") .(1) ⟨_,a,rfl⟩ (λg=>tP g i S) noFill_list_mul F.fills_int_mul F.slot_int_rmul repeat_list F.slot_int_index.lookup
  (nO F.slot_int_rmul (tP s i S) F.entry_int_rmul (F.args_int_rmul_2 _ _) (int___rmul___int_list i S G aM l)
   ⟨a,rfl,⟨_,a,rfl⟩,nO F.slot_list_mul ⟨_,a,rfl⟩ F.entry_list_mul (F.args_list_mul_2 _ _)
    (AutoListH.list___mul___list_int_3 G aM l i S (by simp[Builtin.List.listFitsIndex];exact I4 c d) (L7 b) (by simp[Builtin.List.listTooLong,eI];exact Jr b))
    ⟨a,f⟩⟩)
theorem CG(a:N w h e I led s)(m:s.heap.get? c=some (a4 O R))(bi:v<2^20)(o:O.length<=16)(q:O≠[])(f:∀G k,N w h e I ((G,a4 (he v O).flatten)::led) k->r (.ref G) k):aa w n (fg .Mult (.ref c) (aj v S)) r M s:=by
 have y:O.length*v<=2^24:=by refine bZ (Nat.mul_le_mul o (hD bi)) ?_;decide+kernel
 refine⟨TH m zd (L8 bi) (by assumption) ?_⟩;have t:(xA (λi l=>i++l) #[] (he (if O.toArray.isEmpty=true then 0 else(v:Int).toNat) O.toArray))=((he v O).flatten).toArray:=by
  have:O.toArray.isEmpty=false:=by
   cases O with
   |nil=>exact absurd d q
   |cons _ _=>rfl
  refine j this ?_;simp only[fO,if_false,ft];have u:∀(b:Nat) (g:Array p),xA (λi l=>i++l) g (he b O.toArray)=g++((he b O).flatten).toArray:=by
   intro b;induction b with
   |zero=>intro g;rfl
   |succ b x=>intro g;rw[aal,fP,x,aal,GH];simp
  refine j (u ..) ?_;exact Array.empty_append
 refine j t<|f _ _ (a.e8 _)
noncomputable def TI(e:aP)(I:List (Option p))(led:List (x×V)):eK:=
 ⟨e.D.locals::led.map (·.1),λa=>a.Ns e.D.locals (ez e.l.names I)/\∀z∈led,a.get? z.1=some z.2,λa ag l z=>
  ⟨let⟨b,d,f,g,A⟩:=z.1;⟨b,d,f,l _ aG b g,A⟩,λt c=>l _ (e3 _ (fN c)) _ (z.2 t c)⟩⟩
noncomputable abbrev dy(scope:bj)(ba:List (al×x))(U:x)(D:ao)(aN aX:List al):f5:=⟨f3 scope ba U D,aN,aX⟩
noncomputable abbrev dO(e:aP)(I:List (Option p))(led:List (x×V))(l:f5):aP:=⟨l,e.aK,e.af,(TI e I led).and e.hd⟩
theorem N.TJ(a:N w h e I led s)(l:f5)(v:List (Option p))(x:l.D.locals=s.heap.objs.size){a3:Nat}(bi:ag.Ns l.D.locals (ez l.names v))(i:∀b J,s.heap.get? b=some J->ag.get? b=some J):
 N w h (dO e I led l) v [] {s with heap:=ag,toks:=a3}:=by
 have g:N w h e I led {s with heap:=ag,toks:=a3}:=a.step (F:=[]) (k:={s with heap:=ag,toks:=a3}) ⟨λb J W r=>i b J r,rfl,rfl,rfl⟩ (λW c=>nomatch c) (λc=>nomatch c) d (λm n=>i _ _ (a.ld m n).1) λW W c=>nomatch c;have t:=a.hP;refine⟨g.Z,g.aS,g.b4,bi,?_,λW c=>(nomatch c),qZ,⟨⟨g.ch,λm n=>(g.ld m n).1⟩,g.bG⟩,λb f=>?_⟩
 ·refine(?_:h9 _ l.D.locals);refine j x ?_;exact⟨t.own.new,t.own.ge,t.own.dc⟩
 ·have u:∀b,(∃J,s.heap.get? b=some J)->b≠(dO e I led l).D.locals:=λb ⟨J,r⟩ y=>by rw[show(dO e I led l).D.locals=s.heap.objs.size from x] at y;exact dn _ (y▸cr r)
  rcases List.mem_append.mp f with f|f
  ·rcases List.mem_cons.mp f with rfl|f
   ·refine f4 a.ch λJ E G z H=>(cV (u _ ⟨J,z⟩) (a.cE.dc) (bC) (a.cE.ge) ⟨J,i _ _ z⟩)
   ·(refine bp (List.mem_map.mp f) λm n o=>?_;obtain rfl:=o);have q:=a.ld m n;exact(cV (u _ ⟨_,q.1⟩) (q.2.2.dc) (bC) (q.2.2.ge) ⟨_,i _ _ q.1⟩)
  ·refine aV λK B=>?_;(refine dM (a.b9 b f) λL C M D o=>?_;(refine bo o λJ A=>?_;clear o));all_goals refine B ?_
   exact(cV (u _ ⟨J,A⟩) (C) (bC) (D) ⟨J,i _ _ A⟩)
theorem N.TK{l:f5}{i:List (Option p)}{more:List (x×V)}(k:(led.map (·.1)).Nodup)(m:h9 e e.D.locals)(n:∀z∈led,z.1≠e.D.locals/\h9 e z.1)(o:∀b∈e.hd.br,b≠e.D.locals/\b∉led.map (·.1))(a:N w h (dO e I led l) i more s):N w h e I (more++led) s:=by
 have q:=a.b9 e.D.locals (cU _ aG);refine⟨a.Z,a.aS,a.b4,a.bG.1.1,m,λz c=>?_,?_,a.bG.2,λb g=>?_⟩
 ·rcases List.mem_append.mp c with c|c
  ·have d:=a.ld z c;exact(bO (d.1) (λf=>q.2.2.1 (f▸fN c)) ⟨d.2.2.new,d.2.2.ge,d.2.2.dc⟩)
  ·exact⟨a.bG.1.2 z c,n z c⟩
 ·refine j g3<|List.nodup_append.mpr<|(bO (a.dE) (k) (λr t b g f=>?_));subst f;exact(a.b9 r (cU _ (e3 _ g))).2.2.1 t
 ·refine dM (a.b9 b (dt _ g)) λB u v y A=>?_;have d:=o b g;refine(cV (d.1) (u) (?_) (y) (A));refine j g3<|j (propext lD)<|λf=>f.elim v d.2
noncomputable def iN(scope:bj)(aN aX:List al):Bool:=scope.kind==.function&&scope.names.all (λi=>i.2 !=.cell)&&aN.all (λi=>scope.names.lookup i==some .local)&&decide aN.Nodup&&aX.all (λi=>scope.names.lookup i==some .globalImplicit)&&aN.all (λi=>!(i==("__debug__":al)))&&aX.all (λi=>!(i==("__debug__":al)))&&scope.names.all (λi=>i.2 !=.local ||scope.names.lookup i.1==some .local)
noncomputable def sy(D:ao)(z:al×pq):al×NameKind:=if(z.2==aam&&D.scope.kind==.function&&D.kindOf z.1==some .cell) then(z.1,xB) else z
theorem TL(D:ao)(z:al×pq):(sy D z).1=z.1:=by unfold sy;split<;>rfl
theorem TM{D:ao}{names:List (al×pq)}:∀{i:al},names.lookup i=some .globalImplicit->
 (names.map λ(v,l)=>if(l==aam&&D.scope.kind==.function&&D.kindOf v==some .cell) then(v,xB) else(v,l)).lookup i=some .globalImplicit:=by
 intro i;show _->(names.map (sy D)).lookup i=_;induction names with
 |nil=>exact id
 |cons c k f=>
  obtain⟨v,l⟩:=c;intro a;refine j dC ?_;have b:=TL D (v,l);generalize g:sy D (v,l)=h at b;obtain⟨d,m⟩:=h;replace b:d=v:=b;subst b;rw[f0] at a⊢;cases e:i==d with
  |true=>rw[e] at a;obtain rfl:=dg a;exact congrArg (λc:al×pq=>some c.2) g.symm
  |false=>rw[e] at a;exact f a
theorem N.m5(a:N w h e I led s){J:V}(f:s.heap.get? c=some J)(i:Apart e led c):N w h e I ((c,J)::led) s:=by
 refine⟨a.Z,a.aS,a.b4,a.ch,a.cE,λl b=>?_,?_,a.bG,λg k=>?_⟩
 ·rcases List.mem_cons.mp b with rfl|b
  ·exact(bO (f) (i.fn) (i.own))
  ·exact a.ld l b
 ·refine j dC<|List.nodup_cons.mpr<|⟨i.led,a.dE⟩
 ·refine dM (a.b9 g k) λm n o p q=>?_;(exact(cV (m) (n) (by refine j dC (j (propext dD) ?_);exact λd=>d.elim (λ(d:g=c)=>i.hd (d▸k)) o) (p) (q)))
theorem oF{i:p}(a:N w h e I led s)(m:Nat)(aW:led[m]?=some (c,a4 O R))(g:O.length<eI)(f:∀k,N w h e I (led.set m (c,a4 (O++[i]) (R+1))) k->r .none k):aa w n (call (.builtin "list.append") [.ref c,i]) r M s:=by
 have b:IsL s.heap c O.toArray R:=a.at m aW.symm;have j:(s.heap.update c (nP λd=>d.push i)).get? c=some (a4 (O++[i]) (R+1)):=by
  have:=xC b (λd=>d.push i);have l:(if(O.toArray.push i).size==O.toArray.size then R else R+1)=R+1:=by simp
  rw[l] at this;have o:O.toArray.push i=(O++[i]).toArray:=xD O i;rw[o] at this;exact this
 exact⟨nO lE (bF (_) (b) (rfl)) GI (GJ _ _) (GK c O.toArray R i (nF g)) ⟨b,f _ (a.r0 (u:=s.toks) aW (kJ ..) j)⟩⟩
structure cm where
 base:au
 h0:au
 os:pt
 cls:p
 br:List x
 X:au->Prop
 B:Prop
 small:∀b J,base.get? b=some J->(b<837/\b∉cK)\/b∈br
 jJ:∀b∈br,837<=b
 eV:∀f ag:au,(∀b∈br,∀J,f.get? b=some J->(∀ar,J.data≠.fields ar)->∃bw,ag.get? b=some {J with slots:=bw})->X f->X ag
def m6(h0 f:au):Prop:=∀z∈hM,∀ah,h0.TableAt z.1 z.2 ah->∃a,f.TableAt z.1 z.2 (ah++a)
theorem TN{f:au}{P:x}{ah:Array p}(l:∀b J,f.get? b=some J->ag.get? b=some J)(u:f.TableAt c P ah):ag.TableAt c P ah:=let⟨⟨a,d,e,g,h,i⟩,j⟩:=u;⟨⟨a,d,l _ _ e,g,h,i⟩,l _ _ j⟩
theorem m6.of{h0 f:au}(l:∀b J,f.get? b=some J->ag.get? b=some J)(u:m6 h0 f):m6 h0 ag:=λa c d e=>let⟨g,h⟩:=u a c d e;⟨g,TN l h⟩
structure d3(w:aD)(h:x->a1)(T:cm)(n:aQ)(aB:List ao)(ae:List x)(s:H):Prop where
 Z:aH w h s
 ch:n.frames=some aB
 jP:s.heap.FunFrames T.base aB
 a9:T.base.StaysIn s.heap
 i:T.X s.heap
 ki:∀b∈T.br++aB.filterMap (·.frame),b∉ae
 ge:∀b∈aB.filterMap (·.frame),837<=b
 gp:m6 T.h0 s.heap
 os:s.os=T.os
 oG:∀b∈T.br,∃J,s.heap.get? b=some J
theorem qm{f base:au}:∀{G:List ao},(∀b∈G.filterMap (·.frame),∀J,f.get? b=some J->ag.get? b=some J)->f.FunFrames base G->ag.FunFrames base G
 |[],_,_=>trivial
 |m::n,c,⟨e,⟨d,J,a,g,h,i⟩,k⟩=>
  ⟨e,⟨d,J,a,g,c d (by refine j jw (j a ?_);exact .head _) J h,i⟩,qm (λb l=>c b (by refine j jw (j a ?_);exact .tail _ l)) k⟩
theorem funFrames_base{f base c:au}:∀{G:List ao},(∀b∈G.filterMap (·.frame),base.get? b=none->c.get? b=none)->f.FunFrames base G->f.FunFrames c G
 |[],_,_=>trivial
 |o::p,d,⟨g,⟨e,h,a,i,k,l⟩,m⟩=>
  ⟨g,⟨e,h,a,d e (by refine j jw (j a ?_);exact .head _) i,k,l⟩,funFrames_base (λb n=>d b (by refine j jw (j a ?_);exact .tail _ n)) m⟩
theorem d3.aS{T:cm}{s:H}(an:d3 w h T n aB ae s)(cY:∀b∈ae,837<=b)(R:bP ae s k t)(L:aH w h k):d3 w h T n aB ae k:=by
 refine⟨L,an.ch,qm (λb c a d=>R.heap b a (an.ki b (dt _ c)) (.inl (gI (an.ge b c))) d) an.jP,λb a d=>?_,T.eV _ _ (λb c a d W=>⟨a.slots,R.heap b a (an.ki b (cU _ c)) (.inl (gI (T.jJ b c))) d⟩) an.i,an.ki,an.ge,λg i j l=>?_,R.os.trans an.os,λb c=>let⟨a,d⟩:=an.oG b c;⟨a,R.heap b a (an.ki b (cU _ c)) (.inl (gI (T.jJ b c))) d⟩⟩
 ·rcases T.small b a d with e|e
  ·exact R.heap b a (λt=>absurd (cY b t) (Nat.not_le.mpr e.1)) (.inl e.2) (an.a9 b a d)
  ·exact R.heap b a (an.ki b (cU _ e)) (.inl (gI (T.jJ b e))) (an.a9 b a d)
 ·refine bo (an.gp g i j l) λm f=>bo (R.cK g i _ f) λo f=>⟨m++o,by refine be nH ?_;exact f⟩
theorem d3.TO{T:cm}{on:List x}{s:H}(an:d3 w h T n aB ae s)(f:∀b∈on,b∈ae):d3 w h T n aB on s:=⟨an.Z,an.ch,an.jP,an.a9,an.i,λb a c=>an.ki b a (f b c),an.ge,an.gp,an.os,an.oG⟩
theorem d3.push{T:cm}{s:H}{R:al->Option p}(an:d3 w h T n aB ae s)(d:D.scope.kind=.function)(c:D.frame=some ac)(bi:s.heap.Ns ac R)(e:837<=ac)(cY:ac∉ae)(a:T.base.get? ac=none):d3 w h T (n.deeper D) (D::aB) ae s:=by
 refine aV λm f=>?_;(refine kc bi λg o q i k W=>?_;clear bi);all_goals refine f ?_
 (refine⟨an.Z,lF an.ch,⟨by refine j d ?_;decide,(pL (ac) (g) (c) (a) (i) (λr l=>nomatch k.symm.trans l)),an.jP⟩,an.a9,an.i,λb a=>?_,λb a=>?_,an.gp,an.os,an.oG⟩)
 ·rw[jw,c] at a;rcases List.mem_append.mp a with a|a
  ·exact an.ki b (cU _ a)
  ·rcases List.mem_cons.mp a with rfl|a
   ·exact cY
   ·exact an.ki b (dt _ a)
 ·rw[jw,c] at a;rcases List.mem_cons.mp a with rfl|a
  ·exact e
  ·exact an.ge b a
theorem d3.kl{T:cm}(an:d3 w h T n aB e.af.ae e.aK)(a:N w h e I led s)(b:e.l.bL)(c:e.D.frame=some e.D.locals):d3 w h T (n.deeper e.D) (e.D::aB) e.af.ae s:=
 (an.aS e.af.ge a.aS a.Z).push b.kind c a.ch a.cE.ge a.cE.dc (by
  cases d:T.base.get? e.D.locals with
  |none=>rfl
  |some f=>have:=an.a9 _ _ d;exact cz (a.cE.new.symm.trans this))
inductive l2(w:aD)(h:x->a1)(T:cm)(G:List ao)(P:au->au->x->Prop)(o:p)(s:H):Prop
 |mk (c:x) (base:au) (abu:o=.ref c) (abr:∀b J,T.base.get? b=some J->base.get? b=some J) (aW:∃cb:H,cb.heap=base/\aH w h cb) (abt:m6 T.h0 base/\∀b,837<=b->T.base.get? b=none->base.get? b=none) (a9:base.StaysIn s.heap) (bi:base.get? c=none) (jP:s.heap.FunFrames base G) (z5:T.X s.heap) (z:P base s.heap c) (os:s.os=T.os) (g:nG s.gens/\T.B)
def TP(T:cm)(base f:au)(c:x):Prop:=∃eO,f.TracedW base c T.cls eO
def CH(T:cm)(ac:x)(base f:au)(c:x):Prop:=∃eO a,(a=.none\/a=eu ac)/\f.TracedAtW base c T.cls eO a
def TQ(T:cm)(f:au)(c:x):Prop:=∃a ar eO,f.get? c=some a/\a.cls=T.cls/\a.data=.fields ar/\ar[0]?=some eO/\ar[1]?=some .none
def TR(T:cm)(ac:x)(base f:au)(c:x):Prop:=CH T ac base f c\/TQ T f c
abbrev fJ(w:aD)(h:x->a1)(T:cm)(G:List ao):p->H->Prop:=l2 w h T G (TP T)
abbrev gN(w:aD)(h:x->a1)(T:cm)(G:List ao)(ac:x):p->H->Prop:=l2 w h T G (TR T ac)
abbrev hs(w:aD)(h:x->a1)(T:cm)(G:List ao)(ac:x):p->H->Prop:=l2 w h T G (CH T ac)
theorem l2.z5{T:cm}{G:List ao}{P:au->au->x->Prop}(i:l2 w h T G P o s):T.X s.heap:=by
 cases i
 assumption
theorem l2.mono{T:cm}{G:List ao}{P qn:au->au->x->Prop}(i:l2 w h T G P o s)(f:∀b f c,P b f c->qn b f c):l2 w h T G qn o s:=by
 refine aV λt a=>?_;obtain⟨c,b,d,e,g,j,k,l,m,n,p,q,r⟩:=i;all_goals refine a ?_
 exact⟨c,b,d,e,g,j,k,l,m,n,f _ _ _ p,q,r⟩
theorem fJ.kl{T:cm}{G:List ao}(i:fJ w h T G o s):gN w h T G ac o s:=i.mono λW W W a=>.inl (a.imp λW a=>⟨.none,.inl d,a.at⟩)
theorem hs.kl{T:cm}{G:List ao}(i:hs w h T G ac o s):gN w h T G ac o s:=i.mono λW W W a=>.inl a
theorem TS{D a:ao}(o:p)(f:D.frame=a.frame):rb o D=rb o a:=by unfold rb frameOf;exact j f d
theorem sz{T:cm}{f:au}(l:∀b J,f.get? b=some J->(∀ar,J.data≠.fields ar)->∃bw,ag.get? b=some {J with slots:=bw})(i:T.X f):T.X ag:=T.eV f ag (λb W J a c=>l b J a c) i
theorem qo{b8:gD}{T:cm}{hR D:ao}(A:n.frames=some (hR::aB))(h0:hR.frame=some ac)(F:D.frame=some ac)(i:gN w h T (hR::aB) ac o s)(g:∀ag,hs w h T (hR::aB) ac o {s with heap:=ag}->r .none {s with heap:=ag}):aL b8 n (rb o D) (λW=>r .none) M s:=by
 refine j (TS o (F.trans h0.symm))<|aV λG c=>?_;obtain⟨k,l,rfl,m,p,q,a9,a,t,u,i,os,v⟩:=i;all_goals refine c ?_
 refine aV λG c=>?_;rcases i with b|b
 ·(refine db b λe K H i=>?_;clear b);refine c ?_;rcases H with rfl|rfl
  ·exact wpAny_noteFrame_onW A t h0 i a9 a λag ⟨x,y,f,z⟩=>g ag ⟨k,l,rfl,m,p,q,x,a,y,sz z u,eU (e) (_) (.inr d) (f),os,v⟩
  ·exact wpAny_noteFrame_againW h0 i (g s.heap ⟨k,l,rfl,m,p,q,a9,a,t,u,eU (e) (_) (.inr d) (i),os,v⟩)
 ·(refine t6 b λL N e B I C J E=>?_;clear b);refine c ?_;unfold rb;simp only[h0];refine ab<|fE B C E<|j (if_neg .(1))<|wpAny_entryW A t h0 B a9 a C (Array.getElem?_eq_some_iff.mp E).1 J λag ⟨x,y,f,z⟩=>g ag ⟨k,l,rfl,m,p,q,x,a,y,sz z u,eU (e) (_) (.inr d) (?_),os,v⟩;rw[I] at f;exact f
theorem qp{b8:gD}{T:cm}{G:List ao}(i:hs w h T G ac o s)(b:∀ag,fJ w h T G o {s with heap:=ag}->r .none {s with heap:=ag}):aL b8 n (pu o none) (λW=>r .none) M s:=by
 refine aV λA c=>?_;obtain⟨d,e,rfl,f,g,j,a9,k,l,m,⟨p,B,W,i⟩,os,q⟩:=i;all_goals refine c ?_
 exact wpAny_setFlight_noneW a9 l i λag t u v x=>b ag ⟨d,e,rfl,f,g,j,t,k,u,sz (λy a o z=>⟨a.slots,x y a o z⟩) m,⟨p,v⟩,os,q⟩
theorem CI{b8:gD}{T:cm}{D:ao}(a:n.frames=some (D::aB))(h0:D.frame=some ac)(i:gN w h T (D::aB) ac o s)(b:∀k,fJ w h T aB o k->r .none k):aL b8 n (nJ D o) (λW=>r .none) M s:=by
 unfold nJ;refine ab<|qo (r:=λW k=>aL b8 n (pu o none) (λW=>r .none) M k) a h0 h0 i λc i=>qp i λc i=>b _<|aV λy d=>?_;obtain⟨e,f,g,j,l,m,p,q,⟨W,W,t⟩,u,v,os,x⟩:=i;all_goals refine d ?_
 exact⟨e,f,g,j,l,m,p,q,t,u,v,os,x⟩
theorem CJ{b8:gD}{T:cm}{G:List ao}{r:Unit->H->Prop}(i:hs w h T G ac o s)(F:∀k,hs w h T G ac o k->r () k):aL b8 n (pu o (some ac)) r M s:=by
 refine aV λI m=>?_;obtain⟨v,J,rfl,b,K,L,a9,N,O,P,⟨Q,X,Z,i⟩,os,R⟩:=i;all_goals refine m ?_
 refine aV λI m=>?_;obtain⟨S,p,e,Y,x,y,⟨U,V⟩,z,A,B,C,q,g,W⟩:=i;all_goals refine m ?_
 have D:3<x.size:=(Array.getElem?_eq_some_iff.mp W).1;unfold pu;refine ab<|fE y z A<|j (if_pos (show(e4 e !=fD)=true from by rfl)) ?_;have l:∀a,a≠e->(s.heap.update e (Obj.mapFields (·.setIfInBounds 3 (eu ac)))).get? a=s.heap.get? a:=λa b=>pm _ _ (fk b);have E:∀a c,s.heap.get? a=some c->(∀p,c.data≠.fields p)->a≠e:=λa c b f t=>by rw[t,q] at b;injection b with b;subst b;exact f x g
 (refine rc q g D (F _ ⟨v,J,rfl,b,K,L,λa c u=>(l a λt=>by rw[t,B] at u;exact cz u).trans (a9 a c u),N,O.of_keeps λa c b f=>⟨c,(l a (E a c b f)).trans b,rfl⟩,sz (λa c b f=>⟨c.slots,(l a (E a c b f)).trans b⟩) P,⟨Q,eu ac,.inr d,?_⟩,os,R⟩));exact(ym (S) (p) (e) (_) (_) ((l v (fk C)).trans y) (⟨U,V⟩) (z) (A) (B) (C) (nI _ q (GL (rd g _))) (rd g _) (Array.getElem?_setIfInBounds_self_of_lt D))
theorem TT{b8:gD}{T:cm}{D:ao}{G:List ao}(a:D.frame=some ac)(i:hs w h T G ac o s)(b:∀k,hs w h T G ac o k->M o k):cameBackBy b8 n D M o s:=by have c:=CJ (b8:=b8) (n:=n) (M:=M) (r:=λW=>M o) i b;refine aV λp d=>?_;obtain⟨e,q,rfl,W,W,W,W,W,W,W,⟨t,u,W,i⟩,W,W⟩:=i;obtain⟨v,x,f,y,z,g,W,l,m,W⟩:=i;refine d ?_;unfold cameBackBy;refine ab<|fE g l m<|j (if_neg (show¬((e4 f==fD)=true) from by exact nofun))<|(?_:aL _ _ (pu (.ref e) D.frame) _ _ _);refine j a<|c
def fU(r M:p->H->Prop)(A:gh)(s:H):Prop:=match A with
 |.ok (.ret E)=>r E s
 |.ok _=>False
 |.error o=>M o s
theorem CK{C:p}{b:List (al×p)}(f:bk w n (.call C ⟨ar,b⟩) (fU r M) s):aL (aZ w) n (call C ar b) r M s:=
 hY (iX f.run λc e a=>by
  cases c with
  |error g=>exact a
  |ok d=>cases d<;>first|exact a|exact a.elim)
theorem bk.mono{C:Code}{av bs:gh->H->Prop}(f:bk w n C av s)(l:∀A s,av A s->bs A s):bk w n C bs s:=⟨iX f.run l⟩
theorem bk.ex{C:Code}(f:bk w n C (bW r) s):bk w n C (fU r M) s:=f.mono λb s a=>by
 cases b with
 |error d=>exact a.elim
 |ok c=>cases c<;>first|exact a|exact a.elim
theorem vL{C:bJ}{args:js}{bQ:List (al×p)}{r:p->H->Prop}{I:List (Option p)}{T:cm}(af:dq)(L:aH w h s)(e:af.P s.heap){S:Nat}(A:aR n (q+1) (S+3))(g:n.frames=some aB)(F:ce w h C)(j:C.cj=true)(l:∀doc,c2 (aZ w) s.heap (hE (C.d5 doc) args) bQ)(m:(bQ.all λi=>(d1 C.a9).names.lookup i.1==some .local)=true)(o:C.names.map (λi=>bQ.reverse.lookup i)=I)(t:(bQ.all λi=>C.names.contains i.1)=true)(f:∀ac k,let b:aP:=⟨C.eg ac [],s,af,.none⟩;let c:Around:=n.deeper b.D;let u:List (Option p):=I;b.l.bL->N w h b u [] k->aR c q S->aa w c (ej (fv C.a9) b.D) (ia r) (gN w h T (b.D::aB) ac) k):
 bk w n (.call (.ref C.fG) args) (fU r (fJ w h T aB)) s:=
 u2 af L e A F j l m o t λac k v a=>⟨cy (f ac k v a (A.deeper _)).run (λW W i=>i) λx W i=>⟨CI (r:=λW y=>fU r (fJ w h T aB) (.error x) y) (lF g) d i λW z=>z⟩⟩
theorem CL{C:bJ}{args:js}{bQ:List (al×p)}{r:p->H->Prop}{I:List (Option p)}{T:cm}(af:dq)(L:aH w h s)(c:af.P s.heap){S:Nat}(A:aR n (q+1) (S+3))(d:n.frames=some aB)(F:ce w h C)(e:C.cj=true)(g:∀doc,hE (C.d5 doc) args=pure bQ)(j:(bQ.all λi=>(d1 C.a9).names.lookup i.1==some .local)=true)(l:C.names.map (λi=>bQ.reverse.lookup i)=I)(m:(bQ.all λi=>C.names.contains i.1)=true)(f:∀ac k,let a:aP:=⟨C.eg ac [],s,af,.none⟩;let b:Around:=n.deeper a.D;let o:List (Option p):=I;a.l.bL->N w h a o [] k->aR b q S->aa w b (ej (fv C.a9) a.D) (ia r) (gN w h T (a.D::aB) ac) k):
 bk w n (.call (.ref C.fG) args) (fU r (fJ w h T aB)) s:=
 vL af L c A d F e (λdoc=>iV (g doc)) j l m f
noncomputable def jd(T:cm)(f:au):Heap:=fw ((bH f.objs.size).filter λb=>decide (837<=b)&&(T.base.get? b).isNone) f
theorem sA{T:cm}{f:au}{b:x}{J:V}(o:(jd T f).get? b=some J):f.get? b=some J/\(b<837\/(T.base.get? b).isSome):=by
 by_cases a:b∈(bH f.objs.size).filter λb=>decide (837<=b)&&(T.base.get? b).isNone
 ·rw[jd,i4 a] at o;exact cz o
 ·rw[jd,ib a] at o;refine⟨o,?_⟩;by_cases c:b<837
  ·exact .inl c
  ·refine .inr ?_;have:b∈bH f.objs.size:=List.mem_range.mpr (cr o);cases d:T.base.get? b with
   |some _=>rfl
   |none=>exact absurd (List.mem_filter.mpr ⟨this,by refine j d ?_;simpa using c⟩) a
theorem CM{T:cm}{f:au}{b:x}{J:V}(o:f.get? b=some J)(a:b<837\/(T.base.get? b).isSome):(jd T f).get? b=some J:=by
 rw[jd,ib (λc=>?_)]
 ·exact o
 ·have:=(List.mem_filter.mp c).2;simp only[eH,decide_eq_true_eq,aan] at this;rcases a with f|f
  ·exact absurd this.1 (Nat.not_le.mpr f)
  ·rw[this.2] at f;exact nomatch f
theorem d3.fresh{T:cm}{o:x}{cls:p}{args:List p}{a3:Nat}(an:d3 w h T n aB ae s)(e:Heap.MadeExcOf s.heap ag o cls args)(i:T.cls=cls/\T.B):gN w h T aB ac (.ref o) {s with heap:=ag,toks:=a3}:=by
 refine g4 e.there λk t W W=>?_;have eB:∀a,a<837->∀b,s.heap.get? a=some b->(jd T s.heap).get? a=some b:=λa f b g=>CM g (.inl f);(refine⟨o,jd T s.heap,rfl,λa b c=>CM (an.a9 a b c) (.inr (by refine j c ?_;rfl)),(bF ({s with heap:=jd T s.heap}) (rfl) (an.Z.ext (ag:=jd T s.heap) (a3:=s.toks) eB)),⟨λl m u k=>?_,λa f c=>?_⟩,λa b c=>e.keeps a b (sA c).1,?_,qm (λa W b c=>e.keeps a b c) (funFrames_base (λa f c=>?_) an.jP),T.eV _ _ (λa W b c W=>⟨b.slots,e.keeps a b c⟩) an.i,.inr (n7 (_) (_) (_) (t) (i.1.symm) (rfl) (rfl) (rfl)),an.os,an.Z.bare,i.2⟩)
 ·refine aV λG v=>?_;(refine bp (an.gp l m u k) λy q z=>?_;(refine n5 q λA B C D E F=>?_;clear q));all_goals refine v ?_
  have r:=i2 l m;exact⟨y,(pL (A) (B) (eB _ r.1 _ C) (D) (E) (F)),eB _ r.2.1 _ z⟩
 ·cases g:(jd T s.heap).get? a with
  |none=>rfl
  |some b=>
   rcases(sA g).2 with d|d
   ·exact absurd f (Nat.not_le.mpr d)
   ·rw[c] at d;exact absurd d .(1)
 ·cases c:(jd T s.heap).get? o with
  |none=>rfl
  |some b=>have:=(sA c).1;exact cz (e.new.symm.trans this)
 ·cases g:(jd T s.heap).get? a with
  |none=>rfl
  |some b=>
   rcases(sA g).2 with d|d
   ·exact absurd (an.ge a f) (Nat.not_le.mpr d)
   ·rw[c] at d;exact absurd d .(1)
theorem l3{g j:az}{cls k l:String}{T:cm}{p:aQ}{r:eb->H->Prop}(F:ExcCallFacts cls k l)(ap:ExcRaiseFacts cls)(a:N w h e I led s)(c:e.l.bL)(q:n.handled=none)(m:Nat)(aW:some i=e.l.aX[m]?)(o:bK (ak w h) 3 i=some none)(t:fs i=some (.type cls)/\i≠"__name__")(an:d3 w h T p aB e.af.ae e.aK)(u:e.D.frame=some e.D.locals)(v:T.cls=.type cls/\T.B)(f:eM w n M D args (λar b=>ar.length<=eI/\∃I led,N w h e I led b) s)(d:autoParam (args.all fH=true) b0)(x:autoParam (D=e.D) b0)(y:autoParam (M=gN w h T (e.D::aB) e.D.locals) b0):
 aa w n (g2 (.Raise (some (.Call (.Name i g) args [] j)) none pos) D) r M s:=by
 subst x y;refine⟨wpAny_Raise_call F ap q (iI d) (aa.run (mU a c m aW o t ⟨rfl,jI d (f.mono λar b i=>?_)⟩))⟩;obtain⟨z,C,E,A⟩:=i;exact(bO (rfl) (z) (λG o B=>(an.kl A c u).fresh (a3:=b.toks) B.of v))
noncomputable def vM(P:gC)(h:x->a1):Array DictEntry:=match(i1 P h).lookup 30 with|some ⟨_,_,.dict a _,_⟩=>a|_=>#[]
theorem aH.TU(L:aH w h s):s.heap.Ns 30 (pj (vM w.params h)):=L.ns (c:=30) (J:=⟨.type "dict",none,.dict (vM w.params h) 3,#[]⟩) .(0) d .(0)
theorem vN{j k:az}{T:cm}{l:aQ}{r:eb->H->Prop}(a:N w h e I led s)(d:e.l.bL)(p:n.handled=none)(m:Nat)(aW:some i=e.l.aX[m]?)(o:bK (ak w h) 3 i=some (some (.ref 31)))(an:d3 w h T l aB e.af.ae e.aK)(t:e.D.frame=some e.D.locals)(u:T.cls=.ref 31/\T.B)(f:eM w n M D args (λar b=>ar.length<=eI/\∃I led,N w h e I led b) s)(g:autoParam (args.all fH=true) b0)(v:autoParam (D=e.D) b0)(x:autoParam (M=gN w h T (e.D::aB) e.D.locals) b0):
 aa w n (g2 (.Raise (some (.Call (.Name i j) args [] k)) none pos) D) r M s:=by
 subst v x;refine⟨wpAny_Raise_call_sub (C:=31) (N:=30) (nm:=y "MnemonicError") (q:=y "MnemonicError") (bs:=[.type "Exception"]) (hdct:=true) (sn:=[]) (sub:=[]) (ab:=false) (col:=none) (dd:=none) (k0:=some (.ref 22)) (k1:=none) (k2:=some (.str (y "MnemonicError") 234)) (k3:=some (.str (y "MnemonicError") 242)) (k5:=some (.bool true)) (mN:=pj (vM w.params h)) PySem.F.excBase_Exception p (iI g) .(0) (aa.run (eA a d m aW o ⟨rfl,jI g (f.mono λar b i=>?_)⟩))⟩;obtain⟨z,B,E,c⟩:=i;exact(cV (rfl) (z) (c.Z.l _ _ .(0)) (c.Z.TU) (λF o A=>(an.kl c d t).fresh (a3:=b.toks) A u))
abbrev T0(w:aD)(h:x->a1)(n:aQ)(aJ:x)(r M:p->H->Prop)(ar:List p)(s:H):Prop:=(ak w h).In s.heap/\bk w n (.call (.ref aJ) ⟨ar,[]⟩) (fU r M) s
theorem m8{C:al}{aJ:x}(a:N w h e I led s)(c:e.l.bL)(m:Nat)(aW:some C=e.l.aX[m]?)(o:bK (ak w h) 3 C=some (some (.ref aJ)))(d:cX (ak w h) (.ref aJ)=true)(f:eM w n M D args (T0 w h n aJ r M) s)(g:autoParam (args.all fH=true) b0)(i:autoParam (D=e.D) b0):
 aa w n (bA (.Call (.Name C z) args [] pos) D) r M s:=by
 refine⟨pl (aa.run (eA a c m aW o ?_ i))⟩;refine sg d g (f.mono λk l b=>⟨b.1,j (ix ..)<|CK b.2⟩)
theorem bk.ga{T:cm}{G:List ao}{C:Code}(f:bk w n C (fU r (fJ w h T G)) s):bk w n C (fU r (gN w h T G ac)) s:=f.mono λb s a=>by
 cases b with
 |error d=>exact fJ.kl a
 |ok c=>cases c<;>exact a
noncomputable def dq.bare(q:dq):dq:=⟨q.t,q.ae,λe=>∀b∈q.ae,∃a,e.get? b=some a,q.ge,λW c=>c,λW W l c b d=>let⟨a,o⟩:=c b d;⟨a,l b d a o⟩⟩
noncomputable abbrev aP.cO(e:aP)(q:dq):aP:={e with af:=q}
theorem N.bare(a:N w h e I led s):N w h (e.cO e.af.bare) I led s:=a.jD e.af.bare d d (e.af.live _ a.b4)
def km(w:aD)(h:x->a1)(e:aP)(T:cm)(n:aQ)(G:List ao):Prop:=∀q I led s,q.bare=e.af.bare->N w h (e.cO q) I led s->d3 w h T n G e.af.ae s
theorem k4{q a:dq}(f:q.bare=a.bare):q.ae=a.ae:=by refine(?_:q.bare.ae=a.bare.ae);exact j f d
theorem T1{q a:dq}(f:q.bare=a.bare):q.t=a.t:=by refine(?_:q.bare.t=a.bare.t);exact j f d
theorem d3.CN{T:cm}(an:d3 w h T n aB e.af.ae e.aK)(b:e.l.bL)(c:e.D.frame=some e.D.locals):km w h e T (n.deeper e.D) (e.D::aB):=λd i j k f a=>by have g:=k4 f;rw[<-g] at an⊢;exact d3.kl (e:=e.cO d) an a b c
noncomputable def cm.k5(T:cm)(U:x)(f:837<=U):cm:={T with br:=U::T.br,X:=λa=>T.X a/\∃R,a.Ns U R,small:=λb c o=>(T.small b c o).imp id (e3 _),jJ:=λb d=>(List.mem_cons.mp d).elim (λo=>o▸f) (T.jJ b),eV:=λa ag l ⟨i,R,c,g,h,j,e,A⟩=>⟨T.eV a ag (λb d=>l b (e3 _ d)) i,R,let⟨bw,o⟩:=l U aG c j (λar t=>by rw[e] at t;exact nomatch t);⟨_,g,h,o,e,A⟩⟩}
theorem d3.k5{T:cm}{G:List ao}{R:al->Option p}(an:d3 w h T n G ae s)(d:837<=U)(bi:s.heap.Ns U R)(cY:U∉ae):d3 w h (T.k5 U d) n G ae s:=⟨an.Z,an.ch,an.jP,an.a9,⟨an.i,R,bi⟩,λa b=>(List.mem_cons.mp b).elim (λc=>c▸cY) (an.ki a),an.ge,an.gp,an.os,λa b=>(List.mem_cons.mp b).elim (λc=>c▸let⟨e,_,_,f,_⟩:=bi;⟨e,f⟩) (an.oG a)⟩
structure CP(T:cm)(G:List ao)(U:x):Prop where
 base:T.base.get? U=none
 br:U∉T.br
 G:U∉G.filterMap (·.frame)
theorem hs.drop{T:cm}{G:List ao}{k6:x}{m:837<=U}(c:CP T G U)(i:hs w h (T.k5 U m) G k6 o s)(d:hb U s.heap ag):hs w h T G k6 o {s with heap:=ag}:=by
 refine aV λA j=>?_;obtain⟨o,n,rfl,e,B,⟨C,q⟩,a9,D,E,⟨F,ac,f,ad,ae,H,I,w⟩,⟨J,K,L,i⟩,os,M⟩:=i;all_goals refine j ?_
 have N:n.get? U=none:=q U m c.base;refine aV λA j=>?_;obtain⟨O,k,P,Q,R,r,⟨S,W⟩,t,X,Y,Z,u,v,aa⟩:=i;all_goals refine j ?_
 have y:∀{a:x} {z:V} {k:Array p},s.heap.get? a=some z->z.data=.fields k->a≠U:=λl ab b=>by rw[b,H] at l;(obtain rfl:=dg l;clear l);exact nomatch I.symm.trans ab
 refine⟨o,n,rfl,e,B,⟨C,q⟩,λa f b=>(d.2 a λg=>by rw[g,N] at b;exact cz b).trans (a9 a f b),D,qm (λa e f b=>(d.2 a λg=>c.G (g▸e)).trans b) E,T.eV _ _ (λa e f b T=>⟨f.slots,(d.2 a λg=>c.br (g▸e)).trans b⟩) F,eU (J) (K) (L) (?_),os,M⟩;exact(ym (O) (k) (P) (Q) (R) ((d.2 _ (y r t)).trans r) (⟨S,W⟩) (t) (X) (Y) (Z) ((d.2 _ (y u v)).trans u) (v) (aa))
theorem T2{α:Type}{b8:gD}{T:cm}{D:ao}{G:List ao}{b:String}{r:α->H->Prop}(c:D.frame=some ac)(i:hs w h T G ac o s)(e:∀k,hs w h T G ac o k->M o k):aL b8 n (GM b o D:eF α) r M s:=by
 have f:=i;refine aV λg a=>?_;obtain⟨u,v,rfl,x,y,z,a9,A,B,C,⟨E,F,W,i⟩,os,I⟩:=i;all_goals refine a ?_
 refine aV λg a=>?_;obtain⟨J,K,l,L,N,m,⟨O,P⟩,p,q,Q,R,S,U,V⟩:=i;all_goals refine a ?_
 unfold GM;refine ab<|fE m p q<|j (if_neg (show¬((e4 l==fD)=true) from by exact ne_true_of_eq_false d))<|j c<|ab (CJ f λk t=>xE (e k t))
def oH(b8:gD)(n:aQ)(M:p->H->Prop)(r:p->H->Prop)(a:p)(e7:ao)(A:gh)(k:H):Prop:=
 match A with
 |.ok _=>∃R,k.heap.Ns e7.locals R/\∀ag,hb e7.locals k.heap ag->r a {k with heap:=ag}
 |.error i=>∃R,k.heap.Ns e7.locals R/\∀ag,hb e7.locals k.heap ag->aL b8 n (GM "comprehension.variables-let-go" i e7:eF p) (λW W=>False) M {k with heap:=ag}
theorem CQ{b8:gD}{D:ao}{o:am}{pos:az}{k first :eF p}{g:Comprehension}{Q:List Comprehension}{ba:List (al×x)}{r:p->H->Prop}(z:clausesOf o=g::Q)(A:∀i,q2 g.iter D i=pure i)(B:lv scope D=pure ba)(l:scope.kind=.function)(C:∀i∈scope.names,i.2=.local->scope.names.lookup i.1=some .local)(f:aL b8 n first (λi m=>aL b8 n (hX i) (λit q=>aL b8 n k (λc t=>
  aL b8 n (re scope D.globals ba [] D.qual none .none (some D)) (λe7 u=>
   g1 b8 n (.compStart o 0 it c {e7 with scope:=kQ scope D}) (oH b8 n M r c {e7 with scope:=kQ scope D}) u) M t) M q) M m) M s):
 aL b8 n (GO o scope D pos k false first none) r M s:=by
 unfold GO;refine j B<|j z<|ab (cy f (λi m E=>ab (lu (ab (c3 (A i) (ab (dH (cy E (λit q F=>
  wpAny_standIf (ab (cy F (λc t G=>ab (aI (ab (cy G (λe7 u I=>?_) λW W a=>a)))) λW W a=>a)))
   λW W a=>a))))))) λW W a=>a)
 dsimp only;have v:∀i∈(scope.names.filter λi=>(i.2==.local ||i.2==.cell)&&i.1 !=(".0":al)).reverse,i.2=.local->
  Env.kindOf {e7 with scope:=kQ scope D} i.1=some .local:=λi J K=>aao (C i (List.mem_filter.mp (List.mem_reverse.mp J)).1 K)
 refine dH (ab (nQ (dH (wpAny_run (iX I λL w b=>?_)))));cases L with
 |ok y=>refine bp b λd e b=>ab (dH (wpAny_comp_letGo (cenv:={e7 with scope:=kQ scope D}) l _ w d v e λa N W h=>aI (b a h)))
 |error i=>refine bp b λd e b=>ab (dH (wpAny_comp_letGo (cenv:={e7 with scope:=kQ scope D}) l _ w d v e λa N W h=>cy (b a h) (λW W y=>y.elim) λW W O=>O))
structure oI(w:aD)(n:aQ)(D:ao)(o:am)(scope:bj)(ba:List (al×x))(r:p->H->Prop)(M:p->H->Prop)(it:p)(ke:H):Prop where
 run:aL (aZ w) n (newList []) (λBW u0=>aL (aZ w) n (re scope D.globals ba [] D.qual none .none (some D)) (λe7 i5=>
  g1 (aZ w) n (.compStart o 0 it BW {e7 with scope:=kQ scope D}) (oH (aZ w) n M r BW {e7 with scope:=kQ scope D}) i5) M u0) M ke
theorem ie{bM:am}{ifs:List am}{aN aX:List al}(ba:List (al×x))(e:lv scope D=pure ba)(b:iN scope aN aX=true)(f:aa w n (bA iter D) (ov w n (oI w n D (.ListComp bM [⟨target,iter,ifs,0⟩] scope pos) scope ba r M) M) M s)(g:autoParam (∀i,q2 iter D i=pure i) Zzi):
 aa w n (bA (.ListComp bM [⟨target,iter,ifs,0⟩] scope pos) D) r M s:=by
 simp only[iN,eH,beq_iff_eq,hc,iw,decide_eq_true_eq,bne_iff_ne,pr] at b;refine aV λu h=>?_;(refine bE b λa k=>?_;clear b;(refine bE a λa v=>?_;(refine bE a λa y=>?_;obtain⟨⟨⟨⟨l,z⟩,A⟩,B⟩,C⟩:=a)));all_goals refine h ?_
 refine⟨j (eval_ListComp ..)<|CQ d g e l (λi m o=>(k i m).resolve_left λp=>p o) (cy f.run (λE F q=>cy q.run (λit G t=>t.run) λW W c=>c) λW W c=>c)⟩
def qq(o target iter:am)(body:p->ao->eF Unit):Prop:=∀it a D,q3 o 0 it a D=(j2 iter.pos>>=λW=>gE it>>=λA=>match A with
 |none=>pure (.done .next)
 |some E=>gi target it E>>=λW=>dX target D E>>=λW=>body a D>>=λW=>again (.compLoop o 0 it a D))
structure je(w:aD)(h:x->a1)(e:aP)(I:List (Option p))(led:List (x×V))(s:H)(l:f5)(U:x):Prop where
 hn:837<=U
 new:e.aK.heap.get? U=none
 now:s.heap.get? U=none
 dc:U∉e.af.ae
 ga:∀q ql more s,q.bare=e.af.bare->N w h (dO (e.cO q) I led l) ql more s->N w h (e.cO q) I (more++led) s
noncomputable def vP(U:x):eK:=⟨[U],λa=>∃R,a.Ns U R,λa ag l ⟨R,b,c,d,e,A⟩=>⟨R,b,c,d,l U aG b e,A⟩⟩
theorem N.vQ{i:eK}(m:U∈i.br)(a:N w h (e.push i) I led s)(n:e.aK.heap.get? U=none)(o:hb U s.heap ag)(bi:U∉e.hd.br):N w h e I led {s with heap:=ag}:=by have k:ee [U] s {s with heap:=ag}:=⟨λb x c p=>(o.2 b λf=>c (f▸.head _)).trans p,rfl,rfl,rfl⟩;refine dM (a.b9 U (cU _ m)) λq r t u W=>?_;have g:∀b∈[U],b=U:=λb c=>List.mem_singleton.mp c;exact a.drop.step k (λb c=>by refine j (g b c) ?_;exact⟨n,u,r⟩) (λf=>q (g _ f).symm) d (λv l=>k.heap _ _ (λf=>t (g _ f▸fN l)) (a.ld v l).1) λb c f=>bi (g b f▸c)
theorem je.hl{l:f5}{q:dq}{c:List (Option p)}{more:List (x×V)}{cb:H}(X:je w h e I led cb l U)(f:l.D.locals=U)(hd:q.bare=e.af.bare)(a:N w h (dO (e.cO q) I led l) c more s):N w h ((e.cO q).push (vP U)) I (more++led) s/\U∉e.hd.br:=by
 subst f;have g:=X.ga q c more s hd a;have i:=a.b9 e.D.locals (cU _ aG);have k:l.D.locals∉e.hd.br:=λb=>(a.b9 _ (dt _ b)).1 d;refine⟨g.hl (vP l.D.locals) ⟨_,a.ch⟩ λv m=>?_,k⟩;refine j (List.mem_singleton.mp m)<|f4 a.ch λn W W o W=>(cV (λb=>i.1 b.symm) (a.cE.dc) (λb=>?_) (a.cE.ge) ⟨n,o⟩);rw[g3,lD] at b;rcases b with b|b
 ·refine bp (List.mem_map.mp b) λr t u=>(a.ld r t).2.1 u
 ·exact(a.b9 _ (cU _ (e3 _ b))).1 d
noncomputable def jR(scope:bj)(aN aX:List al):Bool:=scope.kind==.function&&aN.all (λi=>scope.names.lookup i==some .local)&&decide aN.Nodup&&aX.all (λi=>scope.names.lookup i==some .globalImplicit)&&aN.all (λi=>!(i==("__debug__":al)))&&aX.all (λi=>!(i==("__debug__":al)))&&scope.names.all (λi=>i.2 !=.local ||scope.names.lookup i.1==some .local)
theorem iN.CR{aN aX:List al}(f:iN scope aN aX=true):jR scope aN aX=true/\∀i∈scope.names,i.2≠.cell:=by
 simp only[iN,jR,eH,iw,bne_iff_ne] at f⊢;refine aV λm b=>?_;(refine bE f λa c=>?_;clear f;(refine bE a λa d=>?_;(refine bE a λa e=>?_;obtain⟨⟨⟨⟨g,h⟩,j⟩,k⟩,l⟩:=a)));all_goals refine b ?_
 exact⟨⟨⟨⟨⟨⟨⟨g,j⟩,k⟩,l⟩,e⟩,d⟩,c⟩,h⟩
theorem jR.eg{aN aX:List al}(b:jR scope aN aX=true)(f:e.l.bL)(ba:List (al×x))(U:x):(dy scope ba U e.D aN aX).bL:=by
 simp only[jR,eH,beq_iff_eq,hc,iw,decide_eq_true_eq,bne_iff_ne] at b;refine aV λn g=>?_;(refine bE b λa W=>?_;clear b;(refine bE a λa h=>?_;(refine bE a λa i=>?_;obtain⟨⟨⟨j,k⟩,l⟩,m⟩:=a)));all_goals refine g ?_
 exact⟨j,f.kf,f.blt,λc d=>aao (k c d),λc d=>TM (m c d),i,h,l⟩
theorem CS:∀{names:List (al×pq)} {v:Nat} {a:List (al×x)},(∀i∈names,i.2≠.cell)->cellsFrom v names a=a
 |[],_,_,_=>rfl
 |(i,b)::f,v,a,c=>by have:(b==xB)=false:=beq_eq_false_iff_ne.mpr (c (i,b) aG);refine(?_:(if(b==xB)=true then _ else cellsFrom v f a)=a);rw[this,if_neg (by simp)];exact CS λd e=>c d (.tail _ e)
theorem N.CT:∀{led:List (x×V)} (G:List (x×V)),N w h e I led s->(∀z∈G,s.heap.get? z.1=some z.2/\Apart e led z.1)->(G.map (·.1)).Nodup->N w h e I (G++led) s
 |_,[],a,_,_=>a
 |led,z::g,a,d,f=>by have i:=N.CT g a (λc j=>d c (.tail _ j)) (List.nodup_cons.mp f).2;have b:=d z aG;refine i.m5 b.1 ⟨b.2.own,b.2.fn,b.2.hd,λc=>?_⟩;rw[g3,lD] at c;exact c.elim (List.nodup_cons.mp f).1 b.2.led
theorem T3{b8:gD}{globals:x}{ba:List (al×x)}{a:List al}{b:al}{D:ao}{r:ao->H->Prop}(d:∀ac c,cellsFrom (ac+1) scope.names c=cl a (ac+1) c)(f:r (newEnv scope s.heap.objs.size globals (cl a (s.heap.objs.size+1) ba) b none .none (some D) builtinsNs) {s with heap:=pushCells (s.heap.push {cls:=.type "dict",data:=.dict #[]}) scope.names}):
 aL b8 n (re scope globals ba [] b none .none (some D)) r M s:=by
 simp only[re,Option.isSome_some,if_true];refine ab<|GP<|ab<|wpAny_layCells _ (λname e h=>by cases g:e==xB<;>dsimp[g]) _ _ _ _<|j (show({s with heap:=s.heap.push {cls:=.type "dict",data:=.dict #[]}}:H).heap.objs.size=s.heap.objs.size+1 from hZ ..) (j (d ..) ?_);first
  |exact aI f
  |exact ab (aI (aI f))
theorem CU{bM:am}{ifs:List am}{aN aX:List al}{br:List x}{P:Nat->p->au->Prop}{cH:Nat->au->Prop}(W:eY w n L br ae v P cH)(body:p->ao->eF Unit)(bb:qq (.ListComp bM [⟨target,iter,ifs,0⟩] scope pos) target iter body)(af:Nat->dq)(bc:∀l,(af l).bare=e.af.bare){cb:H}(a:N w h ((e.cO (af 0)).push (cs W 0)) I led cb)(bd:d7 e ae)(bf:e.l.bL)(ba:List (al×x))(q:List al)(aO:jR scope aN aX=true)(aP:∀ac ag,cellsFrom (ac+1) scope.names ag=cl q (ac+1) ag)(bg:q.Nodup)(ah:x->Nat->List p->List (x×V)->Prop)(h0:∀(U:x) (D:Nat->V),(∀m:Nat,m<q.length->(D m).data=.cell none)->ah U 0 [] ((bH q.length).map λm=>(U+1+m,D m)))(aj:(U:x)->837<=U->p->H->Prop)(ai:p->ao->gh->H->Prop)(bh:∀U c,(X:je w h e I led cb (dy scope (cl q (U+1) ba) U e.D aN aX) U)->∀o s,aj U X.hn o s->notedBy (aZ w) n (f3 scope (cl q (U+1) ba) U e.D) (λi k=>ai (.ref c) (f3 scope (cl q (U+1) ba) U e.D) (.error i) k) o s)(step:∀U l E O R more c z s,(X:je w h e I led cb (dy scope (cl q (U+1) ba) U e.D aN aX) U)->l<v->P l E s.heap->ah U l O more->(dy scope (cl q (U+1) ba) U e.D aN aX).bL->z.length=aN.length->N w h ((dO (e.cO (af l)) I led (dy scope (cl q (U+1) ba) U e.D aN aX)).push (cs W (l+1))) z ((c,a4 O R)::more) s->
  aa w n (gi target (.ref L) E) (λV aQ=>aa w n (dX target (f3 scope (cl q (U+1) ba) U e.D) E) (λV aR=>aa w n (body (.ref c) (f3 scope (cl q (U+1) ba) U e.D)) (λV ak=>
   ∃ax aS ay az,ah U (l+1) ax ay/\az.length=z.length/\N w h ((dO (e.cO (af (l+1))) I led (dy scope (cl q (U+1) ba) U e.D aN aX)).push (cs W (l+1))) az ((c,a4 ax aS)::ay) ak) (aj U X.hn) aR) (aj U X.hn) aQ) (aj U X.hn) s)
 (done:∀U c O R more z k,je w h e I led cb (dy scope (cl q (U+1) ba) U e.D aN aX) U->ah U v O more->N w h (dO (e.cO (af v)) I led (dy scope (cl q (U+1) ba) U e.D aN aX)) z ((c,a4 O R)::more) k->ai (.ref c) (f3 scope (cl q (U+1) ba) U e.D) (.ok .next) k):
 aL (aZ w) n (newList []) (λag ak=>aL (aZ w) n (re scope e.D.globals ba [] e.D.qual none .none (some e.D)) (λe7 bi=>
  g1 (aZ w) n (.compStart (.ListComp bM [⟨target,iter,ifs,0⟩] scope pos) 0 (.ref L) ag {e7 with scope:=kQ scope e.D}) (ai ag {e7 with scope:=kQ scope e.D}) bi) M ak) M cb:=by
 have aA:=aO;simp only[jR,eH,beq_iff_eq,hc,iw,decide_eq_true_eq,bne_iff_ne,pr] at aA;refine aV λaB K=>?_;(refine bE aA λt bN=>?_;clear aA;(refine bE t λt bO=>?_;(refine bE t λt bP=>?_;obtain⟨⟨⟨bQ,bR⟩,bS⟩,bT⟩:=t)));all_goals refine K ?_
 refine lB<|T3 aP ?_;have an:∀l,(af l).ae=e.af.ae:=λl=>k4 (bc l);have aT:=(a.e8 []).cd (cJ _ _);let b:Shared:={cb with heap:=cb.heap.push (a4 [])};have Y:b.heap.objs.size=cb.heap.objs.size+1:=hZ _ _;have aU:(b.heap.push {cls:=.type "dict",data:=.dict #[]}).objs.size=b.heap.objs.size+1:=hZ _ _;have bj:=jR.eg aO bf (cl q (b.heap.objs.size+1) ba) b.heap.objs.size;refine(?_:g1 (aZ w) n (.compStart (.ListComp bM [⟨target,iter,ifs,0⟩] scope pos) 0 (.ref L) (.ref cb.heap.objs.size) (f3 scope (cl q (b.heap.objs.size+1) ba) b.heap.objs.size e.D)) (ai (.ref cb.heap.objs.size) (f3 scope (cl q (b.heap.objs.size+1) ba) b.heap.objs.size e.D)) {cb with heap:=pushCells (b.heap.push {cls:=.type "dict",data:=.dict #[]}) scope.names});generalize aW:pushCells (b.heap.push {cls:=.type "dict",data:=.dict #[]}) scope.names=F;have aY:∀g y,(b.heap.push {cls:=.type "dict",data:=.dict #[]}).get? g=some y->F.get? g=some y:=λg y o=>aW▸pushCells_keeps _ _ g y o;have bk:F.Ns b.heap.objs.size (ez aN (aN.map λU=>none)):=by
  have o:ez aN (aN.map λU=>none)=λU=>none:=by
   funext Z
   show ez aN _ Z=none;unfold ez;have:∀ap:List al,((ap.zip (ap.map λU=>(none:Option p))).lookup Z).getD none=none:=by
    intro ap;induction ap with
    |nil=>rfl
    |cons c bU bl=>refine j dC (j jr (j f0 ?_));cases Z==c<;>first|rfl|exact bl
   exact this aN
  refine j o ?_;exact(Heap.Ns.new b.heap (.type "dict")).keeps aY
 have aq:∀g y,b.heap.get? g=some y->F.get? g=some y:=λg y o=>aY g y (cM _ o);have ar:=aT.drop.TJ (dy scope (cl q (b.heap.objs.size+1) ba) b.heap.objs.size e.D aN aX) (aN.map λU=>none) d (a3:=cb.toks) bk aq;have bm:F.get? cb.heap.objs.size=some (a4 []):=aq _ _ (eX _ d);have bV:=a.hP;let D:Nat->Obj:=λm=>(F.get? (b.heap.objs.size+1+m)).getD default;have a0:∀m:Nat,m<q.length->F.get? (b.heap.objs.size+1+m)=some (D m)/\(D m).data=.cell none:=λm Q=>by
  have a1:=cellsFrom_ok scope.names (b.heap.push {cls:=.type "dict",data:=.dict #[]}) (b.heap.objs.size+1) [] ⟨λU U bn=>(nomatch bn),List.Pairwise.nil⟩ (ir aU.symm);rw[aW,aU,aP] at a1;have R:=mem_of_lookup (vB q (b.heap.objs.size+1) [] m q[m] bg (λU r=>nomatch r) (da Q));(refine bE (a1.empty _ _ R) λt U=>?_;(refine bp t λy a2 ad=>?_;clear t));refine⟨?_,?_⟩
  ·refine(?_:_=some ((F.get? (b.heap.objs.size+1+m)).getD default));refine j a2 ?_;rfl
  ·refine(?_:((F.get? (b.heap.objs.size+1+m)).getD default).data=_);refine j a2 ?_;exact ad
 have bq:∀g,cb.heap.objs.size<=g->cb.heap.get? g=none:=λg u=>xF u;have a5:∀g,cb.heap.objs.size<=g->g≠b.heap.objs.size->Apart (dO (e.cO (af 0)) I led (dy scope (cl q (b.heap.objs.size+1) ba) b.heap.objs.size e.D aN aX)) [] g:=λg u bs=>by
  have i:=a.eC (bq g u) (bZ a.Z.size u);refine⟨⟨i.own.new,i.own.ge,i.own.dc⟩,bs,λr=>?_,bC⟩;rcases List.mem_append.mp r with r|r
  ·rcases List.mem_cons.mp r with r|r
   ·exact i.fn r
   ·exact i.led r
  ·exact i.hd (dt _ r)
 have aC:N w h (dO (e.cO (af 0)) I led (dy scope (cl q (b.heap.objs.size+1) ba) b.heap.objs.size e.D aN aX)) (aN.map λU=>none) ((bH q.length).map λm=>(b.heap.objs.size+1+m,D m)) {cb with heap:=F,toks:=cb.toks}:=by
  have:=ar.CT ((bH q.length).map λm=>(b.heap.objs.size+1+m,D m)) (λA C=>by
   (refine bp (List.mem_map.mp C) λm Q t=>?_;obtain rfl:=t);have Q:=List.mem_range.mp Q;exact⟨(a0 m Q).1,a5 _ (by refine j Y ?_;lia) (by refine(?_:b.heap.objs.size+1+m≠b.heap.objs.size);exact L9)⟩) (by
   refine j nN<|List.nodup_range.map (f:=λm=>b.heap.objs.size+1+m) λc g r o=>r (by have o:b.heap.objs.size+1+c=b.heap.objs.size+1+g:=o;exact Ma o))
  rwa [nR] at this
 refine aC.eL ?_;intro bW aC;have bt:=aC.m5 bm (by have i:=a5 cb.heap.objs.size (c9 _) (by refine j Y ?_;exact g0 (qY _));refine⟨i.own,i.fn,i.hd,λr=>bp (List.mem_map.mp r) λA C o=>?_⟩;(refine bp (List.mem_map.mp C) λm U t=>?_;obtain rfl:=t);have o:b.heap.objs.size+1+m=cb.heap.objs.size:=o;rw[Y] at o;exact Mb o);have aD:=bt.hl (cs W 0) (W.W.frame 0 _ _ aT.bG.1 λg U y o=>aq g y o) λg u=>by
  refine aV λaB K=>?_;(refine dM (a.b9 g (cU _ u)) λbX bu bY bv t=>?_;(refine bo t λy a6=>?_;clear t));all_goals refine K ?_
  have aE:g<cb.heap.objs.size:=cr a6;refine(cV (?_) (bu) (?_) (bv) ⟨y,aq _ _ (cM _ a6)⟩)
  ·refine(?_:g≠b.heap.objs.size);refine j Y ?_;exact g0 (nE aE)
  ·refine j dC (j (propext dD) ?_);rintro(G|G)
   ·exact dn _ (G▸aE)
   ·refine bp (List.mem_map.mp G) λA C o=>?_;(refine bp (List.mem_map.mp C) λm U t=>?_;obtain rfl:=t);have o:b.heap.objs.size+1+m=g:=o;rw[Y] at o;have T4:cb.heap.objs.size+1+1+m<cb.heap.objs.size:=by refine j o ?_;exact aE
    exact Mc T4
 have aF:∀l,d7 (dO (e.cO (af l)) I led (dy scope (cl q (b.heap.objs.size+1) ba) b.heap.objs.size e.D aN aX)) ae:=λl=>⟨λg u=>by
  have i:=bd.own g u;have Z:=a.b9 g (cU _ (W.W.sub g u));refine⟨⟨i.1.new,i.1.ge,by refine(?_:g∉(af l).ae);refine j (an ..) ?_;exact i.1.dc⟩,λr=>?_⟩;rcases List.mem_append.mp r with r|r
  ·rcases List.mem_cons.mp r with r|r
   ·exact Z.1 r
   ·exact Z.2.2.1 r
  ·exact i.2 r⟩
 have gb:=a.drop;have eB:∀B:dq,B.bare=e.af.bare->∀A∈led,A.1≠e.D.locals/\h9 (e.cO B) A.1:=λB ad A C=>
  let⟨_,c,g⟩:=gb.ld A C
  ⟨c,g.new,g.ge,by refine(?_:A.1∉B.ae);refine j (k4 ad) (be (an 0) ?_);exact g.dc⟩
 have bw:∀g∈e.hd.br,g≠e.D.locals/\g∉led.map (·.1):=λg u=>⟨(gb.b9 g u).1,(gb.b9 g u).2.2.1⟩;have bx:∀(B:dq) z more k,B.bare=e.af.bare->N w h (dO (e.cO B) I led (dy scope (cl q (b.heap.objs.size+1) ba) b.heap.objs.size e.D aN aX)) z more k->N w h (e.cO B) I (more++led) k:=λB z more k ad bz=>
  bz.TK gb.dE ⟨gb.cE.new,gb.cE.ge,by refine(?_:_∉B.ae);refine j (k4 ad) (be (an 0) ?_);exact gb.cE.dc⟩ (eB B ad) bw
 have X:je w h e I led cb (dy scope (cl q (b.heap.objs.size+1) ba) b.heap.objs.size e.D aN aX) b.heap.objs.size:=⟨ar.cE.ge,ar.cE.new,xF (by refine j Y ?_;exact gZ _),by have:=ar.cE.dc;rw[show(dO (e.cO (af 0)) I led (dy scope (cl q (b.heap.objs.size+1) ba) b.heap.objs.size e.D aN aX)).af.ae=e.af.ae from an 0] at this;exact this,bx⟩;have aG:=bh b.heap.objs.size cb.heap.objs.size X;have a7:∀aH:H,N w h ((dO (e.cO (af 0)) I led (dy scope (cl q (b.heap.objs.size+1) ba) b.heap.objs.size e.D aN aX)).push (cs W 0)) (aN.map λY=>none) ((cb.heap.objs.size,a4 [])::(bH q.length).map λm=>(b.heap.objs.size+1+m,D m)) aH->
  g1 (aZ w) n (.compLoop (.ListComp bM [⟨target,iter,ifs,0⟩] scope pos) 0 (.ref L) (.ref cb.heap.objs.size) (f3 scope (cl q (b.heap.objs.size+1) ba) b.heap.objs.size e.D)) (ai (.ref cb.heap.objs.size) (f3 scope (cl q (b.heap.objs.size+1) ba) b.heap.objs.size e.D)) aH:=by
  intro aH bA;refine codeAny_loop d (λR bB=>∃l O as more z,R=v-l/\l<=v/\ah b.heap.objs.size l O more/\z.length=aN.length/\N w h ((dO (e.cO (af l)) I led (dy scope (cl q (b.heap.objs.size+1) ba) b.heap.objs.size e.D aN aX)).push (cs W l)) z ((cb.heap.objs.size,a4 O as)::more) bB) ?_ v ⟨0,[],0,_,_,rfl,e2 _,(h0 b.heap.objs.size D λm Q=>(a0 m Q).2),eG _,bA⟩;intro Y S bD;refine cA ?_;intro b0;refine aV λaB K=>?_;obtain⟨l,O,as,more,z,rfl,bF,a8,a9,T⟩:=bD;refine K ?_;(refine(?_:aL _ _ ((q3 (.ListComp bM [⟨target,iter,ifs,0⟩] scope pos) 0 (.ref L) (.ref cb.heap.objs.size) (f3 scope (cl q (b.heap.objs.size+1) ba) b.heap.objs.size e.D)).onRaise (λi=>do rb i (f3 scope (cl q (b.heap.objs.size+1) ba) b.heap.objs.size e.D);theTreesLotGoes i)) _ _ S));refine wpAny_noted<|j (bb ..)<|ab (lu (ab ?_));rcases gB l v with av|bG
  ·refine W.W.item l S _ _ av T.bG.1 λE aJ a3 bI bJ aK=>?_;have aw:ee ae S {S with heap:=aJ,toks:=a3}:=⟨aK,rfl,rfl,rfl⟩;have J:=step _ l E O as more _ z _ X av bI a8 bj a9 (T.item (aF l).own aw bJ);refine ab (cy J.run (λY aQ J=>?_) aG);refine ab (cy J.run (λY aR J=>?_) aG);refine ab (cy J.run (λY ak J=>?_) aG);refine aV λaB K=>?_;(refine gk J λax aS ay az bK bL aM=>?_;clear J);all_goals refine K ?_
   exact aI ⟨rfl,v-(l+1),by exact pS av,l+1,_,_,_,_,rfl,av,bK,bL.trans a9,aM⟩
  ·have:l=v:=kF bF bG;subst this;refine W.W.done S _ _ T.bG.1 λaJ a3 aK=>aI ?_;have aw:ee ae S {S with heap:=aJ,toks:=a3}:=⟨aK,rfl,rfl,rfl⟩;have aM:=T.drop.step aw (λg u=>((aF l).own g u).1) (λG=>((T.b9 _ (cU _ (W.W.sub _ G))).1 d)) d (λA C=>aw.heap _ _ (λG=>(T.b9 A.1 (cU _ (W.W.sub _ G))).2.2.1 (fN C)) (T.ld A C).1) λg u G=>((aF l).own g G).2 u;exact done _ _ O as more _ _ X a8 aM
 exact codeAny_compStart_list (a7 _ aD) (W.W.self 0 _ _ _ aD.bG.1 (a7 _ aD))
theorem CX{bM:am}{ifs:List am}{aN aX:List al}{br:List x}{P:Nat->p->au->Prop}{cH:Nat->au->Prop}(W:eY w n L br ae v P cH)(body:p->ao->eF Unit)(y:qq (.ListComp bM [⟨target,iter,ifs,0⟩] scope pos) target iter body)(af:Nat->dq)(z:∀l,(af l).bare=e.af.bare){cb:H}(a:N w h ((e.cO (af 0)).push (cs W 0)) I led cb)(A:d7 e ae)(B:e.l.bL)(ba:List (al×x))(q:iN scope aN aX=true)(b:Nat->List p->List (x×V)->Prop)(h0:b 0 [] [])(d:(U:x)->837<=U->p->H->Prop)(g:p->ao->gh->H->Prop)(C:∀U c,(X:je w h e I led cb (dy scope ba U e.D aN aX) U)->∀o s,d U X.hn o s->notedBy (aZ w) n (f3 scope ba U e.D) (λi k=>g (.ref c) (f3 scope ba U e.D) (.error i) k) o s)(step:∀U l E O R more c f s,(X:je w h e I led cb (dy scope ba U e.D aN aX) U)->l<v->P l E s.heap->b l O more->(dy scope ba U e.D aN aX).bL->f.length=aN.length->N w h ((dO (e.cO (af l)) I led (dy scope ba U e.D aN aX)).push (cs W (l+1))) f ((c,a4 O R)::more) s->
  aa w n (gi target (.ref L) E) (λY D=>aa w n (dX target (f3 scope ba U e.D) E) (λY F=>aa w n (body (.ref c) (f3 scope ba U e.D)) (λY j=>
   ∃r G t u,b (l+1) r t/\u.length=f.length/\N w h ((dO (e.cO (af (l+1))) I led (dy scope ba U e.D aN aX)).push (cs W (l+1))) u ((c,a4 r G)::t) j) (d U X.hn) F) (d U X.hn) D) (d U X.hn) s)
 (done:∀U c O R more f k,je w h e I led cb (dy scope ba U e.D aN aX) U->b v O more->N w h (dO (e.cO (af v)) I led (dy scope ba U e.D aN aX)) f ((c,a4 O R)::more) k->g (.ref c) (f3 scope ba U e.D) (.ok .next) k):
 aL (aZ w) n (newList []) (λm j=>aL (aZ w) n (re scope e.D.globals ba [] e.D.qual none .none (some e.D)) (λe7 J=>
  g1 (aZ w) n (.compStart (.ListComp bM [⟨target,iter,ifs,0⟩] scope pos) 0 (.ref L) m {e7 with scope:=kQ scope e.D}) (g m {e7 with scope:=kQ scope e.D}) J) M j) M cb:=
 CU W body y af z a A B ba [] (iN.CR q).1 (λK m=>CS (iN.CR q).2) qZ (λY=>b) (λY Y Y=>h0) d g C step done
theorem CY{bM:am}{ifs:List am}{aN aX:List al}{br:List x}{P:Nat->p->au->Prop}{cH:Nat->au->Prop}(W:eY w n L br ae v P cH)(body:p->ao->eF Unit)(z:qq (.ListComp bM [⟨target,iter,ifs,0⟩] scope pos) target iter body)(af:Nat->dq)(j:∀l,(af l).bare=e.af.bare){cb:H}(a:N w h ((e.cO (af 0)).push (cs W 0)) I led cb)(A:d7 e ae)(B:e.l.bL)(ba:List (al×x))(C:iN scope aN aX=true)(b:Nat->List p->List (x×V)->Prop)(h0:b 0 [] [])(f:(U:x)->837<=U->p->H->Prop)(D:∀U c,(X:je w h e I led cb (dy scope ba U e.D aN aX) U)->∀o s,f U X.hn o s->notedBy (aZ w) n (f3 scope ba U e.D) (λi k=>oH (aZ w) n M r (.ref c) (f3 scope ba U e.D) (.error i) k) o s)(step:∀U l E O R more c g s,(X:je w h e I led cb (dy scope ba U e.D aN aX) U)->l<v->P l E s.heap->b l O more->(dy scope ba U e.D aN aX).bL->g.length=aN.length->N w h ((dO (e.cO (af l)) I led (dy scope ba U e.D aN aX)).push (cs W (l+1))) g ((c,a4 O R)::more) s->
  aa w n (gi target (.ref L) E) (λY F=>aa w n (dX target (f3 scope ba U e.D) E) (λY G=>aa w n (body (.ref c) (f3 scope ba U e.D)) (λY J=>
   ∃m K q t,b (l+1) m q/\t.length=g.length/\N w h ((dO (e.cO (af (l+1))) I led (dy scope ba U e.D aN aX)).push (cs W (l+1))) t ((c,a4 m K)::q) J) (f U X.hn) G) (f U X.hn) F) (f U X.hn) s)
 (done:∀c O R more k,b v O more->N w h (e.cO (af v)) I ((c,a4 O R)::(more++led)) k->r (.ref c) k):oI w n e.D (.ListComp bM [⟨target,iter,ifs,0⟩] scope pos) scope ba r M (.ref L) cb:=
 ⟨CX W body z af j a A B ba C b h0 f (oH (aZ w) n M r) D step λU c O R more g k X Q u=>
  let y:=X.hl d (j v) u
  ⟨_,u.ch,λT S=>done c O R more _ Q (y.1.vQ aG X.new S y.2)⟩⟩
noncomputable abbrev m9(bM:am)(a:p)(D:ao):eF Unit:=bA bM D>>=λi=>call (.builtin "list.append") [a,i]>>=λW=>pure ()
theorem vR(bM target iter:am)(scope:bj):qq (.ListComp bM [⟨target,iter,[],0⟩] scope pos) target iter (m9 bM):=λW W W=>rfl
noncomputable abbrev CZ(u bM:am)(a:p)(D:ao):eF Unit:=hF u D (bA u D)>>=λb=>if b then m9 bM a D else pure ()
theorem T5(bM target iter u:am)(scope:bj):qq (.ListComp bM [⟨target,iter,[u],0⟩] scope pos) target iter (CZ u bM):=λit c d=>by
 unfold q3;simp only[j1,mq,List.getElem?_nil,mB,tQ,bind_assoc,pure_bind,if_true,bne_self_eq_false,fO,if_false,iu];refine congrArg _ (funext λW=>congrArg _ (funext λa=>?_));cases a with
 |none=>rfl
 |some e=>dsimp only;refine congrArg _<|funext λW=>congrArg _<|funext λW=>congrArg _ (funext λb=>?_);cases b<;>simp only[if_true,bind_assoc,pure_bind,fO,if_false,m9]
theorem sB{bM:am}{g:p->H->Prop}{r:Unit->H->Prop}{D:ao}(f:aa w n (bA bM D) (λai j=>O.length<eI/\∃(e:aP) (b:List (Option p)) (more:List (x×V)),N w h e b ((c,a4 O R)::more) j/\∀k,N w h e b ((c,a4 (O++[ai]) (R+1))::more) k->r () k) g s):aa w n (m9 bM (.ref c) D) r g s:=by refine⟨ab<|f.J λai j ⟨l,e,b,more,a,m⟩=>ab<|cy (oF (M:=g) (r:=λq k=>N w h e b ((c,a4 (O++[ai]) (R+1))::more) k) a 0 d l λk i=>i).run (λW k i=>aI (m k i)) λW W o=>o⟩
section
variable{bM target iter:am}{scope:bj}{aN aX:List al}{L:x}{br ae:List x}{v:Nat}{P:Nat->p->au->Prop}{cH:Nat->au->Prop}
theorem T6{T:cm}{hR:ao}{k6:x}(Z:km w h e T n (hR::aB))(as:n.frames=some (hR::aB))(au:hR.frame=some k6)(ab:e.D.frame=some k6)(W:eY w n L br ae v P cH)(af:Nat->dq)(u:∀l,(af l).bare=e.af.bare)(a:N w h ((e.cO (af 0)).push (cs W 0)) I led s)(av:d7 e ae)(aw:e.l.bL)(ba:List (al×x))(f:List al)(ax:jR scope aN aX=true)(ay:∀ac ad,cellsFrom (ac+1) scope.names ad=cl f (ac+1) ad)(az:f.Nodup)(aA:v<eI)(y:x->Nat->List p->List (x×V)->Prop)(h0:∀(U:x) (A:Nat->V),(∀m:Nat,m<f.length->(A m).data=.cell none)->y U 0 [] ((bH f.length).map λm=>(U+1+m,A m)))(step:∀U l E O R more c q s (ag:p->H->Prop) (B:837<=U),let ah:aP:=dO (e.cO (af l)) I led (dy scope (cl f (U+1) ba) U e.D aN aX);km w h ah (T.k5 U B) n (hR::aB)->l<v->P l E s.heap->y U l O more->let G:aP:=ah.push (cs W (l+1));let aC:aP:=(dO (e.cO (af (l+1))) I led (dy scope (cl f (U+1) ba) U e.D aN aX)).push (cs W (l+1));let aj:p->H->Prop:=gN w h (T.k5 U B) (hR::aB) k6;G.l.bL->q.length=aN.length->(∀ai C D k,y U (l+1) (O++[ai]) C->D.length=q.length->N w h aC D ((c,a4 O R)::C) k->ag ai k)->N w h G q ((c,a4 O R)::more) s->
  aa w n (gi target (.ref L) E) (qh w n target G.D E bM ag aj) aj s)
 (done:∀U c O R more k,y U v O more->O.length=v->N w h (e.cO (af v)) I ((c,a4 O R)::(more++led)) k->r (.ref c) k)
 (aD:autoParam (M=gN w h T (hR::aB) k6) b0):oI w n e.D (.ListComp bM [⟨target,iter,[],0⟩] scope pos) scope ba r M (.ref L) s:=by
 subst aD;have J:=Z (af 0) _ _ _ (u 0) a.drop;have aE:∀{U},je w h e I led s (dy scope (cl f (U+1) ba) U e.D aN aX) U->CP T (hR::aB) U:=λ{U} X=>
  have K:∀g,s.heap.get? U≠some g:=λg o=>cz (X.now.symm.trans o)
  ⟨by cases o:T.base.get? U with|none=>rfl|some g=>exact absurd (J.a9 U g o) (K g),λb=>let⟨g,o⟩:=J.oG U b;K g o,λb=>by
   have aF:∀F:List ao,s.heap.FunFrames T.base F->U∈F.filterMap (·.frame)->False:=by
    intro F;induction F with
    |nil=>intro V b;simp at b
    |cons o a2 aH=>
     intro ak b;refine aV λa3 aI=>?_;(refine ek ak λV am aJ=>?_;clear ak;(refine n5 am λac g aK V aL V=>?_;clear am));refine aI ?_;rw[jw,aK] at b;rcases List.mem_cons.mp b with rfl|b
     ·exact K g aL
     ·exact aH aJ b
   exact aF _ J.jP b⟩
 refine⟨CU W (m9 bM) (vR bM target iter scope) af u a av aw ba f ax ay az (λU l O more=>y U l O more/\O.length=l) (λU A b=>⟨h0 U A b,rfl⟩) (λU B=>gN w h (T.k5 U B) (hR::aB) k6) (oH (aZ w) n _ r) (λU c X o s z=>?_) (λU l E O R more c q s X an aM t aO aQ a=>?_) λU c O R more q k X t i=>
  let ap:=X.hl d (u v) i
  (bF (_) (i.ch) (λaq Q=>done U c O R more _ t.1 t.2 (ap.1.vQ aG X.new Q ap.2)))⟩
 ·refine qo (r:=λW k=>oH (aZ w) n _ r (.ref c) (f3 scope (cl f (U+1) ba) U e.D) (.error o) k) as au ab z λaq ai=>?_;obtain⟨W,R,aR⟩:(T.k5 U X.hn).X aq:=ai.z5;exact(bF (R) (aR) (λa5 Q=>T2 ab (ai.drop (aE X) Q) λk ai=>ai.kl))
 ·have aS:km w h (dO (e.cO (af l)) I led (dy scope (cl f (U+1) ba) U e.D aN aX)) (T.k5 U X.hn) n (hR::aB):=λS D C k aT i=>by have ar:S.bare=e.af.bare:=aT.trans (u l);have aU:=X.ga S _ _ _ ar i;have aW:=Z S _ _ _ ar aU;have aY:(dO (e.cO (af l)) I led (dy scope (cl f (U+1) ba) U e.D aN aX)).af.ae=e.af.ae:=k4 (u l);refine j aY<|aW.k5 X.hn i.ch X.dc
  refine(step U l E O R more c q s _ X.hn aS an aM t.1 aO aQ ?_ a).mono (λW a6 Y=>aa.mono Y (λW a7 Y=>sB (h:=h) (O:=O) (R:=R) Y) λW W z=>z) λW W z=>z;(exact λai C D a8 a0 a1 i=>⟨by refine j t.2 ?_;exact uB aA an,_,_,_,i,λk i=>(fR (_) (_) (_) (_) (⟨a0,by simp[t.2]⟩) (a1) (i))⟩)
theorem jf(W:eY w n L br ae v P cH)(af:Nat->dq)(z:∀l,(af l).bare=e.af.bare)(a:N w h ((e.cO (af 0)).push (cs W 0)) I led s)(A:d7 e ae)(B:e.l.bL)(ba:List (al×x))(C:iN scope aN aX=true)(D:v<eI)(d:Nat->List p->List (x×V)->Prop)(h0:d 0 [] [])(step:∀U l E O R more c f s (u:p->H->Prop),l<v->P l E s.heap->d l O more->let m:aP:=(dO (e.cO (af l)) I led (dy scope ba U e.D aN aX)).push (cs W (l+1));let F:aP:=(dO (e.cO (af (l+1))) I led (dy scope ba U e.D aN aX)).push (cs W (l+1));m.l.bL->f.length=aN.length->(∀ai o q k,d (l+1) (O++[ai]) o->q.length=f.length->N w h F q ((c,a4 O R)::o) k->u ai k)->N w h m f ((c,a4 O R)::more) s->
  aa w n (gi target (.ref L) E) (qh w n target m.D E bM u dh) dh s)
 (done:∀c O R more k,d v O more->O.length=v->N w h (e.cO (af v)) I ((c,a4 O R)::(more++led)) k->r (.ref c) k):
 oI w n e.D (.ListComp bM [⟨target,iter,[],0⟩] scope pos) scope ba r M (.ref L) s:=
 CY W (m9 bM) (vR bM target iter scope) af z a A B ba C (λl O more=>d l O more/\O.length=l) ⟨h0,rfl⟩ (λW W=>dh) (λW W W W W g=>g.elim) (λU l E O R more c f s X y G b J K a=>
  by refine(step U l E O R more c f s _ y G b.1 J K ?_ a).mono (λW T t=>aa.mono t (λW Y t=>sB (h:=h) (O:=O) (R:=R) t) λW W g=>g) λW W g=>g;(exact λai o q Z Q S i=>⟨by refine j b.2 ?_;exact uB D y,_,_,_,i,λk i=>(fR (_) (_) (_) (_) (⟨Q,by simp[b.2]⟩) (S) (i))⟩))
  λc O R more k b i=>done c O R more k b.1 b.2 i
theorem C0{u:am}(W:eY w n L br ae v P cH)(a:N w h (e.push (cs W 0)) I led s)(K:d7 e ae)(Q:e.l.bL)(ba:List (al×x))(S:iN scope aN aX=true)(T:v<eI)(f:Nat->List p->List (x×V)->Prop)(h0:f 0 [] [])(step:∀U l E O R more c g s (C:p->H->Prop) (D:H->Prop),l<v->P l E s.heap->f l O more->let i:aP:=(dO e I led (dy scope ba U e.D aN aX)).push (cs W (l+1));i.l.bL->g.length=aN.length->(∀ai b d k,f (l+1) (O++[ai]) b->d.length=g.length->N w h i d ((c,a4 O R)::b) k->C ai k)->
  (∀b d k,f (l+1) O b->d.length=g.length->N w h i d ((c,a4 O R)::b) k->D k)->N w h i g ((c,a4 O R)::more) s->
  aa w n (gi target (.ref L) E) (λV F=>aa w n (dX target i.D E) (λV G=>aa w n (hF u i.D (bA u i.D)) (i3 (aa w n (bA bM i.D) C dh) D) dh G) dh F) dh s)
 (done:∀c O R more k,f v O more->N w h e I ((c,a4 O R)::(more++led)) k->r (.ref c) k):
 oI w n e.D (.ListComp bM [⟨target,iter,[u],0⟩] scope pos) scope ba r M (.ref L) s:=
 CY W (CZ u bM) (T5 bM target iter u scope) (λV=>e.af) (λV=>rfl) a K Q ba S (λl O more=>f l O more/\O.length<=l) ⟨h0,e2 _⟩ (λK K=>dh) (λK K K K K m=>m.elim) (λU l E O R more c g s X J Y q Z ac a=>
  (step U l E O R more c g s (λai t=>∃b d,f (l+1) (O++[ai]) b/\d.length=g.length/\N w h ((dO e I led (dy scope ba U e.D aN aX)).push (cs W (l+1))) d ((c,a4 O R)::b) t) (λt=>∃b d,f (l+1) O b/\d.length=g.length/\N w h ((dO e I led (dy scope ba U e.D aN aX)).push (cs W (l+1))) d ((c,a4 O R)::b) t) J Y q.1 Z ac (λW b d W c y z=>⟨b,d,c,y,z⟩) (λb d W c y z=>⟨b,d,c,y,z⟩) a).mono (λW F j=>j.mono (λW G j=>⟨ab (j.J λy t j=>by
   cases y with
   |true=>replace j:aa _ _ _ _ _ _:=j;refine cA ?_;intro ad;exact(sB (j.mono (λai t ⟨b,d,A,B,o⟩=>⟨by have:=q.2;exact KU T J this,_,_,_,o,λk o=>⟨_,_,_,_,⟨A,by have:=q.2;simp;exact IX this⟩,B,o⟩⟩) λW W m=>m)).run
   |false=>obtain⟨b,d,A,B,o⟩:∃b d,f (l+1) O b/\_/\_:=j;exact aI (fR (_) (_) (_) (_) (⟨A,ml q.2⟩) (B) (o)))⟩) λW W m=>m) λW W m=>m)
  λc O R more k q o=>done c O R more k q.1 o
inductive C1(w:aD)(h:x->a1)(n:aQ)(e:aP)(I:List (Option p))(m:Nat)(bM target:am)(scope:bj)(ba:List (al×x))(aN aX:List al)(r:eb->H->Prop):p->H->Prop
 |mk (L:x) (br ae:List x) (v:Nat) (P:Nat->p->au->Prop) (cH:Nat->au->Prop) (W:eY w n L br ae v P cH) (af:Nat->dq) (led:List (x×V)) (sh:Nat->List p->List (x×V)->Prop) {ke:H}
  (abE:∀l,(af l).bare=e.af.bare) (a:N w h ((e.cO (af 0)).push (cs W 0)) I led ke) (abx:d7 e ae) (abA:v<eI) (h0:sh 0 [] [])
  (step:∀U l E O R more c ql s (B0:p->H->Prop),l<v->P l E s.heap->sh l O more->let u3:aP:=(dO (e.cO (af l)) I led (dy scope ba U e.D aN aX)).push (cs W (l+1));let Tn:aP:=(dO (e.cO (af (l+1))) I led (dy scope ba U e.D aN aX)).push (cs W (l+1));u3.l.bL->ql.length=aN.length->(∀ai CV CW k,sh (l+1) (O++[ai]) CV->CW.length=ql.length->N w h Tn CW ((c,a4 O R)::CV) k->B0 ai k)->N w h u3 ql ((c,a4 O R)::more) s->
  aa w n (gi target (.ref L) E) (qh w n target u3.D E bM B0 dh) dh s)
  (done:∀c O R more k,sh v O more->O.length=v->N w h (e.cO (af v)) (I.set m (some (.ref c))) ((c,a4 O R)::(more++led)) k->r .next k):C1 w h n e I m bM target scope ba aN aX r (.ref L) ke
theorem C2{c C:az}{r:eb->H->Prop}{bM target iter:am}{scope:bj}{aN aX:List al}(aE:N w h e I led s)(ba:List (al×x))(V:xj (.ListComp bM [⟨target,iter,[],0⟩] scope pos) (some (.Name i c)) C.line e.D=pure true)(Y:lv scope e.D=pure ba)(D:iN scope aN aX=true)(F:e.l.bL)(m:Nat)(aW:some i=e.l.names[m]?)(u:true=tM m I.length)(f:aa w n (bA iter e.D) (ov w n (C1 w h n e I m bM target scope ba aN aX r) dh) dh s)(v:autoParam (∀i,q2 iter e.D i=pure i) Zzi):aa w n (g2 (.Assign [.Name i c] (.ListComp bM [⟨target,iter,[],0⟩] scope pos) C) e.D) r M s:=by
 have y:=D;simp only[iN,eH,beq_iff_eq,hc,iw,decide_eq_true_eq,bne_iff_ne,pr] at y;refine aV λZ z=>?_;(refine bE y λk ac=>?_;clear y;(refine bE k λk aF=>?_;(refine bE k λk aH=>?_;obtain⟨⟨⟨⟨ad,aJ⟩,aK⟩,aM⟩,aO⟩:=k)));all_goals refine z ?_
 refine⟨j (exec_Assign_Name_used _ _ _ _ V)<|ab<|lu<|ab<|(?_:aL _ n (do let _<-GO (.ListComp bM [⟨target,iter,[],0⟩] scope pos) scope e.D _ (newList []) false (bA iter e.D) (some (dX (.Name i c) e.D))) _ _ s)⟩;refine ab (cy (wpAny_comprehension_free (E:=dh) (use:=some (dX (.Name i c) e.D)) (Q:=λV b=>r .next b) d v Y ad (λi ae u=>(ac i ae).resolve_left λaf=>af u)
  (cy f.run (λaP ag ah=>cy (aa.run ah) (λit ai aj=>?_) λY Y l=>l) λY Y l=>l)) (λY b ak=>aI (aI ak)) λY Y l=>l.elim)
 refine cA ?_;intro aQ;refine aV λZ z=>?_;obtain⟨aR,aS,aT,G,P,aU,W,J,led,an,K,a,ao,ap,aq,step,done⟩:=aj;all_goals refine z ?_
 refine CX W (m9 bM) (vR bM target iter scope) J K a ao F ba D (λq O o=>an q O o/\O.length=q) ⟨aq,rfl⟩ (λW W=>dh) (λar as au b=>compPost (aZ w) n dh (some (dX (.Name i c) e.D)) (λW b=>r .next b) ar as.locals au b) (λW W W W W i=>i.elim) (λA q av O R o t L s X S aw g ax ay a=>by refine(step A q av O R o t L s _ S aw g.1 ax ay ?_ a).mono (λW ag B=>aa.mono B (λW ai B=>sB (h:=h) (O:=O) (R:=R) B) λW W i=>i) λW W i=>i;(exact λaY a0 a1 a2 aA aB p=>⟨by refine j g.2 ?_;exact uB ap S,_,_,_,p,λb p=>(fR (_) (_) (_) (_) (⟨aA,by simp[g.2]⟩) (aB) (p))⟩)) λA t O R o L b X g p=>?_;have T:=X.hl d (K G) p;refine(?_:aL _ n (dX (.Name i c) e.D (.ref t)) _ _ _);refine(cp (M:=dh) (d8 (e:=(e.cO (J G)).push (vP A)) T.1 F m aW u λa5 U=>?_)).run;refine bo U.bG.1 λaC aD=>(bF (aC) (aD) (λa3 v=>done t O R o _ g.1 g.2 (U.vQ aG X.new v T.2)))
end
theorem cf.dU:∀{O:List p} {ns:List Nat} {aU:List p} {aw:List Nat},cf O ns->cf aU aw->cf (O++aU) (ns++aw)
 |[],[],_,_,_,a=>a
 |_::_,_::_,_,_,a,b=>⟨a.1,cf.dU a.2 b⟩
theorem cf.gO(v:Nat)(u:aF):cf [aj v u] [v]:=⟨⟨u,rfl⟩,trivial⟩
noncomputable def na(a:Nat):List Nat:=(bH 3).map λl=>a/2^(10*(2-l))&&&1023
noncomputable def nb(a:List Nat)(b:List UInt8):List Nat:=na (jc (b.map j5++a++[0,0,0])^^^1)
theorem T7(K:bb h)(L:aH w h s)(A:aR n 5 20){ns:List Nat}{m:List UInt8}(Z:s.heap.get? G=some (a4 O R))(aa:837<=G)(M:cf O ns)(ab:∀v∈ns,v<2^30)(bi:ns.length<=100)(P:m.length<=100)(f:∀c aU l k,bP [] s k->aH w h k->k.heap.get? c=some (a4 aU l)->s.heap.get? c=none->837<=c->cf aU (nb ns m)->r (.ref c) k):bk w n (.call (.ref 109) ⟨[.ref G,.bytes m.toArray u],[]⟩) (bW r) s:=by
 refine mZ (C:=u5) (q:=5) (S:=20) (bQ:=[(y "data",.ref G),(y "customization_string",.bytes m.toArray u)]) [y "polymod"] .none L trivial A (RA K) (λS=>by kernel_rfl) (λS=>by kernel_rfl) .(0) .(1) .(0) d d ?_;intro p Q e ac ar ad as g ae a;have x:=ae 0 _ d;replace a:N w h _ _ [(p+1,Q 0)] e:=a;have B:aR (n.deeper (u5.D p (cl [y "polymod"] (p+1) []))) 4 17:=aR.deeper A _;have D:ns.length+m.length+3<=sizeLine:=ck (K0 bi P);have E:=M.len;refine seq<|bN<|aE ?_;intro z;refine a2 (a2 ?_);refine c6 a g 0 d lS lZ ?_;refine Y a g 1 d d<|CF a B.bd (ck (by simp;exact pV P)) λau T av e a F=>c6 a g 0 d lS lZ<|Y a g 0 d d<|vK a (a.bc Z bC aa) (KZ D E) λaw ax e a=>jL a (a.at 1 d) (a.at 0 d) (by refine j F.len ?_;simp;exact KX D E) λay e a=>?_;refine a2<|aE ?_;intro z;refine f7<|a8 0 a λo e a=>⟨ey d,?_⟩;replace a:=a.e8 [aj 0 o];generalize e.heap.objs.size=az at a;refine dJ 3 _ a g 1 d vh<|CG a (a.at 0 d) .(1) (b6 d) (aap (aj 0 o) []) λaA e a=>jL a (a.at 2 d) (a.at 0 d) (by simp only[dZ,F.len];simp;exact KY D E) λaf e a=>?_;have ag:cf (T++O++(he 3 [aj 0 o]).flatten) ((m.toArray.toList.map j5)++ns++[0,0,0]):=(F.dU M).dU (dS (⟨o,rfl⟩) (⟨o,rfl⟩) (⟨o,rfl⟩) (trivial));replace a:=a.cd (d6:=[(af,a4 (T++O++(he 3 [aj 0 o]).flatten)),(p+1,Q 0)]) (by simp);refine bx a g 2 d d ?_;intro e ad a;refine seq<|bN<|aE ?_;intro z;refine a2<|b3 a g 2 d Bq Au<|Y a g 2 d d ?_;have U:=a.ld _ aG;refine⟨a.Z.l,Cy K a.Z B.mono U.1 U.2.2.ge ag ?_ λaB e R L=>?_⟩
 ·intro v bi;rcases List.mem_append.mp bi with bi|bi
  ·rcases List.mem_append.mp bi with bi|bi
   ·(refine bp (List.mem_map.mp bi) λah K i=>?_;obtain rfl:=i);exact kG ah.toNat_lt .(1)
   ·exact ab v bi
  ·simp at bi;refine j bi ?_;decide
 replace a:=a.call R L;refine a8 1 a λK e a=>m2 a λaC e a=>iL a g 1 d x .(0) d λai e x a=>?_;generalize ak:jc (m.toArray.toList.map j5++ns++[0,0,0])^^^1=V at a x;replace a:=a.cd (d6:=[(p+1,ai)]) (by simp);refine seq<|b2<|aE ?_;intro z;refine ie (aN:=[y "i"]) (aX:=[]) _ d (by decide+kernel)<|aE ?_;intro z;refine c6 a g 3 d sc ss<|c6 a g 4 d hN hQ<|dJ 3 _ a g 1 d vh<|iK a λj K K K e a=>sq (v:=3) B.bd a (a.at 0 d) .(1) λaD e al a=>m0 a ?_;replace a:=a.cd (cJ _ _);refine jf (aN:=[y "i"]) (aX:=[]) _ (λK=>.none) (λK=>rfl) a al g _ (by decide+kernel) (ck .(1)) (λl aU am=>am=[]/\cf aU ((bH l).map λl=>V/2^(10*(2-l))&&&1023)) ⟨rfl,trivial⟩ ?_ ?_
 ·(intro aF l aI aU W K c aJ a5 aK an t X ac aL H ao ap b;(refine bo t λaM i=>?_;clear t;obtain rfl:=i);(refine bE X λi I=>?_;clear X;obtain rfl:=i));(refine bo (hj ao) λaO i=>?_;obtain rfl:=i);have aq:(((3:Nat):Int)-1+(l:Int)*-1)=((2-l:Nat):Int):=Io an;refine dF<|cp<|d8 b H 0 d d λa5 b=>a2<|a2<|cR b H .(0) d (b.bG.2.1.2 _ aG) x<|a2<|a8 10 b λX a5 b=>Y b H 0 d d ?_;rw[aq];refine hr b Iu λY a5 b=>m3 b λY a5 b=>a8 1023 b λY a5 b=>l0 b λaP a5 b=>ap _ [] _ _ ⟨rfl,?_⟩ (by dsimp) b;rw[h1,g3];exact I.dU (cf.gO _ _)
 ·(intro c aU W Y a5 t aQ b;(refine bE t λi I=>?_;clear t;obtain rfl:=i));have J:=b.ld _ aG;exact f c aU W a5 b.aS b.Z J.1 J.2.2.new J.2.2.ge (by rw[nb,na];rw[show jc (m.map j5++ns++[0,0,0])^^^1=V from ak];exact I)
theorem qr{c:Nat}(f:r (.bool (c==b)) s):aa w n (f1 .Eq (aj c u) (aj b S)) r M s:=qi (by
 have a:((c:Int)==(b:Int))=(c==b):=by cases f:(c==b)<;>simp_all<;>exact uC f
 refine j a ?_;exact f)
theorem nc{c:Nat}(f:r (.bool (c !=b)) s):aa w n (f1 .NotEq (aj c u) (aj b S)) r M s:=qj (by
 have a:((c:Int) !=(b:Int))=(c !=b):=by cases f:(c !=b)<;>simp_all<;>exact uC f
 refine j a ?_;exact f)
theorem qs{c:Nat}(f:r (.bool (decide (c<b))) s):aa w n (f1 .Lt (aj c u) (aj b S)) r M s:=oz (by
 have a:decide ((c:Int)<(b:Int))=decide (c<b):=by simp
 refine j a ?_;exact f)
theorem vS{c:Nat}(f:r (.bool (decide (b<c))) s):aa w n (f1 .Gt (aj c u) (aj b S)) r M s:=iJ (by
 have a:decide ((c:Int)>(b:Int))=decide (b<c):=by simp
 refine j a ?_;exact f)
theorem T8(g:bb h)(L:aH w h s)(A:aR n 5 20){ns:List Nat}{e:List UInt8}(t:s.heap.get? G=some (a4 O R))(x:837<=G)(i:cf O ns)(y:∀v∈ns,v<2^30)(bi:ns.length<=100)(l:e.length<=100)(f:∀k,bP [] s k true->aH w h k->r (.bool (jc (e.map j5++ns)==1)) k):bk w n (.call (.ref 116) ⟨[.ref G,.bytes e.toArray u],[]⟩) (bW r) s:=by
 refine cZ (q:=4) (S:=17) (RB g) PT (.none true) L trivial A.mono ?_;intro C b D E F c a A;have m:=i.len;refine seq<|b2<|aE ?_;intro H;refine lT<|b3 a c 0 d Bq Au<|a2<|c6 a c 1 d lS lZ<|Y a c 1 d d<|CF a A.bd (ck (by simp;exact pV l)) λI J K b a o=>c6 a c 1 d lS lZ<|Y a c 0 d d<|vK a (a.bc t bC x) (ck (uL bi m)) λM N b a=>a.eL ?_;intro P a;refine jL a (a.at 1 d) (a.at 0 d) (ck (by refine j o.len ?_;simp;exact O3 bi l m)) λQ b a=>?_;have p:=a.ld _ aG;refine⟨a.Z.l,Cy g a.Z A.mono p.1 p.2.2.ge (o.dU i) ?_ λT b R L=>?_⟩
 ·intro v bi;rcases List.mem_append.mp bi with bi|bi
  ·(refine bp (List.mem_map.mp bi) λz W B=>?_;obtain rfl:=B);exact kG z.toNat_lt .(1)
  ·exact y v bi
 replace a:=a.call R L;refine a8 1 a λW b a=>qr<|f _ a.aS a.Z
noncomputable def nd(ext:Bool):List UInt8:=if ext then[115,104,97,109,105,114,95,101,120,116,101,110,100,97,98,108,101] else[115,104,97,109,105,114]
theorem C3(ext:Bool):(nd ext).length<=100:=by cases ext<;>decide
theorem C4(c:bb h)(L:aH w h s)(A:aR n 2 8){ext:Bool}(f:∀u k,bP [] s k true->aH w h k->r (.bytes (nd ext).toArray u) k):bk w n (.call (.ref 208) ⟨[.bool ext],[]⟩) (bW r) s:=by
 refine cZ (q:=1) (S:=5) (RK c) Qc (.none true) L trivial A.mono ?_;intro e g i j l b a A;refine seq<|ifs<|gq<|Y a b 0 d d<|cn ?_;cases ext with
 |true=>refine d2<|seq<|b2<|eA a b 0 d QY<|f _ _ a.aS a.Z
 |false=>refine dw<|seq<|b2<|eA a b 1 d Bg<|f _ _ a.aS a.Z
noncomputable abbrev ds(G:List Nat)(u:aF):Value:=.str ⟨G.toArray⟩ u
theorem k7{G:List Nat}{i:Nat}(a:N w h e I led s)(aW:m<2^62)(b:G[m]?=some i)(f:∀u k,N w h e I led k->r (ds [i] u) k)(d:autoParam (ly slice false (ds G S) (aj m u)=lz [ds G S,aj m u] (hG (ds G S) (aj m u))) b0):aa w n (lx value slice (ds G S) (aj m u)) r M s:=by have g:m<G.length:=(List.getElem?_eq_some_iff.mp b).1;refine oA (nS _ _ _) F.slot_str_getitem.lookup (P.getItem_str (c:=i) (by simp;exact Md aW) ?_ (f _ _ a.a3)) d;have l:(⟨G.toArray⟩:al).length=G.length:=cN ..;refine j l (j (GF fm (KT g)) ?_);simpa using b
theorem oJ{c b:List Nat}(a:N w h e I led s)(g:c.length+b.length<=eI)(f:∀u k,N w h e I led k->r (ds (c++b) u) k):aa w n (fg .Add (ds c u) (ds b S)) r M s:=by
 refine⟨PyProof.Rows.add_str (λi l=>?_) (by assumption)⟩;have d:(⟨c.toArray⟩:al)++(⟨b.toArray⟩:al)=⟨(c++b).toArray⟩:=by refine(?_:xG _ _=_);simp[xG]
 refine j d<|f _ _ a.a3
noncomputable def jg:List Nat:=[98,100,102,103,104,106,107,108,109,110,112,114,115,116,118,122]
noncomputable def l4:List Nat:=[97,105,111,117]
noncomputable def cv(m:Nat):List Nat:=[jg.getD (m/64) 0,l4.getD (m/16&&&3) 0,jg.getD (m&&&15) 0]
theorem C5:bK (ak w h) 3 (y "_OUTER")=some (some (ds jg 389)):=by kernel_rfl
theorem T9:bK (ak w h) 3 (y "_INNER")=some (some (ds l4 391)):=by kernel_rfl
theorem getD_at{G:List Nat}(f:m<G.length):G[m]?=some (G.getD m 0):=by refine j dY (j (da f) ?_);rfl
theorem Ua(g:bb h)(L:aH w h s)(A:aR n 2 8)(aW:m<1024)(f:∀u k,bP [] s k true->aH w h k->r (ds (cv m) u) k):bk w n (.call (.ref 125) ⟨[aj m u],[]⟩) (bW r) s:=by refine cZ (q:=1) (S:=5) (RC g) PV (.none true) L trivial A.mono ?_;intro i b j l o c a A;have p:(m/16&&&3)<=3:=my;have e:(m&&&15)<=15:=my;refine seq<|b2<|aE ?_;intro t;refine a2<|a2<|dr<|eA a c 0 d C5<|a2<|Y a c 0 d d<|a8 6 a λW b a=>m3 a λW b a=>k7 a (Kl aW) (getD_at (by refine(?_:m/2^6<16);exact Me aW)) λW b a=>?_;refine dr ?_;refine eA a c 1 d T9<|a2<|a2<|Y a c 0 d d<|a8 4 a λW b a=>m3 a λW b a=>a8 3 a λW b a=>l0 a λW b a=>k7 a (cF my .(1)) (getD_at (by refine(?_:(m/2^4&&&3)<4);exact tr my)) λW b a=>?_;refine oJ a (ey d) λW b a=>dr<|eA a c 0 d C5<|a2<|Y a c 0 d d<|a8 15 a λW b a=>l0 a λW b a=>k7 a (O9 e) (getD_at (by refine(?_:(m&&&15)<16);exact Mf e)) λW b a=>?_;refine oJ a (ey d) λW b a=>f _ _ a.aS a.Z
theorem fy(a:n.handled=none)(L G:x)(b:G≠L)(aM:Array p):eY w n L [L,G] [L] aM.size (λm E W=>aM[m]?=some E) (λm f=>f.IsListIter L G m/\f.IsList G aM):=
 ⟨k1.of (xo a _ _ b aM),λg f ⟨⟨h,c,_⟩,⟨i,d,_⟩⟩ j e=>by
  refine ed e ?_ ?_
  ·exact⟨_,c⟩
  ·exact⟨_,d⟩⟩
theorem gP(q:n.handled=none)(a:N w h e I led s)(b:s.heap.IsList G aM)(g:G≠e.D.locals/\G∉e.af.ae/\G∉led.map (·.1)/\837<=G)(f:∀L k,(l:G≠L)->d7 e [L]->N w h (e.push (cs (fy (w:=w) q L G l aM) 0)) I led k->r (.ref L) k):aa w n (hX (.ref G)) r M s:=by
 refine⟨xn b ?_⟩;have l:G≠s.heap.objs.size:=λt=>by(refine bp b λJ c W=>?_;clear b);exact dn _ (t▸cr c)
 have i:=a.alloc (J:={cls:=.type "list_iterator",data:=.fields #[.ref G,.int 0 0]}) d;have p:=i.at 0 d;have u:=i.cd (cJ _ _);(refine f _ _ l ⟨λv m=>by refine j (List.mem_singleton.mp m) ?_;exact⟨a.fresh,a.hP.hd⟩⟩ (u.hl _ ⟨(du (_) (p) (rfl) (rfl)),b.at λJ c=>cM _ c⟩ λv m=>?_));refine ed m ?_ ?_
 ·have o:=i.ld _ aG;exact(cV (o.2.1) (o.2.2.dc) ((List.nodup_cons.mp i.dE).1) (o.2.2.ge) ⟨_,p⟩)
 ·(refine bp b λJ c W=>?_;clear b);exact(cV (g.1) (g.2.1) (g.2.2.1) (g.2.2.2) ⟨J,cM _ c⟩)
theorem Ub(m:bb h)(L:aH w h s)(A:aR n 4 20){ns:List Nat}(o:s.heap.get? G=some (a4 O R))(p:837<=G)(t:cf O ns)(B:∀v∈ns,v<1024)(f:∀c k,bP [] s k->aH w h k->GenR w s ns.length (λl e=>∃u,e=ds (cv (ns.getD l 0)) u) 2 8 c k->r (.ref c) k):bk w n (.call (.ref 139) ⟨[.ref G],[]⟩) (bW r) s:=by
 refine cZ (q:=3) (S:=17) (RF m) PY .none L trivial A.mono ?_;intro C D aa ab E x a A;have H:G≠C:=a.kY o;refine seq<|b2<|jK (aN:=[y "i"]) (aX:=[y "_word"]) _ d A.hm (by decide+kernel)<|Y a x 0 d d ?_;have I:O.toArray.size=ns.length:=by simp[t.len]
 refine gP A.bd a (IsList.new (a.bc o bC p)) (dS (H) (bC) (bC) (p)) λJ D K M a=>mX (aN:=[y "i"]) (aX:=[y "_word"]) (λN P=>fy P J G K _) A.bd a M d x (138,134) d .(1) _ d (by decide+kernel) (q:=2) (S:=8) (F:=λl e=>∃u,e=ds (cv (ns.getD l 0)) u) ?_ ?_
 ·intro ac code ad ae N l af ag k ah ai g aj Q ak T U V b;(refine eJ (hk U) λal am i=>?_;obtain rfl:=i);(refine db (t.at (by simpa using T)) λv an z i=>?_;obtain rfl:=i);refine dF (cp (bx b g 1 d d ?_));intro k E b;refine b3 b g 0 d Q8 PW<|Y b g 1 d d<|⟨b.Z.l,Ua m b.Z Q (B v (cx z)) λW k R L=>?_⟩;have X:ns.getD l 0=v:=by refine j dY (j z ?_);rfl
  exact V _ _ _ _ ⟨W,by exact j X d⟩ (by rfl) (b.call R L)
 ·intro c k b Z;exact f c k b.aS b.Z (I▸Z.sr)
noncomputable abbrev a6(G:List UInt8)(u:aF):Value:=.bytes G.toArray u
theorem qt(b:n.handled=none)(L:x)(G:List UInt8)(u:aF):eY w n L [L] [L] G.length (λm E Y=>∃e S,G[m]?=some e/\E=aj e.toNat S) (λm f=>aaq f L G.toArray u m):=
 ⟨by
  have W:=KBw.walks (prog:=ff) (w:=w) b L G.toArray u;have a:G.toArray.size=G.length:=cN ..;rw[a] at W;exact k1.of (W.weaken λm E ⟨e,S,c,d⟩=>(eU (e) (S) (by simpa using c) (d))),λi f ⟨g,a,_⟩ k h=>by
  refine j (List.mem_singleton.mp h) ?_;exact⟨g,a⟩⟩
theorem sC{G:List UInt8}(l:n.handled=none)(a:N w h e I led s)(f:∀L k,d7 e [L]->N w h (e.push (cs (qt (w:=w) l L G u) 0)) I led k->r (.ref L) k):aa w n (hX (a6 G u)) r M s:=by refine⟨xy ?_⟩;have b:=a.alloc (J:={cls:=.type "bytes_iterator",data:=.fields #[.bytes G.toArray u,.int 0 0]}) d;have i:=b.at 0 d;have m:=b.cd (cJ _ _);(refine f _ _ ⟨λo c=>by refine j (List.mem_singleton.mp c) ?_;exact⟨a.fresh,a.hP.hd⟩⟩ (m.hl _ (du (_) (i) (rfl) (rfl)) λo c=>?_));refine j (List.mem_singleton.mp c) ?_;have g:=b.ld _ aG;exact(cV (g.2.1) (g.2.2.dc) ((List.nodup_cons.mp b.dE).1) (g.2.2.ge) ⟨_,i⟩)
noncomputable def gc(ns:List Nat):List UInt8:=ns.map λv=>v.toUInt8
theorem cf.ints:∀{O:List p} {ns:List Nat},cf O ns->IntsAre O (ns.map λ(v:Nat)=>(v:Int))
 |[],[],_=>.nil
 |_::_,v::_,a=>by obtain⟨⟨b,rfl⟩,a⟩:=a;exact .cons _ b (cf.ints a)
theorem ne{ns:List Nat}(a:N w h e I led s)(l:n.handled=none)(m:s.heap.get? c=some (a4 O R))(g:cf O ns)(o:∀v∈ns,v<256)(p:ns.length<=eI)(f:∀u k,N w h e I led k->r (a6 (gc ns) u) k):aa w n (call (.type "bytes") [.ref c]) r M s:=by
 have b:iy (ns.map λ(v:Nat)=>(v:Int))=(gc ns).toArray:=by simp[iy,gc]
 refine⟨call_bytes_ints (IsList.new m) g.ints (λv q=>?_) (by refine j g.len ?_;exact p) l λt u x i=>?_⟩
 ·(refine bp (List.mem_map.mp q) λy z A=>?_;obtain rfl:=A);have:=o y z;exact un this
 ·refine j b<|f _ _ (a.step (F:=[]) (k:={s with heap:=t,toks:=x}) ⟨λB C W b=>i B C b,rfl,rfl,rfl⟩ (λW f=>nomatch f) (λf=>nomatch f) d (λD E=>i _ _ (a.ld D E).1) λW W f=>nomatch f)
noncomputable def jh(G:List UInt8):Nat:=G.foldl (λu a=>(u*37+a.toNat+1)%1000003) 17
noncomputable def qu(a b:List UInt8):List UInt8:=gc [jh (a++b)%256,jh (a++b)/256%256,jh (a++b)/65536,(jh (a++b)*3+a.length)%256,5,6]
theorem fold_lt{C:Nat->UInt8->Nat}(a:∀u J,C u J<b):∀(G:List UInt8) (u:Nat),u<b->G.foldl C u<b
 |[],_,c=>c
 |J::G,u,_=>fold_lt a G _ (a u J)
theorem Uc(G:List UInt8):jh G<1000003:=fold_lt (λW W=>eQ _ .(1)) G 17 .(1)
theorem Ud(B:bb h)(L:aH w h s)(A:aR n 2 8){c e:List UInt8}(t:c.length+e.length<=10000)(f:∀u k,bP [] s k true->aH w h k->r (a6 (qu c e) u) k):bk w n (.call (.ref 807) ⟨[a6 c u,a6 e S],[]⟩) (bW r) s:=by
 refine cZ (q:=1) (S:=5) (Sj B) QP (.none true) L trivial A.mono ?_;intro af b C ag l g a A;refine seq<|bN<|a8 17 a λL b a=>bx a g 2 d d ?_;intro b l a;refine seq<|gJ<|aE ?_;intro o;refine a2<|Y a g 0 d d<|Y a g 1 d d<|lX a (by simp;exact ze t) λah b a=>?_;have D:c.toArray++e.toArray=(c++e).toArray:=mu c e;refine j D<|sC A.bd a λE b F a=>gK (qt A.bd E _ _) F (λm G H=>∃I J,G=[some (a6 c u),some (a6 e S),some (aj (jh ((c++e).take m)) I),J]/\H=[]) a (eU (_) (_) (rfl) (rfl)) ?_ ?_
 ·intro m ai L L b ak al v K C M L a;refine aE ?_;intro o;refine aV λam N=>?_;(refine db v λx O P p=>?_;clear v;obtain rfl:=p);refine db K λQ R p T=>a.ef p T ?_;intro l an a;refine N ?_;refine dF (cp (bx a g 3 d d ?_));intro b l a;refine seq<|bN<|aE ?_;intro o;refine a2<|a2<|a2<|a2<|Y a g 2 d d<|a8 37 a λK b a=>hr a .(1) λK b a=>Y a g 3 d d<|eZ a λK b a=>a8 1 a λK b a=>eZ a λK b a=>a8 1000003 a λK b a=>fI a .(1) λy b a=>bx a g 2 d d ?_;intro b l a;refine bv (M _ _ _ (eU (y) (some (aj x.toNat O)) (?_) (rfl)) a);have U:(c++e).take (m+1)=(c++e).take m++[x]:=by refine j hf (j P ?_);rfl
  refine j U ?_;unfold jh;refine j jv ?_;rfl
 ·rintro K K b ⟨Q,R,rfl,rfl⟩ a;rw[h3] at a;have V:=Uc (c++e);have z:qu c e=gc [jh (c++e)%256,jh (c++e)/256%256,jh (c++e)/65536,(jh (c++e)*3+c.length)%256,5,6]:=rfl;generalize jh (c++e)=i at a V z;refine bv<|seq (b2 ?_);refine aE ?_;intro o;refine c6 a g 0 d jF jN<|f7<|a2<|Y a g 2 d d<|a8 256 a λK b a=>a.jE ?_;intro ao a;refine fI a .(1) λW b a=>a2<|a2<|Y a g 2 d d<|a8 256 a λK b a=>iM a .(1) .(1) λK b a=>a8 256 a λK b a=>fI a .(1) λX b a=>a2<|Y a g 2 d d<|a8 65536 a λK b a=>iM a .(1) .(1) λZ b a=>a2<|a2<|a2<|Y a g 2 d d<|a8 3 a λK b a=>hr a .(1) λK b a=>c0 a g 1 d dv dx<|Y a g 0 d d<|ho a (by simp;exact Mg t) λY b a=>?_;have aa:(c.toArray.size:Int)=((c.length:Nat):Int):=by rfl
  refine j aa<|eZ a λY b a=>a8 256 a λY b a=>fI a .(1) λab b a=>a8 5 a λac b a=>a8 6 a λad b a=>⟨ey d,?_⟩;replace a:=a.e8 [aj (i%256) W,aj (i/256%256) X,aj (i/65536) Z,aj ((i*3+c.length)%256) ab,aj 5 ac,aj 6 ad];refine ne (ns:=[i%256,i/256%256,i/65536,(i*3+c.length)%256,5,6]) a A.bd (a.at 0 d) (n2 (⟨_,rfl⟩) (⟨_,rfl⟩) (⟨_,rfl⟩) (⟨_,rfl⟩) (⟨_,rfl⟩) (⟨_,rfl⟩) (trivial)) ?_ (ey d) λy b a=>?_
  ·intro ap ae;refine HQ ae ?_ ?_ ?_ ?_ ?_ ?_<;>lia
  ·refine be z<|f _ _ a.aS a.Z
noncomputable def oK(a:Nat)(G:List UInt8):Nat:=G.foldl (λu b=>(u*31+b.toNat+1)%65521) (a%65521)
noncomputable def qv(cv a:List UInt8)(b c:Nat):List UInt8:=gc ((bH c).map λl=>(oK b (cv++a)*(l+3)+l*l)/7%256)
theorem Ue(A:Nat)(G:List UInt8):oK A G<65521:=fold_lt (λW W=>eQ _ .(1)) G _ (eQ _ .(1))
theorem Uf(ab:bb h)(L:aH w h s)(A:aR n 2 8){cv g:List UInt8}{m o:Nat}{eN G:aF}(ac:cv.length+g.length<=10000)(t:o<=1000)(f:∀u k,bP [] s k true->aH w h k->r (a6 (qv cv g m o) u) k):bk w n (.call (.ref 812) ⟨[a6 cv u,a6 g S,aj m eN,aj o G],[]⟩) (bW r) s:=by
 refine mZ (C:=vd) (q:=2) (S:=8) (bQ:=[(y "word",a6 cv u),(y "salt",a6 g S),(y "rounds",aj m eN),(y "size",aj o G)]) [y "total"] (.none true) L trivial A (Sk ab) (λL=>by kernel_rfl) (λL=>by kernel_rfl) .(0) .(1) .(0) d d ?_;intro z ad c W aP J H l ae a;have af:=ae 0 _ d;replace a:N w h _ [some (a6 cv u),some (a6 g S),some (aj m eN),some (aj o G),none] [(z+1,ad 0)] c:=a;refine a.jE ?_;intro aQ a;have I:aR (n.deeper (vd.D z (cl [y "total"] (z+1) []))) 1 5:=aR.deeper A _;refine seq<|bN<|aE ?_;intro B;refine a2<|Y a l 2 d d<|a8 65521 a λL c a=>fI a .(1) λaS c a=>iL a l 0 d af .(0) d λag c ah a=>?_;let H:List (x×V):=[(z+1,ag)];replace a:N w h _ _ H c:=a;refine seq<|gJ<|aE ?_;intro B;refine a2<|Y a l 0 d d<|Y a l 1 d d<|lX a (by simp;exact ze ac) λaT c a=>?_;have ai:cv.toArray++g.toArray=(cv++g).toArray:=mu cv g;refine j ai<|sC I.bd a λak c al a=>gK (qt I.bd ak _ _) al (λe am an=>∃K D ao,am=[some (a6 cv u),some (a6 g S),some (aj m eN),some (aj o G),ao]/\an=[(z+1,D)]/\D.data=.cell (some (aj (oK m ((cv++g).take e)) K))) a (iZ (_) (_) (_) (rfl) (rfl) (ah)) ?_ ?_
 ·intro e ap V V c aU M X aq W O V a;refine aE ?_;intro B;refine aV λar P=>?_;(refine db X λD K as i=>?_;clear X;obtain rfl:=i);refine kc aq λau av aw i Q p=>a.ef i Q ?_;intro J H a;refine P<|dF (cp (bx a l 4 d d ?_));intro c J a;refine seq<|bN<|aE ?_;intro B;refine a2<|a2<|a2<|a2<|cR a l .(0) d (a.at 0 d) p<|a8 31 a λX c a=>hr a .(1) λX c a=>Y a l 4 d d<|eZ a λX c a=>a8 1 a λX c a=>eZ a λX c a=>a8 65521 a λX c a=>fI a .(1) λR c a=>iL a l 0 d p .(0) d λax c ay a=>bv (O _ _ _ (iZ (R) (ax) (some (aj D.toNat K)) (rfl) (rfl) (?_)) a);have az:(cv++g).take (e+1)=(cv++g).take e++[D]:=by refine j hf (j as ?_);rfl
  refine j az (j ay ?_);unfold oK;refine j jv ?_;rfl
 ·intro X X c aA a;refine aE ?_;intro B;refine aV λar P=>kc aA λau av aw i Q p=>a.ef i Q ?_;intro J H a;refine P ?_;rw[h3] at p;have aB:=Ue m (cv++g);have Z:qv cv g m o=gc ((bH o).map λe=>(oK m (cv++g)*(e+3)+e*e)/7%256):=rfl;generalize oK m (cv++g)=aC at p aB Z;refine bv<|seq<|b2<|aE ?_;intro B;refine c6 a l 0 d jF jN<|ie (aN:=[y "k"]) (aX:=[]) _ d (by decide+kernel)<|c6 a l 1 d hN hQ<|Y a l 3 d d<|iK a λj X X X c a=>jM (v:=o) I.bd a (a.at 0 d) .(1) (uS t) od λaW c aD a=>?_;replace a:=a.cd (cJ _ _);refine jf (aN:=[y "k"]) (aX:=[]) _ (λX=>.none true) (λX=>rfl) a aD l _ (by decide+kernel) (ck (zf t)) (λe T aI=>aI=[]/\cf T ((bH e).map λe=>(aC*(e+3)+e*e)/7%256)) ⟨rfl,trivial⟩ ?_ ?_
  ·(intro aY e ap T aJ X aK aZ a5 a0 M E aa W a1 F aL O b;(refine bo E λa3 i=>?_;clear E;obtain rfl:=i);(refine bE aa λi U=>?_;clear aa;obtain rfl:=i));(refine bo (hj aL) λa4 i=>?_;obtain rfl:=i);have aM:((0:Int)+(e:Int)*1)=(e:Int):=pU;rw[aM];refine dF<|cp<|d8 b F 0 d d λa5 b=>a2<|a2<|a2<|a2<|cR b F .(0) d (b.bG.2.1.2 _ aG) p<|a2<|Y b F 0 d d<|a8 3 b λW a5 b=>eZ b λW a5 b=>hr b (KQ t M) λW a5 b=>a2<|Y b F 0 d d<|Y b F 0 d d<|hr b (KR t M) λW a5 b=>eZ b λW a5 b=>a8 7 b λW a5 b=>iM b .(1) .(1) λW a5 b=>a8 256 b λW a5 b=>fI b .(1) λR a5 b=>O _ [] _ _ ⟨rfl,?_⟩ (by dsimp) b;rw[h1,g3];exact U.dU (cf.gO _ _)
  ·(intro aK T aJ W a5 E a7 b;(refine bE E λi U=>?_;clear E;obtain rfl:=i));refine ne b I.bd (b.at 0 d) U ?_ (ck (by simp;exact kV t)) λR a5 b=>?_
   ·intro v aO;(refine bp (List.mem_map.mp aO) λe W i=>?_;obtain rfl:=i);exact eQ _ .(1)
   ·refine be Z<|f _ _ b.aS b.Z
abbrev Ug(w:aD)(n:aQ)(C a:p)(r M:p->H->Prop)(ar:List p)(s:H):Prop:=aa w n (call C (a::ar)) r M s
abbrev Ui(w:aD)(n:aQ)(T:String)(C:p)(args:List am)(D:ao)(r M:p->H->Prop)(a:p)(s:H):Prop:=s.TypeIs a T/\(∀c,a=.ref c->∃b,s.heap.get? c=some b/\b.dict=none)/\eM w n M D args (Ug w n C a r M) s
theorem gu{J:am}{a:az}{d:eF Bool}{T id:String}(e:PlainAttrs T)(slot:Slot T name id)(g:hH (.builtin id)=pure (.type "method_descriptor"))(f:aa w n (bA J D) (Ui w n T (.builtin id) args D r M) M s)(c:autoParam (args.all fH=true) b0)(h:autoParam (bA (.Call (.Attribute J name a) args [] pos) D=(do
  let b<-bA J D
  j2 a.atName
  let(C,first)<-lw [b] (mC b name d)
  q1 pos C first (lr pos (iW args D)) [])) b0):aa w n (bA (.Call (.Attribute J name a) args [] pos) D) r M s:=
 ⟨tR (f.J λb m ⟨i,j,k⟩=>getMethod_builtin i e slot g j (Gh (iI c) (jI c (k.mono λo p l=>by exact l.run)))) h⟩
noncomputable def ht(G:List (x×V))(t:Bool)(f:∀z∈G,837<=z.1):dq:=
 ⟨t,G.map (·.1),λf=>∀z∈G,f.get? z.1=some z.2,λb c=>by(refine bp (List.mem_map.mp c) λz a d=>?_;obtain rfl:=d);exact f z a,
  λag e b c=>by(refine bp (List.mem_map.mp c) λz a d=>?_;obtain rfl:=d);exact⟨_,e z a⟩,
  λg h l e z a=>l _ (fN a) _ (e z a)⟩
theorem N.fo{G:List (x×V)}{b:∀z∈G,837<=z.1}{l:f5}{hd:eK}(a:N w h ⟨l,aK,ht G t b,hd⟩ I led s)(m:Nat){J:V}(f:G[m]?=some (c,J)):s.heap.get? c=some J:=a.b4 _ (cx f)
theorem N.sD{G:List (x×V)}{i:∀z∈G,837<=z.1}{l:f5}{hd:eK}(a:N w h ⟨l,aK,ht G t i,hd⟩ I led s)(D:(G.map (·.1)).Nodup)(m:Nat){J q:V}(aW:G[m]?=some (c,J)){a3:Nat}(r:hb c s.heap ag)(E:ag.get? c=some q)(e:List (x×V))(o:e=G.set m (c,q))(u:∀z∈e,837<=z.1):N w h ⟨l,aK,ht e t u,hd⟩ I led {s with heap:=ag,toks:=a3}:=by
 have F:=i _ (cx aW);have H:c∈G.map (·.1):=fN (cx aW);have v:ee [c] s {s with heap:=ag,toks:=a3}:=ee.same r;have y:∀k∈[c],837<=k:=λk g=>by refine j (List.mem_singleton.mp g) ?_;exact F
 have A:e.map (·.1)=G.map (·.1):=by refine j o ?_;exact z3 aW
 have B:∀z∈e,ag.get? z.1=some z.2:=by
  intro z b;rw[o] at b;refine bo (fr b) λa0 f=>?_;by_cases n:a0=m
  ·subst n;rw[xh (List.getElem?_eq_some_iff.mp aW).1] at f;(obtain rfl:=dg f;clear f);exact E
  ·rw[F9 (fk n)] at f;have K:z.1≠c:=z2 D (m:=a0) (a0:=m) (by refine j dR (j f ?_);rfl) (by refine j dR (j aW ?_);rfl) n;exact(r.2 z.1 K).trans (a.b4 z (cx f))
 let C:dq:=⟨t,(ht G t i).ae,λL=>∀z∈G,∃J,L.get? z.1=some J,(ht G t i).ge,λag p k g=>by(refine bp (List.mem_map.mp g) λz b M=>?_;obtain rfl:=M);exact p z b,λU W l p z b=>let⟨J,O⟩:=p z b;⟨J,l _ (fN b) J O⟩⟩;have P:=a.jD C d d (λz b=>⟨_,a.b4 z b⟩);have Q:N w h ⟨l,aK,C,hd⟩ I led {s with heap:=ag,toks:=a3}:=P.en (v.aS y λk g=>.inl (by refine j (List.mem_singleton.mp g) ?_;exact H)) (v.Z y a.Z) (λz b=>by
  have:z.1∈e.map (·.1):=by refine j A ?_;exact fN b
  refine bp (List.mem_map.mp this) λR S T=>⟨_,T▸B R S⟩)
 exact Q.jD (ht e t u) A d B
def hu(aJ ax:x)(f:au):Prop:=∃(a:Nat) (u:aF) (O:List p) (b:Nat),f.IsList aJ [aj a u,.ref ax].toArray/\f.get? ax=some (a4 O b)/\O.length<=64/\∀i∈O,∃(v:Int) (u:aF),i=.int v u
theorem Uj{v:Int}(a:0<R):∃l:Nat,l<R/\v.fmod R=(l:Int):=by have b:=Int.fmod_nonneg_of_pos v (show(0:Int)<R by exact zg a);have c:=Int.fmod_lt_of_pos v (show(0:Int)<R by exact zg a);exact(bF ((v.fmod R).toNat) (Jh b c) (Js b))
theorem gv(ak:bb h)(L:aH w h s)(A:aR n 2 8){aJ:x}(aA:837<=aJ)(aB:837<=ax)(al:aJ≠ax)(am:hu aJ ax s.heap){t:Nat}(J:0<t)(f:∀v u k,v<t->bP [aJ,ax] s k true->aH w h k->hu aJ ax k.heap->r (aj v u) k):bk w n (.call (.ref 793) ⟨[.ref aJ,aj t S],[]⟩) (bW r) s:=by
 refine aV λaC an=>?_;obtain⟨K,P,e,g,⟨l,aD,z,B,D⟩,ae,M,af⟩:=am;all_goals refine an ?_
 have Q:∀(E G:V),∀R∈([(aJ,E),(ax,G)]:List (x×V)),837<=R.1:=λE G R T=>by refine ed T ?_ ?_<;>assumption
 have ag:∀(E G:V),(([(aJ,E),(ax,G)]:List (x×V)).map (·.1)).Nodup:=λE G=>by simp[al]
 refine Ad (C:=vc) (q:=1) (S:=5) (bQ:=[(y "feed",.ref aJ),(y "many",aj t S)]) (I:=[some (.ref aJ),some (aj t S)]) (ht [(aJ,l),(ax,a4 e g)] true (Q _ _)) L (λR T=>by refine ed T ?_ ?_<;>assumption) A.mono (Sh ak) QN (λT=>by kernel_rfl) .(0) .(0) .(0) λaF c m a A=>?_;refine a.z6 ?_;intro ao aI a;refine seq<|ifs<|gq<|dr<|Y a m 0 d d<|a8 1 a λT c a=>f8 (i:=.ref ax) (du (l) (a.fo 0 d) (z) ⟨B,D⟩) .(1) .(1) d<|qk a (IsList.new (a.fo 1 d)) (by simp;exact Li M) λc a=>?_;cases e with
 |cons i e=>
  (refine eJ (af i aG) λv N O=>?_;obtain rfl:=O);simp only[ec] at M;refine seq<|b2<|aE ?_;intro U;refine a2<|aE ?_;intro U;refine gu nT F.slot_list_pop F.type_list_pop<|aE ?_;intro U;refine dr<|Y a m 0 d d<|a8 1 a λT c a=>f8 (i:=.ref ax) (du (l) (a.fo 0 d) (z) ⟨B,D⟩) .(1) .(1) d ?_;(refine(bO ((IsList.new (a.fo 1 d)).typeIs) (λaK o=>by cases o;exact(bF (_) (a.fo 1 d) (rfl))) (?_)));refine a8 0 a λap c a=>?_;have p:IsL c.heap ax (gF v N::e).toArray g:=a.fo 1 d;have aq:(c.heap.update ax (nP λW=>W.eraseIdxIfInBounds 0)).get? ax=some (a4 e (g+1)):=by
   have:=xC p (λW=>W.eraseIdxIfInBounds 0);have ae:(gF v N::e).toArray.eraseIdxIfInBounds 0=e.toArray:=by simp[Array.eraseIdxIfInBounds]
   rw[ae] at this;have o:(if e.toArray.size==(gF v N::e).toArray.size then g else g+1)=g+1:=by simp
   rw[o] at this;exact this
  (refine⟨nO F.slot_list_pop (bF (_) (p) (rfl)) F.entry_list_pop (F.args_list_pop_2 _ _) (MeetsSeq.list_pop_at ax _ g 0 ap 0 (.int v N) .(1) (by simp[q7]) (by rfl) (ck (by simp;exact Ln M))) ⟨p,?_⟩⟩);have b:=a.sD (ag _ _) 1 d (a3:=c.toks) (kJ ..) aq [(aJ,l),(ax,a4 e (g+1))] d (Q _ _);refine(?_:aa w _ _ _ _ _);refine Y b m 1 d d<|se b (uJ J) λX a5 b=>bp (Uj (v:=v) J) λar as o=>j o<|f ar X a5 as b.aS b.Z (pN (K) (P) (e) (g+1) (⟨l,b.fo 0 d,z,B,D⟩) (b.fo 1 d) (Mh M) (λah Z=>af ah (.tail _ Z)))
 |nil=>refine bv<|seq ⟨wpAny_Assign_Subscript (aa.run ?_)⟩;refine aE ?_;intro U;refine a2<|a2<|a2<|dr<|Y a m 0 d d<|a8 0 a λW c a=>f8 (i:=aj K P) (du (l) (a.fo 0 d) (z) ⟨B,D⟩) .(1) .(1) d<|a8 48271 a λW c a=>hr a .(1) λW c a=>a8 11 a λW c a=>eZ a λW c a=>a8 2147483647 a λW c a=>fI a .(1) λab c a=>?_;generalize(K*48271+11)%2147483647=ac at a⊢;refine aa.run<|Y a m 0 d d<|aa.run<|a8 0 a λW c a=>wpAny_setItem_list (items:=[aj K P,e4 ax].toArray) (du (l) (a.fo 0 d) (z) ⟨B,D⟩) .(1) .(1) (Int.lt.intro d) λaL p au=>?_;(refine g4 p λad av aw O=>?_;clear p;(refine bo O λay az=>?_;clear O));have b:=a.sD (ag _ _) 0 d (a3:=c.toks) au av [(aJ,ad),(ax,a4 [] g)] d (Q _ _);refine b.gl ?_;intro ao b;have ai:∀a5:H,a5.heap.get? aJ=some ad->a5.heap.IsList aJ [aj ac ab,.ref ax].toArray:=λa5 o=>(du (ad) (o) (aw) ⟨ay,az⟩);refine seq<|b2<|a2<|a2<|dr<|Y b m 0 d d<|a8 0 b λW a5 b=>f8 (i:=aj ac ab) (ai _ (b.fo 0 d)) .(1) .(1) d<|a8 64 b λW a5 b=>iM b .(1) .(1) λW a5 b=>Y b m 1 d d<|fI b J λX a5 b=>f _ X a5 (eQ _ J) b.aS b.Z (pN (ac) (ab) ([]) (g) (ai _ (b.fo 0 d)) (b.fo 1 d) .(1) (λah Z=>nomatch Z))
theorem hu.keep{aJ:x}{f:au}(l:∀b∈[aJ,ax],∀J,f.get? b=some J->ag.get? b=some J)(a:hu aJ ax f):hu aJ ax ag:=by
 refine aV λn c=>?_;obtain⟨d,e,g,h,⟨J,i,j⟩,k,m⟩:=a;all_goals refine c ?_
 exact(fR (d) (e) (g) (h) ((bF (J) (l _ aG _ i) (j))) (l _ (.tail _ aG) _ k) (m))
noncomputable def jS(aJ ax:x)(t:Bool)(g:837<=aJ)(h:837<=ax):dq:=
 ⟨t,[aJ,ax],hu aJ ax,λb a=>by
  refine ed a ?_ ?_<;>assumption,
  λc ⟨_,_,_,_,⟨_,d,_⟩,e,_⟩ b a=>by
   refine ed a ?_ ?_
   ·exact⟨_,d⟩
   ·exact⟨_,e⟩,
  λc ag l f=>f.keep l⟩
theorem cf.nf{ns:List Nat}(f:cf O ns)(v:Nat)(u:aF):cf (O++[aj v u]) (ns++[v]):=f.dU (cf.gO v u)
abbrev Uk(r:eb->H->Prop)(E:p)(s:H):Prop:=E=.none/\r .next s
theorem l5{o:am}{r:eb->H->Prop}(f:aa w n (bA o D) (Uk r) M s)(aW:autoParam (interactive D=false) b0)(a:autoParam (xj o none pos.line D=pure false) b0):aa w n (g2 (.Expr o pos) D) r M s:=⟨wpAny_Expr (f.J λc d ⟨o,b⟩=>by subst o;exact b) aW a⟩
theorem C6{c:Nat}(a:N w h e I led s)(d:b<=1000000)(i:c<2^64)(f:∀u k,N w h e I led k->r (aj (c^b) u) k):aa w n (fg .Pow (aj c u) (aj b S)) r M s:=
 ⟨pow_int_small fm (uK d) (by assumption) (by
  refine j (ft ..) ?_;have g:(c:Int)^b=((c^b:Nat):Int):=by dsimp
  refine j g ?_;exact f _ _ a.a3)⟩
theorem Ul{c:Nat}(f:r (.bool (decide (b<=c))) s):aa w n (f1 .GtE (aj c u) (aj b S)) r M s:=SM (by
 have a:decide ((c:Int)>=(b:Int))=decide (b<=c):=by simp
 refine j a ?_;exact f)
theorem C7(ae:bb h)(L:aH w h s)(A:aR n 3 14){aJ:x}(af:837<=aJ)(ag:837<=ax)(an:aJ≠ax)(ao:hu aJ ax s.heap){i:Nat}(ap:2<=i)(C:i<=1000)(f:∀(G:List UInt8) u k,G.length=i->bP [aJ,ax] s k true->aH w h k->hu aJ ax k.heap->r (a6 G u) k):bk w n (.call (.ref 800) ⟨[.ref aJ,aj i S],[]⟩) (bW r) s:=by
 refine cZ (q:=2) (S:=11) (Si ae) QO (jS aJ ax true af ag) L ao A.mono ?_;intro ay b ah az y c a A;refine seq (bN ?_);refine b3 a c 0 d gn gm ?_;refine Y a c 0 d d<|a2<|a8 256 a λG b a=>Y a c 1 d d<|C6 a (Mi C) .(1) λG b a=>⟨a.Z.l,gv ae a.Z A.mono af ag an a.b4 (Nat.pow_pos .(1)) λnum ai b aA l L aq=>?_⟩;replace a:=a.en l L aq;refine bx a c 2 d d ?_;intro b y a;refine seq (bN ?_);refine f7 ?_;refine⟨e2 _,?_⟩;replace a:=a.e8 [];generalize b.heap.objs.size=m at a;refine bx a c 3 d d ?_;intro b y a;refine seq<|ifs<|cT<|Y a c 2 d d<|a2<|a8 256 a λL b a=>a2<|Y a c 1 d d<|a8 2 a λL b a=>jO a ap λL b a=>C6 a (JP C) .(1) λL b a=>Ul (cn ?_);(have M:∀{s:H} {g:List p} {l:Nat},s.heap.get? m=some (a4 g l)->s.TypeIs (.ref m) "list"/\(∀N,e4 m=.ref N->∃ak,s.heap.get? N=some ak/\ak.dict=none):=λal=>⟨(bF (_) (al) (rfl)),λN J=>by cases J;exact(bF (_) (al) (rfl))⟩);have am:∃v u z g l e,[some (.ref aJ),some (aj i S),some (aj num ai),some (.ref m),none]=[some (.ref aJ),some (aj i S),some (aj v u),some (.ref m),z]/\[(m,a4 [])]=[(m,a4 g l)]/\cf g e/\e.length=0/\∀v∈e,v<256:=(ua (num) (ai) (none) ([]) (0) ([]) (rfl) (rfl) (trivial) (rfl) (λL f=>nomatch f));cases decide (256^(i-2)<=num) with
 |true=>
  refine d2<|seq<|gJ<|c6 a c 1 d hN hQ<|Y a c 1 d d<|iK a λj L L L b a=>jM (v:=i) A.bd a (a.at 0 d) .(1) (uS C) od λO b P a=>?_;replace a:=a.cd (cJ _ _);refine gK (hp A.bd O 0 1 i) P (λD Q R=>∃v u z g l e,Q=[some (.ref aJ),some (aj i S),some (aj v u),some (.ref m),z]/\R=[(m,a4 g l)]/\cf g e/\e.length=D/\∀v∈e,v<256) a am ?_ ?_
  ·intro D ar L L b as T K U ah V L a;refine aV λW E=>?_;(refine bo K λau o=>?_;clear K;obtain rfl:=o);refine rv U λv X z g l e o F B t I=>?_;refine a.ef o F ?_;intro y Z a;refine E<|dF (cp (bx a c 4 d d ?_));intro b y a;refine seq (l5 ?_);refine gu nT lE pv ?_;refine Y a c 3 d d<|(bO ((M (a.at 0 d)).1) ((M (a.at 0 d)).2)<|a2<|Y a c 2 d d<|a8 256 a λL b a=>fI a .(1) λav b a=>oF a 0 d (ck (by rw[B.len];exact zS C T t)) λb a=>⟨rfl,a.eL ?_⟩);intro aB a;refine seq<|bN<|a2<|Y a c 2 d d<|a8 256 a λL b a=>iM a .(1) .(1) λaa b a=>bx a c 2 d d ?_;intro b y a;(exact bv (V _ _ _ (ua (v/256) (aa) (_) (_) (_) (e++[v%256]) (rfl) (rfl) (B.nf _ _) (by simp[t]) (λJ ab=>(List.mem_append.mp ab).elim (I J) λf=>by rw[List.mem_singleton.mp f];exact eQ _ .(1))) a))
  ·intro L L b ac a;refine aV λW E=>rv ac λv X z g l e o F B t I=>?_;refine a.ef o F ?_;intro y Z a;refine E<|bv<|seq<|b2<|c6 a c 2 d jF jN<|Y a c 3 d d<|ne a A.bd (a.at 0 d) B I (ck (zh C t)) λad b a=>f _ ad b (by simp[gc,t]) a.aS a.Z a.b4
 |false=>
  refine dw<|bv<|seq<|gJ<|c6 a c 1 d hN hQ<|Y a c 1 d d<|iK a λj L L L b a=>jM (v:=i) A.bd a (a.at 0 d) .(1) (uS C) od λO b P a=>?_;replace a:=a.cd (cJ _ _);refine gK (hp A.bd O 0 1 i) P (λD Q R=>∃v u z g l e,Q=[some (.ref aJ),some (aj i S),some (aj v u),some (.ref m),z]/\R=[(m,a4 g l)]/\cf g e/\e.length=D/\∀v∈e,v<256) a am ?_ ?_
  ·intro D ar Q Q b as T K U ah V Q a;refine aV λW E=>?_;(refine bo K λau o=>?_;clear K;obtain rfl:=o);refine rv U λv X z g l e o F B t I=>?_;refine a.ef o F ?_;intro y Z a;refine E ?_;have aw:((0:Int)+(D:Int)*1)=(D:Int):=pU;rw[aw];refine dF (cp (bx a c 4 d d ?_));intro b y a;refine seq<|bN<|a2<|a2<|a2<|a2<|Y a c 2 d d<|a8 75 a λK b a=>hr a .(1) λK b a=>a8 74 a λK b a=>eZ a λK b a=>Y a c 4 d d<|eZ a λK b a=>a8 65537 a λK b a=>fI a .(1) λaa b a=>?_;refine bx a c 2 d d ?_;intro b y a;refine seq (l5 ?_);refine gu nT lE pv ?_;refine Y a c 3 d d<|(bO ((M (a.at 0 d)).1) ((M (a.at 0 d)).2)<|a2<|Y a c 2 d d<|a8 256 a λK b a=>fI a .(1) λav b a=>oF a 0 d (ck (by rw[B.len];exact zS C T t)) λb a=>⟨rfl,?_⟩);(exact bv (V _ _ _ (ua (_) (aa) (_) (_) (_) (e++[(v*75+74+D)%65537%256]) (rfl) (rfl) (B.nf _ _) (by simp[t]) (λJ ab=>(List.mem_append.mp ab).elim (I J) λf=>by rw[List.mem_singleton.mp f];exact eQ _ .(1))) a))
  ·intro K K b ac a;refine aV λW E=>rv ac λv X z g l e o F B t I=>?_;refine a.ef o F ?_;intro y Z a;refine E<|bv<|seq<|b2<|c6 a c 2 d jF jN<|Y a c 3 d d<|ne a A.bd (a.at 0 d) B I (ck (zh C t)) λad b a=>f _ ad b (by simp[gc,t]) a.aS a.Z a.b4
theorem vT{C:al}{aJ:x}(a:N w h e I led s)(d:e.l.bL)(m:Nat)(aW:some C=e.l.names[m]?)(g:some (some (.ref aJ))=I[m]?)(i:cX (ak w h) (.ref aJ)=true)(f:eM w n M D args (λar b=>(ak w h).In b.heap/\bk w n (.call (.ref aJ) ⟨ar,[]⟩) (bW r) b) s)(k:autoParam (args.all fH=true) b0)(l:autoParam (D=e.D) b0):
 aa w n (bA (.Call (.Name C z) args [] pos) D) r M s:=by
 refine⟨pl (aa.run (Y a d m aW g ?_ l))⟩;refine sg i k (f.mono λar b c=>⟨c.1,j (ix ..)<|k0 c.2⟩)
noncomputable def ng(m:Nat)(as:List UInt8)(o:Nat)(a A:List UInt8):List UInt8:=qv (gc [m]++as) (a++A) (10000*2^o/4) A.length
theorem Um(c b:List UInt8)(v R:Nat):(qv c b v R).length=R:=by simp[qv,gc]
theorem C8(l:bb h)(L:aH w h s)(A:aR n 4 14){o:Nat}{g c:List UInt8}{sx:aF}(aW:m<256)(v:o<=15)(p:as.length<=1000)(t:g.length<=1000)(i:c.length<=1000)(f:∀u k,bP [] s k true->aH w h k->r (a6 (ng m as o g c) u) k):bk w n (.call (.ref 76) ⟨[aj m aA,a6 as bf,aj o bh,a6 g bn,a6 c sx,.ref 812],[]⟩) (bW r) s:=by
 refine cZ (q:=3) (S:=11) (Rw l) PN (.none true) L trivial A.mono ?_;intro E e F G H b a A;refine seq (doc ?_);replace a:=a.a3 (u:=e.toks+1);refine seq<|b2<|aE ?_;intro x;refine vT a b 5 d d QR<|a2<|aE ?_;intro x;refine c6 a b 0 d jF jN<|f7<|Y a b 0 d d<|⟨ey d,?_⟩;replace a:=a.e8 [aj m aA];refine a.eL ?_;intro I a;refine ne (ns:=[m]) a A.bd (a.at 0 d) (cf.gO _ _) (λJ y=>by refine j (List.mem_singleton.mp y) ?_;exact aW) (ey d) λW e a=>?_;refine Y a b 1 d d<|lX a (by simp[gc];exact Mj p) λW e a=>a2<|Y a b 3 d d<|Y a b 4 d d<|lX a (by simp;exact Mk t i) λW e a=>a2<|a2<|dJ 10000 _ a b 1 d Q2<|Y a b 2 d d<|m4 a (Ml v) .(1) λW e a=>dJ 4 _ a b 2 d vi<|iM a .(1) .(1) λW e a=>c0 a b 3 d dv dx<|Y a b 4 d d<|ho a (by simp;exact kW i) λW e a=>?_;have z:(gc [m]).toArray++as.toArray=(gc [m]++as).toArray:=mu (gc [m]) as;have B:g.toArray++c.toArray=(g++c).toArray:=mu g c;have C:(c.toArray.size:Int)=((c.length:Nat):Int):=by rfl
 refine j z<|j B<|j C<|⟨a.Z.l,Uf l a.Z A.mono (by simp[gc];exact JW p t i) i λu e D L=>?_⟩;replace a:=a.call D L;exact f u _ a.aS a.Z
section
open Builtin Builtin.Int KTBy
theorem Un{i:Int}{E:aF}(c:l<=100)(h0:0<=i)(e:i<(256:Int)^l)(f:∀(b:Array UInt8) eN lU,KBw.bInts b=(little l i).reverse->r (.bytes b eN) {s with toks:=lU}):
 aL (aZ w) n (call (.builtin "int.to_bytes") [.int i u,.int (l:Int) S,.str (et "big") E]) r M s:=by
 refine jx slot (tP s i u) entry ?_ (args _ _ _);have g:=bits_le (B:=(256:Int)^l) d h0 e;refine(?_:aL _ _ (Builtin.Int.intOfSelf (.int i u)>>=λk=>_) _ _ s);refine ab<|c3 (a:=i) d<|(?_:aL _ _ (Builtin.Int.intBindNamed "to_bytes" ["length","byteorder","signed"] 0 2 [.int (l:Int) S,.str (et "big") E] []>>=λm=>_) _ _ s);refine ab<|c3 (a:=[some (.int (l:Int) S),some (.str (et "big") E),none]) .(0)<|(?_:aL _ _ (Builtin.Int.intIndex "int.to_bytes" (.int (l:Int) S)>>=λo=>_) _ _ s);refine ab<|c3 (a:=(l:Int)) d<|if_not (by show(decide ((l:Int)< -(2^63:Int))||decide ((l:Int)>=2^63))=false;refine j (decide_eq_false (show¬((l:Int)< -(2^63:Int)) by exact Mm)) (j (decide_eq_false (show¬((l:Int)>=2^63) by exact Mn c)) ?_);rfl) ?_;refine ab<|c3 (a:=et "big") .(0)<|ab<|c3 (a:=false) d<|ab<|c3 (a:=false) .(0)<|GQ (decide_eq_false (show¬((l:Int)<0) by exact pW))<|GQ (decide_eq_false (show¬((l:Int)>2^63-1-33) by exact Mo c))<|GQ (decide_eq_false (show¬((l:Int)>(eI:Int)) by refine j gG ?_;exact Mp c)) ?_;refine if_not (by show(decide (i<0)&&!false)=false;refine j (decide_eq_false (show¬i<0 by exact Mq h0)) ?_;rfl) ?_;refine if_not (by show(_&&decide ((intBits i:Int)>8*(l:Int)))=false;rw[decide_eq_false (show¬((intBits i:Int)>8*(l:Int)) by exact Mr g),pw]) ?_;(refine ab (xp (aI (bF (_) (rfl) (f _ _ _ ?_))) (by refine(?_:(List.reverse (low i (GR (l:Int)))).length<=eI);rw[List.length_reverse,low_length,ft,gG];exact pV c)));refine(?_:(List.map (λh:UInt8=>((h.toNat:Nat):Int)) (List.reverse (low i (GR (l:Int)))))=(little l i).reverse);rw[ft,List.map_reverse,low_ints h0 e,<-little_eq]
end
section
open Builtin Builtin.Int KFB
noncomputable def fW(G:List UInt8):Nat:=G.foldl (λ(a:Nat) (b:UInt8)=>a*256+b.toNat) 0
theorem Uo{b8:gD}(c:l<=100)(bi:v<256^l)(f:r (.int (v:Int) s.toks) {s with toks:=s.toks+1}):aL b8 n (mkIntGrown (v:Int)) r M s:=by
 unfold mkIntGrown;have e:¬((v:Int).natAbs.log2>=bitsLine):=by
  refine j (aar ..) ?_;have a:bitsLine=134217728:=by first|rfl|decide
  by_cases b:v=0
  ·refine j b<|j a ?_;decide
  ·have g:(256:Nat)^l=2^(8*l):=by exact j (GS ..) d
   have h:=(Nat.log2_lt b).mpr (g▸bi);exact K1 c a h
 refine j (if_neg e)<|GU f
theorem Up{G:List UInt8}{b8:gD}{P:Fin->H->Prop}(c:G.length<=100)(f:P (.done (.ret (aj (fW G) s.toks))) {s with toks:=s.toks+1}):
 aL b8 n (Builtin.«int.from_bytes» ⟨[.type "int",.bytes G.toArray u,.str (et "big") S],[]⟩) P M s:=by
 have e:fW G<256^G.length:=by have b:=KFB.fold_lt G 0;rw[iu,Nat.one_mul] at b;exact b
 unfold Builtin.«int.from_bytes»;refine ab<|c3 (a:=true) type_int<|if_not d<|ab<|c3 (a:=true) F.conv_sub_int<|if_not d<|ab<|c3 (a:=[some (.bytes G.toArray u),some (.str (et "big") S),none]) .(0)<|ab<|c3 (a:=et "big") .(0)<|ab<|c3 (a:=false) d<|ab<|c3 (a:=false) .(0)<|ab<|c3 (a:=G.toArray) d<|(?_:aL _ _ (mkIntGrown (G.toArray.toList.foldl (λ(g:Int) (h:UInt8)=>g*256+(h.toNat:Int)) ((0:Nat):Int))>>=λi=>_) _ _ _);refine j (foldI_eq ..)<|ab<|Uo c e<|if_so (by decide+kernel)<|ab (aI (aI f))
theorem Uq{e:eF Bool}{r:p×List p->H->Prop}(L:aH w h s)(f:r (.ref s.heap.objs.size,[]) {s with heap:=s.heap.push bound,toks:=s.toks+1}):
 aL (aZ w) n (mC (.type "int") (et "from_bytes") e) r M s:=by
 have X:=L.l;have g:mD (ak w h) (.type "int") (.type "type") (et "from_bytes")=some (.get (.builtin "classmethod_descriptor.__get__") (.builtin "int.from_bytes") .none (.type "int")):=by kernel_rfl
 have i:rf (.type "int")=pure none:=by unfold rf;dsimp only;rw[show xH "int"=false by decide+kernel];rfl
 have k:hH (.type "int")=pure (.type "type"):=by first|rfl|kernel_rfl
 have c:c2 (aZ w) s.heap (hH (.type "int")) (.type "type"):=iV k;have d:dK (ak w h) (.type "type") "__getattribute__"=some (some (.builtin "type.__getattribute__")):=type_tga;unfold mC px;refine ab (ab (c.here ((mE X d).here ?_)));dsimp only;refine j (if_pos canon_tga)<|ab (cy (Q:=λa=>r (a,[])) (E:=M) ?_ (λW W b=>aI b) λW W b=>b);have l:c2 (aZ w) s.heap (rf (.type "int")) none:=iV i;refine cls_open X l c d (looks_hook X (r:=none) (by rfl)) (by show subIn (ak w h) _ _=_;rfl) g<|(?_:aL _ _ (lw [.builtin "int.from_bytes"] (call (.builtin "classmethod_descriptor.__get__") [.builtin "int.from_bytes",.none,.type "int"])>>=λa=>nM a) _ _ _);exact ab (dH (jx slot_get type_fb entry_get (run_get (bF (_) (rfl) (aI (aI f)))) (args_get _ _ _)))
theorem C9{c:az}{o:eF Bool}(a:N w h e I led s)(p:e.l.bL)(m:Nat)(aW:some (y "int")=e.l.aX[m]?)(f:∀i g,N w h e I ((i,GV)::led) g->eM w n M D args (λar b=>∃G u S,ar=[a6 G u,.str (et "big") S]/\G.length<=100/\b.heap.get? i=some GV/\r (aj (fW G) b.toks) {b with toks:=b.toks+1}) g)(j:autoParam (args.all fH=true) b0)(q:autoParam (D=e.D) b0)(t:autoParam (bA (.Call (.Attribute (.Name (y "int") z) (y "from_bytes") c) args [] pos) D=(do
  let k<-bA (.Name (y "int") z) D
  j2 c.atName
  let(C,first)<-lw [k] (mC k (y "from_bytes") o)
  q1 pos C first (lr pos (iW args D)) [])) b0):aa w n (bA (.Call (.Attribute (.Name (y "int") z) (y "from_bytes") c) args [] pos) D) r M s:=by
 refine⟨tR (aa.run (mU a p m aW Rq Tw (Uq a.Z ?_) q)) t⟩;have v:=(a.alloc (J:=GV) d).a3 (u:=s.toks+1);refine callWith_fields (iI j)<|jI j<|(f _ _ v).mono λar b i=>aV λF x=>?_;obtain⟨G,u,S,rfl,A,l,B⟩:=i;all_goals refine x ?_
 exact⟨l,call_of l (λE=>Up A E) B⟩
end
theorem Ur:checkTypeCall "bytes" ⟨[],[]⟩=pure ():=by kernel_rfl
theorem Us:nL "bytes.__new__" ⟨[.type "bytes"],[]⟩=pure ():=by kernel_rfl
theorem Ut:aas "bytes.__new__" "bytes" ["source","encoding","errors"] [] []=pure [none,none,none]:=by kernel_rfl
theorem Uu(f:∀u l,r (.bytes #[] u) {s with toks:=l}):g1 (aZ w) n (.call (.builtin "bytes.__new__") ⟨[.type "bytes"],[]⟩) (wants r M) s:=by
 refine q8 ?_;(refine(?_:aL _ n.in1 (do nL "bytes.__new__" ⟨[.type "bytes"],[]⟩;again (.builtin "bytes.__new__" ⟨[.type "bytes"],[]⟩)) _ _ s));refine ab (c3 Us (aI ⟨kO q9 _,kN Gp<|j (lA q9 _) ?_⟩));unfold Builtin.«bytes.__new__»;refine ab<|c3 (a:=true) d<|iz d<|ab<|c3 F.bm_sub<|iz d<|ab<|c3 Ut<|ab<|c3 (a:=()) d<|ab<|c3 (a:=()) d<|iz d<|ab (xp ?_ (e2 _));refine(?_:aL _ _ (if(jt "bytes"==jt "bytes")=true then _ else _) _ _ _);refine xq .(1) ?_;first
  |exact aI (f _ _)
  |exact ab (aI (aI (f _ _)))
theorem Uv(a:N w h e I led s)(f:∀u k,N w h e I led k->r (a6 [] u) k):aa w n (call (.type "bytes") []) r M s:=by refine⟨xt (Q₁:=λb c=>c.TypeIs b "bytes"/\r b c) Gs Ur Gu (Uu λu g=>⟨q6 _ _ _,f u _ a.a3⟩) λb c d=>(bO (d.1) (F.args_object_init_1 b) (Gv F.bm_called.init.lookup F.bm_called.made .(1) _ w n.in1 _ c (bO (d.1) (rfl) (d.2))))⟩
section
structure Sub(w:aD)(L:x)(br:List x)(v:Nat)(P:Nat->p->Prop)(cH:Nat->au->Prop):Prop where
 frame:∀m f ag,cH m f->(∀b∈L::br,∀J,f.get? b=some J->ag.get? b=some J)->cH m ag
 live:∀m f,cH m f->∀b∈L::br,∃J,f.get? b=some J
 next:∀(n:aQ) m (s:H) (r:p->H->Prop) (M:p->H->Prop),m<v->cH m s.heap->(∀E ag a3,P m E->cH (m+1) ag->kL L s.heap ag->r E {s with heap:=ag,toks:=a3})->aL (aZ w) n (j6 (.ref L)) r M s
 done:∀(n:aQ),n.handled=none->∀(s:H) (r:p->H->Prop) (M:p->H->Prop),cH v s.heap->(∀ag o,kL L s.heap ag->(∃J,ag.get? o=some J/\J.cls=.type "StopIteration")->M (.ref o) {s with heap:=ag})->aL (aZ w) n (j6 (.ref L)) r M s
noncomputable abbrev hS(a:p)(b:Bool)(cP cc:x):Obj:={cls:=.type "zip",dict:=none,data:=.fields #[a,.bool b,.bool false,.ref cP,.ref cc],slots:=#[]}
structure ko(an cP cc ca cI:x)(hv hw:List x):Prop where
 h8:[an,cP,cc,ca,cI].Nodup
 e6:∀b∈hv,b∉[an,cc,ca,cI]
 fz:∀b∈hw,b∉[an,cc,ca,cI]
variable{an cP cc ca cI:x}{hv hw:List x}{fS gQ:Nat}{P1 P2:Nat->p->Prop}{gw gx:Nat->au->Prop}
def kp(an cP cc ca cI:x)(gw gx:Nat->au->Prop)(l:Nat)(f:au):Prop:=∃a d,f.get? an=some (hS a d cP cc)/\(a=.none\/∃e:x,a=eu e)/\nU f cP (.ref ca) (.ref cI)/\(∃c b,nU f cc c b)/\gw l f/\gx l f
theorem kp.keep{f:au}(S1:Sub w ca hv fS P1 gw)(S2:Sub w cI hw gQ P2 gx)(i:kp an cP cc ca cI gw gx l f)(a:∀b∈an::cP::cc::ca::cI::(hv++hw),∀J,f.get? b=some J->ag.get? b=some J):kp an cP cc ca cI gw gx l ag:=by
 refine aV λr e=>?_;obtain⟨g,h,j,b,k,⟨m,n,o⟩,p,q⟩:=i;all_goals refine e ?_
 refine(n6 (g) (h) (a _ aG _ j) (b) (a _ (by exact .tail _ aG) _ k) ((h4 (m) (n) (a _ (by exact .tail _ (.tail _ aG)) _ o))) (S1.frame _ _ _ p λd c=>a d ?_) (S2.frame _ _ _ q λd c=>a d ?_))
 ·rcases List.mem_cons.mp c with rfl|c<;>simp[*]
 ·rcases List.mem_cons.mp c with rfl|c<;>simp[*]
theorem Da{b8:gD}{r:Option V->H->Prop}(f:r (s.heap.get? c) s):aL b8 n (GW c) r M s:=λW W W=>f
theorem Sub.iO(S2:Sub w cI hw gQ P2 gx)(c:ko an cP cc ca cI hv hw){f:au}{i:x}(a:i∈[an,cc,ca])(o:kL i f ag)(ai:gx l f):gx l ag:=by
 have d:=c.h8;simp only[tS,dD,not_or,eR,or_false] at d;refine aV λq e=>?_;obtain⟨⟨r,s,t,g⟩,⟨u,v,y⟩,⟨z,h⟩,j,W⟩:=d;all_goals refine e ?_
 refine S2.frame _ _ _ ai λk b m n=>o k m (λp=>?_) n;subst p;rcases List.mem_cons.mp b with rfl|b
 ·simp only[dD,eR,or_false] at a;rcases a with f|f|f
  ·exact g f.symm
  ·exact h f.symm
  ·exact j f.symm
 ·exact c.fz _ b (by simp only[dD,eR,or_false] at a⊢;rcases a with f|f|f<;>simp[f])
theorem Sub.kn(S1:Sub w ca hv fS P1 gw)(c:ko an cP cc ca cI hv hw){f:au}{i:x}(a:i∈[an,cc,cI])(o:kL i f ag)(ai:gw l f):gw l ag:=by
 have d:=c.h8;simp only[tS,dD,not_or,eR,or_false] at d;refine aV λq e=>?_;obtain⟨⟨fS,r,g,s⟩,⟨t,u,v⟩,⟨h,y⟩,j,W⟩:=d;all_goals refine e ?_
 refine S1.frame _ _ _ ai λk b m n=>o k m (λp=>?_) n;subst p;rcases List.mem_cons.mp b with rfl|b
 ·simp only[dD,eR,or_false] at a;rcases a with f|f|f
  ·exact g f.symm
  ·exact h f.symm
  ·exact j f
 ·exact c.e6 _ b (by simp only[dD,eR,or_false] at a⊢;rcases a with f|f|f<;>simp[f])
theorem vU{a:List x}{f:au}{i:x}(c:i∈a)(o:kL i f ag):∀b J,b∉a->f.get? b=some J->ag.get? b=some J:=λb J d=>o b J λe=>d (e▸c)
theorem Db{c:p}{e:Bool}{r:Bool->H->Prop}(a:s.heap.get? an=some (hS c e cP cc))(g:c=.none\/∃T:x,c=eu T)(f:∀b ag h,ag.get? an=some (hS c h cP cc)->hb an s.heap ag->r b {s with heap:=ag}):aL (aZ w) n (xI (.ref an)) r M s:=by
 unfold xI;refine ab (fE a d (x:=c) d ?_);rcases g with rfl|⟨T,rfl⟩
 ·exact aI (f _ s.heap e a (.refl ..))
 ·refine(?_:aL _ _ (GW _>>=_) _ _ _);refine ab (Da ?_);split
  ·exact aI (f _ s.heap e a (.refl ..))
  ·refine ab (fE a d (x:=.bool e) d ?_);split
   ·exact ab (iA a (by exact rg [rh false,e4 cP,e4 cc].length) λag i j=>aI (f _ ag true i j))
   ·exact aI (f _ s.heap e a (.refl ..))
theorem Uw(S1:Sub w ca hv fS P1 gw)(S2:Sub w cI hw gQ P2 gx)(f:ko an cP cc ca cI hv hw)(ad:l<fS)(ae:l<gQ)(i:kp an cP cc ca cI gw gx l s.heap)(af:∀ag a3 T i ai,P1 l i->P2 l ai->T∉[an,cP,cc,ca,cI]->ag.get? T=some {cls:=.type "tuple",data:=.seq #[i,ai]}->kp an cP cc ca cI gw gx (l+1) ag->
  (∀b J,b∉[an,cc,ca,cI]->s.heap.get? b=some J->ag.get? b=some J)->r (.ref T) {s with heap:=ag,toks:=a3}):
 aL (aZ w) n (Builtin.«zip.__next__» ⟨[.ref an],[]⟩) (λbv k=>∃E,bv=.done (.ret E)/\r E k) M s:=by
 refine aV λaO L=>?_;obtain⟨ah,a8,N,aj,ak,⟨al,b,aP⟩,aQ,aR⟩:=i;all_goals refine L ?_
 have am:=f.h8;simp only[tS,dD,not_or,eR,or_false] at am;refine aV λaO L=>?_;obtain⟨⟨O,u,ao,ap⟩,⟨aq,ar,as⟩,⟨au,av⟩,a9,T⟩:=am;all_goals refine L ?_
 refine(?_:aL _ _ (j7 (.ref an) 2>>=_) _ _ _);refine ab<|fE N d (x:=.bool false) d<|(?_:aL _ _ (j7 (.ref an) 3>>=_) _ _ _);refine ab<|fE N d (x:=.ref cP) d<|ab<|mA ak d<|(?_:aL _ _ (xI (.ref an)>>=_) _ _ _);refine ab (Db N aj λaS ba p P v=>?_);have aw:=v.extBut _ _ (fk O) ak;have ax:=v.extBut _ _ (fk u) aP;have ay:=S1.kn f aG v.extBut aQ;have az:=S2.iO f (by exact .head _) v.extBut aR;have aA:=vU (a:=[an,cc,ca,cI]) (by exact .head _) v.extBut;cases aS with
 |true=>
  refine(?_:aL _ _ (_>>=_) _ _ _);refine ab<|kM<|ab<|fE P d (x:=.ref cc) d<|ab (iA P (by exact lG d) λaT Q y=>?_);replace Q:aT.get? an=some (hS .ellipsis p cP cc):=Q;refine ab<|cA ?_;intro q;refine(?_:aL _ _ (_>>=_) _ _ _);refine ab<|ab<|xJ<|(?_:aL _ _ (j6 (.ref ca)>>=_) _ _ _);refine ab<|S1.next _ l _ _ _ ad (S1.kn f aG y.extBut ay) λi R aU S U m=>aI<|cA ?_;intro q;have aB:nU R cc al b:=m _ _ au (y.extBut _ _ (fk u) ax);have V:=S2.iO f (by exact py d) m (S2.iO f (by exact .head _) y.extBut az);have aW:R.get? an=some (hS .ellipsis p cP cc):=m _ _ ao Q;have aX:=m _ _ ar (y.extBut _ _ (fk O) aw);refine ab<|mA aB d<|ab (GX aB λaY W z=>?_);replace W:nU aY cc i b:=W;have a0:=S1.kn f (by exact .tail _ aG) z.extBut U;have a1:=S2.iO f (.tail _ aG) z.extBut V;refine ab<|pp<|aI<|ab (ab (xJ ?_));refine cA ?_;intro q;refine(?_:aL _ _ (j6 (.ref cI)>>=_) _ _ _);refine ab (S2.next _ l _ _ _ ae a1 λai A a2 X G o=>aI ?_);have B:nU A cc i b:=o _ _ av W;have H:=S1.kn f (by exact py d) o a0;refine ab<|mA B d<|ab (GX B λj C D=>?_);replace C:nU j cc i ai:=C;have aC:=S1.kn f (by exact .tail _ aG) D.extBut H;have aD:=S2.iO f (by exact .tail _ aG) D.extBut G;refine ab<|pp<|aI<|aI<|ab<|mA C d<|ab (GY ?_);have aE:j.get? an=some (hS .ellipsis p cP cc):=D.extBut _ _ u (o _ _ ap (z.extBut _ _ u aW));have aF:=D.extBut _ _ aq (o _ _ as (z.extBut _ _ aq aX));have a4:∀e J,e∉[an,cc,ca,cI]->s.heap.get? e=some J->j.get? e=some J:=λe J g c=>by have Y:=aA e J g c;simp only[dD,not_or,eR,not_false_eq_true,and_true] at g;exact D.extBut _ _ g.2.1 (o _ _ g.2.2.2 (z.extBut _ _ g.2.1 (m _ _ g.2.2.1 (y.extBut _ _ g.1 Y))))
  have I:∀h∈[an,cP,cc,ca,cI],h<j.objs.size:=λh Z=>by
   refine ry Z ?_ ?_ ?_ ?_ ?_
   ·exact cr aE
   ·exact cr aF
   ·exact cr C
   ·refine bo (S1.live _ _ aC _ aG) λJ c=>?_;exact cr c
   ·refine bo (S2.live _ _ aD _ aG) λJ c=>?_;exact cr c
  refine(?_:aL _ _ (aav (.ref an) (.ref j.objs.size)>>=_) _ _ _);refine ab<|cA ?_;intro q;unfold aav;have a5:(j.push {cls:=.type "tuple",data:=.seq #[i,ai]}).get? an=some (hS .ellipsis p cP cc):=cM _ aE;refine ab (iA a5 (lG d) λa6 aa aH=>?_);replace aa:a6.get? an=some (hS (eu j.objs.size) p cP cc):=aa;refine iA aa (by exact rg [rh false,e4 cP,e4 cc].length) λK ac aJ=>?_;replace ac:K.get? an=some (hS (eu j.objs.size) false cP cc):=ac;have F:∀e J,e≠an->j.get? e=some J->K.get? e=some J:=λe J t c=>aJ.extBut _ _ t (aH.extBut _ _ t (cM _ c));have aK:j.objs.size≠an:=λh=>dn _ (h▸I an (by exact .head _));have a7:nU K j.objs.size i ai:=aJ.extBut _ _ aK (aH.extBut _ _ aK (eX _ d));refine aI (bF (_) (rfl) (af K _ j.objs.size i ai S X (λh=>dn _ (I _ h)) a7 (n6 (_) (_) (ac) (.inr ⟨_,rfl⟩) (F _ _ (fk O) aF) ((h4 (i) (ai) (F _ _ (fk u) C))) (?_) (?_)) λe J g c=>?_))
  ·exact S1.kn f (by exact .head _) (i:=an) (λe J t c=>F e J t c) aC
  ·exact S2.iO f aG (i:=an) (λe J t c=>F e J t c) aD
  ·exact F e J (λh=>g (by simp[h])) (a4 e J g c)
 |false=>
  refine(?_:aL _ _ (_>>=_) _ _ _);refine ab<|cA ?_;intro q;refine(?_:aL _ _ (_>>=_) _ _ _);refine ab (ab (dH ?_));refine cA ?_;intro q;refine(?_:aL _ _ (j6 (.ref ca)>>=_) _ _ _);refine ab (S1.next _ l _ _ _ ad ay λi R aU S U m=>aI ?_);have V:=S2.iO f (by exact py d) m az;refine aI<|ab (ab (dH ?_));refine cA ?_;intro q;refine(?_:aL _ _ (j6 (.ref cI)>>=_) _ _ _);refine ab (S2.next _ l _ _ _ ae V λai A a2 X G o=>aI ?_);have H:=S1.kn f (by exact py d) o U;have aM:A.get? an=some (hS ah p cP cc):=o _ _ ap (m _ _ ao P);have aN:=o _ _ as (m _ _ ar aw);have B:=o _ _ av (m _ _ au ax);refine aI<|aI<|ab (GY ?_ (ey d));have I:∀h∈[an,cP,cc,ca,cI],h<A.objs.size:=λh Z=>by
   refine ry Z ?_ ?_ ?_ ?_ ?_
   ·exact cr aM
   ·exact cr aN
   ·exact cr B
   ·refine bo (S1.live _ _ H _ aG) λJ c=>?_;exact cr c
   ·refine bo (S2.live _ _ G _ aG) λJ c=>?_;exact cr c
  refine aI (bF (_) (rfl) (af _ _ A.objs.size i ai S X (λh=>dn _ (I _ h)) (eX _ d) (n6 (ah) (p) (cM _ aM) (aj) (cM _ aN) ((h4 (al) (b) (cM _ B))) (S1.frame _ _ _ H λb W J c=>cM _ c) (S2.frame _ _ _ G λb W J c=>cM _ c)) λe J g c=>?_));have Y:=aA e J g c;simp only[dD,not_or,eR,not_false_eq_true,and_true] at g;exact cM _ (o _ _ g.2.2.2 (m _ _ g.2.2.1 Y))
theorem Ux(S1:Sub w ca hv fS P1 gw)(S2:Sub w cI hw gQ P2 gx)(j:ko an cP cc ca cI hv hw)(V:l<=fS)(aE:l<=gQ)(W:l=fS\/l=gQ)(y:n.handled=none)(i:kp an cP cc ca cI gw gx l s.heap){r:Fin->H->Prop}(z:∀ag o a3,(∀b J,b∉[an,cc,ca,cI]->s.heap.get? b=some J->ag.get? b=some J)->(∃J,ag.get? o=some J/\J.cls=.type "StopIteration")->M (.ref o) {s with heap:=ag,toks:=a3}):
 aL (aZ w) n (Builtin.«zip.__next__» ⟨[.ref an],[]⟩) r M s:=by
 refine aV λaj F=>?_;obtain⟨aF,aH,G,ak,X,⟨al,b,am⟩,ao,ap⟩:=i;all_goals refine F ?_
 have Y:=j.h8;simp only[tS,dD,not_or,eR,or_false] at Y;refine aV λaj F=>?_;obtain⟨⟨aq,I,Z,ar⟩,⟨aJ,aK,aM⟩,⟨as,aN⟩,aO,H⟩:=Y;all_goals refine F ?_
 refine(?_:aL _ _ (j7 (.ref an) 2>>=_) _ _ _);refine ab<|fE G d (x:=.bool false) d<|(?_:aL _ _ (j7 (.ref an) 3>>=_) _ _ _);refine ab<|fE G d (x:=.ref cP) d<|ab<|mA X d<|(?_:aL _ _ (xI (.ref an)>>=_) _ _ _);refine ab (Db G ak λau aP q aa t=>?_);have aQ:=t.extBut _ _ (fk aq) X;have av:=t.extBut _ _ (fk I) am;have K:=S1.kn j (by exact .head _) t.extBut ao;have ac:=S2.iO j aG t.extBut ap;have A:=vU (a:=[an,cc,ca,cI]) (by exact .head _) t.extBut;cases au with
 |true=>
  refine(?_:aL _ _ (_>>=_) _ _ _);refine ab<|kM<|ab<|fE aa d (x:=.ref cc) d<|ab (iA aa (by exact lG d) λaw B C=>?_);replace B:aw.get? an=some (hS .ellipsis q cP cc):=B;have ad:=S1.kn j (by exact .head _) C.extBut K;have ax:=S2.iO j aG C.extBut ac;have ae:=vU (a:=[an,cc,ca,cI]) (by exact .head _) C.extBut;refine ab<|cA ?_;intro L;refine(?_:aL _ _ (_>>=_) _ _ _);refine ab (ab (xJ ?_));refine cA ?_;intro L;refine(?_:aL _ _ (j6 (.ref ca)>>=_) _ _ _);rcases gB l fS with u|N
  ·refine ab (S1.next _ l _ _ _ u ad λi k ay az aA e=>aI ?_);have O:l=gQ:=zi W u;have af:nU k cc al b:=e _ _ as (C.extBut _ _ (fk I) av);have P:=S2.iO j (by exact py d) e ax;have D:k.get? an=some (hS .ellipsis q cP cc):=e _ _ Z B;refine ab<|mA af d<|ab (GX af λQ aR p=>?_);have aB:=S2.iO j (by exact .tail _ aG) p.extBut P;have aC:Q.get? an=some (hS .ellipsis q cP cc):=p.extBut _ _ I D;refine ab<|pp<|aI<|ab<|ab<|xJ<|(?_:aL _ _ (j6 (.ref cI)>>=_) _ _ _);refine ab (S2.done _ y _ _ _ (O▸aB) λR o E f=>?_);(refine bp f λS g v=>?_;clear f);have ah:R.get? an=some (hS .ellipsis q cP cc):=E _ _ ar aC;have T:o≠an:=λi=>by subst i;rw[ah] at g;(obtain rfl:=dg g;clear g);simp at v
   refine iA ah (lG d) λaD Y ai=>z aD o _ (λh J c i=>?_) (bF (S) (ai.extBut _ _ T g) (v));have m:=ae h J c (A h J c i);simp only[dD,not_or,eR,not_false_eq_true,and_true] at c;exact ai.extBut _ _ c.1 (E _ _ c.2.2.2 (p.extBut _ _ c.2.1 (e _ _ c.2.2.1 m)))
  ·have U:l=fS:=by exact uF V N
   refine ab (S1.done _ y _ _ _ (U▸ad) λk o e f=>?_);(refine bp f λS g v=>?_;clear f);have D:k.get? an=some (hS .ellipsis q cP cc):=e _ _ Z B;have T:o≠an:=λi=>by subst i;rw[D] at g;(obtain rfl:=dg g;clear g);simp at v
   refine iA D (by exact lG d) λQ Y p=>z Q o _ (λh J c i=>?_) (bF (S) (p.extBut _ _ T g) (v));have m:=ae h J c (A h J c i);simp only[dD,not_or,eR,not_false_eq_true,and_true] at c;exact p.extBut _ _ c.1 (e _ _ c.2.2.1 m)
 |false=>
  refine ab ?_;refine(?_:aL _ _ (_>>=_) _ _ _);refine ab (ab (dH ?_));refine cA ?_;intro L;refine(?_:aL _ _ (j6 (.ref ca)>>=_) _ _ _);rcases gB l fS with u|N
  ·refine ab (S1.next _ l _ _ _ u K λi k ay az aA e=>aI ?_);have O:l=gQ:=zi W u;have P:=S2.iO j (by exact py d) e ac;refine aI<|ab<|ab<|dH<|cA ?_;intro L;refine(?_:aL _ _ (j6 (.ref cI)>>=_) _ _ _);refine ab (S2.done _ y _ _ _ (O▸P) λR o E f=>z R o _ (λh J c i=>?_) f);have m:=A h J c i;simp only[dD,not_or,eR,not_false_eq_true,and_true] at c;exact E _ _ c.2.2.2 (e _ _ c.2.2.1 m)
  ·have U:l=fS:=by exact uF V N
   refine ab (S1.done _ y _ _ _ (U▸K) λk o e f=>z k o _ (λh J c i=>?_) f);have m:=A h J c i;simp only[dD,not_or,eR,not_false_eq_true,and_true] at c;exact e _ _ c.2.2.1 m
def Uy(an cP cc ca cI:x)(P1 P2:Nat->p->Prop)(l:Nat)(E:p)(f:au):Prop:=∃a i ai,E=.ref a/\a∉[an,cP,cc,ca,cI]/\f.get? a=some {cls:=.type "tuple",data:=.seq #[i,ai]}/\P1 l i/\P2 l ai
theorem k8(S1:Sub w ca hv fS P1 gw)(S2:Sub w cI hw gQ P2 gx)(m:ko an cP cc ca cI hv hw)(v:n.handled=none):
 eY w n an (an::cP::cc::ca::cI::(hv++hw)) [an,cc,ca,cI] (min fS gQ) (Uy an cP cc ca cI P1 P2) (kp an cP cc ca cI gw gx) where
 W:={
  sub:=λb c=>by refine HP c ?_ ?_ ?_ ?_<;>simp
  frame:=λo x g a9 h=>a9.keep S1 S2 h
  item:=λo d p q r a9 e=>by
   refine db (id a9) λi j f Y=>?_;have a:d.TypeIs (.ref an) "zip":=(bF (_) (f) (rfl));unfold gE;exact ab (nQ (mF (name:=et "__next__") a xK
    (jx xK a F.entry_zip_next
     (Uw S1 S2 m (cQ r (nB ..)) (cQ r (mm ..)) a9 λg s T k y z A B C D E=>aI (e _ g s (n7 (T) (k) (y) (rfl) (B) (C) (z) (A)) D E)) (aax _))))
  done:=λd p q a9 e=>by
   refine db (id a9) λi j f Y=>?_;have a:d.TypeIs (.ref an) "zip":=(bF (_) (f) (rfl));unfold gE;refine ab (nQ (mF (name:=et "__next__") a xK
    (jx xK a F.entry_zip_next (Ux (n:=n.in1) S1 S2 m (nB ..) (mm ..) (by exact KN) (show n.in1.handled=none from v) a9 λg l s h t=>?_) (aax _))))
   (refine bp t λG H I=>?_;clear t);refine ab<|xz (T:="StopIteration") (b:=true) (bF (G) (H) (I)) GZ<|aI (e _ _ h)
  self:=λo d p q a9 e=>by
   (refine db a9 λi j f Y=>?_;clear a9);have a:d.TypeIs (.ref an) "zip":=(bF (_) (f) (rfl));refine wpAny_pyIter_slot a F.slot_zip_iter (jx F.slot_zip_iter a F.entry_zip_iter ?_ (F.args_zip_iter_1 _));refine(?_:aL _ _ (nM (.ref an)) _ _ d);exact aI (bF (_) (rfl) (el ("zip") (_) (a) (F.slot_zip_next.lookup) (e)))}
 live:=λN x k b c=>by
  refine aV λO J=>?_;obtain⟨i,j,K,P,L,⟨Q,R,M⟩,l,u⟩:=k;all_goals refine J ?_
  simp only[dD,lD] at c;rcases c with rfl|rfl|rfl|rfl|rfl|c|c
  ·exact⟨_,K⟩
  ·exact⟨_,L⟩
  ·exact⟨_,M⟩
  ·exact S1.live _ _ l _ aG
  ·exact S2.live _ _ u _ aG
  ·exact S1.live _ _ l _ (.tail _ c)
  ·exact S2.live _ _ u _ (.tail _ c)
theorem vV{aO:Unit->H->Prop}{a0:Nat}{T:x}{P:Nat->p->au->Prop}{br:List x}{W:eY w n an br [an,cc,ca,cI] v P (kp an cP cc ca cI gw gx)}(S1:Sub w ca hv fS P1 gw)(S2:Sub w cI hw gQ P2 gx)(i:ko an cP cc ca cI hv hw)(a:N w h (e.push (cs W a0)) I led s)(t:d7 e [an,cc,ca,cI])(f:∀ag,N w h (e.push (cs W a0)) I led {s with heap:=ag}->(∀b J,b≠an->s.heap.get? b=some J->ag.get? b=some J)->aO () {s with heap:=ag}):
 aa w n (gi (.Tuple bl l z) (.ref an) (.ref T)) aO M s:=by
 have a9:kp an cP cc ca cI gw gx a0 s.heap:=a.bG.1;refine kb (id a9) λu o q Q y=>⟨?_⟩;unfold gi;refine ab<|po q<|(?_:aL _ _ (if(["enumerate","zip","dict_itemiterator","dict_reverseitemiterator","odict_iterator","itertools.zip_longest","itertools.pairwise"].contains "zip"&&(#[u,.bool o,.bool false,.ref cP,.ref cc]:Array p)[0]?==some (eu T))=true then _ else _) aO M s);split
 ·refine ab<|kM<|(?_:aL _ _ (xL (.ref an) 0 .none) _ _ s);refine iA q (lG d) λag A g=>aV λR B=>?_;obtain⟨C,⟨D,E,b⟩,F,c⟩:=y;all_goals refine B ?_
  have j:=i.h8;simp only[tS,dD,not_or,eR,or_false] at j;(refine bE j λr Y=>?_;clear j;(refine kS r λG K S U=>?_;clear r));have L:kp an cP cc ca cI gw gx a0 ag:=(n6 (.none) (o) (A) (.inl d) (g.extBut _ _ (fk G) C) ((h4 (D) (E) (g.extBut _ _ (fk K) b))) (S1.kn i (by exact .head _) g.extBut F) (S2.iO i (by exact .head _) g.extBut c));exact f ag (a.item t.own (k:={s with heap:=ag}) ⟨λb J m c=>g.extBut b J (λO=>m (by simp[O])) c,rfl,rfl,rfl⟩ L) λb J m c=>g.extBut b J m c
 ·exact aI (f s.heap a λY Y Y c=>c)
end
theorem kq(k:G≠L)(aM:Array p):Sub w L [G] aM.size (λm E=>aM[m]?=some E) (λm f=>f.IsListIter L G m/\f.IsList G aM) where
 frame:=λm f e ⟨b,a⟩ g=>⟨b.at λd c=>g L aG d c,a.at λd c=>g G (.tail _ aG) d c⟩
 live:=λm f ⟨⟨d,c,_⟩,⟨y,l,_⟩⟩ a n=>by
  refine ed n ?_ ?_
  ·exact⟨_,c⟩
  ·exact⟨_,l⟩
 next:=λo m h q r i ⟨b,a⟩ s=>wpAny_nextOf_list_item b a (x:=aM[m]) (by simp[i]) λe t j=>s _ e h.toks (by simp[i]) ⟨t,a.extBut j.extBut k⟩ j.extBut
 done:=λo u h q r ⟨b,a⟩ v=>wpAny_nextOf_list_end u b a Array.getElem?_size v
theorem ig(G:List UInt8)(u:aF):Sub w L [] G.length (λm E=>∃e S,G[m]?=some e/\E=aj e.toNat S) (λm f=>aaq f L G.toArray u m) where
 frame:=λm f C ⟨i,k,q⟩ r=>⟨i,r L aG _ k,q⟩
 live:=λm f ⟨i,k,_⟩ D s=>by refine j (List.mem_singleton.mp s) ?_;exact⟨i,k⟩
 next:=λn m g t v o h y=>by
  refine g4 (id h) λi c p b=>?_;unfold j6;refine ab (mF (name:=et "__next__") (xM h) xN
   (jx xN (xM h) KBw.entry_next ?_ (KBw.args_next _)))
  refine(?_:aL _ _ (j7 (.ref L) 0>>=_) _ _ g);refine ab (fE c b (x:=.bytes G.toArray u) d ?_);refine(?_:aL _ _ (if(tO G.toArray u==fD)=true then _ else _) _ _ g);refine j (if_neg (show¬((tO G.toArray u==fD)=true) from iY))<|(?_:aL _ _ (j7 (.ref L) 1>>=_) _ _ g);refine ab<|fE c b (x:=.int m 0) d<|ab (c3 (a:=G.toArray) d ?_);have l:G.toArray[m]?=some G[m]:=by simp[o]
  simp only[ft,l];refine ab (rc c b (rg [].length) (ab (GU (aI ⟨_,rfl,aI (y _ _ _ (eU (G[m]) (_) (da o) (rfl)) ?_ (kJ ..).extBut)⟩))));(exact(du (_) (nI _ c (GL (rd b _))) ((aay ..).trans p) (by rw[rd b];rfl)))
 done:=λn z g t v h A=>by
  refine g4 (id h) λi c p b=>?_;unfold j6;refine ab (mF (name:=et "__next__") (xM h) xN
   (jx xN (xM h) KBw.entry_next ?_ (KBw.args_next _)))
  refine cA ?_;intro B;refine(?_:aL _ _ (j7 (.ref L) 0>>=_) _ _ g);refine ab (fE c b (x:=.bytes G.toArray u) d ?_);refine(?_:aL _ _ (if(tO G.toArray u==fD)=true then _ else _) _ _ g);refine j (if_neg (show¬((tO G.toArray u==fD)=true) from iY))<|(?_:aL _ _ (j7 (.ref L) 1>>=_) _ _ g);refine ab<|fE c b (x:=.int G.length 0) d<|ab (c3 (a:=G.toArray) d ?_);have l:G.toArray[G.length]?=none:=by simp
  simp only[ft,l];refine ab<|kM<|ab<|rc c b (lG d)<|(?_:aL _ _ (ri (.type "StopIteration") []>>=_) _ _ _);refine ab<|cA ?_;intro B;simp only[ri,newTuple];refine ab (lB ?_ (by size_fits));refine ab (m:=rj _ _)<|c3 (a:=fD) (by first|rfl|(simp only[rj];rfl))<|lB ?_ (by size_fits);dsimp only[raiseNew];refine ab<|G0<|j (show n.in1.handled=none from z)<|ab<|aI<|xE<|A _ _ (((kJ ..).extBut.push _).push _) (bF (_) (eX _ d) (rfl))
noncomputable abbrev qw(f:au)(c:Array UInt8)(u:aF):Heap:=f.push {cls:=.type "bytes_iterator",data:=.fields #[.bytes c u,.int 0 0]}
noncomputable abbrev sE(f:au)(c b:Array UInt8)(u S:aF):Heap:=(qw f c u).push {cls:=.type "bytes_iterator",data:=.fields #[.bytes b S,.int 0 0]}
noncomputable abbrev sF(f:au)(c b:Array UInt8)(u S:aF):Heap:=(sE f c b u S).push {cls:=.type "tuple",data:=.seq #[.ref f.objs.size,.ref (qw f c u).objs.size]}
noncomputable abbrev sG(f:au)(c b:Array UInt8)(u S:aF):Heap:=(sF f c b u S).push {cls:=.type "tuple",data:=.seq #[.none,.none]}
noncomputable abbrev k9(f:au)(c b:Array UInt8)(u S:aF):Heap:=(sG f c b u S).push {cls:=.type "zip",data:=.fields #[.none,.bool false,.bool false,.ref (sE f c b u S).objs.size,.ref (sF f c b u S).objs.size]}
set_option maxHeartbeats 2000000 in
theorem Uz(c b:Array UInt8)(u S:aF):
 Meets (Builtin.«zip.__new__» ⟨[.type "zip",.bytes c u,.bytes b S],[]⟩) (λW av s=>av (.ok (.ret (.ref (sG s.heap c b u S).objs.size))) {s with heap:=k9 s.heap c b u S}):=
 .of_wp λd e f av s a=>by
  obtain⟨g,h,i,j,os⟩:=s;have k:=sub_zip
  wp_walk using xy (b:=c) (t:=u),xy (b:=b) (t:=S)
  exact(bF (_) (rfl) (a))
theorem N.qx(a:N w h e I led s){J:V}(b:J.isFreed=false):N w h e I led {s with heap:=s.heap.push J}:=(a.alloc b).cd (cJ _ _)
theorem Dc{c b:List UInt8}(a:N w h e I led s)(G:n.handled=none)(f:∀an cP cc ca cI k,(t:ko an cP cc ca cI [] [])->d7 e [an,cc,ca,cI]->N w h (e.push (cs (k8 (w:=w) (ig c u) (ig b S) t G) 0)) I led k->r (.ref an) k):aa w n (call (.type "zip") [a6 c u,a6 b S]) r M s:=by
 refine⟨callType_new F.called_zip .(1) (F.typeCall_zip_2 _ _) (F.newCall_zip_2 _ _) (λH=>F.args_object_init_3 H _ _) F.entry_zip_new (Uz c.toArray b.toArray u S) ?_⟩;have v:(qw s.heap c.toArray u).objs.size=s.heap.objs.size+1:=hZ ..;have x:(sE s.heap c.toArray b.toArray u S).objs.size=s.heap.objs.size+2:=j (hZ ..) (j v d);have y:(sF s.heap c.toArray b.toArray u S).objs.size=s.heap.objs.size+3:=j (hZ ..) (j x d);have z:(sG s.heap c.toArray b.toArray u S).objs.size=s.heap.objs.size+4:=j (hZ ..) (j y d);have K:(k9 s.heap c.toArray b.toArray u S).objs.size=s.heap.objs.size+5:=j (hZ ..) (j z d);have m:(k9 s.heap c.toArray b.toArray u S).get? (sG s.heap c.toArray b.toArray u S).objs.size=some _:=eX _ d;have o:(k9 s.heap c.toArray b.toArray u S).get? (sF s.heap c.toArray b.toArray u S).objs.size=some _:=cM _ (eX _ d);have p:(k9 s.heap c.toArray b.toArray u S).get? (sE s.heap c.toArray b.toArray u S).objs.size=some _:=cM _ (cM _ (eX _ d));have q:(k9 s.heap c.toArray b.toArray u S).get? (qw s.heap c.toArray u).objs.size=some _:=cM _ (cM _ (cM _ (eX _ d)));have A:(k9 s.heap c.toArray b.toArray u S).get? s.heap.objs.size=some _:=cM _ (cM _ (cM _ (cM _ (eX _ d))));have B:N w h e I led {s with heap:=k9 s.heap c.toArray b.toArray u S}:=((((a.qx (J:={cls:=.type "bytes_iterator",data:=.fields #[.bytes c.toArray u,.int 0 0]}) d).qx (J:={cls:=.type "bytes_iterator",data:=.fields #[.bytes b.toArray S,.int 0 0]}) d).qx (J:={cls:=.type "tuple",data:=.seq #[.ref s.heap.objs.size,.ref (qw s.heap c.toArray u).objs.size]}) d).qx (J:={cls:=.type "tuple",data:=.seq #[.none,.none]}) d).qx d;refine⟨(bF (_) (m) (rfl)),?_⟩;rw[x,y,z] at m;rw[v,x] at p;rw[y] at o;rw[v] at q;refine j z ?_;generalize k9 s.heap c.toArray b.toArray u S=L at B A q p o m K;have t:ko (s.heap.objs.size+4) (s.heap.objs.size+2) (s.heap.objs.size+3) s.heap.objs.size (s.heap.objs.size+1) [] []:=⟨(by simp<;>lia),(λW f=>nomatch f),(λW f=>nomatch f)⟩;have C:∀g,s.heap.objs.size<=g->Apart e led g:=λg i=>a.eC (by
  cases O:s.heap.get? g with
  |none=>rfl
  |some J=>exact absurd (cr O) (Nat.not_lt.mpr i)) (bZ a.Z.size i)
 have D:∀g∈[s.heap.objs.size+4,s.heap.objs.size+2,s.heap.objs.size+3,s.heap.objs.size,s.heap.objs.size+1],s.heap.objs.size<=g/\∃J,L.get? g=some J:=λg i=>by
  refine ry i ?_ ?_ ?_ ?_ ?_
  ·exact⟨by exact zj,_,m⟩
  ·exact⟨by exact zk,_,p⟩
  ·exact⟨by exact rI,_,o⟩
  ·exact⟨by exact zl,_,A⟩
  ·exact⟨by exact zm,_,q⟩
 refine f _ _ _ _ _ _ t ⟨λg i=>?_⟩ (B.hl _ (n6 (.none) (false) (m) (.inl d) (p) ((h4 (_) (_) (o))) (⟨_,A,rfl,rfl⟩) ((du (_) (q) (rfl) (rfl)))) λg i=>?_)
 ·have l:=C g (D g (by simp only[dD,eR,or_false] at i⊢;rcases i with f|f|f|f<;>simp[f])).1;exact⟨l.own,l.hd⟩
 ·have E:=D g (by assumption);have l:=C g E.1;exact(cV (l.fn) (l.own.dc) (l.led) (l.own.ge) (E.2))
theorem kr{g i:am}{u:x}{c b:p}{r:Unit->H->Prop}(z:n.handled=none)(a:N w h e I led s)(A:IsTup s.heap u #[c,b])(f:∀k,N w h e I led k->(∀t J,s.heap.get? t=some J->k.heap.get? t=some J)->aa w n (dX g D c) (λW y=>aa w n (dX i D b) r M y) M k)(o:autoParam (assignEach [g,i] D=[(false,dX g D),(false,dX i D)]) b0):
 aa w n (dX (.Tuple [g,i] l pos) D (.ref u)) r M s:=by
 refine⟨assign_Tuple_tuple z A (by refine j o ?_;rfl) (by refine j o ?_;rfl) λq B=>?_⟩;refine j o ?_;have v:∀t J,s.heap.get? t=some J->q.get? t=some J:=λt J m=>B t J (g0 (cr m)) m;have C:N w h e I led {s with heap:=q}:=a.step (F:=[]) (k:={s with heap:=q}) ⟨λt J W m=>v t J m,rfl,rfl,rfl⟩ (λW f=>nomatch f) (λf=>nomatch f) d (λE G=>v _ _ (a.ld E G).1) λW W f=>nomatch f;exact pz (aa.J (f _ C v) λW y K=>pz (aa.J K λW O L=>xO L))
theorem oL{G:List UInt8}{i:UInt8}(f:G[m]?=some i):G.getD m 0=i:=by refine j dY (j f ?_);rfl
noncomputable def hT(c b:List UInt8):List UInt8:=(bH (min c.length b.length)).map λm=>c.getD m 0^^^b.getD m 0
theorem vW(c b:List UInt8):(hT c b).length=min c.length b.length:=by simp[hT]
theorem Dd(v:Nat)(C:Nat->Nat)(g:Nat->UInt8)(f:∀m,m<v->C m=(g m).toNat):iy ((bH v).map λm=>((C m:Nat):Int))=((bH v).map g).toArray:=by simp only[iy,nN];congr 1;refine Gd λm a=>(?_:(((C m:Nat):Int)).toNat.toUInt8=g m);refine j (ft ..)<|j (f m (List.mem_range.mp a))<|aaz
theorem De(x:bb h)(L:aH w h s)(A:aR n 5 16){c b:List UInt8}(z:c.length<=1000)(f:∀u k,bP [] s k->aH w h k->r (a6 (hT c b) u) k):bk w n (.call (.ref 69) ⟨[a6 c u,a6 b S],[]⟩) (bW r) s:=by
 refine cZ (q:=4) (S:=13) (Rv x) PM .none L trivial A.mono ?_;intro ac B ad ae af i a A;refine seq<|b2<|aE ?_;intro C;refine c6 a i 0 d jF jN<|jK (aN:=[y "x",y "y"]) (aX:=[]) _ d A.hm (by decide+kernel)<|c6 a i 1 d vq vF<|Y a i 0 d d<|Y a i 1 d d<|Dc a A.bd λag ah ai ak al B m D a=>m0 a<|sn (aN:=[y "x",y "y"]) (aX:=[]) (λp E=>k8 (ig c u) (ig b S) m E) A.bd a D d i (68,64) d .(1) _ d (by decide+kernel) (q:=0) (S:=0) (F:=λo G=>∃u,G=aj (c.getD o 0^^^b.getD o 0).toNat u) ?_ ?_
 ·intro am code an ao p o H ap k aq ar as l au t av I J K M e;refine aE ?_;intro C;(refine iF (uY J) λaw ax ay N=>?_;obtain rfl:=N);refine aV λaz O=>?_;obtain⟨aA,H,aB,rfl,P,Q,⟨aC,aD,R,rfl⟩,⟨aF,aG,T,rfl⟩⟩:=I;all_goals refine O ?_
  refine vV (W:=k8 (n:=p) (ig c u) (ig b S) m t.bd) (ig c u) (ig b S) m e M λaI e U=>e.gl ?_;intro aJ e;refine kr t.bd e (du (_) (U _ _ (λV=>P (by simp[V])) Q) (rfl) ⟨_,rfl⟩) λk e W=>cp<|d8 e l 1 d d λk e=>e.jE ?_;intro aK e;refine cp<|d8 e l 2 d d λk e=>a2<|Y e l 1 d d<|Y e l 2 d d<|m2 e λX k e=>K _ _ _ _ ⟨X,?_⟩ (by rfl) e;rw[oL R,oL T,UInt8.toNat_xor]
 ·intro aL k e Z;refine Cd e d Z (A.mono .(1) .(1)) (by refine j gG ?_;have:=nB c.length b.length;exact I5 z) (λg=>((c.getD g 0^^^b.getD g 0).toNat:Int)) (λg aM W aa=>aa) (λg W=>?_) λab a5 v=>?_
  ·have:=(c.getD g 0^^^b.getD g 0).toNat_lt;exact KB this
  ·refine j (Dd _ (λg=>(c.getD g 0^^^b.getD g 0).toNat) (λg=>c.getD g 0^^^b.getD g 0) λW W=>rfl)<|f ab a5 v.aS v.Z
abbrev UA(w:aD)(n:aQ)(u:am)(D:ao)(r:eb->H->Prop)(M:p->H->Prop)(E:p)(s:H):Prop:=aa w n (dX u D E) (λW=>r .next) M s
theorem Df{a:az}{r:eb->H->Prop}(f:aa w n (bA value D) (UA w n (.Tuple bl l a) D r M) M s)(b:autoParam (swapsWithSole [.Tuple bl l a] value pos.line D=pure false) b0)(cY:autoParam (swappedStores [.Tuple bl l a] value D=pure none) b0):aa w n (g2 (.Assign [.Tuple bl l a] value pos) D) r M s:=⟨Assign_Tuple (f.J λW W c=>c.run) b cY⟩
theorem vX{p:az}(i ai:al){r:eb->H->Prop}(y:n.handled=none)(f:aa w n (bA value D) (λE g=>∃u c b e I led,E=.ref u/\N w h e I led g/\IsTup g.heap u #[c,b]/\∀t,N w h e I led t->aa w n (kK D ai b) (λW v=>aa w n (kK D i c) (λW=>r .next) M v) M t) M s)(z:autoParam (swapsWithSole [.Tuple bl l p] value pos.line D=pure false) b0)(cY:autoParam (swappedStores [.Tuple bl l p] value D=pure (some [i,ai])) b0):aa w n (g2 (.Assign [.Tuple bl l p] value pos) D) r M s:=by
 refine⟨Assign_Tuple_swapped (names:=[i,ai]) (f.J λE g X=>?_) z cY⟩;refine aV λO A=>?_;obtain⟨u,c,b,e,I,led,rfl,a,B,l⟩:=X;all_goals refine A ?_
 refine unpackItems_tuple (items:=#[c,b]) y B λq C=>?_;have x:∀j m,g.heap.get? j=some m->q.get? j=some m:=λj m o=>C j m (g0 (cr o)) o;have G:N w h e I led {g with heap:=q}:=a.step (F:=[]) (k:={g with heap:=q}) ⟨λj m W o=>x j m o,rfl,rfl,rfl⟩ (λW f=>nomatch f) (λf=>nomatch f) d (λJ K=>x _ _ (a.ld J K).1) λW W f=>nomatch f;exact pz (bindName_ ((l _ G).J λW v L=>pz (bindName_ (L.J λW P ai=>xO ai))))
noncomputable def iP:Nat->Nat->List UInt8
 |0,_=>[]
 |l+1,v=>iP l (v/256)++[(v%256).toUInt8]
theorem Dg:∀(l v:Nat),(iP l v).length=l
 |0,_=>rfl
 |l+1,v=>by refine(?_:(iP l (v/256)++[(v%256).toUInt8]).length=_);rw[dZ,Dg l];rfl
theorem UB(v:Nat):((v%256).toUInt8).toNat=v%256:=by refine(?_:(G4 (v%256)).toNat=_);refine j G5 ?_;exact IU
theorem Dh:∀(l v:Nat),(iP l v).map (λe=>((e.toNat:Nat):Int))=(KTBy.little l (v:Int)).reverse
 |0,_=>rfl
 |l+1,v=>by refine(?_:(iP l (v/256)++[(v%256).toUInt8]).map _=((v:Int)%256::KTBy.little l ((v:Int)/256)).reverse);rw[g3,Dh l,tE];congr 1;simp only[dC,iB,UB];dsimp
theorem UC{c:Array UInt8}{G:List UInt8}(f:KBw.bInts c=G.map λe=>((e.toNat:Nat):Int)):c=G.toArray:=by obtain⟨b⟩:=c;rw[KBw.ints_list] at f;congr 1;refine List.map_inj_right (f:=λe:UInt8=>((e.toNat:Nat):Int)) (λc d a=>?_)|>.mp f;exact UInt8.toNat_inj.mp (Int.natCast_inj.mp a)
theorem Di{E:aF}(a:N w h e I led s)(c:l<=100)(bi:v<256^l)(f:∀u k,N w h e I led k->r (a6 (iP l v) u) k):aa w n (call (.builtin "int.to_bytes") [aj v u,aj l S,.str (et "big") E]) r M s:=by refine⟨Un c fm (by refine j (KTBy.p256 ..) ?_;exact Int.ofNat_lt.mpr bi) λd g i b=>?_⟩;rw[<-Dh] at b;have:=UC b;refine j this<|f _ _ a.a3
noncomputable def e9(id:Nat)(ext:Bool):List UInt8:=if ext then[] else nd false++iP 2 id
theorem Dj(id:Nat)(ext:Bool):(e9 id ext).length<=8:=by
 cases ext
 ·refine(?_:(nd false++iP 2 id).length<=8);refine j dZ (j (Dg ..) ?_);decide
 ·exact e2 _
theorem Dk(g:bb h)(L:aH w h s)(A:aR n 5 19){id:Nat}{ext:Bool}(i:id<2^15)(f:∀u k,bP [] s k->aH w h k->r (a6 (e9 id ext) u) k):bk w n (.call (.ref 83) ⟨[aj id u,.bool ext],[]⟩) (bW r) s:=by
 refine cZ (q:=4) (S:=16) (Rx g) PO .none L trivial A.mono ?_;intro p c t v m b a A;refine seq<|ifs<|gq<|Y a b 1 d d<|cn ?_;cases ext with
 |true=>refine d2<|seq<|b2<|c6 a b 0 d jF jN<|Uv a λx c a=>f _ _ a.aS a.Z
 |false=>
  refine dw<|bv<|seq<|bN<|b3 a b 1 d sa r2<|eA a b 2 d vf<|⟨a.Z.l,su g a.Z A.mono .(1) .(1) λy c o L=>?_⟩;replace a:=a.call o L;refine bx a b 2 d d ?_;intro c m a;refine seq<|b2<|aE ?_;intro z;refine a2<|eA a b 3 d Bg ?_;refine gu F.plainAttrs_int KTBy.slot KTBy.type_eq ?_;refine Y a b 0 d d<|(bO (rfl) ((λB e=>nomatch e))<|Y a b 2 d d<|fj a λC c a=>Di (l:=2) a .(1) (cQ i .(1)) λD c a=>lX a (b6 d) λE c a=>?_);have e:(#[115,104,97,109,105,114]:Array UInt8)++(iP 2 id).toArray=(e9 id false).toArray:=by refine(?_:_=(nd false++iP 2 id).toArray);rw[<-mu];rfl
  refine j e<|f _ _ a.aS a.Z
noncomputable def eW(as:List UInt8)(o:Nat)(a:List UInt8)(gR:List UInt8×List UInt8)(m:Nat):List UInt8×List UInt8:=(gR.2,hT gR.1 (ng m as o a gR.2))
noncomputable def fp(R:List UInt8):List UInt8×List UInt8:=(R.take (R.length/2),R.drop (R.length/2))
noncomputable def Dl(is:List Nat)(R as:List UInt8)(o id:Nat)(ext:Bool):List UInt8:=
 let i:=is.foldl (eW as o (e9 id ext)) (fp R)
 i.2++i.1
noncomputable def encOf:=Dl [0,1,2,3]
noncomputable def oM:=Dl [3,2,1,0]
theorem Dm(m:Nat)(z:List UInt8)(o:Nat)(fq A:List UInt8):(ng m z o fq A).length=A.length:=Um ..
theorem qy{z:List UInt8}{o:Nat}{fq:List UInt8}{gR:List UInt8×List UInt8}(b:gR.1.length=v)(a:gR.2.length=v):(eW z o fq gR m).1.length=v/\(eW z o fq gR m).2.length=v:=by refine⟨a,(?_:(hT _ _).length=v)⟩;refine j (vW ..) (j (Dm ..) ?_);exact yZ b a
theorem sH{z:List UInt8}{o:Nat}{fq:List UInt8}:∀(is:List Nat) (gR:List UInt8×List UInt8),gR.1.length=v->gR.2.length=v->(is.foldl (eW z o fq) gR).1.length=v/\(is.foldl (eW z o fq) gR).2.length=v
 |[],_,a,b=>⟨a,b⟩
 |m::d,gR,a,b=>let c:=qy (z:=z) (o:=o) (fq:=fq) (m:=m) a b;sH d _ c.1 c.2
theorem oN{R:List UInt8}(f:R.length%2=0):(fp R).1.length=R.length/2/\(fp R).2.length=R.length/2:=by simp only[fp,iC,tT];exact Im f
theorem l6(b:List UInt8)(l:Nat):Go b.toArray none (some (l:Int))=(b.take l).toArray/\Go b.toArray (some (l:Int)) none=(b.drop l).toArray:=by
 refine j (KBc.picked_eq ..) (j (KBc.picked_eq ..) ?_);simp only[Option.elim,clipAt_nat,cN,Gj,xP];constructor
 ·congr 1;refine List.take_eq_take_iff.mpr ?_;exact Jb
 ·congr 1;rcases Nat.le_total l b.length with a|a
  ·rw[pd a,nV];refine j tT ?_;exact c9 _
  ·refine j (ν a) (j (aaA a) ?_);simp
theorem UD(e:bb h)(L:aH w h s)(A:aR n 6 22){T:cm}(an:d3 w h T n aB [] s)(f:T.cls=.type "ValueError"/\T.B){o id:Nat}{ext:Bool}(g:aw.length<=1000)(i:aw.length%2=1):
 bk w n (.call (.ref 90) ⟨[a6 aw aA,a6 as bf,aj o bh,aj id bn,.bool ext,.ref 812],[]⟩) (fU r (fJ w h T aB)) s:=by
 refine CL (C:=u4) (q:=5) (S:=19) (bQ:=[(y "master_secret",a6 aw aA),(y "passphrase",a6 as bf),(y "iteration_exponent",aj o bh),(y "identifier",aj id bn),(y "extendable",.bool ext),(y "pbkdf2",.ref 812)]) (I:=[some (a6 aw aA),some (a6 as bf),some (aj o bh),some (aj id bn),some (.bool ext),some (.ref 812),none,none,none,none,none]) .none L trivial A.mono an.ch (BD e) Aq (λW=>by kernel_rfl) .(0) .(0) .(0) ?_;intro m b p t u c a A;refine seq<|ifs<|cT<|aE ?_;intro k;refine a2<|aE ?_;intro k;refine c0 a c 0 d dv dx<|Y a c 0 d d<|ho a (by simp;exact kW g) λW b a=>?_;have l:(aw.toArray.size:Int)=((aw.length:Nat):Int):=by rfl
 refine j l<|a8 2 a λW b a=>fI a .(1) λW b a=>a8 0 a λW b a=>nc<|cn<|j i ?_;simp only[show((1:Nat) !=0)=true from d,if_true];refine seq<|l3 nW nX a c A.bd 1 d kZ k3 an d f<|fj a λW b a=>⟨ey d,_,_,a⟩
theorem UE(C:bb h)(L:aH w h s)(A:aR n 6 22){o id:Nat}{ext:Bool}(i:aw.length<=1000)(F:aw.length%2=0)(U:as.length<=1000)(V:o<=15)(W:id<2^15)(f:∀u k,bP [] s k->aH w h k->r (a6 (encOf aw as o id ext) u) k):bk w n (.call (.ref 90) ⟨[a6 aw aA,a6 as bf,aj o bh,aj id bn,.bool ext,.ref 812],[]⟩) (bW r) s:=by
 refine cZ (q:=5) (S:=19) (BD C) Aq .none L trivial A.mono ?_;intro ax c X ay p b a A;have G:(aw.toArray.size:Int)=((aw.length:Nat):Int):=by rfl
 have Z:=Dj id ext;refine seq<|ifs<|cT<|aE ?_;intro g;refine a2 ?_;refine c0 a b 0 d dv dx<|Y a b 0 d d<|ho a (by simp;exact kW i) λS c a=>j G<|a8 2 a λS c a=>fI a .(1) λS c a=>a8 0 a λS c a=>nc<|cn<|j F ?_;simp only[show((0:Nat) !=0)=false from d,fO,if_false];refine bv<|seq<|bN<|aE ?_;intro g;refine gr "bytes" _ FB.slot_bytes_getitem.lookup<|aE ?_;intro g;refine Y a b 0 d d<|(?_:aa w _ _ _ _ _);refine aE ?_;intro g;refine a2 ?_;refine c0 a b 0 d dv dx<|Y a b 0 d d<|ho a (by simp;exact kW i) λS c a=>j G<|a8 2 a λS c a=>iM a .(1) .(1) λS c a=>lW a .none (.int _ _) (ck (by simp;exact kV i)) λaz c a=>j ((l6 aw _).1) ?_;refine bx a b 6 d d ?_;intro c p a;refine seq<|bN<|aE ?_;intro g;refine gr "bytes" _ FB.slot_bytes_getitem.lookup<|aE ?_;intro g;refine Y a b 0 d d<|(?_:aa w _ _ _ _ _);refine aE ?_;intro g;refine a2 ?_;refine c0 a b 0 d dv dx<|Y a b 0 d d<|ho a (by simp;exact kW i) λS c a=>j G<|a8 2 a λS c a=>iM a .(1) .(1) λS c a=>(?_:fx w _ _ _ _ _ _);refine lW a (.int _ _) .none (ck (by simp;exact kV i)) λaB c a=>j ((l6 aw _).2) ?_;refine bx a b 7 d d ?_;intro c p a;refine seq<|bN<|aE ?_;intro g;refine b3 a b 2 d Bo Ap<|Y a b 3 d d<|Y a b 4 d d<|⟨a.Z.l,Dk C a.Z A.mono W λab c x L=>?_⟩;replace a:=a.call x L;refine bx a b 8 d d ?_;intro c p a;refine seq (gJ ?_);refine aE ?_;intro g;refine c6 a b 3 d hN hQ<|dJ 4 _ a b 4 d vi<|iK a λj W W W c a=>jM (v:=4) A.bd a (a.at 0 d) .(1) .(1) d λac c ad a=>a.gl ?_;intro aC a;replace a:=a.cd (cJ _ _);have ae:∀e:Nat,e<4->∃l:Nat,([0,1,2,3]:List Nat)[e]?=some l/\(0:Int)+(e:Int)*1=(l:Int)/\l<256:=λe H=>by
  match e,H with
  |0,_=>exact⟨_,rfl,by decide,by decide⟩
  |1,_=>exact⟨_,rfl,by decide,by decide⟩
  |2,_=>exact⟨_,rfl,by decide,by decide⟩
  |3,_=>exact⟨_,rfl,by decide,by decide⟩
 have P:∀I,((([0,1,2,3]:List Nat).take I).foldl (eW as o (e9 id ext)) (fp aw)).1.length=aw.length/2/\((([0,1,2,3]:List Nat).take I).foldl (eW as o (e9 id ext)) (fp aw)).2.length=aw.length/2:=λI=>sH _ _ (oN F).1 (oN F).2;refine gK (hp A.bd ac 0 1 4) ad (λe af ag=>∃J z ah ai,af=[some (a6 aw aA),some (a6 as bf),some (aj o bh),some (aj id bn),some (.bool ext),some (.ref 812),some (a6 ((([0,1,2,3]:List Nat).take e).foldl (eW as o (e9 id ext)) (fp aw)).1 J),some (a6 ((([0,1,2,3]:List Nat).take e).foldl (eW as o (e9 id ext)) (fp aw)).2 z),some (a6 (e9 id ext) ab),ah,ai]/\ag=[]) a (jA (_) (_) (_) (_) (rfl) (rfl)) ?_ ?_
 ·intro e aD W W c aF H Q R X K W a;refine aV λak M=>?_;(refine bo Q λal m=>?_;clear Q;obtain rfl:=m);(refine h6 R λJ z am m m N=>?_;clear R;obtain rfl:=m;obtain rfl:=N);refine M<|g4 (ae e H) λl an ao ap=>?_;rw[ao];have B:=P e;have aq:([0,1,2,3]:List Nat).take (e+1)=([0,1,2,3]:List Nat).take e++[l]:=by rw[hf,an];rfl
  rw[aq,jv] at K;generalize(([0,1,2,3]:List Nat).take e).foldl (eW as o (e9 id ext)) (fp aw)=O at a B K;refine dF<|cp<|d8 a b 9 d d λc a=>a.jE ?_;intro ar a;refine seq (bN ?_);refine b3 a b 5 d Bn An ?_;refine Y a b 9 d d<|Y a b 1 d d<|Y a b 2 d d<|Y a b 8 d d<|Y a b 7 d d<|Y a b 5 d d<|⟨a.Z.l,C8 C a.Z A.mono ap V U (zn Z) (yP i B) λaG c x L=>?_⟩;replace a:=a.call x L;refine d8 a b 10 d d λc a=>a.jE ?_;intro ar a;refine seq<|vX (h:=h) (y "l") (y "r") A.bd<|ja<|Y a b 7 d d<|b3 a b 6 d Bm Al<|Y a b 6 d d<|Y a b 10 d d<|⟨a.Z.l,De C a.Z A.mono (uo i B) λT c x L=>?_⟩;replace a:=a.call x L;refine⟨ey d,?_⟩;have t:=a.jb [a6 O.2 z,a6 (hT O.1 (ng l as o (e9 id ext) O.2)) T];refine t.eL ?_;intro aI t;have au:=t.at 0 d;have t:=t.cd (cJ _ _);refine(pO (_) (_) (_) (_) (_) (_) (rfl) (t) (⟨_,au,rfl,_,rfl⟩) (λc a=>?_));refine bx a b 7 d d ?_;intro c p a;refine bx a b 6 d d ?_;intro c p a;exact bv (K _ _ _ (jA (z) (T) (some (aj l al)) (_) (rfl) (rfl)) a)
 ·intro W W c av a;refine aE ?_;intro g;refine aV λak M=>?_;refine h6 av λJ z am m m N=>a.ef m N ?_;intro p aJ a;refine M<|bv<|seq<|b2<|aE ?_;intro g;refine a2<|Y a b 7 d d<|Y a b 6 d d ?_;have B:=P 4;refine lX a (by rw[cN,cN];exact yH i B) λaK c a=>?_;rw[show∀D E:List UInt8,D.toArray++E.toArray=(D++E).toArray from λD E=>by exact mu D E];exact f _ _ a.aS a.Z
theorem UF(C:bb h)(L:aH w h s)(A:aR n 6 22){o id:Nat}{ext:Bool}(i:aw.length<=1000)(F:aw.length%2=0)(U:as.length<=1000)(V:o<=15)(W:id<2^15)(f:∀u k,bP [] s k->aH w h k->r (a6 (oM aw as o id ext) u) k):bk w n (.call (.ref 97) ⟨[a6 aw aA,a6 as bf,aj o bh,aj id bn,.bool ext,.ref 812],[]⟩) (bW r) s:=by
 refine cZ (q:=5) (S:=19) (Ry C) PP .none L trivial A.mono ?_;intro ax c X ay p b a A;have G:(aw.toArray.size:Int)=((aw.length:Nat):Int):=by rfl
 have Z:=Dj id ext;refine seq<|ifs<|cT<|aE ?_;intro g;refine a2 ?_;refine c0 a b 0 d dv dx<|Y a b 0 d d<|ho a (by simp;exact kW i) λS c a=>j G<|a8 2 a λS c a=>fI a .(1) λS c a=>a8 0 a λS c a=>nc<|cn<|j F ?_;simp only[show((0:Nat) !=0)=false from d,fO,if_false];refine bv<|seq<|bN<|aE ?_;intro g;refine gr "bytes" _ FB.slot_bytes_getitem.lookup<|aE ?_;intro g;refine Y a b 0 d d<|(?_:aa w _ _ _ _ _);refine aE ?_;intro g;refine a2 ?_;refine c0 a b 0 d dv dx<|Y a b 0 d d<|ho a (by simp;exact kW i) λS c a=>j G<|a8 2 a λS c a=>iM a .(1) .(1) λS c a=>lW a .none (.int _ _) (ck (by simp;exact kV i)) λaz c a=>j ((l6 aw _).1) ?_;refine bx a b 6 d d ?_;intro c p a;refine seq<|bN<|aE ?_;intro g;refine gr "bytes" _ FB.slot_bytes_getitem.lookup<|aE ?_;intro g;refine Y a b 0 d d<|(?_:aa w _ _ _ _ _);refine aE ?_;intro g;refine a2 ?_;refine c0 a b 0 d dv dx<|Y a b 0 d d<|ho a (by simp;exact kW i) λS c a=>j G<|a8 2 a λS c a=>iM a .(1) .(1) λS c a=>(?_:fx w _ _ _ _ _ _);refine lW a (.int _ _) .none (ck (by simp;exact kV i)) λaB c a=>j ((l6 aw _).2) ?_;refine bx a b 7 d d ?_;intro c p a;refine seq<|bN<|aE ?_;intro g;refine b3 a b 2 d Bo Ap<|Y a b 3 d d<|Y a b 4 d d<|⟨a.Z.l,Dk C a.Z A.mono W λab c x L=>?_⟩;replace a:=a.call x L;refine bx a b 8 d d ?_;intro c p a;refine seq (gJ ?_);refine aE ?_;intro g;refine c6 a b 3 d sc ss<|c6 a b 4 d hN hQ<|dJ 4 _ a b 5 d vi<|iK a λj W W W c a=>sq (v:=4) A.bd a (a.at 0 d) .(1) λac c ad a=>a.gl ?_;intro aC a;refine m0 a ?_;replace a:=a.cd (cJ _ _);have ae:∀e:Nat,e<4->∃l:Nat,([3,2,1,0]:List Nat)[e]?=some l/\(((4:Nat):Int)-1)+(e:Int)*(-1)=(l:Int)/\l<256:=λe H=>by
  match e,H with
  |0,_=>exact⟨_,rfl,by decide,by decide⟩
  |1,_=>exact⟨_,rfl,by decide,by decide⟩
  |2,_=>exact⟨_,rfl,by decide,by decide⟩
  |3,_=>exact⟨_,rfl,by decide,by decide⟩
 have P:∀I,((([3,2,1,0]:List Nat).take I).foldl (eW as o (e9 id ext)) (fp aw)).1.length=aw.length/2/\((([3,2,1,0]:List Nat).take I).foldl (eW as o (e9 id ext)) (fp aw)).2.length=aw.length/2:=λI=>sH _ _ (oN F).1 (oN F).2;refine gK (hp A.bd ac (((4:Nat):Int)-1) (-1) 4) ad (λe af ag=>∃J z ah ai,af=[some (a6 aw aA),some (a6 as bf),some (aj o bh),some (aj id bn),some (.bool ext),some (.ref 812),some (a6 ((([3,2,1,0]:List Nat).take e).foldl (eW as o (e9 id ext)) (fp aw)).1 J),some (a6 ((([3,2,1,0]:List Nat).take e).foldl (eW as o (e9 id ext)) (fp aw)).2 z),some (a6 (e9 id ext) ab),ah,ai]/\ag=[]) a (jA (_) (_) (_) (_) (rfl) (rfl)) ?_ ?_
 ·intro e aD W W c aF H Q R X K W a;refine aV λak M=>?_;(refine bo Q λal m=>?_;clear Q;obtain rfl:=m);(refine h6 R λJ z am m m N=>?_;clear R;obtain rfl:=m;obtain rfl:=N);refine M<|g4 (ae e H) λl an ao ap=>?_;rw[ao];have B:=P e;have aq:([3,2,1,0]:List Nat).take (e+1)=([3,2,1,0]:List Nat).take e++[l]:=by rw[hf,an];rfl
  rw[aq,jv] at K;generalize(([3,2,1,0]:List Nat).take e).foldl (eW as o (e9 id ext)) (fp aw)=O at a B K;refine dF<|cp<|d8 a b 9 d d λc a=>a.jE ?_;intro ar a;refine seq (bN ?_);refine b3 a b 6 d Bn An<|Y a b 9 d d<|Y a b 1 d d<|Y a b 2 d d<|Y a b 8 d d<|Y a b 7 d d<|Y a b 5 d d<|⟨a.Z.l,C8 C a.Z A.mono ap V U (zn Z) (yP i B) λaG c x L=>?_⟩;replace a:=a.call x L;refine d8 a b 10 d d λc a=>a.jE ?_;intro ar a;refine seq<|vX (h:=h) (y "l") (y "r") A.bd<|ja<|Y a b 7 d d<|b3 a b 7 d Bm Al<|Y a b 6 d d<|Y a b 10 d d<|⟨a.Z.l,De C a.Z A.mono (uo i B) λT c x L=>?_⟩;replace a:=a.call x L;refine⟨ey d,?_⟩;have t:=a.jb [a6 O.2 z,a6 (hT O.1 (ng l as o (e9 id ext) O.2)) T];refine t.eL ?_;intro aI t;have au:=t.at 0 d;have t:=t.cd (cJ _ _);refine(pO (_) (_) (_) (_) (_) (_) (rfl) (t) (⟨_,au,rfl,_,rfl⟩) (λc a=>?_));refine bx a b 7 d d ?_;intro c p a;refine bx a b 6 d d ?_;intro c p a;exact bv (K _ _ _ (jA (z) (T) (some (aj l al)) (_) (rfl) (rfl)) a)
 ·intro W W c av a;refine aE ?_;intro g;refine aV λak M=>?_;refine h6 av λJ z am m m N=>a.ef m N ?_;intro p aJ a;refine M<|bv<|seq<|b2<|aE ?_;intro g;refine a2<|Y a b 7 d d<|Y a b 6 d d ?_;have B:=P 4;refine lX a (by rw[cN,cN];exact yH i B) λaK c a=>?_;rw[show∀D E:List UInt8,D.toArray++E.toArray=(D++E).toArray from λD E=>by exact mu D E];exact f _ _ a.aS a.Z
theorem UH{T:String}{d:eF Bool}{r:p×List p->H->Prop}(L:aH w h s)(o:mD (ak w h) (.type T) (.type "type") name=some (.val E))(e:xH T=false)(g:hH (.type T)=pure (.type "type"))(i:fu E=true)(f:r (E,[]) {s with toks:=s.toks+1}):
 aL (aZ w) n (mC (.type T) name d) r M s:=by
 have X:=L.l;have k:rf (.type T)=pure none:=by unfold rf;dsimp only;refine j e ?_;rfl
 have b:c2 (aZ w) s.heap (hH (.type T)) (.type "type"):=iV g;have c:dK (ak w h) (.type "type") "__getattribute__"=some (some (.builtin "type.__getattribute__")):=by kernel_rfl
 unfold mC px;refine ab (ab (b.here ((mE X c).here ?_)));dsimp only;refine j (if_pos canon_tga)<|ab (cy (Q:=λE=>r (E,[])) (E:=M) ?_ (λW W a=>aI a) λW W a=>a);have l:c2 (aZ w) s.heap (rf (.type T)) none:=iV k;refine cls_open X l b c (looks_hook X (r:=none) (by rfl)) (by show subIn (ak w h) _ _=_;rfl) o<|aI<|(?_:aL _ _ (handedOut E) _ _ _);refine j (handedOut_of i) ?_;exact aI f
theorem vY:mD (ak w h) (.type "tuple") (.type "type") (y "__new__")=some (.val (.builtin "tuple.__new__")):=by kernel_rfl
theorem Dn:mD (ak w h) (.type "tuple") (.type "type") (y "__getitem__")=some (.val (.builtin "tuple.__getitem__")):=by kernel_rfl
theorem qz{T:String}{aN:al}{id:String}{b:az}{j:eF Bool}(a:N w h e I led s)(k:e.l.bL)(m:Nat)(aW:some aN=e.l.aX[m]?)(o:bK (ak w h) 3 aN=some none)(l:fs aN=some (.type T)/\aN≠"__name__")(p:mD (ak w h) (.type T) (.type "type") name=some (.val (.builtin id)))(q:xH T=false)(t:hH (.type T)=pure (.type "type"))(u:fu (.builtin id)=true)(f:∀c,N w h e I led c->eM w n M D args (λar d=>aa w n (call (.builtin id) ar) r M d) c)(g:autoParam (args.all fH=true) b0)(v:autoParam (D=e.D) b0)(x:autoParam (bA (.Call (.Attribute (.Name aN z) name b) args [] pos) D=(do
  let i<-bA (.Name aN z) D
  j2 b.atName
  let(C,first)<-lw [i] (mC i name j)
  q1 pos C first (lr pos (iW args D)) [])) b0):aa w n (bA (.Call (.Attribute (.Name aN z) name b) args [] pos) D) r M s:=
 ⟨tR (aa.run (mU a k m aW o l (UH a.Z p q t u (Gh (iI g) (jI g ((f _ a.a3).mono λar d y=>by exact y.run)))) v)) x⟩
noncomputable def fX(aO:Frag)(U:x):Bool:=match aO.lookup U with
 |some ⟨_,_,.cls a,bw⟩=>a.mro==[.ref U,.type "tuple",.type "object"]&&a.bases==[.type "tuple"]&&!a.hasDel&&(bw.toList[4]?).join==some .none&&dK aO (.ref U) "__init__"==some (some (.builtin "object.__init__"))&&instIn aO (.ref U) (.type "type")==some true
 |_=>false
structure NT(b8:gD)(f:au)(U:x):Prop where
 abB:∃To sI oo bw,f.get? U=some ⟨To,sI,.cls oo,bw⟩/\oo.hasDel=false
 made:c2 b8 f (xQ (.ref U)) none
 base:c2 b8 f (aaB (.ref U)) (.type "tuple")
 sub:c2 b8 f (h2 (.ref U) (.type "tuple")) true
 self:c2 b8 f (h2 (.ref U) (.ref U)) true
 UI:c2 b8 f (h2 (.ref U) (.type "object")) true
 init:c2 b8 f (typeLookup (.ref U) "__init__") (some (.builtin "object.__init__"))
 abI:c2 b8 f (j8 (.ref U) (.type "type")) true
theorem vZ{b8:gD}{f:au}:c2 b8 f (xQ (.type "tuple")) (some "tuple.__new__"):=iV F.called_tuple.made
theorem UJ{b8:gD}{f:au}:c2 b8 f (Builtin.Slots.bestBase [.type "tuple"]) (.type "tuple"):=iV (by first|rfl|kernel_rfl)
theorem ks{aO:Frag}{b8:gD}{f:au}(X:aO.In f)(o:fX aO U=true):NT b8 f U:=by
 unfold fX at o;cases k:aO.lookup U with
 |none=>rw[k] at o;exact nomatch (show false=true from o)
 |some t=>
  obtain⟨u,v,w,x⟩:=t;rw[k] at o;cases w<;>try exact nomatch (show false=true from o)
  rename_i i;have l:=k;dsimp only at o;simp only[eH,hc,beq_iff_eq] at o;refine aV λG y=>?_;(refine bE o λg z=>?_;clear o;(refine bE g λg A=>?_;(refine bE g λg B=>?_;obtain⟨⟨h,C⟩,D⟩:=g)));all_goals refine y ?_
  have m:clsIn aO U=some i:=by unfold clsIn;exact j l d
  have r:c2 b8 f (mroOf (.ref U)) [.ref U,.type "tuple",.type "object"]:=h▸(xR X m).andThen .now;have E:i.mro.isEmpty=false:=by refine j h ?_;rfl
  have n:∀p,mroIn aO U p=some (i.mro.contains p):=λp=>by unfold mroIn;rw[m,Option.bind_some,if_neg (by rw[E];decide)]
  have s:c2 b8 f (xQ (.ref U)) none:=by intro b F c e a q;unfold xQ;refine ab<|r b _ c e a<|j (mB ..)<|ab<|ab<|ab<|ab<|G6 (a _ _ (X _ _ l))<|aI<|cA ?_;intro H;dsimp only;refine be tB (j B ?_);exact aI (aI (aI q))
  (refine⟨(jA (u) (v) (i) (x) (X _ _ l) (D)),s,?_,G7 X (by refine j (n ..) (j h ?_);rfl),G7 X (by refine j (n ..) (j h ?_);simp),G7 X (by refine j (n ..) (j h ?_);rfl),mE X A,looks_instIn X z⟩);intro b F c e a q;unfold aaB;refine ab<|r b _ c e a<|j (mB ..)<|ab<|ab<|ab<|s b _ c e a<|j (if_neg .(1))<|(?_:aL _ _ (classData U>>=_) _ _ _);refine ab<|xR X m b _ c e a<|j C<|ab (UJ b _ c e a (aI ?_));dsimp only;refine j (mB ..)<|ab<|ab<|vZ b _ c e a<|aI (aI (aI q))
noncomputable abbrev dA(U aq:x)(O:List p):Obj:={cls:=.ref U,dict:=some aq,data:=.seq O.toArray}
section
variable{av:gh->H->Prop}
theorem UK{b8:gD}{f:au}(a:NT b8 f U):c2 b8 f (Bind.madeHere "tuple.__new__" (.ref U)) ():=a.base.andThen (vZ.andThen (iV (by simp only[G8,bne_self_eq_false,fO,if_false])))
theorem UL:builtinKind "tuple.__new__"=some .builtinFn:=by decide+kernel
theorem UM:splitId "tuple.__new__"=some ("tuple","__new__"):=by decide+kernel
theorem UN{u:x}(g:NT (aZ w) s.heap U)(h:s.heap.get? u=some (l1 O))(i:O.length<=100)(f:∀c:au,(∀b J,s.heap.get? b=some J->c.get? b=some J)->av (.ok (.ret (.ref (c.objs.size+1)))) {s with heap:=(c.push d0).push (dA U c.objs.size O)}):
 g1 (aZ w) n (.call (.builtin "tuple.__new__") ⟨[.ref U,.ref u],[]⟩) av s:=by
 refine lC F.plain_tuple_new F.entry_tuple_new ?_;obtain⟨k,y,z,A,os⟩:=s;have B:=UK g;refine aV λC m=>?_;obtain⟨⟨o,p,q,r,e,t⟩,D,E,sub,G,H,I,K⟩:=g;all_goals refine m ?_
 have mt:=vZ (b8:=aZ w) (f:=k);unfold nL;refine j UL (j UM ?_);dsimp only at e h;have it:c2 (aZ w) k (isType (.ref U)) true:=aaC (a:=⟨o,p,.cls q,r⟩) (hI e) .now;unfold Builtin.«tuple.__new__»;generalize v:collect=L;repeat(first|dsimp only[bne_self_eq_false,fO,if_false]|lk)
 subst v;refine wpAny_collect_seq u (T:="tuple") (.inr d) h d d (λc l=>?_) (by refine j gG ?_;simp;exact pV i);refine ab<|aI<|ab<|GP<|ab<|cA ?_;intro M;unfold newObj;dsimp only;(refine j (if_neg (by refine j gG ?_;simp;exact pV i)) ?_);unfold newObjAsIs classHasDel;refine ab (GP (ab (ab (po (cM _ (cM _ (l _ _ e))) (aI ?_)))));refine j t<|aI (aI ?_);have:=f c l;refine(?_:av _ _);refine j (hZ ..) ?_;assumption
end
section
noncomputable abbrev nh(U:x)(dd:List p):Code:=.builtin "type.__call__" ⟨.ref U::dd,[]⟩
theorem v0(U:x)(dd:List p):(nh U dd).weight<=1/\(nh U dd).cUnits<=4/\(nh U dd).envs=[]:=by
 refine(bO (?_) (?_) (rfl))
 ·exact b6 d
 ·exact b6 d
theorem aR.TD{S:Nat}{dd:List p}(A:aR n (q+1) (S+4)):aR (n.under (nh U dd)) q S:=by
 have a:=v0 U dd;have b:=A.depth;have c:=A.units;refine⟨?_,?_,A.bd⟩
 ·refine(?_:n.depth+(nh U dd).weight+q<1000)
  lia
 ·refine(?_:n.units+(nh U dd).cUnits+S<9900)
  lia
variable{av:gh->H->Prop}
theorem UP(c:p)(dd:List p):argsOk "object.__init__" ⟨c::dd,[]⟩:=by unfold argsOk;kernel_rfl
theorem v1{z:x}{dd more:List p}(X:(ak w h).In s.heap)(b:fX (ak w h) U=true)(G:xS (ak w h) (.ref U) "__call__"=some (some (.builtin "type.__call__")))(I:readsIn (ak w h) U (.type "type")=true)(K:mD (ak w h) (.ref U) (.type "type") "__new__"=some (.get (.builtin "staticmethod.__get__") (.ref z) .none (.ref U)))(L:recIn (ak w h) z "staticmethod"=some (.ref C::more))(f:∀l,l.handled=n.handled->l.depth<=n.depth+1->l.units<=n.units+4->g1 (aZ w) l (.call (.ref C) ⟨.ref U::dd,[]⟩) (λA k=>match A with
  |.ok (.ret E)=>∃i J,E=.ref i/\k.heap.get? i=some J/\J.cls=.ref U/\(ak w h).In k.heap/\av (.ok (.ret (.ref i))) k
  |_=>False) {s with toks:=s.toks+1}):g1 (aZ w) n (.call (.ref U) ⟨dd,[]⟩) av s:=by
 obtain⟨u,N,O,P,os⟩:=s;have Q:=ks (b8:=aZ w) X b;obtain⟨⟨af,ag,ah,ai,R,aj⟩,al,am,sub,an,ao,ap,S⟩:=Q;have call:=looks_specialIn (M:=aZ w) X G;refine q8<|(?_:aL _ _ (callAny (.ref U) _) _ _ _);refine nd_load R<|(?_:aL _ _ (aaD (.ref U) _) _ _ _);unfold aaD;refine ab (call.at ?_);dsimp only;refine j (tc_bind ..)<|ab<|aI<|ab<|aI<|aI (a:=Fin.again (.call (.builtin "type.__call__") ⟨.ref U::dd,[]⟩))<|xb d<|codeAny_call_builtin_at (aae _ (by decide+kernel)) entry_typeCall (pA tc_kind tc_split S (tc_args _ _ _) ?_);unfold Builtin.«type.__call__»;have q:∃e,clsIn (ak w h) U=some e/\e.mro.isEmpty=false:=by
  unfold fX at b;cases g:(ak w h).lookup U with
  |none=>rw[g] at b;exact nomatch (show false=true from b)
  |some J=>
   obtain⟨aq,ar,T,as⟩:=J;rw[g] at b;cases T<;>try exact nomatch (show false=true from b)
   rename_i e;dsimp only at b;simp only[eH,hc,beq_iff_eq] at b;(exact(bF (e) (by unfold clsIn;exact j g d) (by refine j b.1.1.1.1.1 ?_;rfl)))
 refine bp q λe q V=>?_;have au:c2 (aZ w) u (mroOf (.ref U)) e.mro:=(xR X q).andThen .now;generalize W:@hJ=ih;repeat(first|refine j (if_neg (ne_true_of_eq_false V)) ?_|lk)
 subst W;refine cls_bind (s:=⟨u,N,O,P,os⟩) X I K<|hY<|sm_get X L<|handed_on d<|ab (dH (hY (iX (f _ d (gY (v0 U dd).1 _) (gY (v0 U dd).2.1 _)) λA k r=>?_)));rcases A with aw|(_|_|_|E)<;>first|exact r.elim|skip
 (refine t5 r λi J Y g Z aa ac=>?_;clear r;refine j Y ?_);obtain⟨m,v,y,B,D⟩:=k;have o:=ks (b8:=aZ w) aa b;have ad:c2 (aZ w) m (hH (.ref i)) (.ref U):=Z▸(hI g).andThen .now;have ax:=o.self;have ay:=o.init;have az:=o.made;have ae:c2 (aZ w) m (j8 (.ref i) (.type "object")) true:=ad.andThen o.UI;unfold j8 callSpecial? px;repeat(first|with_reducible refine hY ?_|lk)
 have bv:∀t:gh->H->Prop,(t (.ok (.ret .none)) ⟨m,v,y,B,D⟩)->g1 (aZ w) (n.under (nh U dd)) (.call (.builtin "object.__init__") ⟨[.ref i]++dd,[]⟩) t ⟨m,v,y,B,D⟩:=by
  intro t F;refine lC oi_plain entry_oi (@pA (aZ w) _ _ _ "object.__init__" "object" "__init__" (.ref i) dd [] _ oi_kind oi_split ae (UP _ _) ?_);cases dd with
  |nil=>exact aI F
  |cons c A=>
   unfold Builtin.«object.__init__»;repeat lk
   exact F
 refine bv _<|aI (aI ac)
end
theorem aH.a3{u:Nat}(L:aH w h s):aH w h {s with toks:=u}:=⟨L.l,L.tab,L.bare,L.b⟩
theorem N.UQ(a:N w h e I led s){a3:Nat}(f:∀b J,s.heap.get? b=some J->ag.get? b=some J):N w h e I led {s with heap:=ag,toks:=a3}:=a.step (F:=[]) (k:={s with heap:=ag,toks:=a3}) ⟨λb J W g=>f b J g,rfl,rfl,rfl⟩ (λW c=>nomatch c) (λc=>nomatch c) d (λi j=>f _ _ (a.ld i j).1) λW W c=>nomatch c
theorem v2{u:x}(a:N w h e I led s)(c:s.heap.get? u=some (l1 O))(g:fX (ak w h) U=true)(j:O.length<=100)(f:∀i aq k,N w h e I ((i,dA U aq O)::(aq,d0)::led) k->r (.ref i) k):aa w n (call (.builtin "tuple.__new__") [.ref U,.ref u]) r M s:=by refine⟨hY (UN (ks a.Z.l g) c j λb l=>?_)⟩;have m:=a.UQ (a3:=s.toks) l;have o:=(m.alloc (J:=d0) d).alloc (J:=dA U b.objs.size O) d;have p:(b.push d0).objs.size=b.objs.size+1:=hZ _ _;have:=f _ _ _ o;rw[p] at this;exact this
theorem qA:fX (ak w h) 565=true:=by kernel_rfl
theorem sJ:fX (ak w h) 285=true:=by kernel_rfl
theorem v3:fX (ak w h) 371=true:=by kernel_rfl
theorem qB:xH "tuple"=false:=by decide+kernel
theorem oO:hH (.type "tuple")=pure (.type "type"):=by first|rfl|kernel_rfl
def Made(w:aD)(h:x->a1)(U:x)(O:List p)(s:H)(r:p->H->Prop):Prop:=∀i aq k,bP [] s k true->aH w h k->k.heap.get? i=some (dA U aq O)->k.heap.get? aq=some d0->s.heap.get? i=none->s.heap.get? aq=none->837<=i->837<=aq->i≠aq->r (.ref i) k
theorem N.made{i:x}{l:f5}{af:dq}{hd:eK}(d:af=.none true)(a:N w h ⟨l,aK,af,hd⟩ I ((i,dA U aq O)::(aq,d0)::led) s)(f:Made w h U O aK r):r (.ref i) s:=by subst d;have b:=a.ld _ aG;have c:=a.ld _ (.tail _ aG);have e:=(List.nodup_cons.mp a.dE).1;exact f i aq s a.aS a.Z b.1 c.1 b.2.2.new c.2.2.new b.2.2.ge c.2.2.ge λg=>e (by refine j g ?_;exact .head _)
theorem UR(j:bb h)(L:aH w h s)(A:aR n 2 8){c b:p}(f:Made w h 565 [c,b] s r):bk w n (.call (.ref 515) ⟨[.ref 565,c,b],[]⟩) (bW r) s:=by refine cZ (q:=1) (S:=5) (RX j) Qp (.none true) L trivial A.mono ?_;intro l g m o t e a A;refine seq (doc ?_);replace a:=a.a3 (u:=g.toks+1);refine seq (b2 ?_);refine aE ?_;intro k;refine qz a e 0 d mT m1 vY qB oO d λg a=>?_;refine Y a e 0 d d<|(?_:aa w _ _ _ _ _);refine aE ?_;intro k;refine ja<|Y a e 1 d d<|Y a e 2 d d<|⟨ey d,?_⟩;have i:=a.jb [c,b];refine v2 i (i.at 0 d) qA (b6 d) λv x g a=>N.made d a f
theorem US(g:bb h)(L:aH w h s)(A:aR n 2 8){eO e6 fz fV gs:p}(f:Made w h 285 [eO,e6,fz,fV,gs] s r):bk w n (.call (.ref 226) ⟨[.ref 285,eO,e6,fz,fV,gs],[]⟩) (bW r) s:=by refine cZ (q:=1) (S:=5) (RL g) Qd (.none true) L trivial A.mono ?_;intro j c k l m b a A;refine seq (doc ?_);replace a:=a.a3 (u:=c.toks+1);refine seq (b2 ?_);refine aE ?_;intro i;refine qz a b 0 d mT m1 vY qB oO d λc a=>?_;refine Y a b 0 d d<|(?_:aa w _ _ _ _ _);refine aE ?_;intro i;refine ja<|Y a b 1 d d<|Y a b 2 d d<|Y a b 3 d d<|Y a b 4 d d<|Y a b 5 d d<|⟨ey d,?_⟩;have e:=a.jb [eO,e6,fz,fV,gs];refine v2 e (e.at 0 d) sJ (b6 d) λo t c a=>N.made d a f
theorem UT(j:bb h)(L:aH w h s)(A:aR n 2 8){eO e6 fz fV gs c e:p}(f:Made w h 371 [eO,e6,fz,fV,gs,c,e] s r):bk w n (.call (.ref 306) ⟨[.ref 371,eO,e6,fz,fV,gs,c,e],[]⟩) (bW r) s:=by refine cZ (q:=1) (S:=5) (RM j) Qe (.none true) L trivial A.mono ?_;intro l g m o t b a A;refine seq (doc ?_);replace a:=a.a3 (u:=g.toks+1);refine seq (b2 ?_);refine aE ?_;intro k;refine qz a b 0 d mT m1 vY qB oO d λg a=>?_;refine Y a b 0 d d<|(?_:aa w _ _ _ _ _);refine aE ?_;intro k;refine ja<|Y a b 1 d d<|Y a b 2 d d<|Y a b 3 d d<|Y a b 4 d d<|Y a b 5 d d<|Y a b 6 d d<|Y a b 7 d d<|⟨ey d,?_⟩;have i:=a.jb [eO,e6,fz,fV,gs,c,e];refine v2 i (i.at 0 d) v3 (b6 d) λv x g a=>N.made d a f
theorem UU(k:bb h)(L:aH w h s)(A:aR n 3 12){eO e6:p}(f:Made w h 565 [eO,e6] s r):bk w n (.call (.ref 565) ⟨[eO,e6],[]⟩) (bW r) s:=by refine⟨v1 (z:=566) (C:=515) (more:=[]) L.l .(0) .(0) .(0) .(0) .(0) λl m o q=>?_⟩;have t:aR l 2 8:=⟨by have:=A.depth;exact uu o this,by have:=A.units;exact ut q this,m.trans A.bd⟩;have u:aH w h {s with toks:=s.toks+1}:=L.a3;refine iX (UR (r:=λd a=>∃b e,d=.ref b/\a.heap.get? b=some e/\e.cls=.ref 565/\(ak w h).In a.heap/\r (.ref b) a) k u t λb v a c g i x y B D E F=>(rs (b) (_) (rfl) (i) (rfl) (g.l) (f b v a ⟨c.heap,c.cK,c.gens,c.g6,c.os,c.e5⟩ g i x y B D E F))).run λA a j=>?_;rcases A with G|(W|W|W|d)<;>first|exact j|exact j.elim
theorem UV(k:bb h)(L:aH w h s)(A:aR n 3 12){eO e6 fz fV gs:p}(f:Made w h 285 [eO,e6,fz,fV,gs] s r):bk w n (.call (.ref 285) ⟨[eO,e6,fz,fV,gs],[]⟩) (bW r) s:=by refine⟨v1 (z:=286) (C:=226) (more:=[]) L.l .(0) .(0) .(0) .(0) .(0) λl m o q=>?_⟩;have t:aR l 2 8:=⟨by have:=A.depth;exact uu o this,by have:=A.units;exact ut q this,m.trans A.bd⟩;have u:aH w h {s with toks:=s.toks+1}:=L.a3;refine iX (US (r:=λd a=>∃b e,d=.ref b/\a.heap.get? b=some e/\e.cls=.ref 285/\(ak w h).In a.heap/\r (.ref b) a) k u t λb v a c g i x y B D E F=>(rs (b) (_) (rfl) (i) (rfl) (g.l) (f b v a ⟨c.heap,c.cK,c.gens,c.g6,c.os,c.e5⟩ g i x y B D E F))).run λA a j=>?_;rcases A with G|(W|W|W|d)<;>first|exact j|exact j.elim
theorem UW(m:bb h)(L:aH w h s)(A:aR n 3 12){eO e6 fz fV gs d e:p}(f:Made w h 371 [eO,e6,fz,fV,gs,d,e] s r):bk w n (.call (.ref 371) ⟨[eO,e6,fz,fV,gs,d,e],[]⟩) (bW r) s:=by refine⟨v1 (z:=372) (C:=306) (more:=[]) L.l .(0) .(0) .(0) .(0) .(0) λo q t u=>?_⟩;have v:aR o 2 8:=⟨by have:=A.depth;exact uu t this,by have:=A.units;exact ut u this,q.trans A.bd⟩;have x:aH w h {s with toks:=s.toks+1}:=L.a3;refine iX (UT (r:=λg a=>∃b i,g=.ref b/\a.heap.get? b=some i/\i.cls=.ref 371/\(ak w h).In a.heap/\r (.ref b) a) m x v λb y a c j k B D E F G H=>(rs (b) (_) (rfl) (k) (rfl) (j.l) (f b y a ⟨c.heap,c.cK,c.gens,c.g6,c.os,c.e5⟩ j k B D E F G H))).run λA a l=>?_;rcases A with I|(W|W|W|g)<;>first|exact l|exact l.elim
theorem Do(f:r (.bool false) s):aa w n (f1 .Is (.ref c) .none) r M s:=⟨is_ref_none f⟩
abbrev UX(w:aD)(n:aQ)(name:al)(r M:p->H->Prop)(J:p)(s:H):Prop:=aa w n (hJ J name true) r M s
theorem cq{o:am}(f:aa w n (bA o D) (UX w n name r M) M s)(a:autoParam (bA (.Attribute o name pos) D=(do
  let J<-bA o D
  j2 pos.atName
  let A<-lw [J] (hJ J name true)
  letTemporaryGo o J A
  pure A)) b0):aa w n (bA (.Attribute o name pos) D) r M s:=⟨Attribute_any_ (f.J λW W b=>b.run) a⟩
theorem ii{i:x}{b:Option V}(a:N w h e I led s)(L:iD s.heap i bt U b)(c:dK (ak w h) (.ref U) "__getattribute__"=some (some (.builtin "object.__getattribute__")))(d:eS (ak w h) U b name=some (.value E))(g:fu E=true)(f:∀k,N w h e I led k->r E k):aa w n (hJ (.ref i) name true) r M s:=⟨get_value a.Z.l L c d g (f _ a.a3)⟩
theorem UY(U:x):nL "issubclass" ⟨[.ref U,.type "tuple"],[]⟩=pure ():=by kernel_rfl
theorem Dp(c:NT (aZ w) s.heap U)(f:r (.bool true) s):aa w n (call (.builtin "issubclass") [.ref U,.type "tuple"]) r M s:=by
 refine⟨hY<|lC F.plain_issubclass F.entry_issubclass<|c3 (UY U)<|issubclass_outer<|cA ?_⟩;intro l;obtain⟨b,m,o,p,os⟩:=s;refine aV λq d=>?_;obtain⟨⟨e,g,i,j,k,t⟩,u,v,sub,x,y,z,A⟩:=c;all_goals refine d ?_
 have it:c2 (aZ w) b (isType (.ref U)) true:=aaC (a:=⟨e,g,.cls i,j⟩) (hI k) .now;have B:=iV (M:=aZ w) (h:=b) oO;unfold Builtin.«issubclass.nested»;repeat(first|dsimp only[ra,fO,if_false,beq_self_eq_true,if_true]|lk)
 exact f
theorem Dq{i:x}{J:V}(a:s.heap.get? i=some J)(b:(J.cls==.type "builtin_function_or_method")=false)(f:r J.cls s):aa w n (call (.type "type") [.ref i]) r M s:=by obtain⟨c,d,e,g,os⟩:=s;exact⟨call_type_obj a b f⟩
theorem Dr{i:x}(a:N w h e I led s)(g:s.heap.get? i=some bt)(b:bt.cls=.ref U)(hd:bt.data=.seq O.toArray v)(k:fX (ak w h) U=true)(aW:O[m]?=some E)(l:m<1000)(f:r E s):
 aa w n (call (.builtin "tuple.__getitem__") [.ref i,aj m u]) r M s:=by
 have o:=ks (b8:=aZ w) a.Z.l k;obtain⟨c,p,q,t,os⟩:=s;refine aV λG y=>?_;obtain⟨⟨H,J,K,L,P,Q⟩,R,S,sub,T,V,W,X⟩:=o;all_goals refine y ?_
 have z:c2 (aZ w) c (hH (.ref i)) (.ref U):=b▸(hI g).andThen .now;have A:c2 (aZ w) c (j8 (.ref i) (.type "tuple")) true:=z.andThen sub;refine⟨hY<|lC (by decide+kernel) F.entry_tuple_getitem<|@pA (aZ w) _ _ ⟨c,p,q,t,os⟩ "tuple.__getitem__" "tuple" "__getitem__" (.ref i) [aj m u] [] _ (by decide+kernel) (by decide+kernel) A (F.args_tuple_getitem_2 _ _)<|cA ?_⟩;intro B;unfold Builtin.«tuple.__getitem__»;obtain⟨Y,Z,ac,ad⟩:=bt;dsimp only at b hd g;subst b hd;have ae:=F.slot_int_index.lookup;have C:q7 ((m:Nat):Int) O.toArray.size=some m:=by have:m<O.length:=(List.getElem?_eq_some_iff.mp aW).1;(refine j (GF fm (by simp;exact Kw this)) ?_);dsimp
 refine ab (c3 (a:=(e4 i,[aj m u])) d ?_);dsimp only;unfold Builtin.Tuple.tupleItemsOf;refine ab<|cA ?_;intro B;repeat lk
 (refine j (if_neg (by simp;exact zo l)) (j C ?_));have D:O.toArray[m]?=some E:=by simpa using aW
 refine(?_:aL _ _ (match O.toArray[m]? with|some i=>nM i|none=>_) _ _ _);refine j D<|aI f
theorem sK{aO:Frag}{b8:gD}{f:au}(X:aO.In f)(o:aO.lookup c=some ⟨.type "tuple",none,.seq O.toArray 0,#[]⟩):c2 b8 f (pB (.ref c)) (some O.toArray):=(hI (part:=none) (X _ _ o)).andThen .now
theorem UZ(X:(ak w h).In s.heap)(doc:p)(z i U:x):c2 (aZ w) s.heap (hE (r3.d5 doc) ⟨[.ref z,.ref i,.ref U],[]⟩) [(y "self",.ref z),(y "obj",.ref i),(y "objtype",.ref U)]:=by have a:=sK (b8:=aZ w) (c:=159) (O:=[.none]) X .(0);refine(?_:c2 (aZ w) s.heap (pB (.ref 159)>>=λb=>_) _);exact a.andThen (iV .(0))
theorem U0(X:(ak w h).In s.heap)(doc:p)(z i U:x):c2 (aZ w) s.heap (hE (r4.d5 doc) ⟨[.ref z,.ref i,.ref U],[]⟩) [(y "self",.ref z),(y "obj",.ref i),(y "objtype",.ref U)]:=by have a:=sK (b8:=aZ w) (c:=469) (O:=[.none]) X .(0);show c2 (aZ w) s.heap (pB (.ref 469)>>=λb=>_) _;exact a.andThen (iV .(0))
theorem U3(F:bb h)(L:aH w h s)(A:aR n 2 8){z d4 i:x}{a3 eN:aF}{op:V}(p:iD s.heap z ⟨.ref 183,some d4,.plain,#[]⟩ 183 (some op))(G:eS (ak w h) 183 (some op) (y "index")=some (.value (aj m a3)))(e:z<837/\z∉cK/\d4<837/\d4∉cK)(t:s.heap.get? i=some bt)(u:837<=i)(o:bt.cls=.ref U)(hd:bt.data=.seq O.toArray v)(B:fX (ak w h) U=true)(aW:O[m]?=some E)(H:m<1000)(f:∀k,bP [] s k true->aH w h k->r E k):bk w n (.call (.ref 166) ⟨[.ref z,.ref i,.ref U],[]⟩) (bW r) s:=by refine Ae (C:=r3) (q:=1) (S:=5) (bQ:=[(y "self",.ref z),(y "obj",.ref i),(y "objtype",.ref U)]) (I:=[some (.ref z),some (.ref i),some (.ref U)]) (.none true) L trivial A.mono (RH F) P9 (λdoc=>UZ L.l _ _ _ _) .(0) .(0) .(0) ?_;intro N g P Q R b a A;refine seq<|ifs<|cT<|Y a b 1 d d<|B2<|Do<|cn<|dw<|bv ?_;refine seq (ifs (mY (gq ?_)));refine c0 a b 0 d BA Cq<|c6 a b 1 d BB Cp<|Y a b 1 d d<|Dq (a.bc t bC u) (by refine j o ?_;rfl) ?_;refine j o<|(?_:aa w _ _ _ _ _);refine mU a b 2 d mT m1<|Dp (ks a.Z.l B)<|cn<|dw<|bv<|seq<|b2<|qz a b 2 d mT m1 Dn qB oO d λg a=>Y a b 1 d d<|(?_:aa w _ _ _ _ _);refine cq<|Y a b 0 d d ?_;have D:∀c l,c<837->c∉cK->s.heap.get? c=some l->g.heap.get? c=some l:=λc l W J K=>a.aS.heap c l bC (.inl J) K;have M:iD g.heap z ⟨.ref 183,some d4,.plain,#[]⟩ 183 (some op):=⟨D _ _ e.1 e.2.1 p.at_,rfl,rfl,D d4 op e.2.2.1 e.2.2.2 p.dict⟩;refine ii a M .(0) G d λg a=>Dr a (a.bc t bC u) o hd B aW H<|f _ a.aS a.Z
theorem U4(F:bb h)(L:aH w h s)(A:aR n 2 8){z d4 i:x}{a3 eN:aF}{op:V}(p:iD s.heap z ⟨.ref 493,some d4,.plain,#[]⟩ 493 (some op))(G:eS (ak w h) 493 (some op) (y "index")=some (.value (aj m a3)))(e:z<837/\z∉cK/\d4<837/\d4∉cK)(t:s.heap.get? i=some bt)(u:837<=i)(o:bt.cls=.ref U)(hd:bt.data=.seq O.toArray v)(B:fX (ak w h) U=true)(aW:O[m]?=some E)(H:m<1000)(f:∀k,bP [] s k true->aH w h k->r E k):bk w n (.call (.ref 476) ⟨[.ref z,.ref i,.ref U],[]⟩) (bW r) s:=by refine Ae (C:=r4) (q:=1) (S:=5) (bQ:=[(y "self",.ref z),(y "obj",.ref i),(y "objtype",.ref U)]) (I:=[some (.ref z),some (.ref i),some (.ref U)]) (.none true) L trivial A.mono (RW F) Qo (λdoc=>U0 L.l _ _ _ _) .(0) .(0) .(0) ?_;intro N g P Q R b a A;refine seq<|ifs<|cT<|Y a b 1 d d<|B2<|Do<|cn<|dw<|bv ?_;refine seq (ifs (mY (gq ?_)));refine c0 a b 0 d BA Cq<|c6 a b 1 d BB Cp<|Y a b 1 d d<|Dq (a.bc t bC u) (by refine j o ?_;rfl) ?_;refine j o<|(?_:aa w _ _ _ _ _);refine mU a b 2 d mT m1<|Dp (ks a.Z.l B)<|cn<|dw<|bv<|seq<|b2<|qz a b 2 d mT m1 Dn qB oO d λg a=>Y a b 1 d d<|(?_:aa w _ _ _ _ _);refine cq<|Y a b 0 d d ?_;have D:∀c l,c<837->c∉cK->s.heap.get? c=some l->g.heap.get? c=some l:=λc l W J K=>a.aS.heap c l bC (.inl J) K;have M:iD g.heap z ⟨.ref 493,some d4,.plain,#[]⟩ 493 (some op):=⟨D _ _ e.1 e.2.1 p.at_,rfl,rfl,D d4 op e.2.2.1 e.2.2.2 p.dict⟩;refine ii a M .(0) G d λg a=>Dr a (a.bc t bC u) o hd B aW H<|f _ a.aS a.Z
theorem U5:entryFor table "tuple.__getattribute__"=some Builtin.«object.__getattribute__»:=am_entry_tuple_getattribute
theorem U6{i:x}{o:Option V}{g c:p}(X:(ak w h).In s.heap)(L:iD s.heap i bt U o)(t:fX (ak w h) U=true)(u:dK (ak w h) (.ref U) "__getattribute__"=some (some (.builtin "tuple.__getattribute__")))(v:dK (ak w h) (.ref U) "__getattr__"=some none)(y:eS (ak w h) U o name=some (.bind g c))(f:aL (aZ w) n.in1 (call g [c,.ref i,.ref U]) (λE k=>aL (aZ w) n (handedOut E) r M k) (λW W=>False) {s with toks:=s.toks+1}):aL (aZ w) n (hJ (.ref i) name true) r M s:=by have z:=ks (b8:=aZ w) X t;obtain⟨q,A,B,b,os⟩:=s;have e:=L.type (M:=aZ w);have C:=mE (M:=aZ w) X u;have D:=looks_find (M:=aZ w) X L y;have G:=mE (M:=aZ w) X v;have H:c2 (aZ w) q (j8 (.ref i) (.type "tuple")) true:=e.andThen z.sub;unfold hJ getAttrBy;refine ab (wpAny_mkText (dH (ab (e.at (ab (C.at ?_))))));dsimp only;refine j (show(onTheHeap (.ref U)&&mw "tuple.__getattribute__"==mw "object.__getattribute__")=false from by rw[show(mw "tuple.__getattribute__"==mw "object.__getattribute__")=false from by decide+kernel,pw]) (j (if_neg .(1)) ?_);unfold getAttrByItsOwn;refine ab (m:=hookBefore (.ref U))<|G.at<|ab<|nQ<|dH<|cA ?_;intro I;unfold callGetattribute;refine j (show(true&&onTheHeap (mw "tuple.__getattribute__"))=false from d) (j (if_neg .(1)) ?_);unfold boundAndCalled;refine j (F.slot_tuple_getattribute.bind ..)<|ab<|aI<|(?_:aL _ _ (call (.builtin "tuple.__getattribute__") [.ref i,.str name b]) _ _ _);refine hY<|lC F.slot_tuple_getattribute.plain U5<|@pA (aZ w) _ _ ⟨q,A,B,b+1,os⟩ "tuple.__getattribute__" "tuple" "__getattribute__" (.ref i) [.str name b] [] _ (by decide+kernel) (by decide+kernel) H (F.args_tuple_getattribute_2 _ _)<|cA ?_;intro I;unfold Builtin.«object.__getattribute__»;refine ab<|c3 (a:=(e4 i,[Value.str name b])) d<|ab<|c3 (a:=name) d<|ab<|e.at<|ab<|D.at<|(?_:aL _ _ (lw [c] (call g [c,.ref i,.ref U])>>=λE=>nM E) _ _ _);exact ab (dH (cy f (λE k l=>aI l) λW W l=>l.elim))
theorem Ds{i:x}{d:Option V}{z:x}(a:N w h e I led s)(L:iD s.heap i bt U d)(l:fX (ak w h) U=true)(m:dK (ak w h) (.ref U) "__getattribute__"=some (some (.builtin "tuple.__getattribute__")))(o:eS (ak w h) U d name=some (.bind (.ref C) (.ref z)))(p:dK (ak w h) (.ref U) "__getattr__"=some none)(q:fu E=true)(f:∀k,N w h e I led k->(∀b J,s.heap.get? b=some J->k.heap.get? b=some J)->bk w n.in1 (.call (.ref C) ⟨[.ref z,.ref i,.ref U],[]⟩) (bW λg t=>g=E/\r E t) k):aa w n (hJ (.ref i) name true) r M s:=by
 refine⟨U6 a.Z.l L l m p o<|k0 (r:=λE k=>aL (aZ w) n (handedOut E) r M k) ((f _ (a.a3 (u:=s.toks+1)) (λW W j=>j)).mono λv k c=>?_)⟩;rcases v with j|(W|W|W|g)<;>first|exact c.elim|skip
 obtain⟨rfl,c⟩:=c;exact handed_on q c
theorem ni:cX (ak w h) (.ref 565)=true:=by kernel_rfl
theorem U7:cX (ak w h) (.ref 285)=true:=by kernel_rfl
theorem U8:cX (ak w h) (.ref 371)=true:=by kernel_rfl
theorem U9:dK (ak w h) (.ref 565) "__getattribute__"=some (some (.builtin "tuple.__getattribute__")):=by kernel_rfl
theorem Va:dK (ak w h) (.ref 285) "__getattribute__"=some (some (.builtin "tuple.__getattribute__")):=by kernel_rfl
theorem Vb:dK (ak w h) (.ref 565) "__getattr__"=some none:=by kernel_rfl
theorem Vc:dK (ak w h) (.ref 285) "__getattr__"=some none:=by kernel_rfl
theorem Vd:eS (ak w h) 565 (some d0) (y "x")=some (.bind (.ref 476) (.ref 557)):=by kernel_rfl
theorem Ve:eS (ak w h) 565 (some d0) (y "data")=some (.bind (.ref 476) (.ref 560)):=by kernel_rfl
theorem Vf:eS (ak w h) 285 (some d0) (y "identifier")=some (.bind (.ref 166) (.ref 268)):=by kernel_rfl
theorem Vg:eS (ak w h) 285 (some d0) (y "extendable")=some (.bind (.ref 166) (.ref 271)):=by kernel_rfl
theorem Vh:eS (ak w h) 285 (some d0) (y "iteration_exponent")=some (.bind (.ref 166) (.ref 274)):=by kernel_rfl
theorem Vi:eS (ak w h) 285 (some d0) (y "group_threshold")=some (.bind (.ref 166) (.ref 277)):=by kernel_rfl
theorem Dt{f:au}{i aq:x}(a:f.get? i=some (dA U aq O))(b:f.get? aq=some d0):iD f i (dA U aq O) U (some d0):=⟨a,rfl,rfl,b⟩
noncomputable def sL(P:gC)(h:x->a1)(d4:x):Obj:=((i1 P h).lookup d4).getD default
theorem Du{i aq z d4:x}{a3:aF}(q:bb h)(a:N w h e I led s)(A:aR n 2 9)(l:s.heap.get? i=some (dA 565 aq O))(t:s.heap.get? aq=some d0)(u:837<=i)(B:eS (ak w h) 565 (some d0) name=some (.bind (.ref 476) (.ref z)))(g:(ak w h).lookup z=some ⟨.ref 493,some d4,.plain,#[]⟩)(j:(ak w h).lookup d4=some (sL w.params h d4))(aW:eS (ak w h) 493 (some (sL w.params h d4)) (y "index")=some (.value (aj m a3)))(C:O[m]?=some E)(D:m<1000)(F:fu E=true)(f:∀k,N w h e I led k->(∀b J,s.heap.get? b=some J->837<=b->b∉e.af.ae->k.heap.get? b=some J)->r E k):aa w n (hJ (.ref i) name true) r M s:=by refine Ds a (Dt l t) qA U9 B Vb F λK c o=>U4 q c.Z A.in1 (U:=565) (v:=0) (eN:=0) (bt:=dA 565 aq O) ⟨c.Z.l _ _ g,rfl,rfl,c.Z.l _ _ j⟩ aW (dS ((jC g).1) ((jC g).2) ((jC j).1) ((jC j).2)) (o _ _ l) u d d qA C D λk p G=>⟨rfl,f _ (c.call p G) λb J H L P=>p.heap b J bC (.inr d) (o _ _ H)⟩
theorem sM{i aq z d4:x}{a3:aF}(q:bb h)(a:N w h e I led s)(A:aR n 2 9)(l:s.heap.get? i=some (dA 285 aq O))(t:s.heap.get? aq=some d0)(u:837<=i)(B:eS (ak w h) 285 (some d0) name=some (.bind (.ref 166) (.ref z)))(g:(ak w h).lookup z=some ⟨.ref 183,some d4,.plain,#[]⟩)(j:(ak w h).lookup d4=some (sL w.params h d4))(aW:eS (ak w h) 183 (some (sL w.params h d4)) (y "index")=some (.value (aj m a3)))(C:O[m]?=some E)(D:m<1000)(F:fu E=true)(f:∀k,N w h e I led k->(∀b J,s.heap.get? b=some J->837<=b->b∉e.af.ae->k.heap.get? b=some J)->r E k):aa w n (hJ (.ref i) name true) r M s:=by refine Ds a (Dt l t) sJ Va B Vc F λK c o=>U3 q c.Z A.in1 (U:=285) (v:=0) (eN:=0) (bt:=dA 285 aq O) ⟨c.Z.l _ _ g,rfl,rfl,c.Z.l _ _ j⟩ aW (dS ((jC g).1) ((jC g).2) ((jC j).1) ((jC j).2)) (o _ _ l) u d d sJ C D λk p G=>⟨rfl,f _ (c.call p G) λb J H L P=>p.heap b J bC (.inr d) (o _ _ H)⟩
theorem qC{i aq:x}{c b:p}(g:bb h)(a:N w h e I led s)(A:aR n 2 9)(j:s.heap.get? i=some (dA 565 aq [c,b]))(l:s.heap.get? aq=some d0)(o:837<=i)(q:fu c=true)(f:∀k,N w h e I led k->(∀b J,s.heap.get? b=some J->837<=b->b∉e.af.ae->k.heap.get? b=some J)->r c k):aa w n (hJ (.ref i) (y "x") true) r M s:=Du (z:=557) (d4:=556) (m:=0) (a3:=1201) g a A j l o Vd .(0) .(0) .(0) d .(1) q f
theorem v4{i aq:x}{c b:p}(g:bb h)(a:N w h e I led s)(A:aR n 2 9)(j:s.heap.get? i=some (dA 565 aq [c,b]))(l:s.heap.get? aq=some d0)(o:837<=i)(q:fu b=true)(f:∀k,N w h e I led k->(∀b J,s.heap.get? b=some J->837<=b->b∉e.af.ae->k.heap.get? b=some J)->r b k):aa w n (hJ (.ref i) (y "data") true) r M s:=Du (z:=560) (d4:=559) (m:=1) (a3:=1211) g a A j l o Ve .(0) .(0) .(0) d .(1) q f
section
variable{i aq:x}{eO e6 fz fV gs:p}
theorem Vj(c:bb h)(a:N w h e I led s)(A:aR n 2 9)(g:s.heap.get? i=some (dA 285 aq [eO,e6,fz,fV,gs]))(j:s.heap.get? aq=some d0)(l:837<=i)(o:fu eO=true)(f:∀k,N w h e I led k->(∀b J,s.heap.get? b=some J->837<=b->b∉e.af.ae->k.heap.get? b=some J)->r eO k):aa w n (hJ (.ref i) (y "identifier") true) r M s:=sM (z:=268) (d4:=267) (m:=0) (a3:=667) c a A g j l Vf .(0) .(0) .(0) d .(1) o f
theorem Vk(c:bb h)(a:N w h e I led s)(A:aR n 2 9)(g:s.heap.get? i=some (dA 285 aq [eO,e6,fz,fV,gs]))(j:s.heap.get? aq=some d0)(l:837<=i)(o:fu e6=true)(f:∀k,N w h e I led k->(∀b J,s.heap.get? b=some J->837<=b->b∉e.af.ae->k.heap.get? b=some J)->r e6 k):aa w n (hJ (.ref i) (y "extendable") true) r M s:=sM (z:=271) (d4:=270) (m:=1) (a3:=677) c a A g j l Vg .(0) .(0) .(0) d .(1) o f
theorem Vl(c:bb h)(a:N w h e I led s)(A:aR n 2 9)(g:s.heap.get? i=some (dA 285 aq [eO,e6,fz,fV,gs]))(j:s.heap.get? aq=some d0)(l:837<=i)(o:fu fz=true)(f:∀k,N w h e I led k->(∀b J,s.heap.get? b=some J->837<=b->b∉e.af.ae->k.heap.get? b=some J)->r fz k):aa w n (hJ (.ref i) (y "iteration_exponent") true) r M s:=sM (z:=274) (d4:=273) (m:=2) (a3:=687) c a A g j l Vh .(0) .(0) .(0) d .(1) o f
theorem sN(c:bb h)(a:N w h e I led s)(A:aR n 2 9)(g:s.heap.get? i=some (dA 285 aq [eO,e6,fz,fV,gs]))(j:s.heap.get? aq=some d0)(l:837<=i)(o:fu fV=true)(f:∀k,N w h e I led k->(∀b J,s.heap.get? b=some J->837<=b->b∉e.af.ae->k.heap.get? b=some J)->r fV k):aa w n (hJ (.ref i) (y "group_threshold") true) r M s:=sM (z:=277) (d4:=276) (m:=3) (a3:=697) c a A g j l Vi .(0) .(0) .(0) d .(1) o f
end
noncomputable abbrev fK(cG:List j0)(v:Nat):Obj:={cls:=.type "dict",data:=.dict cG.toArray v}
abbrev Vm(w:aD)(n:aQ)(name:al)(E:p)(r:eb->H->Prop)(M:p->H->Prop)(a:p)(s:H):Prop:=aa w n (setAttr a name E) (λW=>r .next) M s
abbrev Vn(w:aD)(n:aQ)(J:am)(D:ao)(name:al)(r:eb->H->Prop)(M:p->H->Prop)(E:p)(s:H):Prop:=aa w n (bA J D) (Vm w n name E r M) M s
theorem ij{J:am}{b:az}{r:eb->H->Prop}(f:aa w n (bA value D) (Vn w n J D name r M) M s)(c:autoParam (xj value (some (.Attribute J name b)) pos.line D=pure false) b0):aa w n (g2 (.Assign [.Attribute J name b] value pos) D) r M s:=⟨plainObj_wpAny_Assign_Attribute (f.J λW W a=>a.J λW W a=>a.run) c⟩
theorem ik{l:f5}{hd:eK}{i:x}{cG:List j0}{p:∀z∈[(aq,fK cG v)],837<=z.1}{r:Unit->H->Prop}(eo:String)(a:N w h ⟨l,aK,ht [(aq,fK cG v)] t p,hd⟩ I led s)(q:s.heap.get? i=some (eT U aq))(D:dK (ak w h) (.ref U) "__setattr__"=some (some (.builtin "object.__setattr__")))(m:plainOver (ak w h) U=true)(F:takerIn (ak w h) U (y eo)=some none)(G:(clsIn (ak w h) U).any (·.hasDict)=true)(c:(lookIn (y eo) (fK cG v)).isSome=true)(o:∀a3,G9 (y eo) (tz w.params (y eo)) (.str (y eo) a3) E (fK cG v)=fK (cG++[ay w.params eo a3 E]) (v+1))(K:cG.length<=900)(f:∀a3 k e,N w h ⟨l,aK,ht [(aq,fK (cG++[ay w.params eo a3 E]) (v+1))] t e,hd⟩ I led k->(∀b J,b≠aq->s.heap.get? b=some J->k.heap.get? b=some J)->r () k):aa w n (setAttr (.ref i) (y eo) E) r M s:=by
 have g:s.heap.get? aq=some (fK cG v):=a.fo 0 d;have u:iD s.heap i (eT U aq) U (some (fK cG v)):=⟨q,rfl,rfl,g⟩;refine⟨set_plain a.Z.l u D<|osa_open (s:={s with toks:=s.toks+1}) a.Z.l u m F λb=>cA ?_⟩;intro L;refine bp (any_some G) λT O P=>?_;have X:=a.Z.l;have A:(s.heap.update aq (G9 (y eo) (tz w.params (y eo)) (.str (y eo) (s.toks+1)) E)).get? aq=some (fK (cG++[ay w.params eo (s.toks+1) E]) (v+1)):=by have:=nI (G9 (y eo) (tz w.params (y eo)) (.str (y eo) (s.toks+1)) E) g (by refine j (o ..) ?_;rfl);rw[o] at this;exact this
 refine ab (aI (ab (ab (G6 q (ab (xR X O _ _ _ _ (λ_ _ o=>o) ?_))))));refine j P ?_;refine aI (a:=some aq)<|ab<|aI<|ab<|cA ?_;intro L;unfold nsSet;refine ab (ab (tG (aI (ab (wpAny_mkText (ab (G6 g ?_)))))));have Q:(!cG.toArray.any (·.key.isStr (y eo))&&cG.toArray.any (·.refKey))=false:=by
  unfold lookIn at c;dsimp only at c;refine be aaE (be aaE ?_);split at c
  ·rename_i ay B;refine j (List.any_eq_true.mpr (bF (ay) (List.mem_of_find?_eq_some B) (List.find?_some B))) ?_;rfl
  ·split at c
   ·exact absurd c .(1)
   ·rename_i C;rw[aaF] at C;rw[C,pw]
 dsimp only;refine j (aRefKeyMayBeTheName_at ..)<|j Q<|wpAny_updatePart g<|ab (wpAny_lookBehind A (pastItsLine_dict (by refine j cN (j gG ?_);simp;exact Ms K)) ?_);refine aI ?_;have R:=p _ aG;have e:∀z∈[(aq,fK (cG++[ay w.params eo (s.toks+1) E]) (v+1))],837<=z.1:=λz m=>by refine j (List.mem_singleton.mp m) ?_;exact R
 exact f (s.toks+1) _ e (a.sD (by simp) 0 d (kJ ..) A _ d e) λb J S o=>(pm _ _ (fk S)).trans o
theorem v5{oP:x}{dd:List p}{S:Nat}(L:aH w h s)(A:aR n (q+1) (S+4))(z:makesIn (ak w h) U=true)(aW:dK (ak w h) (.ref U) "__init__"=some (some (.ref oP)))(B:typeIn (ak w h) (.ref oP)=some (.type "function"))(f:∀i aq bz j,aR j q S->bP [] s bz true->aH w h bz->bz.heap.get? i=some (eT U aq)->bz.heap.get? aq=some d0->s.heap.get? i=none->s.heap.get? aq=none->837<=i->837<=aq->i≠aq->
  bk w j (.call (.ref oP) ⟨.ref i::dd,[]⟩) (bW λE k=>E=.none/\r (.ref i) k) bz):bk w n (.call (.ref U) ⟨dd,[]⟩) (bW r) s:=by
 obtain⟨a,l,m,o,os⟩:=s;have X:=L.l;have t:=L.size;refine⟨make_core (makes_of X z) (mE X aW) (λC=>bind_fn X C B) (.inl d) ?_⟩;have D:∀b e,a.get? b=some e->((a.push d0).push (eT U a.objs.size)).get? b=some e:=λb e g=>cM _ (cM _ g);have u:ee [] ⟨a,l,m,o,os⟩ ⟨(a.push d0).push (eT U a.objs.size),l,m,o,os⟩:=⟨λb e W g=>D b e g,rfl,rfl,rfl⟩;have v:∀b,a.objs.size<=b->a.get? b=none:=λb c=>by
  cases g:a.get? b with
  |none=>rfl
  |some e=>exact absurd (cr g) (Nat.not_lt.mpr c)
 have F:((a.push d0).push (eT U a.objs.size)).get? (a.objs.size+1)=some (eT U a.objs.size):=by heap_get
 have G:((a.push d0).push (eT U a.objs.size)).get? a.objs.size=some emptyDict:=by heap_get
 refine iX (f (a.objs.size+1) a.objs.size _ _ (aR.TD A) (u.aS (λb c=>nomatch c) (λb c=>nomatch c)) (u.Z (λb c=>nomatch c) L) F G (v _ (gZ _)) (v _ (c9 _)) (ml t) t (ι _)).run λA k y=>?_;rcases A with g|(W|W|W|E)<;>first|exact y.elim|exact y
theorem bP.new{s bz:H}(R:bP [] s bz t)(c:bP [aq] bz k t)(f:s.heap.get? aq=none):bP [] s k t:=by have a:=R.mono (on:=[aq]) (λW f=>nomatch f)|>.trans c;exact⟨λd e W g b=>a.heap d e (λt=>by rw[List.mem_singleton.mp t,f] at b;exact cz b) g b,a.cK,a.gens,a.g6,a.os,a.e5⟩
noncomputable def gS(w:aD)(bU:List aF)(aY aC ci co cW df dB dG dV:p):Obj:=fK [ay w.params "identifier" (bU.getD 0 0) aY,ay w.params "extendable" (bU.getD 1 0) aC,ay w.params "iteration_exponent" (bU.getD 2 0) ci,ay w.params "group_index" (bU.getD 3 0) co,ay w.params "group_threshold" (bU.getD 4 0) cW,ay w.params "group_count" (bU.getD 5 0) df,ay w.params "index" (bU.getD 6 0) dB,ay w.params "member_threshold" (bU.getD 7 0) dG,ay w.params "value" (bU.getD 8 0) dV] 9
theorem Vo(F:bb h)(L:aH w h s)(A:aR n 1 4){i:x}{ci co cW df dB dG dV:p}(b:s.heap.get? i=some (eT 450 aq))(G:s.heap.get? aq=some d0)(H:837<=i)(I:837<=aq)(g:i≠aq)(f:∀bU k,bP [aq] s k true->aH w h k->k.heap.get? aq=some (gS w bU aY aC ci co cW df dB dG dV)->r .none k):bk w n (.call (.ref 388) ⟨[.ref i,aY,aC,ci,co,cW,df,dB,dG,dV],[]⟩) (bW r) s:=by refine cZ (q:=0) (S:=1) (RN F) Qf (ht [(aq,fK [] 0)] true (λJ C=>by refine j (List.mem_singleton.mp C) ?_;exact I)) L (λJ C=>by refine j (List.mem_singleton.mp C) ?_;exact G) A.mono ?_;intro N l O P Q c a A;replace b:l.heap.get? i=some (eT 450 aq):=a.bc b (λK=>g (List.mem_singleton.mp K)) H;refine seq<|ij<|aE ?_;intro R;refine Y a c 1 d d<|Y a c 0 d d<|ik (U:=450) (cG:=[]) (v:=0) "identifier" a b .(0) .(0) .(0) .(0) .(0) (λW=>by kernel_rfl) (b6 d) λm l o a e=>?_;replace b:=e _ _ g b;refine seq<|ij<|Y a c 2 d d<|Y a c 0 d d<|ik (U:=450) (cG:=[ay w.params "identifier" m aY]) (v:=1) "extendable" a b .(0) .(0) .(0) .(0) .(0) (λW=>by kernel_rfl) (b6 d) λt l o a e=>?_;replace b:=e _ _ g b;refine seq<|ij<|Y a c 3 d d<|Y a c 0 d d<|ik (U:=450) (cG:=[ay w.params "identifier" m aY,ay w.params "extendable" t aC]) (v:=2) "iteration_exponent" a b .(0) .(0) .(0) .(0) .(0) (λW=>by kernel_rfl) (b6 d) λu l o a e=>?_;replace b:=e _ _ g b;refine seq<|ij<|Y a c 4 d d<|Y a c 0 d d<|ik (U:=450) (cG:=[ay w.params "identifier" m aY,ay w.params "extendable" t aC,ay w.params "iteration_exponent" u ci]) (v:=3) "group_index" a b .(0) .(0) .(0) .(0) .(0) (λW=>by kernel_rfl) (b6 d) λy l o a e=>?_;replace b:=e _ _ g b;refine seq<|ij<|Y a c 5 d d<|Y a c 0 d d<|ik (U:=450) (cG:=[ay w.params "identifier" m aY,ay w.params "extendable" t aC,ay w.params "iteration_exponent" u ci,ay w.params "group_index" y co]) (v:=4) "group_threshold" a b .(0) .(0) .(0) .(0) .(0) (λW=>by kernel_rfl) (b6 d) λz l o a e=>?_;replace b:=e _ _ g b;refine seq<|ij<|Y a c 6 d d<|Y a c 0 d d<|ik (U:=450) (cG:=[ay w.params "identifier" m aY,ay w.params "extendable" t aC,ay w.params "iteration_exponent" u ci,ay w.params "group_index" y co,ay w.params "group_threshold" z cW]) (v:=5) "group_count" a b .(0) .(0) .(0) .(0) .(0) (λW=>by kernel_rfl) (b6 d) λB l o a e=>?_;replace b:=e _ _ g b;refine seq<|ij<|Y a c 7 d d<|Y a c 0 d d<|ik (U:=450) (cG:=[ay w.params "identifier" m aY,ay w.params "extendable" t aC,ay w.params "iteration_exponent" u ci,ay w.params "group_index" y co,ay w.params "group_threshold" z cW,ay w.params "group_count" B df]) (v:=6) "index" a b .(0) .(0) .(0) .(0) .(0) (λW=>by kernel_rfl) (b6 d) λD l o a e=>?_;replace b:=e _ _ g b;refine seq<|ij<|Y a c 8 d d<|Y a c 0 d d<|ik (U:=450) (cG:=[ay w.params "identifier" m aY,ay w.params "extendable" t aC,ay w.params "iteration_exponent" u ci,ay w.params "group_index" y co,ay w.params "group_threshold" z cW,ay w.params "group_count" B df,ay w.params "index" D dB]) (v:=7) "member_threshold" a b .(0) .(0) .(0) .(0) .(0) (λW=>by kernel_rfl) (b6 d) λE l o a e=>?_;replace b:=e _ _ g b;refine seq<|ij<|Y a c 9 d d<|Y a c 0 d d<|ik (U:=450) (cG:=[ay w.params "identifier" m aY,ay w.params "extendable" t aC,ay w.params "iteration_exponent" u ci,ay w.params "group_index" y co,ay w.params "group_threshold" z cW,ay w.params "group_count" B df,ay w.params "index" D dB,ay w.params "member_threshold" E dG]) (v:=8) "value" a b .(0) .(0) .(0) .(0) .(0) (λW=>by kernel_rfl) (b6 d) λM l o a e=>?_;replace b:=e _ _ g b;refine bv<|f [m,t,u,y,z,B,D,E,M] _ a.aS a.Z (a.fo 0 d)
theorem Dv(l:bb h)(L:aH w h s)(A:aR n 2 8){ci co cW df dB dG dV:p}(f:∀i aq bU k,bP [] s k true->aH w h k->k.heap.get? i=some (eT 450 aq)->k.heap.get? aq=some (gS w bU aY aC ci co cW df dB dG dV)->s.heap.get? i=none->s.heap.get? aq=none->837<=i->837<=aq->i≠aq->r (.ref i) k):
 bk w n (.call (.ref 450) ⟨[aY,aC,ci,co,cW,df,dB,dG,dV],[]⟩) (bW r) s:=by
 refine v5 (q:=1) (S:=4) L A.mono .(0) (oP:=388) .(0) .(0) λi aq B C m o t b u v c e g a=>Vo l t m b u e g a λbU k j x y=>⟨rfl,f i aq bU k (o.new j c) x (j.heap i _ (λz=>a (List.mem_singleton.mp z)) (.inr d) b) y v c e g a⟩
theorem Dw:cX (ak w h) (.ref 450)=true:=by kernel_rfl
noncomputable def nj(w:aD)(bU:List aF)(aY aC ci co:p):Obj:=fK [ay w.params "identifier" (bU.getD 0 0) aY,ay w.params "extendable" (bU.getD 1 0) aC,ay w.params "iteration_exponent" (bU.getD 2 0) ci,ay w.params "ciphertext" (bU.getD 3 0) co] 4
theorem Vp(z:bb h)(L:aH w h s)(A:aR n 1 4){i:x}{ci co:p}(b:s.heap.get? i=some (eT 705 aq))(B:s.heap.get? aq=some d0)(C:837<=i)(D:837<=aq)(g:i≠aq)(f:∀bU k,bP [aq] s k true->aH w h k->k.heap.get? aq=some (nj w bU aY aC ci co)->r .none k):bk w n (.call (.ref 678) ⟨[.ref i,aY,aC,ci,co],[]⟩) (bW r) s:=by refine cZ (q:=0) (S:=1) (R5 z) Qx (ht [(aq,fK [] 0)] true (λE o=>by refine j (List.mem_singleton.mp o) ?_;exact D)) L (λE o=>by refine j (List.mem_singleton.mp o) ?_;exact B) A.mono ?_;intro H l I J K c a A;replace b:l.heap.get? i=some (eT 705 aq):=a.bc b (λF=>g (List.mem_singleton.mp F)) C;refine seq<|ij<|Y a c 1 d d<|Y a c 0 d d<|ik (U:=705) (cG:=[]) (v:=0) "identifier" a b .(0) .(0) .(0) .(0) .(0) (λW=>by kernel_rfl) (b6 d) λm l t a e=>?_;replace b:=e _ _ g b;refine seq<|ij<|Y a c 2 d d<|Y a c 0 d d<|ik (U:=705) (cG:=[ay w.params "identifier" m aY]) (v:=1) "extendable" a b .(0) .(0) .(0) .(0) .(0) (λW=>by kernel_rfl) (b6 d) λu l t a e=>?_;replace b:=e _ _ g b;refine seq<|ij<|Y a c 3 d d<|Y a c 0 d d<|ik (U:=705) (cG:=[ay w.params "identifier" m aY,ay w.params "extendable" u aC]) (v:=2) "iteration_exponent" a b .(0) .(0) .(0) .(0) .(0) (λW=>by kernel_rfl) (b6 d) λy l t a e=>?_;replace b:=e _ _ g b;refine seq<|ij<|Y a c 4 d d<|Y a c 0 d d<|ik (U:=705) (cG:=[ay w.params "identifier" m aY,ay w.params "extendable" u aC,ay w.params "iteration_exponent" y ci]) (v:=3) "ciphertext" a b .(0) .(0) .(0) .(0) .(0) (λW=>by kernel_rfl) (b6 d) λG l t a e=>?_;replace b:=e _ _ g b;refine bv<|f [m,u,y,G] _ a.aS a.Z (a.fo 0 d)
theorem Dx(l:bb h)(L:aH w h s)(A:aR n 2 8){ci co:p}(f:∀i aq bU k,bP [] s k true->aH w h k->k.heap.get? i=some (eT 705 aq)->k.heap.get? aq=some (nj w bU aY aC ci co)->s.heap.get? i=none->s.heap.get? aq=none->837<=i->837<=aq->i≠aq->r (.ref i) k):
 bk w n (.call (.ref 705) ⟨[aY,aC,ci,co],[]⟩) (bW r) s:=by
 refine v5 (q:=1) (S:=4) L A.mono .(0) (oP:=678) .(0) .(0) λi aq B C m o t b u v c e g a=>Vp l t m b u e g a λbU k j x y=>⟨rfl,f i aq bU k (o.new j c) x (j.heap i _ (λz=>a (List.mem_singleton.mp z)) (.inr d) b) y v c e g a⟩
theorem Dy:cX (ak w h) (.ref 705)=true:=by kernel_rfl
structure v6(w:aD)(h:x->a1)(n:aQ)(M r:p->H->Prop)(D:ao)(name:al)(args:List am)(Uh:p)(p6:H):Prop where
 eh:∃i U bt sI C,Uh=.ref i/\(ak w h).In p6.heap/\iD p6.heap i bt U sI/\dK (ak w h) (.ref U) "__getattribute__"=some (some (.builtin "object.__getattribute__"))/\dK (ak w h) (.ref U) "__getattr__"=some none/\
  dK (ak w h) (.ref U) name=some (some (.ref C))/\typeIn (ak w h) (.ref C)=some (.type "function")/\shadowIn sI name=some false/\cX (ak w h) (.ref C)=true/\
  eM w n M D args (λar ke=>(ak w h).In ke.heap/\bk w n (.call (.ref C) ⟨.ref i::ar,[]⟩) (fU r M) ke) p6
theorem gd{J:am}{a:az}{d:eF Bool}(f:aa w n (bA J D) (v6 w h n M r D name args) M s)(e:autoParam (args.all fH=true) b0)(g:autoParam (bA (.Call (.Attribute J name a) args [] pos) D=(do
  let b<-bA J D
  j2 a.atName
  let(C,first)<-lw [b] (mC b name d)
  q1 pos C first (lr pos (iW args D)) [])) b0):aa w n (bA (.Call (.Attribute J name a) args [] pos) D) r M s:=by
 refine⟨tR (f.J λb u X=>?_) g⟩;refine aV λv i=>?_;obtain⟨x,y,z,A,C,rfl,X,j,k,l,m,o,p,q,t⟩:=X.eh;all_goals refine i ?_
 refine method_fn X j k l m o p (sg q e (t.mono λB E c=>⟨c.1,CK c.2⟩))
structure ji(w:aD)(f:au)(i aq:x)(bU:List aF)(aY aC ci co cW df dB dG dV:p):Prop where
 c:f.get? i=some (eT 450 aq)
 b:f.get? aq=some (gS w bU aY aC ci co cW df dB dG dV)
 n1:837<=i
 ox:837<=aq
section
variable{i aq:x}{bU:List aF}{aY aC ci co cW df dB dG dV:p}
theorem ji.inst{f:au}(L:ji w f i aq bU aY aC ci co cW df dB dG dV):iD f i (eT 450 aq) 450 (some (gS w bU aY aC ci co cW df dB dG dV)):=⟨L.c,rfl,rfl,L.b⟩
theorem v7:dK (ak w h) (.ref 450) "__getattribute__"=some (some (.builtin "object.__getattribute__")):=by kernel_rfl
theorem Vq:dK (ak w h) (.ref 450) "__getattr__"=some none:=by kernel_rfl
theorem v8:eS (ak w h) 450 (some (gS w bU aY aC ci co cW df dB dG dV)) (y "identifier")=some (.value aY):=by kernel_rfl
theorem sO:eS (ak w h) 450 (some (gS w bU aY aC ci co cW df dB dG dV)) (y "extendable")=some (.value aC):=by kernel_rfl
theorem v9:eS (ak w h) 450 (some (gS w bU aY aC ci co cW df dB dG dV)) (y "iteration_exponent")=some (.value ci):=by kernel_rfl
theorem wa:eS (ak w h) 450 (some (gS w bU aY aC ci co cW df dB dG dV)) (y "group_index")=some (.value co):=by kernel_rfl
theorem wb:eS (ak w h) 450 (some (gS w bU aY aC ci co cW df dB dG dV)) (y "group_threshold")=some (.value cW):=by kernel_rfl
theorem wc:eS (ak w h) 450 (some (gS w bU aY aC ci co cW df dB dG dV)) (y "group_count")=some (.value df):=by kernel_rfl
theorem sP:eS (ak w h) 450 (some (gS w bU aY aC ci co cW df dB dG dV)) (y "index")=some (.value dB):=by kernel_rfl
theorem wd:eS (ak w h) 450 (some (gS w bU aY aC ci co cW df dB dG dV)) (y "member_threshold")=some (.value dG):=by kernel_rfl
theorem qD:eS (ak w h) 450 (some (gS w bU aY aC ci co cW df dB dG dV)) (y "value")=some (.value dV):=by kernel_rfl
end
noncomputable def kt(b:Bool):Nat:=if b then 1 else 0
theorem Vr(b:Bool)(S:aF):Gives (Builtin.«int.__lshift__» ⟨[.bool b,.int 4 S],[]⟩) (.int ((kt b*16:Nat):Int)):=by
 cases b
 ·exact .of_wp λd e f a g c=>by obtain⟨h,i,j,k,os⟩:=a;wp_walk;exact(bF (_) (rfl) (c))
 ·exact .of_wp λd e f a g c=>by obtain⟨h,i,j,k,os⟩:=a;wp_walk;exact(bF (_) (rfl) (c))
theorem Vs{b:Bool}(a:N w h e I led s)(f:∀u k,N w h e I led k->r (aj (kt b*16) u) k):aa w n (fg .LShift (.bool b) (aj 4 S)) r M s:=
 ⟨binaryOp_left_gives (op:=.LShift) (T:="bool") (U:="int") .(1) d (λk=>tP k _ S) F.fills_bool_lshift F.fills_int_lshift F.sub_int_bool F.slot_bool_lshift F.slot_int_rlshift F.entry_int_lshift (F.args_int_lshift_2 _ _)
  (Vr b S) trivial (f _ _ a.a3)⟩
section
variable{i aq:x}{bU:List aF}{aY aC ci co cW df dB dG dV:p}
theorem ji.bc(L:ji w e.aK.heap i aq bU aY aC ci co cW df dB dG dV)(a:N w h e I led s)(cY:autoParam (i∉e.af.ae/\aq∉e.af.ae) Zzf):ji w s.heap i aq bU aY aC ci co cW df dB dG dV:=⟨a.bc L.c cY.1 L.n1,a.bc L.b cY.2 L.ox,L.n1,L.ox⟩
theorem eD{E:p}(L:ji w e.aK.heap i aq bU aY aC ci co cW df dB dG dV)(a:N w h e I led s)(b:eS (ak w h) 450 (some (gS w bU aY aC ci co cW df dB dG dV)) name=some (.value E))(c:fu E=true)(f:∀k,N w h e I led k->r E k)(cY:autoParam (i∉e.af.ae/\aq∉e.af.ae) Zzf):aa w n (hJ (.ref i) name true) r M s:=ii a (L.bc a cY).inst v7 b c f
theorem we(j:bb h)(L:aH w h s)(A:aR n 4 16)(e:ji w s.heap i aq bU aY aC ci co cW df dB dG dV)(g:fu aY=true/\fu aC=true/\fu ci=true/\fu cW=true/\fu df=true)(f:Made w h 285 [aY,aC,ci,cW,df] s r):bk w n (.call (.ref 402) ⟨[.ref i],[]⟩) (bW r) s:=by refine cZ (q:=3) (S:=13) (RP j) Qh (.none true) L trivial A.mono ?_;intro G b H I J c a A;refine seq (doc ?_);replace a:=a.a3 (u:=b.toks+1);refine seq (b2 ?_);refine aE ?_;intro K;refine b3 a c 0 d Rb U7<|cq<|Y a c 0 d d<|eD e a v8 g.1 λb a=>cq<|Y a c 0 d d<|eD e a sO g.2.1 λb a=>cq<|Y a c 0 d d<|eD e a v9 g.2.2.1 λb a=>cq<|Y a c 0 d d<|eD e a wb g.2.2.2.1 λb a=>cq<|Y a c 0 d d<|eD e a wc g.2.2.2.2 λb a=>⟨a.Z.l,UV j a.Z A.mono λo p t v x y z B C k l D=>?_⟩;have m:=a.call v x;have E:=a.eC B k;have F:=a.eC C l;exact f o p t m.aS m.Z y z E.own.new F.own.new k l D
theorem sQ(j:bb h)(L:aH w h s)(A:aR n 4 16)(e:ji w s.heap i aq bU aY aC ci co cW df dB dG dV)(g:fu aY=true/\fu aC=true/\fu ci=true/\fu co=true/\fu cW=true/\fu df=true/\fu dG=true)(f:Made w h 371 [aY,aC,ci,co,cW,df,dG] s r):bk w n (.call (.ref 409) ⟨[.ref i],[]⟩) (bW r) s:=by refine cZ (q:=3) (S:=13) (RQ j) Qi (.none true) L trivial A.mono ?_;intro G b H I J c a A;refine seq (doc ?_);replace a:=a.a3 (u:=b.toks+1);refine seq (b2 ?_);refine aE ?_;intro K;refine b3 a c 0 d Rc U8<|cq<|Y a c 0 d d<|eD e a v8 g.1 λb a=>cq<|Y a c 0 d d<|eD e a sO g.2.1 λb a=>cq<|Y a c 0 d d<|eD e a v9 g.2.2.1 λb a=>cq<|Y a c 0 d d<|eD e a wa g.2.2.2.1 λb a=>cq<|Y a c 0 d d<|eD e a wb g.2.2.2.2.1 λb a=>cq<|Y a c 0 d d<|eD e a wc g.2.2.2.2.2.1 λb a=>cq<|Y a c 0 d d<|eD e a wd g.2.2.2.2.2.2 λb a=>⟨a.Z.l,UW j a.Z A.mono λo p t v x y z B C k l D=>?_⟩;have m:=a.call v x;have E:=a.eC B k;have F:=a.eC C l;exact f o p t m.aS m.Z y z E.own.new F.own.new k l D
end
noncomputable def fa(id:Nat)(ext:Bool)(o:Nat):Nat:=id*32+kt ext*16+o
noncomputable def hx(bD gt bR cB mt:Nat):Nat:=(((bD*16+(gt-1))*16+(bR-1))*16+cB)*16+(mt-1)
section
variable{i aq:x}{bU:List aF}{id o bD gt bR cB mt:Nat}{oy bf bh bn sx Cz CA CB:aF}{ext:Bool}{E:List UInt8}
theorem Vt(j:bb h)(L:aH w h s)(A:aR n 7 30)(e:ji w s.heap i aq bU (aj id oy) (.bool ext) (aj o bf) (aj bD bh) (aj gt bn) (aj bR sx) (aj cB Cz) (aj mt CA) (a6 E CB))(p:id<2^15)(f:∀G O R k,bP [] s k->aH w h k->k.heap.get? G=some (a4 O R)->s.heap.get? G=none->837<=G->cf O ((bH 2).map (de (fa id ext o) 2 10))->r (.ref G) k):bk w n (.call (.ref 416) ⟨[.ref i],[]⟩) (bW r) s:=by refine cZ (q:=6) (S:=27) (RR j) Qj .none L trivial A.mono ?_;intro z c B C g b a A;refine seq (bN ?_);refine aE ?_;intro D;refine a2<|cq<|Y a b 0 d d<|eD e a v8 d λc a=>a2<|dJ 4 _ a b 0 d qa<|dJ 1 _ a b 1 d Bf<|eZ a λW c a=>m4 a .(1) (Mt p) λW c a=>bx a b 1 d d ?_;intro c g a;refine seq<|jG<|jH a b 1 d d<|a2<|cq<|Y a b 0 d d<|eD e a sO d λc a=>dJ 4 _ a b 0 d qa<|Vs a λW c a=>oE a λW c a=>bx a b 1 d d ?_;intro c g a;refine seq<|jG<|jH a b 1 d d<|cq<|Y a b 0 d d<|eD e a v9 d λc a=>oE a λW c a=>bx a b 1 d d ?_;intro c g a;refine seq (b2 ?_);refine b3 a b 2 d vj u6<|Y a b 1 d d<|dJ 2 _ a b 3 d qb<|⟨a.Z.l,vG j a.Z A.mono .(1) λG O R k t u v x l y=>?_⟩;have m:=a.call t u;exact f G O R k m.aS m.Z v (a.eC x l).own.new l y
theorem Vu(p:bb h)(L:aH w h s)(A:aR n 7 30)(g:ji w s.heap i aq bU (aj id oy) (.bool ext) (aj o bf) (aj bD bh) (aj gt bn) (aj bR sx) (aj cB Cz) (aj mt CA) (a6 E CB))(j:bD<16)(l:1<=gt/\gt<=16)(m:1<=bR/\bR<=16)(v:cB<16)(x:1<=mt/\mt<=16)(f:∀G O R k,bP [] s k->aH w h k->k.heap.get? G=some (a4 O R)->s.heap.get? G=none->837<=G->cf O ((bH 2).map (de (hx bD gt bR cB mt) 2 10))->r (.ref G) k):bk w n (.call (.ref 423) ⟨[.ref i],[]⟩) (bW r) s:=by refine cZ (q:=6) (S:=27) (RS p) Qk .none L trivial A.mono ?_;intro F b H I e c a A;refine seq (bN ?_);refine cq (Y a c 0 d d (eD g a wa d λb a=>?_));refine bx a c 1 d d ?_;intro b e a;refine seq<|jG<|jH a c 1 d d<|a8 4 a λW b a=>sw a .(1) (Mu j) λW b a=>bx a c 1 d d ?_;intro b e a;refine seq<|jG<|jH a c 1 d d<|a2<|cq<|Y a c 0 d d<|eD g a wb d λb a=>a8 1 a λW b a=>jO a l.1 λW b a=>oE a λW b a=>bx a c 1 d d ?_;intro b e a;refine seq<|jG<|jH a c 1 d d<|a8 4 a λW b a=>sw a .(1) (Ic j l) λW b a=>bx a c 1 d d ?_;intro b e a;refine seq<|jG<|jH a c 1 d d<|a2<|cq<|Y a c 0 d d<|eD g a wc d λb a=>a8 1 a λW b a=>jO a m.1 λW b a=>oE a λW b a=>bx a c 1 d d ?_;intro b e a;refine seq<|jG<|jH a c 1 d d<|a8 4 a λW b a=>sw a .(1) (Ie j l m) λW b a=>bx a c 1 d d ?_;intro b e a;refine seq<|jG<|jH a c 1 d d<|cq<|Y a c 0 d d<|eD g a sP d λb a=>oE a λW b a=>bx a c 1 d d ?_;intro b e a;refine seq<|jG<|jH a c 1 d d<|a8 4 a λW b a=>sw a .(1) (Ig j l m v) λW b a=>bx a c 1 d d ?_;intro b e a;refine seq<|jG<|jH a c 1 d d<|a2<|cq<|Y a c 0 d d<|eD g a wd d λb a=>a8 1 a λW b a=>jO a x.1 λW b a=>oE a λW b a=>bx a c 1 d d ?_;intro b e a;refine seq<|b2<|b3 a c 0 d vj u6<|Y a c 1 d d<|a8 2 a λW b a=>⟨a.Z.l,vG p a.Z A.mono .(1) λG O R k y z B C t D=>?_⟩;have u:=a.call y z;exact f G O R k u.aS u.Z B (a.eC C t).own.new t D
end
theorem Vv(b:bb h)(L:aH w h s)(A:aR n 4 16){v:Int}(h0:0<=v)(i:v<2^40)(f:∀u k,bP [] s k->aH w h k->r (.int ((v+9)/10) u) k):
 bk w n (.call (.ref 55) ⟨[.int v u],[]⟩) (bW r) s:=by
 refine cZ (q:=3) (S:=12) (Ru b) PJ .none L trivial (A.mono) ?_;intro l s m o p c a A;refine seq (doc ?_);replace a:=a.toks (gZ _);refine seq<|b2<|b3 a c 0 d Bk Ag<|Y a c 0 d d<|cg a λW s a=>⟨a.Z.l,Cr b a.Z A.mono .(1) (GA (by lia)) λu s e L=>?_⟩;replace a:=a.call e L;have g:(v+10-1).fdiv 10=(v+9)/10:=by refine j (xv _ .(1)) ?_;congr 1;exact Mv
 refine j g<|f _ _ a.aS a.Z
noncomputable def dW:List p->List (List Nat)->Prop
 |[],[]=>True
 |E::O,G::a=>(∃u,E=ds G u)/\dW O a
 |_,_=>False
theorem dW.len:∀{O:List p} {a:List (List Nat)},dW O a->O.length=a.length
 |[],[],_=>rfl
 |_::_,_::_,b=>j ec (j ec (j (dW.len b.2) d))
theorem dW.dU:∀{O:List p} {ns:List (List Nat)} {aU:List p} {aw:List (List Nat)},dW O ns->dW aU aw->dW (O++aU) (ns++aw)
 |[],[],_,_,_,a=>a
 |_::_,_::_,_,_,a,b=>⟨a.1,dW.dU a.2 b⟩
theorem dW.gO(G:List Nat)(u:aF):dW [ds G u] [G]:=⟨⟨u,rfl⟩,trivial⟩
theorem dW.at:∀{O:List p} {c:List (List Nat)},dW O c->∀{m:Nat} {E:p},O[m]?=some E->∃G u,c[m]?=some G/\E=ds G u
 |[],[],_,_,_,a=>by trivial
 |e::O,d::f,b,0,E,a=>by simp only[j1,kH] at a;refine bo b.1 λu g=>(eU (d) (u) (rfl) (a▸g))
 |e::O,d::f,b,m+1,E,a=>by have:=dW.at b.2 (m:=m) (by simpa using a);assumption
theorem dW.of{C:Nat->List Nat}(a:O.length=v)(f:∀a0 E,O[a0]?=some E->∃u,E=ds (C a0) u):dW O ((bH v).map C):=by
 subst a;induction O generalizing C with
 |nil=>trivial
 |cons b e c=>refine j ec<|j xw<|j dC<|j nN<|xb (f 0 b d) (c (C:=C∘Nat.succ) λa0 E g=>f (a0+1) E (by assumption))
noncomputable abbrev fL(G:List Nat):al:=⟨G.toArray⟩
theorem dW.Dz:∀{O:List p} {b:List (List Nat)},dW O b->∃G:List (al×aF),O=strValues G/\G.map (·.1)=b.map fL
 |[],[],_=>⟨[],rfl,rfl⟩
 |_::_,c::_,a=>by obtain⟨⟨e,rfl⟩,a⟩:=a;(refine bp (dW.Dz a) λG f g=>?_;obtain rfl:=f);exact(bF ((fL c,e)::G) (rfl) (j dC (j dC (j g d))))
noncomputable def cL:List (List Nat)->List Nat
 |[]=>[]
 |[i]=>i
 |i::ai::A=>i++32::cL (ai::A)
theorem DA(c b:List Nat):fL c++fL b=fL (c++b):=by refine(?_:xG _ _=_);simp[xG]
theorem DB:∀d:List (List Nat),aaG (fL [32]) (d.map fL)=fL (cL d)
 |[]=>rfl
 |[a]=>rfl
 |a::b::c=>by refine(?_:fL a++fL [32]++aaG (fL [32]) ((b::c).map fL)=_);rw[DB (b::c),DA,DA];refine(?_:fL _=fL (a++32::cL (b::c)));refine j (lH ..) ?_;rfl
theorem Vw(G:List al)(R:Nat):∀(c:Nat),(∀i∈G,i.length<=R)->G.foldl (λv i=>v+i.length+1) c<=c+G.length*(R+1):=by
 induction G with
 |nil=>intro c W;simp
 |cons i h b=>intro c a;have d:=a i aG;have e:=b (c+i.length+1) λf g=>a f (.tail _ g);refine j fP<|j ec<|j (qU ..)<|Kk d e
theorem DC{b:List (List Nat)}(a:N w h e I led s)(m:s.heap.get? c=some (a4 O R))(i:dW O b)(bi:b.length<=1000)(o:∀G∈b,G.length<=1000)(f:∀u k,N w h e I led k->r (ds (cL b) u) k):aa w n (call (.builtin "str.join") [ds [32] u,.ref c]) r M s:=by
 (refine bp i.Dz λG l p=>?_;obtain rfl:=l);refine⟨SC.join (IsList.new m) p ?_ λy z=>?_⟩
 ·unfold JoinOk;refine j (hc ..)<|decide_eq_false<|be (Array.foldl_toList ..) ?_;have:=Vw (b.map fL) 1000 0 λd i=>by
   (refine bp (List.mem_map.mp i) λq t l=>?_;obtain rfl:=l);exact(λ{A B}=>String.Pos.Raw.mk_le_mk.mp) (o (fL q).cps.toList t)
  rw[eG] at this;have v:(λ(g:Nat) (d:al)=>g+d.length+(fL [32]).length)=λg d=>g+d.length+1:=rfl;refine(?_:¬(xA (λ(g:Nat) (d:al)=>g+d.length+(fL [32]).length) 0 (b.map fL)>eI));refine j v<|j gG<|Ku bi this
 ·have x:Txt.join (fL [32]) (b.map fL)=fL (cL b):=by refine be (DB ..)<|StrLaws.glued_eq_join _ _
  refine j x<|f _ _ a.a3
structure a7 where
 id:Nat
 ext:Bool
 o:Nat
 bD:Nat
 gt:Nat
 bR:Nat
 cB:Nat
 mt:Nat
 E:List UInt8
structure a7.bL(A:a7):Prop where
 id:A.id<2^15
 o:A.o<16
 bD:A.bD<16
 gt:1<=A.gt/\A.gt<=16
 bR:1<=A.bR/\A.bR<=16
 cB:A.cB<16
 mt:1<=A.mt/\A.mt<=16
 E:A.E.length<=32
noncomputable def dP(A:a7):Nat:=(A.E.length*8+9)/10
noncomputable def dataOf(A:a7):List Nat:=(bH 2).map (de (fa A.id A.ext A.o) 2 10)++(bH 2).map (de (hx A.bD A.gt A.bR A.cB A.mt) 2 10)++(bH (dP A)).map (de (fW A.E) (dP A) 10)
noncomputable def fb(A:a7):List Nat:=dataOf A++nb (dataOf A) (nd A.ext)
noncomputable def dk(A:a7):List Nat:=cL ((fb A).map cv)
theorem Vx(E v l:Nat):de E v 10 l<1024:=eQ _ .(1)
theorem wf(A:a7):∀v∈dataOf A,v<1024:=λv a=>by unfold dataOf at a;simp only[lD,List.mem_map] at a;rcases a with(⟨W,W,rfl⟩|⟨W,W,rfl⟩)|⟨W,W,rfl⟩<;>exact Vx _ _ _
theorem Vy(z:Nat):∀v∈na z,v<1024:=λv a=>by (refine bp (List.mem_map.mp a) λc W b=>?_;obtain rfl:=b);exact cF my .(1)
theorem nk(A:a7):∀v∈fb A,v<1024:=λv a=>(List.mem_append.mp a).elim (wf A v) (Vy _ v)
theorem qE{A:a7}(f:A.E.length<=32):dP A<=26:=by unfold dP;exact J4 f
theorem sR(A:a7):(dataOf A).length=4+dP A:=by simp[dataOf];exact Mw
theorem DD(z:Nat):(na z).length=3:=by rfl
theorem nl(A:a7):(fb A).length=7+dP A:=by rw[fb,dZ,sR,nb,DD];exact Mx
abbrev il(w:aD)(f:au)(i aq:x)(bU:List aF)(u:Nat->aF)(A:a7):Prop:=ji w f i aq bU (aj A.id (u 0)) (.bool A.ext) (aj A.o (u 2)) (aj A.bD (u 3)) (aj A.gt (u 4)) (aj A.bR (u 5)) (aj A.cB (u 6)) (aj A.mt (u 7)) (a6 A.E (u 8))
section
variable{i aq:x}{bU:List aF}{u:Nat->aF}{t:a7}
theorem jj{ci co cW df dB dG dV:p}(X:(ak w h).In s.heap)(L:ji w s.heap i aq bU aY aC ci co cW df dB dG dV)(b:dK (ak w h) (.ref 450) name=some (some (.ref C)))(c:typeIn (ak w h) (.ref C)=some (.type "function"))(d:shadowIn (some (gS w bU aY aC ci co cW df dB dG dV)) name=some false)(e:cX (ak w h) (.ref C)=true)(l:eM w n M D args (λar a=>(ak w h).In a.heap/\bk w n (.call (.ref C) ⟨.ref i::ar,[]⟩) (fU r M) a) s):v6 w h n M r D name args (.ref i) s:=⟨i,450,_,_,C,rfl,X,L.inst,v7,Vq,b,c,d,e,l⟩
theorem DE(p:bb h)(L:aH w h s)(A:aR n 8 34)(v:il w s.heap i aq bU u t)(o:t.bL)(f:∀G O R k,bP [] s k->aH w h k->k.heap.get? G=some (a4 O R)->s.heap.get? G=none->837<=G->dW O ((fb t).map cv)->r (.ref G) k):bk w n (.call (.ref 430) ⟨[.ref i],[]⟩) (bW r) s:=by
 have af:=qE o.E;refine cZ (q:=7) (S:=31) (RT p) Ql .none L trivial A.mono ?_;intro ag b ah ai z c a A;refine seq (doc ?_);replace a:=a.a3 (u:=b.toks+1);refine seq<|bN<|aE ?_;intro B;refine b3 a c 0 d Q3 PK<|a2<|aE ?_;intro B;refine c0 a c 1 d dv dx<|cq<|Y a c 0 d d<|eD v a qD d λb a=>ho a (by refine j cN ?_;have:=o.E;exact y5 this) λS b a=>?_;refine j cN<|a8 8 a λS b a=>hr a .(1) λS b a=>?_;have x:=o.E;refine⟨a.Z.l,Vv p a.Z A.mono My (K3 x) λaj b R L=>?_⟩;replace a:=a.call R L;have y:(((t.E.length*8:Nat):Int)+9)/10=((dP t:Nat):Int):=by unfold dP;exact JZ
 refine j y<|bx a c 1 d d ?_;intro b z a;refine seq<|bN<|aE ?_;intro B;refine C9 a c 2 d λak b a=>cq<|Y a c 0 d d<|eD v a qD d λb a=>fj a λal b a=>(h5 (t.E) (_) (_) (rfl) (uD x) (a.at 0 d) (?_));replace a:=(a.a3 (u:=b.toks+1)).cd (cJ _ _);refine bx a c 2 d d ?_;intro b z a;refine seq (bN ?_);refine b3 a c 3 d vj u6 ?_;refine Y a c 2 d d<|Y a c 1 d d<|⟨a.Z.l,vG p a.Z A.mono (J3 x y) λam sv an a5 e L g l m K=>?_⟩;replace a:=a.hq (a.call e L) g l m;clear e L g l m;refine bx a c 3 d d ?_;intro b z a;refine seq<|bN<|aE ?_;intro B;refine a2<|a2<|gd<|Y a c 0 d d<|jj (C:=416) a.Z.l (v.bc a) .(0) .(0) .(0) .(0)<|⟨a.Z.l,(Vt p a.Z A.mono (v.bc a) o.id λao M ap a5 e L g l m F=>?_).ex⟩;replace a:=a.hq (a.call e L) g l m;clear e L g l m;refine gd<|Y a c 0 d d<|jj (C:=423) a.Z.l (v.bc a) .(0) .(0) .(0) .(0)<|⟨a.Z.l,(Vu p a.Z A.mono (v.bc a) o.bD o.gt o.bR o.cB o.mt λar oD as a5 e L g l m H=>?_).ex⟩;replace a:=a.hq (a.call e L) g l m;clear e L g l m;refine jL a (a.at 1 d) (a.at 0 d) (by refine j F.len (j H.len (j gG ?_));exact b6 d) λau b a=>?_;refine Y a c 3 d d<|jL a (a.at 0 d) (a.at 3 d) (ck (by refine j dZ (j F.len (j H.len (j K.len ?_)));simp;exact J1 x y)) λaw b a=>?_;refine a.eL ?_;intro T a;have I:cf (M++oD++sv) (dataOf t):=(F.dU H).dU K;refine bx a c 4 d d ?_;intro b z a;refine seq<|bN<|aE ?_;intro B;refine b3 a c 4 d Q5 PS<|Y a c 4 d d<|b3 a c 5 d Bs AE<|cq<|Y a c 0 d d<|eD v a sO d λb a=>⟨a.Z.l,C4 p a.Z A.mono λax b e L=>?_⟩;replace a:=a.call e L;have N:=a.ld _ aG;refine⟨a.Z.l,T7 p a.Z A.mono N.1 N.2.2.ge I (λU V=>kG (wf t U V) .(1)) (by refine j (sR ..) ?_;exact J2 x y) (C3 _) λay W az b e L g l m P=>?_⟩;replace a:=a.hq (a.call e L) g l m;clear e L g l m;refine bx a c 5 d d ?_;intro b z a;refine seq (b2 ?_);refine aE ?_;intro B;refine c6 a c 6 d lS lZ<|b3 a c 7 d Q9 PZ<|a2<|Y a c 4 d d<|Y a c 5 d d<|jL a (a.at 1 d) (a.at 0 d) (ck (by rw[I.len,P.len,sR,nb,DD];exact OS x y)) λld b a=>a.eL ?_;intro T a;have X:cf (M++oD++sv++W) (fb t):=I.dU P;have Q:=a.ld _ aG;refine⟨a.Z.l,Ub p a.Z A.mono Q.1 Q.2.2.ge X (nk t) λaA b e L av=>?_⟩;have Z:=av.vC a;replace a:=a.call e L;refine Cc a d Z A.mono (ck (by refine j (nl ..) ?_;exact J0 x y)) λG O D b a aa ab=>?_;have J:=a.ld _ aG;refine f G O D b a.aS a.Z J.1 J.2.2.new J.2.2.ge ?_;have ac:=dW.of (C:=λD=>cv ((fb t).getD D 0)) aa ab;have ad:(bH (fb t).length).map (λD=>cv ((fb t).getD D 0))=(fb t).map cv:=by
  refine pi λae=>j dR (j dR ?_);by_cases E:ae<(fb t).length
  ·refine j (nY E) (j (da E) ?_);simp[dY,E]
  ·refine j (jy (by simpa using E)) (j (jy (by simpa using E)) ?_);rfl
 refine be ad ?_;exact ac
theorem Vz(c:bb h)(L:aH w h s)(A:aR n 9 38)(e:il w s.heap i aq bU u t)(g:t.bL)(f:∀u k,bP [] s k->aH w h k->r (ds (dk t) u) k):bk w n (.call (.ref 437) ⟨[.ref i],[]⟩) (bW r) s:=by
 have l:=qE g.E;refine cZ (q:=8) (S:=35) (RU c) Qm .none L trivial A.mono ?_;intro H b I J K m a A;refine seq (doc ?_);replace a:=a.a3 (u:=b.toks+1);refine seq (b2 ?_);refine aE ?_;intro M;refine gu xT F.slot_str_join F.type_str_join<|fj a λN b a=>(bO (nS _ _ _) ((λO o=>nomatch o))<|gd<|Y a m 0 d d<|jj (C:=430) a.Z.l (e.bc a) .(0) .(0) .(0) .(0)<|⟨a.Z.l,(DE c a.Z A.mono (e.bc a) g λp P Q b v L x y z B=>?_).ex⟩);replace a:=a.hq (a.call v L) x y z;refine DC a (a.at 0 d) B (by refine j (eG ..) (j (nl ..) ?_);exact Mz l) (λp D=>?_) λE b a=>?_
 ·(refine bp (List.mem_map.mp D) λR W G=>?_;obtain rfl:=G);exact b6 d
 ·exact f E b a.aS a.Z
end
noncomputable abbrev e0(w:aD):=intKind ff w
theorem VA{B:x}{P:Int->Bool}{l:Int}(a:N w h e I led s)(b:s.heap.SetOf (e0 w) B P v)(f:∀k,N w h e I led k->r (.bool (P l)) k):aa w n (f1 .In (.int l u) (.ref B)) r M s:=⟨wpAny_inSet_of (intKind_is _ _ _ _) d b (f _ a.a3)⟩
theorem DF{B:x}{P:Int->Bool}(a:N w h e I led s)(b:s.heap.SetOf (e0 w) B P v)(f:∀u k,N w h e I led k->r (aj v u) k):aa w n (call (.builtin "len") [.ref B]) r M s:=by
 refine aV λp c=>?_;(refine pM b λq d t u g qF i y z j l m=>?_;clear b;obtain rfl:=m);all_goals refine c ?_
 have o:d.size<4096:=j;exact⟨call_len_set g qF i l (zp o) (f _ _ a.a3)⟩
theorem VB{b8:gD}{a:Source}{r:Nat->H->Prop}(bi:v≠0)(f:∀m,m<v->r m {s with drawn:=s.drawn.bump a}):aL b8 n (choose a v) r M s:=λW W W=>⟨bi,f _ (eQ _ (Nat.pos_of_ne_zero bi))⟩
theorem VC{B:x}{J:V}{P:Int->Bool}{E:Int}(a:N w h e I led s)(U:e.af.t=false)(m:Nat)(aW:led[m]?=some (B,J))(O:s.heap.SetOf (e0 w) B P 1)(W:∀l,P l=true->l=E)(f:∀u g k,N w h e I (led.set m (B,g)) k->r (.int E u) k):aa w n (call (.builtin "set.pop") [.ref B]) r M s:=by
 refine aV λao X=>?_;(refine pM O λap Q aq b t qF z A Y ar D Z=>?_;clear O);all_goals refine X ?_
 have G:=a.at m aW.symm;rw[t] at G;(obtain rfl:=(dg G).symm;clear G);obtain⟨R,rfl⟩:∃R:List (Int×p),Q=R.toArray:=⟨Q.toList,by dsimp⟩;(refine bo (hj Z) λac q=>?_;obtain rfl:=q);obtain⟨c,i⟩:=ac;replace A:ElemsOf (e0 w) [(c,i)]:=A;have S:=A (c,i) aG;(refine bE S λq X=>?_;clear S;(refine bp q λl T X=>?_;clear q));have ad:P l=true:=(Y l).mpr (bF ((c,i)) aG (T));have ae:=W l ad;subst ae;(refine bo (aaH T) λu q=>?_;obtain rfl:=q);have K:b.place.size=1:=by simp only[SetTable.fits,eH,beq_iff_eq] at D;exact D.1
 have af:b.popPlace=some 0:=by
  unfold SetTable.popPlace;have:b.place.isEmpty=false:=by refine Array.isEmpty_eq_false_iff.mpr ?_;intro L;rw[L] at K;exact nomatch K
  simp only[this,fO,if_false,K];congr 1;split<;>lia
 have bv:∀(k:H) (o:Nat),o=0->k.heap=s.heap->N w h e I led k->aL (aZ w) n.in1 (do
  let some (_,i):=(#[(c,gF l u)]:Array (Int×p))[o]?|unsupported "internal:set.pop"
  storeSet B (xU #[(c,gF l u)] o) (b.popped o)
  return some i) (λv y=>v=some (.int l u)/\∃g,N w h e I (led.set m (B,g)) y) M k:=by
  (intro k o ag ah ai;obtain rfl:=ag);refine(?_:aL _ _ (storeSet B (xU #[(c,gF l u)] 0) (b.popped 0)>>=λW=>pure (some (gF l u))) _ _ _);have aj:k.heap.get? B=some J:=by refine j ah ?_;exact t
  refine ab (wpAny_storeSet_of aj z (aI ⟨rfl,Obj.putSet (xU #[(c,gF l u)] 0) (b.popped 0) J,?_⟩) ?_)
  ·exact ai.PC (C:=Obj.putSet (xU #[(c,gF l u)] 0) (b.popped 0)) aW (by refine j (putSet_of _ _ z) ?_;rfl)
  ·refine j gG ?_;exact b6 d
 have ak:aL (aZ w) n.in1 (setPop B) (λv y=>v=some (.int l u)/\∃g,N w h e I (led.set m (B,g)) y) M s:=by
  unfold setPop;refine ab (wpAny_setState_of t z D ?_);dsimp only;refine j af ?_;dsimp only;unfold setsByText;refine ab<|ab<|tG<|aI<|(?_:aL _ _ (if(w.params.followText "set-order"||_)=true then _ else _) _ _ _);generalize w.params.followText "set-order"=al;cases al with
  |true=>refine j (if_pos d)<|ab (VB (fk (Nat.zero_ne_add_one [].length)) λo am=>bv _ o (Nat.lt_one_iff.mp am) d (a.PE U))
  |false=>refine j (Bool.false_or _)<|(?_:aL _ _ (if(!b.plain&&decide (1>1))=true then _ else _) _ _ _);refine j (if_neg (by simp))<|(?_:aL _ _ ((if(!b.led&&decide (1>1))=true then _ else pure ())>>=_) _ _ _);refine j (if_neg (by simp))<|ab (aI (ab (aI (bv s 0 d d a))))
 refine⟨hY<|lC (by decide+kernel) F.entry_set_pop<|F.slot_set_pop.check _ _ _ _ _ _ _ _ (bF (_) (t) (qF.1)) (F.args_set_pop_1 _)<|cA ?_⟩;intro as;unfold Builtin.«set.pop»;refine ab<|c3 (a:=B) d<|ab (cy ak (λv y ⟨L,g,an⟩=>?_) λW W i=>i);subst L;exact aI (f u g _ an)
theorem VD(E:p):aas "bytes.__new__" "bytes" ["source","encoding","errors"] [E] []=pure [some E,none,none]:=by kernel_rfl
theorem VE(E:p):nL "bytes.__new__" ⟨[.type "bytes",E],[]⟩=pure ():=by kernel_rfl
theorem VF(E:p):checkTypeCall "bytes" ⟨[E],[]⟩=pure ():=by kernel_rfl
theorem VG:typeLookup (.type "int") "__bytes__"=pure none:=by rw[tJ,tK];kernel_rfl
theorem VH(b:s.TypeIs E "int")(c:asStr? E=pure none)(e:(asIndex E).attempt=pure (Except.ok (v:Int)))(bi:v<=1000)(f:∀u l,r (a6 (he v 0) u) {s with toks:=l}):g1 (aZ w) n (.call (.builtin "bytes.__new__") ⟨[.type "bytes",E],[]⟩) (wants r M) s:=by
 refine q8 ?_;(refine(?_:aL _ n.in1 (do nL "bytes.__new__" ⟨[.type "bytes",E],[]⟩;again (.builtin "bytes.__new__" ⟨[.type "bytes",E],[]⟩)) _ _ s));refine ab (c3 (VE _) (aI ⟨kO q9 _,kN Gp<|j (lA q9 _) ?_⟩));unfold Builtin.«bytes.__new__»;refine ab<|c3 (a:=true) d<|iz d<|ab<|c3 F.bm_sub<|iz d<|ab<|c3 (VD _)<|ab<|c3 (a:=()) d<|ab<|c3 (a:=()) d<|iz d<|ab (j4 b VG ?_);dsimp only;refine ab<|ab<|c3 c<|aI<|iz d<|ab<|j4 b F.slot_int_index.lookup<|iz d<|ab (c3 e ?_);dsimp only;(refine j (if_neg (by simp[Builtin.Bytes.fitsIndex];exact MA bi)) (j (if_neg pW) (j (if_neg (MB bi)) ?_)));(refine j (if_neg (by simp[Builtin.Bytes.tooLong,gG];exact kV bi)) ?_);refine ab<|kM<|ab (xp ?_ (ck (by simp;exact kV bi)));refine(?_:aL _ _ (if(jt "bytes"==jt "bytes")=true then _ else _) _ _ _);refine xq .(1) ?_;have g:Array.replicate (v:Int).toNat (0:UInt8)=(he v 0).toArray:=by dsimp
 refine j g<|aI (f _ _)
theorem VI(a:N w h e I led s)(bi:v<=1000)(f:∀u k,N w h e I led k->r (a6 (he v 0) u) k):aa w n (call (.type "bytes") [aj v S]) r M s:=by refine⟨xt (Q₁:=λb c=>c.TypeIs b "bytes"/\r b c) Gs (VF _) Gu (VH (tP _ _ _) d d bi λu i=>⟨q6 _ _ _,f u _ a.a3⟩) λb c g=>(bO (g.1) (aac b _) (Gv F.bm_called.init.lookup F.bm_called.made .(1) _ w n.in1 _ c (bO (g.1) (rfl) (g.2))))⟩
noncomputable def qG(i:Nat):Nat:=(i<<<1)^^^((i>>>7)*283)
noncomputable def jk(i:Nat):Nat:=qG i^^^i
noncomputable def b5:Nat->Nat->Nat
 |0,i=>i
 |v+1,i=>jk (b5 v i)
theorem DH(c b e:Nat):c^^^(b^^^e)=b^^^(c^^^e):=by rw[<-rk,Nat.xor_comm c b,rk]
theorem VJ:∀i,i<256->jk i<256:=by decide+kernel
theorem hy(v:Nat){i:Nat}(f:i<256):b5 v i<256:=by
 induction v with
 |zero=>exact f
 |succ v a=>exact VJ _ a
theorem wg{i ai:Nat}(a:i<256)(b:ai<256):i^^^ai<256:=tN (n:=8) a b
theorem VK(c b e:Nat)(a:c<2)(d:b<2):(c^^^b)*e=c*e^^^b*e:=by have:c=0\/c=1:=ur a;have:b=0\/b=1:=ur d;rcases‹c=0\/c=1› with rfl|rfl<;>rcases‹b=0\/b=1› with rfl|rfl<;>simp
theorem VL{i ai:Nat}(a:i<256)(b:ai<256):qG (i^^^ai)=qG i^^^qG ai:=by unfold qG;rw[Ha,aaI,VK _ _ _ (by refine j (tU ..) ?_;exact yE a) (by refine j (tU ..) ?_;exact yE b)];simp only[rk,DH]
theorem VM{i ai:Nat}(a:i<256)(b:ai<256):jk (i^^^ai)=jk i^^^jk ai:=by unfold jk;refine j (VL a b) ?_;simp only[rk,DH]
theorem VN(v:Nat){i ai:Nat}(a:i<256)(b:ai<256):b5 v (i^^^ai)=b5 v i^^^b5 v ai:=by
 induction v with
 |zero=>rfl
 |succ v c=>refine(?_:jk _=jk _^^^jk _);exact j c (j (VM (hy v a) (hy v b)) d)
theorem jl(R v i:Nat):b5 (R+v) i=b5 R (b5 v i):=by
 induction R with
 |zero=>refine j (iu ..) ?_;rfl
 |succ R a=>refine j (Nat.succ_add ..) ?_;refine(?_:jk _=jk _);exact j a d
theorem VO(v:Nat):b5 v 0=0:=by
 induction v with
 |zero=>rfl
 |succ v a=>refine(?_:jk _=0);refine j a ?_;rfl
theorem VP:∀i,i<256->b5 255 i=i:=by decide+kernel
theorem VQ(v:Nat){i:Nat}(f:i<256):b5 (v%255) i=b5 v i:=by
 have c:∀a b,b5 (b+255*a) i=b5 b i:=by
  intro a;induction a with
  |zero=>intro b;rfl
  |succ a e=>intro b;rw[Nat.mul_succ,<-mj,jl (b+255*a) 255,VP i f,e]
 conv=>rhs;rw[<-Nat.mod_add_div v 255]
 exact j (c ..) d
theorem cf.a3(ns:List Nat):∀u,cf (i0 ns u) ns:=by
 induction ns with
 |nil=>exact λW=>trivial
 |cons b c a=>exact λu=>⟨⟨u,rfl⟩,a (u+1)⟩
theorem cf.sS(l u S:Nat)(ns:List Nat):cf (i0 (ns.take l) u++i0 (ns.drop l) S) ns:=by have a:=(cf.a3 (ns.take l) u).dU (cf.a3 (ns.drop l) S);rw[rl] at a;exact a
noncomputable def oQ(w:aD)(h:x->a1)(c:x):List Value:=match(ak w h).lookup c with
 |some ⟨_,_,.seq O _,_⟩=>O.toList
 |_=>[]
theorem VR:(ak w h).lookup 712=some (a4 (oQ w h 712)):=by kernel_rfl
theorem VS:(ak w h).lookup 715=some (a4 (oQ w h 715)):=by kernel_rfl
theorem VT:cf (oQ w h 712) oe:=by refine j (show oQ w h 712=i0 (oe.take 128) 1412++i0 (oe.drop 128) 1541 by kernel_rfl) (cf.sS ..)
theorem VU:cf (oQ w h 715) og:=by refine j (show oQ w h 715=i0 (og.take 128) 1670++i0 (og.drop 128) 1799 by kernel_rfl) (cf.sS ..)
noncomputable def fA(l:Nat):Nat:=og.getD l 0
noncomputable def eh(l:Nat):Nat:=oe.getD l 0
theorem DI{ns:List Nat}(a:N w h e I led s)(g:(ak w h).lookup c=some (a4 O))(b:cf O ns)(k:l<ns.length)(m:l<1000)(f:∀u,r (aj (ns.getD l 0) u) s)(o:autoParam (ly slice false (.ref c) (aj l u)=lz [.ref c,aj l u] (hG (.ref c) (aj l u))) b0):
 aa w n (lx value slice (.ref c) (aj l u)) r M s:=by
 have d:l<O.length:=by refine j b.len ?_;exact k
 refine db (b.at (da d)) λp q t v=>?_;have x:ns.getD l 0=p:=by refine j dY (j t ?_);rfl
 refine f8 (i:=O[l]) (IsList.new (a.Z.l _ _ g)) fm (uM m) (by refine j (ft ..) ?_;exact da d) ?_ o;refine j v<|be x<|f q
theorem sT(a:N w h e I led s)(b:l<256)(f:∀u,r (aj (fA l) u) s)(c:autoParam (ly slice false (.ref 715) (aj l u)=lz [.ref 715,aj l u] (hG (.ref 715) (aj l u))) b0):aa w n (lx value slice (.ref 715) (aj l u)) r M s:=DI a VS VU b (MC b) f c
theorem VV(a:N w h e I led s)(b:l<255)(f:∀u,r (aj (eh l) u) s)(c:autoParam (ly slice false (.ref 712) (aj l u)=lz [.ref 712,aj l u] (hG (.ref 712) (aj l u))) b0):aa w n (lx value slice (.ref 712) (aj l u)) r M s:=DI a VR VT b (MD b) f c
abbrev er(f:au)(b:x)(J:V):Prop:=f.get? b=some J/\837<=b
abbrev ei(h0 f:au)(b:x)(J:V):Prop:=f.get? b=some J/\837<=b/\h0.get? b=none
abbrev In(G:List (x×V))(b:x)(J:V):Prop:=(b,J)∈G
def qH(av:x->V->Prop)(E:p)(z:Nat×List UInt8):Prop:=∃i aq u S,E=.ref i/\av i (dA 565 aq [aj z.1 u,a6 z.2 S])/\av aq d0
noncomputable def bT{α:Type}(P:p->α->Prop):List p->List α->Prop
 |[],[]=>True
 |E::ar,z::ah=>P E z/\bT P ar ah
 |_,_=>False
theorem qH.keep{z:Nat×List UInt8}(l:∀b J,av b J->bs b J)(i:qH av E z):qH bs E z:=let⟨a,c,d,e,f,g,h⟩:=i;⟨a,c,d,e,f,l _ _ g,l _ _ h⟩
section
variable{α:Type}{P qn:p->α->Prop}
theorem bT.keep(l:∀E z,P E z->qn E z):∀{ar:List p} {ah:List α},bT P ar ah->bT qn ar ah
 |[],[],_=>trivial
 |_::_,_::_,a=>⟨l _ _ a.1,bT.keep l a.2⟩
theorem bT.len:∀{ar:List p} {ah:List α},bT P ar ah->ar.length=ah.length
 |[],[],_=>rfl
 |_::ar,_::ah,a=>by exact j ec (j ec (j (bT.len a.2) d))
theorem bT.at:∀{ar:List p} {ah:List α},bT P ar ah->∀{m:Nat} {E:p},ar[m]?=some E->∃z,ah[m]?=some z/\P E z
 |_::_,z::_,b,0,E,a=>by simp only[j1,kH] at a;subst a;exact(bF (z) (rfl) (b.1))
 |_::ar,_::ah,b,m+1,E,a=>by simp only[mq] at a⊢;exact bT.at b.2 a
 |[],_,_,m,E,a=>by trivial
theorem bT.dU:∀{ar:List p} {ah:List α} {b:List p} {c:List α},bT P ar ah->bT P b c->bT P (ar++b) (ah++c)
 |[],[],_,_,_,a=>a
 |_::_,_::_,_,_,d,a=>⟨d.1,bT.dU d.2 a⟩
theorem bT.gO{z:α}(f:P E z):bT P [E] [z]:=⟨f,trivial⟩
theorem bT.take:∀{ar:List p} {ah:List α} (v:Nat),bT P ar ah->bT P (ar.take v) (ah.take v)
 |_,_,0,_=>trivial
 |[],[],_+1,_=>trivial
 |_::_,_::_,v+1,a=>⟨a.1,bT.take v a.2⟩
theorem bT.drop:∀{ar:List p} {ah:List α} (v:Nat),bT P ar ah->bT P (ar.drop v) (ah.drop v)
 |_,_,0,a=>a
 |[],[],_+1,_=>trivial
 |_::_,_::_,v+1,a=>bT.drop v a.2
end
abbrev fB(av:x->V->Prop):=bT (qH av)
theorem fB.keep(l:∀b J,av b J->bs b J)(i:fB av ar ah):fB bs ar ah:=bT.keep (λW W a=>a.keep l) i
noncomputable def sumTo(C:Nat->Nat):Nat->Nat
 |0=>0
 |v+1=>sumTo C v+C v
noncomputable def fY(ah:List (Nat×List UInt8))(m:Nat):Nat:=(ah.getD m (0,[])).1
noncomputable def oR(ah:List (Nat×List UInt8))(m:Nat):List UInt8:=(ah.getD m (0,[])).2
noncomputable def im(ah:List (Nat×List UInt8))(i a:Nat):Nat:=(((sumTo (λm=>fA (fY ah m^^^i)) ah.length:Nat):Int)-(fA (a^^^i):Nat)-(sumTo (λb=>fA (a^^^fY ah b)) ah.length:Nat)|>.emod 255).toNat
noncomputable def iQ(b:Nat)(E:UInt8):Nat:=if E≠0 then eh ((fA E.toNat+b)%255) else 0
noncomputable def jm(b:Nat)(q a:List UInt8):List UInt8:=(bH (min q.length a.length)).map λm=>((a.getD m 0).toNat^^^iQ b (q.getD m 0)).toUInt8
noncomputable def c1(ah:List (Nat×List UInt8))(v i:Nat):List UInt8:=ah.foldl (λa z=>jm (im ah i z.1) z.2 a) (he v 0)
theorem VW:∀l,eh l<256:=by
 intro l;by_cases a:l<255
 ·exact(by decide+kernel:∀l,l<255->eh l<256) l a
 ·have:eh l=0:=by unfold eh;refine j dY (j (jy (Nat.not_lt.mp a)) ?_);rfl
  exact Pc this
theorem wh(b:Nat)(E:UInt8):iQ b E<256:=by
 unfold iQ;split
 ·exact VW _
 ·decide
theorem wi{aO:Type}[DecidableEq aO](C:Nat->aO):∀v,(∀m a0,m<v->a0<v->C m=C a0->m=a0)->fT C v=v
 |0,_=>rfl
 |v+1,b=>by
  have e:seen C v (C v)=false:=by
   cases c:seen C v (C v) with
   |false=>rfl
   |true=>
    unfold seen at c;refine bp (List.any_eq_true.mp c) λa0 a f=>?_;have a:=List.mem_range.mp a;have:=b a0 v (rL a) uN (of_decide_eq_true f)
    lia
  refine(?_:(if seen C v (C v) then fT C v else fT C v+1)=_);exact j e (j (if_neg (by simp)) (j (wi C v λm a0 g a=>b m a0 (rL g) (rL a)) d))
theorem DJ{aO:Type}[DecidableEq aO](C:Nat->aO)(l:aO):∀v,(∀m,m<v->C m=l)->0<v->fT C v=1
 |1,_,_=>rfl
 |v+2,a,_=>by
  have b:seen C (v+1) (C (v+1))=true:=by unfold seen;refine List.any_eq_true.mpr<|bF (0) (List.mem_range.mpr zq)<|decide_eq_true<|j (a 0 ME) (j (a (v+1) Pg) d)
  refine(?_:(if seen C (v+1) (C (v+1)) then fT C (v+1) else fT C (v+1)+1)=_);refine j b<|j (if_pos d)<|DJ C l (v+1) (λm c=>a m (MF c)) zq
theorem N.VX(a:N w h e I led s)(f:c∈e.af.ae){a3:Nat}(m:hb c s.heap ag)(af:dq)(b:af.bare=e.af.bare)(g:af.P ag):N w h (e.cO af) I led {s with heap:=ag,toks:=a3}:=by
 have n:=e.af.ge c f;have i:ee [c] s {s with heap:=ag,toks:=a3}:=ee.same m;have k:∀d∈[c],837<=d:=λd b=>by refine j (List.mem_singleton.mp b) ?_;exact n
 have o:=a.bare;have l:=k4 b;have p:N w h (e.cO e.af.bare) I led {s with heap:=ag,toks:=a3}:=o.en (i.aS k λd b=>.inl (by refine j (List.mem_singleton.mp b) ?_;exact f)) (i.Z k a.Z) (λd b=>by
  have:d∈af.ae:=by refine j l ?_;exact b
  exact af.live _ g d this)
 exact p.jD af l (T1 b) g
theorem VY{i:p}{r:p->H->Prop}(a:s.heap.IsList G aM)(b:aM.back?=some i)(q:aM.size<2^62)(f:r i s):aL (aZ w) n (hG (.ref G) (.int (-1) u)) r M s:=by
 (refine g4 (id a) λt h v d=>?_;(refine bo d λx k=>?_;clear d));unfold hG;try with_reducible refine dH ?_
 first|refine ab (aI ?_)|skip
 refine ab<|wpAny_sequenceKey a.typeIs .(1)<|ab (mF (name:=et "__getitem__") a.typeIs slot_list_getitem
  (jx slot_list_getitem a.typeIs entry_list_getitem ?_ (args_list_getitem _ _)))
 refine cA ?_;intro y;show aL _ _ (Builtin.List.listSubscript? (.int (-1) u)>>=_) _ _ s;refine ab<|wpAny_listSubscript_int .(1)<|(?_:aL _ _ ((GG (.ref G)>>=λe=>pure ((q7 (-1) e.size).bind λg=>e[g]?.map (g,·)))>>=_) _ _ s);refine ab (ab (wpAny_listItems h k (aI ?_)));have l:0<aM.size:=by
  rcases Nat.eq_zero_or_pos aM.size with c|c
  ·rw[Array.back?,tH (MG c)] at b;exact cz b
  ·exact c
 have m:q7 (-1) aM.size=some (aM.size-1):=by unfold q7;simp;exact Ip l
 refine j m ?_;have o:aM[aM.size-1]?=some i:=b;refine(?_:aL _ _ ((match aM[aM.size-1]?.map ((aM.size-1),·) with|some (_,i)=>_|none=>_):eF _) _ _ s);refine j o ?_;first
  |exact ab (aI (aI ⟨i,rfl,aI f⟩))
  |exact aI ⟨i,rfl,aI f⟩
noncomputable def DK:Stmt:=(fv (bX 86)).getD 9 (.Pass default)
noncomputable def ku(a b:x)(c:p):bJ:=⟨DK,y "law.<locals>.draw",a,b,.none,(.str (y "law_ja0054_01") 2031),c,none,[y "count"],[y "_law_octets",y "bytes",y "_law_draw"]⟩
theorem VZ(a b:x)(c:p):(ku a b c).ok=true:=(by decide+kernel:(ku 0 0 .none).ok=true)
theorem V0(a b:x)(c:p):(ku a b c).cj=true:=(by decide+kernel:(ku 0 0 .none).cj=true)
theorem V1{C:bJ}{ba:List (al×x)}{J:V}{doc:p}{args:js}{bQ:List (al×p)}{r:p->H->Prop}{I:List (Option p)}(af:dq)(L:aH w h s)(u:af.P s.heap){S:Nat}(A:aR n (q+1) (S+3))(G:s.heap.get? C.fG=some J)(K:J.data=.func {C.d5 doc with closure:=ba})(M:s.heap.CodeRec (.ref C.code) C.t)(v:C.ok=true)(O:C.cj=true)(a:hE {C.d5 doc with closure:=ba} args=pure bQ)(P:(bQ.all λi=>(d1 C.a9).names.lookup i.1==some .local)=true)(Q:C.names.map (λi=>bQ.reverse.lookup i)=I)(R:(bQ.all λi=>C.names.contains i.1)=true)(f:∀ac k,let g:aP:=⟨C.eg ac ba,s,af,.none⟩;let y:Around:=n.deeper g.D;let T:List (Option p):=I;g.l.bL->N w h g T [] k->aR y q S->aa w y (ej (fv C.a9) g.D) (ia r) dh k):
 bk w n (.call (.ref C.fG) args) (bW r) s:=⟨by
 have l:=v;simp only[bJ.ok,eH,beq_iff_eq,hc,iw,decide_eq_true_eq] at l;refine aV λai U=>?_;(refine bE l λW T=>?_;clear l;obtain⟨⟨⟨⟨⟨⟨X,Y⟩,Z⟩,aj⟩,ab⟩,T⟩,T⟩:=W);all_goals refine U ?_
 refine Ga (fd:={C.d5 doc with closure:=ba}) A.hm G K Z Y d M<|cA ?_;intro ak;have ad:∀i∈(d1 C.a9).names,i.2≠.cell:=λi m=>by have:=List.all_eq_true.mp O i m;simpa using this
 refine j a<|aI (σ ad (λi m=>by have:=List.all_eq_true.mp P i m;exact eq_of_beq this) (λo ae ag=>?_) X);have z:∀J,s.heap.get? s.heap.objs.size≠some J:=λJ b=>dn _ (cr b);have B:s.heap.get? s.heap.objs.size=none:=by
  cases b:s.heap.get? s.heap.objs.size with
  |none=>rfl
  |some J=>exact absurd b (z J)
 have t:ee [s.heap.objs.size] s {s with heap:=o,toks:=s.toks+bQ.length}:=⟨λc J a b=>(ag.2 c λe=>a (by refine j e ?_;exact .head _)).trans (cM _ b),rfl,rfl,rfl⟩;have D:∀c∈[s.heap.objs.size],837<=c:=λc a=>by refine j (List.mem_singleton.mp a) ?_;exact L.size
 have E:aH w h {s with heap:=o,toks:=s.toks+bQ.length}:=t.Z D L;have F:s.heap.objs.size∉af.ae:=λe=>let⟨J,b⟩:=af.live _ u _ e;z J b;refine⟨E.mQ,Gb<|cy (f s.heap.objs.size {s with heap:=o,toks:=s.toks+bQ.length} (bJ.u1 v _ _) ⟨E,t.aS D (λc a=>.inr (by refine j (List.mem_singleton.mp a) ?_;exact B)),?_,?_,⟨B,L.size,F⟩,λW ah=>(nomatch ah),qZ,trivial,λW f=>(nomatch f)⟩ (A.deeper _)).run (λW W i=>i) (λW W i=>i.elim)⟩
 ·exact af.eV _ _ (λc a J b=>t.heap c J (λe=>F (by refine be (List.mem_singleton.mp e) ?_;exact a)) b) u
 ·have:ez C.names I=λi=>bQ.reverse.lookup i:=by subst Q;exact Ab ab R
  refine j this ?_;exact ae⟩
theorem V2{C:al}{aJ:x}{J:V}{d5:FuncData}(a:N w h e I led s)(i:e.l.bL)(m:Nat)(aW:some C=e.l.names[m]?)(k:some (some (.ref aJ))=I[m]?)(hd:J.data=.func d5)(f:eM w n M D args (λar b=>b.heap.get? aJ=some J/\bk w n (.call (.ref aJ) ⟨ar,[]⟩) (bW r) b) s)(c:autoParam (args.all fH=true) b0)(l:autoParam (D=e.D) b0):
 aa w n (bA (.Call (.Name C z) args [] pos) D) r M s:=by
 refine⟨pl (aa.run (Y a i m aW k ?_ l))⟩;refine tF (P:=λf=>f.get? aJ=some J) (by refine j (iI c) ?_;rfl) (λf o=>?_) (jI c (f.mono λar b g=>⟨g.1,?_⟩))
 ·obtain⟨p,q,t,os⟩:=J;dsimp only at hd;subst hd;exact(bF (.frame) (.inl d) ((hI (part:=none) o).andThen .now))
 ·refine j (ix ..)<|k0 g.2
inductive jT(f:au)(wj aJ aT:x):Prop
 |mk (J:V) (doc:p) (wk bR oo:x) (hi:p) (DL go:V) (e6:837<=wj) (fz:837<=wk) (fV:837<=bR) (gs:837<=oo) (abG:f.get? wj=some J) (abH:J.data=.func {(ku wj oo hi).d5 doc with closure:=[(y "given",bR),(y "feed",wk)]}) (abJ:f.get? wk=some DL) (abK:DL.data=.cell (some (.ref aJ))) (abL:f.get? bR=some go) (abM:go.data=.cell (some (.ref aT))) (abN:f.CodeRec (.ref oo) (y "law.<locals>.draw"))
noncomputable def V3(aJ ax aT:x)(ap:List p->Prop)(t:Bool)(i:837<=aJ)(j:837<=ax)(k:837<=aT):dq:=
 ⟨t,[aJ,ax,aT],λa=>hu aJ ax a/\∃Q R,a.get? aT=some (a4 Q R)/\ap Q,λb c=>by
  refine iG c ?_ ?_ ?_<;>assumption,
  λa ⟨⟨_,_,_,_,⟨_,d,_⟩,e,_⟩,_,_,f,_⟩ b c=>by
   refine iG c ?_ ?_ ?_
   ·exact⟨_,d⟩
   ·exact⟨_,e⟩
   ·exact⟨_,f⟩,
  λa ag l ⟨h,Q,R,o,g⟩=>⟨h.keep λb c=>l b (by simp only[dD,eR,or_false] at c⊢;rcases c with a|a<;>simp[a]),Q,R,l _ (.tail _ (.tail _ aG)) _ o,g⟩⟩
structure ih(aJ ax aT:x):Prop where
 c:837<=aJ
 b:837<=ax
 q:837<=aT
 m7:aJ≠ax
 wl:aJ≠aT
 wm:ax≠aT
noncomputable abbrev cw{aJ ax aT:x}(X:ih aJ ax aT)(ap:List p->Prop)(t:Bool:=false):dq:=V3 aJ ax aT ap t X.c X.b X.q
theorem qI{aJ:x}{X:ih aJ ax aT}{ap:List p->Prop}{f:au}(g:(cw X ap t).P f){b:x}{J:V}(o:f.get? b=some J)(hd:∀O v,J.data≠.seq O v):b∉[aJ,ax,aT]:=by
 refine aV λm i=>?_;(refine bE g λj h=>?_;clear g;obtain⟨W,W,W,W,⟨n,a,q,r,k⟩,c,W⟩:=j;(refine db h λs u e W=>?_;clear h));all_goals refine i ?_
 intro l;revert o;refine iG l ?_ ?_ ?_
 ·intro o;rw[o] at a;(obtain rfl:=dg a;clear a);exact hd _ _ k
 ·intro o;rw[o] at c;(obtain rfl:=(dg c).symm;clear c);exact hd _ _ d
 ·intro o;rw[o] at e;(obtain rfl:=(dg e).symm;clear e);exact hd _ _ d
theorem jT.aS{aJ f:x}{X:ih aJ ax aT}{ap:List p->Prop}{bV:Bool}{s:H}(i:jT s.heap f aJ aT)(q:(cw X ap t).P s.heap)(R:bP [aJ,ax,aT] s k bV):jT k.heap f aJ aT:=by
 refine aV λN r=>?_;obtain⟨a,doc,u,v,w,y,z,A,g,h,j,l,B,m,C,n,D,o,O,E,F,G,b,I,c,J⟩:=i;all_goals refine r ?_
 cases b
 have d:∀{e a},s.heap.get? e=some a->837<=e->(∀K L,a.data≠.seq K L)->k.heap.get? e=some a:=λb M c=>R.heap _ _ (qI q b c) (.inl (gI M)) b;exact⟨a,doc,u,v,w,y,z,A,g,h,j,l,d B g (λW W t=>nomatch m.symm.trans t),m,d C h (λW W t=>nomatch n.symm.trans t),n,d D j (λW W t=>nomatch o.symm.trans t),o,_,E,F,G,rfl,d I l (λW W t=>nomatch c.symm.trans t),c,J⟩
theorem sU(aJ ax aT:x):∀b∈[aJ,ax],b∈[aJ,ax,aT]:=λb a=>by simp only[dD,eR,or_false] at a⊢;rcases a with c|c<;>simp[c]
noncomputable abbrev sV(a bR:x):List (al×x):=[(y "given",bR),(y "feed",a)]
theorem DN(ae:bb h)(L:aH w h s)(A:aR n 4 17){o aJ:x}(X:ih aJ ax aT)(aD:jT s.heap o aJ aT)(aF:hu aJ ax s.heap){Q:List p}(aG:s.heap.get? aT=some (a4 Q R))(aq:Q.length<100000)(ar:2<=l)(aI:l<=1000)(f:∀(G:List UInt8) u aK k,G.length=l->bP [aJ,ax,aT] s k true->aH w h k->hu aJ ax k.heap->k.heap.get? aT=some (a4 (Q++[a6 G u]) aK)->r (a6 G u) k):bk w n (.call (.ref o) ⟨[aj l S],[]⟩) (bW r) s:=by
 have af:(cw X (λt=>t=Q) true).P s.heap:=⟨aF,Q,R,aG,rfl⟩;refine aV λbd aL=>?_;obtain⟨J,doc,H,K,M,O,be,bf,bg,ag,as,bh,aM,aN,Z,ab,ah,ai,aO⟩:=aD;all_goals refine aL ?_
 refine V1 (C:=ku o M O) (ba:=[(y "given",K),(y "feed",H)]) (J:=J) (doc:=doc) (q:=3) (S:=14) (bQ:=[(y "count",aj l S)]) (I:=[some (aj l S)]) (cw X (λt=>t=Q) true) L af A.mono aM aN aO (VZ _ _ _) (V0 _ _ _) .(0) .(0) .(0) .(0) ?_;intro ac b bi bj bl e a A;have ak:∀ad:Unit,aT∉[aJ,ax]:=λQ f=>by
  simp only[dD,eR,or_false] at f;rcases f with f|f
  ·exact X.wl f.symm
  ·exact X.wm f.symm
 have al:=qI af Z (λQ Q ad=>nomatch ab.symm.trans ad);have au:=qI af ah (λQ Q ad=>nomatch ai.symm.trans ad);refine seq<|l5<|gu nT lE pv<|ic a e .(0) .(0) (a.bc ah au as) ai ?_;(refine bE a.b4 λQ P=>?_;obtain⟨aP,bm,av,rfl⟩:=P);(refine(bO ((IsList.new av).typeIs) (λc T=>by cases T;exact(bF (_) (av) (rfl))) (?_)));have aw:∀(G:List UInt8) u b,G.length=l->N w h ⟨(ku o M O).eg ac (sV H K),s,cw X (λt=>t=aP) true,.none⟩ [some (aj l S)] [] b->aa w (n.deeper ((ku o M O).D ac (sV H K))) (call (.builtin "list.append") [.ref aT,a6 G u]) (λaQ k=>aQ=.none/\aa w (n.deeper ((ku o M O).D ac (sV H K))) (ej [(fv DK).getD 1 (.Pass default)] ((ku o M O).D ac (sV H K))) (ia r) dh k) dh b:=by
  intro G u b aS a;refine aE ?_;intro ay;obtain⟨aU,j,z,am,aW⟩:=a.b4;subst aW;have U:IsL b.heap aT j.toArray z:=am;have aX:(b.heap.update aT (nP λv=>v.push (a6 G u))).get? aT=some (a4 (j++[a6 G u]) (z+1)):=by
   have:=xC U (λv=>v.push (a6 G u));have T:(if(j.toArray.push (a6 G u)).size==j.toArray.size then z else z+1)=z+1:=by simp
   rw[T] at this;have am:j.toArray.push (a6 G u)=(j++[a6 G u]).toArray:=xD j (a6 G u);rw[am] at this;exact this
  (refine⟨nO lE (bF (_) (U) (rfl)) GI (GJ _ _) (GK aT j.toArray z (a6 G u) (ck (by simp;exact MH aq))) (bO (U) (rfl) (?_))⟩);have az:hb aT b.heap (b.heap.update aT (nP λv=>v.push (a6 G u))):=kJ ..;have aY:hu aJ ax (b.heap.update aT (nP λv=>v.push (a6 G u))):=aU.keep λaZ a0 J T=>(az.2 aZ (by
   refine ed a0 ?_ ?_
   ·exact X.wl
   ·exact X.wm)).trans T
  have g:=a.VX (c:=aT) (by refine(?_:aT∈[aJ,ax,aT]);exact py d) (a3:=b.toks) az (cw X (λt=>t=j++[a6 G u]) true) d ⟨aY,_,_,aX,rfl⟩;refine g.gl ?_;intro bn g;refine seq<|b2<|aE ?_;intro ay;refine dr<|ic g e .(0) .(0) (g.bc ah au as) ai<|sp<|cg g λan a5 g=>vA g λbo a5 g=>?_;(refine bE g.b4 λa1 P=>?_;obtain⟨bp,a2,ao,a7⟩:=P);subst a7;refine oA (IsList.new ao).typeIs slot_list_getitem.lookup (VY (i:=a6 G u) (IsList.new ao) (by simp) (by simp;exact KW aq) ?_) d;exact f G u a2 a5 aS g.aS g.Z a1 ao
 refine(?_:aa w _ _ _ _ _);refine aE ?_;intro ay;refine ite<|cT<|Y a e 0 d d<|cg a λan b a=>iJ (cn ?_);by_cases ap:2<l
 ·refine fi (decide_eq_true (MI ap))<|b3 a e 0 d Bw Bb<|ic a e .(0) .(0) (a.bc Z al ag) ab<|Y a e 0 d d ?_;(refine bE a.b4 λB P=>?_;obtain⟨V,W,D,E⟩:=P);refine⟨a.Z.l,C7 ae a.Z A.mono X.c X.b X.m7 B ar aI λG u a5 U m L F=>aw G u a5 U (a.en (m.mono (sU aJ ax aT)) L ⟨F,V,W,m.heap _ _ (ak ()) (.inr d) D,E⟩)⟩
 ·refine dN (decide_eq_false (K7 ap))<|c6 a e 1 d jF jN<|f7<|b3 a e 2 d gn gm<|ic a e .(0) .(0) (a.bc Z al ag) ab<|a8 256 a λY b a=>?_;obtain⟨B,V,W,D,E⟩:=a.b4;refine⟨a.Z.l,gv ae a.Z A.mono X.c X.b X.m7 B .(1) λaA a9 a5 bq m L F=>?_⟩;replace a:=a.en (k:=a5) (m.mono (sU aJ ax aT)) L ⟨F,V,W,m.heap _ _ (ak ()) (.inr d) D,E⟩;clear B D E m L F;refine b3 a e 2 d gn gm<|ic a e .(0) .(0) (a.bc Z al ag) ab<|a8 256 a λY b a=>?_;obtain⟨B,V,W,D,E⟩:=a.b4;refine⟨a.Z.l,gv ae a.Z A.mono X.c X.b X.m7 B .(1) λaB bc a5 br m L F=>?_⟩;replace a:=a.en (k:=a5) (m.mono (sU aJ ax aT)) L ⟨F,V,W,m.heap _ _ (ak ()) (.inr d) D,E⟩;refine⟨ey d,?_⟩;replace a:=a.e8 [aj aA a9,aj aB bc];(refine ne (ns:=[aA,aB]) a A.bd (a.at 0 d) (bO (⟨_,rfl⟩) (⟨_,rfl⟩) (trivial)) (λbs aC=>by simp only[dD,eR,or_false] at aC;rcases aC with rfl|rfl<;>assumption) (ey d) λan b a=>?_);exact aw _ an b (by simp[gc];exact Lm ar ap) (a.cd (cJ _ _))
structure l7(ah:List (Nat×List UInt8))(v i:Nat):Prop where
 DO:i<256
 lt:∀z∈ah,z.1<256/\z.1≠i
 len:∀z∈ah,z.2.length=v
 h8:(ah.map (·.1)).Nodup
 v:v<=1000
 pos:0<ah.length
 UO:ah.length<=100
theorem oS{c:Nat}(a:c<256)(d:b<256):c^^^b<256:=wg a d
theorem oT{z:Nat×List UInt8}(f:ah[l]?=some z):fY ah l=z.1:=by unfold fY;refine j dY (j f ?_);rfl
theorem DP{z:Nat×List UInt8}(f:ah[l]?=some z):oR ah l=z.2:=by unfold oR;refine j dY (j f ?_);rfl
theorem wn(C:Nat->Nat):∀v,ju (λm=>((C m:Nat):Int)) v=((sumTo C v:Nat):Int)
 |0=>rfl
 |v+1=>by refine(?_:ju _ v+_=_);refine j (wn C v) ?_;rfl
theorem V4{aO:Type}[DecidableEq aO]{C:Nat->aO}{l:aO}(f:∀m,m<v->C m≠l):seen C v l=false:=by
 cases a:seen C v l with
 |false=>rfl
 |true=>unfold seen at a;refine bp (List.any_eq_true.mp a) λb c d=>absurd (of_decide_eq_true d) (f b (List.mem_range.mp c))
theorem DQ(b:Nat)(q a:List UInt8):(jm b q a).length=min q.length a.length:=by simp[jm]
theorem sW:∀(ah:List (Nat×List UInt8)) (C:Nat×List UInt8->Nat) (v:Nat) (a:List UInt8),(∀z∈ah,z.2.length=v)->a.length=v->(ah.foldl (λa z=>jm (C z) z.2 a) a).length=v
 |[],_,_,_,_,c=>c
 |z::ah,C,v,a,b,d=>sW ah C v _ (λe f=>b e (.tail _ f)) (by refine j (DQ ..) (j (b z aG) (j d ?_));exact lp _)
theorem V5{α a:Type}(C:a->α->a)(b:a){G:List α}{z:α}(f:G[l]?=some z):(G.take (l+1)).foldl C b=C ((G.take l).foldl C b) z:=by refine j hf (j f ?_);simp
theorem DR{c g:List UInt8}{E:Nat}{i m:UInt8}{o ci:aF}(a:N w h e I led s)(p:c[l]?=some i)(q:g[l]?=some m)(t:E=iQ b i)(f:∀ai k,(∃u,ai=aj ((g.getD l 0).toNat^^^iQ b (c.getD l 0)) u)->N w h e I led k->r ai k):aa w n (fg .BitXor (aj m.toNat ci) (aj E o)) r M s:=m2 a λv k a=>f _ _ ⟨v,by exact j (oL p) (j (oL q) (j t d))⟩ a
theorem wo(az:bb h)(L:aH w h s)(A:aR n 6 22){i:Nat}(M:s.heap.get? G=some (a4 O R))(D:837<=G)(aD:fB (er s.heap) O ah)(ab:l7 ah v i)(f:∀u k,bP [] s k->aH w h k->r (a6 (c1 ah v i) u) k):bk w n (.call (.ref 722) ⟨[.ref G,aj i u],[]⟩) (bW r) s:=by
 refine mZ (C:=u9) (q:=6) (S:=22) (bQ:=[(y "shares",.ref G),(y "x",aj i u)]) (I:=[some (.ref G),none,none,none,none]) [y "x",y "log_basis_eval",y "share"] .none L trivial A (R7 az) (λR=>by kernel_rfl) (λR=>by kernel_rfl) .(0) .(1) .(0) d d ?_;intro J U m br cS ae a0 p bs a;have bt:(U 0).data=.cell (some (aj i u)):=bs 0 _ d;have cb:(U 1).data=.cell none:=bs 1 _ d;have cc:(U 2).data=.cell none:=bs 2 _ d;replace a:N w h _ _ [(J+1,U 0),(J+2,U 1),(J+3,U 2)] m:=a;replace A:aR (n.deeper (u9.D J (cl [y "x",y "log_basis_eval",y "share"] (J+1) []))) 5 19:=aR.deeper A _;have bu:=ab.v;have cU:O.length=ah.length:=aD.len;have bw:=ab.UO;have al:O.toArray.size=ah.length:=by assumption
 have aM:∀{o:x} {t:V},s.heap.get? o=some t->o≠J:=a.kY;have aO:∀{o:x} {t:V},s.heap.get? o=some t->o≠J+1/\o≠J+2/\o≠J+3:=λc=>by
  have cd:=(a.ld _ aG).2.2.new;have ce:=(a.ld _ (.tail _ aG)).2.2.new;have cf:=(a.ld _ (.tail _ (.tail _ aG))).2.2.new;refine(bO (λo=>?_) (λo=>?_) (λo=>?_))
  ·rw[o] at c;exact cz ((show s.heap.get? (J+1)=none from cd).symm.trans c)
  ·rw[o] at c;exact cz ((show s.heap.get? (J+2)=none from ce).symm.trans c)
  ·rw[o] at c;exact cz ((show s.heap.get? (J+3)=none from cf).symm.trans c)
 have a1:∀{l:Nat} {z:Nat×List UInt8},ah[l]?=some z->z.1<256:=λc=>(ab.lt _ (cx c)).1;refine seq (doc ?_);replace a:=a.a3 (u:=m.toks+1);refine seq<|bN<|aE ?_;intro aa;refine c6 a p 0 d vo vE<|jK (aN:=[y "share"]) (aX:=[]) _ d A.hm (by decide+kernel)<|Y a p 0 d d<|gP A.bd a (IsList.new (a.bc M bC D)) ⟨aM M,bC,by simpa using aO M,D⟩ λP m aB af a=>?_;have aF:∀{g:x} {t:V},s.heap.get? g=some t->g∉[P]:=λc o=>by have:=(af.own P aG).1.new;rw[<-List.mem_singleton.mp o] at this;exact cz ((show s.heap.get? _=none from this).symm.trans c)
 refine mX (aN:=[y "share"]) (aX:=[]) (λam an=>fy an P G aB _) A.bd a af d p (721,717) d .(1) _ d (by decide+kernel) (q:=2) (S:=9) (F:=λl ao=>∃u,ao=aj (fY ah l) u) ?_ ?_
 ·intro a3 code g aI am l i I k a7 a9 H ac ag ap ai aq aP b;refine aE ?_;intro aa;(refine eJ (hk aq) λba bc K=>?_;obtain rfl:=K);refine aV λaA Q=>?_;(refine bp (aD.at (by simpa using ai)) λz ad K=>?_;obtain⟨bz,bA,bd,aJ,rfl,⟨ar,T⟩,as,au⟩:=K);all_goals refine Q ?_
  refine dF (cp (bx b H 1 d d ?_));intro k ae b;have ak:∀{g t},s.heap.get? g=some t->837<=g->k.heap.get? g=some t:=λc D=>ac _ b.bG _ _ (a.bc c bC D) D (aF c);refine cq<|Y b H 1 d d<|qC az b ag (ak ar T) (ak as au) T d λk b R=>aP _ _ _ _ ⟨bd,by exact j (oT ad) d⟩ (by rfl) (b)
 intro X m a av;refine Ce a d av A (by refine j al ?_;refine(?_:_<4096);exact zQ bw) (λl=>((fY ah l:Nat):Int)) (λB E R aw=>aw) λbB cV m a bf=>?_;refine d8 a p 1 d d λm a=>?_;rw[al] at bf;have ch:fT (λl=>((fY ah l:Nat):Int)) ah.length=ah.length:=wi _ _ λB aQ ax aS c=>by
  have c:=Int.natCast_inj.mp c;have ci:=oT (da ax);have cj:=oT (da aS);rw[ci,cj] at c;have bR:=List.pairwise_iff_getElem.mp ab.h8;rcases aaJ B aQ with o|o|o
  ·exact absurd (by refine j (rm ..) (j (rm ..) ?_);exact c) (bR B aQ (by simpa using ax) (by simpa using aS) o)
  ·exact o
  ·exact absurd (by refine j (rm ..) (j (rm ..) ?_);exact c.symm) (bR aQ B (by simpa using aS) (by simpa using ax) o)
 rw[ch] at bf;refine seq<|ifs<|cT<|c0 a p 1 d dv dx<|Y a p 1 d d<|DF a (bf _ (a.at 0 d)) λck m a=>c0 a p 1 d dv dx<|Y a p 0 d d<|i9 a (IsList.new (a.bc M bC D)) (by refine j al ?_;exact O1 bw) λay m a=>?_;refine j al<|qj (cn ?_);have aK:((ah.length:Int) !=(ah.length:Int))=false:=by simp
 refine j aK<|dw<|bv<|seq<|bN<|c6 a p 0 d vo vE<|jK (aN:=[y "share"]) (aX:=[y "len"]) _ d A.hm (by decide+kernel)<|Y a p 0 d d ?_;have bS:∀{o:x} {t:V},s.heap.get? o=some t->o≠bB:=λc o=>by have X:s.heap.get? bB=none:=(a.ld _ aG).2.2.new;rw[<-o,c] at X;exact iH X
 refine gP A.bd a (IsList.new (a.bc M bC D)) ⟨aM M,bC,by simpa using⟨bS M,aO M⟩,D⟩ λP m aB af a=>?_;have aF:∀{g:x} {t:V},s.heap.get? g=some t->g∉[P]:=λc o=>by have:=(af.own P aG).1.new;rw[<-List.mem_singleton.mp o] at this;exact cz ((show s.heap.get? _=none from this).symm.trans c)
 refine mX (aN:=[y "share"]) (aX:=[y "len"]) (λam an=>fy an P G aB _) A.bd a af d p (721,717) d .(1) _ d (by decide+kernel) (q:=2) (S:=9) (F:=λl ao=>∃u,ao=aj (oR ah l).length u) ?_ ?_
 ·intro a3 code g aI am l i I k a7 a9 H ac ag ap ai aq aP b;refine aE ?_;intro aa;(refine eJ (hk aq) λba bc K=>?_;obtain rfl:=K);refine aV λaA Q=>?_;(refine bp (aD.at (by simpa using ai)) λz ad K=>?_;obtain⟨bz,bA,bd,aJ,rfl,⟨ar,T⟩,as,au⟩:=K);all_goals refine Q ?_
  refine dF (cp (bx b H 1 d d ?_));intro k ae b;have ak:∀{g t},s.heap.get? g=some t->837<=g->k.heap.get? g=some t:=λc D=>ac _ b.bG _ _ (a.bc c bC D) D (aF c);refine c0 b H 0 d dv dx<|cq<|Y b H 1 d d<|v4 az b ag (ak ar T) (ak as au) T d λk b R=>ho b (by refine j cN (j (ab.len _ (cx ad)) ?_);exact kW bu) λay k b=>?_;exact aP _ _ _ _ ⟨ay,by refine j (DP ad) ?_;rfl⟩ (by rfl) (b)
 intro X m a av;refine Ce a d av A (by refine j al ?_;refine(?_:_<4096);exact zQ bw) (λl=>(((oR ah l).length:Nat):Int)) (λB E R aw=>aw) λbg cW m a aT=>?_;refine d8 a p 2 d d λm a=>?_;rw[al] at aT;have bT:∀B,B<ah.length->(((oR ah B).length:Nat):Int)=(v:Int):=λB ax=>by exact j (DP (da ax)) (j (ab.len _ (j9 ax)) d)
 have cm:fT (λl=>(((oR ah l).length:Nat):Int)) ah.length=1:=DJ _ (v:Int) _ bT ab.pos;rw[cm] at aT;refine seq<|ifs<|cT<|c0 a p 1 d dv dx<|Y a p 2 d d<|DF a (aT _ (a.at 0 d)) λck m a=>cg a λay m a=>qj (cn ?_);have aK:(((1:Nat):Int) !=(1:Int))=false:=rfl;refine j aK<|dw<|bv<|seq<|ifs<|cT<|cR a p .(0) d (a.at 2 d) bt<|Y a p 1 d d<|VA a (bf _ (a.at 1 d)) λm a=>cn ?_;have bh:seen (λl=>((fY ah l:Nat):Int)) ah.length (i:Int)=false:=V4 λB ax c=>by have:=(ab.lt _ (j9 ax)).2;rw[oT (da ax)] at c;exact this (Int.natCast_inj.mp c)
 refine j bh<|dw<|bv<|seq<|bN<|c0 a p 3 d vp v_sum<|jK (aN:=[y "share"]) (aX:=[y "LOG_TABLE"]) _ d A.hm (by decide+kernel)<|Y a p 0 d d ?_;have co:∀{o:x} {t:V},s.heap.get? o=some t->o≠bg:=λc o=>by have X:s.heap.get? bg=none:=(a.ld _ aG).2.2.new;rw[<-o,c] at X;exact iH X
 refine gP A.bd a (IsList.new (a.bc M bC D)) ⟨aM M,bC,by simpa using⟨co M,bS M,aO M⟩,D⟩ λP m aB af a=>?_;have aF:∀{g:x} {t:V},s.heap.get? g=some t->g∉[P]:=λc o=>by have:=(af.own P aG).1.new;rw[<-List.mem_singleton.mp o] at this;exact cz ((show s.heap.get? _=none from this).symm.trans c)
 refine mX (aN:=[y "share"]) (aX:=[y "LOG_TABLE"]) (λam an=>fy an P G aB _) A.bd a af d p (721,717) d .(1) _ d (by decide+kernel) (q:=2) (S:=9) (F:=λl ao=>∃u,ao=aj (fA (fY ah l^^^i)) u) ?_ ?_
 ·intro a3 code g aI am l bU I k a7 a9 H ac ag ap ai aq aL b;refine aE ?_;intro aa;(refine eJ (hk aq) λba bc K=>?_;obtain rfl:=K);refine aV λaA Q=>?_;(refine bp (aD.at (by simpa using ai)) λz ad K=>?_;obtain⟨bz,bA,bd,aJ,rfl,⟨ar,T⟩,as,au⟩:=K);all_goals refine Q ?_
  have aU:∀g∈[P],g∈[P,G]:=λg f=>by refine j (List.mem_singleton.mp f) ?_;exact .head _
  refine dF (cp (bx b H 1 d d ?_));intro k ae b;have ak:∀{g t},s.heap.get? g=some t->837<=g->k.heap.get? g=some t:=λc D=>ac _ b.bG _ _ (a.bc c bC D) D (aF c);refine dr<|aE ?_;intro aa;refine eA b H 0 d sb<|a2<|aE ?_;intro aa;refine cq<|Y b H 1 d d<|qC az b ag (ak ar T) (ak as au) T d λk b R=>ic b H d d (a.oC ac aU 2 d _ b.bG) bt<|m2 b λR k b=>sT b (oS (a1 ad) ab.DO) λay=>aL _ _ _ _ ⟨ay,by exact j (oT ad) d⟩ (by rfl) (b)
 intro X m a av;refine Cf a d av (A.mono .(1) .(1)) (λl=>((fA (fY ah l^^^i):Nat):Int)) (λB E aw=>aw) λbD m a=>j al<|j (wn ..)<|bx a p 3 d d ?_;intro m ae a;refine seq (bN ?_);refine c6 a p 4 d jF jN ?_;refine gu F.plainAttrs_set F.slot_set_pop F.type_set_pop<|Y a p 2 d d ?_;obtain⟨bV,bX,bY⟩:∃t,m.heap.get? bg=some t/\t.ExactSet:=by
  refine aV λaA Q=>gk (aT _ (a.at 0 d)) λt R R R c i R=>?_;all_goals refine Q ?_
  exact(bF (t) (c) (i))
 (refine(bO ((bF (bV) (bX) (bY.1))) (λX c=>by cases c;exact(bF (bV) (bX) (bY.2.1))) (?_)));refine VC a d 0 d (aT _ (a.at 0 d)) (E:=(v:Int)) (λl ap=>?_) λcr cX m a=>?_
 ·unfold seen at ap;refine bp (List.any_eq_true.mp ap) λaQ aS aI=>(of_decide_eq_true aI).symm.trans (bT aQ (List.mem_range.mp aS))
 refine VI a bu λbZ m a=>bx a p 4 d d ?_;intro m ae a;replace a:=a.cd (d6:=[(J+1,U 0),(J+2,U 1),(J+3,U 2)]) (.cons _ (.cons _ (.refl _)));refine seq<|gJ<|Y a p 0 d d<|gP A.bd a (IsList.new (a.bc M bC D)) ⟨aM M,bC,by simpa using aO M,D⟩ λbE m aB af a=>gK (fy A.bd bE G aB _) af (λl I cs=>∃aC aW os,I=[some (.ref G),some (.ref bB),some (.ref bg),some (aj (sumTo (λl=>fA (fY ah l^^^i)) ah.length) bD),some (a6 ((ah.take l).foldl (λZ z=>jm (im ah i z.1) z.2 Z) (he v 0)) aC)]/\cs=[(J+1,U 0),(J+2,aW),(J+3,os)]/\(∃bG,aW.data=.cell bG)/\∃bH,os.data=.cell bH) a (h5 (bZ) (U 1) (U 2) (rfl) (rfl) (⟨_,cb⟩) (⟨_,cc⟩)) ?_ ?_
 ·intro l E R R m cY ap ai ct br aP R a;refine aE ?_;intro aa;refine aV λaA Q=>kT ct λaC aW os K bi b0 b1=>?_;((refine bo b0 λbG cu=>?_;clear b0);(refine bo b1 λbH cv=>?_;clear b1));refine a.ef K bi ?_;intro ae a0 a;refine Q<|aV λaA Q=>?_;(refine bp (aD.at (by simpa using ai)) λz ad K=>?_;obtain⟨bz,bA,bd,aJ,rfl,⟨ar,T⟩,as,au⟩:=K);all_goals refine Q ?_
  have cZ:l<ah.length:=by refine be al ?_;exact ap
  have c2:=ab.len _ (cx ad);refine dF (cp (iL a p 2 d cv .(0) d λbI m bj a=>?_));replace a:N w h _ _ [(J+1,U 0),(J+2,aW),(J+3,bI)] m:=a;have aF:∀{g:x} {t:V},s.heap.get? g=some t->g∉[bE]:=λc o=>by have:=(af.own bE aG).1.new;rw[<-List.mem_singleton.mp o] at this;exact cz ((show s.heap.get? _=none from this).symm.trans c)
  refine seq<|bN<|aE ?_;intro aa;refine a2<|a2<|a2<|Y a p 3 d d<|dr<|eA a p 5 d sb<|a2<|cq<|cR a p .(0) d (a.at 2 d) bj<|qC az a A.mono (a.bc ar bC T) (a.bc as bC au) T d λm a R=>cR a p .(0) d (a.at 0 d) bt<|m2 a λR m a=>sT a (oS (a1 ad) ab.DO) λay=>mV a λcw m a=>c0 a p 3 d vp v_sum<|jK (aN:=[y "other"]) (aX:=[y "LOG_TABLE"]) _ d A.hm (by decide+kernel)<|Y a p 0 d d<|gP A.bd a (IsList.new (a.bc M bC D)) ⟨aM M,bC,by simpa using aO M,D⟩ λP m cy b3 a=>?_;have b4:∀{g:x} {t:V},s.heap.get? g=some t->g∉[P]:=λc o=>by have:=(b3.own P aG).1.new;rw[<-List.mem_singleton.mp o] at this;exact cz ((show s.heap.get? _=none from this).symm.trans c)
  refine mX (e:=br) (aN:=[y "other"]) (aX:=[y "LOG_TABLE"]) (λam an=>fy an P G cy _) A.bd a b3 d p (721,717) d .(1) _ d (by decide+kernel) (q:=2) (S:=9) (F:=λl ao=>∃u,ao=aj (fA (z.1^^^fY ah l)) u) ?_ ?_
  ·intro a3 code g aI am c3 bU I k a7 a9 H ac ag ap ai aq aL b;refine aE ?_;intro aa;(refine eJ (hk aq) λba bc K=>?_;obtain rfl:=K);refine aV λaA Q=>?_;(refine bp (aD.at (by simpa using ai)) λc4 b5 K=>?_;obtain⟨c5,c7,c8,c9,rfl,⟨cA,b6⟩,cB,cC⟩:=K);all_goals refine Q ?_
   have aU:∀g∈[P],g∈[P,G]:=λg f=>by refine j (List.mem_singleton.mp f) ?_;exact .head _
   refine dF (cp (bx b H 1 d d ?_));intro k ae b;have ak:∀{g t},s.heap.get? g=some t->837<=g->k.heap.get? g=some t:=λc D=>ac _ b.bG _ _ (a.bc c bC D) D (b4 c);refine dr<|aE ?_;intro aa;refine eA b H 0 d sb<|a2<|aE ?_;intro aa;refine cq (ic b H d d (a.oC ac aU 2 d _ b.bG) bj (qC az b ag (ak ar T) (ak as au) T d λa5 aY R=>?_));have b7:∀{g t},s.heap.get? g=some t->837<=g->a5.heap.get? g=some t:=λc D=>ac _ aY.bG _ _ (a.bc c bC D) D (b4 c);refine cq<|Y aY H 1 d d<|qC az aY ag (b7 cA b6) (b7 cB cC) b6 d λcD bl R=>m2 bl λR cD bl=>sT bl (oS (a1 ad) (a1 b5)) λay=>aL _ _ _ _ ⟨ay,by exact j (oT b5) d⟩ (by rfl) (bl)
  intro X m a av;refine Cf a d av (A.mono .(1) .(1)) (λl=>((fA (z.1^^^fY ah l):Nat):Int)) (λB E aw=>aw) λcE m a=>?_;have cF:ju (λl=>((fA (z.1^^^fY ah l):Nat):Int)) O.toArray.size=((sumTo (λl=>fA (z.1^^^fY ah l)) ah.length:Nat):Int):=by rw[al,wn]
  refine j cF<|mV a λdb m a=>cg a λdc m a=>se a .(1) λdd m a=>?_;have cG:Int.fmod ((((sumTo (λl=>fA (fY ah l^^^i)) ah.length:Nat):Int)-(fA (z.1^^^i):Nat))-(sumTo (λl=>fA (z.1^^^fY ah l)) ah.length:Nat)) 255=((im ah i z.1:Nat):Int):=by refine j (GD _ .(1)) ?_;unfold im;exact(pg (aaK _ .(1))).symm
  refine j cG<|iL a p 1 d cu .(0) d λb8 m b9 a=>?_;let a0:List (x×V):=[(J+1,U 0),(J+2,b8),(J+3,bI)];replace a:N w h _ _ a0 m:=a;refine seq<|bN<|aE ?_;intro aa;refine c6 a p 4 d jF jN<|jK (aN:=[y "share_val",y "intermediate_sum"]) (aX:=[y "EXP_TABLE",y "LOG_TABLE"]) _ d A.hm (by decide+kernel)<|c6 a p 6 d vq vF<|cq<|cR a p .(0) d (a.at 2 d) bj<|v4 az a A.mono (a.bc ar bC T) (a.bc as bC au) T d λm a T=>Y a p 4 d d ?_;generalize ca:(ah.take l).foldl (λZ z=>jm (im ah i z.1) z.2 Z) (he v 0)=Z at a⊢;refine Dc a A.bd λaZ bJ bm bn bq m bK cH a=>m0 a<|sn (e:=br) (aN:=[y "share_val",y "intermediate_sum"]) (aX:=[y "EXP_TABLE",y "LOG_TABLE"]) (λam an=>k8 (ig z.2 aJ) (ig Z aC) bK an) A.bd a cH d p (721,717) d .(1) _ d (by decide+kernel) (q:=0) (S:=0) (F:=λl ao=>∃u,ao=aj ((Z.getD l 0).toNat^^^iQ (im ah i z.1) (z.2.getD l 0)) u) ?_ ?_
  ·intro a3 code de aI am l bU I k a7 df a9 H ac ag ap ai aq aL cI b;refine aE ?_;intro aa;(refine iF (uY aq) λba bc dg K=>?_;obtain rfl:=K);refine aV λaA Q=>?_;obtain⟨dh,di,bi,rfl,cJ,cK,⟨bL,bG,aK,rfl⟩,⟨dj,bH,bh,rfl⟩⟩:=ai;all_goals refine Q ?_
   refine vV (W:=k8 (n:=am) (ig z.2 aJ) (ig Z aC) bK ag.bd) (ig z.2 aJ) (ig Z aC) bK b cI λdk b cL=>b.gl ?_;intro dl b;refine kr ag.bd b (du (_) (cL _ _ (λo=>cJ (by simp[o])) cK) (rfl) ⟨_,rfl⟩) λk b W=>cp (bx b H 1 d d ?_);intro k ae b;refine cp (bx b H 2 d d ?_);intro k ae b;refine a2<|Y b H 2 d d ?_;have aU:∀g∈[aZ,bm,bn,bq],g∈aZ::bJ::bm::bn::bq::([]++[]):=λg f=>(List.Sublist.cons_cons aZ (.cons bJ (ka _)):List.Sublist [aZ,bm,bn,bq] (aZ::bJ::bm::bn::bq::([]++[]))).subset f;refine ite<|cT<|Y b H 1 d d<|cg b λay k b=>qj (cn ?_);by_cases bM:bL=0
   ·subst bM;have:(((0:UInt8).toNat:Int) !=0)=false:=rfl;refine j this<|dw<|a8 0 b λbD k b=>DR b aK bh d λW W X b=>aL _ _ _ _ X (by rfl) b
   ·have:((bL.toNat:Int) !=0)=true:=by refine bne_iff_ne.mpr<|λc=>bM (UInt8.toNat_inj.mp (Int.natCast_inj.mp c))
    refine j this<|d2<|dr<|eA b H 0 d Re<|a2<|a2<|dr<|eA b H 1 d sb<|Y b H 1 d d<|sT b bL.toNat_lt λbD=>ic b H d d (a.oC ac aU 1 d _ b.bG.2) b9<|eZ b λcr k b=>a8 255 b λbZ k b=>fI b .(1) λcw k b=>VV b (eQ _ .(1)) λcE=>DR b aK bh (by unfold iQ;exact j (if_pos bM) d) λW W X b=>aL _ _ _ _ X (by rfl) b
  ·intro dm k b av;have cM:Z.length=v:=by refine be ca<|sW _ _ _ _ (λo cO=>ab.len o (mz cO)) (pC ..)
   refine Cd b d av (A.mono .(1) .(1)) (by refine j gG (j cM ?_);exact I6 bu) (λB=>(((Z.getD B 0).toNat^^^iQ (im ah i z.1) (z.2.getD B 0):Nat):Int)) (λB E W aw=>aw) (λB W=>?_) λcP a5 aY=>?_
   ·have:=oS (Z.getD B 0).toNat_lt (wh (im ah i z.1) (z.2.getD B 0));exact un this
   ·rw[Dd _ (λB=>(Z.getD B 0).toNat^^^iQ (im ah i z.1) (z.2.getD B 0)) (λB=>((Z.getD B 0).toNat^^^iQ (im ah i z.1) (z.2.getD B 0)).toUInt8) λB W=>?_]
    ·refine bx aY p 4 d d ?_;intro m ae a;refine bv (aP _ _ _ (h5 (cP) (b8) (bI) (?_) (rfl) (⟨_,b9⟩) (⟨_,bj⟩)) a);refine j (V5 _ _ ad) (j ca ?_);rfl
    ·have:=oS (Z.getD B 0).toNat_lt (wh (im ah i z.1) (z.2.getD B 0));refine(?_:_=(G4 _).toNat);refine j G5 ?_;exact I3 this
 ·intro W W m cQ a;refine aE ?_;intro aa;refine aV λaA Q=>kT cQ λaC aW os K bi W W=>?_;refine a.ef K bi ?_;intro ae a0 a;refine Q<|bv<|seq<|b2<|Y a p 4 d d<|j al<|j h3<|f aC m a.aS a.Z
theorem N.gT(a:N w h e I led s){d6:List (x×V)}(f:d6.Perm led):N w h e I d6 s:=⟨a.Z,a.aS,a.b4,a.ch,a.cE,λb c=>a.ld b (f.mem_iff.mp c),(f.map _).nodup_iff.mpr a.dE,a.bG,λd g=>let⟨i,j,k,l,m⟩:=a.b9 d g;⟨i,j,λn=>k ((f.map (·.1)).mem_iff.mp n),l,m⟩⟩
theorem Made.DS(a:N w h e I led s)(f:∀i aq k,N w h e I ((i,dA U aq O)::(aq,d0)::led) k->r (.ref i) k):Made w h U O s r:=λi aq k c d g j l m n o p=>by have q:=a.hq (a.call c d) j m o;refine f i aq k ?_;have b:=a.eC l n;refine q.m5 g ⟨b.own,b.fn,b.hd,?_⟩;rw[dC,dD,not_or];exact⟨p,b.led⟩
theorem fC(a:N w h e I led s){b:x}{J:V}(f:In led b J):ei e.aK.heap s.heap b J:=by refine ek (a.ld _ f) λd W c=>?_;exact(bO (d) (c.ge) (c.new))
theorem fc(a:N w h e I led s){b:x}{J:V}(f:In led b J):er s.heap b J:=by refine ek (a.ld _ f) λc W d=>?_;exact⟨c,d.ge⟩
noncomputable def io(a b:List UInt8):List UInt8:=(qu a b).take 4
theorem V6(l u:List UInt8):(qu l u).length=6:=rfl
theorem sY(A s:List UInt8):(io A s).length=4:=by rw[io,iC,V6];rfl
theorem DT(g:bb h)(L:aH w h s)(A:aR n 3 11){b c:List UInt8}(l:b.length+c.length<=1000)(f:∀u k,bP [] s k true->aH w h k->r (a6 (io b c) u) k):bk w n (.call (.ref 729) ⟨[a6 b u,a6 c S,.ref 807],[]⟩) (bW r) s:=by refine cZ (q:=2) (S:=8) (R8 g) Qz (.none true) L trivial A.mono ?_;intro o i p t v e a A;refine seq<|b2<|aE ?_;intro x;refine gr "bytes" _ FB.slot_bytes_getitem.lookup ?_;refine vT a e 2 d d QQ ?_;refine Y a e 0 d d<|Y a e 1 d d<|⟨a.Z.l,Ud g a.Z A.mono (MJ l) λy i m L=>?_⟩;replace a:=a.call m L;refine(?_:aa w _ _ _ _ _);refine dJ 4 _ a e 0 d r8<|lW a .none (.int _ _) (ey d) λz i a=>j ((l6 (qu b c) 4).1)<|f _ _ a.aS a.Z
def c8(hd:p)(b:Nat)(Q:List p):Prop:=Q.head?=some hd/\Q.length<=b
noncomputable def g8(be:List (Nat×List UInt8))(a b:List UInt8):List (Nat×List UInt8):=be++[(254,io a b++a),(255,b)]
structure wq(ac:Nat)(be:List (Nat×List UInt8)):Prop where
 fM:∀(m:Nat) (z:Nat×List UInt8),be[m]?=some z->z.1=m/\z.2.length=ac
noncomputable def jn(be:List (Nat×List UInt8))(b a:List UInt8)(A v:Nat):List (Nat×List UInt8):=be++(bH v).map λl=>(A+l,c1 (g8 be b a) a.length (A+l))
def jU(u v:Nat)(a:List UInt8)(ah:List (Nat×List UInt8)):Prop:=
 (u=1/\ah=(bH v).map λm=>(m,a))\/
 ∃be b,2<=u/\be.length=u-2/\wq a.length be/\b.length=a.length-4/\ah=jn be b a (u-2) (v-(u-2))
theorem DU{be:List (Nat×List UInt8)}{h e:List UInt8}{i A:Nat}(f:wq e.length be)(k:be.length=A)(o:A<=20)(p:A<=i)(l:i<254)(q:4<=e.length)(r:e.length<=1000)(bi:h.length=e.length-4):l7 (g8 be h e) e.length i:=by
 have m:∀(a:Nat) (d:Nat×List UInt8),be[a]?=some d->d.1=a:=λa d g=>(f.fM a d g).1;refine⟨by exact MK l,λd b=>?_,λd b=>?_,?_,r,by simp[g8],by simp[g8];exact ML k o⟩
 ·rcases List.mem_append.mp b with b|b
  ·refine bo (fr b) λa c=>?_;have:=m a d c;have:=(List.getElem?_eq_some_iff.mp c).1;exact JQ k p l (by assumption) this
  ·refine ed b ?_ ?_<;>simp<;>lia
 ·rcases List.mem_append.mp b with b|b
  ·refine bo (fr b) λa c=>?_;exact(f.fM a d c).2
  ·refine ed b ?_ ?_
   ·rw[dZ,sY,bi];exact yD q
   ·rfl
 ·have g:be.map (·.1)=bH be.length:=pi λa=>by
   refine j dR ?_;by_cases c:a<be.length
   ·refine j (da c) (j (nY c) ?_);simp[m a _ (da c)]
   ·(refine j (jy (lN c)) (j (jy (by simp;exact lN c)) ?_));rfl
  rw[g8,g3,g,List.nodup_append];refine(bO (Gy) (by simp) (λt s u n v=>?_));have:=List.mem_range.mp s;simp only[dC,iB,dD,eR,or_false] at n;rcases n with f|f<;>lia
theorem c8.mono{hd:p}{a:Nat}{Q:List p}(f:c8 hd b Q)(c:b<=a):c8 hd a Q:=⟨f.1,bZ f.2 c⟩
theorem c8.nf{hd:p}{Q:List p}(f:c8 hd b Q):c8 hd (b+1) (Q++[E]):=by
 refine⟨?_,by refine j dZ ?_;exact iv f.2⟩;cases Q with
 |nil=>exact cz f.1
 |cons a c=>exact f.1
theorem nm{aJ:x}{X:ih aJ ax aT}{ap a:List p->Prop}{f:au}(b:(cw X ap t).P f)(l:∀g,ap g->a g):(cw X a t).P f:=by(refine bE b λd c=>?_;clear b;(refine db c λe h i g=>?_;clear c));exact⟨d,e,h,i,l _ g⟩
theorem DW{aJ c:x}{X:ih aJ ax aT}{hd:p}{e:f5}{g:eK}{aO:p->H->Prop}(v:bb h)(a:N w h ⟨e,aK,cw X (c8 hd b),g⟩ I led s)(A:aR n 4 17)(i:jT s.heap c aJ aT)(y:b<1000)(z:2<=l)(B:l<=1000)(f:∀(G:List UInt8) u k,G.length=l->N w h ⟨e,aK,cw X (c8 hd (b+1)),g⟩ I led k->jT k.heap c aJ aT->aO (a6 G u) k):bk w n (.call (.ref c) ⟨[aj l S],[]⟩) (bW aO) s:=by have j:=a.b4;(refine bE (id j) λC m=>?_;(refine db m λL M D o=>?_;clear m));refine DN v a.Z A X i C D (by have:=o.2;exact KP y this) z B λG u O k E q F r t=>?_;have J:=i.aS (X:=X) j q;have K:=a.bare.en (k:=k) (q.p7 λW=>rfl) F (by have:(cw X (λW=>True)).P k.heap:=⟨r,_,_,t,trivial⟩;exact(cw X (λW=>True)).live _ this);exact f G u k E (K.jD (cw X (c8 hd (b+1))) d d ⟨r,_,_,t,o.nf⟩) J
theorem nn(i:bb h)(a:N w h e I led s)(A:aR n 3 12){b:List UInt8}(f:∀E d k,qH (In d) E (m,b)->N w h e I (d++led) k->r E k):bk w n (.call (.ref 565) ⟨[aj m u,a6 b S],[]⟩) (bW r) s:=UU i a.Z A (Made.DS a λg c k j=>f _ [(g,dA 565 c [aj m u,a6 b S]),(c,d0)] k ⟨g,c,u,S,rfl,.head _,.tail _ aG⟩ j)
theorem DX{C:al}{aJ:x}{J b:V}{d5:FuncData}(a:N w h e I led s)(l:e.l.bL)(m:e.D.kindOf C=some .cell)(p:some c=e.D.cells.lookup C)(o:s.heap.get? c=some b)(q:b.data=.cell (some (.ref aJ)))(hd:J.data=.func d5)(f:eM w n M D args (λar g=>g.heap.get? aJ=some J/\bk w n (.call (.ref aJ) ⟨ar,[]⟩) (bW r) g) s)(i:autoParam (args.all fH=true) b0)(bi:autoParam ((C==("__debug__":al))=false) Zzd)(t:autoParam (D=e.D) b0):
 aa w n (bA (.Call (.Name C z) args [] pos) D) r M s:=by
 refine⟨pl (aa.run (cR a l m p o q ?_ bi t))⟩;refine tF (P:=λf=>f.get? aJ=some J) (by refine j (iI i) ?_;rfl) (λf o=>?_) (jI i (f.mono λar g k=>⟨k.1,?_⟩))
 ·obtain⟨b,u,v,os⟩:=J;dsimp only at hd;subst hd;exact(bF (.frame) (.inl d) ((hI (part:=none) o).andThen .now))
 ·refine j (ix ..)<|k0 k.2
theorem DY(E:bb h)(L:aH w h s)(A:aR n 7 25){u:Nat}{o:List UInt8}{am aJ:x}{X:ih aJ ax aT}{hd:p}(aB:1<=u)(bt:u<=3)(P:u<=v)(bi:v<=16)(aq:6<=o.length)(Q:o.length<=100)(aC:jT s.heap am aJ aT)(T:(cw X (c8 hd b)).P s.heap)(g:b<900)(f:∀G O R ah k,bP [aJ,ax,aT] s k->aH w h k->(cw X (c8 hd (b+3))).P k.heap->ei s.heap k.heap G (a4 O R)->fB (ei s.heap k.heap) O ah->jU u v o ah->r (.ref G) k):
 bk w n (.call (.ref 734) ⟨[aj u aA,aj v bf,a6 o bh,.ref am,.ref 807],[]⟩) (bW r) s:=by
 refine mZ (C:=r5) (q:=7) (S:=25) (bQ:=[(y "threshold",aj u aA),(y "share_count",aj v bf),(y "shared_secret",a6 o bh),(y "random_bytes",.ref am),(y "hmac_sha256",.ref 807)]) (I:=[some (aj u aA),some (aj v bf),some (.ref 807),none,none,none,none,none,none]) [y "shared_secret",y "random_bytes"] (cw X (c8 hd b)) L T A (BF E) (λS=>by kernel_rfl) (λS=>by kernel_rfl) .(0) .(1) .(0) d d ?_;intro l m e aD b5 U ag c a1 a;have an:(m 0).data=.cell (some (a6 o bh)):=a1 0 _ d;have a3:(m 1).data=.cell (some (.ref am)):=a1 1 _ d;let ag:List (x×V):=[(l+1,m 0),(l+2,m 1)];replace a:N w h _ _ ag e:=a;replace A:aR (n.deeper (r5.D l (cl [y "shared_secret",y "random_bytes"] (l+1) []))) 6 22:=aR.deeper A _;refine aV λaF W=>?_;obtain⟨a5,b6,b7,b8,b9,ca,cb,cc,a7,cd,ce,cf,aI,aK,S⟩:=id aC;all_goals refine W ?_
 have a9:am∉[aJ,ax,aT]:=qI (X:=X) T aI (λS S ba=>nomatch aK.symm.trans ba);refine seq<|ifs<|cT<|Y a c 0 d d<|cg a λch e a=>oz<|cn<|dN (decide_eq_false (MM aB))<|bv<|seq<|ifs<|cT<|Y a c 0 d d<|Y a c 1 d d<|iJ<|cn<|dN (decide_eq_false (Lu P))<|bv<|seq<|ifs<|cT<|Y a c 1 d d<|dJ 16 _ a c 1 d vg<|iJ<|cn<|dN (decide_eq_false (MN bi))<|bv<|seq<|ifs<|cT<|Y a c 0 d d<|cg a λci e a=>qi (cn ?_);by_cases ar:u=1
 ·subst ar;refine fi (rfl)<|seq<|b2<|ie (aN:=[y "i"]) (aX:=[y "RawShare"]) _ d (by decide+kernel)<|c6 a c 2 d hN hQ<|Y a c 1 d d<|iK a λj S S S e a=>a.eL ?_;intro bu a;refine jM (v:=v) A.bd a (a.at 0 d) .(1) (y4 bi) od λas e ao a=>a.gl ?_;intro aL a;replace a:=a.cd (cJ _ _);refine jf (aN:=[y "i"]) (aX:=[y "RawShare"]) (hp A.bd as 0 1 v) (λS=>cw X (c8 hd b)) (λS=>rfl) a ao c _ (by decide+kernel) (ck (MO bi)) (λi O t=>fB (In t) O ((bH i).map λZ=>(Z,o))) trivial ?_ ?_
  ·intro bw i au O R t z bz e bA ai T H aD bB D aM ap a;obtain⟨bC,rfl⟩:=hj aM;(refine bo T λbc K=>?_;clear T;obtain rfl:=K);rw[show((0:Int)+(i:Nat)*1)=((i:Nat):Int) by exact pU];refine dF<|cp<|d8 a D 0 d d λe a=>b3 a D 0 d mS ni<|Y a D 0 d d<|cR a D .(0) d (a.bG.2.1.2 _ aG) an<|⟨a.Z.l,nn E a A.mono λau aO e aP a=>ap _ (aO++t) _ _ ?_ (by dsimp) (a.gT ?_)⟩
   ·rw[h1,g3];exact bT.dU (H.keep λb J g=>dt _ g) (bT.gO (aP.keep λb J g=>cU _ g))
   ·exact List.perm_middle.symm
  ·intro z O R t k H bd a;exact f z O R _ k a.aS a.Z (nm (X:=X) a.b4 λbD aa=>aa.mono rI) (fC a aG) (H.keep λb J g=>fC a (.tail _ (cU _ g))) (.inl ⟨rfl,rfl⟩)
 refine dN (beq_eq_false_iff_ne.mpr (MP ar))<|bv<|seq<|bN<|aE ?_;intro av;refine a2<|Y a c 0 d d<|a8 2 a λS e a=>jO a (zr aB ar) λbE e a=>bx a c 4 d d ?_;intro e U a;refine seq<|C2 (led:=[(l+1,m 0),(l+2,m 1)]) (aN:=[y "i"]) (aX:=[y "RawShare",y "len"]) a _ d d (by decide+kernel) c 5 d d<|aE ?_;intro av;refine c6 a c 2 d hN hQ<|Y a c 4 d d<|iK a λj S S S e a=>jM (v:=u-2) A.bd a (a.at 0 d) .(1) (IA P bi) MQ λas e ao a=>?_;replace a:=a.cd (cJ _ _);refine⟨as,_,_,_,_,_,hp A.bd as 0 1 (u-2),λi=>cw X (c8 hd (b+i)),_,λi O t=>∃be,fB (In t) O be/\be.length=i/\wq o.length be,λS=>rfl,a,ao,ck (Iy P bi),(du ([]) (trivial) (rfl) (⟨λZ bg B=>by trivial⟩)),?_,?_⟩
 ·intro bw i au O R t z bz e bA ai bj bl aD bB D aM ap a;refine aV λaF W=>?_;(refine bo bj λbc K=>?_;clear bj;obtain rfl:=K);(refine g4 bl λbe H ak aw=>?_;clear bl);refine W ?_;obtain⟨bC,rfl⟩:=hj aM;rw[show((0:Int)+(i:Nat)*1)=((i:Nat):Int) by exact pU];refine dF<|cp<|d8 a D 0 d d λe a=>b3 a D 0 d mS ni<|Y a D 0 d d<|DX (J:=a5) a D .(0) d (a.bG.2.1.2 _ (.tail _ aG)) a3 aK<|c0 a D 1 d dv dx<|cR a D .(0) d (a.bG.2.1.2 _ aG) an<|ho a (by simp;exact rM Q) λbG e a=>?_;rw[cN];refine⟨a.bc aI a9 a7,DW (X:=X) E a A.mono (aC.aS (X:=X) T a.aS) (Iq P bi g ai) (MR aq) (rJ Q) λab cj e bI a bJ=>a.gl ?_⟩;intro aL a;refine⟨a.Z.l,nn E a A.mono λau aO e aP a=>ap _ (aO++t) _ _ (du (be++[(i,ab)]) (bT.dU (H.keep λb J g=>dt _ g) (bT.gO (aP.keep λb J g=>cU _ g))) (by simp[ak]) (⟨λZ bg B=>?_⟩)) (by dsimp) (a.gT List.perm_middle.symm)⟩;by_cases aQ:Z<be.length
  ·rw[pD aQ] at B;exact aw.fM Z bg B
  ·rw[pE (lN aQ)] at B;have bm:Z-be.length=0:=by have:=(List.getElem?_eq_some_iff.mp B).1;simp at this;exact uk this
   rw[bm] at B;(obtain rfl:=dg B;clear B);exact⟨by refine(?_:i=Z);exact I0 ak aQ bm,bI⟩
 ·(intro z O R t e bn bd a;(refine g4 bn λbe H ak aw=>?_;clear bn));have cm:O.length=be.length:=H.len;have aS:∀{G:List (x×V)},(l+1,m 0)∈G++(t++[(l+1,m 0),(l+2,m 1)]):=dt _ (dt _ aG);have bK:∀{G:List (x×V)},(l+2,m 1)∈G++(t++[(l+1,m 0),(l+2,m 1)]):=dt _ (dt _ (.tail _ aG));let ag:List (x×V):=([(z,a4 O R)]++(t++[(l+1,m 0),(l+2,m 1)]));replace a:N w h _ _ ag e:=a;refine a.gl ?_;intro aL a;refine seq (bN ?_);refine aE ?_;intro av;refine DX (J:=a5) a c .(0) d (a.ld _ bK).1 a3 aK<|a2<|c0 a c 3 d dv dx<|cR a c .(0) d (a.ld _ aS).1 an<|ho a (by simp;exact rM Q) λbG e a=>?_;rw[cN];refine dJ 4 _ a c 4 d r8<|jO a (zs aq) λco e a=>⟨a.bc aI a9 a7,DW (X:=X) E a A.mono (aC.aS (X:=X) T a.aS) (Ir P bi g) (MS aq) (IF Q) λM bL e ay a bJ=>a.gl ?_⟩;intro aL a;refine bx a c 6 d d ?_;intro e U a;refine seq (bN ?_);refine b3 a c 5 d Bt A2 ?_;refine Y a c 6 d d<|cR a c .(0) d (a.ld _ aS).1 an<|Y a c 2 d d<|⟨a.Z.l,DT E a.Z A.mono (Iv Q ay) λbM e aW L=>?_⟩;replace a:=a.call aW L;refine bx a c 7 d d ?_;intro e U a;refine seq (bN ?_);refine aE ?_;intro av;refine a2<|Y a c 5 d d<|f7<|b3 a c 6 d mS ni<|dJ 254 _ a c 7 d Bj<|a2<|Y a c 7 d d<|Y a c 6 d d<|lX a (by simp[sY];exact Ix Q ay) λcq e a=>?_;rw[mu];refine⟨a.Z.l,nn E a A.mono λac aY e bR a=>b3 a c 6 d mS ni<|dJ 255 _ a c 8 d Bi<|cR a c .(0) d (a.ld _ (dt _ aS)).1 an<|⟨a.Z.l,nn E a A.mono λad aZ e bS a=>⟨ey d,?_⟩⟩⟩;replace a:=a.e8 [ac,ad];refine jL (O:=O) (aU:=[ac,ad]) a (a.ld (z,a4 O R) (.tail _ (dt _ (dt _ aG)))).1 (a.at 0 d) (ck (by simp;exact Iz P bi bd)) λab e a=>bx a c 8 d d ?_;intro e U a;obtain⟨F,al⟩:∃F,F=(ab,a4 (O++[ac,ad]))::(aZ++(aY++(t++[(l+1,m 0),(l+2,m 1)]))):=⟨_,rfl⟩;(have bU:fB (In F) (O++[ac,ad]) (g8 be M o):=bT.dU (H.keep λb J g=>by rw[al];simp[In,g]) (bO (bR.keep λb J g=>by rw[al];simp[In,g]) (bS.keep λb J g=>by rw[al];simp[In,g]) (trivial)));replace a:=a.cd (d6:=(ab,a4 (O++[ac,ad]))::(aZ++(aY++([(z,a4 O R)]++(t++[(l+1,m 0),(l+2,m 1)]))))) (.cons₂ _ (.cons _ (.refl _)));have bV:((z,a4 O R)::F).Perm ((ab,a4 (O++[ac,ad]))::(aZ++(aY++([(z,a4 O R)]++(t++[(l+1,m 0),(l+2,m 1)]))))):=by rw[al];refine(aaL _ _ _).trans<|.cons _<|(List.perm_middle.symm).trans<|.append_left _<|List.perm_middle.symm
  replace a:=a.gT bV;refine a.eL ?_;intro bu a;refine seq<|gJ<|c6 a c 2 d hN hQ<|Y a c 4 d d<|Y a c 1 d d<|Ck a λj T T T e a=>jM (v:=v-(u-2)) A.bd a (a.at 0 d) MT (y4 bi) (Ij P) λbX e ao a=>?_;replace a:=a.cd (cJ _ _);refine gK (hp A.bd bX ((u-2:Nat):Int) 1 (v-(u-2))) ao (λi I led=>∃aa aU ae af,I=[some (aj u aA),some (aj v bf),some (.ref 807),aa,some (aj (u-2) bE),some (.ref z),some (a6 M bL),some (a6 (io M o) bM),some (.ref ab)]/\led=(z,a4 aU ae)::(af++F)/\fB (In (af++F)) aU (jn be M o (u-2) i)) a (fR (none) (O) (R) ([]) (rfl) (rfl) (?_)) ?_ ?_
  ·refine(?_:fB _ O (be++(bH 0).map _));rw[List.range_zero,iB,nR];exact H.keep λb J g=>by rw[al];simp[In,g]
  ·intro i au T T e cr ai bp bY aD ap T a;refine aV λaF W=>?_;(refine bo bp λbc K=>?_;clear bp;obtain rfl:=K);refine gk bY λaa aU ae af K a0 az=>a.ef K a0 ?_;intro U ag a;refine W ?_;rw[show((u-2:Nat):Int)+(i:Nat)*1=((u-2+i:Nat):Int) by exact MU];refine dF (cp (bx a c 3 d d ?_));intro e U a;refine seq<|l5<|gu nT lE pv<|Y a c 5 d d ?_;have bq:=a.at 0 d;(refine(bO ((bF (_) (bq) (rfl))) (λba B=>by cases B;exact(bF (_) (bq) (rfl))) (?_)));refine b3 a c 6 d mS ni<|Y a c 3 d d<|b3 a c 9 d vn va<|Y a c 8 d d<|Y a c 3 d d ?_;have bZ:(ab,a4 (O++[ac,ad]))∈(z,a4 aU ae)::(af++F):=e3 _ (dt _ (by rw[al];exact .head _));have br:=a.ld _ bZ;refine⟨a.Z.l,wo E a.Z A.mono br.1 br.2.2.ge (bU.keep λb J g=>fc a (e3 _ (dt _ g))) (DU aw ak (ID bi ai) MV (IB bi ai) (zs aq) (rJ Q) ay) λcs e aW L=>?_⟩;replace a:=a.call aW L;refine⟨a.Z.l,nn E a A.mono λb0 bs e b1 a=>?_⟩;replace a:=a.gT (d6:=(z,a4 aU ae)::(bs++(af++F))) List.perm_middle.symm;refine oF a 0 d (by
    have:aU.length=u-2+i:=by rw[az.len];simp[jn,ak]
    rw[gG];exact IC bi ai this) λe a=>⟨rfl,?_⟩
   refine bv (ap _ _ _ (fR (_) (aU++[b0]) (ae+1) (bs++af) (rfl) (?_) (?_)) a)
   ·rw[lH];rfl
   ·have B:jn be M o (u-2) (i+1)=jn be M o (u-2) i++[(u-2+i,c1 (g8 be M o) o.length (u-2+i))]:=by simp[jn,h1]
    rw[B,lH];exact bT.dU (az.keep λb J g=>dt _ g) (bT.gO (b1.keep λb J g=>cU _ g))
  ·intro T T e b4 a;refine aE ?_;intro av;refine aV λaF W=>gk b4 λaa aU ae af K a0 az=>?_;refine a.ef K a0 ?_;intro U ag a;refine W<|bv<|seq<|b2<|Y a c 5 d d<|f z aU ae _ e a.aS a.Z (nm (X:=X) a.b4 λbD aa=>aa.mono (Jx bt)) (fC a aG) (az.keep λb J g=>fC a (.tail _ g)) (.inr (rs (be) (M) (zr aB ar) (ak) (aw) (ay) (rfl)))
abbrev V7(F:Nat->H->Prop)(v:Nat)(E:p)(s:H):Prop:=∃ai u,E=.str ai u/\v+ai.length<=100000/\F (v+ai.length) s
abbrev V8(r:p->H->Prop)(s:H):Prop:=∀i u,r (.str i u) s
noncomputable def FS(w:aD)(n:aQ)(M:p->H->Prop)(D:ao):Nat->List am->(H->Prop)->H->Prop
 |_,[],aO,s=>∀a,aO {s with toks:=a}
 |v,o::b,aO,s=>aa w n (bA o D) (V7 (λR=>FS w n M D R b aO) v) M s
theorem DZ:∀{cG:List am} {ga:al} {aO:H->Prop} {s:H},ga.length<=100000->FS w n M D ga.length cG aO s->(∀i u k,aO k->r (.str i u) k)->aL (aZ w) n (joinParts ga (evalEach cG D)) r M s
 |[],ga,aO,s,e,a,b=>joinParts_nil (b _ _ _ (a _)) (ck (zt e))
 |f::g,ga,aO,s,e,a,b=>by have m:evalEach (f::g) D=bA f D::evalEach g D:=rfl;refine j m<|joinParts_cons (cy (aa.run a) (λp q c=>?_) λW W i=>i);(refine kb c λh u o l c=>?_;refine j o ?_);have d:(ga++h).length=ga.length+h.length:=strLen_append _ _;refine⟨by refine j gG (j d ?_);exact MW l,DZ (by refine j d ?_;exact l) (by refine j d ?_;exact c) b⟩
theorem sZ{a b:am}{dd:List am}(f:FS w n M D 0 (a::b::dd) (V8 r) s):aa w n (bA (.JoinedStr (a::b::dd) pos) D) r M s:=⟨JoinedStr_many (DZ (cG:=a::b::dd) (ga:=xV) (e2 _) f λc d g e=>e c d)⟩
abbrev V9(w:aD)(n:aQ)(r M:p->H->Prop)(E:p)(s:H):Prop:=aa w n (Hb E xV) r M s
theorem oV(f:aa w n (bA value D) (V9 w n r M) M s):aa w n (bA (.FormattedValue value (-1) none pos) D) r M s:=⟨FormattedValue_plain (f.J λW W a=>a.run)⟩
theorem Wa:∀v:Nat,v<200->((toString (v:Int):String):al).length<=10:=by decide+kernel
theorem qJ(a:N w h e I led s)(bi:v<200)(f:∀ai u k,ai.length<=10->N w h e I led k->r (.str ai u) k):aa w n (Hb (.int (v:Int) u) xV) r M s:=⟨formatField_int_small (by have:(v:Int).natAbs=v:=aar v;refine j this<|cF (Nat.log2_le_self v) (by exact MX bi)) (f _ _ _ (Wa v bi) a.a3)⟩
theorem Wb(a:N w h e I led s)(b:i.length<=100000)(f:∀u k,N w h e I led k->r (.str i u) k):aa w n (Hb (.str i u) xV) r M s:=⟨formatField_str (λc d=>f _ _ a.a3) (ck (by exact zt b))⟩
theorem wr{C:bJ}{args:js}{bQ:List (al×p)}{r:p->H->Prop}{I:List (Option p)}{T:cm}(b:List al){g:List (Option p)}(af:dq)(L:aH w h s)(l:af.P s.heap){S:Nat}(A:aR n (q+1) (S+3))(o:n.frames=some aB)(F:ce w h C)(t:∀ac,cellsFrom (ac+1) (d1 C.a9).names []=cl b (ac+1) [])(u:∀doc,hE (C.d5 doc) args=pure bQ)(v:(b.all λi=>(d1 C.a9).names.lookup i==some .cell)=true)(y:b.Nodup)(z:(bQ.all λi=>C.names.contains i.1||b.contains i.1)=true)(B:C.names.map (λi=>bQ.reverse.lookup i)=I)(D:b.map (λi=>bQ.reverse.lookup i)=g)(f:∀(ac:x) (e:Nat->V) k,let c:aP:=⟨C.eg ac (cl b (ac+1) []),s,af,.none⟩;let j:Around:=n.deeper c.D;let G:List (Option p):=I;let J:List (x×V):=(bH b.length).map λm=>(ac+1+m,e m);let K:p->H->Prop:=gN w h T (c.D::aB) ac;c.l.bL->(∀(m:Nat) E,g[m]?=some E->(e m).data=.cell E)->N w h c G J k->aR j q S->
  aa w j (ej (fv C.a9) c.D) (ia r) K k):
 bk w n (.call (.ref C.fG) args) (fU r (fJ w h T aB)) s:=
 Cj b af L l A F t u v y z B D λac e k M O a=>⟨cy (f ac e k M O a (A.deeper _)).run (λW W i=>i) λP W i=>⟨CI (r:=λW Q=>fU r (fJ w h T aB) (.error P) Q) (lF o) d i λW R=>R⟩⟩
theorem D0(j:bb h)(L:aH w h s)(A:aR n 7 25){T:cm}{af:dq}(an:d3 w h T n aB af.ae s)(e:T.cls=.type "ValueError"/\T.B)(k:af.P s.heap){u v:Int}{co cW df:p}(l:u<1\/u>v\/v>16):
 bk w n (.call (.ref 734) ⟨[.int u aA,.int v bf,co,cW,df],[]⟩) (fU r (fJ w h T aB)) s:=by
 refine wr (C:=r5) (q:=6) (S:=22) (bQ:=[(y "threshold",.int u aA),(y "share_count",.int v bf),(y "shared_secret",co),(y "random_bytes",cW),(y "hmac_sha256",df)]) (I:=[some (.int u aA),some (.int v bf),some df,none,none,none,none,none,none]) [y "shared_secret",y "random_bytes"] af L k A an.ch (BF j) (λW=>by kernel_rfl) (λW=>by kernel_rfl) .(0) .(1) .(0) d d ?_;intro o t c x z B D E b F a A;refine seq<|ifs<|cT<|Y a b 0 d d<|cg a λG c a=>oz (cn ?_);by_cases f:u<1
 ·refine fi (decide_eq_true f)<|seq<|l3 nW nX a b A.bd 0 d kZ k3 an d e<|fj a λW c a=>⟨ey d,_,_,a⟩
 refine dN (decide_eq_false f)<|bv<|seq<|ifs<|cT<|Y a b 0 d d<|Y a b 1 d d<|iJ (cn ?_);by_cases g:u>v
 ·refine fi (decide_eq_true g)<|seq<|l3 nW nX a b A.bd 0 d kZ k3 an d e<|fj a λW c a=>⟨ey d,_,_,a⟩
 refine dN (decide_eq_false g)<|bv<|seq<|ifs<|cT<|Y a b 1 d d<|dJ 16 _ a b 1 d vg<|iJ (cn ?_);have m:v>((16:Nat):Int):=Ki l f g;refine fi (decide_eq_true m)<|seq<|l3 nW nX a b A.bd 0 d kZ k3 an d e<|sZ<|fj a λW c a=>(el (_) (_) (rfl) (b6 d)<|oV<|dJ 16 _ a b 1 d vg<|qJ a .(1) λH J c i a=>(el (_) (_) (rfl) (?_) (?_)))
 ·have:(et "The requested number of shares must not exceed ").length<=100:=b6 d;exact zM i this
 refine fj a λW c a=>(el (_) (_) (rfl) (?_) (λK M N=>?_))
 ·have:(et "The requested number of shares must not exceed ").length<=100:=b6 d;have:(et ".").length<=100:=b6 d;exact yM i (by assumption) this
 ·exact⟨ey d,_,_,a.a3⟩
def l8(u:Nat)(ah:List (Nat×List UInt8))(a:List UInt8):Prop:=(u=1/\∃i A,ah=(i,a)::A)\/(u≠1/\l7 ah a.length 255/\l7 ah a.length 254/\c1 ah a.length 255=a/\(c1 ah a.length 254).take 4=io ((c1 ah a.length 254).drop 4) a)
theorem D7(g:bb h)(L:aH w h s)(A:aR n 7 25){u:Nat}{e:List UInt8}(y:s.heap.get? G=some (a4 O R))(l:837<=G)(t:fB (er s.heap) O ah)(M:l8 u ah e)(z:e.length<=100)(f:∀u k,bP [] s k->aH w h k->r (a6 e u) k):bk w n (.call (.ref 741) ⟨[aj u aA,.ref G,.ref 807],[]⟩) (bW r) s:=by
 refine cZ (q:=6) (S:=22) (R9 g) QA .none L trivial A ?_;intro P c ae af v b a A;have E:∀{Q T c},N w h ⟨vb.eg P [],s,.none,.none⟩ Q T c->fB (er c.heap) O ah:=λa=>fB.keep (λU V (B:er s.heap U V)=>⟨a.bc B.1 bC B.2,B.2⟩) t;refine seq<|ifs<|cT<|Y a b 0 d d<|cg a λag c a=>qi (cn ?_);rcases M with m|m
 ·(refine bE m λo F=>?_;clear m;obtain rfl:=o;(refine eJ F λi ai o=>?_;clear F;obtain rfl:=o));refine fi (rfl)<|aE ?_;intro H;refine seq<|b2<|cq<|dr<|Y a b 1 d d<|cg a λI c a=>?_;cases O with
  |nil=>exact t.elim
  |cons ak al=>(refine bE t λo T=>?_;clear t;obtain⟨W,am,an,ao,rfl,C,J⟩:=o);refine f8 (i:=.ref W) (IsList.new (a.bc y bC l)) .(1) .(1) d<|v4 g a A.mono (a.bc C.1 bC C.2) (a.bc J.1 bC J.2) C.2 d λc a W=>f _ _ a.aS a.Z
 ·(refine dM m λX Z K ab ac=>?_;clear m);refine dN (beq_eq_false_iff_ne.mpr (MY X))<|bv<|seq (bN ?_);refine b3 a b 0 d vn va ?_;refine Y a b 1 d d<|dJ 255 _ a b 1 d Bi<|⟨a.Z.l,wo g a.Z A (a.bc y bC l) l (E a) Z λap c p L=>?_⟩;replace a:=a.call p L;refine j ab<|bx a b 3 d d ?_;intro c v a;refine seq (bN ?_);refine b3 a b 0 d vn va ?_;refine Y a b 1 d d<|dJ 254 _ a b 2 d Bj<|⟨a.Z.l,wo g a.Z A (a.bc y bC l) l (E a) K λaq c p L=>?_⟩;replace a:=a.call p L;have D:(c1 ah e.length 254).length=e.length:=sW _ _ _ _ K.len (pC ..);generalize c1 ah e.length 254=x at*;refine bx a b 4 d d ?_;intro c v a;refine seq<|bN<|aE ?_;intro H;refine gr "bytes" _ FB.slot_bytes_getitem.lookup<|Y a b 4 d d<|(?_:aa w _ _ _ _ _);refine dJ 4 _ a b 3 d r8<|lW a .none (.int _ _) (ck (by simp;exact uL z D)) λI c a=>j ((l6 x 4).1)<|bx a b 5 d d ?_;intro c v a;refine seq<|bN<|aE ?_;intro H;refine gr "bytes" _ FB.slot_bytes_getitem.lookup<|Y a b 4 d d<|(?_:aa w _ _ _ _ _);refine dJ 4 _ a b 3 d r8<|lW a (.int _ _) .none (ck (by simp;exact uL z D)) λI c a=>j ((l6 x 4).2)<|bx a b 6 d d ?_;intro c v a;refine seq<|ifs<|cT<|Y a b 5 d d ?_;refine b3 a b 4 d Bt A2<|Y a b 6 d d<|Y a b 3 d d<|Y a b 2 d d<|⟨a.Z.l,DT g a.Z A.mono (by simp;exact Iw z D) λar c p L=>?_⟩;replace a:=a.call p L;refine B4 (cn ?_);have ad:((x.take 4).toArray.toList !=(io (x.drop 4) e).toArray.toList)=false:=by refine be ac ?_;simp
  refine j ad<|dw<|bv<|seq<|b2<|Y a b 3 d d<|f _ _ a.aS a.Z
def lb(f:au)(u:x)(aM:Array p):Prop:=∃a v,f.get? u=some a/\a.data=.seq aM v
theorem lb.extBut{f:au}{u:x}(i:lb f u aM)(o:kL c f ag)(b:u≠c):lb ag u aM:=by(refine db i λa d e g=>?_;clear i);exact(eU (a) (d) (o u a b e) (g))
theorem Wc{it u:x}{aM}{i:p}{r:Option p->H->Prop}(c:tV s.heap it u m)(e:lb s.heap u aM)(f:aM[m]?=some i)(g:∀ag,tV ag it u (m+1)->hb it s.heap ag->r (some i) {s with heap:=ag}):
 aL (aZ w) n (gE (.ref it)) r M s:=by
 refine g4 (id c) λo b h a=>?_;(refine db e λq t k l=>?_;clear e);unfold gE;refine ab (nQ (mF (name:=et "__next__") c.typeIs xW
  (jx xW c.typeIs aaM ?_ (aaN _))))
 refine cA ?_;intro v;refine(?_:aL _ _ (j7 (.ref it) 0>>=_) _ _ s);refine ab (fE b a (x:=.ref u) d ?_);refine(?_:aL _ _ (if(e4 u==fD)=true then _ else _) _ _ s);refine j (if_neg (show¬((e4 u==fD)=true) from iY))<|(?_:aL _ _ (j7 (.ref it) 1>>=_) _ _ s);refine ab<|fE b a (x:=.int m 0) d<|(?_:aL _ _ (pB (.ref u)>>=_) _ _ s);refine ab (mA k l ?_);simp only[ft,f];refine ab (rc b a (rg [].length) (aI (bF (i) (rfl) (aI (g _ ?_ (kJ ..))))));(exact(du (_) (nI _ b (GL (rd a _))) ((aay ..).trans h) (by rw[rd a];rfl)))
theorem Wd{it u:x}{aM}{r:Option p->H->Prop}(g:n.handled=none)(c:tV s.heap it u m)(h:lb s.heap u aM)(i:aM[m]?=none)(k:∀ag,kL it s.heap ag->r none {s with heap:=ag}):aL (aZ w) n (gE (.ref it)) r M s:=by
 refine g4 (id c) λq e t f=>?_;(refine db h λv y l o=>?_;clear h);unfold gE;refine ab (nQ (mF (name:=et "__next__") c.typeIs xW
  (jx xW c.typeIs aaM ?_ (aaN _))))
 refine cA ?_;intro z;refine(?_:aL _ _ (j7 (.ref it) 0>>=_) _ _ s);refine ab (fE e f (x:=.ref u) d ?_);refine(?_:aL _ _ (if(e4 u==fD)=true then _ else _) _ _ s);refine j (if_neg (show¬((e4 u==fD)=true) from iY))<|(?_:aL _ _ (j7 (.ref it) 1>>=_) _ _ s);refine ab<|fE e f (x:=.int m 0) d<|(?_:aL _ _ (pB (.ref u)>>=_) _ _ s);refine ab (mA l o ?_);simp only[ft,i];refine ab<|kM<|ab<|rc e f (lG d)<|(?_:aL _ _ (ri (.type "StopIteration") []>>=_) _ _ _);refine ab ?_;simp only[ri,newTuple];refine ab (lB ?_ (by size_fits));refine ab (m:=rj _ _)<|c3 (a:=fD) (by first|rfl|(simp only[rj];rfl))<|lB ?_ (by size_fits);dsimp only[raiseNew];refine ab (G0 ?_);first|refine j (show n.in1.handled=none from g) ?_|rw[g]
 refine ab (aI (xE ?_));refine ab (xz (T:="StopIteration") (b:=true) (bF (_) (eX _ d) (rfl)) GZ ?_);exact aI (k _ (((kJ ..).extBut.push _).push _))
theorem D8{it u:x}(c:u≠it):∀(v m:Nat) (s:H) (r:List p->H->Prop),tV s.heap it u m->lb s.heap u aM->m+v<=aM.size->
 (∀ag,tV ag it u (m+v)->hb it s.heap ag->r ((aM.toList.drop m).take v) {s with heap:=ag})->aL (aZ w) n (draw (.ref it) v) r M s
 |0,m,s,r,a,_,_,b=>by refine(?_:aL _ _ (pure []) r M s);exact aI (by simpa using b s.heap a (xX ..))
 |v+1,m,s,r,a,d,e,b=>by
  have f:m<aM.size:=zu e;refine(?_:aL _ _ (gE (.ref it)>>=_) r M s);refine ab<|Wc a d (i:=aM[m]) (by simp[f]) λt h g=>ab (dH (D8 c v (m+1) _ _ h (d.extBut g.extBut c) (zO e) λk l o=>aI ?_));have q:aM.toList.drop m=aM[m]::aM.toList.drop (m+1):=by simp[Hc,f]
  have:=b k (by refine j (show m+(v+1)=m+1+v by exact pX) ?_;exact l) (g.trans o);rw[q,Hd] at this;exact this
theorem D9:dK (ak w h) (.ref 565) "__iter__"=some (some (.builtin "tuple.__iter__")):=by kernel_rfl
theorem We{i:x}{r:p->H->Prop}(X:(ak w h).In s.heap)(o:s.heap.get? i=some (dA U aq O))(q:fX (ak w h) U=true)(aW:dK (ak w h) (.ref U) "__iter__"=some (some (.builtin "tuple.__iter__")))(t:r (.ref s.heap.objs.size) {s with heap:=s.heap.push {cls:=.type "tuple_iterator",data:=.fields #[.ref i,.int 0 0]}}):aL (aZ w) n (hX (.ref i)) r M s:=by
 have g:c2 (aZ w) s.heap (hH (.ref i)) (.ref U):=(hI o).andThen .now;have k:c2 (aZ w) s.heap (px (.ref i) "__iter__") (some (.builtin "tuple.__iter__")):=g.andThen (mE X aW);have u:=ks (b8:=aZ w) X q;have v:c2 (aZ w) s.heap (j8 (.ref i) (.type "tuple")) true:=g.andThen u.sub;have y:aL (aZ w) n (call (.builtin "tuple.__iter__") [.ref i]) (λit a=>a.TypeIs it "tuple_iterator"/\r it a) M s:=by refine hY<|lC (by decide+kernel) PySem.F.entry_tuple_iter<|@pA (aZ w) _ _ s "tuple.__iter__" "tuple" "__iter__" (.ref i) [] [] _ (by decide+kernel) (by decide+kernel) v (PySem.F.args_tuple_iter_1 _)<|(?_:aL _ _ (do nM (<-newFields "tuple_iterator" [.ref i,eu 0])) _ _ s);exact ab (lB (aI ⟨(bF (_) (eX _ d) (rfl)),t⟩))
 unfold hX;refine ab<|k.here<|(?_:aL _ _ (aaO (.ref i) "__iter__" _>>=_) r M s);refine ab<|cA ?_;intro z;refine(?_:aL _ _ (holding _ (aaP _ _>>=_)) _ _ _);refine dH<|ab<|(?_:aL _ _ (px _ _>>=_) _ _ _);refine ab<|k.here<|cA ?_;intro z;have A:bindSpecial (.builtin "tuple.__iter__") (.ref i)=pure (.builtin "tuple.__iter__",[.ref i]):=PySem.F.slot_tuple_iter.bind _;refine ab (tG (wpAny_ite ?_));have l:∀{it a},a.TypeIs it "tuple_iterator"->r it a->aL (aZ w) n (do
  match<-px it "__next__" with
  |none=>do rule "iter.non-iterator";raiseError "TypeError" s!"iter() returned non-iterator of type '{← typeNameOf it}'"
  |some _=>pure it) r M a:=λb c=>ab (j4 b slot_tupleiter_next.lookup (aI c))
 have bv:∀{aO:Option p->H->Prop} {m:eF (Option p)},(∀it a,a.TypeIs it "tuple_iterator"->r it a->aO (some it) a)->aL (aZ w) n (if(mw "tuple.__iter__"==fD)=true then m else(call (.builtin "tuple.__iter__") [.ref i]>>=λf=>pure (some f))) aO M s:=λ{aO m} B=>by refine j (if_neg (by simp[builtin_beq_none]))<|ab (cy y (λf a e=>aI (B f a e.1 e.2)) λW W e=>e)
 split
 ·exact ab (j A (aI (aI (bv λit a b c=>l b c))))
 ·exact Gr (ab (j A (aI (aI (bv λit a b c=>l b c)))))
theorem Wf{i:x}{r:List p->H->Prop}(k:n.handled=none)(X:(ak w h).In s.heap)(a:s.heap.get? i=some (dA U aq O))(l:fX (ak w h) U=true)(aW:dK (ak w h) (.ref U) "__iter__"=some (some (.builtin "tuple.__iter__")))(m:∀ag,kL s.heap.objs.size s.heap ag->r O {s with heap:=ag}):aL (aZ w) n (xY (.ref i) O.length none) r M s:=by
 have b:i≠s.heap.objs.size:=g0 (cr a);have o:c2 (aZ w) s.heap (hH (.ref i)) (.ref U):=(hI a).andThen .now;have q:c2 (aZ w) s.heap (px (.ref i) "__iter__") (some (.builtin "tuple.__iter__")):=o.andThen (mE X aW);have C:lb s.heap i O.toArray:=(eU (_) (_) (a) (rfl));unfold xY;refine ab ?_
 ·unfold notIterableAtAll;refine ab<|q.here<|aI ?_;simp only[fO,if_false];refine ab<|dH<|We X a l aW<|ab (dH (D8 b O.length 0 _ _ (du (_) (eX _ d) (rfl) (rfl)) (eU (_) (_) (cM _ a) (rfl)) zL λt u c=>?_));have v:List.take O.length (List.drop 0 O.toArray.toList)=O:=h3;refine j v<|j (if_neg (dn O.length)) ?_;have y:lb t i O.toArray:=lb.extBut (eU (_) (_) (cM _ a) (rfl)) c.extBut b;refine ab (dH (Wd k u y (by simp) λz A=>?_));simp only[Option.isSome_none,fO,if_false];refine aI (m z λe f g B=>A e f g (c.extBut e f g (cM _ B)))
theorem Ea{g m:am}{i:x}{c b:p}{r:Unit->H->Prop}(y:n.handled=none)(a:N w h e I led s)(z:s.heap.get? i=some (dA U aq [c,b]))(A:fX (ak w h) U=true)(aW:dK (ak w h) (.ref U) "__iter__"=some (some (.builtin "tuple.__iter__")))(f:∀k,N w h e I led k->(∀t J,s.heap.get? t=some J->k.heap.get? t=some J)->aa w n (dX g D c) (λW v=>aa w n (dX m D b) r M v) M k)(B:autoParam (assignEach [g,m] D=[(false,dX g D),(false,dX m D)]) b0):
 aa w n (dX (.Tuple [g,m] l pos) D (.ref i)) r M s:=by
 refine⟨j (assign_Tuple ..)<|ab (lu ?_)⟩;unfold unpack;refine j B<|ab (dH (Wf (O:=[c,b]) y a.Z.l z A aW λq C=>?_));have u:∀t J,s.heap.get? t=some J->q.get? t=some J:=λt J o=>C t J (g0 (cr o)) o;have E:N w h e I led {s with heap:=q}:=a.step (F:=[]) (k:={s with heap:=q}) ⟨λt J W o=>u t J o,rfl,rfl,rfl⟩ (λW f=>nomatch f) (λf=>nomatch f) d (λG K=>u _ _ (a.ld G K).1) λW W f=>nomatch f;exact pz (aa.J (f _ E u) λW v i=>pz (aa.J i λW P L=>xO L))
noncomputable def gy(h0 c:au):eK:=⟨(bH c.objs.size).filter λb=>decide (837<=b)&&(h0.get? b).isNone&&(c.get? b).isSome,λe=>∀b a,h0.get? b=none->837<=b->c.get? b=some a->e.get? b=some a,λe ag l z b a f g d=>l b (List.mem_filter.mpr ⟨List.mem_range.mpr (cr d),by refine j f (j d ?_);simpa using g⟩) a (z b a f g d)⟩
theorem N.l9{q:dq}{i:List (Option p)}(hd:q.bare=e.af.bare)(a:N w h e I led s)(n:N w h (e.cO q) i led k):N w h ((e.cO q).push (gy s.heap k.heap)) i led k:=by
 refine n.hl (gy s.heap k.heap) (λd j W W b=>b) λd o=>?_;have f:=(List.mem_filter.mp o).2;simp only[eH,decide_eq_true_eq,aan] at f;(refine bE f λl r=>?_;clear f;(refine bE l λt g=>?_;clear l));refine bo (Option.isSome_iff_exists.mp r) λj u=>(cV (λc=>?_) (λc=>?_) (λc=>?_) (t) ⟨j,u⟩)
 ·refine f4 a.ch λm W W b W=>?_;have v:s.heap.get? d=some m:=c▸b;exact cz (g.symm.trans v)
 ·have x:d∈e.af.ae:=by refine be (k4 hd) ?_;exact c
  refine bo (e.af.live _ a.b4 d x) λm b=>cz (g.symm.trans b)
 ·refine bp (List.mem_map.mp c) λy z b=>?_;have:=(a.ld y z).1;rw[b,g] at this;exact cz this
theorem Wg{i:x}{O aU:Array p}(a:N w h e I led s)(U:n.handled=none)(y:s.heap.IsList ax O)(z:s.heap.IsList i aU)(fS:ax≠e.D.locals/\ax∉e.af.ae/\ax∉led.map (·.1)/\837<=ax)(gQ:i≠e.D.locals/\i∉e.af.ae/\i∉led.map (·.1)/\837<=i)(f:∀an cP cc ca cI k (V:ax≠ca) (W:i≠cI) (B:ko an cP cc ca cI [ax] [i]),d7 e [an,cc,ca,cI]->N w h (e.push (cs (k8 (w:=w) (kq V O) (kq W aU) B U) 0)) I led k->r (.ref an) k):aa w n (call (.type "zip") [.ref ax,.ref i]) r M s:=by
 refine⟨call_zip_2 y z λt J K L P Q ad A=>?_⟩;have X:N w h e I led {s with heap:=t}:=a.step (F:=[]) (k:={s with heap:=t}) ⟨λC g W c=>A C g c,rfl,rfl,rfl⟩ (λW f=>nomatch f) (λf=>nomatch f) d (λY Z=>A _ _ (a.ld Y Z).1) λW W f=>nomatch f;have u:ax<s.heap.objs.size:=by(refine bp y λg c W=>?_;clear y);exact cr c
 have v:i<s.heap.objs.size:=by(refine bp z λg c W=>?_;clear z);exact cr c
 have m:∀{b:x} {l:Nat},b<s.heap.objs.size->b≠s.heap.objs.size+l:=λf c=>by have:s.heap.objs.size+_<s.heap.objs.size:=c▸f;exact MZ this
 have B:ko (s.heap.objs.size+4) (s.heap.objs.size+2) (s.heap.objs.size+3) s.heap.objs.size (s.heap.objs.size+1) [ax] [i]:=by
  refine⟨(by simp<;>lia),λC D=>?_,λC D=>?_⟩
  ·refine j (List.mem_singleton.mp D) ?_;simp only[dD,eR,or_false,not_or];exact(dS (m u) (m u) (m (l:=0) u) (m u))
  ·refine j (List.mem_singleton.mp D) ?_;simp only[dD,eR,or_false,not_or];exact(dS (m v) (m v) (m (l:=0) v) (m v))
 have R:∀b,s.heap.objs.size<=b->Apart e led b:=λb o=>a.eC (xF o) (bZ a.Z.size o);refine bp (id P) λae ab af=>bp (id Q) λag ac ah=>?_;have E:t.IsList ax O:=y.at λg c=>A _ g c;have G:t.IsList i aU:=z.at λg c=>A _ g c;have S:∀b∈[s.heap.objs.size+4,s.heap.objs.size+2,s.heap.objs.size+3,s.heap.objs.size,s.heap.objs.size+1],s.heap.objs.size<=b/\∃g,t.get? b=some g:=λb o=>by
  refine ry o ?_ ?_ ?_ ?_ ?_
  ·exact⟨by exact zj,_,J⟩
  ·exact⟨by exact zk,_,K⟩
  ·exact⟨by exact rI,_,L⟩
  ·exact⟨by exact zl,_,ab⟩
  ·exact⟨by exact zm,_,ac⟩
 refine f _ _ _ _ _ _ (m (l:=0) u) (m v) B ⟨λb o=>?_⟩ (X.hl _ (n6 (.none) (false) (J) (.inl d) (K) ((h4 (_) (_) (L))) (⟨P,E⟩) (⟨Q,G⟩)) λb o=>?_)
 ·have q:=R b (S b (by simp only[dD,eR,or_false] at o⊢;rcases o with f|f|f|f<;>simp[f])).1;exact⟨q.own,q.hd⟩
 ·have H:b∈[s.heap.objs.size+4,s.heap.objs.size+2,s.heap.objs.size+3,s.heap.objs.size,s.heap.objs.size+1]\/b=ax\/b=i:=by simp only[dD,lD,eR,or_false] at o⊢;rcases o with f|f|f|f|f|f|f<;>simp[f]
  rcases H with H|rfl|rfl
  ·have T:=S b H;have q:=R b T.1;exact(cV (q.fn) (q.own.dc) (q.led) (q.own.ge) (T.2))
  ·(refine bp E λg c W=>?_;clear E);exact(cV (fS.1) (fS.2.1) (fS.2.2.1) (fS.2.2.2) ⟨g,c⟩)
  ·(refine bp G λg c W=>?_;clear G);exact(cV (gQ.1) (gQ.2.1) (gQ.2.2.1) (gQ.2.2.2) ⟨g,c⟩)
abbrev Wh(w:aD)(n:aQ)(o:am)(D:ao)(r M:p->H->Prop)(E:p)(s:H):Prop:=aa w n (ms E) (i3 (aa w n (bA o D) r M) (r E)) M s
theorem s0{a b:am}{dd:List am}(f:aa w n (bA a D) (Wh w n (.BoolOp .And (b::dd) pos) D r M) M s):aa w n (bA (.BoolOp .And (a::b::dd) pos) D) r M s:=⟨BoolOp_and (f.J λg h d=>d.J λe i c=>by cases e with|true=>exact aa.run c|false=>exact c)⟩
theorem Eb{op:BoolOp}{o:am}(f:aa w n (bA o D) r M s):aa w n (bA (.BoolOp op [o] pos) D) r M s:=⟨BoolOp_one f.run⟩
theorem oX{i:am}{dd:List am}{a:eF p}{r:Bool->H->Prop}(f:aa w n (hF i D (bA i D)) (i3 (aa w n (hF (.BoolOp .And dd pos) D a) r M) (r false)) M s):aa w n (hF (.BoolOp .And (i::dd) pos) D a) r M s:=⟨isTrue_and (f.J λc d b=>by cases c with|true=>exact aa.run b|false=>exact b)⟩
theorem Ec{a:eF p}{r:Bool->H->Prop}(f:r true s):aa w n (hF (.BoolOp .And [] pos) D a) r M s:=⟨isTrue_and_nil f⟩
theorem hz{i:am}{dd:List am}{a:eF p}{r:Bool->H->Prop}(f:aa w n (hF i D (bA i D)) (i3 (r true) (aa w n (hF (.BoolOp .Or dd pos) D a) r M)) M s):aa w n (hF (.BoolOp .Or (i::dd) pos) D a) r M s:=⟨wpAny_isTrue_BoolOp (wpAny_allTrue_Or_cons (f.J λc d b=>by cases c with|true=>exact b|false=>exact aa.run b))⟩
theorem no{a:eF p}{r:Bool->H->Prop}(f:r false s):aa w n (hF (.BoolOp .Or [] pos) D a) r M s:=⟨isTrue_or_nil f⟩
theorem Wi{bM:am}{ifs:List am}{aN aX:List al}(ba:List (al×x))(e:lv scope D=pure ba)(b:jR scope aN aX=true)(f:aa w n (bA iter D) (ov w n (oI w n D (.ListComp bM [⟨target,iter,ifs,0⟩] scope pos) scope ba r M) M) M s)(g:autoParam (∀i,q2 iter D i=pure i) Zzi):
 aa w n (bA (.ListComp bM [⟨target,iter,ifs,0⟩] scope pos) D) r M s:=by
 simp only[jR,eH,beq_iff_eq,hc,iw,decide_eq_true_eq,bne_iff_ne,pr] at b;refine aV λu h=>?_;(refine bE b λa k=>?_;clear b;(refine bE a λa v=>?_;(refine bE a λa y=>?_;obtain⟨⟨⟨l,z⟩,A⟩,B⟩:=a)));all_goals refine h ?_
 refine⟨j (eval_ListComp ..)<|CQ d g e l (λi m o=>(k i m).resolve_left λp=>p o) (cy f.run (λC E q=>cy q.run (λit F t=>t.run) λW W c=>c) λW W c=>c)⟩
theorem d7.dO{q:dq}{l:f5}(g:d7 e ae)(hd:q.bare=e.af.bare)(f:∀b∈ae,b≠e.D.locals/\b∉led.map (·.1)):d7 (dO (e.cO q) I led l) ae:=⟨λb d=>by
 have c:=g.own b d;refine⟨⟨c.1.new,c.1.ge,by refine(?_:b∉q.ae);refine j (k4 hd) ?_;exact c.1.dc⟩,λa=>?_⟩;rcases List.mem_append.mp a with a|a
 ·rcases List.mem_cons.mp a with a|a
  ·exact(f b d).1 a
  ·exact(f b d).2 a
 ·exact c.2 a⟩
def hA(av:x->V->Prop)(E:p)(z:Int×Int):Prop:=∃c u S,E=.ref c/\av c {cls:=.type "tuple",data:=.seq #[.int z.1 u,.int z.2 S]}
theorem hA.keep{z:Int×Int}(l:∀b J,av b J->bs b J)(i:hA av E z):hA bs E z:=by(refine f4 i λa c d e f=>?_;clear i);exact(hh (a) (c) (d) (e) (l _ _ f))
def gz(w:aD)(av:x->V->Prop)(E:p)(t:a7):Prop:=∃i aq bU,∃u:Nat->aF,E=.ref i/\av i (eT 450 aq)/\av aq (gS w bU (aj t.id (u 0)) (.bool t.ext) (aj t.o (u 2)) (aj t.bD (u 3)) (aj t.gt (u 4)) (aj t.bR (u 5)) (aj t.cB (u 6)) (aj t.mt (u 7)) (a6 t.E (u 8)))
theorem gz.keep{z:a7}(l:∀b J,av b J->bs b J)(i:gz w av E z):gz w bs E z:=by(refine gk i λa c d e f g h=>?_;clear i);exact(fR (a) (c) (d) (e) (f) (l _ _ g) (l _ _ h))
def ma{α:Type}(P:(x->V->Prop)->p->α->Prop)(av:x->V->Prop)(E:p)(ah:List α):Prop:=∃G O R,E=.ref G/\av G (a4 O R)/\bT (P av) O ah
theorem ma.keep{α:Type}{P:(x->V->Prop)->p->α->Prop}{ah:List α}(a:∀E z,P av E z->P bs E z)(l:∀b J,av b J->bs b J)(i:ma P av E ah):ma P bs E ah:=by(refine kc i λc d e f g h=>?_;clear i);exact(iZ (c) (d) (e) (f) (l _ _ g) (h.keep a))
structure lc where
 id:Nat
 ext:Bool
 o:Nat
 hi:List UInt8
def kv(w:aD)(av:x->V->Prop)(E:p)(t:lc):Prop:=∃i aq bU,∃u:Nat->aF,E=.ref i/\av i (eT 705 aq)/\av aq (nj w bU (aj t.id (u 0)) (.bool t.ext) (aj t.o (u 2)) (a6 t.hi (u 3)))
theorem kv.keep{z:lc}(l:∀b J,av b J->bs b J)(i:kv w av E z):kv w bs E z:=by(refine gk i λa c d e f g h=>?_;clear i);exact(fR (a) (c) (d) (e) (f) (l _ _ g) (l _ _ h))
section
variable{bU:List aF}{aY aC ci co:p}
theorem kx:dK (ak w h) (.ref 705) "__getattribute__"=some (some (.builtin "object.__getattribute__")):=by kernel_rfl
theorem Wj:dK (ak w h) (.ref 705) "__getattr__"=some none:=by kernel_rfl
theorem Ed:eS (ak w h) 705 (some (nj w bU aY aC ci co)) (y "identifier")=some (.value aY):=by kernel_rfl
theorem Ee:eS (ak w h) 705 (some (nj w bU aY aC ci co)) (y "extendable")=some (.value aC):=by kernel_rfl
theorem Ef:eS (ak w h) 705 (some (nj w bU aY aC ci co)) (y "iteration_exponent")=some (.value ci):=by kernel_rfl
theorem ws:eS (ak w h) 705 (some (nj w bU aY aC ci co)) (y "ciphertext")=some (.value co):=by kernel_rfl
end
theorem ky{f:au}{i:x}{J:V}(a:f.get? i=some (eT 705 aq))(b:f.get? aq=some J):iD f i (eT 705 aq) 705 (some J):=⟨a,rfl,rfl,b⟩
theorem Wk(i:bb h)(a:N w h e I led s)(A:aR n 2 8){t:a7}{u:Nat->aF}(f:∀E c k,gz w (In c) E t->N w h e I (c++led) k->r E k):bk w n (.call (.ref 450) ⟨[aj t.id (u 0),.bool t.ext,aj t.o (u 2),aj t.bD (u 3),aj t.gt (u 4),aj t.bR (u 5),aj t.cB (u 6),aj t.mt (u 7),a6 t.E (u 8)],[]⟩) (bW r) s:=Dv i a.Z A λd g j k l m o p q v x y z=>by have B:=a.hq (a.call l m) p v y;have b:=a.eC q x;have C:=B.m5 o ⟨b.own,b.fn,b.hd,by rw[dC,dD,not_or];exact⟨z,b.led⟩⟩;exact f _ [(d,_),(g,_)] k (fR (d) (g) (j) (u) (rfl) aG (.tail _ aG)) C
abbrev kz(f:au)(ae:List x)(b:x)(J:V):Prop:=f.get? b=some J/\837<=b/\b∉ae
theorem kz.bc{b:x}{J:V}(i:kz e.aK.heap e.af.ae b J)(a:N w h e I led s):kz s.heap e.af.ae b J:=⟨a.bc i.1 i.2.2 i.2.1,i.2.1,i.2.2⟩
noncomputable def qK(a:lc)(bD gt bR mt:Nat)(z:Nat×List UInt8):a7:=⟨a.id,a.ext,a.o,bD,gt,bR,z.1,mt,z.2⟩
def jo(z:Int×Int):Prop:=1<=z.1/\z.1<=z.2/\z.2<=16
def Eg(b:lc)(gt bR:Nat)(z:Int×Int)(a:Nat×List UInt8)(J:List a7):Prop:=∃bm,jU z.1.toNat z.2.toNat a.2 bm/\J=bm.map (qK b a.1 gt bR z.1.toNat)
structure lf(em:lc)(gt bR:Nat)(Q:List (Int×Int))(ah:List (Nat×List UInt8))(l:Nat)(bg:List (List a7)):Prop where
 len:bg.length=l
 fM:∀(m:Nat) z Eh J,Q[m]?=some z->ah[m]?=some Eh->bg[m]?=some J->Eg em gt bR z Eh J
theorem lf.nf{e:lc}{gt bR:Nat}{bg:List (List a7)}{z:Int×Int}{i:Nat×List UInt8}{J:List a7}(f:lf e gt bR Q ah l bg)(k:Q[l]?=some z)(m:ah[l]?=some i)(n:Eg e gt bR z i J):lf e gt bR Q ah (l+1) (bg++[J]):=by
 refine⟨by simp[f.len],λb p q r c d a=>?_⟩;by_cases g:b<l
 ·rw[pD (by refine j f.len ?_;exact g)] at a;exact f.fM b _ _ _ c d a
 ·rw[pE (by refine j f.len ?_;exact lN g)] at a;have h:b-bg.length=0:=by have:=(List.getElem?_eq_some_iff.mp a).1;simp at this;exact uk this
  rw[h] at a;have o:b=l:=by rw[f.len] at h;exact IZ g h
  subst o;rw[k] at c;rw[m] at d;(obtain rfl:=dg c;clear c);(obtain rfl:=dg d;clear d);(obtain rfl:=dg a;clear a);exact n
theorem gU{i:Nat}(f:∀z∈ah,z.2.length=v):(c1 ah v i).length=v:=sW _ _ _ _ f (pC ..)
theorem jU.val{u:Nat}{d:List UInt8}(f:jU u v d ah)(n:u<=20)(o:u<=v)(bi:v<=100)(p:4<=d.length)(q:d.length<=1000):ah.length=v/\∀(m:Nat) z,ah[m]?=some z->z.1=m/\z.2.length=d.length:=by
 refine aV λw k=>?_;rcases f with c|c
 ·(refine bE c λe r=>?_;clear c;refine j e ?_;obtain rfl:=r);refine k<|⟨by simp,λm z a=>?_⟩;rw[dR] at a;by_cases b:m<v
  ·rw[nY b] at a;(obtain rfl:=dg a;clear a);exact⟨rfl,rfl⟩
  ·rw[jy (by simpa using b)] at a;exact cz a
 ·(refine t5 c λbe x y g l s e=>?_;clear c;obtain rfl:=e);refine k<|⟨by simp[jn,g];exact HW o,λm z a=>?_⟩;unfold jn at a;by_cases b:m<be.length
  ·rw[pD b] at a;exact l.fM m z a
  ·rw[pE (lN b),dR] at a;by_cases h:m-be.length<v-(u-2)
   ·rw[nY h] at a;(obtain rfl:=dg a;clear a);refine⟨by refine(?_:u-2+(m-be.length)=m);exact IP g b,gU λz t=>?_⟩;exact(DU (i:=200) l g (IG n) (IE bi h) M0 p q s).len z t
   ·rw[jy (by simpa using h)] at a;exact cz a
theorem oY(a:N w h e I led s)(b:s.heap.IsList G aM)(bi:aM.size=v)(c:v<1000000)(f:∀u k,N w h e I led k->r (aj v u) k):aa w n (call (.builtin "len") [.ref G]) r M s:=by subst bi;exact i9 a b (M1 c) f
theorem qL{aO:Unit->H->Prop}(f:s.heap.IsListIter L G m)(a:aO () s):aa w n (gi (.Tuple bl l z) (.ref L) E) aO M s:=by
 (refine g4 f λd e b c=>?_;clear f);refine⟨?_⟩;cases E<;>try exact aI a
 unfold gi;refine ab (po e ?_);obtain⟨g,h,i,os⟩:=d;dsimp only at b c;subst b c;exact aI a
noncomputable def kA(Q:List (Int×Int))(l:Nat):Bool:=(Q[l]?.map λz=>decide (z.1=1)&&decide (z.2>1)).getD false
theorem Wl(f:∀z∈Q,¬(z.1=1/\z.2>1))(v:Nat):(bH v).any (kA Q)=false:=by
 refine List.any_eq_false.mpr ?_;intro a W;unfold kA;cases b:Q[a]? with
 |none=>simp
 |some z=>have:=f z (cx b);simp only[G8,He,eH,decide_eq_true_eq];exact this
def np(v:Nat)(gt:Int)(Q:List (Int×Int)):Prop:=v<16\/gt<1\/gt>Q.length\/Q.length>16\/∃z∈Q,¬jo z\/(z.1=1/\z.2>1)
theorem np.z1{gt:Int}(f:¬np v gt Q):16<=v/\1<=gt/\gt<=Q.length/\¬Q.length>16/\∀z∈Q,jo z/\¬(z.1=1/\z.2>1):=(not_or.mp f).imp xe λf=>(not_or.mp f).imp Int.not_lt.mp λf=>(not_or.mp f).imp Int.not_lt.mp λf=>(not_or.mp f).imp id λf z b=>⟨Classical.byContradiction λa=>f ⟨z,b,.inl a⟩,λa=>f ⟨z,b,.inr a⟩⟩
theorem km.push{T:cm}{G:List ao}{i:eK}(an:km w h e T n G):km w h (e.push i) T n G:=λb c d f g a=>an b c d f g a.drop
theorem km.cO{T:cm}{G:List ao}{q:dq}(an:km w h e T n G)(hd:q.bare=e.af.bare):km w h (e.cO q) T n G:=λb c d f g a=>by have:=an b c d f (g.trans hd) a;have i:(e.cO q).af.ae=e.af.ae:=k4 hd;refine j i ?_;exact this
theorem Wm{z:Int×Int}(b:z∈Q)(f:z.1=1/\z.2>1):(bH Q.length).any (kA Q)=true:=by refine bo (fr b) λc a=>?_;refine List.any_eq_true.mpr (bF (c) (List.mem_range.mpr (List.getElem?_eq_some_iff.mp a).1) (?_));rw[kA,a];simp[f.1,f.2]
theorem Wn{α:Type}(c b q o:α)(X a:List α):(c::b::q::(o::(X++a))).Perm (o::(X++(c::b::q::a))):=by
 classical
 exact List.perm_iff_count.mpr λd=>by simp only[tW,tX];omega
set_option maxHeartbeats 1000000 in
theorem Wo(ap:bb h)(L:aH w h s)(A:aR n 12 40){gt:Int}{ae:lc}{ac:x}{ag:List p}{cd:p}{bj aJ:x}{X:ih aJ ax aT}{hd:p}{T:cm}(au:d3 w h T n aB [aJ,ax,aT] s)(aO:T.cls=.type "ValueError")(P:kz s.heap [aJ,ax,aT] ac (a4 ag R))(bU:bT (hA (kz s.heap [aJ,ax,aT])) ag Q)(ce:kv w (kz s.heap [aJ,ax,aT]) cd ae)(aP:ae.hi.length<=32)(bl:Q.length<=3\/(Q.length>16/\Q.length<100))(dd:∀z∈Q,z.1<=3)(aQ:np ae.hi.length gt Q->T.B)(cf:jT s.heap bj aJ aT)(aS:(cw X (c8 hd b)).P s.heap)(D:b<100)(f:∀E k ah bg,¬np ae.hi.length gt Q->bP [aJ,ax,aT] s k->aH w h k->(cw X (c8 hd (b+20))).P k.heap->jU gt.toNat Q.length ae.hi ah->lf ae gt.toNat Q.length Q ah Q.length bg->ma (λav=>ma (gz w) av) (ei s.heap k.heap) E bg->r E k):
 bk w n (.call (.ref 753) ⟨[.int gt aA,.ref ac,cd,.ref bj,.ref 807],[]⟩) (fU r (fJ w h T aB)) s:=by
 refine gk ce λeh ej em ch o aa ab=>j o ?_;clear ce o;refine wr (C:=A6) (q:=11) (S:=37) (bQ:=[(y "group_threshold",(.int gt aA)),(y "groups",.ref ac),(y "encrypted_master_secret",.ref eh),(y "random_bytes",.ref bj),(y "hmac_sha256",.ref 807)]) (I:=[none]) [y "group_threshold",y "groups",y "encrypted_master_secret",y "random_bytes",y "hmac_sha256"] (cw X (c8 hd b)) L aS A au.ch (Sb ap) (λR=>by kernel_rfl) (λR=>by kernel_rfl) .(0) .(1) .(0) d d ?_;intro i J l aU en bm bn de g aW a A;have aY:(J 0).data=.cell (some ((.int gt aA))):=aW 0 _ d;have aZ:(J 1).data=.cell (some (.ref ac)):=aW 1 _ d;have a0:(J 2).data=.cell (some (.ref eh)):=aW 2 _ d;have ci:(J 3).data=.cell (some (.ref bj)):=aW 3 _ d;have cj:(J 4).data=.cell (some (.ref 807)):=aW 4 _ d;let bn:List (x×V):=[(i+1,J 0),(i+2,J 1),(i+3,J 2),(i+4,J 3),(i+5,J 4)];replace a:N w h _ _ bn l:=a;have cl:=au.CN (e:=aU) g d;have aw:ag.length=Q.length:=bU.len;refine seq (doc ?_);replace a:=a.a3 (u:=l.toks+1);refine seq<|ifs<|cT<|aE ?_;intro ak;refine a2 ?_;refine c0 a g 0 d dv dx ?_;refine cq<|cR a g .(0) d (a.at 2 d) a0<|ii a (ky (aa.bc a).1 (ab.bc a).1) kx ws d λl a=>ho a (by simp;exact y5 aP) λdf l a=>j cN<|a8 8 a λdh l a=>hr a .(1) λdi l a=>dJ 128 _ a g 1 d Bh<|oz (cn ?_);by_cases al:ae.hi.length<16
 ·refine fi (decide_eq_true (Ko al))<|seq<|l3 nW nX a g A.bd 2 d kZ k3 au d ⟨aO,aQ (.inl al)⟩<|sZ<|fj a λR l a=>(el (_) (_) (rfl) (b6 d)<|oV<|b3 a g 3 d sa r2<|eA a g 1 d Bh<|⟨a.Z.l,su ap a.Z A.mono .(1) .(1) λdj l aq L=>?_⟩);replace a:=a.call aq L;refine qJ (v:=16) a .(1) λbq dh l co a=>(el (_) (_) (rfl) (?_) (?_))
  ·have:(et "The length of the master secret must be at least ").length<=100:=b6 d;exact zM co this
  refine fj a λR l a=>(el (_) (_) (rfl) (?_) (λeo m di=>?_))
  ·have:(et "The length of the master secret must be at least ").length<=100:=b6 d;have:(et " bytes.").length<=100:=b6 d;exact yM co (by assumption) this
  ·exact⟨ey d,_,_,a.a3⟩
 refine dN (decide_eq_false (OX al))<|bv<|seq<|ifs<|cT<|cR a g .(0) d (a.at 0 d) aY<|c0 a g 0 d dv dx<|cR a g .(0) d (a.at 1 d) aZ<|i9 a (IsList.new (P.bc a).1) (by simp;exact yR bl aw) λdj l a=>j cN<|j aw<|iJ (cn ?_);by_cases a1:gt>(Q.length:Int)
 ·refine fi (decide_eq_true a1)<|seq<|l3 nW nX a g A.bd 2 d kZ k3 au d ⟨aO,aQ (.inr (.inr (.inl a1)))⟩<|fj a λR l a=>⟨ey d,_,_,a⟩
 refine dN (decide_eq_false a1)<|bv ?_;have dk:∀{t:x} {B:V},s.heap.get? t=some B->t≠i:=a.kY;have dl:∀{t:x} {B:V},s.heap.get? t=some B->t≠i+1/\t≠i+2/\t≠i+3/\t≠i+4/\t≠i+5:=λ{t B} br=>by
  have a3:∀z∈[(i+1,J 0),(i+2,J 1),(i+3,J 2),(i+4,J 3),(i+5,J 4)],t≠z.1:=λz H f=>by have am:s.heap.get? z.1=none:=(a.ld z H).2.2.new;rw[<-f,br] at am;exact iH am
  exact(cV (a3 _ aG) (a3 _ (.tail _ aG)) (a3 _ (.tail _ (.tail _ aG))) (a3 _ (.tail _ (.tail _ (.tail _ aG)))) (a3 _ (.tail _ (.tail _ (.tail _ (.tail _ aG))))))
 have cr:ac≠i/\ac∉[aJ,ax,aT]/\ac∉[i+1,i+2,i+3,i+4,i+5]/\837<=ac:=⟨dk P.1,P.2.2,by simpa using dl P.1,P.2.1⟩;refine seq<|ifs<|gq<|aE ?_;intro ak;refine c0 a g 4 d Ro v_any<|jK (aN:=[y "member_threshold",y "member_count"]) (aX:=[]) _ d A.hm (by decide+kernel)<|cR a g .(0) d (a.at 1 d) aZ<|gP A.bd a (IsList.new (P.bc a).1) cr λa6 l dm cs a=>?_;have dn:∀{b:x} {B:V},s.heap.get? b=some B->b∉[a6]:=λbr t=>by have:=(cs.own a6 aG).1.new;rw[<-List.mem_singleton.mp t] at this;exact cz ((show s.heap.get? _=none from this).symm.trans br)
 refine sn (aN:=[y "member_threshold",y "member_count"]) (aX:=[]) (λdp dq=>fy dq a6 ac dm _) A.bd a cs d g (752,750) d .(1) _ d (by decide+kernel) (q:=0) (S:=0) (F:=λK dr=>dr=.bool (kA Q K)) ?_ ?_
 ·intro ad code ep eq dp K m I k ds dy er M dz dA ct aS dB bs es O;refine aE ?_;intro ak;(refine iF (uY dB) λdC dD eu o=>?_;obtain rfl:=o);refine aV λev dE=>?_;(refine bp (bU.at (by simpa using aS)) λz H o=>?_;obtain⟨am,u,S,rfl,ay⟩:=o);all_goals refine dE ?_
  refine qL (G:=ac) O.bG.1.1<|kr dA.bd O (du (_) (dz _ O.bG.2 _ _ (ay.bc a).1 ay.2.1 (dn ay.1)) (rfl) ⟨_,rfl⟩) λk O V=>cp (bx O M 1 d d ?_);intro k bm O;refine cp (bx O M 2 d d ?_);intro k bm O;refine s0<|lT<|Y O M 1 d d<|cg O λew k O=>qi (cn ?_);by_cases an:z.1=1
  ·refine fi (beq_iff_eq.mpr an)<|Eb<|lT<|Y O M 2 d d<|cg O λdf k O=>iJ (bs _ _ _ _ ?_ (by rfl) O);refine(?_:_=rh (kA _ _));rw[kA,H];simp[an]
  ·refine dN (beq_eq_false_iff_ne.mpr an)<|bs _ _ _ _ ?_ (by rfl) O;refine(?_:_=rh (kA _ _));rw[kA,H];simp[an]
 intro am l a cu;refine Tl a d cu (A.mono .(1) .(1)) (kA Q) (λZ E dF=>dF) λl a=>j (show ag.toArray.size=Q.length by assumption)<|cn ?_;by_cases bt:∃z∈Q,z.1=1/\z.2>1
 ·(refine bp bt λz H cv=>?_;clear bt);refine j (Wm H cv)<|d2<|seq<|l3 nW nX a g A.bd 2 d kZ k3 au d ⟨aO,aQ (.inr (.inr (.inr (.inr ⟨z,H,.inr cv⟩))))⟩<|fj a λV l a=>⟨ey d,_,_,a⟩
 rw[Wl λz H t=>bt ⟨z,H,t⟩];refine dw<|bv<|seq<|bN<|aE ?_;intro ak;refine m8 a g 5 d Bu A3<|cR a g .(0) d (a.at 0 d) aY<|c0 a g 0 d dv dx<|cR a g .(0) d (a.at 1 d) aZ<|i9 a (IsList.new (P.bc a).1) (by simp;exact yR bl aw) λex l a=>j cN<|j aw<|cq<|cR a g .(0) d (a.at 2 d) a0<|ii a (ky (aa.bc a).1 (ab.bc a).1) kx ws d λdG a=>cR a g .(0) d (a.at 3 d) ci<|cR a g .(0) d (a.at 4 d) cj ?_;by_cases az:gt<1\/Q.length>16
 ·exact⟨a.Z.l,(D0 (af:=cw X (c8 hd b)) ap a.Z A.mono (cl _ _ _ _ d a) ⟨aO,aQ (.inr (az.elim .inl λt=>.inr (.inr (.inl t))))⟩ a.b4 (J8 az)).ga⟩
 have bu:gt=((gt.toNat:Nat):Int):=(pg (J7 az)).symm;have aY:(J 0).data=.cell (some (aj gt.toNat aA)):=aY.trans (congrArg (λm=>Data.cell (some (gF m aA))) bu);have ai:¬(((gt.toNat:Nat):Int)<1\/Q.length>16):=bu▸az;have bw:¬((gt.toNat:Nat):Int)>(Q.length:Int):=bu▸a1;refine⟨a.Z.l,j bu (DY (X:=X) ap a.Z A.mono (u:=gt.toNat) (J6 ai) (Kh bl bw ai) (zv bw) (M2 ai) (M3 al) (uD aP) (cf.aS (X:=X) aS a.aS) a.b4 (Lw D) λez aC eB ah dH aq a9 ba bz cy cA=>?_).ex⟩;have bV:=a.eC bz.2.2 bz.2.1;have cB:=(a.jD (cw X (c8 hd (b+3))) d d (nm (X:=X) a.b4 λaD m=>m.mono rI)).en aq a9 ba;replace a:=N.l9 (q:=cw X (c8 hd (b+3))) d a cB;have cC:=(cA.val (Ky bw ai) (zv bw) (M4 ai) (Pa al) (oc aP));have dI:aC.length=Q.length:=j cy.len (j cC.1 d);clear cB aq a9 ba cu;refine a.gl ?_;clear a;intro dK a;refine bx a g 0 d d ?_;intro l bm a;refine seq<|b2<|aE ?_;intro ak;refine Wi (aN:=[y "member_count",y "group_secret"]) (aX:=[y "_split_secret"]) _ d (by decide+kernel)<|aE ?_;intro ak;refine c6 a g 6 d vq vF<|cR a g .(0) d (a.at 1 d) aZ<|Y a g 0 d d ?_;have dL:∀{I dM l},N w h dK I dM l->∀b B,ei dG.heap dH.heap b B->l.heap.get? b=some B:=λa b B aD=>a.bG.1 b B aD.2.2 aD.2.1 aD.1;refine Wg a A.bd (IsList.new (a.bc P.1 P.2.2 P.2.1)) (IsList.new (dL a _ _ bz)) cr (dS (bV.fn) (bV.own.dc) (bV.led) (bz.2.1)) λdO eC dP dQ dR l bA bB bC cD a=>m0 a ?_;have bD:min ag.toArray.size aC.toArray.size=Q.length:=yZ aw dI;have dT:∀b∈[dO,dP,dQ,dR],b≠i/\b∉bn.map (·.1):=λb D=>by have bq:=a.b9 b (cU _ ((k8 (w:=w) (kq bA ag.toArray) (kq bB aC.toArray) bC A.bd).W.sub b D));exact⟨bq.1,bq.2.2.1⟩
 refine T6 (T:=T) (hR:=aU.D) (aB:=aB) (k6:=i) ((cl.cO (q:=cw X (c8 hd (b+3))) d).push) (lF au.ch) d d (aN:=[y "member_count",y "group_secret"]) (aX:=[y "_split_secret"]) (k8 (kq bA ag.toArray) (kq bB aC.toArray) bC A.bd) (λK=>cw X (c8 hd (b+3+3*K))) (λT=>rfl) a cD g _ [y "member_threshold",y "group_index"] (by decide+kernel) (λT T=>rfl) .(1) (ck (by refine j bD ?_;exact OU ai))
  (λad K bc ar=>∃bE bG aF bg,ar=(ad+1,bE)::(ad+2,bG)::aF/\(∃E,bE.data=.cell E)/\(∃E,bG.data=.cell E)/\bT (ma (gz w) (In aF)) bc bg/\lf ae gt.toNat Q.length Q ah K bg/\∀Z z,Z<K->Q[Z]?=some z->jo z) (λad cE cF=>⟨cE 0,cE 1,[],[],rfl,⟨_,cF 0 .(1)⟩,⟨_,cF 1 .(1)⟩,trivial,⟨rfl,λZ z bW B T T br=>by trivial⟩,λZ z f=>absurd f (tY _)⟩) ?_ ?_
 ·intro ad K E bc bX T am eD l ds eE dy dU ct cG cH aU dV de M cI bs a;refine t6 cG λeF m bq o cJ cK cL cM=>j o<|yj cH λbE bG aF bg cO bY bZ b0 bH bI=>eJ (hk cI) λdC dD cP=>a.ef cP (congrArg (List.cons _) cO) ?_;clear a cG cH o cO cP;intro cQ dW a;refine bo bY λeG bY=>bo bZ λdX bZ=>?_;have dY:K<Q.length:=be bD ct;refine bp (bU.at (by simpa using cL)) λz H bJ=>f4 bJ λeH b1 eI bJ b4=>bp (cy.at (by simpa using cM)) λbW cS bK=>gk bK λeK eL dZ eM bK b5 eN=>?_;have cW:=dd z (cx H);have bL:=cC.2 K bW cS;refine vV (W:=k8 (kq bA ag.toArray) (kq bB aC.toArray) bC A.bd) (kq bA ag.toArray) (kq bB aC.toArray) bC a (cD.dO d dT) λeO a cX=>?_;replace a:N w h aU cQ dW _:=a;refine kr A.bd a (du (_) (cX _ _ (λt=>cJ (by simp[t])) cK) (rfl) ⟨_,rfl⟩) λa5 a W=>j bJ<|j bK<|aE ?_;intro ak;clear cX cJ cK cL cM bJ bK;refine kr A.bd a (du (_) (a.bc b4.1 b4.2.2 b4.2.1) (rfl) ⟨_,rfl⟩) λa5 a W=>cp<|iL a M 1 d bY .(0) d λbM a5 bd a=>a.eL ?_;intro cY a;refine cp (bx a M 0 d d ?_);intro a5 cQ a;refine aE ?_;intro ak;refine Ea A.bd a (a.bG.2.2.1 _ _ b5.2.2 b5.2.1 b5.1) qA D9 λa5 a W=>cp (iL a M 2 d bZ .(0) d λb7 a5 cZ a=>?_);replace a:N w h _ _ ((am,a4 bc bX)::(ad+1,bM)::(ad+2,b7)::aF) a5:=a;refine cp (bx a M 1 d d ?_);intro a5 eP a;refine a.eL ?_;clear a;intro cY a;refine ie (aN:=[y "member_index",y "value"]) (aX:=[y "Share",y "len"]) _ d (by decide+kernel)<|aE ?_;intro ak;refine m8 a M 0 d Bu A3<|cR a M .(0) d (a.at 1 d) bd<|Y a M 0 d d<|Y a M 1 d d<|cR a M .(0) d (a.bG.2.1.2 _ (.tail _ (.tail _ (.tail _ aG)))) ci<|cR a M .(0) d (a.bG.2.1.2 _ (.tail _ (.tail _ (.tail _ (.tail _ aG))))) cj ?_;by_cases ao:jo z;case neg=>exact⟨a.Z.l,(D0 (af:=cw X (c8 hd (b+3+3*K))) ap a.Z A.mono (dU _ _ _ _ d a.drop) ⟨aO,aQ (.inr (.inr (.inr (.inr ⟨_,cx H,.inl ao⟩))))⟩ a.b4 (by unfold jo at ao;exact JE ao)).ga⟩
  have an:z.1=((z.1.toNat:Nat):Int):=(pg (Ls ao.1)).symm;have c1:z.2=((z.2.toNat:Nat):Int):=(pg (y6 (mo ao.1 ao.2.1))).symm;have bd:bM.data=.cell (some (aj z.1.toNat b1)):=bd.trans (congrArg (λm=>Data.cell (some (gF m b1))) an);refine ek (id ao) λay bf bh=>?_;rw[an] at ay bf cW;rw[c1] at bf bh;refine⟨a.Z.l,j an (j c1 (bk.ex (DY (X:=X) (u:=z.1.toNat) (v:=z.2.toNat) (b:=b+3+3*K) ap a.Z A.mono (Lr ay) (Ly cW) (rH bf) (Lz bh) (KJ al bL) (LF aP bL) (cf.aS (X:=X) aS a.aS) a.b4 (JR D ai dY) λc2 c3 eQ aI eR aq a9 ba aK c4 c5=>?_)))⟩;have b8:=a.eC aK.2.2 aK.2.1;have c7:=(a.jD (cw X (c8 hd (b+3+3*K+3))) d d (nm (X:=X) a.b4 λaD m=>m.mono LG)).en aq a9 ba;refine(N.l9 (q:=cw X (c8 hd (b+3+3*K+3))) d a c7).gl ?_;have d0:=c5.val (O5 bh bf) (rH bf) (LH bh) (OZ al bL) (yX aP bL);clear c7 aq a9 ba a;intro eS a;refine gP A.bd a (IsList.new (a.bG.1 _ _ aK.2.2 aK.2.1 aK.1)) (dS (b8.fn) (b8.own.dc) (b8.led) (aK.2.1)) λa6 eT d1 d4 a=>?_;have c9:c3.toArray.size=aI.length:=j cN c4.len;let aL:Nat×List UInt8->a7:=qK ae bW.1 gt.toNat Q.length z.1.toNat;refine jf (aN:=[y "member_index",y "value"]) (aX:=[y "Share",y "len"]) (fy A.bd a6 c2 d1 c3.toArray) (λW=>cw X (c8 hd (b+3+3*K+3))) (λW=>rfl) a d4 M _ (by decide+kernel) (ck (by refine j c9 (j d0.1 ?_);exact K8 bh))
   (λbO bi ar=>bT (gz w (In ar)) bi ((aI.take bO).map aL)) trivial ?_ ?_
  ·intro eU bO dX bi b9 ar ca eV eW eX eY da bR aU dV U db d5 aM;refine eJ (hk db) λeZ e0 o=>aM.ef o d ?_;clear aM o;intro e1 e2 aM;refine bp (c4.at (by simpa using da)) λt d6 o=>gk o λe4 e5 d7 d8 o cb e6=>?_;refine j o ?_;clear o da;refine qL (G:=c2) aM.bG.1.1 ?_;refine Ea A.bd aM (aM.bG.2.2.1 _ _ cb.2.2 cb.2.1 cb.1) qA D9 λas c W=>?_;refine cp (bx c U 0 d d ?_);intro as d9 c;refine cp (bx c U 1 d d ?_);intro as d9 c;refine b3 c U 0 d vl Dw<|cq<|cR c U .(0) d (c.bG.2.2.2.2.1.2 _ (.tail _ (.tail _ aG))) a0<|ii c (ky (c.bc aa.1 aa.2.2 aa.2.1) (c.bc ab.1 ab.2.2 ab.2.1)) kx Ed d λas c=>cq<|cR c U .(0) d (c.bG.2.2.2.2.1.2 _ (.tail _ (.tail _ aG))) a0<|ii c (ky (c.bc aa.1 aa.2.2 aa.2.1) (c.bc ab.1 ab.2.2 ab.2.1)) kx Ee d λas c=>cq<|cR c U .(0) d (c.bG.2.2.2.2.1.2 _ (.tail _ (.tail _ aG))) a0<|ii c (ky (c.bc aa.1 aa.2.2 aa.2.1) (c.bc ab.1 ab.2.2 ab.2.1)) kx Ef d λas c=>cR c U .(0) d (c.bG.2.1.2 _ (.tail _ (.tail _ aG))) cZ<|cR c U .(0) d (c.bG.2.2.2.2.1.2 _ aG) aY<|c0 c U 1 d dv dx<|cR c U .(0) d (c.bG.2.2.2.2.1.2 _ (.tail _ aG)) aZ<|oY c (IsList.new (c.bc P.1 P.2.2 P.2.1)) (v:=Q.length) aw (O8 ai) λea as c=>Y c U 0 d d<|cR c U .(0) d (c.bG.2.1.2 _ (.tail _ aG)) bd<|Y c U 1 d d<|⟨c.Z.l,Wk (t:=aL t) (u:=λZ=>[ch 0,0,ch 2,dZ,aA,ea,d7,b1,d8].getD Z 0) ap c A.mono λe7 eb e8 ec ed=>d5 _ (eb++ar) _ _ ?_ db.symm (ed.gT List.perm_middle.symm)⟩;refine j (show(aI.take (bO+1)).map aL=(aI.take bO).map aL++[aL t] from j hf (j d6 g3))<|bT.dU (bR.keep λE z m=>m.keep λb B D=>dt _ D) (bT.gO (ec.keep λb B D=>cU _ D))
  ·intro ca bi b9 ar as bR e9 a;rw[c9,h3] at bR;refine bs _ ((ad+1,bM)::(ad+2,b7)::((ca,a4 bi b9)::(ar++aF))) _ _ ⟨bM,b7,_,bg++[aI.map aL],rfl,⟨_,bd⟩,⟨_,cZ⟩,?_,bH.nf H cS (bF (aI) (c5) (rfl)),?_⟩ cI.symm (a.drop.gT (Wn _ _ _ _ _ _))
   ·refine bT.dU (b0.keep λE z m=>m.keep (λE z m=>m.keep λb B D=>e3 _ (dt _ D)) λb B D=>e3 _ (dt _ D)) (bT.gO (iZ (ca) (bi) (b9) (rfl) aG (bR.keep λE z m=>m.keep λb B D=>e3 _ (cU _ D))))
   ·intro Z ee bS dc;rcases gB Z K with cc|cc
    ·exact bI Z ee cc dc
    ·exact j (dg (dc.symm.trans (j (zw bS cc) H))) ao
 ·intro ad am bc bX W l ef fa a;refine a.z7 ?_;intro fb cY a;refine a.eo ?_;intro bm bn a;refine yj ef λbE bG aF bg o W W b0 bH bI=>?_;subst o;rw[bD] at bH bI;refine f _ _ ah bg ?_ a.aS a.Z (nm (X:=X) a.b4 λaD m=>m.mono (by refine j bD ?_;exact Lg (bl.elim id λt=>absurd (.inr t.1) ai))) cA bH (iZ (am) (bc) (bX) (rfl) (fC a aG) (b0.keep λE z t=>t.keep (λE z t=>t.keep λb B D=>fC a (e3 _ (cU _ (e3 _ (e3 _ D))))) λb B D=>fC a (e3 _ (cU _ (e3 _ (e3 _ D))))));intro eg;rcases eg with f|f|f|f|⟨z,H,f⟩
  ·exact M5 al f
  ·exact az (.inl f)
  ·exact a1 f
  ·exact az (.inr f)
  ·refine bo (fr H) λZ bS=>?_;rcases f with f|f
   ·exact f (bI Z z (List.getElem?_eq_some_iff.mp bS).1 bS)
   ·exact bt (bF (z) (H) (f))
noncomputable def idOf(G:List UInt8):Nat:=fW G%2^15
theorem Wp(e:bb h)(L:aH w h s)(A:aR n 6 22){i aJ:x}(X:ih aJ ax aT)(p:jT s.heap i aJ aT)(m:(cw X (λg=>g=[])).P s.heap)(f:∀(G:List UInt8) u C k,G.length=2->bP [aJ,ax,aT] s k->aH w h k->(cw X (c8 (a6 G C) 1)).P k.heap->r (aj (idOf G) u) k):bk w n (.call (.ref 760) ⟨[.ref i],[]⟩) (bW r) s:=by
 refine cZ (q:=5) (S:=19) (Sc e) QE (cw X (λg=>g=[])) L m A.mono ?_;intro T b U V D c a A;refine aV λW E=>?_;obtain⟨F,Z,aa,ab,ac,ad,ae,af,H,ag,ah,ai,t,v,W⟩:=id p;all_goals refine E ?_
 have I:i∉[aJ,ax,aT]:=qI (X:=X) m t (λW W K=>nomatch v.symm.trans K);refine seq (doc ?_);replace a:=a.a3 (u:=b.toks+1);refine seq<|bN<|aE ?_;intro M;refine C9 a c 0 d λak b a=>V2 (J:=F) a c 0 d d v<|b3 a c 1 d sa r2<|eA a c 2 d vf<|⟨a.Z.l,su e a.Z A.mono .(1) .(1) λal b o L=>?_⟩;replace a:=a.call o L;obtain⟨N,am,an,O,g⟩:=id a.b4;subst g;refine⟨a.bc t I H,DN (l:=2) e a.Z A.mono X (p.aS (X:=X) m a.aS) N O .(1) .(1) .(1) λG u ao a5 y o L z B=>?_⟩;have P:=a.bare.en (k:=a5) (o.p7 λW=>rfl) L (by have:(cw X (λW=>True)).P a5.heap:=⟨z,_,_,B,trivial⟩;exact(cw X (λW=>True)).live _ this);replace a:=P.jD (cw X (c8 (a6 G u) 1)) d d ⟨z,_,_,B,rfl,c9 _⟩;refine a.gl ?_;intro ap a;refine fj a λaq b a=>(h5 (G) (_) (_) (rfl) (M6 y) (a.at 0 d) (?_));replace a:=(a.a3 (u:=b.toks+1)).cd (cJ _ _);refine bx a c 1 d d ?_;intro b D a;refine seq<|b2<|aE ?_;intro M;refine a2<|Y a c 1 d d<|a2<|a2<|a8 1 a λW b a=>dJ 15 _ a c 2 d vf<|m4 a .(1) .(1) λW b a=>a8 1 a λW b a=>jO a .(1) λW b a=>l0 a λQ b a=>?_;have R:fW G&&&(1*2^15-1)=idOf G:=by refine j (Nat.one_mul ..) (j (mx ..) ?_);rfl
 refine j R<|f G Q u b y a.aS a.Z a.b4
theorem Ei{z:x}{c g:az}{dd:List p}{A:eF Bool}(a:N w h e I led s)(B:e.l.bL)(m:Nat)(aW:some i=e.l.aX[m]?)(o:bK (ak w h) 3 i=some (some (.ref U)))(E:xS (ak w h) (.ref U) "__getattribute__"=some (some (.builtin "type.__getattribute__")))(F:readsIn (ak w h) U (.type "type")=true)(G:mD (ak w h) (.ref U) (.type "type") name=some (.get (.builtin "classmethod.__get__") (.ref z) .none (.ref U)))(H:recIn (ak w h) z "classmethod"=some (.ref C::dd))(K:fnIn (ak w h) C=true)(f:∀t k,N w h e I ((t,tZ (.ref C) (.ref U))::led) k->eM w n M D args (λar l=>l.heap.get? t=some (tZ (.ref C) (.ref U))/\(ak w h).In l.heap/\bk w n (.call (.ref C) ⟨.ref U::ar,[]⟩) (fU r M) l) k)(u:autoParam (args.all fH=true) b0)(L:autoParam (D=e.D) b0)(O:autoParam (bA (.Call (.Attribute (.Name i c) name g) args [] pos) D=(do
  let v<-bA (.Name i c) D
  j2 g.atName
  let(C,first)<-lw [v] (mC v name A)
  q1 pos C first (lr pos (iW args D)) [])) b0):aa w n (bA (.Call (.Attribute (.Name i c) name g) args [] pos) D) r M s:=by
 refine⟨tR (aa.run (eA a B m aW o ?_ L)) O⟩;have y:N w h e I led {s with toks:=s.toks+1}:=a.a3;have Q:=y.alloc (J:=tZ (.ref C) (.ref U)) d;refine method_cls a.Z.l E<|cls_bind a.Z.l F G<|hY<|cm_get y.Z.l H<|handed_on d<|tF (P:=MethP (ak w h) s.heap.objs.size C (.ref U)) (by refine j (iI u) ?_;rfl) (keeps_M K) (jI u ((f s.heap.objs.size _ Q).mono λar T b=>⟨⟨b.1,b.2.1⟩,?_⟩));refine hY<|method_call b.1<|iX b.2.2.run λR k q=>by
  cases R with
  |error o=>exact q
  |ok S=>cases S<;>first|exact q|exact q.elim
theorem Wq:mD (ak w h) (.ref 705) (.type "type") (y "from_master_secret")=some (.get (.builtin "classmethod.__get__") (.ref 694) .none (.ref 705)):=by kernel_rfl
theorem Wr:recIn (ak w h) 694 "classmethod"=some [.ref 692,.bool false]:=by kernel_rfl
theorem Ws:xS (ak w h) (.ref 705) "__getattribute__"=some (some (.builtin "type.__getattribute__")):=by kernel_rfl
theorem Wt:readsIn (ak w h) 705 (.type "type")=true:=by kernel_rfl
theorem Wu(c:bb h)(L:aH w h s)(A:aR n 7 25){id o:Nat}{ext:Bool}(l:aw.length<=1000)(m:aw.length%2=0)(p:as.length<=1000)(t:o<=15)(u:id<2^15)(f:∀E k,bP [] s k->aH w h k->kv w (ei s.heap k.heap) E ⟨id,ext,o,encOf aw as o id ext⟩->r E k):bk w n (.call (.ref 692) ⟨[.ref 705,a6 aw aA,a6 as bf,aj id bh,.bool ext,aj o bn,.ref 812],[]⟩) (bW r) s:=by refine cZ (q:=6) (S:=22) (BE c) AZ .none L trivial A.mono ?_;intro K g M N v b a A;refine seq (bN ?_);refine b3 a b 0 d Bp Ar ?_;refine Y a b 1 d d<|Y a b 2 d d<|Y a b 5 d d<|Y a b 3 d d<|Y a b 4 d d<|Y a b 6 d d<|⟨a.Z.l,UE c a.Z A.mono l m p t u λx g e L=>?_⟩;replace a:=a.call e L;refine bx a b 7 d d ?_;intro g v a;refine seq (b2 ?_);refine b3 a b 1 d vm Dy ?_;refine Y a b 3 d d<|Y a b 4 d d<|Y a b 5 d d<|Y a b 7 d d<|⟨a.Z.l,Dx c a.Z A.mono λy z B a5 e L C D F G i j O=>?_⟩;have H:=a.eC F i;have I:=a.eC G j;replace a:=a.call e L;exact f _ a5 a.aS a.Z (fR (y) (z) (B) (λJ=>[bh,0,bn,x].getD J 0) (rfl) ((bO (C) (i) (H.own.new))) ((bO (D) (j) (I.own.new))))
theorem Wv(c:bb h)(L:aH w h s)(A:aR n 7 25){T:cm}(an:d3 w h T n aB [] s)(e:T.cls=.type "ValueError"/\T.B){id o:Nat}{ext:Bool}(f:aw.length<=1000)(g:aw.length%2=1):
 bk w n (.call (.ref 692) ⟨[.ref 705,a6 aw aA,a6 as bf,aj id bh,.bool ext,aj o bn,.ref 812],[]⟩) (fU r (fJ w h T aB)) s:=by
 refine CL (C:=u8) (q:=6) (S:=22) (bQ:=[(y "cls",.ref 705),(y "master_secret",a6 aw aA),(y "passphrase",a6 as bf),(y "identifier",aj id bh),(y "extendable",.bool ext),(y "iteration_exponent",aj o bn),(y "pbkdf2",.ref 812)]) (I:=[some (.ref 705),some (a6 aw aA),some (a6 as bf),some (aj id bh),some (.bool ext),some (aj o bn),some (.ref 812),none]) .none L trivial A.mono an.ch (BE c) AZ (λW=>by kernel_rfl) .(0) .(0) .(0) ?_;intro i j k l m b a A;refine seq (bN ?_);refine m8 a b 0 d Bp Ar ?_;refine Y a b 1 d d<|Y a b 2 d d<|Y a b 5 d d<|Y a b 3 d d<|Y a b 4 d d<|Y a b 6 d d<|⟨a.Z.l,(UD c a.Z A.mono (an.kl a b d) e f g).ga⟩
theorem Ww(l:bb h)(L:aH w h s)(A:aR n 7 25){m:p}{b:lc}(o:kv w (er s.heap) m b)(t:b.hi.length<=1000)(v:b.hi.length%2=0)(x:as.length<=1000)(y:b.o<=15)(z:b.id<2^15)(f:∀u k,bP [] s k->aH w h k->r (a6 (oM b.hi as b.o b.id b.ext) u) k):bk w n (.call (.ref 702) ⟨[m,a6 as bf,.ref 812],[]⟩) (bW r) s:=by
 (refine gk o λD E F u B c e=>?_;clear o;refine j B ?_);refine cZ (q:=6) (S:=22) (R6 l) Qy .none L trivial A.mono ?_;intro G i H I J g a A;refine seq (b2 ?_);refine b3 a g 0 d Q4 PQ ?_;refine cq<|Y a g 0 d d<|ii a (ky (a.bc c.1 bC c.2) (a.bc e.1 bC e.2)) kx ws d λi a=>Y a g 1 d d<|cq<|Y a g 0 d d<|ii a (ky (a.bc c.1 bC c.2) (a.bc e.1 bC e.2)) kx Ef d λi a=>cq<|Y a g 0 d d<|ii a (ky (a.bc c.1 bC c.2) (a.bc e.1 bC e.2)) kx Ed d λi a=>cq<|Y a g 0 d d<|ii a (ky (a.bc c.1 bC c.2) (a.bc e.1 bC e.2)) kx Ee d λi a=>Y a g 2 d d<|⟨a.Z.l,UF l a.Z A.mono t v x y z λK i C L=>?_⟩;replace a:=a.call C L;exact f _ _ a.aS a.Z
theorem Wx(X:(ak w h).In s.heap)(doc:p)(aC ci co cW df dB dG dV a:p):c2 (aZ w) s.heap (hE (p9.d5 doc) ⟨[aC,ci,co,cW,df,dB,dG,dV,a],[]⟩) [(y "group_threshold",aC),(y "groups",ci),(y "master_secret",co),(y "random_bytes",cW),(y "hmac_sha256",df),(y "pbkdf2",dB),(y "passphrase",dG),(y "extendable",dV),(y "iteration_exponent",a)]:=by have b:=sK (b8:=aZ w) (c:=761) (O:=[.bytes #[] 2001,.bool true,.int 1 2002]) X .(0);refine(?_:c2 (aZ w) s.heap (pB (.ref 761)>>=λd=>_) _);exact b.andThen (iV .(0))
theorem Wy:bK (ak w h) 3 (y "generate_mnemonics")=some (some (.ref 766)):=by kernel_rfl
theorem s1{o id:Nat}{ext:Bool}(f:aw.length%2=0):(encOf aw as o id ext).length=aw.length:=by have a:=oN (R:=aw) f;have b:=sH (z:=as) (o:=o) (fq:=e9 id ext) (v:=aw.length/2) [0,1,2,3] (fp aw) a.1 a.2;refine(?_:(([0,1,2,3].foldl (eW as o (e9 id ext)) (fp aw)).2++([0,1,2,3].foldl (eW as o (e9 id ext)) (fp aw)).1).length=_);refine j dZ (j b.1 (j b.2 ?_));exact Il f
def lg(av:x->V->Prop)(E:p)(a:List (List Nat)):Prop:=∃G O R,E=.ref G/\av G (a4 O R)/\dW O a
theorem lg.keep{a:List (List Nat)}(l:∀b J,av b J->bs b J)(i:lg av E a):lg bs E a:=by(refine kc i λc d e f g h=>?_;clear i);exact(iZ (c) (d) (e) (f) (l _ _ g) (h))
theorem mb{h0 a:au}{b:x}{J:V}(g:ei h0 a b J):b∈(gy h0 a).br:=List.mem_filter.mpr ⟨List.mem_range.mpr (cr g.1),by refine j g.2.2 (j g.1 ?_);simpa using g.2.1⟩
theorem lf.ok{e:lc}{gt bR:Nat}{g:List UInt8}{bg:List (List a7)}(f:lf e gt bR Q ah Q.length bg)(v:jU gt Q.length g ah)(w:1<=gt)(h:gt<=Q.length)(b:Q.length<=3)(n:bR=Q.length)(o:4<=g.length)(i:g.length<=32)(x:e.id<2^15)(y:e.o<16)(A:∀z∈Q,jo z):∀J∈bg,∀t∈J,t.bL:=by
 intro J B t C;refine bo (fr B) λa p=>?_;have c:a<Q.length:=by refine be f.len ?_;exact(List.getElem?_eq_some_iff.mp p).1
 have q:=v.val (uE h b) h (ob b) o (oc i);have D:Q[a]?=some Q[a]:=da c;have r:ah[a]?=some (ah[a]'(by refine j q.1 ?_;exact c)):=da _;(refine bp (f.fM a _ _ _ D r p) λL E k=>?_;obtain rfl:=k);(refine bp (List.mem_map.mp C) λz F k=>?_;obtain rfl:=k);refine bo (fr F) λG s=>?_;have u:=A _ (j9 c);have d:=q.2 a _ r;(refine ek u λH l m=>?_;clear u);have I:=E.val (Jq l m) (rC l) (ux m) (M7 o d) (yX i d);have K:=I.2 G z s;have M:=(List.getElem?_eq_some_iff.mp s).1;exact⟨x,y,by refine(?_:(ah[a]'_).1<16);exact Ks b c d,⟨w,by refine(?_:gt<=16);exact uO h b⟩,⟨by refine(?_:1<=bR);exact Lc n c,by refine(?_:bR<=16);exact M8 b n⟩,by refine(?_:z.1<16);lia,⟨by refine(?_:1<=(Q[a]).1.toNat);exact uq H,by refine(?_:(Q[a]).1.toNat<=16);exact Kr l m⟩,by refine(?_:z.2.length<=32);exact K2 i d K⟩
noncomputable def hB(z:List UInt8)(l:Nat):Bool:=decide (32<=(z.getD l 0).toNat)&&decide ((z.getD l 0).toNat<=126)
noncomputable def oZ(z:List UInt8):Bool:=(bH z.length).all (hB z)
theorem Wz{G a d:am}{g h:pk}(m:lastMarks [g,h] [a,d]=false)(f:aa w n (bA G D) (λc i=>aa w n (bA a D) (λb j=>aa w n (f1 g c b) (λe k=>aa w n (ms e) (i3 (aa w n (bA d D) (BI w n h b r M) M) (r e)) M k) M j) M i) M s):aa w n (bA (.Compare G [g,h] [a,d] pos) D) r M s:=
 ⟨Compare_chain (f.J λc i o=>chain_link (o.J λb j p=>p.J λe k q=>q.J λt v l=>by
  cases t with
  |true=>exact chain_last (aa.J l λx y u=>u.run)
  |false=>exact l)) m⟩
def nq(aw as:List UInt8)(Q:List (Int×Int))(a:Int):Prop:=oZ as=false\/aw.length%2=1\/np aw.length a Q
set_option maxHeartbeats 1000000 in
theorem WA(ac:bb h)(L:aH w h s)(A:aR n 14 50){T:cm}{gt:Int}{o:Nat}{ext:Bool}{ay:x}{ba:List p}{az aJ:x}{X:ih aJ ax aT}(an:d3 w h T n aB [aJ,ax,aT] s)(aY:T.cls=.type "ValueError")(bZ:kz s.heap [aJ,ax,aT] ay (a4 ba R))(b0:bT (hA (kz s.heap [aJ,ax,aT])) ba Q)(ad:aw.length<=32)(b1:as.length<=100)(bc:o<16)(V:Q.length<=3\/(Q.length>16/\Q.length<100))(bd:∀z∈Q,z.1<=3)(aZ:nq aw as Q gt->T.B)(bi:jT s.heap az aJ aT)(ae:(cw X (λg=>g=[])).P s.heap)(f:∀E k (G:List UInt8) v ah bg,¬nq aw as Q gt->G.length=2->bP [aJ,ax,aT] s k->aH w h k->(cw X (c8 (a6 G v) 30)).P k.heap->jU gt.toNat Q.length (encOf aw as o (idOf G) ext) ah->lf ⟨idOf G,ext,o,encOf aw as o (idOf G) ext⟩ gt.toNat Q.length Q ah Q.length bg->
  ma lg (ei s.heap k.heap) E (bg.map (·.map dk))->r E k):
 bk w n (.call (.ref 766) ⟨[.int gt aA,.ref ay,a6 aw bf,.ref az,.ref 807,.ref 812,a6 as bh,.bool ext,aj o bn],[]⟩) (fU r (fJ w h T aB)) s:=by
 refine vL (C:=p9) (q:=13) (S:=47) (bQ:=[(y "group_threshold",(.int gt aA)),(y "groups",.ref ay),(y "master_secret",a6 aw bf),(y "random_bytes",.ref az),(y "hmac_sha256",.ref 807),(y "pbkdf2",.ref 812),(y "passphrase",a6 as bh),(y "extendable",.bool ext),(y "iteration_exponent",aj o bn)]) (I:=[some ((.int gt aA)),some (.ref ay),some (a6 aw bf),some (.ref az),some (.ref 807),some (.ref 812),some (a6 as bh),some (.bool ext),some (aj o bn),none,none,none]) (cw X (λg=>g=[])) L ae A an.ch (Sd ac) QG (λdoc=>Wx L.l doc _ _ _ _ _ _ _ _ _) .(0) .(0) .(0) ?_;intro b4 m bj cW aC c a A;refine seq (doc ?_);replace a:=a.a3 (u:=m.toks+1);refine seq<|ifs<|mY<|gq<|aE ?_;intro af;refine c0 a c 0 d Rn v_all<|jK (aN:=[y "c"]) (aX:=[]) _ d A.hm (by decide+kernel)<|Y a c 6 d d<|sC A.bd a λa0 m a1 a=>mX (aN:=[y "c"]) (aX:=[]) (λb5 b7=>qt b7 a0 as bh) A.bd a a1 d c (765,763) d .(1) _ d (by decide+kernel) (q:=0) (S:=0) (F:=λB b8=>b8=.bool (hB as B)) ?_ ?_
 ·intro b9 code b cX b5 B i I k ca cY ag cZ c1 cb ae cc aD H;(refine eJ (hk cc) λcd c2 t=>?_;obtain rfl:=t);(refine db ae λaF c3 ce t=>?_;clear ae;obtain rfl:=t);refine dF (cp (bx H ag 1 d d ?_));intro k aC H;refine Wz (by with_unfolding_all rfl)<|cg H λc4 k H=>Y H ag 1 d d<|B3 (cn ?_);have bl:as.getD B 0=aF:=oL ce;by_cases ai:32<=aF.toNat
  ·refine j (show decide ((32:Int)<=(aF.toNat:Int))=true from decide_eq_true (LI ai))<|d2<|cg H λc5 k H=>B3 (aD _ _ _ _ ?_ (by rfl) H);refine(?_:_=rh (hB as _));rw[hB,bl,decide_eq_true ai,Hf];congr 1;exact decide_eq_decide.mpr IT
  ·refine j (show decide ((32:Int)<=(aF.toNat:Int))=false from decide_eq_false (LJ ai))<|dw<|aD _ _ _ _ ?_ (by rfl) H;refine(?_:_=rh (hB as _));rw[hB,bl,decide_eq_false ai,xZ]
 intro W m a bm;refine Tk a d bm (A.mono .(1) .(1)) (hB as) (λc6 E cf=>cf) λm a=>cn ?_;by_cases J:oZ as=true;case neg=>have bq:oZ as=false:=eq_false_of_ne_true J;have ch:(bH as.length).all (hB as)=false:=bq;refine j ch<|d2<|seq<|l3 nW nX a c A.bd 1 d kZ k3 an d ⟨aY,aZ (.inl bq)⟩<|fj a λT m a=>⟨by refine j gG ?_;exact b6 d,_,_,a⟩
 refine j (show(bH as.length).all (hB as)=true from J)<|dw<|bv<|seq<|bN<|aE ?_;intro af;refine b3 a c 2 d Rh QF<|Y a c 3 d d<|⟨a.Z.l,Wp ac a.Z A.mono X (bi.aS (X:=X) ae a.aS) a.b4 λG c7 v a5 ci D O ao=>?_⟩;have aI:=(a.bare.en D O ((cw X (c8 (a6 G v) 1)).live _ ao)).jD (cw X (c8 (a6 G v) 1)) d d ao;refine aI.gl ?_;intro cj aI;clear a bm D O;refine bx aI c 9 d d ?_;intro m aC a;clear aI;refine seq<|bN<|aE ?_;intro af;refine Ei a c 3 d vm Ws Wt Wq Wr .(0) λak m a=>Y a c 2 d d<|Y a c 6 d d<|Y a c 9 d d<|Y a c 7 d d<|Y a c 8 d d<|Y a c 5 d d ?_;have br:idOf G<2^15:=eQ _ .(1);have bs:=an.CN (e:=⟨p9.eg b4 [],s,cw X (λg=>g=[]),.none⟩) c d;by_cases ap:aw.length%2=0;case neg=>exact(bO (a.at 0 d) (a.Z.l) ((Wv ac a.Z A.mono ((bs (cw X (c8 (a6 G v) 1)) _ _ _ d a).TO λT f=>nomatch f) ⟨aY,aZ (.inr (.inl (uy ap)))⟩ (oc ad) (uy ap)).ga))
 refine(bO (a.at 0 d) (a.Z.l) ((Wu ac a.Z A.mono (oc ad) ap (rJ b1) (y7 bc) br λck a5 D O bt=>?_).ex));have cl:kv w (λb l=>er a5.heap b l/\b∉[aJ,ax,aT]/\ei m.heap a5.heap b l) ck _:=bt.keep λb l g=>(bO (⟨g.1,g.2.1⟩) ((a.eC g.2.2 g.2.1).own.dc) (g));replace a:=N.l9 (q:=cw X (c8 (a6 G v) 1)) d a (a.call D O);clear bt D O;generalize c9:m.heap=dc at*;generalize dd:a5.heap=de at*;refine bx a c 10 d d ?_;intro m aC a;refine a.gl ?_;intro cj a;replace a:=a.cd (aaQ _);refine seq<|bN<|aE ?_;intro af;refine m8 a c 4 d Rg QD<|Y a c 0 d d<|Y a c 1 d d<|Y a c 10 d d<|Y a c 3 d d<|Y a c 4 d d ?_;have P:=s1 (as:=as) (o:=o) (id:=idOf G) (ext:=ext) ap;have a2:(encOf aw as o (idOf G) ext).length=aw.length:=P;refine⟨a.Z.l,(Wo (X:=X) (b:=1) ac a.Z A.mono (bs (cw X (c8 (a6 G v) 1)) _ _ _ d a.drop) aY (bZ.bc a) (b0.keep λE z i=>i.keep λb l g=>g.bc a) (cl.keep λb l g=>(bO (a.bG.1 b l g.2.2.2.2 g.2.2.2.1 g.2.2.1) (g.1.2) (g.2.1))) (by refine(?_:(encOf aw as o (idOf G) ext).length<=32);exact y8 ad P) V bd (λi=>aZ (.inr (.inr (a2▸i)))) (bi.aS (X:=X) ae a.aS) a.b4 .(1) λdf a5 ah bg bu D O ao aq aK co=>?_).ga⟩;refine dM (np.z1 (a2▸bu)) λa3 dg dh cq bw=>?_;have cr:1<=gt.toNat:=by lia
 have a7:gt.toNat<=Q.length:=by lia
 replace V:Q.length<=3:=V.elim id λi=>absurd i.1 cq;have a8:∀z∈Q,jo z/\z.1<=3/\¬(z.1=1/\z.2>1):=λz J=>⟨(bw z J).1,bd z J,(bw z J).2⟩;refine aV λbz ar=>?_;obtain⟨bA,bB,di,rfl,aL,bC⟩:=co;all_goals refine ar ?_
 replace aq:jU gt.toNat Q.length (encOf aw as o (idOf G) ext) ah:=aq;have bD:=(a.jD (cw X (c8 (a6 G v) 30)) d d (nm (X:=X) a.b4 λg i=>i.mono M9)).en D O (nm (X:=X) ao λg i=>i.mono Na);replace a:=N.l9 (q:=cw X (c8 (a6 G v) 30)) d a bD;clear bD D O ao;generalize dj:m.heap=cs at*;generalize dl:a5.heap=ct at*;refine a.gl ?_;intro dm a;have cu:=aK.ok aq cr a7 V d (by show 4<=(encOf aw as o (idOf G) ext).length;exact pY a3 P) (by show(encOf aw as o (idOf G) ext).length<=32;exact y8 ad P) br bc λz J=>(a8 z J).1;refine bx a c 11 d d ?_;intro m aC a;refine seq<|b2<|ie (aN:=[y "group"]) (aX:=[]) _ d (by decide+kernel)<|Y a c 11 d d ?_;have aM:=a.b9 bA (cU _ (mb aL));refine gP A.bd a (IsList.new (a.bG.1 _ _ aL.2.2 aL.2.1 aL.1)) (dS (aM.1) (aM.2.1) (aM.2.2.1) (aM.2.2.2.1)) λa0 m cv a1 a=>?_;have bE:bB.toArray.size=bg.length:=by simp[bC.len]
 have bF:=aK.len;refine jf (aN:=[y "group"]) (aX:=[]) (fy A.bd a0 bA cv bB.toArray) (λT=>cw X (c8 (a6 G v) 30)) (λT=>rfl) a a1 c _ (by decide+kernel) (by refine j bE (j gG ?_);exact Nb V bF) (λB U K=>bT (lg (In K)) U ((bg.take B).map (·.map dk))) trivial ?_ ?_
 ·intro b9 B E U al K W dn a5 ca cb cy aO bj cz ag au aD a;refine aE ?_;intro af;(refine bo (hj au) λcd t=>?_;obtain rfl:=t);refine aV λbz ar=>?_;(refine bp (bC.at (by simpa using cy)) λl aP t=>?_;obtain⟨bG,bI,dp,rfl,aQ,bJ⟩:=t);all_goals refine ar ?_
  have cA:∀ak∈l,ak.bL:=cu l (cx aP);have cB:l.length<=16:=by
   have av:B<Q.length:=by refine be bF ?_;exact(List.getElem?_eq_some_iff.mp aP).1
   have au:=aq.val (uE a7 V) a7 (ob V) (pY a3 P) (Nc ad P);(refine bp (aK.fM B _ _ _ (da av) (da (by refine j au.1 ?_;exact av)) aP) λdq cC t=>?_;obtain rfl:=t);have g:=(a8 _ (j9 av)).1;(refine ek g λdr cD bK=>?_;clear g);have cE:=(a8 _ (j9 av)).2.1;have bL:=au.2 B _ (da (by refine j au.1 ?_;exact av));have:=(cC.val (y1 cE) (rC cD) (ux bK) (Nd a3 P bL) (O0 ad P bL)).1;refine j (eG ..) (j this ?_);exact zx bK
  refine dF<|cp<|d8 a ag 0 d d λcF a=>ie (aN:=[y "share"]) (aX:=[]) _ d (by decide+kernel)<|aE ?_;intro af;refine Y a ag 0 d d ?_;have aS:=a.b9 bG (dt _ (dt _ (cU _ (mb aQ))));refine gP A.bd a (IsList.new (a.bG.2.2.1 _ _ aQ.2.2 aQ.2.1 aQ.1)) (dS (aS.1) (aS.2.1) (aS.2.2.1) (aS.2.2.2.1)) λcG cF cH cI a=>?_;have bM:bI.toArray.size=l.length:=by simp[bJ.len]
  refine jf (aN:=[y "share"]) (aX:=[]) (fy A.bd cG bG cH bI.toArray) (λT=>cw X (c8 (a6 G v) 30)) (λX=>rfl) a cI ag _ (by decide+kernel) (by refine j bM (j gG ?_);exact Nf cB) (λaU M K=>dW M ((l.take aU).map dk)) trivial ?_ ?_
  ·intro ds aU du M Z aa ab dv cJ dx dy cK aW bj cz bR cL cM cN;refine aE ?_;intro af;(refine bo (hj cL) λdz t=>?_;obtain rfl:=t);refine aV λbz ar=>?_;(refine bp (bJ.at (by simpa using cK)) λak bS t=>?_;obtain⟨cO,cP,cQ,cR,rfl,bU,bV⟩:=t);all_goals refine ar ?_
   refine dF (cp (d8 cN bR 0 d d λbW am=>?_));have bX:∀b l,ei cs ct b l->bW.heap.get? b=some l:=λb l g=>am.bG.2.2.2.2.1 b l g.2.2 g.2.1 g.1;have bY:il w bW.heap cO cP cQ cR ak:=⟨bX _ _ bU,bX _ _ bV,bU.2.1,bV.2.1⟩;refine gd<|Y am bR 0 d d<|jj (C:=437) am.Z.l bY .(0) .(0) .(0) .(0)<|⟨am.Z.l,(Vz ac am.Z A.mono bY (cA ak (cx bS)) λdA dB D cS=>?_).ex⟩;have cT:=am.call D cS;refine cM _ aa _ _ ?_ (by dsimp) cT;have o:(l.take (aU+1)).map dk=(l.take aU).map dk++[dk ak]:=by refine j hf (j bS ?_);simp
   refine j o<|aW.dU (dW.gO _ _)
  ·intro ab M Z aa cJ aW dC a;rw[bM,h3] at aW;refine aD _ ((ab,a4 M Z)::(aa++K)) _ _ ?_ (by dsimp) (a.gT ?_)
   ·have o:(bg.take (B+1)).map (·.map dk)=(bg.take B).map (·.map dk)++[l.map dk]:=by refine j hf (j aP ?_);simp
    refine j o<|bT.dU (aO.keep λE z i=>i.keep λb l a9=>e3 _ (dt _ a9)) (bT.gO (iZ (ab) (M) (Z) (rfl) aG (aW)))
   ·have ai:((W,a4 U al)::((ab,a4 M Z)::(aa++K)))=[(W,a4 U al)]++((ab,a4 M Z)::aa)++K:=by dsimp
    have cV:((ab,a4 M Z)::(aa++((W,a4 U al)::K)))=((ab,a4 M Z)::aa)++[(W,a4 U al)]++K:=by simp
    refine j ai<|j cV<|List.perm_append_comm.append_right _
 ·intro W U al K a5 aO dD a;rw[bE,h3] at aO;exact f _ _ G v ah bg (λi=>i.elim (λi=>nomatch J.symm.trans i) λi=>i.elim (λi=>nomatch ap.symm.trans i) λi=>bu (a2.symm▸i)) ci a.aS a.Z a.b4 aq aK (iZ (W) (U) (al) (rfl) (fC a aG) (aO.keep λE z i=>i.keep λb l a9=>fC a (e3 _ (cU _ a9))))
noncomputable abbrev mc(w:aD):=strKind ff w
noncomputable def o0(P:gC)(G:List (String×aF×Nat×aF)):List DictEntry:=G.map λi=>ay P i.1 i.2.1 (aj i.2.2.1 i.2.2.2)
noncomputable def Ej:List (String×aF×Nat×aF):=[("b",393,0,394),("d",396,1,397),("f",399,2,400),("g",402,3,403),("h",405,4,406),("j",408,5,409),("k",411,6,412),("l",414,7,415),("m",417,8,418),("n",420,9,421),("p",423,10,424),("r",426,11,427),("s",429,12,430),("t",432,13,433),("v",435,14,436),("z",438,15,439)]
noncomputable def Ek:List (String×aF×Nat×aF):=[("a",442,0,443),("i",444,1,445),("o",446,2,447),("u",448,3,449)]
theorem El:(ak w h).lookup 117=some ⟨.type "dict",none,.dict (o0 w.params Ej).toArray 16,#[]⟩:=by kernel_rfl
theorem WB:(ak w h).lookup 118=some ⟨.type "dict",none,.dict (o0 w.params Ek).toArray 4,#[]⟩:=by kernel_rfl
theorem wt(G:List (String×aF×Nat×aF)):KeysOf (mc w) (o0 w.params G).toArray:=λc b=>by
 have b:c∈o0 w.params G:=by simpa using b
 (refine bp (List.mem_map.mp b) λa W d=>?_;obtain rfl:=d);(exact(bF (y a.1) (by refine(?_:aaR (y a.1) (.str (y a.1) a.2.1)=true);exact isStrOf_self (y a.fst) a.snd.fst) (rfl)))
theorem Em:∀m,m<16->∃u,findBy (mc w).is (o0 w.params Ej).toArray ⟨#[jg.getD m 0]⟩=some (aj m u)
 |0,_=>⟨394,by kernel_rfl⟩
 |1,_=>⟨397,by kernel_rfl⟩
 |2,_=>⟨400,by kernel_rfl⟩
 |3,_=>⟨403,by kernel_rfl⟩
 |4,_=>⟨406,by kernel_rfl⟩
 |5,_=>⟨409,by kernel_rfl⟩
 |6,_=>⟨412,by kernel_rfl⟩
 |7,_=>⟨415,by kernel_rfl⟩
 |8,_=>⟨418,by kernel_rfl⟩
 |9,_=>⟨421,by kernel_rfl⟩
 |10,_=>⟨424,by kernel_rfl⟩
 |11,_=>⟨427,by kernel_rfl⟩
 |12,_=>⟨430,by kernel_rfl⟩
 |13,_=>⟨433,by kernel_rfl⟩
 |14,_=>⟨436,by kernel_rfl⟩
 |15,_=>⟨439,by kernel_rfl⟩
 |b+16,a=>absurd a Ng
theorem WC:∀m,m<4->∃u,findBy (mc w).is (o0 w.params Ek).toArray ⟨#[l4.getD m 0]⟩=some (aj m u)
 |0,_=>⟨443,by kernel_rfl⟩
 |1,_=>⟨445,by kernel_rfl⟩
 |2,_=>⟨447,by kernel_rfl⟩
 |3,_=>⟨449,by kernel_rfl⟩
 |b+4,a=>absurd a Nh
theorem wu{q:x}{J:V}{cG:Array j0}{l:al}(a:N w h e I led s)(c:s.heap.get? q=some J)(d:J.ExactDict)(hd:J.data=.dict cG v)(g:KeysOf (mc w) cG)(i:findBy (mc w).is cG l=some E)(f:∀k,N w h e I led k->r E k)(j:autoParam (ly slice false (.ref q) (.str l u)=lz [.ref q,.str l u] (hG (.ref q) (.str l u))) b0):aa w n (lx value slice (.ref q) (.str l u)) r M s:=by
 have b:s.TypeIs (.ref q) "dict":=(bF (J) (c) (d.1));refine oA b PySem.F.slot_dict_getitem.lookup ?_ j;have m:(mc w).is l (.str l u)=true:=by refine(?_:aaR l (.str l u)=true);exact isStrOf_self l u
 have o:=meets_dict_getitem (mc w) q m;refine wpAny_getItem_slot b .(1) aaS (t0 aaS b PySem.F.entry_dict_getitem (PySem.F.args_dict_getitem_2 _ _) o ⟨λp=>findBy (mc w).is cG p,E,(n7 (J) (cG) (v) (c) (d) (hd) (g) (λW=>rfl)),i,f _ a.a3⟩)
theorem WD(m:Nat):(m&&&15)<16:=tr my
theorem En(m:Nat):(m&&&3)<4:=tr my
theorem WE(m:Nat)(f:m<1024):m/64*2^6+(m/16&&&3)*2^4+(m&&&15)=m:=by have a:m&&&15=m%16:=mx m 4;have b:m/16&&&3=m/16%4:=mx (m/16) 2;refine j a (j b ?_);exact H0
theorem WF(e:bb h)(L:aH w h s)(A:aR n 2 8)(aW:m<1024)(f:∀u k,bP [] s k true->aH w h k->r (aj m u) k):bk w n (.call (.ref 132) ⟨[ds (cv m) u],[]⟩) (bW r) s:=by refine cZ (q:=1) (S:=5) (RD e) PX (.none true) L trivial A.mono ?_;intro o b p t v c a A;refine seq<|ifs<|cT<|c0 a c 0 d dv dx<|Y a c 0 d d<|⟨len_str (by refine(?_:¬((3:Nat):Int)>=2^63);decide) ?_⟩;replace a:N w h _ _ _ {b with toks:=b.toks+1+1}:=a.a3;refine(?_:aa w _ _ _ _ _);refine cg a λx b a=>qj<|cn<|(?_:if((((3:Nat):Int) !=3)=true) then _ else _);refine dN (rfl)<|bv<|seq<|b2<|aE ?_;intro y;refine a2<|a2<|a2<|dr<|eA a c 2 d Br<|dr<|Y a c 0 d d<|a8 0 a λz b a=>k7 a .(1) d λB b a=>?_;obtain⟨C,g⟩:=Em (w:=w) (m/64) (rN aW);refine wu a (a.Z.l _ _ El) (bO (rfl) (rfl) (rfl)) d (wt _) g λb a=>a8 6 a λD b a=>m4 a .(1) (Jn aW) λE b a=>a2<|dr<|eA a c 3 d Q7<|dr<|Y a c 0 d d<|a8 1 a λF b a=>k7 a .(1) d λG b a=>?_;obtain⟨H,i⟩:=WC (w:=w) (m/16&&&3) (En _);refine wu a (a.Z.l _ _ WB) (bO (rfl) (rfl) (rfl)) d (wt _) i λb a=>a8 4 a λI b a=>m4 a .(1) (kG (En _) .(1)) λJ b a=>eZ a λK b a=>dr<|eA a c 2 d Br<|dr<|Y a c 0 d d<|a8 2 a λM b a=>k7 a .(1) d λO b a=>?_;obtain⟨P,l⟩:=Em (w:=w) (m&&&15) (WD _);refine wu a (a.Z.l _ _ El) (bO (rfl) (rfl) (rfl)) d (wt _) l λb a=>eZ a λQ b a=>j (WE m aW)<|f _ _ a.aS a.Z
section
open PySem PySem.W PyProof.Rows PySem.Calls PySem.Spec PySem.StrLaws PySem.Builtin PySem.Builtin.Str
structure nr(w:List Nat):Prop where
 len:w.length=3
 oW:∀e∈w,kR e=false
theorem qM:∀{ct:List (List Nat)},ct≠[]->(∀i∈ct,nr i)->(cL ct).length+1=4*ct.length
 |[i],_,a=>by refine(?_:i.length+1=4);exact j ((a i aG).len) d
 |i::b::c,_,a=>by have e:=qM (ct:=b::c) (aap b c) λf g=>a f (.tail _ g);refine(?_:(i++32::cL (b::c)).length+1=_);refine j dZ (j ec (j ((a i aG).len) ?_));simp only[ec] at e⊢;exact K6 e
theorem Eo:∀{ct:List (List Nat)},(∀i∈ct,nr i)->∀m,m<(cL ct).length->kR ((cL ct).getD m 0)=decide (m%4=3)
 |[],_,m,a=>absurd a (tY _)
 |[i],d,m,a=>by have c:=(d i aG).len;have b:m<i.length:=a;(refine j (show(cL [i]).getD m 0=i[m] from by refine(?_:i.getD m 0=_);exact FinIter.getD_get i m 0 b) (j ((d i aG).oW _ (j9 b)) ?_));exact(decide_eq_false (yQ c b)).symm
 |i::e::f,d,m,a=>by
  have c:=(d i aG).len;refine(?_:kR ((i++32::cL (e::f)).getD m 0)=_);refine j dY ?_;by_cases b:m<3
  ·refine j (pD (yW c b)) ?_;have h:m<i.length:=yW c b;refine j (da h) (j He (j ((d i aG).oW _ (j9 h)) ?_));exact(decide_eq_false (Kq b)).symm
  ·refine j (pE (KO c b)) (j c ?_);by_cases k:m=3
   ·refine j k<|(?_:kR 32=_);decide+kernel
   ·have g:m-3=(m-4)+1:=by exact IH b k
    refine j g (j mq (be dY ?_));have l:m-4<(cL (e::f)).length:=by have:m<(i++32::cL (e::f)).length:=a;rw[dZ,ec] at this;exact JC c g this
    refine j (Eo (ct:=e::f) (λn o=>d n (.tail _ o)) (m-4) l) ?_;congr 1;exact propext ⟨λa=>by exact HY a,λa=>by exact OP g a⟩
theorem Ep:∀{ct:List (List Nat)},(∀i∈ct,nr i)->∀{l:Nat} {w:List Nat},ct[l]?=some w->((cL ct).drop (4*l)).take 3=w
 |[i],b,0,w,a=>by simp only[j1,kH] at a;subst a;refine(?_:(i.drop 0).take 3=i);(exact j xP (j (nV (by refine j ((b i aG).len) ?_;exact c9 _)) d))
 |[i],b,l+1,w,a=>by trivial
 |i::c::e,b,0,w,a=>by simp only[j1,kH] at a;subst a;refine(?_:((i++32::cL (c::e)).drop 0).take 3=i);(exact j xP (j (rn (by refine j ((b i aG).len) ?_;exact c9 _)) (j (nV (by refine j ((b i aG).len) ?_;exact c9 _)) d)))
 |i::c::e,b,l+1,w,a=>by
  simp only[mq] at a;refine(?_:((i++32::cL (c::e)).drop (4*(l+1))).take 3=w);have f:4*(l+1)=i.length+(4*l+1):=by refine j ((b i aG).len) ?_;exact Ni
  refine j f (j aaT (j (aaA Nj) ?_));have g:i.length+(4*l+1)-i.length=4*l+1:=IL;rw[g,ix,Hg];exact Ep (λh k=>b h (.tail _ k)) a
noncomputable def o1(l:Nat):Array (Nat×Nat):=((bH l).map λl=>(4*l,4*l+3)).toArray
theorem WG(l:Nat):o1 (l+1)=(o1 l).push (4*l,4*l+3):=by unfold o1;refine j h1<|j g3<|(xD ..).symm
noncomputable def kB(m:Nat):SwSt:=(none,o1 (m/4),if m%4=0 then none else some (4*(m/4)))
section
variable{s:al}{iR m:Nat}{c:Array (Nat×Nat)}
theorem WH(a:¬((c.size==iR)=true))(b:kR (s.cps.getD m 0)=false):swBody s iR m (none,c,none)=pure (.yield (none,c,some m)):=by unfold swBody;exact j (if_neg a) (j b d)
theorem Er{b:Nat}(a:¬((c.size==iR)=true))(e:kR (s.cps.getD m 0)=false):swBody s iR m (none,c,some b)=pure (.yield (none,c,some b)):=by unfold swBody;exact j (if_neg a) (j e d)
theorem WI{b:Nat}(a:¬((c.size==iR)=true))(e:kR (s.cps.getD m 0)=true):swBody s iR m (none,c,some b)=pure (.yield (none,c.push (b,m),none)):=by unfold swBody;exact j (if_neg a) (j e d)
theorem WJ(e:kR (s.cps.getD m 0)=decide (m%4=3))(g:m<iR):swBody s iR m (kB m)=pure (ForInStep.yield (kB (m+1))):=by
 have f:¬(((o1 (m/4)).size==iR)=true):=by unfold o1;rw[cN,eG,xs,beq_iff_eq];exact Jt g
 rcases OQ (c:=m) with a|a|a|a
 ·rw[a] at e;have d:=JJ a;unfold kB;refine j (if_pos a)<|j d<|j (if_neg (us d))<|j (JN a)<|WH f e
 ·rw[a] at e;have d:=JK a;unfold kB;(refine j (if_neg (by rw[a];exact nofun)) (j d (j (if_neg (us d)) ?_)));exact Er f e
 ·rw[a] at e;have d:=JL a;unfold kB;(refine j (if_neg (by rw[a];exact nofun)) (j d (j (if_neg (us d)) ?_)));exact Er f e
 ·rw[a] at e;have d:=JI a;unfold kB;(refine j (if_neg (by rw[a];exact nofun)) (j d (j (if_pos (yL d)) (j (WG ..) ?_))));have h:=WI (b:=4*(m/4)) f e;refine j (JM (yL d))<|h
end
theorem Es{s:al}{iR:Nat}(c:∀m,m<s.length->kR (s.cps.getD m 0)=decide (m%4=3))(d:s.length<iR):∀(R a:Nat),a+R=s.length->(forIn (List.range' a R) (kB a) (swBody s iR)).run=kB (a+R)
 |0,a,_=>rfl
 |R+1,a,b=>by rw[List.range'_succ,mB,WJ (c a (uw b)) (KI d b)];have:=Es c d R (a+1) (um b);refine j (show a+(R+1)=a+1+R by exact pX)<|this
theorem Et{ct:List (List Nat)}(e:ct≠[])(cY:∀i∈ct,nr i):spaceWords ⟨(cL ct).toArray⟩ ((cL ct).length+1)=(bH ct.length).map λl=>(4*l,4*l+3):=by
 have b:pF ⟨(cL ct).toArray⟩=(cL ct).length:=cN ..;have h:∀a,a<pF ⟨(cL ct).toArray⟩->kR ((⟨(cL ct).toArray⟩:al).cps.getD a 0)=decide (a%4=3):=λa f=>by
  rw[b] at f;have:(⟨(cL ct).toArray⟩:al).cps.getD a 0=(cL ct).getD a 0:=by simp[dY,Array.getD_eq_getD_getElem?]
  refine j this<|Eo cY a f
 refine j (sw_eq ..) ?_;have g:=Es (s:=⟨(cL ct).toArray⟩) (iR:=(cL ct).length+1) h (by refine j b ?_;exact uN) ((cL ct).length) 0 (by refine j b ?_;exact Nk);have k:kB 0=(none,#[],none):=rfl;rw[k] at g;refine j b (j g (j (iu ..) ?_));have c:=qM e cY;have m:0<ct.length:=by cases ct with|nil=>exact absurd d e|cons=>simp
 unfold swEnd kB;have n:(cL ct).length%4≠0:=JH c;have o:(cL ct).length/4=ct.length-1:=JG c;simp only[if_neg n,o,b];have p:ct.length=(ct.length-1)+1:=Kd m;conv=>rhs;rw[p,h1]
 simp;exact⟨rfl,JF c⟩
end
theorem wv:∀m,m<1024->nr (cv m):=by
 have b:∀m,m<1024->((cv m).all λa=>!kR a)=true:=by decide+kernel
 intro m c;exact⟨rfl,λa d=>by simpa using List.all_eq_true.mp (b m c) a d⟩
theorem Eu:∀m,m<1024->(placed ⟨(cv m).toArray⟩ λa0 W=>x0 (cv m).toArray a0)=(cv m).toArray:=by decide+kernel
theorem Ev:∀(b:List al) (l:Nat) (c:List (List Nat)),b=c.map (λG=>(⟨G.toArray⟩:al))->dW (strsFrom l b) c
 |[],_,[],_=>trivial
 |e::b,l,G::c,a=>by simp only[dC,Hh] at a;exact⟨⟨l,by exact j a.1 d⟩,Ev b (l+1) c a.2⟩
 |[],_,_::_,a=>by trivial
 |_::_,_,[],a=>by trivial
theorem WK{ct:List (List Nat)}(c:ct≠[])(cY:∀i∈ct,nr i):aaU ⟨(cL ct).toArray⟩=ct.map λG=>(⟨G.toArray⟩:al):=by
 unfold aaU;have d:pF ⟨(cL ct).toArray⟩=(cL ct).length:=cN ..;refine j d<|j (Et c cY)<|j nN<|pi λb=>j dR (j dR ?_);by_cases a:b<ct.length
 ·refine j (nY a) (j (da a) ?_);have:=Ep cY (da a);simp only[G8,Function.comp_apply];congr 1;show aaV _ _ _=_;unfold aaV;congr 1;refine j List.extract_toArray (j List.extract_eq_drop_take ?_);congr 1;refine j (show 4*b+3-4*b=3 by exact IM)<|this
 ·refine j (jy (by simpa using a)) (j (jy (lN a)) ?_);rfl
theorem WL{ct:List (List Nat)}(a:N w h e I led s)(b:2<=ct.length)(o:ct.length<=1000)(cY:∀i∈ct,nr i)(f:∀c O R k,N w h e I ((c,a4 O R)::led) k->dW O ct->r (.ref c) k):aa w n (call (.builtin "str.split") [ds (cL ct) u]) r M s:=by
 have g:ct≠[]:=by intro l;rw[l] at b;exact τ 1 b
 have q:=qM g cY;have m:pF ⟨(cL ct).toArray⟩=(cL ct).length:=cN ..;have p:=Et g cY;refine⟨nO aaW (nS _ _ _) PySem.F.entry_str_split (PySem.F.args_str_split_1 _) (meets_str_split_space ⟨(cL ct).toArray⟩ u (ck (by refine j m ?_;exact Ph o q)) (ck (by rw[m,p,eG,xs];exact kV o))) ?_⟩;have t:(aaX ⟨(cL ct).toArray⟩ (pF ⟨(cL ct).toArray⟩+1)==[(0,pF ⟨(cL ct).toArray⟩)])=false:=by refine j m (j p (beq_eq_false_iff_ne.mpr ?_));intro l;have:=congrArg kI l;simp at this;exact Nl b this
 refine j t<|j (if_neg iY)<|j (WK g cY) ?_;have v:=(a.e8 (strsFrom s.toks (ct.map λx=>(⟨x.toArray⟩:al)))).a3 (u:=s.toks+(aaX ⟨(cL ct).toArray⟩ (pF ⟨(cL ct).toArray⟩+1)).length);exact f _ _ 0 _ v (Ev _ _ _ d)
theorem Ew{b:ExceptHandler}{c:List ExceptHandler}{r:eb->H->Prop}(f:aa w n (ej body D) (sd w n bq D r M) dh s):aa w n (g2 (.Try body (b::c) bq [] pos) D) r M s:=⟨Hi (cy f.run (λd e a=>by cases d<;>first|exact a.run|exact a) λW W a=>a.elim)⟩
theorem WM(a:N w h e I led s)(aW:m<1024)(f:∀u k,N w h e I led k->r (ds (cv m) u) k):aa w n (call (.builtin "str.lower") [ds (cv m) u]) r M s:=by have c:=gives_str_lower ⟨(cv m).toArray⟩ u (by refine(?_:Builtin.Str.tooLong (placed ⟨(cv m).toArray⟩ λb W=>x0 (cv m).toArray b).size=false);refine j (Eu m aW) ?_;rfl);have g:(⟨placed ⟨(cv m).toArray⟩ λb W=>x0 (cv m).toArray b⟩:al)=⟨(cv m).toArray⟩:=j (Eu m aW) d;rw[show(⟨placed ⟨(cv m).toArray⟩ λb W=>x0 (⟨(cv m).toArray⟩:al).cps b⟩:al)=⟨(cv m).toArray⟩ from g] at c;exact⟨call_gives aaY (nS _ _ _) PySem.F.entry_str_lower (PySem.F.args_str_lower_1 _) c ⟨ey d,f _ _ a.a3⟩⟩
theorem WN:bK (ak w h) 3 (y "_index")=some (some (.ref 132)):=by kernel_rfl
theorem WO:cX (ak w h) (.ref 132)=true:=by kernel_rfl
theorem WQ(x:bb h)(L:aH w h s)(A:aR n 4 14){is:List Nat}(K:2<=is.length)(z:is.length<=1000)(B:∀m∈is,m<1024)(f:∀G O R k,bP [] s k->aH w h k->ei s.heap k.heap G (a4 O R)->cf O is->r (.ref G) k):bk w n (.call (.ref 144) ⟨[ds (cL (is.map cv)) u],[]⟩) (bW r) s:=by
 refine cZ (q:=3) (S:=11) (RG x) P0 .none L trivial A.mono ?_;intro aa C M ab ac D a A;refine seq (Ew (seq (b2 ?_)));refine ie (aN:=[y "word"]) (aX:=[y "_index"]) _ d (by decide+kernel) ?_;refine gu xT aaW PySem.F.type_str_split<|Y a D 0 d d<|(bO (nS _ _ _) ((λl o=>nomatch o))<|WL (ct:=is.map cv) a (by simpa using K) (by simpa using z) (λad N=>by(refine bp (List.mem_map.mp N) λm b e=>?_;obtain rfl:=e);exact wv m (B m b)) λl O R C a E=>?_);have p:=a.ld _ aG;have F:O.toArray.size=is.length:=by simp[E.len]
 replace a:=a.cd (cJ _ _);refine gP A.bd a (IsList.new p.1) (dS (p.2.1) (bC) nofun (p.2.2.ge)) λP C Q T a=>jf (aN:=[y "word"]) (aX:=[y "_index"]) (fy A.bd P l Q O.toArray) (λK=>.none) (λK=>rfl) a T D _ (by decide+kernel) (ck (by refine j F ?_;exact zf z)) (λt g K=>cf g (is.take t)) trivial ?_ ?_
 ·intro ae t af g H I U ag a5 ah ai V i M aj v W X a;(refine bo (hj W) λak e=>?_;obtain rfl:=e);(refine db (E.at (by simpa using V)) λal am c e=>?_;obtain rfl:=e);rw[dR] at c;cases b:is[t]? with
  |none=>rw[b] at c;exact cz c
  |some m=>rw[b] at c;(obtain rfl:=dg c;clear c);have J:=B m (cx b);refine dF<|cp<|d8 a v 0 d d λa5 a=>b3 a v 0 d WN WO<|gu xT aaY PySem.F.type_str_lower<|Y a v 0 d d<|(bO (nS _ _ _) ((λl o=>nomatch o))<|WM a J λan a5 a=>⟨a.Z.l,WF x a.Z A.mono J λao ap Z L=>?_⟩);replace a:=a.call Z L;refine X _ I _ _ ?_ (by dsimp) a;refine j hf<|j b<|i.dU (cf.gO _ _)
 ·intro U g H I a5 i aq a;rw[F,h3] at i;exact f _ g H a5 a.aS a.Z (fC a aG) i
noncomputable def s3(F:Nat->p->Prop)(l:Nat):List p->Prop
 |[]=>True
 |E::ar=>F l E/\s3 F (l+1) ar
section
variable{L:x}{br ae:List x}{ap:Array f2->Array f2->Prop}{v:Nat}{P:Nat->p->Prop}{dz:Nat->H->Prop}
theorem Ey(W:j3 ff w n L br ae ap v P dz):∀(R l:Nat) (s:H) (r:List p->H->Prop),l+R<=v->dz l s->(∀ar k,ar.length=R->s3 P l ar->dz (l+R) k->nK ae ap s k->r ar k)->aL (aZ w) n (draw (.ref L) R) r M s
 |0,l,s,r,_,a9,c=>by refine(?_:aL _ _ (pure []) r M s);exact aI (c [] s d trivial a9 ⟨λY Y Y e=>e,W.grefl _,rfl,rfl,c9 _⟩)
 |R+1,l,s,r,f,a9,c=>by refine(?_:aL _ _ (gE (.ref L)>>=_) r M s);refine ab<|W.item l s _ _ (zu f) a9 λm o q t a=>ab<|dH<|Ey W R (l+1) o _ (zO f) t λar a5 u x y b=>aI<|c (m::ar) a5 (by simp[u]) ⟨q,x⟩ (by refine j (show l+(R+1)=l+1+R by exact pX) ?_;exact y) ⟨λg h i e=>b.heap g h i (a.heap g h i e),W.gtrans _ _ _ a.gens b.gens,b.drawn.trans a.drawn,b.os.trans a.os,bZ a.toks b.toks⟩
theorem WR(W:j3 ff w n L br ae ap v P dz)(h:s.TypeIs (.ref L) "generator")(a9:dz 0 s){r:List p->H->Prop}(i:∀ar k,ar.length=v->s3 P 0 ar->nK ae ap s k->r ar k):aL (aZ w) n (xY (.ref L) v none) r M s:=by unfold xY;refine ab ?_;unfold notIterableAtAll;refine ab<|j4 h slot_gen_iter.lookup<|aI ?_;simp only[fO,if_false];refine ab<|dH<|W.self 0 s _ _ a9<|ab<|dH<|Ey W v 0 s _ zL a9 λar l c m d a=>j (if_neg (Pl c))<|ab<|dH<|W.done l _ _ (by rw[iu] at d;exact d) λa5 b=>j (if_neg iY)<|aI (i ar a5 c m ⟨λe f g o=>b.heap e f g (a.heap e f g o),W.gtrans _ _ _ a.gens b.gens,b.drawn.trans a.drawn,b.os.trans a.os,bZ a.toks b.toks⟩)
end
noncomputable def hU(w:aD)(n:aQ)(M:p->H->Prop)(D:ao):List am->List p->(H->Prop)->H->Prop
 |o::a,E::ar,aO,s=>aa w n (dX o D E) (λW k=>hU w n M D a ar aO k) M s
 |[],[],aO,s=>aO s
 |_,_,_,_=>False
theorem WS{cG:List am}:∀{ar:List p} {aO:H->Prop} {s:H},hU w n M D cG ar aO s->aL (aZ w) n (assignInOrder (cG.map λo=>dX o D) ar) (λW k=>aO k) M s:=by
 induction cG with
 |nil=>
  intro ar aO s a;cases ar with
  |nil=>have b:aO s:=a;exact xO (Q:=λW k=>aO k) b
  |cons c ar=>exact Gl a
 |cons o cG d=>
  intro ar aO s a;cases ar with
  |nil=>exact Gl a
  |cons c ar=>have b:aa w n (dX o D c) (λW k=>hU w n M D cG ar aO k) M s:=a;exact pz (Q:=λW k=>aO k) (aa.J b λW k e=>d e)
theorem WT{v:Nat}{F:Nat->p->Prop}{S:Nat}{r:Unit->H->Prop}(a:N w h e I led s)(d:e.af.t=false)(g:i7 w h e led v F q S c s)(A:aR n (q+3) (S+7))(bi:bl.length=v)(f:∀ar k,ar.length=v->s3 F 0 ar->N w h e I led k->hU w n M D bl ar (λk=>r () k) k)(i:autoParam (assignEach bl D=bl.map λo=>(false,dX o D)) b0):aa w n (dX (.Tuple bl l pos) D (.ref c)) r M s:=by
 refine aV λL m=>kU g.eh λO P Q R W b t T U u x=>?_;all_goals refine m ?_
 have y:s.TypeIs (.ref c) "generator":=(t _ 0 s (b _ A)).elim λY z=>z.typeIs;refine⟨j (assign_Tuple ..)<|ab (lu ?_)⟩;unfold unpack;refine j i ?_;have B:(bl.map λo=>(false,dX o D)).length=v:=by simp[bi]
 have C:(bl.map λo=>(false,dX o D)).findIdx? (·.1)=none:=by simp
 have E:(bl.map λo=>(false,dX o D)).map (·.2)=bl.map λo=>dX o D:=by simp
 refine j B<|j C<|j E<|ab (dH (WR (W _ A) y (b _ A) λar k G J K=>WS (f ar k G J (a.lV d K u x))))
section
variable{w:aD}{h:x->a1}{e:aP}{I:List (Option p)}{led:List (x×V)}{s:H}{n:aQ}{M:p->H->Prop}{r:p->H->Prop}{D:ao}{pos bB:az}{g:c7}
noncomputable def ip(f:au):List Addr:=(bH f.objs.size).filter λb=>decide (837<=b)&&(f.get? b).isSome
theorem WU{f:au}{b:x}{J:V}(a:837<=b)(o:f.get? b=some J):b∈ip f:=List.mem_filter.mpr ⟨List.mem_range.mpr (cr o),by simp[a,o]⟩
theorem WV{f:au}{b:x}(o:f.get? b=none):b∉ip f:=λa=>by have:=(List.mem_filter.mp a).2;simp[o] at this
theorem WW(G:List x)(f:au):(fw G f).objs.size=f.objs.size:=by
 induction G with
 |nil=>rfl
 |cons b G a=>refine be a ?_;refine(?_:((fw G f).update b _).objs.size=_);simp
theorem Ez{G:List x}{f:au}{b:x}{J:V}(o:(fw G f).get? b=some J):f.get? b=some J:=by
 by_cases a:b∈G
 ·exact cz ((i4 a).symm.trans o)
 ·rwa [ib a] at o
structure lh(w:aD)(s:H)(v:Nat)(F:Nat->p->Prop)(q S:Nat)(c:x)(k:H):Prop where
 eh:∃(br ae:List x) (ap:Array f2->Array f2->Prop) (dz:aQ->Nat->H->Prop),(∀n,aR n (q+3) (S+7)->j3 ff w n c br ae ap v F (dz n))/\(∀n,aR n (q+3) (S+7)->dz n 0 k)/\(∀n m s,dz n m s->∃g,s.heap.IsGen c g)/\(∀b∈br,b<k.heap.objs.size)/\c∈br/\
  (∀b∈ae,s.heap.get? b=none/\837<=b)/\sl s.gens.size ap/\∀b∈br,b<837\/s.heap.get? b=none
theorem lh.sr{v q S:Nat}{F:Nat->p->Prop}{c:x}{k:H}(a:lh w s v F q S c k):GenR w s v F q S c k:=by
 refine aV λr b=>pM a.eh λd e f g h i j l m n o W=>?_;all_goals refine b ?_
 exact⟨d,e,f,g,h,i,j,l,m,n,o⟩
noncomputable def c7.WX(g:c7)(c:x):List Addr:=c::g.l.D.locals::(bH g.g7.objs.size).filter λb=>decide (b<837)||(g.g7.get? b).isSome||decide (b∈g.br)
theorem c7.WY(ap:g.bL w){F:Nat->p->Prop}{c:x}{ep:Nat}(m:g.g7.objs.size<c){q S:Nat}(A:aR n (q+3) (S+7)):
 j3 ff w n c (g.WX c) (g.l.D.locals::g.ae) (f6 ep) g.v F (g.dz w h F c ep n):=
 {c7.walks (h:=h) (F:=F) (ep:=ep) ap m A with
  sub:=λb d=>by
   rcases List.mem_cons.mp d with rfl|d
   ·exact .tail _ aG
   ·have d:=(ap.W {} rfl).W.sub b d;exact .tail _ (.tail _ (List.mem_filter.mpr ⟨List.mem_range.mpr (ap.k2 b d).2,by simp[d]⟩))
  frame:=λH o r I a9 Y i=>by
   have j:∀b,b<g.g7.objs.size->(b<837\/(∃a,g.g7.get? b=some a)\/b∈g.br)->∀a,o.heap.get? b=some a->r.get? b=some a:=λb d s a e=>i b (.tail _ (.tail _ (List.mem_filter.mpr ⟨List.mem_range.mpr d,by rcases s with k|⟨a,k⟩|k<;>simp[k]⟩))) a e;refine aV λJ t=>?_;obtain⟨⟨a,u,v,l,A⟩,y,z,f,B,C⟩:=a9;all_goals refine t ?_
   refine⟨(hh (a) (u) (v) (i c (q4 ..) a l) (A)),y,z,⟨f.Z.ext λb d a e=>j b (cQ d ap.jJ) (.inl d) a e,?_,f.len,(ap.W {} rfl).W.frame _ _ _ f.it λb d a e=>j b (ap.k2 b d).2 (.inr (.inr d)) a e,λb a e D=>j b (cr e) (.inr (.inl ⟨a,e⟩)) a (f.ref b a e D)⟩,B,C⟩;refine f4 f.ch λa E G l A=>(hh (a) (E) (G) (i _ (.tail _ aG) _ l) (A))}
theorem WZ{bM target iter:am}{scope:bj}{aN aX:List al}{L:x}{br ae:List x}{v:Nat}{P:Nat->p->au->Prop}{cH:Nat->au->Prop}(W:∀A:aQ,A.handled=none->eY w A L br ae v P cH)(B:n.handled=none)(a:N w h (e.push (cs (W n B) 0)) I led s)(af:d7 e ae)(G:e.af.t=false)(ag:e.l.bL)(z:x×x)(ar:e.D.code=.ref z.1)(H:z∈hM)(ba:List (al×x))(as:lv scope e.D=pure ba)(R:i6 scope aN aX=true){q S:Nat}{F:Nat->p->Prop}(av:sm w h e.D scope ba aN aX L v P ae q S target bM F (fw (ip e.aK.heap) s.heap))(aw:∀b∈br,e.aK.heap.get? b=none)(f:∀c k,N w h e I led k->lh w e.aK v F q S c k->r (.ref c) k):sk w n e.D bM target iter scope pos r M (.ref L) s:=by
 refine⟨a.Z.mQ,cA ?_⟩;intro ax;have a2:∀b l,s.heap.get? b=some l->837<=b->b<s.heap.objs.size:=λb l m M=>cr m;refine cy (BQ (e:=e.push (cs (W n B) 0)) (r:=λT k=>N w h (e.push (cs (W n B) 0)) I led k/\∀b l,s.heap.get? b=some l->837<=b->k.heap.get? b=some l) a G z ar H λT k ay t=>⟨ay,t⟩) (λcode g X=>?_) λM M m=>m;refine cA ?_;intro ax;(refine bE X λa az=>?_;clear X);refine j ag.kf<|a.Z.si (bF (ba) (as) (λo aA ah=>?_));have C:o.objs.size=g.heap.objs.size+1:=by rw[ah.1,hZ]
 have aB:∀b l,g.heap.get? b=some l->o.get? b=some l:=λb l m=>ah.extBut b l (g0 (cr m)) (cM _ m);have J:∀b l,g.heap.get? b=some l->(o.push {cls:=.type "generator",data:=.fields #[.int g.gens.size 0,.str "<genexpr>" (g.toks+1),.str (e.D.qual++"<genexpr>") (g.toks+1+1)]}).get? b=some l:=λb l m=>cM _ (aB b l m);let V:c7:=⟨qg scope ba g.heap.objs.size code e.D aN aX,L,br,ae,v,P,cH,fw (ip e.aK.heap) g.heap,[]⟩;have Y:=i6.eg R (D:=e.D) (ba:=ba) (U:=g.heap.objs.size) (code:=code) ag.kf;have aC:vw w h e.D scope ba aN aX L v P br ae cH (λt f o y z=>(W n B).W.frame t f o z y) q S target bM F (fw (ip e.aK.heap) s.heap):=av.B1;have E:(fw (ip e.aK.heap) g.heap).objs.size=g.heap.objs.size:=WW _ _;have ai:V.bL w:=⟨W,Y,by refine(?_:g.heap.objs.size=(fw (ip e.aK.heap) g.heap).objs.size);exact j E d,by refine(?_:837<=(fw (ip e.aK.heap) g.heap).objs.size);refine j E ?_;exact a.Z.size,λb i=>by
  refine aV λa3 aD=>?_;(refine dM (a.b9 b (cU _ i)) λX X X aE aj=>?_;(refine bo aj λl aF=>?_;clear aj));all_goals refine aD ?_
  exact⟨aE,by refine(?_:b<(fw (ip e.aK.heap) g.heap).objs.size);refine j E ?_;exact cr aF⟩⟩
 have u:=a.drop;have Z:∀b∈g.heap.objs.size::ae,Apart e led b:=λb i=>by
  rcases List.mem_cons.mp i with rfl|i
  ·have ak:∀l,g.heap.get? g.heap.objs.size≠some l:=λl m=>dn _ (cr m);exact⟨u.fresh,mr u.lt,λf=>let⟨_,_,_,_,l,m⟩:=u.b9 _ f;ak l m,λf=>let⟨K,G,m⟩:=List.mem_map.mp f;ak K.2 (m▸(u.ld K G).1)⟩
  ·have y:=a.b9 b (cU _ ((W n B).W.sub b i));exact⟨(af.own b i).1,y.1,(af.own b i).2,y.2.2.1⟩
 have an:e.aK.gens.size<=g.gens.size:=by
  rcases gB g.gens.size e.aK.gens.size with f|f
  ·have:=u.aS.gens g.gens.size _ (q5 f);exact cz ((tH (c9 _)).symm.trans this)
  ·exact f
 have ao:N w h e I led {g with heap:=o.push {cls:=.type "generator",data:=.fields #[.int g.gens.size 0,.str "<genexpr>" (g.toks+1),.str (e.D.qual++"<genexpr>") (g.toks+1+1)]},toks:=g.toks+1+1+1}:=u.step (F:=[]) (k:={g with heap:=o.push {cls:=.type "generator",data:=.fields #[.int g.gens.size 0,.str "<genexpr>" (g.toks+1),.str (e.D.qual++"<genexpr>") (g.toks+1+1)]},toks:=g.toks+1+1+1}) ⟨λb l X m=>J b l m,rfl,rfl,rfl⟩ (λb i=>nomatch i) (λf=>nomatch f) d (λz H=>J _ _ (u.ld z H).1) λb i f=>nomatch f;have ap:=ao.vv (Q:=g.gens.push (.fresh (.compStart (.GeneratorExp bM [⟨target,iter,[],0⟩] scope pos) 0 (.ref L) .none (genEnv scope ba g.heap.objs.size code 0 e.D)))) G (λaa ab=>by exact(Φ (cQ ab an)).trans (q5 _).symm) (ao.Z.bare.push d);refine f _ _ ap ⟨_,_,f6 g.gens.size,V.dz w h F o.objs.size g.gens.size,λA ac=>c7.WY ai (by refine(?_:(fw (ip e.aK.heap) g.heap).objs.size<_);refine j E ?_;exact y9 C) ac,λA ac=>?_,λA aa s y=>⟨_,y.vu⟩,λb i=>?_,.head _,λb i=>⟨(Z b i).own.new,(Z b i).own.ge⟩,λy a4 t=>⟨λaa ab=>t.1 aa (g0 (cQ ab an)),t.2⟩,λb i=>?_⟩
 ·(refine⟨(h5 (_) (_) (_) (eX _ d) (rfl) (rfl) (rfl)),some (.ref L)::aN.map λX=>none,_,⟨ap.Z,?_,by refine(?_:((some (e4 L))::aN.map λX=>none).length=((".0":al)::aN).length);simp,(W n B).W.frame _ _ _ a.bG.1 λb W l m=>J b l m,λb l m W=>J b l (Ez m)⟩,Ψ ..,λaq aH=>⟨rfl,BY (n:=A.in1) ai (q:=q) (S:=S) (ac.in1.mono za zb) ?_ ?_ aq aq _ aH ⟨λW W W W m=>m,rfl,rfl,rfl⟩⟩⟩)
  ·refine(?_:Heap.Ns _ g.heap.objs.size (ez (".0"::aN) _));refine j (BZ _ Y.h8) ?_;exact aA.push _
  ·simp only[i6,eH,beq_iff_eq,hc,iw,decide_eq_true_eq,bne_iff_ne] at R;exact R.1.1.1.1.1.1.2
  ·intro aI t T b aJ aK aL aM aO aP aR aS;refine aC _ _ _ _ aI t T aJ aK _ Y ?_ aL aM aO aP (λW aT aU W c b e=>⟨c,aT,b,aU,e⟩) aR aS;intro H aW O l m i aY;refine aW O l ?_ i aY;have aZ:O∉ip e.aK.heap:=λK=>cz ((i4 K).symm.trans m);refine(?_:(fw (ip e.aK.heap) g.heap).get? O=some l);refine j (ib aZ) ?_;exact az O l (Ez m) i
 ·refine(?_:b<(o.push _).objs.size);refine j (hZ ..) ?_;rcases List.mem_cons.mp i with rfl|i
  ·exact qY _
  rcases List.mem_cons.mp i with rfl|i
  ·refine(?_:g.heap.objs.size<_);exact y3 C
  ·have a0:b<g.heap.objs.size:=by have:=List.mem_range.mp (List.mem_filter.mp i).1;rw[show V.g7.objs.size=g.heap.objs.size from E] at this;exact this
   refine j C ?_;exact nE (nE a0)
 ·rcases List.mem_cons.mp i with rfl|i
  ·refine .inr (u.eC (b:=o.objs.size) ?_ (by refine j C ?_;exact ml a.Z.size)).own.new;cases m:g.heap.get? o.objs.size with
   |none=>rfl
   |some l=>exact absurd (cr m) (by refine j C ?_;exact Nat.not_lt.mpr (gZ _))
  rcases List.mem_cons.mp i with rfl|i
  ·exact .inr (Z _ aG).own.new
  ·have i:=(List.mem_filter.mp i).2;simp only[pr,decide_eq_true_eq,Γ] at i;rcases i with(i|⟨l,m⟩)|i
   ·exact .inl i
   ·have m:(fw (ip e.aK.heap) g.heap).get? b=some l:=m;rcases gB b 837 with ad|ad
    ·exact .inl ad
    refine .inr ?_;cases a1:e.aK.heap.get? b with
    |none=>rfl
    |some a5=>exact cz ((i4 (WU ad a1)).symm.trans m)
   ·exact .inr (aw b i)
end
section
variable{w:aD}{h:x->a1}{e:aP}{I:List (Option p)}{led:List (x×V)}{s:H}{n:aQ}{M:p->H->Prop}{r:p->H->Prop}{D:ao}{pos bB:az}{g:c7}
theorem N.ww{i:eK}(a:N w h (e.push i) I led s){hd:eK}{ae:List x}(g:∀f,hd.P f->∀b J,(fw (ip e.aK.heap) s.heap).get? b=some J->837<=b->b∉ae->f.get? b=some J)(cY:∀b∈ae,b∈i.br)(m:Nat){c:x}{J:V}(f:led[m]?=some (c,J)):∀d:au,hd.P d->d.get? c=some J:=λd j=>g d j c J ((ib (WV (a.ld _ (cx f)).2.2.new)).trans (a.at m f.symm)) (a.ld _ (cx f)).2.2.ge λk=>(a.b9 c (cU _ (cY c k))).2.2.1 (fN (cx f))
theorem W0(Q:bb h)(L:aH w h s)(A:aR n 4 20){E v di:Nat}{u eN qe:aF}(K:di<=20)(bi:v<=40)(args:js)(R:∀doc,hE (mR.d5 doc) args=pure [(y "value",.int E u),(y "length",.int v eN),(y "radix_bits",.int di qe)])(f:∀c k,bP [] s k->aH w h k->lh w s v (λl t=>∃u,t=.int (de E v di l) u) 0 0 c k->r (.ref c) k):
 bk w n (.call (.ref 62) args) (bW r) s:=by
 refine mZ (C:=mR) (q:=4) (S:=20) [y "value",y "radix_bits",y "mask"] .none L trivial A (BC Q) (λQ=>by kernel_rfl) R .(0) .(1) .(0) d d ?_;intro e i s ai aj T o g z a;have U:=z 0 _ d;have M:=z 1 _ d;have B:=z 2 _ d;let o:List (x×V):=[(e+1,i 0),(e+2,i 1),(e+3,i 2)];replace a:N w h _ _ o s:=a;have D:aR (n.deeper (mR.D e (cl [y "value",y "radix_bits",y "mask"] (e+1) []))) 3 17:=aR.deeper A _;refine seq (doc ?_);replace a:=a.a3 (u:=s.toks+1);refine seq<|bN<|aE ?_;intro W;refine a2<|a2<|cg a λQ s a=>cR a g .(0) d (a.at 1 d) M<|vz a fm (zc K) .(1) λQ s a=>cg a λQ s a=>mV a λQ s a=>iL a g 2 d B .(0) d λX s B a=>?_;let o:List (x×V):=[(e+1,i 0),(e+2,i 1),(e+3,X)];replace a:N w h _ _ o s:=a;refine seq<|b2<|jK (aN:=[y "i"]) (aX:=[]) _ d D.hm (by decide+kernel)<|aE ?_;intro W;refine c6 a g 0 d sc ss<|c6 a g 1 d hN hQ<|Y a g 0 d d<|iK a λj W W W s a=>sq (n:=n.deeper _) D.bd a (a.at 0 d) (yS bi) λp s O a=>m0 a<|WZ (aN:=[y "i"]) (aX:=[]) (λZ aa=>hp aa p _ _ v) D.bd a O d g (61,57) d .(1) _ d (by decide+kernel) (q:=0) (S:=0) (F:=λl t=>∃u,t=.int (de E v di l) u) ?_ (λG ab=>by rw[List.mem_singleton.mp ab];exact(O.own p aG).1.new) ?_
 ·intro ak code G al Z l am an k ao ap m H aq ac P ad ae b;(refine eJ (hk ad) λar as I=>?_;obtain rfl:=I);(refine bo P λau I=>?_;clear P;obtain rfl:=I);have J:∀G∈[p],G∈[p]:=λW f=>f;refine dF (cp (bx b m 1 d d ?_));intro k T b;refine a2<|a2<|ic b m d d (a.ww H J 1 d _ b.bG) U<|a2<|Y b m 1 d d<|ic b m d d (a.ww H J 2 d _ b.bG) M<|so b (by have:di<2^64:=yT K;exact intBits_le this) λW k b=>?_;have af:((v:Int)-1+(l:Int)*-1)*(di:Int)=(((v-1-l)*di:Nat):Int):=by rw[GB];congr 1;exact uh ac
  rw[af];refine vy b fm λW k b=>ic b m d d (a.ww H J 3 d _ b.bG) B<|vx b λag k b=>ae _ _ _ _ ⟨ag,?_⟩ (by rfl) b;rw[ft,vD,ft,Int.one_mul,Co];rfl
 ·intro c k b ah;exact f c k b.aS b.Z ah
end
theorem W3(C:Nat->Nat->Nat)(c:Nat)(G:List Nat)(i:Nat):(G++[i]).foldl C c=C (G.foldl C c) i:=by simp
theorem W4(E v di l:Nat)(f:l<v):de E (v+1) di l=de (E/2^di) v di l:=by
 unfold de;have a:(v+1-1-l)*di=di+(v-1-l)*di:=by have:v+1-1-l=(v-1-l)+1:=OR f;refine j this (j (qU ..) ?_);exact Nm
 rw[a,Nat.pow_add,tt]
theorem W5(E v di:Nat):de E (v+1) di v=E%2^di:=by unfold de;refine j (show(v+1-1-v)*di=0 by simp) ?_;simp
theorem W6(E v di:Nat):(bH (v+1)).map (de E (v+1) di)=(bH v).map (de (E/2^di) v di)++[E%2^di]:=by refine j h1 (j g3 (j List.map_singleton (j (W5 ..) ?_)));congr 1;exact Gd λa b=>W4 E v di a (List.mem_range.mp b)
theorem EA(di:Nat):∀(v E:Nat),E<(2^di)^v->((bH v).map (de E v di)).foldl (λc i=>c*2^di+i) 0=E
 |0,E,a=>by
  have:E=0:=by simpa using a
  subst this;rfl
 |v+1,E,a=>by rw[W6,W3,EA di v (E/2^di) (pc (by rw[Nat.pow_succ] at a;refine j (ts ..) ?_;exact a))];refine j (ts ..)<|mh E (2^di)
noncomputable def EB(b:Nat):Nat:=(bH 10).foldl (gM b) 0
theorem EC(b e m:Nat):gM b e m=e^^^gM b 0 m:=by unfold gM;exact j (kP ..) d
theorem wx(b:Nat):∀(G:List Nat) (e:Nat),G.foldl (gM b) e=e^^^G.foldl (gM b) 0
 |[],e=>by simp
 |a::G,e=>by rw[fP,fP,wx b G (gM b e a),wx b G (gM b 0 a),EC b e a,EC b 0 a,kP,rk]
theorem s4(a E:Nat):d9 a E=(((a%2^20)*2^10)^^^E)^^^EB (a/2^20):=by unfold d9 EB;refine j (wx ..) ?_;have:a&&&1048575=a%2^20:=mx a 20;exact j this d
theorem ED{e q E:Nat}(hd:q<2^20):d9 (e^^^q) E=d9 e E^^^(q*2^10):=by
 refine j (s4 ..) (j (s4 ..) ?_);have a:(e^^^q)/2^20=e/2^20:=by rw[<-tU,<-tU,aaI,tU q,Z7 hd,Hj]
 have b:(e^^^q)%2^20=(e%2^20)^^^q:=by exact j aak (j (mi hd) d)
 have c:((e%2^20)^^^q)*2^10=((e%2^20)*2^10)^^^(q*2^10):=by rw[<-pG,<-pG,<-pG,Ha]
 refine j a (j b (j c ?_))
 ac_rfl
theorem wy(e E S:Nat):d9 e (E^^^S)=d9 e E^^^S:=by
 refine j (s4 ..) (j (s4 ..) ?_)
 ac_rfl
theorem W7{e c b q:Nat}(a:c<1024)(d:b<1024)(hd:q<1024):[c,b,q].foldl d9 e=[0,0,0].foldl d9 e^^^(c*2^20^^^(b*2^10^^^q)):=by
 simp only[fP,iE];have f:d9 e c=d9 e 0^^^c:=by rw[<-wy,kP]
 refine j f ?_;have g:d9 (d9 e 0^^^c) b=d9 (d9 e 0) 0^^^(c*2^10^^^b):=by
  refine j (ED (zy a)) ?_;have:d9 (d9 e 0) b=d9 (d9 e 0) 0^^^b:=by rw[<-wy,kP]
  refine j this ?_;ac_rfl
 refine j g ?_;have h:c*2^10^^^b<2^20:=tN (Kj a) (zy d);refine j (ED h) ?_;have i:d9 (d9 (d9 e 0) 0) q=d9 (d9 (d9 e 0) 0) 0^^^q:=by rw[<-wy,kP]
 refine j i ?_;have k:(c*2^10^^^b)*2^10=c*2^20^^^b*2^10:=by rw[<-pG,Ha,pG,pG];congr 1;exact Nn
 refine j k ?_;ac_rfl
theorem W8{i ai l:Nat}(f:ai<2^l):(i*2^l)&&&ai=0:=by
 refine be (pG ..)<|Nat.eq_of_testBit_eq λa=>?_;rw[Nat.testBit_and,Nat.testBit_shiftLeft,Nat.zero_testBit];by_cases b:a>=l
 ·have:ai.testBit a=false:=Nat.testBit_lt_two_pow (cQ f (aaZ .(1) b));rw[this,pw]
 ·simp[b]
theorem EE{i ai l:Nat}(f:ai<2^l):i*2^l^^^ai=i*2^l+ai:=by have:=Ct (i*2^l) ai;rw[W8 f] at this;exact IJ this
theorem W9{z:Nat}(a:z<2^30):(z/2^20%1024)*2^20^^^((z/2^10%1024)*2^10^^^z%1024)=z:=by rw[EE (l:=10) (ai:=z%1024) (eQ _ .(1)),EE (l:=20) IS];exact H1 a
theorem Xa(f:List UInt8)(b:List Nat)(hd:∀i∈b,i<2^30):jc (f.map j5++(b++nb b f))=1:=by
 unfold nb;generalize g:f.map j5++b=c;have m:∀i∈c,i<2^30:=λi d=>by
  rw[<-g] at d;rcases List.mem_append.mp d with a|a
  ·(refine bp (List.mem_map.mp a) λn W o=>?_;obtain rfl:=o);exact kG n.toNat_lt .(1)
  ·exact hd i a
 refine be (lH ..) (j g ?_);have h:jc (c++[0,0,0])<2^30:=Cx (λi d=>(List.mem_append.mp d).elim (m i) λa=>by refine iG a ?_ ?_ ?_<;>decide);have k:jc (c++[0,0,0])^^^1<2^30:=tN h .(1);generalize l:jc (c++[0,0,0])=e at k h⊢;have p:na (e^^^1)=[(e^^^1)/2^20%1024,(e^^^1)/2^10%1024,(e^^^1)%1024]:=by have q:∀i,i&&&1023=i%1024:=λi=>mx i 10;unfold na;simp[h1,q]
 refine j p ?_;unfold jc at l⊢;rw[jv,W7 (eQ _ .(1)) (eQ _ .(1)) (eQ _ .(1)),W9 k,<-jv,l,<-rk,Nat.xor_self,kP]
theorem EF{c b:List UInt8}{m:Nat}(aW:m<min c.length b.length):(hT c b)[m]?=some (c.getD m 0^^^b.getD m 0):=by unfold hT;refine j dR (j (nY aW) ?_);rfl
theorem Xb{c b:List UInt8}(f:c.length=b.length):hT (hT c b) b=c:=by
 have g:(hT c b).length=c.length:=by rw[vW,f,lp]
 refine pi λe=>?_;by_cases a:e<c.length
 ·(refine j (EF (by refine j g (be f (j (lp ..) ?_));exact a)) ?_);have h:(hT c b).getD e 0=c.getD e 0^^^b.getD e 0:=by(refine j dY (j (EF (by refine be f (j (lp ..) ?_);exact a)) ?_));rfl
  rw[h,UInt8.xor_assoc,UInt8.xor_self,UInt8.xor_zero,dY,da a];rfl
 ·(exact j (jy (by refine j (vW ..) (j g (be f (j (lp ..) ?_)));exact lN a)) (j (jy (lN a)) d))
theorem s5{z:List UInt8}{o:Nat}{fq:List UInt8}{G A:List UInt8}{m v:Nat}(a:G.length=v)(b:A.length=v):eW z o fq ((eW z o fq (G,A) m).2,(eW z o fq (G,A) m).1) m=(A,G):=by refine(?_:(A,hT (hT G (ng m z o fq A)) (ng m z o fq A))=(A,G));exact j (Xb (by exact j (Dm ..) (j a (j b d)))) d
theorem Xc{R as:List UInt8}{o id:Nat}{ext:Bool}(f:R.length%2=0):oM (encOf R as o id ext) as o id ext=R:=by
 have b:=oN (R:=R) f;rcases g:fp R with⟨h,i⟩;rw[g] at b;generalize A:e9 id ext=fq;generalize L:R.length/2=a at b;rcases p:eW as o fq (h,i) 0 with⟨q,r⟩;have k:q.length=a/\r.length=a:=by have:=qy (z:=as) (o:=o) (fq:=fq) (m:=0) (gR:=(h,i)) b.1 b.2;rw[p] at this;exact this
 rcases s:eW as o fq (q,r) 1 with⟨t,u⟩;have l:t.length=a/\u.length=a:=by have:=qy (z:=as) (o:=o) (fq:=fq) (m:=1) (gR:=(q,r)) k.1 k.2;rw[s] at this;exact this
 rcases v:eW as o fq (t,u) 2 with⟨w,x⟩;have n:w.length=a/\x.length=a:=by have:=qy (z:=as) (o:=o) (fq:=fq) (m:=2) (gR:=(t,u)) l.1 l.2;rw[v] at this;exact this
 rcases y:eW as o fq (w,x) 3 with⟨e,c⟩;have B:e.length=a/\c.length=a:=by have:=qy (z:=as) (o:=o) (fq:=fq) (m:=3) (gR:=(w,x)) n.1 n.2;rw[y] at this;exact this
 have G:encOf R as o id ext=c++e:=by refine(?_:(([0,1,2,3].foldl (eW as o (e9 id ext)) (fp R)).2++([0,1,2,3].foldl (eW as o (e9 id ext)) (fp R)).1)=_);refine j g (j A ?_);simp only[fP,iE,p,s,v,y]
 have H:fp (c++e)=(c,e):=by
  have I:(c++e).length/2=c.length:=by refine j dZ (j B.1 (j B.2 ?_));exact Jf
  unfold fp;exact j I (j aa0 (j aa1 d))
 have C:=s5 (z:=as) (o:=o) (fq:=fq) (m:=3) n.1 n.2;rw[y] at C;have D:=s5 (z:=as) (o:=o) (fq:=fq) (m:=2) l.1 l.2;rw[v] at D;have E:=s5 (z:=as) (o:=o) (fq:=fq) (m:=1) k.1 k.2;rw[s] at E;have F:=s5 (z:=as) (o:=o) (fq:=fq) (m:=0) b.1 b.2;rw[p] at F;refine(?_:(([3,2,1,0].foldl (eW as o (e9 id ext)) (fp (encOf R as o id ext))).2++([3,2,1,0].foldl (eW as o (e9 id ext)) (fp (encOf R as o id ext))).1)=R);refine j G (j H (j A ?_));simp only[fP,iE,C,D,E,F];have:R=h++i:=by
  have J:h=R.take (R.length/2):=by have:=congrArg Prod.fst g;exact this.symm
  have K:i=R.drop (R.length/2):=by have:=congrArg Prod.snd g;exact this.symm
  rw[J,K,rl]
 exact this.symm
theorem Xd:∀l,l<255->eh l=b5 l 1:=by decide+kernel
theorem Xe:∀E,E<256->E≠0->b5 (fA E) 1=E:=by decide+kernel
theorem Xf(b:Nat)(E:UInt8):iQ b E=b5 b E.toNat:=by
 unfold iQ;by_cases a:E=0
 ·refine j a<|j (if_neg (by simp))<|(VO b).symm
 ·rw[if_pos a,Xd _ (eQ _ .(1)),VQ _ .(1),hW,jl,Xe _ E.toNat_lt λc=>a (UInt8.toNat_inj.mp c)]
noncomputable def es(O:List Nat)(i a:Nat):Nat:=(((sumTo (λm=>fA (O.getD m 0^^^i)) O.length:Nat):Int)-(fA (a^^^i):Nat)-(sumTo (λb=>fA (a^^^O.getD b 0)) O.length:Nat)|>.emod 255).toNat
theorem wz{C g:Nat->Nat}:∀{v:Nat},(∀m,m<v->C m=g m)->sumTo C v=sumTo g v
 |0,_=>rfl
 |v+1,a=>by refine(?_:sumTo C v+C v=sumTo g v+g v);rw[wz λm b=>a m (rL b),a v uN]
theorem EG(ah:List (Nat×List UInt8))(m:Nat):fY ah m=(ah.map (·.1)).getD m 0:=by unfold fY;refine j dY (j dY (j dR ?_));cases ah[m]?<;>rfl
theorem Xg(ah:List (Nat×List UInt8))(i b:Nat):im ah i b=es (ah.map (·.1)) i b:=by unfold im es;rw[wz (C:=λa=>fA (fY ah a^^^i)) (g:=λa=>fA ((ah.map (·.1)).getD a 0^^^i)) λa W=>by rw[EG],wz (C:=λc=>fA (b^^^fY ah c)) (g:=λc=>fA (b^^^(ah.map (·.1)).getD c 0)) λa W=>by rw[EG],eG]
theorem Xh{b v m:Nat}{q a:List UInt8}(hd:q.length=v)(c:a.length=v)(aW:m<v):((jm b q a).getD m 0).toNat=(a.getD m 0).toNat^^^b5 b (q.getD m 0).toNat:=by
 have d:(jm b q a)[m]?=some (((a.getD m 0).toNat^^^iQ b (q.getD m 0)).toUInt8):=by unfold jm;(refine j dR (j (nY (by refine j hd (j c (j (lp ..) ?_));exact aW)) ?_));rfl
 refine j dY (j d (j He (be (Xf ..) ?_)));have:=oS (a.getD m 0).toNat_lt (wh b (q.getD m 0));refine(?_:(G4 _).toNat=_);refine j G5 ?_;exact I2 this
theorem EH{v m:Nat}(C:Nat->Nat)(aW:m<v):∀(ah:List (Nat×List UInt8)) (a:List UInt8),(∀z∈ah,z.2.length=v)->a.length=v->
 ((ah.foldl (λa z=>jm (C z.1) z.2 a) a).getD m 0).toNat=ah.foldl (λc z=>c^^^b5 (C z.1) (z.2.getD m 0).toNat) (a.getD m 0).toNat
 |[],_,_,_=>rfl
 |z::ah,a,b,e=>by exact j fP (j fP (j (EH C aW ah _ (λf g=>b f (.tail _ g)) (by rw[DQ,b z aG,e,lp])) (j (Xh (b z aG) e aW) d)))
theorem gV{v m i:Nat}{ah:List (Nat×List UInt8)}(aW:m<v)(f:∀z∈ah,z.2.length=v):((c1 ah v i).getD m 0).toNat=ah.foldl (λc z=>c^^^b5 (es (ah.map (·.1)) i z.1) (z.2.getD m 0).toNat) 0:=by
 unfold c1;have b:(λ(a:List UInt8) (z:Nat×List UInt8)=>jm (im ah i z.1) z.2 a)=λa z=>jm (es (ah.map (·.1)) i z.1) z.2 a:=by funext a z;exact j (Xg ..) d
 rw[b,EH (λe=>es (ah.map (·.1)) i e) aW ah _ f (pC ..)];congr 1;simp[dY,List.getElem?_replicate,aW]
theorem o2{c b:List UInt8}{v:Nat}(e:c.length=v)(g:b.length=v)(f:∀m,m<v->(c.getD m 0).toNat=(b.getD m 0).toNat):c=b:=by
 refine pi λm=>?_;by_cases a:m<v
 ·have:=f m a;rw[dY,dY,da (pZ e a),da (pZ g a)] at this;refine j (da (pZ e a)) (j (da (pZ g a)) ?_);exact congrArg some (UInt8.toNat_inj.mp this)
 ·exact j (jy (y0 e a)) (j (jy (y0 g a)) d)
theorem o3{v i ai:Nat}(a:i<256)(b:ai<256):b5 v (i^^^ai)=b5 v i^^^b5 v ai:=VN v a b
theorem s6{b c d e f g h a:Nat}(i:h<256)(j:a<256):0^^^b5 b (0^^^b5 d h^^^b5 e a)^^^b5 c (0^^^b5 f h^^^b5 g a)=(b5 (b+d) h^^^b5 (c+f) h)^^^(b5 (b+e) a^^^b5 (c+g) a):=by
 simp only[kP];rw[o3 (hy _ i) (hy _ j),o3 (hy _ i) (hy _ j),<-jl,<-jl,<-jl,<-jl]
 ac_rfl
theorem EI{f b c g i k l m n av h a:Nat}(d:av<256)(e:h<256)(o:a<256):0^^^b5 f av^^^b5 b (0^^^b5 g av^^^b5 i h^^^b5 k a)^^^b5 c (0^^^b5 l av^^^b5 m h^^^b5 n a)=
 (b5 f av^^^b5 (b+g) av^^^b5 (c+l) av)^^^(b5 (b+i) h^^^b5 (c+m) h)^^^(b5 (b+k) a^^^b5 (c+n) a):=by
 simp only[kP];refine j (o3 (wg (hy _ d) (hy _ e)) (hy _ o)) (j (o3 (hy _ d) (hy _ e)) (j (o3 (wg (hy _ d) (hy _ e)) (hy _ o)) (j (o3 (hy _ d) (hy _ e)) ?_)));rw[<-jl,<-jl,<-jl,<-jl,<-jl,<-jl]
 ac_rfl
theorem EJ:es [254,255] 0 254=7:=by decide+kernel
theorem EK:es [254,255] 0 255=112:=by decide+kernel
theorem s7:es [254,255] 1 254=112:=by decide+kernel
theorem s8:es [254,255] 1 255=7:=by decide+kernel
theorem Xi:es [0,1] 254 0=7:=by decide+kernel
theorem Xj:es [0,1] 254 1=112:=by decide+kernel
theorem Xk:es [0,1] 255 0=112:=by decide+kernel
theorem Xl:es [0,1] 255 1=7:=by decide+kernel
theorem EL:es [254,255] 2 254=247:=by decide+kernel
theorem EM:es [254,255] 2 255=192:=by decide+kernel
theorem Xm:es [1,2] 254 1=191:=by decide+kernel
theorem Xn:es [1,2] 254 2=6:=by decide+kernel
theorem Xo:es [1,2] 255 1=246:=by decide+kernel
theorem Xp:es [1,2] 255 2=111:=by decide+kernel
theorem EN:es [0,254,255] 1 0=0:=by decide+kernel
theorem EO:es [0,254,255] 1 254=0:=by decide+kernel
theorem EP:es [0,254,255] 1 255=0:=by decide+kernel
theorem ER:es [0,254,255] 2 0=65:=by decide+kernel
theorem ES:es [0,254,255] 2 254=160:=by decide+kernel
theorem ET:es [0,254,255] 2 255=210:=by decide+kernel
theorem Xq:es [0,1,2] 254 0=174:=by decide+kernel
theorem Xr:es [0,1,2] 254 1=48:=by decide+kernel
theorem Xs:es [0,1,2] 254 2=93:=by decide+kernel
theorem Xt:es [0,1,2] 255 0=79:=by decide+kernel
theorem Xu:es [0,1,2] 255 1=253:=by decide+kernel
theorem Xv:es [0,1,2] 255 2=93:=by decide+kernel
theorem Xw:∀E,E<256->b5 (7+7) E^^^b5 (112+112) E=E:=by decide+kernel
theorem Xx:∀E,E<256->b5 (7+112) E^^^b5 (112+7) E=0:=by decide+kernel
theorem Xy:∀E,E<256->b5 (112+7) E^^^b5 (7+112) E=0:=by decide+kernel
theorem Xz:∀E,E<256->b5 (112+112) E^^^b5 (7+7) E=E:=by decide+kernel
theorem XA:∀E,E<256->b5 (191+112) E^^^b5 (6+247) E=E:=by decide+kernel
theorem XB:∀E,E<256->b5 (191+7) E^^^b5 (6+192) E=0:=by decide+kernel
theorem XC:∀E,E<256->b5 (246+112) E^^^b5 (111+247) E=0:=by decide+kernel
theorem XD:∀E,E<256->b5 (246+7) E^^^b5 (111+192) E=E:=by decide+kernel
theorem XE:∀E,E<256->b5 174 E^^^b5 (48+0) E^^^b5 (93+65) E=0:=by decide+kernel
theorem XF:∀E,E<256->b5 (48+0) E^^^b5 (93+160) E=E:=by decide+kernel
theorem XG:∀E,E<256->b5 (48+0) E^^^b5 (93+210) E=0:=by decide+kernel
theorem XH:∀E,E<256->b5 79 E^^^b5 (253+0) E^^^b5 (93+65) E=0:=by decide+kernel
theorem XI:∀E,E<256->b5 (253+0) E^^^b5 (93+160) E=0:=by decide+kernel
theorem XJ:∀E,E<256->b5 (253+0) E^^^b5 (93+210) E=E:=by decide+kernel
theorem XK{q e:List UInt8}{v:Nat}(hd:q.length=v)(g:e.length=v):c1 [(0,c1 [(254,q),(255,e)] v 0),(1,c1 [(254,q),(255,e)] v 1)] v 254=q:=by
 have d:∀b∈[(254,q),(255,e)],b.2.length=v:=λb a=>by refine ed a ?_ ?_<;>assumption
 have a:∀b∈[(0,c1 [(254,q),(255,e)] v 0),(1,c1 [(254,q),(255,e)] v 1)],b.2.length=v:=λb a=>by refine ed a ?_ ?_<;>exact gU d
 refine o2 (gU a) hd λc f=>j (gV f a) ?_;simp only[fP,iE,dC,iB];refine j (gV f d) (j (gV f d) ?_);simp only[fP,iE,dC,iB,Xi,Xj,EJ,EK,s7,s8];refine j (s6 (q.getD c 0).toNat_lt (e.getD c 0).toNat_lt)<|j (Xw _ (q.getD c 0).toNat_lt)<|j (Xx _ (e.getD c 0).toNat_lt)<|Hj (q.getD c 0).toNat
theorem XM{q e:List UInt8}{v:Nat}(hd:q.length=v)(g:e.length=v):c1 [(0,c1 [(254,q),(255,e)] v 0),(1,c1 [(254,q),(255,e)] v 1)] v 255=e:=by
 have d:∀b∈[(254,q),(255,e)],b.2.length=v:=λb a=>by refine ed a ?_ ?_<;>assumption
 have a:∀b∈[(0,c1 [(254,q),(255,e)] v 0),(1,c1 [(254,q),(255,e)] v 1)],b.2.length=v:=λb a=>by refine ed a ?_ ?_<;>exact gU d
 refine o2 (gU a) g λc f=>j (gV f a) ?_;simp only[fP,iE,dC,iB];refine j (gV f d) (j (gV f d) ?_);simp only[fP,iE,dC,iB,Xk,Xl,EJ,EK,s7,s8];refine j (s6 (q.getD c 0).toNat_lt (e.getD c 0).toNat_lt)<|j (Xy _ (q.getD c 0).toNat_lt)<|j (Xz _ (e.getD c 0).toNat_lt)<|kP (e.getD c 0).toNat
theorem XN{q e:List UInt8}{v:Nat}(hd:q.length=v)(g:e.length=v):c1 [(1,c1 [(254,q),(255,e)] v 1),(2,c1 [(254,q),(255,e)] v 2)] v 254=q:=by
 have d:∀b∈[(254,q),(255,e)],b.2.length=v:=λb a=>by refine ed a ?_ ?_<;>assumption
 have a:∀b∈[(1,c1 [(254,q),(255,e)] v 1),(2,c1 [(254,q),(255,e)] v 2)],b.2.length=v:=λb a=>by refine ed a ?_ ?_<;>exact gU d
 refine o2 (gU a) hd λc f=>j (gV f a) ?_;simp only[fP,iE,dC,iB];refine j (gV f d) (j (gV f d) ?_);simp only[fP,iE,dC,iB,Xm,Xn,s7,s8,EL,EM];refine j (s6 (q.getD c 0).toNat_lt (e.getD c 0).toNat_lt)<|j (XA _ (q.getD c 0).toNat_lt)<|j (XB _ (e.getD c 0).toNat_lt)<|Hj (q.getD c 0).toNat
theorem XO{q e:List UInt8}{v:Nat}(hd:q.length=v)(g:e.length=v):c1 [(1,c1 [(254,q),(255,e)] v 1),(2,c1 [(254,q),(255,e)] v 2)] v 255=e:=by
 have d:∀b∈[(254,q),(255,e)],b.2.length=v:=λb a=>by refine ed a ?_ ?_<;>assumption
 have a:∀b∈[(1,c1 [(254,q),(255,e)] v 1),(2,c1 [(254,q),(255,e)] v 2)],b.2.length=v:=λb a=>by refine ed a ?_ ?_<;>exact gU d
 refine o2 (gU a) g λc f=>j (gV f a) ?_;simp only[fP,iE,dC,iB];refine j (gV f d) (j (gV f d) ?_);simp only[fP,iE,dC,iB,Xo,Xp,s7,s8,EL,EM];refine j (s6 (q.getD c 0).toNat_lt (e.getD c 0).toNat_lt)<|j (XC _ (q.getD c 0).toNat_lt)<|j (XD _ (e.getD c 0).toNat_lt)<|kP (e.getD c 0).toNat
theorem XP{A q e:List UInt8}{v:Nat}(g:A.length=v)(hd:q.length=v)(h:e.length=v):c1 [(0,A),(1,c1 [(0,A),(254,q),(255,e)] v 1),(2,c1 [(0,A),(254,q),(255,e)] v 2)] v 254=q:=by
 have d:∀c∈[(0,A),(254,q),(255,e)],c.2.length=v:=λc a=>by refine iG a ?_ ?_ ?_<;>assumption
 have a:∀c∈[(0,A),(1,c1 [(0,A),(254,q),(255,e)] v 1),(2,c1 [(0,A),(254,q),(255,e)] v 2)],c.2.length=v:=λc a=>by
  refine iG a ?_ ?_ ?_
  ·exact g
  ·exact gU d
  ·exact gU d
 refine o2 (gU a) hd λb f=>j (gV f a) ?_;simp only[fP,iE,dC,iB];refine j (gV f d) (j (gV f d) ?_);simp only[fP,iE,dC,iB,Xq,Xr,Xs,EN,EO,EP,ER,ES,ET];refine j (EI (A.getD b 0).toNat_lt (q.getD b 0).toNat_lt (e.getD b 0).toNat_lt) (j (XE _ (A.getD b 0).toNat_lt) (j (XF _ (q.getD b 0).toNat_lt) (j (XG _ (e.getD b 0).toNat_lt) ?_)));simp
theorem XQ{A q e:List UInt8}{v:Nat}(g:A.length=v)(hd:q.length=v)(h:e.length=v):c1 [(0,A),(1,c1 [(0,A),(254,q),(255,e)] v 1),(2,c1 [(0,A),(254,q),(255,e)] v 2)] v 255=e:=by
 have d:∀c∈[(0,A),(254,q),(255,e)],c.2.length=v:=λc a=>by refine iG a ?_ ?_ ?_<;>assumption
 have a:∀c∈[(0,A),(1,c1 [(0,A),(254,q),(255,e)] v 1),(2,c1 [(0,A),(254,q),(255,e)] v 2)],c.2.length=v:=λc a=>by
  refine iG a ?_ ?_ ?_
  ·exact g
  ·exact gU d
  ·exact gU d
 refine o2 (gU a) h λb f=>j (gV f a) ?_;simp only[fP,iE,dC,iB];refine j (gV f d) (j (gV f d) ?_);simp only[fP,iE,dC,iB,Xt,Xu,Xv,EN,EO,EP,ER,ES,ET];refine j (EI (A.getD b 0).toNat_lt (q.getD b 0).toNat_lt (e.getD b 0).toNat_lt) (j (XH _ (A.getD b 0).toNat_lt) (j (XI _ (q.getD b 0).toNat_lt) (j (XJ _ (e.getD b 0).toNat_lt) ?_)));simp
theorem l7.EU{ah:List (Nat×List UInt8)}{v i:Nat}(a:∀(m:Nat) z,ah[m]?=some z->z.1<=20)(b:∀z∈ah,z.2.length=v)(c:(ah.map (·.1)).Nodup)(d:0<ah.length)(e:ah.length<=100)(bi:v<=1000)(f:20<i)(g:i<256):l7 ah v i:=⟨g,λz h=>by refine bo (fr h) λm j=>?_;have:=a m z j;exact Jp f this,b,c,bi,d,e⟩
theorem XR{a b:List UInt8}:(io a b++a).take 4=io ((io a b++a).drop 4) b:=by have c:(io a b).length=4:=sY a b;exact j (show(4:Nat)=(io a b).length from c.symm) (j aa0 (j aa1 d))
theorem EV{v c l:Nat}(f:c+l<=v):((bH v).drop c).take l=List.range' c l:=by rw[List.range_eq_range',List.drop_range',List.take_range'_of_length_ge (F4 (hW c l▸f)),Nat.mul_one,iu]
theorem EW{u v c:Nat}{a:List UInt8}{ah:List (Nat×List UInt8)}(f:jU u v a ah)(R:1<=u)(bi:c+u<=v)(m:v<=3)(G:4<=a.length)(x:a.length<=1000):l8 u ((ah.drop c).take u) a:=by
 rcases f with l|l
 ·(refine bE l λq H=>?_;clear l;obtain rfl:=q;obtain rfl:=H);refine .inl ⟨rfl,c,[],be List.map_drop (be Hk ?_)⟩;have r:((bH v).drop c).take 1=[c]:=EV bi;refine j r ?_;rfl
 ·(refine t5 l λbe b y z I J q=>?_;clear l;obtain rfl:=q);have i:(io b a++b).length=a.length:=by rw[dZ,sY,J];exact yD G
  (have bv:∀(h:List (Nat×List UInt8)),(∀e∈h,e.2.length=a.length)->(∀(s:Nat) e,h[s]?=some e->e.1<=20)->(h.map (·.1)).Nodup->0<h.length->h.length<=100->c1 h a.length 255=a->c1 h a.length 254=io b a++b->l8 u h a:=λh A B C D E K L=>
   .inr (cV (No y) (l7.EU B A C D E x .(1) .(1)) (l7.EU B A C D E x .(1) .(1)) (K) (by refine j L ?_;exact XR)))
  have M:u=2\/u=3:=KF bi m y;rcases M with rfl|rfl
  ·have N:be=[]:=List.eq_nil_of_length_eq_zero z;subst N;have n:∀e∈g8 [] b a,e.2.length=a.length:=λe g=>by
    simp only[g8,ix,dD,eR,or_false] at g;rcases g with rfl|rfl
    ·exact i
    ·rfl
   have t:((jn [] b a 0 v).drop c).take 2=[(c,c1 (g8 [] b a) a.length c),(c+1,c1 (g8 [] b a) a.length (c+1))]:=by unfold jn;refine j (ix ..) (be List.map_drop (be Hk ?_));have r:((bH v).drop c).take 2=[c,c+1]:=EV bi;refine j r ?_;simp
   have O:((jn [] b a (2-2) (v-(2-2))).drop c).take 2=[(c,c1 (g8 [] b a) a.length c),(c+1,c1 (g8 [] b a) a.length (c+1))]:=t;refine j O ?_;have o:c=0\/c=1:=KG m bi;refine bv _ (λe g=>?_) (λs e g=>?_) ?_ (by assumption) (by simp) ?_ ?_
   ·refine ed g ?_ ?_<;>exact gU n
   ·have:=cx g;refine ed this ?_ ?_<;>dsimp<;>lia
   ·simp
   ·rcases o with rfl|rfl
    ·exact XM i d
    ·exact XO i d
   ·rcases o with rfl|rfl
    ·exact XK i d
    ·exact XN i d
  ·obtain⟨w,rfl⟩:∃w,be=[w]:=by exact hj z
   obtain⟨F,k⟩:=w;have P:=I.fM 0 (F,k) d;obtain⟨rfl,p⟩:F=0/\k.length=a.length:=P;have o:c=0:=KH m bi;have Q:v=3:=Np m bi;subst o Q;have n:∀e∈g8 [(0,k)] b a,e.2.length=a.length:=λe g=>by
    simp only[g8,tD,ix,dD,eR,or_false] at g;rcases g with rfl|rfl|rfl
    ·exact p
    ·exact i
    ·rfl
   have t:((jn [(0,k)] b a (3-2) (3-(3-2))).drop 0).take 3=[(0,k),(1,c1 (g8 [(0,k)] b a) a.length 1),(2,c1 (g8 [(0,k)] b a) a.length 2)]:=rfl;refine j t<|bv _ (λe g=>?_) (λs e g=>?_) ?_ (by assumption) (by simp) ?_ ?_
   ·refine iG g ?_ ?_ ?_
    ·exact p
    ·exact gU n
    ·exact gU n
   ·have:=cx g;refine iG this ?_ ?_ ?_<;>simp
   ·simp
   ·exact XQ p i d
   ·exact XP p i d
theorem s9(b:Bool):kt b<2:=by cases b<;>decide
theorem wA{id o:Nat}{ext:Bool}(f:id<2^15)(a:o<16):fa id ext o<1024^2:=by have:=s9 ext;unfold fa;exact Ia f a this
theorem XS{id o:Nat}{ext:Bool}(a:o<16):fa id ext o/2^5=id:=by have:=s9 ext;unfold fa;exact H8 a this
theorem XT{id o:Nat}{ext:Bool}(a:o<16):fa id ext o/2^4%2=kt ext:=by have:=s9 ext;unfold fa;exact H7 a this
theorem XU{id o:Nat}{ext:Bool}(a:o<16):fa id ext o%16=o:=by have:=s9 ext;unfold fa;exact H9 a
theorem wB{bD gt bR cB mt:Nat}(a:bD<16)(b:gt<=16)(c:bR<=16)(d:cB<16)(e:mt<=16):hx bD gt bR cB mt<1024^2:=by unfold hx;exact HS a b c d e
theorem iq{ai i:Nat}(f:i<16):(ai*16+i)/16=ai/\(ai*16+i)%16=i:=H4 f
theorem o4(E l:Nat):E/(16*l)=E/16/l:=(tt E 16 l).symm
theorem XV{c b e q o:Nat}(i:c<16)(h:b<16)(g:e<16)(f:q<16)(a:o<16):
 de ((((c*16+b)*16+e)*16+q)*16+o) 5 4 0=c/\de ((((c*16+b)*16+e)*16+q)*16+o) 5 4 1=b/\de ((((c*16+b)*16+e)*16+q)*16+o) 5 4 2=e/\de ((((c*16+b)*16+e)*16+q)*16+o) 5 4 3=q/\de ((((c*16+b)*16+e)*16+q)*16+o) 5 4 4=o:=by
 refine(cV (?_) (?_) (?_) (?_) (?_))
 ·refine(?_:_/(16*(16*(16*16)))%16=c);rw[o4,(iq a).1,o4,(iq f).1,o4,(iq g).1,(iq h).1,mi i]
 ·refine(?_:_/(16*(16*16))%16=b);rw[o4,(iq a).1,o4,(iq f).1,(iq g).1,(iq h).2]
 ·refine(?_:_/(16*16)%16=e);exact j (o4 ..) (j ((iq a).1) (j ((iq f).1) (j ((iq g).2) d)))
 ·refine(?_:_/16%16=q);exact j ((iq a).1) (j ((iq f).2) d)
 ·refine(?_:_/1%16=o);exact j (Nat.div_one ..) (j ((iq a).2) d)
theorem wC{v:Nat}(f:v<=16):v-1<16:=cF (w8 f 1) .(1)
theorem wD{bD gt bR cB mt:Nat}(a:bD<16)(b:gt<=16)(c:bR<=16)(d:cB<16)(e:mt<=16):
 de (hx bD gt bR cB mt) 5 4 0=bD/\de (hx bD gt bR cB mt) 5 4 1=gt-1/\de (hx bD gt bR cB mt) 5 4 2=bR-1/\de (hx bD gt bR cB mt) 5 4 3=cB/\de (hx bD gt bR cB mt) 5 4 4=mt-1:=
 XV a (wC b) (wC c) d (wC e)
theorem EX(G:List UInt8)(e:UInt8):fW (G++[e])=fW G*256+e.toNat:=by simp[fW]
theorem snocInd{α:Type}{P:List α->Prop}(h0:P [])(b:∀G e,P G->P (G++[e]))(G:List α):P G:=by
 have d:∀a:List α,P a.reverse:=by
  intro a;induction a with
  |nil=>exact h0
  |cons f a c=>refine j tE ?_;exact b _ _ c
 exact PyProof.Rows.snocInd h0 b G
theorem EY(G:List UInt8):fW G<256^G.length:=by
 refine snocInd (P:=λG=>fW G<256^G.length) .(1) (λG a b=>?_) G
 ·refine j (EX ..) (j dZ (j t1 (j (Nat.pow_succ ..) ?_)));have:=a.toNat_lt;exact Ib b this
theorem XW(G:List UInt8):iP G.length (fW G)=G:=by
 refine snocInd (P:=λG=>iP G.length (fW G)=G) d (λG a c=>?_) G
 ·refine j dZ<|j t1<|j (EX ..)<|(?_:iP G.length ((fW G*256+a.toNat)/256)++[((fW G*256+a.toNat)%256).toUInt8]=_);have:=a.toNat_lt;have b:(fW G*256+a.toNat)/256=fW G:=H5 this;have e:(fW G*256+a.toNat)%256=a.toNat:=H6 b;refine j b (j e (j c ?_));congr 2;exact aaz
theorem XX{E:List UInt8}(t:a7)(a:t.E=E):fW E<1024^dP t:=by have b:=EY E;refine cQ b ?_;have c:(256:Nat)^E.length=2^(8*E.length):=j (GS ..) d;have e:(1024:Nat)^dP t=2^(10*dP t):=j (GS ..) d;refine j c<|j e<|aaZ .(1) ?_;unfold dP;refine j a ?_;exact J5
theorem XY{t:a7}(c:t.E.length%2=0):10*dP t%16<=8/\(10*dP t-10*dP t%16+7)/8=t.E.length/\10*dP t%16<=10*dP t:=by
 obtain⟨a,d⟩:∃a,t.E.length=2*a:=⟨t.E.length/2,by exact JO c⟩;unfold dP;refine j d ?_;generalize e:(2*a*8+9)/10=f;have b:16*a<=10*f/\10*f<=16*a+9:=by clear c d;exact JD e
 refine bo (Nat.exists_eq_add_of_le b.1) λi g=>?_;rw[g] at b⊢;have h:i<=9:=Nat.le_of_add_le_add_left b.2;refine j (Nat.mul_add_mod ..) (j (mi (cF h .(1))) (j (w9 ..) ?_));clear b e c d;exact(bO (Nq g h) Jg (tw ..))
theorem XZ(t:a7):(dataOf t).take 2=(bH 2).map (de (fa t.id t.ext t.o) 2 10):=by unfold dataOf;exact j (lH ..) (j (rn (b6 d)) (j (nV (by simp)) d))
theorem qN(v E:Nat)(f:E<1024^v):((bH v).map (de E v 10)).foldl (λc i=>c*1024+i) 0=E:=EA 10 v E (by assumption)
theorem X0{v:Int}(f:r (.bool (v !=0)) s):aa w n (call (.type "bool") [.int v u]) r M s:=⟨call_bool_int f⟩
theorem X1{v:Int}(a:N w h e I led s)(f:∀u k,N w h e I led k->r (.int (-v) u) k):aa w n (unaryOp .USub (.int v u)) r M s:=⟨aaa (f _ _ a.a3)⟩
theorem cf.take:∀{O:List p} {ns:List Nat},cf O ns->∀l:Nat,cf (O.take l) (ns.take l)
 |[],[],_,l=>by refine j List.take_nil (j List.take_nil ?_);exact trivial
 |_::_,_::_,_,0=>by refine j Hl (j Hl ?_);exact trivial
 |_::_,_::_,a,l+1=>by refine j Hd (j Hd ?_);exact⟨a.1,a.2.take l⟩
theorem cf.drop:∀{O:List p} {ns:List Nat},cf O ns->∀l:Nat,cf (O.drop l) (ns.drop l)
 |[],[],_,l=>by refine j List.drop_nil (j List.drop_nil ?_);exact trivial
 |_::_,_::_,a,0=>a
 |_::_,_::_,a,l+1=>by rw[Hg,Hg];exact a.2.drop l
theorem lh.X2{S:Nat}{F:Nat->p->Prop}(h:lh w s v F q S c k){a3:Nat}(i:k.toks<=a3)(j:k.heap.objs.size<=ag.objs.size)(l:∀b J,b<837\/s.heap.get? b=none->k.heap.get? b=some J->ag.get? b=some J):lh w s v F q S c {k with heap:=ag,toks:=a3}:=by refine pM h.eh λm n o r d t u x y z A e=>⟨m,n,o,r,d,λf g=>(d f g).frame 0 k ag a3 (t f g) i λb a J B=>l b J (e b a) B,u,λb a=>cQ (x b a) j,y,z,A,e⟩
theorem X3{S:Nat}{F:Nat->p->Prop}{t:List (Option p)}{u:List (x×V)}{d:H}{r:Unit->H->Prop}(a:N w h e I led s)(g:e.l.bL)(m:Nat)(aW:some i=e.l.names[m]?)(y:true=tM m I.length)(gb:N w h e t u d)(z:lh w d v F q S c s)(f:∀k,N w h e (I.set m (some (.ref c))) led k->lh w d v F q S c k->r () k)(A:autoParam (D=e.D) b0):aa w n (kK D i (.ref c)) r M s:=by
 subst A;refine⟨υ (g.fn _ (cx aW.symm)) a.ch (λK B l=>f _ (a.z4 g aW.symm (Nat.blt_eq.mp y.symm) B l) (z.X2 (gZ _) (ir l.1.symm) λC E b G=>l.extBut C E (λo=>?_) G)) (by refine j g.kind ?_;rfl)⟩;refine f4 gb.ch λL O P J W=>?_;rcases b with b|b
 ·exact absurd a.cE.ge (Nat.not_le.mpr (o▸b))
 ·rw[o,J] at b;cases b
theorem hU.cons{o:am}{cG:List am}{aO:H->Prop}(f:aa w n (dX o D E) (λW k=>hU w n M D cG ar aO k) M s):hU w n M D (o::cG) (E::ar) aO s:=f
theorem hU.nil{aO:H->Prop}(f:aO s):hU w n M D [] [] aO s:=f
theorem EZ(t:a7):(fb t).take 2=(bH 2).map (de (fa t.id t.ext t.o) 2 10):=by unfold fb;rw[rn (by rw[sR];exact Nr),XZ]
theorem wE(t:a7):((fb t).drop 2).take 2=(bH 2).map (de (hx t.bD t.gt t.bR t.cB t.mt) 2 10):=by unfold fb dataOf;rw[lH,lH,Hm (by simp),Hn (by simp),ix,rn (by simp),nV (by simp)]
theorem X4(t:a7):((fb t).drop 4).take (dP t)=(bH (dP t)).map (de (fW t.E) (dP t) 10):=by unfold fb dataOf;rw[lH,Hm (by simp),Hn (by simp),ix,rn (by simp),nV (by simp)]
set_option maxHeartbeats 2000000 in
theorem X5(m:bb h)(L:aH w h s)(A:aR n 8 27){t:a7}(e:t.bL)(ad:t.gt<=t.bR)(ae:t.E.length%2=0)(af:16<=t.E.length)(f:∀E k,bP [] s k->aH w h k->gz w (ei s.heap k.heap) E t->r E k):bk w n (.call (.ref 444) ⟨[.ref 450,ds (dk t) u],[]⟩) (bW r) s:=by
 have o:=qE e.E;have C:=nl t;have ag:13<=dP t:=by unfold dP;exact Ju af
 refine ek (XY (t:=t) ae) λah ai aj=>cZ (q:=7) (S:=24) (RV m) Qn .none L trivial A.mono ?_;intro a4 c J a6 a9 b a A;let ak:List (Option p)->List (Option p):=λG=>some (.ref 450)::some (ds (dk t) u)::G;replace a:N w h J (ak [none,none,none,none,none,none,none,none,none,none,none,none,none,none,none,none,none,none,none]) _ c:=a;refine seq (doc ?_);replace a:=a.a3 (u:=c.toks+1);refine seq<|bN<|b3 a b 0 d Ra P8<|Y a b 1 d d<|⟨a.Z.l,WQ m a.Z A.mono (is:=fb t) (Nt C) (KV o C) (nk t) λba x bc c g L z y=>?_⟩;replace a:=a.hq (a.call g L) z.1 z.2.2 z.2.1;refine a.eL ?_;intro K a;clear g L z;have B:x.length=7+dP t:=j y.len (j C d);refine gL a b 2 d d d ?_;intro c bd a;refine seq<|ifs<|cT<|c0 a b 1 d dv dx ?_;refine Y a b 2 d d<|oY a (IsList.new (a.at 0 d)) (v:=7+dP t) (by assumption) (yI o) λS c a=>dJ 20 _ a b 2 d Q1<|qs<|cn<|dN (decide_eq_false (Lh ag))<|bv<|seq<|bN<|aE ?_;intro i;refine a2<|a2<|dJ 10 _ a b 4 d ve<|a2 ?_;refine c0 a b 1 d dv dx ?_;refine Y a b 2 d d<|oY a (IsList.new (a.at 0 d)) (v:=7+dP t) (by assumption) (yI o) λS c a=>dJ 7 _ a b 5 d Q0<|jO a Nu λS c a=>j (tu ..)<|hr a (zR o) λS c a=>a8 16 a λS c a=>fI a .(1) λbf c a=>gL a b 3 d d d ?_;intro c bg a;refine seq<|ifs<|cT<|Y a b 3 d d<|a8 8 a λS c a=>vS<|cn<|dN (decide_eq_false (Jc ah))<|bv<|seq<|bN<|aE ?_;intro i;refine gr "list" _ slot_list_getitem.lookup<|Y a b 2 d d<|(?_:fx w _ _ _ _ _ _);refine(?_:aa w _ _ _ _ _);refine dJ 2 _ a b 6 d qb<|kj a (IsList.new (a.at 0 d)) .none (.int _ _) (ck (by refine j B ?_;exact rO o)) λbh c al M a=>?_;have am:cf al ((bH 2).map (de (fa t.id t.ext t.o) 2 10)):=by refine j M (j (ro _ 2) (be (EZ ..) ?_));exact y.take 2
 clear M;refine gL a b 4 d d d ?_;intro c bi a;refine seq<|bN<|aE ?_;intro i;refine b3 a b 7 d vk u7<|Y a b 4 d d ?_;have O:=a.ld _ aG;refine⟨a.Z.l,vH m a.Z A.mono O.1 O.2.2.ge am λbj c g L=>?_⟩;replace a:=a.call g L;refine j (qN _ _ (wA e.id e.o))<|gL a b 5 d d d ?_;intro c bl a;refine seq<|bN<|aE ?_;intro i;refine a2<|Y a b 5 d d<|a2<|dJ 1 _ a b 8 d Bf<|dJ 4 _ a b 9 d qa<|eZ a λO c a=>m3 a λan c a=>j (show 1+4=5 from d)<|j (XS e.o)<|gL a b 6 d d d ?_;intro c bm a;refine seq<|bN<|aE ?_;intro i;refine c6 a b 10 d Rp Tv<|a2<|a2<|Y a b 5 d d<|dJ 4 _ a b 9 d qa<|m3 a λO c a=>a8 1 a λO c a=>l0 a λO c a=>j (Nat.and_one_is_mod ..)<|j (XT e.o)<|X0<|j (show(((kt t.ext:Nat):Int) !=0)=t.ext by cases t.ext<;>rfl)<|gL a b 7 d d d ?_;intro c bn a;refine seq<|bN<|aE ?_;intro i;refine a2<|Y a b 5 d d<|a2<|a2<|a8 1 a λO c a=>dJ 4 _ a b 9 d qa<|m4 a .(1) .(1) λO c a=>a8 1 a λO c a=>jO a .(1) λO c a=>l0 a λao c a=>?_;rw[show 1*2^4-1=2^4-1 from d,mx,show 2^4=16 from d,XU e.o];refine gL a b 8 d d d ?_;intro c bo a;refine seq<|ifs<|mY<|gq<|aE ?_;intro i;refine b3 a b 11 d Q6 PU<|Y a b 2 d d<|b3 a b 12 d Bs AE<|Y a b 7 d d<|⟨a.Z.l,C4 m a.Z A.mono λap c g L=>?_⟩;replace a:=a.call g L;have P:=a.ld _ (.tail _ aG);refine⟨a.Z.l,T8 m a.Z A.mono P.1 P.2.2.ge y (λv aq=>kG (nk t v aq) .(1)) (by refine j C ?_;exact Nv o) (C3 _) λc g L=>?_⟩;replace a:=a.call g L;refine j (show jc ((nd t.ext).map j5++fb t)=1 from Xa _ _ λH y=>kG (wf t H y) .(1))<|cn<|dw<|bv<|seq<|bN<|aE ?_;intro i;refine gr "list" _ slot_list_getitem.lookup<|Y a b 2 d d<|(?_:fx w _ _ _ _ _ _);refine(?_:aa w _ _ _ _ _);refine dJ 2 _ a b 6 d qb<|(?_:fx w _ _ _ _ _ _);refine(?_:aa w _ _ _ _ _);refine a2<|dJ 2 _ a b 6 d qb<|a8 2 a λP c a=>eZ a λP c a=>kj a (IsList.new (a.at 1 d)) (.int _ _) (.int _ _) (ck (by refine j B ?_;exact rO o)) λbp c ar Q a=>?_;refine a.eL ?_;intro K a;have as:cf ar ((bH 2).map (de (hx t.bD t.gt t.bR t.cB t.mt) 2 10)):=by
  (refine j Q (j (show slicePick x.toArray (some ((2:Nat):Int)) (some ((2+2:Nat):Int)) none=((x.toArray.toList.drop 2).take (2+2-2)).toArray from slicePick_run _ 2 (2+2) (by simp[B];exact Nw) .(1)) (be (wE ..) ?_)));exact(y.drop 2).take 2
 clear Q;refine gL a b 9 d d d ?_;intro c bq a;refine seq<|bN<|aE ?_;intro i;refine b3 a b 7 d vk u7<|Y a b 9 d d ?_;have R:=a.ld _ aG;refine⟨a.Z.l,vH m a.Z A.mono R.1 R.2.2.ge as λau c g L=>?_⟩;replace a:=a.call g L;refine j (qN _ _ (wB e.bD e.gt.2 e.bR.2 e.cB e.mt.2))<|gL a b 10 d d d ?_;intro c av a;refine seq<|bN<|aE ?_;intro i;refine b3 a b 13 d Bl Aj<|Y a b 10 d d<|a8 5 a λaw c a=>a8 4 a λax c gb=>⟨gb.Z.l,W0 (E:=hx t.bD t.gt t.bR t.cB t.mt) (v:=5) (di:=4) (u:=au) (eN:=aw) (qe:=ax) m gb.Z A.mono .(1) .(1) _ (λQ=>by kernel_rfl) λT a5 g L D=>?_⟩;have a:=gb.call g L;refine X3 a b 11 d d gb D λay a D=>?_;let az:List (Option p)->List (Option p):=λG=>av (some (.ref T)::G);replace a:N w h J (az [none,none,none,none,none,none,none,none,none]) _ ay:=a;refine seq<|Df<|Y a b 11 d d<|WT a d (D.sr.vC gb) A.mono d λbr bs o U a=>dM (wD e.bD e.gt.2 e.bR.2 e.cB e.mt.2) λaA aB aC aD aF=>?_;(refine t8 (PA o) λbt bu bw bx bz I=>?_;obtain rfl:=I);(refine pJ U λI aI aJ aK aL Q=>?_;clear U;obtain⟨aM,rfl⟩:=I;obtain⟨bA,rfl⟩:=aI;obtain⟨bB,rfl⟩:=aJ;obtain⟨aN,rfl⟩:=aK;obtain⟨bC,rfl⟩:=aL);refine j aA (j aB (j aC (j aD (j aF ?_))));clear D gb;refine hU.cons (cp (gL a b 12 d d d ?_));intro c bD a;refine hU.cons (cp (gL a b 13 d d d ?_));intro c bE a;refine hU.cons (cp (gL a b 14 d d d ?_));intro c bF a;refine hU.cons (cp (gL a b 15 d d d ?_));intro c bG a;refine hU.cons (cp (gL a b 16 d d d ?_));intro c bI a;refine hU.nil<|seq<|ifs<|cT<|Y a b 14 d d<|Y a b 13 d d<|qs<|cn<|dN (decide_eq_false (by have:=e.gt.1;exact HT ad))<|bv<|seq<|bN<|aE ?_;intro i;refine gr "list" _ slot_list_getitem.lookup<|Y a b 2 d d<|(?_:fx w _ _ _ _ _ _);refine(?_:aa w _ _ _ _ _);refine a2<|dJ 2 _ a b 6 d qb<|a8 2 a λU c a=>eZ a λU c a=>(?_:fx w _ _ _ _ _ _);refine(?_:aa w _ _ _ _ _);refine sp<|dJ 3 _ a b 14 d vh<|X1 a λU c a=>kj a (IsList.new (a.at 2 d)) (.int _ _) (.int _ _) (ck (by refine j B ?_;exact rO (by assumption))) λbJ c V W a=>?_;refine a.eL ?_;intro K a;have X:cf V ((bH (dP t)).map (de (fW t.E) (dP t) 10)):=by refine j W<|j (slicePick_plain ..)<|(?_:cf ((x.drop (clipAt x.toArray.size ((2+2:Nat):Int))).take (clipAt x.toArray.size (-((3:Nat):Int))-clipAt x.toArray.size ((2+2:Nat):Int))) _);rw[clipAt_nat,clipAt_neg _ 3 .(1),cN,B,show min (2+2) (7+dP t)=4 by exact Nx,show 7+dP t-3-4=dP t by exact Pe,<-X4];exact(y.drop 4).take (dP t)
 have bK:V.length=dP t:=by refine j X.len ?_;simp
 clear W;refine gL a b 17 d d d ?_;intro c bL a;refine seq<|bN<|aE ?_;intro i;refine b3 a b 15 d sa r2<|a2<|a2<|dJ 10 _ a b 4 d ve<|c0 a b 1 d dv dx<|Y a b 17 d d<|oY a (IsList.new (a.at 0 d)) (v:=dP t) (by assumption) (Lb (by assumption)) λW c a=>hr a (zR (by assumption)) λW c a=>Y a b 3 d d<|jO a aj λW c a=>⟨a.Z.l,su m a.Z A.mono Ny (Ii (by assumption)) λbM c g L=>?_⟩;replace a:=a.call g L;refine j (show(((10*dP t-10*dP t%16:Nat):Int)+7)/8=((t.E.length:Nat):Int) by exact Nz ai)<|gL a b 18 d d d ?_;intro c bQ a;refine seq<|bN<|aE ?_;intro i;refine b3 a b 7 d vk u7<|Y a b 17 d d ?_;have Z:=a.ld _ aG;refine⟨a.Z.l,vH m a.Z A.mono Z.1 Z.2.2.ge X λap c g L=>?_⟩;replace a:=a.call g L;refine j (qN _ _ (XX t d))<|gL a b 19 d d d ?_;intro c bR a;refine seq<|Ew<|seq<|bN<|aE ?_;intro i;refine gu F.plainAttrs_int KTBy.slot KTBy.type_eq<|Y a b 19 d d<|(bO (rfl) ((λT aO=>nomatch aO))<|Y a b 18 d d<|fj a λbS c a=>?_);have aP:=e.E;refine Di (l:=t.E.length) a (uD aP) (EY t.E) λaQ c a=>j (XW ..)<|gL a b 20 d d d ?_;intro c bT a;refine bv<|bv<|seq<|b2<|aE ?_;intro i;refine vT a b 0 d d Dw<|Y a b 6 d d<|Y a b 7 d d<|Y a b 8 d d<|Y a b 12 d d<|a2<|Y a b 13 d d<|a8 1 a λW c a=>eZ a λaS c a=>a2<|Y a b 14 d d<|a8 1 a λW c a=>eZ a λaT c a=>Y a b 15 d d<|a2<|Y a b 16 d d<|a8 1 a λW c a=>eZ a λaU c a=>Y a b 20 d d<|j (mg e.gt.1)<|j (mg e.bR.1)<|j (mg e.mt.1)<|⟨a.Z.l,Dv m a.Z A.mono λH aV aW a5 g L z aX aY aZ ab ac bU=>?_⟩;have a0:=a.eC aY ab;have a1:=a.eC aZ ac;replace a:=a.call g L;exact f _ a5 a.aS a.Z (fR (H) (aV) (aW) (λa3=>[an,0,ao,aM,aS,aT,aN,aU,aQ].getD a3 0) (rfl) ((bO (z) (ab) (a0.own.new))) ((bO (aX) (ac) (a1.own.new))))
noncomputable def iS(o:Nat->Bool):Nat->List p->List p->Prop
 |l,i::O,ai::aU=>Ho i ai (o l)/\iS o (l+1) O aU
 |_,[],[]=>True
 |_,_,_=>False
theorem iS.len{o:Nat->Bool}:∀{O aU:List p} {l:Nat},iS o l O aU->O.length=aU.length
 |[],[],_,_=>rfl
 |_::_,_::_,_,a=>j ec (j ec (j (iS.len a.2) d))
 |[],_::_,_,a=>a.elim
 |_::_,[],_,a=>a.elim
theorem wF(b:Bool):Ho (.bool b) (.bool b) true:=λc d e f g h a=>by
 unfold nZ;try with_reducible refine dH ?_
 refine j (if_pos (by cases b<;>rfl))<|ab (kM (aI (by simpa using a)))
theorem Zzq{α β:Type}[BEq α][LawfulBEq α]{a:α}{b c:β}:(if(a !=a)=true then b else c)=c:=if_neg (by simp)
theorem X6{i:x}{o:Nat->Bool}{P:Fin->H->Prop}(D:NT (aZ w) s.heap U)(E:s.heap.get? i=some (dA U aq O))(u:s.heap.get? ai=some (dA U af aU))(v:iS o 0 O aU)(f:P (.done (.ret (.bool ((bH O.length).all o)))) s):
 aL (aZ w) n (Builtin.«tuple.__eq__» ⟨[.ref i,.ref ai],[]⟩) P M s:=by
 have F:c2 (aZ w) s.heap (j8 (.ref ai) (.type "tuple")) true:=((hI u).andThen .now).andThen D.sub;refine(?_:aL _ _ (j8 (.ref ai) (.type "tuple")>>=_) _ _ s);refine ab (F.here (?_:aL _ _ (Builtin.Tuple.tupleItemsOf _>>=_) _ _ _));refine ab<|x1 E d<|ab<|x1 u d<|ab<|wpAny_forIn_list _
  (λy z l=>z.1=none/\l=s/\∃a b g,y=List.zip b g/\iS o a b g/\a+b.length=O.length/\(bH a).all o=true)
  _ ?_ ?_ _ _ ⟨rfl,rfl,0,O,aU,rfl,v,by exact iu O.length,rfl⟩
 ·intro p y z l A;refine cA ?_;intro R;refine aV λG q=>?_;obtain⟨S,T⟩:=p;(refine ek A λr h c=>?_;clear A;obtain rfl:=h;(refine kT c λa b g k m e t=>?_;clear c));refine q ?_;cases b with
  |nil=>trivial
  |cons V I=>
   cases g with
   |nil=>trivial
   |cons W J=>
    simp only[jr,Hh,Hp] at k;(refine bE k λh c=>?_;clear k;obtain⟨rfl,rfl⟩:=h;obtain rfl:=c);(refine bE m λK L=>?_;clear m);refine ab (K _ _ _ _ _ _ ?_);cases B:o a with
    |true=>refine j (if_neg iY) ?_;((refine aI (bO (rfl) (rfl) (h5 (a+1) (I) (J) (rfl) (L) (by rw[ec] at e;exact um e) (?_)))));refine j h1 (j Hq (j t ?_));simp[B]
    |false=>
     refine j (if_pos d) ?_;have N:(bH O.length).all o=false:=by refine List.all_eq_false.mpr ?_;(exact(bF (a) (List.mem_range.mpr (by rw[ec] at e;exact uw e)) (ne_true_of_eq_false B)))
     rw[N] at f;exact ab (aI (aI (aI f)))
 ·intro p l C;refine aV λG q=>?_;obtain⟨X,Y⟩:=p;(refine ek C λr h c=>?_;clear C;obtain rfl:=h;(refine kT c λa b g k m e t=>?_;clear c));refine q ?_;simp only at r;subst r;refine aI ?_;have Q:b.length=0:=by have:=m.len;have:=congrArg kI k;simp at this;exact yY (by assumption) this
  rw[Q,Hr] at e;rw[<-e,t] at f;refine(?_:P (.done (.ret (.bool (O.toArray.size==aU.toArray.size)))) l);refine j cN (j cN (j v.len (j (beq_self_eq_true ..) ?_)));exact f
theorem X7{i:x}{o:Nat->Bool}{P:Fin->H->Prop}(D:NT (aZ w) s.heap U)(E:s.heap.get? i=some (dA U aq O))(u:s.heap.get? ai=some (dA U af aU))(v:iS o 0 O aU)(f:P (.done (.ret (.bool (!(bH O.length).all o)))) s):
 aL (aZ w) n (Builtin.«tuple.__ne__» ⟨[.ref i,.ref ai],[]⟩) P M s:=by
 have F:c2 (aZ w) s.heap (j8 (.ref ai) (.type "tuple")) true:=((hI u).andThen .now).andThen D.sub;refine(?_:aL _ _ (j8 (.ref ai) (.type "tuple")>>=_) _ _ s);refine ab (F.here (?_:aL _ _ (Builtin.Tuple.tupleItemsOf _>>=_) _ _ _));refine ab<|x1 E d<|ab<|x1 u d<|ab<|wpAny_forIn_list _
  (λy z l=>z.1=none/\l=s/\∃a b g,y=List.zip b g/\iS o a b g/\a+b.length=O.length/\(bH a).all o=true)
  _ ?_ ?_ _ _ ⟨rfl,rfl,0,O,aU,rfl,v,by exact iu O.length,rfl⟩
 ·intro p y z l A;refine cA ?_;intro R;refine aV λG q=>?_;obtain⟨S,T⟩:=p;(refine ek A λr h c=>?_;clear A;obtain rfl:=h;(refine kT c λa b g k m e t=>?_;clear c));refine q ?_;cases b with
  |nil=>trivial
  |cons V I=>
   cases g with
   |nil=>trivial
   |cons W J=>
    simp only[jr,Hh,Hp] at k;(refine bE k λh c=>?_;clear k;obtain⟨rfl,rfl⟩:=h;obtain rfl:=c);(refine bE m λK L=>?_;clear m);refine ab (K _ _ _ _ _ _ ?_);cases B:o a with
    |true=>refine j (if_neg iY) ?_;((refine aI (bO (rfl) (rfl) (h5 (a+1) (I) (J) (rfl) (L) (by rw[ec] at e;exact um e) (?_)))));refine j h1 (j Hq (j t ?_));simp[B]
    |false=>
     refine j (if_pos d) ?_;have N:(bH O.length).all o=false:=by refine List.all_eq_false.mpr ?_;(exact(bF (a) (List.mem_range.mpr (by rw[ec] at e;exact uw e)) (ne_true_of_eq_false B)))
     rw[N] at f;exact ab (aI (aI (aI f)))
 ·intro p l C;refine aV λG q=>?_;obtain⟨X,Y⟩:=p;(refine ek C λr h c=>?_;clear C;obtain rfl:=h;(refine kT c λa b g k m e t=>?_;clear c));refine q ?_;simp only at r;subst r;refine aI ?_;have Q:b.length=0:=by have:=m.len;have:=congrArg kI k;simp at this;exact yY (by assumption) this
  rw[Q,Hr] at e;rw[<-e,t] at f;refine(?_:P (.done (.ret (.bool (O.toArray.size !=aU.toArray.size)))) l);refine j cN (j cN (j v.len (j (bne_self_eq_false ..) ?_)));exact f
theorem X8:dK (ak w h) (.ref 371) "__eq__"=some (some (.builtin "tuple.__eq__")):=by kernel_rfl
theorem X9:dK (ak w h) (.ref 371) "__ne__"=some (some (.builtin "tuple.__ne__")):=by kernel_rfl
theorem Ya:dK (ak w h) (.ref 285) "__eq__"=some (some (.builtin "tuple.__eq__")):=by kernel_rfl
theorem wG{op:pk}{eo:al}{id:String}{i:x}{r:p->H->Prop}(b:(cmpInfo op).2.1=eo)(l:n.units<cLine)(X:(ak w h).In s.heap)(m:s.heap.get? i=some (dA U aq O))(o:s.heap.get? ai=some (dA U af aU))(q:dK (ak w h) (.ref U) eo=some (some (.builtin id)))(t:oneThing? op (.ref i) (.ref ai)=none)(u:bindSpecial (.builtin id) (.ref i)=pure (.builtin id,[.ref i]))(c:aL (aZ w) n (call (.builtin id) [.ref i,.ref ai]) (λE k=>E≠.notImplemented/\r E k) M s):aL (aZ w) n (richCompare op (.ref i) (.ref ai)) r M s:=by
 have e:c2 (aZ w) s.heap (hH (.ref i)) (.ref U):=(hI m).andThen .now;have v:c2 (aZ w) s.heap (hH (.ref ai)) (.ref U):=(hI o).andThen .now;have y:c2 (aZ w) s.heap (px (.ref i) eo) (some (.builtin id)):=e.andThen (mE X q);rcases f:cmpInfo op with⟨sym,z,A⟩;rw[f] at b;subst b;unfold richCompare;refine j f ?_;refine j t ?_;try with_reducible refine dH ?_
 refine ab<|wpAny_cRoomFor_or (.inr l)<|ab (e.here (ab (v.here (?_:aL _ _ (_root_.ite _ _ _) _ _ _))));refine j Zzq (ab (aI (?_:aL _ _ (tryCompare _ _ _>>=_) _ _ _)));refine ab<|cA ?_;intro g;refine(?_:aL _ _ (callSpecialIfBound? _ _ _>>=_) _ _ _);refine ab<|cA ?_;intro g;refine(?_:aL _ _ (holding _ (aaP _ _>>=_)) _ _ _);refine dH<|ab<|(?_:aL _ _ (px _ _>>=_) _ _ _);refine ab<|y.here<|cA ?_;intro g;refine ab (tG (wpAny_ite ?_));split
 ·refine ab<|j u<|aI<|aI<|ab (cy c (λE k a=>aI ?_) λW W a=>a);cases E<;>first|exact absurd d a.1|exact aI (aI a.2)
 ·refine Gr<|ab<|j u<|aI<|aI<|ab (cy c (λE k a=>aI ?_) λW W a=>a);cases E<;>first|exact absurd d a.1|exact aI (aI a.2)
theorem E0{i:x}{o:Nat->Bool}{r:p->H->Prop}(X:(ak w h).In s.heap)(c:fX (ak w h) U=true)(a:s.heap.get? i=some (dA U aq O))(d:s.heap.get? ai=some (dA U af aU))(e:iS o 0 O aU)(f:r (.bool ((bH O.length).all o)) s):
 aL (aZ w) n (call (.builtin "tuple.__eq__") [.ref i,.ref ai]) (λE k=>E≠.notImplemented/\r E k) M s:=by
 have b:=ks (b8:=aZ w) X c;have g:c2 (aZ w) s.heap (j8 (.ref i) (.type "tuple")) true:=((hI a).andThen .now).andThen b.sub;exact hY (lC (by decide+kernel) PySem.F.entry_tuple_eq (@pA (aZ w) _ _ s "tuple.__eq__" "tuple" "__eq__" (.ref i) [.ref ai] [] _ (by decide+kernel) (by decide+kernel) g (PySem.F.args_tuple_eq_2 _ _) (X6 b a d e ⟨(λo=>nomatch o),f⟩)))
theorem Yb{i:x}{o:Nat->Bool}{r:p->H->Prop}(X:(ak w h).In s.heap)(c:fX (ak w h) U=true)(a:s.heap.get? i=some (dA U aq O))(d:s.heap.get? ai=some (dA U af aU))(e:iS o 0 O aU)(f:r (.bool (!(bH O.length).all o)) s):
 aL (aZ w) n (call (.builtin "tuple.__ne__") [.ref i,.ref ai]) (λE k=>E≠.notImplemented/\r E k) M s:=by
 have b:=ks (b8:=aZ w) X c;have g:c2 (aZ w) s.heap (j8 (.ref i) (.type "tuple")) true:=((hI a).andThen .now).andThen b.sub;exact hY (lC (by decide+kernel) PySem.F.entry_tuple_ne (@pA (aZ w) _ _ s "tuple.__ne__" "tuple" "__ne__" (.ref i) [.ref ai] [] _ (by decide+kernel) (by decide+kernel) g (PySem.F.args_tuple_ne_2 _ _) (X7 b a d e ⟨(λo=>nomatch o),f⟩)))
theorem Yc{i:x}{o:Nat->Bool}(c:n.units<cLine)(X:(ak w h).In s.heap)(e:fX (ak w h) U=true)(g:dK (ak w h) (.ref U) "__eq__"=some (some (.builtin "tuple.__eq__")))(a:s.heap.get? i=some (dA U aq O))(b:s.heap.get? ai=some (dA U af aU))(j:iS o 0 O aU)(f:r (.bool ((bH O.length).all o)) s):
 aa w n (f1 .Eq (.ref i) (.ref ai)) r M s:=⟨wG (op:=.Eq) d c X a b g d (PySem.F.slot_tuple_eq.bind _) (E0 X e a b j f)⟩
theorem Yd{i:x}{o:Nat->Bool}(c:n.units<cLine)(X:(ak w h).In s.heap)(e:fX (ak w h) U=true)(g:dK (ak w h) (.ref U) "__ne__"=some (some (.builtin "tuple.__ne__")))(a:s.heap.get? i=some (dA U aq O))(b:s.heap.get? ai=some (dA U af aU))(j:iS o 0 O aU)(f:r (.bool (!(bH O.length).all o)) s):
 aa w n (f1 .NotEq (.ref i) (.ref ai)) r M s:=⟨wG (op:=.NotEq) d c X a b g d (PySem.F.slot_tuple_ne.bind _) (Yb X e a b j f)⟩
theorem Ye{i:x}{J:V}(a:s.heap.get? i=some J)(b:J.cls=.ref U)(f:r (.bool true) s):aa w n (call (.builtin "isinstance") [.ref i,.ref U]) r M s:=by
 refine⟨call_isinstance_of ?_ (by intro c;exact nomatch c)⟩;refine cA ?_;intro e;have d:c2 (aZ w) s.heap (hH (.ref i)) (.ref U):=b▸(hI a).andThen .now;unfold Builtin.«isinstance.nested»;refine ab (m:=hH (.ref i))<|d.here<|j (if_pos ReflBEq.rfl) ?_;repeat(first|refine aI ?_|refine kM ?_|refine ab ?_)
 exact f
structure a7.E4(t bV:a7):Prop where
 id:t.id=bV.id
 ext:t.ext=bV.ext
 o:t.o=bV.o
 bD:t.bD=bV.bD
 gt:t.gt=bV.gt
 bR:t.bR=bV.bR
 mt:t.mt=bV.mt
noncomputable def a7.fd(t bV:a7):Bool:=t.cB==bV.cB&&t.E==bV.E
theorem hC{c:Nat}{u:aF}:Ho (aj c u) (aj c S) true:=by
 have:=abU c c u S
 rwa [beq_self_eq_true] at this
section
variable{i aq ai af:x}{bU Yf:List aF}{u eN:Nat->aF}{t bV:a7}
theorem Yg(v:bb h)(L:aH w h s)(A:aR n 5 20)(p:il w s.heap i aq bU u t)(m:il w s.heap ai af Yf eN bV)(l:t.E4 bV)(H:t.E.length<=1000/\bV.E.length<=1000)(f:∀k,bP [] s k true->aH w h k->r (.bool (t.fd bV)) k):bk w n (.call (.ref 395) ⟨[.ref i,.ref ai],[]⟩) (bW r) s:=by
 unfold a7.fd at f;refine cZ (q:=4) (S:=17) (RO v) Qg (.none true) L trivial A.mono ?_;intro I J K M N c a A;refine seq<|b2<|aE ?_;intro P;refine s0 ?_;refine c0 a c 0 d Rr Tx ?_;refine Y a c 1 d d<|eA a c 1 d vl<|Ye (m.bc a).c d<|cn<|d2<|s0<|lT<|gd (Y a c 0 d d (jj a.Z.l (p.bc a) .(0) .(0) .(0) .(0) ⟨a.Z.l,bk.ex (sQ v a.Z A.mono (p.bc a) (n2 (rfl) (rfl) (rfl) (rfl) (rfl) (rfl) (rfl)) λQ R k x y z T B V C W X=>?_)⟩));have D:=a.call x y;have e:=a.hq D z B C;refine e.eL ?_;intro Z e;refine gd (Y e c 1 d d (jj e.Z.l (m.bc e) .(0) .(0) .(0) .(0) ⟨e.Z.l,bk.ex (sQ v e.Z A.mono (m.bc e) (n2 (rfl) (rfl) (rfl) (rfl) (rfl) (rfl) (rfl)) λaa ab a5 E F G ac ad ae ag ah ak=>?_)⟩));have b:=e.call E F;refine Yc (U:=371) (O:=[aj t.id (u 0),.bool t.ext,aj t.o (u 2),aj t.bD (u 3),aj t.gt (u 4),aj t.bR (u 5),aj t.mt (u 7)]) (aU:=[aj bV.id (eN 0),.bool bV.ext,aj bV.o (eN 2),aj bV.bD (eN 3),aj bV.gt (eN 4),aj bV.bR (eN 5),aj bV.mt (eN 7)]) (o:=λW=>true) A.e b.Z.l v3 X8 (b.at 0 d) G ?_ ?_
 ·refine be l.id<|be l.ext<|be l.o<|be l.bD<|be l.gt<|be l.bR<|be l.mt<|(mI (hC) (wF _) (hC) (hC) (hC) (hC) (hC) (trivial))
 refine cn<|d2<|s0<|lT<|cq<|Y b c 0 d d<|eD p b sP d λa5 b=>cq<|Y b c 1 d d<|eD m b sP d λa5 b=>qr (cn ?_);by_cases g:(t.cB==bV.cB)=true
 ·rw[g,Hf] at f;refine fi g<|Eb<|lT<|cq<|Y b c 0 d d<|eD p b qD d λa5 b=>cq<|Y b c 1 d d<|eD m b qD d λa5 b=>SR ?_;exact f _ b.aS b.Z
 ·rw[aaF] at g;rw[g,xZ] at f;refine dN g<|(?_:r (.bool (t.cB==bV.cB)) _);refine j g<|f _ b.aS b.Z
end
theorem Yh{op:pk}{eo:al}{i:x}{a:V}{g:Option V}{r:p->H->Prop}(b:(cmpInfo op).2.1=eo)(j:n.units<cLine)(X:(ak w h).In s.heap)(L:iD s.heap i bt U g)(l:s.heap.get? ai=some a)(m:a.cls=.ref U)(o:dK (ak w h) (.ref U) eo=some (some (.ref C)))(q:isFn (ak w h) (.ref C)=true)(t:oneThing? op (.ref i) (.ref ai)=none)(f:aL (aZ w) n (call (.ref C) [.ref i,.ref ai]) (λE k=>E≠.notImplemented/\r E k) M s):aL (aZ w) n (richCompare op (.ref i) (.ref ai)) r M s:=by
 have u:c2 (aZ w) s.heap (hH (.ref ai)) (.ref U):=m▸(hI l).andThen .now;rcases c:cmpInfo op with⟨sym,A,B⟩;rw[c] at b;subst b;unfold richCompare;rw[c,t];try with_reducible refine dH ?_
 refine ab<|wpAny_cRoomFor_or (.inr j)<|ab (L.type.here (ab (u.here (?_:aL _ _ (_root_.ite _ _ _) _ _ _))));refine Internal.j Zzq (ab (aI (?_:aL _ _ (tryCompare _ _ _>>=_) _ _ _)));refine ab<|cA ?_;intro D;refine(?_:aL _ _ (callSpecialIfBound? _ _ _>>=_) _ _ _);refine ab (ifBound_K X L o q (cy f (λE k e=>?_) λW W v=>v));(refine bE e λy z=>?_;clear e);cases E<;>first|exact absurd d y|exact aI (aI z)
theorem Yi{i:x}{c:V}{l:Option V}{b:Bool}{r:Bool->H->Prop}(m:n.units<cLine)(X:(ak w h).In s.heap)(L:iD s.heap i bt U l)(o:s.heap.get? ai=some c)(p:c.cls=.ref U)(e:i≠ai)(q:dK (ak w h) (.ref U) "__eq__"=some (some (.ref C)))(t:isFn (ak w h) (.ref C)=true)(f:bk w n (.call (.ref C) ⟨[.ref i,.ref ai],[]⟩) (bW λE k=>E=.bool b/\r b k) s):aL (aZ w) n (nZ (.ref i) (.ref ai)) r M s:=by
 unfold nZ;try with_reducible refine dH ?_
 refine j (if_neg (by simpa using e))<|ab (Yh (op:=.Eq) (eo:="__eq__") d m X L o p q t (by simp[oneThing?,e]) (cy (k0 f) (λE k g=>?_) λW W u=>u));(refine bE g λv a=>?_;clear g;refine j v ?_);refine⟨by exact not_eq_of_beq_eq_false d,?_⟩;unfold truthOfDropped;first
  |exact aI a
  |exact pn a
  |exact ab (pn (aI a))
open MeetsSeq MeetsSeq2 SeqRoads2 AutoSeq1 in
theorem Yj{i:p}(o:Nat->Bool)(b:H->Prop)(l:Nat):
 ∀m:Nat,aM.size-m=l->MeetsIn ff w (Builtin.«list.__contains__.loop» ⟨[.ref G,i,eu m],[]⟩)
  (λn av s=>b s/\(∀s,b s->∃v jQ bw,s.heap.get? G=some {cls:=.type "list",dict:=jQ,data:=.seq aM v,slots:=bw})/\(∀m ai,aM[m]?=some ai->∀(s:H) (M:p->H->Prop) (r:Bool->H->Prop),b s->(∀k,b k->r (o m) k)->aL (aZ w) n.in1 (nZ ai i) r M s)/\
   (∀k,b k->av (.ok (.ret (.bool ((bH (aM.size-m)).any λa0=>o (m+a0))))) k)):=by
 induction l with
 |zero=>
  intro m c n av s ⟨d,e,f,a⟩;refine iF (e s d) λv jQ bw g=>?_;replace a:=a s d;obtain⟨A,B,C,D,os⟩:=s
  wp_walk using Hs g
  have h:aM[((m:Nat):Int).toNat]?=none:=by simp;exact IY c
  have q:aM.size-m=0:=uk c;rw[q] at a;refine j h ?_
  wp_walk
  exact a
 |succ l E=>
  intro m c n av s ⟨d,e,f,a⟩;refine iF (e s d) λv jQ bw g=>?_;have t:m<aM.size:=rD c;have h:aM[((m:Nat):Int).toNat]?=some aM[m]:=by simp[t]
  have q:aM.size-m=(aM.size-(m+1))+1:=yK t;have F:(λa0=>o (m+(a0+1)))=λa0=>o (m+1+a0):=by funext a0;congr 1;exact pX
  rw[q,xw,Ht,List.any_map,Hr,show((λa0=>o (m+a0))∘Nat.succ)=λa0=>o (m+1+a0) from F] at a;obtain⟨A,B,C,D,os⟩:=s
  wp_walk using Hs g
  refine j h<|ab (f m _ (by assumption) _ _ _ d λk u=>?_);cases x:o m with
  |true=>
   rw[x] at a;replace a:=a k u
   wp_walk
   exact a
  |false=>
   rw[x] at a;have I:((m:Int)+1)=((m+1:Nat):Int):=by push_cast;rfl
   wp_walk
   refine j I<|⟨kO plain_contains_loop _,kN entry_contains_loop (by refine j (lA plain_contains_loop _)<|E (m+1) (rz c) n av k (dS (u) (e) (f) (λy z=>by exact bif o G then a y z else a y z)))⟩
open MeetsSeq MeetsSeq2 SeqRoads2 AutoSeq1 in
theorem Yk{i:p}(o:Nat->Bool)(a:H->Prop):
 MeetsIn ff w (Builtin.«list.__contains__» ⟨[.ref G,i],[]⟩)
  (λn av s=>a s/\(∀s,a s->∃v jQ bw,s.heap.get? G=some {cls:=.type "list",dict:=jQ,data:=.seq aM v,slots:=bw})/\(∀m ai,aM[m]?=some ai->∀(s:H) (M:p->H->Prop) (r:Bool->H->Prop),a s->(∀k,a k->r (o m) k)->aL (aZ w) n.in1 (nZ ai i) r M s)/\
   (∀k,a k->av (.ok (.ret (.bool ((bH aM.size).any o)))) k)):=by
 intro n av s ⟨b,c,e,f⟩;refine iF (c s b) λv jQ bw g=>?_;obtain⟨l,q,t,u,os⟩:=s
 wp_walk using Hs g
 exact⟨kO plain_contains_loop _,kN entry_contains_loop (by refine j (lA plain_contains_loop _)<|Yj o a _ 0 d n av _ (dS (b) (c) (e) (λk h=>by simpa using f k h)))⟩
theorem wH{i:p}(o:Nat->Bool)(a:H->Prop)(c:a s)(d:∀s,a s->∃v jQ bw,s.heap.get? G=some {cls:=.type "list",dict:=jQ,data:=.seq aM v,slots:=bw})(l:∀m ai,aM[m]?=some ai->∀(s:H) (M:p->H->Prop) (r:Bool->H->Prop),a s->(∀k,a k->r (o m) k)->aL (aZ w) n.in1 (nZ ai i) r M s)(f:∀k,a k->r (.bool (!(bH aM.size).any o)) k):aa w n (f1 .NotIn i (.ref G)) r M s:=by refine⟨iF (d s c) λv jQ bw q=>?_⟩;have e:s.TypeIs (.ref G) "list":=(bF (_) (q) (rfl));refine(?_:aL _ n (do return .bool (!(<-contains (.ref G) i))) r M s);refine ab (wpAny_contains_slot e aa2 (cy (t0 aa2 e PySem.F.entry_list_contains (PySem.F.args_list_contains_2 _ _) (Yk o a) (Q:=λg k=>∃b,g=.bool b/\r (.bool (!b)) k) (dS (c) (d) (l) (λk t=>(bF (_) (rfl) (f k t))))) (λg k h=>?_) λW W o=>o));(refine bp h λb u x=>?_;clear h;refine j u ?_);exact pn (aI x)
noncomputable def li(w:aD)(l:aF)(bw:x):Obj:=fK [ay w.params "shares" l (.ref bw)] 1
structure gW(w:aD)(f:au)(g dQ bw:x)(l:aF):Prop where
 c:f.get? g=some (eT 660 dQ)
 b:f.get? dQ=some (li w l bw)
 n1:837<=g
 ox:837<=dQ
section
variable{g dQ bw:x}{l:aF}
theorem gW.inst{f:au}(L:gW w f g dQ bw l):iD f g (eT 660 dQ) 660 (some (li w l bw)):=⟨L.c,rfl,rfl,L.b⟩
theorem gW.bc(L:gW w e.aK.heap g dQ bw l)(a:N w h e I led s)(cY:autoParam (g∉e.af.ae/\dQ∉e.af.ae) Zzf):gW w s.heap g dQ bw l:=⟨a.bc L.c cY.1 L.n1,a.bc L.b cY.2 L.ox,L.n1,L.ox⟩
theorem E5:dK (ak w h) (.ref 660) "__getattribute__"=some (some (.builtin "object.__getattribute__")):=by kernel_rfl
theorem Yl:dK (ak w h) (.ref 660) "__getattr__"=some none:=by kernel_rfl
theorem Ym:eS (ak w h) 660 (some (li w l bw)) (y "shares")=some (.value (.ref bw)):=by kernel_rfl
theorem lj(L:gW w s.heap g dQ bw l)(a:N w h e I led s)(f:∀k,N w h e I led k->r (.ref bw) k):aa w n (hJ (.ref g) (y "shares") true) r M s:=ii a L.inst E5 Ym d f
theorem nt(X:(ak w h).In s.heap)(L:gW w s.heap g dQ bw l)(b:dK (ak w h) (.ref 660) name=some (some (.ref C)))(c:typeIn (ak w h) (.ref C)=some (.type "function"))(d:shadowIn (some (li w l bw)) name=some false)(e:cX (ak w h) (.ref C)=true)(f:eM w n M D args (λar a=>(ak w h).In a.heap/\bk w n (.call (.ref C) ⟨.ref g::ar,[]⟩) (fU r M) a) s):v6 w h n M r D name args (.ref g) s:=⟨g,660,_,_,C,rfl,X,L.inst,E5,Yl,b,c,d,e,f⟩
end
theorem Yn(m:bb h)(L:aH w h s)(A:aR n 1 4){i aq:x}(b:s.heap.get? i=some (eT 660 aq))(o:s.heap.get? aq=some d0)(p:837<=i)(t:837<=aq)(u:i≠aq)(f:∀l bw k,bP [aq] s k true->aH w h k->k.heap.get? aq=some (li w l bw)->k.heap.get? bw=some (a4 [])->s.heap.get? bw=none->837<=bw->r .none k):bk w n (.call (.ref 582) ⟨[.ref i],[]⟩) (bW r) s:=by refine cZ (q:=0) (S:=1) (RY m) Qq (ht [(aq,fK [] 0)] true (λy c=>by refine j (List.mem_singleton.mp c) ?_;exact t)) L (λy c=>by refine j (List.mem_singleton.mp c) ?_;exact o) A.mono ?_;intro E g F G H z a A;replace b:g.heap.get? i=some (eT 660 aq):=a.bc b (λB=>u (List.mem_singleton.mp B)) p;refine seq<|ij<|f7 ⟨ck .(1),?_⟩;have C:=cM {cls:=.type "list",data:=.seq (List.toArray [])} b;replace a:=a.e8 [];refine(?_:aa w _ _ _ _ _);refine Y a z 0 d d<|ik (U:=660) (cG:=[]) (v:=0) "shares" a C .(0) .(0) .(0) .(0) .(0) (λW=>by kernel_rfl) (b6 d) λD g I a J=>bv ?_;have e:=a.ld _ aG;exact f D _ _ a.aS a.Z (a.fo 0 d) e.1 e.2.2.new e.2.2.ge
theorem Yo:cX (ak w h) (.ref 660)=true:=by kernel_rfl
theorem Yp(u:bb h)(L:aH w h s)(A:aR n 2 8)(f:∀i aq bw l k,bP [] s k true->aH w h k->gW w k.heap i aq bw l->k.heap.get? bw=some (a4 [])->s.heap.get? i=none->s.heap.get? aq=none->s.heap.get? bw=none->837<=bw->i≠aq->bw≠i->bw≠aq->r (.ref i) k):
 bk w n (.call (.ref 660) ⟨[],[]⟩) (bW r) s:=by
 refine v5 (q:=1) (S:=4) L A.mono .(0) (oP:=582) .(0) .(0) λi aq J K v g x c j y m o p e=>Yn u x v c j o p e λl bw k t z B C a D=>⟨rfl,?_⟩;have E:bw≠i:=λb=>by rw[b,c] at a;exact iH a
 have F:bw≠aq:=λb=>by rw[b,j] at a;exact iH a
 have G:s.heap.get? bw=none:=by
  cases H:s.heap.get? bw with
  |none=>rfl
  |some I=>have:=g.heap bw I bC (.inr d) H;exact cz (a.symm.trans this)
 exact f i aq bw l k (g.new t m) z ⟨t.heap i _ (λb=>e (List.mem_singleton.mp b)) (.inr d) c,B,o,p⟩ C y m G D e E F
section
variable{g dQ bw:x}{l:aF}{O:List p}{R:Nat}
theorem Yq(e:bb h)(L:aH w h s)(A:aR n 1 4)(i:gW w s.heap g dQ bw l)(j:s.heap.get? bw=some (a4 O R))(m:837<=bw)(o:O.length<1000)(f:∀u k,bP [] s k true->aH w h k->r (aj O.length u) k):bk w n (.call (.ref 596) ⟨[.ref g],[]⟩) (bW r) s:=by refine cZ (q:=0) (S:=1) (RZ e) Qr (.none true) L trivial A.mono ?_;intro p b t x y c a A;refine seq (b2 ?_);refine c0 a c 0 d dv dx ?_;refine cq<|Y a c 0 d d<|lj (i.bc a) a λb a=>oY a (IsList.new (a.bc j bC m)) (v:=O.length) (cN ..) (NA o) λu b a=>f u _ a.aS a.Z
theorem E6(i:bb h)(a:N w h e I led s)(A:aR n 1 5)(c:gW w s.heap g dQ bw l)(o:s.heap.get? bw=some (a4 O R))(p:837<=bw)(d:O.length<1000)(f:∀u k,N w h e I led k->bP [] s k true->r (aj O.length u) k):aa w n (call (.builtin "len") [.ref g]) r M s:=by refine⟨Calls.call_function_entry kind_len plain_len entry_len (args_len1 _) ?_⟩;unfold Builtin.«len»;refine ab (m:=oneArg "len" _)<|aI<|ab (m:=callSpecial? (.ref g) (et "__len__")) (special_fn a.Z.l c.inst (f:=596) .(0) .(0) (k0 (Yq i a.Z A.in1.mono c o p d λu k b q=>?_)));have t:=a.call b q;refine ab<|dH<|aI<|ab<|pp<|(?_:aL _ _ (if((O.length:Nat):Int)<0 then _ else _) _ _ _);refine j (if_neg pW)<|(?_:aL _ _ (if((O.length:Nat):Int)>=2^63 then _ else _) _ _ _);refine j (if_neg (NB d))<|ab (GU (aI (bF (_) (rfl) (f _ _ t.a3 ⟨b.heap,b.cK,b.gens,b.g6,b.os,b.e5⟩))))
variable{i aq:x}{bU:List aF}{u:Nat->aF}{t:a7}
theorem Yr(b:bb h)(L:aH w h s)(A:aR n 5 19)(o:gW w s.heap g dQ bw l)(p:s.heap.get? bw=some (a4 (.ref i::O) R))(v:837<=bw)(c:il w s.heap i aq bU u t)(f:Made w h 371 [aj t.id (u 0),.bool t.ext,aj t.o (u 2),aj t.bD (u 3),aj t.gt (u 4),aj t.bR (u 5),aj t.mt (u 7)] s r):bk w n (.call (.ref 643) ⟨[.ref g],[]⟩) (bW r) s:=by refine cZ (q:=4) (S:=16) (R3 b) Qv (.none true) L trivial A.mono ?_;intro I e J K M x a A;refine seq (b2 ?_);refine gd (h:=h) ?_;refine dr<|cq<|Y a x 0 d d<|lj (o.bc a) a λe a=>cg a λN e a=>f8 (i:=.ref i) (IsList.new (a.bc p bC v)) .(1) .(1) d<|jj a.Z.l (c.bc a) .(0) .(0) .(0) .(0) ⟨a.Z.l,bk.ex (sQ b a.Z A.mono (c.bc a) (n2 (rfl) (rfl) (rfl) (rfl) (rfl) (rfl) (rfl)) λy z B R C D E F G j k H=>?_)⟩;have m:=a.call R C;exact f y z B m.aS m.Z D E (a.eC F j).own.new (a.eC G k).own.new j k H
theorem Ys(b:bb h)(L:aH w h s)(A:aR n 5 19)(o:gW w s.heap g dQ bw l)(p:s.heap.get? bw=some (a4 (.ref i::O) R))(v:837<=bw)(c:il w s.heap i aq bU u t)(f:Made w h 285 [aj t.id (u 0),.bool t.ext,aj t.o (u 2),aj t.gt (u 4),aj t.bR (u 5)] s r):bk w n (.call (.ref 636) ⟨[.ref g],[]⟩) (bW r) s:=by refine cZ (q:=4) (S:=16) (R2 b) Qu (.none true) L trivial A.mono ?_;intro I e J K M x a A;refine seq (b2 ?_);refine gd (h:=h) ?_;refine dr<|cq<|Y a x 0 d d<|lj (o.bc a) a λe a=>cg a λN e a=>f8 (i:=.ref i) (IsList.new (a.bc p bC v)) .(1) .(1) d<|jj a.Z.l (c.bc a) .(0) .(0) .(0) .(0) ⟨a.Z.l,bk.ex (we b a.Z A.mono (c.bc a) (cV (rfl) (rfl) (rfl) (rfl) (rfl)) λy z B R C D E F G j k H=>?_)⟩;have m:=a.call R C;exact f y z B m.aS m.Z D E (a.eC F j).own.new (a.eC G k).own.new j k H
theorem wI(c:bb h)(L:aH w h s)(A:aR n 1 4)(e:gW w s.heap g dQ bw l)(j:s.heap.get? bw=some (a4 (.ref i::O) R))(m:837<=bw)(o:il w s.heap i aq bU u t)(f:∀k,bP [] s k true->aH w h k->r (aj t.mt (u 7)) k):bk w n (.call (.ref 650) ⟨[.ref g],[]⟩) (bW r) s:=by refine cZ (q:=0) (S:=1) (R4 c) Qw (.none true) L trivial A.mono ?_;intro v b x y z p a A;refine seq<|b2<|cq<|dr<|cq<|Y a p 0 d d<|lj (e.bc a) a λb a=>cg a λB b a=>f8 (i:=.ref i) (IsList.new (a.bc j bC m)) .(1) .(1) d<|eD o a wd d λb a=>f _ a.aS a.Z
end
theorem Yt{O:List p}{R:Nat}{i:p}{l:f5}{hd:eK}{t:Bool}{m:∀z∈[(c,a4 O R)],837<=z.1}(a:N w h ⟨l,aK,ht [(c,a4 O R)] t m,hd⟩ I led s)(o:O.length<eI)(f:∀k b,N w h ⟨l,aK,ht [(c,a4 (O++[i]) (R+1))] t b,hd⟩ I led k->r .none k):aa w n (call (.builtin "list.append") [.ref c,i]) r M s:=by
 have e:IsL s.heap c O.toArray R:=a.fo 0 d;have q:(s.heap.update c (nP λg=>g.push i)).get? c=some (a4 (O++[i]) (R+1)):=by
  have:=xC e (λg=>g.push i);have u:(if(O.toArray.push i).size==O.toArray.size then R else R+1)=R+1:=by simp
  rw[u] at this;have v:O.toArray.push i=(O++[i]).toArray:=xD O i;rw[v] at this;exact this
 have b:∀z∈[(c,a4 (O++[i]) (R+1))],837<=z.1:=λz x=>by refine j (List.mem_singleton.mp x) ?_;exact m (c,a4 O R) aG
 exact⟨nO lE (bF (_) (e) (rfl)) GI (GJ _ _) (GK c O.toArray R i (nF o)) ⟨e,f _ b (a.sD (a3:=s.toks) (by simp) 0 d (kJ ..) q _ d b)⟩⟩
theorem E7{α:Type}(C:α->Bool):∀bm:List α,((bH bm.length).any λm=>(bm[m]?.map C).getD false)=bm.any C
 |[]=>rfl
 |a::bm=>by refine j ec (j xw (j Ht (j List.any_map (j Ht (be (E7 C bm) ?_)))));rfl
theorem gz.wJ{f:au}{t:a7}(i:gz w (er f) E t):∃i aq bU,∃u:Nat->aF,E=.ref i/\il w f i aq bU u t:=let⟨i,aq,bU,u,c,a,b⟩:=i;⟨i,aq,bU,u,c,⟨a.1,b.1,a.2,b.2⟩⟩
section
variable{g dQ bw:x}{l:aF}{O:List p}{R:Nat}{i aq:x}{bU:List aF}{u:Nat->aF}{t:a7}{bm:List a7}
theorem Yu(J:bb h)(L:aH w h s)(A:aR n 6 24)(p:gW w s.heap g dQ bw l)(af:s.heap.get? bw=some (a4 O R))(W:837<=bw)(e:il w s.heap i aq bU u t)(K:bT (gz w (er s.heap)) O bm)(ag:∀bV∈bm,bV.E4 t)(ah:t.E.length<=1000/\∀bV∈bm,bV.E.length<=1000)(ai:O.length<1000)(bi:∀E∈O,E≠.ref i)(f:∀av k,bP [bw] s k true->aH w h k->k.heap.get? bw=some (a4 (if bm.any (·.fd t) then O else O++[.ref i]) av)->r .none k):bk w n (.call (.ref 617) ⟨[.ref g,.ref i],[]⟩) (bW r) s:=by
 have M:∀{b:x} {ak:V},s.heap.get? b=some ak->(∀aw ax,ak.data≠.seq aw ax)->b∉[bw]:=λo ay t=>by rw[List.mem_singleton.mp t,af] at o;(obtain rfl:=dg o;clear o);exact ay _ _ d
 have D:g∉[bw]/\dQ∉[bw]:=⟨M p.c (λV V t=>by exact nomatch t),M p.b (λV V t=>by exact nomatch t)⟩;have F:∀{v P:x} {bU:List aF} {u:Nat->aF} {t:a7},il w s.heap v P bU u t->v∉[bw]/\P∉[bw]:=λe=>⟨M e.c (λV V t=>by exact nomatch t),M e.b (λV V t=>by exact nomatch t)⟩;refine cZ (q:=5) (S:=21) (R0 J) Qs (ht [(bw,a4 O R)] true (λal G=>by refine j (List.mem_singleton.mp G) ?_;exact W)) L (λal G=>by refine j (List.mem_singleton.mp G) ?_;exact af) A.mono ?_;intro X m aV aW aX y a A;have am:∀m,N w h ⟨oq.eg X [],s,ht [(bw,a4 O R)] true (λal G=>by refine j (List.mem_singleton.mp G) ?_;exact W),.none⟩ [some (.ref g),some (.ref i)] [] m->aa w (n.deeper (oq.D X [])) (ej ((fv oq.a9).drop 1) (oq.D X [])) (ia r) (λX X=>False) m:=by
  intro m a;refine a.z6 ?_;intro az aY a;refine a.gl ?_;intro az a;refine seq<|ifs<|cT<|Y a y 1 d d<|cq<|Y a y 0 d d<|lj (p.bc a D) a λm a=>wH (aM:=O.toArray) (λQ=>(bm[Q]?.map (·.fd t)).getD false) (λk=>N w h _ _ [] k) a (λk aA=>(mJ (_) (_) (_) (aA.fo 0 d))) (λQ v an a5 aZ a0 H ao=>?_) λa5 a=>cn ?_
  ·refine bp (K.at (by simpa using an)) λbV Z aB=>?_;(refine h6 aB.wJ λv P aC c ab I=>?_;obtain rfl:=ab);have aD:v≠i:=λo=>bi (.ref v) (cx (by simpa using an)) (j o d);have ap:=I.bc H (F I);have ar:=e.bc H (F e);rw[Z] at ao;refine Yi (b:=bV.fd t) (aR.in1 (q:=5) (S:=20) A).e H.Z.l ap.inst ar.c d aD (C:=395) .(0) .(0) (Yg J H.Z (aR.in1 (q:=5) (S:=20) A) ap ar (ag bV (cx Z)) ⟨ah.2 bV (cx Z),ah.1⟩ λT aI ac=>⟨rfl,ao T (H.call aI ac)⟩)
  have o:((bH O.toArray.size).any λQ=>(bm[Q]?.map (·.fd t)).getD false)=bm.any (·.fd t):=by refine j cN (j K.len ?_);exact E7 _ bm
  refine j o ?_;cases as:bm.any (·.fd t) with
  |true=>refine dw<|bv<|bv ?_;rw[as] at f;exact f R a5 a.aS a.Z (by refine j (if_pos d) ?_;exact a.fo 0 d)
  |false=>refine d2<|seq<|l5<|gu nT lE pv<|cq (Y a y 0 d d (lj (p.bc a D) a λm a=>?_));have au:=a.fo 0 d;(refine(bO ((IsList.new au).typeIs) (λaJ o=>by cases o;exact(bF (_) (au) (rfl))) (?_)));refine Y a y 1 d d<|Yt a (ck (zz ai)) λT a1 ad=>⟨rfl,bv (bv ?_)⟩;rw[as] at f;exact f (R+1) T ad.aS ad.Z (by refine j (if_neg .(1)) ?_;exact ad.fo 0 d)
 refine seq<|ifs<|oX<|gq<|cq<|Y a y 0 d d<|lj (p.bc a D) a λm a=>qk a (IsList.new (a.fo 0 d)) (by simp;exact zo ai) λm a=>?_;cases O with
 |nil=>refine dw<|bv<|am _ a
 |cons E a2=>
  refine d2<|aE ?_;intro a3;cases bm with
  |nil=>exact K.elim
  |cons dT a6=>
   (refine h6 K.1.wJ λv P aC c ab I=>?_;obtain rfl:=ab);have z:=ag dT aG;refine oX<|cT<|gd (Y a y 0 d d (nt a.Z.l (p.bc a D) .(0) .(0) .(0) .(0) ⟨a.Z.l,bk.ex (Yr J a.Z A.mono (p.bc a D) (a.fo 0 d) W (I.bc a (F I)) λaJ a8 a5 aK ac aL a9 aN ba aO bc bd=>?_)⟩));have aP:=a.call aK ac;have B:=a.hq aP aL aN aO;refine gd (Y B y 1 d d (jj B.Z.l (e.bc B (F e)) .(0) .(0) .(0) .(0) ⟨B.Z.l,bk.ex (sQ J B.Z A.mono (e.bc B (F e)) (n2 (rfl) (rfl) (rfl) (rfl) (rfl) (rfl) (rfl)) λb bf T aQ aS aT bg bh bj bl bn bo=>?_)⟩));have ae:=B.call aQ aS;refine Yd (U:=371) (O:=[aj dT.id (c 0),.bool dT.ext,aj dT.o (c 2),aj dT.bD (c 3),aj dT.gt (c 4),aj dT.bR (c 5),aj dT.mt (c 7)]) (aU:=[aj t.id (u 0),.bool t.ext,aj t.o (u 2),aj t.bD (u 3),aj t.gt (u 4),aj t.bR (u 5),aj t.mt (u 7)]) (o:=λW=>true) A.e ae.Z.l v3 X9 (ae.at 0 d) aT ?_ ?_
   ·refine be z.id<|be z.ext<|be z.o<|be z.bD<|be z.gt<|be z.bR<|be z.mt<|(mI (hC) (wF _) (hC) (hC) (hC) (hC) (hC) (trivial))
   refine cn ?_;simp only[show((bH [aj dT.id (c 0),.bool dT.ext,aj dT.o (c 2),aj dT.bD (c 3),aj dT.gt (c 4),aj dT.bR (c 5),aj dT.mt (c 7)].length).all λW=>true)=true from d,ra,fO,if_false];refine bv<|am _ (ae.cd (cJ _ _))
end
theorem N.Yv{J r:V}(a:N w h e I ((c,J)::led) s)(R:bP [c] s k t)(L:aH w h k)(z:k.heap.get? c=some r)(A:autoParam (e.af.t=true->t=true) Zzg):N w h e I ((c,r)::led) k:=by
 have n:=a.ld _ aG;have p:=R.p7 A;have l:∀d b,d≠c->837<=d->s.heap.get? d=some b->k.heap.get? d=some b:=λd b i B g=>R.heap d b (λf=>i (List.mem_singleton.mp f)) (.inl (gI B)) g;have C:=List.nodup_cons.mp a.dE;refine⟨L,⟨λd b q o g=>?_,?_,λu b g=>R.gens u b (a.aS.gens u b g),λf=>(p.g6 f).trans (a.aS.g6 f),R.os.trans a.aS.os,λf=>(p.e5 f).trans (a.aS.e5 f)⟩,?_,?_,a.cE,λm j=>?_,a.dE,?_,λd i=>?_⟩
 ·refine p.heap d b (λf=>?_) o (a.aS.heap d b q o g);have:=n.2.2.new;rw[List.mem_singleton.mp f] at g;exact iH (g.symm.trans this)
 ·intro m j D f;refine bo (a.aS.cK m j D f) λE b=>bo (R.cK m j _ b) λF G=>⟨E++F,by refine be nH ?_;exact G⟩
 ·exact e.af.eV _ _ (λd i b g=>l d b (λf=>n.2.2.dc (f▸i)) (e.af.ge d i) g) a.b4
 ·refine f4 a.ch λb H K M O=>(hh (b) (H) (K) (l _ _ (λf=>n.2.1 f.symm) a.cE.ge M) (O))
 ·rcases List.mem_cons.mp j with rfl|j
  ·exact⟨z,n.2⟩
  ·have b:=a.ld m (.tail _ j);exact⟨l _ _ (λf=>C.1 (by refine be f ?_;exact fN (a:=m) j)) b.2.2.ge b.1,b.2⟩
 ·exact e.hd.eV _ _ (λd i b g=>l d b (λf=>(a.b9 d i).2.2.1 (f▸.head _)) (a.b9 d i).2.2.2.1 g) a.bG
 ·refine aV λS P=>?_;(refine dM (a.b9 d i) λq o v x y=>?_;(refine bo y λb Q=>?_;clear y));all_goals refine P ?_
  exact(cV (q) (o) (v) (x) ⟨b,l d b (λf=>v (f▸.head _)) x Q⟩)
theorem qO{q:x}(f:837<=q):(q==sysModules)=false:=by refine beq_eq_false_iff_ne.mpr ?_;intro a;rw[a] at f;exact absurd f .(1)
theorem Yw(a:N w h e I led s)(f:∀q c k,c.IsDictOf (e0 w) []->N w h e I ((q,c)::led) k->r (.ref q) k):aa w n (bA (.Dict [] [] pos) D) r M s:=by refine bp (Heap.dictOf_iff.mp (Heap.DictOf.new (knd:=e0 w) s.heap)) λl b g=>?_;have i:Obj.isFreed {cls:=.type "dict",data:=.dict #[]}=false:=rfl;rw[eX _ i] at b;(obtain rfl:=dg b;clear b);refine⟨j (eval_Dict_empty ..)<|ab (lu (lB (f _ _ _ g (a.alloc d))))⟩
theorem N.dict{q:x}{b:V}{b1:List (Int×p)}(a:N w h e I ((q,b)::led) s)(hd:b.IsDictOf (e0 w) b1):s.heap.DictOf (e0 w) q b1:=Heap.dictOf_iff.mpr ⟨b,a.at 0 d,hd⟩
theorem Yx{q:x}{c:V}{b1:List (Int×p)}{l:Int}{a3:aF}{dflt:p}(a:N w h e I ((q,c)::led) s)(hd:c.IsDictOf (e0 w) b1)(i:b1.length<=1000)(j:∀E k,lI b1 l=some E->N w h e I ((q,c)::led) k->r E k)(o:∀b k,lI b1 l=none->b.IsDictOf (e0 w) (stored b1 l dflt)->N w h e I ((q,b)::led) k->r dflt k):aa w n (call (.builtin "dict.setdefault") [.ref q,.int l a3,dflt]) r M s:=by
 have g:=a.dict hd;refine⟨t0 aa3 g.typeIs PySem.F.entry_dict_setdefault (PySem.F.args_dict_setdefault_3 _ _ _) (kt_meets_setdefault (e0 w) q (intKind_is _ _ _ _) (qO (a.ld _ aG).2.2.ge) dflt)
  ⟨b1,g,ck (kV i),(λE f=>j E _ f a.a3),(λf z t u=>?_)⟩⟩
 refine bp (Heap.dictOf_iff.mp t) λb v y=>o b _ f y (a.r0 (m:=0) d u v)
structure G1 where
 bD:Nat
 g:x
 dQ:x
 bw:x
 l:aF
 O:List p
 R:Nat
noncomputable def E8(w:aD)(z:G1):List (x×V):=[(z.bw,a4 z.O z.R),(z.g,eT 660 z.dQ),(z.dQ,li w z.l z.bw)]
noncomputable def gX(w:aD)(ap:List G1):List (x×V):=ap.flatMap (E8 w)
noncomputable def fe(ap:List G1):List (Int×p):=ap.map λz=>((z.bD:Int),.ref z.g)
noncomputable def eP:List (Nat×List a7)->a7->List (Nat×List a7)
 |[],t=>[(t.bD,[t])]
 |(m,G)::A,t=>if m=t.bD then(m,if G.any (·.fd t) then G else G++[t])::A else(m,G)::eP A t
noncomputable def eE(bm:List a7):List (Nat×List a7):=bm.foldl eP []
noncomputable def e1(w:aD)(av:x->V->Prop):List G1->List (Nat×List a7)->Prop
 |[],[]=>True
 |z::ap,(m,G)::Q=>z.bD=m/\bT (gz w av) z.O G/\e1 w av ap Q
 |_,_=>False
theorem e1.len:∀{ap:List G1} {Q:List (Nat×List a7)},e1 w av ap Q->ap.length=Q.length
 |[],[],_=>rfl
 |_::_,(_,_)::_,a=>j ec (j ec (j (e1.len a.2.2) d))
 |[],_::_,a=>a.elim
 |_::_,[],a=>a.elim
theorem e1.keep(l:∀b J,av b J->bs b J):∀{ap:List G1} {Q:List (Nat×List a7)},e1 w av ap Q->e1 w bs ap Q
 |[],[],_=>trivial
 |_::_,(_,_)::_,a=>⟨a.1,a.2.1.keep λW W c=>c.keep l,e1.keep l a.2.2⟩
 |[],_::_,a=>a.elim
 |_::_,[],a=>a.elim
theorem e1.at:∀{ap:List G1} {Q:List (Nat×List a7)},e1 w av ap Q->∀{m:Nat} {z:G1},ap[m]?=some z->∃G,Q[m]?=some (z.bD,G)/\bT (gz w av) z.O G
 |z::_,(_,G)::_,a,0,_,b=>by simp only[j1,kH] at b;subst b;(exact(bF (G) (by refine j a.1 ?_;rfl) (a.2.1)))
 |_::ap,(_,_)::Q,a,m+1,z,b=>by simp only[mq] at b⊢;exact e1.at a.2.2 b
 |[],_,_,m,_,b=>by trivial
 |_::_,[],a,_,_,_=>a.elim
def Yy(w:aD)(av:x->V->Prop)(m:Nat)(ap:List G1)(Q:List (Nat×List a7)):Prop:=(lI (fe ap) m=none/\(∀z∈ap,z.bD≠m))\/∃G1 z G2 a G b,ap=G1++z::G2/\Q=a++(m,G)::b/\z.bD=m/\lI (fe ap) m=some (.ref z.g)/\bT (gz w av) z.O G/\e1 w av G1 a/\e1 w av G2 b/\(∀c∈G1,c.bD≠m)
theorem E9{z:G1}{ap:List G1}(o:¬z.bD=m):lI (fe (z::ap)) (m:Int)=lI (fe ap) (m:Int):=by have a:¬((z.bD:Int)=(m:Int)):=uC o;unfold lI fe;exact j dC (j (List.find?_cons_of_neg (by simpa using a)) d)
theorem Fa(m:Nat){ap:List G1}:∀{Q:List (Nat×List a7)},e1 w av ap Q->Yy w av m ap Q:=by
 induction ap with
 |nil=>
  intro Q a;cases Q with
  |nil=>exact .inl ⟨rfl,λW a=>nomatch a⟩
  |cons=>exact a.elim
 |cons d ap l=>
  intro Q a;cases Q with
  |nil=>exact a.elim
  |cons n Q=>
   obtain⟨o,g⟩:=n;(refine ek a λh i k=>?_;clear a);by_cases b:d.bD=m
   ·(refine .inr (yp ([]) (d) (ap) ([]) (g) (Q) (rfl) (by refine be h (j b ?_);rfl) (b) (?_) (i) (trivial) (k) (λW a=>nomatch a)));simp[lI,fe,b]
   ·refine aV λG p=>?_;rcases l k with⟨q,r⟩|c;all_goals refine p ?_
    ·exact .inl ⟨j (E9 b) q,λe f=>(List.mem_cons.mp f).elim (λc=>c▸b) (r e)⟩
    ·refine t9 c λG1 s t u v x y z A B C D E F=>?_;(exact .inr (yp (d::G1) s t ((o,g)::u) v x (by refine j y ?_;rfl) (by refine j z ?_;rfl) A (j (E9 b) B) C (bO (h) (i) (D)) E (λe f=>(List.mem_cons.mp f).elim (λc=>c▸b) (F e))))
theorem e1.dU:∀{ap d:List G1} {Q e:List (Nat×List a7)},e1 w av ap Q->e1 w av d e->e1 w av (ap++d) (Q++e)
 |[],_,[],_,_,a=>a
 |_::_,_,(_,_)::_,_,b,a=>⟨b.1,b.2.1,e1.dU b.2.2 a⟩
 |[],_,_::_,_,c,_=>c.elim
 |_::_,_,[],_,c,_=>c.elim
theorem Zzp{m:Nat}{G A}{t:a7}(h:m=t.bD):eP ((m,G)::A) t=(m,if G.any (·.fd t) then G else G++[t])::A:=if_pos h
theorem Zzn{m:Nat}{G A}{t:a7}(h:m≠t.bD):eP ((m,G)::A) t=(m,G)::eP A t:=if_neg h
theorem Fb{t:a7}:∀{ap:List G1} {Q:List (Nat×List a7)} {av:x->V->Prop},e1 w av ap Q->(∀z∈ap,z.bD≠t.bD)->eP Q t=Q++[(t.bD,[t])]
 |[],[],_,_,_=>rfl
 |z::ap,(c,f)::Q,_,a,b=>by have:c≠t.bD:=a.1▸b z aG;rw[Zzn this,Fb a.2.2 λd e=>b d (.tail _ e)];rfl
 |[],_::_,_,a,_=>a.elim
 |_::_,[],_,a,_=>a.elim
theorem Fc{t:a7}{G:List a7}{b:List (Nat×List a7)}:∀{ap:List G1} {Q:List (Nat×List a7)} {av:x->V->Prop},e1 w av ap Q->(∀z∈ap,z.bD≠t.bD)->eP (Q++(t.bD,G)::b) t=Q++(t.bD,if G.any (·.fd t) then G else G++[t])::b
 |[],[],_,_,_=>Zzp d
 |z::ap,(e,G)::Q,_,a,c=>by have:e≠t.bD:=a.1▸c z aG;rw[tD,Zzn this,Fc a.2.2 λf g=>c f (.tail _ g)];rfl
 |[],_::_,_,a,_=>a.elim
 |_::_,[],_,a,_=>a.elim
theorem Yz:mD (ak w h) (.ref 450) (.type "type") (y "from_mnemonic")=some (.get (.builtin "classmethod.__get__") (.ref 446) .none (.ref 450)):=by kernel_rfl
theorem YA:recIn (ak w h) 446 "classmethod"=some [.ref 444,.bool false]:=by kernel_rfl
theorem YB:xS (ak w h) (.ref 450) "__getattribute__"=some (some (.builtin "type.__getattribute__")):=by kernel_rfl
theorem YC:readsIn (ak w h) 450 (.type "type")=true:=by kernel_rfl
theorem YD{i:x}{o:Nat->Bool}{r:Bool->H->Prop}(k:n.units<cLine)(X:(ak w h).In s.heap)(l:fX (ak w h) U=true)(m:dK (ak w h) (.ref U) "__eq__"=some (some (.builtin "tuple.__eq__")))(a:s.heap.get? i=some (dA U aq O))(b:s.heap.get? ai=some (dA U af aU))(p:iS o 0 O aU)(q:i≠ai)(f:r ((bH O.length).all o) s):aL (aZ w) n (nZ (.ref i) (.ref ai)) r M s:=by
 unfold nZ;try with_reducible refine dH ?_
 refine j (if_neg (by simpa using q))<|ab (wG (op:=.Eq) d k X a b m d (PySem.F.slot_tuple_eq.bind _) (cy (E0 (r:=λc e=>c=.bool ((bH O.length).all o)/\r ((bH O.length).all o) e) X l a b p ⟨rfl,f⟩) (λc e g=>?_) λW W o=>o));(refine ek g λW t u=>?_;clear g;obtain rfl:=t);refine⟨by assumption,?_⟩;unfold truthOfDropped;exact pn u
structure a7.qP(t bV:a7):Prop where
 id:t.id=bV.id
 ext:t.ext=bV.ext
 o:t.o=bV.o
 gt:t.gt=bV.gt
 bR:t.bR=bV.bR
noncomputable def jV(t:a7)(d4:x)(a:Nat->aF):Obj:=dA 285 d4 [aj t.id (a 0),.bool t.ext,aj t.o (a 2),aj t.gt (a 4),aj t.bR (a 5)]
def wK(w:aD)(av:x->V->Prop)(E:p)(Q:List (Nat×List a7)):Prop:=∃q a ap,E=.ref q/\av q a/\a.IsDictOf (e0 w) (fe ap)/\(∀z∈gX w ap,av z.1 z.2)/\e1 w av ap Q
def ta(P:a7->Prop)(v:Nat)(Q:List (Nat×List a7)):Prop:=∀z∈Q,z.2.length<=v/\∀t∈z.2,P t/\t.bD=z.1
theorem YE{P:a7->Prop}{t:a7}(l:P t){Q:List (Nat×List a7)}:ta P v Q->(eP Q t).length<=Q.length+1/\ta P (v+1) (eP Q t):=by
 induction Q with
 |nil=>exact λW=>⟨c9 _,λb a=>by refine j (List.mem_singleton.mp a)<|⟨iv (e2 _),λm i=>by refine j (List.mem_singleton.mp i) ?_;exact⟨l,rfl⟩⟩⟩
 |cons b g q=>
  intro k;have n:=q λb a=>k b (.tail _ a);obtain⟨h,c⟩:=b;have e:=k (h,c) aG;by_cases o:h=t.bD
  ·subst o;refine j (show eP ((t.bD,c)::g) t=(t.bD,if c.any (·.fd t) then c else c++[t])::g from if_pos d)<|⟨gZ _,λb a=>(List.mem_cons.mp a).elim (λf=>?_) λa=>have:=k b (.tail _ a);⟨ml this.1,this.2⟩⟩;refine j f ?_;by_cases p:c.any (·.fd t)=true
   ·refine j (if_pos p)<|⟨ml e.1,e.2⟩
   ·refine j (if_neg p)<|⟨by refine j dZ ?_;exact iv e.1,λm i=>(List.mem_append.mp i).elim (e.2 m) λf=>?_⟩;refine j (List.mem_singleton.mp f) ?_;exact⟨l,rfl⟩
  ·refine j (show eP ((h,c)::g) t=(h,c)::eP g t from if_neg o)<|⟨iv n.1,λb a=>(List.mem_cons.mp a).elim (λf=>f▸⟨ml e.1,e.2⟩) (n.2 b)⟩
theorem YF{P:a7->Prop}(bm:List a7):∀(Q:List (Nat×List a7)) (v:Nat),Q.length<=v->ta P v Q->(∀t∈bm,P t)->(bm.foldl eP Q).length<=v+bm.length/\ta P (v+bm.length) (bm.foldl eP Q):=by
 induction bm with
 |nil=>exact λQ v a b W=>⟨a,b⟩
 |cons t bm e=>intro Q v a b c;have d:=YE (c t aG) b;refine j ec<|j (show v+(bm.length+1)=v+1+bm.length by exact pX)<|e (eP Q t) (v+1) (bZ d.1 (iv a)) d.2 λf g=>c f (.tail _ g)
theorem YG(bm:List a7)(t:a7):eE (bm++[t])=eP (eE bm) t:=by unfold eE;refine j jv ?_;rfl
theorem N.wL(a:N w h e I led s){J:V}(o:e.aK.heap.get? G=some J):G∉led.map (·.1):=λb=>by
 (refine bp (List.mem_map.mp b) λc d f=>?_;obtain rfl:=f);have:=(a.ld c d).2.2.new;exact cz (this.symm.trans o)
theorem N.g9(a:N w h e I led s){i:x}{bU:List aF}{u:Nat->aF}{t:a7}(b:In led i (eT 450 aq))(c:In led aq (gS w bU (aj t.id (u 0)) (.bool t.ext) (aj t.o (u 2)) (aj t.bD (u 3)) (aj t.gt (u 4)) (aj t.bR (u 5)) (aj t.cB (u 6)) (aj t.mt (u 7)) (a6 t.E (u 8)))):il w s.heap i aq bU u t:=⟨(fc a b).1,(fc a c).1,(fc a b).2,(fc a c).2⟩
theorem N.YH(a:N w h e I led s){g dQ bw:x}{l:aF}(b:In led g (eT 660 dQ))(c:In led dQ (li w l bw)):gW w s.heap g dQ bw l:=⟨(fc a b).1,(fc a c).1,(fc a b).2,(fc a c).2⟩
theorem YI{α:Type}(c b q z t:α)(X a:List α):(z::t::(X++(c::b::q::a))).Perm (c::b::q::z::t::(X++a)):=by have d:(z::t::X)++([c,b,q]++a)=((z::t::X)++[c,b,q])++a:=nD (lH (z::t::X) [c,b,q] a);have:(((z::t::X)++[c,b,q])++a).Perm (([c,b,q]++(z::t::X))++a):=List.perm_append_comm.append_right a;rw[<-d] at this;simpa using this
theorem YJ{α:Type}(c z t:α)(X a:List α):(z::t::(X++(c::a))).Perm (c::z::t::(X++a)):=by have:((z::t::X)++c::a).Perm (c::((z::t::X)++a)):=List.perm_middle;simpa using this
theorem YK{α:Type}(c b q z t:α)(X a:List α):(z::t::(X++(c::b::q::a))).Perm (t::c::b::q::z::(X++a)):=by
 classical
 exact List.perm_iff_count.mpr λd=>by simp only[tW,tX];exact NC
theorem YL{α:Type}(c b q z t:α)(X a:List α):(z::t::(X++[c,b,q]++a)).Perm (t::c::b::q::z::(X++a)):=by
 classical
 exact List.perm_iff_count.mpr λd=>by simp only[tW,tX,List.count_nil];exact ND
theorem YM{α:Type}(c b q z t:α)(X a:List α):(t::c::b::q::z::(X++a)).Perm (c::b::q::z::t::(X++a)):=by
 classical
 exact List.perm_iff_count.mpr λd=>by simp only[tW,tX];exact NE
theorem YN{α:Type}(c b q z t:α)(X a d:List α):(c::z::t::(X++(b::q::(a++d)))).Perm (z::t::(X++c::b::q::a++d)):=by
 classical
 exact List.perm_iff_count.mpr λe=>by simp only[tW,tX];exact NF
theorem Fd(w:aD)(G1:List G1)(z:Internal.G1)(G2:List Internal.G1):gX w (G1++z::G2)=gX w G1++(z.bw,a4 z.O z.R)::(z.g,eT 660 z.dQ)::(z.dQ,li w z.l z.bw)::gX w G2:=by unfold gX;refine j aa4 (j aa5 ?_);rfl
theorem YO{b1:List (Int×p)}{l:Int}(f:lI b1 l=none):stored b1 l E=b1++[(l,E)]:=by unfold stored;rw[if_neg];intro a;refine bp (List.any_eq_true.mp a) λb c a=>?_;unfold lI at f;rw[Option.map_eq_none_iff,List.find?_eq_none] at f;exact f b c a
theorem Fe{α:Type}{u:eF α}{r:α->H->Prop}(P:(α->H->Prop)->Prop)(b:P r->aa w n u r M s)(c:P r):aa w n u r M s:=b c
theorem qQ{P:x->Prop}{b:x}(f:P b):∀c,e4 b=.ref c->P c:=λW a=>aa6 a▸f
theorem YP{a t:a7}(f:a.qP t)(d4:x)(b:Nat->aF):jV a d4 b=jV t d4 b:=by
 delta jV;exact j f.id (j f.ext (j f.o (j f.gt (j f.bR d))))
theorem N.kg(a:N w h e I led s){ax c:List (x×V)}{b:x}(o:O=aU)(f:led=ax++(b,a4 O R)::c):N w h e I (ax++(b,a4 aU R)::c) s:=by subst o f;exact a
theorem Ff(w:aD)(z t:x×V)(G1 G2:List Internal.G1)(a:Internal.G1)(b:List (x×V)):((a.bw,a4 a.O a.R)::z::t::(gX w G1++((a.g,eT 660 a.dQ)::(a.dQ,li w a.l a.bw)::(gX w G2++b)))).Perm (z::t::(gX w (G1++a::G2)++b)):=by refine j (Fd ..) ?_;exact YN _ _ _ _ _ _ _ _
theorem YQ(al:bb h)(L:aH w h s)(A:aR n 9 30){bm:List a7}{au:a7}(bf:s.heap.get? G=some (a4 ar R))(bH:837<=G)(av:bT (λE t=>∃u,E=ds (dk t) u) ar bm)(bI:∀t∈bm,t.bL/\t.gt<=t.bR/\t.E.length%2=0/\16<=t.E.length)(bg:∀t∈bm,au.qP t)(cA:∀t∈bm,∀bV∈bm,t.bD=bV.bD->t.mt=bV.mt)(bi:0<bm.length)(bJ:bm.length<900)(f:∀E k,bP [] s k->aH w h k->wK w (ei s.heap k.heap) E (eE bm)->r E k):bk w n (.call (.ref 748) ⟨[.ref G],[]⟩) (bW r) s:=by
 refine cZ (q:=8) (S:=27) (Sa al) QB .none L trivial A.mono ?_;intro cB K aw dD ay i a A;have cC:G≠cB:=a.kY bf;refine seq<|bN<|f7 ⟨ck .(1),?_⟩;replace a:=a.e8 [];refine(?_:aa w _ _ _ _ _);generalize K.heap.objs.size=az at a⊢;refine bx a i 1 d d ?_;intro K ay a;refine seq<|bN<|Yw a λq M K Z a=>bx a i 2 d d ?_;intro K ay a;replace a:=a.gT (aaL _ _ _);refine seq<|gJ<|Y a i 0 d d<|vr A.bd a (IsList.new (a.bc bf bC bH)) (dS (cC) (bC) (a.wL bf) (bH)) λdE K W cD a=>gK W cD (λH cE cF=>∃bh bj bl am af M y z,cE=[some (.ref G),some (.ref az),some (.ref q),bh,bj,bl]/\cF=(az,a4 am af)::(q,M)::(gX w y++z)/\M.IsDictOf (e0 w) (fe y)/\e1 w (In z) y (eE (bm.take H))/\(H=0/\am=[]\/0<H/\∃p U x,am=[.ref p]/\In z p (jV au U x))) a (rx (none) (none) (none) ([]) (0) (M) ([]) ([]) (rfl) (rfl) (Z) (trivial) (.inl ⟨rfl,rfl⟩)) ?_ ?_
 ·intro H E W W K dG bK cG bL aw cH W a;refine aV λbM aA=>ys bL λbh bj bl am af M y z g O Z ab aT=>a.ef g O ?_;intro ay cI a;refine aA<|bp (av.at (by simpa using cG)) λt bQ g=>bo g λu g=>?_;refine j g ?_;clear bL g O;have aU:=cx bQ;refine kS (bI t aU) λbR cK cL cM=>?_;have cN:H<bm.length:=by have:=av.len;simp at bK;exact zA this bK
  refine bE (YF (P:=λbV=>bV∈bm) (bm.take H) [] 0 (c9 _) (λW f=>nomatch f) (λbV ac=>mz ac)) λbS bU=>?_;rw[iC] at bS bU;refine dF (cp (bx a i 3 d d ?_));intro K ay a;refine seq (bN ?_);refine Ei a i 0 d vl YB YC Yz YA .(0) λbX K a=>?_;refine Y a i 3 d d ?_;refine(bO (a.at 0 d) (a.Z.l) (bk.ex (X5 al a.Z A.mono bR cK cL cM λE a5 bY cO bZ=>?_)));refine gk bZ λl ag b0 x g an aB=>?_;refine j g ?_;let aC:Obj:=gS w b0 (aj t.id (x 0)) (.bool t.ext) (aj t.o (x 2)) (aj t.bD (x 3)) (aj t.gt (x 4)) (aj t.bR (x 5)) (aj t.cB (x 6)) (aj t.mt (x 7)) (a6 t.E (x 8));let aD:Obj:=eT 450 ag;refine ek an λan b1 b4=>ek aB λaB b5 b6=>?_;have B:=a.hq (J:=aC) (a.call bY cO) aB b6 b5;have aF:=a.eC b4 b1;have b7:l≠ag:=λo=>by rw[o,aB] at an;exact nomatch an
  have aI:=B.m5 (J:=aD) an ⟨aF.own,aF.fn,aF.hd,λf=>(List.mem_cons.mp f).elim b7 aF.led⟩;have cP:∀b J,In z b J->b≠l:=λb J D o=>
   (List.nodup_cons.mp aI.dE).1 (o▸fN (a:=(b,J)) (.tail _ (.tail _ (.tail _ (.tail _ (dt _ D))))))
  refine(aI.gT (YI _ _ _ _ _ (gX w y) z)).eL ?_;clear B a bY b7 an aB b5 b6 b4 b1 aF aI g bZ;intro aJ a;refine bx a i 4 d d ?_;intro b8 aW a;refine seq (Fe (λaO=>∀k aX Q p U ad,In Q p (jV au U ad)->In Q l aD->In Q ag aC->(∀b J,In z b J->In Q b J)->N w h aw aW ((az,a4 [.ref p] aX)::(q,M)::(gX w y++Q)) k->aO .next k) ?_ ?_)
  ·intro aK;have aY:In aJ l aD:=.tail _ (.tail _ (dt _ aG));have aZ:In aJ ag aC:=.tail _ (.tail _ (dt _ (.tail _ aG)));refine ifs<|cT<|gd (Y a i 4 d d (jj a.Z.l (a.g9 aY aZ) .(0) .(0) .(0) .(0) ⟨a.Z.l,bk.ex (we al a.Z A.mono (a.g9 aY aZ) (cV (rfl) (rfl) (rfl) (rfl) (rfl)) λc b9 a5 ca cb cc cQ cd cR ce cS cW=>?_)⟩));have m:N w h aw aW ((c,jV t b9 x)::aJ) a5:=a.hq (a.call ca cb) cc cd ce;clear ca cb cc cQ cd cR ce cS cW a;refine Y m i 1 d d ?_;have ao:=bg t aU;have bn:∀aM,am=aM->∀k,k=a5->∃v cX a0,k.heap.get? az=some {cls:=.type "list",dict:=cX,data:=.seq aM.toArray v,slots:=a0}:=λaM o k cY=>j cY (mJ (af) (_) (_) ((m.at 1 d).trans (congrArg (λc1=>some (a4 c1 af)) o)));rcases aT with T|T
   ·refine bE T λW O=>wH (aM:=#[]) (λW=>false) (λk=>k=a5) d (bn [] O) (λa1 ah a2=>by trivial) λk o=>j o<|cn<|d2<|seq<|l5<|gu nT lE pv<|Y m i 1 d d ?_;(refine(bO ((IsList.new (m.at 1 d)).typeIs) (qQ (bF (_) (m.at 1 d) (rfl))) (?_)));refine gd (Y m i 4 d d (jj m.Z.l (m.g9 (.tail _ aY) (.tail _ aZ)) .(0) .(0) .(0) .(0) ⟨m.Z.l,bk.ex (we al m.Z A.mono (m.g9 (.tail _ aY) (.tail _ aZ)) (cV (rfl) (rfl) (rfl) (rfl) (rfl)) λV a3 b8 cf cg ch c2 ci c3 cj c4 c5=>?_)⟩));have c6:N w h aw aW ((V,jV t a3 x)::(c,jV t b9 x)::aJ) b8:=m.hq (m.call cf cg) ch ci cj;clear cf cg ch c2 ci c3 cj c4 c5 m bn;refine(?_:aa w _ _ _ _ _);refine oF c6 2 d (by refine j O ?_;exact ck .(1)) λc7 c8=>⟨rfl,?_⟩;refine bv<|aK _ (af+1) ((V,jV t a3 x)::(l,aD)::(ag,aC)::(bX,tZ (.ref 444) (.ref 450))::z) V a3 x (j (YP ao a3 x) aG) (.tail _ aG) (.tail _ (.tail _ aG)) (λb J D=>.tail _ (.tail _ (.tail _ (.tail _ D))))<|((c8.kg (ax:=[_,_]) (congrArg (·++[e4 V]) O) d).cd (?_:List.Sublist _ _)).gT (YJ _ _ _ (gX w y) _);exact .cons_cons _ (.cons _ (ka _))
   ·refine bE T λW g=>f4 g λp U ad O ai=>?_;have cl:In aJ p (jV au U ad):=.tail _ (.tail _ (dt _ (.tail _ (.tail _ (.tail _ ai)))));refine wH (aM:=#[.ref p]) (λW=>true) (λk=>k=a5) d (bn [.ref p] O) (λa1 ah a2 k dH dI o da=>?_) λk o=>?_
    ·have:ah=.ref p:=by
      cases a1 with
      |zero=>exact(dg a2).symm
      |succ a1=>trivial
     refine j this<|j o<|YD (o:=λW=>true) (aR.in1 (q:=8) (S:=26) A).e m.Z.l sJ Ya (fc m (.tail _ cl)).1 (m.at 0 d) ?_ (λo=>(List.nodup_cons.mp m.dE).1 (o▸fN (a:=(p,jV au U ad)) cl)) ?_
     ·refine j ao.id<|j ao.ext<|j ao.o<|j ao.gt<|j ao.bR<|⟨hC,wF _,hC,hC,hC,trivial⟩
     ·exact da _ d
    refine j o<|cn<|dw<|bv (aK _ af ((l,aD)::(ag,aC)::(bX,tZ (.ref 444) (.ref 450))::z) p U ad (.tail _ (.tail _ (.tail _ ai))) aG (.tail _ aG) (λb J D=>.tail _ (.tail _ (.tail _ D))) ((m.kg (ax:=[_]) O d).cd (cJ _ _)))
  intro c7 aX Q p U ad ai bq br cm a;clear aT;refine a.eL ?_;clear a;intro dJ a;refine seq<|bN<|aE ?_;intro co;refine Fe (λaO=>∀k ap G1 e I aq ax as X,ap.IsDictOf (e0 w) (fe (G1++e::I))->e.bD=t.bD->e1 w (In z) G1 aq->e1 w (In z) I as->bT (gz w (In z)) e.O ax->(∀bV∈ax,bV∈bm/\bV.bD=t.bD)->ax.length<=H->
   eP (eE (bm.take H)) t=aq++(t.bD,if ax.any (·.fd t) then ax else ax++[t])::as->(∀b J,In Q b J->In X b J)->N w h aw aW ((az,a4 [.ref p] aX)::(q,ap)::(gX w (G1++e::I)++X)) k->aO (.ref (Internal.G1.g e)) k) ?_ ?_
  ·intro aK;refine gu x2 aa3 F.type_dict_setdefault<|Y a i 2 d d ?_;have dc:M.dict=none:=by(refine db Z λW W g W=>?_;(refine ek g λW o W=>?_;clear g));exact o
   (refine(bO ((Heap.dictOf_iff.mpr (bF (M) (a.at 1 d) (Z))).typeIs) (qQ (bF (_) (a.at 1 d) (dc))) (?_)));refine cq<|Y a i 4 d d<|ii a (a.g9 (.tail _ (.tail _ (dt _ bq))) (.tail _ (.tail _ (dt _ br)))).inst v7 wa d λbs a=>b3 a i 1 d Rd Yo ⟨a.Z.l,Yp al a.Z A.mono λah bt a0 cr dd bu bw a9 de df dh di dj dl dm dn=>?_⟩;have cs:=a.hq (a.call bu bw) a9.b dh a9.ox;have aL:=a.eC df a9.n1;have ct:=cs.m5 a9.c ⟨aL.own,aL.fn,aL.hd,λf=>(List.mem_cons.mp f).elim dl aL.led⟩;have V:=a.eC di dj;have cu:=ct.m5 de ⟨V.own,V.fn,V.hd,λf=>(List.mem_cons.mp f).elim dm λf=>(List.mem_cons.mp f).elim dn V.led⟩;have dp:=cu.gT (YM _ _ _ _ _ (gX w y) Q);clear cs aL ct V a cu;refine(?_:aa w _ _ _ _ _);refine Yx dp Z (by rw[fe,eG,ab.len];unfold eE;exact JX bJ bS) (λE bz aN a=>?_) λap bz aN bA a=>?_
   ·rcases Fa t.bD ab with T|T
    ·exact cz (T.1.symm.trans aN)
    ·refine t9 T λG1 e I aq ax as g aP ba bB ae aQ bc cv=>j (dg (aN.symm.trans bB)) ?_;have cw:=bU (t.bD,ax) (by refine(?_:_∈eE (bm.take H));refine j aP ?_;exact n0);refine aK bz M G1 e I aq ax as _ (be g Z) ba aQ bc ae cw.2 (JY cw.1) ?_ (λb J D=>?_) (be g (a.gT (YK _ _ _ _ _ (gX w y) Q)))
     ·refine j aP ?_;exact Fc aQ cv
     ·exact .tail _ (.tail _ (.tail _ D))
   ·rcases Fa t.bD ab with T|T
    ·refine aK bz ap y ⟨t.bD,ah,bt,a0,cr,[],0⟩ [] (eE (bm.take H)) [] [] Q ?_ d ab trivial trivial (λW f=>nomatch f) (e2 _) (Fb ab T.2) (λW W f=>f) ?_
     ·refine j (show fe (y++[⟨t.bD,ah,bt,a0,cr,[],0⟩])=fe y++[((t.bD:Int),.ref ah)] from g3)<|be (YO aN) bA
     ·refine j (Fd ..)<|a.gT (YL _ _ _ _ _ (gX w y) Q)
    ·refine t9 T λG1 e I aq ax as g aP ba bB ae aQ bc cv=>iH (bB.symm.trans aN)
  intro bs ap G1 e I aq ax as X bA ba aQ bc ae aS dq dr ak a;refine a.eL ?_;intro dK a;refine bx a i 5 d d ?_;intro bs dL a;refine(a.gT (Ff w _ _ G1 I e X)).eL ?_;clear a;intro du B;refine seq (l5 ?_);have cy:gW w bs.heap e.g e.dQ e.bw e.l:=B.YH (.tail _ (.tail _ (.tail _ (dt _ aG)))) (.tail _ (.tail _ (.tail _ (dt _ (.tail _ aG)))));have bD:∀{b J},In X b J->In du b J:=λf=>.tail _ (.tail _ (.tail _ (dt _ (.tail _ (.tail _ (dt _ f))))));refine gd (h:=h)<|Y B i 5 d d<|nt (C:=617) B.Z.l cy .(0) .(0) .(0) .(0)<|Y B i 4 d d<|⟨B.Z.l,bk.ex (Yu al B.Z A.mono cy (B.at 0 d) (B.ld _ aG).2.2.ge (B.g9 (bD (ak _ _ bq)) (bD (ak _ _ br))) (ae.keep λE bV l=>l.keep λb J D=>fc B (bD (ak _ _ (cm _ _ D)))) (λbV ac=>?_) ⟨oc bR.E,λbV ac=>oc (bI bV (aS bV ac).1).1.E⟩ (by refine j ae.len ?_;exact K5 bJ cN dq) (λE av o=>?_) λdy dd bu bw dz=>⟨rfl,?_⟩)⟩
  ·have c:=bg bV (aS bV ac).1;have b:=bg t aU;exact⟨c.id.symm.trans b.id,c.ext.symm.trans b.ext,c.o.symm.trans b.o,(aS bV ac).2,c.gt.symm.trans b.gt,c.bR.symm.trans b.bR,cA bV (aS bV ac).1 t aU (aS bV ac).2⟩
  ·refine bo (fr av) λa1 dA=>?_;refine bp (ae.at dA) λbV W g=>gk g λah bt W W aP a2 W=>cP _ _ a2 (aa6 (aP.symm.trans o))
  have aI:=B.Yv bu bw dz;have bd:∀b J,In z b J->In X b J:=λb J D=>ak _ _ (cm _ _ D);let bG:Internal.G1:=⟨e.bD,e.g,e.dQ,e.bw,e.l,if(ax.any λl=>l.fd t)=true then e.O else e.O++[.ref l],dy⟩;refine bv (cH _ _ _ (rx (some (ds (dk t) u)) (some (.ref l)) (some (.ref e.g)) ([.ref p]) (aX) (ap) (G1++bG::I) (X) (rfl) (rfl) (?_) (?_) (.inr ⟨Nat.succ_pos _,p,U,ad,rfl,ak _ _ ai⟩)) ?_)
  rotate_left 2
  ·exact aI.gT (Ff w _ _ G1 I bG X).symm
  ·refine j (show fe (G1++bG::I)=fe (G1++e::I) from by unfold fe;exact j g3 (j g3 d))<|bA
  ·refine j (show bm.take (H+1)=bm.take H++[t] from j hf (j bQ d))<|j (YG ..)<|j dr<|e1.dU (aQ.keep bd) (bO (ba) (?_) (bc.keep bd));refine(?_:bT (gz w (In X)) (if(ax.any λl=>l.fd t)=true then e.O else e.O++[.ref l]) (if ax.any (·.fd t) then ax else ax++[t]));split
   ·exact ae.keep λE bV l=>l.keep bd
   ·exact bT.dU (ae.keep λE bV l=>l.keep bd) (bT.gO (fR (l) (ag) (b0) (x) (rfl) (ak _ _ bq) (ak _ _ br)))
 ·intro W W K dB a;refine aE ?_;intro co;refine aV λbM aA=>ys dB λbh bj bl am af M y z g O Z ab aT=>?_;refine a.ef g O ?_;intro ay cI a;refine aA ?_;have dC:ar.toArray.size=bm.length:=by simp[av.len]
  refine bv<|seq<|ifs<|cT<|aE ?_;intro co;refine c0 a i 2 d dv dx<|Y a i 1 d d<|aV λbM aA=>?_;rcases aT with⟨dM,W⟩|⟨W,p,U,ad,rfl,ai⟩;all_goals refine aA ?_
  ·omega
  refine oY a (IsList.new (a.at 0 d)) (v:=1) d .(1) λdN K a=>a8 1 a λdO K a=>nc<|cn<|dw<|bv<|seq<|b2<|Y a i 2 d d ?_;rw[dC,h3] at ab;exact f _ _ a.aS a.Z (n7 (q) (M) (y) (rfl) (fC a (.tail _ aG)) (Z) (λp ai=>fC a (.tail _ (.tail _ (cU _ ai)))) (ab.keep λb J D=>fC a (.tail _ (.tail _ (dt _ D)))))
noncomputable def jW(q:x)(m v c5:Nat)(a:p)(b:Bool)(c d:p):Obj:={cls:=.type "dict_itemiterator",dict:=none,data:=.fields #[a,.bool b,.ref q,.int m 0,.int v 0,.int c5 0,c,d],slots:=#[]}
theorem YR{it q:x}{c5:Nat}{c:p}{e:Bool}{g h:p}{r:Bool->H->Prop}(a:s.heap.get? it=some (jW q m v c5 c e g h))(i:c=.none\/∃T:x,c=eu T)(f:∀b ag j,ag.get? it=some (jW q m v c5 c j g h)->hb it s.heap ag->r b {s with heap:=ag}):aL (aZ w) n (Hu (.ref it)) r M s:=by
 unfold Hu;refine ab (fE a d (x:=c) d ?_);rcases i with rfl|⟨T,rfl⟩
 ·exact aI (f true s.heap e a (xX ..))
 ·refine(?_:aL _ _ (GW _>>=_) _ _ _);refine ab (Da ?_);split
  ·exact aI (f true s.heap e a (xX ..))
  ·refine ab (fE a d (x:=.bool e) d ?_);split
   ·refine ab (iA a (rg [e4 q,gF (↑m) 0,gF (↑v) 0,gF (↑c5) 0,g,h].length) λag k l=>aI (f false ag true k l))
   ·exact aI (f false s.heap e a (xX ..))
def o5(w:aD)(it q:x)(b1:List (Int×p))(c5:Nat)(m:Nat)(f:au):Prop:=∃a b c d,f.get? it=some (jW q m b1.length c5 a b c d)/\(a=.none\/∃e:x,a=eu e)/\f.DictAt (e0 w) q b1 c5
def Fg(it q:x)(b1:List (Int×p))(m:Nat)(E:p)(f:au):Prop:=∃a l u i,E=.ref a/\a≠it/\a≠q/\b1[m]?=some (l,i)/\f.get? a=some {cls:=.type "tuple",data:=.seq #[.int l u,i]}
theorem YS{it q:x}{c5:Nat}{b1:List (Int×p)}{r:Option p->H->Prop}(A:q≠it)(a9:o5 w it q b1 c5 m s.heap)(aW:m<b1.length)(af:∀E ag a3,Fg it q b1 m E ag->o5 w it q b1 c5 (m+1) ag->(∀b J,b∉[it]->s.heap.get? b=some J->ag.get? b=some J)->r (some E) {s with heap:=ag,toks:=a3}):aL (aZ w) n (gE (.ref it)) r M s:=by
 (refine gk a9 λB ah R C D S T=>?_;clear a9);obtain⟨⟨ai,E⟩,U⟩:∃aj,b1[m]?=some aj:=⟨b1[m],by exact da aW⟩;have ak:=T;obtain⟨l,h,i,a3,os⟩:=s;refine yh (id T) λaG a F aH V aJ W aK=>?_;have f:Gx ⟨l,h,i,a3,os⟩ (.ref it) "dict_itemiterator":=(bF (_) (D) (rfl));unfold gE;refine ab (nQ (mF (name:=et "__next__") f x3
  (jx x3 f aa7 ?_ (aa8 _))))
 refine cA ?_;intro X;refine ab (aI ?_);refine ab<|ab ?_;first|refine ab (x4 f (aI ?_))|refine ab (x5 f (aI ?_))
 refine ab (wpAny_fieldsOf D d ?_);have al:aa9 "dict_itemiterator"=true:=by decide
 refine j (if_pos al)<|(?_:aL _ _ (if(e4 q==fD)=true then _ else _) _ _ _);refine j (if_neg (show¬((e4 q==fD)=true) from iY))<|ab<|aI<|ab (wpAny_dictEntries F V ?_);have Y:a.size=b1.length:=by refine be W.length ?_;exact aba
 (refine j (if_neg (by rw[Y];simp)) ?_);refine ab<|aI<|ab<|wpAny_dictEpoch F V<|j (if_neg (by simp))<|aI ?_;have Z:m<a.size:=by refine j Y ?_;exact aW
 refine bE (W.get? (e:=a[m]) (by simp[Z]) U) λam an=>?_;dsimp only;refine j (show(if((m:Int)<0) then none else a[(m:Int).toNat]?)=some a[m] from(if_neg pW).trans (q5 Z)) ?_;refine ab<|cA ?_;intro X;first|refine ab (x4 f (aI ?_))|refine ab (x5 f (aI ?_))
 refine ab<|Hv f<|(?_:aL _ _ (xL (.ref it) 3 (eu ((m:Int)+1))>>=_) _ _ ⟨l,h,i,a3,os⟩);refine ab (iA D (pa d) λc t u=>?_);replace u:hb it l c:=u;replace t:c.get? it=some (jW q (m+1) b1.length c5 B ah R C):=by have o:((m+1:Nat):Int)=(m:Int)+1:=NG;unfold jW;refine j o ?_;assumption
 have aa:Gx ⟨c,h,i,a3,os⟩ (.ref it) "dict_itemiterator":=(bF (_) (t) (rfl));refine ab<|dH<|cA ?_;intro X;refine ab<|Hv aa<|ab<|Hv aa<|(?_:aL _ _ (abb (.ref it) 6 a[m].key a[m].val) _ _ ⟨c,h,i,a3,os⟩);unfold abb;refine ab (GY ?_);have ao:=cM {cls:=.type "tuple",data:=.seq #[a[m].key,a[m].val]} t;have ac:it<c.objs.size:=cr t;have ap:(c.push {cls:=.type "tuple",data:=.seq #[a[m].key,a[m].val]}).get? c.objs.size=some {cls:=.type "tuple",data:=.seq #[a[m].key,a[m].val]}:=eX _ d;have ad:∀b J,b≠it->l.get? b=some J->(c.push {cls:=.type "tuple",data:=.seq #[a[m].key,a[m].val]}).get? b=some J:=λb J v o=>cM _ (u.extBut b J v o);have aq:q<c.objs.size:=cr (u.extBut _ _ A F);refine bo (aaH am) λar as=>?_;have done:∀ag k g G I,ag.get? it=some (jW q (m+1) b1.length c5 k g G I)->(k=.none\/∃au:x,k=eu au)->hb it (c.push {cls:=.type "tuple",data:=.seq #[a[m].key,a[m].val]}) ag->r (some (.ref c.objs.size)) ⟨ag,h,i,a3,os⟩:=by
  intro ag k g G I av aw K;refine af _ ag a3 ⟨_,ai,ar,E,rfl,mr ac,mr aq,U,?_⟩ (fR (k) (g) (G) (I) (av) (aw) (?_)) λb J v o=>?_
  ·refine be as (be an ?_);exact K.extBut _ _ (mr ac) ap
  ·exact ak.at' λJ o=>K.extBut _ _ A (ad _ _ A o)
  ·exact K.extBut _ _ (λL=>v (by simp[L])) (ad b J (λL=>v (by simp[L])) o)
 generalize c.push {cls:=.type "tuple",data:=.seq #[a[m].key,a[m].val]}=ae at*;refine(?_:aL _ _ (Hu (.ref it)>>=_) _ _ ⟨ae,h,i,a3,os⟩);refine ab (YR (w:=w) ao S λb ax g y z=>?_);replace z:hb it ae ax:=z;cases b with
 |false=>exact aI (aI (bF (_) (rfl) (aI (done _ _ _ _ _ y S z))))
 |true=>simp only[if_true];refine ab<|fE y d (x:=R) d<|ab<|fE y d (x:=C) d<|ab (iA y (pa d) λay N az=>?_);replace N:ay.get? it=some (jW q (m+1) b1.length c5 B g a[m].key C):=N;refine ab (iA N (uv d) λaA O aB=>?_);replace O:aA.get? it=some (jW q (m+1) b1.length c5 B g a[m].key a[m].val):=O;refine ab (iA O (lG d) λaC P aD=>?_);replace P:aC.get? it=some (jW q (m+1) b1.length c5 (eu c.objs.size) g a[m].key a[m].val):=P;refine ab (iA P (rg [e4 q,gF (↑(m+1)) 0,gF (↑b1.length) 0,gF (↑c5) 0,a[m].key,a[m].val].length) λaE Q aF=>?_);replace Q:aE.get? it=some (jW q (m+1) b1.length c5 (eu c.objs.size) false a[m].key a[m].val):=Q;exact ab (pp (aI (aI (bF (_) (rfl) (aI (done _ _ _ _ _ Q (.inr ⟨_,rfl⟩) ((((z.trans az).trans aB).trans aD).trans aF)))))))
theorem YT{it q:x}{c5:Nat}{b1:List (Int×p)}{r:Option p->H->Prop}(k:n.handled=none)(a9:o5 w it q b1 c5 b1.length s.heap)(l:∀ag,kL it s.heap ag->r none {s with heap:=ag}):aL (aZ w) n (gE (.ref it)) r M s:=by
 (refine gk a9 λy z A B e C o=>?_;clear a9);refine yh (id o) λD f g E h F t G=>?_;have c:s.TypeIs (.ref it) "dict_itemiterator":=(bF (_) (e) (rfl));unfold gE;refine ab (nQ (mF (name:=et "__next__") c x3
  (jx x3 c aa7 ?_ (aa8 _))))
 refine cA ?_;intro I;refine ab (aI ?_);refine ab<|ab ?_;first|refine ab (x4 c (aI ?_))|refine ab (x5 c (aI ?_))
 refine ab (wpAny_fieldsOf e d ?_);have u:aa9 "dict_itemiterator"=true:=by decide
 refine j (if_pos u)<|(?_:aL _ _ (if(e4 q==fD)=true then _ else _) _ _ s);refine j (if_neg (show¬((e4 q==fD)=true) from iY))<|ab<|aI<|ab (wpAny_dictEntries g h ?_);have i:f.size=b1.length:=by refine be t.length ?_;exact aba
 (refine j (if_neg (by rw[i];simp)) ?_);refine ab<|aI<|ab<|wpAny_dictEpoch g h<|j (if_neg (by simp))<|aI ?_;have v:f.size<=b1.length:=by refine j i ?_;exact c9 _
 dsimp only;refine j (show(if((b1.length:Int)<0) then none else f[(b1.length:Int).toNat]?)=none from(if_neg pW).trans (tH v)) ?_;refine ab ?_;first|refine ab (x4 c (aI ?_))|refine ab (x5 c (aI ?_))
 refine(?_:aL _ _ (xL (.ref it) 2 .none>>=_) _ _ s);refine ab (rc e d (pa d) ?_);show aL _ _ (ri (.type "StopIteration") []>>=_) _ _ _;refine ab ?_;simp only[ri,newTuple];refine ab (lB ?_ (by size_fits));refine ab (m:=rj _ _)<|c3 (a:=fD) (by first|rfl|(simp only[rj];rfl))<|lB ?_ (by size_fits);dsimp only[raiseNew];refine ab<|G0<|j (show n.in1.handled=none from k)<|ab (aI (xE ?_));refine ab (xz (T:="StopIteration") (b:=true) (bF (_) (eX _ d) (rfl)) GZ ?_);exact aI (l _ (((kJ ..).extBut.push _).push _))
theorem YU:entryFor table "dict_itemiterator.__iter__"=some Builtin.«dict_keyiterator.__iter__»:=entryFor_alias (id':="dict_keyiterator.__iter__") .(0) d (by decide+kernel) .(0)
theorem tc(v:n.handled=none)(it q:x)(y:q≠it)(b1:List (Int×p))(c5:Nat):eY w n it [it,q] [it] b1.length (Fg it q b1) (o5 w it q b1 c5) where
 W:={
  sub:=λf a=>by simp at a;simp[a]
  frame:=λm z o ⟨g,h,i,j,b,r,A⟩ s=>⟨g,h,i,j,s it aG _ b,r,A.at' λe k=>s q (.tail _ aG) e k⟩
  item:=λm c t u B a9 d=>YS y a9 B d
  done:=λc t u a9 d=>YT v a9 λo C=>d o c.toks λf e a k=>C f e (λD=>a (by simp[D])) k
  self:=λm c t u a9 d=>by
   (refine h6 a9 λg h i j b Y=>?_;clear a9);have l:c.TypeIs (.ref it) "dict_itemiterator":=(bF (_) (b) (rfl));refine wpAny_pyIter_slot l abc (jx abc l YU ?_ (F.args_dict_itemiterator_iter_1 _));refine(?_:aL _ _ (nM (.ref it)) _ _ c);exact aI (bF (_) (rfl) (el ("dict_itemiterator") (_) (l) (F.slot_dict_itemiterator_next.lookup) (d)))}
 live:=λG z ⟨g,h,i,j,b,r,⟨e,H,E,_⟩⟩ f a=>by
  refine ed a ?_ ?_
  ·exact⟨_,b⟩
  ·exact⟨_,E⟩
theorem YV{a0:Nat}{it q T:x}{b1:List (Int×p)}{c5:Nat}{br:List x}{P:Nat->p->au->Prop}{W:eY w n it br [it] v P (o5 w it q b1 c5)}{aO:Unit->H->Prop}(t:q≠it)(a:N w h (e.push (cs W a0)) I led s)(u:d7 e [it])(f:∀ag,N w h (e.push (cs W a0)) I led {s with heap:=ag}->(∀b J,b≠it->s.heap.get? b=some J->ag.get? b=some J)->aO () {s with heap:=ag}):
 aa w n (gi (.Tuple bl l z) (.ref it) (.ref T)) aO M s:=by
 have a9:o5 w it q b1 c5 a0 s.heap:=a.bG.1;refine gk (id a9) λy g i j r C A=>⟨?_⟩;unfold gi;refine ab<|po r<|(?_:aL _ _ (if(["enumerate","zip","dict_itemiterator","dict_reverseitemiterator","odict_iterator","itertools.zip_longest","itertools.pairwise"].contains "dict_itemiterator"&&(#[y,.bool g,.ref q,.int a0 0,.int b1.length 0,.int c5 0,i,j]:Array p)[0]?==some (eu T))=true then _ else _) aO M s);split
 ·refine ab<|kM<|(?_:aL _ _ (xL (.ref it) 0 .none) _ _ s);refine iA r (lG d) λag k m=>?_;replace k:ag.get? it=some (jW q a0 b1.length c5 .none g i j):=k;exact f ag (a.item u.own ⟨λb J o c=>m.extBut b J (λB=>o (by simp[B])) c,rfl,rfl,rfl⟩ (fR (.none) (g) (i) (j) (k) (.inl d) (A.at' λJ c=>m.extBut _ _ t c))) λb J o c=>m.extBut b J o c
 ·exact aI (f s.heap a λY Y Y c=>c)
section
variable{q:x}{b1:List (Int×p)}
theorem YW(a:N w h e I led s)(b:s.heap.DictOf (e0 w) q b1)(c:837<=q)(d:b1.length<1000){r:Bool->H->Prop}(f:∀k,N w h e I led k->r (!b1.isEmpty) k):aa w n (ms (.ref q)) r M s:=⟨wpAny_truthy_dict (qO c) b (uM d) (f _ a.a3)⟩
theorem Fh(a:N w h e I led s)(b:s.heap.DictOf (e0 w) q b1)(c:837<=q)(d:b1.length<1000)(f:∀u k,N w h e I led k->r (aj b1.length u) k):aa w n (call (.builtin "len") [.ref q]) r M s:=⟨call_len_dict (qO c) b (uM d) (f _ _ a.a3)⟩
noncomputable abbrev td(q:x):Obj:={cls:=.type "dict_values",data:=.fields #[.ref q]}
noncomputable abbrev Fi(q:x):Obj:={cls:=.type "dict_items",data:=.fields #[.ref q]}
theorem Fj(a:N w h e I led s)(c:s.heap.DictOf (e0 w) q b1)(g:837<=q)(f:∀A k,N w h e I ((A,td q)::led) k->(∀b J,s.heap.get? b=some J->k.heap.get? b=some J)->r (.ref A) k):aa w n (call (.builtin "dict.values") [.ref q]) r M s:=⟨t0 Hw c.typeIs PySem.F.entry_dict_values (PySem.F.args_dict_values_1 _) (meets_dict_values (e0 w) q (qO g)) ⟨⟨b1,c⟩,f _ _ (a.alloc d) λW W i=>cM _ i⟩⟩
theorem YX(a:N w h e I led s)(c:s.heap.DictOf (e0 w) q b1)(g:837<=q)(f:∀A k,N w h e I ((A,Fi q)::led) k->(∀b J,s.heap.get? b=some J->k.heap.get? b=some J)->r (.ref A) k):aa w n (call (.builtin "dict.items") [.ref q]) r M s:=⟨t0 abd c.typeIs PySem.F.entry_dict_items (PySem.F.args_dict_items_1 _) (meets_dict_items (e0 w) q (qO g)) ⟨⟨b1,c⟩,f _ _ (a.alloc d) λW W i=>cM _ i⟩⟩
theorem YY{A:x}(t:n.handled=none)(a:N w h e I ((A,td q)::led) s)(u:s.heap.DictOf (e0 w) q b1)(v:b1.length<1000)(f:∀G R k,N w h e I ((G,a4 (b1.map (·.2)) R)::led) k->(∀b J,s.heap.get? b=some J->k.heap.get? b=some J)->r (.ref G) k):aa w n (call (.type "list") [.ref A]) r M s:=by
 obtain⟨c5,y⟩:=u.dictAt;refine⟨kdl_call (kdl_values (knd:=e0 w) (kvs:=b1) (ep:=c5)) t ⟨(du (_) (a.at 0 d) (rfl) (rfl)),y⟩ (ck (O4 v)) λg l m o i z p=>?_⟩;have c:m.toList=b1.map (·.2):=kdl_vals_eq m.toList (by refine j aaf ?_;exact p.1) λB C c=>p.2 B C (by refine be tB ?_;exact c);have R:ee [] s {s with heap:=g,toks:=l}:=⟨λb J W c=>i b J c,rfl,rfl,rfl⟩;have D:N w h e I ((A,td q)::led) {s with heap:=g,toks:=l}:=a.step R (λW f=>nomatch f) (λf=>nomatch f) d (λE F=>i _ _ (a.ld E F).1) λW W f=>nomatch f;have H:g.get? s.heap.objs.size=some (a4 (b1.map (·.2)) o):=j z (be c d);have K:s.heap.get? s.heap.objs.size=none:=by
  cases L:s.heap.get? s.heap.objs.size with
  |none=>rfl
  |some J=>exact absurd (cr L) (dn _)
 exact f _ o _ ((a.hq D H K a.Z.size).cd (.cons_cons _ (cJ _ _))) i
theorem YZ{A:x}(p:n.handled=none)(a:N w h e I ((A,Fi q)::led) s)(v:s.heap.DictOf (e0 w) q b1)(c:q≠e.D.locals/\q∉e.af.ae/\q∉led.map (·.1)/\837<=q)(f:∀L c5 k,(g:q≠L)->d7 e [L]->N w h (e.push (cs (tc (w:=w) p L q g b1 c5) 0)) I led k->r (.ref L) k):aa w n (hX (.ref A)) r M s:=by
 obtain⟨c5,b⟩:=v.dictAt;refine⟨wpAny_pyIter_items (du (_) (a.at 0 d) (rfl) (rfl)) b ?_⟩;have g:q≠s.heap.objs.size:=g0 b.lt_size;have i:=(a.cd (cJ _ _)).alloc (J:={cls:=.type "dict_itemiterator",data:=.fields #[.none,.bool false,.ref q,.int 0 0,.int b1.length 0,.int c5 0,.none,.none]}) d;have t:=i.at 0 d;have y:=i.cd (cJ _ _);have z:s.heap.objs.size∉e.hd.br:=λB=>by(refine dM (a.b9 _ B) λW W W W u=>?_;(refine bo u λJ l=>?_;clear u));exact dn _ (cr l)
 (refine f _ c5 _ g ⟨λC m=>by refine j (List.mem_singleton.mp m) ?_;exact⟨a.fresh,z⟩⟩ (y.hl (cs (tc (w:=w) p _ q g b1 c5) 0) (fR (.none) (false) (.none) (.none) (t) (.inl d) (b.at' λJ l=>cM _ l)) λC m=>?_));refine ed m ?_ ?_
 ·have o:=i.ld _ aG;exact(cV (o.2.1) (o.2.2.dc) ((List.nodup_cons.mp i.dE).1) (o.2.2.ge) ⟨_,t⟩)
 ·(refine db b λJ E D W=>?_;clear b);exact(cV (c.1) (c.2.1) (c.2.2.1) (c.2.2.2) ⟨J,cM _ D⟩)
theorem wM(a:n.handled=none)(it q:x)(b:q≠it)(b1:List (Int×p))(c5:Nat):eY w n it [it,q] [it] b1.length (λm E W=>∃l,b1[m]?=some (l,E)) (λm f=>f.IsValIter it q m b1.length c5/\f.DictAt (e0 w) q b1 c5):=
 ⟨k1.of (Walks.dictValues a it q b b1 c5),λl f ⟨⟨g,c,_⟩,⟨h,i,d,_⟩⟩ j e=>by
  refine ed e ?_ ?_
  ·exact⟨_,c⟩
  ·exact⟨_,d⟩⟩
theorem Y0{A:x}(p:n.handled=none)(a:N w h e I ((A,td q)::led) s)(v:s.heap.DictOf (e0 w) q b1)(c:q≠e.D.locals/\q∉e.af.ae/\q∉led.map (·.1)/\837<=q)(f:∀L c5 k,(g:q≠L)->d7 e [L]->N w h (e.push (cs (wM (w:=w) p L q g b1 c5) 0)) I led k->r (.ref L) k):aa w n (hX (.ref A)) r M s:=by
 obtain⟨c5,b⟩:=v.dictAt;refine⟨wpAny_pyIter_values (du (_) (a.at 0 d) (rfl) (rfl)) b ?_⟩;have g:q≠s.heap.objs.size:=g0 b.lt_size;have i:=(a.cd (cJ _ _)).alloc (J:={cls:=.type "dict_valueiterator",data:=.fields #[.ref q,.int 0 0,.int b1.length 0,.int c5 0]}) d;have t:=i.at 0 d;have y:=i.cd (cJ _ _);have z:s.heap.objs.size∉e.hd.br:=λB=>by(refine dM (a.b9 _ B) λW W W W u=>?_;(refine bo u λJ l=>?_;clear u));exact dn _ (cr l)
 (refine f _ c5 _ g ⟨λC m=>by refine j (List.mem_singleton.mp m) ?_;exact⟨a.fresh,z⟩⟩ (y.hl (cs (wM (w:=w) p _ q g b1 c5) 0) ⟨(du (_) (t) (rfl) (rfl)),b.at' λJ l=>cM _ l⟩ λC m=>?_));refine ed m ?_ ?_
 ·have o:=i.ld _ aG;exact(cV (o.2.1) (o.2.2.dc) ((List.nodup_cons.mp i.dE).1) (o.2.2.ge) ⟨_,t⟩)
 ·(refine db b λJ E D W=>?_;clear b);exact(cV (c.1) (c.2.1) (c.2.2.1) (c.2.2.2) ⟨J,cM _ D⟩)
end
theorem Y1(C:bb h)(L:aH w h s)(A:aR n 4 16){g dQ bw:x}{l:aF}{bm:List a7}(N:gW w s.heap g dQ bw l)(D:s.heap.get? bw=some (a4 O R))(E:837<=bw)(z:bT (gz w (er s.heap)) O bm)(P:bm.length<1000)(f:∀G aU R k,bP [] s k true->aH w h k->ei s.heap k.heap G (a4 aU R)->fB (ei s.heap k.heap) aU (bm.map λt=>(t.cB,t.E))->r (.ref G) k):bk w n (.call (.ref 622) ⟨[.ref g],[]⟩) (bW r) s:=by
 refine cZ (q:=3) (S:=13) (R1 C) Qt (.none true) L trivial A.mono ?_;intro Q T U ap aq F a A;have V:bw≠Q:=a.kY D;refine seq<|b2<|aE ?_;intro W;refine ie (aN:=[y "s"]) (aX:=[y "RawShare"]) _ d (by decide+kernel)<|cq<|Y a F 0 d d<|lj (N.bc a) a λT a=>gP A.bd a (IsList.new (a.bc D bC E)) (dS (V) (bC) (bC) (E)) λX ar Z aa a=>jf (aN:=[y "s"]) (aX:=[y "RawShare"]) (fy A.bd X bw Z O.toArray) (λX=>.none true) (λX=>rfl) a aa F _ (by decide+kernel) (ck (by refine j cN (j z.len ?_);exact zz P))
  (λi aU c=>fB (In c) aU ((bm.take i).map λt=>(t.cB,t.E))) trivial ?_ ?_
 ·intro as i au aU H c I aw ax ay az ab m U aA o ac ad ae;refine aE ?_;intro W;(refine bo (hj ac) λaB B=>?_;obtain rfl:=B);(refine bp (z.at (by simpa using ab)) λt af B=>?_;obtain⟨ag,ah,ai,aj,rfl,J,K⟩:=B);refine dF (cp (d8 ae o 0 d d λp b=>?_));have M:il w s.heap ag ah ai aj t:=⟨J.1,K.1,J.2,K.2⟩;refine b3 b o 0 d mS ni<|cq<|Y b o 0 d d<|eD M b sP d λp b=>cq<|Y b o 0 d d<|eD M b qD d λp b=>⟨b.Z.l,nn C b A.mono λaC ak aD al am=>ad _ (ak++c) _ _ ?_ (by dsimp) (am.gT List.perm_middle.symm)⟩;have an:(bm.take (i+1)).map (λt=>(t.cB,t.E))=(bm.take i).map (λt=>(t.cB,t.E))++[(t.cB,t.E)]:=by refine j hf (j af ?_);simp
  refine j an<|bT.dU (fB.keep (av:=In c) (λu v (e:In c u v)=>dt _ e) m) (bT.gO (al.keep λu v e=>cU _ e))
 ·intro I aU H c p m aI a;have ao:O.toArray.size=bm.length:=by simp[z.len]
  rw[ao,h3] at m;exact f I aU H p a.aS a.Z (fC a aG) (fB.keep (λu v (e:In c u v)=>fC a (.tail _ (cU _ e))) m)
def Fk(w:aD)(h:x->a1)(T:cm)(G:List ao)(ac:x)(r:eb->H->Prop)(A:gh)(s:H):Prop:=match A with|.ok C=>r C s|.error o=>hs w h T G ac o s
theorem Y2{T:cm}{r:eb->H->Prop}(b:e.D.frame=some e.D.locals)(c:D=e.D)(f:aa w n (bA iter D) (ov w n (BO w n target body bq D (Fk w h T (e.D::aB) e.D.locals r)) M) M s)(d:autoParam (∀i,q2 iter D i=pure i) Zzi)(g:autoParam (M=gN w h T (e.D::aB) e.D.locals) b0):aa w n (g2 (.For target iter body bq pos) D) r M s:=by
 subst c g;exact⟨wpAny_For (f.J λW W i=>i.J λW W i=>iX i.run λj k a=>by
  cases j with
  |ok m=>exact a
  |error o=>exact TT b a λk l=>l.kl) d⟩
theorem Y3{T:cm}{r:eb->H->Prop}{br:List x}{P:Nat->p->au->Prop}{cH:Nat->au->Prop}(W:eY w n L br ae v P cH)(B:d7 e ae)(g:Nat->List (Option p)->List (x×V)->Prop)(X:n.frames=some (e.D::aB))(J:e.D.frame=some e.D.locals)(a:N w h (e.push (cs W 0)) I led s)(h0:g 0 I led)(step:∀l E I led s (D:eb->H->Prop),l<v->P l E s.heap->g l I led->let K:aP:=e.push (cs W (l+1));let Y:p->H->Prop:=gN w h T (e.D::aB) e.D.locals;(∀m d6 k,g (l+1) m d6->N w h K m d6 k->D .next k)->(∀E k,r (.ret E) k->D (.ret E) k)->N w h K I led s->
  aa w n (gi target (.ref L) E) (λK M=>aa w n (dX target e.D E) (λK O=>aa w n (ej body e.D) D Y O) dh M) dh s)
 (done:∀I led s,g v I led->N w h e I led s->aa w n (ej bq e.D) (λC k=>r C k) dh s):
 bk w n (.forLoop target (.ref L) body bq e.D) (Fk w h T (e.D::aB) e.D.locals r) s:=by
 refine⟨ω (λf s=>∃l I led,f=v-l/\l<=v/\g l I led/\N w h (e.push (cs W l)) I led s) ?_ v (h5 (0) (I) (led) (rfl) (e2 _) (h0) (a))⟩;(intro f s Q;(refine kT Q λl I led Z ab R a=>?_;clear Q;obtain rfl:=Z));rcases gB l v with i|ac
 ·refine W.W.item l s _ _ i a.bG.1 λE o z ad af F=>?_;have f:ee ae s {s with heap:=o,toks:=z}:=⟨F,rfl,rfl,rfl⟩;refine cy (step l E I led _ (λC A=>match C with
   |.next|.cont=>∃m d6,g (l+1) m d6/\N w h (e.push (cs W (l+1))) m d6 A
   |.brk=>False
   |.ret E=>r (.ret E) A) i ad R (λq t k u c=>(eU (q) (t) (u) (c))) (λY Y b=>b) (a.item B.own f af)).run (λY M ag=>?_) λY Y b=>b.elim
  refine cy ag.run (λY O ah=>?_) λY Y b=>b.elim;refine cA ?_;intro ak;refine cy ah.run (λC A j=>?_) λai A b=>?_
  ·cases C with
   |next=>(refine db j λq t u c=>?_;clear j);exact(bF (v-(l+1)) (pS i) (h5 (l+1) (q) (t) (rfl) (i) (u) (c)))
   |cont=>(refine db j λq t u c=>?_;clear j);exact(bF (v-(l+1)) (pS i) (h5 (l+1) (q) (t) (rfl) (i) (u) (c)))
   |brk=>exact j.elim
   |ret E=>exact j
  ·exact qo (r:=λY k=>hs w h T (e.D::aB) e.D.locals ai k) X J J b λo aj=>aj
 ·have:l=v:=kF ab ac;subst this;refine W.W.done s _ _ a.bG.1 λo z F=>?_;have f:ee ae s {s with heap:=o,toks:=z}:=⟨F,rfl,rfl,rfl⟩;have T:N w h e I led {s with heap:=o,toks:=z}:=a.drop.step f (λc G=>(B.own c G).1) (λy=>((a.b9 _ (cU _ (W.W.sub _ y))).1 d)) d (λS U=>f.heap _ _ (λy=>(a.b9 S.1 (cU _ (W.W.sub _ y))).2.2.1 (fN U)) (a.ld S U).1) λc G y=>(B.own c y).2 G;exact cy (done I led _ R T).run (λW W b=>b) λW W b=>b.elim
noncomputable def hV(G:List a7):Nat:=(G.head?.map (·.mt)).getD 0
noncomputable def ll:List (Nat×List a7)->List (Nat×List UInt8)->Prop
 |[],[]=>True
 |(m,G)::Q,z::ah=>z.1=m/\l8 (hV G) (G.map λt=>(t.cB,t.E)) z.2/\z.2.length<=100/\ll Q ah
 |_,_=>False
theorem ll.len:∀{Q:List (Nat×List a7)} {ah:List (Nat×List UInt8)},ll Q ah->Q.length=ah.length
 |[],[],_=>rfl
 |(_,_)::_,_::_,a=>j ec (j ec (j (ll.len a.2.2.2) d))
 |[],_::_,a=>a.elim
 |_::_,[],a=>a.elim
theorem ll.at:∀{Q:List (Nat×List a7)} {ah:List (Nat×List UInt8)},ll Q ah->∀{l:Nat} {m:Nat} {G:List a7},Q[l]?=some (m,G)->∃b,ah[l]?=some (m,b)/\l8 (hV G) (G.map λt=>(t.cB,t.E)) b/\b.length<=100
 |(_,_)::_,d::_,a,0,m,G,c=>by simp only[j1,kH,Hp] at c;(refine bE c λe f=>?_;clear c;obtain rfl:=e;obtain rfl:=f);(exact(du (d.2) (by refine be a.1 ?_;rfl) (a.2.1) (a.2.2.1)))
 |(_,_)::Q,_::ah,a,l+1,m,G,c=>by simp only[mq] at c⊢;exact ll.at a.2.2.2 c
 |[],_,_,l,_,_,c=>by trivial
 |_::_,[],a,_,_,_,_=>a.elim
structure md(tb:a7)(Q:List (Nat×List a7)):Prop where
 mP:Q≠[]
 len:Q.length<=20
 mem:∀z∈Q,z.2≠[]/\z.2.length<=20/\∀t∈z.2,tb.qP t/\t.bL
 gt:tb.gt<=16
def nu(a:a7)(Q:List (Nat×List a7))(b:List UInt8):Prop:=Q.length=a.gt/\(∀z∈Q,z.2.length=hV z.2)/\∃ah,ll Q ah/\l8 a.gt ah b/\b.length<=100
def jX(a:a7)(Q:List (Nat×List a7)):Prop:=Q.length<a.gt\/Q.length=a.gt/\∃z∈Q,z.2.length≠hV z.2
theorem wN{f:au}{ap:List G1}{Q:List (Nat×List a7)}(h:e1 w (er f) ap Q)(a:∀z∈gX w ap,er f z.1 z.2){z:G1}(aW:ap[m]?=some z):
 ∃G,Q[m]?=some (z.bD,G)/\gW w f z.g z.dQ z.bw z.l/\f.get? z.bw=some (a4 z.O z.R)/\837<=z.bw/\bT (gz w (er f)) z.O G:=by
 refine bp (h.at aW) λG i j=>?_;have b:∀c∈E8 w z,c∈gX w ap:=λc k=>List.mem_flatMap.mpr (bF (z) (cx aW) (k));have d:=a _ (b _ aG);have e:=a _ (b _ (.tail _ aG));have g:=a _ (b _ (.tail _ (.tail _ aG)));exact(yg (G) (i) (⟨e.1,g.1,e.2,g.2⟩) (d.1) (d.2) (j))
theorem wO{f:au}{G:List a7}(c:bT (gz w (er f)) O G)(e:G≠[]):∃i a aq bU,∃u:Nat->aF,∃dT b,O=.ref i::a/\G=dT::b/\il w f i aq bU u dT:=by
 cases G with
 |nil=>exact absurd d e
 |cons dT b=>
  cases O with
  |nil=>exact c.elim
  |cons k a=>
   refine aV λl g=>?_;(refine h6 c.1.wJ λi aq bU u h j=>?_;obtain rfl:=h);all_goals refine g ?_
   exact⟨i,a,aq,bU,u,dT,b,rfl,rfl,j⟩
theorem Fl{ap:List G1}{an:Int×p}(f:(fe ap)[l]?=some an):∃z,ap[l]?=some z/\an=((z.bD:Int),.ref z.g):=by
 unfold fe at f;rw[dR] at f;cases a:ap[l]? with
 |none=>rw[a] at f;exact cz f
 |some z=>rw[a] at f;(obtain rfl:=dg f;clear f);exact(bF (z) (rfl) (rfl))
theorem dW.take:∀{O:List p} {a:List (List Nat)},dW O a->∀v,dW (O.take v) (a.take v)
 |[],[],_,v=>by cases v<;>trivial
 |_::_,_::_,_,0=>trivial
 |_::_,_::_,b,v+1=>⟨b.1,dW.take b.2 v⟩
theorem Y4(g:bb h)(L:aH w h s)(A:aR n 9 37){T:cm}(bA:n.frames=some aB)(bB:T.cls=.ref 31/\T.B){Q:List (Nat×List a7)}{z:a7}(an:jX z Q->d3 w h T n aB [] s)(bD:wK w (er s.heap) E Q)(Z:md z Q)(bE:(∃ab,nu z Q ab/\∀E k,bP [] s k->aH w h k->kv w (ei s.heap k.heap) E ⟨z.id,z.ext,z.o,ab⟩->r E k)\/jX z Q):bk w n (.call (.ref 771) ⟨[E,.ref 807],[]⟩) (fU r (fJ w h T aB)) s:=by
 refine t6 bD λq bG B f l aZ a0 as=>j f ?_;clear bD f;have M:(fe B).length=Q.length:=by unfold fe;exact j (eG ..) (j as.len d)
 have a1:=Z.len;have cj:B.length=Q.length:=as.len;have cl:0<B.length:=j cj (List.length_pos_iff.mpr Z.mP);have a2:B[0]?=some B[0]:=da cl;generalize B[0]=bH at a2;refine t4 (wN as a0 a2) λdy co bI bJ bK cr=>?_;have bL:=Z.mem _ (cx co);refine uc (wO cr bL.1) λi dz dA dB u dT dC eh f cs=>?_;have ac:=(bL.2.2 dT (j f aG)).1;rw[eh] at bJ;refine wr (C:=A8) (q:=8) (S:=34) (bQ:=[(y "groups",.ref q),(y "hmac_sha256",.ref 807)]) (I:=[some (.ref q),none,none,none,none,none,none]) [y "hmac_sha256"] .none L trivial A bA (Se g) (λL=>by kernel_rfl) (λL=>by kernel_rfl) .(0) .(1) .(0) d d ?_;intro aL bM c au dD ad a3 cu b cw a;intro A;have bR:=cw 0 _ d;have bS:q≠aL:=a.kY l.1;have D:∀{I led k},N w h au I led k->k.heap.DictOf (e0 w) q (fe B):=λa=>Heap.dictOf_iff.mpr (bF (bG) (a.bc l.1 bC l.2) (aZ));have a4:bG.dict=none:=by(refine db aZ λL L f L=>?_;clear aZ;(refine ek f λL m L=>?_;clear f));exact m
 refine seq (doc ?_);replace a:=a.a3 (u:=c.toks+1);refine seq<|ifs<|mY<|gq<|Y a b 0 d d<|YW a (D a) l.2 (by refine j M ?_;exact rP a1) λc a=>?_;refine j (show(fe B).isEmpty=false from List.isEmpty_eq_false_iff.mpr λm=>Z.mP (List.length_eq_zero_iff.mp (M.symm.trans (congrArg kI m)))) ?_;simp only[Bool.not_false,ra,fO,if_false];refine bv<|seq<|bN<|aE ?_;intro p;refine gd (h:=h)<|aE ?_;intro p;refine dr<|aE ?_;intro p;refine c6 a b 1 d lS lZ<|gu x2 Hw abe ?_;(refine Y a b 0 d d (bO ((D a).typeIs) (qQ (bF (_) (a.bc l.1 bC l.2) (a4))) (?_)));refine(?_:aa w _ _ _ _ _);refine Fj a (D a) l.2 λbU c a L=>(?_:aa w _ _ _ _ _);refine YY A.bd a (by have:=D (a.cd (cJ _ _));exact this) (by refine j M ?_;exact rP a1) λa3 dE c a L=>?_;refine cg a λdG c a=>f8 (i:=.ref bH.g) (IsList.new (a.at 0 d)) .(1) .(1) (by unfold fe;exact j dR (j dR (j (show B[GR 0]?=some bH from a2) d))) ?_;refine nt (C:=636) a.Z.l (bI.bc a) .(0) .(0) .(0) .(0) ⟨a.Z.l,bk.ex (Ys g a.Z A.mono (bI.bc a) (a.bc bJ bC bK) bK (cs.bc a) (Made.DS a λa6 bV c a=>?_))⟩;replace a:=a.cd (d6:=[(a6,_),(bV,d0),(aL+1,bM 0)]) (.cons_cons _ (.cons_cons _ (.cons _ (ka _))));refine a.eL ?_;intro aM a;refine bx a b 1 d d ?_;intro c ad a;refine seq<|ifs<|cT<|aE ?_;intro p;refine c0 a b 2 d dv dx<|Y a b 0 d d<|Fh a (D a) l.2 (by refine j M ?_;exact rP a1) λcy c a=>?_;refine j M<|cq<|Y a b 1 d d<|sN g a A.mono (a.at 0 d) (a.at 1 d) (a.ld _ aG).2.2.ge d λc a L=>qs<|cn<|be ac.gt ?_;have a8:=Z.gt;by_cases aw:Q.length<z.gt
 ·refine fi (decide_eq_true aw)<|aE ?_;intro p;refine seq<|vN a b A.bd 0 d r9 (an (.inl aw)) d bB<|sZ<|fj a λL c a=>(el (_) (_) (rfl) (b6 d)<|oV<|aE ?_);intro p;refine cq<|Y a b 1 d d<|sN g a A.mono (a.at 0 d) (a.at 1 d) (a.ld _ aG).2.2.ge d λc a L=>be ac.gt<|qJ a (Ld a8) λae dH c bW a=>(el (_) (_) (rfl) (bZ (gY bW _) (b6 d))<|fj a λL c a=>(el (_) (_) (rfl) (bZ (lq (gY bW _) _) (b6 d))<|λcz i u=>⟨ey d,_,_,a.a3⟩))
 have a9:Q.length=z.gt:=by
  rcases bE with⟨ab,H,L⟩|H|H
  ·exact H.1
  ·exact absurd H aw
  ·exact H.1
 refine dN (decide_eq_false aw)<|bv<|seq<|ifs<|cT<|aE ?_;intro p;refine c0 a b 2 d dv dx<|Y a b 0 d d<|Fh a (D a) l.2 (by refine j M ?_;exact KS a8 a9) λcy c a=>?_;refine j M<|cq<|Y a b 1 d d<|sN g a A.mono (a.at 0 d) (a.at 1 d) (a.ld _ aG).2.2.ge d λc a L=>nc<|cn<|be ac.gt<|dN (by refine j a9 ?_;exact bne_self_eq_false _) ?_;refine aE ?_;intro p;refine bv ?_;refine seq<|Y2 (e:=au) (aB:=aB) d d<|aE ?_;intro p;refine gu x2 Hw abe ?_;(refine Y a b 0 d d (bO ((D a).typeIs) (qQ (bF (_) (a.bc l.1 bC l.2) (a4))) (?_)));refine(?_:aa w _ _ _ _ _);refine Fj a (D a) l.2 λbU c a L=>(?_:aa w _ _ _ _ _);refine Y0 A.bd a (D a) (dS (bS) (bC) ((a.cd (cJ _ _)).wL l.1) (l.2)) λcA cB c cC cD a=>Y3 (T:=T) (aB:=aB) (wM (w:=w) A.bd cA q cC (fe B) cB) cD (λO I led=>∃ba aO bc bd bf,I=[some (.ref q),some (.ref a6),ba,aO,bc,bd,bf]/\led=aM/\∀J,J<O->∀t,Q[J]?=some t->t.2.length=hV t.2)
  (lF bA) d a ⟨none,none,none,none,none,rfl,rfl,λJ ax=>absurd ax (tY _)⟩ ?_ ?_
 ·intro O E T T a5 dI cE bX cF au cu bg T a;refine aV λcG bh=>?_;(refine bo bX λcH bi=>?_;clear bX);refine yl cF λba aO bc bd bf f aP bj=>a.ef f aP ?_;intro ad a3 a;refine bh<|bp (Fl bi) λt af m=>j (tC m).2 ?_;clear m;refine t4 (wN as a0 af) λah ai G P v ay=>?_;have aj:=Z.mem _ (cx ai);have ak:=ay.len;refine uc (wO ay aj.1) λae bY cI cK cM K cO bl f am=>?_;rw[bl] at P ak;have az:ah.length<=_:=aj.2.1;have bm:=(aj.2.2 K (j f aG)).2;have aQ:hV ah=K.mt:=j f d;refine dF (cp (bx a b 2 d d ?_));intro a5 ad a;refine seq<|ifs<|cT<|c0 a b 2 d dv dx<|Y a b 2 d d<|E6 g a A.mono (G.bc a) (a.bc P bC v) v (yJ ak az) λcP a5 a T=>gd (h:=h) (Y a b 2 d d (nt (C:=650) a.Z.l (G.bc a) .(0) .(0) .(0) .(0) ⟨a.Z.l,bk.ex (wI g a.Z A.mono (G.bc a) (a.bc P bC v) v (am.bc a) λag aA aC=>?_)⟩));replace a:=a.call aA aC;refine nc (cn ?_);by_cases aS:(e4 ae::bY).length=K.mt
  ·refine dN (by refine j aS ?_;exact bne_self_eq_false _) ?_;refine bv (bv (bg _ _ _ ⟨_,_,_,_,_,rfl,rfl,(λJ aT b0 b1=>?_)⟩ a));rcases gB J O with ax|ax
   ·exact bj J ax b0 b1
   ·have cQ:b0=(t.bD,ah):=dg (((zw aT ax:J=O)▸b1).symm.trans ai);refine j cQ<|ak.symm.trans (aS.trans aQ.symm)
  ·refine fi (bne_iff_ne.mpr aS)<|seq<|bN<|gd (h:=h)<|dr<|cq<|Y a b 2 d d<|lj (G.bc a) a λa5 a=>cg a λdK a5 a=>f8 (i:=.ref ae) (IsList.new (a.bc P bC v)) .(1) .(1) d<|jj (C:=430) a.Z.l (am.bc a) .(0) .(0) .(0) .(0) ⟨a.Z.l,bk.ex (DE g a.Z A.mono (am.bc a) bm λdL dM dO ag aD aF ao ap bn aU=>?_)⟩;replace a:=a.hq (a.call aD aF) ao ap bn;refine bx a b 3 d d ?_;intro a5 ad a;refine seq<|bN<|aE ?_;intro p;refine gu xT F.slot_str_join F.type_str_join<|fj a λdP a5 a=>(bO (nS _ _ _) ((λcS m=>nomatch m))<|(?_:aa w _ _ _ _ _));refine aE ?_;intro p;refine gr "list" _ slot_list_getitem.lookup<|Y a b 3 d d<|(?_:fx w _ _ _ _ _ _);refine(?_:aa w _ _ _ _ _);refine dJ 3 _ a b 3 d QZ ?_;have b4:=aU.len;rw[eG,nl] at b4;have cV:=qE bm.E;refine kj a (IsList.new (a.at 0 d)) .none (.int _ _) (ck (by refine j b4 ?_;exact rO cV)) λdQ a5 cW R a=>?_;refine a.eL ?_;intro aM a;have cX:dW cW (((fb K).map cv).take 3):=by refine j R<|j (ro _ 3)<|aU.take 3
   refine DC a (a.at 0 d) cX (by refine j iC ?_;exact I7) (λan bq=>?_) λdU a5 a=>?_
   ·(refine bp (List.mem_map.mp (mz bq)) λbr T f=>?_;obtain rfl:=f);exact(show(3:Nat)<=1000 by decide)
   refine bx a b 4 d d ?_;intro a5 ad a;refine seq<|vN (a.drop) b A.bd 0 d r9 (an (.inr ⟨a9,_,cx ai,λm=>aS (ak.trans (m.trans aQ))⟩)) d bB<|sZ<|fj a λT c a=>(el (_) (_) (rfl) (b6 d)<|oV<|aE ?_);intro p;have aq:(et "Wrong number of mnemonics. Expected ").length<=100:=b6 d;have aI:(et " mnemonics starting with \"").length<=100:=b6 d;have bs:(et " ...\", but ").length<=100:=b6 d;have cY:(et " were provided.").length<=100:=b6 d;refine gd (h:=h) (Y a b 2 d d (nt (C:=650) a.Z.l (G.bc a) .(0) .(0) .(0) .(0) ⟨a.Z.l,bk.ex (wI g a.Z A.mono (G.bc a) (a.bc P bC v) v (am.bc a) λag aA aC=>?_)⟩));replace a:=a.call aA aC;have:=bm.mt;refine qJ a (Pb this) λaP dV c R a=>(el (_) (_) (rfl) (NH aq R)<|fj a λT c a=>(el (_) (_) (rfl) (OW aq aI R)<|oV<|aE ?_));intro p;refine Y a b 4 d d ?_;have aJ:(⟨(cL (((fb K).map cv).take 3)).toArray⟩:al).length<=1000:=by
    refine(?_:(cL (((fb K).map cv).take 3)).toArray.size<=1000);refine j cN ?_;have cZ:=nl K;have:=qM (ct:=((fb K).map cv).take 3) (λm=>by have:=congrArg kI m;rw[iC,eG,cZ,abf] at this;exact La this) (λan bq=>by
     (refine bp (List.mem_map.mp (mz bq)) λbr c1 f=>?_;obtain rfl:=f);exact wv br (nk K br c1))
    rw[iC] at this;exact Kc this
   refine Wb a (NI aJ) λT c a=>(el (_) (_) (rfl) (JV aq aI R aJ)<|fj a λT c a=>(el (_) (_) (rfl) (JU aq aI bs R aJ)<|oV<|c0 a b 2 d dv dx<|Y a b 2 d d<|E6 g a A.mono (G.bc a) (a.bc P bC v) v (yJ ak az) λcP a5 a T=>qJ a (Ll ak az) λdX dY c b5 a=>(el (_) (_) (rfl) (JT aq aI bs R aJ b5)<|fj a λT c a=>(el (_) (_) (rfl) (JS aq aI bs cY R aJ b5)<|λcz i u=>⟨ey d,_,_,a.drop.a3⟩))))
 ·intro T T a5 c2 a;refine aE ?_;intro p;refine aV λcG bh=>yl c2 λba aO bc bd bf f aP bj=>?_;refine a.ef f aP ?_;intro ad a3 a;refine bh<|bv ?_;have c3:∀t∈Q,t.2.length=hV t.2:=λt af=>by refine bo (fr af) λJ aT=>?_;exact bj J (by refine j M ?_;exact(List.getElem?_eq_some_iff.mp aT).1) t aT
  obtain⟨ab,⟨T,T,aK,b7,c4,c5⟩,c7⟩:∃ab,nu z Q ab/\∀E k,bP [] s k->aH w h k->kv w (ei s.heap k.heap) E ⟨z.id,z.ext,z.o,ab⟩->r E k:=by
   rcases bE with H|H|⟨T,t,af,H⟩
   ·exact H
   ·exact absurd H aw
   ·exact absurd (c3 t af) H
  refine seq<|C2 (led:=aM) (aN:=[y "group_index",y "group"]) (aX:=[y "RawShare",y "_recover_secret"]) a _ d d (by decide+kernel) b 5 d d<|aE ?_;intro p;refine gu x2 abd F.type_dict_items ?_;(refine Y a b 0 d d (bO ((D a).typeIs) (qQ (bF (_) (a.bc l.1 bC l.2) (a4))) (?_)));refine(?_:aa w _ _ _ _ _);refine YX a (D a) l.2 λbU c a T=>(?_:aa w _ _ _ _ _);refine YZ A.bd a (D a) (dS (bS) (bC) ((a.cd (cJ _ _)).wL l.1) (l.2)) λaW b8 c bt b9 a=>?_;have c8:∀o∈[aW],o≠aL/\o∉aM.map (·.1):=λo x=>by have ae:=a.b9 o (cU _ ((tc (w:=w) A.bd aW q bt (fe B) b8).W.sub o x));exact⟨ae.1,ae.2.2.1⟩
  refine⟨aW,_,_,_,_,_,tc (w:=w) A.bd aW q bt (fe B) b8,λT=>.none,_,λO ca U=>fB (In U) ca (aK.take O),λT=>rfl,a,b9,ck (by refine j M ?_;exact NJ a8 (by assumption)),trivial,?_,?_⟩
  ·intro dZ O E ca d1 U cS d2 c d4 cE cb ar au d5 V cc bg a;refine HH cb λd7 cH d8 d9 f c9 ea bi dc=>j f<|eJ (hk cc) λeb ec f=>a.ef f d ?_;clear a cb f;intro dd de a;refine bp (Fl bi) λt af m=>t4 (wN as a0 af) λah ai G P v ay=>?_;have aj:=Z.mem _ (cx ai);refine g4 (b7.at ai) λo df dh di=>?_;have az:ah.length<=_:=aj.2.1;refine uc (wO ay aj.1) λae bY cI cK cM K cO bl f am=>?_;have aQ:hV ah=K.mt:=j f d;have cd:=P;rw[bl] at cd;refine YV bt a (b9.dO d c8) λed a dj=>?_;replace a:N w h au dd de _:=a;refine kr A.bd a (du (_) (dj _ _ c9 dc) (rfl) ⟨_,rfl⟩) λa5 a K=>j (tC m).1 (j (tC m).2 ?_);clear m;refine cp (bx a V 0 d d ?_);intro a5 dk a;refine cp (bx a V 1 d d ?_);intro a5 dk a;refine b3 a V 0 d mS ni<|Y a V 0 d d<|b3 a V 1 d Bv A4<|gd (h:=h) (Y a V 1 d d (nt (C:=650) a.Z.l (G.bc a) .(0) .(0) .(0) .(0) ⟨a.Z.l,bk.ex (wI g a.Z A.mono (G.bc a) (a.bc cd bC v) v (am.bc a) λag aA aC=>?_)⟩));replace a:=a.call aA aC;refine gd (h:=h) (Y a V 1 d d (nt (C:=622) a.Z.l (G.bc a) .(0) .(0) .(0) .(0) ⟨a.Z.l,bk.ex (Y1 g a.Z A.mono (G.bc a) (a.bc P bC v) v (ay.keep λE ee i=>i.keep λo W (x:er s.heap o W)=>⟨a.bc x.1 bC x.2,x.2⟩) (rP az) λef eg ej ag aD aF ao ap=>?_)⟩));replace a:=a.call aD aF;refine cR a V .(0) d (a.bG.2.1.2 _ (.tail _ (.tail _ aG))) bR<|⟨a.Z.l,D7 g a.Z A.mono ao.1 ao.2.1 (fB.keep (λo W (x:ei _ ag.heap o W)=>⟨x.1,x.2.1⟩) ap) (aQ▸dh) di λce em bu bw=>?_⟩;replace a:=a.call bu bw;refine⟨a.Z.l,nn g a A.mono λaO dl en dm dn=>bg _ (dl++U) _ _ ?_ cc.symm (dn.gT List.perm_middle.symm)⟩;have m:aK.take (O+1)=aK.take O++[(t.bD,o)]:=by refine j hf (j df ?_);rfl
   refine(?_:fB _ _ (aK.take (O+1)));refine j m<|bT.dU (fB.keep (av:=In U) (λo W (x:In U o W)=>dt _ x) ar) (bT.gO (dm.keep λo W x=>cU _ x))
  ·intro eo dp ep U a5 ar eq a;replace ar:fB (In U) dp (aK.take (fe B).length):=ar;rw[M,b7.len,h3] at ar;refine a.eL ?_;clear a;intro bz a;have X:In bz a6 _:=.tail _ (dt _ aG);have aY:In bz bV emptyDict:=.tail _ (dt _ (.tail _ aG));have dq:In bz (aL+1) (bM 0):=.tail _ (dt _ (.tail _ (.tail _ aG)));refine seq<|bN<|b3 a b 4 d Bv A4<|cq<|Y a b 1 d d<|sN g a A.mono (fc a X).1 (fc a aY).1 (fc a X).2 d λa5 a K=>Y a b 5 d d<|cR a b .(0) d (fc a dq).1 bR<|⟨a.Z.l,D7 g a.Z A.mono (a.at 0 d) (fc a aG).2 (fB.keep (λo W (x:In U o W)=>fc a (.tail _ (cU _ x))) ar) (ac.gt▸c4) c5 λce ag aD aF=>?_⟩;replace a:=a.call aD aF;refine bx a b 6 d d ?_;intro a5 ad a;refine seq<|b2<|aE ?_;intro p;refine b3 a b 5 d vm Dy<|cq<|Y a b 1 d d<|Vj g a A.mono (fc a X).1 (fc a aY).1 (fc a X).2 d λa5 a W=>cq<|Y a b 1 d d<|Vk g a A.mono (fc a X).1 (fc a aY).1 (fc a X).2 d λa5 a W=>cq<|Y a b 1 d d<|Vl g a A.mono (fc a X).1 (fc a aY).1 (fc a X).2 d λa5 a W=>Y a b 6 d d<|⟨a.Z.l,Dx g a.Z A.mono λeh ds dw ag bu bw ao ap bn aU cf ch es=>?_⟩;have ci:=a.call bu bw;rw[<-ac.id,<-ac.ext,<-ac.o] at ap;exact c7 _ _ ci.aS ci.Z (fR (eh) (ds) (dw) (λJ=>[u 0,0,u 2,ce].getD J 0) (rfl) ((bO (ao) (cf) ((a.eC bn cf).own.new))) ((bO (ap) (ch) ((a.eC aU ch).own.new))))
structure nv(tb:a7)(bm:List a7):Prop where
 ok:∀t∈bm,t.bL/\t.gt<=t.bR/\t.E.length%2=0/\16<=t.E.length
 wP:∀t∈bm,tb.qP t
 mt:∀t∈bm,∀bV∈bm,t.bD=bV.bD->t.mt=bV.mt
 mP:0<bm.length
 len:bm.length<=20
theorem Y5(X:(ak w h).In s.heap)(doc aY aC ci co:p):c2 (aZ w) s.heap (hE (ot.d5 doc) ⟨[aY,aC,ci,co],[]⟩) [(y "mnemonics",aY),(y "hmac_sha256",aC),(y "pbkdf2",ci),(y "passphrase",co)]:=by have a:=sK (b8:=aZ w) (c:=772) (O:=[.bytes #[] 2017]) X .(0);refine(?_:c2 (aZ w) s.heap (pB (.ref 772)>>=λb=>_) _);exact a.andThen (iV .(0))
theorem Y6(v:bb h)(L:aH w h s)(A:aR n 10 40){T:cm}(P:n.frames=some aB)(Q:T.cls=.ref 31/\T.B){bm:List a7}{b:a7}(an:bm=[]\/jX b (eE bm)->d3 w h T n aB [] s)(U:s.heap.get? G=some (a4 ar R))(z:837<=G)(V:bT (λE t=>∃u,E=ds (dk t) u) ar bm)(B:as.length<=1000)(x:bm=[]\/nv b bm/\md b (eE bm)/\((∃f,nu b (eE bm) f/\f.length%2=0/\b.o<=15/\b.id<2^15/\∀u k,bP [] s k->aH w h k->r (a6 (oM f as b.o b.id b.ext) u) k)\/jX b (eE bm))):
 bk w n (.call (.ref 779) ⟨[.ref G,.ref 807,.ref 812,a6 as bh],[]⟩) (fU r (fJ w h T aB)) s:=by
 refine vL (C:=ot) (q:=9) (S:=37) (bQ:=[(y "mnemonics",.ref G),(y "hmac_sha256",.ref 807),(y "pbkdf2",.ref 812),(y "passphrase",a6 as bh)]) (I:=[some (.ref G),some (.ref 807),some (.ref 812),some (a6 as bh),none,none]) .none L trivial A.mono P (Sf v) QJ (λdoc=>Y5 L.l doc _ _ _ _) .(0) .(0) .(0) ?_;intro W g aX aY X c a A;have D:=V.len;have Z:bm.length<=20:=by
  rcases x with rfl|⟨F,T⟩
  ·exact e2 _
  ·exact F.len
 refine seq (doc ?_);replace a:=a.a3 (u:=g.toks+1);refine seq<|ifs<|mY<|gq<|Y a c 0 d d<|qk a (IsList.new (a.bc U bC z)) (by simp;exact NK D Z) λg a=>?_;rcases x with rfl|⟨o,ae,x⟩
 ·have:ar=[]:=List.length_eq_zero_iff.mp D;refine j this<|d2<|seq<|vN a c A.bd 0 d r9 (an (.inl d)) d Q<|fj a λT g a=>⟨ey d,_,_,a⟩
 have af:ar.toArray.isEmpty=false:=by
  have:=o.mP;cases ar with
  |nil=>simp at D;lia
  |cons _ _=>rfl
 refine dN (by refine j af ?_;rfl) ?_;refine bv<|seq<|bN<|b3 a c 1 d Rf QC<|Y a c 0 d d<|⟨a.Z.l,YQ v a.Z A.mono (a.bc U bC z) z V o.ok o.wP o.mt o.mP (Pf Z) λag a5 ah ai aj=>?_⟩;have H:=N.l9 (q:=.none) d a (a.call ah ai);refine H.gl ?_;intro ak H;have al:∀{I J i},N w h ((⟨ot.eg W [],s,.none,.none⟩:aP).push (gy g.heap a5.heap)) I J i->wK w (er i.heap) ag (eE bm):=λ{_ _ i} am=>by
  refine aV λaa p=>?_;obtain⟨q,ao,ap,rfl,aq,au,av,aw⟩:=aj;all_goals refine p ?_
  have K:∀l m,ei g.heap a5.heap l m->er i.heap l m:=λl m e=>⟨am.bG.1 l m e.2.2 e.2.1 e.1,e.2.1⟩;exact(n7 (q) (ao) (ap) (rfl) (K _ _ aq) (au) (λax B=>K _ _ (av ax B)) (aw.keep K))
 refine bx H c 4 d d ?_;intro i X a;refine seq<|bN<|aE ?_;intro ay;refine m8 a c 2 d Ri QI<|Y a c 4 d d<|Y a c 1 d d<|⟨a.Z.l,(Y4 v a.Z A.mono (lF P) Q (λF=>(an (.inr F)).kl a.drop c d) (al a) ae ?_).ga⟩;refine aV λaa p=>?_;rcases x with⟨f,ab,az,aA,aC,aD⟩|aF;all_goals refine p ?_
 ·refine .inl (bF (f) (ab) (λE aG aI aJ aK=>?_));have aL:f.length<=100:=ab.2.2.choose_spec.2.2;have M:=N.l9 (q:=.none) d a (a.call aI aJ);refine M.gl ?_;intro ak M;have aM:∀{I J O},N w h (((⟨ot.eg W [],s,.none,.none⟩:aP).push (gy g.heap a5.heap)).push (gy i.heap aG.heap)) I J O->kv w (er O.heap) E ⟨b.id,b.ext,b.o,f⟩:=λaN=>aK.keep λl m e=>⟨aN.bG.1 l m e.2.2 e.2.1 e.1,e.2.1⟩;refine bx M c 5 d d ?_;intro O X a;refine seq<|b2<|aE ?_;intro ay;have ac:=aM a;have aO:=ac;refine aV λaa p=>?_;obtain⟨eh,aZ,a0,a1,rfl,aQ,aS⟩:=aO;all_goals refine p ?_
  refine gd (h:=h) (Y a c 5 d d ⟨eh,705,_,_,702,rfl,a.Z.l,ky aQ.1 aS.1,kx,Wj,by kernel_rfl,by kernel_rfl,by kernel_rfl,by kernel_rfl,?_⟩);refine Y a c 3 d d<|Y a c 2 d d<|⟨a.Z.l,bk.ex (Ww v a.Z A.mono ac (by dsimp only;exact rJ aL) az B aA aC λu aT aU aW=>?_)⟩;have ad:=a.call aU aW;exact aD u aT ad.aS ad.Z
 ·exact .inr aF
structure me(w:aD)(h:x->a1)(T:cm)(s:H):Prop where
 Z:aH w h s
 a9:T.base.StaysIn s.heap
 i:T.X s.heap
 gp:m6 T.h0 s.heap
 os:s.os=T.os
 b:T.B
theorem fJ.te{T:cm}{G:List ao}(i:fJ w h T G o s):me w h T s:=by
 refine aV λp g=>?_;obtain⟨q,r,W,c,⟨e,j,d⟩,⟨k,W⟩,a9,W,W,l,W,os,f⟩:=i;all_goals refine g ?_
 subst j;have m:aH w h {e with gens:=s.gens,os:=s.os,drawn:=s.drawn}:=⟨d.l,d.tab,f.1,d.b⟩;have n:ee [] {e with gens:=s.gens,os:=s.os,drawn:=s.drawn} s:=⟨λa b W o=>a9 a b o,rfl,rfl,rfl⟩;exact⟨n.Z (λa c=>nomatch c) m,λa b o=>a9 a b (c a b o),l,k.of λa b o=>a9 a b o,os,f.2⟩
theorem fJ.BX{T:cm}{G:List ao}(i:fJ w h T G o s):hs w h T G ac o s:=i.mono λW W W a=>a.imp λW a=>⟨.none,.inl d,a.at⟩
theorem Y7(L:aH w h s)(a:e.l.bL)(m:Nat)(aW:some i=e.l.aX[m]?)(o:bK (ak w h) 3 i=some (some E))(f:r E s):aa w n (bA (.Name i pos) e.D) r M s:=⟨xl a.kind (a.rY _ (cx aW.symm)) (φ (env:=e.D) (by refine j a.kf ?_;exact L.main) (mg_of L.l L.main o) f) (a.rZ _ (cx aW.symm))⟩
theorem Y8(L:aH w h s)(a:e.l.bL)(m:Nat)(aW:some i=e.l.aX[m]?)(o:bK (ak w h) 3 i=some none)(b:fs i=some E/\i≠"__name__")(f:r E s):aa w n (bA (.Name i pos) e.D) r M s:=by refine bp L.b λg c d=>⟨xl a.kind (a.rY _ (cx aW.symm)) (χ (env:=e.D) (by refine j a.kf ?_;exact L.main) (mg_none_of L.l L.main o) (by refine j a.blt ?_;exact c) ((d i b.2).trans b.1) f) (a.rZ _ (cx aW.symm))⟩
theorem Y9{z A:az}{d:List bu}{g:bu}{T:cm}{r:eb->H->Prop}(B:e.l.bL)(p:e.D.frame=some e.D.locals)(D:n.frames=some (e.D::aB))(E:T.cls=.ref 31)(m:Nat)(aW:some i=e.l.aX[m]?)(o:bK (ak w h) 3 i=some (some (.ref 31)))(f:aa w n (ej body e.D) (sd w n bq e.D r M) (gN w h T (e.D::aB) e.D.locals) s)(F:∀c k,me w h T k->aa w (n.mark (some (.ref c))) (ej (g::d) e.D) r dh k):
 aa w n (g2 (.Try body [.ExceptHandler (some (.Name i z)) none (g::d) A] bq [] pos) e.D) r M s:=by
 refine⟨Hi<|cy f.run (λu G a=>by cases u<;>first|exact aa.run a|exact a) λj G a=>qo (r:=λW a5=>aL (aZ w) n (pu j none) (λW b=>aL (aZ w) n (x6 j e.D _) r M b) M a5) D p p a λv a=>qp (r:=λW b=>aL (aZ w) n (x6 j e.D _) r M b) a λv a=>?_⟩;have U:=a.te;have I:=a;refine aV λL J=>?_;obtain⟨c,O,rfl,W,W,W,W,W,W,W,⟨P,Q,W,W,W,W,K,⟨x,W⟩,W⟩,W,W⟩:=I;all_goals refine J ?_
 rw[E] at x;refine abg (abh (aa.run (Y7 U.Z B m aW o ?_))) (by intro t;exact nomatch t);refine wpAny_excMatches_sub_self (C:=31) (N:=30) (nm:=y "MnemonicError") (q:=y "MnemonicError") (bs:=[.type "Exception"]) (hdct:=true) (sn:=[]) (sub:=[]) (ab:=false) (col:=none) (dd:=none) (k0:=some (.ref 22)) (k1:=none) (k2:=some (.str (y "MnemonicError") 234)) (k3:=some (.str (y "MnemonicError") 242)) (k5:=some (.bool true)) (newId:="Exception.__new__") (U.Z.l _ _ .(0)) K x PySem.F.excBase_Exception.hasBase<|abi<|qp (r:=λW b=>aL (aZ w) (n.mark (some (.ref c))) (ej (g::d) e.D) _ _ b) (ac:=e.D.locals) a.BX λv a=>cy (F c _ a.te).run (λu R l=>l) λW W l=>l.elim
theorem Za{X:String}{v x:az}{d:List bu}{g:bu}{T:cm}{r:eb->H->Prop}(y:e.l.bL)(p:e.D.frame=some e.D.locals)(z:n.frames=some (e.D::aB))(A:T.cls=.type X)(m:Nat)(aW:some i=e.l.aX[m]?)(o:bK (ak w h) 3 i=some none)(B:fs i=some (.type X)/\i≠"__name__")(C:h2 (.type X) (.type "BaseException")=pure true)(D:h2 (.type ((abj X).elim "type" λi=>i.metatype)) (.type "tuple")=pure false)(E:h2 (.type X) (.type X)=pure true)(f:aa w n (ej body e.D) (sd w n bq e.D r M) (gN w h T (e.D::aB) e.D.locals) s)(F:∀c k,me w h T k->aa w (n.mark (some (.ref c))) (ej (g::d) e.D) r dh k):
 aa w n (g2 (.Try body [.ExceptHandler (some (.Name i v)) none (g::d) x] bq [] pos) e.D) r M s:=by
 refine⟨Hi<|cy f.run (λq G a=>by cases q<;>first|exact aa.run a|exact a) λj G a=>qo (r:=λW a5=>aL (aZ w) n (pu j none) (λW b=>aL (aZ w) n (x6 j e.D _) r M b) M a5) z p p a λt a=>qp (r:=λW b=>aL (aZ w) n (x6 j e.D _) r M b) a λt a=>?_⟩;have I:=a.te;have J:=a;refine aV λO K=>?_;obtain⟨c,P,rfl,W,W,W,W,W,W,W,⟨Q,R,W,W,W,W,L,⟨u,W⟩,W⟩,W,W⟩:=J;all_goals refine K ?_
 rw[A] at u;refine abg (abh (aa.run (Y8 I.Z y m aW o B ?_))) (by intro N;exact nomatch N);refine wpAny_excMatches_type (X:=X) (bF (_) (L) (u)) C D E<|abi<|qp (r:=λW b=>aL (aZ w) (n.mark (some (.ref c))) (ej (g::d) e.D) _ _ b) (ac:=e.D.locals) a.BX λt a=>cy (F c _ a.te).run (λq S l=>l) λW W l=>l.elim
theorem Fm(c:n.handled=none)(a:N w h e I ((G,a4 O R)::led) s)(f:∀L k,(d:G≠L)->d7 e [L]->N w h (e.push (cs (fy (w:=w) c L G d O.toArray) 0)) I led k->r (.ref L) k):aa w n (hX (.ref G)) r M s:=by have b:=a.ld _ aG;exact gP c (a.cd (cJ _ _)) (IsList.new b.1) (dS (b.2.1) (b.2.2.dc) ((List.nodup_cons.mp a.dE).1) (b.2.2.ge)) f
theorem Zb(P:bb h)(L:aH w h s)(A:aR n 1 4){e:V}(C:s.heap.get? G=some e)(D:e.cls=.type "list")(hd:e.data=.seq O.toArray R)(E:∀i∈O,∃(v:Int) (u:aF),i=.int v u)(F:O.length<=64)(f:∀aJ ax k,bP [] s k true->aH w h k->hu aJ ax k.heap->s.heap.get? aJ=none->s.heap.get? ax=none->837<=aJ->837<=ax->aJ≠ax->r (.ref aJ) k):bk w n (.call (.ref 786) ⟨[.ref G],[]⟩) (bW r) s:=by
 refine cZ (q:=0) (S:=1) (Sg P) QL (.none true) L trivial A.mono ?_;intro ao b Q ap p c a A;refine seq<|bN<|a8 7 a λV b a=>bx a c 1 d d ?_;intro b p a;refine seq<|gJ<|aE ?_;intro H;refine gr "list" _ slot_list_getitem.lookup<|Y a c 0 d d<|(?_:fx w _ _ _ _ _ _);refine(?_:aa w _ _ _ _ _);refine a8 63 a λV b a=>kj a (du (e) (a.aS.heap _ _ bC (.inr d) C) (D) ⟨R,hd⟩) .none (.int _ _) (ck (uP F)) λT b t I a=>?_;have U:t=O.take 63:=j I (j (ro _ 63) d);clear I;refine Fm A.bd a λW b X Z a=>gK (fy A.bd W T X t.toArray) Z (λab ac ad=>∃v u o,ac=[some (.ref G),some (aj v u),o]/\ad=[]) a (hh (7) (_) (none) (rfl) (rfl)) ?_ ?_
 ·(intro ab o W W b aq ar ae g Q af W a;(refine f4 g λv u ag l x=>?_;clear g;obtain rfl:=l;obtain rfl:=x));(refine eJ (E o (by have:o∈t:=cx (by simpa using ae);rw[U] at this;exact mz this)) λi ah l=>?_;obtain rfl:=l);refine dF (cp (bx a c 2 d d ?_));intro b p a;refine seq<|bN<|aE ?_;intro H;refine a2<|a2<|a2<|a2<|Y a c 1 d d<|a8 131 a λW b a=>hr a .(1) λW b a=>Y a c 2 d d<|ow a λW b a=>cg a λW b a=>ow a λW b a=>cg a λW b a=>se a .(1) λai b a=>j (GD _ .(1))<|bo (Hx (aaK (((v*131:Nat):Int)+i+17) (show(1000003:Int)≠0 by decide))) λak al=>j al<|bx a c 1 d d ?_;intro b p a;exact bv (af _ _ _ (hh (ak) (ai) (some (.int i ah)) (rfl) (rfl)) a)
 ·(intro W W b g a;(refine f4 g λv u ag l x=>?_;clear g;obtain rfl:=l;obtain rfl:=x));refine bv<|seq<|b2<|aE ?_;intro H;refine f7<|Y a c 1 d d<|c6 a c 0 d lS lZ<|gr "list" _ slot_list_getitem.lookup<|Y a c 0 d d<|(?_:fx w _ _ _ _ _ _);refine(?_:aa w _ _ _ _ _);refine a8 63 a λW b a=>a.jE ?_;intro as a;refine kj a (du (e) (a.aS.heap _ _ bC (.inr d) C) (D) ⟨R,hd⟩) .none (.int _ _) (ck (uP F)) λau b y J a=>?_;have K:y=O.take 63:=j J (j (ro _ 63) d);have M:y.length<=64:=by refine j K (j iC ?_);exact I8
  clear J;refine(?_:aa w _ _ _ _ _);refine vK a (a.at 0 d) (ck (uP M)) λax am b a=>⟨ey d,?_⟩;have m:=a.e8 [aj v u,.ref ax];have z:=fC m aG;have B:=fC m (.tail _ aG);refine f _ ax _ m.aS m.Z (pN (v) (u) (y) (am) (IsList.new z.1) (B.1) (M) (λi N=>?_)) z.2.2 B.2.2 z.2.1 B.2.1 ?_
  ·rw[K] at N;exact E i (mz N)
  ·intro an;exact(List.nodup_cons.mp m.dE).1 (by refine j an ?_;exact .head _)
noncomputable abbrev gA(aB:List ao):List Addr:=aB.filterMap (·.frame)
structure lm(n:aQ)(aB:List ao)(f:au):Prop where
 ch:n.frames=some aB
 jP:∃B,f.FunFrames B aB
 ge:∀b∈gA aB,837<=b
noncomputable def tf(s:H)(aB:List ao)(ae:List x)(cls:p)(B:Prop):cm where
 base:=fw (cK++(gA aB++ae)) s.heap
 h0:=s.heap
 os:=s.os
 cls:=cls
 br:=(bH s.heap.objs.size).filter λb=>decide (837<=b)&&(s.heap.get? b).isSome&&!(ae.contains b)
 B:=B
 X:=λc=>∀b∈gA aB,b∉ae->837<=b->∀d,s.heap.get? b=some d->(∀ar,d.data≠.fields ar)->∃bw,c.get? b=some {d with slots:=bw}
 small:=λb d o=>by
  by_cases a:b∈cK++(gA aB++ae)
  ·exact cz ((i4 a).symm.trans o)
  ·rw[ib a] at o;rw[lD,lD,not_or,not_or] at a;rcases gB b 837 with c|c
   ·exact .inl ⟨c,a.1⟩
   ·refine .inr (List.mem_filter.mpr ⟨List.mem_range.mpr (cr o),j o ?_⟩);simp[c,a.2.2]
 jJ:=λb a=>by have:=(List.mem_filter.mp a).2;simp only[eH,decide_eq_true_eq] at this;exact this.1.1
 eV:=λc ag l i b a e f d o g=>by refine bo (i b a e f d o g) λbw h=>?_;(refine bo (l b (List.mem_filter.mpr ⟨List.mem_range.mpr (cr o),by refine j o ?_;simp[f,e]⟩) _ h g) λk m=>?_);exact⟨k,m⟩
theorem Fn{cls:p}{B:Prop}(L:aH w h s)(F:lm n aB s.heap)(cY:∀b∈gA aB,b∉ae)(l:∀b∈ae,837<=b):d3 w h (tf s aB ae cls B) n aB ae s:=by
 refine bo F.jP λB f=>⟨L,F.ch,funFrames_base (λb a W=>i4 (dt _ (cU _ a))) f,λb d c=>?_,λb a cY m d c o=>⟨d.slots,c⟩,λb a=>?_,F.ge,λq r t g=>⟨#[],by refine j xg ?_;exact g⟩,rfl,λb a=>?_⟩
 ·by_cases a:b∈cK++(gA aB++ae)
  ·have i:(fw (cK++(gA aB++ae)) s.heap).get? b=some d:=c;exact cz ((i4 a).symm.trans i)
  ·exact(ib a).symm.trans c
 ·rcases List.mem_append.mp a with a|a
  ·have:=(List.mem_filter.mp a).2;simp only[eH,hc,decide_eq_true_eq] at this;intro k;have e:=this.2;rw[List.contains_iff_mem.mpr k] at e;exact nomatch e
  ·exact cY b a
 ·have:=(List.mem_filter.mp a).2;simp only[eH] at this;exact Option.isSome_iff_exists.mp this.1.2
structure gf(w:aD)(h:x->a1)(aB:List ao)(ae:List x)(s k:H):Prop where
 Z:aH w h k
 heap:∀b J,b∉cK->b∉gA aB->b∉ae->s.heap.get? b=some J->k.heap.get? b=some J
 ch:∀b∈gA aB,b∉ae->837<=b->∀J,s.heap.get? b=some J->(∀ar,J.data≠.fields ar)->∃bw,k.heap.get? b=some {J with slots:=bw}
 gp:m6 s.heap k.heap
 os:k.os=s.os
theorem me.kk{cls:p}{B:Prop}(i:me w h (tf s aB ae cls B) k):gf w h aB ae s k:=
 ⟨i.Z,λa b c d e f=>i.a9 a b (by
  refine(?_:(fw (cK++(gA aB++ae)) s.heap).get? a=some b);rw[ib]
  ·exact f
  ·rw[lD,lD,not_or,not_or];exact(bO (c) (d) (e))),i.i,i.gp,i.os⟩
theorem bP.kk(R:bP ae s k t)(L:aH w h k):gf w h aB ae s k:=⟨L,λb a c W d e=>R.heap b a d (.inl c) e,λb W d c a e W=>⟨a.slots,R.heap b a d (.inl (gI c)) e⟩,R.cK,R.os⟩
noncomputable abbrev aP.qR(e:aP):aP:={e with aK:={e.aK with gens:=#[]}}
theorem N.qR(a:N w h e I led s)(f:e.af.t=false):N w h e.qR I led s:=⟨a.Z,⟨a.aS.heap,a.aS.cK,λl m n=>by trivial,(λb=>by rw[show e.qR.af.t=e.af.t from d,f] at b;exact absurd b .(1)),a.aS.os,(λb=>by rw[show e.qR.af.t=e.af.t from d,f] at b;exact absurd b .(1))⟩,a.b4,a.ch,⟨a.cE.new,a.cE.ge,a.cE.dc⟩,λg i=>let⟨j,k,c⟩:=a.ld g i;⟨j,k,c.new,c.ge,c.dc⟩,a.dE,a.bG,a.b9⟩
theorem lm.push(F:lm n aB e.aK.heap)(a:N w h e I led s)(k:e.l.bL)(g:e.D.frame=some e.D.locals)(cY:∀b∈gA aB,b∉e.af.ae):lm (n.deeper e.D) (e.D::aB) s.heap:=by
 refine bo F.jP λl m=>?_;(refine⟨lF F.ch,(du (fw [e.D.locals] l) (by refine j k.kind ?_;decide) (?_) (?_)),λb c=>?_⟩)
 ·refine aV λt o=>kc a.ch λd u v p q W=>?_;all_goals refine o ?_
  (exact(pL (_) (d) (g) (i4 aG) (p) (λx r=>nomatch q.symm.trans r)))
 ·refine funFrames_base (λb c f=>?_) (qm (λb c d f=>a.aS.heap b d (cY b c) (.inl (gI (F.ge b c))) f) m);by_cases i:b∈[e.D.locals]
  ·exact i4 i
  ·refine j (ib i) ?_;exact f
 ·rw[gA,jw,g] at c;rcases List.mem_cons.mp c with rfl|c
  ·exact a.cE.ge
  ·exact F.ge b c
theorem gf.Fo(aO:gf w h (e.D::aB) e.af.ae s k)(a:N w h e I led s)(l:e.D.frame=some e.D.locals):gf w h aB e.af.ae e.aK k:=by
 have r:∀b c,e.aK.heap.get? b=some c->b≠e.D.locals:=λb c d j=>by have:=a.cE.new;rw[j] at d;exact cz (this.symm.trans d)
 have i:=bP.kk (w:=w) (h:=h) (aB:=aB) a.aS a.Z;refine⟨aO.Z,λb c f m g d=>aO.heap b c f ?_ g (i.heap b c f m g d),λb n g f c d o=>?_,?_,aO.os.trans i.os⟩
 ·rw[gA,jw,l];exact λj=>(List.mem_cons.mp j).elim (r b c d) m
 ·refine bo (i.ch b n g f c d o) λD t=>?_;(refine bo (aO.ch b (by rw[gA,jw,l];exact e3 _ n) g f _ t o) λu v=>?_);exact⟨u,v⟩
 ·intro p q x y;refine bo (i.gp p q x y) λz A=>bo (aO.gp p q _ A) λB C=>⟨z++B,by refine be nH ?_;exact C⟩
theorem gf.a3{v:aF}(aO:gf w h aB ae s k):gf w h aB ae s {k with toks:=v}:=⟨⟨aO.Z.l,aO.Z.tab,aO.Z.bare,aO.Z.b⟩,aO.heap,aO.ch,aO.gp,aO.os⟩
noncomputable def cm.nw(T:cm)(P:Prop):cm:={T with X:=λa=>T.X a/\P,eV:=λa ag l i=>⟨T.eV a ag l i.1,i.2⟩}
theorem d3.nw{T:cm}{P:Prop}(an:d3 w h T n aB ae s)(f:P):d3 w h (T.nw P) n aB ae s:=⟨an.Z,an.ch,an.jP,an.a9,⟨an.i,f⟩,an.ki,an.ge,an.gp,an.os,an.oG⟩
theorem me.nw{T:cm}{P:Prop}(i:me w h (T.nw P) s):me w h T s/\P:=⟨⟨i.Z,i.a9,i.i.1,i.gp,i.os,i.b⟩,i.i.2⟩
theorem jX.not{a:a7}{Q:List (Nat×List a7)}{c:List UInt8}(f:nu a Q c)(b:jX a Q):False:=by
 rcases b with b|⟨W,d,e,b⟩
 ·exact absurd f.1 (g0 b)
 ·exact b (f.2.1 d e)
theorem Fp(x:bb h)(L:aH w h s)(A:aR n 11 43)(F:lm n aB s.heap){bm:List a7}{b:a7}(O:s.heap.get? G=some (a4 ar R))(z:837<=G)(P:bT (λE t=>∃u,E=ds (dk t) u) ar bm)(Q:as.length<=1000)(C:(∃l,nv b bm/\md b (eE bm)/\nu b (eE bm) l/\l.length%2=0/\b.o<=15/\b.id<2^15/\∀u k,gf w h aB [] s k->r (a6 (oM l as b.o b.id b.ext) u) k)\/
  (bm=[]\/nv b bm/\md b (eE bm)/\jX b (eE bm))/\∀u k,gf w h aB [] s k->r (.str (y "refused") u) k):
 bk w n (.call (.ref 831) ⟨[.ref G,a6 as bh],[]⟩) (bW r) s:=by
 refine cZ (q:=10) (S:=40) (Sn x) QW .none L trivial A.mono ?_;intro D U ad af ag i a A;have V:=F.push a i d λH R=>bC;have W:=Fn (ae:=[]) (cls:=.ref 31) (B:=True) a.Z V (λH V=>bC) (λH f=>nomatch f);refine seq (Y9 (h:=h) (e:=⟨r6.eg D [],s,.none,.none⟩) (T:=(tf U (r6.D D []::aB) [] (.ref 31) True).nw (bm=[]\/jX b (eE bm))) i d (lF F.ch) d 3 d r9 ?_ λah a5 v=>?_)
 ·refine seq<|b2<|aE ?_;intro ai;refine m8 a i 0 d Rj QK<|Y a i 0 d d<|eA a i 1 d Bx<|eA a i 2 d By<|Y a i 1 d d<|⟨a.Z.l,(Y6 x a.Z A.mono (lF F.ch) ⟨rfl,trivial⟩ (λf=>W.nw f) (a.bc O bC z) z P Q ?_).ga⟩;refine aV λX m=>?_;rcases C with c|c
  ·(refine yf c λl g p o I J K M=>?_;clear c);refine m<|.inr ⟨g,p,.inl (yg (l) (o) (I) (J) (K) (λu Z aa ab=>?_))⟩;have N:=a.call aa ab;exact M u Z (bP.kk N.aS N.Z)
  ·(refine bE c λg W=>?_;clear c);refine m ?_;rcases g with g|⟨g,p,o⟩
   ·exact .inl g
   ·exact .inr (bO (g) (p) (.inr o))
 ·refine bE v.nw λv f=>seq (b2 ⟨Ge<|aV λX m=>?_⟩);rcases C with c|c
  ·(refine yf c λl g p o I J K M=>?_;clear c);refine m ?_;rcases f with f|f
   ·exact absurd g.mP (by refine j f ?_;exact dn _)
   ·exact(f.not o).elim
  ·(refine bE c λW ac=>?_;clear c);refine m<|ac _ _ ((v.kk.Fo a d).a3)
noncomputable def jY(eB aW:Int):List p->Prop
 |[]=>True
 |E::ar=>(∃m u,E=.int m u/\eB<=m/\m<=aW)/\jY eB aW ar
theorem jY.at{eB aW:Int}:∀{O:List p},jY eB aW O->∀{v:Nat},v<O.length->∃m u,O[v]?=some (.int m u)/\eB<=m/\m<=aW
 |_::_,a,0,_=>let⟨m,u,b,c⟩:=a.1;⟨m,u,by refine j b ?_;rfl,c⟩
 |_::e,a,v+1,d=>by
  (refine db (jY.at a.2 (v:=v) (by rw[ec] at d;exact Pj d)) λm u b c=>?_);(exact(eU (m) (u) (by refine j mq ?_;exact b) (c)))
 |[],_,_,a=>absurd a (tY _)
structure Fq(Q:List (Int×Int))(s2:Int):Prop where
 g:Q=he 17 (1,1)/\1<=s2/\s2<=17\/Q.length<=3/\-1<=s2/\s2<=4/\∀z∈Q,-1<=z.1/\z.1<=3/\-2<=z.2/\z.2<=18
noncomputable abbrev Zc(O:List p):Obj:={cls:=.type "tuple",data:=.seq O.toArray}
theorem Zd(o:bb h)(L:aH w h s)(A:aR n 3 12){aJ:x}(t:837<=aJ)(y:837<=ax)(F:aJ≠ax)(aK:hu aJ ax s.heap)(f:∀c N R ap Q (P:Int) u k,Fq Q P->bP [aJ,ax] s k true->aH w h k->hu aJ ax k.heap->ei s.heap k.heap c (Zc [.ref N,.int P u])->ei s.heap k.heap N (a4 ap R)->bT (hA (ei s.heap k.heap)) ap Q->r (.ref c) k):
 bk w n (.call (.ref 819) ⟨[.ref aJ],[]⟩) (bW r) s:=by
 refine cZ (q:=2) (S:=9) (Sl o) QS (jS aJ ax true t y) L aK A.mono ?_;intro a5 b aL a6 T e a A;refine seq<|ifs<|cT<|aE ?_;intro m;refine b3 a e 0 d gn gm<|Y a e 0 d d<|a8 12 a λS b a=>⟨a.Z.l,gv o a.Z A.mono t y F a.b4 .(1) λv V b aq R L l=>?_⟩;replace a:=a.en R L l;refine a8 0 a λS b a=>qr (cn ?_);cases v==0 with
 |true=>refine d2<|aE ?_;intro m;refine seq<|b2<|ja<|a2<|aE ?_;intro m;refine f7<|ja<|cg a λar b a=>cg a λas b a=>⟨b6 d,?_⟩;replace a:=a.jb [.int 1 ar,.int 1 as];generalize b.heap.objs.size=G at a;refine⟨b6 d,?_⟩;replace a:=a.e8 [.ref G];refine a8 17 a λS b a=>CG a (a.at 0 d) .(1) (b6 d) (λaf=>nomatch af) λN b a=>?_;replace a:=a.cd (d6:=[(N,_),(G,_)]) (.cons_cons _ (.cons _ (ka _)));refine a.eL ?_;intro a7 a;refine a2<|aE ?_;intro m;refine a8 1 a λS b a=>b3 a e 0 d gn gm<|Y a e 0 d d<|a8 17 a λS b a=>⟨a.Z.l,gv o a.Z A.mono t y F a.b4 .(1) λv V b aq R L l=>?_⟩;replace a:=a.en R L l;refine eZ a λz b a=>⟨b6 d,?_⟩;replace a:=a.jb [.ref N,aj (1+v) z];refine f _ N 0 _ (he 17 (1,1)) (1+v:Nat) z _ ⟨.inl (bO (rfl) O2 (KC aq))⟩ a.aS a.Z a.b4 (fC a aG) (fC a (.tail _ aG)) ?_;have I:=fC a (.tail _ (.tail _ aG));have g:hA (ei s.heap _) (.ref G) (1,1):=(hh (G) (ar) (as) (rfl) (I));exact⟨g,g,g,g,g,g,g,g,g,g,g,g,g,g,g,g,g,trivial⟩
 |false=>
  refine dw<|bv<|seq<|bN<|f7<|⟨e2 _,?_⟩;replace a:=a.e8 [];generalize b.heap.objs.size=J at a;refine bx a e 1 d d ?_;intro b T a;refine seq<|gJ<|aE ?_;intro m;refine c6 a e 1 d hN hQ<|b3 a e 0 d gn gm<|Y a e 0 d d<|a8 4 a λS b a=>⟨a.Z.l,gv o a.Z A.mono t y F a.b4 .(1) λau S b W R L l=>?_⟩;replace a:=a.en R L l;refine iK a λj S S S b a=>jM (v:=au) A.bd a (a.at 0 d) .(1) (zB W) od λaM b aN a=>?_;replace a:=a.cd (cJ _ _);(have av:∀{s:H} {O:List p} {R:Nat},s.heap.get? J=some (a4 O R)->s.TypeIs (.ref J) "list"/\(∀c,e4 J=.ref c->∃aw,s.heap.get? c=some aw/\aw.dict=none):=λaf=>⟨(bF (_) (af) (rfl)),λc aO=>by cases aO;exact(bF (_) (af) (rfl))⟩);refine gK (hp A.bd aM 0 1 au) aN (λay aP aQ=>∃i ai ak O R z Q,aP=[some (.ref aJ),some (.ref J),i,ai,ak]/\aQ=(J,a4 O R)::z/\bT (hA (In z)) O Q/\Q.length=ay/\∀B∈Q,-1<=B.1/\B.1<=3/\-2<=B.2/\B.2<=18) a (yr (none) (none) (none) ([]) (0) ([]) ([]) (rfl) (rfl) (trivial) (rfl) (λS f=>nomatch f)) ?_ ?_
  ·intro ay az S S b a9 aS aA aT aL aU S a;refine aE ?_;intro m;refine aV λaX al=>?_;(refine bo aA λba X=>?_;clear aA;obtain rfl:=X);refine yq aT λi ai ak O R z Q X am Z U K=>a.ef X am ?_;intro T aY a;refine al<|dF (cp (bx a e 2 d d ?_));intro b T a;refine seq<|bN<|aE ?_;intro m;refine dr<|f7<|cg a λC b a=>cg a λD b a=>cg a λE b a=>cg a λaa b a=>cg a λab b a=>cg a λac b a=>sp<|cg a λS b a=>vA a λaB b a=>⟨b6 d,?_⟩;replace a:=a.e8 [.int 1 C,.int 1 D,.int 2 E,.int 2 aa,.int 3 ab,.int 0 ac,.int (-1) aB];refine b3 a e 0 d gn gm<|Y a e 0 d d<|a8 7 a λS b a=>⟨a.Z.l,gv o a.Z A.mono t y F a.b4 .(1) λbc S b aC R L l=>?_⟩;replace a:=a.en R L l;refine db (jY.at (eB:=-1) (aW:=3) (O:=[.int 1 C,.int 1 D,.int 2 E,.int 2 aa,.int 3 ab,.int 0 ac,.int (-1) aB]) (mI (⟨_,_,rfl,by decide,by decide⟩) (⟨_,_,rfl,by decide,by decide⟩) (⟨_,_,rfl,by decide,by decide⟩) (⟨_,_,rfl,by decide,by decide⟩) (⟨_,_,rfl,by decide,by decide⟩) (⟨_,_,rfl,by decide,by decide⟩) (⟨_,_,rfl,by decide,by decide⟩) (trivial)) aC) λad V M aZ=>f8 (i:=.int ad V) (IsList.new (a.at 0 d)) fm (NL aC) (by rw[ft];exact M) ?_;replace a:=a.cd (cJ _ _);clear M;refine bx a e 3 d d ?_;intro b T a;refine seq<|bN<|aE ?_;intro m;refine a2<|Y a e 3 d d<|dr<|f7<|cg a λC b a=>cg a λD b a=>cg a λE b a=>cg a λaa b a=>sp<|cg a λS b a=>vA a λab b a=>cg a λac b a=>⟨b6 d,?_⟩;replace a:=a.e8 [.int 0 C,.int 0 D,.int 0 E,.int 1 aa,.int (-1) ab,.int 15 ac];refine b3 a e 0 d gn gm<|Y a e 0 d d<|a8 6 a λS b a=>⟨a.Z.l,gv o a.Z A.mono t y F a.b4 .(1) λan S b ag R L l=>?_⟩;replace a:=a.en R L l;refine db (jY.at (eB:=-1) (aW:=15) (O:=[.int 0 C,.int 0 D,.int 0 E,.int 1 aa,.int (-1) ab,.int 15 ac]) ⟨(el (_) (_) (rfl) .(1) .(1)),(el (_) (_) (rfl) .(1) .(1)),(el (_) (_) (rfl) .(1) .(1)),(el (_) (_) (rfl) .(1) .(1)),(el (_) (_) (rfl) .(1) .(1)),(el (_) (_) (rfl) .(1) .(1)),trivial⟩ ag) λao ae M ah=>f8 (i:=.int ao ae) (IsList.new (a.at 0 d)) fm (NM ag) (by rw[ft];exact M) ?_;replace a:=a.cd (cJ _ _);clear M;refine ow a λaD b a=>bx a e 4 d d ?_;intro b T a;refine seq (l5 ?_);refine gu nT lE pv ?_;refine Y a e 1 d d<|(bO ((av (a.at 0 d)).1) ((av (a.at 0 d)).2)<|ja<|Y a e 3 d d<|Y a e 4 d d<|⟨b6 d,?_⟩);replace a:=a.jb [.int ad V,.int (ad+ao) aD];generalize b.heap.objs.size=G at a;refine oF a 1 d (ck (by rw[Z.len];exact K9 W aS U)) λb a=>⟨rfl,bv (aU _ _ _ (yr (_) (_) (_) (_) (_) ((G,_)::z) (Q++[(ad,ad+ao)]) (rfl) (rfl) (?_) (by simp[U]) (λB I=>?_)) (a.gT (.swap _ _ _)))⟩
   ·exact bT.dU (Z.keep λaz B i=>i.keep λa0 a1 K=>.tail _ K) (bT.gO (hh (G) (V) (aD) (rfl) aG))
   ·rcases List.mem_append.mp I with I|I
    ·exact K B I
    ·rw[List.mem_singleton.mp I];dsimp only;exact It aZ ah
  ·intro V V b a3 a;refine aE ?_;intro m;refine aV λaX al=>yq a3 λi ai ak O R z Q X am Z U K=>a.ef X am ?_;intro T aY a;refine al<|bv<|seq<|b2<|ja<|Y a e 1 d d<|dr<|f7<|cg a λC b a=>c0 a e 2 d dv dx<|Y a e 1 d d ?_;have aF:=Z.len;refine i9 a (IsList.new (a.at 0 d)) (by simp;exact Kt W U aF) λD b a=>a2<|aE ?_;intro m;refine b3 a e 0 d gn gm<|Y a e 0 d d<|a8 6 a λX b a=>⟨a.Z.l,gv o a.Z A.mono t y F a.b4 .(1) λan X b ag R L l=>?_⟩;replace a:=a.en R L l;refine cg a λX b a=>mV a λE b a=>⟨b6 d,?_⟩;replace a:=a.e8 [.int 1 C,.int (O.toArray.size:Nat) D,.int ((an:Int)-1) E];refine b3 a e 0 d gn gm<|Y a e 0 d d<|a8 3 a λY b a=>⟨a.Z.l,gv o a.Z A.mono t y F a.b4 .(1) λbd Y b aI R L l=>?_⟩;replace a:=a.en R L l;((refine db (jY.at (eB:=-1) (aW:=4) (O:=[.int 1 C,.int (O.toArray.size:Nat) D,.int ((an:Int)-1) E]) ⟨(el (_) (_) (rfl) .(1) .(1)),(el (_) (_) (rfl) (by simp only[cN];exact NN) (by simp only[cN];exact Pk W U aF)),(el (_) (_) (rfl) NO (NP ag)),trivial⟩ aI) λP ae M ah=>?_));refine f8 (i:=.int P ae) (IsList.new (a.at 0 d)) fm (NQ aI) (by rw[ft];exact M) ?_;replace a:=a.cd (cJ _ _);refine⟨b6 d,?_⟩;replace a:=a.jb [.ref J,.int P ae];exact f _ J _ _ Q P ae _ ⟨.inr (dS (y2 W U) (JA ah) (Kv ah) (K))⟩ a.aS a.Z a.b4 (fC a aG) (fC a (.tail _ aG)) (Z.keep λaz B i=>i.keep λa0 a1 K=>fC a (.tail _ (.tail _ K)))
theorem wQ{C:Nat->Bool}(l:Nat):(bH (l+1)).all C=((bH l).all C&&C l):=by refine j h1 (j Hq ?_);simp
theorem Ze(aQ:bb h)(L:aH w h s)(A:aR n 2 8){l:x}{o:List p}{v:Int}(O:er s.heap l (a4 o R))(ar:bT (hA (er s.heap)) o Q)(au:aw.length<=100)(av:as.length<=100)(ax:Q.length<=100)(f:∀b k,(b=true↔nq aw as Q v)->bP [] s k true->aH w h k->r (.bool b) k):
 bk w n (.call (.ref 824) ⟨[a6 aw aA,a6 as bf,.ref l,.int v bh],[]⟩) (bW r) s:=by
 have P:=ar.len;refine cZ (q:=1) (S:=5) (Sm aQ) QU (.none true) L trivial A.mono ?_;intro F g ay bq T c a A;have D:∀{t G k},N w h ⟨ou.eg F [],s,.none true,.none⟩ t G k->nq aw as Q v->r (.bool true) k:=λa b=>f true _ ⟨λL=>b,λL=>rfl⟩ a.aS a.Z;refine seq<|ifs<|hz<|gq<|aE ?_;intro u;refine ie (aN:=[y "octet"]) (aX:=[]) _ d (by decide+kernel)<|Y a c 1 d d<|sC A.bd a λH g aj a=>C0 (aN:=[y "octet"]) (aX:=[]) (qt A.bd H as bf) a aj c _ (by decide+kernel) (ck (NR av)) (λi z I=>z.isEmpty=(bH i).all (hB as)/\z.length<=i) ⟨rfl,e2 _⟩ ?_ ?_
 ·intro br i aS z aT I az bs a5 bt bu aU ⟨E,bw,aW,J⟩ m ay K aY aB aZ a;refine aE ?_;intro u;(refine bo (hj aY) λbz B=>?_;obtain rfl:=B);subst J;refine dF<|cp<|d8 a K 0 d d λaC a=>aE ?_;intro u;have ak:as.getD i 0=E:=oL aW;refine hz<|cT<|Y a K 0 d d<|a8 32 a λL aC a=>qs (cn ?_);by_cases U:E.toNat<32
  ·refine fi (decide_eq_true U)<|d2<|Y a K 0 d d<|aB _ I _ _ ⟨?_,by have:=m.2;refine j dZ (j t1 ?_);exact zC this⟩ (by dsimp) a;refine j (wQ ..) (j (show hB as i=false by rw[hB,ak,decide_eq_false (NS U),xZ]) (j (pw ..) ?_));simp
  refine dN (decide_eq_false U)<|hz<|cT<|Y a K 0 d d<|a8 126 a λL aC a=>vS (cn ?_);by_cases V:126<E.toNat
  ·refine fi (decide_eq_true V)<|d2<|Y a K 0 d d<|aB _ I _ _ ⟨?_,by have:=m.2;refine j dZ (j t1 ?_);exact zC this⟩ (by dsimp) a;refine j (wQ ..) (j (show hB as i=false by rw[hB,ak,decide_eq_false (show¬E.toNat<=126 by exact NU V),pw]) (j (pw ..) ?_));simp
  refine dN (decide_eq_false V)<|no<|dw<|aZ I _ _ ⟨?_,ml m.2⟩ (by dsimp) a;(refine j (wQ ..) (j (show hB as i=true by rw[hB,ak,decide_eq_true (show 32<=E.toNat by exact NV U),decide_eq_true (show E.toNat<=126 by exact NW V)];rfl) (j (Bool.and_true ..) ?_)));exact m.1
 intro az z aT I g m a;refine a.eL ?_;intro bA a;have a0:z.length<=as.length:=m.2;replace m:z.isEmpty=oZ as:=m.1;refine qk a (IsList.new (a.at 0 d)) (by refine j cN ?_;exact NX av a0) λg a=>?_;(refine j (show(!z.toArray.isEmpty)=!oZ as by refine be m ?_;simp) ?_);cases aD:oZ as with
 |false=>refine d2<|d2<|seq<|b2<|i8<|D a (.inl aD)
 |true=>
  refine dw<|aE ?_;intro u;refine hz<|gq<|aE ?_;intro u;refine a2<|c0 a c 0 d dv dx<|Y a c 0 d d<|ho a (by simp;exact rM au) λK g a=>?_;have aF:(aw.toArray.size:Int)=((aw.length:Nat):Int):=by rfl
  refine j aF<|a8 2 a λK g a=>fI a .(1) λK g a=>vI ?_;by_cases W:aw.length%2=0;case neg=>refine fi (by simpa using W)<|d2<|seq<|b2<|i8<|D a (.inr (.inl (uy W)))
  refine dN (by refine j W ?_;rfl) ?_;refine hz<|cT<|c0 a c 0 d dv dx<|Y a c 0 d d<|ho a (by simp;exact rM au) λK g a=>j aF<|a8 16 a λK g a=>qs (cn ?_);by_cases X:aw.length<16;case pos=>refine fi (decide_eq_true X)<|d2<|seq<|b2<|i8<|D a (.inr (.inr (.inl X)))
  refine dN (decide_eq_false X)<|no<|dw<|bv ?_;have al:∀{a1 a3 a5},N w h ⟨ou.eg F [],s,.none true,.none⟩ a1 a3 a5->a5.heap.IsList l o.toArray:=λa=>IsList.new (a.bc O.1 bC O.2);have aG:(o.toArray.size:Int)=((Q.length:Nat):Int):=(λ{R aI}=>Int.ofNat_inj.mpr) P;refine seq<|ifs<|hz<|cT<|Y a c 3 d d<|cg a λK g a=>oz (cn ?_);by_cases Z:v<1;case pos=>refine fi (decide_eq_true Z)<|d2<|seq<|b2<|i8<|D a (.inr (.inr (.inr (.inl Z))))
  refine dN (decide_eq_false Z)<|aE ?_;intro u;refine hz<|cT<|Y a c 3 d d<|c0 a c 0 d dv dx<|Y a c 2 d d<|i9 a (al a) (by simp;exact zP ax P) λK g a=>j aG<|iJ (cn ?_);by_cases aa:v>(Q.length:Int);case pos=>refine fi (decide_eq_true aa)<|d2<|seq<|b2<|i8<|D a (.inr (.inr (.inr (.inr (.inl aa)))))
  refine dN (decide_eq_false aa)<|hz<|cT<|c0 a c 0 d dv dx<|Y a c 2 d d<|i9 a (al a) (by simp;exact zP ax P) λK g a=>j aG<|a8 16 a λK g a=>vS (cn ?_);by_cases ab:16<Q.length;case pos=>refine fi (decide_eq_true ab)<|d2<|seq<|b2<|i8<|D a (.inr (.inr (.inr (.inr (.inr (.inl ab))))))
  refine dN (decide_eq_false ab)<|no<|dw<|bv ?_;replace a:=a.cd (aaQ _);refine seq<|gJ<|Y a c 2 d d ?_;have a7:l≠F:=a.kY O.1;refine gP A.bd a (al a) (dS (a7) (bC) (bC) (O.2)) λH g am aj a=>gK (fy A.bd H l am o.toArray) aj (λi t G=>∃an ao,t=[some (a6 aw aA),some (a6 as bf),some (.ref l),some (.int v bh),an,ao]/\G=[]/\∀e∈Q.take i,jo e/\¬(e.1=1/\e.2>1)) a (el (none) (none) (rfl) (rfl) (λK f=>nomatch f)) ?_ ?_
  ·intro i aS K K g aJ aU a9 ba ay bc bd a;refine aE ?_;intro u;refine aV λaK M=>kb ba λan ao B ap ac=>a.ef B ap ?_;intro T bg a;refine M<|aV λaK M=>?_;(refine bp (ar.at (by simpa using a9)) λe ad B=>?_;obtain⟨az,bi,bj,rfl,aL⟩:=B);all_goals refine M ?_
   have ae:∀{t G k},N w h ((⟨ou.eg F [],s,.none true,.none⟩:aP).push (cs (fy (w:=w) A.bd H l am o.toArray) (i+1))) t G k->(¬jo e\/(e.1=1/\e.2>1))->aJ (.ret (.bool true)) k:=λa b=>bd _ _ (f true _ ⟨λK=>.inr (.inr (.inr (.inr (.inr (.inr (bF (e) (cx ad) (b))))))),λK=>rfl⟩ a.aS a.Z);refine qL a.bG.1.1<|kr A.bd a (du (_) (a.bc aL.1 bC aL.2) (rfl) ⟨_,rfl⟩) λa5 a K=>cp (bx a c 4 d d ?_);intro a5 T a;refine cp (bx a c 5 d d ?_);intro a5 T a;refine seq<|ifs<|hz<|cT<|Y a c 4 d d<|cg a λK g a=>oz (cn ?_);by_cases dT:e.1<1;case pos=>refine fi (decide_eq_true dT)<|d2<|seq<|b2<|i8<|ae a (.inl λC=>by have:=C.1;exact NY dT this)
   refine dN (decide_eq_false dT)<|aE ?_;intro u;refine hz<|cT<|Y a c 4 d d<|Y a c 5 d d<|iJ (cn ?_);by_cases af:e.1>e.2;case pos=>refine fi (decide_eq_true af)<|d2<|seq<|b2<|i8<|ae a (.inl λC=>by have:=C.2.1;exact NZ af this)
   refine dN (decide_eq_false af)<|hz<|cT<|Y a c 5 d d<|cg a λK g a=>iJ (cn ?_);by_cases ag:e.2>16;case pos=>refine fi (decide_eq_true ag)<|d2<|seq<|b2<|i8<|ae a (.inl λC=>by have:=C.2.2;exact N0 ag this)
   refine dN (decide_eq_false ag)<|hz<|oX<|cT<|Y a c 4 d d<|cg a λK g a=>qi (cn ?_);have C:jo e:=(bO (N1 dT) (O6 af) (Jd ag))
   (have aM:∀{t k},¬(e.1=1/\e.2>1)->t=[some (a6 aw aA),some (a6 as bf),some (.ref l),some (.int v bh),some (.int e.1 bi),some (.int e.2 bj)]->N w h ((⟨ou.eg F [],s,.none true,.none⟩:aP).push (cs (fy (w:=w) A.bd H l am o.toArray) (i+1))) t [] k->aJ .next k:=λaI J a=>bc _ _ _ (el (_) (_) (J) (rfl) (λbl aO=>by
    rw[hf,ad] at aO;rcases List.mem_append.mp aO with f|f
    ·exact ac bl f
    ·refine j (List.mem_singleton.mp f) ?_;exact⟨C,aI⟩)) a)
   by_cases ah:e.1=1;case neg=>refine dN (beq_int_false ah) (dw (no (dw (bv (bv (aM (λaq=>ah aq.1) d a))))))
   refine fi (beq_int_true ah)<|oX<|cT<|Y a c 5 d d<|cg a λY g a=>iJ (cn ?_);by_cases ai:e.2>1;case neg=>refine dN (decide_eq_false ai) (dw (no (dw (bv (bv (aM (λaq=>ai aq.2) d a))))))
   refine fi (decide_eq_true ai)<|Ec<|d2<|d2<|seq<|b2<|i8<|ae a (.inr ⟨ah,ai⟩)
  ·intro Y Y g bm a;refine aE ?_;intro u;refine aV λaK M=>?_;refine kb bm λan ao B ap ac=>?_;refine a.ef B ap ?_;intro T bg a;refine M<|bv<|seq<|b2<|i8<|f false _ ⟨(λJ=>nomatch J),λb=>?_⟩ a.aS a.Z;exfalso;have bn:Q.take o.toArray.size=Q:=j cN (j P (j h3 d));rw[bn] at ac;rcases b with b|b|b|b|b|b|⟨e,ad,b⟩
   ·exact nomatch aD.symm.trans b
   ·exact N2 W b
   ·exact X b
   ·exact Z b
   ·exact aa b
   ·exact ab b
   ·have:=ac e ad;rcases b with b|b
    ·exact b this.1
    ·exact this.2 b
theorem Zf{params:ph}{tg:List (al×x)}{r:eb->H->Prop}(a:N w h e I led s)(O:e.l.bL)(P:e.af.t=false)(z:x×x)(Q:e.D.code=.ref z.1)(m:z∈hM)(oy:s.heap.TableAt z.1 z.2 #[])(R:lv scope e.D=pure tg)(S:params.defaults=[])(T:params.kw_defaults=[])(U:annTrees params none e.D=[])(f:∀C c i ar u j doc k,i.data=.fields ar->ar[1]?=some (.str (qualnameIn e.D name name) u)->N w h e I ((C,fnMade name (qualnameIn e.D name name) params body scope tg doc ((pj (qc w.params h) "__name__").getD .none) c j)::(c,i)::led) k->
  aa w n (kK D name (.ref C)) (λC=>r .next) M k)(V:autoParam (D=e.D) b0):aa w n (g2 (.FunctionDef name params body [] none [] scope none name pos) D) r M s:=by
 subst V;refine⟨nestDef_K S T U<|bp (a.Z.tab z m) λW X l=>?_⟩;have Y:W=#[]:=by have Z:=l.2;have b:=oy.2;rw[Z] at b;injection b with b;injection b with _ _ b;injection b
 subst Y;have o:=CodeHd.of X l;have v:=i2 z m;have p:∀b:x,b∉cK->b≠z.2:=λb q ab=>q (ab▸v.2.2.1);refine makeFunction_K (mg:=pj (qc w.params h)) R O.kf a.Z.main Q o l.2 trivial d (p 3 .(1)) ⟨4,⟨.type "module",some 0,.plain,#[]⟩,(mg_of a.Z.l a.Z.main .(0)),.(1),.(1),(p 4 .(1)),(a.Z.l _ _ .(0)),rfl,rfl,rfl⟩ λc j doc y ac A B av E F=>aV λG g=>?_;(refine yi E λaw i ar u ad ae af ag=>?_;clear E);all_goals refine g ?_
 cases ad
 have K:CodeHd y z.1 z.2:=by
  refine aV λG g=>?_;(refine HK o λJ ar ah ai aj ak am an ao t ap=>?_;clear o);all_goals refine g ?_
  exact⟨J,ar,ah,ai,aj,ak,am,an,ao,A _ _ (p _ v.2.2.2) t,ap⟩
 have aq:N w h e I led {s with heap:=y,toks:=ac}:=a.ext P m A l (K.code F trivial) (K.tab F);have as:=a.p8 aq ae B (λq=>by
  refine aV λG g=>?_;(refine dM (a.b9 _ q) λW W W W L=>?_;(refine bo L λJ t=>?_;clear L));all_goals refine g ?_
  exact dn _ (cQ (cr t) B))
 have au:=as.alloc (J:=fnMade name (qualnameIn e.D name name) params body scope tg doc ((pj (qc w.params h) "__name__").getD .none) c j) d;exact(f _ c i ar u j doc _ af ag au).run
theorem N.kk(a:N w h e I led s)(y:e.aK.gens=#[])(q:e.af.t=false)(aO:gf w h [e.D] [] s k)(t:e.D.frame=some e.D.locals):N w h e I led k:=by
 have z:∀b,b≠e.D.locals->b∉gA [e.D]:=λb f i=>by rw[gA,jw,t] at i;exact f (List.mem_singleton.mp i)
 have j:∀b c,b∉cK->b≠e.D.locals->s.heap.get? b=some c->k.heap.get? b=some c:=λb c A f d=>aO.heap b c A (z b f) bC d;have B:∀b c,e.aK.heap.get? b=some c->b≠e.D.locals:=λb c d l=>by have:=a.cE.new;rw[l] at d;exact iH (d.symm.trans this)
 refine aV λC r=>kc a.ch λc D E F u G=>?_;all_goals refine r ?_
 refine⟨aO.Z,⟨λb c n g d=>j b c ?_ (B b c d) (a.aS.heap b c n g d),λo p H J=>?_,λS m d=>?_,λi=>?_,aO.os.trans a.aS.os,λi=>?_⟩,?_,?_,a.cE,λo p=>?_,a.dE,?_,λb f=>?_⟩
 ·rcases g with g|g
  ·exact g
  ·rw[q] at g;exact absurd g .(1)
 ·refine bo (a.aS.cK o p H J) λK L=>bo (aO.gp o p _ L) λM O=>⟨K++M,by refine be nH ?_;exact O⟩
 ·rw[y] at d;trivial
 ·rw[q] at i;exact absurd i .(1)
 ·rw[q] at i;exact absurd i .(1)
 ·exact e.af.eV _ _ (λb f c d=>j b c (gI (e.af.ge b f)) (λl=>a.cE.dc (l▸f)) d) a.b4
 ·(refine bo (aO.ch _ (by rw[gA,jw,t];exact .head _) bC a.cE.ge c F (λT l=>nomatch u.symm.trans l)) λU P=>?_);exact(iZ (_) (D) (E) (P) (u) (G))
 ·have m:=a.ld o p;exact⟨j _ _ (gI m.2.2.ge) m.2.1 m.1,m.2⟩
 ·exact e.hd.eV _ _ (λb f c d=>j b c (gI (a.b9 b f).2.2.2.1) (a.b9 b f).1 d) a.bG
 ·refine aV λC r=>?_;(refine dM (a.b9 b f) λn g Q v x=>?_;(refine bo x λc R=>?_;clear x));all_goals refine r ?_
  exact(cV (n) (g) (Q) (v) ⟨c,j b c (gI v) n R⟩)
theorem Zg{G:List Nat}(f:8<=G.length):Hy ⟨G.toArray⟩ none (some 8)=⟨(G.take 8).toArray⟩:=by
 have e:(⟨G.toArray⟩:al).length=G.length:=cN ..;have h:Hz none (some 8) 1 (⟨G.toArray⟩:al).length=Hz (some ((0:Nat):Int)) (some ((8:Nat):Int)) 1 (⟨G.toArray⟩:al).length:=by refine j e ?_;simp only[Hz];have c:max (0:Int) (min (0:Int) (G.length:Int))=0:=IK;rfl
 have i:=PySem.StrLaws.sliced_plain (⟨G.toArray⟩:al) (a:=0) (b:=8) .(1) (by refine j e ?_;exact f);have k:=PySem.StrLaws.strSliceIndices_plain (a:=0) (b:=8) (len:=(⟨G.toArray⟩:al).length) .(1) (by refine j e ?_;exact f);unfold Hy;refine j h (j i (j k ?_));split
 ·rename_i g;simp only[eG,xs,eH,beq_iff_eq] at g;have:G.length=8:=by refine be e ?_;exact N3 g
  exact j (nV (N4 this)) d
 ·rfl
theorem Zh{G:List Nat}(a:N w h e I led s)(b:8<=G.length)(i:G.length<=eI)(f:∀u k,N w h e I led k->r (ds (G.take 8) u) k):
 ({s with heap:=s.heap.push {cls:=.type "slice",data:=.fields #[.none,aj 8 S,.none]}}:H).TypeIs (ds G u) "str"/\aa w n (hG (ds G u) (.ref s.heap.objs.size)) r M {s with heap:=s.heap.push {cls:=.type "slice",data:=.fields #[.none,aj 8 S,.none]}}:=by
 have c:=(a.alloc (J:={cls:=.type "slice",data:=.fields #[.none,aj 8 S,.none]}) d).cd (cJ _ _);refine⟨nS _ _ _,⟨wpAny_getItem_str_slice (l:=none) (u:=some (8,S)) (st:=none) (du (_) (eX _ d) (rfl) (rfl)) d (post_val_or_str ⟨bZ (Txt.slice_le _ _ _) (by assumption),λg m=>?_⟩)⟩⟩;refine(?_:r (.str (Hy _ none (some 8)) g) _);refine j (Zg b)<|f _ _ c.a3
theorem Zi{G R:List Nat}(f:r (.bool (G !=R)) s):aa w n (f1 .NotEq (ds G u) (ds R S)) r M s:=⟨P.ne_str (by assumption)⟩
theorem Zj{C:Nat->Int}(a:N w h e I led s)(D:n.handled=none)(g:s.heap.IsList c O.toArray)(G:∀(m:Nat) (E:p),O[m]?=some E->∃u,E=.int (C m) u)(f:∀u k,N w h e I led k->r (.int (ju C O.length) u) k):aa w n (call (.builtin "sum") [.ref c]) r M s:=by
 have H:c≠s.heap.objs.size:=λb=>by(refine bp g λJ o W=>?_;clear g);exact dn _ (b▸cr o)
 refine⟨call_sum_walkG (xn g ?_)⟩;have l:=a.alloc (J:={cls:=.type "list_iterator",data:=.fields #[.ref c,.int 0 0]}) d;refine⟨s.heap.objs.size,[s.heap.objs.size,c],[s.heap.objs.size],_,_,_,C,rfl,(xo (A:=n.in1) D _ c H O.toArray),⟨⟨_,eX _ d,rfl,rfl⟩,g.push _⟩,(λq i=>?_),(λm E K=>G m E (by simpa using K)),(λt v P x=>?_)⟩
 ·simp only[dD,eR,or_false] at i;rw[hZ];rcases i with rfl|rfl
  ·exact qY _
  ·(refine bp g λJ o W=>?_;clear g);exact nE (cr o)
 ·have J:=l.ld _ aG;have L:N w h e I led {s with heap:=t,toks:=v}:=(l.cd (cJ _ _)).step (F:=[s.heap.objs.size]) (k:={s with heap:=t,toks:=v}) ⟨x,rfl,rfl,rfl⟩ (λq i=>by refine j (List.mem_singleton.mp i) ?_;exact J.2.2) (λb=>J.2.1 (List.mem_singleton.mp b).symm) d (λy z=>x _ _ (λb=>(List.nodup_cons.mp l.dE).1 (List.mem_map.mpr ⟨y,z,List.mem_singleton.mp b⟩)) (l.ld y (e3 _ z)).1) λq i b=>by have B:=l.b9 q i;rw[List.mem_singleton.mp b] at B;exact B.2.2.1 aG
  refine j cN<|f _ _ L
theorem Zk{b:x}{a:List p}{ns aw:List Int}(A:aR n q S)(d:64<=S)(e:s.heap.IsList c ar.toArray)(aW:IntsAre ar ns)(g:s.heap.IsList b a.toArray)(h:IntsAre a aw)(f:r (.bool (!decide (ns=aw))) s):aa w n (f1 .NotEq (.ref c) (.ref b)) r M s:=⟨ne_intsK e aW g h (by have:=A.units;refine(?_:n.units+64<9900);exact Kp d this) f⟩
noncomputable abbrev wR(w:aD):=strKind ff w
theorem Zl:h2 (.type "list") (.type "set")=pure false:=by rw[mv];kernel_rfl
theorem Zm:h2 (.type "list") (.type "frozenset")=pure false:=by rw[mv];kernel_rfl
theorem Zn{C:Nat->al}(a:N w h e I led s)(F:e.af.t=false)(G:n.handled=none)(g:s.heap.IsList c O.toArray)(ad:O.length+1<tL)(H:∀(m:Nat) (E:p),O[m]?=some E->∃u,E=.str (C m) u)(f:∀B J k,N w h e I ((B,J)::led) k->(∀ag:au,ag.get? B=some J->ag.SetOf (wR w) B (seen C O.length) (fT C O.length))->r (.ref B) k):aa w n (call (.type "set") [.ref c]) r M s:=by
 refine g4 (id g) λJ o K B=>?_;have L:c≠s.heap.objs.size:=λl=>by(refine bp g λJ i B=>?_;clear g);exact dn _ (l▸cr i)
 have P:c≠s.heap.objs.size+1:=λl=>by have q:=cr o;rw[l] at q;exact dn _ (Nat.lt_of_succ_lt q)
 refine⟨Ca (aO:=al) (f9:=wR w) o K Zl Zm .(1) λt=>?_⟩;have v:=a.alloc (J:={cls:=.type "set",dict:=none,data:=.set #[] 0 (.fresh 0 0 t)}) d;have Q:=v.alloc (J:={cls:=.type "list_iterator",data:=.fields #[.ref c,.int 0 0]}) d;have x:(s.heap.push {cls:=.type "set",dict:=none,data:=.set #[] 0 (.fresh 0 0 t)}).objs.size=s.heap.objs.size+1:=hZ ..;refine xn (g.push _) ?_;(refine(yt (_) ([_,c]) ([_]) (_) (_) (_) (_) (C) (rfl) ((xo (A:=n.in1.in1.in1) G _ c (by refine j x ?_;exact P) O.toArray).toS) (⟨⟨_,eX _ d,rfl,rfl⟩,(g.push _).push _⟩) (λb=>?_) (λm E ae R=>?_) (by assumption) (cM _ (eX _ d)) (λk S y=>?_)))
 ·simp only[dD,eR,or_false,x] at b;rcases b with b|b
  ·exact N5 b
  ·exact L b.symm
 ·obtain⟨u,rfl⟩:=H m E (by simpa using R);exact⟨strKind_is _ _ _ _,rfl⟩
 ·have T:=(Q.cd (cJ _ _)).cd (cJ _ _);have af:Apart e led s.heap.objs.size:=a.hP;have U:=(v.cd (cJ _ _)).hP;have V:=T.lV F S (λW b=>by
   refine ed b ?_ ?_
   ·exact a.hP
   ·exact U) (λc W i=>by refine j i ?_;exact⟨λW W=>rfl,λf=>f⟩)
  refine aV λah X=>?_;(refine h6 y λz Y Z ab ac D=>?_;clear y);all_goals refine X ?_
  refine f _ z _ (a.p8 V ac (c9 _) a.hP.hd) λag i=>?_;rw[cN] at D;exact(jA (z) (Y) (Z) (ab) (i) (D))
theorem Zo{B:x}{P:al->Bool}(a:N w h e I led s)(b:s.heap.SetOf (wR w) B P v)(f:∀u k,N w h e I led k->r (aj v u) k):aa w n (call (.builtin "len") [.ref B]) r M s:=by
 refine aV λp c=>?_;(refine pM b λq d t u g qF i y z j l m=>?_;clear b;obtain rfl:=m);all_goals refine c ?_
 have o:d.size<4096:=j;exact⟨call_len_set g qF i l (zp o) (f _ _ a.a3)⟩
theorem Ft(a:n.handled=none)(L G:x)(b:G≠L)(aM:Array p):eY w n L [L,G] [L] aM.size (λm E W=>aM[m]?=some E) (λm f=>f.IsTupleIter L G m/\f.IsTuple G aM):=
 ⟨k1.of (Walks.tuple a _ _ b aM),λg f ⟨⟨h,c,_⟩,⟨i,d,_⟩⟩ j e=>by
  refine ed e ?_ ?_
  ·exact⟨_,c⟩
  ·exact⟨_,d⟩⟩
theorem N.wS(a:N w h e I led s){o:List (Option p)}(c:N w h e o led k)(af:dq)(cY:∀b∈af.ae,b∈e.af.ae\/s.heap.get? b=none)(x:∀b∈e.af.ae,b∈af.ae)(l:af.t=true->e.af.t=true)(y:af.P k.heap):N w h (e.cO af) o led k:=by
 have q:∀i g,s.heap.get? i=some g->h9 e i->h9 (e.cO af) i:=λi g j d=>⟨d.new,d.ge,λm=>(cY i m).elim d.dc λn=>cz (n.symm.trans j)⟩;refine f4 a.ch λg C D z W=>⟨c.Z,⟨λb g A m j=>c.aS.heap b g (λf=>A (x b f)) (m.imp id l) j,c.aS.cK,c.aS.gens,λf=>c.aS.g6 (l f),c.aS.os,λf=>c.aS.e5 (l f)⟩,y,c.ch,q _ _ z a.cE,λr t=>?_,c.dE,c.bG,λb u=>?_⟩
 ·have d:=c.ld r t;exact(bO (d.1) (d.2.1) (q _ _ (a.ld r t).1 d.2.2))
 ·have d:=c.b9 b u;refine aV λE B=>?_;(refine dM (a.b9 b u) λW W W W v=>?_;(refine bo v λg j=>?_;clear v));all_goals refine B ?_
  (exact(bO (d.1) ((λf=>(cY b f).elim d.2.1 λn=>cz (n.symm.trans j))) (d.2.2)))
theorem gf.wT{s:H}(aO:gf w h aB ae s k)(f:∀b∈ae,s.heap.get? b=none):gf w h aB [] s k:=
 have d:∀b a,s.heap.get? b=some a->b∉ae:=λb a c e=>by rw[f b e] at c;exact cz c
 ⟨aO.Z,λb a g i W c=>aO.heap b a g i (d b a c) c,λb j W l a c m=>aO.ch b j (d b a c) l a c m,aO.gp,aO.os⟩
theorem Fu{α:Type}{P:p->α->Prop}{ah:List α}(f:bT P O ah){z:α}(o:ah[m]?=some z):∃E,O[m]?=some E/\P E z:=by have b:=f.len;have c:=(List.getElem?_eq_some_iff.mp o).1;refine bp (f.at (m:=m) (E:=O[m]'(pZ b c)) (da _)) λe a d=>?_;rw[o] at a;(obtain rfl:=dg a;clear a);exact(bF (_) (da _) (d))
noncomputable abbrev jp(ac:x):f5:=r7.eg ac (cl [y "opening",y "feed",y "given"] (ac+1) [])
noncomputable abbrev gg(ac:x):Env:=r7.D ac (cl [y "opening",y "feed",y "given"] (ac+1) [])
theorem Fv:∀c,c<16->∀b,b<16->jg.getD c 0=jg.getD b 0->c=b:=by decide
theorem Zp:∀c,c<4->∀b,b<4->l4.getD c 0=l4.getD b 0->c=b:=by decide
theorem Zq(m:Nat):m&&&15=m%16:=mx m 4
theorem Zr(m:Nat):m&&&3=m%4:=mx m 2
theorem wU(m:Nat):cv m=[jg.getD (m/64) 0,l4.getD (m/16%4) 0,jg.getD (m%16) 0]:=by unfold cv;rw[Zq,Zr]
theorem Zs{m a0:Nat}(aW:m<1024)(a:a0<1024)(f:cv m=cv a0):m=a0:=by rw[wU,wU] at f;injection f with b f;injection f with c f;injection f with d _;have e:=Fv _ (rN aW) _ (rN a) b;have g:=Zp _ ui _ ui c;have h:=Fv _ uj _ uj d;exact HZ e g h
theorem Fw:∀{G R:List Nat},(∀v∈G,v<1024)->(∀v∈R,v<1024)->G.map cv=R.map cv->G=R
 |[],[],_,_,_=>rfl
 |[],_::_,_,_,a=>nomatch a
 |_::_,[],_,_,a=>nomatch a
 |h::G,i::R,c,e,a=>by rw[dC,dC] at a;injection a with f g;exact j (Zs (c _ aG) (e _ aG) f) (j (Fw (λv b=>c v (.tail _ b)) (λv b=>e v (.tail _ b)) g) d)
theorem Fx:∀{G R:List (List Nat)},(∀i∈G,i.length=3)->(∀i∈R,i.length=3)->cL G=cL R->G=R
 |[],[],_,_,_=>rfl
 |[],[b],_,c,a=>by have:=c b aG;rw[show cL [b]=b from d] at a;rw[<-a] at this;exact absurd this .(1)
 |[],b::n::f,_,_,a=>nomatch (List.append_eq_nil_iff.mp (show b++32::cL (n::f)=[] from a.symm)).2
 |[i],[],e,_,a=>by have:=e i aG;rw[show cL [i]=i from d] at a;rw[a] at this;exact absurd this .(1)
 |i::b::f,[],_,_,a=>nomatch (List.append_eq_nil_iff.mp (show i++32::cL (b::f)=[] from a)).2
 |[i],[b],_,_,a=>j (show i=b from a) d
 |[i],b::n::f,e,c,a=>by
  have g:=e i aG;have h:=c b aG;have:i.length=(b++32::cL (n::f)).length:=congrArg kI a;rw[dZ,ec] at this
  lia
 |i::n::f,[b],e,c,a=>by
  have g:=e i aG;have h:=c b aG;have:(i++32::cL (n::f)).length=b.length:=congrArg kI a;rw[dZ,ec] at this
  lia
 |i::b::f,o::q::r,e,c,a=>by have g:=e i aG;have h:=c o aG;replace a:i++32::cL (b::f)=o++32::cL (q::r):=a;refine bE (List.append_inj a (j g (j h d))) λp k=>?_;injection k with _ k;exact j p (j (Fx (λl m=>e l (.tail _ m)) (λl m=>c l (.tail _ m)) k) d)
theorem Fy{t bV:a7}(a:t.bL)(b:bV.bL)(f:dk t=dk bV):t.bD=bV.bD/\t.cB=bV.cB:=by
 have i:=Fw (nk t) (nk bV) (Fx (λk c=>by(refine bp (List.mem_map.mp c) λl W e=>?_;obtain rfl:=e);rfl) (λk c=>by(refine bp (List.mem_map.mp c) λl W e=>?_;obtain rfl:=e);rfl) f);have m:(bH 2).map (de (hx t.bD t.gt t.bR t.cB t.mt) 2 10)=(bH 2).map (de (hx bV.bD bV.gt bV.bR bV.cB bV.mt) 2 10):=by rw[<-wE,<-wE,i]
 have n:=wB a.bD a.gt.2 a.bR.2 a.cB a.mt.2;have o:=wB b.bD b.gt.2 b.bR.2 b.cB b.mt.2;have p:hx t.bD t.gt t.bR t.cB t.mt=hx bV.bD bV.gt bV.bR bV.cB bV.mt:=by exact be (qN 2 _ n) (j m (j (qN 2 _ o) d))
 have g:=wD a.bD a.gt.2 a.bR.2 a.cB a.mt.2;have h:=wD b.bD b.gt.2 b.bR.2 b.cB b.mt.2;rw[p] at g;exact⟨g.1.symm.trans h.1,g.2.2.2.1.symm.trans h.2.2.2.1⟩
noncomputable def opening(v:Nat):List Nat:=cv (v/1024)++[32]++cv (v%1024)++[32]
theorem Zt{t:a7}(h:t.id<2^15)(i:t.o<16):(dk t).take 8=opening (fa t.id t.ext t.o):=by
 have a:=nl t;have c:=EZ t;unfold dk
 match b:fb t with
 |[]=>rw[b] at a;simp at a;lia
 |[_]=>rw[b] at a;simp at a;lia
 |[_,_]=>rw[b] at a;simp at a;lia
 |e::f::q::g=>
  rw[b] at c;have k:(bH 2).map (de (fa t.id t.ext t.o) 2 10)=[de (fa t.id t.ext t.o) 2 10 0,de (fa t.id t.ext t.o) 2 10 1]:=rfl;rw[k] at c;have d:[e,f]=[de (fa t.id t.ext t.o) 2 10 0,de (fa t.id t.ext t.o) 2 10 1]:=c;injection d with l d;injection d with m _;have n:=wA (ext:=t.ext) h i;have o:e=fa t.id t.ext t.o/1024:=by
   refine j l ?_;unfold de;refine(?_:_/2^10%2^10=_);have:(2:Nat)^10=1024:=by decide
   refine j this ?_;have:(1024:Nat)^2=1024*1024:=by decide
   exact IQ n
  have p:f=fa t.id t.ext t.o%1024:=by refine j m ?_;unfold de;refine(?_:_/2^0%2^10=_);rw[Nat.pow_zero,Nat.div_one]
  unfold opening;refine be o (be p ?_);cases g with
  |nil=>rfl
  |cons r g=>rfl
theorem Fz:∀{a:List (Nat×List a7)} {t:a7},(∀z∈a,z.1≠t.bD)->eP a t=a++[(t.bD,[t])]
 |[],_,_=>rfl
 |(c,d)::f,t,b=>by refine j (Zzn (b (c,d) aG)) (j (Fz λz e=>b z (.tail _ e)) ?_);rfl
theorem wV:∀{a:List (Nat×List a7)} {m:Nat} {G:List a7} {t:a7} {A:List (Nat×List a7)},(∀z∈a,z.1≠t.bD)->m=t.bD->eP (a++(m,G)::A) t=a++(m,if G.any (·.fd t) then G else G++[t])::A
 |[],m,G,t,A,_,b=>Zzp b
 |(c,d)::a,m,G,t,A,b,e=>by refine(?_:eP ((c,d)::(a++(m,G)::A)) t=_);refine j (Zzn (b (c,d) aG)) (j (wV (λz f=>b z (.tail _ f)) e) ?_);rfl
theorem FA{d:List (Nat×List a7)}{m:Nat}(g:∀z∈d,z.1≠m):∀(aU G:List a7),G≠[]->(∀t∈G++aU,t.bD=m)->(G++aU).Pairwise (λc b=>c.fd b=false)->aU.foldl eP (d++[(m,G)])=d++[(m,G++aU)]
 |[],G,_,_,_=>by refine j (nR ..) ?_;rfl
 |a::aU,G,n,e,f=>by
  have h:a.bD=m:=e a n0;have i:G.any (·.fd a)=false:=by refine List.any_eq_false.mpr ?_;intro c k;have:=(List.pairwise_append.mp f).2.2 c k a aG;refine j this ?_;exact iY
  (refine j fP (j (wV (by refine j h ?_;exact g) h.symm) (j i ?_)));refine j (if_neg iY) ?_;have l:G++a::aU=G++[a]++aU:=abk G a aU;rw[l] at e f⊢;exact FA g aU (G++[a]) (abl a G) e f
structure kC(ac:List (Nat×List a7)):Prop where
 wW:(ac.map (·.1)).Nodup
 fM:∀z∈ac,z.2≠[]/\(∀t∈z.2,t.bD=z.1)/\z.2.Pairwise (λc b=>c.fd b=false)
noncomputable def cS(ac:List (Nat×List a7)):List a7:=ac.flatMap (·.2)
theorem FC:∀(ac a:List (Nat×List a7)),((a++ac).map (·.1)).Nodup->(∀z∈ac,z.2≠[]/\(∀t∈z.2,t.bD=z.1)/\z.2.Pairwise (λc b=>c.fd b=false))->(cS ac).foldl eP a=a++ac
 |[],a,_,_=>by refine j (nR ..) ?_;rfl
 |(f,e)::ac,a,g,k=>by
  refine ek (k (f,e) aG) λo l p=>?_;have m:∀z∈a,z.1≠f:=λz h i=>by rw[g3] at g;exact(List.nodup_append.mp g).2.2 _ (fN h) _ aG i
  refine(?_:(e++cS ac).foldl eP a=_);refine j jv ?_;cases e with
  |nil=>exact absurd d o
  |cons t e=>have n:t.bD=f:=l t aG;(refine j fP (j (Fz (by refine j n ?_;exact m)) (j n (j (FA m e [t] nofun l p) ?_))));have i:a++(f,t::e)::ac=a++[(f,[t]++e)]++ac:=abk a (f,t::e) ac;refine j i ?_;rw[show a++(f,t::e)::ac=a++[(f,[t]++e)]++ac from by assumption] at g;exact FC ac _ g λz h=>k z (.tail _ h)
theorem kC.kD{ac:List (Nat×List a7)}(f:kC ac):eE (cS ac)=ac:=FC ac [] f.wW f.fM
theorem Zu(t:a7):t.fd t=true:=by simp[a7.fd]
theorem kC.Zv{ac:List (Nat×List a7)}(f:kC ac){t:a7}(g:t∈cS ac):eE (cS ac++[t])=ac:=by unfold eE;refine j jv<|j (show(cS ac).foldl eP []=ac from f.kD)<|bp (List.mem_flatMap.mp g) λa b c=>?_;(refine eJ (List.append_of_mem b) λh i k=>?_;obtain rfl:=k);have d:=f.wW;have e:=(f.fM a b).2.1 t c;rw[g3,dC] at d;refine(?_:eP (h++(a.1,a.2)::i) t=_);refine j (wV (λo l m=>(List.nodup_append.mp d).2.2 _ (fN l) _ aG (m.trans e)) e.symm)<|j (show(a.2.any λn=>n.fd t)=true from List.any_eq_true.mpr (bF (t) (c) (Zu t))) ?_;rfl
theorem th(n B:List (Nat×List a7)):cS (n++B)=cS n++cS B:=aa4
theorem ti(z:Nat×List a7)(B:List (Nat×List a7)):cS (z::B)=z.2++cS B:=aa5
def FD(ac:List (Nat×List a7))(at':Nat):Prop:=∃n m a t b c,ac=n++(m,a++t::b)::c/\(cS ac).take at'=cS n++a/\(cS ac).drop (at'+1)=b++cS c/\(cS ac)[at']?=some t
theorem Zw{ac:List (Nat×List a7)}:∀{at':Nat},at'<(cS ac).length->FD ac at':=by
 induction ac with
 |nil=>exact λc=>absurd c (tY _)
 |cons f ac g=>
  intro at' c;obtain⟨e,a⟩:=f;unfold FD;rw[ti] at c⊢;rcases gB at' a.length with b|b
  ·refine(pO ([]) (e) (a.take at') (a[at']) (a.drop (at'+1)) (ac) (?_) (?_) (?_) (?_))
   ·refine(?_:_::_=_::_);rw[<-Hc b,rl]
   ·refine j (rn (hD b)) ?_;rfl
   ·exact j (Hm b) d
   ·exact j (pD b) (j (da b) d)
  ·rw[dZ] at c;have h:at'-a.length<(cS ac).length:=by show at'-a.length<_;have:(a++cS ac).length=a.length+(cS ac).length:=dZ;dsimp only at c;exact IV c b
   refine aV λu i=>yn (g h) λk l m n o p q r s t=>?_;all_goals refine i ?_
   (refine(pO ((e,a)::k) (l) (m) (n) (o) (p) (by refine j q ?_;rfl) (?_) (?_) (?_)))
   ·rw[ti,lH,<-r,List.take_append];refine(?_:a.take at'++_=a++_);exact j (nV b) d
   ·refine be s<|j aaT<|(?_:a.drop (at'+1)++_=_);rw[Hn (ml b),ix,Nat.succ_sub b]
   ·refine j (pE b) ?_;exact t
theorem kC.sS{n B:List (Nat×List a7)}{m:Nat}{a b:List a7}{t:a7}(f:kC (n++(m,a++t::b)::B)):a++b=[]/\kC (n++B)/\cS (n++B)=(cS n++a)++(b++cS B)\/kC (n++(m,a++b)::B)/\cS (n++(m,a++b)::B)=(cS n++a)++(b++cS B):=by
 have e:=f.wW;have h:(a++b).Sublist (a++t::b):=List.Sublist.append (ka _) (cJ _ _);by_cases g:a++b=[]
 ·refine .inl (bO (g) (⟨?_,λd c=>f.fM d (by rcases List.mem_append.mp c with t|t<;>simp[t])⟩) (?_))
  ·refine List.Nodup.sublist ?_ e;exact((ka _).append (cJ _ _)).map _
  ·obtain⟨rfl,rfl⟩:=List.append_eq_nil_iff.mp g;refine j (th ..) ?_;simp
 ·refine .inr ⟨⟨?_,λd c=>?_⟩,?_⟩
  ·rw[g3,dC] at e⊢;exact e
  ·rcases List.mem_append.mp c with c|c
   ·exact f.fM d (cU _ c)
   ·rcases List.mem_cons.mp c with rfl|c
    ·refine ek (f.fM (m,a++t::b) n0) λW i k=>(bO (g) (λl o=>i l (h.subset o)) (k.sublist h))
    ·exact f.fM d (by simp[c])
  ·refine j (th ..) (j (ti ..) ?_);simp
section
structure dm(aw as:List UInt8)(Q:List (Int×Int))(gt o:Nat)(ext:Bool)(id:Nat)(ah:List (Nat×List UInt8))(bg:List (List a7)):Prop where
 wX:16<=aw.length
 tj:aw.length<=20
 oU:aw.length%2=0
 S0:as.length<=3
 wY:o<16
 o6:1<=gt
 mf:gt<=Q.length
 la:Q.length<=3
 Zx:ju (λm=>(Q.getD m (0,0)).2) Q.length<=3
 g:∀z∈Q,jo z/\z.1<=3/\¬(z.1=1/\z.2>1)
 wZ:id<2^15
 oW:jU gt Q.length (encOf aw as o id ext) ah
 w0:lf ⟨id,ext,o,encOf aw as o id ext⟩ gt Q.length Q ah Q.length bg
variable{aw as:List UInt8}{Q:List (Int×Int)}{gt o id:Nat}{ext:Bool}{ah:List (Nat×List UInt8)}{bg:List (List a7)}
theorem dm.at(B:dm aw as Q gt o ext id ah bg){m:Nat}(aW:m<Q.length):∃z c bm,Q[m]?=some z/\ah[m]?=some c/\c.1=m/\c.2.length=aw.length/\jU z.1.toNat z.2.toNat c.2 bm/\bg[m]?=some (bm.map (qK ⟨id,ext,o,encOf aw as o id ext⟩ m gt Q.length z.1.toNat))/\bm.length=z.2.toNat/\(∀(a0:Nat) A,bm[a0]?=some A->A.1=a0/\A.2.length=aw.length)/\1<=z.1.toNat/\z.1.toNat<=z.2.toNat/\z.2.toNat<=16:=by
 have a:=s1 (as:=as) (o:=o) (id:=id) (ext:=ext) B.oU;have f:=B.wX;have g:=B.tj;have h:=B.la;have i:=B.mf;have k:=B.oW.val (zD h i) i (ob h) (N6 a f) (N7 a g);have l:Q[m]?=some Q[m]:=da aW;have e:ah[m]?=some (ah[m]'(by refine j k.1 ?_;exact aW)):=da _;have n:bg[m]?=some (bg[m]'(by refine j B.w0.len ?_;exact aW)):=da _;refine bp (B.w0.fM m _ _ _ l e n) λbm p t=>?_;have b:=k.2 m _ e;obtain⟨⟨u,q,r⟩,v,x⟩:=B.g _ (j9 aW);have s:=p.val (y1 v) (rC q) (ux r) (Lk a f b) (N8 a g b);refine⟨_,_,bm,l,e,b.1,N9 a b,p,?_,s.1,(λa0 A w=>?_),uq u,rC q,zx r⟩
 ·exact j n (j t (j b.1 d))
 ·have:=s.2 a0 A w;exact⟨this.1,by exact Oa a b this⟩
theorem dm.jZ(B:dm aw as Q gt o ext id ah bg):bg.length=Q.length:=B.w0.len
theorem dm.len(B:dm aw as Q gt o ext id ah bg){m:Nat}{J:List a7}(f:bg[m]?=some J):(J.length:Int)=(Q.getD m (0,0)).2:=by
 have c:m<Q.length:=by refine be B.jZ ?_;exact(List.getElem?_eq_some_iff.mp f).1
 refine aV λk d=>t7 (B.at c) λb l n e p q r s a g t h i u=>?_;all_goals refine d ?_
 rw[f] at a;(obtain rfl:=(dg a).symm;clear a);refine j (eG ..) (j g (j dY (j e ?_)));refine(?_:(b.2.toNat:Int)=b.2);exact KL h i
theorem dm.pre(B:dm aw as Q gt o ext id ah bg):∀l,l<=Q.length->((bg.take l).flatten.length:Int)=ju (λm=>(Q.getD m (0,0)).2) l
 |0,_=>by refine j Hl ?_;rfl
 |l+1,a=>by
  have c:l<bg.length:=by refine j B.jZ ?_;exact a
  have b:bg[l]?=some bg[l]:=da c;refine j hf<|j b<|j x7<|j dZ<|(?_:((_+(bg[l]++[]).length:Nat):Int)=ju _ l+_);refine j (nR ..)<|be (B.pre l (rK a))<|(?_:_=_+(Q.getD l (0,0)).2);refine be (B.len b) ?_
  push_cast
  rfl
theorem dm.cj(B:dm aw as Q gt o ext id ah bg):bg.flatten.length<=3:=by have:=B.pre Q.length (c9 _);rw[<-B.jZ,h3,B.jZ] at this;have:=B.Zx;exact Lj (by assumption) this
theorem w1{α:Type}:∀{ac:List (List α)} {J:List α},J∈ac->J.length<=ac.flatten.length
 |J::ac,_,.head _=>by refine j GH (j dZ ?_);exact uQ
 |b::ac,J,.tail _ a=>by refine j GH (j dZ ?_);have:=w1 a;exact Ob this
theorem dm.sX(B:dm aw as Q gt o ext id ah bg){J:List a7}(f:J∈bg):J.length<=3:=bZ (w1 f) B.cj
theorem dm.g9(B:dm aw as Q gt o ext id ah bg){m:Nat}{J:List a7}(f:bg[m]?=some J){a0:Nat}{t:a7}(a:J[a0]?=some t):t.bL/\t.id=id/\t.ext=ext/\t.o=o/\t.bD=m/\t.gt=gt/\t.bR=Q.length/\t.cB=a0/\t.mt=(Q.getD m (0,0)).1.toNat/\t.E.length=aw.length:=by
 have h:m<Q.length:=by refine be B.jZ ?_;exact(List.getElem?_eq_some_iff.mp f).1
 have i:=B.o6;have k:=B.mf;have d:=B.la;have p:=B.tj;refine aV λA q=>t7 (B.at h) λl C r s D E F G e u v w x n=>?_;all_goals refine q ?_
 rw[f] at e;(obtain rfl:=(dg e).symm;clear e);rw[dR] at a;cases b:r[a0]? with
 |none=>rw[b] at a;exact cz a
 |some g=>
  rw[b] at a;(obtain rfl:=dg a;clear a);have c:=v a0 g b;have y:=(List.getElem?_eq_some_iff.mp b).1;have z:Q.getD m (0,0)=l:=by refine j dY (j s ?_);rfl
  (refine⟨(⟨B.wZ,B.wY,by refine(?_:m<16);exact Oc h d,⟨i,by refine(?_:gt<=16);exact uO k d⟩,⟨by refine(?_:1<=Q.length);exact Od i k,by refine(?_:Q.length<=16);exact Lv d⟩,by refine(?_:g.1<16);exact Kg u n c y,⟨w,by refine(?_:l.1.toNat<=16);exact Oe x n⟩,by refine(?_:g.2.length<=32);exact Of p c⟩),rfl,rfl,rfl,rfl,rfl,rfl,c.1,(by refine j z ?_;rfl),c.2⟩)
theorem dm.Zy(B:dm aw as Q gt o ext id ah bg):bg.flatten.Pairwise (λc b=>dk c≠dk b):=by
 refine List.pairwise_flatten.mpr<|⟨λp j=>?_,?_⟩
 ·refine bo (fr j) λq i=>?_;refine List.pairwise_iff_getElem.mpr ?_;intro c b e f g h;have a:=B.g9 i (da e);have d:=B.g9 i (da f);have:=(Fy a.1 d.1 h).2;rw[a.2.2.2.2.2.2.2.1,d.2.2.2.2.2.2.2.1] at this;exact zE g this
 ·refine List.pairwise_iff_getElem.mpr<|λc b e f g r k s l h=>bo (fr k) λt m=>?_;refine bo (fr l) λu n=>?_;have a:=B.g9 (da e) m;have d:=B.g9 (da f) n;have:=(Fy a.1 d.1 h).1;rw[a.2.2.2.2.1,d.2.2.2.2.1] at this;exact zE g this
theorem dm.ZA(B:dm aw as Q gt o ext id ah bg){t:a7}(f:t∈bg.flatten):(dk t).take 8=opening (fa id ext o):=by refine bp (List.mem_flatten.mp f) λl b c=>bo (fr b) λm e=>?_;refine bo (fr c) λn g=>?_;refine dM (B.g9 e g) λa h i k W=>j (Zt a.id a.o) (j h (j i (j k d)))
noncomputable def ea(Q:List (Int×Int))(bg:List (List a7))(c l:Nat):List (Nat×List a7):=(bH l).map λa=>(c+a,(bg.getD (c+a) []).take (Q.getD (c+a) (0,0)).1.toNat)
theorem FE(c l:Nat):ea Q bg c (l+1)=ea Q bg c l++[(c+l,(bg.getD (c+l) []).take (Q.getD (c+l) (0,0)).1.toNat)]:=by unfold ea;refine j h1 (j g3 ?_);rfl
theorem w2{c l:Nat}{z:Nat×List a7}(f:z∈ea Q bg c l):∃a0,a0<l/\z=(c+a0,(bg.getD (c+a0) []).take (Q.getD (c+a0) (0,0)).1.toNat):=by
 (refine bp (List.mem_map.mp f) λa0 a b=>?_;obtain rfl:=b);exact(bF (a0) (List.mem_range.mp a) (rfl))
theorem o7(c l:Nat):(ea Q bg c l).length=l:=by unfold ea;simp
theorem dm.kD(B:dm aw as Q gt o ext id ah bg){c a0:Nat}(f:c+a0<Q.length):∃J,bg[c+a0]?=some J/\bg.getD (c+a0) []=J/\(J.take (Q.getD (c+a0) (0,0)).1.toNat).length=(Q.getD (c+a0) (0,0)).1.toNat/\1<=(Q.getD (c+a0) (0,0)).1.toNat/\(∀t∈J.take (Q.getD (c+a0) (0,0)).1.toNat,∃m:Nat,J[m]?=some t)/\(J.take (Q.getD (c+a0) (0,0)).1.toNat).Pairwise (λi ai=>i.fd ai=false):=by
 have b:bg[c+a0]?=some (bg[c+a0]'(by refine j B.jZ ?_;exact f)):=da _;have d:=B.len b;have k:Q.getD (c+a0) (0,0)=Q[c+a0]:=by refine j dY (j (da f) ?_);rfl
 (refine bE (B.g _ (j9 f)) λe W=>?_;(refine ek e λl n v=>?_;clear e));rw[k] at d⊢;(refine⟨_,b,(by refine j dY (j b ?_);rfl),(by refine j iC ?_;exact Jv d n),uq l,(λt p=>fr (mz p)),?_⟩);refine List.pairwise_iff_getElem.mpr ?_;intro i ai q r s;have g:∀a (h:a<((bg[c+a0]'(by refine j B.jZ ?_;exact f)).take Q[c+a0].1.toNat).length),(((bg[c+a0]'(by refine j B.jZ ?_;exact f)).take Q[c+a0].1.toNat)[a]).cB=a:=λa h=>by have u:=h;rw[iC] at u;have:=B.g9 b (a0:=a) (t:=((bg[c+a0]'(by refine j B.jZ ?_;exact f)).take Q[c+a0].1.toNat)[a]) (by refine j List.getElem_take ?_;exact da _);exact this.2.2.2.2.2.2.2.1
 unfold a7.fd;refine j (g i q) (j (g ai r) ?_);have:(i==ai)=false:=by simp;exact Og s
 rw[this,xZ]
theorem dm.FF(B:dm aw as Q gt o ext id ah bg){c l:Nat}(f:c+l<=Q.length):kC (ea Q bg c l):=by
 refine⟨?_,λu d=>?_⟩
 ·unfold ea;refine j nN<|List.pairwise_map.mpr (aah (λf o=>f (xa o)) Gy)
 ·(refine bp (w2 d) λa0 e g=>?_;refine j g ?_);refine aV λv h=>n3 (B.kD (c:=c) (a0:=a0) (yU f e)) λb i k m n p q=>?_;all_goals refine h ?_
  refine j k ?_
  (refine(bO (λa=>by
   have r:(b.take (Q.getD (c+a0) (0,0)).1.toNat).length=0:=by refine j (show b.take (Q.getD (c+a0) (0,0)).1.toNat=[] from a) ?_;rfl
   exact zF m n r) (λa s=>?_) (q)))
  refine bo (p a s) λw t=>(B.g9 i t).2.2.2.2.1
theorem dm.mem(B:dm aw as Q gt o ext id ah bg){c l:Nat}(f:c+l<=Q.length){t:a7}(e:t∈cS (ea Q bg c l)):t.bL/\t.id=id/\t.ext=ext/\t.o=o/\t.gt=gt/\t.bR=Q.length/\t.mt=(Q.getD t.bD (0,0)).1.toNat/\t.E.length=aw.length:=by
 refine bp (List.mem_flatMap.mp e) λC g b=>?_;(refine bp (w2 g) λa0 h i=>?_;obtain rfl:=i);refine aV λk a=>n3 (B.kD (c:=c) (a0:=a0) (yU f h)) λD m n E F p G=>?_;all_goals refine a ?_
 rw[n] at b;refine bo (p t b) λH q=>aV λk a=>yc (B.g9 m q) λr s u v w x y I z A=>?_;all_goals refine a ?_
 exact(mI (r) (s) (u) (v) (x) (y) (j w (j z d)) (A))
theorem ZB(B:dm aw as Q gt o ext id ah bg){c l:Nat}:c+l<=Q.length->(cS (ea Q bg c l)).length<=(bg.take (c+l)).flatten.length:=by
 induction l with
 |zero=>exact λW=>e2 _
 |succ l d=>intro a;refine n3 (B.kD (c:=c) (a0:=l) (Oh a)) λb e f g h i k=>j (FE ..) (j (th ..) (j dZ ?_));rw[<-mj,hf,e,x7,dZ,f];refine qW (d (Oi a)) ?_;show(b.take _++[]).length<=(b++[]).length;refine j (nR ..)<|j (nR ..)<|List.length_take_le' ..
theorem dm.tk(B:dm aw as Q gt o ext id ah bg){c l:Nat}(f:c+l<=Q.length):(cS (ea Q bg c l)).length<=3:=by
 refine bZ (ZB B f) (bZ ?_ B.cj);have:bg.flatten=(bg.take (c+l)).flatten++(bg.drop (c+l)).flatten:=by rw[<-x7,rl]
 refine j this<|j dZ<|uQ
end
section
variable{aw as:List UInt8}{Q:List (Int×Int)}{gt o id:Nat}{ext:Bool}{ah:List (Nat×List UInt8)}{bg:List (List a7)}
noncomputable def ha(id:Nat)(ext:Bool)(o gt bR:Nat):a7:=⟨id,ext,o,0,gt,bR,0,0,[]⟩
theorem dm.FG(B:dm aw as Q gt o ext id ah bg){c l:Nat}(f:c+l<=Q.length){bm:List a7}(b:∀t∈bm,t∈cS (ea Q bg c l))(q:bm≠[])(r:bm.length<=20):nv (ha id ext o gt Q.length) bm:=by
 have D:=B.o6;have s:=B.mf;have E:=B.la;have u:=B.wX;have v:=B.oU;refine⟨λt a=>?_,λt a=>?_,λt a w x o=>?_,List.length_pos_iff.mpr q,r⟩
 ·refine aV λy e=>mH (B.mem f (b t a)) λk m n p g h z i=>?_;all_goals refine e ?_
  (exact(dS (k) (by refine j g (j h ?_);exact s) (by refine j i ?_;exact v) (by refine j i ?_;exact u)))
 ·refine aV λy e=>mH (B.mem f (b t a)) λk m n p g h z i=>?_;all_goals refine e ?_
  exact⟨m.symm,n.symm,p.symm,g.symm,h.symm⟩
 ·have A:=(B.mem f (b t a)).2.2.2.2.2.2.1;have C:=(B.mem f (b w x)).2.2.2.2.2.2.1;exact j A (j C (j o d))
theorem dm.wP(B:dm aw as Q gt o ext id ah bg){c l:Nat}(f:c+l<=Q.length){t:a7}(a:t∈cS (ea Q bg c l)):(ha id ext o gt Q.length).qP t/\t.bL:=by
 refine aV λk b=>mH (B.mem f a) λd e g h i j m n=>?_;all_goals refine b ?_
 exact⟨⟨e.symm,g.symm,h.symm,i.symm,j.symm⟩,d⟩
theorem dm.FH(B:dm aw as Q gt o ext id ah bg){c l:Nat}(f:c+l<=Q.length){ac:List (Nat×List a7)}(d:ac≠[])(e:ac.length<=20)(a:∀z∈ac,z.2≠[]/\z.2.length<=20/\∀t∈z.2,t∈cS (ea Q bg c l)):md (ha id ext o gt Q.length) ac:=by have g:=B.mf;have h:=B.la;(exact⟨d,e,λz b=>(bO ((a z b).1) ((a z b).2.1) (λt i=>B.wP f ((a z b).2.2 t i))),by refine(?_:gt<=16);exact uO g h⟩)
theorem w3{ac:List (Nat×List a7)}{z:Nat×List a7}(a:z∈ac){t:a7}(b:t∈z.2):t∈cS ac:=List.mem_flatMap.mpr ⟨z,a,b⟩
theorem FI{ac:List (Nat×List a7)}{z:Nat×List a7}(a:z∈ac):z.2.length<=(cS ac).length:=by unfold cS;refine j List.flatMap_def<|w1 (fN a)
theorem w4{G:List a7}{v:Nat}(a:G≠[])(f:∀t∈G,t.mt=v):hV G=v:=by
 cases G with
 |nil=>exact absurd d a
 |cons t G=>exact f t aG
theorem FJ:∀{ac:List (Nat×List a7)} {bm:List (Nat×List UInt8)},ac.length=bm.length->(∀(a0:Nat) (g:Nat×List a7) (z:Nat×List UInt8),ac[a0]?=some g->bm[a0]?=some z->z.1=g.1/\l8 (hV g.2) (g.2.map λt=>(t.cB,t.E)) z.2/\z.2.length<=100)->ll ac bm
 |[],[],_,_=>trivial
 |(f,h)::ac,z::bm,c,a=>by have b:=a 0 _ _ d d;exact(dS (b.1) (b.2.1) (b.2.2) (FJ (nD (abm (id (nD c)))) λa0 g e i j=>a (a0+1) g e (by assumption) (by assumption)))
 |[],_::_,a,_=>by trivial
 |_::_,[],a,_=>by trivial
theorem dm.FK(B:dm aw as Q gt o ext id ah bg):nu (ha id ext o gt Q.length) (ea Q bg (Q.length-gt) gt) (encOf aw as o id ext):=by
 have G:=B.o6;have b:=B.mf;have w:=B.la;have x:=B.wX;have h:=B.tj;have i:=s1 (as:=as) (o:=o) (id:=id) (ext:=ext) B.oU;have H:=B.oW.val (uE b w) b (ob w) (pY x i) (uA h i);have mt:∀a0,a0<gt->∀k,k=(Q.length-gt+a0,(bg.getD (Q.length-gt+a0) []).take (Q.getD (Q.length-gt+a0) (0,0)).1.toNat)->hV k.2=(Q.getD (Q.length-gt+a0) (0,0)).1.toNat:=λa0 a k e=>by
  refine j e<|aV λC l=>n3 (B.kD (c:=Q.length-gt) (a0:=a0) (rF b a)) λJ q n p f r s=>?_;all_goals refine l ?_
  refine j n<|w4 (λg=>?_) λg I=>?_
  ·have y:(J.take (Q.getD (Q.length-gt+a0) (0,0)).1.toNat).length=0:=by refine j (show J.take (Q.getD (Q.length-gt+a0) (0,0)).1.toNat=[] from g) ?_;rfl
   exact zF p f y
  ·refine bo (r g I) λm K=>(B.g9 q K).2.2.2.2.2.2.2.2.1
 refine(bO (o7 _ _) (λk e=>?_) (du ((ah.drop (Q.length-gt)).take gt) (FJ ?_ λa0 D k t e=>?_) (?_) (zN h i)))
 ·(refine bp (w2 e) λa0 a L=>?_;refine j L ?_);refine aV λC l=>n3 (B.kD (c:=Q.length-gt) (a0:=a0) (rF b a)) λJ q n p f r s=>?_;all_goals refine l ?_
  refine j (mt a0 a _ d)<|j n<|p
 ·refine j (o7 ..) (j iC (j tT (j H.1 ?_)));show gt=min gt _;exact II b
 ·have a:a0<gt:=by have:=(List.getElem?_eq_some_iff.mp t).1;rwa [o7] at this
  have z:D=(Q.length-gt+a0,(bg.getD (Q.length-gt+a0) []).take (Q.getD (Q.length-gt+a0) (0,0)).1.toNat):=by unfold ea at t;rw[dR,nY a] at t;exact(dg t).symm
  refine aV λC l=>t7 (B.at (m:=Q.length-gt+a0) (rF b a)) λA R E q n p f r s M S y N T=>?_;all_goals refine l ?_
  rw[List.getElem?_take,if_pos a,List.getElem?_drop,n] at e;(obtain rfl:=(dg e).symm;clear e);have O:Q.getD (Q.length-gt+a0) (0,0)=A:=by refine j dY (j q ?_);rfl
  refine(bO (j z (j p d)) (?_) (zN h f));refine j (mt a0 a D z)<|j z<|j O (j dY (j s ?_));refine(?_:l8 _ (((E.map _).take _).map _) _);refine be Hk (j nN ?_);have om:(λg:a7=>(g.cB,g.E))∘qK ⟨id,ext,o,encOf aw as o id ext⟩ (Q.length-gt+a0) gt Q.length A.1.toNat=λP=>P:=rfl;refine j om (j (List.map_id' ..) ?_);have F:=B.sX (J:=E.map (qK ⟨id,ext,o,encOf aw as o id ext⟩ (Q.length-gt+a0) gt Q.length A.1.toNat)) (cx s);rw[eG] at F;have:=EW (c:=0) r y (Lo N) (Oj M F) (pY x f) (uA h f)
  rwa [xP] at this
 ·exact EW (u:=gt) (v:=Q.length) (c:=Q.length-gt) B.oW G (rE b) w (pY x i) (uA h i)
theorem dm.FL(B:dm aw as Q gt o ext id ah bg){bm:List a7}(f:bm=cS (ea Q bg (Q.length-gt) gt)\/∃t∈cS (ea Q bg (Q.length-gt) gt),bm=cS (ea Q bg (Q.length-gt) gt)++[t]):
 nv (ha id ext o gt Q.length) bm/\md (ha id ext o gt Q.length) (eE bm)/\nu (ha id ext o gt Q.length) (eE bm) (encOf aw as o id ext):=by
 have l:=B.o6;have m:=B.mf;have n:=B.la;have c:Q.length-gt+gt<=Q.length:=rE m;have d:=B.FF c;have e:=B.tk c;have i:ea Q bg (Q.length-gt) gt≠[]:=λt=>by have:=o7 (Q:=Q) (bg:=bg) (Q.length-gt) gt;rw[t] at this;simp at this;exact Ok l this
 have p:cS (ea Q bg (Q.length-gt) gt)≠[]:=λt=>by refine eJ (List.exists_cons_of_ne_nil i) λg s o=>?_;have:=(d.fM g (by refine j o ?_;exact .head _)).1;rw[o,ti] at t;exact this (List.append_eq_nil_iff.mp t).1
 have q:eE bm=ea Q bg (Q.length-gt) gt:=by
  rcases f with rfl|⟨t,a,rfl⟩
  ·exact d.kD
  ·exact d.Zv a
 have r:∀t∈bm,t∈cS (ea Q bg (Q.length-gt) gt):=λu b=>by
  rcases f with rfl|⟨t,a,rfl⟩
  ·exact b
  ·rcases List.mem_append.mp b with b|b
   ·exact b
   ·refine j (List.mem_singleton.mp b) ?_;exact a
 have k:bm≠[]/\bm.length<=20:=by
  rcases f with rfl|⟨t,a,rfl⟩
  ·exact⟨p,by exact Ol e⟩
  ·exact⟨by exact abl t (cS (ea Q bg (Q.length-gt) gt)),by refine j dZ (j t1 ?_);exact Om e⟩
 refine j q ?_;(exact(bO (B.FG c r k.1 k.2) (B.FH c i (by refine j (o7 ..) ?_;exact Kb n c) λg h=>(bO ((d.fM g h).1) (by have:=FI h;exact zD e this) (λt a=>w3 h a))) (B.FK)))
theorem dm.short(B:dm aw as Q gt o ext id ah bg){at':Nat}(F:at'<(cS (ea Q bg (Q.length-gt) gt)).length){bm:List a7}(f:bm=(cS (ea Q bg (Q.length-gt) gt)).take at'++(cS (ea Q bg (Q.length-gt) gt)).drop (at'+1)):
 bm=[]\/nv (ha id ext o gt Q.length) bm/\md (ha id ext o gt Q.length) (eE bm)/\jX (ha id ext o gt Q.length) (eE bm):=by
 have W:=B.o6;have G:=B.mf;have x:=B.la;have h:Q.length-gt+gt<=Q.length:=rE G;have p:=B.FF h;have H:=B.tk h;by_cases q:bm=[]
 ·exact .inl q
 refine .inr ?_;have y:bm.length<=20:=by refine j f (j dZ (j iC (j tT ?_)));exact H2 H
 have A:∀t∈bm,t∈cS (ea Q bg (Q.length-gt) gt):=λe a=>by
  rw[f] at a;rcases List.mem_append.mp a with a|a
  ·exact mz a
  ·exact List.mem_of_mem_drop a
 have C:=B.FK.2.1;have i:=o7 (Q:=Q) (bg:=bg) (Q.length-gt) gt;refine aV λX I=>yn (Zw F) λY g b t c Z r J K aa=>?_;all_goals refine I ?_
 rw[J,K] at f;rw[r] at C;have L:=B.FG h A q y;have bv:∀k,kC k->cS k=bm->k.length<=20->jX (ha id ext o gt Q.length) k->nv (ha id ext o gt Q.length) bm/\md (ha id ext o gt Q.length) (eE bm)/\jX (ha id ext o gt Q.length) (eE bm):=λk D m M N=>by
  have O:eE bm=k:=by refine be m ?_;exact D.kD
  refine j O ?_;(refine(bO (L) (B.FH h (λt=>q ?_) M λz s=>(bO ((D.fM z s).1) (?_) (λe a=>A e (by refine be m ?_;exact w3 s a)))) (N)))
  ·refine be m (j t ?_);rfl
  ·have:=FI s;rw[m] at this;exact On y this
 rw[r] at i p;rw[dZ,ec] at i;rcases p.sS with l|l
 ·(refine ek l λay n u=>?_;clear l);exact bv _ n (u.trans f.symm) (by refine j dZ ?_;exact J9 x h i) (.inl (by refine j dZ ?_;refine(?_:_<gt);exact uv i))
 ·(refine bE l λn u=>?_;clear l);refine bv _ n (u.trans f.symm) (by refine j dZ (j ec ?_);exact Ka x h i) (.inr ⟨by refine j dZ (j ec ?_);exact i,(g,b++c),by exact n0,λP=>?_⟩);have R:=C (g,b++t::c) n0;have S:=n.fM (g,b++c) n0;have T:=p.fM (g,b++t::c) n0;have E:∀e∈b++t::c,e.mt=(Q.getD g (0,0)).1.toNat:=λe a=>by have:=(B.mem h (t:=e) (by refine j r ?_;exact w3 (z:=(g,b++t::c)) n0 a)).2.2.2.2.2.2.1;exact j this (j (T.2.1 e a) d)
  have U:hV (b++t::c)=(Q.getD g (0,0)).1.toNat:=w4 (by simp) E;have V:hV (b++c)=(Q.getD g (0,0)).1.toNat:=w4 S.1 λe a=>E e (by rcases List.mem_append.mp a with f|f<;>simp[f]);have v:(b++t::c).length=hV (b++t::c):=R;have w:(b++c).length=hV (b++c):=P;rw[U] at v;rw[V] at w;simp only[dZ,ec] at v w;exact Oo v w
end
def nx(E:p)(t:a7):Prop:=∃u,E=ds (dk t) u
theorem dW.w5:∀{O:List p} {J:List a7},dW O (J.map dk)->bT nx O J
 |[],[],_=>trivial
 |_::_,_::_,a=>⟨a.1,dW.w5 a.2⟩
 |[],_::_,a=>a.elim
 |_::_,[],a=>a.elim
theorem FN{ai:p}{P:Nat->p->Prop}(c:O.length=l)(f:∀(m:Nat) E,O[m]?=some E->P m E)(d:P l ai):(O++[ai]).length=l+1/\∀(m:Nat) E,(O++[ai])[m]?=some E->P m E:=by
 refine⟨by simp[c],λm E a=>?_⟩;rcases gB m O.length with b|b
 ·rw[pD b] at a;exact f m E a
 ·rw[pE b] at a;have:m=l:=by have:=(List.getElem?_eq_some_iff.mp a).1;simp at this;exact yF c b this
  subst this;rw[c,Gk] at a;(obtain rfl:=dg a;clear a);exact d
theorem ints_of:∀{O:List p} {ns:List Int},O.length=ns.length->(∀(m:Nat) E,O[m]?=some E->∃u,E=.int (ns.getD m 0) u)->IntsAre O ns
 |[],[],_,_=>.nil
 |_::O,a::ns,e,c=>by refine bo (c 0 _ d) λu b=>?_;have f:(a::ns).getD 0 0=a:=rfl;rw[f] at b;refine j b<|.cons a u (ints_of (nD (abm (id (nD e)))) λm E b=>by have:=c (m+1) E (by assumption);assumption)
theorem FO{α:Type}{C:α->Int}{G:List α}{c:α}(h0:autoParam (C c=0) b0):(G.map C).getD m 0=C (G.getD m c):=by
 refine j dY (j dY (j dR ?_));cases G[m]? with
 |none=>exact h0.symm
 |some a=>rfl
theorem ZC{α a:Type}{C:α->a}{G:List α}{ai:a}(f:(G.map C)[m]?=some ai):∃i,G[m]?=some i/\ai=C i:=by
 rw[dR] at f;cases b:G[m]? with
 |none=>rw[b] at f;exact cz f
 |some i=>rw[b] at f;(obtain rfl:=dg f;clear f);exact(bF (i) (rfl) (rfl))
theorem ZD{α:Type}{ac:List (List α)}(l:Nat):(ac.take l).flatten.length<=ac.flatten.length:=by
 have:ac.flatten=(ac.take l).flatten++(ac.drop l).flatten:=by rw[<-x7,rl]
 refine j this<|j dZ<|uQ
theorem ZE(o:n.handled=none)(a:N w h e I ((G,l1 O)::led) s)(f:∀L k,(g:G≠L)->d7 e [L]->N w h (e.push (cs (Ft (w:=w) o L G g O.toArray) 0)) I led k->r (.ref L) k):aa w n (hX (.ref G)) r M s:=by
 have b:=a.ld _ aG;have p:=(List.nodup_cons.mp a.dE).1;replace a:=a.cd (cJ _ _);have l:s.heap.IsTuple G O.toArray:=(du (_) (b.1) (rfl) ⟨_,rfl⟩);refine⟨wpAny_pyIter_tuple l ?_⟩;have g:G≠s.heap.objs.size:=λq=>dn _ (q▸cr b.1);have c:=a.alloc (J:={cls:=.type "tuple_iterator",data:=.fields #[.ref G,.int 0 0]}) d;have m:=c.at 0 d;have t:=c.cd (cJ _ _);(refine f _ _ g ⟨λu i=>by refine j (List.mem_singleton.mp i) ?_;exact⟨a.fresh,a.hP.hd⟩⟩ (t.hl _ ⟨(du (_) (m) (rfl) (rfl)),l.push _⟩ λu i=>?_));refine ed i ?_ ?_
 ·have b:=c.ld _ aG;exact(cV (b.2.1) (b.2.2.dc) ((List.nodup_cons.mp c.dE).1) (b.2.2.ge) ⟨_,m⟩)
 ·exact(cV (b.2.1) (b.2.2.dc) (p) (b.2.2.ge) ⟨_,cM _ b.1⟩)
theorem tl(G:List Nat)(b:i=⟨G.toArray⟩)(a:N w h e I led s)(f:∀u k,N w h e I led k->r (ds G u) k):aa w n (bA (.Constant (.str i) l pos) D) r M s:=by subst b;exact fj a f
theorem ZF{ext:Bool}{hK vO:Nat}(a:N w h e I led s)(f:∀u k,N w h e I led k->r (aj (kt ext) u) k):i3 (aa w n (bA (.Constant (.int 1) hK pos) D) r M) (aa w n (bA (.Constant (.int 0) vO bB) D) r M) ext s:=by
 cases ext with
 |true=>exact d2 (a8 1 a f)
 |false=>exact dw (a8 0 a f)
noncomputable def ny(v l:Nat):List Nat:=if l=0 then[] else if l=1 then cv (v/1024)++[32] else opening v
theorem ZG{an:Int}{gt:Nat}(bW:an=(gt:Int))(ar:bb h){n:aQ}{cb av ay:H}{az aA:au}(A:aR (n.deeper (gg ac)) 14 117)(bY:n.frames=some [])(g:(jp ac).bL)(br:cb.gens=#[]){aJ:x}{X:ih aJ ax aT}(bZ:∀b∈[aJ,ax,aT],cb.heap.get? b=none){dB aD aI aK aL:p}{aM aN:Option p}{aS bw:x}{aU af:List p}{bs o:Nat}{ext:Bool}{bt bu:aF}{ag aW:V}{G:List UInt8}{bg:List (List a7)}(a:N w h (aP.push (aP.push ⟨jp ac,cb,cw X (c8 (a6 G bu) 30),.none⟩ (gy av.heap az)) (gy ay.heap aA)) [some aY,some aC,some (a6 aw bf),some (a6 as bh),some (.ref aS),some (.int an bn),some dB,some (.bool ext),some (aj o bt),some aD,some (.ref bw),aM,some aI,some aK,some aL,aN,none,none,none] [(ac+2,ag),(ac+3,aW)] s)(bz:ag.data=.cell (some (.ref aJ)))(L:ei av.heap az aS (a4 aU R))(be:bT (hA (ei av.heap az)) aU Q)(B:dm aw as Q gt o ext (idOf G) ah bg)(S:ei ay.heap aA bw (a4 af bs))(bi:bT (lg (ei ay.heap aA)) af (bg.map (·.map dk)))(f:∀k,gf w h [] [] cb k->r (.bool true) k):aa w (n.deeper (gg ac)) (ej ((fv (bX 86)).drop 19) (gg ac)) (ia r) dh s:=by
  let C:aP:=aP.push (aP.push ⟨jp ac,cb,cw X (c8 (a6 G bu) 30),.none⟩ (gy av.heap az)) (gy ay.heap aA);let bj:List (Option p)->List (Option p):=λb0=>some aY::some aC::some (a6 aw bf)::some (a6 as bh)::some (.ref aS)::some (.int an bn)::some dB::some (.bool ext)::some (aj o bt)::b0;replace a:N w h C (bj [some aD,some (.ref bw),aM,some aI,some aK,some aL,aN,none,none,none]) _ _:=a;have cQ:=B.o6;have aX:=B.mf;have ai:=B.la;have cU:=B.tj;have b1:=B.jZ;have cV:af.length=Q.length:=by rw[bi.len,eG,b1]
  have aZ:=be.len;have cW:∀{q t k},N w h C q t k->er k.heap bw (a4 af bs)/\bT (lg (er k.heap)) af (bg.map (·.map dk)):=λa=>⟨⟨a.bG.1 _ _ S.2.2 S.2.1 S.1,S.2.1⟩,bi.keep λa1 b4 i=>i.keep λb T z=>⟨a.bG.1 b T z.2.2 z.2.1 z.1,z.2.1⟩⟩;have bA:∀{q t k},N w h C q t k->er k.heap aS (a4 aU R)/\bT (hA (er k.heap)) aU Q:=λa=>⟨⟨a.bG.2.1 _ _ L.2.2 L.2.1 L.1,L.2.1⟩,be.keep λa1 b4 i=>i.keep λb T z=>⟨a.bG.2.1 b T z.2.2 z.2.1 z.1,z.2.1⟩⟩;have b5:∀{q t k},N w h C q t k->r (.bool true) k:=λa=>f _ ((bP.kk (aB:=[]) a.aS a.Z).wT bZ);have bB:∀{q t s k},N w h C q t s->bP [aJ,ax] s k true->aH w h k->hu aJ ax k.heap->N w h C q t k:=λa R ak al=>a.en ((R.p7 (bV:=false) λf=>nomatch f).mono (sU aJ ax aT)) ak (by
   (refine bE a.b4 λH u=>?_;(refine db u λb6 b7 o z=>?_;clear u));refine⟨al,b6,b7,R.heap aT _ (λf=>?_) (.inr d) o,z⟩;simp only[dD,eR,or_false] at f;rcases f with f|f
   ·exact X.wl f.symm
   ·exact X.wm f.symm)
  refine seq<|bN<|f7 ⟨e2 _,?_⟩;replace a:=a.e8 [];generalize s.heap.objs.size=D at a⊢;refine bx a g 16 d d ?_;intro m Z a;refine seq<|gJ<|aE ?_;intro I;refine c6 a g 4 d hN hQ<|a2<|c0 a g 12 d dv dx<|Y a g 4 d d<|i9 a (IsList.new (bA a).1.1) (by refine j cN ?_;exact uz ai aZ) λH m a=>?_;refine j cN<|j aZ<|Y a g 5 d d<|j bW<|jO a aX λH m a=>c0 a g 12 d dv dx<|Y a g 4 d d<|i9 a (IsList.new (bA a).1.1) (by refine j cN ?_;exact uz ai aZ) λH m a=>?_;refine j cN<|j aZ<|Ck a λj H H H m a=>jM (v:=gt) A.bd a (a.at 0 d) Op (Oq ai) (Ik aX) λb8 m b9 a=>?_;replace a:=a.cd (cJ _ _);refine gK (e:=C) (hp A.bd b8 _ 1 gt) b9 (λl q t=>∃D O R a3,q=bj [some aD,some (.ref bw),aM,some aI,some aK,some aL,aN,some (.ref D),a3,none]/\t=[(D,a4 O R),(ac+2,ag),(ac+3,aW)]/\bT nx O (cS (ea Q bg (Q.length-gt) l))) a (fR (D) ([]) (0) (none) (rfl) (rfl) (trivial)) ?_ ?_
  ·intro l a1 H H m cX bk bC ca cY cc H a;refine aV λa9 E=>?_;(refine bo bC λcZ u=>?_;clear bC;obtain rfl:=u);refine gk ca λD O R a3 u bl F=>a.ef u bl ?_;intro Z ba a;refine E ?_;have cd:((Q.length-gt:Nat):Int)+(l:Int)*1=((Q.length-gt+l:Nat):Int):=Os;rw[cd];have am:Q.length-gt+l<Q.length:=rF aX bk;refine aV λa9 E=>n3 (B.kD (c:=Q.length-gt) (a0:=l) am) λT bD ce cf ch c1 c2=>?_;all_goals refine E ?_
   (refine bp (Fu bi (show(bg.map (·.map dk))[Q.length-gt+l]?=some (T.map dk) by rw[dR,bD];rfl)) λH ci u=>?_;obtain⟨cj,c3,c4,rfl,bq,cl⟩:=u);have cm:Q[Q.length-gt+l]?=some (Q.getD (Q.length-gt+l) (0,0)):=by rw[dY,da am];rfl
   refine aV λa9 E=>?_;(refine bp (Fu be cm) λH co u=>?_;obtain⟨cq,cr,c5,rfl,ab⟩:=u);all_goals refine E ?_
   refine bo (Hx (show(0:Int)<=(Q.getD (Q.length-gt+l) (0,0)).1 by exact yV ch)) λao bG=>?_;have bH:(Q.getD (Q.length-gt+l) (0,0)).1.toNat=ao:=by rw[bG];rfl
   rw[bH] at cf;have bI:=B.sX (cx bD);have bc:cS (ea Q bg (Q.length-gt) (l+1))=cS (ea Q bg (Q.length-gt) l)++T.take ao:=by rw[FE,th,ce,bH];simp[cS]
   refine dF (cp (bx a g 17 d d ?_));intro m Z a;refine seq<|bN<|a2<|Y a g 16 d d<|gr "list" _ slot_list_getitem.lookup<|dr<|Y a g 10 d d ?_;refine Y a g 17 d d<|f8 (i:=.ref cj) (IsList.new (a.bG.2.1 _ _ S.2.2 S.2.1 S.1)) zG (yO ai am) (by rw[ft];exact ci)<|(?_:fx w _ _ _ _ _ _);refine(?_:aa w _ _ _ _ _);refine dr<|dr<|Y a g 4 d d<|Y a g 17 d d<|f8 (i:=.ref cq) (IsList.new (a.bG.2.2.1 _ _ L.2.2 L.2.1 L.1)) zG (yO ai am) (by rw[ft];exact co)<|cg a λL m a=>B6 (a0:=0) (i:=.int (Q.getD (Q.length-gt+l) (0,0)).1 cr) (O:=[_,_]) (du (_) (a.bG.2.2.1 _ _ ab.2.2 ab.2.1 ab.1) (rfl) ⟨_,rfl⟩) .(1) .(1) d d ?_;have bJ:=cl.w5;refine kj a (IsList.new (a.bG.2.1 _ _ bq.2.2 bq.2.1 bq.1)) .none (.int _ _) (ck (by rw[bJ.len];exact zH bI)) λb m U bd a=>?_;have ap:bT nx U (T.take ao):=by rw[bd,bG,ro _ ao];exact bJ.take ao
   clear bd;have cs:=B.tk (c:=Q.length-gt) (l:=l) (Ot am);refine jL a (a.at 1 d) (a.at 0 d) (by rw[F.len,ap.len,gG,iC];exact Jw bI cs) λct m a=>bx a g 16 d d ?_;intro m Z a;(exact bv (cc _ _ _ (fR (ct) (_) (_) (_) (rfl) (rfl) (by rw[bc];exact F.dU ap)) (a.cd (.cons_cons _ (.cons _ (.cons _ (ka _)))))))
  intro T T m cu a;refine aE ?_;intro I;refine aV λa9 E=>gk cu λD O bK a3 u bl F=>a.ef u bl ?_;intro Z ba a;refine E<|bv ?_;have bk:Q.length-gt+gt<=Q.length:=rE aX;have W:=B.tk bk;have bc:cS (ea Q bg (Q.length-gt) gt)≠[]:=λad=>by have:=(B.FL (.inl d)).1.mP;rw[ad] at this;exact absurd this .(1)
  have bL:=@dm.FL _ _ _ _ _ _ _ _ _ B;have bM:=@dm.short _ _ _ _ _ _ _ _ _ B;generalize cS (ea Q bg (Q.length-gt) gt)=J at F W bc bL bM;have K:=F.len;have cv:0<J.length:=List.length_pos_iff.mpr bc;refine seq<|bN<|aE ?_;intro I;refine b3 a g 1 d gn gm<|cR a g .(0) d (a.at 1 d) bz<|c0 a g 12 d dv dx<|Y a g 16 d d<|i9 a (IsList.new (a.at 0 d)) (by rw[cN];exact uz W K) λT m a=>?_;rw[cN];refine⟨a.Z.l,gv ar a.Z A.mono X.c X.b X.m7 a.b4.1 (Ou K cv) λat' cy m aq R ak al=>?_⟩;replace a:=bB a R ak al;rw[K] at aq;refine bx a g 18 d d ?_;intro m Z a;have bO:∀{q t k},N w h C q t k->lm (n.deeper (gg ac)) [gg ac] k.heap:=λa=>(lm.mk (n:=n) (aB:=[]) (f:=cb.heap) bY ⟨{},trivial⟩ (λb ae=>nomatch ae)).push a g d λb ae=>nomatch ae;refine seq<|ifs<|cT<|aE ?_;intro I;refine b3 a g 14 d Bz Be<|a2<|Y a g 16 d d<|aa.mono (r:=λa1 m=>∃b U R bm,a1=.ref b/\N w h C (bj [some aD,some (.ref bw),aM,some aI,some aK,some aL,aN,some (.ref D),a3,some (aj at' cy)]) [(b,a4 U R),(D,a4 O bK),(ac+2,ag),(ac+3,aW)] m/\bT nx U bm/\(bm=[]\/∃ad∈J,bm=[ad])) (M:=dh) (ite (gq ?_)) ?_ λT T i=>i
  ·refine b3 a g 1 d gn gm<|cR a g .(0) d (a.at 1 d) bz<|a8 2 a λT m a=>⟨a.Z.l,gv ar a.Z A.mono X.c X.b X.m7 a.b4.1 .(1) λcz X m c7 R ak al=>?_⟩;replace a:=bB a R ak al;refine vI ?_;cases cz !=0 with
   |true=>
    refine d2<|aE ?_;intro I;refine gr "list" _ slot_list_getitem.lookup<|Y a g 16 d d<|(?_:fx w _ _ _ _ _ _);refine(?_:aa w _ _ _ _ _);refine Y a g 18 d d<|(?_:fx w _ _ _ _ _ _);refine(?_:aa w _ _ _ _ _);refine aE ?_;intro I;refine a2<|Y a g 18 d d<|a8 1 a λX m a=>eZ a λX m a=>kj a (IsList.new (a.at 0 d)) (.int _ _) (.int _ _) (ck (uR W K)) λb m U bd a=>(pN (b) (U) (0) ([J[at']]) (rfl) (a) (?_) (.inr ⟨_,j9 aq,rfl⟩));rw[bd,slicePick_run _ at' (at'+1) (by rw[cN];exact Ov K aq) (gZ _)];have o:[J[at']]=(J.drop at').take (at'+1-at'):=by rw[Hc aq,show at'+1-at'=1 by exact IN];rfl
    rw[o];exact(F.drop at').take _
   |false=>refine dw<|f7 ⟨e2 _,(pN (_) ([]) (0) ([]) (rfl) (a.e8 []) (trivial) (.inl d))⟩
  intro X m cA;refine aV λa9 E=>?_;obtain⟨b,U,dc,bm,rfl,a,ap,bQ⟩:=cA;refine a.eo ?_;intro Z ba a;refine E ?_;have cB:=ap.len;have cC:bm.length<=1:=by
   rcases bQ with rfl|⟨ad,X,rfl⟩
   ·exact e2 _
   ·exact c9 _
  refine jL a (a.at 1 d) (a.at 0 d) (ck (KM W K cB cC)) λdd m a=>Y a g 3 d d<|ek (bL (bm:=J++bm) (by
   rcases bQ with rfl|⟨ad,cD,rfl⟩
   ·exact .inl (nR _)
   ·exact .inr (bF (ad) (cD) (rfl)))) λcE cF cG=>?_
  have cH:=s1 (as:=as) (o:=o) (id:=idOf G) (ext:=ext) B.oU;have bR:=B.S0;have cI:=B.wY;(refine⟨a.Z.l,Fp ar a.Z A.mono (bO a) (a.at 0 d) (a.ld _ aG).2.2.ge (F.dU ap) (zI bR) (.inl ⟨_,cE,cF,cG,(by rw[cH];exact B.oU),(by refine(?_:o<=15);exact y7 cI),B.wZ,(λcK a5 aO=>?_)⟩)⟩);replace a:=a.kk br d aO d;let ba:List (x×V):=[(D,a4 O bK),(ac+2,ag),(ac+3,aW)];replace a:N w h _ _ ba _:=a.cd (.cons _ (.cons _ (ka _)));refine Y a g 2 d d ?_;have cL:oM (encOf aw as o (idOf G) ext) as (ha (idOf G) ext o gt Q.length).o (ha (idOf G) ext o gt Q.length).id (ha (idOf G) ext o gt Q.length).ext=aw:=Xc B.oU;rw[cL];refine B4 (cn (dN (bne_self_eq_false _) (bv ?_)));refine seq<|b2<|lT<|aE ?_;intro I;refine b3 a g 14 d Bz Be<|a2<|aE ?_;intro I;refine gr "list" _ slot_list_getitem.lookup<|Y a g 16 d d<|(?_:fx w _ _ _ _ _ _);refine(?_:aa w _ _ _ _ _);refine Y a g 18 d d<|kj a (IsList.new (a.at 0 d)) .none (.int _ _) (ck (uR W K)) λde a5 cM bS a=>a.eL ?_;intro df a;refine gr "list" _ slot_list_getitem.lookup<|Y a g 16 d d<|(?_:fx w _ _ _ _ _ _);refine(?_:aa w _ _ _ _ _);refine aE ?_;intro I;refine a2<|Y a g 18 d d<|a8 1 a λX a5 a=>eZ a λX a5 a=>(?_:fx w _ _ _ _ _ _);refine kj a (IsList.new (a.at 1 d)) (.int _ _) .none (ck (uR W K)) λdg a5 cO bU a=>?_;have ab:bT nx cM (J.take at'):=by rw[bS,ro _ at'];exact F.take at'
  have ae:bT nx cO (J.drop (at'+1)):=by rw[bU,slicePick_from' _ (at'+1)];exact F.drop _
  clear bS bU;refine jL a (a.at 1 d) (a.at 0 d) (by rw[ab.len,ae.len,gG,iC,tT];exact H3 W) λld a5 a=>Y a g 3 d d<|⟨a.Z.l,Fp ar a.Z A.mono (bO a) (a.at 0 d) (a.ld _ aG).2.2.ge (ab.dU ae) (zI bR) (.inr ⟨bM (at':=at') aq d,λcK cP aO=>?_⟩)⟩;replace a:=a.kk br d aO d;refine fj a λW cP a=>⟨P.eq_str ?_⟩;rw[show((y "refused").cps.toList==_)=true from beq_self_eq_true _];exact b5 a
theorem ZH(cu:bb h){n:aQ}{cb bk bu:H}{bl bw:au}(A:aR (n.deeper (gg ac)) 14 117)(cy:n.frames=some [])(m:(jp ac).bL)(cA:cb.gens=#[]){aJ:x}{X:ih aJ ax aT}(cB:∀b∈[aJ,ax,aT],cb.heap.get? b=none){bm bz:p}{an:Int}{bA:Bool}{aI:x}{a9:List p}{gt o:Nat}(bB:an=(gt:Int))(cC:bA=false){ext:Bool}{bV aK:aF}{aL am ao:V}{G:List UInt8}{bg:List (List a7)}{cD cE:x×V}(a:N w h (aP.push (aP.push ⟨jp ac,cb,cw X (c8 (a6 G aK) 30),.none⟩ (gy bk.heap bl)) (gy bu.heap bw)) [some aY,some aC,some (a6 aw bf),some (a6 as bh),some (.ref aI),some (.int an bn),some (.bool bA),some (.bool ext),some (aj o bV),some bm,some bz,none,none,none,none,none,none,none,none] [cD,cE,(ac+1,aL),(ac+2,am),(ac+3,ao)] s)(cF:am.data=.cell (some (.ref aJ)))(bW:ao.data=.cell (some (.ref aT)))(fK:aL.data=.cell none)(a0:ei bk.heap bl aI (a4 a9 R))(bq:bT (hA (ei bk.heap bl)) a9 Q)(cG:G.length=2)(B:dm aw as Q gt o ext (idOf G) ah bg)(cH:ma lg (ei bu.heap bw) bz (bg.map (·.map dk)))(f:∀k,gf w h [] [] cb k->r (.bool true) k):aa w (n.deeper (gg ac)) (ej ((fv (bX 86)).drop 11) (gg ac)) (ia r) dh s:=by
  (refine eJ (hk cG) λK L l=>?_;obtain rfl:=l);let ap:aP:=aP.push (aP.push ⟨jp ac,cb,cw X (c8 (a6 [K,L] aK) 30),.none⟩ (gy bk.heap bl)) (gy bu.heap bw);let bC:List (Option p)->List (Option p):=λE=>some aY::some aC::some (a6 aw bf)::some (a6 as bh)::some (.ref aI)::some (.int an bn)::some (.bool bA)::some (.bool ext)::some (aj o bV)::E;replace a:N w h ap (bC [some bm,some bz,none,none,none,none,none,none,none,none]) _ s:=a;let U:List (x×V):=[(ac+1,aL),(ac+2,am),(ac+3,ao)];replace a:N w h _ _ U _:=a.cd (.cons _ (.cons _ (ka _)));refine aV λaD I=>?_;obtain⟨aM,ba,cI,rfl,aO,bc⟩:=cH;all_goals refine I ?_
  have ag:=B.jZ;have bY:=B.la;have bD:ba.length=Q.length:=by rw[bc.len,eG,ag]
  have bZ:=bq.len;have b0:∀{aq ar k},N w h ap aq ar k->er k.heap aM (a4 ba cI)/\bT (lg (er k.heap)) ba (bg.map (·.map dk)):=λa=>⟨⟨a.bG.1 _ _ aO.2.2 aO.2.1 aO.1,aO.2.1⟩,bc.keep λv W i=>i.keep λb z av=>⟨a.bG.1 b z av.2.2 av.2.1 av.1,av.2.1⟩⟩;have cK:∀{aq ar k},N w h ap aq ar k->er k.heap aI (a4 a9 R)/\bT (hA (er k.heap)) a9 Q:=λa=>⟨⟨a.bG.2.1 _ _ a0.2.2 a0.2.1 a0.1,a0.2.1⟩,bq.keep λv W i=>i.keep λb z av=>⟨a.bG.2.1 b z av.2.2 av.2.1 av.1,av.2.1⟩⟩;refine seq<|ifs<|hz<|gq<|Y a m 6 d d<|j cC<|cn<|dw<|aE ?_;intro M;refine hz<|cT<|aE ?_;intro M;refine ie (aN:=[y "texts"]) (aX:=[y "len"]) _ d (by decide+kernel)<|Y a m 10 d d ?_;have T:=a.b9 aM (cU _ (mb aO));refine gP A.bd a (IsList.new (b0 a).1.1) (dS (T.1) (T.2.1) (T.2.2.1) (T.2.2.2.1)) λcM g cO ay a=>?_;(refine jf (e:=ap) (aN:=[y "texts"]) (aX:=[y "len"]) (fy A.bd cM aM cO ba.toArray) (λH=>cw X (c8 (a6 [K,L] aK) 30)) (λH=>rfl) a ay m _ (by decide+kernel) (ck (by refine j cN ?_;exact zJ bY bD)) (λt D bd=>bd=[]/\D.length=t/\∀(u:Nat) v,D[u]?=some v->∃E,v=.int ((bg.getD u []).length:Int) E) (bO (rfl) (rfl) (λu v o=>by trivial)) ?_ ?_)
  ·(intro b1 t v D b2 H c b3 a5 b4 ai ab J br cP ad az aS a;(refine bE J λl Z=>?_;clear J;obtain rfl:=l));(refine bo (hj az) λb5 l=>?_;obtain rfl:=l);refine aV λaD I=>?_;(refine bp (bc.at (by simpa using ab)) λb7 aH l=>?_;obtain⟨cQ,cS,cV,rfl,aU,bG⟩:=l);all_goals refine I ?_
   obtain⟨z,bi,rfl⟩:∃z,bg[t]?=some z/\b7=z.map dk:=by
    rw[dR] at aH;cases o:bg[t]? with
    |none=>rw[o] at aH;exact cz aH
    |some z=>rw[o] at aH;(obtain rfl:=dg aH;clear aH);exact(bF (z) (rfl) (rfl))
   have bH:=bG.len;rw[eG] at bH;have cW:=B.sX (cx bi);refine dF<|cp<|d8 a ad 0 d d λbs a=>c0 a ad 0 d dv dx<|Y a ad 0 d d<|i9 a (IsList.new (a.bG.2.2.1 _ _ aU.2.2 aU.2.1 aU.1)) (by refine j cN ?_;exact OY bH cW) λcX bs a=>?_;refine aS _ [] _ _ ⟨rfl,FN Z.1 Z.2 ⟨cX,?_⟩⟩ (by dsimp) a;refine j cN (j bH (j dY (j bi ?_)));rfl
  (intro bI b8 bJ H g J H a;(refine bE J λl bK=>?_;clear J;obtain rfl:=l));let U:List (x×V):=[(bI,a4 b8 bJ),(ac+1,aL),(ac+2,am),(ac+3,ao)];replace a:N w h _ _ U g:=a;refine ie (aN:=[y "need",y "many"]) (aX:=[]) _ d (by decide+kernel)<|Y a m 4 d d ?_;have T:=a.b9 aI (dt _ (cU _ (mb a0)));refine gP A.bd a (IsList.new (cK a).1.1) (dS (T.1) (T.2.1) (T.2.2.1) (T.2.2.2.1)) λcY g cZ ay a=>?_;(refine jf (e:=ap) (aN:=[y "need",y "many"]) (aX:=[]) (fy A.bd cY aI cZ a9.toArray) (λH=>cw X (c8 (a6 [K,L] aK) 30)) (λX=>rfl) a ay m _ (by decide+kernel) (ck (by refine j cN ?_;exact zJ bY bZ)) (λt D bd=>bd=[]/\D.length=t/\∀(u:Nat) v,D[u]?=some v->∃E,v=.int (Q.getD u (0,0)).2 E) (bO (rfl) (rfl) (λu v o=>by trivial)) ?_ ?_)
  ·(intro b1 t v D b2 X c b3 dZ b4 ai ab J br cP ad az aS a;(refine bE J λl Z=>?_;clear J;obtain rfl:=l));(refine eJ (hk az) λb5 d0 l=>?_;obtain rfl:=l);refine aV λaD I=>?_;(refine bp (bq.at (by simpa using ab)) λW c1 l=>?_;obtain⟨d1,c2,b9,rfl,bL⟩:=l);all_goals refine I ?_
   refine qL (G:=aI) a.bG.1.1<|kr A.bd a (du (_) (a.bG.2.2.2.1 _ _ bL.2.2 bL.2.1 bL.1) (rfl) ⟨_,rfl⟩) λca a X=>cp<|d8 a ad 0 d d λca a=>cp<|d8 a ad 1 d d λca a=>Y a ad 1 d d<|aS _ [] _ _ ⟨rfl,FN Z.1 Z.2 ⟨b9,?_⟩⟩ (by dsimp) a;refine j dY (j c1 ?_);rfl
  (intro c3 oD c4 X g J X a;(refine bE J λl bM=>?_;clear J;obtain rfl:=l));let U:List (x×V):=[(c3,a4 oD c4),(bI,a4 b8 bJ),(ac+1,aL),(ac+2,am),(ac+3,ao)];replace a:N w h _ _ U g:=a;rw[cN] at bK bM;have c5:(bg.map λz=>(z.length:Int))=Q.map (·.2):=by
   refine List.ext_getElem (by rw[eG,eG,ag]) λu c b=>j (rm ..) (j (rm ..) ?_);have aW:u<bg.length:=by simpa using c
   refine j (B.len (da aW)) (j dY (j (da (zA ag aW)) ?_));rfl
  refine Zk (q:=0) (S:=64) (A.mono .(1) .(1)) (c9 _) (IsList.new (a.at 1 d)) (ints_of (ns:=bg.map λz=>(z.length:Int)) (by rw[bK.1,eG,ag,bD]) λu v o=>?_) (IsList.new (a.at 0 d)) (ints_of (ns:=Q.map (·.2)) (by rw[bM.1,eG,bZ]) λu v o=>?_) ?_
  ·refine j (FO (c:=[])) ?_;exact bK.2 u v o
  ·refine j (FO (c:=(0,0))) ?_;exact bM.2 u v o
  refine j (decide_eq_true c5)<|cn (dw (no (dw (bv ?_))));let U:List (x×V):=[(ac+1,aL),(ac+2,am),(ac+3,ao)];replace a:N w h _ _ U _:=a.cd (.cons _ (.cons _ (ka _)));refine seq<|bN<|f7 ⟨e2 _,?_⟩;replace a:=a.e8 [];generalize g.heap.objs.size=ak at a⊢;refine bx a m 12 d d ?_;intro g bj a;refine seq<|gJ<|Y a m 10 d d ?_;have T:=a.b9 aM (cU _ (mb aO));refine gP A.bd a (IsList.new (b0 a).1.1) (dS (T.1) (T.2.1) (T.2.2.1) (T.2.2.2.1)) λc7 g dc ay a=>gK (e:=ap) (fy A.bd c7 aM dc ba.toArray) ay (λt aq ar=>∃i ak D R,aq=bC [some bm,some (.ref aM),i,some (.ref ak),none,none,none,none,none,none]/\ar=[(ak,a4 D R),(ac+1,aL),(ac+2,am),(ac+3,ao)]/\bT nx D (bg.take t).flatten) a (fR (none) (ak) ([]) (0) (rfl) (rfl) (trivial)) ?_ ?_
  ·intro t v X X g dd ai ab bP br aS X a;refine aE ?_;intro M;refine aV λaD I=>gk bP λi ak D R l ae Z=>a.ef l ae ?_;intro bQ U a;refine I<|aV λaD I=>?_;(refine bp (bc.at (by simpa using ab)) λb7 aH l=>?_;obtain⟨cQ,cS,cV,rfl,aU,bG⟩:=l);all_goals refine I ?_
   (refine bp (ZC aH) λz bi l=>?_;obtain rfl:=l);refine dF (cp (bx a m 11 d d ?_));intro g bj a;refine seq<|bN<|aE ?_;intro M;refine a2<|aE ?_;intro M;refine Y a m 12 d d<|Y a m 11 d d ?_;have cc:=bG.w5;have de:(bg.take (t+1)).flatten=(bg.take t).flatten++z:=by refine j hf (j bi ?_);simp
   refine jL a (a.at 0 d) (a.bG.2.1 _ _ aU.2.2 aU.2.1 aU.1) ?_ λdf g a=>?_
   ·have c:=Z.len;have b:=cc.len;have e:=B.sX (cx bi);have q:=ZD (ac:=bg) t;have:=B.cj;refine j gG ?_;exact KA c b e q this
   refine bx a m 12 d d ?_;intro g bj a;(exact bv (aS _ _ _ (fR (_) (df) (_) (_) (rfl) (rfl) (by refine j de ?_;exact Z.dU cc)) (a.cd (.cons_cons _ (.cons _ (ka _))))))
  intro X X g bR a;refine aE ?_;intro M;refine aV λaD I=>gk bR λi ak D R l ae Z=>a.ef l ae ?_;intro bQ U a;refine I ?_;rw[cN,bD,<-ag,h3] at Z;refine bv ?_;have bS:D.length<=3:=by have c:=Z.len;have b:=B.cj;exact Ow c b
  have di:=Z.len;have cd:∀{aq ar k},N w h ap aq ar k->∃aZ:List p,k.heap.IsList aT aZ.toArray/\aZ[0]?=some (a6 [K,L] aK):=λa=>by
   refine aV λaD I=>?_;(refine bE a.b4 λX l=>?_;(refine kb l λaZ d2 O dj X=>?_;clear l));all_goals refine I ?_
   (exact(bF (aZ) (IsList.new O) (by refine be dj ?_;cases aZ<;>rfl)))
  refine seq<|bN<|aE ?_;intro M;refine a2<|a2<|a2<|a2<|a2<|a2<|a2<|dr<|dr<|cR a m .(0) d (a.at 3 d) bW<|a8 0 a λX g a=>bp (cd a) λaZ O aA=>f8 (i:=a6 [K,L] aK) O .(1) .(1) aA ?_;clear O aA;refine a8 0 a λX g a=>B5 a (b6 d) .(1) (Int.ofNat_lt.mpr (b6 d)) λc2 g a=>?_;replace a:N w h _ _ _ g:=a;refine a8 256 a λX g a=>hr a .(1) λb9 g a=>dr<|dr<|cR a m .(0) d (a.at 3 d) bW<|a8 0 a λX g a=>bp (cd a) λaZ O aA=>f8 (i:=a6 [K,L] aK) O .(1) .(1) aA ?_;clear O aA;refine a8 1 a λX g a=>B5 a (b6 d) .(1) (Int.ofNat_lt.mpr (b6 d)) λd3 g a=>eZ a λd4 g a=>a8 32768 a λX g a=>fI a .(1) λX g a=>a8 2 a λX g a=>hr a .(1) λd5 g a=>ite<|gq<|Y a m 7 d d<|cn<|ZF a λd6 g a=>eZ a λX g a=>a8 16 a λX g a=>hr a .(1) λX g a=>Y a m 8 d d<|eZ a λaN g a=>?_;have dl:(([K,L].getD (((0:Nat):Int)).toNat 0).toNat*256+([K,L].getD (((1:Nat):Int)).toNat 0).toNat)%32768*2+kt ext=idOf [K,L]*2+kt ext:=by refine(?_:(K.toNat*256+L.toNat)%32768*2+_=((0*256+K.toNat)*256+L.toNat)%32768*2+_);exact Kx
  (refine j dl (j (show(idOf [K,L]*2+kt ext)*16+o=fa (idOf [K,L]) ext o by unfold fa;exact Ox) ?_));have ce:=wA (ext:=ext) B.wZ B.wY;have cf:∀P∈bg.flatten,(dk P).take 8=opening (fa (idOf [K,L]) ext o):=λP dn=>B.ZA dn;generalize fa (idOf [K,L]) ext o=af at ce cf⊢;refine bx a m 13 d d ?_;intro g bj a;refine seq<|bN<|tl jg (by decide+kernel) a λdp g a=>bx a m 14 d d ?_;intro g bj a;refine seq<|bN<|tl [] (by decide+kernel) a λdq g a=>iL a m 1 d fK .(0) d λcg g O a=>?_;let U:List (x×V):=[(ak,a4 D R),(ac+1,cg),(ac+2,am),(ac+3,ao)];replace a:N w h _ _ U g:=a;refine seq<|gJ<|aE ?_;intro M;refine ja<|a2<|Y a m 13 d d<|a8 1024 a λX g a=>iM a .(1) .(1) λdy g a=>a2<|Y a m 13 d d<|a8 1024 a λX g a=>fI a .(1) λdz g a=>⟨b6 d,?_⟩;replace a:=a.jb [aj (af/1024) dy,aj (af%1024) dz];generalize g.heap.objs.size=dA at a⊢;refine ZE A.bd a λdB g dC ay a=>gK (e:=ap) (Ft A.bd dB dA dC _) ay (λt aq ar=>∃bU z E,aq=bC [some bm,some (.ref aM),i,some (.ref ak),some (aj af aN),some (ds jg dp),bU,none,none,none]/\ar=[(ak,a4 D R),(ac+1,z),(ac+2,am),(ac+3,ao)]/\z.data=.cell (some (ds (ny af t) E))) a (iZ (none) (cg) (dq) (rfl) (rfl) (O)) ?_ ?_
  ·intro t v X X g dd ai ab bP br aS X a;refine aV λaD I=>kc bP λbU z E l ae a1=>a.ef l ae ?_;intro bQ U a;refine I ?_;obtain⟨W,ch,rfl,ci,dD⟩:∃W ch,v=aj W ch/\W<1024/\ny af (t+1)=ny af t++cv W++[32]:=by
    replace ai:t<2:=ai;rcases(ur ai:t=0\/t=1) with rfl|rfl
    ·(obtain rfl:=dg ab;clear ab);exact⟨_,_,rfl,by have:(1024:Nat)^2=1024*1024:=.(1);exact IR ce,rfl⟩
    ·(obtain rfl:=dg ab;clear ab);exact(el (_) (_) (rfl) (eQ _ .(1)) (by rfl))
   have ag:(ny af t).length<=20:=by
    unfold ny;split
    ·exact e2 _
    ·split
     ·exact b6 d
     ·exact b6 d
   refine dF (cp (bx a m 15 d d ?_));intro g bj a;refine seq<|bN<|aE ?_;intro M;refine a2<|a2<|a2<|a2<|cR a m .(0) d (a.at 1 d) a1<|dr<|Y a m 14 d d<|a2<|Y a m 15 d d<|a8 64 a λX g a=>iM a .(1) .(1) λX g a=>k7 a (OT ci) (getD_at (by refine(?_:W/64<16);exact rN ci)) λX g a=>?_;refine oJ a (ck (by simp;exact Oy ag)) λX g a=>dr<|aE ?_;intro M;refine tl l4 (by decide+kernel) a λX g a=>a2<|a2<|Y a m 15 d d<|a8 16 a λX g a=>iM a .(1) .(1) λX g a=>a8 4 a λX g a=>fI a .(1) λX g a=>k7 a Km (getD_at (by refine(?_:W/16%4<4);exact ui)) λX g a=>?_;refine oJ a (ck (by simp;exact Oz ag)) λX g a=>dr<|Y a m 14 d d<|a2<|Y a m 15 d d<|a8 16 a λX g a=>fI a .(1) λX g a=>k7 a Kn (getD_at (by refine(?_:W%16<16);exact uj)) λX g a=>?_;refine oJ a (ck (by simp;exact OA ag)) λX g a=>tl [32] (by decide+kernel) a λX g a=>oJ a (ck (by simp;exact OB ag)) λdE g a=>?_;have dG:((ny af t++[jg.getD (W/64) 0])++[l4.getD (W/16%4) 0])++[jg.getD (W%16) 0]++[32]=ny af (t+1):=by refine j dD (j (wU ..) ?_);simp
   refine j dG<|iL a m 1 d a1 .(0) d λcj g dH a=>bv (aS _ _ _ (iZ (_) (cj) (dE) (rfl) (rfl) (dH)) a)
  intro W W g bR a;refine aE ?_;intro M;refine aV λaD I=>kc bR λbU z E l ae a1=>a.ef l ae ?_;intro bQ U a;refine I<|bv ?_;replace a1:z.data=.cell (some (ds (opening af) E)):=a1;refine seq<|ifs<|hz<|cT<|aE ?_;intro M;refine c0 a m 12 d dv dx<|c6 a m 13 d vo vE<|Y a m 12 d d ?_;have cl:∀(u:Nat) (v:p),D[u]?=some v->∃P E,bg.flatten[u]?=some P/\v=ds (dk P) E:=λu v az=>by
   (refine bp (Z.at az) λP O l=>?_;(refine bo l λE aA=>?_;clear l));exact(eU (P) (E) (O) (aA))
  refine Zn (C:=λu=>(⟨((bg.flatten.map dk).getD u []).toArray⟩:al)) a d A.bd (IsList.new (a.at 0 d)) (by refine(?_:D.length+1<4096);exact K4 bS) (λu v az=>?_) λd7 os g a dI=>?_
  ·refine db (cl u v az) λP E O aA=>⟨E,j dY (j dR (j O ?_))⟩;exact aA
  have dJ:fT (λu=>(⟨((bg.flatten.map dk).getD u []).toArray⟩:al)) D.length=D.length:=wi _ _ λu a3 aW bt aB=>by
   rw[di] at aW bt;have c:∀t (ai:t<bg.flatten.length),(bg.flatten.map dk).getD t []=dk bg.flatten[t]:=λt ai=>by refine j dY (j dR (j (da ai) ?_));rfl
   replace aB:(⟨((bg.flatten.map dk).getD u []).toArray⟩:al)=⟨((bg.flatten.map dk).getD a3 []).toArray⟩:=aB;rw[c u aW,c a3 bt] at aB;injection aB with aB;replace aB:dk bg.flatten[u]=dk bg.flatten[a3]:=congrArg Array.toList aB;have cm:=List.pairwise_iff_getElem.mp B.Zy;rcases aaJ u a3 with f|f|f
   ·exact absurd aB (cm u a3 aW bt f)
   ·exact f
   ·exact absurd aB.symm (cm a3 u bt aW f)
  refine Zo a (dI _ (a.at 0 d)) λW g a=>j dJ ?_;replace a:=a.cd (cJ _ _);refine c0 a m 12 d dv dx<|Y a m 12 d d<|i9 a (IsList.new (a.at 0 d)) (by refine j cN ?_;exact OC bS) λW g a=>?_;refine j cN<|nc<|cn<|dN (bne_self_eq_false _)<|aE ?_;intro M;refine hz<|gq<|aE ?_;intro M;refine ie (aN:=[y "text"]) (aX:=[]) _ d (by decide+kernel)<|Y a m 12 d d<|Fm A.bd a λdK g dL ay a=>a.z7 ?_;intro d9 ea a;refine C0 (e:=ap) (aN:=[y "text"]) (aX:=[]) (fy A.bd dK ak dL D.toArray) a ay m _ (by decide+kernel) (ck (by refine j cN ?_;exact Lx bS)) (λt dM bd=>dM=[]/\bd=[]) ⟨rfl,rfl⟩ ?_ ?_
  ·(intro b1 t v W b2 W c b3 a5 b4 eb ai ab J br ad az ec dO a;(refine bE J λl ae=>?_;clear J;obtain rfl:=l;obtain rfl:=ae));(refine bo (hj az) λb5 l=>?_;obtain rfl:=l);(refine db (cl t v (by simpa using ab)) λP E O l=>?_;obtain rfl:=l);have co:=cx O;have cq:=cf P co;have dP:8<=(dk P).length:=by have:=congrArg kI cq;rw[iC,show(opening af).length=8 from d] at this;exact Ja this
   refine dF<|cp<|d8 a ad 0 d d λbs a=>aE ?_;intro M;refine cT<|aE ?_;intro M;refine gr "str" _ F.slot_str_getitem.lookup<|Y a ad 0 d d<|(?_:fx w _ _ _ _ _ _);refine(?_:aa w _ _ _ _ _);refine a8 8 a λW bs a=>Zh a dP ?_ λW bs a=>?_
   ·refine bp (List.mem_flatten.mp co) λcj dQ dT=>bo (fr dQ) λed dU=>?_;refine bo (fr dT) λee dV=>?_;have dW:=qE (B.g9 dU dV).1.E;have cr:=nl P;have:=qM (ct:=(fb P).map cv) (λo=>by have:=congrArg kI o;rw[eG,abf] at this;exact OD cr this) (λan bB=>by
     (refine bp (List.mem_map.mp bB) λcs dX l=>?_;obtain rfl:=l);exact wv cs (nk P cs dX))
    rw[eG] at this;refine(?_:(cL ((fb P).map cv)).length<=_);refine j gG<|KD dW cr this
   refine cR a ad .(0) d (a.bG.2.1.2 _ aG) a1<|j cq<|Zi<|cn<|dN (bne_self_eq_false _)<|dO [] _ _ ⟨rfl,rfl⟩ (by dsimp) a
  (intro bI W bJ W g J a;(refine bE J λl ae=>?_;clear J;obtain rfl:=l;obtain rfl:=ae));refine qk a (IsList.new (a.at 0 d)) .(1) λg a=>dw<|no<|dw<|bv<|ZG bB cu A cy m cA cB (a.cd (.cons _ (.cons _ (ka _)))) cF a0 bq B aO bc f
theorem ZI(bi:s.heap.Ns e.D.locals (ez e.l.names I))(a:e.l.bL)(m:Nat)(aW:some i=e.l.names[m]?)(b:some (some E)=I[m]?)(f:r E s)(c:autoParam (D=e.D) b0):aa w n (bA (.Name i pos) D) r M s:=by subst c;exact⟨xk (Gg a.kind (a.fn _ (cx aW.symm)) bi (lR a.h8 aW.symm b.symm) f) (a.z0 _ (cx aW.symm))⟩
theorem gf.ns(aO:gf w h (e.D::aB) ae s k)(a:N w h e I led s)(c:e.D.frame=some e.D.locals)(cY:e.D.locals∉ae):k.heap.Ns e.D.locals (ez e.l.names I):=by
 refine aV λo d=>kc a.ch λf g i j b l=>?_;all_goals refine d ?_
 (refine bo (aO.ch _ (by rw[gA,jw,c];exact .head _) cY a.cE.ge f j (λp m=>nomatch b.symm.trans m)) λq n=>?_);exact(iZ (_) (g) (i) (n) (b) (l))
theorem ZJ:h2 (.type "ValueError") (.type "BaseException")=pure true:=by rw[mv];kernel_rfl
theorem ZK:h2 (.type ((abj "ValueError").elim "type" λi=>i.metatype)) (.type "tuple")=pure false:=by rw[mv];kernel_rfl
theorem ZL:h2 (.type "ValueError") (.type "ValueError")=pure true:=by rw[mv];kernel_rfl
theorem ZM(S:bb h){n:aQ}{cb E:H}{F:au}(A:aR (n.deeper (gg ac)) 14 117)(ai:n.frames=some [])(c:(jp ac).bL){aJ:x}(fS:cb.heap.get? aJ=none)(gQ:cb.heap.get? ax=none)(G:837<=aJ)(I:837<=ax)(ak:aJ≠ax){al:x}{U:List p}{aK:Nat}{J:Int}{am:Bool}{an W Z:V}(a:N w h (aP.push ⟨jp ac,cb,jS aJ ax true G I,.none⟩ (gy E.heap F)) [some aY,some aC,some (a6 aw bf),some (a6 as bh),some (.ref al),some (.int J bn),some (.bool am),none,none,none,none,none,none,none,none,none,none,none,none] [(ac+1,an),(ac+2,W),(ac+3,Z)] s)(aL:cb.heap.TableAt 835 833 #[])(ab:W.data=.cell (some (.ref aJ)))(bj:Z.data=.cell none)(fK:an.data=.cell none)(K:ei E.heap F al (a4 U aK))(aM:bT (hA (ei E.heap F)) U Q)(aN:aw.length<=20)(aS:as.length<=3)(aT:Fq Q J)(aU:am=true↔nq aw as Q J)(bk:am=false->Q.length<=3/\ju (λm=>(Q.getD m (0,0)).2) Q.length<=3)(f:∀k,gf w h [] [] cb k->r (.bool true) k):aa w (n.deeper (gg ac)) (ej ((fv (bX 86)).drop 7) (gg ac)) (ia r) dh s:=by
  let bl:aP:=aP.push ⟨jp ac,cb,jS aJ ax true G I,.none⟩ (gy E.heap F);replace a:N w h bl _ _ _:=a;refine a.eo ?_;intro b7 bm a;refine seq<|vX (h:=h) (y "longer") (y "exponent") A.bd<|aE ?_;intro ao;refine ja<|lT<|aE ?_;intro ao;refine b3 a c 1 d gn gm<|cR a c .(0) d (a.at 1 d) ab<|a8 2 a λH l a=>⟨a.Z.l,gv S a.Z A.mono G I ak a.b4 .(1) λbp H l b8 ap aq ar=>?_⟩;replace a:=a.en ap aq ar;refine a8 1 a λH l a=>qr<|b3 a c 1 d gn gm<|cR a c .(0) d (a.at 1 d) ab<|a8 16 a λH l a=>⟨a.Z.l,gv S a.Z A.mono G I ak a.b4 .(1) λv bq l aW ap aq ar=>?_⟩;replace a:=a.en ap aq ar;generalize(bp==1)=ext;refine⟨b6 d,?_⟩;have P:=a.jb [.bool ext,aj v bq];have aX:=P.at 0 d;have P:=P.cd (cJ _ _);refine(pO (_) (_) (_) (_) (_) (_) (rfl) (P) (⟨_,aX,rfl,_,rfl⟩) (λl a=>?_));clear P aX;refine bx a c 8 d d ?_;intro l av a;refine bx a c 7 d d ?_;intro l av a;refine seq<|bN<|f7 ⟨e2 _,?_⟩;have ad:l.heap.get? l.heap.objs.size=none:=xF (c9 _);have aZ:837<=l.heap.objs.size:=a.Z.size;have af:∀b∈[aJ,ax],b≠l.heap.objs.size:=λb g u=>by refine bo ((jS aJ ax true G I).live _ a.b4 b g) λC v=>?_;rw[u,ad] at v;exact cz v
  have ag:=(a.e8 []).cd (cJ _ _);generalize br:l.heap.objs.size=i at ad aZ af ag⊢;have X:ih aJ ax i:=⟨G,I,aZ,ak,af _ aG,af _ (.tail _ aG)⟩;have b9:cb.heap.get? i=none:=by
   cases v:cb.heap.get? i with
   |none=>rfl
   |some C=>have:=a.aS.heap i C (λu=>af i u d) (.inr d) v;exact cz (ad.symm.trans this)
  replace a:=a.wS ag (cw X (λo=>o=[]) true) (λb g=>by
   refine iG g ?_ ?_ ?_
   ·exact .inl aG
   ·exact .inl (.tail _ aG)
   ·exact .inr ad) (λb g=>by
   refine ed g ?_ ?_
   ·exact .head _
   ·exact .tail _ aG) (λf=>f) ⟨ag.b4,[],0,by refine be br ?_;exact eX _ d,rfl⟩
  clear ag;refine iL a c 2 d bj .(0) d λa0 a5 a1 a=>?_;let bs:List (x×V):=[(ac+1,an),(ac+2,W),(ac+3,a0)];replace a:N w h _ _ bs a5:=a;have ay:∀b∈[aJ,ax,i],cb.heap.get? b=none:=λb g=>by refine iG g ?_ ?_ ?_<;>assumption
  have eB:∀b C,cb.heap.get? b=some C->b∉[aJ,ax,i]:=λb C v u=>cz ((ay b u).symm.trans v);have bt:a5.heap.TableAt 835 833 #[]:=by
   refine aV λbu ah=>?_;(refine bE aL λL a2=>?_;clear aL;(refine n5 L λZ bw dT bz bA bB=>?_;clear L));all_goals refine ah ?_
   exact⟨(pL (Z) (bw) (a.aS.heap _ _ (eB _ _ dT) (.inr d) dT) (bz) (bA) (bB)),a.aS.heap _ _ (eB _ _ a2) (.inr d) a2⟩
  replace a:=(a.wS a (cw X (λo=>o=[]) false) (λb g=>.inl g) (λV g=>g) (λf=>nomatch f) a.b4).qR d;let az:aP:=aP.push ⟨jp ac,{cb with gens:=#[]},cw X (λo=>o=[]),.none⟩ (gy E.heap F);replace a:N w h az _ _ _:=a;refine seq<|Zf a c d (835,833) d .(1) bt (tg:=[(y "given",ac+3),(y "feed",ac+2)]) .(0) d d d λbC a3 bD bF bG bH doc M bI aA a=>aE ?_;intro ao;refine a.eL ?_;intro bm a;refine bx a c 9 d d ?_;intro M av a;have bJ:jT M.heap bC aJ i:=⟨_,doc,ac+2,ac+3,a3,bH,W,a0,(a.ld _ aG).2.2.ge,(a.ld _ (.tail _ (.tail _ (.tail _ aG)))).2.2.ge,(a.ld _ (.tail _ (.tail _ (.tail _ (.tail _ aG))))).2.2.ge,(a.ld _ (.tail _ aG)).2.2.ge,a.at 0 d,rfl,a.at 3 d,ab,a.at 4 d,a1,a3,bD,bF,bG,rfl,a.at 1 d,bI,aA⟩;have a7:∀b,b∈(gy E.heap F).br->b∉[aJ,ax,i]:=λb g=>(a.b9 b (cU _ g)).2.1;have bK:kz M.heap [aJ,ax,i] al (a4 U aK):=(bO (a.bG.1 _ _ K.2.2 K.2.1 K.1) (K.2.1) (a7 _ (mb K)));have bL:bT (hA (kz M.heap [aJ,ax,i])) U Q:=aM.keep λbM z D=>D.keep λb C o=>(bO (a.bG.1 b C o.2.2 o.2.1 o.1) (o.2.1) (a7 _ (mb o)));have a9:∀z∈Q,z.1<=3:=λz O=>by
   refine aV λbu ah=>?_;rcases aT.g with t|t
   ·(refine bE t λL W=>?_;clear t;obtain rfl:=L);refine ah<|j (List.eq_of_mem_replicate O) ?_;decide
   ·(refine kS t λW W W u=>?_;clear t);refine ah<|(u z O).2.1
  have bP:lm (n.deeper (gg ac)) [gg ac] M.heap:=(lm.mk (n:=n) (aB:=[]) (f:=cb.heap) ai ⟨{},trivial⟩ (λb g=>nomatch g)).push a c d λb g=>nomatch g;have aD:Q.length<=3\/(Q.length>16/\Q.length<100):=by
   rcases aT.g with t|t
   ·(refine bE t λL W=>?_;clear t;refine j L ?_);exact .inr ⟨by rw[pC];decide,by rw[pC];decide⟩
   ·(refine bE t λu W=>?_;clear t);exact .inl u
  have ba:(gg ac).locals∉[aJ,ax,i]:=a.cE.dc;have bQ:=Fn (ae:=[aJ,ax,i]) (cls:=.type "ValueError") (B:=nq aw as Q J) a.Z bP (λb g=>by
   have:b=(gg ac).locals:=(dg (show(gg ac).frame=some b by simpa[gA] using g)).symm;refine j this ?_;exact ba) (λb g=>by
   refine iG g ?_ ?_ ?_<;>assumption)
  refine seq (Za (h:=h) (e:=az) (T:=tf M [gg ac] [aJ,ax,i] (.type "ValueError") (nq aw as Q J)) c d (lF ai) d 11 d kZ k3 ZJ ZK ZL ?_ λca bR bc=>?_)
  ·refine seq<|bN<|aE ?_;intro ao;refine m8 a c 8 d Wy QH<|Y a c 5 d d<|Y a c 4 d d<|Y a c 2 d d<|Y a c 9 d d<|eA a c 9 d Bx<|eA a c 10 d By<|Y a c 3 d d<|Y a c 7 d d<|Y a c 8 d d<|⟨a.Z.l,(WA (X:=X) S a.Z A.mono bQ d bK bL (LK aN) (ob aS) aW aD a9 id bJ a.b4 λbM bR aF aH cc cd aI bS bU bV bd bW bY aA=>?_).ga⟩;refine dM (np.z1 λD=>aI (.inr (.inr D))) λbZ b0 ce W bg=>?_;have b1:aw.length%2=0:=Lf λD=>aI (.inr (.inl D));have bi:=eq_false_of_ne_true λD=>aI (aU.mp D);refine bE (bk bi) λaD b4=>?_;have b5:=(a.bare.en bU bV ((cw X (c8 (a6 aF aH) 30)).live _ bd)).jD (cw X (c8 (a6 aF aH) 30)) d d bd;replace a:=N.l9 (q:=cw X (c8 (a6 aF aH) 30)) d a b5;refine bx a c 10 d d ?_;intro cf av a;refine bv<|bv<|ZH (cb:={cb with gens:=#[]}) (X:=X) (gt:=J.toNat) S A ai c d ay (pg (mo .(1) b0)).symm bi a ab a1 fK K aM bS ⟨bZ,aN,b1,aS,aW,by lia,by lia,aD,b4,λz O=>(bO ((bg z O).1) (a9 z O) ((bg z O).2)),eQ _ .(1),bW,bY⟩ aA λk aO=>f k ⟨aO.Z,aO.heap,aO.ch,aO.gp,aO.os⟩
  ·have aO:=bc.kk;refine seq (b2 (ZI (e:=az) (aO.ns a d ba) c 6 d d ?_));have R:=(aO.Fo a d).wT ay;refine j (aU.mpr bc.b)<|f _ ⟨R.Z,R.heap,R.ch,R.gp,R.os⟩
theorem jY.FP{eB aW:Nat}(f:jY eB aW O)(bi:v<O.length):∃(m:Nat) (u:aF),O[v]?=some (aj m u)/\eB<=m/\m<=aW:=by refine kb (f.at bi) λm u b a c=>?_;(refine bo (Hx (show(0:Int)<=m by exact y6 a)) λd e=>?_;obtain rfl:=e);exact(el (d) (u) (b) (rH a) (rH c))
theorem FQ(f:∀z∈Q,1<=z.2):∀l,l<=Q.length->(l:Int)<=ju (λm=>(Q.getD m (0,0)).2) l
 |0,_=>Int.le_refl 0
 |l+1,a=>by
  have:=FQ f l (rK a);have b:=f (Q.getD l (0,0)) (by refine j dY (j (da (OE a)) ?_);exact j9 _);refine(?_:_<=ju _ l+_)
  push_cast
  exact OF this b
theorem ZN(B:bb h)(L:aH w h s)(A:aR n 15 120)(bU:n.frames=some [])(bV:s.heap.TableAt 835 833 #[]){aC:V}(bY:s.heap.get? G=some aC)(bZ:aC.cls=.type "list")(hd:aC.data=.seq O.toArray R)(b0:∀i∈O,∃(v:Int) (u:aF),i=.int v u)(b1:O.length<=63)(f:∀k,gf w h [] [] s k->r (.bool true) k):bk w n (.call (.ref 836) ⟨[.ref G],[]⟩) (bW r) s:=by
 refine mZ (C:=r7) (q:=15) (S:=120) (bQ:=[(y "script",.ref G)]) (I:=[some (.ref G),none,none,none,none,none,none,none,none,none,none,none,none,none,none,none,none,none,none]) [y "opening",y "feed",y "given"] (.none true) L trivial A (So B) (λS=>by kernel_rfl) (λS=>by kernel_rfl) .(0) .(1) .(0) d d ?_;intro g o c bj cW Z M b aD a;have fK:(o 0).data=.cell none:=aD 0 _ d;have b4:(o 1).data=.cell none:=aD 1 _ d;have b5:(o 2).data=.cell none:=aD 2 _ d;let M:List (x×V):=[(g+1,o 0),(g+2,o 1),(g+3,o 2)];replace a:N w h _ _ M c:=a;replace A:aR (n.deeper (gg g)) 14 117:=aR.deeper A _;refine seq<|bN<|b3 a b 0 d Rk QM<|Y a b 0 d d<|⟨a.Z.l,Zb B a.Z A.mono (a.aS.heap _ _ bC (.inr d) bY) bZ hd b0 (OG b1) λaJ ab a5 bl b7 m ac ag p t P=>?_⟩;have aI:∀F,c.heap.get? F=none->s.heap.get? F=none:=λF H=>by
  cases z:s.heap.get? F with
  |none=>rfl
  |some aK=>exact iH ((a.aS.heap F aK bC (.inr d) z).symm.trans H)
 have bm:=aI _ ac;have bn:=aI _ ag;replace a:=a.wS (a.call bl b7) (jS aJ ab true p t) (λF H=>by
  refine ed H ?_ ?_
  ·exact .inr ac
  ·exact .inr ag) (λS H=>nomatch H) (λf=>f) m
 clear ac ag bl m aI;let bq:aP:=⟨jp g,s,jS aJ ab true p t,.none⟩;replace a:N w h bq _ _ _:=a;refine iL a b 1 d b4 .(0) d λav c T a=>?_;let M:List (x×V):=[(g+1,o 0),(g+2,av),(g+3,o 2)];replace a:N w h _ _ M c:=a;refine seq<|bN<|aE ?_;intro W;refine dr<|f7<|cg a λah c a=>cg a λai c a=>cg a λak c a=>cg a λal c a=>cg a λam c a=>cg a λan c a=>cg a λao c a=>cg a λap c a=>⟨b6 d,?_⟩;replace a:=a.e8 [.int 16 ah,.int 16 ai,.int 16 ak,.int 18 al,.int 20 am,.int 14 an,.int 15 ao,.int 17 ap];refine b3 a b 1 d gn gm<|cR a b .(0) d (a.at 2 d) T<|a8 8 a λS c a=>⟨a.Z.l,gv B a.Z A.mono p t P a.b4 .(1) λac S c aL R L m=>?_⟩;replace a:=a.en R L m;refine kb (jY.FP (eB:=14) (aW:=20) (O:=[.int 16 ah,.int 16 ai,.int 16 ak,.int 18 al,.int 20 am,.int 14 an,.int 15 ao,.int 17 ap]) ⟨⟨_,_,rfl,by decide,by decide⟩,⟨_,_,rfl,by decide,by decide⟩,⟨_,_,rfl,by decide,by decide⟩,⟨_,_,rfl,by decide,by decide⟩,⟨_,_,rfl,by decide,by decide⟩,⟨_,_,rfl,by decide,by decide⟩,⟨_,_,rfl,by decide,by decide⟩,⟨_,_,rfl,by decide,by decide⟩,trivial⟩ aL) λaq br bs cX cY=>f8 (i:=aj aq br) (IsList.new (a.at 0 d)) fm (zK aL) (by refine j (ft ..) ?_;exact bs) ?_;replace a:=a.cd (cJ _ _);clear bs;refine bx a b 1 d d ?_;intro c Z a;refine seq<|bN<|aE ?_;intro W;refine gr "bytes" _ FB.slot_bytes_getitem.lookup<|b3 a b 2 d Bw Bb<|cR a b .(0) d (a.at 1 d) T<|a8 20 a λS c a=>⟨a.Z.l,C7 B a.Z A.mono p t P a.b4 .(1) .(1) λaM S c bt R L m=>?_⟩;replace a:=a.en R L m;refine(?_:fx w _ _ _ _ _ _);refine(?_:aa w _ _ _ _ _);refine Y a b 1 d d<|lW a .none (.int _ _) (ck (by refine j cN ?_;exact OH bt)) λb8 c a=>?_;refine j ((l6 aM aq).1) ?_;have aO:(aM.take aq).length<=20:=by refine j iC ?_;exact I9 bt
 generalize aM.take aq=b9 at aO⊢;refine bx a b 2 d d ?_;intro c Z a;refine seq<|bN<|aE ?_;intro W;refine c6 a b 3 d jF jN<|ie (aN:=[y "k"]) (aX:=[y "_law_draw"]) _ d (by decide+kernel)<|aE ?_;intro W;refine c6 a b 4 d hN hQ<|b3 a b 1 d gn gm<|cR a b .(0) d (a.at 1 d) T<|a8 4 a λS c a=>⟨a.Z.l,gv B a.Z A.mono p t P a.b4 .(1) λbu S c aQ R L m=>?_⟩;replace a:=a.en R L m;refine iK a λj S S S c a=>jM (v:=bu) A.bd a (a.at 0 d) .(1) (zB aQ) od λca c cb a=>?_;replace a:=a.cd (cJ _ _);refine jf (e:=bq) (aN:=[y "k"]) (aX:=[y "_law_draw"]) (hp A.bd ca 0 1 bu) (λS=>jS aJ ab true p t) (λS=>rfl) a cb b _ (by decide+kernel) (ck (OI aQ)) (λad O ae=>∃J,cf O J/\J.length=ad/\∀v∈J,v<256) ⟨[],trivial,rfl,λS f=>nomatch f⟩ ?_ ?_
 ·intro cc ad U O bw ae bz cd a5 bA ce bB bD bj ch D aS aT a;refine a.eL ?_;intro cZ a;refine aE ?_;intro W;refine aV λci aU=>?_;(refine bo bB λc1 X=>?_;clear bB;obtain rfl:=X);(refine g4 bD λJ aY cj H=>?_;clear bD);refine aU ?_;obtain⟨bG,rfl⟩:=hj aS;refine dF<|cp<|d8 a D 0 d d λl a=>ite<|cT<|aE ?_;intro W;refine b3 a D 0 d gn gm<|cR a D .(0) d (a.bG.2.1.2 _ (.tail _ aG)) T<|a8 3 a λS l a=>⟨a.Z.l,gv B a.Z A.mono p t P a.b4 .(1) λac S l aL R L m=>?_⟩;replace a:=a.en R L m;refine a8 0 a λS l a=>qr (cn ?_);(have bH:∀v u aw aZ a0,v<256->aZ.length=[bG].length->N w h _ aZ ((bz,a4 O bw)::a0) aw->bA (aj v u) aw:=λv u aw aZ a0 cl cm a=>aT _ a0 _ _ (du (J++[v]) (aY.nf _ _) (by simp[cj]) (λco cq=>(List.mem_append.mp cq).elim (H co) λf=>by rw[List.mem_singleton.mp f];exact cl)) cm a);cases ac==0 with
  |true=>refine d2<|dr<|f7<|cg a λah l a=>cg a λai l a=>cg a λak l a=>cg a λal l a=>cg a λam l a=>cg a λan l a=>cg a λao l a=>cg a λap l a=>⟨b6 d,?_⟩;replace a:=a.e8 [.int 65 ah,.int 126 ai,.int 32 ak,.int 31 al,.int 127 am,.int 200 an,.int 97 ao,.int 48 ap];refine b3 a D 0 d gn gm<|cR a D .(0) d (a.bG.2.1.2 _ (.tail _ aG)) T<|a8 8 a λS l a=>⟨a.Z.l,gv B a.Z A.mono p t P a.b4 .(1) λag S l ax R L m=>?_⟩;replace a:=a.en R L m;refine kb (jY.FP (eB:=31) (aW:=200) (O:=[.int 65 ah,.int 126 ai,.int 32 ak,.int 31 al,.int 127 am,.int 200 an,.int 97 ao,.int 48 ap]) ⟨⟨_,_,rfl,by decide,by decide⟩,⟨_,_,rfl,by decide,by decide⟩,⟨_,_,rfl,by decide,by decide⟩,⟨_,_,rfl,by decide,by decide⟩,⟨_,_,rfl,by decide,by decide⟩,⟨_,_,rfl,by decide,by decide⟩,⟨_,_,rfl,by decide,by decide⟩,⟨_,_,rfl,by decide,by decide⟩,trivial⟩ ax) λcr cs ct c2 cu=>f8 (i:=aj cr cs) (IsList.new (a.at 0 d)) fm (zK ax) (by rw[ft];exact ct) ?_;replace a:=a.cd (cJ _ _);exact bH _ _ _ _ _ (OJ cu) (by dsimp) a
  |false=>refine dw<|a2<|a8 33 a λS l a=>b3 a D 0 d gn gm<|cR a D .(0) d (a.bG.2.1.2 _ (.tail _ aG)) T<|a8 90 a λS l a=>⟨a.Z.l,gv B a.Z A.mono p t P a.b4 .(1) λag S l ax R L m=>?_⟩;replace a:=a.en R L m;refine eZ a λS l a=>bH _ _ _ _ _ (Jz ax) (by dsimp) a
 intro cv cw cx ae c ⟨J,cy,cz,cA⟩ _ a;have bI:J.length<=3:=y2 aQ cz;refine ne a A.bd (a.at 0 d) cy cA (ck (zH bI)) λcB c a=>?_;have a1:(gc J).length<=3:=by simp[gc];exact IW bI
 generalize gc J=cC at a1⊢;let M:List (x×V):=[(g+1,o 0),(g+2,av),(g+3,o 2)];replace a:N w h _ _ M _:=a.cd (.cons _ (abn _ _));refine bx a b 3 d d ?_;intro c Z a;refine seq<|Df<|b3 a b 5 d Rl QT<|cR a b .(0) d (a.at 1 d) T<|⟨a.Z.l,Zd B a.Z A.mono p t P a.b4 λc3 ar cD a3 Q cE cF a5 bJ R L m a7 af ay=>?_⟩;let as:aP:=aP.push ⟨jp g,s,jS aJ ab true p t,.none⟩ (gy c.heap a5.heap);have a9:N w h as _ _ _:=N.l9 (q:=jS aJ ab true p t) d a (a.en R L m);refine kr A.bd a9 (du (_) (a9.bG.1 _ _ a7.2.2 a7.2.1 a7.1) (rfl) ⟨_,rfl⟩) λl a R=>?_;clear a9;refine cp (bx a b 4 d d ?_);intro l Z a;refine cp (bx a b 5 d d ?_);intro l Z a;have bK:Q.length<=17:=by
  rcases bJ.g with au|au
  ·(refine bE au λX R=>?_;clear au;obtain rfl:=X);exact ir (pC ..)
  ·(refine bE au λf R=>?_;clear au);exact OK f
 have ba:∀{I bc k},N w h as I bc k->er k.heap ar (a4 a3 cD)/\bT (hA (er k.heap)) a3 Q:=λa=>⟨⟨a.bG.1 _ _ af.2.2 af.2.1 af.1,af.2.1⟩,ay.keep λU az i=>i.keep λF aK K=>⟨a.bG.1 F aK K.2.2 K.2.1 K.1,K.2.1⟩⟩;refine seq<|bN<|b3 a b 6 d Rm QV<|Y a b 2 d d<|Y a b 3 d d<|Y a b 4 d d<|Y a b 5 d d<|⟨a.Z.l,Ze B a.Z A.mono (ba a).1 (ba a).2 (OL aO) (ob a1) (OM bK) λbd aw bL n9 cG=>?_⟩;replace a:=a.call n9 cG;refine bx a b 6 d d ?_;intro c4 Z a;have cH:∀{I bc k},N w h as I bc k->r (.bool true) k:=λa=>f _ ((bP.kk (aB:=[]) a.aS a.Z).wT λF H=>by
  refine ed H ?_ ?_
  ·exact bm
  ·exact bn)
 have fin2:∀{k},N w h as [some (.ref G),some (aj aq br),some (a6 b9 b8),some (a6 cC cB),some (.ref ar),some (.int cE cF),some (.bool bd),none,none,none,none,none,none,none,none,none,none,none,none] [(g+1,o 0),(g+2,av),(g+3,o 2)] k->(bd=false->ju (λE=>(Q.getD E (0,0)).2) Q.length<=3)->aa w (n.deeper (gg g)) (ej ((fv (bX 86)).drop 7) (gg g)) (ia r) dh k:=λa bM=>
  ZM B A bU b bm bn p t P a bV T b5 fK af ay aO a1 bJ bL (λhd=>⟨by
   have cI:=bM hd;have cK:=FQ (Q:=Q) (λaz be=>by
    rcases Classical.em (jo az) with K|K
    ·have:=K.1;have:=K.2.1;exact ON (by assumption) this
    ·have:=bL.mpr (.inr (.inr (.inr (.inr (.inr (.inr (bF (az) (be) (.inl K))))))));rw[hd] at this;exact absurd this .(1)) Q.length (c9 _)
   exact Pd cI cK,bM hd⟩) f
 refine seq<|ifs<|oX<|mY<|gq<|Y a b 6 d d (cn ?_);cases bd with
 |true=>exact dw (dw (bv (fin2 a λz=>nomatch z)))
 |false=>
  refine d2<|aE ?_;intro W;refine oX<|cT<|aE ?_;intro W;refine c0 a b 7 d vp v_sum<|ie (aN:=[y "need",y "many"]) (aX:=[]) _ d (by decide+kernel)<|Y a b 4 d d ?_;have aA:=a.b9 ar (cU _ (mb af));have bO:=ay.len;refine gP A.bd a (IsList.new (ba a).1.1) (dS (aA.1) (aA.2.1) (aA.2.2.1) (aA.2.2.2.1)) λcL bf cM cO a=>jf (e:=as) (aN:=[y "need",y "many"]) (aX:=[]) (fy A.bd cL ar cM a3.toArray) (λW=>jS aJ ab true p t) (λW=>rfl) a cO b _ (by decide+kernel) (ck (by rw[cN];exact O7 bK bO)) (λad O ae=>O.length=ad/\∀(E:Nat) U,O[E]?=some U->∃u,U=.int (Q.getD E (0,0)).2 u) ⟨rfl,λE U z=>by trivial⟩ ?_ ?_
  ·(intro cc ad U O bw ae bz cd c5 bA ce cP bR bj ch D aS aT a;(refine bE bR λbg aY=>?_;clear bR));(refine eJ (hk aS) λbG c7 X=>?_;obtain rfl:=X);refine aV λci aU=>?_;(refine bp (ay.at (by simpa using cP)) λaz be X=>?_;obtain⟨c8,da,cQ,rfl,bh⟩:=X);all_goals refine aU ?_
   refine qL (G:=ar) a.bG.1.1<|kr A.bd a (du (_) (a.bG.2.2.1 _ _ bh.2.2 bh.2.1 bh.1) (rfl) ⟨_,rfl⟩) λbS a W=>cp<|d8 a D 0 d d λbS a=>cp<|d8 a D 1 d d λbS a=>Y a D 1 d d<|aT _ ae _ _ ⟨by simp[bg],λE U z=>?_⟩ (by dsimp) a;rcases gB E O.length with aW|aW
   ·rw[pD aW] at z;exact aY E U z
   ·rw[pE aW] at z;have:E=ad:=by have:=(List.getElem?_eq_some_iff.mp z).1;simp at this;exact yF bg aW this
    subst this;rw[bg,Gk] at z;(obtain rfl:=dg z;clear z);refine⟨cQ,?_⟩;rw[dY,be];rfl
  intro cv cw cx ae bf ⟨cS,cV⟩ _ a;refine Zj a A.bd (IsList.new (a.at 0 d)) cV λW bf a=>?_;rw[cS,cN,bO];let M:List (x×V):=[(g+1,o 0),(g+2,av),(g+3,o 2)];replace a:N w h _ _ M _:=a.cd (.cons _ (abn _ _));refine cg a λW bf a=>iJ (cn ?_);by_cases bi:ju (λE=>(Q.getD E (0,0)).2) Q.length>3
  ·refine fi (decide_eq_true bi)<|Ec<|d2<|seq (b2 (i8 (cH a)))
  ·refine dN (decide_eq_false bi) (dw (bv (fin2 a λW=>by exact OO bi)))
section
variable{w:aD}{h:x->a1}{s:H}
theorem nz{f:au}{e P A:Nat}{v t:String}{u:Nat}{G l J C S:Int}{aC ci co cW:p}(o:f.get? e=some (hL A v t u G l J C S (.ref P) aC ci co cW))(bi:e≠P):CodeHd f e P:=⟨_,_,_,_,_,_,_,_,_,o,rfl,rfl,rfl,rfl,rfl,rfl,rfl,rfl,bi⟩
theorem ZO{f:au}(aO:(ak w h).In f):∀z∈hM,CodeHd f z.1 z.2:=
 aJ (nz (aO 61 (bY 56 "int_to_indices" "int_to_indices" 279 35 3 0 3 288) .(0)) .(1))<|
 aJ (nz (aO 68 (bY 63 "_xor" "_xor" 294 40 2 0 3 299) .(0)) .(1))<|
 aJ (nz (aO 138 (bY 133 "words_from_indices" "words_from_indices" 469 98 1 0 3 473) .(0)) .(1))<|
 aJ (nz (aO 721 (bY 716 "_interpolate" "_interpolate" 1929 444 2 0 3 1941) .(0)) .(1))<|
 aJ (nz (aO 752 (hL 749 "split_ems" "split_ems" 1985 511 5 0 3 1988 (.ref 750) .none .none .none (.ref 751)) .(0)) .(1))<|
 aJ (nz (aO 765 (hL 762 "generate_mnemonics" "generate_mnemonics" 2003 538 9 0 3 2006 (.ref 763) .none .none .none (.ref 764)) .(0)) .(1))<|
 aJ (nz (aO 835 (hL 832 "law" "law" 2102 663 1 0 3 2105 (.ref 833) .none .none .none (.ref 834)) .(0)) .(1)) nofun
theorem vs{t:Program}{loose:List al}{tm:(al->Option p)->au->Prop}{aK:H}{Fs g:al->Option p}(ap:Ground t loose [] tm w aK Fs g s.heap)(i:p4 w s.heap)(m:s.gens=#[]):
 ∃h,bb h/\aH w h s/\s.heap.TableAt 835 833 #[]:=by
 (refine bp i λh k n=>?_;clear i;(refine bE k λo d=>?_;clear k));have aO:(ak w h).In s.heap:=λe q a=>o (e,q) (uZ a);have f:=ZO aO;have r:aH w h s:=⟨aO,λb c=>(bF (#[]) ((f b c).code (d _ (i2 b c).2.2.1) trivial) ((f b c).tab (d _ (i2 b c).2.2.1))),.of_eq m,(bF (g) (ap.T.b) (ap.T.builtins))⟩;refine(du (h) (⟨λu e a9 l=>?_⟩) (r) ((f (835,833) .(1)).tab (d _ .(1))));have a:=n u e a9 (by unfold rW;refine j dR (j l ?_);rfl) (by unfold rX;refine j dR (j l ?_);rfl);exact⟨a.1,a.2.1,a.2.2⟩
theorem ZP{av:WRecords}{ba:al->Option x}{f:au}{O:List WData}{ar:List p}{d:List x}(A:ReadsAllW av ba f ar O d)(aW:∀q∈O,∃m,q=.int m):ar.length=O.length/\∀i∈ar,∃(v:Int) (u:aF),i=.int v u:=⟨A.length,λi e=>by refine bo (fr e) λm a=>?_;have b:m<O.length:=A.length▸(List.getElem?_eq_some_iff.mp a).1;refine bo (aW _ (j9 b)) λg h=>kb (A.at m _ (da b)) λl n j c W=>?_;obtain rfl:=dg (a.symm.trans j);rw[h] at c;exact bp (readsW_int_inv c) λu k W=>(h4 (g) (u) (k))⟩
theorem ZQ{O:List WData}(f:PySem.Challenge.rw_ja0054_01.row.toRowW.pre.holds [] {args:=[.list O]}=true):O.length<=63:=by
 have a:(WTm.and (.not (.lt (.lit (.int 63)) (.len (.arg 0)))) (.lit (.bool true))).holds [] {args:=[.list O]}=true:=f;by_cases c:O.length<=63
 ·exact c
 ·have b:HB [] (.lt (.lit (.int 63)) (.len (.arg 0))) {args:=[.list O]}=some (.bool (decide ((63:Int)<(O.length:Int)))):=by kernel_rfl
  rw[decide_eq_true (show(63:Int)<(O.length:Int) by omega)] at b;unfold WTm.holds at a;unfold HB at a;unfold HB at a;rw[b] at a;exact nomatch a
theorem post_of(O:List WData):PySem.Challenge.rw_ja0054_01.row.toRowW.claim.post [.list O] (.bool true) [.list O]=true:=by kernel_rfl
theorem finish{t:Program}{loose:List al}{tm:(al->Option p)->au->Prop}{q:DefRec}{z:List (al×am)}(bi:q.name=y "law"):
 WalkO t loose tm p4 PySem.Challenge.rw_ja0054_01.row.toRowW q z λC ar=>PySem.call C ar:=by
 intro A ab ac ad ae s B D af ag ah doc ai aj an ao ap aq u E args F as G av v aw ax;refine g4 (vs s B E) λH I k J=>?_;have K:=mg_of k.l s.T.g (show bK (ak A H) 3 (y "law")=some (some (.ref 836)) by kernel_rfl);rw[bi,K] at u;cases u;refine bE (pre_splitW G) λL a=>?_;obtain⟨ay,az,rfl,M,N⟩:=hasAllW_cons L;have:=hasAllW_nil N;subst this;(refine bp (hasW_list M) λO b P=>?_;obtain rfl:=b);have Q:=ZQ a;have S:F.length=1:=v.length;refine bo (hj S) λaA b=>?_;obtain rfl:=b;refine kb (v.at 0 _ d) λaB aC e t K=>?_;obtain rfl:=dg e;refine kT (readsW_list_inv t) λaD T aE U V W K=>j U<|g4 V λaF X Y Z=>bo Z λaa n=>?_;have w:=ZP W λq n=>hasW_int (hasItemsW_at P q n);refine k0 (ZN (O:=T.toList) (R:=aa) I k ⟨by decide,by decide,rfl⟩ d J X Y (j n d) w.2 (by refine j w.1 ?_;exact Q) λaG aO=>?_);refine⟨.inl (n7 (.bool true) (.bool true) ([]) (rfl) (λW=>rfl) (.bool true) (post_of _) (λW=>⟨qZ,λD f=>nomatch f⟩)),⟨λc l e=>?_,λc l e=>?_⟩,aO.os,aO.Z.bare⟩
 ·by_cases g:c∈cK
  ·(refine bp (zY c g) λh a b=>?_;obtain rfl:=b);refine bp (k.tab h a) λm W i=>bo (aO.gp h a m i) λx o=>?_;have r:=i.2;rw[e] at r;(obtain rfl:=(dg r).symm;clear r);exact .inr (.inl (bO (i.isCodeTable) (rfl) (eU (m) (x) (rfl) (o.2))))
  ·exact .inl (aO.heap c l g (λf=>nomatch f) bC e)
 ·by_cases g:c∈cK
  ·(refine bp (zY c g) λh a b=>?_;obtain rfl:=b);refine bp (k.tab h a) λm W i=>bo (aO.gp h a m i) λx o=>⟨_,o.2⟩
  ·exact⟨l,aO.heap c l g (λf=>nomatch f) bC e⟩
end
noncomputable def tn(a:Thread->Bool)(a9:rp->Thread->Option (rp×Thread)):Nat->rp->Thread->Option rp
 |0,_,_=>none
 |v+1,s,u=>match through u with
  |true=>some s
  |false=>match a u with
   |false=>none
   |true=>match a9 s u with
    |some (k,eN)=>tn a a9 v k eN
    |none=>none
theorem Zzt(a:Thread->Bool)(a9:rp->Thread->Option (rp×Thread))(v:Nat)(s:rp)(u:Thread):tn a a9 (v+1) s u=match through u with
  |true=>some s
  |false=>match a u with
   |false=>none
   |true=>match a9 s u with
    |some (k,eN)=>tn a a9 v k eN
    |none=>none:=rfl
theorem FR{b:String->Option Builtin}{z:Program}{w:aD}{c:Nat}{d:Option p}:∀{v:Nat} {s k:rp} {u:Thread},tn (stepOk c d) (stepT (denote b) z w) v s u=some k->topRun b z w c d v s.abs u=some k.abs
 |0,_,_,_,a=>cz a
 |v+1,s,k,u,a=>by
  rw[Zzt] at a;unfold topRun;cases f:through u with
  |true=>rw[f] at a;(obtain rfl:=dg a;clear a);rfl
  |false=>
   rw[f] at a;cases g:stepOk c d u with
   |false=>rw[g] at a;exact cz a
   |true=>
    rw[g] at a;cases e:stepT (denote b) z w s u with
    |none=>rw[e] at a;exact cz a
    |some h=>obtain⟨i,l⟩:=h;rw[e] at a;refine j (stepT_spec e) ?_;exact FR a
noncomputable abbrev iT:Program:=ff
noncomputable def FT:List V->Nat->BT->BT
 |[],_,u=>u
 |a::A,m,u=>FT A (m+1) (u.ins m a)
noncomputable def FU(P:gC):BT:=FT (gH P).objs.toList 0 .nil
noncomputable def gb(w:aD)(os:pt):SharedT:=⟨FU w.params,(gH w.params).objs.size,(gH w.params).life,#[],rq,t2,os⟩
theorem ZR(P:gC):absHeap (FU P) (gH P).objs.size (gH P).life=gH P:=by kernel_rfl
noncomputable def qS(w:aD)(os:pt):Option SharedT:=tn (Fast.tw6613529449190102663 (gH w.params).objs.size ((gH w.params).nsMap HD "__annotations__")) (Fast.tw10156331382660048174 (Fast.tw11892475500146522536 Fast.tw14364793385576792824) iT w) 9000 (gb w os) (topStub iT)
theorem ZS{w:aD}{os:pt}{s:rp}(f:qS w os=some s):topRun treeTable iT w (gH w.params).objs.size ((gH w.params).nsMap HD "__annotations__") 9000 ⟨gH w.params,#[],rq,t2,os⟩ (topStub iT)=some s.abs:=by
 have a:(⟨gH w.params,#[],rq,t2,os⟩:H)=(gb w os).abs:=by unfold gb SharedT.abs;exact j (ZR ..) d
 refine j a ?_;refine FR ?_;unfold qS at f;rw[<-Fast.te6613529449190102663,<-Fast.te10156331382660048174,<-Fast.te11892475500146522536,<-Fast.te14364793385576792824] at f;exact f
noncomputable def jq:Program:=view iT [86]
noncomputable def kE:List Str:=(iT.main.scope.names.filter λi=>i.2==.local).dropLast.map (·.1)
noncomputable def nA(s:H):Bool:=xlAt jq [] s&&recOk [] s
noncomputable abbrev o8:List Str:=importedModules iT.main.body
noncomputable def qT(P:gC)(s:H):Bool:=(gH P).isNs HD&&(staticsOk o8 (gH P) s.heap&&namesBound iT s.heap&&gensDone s&&laidKept (gH P) s.heap)
theorem ZT(w:aD)(os:pt):(qS (w.withFollow "special-get-raises" false) os).map (λs=>(qT w.params s.abs,x8 jq kE o8 nA true s.abs,lP s.abs))=some (true,x9 jq kE,lQ w):=by kernel_rfl
theorem ZU(w:aD)(os:pt):(qS (w.withFollow "special-get-raises" true) os).map (λs=>(qT w.params s.abs,x8 jq kE o8 nA true s.abs,lP s.abs))=some (true,x9 jq kE,lQ w):=by kernel_rfl
theorem ZV(w:aD)(os:pt):(qS w os).map (λs=>(qT w.params s.abs,x8 jq kE o8 nA true s.abs,lP s.abs))=some (true,x9 jq kE,lQ w):=by
 have b:=World.withFollow_self w "special-get-raises";cases c:w.params.followText "special-get-raises" with
 |false=>have a:=ZT w os;rw[c] at b;rw[b] at a;exact a
 |true=>have a:=ZU w os;rw[c] at b;rw[b] at a;exact a
theorem left:LeftO iT jq kE nA lP lQ 9000:=λa=>by
 obtain⟨⟨f,g,h,i,os⟩,j,k⟩:=Option.map_eq_some_iff.mp (boot_open (p:=iT) (N:=9000) .(0) .(0) (λW=>by kernel_rfl) a);obtain⟨rfl,rfl,rfl,rfl⟩:f=gH a.params/\g=#[]/\h=rq/\i=boot_toks:=by simpa using k
 obtain⟨b,l,c⟩:=Option.map_eq_some_iff.mp (ZV a os);have d:qT a.params b.abs=true:=congrArg (·.1) c;have e:x8 jq kE o8 nA true b.abs=x9 jq kE:=congrArg (·.2.1) c;have m:lP b.abs=lQ a:=congrArg (·.2.2) c;rw[<-Fast.te4187177175401517315] at e;unfold qT at d;obtain⟨n,o⟩:=Bool.and_eq_true_iff.mp d;have q:=ZS l;have r:topFrom treeTable iT a 9000 ⟨gH a.params,#[],rq,t2,os⟩=some b.abs:=by unfold topFrom;dsimp only;rw[n,q];show(match staticsOk o8 (gH a.params) b.abs.heap&&namesBound iT b.abs.heap&&gensDone b.abs&&laidKept (gH a.params) b.abs.heap with|true=>_|false=>_)=_;rw[o]
 unfold openEnds;rw[j];show((topFrom treeTable iT a 9000 ⟨gH a.params,#[],rq,t2,os⟩).map _)=_;rw[r];show some (_,_)=_;rw[e,m]
noncomputable abbrev fZ:Program:=ff
noncomputable def to:Look:={strict:=!(importedModules fZ.main.body).all cThrough.contains,foot:=none,bare:=(["vars","dir","locals"]:List al).filter (readsOut fZ fZ.main.body)}
theorem ZW:namesResolve fZ=true:=(congrFun Fast.te8377067652309620493 _).trans .(0)
theorem ZX:(pH to (fZ.main.body.take 54))=true:=(congrFun (congrFun HE _) _).trans .(0)
theorem ZY:(pH to (fZ.main.body.drop 54))=true:=(congrFun (congrFun HE _) _).trans .(0)
theorem ZZ:namesMeet fZ fZ.main.body (λW v=>attrL v)=true:=by rw[abo,Fast.te17868728402115742887];kernel_rfl
theorem FV(l:Look):∀c b:List bu,pH l (c++b)=(pH l c&&pH l b)
 |[],b=>by exact(Hf _).symm
 |a::c,b=>(congrArg (noRoadLS l a&&·) (FV l c b)).trans (Bool.and_assoc ..).symm
theorem Z0:pH to fZ.main.body=true:=by rw[<-rl 54 fZ.main.body,FV,ZX,ZY];rfl
theorem Z1:looksOpen fZ=true:=by have b:looksOpen fZ=(sreFenced fZ.main&&((moduleNames fZ.main.body).isEmpty||lookedIntoSs (moduleNames fZ.main.body) fZ.main.body)&&namesResolve fZ&&fZ.boundNames.all (λa=>!worldNames.contains a)&&pH to fZ.main.body&&namesMeet fZ fZ.main.body λW a=>attrL a):=rfl;rw[b,ZW,Z0,ZZ];kernel_rfl
theorem Z2:HF PySem.Challenge.rw_ja0054_01.row=true:=by unfold HF OpenRow.partSaid;rw[show looksOpen PySem.Challenge.rw_ja0054_01.row.prog=true from Z1];kernel_rfl
theorem w6:abp PySem.Challenge.rw_ja0054_01=true:=by unfold abp;rw[show HF PySem.Challenge.rw_ja0054_01.row=true from Z2,HE,abo];kernel_rfl
end Zz.Internal
set_option maxHeartbeats 0 in
theorem PySem.Challenge.cw_ja0054_01_holds : PySem.Challenge.rw_ja0054_01.Holds := by
 w_on
 refine holds_law Zz.Internal.w6 λw6=>?_;refine holds_open (q:=Zz.Internal.jq) (loose:=Zz.Internal.kE) (Xt:=Zz.Internal.nA) (XP:=XL Zz.Internal.jq []) (Yf:=Zz.Internal.lP) (Ya:=Zz.Internal.lQ) (YP:=Zz.Internal.p4) (N:=9000) Zz.Internal.left (Hook.of Zz.Internal.zX) (Hook.keeps Zz.Internal.zX) (λb a=>xl_of b (Bool.and_eq_true_iff.mp a).1) XL.keeps (by rfl) (by rfl) (by rfl) (λb a=>recFacts_of (Bool.and_eq_true_iff.mp a).2) (by rfl) w6 (by decide+kernel) ⟨rfl,rfl,rfl,rfl,rfl,by decide+kernel⟩ ?cY ?abv;case cY=>w_witness2
 exact Zz.Internal.finish rfl
