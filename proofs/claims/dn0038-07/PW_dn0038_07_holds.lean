import PyProof.Rows.All
import Wide.All
import OpenK.AllK
import Wide.FinOn
import KE.KLam
import KE.TryLedger
import KE.KRevSl
import KE.KEqSeq
import KE.KStar
import KE.KBoundM
import KE.KEqDict
import KE.KDictOf
import PyProof.Rows.RuleDivmod
import PyProof.MeetsDictList
import PyProof.DictTruth
import PyProof.EnumMake
import PyProof.EnumStmt
import PyProof.EnumFor
import PyProof.ZipIter
import PyProof.ListCopy
import PyProof.Rows.TupAssign
import KE.KSortKey
import KE.KMinKey
import PyProof.CompUse
import Lean
import PySem.Challenge.RW_dn0038_07
set_option Elab.async false
set_option maxRecDepth 100000
set_option linter.all false
set_option compiler.extract_closed false
set_option bootstrap.genMatcherCode false
set_option maxHeartbeats 8000000
open PySem renaming Value->ab,Shared->ae,wpAny->al,Around->aD,wpAny_bind->aG,Params->aO,cellsFrom->aY,wpAny_execs_nil->bi,wpAny_mono->bx,wpAny_pure->bH,Scope->bS,sizeLine_eq->bW,mainGlobals->b7,starEach->ck,sizeLine->cB,NameKind->c5,codeAny->dB,wpAny_Assign_Name->dI,Comprehension->d9,wpAny_truthy_bool->d_,execs->eo,wpAny_isTrue_Compare1->er,bootBuiltins->eH,keywordEach->eJ,rawInt->eK,wpAny_If->eL,backTo->e9,bindArgs->e!,compareOp->fy,wpAny_assign_Name->fA,Result->fP,foldedSetIterable->fQ,intKind->fR,wpAny_holding->fS,assign->ge,backToKw->gw,callWith->gx,Arguments->gQ,getItem->gV,model->gW,operate->gX,pyIter->gY,subscripted->gZ,wpAny_Constant_none->g0,intItems->hX,getAttr->iG,swapsWith->iH,Program->jf,holding->jh,intKind_is->ji,plainObj_wpAny_Assign_Attribute->jj,wpAny_call->jk,wpAny_field->jl,Model->jX,getMethod->j4,numAt->j5,recursionLimit->j6,wpAny_standAt->j7,BindsTo->kI,letOwnedTupleGo->kQ,pyNext->kS,standAt->kT,valueAt->kU,wpAny_For->kW,Builtin->l5,binaryOp->mf,cellOf->mh,isSubtype->mi,relabel->mj,storeName->ml,wpAny_of_eq->mo,IsPair->ny,builtinLookup_eq_fast->nN,clipAt->nO,codeAmong->nQ,isSubtype_type->nU,setAttr->nV,typeLookup_type->nW,wpAny_BinOp->nX,wpAny_Name->nY,wpAny_Return_some->nZ,wpAny_loadName_local->n7,wpAny_newObj_type->n8,Keyword->pY,TriplesOk->qc,argBest->qd,builtinsNs->qe,callerA->qf,closureFor->qg,newFunctionEnv->qi,newTuple->qj,scanBound->qk,slicePick->ql,DictEntry->sD,FuncData->sF,call_meets->th,call_meetsIn->ti,compPost->tj,compTurn->tl,defaultsOf->tm,evalPart->tn,typeLookup->tv,wpAny_AugAssign_AttributeAny->tw,wpAny_call_entry->tx,wpAny_comprehension_free->ty,wpAny_execs_cons->tz,wpAny_seqItems->tA,codeAny_call_function->xF,codeAny_func->xG,loadIfAlive->xI,slot_list_getitem->xJ,wpAny_Assign_Subscript->xK,wpAny_attempt->xL,wpAny_isTrue_value->xM,wpAny_storeName_local->xN,wpAny_Constant_bool->EJ,wpAny_callSpecial?_slot->EK,wpAny_loadName_free->EL,wpAny_newFunctionEnv->EM,wpAny_nextOf_list_item->EN
open List renaming length_map->aw,mem_singleton->aK,mem_append->aT,mem_cons->aW,not_mem_nil->aX,map_append->bf,mem_map->bh,getElem?_map->bp,map_cons->bq,mem_append_right->bt,mem_filter->bN,mem_append_left->b?,getElem?_eq_getElem->cz,length_append->cA,lookup_cons->cP,nodup_append->cQ,size_toArray->dh,nodup_cons->dq,append_nil->dw,pairwise_append->dx,getElem?_eq_some_iff->dG,pairwise_cons->dH,map_map->dW,mem_of_getElem?->en,all_eq_true->eE,append_assoc->eF,length_cons->eQ,filter_cons->fu,take_length->fv,foldl_append->gu,filter_sublist->gS,foldl_cons->hO,length->hU,range->hV,eq_nil_of_length_eq_zero->iv,filterMap_append->iw,getElem_mem->iy,length_filter_le->iz,nil_append->iA,nodup_nil->iB,take_add_one->iC,filterMap_cons_some->jd,length_take->je,getD_eq_getElem?_getD->jV,mem_range->jW,map_congr_left->kN,cons_append->l8,filterMap_cons_none->l9,getElem?_append_right->l!,length_nil->l?,sum_append->l_,eraseIdx_eq_take_drop_succ->nz,filterMap_cons->nA,map_drop->nB,map_nil->nC,map_take->nD,perm_ext_iff_of_nodup->nE,toList_toArray->nG,filter_append->p0,flatten_append->p4,getElem?_append_left->p5,length_range->p6,pairwise_iff_getElem->p7,replicate->p8,take_append_drop->p9,any_map->sN,dropLast_concat_getLast->sP,filter_congr->sQ,filter_eq_nil_iff->sR,filter_map->sS,find?_cons->sU,getElem?_eq_none->sV,mem_cons_of_mem->sW,pairwise_singleton->sX,range'->wO,any_eq_true->w7,dropWhile_cons->w8,drop_eq_getElem_cons->w!,eq_nil_or_concat->w?,filter_cons_of_neg->w_,filter_cons_of_pos->xa,filter_eq_self->xb,filter_nil->xc,find?_some->xd,getElem?_cons_succ->xe,getElem_cons_zero->xf,getElem_inj->xg,map->xh,map_filterMap->xi,map_set->xj,mem_cons_self->xk,mem_filterMap->xl,mem_of_find?_eq_some->xm,mem_of_mem_take->xn,pairwise_map->xo,perm_append_comm->xq,takeWhile_cons->xr,zip_cons_cons->xt,any_eq_false->D',append_toArray->D!,drop_length->D?,filter_filter->D_,find?_eq_none->Ea,flatten_cons->Eb,forIn_cons->Ec,getElem?_of_mem->Ed,getElem_range->Ee,head?_drop->Ef,length_drop->Eg,length_eq_one_iff->Eh,length_eq_zero_iff->Ei,length_pos_of_mem->Ej,mergeSort_perm->Ek,pairwise_mergeSort->El,perm_middle->Em,range_succ->En,takeWhile_append_dropWhile->Eo,take_left->Ep,take_zero->Es
open Option.some renaming inj->ax
open Ne renaming symm->aI
open Nat renaming le_of_ble_eq_true->bl,le_refl->bD,le_trans->bF,lt_irrefl->dz,ne_of_lt->d!,lt_of_lt_of_le->fx,lt_of_le_of_lt->fO,lt_succ_of_lt->ga,lt_succ_self->gc,le_of_lt->gv,not_lt_zero->gU,lt_trans->hW,le_add_right->iD,zero_lt_succ->iE,le_add_left->jY,ne_of_gt->jZ,zero_le->kO,lt_of_succ_lt_succ->ma,succ_le_succ->mc,succ_lt_succ->md,zero_add->me,le_of_succ_le->nI,not_lt_of_le->nJ,le_of_not_lt->p?,le_succ->p_,add_comm->sY,le_of_lt_succ->s?,le_of_succ_le_succ->s_,le_succ_of_le->ta,ne_add_one->tc,le_zero->xw,lt_of_le_of_ne->xx,lt_succ_of_le->xy,le_antisymm->Ew,le_of_add_right_le->Ey,lt_of_lt_of_eq->Ez,min_eq_left->EA,min_le_right->EB,not_le_of_lt->EC,sub_pos_iff_lt->ED,succ_ne_self->EE
open Eq renaming symm->bn
open Int renaming le_trans->bo,le_refl->br,le_of_lt->cM,lt_of_lt_of_le->dF,not_lt->eD,lt_of_le_of_lt->fq,ne_of_lt->jc,natCast_nonneg->kL,neg_neg->kM,toNat_natCast->l7,lt_irrefl->nu,not_le->nv,sub_eq_iff_eq_add'->pT,le_of_eq->pW,zero_add->pX,add_zero->sI,fdiv_eq_ediv_of_nonneg->sJ,le_add_one->sK,mul_ediv_add_emod->sL,add_assoc->wS,add_sub_assoc->wT,fmod_nonneg_of_pos->wU,le_antisymm->wW,lt_trans->wX,sub_left_lt_of_lt_add->wY,sub_nonneg_of_le->wZ,add_pos_of_pos_of_nonneg->DQ,fmod_eq_emod_of_nonneg->DR,fmod_lt_of_pos->DT,le_sub_left_of_add_le->DU,le_sub_one_of_lt->DW,lt_add_one_of_le->DX,lt_of_toNat_lt->DY,lt_trichotomy->DZ,natCast_zero->D0,sub_le_sub_left_iff->D3,sub_lt_sub_left->D4,sub_right_inj->D5,sub_sub_self->D6
open Option renaming map_eq_some_iff->bu,none->iF,isSome_iff_exists->j0,isSome_map->td,bind_eq_some_iff->xB,map->xC,getD_some->EG,or_none->EH,some->wf
open Or renaming elim->cg
open PySem.Heap renaming lt_size->cZ,get?_push_of_some->gR,SameBut->kJ,size_push->nr,get?_push_size->pV,get?_none_of_le->sH,get?_update_self->DP
open PySem.W renaming keepIn->dr,tabObj->d?,findIn->eI,kla_fn->kP,plainGet->kR,codeRec_of->nR,emptyDict->nS,hasDictIn->nT,kla_obj->qh,plainOver->tq,specialIn->tr,callWith_of->xD,copiedNames->xH
open Bool renaming false_ne_true->dE,and_eq_true->f_,or_eq_true->lZ,not_eq_true'->pS,eq_iff_iff->wQ,false_and->wR,and_eq_true_iff->DL,false_eq_true->DM
open PyProof.Rows renaming Attribute_any_->ej,Subscript_->jg,IntsAre->nx,tail_any->qm,subscriptTail->tu
open Prod.mk renaming inj->eG,injEq->tf
open Prod renaming ext->eR,fst->nK,snd->nL
open List.Nodup renaming length_le_of_subset->gr
open Min renaming min->gT
open Lean renaming Syntax->jU
open Iff renaming rfl->kK
open PySem.Heap.SameBut renaming update->l6
open Function renaming comp->no
open PySem.NameKind renaming cell->nH,free->p!
open PyProof renaming noPylong_small->nM
open PySem.F renaming slot_zip_next->pU,args_zip_next_1->DO
open List.cons renaming injEq->pZ,inj->sO
open Nat.succ renaming inj->qa
open Std renaming lt_of_le_of_ne->qb
open And renaming intro->sB
open PySem.Builtin renaming divisionGoesByPylong->sC
open ForInStep renaming yield->sE
open HAdd renaming hAdd->sG
open PySem.IntMulOk renaming of_left->sM
open Nat.le renaming intro->sZ
open Array renaming toList_append->wP,getElem?_toList->DK
open Int.le renaming intro->wV
open PySem.Manifest renaming find?->xu
open PySem.Obj renaming data_mapFields->xz,isFreed_of_fields->EF
open Classical renaming byContradiction->DN
open List.Perm renaming append_left->D7,append_right->D8,refl->D9
open PySem.W.Looks renaming of_pure->Et
open PySem.Calls renaming Name_function_global->Eu
open PySem.PyData renaming keyHash->EI
open PySem.Builtin.SmallTypes renaming ownedTupleIsFree->XT
open PySem.MeetsSeq.EqGives renaming int->XU
open Std.LawfulOrderLeftLeaningMax renaming max_eq_right->XW
namespace cR.Internal
theorem Da{c:Prop}{_:Decidable c}(h:¬c){α:Sort _}{a b:α}:ite c a b=b:=if_neg h
theorem FB{c:Prop}{_:Decidable c}(h:c){α:Sort _}{a b:α}:ite c a b=a:=if_pos h
theorem GM{a b:Prop}(h:a)(k:¬a):b:=absurd h k
def ee(k:Lean.Name)(a:Array jU):jU:=.node .none k a
def fH(s:String):jU:=.atom .none s
def kc(a:Array jU):jU:=ee `Lean.Parser.Tactic.tacticSeq #[ee `Lean.Parser.Tactic.tacticSeq1Indented #[ee `null a]]
def cN:jU:=kc #[ee `Lean.Parser.Tactic.tacticRfl #[fH "rfl"]]
def g6:jU:=kc #[ee `Lean.Parser.Tactic.decide #[fH "decide",ee `Lean.Parser.Tactic.optConfig #[ee `null #[]]]]
def aU:jU:=kc #[ee `Lean.Parser.Tactic.tacticRepeat_ #[fH "repeat",kc #[ee `Lean.Parser.Tactic.intro #[fH "intro",ee `null #[]]]],fH ";",ee `Lean.Parser.Tactic.withUnfoldingAll #[fH "with_unfolding_all",kc #[ee `Lean.Parser.Tactic.first #[fH "first",ee `null #[ee `group #[fH "|",kc #[ee `Lean.Parser.Tactic.tacticRfl #[fH "rfl"]]],ee `group #[fH "|",kc #[ee `Lean.Parser.Tactic.constructor #[fH "constructor"],fH ";",ee `Lean.Parser.Tactic.tacticRfl #[fH "rfl"]]]]]]]]
def Fx:jU:=kc #[ee `Lean.Parser.Tactic.intro #[fH "intro",ee `null #[]],fH ";",ee `tacticKernel_rfl #[fH "kernel_rfl"]]
section
variable{a b c d e f g h i j:Nat}{p q r s t u v w x y:Int}
theorem vC(k:p<q):p<=q-1:=DW k
theorem L!:p-1<=p:=by lia
theorem AQ(k:p=q):q<=p:=pW k.symm
theorem O6(k:p=q-1):p<=q:=by lia
theorem Qj(l:p<q)(k:p=q):False:=by lia
theorem RN(l:p=q)(k:r<=p):r<=q:=le_of_le_of_eq k l
theorem TG(k:p=p-1):False:=by lia
theorem Uo(l:p<q)(k:r=q-1):p<=r:=by lia
theorem B0(l:p<q)(k:r=q):p<r:=lt_of_lt_of_eq l (id (bn k))
theorem UG(l:p<q)(k:r=q-1)(m:s=p):s<=r:=by lia
theorem L?(l:p=q-1)(k:r=q):p<=r:=by lia
theorem Mg(l:p<=q)(k:r=p)(m:¬p=q):r<q:=by lia
theorem AI(l:p<=q)(k:q<=p):p=q:=wW l k
theorem vE(l:p<=q)(k:r<=p):r<=q:=bo k l
theorem ML(l:p=q-1)(k:p<=r)(m:¬r=p):q<=r:=by lia
theorem MW(k:a+1=b+1):b=a:=Nat.add_right_cancel (id (bn k))
theorem M2(l:¬(p<=q/\r<=s))(k:p<q):s<r:=by lia
theorem Na(l:¬(p<=q/\r<=s))(k:¬(q<=p/\s<=r))(m:¬q<p):p<q:=by lia
theorem No(l:¬(p<=q/\r<=s))(k:¬q<p):s<r:=by lia
theorem AP(k:p+1=p/\q=r):False:=by obtain⟨cT,cU⟩:=k;lia
theorem jK:p<=p+1:=wV 1 rfl
theorem pj:p<p+1:=Int.lt_succ p
theorem vH(l:p=q)(k:p<q):False:=by lia
theorem vL(l:p=q)(k:q<p):False:=by lia
theorem AZ(l:p=q)(k:r=q):p<=r:=by lia
theorem A0(k:p<q):p+1<=q:=k
theorem Ot:¬(p=p/\q+1=q):=by lia
theorem OE(l:p<=q)(k:r=q):p<=r:=le_of_le_of_eq l (id (bn k))
theorem A8(l:p<q)(k:¬p+1=q):p+1<q:=qb l k
theorem OX(l:p<=q)(k:q<=r):p<=r:=bo l k
theorem rO(k:p<q):p<=q:=cM k
theorem O_:¬(p+1=p/\q=r):=by lia
theorem Ph(l:p<q)(k:q<=r):p<=r:=by lia
theorem Bd(l:p<q)(k:p=r)(m:q=r):s<t:=by lia
theorem Pz(l:p<q)(k:¬(q=p+1/\r=r)):p+1<q:=by lia
theorem Bj(k:p<q):p<q+1:=sK k
theorem PO(l:p<q)(k:¬(r=r/\q=p+1)):p+1<q:=by lia
theorem PZ:¬(p+1=p/\q=q):=by lia
theorem Qe(l:p<q)(k:q<r):p<r:=wX l k
theorem Qf:¬(p=q/\r+1=r):=by lia
theorem Qk(l:p<=q)(k:q<r):p<r:=fq l k
theorem Qu(l:p=q/\r=s)(k:r<s):False:=by lia
theorem QD(k:p=q/\r=s+1)(l:r<s):False:=by obtain⟨cT,cU⟩:=k;lia
theorem QO(l:p=q/\r=s)(k:s+1<r):False:=by lia
theorem QV(k:p=q/\r=s+1)(l:s+1<r):False:=by obtain⟨cT,cU⟩:=k;lia
theorem pw(l:p<=q)(k:¬p=q):p<q:=qb l k
theorem Q?(k:p=p+1):False:=by lia
theorem By(l:p<=q)(k:p≠q):p<q:=qb l k
theorem Rp(l:p<q)(k:p=r):q≠r:=by lia
theorem RC(l:p<q)(k:q=r):p<r:=lt_of_lt_of_eq l k
theorem RO(l:p<q)(k:q=r+1):p<=r:=by lia
theorem R5(l:p=q)(k:p<q):r<s:=by lia
theorem Sd(l:p=q)(k:q<p):r<s:=by lia
theorem Sp(l:p≠q)(k:¬q<p):p<q:=by lia
theorem BI(k:p=q+1):q<p:=pW k.symm
theorem SK(l:p<=q)(k:q<p):r<s:=GM k (eD.mpr l)
theorem SW(l:p=q+1)(k:p<q):r<s:=by lia
theorem S_(l:0<=p)(k:p<=2):p=0\/p=1\/p=2:=by lia
theorem Tj(l:0<=p)(k:p<=4):p=0\/p=1\/p=2\/p=3\/p=4:=by lia
theorem BV(l:0<=p)(k:p<=3):p=0\/p=1\/p=2\/p=3:=by lia
theorem TH(k:0<=p/\p<=3/\0<=q/\q<=4)(l:p=r+1):r<=2:=by obtain⟨cT,cU,iQ,lc⟩:=k;lia
theorem TV(k:0<=p/\p<=3/\0<=q/\q<=4)(l:q=r+1):r<=3:=by obtain⟨cT,cU,iQ,lc⟩:=k;lia
theorem lF:3-(3-p)=p:=D6 3 p
theorem lG:4-(4-p)=p:=D6 4 p
theorem BX(k:p<=q):3-q<=3-p:=D3.mpr k
theorem BZ(k:p<=q):4-q<=4-p:=D3.mpr k
theorem Uk(k:p<q):4-q<4-p:=D4 k 4
theorem Ul(k:-p<=-q):q<=p:=Int.le_of_neg_le_neg k
theorem Um(k:p<q):3-q<3-p:=D4 k 3
theorem Un(k:-p < -q):q<p:=Int.lt_of_neg_lt_neg k
theorem Uq(k:0<=3-p/\3-p<=3/\0<=4-q/\4-q<=4):0<=p:=by obtain⟨cT,cU,iQ,lc⟩:=k;lia
theorem Ur(k:0<=3-p/\3-p<=3/\0<=4-q/\4-q<=4):p<=3:=by obtain⟨cT,cU,iQ,lc⟩:=k;lia
theorem Us(k:0<=3-p/\3-p<=3/\0<=4-q/\4-q<=4):0<=q:=by obtain⟨cT,cU,iQ,lc⟩:=k;lia
theorem Ut(k:0<=3-p/\3-p<=3/\0<=4-q/\4-q<=4):q<=4:=by obtain⟨cT,cU,iQ,lc⟩:=k;lia
theorem Uu(k:p=3-q/\r=4-s):3-p=q:=by obtain⟨cT,cU⟩:=k;lia
theorem Uv(k:p=3-q/\r=4-s):4-r=s:=by obtain⟨cT,cU⟩:=k;lia
theorem rU(k:3-p=q/\4-r=s):p=3-q:=by obtain⟨cT,cU⟩:=k;lia
theorem rV(k:3-p=q/\4-r=s):r=4-s:=by obtain⟨cT,cU⟩:=k;lia
theorem Uw(k:p=q+1):3-q=3-p+1:=by lia
theorem Ux(k:p=q):4-q=4-p:=(D5 4).mpr (id (bn k))
theorem Uy(k:p=q):3-q=3-p:=(D5 3).mpr (id (bn k))
theorem Uz(k:p=q+1):4-q=4-p+1:=by lia
theorem UA:p-q=p-r+1↔r=q+1:=by lia
theorem UB:p-q=p-r↔r=q:=⟨λh=>by lia,λh=>by lia⟩
theorem UC(k:p=-q):-p=q:=by simp[k]
theorem UD(k:¬p=-q):¬-p=q:=by lia
theorem UE(l:p<=q)(k:0<=p/\p<=3/\0<=r/\r<=4):0<=q:=by obtain⟨oK,oL,HM,HQ⟩:=k;lia
theorem B1(l:p<=q)(k:0<=r/\r<=3/\0<=p/\p<=4):0<=q:=by obtain⟨oK,oL,HM,HQ⟩:=k;lia
theorem UF(k:0<=p/\p<=3/\0<=q/\q<=4):0<=p:=k.1
theorem vT(k:0<=p/\p<=3/\0<=q/\q<=4):0<=q:=by simp[k]
theorem B2(l:p<=q)(k:¬q=p):p+1<=q:=by lia
theorem UI(l:0<=p)(k:p=q/\r=s):0<=q:=by obtain⟨oK,oL⟩:=k;lia
theorem B3(l:p<=q)(k:p=r/\s=t):r<=q:=by obtain⟨oK,oL⟩:=k;lia
theorem UJ(l:0<=p)(k:q=r/\p=s):0<=s:=by lia
theorem B4(l:p<=q)(k:r=s/\p=t):t<=q:=by lia
theorem UK(l:p<q)(k:p=q):r<s:=by lia
theorem UL(k:-p=-q):p=q:=Int.neg_inj.mp k
theorem UM(l:p<=q)(k:q=3-r):r<=3-p:=by lia
theorem UN(l:p<=q)(k:q=4-r):r<=4-p:=by lia
theorem rW(k:0<=p):0<=p+1:=sK k
theorem L_:32*(p/32)+p%32=p:=sL p 32
theorem ph:0<=p%32:=Int.emod_nonneg _ (by decide)
theorem rM:p%32<32:=Int.emod_lt_of_pos _ (by decide)
theorem vD(l:p/32=q/32)(k:p%32=q%32):p=q:=Int.ext_ediv_emod l k
theorem Ma(l:p%32<=q%32)(k:¬p%32=q%32):p%32<q%32:=qb l k
theorem Mb(k:p>q):-p < -q:=Int.neg_lt_neg k
theorem Mc(k:p>p):False:=nu _ k
theorem Md(k:p>q):p≠q:=(jc k).symm
theorem Me(k:p<q):p≠q:=jc k
theorem Mf(k:32*p+q%32=32*r+s%32):p=r:=by lia
theorem Mh(k:32*p+q%32=32*r+s%32):q%32=s%32:=by lia
theorem Mi(l:p=q)(k:p<q):r=s:=by lia
theorem Mj(l:p%32=q%32)(k:p/32=q/32):p=q:=by lia
theorem Mk(l:p=q)(k:q<p):r=s:=by lia
theorem Ml(k:p<q):p/32<=q/32:=by lia
theorem Mm:(32*p+(32*q+r)%32)/32=p:=by lia
theorem Mn(l:32*p+q%32<32*r+s%32)(k:(32*p+q%32)/32=(32*r+s%32)/32):q%32<s%32:=by lia
theorem Mo(l:p<=q)(k:r<=s)(m:q-p+(s-r)<=(↑(0:Nat):Int)):p=q:=by lia
theorem Mp(l:p<=q)(k:r<=s)(m:q-p+(s-r)<=(↑(0:Nat):Int)):r=s:=by lia
theorem Mq(l:p<=q)(k:¬(r=s/\p=q))(m:r=s):p+1<=q:=by lia
theorem Mr(k:p-q+(r-s)<=(↑(a+1):Int)):p-q+(r-(s+1))<=↑a:=by lia
theorem Ms(l:p<=q)(k:¬p=q):p+1<=q:=qb l k
theorem Mt(k:p-q+(r-s)<=(↑(a+1):Int)):p-(q+1)+(r-s)<=↑a:=by lia
theorem Mu:p-q+(r-s)<=(↑(p-q+(r-s)).toNat:Int):=Int.self_le_toNat (p-q+(r-s))
theorem Mw(l:p<=q)(k:p=r)(n:r=s)(m:q=t):s<=t:=by lia
theorem Mx(l:p<q)(k:q=p):False:=by lia
theorem My(k:p<=q)(m:p=r)(l:r≠q)(o:r=s)(n:q=t):s<t:=by lia
theorem Mz(k:p=q):p<=q:=pW k
theorem MA(l:p<=q)(k:r<p)(m:r=q):s<=t:=by lia
theorem MB(l:p<=q)(k:r<p)(m:q<=r):s<=t:=by lia
theorem MC(k:¬p<q):q<=p:=eD.mp k
theorem MD:p=↑a+1\/1<=p/\p<=↑a↔1<=p/\p<=(↑(a+1):Int):=⟨λh=>by omega,λh=>by omega⟩
theorem ME(k:p<=↑a):↑a+1>p:=DX k
theorem MF:((↑(a+1):Int)-(↑a+1)).toNat=0:=by simp
theorem MG(k:1<=p/\p<=↑a):((↑(a+1):Int)-p).toNat=(↑a-p).toNat+1:=by lia
theorem pi(k:1<=p/\p<=↑a):(↑a-p).toNat<a:=by omega
theorem MH(k:1<=p/\p<=↑a):(↑(↑a-p).toNat:Int)=↑a-p:=by lia
theorem MI(l:p/32=q)(k:p%32=r):0<=r/\r<32/\p=32*q+r:=by exact⟨by lia,by lia,by lia⟩
theorem MJ(l:0<=p)(k:p<32):(32*q+p)/32=q:=by lia
theorem MK(l:0<=p)(k:p<32):(32*q+p)%32=p:=by lia
theorem MM(m:0<=p)(l:p<32)(k:0<=(32*q+p)/32/\(32*q+p)/32<=3/\0<=(32*q+p)%32/\(32*q+p)%32<=4):0<=q/\q<=3/\0<=p/\p<=4:=by obtain⟨HR,HS,Ya,Yb⟩:=k;exact⟨by lia,by lia,by lia,by lia⟩
theorem MN(k:p=32*(q/32)+q%32):p=q:=by lia
theorem MP(l:↑a=↑b-p)(k:↑c=↑b-q)(m:a=c):p=q:=by lia
theorem MQ(k:p/32=q/32+1/\p%32=q%32\/p/32=q/32/\p%32=q%32+1):p=q+1\/p=q+32:=by obtain⟨yX,yY⟩|⟨yZ,y0⟩:=k<;>lia
theorem MR(k:p=p+1\/p=p+32):q<r:=by lia
theorem MS(l:↑a=↑b-p)(k:↑c=↑b-q)(n:¬p<q)(m:¬a=c):a<c:=by lia
theorem MT(l:p=q+1\/p=q+32)(k:p≠q+1/\p≠q+32):r<s:=by obtain⟨oK,oL⟩:=k;lia
theorem AJ(k:0<=p/\p<=3/\0<=q/\q<=4):q<32:=by omega
theorem MU(k:0<=p/\p<=3/\0<=q/\q<=4):p=0\/p=1\/p=2\/p=3:=by obtain⟨cT,cU,iQ,lc⟩:=k;lia
theorem MV(k:0<=p/\p<=3/\0<=q/\q<=4):q=0\/q=1\/q=2\/q=3\/q=4:=by obtain⟨cT,cU,iQ,lc⟩:=k;lia
theorem MX(k:a<=0):a=0:=Nat.eq_zero_of_le_zero k
theorem AK(l:a<=b+1)(k:¬a=b+1):a<=b:=by lia
theorem AL:a<=a+b:=iD _ _
theorem vF(k:a+1<=b):a<=b:=gv k
theorem MY(k:a+1<b+1):a<b:=s? k
theorem AM:a+1+b=a+(b+1):=Nat.succ_add_eq_add_succ a b
theorem vG:0<=(↑a:Int):=kL _
theorem MZ:↑a<=(↑(a+1):Int):=wV 1 rfl
theorem M0(l:¬a<5)(k:b<=5):b<=a:=by lia
theorem M1(k:0<=p/\0<=q)(l:p<=3):p=0\/p=1\/p=2\/p=3:=by obtain⟨cT,cU⟩:=k;lia
theorem M3(k:¬p<=3):4<=p.toNat:=by lia
theorem M4(k:0<=p):32<=p+32:=Int.le_add_of_nonneg_left k
theorem M5(k:p<q):p+32<32+q:=by lia
theorem M6(l:p<q)(k:¬p+1<q):p=q-1:=by lia
theorem M7(l:p<q)(k:¬p<r):r<q:=by lia
theorem M8(k:32<=p):32<=p+1:=sK k
theorem M9(k:32<=p):64<=p+32:=Int.le_add_of_neg_add_le_right k
theorem M!(l:p<32+q)(k:¬p+1<32+q):p=31+q:=by lia
theorem M?(l:p<32+q)(k:¬p+32<64+r):r<q:=by lia
theorem M_(k:64<=p):64<=p+1:=sK k
theorem Nb(l:p<64+q)(k:¬p+1<64+q):p=63+q:=by lia
theorem Nc(l:64<=p)(k:p<64+q):0<q:=by lia
theorem Nf(l:0<=p)(k:p<=q)(m:q<r):0<=r-1:=by lia
theorem Ng:p-1<p:=by lia
theorem Nh:p<=p-1+1:=by simp
theorem Ni(k:p<=3):p-1+1<32:=by lia
theorem Nj(k:p<q):32+p<=q-1+32:=by lia
theorem Nk(k:p<=3):p-1+32<64:=by lia
theorem Nl(l:0<=p)(k:p<q):32<=31+q:=by lia
theorem Nn:31+p<32+p:=by simp
theorem Np:32+p<=31+p+1:=by lia
theorem Nq(l:p<=q)(k:q<=3):31+p+1<64:=by lia
theorem Nr(k:p<q):64+p<=31+q+32:=by lia
theorem Nt(k:0<p):64<=63+p:=Int.le_add_of_sub_left_le k
theorem Nu:63+p<64+p:=by simp
theorem Nv:64+p<=63+p+1:=by lia
theorem Nw:64+p<=63+p+32:=by lia
theorem Nx:p<=q/\q<r-1↔(p<=q/\q<r)/\q≠r-1:=by omega
theorem Ny(l:p<=3)(k:q=p-1):q<32:=by omega
theorem AN(k:p<=3):p-1<=3:=by lia
theorem Nz:p-1+q+r=p+q+r-1:=by lia
theorem NA(l:p<=3)(k:32<=q/\q<32+r\/64<=q/\q<64+s):q≠p-1:=by obtain⟨y6,y8⟩|⟨y9,y!⟩:=k<;>lia
theorem NB(l:0<=p)(k:q=31+r)(m:p<r):¬q<32:=by lia
theorem NC(l:p<=q)(k:q<=3)(m:r=31+p):r<64:=by lia
theorem rN(k:p<=q):p-1<=q:=by lia
theorem ND:p+(q-1)+r=p+q+r-1:=by lia
theorem NE:31+p=32+p-1:=by lia
theorem NF(m:p<=q)(l:q<=3)(k:64<=r/\r<64+s):r≠32+p-1:=by obtain⟨HR,HS⟩:=k;lia
theorem NG(m:0<=p)(l:q<=3)(n:p<r)(k:0<=s/\s<q):s≠32+r-1:=by obtain⟨HT,HU⟩:=k;lia
theorem NH(l:p=63+q)(k:0<q):¬p<32:=by lia
theorem NI(l:p=63+q)(k:0<q):¬p<64:=by lia
theorem NJ(k:0<p):0<=p-1:=wZ k
theorem NK:p+q+(r-1)=p+q+r-1:=bn (wT (p+q) r 1)
theorem NL:63+p=64+p-1:=by lia
theorem NM(m:0<=p)(l:q<=r)(n:r<=3)(k:32<=s/\s<32+q):s≠64+p-1:=by obtain⟨HT,HU⟩:=k;lia
theorem NN(k:p<=3):p-1<32:=by lia
theorem NO(l:p<=q)(k:q<=3):31+p<64:=by lia
theorem NP(k:0<=p):¬63+p<32:=by lia
theorem AR(k:0<p):¬p<=0:=nv.mpr k
theorem NQ(k:¬p=0)(m:0<=q)(l:q<=r)(z:r<=p)(n:¬r<p)(o:¬q<r):0<q:=by lia
theorem NR(l:p=0)(k:q=p-1/\r<p\/q=31+r/\s<r\/q=63+s/\0<s)(m:0<=s)(o:s<=r)(n:r<=p):False:=by obtain⟨y6,y8⟩|⟨y9,y!⟩|⟨HO,HP⟩:=k<;>lia
theorem NS:p+0=p:=sI p
theorem UH(h2:0<=p/\p<q\/32<=p/\p<32+r\/64<=p/\p<64+s)(h5:r<=q)(h6:q<=3):0<=p/\p≠31/\(64<=p\/p≠63):=by obtain⟨a,b⟩|⟨a,b⟩|⟨a,b⟩:=h2;exact⟨a,jc (dF b (bo h6 (by decide))),.inr (jc (dF b (bo h6 (by decide))))⟩;exact⟨bo (by decide) a,(jc (dF (by decide) a)).symm,.inr (jc (dF b (bo (Int.add_le_add_left (bo h5 h6) 32) (by decide))))⟩;exact⟨bo (by decide) a,(jc (dF (by decide) a)).symm,.inl a⟩
theorem NT(z:0<=p/\p<q\/32<=p/\p<32+r\/64<=p/\p<64+s)(o:¬(0<=t/\t<q\/32<=t/\t<32+r\/64<=t/\t<64+s))(A:0<=t/\t<u\/32<=t/\t<32+v\/64<=t/\t<64+w)(m:s<=r)(n:r<=q)(l:v<=u)(k:u<=3):p≠t+1/\p≠t+32:=by obtain⟨t,t1,t2⟩:=UH A l k;clear A;exact⟨λe=>o (by clear o;obtain⟨a,b⟩|⟨a,b⟩|⟨a,b⟩:=z;exact .inl ⟨t,by clear t2 m n l k;lia⟩;exact .inr (.inl ⟨by clear t2 m n l k b;lia,by clear t2 m n l k;lia⟩);exact .inr (.inr ⟨t2.elim id λq=>(by clear m n l k b;lia),by clear t2 m n l k;lia⟩)),λe=>o (by clear o;obtain⟨a,b⟩|⟨a,b⟩|⟨a,b⟩:=z;exact .inl ⟨t,by clear t2 t1 m l k;lia⟩;exact .inl ⟨t,by clear t2 t1 m l k;lia⟩;exact .inr (.inl ⟨by clear t2 t1 m l k b;lia,by clear t2 t1 l k;lia⟩))⟩
theorem NU(l:p+↑a=q)(k:r=p-1):r+(↑(a+1):Int)=q:=by lia
theorem AS(k:p=0):p<=0:=pW k
theorem NV(l:a=1)(k:b+(a+0)+c=d):b+(c+1)=d:=by lia
theorem NW(l:¬p=0)(k:0<=q)(n:q<=r)(m:r<=p):0<p:=by lia
theorem NX(l:0<p)(k:0<=q)(m:q<=r):0<p+r+q:=by lia
theorem NY(l:p+↑a=q)(k:0<p):q.toNat-a=q.toNat-a-1+1:=by lia
theorem AT(k:p.toNat-a=b+1):p.toNat-(a+1)=b:=congrArg Nat.pred k
theorem NZ(k:a+(b+0)+c=d):a+b+c=d:=k
theorem N0(l:a<=1)(k:b<=1)(m:c<=1):a+(b+c)<=3:=by lia
theorem N1(l:a+b=c)(k:a=0):b=c:=by lia
theorem N2(l:0<=p)(k:q<=32)(n:0<=r)(m:r<32):32*s+p<=32*t+r/\32*t+r<32*s+q↔t=s/\p<=r/\r<q:=⟨by rintro⟨a0,a1⟩<;>lia,by rintro⟨b0,b1,b2⟩<;>lia⟩
theorem N4(l:0<=p)(k:p<5):p=0\/p=1\/p=2\/p=3\/p=4:=by lia
theorem N5:32*(p/32)+p%32=p/\0<=p%32/\p%32<32:=by lia
theorem vI(k:p<=3):p<=32:=bo k (by decide)
theorem vJ(l:0<=p)(k:p<=q)(m:q<=r):0<=r:=bo l (bo k m)
theorem AU(k:p<=5):p<=32:=bo k (by decide)
theorem vK(l:0<=p)(k:p<=q):0<=q:=bo l k
theorem AW(l:p<=q)(k:q<=5):p<=32:=by lia
theorem AX(l:p<=q)(k:q<=r)(m:r<=5):p<=32:=by lia
theorem AY(l:p<=q)(k:q<=r)(n:r<=s)(m:s<=5):p<=32:=by lia
theorem N6(l:p%32<q)(k:q<=r)(m:r<=3):p%32<5:=by lia
theorem N7(l:p%32<q)(k:q<=r)(m:r<=5):p%32<5:=bo l (bo k m)
theorem N8:p+(↑(0:Nat):Int)=p:=sI p
theorem N9:p<=p+↑a:=wV a rfl
theorem N':p+↑a<=p+(↑(a+1):Int):=by lia
theorem N!:p+(↑(a+1):Int)=p+↑a+1:=by lia
theorem N?:p+(↑(0:Nat):Int)+(1:Int)=p+(1:Int):=wS ..
theorem N_:p<=p+↑a+1:=by lia
theorem Oa:p+↑a+1<=p+(↑(a+1):Int)+1:=by lia
theorem Ob:p+(↑(a+1):Int)+1=p+↑a+1+1:=by lia
theorem Oc(k:p<q):p+(↑(q-p).toNat:Int)=q:=by lia
theorem Od(k:p<q):p+(↑(q-p-1).toNat:Int)+1=q:=by lia
theorem Oe:32*p+(q+1)-1=32*p+q:=by lia
theorem Of:32*(p+1)+q-32=32*p+q:=by lia
theorem Og:32*(p/32+1)+p%32=p+32:=by lia
theorem Oh:32*(p/32)+(p%32+1)=p+1:=by lia
theorem Oi:0<=p%32+1:=by lia
theorem Oj(k:p%32<31):p%32+1<32:=DX k
theorem Ol:(p+32)/32=p/32+1:=by lia
theorem Om:(p+32)%32=p%32:=bn Int.emod_eq_add_self_emod
theorem On(k:p%32<31):(p+1)/32=p/32:=by lia
theorem Oo(k:p%32<31):(p+1)%32=p%32+1:=by lia
theorem A5(l:p=q/32)(k:r=q%32):32*p+r=q:=by lia
theorem Op(k:p=q%32):0<=p:=by lia
theorem Oq(k:p=q%32):p<32:=by lia
theorem A6(k:0<=p/\p<32)(l:32*q+p=r):q=r/32:=by obtain⟨cT,cU⟩:=k;lia
theorem A7(k:0<=p/\p<32)(l:32*q+p=r):p=r%32:=by obtain⟨cT,cU⟩:=k;lia
theorem Ou(l:0<p)(k:0<=q)(m:q<=r):p+r+q=(↑(p+r+q-1).toNat:Int)+1:=by omega
theorem Ov(k:p+q+r=↑a+1):(p+q+r).toNat=a+1:=by simp[k]
theorem Ow(k:p+q+r=↑a+1):(p-1+q+r).toNat=a:=by lia
theorem Ox(k:p+q+r=↑a+1):(p+(q-1)+r).toNat=a:=by lia
theorem Oy(k:p+q+r=↑a+1):(p+q+(r-1)).toNat=a:=by omega
theorem Oz:(↑a:Int)+0=(↑a:Int):=rfl
theorem OA:↑a+(↑b+↑c)=(↑(a+(b+c)):Int):=rfl
theorem OB(k:p=q):p=q+(↑(0:Nat):Int):=by simp[k]
theorem OC(k:p=q+1+↑a):p=q+(↑(a+1):Int):=by lia
theorem OD(k:p=q+(↑(0:Nat):Int)):p=q:=by simp[k]
theorem OF(k:p=q+(↑(a+1):Int)):p=q+1+↑a:=by lia
theorem OG(k:p=(32:Int)*q+(↑a:Int)):p=(32:Int)*(q+(↑(0:Nat):Int))+(↑a:Int):=by simp[k]
theorem OH(k:p=32*(q+1+↑a)+↑b):p=32*(q+(↑(a+1):Int))+↑b:=by lia
theorem OI(k:p=(32:Int)*(q+(↑(0:Nat):Int))+(↑a:Int)):p=(32:Int)*q+(↑a:Int):=by simp[k]
theorem OJ(k:p=32*(q+(↑(a+1):Int))+↑b):p=32*(q+1+↑a)+↑b:=by lia
theorem OK(l:a<=32)(k:b<a):b<32:=fx k l
theorem OL(l:p=32*(0+↑a)+↑b)(k:b<32):(p/32).toNat=a:=by lia
theorem OM(l:p=32*(0+↑a)+↑b)(k:b<32):(p%32).toNat=b:=by lia
theorem ON(k:p=32*(0+↑a)+↑b):0<=p/32:=by lia
theorem OO(k:0<=p/32/\0<=p%32):p=32*(0+(↑(p/32).toNat:Int))+(↑(p%32).toNat:Int):=by obtain⟨cT,cU⟩:=k;lia
theorem OP(l:0<=p)(k:1<=q)(m:q<=r):0<=min p r:=by lia
theorem A9(l:p<=q)(k:r<=s):min p r<=min q s:=by omega
theorem OQ(k:p<=3):min p q<=3:=by lia
theorem OR(k:1<=p):0<=p:=cM k
theorem vM:min p q<=q:=Int.min_le_right p q
theorem OS(k:1<=p):min 0 p=0:=by lia
theorem OT(l:0<=p)(k:q=0/\p<r\/q=1/\p<s\/q=2/\p<t)(m:u=32*q+p):0<=u/\u<r\/32<=u/\u<32+s\/64<=u/\u<64+t:=by obtain⟨y6,y8⟩|⟨y9,y!⟩|⟨HO,HP⟩:=k;exact .inl (by omega);exact .inr (.inl (by omega));exact .inr (.inr (by omega))
theorem OU(k:0<=p/\p<q):0<=p:=k.1
theorem OV(k:0<=p/\p<q):p<q:=k.2
theorem OW:p=32*0+p:=by simp
theorem OY(k:32<=p/\p<32+q):0<=p-32:=by simp[k]
theorem OZ(k:32<=p/\p<32+q):p-32<q:=by obtain⟨cT,cU⟩:=k;lia
theorem O0:p=32*1+(p-32):=pT.mp rfl
theorem O1(k:64<=p/\p<64+q):0<=p-64:=by simp[k]
theorem O2(k:64<=p/\p<64+q):p-64<q:=by obtain⟨cT,cU⟩:=k;lia
theorem O3:p=32*2+(p-64):=pT.mp rfl
theorem A!(k:a+(b+1)<c):a+1+b<c:=by lia
theorem O4(k:a+20*(b+1)<c):a+3+20*b<c:=by lia
theorem m8(k:a+(b+1)<c):a<c:=fO (iD _ _) k
theorem O5(l:a+20*(b+1)<c)(k:d<=4):a+d+20*b<c:=by lia
theorem O7(l:a<=b)(k:c+b<d):c+a<d:=by lia
theorem O8(l:a<=b)(k:c+20*b<d):c+20*a<d:=by lia
theorem vN(k:a<2^62):(↑a:Int)<2^63:=by lia
theorem A?(k:0<=p):¬p<0:=eD.mpr k
theorem O9(l:p<=↑a)(k:b=a):p.toNat<=b:=by lia
theorem A_(k:a<=16777216):(↑a:Int)<=2^24:=Nat.ToInt.of_le rfl rfl k
theorem O'(l:p<=(↑a:Int))(k:(↑a:Int)<=2^24):p<2^63:=by lia
theorem Ba(k:a<b):a+1<=b:=k
theorem O!(l:a=b)(k:p.toNat<a)(m:(↑b:Int)<=2^24):p<2^63:=by lia
theorem O?(k:p.toNat<a):p<↑a:=DY k
theorem Pa(k:a<b):0<(↑b:Int)-(↑a:Int):=by simp[k]
theorem Pb:p+↑a*1=p+↑a:=by simp
theorem Pc:p+↑a*1+1=p+(↑a+1)*1:=wS ..
theorem Pd:(↑a:Int)-(↑b:Int)-1=(↑a:Int)-((↑b:Int)+1):=Int.sub_sub (↑a) (↑b) 1
theorem pn(k:0+a=b):a=b:=(me _).symm.trans k
theorem pq(k:a+1+b=c):b<c:=by lia
theorem lE(k:a+1+b=c):a+(b+1)=c:=by lia
theorem Pe(k:a<=b+1):a<=b+1:=k
theorem Pf(l:a<=900)(k:b=c)(m:c<=a+1):b<=1000:=by lia
theorem Pg(k:a<b):a<=(a+b)/2:=by lia
theorem Pk(k:a<b):(a+b)/2<b:=by lia
theorem Pm:(0:Int)<=(↑(2:Nat):Int):=kL _
theorem rP(l:a<=b)(k:b<c):a<c:=fO l k
theorem Bb(k:a<=10000):a<2^62:=fO k (by decide)
theorem Pn:0<=a:=kO _
theorem Po:a<=a:=bD _
theorem Pp:¬a<0:=gU _
theorem Pq(k:a<=b):¬b<a:=Nat.not_lt.mpr k
theorem Bc(k:a<b):(↑a:Int)<(↑b:Int):=Int.ofNat_lt.mpr k
theorem Pr(l:a<=b)(k:c<a):c<b:=fx k l
theorem Ps(l:a<=10000)(k:b<a):(↑b:Int)<2^63:=by lia
theorem Pt(k:a+(b+1)<c):a+0<c:=fO (iD _ _) k
theorem Pu(k:a+20*(b+1)<c):a+20*0<c:=fO (iD _ _) k
theorem Be(l:a<=b)(k:b<c):b-a<c-a:=Nat.sub_lt_sub_right l k
theorem rQ(k:a<=b):a<=b:=k
theorem Bf(k:a<b):a<=b:=gv k
theorem Bg(k:a<=b)(l:b<c):c-(b+1)<c-a:=Nat.sub_lt_sub_left (fO k l) (xy k)
theorem Pw(k:a<b+1):a<=b:=s? k
theorem Px(k:¬a<b):¬(↑a:Int)<(↑b:Int):=by simp[k]
theorem Py(l:a<=b)(k:¬a<b):a=b:=Ew l (p? k)
theorem PA(k:a+(b+2)<c):a+(b+1)<c:=gv k
theorem PB(k:a+20*(b+2)<c):a+20*(b+1)<c:=by lia
theorem PC(k:a<=b):(↑a:Int)<=(↑b:Int):=Int.ofNat_le.mpr k
theorem rR(k:a<=10000):a<=16777216:=bF k (by decide)
theorem Bh:a<=a+1:=iD _ _
theorem vO(l:a<=b+c)(k:b<=d+1):a<=d+(c+1):=by lia
theorem Bi(k:a<=b):a<=b+1:=ta k
theorem PD(k:a<=b+1+c):a<=b+(c+1):=by lia
theorem PE(k:a+b<=9000):b<=16777216:=bF (jY _ _) (bF k (bl rfl))
theorem PF(k:a+b<=9000):a<=10000:=bF (iD _ _) (bF k (bl rfl))
theorem PG(k:a+b<=9000):b<2^62:=by lia
theorem PH(l:a+b<=9000)(k:c<=d+min e b)(m:d<=a+1):c<=10000:=by lia
theorem PI(k:a+b<=9000):a<=9000-b:=Nat.le_sub_of_add_le k
theorem PJ(l:a+b<=9000)(k:c<=9000-b+min d b):c<=16777216:=by omega
theorem pv(k:a<=1000):a<=16777216:=bF k (by decide)
theorem PK(l:a<=b)(k:c<=d)(m:e+1+d=a):c<=b:=by lia
theorem rS(k:a+1<b):a<b:=gv k
theorem PL:a+b=b+a:=sY _ _
theorem PM:a+(b+c)=a+b+c:=bn (Nat.add_assoc a b c)
theorem PN:1+a=a+1:=sY _ _
theorem PQ(l:a<=1000)(k:b<=a):b<2^62:=by lia
theorem PR:1<=(↑a:Int)+1:=by lia
theorem PS:((-1:Int)+(↑a+1)).toNat=a:=by lia
theorem PT(l:a+(b-c)<=d)(k:c<b):a+(b-(c+1))<d:=by lia
theorem Bl(l:a<=1000)(k:b+1<=a):b<16777216:=fx k (bF l (bl rfl))
theorem PU(l:a<=1000)(k:b+1<=a):b<=16777215:=by lia
theorem PV(k:a+(b-c)<=d):a<=d:=Ey k
theorem PW:0+a=a:=sY _ _
theorem PX(l:a<=1000)(k:b+c=a):b<4096:=by lia
theorem PY(l:a<=1000)(k:b+c=a):b+1<4096:=by lia
theorem P9(l:a<=1000)(k:b+c=a)(m:d<=b):d<=1000:=by lia
theorem P!(l:a+b<=c)(k:d<b):a+d<c:=by lia
theorem P?(l:a<=b)(k:c<=a):c<=b:=bF k l
theorem vP(l:a<=1000)(k:b+c=a)(m:d<=b):d<=16777216:=by lia
theorem P_(l:a<=1000)(k:b+c=a)(m:d<=b):d<2^62:=by lia
theorem Qa(l:a+b=c)(k:b=d+1):a+1+d=c:=by lia
theorem Qb(k:a=b+(c+1)):b+(d+(c-0))<=a+d:=by lia
theorem Qc(k:p<q):min q p=p:=by lia
theorem Qd(k:¬p<q):min q p=q:=by lia
theorem Bm(l:a=b)(k:c<a):c<b:=Ez k l
theorem Qg(k:p<2^62):p<2^63:=dF k (by decide)
theorem Qh(l:p<↑a)(k:a<=16777216):p<2^63:=by lia
theorem Qi(l:p<↑a)(k:b=a):p<↑b:=k▸l
theorem vQ(l:4<=a)(k:b+20*a<c):b+64<c:=by lia
theorem Bn(l:a<=1000)(k:b=a):b<=16777216:=by lia
theorem Ql(l:a+b<=c)(k:d+e<=b):a+d+e<=c:=by lia
theorem Qm(l:a+(0+1)<=2^24)(k:b=a):b<=16777216:=by lia
theorem Qn(k:a<=2^24-1):a<=16777216:=bF k (by decide)
theorem Qo:a+0=a:=rfl
theorem Qp:-2^62<=(↑a:Int):=by simp
theorem Qq(k:a<2^62):(↑a:Int)<2^62:=DY k
theorem Qr:((↑a:Int)-0).toNat=a:=rfl
theorem Qs(k:a+(b+2)<c):a+1<c:=by lia
theorem Qt(k:a<b):¬b<a:=Nat.not_lt_of_gt k
theorem Qv:0<a+1:=jY _ _
theorem Qw(k:a<b):a+1<b+1:=xy k
theorem Qx(k:a<=b):a+1<=b+1:=xy k
theorem Qy:a+1+3<=a+4:=bD _
theorem Bo(k:a+20*b<c):a<c:=fO (iD _ _) k
theorem Qz(l:a<2^62)(k:b=a):(↑b:Int)<2^63:=by lia
theorem QA(k:a=b):b<=a+2:=sZ (congrFun (congrArg sG (id (bn k))) 2)
theorem QB(k:a=b):b<=a+3:=sZ (congrFun (congrArg sG (id (bn k))) 3)
theorem QC(k:a=b):b<=a:=Nat.le_of_eq k.symm
theorem QE(k:a=b):b<=a+1:=sZ (congrFun (congrArg sG (id (bn k))) 1)
theorem QF:a+2≠a+4:=by simp
theorem QG:a+3≠a+4:=tc (a+3)
theorem QH:a≠a+4:=by simp
theorem QI:a+1≠a+4:=by simp
theorem QJ(k:a=b):b<=a+4:=sZ (congrFun (congrArg sG (id (bn k))) 4)
theorem QK:a+2≠a+3:=tc (a+2)
theorem QL:a+2≠a:=by simp
theorem QM:a+2≠a+1:=aI (tc (a+1))
theorem QN:a+3≠a:=by simp
theorem QP:a+3≠a+1:=by simp
theorem QQ:a≠a+1:=tc a
theorem Bp(k:a+b<=c):a<=c:=Ey k
theorem Bq(k:a+b<=c):a+b<=c+1:=ta k
theorem Br(k:a+4<b):a<b:=fO (iD _ _) k
theorem QR(l:a+(0+1)<=2^24)(k:b<=0+a):b<=16777216:=by lia
theorem QS(k:a<b):p<=p+↑a/\p+↑a<p+↑b:=by exact⟨by lia,by lia⟩
theorem QT(k:a<b):a<=(a+b)/2/\(a+b)/2<b:=by exact⟨by lia,by lia⟩
theorem QU(k:a<=2^24):a<2^62:=fO k (by decide)
theorem Bs(l:a<=2^24)(k:(b+c)/2<a):(↑((b+c)/2):Int)<2^62:=by lia
theorem Bt:p+1+↑a=p+(↑(a+1):Int):=by lia
theorem QW(l:p=q+↑a)(k:a<b):q<=p/\p<q+↑b:=by exact⟨by lia,by lia⟩
theorem QX(l:p=q)(k:q+1<=p/\p<q+1+↑a):False:=by obtain⟨oK,oL⟩:=k;lia
theorem QY(k:32*(p+1)<=q):32*p<=q:=by lia
theorem QZ(k:a<=b+1):a+c<=b+(c+1):=by lia
theorem Q0:a+1+b<=a+(b+1):=by lia
theorem Q1(l:a<=b)(k:c<=d):c+a<=b+d:=by lia
theorem vR(l:a<=32)(k:b<=0+a):b<=32:=by lia
theorem Q2(k:a<=32):a<=1000:=bF k (by decide)
theorem Q3:(↑(0+a):Int)=0+↑a:=rfl
theorem Q4:(↑(0+a):Int)=↑a:=by simp
theorem Q5(l:a<=32)(k:b<=a*32):b<=2^24:=by lia
theorem Bu(k:p%32<5):p%32<31:=dF k (by decide)
theorem Q6(l:p<q)(k:(128-p).toNat<=a+1):(128-q).toNat<=a:=by lia
theorem Q7(l:a<=1000)(k:b=a):b<=1000:=le_of_eq_of_le k l
theorem Q8(k:0<=p):(128-p).toNat<=128:=by lia
theorem Q9(l:p≠q)(k:q/32<=p/32)(n:p%32<=q%32)(m:0<=q):(q/32+32-q%32).toNat<(p/32+32-p%32).toNat:=by lia
theorem Q'(l:a<b)(k:b<=a):0<c:=GM l (Nat.not_lt.mpr k)
theorem Bv(k:0<a):0<(↑a:Int):=Int.ofNat_lt.mpr k
theorem Q!(l:0<a)(k:p<↑a):p.toNat<a:=(Int.toNat_lt' l).mpr k
theorem Q_(l:a<=128)(k:b=a):min c b<=128:=by lia
theorem Ra(l:a<=128)(k:b=a):b<=2^24:=by lia
theorem Bw(l:a<=128)(k:b=a)(m:c<=b):c<=2^24:=by lia
theorem Rb(l:a<=128)(k:b=a)(n:c<=b)(m:d<=b):d+c<=9000:=by lia
theorem Rc(k:a<=128)(m:b=a)(l:c<=128)(o:d<=b)(n:e<=c):e+d<=9000:=by lia
theorem pz(l:a<=128)(k:b=a):b<=1000:=by lia
theorem Re(l:a<=128)(k:b=a)(n:c=b)(m:d+e<=c):d+min f e<=128:=by lia
theorem Bx(l:a<=128)(k:b=a)(m:c=b):c<=1000:=by lia
theorem Rf(k:a<=128):a<=10000:=bF k (by decide)
theorem Rg(k:a<=128):a<1073741824:=fO k (by decide)
theorem Rh(k:0<a):(↑a:Int)≠0:=Int.natCast_ne_zero_iff_pos.mpr k
theorem vS(k:a<=128):a<2^62:=fO k (by decide)
theorem Bz(k:a<=128):a<=2^24:=bF k (by decide)
theorem Ri(l:a<=128)(k:b<c)(m:c=a):b<=128:=by lia
theorem Rj(k:a<=128):a<=2^24-1:=bF k (by decide)
theorem Rk(k:(0:Int)<=p/\p<(0:Int)+(↑(3:Nat):Int)):p=(0:Int)\/p=(1:Int)\/p=(2:Int):=by obtain⟨cT,cU⟩:=k;lia
theorem Rm(l:0<=p)(k:p<=q)(n:q<=r)(m:¬r=0):0<r:=by lia
theorem BA(k:p>q):q<=p-1:=DW k
theorem Rn(k:(p+q+r).toNat<=a+1):(p-1+q+r).toNat<=a:=by lia
theorem Ro(k:(p+q+r).toNat<=a+1):(p+(q-1)+r).toNat<=a:=by lia
theorem Rq(k:p>0):0<=p-1:=wZ k
theorem Rs(k:(p+q+r).toNat<=a+1):(p+q+(r-1)).toNat<=a:=by lia
theorem Rt(k:p+1=p+32):False:=by lia
theorem Ru(l:p=q+1\/p=q+32)(k:0<=q):q.toNat<p.toNat:=by lia
theorem Rv(k:0<=p/\p<q\/32<=p/\p<32+r\/64<=p/\p<64+s):0<=p:=by obtain⟨yX,yY⟩|⟨yZ,y0⟩|⟨HJ,HK⟩:=k<;>lia
theorem Rw(k:p=q+1\/p=q+32)(n:0<=q/\q<r\/32<=q/\q<32+s\/64<=q/\q<64+t)(m:s<=r)(B:r<=3)(o:0<=p/\p<u\/32<=p/\p<32+v\/64<=p/\p<64+w)(A:¬(0<=q/\q<u\/32<=q/\q<32+v\/64<=q/\q<64+w))(l:w<=v)(z:v<=u):False:=by obtain cT|cU:=k<;>omega
theorem Rx(l:a<=b)(k:1<=c):a+1<=c+b:=by lia
theorem Ry(k:1<=a):b<b+a:=Nat.lt_add_of_pos_right k
theorem Rz(l:a+(b+c)<=d)(k:1<=c):a+1+b<=d:=by lia
theorem RA(l:¬p=0)(k:0<=q)(n:q<=r)(m:r<=p):0<p+r+q:=by lia
theorem RD(l:0<p)(k:p+↑a=q):q.toNat-a=q.toNat-a-1+1:=by lia
theorem RE(l:0<a)(k:b<=3*a):b<a*4:=by lia
theorem RF(l:a+(b+c)<=d)(k:e<c):a+(b+e)<=d:=by lia
theorem RG(k:a<b):c+a<c+b:=Nat.add_lt_add_left k c
theorem RH(l:a<b)(k:b<=c+1):a<=c:=by lia
theorem RI(l:a<=1000000)(k:b+c<=a)(m:d+e<=c):d<=1000000:=by lia
theorem RJ(k:a<=1000000):a<2^24:=fO k (by decide)
theorem RL(k:a<=128):min b a<=128:=bF (EB _ _) (bF k (by decide))
theorem RM(k:a<=2):a<=2^24:=bF k (by decide)
theorem BB(l:a<=128)(k:b<=2)(m:c<=a):c+b<=9000:=by lia
theorem RP(l:a<=128)(k:b<=a):b<=1000:=by lia
theorem RQ(l:a=b)(k:c<=a):c<=b:=le_of_le_of_eq k l
theorem RT(l:a<=128)(k:b<=a):b<=128:=bF k l
theorem RU(l:a<=128)(k:b<=a):b<=2^24:=by lia
theorem RV(k:a<=128)(m:b=a)(l:c<=b)(o:d<=128)(n:e=c):d+e<=2^24:=by lia
theorem RW(l:a<=1000000)(k:b+c<=a):b<=1000000:=by lia
theorem RX(k:p+q+r+↑a=s+t+u)(n:u<=t)(m:t<=s)(A:s<=3)(o:0<=r)(z:r<=q)(l:q<=p):a<=9:=by lia
theorem RY(k:a<=1000000):a<=2^24-1:=bF k (by decide)
theorem RZ(l:a<=1000000)(k:b<=3)(m:c=b):a+c<=2^24:=by lia
theorem R1(k:a<=3):a<=2^24:=bF k (by decide)
theorem R6(k:a<=9):a+1<=2^24:=fO k (by decide)
theorem R7(l:p<=q)(k:q<=r)(m:r<=3):(r+q+p).toNat<=9:=by lia
theorem R8(k:a<=4^9):0+(a+0)<=1000000:=by lia
theorem R9(k:a+b<=1000000):a<=1000000:=bF (iD _ _) (bF k (bl rfl))
theorem R!(l:a+1<=b)(k:c<a):c<b:=hW k l
theorem R?(k:a+1<=b):a<b:=k
theorem BC(l:a<b)(k:a=b):False:=by lia
theorem R_(l:a<b)(k:c<a):c<b:=hW k l
theorem Sa(k:p<=q/\q<r\/32+s<=q/\q<32+t\/64+u<=q/\q<64+v\/96<=q/\q<96+w)(n:0<=u)(m:u<=s)(B:s<=p)(o:w<=v)(A:v<=t)(l:t<=r)(z:r<=5):0<=q/\q<128/\q%32<5:=by obtain⟨yX,yY⟩|⟨yZ,y0⟩|⟨HJ,HK⟩|⟨X?,X_⟩:=k<;>lia
theorem Sb(l:0<=p/\p<q\/32<=p/\p<32+r\/64<=p/\p<64+s)(k:s<=r)(n:r<=q)(m:q<=3):0<=p/\p<128/\p%32<5:=by omega
theorem Se:(↑a:Int)+(1:Int)=(↑(a+(1:Nat)):Int)-(↑(0:Nat):Int):=rfl
theorem Sf:↑a-↑b=(↑(a+1):Int)-(↑(b+1):Int):=by lia
theorem Sg(k:a<=20):a<=128:=bF k (by decide)
theorem Sh(k:a<=20):a<=1000:=bF k (by decide)
theorem Si(k:a<b):1<=(↑b:Int)-(↑a:Int)/\(↑b:Int)-(↑a:Int)<=(↑b:Int):=by exact⟨by lia,by lia⟩
theorem Sj(k:(↑a:Int)-(↑b:Int)=(↑a:Int)-(↑c:Int)):b=c:=by lia
theorem BD(l:a<=20)(k:b<=a):b<=32:=by lia
theorem BE(k:1<=p/\p<=↑a):↑a-(↑(↑a-p).toNat:Int)=p:=by lia
theorem Sm:((↑a:Int)-((↑a:Int)-(↑b:Int))).toNat=b:=by lia
theorem So:p<=q\/q<=p:=Int.le_total p q
theorem Sq(k:a<4):a<=2^24-1:=gv (fx k (by decide))
theorem Sr(k:a<3):a<=2^24-1:=gv (fx k (by decide))
theorem Ss(k:max p q<=r):p<=r:=bo (Int.le_max_left ..) k
theorem Su(k:p<=q):max q p=q:=Int.max_eq_left k
theorem Sv(k:¬p<=q):max q p=p:=XW q p k
theorem Sx(k:max p q<=r):q<=r:=bo (Int.le_max_right ..) k
theorem BF(k:p<q):¬p-1=q:=by lia
theorem BG(k:p<q):¬p=q:=jc k
theorem BH:¬p-1=p:=by lia
theorem Sy(l:0<=p)(k:q+0<=r):q<=r+p:=by lia
theorem BJ(k:p<q):¬p-32=q:=by lia
theorem BK:¬p-32=p:=by lia
theorem Sz(l:0<=p)(k:q+1<=r):q<r+p:=by lia
theorem SA(k:p<=q/\q<p+(↑(r-p).toNat:Int)):p<=q:=k.1
theorem SD(k:p<=q/\q<p+(↑(r-p).toNat:Int)):q<r:=by omega
theorem SE(l:p<=q)(k:q<r):(q-p).toNat<(r-p).toNat:=by lia
theorem SF(k:p<=q):p+(↑(q-p).toNat:Int)=q:=by lia
theorem SG(k:a<b):32*↑c+(p+↑a)<32*↑c+(p+↑b):=by lia
theorem SH(l:0<=p)(k:p<=q)(m:r<32*↑a):r<32*↑a+q:=by lia
theorem SJ(k:p<32*↑a):p<32*(↑(a+1):Int):=by lia
theorem SM(l:p<=32)(k:q<p):32*↑a+q<32*(↑(a+1):Int):=by lia
theorem SN(k:a<=2):1+a<=2^24:=by lia
theorem SO(l:a=(p-q).toNat)(k:0<=q/\p<=32):a<=32:=by omega
theorem SP(l:a<=32*b)(k:c<=32):a+c<=32*(b+1):=Nat.add_le_add l k
theorem BL(l:a=4)(k:b<4):b<a:=Ez k (id (bn l))
theorem BM(k:a<4):(↑a:Int)<2^62:=by lia
theorem BN(k:0<=p):-2^62<=p:=by lia
theorem BO(k:p<=32):p<2^62:=fq k (by decide)
theorem SQ(k:a<4)(m:b<=c+d)(l:c<=32*a)(o:e<=32)(n:d<=e):b<=1000:=by lia
theorem SV(k:a<=32):a<=128:=bF k (by decide)
theorem SX(l:a<=32)(k:b<=a):b<=32:=bF k l
theorem rT(k:a<=20):a<=32:=bF k (by decide)
theorem SY(k:a<=20):a<=2^24:=bF k (by decide)
theorem BP(l:a<=20)(k:b<a):b<=2^24:=by lia
theorem BQ(k:a<=20):a<2^62:=fO k (by decide)
theorem BR(l:p<=q)(k:q<=3):p<=32:=by lia
theorem BS(l:p<=q)(k:q<=r)(m:r<=3):p<=32:=by lia
theorem S9(k:(0:Int)<=p/\p<(0:Int)+(↑(4:Nat):Int)):p=(0:Int)\/p=(1:Int)\/p=(2:Int)\/p=(3:Int):=by obtain⟨cT,cU⟩:=k;lia
theorem S!(l:0<=p)(k:p<=q)(n:q<=r)(m:r<=3):-2^62<=r/\r<2^62:=by exact⟨by lia,by lia⟩
theorem S?(l:0<=p)(k:p<=q)(n:q<=r)(m:r<=3):-2^62<=q/\q<2^62:=by exact⟨by lia,by lia⟩
theorem Ta(l:0<=p)(k:p<=q)(n:q<=r)(m:r<=3):-2^62<=p/\p<2^62:=by exact⟨by lia,by lia⟩
theorem Tb(k:(0:Int)<=p/\p<(0:Int)+(↑(4:Nat):Int)):p.toNat<(4:Nat):=(Int.toNat_lt k.1).mpr k.2
theorem Tc(k:(0:Int)<=p/\p<(0:Int)+(↑(4:Nat):Int)):(↑p.toNat:Int)=p:=by obtain⟨cT,cU⟩:=k;lia
theorem Td(k:(0:Int)<=p/\p<(0:Int)+(↑(4:Nat):Int)):(0:Int)<=p:=k.1
theorem Te(k:(0:Int)<=p/\p<(0:Int)+(↑(4:Nat):Int)):p<(2:Int)^(62:Nat):=dF k.2 (by decide)
theorem Tf(k:a<=1000000):a<2^62:=fO k (by decide)
theorem Tg(l:p<=q)(k:q<=r)(m:r<=3):(r+q+p).toNat<=19:=by lia
theorem BU(k:0<=p):0<=p:=k
theorem Th(l:p=(32:Int)*(↑(0:Nat):Int)+q)(k:r<=q):r<=p:=by lia
theorem Ti(l:p=(32:Int)*(↑(0:Nat):Int)+q)(k:q<r):p<r:=by lia
theorem Tk(l:p=(32:Int)*(↑(1:Nat):Int)+q)(k:r<=q):(32:Int)+r<=p:=by lia
theorem Tl(l:p=(32:Int)*(↑(1:Nat):Int)+q)(k:q<r):p<(32:Int)+r:=by lia
theorem Tn(l:p=(32:Int)*(↑(2:Nat):Int)+q)(k:r<=q):(64:Int)+r<=p:=by lia
theorem To(l:p=(32:Int)*(↑(2:Nat):Int)+q)(k:q<r):p<(64:Int)+r:=by lia
theorem Tp(l:p=(32:Int)*(↑(3:Nat):Int)+q)(k:(0:Int)<=q):(96:Int)<=p:=by lia
theorem Tq(l:p=(32:Int)*(↑(3:Nat):Int)+q)(k:q<r):p<(96:Int)+r:=by lia
theorem Tr:p=(32:Int)*(↑(0:Nat):Int)+p:=by simp
theorem Ts(k:32+p<=q):p<=q-32:=DU k
theorem Tt(k:p<32+q):p-32<q:=wY k
theorem Tu:p=(32:Int)*(↑(1:Nat):Int)+(p-(32:Int)):=pT.mp rfl
theorem Tv(k:64+p<=q):p<=q-64:=DU k
theorem Tw(k:p<64+q):p-64<q:=wY k
theorem Tx:p=(32:Int)*(↑(2:Nat):Int)+(p-(64:Int)):=pT.mp rfl
theorem Tz(k:96<=p):0<=p-96:=wZ k
theorem TA(k:p<96+q):p-96<q:=wY k
theorem TB:p=(32:Int)*(↑(3:Nat):Int)+(p-(96:Int)):=pT.mp rfl
theorem TC(k:0<=p/\p<5):1<=p+1/\p+1<=5:=by obtain⟨cT,cU⟩:=k;exact⟨by lia,by lia⟩
theorem TD(k:0<=p/\p<4):0<=p/\p<=3:=by obtain⟨cT,cU⟩:=k;exact⟨by lia,by lia⟩
theorem TE(k:a=4):a<64:=ED.mp (k▸Nat.succ_pos _)
theorem TF(k:a=3):a<64:=ED.mp (k▸Nat.succ_pos _)
theorem TJ(k:1<=p/\p<=5):p<=32:=bo k.2 (by decide)
theorem BW(k:1<=p/\p<=5):0<=p:=by obtain⟨cT,cU⟩:=k;lia
theorem TK:a+1<=a+1:=bD _
theorem TM:a+1<=a+5:=by simp
theorem TN:a+1<=a+1+1:=iD _ _
theorem TP:a+1+1<=a+5:=by simp
theorem TQ:a+1<=a+1+1+1:=by simp
theorem TR:a+1+1+1<=a+5:=by simp
theorem TS:a+1<=a+1+1+1+1:=by simp
theorem TU:a+1+1+1+1<=a+5:=p_ _
theorem TW:a+1<=a+1+1+1+1+1:=by simp
theorem TX:a+1+1+1+1+1<=a+5:=bD _
theorem TY(k:a+1<=b/\b<=a+5):b=a+1\/b=a+1+1\/b=a+1+1+1\/b=a+1+1+1+1\/b=a+1+1+1+1+1:=by lia
theorem TZ(k:176<a/\171<a/\193<a):3<a+1:=by obtain⟨cT,cU,iQ⟩:=k;lia
theorem T0(k:176<a/\171<a/\193<a):3<a+1+1:=by obtain⟨cT,cU,iQ⟩:=k;lia
theorem T1(k:176<a/\171<a/\193<a):3<a+1+1+1:=by obtain⟨cT,cU,iQ⟩:=k;lia
theorem T2:3<a+1+1+1+1:=jY _ _
theorem T3:3<a+1+1+1+1+1:=jY _ _
theorem T4(k:a<=1000):a<=2^24:=bF k (by decide)
theorem T5(k:a<=1000):a<2^62:=fO k (by decide)
theorem T6(k:a=b):(↑a:Int)=(↑b:Int):=Int.ofNat_inj.mpr k
theorem T7(l:a<=1000)(k:b<=a):(↑b:Int)<2^63:=by lia
theorem T8(k:p=1):p-1=0:=Int.sub_eq_zero.mpr k
theorem T9(k:¬p=1):¬p-1=0:=by lia
theorem T!:(↑a:Int)+(↑b:Int)+(↑c:Int)=(↑a:Int)+((↑b:Int)+(↑c:Int)):=wS ..
theorem T?(k:↑a=↑b+p):↑a+1=↑b+1+p:=by lia
theorem T_(l:(↑a:Int)=0)(k:0<a):False:=by lia
theorem Ua(l:p=1)(k:p=q)(m:q=r+1):r=0:=by lia
theorem Ub(l:p=0)(k:q=r)(m:r=p+1):q=1:=by lia
theorem Uc:(↑a:Int)+((↑b:Int)+(↑c:Int))=(↑a:Int)+(↑c:Int)+(↑b:Int):=by lia
theorem Ud(l:p=q)(k:q=r+1):p-1=r:=by lia
theorem Ue(l:p=q)(k:q=r+0):p=r:=by lia
theorem Uf:a<b+a+1:=jY _ _
theorem Ug(k:a<b):a<b+c+1:=by lia
theorem Uh(l:a<=1000)(k:b<=a):b<=10000:=by lia
theorem Ui(l:a<=1000)(k:b<=a):b<=1000:=bF k l
theorem Uj(k:a<1):a=0:=Nat.lt_one_iff.mp k
theorem BY(l:a<=1000)(k:b<=a):b<=8000:=by lia
end
set_option linter.all false
@[elab_as_elim] theorem aa{α:Sort _}{b:α}{m:α->Prop}{a:α}(h:a=b)(p:m b):m a:=h.symm▸p
@[elab_as_elim] theorem az{α:Sort _}{b:α}{m:α->Prop}{a:α}(h:b=a)(p:m b):m a:=h▸p
@[elab_as_elim] theorem lx{α:Type _}{a b c d:α}{P:α->Prop}{p:α}(h:p∈[a,b,c,d])(i:P a)(g:P b)(f:P c)(e:P d):P p:=by obtain _|⟨_,_|⟨_,_|⟨_,_|⟨_,h⟩⟩⟩⟩:=h<;>first|assumption|cases h
theorem kz{α:Type _}{a:α}{P:α->Prop}(h:P a):∀p∈[a],P p:=λp hp=>aK.mp hp▸h
theorem iu{α:Type _}{a b:α}{P:α->Prop}(h:P a)(k:P b):∀p∈[a,b],P p:=λp hp=>(aW.mp hp).elim (λe=>e▸h) λq=>aK.mp q▸k
theorem cE{T:Type _}{x:Option T}{G:Prop}(h:x=iF->G)(k:∀v,x=wf v->G):G:=match x,h,k with|none,h,_=>h rfl|some v,_,k=>k v rfl
theorem UP{T:Type _}{x:Option T}{G:Prop}(k:∀v,x=wf v->G)(h:x=iF->G):G:=cE h k
theorem k9{x:Bool}{G:Prop}(h:x=true->G)(k:x=false->G):G:=match x,h,k with|true,h,_=>h rfl|false,_,k=>k rfl
theorem X7{x:Bool}{G:Prop}(k:x=false->G)(h:x=true->G):G:=k9 h k
@[elab_as_elim] theorem Yt{P0:Prop}{P1:Prop}{P2:Prop}{P3:Prop}{c:Prop}{a:Prop}{B:Sort _}{F:B}{G:B->Prop}{b:B}(h:P0/\P1/\P2/\P3/\c/\a/\F=b)(k:P0->P1->P2->P3->c->a->G (F)):G b:=by obtain⟨e,a1,a2,a3,a4,d,rfl⟩:=h;exact k e a1 a2 a3 a4 d
@[elab_as_elim] theorem LO{P0:Prop}{P1:Prop}{P2:Prop}{P3:Prop}{c:Prop}{a:Prop}{B:Sort _}{F:B}{G:B->Prop}{b:B}(h:P0/\P1/\P2/\P3/\c/\a/\b=F)(k:P0->P1->P2->P3->c->a->G (F)):G b:=by obtain⟨e,a1,a2,a3,a4,d,rfl⟩:=h;exact k e a1 a2 a3 a4 d
@[elab_as_elim] theorem Yu{e:Sort _}{d:Sort _}{P0:Prop}{P1:Prop}{g:e->d->Prop}{f:e->d->Prop}{B:Sort _}{F:e->d->B}{G:B->Prop}{b:B}(h:P0/\P1/\∃c,∃a,g c a/\f c a/\F c a=b)(k:P0->P1->∀c:e,∀a:d,g c a->f c a->G (F c a)):G b:=by obtain⟨j,a1,c,a,a4,i,rfl⟩:=h;exact k j a1 c a a4 i
@[elab_as_elim] theorem Yv{e:Sort _}{d:Sort _}{P0:Prop}{P1:Prop}{g:e->d->Prop}{f:e->d->Prop}{B:Sort _}{F:e->d->B}{G:B->Prop}{b:B}(h:P0/\P1/\∃c,∃a,g c a/\f c a/\b=F c a)(k:P0->P1->∀c:e,∀a:d,g c a->f c a->G (F c a)):G b:=by obtain⟨j,a1,c,a,a4,i,rfl⟩:=h;exact k j a1 c a a4 i
@[elab_as_elim] theorem Yw{P0:Prop}{B:Sort _}{F:B}{G:B->Prop}{b:B}(h:P0/\F=b)(k:P0->G (F)):G b:=by obtain⟨a,rfl⟩:=h;exact k a
@[elab_as_elim] theorem vr{P0:Prop}{B:Sort _}{F:B}{G:B->Prop}{b:B}(h:P0/\b=F)(k:P0->G (F)):G b:=by obtain⟨a,rfl⟩:=h;exact k a
@[elab_as_elim] theorem Yx{c:Sort _}{P1:c->Prop}{P2:c->Prop}{B:Sort _}{F:c->B}{G:B->Prop}{b:B}(h:∃a,P1 a/\P2 a/\F a=b)(k:∀a:c,P1 a->P2 a->G (F a)):G b:=by obtain⟨a,a1,a2,rfl⟩:=h;exact k a a1 a2
@[elab_as_elim] theorem Yy{c:Sort _}{P1:c->Prop}{P2:c->Prop}{B:Sort _}{F:c->B}{G:B->Prop}{b:B}(h:∃a,P1 a/\P2 a/\b=F a)(k:∀a:c,P1 a->P2 a->G (F a)):G b:=by obtain⟨a,a1,a2,rfl⟩:=h;exact k a a1 a2
@[elab_as_elim] theorem Yz{f:Sort _}{j:Sort _}{i:Sort _}{g:Sort _}{P1:f->Prop}{B:Sort _}{F:f->j->i->g->B}{G:B->Prop}{b:B}(h:∃a,P1 a/\∃e,∃d,∃c,F a e d c=b)(k:∀a:f,P1 a->∀e:j,∀d:i,∀c:g,G (F a e d c)):G b:=by obtain⟨a,a1,e,d,c,rfl⟩:=h;exact k a a1 e d c
@[elab_as_elim] theorem YA{f:Sort _}{j:Sort _}{i:Sort _}{g:Sort _}{P1:f->Prop}{B:Sort _}{F:f->j->i->g->B}{G:B->Prop}{b:B}(h:∃a,P1 a/\∃e,∃d,∃c,b=F a e d c)(k:∀a:f,P1 a->∀e:j,∀d:i,∀c:g,G (F a e d c)):G b:=by obtain⟨a,a1,e,d,c,rfl⟩:=h;exact k a a1 e d c
@[elab_as_elim] theorem YB{e:Sort _}{g:Sort _}{f:Sort _}{P1:e->Prop}{B:Sort _}{F:e->g->f->B}{G:B->Prop}{b:B}(h:∃a,P1 a/\∃d,∃c,F a d c=b)(k:∀a:e,P1 a->∀d:g,∀c:f,G (F a d c)):G b:=by obtain⟨a,a1,d,c,rfl⟩:=h;exact k a a1 d c
@[elab_as_elim] theorem YC{e:Sort _}{g:Sort _}{f:Sort _}{P1:e->Prop}{B:Sort _}{F:e->g->f->B}{G:B->Prop}{b:B}(h:∃a,P1 a/\∃d,∃c,b=F a d c)(k:∀a:e,P1 a->∀d:g,∀c:f,G (F a d c)):G b:=by obtain⟨a,a1,d,c,rfl⟩:=h;exact k a a1 d c
@[elab_as_elim] theorem YD{d:Sort _}{e:Sort _}{P1:d->Prop}{B:Sort _}{F:d->e->B}{G:B->Prop}{b:B}(h:∃a,P1 a/\∃c,F a c=b)(k:∀a:d,P1 a->∀c:e,G (F a c)):G b:=by obtain⟨a,a1,c,rfl⟩:=h;exact k a a1 c
@[elab_as_elim] theorem YE{d:Sort _}{e:Sort _}{P1:d->Prop}{B:Sort _}{F:d->e->B}{G:B->Prop}{b:B}(h:∃a,P1 a/\∃c,b=F a c)(k:∀a:d,P1 a->∀c:e,G (F a c)):G b:=by obtain⟨a,a1,c,rfl⟩:=h;exact k a a1 c
@[elab_as_elim] theorem YF{c:Sort _}{P1:c->Prop}{B:Sort _}{F:c->B}{G:B->Prop}{b:B}(h:∃a,P1 a/\F a=b)(k:∀a:c,P1 a->G (F a)):G b:=by obtain⟨a,a1,rfl⟩:=h;exact k a a1
@[elab_as_elim] theorem YG{c:Sort _}{P1:c->Prop}{B:Sort _}{F:c->B}{G:B->Prop}{b:B}(h:∃a,P1 a/\b=F a)(k:∀a:c,P1 a->G (F a)):G b:=by obtain⟨a,a1,rfl⟩:=h;exact k a a1
@[elab_as_elim] theorem YH{e:Sort _}{d:Sort _}{P2:e->d->Prop}{P3:e->d->Prop}{B:Sort _}{F:e->d->B}{G:B->Prop}{b:B}(h:∃c,∃a,P2 c a/\P3 c a/\F c a=b)(k:∀c:e,∀a:d,P2 c a->P3 c a->G (F c a)):G b:=by obtain⟨c,a,a2,a3,rfl⟩:=h;exact k c a a2 a3
@[elab_as_elim] theorem YI{e:Sort _}{d:Sort _}{P2:e->d->Prop}{P3:e->d->Prop}{B:Sort _}{F:e->d->B}{G:B->Prop}{b:B}(h:∃c,∃a,P2 c a/\P3 c a/\b=F c a)(k:∀c:e,∀a:d,P2 c a->P3 c a->G (F c a)):G b:=by obtain⟨c,a,a2,a3,rfl⟩:=h;exact k c a a2 a3
@[elab_as_elim] theorem YJ{e:Sort _}{d:Sort _}{P2:e->d->Prop}{B:Sort _}{F:e->d->B}{G:B->Prop}{b:B}(h:∃c,∃a,P2 c a/\F c a=b)(k:∀c:e,∀a:d,P2 c a->G (F c a)):G b:=by obtain⟨c,a,a2,rfl⟩:=h;exact k c a a2
@[elab_as_elim] theorem YK{e:Sort _}{d:Sort _}{P2:e->d->Prop}{B:Sort _}{F:e->d->B}{G:B->Prop}{b:B}(h:∃c,∃a,P2 c a/\b=F c a)(k:∀c:e,∀a:d,P2 c a->G (F c a)):G b:=by obtain⟨c,a,a2,rfl⟩:=h;exact k c a a2
@[elab_as_elim] theorem YL{g:Sort _}{f:Sort _}{e:Sort _}{P3:g->f->e->Prop}{i:g->f->e->Prop}{B:Sort _}{F:g->f->e->B}{G:B->Prop}{b:B}(h:∃d,∃c,∃a,P3 d c a/\i d c a/\F d c a=b)(k:∀d:g,∀c:f,∀a:e,P3 d c a->i d c a->G (F d c a)):G b:=by obtain⟨d,c,a,a3,a4,rfl⟩:=h;exact k d c a a3 a4
@[elab_as_elim] theorem YM{g:Sort _}{f:Sort _}{e:Sort _}{P3:g->f->e->Prop}{i:g->f->e->Prop}{B:Sort _}{F:g->f->e->B}{G:B->Prop}{b:B}(h:∃d,∃c,∃a,P3 d c a/\i d c a/\b=F d c a)(k:∀d:g,∀c:f,∀a:e,P3 d c a->i d c a->G (F d c a)):G b:=by obtain⟨d,c,a,a3,a4,rfl⟩:=h;exact k d c a a3 a4
@[elab_as_elim] theorem YN{e:Sort _}{d:Sort _}{B:Sort _}{F:e->d->B}{G:B->Prop}{b:B}(h:∃c,∃a,F c a=b)(k:∀c:e,∀a:d,G (F c a)):G b:=by obtain⟨c,a,rfl⟩:=h;exact k c a
@[elab_as_elim] theorem YO{e:Sort _}{d:Sort _}{B:Sort _}{F:e->d->B}{G:B->Prop}{b:B}(h:∃c,∃a,b=F c a)(k:∀c:e,∀a:d,G (F c a)):G b:=by obtain⟨c,a,rfl⟩:=h;exact k c a
@[elab_as_elim] theorem oEq{c:Sort _}{B:Sort _}{F:c->B}{G:B->Prop}{b:B}(h:∃a,F a=b)(k:∀a:c,G (F a)):G b:=by obtain⟨a,rfl⟩:=h;exact k a
@[elab_as_elim] theorem YP{c:Sort _}{B:Sort _}{F:c->B}{G:B->Prop}{b:B}(h:∃a,b=F a)(k:∀a:c,G (F a)):G b:=by obtain⟨a,rfl⟩:=h;exact k a
theorem oA{P0:Prop}{P1:Prop}{G:Prop}(h:P0/\P1)(k:P0->P1->G):G:=h.elim λa a1=>k a a1
theorem xA{P0:Prop}{P1:Prop}(a:P0)(a1:P1):P0/\P1:=⟨a,a1⟩
theorem oE{b:Sort _}{P1:b->Prop}{G:Prop}(h:∃a,P1 a)(k:∀a:b,P1 a->G):G:=h.elim λa a1=>k a a1
theorem xE{a:Sort _}{P1:a->Prop}(x0:a)(a1:P1 x0):∃x0,P1 x0:=⟨x0,a1⟩
theorem a!{P0:Prop}{P1:Prop}{P2:Prop}{G:Prop}(h:P0/\P1/\P2)(k:P0->P1->P2->G):G:=h.elim λb a=>a.elim λa1 a2=>k b a1 a2
theorem aC{P0:Prop}{P1:Prop}{P2:Prop}(a:P0)(a1:P1)(a2:P2):P0/\P1/\P2:=⟨a,a1,a2⟩
theorem rF{b:Sort _}{P0:Prop}{P2:b->Prop}{G:Prop}(h:P0/\∃a,P2 a)(k:P0->∀a:b,P2 a->G):G:=h.elim λd c=>c.elim λa a2=>k d a a2
theorem Dw{a:Sort _}{P0:Prop}{P2:a->Prop}(b:P0)(x1:a)(a2:P2 x1):P0/\∃x1,P2 x1:=⟨b,x1,a2⟩
theorem ak{b:Sort _}{P1:b->Prop}{P2:b->Prop}{G:Prop}(h:∃a,P1 a/\P2 a)(k:∀a:b,P1 a->P2 a->G):G:=h.elim λa c=>c.elim λa1 a2=>k a a1 a2
theorem ar{a:Sort _}{P1:a->Prop}{P2:a->Prop}(x0:a)(a1:P1 x0)(a2:P2 x0):∃x0,P1 x0/\P2 x0:=⟨x0,a1,a2⟩
theorem fM{d:Sort _}{c:Sort _}{P2:d->c->Prop}{G:Prop}(h:∃b,∃a,P2 b a)(k:∀b:d,∀a:c,P2 b a->G):G:=h.elim λb e=>e.elim λa a2=>k b a a2
theorem dT{c:Sort _}{b:Sort _}{P2:c->b->Prop}(a:c)(x1:b)(a2:P2 a x1):∃a,∃x1,P2 a x1:=⟨a,x1,a2⟩
theorem f7{P0:Prop}{P1:Prop}{P2:Prop}{P3:Prop}{G:Prop}(h:P0/\P1/\P2/\P3)(k:P0->P1->P2->P3->G):G:=h.elim λc b=>b.elim λa1 a=>a.elim λa2 a3=>k c a1 a2 a3
theorem cL{P0:Prop}{P1:Prop}{P2:Prop}{P3:Prop}(a:P0)(a1:P1)(a2:P2)(a3:P3):P0/\P1/\P2/\P3:=⟨a,a1,a2,a3⟩
theorem W7{a:Sort _}{P0:Prop}{P1:Prop}{P3:a->Prop}(b:P0)(a1:P1)(x2:a)(a3:P3 x2):P0/\P1/\∃x2,P3 x2:=⟨b,a1,x2,a3⟩
theorem rG{b:Sort _}{P0:Prop}{P2:b->Prop}{P3:b->Prop}{G:Prop}(h:P0/\∃a,P2 a/\P3 a)(k:P0->∀a:b,P2 a->P3 a->G):G:=h.elim λe d=>d.elim λa c=>c.elim λa2 a3=>k e a a2 a3
theorem jS{a:Sort _}{P0:Prop}{P2:a->Prop}{P3:a->Prop}(b:P0)(x1:a)(a2:P2 x1)(a3:P3 x1):P0/\∃x1,P2 x1/\P3 x1:=⟨b,x1,a2,a3⟩
theorem aB{b:Sort _}{P1:b->Prop}{P2:b->Prop}{P3:b->Prop}{G:Prop}(h:∃a,P1 a/\P2 a/\P3 a)(k:∀a:b,P1 a->P2 a->P3 a->G):G:=h.elim λa d=>d.elim λa1 c=>c.elim λa2 a3=>k a a1 a2 a3
theorem aR{a:Sort _}{P1:a->Prop}{P2:a->Prop}{P3:a->Prop}(x0:a)(a1:P1 x0)(a2:P2 x0)(a3:P3 x0):∃x0,P1 x0/\P2 x0/\P3 x0:=⟨x0,a1,a2,a3⟩
theorem vy{c:Sort _}{d:Sort _}{P1:c->Prop}{P3:c->d->Prop}{G:Prop}(h:∃a,P1 a/\∃b,P3 a b)(k:∀a:c,P1 a->∀b:d,P3 a b->G):G:=h.elim λa f=>f.elim λa1 e=>e.elim λb a3=>k a a1 b a3
theorem aV{d:Sort _}{c:Sort _}{P2:d->c->Prop}{P3:d->c->Prop}{G:Prop}(h:∃b,∃a,P2 b a/\P3 b a)(k:∀b:d,∀a:c,P2 b a->P3 b a->G):G:=h.elim λb f=>f.elim λa e=>e.elim λa2 a3=>k b a a2 a3
theorem a_{c:Sort _}{b:Sort _}{P2:c->b->Prop}{P3:c->b->Prop}(a:c)(x1:b)(a2:P2 a x1)(a3:P3 a x1):∃a,∃x1,P2 a x1/\P3 a x1:=⟨a,x1,a2,a3⟩
theorem L0{f:Sort _}{e:Sort _}{d:Sort _}{P3:f->e->d->Prop}{G:Prop}(h:∃c,∃b,∃a,P3 c b a)(k:∀c:f,∀b:e,∀a:d,P3 c b a->G):G:=h.elim λc i=>i.elim λb g=>g.elim λa a3=>k c b a a3
theorem wJ{e:Sort _}{d:Sort _}{c:Sort _}{P3:e->d->c->Prop}(b:e)(a:d)(x2:c)(a3:P3 b a x2):∃b,∃a,∃x2,P3 b a x2:=⟨b,a,x2,a3⟩
theorem pf{P0:Prop}{P1:Prop}{P2:Prop}{P3:Prop}{a:Prop}{G:Prop}(h:P0/\P1/\P2/\P3/\a)(k:P0->P1->P2->P3->a->G):G:=h.elim λe d=>d.elim λa1 c=>c.elim λa2 b=>b.elim λa3 a4=>k e a1 a2 a3 a4
theorem pQ{P0:Prop}{P1:Prop}{P2:Prop}{P3:Prop}{P4:Prop}(a:P0)(a1:P1)(a2:P2)(a3:P3)(a4:P4):P0/\P1/\P2/\P3/\P4:=⟨a,a1,a2,a3,a4⟩
theorem LQ{b:Sort _}{P0:Prop}{P1:Prop}{P3:b->Prop}{c:b->Prop}{G:Prop}(h:P0/\P1/\∃a,P3 a/\c a)(k:P0->P1->∀a:b,P3 a->c a->G):G:=h.elim λg f=>f.elim λa1 e=>e.elim λa d=>d.elim λa3 a4=>k g a1 a a3 a4
theorem W8{a:Sort _}{P0:Prop}{P1:Prop}{P3:a->Prop}{b:a->Prop}(c:P0)(a1:P1)(x2:a)(a3:P3 x2)(a4:b x2):P0/\P1/\∃x2,P3 x2/\b x2:=⟨c,a1,x2,a3,a4⟩
theorem W9{a:Sort _}{P0:Prop}{P2:a->Prop}{P3:a->Prop}{b:a->Prop}(c:P0)(x1:a)(a2:P2 x1)(a3:P3 x1)(a4:b x1):P0/\∃x1,P2 x1/\P3 x1/\b x1:=⟨c,x1,a2,a3,a4⟩
theorem fj{d:Sort _}{c:Sort _}{P0:Prop}{P3:d->c->Prop}{e:d->c->Prop}{G:Prop}(h:P0/\∃b,∃a,P3 b a/\e b a)(k:P0->∀b:d,∀a:c,P3 b a->e b a->G):G:=h.elim λj i=>i.elim λb g=>g.elim λa f=>f.elim λa3 a4=>k j b a a3 a4
theorem lV{c:Sort _}{b:Sort _}{P0:Prop}{P3:c->b->Prop}{d:c->b->Prop}(e:P0)(a:c)(x2:b)(a3:P3 a x2)(a4:d a x2):P0/\∃a,∃x2,P3 a x2/\d a x2:=⟨e,a,x2,a3,a4⟩
theorem rH{b:Sort _}{P1:b->Prop}{P2:b->Prop}{P3:b->Prop}{c:b->Prop}{G:Prop}(h:∃a,P1 a/\P2 a/\P3 a/\c a)(k:∀a:b,P1 a->P2 a->P3 a->c a->G):G:=h.elim λa f=>f.elim λa1 e=>e.elim λa2 d=>d.elim λa3 a4=>k a a1 a2 a3 a4
theorem Dx{a:Sort _}{P1:a->Prop}{P2:a->Prop}{P3:a->Prop}{b:a->Prop}(x0:a)(a1:P1 x0)(a2:P2 x0)(a3:P3 x0)(a4:b x0):∃x0,P1 x0/\P2 x0/\P3 x0/\b x0:=⟨x0,a1,a2,a3,a4⟩
theorem vt{c:Sort _}{d:Sort _}{P1:c->Prop}{P2:c->Prop}{e:c->d->Prop}{G:Prop}(h:∃a,P1 a/\P2 a/\∃b,e a b)(k:∀a:c,P1 a->P2 a->∀b:d,e a b->G):G:=h.elim λa i=>i.elim λa1 g=>g.elim λa2 f=>f.elim λb a4=>k a a1 a2 b a4
theorem lW{b:Sort _}{c:Sort _}{P1:b->Prop}{P2:b->Prop}{d:b->c->Prop}(a:b)(a1:P1 a)(a2:P2 a)(x3:c)(a4:d a x3):∃a,P1 a/\P2 a/\∃x3,d a x3:=⟨a,a1,a2,x3,a4⟩
theorem il{c:Sort _}{d:Sort _}{P1:c->Prop}{P3:c->d->Prop}{e:c->d->Prop}{G:Prop}(h:∃a,P1 a/\∃b,P3 a b/\e a b)(k:∀a:c,P1 a->∀b:d,P3 a b->e a b->G):G:=h.elim λa i=>i.elim λa1 g=>g.elim λb f=>f.elim λa3 a4=>k a a1 b a3 a4
theorem vz{d:Sort _}{f:Sort _}{e:Sort _}{P1:d->Prop}{g:d->f->e->Prop}{G:Prop}(h:∃a,P1 a/\∃c,∃b,g a c b)(k:∀a:d,P1 a->∀c:f,∀b:e,g a c b->G):G:=h.elim λa l=>l.elim λa1 j=>j.elim λc i=>i.elim λb a4=>k a a1 c b a4
theorem dP{d:Sort _}{c:Sort _}{P2:d->c->Prop}{P3:d->c->Prop}{e:d->c->Prop}{G:Prop}(h:∃b,∃a,P2 b a/\P3 b a/\e b a)(k:∀b:d,∀a:c,P2 b a->P3 b a->e b a->G):G:=h.elim λb i=>i.elim λa g=>g.elim λa2 f=>f.elim λa3 a4=>k b a a2 a3 a4
theorem cj{c:Sort _}{b:Sort _}{P2:c->b->Prop}{P3:c->b->Prop}{d:c->b->Prop}(a:c)(x1:b)(a2:P2 a x1)(a3:P3 a x1)(a4:d a x1):∃a,∃x1,P2 a x1/\P3 a x1/\d a x1:=⟨a,x1,a2,a3,a4⟩
theorem pg{f:Sort _}{e:Sort _}{d:Sort _}{P3:f->e->d->Prop}{g:f->e->d->Prop}{G:Prop}(h:∃c,∃b,∃a,P3 c b a/\g c b a)(k:∀c:f,∀b:e,∀a:d,P3 c b a->g c b a->G):G:=h.elim λc l=>l.elim λb j=>j.elim λa i=>i.elim λa3 a4=>k c b a a3 a4
theorem Xk{e:Sort _}{d:Sort _}{c:Sort _}{P3:e->d->c->Prop}{f:e->d->c->Prop}(b:e)(a:d)(x2:c)(a3:P3 b a x2)(a4:f b a x2):∃b,∃a,∃x2,P3 b a x2/\f b a x2:=⟨b,a,x2,a3,a4⟩
theorem lC{i:Sort _}{g:Sort _}{f:Sort _}{e:Sort _}{j:i->g->f->e->Prop}{G:Prop}(h:∃d,∃c,∃b,∃a,j d c b a)(k:∀d:i,∀c:g,∀b:f,∀a:e,j d c b a->G):G:=h.elim λd n=>n.elim λc m=>m.elim λb l=>l.elim λa a4=>k d c b a a4
theorem e8{g:Sort _}{f:Sort _}{e:Sort _}{d:Sort _}{h:g->f->e->d->Prop}(c:g)(b:f)(a:e)(x3:d)(a4:h c b a x3):∃c,∃b,∃a,∃x3,h c b a x3:=⟨c,b,a,x3,a4⟩
theorem ky{P0:Prop}{P1:Prop}{P2:Prop}{P3:Prop}{b:Prop}{a:Prop}{G:Prop}(h:P0/\P1/\P2/\P3/\b/\a)(k:P0->P1->P2->P3->b->a->G):G:=h.elim λi f=>f.elim λa1 e=>e.elim λa2 d=>d.elim λa3 c=>c.elim λa4 g=>k i a1 a2 a3 a4 g
theorem dS{P0:Prop}{P1:Prop}{P2:Prop}{P3:Prop}{a:Prop}{P5:Prop}(c:P0)(a1:P1)(a2:P2)(a3:P3)(a4:a)(b:P5):P0/\P1/\P2/\P3/\a/\P5:=⟨c,a1,a2,a3,a4,b⟩
theorem AG{b:Sort _}{P0:Prop}{P1:Prop}{P2:Prop}{d:b->Prop}{c:b->Prop}{G:Prop}(h:P0/\P1/\P2/\∃a,d a/\c a)(k:P0->P1->P2->∀a:b,d a->c a->G):G:=h.elim λl i=>i.elim λa1 g=>g.elim λa2 f=>f.elim λa e=>e.elim λa4 j=>k l a1 a2 a a4 j
theorem wG{a:Sort _}{P0:Prop}{P1:Prop}{P2:Prop}{c:a->Prop}{b:a->Prop}(e:P0)(a1:P1)(a2:P2)(x3:a)(a4:c x3)(d:b x3):P0/\P1/\P2/\∃x3,c x3/\b x3:=⟨e,a1,a2,x3,a4,d⟩
theorem W'{a:Sort _}{P0:Prop}{P2:a->Prop}{P3:a->Prop}{c:a->Prop}{b:a->Prop}(e:P0)(x1:a)(a2:P2 x1)(a3:P3 x1)(a4:c x1)(d:b x1):P0/\∃x1,P2 x1/\P3 x1/\c x1/\b x1:=⟨e,x1,a2,a3,a4,d⟩
theorem W?{c:Sort _}{e:Sort _}{d:Sort _}{P0:Prop}{P2:c->Prop}{f:c->e->d->Prop}(h:P0)(a:c)(a2:P2 a)(b:e)(x4:d)(g:f a b x4):P0/\∃a,P2 a/\∃b,∃x4,f a b x4:=⟨h,a,a2,b,x4,g⟩
theorem dD{b:Sort _}{P1:b->Prop}{P2:b->Prop}{P3:b->Prop}{d:b->Prop}{c:b->Prop}{G:Prop}(h:∃a,P1 a/\P2 a/\P3 a/\d a/\c a)(k:∀a:b,P1 a->P2 a->P3 a->d a->c a->G):G:=h.elim λa i=>i.elim λa1 g=>g.elim λa2 f=>f.elim λa3 e=>e.elim λa4 j=>k a a1 a2 a3 a4 j
theorem dp{a:Sort _}{P1:a->Prop}{P2:a->Prop}{P3:a->Prop}{c:a->Prop}{b:a->Prop}(x0:a)(a1:P1 x0)(a2:P2 x0)(a3:P3 x0)(a4:c x0)(d:b x0):∃x0,P1 x0/\P2 x0/\P3 x0/\c x0/\b x0:=⟨x0,a1,a2,a3,a4,d⟩
theorem Dy{b:Sort _}{c:Sort _}{P1:b->Prop}{P2:b->Prop}{P3:b->Prop}{d:b->c->Prop}(a:b)(a1:P1 a)(a2:P2 a)(a3:P3 a)(x4:c)(e:d a x4):∃a,P1 a/\P2 a/\P3 a/\∃x4,d a x4:=⟨a,a1,a2,a3,x4,e⟩
theorem bJ{d:Sort _}{f:Sort _}{e:Sort _}{P1:d->Prop}{i:d->f->e->Prop}{g:d->f->e->Prop}{G:Prop}(h:∃a,P1 a/\∃c,∃b,i a c b/\g a c b)(k:∀a:d,P1 a->∀c:f,∀b:e,i a c b->g a c b->G):G:=h.elim λa n=>n.elim λa1 m=>m.elim λc l=>l.elim λb j=>j.elim λa4 o=>k a a1 c b a4 o
theorem YV{c:Sort _}{e:Sort _}{d:Sort _}{P1:c->Prop}{g:c->e->d->Prop}{f:c->e->d->Prop}(a:c)(a1:P1 a)(b:e)(x3:d)(a4:g a b x3)(h:f a b x3):∃a,P1 a/\∃b,∃x3,g a b x3/\f a b x3:=⟨a,a1,b,x3,a4,h⟩
theorem LU{e:Sort _}{i:Sort _}{g:Sort _}{f:Sort _}{P1:e->Prop}{j:e->i->g->f->Prop}{G:Prop}(h:∃a,P1 a/\∃d,∃c,∃b,j a d c b)(k:∀a:e,P1 a->∀d:i,∀c:g,∀b:f,j a d c b->G):G:=h.elim λa o=>o.elim λa1 n=>n.elim λd m=>m.elim λc l=>l.elim λb p=>k a a1 d c b p
theorem jJ{d:Sort _}{c:Sort _}{P2:d->c->Prop}{P3:d->c->Prop}{f:d->c->Prop}{e:d->c->Prop}{G:Prop}(h:∃b,∃a,P2 b a/\P3 b a/\f b a/\e b a)(k:∀b:d,∀a:c,P2 b a->P3 b a->f b a->e b a->G):G:=h.elim λb l=>l.elim λa j=>j.elim λa2 i=>i.elim λa3 g=>g.elim λa4 m=>k b a a2 a3 a4 m
theorem dc{c:Sort _}{b:Sort _}{P2:c->b->Prop}{P3:c->b->Prop}{e:c->b->Prop}{d:c->b->Prop}(a:c)(x1:b)(a2:P2 a x1)(a3:P3 a x1)(a4:e a x1)(f:d a x1):∃a,∃x1,P2 a x1/\P3 a x1/\e a x1/\d a x1:=⟨a,x1,a2,a3,a4,f⟩
theorem rK{f:Sort _}{e:Sort _}{d:Sort _}{P3:f->e->d->Prop}{i:f->e->d->Prop}{g:f->e->d->Prop}{G:Prop}(h:∃c,∃b,∃a,P3 c b a/\i c b a/\g c b a)(k:∀c:f,∀b:e,∀a:d,P3 c b a->i c b a->g c b a->G):G:=h.elim λc n=>n.elim λb m=>m.elim λa l=>l.elim λa3 j=>j.elim λa4 o=>k c b a a3 a4 o
theorem sA{e:Sort _}{d:Sort _}{c:Sort _}{P3:e->d->c->Prop}{g:e->d->c->Prop}{f:e->d->c->Prop}(b:e)(a:d)(x2:c)(a3:P3 b a x2)(a4:g b a x2)(h:f b a x2):∃b,∃a,∃x2,P3 b a x2/\g b a x2/\f b a x2:=⟨b,a,x2,a3,a4,h⟩
theorem dQ{i:Sort _}{g:Sort _}{f:Sort _}{e:Sort _}{l:i->g->f->e->Prop}{j:i->g->f->e->Prop}{G:Prop}(h:∃d,∃c,∃b,∃a,l d c b a/\j d c b a)(k:∀d:i,∀c:g,∀b:f,∀a:e,l d c b a->j d c b a->G):G:=h.elim λd p=>p.elim λc o=>o.elim λb n=>n.elim λa m=>m.elim λa4 q=>k d c b a a4 q
theorem ei{g:Sort _}{f:Sort _}{e:Sort _}{d:Sort _}{i:g->f->e->d->Prop}{h:g->f->e->d->Prop}(c:g)(b:f)(a:e)(x3:d)(a4:i c b a x3)(j:h c b a x3):∃c,∃b,∃a,∃x3,i c b a x3/\h c b a x3:=⟨c,b,a,x3,a4,j⟩
theorem Ys{P0:Prop}{P1:Prop}{P2:Prop}{P3:Prop}{c:Prop}{b:Prop}{a:Prop}{G:Prop}(h:P0/\P1/\P2/\P3/\c/\b/\a)(k:P0->P1->P2->P3->c->b->a->G):G:=h.elim λm i=>i.elim λa1 g=>g.elim λa2 f=>f.elim λa3 e=>e.elim λa4 d=>d.elim λl j=>k m a1 a2 a3 a4 l j
theorem sy{P0:Prop}{P1:Prop}{P2:Prop}{P3:Prop}{b:Prop}{a:Prop}{P6:Prop}(e:P0)(a1:P1)(a2:P2)(a3:P3)(a4:b)(d:a)(c:P6):P0/\P1/\P2/\P3/\b/\a/\P6:=⟨e,a1,a2,a3,a4,d,c⟩
theorem LR{d:Sort _}{c:Sort _}{P0:Prop}{P1:Prop}{g:d->c->Prop}{f:d->c->Prop}{e:d->c->Prop}{G:Prop}(h:P0/\P1/\∃b,∃a,g b a/\f b a/\e b a)(k:P0->P1->∀b:d,∀a:c,g b a->f b a->e b a->G):G:=h.elim λq n=>n.elim λa1 m=>m.elim λb l=>l.elim λa j=>j.elim λa4 i=>i.elim λp o=>k q a1 b a a4 p o
theorem wH{c:Sort _}{b:Sort _}{P0:Prop}{P1:Prop}{f:c->b->Prop}{e:c->b->Prop}{d:c->b->Prop}(i:P0)(a1:P1)(a:c)(x3:b)(a4:f a x3)(h:e a x3)(g:d a x3):P0/\P1/\∃a,∃x3,f a x3/\e a x3/\d a x3:=⟨i,a1,a,x3,a4,h,g⟩
theorem W!{a:Sort _}{P0:Prop}{P2:a->Prop}{P3:a->Prop}{d:a->Prop}{c:a->Prop}{b:a->Prop}(g:P0)(x1:a)(a2:P2 x1)(a3:P3 x1)(a4:d x1)(f:c x1)(e:b x1):P0/\∃x1,P2 x1/\P3 x1/\d x1/\c x1/\b x1:=⟨g,x1,a2,a3,a4,f,e⟩
theorem LS{b:Sort _}{P1:b->Prop}{P2:b->Prop}{P3:b->Prop}{e:b->Prop}{d:b->Prop}{c:b->Prop}{G:Prop}(h:∃a,P1 a/\P2 a/\P3 a/\e a/\d a/\c a)(k:∀a:b,P1 a->P2 a->P3 a->e a->d a->c a->G):G:=h.elim λa l=>l.elim λa1 j=>j.elim λa2 i=>i.elim λa3 g=>g.elim λa4 f=>f.elim λn m=>k a a1 a2 a3 a4 n m
theorem Xa{a:Sort _}{P1:a->Prop}{P2:a->Prop}{P3:a->Prop}{d:a->Prop}{c:a->Prop}{b:a->Prop}(x0:a)(a1:P1 x0)(a2:P2 x0)(a3:P3 x0)(a4:d x0)(f:c x0)(e:b x0):∃x0,P1 x0/\P2 x0/\P3 x0/\d x0/\c x0/\b x0:=⟨x0,a1,a2,a3,a4,f,e⟩
theorem vA{d:Sort _}{f:Sort _}{e:Sort _}{P1:d->Prop}{j:d->f->e->Prop}{i:d->f->e->Prop}{g:d->f->e->Prop}{G:Prop}(h:∃a,P1 a/\∃c,∃b,j a c b/\i a c b/\g a c b)(k:∀a:d,P1 a->∀c:f,∀b:e,j a c b->i a c b->g a c b->G):G:=h.elim λa p=>p.elim λa1 o=>o.elim λc n=>n.elim λb m=>m.elim λa4 l=>l.elim λr q=>k a a1 c b a4 r q
theorem Xb{c:Sort _}{e:Sort _}{d:Sort _}{P1:c->Prop}{h:c->e->d->Prop}{g:c->e->d->Prop}{f:c->e->d->Prop}(a:c)(a1:P1 a)(b:e)(x3:d)(a4:h a b x3)(j:g a b x3)(i:f a b x3):∃a,P1 a/\∃b,∃x3,h a b x3/\g a b x3/\f a b x3:=⟨a,a1,b,x3,a4,j,i⟩
theorem iX{d:Sort _}{c:Sort _}{P2:d->c->Prop}{P3:d->c->Prop}{g:d->c->Prop}{f:d->c->Prop}{e:d->c->Prop}{G:Prop}(h:∃b,∃a,P2 b a/\P3 b a/\g b a/\f b a/\e b a)(k:∀b:d,∀a:c,P2 b a->P3 b a->g b a->f b a->e b a->G):G:=h.elim λb n=>n.elim λa m=>m.elim λa2 l=>l.elim λa3 j=>j.elim λa4 i=>i.elim λp o=>k b a a2 a3 a4 p o
theorem kH{c:Sort _}{b:Sort _}{P2:c->b->Prop}{P3:c->b->Prop}{f:c->b->Prop}{e:c->b->Prop}{d:c->b->Prop}(a:c)(x1:b)(a2:P2 a x1)(a3:P3 a x1)(a4:f a x1)(h:e a x1)(g:d a x1):∃a,∃x1,P2 a x1/\P3 a x1/\f a x1/\e a x1/\d a x1:=⟨a,x1,a2,a3,a4,h,g⟩
theorem rL{f:Sort _}{e:Sort _}{d:Sort _}{P3:f->e->d->Prop}{j:f->e->d->Prop}{i:f->e->d->Prop}{g:f->e->d->Prop}{G:Prop}(h:∃c,∃b,∃a,P3 c b a/\j c b a/\i c b a/\g c b a)(k:∀c:f,∀b:e,∀a:d,P3 c b a->j c b a->i c b a->g c b a->G):G:=h.elim λc p=>p.elim λb o=>o.elim λa n=>n.elim λa3 m=>m.elim λa4 l=>l.elim λr q=>k c b a a3 a4 r q
theorem pR{e:Sort _}{d:Sort _}{c:Sort _}{P3:e->d->c->Prop}{h:e->d->c->Prop}{g:e->d->c->Prop}{f:e->d->c->Prop}(b:e)(a:d)(x2:c)(a3:P3 b a x2)(a4:h b a x2)(j:g b a x2)(i:f b a x2):∃b,∃a,∃x2,P3 b a x2/\h b a x2/\g b a x2/\f b a x2:=⟨b,a,x2,a3,a4,j,i⟩
theorem wE{P0:Prop}{P1:Prop}{P2:Prop}{P3:Prop}{c:Prop}{b:Prop}{a:Prop}{P7:Prop}(g:P0)(a1:P1)(a2:P2)(a3:P3)(a4:c)(f:b)(e:a)(d:P7):P0/\P1/\P2/\P3/\c/\b/\a/\P7:=⟨g,a1,a2,a3,a4,f,e,d⟩
theorem rI{d:Sort _}{f:Sort _}{e:Sort _}{P1:d->Prop}{l:d->f->e->Prop}{j:d->f->e->Prop}{i:d->f->e->Prop}{g:d->f->e->Prop}{G:Prop}(h:∃a,P1 a/\∃c,∃b,l a c b/\j a c b/\i a c b/\g a c b)(k:∀a:d,P1 a->∀c:f,∀b:e,l a c b->j a c b->i a c b->g a c b->G):G:=h.elim λa r=>r.elim λa1 q=>q.elim λc p=>p.elim λb o=>o.elim λa4 n=>n.elim λu m=>m.elim λt s=>k a a1 c b a4 u t s
theorem Xc{c:Sort _}{e:Sort _}{d:Sort _}{P1:c->Prop}{i:c->e->d->Prop}{h:c->e->d->Prop}{g:c->e->d->Prop}{f:c->e->d->Prop}(a:c)(a1:P1 a)(b:e)(x3:d)(a4:i a b x3)(l:h a b x3)(k:g a b x3)(j:f a b x3):∃a,P1 a/\∃b,∃x3,i a b x3/\h a b x3/\g a b x3/\f a b x3:=⟨a,a1,b,x3,a4,l,k,j⟩
theorem Dz{d:Sort _}{g:Sort _}{f:Sort _}{e:Sort _}{P1:d->Prop}{j:d->g->f->e->Prop}{i:d->g->f->e->Prop}{h:d->g->f->e->Prop}(a:d)(a1:P1 a)(c:g)(b:f)(x4:e)(m:j a c b x4)(l:i a c b x4)(k:h a c b x4):∃a,P1 a/\∃c,∃b,∃x4,j a c b x4/\i a c b x4/\h a c b x4:=⟨a,a1,c,b,x4,m,l,k⟩
theorem LV{f:Sort _}{l:Sort _}{j:Sort _}{i:Sort _}{g:Sort _}{P1:f->Prop}{n:f->l->j->i->g->Prop}{m:f->l->j->i->g->Prop}{G:Prop}(h:∃a,P1 a/\∃e,∃d,∃c,∃b,n a e d c b/\m a e d c b)(k:∀a:f,P1 a->∀e:l,∀d:j,∀c:i,∀b:g,n a e d c b->m a e d c b->G):G:=h.elim λa t=>t.elim λa1 s=>s.elim λe r=>r.elim λd q=>q.elim λc p=>p.elim λb o=>o.elim λv u=>k a a1 e d c b v u
theorem rJ{d:Sort _}{c:Sort _}{P2:d->c->Prop}{P3:d->c->Prop}{i:d->c->Prop}{g:d->c->Prop}{f:d->c->Prop}{e:d->c->Prop}{G:Prop}(h:∃b,∃a,P2 b a/\P3 b a/\i b a/\g b a/\f b a/\e b a)(k:∀b:d,∀a:c,P2 b a->P3 b a->i b a->g b a->f b a->e b a->G):G:=h.elim λb p=>p.elim λa o=>o.elim λa2 n=>n.elim λa3 m=>m.elim λa4 l=>l.elim λs j=>j.elim λr q=>k b a a2 a3 a4 s r q
theorem nl{c:Sort _}{b:Sort _}{P2:c->b->Prop}{P3:c->b->Prop}{g:c->b->Prop}{f:c->b->Prop}{e:c->b->Prop}{d:c->b->Prop}(a:c)(x1:b)(a2:P2 a x1)(a3:P3 a x1)(a4:g a x1)(j:f a x1)(i:e a x1)(h:d a x1):∃a,∃x1,P2 a x1/\P3 a x1/\g a x1/\f a x1/\e a x1/\d a x1:=⟨a,x1,a2,a3,a4,j,i,h⟩
theorem DC{e:Sort _}{d:Sort _}{g:Sort _}{f:Sort _}{P2:e->d->Prop}{P3:e->d->Prop}{i:e->d->g->f->Prop}{h:e->d->g->f->Prop}(b:e)(a:d)(a2:P2 b a)(a3:P3 b a)(c:g)(x5:f)(k:i b a c x5)(j:h b a c x5):∃b,∃a,P2 b a/\P3 b a/\∃c,∃x5,i b a c x5/\h b a c x5:=⟨b,a,a2,a3,c,x5,k,j⟩
theorem L1{i:Sort _}{g:Sort _}{f:Sort _}{e:Sort _}{n:i->g->f->e->Prop}{m:i->g->f->e->Prop}{l:i->g->f->e->Prop}{j:i->g->f->e->Prop}{G:Prop}(h:∃d,∃c,∃b,∃a,n d c b a/\m d c b a/\l d c b a/\j d c b a)(k:∀d:i,∀c:g,∀b:f,∀a:e,n d c b a->m d c b a->l d c b a->j d c b a->G):G:=h.elim λd t=>t.elim λc s=>s.elim λb r=>r.elim λa q=>q.elim λa4 p=>p.elim λw o=>o.elim λv u=>k d c b a a4 w v u
theorem DD{g:Sort _}{f:Sort _}{e:Sort _}{d:Sort _}{k:g->f->e->d->Prop}{j:g->f->e->d->Prop}{i:g->f->e->d->Prop}{h:g->f->e->d->Prop}(c:g)(b:f)(a:e)(x3:d)(a4:k c b a x3)(n:j c b a x3)(m:i c b a x3)(l:h c b a x3):∃c,∃b,∃a,∃x3,k c b a x3/\j c b a x3/\i c b a x3/\h c b a x3:=⟨c,b,a,x3,a4,n,m,l⟩
theorem wF{P0:Prop}{P1:Prop}{P2:Prop}{P3:Prop}{d:Prop}{c:Prop}{b:Prop}{a:Prop}{P8:Prop}(i:P0)(a1:P1)(a2:P2)(a3:P3)(a4:d)(h:c)(g:b)(f:a)(e:P8):P0/\P1/\P2/\P3/\d/\c/\b/\a/\P8:=⟨i,a1,a2,a3,a4,h,g,f,e⟩
theorem LP{b:Sort _}{P0:Prop}{P1:Prop}{P2:Prop}{P3:Prop}{f:b->Prop}{e:b->Prop}{d:b->Prop}{c:b->Prop}{G:Prop}(h:P0/\P1/\P2/\P3/\∃a,f a/\e a/\d a/\c a)(k:P0->P1->P2->P3->∀a:b,f a->e a->d a->c a->G):G:=h.elim λt o=>o.elim λa1 n=>n.elim λa2 m=>m.elim λa3 l=>l.elim λa j=>j.elim λs i=>i.elim λr g=>g.elim λq p=>k t a1 a2 a3 a s r q p
theorem W_{g:Sort _}{f:Sort _}{e:Sort _}{d:Sort _}{P0:Prop}{k:g->f->e->d->Prop}{j:g->f->e->d->Prop}{i:g->f->e->d->Prop}{h:g->f->e->d->Prop}(p:P0)(c:g)(b:f)(a:e)(x4:d)(o:k c b a x4)(n:j c b a x4)(m:i c b a x4)(l:h c b a x4):P0/\∃c,∃b,∃a,∃x4,k c b a x4/\j c b a x4/\i c b a x4/\h c b a x4:=⟨p,c,b,a,x4,o,n,m,l⟩
theorem DA{d:Sort _}{g:Sort _}{f:Sort _}{e:Sort _}{P1:d->Prop}{k:d->g->f->e->Prop}{j:d->g->f->e->Prop}{i:d->g->f->e->Prop}{h:d->g->f->e->Prop}(a:d)(a1:P1 a)(c:g)(b:f)(x4:e)(o:k a c b x4)(n:j a c b x4)(m:i a c b x4)(l:h a c b x4):∃a,P1 a/\∃c,∃b,∃x4,k a c b x4/\j a c b x4/\i a c b x4/\h a c b x4:=⟨a,a1,c,b,x4,o,n,m,l⟩
theorem LW{d:Sort _}{c:Sort _}{P2:d->c->Prop}{P3:d->c->Prop}{j:d->c->Prop}{i:d->c->Prop}{g:d->c->Prop}{f:d->c->Prop}{e:d->c->Prop}{G:Prop}(h:∃b,∃a,P2 b a/\P3 b a/\j b a/\i b a/\g b a/\f b a/\e b a)(k:∀b:d,∀a:c,P2 b a->P3 b a->j b a->i b a->g b a->f b a->e b a->G):G:=h.elim λb r=>r.elim λa q=>q.elim λa2 p=>p.elim λa3 o=>o.elim λa4 n=>n.elim λv m=>m.elim λu l=>l.elim λt s=>k b a a2 a3 a4 v u t s
theorem wI{c:Sort _}{b:Sort _}{P2:c->b->Prop}{P3:c->b->Prop}{h:c->b->Prop}{g:c->b->Prop}{f:c->b->Prop}{e:c->b->Prop}{d:c->b->Prop}(a:c)(x1:b)(a2:P2 a x1)(a3:P3 a x1)(a4:h a x1)(l:g a x1)(k:f a x1)(j:e a x1)(i:d a x1):∃a,∃x1,P2 a x1/\P3 a x1/\h a x1/\g a x1/\f a x1/\e a x1/\d a x1:=⟨a,x1,a2,a3,a4,l,k,j,i⟩
theorem AH{f:Sort _}{e:Sort _}{d:Sort _}{P3:f->e->d->Prop}{m:f->e->d->Prop}{l:f->e->d->Prop}{j:f->e->d->Prop}{i:f->e->d->Prop}{g:f->e->d->Prop}{G:Prop}(h:∃c,∃b,∃a,P3 c b a/\m c b a/\l c b a/\j c b a/\i c b a/\g c b a)(k:∀c:f,∀b:e,∀a:d,P3 c b a->m c b a->l c b a->j c b a->i c b a->g c b a->G):G:=h.elim λc t=>t.elim λb s=>s.elim λa r=>r.elim λa3 q=>q.elim λa4 p=>p.elim λx o=>o.elim λw n=>n.elim λv u=>k c b a a3 a4 x w v u
theorem L6{p:Sort _}{o:Sort _}{n:Sort _}{m:Sort _}{l:Sort _}{j:Sort _}{i:Sort _}{r:p->o->n->m->l->j->i->Prop}{q:p->o->n->m->l->j->i->Prop}{G:Prop}(h:∃g,∃f,∃e,∃d,∃c,∃b,∃a,r g f e d c b a/\q g f e d c b a)(k:∀g:p,∀f:o,∀e:n,∀d:m,∀c:l,∀b:j,∀a:i,r g f e d c b a->q g f e d c b a->G):G:=h.elim λg y=>y.elim λf x=>x.elim λe w=>w.elim λd v=>v.elim λc u=>u.elim λb t=>t.elim λa s=>s.elim λA z=>k g f e d c b a A z
theorem DB{c:Sort _}{b:Sort _}{P2:c->b->Prop}{P3:c->b->Prop}{i:c->b->Prop}{h:c->b->Prop}{g:c->b->Prop}{f:c->b->Prop}{e:c->b->Prop}{d:c->b->Prop}(a:c)(x1:b)(a2:P2 a x1)(a3:P3 a x1)(a4:i a x1)(n:h a x1)(m:g a x1)(l:f a x1)(k:e a x1)(j:d a x1):∃a,∃x1,P2 a x1/\P3 a x1/\i a x1/\h a x1/\g a x1/\f a x1/\e a x1/\d a x1:=⟨a,x1,a2,a3,a4,n,m,l,k,j⟩
theorem Xh{e:Sort _}{d:Sort _}{g:Sort _}{f:Sort _}{P2:e->d->Prop}{P3:e->d->Prop}{k:e->d->Prop}{j:e->d->g->f->Prop}{i:e->d->g->f->Prop}{h:e->d->g->f->Prop}(b:e)(a:d)(a2:P2 b a)(a3:P3 b a)(a4:k b a)(c:g)(x6:f)(n:j b a c x6)(m:i b a c x6)(l:h b a c x6):∃b,∃a,P2 b a/\P3 b a/\k b a/\∃c,∃x6,j b a c x6/\i b a c x6/\h b a c x6:=⟨b,a,a2,a3,a4,c,x6,n,m,l⟩
theorem Xi{e:Sort _}{d:Sort _}{g:Sort _}{f:Sort _}{P2:e->d->Prop}{l:e->d->g->f->Prop}{k:e->d->g->f->Prop}{j:e->d->g->f->Prop}{i:e->d->g->f->Prop}{h:e->d->g->f->Prop}(b:e)(a:d)(a2:P2 b a)(c:g)(x4:f)(q:l b a c x4)(p:k b a c x4)(o:j b a c x4)(n:i b a c x4)(m:h b a c x4):∃b,∃a,P2 b a/\∃c,∃x4,l b a c x4/\k b a c x4/\j b a c x4/\i b a c x4/\h b a c x4:=⟨b,a,a2,c,x4,q,p,o,n,m⟩
theorem LZ{i:Sort _}{g:Sort _}{n:Sort _}{m:Sort _}{l:Sort _}{j:Sort _}{P2:i->g->Prop}{q:i->g->n->m->l->j->Prop}{p:i->g->n->m->l->j->Prop}{o:i->g->n->m->l->j->Prop}{G:Prop}(h:∃b,∃a,P2 b a/\∃f,∃e,∃d,∃c,q b a f e d c/\p b a f e d c/\o b a f e d c)(k:∀b:i,∀a:g,P2 b a->∀f:n,∀e:m,∀d:l,∀c:j,q b a f e d c->p b a f e d c->o b a f e d c->G):G:=h.elim λb y=>y.elim λa x=>x.elim λa2 w=>w.elim λf v=>v.elim λe u=>u.elim λd t=>t.elim λc s=>s.elim λB r=>r.elim λA z=>k b a a2 f e d c B A z
theorem Xj{g:Sort _}{f:Sort _}{k:Sort _}{j:Sort _}{i:Sort _}{h:Sort _}{P2:g->f->Prop}{n:g->f->k->j->i->h->Prop}{m:g->f->k->j->i->h->Prop}{l:g->f->k->j->i->h->Prop}(b:g)(a:f)(a2:P2 b a)(e:k)(d:j)(c:i)(x6:h)(q:n b a e d c x6)(p:m b a e d c x6)(o:l b a e d c x6):∃b,∃a,P2 b a/\∃e,∃d,∃c,∃x6,n b a e d c x6/\m b a e d c x6/\l b a e d c x6:=⟨b,a,a2,e,d,c,x6,q,p,o⟩
theorem LX{d:Sort _}{c:Sort _}{P2:d->c->Prop}{P3:d->c->Prop}{n:d->c->Prop}{m:d->c->Prop}{l:d->c->Prop}{j:d->c->Prop}{i:d->c->Prop}{g:d->c->Prop}{e:d->c->Prop}{G:Prop}(h:∃b,∃a,P2 b a/\P3 b a/\n b a/\m b a/\l b a/\j b a/\i b a/\g b a/\e b a)(k:∀b:d,∀a:c,P2 b a->P3 b a->n b a->m b a->l b a->j b a->i b a->g b a->e b a->G):G:=h.elim λb w=>w.elim λa v=>v.elim λa2 u=>u.elim λa3 t=>t.elim λa4 s=>s.elim λB r=>r.elim λA q=>q.elim λz p=>p.elim λy o=>o.elim λx f=>k b a a2 a3 a4 B A z y x f
theorem Xf{c:Sort _}{b:Sort _}{P2:c->b->Prop}{P3:c->b->Prop}{k:c->b->Prop}{j:c->b->Prop}{i:c->b->Prop}{h:c->b->Prop}{g:c->b->Prop}{f:c->b->Prop}{d:c->b->Prop}(a:c)(x1:b)(a2:P2 a x1)(a3:P3 a x1)(a4:k a x1)(p:j a x1)(o:i a x1)(n:h a x1)(m:g a x1)(l:f a x1)(e:d a x1):∃a,∃x1,P2 a x1/\P3 a x1/\k a x1/\j a x1/\i a x1/\h a x1/\g a x1/\f a x1/\d a x1:=⟨a,x1,a2,a3,a4,p,o,n,m,l,e⟩
theorem L4{i:Sort _}{g:Sort _}{f:Sort _}{e:Sort _}{r:i->g->f->e->Prop}{q:i->g->f->e->Prop}{p:i->g->f->e->Prop}{o:i->g->f->e->Prop}{n:i->g->f->e->Prop}{m:i->g->f->e->Prop}{j:i->g->f->e->Prop}{G:Prop}(h:∃d,∃c,∃b,∃a,r d c b a/\q d c b a/\p d c b a/\o d c b a/\n d c b a/\m d c b a/\j d c b a)(k:∀d:i,∀c:g,∀b:f,∀a:e,r d c b a->q d c b a->p d c b a->o d c b a->n d c b a->m d c b a->j d c b a->G):G:=h.elim λd A=>A.elim λc z=>z.elim λb y=>y.elim λa x=>x.elim λa4 w=>w.elim λF v=>v.elim λE u=>u.elim λD t=>t.elim λC s=>s.elim λB l=>k d c b a a4 F E D C B l
theorem Xm{g:Sort _}{f:Sort _}{e:Sort _}{d:Sort _}{o:g->f->e->d->Prop}{n:g->f->e->d->Prop}{m:g->f->e->d->Prop}{l:g->f->e->d->Prop}{k:g->f->e->d->Prop}{j:g->f->e->d->Prop}{h:g->f->e->d->Prop}(c:g)(b:f)(a:e)(x3:d)(a4:o c b a x3)(t:n c b a x3)(s:m c b a x3)(r:l c b a x3)(q:k c b a x3)(p:j c b a x3)(i:h c b a x3):∃c,∃b,∃a,∃x3,o c b a x3/\n c b a x3/\m c b a x3/\l c b a x3/\k c b a x3/\j c b a x3/\h c b a x3:=⟨c,b,a,x3,a4,t,s,r,q,p,i⟩
theorem Xd{g:Sort _}{i:Sort _}{h:Sort _}{o:Sort _}{n:Sort _}{m:Sort _}{l:Sort _}{P1:g->Prop}{s:g->i->h->Prop}{r:g->i->h->o->n->m->l->Prop}{k:g->i->h->o->n->m->l->Prop}{j:g->i->h->o->n->m->l->Prop}(a:g)(a1:P1 a)(c:i)(b:h)(a4:s a c b)(f:o)(e:n)(d:m)(x8:l)(t:r a c b f e d x8)(q:k a c b f e d x8)(p:j a c b f e d x8):∃a,P1 a/\∃c,∃b,s a c b/\∃f,∃e,∃d,∃x8,r a c b f e d x8/\k a c b f e d x8/\j a c b f e d x8:=⟨a,a1,c,b,a4,f,e,d,x8,t,q,p⟩
theorem Xe{e:Sort _}{i:Sort _}{h:Sort _}{g:Sort _}{f:Sort _}{P1:e->Prop}{q:e->i->h->g->f->Prop}{p:e->i->h->g->f->Prop}{o:e->i->h->g->f->Prop}{n:e->i->h->g->f->Prop}{k:e->i->h->g->f->Prop}{j:e->i->h->g->f->Prop}(a:e)(a1:P1 a)(d:i)(c:h)(b:g)(x5:f)(u:q a d c b x5)(t:p a d c b x5)(s:o a d c b x5)(r:n a d c b x5)(m:k a d c b x5)(l:j a d c b x5):∃a,P1 a/\∃d,∃c,∃b,∃x5,q a d c b x5/\p a d c b x5/\o a d c b x5/\n a d c b x5/\k a d c b x5/\j a d c b x5:=⟨a,a1,d,c,b,x5,u,t,s,r,m,l⟩
theorem LY{d:Sort _}{c:Sort _}{P2:d->c->Prop}{P3:d->c->Prop}{p:d->c->Prop}{o:d->c->Prop}{n:d->c->Prop}{m:d->c->Prop}{l:d->c->Prop}{j:d->c->Prop}{f:d->c->Prop}{e:d->c->Prop}{G:Prop}(h:∃b,∃a,P2 b a/\P3 b a/\p b a/\o b a/\n b a/\m b a/\l b a/\j b a/\f b a/\e b a)(k:∀b:d,∀a:c,P2 b a->P3 b a->p b a->o b a->n b a->m b a->l b a->j b a->f b a->e b a->G):G:=h.elim λb z=>z.elim λa y=>y.elim λa2 x=>x.elim λa3 w=>w.elim λa4 v=>v.elim λE u=>u.elim λD t=>t.elim λC s=>s.elim λB r=>r.elim λA q=>q.elim λi g=>k b a a2 a3 a4 E D C B A i g
theorem Xg{c:Sort _}{b:Sort _}{P2:c->b->Prop}{P3:c->b->Prop}{m:c->b->Prop}{l:c->b->Prop}{k:c->b->Prop}{j:c->b->Prop}{i:c->b->Prop}{h:c->b->Prop}{e:c->b->Prop}{d:c->b->Prop}(a:c)(x1:b)(a2:P2 a x1)(a3:P3 a x1)(a4:m a x1)(r:l a x1)(q:k a x1)(p:j a x1)(o:i a x1)(n:h a x1)(g:e a x1)(f:d a x1):∃a,∃x1,P2 a x1/\P3 a x1/\m a x1/\l a x1/\k a x1/\j a x1/\i a x1/\h a x1/\e a x1/\d a x1:=⟨a,x1,a2,a3,a4,r,q,p,o,n,g,f⟩
theorem wK{g:Sort _}{f:Sort _}{e:Sort _}{i:Sort _}{h:Sort _}{P3:g->f->e->Prop}{q:g->f->e->Prop}{p:g->f->e->i->h->Prop}{o:g->f->e->i->h->Prop}{n:g->f->e->i->h->Prop}{k:g->f->e->i->h->Prop}{j:g->f->e->i->h->Prop}(c:g)(b:f)(a:e)(a3:P3 c b a)(a4:q c b a)(d:i)(x6:h)(t:p c b a d x6)(s:o c b a d x6)(r:n c b a d x6)(m:k c b a d x6)(l:j c b a d x6):∃c,∃b,∃a,P3 c b a/\q c b a/\∃d,∃x6,p c b a d x6/\o c b a d x6/\n c b a d x6/\k c b a d x6/\j c b a d x6:=⟨c,b,a,a3,a4,d,x6,t,s,r,m,l⟩
theorem Xl{i:Sort _}{h:Sort _}{g:Sort _}{o:Sort _}{n:Sort _}{m:Sort _}{l:Sort _}{P3:i->h->g->Prop}{s:i->h->g->Prop}{r:i->h->g->o->n->m->l->Prop}{k:i->h->g->o->n->m->l->Prop}{j:i->h->g->o->n->m->l->Prop}(c:i)(b:h)(a:g)(a3:P3 c b a)(a4:s c b a)(f:o)(e:n)(d:m)(x8:l)(t:r c b a f e d x8)(q:k c b a f e d x8)(p:j c b a f e d x8):∃c,∃b,∃a,P3 c b a/\s c b a/\∃f,∃e,∃d,∃x8,r c b a f e d x8/\k c b a f e d x8/\j c b a f e d x8:=⟨c,b,a,a3,a4,f,e,d,x8,t,q,p⟩
theorem Xn{g:Sort _}{f:Sort _}{e:Sort _}{d:Sort _}{q:g->f->e->d->Prop}{p:g->f->e->d->Prop}{o:g->f->e->d->Prop}{n:g->f->e->d->Prop}{m:g->f->e->d->Prop}{l:g->f->e->d->Prop}{i:g->f->e->d->Prop}{h:g->f->e->d->Prop}(c:g)(b:f)(a:e)(x3:d)(a4:q c b a x3)(v:p c b a x3)(u:o c b a x3)(t:n c b a x3)(s:m c b a x3)(r:l c b a x3)(k:i c b a x3)(j:h c b a x3):∃c,∃b,∃a,∃x3,q c b a x3/\p c b a x3/\o c b a x3/\n c b a x3/\m c b a x3/\l c b a x3/\i c b a x3/\h c b a x3:=⟨c,b,a,x3,a4,v,u,t,s,r,k,j⟩
theorem DE{m:Sort _}{l:Sort _}{k:Sort _}{j:Sort _}{i:Sort _}{h:Sort _}{g:Sort _}{t:m->l->k->j->i->h->g->Prop}{s:m->l->k->j->i->h->g->Prop}{r:m->l->k->j->i->h->g->Prop}{o:m->l->k->j->i->h->g->Prop}{n:m->l->k->j->i->h->g->Prop}(f:m)(e:l)(d:k)(c:j)(b:i)(a:h)(x6:g)(w:t f e d c b a x6)(v:s f e d c b a x6)(u:r f e d c b a x6)(q:o f e d c b a x6)(p:n f e d c b a x6):∃f,∃e,∃d,∃c,∃b,∃a,∃x6,t f e d c b a x6/\s f e d c b a x6/\r f e d c b a x6/\o f e d c b a x6/\n f e d c b a x6:=⟨f,e,d,c,b,a,x6,w,v,u,q,p⟩
namespace aq
noncomputable def bump(x:Int):List Int->List Int×Option Int
 |[]=>([x],iF)
 |a::r=>if x<a then(x::r,wf a) else(a::(bump x r).1,(bump x r).2)
noncomputable def kA(put:Int->List (List Int))(rest:List (List Int)):Option Int->List (List Int)
 |none=>rest
 |some b=>put b
noncomputable def put:List (List Int)->Int->List (List Int)
 |[],x=>[[x]]
 |R::rest,x=>(bump x R).1::kA (put rest) rest (bump x R).2
abbrev Up(R:List Int):Prop:=R.Pairwise (·<=·)
abbrev ka(rows:List (List Int)):Prop:=∀R∈rows,Up R
noncomputable def c?(rows:List (List Int))(w:List Int):List (List Int):=w.foldl put rows
theorem c7{x a:Int}{r:List Int}(h:x<a):bump x (a::r)=(x::r,wf a):=FB h
theorem ch{x a:Int}{r:List Int}(h:a<=x):bump x (a::r)=(a::(bump x r).1,(bump x r).2):=Da (eD.mpr h)
theorem F!{x:Int}:∀{R:List Int} {b:Int},b∈(bump x R).1->b=x\/b∈R:=by
 intro l0;induction l0 with
 |nil =>intro b h;have h:=h;exact .inl (aK.mp h)
 |cons a r c =>
  intro b h;by_cases q:x<a
  ·rw[c7 q] at h;obtain h|h:=aW.mp h
   ·exact .inl h
   exact .inr (.tail _ h)
  rw[ch (eD.mp q)] at h;obtain h|h:=aW.mp h
  ·exact .inr (h▸.head _)
  exact(c h).imp id (.tail _)
theorem tT{x:Int}:∀{R:List Int} {b:Int},(bump x R).2=wf b->b∈R/\x<b:=by
 intro l0;induction l0 with
 |nil =>intro b h;injection h
 |cons a r c =>
  intro b h;by_cases q:x<a
  ·rw[c7 q] at h;(replace h:=ax h;subst h);exact⟨.head _,q⟩
  rw[ch (eD.mp q)] at h;refine oA (c h) λe d=>?_
  exact⟨.tail _ e,d⟩
theorem Ga{x:Int}:∀{R:List Int},Up R->Up (bump x R).1:=by
 intro l0;induction l0 with
 |nil =>intro _;exact sX _ _
 |cons a r c =>
  intro h;have h':=dH.mp h;by_cases q:x<a
  ·refine aa (c7 q) ?_
   exact dH.mpr ⟨λb hb=>cM (dF q (h'.1 b hb)),h'.2⟩
  refine aa (ch (eD.mp q)) ?_
  refine dH.mpr ⟨λb hb=>?_,c h'.2⟩;obtain rfl|hb:=F! hb
  ·exact eD.mp q
  exact h'.1 b hb
theorem Cn{x:Int}:∀{rows:List (List Int)},ka rows->ka (put rows x)
 |[],_=>λR hR=>by have hR:=hR;(refine aa (aK.mp hR) ?_);exact sX _ _
 |S::rest,h=>λR hR=>by
  obtain rfl|hR:=aW.mp hR
  ·exact Ga (h S (.head _))
  refine cE (x:=(bump x S).2) (λe=>?_) (λb e=>?_)
  ·(replace hR:=e▸hR);exact h R (.tail _ hR)
  rw[e] at hR;exact Cn (λT a=>h T (.tail _ a)) R hR
theorem Ck:∀{w:List Int} {rows:List (List Int)},ka rows->ka (c? rows w):=by
 intro l0;induction l0 with
 |nil =>intro _ h;exact h
 |cons b w a =>intro _ h;exact a (Cn h)
theorem F_{y z:Int}(c:y<=z):∀{r:List Int},Up r->(bump z (bump y r).1).2=iF\/∃p q,(bump y r).2=wf p/\(bump z (bump y r).1).2=wf q/\y<p/\p<=q:=by
 intro l0;induction l0 with
 |nil =>intro _;exact .inl (by(refine aa (ch c) ?_);rfl)
 |cons a r d =>
  intro h;have h':=dH.mp h;by_cases q:y<a
  ·refine aa (c7 q) ?_
   refine aa (ch c) ?_
   cases e:(bump z r).2 with
   |none=>exact .inl rfl
   |some b=>exact .inr (dc a b rfl rfl q (h'.1 b (tT e).1))
  have q:=eD.mp q;refine aa (ch q) ?_
  refine aa (ch (bo q c)) ?_
  exact d h'.2
theorem F8{x y z:Int}(d:x<y)(c:y<=z):∀{R:List Int},Up R->∃s,(bump x (bump z (bump y R).1).1).2=wf s/\(bump x (bump y R).1).2=wf s/\(bump z (bump x (bump y R).1).1).2=(bump z (bump y R).1).2 /\
  (bump z (bump x (bump y R).1).1).1=(bump x (bump z (bump y R).1).1).1/\((bump z (bump y R).1).2=iF\/∃p q,(bump y R).2=wf p/\(bump z (bump y R).1).2=wf q/\s<p/\p<=q):=by
 intro l0;induction l0 with
 |nil =>
  intro _;show∃s,(bump x (bump z [y]).1).2=wf s/\(bump x [y]).2=wf s/\(bump z (bump x [y]).1).2=(bump z [y]).2/\(bump z (bump x [y]).1).1=(bump x (bump z [y]).1).1/\((bump z [y]).2=iF\/_);refine aa (ch c) ?_;refine aa (c7 d) ?_;refine aa (c7 d) ?_
  refine aa (ch (cM (dF d c))) ?_
  exact dp y rfl rfl rfl rfl (.inl rfl)
 |cons a r n =>
  intro h;have h':=dH.mp h;by_cases q:y<a
  ·refine aa (c7 q) ?_
   refine aa (ch c) ?_;refine aa (c7 d) ?_
   refine aa (c7 d) ?_;refine aa (ch (cM (dF d c))) ?_
   refine dp y rfl rfl rfl rfl ?_
   cases e:(bump z r).2 with
   |none=>exact .inl rfl
   |some b=>exact .inr (dc a b rfl rfl q (h'.1 b (tT e).1))
  have q:=eD.mp q;refine aa (ch q) ?_
  refine aa (ch (bo q c)) ?_
  dsimp only;by_cases f:x<a
  ·refine aa (c7 f) ?_;refine aa (c7 f) ?_
   refine aa (ch (cM (dF d c))) ?_
   refine dp a rfl rfl rfl rfl (cg (F_ c h'.2) (λe=>?_) (λg=>jJ g λp m l k j i=>?_))
   ·exact .inl e
   exact .inr (dc p m l k (fq q j) i)
  have f:=eD.mp f;refine aa (ch f) ?_;refine aa (ch f) ?_
  refine aa (ch (bo q c)) ?_
  dsimp only;refine dD (n h'.2) λs l k j i o=>?_
  exact dp s l k j (aa i rfl) o
theorem F7{y z:Int}(c:y<z):∀{r:List Int},Up r->∃b,(bump y (bump z r).1).2=wf b/\b<=z/\(b=z\/b∈r):=by
 intro l0;induction l0 with
 |nil =>intro _;exact aR z (by(exact aa (c7 c) rfl)) (br _) (.inl rfl)
 |cons a r e =>
  intro h;by_cases q:z<a
  ·refine aa (c7 q) ?_
   refine aa (c7 c) ?_
   exact aR z rfl (br _) (.inl rfl)
  have q:=eD.mp q;refine aa (ch q) ?_
  by_cases d:y<a
  ·(refine aa (c7 d) ?_);exact aR a rfl q (.inr (.head _))
  refine aa (ch (eD.mp d)) ?_
  refine aB (e (dH.mp h).2) λb i g f=>?_
  exact aR b i g (f.imp id (.tail _))
noncomputable def P3(rows:List (List Int))(x y z:Int):List (List Int):=put (put (put rows x) y) z
structure xU(rows:List (List Int)):Prop where
 k1:∀x y z:Int,x<y->y<=z->P3 rows y z x=P3 rows y x z
 k2:∀x y z:Int,x<=y->y<z->P3 rows x z y=P3 rows z x y
theorem rY{a x:Int}{r:List Int}{rest:List (List Int)}(h:x<a):put ((a::r)::rest) x=(x::r)::put rest a:=by show(bump x (a::r)).1::_=_;(refine aa (c7 h) ?_);rfl
theorem m9{a x:Int}{rest:List (List Int)}(h:a<=x):put ([a]::rest) x=[a,x]::rest:=by show(bump x [a]).1::_=_;(refine aa (ch h) ?_);rfl
theorem Cm{a b x:Int}{r:List Int}{rest:List (List Int)}(h:a<=x)(h':x<b):put ((a::b::r)::rest) x=(a::x::r)::put rest b:=by show(bump x (a::b::r)).1::_=_;(refine aa (ch h) ?_;refine aa (c7 h') ?_);rfl
theorem d7{R:List Int}{rest:List (List Int)}{x:Int}:put (R::rest) x=(bump x R).1::kA (put rest) rest (bump x R).2:=rfl
theorem F9{x y z:Int}(c:x<=y)(i:y<z){rest:List (List Int)}(K:xU rest):∀{R:List Int},Up R->P3 (R::rest) x z y=P3 (R::rest) z x y:=by
 intro l0;induction l0 with
 |nil =>intro _;delta P3;have d:=fq c i;have o:put (put (put ([]::rest) x) z) y=put (put ([x]::rest) z) y:=rfl;have n:put (put (put ([]::rest) z) x) y=put (put ([z]::rest) x) y:=rfl;refine aa o ?_;refine aa n ?_;refine aa (m9 (cM d)) ?_;refine aa (rY d) ?_;refine aa (Cm c i) ?_;exact aa (m9 c) rfl
 |cons a r g =>
  intro h;have h':=dH.mp h;have d:=fq c i;by_cases q:x<a
  ·by_cases j:z<a
   ·
    have o:put ((a::r)::rest) x=(x::r)::put rest a:=by(refine aa d7 ?_;refine aa (c7 q) ?_);rfl
    have n:put ((a::r)::rest) z=(z::r)::put rest a:=aa d7 (aa (c7 j) rfl);have p:put ((z::r)::put rest a) x=(x::r)::put (put rest a) z:=by(refine aa d7 ?_;refine aa (c7 d) ?_);rfl
    delta P3;refine aa o ?_;refine aa n ?_;refine aa p ?_
    cases r with
    |nil =>have m:put ([x]::put rest a) z=[x,z]::put rest a:=aa d7 (aa (ch (cM d)) rfl);(refine aa m ?_;refine aa d7 ?_;refine aa d7 ?_;refine aa (ch c) ?_;refine aa (ch c) ?_;refine aa (c7 i) ?_);rfl
    |cons f r =>
     have k:=h'.1 f (.head _);have m:put ((x::f::r)::put rest a) z=(x::z::r)::put (put rest a) f:=aa d7 (aa (ch (cM d)) (aa (c7 (dF j k)) rfl));have s:y<f:=dF (wX i j) k;refine aa m ?_;refine aa d7 ?_;refine aa d7 ?_;refine aa (ch c) ?_;refine aa (ch c) ?_;refine aa (c7 i) ?_;refine aa (c7 s) ?_
     exact congrArg _ (K.k1 z a f j k)
   have j:=eD.mp j;have o:put ((a::r)::rest) x=(x::r)::put rest a:=aa d7 (aa (c7 q) rfl);have n:put ((a::r)::rest) z=(a::(bump z r).1)::kA (put rest) rest (bump z r).2:=by(refine aa d7 ?_;exact aa (ch j) rfl)
   refine aB (F7 i h'.2) λb P O b3=>?_
   have u:a<=b:=by
    obtain rfl|b3:=b3
    ·exact j
    exact h'.1 b b3
   delta P3;refine aa o ?_;refine aa n ?_
   have p:∀X,put ((x::(bump z r).1)::X) y=(x::(bump y (bump z r).1).1)::put X b:=λX=>aa d7 (aa (ch c) (aa P rfl));have m:∀X,put ((x::r)::X) z=(x::(bump z r).1)::kA (put X) X (bump z r).2:=λX=>aa d7 (aa (ch (cM d)) rfl);have N:∀X,put ((a::(bump z r).1)::X) x=(x::(bump z r).1)::put X a:=λX=>aa d7 (aa (c7 q) rfl);rw[m,N,p,p];cases e:(bump z r).2 with
   |none=>rfl
   |some f =>exact congrArg _ (K.k2 a b f u (fq O (tT e).2))
  have q:=eD.mp q;have g:=g h'.2;have v:=bo q (cM d);have w:=bo q c;have l:∀{S:List Int} {X:List (List Int)} {t:Int},a<=t->∃S' X',put ((a::S)::X) t=(a::S')::X'/\put (S::X) t=S'::X':=λ{S X t} A=>a_ _ _ (by(refine aa d7 ?_;exact aa (ch A) rfl)) rfl;unfold P3 at g ⊢;refine aV (l (S:=r) (X:=rest) q) λS1 V M G=>(aV (l (S:=S1) (X:=V) v) λZ U f2 F=>?_);refine aV (l (S:=Z) (X:=U) w) λS3 X3 L E=>(aV (l (S:=r) (X:=rest) v) λY T J D=>?_);refine aV (l (S:=Y) (X:=T) q) λW Q I C=>(aV (l (S:=W) (X:=Q) w) λU3 Y3 H B=>?_);replace g:=G▸g;replace g:=F▸g;replace g:=E▸g;replace g:=D▸g;replace g:=C▸g;replace g:=B▸g;refine aa M ?_;refine aa f2 ?_;refine aa L ?_;refine aa J ?_;refine aa I ?_;refine aa H ?_
  cases g;rfl
theorem zU:∀{rows:List (List Int)},ka rows->xU rows:=by
 intro l0;induction l0 with
 |nil =>
  intro _;refine⟨λx y z a b=>?_,λx y z a b=>?_⟩
  ·show put (put [[y]] z) x=put (put [[y]] x) z;refine aa (m9 b) ?_;refine aa (rY a) ?_;refine aa (rY a) ?_
   show _=put ([x]::[[y]]) z;(refine aa (m9 (cM (dF a b))) ?_);rfl
  have d:=fq a b;show put (put [[x]] z) y=put (put [[z]] x) y;refine aa (m9 (cM d)) ?_;refine aa (rY d) ?_;refine aa (Cm a b) ?_
  show _=put ([x]::[[z]]) y;(refine aa (m9 a) ?_);rfl
 |cons R rest f =>
  intro h;have K:=f λS g=>h S (.tail _ g);refine⟨λx y z a b=>?_,λx y z a b=>F9 a b K (h R (.head _))⟩;refine dD (F8 a b (h R (.head _))) λs t r o n m=>?_
  delta P3;rw[d7,d7,d7,d7,d7,t,r,o,n];refine congrArg _ (cg m (λe=>?_) (λc=>jJ c λp q l k j i=>?_))
  ·(refine aa e ?_);rfl
  refine aa l ?_;refine aa k ?_
  exact K.k1 s p q j i
def Kn(w w':List Int):Prop:=∀rows,ka rows->c? rows w=c? rows w'
theorem Kn.refl(w:List Int):Kn w w:=λa a=>rfl
theorem Kn.symm{w a:List Int}(h:Kn w a):Kn a w:=λr b=>(h r b).symm
theorem Kn.trans{a b c:List Int}(h:Kn a b)(h':Kn b c):Kn a c:=λr d=>(h r d).trans (h' r d)
theorem v8{rows:List (List Int)}{u v:List Int}:c? rows (u++v)=c? (c? rows u) v:=gu ..
theorem Kn.app{a b c d:List Int}(h:Kn a b)(h':Kn c d):Kn (a++c) (b++d):=λr e=>aa v8 (aa v8 (aa (h r e) (h' _ (Ck e))))
theorem Kn.k1{x y z:Int}(h:x<y)(h':y<=z):Kn [y,z,x] [y,x,z]:=λr a=>(zU a).k1 x y z h h'
theorem Kn.k2{x y z:Int}(h:x<=y)(h':y<z):Kn [x,z,y] [z,x,y]:=λr a=>(zU a).k2 x y z h h'
theorem Kn.ins{z y:Int}:∀{P S:List Int},Up (P++z::S)->(∀p∈P,p<=y)->y<z->Kn (P++z::S++[y]) (z::P++y::S):=by
 have tail:∀(S:List Int) (z y:Int),Up (z::S)->y<z->Kn (z::S++[y]) (z::y::S):=by
  intro S;induction S with
  |nil=>intro z y _ _;exact Kn.refl _
  |cons s S g =>intro z y h a;have h':=dH.mp h;have c:=h'.1 s (.head _);have f:Kn (s::S++[y]) (s::y::S):=g s y h'.2 (dF a c);have b:Kn ([z,s,y]++S) ([z,y,s]++S):=(Kn.k1 a c).app (Kn.refl S);exact((Kn.refl [z]).app f).trans b
 have front:∀(n:Nat) (P:List Int) (y:Int),P.length=n->Up P->(∀p∈P,p<=y)->y<z->Kn (P++[z,y]) (z::P++[y]):=by
  intro n;induction n with
  |zero =>intro P y e _ _ _;have:P=[]:=iv e;subst this;exact Kn.refl _
  |succ n g =>
   intro P y e h hp a;obtain⟨Q,p,rfl⟩:∃Q p,P=Q++[p]:=dT P.dropLast (P.getLast (by intro q;rw[q] at e;injection e)) ((sP _).symm);have d:=hp p (bt _ (.head _));have h':=dx.mp h;have f:Kn (Q++[p,z,y]) (Q++[z,p,y]):=(Kn.refl Q).app (Kn.k2 d a);have b:=(g Q p (by simpa using e) h'.1 (λq l=>h'.2.2 q l p (.head _)) (fq d a)).app (Kn.refl [y]);have k:Q++[p]++[z,y]=Q++[p,z,y]:=eF ..;have j:Q++[z,p]++[y]=Q++[z,p,y]:=eF ..;have i:z::(Q++[p])++[y]=z::Q++[p]++[y]:=rfl;refine aa k ?_;refine aa i ?_
   rw[j] at b;exact f.trans b
 intro P S h hp a;have h':=dx.mp h;have f:=(Kn.refl P).app (tail S z y h'.2.1 a);have b:=(front P.length P y rfl h'.1 hp a).app (Kn.refl S);have k:P++z::S++[y]=P++(z::S++[y]):=eF ..;have j:P++[z,y]++S=P++z::y::S:=eF ..;have i:z::P++[y]++S=z::P++y::S:=eF ..;refine aa k ?_
 rw[j,i] at b;exact f.trans b
theorem Kn.CS:∀{V U D S:List Int},Up (D++V++S)->Up (D++U)->U.length=V.length->(∀i (h:i<U.length) (h':i<V.length),U[i]<V[i])->Kn (D++V++S++U) (V++D++U++S):=by
 intro l0;induction l0 with
 |nil =>
  intro m0;cases m0 with
  |nil =>intro D S _ _ _ _;simp only[dw,iA];exact Kn.refl _
  |cons _ _ =>intro _ _ _ _ h _;injection h
 |cons v V r =>
  intro m0;cases m0 with
  |nil =>intro _ _ _ _ h _;injection h
  |cons u U =>
   intro D S l k s q;have d:u<v:=q 0 (iE _) (iE _);have f:∀p∈D,p<=u:=λp hp=>(dx.mp k).2.2 p hp u (.head _);have e0:D++v::V++S=D++v::(V++S):=eF ..;rw[e0] at l;have i1:=Kn.ins (P:=D) (S:=V++S) l f d;have j:=dx.mp l;have c:=dH.mp j.2.1;have y:=dx.mp k;have up1:Up (D++[u]++V++S):=by
    have e:D++[u]++V++S=D++u::(V++S):=by simp
    refine aa e ?_
    refine dx.mpr (aC j.1 (dH.mpr ⟨λb hb=>cM (dF d (c.1 b hb)),c.2⟩) (λa o b hb=>?_));obtain rfl|hb:=aW.mp hb
    ·exact f a o
    exact j.2.2 a o b (.tail _ hb)
   have g:Up (D++[u]++U):=by have e:D++[u]++U=D++u::U:=eF ..;(refine aa e ?_);exact k
   have i2:=r (U:=U) (D:=D++[u]) (S:=S) up1 g (qa s) (λi h h'=>q (i+1) (md h) (md h'));have n:=i1.app (Kn.refl U);have m:=(Kn.refl [v]).app i2;have x:D++v::V++S++u::U=D++v::(V++S)++[u]++U:=by simp
   have w:v::D++u::(V++S)++U=[v]++(D++[u]++V++S++U):=by simp
   have t:[v]++(V++(D++[u])++U++S)=v::V++D++u::U++S:=by simp
   refine aa x ?_
   rw[w] at n;rw[t] at m;exact n.trans m
theorem Kn.lift{v z u y:List Int}{x:Int}(j:Up (v++x::z))(g:Up (u++x::y))(l1:u.length=v.length)(p:∀i (h:i<u.length) (h':i<v.length),u[i]<v[i])(l2:y.length=z.length)(o:∀i (h:i<y.length) (h':i<z.length),y[i]<z[i]) :
  Kn (v++x::z++(u++y)) (v++z++(u++x::y)):=by
 have c:=dx.mp g;have a1:=Kn.CS (V:=v) (U:=u) (D:=[]) (S:=x::z) j c.1 l1 p;have f:=dx.mp j;have n:=dH.mp f.2.1;have up1:Up (u++[x]++z++[]):=by
  have e:u++[x]++z++[]=u++x::z:=by simp
  refine aa e ?_
  refine dx.mpr (aC c.1 f.2.1 (λa k b hb=>?_));obtain rfl|hb:=aW.mp hb
  ·exact c.2.2 a k b (.head _)
  exact bo (c.2.2 a k x (.head _)) (n.1 b hb)
 have d:Up (u++[x]++y):=by have e:u++[x]++y=u++x::y:=eF ..;(refine aa e ?_);exact g
 have a2:=Kn.CS (V:=z) (U:=y) (D:=u++[x]) (S:=[]) up1 d l2 o;have m:=a1.app (Kn.refl y);have l:=(Kn.refl v).app a2;have s:v++x::z++(u++y)=[]++v++x::z++u++y:=(eF ..).symm;have r:v++[]++u++x::z++y=v++(u++[x]++z++[]++y):=by simp
 have q:v++(z++(u++[x])++y++[])=v++z++(u++x::y):=by simp
 refine aa s ?_
 rw[r] at m;rw[q] at l;exact m.trans l
section
variable{α:Type}{t b:α->Option Int}
def k0(t b:α->Option Int)(C:List α):Prop:=∀j∈C,∃u v,t j=wf u/\b j=wf v/\u<v
theorem k0.len:∀{C:List α},k0 t b C->(C.filterMap t).length=(C.filterMap b).length/\∀i (h:i<(C.filterMap t).length) (h':i<(C.filterMap b).length),(C.filterMap t)[i]<(C.filterMap b)[i]:=by
 intro l0;induction l0 with
 |nil =>intro _;exact⟨rfl,λi h=>GM h (gU _)⟩
 |cons j C a =>
  intro e;refine dP (e j (.head _)) λu v n m g=>(oA (a λk f=>e k (.tail _ f)) λl a=>?_);have d:(j::C).filterMap t=u::C.filterMap t:=jd n;have c:(j::C).filterMap b=v::C.filterMap b:=jd m;refine⟨aa d (aa c (aa eQ (aa eQ (aa l rfl)))),λi h h'=>?_⟩;cases i with
  |zero=>simp only[d,c,xf];exact g
  |succ i=>simp only[d,c,List.getElem_cons_succ];exact a i _ _
theorem vo:∀{C:List α},(∀j∈C,t j=iF)->C.filterMap t=[]:=by
 intro l0;induction l0 with
 |nil =>intro _;exact rfl
 |cons j C a =>intro h;(refine aa (l9 (h j (.head _))) ?_);exact a λk b=>h k (.tail _ b)
theorem WU{d a c e:List α}{x:Int}(m:∀j∈d,t j=iF)(l:k0 t b a)(i:k0 t b c)(h:∀j∈e,b j=iF)(g:Up (a.filterMap b++x::c.filterMap b))(f:Up (a.filterMap t++x::c.filterMap t)) :
  Kn ((d++a).filterMap b++x::(c++e).filterMap b++((d++a).filterMap t++(c++e).filterMap t)) ((d++a).filterMap b++(c++e).filterMap b++((d++a).filterMap t++x::(c++e).filterMap t)):=by
 refine oA l.len λl1 o=>(oA i.len λl2 n=>?_);have k:=((Kn.refl (d.filterMap b)).app (Kn.lift g f l1 o l2 n)).app (Kn.refl (e.filterMap t));simp only[iw,vo m,vo h,dw,iA];simpa using k
end
theorem Ci:∀{B A1 A2 D:List Int} {X:List (List Int)},Up (D++A1++A2)->A1.length=B.length->(∀i (h:i<A1.length) (h':i<B.length),A1[i]<B[i])->c? ((D++B)::X) (A1++A2)=(D++A1++A2)::c? X B:=by
 intro l0;induction l0 with
 |nil =>
  intro m0;cases m0 with
  |nil =>
   intro A2 D X h _ _;simp only[dw,iA] at h ⊢;have g:∀(A D:List Int),Up (D++A)->c? (D::X) A=(D++A)::X:=by
    intro A;induction A with
    |nil=>intro D _;rw[dw];rfl
    |cons a A d =>
     intro D h;have m:∀{E:List Int},(∀p∈E,p<=a)->bump a E=(E++[a],iF):=by
      intro E;induction E with
      |nil=>intro _;rfl
      |cons p E c =>intro f;(refine aa (ch (f p (.head _))) ?_;refine aa (c λq j=>f q (.tail _ j)) ?_);rfl
     have e:put (D::X) a=(D++[a])::X:=by show(bump a D).1::kA (put X) X (bump a D).2=_;(refine aa (m λp hp=>(dx.mp h).2.2 p hp a (.head _)) ?_);rfl
     show c? (put (D::X) a) A=_
     refine aa e ?_;refine aa (d (D++[a]) (by simpa using h)) ?_
     simp
   exact g A2 D h
  |cons _ _ =>intro _ _ _ _ h _;injection h
 |cons b B d =>
  intro m0;cases m0 with
  |nil =>intro _ _ _ _ h _;injection h
  |cons a A1 =>
   intro A2 D X n r o;have k:a<b:=o 0 (iE _) (iE _);have m:∀{E:List Int},(∀p∈E,p<=a)->bump a (E++b::B)=(E++a::B,wf b):=by
    intro E;induction E with
    |nil=>intro _;exact c7 k
    |cons p E c =>intro f;have:=c λq j=>f q (.tail _ j);(refine aa l8 ?_;refine aa (ch (f p (.head _))) ?_;refine aa this ?_);rfl
   have l:∀p∈D,p<=a:=λp hp=>by rw[eF] at n;exact(dx.mp n).2.2 p hp a (.head _)
   have e:put ((D++b::B)::X) a=(D++a::B)::put X b:=by show(bump a (D++b::B)).1::kA (put X) X (bump a (D++b::B)).2=_;(refine aa (m l) ?_);rfl
   show c? (put ((D++b::B)::X) a) (A1++A2)=_::c? (put X b) B
   have d:=d (A1:=A1) (A2:=A2) (D:=D++[a]) (X:=put X b) (by simpa using n) (qa r) λi h h'=>o (i+1) (md h) (md h');refine aa e ?_
   have s:D++a::B=D++[a]++B:=by simp
   refine aa s ?_;refine aa d ?_
   simp
structure Pl where
 row:Int->Int
 col:Int->Int
def Sw(P:Pl)(b a:Int):Prop:=P.row a<=P.row b/\P.col b<=P.col a
structure Sk(P:Pl)(S:List Int)(T:Int->Int):Prop where
 inj:∀p∈S,∀q∈S,P.row p=P.row q->P.col p=P.col q->p=q
 conv:∀p∈S,∀q∈S,∀i j,P.row p<=i->i<=P.row q->P.col p<=j->j<=P.col q->∃m∈S,P.row m=i/\P.col m=j
 le:∀p∈S,∀q∈S,P.row p=P.row q->P.col p<=P.col q->T p<=T q
 lt:∀p∈S,∀q∈S,P.col p=P.col q->P.row p<P.row q->T p<T q
structure Rd(P:Pl)(S ps:List Int):Prop where
 nd:ps.Nodup
 sub:∀p∈ps,p∈S
 gG:∀m∈ps,∀n∈S,Sw P n m->n∈ps
 ord:ps.Pairwise λa b=>¬Sw P b a
section
variable{P:Pl}{S:List Int}{T:Int->Int}
theorem Rd.front{ps:List Int}{p:Int}(h:Rd P S (ps++[p])):Rd P S ps/\(∀m∈ps,¬Sw P p m)/\p∉ps/\p∈S:=by
 obtain⟨k,e,j,i⟩:=h;have d:=cQ.mp k;have c:=dx.mp i;have b:∀m∈ps,¬Sw P p m:=λm a=>c.2.2 m a p (.head _);refine cL ⟨d.1,λq f=>e q (b? _ f),λm a n g hs=>?_,c.1⟩ b (λq=>d.2.2 p q p (.head _) rfl) (e p (bt _ (.head _)));obtain q|q:=aT.mp (j m (b? _ a) n g hs)
 ·exact q
 rw[aK.mp q] at hs;exact GM hs (b m a)
theorem Rd.snoc{ps:List Int}{p:Int}(h:Rd P S ps)(hp:p∈S)(k:p∉ps)(f:∀n∈S,n≠p->Sw P n p->n∈ps)(l:∀m∈ps,¬Sw P p m):Rd P S (ps++[p]):=by
 refine⟨cQ.mpr ⟨h.nd,of_decide_eq_true rfl,λa i b g e=>k (by(refine az (aK.mp g) ?_;refine az e ?_);exact i)⟩,λq j=>?_,λm d n c hs=>?_,dx.mpr ⟨h.ord,sX _ _,λa i b g=>aa (aK.mp g) (l a i)⟩⟩
 ·obtain q'|q':=aT.mp j
  ·exact h.sub q q'
  (refine aa (aK.mp q') ?_);exact hp
 by_cases e:n=p
 ·(refine aa e ?_);exact bt _ (.head _)
 obtain q|q:=aT.mp d
 ·exact b? _ (h.gG m q n c hs)
 rw[aK.mp q] at hs;exact b? _ (f n c e hs)
theorem z9(f:Int->Int):∀{L:List Int},L≠[]->∃y∈L,∀m∈L,f y<=f m
 |[],h=>GM rfl h
 |[a],_=>ar a (.head _) (λm hm=>by(refine aa (aK.mp hm) ?_);exact br _)
 |a::b::r,_=>by
  refine ak (z9 f (L:=b::r) (List.cons_ne_nil _ _)) λy d c=>?_
  by_cases q:f a<=f y
  ·refine ar a (.head _) (λm hm=>?_);obtain rfl|hm:=aW.mp hm
   ·exact br _
   exact bo q (c m hm)
  refine ar y (.tail _ d) (λm hm=>?_);obtain rfl|hm:=aW.mp hm
  ·exact cM (nv.mp q)
  exact c m hm
theorem Cq(k:Sk P S T){ps qs:List Int}{p q:Int}(hp:Rd P S (ps++[p]))(hq:Rd P S (qs++[q]))(J:∀m,m∈ps++[p]↔m∈qs++[q])(hr:P.row p<P.row q)(F:P.col p<P.col q)(ih:∀us vs:List Int,us.length=ps.length->Rd P S us->Rd P S vs->(∀m,m∈us↔m∈vs)->Kn (us.map T) (vs.map T)):Kn ((ps++[p]).map T) ((qs++[q]).map T):=by
 refine f7 hp.front λrp R np sp=>(f7 hq.front λrq mq nq z=>?_);have w:p≠q:=λe=>by(replace hr:=e▸hr);exact nu _ hr
 have u:q∈ps:=by
  rcases aT.mp ((J q).mpr (bt _ (.head _))) with h|h
  ·exact h
  exact GM (aK.mp h).symm w
 have Q:p∈qs:=by
  rcases aT.mp ((J p).mp (bt _ (.head _))) with h|h
  ·exact h
  exact GM (aK.mp h) w
 have C:∀m∈ps++[p],m≠p->¬Sw P p m:=λm h d=>by
  obtain h|h:=aT.mp h
  ·exact R m h
  exact GM (aK.mp h) d
 have b:∀m∈ps++[p],m≠q->¬Sw P q m:=λm h d=>by
  obtain h|h:=aT.mp ((J m).mp h)
  ·exact mq m h
  exact GM (aK.mp h) d
 refine aB (k.conv p sp q z (P.row q) (P.col q-1) (cM hr) (br _) (vC F) L!) λm0 s0 r0 c0=>?_
 have i0:m0∈ps++[p]:=hp.gG q (b? _ u) m0 s0 ⟨by exact AQ r0,by exact O6 c0⟩;have n0:m0≠p:=λe=>by(replace r0:=e▸r0);exact Qj hr r0
 obtain⟨y,hy,E⟩:=z9 P.row (L:=(ps++[p]).filter λm=>decide (P.col m=P.col q-1/\m≠p)) (λe=>by have:m0∈(ps++[p]).filter λm=>decide (P.col m=P.col q-1/\m≠p):=bN.mpr ⟨i0,decide_eq_true ⟨c0,n0⟩⟩;(replace this:=e▸this);cases this)
 refine oA (bN.mp hy) λA y2=>(oA (of_decide_eq_true y2) λs yp=>?_);have g:∀m∈ps++[p],P.col m=P.col q-1->m≠p->P.row y<=P.row m:=λm c i o=>E m (bN.mpr ⟨c,decide_eq_true ⟨i,o⟩⟩);have j:P.row y<=P.row q:=by have:=g m0 i0 c0 n0;exact RN r0 this
 have I:=hp.sub y A;have H:y≠q:=λe=>by rw[e] at s;exact TG s
 have v:P.row p<P.row y:=by refine nv.mp λh=>C y A yp ⟨h,by exact Uo F s⟩
 have l:y∈ps:=by
  obtain h|h:=aT.mp A
  ·exact h
  exact GM (aK.mp h) yp
 refine aB (k.conv p sp q z (P.row y) (P.col p) (cM v) j (br _) (cM F)) λm1 s1 r1 c1=>(aB (k.conv p sp q z (P.row y) (P.col q) (cM v) j (cM F) (br _)) λm2 M O Z=>?_);have U:T p<T y:=dF (k.lt p sp m1 s1 c1.symm (B0 v r1)) (k.le m1 s1 y I r1 (UG F s c1));have V:T y<=T q:=by
  refine bo (k.le y I m2 M O.symm (L? s Z)) ?_
  by_cases e:P.row y=P.row q
  ·(refine aa (k.inj m2 M q z (O.trans e) Z) ?_);exact br _
  exact cM (k.lt m2 M q z Z (Mg j O e))
 have r:∀m∈ps++[p],m≠y->m≠p->m≠q->¬Sw P y m:=λm c i o Y hs=>by
  refine oA hs λD X=>?_
  by_cases e:P.col m=P.col y
  ·have:=g m c (e.trans s) o;exact i (k.inj m (hp.sub m c) y I (AI D this) e)
  exact b m c Y ⟨by exact vE j D,by exact ML s X e⟩
 have ru:Rd P S (ps.filter λm=>decide (m≠q/\m≠y)):=by
  refine⟨rp.nd.sublist gS,λm h=>rp.sub m (bN.mp h).1,λm h n x hs=>?_,rp.ord.sublist gS⟩;refine oA (bN.mp h) λc i=>(oA (of_decide_eq_true i) λo Y=>?_);refine bN.mpr ⟨rp.gG m c n x hs,decide_eq_true ⟨λe=>?_,λe=>?_⟩⟩
  ·rw[e] at hs;exact b m (b? _ c) o hs
  rw[e] at hs;exact r m (b? _ c) Y (λe=>np (e▸c)) o hs
 generalize W:(ps.filter λm=>decide (m≠q/\m≠y))=us at ru;have a:∀m,m∈us↔m∈ps/\m≠q/\m≠y:=λm=>by rw[<-W,bN,decide_eq_true_eq]
 have ry:Rd P S (us++[y]):=ru.snoc I (λh=>((a y).mp h).2.2 rfl) (λn x d hs=>(a n).mpr (aC (rp.gG y l n x hs) (λe=>by rw[e] at hs;exact b y A H hs) d)) (λm h hs=>by
  refine a! ((a m).mp h) λc i o=>?_
  exact r m (b? _ c) o (λe=>np (e▸c)) i hs)
 have B:Rd P S (us++[y]++[q]):=ry.snoc z (λh=>by
  obtain h|h:=aT.mp h
  ·exact((a q).mp h).2.1 rfl
  ·exact H (aK.mp h).symm) (λn x d hs=>by
  by_cases e:n=y
  ·(refine aa e ?_);exact bt _ (.head _)
  ·exact b? _ ((a n).mpr (aC (rp.gG q u n x hs) d e))) (λm h hs=>by
  obtain h|h:=aT.mp h
  ·refine a! ((a m).mp h) λc i o=>?_
   exact b m (b? _ c) i hs
  rw[aK.mp h] at hs;exact b y A H hs)
 have N:Rd P S (us++[y]++[p]):=ry.snoc sp (λh=>by
  obtain h|h:=aT.mp h
  ·exact np ((a p).mp h).1
  ·exact yp (aK.mp h).symm) (λn x d hs=>by
  by_cases e:n=y
  ·(refine aa e ?_);exact bt _ (.head _)
  ·rcases aT.mp (hp.gG p (bt _ (.head _)) n x hs) with h|h
   ·exact b? _ ((a n).mpr (aC h (λe=>by(replace hs:=e▸hs);exact b p (bt _ (.head _)) w hs) e))
   exact GM (aK.mp h) d) (λm h hs=>by
  obtain h|h:=aT.mp h
  ·exact R m ((a m).mp h).1 hs
  replace hs:=(aK.mp h)▸hs;exact R y l hs)
 have f:∀m,m∈ps↔m∈us++[y]++[q]:=λm=>by
  simp only[aT,aK,a];constructor
  ·intro h;by_cases e1:m=q
   ·exact .inr e1
   by_cases G:m=y
   ·exact .inl (.inr G)
   exact .inl (.inl (aC h e1 G))
  rintro((h|rfl)|rfl)
  ·exact h.1
  ·exact l
  exact u
 have t:∀m,m∈us++[y]++[p]↔m∈qs:=λm=>by
  have c:=J m;have i:=f m;simp only[aT,aK,a] at c i ⊢;constructor
  ·rintro((h|rfl)|rfl)
   ·exact(c.mp (.inl h.1)).resolve_right h.2.1
   ·exact(c.mp (.inl l)).resolve_right H
   exact Q
  intro h;obtain h'|rfl:=c.mpr (.inl h)
  ·by_cases G:m=y
   ·exact .inl (.inr G)
   exact .inl (.inl (aC h' (λe=>nq (e▸h)) G))
  exact .inr rfl
 have i1:=ih ps (us++[y]++[q]) rfl rp B f;have l1:(us++[y]++[p]).length=ps.length:=by have:=((nE rp.nd B.nd).mpr f).length_eq;(refine aa this ?_);simp
 have i2:=ih (us++[y]++[p]) qs l1 N rq t;have j1:=i1.app (Kn.refl [T p]);have j2:=(Kn.refl (us.map T)).app (Kn.k1 U V);have j3:=i2.app (Kn.refl [T q]);simp only[bf,bq,nC,eF,l8,iA] at j1 j2 j3 ⊢;exact j1.trans (j2.trans j3)
theorem Vr(k:Sk P S T):∀(n:Nat) (ps qs:List Int),ps.length=n->Rd P S ps->Rd P S qs->(∀m,m∈ps↔m∈qs)->Kn (ps.map T) (qs.map T):=by
 intro l0;induction l0 with
 |zero =>
  intro ps qs hn hp b hm;have e:ps=[]:=iv hn;subst e;cases qs with
  |nil=>exact Kn.refl _
  |cons q qs=>have:=(hm q).mpr (.head _);cases this
 |succ n a =>
  intro ps qs hn hp b hm;obtain⟨ps,p,rfl⟩:∃Q p,ps=Q++[p]:=dT ps.dropLast (ps.getLast (by intro q;(replace hn:=q▸hn);injection hn)) ((sP _).symm);have g:qs≠[]:=λe=>by(replace hm:=e▸hm);have:=(hm p).mp (bt _ (.head _));cases this
  obtain⟨qs,q,rfl⟩:∃Q p,qs=Q++[p]:=dT qs.dropLast (qs.getLast g) ((sP _).symm);have i:ps.length=n:=by simpa using hn
  have a:=λ(us vs:List Int) (f:us.length=ps.length)=>a us vs (f.trans i);refine f7 hp.front λrp u np sp=>(f7 b.front λr t s w=>?_);by_cases e:p=q
  ·subst e;have j:∀m,m∈ps↔m∈qs:=λm=>by
    have h:=hm m;simp only[aT,aK] at h;constructor
    ·intro h';exact(h.mp (.inl h')).resolve_right λe=>np (e▸h')
    intro h';exact(h.mpr (.inl h')).resolve_right λe=>s (e▸h')
   have:=(a ps qs rfl rp r j).app (Kn.refl [T p]);(refine aa bf ?_;refine aa bf ?_);exact this
  have c:q∈ps:=by
   rcases aT.mp ((hm q).mpr (bt _ (.head _))) with h|h
   ·exact h
   exact GM (aK.mp h).symm e
  have d:p∈qs:=by
   rcases aT.mp ((hm p).mp (bt _ (.head _))) with h|h
   ·exact h
   exact GM (aK.mp h) e
  have o:=u q c;have l:=t p d;have v:qs.length=ps.length:=by have:=((nE hp.nd b.nd).mpr hm).length_eq;simp only[cA,List.length_singleton] at this;exact MW this
  by_cases h:P.row p<P.row q
  ·exact Cq k hp b hm h (M2 l h) a
  exact(Cq k b hp (λm=>(hm m).symm) (Na o l h) (No o h) λus vs f=>a us vs (f.trans v)).symm
end
abbrev bz:=Int->Int->Option Int
def Conv(C:Int->Int->Prop):Prop:=∀i j i' j' a b,C i j->C i' j'->i<=a->a<=i'->j<=b->b<=j'->C a b
structure Tab(f:bz):Prop where
 le:∀i j j' u v,j<j'->f i j=wf u->f i j'=wf v->u<=v
 lt:∀i i' j u v,i<i'->f i j=wf u->f i' j=wf v->u<v
abbrev fB(L:List Int):Prop:=L.Pairwise (·<·)
noncomputable def f9(f:bz)(R L:List Int):List Int:=R.flatMap λi=>L.filterMap (f i)
theorem Tab.up{f:bz}(h:Tab f){i:Int}:∀{L:List Int},fB L->Up (L.filterMap (f i)):=by
 intro l0;induction l0 with
 |nil =>intro _;exact .nil
 |cons j L b =>
  intro g;have a:=dH.mp g;refine cE (x:=f i j) (λe=>?_) (λu e=>?_)
  ·(refine aa (l9 e) ?_);exact b a.2
  ·
   refine aa (jd e) ?_
   refine dH.mpr ⟨λv c=>?_,b a.2⟩;refine ak (xl.mp c) λk d l=>?_
   exact h.le i j k u v (a.1 k d) e l
theorem wj{p:Int->Bool}:∀{L:List Int},fB L->(∀a∈L,∀b∈L,a<b->p b=true->p a=true)->L=L.filter p++L.filter λa=>!p a:=by
 intro l0;induction l0 with
 |nil =>intro _ _;exact rfl
 |cons a L c =>
  intro k h;have d:=dH.mp k;have c:=c d.2 λx j y i=>h x (.tail _ j) y (.tail _ i);refine k9 (x:=p a) (λe=>?_) (λe=>?_)
  ·
   refine aa (xa e) ?_;refine aa (w_ (by simp[e])) ?_;refine aa l8 ?_;exact az c rfl
  ·
   have f:L.filter p=[]:=sR.mpr λb g q=>by have:=h a (.head _) b (.tail _ g) (d.1 b g) q;rw[e] at this;injection this
   rw[w_ (by simp[e]),xa (by simp[e]),f,iA];rw[f,iA] at c;exact az c rfl
theorem kj{f g:Int->Option Int}:∀{L:List Int},(∀j∈L,f j=g j)->L.filterMap f=L.filterMap g:=by
 intro l0;induction l0 with
 |nil =>intro _;exact rfl
 |cons j L a =>intro h;refine aa nA ?_;refine aa nA ?_;refine aa (h j (.head _)) ?_;exact aa (a λk b=>h k (.tail _ b)) rfl
theorem CG{f g:bz}{L:List Int}:∀{R:List Int},(∀i∈R,∀j,f i j=g i j)->f9 f R L=f9 g R L:=by
 intro l0;induction l0 with
 |nil =>intro _;exact rfl
 |cons i R a =>intro h;show L.filterMap (f i)++f9 f R L=L.filterMap (g i)++f9 g R L;refine aa (kj λj c=>h i (.head _) j) ?_;exact aa (a λk b=>h k (.tail _ b)) rfl
theorem WV{C:Int->Int->Prop}{f g:bz}{r c x:Int}(P:Conv C)(U:Tab f)(hg:Tab g)(O:∀i j,(f i j).isSome=true↔C i j/\¬(i=r/\j=c))(G:C r c)(T:f (r+1) c=wf x)(g1:g r c=wf x)(g2:g (r+1) c=iF)(B:∀i j,¬(i=r/\j=c)->¬(i=r+1/\j=c)->g i j=f i j){l m E D:List Int}(hL:fB (l++c::m))(h1:∀i∈E,i≠r/\i≠r+1)(h2:∀i∈D,i≠r/\i≠r+1) :
  Kn (f9 f (E++(r+1)::r::D) (l++c::m)) (f9 g (E++(r+1)::r::D) (l++c::m)):=by
 have f0:f r c=iF:=by
  cases e:f r c with
  |none=>rfl
  |some u=>exact GM ⟨rfl,rfl⟩ ((O r c).mp (by(refine aa e ?_);rfl)).2
 have F:=((O (r+1) c).mp (by(refine aa T ?_);rfl)).1;have z:=dx.mp hL;have H:=dH.mp z.2.1;have J:∀j∈l,j<c:=λj d=>z.2.2 j d c (.head _);have I:=H.1;have s:=λi j h h'=>j0.mp ((O i j).mpr ⟨h,h'⟩);have o:∀i j u,f i j=wf u->C i j:=λi j u h=>((O i j).mp (by(refine aa h ?_);rfl)).1;have S:=wj (p:=λj=>(f r j).isNone) (L:=l) z.1 λa ha b A y q=>by
  cases e:f r a with
  |none=>rfl
  |some u =>obtain⟨v,n⟩:=s r b (P r a r c r b (o r a u e) G (br _) (br _) (cM y) (cM (J b A))) (λq=>GM (J b A) (by(refine aa q.2 ?_);exact nu c));simp only[n] at q;injection q
 have Q:=wj (p:=λj=>(f (r+1) j).isSome) (L:=m) H.2 λa ha b A y q=>by obtain⟨v,n⟩:=j0.mp q;obtain⟨u,M⟩:=s (r+1) a (P (r+1) c (r+1) b (r+1) a F (o _ _ _ n) (br _) (br _) (cM (I a ha)) (cM y)) (λq=>by have:=q.1;exact AP q);show(f (r+1) a).isSome=true;(refine aa M ?_);rfl
 generalize e1:l.filter (λj=>(f r j).isNone)=E1 at S;generalize W:l.filter (λj=>!(f r j).isNone)=E2 at S;generalize V:m.filter (λj=>(f (r+1) j).isSome)=D1 at Q;generalize e4:m.filter (λj=>!(f (r+1) j).isSome)=D2 at Q;have m1:∀j∈E1,f r j=iF:=λj d=>by rw[<-e1] at d;exact Option.isNone_iff_eq_none.mp (bN.mp d).2
 have m2:k0 (f r) (f (r+1)) E2:=λj d=>by
  rw[<-W] at d;obtain⟨N,t⟩:=bN.mp d;cases e:f r j with
  |none=>simp only[e] at t;injection t
  |some u =>obtain⟨v,n⟩:=s (r+1) j (P r j (r+1) c (r+1) j (o r j u e) F jK (br _) (br _) (cM (J j N))) (λq=>by have:=q.1;exact AP q);exact cj u v rfl n (U.lt r (r+1) j u v pj e n)
 have m3:k0 (f r) (f (r+1)) D1:=λj d=>by rw[<-V] at d;obtain⟨N,t⟩:=bN.mp d;obtain⟨v,n⟩:=j0.mp t;obtain⟨u,M⟩:=s r j (P r c (r+1) j r j G (o _ _ _ n) (br _) jK (cM (I j N)) (br _)) (λq=>GM (I j N) (by(refine aa q.2 ?_);exact nu c));exact cj u v M n (U.lt r (r+1) j u v pj M n)
 have m4:∀j∈D2,f (r+1) j=iF:=λj d=>by
  rw[<-e4] at d;have t:=(bN.mp d).2;cases e:f (r+1) j with
  |none=>rfl
  |some u=>simp only[e] at t;injection t
 have sub:(E2++c::D1).Sublist (l++c::m):=by
  refine List.Sublist.append ?_ (.cons_cons _ ?_)
  ·(refine az W ?_);exact gS
  (refine az V ?_);exact gS
 have hA:fB (E2++c::D1):=hL.sublist sub;have c1:∀j∈E2,j≠c:=λj d e=>by have:=J j (by rw[<-W] at d;exact(bN.mp d).1);exact vH e this
 have c2:∀j∈D1,j≠c:=λj d e=>by have:=I j (by rw[<-V] at d;exact(bN.mp d).1);exact vL e this
 have A:=U.up (i:=r+1) hA;rw[iw,jd T] at A;have Z:=hg.up (i:=r) hA;rw[iw,jd g1,kj (g:=f r) (λj d=>B r j (λq=>c1 j d q.2) (λq=>c1 j d q.2)),kj (L:=D1) (g:=f r) (λj d=>B r j (λq=>c2 j d q.2) (λq=>c2 j d q.2))] at Z;have k:=WU m1 m2 m3 m4 A Z;rw[<-S,<-Q] at k;have w:∀(h:bz),f9 h (E++(r+1)::r::D) (l++c::m)=f9 h E (l++c::m)++((l++c::m).filterMap (h (r+1))++(l++c::m).filterMap (h r))++f9 h D (l++c::m):=λh=>by simp[f9,List.flatMap_append,List.flatMap_cons]
 refine aa (w f) ?_;refine aa (w g) ?_;refine aa (CG (R:=E) (f:=g) (g:=f) (λi hi j=>B i j (λq=>(h1 i hi).1 q.1) (λq=>(h1 i hi).2 q.1))) ?_;refine aa (CG (R:=D) (f:=g) (g:=f) (λi hi j=>B i j (λq=>(h2 i hi).1 q.1) (λq=>(h2 i hi).2 q.1))) ?_
 refine((Kn.refl _).app ?_).app (Kn.refl _);have d1:∀j∈l,j≠c:=λj d e=>by have:=J j d;exact vH e this
 have d2:∀j∈m,j≠c:=λj d e=>by have:=I j d;exact vL e this
 have Y:∀i,l.filterMap (g i)=l.filterMap (f i):=λi=>kj λj d=>B i j (λq=>d1 j d q.2) (λq=>d1 j d q.2);have X:∀i,m.filterMap (g i)=m.filterMap (f i):=λi=>kj λj d=>B i j (λq=>d2 j d q.2) (λq=>d2 j d q.2);rw[iw,jd T,iw,l9 f0,iw,l9 g2,iw,jd g1,Y,Y,X,X];exact k
structure fF(C:Int->Int->Prop)(f:bz)(r c:Int):Prop where
 mem:C r c
 dM:∀i j,(f i j).isSome=true↔C i j/\¬(i=r/\j=c)
structure Mv(f g:bz)(r c r' c' x:Int):Prop where
 gq:f r' c'=wf x
 now:g r c=wf x
 out:g r' c'=iF
 kd:∀i j,¬(i=r/\j=c)->¬(i=r'/\j=c')->g i j=f i j
section
variable{C:Int->Int->Prop}{f g:bz}{r c r' c' x:Int}
theorem fF.none(h:fF C f r c):f r c=.none:=by
 cases e:f r c with
 |none=>rfl
 |some u=>exact GM ⟨rfl,rfl⟩ ((h.dM r c).mp (by(refine aa e ?_);rfl)).2
theorem fF.some(h:fF C f r c){i j:Int}(b:C i j)(a:¬(i=r/\j=c)):∃u,f i j=.some u:=j0.mp ((h.dM i j).mpr ⟨b,a⟩)
theorem fF.of(h:fF C f r c){i j u:Int}(e:f i j=.some u):C i j/\¬(i=r/\j=c):=(h.dM i j).mp (aa e rfl)
theorem Mv.cases(m:Mv f g r c r' c' x){i j u:Int}(e:g i j=wf u):(i=r/\j=c/\u=x)\/(f i j=wf u/\¬(i=r/\j=c)/\¬(i=r'/\j=c')):=by
 by_cases q:i=r/\j=c
 ·refine oA q λb a=>?_
  subst b a;replace e:=m.now▸e;exact .inl (aC rfl rfl ((ax e).symm))
 by_cases d:i=r'/\j=c'
 ·obtain⟨b,a⟩:=d;subst b a;replace e:=m.out▸e;injection e
 rw[m.kd i j q d] at e;exact .inr (aC e q d)
theorem Mv.hole(m:Mv f g r c r' c' x)(h:fF C f r c):fF C g r' c':=by
 have e:=h.of m.gq;refine⟨e.1,λi j=>?_⟩;by_cases q:i=r/\j=c
 ·obtain⟨b,a⟩:=q;subst b a;refine aa m.now ?_
  exact⟨λk=>⟨h.mem,λq=>e.2 ⟨q.1.symm,q.2.symm⟩⟩,λk=>rfl⟩
 by_cases d:i=r'/\j=c'
 ·obtain⟨b,a⟩:=d;subst b a;refine aa m.out ?_
  exact⟨λq=>GM q dE,λq=>GM ⟨rfl,rfl⟩ q.2⟩
 rw[m.kd i j q d,h.dM];exact⟨λw=>⟨w.1,d⟩,λw=>⟨w.1,q⟩⟩
theorem Mv.WG(E:Conv C)(n:Tab f)(h:fF C f r c)(m:Mv f g r c (r+1) c x)(F:∀w,f r (c+1)=.some w->x<=w):Tab g:=by
 have G:=h.of m.gq;refine⟨λi j p u v s e B=>?_,λi z j u v hi e B=>?_⟩
 ·obtain⟨y,A,t⟩|⟨a,a1,a2⟩:=m.cases e<;>obtain⟨k,l,d⟩|⟨b,H,D⟩:=m.cases B
  ·exact AZ t d
  ·subst y A t;obtain⟨w,o⟩:=h.some (E i j i p i (j+1) h.mem (h.of b).1 (br _) (br _) jK (A0 s)) Ot;have k1:=F w o;by_cases q:j+1=p
   ·rw[q,b] at o;have:=ax o;exact OE k1 this
   have:=n.le i (j+1) p w v (A8 s q) o b;exact OX k1 this
  ·subst k l d;obtain⟨w,o⟩:=h.some (E i j (i+1) p (i+1) j (h.of a).1 G.1 jK (br _) (br _) (rO s)) O_;have k1:=n.lt i (i+1) j u w pj a o;have k2:=n.le (i+1) j p w v s o m.gq;exact Ph k1 k2
  exact n.le i j p u v s a b
 obtain⟨y,A,t⟩|⟨a,a1,a2⟩:=m.cases e<;>obtain⟨k,l,d⟩|⟨b,H,D⟩:=m.cases B
 ·exact Bd hi y k
 ·subst y A t;have:z≠i+1:=λq=>D ⟨q,rfl⟩;exact n.lt (i+1) z j u v (Pz hi D) m.gq b
 ·subst k l d;exact n.lt i (z+1) j u v (Bj hi) a m.gq
 exact n.lt i z j u v hi a b
theorem Mv.WC(E:Conv C)(n:Tab f)(h:fF C f r c)(m:Mv f g r c r (c+1) x)(F:∀w,f (r+1) c=.some w->x<w):Tab g:=by
 have G:=h.of m.gq;refine⟨λi j y u v A e B=>?_,λi p j u v hi e B=>?_⟩
 ·obtain⟨t,z,s⟩|⟨a,a1,a2⟩:=m.cases e<;>obtain⟨k,l,d⟩|⟨b,H,D⟩:=m.cases B
  ·exact AZ s d
  ·subst t z s;have:y≠j+1:=λq=>D ⟨rfl,q⟩;exact n.le i (j+1) y u v (PO A D) m.gq b
  ·subst k l d;exact n.le i j (y+1) u v (Bj A) a m.gq
  exact n.le i j y u v A a b
 obtain⟨t,z,s⟩|⟨a,a1,a2⟩:=m.cases e<;>obtain⟨k,l,d⟩|⟨b,H,D⟩:=m.cases B
 ·exact Bd hi t k
 ·subst t z s;obtain⟨w,o⟩:=h.some (E i j p j (i+1) j h.mem (h.of b).1 jK (A0 hi) (br _) (br _)) PZ;have k1:=F w o;by_cases q:i+1=p
  ·rw[q,b] at o;have:=ax o;exact B0 k1 this
  have:=n.lt (i+1) p j w v (A8 hi q) o b;exact Qe k1 this
 ·subst k l d;obtain⟨w,o⟩:=h.some (E i j p (j+1) i (j+1) (h.of a).1 G.1 (br _) (rO hi) jK (br _)) Qf;have k1:=n.le i j (j+1) u w pj a o;have k2:=n.lt i p (j+1) w v hi o m.gq;exact Qk k1 k2
 exact n.lt i p j u v hi a b
end
theorem I8{f g:bz}{r c x:Int}(v:f r c=iF)(m:Mv f g r c r (c+1) x){a b R:List Int}(u:fB (a++c::(c+1)::b)) :
  f9 f R (a++c::(c+1)::b)=f9 g R (a++c::(c+1)::b):=by
 have h:=dx.mp u;have l:=dH.mp h.2.1;have k:=dH.mp l.2;have o:∀j∈a,j<c:=λj d=>h.2.2 j d c (.head _);have n:=k.1;have row:∀i,(a++c::(c+1)::b).filterMap (f i)=(a++c::(c+1)::b).filterMap (g i):=λi=>by
  have s:a.filterMap (g i)=a.filterMap (f i):=kj λj d=>m.kd i j (λq=>by have:=o j d;exact Qu q this) (λq=>by have:=o j d;exact QD q this);have p:b.filterMap (g i)=b.filterMap (f i):=kj λj d=>m.kd i j (λq=>by have:=n j d;exact QO q this) (λq=>by have:=n j d;exact QV q this);by_cases e:i=r
  ·subst e;refine aa iw ?_;refine aa (l9 v) ?_;refine aa (jd m.gq) ?_;refine aa iw ?_;refine aa (jd m.now) ?_;refine aa (l9 m.out) ?_;refine aa s ?_;exact aa p rfl
  exact kj λj w=>(m.kd i j (λq=>e q.1) (λq=>e q.1)).symm
 induction R with
 |nil=>rfl
 |cons i R t =>show(a++c::(c+1)::b).filterMap (f i)++f9 f R _=(a++c::(c+1)::b).filterMap (g i)++f9 g R _;rw[row,t]
abbrev PP:=Int×Int
def near(h p:PP):Prop:=(p.1=h.1+1/\p.2=h.2)\/(p.1=h.1/\p.2=h.2+1)
noncomputable instance (h p:PP):Decidable (near h p):=by unfold near;infer_instance
noncomputable def cG(q:PP×(Int->PP))(t:Int):PP×(Int->PP):=if near q.1 (q.2 t) then(q.2 t,λs=>if s=t then q.1 else q.2 s) else q
noncomputable def aQ(L:List Int)(τ:Int->PP)(val:Int->Int):bz:=λi j=>(L.find? λt=>decide (τ t=(i,j))).map val
def Inj(L:List Int)(τ:Int->PP):Prop:=∀s∈L,∀t∈L,τ s=τ t->s=t
section
variable{L:List Int}{τ:Int->PP}{val:Int->Int}
theorem fV(h:Inj L τ){t:Int}(a:t∈L){i j:Int}(e:τ t=(i,j)):aQ L τ val i j=wf (val t):=by
 delta aQ;cases q:L.find? λt=>decide (τ t=(i,j)) with
 |none=>exact GM (decide_eq_true e) (Ea.mp q t a)
 |some s =>
  have b:τ s=(i,j):=by have:=xd q;simpa using this
  (refine aa (h s (xm q) t a (b.trans e.symm)) ?_);rfl
theorem g7{i j u:Int}(e:aQ L τ val i j=wf u):∃t∈L,τ t=(i,j)/\val t=u:=by
 refine ak (bu.mp e) λt a b=>?_
 exact aR t (xm a) (by have:=xd a;simpa using this) b
theorem uh{i j:Int}(e:∀t∈L,τ t≠(i,j)):aQ L τ val i j=iF:=by
 cases q:aQ L τ val i j with
 |none=>rfl
 |some u =>
  refine aB (g7 q) λt b a c=>?_
  exact GM a (e t b)
theorem fill_eq{a:Int->PP}{i j b j':Int}(h:∀t∈L,τ t=(i,j)↔a t=(b,j')):aQ L τ val i j=aQ L a val b j':=by
 delta aQ;congr 1;induction L with
 |nil=>rfl
 |cons t L c =>have:=h t (.head _);refine aa sU ?_;refine aa sU ?_;refine aa (c λs hs=>h s (.tail _ hs)) ?_;exact aa (decide_eq_decide.mpr this) rfl
end
structure Sl(C:Int->Int->Prop)(L:List Int)(val:Int->Int)(h:PP)(τ:Int->PP):Prop where
 inj:Inj L τ
 hole:fF C (aQ L τ val) h.1 h.2
 tab:Tab (aQ L τ val)
 mono:∀s∈L,∀t∈L,s<t->val s<=val t
 cols:∀s∈L,∀t∈L,s<t->val s=val t->(τ s).2<(τ t).2
structure bI(C:Int->Int->Prop)(f g:bz)(h h':PP)(x:Int):Prop where
 conv:Conv C
 tab:Tab f
 C9:Tab g
 hole:fF C f h.1 h.2
 mv:Mv f g h.1 h.2 h'.1 h'.2 x
 near:near h h'
section
variable{C:Int->Int->Prop}{L:List Int}{τ:Int->PP}{val:Int->Int}{h:PP}
theorem Sl.step(I:Conv C)(H:Sl C L val h τ){t:Int}(o:t∈L)(A:near h (τ t))(M:∀s∈L,near h (τ s)->t<=s) :
  bI C (aQ L τ val) (aQ L (λs=>if s=t then h else τ s) val) h (τ t) (val t)/\Sl C L val (τ t) (λs=>if s=t then h else τ s) /\
  (τ t=(h.1+1,h.2)->∀w,aQ L τ val h.1 (h.2+1)=wf w->val t<=w)/\(τ t=(h.1,h.2+1)->∀w,aQ L τ val (h.1+1) h.2=wf w->val t<w):=by
 have free:∀s∈L,τ s≠h:=λs hs e=>by have:=fV (val:=val) H.inj hs (i:=h.1) (j:=h.2) e;rw[H.hole.none] at this;injection this
 have G:τ t≠h:=free t o;have D:∀s∈L,s≠t->τ s≠τ t:=λs hs F e=>F (H.inj s hs t o e);have f:Inj L (λs=>if s=t then h else τ s):=λa p b B e=>by
  by_cases q:a=t
  ·by_cases d:b=t
   ·refine aa q ?_;exact aa d rfl
   simp only[q,d,if_true,if_false] at e;exact GM e.symm (free b B)
  by_cases d:b=t
  ·simp only[q,d,if_true,if_false] at e;exact GM e (free a p)
  simp only[q,d,if_false] at e;exact H.inj a p b B e
 have n:Mv (aQ L τ val) (aQ L (λs=>if s=t then h else τ s) val) h.1 h.2 (τ t).1 (τ t).2 (val t):=by
  refine⟨fV H.inj o rfl,fV f o (FB rfl),uh λs hs e=>?_,λi j r g=>fill_eq λs hs=>?_⟩
  ·by_cases q:s=t
   ·simp only[q,if_true] at e;exact G e.symm
   simp only[q,if_false] at e;exact D s hs q e
  by_cases q:s=t
  ·simp only[q,if_true];exact⟨λe=>GM ⟨(congrArg nK e).symm,(congrArg nL e).symm⟩ r,λe=>GM ⟨(congrArg nK e).symm,(congrArg nL e).symm⟩ g⟩
  simp only[q,if_false]
 have up:τ t=(h.1+1,h.2)->∀w,aQ L τ val h.1 (h.2+1)=wf w->val t<=w:=λe w E=>by
  refine aB (g7 E) λs hs x Q=>?_
  have:=M s hs (.inr (aa x ⟨rfl,rfl⟩));refine az Q ?_
  by_cases q:t=s
  ·(refine aa q ?_);exact br _
  exact H.mono t o s hs (pw this q)
 have J:τ t=(h.1,h.2+1)->∀w,aQ L τ val (h.1+1) h.2=wf w->val t<w:=λe w E=>by
  refine aB (g7 E) λs hs x Q=>?_
  have r:=M s hs (.inl (by(refine aa x ?_);exact⟨rfl,rfl⟩));have g:t≠s:=λq=>by rw[q,x] at e;have:=congrArg nL e;simp only at this;exact Q? this
  have S:=H.mono t o s hs (By r g);have N:=H.cols t o s hs (By r g);rw[e,x] at N;simp only at N;lia
 have c:Tab (aQ L (λs=>if s=t then h else τ s) val):=by
  refine cg A (λm=>oA m λa b=>?_) (λm=>oA m λa b=>?_)
  ·rw[a,b] at n;exact n.WG I H.tab H.hole (up (eR a b))
  rw[a,b] at n;exact n.WC I H.tab H.hole (J (eR a b))
 refine cL ⟨I,H.tab,c,H.hole,n,A⟩ ⟨f,n.hole H.hole,c,H.mono,λa p b B v z=>?_⟩ up J;have u:=H.cols a p b B v z;by_cases q:a=t
 ·have d:b≠t:=by exact Rp v q
  simp only[q,d,if_true,if_false];rw[q] at u;obtain⟨_,y⟩|⟨_,y⟩:=A<;>omega
 by_cases d:b=t
 ·simp only[q,d,if_true,if_false];rw[d] at u z;refine cg A (λl=>oA l λR y=>?_) (λl=>oA l λR y=>?_)
  ·exact RC u y
  have r:(τ a).2<=h.2:=by exact RO u y
  by_cases g:(τ a).2=h.2
  ·have P:aQ L (λs=>if s=t then h else τ s) val (τ a).1 h.2=wf (val a):=fV f p (by simp only[q,if_false];exact eR rfl g);have O:=n.now;obtain k|k|k:=DZ (τ a).1 h.1
   ·have:=c.lt _ _ _ _ _ k P O;exact R5 z this
   ·exact GM (eR k g) (free a p)
   have:=c.lt _ _ _ _ _ k O P;exact Sd z this
  exact pw r g
 simp only[q,d,if_false];exact u
end
noncomputable def gJ(f:bz)(h h':PP)(x:Int):bz:=λi j=>if i=h.1/\j=h.2 then wf x else if i=h'.1/\j=h'.2 then iF else f i j
noncomputable def cr:Nat->bz->PP->bz×PP
 |0,f,h=>(f,h)
 |n+1,f,h =>
  match f (h.1+1) h.2,f h.1 (h.2+1) with
  |none,iF=>(f,h)
  |some x,iF=>cr n (gJ f h (h.1+1,h.2) x) (h.1+1,h.2)
  |none,wf y=>cr n (gJ f h (h.1,h.2+1) y) (h.1,h.2+1)
  |some x,wf y=>if x<=y then cr n (gJ f h (h.1+1,h.2) x) (h.1+1,h.2) else cr n (gJ f h (h.1,h.2+1) y) (h.1,h.2+1)
theorem Mv.eq{f g:bz}{h h':PP}{x:Int}(m:Mv f g h.1 h.2 h'.1 h'.2 x):g=gJ f h h' x:=by
 funext i j;delta gJ;by_cases q:i=h.1/\j=h.2
 ·refine aa (FB q) ?_;refine aa q.1 ?_;refine aa q.2 ?_;exact aa m.now rfl
 refine aa (Da q) ?_
 by_cases a:i=h'.1/\j=h'.2
 ·refine aa (FB a) ?_;refine aa a.1 ?_;refine aa a.2 ?_;exact aa m.out rfl
 refine aa (Da a) ?_;exact aa (m.kd i j q a) rfl
section
variable{C:Int->Int->Prop}{L:List Int}{val:Int->Int}
theorem Ay{h p:PP}(a:near h p)(b:near p h):False:=by obtain⟨a1,a2⟩|⟨a1,a2⟩:=a<;>obtain⟨d,c⟩|⟨d,c⟩:=b<;>lia
theorem se{f:bz}{h:PP}(b:f (h.1+1) h.2=iF)(a:f h.1 (h.2+1)=iF):∀n,cr n f h=(f,h):=by
 intro l0;induction l0 with
 |zero =>exact rfl
 |succ n c =>unfold cr;(refine aa b ?_;exact aa a rfl)
theorem CR{f:bz}{h:PP}{x:Int}(b:f (h.1+1) h.2=wf x)(a:∀y,f h.1 (h.2+1)=wf y->x<=y)(n:Nat):cr (n+1) f h=cr n (gJ f h (h.1+1,h.2) x) (h.1+1,h.2):=by
 rw[cr,b];cases e:f h.1 (h.2+1) with
 |none=>rfl
 |some y=>exact FB (a y e)
theorem CP{f:bz}{h:PP}{x:Int}(b:f h.1 (h.2+1)=wf x)(a:∀y,f (h.1+1) h.2=wf y->x<y)(n:Nat):cr (n+1) f h=cr n (gJ f h (h.1,h.2+1) x) (h.1,h.2+1):=by
 rw[cr,b];cases e:f (h.1+1) h.2 with
 |none=>rfl
 |some y=>exact Da (nv.mpr (a y e))
theorem Sl.lt{h:PP}{τ:Int->PP}(H:Sl C L val h τ){s t:Int}(hs:s∈L)(g:t∈L)(d:near (τ t) (τ s)):t<s:=by
 have k:s≠t:=λe=>by rw[e] at d;exact Ay d d
 by_cases q:t<s
 ·exact q
 have c:s<t:=by exact Sp k q
 have l:=H.mono s hs t g c;have es:=fV (val:=val) H.inj hs (i:=(τ s).1) (j:=(τ s).2) rfl;have m:=fV (val:=val) H.inj g (i:=(τ t).1) (j:=(τ t).2) rfl;refine cg d (λf=>oA f λa b=>?_) (λf=>oA f λa b=>?_)
 ·rw[b] at es;have:=H.tab.lt _ _ _ _ _ (BI a) m es;exact SK l this
 rw[a] at es;have n:=H.tab.le _ _ _ _ _ (BI b) m es;have:=H.cols s hs t g c (AI l n);exact SW b this
theorem Sl.fold(O:Conv C):∀(ts l:List Int) (h:PP) (τ:Int->PP),L=l++ts->fB L->Sl C L val h τ->(∀s∈L,near h (τ s)->s∈ts) ->
  Sl C L val (ts.foldl cG (h,τ)).1 (ts.foldl cG (h,τ)).2/\(∀s∈L,¬near (ts.foldl cG (h,τ)).1 ((ts.foldl cG (h,τ)).2 s)) /\
  (∀k,ts.length<=k->cr k (aQ L τ val) h=(aQ L (ts.foldl cG (h,τ)).2 val,(ts.foldl cG (h,τ)).1)) /\
  (∀Q:bz->PP->Prop,Q (aQ L τ val) h->(∀f g h h' x,bI C f g h h' x->Q f h->Q g h')->Q (aQ L (ts.foldl cG (h,τ)).2 val) (ts.foldl cG (h,τ)).1):=by
 intro l0;induction l0 with
 |nil =>
  intro l h τ e r H j;refine cL H (λs hs q=>GM (j s hs q) (aX)) (λk v=>?_) (λQ A v=>A);refine se ?_ ?_ k
  ·cases q:aQ L τ val (h.1+1) h.2 with
   |none=>rfl
   |some u =>
    refine aB (g7 q) λs hs D v=>?_
    exact GM (j s hs (.inl (aa D ⟨rfl,rfl⟩))) aX
  cases q:aQ L τ val h.1 (h.2+1) with
  |none=>rfl
  |some u =>
   refine aB (g7 q) λs hs D v=>?_
   exact GM (j s hs (.inr (aa D ⟨rfl,rfl⟩))) aX
 |cons t ts o =>
  intro l h τ e r H j;have I:L=(l++[t])++ts:=by(refine aa e ?_);simp
  have F:t∈L:=by(refine aa e ?_);exact bt _ (.head _)
  have m:=dx.mp (e▸r);have z:=dH.mp m.2.1;have E:∀s∈L,t<s->s∈ts:=λs hs N=>by
   rw[e] at hs;obtain q|q:=aT.mp hs
   ·have:=m.2.2 s q t (.head _);omega
   obtain q|q:=aW.mp q
   ·omega
   exact q
  by_cases q:near h (τ t)
  ·have M:∀s∈L,near h (τ s)->t<=s:=λs hs c=>by
    obtain k|k:=aW.mp (j s hs c)
    ·exact AQ k
    exact cM (z.1 s k)
   refine f7 (H.step O F q M) λst H' up J=>?_
   have B:cG (h,τ) t=(τ t,λs=>if s=t then h else τ s):=FB q;have o:=o (l++[t]) (τ t) (λs=>if s=t then h else τ s) I r H' λs hs c=>by
    by_cases k:s=t
    ·simp only[k,if_true] at c;exact GM c (Ay q)
    simp only[k,if_false] at c;exact E s hs (H.lt hs F c)
   refine f7 o λi1 i2 y w=>?_
   refine aa hO ?_;refine aa B ?_
   refine cL i1 i2 (λk p=>?_) (λQ A G=>w Q (G _ _ _ _ _ st A) G);cases k with
   |zero=>cases p
   |succ k =>
    refine az (y k (s_ p)) ?_
    have em:=st.mv.eq;refine aa em ?_
    have d:=st.mv.gq;refine cg q (λi=>oA i λa b=>?_) (λi=>oA i λa b=>?_)
    ·have n:τ t=(h.1+1,h.2):=eR a b;rw[a,b] at d;refine aa (CR d (up n) k) ?_;exact aa n rfl
    have n:τ t=(h.1,h.2+1):=eR a b;rw[a,b] at d;refine aa (CP d (J n) k) ?_;exact aa n rfl
  have B:cG (h,τ) t=(h,τ):=Da q;refine aa hO ?_;refine aa B ?_
  obtain⟨i1,i2,y,w⟩:=o (l++[t]) h τ I r H λs hs c=>by
   obtain k|k:=aW.mp (j s hs c)
   ·rw[k] at c;exact GM c q
   exact k
  exact cL i1 i2 (λk p=>y k (nI p)) w
end
noncomputable def R4:List Int:=[3,2,1,0]
noncomputable def L5:List Int:=[0,1,2,3,4]
def eS(C:Int->Int->Prop):Prop:=∀i j,C i j->0<=i/\i<=3/\0<=j/\j<=4
theorem GF{r:Int}(h:0<=r)(h':r<=2):∃b a,R4=b++(r+1)::r::a/\(∀i∈b,i≠r/\i≠r+1)/\∀i∈a,i≠r/\i≠r+1:=by
 have:r=0\/r=1\/r=2:=by exact S_ h h'
 obtain q|q|q:=this<;>(refine aa q ?_)
 ·exact cj [3,2] [] rfl (by decide) (by decide)
 ·exact cj [3] [0] rfl (by decide) (by decide)
 exact cj [] [1,0] rfl (by decide) (by decide)
theorem GC{c:Int}(h:0<=c)(h':c<=4):∃a L2,L5=a++c::L2:=by
 have:c=0\/c=1\/c=2\/c=3\/c=4:=by exact Tj h h'
 obtain q|q|q|q|q:=this<;>(refine aa q ?_)
 ·exact dT [] [1,2,3,4] rfl
 ·exact dT [0] [2,3,4] rfl
 ·exact dT [0,1] [3,4] rfl
 ·exact dT [0,1,2] [4] rfl
 exact dT [0,1,2,3] [] rfl
theorem GD{c:Int}(h:0<=c)(h':c<=3):∃a L2,L5=a++c::(c+1)::L2:=by
 have:c=0\/c=1\/c=2\/c=3:=by exact BV h h'
 obtain q|q|q|q:=this<;>(refine aa q ?_)
 ·exact dT [] [2,3,4] rfl
 ·exact dT [0] [3,4] rfl
 ·exact dT [0,1] [4] rfl
 exact dT [0,1,2] [] rfl
theorem h!:fB L5:=by decide
noncomputable def cX(f:bz):List Int:=f9 f R4 L5
theorem bI.word{C:Int->Int->Prop}{f g:bz}{h h':PP}{x:Int}(l:eS C)(s:bI C f g h h' x):Kn (cX f) (cX g):=by
 have j:=l _ _ s.hole.mem;have m:=l _ _ (s.hole.of s.mv.gq).1;have c:=s.mv;delta cX;refine cg s.near (λk=>oA k λa b=>?_) (λk=>oA k λa b=>?_)
 ·rw[a,b] at c;refine dP (GF j.1 (TH m a:h.1<=2)) λq p e k1 k2=>(fM (GC j.2.2.1 j.2.2.2) λo n i=>?_);have d:=h!;rw[i] at d;refine aa e ?_;refine aa i ?_
  exact WV s.conv s.tab s.C9 s.hole.dM s.hole.mem c.gq c.now c.out c.kd d k1 k2
 rw[a,b] at c;refine fM (GD j.2.2.1 (TV m b:h.2<=3)) λo n i=>?_
 have d:=h!;rw[i] at d;refine aa i ?_;refine aa (I8 s.hole.none c d) ?_
 exact Kn.refl _
noncomputable def be(p:PP):PP:=(3-p.1,4-p.2)
def iO(C:Int->Int->Prop):Int->Int->Prop:=λi j=>C (3-i) (4-j)
noncomputable def d4(f:bz):bz:=λi j=>(f (3-i) (4-j)).map λu=>-u
theorem oD(p:PP):be (be p)=p:=eR lF lG
theorem qQ{f:bz}{i j u:Int}(e:d4 f i j=wf u):f (3-i) (4-j)=wf (-u):=by
 refine ak (bu.mp e) λv b a=>?_
 rw[b,<-a,kM]
theorem ui{C:Int->Int->Prop}(h:Conv C):Conv (iO C):=λi j d c a b f e a1 a2 k g=>h (3-d) (4-c) (3-i) (4-j) (3-a) (4-b) e f (BX a2) (BX a1) (BZ g) (BZ k)
theorem qR{f:bz}(h:Tab f):Tab (d4 f):=by
 refine⟨λi j c u v b e a=>?_,λi d j u v hi e a=>?_⟩
 ·have:=h.le _ _ _ _ _ (Uk b) (qQ a) (qQ e);exact Ul this
 have:=h.lt _ _ _ _ _ (Um hi) (qQ a) (qQ e);exact Un this
theorem yL{C:Int->Int->Prop}(h:eS C):eS (iO C):=λi j q=>by have:=h _ _ q;exact cL (Uq this) (Ur this) (Us this) (Ut this)
theorem uj{C:Int->Int->Prop}{f:bz}{r c:Int}(h:fF C f r c):fF (iO C) (d4 f) (3-r) (4-c):=by
 refine⟨?_,λi j=>?_⟩
 ·have b:3-(3-r)=r:=by exact lF
  have a:4-(4-c)=c:=by exact lG
  show C (3-(3-r)) (4-(4-c));(refine aa b ?_;refine aa a ?_);exact h.mem
 unfold d4 iO;rw[td,h.dM];exact⟨λq=>⟨q.1,λw=>q.2 ⟨by exact Uu w,by exact Uv w⟩⟩,λq=>⟨q.1,λw=>q.2 ⟨by exact rU w,by exact rV w⟩⟩⟩
theorem bI.flip{C:Int->Int->Prop}{f g:bz}{h h':PP}{x:Int}(s:bI C f g h h' x):bI (iO C) (d4 g) (d4 f) (be h') (be h) (-x):=by
 have w:∀(k:bz) (a b:Int),d4 k (3-a) (4-b)=(k a b).map λu=>-u:=λk a b=>by
  delta d4;have m:3-(3-a)=a:=by exact lF
  have l:4-(4-b)=b:=by exact lG
  refine aa m ?_;exact aa l rfl
 refine⟨ui s.conv,qR s.C9,qR s.tab,uj (s.mv.hole s.hole),⟨?_,?_,?_,λi j e d=>?_⟩,?_⟩
 ·show d4 g (3-h.1) (4-h.2)=_;rw[w,s.mv.now];rfl
 ·show d4 f (3-h'.1) (4-h'.2)=_;rw[w,s.mv.gq];rfl
 ·show d4 f (3-h.1) (4-h.2)=_;rw[w,s.hole.none];rfl
 ·delta d4;exact aa (s.mv.kd (3-i) (4-j) (λq=>d ⟨by show i=3-h.1;exact rU q,by exact rV q⟩) (λq=>e ⟨by exact rU q,by exact rV q⟩)) rfl
 refine cg s.near (λc=>oA c λa b=>?_) (λc=>oA c λa b=>?_)
 ·exact .inl ⟨by exact Uw a,by exact Ux b⟩
 exact .inr ⟨by exact Uy a,by exact Uz b⟩
theorem bI.W2{C:Int->Int->Prop}{f g:bz}{h h':PP}{x:Int}(a:eS C)(s:bI C f g h h' x):Kn (cX (d4 f)) (cX (d4 g)):=(s.flip.word (yL a)).symm
abbrev SS:=(Int->PP)×(Int->PP)
noncomputable def upd(f:Int->PP)(k:Int)(p:PP):Int->PP:=λs=>if s=k then p else f s
theorem wx(f:Int->PP)(k:Int)(p:PP):upd f k p k=p:=FB rfl
theorem aj(f:Int->PP){k s:Int}(p:PP)(h:s≠k):upd f k p s=f s:=Da h
theorem Dg(f:Int->PP){k b:Int}(p c:PP)(h:k≠b):upd (upd f k p) b c=upd (upd f b c) k p:=by
 funext s;delta upd;by_cases q:s=b
 ·refine aa (FB q) ?_;refine aa (Da (λe=>h (e.symm.trans q))) ?_;exact aa (FB q) rfl
 refine aa (Da q) ?_
 by_cases a:s=k
 ·refine aa (FB a) ?_;exact aa (FB a) rfl
 refine aa (Da a) ?_;refine aa (Da a) ?_;exact aa (Da q) rfl
noncomputable def op(q:SS)(s t:Int):SS:=if near (q.1 s) (q.2 t) then(upd q.1 s (q.2 t),upd q.2 t (q.1 s)) else q
theorem UQ(q:SS){s s' t t':Int}(h:s≠s')(h':t≠t'):op (op q s' t') s t=op (op q s t) s' t':=by
 delta op;by_cases a:near (q.1 s') (q.2 t')<;>by_cases b:near (q.1 s) (q.2 t)
 ·have f:=aj q.1 (q.2 t') h;have e:=aj q.2 (q.1 s') h';have d:=aj q.1 (q.2 t) h.symm;have c:=aj q.2 (q.1 s) h'.symm;simp only[FB a,FB b,f,e,d,c,tf];exact⟨Dg _ _ _ h.symm,Dg _ _ _ h'.symm⟩
 ·have f:=aj q.1 (q.2 t') h;have e:=aj q.2 (q.1 s') h';simp only[FB a,Da b,f,e]
 ·have d:=aj q.1 (q.2 t) h.symm;have c:=aj q.2 (q.1 s) h'.symm;simp only[Da a,FB b,d,c]
 simp only[Da a,Da b]
noncomputable def row(ts:List Int)(q:SS)(s:Int):SS:=ts.foldl (λq t=>op q s t) q
noncomputable def fI(ss:List Int)(q:SS)(t:Int):SS:=ss.foldl (λq s=>op q s t) q
theorem VE{s s' t:Int}(h:s≠s'):∀{ts:List Int} (q:SS),t∉ts->op (row ts q s) s' t=row ts (op q s' t) s:=by
 intro l0;induction l0 with
 |nil =>intro q _;exact rfl
 |cons a ts c =>intro q b;have d:a≠t:=λe=>b (aa e (.head _));show op (row ts (op q s a) s) s' t=row ts (op (op q s' t) s a) s;refine aa (c _ λm=>b (.tail _ m)) ?_;exact aa (UQ q h d) rfl
theorem VC{s t:Int}{ts:List Int}(b:t∉ts):∀{ss:List Int} (q:SS),s∉ss->fI ss (row ts q s) t=row ts (fI ss q t) s:=by
 intro l0;induction l0 with
 |nil =>intro q _;exact rfl
 |cons s' ss a =>intro q hs;have c:s≠s':=λe=>hs (by(refine aa e ?_);exact .head _);show fI ss (op (row ts q s) s' t) t=row ts (fI ss (op q s' t) t) s;refine aa (VE c q b) ?_;exact aa (a _ λm=>hs (.tail _ m)) rfl
theorem HH{t:Int}{ts:List Int}(c:t∉ts):∀{ss:List Int} (q:SS),ss.Nodup->ss.foldl (row (t::ts)) q=ss.foldl (row ts) (fI ss q t):=by
 intro l0;induction l0 with
 |nil =>intro q _;exact rfl
 |cons s ss b =>intro q hs;have a:=dq.mp hs;show ss.foldl (row (t::ts)) (row ts (op q s t) s)=ss.foldl (row ts) (row ts (fI ss (op q s t) t) s);refine aa (b _ a.2) ?_;exact aa (VC c _ a.1) rfl
theorem HG{ss:List Int}(hs:ss.Nodup):∀{ts:List Int} (q:SS),ts.Nodup->ss.foldl (row ts) q=ts.foldl (fI ss) q:=by
 intro l0;induction l0 with
 |nil =>
  intro q _;have:∀(l:List Int) (q:SS),l.foldl (row []) q=q:=λl=>by
   induction l with
   |nil=>intro q;rfl
   |cons a l c=>intro q;exact c q
  exact this ss q
 |cons t ts c =>
  intro q d;have b:=dq.mp d;refine aa (HH b.1 q hs) ?_;refine aa hO ?_
  exact c _ b.2
theorem Cz(s:Int):∀(ts:List Int) (q:SS),(row ts q s).2=(ts.foldl cG (q.1 s,q.2)).2/\(row ts q s).1=upd q.1 s (ts.foldl cG (q.1 s,q.2)).1:=by
 intro l0;induction l0 with
 |nil =>
  intro q;exact⟨rfl,by
  funext k;show q.1 k=upd q.1 s (q.1 s) k;delta upd;by_cases e:k=s
  ·refine aa (FB e) ?_;exact aa e rfl
  (exact aa (Da e) rfl)⟩
 |cons t ts a =>
  intro q;have a:=a (op q s t);by_cases e:near (q.1 s) (q.2 t)
  ·have d:op q s t=(upd q.1 s (q.2 t),upd q.2 t (q.1 s)):=FB e;have c:cG (q.1 s,q.2) t=(q.2 t,upd q.2 t (q.1 s)):=FB e;show(row ts (op q s t) s).2=(ts.foldl cG (cG (q.1 s,q.2) t)).2/\(row ts (op q s t) s).1=upd q.1 s (ts.foldl cG (cG (q.1 s,q.2) t)).1;rw[d] at a ⊢;refine aa c ?_
   simp only[wx] at a;refine⟨a.1,a.2.trans ?_⟩;funext k;delta upd;by_cases b:k=s
   ·refine aa (FB b) ?_;exact aa (FB b) rfl
   refine aa (Da b) ?_;refine aa (Da b) ?_;exact aa (Da b) rfl
  have d:op q s t=q:=Da e;have c:cG (q.1 s,q.2) t=(q.1 s,q.2):=Da e;show(row ts (op q s t) s).2=(ts.foldl cG (cG (q.1 s,q.2) t)).2/\(row ts (op q s t) s).1=upd q.1 s (ts.foldl cG (cG (q.1 s,q.2) t)).1;rw[d] at a ⊢;refine aa c ?_
  exact a
noncomputable def turn(f:Int->PP):Int->PP:=λu=>be (f (-u))
theorem sub_one{k x y:Int}:k-x=k-y+1↔y=x+1:=by exact UA
theorem C6{k x y:Int}:k-x=k-y↔y=x:=by exact UB
theorem Ax{a b:PP}:near (be b) (be a)↔near a b:=or_congr (and_congr sub_one C6) (and_congr C6 sub_one)
theorem Gm(t:Int):∀(ss:List Int) (q:SS),turn (fI ss q t).1=((ss.map λs=>-s).foldl cG (be (q.2 t),turn q.1)).2/\(fI ss q t).2=upd q.2 t (be ((ss.map λs=>-s).foldl cG (be (q.2 t),turn q.1)).1):=by
 intro l0;induction l0 with
 |nil =>
  intro q;exact⟨rfl,by
  funext k;show q.2 k=upd q.2 t (be (be (q.2 t))) k;delta upd;rw[oD];by_cases e:k=t
  ·refine aa (FB e) ?_;exact aa e rfl
  (exact aa (Da e) rfl)⟩
 |cons s ss a =>
  intro q;have a:=a (op q s t);have c:turn q.1 (-s)=be (q.1 s):=by show be (q.1 (- -s))=_;rw[kM]
  show turn (fI ss (op q s t) t).1=((ss.map λs=>-s).foldl cG (cG (be (q.2 t),turn q.1) (-s))).2/\(fI ss (op q s t) t).2=upd q.2 t (be ((ss.map λs=>-s).foldl cG (cG (be (q.2 t),turn q.1) (-s))).1);by_cases e:near (q.1 s) (q.2 t)
  ·have f:op q s t=(upd q.1 s (q.2 t),upd q.2 t (q.1 s)):=FB e;have d:cG (be (q.2 t),turn q.1) (-s)=(be (q.1 s),turn (upd q.1 s (q.2 t))):=by
    have:near (be (q.2 t)) (turn q.1 (-s)):=aa c (Ax.mpr e);refine(FB this).trans (eR c ?_);funext u;show(if u=-s then be (q.2 t) else turn q.1 u)=be (if -u=s then q.2 t else q.1 (-u));by_cases k:u=-s
    ·refine aa (FB k) ?_;exact aa (FB (UC k)) rfl
    (refine aa (Da k) ?_;refine aa (Da (UD k)) ?_);rfl
   rw[f] at a ⊢;refine aa d ?_
   simp only[wx] at a;refine⟨a.1,a.2.trans ?_⟩;funext k;delta upd;by_cases b:k=t
   ·refine aa (FB b) ?_;exact aa (FB b) rfl
   refine aa (Da b) ?_;refine aa (Da b) ?_;exact aa (Da b) rfl
  have f:op q s t=q:=Da e;have d:cG (be (q.2 t),turn q.1) (-s)=(be (q.2 t),turn q.1):=by
   refine Da λk=>e ?_
   have g:near (be (q.2 t)) (be (q.1 s)):=az c k;exact Ax.mp g
  rw[f] at a ⊢;refine aa d ?_
  exact a
def At(L:List Int)(τ:Int->PP)(i j:Int):Prop:=∃t∈L,τ t=(i,j)
def dC(D:Int->Int->Prop):Prop:=∀i j i' j',D i j->0<=i'->i'<=i->0<=j'->j'<=j->D i' j'
theorem fg{L:List Int}{τ:Int->PP}{val:Int->Int}(h:Inj L τ)(i j:Int):(aQ L τ val i j).isSome=true↔At L τ i j:=by
 constructor
 ·intro q;refine oE (j0.mp q) λu e=>(aB (g7 e) λt c b d=>?_);exact ar t c b
 intro a;refine ak a λt c b=>?_
 (refine aa (fV h c b) ?_);rfl
theorem t7{D M C:Int->Int->Prop}(n:dC D)(l:dC M)(h:eS D)(c:∀i j,C i j↔D i j/\¬M i j):Conv C:=λi j g f a b p o a1 a2 e r=>by have d:=(c _ _).mp p;have q:=(c _ _).mp o;have k:=h _ _ d.1;exact(c a b).mpr ⟨n g f a b q.1 (UE a1 k) a2 (B1 e k) r,λm=>d.2 (l a b i j m (UF k) a1 (vT k) e)⟩
theorem CQ{C:Int->Int->Prop}{L:List Int}{val:Int->Int}{h:PP}{τ:Int->PP}(m:Conv C)(H:Sl C L val h τ)(r:∀s∈L,¬near h (τ s)){i j:Int}(hp:C i j)(o:h.1<=i)(n:h.2<=j):i=h.1/\j=h.2:=by
 have k:∀a b,near h (a,b)->¬C a b:=λa b l u=>by
  have c:¬(a=h.1/\b=h.2):=λw=>by obtain⟨f,d⟩|⟨f,d⟩:=l<;>(simp only at f d;lia)
  refine ak ((fg H.inj a b).mp ((H.hole.dM a b).mpr ⟨u,c⟩)) λt p e=>?_
  exact r t p (aa e l)
 by_cases q:i=h.1
 ·by_cases g:j=h.2
  ·exact⟨q,g⟩
  exact GM (m h.1 h.2 i j h.1 (h.2+1) H.hole.mem hp (br _) o jK (B2 n g)) (k _ _ (.inr ⟨rfl,rfl⟩))
 exact GM (m h.1 h.2 i j (h.1+1) h.2 H.hole.mem hp jK (B2 o q) (br _) n) (k _ _ (.inl ⟨rfl,rfl⟩))
structure kX(ss TL:List Int)(val:Int->Int)(q:SS):Prop where
 inj:Inj TL q.2
 tab:Tab (aQ TL q.2 val)
 mono:∀s∈TL,∀t∈TL,s<t->val s<=val t
 cols:∀s∈TL,∀t∈TL,s<t->val s=val t->(q.2 s).2<(q.2 t).2
 aF:∀s∈ss,∀t∈TL,q.1 s≠q.2 t
 CN:Inj ss q.1
 ord:∀s∈ss,∀i j,0<=i->0<=j->i<=(q.1 s).1->j<=(q.1 s).2->∃s'∈ss,s'<=s/\q.1 s'=(i,j)
 gG:dC λi j=>At ss q.1 i j\/At TL q.2 i j
 box:eS λi j=>At ss q.1 i j\/At TL q.2 i j
theorem kX.step{s:Int}{ss TL:List Int}{val:Int->Int}{q:SS}(hT:fB TL)(hs:∀s'∈ss,s'<s)(A:kX (s::ss) TL val q) :
  kX ss TL val (row TL q s)/\Kn (cX (aQ TL q.2 val)) (cX (aQ TL (row TL q s).2 val)) /\
  (∀k,TL.length<=k->cr k (aQ TL q.2 val) (q.1 s)=(aQ TL (row TL q s).2 val,(row TL q s).1 s))/\∀s',s'≠s->(row TL q s).1 s'=q.1 s':=by
 refine oA (Cz s TL q) λG I=>?_
 let C:Int->Int->Prop:=λi j=>(i=(q.1 s).1/\j=(q.1 s).2)\/At TL q.2 i j;have W:dC (At ss q.1):=λi j M J ⟨t,c,e⟩ a1 a2 N E=>by
  refine aB (A.ord t (.tail _ c) M J a1 N (aa e a2) (aa e E)) λs' l B y=>?_
  obtain k|k:=aW.mp l
  ·have:=hs t c;omega
  exact ar s' k y
 have sn:∀t∈ss,q.1 t≠q.1 s:=λt c e=>by have:=A.CN t (.tail _ c) s (.head _) e;have:=hs t c;lia
 have d:∀i j,C i j↔(At (s::ss) q.1 i j\/At TL q.2 i j)/\¬At ss q.1 i j:=λi j=>by
  constructor
  ·rintro(⟨e1,e2⟩|⟨t,c,e⟩)
   ·exact⟨.inl ⟨s,.head _,eR e1.symm e2.symm⟩,λ⟨t,c,e⟩=>sn t c (e.trans (eR e1 e2))⟩
   exact⟨.inr ⟨t,c,e⟩,λ⟨t',Q,y⟩=>A.aF t' (.tail _ Q) t c (y.trans e.symm)⟩
  rintro⟨⟨t,c,e⟩|hh,R⟩
  ·obtain k|k:=aW.mp c
   ·rw[k] at e;exact .inl ⟨aa e rfl,aa e rfl⟩
   exact GM (ar t k e) R
  exact .inr hh
 have X:Conv C:=t7 A.gG W A.box d;have hB:eS C:=λi j h=>A.box i j ((d i j).mp h).1;have H:Sl C TL val (q.1 s) q.2:=⟨A.inj,⟨.inl ⟨rfl,rfl⟩,λi j=>by
  rw[fg A.inj];constructor
  ·intro p;refine ak p λt c e=>?_
   exact⟨.inr ⟨t,c,e⟩,λw=>A.aF s (.head _) t c (aa e (eR w.1.symm w.2.symm))⟩
  rintro⟨w|w,R⟩
  ·exact GM w R
  exact w⟩,A.tab,A.mono,A.cols⟩
 have r:∀t∈TL,near (q.1 s) (q.2 t)->t∈TL:=λt c zz=>c;refine f7 (Sl.fold (L:=TL) X TL [] (q.1 s) q.2 rfl hT H r) λm F2 F3 F4=>?_
 generalize TL.foldl cG (q.1 s,q.2)=z at G I m F2 F3 F4;generalize row TL q s=w at G I ⊢;obtain⟨wa,wb⟩:=w;have P:wa=upd q.1 s z.1:=I;have O:wb=z.2:=G;subst P O;clear I G;have n:∀t∈ss,upd q.1 s z.1 t=q.1 t:=λt c=>aj _ _ λe=>by have:=hs t c;exact vH e this
 have S:∀i j,At ss (upd q.1 s z.1) i j↔At ss q.1 i j:=λi j =>⟨λ⟨t,c,e⟩=>ar t c (by(refine az (n t c) ?_);exact e),λ⟨t,c,e⟩=>ar t c (aa (n t c) e)⟩
 have F:∀i j,At TL z.2 i j↔C i j/\¬(i=z.1.1/\j=z.1.2):=λi j=>by rw[<-fg (val:=val) m.inj,m.hole.dM]
 have T:∀i j,(At ss (upd q.1 s z.1) i j\/At TL z.2 i j)↔(At (s::ss) q.1 i j\/At TL q.2 i j)/\¬(i=z.1.1/\j=z.1.2):=λi j=>by
  rw[S,F];constructor
  ·rintro(⟨t,c,e⟩|⟨v,D⟩)
   ·refine⟨.inl ⟨t,.tail _ c,e⟩,λw=>((d _ _).mp m.hole.mem).2 ⟨t,c,aa e (aa w.1 (aa w.2 rfl))⟩⟩
   exact⟨((d i j).mp v).1,D⟩
  intro o;refine oA o λv D=>?_
  by_cases k:At ss q.1 i j
  ·exact .inl k
  exact .inr ⟨(d i j).mpr ⟨v,k⟩,D⟩
 refine cL ⟨m.inj,m.tab,m.mono,m.cols,λt c u hu e=>?_,λa V b U e=>?_,λt c i j v D h3 h4=>?_,λi j M J v a1 a2 N E=>?_,λi j h=>A.box i j ((T i j).mp h).1⟩ (F4 (λf zz=>Kn (cX (aQ TL q.2 val)) (cX f)) (Kn.refl _) (λf g h h' x st k=>k.trans (st.word hB))) (λk hk=>?_) (λs' l=>aj _ _ l)
 ·have y:z.2 u=q.1 t:=az (n t c) e.symm;have:=((F _ _).mp (ar u hu rfl)).1;exact((d _ _).mp this).2 (ar t c y.symm)
 ·have ea:=n a V;have eb:=n b U;exact A.CN a (.tail _ V) b (.tail _ U) (ea.symm.trans (e.trans eb))
 ·have Z:=n t c;refine aB (A.ord t (.tail _ c) i j v D (az Z h3) (az Z h4)) λs' l B y=>?_
  obtain k|k:=aW.mp l
  ·have:=hs t c;omega
  exact aR s' k B ((n s' k).trans y)
 ·refine oA ((T i j).mp v) λY g2=>((T M J).mpr ⟨A.gG i j M J Y a1 a2 N E,λw=>?_⟩);by_cases k:At ss q.1 i j
  ·exact((d _ _).mp m.hole.mem).2 (W i j _ _ k (UI a1 w) (B3 a2 w) (UJ N w) (B4 E w))
  exact g2 (CQ X m F2 ((d i j).mpr ⟨Y,k⟩) (B3 a2 w) (B4 E w))
 refine aa (F3 k hk) ?_
 exact congrArg (Prod.mk _) (wx _ _ _).symm
theorem flip_flip(f:bz):d4 (d4 f)=f:=by
 funext i j;delta d4;have b:3-(3-i)=i:=by exact lF
 have a:4-(4-j)=j:=by exact lG
 refine aa b ?_;refine aa a ?_
 cases f i j with
 |none=>rfl
 |some u=>show wf (- -u)=wf u;rw[kM]
theorem Df(f:Int->PP):turn (turn f)=f:=by funext u;show be (be (f (- -u)))=f u;rw[oD,kM]
theorem yK{a b:PP}(e:be a=be b):a=b:=by rw[<-oD a,e,oD]
theorem De{ss:List Int}{σ:Int->PP}(h:Inj ss σ):Inj (ss.map λs=>-s) (turn σ):=λa j b i e=>by
 refine ak (bh.mp j) λs hs g=>?_
 obtain rfl:=g;refine ak (bh.mp i) λs' c f=>?_
 obtain rfl:=f;have d:be (σ (- -s))=be (σ (- -s')):=e;rw[kM,kM] at d;exact aa (h s hs s' c (yK d)) rfl
theorem yJ{ss:List Int}{σ:Int->PP}(h:Inj ss σ):aQ (ss.map λs=>-s) (turn σ) id=d4 (aQ ss σ id):=by
 funext i j;delta d4;cases e:aQ ss σ id (3-i) (4-j) with
 |none =>refine uh λt d q=>(ak (bh.mp d) λs hs b=>?_);obtain rfl:=b;have a:be (σ (- -s))=(i,j):=q;rw[kM] at a;have c:σ s=(3-i,4-j):=az (oD (σ s)) (aa a rfl);rw[fV h hs c] at e;injection e
 |some u =>
  refine aB (g7 e) λs hs g f=>?_
  have q:turn σ (-s)=(i,j):=by show be (σ (- -s))=_;rw[kM,g];exact eR lF lG
  (refine aa (fV (De h) (bh.mpr (ar s hs rfl)) q) ?_;refine az f ?_);rfl
structure kZ(B:Int->Int->Prop)(ss ts:List Int)(q:SS):Prop where
 inj:Inj ss q.1
 tab:Tab (aQ ss q.1 id)
 low:dC B
 all:dC λi j=>B i j\/At ss q.1 i j
 box:eS λi j=>B i j\/At ss q.1 i j
 aF:∀i j,B i j->¬At ss q.1 i j
 Db:Inj ts q.2
 wq:∀t∈ts,¬(B (q.2 t).1 (q.2 t).2\/At ss q.1 (q.2 t).1 (q.2 t).2)
 C_:∀t∈ts,0<=(q.2 t).1/\(q.2 t).1<=3/\0<=(q.2 t).2/\(q.2 t).2<=4
 Dd:∀t∈ts,∀i j,0<=i->0<=j->i<=(q.2 t).1->j<=(q.2 t).2->(B i j\/At ss q.1 i j)\/∃t'∈ts,t'<=t/\q.2 t'=(i,j)
theorem kZ.step{B:Int->Int->Prop}{t:Int}{ss ts:List Int}{q:SS}(hS:fB (ss.map λs=>-s))(o:∀t'∈ts,t<t')(A:kZ B ss (t::ts) q) :
  (∃B',kZ B' ss ts (fI ss q t))/\Kn (cX (aQ ss q.1 id)) (cX (aQ ss (fI ss q t).1 id)):=by
 refine oA (Gm t ss q) λR Q=>?_
 let C:Int->Int->Prop:=λi j=>(i=(q.2 t).1/\j=(q.2 t).2)\/At ss q.1 i j;let E:Int->Int->Prop:=λi j=>(i=(q.2 t).1/\j=(q.2 t).2)\/(B i j\/At ss q.1 i j);have hE:dC E:=λi j i' j' h a1 a2 r n=>by
  refine cg h (λw6=>oA w6 λl d=>?_) (λh=>?_)
  ·rw[l] at a2;rw[d] at n;refine cg (A.Dd t (.head _) i' j' a1 r a2 n) (λk=>?_) (λw9=>aB w9 λt' c G e=>?_)
   ·exact .inr k
   obtain k|k:=aW.mp c
   ·rw[k] at e;exact .inl ⟨by(exact aa e rfl),aa e rfl⟩
   have:=o t' k;omega
  exact .inr (A.all i j i' j' h a1 a2 r n)
 have bE:eS E:=λi j h=>by
  refine cg h (λV=>oA V λl d=>?_) (λh=>?_)
  ·(refine aa l ?_;refine aa d ?_);exact A.C_ t (.head _)
  exact A.box i j h
 have m:∀i j,C i j↔E i j/\¬B i j:=λi j=>by
  constructor
  ·rintro(⟨l,d⟩|h)
   ·exact⟨.inl ⟨l,d⟩,λk=>A.wq t (.head _) (az l (az d (.inl k)))⟩
   exact⟨.inr (.inr h),λk=>A.aF i j k h⟩
  rintro⟨h|h|h,hn⟩
  ·exact .inl h
  ·exact GM h hn
  exact .inr h
 have hC:Conv C:=t7 hE A.low bE m;have hB:eS C:=λi j h=>bE i j ((m i j).mp h).1;have ft:=yJ A.inj;have H0:fF C (aQ ss q.1 id) (q.2 t).1 (q.2 t).2:=⟨.inl ⟨rfl,rfl⟩,λi j=>by
  rw[fg A.inj];constructor
  ·intro h;exact⟨.inr h,λw=>A.wq t (.head _) (.inr (az w.1 (az w.2 h)))⟩
  rintro⟨w|w,hn⟩
  ·exact GM w hn
  exact w⟩
 have H:Sl (iO C) (ss.map λs=>-s) id (be (q.2 t)) (turn q.1):=by
  refine⟨De A.inj,?_,?_,λa u b u h=>cM h,λa u b u h e=>by have e':a=b:=e;exact UK h e'⟩
  ·(refine aa ft ?_);exact uj H0
  (refine aa ft ?_);exact qR A.tab
 refine f7 (Sl.fold (L:=ss.map λs=>-s) (ui hC) (ss.map λs=>-s) [] (be (q.2 t)) (turn q.1) rfl hS H λs hs u=>hs) λP F2 u F4=>?_
 generalize(ss.map λs=>-s).foldl cG (be (q.2 t),turn q.1)=z at Q R P F2 F4;generalize fI ss q t=w at Q R ⊢;obtain⟨wa,wb⟩:=w;have X:wa=turn z.2:=by have:turn wa=z.2:=R;rw[<-this,Df]
 have W:wb=upd q.2 t (be z.1):=Q;clear R Q;subst X W;have Y:Inj ss (turn z.2):=λa T b S e=>by have:=P.inj (-a) (bh.mpr (ar a T rfl)) (-b) (bh.mpr (ar b S rfl)) (yK e);exact UL this
 have p:aQ (ss.map λs=>-s) z.2 id=d4 (aQ ss (turn z.2) id):=by have:=yJ Y;rw[Df] at this;exact this
 have hh:fF C (aQ ss (turn z.2) id) (be z.1).1 (be z.1).2:=by
  have k:=uj P.hole;rw[p,flip_flip] at k;have ec:iO (iO C)=C:=by
   funext i j;delta iO;have l:3-(3-i)=i:=by exact lF
   have d:4-(4-j)=j:=by exact lG
   refine aa l ?_;exact aa d rfl
  rw[ec] at k;exact k
 have O:∀i j,At ss (turn z.2) i j↔C i j/\¬(i=(be z.1).1/\j=(be z.1).2):=λi j=>by rw[<-fg (val:=id) Y,hh.dM]
 have I:=(m _ _).mp hh.mem;have v:∀i j,((B i j\/(i=(be z.1).1/\j=(be z.1).2))\/At ss (turn z.2) i j)↔E i j:=λi j=>by
  rw[O];constructor
  ·rintro((h|⟨l,d⟩)|h)
   ·exact .inr (.inl h)
   ·(refine aa l ?_;refine aa d ?_);exact I.1
   exact((m i j).mp h.1).1
  intro h;by_cases k:B i j
  ·exact .inl (.inl k)
  by_cases F:i=(be z.1).1/\j=(be z.1).2
  ·exact .inl (.inr F)
  exact .inr ⟨(m i j).mpr ⟨h,k⟩,F⟩
 have us:∀t'∈ts,upd q.2 t (be z.1) t'=q.2 t':=λt' c=>aj _ _ λe=>by have:=o t' c;exact vL e this
 refine⟨⟨λi j=>B i j\/(i=(be z.1).1/\j=(be z.1).2),⟨Y,?_,λi j i' j' h a1 a2 r n=>?_,λi j i' j' h a1 a2 r n=>(v i' j').mpr (hE i j i' j' ((v i j).mp h) a1 a2 r n),λi j h=>bE i j ((v i j).mp h),λi j h k=>?_,λa T b S e=>?_,λt' c=>?_,λt' c=>?_,λt' c i j h1 h2 h3 h4=>?_⟩⟩,?_⟩
 ·have k:=qR P.tab;rw[p,flip_flip] at k;exact k
 ·by_cases kB:B i' j'
  ·exact .inl kB
  refine cg h (λh=>?_) (λU=>oA U λl d=>?_)
  ·exact .inl (A.low i j i' j' h a1 a2 r n)
  have kE:=hE i j i' j' (by(refine aa l ?_;refine aa d ?_);exact I.1) a1 a2 r n;have kC:C i' j':=(m i' j').mpr ⟨kE,kB⟩;have kf:iO C (3-i') (4-j'):=by
   show C (3-(3-i')) (4-(4-j'));have l:3-(3-i')=i':=by exact lF
   have d:4-(4-j')=j':=by exact lG
   (refine aa l ?_;refine aa d ?_);exact kC
  have G1:=l;have G2:=d;have:=CQ (ui hC) P F2 kf (UM a2 G1) (UN n G2);refine .inr ⟨?_,?_⟩
  ·exact rU this
  exact rV this
 ·have F:=(O i j).mp k;obtain h|h:=h
  ·exact((m i j).mp F.1).2 h
  exact F.2 h
 ·have ea:=us a T;have eb:=us b S;exact A.Db a (.tail _ T) b (.tail _ S) (ea.symm.trans (e.trans eb))
 ·have N:=us t' c;intro k;have k2:E (upd q.2 t (be z.1) t').1 (upd q.2 t (be z.1) t').2:=(v (upd q.2 t (be z.1) t').1 (upd q.2 t (be z.1) t').2).mp k;rw[N] at k2;refine cg k2 (λD=>oA D λl d=>?_) (λk=>?_)
  ·have:=A.Db t' (.tail _ c) t (.head _) (eR l d);have:=o t' c;lia
  exact A.wq t' (.tail _ c) k
 ·have N:=us t' c;show 0<=(upd q.2 t (be z.1) t').1/\(upd q.2 t (be z.1) t').1<=3/\0<=(upd q.2 t (be z.1) t').2/\(upd q.2 t (be z.1) t').2<=4;(refine aa N ?_);exact A.C_ t' (.tail _ c)
 ·have N:=us t' c;have M:i<=(upd q.2 t (be z.1) t').1:=h3;have J:j<=(upd q.2 t (be z.1) t').2:=h4;rw[N] at M J;refine cg (A.Dd t' (.tail _ c) i j h1 h2 M J) (λk=>?_) (λy=>aB y λt2 Z G e=>?_)
  ·exact .inl ((v i j).mpr (.inr k))
  obtain k|k:=aW.mp Z
  ·rw[k] at e;exact .inl ((v i j).mpr (.inl ⟨aa e rfl,aa e rfl⟩))
  exact .inr (aR t2 k G ((us t2 k).trans e))
 have k:=F4 (λf u=>Kn (cX (d4 (aQ (ss.map λs=>-s) (turn q.1) id))) (cX (d4 f))) (Kn.refl _) (λf g h h' x st k=>k.trans (st.W2 (yL hB)));rw[ft,flip_flip,p,flip_flip] at k;exact k
def xS(a b:List Int):Prop:=b.length<=a.length/\∀i (h:i<a.length) (h':i<b.length),a[i]<b[i]
def Str:List (List Int)->Prop
 |[]=>True
 |a::r=>Up a/\(∀b∈r.head?,xS a b)/\Str r
noncomputable def full(rows:List (List Int)):List (List Int):=rows.filter λr=>!r.isEmpty
theorem yT:∀{r:List (List Int)},Str ([]::r)->full r=[]:=by
 intro l0;induction l0 with
 |nil =>intro _;exact rfl
 |cons b r a =>intro h;have c:=Ei.mp (xw.mp (h.2.1 b rfl).1);rw[c] at h ⊢;show full r=[];exact a h.2.2
theorem Ch{a:List Int}(h:Up a):c? [] a=full [a]:=by
 cases a with
 |nil=>rfl
 |cons x a =>have:=Ci (B:=[]) (A1:=[]) (A2:=a) (D:=[x]) (X:=[]) h rfl (λi h=>GM h (gU _));exact this
theorem Ve:∀{r:List (List Int)} {a:List Int},Str (a::r)->c? (full r) a=full (a::r):=by
 intro l0;induction l0 with
 |nil =>intro a h;exact Ch h.1
 |cons b r g =>
  intro a h;refine oA (h.2.1 b rfl) λc j=>?_
  cases b with
  |nil =>
   have e:=yT (r:=[]::r) (aC .nil (λb hb=>by(replace hb:=ax hb;subst hb);exact⟨bD _,λi h=>GM h (gU _)⟩) h.2.2);have n:full (a::[]::r)=full [a]:=by show full ([a]++([]::r))=_;unfold full at e ⊢;rw[p0,e,dw]
   refine aa e ?_;refine aa n ?_
   exact Ch h.1
  |cons y b =>
   have f:a.take (y::b).length++a.drop (y::b).length=a:=p9 _ _;have k:=Ci (B:=y::b) (A1:=a.take (y::b).length) (A2:=a.drop (y::b).length) (D:=[]) (X:=full r) (by rw[iA,f];exact h.1) (aa je (EA c)) λi q d=>by
    refine aa List.getElem_take ?_
    exact j i (fx d c) d
   rw[iA,iA,f] at k;have m:full ((y::b)::r)=(y::b)::full r:=rfl;have l:full (a::(y::b)::r)=a::full ((y::b)::r):=by
    cases a with
    |nil=>cases c
    |cons x a=>rfl
   refine aa m ?_;refine aa k ?_;refine aa l ?_;exact aa (g h.2.2) rfl
theorem E4:∀{rows:List (List Int)},Str rows->c? [] rows.reverse.flatten=full rows:=by
 intro l0;induction l0 with
 |nil =>intro _;exact rfl
 |cons a r b =>
  intro h;refine aa List.reverse_cons ?_;refine aa p4 ?_;refine aa v8 ?_;refine aa (b h.2.2) ?_
  have:[a].flatten=a:=dw _;refine aa this ?_
  exact Ve h
noncomputable def rowsOf(f:bz):List (List Int):=[0,1,2,3].map λi=>L5.filterMap (f i)
theorem VO(f:bz):cX f=(rowsOf f).reverse.flatten:=by rfl
theorem Tab.dM{f:bz}(h:Tab f)(hi:dC λi j=>(f i j).isSome=true){i:Int}(m:0<=i):xS (L5.filterMap (f i)) (L5.filterMap (f (i+1))):=by
 have nn:∀a∈L5,0<=a:=by decide
 have s:=wj (p:=λj=>(f (i+1) j).isSome) h! λa x b C n q=>hi (i+1) b (i+1) a q (rW m) (br _) (nn a x) (rO n);generalize B:L5.filter (λj=>(f (i+1) j).isSome)=P at s;generalize A:L5.filter (λj=>!(f (i+1) j).isSome)=Q at s;have z:k0 (f i) (f (i+1)) P:=λj d=>by rw[<-B] at d;obtain⟨w,c⟩:=bN.mp d;obtain⟨v,r⟩:=j0.mp c;obtain⟨u,t⟩:=j0.mp (hi (i+1) j i j c m jK (nn j w) (br _));exact cj u v t r (h.lt i (i+1) j u v pj t r)
 have y:Q.filterMap (f (i+1))=[]:=vo λj d=>by
  rw[<-A] at d;have c:=(bN.mp d).2;cases e:f (i+1) j with
  |none=>rfl
  |some u=>simp only[e] at c;injection c
 refine oA z.len λl g=>?_
 rw[s,iw,iw,y,dw];refine⟨by(refine az l ?_;refine aa cA ?_);exact iD _ _,λk D o=>?_⟩;refine aa (List.getElem_append_left (by rw[l];exact o)) ?_
 exact g k (by rw[l];exact o) o
theorem xW{f:bz}(h:Tab f)(hi:dC λi j=>(f i j).isSome=true):c? [] (cX f)=full (rowsOf f):=by
 rw[VO];refine E4 (wF (h.up h!) (λb hb=>?_) (h.up h!) (λb hb=>?_) (h.up h!) (λb hb=>?_) (h.up h!) (λb hb=>?_) trivial)
 ·(replace hb:=ax hb;subst hb);exact h.dM hi (by decide)
 ·(replace hb:=ax hb;subst hb);exact h.dM hi (by decide)
 ·(replace hb:=ax hb;subst hb);exact h.dM hi (by decide)
 injection hb
noncomputable def gg:Pl:=⟨λp=>p/32,λp=>p%32⟩
noncomputable def tB:List PP:=R4.flatMap λi=>L5.map λj=>(i,j)
noncomputable def g?(p:PP):Int:=32*p.1+p.2
noncomputable def e?:List Int:=tB.map g?
theorem qn:e?=[96,97,98,99,100,64,65,66,67,68,32,33,34,35,36,0,1,2,3,4]:=rfl
noncomputable def b!(S:List Int)(T:Int->Int):bz:=λi j=>if 0<=j/\j<32/\32*i+j∈S then wf (T (32*i+j)) else iF
theorem Hg{α:Type}{g:α->Int}{q:Int->Bool}{T:Int->Int}:∀{L:List α},(L.filterMap λp=>if q (g p) then wf (T (g p)) else iF)=((L.map g).filter q).map T:=by
 intro l0;induction l0 with
 |nil =>exact rfl
 |cons a L b =>
  refine aa nA ?_;refine aa bq ?_
  cases e:q (g a) with
  |true =>
   refine aa (xa e) ?_
   exact aa b rfl
  |false =>
   refine aa (w_ (by(refine aa e ?_);decide)) ?_
   exact aa b rfl
theorem VM(f:bz):cX f=tB.filterMap λp=>f p.1 p.2:=by
 refine aa List.filterMap_flatMap ?_
 rfl
theorem He{α:Type}{f g:α->Option Int}:∀{L:List α},(∀j∈L,f j=g j)->L.filterMap f=L.filterMap g:=by
 intro l0;induction l0 with
 |nil =>intro _;exact rfl
 |cons j L a =>intro h;refine aa nA ?_;refine aa nA ?_;refine aa (h j (.head _)) ?_;exact aa (a λk b=>h k (.tail _ b)) rfl
theorem VN(S:List Int)(T:Int->Int):cX (b! S T)=(e?.filter λp=>decide (p∈S)).map T:=by
 rw[VM];refine az Hg ?_
 refine He λp hp=>?_
 have a:∀p∈tB,0<=p.2/\p.2<32:=by decide
 refine oA (a p hp) λc b=>?_
 show b! S T p.1 p.2=if decide (32*p.1+p.2∈S)=true then wf (T (32*p.1+p.2)) else iF;delta b!;by_cases k:32*p.1+p.2∈S
 ·refine aa (FB (aC c b k)) ?_;exact aa (FB (decide_eq_true k)) rfl
 refine aa (Da (λw=>k w.2.2)) ?_;exact aa (Da (λw=>k (of_decide_eq_true w))) rfl
section
variable{S:List Int}{T:Int->Int}
theorem ib{p:Int}(hp:p∈S):b! S T (p/32) (p%32)=wf (T p):=by
 have e:32*(p/32)+p%32=p:=by exact L_
 delta b!;refine aa e ?_
 exact FB (aC ph rM hp)
theorem yI{i j:Int}(h:(b! S T i j).isSome=true):32*i+j∈S/\(32*i+j)/32=i/\(32*i+j)%32=j:=by
 unfold b! at h;by_cases k:0<=j/\j<32/\32*i+j∈S
 ·exact aC k.2.2 (by omega) (by omega)
 rw[Da k] at h;injection h
theorem V8(c:Tab (b! S T))(d:Conv λi j=>(b! S T i j).isSome=true):Sk gg S T:=by
 have at_:∀p∈S,(b! S T (p/32) (p%32)).isSome=true:=λp hp=>aa (ib hp) rfl;refine⟨λp hp q a e l=>?_,λp hp q a i j a1 a2 o n=>?_,λp hp q a e h=>?_,λp hp q a e h=>?_⟩
 ·have b:p/32=q/32:=e;have g:p%32=q%32:=l;exact vD b g
 ·refine a! (yI (d _ _ _ _ i j (at_ p hp) (at_ q a) a1 a2 o n)) λm m1 m2=>?_
  exact aR _ m m1 m2
 ·have b:p/32=q/32:=e;have f:p%32<=q%32:=h;by_cases k:p%32=q%32
  ·have:p=q:=by exact vD b k
   (refine aa this ?_);exact br _
  exact c.le (p/32) (p%32) (q%32) _ _ (Ma f k) (ib hp) (aa b (ib a))
 have b:p%32=q%32:=e;exact c.lt (p/32) (q/32) (p%32) _ _ h (ib hp) (by(refine aa b ?_);exact ib a)
theorem VA(f:∀p∈S,p∈e?):Rd gg S (e?.filter λp=>decide (p∈S)):=by
 have nd:e?.Nodup:=by(refine aa qn ?_);decide
 have e:e?.Pairwise λa b=>¬(b/32≥a/32/\b%32<=a%32):=by(refine aa qn ?_);decide
 refine⟨nd.sublist gS,λp hp=>of_decide_eq_true (bN.mp hp).2,λm d n c d=>bN.mpr ⟨f n c,decide_eq_true c⟩,(e.sublist gS).imp λh k=>h ⟨k.1,k.2⟩⟩
theorem Cr(c:Tab (b! S T))(d:Conv λi j=>(b! S T i j).isSome=true)(b:∀p∈S,p∈e?){ps:List Int}(hp:Rd gg S ps)(a:∀p∈S,p∈ps):Kn (ps.map T) (cX (b! S T)):=by rw[VN];exact Vr (V8 c d) ps.length ps _ rfl hp (VA b) λm=>⟨λh=>bN.mpr ⟨b m (hp.sub m h),decide_eq_true (hp.sub m h)⟩,λh=>a m (of_decide_eq_true (bN.mp h).2)⟩
end
noncomputable def ir(k:Nat):List PP->bz->List PP×bz
 |[],f=>([],f)
 |p::ps,f=>((cr k f p).2::(ir k ps (cr k f p).1).1,(ir k ps (cr k f p).1).2)
theorem Fn:∀{ss:List Int},ss.Pairwise (·>·)->fB (ss.map λs=>-s):=λ{ss} h=>xo.mpr (h.imp λ{a b} k=>by exact Mb k)
theorem yP{TL:List Int}{s:Int}(d:∀(q:SS) (c b:Int),b≠c->(row TL q c).1 b=q.1 b):∀{ss:List Int} (q:SS),s∉ss->(ss.foldl (row TL) q).1 s=q.1 s
 |[],q,_=>rfl
 |a::ss,q,h=>by
  refine aa hO ?_;refine aa (yP d _ λk=>h (.tail _ k)) ?_
  exact d q a s λe=>h (aa e (.head _))
theorem VD{TL:List Int}(q:SS)(a s2:Int)(h:s2≠a):(row TL q a).1 s2=q.1 s2:=by(refine aa ((Cz a TL q).2) ?_);exact aj _ _ h
theorem EO{TL:List Int}{val:Int->Int}(g:fB TL){k:Nat}(f:TL.length<=k):∀{ss:List Int} {q:SS},ss.Pairwise (·>·)->kX ss TL val q ->kX [] TL val (ss.foldl (row TL) q)/\Kn (cX (aQ TL q.2 val)) (cX (aQ TL (ss.foldl (row TL) q).2 val))/\ir k (ss.map q.1) (aQ TL q.2 val)=(ss.map (ss.foldl (row TL) q).1,aQ TL (ss.foldl (row TL) q).2 val):=by
 intro l0;induction l0 with
 |nil =>intro q _ A;exact aC A (Kn.refl _) rfl
 |cons s ss c =>
  intro q hs A;have a:=dH.mp hs;refine f7 (A.step g a.1) λa1 a2 a3 a4=>(a! (c a.2 a1) λn m l=>?_);refine aa hO ?_
  refine aC n (a2.trans m) ?_
  have b:s∉ss:=λh=>by have:=a.1 s h;exact Mc this
  have j:ss.map q.1=ss.map (row TL q s).1:=kN λx d=>(a4 x λe=>b (e▸d)).symm;have i:=yP (s:=s) (VD (TL:=TL)) (row TL q s) b;refine aa bq ?_;refine aa bq ?_;refine aa i ?_
  show((cr k _ (q.1 s)).2::(ir k (ss.map q.1) (cr k _ (q.1 s)).1).1,(ir k (ss.map q.1) (cr k _ (q.1 s)).1).2)=_;refine aa (a3 k f) ?_;refine aa j ?_;exact aa l rfl
theorem ER{ss:List Int}(f:fB (ss.map λs=>-s)):∀{ts:List Int} {B:Int->Int->Prop} {q:SS},fB ts->kZ B ss ts q ->(∃c,kZ c ss [] (ts.foldl (fI ss) q))/\Kn (cX (aQ ss q.1 id)) (cX (aQ ss (ts.foldl (fI ss) q).1 id)):=by
 intro l0;induction l0 with
 |nil =>intro B q _ A;exact⟨⟨B,A⟩,Kn.refl _⟩
 |cons t ts d =>
  intro B q e A;have b:=dH.mp e;refine oA (A.step f b.1) λa a2=>?_
  obtain⟨c,a1⟩:=a;refine oA (d b.2 a1) λh g=>?_
  refine aa hO ?_
  exact⟨h,a2.trans g⟩
theorem switch{ss TL:List Int}{val:Int->Int}{q:SS}{k:Nat}(l:fB TL)(y:TL.length<=k)(hs:ss.Pairwise (·>·))(A:kX ss TL val q){B:Int->Int->Prop}(D:kZ B ss TL q) :
  ∃(f:bz) (σ:Int->PP),ir k (ss.map q.1) (aQ TL q.2 val)=(ss.map σ,f)/\Tab f/\(dC λi j=>(f i j).isSome=true)/\(eS λi j=>(f i j).isSome=true)/\Kn (cX (aQ TL q.2 val)) (cX f) /\
   Inj ss σ/\Tab (aQ ss σ id)/\(Conv λi j=>(aQ ss σ id i j).isSome=true)/\(eS λi j=>(aQ ss σ id i j).isSome=true)/\Kn (cX (aQ ss q.1 id)) (cX (aQ ss σ id)):=by
 refine a! (EO l y hs A) λa1 a2 a3=>(oA (ER (Fn hs) l D) λd u=>?_);obtain⟨E,c⟩:=d;rw[<-HG (hs.imp λ{a b} k=>by exact Md k) q (l.imp λ{a b} k=>by exact Me k)] at c u;have v:∀i j,¬At ([]:List Int) (ss.foldl (row TL) q).1 i j:=λi j ⟨t,x,_⟩=>aX x;refine Xg _ _ a3 a1.tab (λi j g e h s r p o=>?_) (λi j h=>?_) a2 c.inj c.tab (λi j g e a b n m s r p o=>?_) (λi j h=>c.box i j (.inr ((fg c.inj i j).mp h))) u
 ·have h:=(fg a1.inj i j).mp h;refine(fg a1.inj g e).mpr ?_
  obtain k|k:=a1.gG i j g e (.inr h) s r p o
  ·exact GM k (v _ _)
  exact k
 ·have h:=(fg a1.inj i j).mp h;exact a1.box i j (.inr h)
 have n:=(fg c.inj i j).mp n;have m:=(fg c.inj g e).mp m;refine(fg c.inj a b).mpr ?_
 have z:=t7 (C:=At ss (ss.foldl (row TL) q).1) c.all c.low c.box λi j=>⟨λh=>⟨.inr h,λw=>c.aF i j w h⟩,λh=>h.1.resolve_left h.2⟩;exact z i j g e a b n m s r p o
noncomputable def fK(T:Int->Int)(p:Int):Int:=32*T p+p%32
theorem Ka{S:List Int}{T:Int->Int}(H:S.Nodup)(F:Tab (b! S T)):∃(TL:List Int) (τ:Int->PP),fB TL/\TL.length=S.length/\Inj TL τ/\aQ TL τ (λt=>t/32)=b! S T /\
  (∀s∈TL,∀t∈TL,s<t->s/32<=t/32)/\∀s∈TL,∀t∈TL,s<t->s/32=t/32->(τ s).2<(τ t).2:=by
 have li:∀p∈S,∀q∈S,fK T p=fK T q->p=q:=λp hp q n e=>by
  have g:T p=T q:=by exact Mf e
  have f:p%32=q%32:=by exact Mh e
  obtain k|k|k:=DZ (p/32) (q/32)
  ·have:=F.lt _ _ _ _ _ k (ib hp) (by(refine aa f ?_);exact ib n);exact Mi g this
  ·exact Mj f k
  have:=F.lt _ _ _ _ _ k (ib n) (by(refine az f ?_);exact ib hp);exact Mk g this
 have pm:=Ek (S.map (fK T)) λa b=>decide (a<=b);have D:=El (le:=λa b:Int=>decide (a<=b)) (λa b c o C=>decide_eq_true (bo (of_decide_eq_true o) (of_decide_eq_true C))) (λa b=>by obtain k|k:=Int.le_total a b<;>simp[k]) (S.map (fK T));generalize(S.map (fK T)).mergeSort (λa b=>decide (a<=b))=TL at pm D;have z:(S.map (fK T)).Nodup:=by refine xo.mpr (H.imp_of_mem λ{a b} B A h e=>h (li a B b A e))
 have nd:TL.Nodup:=pm.nodup_iff.mpr z;have as:fB TL:=D.imp₂ (λa b o C=>by have:=of_decide_eq_true o;have:a≠b:=C;lia) nd;let τ:Int->PP:=λt=>match S.find? λp=>decide (fK T p=t) with
  |some p=>(p/32,p%32)
  |none=>(0,0)
 have d:∀p∈S,τ (fK T p)=(p/32,p%32):=λp hp=>by
  show(match S.find? λq=>decide (fK T q=fK T p) with|some p=>(p/32,p%32)|none=>(0,0))=_;cases e:S.find? λq=>decide (fK T q=fK T p) with
  |none=>exact GM (decide_eq_true rfl) (Ea.mp e p hp)
  |some q =>
   have o:fK T q=fK T p:=by have:=xd e;simpa using this
   exact aa (li q (xm e) p hp o) rfl
 have mem:∀t,t∈TL↔∃p∈S,fK T p=t:=λt=>by rw[pm.mem_iff,bh]
 have E:Inj TL τ:=λa B b A e=>by
  refine ak ((mem a).mp B) λp hp y=>?_
  obtain rfl:=y;refine ak ((mem b).mp A) λq n x=>?_
  obtain rfl:=x;replace e:=(d p hp)▸e;replace e:=(d q n)▸e;have g:=congrArg nK e;have f:=congrArg nL e;simp only at g f;have:p=q:=by exact vD g f
  exact aa this rfl
 refine nl TL τ as (by rw[pm.length_eq,aw]) E ?_ (λs G t G h=>by exact Ml h) (λs hs t l h e=>?_)
 ·funext i j;cases e:b! S T i j with
  |none =>refine uh λt l q=>(ak ((mem t).mp l) λp hp w=>?_);obtain rfl:=w;replace q:=(d p hp)▸q;have g:=congrArg nK q;have f:=congrArg nL q;simp only at g f;rw[<-g,<-f,ib hp] at e;injection e
  |some u =>
   obtain⟨m,m1,m2⟩:=yI (S:=S) (T:=T) (i:=i) (j:=j) (by(refine aa e ?_);rfl);have f:=ib (T:=T) m;rw[m1,m2,e] at f;have:aQ TL τ (λt=>t/32) i j=wf (fK T (32*i+j)/32):=fV E ((mem _).mpr (ar _ m rfl)) (aa (d _ m) (aa m1 (aa m2 rfl)));refine aa this ?_;refine aa (ax f) ?_
   have:(32*T (32*i+j)+(32*i+j)%32)/32=T (32*i+j):=by exact Mm
   exact aa this rfl
 refine ak ((mem s).mp hs) λp hp v=>?_
 obtain rfl:=v;refine ak ((mem t).mp l) λq n r=>?_
 obtain rfl:=r;refine aa (d p hp) ?_;refine aa (d q n) ?_
 exact Mn h e
theorem UT{ss:List Int}{σ:Int->PP}(hi:dC (At ss σ))(p:∀s∈ss,∀s'∈ss,near (σ s) (σ s')->s<s'):∀(n:Nat) (s:Int),s∈ss->∀i j,0<=i->0<=j->i<=(σ s).1->j<=(σ s).2->(σ s).1-i+((σ s).2-j)<=n->∃s'∈ss,s'<=s/\σ s'=(i,j):=λn=>by
 have same:∀(s:Int) (i j:Int),i=(σ s).1/\j=(σ s).2->σ s=(i,j):=λs i j e=>eR e.1.symm e.2.symm;induction n with
 |zero =>intro s hs i j l k f d h;exact aR s hs (br _) (same s i j ⟨by exact Mo f d h,by exact Mp f d h⟩)
 |succ n r =>
  intro s hs i j l k f d h;by_cases e:i=(σ s).1/\j=(σ s).2
  ·exact aR s hs (br _) (same s i j e)
  refine ak (hi _ _ i j (ar s hs rfl:At ss σ (σ s).1 (σ s).2) l f k d) λm g e0=>?_
  suffices w:∃a∈ss,a<=s/\near (σ m) (σ a) from(aR m g (w.elim λa z=>bo (cM (p m g a z.1 z.2.2)) z.2.1) e0)
  refine aa e0 ?_
  by_cases q:i=(σ s).1
  ·obtain⟨a,b,c,o⟩:=r s hs i (j+1) l (rW k) f (Mq d e q) (Mr h);exact⟨a,b,c,.inr (aa o ⟨rfl,rfl⟩)⟩
  obtain⟨a,b,c,o⟩:=r s hs (i+1) j (rW l) k (Ms f q) d (Mt h);exact⟨a,b,c,.inl (by(refine aa o ?_);exact⟨rfl,rfl⟩)⟩
theorem JD{ss TL:List Int}{val:Int->Int}{σ τ:Int->PP}(H:Inj TL τ)(o:Tab (aQ TL τ val))(mono:∀s∈TL,∀t∈TL,s<t->val s<=val t)(y:∀s∈TL,∀t∈TL,s<t->val s=val t->(τ s).2<(τ t).2)(M:Inj ss σ)(G:∀s∈ss,∀t∈TL,σ s≠τ t)(hi:dC (At ss σ))(T:∀s∈ss,∀s'∈ss,near (σ s) (σ s')->s<s')(all:dC λi j=>At ss σ i j\/At TL τ i j)(g:eS λi j=>At ss σ i j\/At TL τ i j) :
  kX ss TL val (σ,τ)/\kZ (λz z=>False) ss TL (σ,τ):=by
 have A:∀s∈ss,∀i j,0<=i->0<=j->i<=(σ s).1->j<=(σ s).2->∃s'∈ss,s'<=s/\σ s'=(i,j):=λs hs i j F I E p=>UT hi T ((σ s).1-i+((σ s).2-j)).toNat s hs i j F I E p Mu;refine⟨⟨H,o,mono,y,G,M,A,all,g⟩,⟨M,⟨λi j U u v X e n=>?_,λi P j u v V e n=>?_⟩,λz z z z h=>h.elim,λi j P U h a1 a2 Z Y=>.inr (hi i j P U (h.resolve_left λk=>k) a1 a2 Z Y),λi j h=>g i j (.inl (h.resolve_left λk=>k)),λz z h=>h.elim,H,λt l h=>?_,λt l=>g _ _ (.inr ⟨t,l,rfl⟩),λt l i j F I E p=>?_⟩⟩
 ·obtain⟨s,hs,w,r⟩:=g7 e;obtain⟨s',C,a,f⟩:=g7 n;simp only at w a;have b:=g _ _ (.inl (ar s hs w));obtain⟨O,B,D,S⟩:=A s' C i j b.1 b.2.2.1 (aa a (br _)) (by(refine aa a ?_);exact cM X);have:=M O B s hs (S.trans w.symm);have r:s=u:=r;have f:s'=v:=f;exact Mw D this r f
 ·obtain⟨s,hs,w,r⟩:=g7 e;obtain⟨s',C,a,f⟩:=g7 n;simp only at w a;have b:=g _ _ (.inl (ar s hs w));refine aB (A s' C i j b.1 b.2.2.1 (aa a (cM V)) (aa a (br _))) λO B D S=>?_
  have F:=M O B s hs (S.trans w.symm);have I:s≠s':=λq=>by rw[q,a] at w;have:P=i:=congrArg nK w;exact Mx V this
  have r:s=u:=r;have f:s'=v:=f;exact My D F I r f
 ·refine cg h (λh=>?_) (λN=>ak N λs hs e=>?_)
  ·exact h
  exact G s hs t l e
 have E:=E;have p:j<=(τ t).2:=p;obtain k|⟨x,d,n⟩:=all _ _ i j (.inr ⟨t,l,rfl⟩:At ss σ (τ t).1 (τ t).2\/At TL τ (τ t).1 (τ t).2) F E I p
 ·exact .inl (.inr k)
 refine .inr (aR x d ?_ n);have L:=fV (val:=val) H d n;have f2:=fV (val:=val) H l (i:=(τ t).1) (j:=(τ t).2) rfl;by_cases lt:t<x
 ·have m:=mono t l x d lt;have c:=y t l x d lt;rw[n] at c;have c':val t=val x->(τ t).2<j:=c;by_cases q:i=(τ t).1
  ·by_cases J:j=(τ t).2
   ·have:=H x d t l (aa n (eR q J));exact Mz this
   rw[q] at L;have:=o.le _ _ _ _ _ (pw p J) L f2;lia
  have b:=g i j (.inr (ar x d n));obtain k|⟨t2,Q,r⟩:=all _ _ i (τ t).2 (.inr ⟨t,l,rfl⟩:At ss σ (τ t).1 (τ t).2\/At TL τ (τ t).1 (τ t).2) F E (B1 p b) (br _)
  ·refine ak (hi _ _ i j k F (br _) I p) λs hs es=>?_
   exact GM (es.trans n.symm) (G s hs x d)
  have R:=fV (val:=val) H Q r;have W:=o.lt _ _ _ _ _ (by exact pw E q) R f2;by_cases J:j=(τ t).2
  ·rw[J,R] at L;have:=ax L;exact MA m W this
  have:=o.le _ _ _ _ _ (pw p J) L R;exact MB m W this
 exact MC lt
noncomputable def pl(p:Int):PP:=(p/32,p%32)
def dN(L:List Int)(i j:Int):Prop:=0<=j/\j<32/\32*i+j∈L
noncomputable def bM:Nat->List Int
 |0=>[]
 |n+1=>((n:Int)+1)::bM n
theorem mV:∀{n:Nat} {s:Int},s∈bM n↔1<=s/\s<=n:=by
 intro l0;induction l0 with
 |zero =>intro s;exact⟨λh=>GM h aX,λh=>by lia⟩
 |succ n a =>intro s;show s∈((n:Int)+1)::bM n↔_;rw[aW,a];exact MD
theorem GZ:∀n,(bM n).Pairwise (·>·):=by
 intro l0;induction l0 with
 |zero =>exact .nil
 |succ n a =>exact dH.mpr ⟨λs hs=>by have:=(mV.mp hs).2;exact ME this,a⟩
noncomputable def cH(run:List Int)(s:Int):PP:=pl (run.getD (run.length-s).toNat 0)
theorem Cb:∀(run:List Int),(bM run.length).map (cH run)=run.map pl:=by
 intro l0;induction l0 with
 |nil =>exact rfl
 |cons p run a =>
  show cH (p::run) ((run.length:Int)+1)::(bM run.length).map (cH (p::run))=pl p::run.map pl;refine az (a) ?_
  have b:cH (p::run) ((run.length:Int)+1)=pl p:=by delta cH;have:(((p::run).length:Int)-((run.length:Int)+1)).toNat=0:=aa eQ MF;(refine aa this ?_);rfl
  refine aa b ?_
  refine congrArg _ (kN λs hs=>?_);have h:=mV.mp hs;delta cH;have:(((p::run).length:Int)-s).toNat=((run.length:Int)-s).toNat+1:=aa eQ (MG h);(refine aa this ?_);rfl
theorem pA{run:List Int}{s:Int}(hs:s∈bM run.length):∃(k:Nat) (h:k<run.length),(k:Int)=run.length-s/\cH run s=pl run[k]:=by have h:=mV.mp hs;refine⟨(run.length-s).toNat,by exact pi h,by exact MH h,?_⟩;delta cH;(refine aa jV ?_;refine aa (cz (pi h)) ?_);rfl
theorem Cc{p i j:Int}(e:pl p=(i,j)):0<=j/\j<32/\p=32*i+j:=by have b:=congrArg nK e;have a:=congrArg nL e;exact MI b a
theorem ub{i j:Int}(h:0<=j)(h':j<32):pl (32*i+j)=(i,j):=eR (MJ h h') (MK h h')
theorem ou{run:List Int}{i j:Int}:At (bM run.length) (cH run) i j↔dN run i j:=by
 constructor
 ·intro b;refine ak b λs hs e=>?_
  obtain⟨k,g,_,h⟩:=pA hs;refine a! (Cc (h.symm.trans e)) λf d c=>?_
  exact aC f d (az c (iy g))
 intro a;refine a! a λf d c=>?_
 have:pl (32*i+j)∈(bM run.length).map (cH run):=by rw[Cb];exact bh.mpr (ar _ c rfl)
 refine ak (bh.mp this) λs hs e=>?_
 exact ar s hs (e.trans (ub f d))
theorem kh{S:List Int}{T:Int->Int}{i j:Int}:(b! S T i j).isSome=true↔dN S i j:=by
 delta b!;by_cases k:0<=j/\j<32/\32*i+j∈S
 ·(refine aa (FB k) ?_);exact⟨λa=>k,λa=>rfl⟩
 (refine aa (Da k) ?_);exact⟨λh=>(dE h).elim,λh=>GM h k⟩
theorem uZ{L:List Int}(h:∀p∈L,p∈e?){i j:Int}(k:dN L i j):0<=i/\i<=3/\0<=j/\j<=4:=by
 have b:∀p∈e?,0<=p/32/\p/32<=3/\0<=p%32/\p%32<=4:=by(refine aa qn ?_);decide
 refine a! k λk1 k2 a=>?_
 have:=b _ (h _ a);exact MM k1 k2 this
theorem J0{S run:List Int}{T:Int->Int}(hS:S.Nodup)(sub:∀p∈S,p∈e?)(x:Tab (b! S T))(hc:Conv (dN S))(hr:run.Nodup)(m:∀p∈run,p∈e?)(aF:∀p∈run,p∉S)(ri:dC (dN run))(ai:dC λi j=>dN run i j\/dN S i j)(X:run.Pairwise λa b=>b≠a+1/\b≠a+32){k:Nat}(hk:S.length<=k) :
  ∃(f:bz) (σ:Int->PP),ir k (run.map pl) (b! S T)=((bM run.length).map σ,f)/\Tab f/\(dC λi j=>(f i j).isSome=true)/\(eS λi j=>(f i j).isSome=true) /\
   (∀ps,Rd gg S ps->(∀p∈S,p∈ps)->c? [] (ps.map T)=full (rowsOf f)) /\
   Inj (bM run.length) σ/\(∀s∈bM run.length,g? (σ s)∈e?/\pl (g? (σ s))=σ s) /\
   (Tab (aQ (bM run.length) (cH run) id)/\(dC λi j=>(aQ (bM run.length) (cH run) id i j).isSome=true)/\(eS λi j=>(aQ (bM run.length) (cH run) id i j).isSome=true) /\
    (∀i j,(aQ (bM run.length) (cH run) id i j).isSome=true↔dN run i j)/\∀s∈bM run.length,aQ (bM run.length) (cH run) id (cH run s).1 (cH run s).2=wf s) /\
   ∀(ms:List Int) (M:Int->Int),(∀p,p∈ms↔∃s∈bM run.length,g? (σ s)=p)->(∀s∈bM run.length,M (g? (σ s))=s) ->∀ps,Rd gg ms ps->(∀p∈ms,p∈ps)->c? [] (ps.map M)=full (rowsOf (aQ (bM run.length) (cH run) id)):=by
 refine rJ (Ka hS x) λTL τ as len ij O mono I=>?_
 have N:∀i j,At TL τ i j↔dN S i j:=λi j=>by rw[<-fg (val:=λt=>t/32) ij,O,kh]
 have F:Inj (bM run.length) (cH run):=λa ha b hb e=>by
  obtain⟨k1,v,W,H⟩:=pA ha;obtain⟨k2,l,E,G⟩:=pA hb;have P:=H.symm.trans (e.trans G);refine a! (Cc (i:=run[k2]/32) (j:=run[k2]%32) P) λzz zz e4=>?_
  have e5:run[k1]=run[k2]:=by exact MN e4
  obtain w|w|w:=Nat.lt_trichotomy k1 k2
  ·exact GM e5 (p7.mp hr k1 k2 v l w)
  ·exact MP W E w
  exact GM e5.symm (p7.mp hr k2 k1 l v w)
 have Fe:∀s∈bM run.length,∀s'∈bM run.length,near (cH run s) (cH run s')->s<s':=λs hs s' Y hn=>by
  obtain⟨k1,v,W,H⟩:=pA hs;obtain⟨k2,l,E,G⟩:=pA Y;replace hn:=H▸hn;replace hn:=G▸hn;have hq:run[k2]=run[k1]+1\/run[k2]=run[k1]+32:=by unfold near pl at hn;simp only at hn;exact MQ hn
  by_cases q:s<s'
  ·exact q
  by_cases q':k1=k2
  ·subst q';exact MR hq
  have:=p7.mp X k1 k2 v l (MS W E q q');exact MT hq this
 have Q:∀i j,(At (bM run.length) (cH run) i j\/At TL τ i j)↔(dN run i j\/dN S i j):=λi j=>by rw[ou,N]
 have hi:dC (At (bM run.length) (cH run)):=λi j r n h a1 a2 L J=>ou.mpr (ri i j r n (ou.mp h) a1 a2 L J);obtain⟨A,B⟩:=JD (ss:=bM run.length) (σ:=cH run) ij (aa O x) mono I F (λs hs t ht e=>by have v:=ou.mp (ar s hs rfl);have l:=(N _ _).mp (ar t ht rfl);rw[<-e] at l;exact aF _ v.2.2 l.2.2) hi Fe
  (λi j r n h a1 a2 L J=>(Q r n).mpr (ai i j r n ((Q i j).mp h) a1 a2 L J))
  (λi j h=>by
   obtain w|w:=(Q i j).mp h
   ·exact uZ m w
   exact uZ sub w)
 refine LY (switch (k:=k) as (aa len hk) (GZ _) A B) λf σ s1 s2 s3 s4 s5 U s7 s8 s9 V=>?_
 have D:ir k ((bM run.length).map (cH run)) (aQ TL τ λt=>t/32)=_:=s1;rw[O,Cb] at D;have z:Kn (cX (aQ TL τ λt=>t/32)) (cX f):=s5;rw[O] at z;have C:Kn (cX (aQ (bM run.length) (cH run) id)) (cX (aQ (bM run.length) σ id)):=V;have c:ka []:=λR hR=>GM hR aX;have d:∀s∈bM run.length,g? (σ s)∈e?/\pl (g? (σ s))=σ s:=λs hs=>by
  have b:=s9 (σ s).1 (σ s).2 ((fg U _ _).mpr (ar s hs rfl));refine⟨?_,ub (vT b) (AJ b)⟩;delta g?
  refine aa qn ?_
  have c1:(σ s).1=0\/(σ s).1=1\/(σ s).1=2\/(σ s).1=3:=by exact MU b
  have c2:(σ s).2=0\/(σ s).2=1\/(σ s).2=2\/(σ s).2=3\/(σ s).2=4:=by exact MV b
  obtain q|q|q|q:=c1<;>obtain q'|q'|q'|q'|q':=c2<;>((refine aa q ?_;refine aa q' ?_);decide)
 have ig:dC λi j=>(aQ (bM run.length) (cH run) id i j).isSome=true:=λi j r n h a1 a2 L J=>(fg F _ _).mpr (hi i j r n ((fg F _ _).mp h) a1 a2 L J);have o:∀i j,(aQ (bM run.length) (cH run) id i j).isSome=true↔dN run i j:=λi j=>(fg F i j).trans ou;refine Xf f σ D s2 s3 s4 (λps hp g=>?_) U d (pQ B.tab ig (λi j h=>uZ m ((o i j).mp h)) o (λs hs=>fV F hs rfl)) (λms M Z hM ps hp g=>?_)
 ·refine az (xW s2 s3) ?_;refine az (z [] c) ?_
  exact Cr x (λi j r n a b v l c1 c2 d1 d2=>kh.mpr (hc i j r n a b (kh.mp v) (kh.mp l) c1 c2 d1 d2)) sub hp g [] c
 have e:b! ms M=aQ (bM run.length) σ id:=by
  funext i j;cases q:aQ (bM run.length) σ id i j with
  |none =>
   have:¬dN ms i j:=λw=>by
    refine ak ((Z _).mp w.2.2) λs hs e=>?_
    have y:=(d s hs).2;replace y:=e▸y;replace y:=(ub w.1 w.2.1)▸y;rw[fV U hs y.symm] at q;injection q
   cases E:b! ms M i j with
   |none=>rfl
   |some u=>exact GM (kh.mp (by(refine aa E ?_);rfl)) this
  |some u =>
   refine aB (g7 q) λs hs H G=>?_
   have hj:=s9 i j (show(aQ (bM run.length) σ id i j).isSome=true by(refine aa q ?_);rfl);have P:g? (σ s)=32*i+j:=aa H rfl
   delta b!;refine aa (FB (aC (vT hj) (AJ hj) ((Z _).mpr (ar s hs P)))) ?_;refine az P ?_;refine aa (hM s hs) ?_
   exact congrArg wf G
 refine az (xW B.tab ig) ?_;refine aa (C [] c) ?_;refine az e ?_
 refine Cr (aa e s7) (aa e s8) (λp hp=>?_) hp g [] c;refine ak ((Z p).mp hp) λs hs y=>?_
 refine az y ?_
 exact(d s hs).1
noncomputable def sr(rows:List (List Int)):bz:=λi j=>if 0<=i/\0<=j then(rows[i.toNat]?).bind λr=>r[j.toNat]? else iF
theorem U8(a:Nat->Option Int):∀(n s k:Nat),(∀i,s<=i->(a (i+1)).isSome=true->(a i).isSome=true)->k<n->((wO s n).filterMap a)[k]?=a (s+k):=by
 intro l0;induction l0 with
 |zero =>intro _ _ _ h;lia
 |succ n b =>
  intro s k c h;refine aa List.range'_succ ?_
  refine cE (x:=a s) (λe=>?_) (λu e=>?_)
  ·
   have nn:∀i,s<=i->a i=iF:=λi=>by
    induction i with
    |zero =>
     intro hi;have:s=0:=by exact MX hi
     (refine az this ?_);exact e
    |succ i b =>
     intro hi;by_cases q:s=i+1
     ·(refine az q ?_);exact e
     have d:=b (AK hi q);cases f:a (i+1) with
     |none=>rfl
     |some u =>have:=c i (AK hi q) (by(refine aa f ?_);rfl);rw[d] at this;injection this
   refine aa (l9 e) ?_;refine aa (nn (s+k) AL) ?_;refine aa (List.filterMap_eq_nil_iff.mpr λi hi=>nn i (by have:=(List.mem_range'_1.mp hi).1;exact vF this)) ?_
   rfl
  ·
   refine aa (jd e) ?_
   cases k with
   |zero=>rw[List.getElem?_cons_zero,Nat.add_zero,e]
   |succ k =>
    refine aa xe ?_;refine aa (b (s+1) k (λi hi=>c i (vF hi)) (MY h)) ?_
    have:s+1+k=s+(k+1):=by exact AM
    exact aa this rfl
theorem Str.nil:∀{r:List (List Int)},Str ([]::r)->∀b∈r,b=[]:=by
 intro l0;induction l0 with
 |nil =>intro _ b h;exact GM h aX
 |cons c r a =>
  intro h b e;have d:=Ei.mp (xw.mp (h.2.1 c rfl).1);subst d;obtain q|q:=aW.mp e
  ·exact q
  exact a h.2.2 b q
theorem yS:∀{rows:List (List Int)} (i j:Nat),Str rows->((full rows)[i]?).bind (λr=>r[j]?)=(rows[i]?).bind λr=>r[j]?
 |[],i,j,_=>rfl
 |[]::r,i,j,h=>by
  have e:=yT (r:=[]::r) (aC .nil (λb hb=>by(replace hb:=ax hb;subst hb);exact⟨bD _,λi h=>GM h (gU _)⟩) h);refine aa e ?_
  cases q:(([]:List Int)::r)[i]? with
  |none=>rfl
  |some b =>
   have hb:b=[]:=by
    obtain k|k:=aW.mp (en q)
    ·exact k
    exact h.nil b k
   (refine aa hb ?_);rfl
 |(x::a)::r,i,j,h=>by
  have e:full ((x::a)::r)=(x::a)::full r:=rfl;refine aa e ?_
  cases i with
  |zero=>rfl
  |succ i =>rw[xe,xe];exact yS i j h.2.2
theorem Tab.str{f:bz}(h:Tab f)(hi:dC λi j=>(f i j).isSome=true):Str (rowsOf f):=by
 refine wF (h.up h!) (λb hb=>?_) (h.up h!) (λb hb=>?_) (h.up h!) (λb hb=>?_) (h.up h!) (λb hb=>?_) trivial
 ·(replace hb:=ax hb;subst hb);exact h.dM hi (by decide)
 ·(replace hb:=ax hb;subst hb);exact h.dM hi (by decide)
 ·(replace hb:=ax hb;subst hb);exact h.dM hi (by decide)
 injection hb
theorem VB{f:bz}(hi:dC λi j=>(f i j).isSome=true)(b:eS λi j=>(f i j).isSome=true){i:Int}(c:0<=i)(k:Nat):(L5.filterMap (f i))[k]?=f i k:=by
 have e:L5=(wO 0 5).map Int.ofNat:=rfl;refine aa e ?_;refine aa List.filterMap_map ?_
 by_cases h:k<5
 ·rw[U8 _ 5 0 k (λm g a=>?_) h,me];rfl;exact hi i ((m+1:Nat):Int) i (m:Int) a c (br _) vG MZ
 have d:f i k=iF:=by
  cases q:f i k with
  |none=>rfl
  |some u=>have:=b i k (show(f i k).isSome=true by(refine aa q ?_);rfl);omega
 refine aa d ?_
 refine sV ?_
 have:=List.length_filterMap_le (f i ∘ Int.ofNat) (wO 0 5);rw[List.length_range'] at this;exact M0 h this
theorem Wz{f:bz}(h:Tab f)(hi:dC λi j=>(f i j).isSome=true)(b:eS λi j=>(f i j).isSome=true):sr (full (rowsOf f))=f:=by
 funext i j;delta sr;have a:¬(0<=i/\0<=j/\i<=3)->f i j=iF:=λw=>by
  cases q:f i j with
  |none=>rfl
  |some u=>have:=b i j (show(f i j).isSome=true by(refine aa q ?_);rfl);lia
 by_cases k:0<=i/\0<=j
 ·refine aa (FB k) ?_;refine aa (yS _ _ (h.str hi)) ?_
  by_cases w:i<=3
  ·have e:((j.toNat:Nat):Int)=j:=Int.toNat_of_nonneg k.2;have r:∀m:Int,0<=m->(L5.filterMap (f m))[j.toNat]?=f m j:=λm d=>by rw[VB hi b d,e]
   have c:i=0\/i=1\/i=2\/i=3:=by exact M1 k w
   obtain q|q|q|q:=c<;>(refine aa q ?_)
   ·exact r 0 (by decide)
   ·exact r 1 (by decide)
   ·exact r 2 (by decide)
   exact r 3 (by decide)
  (refine aa (a λz=>w z.2.2) ?_;refine aa (sV (M3 w)) ?_);rfl
 refine aa (Da k) ?_;exact aa (a λz=>k ⟨z.1,z.2.1⟩) rfl
structure Ln(a b c:Int):Prop where
 c0:0<=c
 cb:c<=b
 ba:b<=a
 a3:a<=3
def jE(a b c p:Int):Prop:=(0<=p/\p<a)\/(32<=p/\p<32+b)\/(64<=p/\p<64+c)
def mw(a b c p:Int):Prop:=jE a b c p/\¬jE a b c (p+1)/\¬jE a b c (p+32)
noncomputable def mI(a b c:Int):List Int:=(if b<a then[a-1] else[])++((if c<b then[31+b] else[])++(if 0<c then[63+c] else[]))
theorem k?{a b c:Int}(h:Ln a b c){p:Int}:mw a b c p↔(p=a-1/\b<a)\/(p=31+b/\c<b)\/(p=63+c/\0<c):=by
 obtain⟨l,n,m,g⟩:=h;constructor
 ·rintro⟨⟨k1,k2⟩|⟨k1,k2⟩|⟨k1,k2⟩,f,j⟩
  ·have e:¬p+1<a:=λw=>f (.inl ⟨by exact rW k1,w⟩);have i:¬p<b:=λw=>j (.inr (.inl ⟨by exact M4 k1,by exact M5 w⟩));exact .inl ⟨by exact M6 k2 e,by exact M7 k2 i⟩
  ·have e:¬p+1<32+b:=λw=>f (.inr (.inl ⟨by exact M8 k1,w⟩));have i:¬p+32<64+c:=λw=>j (.inr (.inr ⟨by exact M9 k1,w⟩));exact .inr (.inl ⟨by exact M! k2 e,by exact M? k2 i⟩)
  have e:¬p+1<64+c:=λw=>f (.inr (.inr ⟨by exact M_ k1,w⟩));exact .inr (.inr ⟨by exact Nb k2 e,by exact Nc k1 k2⟩)
 have d:∀{q:Int},(a<=q/\q<32\/32+b<=q/\q<64\/64+c<=q)->¬(0<=q/\q<a\/32<=q/\q<32+b\/64<=q/\q<64+c):=λ{q} h w=>by obtain h|h|h:=h<;>obtain w|w|w:=w<;>lia
 rintro(⟨rfl,k⟩|⟨rfl,k⟩|⟨rfl,k⟩)
 ·exact aC (.inl ⟨by exact Nf l n k,by exact Ng⟩) (d (.inl ⟨by exact Nh,by exact Ni g⟩)) (d (.inr (.inl ⟨by exact Nj k,by exact Nk g⟩)))
 ·exact aC (.inr (.inl ⟨by exact Nl l k,by exact Nn⟩)) (d (.inr (.inl ⟨by exact Np,by exact Nq m g⟩))) (d (.inr (.inr (Nr k))))
 exact aC (.inr (.inr ⟨by exact Nt k,by exact Nu⟩)) (d (.inr (.inr Nv))) (d (.inr (.inr Nw)))
theorem Af{a b c p:Int}:p∈mI a b c↔(p=a-1/\b<a)\/(p=31+b/\c<b)\/(p=63+c/\0<c):=by
 delta mI;rw[aT,aT];refine or_congr ?_ (or_congr ?_ ?_)
 ·by_cases k:b<a
  ·rw[FB k,aK];exact⟨λe=>⟨e,k⟩,λe=>e.1⟩
  (refine aa (Da k) ?_);exact⟨λe=>GM e aX,λe=>GM e.2 k⟩
 ·by_cases k:c<b
  ·rw[FB k,aK];exact⟨λe=>⟨e,k⟩,λe=>e.1⟩
  (refine aa (Da k) ?_);exact⟨λe=>GM e aX,λe=>GM e.2 k⟩
 by_cases k:0<c
 ·rw[FB k,aK];exact⟨λe=>⟨e,k⟩,λe=>e.1⟩
 (refine aa (Da k) ?_);exact⟨λe=>GM e aX,λe=>GM e.2 k⟩
theorem yt{a b c:Int}(h:Ln a b c):(mI a b c).Nodup:=by obtain⟨i,g,f,e⟩:=h;delta mI;by_cases k1:b<a<;>by_cases k2:c<b<;>by_cases d:0<c<;>simp[k1,k2,d]<;>lia
noncomputable def dec(l:Int×Int×Int)(p:Int):Int×Int×Int:=if p<32 then(l.1-1,l.2.1,l.2.2) else if p<64 then(l.1,l.2.1-1,l.2.2) else(l.1,l.2.1,l.2.2-1)
noncomputable def e7:Nat->Int×Int×Int->Nat
 |0,_=>1
 |n+1,l=>if l.1<=0 then 1 else(if l.2.1<l.1 then e7 n (l.1-1,l.2.1,l.2.2) else 0)+((if l.2.2<l.2.1 then e7 n (l.1,l.2.1-1,l.2.2) else 0)+(if 0<l.2.2 then e7 n (l.1,l.2.1,l.2.2-1) else 0))
theorem t0{x y q:Int}:x<=q/\q<y-1↔(x<=q/\q<y)/\q≠y-1:=by exact Nx
theorem B5{P a A:Prop}{q p:Int}(h:a↔P/\q≠p)(b:A->q≠p):a\/A↔(P\/A)/\q≠p :=⟨λw=>w.elim (λz=>⟨.inl (h.mp z).1,(h.mp z).2⟩) λz=>⟨.inr z,b z⟩,λ⟨w,n⟩=>w.elim (λz=>.inl (h.mpr ⟨z,n⟩)) .inr⟩
theorem vU{P a A:Prop}{q p:Int}(h:a↔P/\q≠p)(b:A->q≠p):A\/a↔(A\/P)/\q≠p :=⟨λw=>w.elim (λz=>⟨.inl z,b z⟩) λz=>⟨.inr (h.mp z).1,(h.mp z).2⟩,λ⟨w,n⟩=>w.elim .inl λz=>.inr (h.mpr ⟨z,n⟩)⟩
theorem GB{a b c p:Int}(h:Ln a b c)(hp:mw a b c p):Ln (dec (a,b,c) p).1 (dec (a,b,c) p).2.1 (dec (a,b,c) p).2.2/\(dec (a,b,c) p).1+(dec (a,b,c) p).2.1+(dec (a,b,c) p).2.2=a+b+c-1 /\
  ∀q,jE (dec (a,b,c) p).1 (dec (a,b,c) p).2.1 (dec (a,b,c) p).2.2 q↔jE a b c q/\q≠p:=by
 have j:=(k? h).mp hp;obtain⟨g,i,f,d⟩:=h;delta dec;obtain⟨e,k⟩|⟨e,k⟩|⟨e,k⟩:=j
 ·refine aa (FB (Ny d e)) ?_
  exact aC ⟨g,i,by exact vC k,by exact AN d⟩ (by show a-1+b+c=_;exact Nz) (λq=>aa e (B5 t0 λw=>by exact NA d w))
 ·refine aa (Da (NB g e k)) ?_;refine aa (FB (NC f d e)) ?_
  exact⟨⟨g,by exact vC k,by exact rN f,d⟩,by exact ND,λq=>by
   refine aa e ?_;refine aa (show 31+b=32+b-1 by exact NE) ?_
   refine vU (B5 (Iff.trans (by rw[wT]) t0) λw=>by exact NF f d w) λw=>by exact NG g d k w⟩
 refine aa (Da (NH e k)) ?_;refine aa (Da (NI e k)) ?_
 exact⟨⟨by exact NJ k,by exact rN i,f,d⟩,by exact NK,λq=>by
  refine aa e ?_;refine aa (show 63+c=64+c-1 by exact NL) ?_
  refine vU (vU (Iff.trans (by rw[wT]) t0) λw=>by have w:32<=q/\q<32+b:=w;exact NM g f d w) λw=>by have w:0<=q/\q<a:=w;lia⟩
theorem W0{a b c:Int}(h:Ln a b c){n:Nat}{W:List Int}(nd:W.Nodup)(i:∀p,p∈W↔mw a b c p)(g:0<a):(W.map λp=>e7 n (dec (a,b,c) p)).sum=e7 (n+1) (a,b,c):=by
 have pm:W.Perm (mI a b c):=(nE nd (yt h)).mpr λp=>by rw[i,k? h,Af]
 refine aa ((pm.map _).sum_nat) ?_
 obtain⟨j,q,f,e⟩:=h;have o:dec (a,b,c) (a-1)=(a-1,b,c):=FB (NN e);have m:b<=a->c<b->dec (a,b,c) (31+b)=(a,b-1,c):=λd d=>by unfold dec;(refine aa (Da (by lia)) ?_;exact aa (FB (NO f e)) rfl)
 have l:0<c->dec (a,b,c) (63+c)=(a,b,c-1):=λd=>by unfold dec;(refine aa (Da (NP j)) ?_;exact aa (Da (by lia)) rfl)
 show _=if a<=0 then 1 else _;refine aa (Da (AR g)) ?_
 refine aa bf ?_;refine aa bf ?_;refine aa l_ ?_;refine aa l_ ?_
 refine congr (congrArg _ ?_) (congr (congrArg _ ?_) ?_)
 ·by_cases k:b<a
  ·(refine aa (FB k) ?_;refine aa (FB k) ?_);show e7 n (dec (a,b,c) (a-1))+0=_;(refine aa o ?_);rfl
  (refine aa (Da k) ?_;refine aa (Da k) ?_);rfl
 ·by_cases k:c<b
  ·(refine aa (FB k) ?_;refine aa (FB k) ?_);show e7 n (dec (a,b,c) (31+b))+0=_;(refine aa (m f k) ?_);rfl
  (refine aa (Da k) ?_;refine aa (Da k) ?_);rfl
 by_cases k:0<c
 ·(refine aa (FB k) ?_;refine aa (FB k) ?_);show e7 n (dec (a,b,c) (63+c))+0=_;(refine aa (l k) ?_);rfl
 (refine aa (Da k) ?_;refine aa (Da k) ?_);rfl
theorem wB{a b c:Int}(h:Ln a b c){W:List Int}(i:∀p,p∈W↔mw a b c p):W=[]↔a=0:=by
 constructor
 ·intro e;by_cases k:a=0
  ·exact k
  obtain⟨g,f,d,j⟩:=h;have:∃p,p∈W:=by
   by_cases k1:b<a
   ·exact⟨a-1,(i _).mpr ((k? ⟨g,f,d,j⟩).mpr (.inl ⟨rfl,k1⟩))⟩
   by_cases k2:c<b
   ·exact⟨_,(i _).mpr ((k? ⟨g,f,d,j⟩).mpr (.inr (.inl ⟨rfl,k2⟩)))⟩
   exact⟨_,(i _).mpr ((k? ⟨g,f,d,j⟩).mpr (.inr (.inr ⟨rfl,by exact NQ k g f d k1 k2⟩)))⟩
  refine oE this λp hp=>?_
  replace hp:=e▸hp;exact GM hp aX
 intro e;refine List.eq_nil_iff_forall_not_mem.mpr λp hp=>?_
 have:=(k? h).mp ((i p).mp hp);obtain⟨g,f,d,j⟩:=h;exact NR e this g f d
theorem Dv(n:Nat){l:Int×Int×Int}(h:l.1<=0):e7 n l=1:=by
 cases n with
 |zero=>rfl
 |succ n=>exact FB h
abbrev L3:=Int×Int×Int
def fN(l:L3)(p:Int):Prop:=jE l.1 l.2.1 l.2.2 p
noncomputable def sz(l:L3):Int:=l.1+l.2.1+l.2.2
structure g3(l0:L3)(h:List Int):Prop where
 ln:Ln (h.foldl dec l0).1 (h.foldl dec l0).2.1 (h.foldl dec l0).2.2
 rem:∀p,fN (h.foldl dec l0) p↔fN l0 p/\p∉h
 nd:h.Nodup
 sub:∀p∈h,fN l0 p
 ord:h.Pairwise λa b=>b≠a+1/\b≠a+32
 len:sz (h.foldl dec l0)+h.length=sz l0
structure mE(l0:L3)(h W:List Int):Prop where
 nd:W.Nodup
 mem:∀p,p∈W↔mw (h.foldl dec l0).1 (h.foldl dec l0).2.1 (h.foldl dec l0).2.2 p
theorem g3.nil{l0:L3}(h:Ln l0.1 l0.2.1 l0.2.2):g3 l0 [] :=⟨h,λp=>⟨λk=>⟨k,aX⟩,λk=>k.1⟩,.nil,λp hp=>GM hp aX,.nil,by exact NS⟩
theorem g3.snoc{l0:L3}(s:Ln l0.1 l0.2.1 l0.2.2){h W:List Int}(H:g3 l0 h)(w:mE l0 h W){p:Int}(hp:p∈W):g3 l0 (h++[p]):=by
 have i:=(w.mem p).mp hp;refine a! (GB H.ln i) λa1 a2 a3=>?_
 have e:(h++[p]).foldl dec l0=dec (h.foldl dec l0) p:=by(refine aa gu ?_);rfl
 have c:=i.1;have g:=(H.rem p).mp c;refine⟨aa e a1,λq=>?_,cQ.mpr ⟨H.nd,of_decide_eq_true rfl,λa d b f k=>g.2 (az (aK.mp f) (az k d))⟩,λq n=>?_,dx.mpr ⟨H.ord,sX _ _,λa d b f=>?_⟩,?_⟩
 ·refine aa e ?_
  have k1:fN (dec (h.foldl dec l0) p) q↔fN (h.foldl dec l0) q/\q≠p:=a3 q;rw[k1,H.rem,aT,aK];exact⟨λk=>⟨k.1.1,λm=>m.elim k.1.2 k.2⟩,λk=>⟨⟨k.1,λm=>k.2 (.inl m)⟩,λm=>k.2 (.inr m)⟩⟩
 ·obtain k|k:=aT.mp n
  ·exact H.sub q k
  (refine aa (aK.mp k) ?_);exact g.1
 ·refine aa (aK.mp f) ?_
  have j:¬fN (h.foldl dec l0) a:=λk=>((H.rem a).mp k).2 d;have l:=H.sub a d;obtain⟨B,x,v,A⟩:=H.ln;obtain⟨z,y,u,t⟩:=s;exact NT c j l x v u t
 refine aa e ?_;refine aa cA ?_
 have r:=H.len;have o:sz (dec (h.foldl dec l0) p)=sz (h.foldl dec l0)-1:=a2;exact NU r o
noncomputable def cnt(l0:L3)(h:List Int):Nat:=e7 ((sz l0).toNat-h.length) (h.foldl dec l0)
structure iJ(l0:L3)(r:List Int):Prop where
 nd:r.Nodup
 all:∀p,p∈r↔fN l0 p
 ord:r.Pairwise λa b=>b≠a+1/\b≠a+32
structure fE(l0:L3)(heads runs:List (List Int)):Prop where
 hs:∀h∈heads,g3 l0 h
 rs:∀r∈runs,iJ l0 r
 sum:(heads.map (cnt l0)).sum+runs.length=e7 (sz l0).toNat l0
noncomputable def mu(l0:L3)(h:List Int):Nat:=4^((sz l0).toNat-h.length)
theorem fE.start{l0:L3}(h:Ln l0.1 l0.2.1 l0.2.2):fE l0 [[]] [] :=⟨λk b=>by(refine aa (aK.mp b) ?_);exact g3.nil h,λr a=>GM a aX,rfl⟩
theorem fE.leaf{l0:L3}{a runs:List (List Int)}{h:List Int}(D:fE l0 (a++[h]) runs)(w:mE l0 h []):fE l0 a (runs++[h]):=by
 have H:=D.hs h (bt _ (.head _));have e:=(wB H.ln w.mem).mp rfl;have d:=H.ln;refine⟨λk f=>D.hs k (b? _ f),λr c=>?_,?_⟩
 ·obtain k|k:=aT.mp c
  ·exact D.rs r k
  refine aa (aK.mp k) ?_
  refine⟨H.nd,λp=>⟨H.sub p,λk=>?_⟩,H.ord⟩;by_cases q:p∈h
  ·exact q
  have:=(H.rem p).mpr ⟨k,q⟩;obtain⟨l,j,i,g⟩:=d;unfold fN jE at this;omega
 have s:=D.sum;have b:cnt l0 h=1:=Dv _ (AS e);rw[bf,l_] at s;have s':=s;refine aa cA ?_
 exact NV b s'
theorem fE.node{l0:L3}(o:Ln l0.1 l0.2.1 l0.2.2){a runs:List (List Int)}{h W:List Int}(D:fE l0 (a++[h]) runs)(w:mE l0 h W)(m:W≠[]):fE l0 (a++W.map λp=>h++[p]) runs:=by
 have H:=D.hs h (bt _ (.head _));have g:0<(h.foldl dec l0).1:=by have:¬(h.foldl dec l0).1=0:=λk=>m ((wB H.ln w.mem).mpr k);obtain⟨d,c,i,r⟩:=H.ln;exact NW this d c i
 refine⟨λk l=>?_,D.rs,?_⟩
 ·obtain q|q:=aT.mp l
  ·exact D.hs k (b? _ q)
  refine ak (bh.mp q) λp hp j=>?_
  obtain rfl:=j;exact H.snoc o w hp
 have s:=D.sum;rw[bf,l_] at s ⊢;have s':=s;have b:=H.len;have hp:0<sz (h.foldl dec l0):=by obtain⟨d,c,i,r⟩:=H.ln;exact NX g d c
 obtain⟨n,f⟩:∃n,(sz l0).toNat-h.length=n+1:=⟨(sz l0).toNat-h.length-1,by exact NY b hp⟩;have k:=W0 H.ln (n:=n) w.nd w.mem g;have e:((W.map λp=>h++[p]).map (cnt l0)).sum=cnt l0 h:=by
  refine aa dW ?_
  delta cnt;refine aa f ?_
  refine Eq.trans (congrArg List.sum (kN λp t=>?_)) k;show e7 ((sz l0).toNat-(h++[p]).length) ((h++[p]).foldl dec l0)=e7 n (dec (h.foldl dec l0) p);refine aa gu ?_;refine aa cA ?_
  have:(sz l0).toNat-(h.length+[p].length)=n:=by exact AT f
  (refine aa this ?_);rfl
 refine aa e ?_
 exact NZ s'
theorem Dq{l0:L3}{h W:List Int}(H:g3 l0 h)(w:mE l0 h W):W.length<=3:=by
 have pm:W.Perm (mI (h.foldl dec l0).1 (h.foldl dec l0).2.1 (h.foldl dec l0).2.2):=(nE w.nd (yt H.ln)).mpr λp=>by rw[w.mem,k? H.ln,Af]
 refine aa pm.length_eq ?_
 refine aa cA ?_;refine aa cA ?_
 have one:∀(P:Prop) [Decidable P] (x:Int),(if P then[x] else[]).length<=1:=λP a x=>by
  by_cases k:P
  ·(refine aa (FB k) ?_);exact bD _
  (refine aa (Da k) ?_);exact kO _
 have a1:=one ((h.foldl dec l0).2.1<(h.foldl dec l0).1) ((h.foldl dec l0).1-1);have a2:=one ((h.foldl dec l0).2.2<(h.foldl dec l0).2.1) (31+(h.foldl dec l0).2.1);have a3:=one (0<(h.foldl dec l0).2.2) (63+(h.foldl dec l0).2.2);exact N0 a1 a2 a3
theorem fE.fin{l0:L3}{runs:List (List Int)}(D:fE l0 [] runs):runs.length=e7 (sz l0).toNat l0:=by have:=D.sum;replace this:=nC▸this;have e:([]:List Nat).sum=0:=rfl;exact N1 this e
theorem tS{x:Int}:∀{r:List Int} {k:Nat},k<=r.length->(∀i (h:i<r.length),i<k->r[i]<=x)->(∀i (h:i<r.length),k<=i->x<r[i]) ->(k=r.length->bump x r=(r++[x],iF))/\∀h:k<r.length,bump x r=(r.set k x,wf r[k])
 |[],k,_,_,_=>⟨λc=>rfl,λh=>GM h (gU _)⟩
 |a::r,0,_,_,h2=>⟨λe=>GM e (Nat.succ_ne_zero _).symm,λc=>c7 (h2 0 (iE _) (bD _))⟩
 |a::r,k+1,hk,h1,h2=>by
  have b:a<=x:=h1 0 (iE _) (iE _);refine oA (tS (x:=x) (r:=r) (k:=k) (s_ hk) (λi h q=>h1 (i+1) (md h) (md q)) (λi h q=>h2 (i+1) (md h) (mc q))) λi1 i2=>⟨λe=>?_,λh=>?_⟩
  ·(refine aa (ch b) ?_;refine aa (i1 (qa e)) ?_);rfl
  (refine aa (ch b) ?_;refine aa (i2 (ma h)) ?_);rfl
theorem Rd.take{S ps:List Int}{p:Int}(h:Rd gg S ps)(hp:p∈S)(c:p∉ps)(a:∀o∈S,o≠p->p/32<=o/32->o%32<=p%32->o∈ps):Rd gg S (ps++[p]) :=h.snoc hp c (λn e b hs=>a n e b hs.1 hs.2) λm d hs=>c (h.gG m d p hp hs)
theorem Rd.nil{S:List Int}:Rd gg S []:=⟨.nil,λp h=>GM h aX,λp h=>GM h aX,.nil⟩
structure jq(m0 m1 m2 m3:Int):Prop where
 h0:0<=m3
 h1:m3<=m2
 h2:m2<=m1
 h3:m1<=m0
 h4:m0<=5
def Num(l:L3)(m0 m1 m2 m3 p:Int):Prop:=(l.1<=p/\p<m0)\/(32+l.2.1<=p/\p<32+m1)\/(64+l.2.2<=p/\p<64+m2)\/(96<=p/\p<96+m3)
noncomputable def stp(a b c d i:Int):Int:=if i<=0 then a else if i<=1 then b else if i<=2 then c else d
theorem four{i:Int}(h:0<=i)(h':i<=3):i=0\/i=1\/i=2\/i=3:=by exact BV h h'
theorem C5{a b c d:Int}(j:b<=a)(e:c<=b)(g:d<=c){i f:Int}(l:0<=i)(h:i<=f)(k:f<=3):stp a b c d f<=stp a b c d i:=by
 obtain q|q|q|q:=four (bo l h) k<;>subst q<;>obtain q|q|q|q:=four l (bo h k)<;>subst q
 ·exact br _
 ·exact GM h (by decide)
 ·exact GM h (by decide)
 ·exact GM h (by decide)
 ·exact j
 ·exact br _
 ·exact GM h (by decide)
 ·exact GM h (by decide)
 ·exact bo e j
 ·exact e
 ·exact br _
 ·exact GM h (by decide)
 ·exact bo g (bo e j)
 ·exact bo g e
 ·exact g
 exact br _
theorem pH{lo m K k i j x y:Int}(f:K=32*k)(g:0<=lo)(d:m<=32)(e:0<=j)(a:j<32)(c:x=K+lo)(b:y=K+m):x<=32*i+j/\32*i+j<y↔i=k/\lo<=j/\j<m:=by subst f c b;exact N2 g d e a
theorem CB{i:Int}{P0 P1 P2 P3:Prop}{P:Int->Prop}(e0:P 0↔P0)(d:P 1↔P1)(c:P 2↔P2)(b:P 3↔P3):(i=0/\P0)\/(i=1/\P1)\/(i=2/\P2)\/(i=3/\P3)↔(0<=i/\i<=3)/\P i:=by
 constructor
 ·rintro(⟨rfl,h⟩|⟨rfl,h⟩|⟨rfl,h⟩|⟨rfl,h⟩)
  ·exact⟨⟨by decide,by decide⟩,e0.mpr h⟩
  ·exact⟨⟨by decide,by decide⟩,d.mpr h⟩
  ·exact⟨⟨by decide,by decide⟩,c.mpr h⟩
  exact⟨⟨by decide,by decide⟩,b.mpr h⟩
 intro a;obtain⟨⟨f,e⟩,h⟩:=a;obtain q|q|q|q:=four f e<;>subst q
 ·exact .inl ⟨rfl,e0.mp h⟩
 ·exact .inr (.inl ⟨rfl,d.mp h⟩)
 ·exact .inr (.inr (.inl ⟨rfl,c.mp h⟩))
 exact .inr (.inr (.inr ⟨rfl,b.mp h⟩))
theorem Ad{i j:Int}(d:0<=i)(c:i<=3)(b:0<=j)(a:j<5):32*i+j∈e?:=by
 refine bh.mpr ⟨(i,j),List.mem_flatMap.mpr (ar i ?_ (bh.mpr (ar j ?_ rfl))),rfl⟩
 ·obtain q|q|q|q:=four d c<;>subst q<;>decide
 have:j=0\/j=1\/j=2\/j=3\/j=4:=by exact N4 b a
 obtain q|q|q|q|q:=this<;>subst q<;>decide
theorem tP(p:Int):32*(p/32)+p%32=p/\0<=p%32/\p%32<32:=by exact N5
section
variable{l:L3}{m0 m1 m2 m3:Int}{S r:List Int}
theorem mN(h:Ln l.1 l.2.1 l.2.2){i j:Int}(b:0<=j)(a:j<32):fN l (32*i+j)↔(0<=i/\i<=3)/\j<stp l.1 l.2.1 l.2.2 0 i:=by
 obtain⟨s,p,d,c⟩:=h;rw[<-CB (P:=λi=>j<stp l.1 l.2.1 l.2.2 0 i) (P0:=j<l.1) (P1:=j<l.2.1) (P2:=j<l.2.2) (P3:=j<0) kK kK kK kK];have e:∀{K k m x y:Int},K=32*k->m<=3->x=K+0->y=K+m->(x<=32*i+j/\32*i+j<y↔i=k/\j<m):=λo n g f=>(pH o (br 0) (vI n) b a g f).trans (and_congr_right λr=>and_iff_right b);refine(or_congr (e (K:=0) (k:=0) rfl c rfl (pX _).symm) (or_congr (e (K:=32) (k:=1) rfl (bo d c) rfl rfl) (e (K:=64) (k:=2) rfl (bo p (bo d c)) rfl rfl))).trans ?_
 exact or_congr_right (or_congr_right ⟨.inl,λq=>q.resolve_right λw=>GM w.2 (eD.mpr b)⟩)
theorem lB(h:Ln l.1 l.2.1 l.2.2)(m:jq m0 m1 m2 m3){i j:Int}(b:0<=j)(a:j<32):Num l m0 m1 m2 m3 (32*i+j)↔(0<=i/\i<=3)/\stp l.1 l.2.1 l.2.2 0 i<=j/\j<stp m0 m1 m2 m3 i:=by obtain⟨e,g,o,p⟩:=h;obtain⟨d0,n,f,d,c⟩:=m;rw[<-CB (P:=λi=>stp l.1 l.2.1 l.2.2 0 i<=j/\j<stp m0 m1 m2 m3 i) (P0:=l.1<=j/\j<m0) (P1:=l.2.1<=j/\j<m1) (P2:=l.2.2<=j/\j<m2) (P3:=0<=j/\j<m3) kK kK kK kK];refine or_congr (pH (K:=0) (k:=0) rfl (vJ e g o) (AU c) b a (pX _).symm (pX _).symm) (or_congr (pH (K:=32) (k:=1) rfl (vK e g) (AW d c) b a rfl rfl) (or_congr (pH (K:=64) (k:=2) rfl e (AX f d c) b a rfl rfl) (pH (K:=96) (k:=3) rfl (br 0) (AY n f d c) b a rfl rfl)))
theorem u'(h:Ln l.1 l.2.1 l.2.2){i a:Int}(c:0<=i)(hi:i<=a)(b:a<=3):stp l.1 l.2.1 l.2.2 0 a<=stp l.1 l.2.1 l.2.2 0 i:=C5 h.ba h.cb h.c0 c hi b
theorem u9(m:jq m0 m1 m2 m3){i a:Int}(c:0<=i)(hi:i<=a)(b:a<=3):stp m0 m1 m2 m3 a<=stp m0 m1 m2 m3 i:=C5 m.h3 m.h2 m.h1 c hi b
theorem iJ.gG(a:Ln l.1 l.2.1 l.2.2)(R:iJ l r):dC (dN r):=λi j n m h a1 a2 e d=>by
 refine a! h λk1 k2 g=>?_
 obtain⟨⟨k,b⟩,f⟩:=(mN a k1 k2).mp ((R.all _).mp g);have c:=fq d k2;exact aC e c ((R.all _).mpr ((mN a e c).mpr ⟨⟨a1,bo a2 b⟩,fq d (dF f (u' a a1 a2 b))⟩))
theorem iJ.zF(b:Ln l.1 l.2.1 l.2.2)(R:iJ l r):∀p∈r,p∈e?:=λp hp=>by
 refine a! (tP p) λe f i=>?_
 have k:=(R.all p).mp hp;rw[<-e] at k ⊢;refine oA ((mN b f i).mp k) λa g=>(oA a λd c=>?_);have:=u' b (br 0) d c;have h:=b.a3;exact Ad d c f (N6 g this h)
theorem LK(h:Ln l.1 l.2.1 l.2.2)(m:jq m0 m1 m2 m3)(g:∀p,p∈S↔Num l m0 m1 m2 m3 p):∀p∈S,p∈e?:=λp hp=>by
 refine a! (tP p) λe d j=>?_
 have k:=(g p).mp hp;rw[<-e] at k ⊢;refine a! ((lB h m d j).mp k) λa n f=>(oA a λc b=>?_);have:=u9 m (br 0) c b;have i:=m.h4;exact Ad c b d (N7 f this i)
theorem LH(h:Ln l.1 l.2.1 l.2.2)(m:jq m0 m1 m2 m3)(d:∀p,p∈S↔Num l m0 m1 m2 m3 p)(R:iJ l r):∀p∈r,p∉S:=λp hp c=>by
 refine a! (tP p) λe b a=>?_
 have k1:=(R.all p).mp hp;have k2:=(d p).mp c;rw[<-e] at k1 k2;exact eD.mpr ((lB h m b a).mp k2).2.1 ((mN h b a).mp k1).2
theorem LG(h:Ln l.1 l.2.1 l.2.2)(m:jq m0 m1 m2 m3)(g:∀p,p∈S↔Num l m0 m1 m2 m3 p):Conv (dN S):=λi j E D a b y x a1 a2 q o=>by refine a! y λk1 k2 w=>(a! x λv k u=>?_);refine a! ((lB h m k1 k2).mp ((g _).mp w)) λd t B=>(oA d λf C=>?_);refine a! ((lB h m v k).mp ((g _).mp u)) λc z s=>(oA c λA e=>?_);have r:0<=b:=bo k1 q;have n:b<32:=fq o k;exact aC r n ((g _).mpr ((lB h m r n).mpr (aC ⟨bo f a1,bo a2 e⟩ (bo (u' h f a1 (bo a2 e)) (bo t q)) (fq o (dF s (u9 m (bo f a1) a2 e))))))
theorem LJ(h:Ln l.1 l.2.1 l.2.2)(m:jq m0 m1 m2 m3)(x:∀p,p∈S↔Num l m0 m1 m2 m3 p)(R:iJ l r)(k1:l.1<=m0)(k2:l.2.1<=m1)(A:l.2.2<=m2):dC λi j=>dN r i j\/dN S i j:=λi j u w C a1 a2 f v=>by
 have z:∀{i},0<=i->i<=3->stp l.1 l.2.1 l.2.2 0 i<=stp m0 m1 m2 m3 i:=λD B=>by
  obtain q|q|q|q:=four D B<;>subst q
  ·exact k1
  ·exact k2
  ·exact A
  exact m.h0
 have t:w<32/\(0<=i/\i<=3)/\j<stp m0 m1 m2 m3 i:=by
  refine cg C (λg=>a! g λs a o=>?_) (λg=>a! g λs a o=>?_)
  ·refine oA ((mN h s a).mp ((R.all _).mp o)) λd k=>?_
   obtain⟨n,e⟩:=d;exact aC (fq v a) ⟨n,e⟩ (dF k (z n e))
  refine a! ((lB h m s a).mp ((x _).mp o)) λq E y=>?_
  exact aC (fq v a) q y
 refine a! t λa b k=>?_
 obtain⟨n,e⟩:=b;have hi:0<=u/\u<=3:=⟨a1,bo a2 e⟩;by_cases c:w<stp l.1 l.2.1 l.2.2 0 u
 ·exact .inl (aC f a ((R.all _).mpr ((mN h f a).mpr ⟨hi,c⟩)))
 exact .inr (aC f a ((x _).mpr ((lB h m f a).mpr (aC hi (eD.mp c) (fq v (dF k (u9 m a1 a2 e)))))))
end
theorem WB{f:bz}(g:Conv λi j=>(f i j).isSome=true)(d:∀i j u v,f i j=wf u->f i (j+1)=wf v->u<=v):∀(n:Nat) (i j:Int) (u v:Int),f i j=wf u->f i (j+n)=wf v->u<=v:=by
 intro l0;induction l0 with
 |zero =>intro i j u v e a;rw[show j+((0:Nat):Int)=j by exact N8,e] at a;exact pW (ax a)
 |succ n c =>intro i j u v e a;obtain⟨w,b⟩:=j0.mp (g i j i (j+((n+1:Nat):Int)) i (j+n) (show(f i j).isSome=true by(refine aa e ?_);rfl) (show(f i (j+((n+1:Nat):Int))).isSome=true by(refine aa a ?_);rfl) (br _) (br _) N9 N');have h:=c i j u w e b;rw[show j+((n+1:Nat):Int)=j+n+1 by exact N!] at a;exact bo h (d i (j+n) w v b a)
theorem WD{f:bz}(g:Conv λi j=>(f i j).isSome=true)(c:∀i j u v,f i j=wf u->f (i+1) j=wf v->u<v):∀(n:Nat) (i j:Int) (u v:Int),f i j=wf u->f (i+n+1) j=wf v->u<v:=by
 intro l0;induction l0 with
 |zero =>intro i j u v e a;rw[show i+((0:Nat):Int)+1=i+1 by exact N?] at a;exact c i j u v e a
 |succ n d =>intro i j u v e a;obtain⟨w,b⟩:=j0.mp (g i j (i+((n+1:Nat):Int)+1) j (i+n+1) j (show(f i j).isSome=true by(refine aa e ?_);rfl) (show(f (i+((n+1:Nat):Int)+1) j).isSome=true by(refine aa a ?_);rfl) N_ Oa (br _) (br _));have h:=d i j u w e b;rw[show i+((n+1:Nat):Int)+1=i+n+1+1 by exact Ob] at a;exact wX h (c (i+n+1) j w v b a)
theorem WE{f:bz}(d:Conv λi j=>(f i j).isSome=true)(h:∀i j u v,f i j=wf u->f i (j+1)=wf v->u<=v)(g:∀i j u v,f i j=wf u->f (i+1) j=wf v->u<v):Tab f:=by
 refine⟨λi j a u v k e c=>?_,λi b j u v hi e c=>?_⟩
 ·refine WB d h (a-j).toNat i j u v e ?_
  (refine aa (show j+((a-j).toNat:Int)=a by exact Oc k) ?_);exact c
 refine WD d g (b-i-1).toNat i j u v e ?_
 (refine aa (show i+((b-i-1).toNat:Int)+1=b by exact Od hi) ?_);exact c
theorem WF{S:List Int}{T:Int->Int}(n:Conv (dN S))(m:∀p∈S,p-1∈S->T (p-1)<=T p)(l:∀p∈S,p-32∈S->T (p-32)<T p):Tab (b! S T):=by
 have val:∀i j u,b! S T i j=wf u->32*i+j∈S/\u=T (32*i+j):=λi j u e=>by
  unfold b! at e;by_cases k:0<=j/\j<32/\32*i+j∈S
  ·rw[FB k] at e;exact⟨k.2.2,(ax e).symm⟩
  rw[Da k] at e;injection e
 refine WE (λi j h g a b r o a1 a2 t s=>kh.mpr (n i j h g a b (kh.mp r) (kh.mp o) a1 a2 t s)) (λi j u v e f=>?_) (λi j u v e f=>?_)
 ·obtain⟨k1,k2⟩:=val i j u e;refine oA (val i (j+1) v f) λd c=>?_
  have q:32*i+(j+1)-1=32*i+j:=by exact Oe
  have:=m _ d (by(refine aa q ?_);exact k1);rw[q] at this;(refine aa k2 ?_;refine aa c ?_);exact this
 obtain⟨k1,k2⟩:=val i j u e;refine oA (val (i+1) j v f) λd c=>?_
 have q:32*(i+1)+j-32=32*i+j:=by exact Of
 have:=l _ d (aa q k1);rw[q] at this;(refine aa k2 ?_;refine aa c ?_);exact this
theorem WZ{l0:L3}{h W:List Int}(H:g3 l0 h)(nd:W.Nodup)(i:∀p,p∈W↔fN l0 p/\p∉h/\(fN l0 (p+1)->p+1∈h)/\(fN l0 (p+32)->p+32∈h)):mE l0 h W:=by
 refine⟨nd,λp=>?_⟩;have r:∀q,jE (h.foldl dec l0).1 (h.foldl dec l0).2.1 (h.foldl dec l0).2.2 q↔fN l0 q/\q∉h:=H.rem;delta mw;rw[i,r,r,r];constructor
 ·intro c;refine f7 c λg f e d=>?_
  exact aC ⟨g,f⟩ (λk=>k.2 (e k.1)) (λk=>k.2 (d k.1))
 intro b;refine a! b λa e d=>(oA a λg f=>?_);refine cL g f (λk=>?_) (λk=>?_)
 ·by_cases q:p+1∈h
  ·exact q
  exact GM ⟨k,q⟩ e
 by_cases q:p+32∈h
 ·exact q
 exact GM ⟨k,q⟩ d
theorem Vb{R:List Int}{rest:List (List Int)}{x:Int}{k:Nat}(a:k<=R.length)(c:∀i (h:i<R.length),i<k->R[i]<=x)(b:∀i (h:i<R.length),k<=i->x<R[i])(e:k=R.length):put (R::rest) x=(R++[x])::rest:=by(refine aa d7 ?_;refine aa ((tS a c b).1 e) ?_);rfl
theorem Vd{R:List Int}{rest:List (List Int)}{x:Int}{k:Nat}(a:k<=R.length)(c:∀i (h:i<R.length),i<k->R[i]<=x)(b:∀i (h:i<R.length),k<=i->x<R[i])(e:k<R.length):put (R::rest) x=R.set k x::put rest R[k]:=by(refine aa d7 ?_;refine aa ((tS a c b).2 e) ?_);rfl
theorem Va{x:Int}:put [] x=[[x]]:=rfl
theorem uf{S:List Int}{T:Int->Int}(p:Int):b! S T ((pl p).1+1) (pl p).2=if p+32∈S then wf (T (p+32)) else iF:=by
 have e:32*(p/32+1)+p%32=p+32:=by exact Og
 show(if 0<=p%32/\p%32<32/\32*(p/32+1)+p%32∈S then wf (T (32*(p/32+1)+p%32)) else iF)=_;refine aa e ?_
 by_cases k:p+32∈S
 ·refine aa (FB (aC ph rM k)) ?_;exact aa (FB k) rfl
 refine aa (Da (λw=>k w.2.2)) ?_;exact aa (Da k) rfl
theorem ug{S:List Int}{T:Int->Int}{p:Int}(h:p%32<31):b! S T (pl p).1 ((pl p).2+1)=if p+1∈S then wf (T (p+1)) else iF:=by
 have e:32*(p/32)+(p%32+1)=p+1:=by exact Oh
 show(if 0<=p%32+1/\p%32+1<32/\32*(p/32)+(p%32+1)∈S then wf (T (32*(p/32)+(p%32+1))) else iF)=_;refine aa e ?_
 by_cases k:p+1∈S
 ·refine aa (FB (aC Oi (Oj h) k)) ?_;exact aa (FB k) rfl
 refine aa (Da (λw=>k w.2.2)) ?_;exact aa (Da k) rfl
theorem U2(p:Int):pl (p+32)=((pl p).1+1,(pl p).2):=eR Ol Om
theorem U4{p:Int}(h:p%32<31):pl (p+1)=((pl p).1,(pl p).2+1):=eR (On h) (Oo h)
theorem Hc{S S':List Int}{T T':Int->Int}{p m:Int}(h:m∈S)(hp:p∉S)(d:∀q,q∈S'↔(q∈S/\q≠m)\/q=p)(n:T' p=T m)(l:∀q∈S,q≠m->T' q=T q):b! S' T'=gJ (b! S T) (pl p) (pl m) (T m):=by
 have f:m≠p:=λe=>hp (e▸h);funext i j;unfold gJ b!;by_cases a:i=(pl p).1/\j=(pl p).2
 ·have a1:=a.1;have a2:=a.2;have e:32*i+j=p:=by exact A5 a1 a2
  refine aa (FB a) ?_;refine aa e ?_;refine aa (FB ⟨by exact Op a2,by exact Oq a2,(d p).mpr (.inr rfl)⟩) ?_;exact aa n rfl
 refine aa (Da a) ?_
 by_cases b:i=(pl m).1/\j=(pl m).2
 ·have r:=b.1;have o:=b.2;have e:32*i+j=m:=by exact A5 r o
  refine aa (FB b) ?_;refine aa e ?_;exact aa (Da λw=>((d m).mp w.2.2).elim (λk=>k.2 rfl) f) rfl
 refine aa (Da b) ?_
 by_cases c:0<=j/\j<32
 ·have np:=λe=>a ⟨by exact A6 c e,by exact A7 c e⟩;have g:=λe=>b ⟨by exact A6 c e,by exact A7 c e⟩;by_cases k:32*i+j∈S
  ·refine aa (FB ⟨c.1,c.2,(d _).mpr (.inl ⟨k,g⟩)⟩) ?_;refine aa (FB ⟨c.1,c.2,k⟩) ?_;exact aa (l _ k g) rfl
  refine aa (Da (λw=>((d _).mp w.2.2).elim (λz=>k z.1) np)) ?_;exact aa (Da (λw=>k w.2.2)) rfl
 refine aa (Da (λw=>c ⟨w.1,w.2.1⟩)) ?_;exact aa (Da (λw=>c ⟨w.1,w.2.1⟩)) rfl
theorem V_{S:List Int}{T:Int->Int}{p:Int}(hp:p%32<31)(h:p+32∈S)(h':p+1∈S->T (p+32)<=T (p+1))(n:Nat):cr (n+1) (b! S T) (pl p)=cr n (gJ (b! S T) (pl p) (pl (p+32)) (T (p+32))) (pl (p+32)):=by
 rw[U2];refine CR (by rw[uf,FB h]) (λy e=>?_) n;replace e:=(ug hp)▸e;by_cases k:p+1∈S
 ·rw[FB k] at e;(refine az (ax e) ?_);exact h' k
 rw[Da k] at e;injection e
theorem Wb{S:List Int}{T:Int->Int}{p:Int}(hp:p%32<31)(h:p+1∈S)(h':p+32∈S->T (p+1)<T (p+32))(n:Nat):cr (n+1) (b! S T) (pl p)=cr n (gJ (b! S T) (pl p) (pl (p+1)) (T (p+1))) (pl (p+1)):=by
 refine aa (U4 hp) ?_
 refine CP (by(refine aa (ug hp) ?_;exact aa (FB h) rfl)) (λy e=>?_) n;rw[uf] at e;by_cases k:p+32∈S
 ·rw[FB k] at e;(refine az (ax e) ?_);exact h' k
 rw[Da k] at e;injection e
theorem Wa{S:List Int}{T:Int->Int}{p:Int}(hp:p%32<31)(h:p+32∉S)(h':p+1∉S)(n:Nat):cr n (b! S T) (pl p)=(b! S T,pl p) :=se (by rw[uf,Da h]) (by(refine aa (ug hp) ?_;exact aa (Da h') rfl)) n
noncomputable def fm(l:L3):Nat:=e7 (sz l).toNat l
theorem W5{l:L3}(h:l.1<=0):fm l=1:=Dv _ h
theorem W4{a b c:Int}(h:Ln a b c)(e:0<a):fm (a,b,c)=(if b<a then fm (a-1,b,c) else 0)+((if c<b then fm (a,b-1,c) else 0)+(if 0<c then fm (a,b,c-1) else 0)):=by
 obtain⟨g,f,m,l⟩:=h;obtain⟨n,d⟩:∃n:Nat,a+b+c=n+1:=⟨(a+b+c-1).toNat,by exact Ou e g f⟩;have e0:(sz (a,b,c)).toNat=n+1:=by show(a+b+c).toNat=n+1;exact Ov d
 have k:(sz (a-1,b,c)).toNat=n:=by show(a-1+b+c).toNat=n;exact Ow d
 have j:(sz (a,b-1,c)).toNat=n:=by show(a+(b-1)+c).toNat=n;exact Ox d
 have i:(sz (a,b,c-1)).toNat=n:=by show(a+b+(c-1)).toNat=n;exact Oy d
 delta fm;refine aa e0 ?_;refine aa k ?_;refine aa j ?_;refine aa i ?_
 exact Da (AR e)
theorem W3{a b c:Int}(h:Ln a b c)(d:0<a):(((if b<a then[(fm (a-1,b,c):Int)] else[])++((if c<b then[(fm (a,b-1,c):Int)] else[])++(if 0<c then[(fm (a,b,c-1):Int)] else[]))).sum)=(fm (a,b,c):Int):=by
 refine aa (W4 h d) ?_;refine aa l_ ?_;refine aa l_ ?_
 have s:∀(P:Prop) [Decidable P] (n:Nat),(if P then[(n:Int)] else[]).sum=((if P then n else 0:Nat):Int):=λP e n=>by
  by_cases k:P
  ·(refine aa (FB k) ?_;refine aa (FB k) ?_);exact Oz
  (refine aa (Da k) ?_;refine aa (Da k) ?_);rfl
 rw[s,s,s];exact OA
theorem fE.count{l0:L3}{runs:List (List Int)}(D:fE l0 [] runs):(runs.length:Int)=fm l0:=congrArg _ D.fin
noncomputable def eX(k:Int):List Int->List (Int×Int)
 |[]=>[]
 |x::xs=>(k,x)::eX (k+1) xs
noncomputable def pairs(r:Int):List (List Int)->List (Int×Int)
 |[]=>[]
 |R::rest=>eX (32*r) R++pairs (r+1) rest
theorem Ai:∀{R:List Int} {k p x:Int},(p,x)∈eX k R↔∃i:Nat,R[i]?=wf x/\p=k+i:=by
 intro l0;induction l0 with
 |nil =>intro k p x;exact⟨λh=>GM h aX,λ⟨i,h,_⟩=>by injection h⟩
 |cons a R c =>
  intro k p x;show(p,x)∈(k,a)::eX (k+1) R↔_;rw[aW,c];constructor
  ·rintro(e|⟨i,h,e⟩)
   ·exact ar 0 (by(refine aa ((eG e).2) ?_);rfl) (by have:=(eG e).1;exact OB this)
   exact ar (i+1) h (OC e)
  intro b;refine ak b λi h e=>?_
  cases i with
  |zero =>have h':wf a=wf x:=h;exact .inl (aa (ax h') (eR (OD e) rfl))
  |succ i=>exact .inr (ar i h (OF e))
theorem K3:∀{rows:List (List Int)} {r p x:Int},(p,x)∈pairs r rows↔∃i j:Nat,((rows[i]?).bind λR=>R[j]?)=wf x/\p=32*(r+i)+j:=by
 intro l0;induction l0 with
 |nil =>intro r p x;exact⟨λh=>GM h aX,λ⟨i,j,h,_⟩=>by injection h⟩
 |cons R rest b =>
  intro r p x;show(p,x)∈eX (32*r) R++pairs (r+1) rest↔_;rw[aT,Ai,b];constructor
  ·rintro(⟨j,h,e⟩|⟨i,j,h,e⟩)
   ·exact a_ 0 j h (OG e)
   exact a_ (i+1) j h (OH e)
  intro a;refine aV a λi j h e=>?_
  cases i with
  |zero=>exact .inl (ar j h (OI e))
  |succ i=>exact .inr (a_ i j h (OJ e))
theorem UZ{rows:List (List Int)}(c:∀R∈rows,R.length<=32){p x:Int}:(p,x)∈pairs 0 rows↔sr rows (p/32) (p%32)=wf x:=by
 rw[K3];delta sr;constructor
 ·intro a;refine aV a λi j h e=>?_
  have b:j<32:=by
   refine ak (xB.mp h) λR g f=>?_
   have:=c R (en g);refine oE (dG.mp f) λd n=>?_
   exact OK this d
  have m:(p/32).toNat=i:=by exact OL e b
  have l:(p%32).toNat=j:=by exact OM e b
  refine aa (FB ⟨by exact ON e,by exact ph⟩) ?_;refine aa m ?_;refine aa l ?_
  exact h
 intro h;by_cases k:0<=p/32/\0<=p%32
 ·rw[FB k] at h;exact a_ ((p/32).toNat) ((p%32).toNat) h (OO k)
 rw[Da k] at h;injection h
theorem KJ{a b c m0 m1 m2 m3:Int}(h:0<=c)(i:c<=b)(j:b<=a)(k:a<=3)(d:1<=m3)(e:m3<=m2)(f:m2<=m1)(g:m1<=m0)(l:m0<=5) :
  Ln (min a m0) (min b m1) (min c m2)/\jq m0 m1 m2 m3/\min a m0<=m0/\min b m1<=m1/\min c m2<=m2/\min 0 m3=0 :=
 ⟨⟨by exact OP h d e,by exact A9 i f,by exact A9 j g,by exact OQ k⟩,⟨by exact OR d,e,f,g,l⟩,by exact vM,by exact vM,by exact vM,by exact OS d⟩
theorem HD{l:L3}{G:List Int}(h:Ln l.1 l.2.1 l.2.2)(d:∀p,p∈G↔∃r c:Int,0<=c/\((r=0/\c<l.1)\/(r=1/\c<l.2.1)\/(r=2/\c<l.2.2))/\p=32*r+c):∀p,p∈G↔fN l p:=λp=>by
 obtain⟨i,g,f,e⟩:=h;rw[d];constructor
 ·intro a;refine dP a λr c k1 k2 b=>?_
  exact OT k1 k2 b
 intro k;obtain k|k|k:=k
 ·exact cj 0 p (OU k) (.inl ⟨rfl,by exact OV k⟩) OW
 ·exact cj 1 (p-32) (OY k) (.inr (.inl ⟨rfl,by exact OZ k⟩)) O0
 exact cj 2 (p-64) (O1 k) (.inr (.inr ⟨rfl,by exact O2 k⟩)) O3
end aq
open PySem PySem.W PySem.Calls PyProof.Rows PyProof.V PySem.Spec
noncomputable def gN(i:Nat):Stmt:=PySem.Challenge.pw_dn0038_07.main.body.getD i (.Pass ⟨0,0,0,0⟩)
noncomputable def pF:jf:={ PySem.Challenge.pw_dn0038_07 with main:={ PySem.Challenge.pw_dn0038_07.main with body:=[gN 0,gN 5,gN 6,gN 7,gN 8,gN 9,gN 11,gN 12,gN 13,gN 14,gN 15,gN 16,gN 17] } }
 abbrev jL:OpenRow:=PySem.Challenge.rw_dn0038_07.row
theorem CJ:PySem.Challenge.rw_dn0038_07.wellSaid=true:=by
 iterate 37 (refine look_both ?_ (by kernel_rfl))
 kernel_rfl
theorem Je{d:DefRec}{a:List (Str×Expr)}(H:Hook)(c:jL.toRowW.promised)(i:WalkO pF ["insort_right","bisect_right","_NodeInfo"] (XL pF []) (Hook.says H) jL.toRowW d a λf vs=>PySem.call f vs)(g:autoParam (LeftO jL.prog pF ["insort_right","bisect_right","_NodeInfo"] (λs=>xlAt pF [] s&&recOk (RowW.records jL.toRowW) s) (Hook.obs H) (Hook.val H) 2786) Fx)(b:autoParam (defOf pF jL.name=wf (d,a)) cN)(hp:autoParam (jL.prog.theDef jL.name=wf (d.params,d.body,d.scope)) cN)(h:autoParam (kwWritten? d.params.kwonlyargs d.params.kw_defaults=wf a) cN):jL.Holds :=
 holds_open g (Hook.of H) (Hook.keeps H) (λs e=>xl_of s (DL.mp e).1) XL.keeps b hp h (λs e=>recFacts_of (DL.mp e).2) (by rfl) (row_said CJ) (by decide +kernel) ⟨rfl,rfl,rfl,rfl,rfl,by decide +kernel⟩ c i
theorem Jh(h:jL.Holds):PySem.Challenge.rw_dn0038_07.Holds:=holds_law CJ λzz=>h
local macro_rules | `(tactic| o_law)=>`(tactic| apply Jh)
local macro_rules | `(tactic| o_head $H)=>`(tactic| refine Je $H ?hw ?hc)
open_top hd07 for PySem.Challenge.rw_dn0038_07
#print axioms hd07

section
inductive AV where
 |none
 |bool (b:Bool)
 |int (i:Int)
 |str (s:Str)
 |ref (a:Addr)
 |raw (v:ab)
noncomputable def abs:ab->AV
 |.none=>.none
 |.bool b=>.bool b
 |.int i _=>.int i
 |.str s _=>.str s
 |.ref a=>.ref a
 |v=>.raw v
def mF:AV->ab->Prop
 |.none,v=>v=.none
 |.bool b,v=>v=.bool b
 |.int i,v=>∃t,v=.int i t
 |.str s,v=>∃t,v=.str s t
 |.ref a,v=>v=.ref a
 |.raw _,_=>True
theorem oo(v:ab):mF (abs v) v:=by cases v<;>first|exact rfl|exact⟨_,rfl⟩|exact trivial
theorem x7{v:ab}(h:abs v=.none):v=.none:=(h▸oo v:mF .none v)
theorem E!{v:ab}{b:Bool}(h:abs v=.bool b):v=.bool b:=(h▸oo v:mF (.bool b) v)
theorem eM{v:ab}{i:Int}(h:abs v=.int i):∃t,v=.int i t:=(h▸oo v:mF (.int i) v)
theorem tI{v:ab}{i:Str}(h:abs v=.str i):∃t,v=.str i t:=(h▸oo v:mF (.str i) v)
theorem ed{v:ab}{a:Addr}(h:abs v=.ref a):v=.ref a:=(h▸oo v:mF (.ref a) v)
inductive AO where
 |list (xs:List AV)
 |tuple (xs:List AV)
 |dict (es:List (Int×AV)) (ep:Nat)
 |inst (C d:Addr) (sl:List (Option AV))
 |attrs (es:List (Str×AV))
 |cell (v:Option AV)
 |ns (r:Str->Option AV)
 |Ky (l:Addr) (i:Nat)
 |Vp (a n:Int)
 |obj (P:Obj->Prop)
 |lam (name qual:Str) (params:gQ) (body:Expr) (scope:bS) (cl:List (Str×Addr)) (c':Addr)
 |enum (it l:Addr) (i:Nat)
 |zip (own:Option Addr) (TI TO i1 i2 l1 l2:Addr) (i:Nat)
noncomputable def fc(q:Str):AO:=.obj λo=>∃vs t,o.data=.fields vs/\vs[1]?=wf (.str q t)
noncomputable def c9(l:Addr)(i:Nat):AO:=.obj λo=>o.cls=.type "list_iterator"/\o.data=.fields #[.ref l,.int i 0]
noncomputable def UY:AO:=.obj λo=>∃a b,o={ cls:=.type "tuple",data:=.seq #[a,b] }
noncomputable def AO.links:AO->List (Addr×AO)
 |.lam _ q _ _ _ _ c'=>[(c',fc q)]
 |.enum it l i=>[(it,c9 l i)]
 |.zip _ TI TO i1 i2 l1 l2 i=>[(TI,.obj λo=>o={ cls:=.type "tuple",data:=.seq #[.ref i1,.ref i2] }),(TO,UY),(i1,c9 l1 i),(i2,c9 l2 i)]
 |_=>[]
def xR(es:List (Int×AV))(ep:Nat)(o:Obj):Prop :=
 ∃(ds:Array sD) (kvs:List (Int×ab)),o.ExactDict/\o.data=.dict ds ep/\(∀p w,KeysOf (fR p w) ds)/\(∀p w,Pairs (fR p w) ds.toList kvs)/\(kvs.map (·.1)).Nodup/\kvs.map (λp=>(p.1,abs p.2))=es
def AO.Is:AO->Obj->Prop
 |.list xs,o=>∃(vs:List ab) (n:Nat),o=listOf vs.toArray n/\vs.map abs=xs
 |.tuple xs,o=>∃(vs:List ab) (n:Nat),o={ cls:=.type "tuple",data:=.seq vs.toArray n }/\vs.map abs=xs
 |.dict es ep,o=>xR es ep o
 |.inst C d sl,o=>∃vs:Array (Option ab),o=⟨.ref C,wf d,.plain,vs⟩/\vs.toList.map (xC abs)=sl
 |.attrs es,o=>∃ds n,o=dictOf ds n/\ds.map (λe=>(abs e.key,abs e.val))=es.map (λp=>(AV.str p.1,p.2))
 |.cell v,o=>∃v',o.data=.cell v'/\v'.map abs=v
 |.ns r,o=>∃es ep,o.data=.dict es ep/\StrKeys es/\∀x av,r x=wf av->∃v,nsFind es x=wf v/\abs v=av
 |.Ky l i,o=>o.cls=.type "list_iterator"/\o.data=.fields #[.ref l,.int i 0]
 |.Vp _ _,_=>True
 |.obj P,o=>P o
 |.lam name qual params body scope cl c',o=>∃pm cC,o=qh name qual params body scope cl pm c' cC
 |.enum it _ i,o=>∃old,o={ cls:=.type "enumerate",data:=.fields #[.none,.bool false,.ref it,eK i,.none,old] }
 |.zip own TI TO _ _ _ _ _,o=>∃g:ab,o={ cls:=.type "zip",data:=.fields #[match own with|some a=>eK a|none=>.none,g,.bool false,.ref TI,.ref TO] }/\(own=iF->g=.bool false)
noncomputable def i9(ps:Array ab):AO:=.obj λo=>o=d? ps
set_option genSizeOf false
set_option genSizeOfSpec false
set_option genInjectivity false
abbrev af:=Addr->Option AO
noncomputable def upd(H:af)(a:Addr)(o:AO):af:=λb=>if b=a then wf o else H b
noncomputable def del(H:af)(a:Addr):af:=λb=>if b=a then iF else H b
@[simp] theorem am(H:af)(a:Addr)(o:AO):upd H a o a=wf o:=FB rfl
theorem aj{H:af}{a b:Addr}{o:AO}(h:b≠a):upd H a o b=H b:=Da h
theorem ci{H:af}{a b:Addr}(h:b≠a):del H a b=H b:=Da h
@[simp] theorem ia(H:af)(a:Addr):del H a a=iF:=FB rfl
structure Sub(H H':af):Prop where
 le:∀a ao,H a=wf ao->H' a=wf ao
theorem Sub.refl(H:af):Sub H H:=⟨λa a e=>e⟩
theorem Sub.trans{H H' de:af}(x:Sub H H')(y:Sub H' de):Sub H de:=⟨λa ao e=>y.le a ao (x.le a ao e)⟩
theorem Sub.upd{H H':af}{a:Addr}{o:AO}(x:Sub H H')(h:H a=iF):Sub H (upd H' a o):=⟨λb ao e=>by
 have:b≠a:=by rintro rfl;rw[h] at e;cases e
 rw[aj this];exact x.le b ao e⟩
structure Gx where
 prog:jf
 w:World
 K:Frag
 p:jf
 loose:List Str
 K1:ExcName->Option ab
 mg:Str->Option ab
 mb:Str->Option ab
 tabs:List (Addr×Str):=[]
structure Cx where
 G:Gx
 h₀:Heap
 outer:List Env
 bd:Env
 C8:ae
noncomputable abbrev Cx.M(c:Cx):jX:=gW c.G.prog c.G.w
noncomputable abbrev Cx.L(c:Cx):Addr:=c.bd.locals
structure Cx.Ok(c:Cx):Prop where
 K:c.G.K.In c.h₀
 T:Top c.G.p c.G.loose c.G.K1 c.G.mg c.G.mb c.h₀
 frame:c.bd.frame=wf c.bd.locals
 fn:c.bd.scope.kind=.function
 glob:c.bd.globals=b7
 blt:c.bd.builtins=qe
structure bL(c:Cx)(A:aD)(d:Nat):Prop where
 frames:A.frames=wf (c.bd::c.outer)
 depth:A.depth+d<j6
 units:A.units+20*d<cLine
 handled:A.handled=iF
def gB(c:Cx)(h:Heap)(a:Addr)(ao:AO):Prop:=∃o,h.get? a=wf o/\ao.Is o/\a≠c.L/\c.h₀.get? a=iF/\3<a
structure cS(c:Cx)(R H:af)(h:Heap)(T:af):Prop where
 tabs:∀P q,(P,q)∈c.G.tabs->∃ps,T P=wf (i9 ps)/\qc ps.toList/\∀pos cv,nQ pos ps.toList=wf cv->∃c',cv=.ref c'/\T c'=wf (fc q)
 own:∀a ao,T a=wf ao->gB c h a ao
 aF:∀a,T a≠iF->H a=iF/\R a=iF
 link:∀a ao p,H a=wf ao\/R a=wf ao->p∈ao.links->T p.1=wf p.2
 excl:∀a ao a' ao' p p',H a=wf ao\/R a=wf ao->H a'=wf ao'\/R a'=wf ao'->a≠a'->p∈ao.links->p'∈ao'.links->p.1=p'.1->∃q,p.2=fc q
theorem cS.kt{c:Cx}{R H:af}{h:Heap}{T:af}(t:cS c R H h T):∀a,T a≠iF->a≠c.L:=λa e q=>by
 refine cE (x:=T a) (λd=>?_) (λx d=>?_)
 ·exact e d
 refine rH (t.own _ x d) λb b b z b=>?_;exact z q
theorem cS.to{c:Cx}{R H R' H':af}{h h':Heap}{T:af}(t:cS c R H h T)(j:∀a o,T a≠iF->h.get? a=wf o->h'.get? a=wf o)(hp:∀a ao,H' a=wf ao\/R' a=wf ao->(H a=wf ao\/R a=wf ao)\/(T a=iF/\ao.links=[])):cS c R' H' h' T:=by
 have b:∀a ao,H' a=wf ao\/R' a=wf ao->T a=iF:=λa ao e=>by
  obtain q|q:=hp a ao e
  ·cases z:T a with
   |none=>rfl
   |some x =>obtain⟨g,f⟩:=t.aF a (by(refine aa z ?_);intro w;injection w);replace q:=g▸q;replace q:=f▸q;exact q.elim (λw=>(by injection w)) λw=>nomatch w
  exact q.1
 refine⟨t.tabs,λa ao e=>let⟨o,e1,r⟩:=t.own a ao e;⟨o,j a o (by(refine aa e ?_);intro w;injection w) e1,r⟩,λa e=>⟨?_,?_⟩,λa ao p e l=>?_,λa ao d ao' p i e k n l l' q=>?_⟩
 ·cases z:H' a with
  |none=>rfl
  |some x=>exact GM (b a x (.inl z)) e
 ·cases z:R' a with
  |none=>rfl
  |some x=>exact GM (b a x (.inr z)) e
 ·obtain z|z:=hp a ao e
  ·exact t.link a ao p z l
  (replace l:=z.2▸l);cases l
 obtain z|z:=hp a ao e
 ·obtain z'|z':=hp d ao' k
  ·exact t.excl a ao d ao' p i z z' n l l' q
  (replace l':=z'.2▸l');cases l'
 (replace l:=z.2▸l);cases l
theorem cS.size{c:Cx}{R H:af}{h:Heap}{T:af}(t:cS c R H h T):T h.objs.size=iF:=by
 cases e:T h.objs.size with
 |none=>rfl
 |some x=>refine ak (t.own _ x e) λa z a=>?_;exact GM (cZ z) (dz _)
theorem cS.ne{c:Cx}{R H:af}{h:Heap}{T:af}(t:cS c R H h T){a:Addr}{ao:AO}(b:H a=wf ao\/R a=wf ao):T a=iF:=by
 cases z:T a with
 |none=>rfl
 |some x =>obtain⟨e,d⟩:=t.aF a (by(refine aa z ?_);intro w;injection w);rw[e,d] at b;exact b.elim (λw=>nomatch w) λw=>nomatch w
theorem i_{H:af}{a:Addr}{ao:AO}{X:af}(b:Addr)(x:AO)(h:upd H a ao b=wf x\/X b=wf x):(H b=wf x\/X b=wf x)\/(b=a/\x=ao):=by
 by_cases q:b=a
 ·subst q;rw[am] at h;exact h.elim (λe=>.inr ⟨rfl,(ax e).symm⟩) λe=>.inl (.inr e)
 rw[aj q] at h;exact .inl h
structure St(c:Cx)(R:af)(ρ:Str->Option AV)(H:af)(s:ae):Prop where
 fr:∃m,Fr c.h₀ c.L s.heap m/\∀x av,ρ x=wf av->∃v,m x=wf v/\abs v=av
 own:∀a ao,H a=wf ao->gB c s.heap a ao
 bP:∀a ao,R a=wf ao->gB c s.heap a ao
 aF:∀a,H a≠iF->R a=iF
 sh:s={ c.C8 with heap:=s.heap,toks:=s.toks }
 tb:∃T,cS c R H s.heap T
section
variable{c:Cx}{R:af}{ρ:Str->Option AV}{H:af}{s:ae}
theorem St.toks(st:St c R ρ H s)(tk:Nat):St c R ρ H { s with toks:=tk } :=⟨st.fr,st.own,st.bP,st.aF,by have e:=st.sh;(exact aa e rfl),st.tb⟩
theorem St.lt(st:St c R ρ H s){a ao}(h:H a=wf ao):a<s.heap.objs.size:=let⟨_,e,_⟩:=st.own a ao h;cZ e
theorem St.jr(st:St c R ρ H s):c.L<s.heap.objs.size:=let⟨_,F,_⟩:=st.fr;F.ns.lt
theorem St.cV(st:St c R ρ H s):H s.heap.objs.size=iF:=by
 cases e:H s.heap.objs.size with
 |none=>rfl
 |some ao=>exact GM (st.lt e) (dz _)
theorem St.iR(st:St c R ρ H s):R s.heap.objs.size=iF:=by
 cases e:R s.heap.objs.size with
 |none=>rfl
 |some ao=>let⟨_,e',_⟩:=st.bP _ ao e;exact GM (cZ e') (dz _)
theorem St.lR(ok:c.Ok)(st:St c R ρ H s):3<s.heap.objs.size:=by refine ak st.fr λm F a=>(pg ok.T.g λo a a b a=>?_);exact cZ (F.keep _ _ b)
theorem gB.mono{h h':Heap}{a ao}(x:gB c h a ao)(b:∀o,h.get? a=wf o->h'.get? a=wf o):gB c h' a ao :=let⟨o,e,r⟩:=x;⟨o,b o e,r⟩
theorem St.keeps(st:St c R ρ H s){h':Heap}{tk:Nat}(d:∀b o,s.heap.get? b=wf o->h'.get? b=wf o):St c R ρ H { s with heap:=h',toks:=tk } :=⟨let⟨m,F,r⟩:=st.fr;(ar m (F.keeps d) r),λa ao h=>(st.own a ao h).mono (d a),λa ao h=>(st.bP a ao h).mono (d a),st.aF,by have e:=st.sh;(exact aa e rfl),let⟨T,t⟩:=st.tb;⟨T,t.to (λa o f=>d a o) λf f=>.inl⟩⟩
theorem St.alloc(ok:c.Ok)(st:St c R ρ H s){o:Obj}{ao:AO}(hi:ao.Is o)(j:o.isFreed=false)(i:autoParam (ao.links=[]) cN):St c R ρ (upd H s.heap.objs.size ao) { s with heap:=s.heap.push o }:=by
 have k:=st.keeps (h':=s.heap.push o) (tk:=s.toks) (λb o' e=>gR o e);refine⟨k.fr,λa x h=>?_,k.bP,λa h=>?_,k.sh,let⟨T,t⟩:=st.tb;⟨T,t.to (λa o d=>gR _) λb x e=>(i_ b x e).imp id λ⟨g,f⟩=>⟨aa g t.size,by(refine aa f ?_);exact i⟩⟩⟩
 ·by_cases e:a=s.heap.objs.size
  ·subst e;rw[am] at h;(replace h:=ax h;subst h);refine dp o (pV _ j) hi (jZ st.jr) ?_ (st.lR ok)
   cases q:c.h₀.get? s.heap.objs.size with
   |none=>rfl
   |some o'=>refine ak st.fr λm F d=>?_;exact GM (cZ (F.keep _ _ q)) (dz _)
  (replace h:=(aj e)▸h);exact k.own a x h
 by_cases e:a=s.heap.objs.size
 ·subst e;exact st.iR
 (replace h:=(aj e)▸h);exact st.aF a h
theorem cS.set{T:af}{h h':Heap}{R' H':af}{a:Addr}(t:cS c R H h T)(d:T a=iF)(hs:kJ a h h')(hp:∀b x,H' b=wf x\/R' b=wf x->(H b=wf x\/R b=wf x)\/(b=a/\x.links=[])):cS c R' H' h' T :=t.to (λb o e q=>(hs.2 b λz=>e (by(refine aa z ?_);exact d)).trans q) λb x e=>(hp b x e).imp id λ⟨q,w⟩=>⟨aa q d,w⟩
theorem St.set(st:St c R ρ H s){a:Addr}{ao ao':AO}{h':Heap}{o':Obj}{tk:Nat}(d:H a=wf ao)(hs:kJ a s.heap h')(k:h'.get? a=wf o')(hi:ao'.Is o')(l:autoParam (ao'.links=[]) cN) :
  St c R ρ (upd H a ao') { s with heap:=h',toks:=tk }:=by
 refine dD (st.own a ao d) λo u p g f n=>?_
 refine⟨let⟨m,F,r⟩:=st.fr;⟨m,F.change hs g f,r⟩,λb x h=>?_,λb x h=>?_,λb h=>?_,by have e:=st.sh;(exact aa e rfl),let⟨T,t⟩:=st.tb;⟨T,t.set (t.ne (.inl d)) hs λb x e=>(i_ b x e).imp id λ⟨j,i⟩=>⟨j,aa i l⟩⟩⟩
 ·by_cases e:b=a
  ·subst e;rw[am] at h;(replace h:=ax h;subst h);exact dp o' k hi g f n
  (replace h:=(aj e)▸h);exact(st.own b x h).mono λo q=>(hs.2 b e).trans q
 ·refine(st.bP b x h).mono λo q=>(hs.2 b ?_).trans q;rintro rfl;rw[st.aF b (by rw[d];intro q;injection q)] at h;injection h
 by_cases e:b=a
 ·subst e;exact st.aF b (by(refine aa d ?_);intro q;injection q)
 (replace h:=(aj e)▸h);exact st.aF b h
theorem St.lQ(st:St c R ρ H s){a:Addr}{ao ao':AO}{h':Heap}{o':Obj}{tk:Nat}(d:R a=wf ao)(hs:kJ a s.heap h')(l:h'.get? a=wf o')(hi:ao'.Is o')(n:autoParam (ao'.links=[]) cN) :
  St c (upd R a ao') ρ H { s with heap:=h',toks:=tk }:=by
 refine dD (st.bP a ao d) λo v u i g p=>?_
 have f:∀b x,H b=wf x->b≠a:=by rintro b x h rfl;have:=st.aF b (by(refine aa h ?_);intro q;injection q);rw[d] at this;injection this
 refine⟨let⟨m,F,r⟩:=st.fr;⟨m,F.change hs i g,r⟩,λb x h=>(st.own b x h).mono λo q=>(hs.2 b (f b x h)).trans q,λb x h=>?_,λb h=>?_,by have e:=st.sh;(exact aa e rfl),let⟨T,t⟩:=st.tb;⟨T,t.set (t.ne (.inr d)) hs λb x e=>(i_ b x e.symm).imp .symm λ⟨k,j⟩=>⟨k,aa j n⟩⟩⟩
 ·by_cases e:b=a
  ·subst e;rw[am] at h;(replace h:=ax h;subst h);exact dp o' l hi i g p
  rw[aj e] at h;exact(st.bP b x h).mono λo q=>(hs.2 b e).trans q
 have e:b≠a:=by
  refine cE (x:=H b) (λq=>?_) (λx q=>?_)
  ·exact GM q h
  exact f b x q
 (refine aa (aj e) ?_);exact st.aF b h
theorem St.drop(st:St c R ρ H s){H':af}(h:∀a ao,H' a=wf ao->H a=wf ao):St c R ρ H' s :=
 ⟨st.fr,λa ao e=>st.own a ao (h a ao e),st.bP,λa e=>st.aF a (by
  refine cE (x:=H' a) (λq=>?_) (λx q=>?_)
  ·exact GM q e
  rw[h a x q];intro z;injection z),st.sh,let⟨T,t⟩:=st.tb;⟨T,t.to (λd d d q=>q) λb x e=>.inl (e.imp (h b x) id)⟩⟩
theorem St.GY(st:St c R ρ H s){R':af}(h:∀a ao,R' a=wf ao->R a=wf ao):St c R' ρ H s :=
 ⟨st.fr,st.own,λa ao e=>st.bP a ao (h a ao e),λa e=>(by
  cases q:R' a with
  |none=>rfl
  |some x=>have:=st.aF a e;rw[h a x q] at this;injection this),st.sh,let⟨T,t⟩:=st.tb;⟨T,t.to (λd d d q=>q) λb x e=>.inl (e.imp id (h b x))⟩⟩
theorem St.part{R' H':af}(st:St c R ρ H s)(h:∀a ao,H' a=wf ao\/R' a=wf ao->H a=wf ao\/R a=wf ao)(d:∀a,H' a≠iF->R' a=iF):St c R' ρ H' s :=⟨st.fr,λa ao e=>(h a ao (.inl e)).elim (st.own a ao) (st.bP a ao),λa ao e=>(h a ao (.inr e)).elim (st.own a ao) (st.bP a ao),d,st.sh,let⟨T,t⟩:=st.tb;⟨T,t.to (λf f f q=>q) λb x e=>.inl (h b x e)⟩⟩
theorem St.hide(st:St c R ρ H s){a:Addr}{ao:AO}(d:H a=wf ao):St c (upd R a ao) ρ (del H a) s:=by
 refine st.part (λb x h=>?_) λb h=>?_
 ·by_cases e:b=a
  ·subst e;rw[ia,am] at h;exact h.elim (λq=>(by injection q)) λq=>by(replace q:=ax q;subst q);exact .inl d
  rwa [ci e,aj e] at h
 by_cases e:b=a
 ·subst e;simp at h
 rw[ci e] at h;(refine aa (aj e) ?_);exact st.aF b h
theorem St.show(st:St c R ρ H s){a:Addr}{ao:AO}(d:R a=wf ao):St c (del R a) ρ (upd H a ao) s:=by
 refine st.part (λb x h=>?_) λb h=>?_
 ·by_cases e:b=a
  ·subst e;rw[ia,am] at h;exact h.elim (λq=>by(replace q:=ax q;subst q);exact .inr d) λq=>(by injection q)
  rwa [ci e,aj e] at h
 by_cases e:b=a
 ·subst e;simp
 rw[aj e] at h;(refine aa (ci e) ?_);exact st.aF b h
theorem St.weaken(st:St c R ρ H s){ρ':Str->Option AV}(h:∀x av,ρ' x=wf av->ρ x=wf av):St c R ρ' H s :=⟨let⟨m,F,r⟩:=st.fr;(ar m F (λx av e=>r x av (h x av e))),st.own,st.bP,st.aF,st.sh,st.tb⟩
theorem St.get(st:St c R ρ H s){a ao}(h:H a=wf ao):∃o,s.heap.get? a=wf o/\ao.Is o:=let⟨o,e,i,_⟩:=st.own a ao h;⟨o,e,i⟩
theorem St.dk(st:St c R ρ H s){a ao}(h:R a=wf ao):∃o,s.heap.get? a=wf o/\ao.Is o:=let⟨o,e,i,_⟩:=st.bP a ao h;⟨o,e,i⟩
end
noncomputable def put(ρ:Str->Option AV)(x:Str)(v:AV):Str->Option AV:=λy=>if y=x then wf v else ρ y
@[simp] theorem lI(ρ:Str->Option AV)(x:Str)(v:AV):put ρ x v x=wf v:=FB rfl
theorem pE{ρ:Str->Option AV}{x y:Str}{v:AV}(h:y≠x):put ρ x v y=ρ y:=Da h
noncomputable def lk(l:List (Str×AV))(x:Str):Option AV:=l.lookup x
def AllIn(ρ:Str->Option AV):List (Str×AV)->Prop
 |[]=>True
 |(x,v)::r=>ρ x=wf v/\AllIn ρ r
theorem AllIn.mem{ρ:Str->Option AV}:∀{l:List (Str×AV)},AllIn ρ l->∀x av,lk l x=wf av->ρ x=wf av
 |[],_,_,_,e=>by injection e
 |(y,v)::r,⟨h1,h2⟩,x,av,e=>by
  unfold lk at e;rw[cP] at e;refine k9 (x:=x==y) (λa=>?_) (λa=>?_)
  ·rw[a] at e;(replace e:=ax e;subst e);rw[beq_iff_eq.mp a];exact h1
  (replace e:=a▸e);exact AllIn.mem h2 x av e
theorem St.names{c R ρ H s}(st:St c R ρ H s)(l:List (Str×AV))(h:AllIn ρ l):St c R (lk l) H s:=st.weaken h.mem
def b9(c:Cx)(H:af)(a:Addr)(xs:List AV):Prop:=H a=wf (.list xs)\/∃vs:List ab,c.h₀.IsList a vs.toArray/\vs.map abs=xs
theorem St.list{c R ρ H s}(st:St c R ρ H s){a xs}(h:b9 c H a xs):∃vs:List ab,s.heap.IsList a vs.toArray/\vs.map abs=xs:=by
 obtain h|⟨vs,⟨o,e,r⟩,i⟩:=h
 ·refine bJ (st.get h) λo e vs n b i=>?_
  obtain rfl:=b;exact ar vs (lW _ e rfl n rfl) i
 obtain⟨m,F,_⟩:=st.fr;exact ar vs (ar o (F.keep _ _ e) r) i
end
set_option genSizeOf false
set_option genSizeOfSpec false
set_option genInjectivity false
theorem uv{P:ab->Prop}{a:Addr}(h:P (.ref a)):∀v,abs v=.ref a->P v:=λv b=>by obtain rfl:=ed b;exact h
theorem qV{P:ab->Prop}(h:P .none):∀v,abs v=.none->P v:=λv a=>by obtain rfl:=x7 a;exact h
theorem jy{P:ab->ae->Prop}{S:ae->Prop}{i:Int}(h:∀t s,S s->P (.int i t) s):∀v s,abs v=.int i->S s->P v s:=λv s b=>by refine oE (eM b) λt a=>?_;obtain rfl:=a;exact h t s
theorem fJ{P:ab->ae->Prop}{S:ae->Prop}{a:Addr}(h:∀s,S s->P (.ref a) s):∀v s,abs v=.ref a->S s->P v s:=λv s b=>by obtain rfl:=ed b;exact h s
theorem eC{c:Prop}[Decidable c]{p q:Prop}(h:¬c)(a:q):if c then p else q:=aa (Da h) a
theorem ic{c:Prop}[Decidable c]{p q:Prop}(h:c)(hp:p):if c then p else q:=aa (FB h) hp
section
variable{c:Cx}{R:af}{ρ:Str->Option AV}{H:af}{s:ae}{A:aD}{E:ab->ae->Prop}{env:Env}{x:Str}{pos:Pos}{av:AV}{a:Addr}{v:ab}
theorem St.ns{r}(st:St c R ρ H s)(b:H a=wf (.ns r)):∃m,s.heap.Ns a m/\∀x av,r x=wf av->∃v,m x=wf v/\abs v=av:=by
 refine vA (st.get b) λo e es ep g f d=>?_
 exact ar (nsFind es) (pR o es ep e g f (λh=>rfl)) d
theorem vh{Q:ab->ae->Prop}(st:St c R ρ H s)(b:ρ x=wf av)(h:∀v,abs v=av->Q v s)(f:env.locals=c.L)(d:env.scope.kind=.function)(a:env.kindOf x=wf .local)(e:autoParam ((x==("__debug__":Str))=false) g6):al c.M A (eval (.Name x pos) env) Q E s:=by
 refine ak st.fr λm F r=>(ak (r x av b) λv i g=>?_);exact nY (n7 d a (f▸F.ns) i (h v g)) e
theorem Lr{Q:ab->ae->Prop}{i:Int}(st:St c R ρ H s)(a:ρ x=wf (.int i))(h:∀t,Q (.int i t) s)(g:env.locals=c.L)(e:env.scope.kind=.function)(d:env.kindOf x=wf .local)(f:autoParam ((x==("__debug__":Str))=false) g6):al c.M A (eval (.Name x pos) env) Q E s :=
 vh st a (λv a=>by refine oE (eM a) λt b=>?_;obtain rfl:=b;exact h t) g e d f
theorem Ls{Q:ab->ae->Prop}(st:St c R ρ H s)(b:ρ x=wf (.ref a))(h:Q (.ref a) s)(g:env.locals=c.L)(e:env.scope.kind=.function)(d:env.kindOf x=wf .local)(f:autoParam ((x==("__debug__":Str))=false) g6):al c.M A (eval (.Name x pos) env) Q E s :=
 vh st b (λv b=>by obtain rfl:=ed b;exact h) g e d f
theorem Au{Q:ab->ae->Prop}{r}(st:St c R ρ H s)(e:H env.locals=wf (.ns r))(d:r x=wf av)(h:∀v,abs v=av->Q v s)(f:env.scope.kind=.function)(b:env.kindOf x=wf .local)(g:autoParam ((x==("__debug__":Str))=false) g6):al c.M A (eval (.Name x pos) env) Q E s:=by
 refine ak (st.ns e) λm a r=>(ak (r x av d) λv j i=>?_);exact nY (n7 f b a j (h v i)) g
theorem As{Q:ab->ae->Prop}(ok:c.Ok)(st:St c R ρ H s)(e:nsIn c.G.K b7 x=wf (wf v))(h:Q v s)(d:env.globals=b7)(b:env.scope.kind=.function)(a:env.kindOf x=wf .globalImplicit)(f:autoParam ((x==("__debug__":Str))=false) g6):al c.M A (eval (.Name x pos) env) Q E s:=by
 refine ak st.fr λm F i=>?_
 exact Eu b a (loadGlobal_global (env:=env) (by(refine aa d ?_);exact ok.T.g.keeps F.keep) (mg_of ok.K ok.T.g e) h) f
theorem vg{Q:ab->ae->Prop}(ok:c.Ok)(st:St c R ρ H s)(e:nsIn c.G.K b7 x=wf iF)(d:eH x=wf v)(f:x≠"__name__")(h:Q v s)(j:env.globals=b7)(l:env.builtins=qe)(i:env.scope.kind=.function)(a:env.kindOf x=wf .globalImplicit)(k:autoParam ((x==("__debug__":Str))=false) g6):al c.M A (eval (.Name x pos) env) Q E s:=by
 refine ak st.fr λm F n=>?_
 exact Eu i a (loadGlobal_builtin (env:=env) (by(refine aa j ?_);exact ok.T.g.keeps F.keep) (mg_none_of ok.K ok.T.g e) (aa l (ok.T.b.keeps F.keep)) ((ok.T.builtins x f).trans d) h) k
theorem CZ{Q:Unit->ae->Prop}(st:St c R ρ H s)(h:∀s',St c R (put ρ x (abs v)) H s'->Q () s')(d:env.locals=c.L)(i:env.scope.kind=.function)(g:env.kindOf x=wf .local) :
  al c.M A (ml env x v) Q E s:=by
 refine ak st.fr λm F r=>?_
 refine xN g (d▸F.ns) (λh' b hs=>h _ ?_) (by(refine aa i ?_);rfl);rw[d] at b hs;refine⟨⟨_,F.set b hs,λy av e=>?_⟩,λa ao e=>(st.own a ao e).mono λo q=>(hs.2 a ?_).trans q,λa ao e=>(st.bP a ao e).mono λo q=>(hs.2 a ?_).trans q,st.aF,by have e:=st.sh;(exact aa e rfl),let⟨T,t⟩:=st.tb;⟨T,t.to (λa o e q=>(hs.2 a (t.kt a e)).trans q) λf f=>.inl⟩⟩
 ·by_cases q:y=x
  ·subst q;rw[lI] at e;(replace e:=ax e;subst e);exact ar v (FB rfl) rfl
  replace e:=(pE q)▸e;refine ak (r y av e) λu k j=>?_
  exact ar u (by simp[q,k]) j
 ·obtain⟨_,_,_,z,_⟩:=st.own a ao e;exact z
 obtain⟨_,_,_,z,_⟩:=st.bP a ao e;exact z
theorem Wn{Q:Unit->ae->Prop}{r}(st:St c R ρ H s)(d:H env.locals=wf (.ns r))(h:∀s',St c R ρ (upd H env.locals (.ns (put r x (abs v)))) s'->Q () s')(i:env.scope.kind=.function)(f:env.kindOf x=wf .local) :
  al c.M A (ml env x v) Q E s:=by
 refine ak (st.ns d) λm a g=>(xN f a (λh' b hs=>h _ ?_) (aa i rfl));refine rL b λo es ep t p n l=>(st.set d hs t (cj es ep p n (λy av e=>?_)));rw[l];by_cases q:y=x
 ·subst q;rw[lI] at e;(replace e:=ax e;subst e);exact ar v (FB rfl) rfl
 rw[pE q] at e;refine ak (g y av e) λu k j=>?_
 exact ar u (by simp[q,k]) j
end
section
variable{c:Cx}{R:af}{ρ:Str->Option AV}{H:af}{s:ae}{A:aD}{E:ab->ae->Prop}
noncomputable def rD(h:Heap)(R H:af):List (Addr×Obj):=(hV h.objs.size).filterMap λa =>
 match H a,R a with
 |none,iF=>iF
 |_,_=>(h.get? a).map λo=>(a,o)
theorem K2{h:Heap}{R H:af}{p:Addr×Obj}:p∈rD h R H↔(H p.1≠iF\/R p.1≠iF)/\h.get? p.1=wf p.2:=by
 obtain⟨a,o⟩:=p;delta rD;rw[xl];constructor
 ·intro g;refine ak g λb m e=>(cE (x:=H b) (λd=>?_) (λx d=>?_))
  ·
   refine cE (x:=R b) (λc=>?_) (λx c=>?_)
   ·rw[d,c] at e;injection e
   ·
    rw[d,c] at e;refine ak (bu.mp e) λo' j i=>?_
    cases i;exact⟨.inr (by(refine aa c ?_);intro q;injection q),j⟩
  ·
   replace e:=d▸e;refine ak (bu.mp e) λo' j i=>?_
   cases i;exact⟨.inl (by(refine aa d ?_);intro q;injection q),j⟩
 intro f;refine oA f λd c=>(ar a (jW.mpr (cZ c)) ?_);cases l:H a with
 |none =>
  cases k:R a with
  |none=>rw[l,k] at d;obtain z|z:=d<;>exact GM rfl z
  |some x=>simp[c]
 |some x=>simp[c]
noncomputable def mix(R T:af):af:=λa=>match R a with|none=>T a|some x=>wf x
noncomputable def St.T(st:St c R ρ H s):af:=Classical.choose st.tb
theorem St.gO(st:St c R ρ H s):cS c R H s.heap st.T:=Classical.choose_spec st.tb
noncomputable def St.nw(st:St c R ρ H s):List (Addr×Obj):=rD s.heap (mix R st.T) H
theorem ii(st:St c R ρ H s){p:Addr×Obj}:p∈st.nw↔(H p.1≠iF\/R p.1≠iF\/st.T p.1≠iF)/\s.heap.get? p.1=wf p.2:=by
 delta St.nw;rw[K2];delta mix;cases R p.1 with
 |none=>simp
 |some x=>simp
theorem St.kr(st:St c R ρ H s){a:Addr}{ao:AO}{o:Obj}(h:H a=wf ao)(e:s.heap.get? a=wf o):(a,o)∈st.nw:=(ii st).mpr ⟨.inl (by(refine aa h ?_);intro q;injection q),e⟩
theorem St.inR(st:St c R ρ H s){a:Addr}{ao:AO}{o:Obj}(h:R a=wf ao)(e:s.heap.get? a=wf o):(a,o)∈st.nw:=(ii st).mpr ⟨.inr (.inl (by(refine aa h ?_);intro q;injection q)),e⟩
theorem St.o0(st:St c R ρ H s){a:Addr}{ao:AO}{o:Obj}(h:st.T a=wf ao)(e:s.heap.get? a=wf o):(a,o)∈st.nw:=(ii st).mpr ⟨.inr (.inr (by(refine aa h ?_);intro q;injection q)),e⟩
theorem St.news(st:St c R ρ H s):News c.h₀ c.L s.heap st.nw:=by
 intro p hp;refine oA ((ii st).mp hp) λh1 e=>?_
 have a:∀ao,gB c s.heap p.1 ao->s.heap.get? p.1=wf p.2/\p.1≠c.L/\c.h₀.get? p.1=iF:=λao ⟨o,_,_,d,b,_⟩=>aC e d b
 obtain h1|h1|h1:=h1
 ·refine cE (x:=H p.1) (λq=>?_) (λx q=>?_)
  ·exact GM q h1
  exact a x (st.own _ _ q)
 ·refine cE (x:=R p.1) (λq=>?_) (λx q=>?_)
  ·exact GM q h1
  exact a x (st.bP _ _ q)
 refine cE (x:=st.T p.1) (λq=>?_) (λx q=>?_)
 ·exact GM q h1
 exact a x (st.gO.own _ _ q)
theorem St.carry{s':ae}{m':Str->Option ab}(st:St c R ρ H s)(F:Fr c.h₀ c.L s'.heap m')(f:∀x av,ρ x=wf av->∃v,m' x=wf v/\abs v=av)(N:News c.h₀ c.L s'.heap st.nw)(d:s'={ c.C8 with heap:=s'.heap,toks:=s'.toks }):St c R ρ H s' :=
 ⟨ar m' F f,λa ao e=>let⟨o,e1,r⟩:=st.own a ao e;⟨o,(N _ (st.kr e e1)).1,r⟩,λa ao e=>let⟨o,e1,r⟩:=st.bP a ao e;⟨o,(N _ (st.inR e e1)).1,r⟩,st.aF,d,
  ⟨st.T,st.gO.to (λa o e q=>(N (a,o) ((ii st).mpr ⟨.inr (.inr e),q⟩)).1) λb b=>.inl⟩⟩
noncomputable def Vw:Flow->ab
 |.ret v=>v
 |_=>.none
noncomputable def Cx.on(c:Cx)(env:Env):Cx:={ c with outer:=c.bd::c.outer,bd:=env }
theorem St.EZ(st:St c R ρ H s):c.h₀.get? c.L=iF:=by
 refine ak st.fr λm F a=>?_
 cases q:c.h₀.get? c.L with
 |none=>rfl
 |some o=>exact GM (fx (cZ q) F.above) (dz _)
theorem St.EY(ok:c.Ok)(st:St c R ρ H s):3<c.L:=by refine ak st.fr λm F a=>(pg ok.T.g λo a a b a=>?_);exact fx (cZ b) F.above
theorem St.js(st:St c R ρ H s):R c.L=iF:=by
 cases q:R c.L with
 |none=>rfl
 |some x=>refine rH (st.bP _ x q) λa a a z a=>?_;exact GM rfl z
theorem St.EU(st:St c R ρ H s):H c.L=iF:=by
 cases q:H c.L with
 |none=>rfl
 |some x=>refine rH (st.own _ x q) λa a a z a=>?_;exact GM rfl z
theorem cS.into{T:af}{h h₁:Heap}(t:cS c R H h T){env:Env}(i:env.locals=h.objs.size)(g:∀b o,h.get? b=wf o->h₁.get? b=wf o):cS (c.on env) (upd R c.L (.ns ρ)) H h₁ T :=
 (show cS (c.on env) R H h T from⟨t.tabs,λa ao e=>let⟨o,e1,e2,e3,e4⟩:=t.own a ao e;(Dx o e1 e2 (λq=>GM (cZ e1) (by(refine aa q ?_);show¬env.locals<_;(refine aa i ?_);exact dz _)) e4),t.aF,t.link,t.excl⟩).to (λa o j=>g a o)
  λb x e=>(i_ b x e.symm).imp .symm λ⟨f,d⟩=>⟨by cases z:T b with|none=>rfl|some y=>exact GM f (t.kt b (by(refine aa z ?_);intro w;injection w)),by(refine aa d ?_);rfl⟩
theorem St.into(ok:c.Ok)(st:St c R ρ H s){env:Env}{h₁:Heap}{tk:Nat}{m':Str->Option ab}{ρ':Str->Option AV}(k:env.locals=s.heap.objs.size)(h:h₁.Ns s.heap.objs.size m')(g:∀b o,s.heap.get? b=wf o->h₁.get? b=wf o)(u:∀x av,ρ' x=wf av->∃v,m' x=wf v/\abs v=av):St (c.on env) (upd R c.L (.ns ρ)) ρ' H { s with heap:=h₁,toks:=tk }:=by
 have n:=st.sh;have d:(c.on env).L=s.heap.objs.size:=k;have lift:∀a ao,gB c s.heap a ao->gB (c.on env) h₁ a ao:=λa ao ⟨o,f,j,l,i,z⟩=>dp o (g a o f) j (aa d (d! (cZ f))) i z;refine⟨?_,λa ao e=>lift a ao (st.own a ao e),λa ao e=>?_,λa e=>?_,by(refine aa n ?_);rfl,let⟨T,t⟩:=st.tb;⟨T,t.into k g⟩⟩
 ·refine ak st.fr λm F r=>(ar m' ⟨aa d h,λb o e=>g b o (F.keep b o e),?_⟩ u);(refine aa d ?_);exact bF F.above (gv F.ns.lt)
 ·by_cases q:a=c.L
  ·subst q;rw[am] at e;(replace e:=ax e;subst e);refine ak st.fr λm F r=>(rL F.ns λo es ep f j l i=>?_);exact dp o (g _ o f) (cj es ep j l (λx av p=>by refine ak (r x av p) λv y w=>?_;exact ar v (by rw[i];exact y) w)) (aa d (d! (cZ f))) st.EZ (st.EY ok)
  (replace e:=(aj q)▸e);exact lift a ao (st.bP a ao e)
 by_cases q:a=c.L
 ·subst q;exact GM st.EU e
 (refine aa (aj q) ?_);exact st.aF a e
theorem St.B6{env:Env}{ρ':Str->Option AV}{H':af}{s':ae}(n:R c.L=iF)(l:c.h₀.objs.size<=c.L)(st:St (c.on env) (upd R c.L (.ns ρ)) ρ' H' s'):St c R ρ H' s':=by
 refine dD (st.bP c.L _ (am ..)) λo z j C B A=>(dP j λes ep y v u=>?_);have r:∀a,H' a≠iF->a≠c.L:=by rintro a e rfl;have:=st.aF _ e;rw[am] at this;injection this
 refine⟨?_,λa ao e=>?_,λa ao e=>?_,λa e=>?_,st.sh,?_⟩
 rotate_right
 ·obtain⟨T,t⟩:=st.tb;have s:T c.L=iF:=t.ne (.inr (am ..));refine xE T (cS.to (c:=c) (R:=upd R c.L (.ns ρ)) (H:=H') (h:=s'.heap) ⟨t.tabs,λa ao e=>?_,t.aF,t.link,t.excl⟩ (λk k k q=>q) λb x e=>.inl (e.imp id λw=>aa (aj (λq=>by rw[q,n] at w;injection w)) w));refine dD (t.own a ao e) λo i g p f d=>?_
  exact dp o i g (λq=>by rw[q,s] at e;injection e) f d
 ·refine ak st.fr λm F k=>?_
  exact ar (nsFind es) ⟨pR o es ep z y v (λk=>rfl),F.keep,l⟩ u
 ·refine dD (st.own a ao e) λo i g p f d=>?_
  exact dp o i g (r a (by(refine aa e ?_);intro q;injection q)) f d
 ·have q:a≠c.L:=λq=>by first|(rw[q,n] at e;injection e)|(rw[<-q,n] at e;cases e)
  refine dD (st.bP a ao (aa (aj q) e)) λo i g p f d=>?_
  exact dp o i g q f d
 have:=st.aF a e;rwa [aj (r a e)] at this
theorem St.above(st:St c R ρ H s):c.h₀.objs.size<=c.L:=let⟨_,F,_⟩:=st.fr;F.above
theorem St.nolimit(ok:c.Ok)(st:St c R ρ H s):s.heap.NoLimit:=let⟨_,F,_⟩:=st.fr;ok.T.nolimit.keeps F.keep
def Back(c c':Cx)(R:af)(ρ:Str->Option AV)(K:ab->ae->Prop)(fl:Flow)(s:ae):Prop :=
 ∃ρ' H',St c' (upd R c.L (.ns ρ)) ρ' H' s/\(St c R ρ H' s->K (Vw fl) s)
variable{name qual:Str}{params:gQ}{body:List Stmt}{scope:bS}{cl:List (Str×Addr)}{dV kV doc pm aA ct:ab}{an:Option Addr}{fo:Obj}{f:Addr}{args:Args}{binds:List (Str×ab)}{d:Nat}
theorem Cx.Ok.on(ok:c.Ok){env:Env}(e:env.frame=wf env.locals)(d:env.scope.kind=.function)(b:env.globals=b7)(a:env.builtins=qe):(c.on env).Ok:=⟨ok.K,ok.T,e,d,b,a⟩
theorem bL.on(a:bL c A (d+1))(env:Env):bL (c.on env) (A.deeper env) d:=by
 refine⟨?_,?_,?_,a.handled⟩
 ·show A.frames.map _=_;(refine aa a.frames ?_);rfl
 ·have:=a.depth;exact A! this
 have:=a.units;exact O4 this
theorem yE{l:Env->ae->Prop}(ok:c.Ok)(st:St c R ρ H s)(g:∀y∈binds,scope.names.lookup y.1=wf .local)(d:∀x∈scope.names,x.2≠.cell)(k:scope.kind=.function)(h:∀L' s',(c.on (envX qual scope L' f aA cl)).Ok->St (c.on (envX qual scope L' f aA cl)) (upd R c.L (.ns ρ)) (λx=>(binds.reverse.lookup x).map abs) H s'->l (envX qual scope L' f aA cl) s') :
  al c.M A (qi scope b7 cl binds (qual++".<locals>.") (wf f) aA iF qe) l E s:=by
 refine EM d g (λh₁ j i=>?_) k;have a:∀b o,s.heap.get? b=wf o->h₁.get? b=wf o:=λb o e=>i.extBut b o (d! (cZ e)) (gR _ e)
 refine h s.heap.objs.size _ (ok.on rfl k rfl rfl) (st.into ok (env:=envX qual scope s.heap.objs.size f aA cl) (tk:=s.toks+binds.length) rfl j a λx av e=>?_);refine ak (bu.mp e) λv n m=>?_
 exact ar v n m
theorem leave{Rr:fP->ae->Prop}{env:Env}(st:St c R ρ H s)(fl:Flow)(eh:ae):Back c (c.on env) R ρ (λv eh=>Rr (.ok (.ret v)) eh) fl eh->Rr (.ok (.ret (match fl with|.ret v=>v|_=>.none))) eh:=by
 intro a;refine aV a λρ' H' b k=>?_
 have z:=k (b.B6 st.js st.above);cases fl<;>exact z
theorem qA{Rr:fP->ae->Prop}(ok:c.Ok)(k:A.depth<j6)(st:St c R ρ H s)(o:s.heap.get? f=wf fo)(q:fo.data=.func (fnX name qual params body scope cl dV kV doc pm an aA ct))(n:s.heap.CodeRec aA qual)(d:kI s (fnX name qual params body scope cl dV kV doc pm an aA ct) args binds)(i:∀y∈binds,scope.names.lookup y.1=wf .local)(b:∀x∈scope.names,x.2≠.cell)(m:scope.isCoroutine=false)(j:scope.isGenerator=false)(p:scope.kind=.function)(h:∀L' s',(c.on (envX qual scope L' f aA cl)).Ok->St (c.on (envX qual scope L' f aA cl)) (upd R c.L (.ns ρ)) (λx=>(binds.reverse.lookup x).map abs) H s' ->al c.M (A.deeper (envX qual scope L' f aA cl)) (eo body (envX qual scope L' f aA cl)) (Back c (c.on (envX qual scope L' f aA cl)) R ρ λv a=>Rr (.ok (.ret v)) a) (λl l=>False) s') :
  dB c.M A (.call (.ref f) args) Rr s:=by
 refine xF (fd:=fnX name qual params body scope cl dV kV doc pm an aA ct) (body:=body) k o q m j rfl n (d _ _ _ _ ?_);refine yE ok st i b p λL' s' g e=>⟨e.nolimit g,xG (bx (h L' s' g e) (λfl a r=>leave st fl a r) λl l z=>z.elim)⟩
noncomputable def gD(cm:Str->Option ab):List (Str×Addr)->af->af
 |[],H=>H
 |(n,a)::r,H=>upd (gD cm r H) a (.cell ((cm n).map abs))
theorem tK(h:Str->Option ab){b:Addr}{ao:AO}:∀{cs:List (Str×Addr)} {H:af},gD h cs H b=wf ao->(∃n,(n,b)∈cs/\ao=.cell ((h n).map abs))\/((∀n,(n,b)∉cs)/\H b=wf ao):=by
 intro l0;induction l0 with
 |nil =>intro H e;exact .inr ⟨λk q=>((GM q aX)),e⟩
 |cons i r j =>
  obtain⟨n,a⟩:=i;intro H e;unfold gD at e;by_cases q:b=a
  ·subst q;rw[am] at e;(replace e:=ax e;subst e);exact .inl (ar n (.head _) rfl)
  replace e:=(aj q)▸e;refine cg (j e) (λc=>ak c λn' g f=>?_) (λc=>oA c λg f=>?_)
  ·exact .inl (ar n' (.tail _ g) f)
  refine .inr ⟨λn' d=>?_,f⟩;cases d with
  |head=>exact q rfl
  |tail _ d=>exact g n' d
theorem tW:∀(names:List (Str×c5)) (n:Nat) (acc:List (Str×Addr)) (lo:Nat),lo<=n->(∀p∈acc,lo<=p.2)->∀p∈aY n names acc,lo<=p.2:=by
 intro l0;induction l0 with
 |nil =>intro _ _ _ _ h;exact h
 |cons c r b =>
  obtain⟨x,k⟩:=c;intro n acc lo a h;unfold aY;split
  ·refine b (n+1) _ lo (ta a) λp hp=>?_
   cases hp with
   |head=>exact a
   |tail _ q=>exact h p q
  exact b n acc lo a h
theorem Gf{Rr:fP->ae->Prop}(ok:c.Ok)(G:A.depth<j6)(st:St c R ρ H s)(ho:s.heap.get? f=wf fo)(hd:fo.data=.func (fnX name qual params body scope [] dV kV doc pm an aA ct))(V:s.heap.CodeRec aA qual)(r:kI s (fnX name qual params body scope [] dV kV doc pm an aA ct) args binds)(p:(binds.all λy=>scope.names.lookup y.1==wf .local||scope.names.lookup y.1==wf .cell)=true)(Q:((aY 0 scope.names []).map (·.1)).Nodup)(U:scope.isCoroutine=false)(E:scope.isGenerator=false)(Y:scope.kind=.function)(h:∀L' s',(c.on (envX qual scope L' f aA (aY (L'+1) scope.names []))).Ok->(∀a,H a≠iF\/upd R c.L (.ns ρ) a≠iF->a<L') ->
   St (c.on (envX qual scope L' f aA (aY (L'+1) scope.names []))) (upd R c.L (.ns ρ)) (λx=>(bindL (envX qual scope L' f aA (aY (L'+1) scope.names [])).kindOf binds (λd=>iF) x).map abs)
    (gD (bindC (envX qual scope L' f aA (aY (L'+1) scope.names [])).kindOf binds λd=>iF) (aY (L'+1) scope.names []) H) s' ->
   al c.M (A.deeper (envX qual scope L' f aA (aY (L'+1) scope.names []))) (eo body (envX qual scope L' f aA (aY (L'+1) scope.names [])))
    (Back c (c.on (envX qual scope L' f aA (aY (L'+1) scope.names []))) R ρ λv l=>Rr (.ok (.ret v)) l) (λd d=>False) s') :
  dB c.M A (.call (.ref f) args) Rr s:=by
 refine xF (fd:=fnX name qual params body scope [] dV kV doc pm an aA ct) (body:=body) G ho hd U E rfl V (r _ _ _ _ ?_);refine wpAny_newFunctionEnv_cells Y (kindsX p _) λJ S s' x=>?_
 have S:J=envX qual scope s.heap.objs.size f aA (aY (s.heap.objs.size+1) scope.names []):=S;subst S;have B:(c.on (envX qual scope s.heap.objs.size f aA (aY (s.heap.objs.size+1) scope.names []))).Ok:=ok.on rfl Y rfl rfl;refine aV x.done λh₁ tk O j=>?_
 obtain rfl:=O;have i:=st.into ok (env:=envX qual scope s.heap.objs.size f aA (aY (s.heap.objs.size+1) scope.names [])) (tk:=tk)
  (ρ':=λy=>(bindL (envX qual scope s.heap.objs.size f aA (aY (s.heap.objs.size+1) scope.names [])).kindOf binds (λd=>iF) y).map abs) rfl x.toInCall.ns j λy av e=>by
   refine ak (bu.mp e) λv u W=>?_
   exact ar v u W
 have D:∀a,H a≠iF\/upd R c.L (.ns ρ) a≠iF->a<s.heap.objs.size:=λa e=>by
  obtain e|e:=e
  ·refine cE (x:=H a) (λq=>?_) (λy q=>?_)
   ·exact GM q e
   exact st.lt q
  by_cases X:a=c.L
  ·subst X;exact st.jr
  replace e:=(aj X)▸e;refine cE (x:=R a) (λq=>?_) (λy q=>?_)
  ·exact GM q e
  obtain⟨o,u,_⟩:=st.bP a y q;exact cZ u
 refine xA (i.nolimit B) (xG (bx (h _ _ B D ⟨i.fr,λa ao e=>?_,i.bP,λa e=>?_,i.sh,?_⟩) (λfl l hb=>leave st fl l hb) λd d z=>z.elim))
 rotate_right
 ·refine oE st.tb λT t=>?_
  have Z:=t.into (ρ:=ρ) (env:=envX qual scope s.heap.objs.size f aA (aY (s.heap.objs.size+1) scope.names [])) (h₁:=h₁) rfl j;refine xE T (Z.to (λd d d q=>q) λb x e=>?_);obtain e|e:=e
  ·obtain⟨n,z,rfl⟩|⟨_,z⟩:=tK _ e
   ·refine .inr ⟨?_,rfl⟩;cases w:T b with
    |none=>rfl
    |some y =>
     refine ak (t.own b y w) λo u d=>?_
     exact GM (hW (cZ u) (tW scope.names (s.heap.objs.size+1) [] (s.heap.objs.size+1) (bD _) (λd q=>(GM q aX)) _ z)) (dz _)
   exact .inl (.inl z)
  exact .inl (.inr e)
 ·obtain⟨n,N,rfl⟩|⟨_,I⟩:=tK _ e
  ·have C:((aY (s.heap.objs.size+1) scope.names []).map (·.1)).Nodup:=by(refine aa (cellsFrom_names scope.names (s.heap.objs.size+1) 0 [] [] rfl) ?_);exact Q
   refine ak (x.cell n a (lookup_of_mem_nodup C N)) λo u W=>?_
   have g:=x.above n a N;have g:=g;refine dp o u (ar _ W rfl) (jZ g) ?_ (hW (st.lR ok) g)
   refine ak st.fr λm F d=>?_
   exact sH (bF F.above (gv (hW F.ns.lt g)))
  exact i.own a ao I
 cases q:upd R c.L (.ns ρ) a with
 |none=>rfl
 |some y =>
  have N:=D a (.inr (by(refine aa q ?_);intro z;injection z));refine cE (x:=gD (bindC (envX qual scope s.heap.objs.size f aA (aY (s.heap.objs.size+1) scope.names [])).kindOf binds λd=>iF) (aY (s.heap.objs.size+1) scope.names []) H a) (λP=>?_) (λy P=>?_)
  ·exact GM P e
  ·
   refine cg (tK _ P) (λk=>ak k λn I d=>?_) (λk=>oA k λd I=>?_)
   ·have g:=tW scope.names (s.heap.objs.size+1) [] (s.heap.objs.size+1) (bD _) (λd q=>(GM q aX)) _ I;exact GM (hW N g) (dz _)
   have:=i.aF a (by(refine aa I ?_);intro z;injection z);rw[q] at this;injection this
theorem Gg{Rr:fP->ae->Prop}{vs:List ab}{binds:ab->List (Str×ab)}(ok:c.Ok)(l:A.depth<j6)(st:St c R ρ H s)(r:s.heap.get? f=wf fo)(w:fo.data=.func (fnX name qual params body scope cl dV kV doc pm an aA ct))(q:s.heap.CodeRec aA qual)(n:vs.length<=cB)(d:e! (fnX name qual params body scope cl dV kV doc pm an aA ct) args=(qj vs >>= λt=>pure (binds t)))(j:∀D:Addr,∀y∈binds (.ref D),scope.names.lookup y.1=wf .local)(b:∀x∈scope.names,x.2≠.cell)(p:scope.isCoroutine=false)(k:scope.isGenerator=false)(u:scope.kind=.function)(h:∀D L' s',H D=iF->(c.on (envX qual scope L' f aA cl)).Ok->St (c.on (envX qual scope L' f aA cl)) (upd R c.L (.ns ρ)) (λx=>((binds (.ref D)).reverse.lookup x).map abs) (upd H D (.tuple (vs.map abs))) s' ->al c.M (A.deeper (envX qual scope L' f aA cl)) (eo body (envX qual scope L' f aA cl)) (Back c (c.on (envX qual scope L' f aA cl)) R ρ λv a=>Rr (.ok (.ret v)) a) (λm m=>False) s') :
  dB c.M A (.call (.ref f) args) Rr s:=by
 refine xF (fd:=fnX name qual params body scope cl dV kV doc pm an aA ct) (body:=body) l r w p k rfl q ?_
 refine aa d ?_
 refine aG (n8 ?_ (by show vs.toArray.size<=cB;(refine aa dh ?_);exact n));refine bH ?_
 have e:=st.alloc ok (o:={ cls:=.type "tuple",data:=.seq vs.toArray }) (ao:=.tuple (vs.map abs)) (a_ vs 0 rfl rfl) rfl;exact yE ok e (j _) b u λL' s' i g=>⟨g.nolimit i,xG (bx (h _ L' s' st.cV i g) (λfl a B=>leave e fl a B) λm m z=>z.elim)⟩
end
noncomputable def AV.isNone:AV->Bool
 |.none=>true
 |_=>false
section
variable{c:Cx}{R:af}{ρ:Str->Option AV}{H:af}{s:ae}{A:aD}{E:ab->ae->Prop}{a b:Int}{t u:Tok}{Q:ab->ae->Prop}
theorem cInt{env:Env}{i:Int}{k:Nat}{pos:Pos}(st:St c R ρ H s)(h:∀t s',St c R ρ H s'->Q (.int i t) s'):al c.M A (eval (.Constant (.int i) k pos) env) Q E s :=wpAny_Constant_int (h _ _ (st.toks _))
theorem tM(st:St c R ρ H s)(h:∀t s',St c R ρ H s'->Q (.int (a+b) t) s'):al c.M A (mf .Add (.int a t) (.int b u)) Q E s:=P.add_int (h _ _ (st.toks _))
theorem Wt(st:St c R ρ H s)(h:∀t s',St c R ρ H s'->Q (.int (a-b) t) s'):al c.M A (mf .Sub (.int a t) (.int b u)) Q E s:=P.sub_int (h _ _ (st.toks _))
theorem La(st:St c R ρ H s)(d:IntMulOk a b)(h:∀t s',St c R ρ H s'->Q (.int (a*b) t) s'):al c.M A (mf .Mult (.int a t) (.int b u)) Q E s:=P.mul_int (h _ _ (st.toks _)) d
theorem Az(st:St c R ρ H s)(h:∀t s',St c R ρ H s'->Q (.int (-a) t) s'):al c.M A (unaryOp .USub (.int a t)) Q E s:=P.neg_int (h _ _ (st.toks _))
theorem uV(st:St c R ρ H s)(h:∀t s',St c R ρ H s'->Q (.int (a+b) t) s'):al c.M A (inplaceOp .Add (.int a t) (.int b u)) Q E s:=P.iadd_int (h _ _ (st.toks _))
theorem JM(st:St c R ρ H s)(h:∀t s',St c R ρ H s'->Q (.int (a-b) t) s'):al c.M A (inplaceOp .Sub (.int a t) (.int b u)) Q E s:=P.isub_int (h _ _ (st.toks _))
theorem K?(st:St c R ρ H s)(d:b≠0)(h:∀t s',St c R ρ H s'->Q (.int (a.fmod b) t) s'):al c.M A (mf .Mod (.int a t) (.int b u)) Q E s:=mod_int' d (h _ _ (st.toks _))
theorem yw(st:St c R ρ H s)(d:b≠0)(hp:sC a b=false)(h:∀t s',St c R ρ H s'->Q (.int (a.fdiv b) t) s'):al c.M A (mf .FloorDiv (.int a t) (.int b u)) Q E s:=floordiv_int d (h _ _ (st.toks _)) (.inl hp)
theorem lb(h:Q (.bool (a==b)) s):al c.M A (fy .Eq (.int a t) (.int b u)) Q E s:=P.eq_int h
theorem pd(h:Q (.bool (a != b)) s):al c.M A (fy .NotEq (.int a t) (.int b u)) Q E s:=P.ne_int h
theorem ltI(h:Q (.bool (decide (a<b))) s):al c.M A (fy .Lt (.int a t) (.int b u)) Q E s:=P.lt_int h
theorem u8(h:Q (.bool (decide (a<=b))) s):al c.M A (fy .LtE (.int a t) (.int b u)) Q E s:=P.le_int h
theorem oI(h:Q (.bool (decide (a>b))) s):al c.M A (fy .Gt (.int a t) (.int b u)) Q E s:=P.gt_int h
theorem ur(h:Q (.bool (decide (a≥b))) s):al c.M A (fy .GtE (.int a t) (.int b u)) Q E s:=P.ge_int h
theorem isNone{v:ab}{av:AV}(a:abs v=av)(h:Q (.bool av.isNone) s):al c.M A (fy .Is v .none) Q E s:=by
 refine is_none ?_
 subst a;cases v<;>exact h
theorem isNotNone{v:ab}{av:AV}(a:abs v=av)(h:Q (.bool (!av.isNone)) s):al c.M A (fy .IsNot v .none) Q E s:=by
 refine isNot_none ?_
 subst a;cases v<;>exact h
end
noncomputable def cp(K:Frag)(f:Addr):Option sF:=match K.lookup f with
 |some ⟨_,_,.func fd,_⟩=>wf fd
 |_=>iF
theorem mM{K:Frag}{f:Addr}{fd:sF}(h:cp K f=wf fd):∃o,K.lookup f=wf o/\o.data=.func fd:=by
 unfold cp at h;split at h
 ·rename_i e;(replace h:=ax h;subst h);exact ar _ e rfl
 injection h
noncomputable def fk(l:List Stmt)(i:Nat):Stmt:=l.getD i (.Pass ⟨0,0,0,0⟩)
noncomputable def sk:Stmt->Str×gQ×List Stmt×bS
 |.FunctionDef n a b _ _ _ s _ _ _=>(n,a,b,s)
 |.ClassDef _ _ _ b _ _ _ _ _ _ _=>("",⟨[],[],iF,[],[],iF,[]⟩,b,{ kind:=.function,names:=[],isGenerator:=false,isCoroutine:=false })
 |.For _ _ b _ _=>("",⟨[],[],iF,[],[],iF,[]⟩,b,{ kind:=.function,names:=[],isGenerator:=false,isCoroutine:=false })
 |.While _ b _ _=>("",⟨[],[],iF,[],[],iF,[]⟩,b,{ kind:=.function,names:=[],isGenerator:=false,isCoroutine:=false })
 |_=>("",⟨[],[],iF,[],[],iF,[]⟩,[],{ kind:=.function,names:=[],isGenerator:=false,isCoroutine:=false })
noncomputable def nameOf(s:Stmt):Str:=(sk s).1
noncomputable def B?(s:Stmt):gQ:=(sk s).2.1
noncomputable def bodyOf(s:Stmt):List Stmt:=(sk s).2.2.1
noncomputable def aH(s:Stmt):bS:=(sk s).2.2.2
structure di(K:Frag)(f:Addr)(st:Stmt)(qual:Str)(dV kV aA:ab):Prop where
 fn:∃doc pm an ct,cp K f=wf (fnX (nameOf st) qual (B? st) (bodyOf st) (aH st) [] dV kV doc pm an aA ct)
 code:codeIn K aA qual=true
 co:(aH st).isCoroutine=false
 gen:(aH st).isGenerator=false
 kind:(aH st).kind=.function
noncomputable abbrev bY(qual:Str)(st:Stmt)(L f:Addr)(aA:ab)(cells:List (Str×Addr)):Env:=envX qual (aH st) L f aA cells
noncomputable abbrev gF(st:Stmt)(qual:Str)(dV kV doc pm:ab)(an:Option Addr)(aA ct:ab):sF:=fnX (nameOf st) qual (B? st) (bodyOf st) (aH st) [] dV kV doc pm an aA ct
theorem lu{env:Env}{qual:Str}{fs:Stmt}{L f:Addr}{aA:ab}{cells:List (Str×Addr)}{x:Str}{k:c5}(a:env=bY qual fs L f aA cells)(h:(aH fs).names.lookup x=wf k):env.kindOf x=wf k:=aa a h
section
variable{c:Cx}{R:af}{ρ:Str->Option AV}{H:af}{s:ae}{A:aD}{E:ab->ae->Prop}{f:Addr}{fs:Stmt}{qual:Str}{dV kV aA:ab}{pos:List ab}{kw:List (Str×ab)}{binds:List (Str×ab)}{d:Nat}{Q:ab->ae->Prop}
theorem ye(i:di c.G.K f fs qual dV kV aA)(ok:c.Ok)(n:bL c A (d+1))(st:St c R ρ H s)(b:∀doc pm an ct,kI s (gF fs qual dV kV doc pm an aA ct) ⟨pos,kw⟩ binds)(g:(binds.all λy=>decide ((aH fs).names.lookup y.1=wf .local))=true)(a:((aH fs).names.all λx=>decide (x.2≠.cell))=true)(h:∀c' q L' s',c'.Ok->c'.G=c.G->c'.bd=bY qual fs L' f aA []->bL c' q d->St c' (upd R c.L (.ns ρ)) (λx=>(binds.reverse.lookup x).map abs) H s' ->al c'.M q (eo (bodyOf fs) c'.bd) (Back c c' R ρ Q) (λl l=>False) s') :
  al c.M A (call (.ref f) pos kw) Q E s:=by
 refine lC i.fn λdoc pm an ct e=>(ak (mM e) λo u t=>?_);refine ak st.fr λm F l=>?_
 have p:=ok.K.keeps F.keep;refine jk (qA ok (by have:=n.depth;exact m8 this) st (p _ _ u) t (nR p i.code) (b doc pm an ct) (locs g) (λx r=>of_decide_eq_true (eE.mp a x r)) i.co i.gen i.kind λL' s' k j=>?_);exact h _ _ L' s' k rfl rfl (n.on _) j
theorem tV(i:di c.G.K f fs qual dV kV aA)(ok:c.Ok)(n:bL c A (d+1))(st:St c R ρ H s)(b:∀doc pm an ct,kI s (gF fs qual dV kV doc pm an aA ct) ⟨pos,kw⟩ binds)(g:(binds.all λy=>decide ((aH fs).names.lookup y.1=wf .local))=true)(a:((aH fs).names.all λx=>decide (x.2≠.cell))=true)(h:∀c' q L' s',c'.Ok->c'.G=c.G->c'.h₀=c.h₀->c'.outer=c.bd::c.outer->c'.bd=bY qual fs L' f aA []->bL c' q d->St c' (upd R c.L (.ns ρ)) (λx=>(binds.reverse.lookup x).map abs) H s' ->al c'.M q (eo (bodyOf fs) c'.bd) (Back c c' R ρ Q) (λl l=>False) s') :
  al c.M A (call (.ref f) pos kw) Q E s:=by
 refine lC i.fn λdoc pm an ct e=>(ak (mM e) λo u t=>?_);refine ak st.fr λm F l=>?_
 have p:=ok.K.keeps F.keep;refine jk (qA ok (by have:=n.depth;exact m8 this) st (p _ _ u) t (nR p i.code) (b doc pm an ct) (locs g) (λx r=>of_decide_eq_true (eE.mp a x r)) i.co i.gen i.kind λL' s' k j=>?_);exact h _ _ L' s' k rfl rfl rfl rfl (n.on _) j
theorem ym{Rr:fP->ae->Prop}(i:di c.G.K f fs qual dV kV aA)(ok:c.Ok)(p:bL c A (d+1))(st:St c R ρ H s)(b:∀doc pm an ct,kI s (gF fs qual dV kV doc pm an aA ct) ⟨pos,kw⟩ binds)(g:(binds.all λy=>decide ((aH fs).names.lookup y.1=wf .local))=true)(a:((aH fs).names.all λx=>decide (x.2≠.cell))=true)(h:∀c' r L' s',c'.Ok->c'.G=c.G->c'.bd=bY qual fs L' f aA []->bL c' r d->St c' (upd R c.L (.ns ρ)) (λx=>(binds.reverse.lookup x).map abs) H s' ->al c'.M r (eo (bodyOf fs) c'.bd) (Back c c' R ρ λv k=>Rr (.ok (.ret v)) k) (λn n=>False) s') :
  dB c.M A (.call (.ref f) ⟨pos,kw⟩) Rr s:=by
 refine lC i.fn λdoc pm an ct e=>(ak (mM e) λo w u=>?_);refine ak st.fr λm F n=>?_
 have q:=ok.K.keeps F.keep;refine qA ok (by have:=p.depth;exact m8 this) st (q _ _ w) u (nR q i.code) (b doc pm an ct) (locs g) (λx t=>of_decide_eq_true (eE.mp a x t)) i.co i.gen i.kind λL' s' l j=>?_
 exact h _ _ L' s' l rfl rfl (p.on _) j
theorem Cw{C:Addr}(a:bL c A (d+1)):bL c (A.under (.builtin "type.__call__" ⟨.ref C::pos,kw⟩)) d:=by
 refine⟨?_,?_,?_,a.handled⟩
 ·exact a.frames
 ·have:=a.depth;exact A! this
 have:=a.units;show A.units+(Code.builtin "type.__call__" ⟨.ref C::pos,kw⟩).cUnits+20*d<_;have e:(Code.builtin "type.__call__" ⟨.ref C::pos,kw⟩).cUnits<=4:=by exact bl rfl
 exact O5 this e
theorem v?{d':Nat}(a:bL c A d)(h:d'<=d):bL c A d':=⟨a.frames,by have:=a.depth;exact O7 h this,by have:=a.units;exact O8 h this,a.handled⟩
theorem Ge(i:di c.G.K f fs qual dV kV aA)(ok:c.Ok)(p:bL c A (d+1))(st:St c R ρ H s)(g:∀doc pm an ct,kI s (gF fs qual dV kV doc pm an aA ct) ⟨pos,kw⟩ binds)(b:(binds.all λy=>(aH fs).names.lookup y.1==wf .local||(aH fs).names.lookup y.1==wf .cell)=true)(n:((aY 0 (aH fs).names []).map (·.1)).Nodup)(h:∀L' s',(c.on (bY qual fs L' f aA (aY (L'+1) (aH fs).names []))).Ok->bL (c.on (bY qual fs L' f aA (aY (L'+1) (aH fs).names []))) (A.deeper (bY qual fs L' f aA (aY (L'+1) (aH fs).names []))) d ->
   (∀a,H a≠iF\/upd R c.L (.ns ρ) a≠iF->a<L') ->
   St (c.on (bY qual fs L' f aA (aY (L'+1) (aH fs).names []))) (upd R c.L (.ns ρ)) (λx=>(bindL (λy=>(aH fs).names.lookup y) binds (λj=>iF) x).map abs) (gD (bindC (λy=>(aH fs).names.lookup y) binds λj=>iF) (aY (L'+1) (aH fs).names []) H) s' ->
   al c.M (A.deeper (bY qual fs L' f aA (aY (L'+1) (aH fs).names []))) (eo (bodyOf fs) (bY qual fs L' f aA (aY (L'+1) (aH fs).names []))) (Back c (c.on (bY qual fs L' f aA (aY (L'+1) (aH fs).names []))) R ρ Q) (λj j=>False) s') :
  al c.M A (call (.ref f) pos kw) Q E s:=by
 refine lC i.fn λdoc pm an ct e=>(ak (mM e) λo u t=>?_);refine ak st.fr λm F j=>?_
 have q:=ok.K.keeps F.keep;refine jk (Gf ok (by have:=p.depth;exact m8 this) st (q _ _ u) t (nR q i.code) (g doc pm an ct) b n i.co i.gen i.kind λL' s' l r k=>?_);exact h L' s' l (p.on _) r k
theorem iM{fd:sF}{args:Args}(ok:c.Ok)(st:St c R ρ H s)(e:∀S,peek c.G.K S (e! fd args)=wf binds):kI s fd args binds:=by
 refine ak st.fr λm F a=>?_
 exact kp_binds (ok.K.keeps F.keep) e
end
section
variable{c:Cx}{R:af}{ρ:Str->Option AV}{H:af}{s:ae}{A:aD}{E:ab->ae->Prop}{x:Str}{pos:Pos}{av:AV}{a:Addr}{v:ab}{Q:ab->ae->Prop}{i:Int}{qual:Str}{fs:Stmt}{L f:Addr}{aA:ab}{cells:List (Str×Addr)}
theorem aS(st:St c R ρ H s)(ok:c.Ok)(e:c.bd=bY qual fs L f aA cells)(d:ρ x=wf (.ref a))(b:(aH fs).names.lookup x=wf .local)(h:Q (.ref a) s)(g:autoParam ((x==("__debug__":Str))=false) g6):al c.M A (eval (.Name x pos) c.bd) Q E s:=Ls st d h rfl ok.fn (lu e b) g
theorem bV(st:St c R ρ H s)(ok:c.Ok)(d:c.bd=bY qual fs L f aA cells)(b:ρ x=wf (.int i))(a:(aH fs).names.lookup x=wf .local)(h:∀t,Q (.int i t) s)(e:autoParam ((x==("__debug__":Str))=false) g6):al c.M A (eval (.Name x pos) c.bd) Q E s:=Lr st b h rfl ok.fn (lu d a) e
theorem mZ(st:St c R ρ H s)(ok:c.Ok)(d:c.bd=bY qual fs L f aA cells)(b:ρ x=wf av)(a:(aH fs).names.lookup x=wf .local)(h:∀v,abs v=av->Q v s)(e:autoParam ((x==("__debug__":Str))=false) g6):al c.M A (eval (.Name x pos) c.bd) Q E s:=vh st b h rfl ok.fn (lu d a) e
theorem cO{Q:Unit->ae->Prop}(st:St c R ρ H s)(ok:c.Ok)(b:c.bd=bY qual fs L f aA cells)(a:(aH fs).names.lookup x=wf .local)(h:∀s',St c R (put ρ x (abs v)) H s'->Q () s'):al c.M A (ml c.bd x v) Q E s:=CZ st h rfl ok.fn (lu b a)
theorem mY(st:St c R ρ H s)(ok:c.Ok)(b:c.bd=bY qual fs L f aA cells)(e:nsIn c.G.K b7 x=wf (wf v))(a:(aH fs).names.lookup x=wf .globalImplicit)(h:Q v s)(d:autoParam ((x==("__debug__":Str))=false) g6):al c.M A (eval (.Name x pos) c.bd) Q E s:=As ok st e h ok.glob ok.fn (lu b a) d
theorem ku(st:St c R ρ H s)(ok:c.Ok)(g:c.bd=bY qual fs L f aA cells)(e:nsIn c.G.K b7 x=wf iF)(b:eH x=wf v)(d:x≠"__name__")(a:(aH fs).names.lookup x=wf .globalImplicit)(h:Q v s)(i:autoParam ((x==("__debug__":Str))=false) g6):al c.M A (eval (.Name x pos) c.bd) Q E s:=vg ok st e b d h ok.glob ok.blt ok.fn (lu g a) i
end
section
variable{c:Cx}{R:af}{ρ:Str->Option AV}{H:af}{s:ae}{m:Str->Option ab}
theorem St.oF(st:St c R ρ H s):∃m,Fr c.h₀ c.L s.heap m/\∀{h':Heap} {tk:Nat},Fr c.h₀ c.L h' m->News c.h₀ c.L h' st.nw->St c R ρ H { s with heap:=h',toks:=tk }:=by
 refine ak st.fr λm F a=>?_
 exact ar m F (λ{h'} {tk} d b=>st.carry (s':={ s with heap:=h',toks:=tk }) d a b (by have e:=st.sh;(exact aa e rfl)))
theorem AB(st:St c R ρ H s){x:Addr}(a:∀p∈st.nw,p.1<x):H x=iF/\R x=iF/\st.T x=iF:=by
 refine aC ?_ ?_ ?_
 ·cases q:H x with
  |none=>rfl
  |some ao=>obtain⟨o,e,_⟩:=st.own x ao q;exact GM (a (x,o) (st.kr q e)) (dz _)
 ·cases q:R x with
  |none=>rfl
  |some ao=>obtain⟨o,e,_⟩:=st.bP x ao q;exact GM (a (x,o) (st.inR q e)) (dz _)
 cases q:st.T x with
 |none=>rfl
 |some ao=>obtain⟨o,e,_⟩:=st.gO.own x ao q;exact GM (a (x,o) (st.o0 q e)) (dz _)
theorem St.tH(st:St c R ρ H s){x:Addr}(h:s.heap.objs.size<=x):st.T x=iF:=by
 cases z:st.T x with
 |none=>rfl
 |some w=>refine ak (st.gO.own x w z) λa b a=>?_;exact GM (cZ b) (nJ h)
theorem St.grow(st:St c R ρ H s){h':Heap}{tk:Nat}{x:Addr}{o:Obj}{ao:AO}(d:St c R ρ H { s with heap:=h',toks:=tk })(h:h'.get? x=wf o)(m:x≠c.L)(i:c.h₀.get? x=iF)(n:3<x)(l:R x=iF)(hi:ao.Is o)(k:st.T x=iF)(N:∀p∈st.nw,h'.get? p.1=wf p.2)(j:autoParam (ao.links=[]) cN) :
  St c R ρ (upd H x ao) { s with heap:=h',toks:=tk }:=by
 refine⟨d.fr,λa y e=>?_,d.bP,λa e=>?_,d.sh,⟨st.T,st.gO.to (λa o e q=>N (a,o) ((ii st).mpr ⟨.inr (.inr e),q⟩)) λb y e=>(i_ b y e).imp id λ⟨g,f⟩=>⟨by(refine aa g ?_);exact k,aa f j⟩⟩⟩
 ·by_cases q:a=x
  ·subst q;rw[am] at e;(replace e:=ax e;subst e);exact dp o h hi m i n
  (replace e:=(aj q)▸e);exact d.own a y e
 by_cases q:a=x
 ·subst q;exact l
 (replace e:=(aj q)▸e);exact d.aF a e
noncomputable def iZ(D:Addr)(o':Obj)(news:List (Addr×Obj)):List (Addr×Obj):=news.map λp=>if p.1=D then(D,o') else p
theorem WR{D:Addr}{o o':Obj}:∀{news:List (Addr×Obj)},(news.map (·.1)).Nodup->(D,o)∈news->Upd D o o' news (iZ D o' news):=by
 intro l0;induction l0 with
 |nil =>intros;simp at *
 |cons f r g =>
  obtain⟨a,x⟩:=f;intro hn d;rw[bq] at hn;replace hn:=dq.mp (hn);by_cases q:a=D
  ·subst q;have h:x=o:=by
    obtain e|e:=aW.mp d
    ·exact(eG e).2.symm
    exact GM (bh.mpr (ar _ e rfl)) hn.1
   refine az h ?_
   have c:=λp hp e=>hn.1 (bh.mpr (ar p hp e));have:iZ a o' ((a,x)::r)=(a,o')::r:=by
    delta iZ;refine aa bq ?_;refine aa (FB rfl) ?_
    congr 1;exact(kN λp hp=>Da (c p hp)).trans (List.map_id' r)
   refine aa this ?_
   exact .head c
  have b:(D,o)∈r:=by
   obtain e|e:=aW.mp d
   ·exact GM (eG e).1.symm q
   exact e
  have:iZ D o' ((a,x)::r)=(a,x)::iZ D o' r:=by delta iZ;refine aa bq ?_;exact aa (Da q) rfl
  refine aa this ?_
  exact .tail q (g hn.2 b)
theorem Lz{h:Heap}{R H:af}:((rD h R H).map (·.1)).Nodup:=by
 refine aa xi ?_
 have key:∀l:List Nat,l.Nodup->(l.filterMap λa=>xC (λp:Addr×Obj=>p.1) (match H a,R a with|none,iF=>iF|_,_=>(h.get? a).map λo=>(a,o))).Nodup:=by
  intro l;induction l with
  |nil=>intro _;exact .nil
  |cons a r ih =>
   intro hn;replace hn:=dq.mp (hn);refine aa nA ?_
   have zD:∀b x,xC (λp:Addr×Obj=>p.1) (match H b,R b with|none,iF=>iF|_,_=>(h.get? b).map λo=>(b,o))=wf x->x=b:=by
    intro b x e;refine ak (bu.mp e) λp e1 e2=>?_
    split at e1
    ·injection e1
    refine ak (bu.mp e1) λo _ e4=>?_
    refine az e2 ?_;exact az e4 rfl
   split
   ·exact ih hn.2
   rename_i x e;refine dq.mpr ⟨λhm=>?_,ih hn.2⟩;refine ak (xl.mp hm) λb hb eb=>?_
   have h1:=zD a x e;have h2:=zD b x eb;exact hn.1 (by(refine az h1 ?_;refine aa h2 ?_);exact hb)
 exact key _ List.nodup_range
theorem St.m5(st:St c R ρ H s){D:Addr}{ao ao':AO}{o o':Obj}(h:H D=wf ao)(v:s.heap.get? D=wf o)(hi:ao'.Is o')(w:autoParam (ao'.links=[]) cN) :
  ∃m,Fr c.h₀ c.L s.heap m/\Upd D o o' st.nw (iZ D o' st.nw) /\
   ∀{h':Heap} {tk:Nat},Fr c.h₀ c.L h' m->News c.h₀ c.L h' (iZ D o' st.nw)->St c R ρ (upd H D ao') { s with heap:=h',toks:=tk }:=by
 refine ak st.fr λm F u=>?_
 have p:(D,o)∈st.nw:=st.kr h v;refine aR m F (WR Lz p) (λ{h'} {tk} B j=>?_);have same:∀b d,b≠D->(b,d)∈st.nw->(b,d)∈iZ D o' st.nw:=λb d q A=>bh.mpr (ar (b,d) A (Da q));have g:(D,o')∈iZ D o' st.nw:=bh.mpr (ar (D,o) p (FB rfl));have n:st.T D=iF:=st.gO.ne (.inl h);refine⟨⟨m,B,u⟩,λa x e=>?_,λa x e=>?_,λa e=>?_,by have e:=st.sh;(exact aa e rfl),⟨st.T,st.gO.to (λa o e q=>(j _ (same a o (λz=>e (aa z n)) ((ii st).mpr ⟨.inr (.inr e),q⟩))).1) λb y e=>(i_ b y e).imp id λ⟨t,r⟩=>⟨aa t n,aa r w⟩⟩⟩
 ·by_cases q:a=D
  ·subst q;rw[am] at e;(replace e:=ax e;subst e);refine dD (st.own _ _ h) λf f f f f i=>?_
   have z:=j _ g;exact dp o' z.1 hi z.2.1 z.2.2 i
  replace e:=(aj q)▸e;refine dD (st.own a x e) λd l k f f i=>?_
  have z:=j _ (same a d q (st.kr e l));exact dp d z.1 k z.2.1 z.2.2 i
 ·refine dD (st.bP a x e) λd l k f f i=>?_
  have q:a≠D:=by rintro rfl;(replace e:=(st.aF a (by(refine aa h ?_);intro z;injection z))▸e);injection e
  have z:=j _ (same a d q (st.inR e l));exact dp d z.1 k z.2.1 z.2.2 i
 by_cases q:a=D
 ·subst q;exact st.aF a (by(refine aa h ?_);intro z;injection z)
 rw[aj q] at e;exact st.aF a e
end
section
variable{c:Cx}{R:af}{ρ:Str->Option AV}{H:af}{s:ae}{A:aD}{E:ab->ae->Prop}{l:Addr}{xs ys:List AV}{k:Int}{t u:Tok}{av:AV}{Q:ab->ae->Prop}
theorem St.u7(ok:c.Ok)(st:St c R ρ H s):c.G.K.In s.heap:=let⟨_,F,_⟩:=st.fr;ok.K.keeps F.keep
theorem uX{a slice:Expr}(st:St c R ρ H s)(f:b9 c H l xs)(m:0<=k)(b:xs[k.toNat]?=wf av)(g:k<2^63)(h:∀v,abs v=av->Q v s)(hs:autoParam (gZ slice false (.ref l) (.int k t)=gX [.ref l,.int k t] (gV (.ref l) (.int k t))) aU) :
  al c.M A (tu a slice (.ref l) (.int k t)) Q E s:=by
 refine ak (st.list f) λvs d e=>?_
 rw[<-e,bp] at b;refine ak (bu.mp b) λv j i=>?_
 exact qm d.typeIs xJ.lookup (wpAny_getItem_list d m g (by simpa using j) (h v i)) hs
theorem Jl{a slice:Expr}(st:St c R ρ H s)(g:b9 c H l xs)(o:k<0)(n:-(xs.length:Int)<=k)(d:xs[(k+xs.length).toNat]?=wf av)(i:-(2^63)<=k)(h:∀v,abs v=av->Q v s)(hs:autoParam (gZ slice false (.ref l) (.int k t)=gX [.ref l,.int k t] (gV (.ref l) (.int k t))) aU) :
  al c.M A (tu a slice (.ref l) (.int k t)) Q E s:=by
 refine ak (st.list g) λvs f e=>?_
 have b:vs.length=xs.length:=by rw[<-e,aw]
 rw[<-e,bp,aw] at d;refine ak (bu.mp d) λv m j=>?_
 exact qm f.typeIs xJ.lookup (wpAny_getItem_list_neg f o (aa dh (aa b n)) i (by simpa using m) (h v j)) hs
theorem rr(st:St c R ρ H s)(b:b9 c H l xs)(hz:xs.length<2^62)(h:∀t s',St c R ρ H s'->Q (.int xs.length t) s'):al c.M A (call (.builtin "len") [.ref l]) Q E s:=by
 refine ak (st.list b) λvs d e=>?_
 have a:vs.length=xs.length:=by rw[<-e,aw]
 refine Calls.call_len_list d (aa dh (aa a (vN hz))) ?_
 refine aa dh ?_;refine aa a ?_
 exact h _ _ (st.toks _)
theorem z!(st:St c R ρ H s)(f:H l=wf (.tuple xs))(hz:xs.length<2^62)(h:∀t s',St c R ρ H s'->Q (.int xs.length t) s'):al c.M A (call (.builtin "len") [.ref l]) Q E s:=by
 refine bJ (st.get f) λo d vs n b e=>?_
 obtain rfl:=b;have a:vs.length=xs.length:=by rw[<-e,aw]
 refine PyProof.Rows.len_tuple (lW _ d rfl n rfl) (aa dh (aa a (vN hz))) ?_
 refine aa dh ?_;refine aa a ?_
 exact h _ _ (st.toks _)
theorem WL{Q:Bool->ae->Prop}(st:St c R ρ H s)(b:b9 c H l xs)(hz:xs.length<2^62)(h:∀s',St c R ρ H s'->Q (!xs.isEmpty) s'):al c.M A (truthy (.ref l)) Q E s:=by
 refine ak (st.list b) λvs d e=>?_
 have a:vs.length=xs.length:=by rw[<-e,aw]
 refine wpAny_truthy_list d (aa dh (aa a (vN hz))) ?_
 have:(!vs.toArray.isEmpty)=!xs.isEmpty:=by(refine az e ?_);simp
 refine aa this ?_
 exact h _ (st.toks _)
theorem tupleOf(ok:c.Ok)(st:St c R ρ H s)(f:b9 c H l xs)(hz:xs.length<=cB)(h:∀a s',H a=iF->St c R ρ (upd H a (.tuple xs)) s'->Q (.ref a) s'):al c.M A (call (.type "tuple") [.ref l]) Q E s:=by
 refine ak (st.list f) λvs i e=>?_
 have d:vs.length=xs.length:=by rw[<-e,aw]
 refine call_tuple_list i (λh' g=>?_) (aa dh (aa d hz));have b:St c R ρ H { s with heap:=h' }:=st.keeps (tk:=s.toks) g;exact h _ _ b.cV (b.alloc ok (o:={ cls:=.type "tuple",data:=.seq vs.toArray }) (ao:=.tuple xs) (a_ vs 0 rfl e) rfl)
theorem iV{vs:List ab}(ok:c.Ok)(st:St c R ρ H s)(hz:vs.length<=cB)(h:∀a s',H a=iF->St c R ρ (upd H a (.list (vs.map abs))) s'->Q (.ref a) s'):al c.M A (newList vs) Q E s :=n8 (h _ _ st.cV (st.alloc ok (o:={ cls:=.type "list",data:=.seq vs.toArray }) (ao:=.list (vs.map abs)) (a_ vs 0 rfl rfl) rfl)) (by show vs.toArray.size<=cB;(refine aa dh ?_);exact hz)
theorem Ly{vs:List ab}(ok:c.Ok)(st:St c R ρ H s)(hz:vs.length<=cB)(h:∀a s',H a=iF->St c R ρ (upd H a (.tuple (vs.map abs))) s'->Q (.ref a) s'):al c.M A (qj vs) Q E s :=n8 (h _ _ st.cV (st.alloc ok (o:={ cls:=.type "tuple",data:=.seq vs.toArray }) (ao:=.tuple (vs.map abs)) (a_ vs 0 rfl rfl) rfl)) (by show vs.toArray.size<=cB;(refine aa dh ?_);exact hz)
theorem ju{x:ab}(st:St c R ρ H s)(d:H l=wf (.list xs))(hz:xs.length<=cB)(h:∀s',St c R ρ (upd H l (.list (xs++[abs x]))) s'->Q .none s'):al c.M A (call (.builtin "list.append") [.ref l,x]) Q E s:=by
 refine bJ (st.get d) λo g vs n f e=>?_
 obtain rfl:=f;have a:vs.length=xs.length:=by rw[<-e,aw]
 refine aB (st.m5 (ao':=.list (xs++[abs x])) (o':=listOf (vs.toArray.push x) (n+1)) d g (a_ (vs++[x]) (n+1) (by simp) (by simp[e]))) λm F U b=>?_
 exact append_K F st.news U (λh' j i=>h _ (b j i)) (aa dh (aa a hz))
theorem JJ{x:ab}(st:St c R ρ H s)(f:H l=wf (.list xs))(g:0<=k)(b:k<=xs.length)(hz:xs.length<=cB)(h:∀s',St c R ρ (upd H l (.list (xs.take k.toNat++abs x::xs.drop k.toNat))) s'->Q .none s') :
  al c.M A (call (.builtin "list.insert") [.ref l,.int k t,x]) Q E s:=by
 refine bJ (st.get f) λo j vs n i e=>?_
 obtain rfl:=i;have a:vs.length=xs.length:=by rw[<-e,aw]
 have hi:kl_ins vs k x=vs.take k.toNat++x::vs.drop k.toNat:=by delta kl_ins;refine aa (Da (A? g)) ?_;exact aa (EA (O9 b a)) rfl
 refine aB (st.m5 (ao':=.list (xs.take k.toNat++abs x::xs.drop k.toNat)) (o':=listOf (vs.take k.toNat++x::vs.drop k.toNat).toArray (n+1)) f j (a_ _ (n+1) rfl (aa bf (aa bq (aa nD (aa nB (aa e rfl))))))) λm F U d=>(kl_insert F st.news ?_ hi U (aa nG (aa a hz)) (λh' q p=>h _ (d q p)));have hs:(xs.length:Int)<=2^24:=by rw[bW] at hz;exact A_ hz
 exact fitsIndex_of g (O' b hs)
theorem J':∀(l:List ab) (k:Nat) (h:k<l.length),kl_cut l k=wf (l.take k,l[k],l.drop (k+1)):=by
 intro l0;induction l0 with
 |nil =>intros;contradiction
 |cons x r a =>
  intro m0;cases m0 with
  |zero =>intro _;exact rfl
  |succ k =>intro h;have:=a k (by simpa using h);simp[kl_cut,this]
theorem v3(st:St c R ρ H s)(f:H l=wf (.list (xs++[av])))(hz:xs.length<cB)(h:∀v s',abs v=av->St c R ρ (upd H l (.list xs)) s'->Q v s'):al c.M A (call (.builtin "list.pop") [.ref l]) Q E s:=by
 refine bJ (st.get f) λo j vs n g e=>?_
 obtain rfl:=g;have a:vs.length=xs.length+1:=by have:=congrArg hU e;simpa using this
 obtain⟨p,y,rfl⟩:∃p y,vs=p++[y]:=by
  refine cg (w? vs) (λd=>?_) (λi=>fM i λp y d=>?_)
  ·subst d;simp at a
  exact dT p y (by(refine aa d ?_);simp)
 rw[bf,bq,nC] at e;obtain⟨q,k⟩:=List.append_inj' e rfl;refine aB (st.m5 (ao':=.list xs) (o':=listOf p.toArray (n+1)) f j (a_ p (n+1) rfl q)) λm F U b=>?_
 exact kl_pop F st.news (kpa_last y p) U (aa nG (aa a (Ba hz))) (λh' t r=>h y _ (List.head_eq_of_cons_eq k) (b t r))
theorem U6(st:St c R ρ H s)(j:H l=wf (.list xs))(i:0<=k)(g:xs[k.toNat]?=wf av)(hz:xs.length<=cB)(h:∀v s',abs v=av->St c R ρ (upd H l (.list (xs.eraseIdx k.toNat))) s'->Q v s') :
  al c.M A (call (.builtin "list.pop") [.ref l,.int k t]) Q E s:=by
 refine bJ (st.get j) λo q vs n p e=>?_
 obtain rfl:=p;have a:vs.length=xs.length:=by rw[<-e,aw]
 have b:k.toNat<vs.length:=aa a ((dG.mp g).1);have hs:(xs.length:Int)<=2^24:=by rw[bW] at hz;exact A_ hz
 have d:=J' vs k.toNat b;have x:vs.take k.toNat++vs.drop (k.toNat+1)=vs.eraseIdx k.toNat:=(nz vs k.toNat).symm;refine aB (st.m5 (ao':=.list (xs.eraseIdx k.toNat)) (o':=listOf (vs.take k.toNat++vs.drop (k.toNat+1)).toArray (n+1)) j q (a_ _ (n+1) rfl (by rw[<-e,bf,nD,nB,nz]))) λm F U f=>(kl_popAt F st.news (fitsIndex_of i (O! a b hs)) (k:=k.toNat) ?_ d U (aa nG (aa a hz)) (λh' w u=>h _ _ ?_ (f w u)))
 ·have r:k.toNat<vs.toArray.size:=aa dh b;unfold seqIndex?
  refine aa (Da (A? i:¬k<0)) ?_;exact aa (FB (by rw[f_,decide_eq_true_eq,decide_eq_true_eq];exact⟨i,(by exact O? r:k<(vs.toArray.size:Int))⟩)) rfl
 rw[<-e,bp,cz b] at g;exact ax g
theorem Gk(st:St c R ρ H s)(d:H l=wf (.list xs))(hz:xs.length<=cB)(h:∀s',St c R ρ (upd H l (.list [])) s'->Q .none s'):al c.M A (call (.builtin "list.clear") [.ref l]) Q E s:=by
 refine bJ (st.get d) λo b vs n f e=>?_
 obtain rfl:=f;have a:vs.length=xs.length:=by rw[<-e,aw]
 refine th PySem.F.slot_list_clear (ar _ b rfl) PySem.F.entry_list_clear (PySem.F.args_list_clear_1 _) (PySem.AutoSeq1.list_clear_list_0 l vs.toArray n (aa dh (aa a hz))) ⟨b,h _ ?_⟩;have q:=PySem.IsL.update (b) λg=>#[];exact st.set (tk:=s.toks) d (l6 ..) q (a_ [] _ rfl rfl)
end
section
variable{c:Cx}{R R₀:af}{ρ:Str->Option AV}{H:af}{s:ae}{A:aD}{E:ab->ae->Prop}{env:Env}
theorem St.WP{it:Addr}{k:AO}(st:St c (upd R it k) ρ H s)(h:R it=iF):St c R ρ H s :=
 st.GY λa ao e=>by
  by_cases q:a=it
  ·subst q;(replace e:=h▸e);injection e
  (refine aa (aj q) ?_);exact e
theorem St.ended{it:Addr}{k:AO}{h':Heap}{tk:Nat}(st:St c (upd R it k) ρ H s)(f:R it=iF)(d:Heap.ExtBut it s.heap h'):St c R ρ H { s with heap:=h',toks:=tk }:=by
 have g:=st.bP it k (am ..);refine dD g λo p n j i l=>?_
 have h:∀a ao,H a=wf ao->a≠it:=by rintro a ao e rfl;have:=st.aF a (by(refine aa e ?_);intro z;injection z);rw[am] at this;injection this
 refine⟨?_,λa ao e=>(st.own a ao e).mono λo q=>d a o (h a ao e) q,λa ao e=>?_,λa e=>?_,by have e:=st.sh;(exact aa e rfl),?_⟩
 rotate_right
 ·obtain⟨T,t⟩:=st.tb;exact xE T (t.to (λa o e q=>d a o (λz=>e (aa z (t.ne (.inr (am ..))))) q) λb x e=>.inl (e.imp id λw=>aa (aj (λq=>by rw[q,f] at w;injection w)) w))
 ·refine ak st.fr λm F r=>(ar m ⟨?_,λb o e=>d b o ?_ (F.keep b o e),F.above⟩ r)
  ·exact F.ns.at' λo q=>d _ o (aI j) q
  rintro rfl;rw[i] at e;injection e
 ·have q:a≠it:=λq=>by first|(rw[q,f] at e;injection e)|(rw[<-q,f] at e;cases e)
  exact(st.bP a ao (by(refine aa (aj q) ?_);exact e)).mono λo z=>d a o q z
 have:=st.aF a e;by_cases q:a=it
 ·subst q;exact f
 rwa [aj q] at this
structure h8(c:Cx)(A:aD)(it:Addr)(xs:List AV)(K:Nat->AO)(Bk:af->Prop):Prop where
 item:∀{R ρ H s E} {Q:Option ab->ae->Prop} {i av},xs[i]?=wf av->R it=iF->Bk H->St c (upd R it (K i)) ρ H s->(∀v s',abs v=av->St c (upd R it (K (i+1))) ρ H s'->Q (wf v) s')->al c.M A (kS (.ref it)) Q E s
 done:∀{R ρ H s E} {Q:Option ab->ae->Prop},R it=iF->Bk H->St c (upd R it (K xs.length)) ρ H s->(∀s',St c R ρ H s'->Q iF s')->al c.M A (kS (.ref it)) Q E s
 self:∀{R ρ H s E} {Q:ab->ae->Prop} {i},R it=iF->St c (upd R it (K i)) ρ H s->Q (.ref it) s->al c.M A (gY (.ref it)) Q E s
noncomputable def jR(l:Addr)(i:Nat):AO:=.obj λo=>o.cls=.type "tuple_iterator"/\o.data=.fields #[.ref l,.int i 0]
noncomputable def lL(a n:Int)(i:Nat):AO:=.obj λo=>o={ cls:=.type "range_iterator",data:=.fields #[eK (a+(i:Nat)*1),eK (n-(i:Nat)),eK 1] }
theorem u5{it l:Addr}{xs:List AV}(u:A.handled=iF):h8 c A it xs (c9 l) (λH=>b9 c H l xs) where
 item:=λ{R ρ H s E Q i av} t j m st h=>by
  refine aB (st.dk (am ..)) λo e f d=>(ak (st.list m) λvs n p=>?_);rw[<-p,bp] at t;refine ak (bu.mp t) λv y w=>(wpAny_pyNext_list_item (aR o e f d) n (x:=v) (by simpa using y) λh' a g=>h v _ w ?_);refine aB a λo' z r q=>?_
  have:=st.lQ (tk:=s.toks) (ao':=c9 l (i+1)) (am ..) g z ⟨r,q⟩;rwa [show upd (upd R it (c9 l i)) it (c9 l (i+1))=upd R it (c9 l (i+1)) from funext λb=>by unfold upd;split<;>rfl] at this
 done:=λ{R ρ H s E Q} j m st h=>by refine aB (st.dk (am ..)) λo e f d=>(ak (st.list m) λvs n p=>?_);refine wpAny_pyNext_list_end u (aR o e f d) n (by(refine az p ?_);simp) λh' k=>h _ (st.ended (tk:=s.toks) j k)
 self:=λ{R ρ H s E Q i} j st h=>by
  refine aB (st.dk (am ..)) λo e f d=>?_
  exact wpAny_pyIter_listiter (l:=l) (i:=i) (aR o e f d) h
theorem u3{l:Addr}{xs:List AV}{Q:ab->ae->Prop}(ok:c.Ok)(st:St c R ρ H s)(hl:b9 c H l xs)(h:∀it s',H it=iF->R it=iF->St c (upd R it (c9 l 0)) ρ H s'->Q (.ref it) s') :
  al c.M A (gY (.ref l)) Q E s:=by
 refine ak (st.list hl) λvs hL el=>(wpAny_pyIter_list hL (h _ _ st.cV st.iR ?_));have:=(st.alloc ok (o:={ cls:=.type "list_iterator",data:=.fields #[.ref l,.int 0 0] }) (ao:=c9 l 0) ⟨rfl,rfl⟩ rfl).hide (am ..);rwa [show del (upd H s.heap.objs.size (c9 l 0)) s.heap.objs.size=H from funext λb=>by
  unfold del upd;split
  ·rename_i e;(refine aa e ?_);exact st.cV.symm
  rfl] at this
theorem JX{it:Addr}{a:Int}{n:Nat}(u:A.handled=iF):h8 c A it ((hV n).map λ(i:Nat)=>AV.int (a+i)) (lL a n) (λB=>True) where
 item:=λ{R ρ H s E Q i av} q m v st h=>by
  refine ak (st.dk (am ..)) λo e t=>?_
  obtain rfl:=t;rw[bp] at q;refine ak (bu.mp q) λj f w=>?_
  obtain⟨r,f⟩:=dG.mp f;rw[p6] at r;rw[Ee] at f;subst f;refine wpAny_pyNext_range_item (x:=a+(i:Nat)*1) (left:=(n:Int)-(i:Nat)) (step:=1) e (Pa r) λh' d l=>h _ _ ?_ ?_
  ·(refine az w ?_);show AV.int _=_;congr 1;exact Pb
  have:=st.lQ (tk:=s.toks+1) (ao':=lL a n (i+1)) (am ..) l d (by
   have z:a+(i:Nat)*1+1=a+((i+1:Nat):Int)*1:=by push_cast;exact Pc
   have y:(n:Int)-(i:Nat)-1=(n:Int)-((i+1:Nat):Int):=by push_cast;exact Pd
   (refine aa z ?_;exact aa y rfl))
  rwa [show upd (upd R it (lL a n i)) it (lL a n (i+1))=upd R it (lL a n (i+1)) from funext λb=>by unfold upd;split<;>rfl] at this
 done:=λ{R ρ H s E Q} m v st h=>by
  refine ak (st.dk (am ..)) λo e k=>?_
  obtain rfl:=k;refine wpAny_pyNext_range_end u (x:=a+(((hV n).map λ(i:Nat)=>AV.int (a+i)).length:Nat)*1) (left:=(n:Int)-(((hV n).map λ(i:Nat)=>AV.int (a+i)).length:Nat)) (step:=1) e (by simp) λh' p=>h _ (st.ended (tk:=s.toks) m p)
 self:=λ{R ρ H s E Q i} m st h=>by
  refine ak (st.dk (am ..)) λo e g=>?_
  obtain rfl:=g;exact wpAny_pyIter_rangeiter e h
theorem rh{it l:Addr}{xs:List AV}(B:A.handled=iF):h8 c A it xs (jR l) (λH=>H l=wf (.tuple xs)) where
 item:=λ{R ρ H s E Q i av} y m q st h=>by
  refine aB (st.dk (am ..)) λo e g f=>(bJ (st.get q) λol a vs n z r=>?_);obtain rfl:=z;rw[<-r,bp] at y;refine ak (bu.mp y) λv D C=>(wpAny_pyNext_tuple_item (aR o e g f) (lW _ a rfl n rfl) (x:=v) (by simpa using D) λh' d k=>h v _ C ?_);refine aB d λo' F w u=>?_
  have:=st.lQ (tk:=s.toks) (ao':=jR l (i+1)) (am ..) k F ⟨w,u⟩;rwa [show upd (upd R it (jR l i)) it (jR l (i+1))=upd R it (jR l (i+1)) from funext λb=>by unfold upd;split<;>rfl] at this
 done:=λ{R ρ H s E Q} m q st h=>by refine aB (st.dk (am ..)) λo e g f=>(bJ (st.get q) λol a vs n j r=>?_);obtain rfl:=j;refine wpAny_pyNext_tuple_end B (aR o e g f) (lW _ a rfl n rfl) (by(refine az r ?_);simp) λh' p=>h _ (st.ended (tk:=s.toks) m p)
 self:=λ{R ρ H s E Q i} m st h=>by
  refine aB (st.dk (am ..)) λo e g f=>?_
  exact wpAny_pyIter_tupleiter (t:=l) (i:=i) (aR o e g f) h
theorem o7{l:Addr}{xs:List AV}{Q:ab->ae->Prop}(ok:c.Ok)(st:St c R ρ H s)(hl:H l=wf (.tuple xs))(h:∀it s',H it=iF->R it=iF->St c (upd R it (jR l 0)) ρ H s'->Q (.ref it) s') :
  al c.M A (gY (.ref l)) Q E s:=by
 refine bJ (st.get hl) λol IU vs n y2 el=>?_
 obtain rfl:=y2;refine wpAny_pyIter_tuple (lW _ IU rfl n rfl) (h _ _ st.cV st.iR ?_);have:=(st.alloc ok (o:={ cls:=.type "tuple_iterator",data:=.fields #[.ref l,.int 0 0] }) (ao:=jR l 0) ⟨rfl,rfl⟩ rfl).hide (am ..);rwa [show del (upd H s.heap.objs.size (jR l 0)) s.heap.objs.size=H from funext λb=>by
  unfold del upd;split
  ·rename_i e;(refine aa e ?_);exact st.cV.symm
  rfl] at this
theorem un{b:Expr}{body g:List Stmt}{it:Addr}{xs:List AV}{K:Nat->AO}{F:af->Prop}{Q:Flow->ae->Prop}{N:ab->ae->Prop}(u:h8 c A it xs K F)(y:R it=iF)(st:St c (upd R it (K 0)) ρ H s)(J:Nat->(Str->Option AV)->af->Prop)(E:∀i ρ H,J i ρ H->F H)(L:J 0 ρ H)(turn:∀i av R' ρ' H' s' v,xs[i]?=wf av->Sub R R'->(∀ρ H s,St c R' ρ H s->St c R ρ H s)->J i ρ' H'->St c R' ρ' H' s'->abs v=av ->
   ∀K:Flow->ae->Prop,K=(λf d=>match f with
    |.next|.cont=>∃a j,St c R' a j d/\J (i+1) a j
    |.brk=>Q .next d
    |.ret v=>Q (.ret v) d)->al c.M A (ge b env v) (λh m=>al c.M A (eo body env) K (λh h=>False) m) (λh h=>False) s')(fin:∀ρ' H' s',J xs.length ρ' H'->St c R ρ' H' s'->al c.M A (eo g env) Q (λh h=>False) s')(I:autoParam (∀v,kQ b (.ref it) v=pure ()) aU) :
  dB c.M A (.forLoop b (.ref it) body g env) (λr s'=>match r with|.ok f=>Q f s'|.error e=>N e s') s:=by
 refine codeAny_forLoop (λn s'=>∃i ρ' H',n+i=xs.length/\St c (upd R it (K i)) ρ' H' s'/\J i ρ' H') ?_ xs.length (sA 0 ρ H rfl st L) I
 intro n s' p;refine rK p λi ρ' H' l t B=>?_
 cases n with
 |zero =>
  have hi:i=xs.length:=by exact pn l
  subst hi;refine u.done y (E _ _ _ B) t λo k=>?_
  exact bx (fin ρ' H' o B k) (λf d q=>q) λh h z=>z.elim
 |succ n =>
  have x:i<xs.length:=by exact pq l
  refine u.item (av:=xs[i]) (by simp[x]) y (E _ _ _ B) t λv o G k=>(bx (turn i xs[i] _ ρ' H' o v (by simp[x]) ((Sub.refl R).upd y) (λρ H s st=>st.WP y) B k G _ rfl) (λh m w=>bx w (λf d q=>?_) λh h z=>z.elim) λh h z=>z.elim);cases f with
  |next=>obtain⟨a,j,D,C⟩:=q;exact Dz n (gc _) (i+1) a j (lE l) D C
  |cont=>obtain⟨a,j,D,C⟩:=q;exact Dz n (gc _) (i+1) a j (lE l) D C
  |brk=>exact q
  |ret v=>exact q
theorem qS{a:Expr}{body b:List Stmt}{it:Addr}{xs:List AV}{K:Nat->AO}{m:af->Prop}{Q:Flow->ae->Prop}{y:ab->ae->Prop}(l:h8 c A it xs K m)(p:R it=iF)(st:St c (upd R it (K 0)) ρ H s)(J:Nat->(Str->Option AV)->af->Prop)(w:∀i ρ H,J i ρ H->m H)(x:J 0 ρ H)(turn:∀i av R' ρ' H' s' v,xs[i]?=wf av->(∀ρ H s,St c R' ρ H s->St c R ρ H s)->J i ρ' H'->St c R' ρ' H' s'->abs v=av ->
   ∀K:Flow->ae->Prop,K=(λf d=>match f with
    |.next|.cont=>∃g k,St c R' g k d/\J (i+1) g k
    |.brk=>Q .next d
    |.ret v=>Q (.ret v) d)->al c.M A (ge a env v) (λh j=>al c.M A (eo body env) K (λh h=>False) j) (λh h=>False) s')(fin:∀ρ' H' s',J xs.length ρ' H'->St c R ρ' H' s'->al c.M A (eo b env) Q (λh h=>False) s')(o:autoParam (∀v,kQ a (.ref it) v=pure ()) aU) :
  dB c.M A (.forLoop a (.ref it) body b env) (λr s'=>match r with|.ok f=>Q f s'|.error e=>y e s') s :=
 un l p st J w x (λi av R' ρ' H' s' v hi h q u st n K t=>turn i av R' ρ' H' s' v hi q u st n K t) fin o
theorem openK{K a:Flow->ae->Prop}{f:Flow}{s:ae}(e:K=a)(h:a f s):K f s:=aa e h
theorem US{K a:ab->ae->Prop}{f:ab}{s:ae}(e:K=a)(h:a f s):K f s:=by(refine aa e ?_);exact h
theorem UR{K a:ae->Prop}{s:ae}(e:K=a)(h:a s):K s:=aa e h
theorem aL{M:jX}{st:Stmt}{rest:List Stmt}{Q:Flow->ae->Prop}(h:∀K:Flow->ae->Prop,K=(λf s'=>match f with|.next=>al M A (eo rest env) Q E s'|f=>Q f s')->al M A (exec st env) K E s):al M A (eo (st::rest) env) Q E s :=tz (h _ rfl)
theorem wC{test:Expr}{body e:List Stmt}{pos:Pos}{Q:Flow->ae->Prop}(J:Nat->(Str->Option AV)->af->Prop)(n:Nat)(st:St c R ρ H s)(w:J n ρ H)(turn:∀n ρ' H' s',J n ρ' H'->St c R ρ' H' s'->∀K:Flow->ae->Prop,K=(λf d=>match f with
    |.next|.cont=>∃m a h,m<n/\St c R a h d/\J m a h
    |.brk=>Q .next d
    |.ret v=>Q (.ret v) d)->∀t:Flow->ae->Prop,t=Q->al c.M A (isTrue test env (eval test env)) (λb j=>if b then al c.M A (eo body env) K (λi i=>False) j else al c.M A (eo e env) t (λi i=>False) j) (λi i=>False) s') :
  al c.M A (exec (.While test body e pos) env) Q E s:=by
 refine wpAny_While (codeAny_whileLoop (λn s'=>∃ρ' H',St c R ρ' H' s'/\J n ρ' H') ?_ n (a_ ρ H st w));intro n s' k;refine aV k λρ' H' l u=>(bx (turn n ρ' H' s' u l _ rfl _ rfl) (λb j g=>?_) λi i z=>z.elim);cases b with
 |false =>rw[Da (by decide)] at g ⊢;exact bx g (λf d q=>q) λi i z=>z.elim
 |true =>
  rw[FB rfl] at g ⊢;refine bx g (λf d q=>?_) λi i z=>z.elim;cases f with
  |next=>obtain⟨m,a,h,r,p,o⟩:=q;exact⟨m,r,a,h,p,o⟩
  |cont=>obtain⟨m,a,h,r,p,o⟩:=q;exact⟨m,r,a,h,p,o⟩
  |brk=>exact q
  |ret v=>exact q
end
theorem mG:eH "len"=wf (.builtin "len"):=by decide +kernel
theorem FH:eH "list"=wf (.type "list"):=by decide +kernel
theorem FL:eH "range"=wf (.type "range"):=by decide +kernel
theorem FN:eH "sorted"=wf (.builtin "sorted"):=by decide +kernel
theorem FJ:eH "max"=wf (.builtin "max"):=by decide +kernel
theorem FK:eH "min"=wf (.builtin "min"):=by decide +kernel
theorem FP:eH "sum"=wf (.builtin "sum"):=by decide +kernel
theorem FQ:eH "tuple"=wf (.type "tuple"):=by decide +kernel
theorem FM:eH "set"=wf (.type "set"):=by decide +kernel
theorem FG:eH "iter"=wf (.builtin "iter"):=by decide +kernel
theorem FD:eH "dict"=wf (.type "dict"):=by decide +kernel
theorem FE:eH "divmod"=wf (.builtin "divmod"):=by decide +kernel
theorem FF:eH "enumerate"=wf (.type "enumerate"):=by decide +kernel
theorem FR:eH "zip"=wf (.type "zip"):=by decide +kernel
def j_(c:Cx)(f:ab)(h:Heap):Prop:=match f with
 |.ref a=>(dr c.G.K f=true/\c.G.K.In h)\/FnAt a h
 |.builtin _|.type _=>True
 |_=>False
theorem j_.keeps{c:Cx}{f:ab}{M:jX}(h:Heap)(x:j_ c f h):∃k,(k=Keeper.frame\/k=Keeper.machine\/k=Keeper.boundFrame)/\Looks M h (keeperOf f) k:=by
 cases f with
 |ref a =>
  refine cg x (λe=>oA e λd b=>?_) (λx=>?_)
  ·exact keeps_K d h b
  exact keeps_F h x
 |builtin i=>exact ar .machine (.inr (.inl rfl)) (Et rfl)
 |type i=>exact ar .machine (.inr (.inl rfl)) (Et rfl)
 |_=>exact x.elim
section
variable{c:Cx}{R:af}{ρ:Str->Option AV}{H:af}{s:ae}{A:aD}{E:ab->ae->Prop}{env:Env}{pos:Pos}{f:ab}{first:List ab}{Q:ab->ae->Prop}
def ey(M:jX)(A:aD)(E:ab->ae->Prop)(env:Env):List Expr->(List ab->ae->Prop)->ae->Prop
 |[],Q,s=>Q [] s
 |e::r,Q,s=>al M A (eval e env) (λv dL=>ey M A E env r (λvs cF=>Q (v::vs) cF) dL) E s
theorem Wl(e:Expr)(r:List Expr)(env:Env):ck (e::r) env=((ck [e] env).headD (false,eval e env))::ck r env:=by cases e<;>rfl
theorem CX{e:Expr}{r:List Expr}(a:ck (e::r) env=(e::r).map (λe=>(false,eval e env))):ck r env=r.map (λe=>(false,eval e env)):=(sO ((Wl e r env).symm.trans a)).2
theorem wm{e:Expr}{r:List Expr}(a:ck (e::r) env=(e::r).map (λe=>(false,eval e env))):ck (e::r) env=(false,eval e env)::ck r env:=a.trans (congrArg ((false,eval e env)::·) (CX a).symm)
theorem noStar{args:List Expr}(a:ck args env=args.map (λe=>(false,eval e env))):(e9 pos (ck args env)).any (·.1)=false:=by
 refine aa a ?_
 simp only[e9,sN,dW];refine D'.mpr (?_);intro x _;exact nofun
theorem ot{M:jX}:∀{args:List Expr} {Q:List ab->ae->Prop} {s:ae},ck args env=args.map (λe=>(false,eval e env))->ey M A E env args Q s->al M A (spliced (e9 pos (ck args env))) Q E s
 |[],Q,s,_,h=>args_nil h
 |e::r,Q,s,he,h=>args_cons (bx h (λv a h₁=>ot (CX he) h₁) λb b x=>x) (wm he)
theorem cw{args:List Expr}(h:ey c.M A E env args (λvs a=>j_ c f a.heap/\al c.M A (call f (first++vs)) Q E a) s)(b:autoParam (ck args env=args.map (λe=>(false,eval e env))) cN):al c.M A (gx pos f first (e9 pos (ck args env)) []) Q E s:=by
 refine xD (P:=j_ c f) (by(refine aa (noStar b) ?_);rfl) (λh x=>x.keeps) ?_
 cases args with
 |nil=>exact evalArgs_nil3 h
 |cons e r =>have d:=ot (pos:=pos) b h;rw[wm b] at d ⊢;exact evalArgs_plain d
def qt(M:jX)(A:aD)(E:ab->ae->Prop)(env:Env):List pY->(List ab->ae->Prop)->ae->Prop
 |[],Q,s=>Q [] s
 |k::r,Q,s=>al M A (eval k.value env) (λv dL=>qt M A E env r (λvs cF=>Q (v::vs) cF) dL) E s
theorem J?{M:jX}:∀{kws:List pY} {Q:List ab->ae->Prop} {s:ae},(eJ kws env).map (·.2)=kws.map (λk=>eval k.value env)->qt M A E env kws Q s->al M A (evalAll ((gw pos (eJ kws env)).map (·.2))) Q E s:=by
 intro l0;induction l0 with
 |nil =>intro Q s _ h;exact wpAny_evalAll_nil h
 |cons k r g =>
  intro Q s d h;have e:eJ (k::r) env=((eJ [k] env).headD (iF,eval k.value env))::eJ r env:=by cases k;rfl
  rw[e,bq,bq] at d;refine oA (sO d) λb a=>?_
  refine aa e ?_
  show al M A (evalAll ((do let v<-((eJ [k] env).headD (iF,eval k.value env)).2;kT pos;pure v)::(gw pos (eJ r env)).map (·.2))) Q E s;refine aa b ?_
  exact wpAny_evalAll_cons (aG (bx h (λv c h₁=>aG (j7 (bH (g a h₁)))) λf f x=>x))
theorem qF{e:Expr}{args:List Expr}{kws:List pY}(h:ey c.M A E env (e::args) (λvs b=>qt c.M A E env kws (λks a=>j_ c f a.heap/\al c.M A (call f (first++vs) (((gw pos (eJ kws env)).filterMap (·.1)).zip ks)) Q E a) b) s)(g:autoParam (ck (e::args) env=(e::args).map (λe=>(false,eval e env))) cN)(l:autoParam ((eJ kws env).map (·.2)=kws.map (λk=>eval k.value env)) cN)(d:autoParam ((gw pos (eJ kws env)).all (·.1.isSome)=true) cN)(j:autoParam ((gw pos (eJ kws env)).any (·.1.isNone)=false) cN) :
  al c.M A (gx pos f first (e9 pos (ck (e::args) env)) (gw pos (eJ kws env))) Q E s:=by
 refine xD (P:=j_ c f) (by(refine aa (noStar g) ?_;refine aa j ?_);rfl) (λh x=>x.keeps) ?_
 exact evalArgs_kw2 d (bx (ot g h) (λvs b h₁=>J? l h₁) λi i x=>x) (wm g)
theorem jQ{a:Addr}(ok:c.Ok)(st:St c R ρ H s)(b:dr c.G.K (.ref a)=true):j_ c (.ref a) s.heap:=.inl ⟨b,st.u7 ok⟩
theorem eU{a:Expr}{args:List Expr}{pos:Pos}(h:al c.M A (eval a env) (λf b=>al c.M A (gx pos f [] (e9 pos (ck args env)) []) Q E b) E s)(d:autoParam (eval (.Call a args [] pos) env=(do gx pos (<-eval a env) [] (e9 pos (ck args env)) (gw pos (eJ [] env)))) cN):al c.M A (eval (.Call a args [] pos) env) Q E s:=Call_ h d
theorem qy{a:Expr}{args:List Expr}{kws:List pY}{pos:Pos}(h:al c.M A (eval a env) (λf b=>al c.M A (gx pos f [] (e9 pos (ck args env)) (gw pos (eJ kws env))) Q E b) E s)(d:autoParam (eval (.Call a args kws pos) env=(do gx pos (<-eval a env) [] (e9 pos (ck args env)) (gw pos (eJ kws env)))) cN):al c.M A (eval (.Call a args kws pos) env) Q E s:=by
 (refine aa d ?_);exact aG h
theorem dX{o:Expr}{name:Str}{args:List Expr}{a pos:Pos}{pl:Sem Bool}(h:al c.M A (eval o env) (λe d=>al c.M A (j4 e name pl) (λg b=>al c.M A (gx pos g.1 g.2 (e9 pos (ck args env)) []) Q E b) E d) E s)(i:autoParam (eval (.Call (.Attribute o name a) args [] pos) env=(do
   let e<-eval o env
   kT a.atName
   let(f,first)<-jh [e] (j4 e name pl)
   gx pos f first (e9 pos (ck args env)) (gw pos (eJ [] env)))) cN):al c.M A (eval (.Call (.Attribute o name a) args [] pos) env) Q E s:=methodCall_KW (kws:=[]) h i
theorem listE{elts:List Expr}{pos:Pos}(h:ey c.M A E env elts (λvs a=>al c.M A (newList vs) Q E a) s)(b:autoParam (ck elts env=elts.map (λe=>(false,eval e env))) cN):al c.M A (eval (.List elts pos) env) Q E s:=List_ (ot b h)
theorem WO{elts:List Expr}{k:Nat}{pos:Pos}(h:ey c.M A E env elts (λvs a=>al c.M A (qj vs) Q E a) s)(b:autoParam (ck elts env=elts.map (λe=>(false,eval e env))) cN):al c.M A (eval (.Tuple elts k pos) env) Q E s:=Tuple_ (ot b h)
theorem Fu{o i:Expr}{pos:Pos}{v:ab}{Q:Unit->ae->Prop}(h:al c.M A (eval o env) (λj b=>al c.M A (eval i env) (λk a=>al c.M A (setItem j k v) Q E a) E b) E s):al c.M A (ge (.Subscript o i pos) env v) Q E s:=by rw[assign_Subscript];exact aG (fS (bx h (λj b h₁=>aG (fS (bx h₁ (λk a f=>aG (j7 (aG (fS (bx f (λd g e=>wpAny_release' e) λd d x=>x))))) λd d x=>x))) λd d x=>x))
theorem zL(h:env.scope.kind=.function):interactive env=false:=by unfold interactive;(refine aa h ?_);rfl
theorem jx{e:Expr}{pos:Pos}{Q:Flow->ae->Prop}(b:env.scope.kind=.function)(h:al c.M A (eval e env) (λv s'=>v=.none/\Q .next s') E s)(hs:autoParam (iH e iF pos.line env=pure false) cN):al c.M A (exec (.Expr e pos) env) Q E s:=by refine wpAny_Expr (bx h (λv s' h'=>?_) λa a x=>x) (zL b) hs;obtain⟨rfl,h'⟩:=h';exact h'
theorem gI{l:Addr}{xs:List AV}{name:Str}{id:String}{pl:Sem Bool}{Q:ab×List ab->ae->Prop}(st:St c R ρ H s)(i:H l=wf (.list xs))(b:Slot "list" name id)(d:typeOf (.builtin id)=pure (.type "method_descriptor"))(h:Q (.builtin id,[.ref l]) s):al c.M A (j4 (.ref l) name pl) Q E s:=by
 refine bJ (st.get i) λo f vs n g e=>?_
 obtain rfl:=g;exact getMethod_builtin (ar _ f rfl) PySem.F.plainAttrs_list b d (λa e=>by(injection e with e;subst e);exact ar _ f rfl) h
def b8(R:af)(l:List Env):Prop:=∀env∈l,env.scope.kind=.function/\∃b r,env.frame=wf b/\R b=wf (.ns r)
theorem b8.push{l:List Env}(ok:c.Ok)(x:b8 R l)(d:R c.L=iF):b8 (upd R c.L (.ns ρ)) (c.bd::l):=by
 intro env he;obtain rfl|he:=aW.mp he
 ·exact lV ok.fn c.L ρ ok.frame (am ..)
 refine fj (x env he) λf b r e a=>(lV f b r e ?_);rw[aj]
 ·exact a
 rintro rfl;rw[d] at a;injection a
end
noncomputable def AV.plain:AV->Bool
 |.raw _=>false
 |_=>true
theorem zn{v:ab}(h:(abs v).plain=true):handedIn v=true:=by cases v<;>first|rfl|exact GM h dE
noncomputable def gk(name:Str)(v:AV):List (Str×AV)->List (Str×AV)
 |[]=>[(name,v)]
 |(x,u)::r=>if x=name then(x,v)::r else(x,u)::gk name v r
theorem qU{name:Str}:∀{ds:List sD} {es:List (Str×AV)},ds.map (λe=>(abs e.key,abs e.val))=es.map (λp=>(AV.str p.1,p.2))->∃r,getL name ds=wf r/\r.map abs=es.lookup name:=by
 intro ds es h;have a:ds.any (·.refKey)=false:=by refine D'.mpr (?_);intro e d;have:(abs e.key,abs e.val)∈es.map (λp=>(AV.str p.1,p.2)):=h▸bh.mpr (ar e d rfl);refine ak (bh.mp this) λp i q=>(oE (tI (eG q).1.symm) λt q=>?_);simp[DictEntry.refKey,q]
 have key:(ds.find? (·.key.isStr name)).map (λe=>abs e.val)=es.lookup name:=by
  clear a;induction ds generalizing es with
  |nil=>cases es with
   |nil=>rfl
   |cons p r=>injection h
  |cons e r c =>
   cases es with
   |nil=>injection h
   |cons p q =>
    rw[bq,bq,pZ,tf] at h;obtain⟨⟨b,g⟩,f⟩:=h;refine oE (tI b) λt b=>?_
    refine aa sU ?_;refine aa cP ?_;refine aa b ?_
    have:(Value.str p.1 t).isStr name=(name==p.1):=by show(p.1==name)=(name==p.1);rw[wQ,beq_iff_eq,beq_iff_eq];exact⟨bn,bn⟩
    refine aa this ?_
    cases name==p.1 with
    |true=>simp[g]
    |false=>exact c f
 delta getL;cases q:ds.find? (·.key.isStr name) with
 |some e=>rw[q] at key;exact ar (wf e.val) rfl key
 |none=>(replace key:=q▸key);(refine aa a ?_);exact ar iF rfl key
theorem Cg{name:Str}{hsh:Int}{t:Tok}{v:ab}:∀{ds:List sD} {es:List (Str×AV)},ds.map (λe=>(abs e.key,abs e.val))=es.map (λp=>(AV.str p.1,p.2)) ->(putL name hsh (.str name t) v ds).map (λe=>(abs e.key,abs e.val))=(gk name (abs v) es).map (λp=>(AV.str p.1,p.2)):=by
 intro l0;induction l0 with
 |nil =>
  intro m0;cases m0 with
  |nil =>intro _;exact rfl
  |cons _ _ =>intro h;injection h
 |cons e r d =>
  intro m0;cases m0 with
  |nil =>intro h;injection h
  |cons p q =>
   intro h;rw[bq,bq,pZ,tf] at h;obtain⟨⟨g,f⟩,c⟩:=h;refine oE (tI g) λi a=>?_
   obtain⟨x,u⟩:=p;unfold putL gk;refine aa a ?_
   by_cases b:x=name
   ·refine az b ?_
    refine aa (FB (FB rfl)) ?_;refine aa (FB rfl) ?_;refine aa bq ?_;refine aa bq ?_;refine aa c ?_
    rfl
   refine aa (Da (by simpa[Value.isStr] using b)) ?_;refine aa (Da b) ?_;refine aa bq ?_;refine aa bq ?_;refine aa (d c) ?_;refine aa a ?_;refine az f ?_
   rfl
theorem U!(name:Str)(v:AV):∀es:List (Str×AV),(gk name v es).length<=es.length+1:=by
 intro l0;induction l0 with
 |nil =>exact iE _
 |cons a r b =>
  obtain⟨x,u⟩:=a;unfold gk;split
  ·simp
  have:=b;simp;exact Pe this
section
variable{c:Cx}{R:af}{ρ:Str->Option AV}{H:af}{s:ae}{A:aD}{E:ab->ae->Prop}{x C d f p:Addr}{sl:List (Option AV)}{es:List (Str×AV)}{name:Str}{av:AV}{v:ab}
theorem HE{expr:Bool}{Q:ab->ae->Prop}(ok:c.Ok)(st:St c R ρ H s)(j:H x=wf (.inst C d sl))(p:H d=wf (.attrs es))(o:kR c.G.K C name=true)(l:nT c.G.K C=true)(q:eI c.G.K (.ref C) name=wf iF)(k:es.lookup name=wf av)(hp:av.plain=true)(h:∀v s',abs v=av->St c R ρ H s'->Q v s'):al c.M A (iG (.ref x) name expr) Q E s:=by
 refine il (st.get j) λox a vs i z=>?_
 obtain rfl:=i;refine bJ (st.get p) λy b ds n g u=>?_
 obtain rfl:=g;refine ak st.fr λm F w=>(ak (qU (name:=name) u) λr t g2=>?_);replace g2:=k▸g2;refine ak (bu.mp g2) λv f e=>?_
 obtain rfl:=f;exact get_own F ok.K (ox:=⟨.ref C,wf d,.plain,vs⟩) ⟨a,rfl,rfl,b⟩ o l q rfl t (zn (aa e hp)) (h v _ e (st.toks _))
theorem V2{Q:Unit->ae->Prop}(ok:c.Ok)(st:St c R ρ H s)(l:H x=wf (.inst C d sl))(i:H d=wf (.attrs es))(hs:eI c.G.K (.ref C) "__setattr__"=wf (wf (.builtin "object.__setattr__")))(hp:tq c.G.K C=true)(o:takerIn c.G.K C name=wf iF)(p:nT c.G.K C=true)(hz:es.length<=900)(h:∀s',St c R ρ (upd H d (.attrs (gk name (abs v) es))) s'->Q () s'):al c.M A (nV (.ref x) name v) Q E s:=by
 refine il (st.get l) λox f vs k D=>?_
 obtain rfl:=k;refine bJ (st.get i) λz a ds n j e=>?_
 obtain rfl:=j;refine ak (qU (name:=name) e) λr q B=>?_
 have g:ds.length=es.length:=by have:=congrArg hU e;simpa using this
 refine aB (st.m5 (ao':=.attrs (gk name (abs v) es)) (o':=dictOf (putL name (EI c.G.w.params name) (.str name (s.toks+1)) v ds) (putN name ds n)) i a (a_ _ _ rfl (Cg e))) λm F U b=>(set_dict F ok.K st.news (ox:=⟨.ref C,wf d,.plain,vs⟩) ⟨f,rfl,rfl,a⟩ rfl hs hp o p (aa q rfl) rfl U ?_ (λh' y u=>h _ (b y u)));have l1:=congrArg hU (Cg (name:=name) (hsh:=EI c.G.w.params name) (t:=s.toks+1) (v:=v) e);rw[aw,aw] at l1;have:=U! name (abs v) es;exact Pf hz l1 this
theorem K5{pl:Sem Bool}{Q:ab×List ab->ae->Prop}(ok:c.Ok)(st:St c R ρ H s)(i:H x=wf (.inst C d sl))(p:H d=wf (.attrs es))(l:kR c.G.K C name=true)(o:eI c.G.K (.ref C) name=wf (wf (.ref f)))(j:isFn c.G.K (.ref f)=true)(k:es.lookup name=iF)(h:Q (.ref f,[.ref x]) s):al c.M A (j4 (.ref x) name pl) Q E s:=by
 refine il (st.get i) λox a vs g w=>?_
 obtain rfl:=g;refine bJ (st.get p) λv b ds n e t=>?_
 obtain rfl:=e;refine ak st.fr λm F u=>(ak (qU (name:=name) t) λr q g2=>?_);replace g2:=k▸g2;have:r=iF:=by cases r with|none=>rfl|some z=>injection g2
 subst this;exact method_inst F ok.K (ox:=⟨.ref C,wf d,.plain,vs⟩) ⟨a,rfl,rfl,b⟩ l o j q h
theorem ut{expr:Bool}{i:Nat}{Q:ab->ae->Prop}(ok:c.Ok)(st:St c R ρ H s)(k:H x=wf (.inst C d sl))(t:H d=wf (.attrs es))(r:kR c.G.K C name=true)(u:isClsIn c.G.K C=true)(w:eI c.G.K (.ref C) name=wf (wf (.ref p)))(o:tr c.G.K (.ref p) "__get__"=wf (wf (.builtin "member_descriptor.__get__")))(l:takesIn c.G.K (.ref p)=wf true)(hp:slotIn c.G.K p C=wf i)(hl:(sl[i]?).join=wf av)(a:av.plain=true)(h:∀v s',abs v=av->St c R ρ H s'->Q v s'):al c.M A (iG (.ref x) name expr) Q E s:=by
 refine il (st.get k) λox b vs j D=>?_
 obtain rfl:=j;refine bJ (st.get t) λJ e ds n g L=>?_
 obtain rfl:=g;refine ak st.fr λm F I=>?_
 replace hl:=(bn D)▸hl;replace hl:=bp▸hl;have:∃v,(vs[i]?).join=wf v/\abs v=av:=by
  refine az DK ?_
  cases q:vs.toList[i]? with
  |none=>(replace hl:=q▸hl);injection hl
  |some y =>
   replace hl:=q▸hl;cases y with
   |none=>injection hl
   |some z=>exact ar z rfl (ax hl)
 refine ak this λv B f=>?_
 exact get_slot F ok.K (ox:=⟨.ref C,wf d,.plain,vs⟩) ⟨b,rfl,rfl,e⟩ r u w o l hp B (zn (by(refine aa f ?_);exact a)) (h v _ f (st.toks _))
theorem wh{i:Nat}{Q:Unit->ae->Prop}(ok:c.Ok)(st:St c R ρ H s)(g:H x=wf (.inst C d sl))(q:H d=wf (.attrs es))(hs:eI c.G.K (.ref C) "__setattr__"=wf (wf (.builtin "object.__setattr__")))(hp:tq c.G.K C=true)(o:takerIn c.G.K C name=wf (wf (.ref p)))(r:typeIn c.G.K (.ref p)=wf (.type "member_descriptor"))(hi:slotIn c.G.K p C=wf i)(hz:i<1000)(h:∀s',St c R ρ (upd H x (.inst C d ((sl++p8 (i+1-sl.length) iF).set i (wf (abs v))))) s'->Q () s'):al c.M A (nV (.ref x) name v) Q E s:=by
 refine il (st.get g) λox a vs l j=>?_
 obtain rfl:=l;refine bJ (st.get q) λw f ds n k y=>?_
 obtain rfl:=k;have b:vs.size=sl.length:=by rw[<-j,aw,Array.length_toList]
 obtain⟨m,F,U,e⟩:=st.m5 (ao':=.inst C d ((sl++p8 (i+1-sl.length) iF).set i (wf (abs v)))) (o':=⟨.ref C,wf d,.plain,(vs++Array.replicate (i+1-vs.size) iF).setIfInBounds i (wf v)⟩) g a
  (ar _ rfl (by(refine aa Array.toList_setIfInBounds ?_;refine aa wP ?_;refine aa Array.toList_replicate ?_;refine aa xj ?_;refine aa bf ?_;refine aa List.map_replicate ?_;refine aa j ?_;refine aa b ?_);rfl))
 exact set_slot F ok.K st.news (ox:=⟨.ref C,wf d,.plain,vs⟩) ⟨a,rfl,rfl,f⟩ hs hp o r hi hz rfl rfl U (λh' u t=>h _ (e u t))
theorem Ac{pos:List ab}{j:Addr}{Q:ab->ae->Prop}(ok:c.Ok)(st:St c R ρ H s)(m:makesIn c.G.K C=true)(hi:eI c.G.K (.ref C) "__init__"=wf (wf (.ref j)))(n:isFn c.G.K (.ref j)=true)(h:∀x f s',H x=iF->H f=iF->x≠f->St c R ρ (upd (upd H f (.attrs [])) x (.inst C f [])) s' ->dB c.M (A.under (.builtin "type.__call__" ⟨.ref C::pos,[]⟩)) (.call (.ref j) ⟨.ref x::pos,[]⟩) (InitBack x λr s'=>match r with|.ok (.ret v)=>Q v s'|.ok _=>False|.error e=>E e s') s') :
  al c.M A (call (.ref C) pos []) Q E s:=by
 have X:=st.u7 ok;obtain⟨a,g,k,t,os⟩:=s;have d:=st.alloc ok (o:=nS) (ao:=.attrs []) (a_ [] 0 rfl rfl) rfl;have i:=d.alloc ok (o:=instObj C a.objs.size) (ao:=.inst C a.objs.size []) (ar (#[]) rfl rfl) rfl;have e:(a.push nS).objs.size=a.objs.size+1:=nr ..;refine jk (make_core (makes_of X m) (looks_findIn X hi) (λself=>bind_fn X self (beq_iff_eq.mp n)) (.inl rfl) ?_);have l:H (a.objs.size+1)=iF:=by have:=d.cV;have:upd H a.objs.size (AO.attrs []) (a.push nS).objs.size=iF:=this;rw[e,aj (EE _)] at this;exact this
 have b:St c R ρ (upd (upd H a.objs.size (.attrs [])) (a.objs.size+1) (.inst C a.objs.size [])) ⟨(a.push nS).push (instObj C a.objs.size),g,k,t,os⟩:=by have:St c R ρ (upd (upd H a.objs.size (.attrs [])) (a.push nS).objs.size (.inst C a.objs.size [])) ⟨(a.push nS).push (instObj C a.objs.size),g,k,t,os⟩:=i;rwa [e] at this
 exact h (a.objs.size+1) a.objs.size _ l st.cV (EE _) b
end
theorem B9{p b:jf}{w a:World}{es:List sD}{kvs:List (Int×ab)}(h:Pairs (fR p w) es kvs):Pairs (fR b a) es kvs:=by
 induction h with
 |nil=>exact .nil
 |cons e d _ c=>exact .cons e d c
noncomputable def i8(es:List (Int×AV))(k:Int)(v:AV):List (Int×AV):=if es.any (λp=>p.1=k) then es.map (λp=>if p.1=k then(p.1,v) else p) else es++[(k,v)]
theorem lU(kvs:List (Int×ab))(k:Int):(kU kvs k).map abs=(kvs.map λp=>(p.1,abs p.2)).lookup k:=by
 induction kvs with
 |nil=>rfl
 |cons p r b =>
  refine aa bq ?_;refine aa cP ?_
  unfold kU at b ⊢;refine aa sU ?_
  by_cases h:p.1=k
  ·have a:(k==p.1)=true:=by simp[h]
   (refine aa a ?_);simp[h]
  have a:(k==p.1)=false:=by simp;exactλe=>h e.symm
  (refine aa a ?_);simp only[decide_eq_false h];exact b
theorem C4(kvs:List (Int×ab))(k:Int)(v:ab):(stored kvs k v).map (λp=>(p.1,abs p.2))=i8 (kvs.map λp=>(p.1,abs p.2)) k (abs v):=by
 unfold stored i8;refine aa sN ?_
 have:(kvs.any ((λp:Int×AV=>decide (p.1=k)) ∘ λp=>(p.1,abs p.2)))=kvs.any λa=>decide (a.1=k):=rfl;refine aa this ?_
 split
 ·refine aa dW ?_;refine aa dW ?_
  refine kN λp b=>?_
  simp only[no];split<;>rfl
 (refine aa bf ?_);rfl
section
variable{c:Cx}{R:af}{ρ:Str->Option AV}{H:af}{s:ae}{A:aD}{E:ab->ae->Prop}{d:Addr}{es:List (Int×AV)}{ep:Nat}{k:Int}{t:Tok}{av:AV}{env:Env}
theorem St.dictAt(st:St c R ρ H s)(e:H d=wf (.dict es ep)):∃kvs:List (Int×ab),s.heap.DictAt (fR c.G.prog c.G.w) d kvs ep/\kvs.map (λp=>(p.1,abs p.2))=es/\(d==sysModules)=false:=by refine dD (st.own d _ e) λo m a b b l=>(rJ a λds kvs k j i h g f=>?_);refine aR kvs (nl o ds m k j (i _ _) (h _ _) g) f (beq_eq_false_iff_ne.mpr (?_));rintro rfl;exact GM l (by decide)
theorem St.r?{h':Heap}{tk:Nat}{kvs:List (Int×ab)}(st:St c R ρ H s)(f:H d=wf (.dict es ep))(hs:kJ d s.heap h')(e:h'.DictOf (fR c.G.prog c.G.w) d kvs) :
  ∃a,St c R ρ (upd H d (.dict (kvs.map λp=>(p.1,abs p.2)) a)) { s with heap:=h',toks:=tk }:=by
 refine AH e λo ds a l k j i h g=>?_
 exact⟨a,st.set f hs l ⟨ds,kvs,k,j,λb b=>i,λb b=>B9 h,g,rfl⟩⟩
theorem kq{a slice:Expr}{Q:ab->ae->Prop}(st:St c R ρ H s)(i:H d=wf (.dict es ep))(f:es.lookup k=wf av)(h:∀v s',abs v=av->St c R ρ H s'->Q v s')(hs:autoParam (gZ slice false (.ref d) (.int k t)=gX [.ref d,.int k t] (gV (.ref d) (.int k t))) aU):al c.M A (tu a slice (.ref d) (.int k t)) Q E s:=by
 refine aB (st.dictAt i) λkvs g e m=>?_
 rw[<-e,<-lU] at f;refine ak (bu.mp f) λv l j=>?_
 have b:=g.dictOf.mapOf;exact qm b.typeIs slot_dict_getitem.lookup (wpAny_getItem_of (ji _ _ k t) b l (h v _ j (st.toks _))) hs
theorem inD{Q:ab->ae->Prop}(st:St c R ρ H s)(f:H d=wf (.dict es ep))(h:∀s',St c R ρ H s'->Q (.bool (es.lookup k).isSome) s'):al c.M A (fy .In (.int k t) (.ref d)) Q E s:=by
 refine aB (st.dictAt f) λkvs b e a=>(wpAny_in_of (ji _ _ k t) a b.dictOf.mapOf ?_);have:(kU kvs k).isSome=(es.lookup k).isSome:=by rw[<-e,<-lU,td]
 refine aa this ?_
 exact h _ (st.toks _)
theorem kD{v:ab}{Q:Unit->ae->Prop}(st:St c R ρ H s)(j:H d=wf (.dict es ep))(hz:es.length<=cB)(h:∀a s',St c R ρ (upd H d (.dict (i8 es k (abs v)) a)) s'->Q () s'):al c.M A (setItem (.ref d) (.int k t) v) Q E s:=by
 refine aB (st.dictAt j) λkvs l e m=>?_
 have f:kvs.length=es.length:=by rw[<-e,aw]
 refine wpAny_setItem_pairs (ji _ _ k t) l.dictOf (λh' i g=>?_) (aa f hz);obtain⟨a,b⟩:=st.r? (tk:=s.toks+1) j g i
 rw[C4,e] at b;exact h a _ b
theorem delD{Q:Unit->ae->Prop}(st:St c R ρ H s)(m:H d=wf (.dict es ep))(hz:es.length<=cB)(l:(es.lookup k).isSome=true)(h:∀a s',St c R ρ (upd H d (.dict (es.filter λp=>!decide (p.1=k)) a)) s'->Q () s') :
  al c.M A (delItem (.ref d) (.int k t)) Q E s:=by
 refine aB (st.dictAt m) λkvs j e o=>?_
 have f:kvs.length=es.length:=by rw[<-e,aw]
 refine wpAny_delItem_slot j.dictOf.typeIs (by decide) PySem.F.slot_dict_delitem (ti PySem.F.slot_dict_delitem j.dictOf.typeIs PySem.F.entry_dict_delitem (PySem.F.args_dict_delitem_2 _ _) (meets_dict_delitem_pairs (fR c.G.prog c.G.w) d (ji c.G.prog c.G.w k t)) (Dx kvs j.dictOf (aa f hz) ?_ (λh' i g=>?_)))
 ·rw[<-e,<-lU,td] at l;exact l
 refine oE (st.r? (tk:=s.toks+1) m g i) λa b=>?_
 have:(without kvs k).map (λp=>(p.1,abs p.2))=es.filter λp=>!decide (p.1=k):=by
  refine az e ?_
  refine aa sS ?_
  congr 1;refine sQ λp n=>?_
  simp[no]
 rw[this] at b;exact h a _ b
theorem getM{Q:ab->ae->Prop}(st:St c R ρ H s)(f:H d=wf (.dict es ep))(h:∀v s',abs v=(es.lookup k).getD .none->St c R ρ H s'->Q v s'):al c.M A (call (.builtin "dict.get") [.ref d,.int k t]) Q E s:=by refine aB (st.dictAt f) λkvs a e b=>(ti PySem.F.slot_dict_get a.dictOf.typeIs PySem.F.entry_dict_get (PySem.F.args_dict_get_2 _ _) (meets_dict_get (fR c.G.prog c.G.w) d (ji c.G.prog c.G.w k t) b) (ar _ a.dictOf.mapOf (h _ _ ?_ (st.toks _))));rw[<-e,<-lU];cases kU kvs k<;>rfl
theorem rz{name:Str}{id:String}{pl:Sem Bool}{Q:ab×List ab->ae->Prop}(st:St c R ρ H s)(i:H d=wf (.dict es ep))(b:Slot "dict" name id)(f:typeOf (.builtin id)=pure (.type "method_descriptor"))(h:Q (.builtin id,[.ref d]) s):al c.M A (j4 (.ref d) name pl) Q E s:=by
 refine aB (st.dictAt i) λkvs g e j=>?_
 exact getMethod_builtin g.dictOf.typeIs PySem.F.plainAttrs_dict b f (λa e=>g.dictOf.mapOf.noDict a e) h
theorem newD{pos:Pos}{Q:ab->ae->Prop}(ok:c.Ok)(st:St c R ρ H s)(h:∀a s',H a=iF->St c R ρ (upd H a (.dict [] 0)) s'->Q (.ref a) s'):al c.M A (eval (.Dict [] [] pos) env) Q E s :=wpAny_Dict_empty (h _ _ st.cV (st.alloc ok (o:={ cls:=.type "dict",data:=.dict #[] }) (ao:=.dict [] 0) (nl (#[]) [] (aC rfl rfl rfl) rfl (λb b b d=>by simp at d) (λb b=>.nil) .nil rfl) rfl))
noncomputable def rj(d:Addr)(n ep:Nat)(i:Nat):AO:=.obj λo=>o.cls=.type "dict_keyiterator"/\o.data=.fields #[.ref d,.int i 0,.int n 0,.int ep 0]
noncomputable def wy(d:Addr)(n ep:Nat)(i:Nat):AO:=.obj λo=>o.cls=.type "dict_valueiterator"/\o.data=.fields #[.ref d,.int i 0,.int n 0,.int ep 0]
theorem g_(R:af)(it:Addr)(a b:AO):upd (upd R it a) it b=upd R it b:=funext λx=>by unfold upd;split<;>rfl
theorem zQ{it:Addr}(F:A.handled=iF):h8 c A it (es.map λp=>AV.int p.1) (rj d es.length ep) (λH=>H d=wf (.dict es ep)) where
 item:=λ{R ρ H s E Q i av} C u z st h=>by
  refine aB (st.dk (am ..)) λo e m b=>(aB (st.dictAt z) λkvs v n D=>?_);have a:kvs.length=es.length:=by rw[<-n,aw]
  rw[<-n,dW,bp] at C;refine ak (bu.mp C) λf J I=>?_
  obtain⟨k,x⟩:=f;refine wpAny_pyNext_dict_item (knd:=fR c.G.prog c.G.w) (aR o e m (aa a b)) v J λq h' g j r=>h q _ ?_ ?_
  ·obtain⟨t,rfl⟩:=Value.isInt_shape g;exact I
  refine aB j λo' L B l=>?_
  have:=st.lQ (tk:=s.toks) (ao':=rj d es.length ep (i+1)) (am ..) r L ⟨B,by rw[a] at l;exact l⟩;rwa [g_] at this
 done:=λ{R ρ H s E Q} u z st h=>by
  refine aB (st.dk (am ..)) λo e m b=>(aB (st.dictAt z) λkvs v n D=>?_);have a:kvs.length=es.length:=by rw[<-n,aw]
  refine wpAny_pyNext_dict_end (knd:=fR c.G.prog c.G.w) (i:=es.length) F (aR o e m (by(refine aa a ?_);rw[aw] at b;exact b)) v (by simp[a]) λh' y=>h _ (st.ended (tk:=s.toks) u y)
 self:=λ{R ρ H s E Q i} u st h=>by
  refine aB (st.dk (am ..)) λo e m b=>?_
  exact wpAny_pyIter_keyiter (aR o e m b) h
theorem uG(ok:c.Ok)(st:St c R ρ H s){o:Obj}{ao:AO}(hi:ao.Is o)(hf:o.isFreed=false)(hl:autoParam (ao.links=[]) cN):St c (upd R s.heap.objs.size ao) ρ H { s with heap:=s.heap.push o }:=by
 have:=(st.alloc ok hi hf hl).hide (am ..);rwa [show del (upd H s.heap.objs.size ao) s.heap.objs.size=H from funext λb=>by
  unfold del upd;split
  ·rename_i e;(refine aa e ?_);exact st.cV.symm
  rfl] at this
theorem zO{Q:ab->ae->Prop}(ok:c.Ok)(st:St c R ρ H s)(f:H d=wf (.dict es ep))(h:∀it s',H it=iF->R it=iF->St c (upd R it (rj d es.length ep 0)) ρ H s'->Q (.ref it) s') :
  al c.M A (gY (.ref d)) Q E s:=by
 refine aB (st.dictAt f) λkvs e g b=>?_
 have a:kvs.length=es.length:=by rw[<-g,aw]
 refine wpAny_pyIter_dict b e (h _ _ st.cV st.iR ?_);refine aa a ?_
 exact uG ok st ⟨rfl,rfl⟩ rfl
theorem JY{it:Addr}(B:A.handled=iF):h8 c A it (es.map λp=>p.2) (wy d es.length ep) (λH=>H d=wf (.dict es ep)) where
 item:=λ{R ρ H s E Q i av} y q u st h=>by
  refine aB (st.dk (am ..)) λo e l b=>(aB (st.dictAt u) λkvs r m z=>?_);have a:kvs.length=es.length:=by rw[<-m,aw]
  rw[<-m,dW,bp] at y;refine ak (bu.mp y) λf D C=>?_
  obtain⟨k,x⟩:=f;refine wpAny_pyNext_values_item (knd:=fR c.G.prog c.G.w) (aR o e l (aa a b)) r D λh' g n=>h x _ C (aB g λo' F v j=>?_);have:=st.lQ (tk:=s.toks) (ao':=wy d es.length ep (i+1)) (am ..) n F ⟨v,by rw[a] at j;exact j⟩;rwa [g_] at this
 done:=λ{R ρ H s E Q} q u st h=>by
  refine aB (st.dk (am ..)) λo e l b=>(aB (st.dictAt u) λkvs r m z=>?_);have a:kvs.length=es.length:=by rw[<-m,aw]
  refine wpAny_pyNext_values_end (knd:=fR c.G.prog c.G.w) (i:=es.length) B (aR o e l (by(refine aa a ?_);rw[aw] at b;exact b)) r (by simp[a]) λh' t=>h _ (st.ended (tk:=s.toks) q t)
 self:=λ{R ρ H s E Q i} q st h=>by
  refine aB (st.dk (am ..)) λo e l b=>?_
  exact wpAny_pyIter_valiter (aR o e l b) h
theorem WT{Q:ab->ae->Prop}(ok:c.Ok)(st:St c R ρ H s)(f:H d=wf (.dict es ep))(h:∀a s',H a=iF->St c R ρ (upd H a (.obj λo=>o.cls=.type "dict_values"/\o.data=.fields #[.ref d])) s'->Q (.ref a) s') :
  al c.M A (call (.builtin "dict.values") [.ref d]) Q E s:=by
 refine aB (st.dictAt f) λkvs b g e=>?_
 exact ti PySem.F.slot_dict_values b.dictOf.typeIs PySem.F.entry_dict_values (PySem.F.args_dict_values_1 _) (meets_dict_values (fR c.G.prog c.G.w) d e) ⟨⟨kvs,b.dictOf⟩,h _ _ st.cV (st.alloc ok ⟨rfl,rfl⟩ rfl)⟩
theorem JR{v:Addr}{Q:ab->ae->Prop}(ok:c.Ok)(st:St c R ρ H s)(g:H d=wf (.dict es ep))(b:H v=wf (.obj λo=>o.cls=.type "dict_values"/\o.data=.fields #[.ref d]))(h:∀it s',H it=iF->R it=iF->St c (upd R it (wy d es.length ep 0)) ρ H s'->Q (.ref it) s'):al c.M A (gY (.ref v)) Q E s:=by
 refine aB (st.dictAt g) λkvs f i l=>?_
 have a:kvs.length=es.length:=by rw[<-i,aw]
 refine aB (st.get b) λo e k j=>(wpAny_pyIter_values (aR o e k j) f (h _ _ st.cV st.iR ?_));refine aa a ?_
 exact uG ok st ⟨rfl,rfl⟩ rfl
end
noncomputable abbrev U':jf:=PySem.Challenge.pw_dn0038_07
noncomputable def is(i:Nat):Stmt:=fk U'.main.body i
noncomputable abbrev KP(P:aO):Frag:=hd07.heap_1 P
noncomputable def VV:=is 2
noncomputable def pI:=is 3
theorem zG(P:aO):di (KP P) 39 pI "bisect_right" (.ref 31) (.ref 32) (.ref 38) where
 fn:=e8 (((cp (KP P) 39).map (·.doc)).getD .none) (((cp (KP P) 39).map (·.pyModule)).getD .none) iF .none (by kernel_rfl)
 code:=by kernel_rfl
 co:=by kernel_rfl
 gen:=by kernel_rfl
 kind:=by kernel_rfl
theorem Ju(P:aO):di (KP P) 30 VV "insort_right" (.ref 22) (.ref 23) (.ref 29) where
 fn:=e8 (((cp (KP P) 30).map (·.doc)).getD .none) (((cp (KP P) 30).map (·.pyModule)).getD .none) iF .none (by kernel_rfl)
 code:=by kernel_rfl
 co:=by kernel_rfl
 gen:=by kernel_rfl
 kind:=by kernel_rfl
theorem zV(P:aO):dr (KP P) (.ref 39)=true:=by kernel_rfl
theorem zW(P:aO):dr (KP P) (.ref 30)=true:=by kernel_rfl
theorem J2(P:aO):dr (KP P) (.ref 58)=true:=by kernel_rfl
theorem J6(P:aO):dr (KP P) (.ref 155)=true:=by kernel_rfl
theorem yU(P:aO):nsIn (KP P) b7 "bisect_right"=wf (wf (.ref 39)):=by kernel_rfl
theorem Hs(P:aO):nsIn (KP P) b7 "insort_right"=wf (wf (.ref 30)):=by kernel_rfl
theorem yV(P:aO):nsIn (KP P) b7 "_NODE_OUT"=wf (wf (.int (-1) 226)):=by kernel_rfl
theorem Hq(P:aO):nsIn (KP P) b7 "_NODE_DONE"=wf (wf (.int (-2) 229)):=by kernel_rfl
theorem Hr(P:aO):nsIn (KP P) b7 "_NodeInfo"=wf (wf (.ref 58)):=by kernel_rfl
theorem Hx(P:aO):nsIn (KP P) b7 "TopologicalSorter"=wf (wf (.ref 155)):=by kernel_rfl
structure mz(G:Gx)(hp:Heap)(d:Nat)(H:af)(kf:Addr){δ:Type}(κ:Int->δ)(Rep:δ->AV->af->Prop)(lt:δ->δ->Bool)(P:Int->Prop):Prop where
 i7:∀{c R ρ eT s},c.G=G->c.Ok->Sub H eT->St c R ρ eT s->FnAt kf s.heap
 call:∀{c:Cx} {A R ρ eT s E i t} {Q:ab->ae->Prop},c.G=G->c.h₀=hp->c.Ok->bL c A d->b8 R c.outer->Sub H eT->St c R ρ eT s->P i->(∀v H' s',Sub eT H'->Rep (κ i) (abs v) H'->St c R ρ H' s'->Q v s')->al c.M A (call (.ref kf) [.int i t]) Q E s
 less:∀{c:Cx} {A R ρ H' s E k1 k2 v1 v2} {Q:ab->ae->Prop},c.G=G->c.h₀=hp->c.Ok->bL c A 0->St c R ρ H' s->Rep k1 (abs v1) H'->Rep k2 (abs v2) H'->(∀s',St c R ρ H' s'->Q (.bool (lt k1 k2)) s')->al c.M A (fy .Lt v1 v2) Q E s
 mono:∀{k v eT H'},Rep k v eT->Sub eT H'->Rep k v H'
theorem mz.up{G:Gx}{hp:Heap}{d:Nat}{H a:af}{g:Addr}{δ:Type}{κ:Int->δ}{Rep:δ->AV->af->Prop}{lt:δ->δ->Bool}{P:Int->Prop}(x:mz G hp d H g κ Rep lt P)(hs:Sub H a):mz G hp d a g κ Rep lt P where
 i7:=λf e c b=>x.i7 f e (hs.trans c) b
 call:=λf l e c h b k j i=>x.call f l e c h (hs.trans b) k j i
 less:=x.less
 mono:=x.mono
theorem half(lo hi:Nat)(h:lo<hi):∃m:Nat,Int.fdiv ((lo:Int)+(hi:Int)) 2=(m:Int)/\lo<=m/\m<hi:=by
 refine aR ((lo+hi)/2) ?_ (Pg h) (Pk h)
 have:((lo:Int)+(hi:Int))=((lo+hi:Nat):Int):=by push_cast;rfl
 refine aa this ?_
 refine aa (sJ _ Pm) ?_
 rfl
theorem FZ{c:Cx}{R:af}{ρ:Str->Option AV}{H:af}{s:ae}{A:aD}{E:ab->ae->Prop}{Q:ab->ae->Prop}{d:Nat}{l z:Addr}{x:ab}{t:Tok}{δ:Type}{κ:Int->δ}{Rep:δ->AV->af->Prop}{lt:δ->δ->Bool}{P:Int->Prop}{xs:List Int}{kx:δ}(N:c.G.K=KP c.G.w.params)(ok:c.Ok)(rm:bL c A (d+2))(st:St c R ρ H s)(fi:b8 R c.outer)(C:mz c.G c.h₀ (d+1) H z κ Rep lt P)(hl:H l=wf (.list (xs.map AV.int)))(hP:∀i∈xs,P i)(hx:Rep kx (abs x) H)(g:∀i j (hi:i<=j) (hj:j<xs.length),lt kx (κ (xs[i]'(rP hi hj)))=true->lt kx (κ xs[j])=true)(hz:xs.length<=10000)(h:∀(r:Nat) t s',r<=xs.length->(∀i (hi:i<xs.length),i<r->lt kx (κ xs[i])=false)->(∀i (hi:i<xs.length),r<=i->lt kx (κ xs[i])=true)->St c R ρ H s'->Q (.int (r:Int) t) s') :
  al c.M A (call (.ref 39) [.ref l,x,.int 0 t,.none] [(("key":Str),.ref z)]) Q E s:=by
 refine tV (binds:=[(("a":Str),.ref l),(("x":Str),x),(("lo":Str),.int 0 t),(("hi":Str),.none),(("key":Str),.ref z)]) (by(refine aa N ?_);exact zG _) ok rm st (λdoc pm an ct=>iM ok st (by(refine aa N ?_);intro S;kernel_rfl)) (by kernel_rfl) (by kernel_rfl) ?_
 intro c' A' L' s' y hG h0 ho e f d8;have ud:b8 (upd R c.L (.ns ρ)) c'.outer:=aa ho (fi.push ok st.js);rw[<-hG] at N C;rw[<-h0] at C;refine aL λK a=>?_
 refine eL (er ?_);refine bV d8 y e rfl rfl λb=>?_
 refine cInt d8 λb s st=>?_
 refine ltI (d_ ?_);refine eC (by decide) (bi ?_);refine openK a ?_
 refine aL λK a=>?_
 refine eL (er ?_);refine mZ st y e rfl rfl ?_
 refine qV (g0 ?_);refine isNone rfl (d_ ?_);refine ic (by rfl) ?_
 refine aL λK a=>?_
 refine dI (eU ?_);refine ku st y e (by(refine aa N ?_);kernel_rfl) mG (by decide) rfl ?_
 refine cw ?_
 dsimp only[ey];refine aS st y e rfl rfl ?_
 refine⟨trivial,?_⟩;refine rr st (.inl hl) (by rw[aw];exact Bb hz) λb s st=>?_
 refine cO st y e rfl λs st=>?_
 refine openK a ?_
 refine bi (openK ‹_› ?_);refine aL λK a=>?_
 refine eL (er ?_);refine aS st y e rfl rfl (g0 ?_);refine isNone rfl (d_ ?_);refine eC (by exact dE) ?_
 refine aL λK a=>?_
 rw[aw] at st;have st:=st.names [("a",.ref l),("x",abs x),("lo",.int 0),("hi",.int xs.length),("key",.ref z)] (dS rfl rfl rfl rfl rfl trivial);refine wC (λn ρ' H'=>∃lo hi:Nat,n=hi-lo/\lo<=hi/\hi<=xs.length/\(∀i (hi:i<xs.length),i<lo->lt kx (κ xs[i])=false)/\(∀i (hj:i<xs.length),hi<=i->lt kx (κ xs[i])=true) /\
  ρ'=lk [("a",.ref l),("x",abs x),("lo",.int lo),("hi",.int hi),("key",.ref z)]/\H'=H) (xs.length-0) st (wI 0 xs.length rfl Pn Po (λi zz h=>GM h Pp) (λi Z I=>GM Z (Pq I)) rfl rfl) ?_
 intro n ρ' H' s' u st;obtain⟨lo,hi,rfl,Z,I,h3,h4,rfl,rfl⟩:=u;intro K Y KQ hQ;refine er ?_
 refine bV ‹_› y e rfl rfl λb=>?_
 refine bV ‹_› y e rfl rfl λb=>?_
 refine ltI (d_ ?_);by_cases p:lo<hi
 ·refine ic (decide_eq_true (Bc p)) ?_
  refine aL λK a=>?_
  refine dI ?_
  refine nX (nX ?_);refine bV ‹_› y e rfl rfl λb=>?_
  refine bV ‹_› y e rfl rfl λb=>?_
  refine tM ‹_› λb s st=>?_
  refine cInt st λb s st=>?_
  refine yw st (by decide) (nM (by decide)) λb s st=>?_
  refine aB (half lo hi p) λm hm B o=>?_
  refine aa hm ?_
  have k:m<xs.length:=by exact Pr I o
  refine cO st y e rfl λs st=>?_
  refine openK a ?_
  refine aL λK a=>?_
  refine eL (er ?_);refine mZ st y e rfl rfl λv hv=>?_
  refine eU ?_
  refine aS st y e (by rfl) rfl (cw ?_);dsimp only[ey];refine jg (aS st y e (by rfl) rfl ?_);refine bV st y e (by rfl) rfl λb=>?_
  refine uX st (.inl hl) vG (av:=.int xs[m]) (by simp[k]) (Ps hz k) ?_
  intro v1 U;refine oE (eM U) λWJ D=>?_
  obtain rfl:=D;refine⟨.inr (C.i7 rfl y (Sub.refl _) st),?_⟩;refine C.call rfl rfl y f ud (Sub.refl _) st (hP _ (iy k)) λvk H1 s1 q F T=>?_
  refine C.less rfl rfl y ⟨f.frames,by have:=f.depth;exact Pt this,by have:=f.units;exact Pu this,f.handled⟩ T (aa hv (C.mono hx q)) F λs2 O=>?_
  have st:=O.drop q.le;refine d_ ?_
  by_cases J:lt kx (κ xs[m])=true
  ·refine ic J (aL ?_);intro K a;refine dI ?_
   refine bV st y e (by rfl) rfl λb=>?_
   refine cO st y e rfl λs st=>?_
   refine openK a ?_
   refine bi (openK ‹_› ?_);refine bi (openK Y ?_);refine wK (m-lo) _ _ (Be B o) (St.names st [("a",.ref l),("x",abs x),("lo",.int lo),("hi",.int m),("key",.ref z)] (dS rfl rfl rfl rfl rfl trivial)) lo m rfl (rQ B) (Bf k) h3 (aC (λi hi V=>g m i V hi J) rfl rfl)
  refine eC J (aL ?_);intro K a;refine dI (nX ?_);refine bV st y e (by rfl) rfl λb=>?_
  refine cInt st λb s st=>?_
  refine tM st λb s st=>?_
  refine cO st y e rfl λs st=>?_
  refine openK a (bi ?_);refine openK ‹_› ?_
  refine bi (openK Y ?_);refine wK (hi-(m+1)) _ _ (Bg B o) (St.names st [("a",.ref l),("x",abs x),("lo",.int ((m+1:Nat):Int)),("hi",.int hi),("key",.ref z)] (dS rfl rfl ?_ rfl rfl trivial)) (m+1) hi rfl (Ba o) (rQ I) (λi hi X=>?_) (aC h4 rfl rfl)
  ·rfl
  cases hc:lt kx (κ xs[i]) with
  |false=>rfl
  |true=>exact GM (g i m (Pw X) k hc) J
 refine eC (by(refine aa decide_eq_true_eq ?_);exact Px p) ?_
 have W:lo=hi:=by exact Py Z p
 subst W;refine bi (openK hQ ?_);refine openK a ?_
 refine bi (openK ‹_› ?_);refine aL λK a=>?_
 refine nZ ?_
 refine bV st y e rfl rfl λb=>?_
 refine openK a ?_
 exact a_ _ _ st (λst=>h lo b _ I h3 h4 st)
theorem JL{c:Cx}{R:af}{ρ:Str->Option AV}{H:af}{s:ae}{A:aD}{E:ab->ae->Prop}{Q:ab->ae->Prop}{d:Nat}{l y:Addr}{x:Int}{t:Tok}{δ:Type}{κ:Int->δ}{Rep:δ->AV->af->Prop}{lt:δ->δ->Bool}{P:Int->Prop}{xs:List Int}(n:c.G.K=KP c.G.w.params)(ok:c.Ok)(D:bL c A (d+3))(st:St c R ρ H s)(X:b8 R c.outer)(KF:mz c.G c.h₀ (d+1) H y κ Rep lt P)(z:H l=wf (.list (xs.map AV.int)))(O:∀i∈xs,P i)(I:P x)(m:∀i j (hi:i<=j) (N:j<xs.length),lt (κ x) (κ (xs[i]'(rP hi N)))=true->lt (κ x) (κ xs[j])=true)(hz:xs.length<=10000)(h:∀(r:Nat) s',r<=xs.length->(∀i (hi:i<xs.length),i<r->lt (κ x) (κ xs[i])=false)->(∀i (hi:i<xs.length),r<=i->lt (κ x) (κ xs[i])=true)->St c R ρ (upd H l (.list ((xs.take r++x::xs.drop r).map AV.int))) s'->Q .none s') :
  al c.M A (call (.ref 30) [.ref l,.int x t] [(("key":Str),.ref y)]) Q E s:=by
 refine tV (binds:=[(("a":Str),.ref l),(("x":Str),.int x t),(("lo":Str),.int 0 196),(("hi":Str),.none),(("key":Str),.ref y)]) (aa n (Ju _)) ok D st (λdoc pm an ct=>iM ok st (by(refine aa n ?_);intro S;kernel_rfl)) (by kernel_rfl) (by kernel_rfl) ?_
 intro c' A' L' s' k T W J a b p;have u:b8 (upd R c.L (.ns ρ)) c'.outer:=aa J (X.push ok st.js);rw[<-T] at n KF;replace KF:=(bn W)▸KF;refine aL λK f=>(eL (er ?_));refine aS p k a (by rfl) rfl (g0 ?_);refine isNone rfl (d_ ?_);refine eC (by exact dE) (aL ?_);intro K f;refine dI (qy ?_);refine mY p k a (by((refine aa n ?_);exact yU _)) rfl ?_
 refine qF (aS p k a (by rfl) rfl ?_);refine eU (aS p k a (by rfl) rfl ?_);refine cw ?_
 dsimp only[ey];refine bV p k a (by rfl) rfl λg=>⟨.inr (KF.i7 rfl k (Sub.refl _) p),?_⟩;refine KF.call rfl rfl k ⟨b.frames,by have:=b.depth;exact PA this,by have:=b.units;exact PB this,b.handled⟩ u (Sub.refl _) p I λY H1 s1 e q C=>?_
 refine bV C k a (by rfl) rfl λg=>(mZ C k a (by rfl) rfl (qV ?_));dsimp only[qt];refine aS C k a (by rfl) rfl ?_
 refine⟨jQ k C (by((refine aa n ?_);exact zV _)),?_⟩;refine FZ n k b C u (KF.up e) (e.le _ _ z) O q m hz λr Z s2 B V U o=>?_
 have o:=o.drop e.le;refine cO o k a rfl λs st=>(openK f (bi ?_));refine openK ‹_› (aL ?_);intro K f;refine jx (Cx.Ok.fn k) (dX ?_);refine aS st k a (by rfl) rfl (gI st z PySem.F.slot_list_insert PySem.F.type_list_insert ?_);refine cw ?_
 dsimp only[ey];refine bV st k a (by rfl) rfl λg=>(bV st k a (by rfl) rfl λg=>?_);refine⟨trivial,?_⟩;refine JJ st z vG (by rw[aw];exact PC B) (by rw[aw,bW];exact rR hz) λs3 v=>?_
 refine⟨rfl,?_⟩;refine openK f (bi ?_);refine a_ _ _ v (λst=>h r _ B V U ?_);rw[l7,<-nD,<-nB] at st;refine aa bf ?_;refine aa bq ?_
 exact st
noncomputable def VX:Stmt:=is 7
noncomputable def lO:Stmt:=is 9
noncomputable def VW:Stmt:=fk (bodyOf VX) 1
noncomputable def VU:Stmt:=fk (bodyOf lO) 0
noncomputable def VT:Stmt:=fk (bodyOf lO) 1
noncomputable def VP:Stmt:=fk (bodyOf lO) 2
noncomputable def CI:Stmt:=fk (bodyOf lO) 3
noncomputable def VZ:Stmt:=fk (bodyOf lO) 4
noncomputable def VQ:Stmt:=fk (bodyOf lO) 7
noncomputable def r8:Stmt:=fk (bodyOf lO) 8
theorem Jv(P:aO):di (KP P) 54 VW "_NodeInfo.__init__" .none .none (.ref 53) where
 fn:=e8 (((cp (KP P) 54).map (·.doc)).getD .none) (((cp (KP P) 54).map (·.pyModule)).getD .none) iF .none (by kernel_rfl)
 code:=by kernel_rfl
 co:=by kernel_rfl
 gen:=by kernel_rfl
 kind:=by kernel_rfl
theorem Jt(P:aO):di (KP P) 91 VU "TopologicalSorter.__init__" (.ref 84) .none (.ref 90) where
 fn:=e8 (((cp (KP P) 91).map (·.doc)).getD .none) (((cp (KP P) 91).map (·.pyModule)).getD .none) iF .none (by kernel_rfl)
 code:=by kernel_rfl
 co:=by kernel_rfl
 gen:=by kernel_rfl
 kind:=by kernel_rfl
theorem Js(P:aO):di (KP P) 98 VT "TopologicalSorter._get_nodeinfo" .none .none (.ref 97) where
 fn:=e8 (((cp (KP P) 98).map (·.doc)).getD .none) (((cp (KP P) 98).map (·.pyModule)).getD .none) iF .none (by kernel_rfl)
 code:=by kernel_rfl
 co:=by kernel_rfl
 gen:=by kernel_rfl
 kind:=by kernel_rfl
theorem Jp(P:aO):di (KP P) 105 VP "TopologicalSorter.add" .none .none (.ref 104) where
 fn:=e8 (((cp (KP P) 105).map (·.doc)).getD .none) (((cp (KP P) 105).map (·.pyModule)).getD .none) iF .none (by kernel_rfl)
 code:=by kernel_rfl
 co:=by kernel_rfl
 gen:=by kernel_rfl
 kind:=by kernel_rfl
theorem Jw(P:aO):di (KP P) 110 CI "TopologicalSorter.prepare" .none .none (.ref 109) where
 fn:=e8 (((cp (KP P) 110).map (·.doc)).getD .none) (((cp (KP P) 110).map (·.pyModule)).getD .none) iF .none (by kernel_rfl)
 code:=by kernel_rfl
 co:=by kernel_rfl
 gen:=by kernel_rfl
 kind:=by kernel_rfl
theorem Jz(P:aO):di (KP P) 117 VZ "TopologicalSorter.get_ready" .none .none (.ref 116) where
 fn:=e8 (((cp (KP P) 117).map (·.doc)).getD .none) (((cp (KP P) 117).map (·.pyModule)).getD .none) iF .none (by kernel_rfl)
 code:=by kernel_rfl
 co:=by kernel_rfl
 gen:=by kernel_rfl
 kind:=by kernel_rfl
theorem Jr(P:aO):di (KP P) 138 VQ "TopologicalSorter.done" .none .none (.ref 137) where
 fn:=e8 (((cp (KP P) 138).map (·.doc)).getD .none) (((cp (KP P) 138).map (·.pyModule)).getD .none) iF .none (by kernel_rfl)
 code:=by kernel_rfl
 co:=by kernel_rfl
 gen:=by kernel_rfl
 kind:=by kernel_rfl
theorem Jq(P:aO):di (KP P) 145 r8 "TopologicalSorter._find_cycle" .none .none (.ref 144) where
 fn:=e8 (((cp (KP P) 145).map (·.doc)).getD .none) (((cp (KP P) 145).map (·.pyModule)).getD .none) iF .none (by kernel_rfl)
 code:=by kernel_rfl
 co:=by kernel_rfl
 gen:=by kernel_rfl
 kind:=by kernel_rfl
theorem zT(P:aO):dr (KP P) (.ref 98)=true:=by kernel_rfl
theorem zR(P:aO):dr (KP P) (.ref 110)=true:=by kernel_rfl
theorem u6(P:aO):dr (KP P) (.ref 117)=true:=by kernel_rfl
theorem zS(P:aO):dr (KP P) (.ref 138)=true:=by kernel_rfl
theorem J1(P:aO):dr (KP P) (.ref 145)=true:=by kernel_rfl
theorem Ca(P:aO)(n:Str):kR (KP P) 155 n=true:=by kernel_rfl
theorem zt(P:aO):nT (KP P) 155=true:=by kernel_rfl
theorem V0(P:aO):eI (KP P) (.ref 155) "__setattr__"=wf (wf (.builtin "object.__setattr__")):=by kernel_rfl
theorem U5(P:aO):tq (KP P) 155=true:=by kernel_rfl
theorem K'(P:aO):makesIn (KP P) 155=true:=by kernel_rfl
theorem K8(P:aO):eI (KP P) (.ref 155) "__init__"=wf (wf (.ref 91)):=by kernel_rfl
theorem Jo(P:aO):isFn (KP P) (.ref 91)=true:=by kernel_rfl
theorem vX(P:aO)(n:Str):kR (KP P) 58 n=true:=by kernel_rfl
theorem uW(P:aO):isClsIn (KP P) 58=true:=by kernel_rfl
theorem we(P:aO):eI (KP P) (.ref 58) "__setattr__"=wf (wf (.builtin "object.__setattr__")):=by kernel_rfl
theorem v0(P:aO):tq (KP P) 58=true:=by kernel_rfl
theorem K!(P:aO):makesIn (KP P) 58=true:=by kernel_rfl
theorem K9(P:aO):eI (KP P) (.ref 58) "__init__"=wf (wf (.ref 54)):=by kernel_rfl
theorem Jn(P:aO):isFn (KP P) (.ref 54)=true:=by kernel_rfl
section
variable{c:Cx}{R:af}{ρ:Str->Option AV}{H:af}{s:ae}{A:aD}{E:ab->ae->Prop}{x d f p:Addr}{sl:List (Option AV)}{es:List (Str×AV)}{name:Str}{av:AV}{v:ab}
theorem fX{expr:Bool}{Q:ab->ae->Prop}(a:c.G.K=KP c.G.w.params)(ok:c.Ok)(st:St c R ρ H s)(b:H x=wf (.inst 155 d sl))(f:H d=wf (.attrs es))(g:eI (KP c.G.w.params) (.ref 155) name=wf iF)(e:es.lookup name=wf av)(hp:av.plain=true)(h:∀v s',abs v=av->St c R ρ H s'->Q v s'):al c.M A (iG (.ref x) name expr) Q E s :=
 HE ok st b f (aa a (Ca _ _)) (aa a (zt _)) (aa a g) e hp h
theorem lP{Q:Unit->ae->Prop}(a:c.G.K=KP c.G.w.params)(ok:c.Ok)(st:St c R ρ H s)(b:H x=wf (.inst 155 d sl))(f:H d=wf (.attrs es))(e:takerIn (KP c.G.w.params) 155 name=wf iF)(hz:es.length<=900)(h:∀s',St c R ρ (upd H d (.attrs (gk name (abs v) es))) s'->Q () s'):al c.M A (nV (.ref x) name v) Q E s :=
 V2 ok st b f (aa a (V0 _)) (aa a (U5 _)) (by(refine aa a ?_);exact e) (aa a (zt _)) hz h
theorem rx{pl:Sem Bool}{Q:ab×List ab->ae->Prop}(a:c.G.K=KP c.G.w.params)(ok:c.Ok)(st:St c R ρ H s)(b:H x=wf (.inst 155 d sl))(j:H d=wf (.attrs es))(i:eI (KP c.G.w.params) (.ref 155) name=wf (wf (.ref f)))(e:isFn (KP c.G.w.params) (.ref f)=true)(g:es.lookup name=iF)(h:Q (.ref f,[.ref x]) s):al c.M A (j4 (.ref x) name pl) Q E s :=
 K5 ok st b j (aa a (Ca _ _)) (aa a i) (aa a e) g h
theorem HF{expr:Bool}{Q:ab->ae->Prop}(a:c.G.K=KP c.G.w.params)(ok:c.Ok)(st:St c R ρ H s)(b:H x=wf (.inst 58 d sl))(f:H d=wf (.attrs es))(e:(sl[0]?).join=wf av)(hp:av.plain=true)(h:∀v s',abs v=av->St c R ρ H s'->Q v s') :
  al c.M A (iG (.ref x) "node" expr) Q E s :=
 ut (p:=59) (i:=0) ok st b f (by(refine aa a ?_);exact vX _ _) (aa a (uW _)) (by(refine aa a ?_);kernel_rfl) (by rw[a];kernel_rfl) (by rw[a];kernel_rfl) (by(refine aa a ?_);kernel_rfl) e hp h
theorem oH{expr:Bool}{Q:ab->ae->Prop}(a:c.G.K=KP c.G.w.params)(ok:c.Ok)(st:St c R ρ H s)(b:H x=wf (.inst 58 d sl))(f:H d=wf (.attrs es))(e:(sl[1]?).join=wf av)(hp:av.plain=true)(h:∀v s',abs v=av->St c R ρ H s'->Q v s') :
  al c.M A (iG (.ref x) "npredecessors" expr) Q E s :=
 ut (p:=60) (i:=1) ok st b f (by(refine aa a ?_);exact vX _ _) (aa a (uW _)) (by rw[a];kernel_rfl) (by(refine aa a ?_);kernel_rfl) (by rw[a];kernel_rfl) (by(refine aa a ?_);kernel_rfl) e hp h
theorem uu{expr:Bool}{Q:ab->ae->Prop}(a:c.G.K=KP c.G.w.params)(ok:c.Ok)(st:St c R ρ H s)(b:H x=wf (.inst 58 d sl))(f:H d=wf (.attrs es))(e:(sl[2]?).join=wf av)(hp:av.plain=true)(h:∀v s',abs v=av->St c R ρ H s'->Q v s') :
  al c.M A (iG (.ref x) "successors" expr) Q E s :=
 ut (p:=61) (i:=2) ok st b f (aa a (vX _ _)) (aa a (uW _)) (by(refine aa a ?_);kernel_rfl) (by(refine aa a ?_);kernel_rfl) (by rw[a];kernel_rfl) (by rw[a];kernel_rfl) e hp h
theorem V4{Q:Unit->ae->Prop}(a:c.G.K=KP c.G.w.params)(ok:c.Ok)(st:St c R ρ H s)(b:H x=wf (.inst 58 d sl))(e:H d=wf (.attrs es))(h:∀s',St c R ρ (upd H x (.inst 58 d ((sl++p8 (0+1-sl.length) iF).set 0 (wf (abs v))))) s'->Q () s'):al c.M A (nV (.ref x) "node" v) Q E s :=
 wh (p:=59) (i:=0) ok st b e (by(refine aa a ?_);exact we _) (aa a (v0 _)) (by(refine aa a ?_);kernel_rfl) (by rw[a];kernel_rfl) (by(refine aa a ?_);kernel_rfl) (by decide) h
theorem pL{Q:Unit->ae->Prop}(a:c.G.K=KP c.G.w.params)(ok:c.Ok)(st:St c R ρ H s)(b:H x=wf (.inst 58 d sl))(e:H d=wf (.attrs es))(h:∀s',St c R ρ (upd H x (.inst 58 d ((sl++p8 (1+1-sl.length) iF).set 1 (wf (abs v))))) s'->Q () s'):al c.M A (nV (.ref x) "npredecessors" v) Q E s :=
 wh (p:=60) (i:=1) ok st b e (by(refine aa a ?_);exact we _) (aa a (v0 _)) (by(refine aa a ?_);kernel_rfl) (by rw[a];kernel_rfl) (by(refine aa a ?_);kernel_rfl) (by decide) h
theorem V7{Q:Unit->ae->Prop}(a:c.G.K=KP c.G.w.params)(ok:c.Ok)(st:St c R ρ H s)(b:H x=wf (.inst 58 d sl))(e:H d=wf (.attrs es))(h:∀s',St c R ρ (upd H x (.inst 58 d ((sl++p8 (2+1-sl.length) iF).set 2 (wf (abs v))))) s'->Q () s'):al c.M A (nV (.ref x) "successors" v) Q E s :=
 wh (p:=61) (i:=2) ok st b e (aa a (we _)) (aa a (v0 _)) (by(refine aa a ?_);kernel_rfl) (by rw[a];kernel_rfl) (by(refine aa a ?_);kernel_rfl) (by decide) h
end
example (P:aO):(slotIn (KP P) 59 58,slotIn (KP P) 60 58,slotIn (KP P) 61 58)=(wf 0,wf 1,wf 2):=by kernel_rfl
section
variable{c:Cx}{R:af}{ρ:Str->Option AV}{H:af}{s:ae}{A:aD}{E:ab->ae->Prop}{Q:ab->ae->Prop}{d:Nat}
theorem KX{k:Int}{t:Tok}(hK:c.G.K=KP c.G.w.params)(ok:c.Ok)(F:bL c A (d+2))(st:St c R ρ H s)(h:∀x j sa s',H x=iF->H j=iF->H sa=iF->x≠j->x≠sa->j≠sa->St c R ρ (upd (upd (upd H j (.attrs [])) sa (.list [])) x (.inst 58 j [wf (.int k),wf (.int 0),wf (.ref sa)])) s'->Q (.ref x) s') :
  al c.M A (call (.ref 58) [.int k t] []) Q E s:=by
 refine Ac ok st (aa hK (K! _)) (by(refine aa hK ?_);exact K9 _) (aa hK (Jn _)) ?_
 intro x j T I v f l;refine ym (binds:=[(("self":Str),.ref x),(("node":Str),.int k t)]) (by(refine aa hK ?_);exact Jv _) ok (Cw F) l (λdoc pm an ct=>iM ok l (by(refine aa hK ?_);intro S;kernel_rfl)) (by kernel_rfl) (by kernel_rfl) ?_
 intro c' U L' s' i J m D C;replace hK:=(bn J)▸hK;refine aL λK g=>(jj (bV C i m (by rfl) rfl ?_));intro n;refine aS C i m (by rfl) rfl ?_
 refine V4 hK i C (am ..) (by(refine aa (aj (aI f)) ?_);exact am ..) ?_
 intro P r;rw[g_] at r;refine openK g (aL ?_);intro K g;refine jj (cInt r ?_);intro n s st;refine aS st i m (by rfl) rfl ?_
 refine pL hK i st (am ..) (by(refine aa (aj (aI f)) ?_);exact am ..) ?_
 intro O p;rw[g_] at p;refine openK g (aL ?_);intro K g;refine jj (listE ?_);refine iV i p (by decide) λsa N b B=>(aS B i m (by rfl) rfl ?_);refine V7 hK i B (by rw[aj ?_];exact am ..;rintro rfl;rw[am] at b;injection b) (by rw[aj ?_,aj (aI f)];exact am ..;rintro rfl;rw[aj (aI f),am] at b;injection b) ?_
 intro L o;refine openK g (bi ?_);have z:x≠sa:=λq=>by(rw[q,am] at b;injection b)
 have nd:j≠sa:=λq=>by(rw[<-q,aj (aI f),am] at b;injection b)
 refine a_ _ _ o (λst=>⟨rfl,h x j sa _ I v ?_ f z nd ?_⟩)
 ·rw[aj (aI z),aj (aI nd)] at b;exact b
 refine st.drop λa ao e=>?_
 by_cases u:a=x
 ·subst u;rw[am] at e ⊢;(refine az e ?_);rfl
 rw[aj u] at e ⊢;by_cases y:a=sa
 ·subst y;rw[am] at e ⊢;exact e
 rw[aj y] at e ⊢;(refine aa (aj u) ?_);exact e
end
theorem yn{c:Cx}{R:af}{ρ:Str->Option AV}{H:af}{s:ae}{A:aD}{f:Addr}{fs:Stmt}{qual:Str}{dV kV aA:ab}{pos:List ab}{kw:List (Str×ab)}{d:Nat}{Rr:fP->ae->Prop}{vs:List ab}{binds:ab->List (Str×ab)}(i:di c.G.K f fs qual dV kV aA)(ok:c.Ok)(q:bL c A (d+1))(st:St c R ρ H s)(n:vs.length<=cB)(b:∀doc pm an ct,e! (gF fs qual dV kV doc pm an aA ct) ⟨pos,kw⟩=(qj vs >>= λt=>pure (binds t)))(g:∀D:Addr,∀y∈binds (.ref D),(aH fs).names.lookup y.1=wf .local)(a:((aH fs).names.all λx=>decide (x.2≠.cell))=true)(h:∀D c' u L' s',H D=iF->c'.Ok->c'.G=c.G->c'.bd=bY qual fs L' f aA []->bL c' u d->St c' (upd R c.L (.ns ρ)) (λx=>((binds (.ref D)).reverse.lookup x).map abs) (upd H D (.tuple (vs.map abs))) s' ->al c'.M u (eo (bodyOf fs) c'.bd) (Back c c' R ρ λv k=>Rr (.ok (.ret v)) k) (λp p=>False) s') :
  dB c.M A (.call (.ref f) ⟨pos,kw⟩) Rr s:=by
 refine lC i.fn λdoc pm an ct e=>(ak (mM e) λo C B=>?_);refine ak st.fr λm F p=>?_
 have r:=ok.K.keeps F.keep;exact Gg ok (by have:=q.depth;exact m8 this) st (r _ _ C) B (nR r i.code) n (b doc pm an ct) g (λx w=>of_decide_eq_true (eE.mp a x w)) i.co i.gen i.kind λD L' s' z l j=>h D _ _ L' s' z l rfl rfl (q.on _) j
def L9(Q:ab->ae->Prop)(E:ab->ae->Prop)(r:fP)(s:ae):Prop:=match r with|.ok (.ret v)=>Q v s|.ok _=>False|.error e=>E e s
structure Gr where
 ks:List Int
 np:Int->Int
 sc:Int->List Int
noncomputable def bA{α:Type}(f:Int->α)(k:Int)(v:α):Int->α:=λx=>if x=k then v else f x
@[simp] theorem eO{α:Type}(f:Int->α)(k:Int)(v:α):bA f k v k=v:=FB rfl
theorem cY{α:Type}{f:Int->α}{k x:Int}{v:α}(h:x≠k):bA f k v x=f x:=Da h
structure cn where
 self:Addr
 d:Addr
 cD:Addr
 g:Gr
 rd:Option (List Int)
 po:Int
 nf:Int
structure Lay where
 ep:Nat
 na:Int->Addr
 nd:Int->Addr
 sa:Int->Addr
 ra:Addr
noncomputable def cn.attrs(σ:cn)(l:Lay):List (Str×AV):=[("_node2info",.ref σ.cD),("_ready_nodes",match σ.rd with|none=>.none|some _=>.ref l.ra),("_npassedout",.int σ.po),("_nfinished",.int σ.nf)]
structure bC(H:af)(F:Addr->Prop)(σ:cn)(l:Lay):Prop where
 inst:H σ.self=wf (.inst 155 σ.d [])
 attr:H σ.d=wf (.attrs (σ.attrs l))
 dict:H σ.cD=wf (.dict (σ.g.ks.map λk=>(k,.ref (l.na k))) l.ep)
 node:∀k∈σ.g.ks,H (l.na k)=wf (.inst 58 (l.nd k) [wf (.int k),wf (.int (σ.g.np k)),wf (.ref (l.sa k))])
 dK:∀k∈σ.g.ks,H (l.nd k)=wf (.attrs [])
 succ:∀k∈σ.g.ks,H (l.sa k)=wf (.list ((σ.g.sc k).map .int))
 inj:∀k∈σ.g.ks,∀k'∈σ.g.ks,l.sa k=l.sa k'->k=k'
 nodup:σ.g.ks.Nodup
 c_:∀r,σ.rd=wf r->H l.ra=wf (.list (r.map .int))/\(∀k∈σ.g.ks,l.sa k≠l.ra)/\F l.ra
 fp:F σ.self/\F σ.d/\F σ.cD
 eA:∀k∈σ.g.ks,F (l.na k)/\F (l.nd k)/\F (l.sa k)
 all:∀b,F b->H b≠iF
structure bI(H:af)(F:Addr->Prop)(H':af)(F':Addr->Prop):Prop where
 keep:∀b ao,¬F b->H b=wf ao->H' b=wf ao
 sub:∀b,F b->F' b
 new:∀b,F' b->F b\/H b=iF
theorem bI.refl(H:af)(F:Addr->Prop):bI H F H F:=⟨λa a a e=>e,λa e=>e,λa e=>.inl e⟩
theorem bI.trans{H H' a:af}{F f qp:Addr->Prop}(x:bI H F H' f)(y:bI H' f a qp):bI H F a qp:=by
 refine⟨λb ao c e=>y.keep b ao (λq=>?_) (x.keep b ao c e),λb q=>y.sub b (x.sub b q),λb q=>?_⟩
 ·obtain q|q:=x.new b q
  ·exact c q
  rw[q] at e;injection e
 obtain q|q:=y.new b q
 ·exact x.new b q
 by_cases d:F b
 ·exact .inl d
 cases e:H b with
 |none=>exact .inr rfl
 |some ao=>rw[x.keep b ao d e] at q;injection q
theorem bI.off{H H':af}{F c:Addr->Prop}(x:bI H F H' c){b:Addr}{ao:AO}(a:¬F b)(e:H b=wf ao):¬c b/\H' b=wf ao :=⟨λq=>(by obtain q|q:=x.new b q;exact a q;rw[q] at e;injection e),x.keep b ao a e⟩
theorem bI.upd{H:af}{F:Addr->Prop}{a:Addr}{o:AO}(h:F a):bI H F (upd H a o) F :=⟨λb ao d e=>by rw[aj (by rintro rfl;exact d h)];exact e,λc e=>e,λc e=>.inl e⟩
noncomputable def bO(k:Int)(g:Gr):Gr:=if k∈g.ks then g else⟨g.ks++[k],bA g.np k 0,bA g.sc k []⟩
theorem o!{α:Type}(f:Int->α)(k:Int):∀ks:List Int,(ks.map λk=>(k,f k)).lookup k=if k∈ks then wf (f k) else iF:=by
 intro l0;induction l0 with
 |nil =>exact rfl
 |cons a r b =>
  refine aa bq ?_;refine aa cP ?_
  by_cases h:k=a
  ·subst h;simp
  have:(k==a)=false:=decide_eq_false h;refine aa this ?_
  simp only[b,aW,h,false_or]
section
variable{c:Cx}{R:af}{ρ:Str->Option AV}{H:af}{s:ae}{A:aD}{E:ab->ae->Prop}{Q:ab->ae->Prop}{d:Nat}{F:Addr->Prop}{σ:cn}{l:Lay}
theorem bC.grow{k:Int}{x p sa:Addr}{ep:Nat}(S:bC H F σ l)(v:k∉σ.g.ks)(hx:H x=iF)(km:H p=iF)(i:H sa=iF)(A:x≠p)(y:x≠sa)(w:p≠sa) :
  bC (upd (upd (upd (upd H p (.attrs [])) sa (.list [])) x (.inst 58 p [wf (.int k),wf (.int 0),wf (.ref sa)])) σ.cD (.dict (σ.g.ks.map (λk=>(k,.ref (l.na k)))++[(k,.ref x)]) ep)) (λb=>F b\/b=x\/b=p\/b=sa)
   { σ with g:=bO k σ.g } ⟨ep,bA l.na k x,bA l.nd k p,bA l.sa k sa,l.ra⟩:=by
 have m:∀b ao,H b=wf ao->b≠σ.cD->upd (upd (upd (upd H p (.attrs [])) sa (.list [])) x (.inst 58 p [wf (.int k),wf (.int 0),wf (.ref sa)])) σ.cD (.dict (σ.g.ks.map (λk=>(k,.ref (l.na k)))++[(k,.ref x)]) ep) b=wf ao:=by intro b ao e s;(refine aa (aj s) ?_;refine aa (aj (λq=>by first|(rw[q,hx] at e;injection e)|(rw[<-q,hx] at e;cases e))) ?_;refine aa (aj (λq=>by first|(rw[q,i] at e;injection e)|(rw[<-q,i] at e;cases e))) ?_;refine aa (aj (λq=>by(rw[q,km] at e;injection e))) ?_);exact e
 have j:bO k σ.g=⟨σ.g.ks++[k],bA σ.g.np k 0,bA σ.g.sc k []⟩:=Da v;have f:∀b ao,H b=wf ao->(∀es e,ao≠.dict es e)->b≠σ.cD:=by rintro b ao e G rfl;rw[S.dict] at e;exact G _ _ (ax e).symm
 have C:x≠σ.cD:=λq=>by((replace hx:=q▸hx;replace hx:=S.dict▸hx);injection hx)
 have J:p≠σ.cD:=λq=>by((replace km:=q▸km;replace km:=S.dict▸km);injection km)
 have D:sa≠σ.cD:=λq=>by(rw[q,S.dict] at i;injection i)
 have d:∀c∈σ.g.ks,c≠k:=by rintro c h rfl;exact v h
 refine⟨m _ _ S.inst (f _ _ S.inst (λo o q=>by injection q)),m _ _ S.attr (f _ _ S.attr (λo o q=>by injection q)),?_,?_,?_,?_,?_,?_,?_,⟨.inl S.fp.1,.inl S.fp.2.1,.inl S.fp.2.2⟩,?_,?_⟩
 ·rw[am,j];congr 2;refine aa bf ?_
  congr 1
  ·exact kN λc h'=>by dsimp only;(exact aa (cY (d c h')) rfl)
  show _=[(k,AV.ref (bA l.na k x k))];rw[eO]
 ·intro c df;rw[j] at df ⊢;obtain h'|h':=aT.mp df
  ·dsimp only;refine aa (cY (d c h')) ?_;refine aa (cY (d c h')) ?_;refine aa (cY (d c h')) ?_;refine aa (cY (d c h')) ?_
   exact m _ _ (S.node c h') (f _ _ (S.node c h') (λo o q=>by injection q))
  refine aa (aK.mp h') ?_
  simp only[eO];rw[aj C,am]
 ·intro c df;rw[j] at df;obtain h'|h':=aT.mp df
  ·dsimp only;refine aa (cY (d c h')) ?_
   exact m _ _ (S.dK c h') (f _ _ (S.dK c h') (λo o q=>by injection q))
  refine aa (aK.mp h') ?_
  dsimp only;rw[eO,aj J,aj (aI A),aj w,am]
 ·intro c df;rw[j] at df ⊢;obtain h'|h':=aT.mp df
  ·dsimp only;refine aa (cY (d c h')) ?_;refine aa (cY (d c h')) ?_
   exact m _ _ (S.succ c h') (f _ _ (S.succ c h') (λo o q=>by injection q))
  refine aa (aK.mp h') ?_
  dsimp only;rw[eO,eO,aj D,aj (aI y),am];rfl
 ·intro k1 t k2 u e;rw[j] at t u;have n:∀c∈σ.g.ks,l.sa c≠sa:=by rintro c h' rfl;rw[S.succ c h'] at i;injection i
  obtain q1|q1:=aT.mp t<;>obtain q2|q2:=aT.mp u
  ·dsimp only at e;rw[cY (d k1 q1),cY (d k2 q2)] at e;exact S.inj k1 q1 k2 q2 e
  ·rw[aK.mp q2] at e;dsimp only at e;rw[cY (d k1 q1),eO] at e;exact GM e (n k1 q1)
  ·rw[aK.mp q1] at e;dsimp only at e;rw[cY (d k2 q2),eO] at e;exact GM e.symm (n k2 q2)
  refine aa (aK.mp q1) ?_;exact aa (aK.mp q2) rfl
 ·(refine aa j ?_);exact cQ.mpr (aC S.nodup (of_decide_eq_true rfl) (by rintro a B b s rfl;rw[aK.mp s] at B;exact v B))
 ·intro r E;refine a! (S.c_ r E) λt u I=>(aC (m _ _ t (f _ _ t (λo o q=>by injection q))) (λc df=>?_) (.inl I));replace df:=j▸df;obtain h'|h':=aT.mp df
  ·dsimp only;(refine aa (cY (d c h')) ?_);exact u c h'
  refine aa (aK.mp h') ?_
  dsimp only;rw[eO];rintro rfl;rw[t] at i;injection i
 ·intro c df;rw[j] at df;obtain h'|h':=aT.mp df
  ·dsimp only;(refine aa (cY (d c h')) ?_;refine aa (cY (d c h')) ?_;refine aa (cY (d c h')) ?_);exact aC (.inl (S.eA c h').1) (.inl (S.eA c h').2.1) (.inl (S.eA c h').2.2)
  refine aa (aK.mp h') ?_
  dsimp only;rw[eO,eO,eO];exact aC (.inr (.inl rfl)) (.inr (.inr (.inl rfl))) (.inr (.inr (.inr rfl)))
 intro b q;by_cases s:b=σ.cD
 ·subst s;rw[am];intro z;injection z
 obtain q|q|q|q:=q
 ·have:=S.all b q;refine cE (x:=H b) (λe=>?_) (λao e=>?_)
  ·exact GM e this
  (refine aa (m b ao e s) ?_);intro z;injection z
 ·subst q;rw[aj s,am];intro z;injection z
 ·subst q;rw[aj s,aj (aI A),aj w,am];intro z;injection z
 subst q;rw[aj s,aj (aI y),am];intro z;injection z
theorem bC.mono{H':af}(S:bC H F σ l)(h:Sub H H'):bC H' F σ l :=
 ⟨h.le _ _ S.inst,h.le _ _ S.attr,h.le _ _ S.dict,λk a=>h.le _ _ (S.node k a),λk a=>h.le _ _ (S.dK k a),λk a=>h.le _ _ (S.succ k a),S.inj,S.nodup,
  λr c=>⟨h.le _ _ (S.c_ r c).1,(S.c_ r c).2⟩,S.fp,S.eA,λb q=>by
   refine cE (x:=H b) (λe=>?_) (λao e=>?_)
   ·exact GM e (S.all b q)
   (refine aa (h.le b ao e) ?_);intro z;injection z⟩
theorem qw{a:Addr}{o:AO}(h:∀b,F b->H b≠iF):∀b,F b->upd H a o b≠iF:=λb q=>by
 by_cases e:b=a
 ·subst e;rw[am];intro z;injection z
 (refine aa (aj e) ?_);exact h b q
theorem bC.r_{k n:Int}(S:bC H F σ l)(m:k∈σ.g.ks) :
  bC (upd H (l.na k) (.inst 58 (l.nd k) [wf (.int k),wf (.int n),wf (.ref (l.sa k))])) F { σ with g:={ σ.g with np:=bA σ.g.np k n } } l:=by
 have c:∀b ao,H b=wf ao->(∀C d sl,ao=.inst C d sl->sl[0]?≠wf (wf (.int k)))->upd H (l.na k) (.inst 58 (l.nd k) [wf (.int k),wf (.int n),wf (.ref (l.sa k))]) b=wf ao:=by intro b ao e j;rw[aj];exact e;rintro rfl;replace e:=(S.node k m)▸e;replace e:=ax e;subst e;exact j _ _ _ rfl rfl
 refine⟨c _ _ S.inst (λa a a q=>by cases q;intro z;injection z),c _ _ S.attr (λa a a q=>by injection q),c _ _ S.dict (λa a a q=>by injection q),λh f=>?_,λh f=>c _ _ (S.dK h f) (λa a a q=>by injection q),
  λh f=>c _ _ (S.succ h f) (λa a a q=>by injection q),S.inj,S.nodup,λr i=>⟨c _ _ (S.c_ r i).1 (λa a a q=>by injection q),(S.c_ r i).2⟩,S.fp,S.eA,qw S.all⟩
 by_cases e:h=k
 ·subst e;dsimp only;rw[am,eO]
 dsimp only;refine aa (cY e) ?_
 refine c _ _ (S.node h f) (λa a a q=>?_);cases q;intro z;simp at z;exact e z
theorem bC.V6{k:Int}{ns:List Int}(S:bC H F σ l)(i:k∈σ.g.ks):bC (upd H (l.sa k) (.list (ns.map .int))) F { σ with g:={ σ.g with sc:=bA σ.g.sc k ns } } l:=by
 have a:∀b ao,H b=wf ao->(∀xs,ao=.list xs->b≠l.sa k)->upd H (l.sa k) (.list (ns.map .int)) b=wf ao:=by intro b ao e j;rw[aj];exact e;rintro rfl;replace e:=(S.succ k i)▸e;replace e:=ax e;subst e;exact j _ rfl rfl
 refine⟨a _ _ S.inst (λd q=>by injection q),a _ _ S.attr (λd q=>by injection q),a _ _ S.dict (λd q=>by injection q),λf c=>a _ _ (S.node f c) (λd q=>by injection q),λf c=>a _ _ (S.dK f c) (λd q=>by injection q),
  λf c=>?_,S.inj,S.nodup,λr h=>⟨a _ _ (S.c_ r h).1 (λd d=>aI ((S.c_ r h).2.1 k i)),(S.c_ r h).2⟩,S.fp,S.eA,qw S.all⟩
 by_cases e:f=k
 ·subst e;dsimp only;rw[am,eO]
 dsimp only;refine aa (cY e) ?_
 exact a _ _ (S.succ f c) (λd d q=>e (S.inj f c k i q))
noncomputable def addEdge(node p:Int)(g:Gr):Gr:={ bO p g with sc:=bA (bO p g).sc p ((bO p g).sc p++[node]) }
noncomputable def g5(node:Int)(n:Nat)(g:Gr):Gr:={ bO node g with np:=bA (bO node g).np node ((bO node g).np node+n) }
noncomputable def iK(node:Int)(preds:List Int)(g:Gr):Gr:=preds.foldl (λg p=>addEdge node p g) (g5 node preds.length g)
theorem Ah(k:Int)(g:Gr):k∈(bO k g).ks:=by unfold bO;split;assumption;exact bt _ (.head _)
theorem yD(k:Int)(g:Gr):(bO k g).ks.length<=g.ks.length+1:=by unfold bO;split;exact Bh;simp
theorem G5(node:Int):∀(ps:List Int) (g:Gr),(ps.foldl (λg p=>addEdge node p g) g).ks.length<=g.ks.length+ps.length:=by
 intro l0;induction l0 with
 |nil =>intro g;exact bD _
 |cons p r b =>
  intro g;have a:=b (addEdge node p g);have d:=yD p g;have c:(addEdge node p g).ks=(bO p g).ks:=rfl;replace a:=c▸a;refine aa hO ?_;refine aa eQ ?_
  exact vO a d
theorem qL(k:Int)(g:Gr){B:Nat}(h:∀k,(g.sc k).length<=B):∀a,((bO k g).sc a).length<=B:=by
 intro a;delta bO;split
 ·exact h a
 dsimp only;unfold bA;split
 ·exact kO _
 exact h a
theorem G6(node:Int):∀(ps:List Int) (g:Gr) (B:Nat),(∀k,(g.sc k).length<=B)->∀k,((ps.foldl (λg p=>addEdge node p g) g).sc k).length<=B+ps.length:=by
 intro l0;induction l0 with
 |nil =>intro g B h;exact h
 |cons p r b =>
  intro g B h;intro k;refine aa hO ?_;refine aa eQ ?_
  have:=b (addEdge node p g) (B+1) (λa=>by
   have d:=qL p g h a;have c:=qL p g h p;show(bA (bO p g).sc p ((bO p g).sc p++[node]) a).length<=B+1;delta bA;split
   ·(refine aa cA ?_);exact mc c
   exact Bi d) k
  exact PD this
theorem zI{k:Int}{t:Tok}(hK:c.G.K=KP c.G.w.params)(ok:c.Ok)(T:bL c A (d+3))(st:St c R ρ H s)(S:bC H F σ l)(hz:σ.g.ks.length<=10000)(h:∀H' N l' s',bI H F H' N->bC H' N { σ with g:=bO k σ.g } l'->St c R ρ H' s'->Q (.ref (l'.na k)) s') :
  al c.M A (call (.ref 98) [.ref σ.self,.int k t] []) Q E s:=by
 refine ye (binds:=[(("self":Str),.ref σ.self),(("node":Str),.int k t)]) (aa hK (Js _)) ok T st (λdoc pm an ct=>iM ok st (by(refine aa hK ?_);intro S;kernel_rfl)) (by kernel_rfl) (by kernel_rfl) ?_
 intro c' A' L' s' m Y f D P;replace hK:=(bn Y)▸hK;refine aL λK a=>(eL (er ?_));refine wpAny_NamedExpr (dX ?_);refine ej (aS P m f rfl rfl ?_);refine fX hK m P S.inst S.attr (by kernel_rfl) (av:=.ref σ.cD) rfl rfl (fJ ?_);intro s st;refine rz st S.dict PySem.F.slot_dict_get PySem.F.type_dict_get (cw ?_);dsimp only[ey];refine bV st m f rfl rfl λp=>?_
 refine⟨trivial,?_⟩;refine getM st S.dict λv s n st=>(fA (cO st m f rfl ?_));intro s st;refine g0 (isNone n ?_);refine d_ ?_
 rw[o!] at n ⊢;by_cases z:k∈σ.g.ks
 ·rw[FB z] at n ⊢;refine eC (by exact dE) ?_
  have I:=n;refine bi (openK a ?_);refine aL λK a=>(nZ (mZ st m f rfl rfl ?_));intro v n;refine openK a ?_
  refine aa (ed (n.trans I)) ?_
  refine a_ _ _ st (λst=>?_);have J:bO k σ.g=σ.g:=FB z;exact h H F l _ (bI.refl _ _) (aa J S) st
 rw[Da z] at n ⊢;refine ic (by rfl) (aL ?_);intro K a;refine wpAny_Assign_two (eU ?_);refine mY st m f (by((refine aa hK ?_);exact Hr _)) rfl ?_
 refine cw ?_
 dsimp only[ey];refine bV st m f rfl rfl λp=>?_
 refine⟨jQ m st (by((refine aa hK ?_);exact J2 _)),?_⟩;refine KX hK m D st λx L sa s1 B o i W V U O=>?_
 have C:∀b ao,H b=wf ao->upd (upd (upd H L (.attrs [])) sa (.list [])) x (.inst 58 L [wf (.int k),wf (.int 0),wf (.ref sa)]) b=wf ao:=by intro b ao e;(refine aa (aj (λq=>by first|(rw[q,B] at e;injection e)|(rw[<-q,B] at e;cases e))) ?_;refine aa (aj (λq=>by first|(rw[q,i] at e;injection e)|(rw[<-q,i] at e;cases e))) ?_;refine aa (aj (λq=>by(rw[q,o] at e;injection e))) ?_);exact e
 refine Fu (ej ?_);refine aS O m f rfl rfl (fX hK m O (C _ _ S.inst) (C _ _ S.attr) (by kernel_rfl) (av:=.ref σ.cD) rfl rfl ?_);refine fJ λs st=>(bV st m f rfl rfl λp=>?_);refine kD st (C _ _ S.dict) (by rw[aw,bW];exact rR hz) λep s st=>(fA (cO st m f rfl ?_));intro s st;refine openK a (bi ?_);refine openK ‹_› (aL ?_);intro K a;refine nZ (aS st m f rfl rfl ?_);refine openK a ?_
 have G:=S.grow (ep:=ep) z B o i W V U;refine a_ _ _ st (λst=>?_);have r:i8 (σ.g.ks.map λk=>(k,AV.ref (l.na k))) k (.ref x)=σ.g.ks.map (λk=>(k,AV.ref (l.na k)))++[(k,.ref x)]:=by
  delta i8;rw[Da];rw[sN,w7];intro j;refine ak j λy X e=>?_
  exact z ((of_decide_eq_true e:y=k)▸X)
 have u:St c R ρ _ _:=st;rw[show abs (Value.ref x)=AV.ref x from rfl,r] at u;have:=h _ _ _ _ ⟨λb ao Z e=>?_,λb q=>.inl q,λb q=>?_⟩ G u
 ·dsimp only at this;rwa [eO] at this
 ·(refine aa (aj (by rintro rfl;exact Z S.fp.2.2)) ?_);exact C b ao e
 obtain q|q|q|q:=q
 ·exact .inl q
 ·exact .inr (q▸B)
 ·exact .inr (q▸o)
 exact .inr (q▸i)
theorem Fd{Rr:fP->ae->Prop}{k:Int}{t:Tok}{preds:List Int}{ps:List ab}(hK:c.G.K=KP c.G.w.params)(ok:c.Ok)(rm:bL c A (d+4))(st:St c R ρ H s)(S:bC H F σ l)(q!:σ.rd=iF)(Q:ps.map abs=preds.map AV.int)(hz:σ.g.ks.length+preds.length<=9000)(uP:∀k,(σ.g.sc k).length+preds.length<=9000)(h:∀H' z l' s',bI H F H' z->bC H' z { σ with g:=iK k preds σ.g } l'->St c R ρ H' s'->Rr (.ok (.ret .none)) s') :
  dB c.M A (.call (.ref 105) ⟨.ref σ.self::.int k t::ps,[]⟩) Rr s:=by
 have T:ps.length=preds.length:=by have:=congrArg hU Q;simpa using this
 refine yn (vs:=ps) (binds:=λD=>[(("self":Str),.ref σ.self),(("node":Str),.int k t),(("predecessors":Str),D)]) (by(refine aa hK ?_);exact Jp _) ok rm st (aa T (aa bW (PE hz))) (λdoc pm an ct=>by cases ps<;>kernel_rfl) (λD=>locs (by kernel_rfl)) (by kernel_rfl) ?_
 intro D c' A' L' s' hD j hG m E d8;replace hK:=(bn hG)▸hK;replace d8:=Q▸d8;have HZ:¬F D:=λq=>S.all D q hD;have S0:=S.mono ((Sub.refl H).upd (o:=.tuple (preds.map AV.int)) hD);refine aL λK a=>?_
 refine eL (er ?_);refine ej (aS d8 j m rfl rfl ?_);refine fX hK j d8 S0.inst S0.attr (by kernel_rfl) (av:=.none) (by show wf _=_;(exact aa q! rfl)) rfl λv s hv st=>?_
 refine g0 ?_
 refine isNotNone hv (d_ ?_);refine eC (by exact dE) ?_
 refine bi (openK a ?_);refine aL λK a=>?_
 refine dI (dX ?_);refine aS st j m (by rfl) rfl ?_
 refine rx hK j st S0.inst S0.attr (f:=98) (by kernel_rfl) (by kernel_rfl) rfl (cw ?_);dsimp only[ey];refine bV st j m (by rfl) rfl λr=>?_
 refine⟨jQ j st (by((refine aa hK ?_);exact zT _)),?_⟩;refine zI hK j E st S0 (PF hz) ?_
 intro H1 F1 l1 s1 P1 N wk;refine oA (P1.off HZ (am ..)) λH5 za=>?_
 have x:=Ah k σ.g;refine cO wk j m rfl λs st=>?_
 refine openK a ?_
 refine aL λK a=>?_
 refine tw (aS st j m rfl rfl ?_);refine oH hK j st (N.node k x) (N.dK k x) rfl rfl ?_
 refine jy λr s st=>?_
 refine eU ?_
 refine ku st j m (by(refine aa hK ?_);kernel_rfl) mG (by decide) rfl ?_
 refine cw ?_
 dsimp only[ey];refine aS st j m rfl rfl ?_
 refine⟨trivial,?_⟩;refine z! st za (by rw[aw];exact PG hz) λr s st=>?_
 rw[aw] at *;refine uV st λr s st=>?_
 refine pL hK j st (N.node k x) (N.dK k x) λs2 Wh=>?_
 have S2:=N.r_ (n:=(bO k σ.g).np k+preds.length) x;have P2:=bI.upd (H:=H1) (o:=.inst 58 (l1.nd k) [wf (.int k),wf (.int ((bO k σ.g).np k+preds.length)),wf (.ref (l1.sa k))]) (N.eA k x).1;refine oA (P2.off H5 za) λZ zb=>(openK a ?_);refine aL λK a=>?_
 refine kW (aS Wh j m rfl rfl ?_);refine o7 j Wh zb λit s3 hit V C=>?_
 have C:=C.names [("self",.ref σ.self),("node",.int k)] (aC rfl rfl trivial);refine qS (rh E.handled) V C (λi ρ' H'=>ρ'=lk [("self",.ref σ.self),("node",.int k)]/\H' D=wf (.tuple (preds.map AV.int))/\∃z l',¬z D/\bI (upd H D (.tuple (preds.map AV.int))) F H' z/\bC H' z { σ with g:=(preds.take i).foldl (λg p=>addEdge k p g) (g5 k preds.length σ.g) } l')
  (λi ρ' H' h=>h.2.1) (wH rfl zb F1 l1 Z (P1.trans P2) S2) ?_ ?_
 ·intro i av R' ρ' H' s' v hi hR I st hv;obtain⟨rfl,oO,z,l',W,Pi,J⟩:=I;intro K jz;replace hi:=bp▸hi;refine ak (bu.mp hi) λp hp XG=>?_
  obtain rfl:=XG;obtain⟨eN,hp⟩:=dG.mp hp;obtain⟨r,rfl⟩:=eM hv;have ht:preds.take (i+1)=preds.take i++[p]:=aa iC (aa (cz eN) (aa hp rfl));have U:=G5 k (preds.take i) (g5 k preds.length σ.g);have Iz:=yD k σ.g;have h0:(g5 k preds.length σ.g).ks=(bO k σ.g).ks:=rfl;rw[h0,je] at U;refine fA ?_
  refine cO st j m rfl λs st=>?_
  refine aL λK a=>?_
  refine dI (dX ?_);refine aS st j m (by rfl) rfl ?_
  refine rx hK j st J.inst J.attr (f:=98) (by kernel_rfl) (by kernel_rfl) rfl (cw ?_);dsimp only[ey];refine bV st j m (by rfl) rfl λr=>?_
  refine⟨jQ j st (by((refine aa hK ?_);exact zT _)),?_⟩;refine zI (σ:={ σ with g:=(preds.take i).foldl (λg p=>addEdge k p g) (g5 k preds.length σ.g) }) hK j E st J (PH hz U Iz) ?_
  intro H4 F4 l4 s4 P4 L jP;refine oA (P4.off W oO) λY oM=>?_
  have u:=Ah p ((preds.take i).foldl (λg p=>addEdge k p g) (g5 k preds.length σ.g));refine cO jP j m rfl λs st=>?_
  refine openK a ?_
  refine aL λK a=>?_
  refine jx (Cx.Ok.fn j) ?_
  refine dX (ej ?_);refine aS st j m rfl rfl (uu hK j st (L.node p u) (L.dK p u) rfl rfl ?_);refine fJ λs st=>?_
  refine gI st (L.succ p u) PySem.F.slot_list_append PySem.F.type_list_append (cw ?_);dsimp only[ey];refine bV st j m rfl rfl λr=>?_
  refine⟨trivial,?_⟩;have P:=qL p _ (G6 k (preds.take i) (g5 k preds.length σ.g) (9000-preds.length) (λk'=>by have:=qL k σ.g (B:=9000-preds.length) (λk'=>by have:=uP k';exact PI this) k';exact this)) p;rw[je] at P;refine ju st (L.succ p u) (by rw[aw,bW];exact PJ hz P) λs5 O=>?_
  refine⟨rfl,?_⟩;refine openK a ?_
  refine bi (openK jz ?_);have S5:=L.V6 (ns:=(bO p ((preds.take i).foldl (λg p=>addEdge k p g) (g5 k preds.length σ.g))).sc p++[k]) u;have P5:=bI.upd (H:=H4) (o:=.list (((bO p ((preds.take i).foldl (λg p=>addEdge k p g) (g5 k preds.length σ.g))).sc p++[k]).map AV.int)) (L.eA p u).2.2;refine oA (P5.off Y oM) λX zc=>?_
  rw[show abs (Value.int k _)=AV.int k from rfl] at O;rw[bf] at zc S5 P5;refine Xh _ _ (St.names O [("self",.ref σ.self),("node",.int k)] (aC rfl rfl trivial)) rfl zc F4 l4 X ((Pi.trans P4).trans P5) ?_
  refine aa ht ?_;refine aa gu ?_
  exact S5
 intro ρ' H' s' y st;obtain⟨rfl,oO,z,l',W,Pi,J⟩:=y;rw[aw,fv] at J;refine bi (openK a ?_);refine bi (a_ _ _ st (λst=>h H' z l' _ ?_ J st));exact⟨λb ao hn e=>Pi.keep b ao hn (aa (aj (λq=>by(rw[q,hD] at e;injection e))) e),Pi.sub,λb q=>by
  obtain q'|q':=Pi.new b q
  ·exact .inl q'
  by_cases e:b=D
  ·subst e;exact .inr hD
  rw[aj e] at q';exact .inr q'⟩
end
section
variable{c:Cx}{R:af}{ρ:Str->Option AV}{H:af}{s:ae}{A:aD}{E:ab->ae->Prop}{Q:ab->ae->Prop}{d:Nat}{F:Addr->Prop}{σ:cn}{l:Lay}
noncomputable def Gr.empty:Gr:=⟨[],λzz=>0,λzz=>[]⟩
theorem three{H:af}{a x n:Addr}{i d0:AO}(c:x≠a)(g:x≠n)(nd:a≠n)(f:H a=iF)(h:H x=iF)(j:H n=iF) :
  ∃F:AO->af,(∀ao,upd (upd (upd H a ao) x i) n d0=F ao)/\(∀ao,F ao x=wf i)/\(∀ao,F ao a=wf ao)/\(∀ao,F ao n=wf d0)/\(∀ao ao',upd (F ao) a ao'=F ao')/\∀ao,Sub H (F ao):=by
 refine Xa _ (λk=>rfl) (λao=>(aj g).trans (am ..)) (λao=>(aj nd).trans ((aj (aI c)).trans (am ..))) (λao=>am ..) (λao ao'=>funext λb=>?_) (λao=>(((Sub.refl H).upd f).upd h).upd j);by_cases q:b=a
 ·rw[q,am,aj nd,aj (aI c),am]
 refine aa (aj q) ?_
 by_cases e:b=n
 ·rw[e,am,am]
 refine aa (aj e) ?_;refine aa (aj e) ?_
 by_cases d:b=x
 ·rw[d,am,am]
 refine aa (aj d) ?_;refine aa (aj d) ?_;refine aa (aj q) ?_;exact aa (aj q) rfl
theorem KY(hK:c.G.K=KP c.G.w.params)(ok:c.Ok)(P:bL c A (d+2))(st:St c R ρ H s)(h:∀x g n H' F l s',(∀b,F b->H b=iF)->Sub H H'->bC H' F ⟨x,g,n,.empty,iF,0,0⟩ l->St c R ρ H' s'->Q (.ref x) s') :
  al c.M A (call (.ref 155) [] []) Q E s:=by
 refine Ac ok st (aa hK (K' _)) (by(refine aa hK ?_);exact K8 _) (aa hK (Jo _)) ?_
 intro x g s1 T D o m;refine ym (binds:=[(("self":Str),.ref x),(("graph":Str),.none)]) (by(refine aa hK ?_);exact Jt _) ok (Cw P) m (λdoc pm an ct=>iM ok m (by(refine aa hK ?_);intro S;kernel_rfl)) (by kernel_rfl) (by kernel_rfl) ?_
 intro c' A' L' s' e V p O N;replace hK:=(bn V)▸hK;refine aL ?_
 intro K a;refine jj ?_
 refine newD e N ?_
 intro n s2 hn C;have J:x≠n:=λq=>by(rw[q,am] at hn;injection hn)
 have nd:g≠n:=λq=>by(rw[<-q,aj (aI o),am] at hn;injection hn)
 replace hn:=(aj (aI J))▸hn;replace hn:=(aj (aI nd))▸hn;refine LS (three (i:=.inst 155 g []) (d0:=.dict [] 0) o J nd D T hn) λF3 e0 k1 k2 L t ks=>?_
 rw[e0] at C;refine aS C e p (by rfl) rfl ?_
 refine lP hK e C (k1 _) (k2 _) (by kernel_rfl) (by decide) ?_
 intro Z B;rw[t] at B;refine openK a ?_
 refine aL ?_
 intro K a;refine jj ?_
 refine g0 ?_
 refine aS B e p (by rfl) rfl ?_
 refine lP hK e B (k1 _) (k2 _) (by kernel_rfl) (by exact bl rfl) ?_
 intro Y y;rw[t] at y;refine openK a ?_
 refine aL ?_
 intro K a;refine jj ?_
 refine cInt y ?_
 intro u s st;refine aS st e p (by rfl) rfl ?_
 refine lP hK e st (k1 _) (k2 _) (by kernel_rfl) (by exact bl rfl) ?_
 intro X v;rw[t] at v;refine openK a ?_
 refine aL ?_
 intro K a;refine jj ?_
 refine cInt v ?_
 intro u s st;refine aS st e p (by rfl) rfl ?_
 refine lP hK e st (k1 _) (k2 _) (by kernel_rfl) (by exact bl rfl) ?_
 intro W j;rw[t] at j;refine openK a ?_
 refine aL ?_
 intro K a;refine eL ?_
 refine er ?_
 refine mZ j e p (by rfl) rfl ?_
 refine qV ?_
 refine g0 ?_
 refine isNotNone rfl ?_
 refine d_ ?_
 refine eC (by exact dE) ?_
 refine bi ?_
 refine openK a ?_
 refine bi ?_
 refine a_ _ _ j (λst=>⟨rfl,h x g n _ (λb=>b=x\/b=g\/b=n) ⟨0,λI=>0,λI=>0,λI=>0,0⟩ _ ?_ ?_ ?_ st⟩)
 ·rintro b (rfl|rfl|rfl)<;>assumption
 ·exact ks _
 refine⟨k1 _,(k2 _).trans rfl,L _,λk f=>(by cases f),λk f=>(by cases f),λk f=>(by cases f),λk f=>(by cases f),.nil,λr U=>(by injection U),⟨.inl rfl,.inr (.inl rfl),.inr (.inr rfl)⟩,λk f=>(by cases f),?_⟩;rintro b (rfl|rfl|rfl)
 ·rw[k1];intro z;injection z
 ·rw[k2];intro z;injection z
 rw[L];intro z;injection z
end
section
variable{c:Cx}{R:af}{ρ:Str->Option AV}{H:af}{s:ae}{A:aD}{E:ab->ae->Prop}{Q:ab->ae->Prop}{d:Nat}{F:Addr->Prop}{σ:cn}{l:Lay}
theorem bC.setAt{po nf:Int}{es:List (Str×AV)}(S:bC H F σ l)(j:es=({ σ with po:=po,nf:=nf }:cn).attrs l):bC (upd H σ.d (.attrs es)) F { σ with po:=po,nf:=nf } l:=by
 refine aa j ?_
 have a:∀b ao,H b=wf ao->(∀es,ao=.attrs es->b≠σ.d)->upd H σ.d (.attrs (({ σ with po:=po,nf:=nf }:cn).attrs l)) b=wf ao:=by intro b ao e i;rw[aj];exact e;rintro rfl;replace e:=S.attr▸e;replace e:=ax e;subst e;exact i _ rfl rfl
 refine⟨a _ _ S.inst (λf q=>by injection q),am ..,a _ _ S.dict (λf q=>by injection q),λk c=>a _ _ (S.node k c) (λf q=>by injection q),λk c=>a _ _ (S.dK k c) (λf q=>?_),λk c=>a _ _ (S.succ k c) (λf q=>by injection q),S.inj,S.nodup,
  λr h=>⟨a _ _ (S.c_ r h).1 (λf q=>by injection q),(S.c_ r h).2⟩,S.fp,S.eA,qw S.all⟩
 intro z;have g:=S.dK k c;replace g:=z▸g;replace g:=S.attr▸g;cases g
theorem bC.CK{r r':List Int}(S:bC H F σ l)(hr:σ.rd=wf r):bC (upd H l.ra (.list (r'.map .int))) F { σ with rd:=wf r' } l:=by
 refine a! (S.c_ r hr) λi f h=>?_
 have a:∀b ao,H b=wf ao->(∀xs,ao=.list xs->b≠l.ra)->upd H l.ra (.list (r'.map .int)) b=wf ao:=by intro b ao e g;rw[aj];exact e;rintro rfl;replace e:=i▸e;replace e:=ax e;subst e;exact g _ rfl rfl
 refine⟨a _ _ S.inst (λc q=>by injection q),?_,a _ _ S.dict (λc q=>by injection q),λk d=>a _ _ (S.node k d) (λc q=>by injection q),λk d=>a _ _ (S.dK k d) (λc q=>by injection q),λk d=>a _ _ (S.succ k d) (λc c=>f k d),S.inj,S.nodup,
  λr hr=>aC ?_ f h,S.fp,S.eA,qw S.all⟩
 ·have:=a _ _ S.attr (λc q=>by injection q);unfold cn.attrs at this ⊢;replace this:=hr▸this;exact this
 (replace hr:=ax hr;subst hr);exact am ..
noncomputable def outs(r:List Int)(np:Int->Int):Int->Int:=r.foldl (λnp k=>bA np k (-1)) np
theorem Vu{r:List Int}(hK:c.G.K=KP c.G.w.params)(ok:c.Ok)(rm:bL c A (d+1))(st:St c R ρ H s)(S:bC H F σ l)(x:σ.rd=wf r)(hz:r.length<=10000)(hr:∀k∈r,k∈σ.g.ks)(h:∀D H' s',H D=iF->H' D=wf (.tuple (r.map AV.int))->bI H F H' F->bC H' F { σ with g:={ σ.g with np:=outs r σ.g.np },rd:=wf [],po:=σ.po+r.length } l->St c R ρ H' s'->Q (.ref D) s') :
  al c.M A (call (.ref 117) [.ref σ.self] []) Q E s:=by
 refine ye (binds:=[(("self":Str),.ref σ.self)]) (by(refine aa hK ?_);exact Jz _) ok rm st (λdoc pm an ct=>iM ok st (by(refine aa hK ?_);intro S;kernel_rfl)) (by kernel_rfl) (by kernel_rfl) ?_
 intro c' A' L' s' f hG j jN d8;replace hK:=(bn hG)▸hK;refine a! (S.c_ r x) λuO zA I0=>?_
 have I:(σ.attrs l).lookup (Str.ofString "_ready_nodes")=wf (AV.ref l.ra):=by show wf _=_;(exact aa x rfl)
 refine aL λK a=>(eL (er ?_));refine ej (aS d8 f j rfl rfl ?_);refine fX hK f d8 S.inst S.attr (by kernel_rfl) I rfl λv s hv st=>(g0 (isNone hv ?_));refine d_ (eC (by exact dE) ?_);refine bi (openK a ?_);refine aL λK a=>(dI (eU ?_));refine ku st f j (by(refine aa hK ?_);kernel_rfl) FQ (by decide) rfl ?_
 refine cw ?_
 dsimp only[ey];refine ej (aS st f j rfl rfl ?_);refine fX hK f st S.inst S.attr (by kernel_rfl) I rfl (fJ ?_);intro s st;refine⟨trivial,?_⟩;refine tupleOf f st (.inl uO) (by rw[aw,bW];exact rR hz) λD s1 W wk=>?_
 have J:¬F D:=λq=>S.all D q W;have S1:=S.mono ((Sub.refl H).upd (o:=.tuple (r.map AV.int)) W);refine cO ‹_› ‹_› j rfl λs st=>(openK ‹_› (aL ?_));intro K a;refine dI (ej ?_);refine aS ‹_› ‹_› j rfl rfl (fX hK f ‹_› S1.inst S1.attr (by kernel_rfl) (av:=.ref σ.cD) rfl rfl ?_);refine fJ λs st=>(cO ‹_› ‹_› j rfl λs st=>?_);refine openK ‹_› (aL ?_);intro K a;refine kW (aS ‹_› ‹_› j rfl rfl ?_);refine o7 f ‹_› (am ..) λit s3 hit O z=>?_
 have z:=z.names [("self",.ref σ.self),("result",.ref D),("n2i",.ref σ.cD)] (cL rfl rfl rfl trivial);refine qS (rh jN.handled) O z (λi ρ' H'=>ρ'=lk [("self",.ref σ.self),("result",.ref D),("n2i",.ref σ.cD)]/\H' D=wf (.tuple (r.map AV.int))/\bI (upd H D (.tuple (r.map AV.int))) F H' F/\bC H' F { σ with g:={ σ.g with np:=outs (r.take i) σ.g.np } } l)
  (λi ρ' H' h=>h.2.1) (cL rfl (am ..) (bI.refl _ _) S1) ?_ ?_
 ·intro i av R' ρ' H' s' v hi hR C st hv;obtain⟨rfl,L,Pi,t⟩:=C;intro K jz;rw[bp] at hi;refine ak (bu.mp hi) λp hp Y=>?_
  obtain rfl:=Y;obtain⟨N,hp⟩:=dG.mp hp;refine oE (eM hv) λu X=>?_
  obtain rfl:=X;have m:p∈σ.g.ks:=hr p (hp▸iy N);have ht:r.take (i+1)=r.take i++[p]:=aa iC (aa (cz N) (aa hp rfl));refine fA (cO ‹_› ‹_› j rfl ?_);intro s st;refine aL λK a=>(jj ?_);refine mY ‹_› ‹_› j (by((refine aa hK ?_);exact yV _)) rfl ?_
  refine jg (aS ‹_› ‹_› j (by rfl) rfl ?_);refine bV ‹_› ‹_› j (by rfl) rfl λu=>(kq ‹_› t.dict (av:=.ref (l.na p)) (by rw[o!,FB m]) (fJ ?_));intro s st;refine pL hK f ‹_› (t.node p m) (t.dK p m) λs4 jP=>?_
  have S4:=t.r_ (n:=-1) m;have P4:=bI.upd (H:=H') (o:=.inst 58 (l.nd p) [wf (.int p),wf (.int (-1)),wf (.ref (l.sa p))]) (t.eA p m).1;refine oA (P4.off J L) λV oM=>(openK ‹_› ?_);refine bi (openK ‹_› ?_);refine kH _ _ (St.names jP [("self",.ref σ.self),("result",.ref D),("n2i",.ref σ.cD)] (cL rfl rfl rfl trivial)) rfl oM (Pi.trans P4) ?_
  delta outs;refine aa ht ?_;refine aa gu ?_
  exact S4
 intro ρ' H' s' B st;obtain⟨rfl,L,Pi,t⟩:=B;rw[aw,fv] at t;refine a! (t.c_ r x) λy V V=>(bi ?_);refine openK ‹_› (aL ?_);intro K a;refine jx (Cx.Ok.fn ‹_›) (dX ?_);refine ej (aS ‹_› ‹_› j rfl rfl ?_);refine fX hK f ‹_› t.inst t.attr (by kernel_rfl) I rfl ?_
 refine fJ λs st=>?_
 refine gI ‹_› y PySem.F.slot_list_clear PySem.F.type_list_clear (cw ?_);refine⟨trivial,?_⟩;refine Gk ‹_› y (by rw[aw,bW];exact rR hz) λs5 wl=>?_
 refine⟨rfl,?_⟩;have U:=t.CK (r':=[]) x;have P5:=bI.upd (H:=H') (F:=F) (o:=.list []) I0;refine oA (P5.off J L) λV T=>(openK ‹_› ?_);refine aL λK a=>?_
 refine tw (aS ‹_› ‹_› j rfl rfl ?_);refine fX hK f ‹_› U.inst U.attr (by kernel_rfl) (av:=.int σ.po) rfl rfl ?_
 refine jy λu s st=>?_
 refine eU ?_
 refine ku ‹_› ‹_› j (by(refine aa hK ?_);kernel_rfl) mG (by decide) rfl ?_
 refine cw ?_
 dsimp only[ey];refine aS ‹_› ‹_› j rfl rfl ?_
 refine⟨trivial,?_⟩;refine z! ‹_› T (by rw[aw];exact Bb hz) λu s st=>?_
 rw[aw];refine uV ‹_› λu s st=>?_
 refine lP hK f ‹_› U.inst U.attr (by kernel_rfl) (by exact bl rfl) λs6 Z=>?_
 have S6:=U.setAt (po:=σ.po+r.length) (nf:=σ.nf) (es:=gk "_npassedout" (.int (σ.po+r.length)) (cn.attrs { σ with g:={ σ.g with np:=outs r σ.g.np },rd:=wf [] } l)) rfl;have P6:=bI.upd (H:=upd H' l.ra (.list [])) (F:=F) (o:=.attrs (gk "_npassedout" (.int (σ.po+r.length)) (cn.attrs { σ with g:={ σ.g with np:=outs r σ.g.np },rd:=wf [] } l))) S.fp.2.1;refine oA (P6.off J T) λV qW=>(openK ‹_› ?_);refine aL λK a=>?_
 refine nZ (aS ‹_› ‹_› j rfl rfl ?_);refine openK ‹_› ?_
 refine a_ _ _ Z (λst=>h D _ _ W qW ?_ S6 st);have P:=(Pi.trans P5).trans P6;exact⟨λb ao hn e=>P.keep b ao hn (aa (aj (λq=>by(rw[q,W] at e;injection e))) e),P.sub,λb q=>.inl q⟩
end
section
variable{c:Cx}{R:af}{ρ:Str->Option AV}{H:af}{s:ae}{A:aD}{E:ab->ae->Prop}{Q:ab->ae->Prop}{d:Nat}{F:Addr->Prop}{σ:cn}{l:Lay}
noncomputable def dec(st:(Int->Int)×List Int)(s:Int):(Int->Int)×List Int:=(bA st.1 s (st.1 s-1),if st.1 s-1=0 then st.2++[s] else st.2)
noncomputable def dt(np:Int->Int)(rd:List Int)(ss:List Int):(Int->Int)×List Int:=ss.foldl dec (np,rd)
noncomputable def mK(σ:cn)(k:Int):cn :=
 { σ with g:={ σ.g with np:=(dt (bA σ.g.np k (-2)) (σ.rd.getD []) (σ.g.sc k)).1 },rd:=wf (dt (bA σ.g.np k (-2)) (σ.rd.getD []) (σ.g.sc k)).2,nf:=σ.nf+1 }
noncomputable def dZ(ns:List Int)(σ:cn):cn:=ns.foldl mK σ
theorem GK:∀(ss:List Int) (np:Int->Int) (rd:List Int),(dt np rd ss).2.length<=rd.length+ss.length:=by
 intro l0;induction l0 with
 |nil =>intro _ _;exact bD _
 |cons x r a =>
  intro np rd;have:=a (dec (np,rd) x).1 (dec (np,rd) x).2;have c:(dec (np,rd) x).2.length<=rd.length+1:=by unfold dec;dsimp only;split;simp;exact Bh
  have b:dt np rd (x::r)=dt (dec (np,rd) x).1 (dec (np,rd) x).2 r:=rfl;refine aa b ?_;refine aa eQ ?_
  exact vO this c
theorem yz(ns:List Int):∀σ:cn,(dZ ns σ).self=σ.self/\(dZ ns σ).d=σ.d/\(dZ ns σ).cD=σ.cD/\(dZ ns σ).g.ks=σ.g.ks/\(dZ ns σ).g.sc=σ.g.sc/\(dZ ns σ).po=σ.po:=by
 induction ns with
 |nil=>intro σ;exact dS rfl rfl rfl rfl rfl rfl
 |cons k r a=>intro σ;exact a (mK σ k)
theorem GW(ns:List Int):∀σ:cn,(∃r,σ.rd=wf r)->∃r,(dZ ns σ).rd=wf r:=by
 induction ns with
 |nil=>intro σ h;exact h
 |cons k r a=>intro σ _;exact a (mK σ k) ⟨_,rfl⟩
theorem GX{Rr:fP->ae->Prop}{ns:List Int}{vs:List ab}{r:List Int}(hK:c.G.K=KP c.G.w.params)(ok:c.Ok)(rm:bL c A (d+1))(st:St c R ρ H s)(S:bC H F σ l)(q!:σ.rd=wf r)(mT:vs.map abs=ns.map AV.int)(hz:ns.length<=1000)(hk:∀k∈ns,k∈σ.g.ks)(uP:∀k∈σ.g.ks,(∀x∈σ.g.sc k,x∈σ.g.ks)/\(σ.g.sc k).length<=1000)(uM:∀i (hi:i<ns.length),(dZ (ns.take i) σ).g.np ns[i]=-1)(hlen:∀i,i<=ns.length->((dZ (ns.take i) σ).rd.getD []).length<=8000)(h:∀H' s',bI H F H' F->bC H' F (dZ ns σ) l->St c R ρ H' s'->Rr (.ok (.ret .none)) s'):dB c.M A (.call (.ref 138) ⟨.ref σ.self::vs,[]⟩) Rr s:=by
 have uT:vs.length=ns.length:=by have:=congrArg hU mT;simpa using this
 refine yn (vs:=vs) (binds:=λD=>[(("self":Str),.ref σ.self),(("nodes":Str),D)]) (by(refine aa hK ?_);exact Jr _) ok rm st (aa uT (aa bW (pv hz))) (λdoc pm an ct=>by cases vs<;>kernel_rfl) (λD=>locs (by kernel_rfl)) (by kernel_rfl) ?_
 intro D c' A' L' s' hD t hG u jN d8;replace hK:=(bn hG)▸hK;rw[mT] at d8;have N:=λq=>S.all D q hD;have S0:=S.mono ((Sub.refl H).upd (o:=.tuple (ns.map AV.int)) hD);have lm:(σ.attrs l).lookup (Str.ofString "_ready_nodes")=wf (AV.ref l.ra):=by show wf _=_;(exact aa q! rfl)
 refine aL λK a=>?_
 refine eL ?_
 refine er ?_
 refine ej ?_
 refine aS ‹_› ‹_› u (by rfl) rfl ?_
 refine fX hK t ‹_› S0.inst S0.attr (by kernel_rfl) lm rfl ?_
 intro v s hv st;refine g0 ?_
 refine isNone hv ?_
 refine d_ ?_
 refine eC (by exact dE) ?_
 refine bi ?_
 refine openK ‹_› ?_
 refine aL ?_
 intro K a;refine dI ?_
 refine ej ?_
 refine aS ‹_› ‹_› u (by rfl) rfl ?_
 refine fX hK t ‹_› S0.inst S0.attr (by kernel_rfl) (av:=.ref σ.cD) rfl rfl ?_
 refine fJ ?_
 intro s st;refine cO ‹_› ‹_› u rfl ?_
 intro s st;refine openK ‹_› ?_
 refine aL ?_
 intro K a;refine kW ?_
 refine aS ‹_› ‹_› u (by rfl) rfl ?_
 refine o7 t ‹_› (am ..) ?_
 intro it s3 hit oQ Q;have Q:=Q.names [("self",.ref σ.self),("n2i",.ref σ.cD)] (aC rfl rfl trivial);refine qS (rh jN.handled) oQ Q (λi ρ' H'=>ρ'=lk [("self",.ref σ.self),("n2i",.ref σ.cD)]/\H' D=wf (.tuple (ns.map AV.int))/\bI (upd H D (.tuple (ns.map AV.int))) F H' F/\bC H' F (dZ (ns.take i) σ) l)
  (λi ρ' H' h=>h.2.1) (cL rfl (am ..) (bI.refl _ _) S0) ?_ ?_
 ·intro i av R' ρ' H' s' v hi hR T st hv;obtain⟨rfl,oO,Pi,E⟩:=T;intro K jz;replace hi:=bp▸hi;refine ak (bu.mp hi) λp hp XC=>?_
  obtain rfl:=XC;refine oE (dG.mp hp) λL hp=>?_
  refine oE (eM hv) λf wM=>?_
  obtain rfl:=wM;have m:=hk p (hp▸iy L);have ht:dZ (ns.take (i+1)) σ=mK (dZ (ns.take i) σ) p:=by unfold dZ;(refine aa iC ?_;refine aa (cz L) ?_;refine aa hp ?_;refine aa gu ?_);rfl
  have U:=uM i L;have I4:=hlen i (by exact Bf L);have IB:=yz (ns.take i) σ;refine oE (GW (ns.take i) σ ⟨r,q!⟩) λq hq=>?_
  replace U:=hp▸U;generalize dZ (ns.take i) σ=τ at *;refine ky IB λe1 e2 e3 e4 e5 e6=>?_
  replace m:=(bn e4)▸m;have B:=uP p (e4▸m);replace B:=(bn e4)▸B;replace B:=(bn e5)▸B;rw[hq,EG] at I4;replace st:=(bn e1)▸st;replace st:=(bn e3)▸st;have Yp:(τ.attrs l).lookup (Str.ofString "_ready_nodes")=wf (AV.ref l.ra):=by show wf _=_;(exact aa hq rfl)
  refine fA ?_
  refine cO ‹_› ‹_› u rfl ?_
  intro s st;refine aL ?_
  intro K a;refine eL ?_
  refine er ?_
  refine wpAny_NamedExpr ?_
  refine dX ?_
  refine aS ‹_› ‹_› u (by rfl) rfl ?_
  refine rz ‹_› E.dict PySem.F.slot_dict_get PySem.F.type_dict_get ?_
  refine cw ?_
  refine bV ‹_› ‹_› u (by rfl) rfl ?_
  intro f;refine⟨trivial,?_⟩;refine getM ‹_› E.dict ?_
  rw[o!,FB m];refine fJ ?_
  intro s st;refine fA ?_
  refine cO ‹_› ‹_› u rfl ?_
  intro s st;refine g0 ?_
  refine isNone rfl ?_
  refine d_ ?_
  refine eC (by exact dE) ?_
  refine bi ?_
  refine openK ‹_› ?_
  refine aL ?_
  intro K a;refine dI ?_
  refine ej ?_
  refine aS ‹_› ‹_› u (by rfl) rfl ?_
  refine oH hK t ‹_› (E.node p m) (E.dK p m) rfl rfl ?_
  refine jy ?_
  intro f s st;refine cO ‹_› ‹_› u rfl ?_
  intro s st;refine openK ‹_› ?_
  refine aL ?_
  intro K a;refine eL ?_
  refine er ?_
  refine bV ‹_› ‹_› u (by rfl) rfl ?_
  intro f;refine mY ‹_› ‹_› u (by((refine aa hK ?_);exact yV _)) rfl ?_
  refine pd ?_
  refine d_ ?_
  refine aa U ?_;refine aa (Da (by decide)) ?_
  refine bi ?_
  refine openK ‹_› ?_
  refine aL ?_
  intro K a;refine jj ?_
  refine mY ‹_› ‹_› u (by((refine aa hK ?_);exact Hq _)) rfl ?_
  refine aS ‹_› ‹_› u (by rfl) rfl ?_
  refine pL hK t ‹_› (E.node p m) (E.dK p m) ?_
  intro s4 jP;have S4:=E.r_ (n:=-2) m;have P4:=bI.upd (H:=H') (o:=.inst 58 (l.nd p) [wf (.int p),wf (.int (-2)),wf (.ref (l.sa p))]) (E.eA p m).1;refine oA (P4.off N oO) λzz oM=>?_
  refine openK ‹_› ?_
  refine aL ?_
  intro K a;refine kW ?_
  refine ej ?_
  refine aS ‹_› ‹_› u (by rfl) rfl ?_
  refine uu hK t ‹_› (S4.node p m) (S4.dK p m) rfl rfl ?_
  refine fJ ?_
  intro s st
  skip
  have E9:bC (upd H' (l.na p) (.inst 58 (l.nd p) [wf (.int p),wf (.int (-2)),wf (.ref (l.sa p))])) F { τ with g:={ τ.g with np:=(dt (bA τ.g.np p (-2)) q []).1 },rd:=wf (dt (bA τ.g.np p (-2)) q []).2 } l:=by have:(wf (dt (bA τ.g.np p (-2)) q []).2)=τ.rd:=hq.symm;(refine aa this ?_);exact S4
  refine u3 t ‹_› (.inl (S4.succ p m)) ?_
  intro lr s5 Yn V P;have P:=P.names [("self",.ref τ.self),("n2i",.ref τ.cD)] (aC rfl rfl trivial);refine qS (u5 (xs:=(τ.g.sc p).map AV.int) jN.handled) V P (λj ρ' z=>ρ'=lk [("self",.ref τ.self),("n2i",.ref τ.cD)]/\z D=wf (.tuple (ns.map AV.int))/\bI (upd H' (l.na p) (.inst 58 (l.nd p) [wf (.int p),wf (.int (-2)),wf (.ref (l.sa p))])) F z F /\
   bC z F { τ with g:={ τ.g with np:=(dt (bA τ.g.np p (-2)) q ((τ.g.sc p).take j)).1 },rd:=wf (dt (bA τ.g.np p (-2)) q ((τ.g.sc p).take j)).2 } l)
   (λj ρ' z h=>.inl (h.2.2.2.succ p m)) (cL rfl oM (bI.refl _ _) E9) ?_ ?_
  ·intro j av h9 Y z eh v hj Yj J st hv;obtain⟨rfl,W,Pj,C⟩:=J;intro K jz;rw[bp] at hj;refine ak (bu.mp hj) λx hx Xu=>?_
   obtain rfl:=Xu;refine oE (dG.mp hx) λO hx=>?_
   refine oE (eM hv) λf Z=>?_
   obtain rfl:=Z;have y:=B.1 x (hx▸iy O);have zv:=GK ((τ.g.sc p).take j) (bA τ.g.np p (-2)) q;replace zv:=je▸zv;have Ix:dt (bA τ.g.np p (-2)) q ((τ.g.sc p).take (j+1))=dec (dt (bA τ.g.np p (-2)) q ((τ.g.sc p).take j)) x:=by unfold dt;(refine aa iC ?_;refine aa (cz O) ?_;refine aa hx ?_;refine aa gu ?_);rfl
   replace jz:=Ix▸jz;generalize dt (bA τ.g.np p (-2)) q ((τ.g.sc p).take j)=w at *;refine fA ?_
   refine cO ‹_› ‹_› u rfl ?_
   intro s st;refine aL ?_
   intro K a;refine dI ?_
   refine jg ?_
   refine aS ‹_› ‹_› u (by rfl) rfl ?_
   refine bV ‹_› ‹_› u (by rfl) rfl ?_
   intro f;refine kq ‹_› C.dict (av:=.ref (l.na x)) (by rw[o!,FB y]) ?_
   refine fJ ?_
   intro s st;refine cO ‹_› ‹_› u rfl ?_
   intro s st;refine openK ‹_› ?_
   refine aL ?_
   intro K a;refine tw ?_
   refine aS ‹_› ‹_› u (by rfl) rfl ?_
   refine oH hK t ‹_› (C.node x y) (C.dK x y) rfl rfl ?_
   refine jy ?_
   intro f s st;refine cInt ‹_› ?_
   intro f s st;refine JM ‹_› ?_
   intro f s st;refine pL hK t ‹_› (C.node x y) (C.dK x y) ?_
   intro s6 pM;have X:=C.r_ (n:=w.1 x-1) y;have P6:=bI.upd (H:=z) (o:=.inst 58 (l.nd x) [wf (.int x),wf (.int (w.1 x-1)),wf (.ref (l.sa x))]) (C.eA x y).1;refine oA (P6.off N W) λzz qW=>?_
   refine openK ‹_› ?_
   refine aL ?_
   intro K a;refine eL ?_
   refine er ?_
   refine ej ?_
   refine aS ‹_› ‹_› u (by rfl) rfl ?_
   refine oH hK t ‹_› (X.node x y) (X.dK x y) rfl rfl ?_
   refine jy ?_
   intro f s st;refine cInt ‹_› ?_
   intro f s st;refine lb ?_
   refine d_ ?_
   dsimp only;rw[eO];by_cases h0:w.1 x-1=0
   ·refine ic (by(refine aa h0 ?_);rfl) ?_
    refine aL ?_
    intro K a;refine jx (Cx.Ok.fn ‹_›) ?_
    refine dX ?_
    refine ej ?_
    refine aS ‹_› ‹_› u (by rfl) rfl ?_
    refine fX hK t ‹_› X.inst X.attr (by kernel_rfl) (av:=.ref l.ra) rfl rfl ?_
    refine fJ ?_
    intro s st;refine a! (X.c_ w.2 rfl) λzE Yq Jd=>?_
    refine gI ‹_› zE PySem.F.slot_list_append PySem.F.type_list_append ?_
    refine cw ?_
    refine bV ‹_› ‹_› u (by rfl) rfl ?_
    intro f;refine⟨trivial,?_⟩;refine ju ‹_› zE (by rw[aw,bW];lia) ?_
    intro s7 Wi;refine xA rfl ?_
    have S7:=X.CK (r':=w.2++[x]) rfl;have P7:=bI.upd (H:=upd z (l.na x) (.inst 58 (l.nd x) [wf (.int x),wf (.int (w.1 x-1)),wf (.ref (l.sa x))])) (F:=F) (o:=.list ((w.2++[x]).map AV.int)) Jd;refine oA (P7.off N qW) λzz zd=>?_
    rw[bf] at S7 P7 zd;refine openK ‹_› ?_
    refine bi ?_
    refine openK ‹_› ?_
    refine bi ?_
    refine openK ‹_› ?_
    refine kH _ _ (St.names Wi [("self",.ref τ.self),("n2i",.ref τ.cD)] (aC rfl rfl trivial)) rfl zd ((Pj.trans P6).trans P7) ?_
    delta dec;refine aa (FB h0) ?_
    exact S7
   refine eC (by rw[beq_iff_eq];exact h0) ?_
   refine bi ?_
   refine openK ‹_› ?_
   refine bi ?_
   refine openK ‹_› ?_
   refine kH _ _ (St.names st [("self",.ref τ.self),("n2i",.ref τ.cD)] (aC rfl rfl trivial)) rfl qW (Pj.trans P6) ?_
   delta dec;refine aa (Da h0) ?_
   exact X
  rintro Y z eh ⟨rfl,W,Pj,C⟩ st;rw[aw,fv] at C;refine bi ?_
  refine openK ‹_› ?_
  refine aL ?_
  intro K a;refine tw ?_
  refine aS ‹_› ‹_› u (by rfl) rfl ?_
  refine fX hK t ‹_› C.inst C.attr (by kernel_rfl) (av:=.int τ.nf) rfl rfl ?_
  refine jy ?_
  intro f s st;refine cInt ‹_› ?_
  intro f s st;refine uV ‹_› ?_
  intro f s st;refine lP hK t ‹_› C.inst C.attr (by kernel_rfl) (by exact bl rfl) ?_
  intro s8 Wj;have S8:=C.setAt (po:=τ.po) (nf:=τ.nf+1) (es:=gk "_nfinished" (.int (τ.nf+1)) (cn.attrs { τ with g:={ τ.g with np:=(dt (bA τ.g.np p (-2)) q (τ.g.sc p)).1 },rd:=wf (dt (bA τ.g.np p (-2)) q (τ.g.sc p)).2 } l)) rfl;have P8:=bI.upd (H:=z) (F:=F) (o:=.attrs (gk "_nfinished" (.int (τ.nf+1)) (cn.attrs { τ with g:={ τ.g with np:=(dt (bA τ.g.np p (-2)) q (τ.g.sc p)).1 },rd:=wf (dt (bA τ.g.np p (-2)) q (τ.g.sc p)).2 } l))) C.fp.2.1;refine oA (P8.off N W) λzz HX=>?_
  refine openK ‹_› ?_
  refine bi ?_
  refine openK ‹_› ?_
  refine kH _ _ Wj (aa e1 (aa e3 rfl)) HX (((Pi.trans P4).trans Pj).trans P8) ?_
  refine aa ht ?_
  delta mK;refine aa hq ?_;refine aa EG ?_
  exact S8
 intro ρ' H' s' I st;obtain⟨rfl,oO,Pi,E⟩:=I;rw[aw,fv] at E;refine bi ?_
 refine openK ‹_› ?_
 refine bi ?_
 refine a_ _ _ st (λst=>h H' _ ?_ E st);exact⟨λb ao hn e=>Pi.keep b ao hn (aa (aj (λq=>by first|(rw[q,hD] at e;injection e)|(rw[<-q,hD] at e;subst e))) e),Pi.sub,λb q=>.inl q⟩
end
noncomputable def d5:List (Str×c5)->Addr->af->af
 |[],_,H=>H
 |(_,k)::r,a,H=>if k == .cell then d5 r (a+1) (upd H a (.cell iF)) else d5 r a H
section
variable{c:Cx}{R:af}{ρ:Str->Option AV}{H:af}{s:ae}{A:aD}{E:ab->ae->Prop}{env:Env}
theorem St.z8(ok:c.Ok):∀(names:List (Str×c5)) {H:af} {s:ae},St c R ρ H s->St c R ρ (d5 names s.heap.objs.size H) { s with heap:=pushCells s.heap names }:=by
 intro l0;induction l0 with
 |nil =>intro _ _ st;exact st
 |cons b r a =>
  obtain⟨n,k⟩:=b;intro H s st;unfold d5 pushCells;split
  ·have:=a (st.alloc ok (o:={ cls:=.type "cell",data:=.cell iF }) (ao:=.cell iF) (ar _ rfl rfl) rfl);rwa [show({ s with heap:=s.heap.push { cls:=.type "cell",data:=.cell iF } }:ae).heap.objs.size=s.heap.objs.size+1 from nr ..] at this
  exact a st
noncomputable def eV(scope:bS)(cl:List (Str×Addr))(C:Addr)(env:Env):Env :=
 { scope:=mj scope env,locals:=C,globals:=env.globals,cells:=aY (C+1) scope.names cl,qual:=env.qual,func:=iF,code:=env.code,frame:=env.frame,builtins:=env.builtins }
theorem AA{scope:bS}{cl:List (Str×Addr)}{Q:Env->ae->Prop}(ok:c.Ok)(st:St c R ρ H s)(h:∀C b s',(∀a,H a≠iF->a<C)->(∀a,R a≠iF->a<C)->b.locals=C->{ b with scope:=mj scope env }=eV scope cl C env->St c R ρ (d5 scope.names (C+1) (upd H C (.ns λj=>iF))) s'->Q b s') :
  al c.M A (qi scope env.globals cl [] env.qual iF .none (wf env)) Q E s:=by
 refine aG (wpAny_alloc ?_);refine aG (wpAny_layCells _ (λname f cells=>by cases i:f==nH<;>simp[i]) _ _ _ _ ?_);(refine aa (show({ s with heap:=s.heap.push { cls:=.type "dict",data:=.dict #[] } }:ae).heap.objs.size=s.heap.objs.size+1 from nr ..) ?_);have g:=st.alloc ok (o:={ cls:=.type "dict",data:=.dict #[] }) (ao:=.ns λj=>iF) (cj (#[]) 0 rfl (by intro e k;simp at k) (λx av e=>by injection e)) rfl;have d:=g.z8 ok scope.names;rw[show({ s with heap:=s.heap.push { cls:=.type "dict",data:=.dict #[] } }:ae).heap.objs.size=s.heap.objs.size+1 from nr ..] at d;refine aG (bH (bH (h s.heap.objs.size _ _ (λa e=>?_) (λa e=>?_) rfl rfl d)))
 ·refine cE (x:=H a) (λq=>?_) (λx q=>?_)
  ·exact GM q e
  exact st.lt q
 refine cE (x:=R a) (λq=>?_) (λx q=>?_)
 ·exact GM q e
 obtain⟨o,e,_⟩:=st.bP a x q;exact cZ e
noncomputable abbrev nj(ifs:List Expr)(env:Env):Sem Bool:=forIn ifs true λc r=>if r=true then do let ok<-isTrue c env (eval c env);pure (sE ok) else pure (sE r)
theorem St.t!(st:St c R ρ H s){C:Addr}{r}{h':Heap}(a:H C=wf (.ns r))(hs:kJ C s.heap h'):St c R ρ (del H C) { s with heap:=h' }:=by
 refine dD (st.own C _ a) λo j i f d g=>?_
 refine⟨let⟨m,F,r⟩:=st.fr;⟨m,F.change hs f d,r⟩,λb x h=>?_,λb x h=>?_,λb h=>?_,by have e:=st.sh;(exact aa e rfl),let⟨T,t⟩:=st.tb;⟨T,t.set (t.ne (.inl a)) hs λb x e=>.inl (e.imp (λw=>by rwa [ci (λq=>by rw[q,ia] at w;injection w)] at w) id)⟩⟩
 ·by_cases e:b=C
  ·subst e;simp at h
  (replace h:=(ci e)▸h);exact(st.own b x h).mono λo q=>(hs.2 b e).trans q
 ·refine(st.bP b x h).mono λo q=>(hs.2 b ?_).trans q;rintro rfl;rw[st.aF b (by(refine aa a ?_);intro q;injection q)] at h;injection h
 by_cases e:b=C
 ·subst e;simp at h
 (replace h:=(ci e)▸h);exact st.aF b h
theorem Gz{elt target iter:Expr}{ifs:List Expr}{scope:bS}{cl:List (Str×Addr)}{pos:Pos}{it:Addr}{xs:List AV}{K:Nat->AO}{Bk:af->Prop}{RR:ab->Addr->fP->ae->Prop}(ok:c.Ok)(u4:h8 c A it xs K Bk)(hn:R it=iF)(st:St c (upd R it (K 0)) ρ H s)(hz:xs.length<=cB)(J:Addr->Nat->List AV->af->Prop)(hB:∀C i acc H,J C i acc H->Bk H)(h0:∀C,(∀a,H a≠iF->a<C)->J C 0 [] (d5 scope.names (C+1) (upd H C (.ns λ_=>iF))))(turn:∀C gE i av R' acc H' s' v,gE=eV scope cl C env->xs[i]?=wf av->J C i acc H'->St c R' ρ H' s'->abs v=av ->
   ∀KE:ab->ae->Prop,KE=(λx gp=>∃de,St c R' ρ de gp/\J C (i+1) (acc++[abs x]) de)->∀KN:ae->Prop,KN=(λdR=>∃de,St c R' ρ de dR/\J C (i+1) acc de) ->
   al c.M A (ge target gE v) (λ_ cF=>al c.M A (nj ifs gE) (λb dR=>if b=true then al c.M A (eval elt gE) KE (λ_ _=>False) dR else KN dR) (λ_ _=>False) cF) (λ_ _=>False) s')(Ie:∀D C acc H' s',H D=iF->J C xs.length acc H'->H' D=iF->D<C->St c R ρ (upd H' D (.list acc)) s'->RR (.ref D) C (.ok .next) s')(ht:autoParam (∀v,kQ target (.ref it) v=pure ()) aU) :
  al c.M A (newList []) (λacc dR=>al c.M A (qi scope env.globals cl [] env.qual iF .none (wf env)) (λgE gp =>dB c.M A (.compStart (.ListComp elt [⟨target,iter,ifs,0⟩] scope pos) 0 (.ref it) acc { gE with scope:=mj scope env }) (RR acc gE.locals) gp) E dR) E s:=by
 refine iV ok st (by simp[cB]) λD dR hD lS=>?_
 have oN:upd R it (K 0) D=iF:=by have:=lS.aF D (by rw[am];intro q;injection q);exact this
 have lf:D≠it:=λq=>by(rw[q,am] at oN;injection oN)
 replace oN:=(aj lf)▸oN;have lS:=lS.hide (am ..);rw[show del (upd H D (.list (([]:List ab).map abs))) D=H from funext λb=>by
  unfold del upd;split
  ·rename_i e;(refine aa e ?_);exact hD.symm
  rfl] at lS
 refine AA (env:=env) ok lS λC gE gp hC HW hL uB pN=>?_
 refine aa uB ?_;refine aa hL ?_
 have mP:=HW D (by rw[am];intro q;injection q);let Rl:Nat->List AV->af:=λi acc=>upd (upd R it (K i)) D (.list acc);have oY:∀i acc,Rl i acc=upd (upd R D (.list acc)) it (K i):=λi acc=>funext λb=>by
  show upd (upd R it (K i)) D (.list acc) b=_;delta upd;by_cases e:b=D
  ·subst e;(refine aa (FB rfl) ?_;refine aa (Da lf) ?_;exact aa (FB rfl) rfl)
  refine aa (Da e) ?_
  by_cases e':b=it
  ·refine aa (FB e') ?_;exact aa (FB e') rfl
  refine aa (Da e') ?_;refine aa (Da e') ?_;exact aa (Da e) rfl
 have uI:∀acc,upd R D (.list acc) it=iF:=λacc=>by(refine aa (aj (aI lf)) ?_);exact hn
 have loop:∀s',St c (Rl 0 []) ρ (d5 scope.names (C+1) (upd H C (.ns λ_=>iF))) s' ->dB c.M A (.compLoop (.ListComp elt [⟨target,iter,ifs,0⟩] scope pos) 0 (.ref it) (.ref D) (eV scope cl C env)) (RR (.ref D) C) s':=by
  intro s' d8;refine codeAny_compLoop_tests (λn s'=>∃i acc H',n+i=xs.length/\acc.length<=i/\St c (Rl i acc) ρ H' s'/\J C i acc H') ?_ xs.length (pR 0 [] _ rfl (bD _) d8 (h0 C hC)) ht
  intro n s' Vj;refine rL Vj λi acc H' jD uy d8 hJ=>?_
  have H9:H' D=iF:=by
   cases e:H' D with
   |none=>rfl
   |some x=>have:=d8.aF D (by(refine aa e ?_);intro q;injection q);rw[show Rl i acc D=wf (.list acc) from am ..] at this;injection this
  rw[oY] at d8;cases n with
  |zero =>
   have hi:i=xs.length:=by exact pn jD
   subst hi;refine u4.done (uI acc) (hB _ _ _ _ hJ) d8 λeh gn=>?_
   have nh:=gn.show (am ..);refine Ie D C acc H' eh hD hJ H9 mP ?_
   rwa [show del (upd R D (.list acc)) D=R from funext λb=>by
    unfold del upd;split
    ·rename_i e;(refine aa e ?_);exact oN.symm
    rfl] at nh
  |succ n =>
   have eN:i<xs.length:=by exact pq jD
   refine u4.item (av:=xs[i]) (by simp[eN]) (uI acc) (hB _ _ _ _ hJ) d8 λv eh hv gn=>?_
   rw[<-oY] at gn;refine bx (turn C _ i xs[i] _ acc H' eh v rfl (by simp[eN]) hJ gn hv _ rfl _ rfl) (λ_ cF Jk=>bx Jk (λb dR rb=>?_) λ_ _ z=>z.elim) λ_ _ z=>z.elim;cases b with
   |false =>
    rw[Da (by decide)] at rb ⊢;refine ak rb λde q1 q2=>?_
    exact DA n (gc _) (i+1) acc de (lE jD) (Bi uy) q1 q2
   |true =>
    rw[FB rfl] at rb ⊢;refine bx rb (λx gp uU=>?_) λ_ _ z=>z.elim;refine ak uU λde q1 q2=>?_
    have H!:de D=iF:=by
     cases e:de D with
     |none=>rfl
     |some x=>have:=q1.aF D (by(refine aa e ?_);intro q;injection q);rw[show Rl (i+1) acc D=wf (.list acc) from am ..] at this;injection this
    have q3:=q1.show (am ..);refine ju q3 (am ..) (PK hz uy jD) λYR Wq=>DA n (gc _) (i+1) (acc++[abs x]) de (lE jD) (by simp;exact rQ uy) ?_ q2
    have pM:=Wq.hide (am ..);have e1:del (upd (upd de D (.list acc)) D (.list (acc++[abs x]))) D=de:=funext λb=>by
     unfold del upd;by_cases e:b=D
     ·refine aa (FB e) ?_;refine aa e ?_;exact aa H! rfl
     refine aa (Da e) ?_;refine aa (Da e) ?_;exact aa (Da e) rfl
    have e2:upd (del (Rl (i+1) acc) D) D (.list (acc++[abs x]))=Rl (i+1) (acc++[abs x]):=funext λb=>by
     show upd (del (upd (upd R it (K (i+1))) D (.list acc)) D) D (.list (acc++[abs x])) b=upd (upd R it (K (i+1))) D (.list (acc++[abs x])) b;unfold upd del;by_cases e:b=D
     ·simp only[FB e]
     simp only[Da e]
    rw[e1] at pM;refine az e2 ?_
    exact pM
 have wo:St c (Rl 0 []) ρ (d5 scope.names (C+1) (upd H C (.ns λ_=>iF))) gp:=pN;refine codeAny_compStart_list (loop _ wo) ?_
 have wl:=wo;rw[oY] at wl;exact u4.self (uI []) wl (loop _ wo)
abbrev qo(c:Cx)(A:aD)(env:Env)(elt target:Expr)(ifs:List Expr)(scope:bS)(cl:List (Str×Addr))(Q:ab->ae->Prop)(JZ:ab)(cF:ae):Prop :=
 ∃it xs K Bk R ρ H,JZ=.ref it/\h8 c A it xs K Bk/\R it=iF/\St c (upd R it (K 0)) ρ H cF/\xs.length<=cB /\
   ∃J:Addr->Nat->List AV->af->Prop,(∀C i acc H,J C i acc H->Bk H/\∃r,H C=wf (.ns r)) /\
   (∀C,(∀a,H a≠iF->a<C)->J C 0 [] (d5 scope.names (C+1) (upd H C (.ns λ_=>iF)))) /\
   (∀C gE i av R' acc H' s' v,gE=eV scope cl C env->xs[i]?=wf av->J C i acc H'->St c R' ρ H' s'->abs v=av ->
   ∀KE:ab->ae->Prop,KE=(λx gp=>∃de,St c R' ρ de gp/\J C (i+1) (acc++[abs x]) de)->∀KN:ae->Prop,KN=(λdR=>∃de,St c R' ρ de dR/\J C (i+1) acc de) ->
   al c.M A (ge target gE v) (λ_ cF=>al c.M A (nj ifs gE) (λb dR=>if b=true then al c.M A (eval elt gE) KE (λ_ _=>False) dR else KN dR) (λ_ _=>False) cF) (λ_ _=>False) s') /\
   (∀D C acc H' s',H D=iF->J C xs.length acc H'->H' D=iF->D<C->St c R ρ (upd (del H' C) D (.list acc)) s'->Q (.ref D) s')
theorem qo.mk{c:Cx}{A:aD}{env:Env}{elt d:Expr}{ifs:List Expr}{scope:bS}{cl:List (Str×Addr)}{Q:ab->ae->Prop}{cF:ae}{it:Addr}{xs:List AV}{K:Nat->AO}{l:af->Prop}{R:af}{ρ:Str->Option AV}{H:af}(k:h8 c A it xs K l)(o:R it=iF)(st:St c (upd R it (K 0)) ρ H cF)(hz:xs.length<=cB)(J:Addr->Nat->List AV->af->Prop)(p:(∀C i acc H,J C i acc H->l H/\∃r,H C=wf (.ns r)))(q:(∀C,(∀a,H a≠iF->a<C)->J C 0 [] (d5 scope.names (C+1) (upd H C (.ns λh=>iF)))))(turn:(∀C f i av R' acc H' s' v,f=eV scope cl C env->xs[i]?=wf av->J C i acc H'->St c R' ρ H' s'->abs v=av ->
   ∀n:ab->ae->Prop,n=(λx j=>∃g,St c R' ρ g j/\J C (i+1) (acc++[abs x]) g)->∀m:ae->Prop,m=(λe=>∃g,St c R' ρ g e/\J C (i+1) acc g) ->
   al c.M A (ge d f v) (λh cF=>al c.M A (nj ifs f) (λb e=>if b=true then al c.M A (eval elt f) n (λh h=>False) e else m e) (λh h=>False) cF) (λh h=>False) s'))(fin:(∀D C acc H' s',H D=iF->J C xs.length acc H'->H' D=iF->D<C->St c R ρ (upd (del H' C) D (.list acc)) s'->Q (.ref D) s')):qo c A env elt d ifs scope cl Q (.ref it) cF:=DE it xs K l R ρ H rfl k o st (W' hz J p q turn fin)
theorem Gv{elt a iter:Expr}{ifs:List Expr}{scope:bS}{cl:List (Str×Addr)}{pos:Pos}{Q:ab->ae->Prop}(ok:c.Ok)(j:qg scope env=pure cl)(g:scope.kind=.function)(d:(scope.names.all λy=>decide (y.2=.local->scope.names.lookup y.1=wf .local))=true)(h:al c.M A (eval iter env) (λxv f=>al c.M A (gY xv) (qo c A env elt a ifs scope cl Q) E f) E s)(hs:autoParam (∀x,fQ iter env x=pure x) aU)(N:autoParam (∀it v,kQ a (.ref it) v=pure ()) aU) :
  al c.M A (eval (.ListComp elt [⟨a,iter,ifs,0⟩] scope pos) env) Q E s:=by
 rw[eval_ListComp];refine ty (use:=iF) rfl hs j g (λy L=>of_decide_eq_true (eE.mp d y L)) (bx h (λxv f h₁=>bx h₁ (λI w n=>?_) λp p e=>e) λp p e=>e);refine L6 n λit xs K W R ρ H G F=>?_
 obtain rfl:=G;refine LP F λq P st hz J B V turn T=>(Gz (RR:=λacc C=>tj c.M A E iF Q acc C) ok q P st hz J (λC i acc H x=>(B C i acc H x).1) V turn (λD C acc H' s' U z u k l=>?_) (N it));refine oE ((B _ _ _ _ z).2) λr O=>?_
 have o:upd H' D (.list acc) C=wf (.ns r):=by(refine aa (aj (jZ k)) ?_);exact O
 refine ak (l.ns o) λm S p=>(ar m S (λh' t=>T D C acc H' _ U z u k ?_));have:=l.t! o t;rwa [show del (upd H' D (.list acc)) C=upd (del H' C) D (.list acc) from funext λb=>by
  unfold del upd;by_cases e:b=C
  ·simp only[FB e,Da (show b≠D by(refine aa e ?_);exact jZ k)]
  simp only[Da e]] at this
end
section
variable{c:Cx}{R:af}{ρ:Str->Option AV}{H:af}{s:ae}{A:aD}{E:ab->ae->Prop}
variable{name qual:Str}{dV kV aA:ab}{f:Addr}{binds:List (Str×ab)}{d:Nat}
theorem yf{fs:Stmt}{pos:List ab}{kw:List (Str×ab)}{Q:ab->ae->Prop}(i:di c.G.K f fs qual dV kV aA)(ok:c.Ok)(g:A.depth<j6)(st:St c R ρ H s)(b:∀doc pm an ct,kI s (gF fs qual dV kV doc pm an aA ct) ⟨pos,kw⟩ binds)(d:(binds.all λy=>decide ((aH fs).names.lookup y.1=wf .local))=true)(a:((aH fs).names.all λx=>decide (x.2≠.cell))=true)(h:∀c' L' s',c'.Ok->c'.G=c.G->c'=c.on (bY qual fs L' f aA [])->St c' (upd R c.L (.ns ρ)) (λx=>(binds.reverse.lookup x).map abs) H s' ->al c'.M (A.deeper c'.bd) (eo (bodyOf fs) c'.bd) (Back c c' R ρ Q) (λl l=>False) s') :
  al c.M A (call (.ref f) pos kw) Q E s:=by
 refine lC i.fn λdoc pm an ct e=>(ak (mM e) λo r q=>?_);refine ak st.fr λm F l=>?_
 have n:=ok.K.keeps F.keep;refine jk (qA ok g st (n _ _ r) q (nR n i.code) (b doc pm an ct) (locs d) (λx p=>of_decide_eq_true (eE.mp a x p)) i.co i.gen i.kind λL' s' k j=>?_);exact h _ L' s' k rfl rfl j
theorem b8.dj(st:St c R ρ H s):∀{l:List Env},b8 R l->∃dj:List (Addr×Obj),TI.Frs l dj/\∀p∈dj,s.heap.get? p.1=wf p.2/\∃r,R p.1=wf (.ns r):=by
 intro l0;induction l0 with
 |nil =>intro _;exact ar [] trivial (λd h=>(GM h aX))
 |cons env l f =>
  intro x;refine ak (f λe g=>x e (sW _ g)) λdj m j=>(fj (x env xk) λk b r i a=>?_);refine bJ (st.dk a) λo q es ep n d=>?_
  refine ar ((b,o)::dj) (cL (by(refine aa k ?_);decide) i (dT es ep n) m) (λp hp=>?_);obtain rfl|hp:=aW.mp hp
  ·exact Dw q r a
  exact j p hp
end
section
variable{c:Cx}{R:af}{ρ:Str->Option AV}{H:af}{s:ae}{A A₁:aD}{E:ab->ae->Prop}{name:Str}{scope:bS}{f:Addr}{cd:ab}
theorem St.restore(st:St c R ρ H s){dj f:List (Addr×Obj)}(b:∀p∈dj,s.heap.get? p.1=wf p.2/\∃r,R p.1=wf (.ns r))(w:TI.SameUp dj f){h':Heap}{tk:Nat}{m:Str->Option ab}(hr:∀x av,ρ x=wf av->∃v,m x=wf v/\abs v=av)(F:Fr c.h₀ c.L h' m)(N:News c.h₀ c.L h' (st.nw.filter (λp=>!decide (p.1∈dj.map (·.1)))++f)):St c R ρ H { s with heap:=h',toks:=tk }:=by
 have n:=st.sh;have keep:∀a o,(H a≠iF\/R a≠iF\/st.T a≠iF)->s.heap.get? a=wf o->a∉dj.map (·.1)->h'.get? a=wf o:=λa o u t d =>(N (a,o) (b? _ (bN.mpr ⟨(ii st).mpr ⟨u,t⟩,by simpa using d⟩))).1
 refine⟨⟨m,F,hr⟩,λa ao e=>?_,λa ao e=>?_,st.aF,aa n rfl,⟨st.T,st.gO.to (λa o e q=>keep a o (.inr (.inr e)) q λd=>?_) λj j=>.inl⟩⟩
 rotate_right
 ·refine ak (bh.mp d) λp hp l=>?_
  obtain rfl:=l;refine rF (b p hp) λj r hr=>?_
  exact e (st.gO.ne (.inr hr))
 ·obtain⟨o,i,h,g⟩:=st.own a ao e;refine aR o (keep a o (.inl (by(refine aa e ?_);intro q;injection q)) i λd=>?_) h g;obtain⟨p,hp,rfl⟩:=bh.mp d;refine rF (b p hp) λj r hr=>?_
  rw[st.aF p.1 (by(refine aa e ?_);intro q;injection q)] at hr;injection hr
 obtain⟨o,i,h,g⟩:=st.bP a ao e;by_cases d:a∈dj.map (·.1)
 ·obtain⟨p,hp,rfl⟩:=bh.mp d;refine rF (b p hp) λq9 r hr=>?_
  rw[e] at hr;(replace hr:=ax hr;subst hr);rw[i] at q9;(replace q9:=ax q9;subst q9);obtain⟨sl,k⟩:=w.back p hp;exact aR _ ((N _ (bt _ k)).1) h g
 exact aR o (keep a o (.inr (.inl (by(refine aa e ?_);intro q;injection q))) i d) h g
theorem WN{X:String}{body:List Stmt}{x:Str}{np pos t:Pos}{n:Stmt}{g:List Stmt}{l:List Env}{Q:Flow->ae->Prop}(ok:c.Ok)(hA:A=A₁.deeper c.bd)(U:A₁.frames=wf l)(FI:b8 R l)(Z:c.bd=envOf name scope c.L f cd)(hx:nsIn c.G.K b7 x=wf iF)(hv:eH x=wf (.type X))(hn:x≠"__name__")(S:c.bd.kindOf x=wf .globalImplicit)(D:mi (.type X) (.type "BaseException")=pure true)(P:mi (.type ((xu X).elim "type" λy=>y.metatype)) (.type "tuple")=pure false)(C:mi (.type X) (.type X)=pure true)(h:al c.M A (eo body c.bd) Q (λe dL=>∃a h ρ H,e=.ref a/\Heap.NewExc h dL.heap a X/\St c R ρ H { dL with heap:=h } /\
   (∀i,St c R ρ H i->al c.M (A.mark (wf (.ref a))) (eo (n::g) c.bd) Q (λd d=>False) i)) s)(hd:autoParam ((x==("__debug__":Str))=false) g6) :
  al c.M A (exec (.Try body [.ExceptHandler (wf (.Name x np)) iF (n::g) t] [] [] pos) c.bd) Q (λd d=>False) s:=by
 have hk:scope.kind=.function:=by have:=ok.fn;rw[Z] at this;exact this
 refine wpAny_Try_except (bx h (λfl dL h₁=>?_) λe dL h₁=>?_)
 ·cases fl<;>first|exact bi h₁|exact h₁
 refine dQ h₁ λa hp ρ H I E=>?_
 obtain rfl:=I;refine a! E λO st k=>(ak (FI.dj st) λdj hF j=>?_);refine ak st.fr λm F Y=>?_
 have N:=st.news;have v:News c.h₀ c.L hp (st.nw.filter (λp=>!decide (p.1∈dj.map (·.1)))++dj):=λp u=>by
  obtain q|q:=aT.mp u
  ·exact N p (bN.mp q).1
  refine rF (j p q) λh1 r W=>(dD (st.bP _ _ W) λd d d h3 h4 d=>?_);exact aC h1 h3 h4
 have V:∀p∈st.nw.filter (λp=>!decide (p.1∈dj.map (·.1))),p.1∉c.L::dj.map (·.1):=λp u hm=>by
  refine oA (bN.mp u) λq1 q2=>?_
  obtain e|e:=aW.mp hm
  ·exact(N p q1).2.1 e
  simp[e] at q2
 have B:al c.M (A₁.deeper (envOf name scope c.L f cd)) (noteFrame (.ref a) (envOf name scope c.L f cd)) (λd i=>al c.M A (setFlight (.ref a) iF) (λd w=>al c.M A (handleBy (.ref a) c.bd [.ExceptHandler (wf (.Name x np)) iF (n::g) t]) Q (λd d=>False) w) (λd d=>False) i) (λd d=>False) dL:=by
  refine TLg.noted_newA U hF O F v V (λh' X! SU XX HN=>?_) hk;refine TT.HeldNA.land HN λW o=>?_
  have J:St c R ρ H { dL with heap:=W }:=st.restore (tk:=dL.toks) j SU Y o.held.fr o.made;refine wpAny_handleBy_builtin (X:=X) (T:=X) (b:=true) D P C (vg ok J hx hv hn (aC rfl o.isA ?_) ok.glob ok.blt ok.fn S hd);refine(FB rfl).mpr (o.lands λh3 F3 N3=>?_);exact bx (k _ (st.restore (tk:=dL.toks) j SU Y F3 N3)) (λd d z=>z) λd d z=>z.elim
 rw[<-Z,<-hA] at B;exact B
end
theorem wi:Slot "list_iterator" "__getattribute__" "object.__getattribute__" :=
 .of (owner:="object") (n:="__getattribute__") (by rw[nW,nN];kernel_rfl) (by decide +kernel) (by decide +kernel) (by decide +kernel)
  (by exact .inl (by decide +kernel)) (by rw[nU];kernel_rfl)
theorem CU:Slot "wrapper_descriptor" "__get__" "wrapper_descriptor.__get__" :=
 .of (owner:="wrapper_descriptor") (n:="__get__") (by rw[nW,nN];kernel_rfl) (by decide +kernel) (by decide +kernel) (by decide +kernel)
  (by exact .inl (by decide +kernel)) (by rw[nU];kernel_rfl)
theorem Fj(a b c:ab):argsOk "wrapper_descriptor.__get__" ⟨[a,b,c],[]⟩:=by kernel_rfl
theorem G9:entryFor table "wrapper_descriptor.__get__"=wf l5.«wrapper_descriptor.__get__»:=entryFor_of_tree (by kernel_rfl)
theorem wu:typeOf (.builtin "list_iterator.__next__")=pure (.type "wrapper_descriptor"):=by kernel_rfl
theorem KD:tv (.type "list_iterator") "__next__"=pure (wf (.builtin "list_iterator.__next__")):=by rw[nW,nN];kernel_rfl
theorem KH:tv (.type "wrapper_descriptor") "__get__"=pure (wf (.builtin "wrapper_descriptor.__get__")):=by rw[nW,nN];kernel_rfl
theorem KI:tv (.type "wrapper_descriptor") "__set__"=pure iF:=by rw[nW,nN];kernel_rfl
theorem KG:tv (.type "wrapper_descriptor") "__delete__"=pure iF:=by rw[nW,nN];kernel_rfl
theorem Kw:(".".intercalate ("list_iterator.__next__".cutAt '.').dropLast)="list_iterator":=by
 have e0:"list_iterator.__next__".cutAt '.'=["list_iterator","__next__"]:=by rfl
 (refine aa e0 ?_);decide +kernel
theorem Wu:mi (.type "list_iterator") (.type (".".intercalate ("list_iterator.__next__".cutAt '.').dropLast))=pure true:=by rw[Kw,nU];kernel_rfl
noncomputable def jH(it:Addr):Obj:={ cls:=.type "method-wrapper",data:=.fields #[.builtin "list_iterator.__next__",.ref it] }
section
variable{prog:jf}{w:World}{A:aD}{E:ab->ae->Prop}{h:Heap}{g:Array GenState}{d:Drawn}{t:Nat}{os:OsState}{it:Addr}{o:Obj}
theorem W1{R:fP->ae->Prop}(b:h.get? it=wf o)(c:o.cls=.type "list_iterator")(e:R (.ok (.ret (.ref h.objs.size))) ⟨h.push (jH it),g,d,t,os⟩) :
  dB (gW prog w) A (.call (.builtin "wrapper_descriptor.__get__") ⟨[.builtin "list_iterator.__next__",.ref it,.type "list_iterator"],[]⟩) R ⟨h,g,d,t,os⟩:=by
 have f:(⟨h,g,d,t,os⟩:ae).TypeIs (.ref it) "list_iterator":=ar _ b c;have a:(⟨h,g,d,t,os⟩:ae).TypeIs (.builtin "list_iterator.__next__") "wrapper_descriptor":=wu;have i:=Wu;refine codeAny_call_builtin CU.plain G9 (CU.check _ _ _ _ _ _ _ _ a (Fj _ _ _) ?_)
 repeat (any_goals (first|assumption|wp_step))
noncomputable def rt(l:Addr):Obj:={ cls:=.type "list_iterator",data:=.fields #[.ref l,.int 0 0] }
theorem HB{l:Addr}{tk:Tok}{Q:Fin->ae->Prop}(a:h.get? it=wf (rt l))(b:Q (.done (.ret (.ref h.objs.size))) ⟨h.push (jH it),g,d,t,os⟩) :
  al (gW prog w) A (l5.«object.__getattribute__» ⟨[.ref it,.str "__next__" tk],[]⟩) Q E ⟨h,g,d,t,os⟩:=by
 have e:(⟨h,g,d,t,os⟩:ae).TypeIs (.ref it) "list_iterator":=ar _ a rfl;have c:=wu;have m:=KD;have k:=wu;have j:=KH;have i:=KI;have f:=KG
 repeat (any_goals (wp_step))
 exact W1 a rfl (bH b)
theorem HA{l:Addr}{expr:Bool}{Q:ab->ae->Prop}(c:h.get? it=wf (rt l))(j:Q (.ref h.objs.size) ⟨h.push (jH it),g,d,t+1,os⟩) :
  al (gW prog w) A (iG (.ref it) "__next__" expr) Q E ⟨h,g,d,t,os⟩:=by
 have e:∀f,(⟨h,g,d,f,os⟩:ae).TypeIs (.ref it) "list_iterator":=λa=>ar _ c rfl;have b:=wi.lookup;refine aG (wpAny_mkText (fS (aG (wpAny_typeOf (e _) (aG (mo b ?_))))));show al _ _ (getAttrByItsOwn (.ref it) (.str "__next__" t) (.type "list_iterator") (.builtin "object.__getattribute__") true expr) _ _ _;unfold getAttrByItsOwn hookBefore callGetattribute boundAndCalled;refine aG (mo (rfl) ?_);refine aG (xL (fS ?_));(refine aa (show(expr&&onTheHeap (.builtin "object.__getattribute__"))=false by simp[onTheHeap]) ?_);refine aG (mo (wi.bind _) ?_);refine bx (Q:=λv s'=>v=.ref h.objs.size/\s'=⟨h.push (jH it),g,d,t+1,os⟩) (E:=λa a=>False)
  (tx wi (e _) PySem.F.entry_object_getattribute (HB c (aR _ rfl rfl rfl)) (PySem.F.args_object_getattribute_2 _ _)) (λv s' i=>?_) λa a z=>z.elim
 obtain⟨rfl,rfl⟩:=i;exact bH j
end
section
variable{c:Cx}{R:af}{ρ:Str->Option AV}{H:af}{s:ae}{A:aD}{E:ab->ae->Prop}
noncomputable def lv(l:Addr):AO:=.obj λo=>o=rt l
noncomputable def jI(it:Addr):AO:=.obj λo=>o=jH it
theorem JP{l:Addr}{xs:List AV}{Q:ab->ae->Prop}(ok:c.Ok)(st:St c R ρ H s)(b:b9 c H l xs)(h:∀it s',H it=iF->St c R ρ (upd H it (lv l)) s'->Q (.ref it) s'):al c.M A (call (.builtin "iter") [.ref l]) Q E s:=by refine ak (st.list b) λvs d e=>(call_function_entry (by decide +kernel) (by decide +kernel) kdk_entry_iter (kdk_args_iter _) ?_);unfold l5.«iter»;refine aG (m:=someArgs "iter" 1 2 _) (mo (a:=[Value.ref l]) (by rfl) ?_);refine aG (wpAny_pyIter_list d ?_);exact bH (ar _ rfl (h _ _ st.cV (st.alloc ok (o:=rt l) (ao:=lv l) rfl rfl)))
theorem LA{it l:Addr}{expr:Bool}{Q:ab->ae->Prop}(ok:c.Ok)(st:St c R ρ H s)(hi:H it=wf (lv l))(h:∀w s',H w=iF->St c R ρ (upd H w (jI it)) s'->Q (.ref w) s') :
  al c.M A (iG (.ref it) "__next__" expr) Q E s:=by
 refine ak (st.get hi) λo e a=>?_
 obtain rfl:=a;have f:=(st.alloc ok (o:=jH it) (ao:=jI it) rfl rfl).toks (s.toks+1);have b:=h _ _ st.cV f;obtain⟨hp,g,d,t,os⟩:=s;exact HA e b
theorem G8:entryFor table "list_iterator.__next__"=wf l5.«list_iterator.__next__»:=entry_listiter_next
theorem Gi{a:ab}:checkBoundCall "list_iterator.__next__" ⟨[a],[]⟩=pure ():=by rfl
theorem Vh(args:Args):Code.quiet (.builtin "list_iterator.__next__" args)=true:=Code.quiet_builtin _ (by decide +kernel)
theorem Wk{w it:Addr}{M:jX}{h:Heap}(a:h.get? w=wf (jH it)):Looks M h (keeperOf (.ref w)) .machine:=by
 refine Looks.andThen (Looks.ld a) ?_
 exact Looks.now
theorem GG{w it:Addr}{pos:Pos}{env:Env}{Q:ab->ae->Prop}(st:St c R ρ H s)(b:H w=wf (jI it))(h:al c.M A (call (.ref w) []) Q E s) :
  al c.M A (gx pos (.ref w) [] (e9 pos (ck [] env)) []) Q E s:=by
 refine ak (st.get b) λo e a=>?_
 obtain rfl:=a;exact xD (P:=λh=>h.get? w=wf (jH it)) rfl (λh x=>ar .machine (.inr (.inl rfl)) (Wk x)) (evalArgs_nil3 ⟨e,h⟩)
theorem Ar{w it:Addr}{Q:ab->ae->Prop}(e:s.heap.get? w=wf (jH it))(h:al c.M A.in1 (l5.«list_iterator.__next__» ⟨[.ref it],[]⟩) (λfin s'=>∃v,fin=.done (.ret v)/\Q v s') E s):al c.M A (call (.ref w) []) Q E s:=by
 refine jk (codeAny_of_tree ?_);refine aG (wpAny_load e ?_);show al _ _ (if(Value.type "method-wrapper" != Value.type "method")=true then _ else _) _ _ _;refine aa (FB (by decide)) ?_
 refine aG (mo (a:=()) Gi ?_);refine aG (bH (bH ?_));refine⟨Vh _,codeAny_builtin G8 (bx h (λfin s' b=>?_) λd d z=>z)⟩;obtain⟨v,rfl,b⟩:=b;exact b
theorem LB{w it l:Addr}{i:Nat}{xs:List AV}{av:AV}{Q:ab->ae->Prop}(st:St c R ρ H s)(k:H w=wf (jI it))(hi:H it=wf (c9 l i))(m:b9 c H l xs)(g:xs[i]?=wf av)(h:∀v s',abs v=av->St c R ρ (upd H it (c9 l (i+1))) s'->Q v s'):al c.M A (call (.ref w) []) Q E s:=by
 refine ak (st.get k) λz t j=>?_
 obtain rfl:=j;refine Ar (c:=c) t (aB (st.get hi) λo b n a=>?_);refine ak (st.list m) λvs p u=>(vt p λol e y B f=>?_);rw[<-u,bp] at g;refine ak (bu.mp g) λv r q=>?_
 have d:vs.toArray[i]?=wf v:=by simpa using r
 show al _ _ (field (.ref it) 0 >>= _) _ _ s;refine aG (jl b a (x:=.ref l) rfl ?_);refine aa (Da (dE)) ?_
 refine aG (jl b a (x:=.int i 0) rfl ?_);refine aG (tA e f ?_);simp only[l7,d];refine aG (wpAny_setField b a (bD _) (bH (ar v rfl (h v _ q ?_))));exact st.set (tk:=s.toks) (ao':=c9 l (i+1)) hi (l6 ..) (DP _ b (EF (xz a _))) ⟨(Obj.cls_mapFields ..).trans n,by rw[xz a];rfl⟩
noncomputable def mL:AO:=.obj λzz=>True
theorem LC{w it l:Addr}{i:Nat}{xs:List AV}{Q:ab->ae->Prop}(r:A.handled=iF)(st:St c R ρ H s)(p:H w=wf (jI it))(hi:H it=wf (c9 l i))(q:b9 c H l xs)(hx:xs[i]?=iF)(h:∀a hp s',Heap.NewExc hp s'.heap a "StopIteration"->St c R ρ (upd H it mL) { s' with heap:=hp }->E (.ref a) s'):al c.M A (call (.ref w) []) Q E s:=by
 refine ak (st.get p) λz u n=>?_
 obtain rfl:=n;refine Ar (c:=c) u (aB (st.get hi) λo d C f=>?_);refine ak (st.list q) λvs t v=>(vt t λol j y B k=>?_);replace hx:=(bn v)▸hx;replace hx:=bp▸hx;have g:vs.toArray[i]?=iF:=by simpa using hx
 show al _ _ (field (.ref it) 0 >>= _) _ _ s;refine aG (jl d f (x:=.ref l) rfl ?_);refine aa (Da (dE)) ?_
 refine aG (jl d f (x:=.int i 0) rfl ?_);refine aG (tA j k ?_);simp only[l7,g];refine aG (wpAny_rule (aG (wpAny_setField d f (iE _) ?_)));refine aG (aG (n8 ?_ (by size_fits)));refine aG (m:=firstArgMember _ _) (mo (a:=Value.none) (by rfl) ?_);refine n8 ?_ (by size_fits)
 refine aG (wpAny_handled ?_);refine aa (r) ?_
 refine aG (bH (wpAny_throw ?_));refine h _ _ _ ⟨λb o e=>gR _ (gR _ e),sH (by simp),_,_,pV _ rfl,rfl,rfl⟩ ?_
 exact st.set (tk:=s.toks) (ao':=mL) hi (l6 ..) (DP _ d (EF (xz f _))) trivial
end
section
variable{c:Cx}{R:af}{ρ:Str->Option AV}{H:af}{s:ae}{A:aD}{E:ab->ae->Prop}{S:Int->Bool}{n:Nat}{a:Addr}{k:Int}{t:Tok}
noncomputable def gm(c:Cx)(S:Int->Bool)(n:Nat):AO:=.obj λo=>o.SetObjOf (PySem.intKind c.G.prog c.G.w) S n
theorem Lx{Q:ab->ae->Prop}(ok:c.Ok)(st:St c R ρ H s)(h:∀a s',H a=iF->St c R ρ (upd H a (gm c (λd=>false) 0)) s'->Q (.ref a) s'):al c.M A (call (.type "set") []) Q E s :=call_set_0 λb=>h _ _ st.cV (st.alloc ok (o:={ cls:=.type "set",dict:=iF,data:=.set #[] 0 (.fresh 0 0 b) }) (ao:=gm c (λd=>false) 0) (setObjOf_fresh (knd:=PySem.intKind c.G.prog c.G.w) b) rfl)
theorem dN{Q:ab->ae->Prop}(st:St c R ρ H s)(d:H a=wf (gm c S n))(b:n<qk)(h:∀s',St c R ρ H s'->Q (.bool (S k)) s'):al c.M A (fy .In (.int k t) (.ref a)) Q E s:=by
 refine ak (st.get d) λo e hi=>?_
 exact wpAny_inSet_of (knd:=PySem.intKind c.G.prog c.G.w) (ji _ _ _ _) rfl (Obj.SetObjOf.setOf hi e b) (h _ (st.toks _))
theorem K6{pl:Sem Bool}{Q:ab×List ab->ae->Prop}(st:St c R ρ H s)(d:H a=wf (gm c S n))(b:n<qk)(h:Q (.builtin "set.add",[.ref a]) s):al c.M A (j4 (.ref a) "add" pl) Q E s:=by
 refine ak (st.get d) λo e hi=>?_
 exact getMethod_set_add (knd:=PySem.intKind c.G.prog c.G.w) (Obj.SetObjOf.setOf hi e b) h
theorem Fb{Q:ab->ae->Prop}(st:St c R ρ H s)(l:H a=wf (gm c S n))(j:n+1<qk)(h:∀s',St c R ρ (upd H a (gm c (λb=>S b||decide (b=k)) (if S k then n else n+1))) s'->Q .none s'):al c.M A (call (.builtin "set.add") [.ref a,.int k t]) Q E s:=by
 refine ak (st.get l) λo e hi=>(call_set_add (knd:=PySem.intKind c.G.prog c.G.w) (ji _ _ _ _) rfl (Obj.SetObjOf.setOf hi e (rS j)) j λh' f i=>?_);refine ak i.objOf λm g d=>?_
 exact h _ (st.set (tk:=s.toks+1) (ao':=gm c (λb=>S b||decide (b=k)) (if S k then n else n+1)) l f g d)
end
structure Fm where
 v:Int
 p:Nat
 it:Addr
 w:Addr
noncomputable def rem(ks:List Int)(S:Int->Bool)(f:Int->Nat):Nat:=((ks.filter λv=>!S v).map f).sum
theorem pG(a:Int)(r:List Int)(S:Int->Bool)(f:Int->Nat):rem (a::r) S f=(if S a then 0 else f a)+rem r S f:=by
 delta rem;refine aa fu ?_
 cases S a<;>simp
theorem Ct{S:Int->Bool}{f:Int->Nat}{k:Int}:∀{ks:List Int},k∉ks->rem ks (λb=>S b||decide (b=k)) f=rem ks S f
 |[],_=>rfl
 |a::r,h=>by have c:a≠k:=λe=>h (e▸xk);rw[pG,pG,Ct (S:=S) (f:=f) (ks:=r) λe=>h (sW _ e)];simp[c]
theorem v!{S:Int->Bool}{f:Int->Nat}{k:Int}(g:S k=false):∀{ks:List Int},ks.Nodup->k∈ks->rem ks S f=rem ks (λd=>S d||decide (d=k)) f+f k
 |a::r,hn,hk=>by
  replace hn:=dq.mp (hn);rw[pG,pG];by_cases c:a=k
  ·subst c;refine aa (Ct hn.1) ?_
   simp[g];exact PL
  have b:k∈r:=by
   obtain e|e:=aW.mp hk
   ·exact GM e.symm c
   exact e
  refine aa (v! g (f:=f) hn.2 b) ?_
  simp[c];exact PM
noncomputable def pend(sc:Int->List Int)(fs:List Fm):Nat:=(fs.map λf=>(sc f.v).length-f.p).sum
theorem vW(sc:Int->List Int)(fs:List Fm)(f:Fm):pend sc (fs++[f])=pend sc fs+((sc f.v).length-f.p):=by unfold pend;simp
structure Cy(c:Cx)(ez:af)(a1 a2 a3 a4:Addr)(sa:Int->Addr)(S:Int->Bool)(n:Nat)(fs:List Fm)(H:af):Prop where
 sub:Sub ez H
 f?:H a1=wf (.list (fs.map λf=>.int f.v))
 fZ:H a2=wf (.list (fs.map λf=>.ref f.w))
 seen:H a3=wf (gm c S n)
 idx:∃es ep,H a4=wf (.dict es ep)/\es.map (·.1)=fs.map (·.v)
 fr:∀f∈fs,H f.w=wf (jI f.it)/\H f.it=wf (c9 (sa f.v) f.p)/\ez f.w=iF/\ez f.it=iF/\f.w≠a3/\f.it≠a3
 dist:(fs.map (·.it)).Nodup
 mJ:∀f∈fs,∀f'∈fs,f.it≠f'.w
structure qq(ez:af)(a1 a2 a3 a4:Addr):Prop where
 n1:ez a1=iF
 n2:ez a2=iF
 n3:ez a3=iF
 n4:ez a4=iF
 oB:a1≠a2
 qI:a1≠a3
 qJ:a1≠a4
 t_:a2≠a3
 qK:a2≠a4
 ua:a3≠a4
section
variable{c:Cx}{ez H:af}{a1 a2 a3 a4:Addr}{sa:Int->Addr}{S:Int->Bool}{n:Nat}{fs:List Fm}
theorem Cy.step{f:Fm}(C:Cy c ez a1 a2 a3 a4 sa S n (fs++[f]) H):Cy c ez a1 a2 a3 a4 sa S n (fs++[{ f with p:=f.p+1 }]) (upd H f.it (c9 (sa f.v) (f.p+1))):=by
 refine ky (C.fr f (bt _ (.head _))) λL f2 J l I k=>?_
 have a:∀b ao,H b=wf ao->(∀P,ao≠.obj P)->upd H f.it (c9 (sa f.v) (f.p+1)) b=wf ao:=λb ao e s=>by rw[aj];exact e;rintro rfl;rw[f2] at e;exact s _ (ax e).symm
 have j:=C.dist;rw[bf,cQ] at j;refine⟨?_,?_,?_,?_,?_,?_,?_,?_⟩
 ·exact⟨λb ao e=>by
   have:b≠f.it:=λq=>by(rw[q,l] at e;injection e)
   (refine aa (aj this) ?_);exact C.sub.le b ao e⟩
 ·have:=a _ _ C.f? (λP q=>by injection q)
  simpa using this
 ·have:=a _ _ C.fZ (λP q=>by injection q);simpa using this
 ·(refine aa (aj (aI k)) ?_);exact C.seen
 ·refine aV C.idx λes ep u t=>(a_ es ep (a _ _ u (λP q=>by injection q)) ?_);(refine aa t ?_);simp
 ·intro g hg;obtain hg|hg:=aT.mp hg
  ·refine ky (C.fr g (b? _ ‹_›)) λF E D B A z=>(dS ?_ ?_ D B A z)
   ·(refine aa (aj (aI (C.mJ f (bt _ (.head _)) g (b? _ ‹_›)))) ?_);exact F
   (refine aa (aj (j.2.2 g.it (bh.mpr (ar g hg rfl)) f.it (.head _))) ?_);exact E
  replace hg:=aK.mp (hg);refine aa hg ?_
  refine dS ?_ (am ..) J l I k
  (refine aa (aj (aI (C.mJ f (bt _ (.head _)) f (bt _ (.head _))))) ?_);exact L
 ·have:=C.dist;simpa using this
 intro g hg G i;have d:∀x∈fs++[{ f with p:=f.p+1 }],∃y∈fs++[f],y.it=x.it/\y.w=x.w:=λx hx=>by
  obtain hx|hx:=aT.mp hx
  ·exact aR x (b? _ ‹_›) rfl rfl
  rw[aK] at hx;subst hx;exact aR f (bt _ (.head _)) rfl rfl
 refine aB (d g hg) λy r N m=>(aB (d G i) λo h m M=>?_);refine az N ?_;refine az M ?_
 exact C.mJ y r o h
theorem Cy.pop{f:Fm}{es:List (Int×AV)}{ep:Nat}(X:qq ez a1 a2 a3 a4)(C:Cy c ez a1 a2 a3 a4 sa S n (fs++[f]) H)(t:es.map (·.1)=fs.map (·.v)) :
  Cy c ez a1 a2 a3 a4 sa S n fs (upd (upd (upd (upd H f.it mL) a1 (.list (fs.map λf=>.int f.v))) a4 (.dict es ep)) a2 (.list (fs.map λf=>.ref f.w))):=by
 refine ky (C.fr f (bt _ (.head _))) λL f2 J D I B=>?_
 have j:=C.dist;rw[bf] at j;replace j:=cQ.mp (j);have i1:f.it≠a1:=λq=>by((replace f2:=q▸f2;replace f2:=C.f?▸f2);cases f2)
 have i2:f.it≠a2:=λq=>by((replace f2:=q▸f2;replace f2:=C.fZ▸f2);cases f2)
 refine aV C.idx λE F d r=>?_
 have G:f.it≠a4:=λq=>by((replace f2:=q▸f2;replace f2:=d▸f2);cases f2)
 have a:∀b ao,H b=wf ao->b≠f.it->b≠a1->b≠a4->b≠a2->upd (upd (upd (upd H f.it mL) a1 (.list (fs.map λf=>.int f.v))) a4 (.dict es ep)) a2 (.list (fs.map λf=>.ref f.w)) b=wf ao:=λb ao e p o m l=>by(refine aa (aj l) ?_;refine aa (aj m) ?_;refine aa (aj o) ?_;refine aa (aj p) ?_);exact e
 refine⟨⟨λb ao e=>a b ao (C.sub.le b ao e) ?_ ?_ ?_ ?_⟩,?_,am ..,a _ _ C.seen (aI B) (aI X.qI) X.ua (aI X.t_),⟨es,ep,?_,t⟩,λg k=>?_,j.1,λg k A s=>C.mJ g (b? _ ‹_›) A (b? _ ‹_›)⟩
 ·intro q;(rw[q,D] at e;injection e)
 ·intro q;(rw[q,X.n1] at e;injection e)
 ·intro q;(rw[q,X.n4] at e;injection e)
 ·intro q;(rw[q,X.n2] at e;injection e)
 ·(refine aa (aj X.oB) ?_;refine aa (aj X.qJ) ?_);exact am ..
 ·(refine aa (aj (aI X.qK)) ?_);exact am ..
 refine ky (C.fr g (b? _ ‹_›)) λi h z y x u=>(dS (a _ _ i (aI (C.mJ f (bt _ (.head _)) g (b? _ ‹_›))) ?_ ?_ ?_) (a _ _ h (j.2.2 g.it (bh.mpr (ar g k rfl)) f.it (.head _)) ?_ ?_ ?_) z y x u)
 ·intro q;rw[q,C.f?] at i;cases i
 ·intro q;rw[q,d] at i;cases i
 ·intro q;rw[q,C.fZ] at i;cases i
 ·intro q;rw[q,C.f?] at h;cases h
 ·intro q;rw[q,d] at h;cases h
 intro q;rw[q,C.fZ] at h;cases h
end
theorem qP{c:Cx}{s:ae}{A:aD}{E:ab->ae->Prop}{env:Env}{e:Expr}{pos:Pos}{Q:Flow->ae->Prop}(a:env.scope.kind=.function)(h:al c.M A (eval e env) (λv s'=>Q .next s') E s)(hs:autoParam (iH e iF pos.line env=pure false) cN):al c.M A (exec (.Expr e pos) env) Q E s :=wpAny_Expr_any h (zL a) hs
section
variable{c:Cx}{R R₀:af}{ρ:Str->Option AV}{H:af}{s:ae}{A:aD}{E:ab->ae->Prop}{env:Env}
theorem b8.sub{R':af}{l:List Env}(x:b8 R l)(h:Sub R R'):b8 R' l:=λenv a=>by
 refine fj (x env a) λe b r d c=>?_
 exact lV e b r d (h.le _ _ c)
theorem Vv(ks:List Int):rem ks (λb=>false) (λb=>1)=ks.length:=by
 induction ks with
 |nil=>rfl
 |cons a r c=>rw[pG,c];simp;exact PN
theorem Wv:mi (.type "StopIteration") (.type "StopIteration")=pure true:=by rw[nU];kernel_rfl
theorem G!:mi (.type "StopIteration") (.type "BaseException")=pure true:=by rw[nU];kernel_rfl
theorem K4:mi (.type ((xu "StopIteration").elim "type" λy=>y.metatype)) (.type "tuple")=pure false:=by
 have e:((xu "StopIteration").elim "type" λy=>y.metatype)="type":=by decide +kernel
 rw[e,nU];kernel_rfl
theorem FO:eH "StopIteration"=wf (.type "StopIteration"):=by decide +kernel
end
noncomputable def iW(σ:cn)(a1 a2 a3 a4:Addr)(nd:AV):List (Str×AV):=[("self",.ref σ.self),("n2i",.ref σ.cD),("stack",.ref a1),("itstack",.ref a2),("seen",.ref a3),("node2stacki",.ref a4),("node",nd)]
noncomputable def rE(σ:cn)(a1 a2 a3 a4:Addr):List (Str×AV):=[("self",.ref σ.self),("n2i",.ref σ.cD),("stack",.ref a1),("itstack",.ref a2),("seen",.ref a3),("node2stacki",.ref a4)]
noncomputable def CH:Stmt:=fk (bodyOf (fk (bodyOf (fk (bodyOf r8) 5)) 1)) 1
theorem AD{σ:cn}{a1 a2 a3 a4:Addr}{nd:AV}:∀x av,lk (rE σ a1 a2 a3 a4) x=wf av->lk (iW σ a1 a2 a3 a4 nd) x=wf av :=AllIn.mem (sy rfl rfl rfl rfl rfl rfl trivial)
theorem KS{k:Int}:∀{es:List (Int×AV)},k∉es.map (·.1)->es.lookup k=iF:=by
 intro l0;induction l0 with
 |nil =>intro _;exact rfl
 |cons b r c =>
  obtain⟨a,v⟩:=b;intro h;refine aa cP ?_
  have:(k==a)=false:=by rw[beq_eq_false_iff_ne];rintro rfl;exact h (.head _)
  refine aa this ?_
  exact c λe=>h (by simp at e ⊢;exact .inr e)
theorem KU{k:Int}:∀{es:List (Int×AV)},k∈es.map (·.1)->(es.lookup k).isSome=true:=by
 intro l0;induction l0 with
 |nil =>intros;simp at *
 |cons b r c =>
  obtain⟨a,v⟩:=b;intro h;refine aa cP ?_
  cases e:k==a with
  |true=>rfl
  |false =>
   refine c ?_
   rw[bq,aW] at h;obtain h|h:=h
   ·rw[beq_eq_false_iff_ne] at e;exact GM h e
   exact h
theorem J9{es:List (Int×AV)}{ks:List Int}{k:Int}(h:es.map (·.1)=ks++[k])(b:k∉ks):(es.filter λp=>!decide (p.1=k)).map (·.1)=ks:=by
 have e:(es.filter λp=>!decide (p.1=k)).map (·.1)=(es.map (·.1)).filter λx=>!decide (x=k):=by(refine aa sS ?_);rfl
 rw[e,h,p0];simp;intro a c;rintro rfl;exact b c
theorem St.KV{c:Cx}{R:af}{ρ:Str->Option AV}{H:af}{s:ae}{a:Addr}{ao ao':AO}(st:St c R ρ H s)(b:H a=wf ao)(h:∀o,ao.Is o->ao'.Is o)(d:autoParam (ao'.links=[]) cN):St c R ρ (upd H a ao') s:=by
 refine ak (st.get b) λo e hi=>?_
 exact st.set (tk:=s.toks) b (Heap.SameBut.refl ..) e (h o hi) d
theorem Cy.push{c:Cx}{ez H:af}{a1 a2 a3 a4 it w:Addr}{sa:Int->Addr}{S S':Int->Bool}{n n' ep:Nat}{fs:List Fm}{k:Int}{es:List (Int×AV)}(X:qq ez a1 a2 a3 a4)(C:Cy c ez a1 a2 a3 a4 sa S n fs H)(a:H it=iF)(d:H w=iF)(D:it≠w)(Q:es.map (·.1)=fs.map (·.v)++[k]) :
  Cy c ez a1 a2 a3 a4 sa S' n' (fs++[⟨k,0,it,w⟩])
   (upd (upd (upd (upd (upd (upd (upd H a3 (gm c S' n')) it (lv (sa k))) w (jI it)) it (c9 (sa k) 0)) a2 (.list (fs.map (λf=>AV.ref f.w)++[.ref w]))) a4 (.dict es ep)) a1 (.list (fs.map (λf=>AV.int f.v)++[.int k]))):=by
 refine aV C.idx λU V h P=>?_
 have i1:it≠a1:=λq=>by(rw[q,C.f?] at a;injection a)
 have i2:it≠a2:=λq=>by(rw[q,C.fZ] at a;injection a)
 have t:it≠a3:=λq=>by(rw[q,C.seen] at a;injection a)
 have O:it≠a4:=λq=>by(rw[q,h] at a;injection a)
 have M:w≠a1:=λq=>by(rw[q,C.f?] at d;injection d)
 have L:w≠a2:=λq=>by(rw[q,C.fZ] at d;injection d)
 have B:w≠a3:=λq=>by(rw[q,C.seen] at d;injection d)
 have J:w≠a4:=λq=>by(rw[q,h] at d;injection d)
 have z:∀b,H b=iF->ez b=iF:=λb e=>by
  cases q:ez b with
  |none=>rfl
  |some ao=>rw[C.sub.le b ao q] at e;injection e
 have j:∀b ao,H b=wf ao->b≠a1->b≠a2->b≠a3->b≠a4 ->(upd (upd (upd (upd (upd (upd (upd H a3 (gm c S' n')) it (lv (sa k))) w (jI it)) it (c9 (sa k) 0)) a2 (.list (fs.map (λf=>AV.ref f.w)++[.ref w]))) a4 (.dict es ep)) a1 (.list (fs.map (λf=>AV.int f.v)++[.int k]))) b=wf ao:=λb ao e m1 m2 m3 N=>by
  have I:b≠it:=λq=>by(rw[q,a] at e;injection e)
  have W:b≠w:=λq=>by(rw[q,d] at e;injection e)
  (refine aa (aj m1) ?_;refine aa (aj N) ?_;refine aa (aj m2) ?_;refine aa (aj I) ?_;refine aa (aj W) ?_;refine aa (aj I) ?_;refine aa (aj m3) ?_);exact e
 refine⟨⟨λb ao e=>j b ao (C.sub.le b ao e) ?_ ?_ ?_ ?_⟩,?_,?_,?_,⟨es,ep,?_,?_⟩,λg hg=>?_,?_,λg hg A i=>?_⟩
 ·intro q;(rw[q,X.n1] at e;injection e)
 ·intro q;(rw[q,X.n2] at e;injection e)
 ·intro q;(rw[q,X.n3] at e;injection e)
 ·intro q;(rw[q,X.n4] at e;injection e)
 ·rw[am];simp
 ·rw[aj (aI X.oB),aj X.qK,am];simp
 ·(refine aa (aj (aI X.qI)) ?_;refine aa (aj X.ua) ?_;refine aa (aj (aI X.t_)) ?_;refine aa (aj (aI t)) ?_;refine aa (aj (aI B)) ?_;refine aa (aj (aI t)) ?_);exact am ..
 ·(refine aa (aj (aI X.qJ)) ?_);exact am ..
 ·(refine aa Q ?_);simp
 ·obtain hg|hg:=aT.mp hg
  ·refine ky (C.fr g hg) λm l T R G F=>(dS (j _ _ m ?_ ?_ G ?_) (j _ _ l ?_ ?_ F ?_) T R G F)
   ·intro q;rw[q,C.f?] at m;cases m
   ·intro q;rw[q,C.fZ] at m;cases m
   ·intro q;rw[q,h] at m;cases m
   ·intro q;rw[q,C.f?] at l;cases l
   ·intro q;rw[q,C.fZ] at l;cases l
   intro q;rw[q,h] at l;cases l
  rw[aK] at hg;refine aa hg ?_
  refine dS ?_ ?_ (z _ d) (z _ a) B t
  ·(refine aa (aj M) ?_;refine aa (aj J) ?_;refine aa (aj L) ?_;refine aa (aj (aI D)) ?_);exact am ..
  (refine aa (aj i1) ?_;refine aa (aj O) ?_;refine aa (aj i2) ?_);exact am ..
 ·refine aa bf ?_
  refine cQ.mpr (?_);refine aC C.dist (of_decide_eq_true rfl) λx u y E=>(ak (bh.mp u) λg hg s=>?_);obtain rfl:=s;simp at E;refine aa E ?_
  intro q;have:=(C.fr g hg).2.1;rw[q,a] at this;injection this
 have o:∀x∈fs++[(⟨k,0,it,w⟩:Fm)],x∈fs\/x=⟨k,0,it,w⟩:=λx u=>by simpa using u
 obtain hg|rfl:=o g hg<;>obtain i|rfl:=o A i
 ·exact C.mJ g hg A i
 ·intro q;have:=(C.fr g hg).2.1;rw[q,d] at this;injection this
 ·intro q;have r:=(C.fr A i).1;replace r:=(bn q)▸r;rw[show({ v:=k,p:=0,it:=it,w:=w }:Fm).it=it from rfl,a] at r;injection r
 exact D
theorem Wo{k:Int}{v:AV}{es:List (Int×AV)}(h:k∉es.map (·.1)):i8 es k v=es++[(k,v)]:=by
 delta i8;rw[Da];intro q;refine ak (w7.mp q) λp hp e=>?_
 exact h (bh.mpr (ar p hp (of_decide_eq_true e)))
section
variable{c':Cx}{R:af}{H H':af}{s:ae}{A₁:aD}{F:Addr->Prop}{σ:cn}{l:Lay}{le:List Env}{L' a1 a2 a3 a4:Addr}{rk:Int->Nat}{nd:Int}{Sn:Int->Bool}{n:Nat}{fs:List Fm}{Q:Flow->ae->Prop}
theorem JG(hK:c'.G.K=KP c'.G.w.params)(lD:c'.Ok)(D:c'.bd=bY "TopologicalSorter._find_cycle" r8 L' 145 (.ref 144) [])(hh:A₁.handled=iF)(oW:A₁.frames=wf le)(FI:b8 R le)(S:bC H F σ l)(X:qq H a1 a2 a3 a4)(zu:∀k∈σ.g.ks,(σ.g.sc k).length<=1000)(oR:∀k∈σ.g.ks,∀z∈σ.g.sc k,z∈σ.g.ks/\rk z<rk k)(st:St c' R (lk (iW σ a1 a2 a3 a4 (.int nd))) H' s)(C:Cy c' H a1 a2 a3 a4 l.sa Sn n fs H')(uH:∀f∈fs,f.v∈σ.g.ks)(mR:(fs.map (·.v)).Pairwise (λx y=>rk y<rk x))(Y:fs.length<=1000)(I:∀j b h s',St c' R (lk (iW σ a1 a2 a3 a4 (.int j))) h s'->Cy c' H a1 a2 a3 a4 l.sa Sn n b h->j∈σ.g.ks->(∀f∈b,f.v∈σ.g.ks/\rk j<rk f.v)->(b.map (·.v)).Pairwise (λx y=>rk y<rk x) ->pend σ.g.sc b<pend σ.g.sc fs->b.length<=fs.length->Q .next s')(V:∀j h s',St c' R (lk (iW σ a1 a2 a3 a4 (.int j))) h s'->Cy c' H a1 a2 a3 a4 l.sa Sn n [] h->Q .brk s') :
  al c'.M (A₁.deeper c'.bd) (exec CH c'.bd) Q (λzz zz=>False) s:=by
 refine wC (λm ρ' h=>∃j b,m=b.length/\ρ'=lk (iW σ a1 a2 a3 a4 (.int j))/\Cy c' H a1 a2 a3 a4 l.sa Sn n b h/\(∀f∈b,f.v∈σ.g.ks)/\(b.map (·.v)).Pairwise (λx y=>rk y<rk x)/\pend σ.g.sc b<=pend σ.g.sc fs/\b.length<=fs.length)
  fs.length st (wI nd fs rfl rfl C uH mR (bD _) (bD _)) ?_
 intro m ρ' h s' N st;obtain⟨j,b,rfl,rfl,o,r,c,t,i⟩:=N;intro K jz KQ hQ;refine xM (aS ‹_› ‹_› D rfl rfl ?_);refine WL ‹_› (.inl o.f?) (by rw[aw];exact PQ Y i) λs st=>?_
 obtain rfl|⟨gs,f,rfl⟩:=w? b
 ·refine eC (by exact dE) (aL ?_);intro K d;refine wpAny_Break (openK ‹_› ?_);refine openK ‹_› ?_
  exact V _ _ _ st o
 rw[List.concat_eq_append] at *;refine ic (by simp) (ky (o.fr f (bt _ (.head _))) λf1 f2 f3 f4 f5 f6=>?_);have J:f.v∈σ.g.ks:=r f (bt _ (.head _));refine aL λK d=>?_
 refine WN (A₁:=A₁) lD rfl oW FI (by unfold Cx.L;(refine aa D ?_);rfl) (by(refine aa hK ?_);kernel_rfl) FO (by decide) (by exact lu D rfl) G! K4 Wv ?_
 refine aL λK d=>(dI (eU ?_));refine jg (aS ‹_› ‹_› D rfl rfl ?_);refine UnaryOp_ (cInt ‹_› ?_);intro E s st;refine Az ‹_› λE s st=>?_
 refine Jl ‹_› (.inl o.fZ) (by decide) (by simp;exact PR) (av:=.ref f.w) (by
  have e:((-1:Int)+((gs++[f]).map λf=>AV.ref f.w).length).toNat=gs.length:=by simp;exact PS
  (refine aa e ?_);simp) (by decide) ?_
 refine uv (GG ‹_› f1 ?_);have P:b9 c' h (l.sa f.v) ((σ.g.sc f.v).map .int):=.inl (o.sub.le _ _ (S.succ f.v J));refine UP (x:=(σ.g.sc f.v)[f.p]?) (λz O=>?_) (λO=>?_)
 ·
  refine LB ‹_› f1 f2 P (av:=.int z) (aa bp (aa O rfl)) ?_
  refine jy λE s st=>?_
  refine cO ‹_› ‹_› D rfl λs st=>?_
  refine openK ‹_› ?_
  refine aL λK d=>?_
  refine wpAny_Break (openK ‹_› ?_);refine openK ‹_› ?_
  refine openK ‹_› ?_
  have hm:z∈σ.g.sc f.v:=en O;refine oA (oR f.v J z hm) λIN T=>?_
  have C2:=o.step;have eN:f.p<(σ.g.sc f.v).length:=(dG.mp O).1;refine I z (gs++[{ f with p:=f.p+1 }]) _ _ (st.names (iW σ a1 a2 a3 a4 (.int z)) ⟨rfl,rfl,rfl,rfl,rfl,rfl,rfl,trivial⟩) C2 IN ?_ ?_ ?_ ?_
  ·intro g hg;obtain hg|hg:=aT.mp hg
   ·refine⟨r g (by simp[hg]),hW T ?_⟩;rw[bf,dx] at c;exact c.2.2 g.v (bh.mpr (ar g hg rfl)) f.v (by simp)
   rw[aK] at hg;subst hg;exact⟨J,T⟩
  ·simpa using c
  ·rw[vW] at t ⊢;exact PT t eN
  simpa using i
 ·
  refine LC hh ‹_› f1 f2 P (aa bp (aa O rfl)) ?_
  intro a hp s1 Jf Z;refine DD a hp _ _ rfl Jf Z λs2 Wh=>?_
  refine aV o.idx λes ep U u=>?_
  have i1:a1≠f.it:=λq=>by((replace f2:=q▸f2;replace f2:=o.f?▸f2);cases f2)
  have i2:a2≠f.it:=λq=>by((replace f2:=(bn q)▸f2;replace f2:=o.fZ▸f2);cases f2)
  have i4:a4≠f.it:=λq=>by((replace f2:=(bn q)▸f2;replace f2:=U▸f2);cases f2)
  refine aL λK d=>?_
  refine wpAny_Delete (wpAny_deleteEach_cons ?_);refine wpAny_delete_Subscript ?_
  refine aS ‹_› ‹_› D (by rfl) rfl (dX ?_);refine aS ‹_› ‹_› D (by rfl) rfl ?_
  have A:upd h f.it mL a1=wf (.list (gs.map (λf=>AV.int f.v)++[.int f.v])):=by(refine aa (aj i1) ?_;refine aa o.f? ?_);simp
  refine gI ‹_› A PySem.F.slot_list_pop PySem.F.type_list_pop (cw ?_);refine⟨trivial,?_⟩;refine v3 ‹_› A (by rw[aw,bW];simp at i;exact Bl Y i) ?_
  refine jy λE s st=>?_
  have IY:f.v∉gs.map (·.v):=by intro hm;rw[bf,dx] at c;exact dz _ (c.2.2 f.v hm f.v (by simp))
  rw[bf] at u;refine delD (es:=es) (ep:=ep) ‹_› (by(refine aa (aj (aI X.qJ)) ?_;refine aa (aj i4) ?_);exact U) (by(refine az (aw (f:=(·.1))) ?_;refine aa u ?_;refine aa bW ?_);simp at i ⊢;exact PU Y i) (KU (by rw[u];simp)) ?_
  intro W s st;refine wpAny_deleteEach_nil (openK ‹_› ?_);refine aL λK d=>?_
  refine qP (Cx.Ok.fn ‹_›) (dX ?_);refine aS ‹_› ‹_› D (by rfl) rfl ?_
  have B:upd (upd (upd h f.it mL) a1 (.list (gs.map λf=>AV.int f.v))) a4 (.dict (es.filter λp=>!decide (p.1=f.v)) W) a2=wf (.list (gs.map (λf=>AV.ref f.w)++[.ref f.w])):=by(refine aa (aj X.qK) ?_;refine aa (aj (aI X.oB)) ?_;refine aa (aj i2) ?_;refine aa o.fZ ?_);simp
  refine gI ‹_› B PySem.F.slot_list_pop PySem.F.type_list_pop (cw ?_);refine⟨trivial,?_⟩;refine v3 ‹_› B (by rw[aw,bW];simp at i;exact Bl Y i) λv s hv st=>?_
  refine openK ‹_› ?_
  refine bi (openK ‹_› ?_);refine bi (openK ‹_› ?_);have C2:=Cy.pop (ep:=W) X o (J9 u IY);refine wK _ _ _ ?_ st j gs rfl rfl C2 (λg hg=>r g (by simp[hg])) (aC ?_ ?_ ?_)
  ·simp
  ·rw[bf,dx] at c;exact c.1
  ·rw[vW] at t;exact PV t
  simp at i;exact vF i
end
section
variable{c:Cx}{R:af}{ρ:Str->Option AV}{H:af}{s:ae}{A:aD}{E:ab->ae->Prop}{Q:ab->ae->Prop}{d:Nat}{F:Addr->Prop}{σ:cn}{l:Lay}
def hY(H:af)(a:Addr)(ao:AO)(H':af):Prop:=H a=iF/\H'=upd H a ao
theorem hY.self{H H':af}{a:Addr}{ao:AO}(A:hY H a ao H'):H' a=wf ao:=aa A.2 (am ..)
theorem hY.sub{H H':af}{a:Addr}{ao:AO}(A:hY H a ao H'):Sub H H':=aa A.2 ((Sub.refl H).upd A.1)
theorem hY.ne{H H':af}{a:Addr}{ao:AO}(A:hY H a ao H'){b:Addr}{x:AO}(h:H b=wf x):b≠a:=λq=>by rw[q,A.1] at h;injection h
theorem Sub.none{H H':af}(s:Sub H H'){a:Addr}(h:H' a=iF):H a=iF:=cE (x:=H a) id λx e=>by rw[s.le _ _ e] at h;injection h
theorem alloc{c:Cx}{R:af}{ρ:Str->Option AV}{H:af}{ao:AO}{P:Addr->ae->Prop}(k:∀a H' s',hY H a ao H'->St c R ρ H' s'->P a s'):∀a s',H a=iF->St c R ρ (upd H a ao) s'->P a s':=λa s' h st=>k a _ s' ⟨h,rfl⟩ st
theorem GH{c:Cx}{sa:Int->Addr}{H m l k H4:af}{a1 a2 a3 a4:Addr}(A1:hY H a1 (.list []) m)(A2:hY m a2 (.list []) l)(b:hY l a3 (gm c (λn=>false) 0) k)(a:hY k a4 (.dict [] 0) H4) :
  qq H a1 a2 a3 a4/\Cy c H a1 a2 a3 a4 sa (λn=>false) 0 [] H4:=by
 have j:=A2.sub.le _ _ A1.self;have i:=b.sub.le _ _ j;have h:=b.sub.le _ _ A2.self;have g:=A1.sub.trans A2.sub;have e:=g.trans b.sub;exact⟨⟨A1.1,A1.sub.none A2.1,g.none b.1,e.none a.1,A2.ne A1.self,b.ne j,a.ne i,b.ne A2.self,a.ne h,a.ne b.self⟩,e.trans a.sub,a.sub.le _ _ i,a.sub.le _ _ h,a.sub.le _ _ b.self,⟨[],0,a.self,rfl⟩,λf d=>(nomatch d),.nil,λf d=>(nomatch d)⟩
theorem GI{le:List Env}{rk:Int->Nat}(hK:c.G.K=KP c.G.w.params)(ok:c.Ok)(Iv:A.depth<j6)(hh:A.handled=iF)(oW:A.frames=wf (c.bd::le))(FI:b8 R le)(st:St c R ρ H s)(S:bC H F σ l)(hz:σ.g.ks.length<=1000)(zu:∀k∈σ.g.ks,(σ.g.sc k).length<=1000)(oR:∀k∈σ.g.ks,∀I∈σ.g.sc k,I∈σ.g.ks/\rk I<rk k)(h:∀H' s',Sub H H'->St c R ρ H' s'->Q .none s'):al c.M A (call (.ref 145) [.ref σ.self] []) Q E s:=by
 have oP:=st.js;refine yf (binds:=[(("self":Str),.ref σ.self)]) (aa hK (Jq _)) ok Iv st (λdoc pm an ct=>iM ok st (by(refine aa hK ?_);intro S;kernel_rfl)) (by kernel_rfl) (by kernel_rfl) ?_
 intro c' L' s' t hG lg U;replace hK:=(bn hG)▸hK;have hf:c'.bd=bY "TopologicalSorter._find_cycle" r8 L' 145 (.ref 144) []:=by(refine aa lg ?_);rfl
 have tC:=b8.push (ρ:=ρ) ok FI oP;refine aL ?_
 intro K d;refine dI ?_
 refine ej ?_
 refine aS ‹_› ‹_› hf (by rfl) rfl ?_
 refine fX hK t ‹_› S.inst S.attr (by kernel_rfl) (av:=.ref σ.cD) rfl rfl ?_
 refine fJ ?_
 intro s st;refine cO ‹_› ‹_› hf rfl ?_
 intro s st;refine openK ‹_› ?_
 refine aL ?_
 intro K d;refine dI ?_
 refine listE ?_
 refine iV t ‹_› (by decide) ?_
 refine alloc λa1 H1 s A1 st=>?_
 refine cO ‹_› ‹_› hf rfl ?_
 intro s st;refine openK ‹_› ?_
 refine aL ?_
 intro K d;refine dI ?_
 refine listE ?_
 refine iV t ‹_› (by decide) ?_
 refine alloc λa2 H2 s A2 st=>?_
 refine cO ‹_› ‹_› hf rfl ?_
 intro s st;refine openK ‹_› ?_
 refine aL ?_
 intro K d;refine dI ?_
 refine eU ?_
 refine ku ‹_› ‹_› hf (by(refine aa hK ?_);kernel_rfl) FM (by decide) rfl ?_
 refine cw ?_
 refine⟨trivial,?_⟩;refine Lx t ‹_› ?_
 refine alloc λa3 H3 s A3 st=>?_
 refine cO ‹_› ‹_› hf rfl ?_
 intro s st;refine openK ‹_› ?_
 refine aL ?_
 intro K d;refine dI ?_
 refine newD t ‹_› ?_
 refine alloc λa4 H4 s A4 st=>?_
 refine cO ‹_› ‹_› hf rfl ?_
 intro s st;refine openK ‹_› ?_
 refine aL ?_
 intro K d;refine kW ?_
 refine aS ‹_› ‹_› hf (by rfl) rfl ?_
 refine oA (GH (c:=c') (sa:=l.sa) A1 A2 A3 A4) λX C0=>?_
 refine zO t ‹_› (C0.sub.le _ _ S.dict) ?_
 intro it s hit oQ st;have st:=st.names (rE σ a1 a2 a3 a4) (sy rfl rfl rfl rfl rfl rfl trivial);refine un (zQ (hh)) oQ st (λi ρ' H'=>(∀x av,lk (rE σ a1 a2 a3 a4) x=wf av->ρ' x=wf av)/\∃Sn n,Cy c' H a1 a2 a3 a4 l.sa Sn n [] H'/\n+rem σ.g.ks Sn (λL=>1)=σ.g.ks.length)
  (λi ρ' H' h=>by refine fj h λL Sn n C L=>?_;exact C.sub.le _ _ S.dict) (lV (λx av e=>e) _ _ C0 ?_) ?_ ?_
 ·rw[Vv];exact PW
 ·intro i av Rl ρ' H' s' v hi I7 Yk V st hv;refine fj V λoZ Sn n C B=>?_
  intro K jz;have ES:=tC.sub I7;replace hi:=dW▸hi;replace hi:=bp▸hi;refine ak (bu.mp hi) λk hk XI=>?_
  obtain rfl:=XI;refine oE (dG.mp hk) λeN hk=>?_
  have IP:=hk▸iy eN;refine oE (eM hv) λr XJ=>?_
  obtain rfl:=XJ;have st:=st.weaken oZ;refine fA ?_
  refine cO ‹_› ‹_› hf rfl ?_
  intro s st;refine aL ?_
  intro K d;refine eL ?_
  refine er ?_
  refine bV ‹_› ‹_› hf (by rfl) rfl ?_
  intro r;refine aS ‹_› ‹_› hf (by rfl) rfl ?_
  have st:=st.names (iW σ a1 a2 a3 a4 (.int k)) (wE rfl rfl rfl rfl rfl rfl rfl trivial);have O:n<qk:=by exact PX hz B
  refine dN ‹_› C.seen O ?_
  intro s st;refine d_ ?_
  cases Yl:Sn k with
  |true =>
   refine ic rfl ?_
   refine aL ?_
   intro K d;refine wpAny_Continue ?_
   refine openK ‹_› ?_
   refine openK ‹_› ?_
   refine openK ‹_› ?_
   exact DC _ _ st (λx av e=>AD x av e) Sn n C B
  |false =>
   refine eC dE ?_
   refine bi ?_
   refine openK ‹_› ?_
   refine aL ?_
   intro K d;refine wC (λm ρ' H'=>∃nd Sn n fs,ρ'=lk (iW σ a1 a2 a3 a4 (.int nd))/\Cy c' H a1 a2 a3 a4 l.sa Sn n fs H'/\n+rem σ.g.ks Sn (λL=>1)=σ.g.ks.length/\fs.length<=n/\nd∈σ.g.ks/\(∀f∈fs,f.v∈σ.g.ks/\rk nd<rk f.v) /\
     (fs.map (·.v)).Pairwise (λx y=>rk y<rk x)/\m=rem σ.g.ks Sn (λv=>(σ.g.sc v).length+1)+pend σ.g.sc fs)
    (rem σ.g.ks Sn (λv=>(σ.g.sc v).length+1)) ‹_› (Xn k Sn n [] rfl C B (kO _) IP (λf hf=>((GM hf aX))) .nil rfl) ?_
   intro m YW H2 s2 Y st;refine dQ Y λnd Sn n fs Xr XK=>?_
   obtain rfl:=Xr;refine LO XK λC B u D q? mR=>?_
   intro K jz KQ hQ;have O:n+1<qk:=by exact PY hz B
   have zy:nd∉fs.map (·.v):=by
    intro hm;refine ak (bh.mp hm) λf hf e=>?_
    have:=(q? f hf).2;replace this:=e▸this;exact dz _ this
   have N:∀(Sn:Int->Bool) (n:Nat) (fs:List Fm) (H2:af) (s:ae) (M:Nat),n+rem σ.g.ks Sn (λL=>1)=σ.g.ks.length->fs.length<=n->(∀f∈fs,f.v∈σ.g.ks)->(fs.map (·.v)).Pairwise (λx y=>rk y<rk x) ->
     rem σ.g.ks Sn (λv=>(σ.g.sc v).length+1)+pend σ.g.sc fs<=M->St c' Rl (lk (iW σ a1 a2 a3 a4 (.int nd))) H2 s->Cy c' H a1 a2 a3 a4 l.sa Sn n fs H2 ->
     al c'.M (A.deeper c'.bd) (exec CH c'.bd) (λf dR=>match f with
      |.next=>∃m j p,m<M/\St c' Rl j p dR/\∃nd Sn n fs,j=lk (iW σ a1 a2 a3 a4 (.int nd))/\Cy c' H a1 a2 a3 a4 l.sa Sn n fs p/\n+rem σ.g.ks Sn (λL=>1)=σ.g.ks.length/\fs.length<=n/\nd∈σ.g.ks/\(∀f∈fs,f.v∈σ.g.ks/\rk nd<rk f.v) /\
        (fs.map (·.v)).Pairwise (λx y=>rk y<rk x)/\m=rem σ.g.ks Sn (λv=>(σ.g.sc v).length+1)+pend σ.g.sc fs
      |.brk=>∃j p,St c' Rl j p dR/\(∀x av,lk (rE σ a1 a2 a3 a4) x=wf av->j x=wf av)/\∃Sn n,Cy c' H a1 a2 a3 a4 l.sa Sn n [] p/\n+rem σ.g.ks Sn (λL=>1)=σ.g.ks.length
      |_=>False) (λL L=>False) s:=by
    intro Sn n fs H2 s M B u uH mR hM st C;refine JG hK t hf (hh) oW ES S X zu oR st C uH mR (by exact P9 hz B u) ?_ ?_
    ·intro Av Ho p s' U C' h1 h2 h3 h4 h5;exact Xl _ _ _ (by exact P! hM h4) U Av Sn n Ho rfl C' (dS B (by exact P? u h5) h1 h2 h3 rfl)
    intro Av p s' U C';exact DC _ _ U (λx av e=>AD x av e) Sn n C' B
   refine xM ?_
   refine EJ ?_
   refine d_ ?_
   refine ic rfl ?_
   refine aL ?_
   intro K d;refine eL ?_
   refine er ?_
   refine bV ‹_› ‹_› hf (by rfl) rfl ?_
   intro r;refine aS ‹_› ‹_› hf (by rfl) rfl ?_
   refine dN ‹_› C.seen (by exact rS O) ?_
   intro s st;refine d_ ?_
   cases uw:Sn nd with
   |true =>
    refine ic rfl ?_
    refine aV C.idx λes ep T P=>?_
    refine aL ?_
    intro K d;refine eL ?_
    refine er ?_
    refine bV ‹_› ‹_› hf (by rfl) rfl ?_
    intro r;refine aS ‹_› ‹_› hf (by rfl) rfl ?_
    refine inD ‹_› T ?_
    intro s st;refine aa (KS (by(refine aa P ?_);exact zy)) ?_
    refine d_ ?_
    refine eC (by exact dE) ?_
    refine bi ?_
    refine openK ‹_› ?_
    refine bi ?_
    refine openK ‹_› ?_
    refine aL ?_
    intro K d;refine bx (N Sn n fs H2 _ _ B u (λf hf=>(q? f hf).1) mR (bD _) st C) (λfl s3 q=>?_) λL L z=>z.elim;cases fl with
    |next =>
     refine openK ‹_› ?_
     refine bi ?_
     refine openK ‹_› ?_
     exact q
    |brk =>
     refine dP q λj p q1 q2 q3=>?_
     refine openK ‹_› ?_
     refine openK ‹_› ?_
     refine openK ‹_› ?_
     refine bi ?_
     refine openK ‹_› ?_
     exact cj j p q1 q2 q3
    |cont=>exact q.elim
    |ret v=>exact q.elim
   |false =>
    refine eC dE ?_
    refine aL ?_
    intro K d;refine qP (Cx.Ok.fn ‹_›) ?_
    refine dX ?_
    refine aS ‹_› ‹_› hf (by rfl) rfl ?_
    refine K6 ‹_› C.seen (by exact rS O) ?_
    refine cw ?_
    refine bV ‹_› ‹_› hf (by rfl) rfl ?_
    intro r;refine⟨trivial,?_⟩;refine Fb ‹_› C.seen O ?_
    intro s st;refine openK ‹_› ?_
    refine aL ?_
    intro K d;refine qP (Cx.Ok.fn ‹_›) ?_
    refine dX ?_
    refine aS ‹_› ‹_› hf (by rfl) rfl ?_
    have Yc:=C.fZ;refine aV C.idx λes ep T P=>?_
    have hits:upd H2 a3 (gm c' (λI=>Sn I||decide (I=nd)) (if Sn nd=true then n else n+1)) a2=wf (.list (fs.map λf=>AV.ref f.w)):=aa (aj X.t_) C.fZ;refine gI ‹_› hits PySem.F.slot_list_append PySem.F.type_list_append ?_
    refine cw ?_
    refine ej ?_
    refine eU ?_
    refine ku ‹_› ‹_› hf (by(refine aa hK ?_);kernel_rfl) FG (by decide) rfl ?_
    refine cw ?_
    refine ej ?_
    refine jg ?_
    refine aS ‹_› ‹_› hf (by rfl) rfl ?_
    refine bV ‹_› ‹_› hf (by rfl) rfl ?_
    intro r;have J:Sub H (upd H2 a3 (gm c' (λI=>Sn I||decide (I=nd)) (if Sn nd=true then n else n+1))):=C.sub.trans ⟨λb ao e=>e⟩|>.upd X.n3;refine kq ‹_› (J.le _ _ S.dict) (av:=.ref (l.na nd)) (by rw[o!,FB D]) ?_
    refine fJ ?_
    intro s st;refine uu hK t ‹_› (J.le _ _ (S.node nd D)) (J.le _ _ (S.dK nd D)) (av:=.ref (l.sa nd)) rfl rfl ?_
    refine fJ ?_
    intro s st;refine⟨trivial,?_⟩;refine JP t ‹_› (.inl (J.le _ _ (S.succ nd D))) ?_
    intro Z s eB st
    skip
    refine LA t ‹_› (am ..) ?_
    intro w s hw st;have LD:Z≠a3:=λq=>by(rw[q,am] at eB;injection eB)
    replace eB:=(aj LD)▸eB;have vq:Z≠w:=λq=>by(rw[q,am] at hw;injection hw)
    replace hw:=(aj (aI vq))▸hw;have LN:w≠a3:=λq=>by(rw[q,am] at hw;injection hw)
    replace hw:=(aj LN)▸hw;have i1:Z≠a1:=λq=>by((replace eB:=q▸eB;replace eB:=C.f?▸eB);injection eB)
    have i2:Z≠a2:=λq=>by((replace eB:=q▸eB;replace eB:=C.fZ▸eB);injection eB)
    have i4:Z≠a4:=λq=>by((replace eB:=q▸eB;replace eB:=T▸eB);injection eB)
    have w1:w≠a1:=λq=>by((replace hw:=q▸hw;replace hw:=C.f?▸hw);injection hw)
    have w2:w≠a2:=λq=>by((replace hw:=q▸hw;replace hw:=C.fZ▸hw);injection hw)
    have w4:w≠a4:=λq=>by(rw[q,T] at hw;injection hw)
    have st:=st.KV (a:=Z) (ao:=lv (l.sa nd)) (ao':=c9 (l.sa nd) 0) (aa (aj vq) (am ..)) (λo e=>aa (e) ⟨rfl,rfl⟩);refine⟨trivial,?_⟩;refine ju (xs:=fs.map λf=>AV.ref f.w) ‹_› (by(refine aa (aj (aI i2)) ?_;refine aa (aj (aI w2)) ?_;refine aa (aj (aI i2)) ?_);exact hits) (by rw[aw,bW];exact vP hz B u) ?_
    intro s st;refine openK ‹_› ?_
    refine aL ?_
    intro K d;refine xK ?_
    refine eU ?_
    refine ku ‹_› ‹_› hf (by(refine aa hK ?_);kernel_rfl) mG (by decide) rfl ?_
    refine cw ?_
    refine aS ‹_› ‹_› hf (by rfl) rfl ?_
    refine⟨trivial,?_⟩;refine rr (xs:=fs.map λf=>AV.int f.v) ‹_› (.inl (by(refine aa (aj X.oB) ?_;refine aa (aj (aI i1)) ?_;refine aa (aj (aI w1)) ?_;refine aa (aj (aI i1)) ?_;refine aa (aj X.qI) ?_);exact C.f?)) (by rw[aw];exact P_ hz B u) ?_
    intro r s st;refine aS ‹_› ‹_› hf (by rfl) rfl ?_
    refine bV ‹_› ‹_› hf (by rfl) rfl ?_
    intro r;refine kD (es:=es) (ep:=ep) ‹_› (by(refine aa (aj (aI X.qK)) ?_;refine aa (aj (aI i4)) ?_;refine aa (aj (aI w4)) ?_;refine aa (aj (aI i4)) ?_;refine aa (aj (aI X.ua)) ?_);exact T) (by rw[<-aw (f:=(·.1)),P,aw,bW];exact vP hz B u) ?_
    intro k_ s st;replace st:=(Wo (aa P zy))▸st;refine openK ‹_› ?_
    refine aL ?_
    intro K d;refine qP (Cx.Ok.fn ‹_›) ?_
    refine dX ?_
    refine aS ‹_› ‹_› hf (by rfl) rfl ?_
    have zB:upd (upd (upd (upd (upd (upd H2 a3 (gm c' (λI=>Sn I||decide (I=nd)) (if Sn nd=true then n else n+1))) Z (lv (l.sa nd))) w (jI Z)) Z (c9 (l.sa nd) 0)) a2 (.list (fs.map (λf=>AV.ref f.w)++[abs (.ref w)]))) a4 (.dict (es++[(nd,abs (.int (fs.map λf=>AV.int f.v).length r))]) k_) a1=wf (.list (fs.map λf=>AV.int f.v)):=by(refine aa (aj X.qJ) ?_;refine aa (aj X.oB) ?_;refine aa (aj (aI i1)) ?_;refine aa (aj (aI w1)) ?_;refine aa (aj (aI i1)) ?_;refine aa (aj X.qI) ?_);exact C.f?
    refine gI ‹_› zB PySem.F.slot_list_append PySem.F.type_list_append ?_
    refine cw ?_
    refine bV ‹_› ‹_› hf (by rfl) rfl ?_
    intro r;refine⟨trivial,?_⟩;refine ju ‹_› zB (by rw[aw,bW];exact vP hz B u) ?_
    intro s st;refine openK ‹_› ?_
    refine bi ?_
    refine openK ‹_› ?_
    refine aL ?_
    intro K d;have C2:=Cy.push (k:=nd) (S':=λI=>Sn I||decide (I=nd)) (n':=if Sn nd=true then n else n+1) (ep:=k_) (es:=es++[(nd,abs (.int (fs.map λf=>AV.int f.v).length r))]) X C eB hw vq (aa bf (aa P rfl));have uO:=v! (f:=λL=>1) uw S.nodup D;have zA:=v! (f:=λv=>(σ.g.sc v).length+1) uw S.nodup D;have jC:(if Sn nd=true then n else n+1)=n+1:=aa uw rfl;rw[jC] at C2 st;refine bx (N _ (n+1) _ _ _ (rem σ.g.ks Sn (λv=>(σ.g.sc v).length+1)+pend σ.g.sc fs) (by exact Qa B uO) (by simp;exact rQ u) ?_ ?_ ?_ st C2) (λfl s3 q=>?_) λL L z=>z.elim
    ·intro f hf;obtain hf|hf:=aT.mp hf
     ·exact(q? f hf).1
     rw[aK] at hf;subst hf;exact D
    ·rw[bf];refine dx.mpr (?_);refine aC mR (by simp) (λx hx y hy=>?_);refine ak (bh.mp hx) λf hf XA=>?_
     obtain rfl:=XA;simp at hy;refine aa hy ?_
     exact(q? f hf).2
    ·rw[vW];exact Qb zA
    cases fl with
    |next =>
     refine openK ‹_› ?_
     refine bi ?_
     refine openK ‹_› ?_
     exact q
    |brk =>
     refine dP q λj p q1 q2 q3=>?_
     refine openK ‹_› ?_
     refine openK ‹_› ?_
     refine openK ‹_› ?_
     refine bi ?_
     refine openK ‹_› ?_
     exact cj j p q1 q2 q3
    |cont=>exact q.elim
    |ret v=>exact q.elim
 intro ρ' H' s' W st;refine fj W λoZ Sn n C B=>?_
 have st:=st.weaken oZ;refine bi ?_
 refine openK ‹_› ?_
 refine aL ?_
 intro K d;refine nZ ?_
 refine g0 ?_
 refine openK ‹_› ?_
 exact a_ _ _ st (λst=>h _ _ C.sub st)
end
section
variable{c:Cx}{R:af}{ρ:Str->Option AV}{H:af}{s:ae}{A:aD}{E:ab->ae->Prop}{Q:ab->ae->Prop}{d:Nat}{F:Addr->Prop}{σ:cn}{l:Lay}
theorem bC.V5{D:Addr}{r:List Int}(S:bC H F σ l)(j:σ.rd=iF)(i:H D=iF) :
  bC (upd (upd H D (.list (r.map AV.int))) σ.d (.attrs (gk "_ready_nodes" (.ref D) (σ.attrs l)))) (λb=>F b\/b=D) { σ with rd:=wf r } { l with ra:=D }:=by
 have c:∀b ao,H b=wf ao->(∀es,ao=.attrs es->b≠σ.d)->upd (upd H D (.list (r.map AV.int))) σ.d (.attrs (gk "_ready_nodes" (.ref D) (σ.attrs l))) b=wf ao:=by
  intro b ao e o;have g:b≠D:=λq=>by(rw[q,i] at e;injection e)
  rw[aj,aj g];exact e;rintro rfl;replace e:=S.attr▸e;replace e:=ax e;subst e;exact o _ rfl rfl
 have m:D≠σ.d:=λq=>by(rw[q,S.attr] at i;injection i)
 refine⟨c _ _ S.inst (λh q=>by injection q),?_,c _ _ S.dict (λh q=>by injection q),λk a=>c _ _ (S.node k a) (λh q=>by injection q),λk a=>c _ _ (S.dK k a) (λh q=>?_),λk a=>c _ _ (S.succ k a) (λh q=>by injection q),S.inj,S.nodup,
  λr' hr=>aC ?_ (λk a=>?_) (.inr rfl),⟨.inl S.fp.1,.inl S.fp.2.1,.inl S.fp.2.2⟩,λk a=>aC (.inl (S.eA k a).1) (.inl (S.eA k a).2.1) (.inl (S.eA k a).2.2),λb g=>?_⟩
 ·rw[am];(refine aa j ?_);rfl
 ·intro z;have f:=S.dK k a;replace f:=z▸f;replace f:=S.attr▸f;cases f
 ·replace hr:=ax hr;subst hr;(refine aa (aj m) ?_);exact am ..
 ·intro q;have f:=S.succ k a;rw[show l.sa k=D from q,i] at f;injection f
 by_cases q:b=σ.d
 ·subst q;rw[am];intro z;injection z
 refine aa (aj q) ?_
 obtain g|rfl:=g
 ·by_cases n:b=D
  ·subst n;rw[am];intro z;injection z
  (refine aa (aj n) ?_);exact S.all b g
 rw[am];intro z;injection z
theorem WM{Q:Bool->ae->Prop}(h:Q false s):al c.M A (truthy .none) Q E s:=λa a a=>h
theorem U9{le:List Env}{rk:Int->Nat}(hK:c.G.K=KP c.G.w.params)(ok:c.Ok)(z:A.depth+1<j6)(hh:A.handled=iF)(oW:A.frames=wf (c.bd::le))(FI:b8 R le)(st:St c R ρ H s)(S:bC H F σ l)(U:σ.rd=iF)(hz:σ.g.ks.length<=1000)(W:∀k∈σ.g.ks,(σ.g.sc k).length<=1000)(oR:∀k∈σ.g.ks,∀k'∈σ.g.sc k,k'∈σ.g.ks/\rk k'<rk k)(h:∀H' F' l' s',bI H F H' F'->bC H' F' { σ with rd:=wf (σ.g.ks.filter λk=>σ.g.np k==0) } l'->St c R ρ H' s'->Q .none s'):al c.M A (call (.ref 110) [.ref σ.self] []) Q E s:=by
 have oP:=st.js;refine yf (binds:=[(("self":Str),.ref σ.self)]) (by(refine aa hK ?_);exact Jw _) ok (rS z) st (λdoc pm an ct=>iM ok st (by(refine aa hK ?_);intro S;kernel_rfl)) (by kernel_rfl) (by kernel_rfl) ?_
 intro c' L' s' d hG lg d8;replace hK:=(bn hG)▸hK;have L:c'.bd=bY "TopologicalSorter.prepare" CI L' 110 (.ref 109) []:=aa lg rfl;have tC:=b8.push (ρ:=ρ) ok FI oP;have lm:(σ.attrs l).lookup (Str.ofString "_ready_nodes")=wf AV.none:=by show wf _=_;(exact aa U rfl)
 refine aL λK m=>(eL (er ?_));refine ej (aS ‹_› ‹_› L rfl rfl ?_);refine fX hK d ‹_› S.inst S.attr (by kernel_rfl) lm rfl λv s O st=>(g0 (isNotNone O ?_));refine d_ (eC (by exact dE) ?_);refine bi (openK ‹_› ?_);refine aL λK m=>(jj (Gv d (cl:=[]) (by kernel_rfl) (by kernel_rfl) (by kernel_rfl) ?_));refine dX (ej ?_);refine aS ‹_› ‹_› L rfl rfl (fX hK d ‹_› S.inst S.attr (by kernel_rfl) (av:=.ref σ.cD) rfl rfl ?_);refine fJ λs st=>?_
 refine rz ‹_› S.dict PySem.F.slot_dict_values PySem.F.type_dict_values (cw ?_);refine⟨trivial,?_⟩;refine WT d ‹_› S.dict λvw s I st=>?_
 have p:=S.mono ((Sub.refl H).upd (o:=.obj λo=>o.cls=.type "dict_values"/\o.data=.fields #[.ref σ.cD]) I);have Yg:¬F vw:=λq=>S.all vw q I;generalize Y:upd H vw (.obj λo=>o.cls=.type "dict_values"/\o.data=.fields #[.ref σ.cD])=Hb at st p;have uS:Hb vw=wf (.obj λo=>o.cls=.type "dict_values"/\o.data=.fields #[.ref σ.cD]):=by(refine az Y ?_);exact am ..
 have j:Sub H Hb:=by(refine az Y ?_);exact(Sub.refl H).upd I
 skip
 refine JR d ‹_› p.dict uS λit s hit X st=>?_
 refine qo.mk (JY (hh)) X st (by rw[aw,aw,bW];exact pv hz) (λC i acc H'=>Hb C=iF/\acc=((σ.g.ks.take i).filter (λk=>σ.g.np k==0)).map AV.int/\∃r,H'=upd Hb C (.ns r)) ?_ ?_ ?_ ?_
 ·intro C i acc H' B;obtain⟨n,rfl,r,rfl⟩:=B;refine Dw ?_ r (am ..)
  (refine aa (aj (λq=>by(rw[<-q,p.dict] at n;injection n))) ?_);exact p.dict
 ·intro C n;refine W7 ?_ rfl _ rfl
  cases e:Hb C with
  |none=>rfl
  |some ao=>exact GM (n C (by(refine aa e ?_);intro q;injection q)) (dz _)
 ·intro C Z i av R' acc H' s' v J hi t st O;refine a! t λn XE XO=>?_
  obtain rfl:=XE;obtain⟨r,rfl⟩:=XO;intro KE Yf KN Yi;rw[dW,bp] at hi;refine ak (bu.mp hi) λk hk XF=>?_
  obtain rfl:=XF;obtain⟨V,hk⟩:=dG.mp hk;have y:k∈σ.g.ks:=hk▸iy V;refine aa (ed O) ?_
  have x:Sub Hb (upd Hb C (.ns (put r "i" (.ref (l.na k))))):=(Sub.refl Hb).upd n;have hL:Z.locals=C:=aa J rfl;refine fA ?_
  refine Wn ‹_› (r:=r) (aa hL (am ..)) ?_ (by(refine aa J ?_);rfl) (aa J rfl)
  intro s st;rw[hL,g_] at st;refine wpAny_tests_one ?_
  refine er (ej ?_);refine Au ‹_› (by(refine aa hL ?_);exact am ..) (by exact lI ..) ?_ (by(refine aa J ?_);rfl) (aa J rfl)
  refine uv (oH hK d ‹_› (x.le _ _ (p.node k y)) (x.le _ _ (p.dK k y)) (av:=.int (σ.g.np k)) rfl rfl ?_);refine jy λtok s st=>?_
  refine cInt ‹_› λtok s st=>?_
  refine lb (d_ ?_);have P:σ.g.ks.take (i+1)=σ.g.ks.take i++[k]:=by(refine aa iC ?_;refine aa (cz V) ?_;refine aa hk ?_);rfl
  cases hb:(σ.g.np k==0) with
  |false =>
   refine eC dE (UR ‹_› ?_);refine Dy _ st n ?_ _ rfl
   rw[P,p0];simp[fu,hb]
  |true =>
   refine ic rfl (ej ?_);refine Au ‹_› (aa hL (am ..)) (by exact lI ..) ?_ (by(refine aa J ?_);rfl) (aa J rfl)
   refine uv (HF hK d ‹_› (x.le _ _ (p.node k y)) (x.le _ _ (p.dK k y)) (av:=.int k) rfl rfl ?_);intro v s O st;refine US ‹_› ?_
   refine Dy _ st n ?_ _ rfl
   rw[P,p0,O];simp[fu,hb]
 intro D C acc H' s' N u y_ mP st;obtain⟨n,rfl,r,rfl⟩:=u;rw[aw,aw,fv] at st;have Ye:D≠C:=d! mP;have st:=st.drop (H':=upd Hb D (.list ((σ.g.ks.filter (λk=>σ.g.np k==0)).map AV.int))) (λa ao e=>by
  by_cases q:a=D
  ·subst q;rw[am] at e ⊢;exact e
  rw[aj q] at e ⊢;have:a≠C:=λq=>by(rw[q,n] at e;injection e)
  (refine aa (ci this) ?_;refine aa (aj this) ?_);exact e)
 have S2:=p.V5 (r:=σ.g.ks.filter λk=>σ.g.np k==0) U N;have xZ:=p.mono ((Sub.refl Hb).upd (o:=.list ((σ.g.ks.filter (λk=>σ.g.np k==0)).map AV.int)) N);refine aS ‹_› ‹_› L rfl rfl ?_
 refine lP hK d ‹_› xZ.inst xZ.attr (by kernel_rfl) (by exact bl rfl) λs st=>?_
 refine openK ‹_› ?_
 refine aL λK m=>?_
 refine dI (dX ?_);refine aS ‹_› ‹_› L rfl rfl ?_
 refine rx hK d ‹_› S2.inst S2.attr (f:=145) (by kernel_rfl) (by kernel_rfl) rfl (cw ?_);refine⟨jQ ‹_› ‹_› (by((refine aa hK ?_);exact J1 _)),?_⟩;refine GI (σ:={ σ with rd:=wf (σ.g.ks.filter λk=>σ.g.np k==0) }) (le:=c.bd::le) hK d (z) hh (by show A.frames.map _=_;(refine aa oW ?_);rfl) tC ‹_› S2 hz W oR ?_
 intro H3 s T st;refine cO ‹_› ‹_› L rfl λs st=>?_
 refine openK ‹_› ?_
 refine aL λK m=>?_
 refine eL (xM ?_);refine mZ ‹_› ‹_› L rfl rfl ?_
 refine qV (WM ?_);refine eC dE ?_
 refine bi (openK ‹_› ?_);refine bi (a_ _ _ st (λst=>h H3 (λb=>F b\/b=D) _ _ ?_ (S2.mono T) st));refine⟨λb ao hn e=>T.le _ _ ?_,λb q=>.inl q,λb q=>?_⟩
 ·rw[aj (by rintro rfl;exact hn S.fp.2.1),aj]
  ·exact j.le _ _ e
  intro q;(rw[<-q,j.le _ _ e] at N;injection N)
 obtain q|rfl:=q
 ·exact .inl q
 refine .inr ?_
 cases e:H b with
 |none=>rfl
 |some ao=>rw[j.le _ _ e] at N;injection N
end
section
variable{c:Cx}{R:af}{ρ:Str->Option AV}{H:af}{s:ae}{A:aD}{E:ab->ae->Prop}{Q:ab->ae->Prop}{t u:Tok}
noncomputable def lM(a b:Int):AO:=.obj λo=>∃t u v:Tok,o={ cls:=.type "range",data:=.fields #[.int a t,.int b u,.int 1 v] }
theorem Vn{n:Int}(ok:c.Ok)(st:St c R ρ H s)(h:∀r s',H r=iF->St c R ρ (upd H r (lM 0 n)) s'->Q (.ref r) s'):al c.M A (call (.type "range") [.int n t]) Q E s :=call_range_1 (h _ _ st.cV ((st.alloc ok (ao:=lM 0 n) (wJ s.toks t (s.toks+1) rfl) rfl).toks _))
theorem Vo{a b:Int}(ok:c.Ok)(st:St c R ρ H s)(h:∀r s',H r=iF->St c R ρ (upd H r (lM a b)) s'->Q (.ref r) s'):al c.M A (call (.type "range") [.int a t,.int b u]) Q E s :=call_range_2 (h _ _ st.cV ((st.alloc ok (ao:=lM a b) (wJ t u s.toks rfl) rfl).toks _))
theorem JQ{r:Addr}{a b:Int}(ok:c.Ok)(st:St c R ρ H s)(i:H r=wf (lM a b))(k:-(2^62)<=a)(f:a<2^62)(j:-(2^62)<=b)(d:b<2^62)(h:∀it s',H it=iF->R it=iF->St c (upd R it (lL a ((b-a).toNat:Nat) 0)) ρ H s'->Q (.ref it) s'):al c.M A (gY (.ref r)) Q E s:=by
 refine LU (st.get i) λo e t u v g=>?_
 obtain rfl:=g;refine wpAny_pyIter_range e (small_one k f j d) (h _ _ st.cV st.iR (uG ok st ?_ rfl));show(_:Obj)=_;rw[rangeSize_nat];simp
end
theorem intsAre_of:∀{vs:List ab} {ns:List Int},vs.map abs=ns.map AV.int->nx vs ns:=by
 intro l0;induction l0 with
 |nil =>
  intro m0;cases m0 with
  |nil =>intro _;exact .nil
  |cons _ _ =>intro h;injection h
 |cons v vs b =>
  intro m0;cases m0 with
  |nil =>intro h;injection h
  |cons n ns =>intro h;replace h:=bq▸h;replace h:=bq▸h;refine oA (sO h) λd c=>(oE (eM d) λt a=>?_);obtain rfl:=a;exact .cons n t (b c)
theorem vB:∀{vs:List ab} {ns:List Int},nx vs ns->vs.map abs=ns.map AV.int
 |_,_,.nil=>rfl
 |_,_,.cons n t h=>aa bq (aa bq (aa (vB h) rfl))
theorem JO{vs:List ab}{ns:List Int}(h:vs.map abs=ns.map AV.int):∃xs:Array (Int×Tok),vs.toArray=hX xs/\xs.toList.map (·.1)=ns:=by
 induction vs generalizing ns with
 |nil=>cases ns with
  |nil=>exact ar (#[]) (by simp[hX]) rfl
  |cons _ _=>injection h
 |cons v vs b=>cases ns with
  |nil=>injection h
  |cons n ns =>
   replace h:=bq▸h;replace h:=bq▸h;refine oA (sO h) λd c=>(oE (eM d) λt a=>?_);obtain rfl:=a;refine ak (b c) λxs e f=>(ar (((n,t)::xs.toList).toArray) ?_ ?_)
   ·apply Array.ext';have:=congrArg Array.toList e;simp[hX] at this ⊢;exact this
   exact congrArg _ ‹_›
section
variable{c:Cx}{R:af}{ρ:Str->Option AV}{H:af}{s:ae}{A:aD}{E:ab->ae->Prop}{Q:ab->ae->Prop}{t u:Tok}{l:Addr}{ns ms:List Int}
theorem Wx(g:A.handled=iF)(st:St c R ρ H s)(d:b9 c H l (ns.map AV.int))(h:∀t s',St c R ρ H s'->Q (.int ns.sum t) s'):al c.M A (call (.builtin "sum") [.ref l]) Q E s:=by
 refine ak (st.list d) λvs a e=>(ak (JO e) λxs j i=>?_);rw[j] at a;refine sum_intListG g a λh' tk b f=>?_
 have:=h b _ (st.keeps (tk:=tk) f);rw[preSum_eq,List.take_of_length_le (by simp),i];exact this
theorem K0(f:A.handled=iF)(st:St c R ρ H s)(d:b9 c H l (ns.map AV.int))(b:0<ns.length)(h:∀M t s',M∈ns->(∀a∈ns,a<=M)->St c R ρ H s'->Q (.int M t) s'):al c.M A (call (.builtin "max") [.ref l]) Q E s:=by refine ak (st.list d) λvs g e=>(ak st.oF λm F k=>?_);exact max_list_N f F st.news g (intsAre_of e) b λh' M t tk o n j i=>h M t _ j i (k o n)
noncomputable def rg(x:Int):ab->Bool
 |.int a _=>a==x
 |_=>false
theorem any_ints{x:Int}{vs:List ab}{ns:List Int}(b:nx vs ns):vs.toArray.any (rg x)=ns.contains x:=by
 refine aa List.any_toArray ?_
 induction b with
 |nil=>rfl
 |cons n t h a =>
  refine aa List.any_cons ?_;refine aa a ?_;refine aa List.contains_cons ?_
  congr 1;show(n==x)=(x==n);rw[wQ,beq_iff_eq,beq_iff_eq];exact eq_comm
theorem zM{y:ab}{vs:List ab}{ns:List Int}(b:nx vs ns)(h:y∈vs):∃n t,y=.int n t:=by
 induction b with
 |nil=>cases h
 |cons n t _ a =>
  obtain rfl|q:=aW.mp h
  ·exact dT n t rfl
  exact a q
theorem kt{a b:Addr}(st:St c R ρ H s)(i:b9 c H a (ns.map AV.int))(g:b9 c H b (ms.map AV.int))(f:A.units+64<cLine)(h:Q (.bool (!decide (ns=ms))) s):al c.M A (fy .NotEq (.ref a) (.ref b)) Q E s:=by refine ak (st.list i) λvs j e=>(ak (st.list g) λus d k=>?_);exact ke_ne_ints j d (intsAre_of e) (intsAre_of k) f h
theorem qO{a b:Addr}(st:St c R ρ H s)(i:b9 c H a (ns.map AV.int))(g:b9 c H b (ms.map AV.int))(f:A.units+64<cLine)(h:Q (.bool (decide (ns=ms))) s):al c.M A (fy .Eq (.ref a) (.ref b)) Q E s:=by refine ak (st.list i) λvs j e=>(ak (st.list g) λus d k=>?_);exact ke_eq_ints j d (intsAre_of e) (intsAre_of k) f h
noncomputable def sd(vl vu vk:ab):AO:=.obj λo=>o={ cls:=.type "slice",data:=.fields #[vl,vu,vk] }
theorem V'{b a step:Option Expr}{p:Pos}{env:Env}(ok:c.Ok)(h:al c.M A (tn b env) (λm f=>al c.M A (tn a env) (λl e=>al c.M A (tn step env) (λn d=>∃R ρ H,St c R ρ H d /\
   (∀sl s',H sl=iF->St c R ρ (upd H sl (sd m l n)) s'->Q (.ref sl) s')) E e) E f) E s):al c.M A (eval (.Slice b a step p) env) Q E s:=by
 refine wpAny_Slice (bx h (λm f h₁=>bx h₁ (λl e j=>bx j (λn d i=>?_) λg g x=>x) λg g x=>x) λg g x=>x);refine pg i λR ρ H st k=>?_
 exact k _ _ st.cV (st.alloc ok (ao:=sd m l n) rfl rfl)
theorem V!{a slice:Expr}{sl:Addr}{j i k:ab}{lo hi stp:Option Int}{f:List ab}{xs:List AV}{zs:List AV}(ok:c.Ok)(st:St c R ρ H s)(r:b9 c H l xs)(hs:H sl=wf (sd j i k))(pl:IsPart j lo)(p:IsPart i hi)(q:IsPart k stp)(t:stp≠wf 0)(hz:xs.length<=cB)(g:∀vs:List ab,vs.map abs=xs->(ql vs.toArray lo hi stp).toList.map abs=zs)(h:∀D s',H D=iF->St c R ρ (upd H D (.list zs)) s'->Q (.ref D) s')(b:gZ slice false (.ref l) (.ref sl)=gX f (gV (.ref l) (.ref sl))):al c.M A (tu a slice (.ref l) (.ref sl)) Q E s:=by
 refine ak (st.list r) λvs m e=>(ak (st.get hs) λo u n=>?_);obtain rfl:=n;have d:vs.length=xs.length:=by rw[<-e,aw]
 refine qm m.typeIs xJ.lookup (wpAny_getItem_list_slice m (aR _ u rfl rfl) pl p q t (h _ _ st.cV ?_) (aa dh (aa d hz))) b;exact st.alloc ok (ao:=.list zs) (a_ ((ql vs.toArray lo hi stp).toList) 0 rfl (g vs e)) rfl
end
abbrev g9:=AO.lam
theorem rf:∀{vs:List ab} {ns:List Int},nx vs ns->∀i (b:i<vs.length) (a:i<ns.length),∃t,vs[i]=.int ns[i] t
 |_,_,.cons n t h,0,_,_=>⟨t,rfl⟩
 |_,_,.cons n t h,i+1,b,a=>by obtain⟨u,e⟩:=rf h i (by simpa using b) (by simpa using a);exact⟨u,by assumption⟩
section
variable{c:Cx}{R:af}{ρ:Str->Option AV}{H:af}{s:ae}{A:aD}{E:ab->ae->Prop}{Q:ab->ae->Prop}{l b:Addr}{ns ms:List Int}{t u:Tok}{env:Env}
theorem uY{x:Int}(st:St c R ρ H s)(g:b9 c H l (ns.map AV.int))(h:Q (.bool (ns.contains x)) s):al c.M A (fy .In (.int x t) (.ref l)) Q E s:=by
 refine ak (st.list g) λvs i e=>?_
 have a:=intsAre_of e;refine PySem.SeqInW.in_listW (rg x) (λy f=>?_) i (aa (any_ints a) h);refine fM (zM a (y:=y) (by simpa using f)) λn d b=>?_
 obtain rfl:=b;exact PySem.MeetsSeq.EqGives.int n x d t
theorem St.Lw(ok:c.Ok)(st:St c R ρ H s):∃m,Fr c.h₀ c.L s.heap m/\∀{h':Heap} {tk:Nat} {o:Obj} {ao:AO},ao.Is o->ao.links=[]->Fr c.h₀ c.L h' m->News c.h₀ c.L h' ((s.heap.objs.size,o)::st.nw)->St c R ρ (upd H s.heap.objs.size ao) { s with heap:=h',toks:=tk }:=by refine ak st.oF λm F k=>(ar m F (λ{h' tk o ao} hi d e b=>?_));have a:=k (tk:=tk) e (λp hp=>b p (.tail _ hp));have z:=b _ (.head _);exact st.grow a z.1 z.2.1 z.2.2 (st.lR ok) st.iR hi (st.tH (bD _)) (λp hp=>(b p (.tail _ hp)).1) d
theorem x?{xs ys:List AV}(ok:c.Ok)(st:St c R ρ H s)(d:b9 c H l xs)(f:b9 c H b ys)(hz:xs.length+ys.length<=cB)(h:∀D s',H D=iF->St c R ρ (upd H D (.list (xs++ys))) s'->Q (.ref D) s') :
  al c.M A (mf .Add (.ref l) (.ref b)) Q E s:=by
 refine ak (st.list d) λvs i e=>(ak (st.list f) λus g a=>?_);refine ak (st.Lw ok) λm F k=>?_
 have n:vs.length=xs.length:=by rw[<-e,aw]
 have j:us.length=ys.length:=by rw[<-a,aw]
 refine add_lists F st.news i g (λh' p o=>h _ _ st.cV (k (tk:=s.toks) (a_ (vs++us) 0 rfl (aa bf (aa e (aa a rfl)))) rfl p o)) (aa n (aa j hz))
theorem V3{k:Int}{xs:List AV}{v:ab}{Q:Unit->ae->Prop}(st:St c R ρ H s)(d:H l=wf (.list xs))(j:0<=k)(f:k<xs.length)(hz:xs.length<=cB)(h:∀s',St c R ρ (upd H l (.list (xs.set k.toNat (abs v)))) s'->Q () s') :
  al c.M A (setItem (.ref l) (.int k t) v) Q E s:=by
 refine bJ (st.get d) λo b vs n g e=>?_
 obtain rfl:=g;have i:vs.length=xs.length:=by rw[<-e,aw]
 rw[bW] at hz;refine ki_setAt b j (Qh f hz) (aa dh (Qi f i)) (h _ ?_);have q:=PySem.IsL.update (b) λa=>a.setIfInBounds k.toNat v;exact st.set (tk:=s.toks) d (l6 ..) q (a_ (vs.set k.toNat v) _ (by rw[List.setIfInBounds_toArray]) (by(refine aa xj ?_;exact aa e rfl)))
end
inductive DV where
 |none
 |bool (b:Bool)
 |int (i:Int)
 |list (xs:List DV)
 |tuple (xs:List DV)
 |eg (a b:Int)
 |dict (es:List (Int×Int))
def qu(h₀:Heap)(H:af)(a:Addr)(xs:List AV):Prop:=H a=wf (.list xs)\/∃vs:List ab,h₀.IsList a vs.toArray/\vs.map abs=xs
inductive Rep(h:Heap)(H:af):AV->DV->Prop
 |none:Rep h H .none .none
 |bool (b:Bool):Rep h H (.bool b) (.bool b)
 |int (i:Int):Rep h H (.int i) (.int i)
 |list {a:Addr} {vs:List AV} {ds:List DV}:qu h H a vs->vs.length=ds.length->(∀(i:Nat) v d,vs[i]?=wf v->ds[i]?=wf d->Rep h H v d)->Rep h H (.ref a) (.list ds)
 |tuple {a:Addr} {vs:List AV} {ds:List DV}:H a=wf (.tuple vs)->vs.length=ds.length->(∀(i:Nat) v d,vs[i]?=wf v->ds[i]?=wf d->Rep h H v d)->Rep h H (.ref a) (.tuple ds)
 |eg {a:Addr} {x y:Int}:H a=wf (lM x y)->Rep h H (.ref a) (.eg x y)
 |dict {a:Addr} {es:List (Int×Int)} {ep:Nat}:H a=wf (.dict (es.map λp=>(p.1,AV.int p.2)) ep)->Rep h H (.ref a) (.dict es)
structure aJ(h:Heap)(H:af)(vs:List AV)(ds:List DV):Prop where
 length:vs.length=ds.length
 at':∀(i:Nat) v d,vs[i]?=wf v->ds[i]?=wf d->Rep h H v d
theorem Rep.mono{h:Heap}{H H':af}(s:Sub H H'){v:AV}{d:DV}(r:Rep h H v d):Rep h H' v d:=by
 induction r with
 |none=>exact .none
 |bool b=>exact .bool b
 |int i=>exact .int i
 |list x l _ a=>exact .list (x.imp (s.le _ _) id) l a
 |tuple x l _ a=>exact .tuple (s.le _ _ x) l a
 |eg x=>exact .eg (s.le _ _ x)
 |dict x=>exact .dict (s.le _ _ x)
theorem aJ.mono{h:Heap}{H H':af}(s:Sub H H'){vs:List AV}{ds:List DV}(r:aJ h H vs ds):aJ h H' vs ds:=⟨r.length,λi v d a b=>(r.at' i v d a b).mono s⟩
section
variable{h:Heap}{H:af}{vs us:List AV}{ds es:List DV}{v:AV}{d:DV}{a:Addr}
theorem Rep.lst(x:qu h H a vs)(r:aJ h H vs ds):Rep h H (.ref a) (.list ds):=.list x r.length r.at'
theorem Rep.pP(x:H a=wf (.tuple vs))(r:aJ h H vs ds):Rep h H (.ref a) (.tuple ds):=.tuple x r.length r.at'
theorem aJ.nil:aJ h H [] []:=⟨rfl,λa a a e=>(by injection e)⟩
theorem aJ.cons(x:Rep h H v d)(r:aJ h H vs ds):aJ h H (v::vs) (d::ds):=⟨congrArg (·+1) r.length,λi u e h1 h2=>by
 cases i with
 |zero=>(replace h1:=ax h1;subst h1);(replace h2:=ax h2;subst h2);exact x
 |succ i=>exact r.at' i u e h1 h2⟩
theorem aJ.head(r:aJ h H (v::vs) (d::ds)):Rep h H v d:=r.at' 0 v d rfl rfl
theorem aJ.tail(r:aJ h H (v::vs) (d::ds)):aJ h H vs ds:=⟨qa r.length,λi u e b a=>r.at' (i+1) u e b a⟩
theorem aJ.get(r:aJ h H vs ds){i:Nat}{d:DV}(a:ds[i]?=wf d):∃v,vs[i]?=wf v/\Rep h H v d:=by
 refine oE (dG.mp a) λhi b=>?_
 rw[<-r.length] at hi;exact ar (vs[i]) (cz hi) (r.at' i _ d (cz hi) a)
theorem aJ.append(r:aJ h H vs ds)(q:aJ h H us es):aJ h H (vs++us) (ds++es):=⟨aa cA (aa cA (aa r.length (aa q.length rfl))),λi u e h1 h2=>by
 by_cases hi:i<vs.length
 ·replace h1:=(p5 hi)▸h1;replace h2:=(p5 (r.length▸hi))▸h2;exact r.at' i u e h1 h2
 have hi:=p? hi
 rw[l! hi] at h1;rw[l! (r.length▸hi),<-r.length] at h2;exact q.at' _ u e h1 h2⟩
theorem aJ.take(n:Nat)(r:aJ h H vs ds):aJ h H (vs.take n) (ds.take n):=⟨aa je (aa je (aa r.length rfl)),λi u e h1 h2=>by
 rw[List.getElem?_take] at h1 h2;split at h1
 ·rename_i hi;rw[FB hi] at h2;exact r.at' i u e h1 h2
 injection h1⟩
theorem aJ.drop(n:Nat)(r:aJ h H vs ds):aJ h H (vs.drop n) (ds.drop n):=⟨aa Eg (aa Eg (aa r.length rfl)),λi u e b a=>by rw[List.getElem?_drop] at b a;exact r.at' _ u e b a⟩
theorem aJ.ints(ns:List Int):aJ h H (ns.map AV.int) (ns.map DV.int):=⟨by rw[aw,aw],λi u e a h2=>by
 rw[bp] at a h2;refine ak (bu.mp a) λn c b=>?_
 obtain rfl:=b;replace h2:=c▸h2;replace h2:=ax h2;subst h2;exact .int n⟩
theorem aJ.m6{ns:List Int}(r:aJ h H vs (ns.map DV.int)):vs=ns.map AV.int:=by
 refine List.ext_getElem? λi=>?_
 have b:=r.length;rw[aw] at b;refine aa bp ?_
 by_cases hi:i<vs.length
 ·have a:i<ns.length:=b▸hi;have:=r.at' i vs[i] (.int ns[i]) (cz hi) (by(refine aa bp ?_;refine aa (cz a) ?_);rfl);refine aa (cz hi) ?_;refine aa (cz a) ?_
  generalize vs[i]=w at this;cases this;rfl
 have a:¬i<ns.length:=b▸hi;(refine aa (sV (p? hi)) ?_;refine aa (sV (p? a)) ?_);rfl
theorem aJ.one{ws:List ab}(r:aJ h H (ws.map abs) [d]):∃w,ws=[w]/\Rep h H (abs w) d:=by
 have a:=r.length;rw[aw] at a;refine oE (Eh.mp a) λw b=>?_
 obtain rfl:=b;exact ar w rfl r.head
theorem aJ.two{ws:List ab}{d':DV}(r:aJ h H (ws.map abs) [d,d']):∃w a,ws=[w,a]/\Rep h H (abs w) d/\Rep h H (abs a) d':=by
 have b:=r.length;rw[aw] at b;cases ws with
 |nil=>injection b
 |cons w ws =>
  refine ak (aJ.one (ws:=ws) r.tail) λa c h'=>?_
  obtain rfl:=c;exact cj w a rfl r.head h'
end
section
variable{c:Cx}{R:af}{ρ:Str->Option AV}{H:af}{s:ae}
theorem St.EV(st:St c R ρ H s){a:Addr}(h:H a≠iF):a<s.heap.objs.size:=by
 refine cE (x:=H a) (λe=>?_) (λx e=>?_)
 ·exact GM e h
 exact st.lt e
theorem St.E6(st:St c R ρ H s){a:Addr}(h:R a≠iF):a<s.heap.objs.size:=by
 refine cE (x:=R a) (λe=>?_) (λx e=>?_)
 ·exact GM e h
 obtain⟨o,b,_⟩:=st.bP a x e;exact cZ b
end
noncomputable def gL(x:Str):Bool:=!(x==("__debug__":Str)) && !(x==("__classdict__":Str))
noncomputable def bk(c:Cx)(env:Env)(ah:Str->Option AV)(R:af)(x:Str):Option AV :=
 match env.kindOf x with
 |some .local=>if env.locals=c.L then ah x else match R env.locals with|some (.ns r)=>r x|_=>iF
 |some .cell|some .free=>match env.cells.lookup x with|some a=>(match R a with|some (.cell v)=>v|_=>iF)|none=>iF
 |_=>iF
noncomputable def dn(c:Cx)(env:Env)(x:Str):Option Addr :=
 match env.kindOf x with
 |some .local=>if env.locals=c.L then iF else wf env.locals
 |some .cell=>env.cells.lookup x
 |_=>iF
structure fb(c:Cx)(env:Env)(R:af)(x:Str):Prop where
 kind:env.kindOf x=wf .local\/env.kindOf x=wf .cell
 loc:env.kindOf x=wf .local->env.locals≠c.L->∃r,R env.locals=wf (.ns r)
 cell:env.kindOf x=wf .cell->∃a v,env.cells.lookup x=wf a/\R a=wf (.cell v)
structure c6(R R':af):Prop where
 ns:∀b r,R b=wf (.ns r)->∃r',R' b=wf (.ns r')
 cell:∀b v,R b=wf (.cell v)->∃v',R' b=wf (.cell v')
theorem c6.refl(R:af):c6 R R:=⟨λa r e=>⟨r,e⟩,λa v e=>⟨v,e⟩⟩
theorem c6.gK{R R':af}(s:Sub R R'):c6 R R':=⟨λa r e=>⟨r,s.le _ _ e⟩,λa v e=>⟨v,s.le _ _ e⟩⟩
theorem c6.trans{R R' h9:af}(x:c6 R R')(y:c6 R' h9):c6 R h9:=⟨λb r e=>let⟨_,e'⟩:=x.ns b r e;y.ns b _ e',λb v e=>let⟨_,e'⟩:=x.cell b v e;y.cell b _ e'⟩
section
variable{c:Cx}{R:af}{ah:Str->Option AV}{H:af}{s:ae}{A:aD}{E:ab->ae->Prop}{env:Env}{x:Str}{pos:Pos}{av:AV}{a:Addr}{v:ab}
theorem St.vp{r}(st:St c R ah H s)(b:R a=wf (.ns r)):∃m,s.heap.Ns a m/\∀x av,r x=wf av->∃v,m x=wf v/\abs v=av:=by
 refine vA (st.dk b) λo e es ep g f d=>?_
 exact ar (nsFind es) (pR o es ep e g f (λh=>rfl)) d
theorem St.yi{w}(st:St c R ah H s)(d:R a=wf (.cell w)):∃b,s.heap.IsCell a b/\b.map abs=w:=by
 refine il (st.dk d) λo e b g f=>?_
 exact ar b (ar o e g) f
theorem KL{Q:ab->ae->Prop}(st:St c R ah H s)(hk:env.scope.kind=.function)(hn:gL x=true)(hx:bk c env ah R x=wf av)(h:∀v,abs v=av->Q v s) :
  al c.M A (loadName env x) Q E s:=by
 unfold gL at hn;rw[f_,pS,pS] at hn;have yh:∀{a':Addr},env.cells.lookup x=wf a'->(match R a' with|some (.cell v)=>v|_=>iF)=wf av->∃v',s.heap.IsCell a' (wf v')/\abs v'=av:=by
  intro a' _ hx;split at hx
  ·rename_i w e;subst hx;refine ak (st.yi e) λv' h1 h2=>?_
   cases v' with
   |none=>injection h2
   |some v'=>exact ar v' h1 (ax h2)
  injection hx
 unfold bk at hx;split at hx
 ·rename_i jA;split at hx
  ·rename_i hL;refine ak st.fr λm F r=>(ak (r x av hx) λv h1 h2=>?_);exact n7 hk jA (hL▸F.ns) h1 (h v h2)
  split at hx
  ·rename_i r e;refine ak (st.vp e) λm uJ hr=>(ak (hr x av hx) λv h1 h2=>?_);exact n7 hk jA uJ h1 (h v h2)
  injection hx
 ·rename_i jA;split at hx
  ·rename_i a' e;refine ak (yh e hx) λv' h1 h2=>?_
   exact wpAny_loadName_cell hk jA e h1 (h v' h2)
  injection hx
 ·rename_i jA;split at hx
  ·rename_i a' e;refine ak (yh e hx) λv' h1 h2=>?_
   exact EL hk jA e h1 (h v' h2) hn.2
  injection hx
 injection hx
theorem ik{Q:ab->ae->Prop}(st:St c R ah H s)(d:env.scope.kind=.function)(a:gL x=true)(b:bk c env ah R x=wf av)(h:∀v,abs v=av->Q v s) :
  al c.M A (eval (.Name x pos) env) Q E s :=
 nY (KL st d a b h) (by unfold gL at a;rw[f_,pS] at a;exact a.1)
theorem wn{Q:Unit->ae->Prop}(st:St c R ah H s)(J:env.scope.kind=.function)(F:∀x y a,env.cells.lookup x=wf a->env.cells.lookup y=wf a->x=y)(sl:fb c env R x)(h:∀f R' s',St c R' f H s'->bk c env f R' x=wf (abs v)->(∀y,y≠x->bk c env f R' y=bk c env ah R y)->(∀b,dn c env x≠wf b->R' b=R b)->(∀y,fb c env R y->fb c env R' y)->(env.locals≠c.L->f=ah) ->c6 R R'->Q () s'):al c.M A (ml env x v) Q E s:=by
 by_cases d:env.kindOf x=wf .local
 ·by_cases j:env.locals=c.L
  ·refine CZ st (λs' D=>h _ R s' D ?_ (λy B=>?_) (λp p=>rfl) (λp q=>q) (λq=>GM j q) (c6.refl R)) j J d
   ·unfold bk;rw[d];dsimp only;rw[FB j,lI]
   unfold bk;rw[FB j,pE B,FB j]
  obtain⟨r,i⟩:=sl.loc d j;obtain⟨m,G,X⟩:=st.vp i;refine xN d G (λh' I hs=>?_) (by rw[J];rfl);obtain⟨o,es,ep,U,T,e3,Z⟩:=I;refine h ah (upd R env.locals (.ns (put r x (abs v)))) _ (st.lQ i hs U ⟨es,ep,T,e3,λy av e=>?_⟩) ?_ (λy B=>?_) (λb P=>?_) (λy t=>⟨t.kind,λp p=>⟨_,am ..⟩,λq=>?_⟩) (λp=>rfl) ⟨λb r' e=>?_,λb w e=>⟨w,?_⟩⟩
  ·rw[Z];by_cases q:y=x
   ·subst q;rw[lI] at e;cases e;exact⟨v,FB rfl,rfl⟩
   rw[pE q] at e;obtain⟨u,S,V⟩:=X y av e;exact⟨u,by simp[q,S],V⟩
  ·unfold bk;rw[d];dsimp only;rw[Da j,am];exact lI ..
  ·unfold bk;rw[Da j,Da j,am,i];dsimp only;rw[pE B];have O:∀g,(match upd R env.locals (.ns (put r x (abs v))) g with|some (.cell v)=>v|_=>iF)=(match R g with|some (.cell v)=>v|_=>iF):=λg=>by
    by_cases q:g=env.locals
    ·rw[q,am,i]
    rw[aj q]
   simp only[O]
  ·refine aj λq=>P ?_
   unfold dn;rw[d];dsimp only;rw[Da j,q]
  ·obtain⟨g,w,z,n⟩:=t.cell q;exact⟨g,w,z,by rw[aj (λq=>by rw[q,i] at n;cases n)];exact n⟩
  ·by_cases q:b=env.locals
   ·exact⟨_,by rw[q,am]⟩
   exact⟨r',by rw[aj q];exact e⟩
  rw[aj (λq=>by rw[q,i] at e;cases e)];exact e
 have k:env.kindOf x=wf .cell:=sl.kind.resolve_left d;obtain⟨g,w,l,C⟩:=sl.cell k;obtain⟨v',S,V⟩:=st.yi C;refine wpAny_storeName_cell J k l S λh' N hs=>?_
 obtain⟨o,U,T⟩:=N;refine h ah (upd R g (.cell (wf (abs v)))) _ (st.lQ (tk:=s.toks) C hs U ⟨_,T,rfl⟩) ?_ (λy B=>?_) (λb P=>?_) (λy t=>⟨t.kind,λz n=>?_,λq=>?_⟩) (λp=>rfl) ⟨λb r e=>⟨r,?_⟩,λb ao e=>?_⟩
 ·unfold bk;rw[k];dsimp only;rw[l];dsimp only;rw[am]
 ·unfold bk;have Y:(match upd R g (.cell (wf (abs v))) env.locals with|some (.ns r)=>r y|_=>iF)=(match R env.locals with|some (.ns r)=>r y|_=>iF):=by
   by_cases q:env.locals=g
   ·rw[q,am,C]
   rw[aj q]
  have O:∀b,env.cells.lookup y=wf b->(match upd R g (.cell (wf (abs v))) b with|some (.cell v)=>v|_=>iF)=(match R b with|some (.cell v)=>v|_=>iF):=λb e=>by rw[aj];rintro rfl;exact B (F y x _ e l)
  rw[Y];cases e:env.cells.lookup y with
  |none=>rfl
  |some b=>simp only[O b e]
 ·refine aj λq=>P ?_
  unfold dn;rw[k,q];exact l
 ·obtain⟨r,i⟩:=t.loc z n;exact⟨r,by rw[aj (λq=>by rw[q,C] at i;cases i)];exact i⟩
 ·obtain⟨b,W,z,n⟩:=t.cell q;by_cases e:b=g
  ·exact⟨b,wf (abs v),z,by rw[e,am]⟩
  exact⟨b,W,z,by rw[aj e];exact n⟩
 ·rw[aj (λq=>by rw[q,C] at e;cases e)];exact e
 by_cases q:b=g
 ·exact⟨_,by rw[q,am]⟩
 exact⟨ao,by rw[aj q];exact e⟩
end
structure Vx where
 G:Gx
 n:Nat
 T:List (Str×c5)
 P:Option (Addr×Str)
structure Pre(V:Vx)(c:Cx)(A:aD)(env:Env)(R:af):Prop where
 G:c.G=V.G
 ok:c.Ok
 rm:bL c A V.n
 fi:b8 R c.outer
 tab:env.scope.names=V.T
 fn:env.scope.kind=.function
 glob:env.globals=b7
 blt:env.builtins=qe
 nm:∀x k,V.T.lookup x=wf k->gL x=true
 inj:∀x y a,env.cells.lookup x=wf a->env.cells.lookup y=wf a->x=y
 cl:∀x,V.T.lookup x=wf .cell\/V.T.lookup x=wf .free->∃a v,env.cells.lookup x=wf a/\R a=wf (.cell v)
theorem b8.keep{R R':af}{l:List Env}(x:b8 R l)(k:c6 R R'):b8 R' l:=λenv a=>by refine fj (x env a) λf b r e d=>(oE (k.ns b r d) λr' c=>?_);exact lV f b r' e c
theorem Pre.keep{V:Vx}{c:Cx}{A:aD}{env:Env}{R R':af}(p:Pre V c A env R)(k:c6 R R'):Pre V c A env R' :=
 ⟨p.G,p.ok,p.rm,p.fi.keep k,p.tab,p.fn,p.glob,p.blt,p.nm,p.inj,λx b =>
   let⟨a,v,h1,h2⟩:=p.cl x b;let⟨v',h3⟩:=k.cell a v h2
   (a_ a v' h1 h3)⟩
def View(c:Cx)(env:Env)(ah:Str->Option AV)(R H:af)(ρ:Str->Option DV):Prop:=∀x d,ρ x=wf d->∃av,bk c env ah R x=wf av/\Rep c.h₀ H av d
theorem View.mono{c:Cx}{env:Env}{ah:Str->Option AV}{R H H':af}{ρ:Str->Option DV}(w:View c env ah R H ρ)(s:Sub H H'):View c env ah R H' ρ:=λx d e=>let⟨av,h1,h2⟩:=w x d e;⟨av,h1,h2.mono s⟩
structure Ev(V:Vx)(e:Expr)(ρ:Str->Option DV)(d:DV):Prop where
 run:∀{c:Cx} {A:aD} {env:Env} {R:af} {ah:Str->Option AV} {H:af} {s:ae} {Q:ab->ae->Prop} {E:ab->ae->Prop},Pre V c A env R->St c R ah H s->View c env ah R H ρ ->
  (∀v H' s',Sub H H'->Rep c.h₀ H' (abs v) d->St c R ah H' s'->Q v s')->al c.M A (eval e env) Q E s
structure aE(V:Vx)(e:Expr)(ρ:Str->Option DV)(ds:List DV):Prop where
 run:∀{c:Cx} {A:aD} {env:Env} {R:af} {ah:Str->Option AV} {H:af} {s:ae} {Q:ab->ae->Prop} {E:ab->ae->Prop},Pre V c A env R->St c R ah H s->View c env ah R H ρ ->
  (∀a vs H' s',Sub H H'->H' a=iF->aJ c.h₀ H' vs ds->St c R ah (upd H' a (.list vs)) s'->Q (.ref a) s')->al c.M A (eval e env) Q E s
structure bT(V:Vx)(e:Expr)(ρ:Str->Option DV)(b:Bool):Prop where
 run:∀{c:Cx} {A:aD} {env:Env} {R:af} {ah:Str->Option AV} {H:af} {s:ae} {Q:Bool->ae->Prop} {E:ab->ae->Prop},Pre V c A env R->St c R ah H s->View c env ah R H ρ ->
  (∀H' s',Sub H H'->St c R ah H' s'->Q b s')->al c.M A (isTrue e env (eval e env)) Q E s
def aZ(V:Vx):List Expr->(Str->Option DV)->List DV->Prop
 |[],_,ds=>ds=[]
 |e::r,ρ,ds=>∃d ds',Ev V e ρ d/\aZ V r ρ ds'/\ds=d::ds'
structure bg(G:Gx)(n:Nat)(f:ab)(ds:List DV)(d:DV):Prop where
 run:∀{c:Cx} {A:aD} {R:af} {ah:Str->Option AV} {H:af} {s:ae} {vs:List ab} {Q:ab->ae->Prop} {E:ab->ae->Prop},c.G=G->c.Ok->bL c A n->b8 R c.outer->St c R ah H s->aJ c.h₀ H (vs.map abs) ds ->
  (∀v H' s',Sub H H'->Rep c.h₀ H' (abs v) d->St c R ah H' s'->Q v s')->al c.M A (call f vs) Q E s
structure Glob(V:Vx)(x:Str)(f:ab):Prop where
 kind:V.T.lookup x=wf .globalImplicit
 val:(nsIn V.G.K b7 x=wf iF/\eH x=wf f/\x≠"__name__")\/nsIn V.G.K b7 x=wf (wf f)
 stays:match f with|.ref a=>dr V.G.K (.ref a)=true|.builtin _|.type _=>True|_=>False
section
variable{V:Vx}{ρ:Str->Option DV}{e a b:Expr}{d d₁ d₂:DV}{ds ds₁ t?:List DV}{i j:Int}{pos:Pos}{x:Str}{f:ab}
theorem aE.ev(h:aE V e ρ ds):Ev V e ρ (.list ds):=⟨λp st w k=>h.run p st w λa vs H' s' hs c d b =>k _ _ _ (hs.trans ((Sub.refl _).upd c)) (.lst (.inl (am ..)) (d.mono ((Sub.refl _).upd c))) b⟩
theorem Ev.int{k:Nat}:Ev V (.Constant (.int i) k pos) ρ (.int i):=⟨λp st w h=>cInt st λt s' a=>h _ _ s' (Sub.refl _) (.int i) a⟩
theorem Ev.yl{k:Nat}:Ev V (.Constant .none k pos) ρ .none:=⟨λp st w h=>g0 (h _ _ _ (Sub.refl _) .none st)⟩
theorem Ev.Gh{k:Nat}{b:Bool}:Ev V (.Constant (.bool b) k pos) ρ (.bool b):=⟨λp st w h=>EJ (h _ _ _ (Sub.refl _) (.bool b) st)⟩
theorem z?{c:Cx}{env:Env}{ah:Str->Option AV}{R:af}{av:AV}(h:bk c env ah R x=wf av):∃k,env.kindOf x=wf k:=by
 unfold bk at h;split at h
 ·exact⟨_,by assumption⟩
 ·exact⟨_,by assumption⟩
 ·exact⟨_,by assumption⟩
 injection h
theorem Pre.g!{c:Cx}{A:aD}{env:Env}{R:af}{ah:Str->Option AV}{av:AV}(p:Pre V c A env R)(h:bk c env ah R x=wf av):gL x=true:=by
 refine oE (z? h) λk a=>?_
 exact p.nm x k (az p.tab a)
theorem Ev.var(b:ρ x=wf d):Ev V (.Name x pos) ρ d:=⟨λp st w h=>by
 refine ak (w x d b) λav a e=>?_
 exact ik st p.fn (p.g! a) a λv c=>h v _ _ (Sub.refl _) (c▸e) st⟩
structure bB(op:Operator)(i j r:Int):Prop where
 run:∀{c:Cx} {A:aD} {R:af} {ah:Str->Option AV} {H:af} {s:ae} {t u:Tok} {Q:ab->ae->Prop} {E:ab->ae->Prop},St c R ah H s->(∀t s',St c R ah H s'->Q (.int r t) s')->al c.M A (mf op (.int i t) (.int j u)) Q E s
theorem bB.add:bB .Add i j (i+j):=⟨λst h=>tM st h⟩
theorem bB.sub:bB .Sub i j (i-j):=⟨λst h=>Wt st h⟩
theorem bB.mul(a:IntMulOk i j):bB .Mult i j (i*j):=⟨λst h=>La st a h⟩
theorem bB.mod(a:j≠0):bB .Mod i j (i.fmod j):=⟨λst h=>K? st a h⟩
theorem bB.div(a:j≠0)(hp:sC i j=false):bB .FloorDiv i j (i.fdiv j):=⟨λst h=>yw st a hp h⟩
theorem Rep.toInt{h:Heap}{H:af}{v:ab}(r:Rep h H (abs v) (.int i)):∃t,v=.int i t:=by generalize a:abs v=w at r;cases r;exact eM a
theorem Rep.toBool{h:Heap}{H:af}{v:ab}{b:Bool}(r:Rep h H (abs v) (.bool b)):v=.bool b:=by generalize a:abs v=w at r;cases r;exact E! a
theorem Rep.Dc{h:Heap}{H:af}{v:ab}(r:Rep h H (abs v) .none):v=.none:=by generalize a:abs v=w at r;cases r;exact x7 a
theorem Rep.toList{h:Heap}{H:af}{v:ab}(r:Rep h H (abs v) (.list ds)):∃l vs,v=.ref l/\qu h H l vs/\aJ h H vs ds:=by
 generalize a:abs v=w at r;cases r with
 |list y l r=>exact cj _ _ (ed a) y ⟨l,r⟩
theorem Rep.kG{h:Heap}{H:af}{v:ab}(r:Rep h H (abs v) (.tuple ds)):∃l vs,v=.ref l/\H l=wf (.tuple vs)/\aJ h H vs ds:=by
 generalize a:abs v=w at r;cases r with
 |tuple y l r=>exact cj _ _ (ed a) y ⟨l,r⟩
theorem Rep.WI{h:Heap}{H:af}{v:ab}(r:Rep h H (abs v) (.eg i j)):∃l,v=.ref l/\H l=wf (lM i j):=by
 generalize a:abs v=w at r;cases r with
 |eg y=>exact ar _ (ed a) y
theorem Rep.i?{h:Heap}{H:af}{v:ab}{ns:List Int}(r:Rep h H (abs v) (.list (ns.map DV.int))):∃l,v=.ref l/\qu h H l (ns.map AV.int):=by
 refine aV r.toList λl vs b a=>?_
 obtain rfl:=b;obtain⟨hs,c⟩:=a;exact ar l rfl (by(refine az c.m6 ?_);exact hs)
theorem Ev.op{op:Operator}{r:Int}(y:Ev V a ρ (.int i))(x:Ev V b ρ (.int j))(s:bB op i j r):Ev V (.BinOp a op b pos) ρ (.int r):=⟨λp st w h =>
 nX (y.run p st w λv q n c k e=>x.run p e (w.mono c) λu o m f g d=>by obtain⟨t,rfl⟩:=k.toInt;obtain⟨z,rfl⟩:=g.toInt;exact s.run d λt s' l=>h _ _ _ (c.trans f) (.int r) l)⟩
theorem Ev.neg(k:Ev V a ρ (.int i)):Ev V (.UnaryOp .USub a pos) ρ (.int (-i)):=⟨λp st w h =>
 UnaryOp_ (k.run p st w λv g f c d b=>by
  refine oE d.toInt λt j=>?_
  obtain rfl:=j;exact Az b λt s' e=>h _ _ _ c (.int _) e)⟩
structure a8(V:Vx)(op:CmpOp)(d₁ d₂:DV)(b:Bool):Prop where
 run:∀{c:Cx} {A:aD} {R:af} {ah:Str->Option AV} {H:af} {s:ae} {v u:ab} {Q:ab->ae->Prop} {E:ab->ae->Prop},c.G=V.G->c.Ok->bL c A V.n->St c R ah H s ->
 Rep c.h₀ H (abs v) d₁->Rep c.h₀ H (abs u) d₂->(∀s',St c R ah H s'->Q (.bool b) s')->al c.M A (fy op v u) Q E s
theorem a8.ints{op:CmpOp}{r:Bool}(h:∀{c:Cx} {A:aD} {s:ae} {t u:Tok} {Q:ab->ae->Prop} {E:ab->ae->Prop},Q (.bool r) s->al c.M A (fy op (.int i t) (.int j u)) Q E s):a8 V op (.int i) (.int j) r:=⟨λg ok e st b a k=>by obtain⟨t,rfl⟩:=b.toInt;obtain⟨d,rfl⟩:=a.toInt;exact h (k _ st)⟩
theorem a8.lb:a8 V .Eq (.int i) (.int j) (i==j):=a8.ints λh=>Internal.lb h
theorem a8.pd:a8 V .NotEq (.int i) (.int j) (i != j):=a8.ints λh=>Internal.pd h
theorem a8.ltI:a8 V .Lt (.int i) (.int j) (decide (i<j)):=a8.ints λh=>Internal.ltI h
theorem a8.u8:a8 V .LtE (.int i) (.int j) (decide (i<=j)):=a8.ints λh=>Internal.u8 h
theorem a8.oI:a8 V .Gt (.int i) (.int j) (decide (i>j)):=a8.ints λh=>Internal.oI h
theorem a8.ur:a8 V .GtE (.int i) (.int j) (decide (i≥j)):=a8.ints λh=>Internal.ur h
theorem a8.uY{ns:List Int}:a8 V .In (.int i) (.list (ns.map DV.int)) (ns.contains i):=⟨λg ok f st b a k=>by
 refine oE b.toInt λt d=>?_
 obtain rfl:=d;refine ak a.i? λl c e=>?_
 obtain rfl:=c;exact Internal.uY st e (k _ st)⟩
theorem a8.qO{ns ms:List Int}(h:4<=V.n):a8 V .Eq (.list (ns.map DV.int)) (.list (ms.map DV.int)) (decide (ns=ms)):=⟨λg ok f st b a k=>by
 refine ak b.i? λl e i=>?_
 obtain rfl:=e;refine ak a.i? λl' d c=>?_
 obtain rfl:=d;exact Internal.qO st i c (by have:=f.units;exact vQ h this) (k _ st)⟩
theorem a8.kt{ns ms:List Int}(h:4<=V.n):a8 V .NotEq (.list (ns.map DV.int)) (.list (ms.map DV.int)) (!decide (ns=ms)):=⟨λg ok f st b a k=>by
 refine ak b.i? λl e i=>?_
 obtain rfl:=e;refine ak a.i? λl' d c=>?_
 obtain rfl:=d;exact Internal.kt st i c (by have:=f.units;exact vQ h this) (k _ st)⟩
theorem bT.cmp{op:CmpOp}{r:Bool}(t:Ev V a ρ d₁)(s:Ev V b ρ d₂)(o:a8 V op d₁ d₂ r)(q:autoParam (behindInMarks op b=false) aU):bT V (.Compare a [op] [b] pos) ρ r:=⟨λp st w h =>er (t.run p st w λv n l d i f=>s.run p f (w.mono d) λu m k c g e=>o.run p.G p.ok p.rm e (i.mono c) g λs' j=>d_ (h _ _ (d.trans c) j)) q⟩
theorem aZ.args{c:Cx}{A:aD}{env:Env}{R:af}{ah:Str->Option AV}{E:ab->ae->Prop}(p:Pre V c A env R):∀{args:List Expr} {ds:List DV} {H:af} {s:ae} {Q:List ab->ae->Prop},aZ V args ρ ds->St c R ah H s->View c env ah R H ρ ->(∀vs H' s',Sub H H'->aJ c.h₀ H' (vs.map abs) ds->St c R ah H' s'->Q vs s')->ey c.M A E env args Q s:=by
 intro l0;induction l0 with
 |nil =>intro _ H s Q h st w k;subst h;exact k [] H s (Sub.refl _) .nil st
 |cons e r t =>
  intro _ H s Q h st w k;refine dP h λd ds' x u q=>?_
  obtain rfl:=q;exact x.run p st w λv o n b l g=>t u g (w.mono b) λvs m i a j f=>k (v::vs) m i (b.trans a) (.cons (l.mono a) j) f
theorem aZ.nil:aZ V [] ρ []:=rfl
theorem aZ.cons{r:List Expr}(h:Ev V e ρ d)(a:aZ V r ρ ds):aZ V (e::r) ρ (d::ds):=⟨d,ds,h,a,rfl⟩
theorem aZ.one(h:Ev V e ρ d):aZ V [e] ρ [d]:=⟨d,[],h,rfl,rfl⟩
theorem aZ.two(h:Ev V a ρ d₁)(h':Ev V b ρ d₂):aZ V [a,b] ρ [d₁,d₂]:=.cons h (.one h')
abbrev Plain(args:List Expr):Prop:=∀env,ck args env=args.map (λe=>(false,eval e env))
theorem Glob.name{c:Cx}{A:aD}{env:Env}{R:af}{ah:Str->Option AV}{H:af}{s:ae}{E:ab->ae->Prop}{Q:ab->ae->Prop}(g:Glob V x f)(p:Pre V c A env R)(st:St c R ah H s)(h:Q f s):al c.M A (eval (.Name x pos) env) Q E s:=by
 have d:env.kindOf x=wf .globalImplicit:=by have:=g.kind;rw[<-p.tab] at this;exact this
 have a:=p.nm x _ g.kind;unfold gL at a;rw[f_,pS,pS] at a;refine cg g.val (λe=>a! e λb j i=>?_) (λb=>?_)
 ·exact vg p.ok st (aa p.G b) j i h p.glob p.blt p.fn d a.1
 exact As p.ok st (by(refine aa p.G ?_);exact b) h p.glob p.fn d a.1
theorem Glob.i7{c:Cx}{A:aD}{env:Env}{R:af}{ah:Str->Option AV}{H:af}{s:ae}(g:Glob V x f)(p:Pre V c A env R)(st:St c R ah H s):j_ c f s.heap:=by
 have:=g.stays;cases f with
 |ref a=>exact jQ p.ok st (by(refine aa p.G ?_);exact this)
 |builtin _=>trivial
 |type _=>trivial
 |_=>exact this.elim
theorem ow{c:Cx}{A:aD}{env:Env}{R:af}{ah:Str->Option AV}{H:af}{s:ae}{E:ab->ae->Prop}{Q:ab->ae->Prop}{args:List Expr}{np:Pos}(g:Glob V x f)(hp:Plain args)(d:aZ V args ρ ds)(p:Pre V c A env R)(st:St c R ah H s)(w:View c env ah R H ρ)(h:∀vs H' s',Sub H H'->aJ c.h₀ H' (vs.map abs) ds->St c R ah H' s'->al c.M A (call f vs) Q E s'):al c.M A (eval (.Call (.Name x np) args [] pos) env) Q E s :=
 eU (g.name p st (cw (d.args p st w λvs H' s' hs b a=>⟨g.i7 p a,h vs H' s' hs b a⟩) (hp env)))
theorem Ev.call{args:List Expr}{np:Pos}(g:Glob V x f)(k:aZ V args ρ ds)(j:bg V.G V.n f ds d)(hp:autoParam (Plain args) aU):Ev V (.Call (.Name x np) args [] pos) ρ d:=⟨λp st w h =>ow g hp k p st w λvs H' s' hs i a=>j.run p.G p.ok p.rm p.fi a i λv e b c=>h v e b (hs.trans c)⟩
theorem aE.dY{elts:List Expr}(h:aZ V elts ρ ds)(hz:ds.length<=1000)(hp:autoParam (Plain elts) aU):aE V (.List elts pos) ρ ds:=⟨λp st w k =>listE (h.args p st w λvs H' s' hs d c=>iV p.ok c (by have:=d.length;rw[aw] at this;(refine aa bW ?_);exact Bn hz this) λa e f b=>k a _ _ _ hs f d b) (hp _)⟩
theorem Ev.tup{elts:List Expr}{k:Nat}(h:aZ V elts ρ ds)(hz:ds.length<=1000)(hp:autoParam (Plain elts) aU):Ev V (.Tuple elts k pos) ρ (.tuple ds):=⟨λp st w k =>
 WO (h.args p st w λvs H' s' hs d c=>Ly p.ok c (by have:=d.length;rw[aw] at this;(refine aa bW ?_);exact Bn hz this) λa f e b =>k _ _ _ (hs.trans ((Sub.refl _).upd e)) (.pP (am ..) (d.mono ((Sub.refl _).upd e))) b) (hp _)⟩
theorem aE.iL(E:Ev V a ρ (.list ds₁))(C:Ev V b ρ (.list t?))(hz:ds₁.length+t?.length<=2^24):aE V (.BinOp a .Add b pos) ρ (ds₁++t?):=⟨λp st w h =>
 nX (E.run p st w λv s q d i f=>C.run p f (w.mono d) λu k o c g e=>by
  refine aV i.toList λl vs z x=>?_
  obtain rfl:=z;obtain⟨B,r⟩:=x;refine aV g.toList λl' us y t=>?_
  obtain rfl:=y;obtain⟨n,j⟩:=t;refine x? p.ok e (B.imp (c.le _ _) id) n (by(refine aa r.length ?_;refine aa j.length ?_;refine aa bW ?_);exact hz) λD s' A m=>h D _ k s' (d.trans c) A ((r.mono c).append j) m)⟩
theorem Ev.idx(D:Ev V a ρ (.list ds))(C:Ev V b ρ (.int i))(G:0<=i)(B:ds[i.toNat]?=wf d)(hi:i<2^62)(hs:autoParam (∀l t,gZ b false (.ref l) (.int i t)=gX [.ref l,.int i t] (gV (.ref l) (.int i t))) aU):Ev V (.Subscript a b pos) ρ d:=⟨λp st w h =>
 jg (D.run p st w λv q n f k g=>C.run p g (w.mono f) λu o m c j e=>by
  refine aV k.toList λl vs x r=>?_
  obtain rfl:=x;obtain⟨A,z⟩:=r;refine oE j.toInt λt s=>?_
  obtain rfl:=s;refine ak ((z.mono c).get B) λav F E=>?_
  exact uX e (A.imp (c.le _ _) id) G F (Qg hi) (λv y=>h v _ _ (f.trans c) (y▸E) e) (hs l t))⟩
end
inductive fC:Expr->DV->List (Str×DV)->Prop
 |name (x:Str) (p:Pos) (d:DV):fC (.Name x p) d [(x,d)]
 |pair (x y:Str) (p q r:Pos) (k:Nat) (d e:DV):fC (.Tuple [.Name x p,.Name y q] k r) (.tuple [d,e]) [(x,d),(y,e)]
noncomputable def dg(ρ:Str->Option DV):List (Str×DV)->Str->Option DV
 |[]=>ρ
 |(x,d)::r=>dg (λy=>if y=x then wf d else ρ y) r
section
variable{c:Cx}{R:af}{ah:Str->Option AV}{H:af}{s:ae}{A:aD}{E:ab->ae->Prop}{env:Env}{ρ:Str->Option DV}
structure mC(c:Cx)(env:Env)(xs:List Str)(ah XS:Str->Option AV)(R R':af):Prop where
 same:∀b,(∀x∈xs,dn c env x≠wf b)->R' b=R b
 keep:c6 R R'
 slot:∀y,fb c env R y->fb c env R' y
 loc:env.locals≠c.L->XS=ah
theorem mC.cons{x:Str}{xs:List Str}{d a:Str->Option AV}{R' h9:af}(p:mC c env [x] ah d R R')(q:mC c env xs d a R' h9):mC c env (x::xs) ah a R h9 :=⟨λb h=>(q.same b λy e=>h y (.tail _ e)).trans (p.same b (kz (h x (.head _)))),p.keep.trans q.keep,λy z=>q.slot y (p.slot y z),λh=>(q.loc h).trans (p.loc h)⟩
theorem v7{x:Str}{v:ab}{d:DV}{Q:Unit->ae->Prop}(st:St c R ah H s)(k:env.scope.kind=.function)(i:∀x y a,env.cells.lookup x=wf a->env.cells.lookup y=wf a->x=y)(sl:fb c env R x)(w:View c env ah R H ρ)(j:Rep c.h₀ H (abs v) d)(h:∀f R' s',St c R' f H s'->View c env f R' H (dg ρ [(x,d)])->mC c env [x] ah f R R'->Q () s'):al c.M A (ml env x v) Q E s :=
 wn st k i sl λf R' s' g t r p o n m=>h f R' s' g (λy dy e=>by
  by_cases q:y=x
  ·subst q;have:(if y=y then wf d else ρ y)=wf dy:=e;rw[FB rfl] at this;(replace this:=ax this;subst this);exact ar _ t j
  have:(if y=x then wf d else ρ y)=wf dy:=e;rw[Da q] at this;refine aa (r y q) ?_
  exact w y dy this) ⟨λb l=>p b (l x (.head _)),m,o,n⟩
theorem Fv{bR:Expr}{v:ab}{d:DV}{bs:List (Str×DV)}{Q:Unit->ae->Prop}(Y:A.handled=iF)(st:St c R ah H s)(I:env.scope.kind=.function)(m:∀x y a,env.cells.lookup x=wf a->env.cells.lookup y=wf a->x=y)(Z:fC bR d bs)(sl:∀p∈bs,fb c env R p.1)(w:View c env ah R H ρ)(N:Rep c.h₀ H (abs v) d)(h:∀f R' s',St c R' f H s'->View c env f R' H (dg ρ bs)->mC c env (bs.map (·.1)) ah f R R'->Q () s'):al c.M A (ge bR env v) Q E s:=by
 cases Z with
 |name x p d=>exact fA (v7 st I m (sl _ (.head _)) w N h)
 |pair x y px py pp kk d₁ d₂ =>
  refine aV N.kG λl vs V S=>?_
  obtain rfl:=V;obtain⟨X,D⟩:=S;refine bJ (st.get X) λo W us n U e=>?_
  obtain rfl:=U;rw[<-e] at D;refine aV D.two λt g T P=>?_
  obtain rfl:=T;obtain⟨B,z⟩:=P;refine wpAny_assign_Tuple Y (lW _ W rfl n rfl) rfl rfl λh' J=>?_
  have G:St c R ah H { s with heap:=h' }:=st.keeps (tk:=s.toks) λb o e=>J b o (d! (cZ e)) e;show al _ _ (do jh [g] (ge (.Name x px) env t);(do jh [] (ge (.Name y py) env g);pure ())) _ _ _;refine aG (fS (fA (v7 G I m (sl _ (.head _)) w B λeP O L k r i=>?_)));refine aG (fS (fA (v7 k I m (i.slot _ (sl _ (.tail _ (.head _)))) r z λjT F u j q C=>bH ?_)));exact h jT F u j q (i.cons C)
noncomputable def Ab:List String:=["enumerate","zip","dict_itemiterator","dict_reverseitemiterator","odict_iterator","itertools.zip_longest","itertools.pairwise"]
theorem KW{o:Obj}{it:Addr}{n:String}{vs:Array ab}{a:Expr}{v:ab}{d:DV}{bs:List (Str×DV)}{h:Heap}{H':af}{Q:Unit->ae->Prop}(g:s.heap.get? it=wf o)(m:o.cls=.type n)(j:o.data=.fields vs)(i:Ab.contains n=false)(q:fC a d bs)(f:Rep h H' (abs v) d)(k:Q () s):al c.M A (kQ a (.ref it) v) Q E s:=by
 cases q with
 |name x p d=>exact bH k
 |pair x y px py r kk d₁ d₂ =>
  refine aV f.kG λl b e b=>?_
  obtain rfl:=e;refine aG (wpAny_load g ?_);refine aa m ?_;refine aa j ?_
  show al _ A (if(["enumerate","zip","dict_itemiterator","dict_reverseitemiterator","odict_iterator","itertools.zip_longest","itertools.pairwise"].contains n&&vs[0]?==wf (eK l))=true then _ else _) Q E s;(refine aa (Da (by rw[show["enumerate","zip","dict_itemiterator","dict_reverseitemiterator","odict_iterator","itertools.zip_longest","itertools.pairwise"].contains n=false from i,wR];decide)) ?_);exact bH k
structure g4(c:Cx)(A:aD)(target:Expr)(it:Addr)(ds:List DV)(Kp:Nat->af->AO->Prop):Prop where
 step:∀{R:af} {ρ:Str->Option AV} {H:af} {s:ae} {E:ab->ae->Prop} {P:Option ab->ae->Prop} {Q:ab->ae->Prop} {i:Nat} {d:DV} {bs:List (Str×DV)} {ao:AO},ds[i]?=wf d->fC target d bs->R it=iF->Kp i H ao->St c (upd R it ao) ρ H s ->
  (∀v H' s' ao',Sub H H'->Rep c.h₀ H' (abs v) d->Kp (i+1) H' ao'->St c (upd R it ao') ρ H' s'->Q v s')->(∀v s',al c.M A (kQ target (.ref it) v) (λzz cF=>Q v cF) (λzz zz=>False) s'->P (wf v) s')->al c.M A (kS (.ref it)) P E s
 done:∀{R ρ H s E} {Q:Option ab->ae->Prop} {ao},R it=iF->Kp ds.length H ao->St c (upd R it ao) ρ H s->(∀s',St c R ρ H s'->Q iF s')->al c.M A (kS (.ref it)) Q E s
 self:∀{R ρ H s E} {Q:ab->ae->Prop} {i ao},R it=iF->Kp i H ao->St c (upd R it ao) ρ H s->Q (.ref it) s->al c.M A (gY (.ref it)) Q E s
 up:∀{i eT qr ao},Kp i eT ao->Sub eT qr->Kp i qr ao
theorem g4.of{tg:Expr}{it:Addr}{xs:List AV}{ds:List DV}{K:Nat->AO}{p:af->Prop}(d:h8 c A it xs K p)(up:∀b a,p b->Sub b a->p a)(t:∀i o,(K i).Is o->∃n vs,o.cls=.type n/\o.data=.fields vs/\Ab.contains n=false) :
  g4 c A tg it ds (λi H ao=>ao=K i/\p H/\aJ c.h₀ H xs ds) where
 step:=λu w g ⟨e,m,l⟩ st k k2=>by subst e;refine ak (l.get u) λav q j=>(d.item q g m st λv s' r f=>k2 v s' ?_);refine ak (f.dk (am ..)) λo e B=>(dP (t _ o B) λn vs z y x=>?_);have j:=r▸j;exact KW e z y x w j (k v _ s' _ (Sub.refl _) j (aC rfl m l) f)
 done:=λg ⟨e,m,l⟩ st k=>d.done g m (by subst e;(refine aa l.length ?_);exact st) k
 self:=λg ⟨e,_⟩ st k=>by subst e;exact d.self g st k
 up:=λh s=>aC h.1 (up _ _ h.2.1 s) (h.2.2.mono s)
theorem JU{tg:Expr}{it l:Addr}{xs:List AV}{ds:List DV}(b:A.handled=iF):g4 c A tg it ds (λi H ao=>ao=c9 l i/\b9 c H l xs/\aJ c.h₀ H xs ds) :=.of (u5 b) (λa a h s=>h.imp (s.le _ _) id) λi o h=>cj _ _ h.1 h.2 (by decide)
theorem zP{tg:Expr}{it l:Addr}{xs:List AV}{ds:List DV}(b:A.handled=iF):g4 c A tg it ds (λi H ao=>ao=jR l i/\H l=wf (.tuple xs)/\aJ c.h₀ H xs ds) :=.of (rh b) (λa a h s=>s.le _ _ h) λi o h=>cj _ _ h.1 h.2 (by decide)
theorem JV{tg:Expr}{it:Addr}{a:Int}{n:Nat}{ds:List DV}(d:A.handled=iF):g4 c A tg it ds (λi H ao=>ao=lL a n i/\True/\aJ c.h₀ H ((hV n).map λ(i:Nat)=>AV.int (a+i)) ds) :=.of (JX d) (λb b b b=>trivial) λi o h=>by have h:o=_:=h;subst h;exact cj _ _ rfl rfl (by decide)
theorem JT{tg:Expr}{it d:Addr}{es:List (Int×AV)}{ep:Nat}{ds:List DV}(b:A.handled=iF):g4 c A tg it ds (λi H ao=>ao=rj d es.length ep i/\H d=wf (.dict es ep)/\aJ c.h₀ H (es.map λp=>AV.int p.1) ds) :=.of (zQ b) (λa a h s=>s.le _ _ h) λi o h=>cj _ _ h.1 h.2 (by decide)
end
structure bj(V:Vx)(tg e:Expr)(ρ:Str->Option DV)(ds:List DV):Prop where
 run:∀{c:Cx} {A:aD} {env:Env} {R:af} {ah:Str->Option AV} {H:af} {s:ae} {Q:ab->ae->Prop} {E:ab->ae->Prop},Pre V c A env R->St c R ah H s->View c env ah R H ρ ->
  (∀it Kp ao H' s',g4 c A tg it ds Kp->Kp 0 H' ao->Sub H H'->R it=iF->St c (upd R it ao) ah H' s'->Q (.ref it) s')->al c.M A (eval e env) (λx dL=>al c.M A (gY x) Q E dL) E s
noncomputable def du(a:Int)(n:Nat):List Int:=(hV n).map λ(i:Nat)=>a+i
section
variable{V:Vx}{ρ:Str->Option DV}{tg e:Expr}{ds:List DV}{i j:Int}
theorem bj.list(h:Ev V e ρ (.list ds)):bj V tg e ρ ds:=⟨λp st w k=>h.run p st w λv f g hs d b=>by
 refine aV d.toList λl vs m j=>?_
 obtain rfl:=m;obtain⟨i,n⟩:=j;exact u3 p.ok b i λit c q o a=>k it _ _ f c (JU p.rm.handled) (aC rfl i n) hs o a⟩
theorem aJ.keys{h:Heap}{H:af}(es:List (Int×Int)):aJ h H ((es.map λp=>(p.1,AV.int p.2)).map λp=>AV.int p.1) (es.map λp=>DV.int p.1):=by have:=aJ.ints (h:=h) (H:=H) (es.map (·.1));rw[dW,dW] at this;(refine aa dW ?_);exact this
theorem Rep.lT{h:Heap}{H:af}{v:ab}{es:List (Int×Int)}(r:Rep h H (abs v) (.dict es)):∃l ep,v=.ref l/\H l=wf (.dict (es.map λp=>(p.1,AV.int p.2)) ep):=by
 generalize a:abs v=w at r;cases r with
 |dict y=>exact a_ _ _ (ed a) y
theorem bj.dict{es:List (Int×Int)}(h:Ev V e ρ (.dict es)):bj V tg e ρ (es.map λp=>DV.int p.1):=⟨λp st w k=>h.run p st w λv f g hs d b=>by
 refine aV d.lT λl ep j i=>?_
 obtain rfl:=j;exact zO p.ok b i λit c n m a=>k it _ _ f c (JT p.rm.handled) (aC rfl i (aJ.keys _)) hs m a⟩
theorem bj.tuple(h:Ev V e ρ (.tuple ds)):bj V tg e ρ ds:=⟨λp st w k=>h.run p st w λv f g hs d b=>by
 refine aV d.kG λl vs m j=>?_
 obtain rfl:=m;obtain⟨i,n⟩:=j;exact o7 p.ok b i λit c q o a=>k it _ _ f c (zP p.rm.handled) (aC rfl i n) hs o a⟩
theorem aJ.eg{h:Heap}{H:af}(a:Int)(n:Nat):aJ h H ((hV n).map λ(i:Nat)=>AV.int (a+i)) ((du a n).map DV.int):=by have:=aJ.ints (h:=h) (H:=H) (du a n);unfold du at this ⊢;rw[dW] at this;exact this
theorem bj.eg(h:Ev V e ρ (.eg i j))(t:-(2^62)<=i)(s:i<2^62)(r:-(2^62)<=j)(q:j<2^62):bj V tg e ρ ((du i (j-i).toNat).map DV.int):=⟨λp st w k=>h.run p st w λv f g hs d b=>by
 refine ak d.WI λl m n=>?_
 obtain rfl:=m;exact JQ p.ok b n t s r q λit c u o a=>k it _ _ f c (JV p.rm.handled) (aC rfl trivial (aJ.eg _ _)) hs o a⟩
end
theorem gH:∀(names:List (Str×c5)) {n a:Addr} {H:af},a<n->d5 names n H a=H a:=by
 intro l0;induction l0 with
 |nil =>intro _ _ _ _;exact rfl
 |cons c r b =>
  obtain⟨x,k⟩:=c;intro n a H h;unfold d5;split
  ·refine aa (b (ga h)) ?_;exact aa (aj (d! h)) rfl
  exact b h
theorem o?{κ α:Type}[BEq κ][LawfulBEq κ]{x:κ}:∀{l:List (κ×α)},x∉l.map (·.1)->l.lookup x=iF:=by
 intro l0;induction l0 with
 |nil =>intro _;exact rfl
 |cons b r c =>
  obtain⟨y,a⟩:=b;intro h;rw[bq,aW,not_or] at h;refine aa cP ?_;refine aa (beq_eq_false_iff_ne.mpr h.1) ?_
  exact c h.2
theorem oy:∀(names:List (Str×c5)) (n:Addr) (acc:List (Str×Addr)) (H:af) (x:Str),(names.map (·.1)).Nodup ->(names.lookup x=wf .cell->∃a,(aY n names acc).lookup x=wf a/\n<=a/\d5 names n H a=wf (.cell iF))/\(names.lookup x≠wf .cell->(aY n names acc).lookup x=acc.lookup x):=by
 intro l0;induction l0 with
 |nil =>intro n acc H x _;exact⟨λh=>((by injection h)),λd=>rfl⟩
 |cons e r b =>
  obtain⟨y,k⟩:=e;intro n acc H x hn;rw[bq] at hn;replace hn:=dq.mp (hn);unfold aY d5;refine aa cP ?_
  by_cases c:(k==nH)=true
  ·refine aa (FB c) ?_;refine aa (FB c) ?_
   have b:=b (n+1) ((y,n)::acc) (upd H n (.cell iF)) x hn.2;by_cases q:x=y
   ·subst q;rw[beq_self_eq_true];replace b:=(o? hn.1)▸b;refine xA (λd=>aR n ?_ (bD _) ?_) (λh=>GM (by(exact aa (beq_iff_eq.mp c) rfl)) h)
    ·rw[b.2 (λh=>(by injection h)),cP,beq_self_eq_true]
    rw[gH r (gc n),am]
   refine aa (beq_eq_false_iff_ne.mpr q) ?_
   refine xA (λh=>?_) (λh=>?_)
   ·refine aB (b.1 h) λa i g f=>?_
    exact aR a i (nI g) f
   refine aa (b.2 h) ?_;refine aa cP ?_;exact aa (beq_eq_false_iff_ne.mpr q) rfl
  refine aa (Da c) ?_;refine aa (Da c) ?_
  have b:=b n acc H x hn.2;by_cases q:x=y
  ·subst q;rw[beq_self_eq_true];replace b:=(o? hn.1)▸b;exact xA (λh=>GM (aa (ax h) rfl) c) (λd=>b.2 (λh=>(by injection h)))
  (refine aa (beq_eq_false_iff_ne.mpr q) ?_);exact b
theorem qB:∀(names:List (Str×c5)) (n:Addr) (acc:List (Str×Addr)),(∀p∈acc,p.2<n)->(∀p∈acc,∀q∈acc,p.2=q.2->p.1=q.1)->∀p∈aY n names acc,∀q∈aY n names acc,p.2=q.2->p.1=q.1:=by
 intro l0;induction l0 with
 |nil =>intro _ _ _ h;exact h
 |cons c r b =>
  obtain⟨y,k⟩:=c;intro n acc a h;unfold aY;split
  ·refine b (n+1) _ (λp hp=>?_) (λp hp q hq e=>?_)
   ·obtain rfl|hp:=aW.mp hp
    ·exact gc n
    exact ga (a p hp)
   obtain rfl|hp:=aW.mp hp<;>obtain rfl|hq:=aW.mp hq
   ·rfl
   ·exact GM (a q hq) (az e (dz _))
   ·exact GM (a p hp) (aa e (dz _))
   exact h p hp q hq e
  exact b n acc a h
theorem dO{κ α:Type}[BEq κ][LawfulBEq κ]{x:κ}{a:α}:∀{l:List (κ×α)},l.lookup x=wf a->(x,a)∈l:=by
 intro l0;induction l0 with
 |nil =>intros;contradiction
 |cons c r d =>
  obtain⟨y,b⟩:=c;intro h;rw[cP] at h;by_cases q:x=y
  ·subst q;rw[beq_self_eq_true] at h;(replace h:=ax h;subst h);exact .head _
  (replace h:=(beq_eq_false_iff_ne.mpr q)▸h);exact .tail _ (d h)
noncomputable def cu(cells:List (Str×Addr)):List (Str×c5)->List (Str×Addr)->List (Str×Addr)
 |[],cs=>cs
 |(n,k)::r,cs=>if k == .free then cu cells r ((n,(cells.lookup n).getD 0)::cs) else cu cells r cs
theorem mH{env:Env}{sc:bS}(h:∀p∈sc.names,p.2=.free->∃a,env.cells.lookup p.1=wf a):qg sc env=pure (cu env.cells sc.names []):=by
 have e:∀(names:List (Str×c5)) (cs:List (Str×Addr)),(∀p∈names,p.2=.free->∃a,env.cells.lookup p.1=wf a) ->(forIn names cs λ(p:Str×c5) (r:List (Str×Addr))=>(match p with|(name,kind)=>if kind==p! then(do let a<-mh env name;pure (sE ((name,a)::r))) else pure (sE r):Sem (ForInStep (List (Str×Addr)))))=(pure (cu env.cells names cs):Sem (List (Str×Addr))):=by
  intro names;induction names with
  |nil=>intro cs _;rfl
  |cons p r f =>
   intro cs hp;obtain⟨n,k⟩:=p;rw[Ec];dsimp only;unfold cu;by_cases c:(k==p!)=true
   ·refine aa (FB c) ?_;refine aa (FB c) ?_
    refine oE (hp (n,k) (.head _) (beq_iff_eq.mp c)) λa d=>?_
    have d:=d;have:mh env n=pure a:=by unfold mh;(exact aa d rfl)
    refine aa this ?_;refine aa d ?_
    exact f _ λp b=>hp p (.tail _ b)
   refine aa (Da c) ?_;refine aa (Da c) ?_
   exact f _ λp b=>hp p (.tail _ b)
 exact congrArg (· >>= pure) (e sc.names [] h)
theorem qC{cells:List (Str×Addr)}:∀{names:List (Str×c5)} {cs:List (Str×Addr)},(∀p∈names,p.2=.free->∃a,cells.lookup p.1=wf a)->∀p∈cu cells names cs,p∈cs\/cells.lookup p.1=wf p.2:=by
 intro l0;induction l0 with
 |nil =>intro _ _ p hp;exact .inl hp
 |cons z0 r ih =>
  obtain⟨n,k⟩:=z0;intro cs h p hp;unfold cu at hp;have h':=λp hp=>h p (.tail _ hp);split at hp
  ·rename_i hk;obtain q|q:=ih h' p hp
   ·obtain rfl|q:=aW.mp q
    ·refine oE (h (n,k) (.head _) (beq_iff_eq.mp hk)) λa ha=>?_
     exact .inr (aa ha rfl)
    exact .inl q
   exact .inr q
  exact ih h' p hp
theorem oz{cells:List (Str×Addr)}:∀{names:List (Str×c5)} {cs:List (Str×Addr)} {x:Str},(names.map (·.1)).Nodup ->(names.lookup x=wf .free->(cu cells names cs).lookup x=wf ((cells.lookup x).getD 0))/\(names.lookup x≠wf .free->(cu cells names cs).lookup x=cs.lookup x)
 |[],_,_,_=>⟨λh=>((by injection h)),λc=>rfl⟩
 |(n,k)::r,cs,x,hn=>by
  rw[bq] at hn;replace hn:=dq.mp (hn);unfold cu;refine aa cP ?_
  by_cases b:(k==p!)=true
  ·refine aa (FB b) ?_
   have a:=oz (cells:=cells) (cs:=(n,(cells.lookup n).getD 0)::cs) (x:=x) hn.2;by_cases q:x=n
   ·subst q;rw[beq_self_eq_true];replace a:=(o? hn.1)▸a;refine xA (λc=>?_) (λh=>GM (by(exact aa (beq_iff_eq.mp b) rfl)) h);rw[a.2 (λh=>(by injection h)),cP,beq_self_eq_true]
   refine aa (beq_eq_false_iff_ne.mpr q) ?_
   refine xA a.1 (λh=>?_);refine aa (a.2 h) ?_;refine aa cP ?_;exact aa (beq_eq_false_iff_ne.mpr q) rfl
  refine aa (Da b) ?_
  have a:=oz (cells:=cells) (cs:=cs) (x:=x) hn.2;by_cases q:x=n
  ·subst q;rw[beq_self_eq_true];replace a:=(o? hn.1)▸a;exact xA (λh=>GM (aa (ax h) rfl) b) (λc=>a.2 (λh=>(by injection h)))
  (refine aa (beq_eq_false_iff_ne.mpr q) ?_);exact a
noncomputable def lK(sc:bS)(T:List (Str×c5)):List (Str×c5):=sc.names.map λ(n,k)=>if(k == .free&&T.lookup n==wf .cell) then(n,.cell) else(n,k)
noncomputable def Vx.into(V:Vx)(sc:bS):Vx:={ V with T:=lK sc V.T }
noncomputable def c8(sc:bS)(ρ:Str->Option DV):Str->Option DV:=λx=>if sc.names.lookup x=wf .free then ρ x else iF
structure fa(sc:bS)(T:List (Str×c5)):Prop where
 kind:sc.kind=.function
 nodup:(sc.names.map (·.1)).Nodup
 each:(sc.names.all λp=>gL p.1&&(p.2 != .free||T.lookup p.1==wf .cell||T.lookup p.1==wf .free))=true
theorem v9{T:List (Str×c5)}{x:Str}:∀{names:List (Str×c5)},(names.map λ(p:Str×c5)=>if(p.2 == .free&&T.lookup p.1==wf .cell) then(p.1,nH) else(p.1,p.2)).lookup x =
  (names.lookup x).map λk=>if(k == .free&&T.lookup x==wf .cell) then .cell else k:=by
 intro l0;induction l0 with
 |nil =>exact rfl
 |cons a r b =>
  obtain⟨n,k⟩:=a;rw[bq,cP];have c:(if(k == .free&&T.lookup n==wf .cell) then(n,nH) else(n,k))=(n,if(k == .free&&T.lookup n==wf .cell) then .cell else k):=by split<;>rfl
  refine aa c ?_;refine aa cP ?_
  by_cases q:x=n
  ·subst q;rw[beq_self_eq_true];rfl
  (refine aa (beq_eq_false_iff_ne.mpr q) ?_);exact b
theorem Cs{sc:bS}{env:Env}(a:env.scope.kind=.function):(mj sc env).names=lK sc env.scope.names:=by
 unfold mj lK;refine aa a ?_
 refine kN λp b=>?_
 obtain⟨n,k⟩:=p;show(if(k == .free&&true&&env.scope.names.lookup n==wf .cell)=true then _ else _)=_;rw[Bool.and_true]
noncomputable def qE(gens:List d9)(e:Expr)(emit:Sem Unit)(k:Nat)(it acc:ab)(env:Env):Sem Fin :=
 match gens[k+1]? with
 |some g'=>do
  let x<-eval g'.iter env
  kT g'.iter.pos
  let x<-fQ g'.iter env x
  let JN<-jh [x] (gY x)
  let _<-runOwn (.compStart e (k+1) JN acc env) env
  again (.compLoop e k it acc env)
 |none=>do
  emit
  again (.compLoop e k it acc env)
structure k4(e:Expr)(gens:List d9)(emit:ab->Env->Sem Unit):Prop where
 clauses:clausesOf e=gens
 t4:∀(c:Cx) k it acc env,c.M.den (.compLoop e k it acc env)=(tl e k it acc env).onRaise (λx=>do noteFrame x env;theTreesLotGoes x)
 t5:∀(c:Cx) k it acc env,c.M.den (.compStart e k it acc env)=(compStart e k it acc env).onRaise (λx=>do noteFrame x env;kT theWindowsPlace)
 wv:∀(A:aD) k it acc env,A.under (.compLoop e k it acc env)=A
 ww:∀(A:aD) k it acc env,A.under (.compStart e k it acc env)=A
 turn:∀k it acc env g,gens[k]?=wf g->g.is_async=0->(∀g',gens[k+1]?=wf g'->g'.is_async=0)->tl e k it acc env=(do
  kT g.iter.pos
  match<-kS it with
  |none=>pure (.done .next)
  |some v =>
   kQ g.target it v
   ge g.target env v
   let ok<-nj g.ifs env
   if ok=true then qE gens e (emit acc env) k it acc env
   else again (.compLoop e k it acc env))
noncomputable def yB(elt:Expr)(acc:ab)(env:Env):Sem Unit:=do let _<-call (.builtin "list.append") [acc,<-eval elt env]
theorem yo(elt:Expr)(gens:List d9)(sc:bS)(pos:Pos):k4 (.ListComp elt gens sc pos) gens (yB elt) where
 clauses:=rfl
 t4:=λa a a a a=>rfl
 t5:=λa a a a a=>rfl
 wv:=λa a a a a=>rfl
 ww:=λa a a a a=>rfl
 turn:=λk it acc env g c e d=>by
  delta tl;dsimp only;refine aa c ?_
  dsimp only;refine aa e ?_
  delta qE;cases h:gens[k+1]? with
  |none=>rfl
  |some f =>
   obtain⟨j,l,m,i⟩:=f;have b:i=0:=d _ h;refine aa b ?_
   rfl
section
variable{c:Cx}{A:aD}{s:ae}{e:Expr}{gens:List d9}{emit:ab->Env->Sem Unit}{P:fP->ae->Prop}{it acc:ab}{env:Env}{k:Nat}{g:d9}
def oe(c:Cx)(A:aD)(gens:List d9)(e:Expr)(em:Sem Unit)(k:Nat)(acc:ab)(env:Env)(K:ae->Prop)(s:ae):Prop:=match gens[k+1]? with
 |some g=>(∀x,fQ g.iter env x=pure x)/\al c.M A (eval g.iter env) (λx dL=>al c.M A (gY x) (λit cF=>dB c.M A (.compStart e (k+1) it acc env) (λr s'=>match r with|.ok _=>K s'|.error _=>False) cF) (λzz zz=>False) dL) (λzz zz=>False) s
 |none=>al c.M A em (λzz s'=>K s') (λzz zz=>False) s
theorem Gw(B:k4 e gens emit)(E:gens[k]?=wf g)(G:g.is_async=0)(F:∀y,gens[k+1]?=wf y->y.is_async=0)(I:Nat->ae->Prop)(turn:∀n s,I n s->al c.M A (kS it) (λr i=>match r with
   |none=>P (.ok .next) i
   |some v=>al c.M A (kQ g.target it v) (λa l=>al c.M A (ge g.target env v) (λa t =>
     al c.M A (nj g.ifs env) (λb j=>if b=true then oe c A gens e (emit acc env) k acc env (λp=>∃m,m<n/\I m p) j
      else∃m,m<n/\I m j) (λa a=>False) t) (λa a=>False) l) (λa a=>False) i) (λa a=>False) s)(n:Nat)(h:I n s):dB c.M A (.compLoop e k it acc env) P s:=by
 refine codeAny_loop rfl I (λn s H=>?_) n h;rw[B.t4,B.wv];refine wpAny_noted ?_
 refine aa (B.turn k it acc env g E G F) ?_
 refine aG (j7 (aG (bx (turn n s H) (λr i h₁=>?_) λa a z=>z.elim)));cases r with
 |none=>exact bH h₁
 |some v =>
  refine aG (bx h₁ (λa l o=>aG (bx o (λa t w=>aG (bx w (λb j d=>?_) λa a z=>z.elim)) λa a z=>z.elim)) λa a z=>z.elim);cases b with
  |false=>exact bH ⟨rfl,d⟩
  |true =>
   rw[FB rfl] at d ⊢;unfold oe at d;delta qE;cases q:gens[k+1]? with
   |none =>rw[q] at d;exact aG (bx d (λa p u=>bH ⟨rfl,u⟩) λa a z=>z.elim)
   |some y =>
    rw[q] at d;refine oA d λhs d=>(aG (bx d (λx i h₁=>aG (j7 ?_)) λa a z=>z.elim));refine aG (mo (hs x) (aG (fS (bx h₁ (λD l o=>?_) λa a z=>z.elim))));refine aG (bx (wpAny_runOwn (Q:=λa s'=>∃m,m<n/\I m s') (codeAny_mono o λr s' C=>?_)) (λa s' q=>bH ⟨rfl,q⟩) λa a z=>z);cases r with
    |ok f=>exact C
    |error x=>exact C.elim
theorem yq(f:k4 e gens emit)(j:gens[k]?=wf g)(d:g.is_async=0)(i:dB c.M A (.compLoop e k it acc env) P s)(h:al c.M A (gY it) (λa s'=>dB c.M A (.compLoop e k a acc env) P s') (λb b=>False) s):dB c.M A (.compStart e k it acc env) P s:=by
 obtain⟨m,n,o,l⟩:=g;have d:l=0:=d;subst d;refine codeAny_of_tree ?_
 rw[f.t5,f.ww];refine wpAny_notedAt ?_
 delta compStart;refine aa f.clauses ?_;refine aa j ?_
 refine aG (wpAny_askSetting (wpAny_ite ?_));split
 ·first
   |exact aG (bH (bH (sB rfl i)))
   |exact bH (sB rfl i)
 first
  |exact aG (wpAny_rule (aG (j7 (aG (bx h (λa s' h'=>bH (sB rfl h')) λb b z=>z.elim)))))
  |(refine aG (wpAny_rule ?_);exact aG (j7 (aG (bx h (λa s' h'=>bH (sB rfl h')) λb b z=>z.elim))))
end
def jo(V:Vx)(ifs:List Expr)(ρ:Str->Option DV)(b:Bool):Prop:=match ifs with
 |[]=>b=true
 |[t]=>bT V t ρ b
 |_=>False
theorem jo.run{V:Vx}{ifs:List Expr}{ρ:Str->Option DV}{b:Bool}{c:Cx}{A:aD}{env:Env}{R:af}{ah:Str->Option AV}{H:af}{s:ae}{Q:Bool->ae->Prop}{E:ab->ae->Prop}(h:jo V ifs ρ b)(p:Pre V c A env R)(st:St c R ah H s)(w:View c env ah R H ρ)(k:∀H' s',Sub H H'->St c R ah H' s'->Q b s'):al c.M A (nj ifs env) Q E s:=by
 unfold jo at h;split at h
 ·subst h;exact wpAny_tests_nil (k H s (Sub.refl _) st)
 ·exact wpAny_tests_one (h.run p st w k)
 exact h.elim
structure TurnOk(V:Vx)(own:Str->Bool)(g:d9)(inner:(Str->Option DV)->List DV->Prop)(ρ:Str->Option DV)(d:DV)(out:List DV):Prop where
 ok:∃bs b,fC g.target d bs/\(∀p∈bs,ρ p.1=iF/\own p.1=true)/\jo V g.ifs (dg ρ bs) b/\(b=true->inner (dg ρ bs) out)/\(b=false->out=[])
structure jm(V:Vx)(own:Str->Bool)(g:d9)(inner:(Str->Option DV)->List DV->Prop)(ρ:Str->Option DV)(ds:List DV)(outs:List (List DV)):Prop where
 len:outs.length=ds.length
 turns:∀(i:Nat) d out,ds[i]?=wf d->outs[i]?=wf out->TurnOk V own g inner ρ d out
def jp(V:Vx)(own:Str->Bool)(last:(Str->Option DV)->List DV->Prop):List d9->(Str->Option DV)->List DV->Prop
 |[],ρ,out=>last ρ out
 |g::gs,ρ,out=>g.is_async=0/\(∀env x,fQ g.iter env x=pure x)/\∃(ds:List DV) (outs:List (List DV)),bj V g.target g.iter ρ ds/\jm V own g (jp V own last gs) ρ ds outs/\out=outs.flatten
structure n?(V:Vx)(emit:ab->Env->Sem Unit)(last:(Str->Option DV)->List DV->Prop)(Acc:Heap->af->List DV->AO->Prop)(B:Nat):Prop where
 mono:∀{h H H' ds ao},Sub H H'->Acc h H ds ao->Acc h H' ds ao
 kind:∀{h H ds ao},Acc h H ds ao->(∀r,ao≠.ns r)/\(∀v,ao≠.cell v)
 run:∀{c:Cx} {A:aD} {env:Env} {R:af} {ah:Str->Option AV} {H:af} {s:ae} {D:Addr} {ds out:List DV} {ao:AO} {ρ:Str->Option DV} {Q:Unit->ae->Prop},last ρ out->Pre V c A env R->R D=wf ao->Acc c.h₀ H ds ao->ds.length+out.length<=B->St c R ah H s->View c env ah R H ρ ->
  (∀ao' H' s',Sub H H'->Acc c.h₀ H' (ds++out) ao'->St c (upd R D ao') ah H' s'->Q () s')->al c.M A (emit (.ref D) env) Q (λzz zz=>False) s
section
variable{c:Cx}{A:aD}{e:Expr}{gens:List d9}{emit:ab->Env->Sem Unit}{env:Env}{V:Vx}{own:Str->Bool}{last:(Str->Option DV)->List DV->Prop}{Acc:Heap->af->List DV->AO->Prop}{B:Nat}{D:Addr}
theorem o8{R R':af}{ah:Str->Option AV}{x:Str}{av:AV}(h:bk c env ah R x=wf av)(s:Sub R R'):bk c env ah R' x=wf av:=by
 have i:∀d,(match R d with|some (.cell v)=>v|_=>iF)=wf av->(match R' d with|some (.cell v)=>v|_=>iF)=wf av:=λd h=>by
  cases e:R d with
  |none=>rw[e] at h;injection h
  |some ao=>rw[e] at h;(refine aa (s.le _ _ e) ?_);exact h
 have b:(match env.cells.lookup x with|some a=>(match R a with|some (.cell v)=>v|_=>iF)|none=>iF)=wf av->(match env.cells.lookup x with|some a=>(match R' a with|some (.cell v)=>v|_=>iF)|none=>iF)=wf av:=λh=>by
  cases e:env.cells.lookup x with
  |none=>rw[e] at h;injection h
  |some a=>(replace h:=e▸h);exact i a h
 unfold bk at h ⊢;cases f:env.kindOf x with
 |none=>rw[f] at h;injection h
 |some kk =>
  replace h:=f▸h;cases kk with
  | «local» =>
   dsimp only at h ⊢;by_cases g:env.locals=c.L
   ·rw[FB g] at h ⊢;exact h
   rw[Da g] at h ⊢;cases e:R env.locals with
   |none=>rw[e] at h;injection h
   |some ao=>rw[e] at h;(refine aa (s.le _ _ e) ?_);exact h
  |cell=>exact b h
  |free=>exact b h
  |globalExplicit=>injection h
  |globalImplicit=>injection h
theorem View.WQ{R R' H:af}{ah:Str->Option AV}{ρ:Str->Option DV}(w:View c env ah R H ρ)(s:Sub R R'):View c env ah R' H ρ:=λx d e=>let⟨av,h1,h2⟩:=w x d e;⟨av,o8 h1 s,h2⟩
theorem U?:∀{bs:List (Str×DV)} {ρ:Str->Option DV},(∀p∈bs,ρ p.1=iF)->∀x d,ρ x=wf d->dg ρ bs x=wf d:=by
 intro l0;induction l0 with
 |nil =>intro _ _ _ _ e;exact e
 |cons g r f =>
  obtain⟨y,j⟩:=g;intro ρ h x d e;have b:x≠y:=λq=>by have:=h (y,j) (.head _);have this:=this;(replace this:=(bn q)▸this;replace this:=e▸this);injection this
  have a:∀(r:List (Str×DV)) (ρ:Str->Option DV),(∀p∈r,p.1≠x)->ρ x=wf d->dg ρ r x=wf d:=by
   intro r;induction r with
   |nil=>intro ρ _ e;exact e
   |cons p r f =>
    intro ρ hp e;obtain⟨z,i⟩:=p;refine f _ (λp c=>hp p (.tail _ c)) ?_
    (refine aa (Da (λq=>hp (z,i) (.head _) q.symm)) ?_);exact e
  refine a r _ (λp hp q=>?_) ?_
  ·have:=h p (.tail _ hp);(replace this:=q▸this;replace this:=e▸this);injection this
  (refine aa (Da b) ?_);exact e
end
theorem fb.sub{c:Cx}{env:Env}{R R':af}{x:Str}(h:fb c env R x)(s:Sub R R'):fb c env R' x :=⟨h.kind,λa b=>let⟨r,e⟩:=h.loc a b;⟨r,s.le _ _ e⟩,λa=>let⟨b,v,e1,e2⟩:=h.cell a;(a_ b v e1 (s.le _ _ e2))⟩
theorem fb.at{c:Cx}{env:Env}{R:af}{x:Str}{b:Addr}(h:fb c env R x)(hs:dn c env x=wf b):(∃r,R b=wf (.ns r))\/∃v,R b=wf (.cell v):=by
 unfold dn at hs;obtain hk|hk:=h.kind
 ·replace hs:=hk▸hs;dsimp only at hs;by_cases d:env.locals=c.L
  ·rw[FB d] at hs;injection hs
  rw[Da d] at hs;(replace hs:=ax hs;subst hs);exact .inl (h.loc hk d)
 rw[hk] at hs;refine aV (h.cell hk) λa v f e=>?_
 have hs:env.cells.lookup x=wf b:=hs;rw[f] at hs;(replace hs:=ax hs;subst hs);exact .inr ⟨v,e⟩
theorem sw{R:af}{a:Addr}{k:AO}(h:R a=wf k):upd (del R a) a k=R:=funext λb=>by
 unfold upd del;by_cases q:b=a
 ·refine aa (FB q) ?_;refine aa q ?_;exact aa h rfl
 refine aa (Da q) ?_;exact aa (Da q) rfl
structure CL(V:Vx)(c:Cx)(A:aD)(env:Env)(own:Str->Bool)(Acc:Heap->af->List DV->AO->Prop)(D:Addr)(ah:Str->Option AV)(ρ:Str->Option DV)(R H:af)(dd:List DV):Prop where
 pre:Pre V c A env R
 slots:∀x,own x=true->fb c env R x
 acc:∃ao,R D=wf ao/\Acc c.h₀ H dd ao
 view:View c env ah R H ρ
structure Ag(c:Cx)(env:Env)(own:Str->Bool)(D:Addr)(R R':af):Prop where
 same:∀b,(∀x,own x=true->dn c env x≠wf b)->b≠D->R' b=R b
 keep:c6 R R'
theorem Ag.refl{c:Cx}{env:Env}{own:Str->Bool}{D:Addr}{R:af}:Ag c env own D R R:=⟨λa a a=>rfl,c6.refl R⟩
theorem Ag.trans{c:Cx}{env:Env}{own:Str->Bool}{D:Addr}{R R' h9:af}(x:Ag c env own D R R')(y:Ag c env own D R' h9):Ag c env own D R h9:=⟨λb d a=>(y.same b d a).trans (x.same b d a),x.keep.trans y.keep⟩
section
variable{c:Cx}{A:aD}{e:Expr}{gens:List d9}{emit:ab->Env->Sem Unit}{env:Env}{V:Vx}{own:Str->Bool}{last:(Str->Option DV)->List DV->Prop}{Acc:Heap->af->List DV->AO->Prop}{B:Nat}{D:Addr}{ah:Str->Option AV}
def xT(V:Vx)(c:Cx)(A:aD)(env:Env)(own:Str->Bool)(Acc:Heap->af->List DV->AO->Prop)(B:Nat)(D:Addr)(ah:Str->Option AV)(gens:List d9)(e:Expr)(emit:ab->Env->Sem Unit)(k:Nat)(inner:(Str->Option DV)->List DV->Prop):Prop :=
 ∀(ρ:Str->Option DV) (out:List DV) (R H:af) (s:ae) (dd:List DV) (K:ae->Prop),inner ρ out->CL V c A env own Acc D ah ρ R H dd->dd.length+out.length<=B->St c R ah H s ->
  (∀R' H' s',Sub H H'->Ag c env own D R R'->CL V c A env own Acc D ah ρ R' H' (dd++out)->St c R' ah H' s'->K s')->oe c A gens e (emit (.ref D) env) k (.ref D) env K s
theorem Aa{k:Nat}{g:d9}{X:(Str->Option DV)->List DV->Prop}(ce:k4 e gens emit)(em:n? V emit last Acc B)(qX:∀g∈gens,g.is_async=0)(hL:env.locals≠c.L)(hk:gens[k]?=wf g)(io:xT V c A env own Acc B D ah gens e emit k X){ρ:Str->Option DV}{ds:List DV}{outs:List (List DV)}(co:jm V own g X ρ ds outs){it:Addr}{Kp:Nat->af->AO->Prop}{ko:AO}{R H:af}{s:ae}{U:List DV}{P:fP->ae->Prop}(ix:g4 c A g.target it ds Kp)(hB:Kp 0 H ko)(hit:R it=iF)(cl:CL V c A env own Acc D ah ρ R H U)(hz:U.length+outs.flatten.length<=B)(st:St c (upd R it ko) ah H s)(fin:∀R' H' s',Sub H H'->Ag c env own D R R'->CL V c A env own Acc D ah ρ R' H' (U++outs.flatten)->St c R' ah H' s'->P (.ok .next) s') :
  dB c.M A (.compLoop e k (.ref it) (.ref D) env) P s:=by
 refine Gw ce hk (qX g (en hk)) (λg' q4=>qX g' (en q4)) (λn s'=>∃i R' H' ko,n+i=ds.length/\R' it=iF/\Kp i H' ko/\Sub H H'/\Ag c env own D R R'/\CL V c A env own Acc D ah ρ R' H' (U++(outs.take i).flatten)/\St c (upd R' it ko) ah H' s') ?_
  ds.length (Xm 0 R H ko rfl hit hB (Sub.refl _) Ag.refl (by simpa using cl) st)
 clear hB st;intro n s' Vl;refine L4 Vl λi R' H' J! jD f hB mS x_ dJ d8=>?_
 cases n with
 |zero =>
  have hi:i=ds.length:=by exact pn jD
  subst hi;refine ix.done f hB d8 λeh W=>?_
  replace dJ:=(bn co.len)▸dJ;replace dJ:=fv▸dJ;exact fin R' H' eh mS x_ dJ W
 |succ n =>
  have eN:i<ds.length:=by exact pq jD
  have Z:i<outs.length:=by(refine aa co.len ?_);exact eN
  refine iX ((co.turns i ds[i] outs[i] (by simp[eN]) (by simp[Z])).ok) λbs b oU Y I_ IJ uM=>(ix.step (d:=ds[i]) (by simp[eN]) oU f hB d8 (λv H' eh ko N lm hB W=>?_) λzz zz h=>h);replace dJ:CL V c A env own Acc D ah ρ R' H' (U++(outs.take i).flatten):=⟨dJ.pre,dJ.slots,let⟨ao,e1,e2⟩:=dJ.acc;(ar ao e1 (em.mono N e2)),dJ.view.mono N⟩;replace mS:=mS.trans N;have z:Sub R' (upd R' it ko):=(Sub.refl _).upd f;refine Fv dJ.pre.rm.handled W dJ.pre.fn dJ.pre.inj oU (λp hp=>(dJ.slots p.1 (Y p hp).2).sub z) (dJ.view.WQ z) lm λy jt dL Wp W6 pt=>?_
  have oZ:=pt.loc hL;subst oZ;have F:∀b,(∀x,own x=true->dn c env x≠wf b)->jt b=upd R' it ko b:=λb G=>pt.same b λx hx=>by
   refine ak (bh.mp hx) λp hp wL=>?_
   obtain rfl:=wL;exact G p.1 (Y p hp).2
  have I:∀{a:Addr},(∀r,R' a≠wf (.ns r))->(∀w,R' a≠wf (.cell w))->∀x,own x=true->dn c env x≠wf a:=λ{a} h1 h2 x hx q=>by
   refine cg ((dJ.slots x hx).at q) (λwz=>oE wz λr e=>?_) (λwz=>oE wz λw e=>?_)
   ·exact h1 r e
   exact h2 w e
  have J:=I (a:=it) (λr e=>by rw[f] at e;injection e) (λw e=>by rw[f] at e;injection e);refine ak dJ.acc λao kl Q=>?_
  have GJ:=I (a:=D) (λr e=>by(replace e:=kl▸e);exact(em.kind Q).1 r (ax e)) (λw e=>by(replace e:=kl▸e);exact(em.kind Q).2 w (ax e));have lf:D≠it:=λq=>by(replace kl:=q▸kl;replace kl:=f▸kl);injection kl
  have Ig:jt it=wf ko:=by rw[F it J,am]
  have S:jt D=wf ao:=aa (F D GJ) (aa (aj lf) kl);have X5:Ag c env own D (upd R' it ko) jt:=⟨λb G zz=>F b G,pt.keep⟩;have C:CL V c A env own Acc D y (dg ρ bs) jt H' (U++(outs.take i).flatten) :=⟨(dJ.pre.keep (c6.gK z)).keep pt.keep,λx hx=>pt.slot x ((dJ.slots x hx).sub z),ar ao S Q,W6⟩
  have done:∀j o cF (out:List DV),out=outs[i]->Sub H' o->Ag c env own D jt j->CL V c A env own Acc D y (dg ρ bs) j o (U++(outs.take i).flatten++out)->St c j y o cF ->∃m,m<n+1/\∃i R' H' ko,m+i=ds.length/\R' it=iF/\Kp i H' ko/\Sub H H'/\Ag c env own D R R'/\CL V c A env own Acc D y ρ R' H' (U++(outs.take i).flatten)/\St c (upd R' it ko) y H' cF:=by
   intro j o cF out ho l u t E;have Ih:j it=wf ko:=by(refine aa (u.same it J (aI lf)) ?_);exact Ig
   have Ym:=J;refine Xe n (gc _) (i+1) (del j it) o ko (lE jD) (ia ..) (ix.up hB l) (mS.trans l) ?_ ⟨?_,?_⟩
   ·refine x_.trans ⟨λb h1 h2=>?_,?_,?_⟩
    ·by_cases q:b=it
     ·rw[q,ia,f]
     refine aa (ci q) ?_;refine aa (u.same b h1 h2) ?_;refine aa (F b h1) ?_;exact aa (aj q) rfl
    ·intro b r G;refine oE (((c6.gK z).trans (pt.keep.trans u.keep)).ns b r G) λr' O=>?_
     exact xE r' (aa (ci (λq=>by rw[q,f] at G;injection G)) O)
    intro b r G;refine oE (((c6.gK z).trans (pt.keep.trans u.keep)).cell b r G) λr' O=>?_
    exact xE r' (aa (ci (λq=>by rw[q,f] at G;injection G)) O)
   ·have kp:c6 R' (del j it):=⟨λb r G=>by
     refine oE (((c6.gK z).trans (pt.keep.trans u.keep)).ns b r G) λr' O=>?_
     exact⟨r',by(refine aa (ci (λq=>by rw[q,f] at G;injection G)) ?_);exact O⟩,λb r G=>by
     refine oE (((c6.gK z).trans (pt.keep.trans u.keep)).cell b r G) λr' O=>?_
     exact⟨r',aa (ci (λq=>by rw[q,f] at G;injection G)) O⟩⟩
    have KO:∀x av,(∃d,ρ x=wf d)->bk c env y j x=wf av->bk c env y (del j it) x=wf av:=by
     intro x av hx h;refine oE hx λd hd=>(ak (dJ.view x d hd) λFz T zz=>?_);unfold bk at h T ⊢;cases jA:env.kindOf x with
     |none=>(replace h:=jA▸h);injection h
     |some kk =>
      rw[jA] at h T;have zr:(match env.cells.lookup x with|some a=>(match R' a with|some (.cell v)=>v|_=>iF)|none=>iF)=wf Fz->(match env.cells.lookup x with|some a=>(match j a with|some (.cell v)=>v|_=>iF)|none=>iF)=wf av ->(match env.cells.lookup x with|some a=>(match del j it a with|some (.cell v)=>v|_=>iF)|none=>iF)=wf av:=λT h=>by
       cases e:env.cells.lookup x with
       |none=>(replace h:=e▸h);injection h
       |some a =>
        rw[e] at h T;dsimp only at h T ⊢;refine aa (ci (λq=>by rw[q,f] at T;injection T)) ?_
        exact h
      cases kk with
      | «local» =>
       rw[Da hL] at h T ⊢;refine aa (ci (λq=>by rw[q,f] at T;injection T)) ?_
       exact h
      |cell=>exact zr T h
      |free=>exact zr T h
      |globalExplicit=>injection h
      |globalImplicit=>injection h
    refine⟨dJ.pre.keep kp,λx hx=>?_,?_,λx d hd=>?_⟩
    ·have sl:=t.slots x hx;have s0:=dJ.slots x hx;refine⟨sl.kind,λa b=>?_,λa=>?_⟩
     ·refine oE (s0.loc a b) λr e=>?_
      exact kp.ns _ r e
     refine aV (s0.cell a) λb w e1 e2=>(oE (kp.cell _ w e2) λw' e3=>?_);exact a_ b w' e1 e3
    ·refine ak t.acc λFi e1 e2=>?_
     refine ar Fi (by(refine aa (ci lf) ?_);exact e1) ?_
     have:U++(outs.take (i+1)).flatten=U++(outs.take i).flatten++out:=by rw[iC,cz Z,p4,ho,eF];simp
     (refine aa this ?_);exact e2
    refine ak (t.view x d (U? (λp hp=>(Y p hp).1) x d hd)) λav h1 h2=>?_
    exact ar av (KO x av ⟨d,hd⟩ h1) h2
   (refine aa (sw Ih) ?_);exact E
  refine I_.run C.pre Wp C.view λo cF l E=>?_
  have t:CL V c A env own Acc D y (dg ρ bs) jt o (U++(outs.take i).flatten):=⟨C.pre,C.slots,ar ao S (em.mono l Q),C.view.mono l⟩;have Jj:(U++(outs.take i).flatten).length+outs[i].length<=B:=by
   have h1:(outs.take (i+1)).flatten.length<=outs.flatten.length:=by
    conv=>rhs;rw[<-p9 (i+1) outs]
    (refine aa p4 ?_;refine aa cA ?_);exact AL
   replace h1:=iC▸h1;replace h1:=(cz Z)▸h1;replace h1:=p4▸h1;replace h1:=cA▸h1;rw[Option.toList_some,Eb,List.flatten_nil,dw] at h1;(refine aa cA ?_);exact Ql hz h1
  cases b with
  |true =>
   refine(FB rfl).mpr ?_
   exact io _ _ jt o cF _ _ (IJ rfl) t Jj E λom EW dR I9 Ff Gn lS=>done om EW dR outs[i] rfl (l.trans I9) Ff Gn lS
  |false =>
   refine(Da (by decide)).mpr ?_
   have ho:=uM rfl;refine done jt o cF [] ho.symm l Ag.refl (by rw[dw];exact t) E
theorem JF(ce:k4 e gens emit)(em:n? V emit last Acc B)(F:∀g∈gens,g.is_async=0)(Z:env.locals≠c.L):∀(gs:List d9) (k:Nat),gens.drop (k+1)=gs->xT V c A env own Acc B D ah gens e emit k (jp V own last gs):=by
 intro gs;induction gs with
 |nil =>
  intro k J ρ P R H s dd K u cl hz st fin;have j:gens[k+1]?=iF:=by(refine az Ef ?_;refine aa J ?_);rfl
  delta oe;refine aa j ?_
  refine ak cl.acc λao m h2=>?_
  have o:=em.kind h2;refine em.run u cl.pre m h2 hz st cl.view λao' H' s' hs W t=>fin (upd R D ao') H' s' hs ⟨λb zz hb=>aj hb,?_,?_⟩ ⟨?_,λx hx=>?_,ar ao' (am ..) W,λx d T=>?_⟩ t
  ·exactλb r e=>⟨r,aa (aj (λq=>by rw[q,m] at e;exact o.1 r (ax e))) e⟩
  ·exactλb r e=>⟨r,by(refine aa (aj (λq=>by rw[q,m] at e;exact o.2 r (ax e))) ?_);exact e⟩
  ·exact cl.pre.keep ⟨λb r e=>⟨r,aa (aj (λq=>by rw[q,m] at e;exact o.1 r (ax e))) e⟩,λb r e=>⟨r,by(refine aa (aj (λq=>by rw[q,m] at e;exact o.2 r (ax e))) ?_);exact e⟩⟩
  ·have sl:=cl.slots x hx;refine⟨sl.kind,λa b=>?_,λa=>?_⟩
   ·refine oE (sl.loc a b) λr e=>?_
    exact⟨r,by(refine aa (aj (λq=>by rw[q,m] at e;exact o.1 r (ax e))) ?_);exact e⟩
   refine aV (sl.cell a) λb w I G=>?_
   exact a_ b w I (aa (aj (λq=>by rw[q,m] at G;exact o.2 w (ax G))) G)
  refine ak (cl.view x d T) λav h3 h4=>(ar av ?_ (h4.mono hs));have I:∀a,(match upd R D ao' a with|some (.cell v)=>v|_=>iF)=(match R a with|some (.cell v)=>v|_=>iF)\/a=D:=λa=>by
   by_cases q:a=D
   ·exact .inr q
   (refine aa (aj q) ?_);exact .inl rfl
  unfold bk at h3 ⊢;cases C:env.kindOf x with
  |none=>rw[C] at h3;injection h3
  |some kk =>
   replace h3:=C▸h3;have l:(match env.cells.lookup x with|some a=>(match R a with|some (.cell v)=>v|_=>iF)|none=>iF)=wf av->(match env.cells.lookup x with|some a=>(match upd R D ao' a with|some (.cell v)=>v|_=>iF)|none=>iF)=wf av:=λh=>by
    cases e:env.cells.lookup x with
    |none=>rw[e] at h;injection h
    |some a =>
     replace h:=e▸h;dsimp only at h ⊢;obtain q|q:=I a
     ·(refine aa q ?_);exact h
     replace h:=q▸h;replace h:=m▸h;cases ao with
     |cell w=>exact GM rfl (o.2 w)
     |_=>injection h
   cases kk with
   | «local» =>
    dsimp only at h3 ⊢;rw[Da Z] at h3 ⊢;by_cases q:env.locals=D
    ·replace h3:=q▸h3;replace h3:=m▸h3;cases ao with
     |ns r=>exact GM rfl (o.1 r)
     |_=>injection h3
    (refine aa (aj q) ?_);exact h3
   |cell=>exact l h3
   |free=>exact l h3
   |globalExplicit=>injection h3
   |globalImplicit=>injection h3
 |cons g' gs ih =>
  intro k J ρ P R H s dd K u cl hz st fin;have j:gens[k+1]?=wf g':=by(refine az Ef ?_;refine aa J ?_);rfl
  have T:gens.drop (k+1+1)=gs:=by have:=congrArg List.tail J;rwa [List.tail_drop] at this
  delta oe;refine aa j ?_
  refine LR u λW hs ds outs S U N=>?_
  obtain rfl:=N;refine xA (hs env) (S.run cl.pre st cl.view λit Kp ko p n Y hB i E f=>?_);have y:CL V c A env own Acc D ah ρ R p dd:=⟨cl.pre,cl.slots,let⟨ao,I,G⟩:=cl.acc;(ar ao I (em.mono i G)),cl.view.mono i⟩;have lp:∀s',St c (upd R it ko) ah p s'->dB c.M A (.compLoop e (k+1) (.ref it) (.ref D) env) (λr s'=>match r with|.ok _=>K s'|.error _=>False) s':=λs' t =>Aa ce em F Z j (ih (k+1) T) U Y hB E y hz t λR' H' O Q ag X z=>fin R' H' O (i.trans Q) ag X z
  exact yq ce j W (lp n f) (Y.self E hB f (lp n f))
end
theorem z7:∀(names:List (Str×c5)) (n:Addr) (X Y:af) (a:Addr),(d5 names n X a=X a/\d5 names n Y a=Y a)\/(d5 names n X a=wf (.cell iF)/\d5 names n Y a=wf (.cell iF)/\n<=a):=by
 intro l0;induction l0 with
 |nil =>intro _ _ _ _;exact .inl ⟨rfl,rfl⟩
 |cons f r e =>
  obtain⟨x,k⟩:=f;intro n X Y a;unfold d5;split
  ·refine cg (e (n+1) (upd X n (.cell iF)) (upd Y n (.cell iF)) a) (λd=>oA d λc b=>?_) (λd=>a! d λc b g=>?_)
   ·by_cases q:a=n
    ·rw[c,b,q,am,am];exact .inr (aC rfl rfl (bD _))
    (refine aa c ?_;refine aa b ?_;refine aa (aj q) ?_;refine aa (aj q) ?_);exact .inl ⟨rfl,rfl⟩
   exact .inr (aC c b (nI g))
  exact e n X Y a
theorem lw{κ α:Type}[BEq κ][LawfulBEq κ]{x:κ}{a:α}:∀{l:List (κ×α)},(l.map (·.1)).Nodup->(x,a)∈l->l.lookup x=wf a:=by
 intro l0;induction l0 with
 |nil =>intros;simp at *
 |cons c r d =>
  obtain⟨y,b⟩:=c;intro hn f;rw[bq] at hn;replace hn:=dq.mp (hn);refine aa cP ?_
  obtain e|e:=aW.mp f
  ·cases e;rw[beq_self_eq_true]
  have:x≠y:=λq=>hn.1 (by(refine az q ?_);exact bh.mpr (ar _ e rfl));refine aa (beq_eq_false_iff_ne.mpr this) ?_
  exact d hn.2 e
theorem yj{cells:List (Str×Addr)}{q:Str×Addr}:∀{names:List (Str×c5)} {cs:List (Str×Addr)},q∈cu cells names cs->q∈cs\/(q.1,p!)∈names:=by
 intro l0;induction l0 with
 |nil =>intro _ h;exact .inl h
 |cons z0 r ih =>
  obtain⟨n,k⟩:=z0;intro cs h;unfold cu at h;split at h
  ·rename_i hf;obtain h|h:=ih h
   ·obtain h|h:=aW.mp h
    ·subst h;(refine aa (beq_iff_eq.mp hf) ?_);exact .inr (.head _)
    exact .inl h
   exact .inr (.tail _ h)
  obtain h|h:=ih h
  ·exact .inl h
  exact .inr (.tail _ h)
noncomputable def c!(sc:bS)(x:Str):Bool:=sc.names.lookup x==wf .local||sc.names.lookup x==wf .cell
section
variable{c:Cx}{A:aD}{e:Expr}{g:d9}{gs:List d9}{emit:ab->Env->Sem Unit}{env:Env}{V:Vx}{last:(Str->Option DV)->List DV->Prop}{Acc:Heap->af->List DV->AO->Prop}{B:Nat}{ah:Str->Option AV}{sc:bS}{ρ:Str->Option DV}{R H:af}{s:ae}{E:ab->ae->Prop}
theorem fa.free(b:fa sc V.T)(p:Pre V c A env R){x:Str}(h:sc.names.lookup x=wf .free):(V.T.lookup x=wf .cell\/V.T.lookup x=wf .free)/\∃a v,env.cells.lookup x=wf a/\R a=wf (.cell v):=by have:=eE.mp b.each _ (dO h);simp only[f_,lZ,bne_self_eq_false,DM,false_or,beq_iff_eq] at this;exact xA this.2 (p.cl x this.2)
theorem fa.kn(b:fa sc V.T)(p:Pre V c A env R):∀q∈sc.names,q.2=.free->∃a,env.cells.lookup q.1=wf a:=λq f e=>by
 obtain⟨x,k⟩:=q;have e:k=.free:=e;subst e;refine fj (b.free p (lw b.nodup f)) λd a v h d=>?_
 exact⟨a,h⟩
noncomputable def layR(sc:bS)(R:af)(D C:Addr)(ao:AO):af:=d5 sc.names (C+1) (upd (upd R D ao) C (.ns λzz=>iF))
theorem JE{D C:Addr}{ao:AO}(so:fa sc V.T)(p:Pre V c A env R)(w:View c env ah R H ρ)(zj:∀a,R a≠iF->a<C)(mP:D<C)(Ic:R D=iF)(Yd:C≠c.L)(ha:Acc c.h₀ H [] ao) :
  CL (V.into sc) c A (eV sc (cu env.cells sc.names []) C env) (c! sc) Acc D ah (c8 sc ρ) (layR sc R D C ao) H []/\(∀x,c! sc x=true->∀b,dn c (eV sc (cu env.cells sc.names []) C env) x=wf b->C<=b):=by
 have hn:=p.fn;have tab:(eV sc (cu env.cells sc.names []) C env).scope.names=lK sc V.T:=by refine aa (Cs p.fn) ?_;exact aa p.tab rfl
 have kind:∀x,(eV sc (cu env.cells sc.names []) C env).kindOf x=(sc.names.lookup x).map λk=>if(k == .free&&V.T.lookup x==wf .cell) then .cell else k:=λx=>by
  show(mj sc env).names.lookup x=_;refine aa (Cs p.fn) ?_;refine aa p.tab ?_
  exact v9
 have low:∀a,a<C->a≠D->layR sc R D C ao a=R a:=λa h1 h2=>by delta layR;refine aa (gH _ (ga h1)) ?_;refine aa (aj (d! h1)) ?_;exact aa (aj h2) rfl
 have u!:∀a ao',R a=wf ao'->layR sc R D C ao a=wf ao':=λa ao' h=>by(refine aa (low a (zj a (by(refine aa h ?_);intro q;injection q)) (λq=>by rw[q,Ic] at h;injection h)) ?_);exact h
 have atC:layR sc R D C ao C=wf (.ns λ_=>iF):=by unfold layR;rw[gH _ (gc C),am]
 have Fw:layR sc R D C ao D=wf ao:=by unfold layR;rw[gH _ (ga mP),aj (d! mP),am]
 have lh:=λq hq=>(qC (so.kn p) q hq).resolve_left (λz=>(GM z aX));have vV:∀x,sc.names.lookup x=wf .cell->∃a,(eV sc (cu env.cells sc.names []) C env).cells.lookup x=wf a/\C+1<=a/\layR sc R D C ao a=wf (.cell iF):=λx hx =>(oy sc.names (C+1) (cu env.cells sc.names []) (upd (upd R D ao) C (.ns λ_=>iF)) x so.nodup).1 hx
 have yR:∀x,sc.names.lookup x=wf .free->(eV sc (cu env.cells sc.names []) C env).cells.lookup x=env.cells.lookup x:=λx hx=>by
  have h1:=(oy sc.names (C+1) (cu env.cells sc.names []) (upd (upd R D ao) C (.ns λ_=>iF)) x so.nodup).2 (by(refine aa hx ?_);intro q;cases q);have h2:=(oz (cells:=env.cells) (cs:=[]) (x:=x) so.nodup).1 hx;refine fj (so.free p hx) λ_ a v h3 _=>?_
  (refine aa h1 ?_;refine aa h2 ?_;refine aa h3 ?_);rfl
 have CT:∀x,c! sc x=true->fb c (eV sc (cu env.cells sc.names []) C env) (layR sc R D C ao) x:=λx hx=>by
  unfold c! at hx;rw[lZ,beq_iff_eq,beq_iff_eq] at hx;obtain hx|hx:=hx
  ·have hk:(eV sc (cu env.cells sc.names []) C env).kindOf x=wf .local:=by rw[kind,hx];rfl
   exact⟨.inl hk,λ_ _=>⟨_,atC⟩,λq=>by(replace q:=hk▸q);cases q⟩
  have hk:(eV sc (cu env.cells sc.names []) C env).kindOf x=wf .cell:=by rw[kind,hx];rfl
  refine aB (vV x hx) λa h1 _ h2=>?_
  exact⟨.inr hk,(λq=>by(replace q:=hk▸q);cases q),λ_=>⟨a,iF,h1,h2⟩⟩
 refine xA ⟨⟨p.G,p.ok,p.rm,p.fi.keep (c6.gK ⟨u!⟩),tab,so.kind,p.glob,p.blt,λx k hk=>?_,λx y a hx hy=>?_,λx hx=>?_⟩,CT,ar ao Fw ha,λx d hd=>?_⟩ (λx hx b hb=>?_)
 ·have df:(lK sc V.T).lookup x=wf k:=hk;replace df:=v9▸df;refine ak (bu.mp df) λk' h1 _=>?_
  have:=eE.mp so.each _ (dO h1);rw[f_] at this;exact this.1
 ·refine qB sc.names (C+1) (cu env.cells sc.names []) (λq hq=>?_) (λq hq r hr e=>?_) (x,a) (dO hx) (y,a) (dO hy) rfl
  ·have h1:=lh q hq;obtain⟨x',a'⟩:=q;have hm:=(yj hq).resolve_left (λz=>(GM z aX));refine fj (so.free p (lw so.nodup hm)) λ_ X4 v h3 h4=>?_
   have h1:=h1;(replace h3:=h1▸h3);(replace h3:=ax h3;subst h3);exact ga (zj a' (by(refine aa h4 ?_);intro q;injection q))
  have h1:=lh q hq;have h2:=lh r hr;replace h1:=e▸h1;exact p.inj _ _ _ h1 h2
 ·have lq:(lK sc V.T).lookup x=wf .cell\/(lK sc V.T).lookup x=wf .free:=hx;replace lq:=v9▸lq;refine cE (x:=sc.names.lookup x) (λe=>?_) (λk e=>?_)
  ·(replace lq:=e▸lq);obtain h|h:=lq<;>injection h
  ·
   rw[e] at lq;by_cases hf:k=.free
   ·subst hf;refine fj (so.free p e) λ_ a v h3 h4=>?_
    exact a_ a v (aa (yR x e) h3) (u! a _ h4)
   have:k=.cell:=by
    obtain h|h:=lq
    ·have h:=ax h;dsimp only at h;split at h
     ·rename_i q;simp only[f_,beq_iff_eq] at q;exact GM q.1 hf
     exact h
    have h:=ax h;dsimp only at h;split at h
    ·injection h
    exact GM h hf
   subst this;refine aB (vV x e) λa h1 _ h2=>?_
   exact a_ a iF h1 h2
 ·unfold c8 at hd;split at hd
  ·rename_i hf;refine ak (w x d hd) λav h1 h2=>(ar av ?_ h2);refine fj (so.free p hf) λht a v h3 h4=>?_
   have hk:env.kindOf x=wf .cell\/env.kindOf x=wf .free:=by
    obtain h|h:=ht
    ·exact .inl (by(replace h:=(bn p.tab)▸h);exact h)
    exact .inr (by(replace h:=(bn p.tab)▸h);exact h)
   have hv:v=wf av:=by unfold bk at h1;obtain hk|hk:=hk<;>((replace h1:=hk▸h1);dsimp only at h1;(replace h1:=h3▸h1);dsimp only at h1;(replace h1:=h4▸h1);exact h1)
   have df:(eV sc (cu env.cells sc.names []) C env).kindOf x=wf .cell\/(eV sc (cu env.cells sc.names []) C env).kindOf x=wf .free:=by
    rw[kind,hf];by_cases q:(p! == .free&&V.T.lookup x==wf .cell)=true
    ·exact .inl (congrArg wf (FB q))
    exact .inr (congrArg wf (Da q))
   delta bk;obtain df|df:=df<;>((refine aa df ?_);(refine aa (yR x hf) ?_;refine aa h3 ?_);dsimp only;(refine aa (u! a _ h4) ?_);exact hv)
  injection hd
 obtain hk|hk:=(CT x hx).kind
 ·unfold dn at hb;replace hb:=hk▸hb;dsimp only at hb;split at hb
  ·injection hb
  (replace hb:=ax hb;subst hb);exact bD _
 unfold dn at hb;replace hb:=hk▸hb;have hb:(eV sc (cu env.cells sc.names []) C env).cells.lookup x=wf b:=hb;unfold c! at hx;rw[lZ,beq_iff_eq,beq_iff_eq] at hx;obtain hx|hx:=hx
 ·rw[kind,hx] at hk;cases hk
 refine aB (vV x hx) λa h1 h2 _=>?_
 (replace hb:=h1▸hb);(replace hb:=ax hb;subst hb);exact nI h2
theorem tZ{RR:ab->Addr->fP->ae->Prop}{it:Addr}{Kp:Nat->af->AO->Prop}{G:AO}{ds:List DV}{outs:List (List DV)}{D:Addr}{ao:AO}(so:fa sc V.T)(ce:k4 e (g::gs) emit)(em:n? (V.into sc) emit last Acc B)(u:∀g'∈g::gs,g'.is_async=0)(co:jm (V.into sc) (c! sc) g (jp (V.into sc) (c! sc) last gs) (c8 sc ρ) ds outs)(p:Pre V c A env R)(w:View c env ah R H ρ)(ix:g4 c A g.target it ds Kp)(hB:Kp 0 H G)(hit:R it=iF)(hz:outs.flatten.length<=B)(W:H D=iF)(O:Acc c.h₀ H [] ao)(st:St c (upd R it G) ah (upd H D ao) s)(fin:∀C r ao' H' s',Sub H H'->H' D=iF->H' C=iF->D≠C->Acc c.h₀ H' outs.flatten ao'->St c R ah (upd (upd H' D ao') C (.ns r)) s'->RR (.ref D) C (.ok .next) s') :
  al c.M A (qi sc env.globals (cu env.cells sc.names []) [] env.qual iF .none (wf env)) (λv gp =>dB c.M A (.compStart e 0 (.ref it) (.ref D) { v with scope:=mj sc env }) (RR (.ref D) v.locals) gp) E s:=by
 have d:=st.aF D (by rw[am];intro q;injection q);have k:D≠it:=λq=>by rw[q,am] at d;injection d
 replace d:=(aj k)▸d;have dM:=λa h q=>st.aF a (aa (aj q) h);have o:St c (upd (upd R it G) D ao) ah H s:=st.part (λa ao' h=>by
  by_cases q:a=D
  ·subst q;obtain h|h:=h
   ·rw[W] at h;injection h
   rw[am] at h;exact .inl (by rw[am];exact h)
  ·obtain h|h:=h
   ·exact .inl (by(refine aa (aj q) ?_);exact h)
   rw[aj q] at h;exact .inr h) λa h=>by
  have q:a≠D:=λq=>h (aa q W);(refine aa (aj q) ?_);exact dM a h q
 refine AA (env:=env) p.ok o λC v gp hC Q hL uB n=>?_
 refine aa uB ?_;refine aa hL ?_
 have X:=Q D (by rw[am];intro q;injection q);have j:=Q it (by rw[aj (aI k),am];intro q;injection q);have P:∀a,R a≠iF->a<C:=λa h=>Q a (by
  by_cases q:a=D
  ·rw[q,d] at h;exact GM rfl h
  refine aa (aj q) ?_
  by_cases U:a=it
  ·rw[U,am];intro z;injection z
  (refine aa (aj U) ?_);exact h)
 have Yh:H C=iF:=by
  cases q:H C with
  |none=>rfl
  |some x=>exact GM (hC C (by(refine aa q ?_);intro z;injection z)) (dz _)
 have S:C≠c.L:=by
  refine rH (n.own C (.ns λm=>iF) (by rw[gH _ (gc C),am])) λm m m z m=>?_
  exact z
 refine oA (JE so p w P X d S O) λcl t=>?_
 have same:∀a,upd (layR sc R D C ao) it G a=d5 sc.names (C+1) (upd (upd (upd R it G) D ao) C (.ns λm=>iF)) a:=λa=>by
  by_cases q:a=it
  ·rw[q,am,gH _ (ga j),aj (d! j),aj (aI k),am]
  refine aa (aj q) ?_
  delta layR;refine cg (z7 sc.names (C+1) (upd (upd R D ao) C (.ns λm=>iF)) (upd (upd (upd R it G) D ao) C (.ns λm=>iF)) a) (λN=>oA N λF y=>?_) (λN=>a! N λF y m=>?_)
  ·refine aa F ?_;refine aa y ?_
   delta upd;exact aa (Da q) rfl
  refine aa F ?_;exact aa y rfl
 have f:St c (upd (layR sc R D C ao) it G) ah H gp:=n.part (λa ao' h=>by
  obtain h|h:=h
  ·have O:=hC a (by(refine aa h ?_);intro q;injection q);exact .inl (by(refine aa (gH _ (ga O)) ?_;refine aa (aj (d! O)) ?_);exact h)
  ·rw[same a] at h;refine cg (z7 sc.names (C+1) (upd (upd (upd R it G) D ao) C (.ns λm=>iF)) (upd H C (.ns λm=>iF)) a) (λJ=>oA J λF y=>?_) (λJ=>a! J λF y m=>?_)
   ·rw[F] at h;by_cases q:a=C
    ·subst q;rw[am] at h;exact .inl (by rw[y,am];exact h)
    rw[aj q] at h;exact .inr h
   rw[F] at h;exact .inl (by(refine aa y ?_);exact h)) λa h=>by
  have O:=hC a h;refine aa (same a) ?_;refine aa (gH _ (ga O)) ?_;refine aa (aj (d! O)) ?_
  exact o.aF a h
 have I:layR sc R D C ao it=iF:=by delta layR;(refine aa (gH _ (ga j)) ?_;refine aa (aj (d! j)) ?_;refine aa (aj (aI k)) ?_);exact hit
 have lp:∀s',St c (upd (layR sc R D C ao) it G) ah H s'->dB c.M A (.compLoop e 0 (.ref it) (.ref D) (eV sc (cu env.cells sc.names []) C env)) (RR (.ref D) C) s':=λs' Y=>by
  refine Aa ce em u S rfl (JF ce em u S gs 0 rfl) co ix hB I cl (by rw[l?,me];exact hz) Y λR' H' Z mS ag dJ i=>(ak dJ.acc λao' F y=>?_);obtain⟨r,h3⟩:=ag.keep.ns C (λm=>iF) (by unfold layR;rw[gH _ (gc C),am]);rw[iA] at y;have y_:H' D=iF:=by
   cases q:H' D with
   |none=>rfl
   |some x=>have:=i.aF D (by(refine aa q ?_);intro z;injection z);rw[F] at this;injection this
  have HV:H' C=iF:=by
   cases q:H' C with
   |none=>rfl
   |some x=>have:=i.aF C (by(refine aa q ?_);intro z;injection z);rw[h3] at this;injection this
  refine fin C r ao' H' Z mS y_ HV (d! X) y (i.part (λa X6 h=>?_) λa h=>?_)
  ·obtain h|h:=h
   ·by_cases q:a=C
    ·subst q;rw[am] at h;exact .inr (aa h3 h)
    rw[aj q] at h;by_cases U:a=D
    ·subst U;rw[am] at h;exact .inr (by(refine aa F ?_);exact h)
    rw[aj U] at h;exact .inl h
   have b:=P a (by(refine aa h ?_);intro q;injection q);have l:a≠D:=λq=>by rw[q,d] at h;injection h
   refine .inr ?_
   refine aa (ag.same a (λx hx q=>GM (t x hx a q) (EC b)) l) ?_
   delta layR;(refine aa (gH _ (ga b)) ?_;refine aa (aj (d! b)) ?_;refine aa (aj l) ?_);exact h
  cases q:R a with
  |none=>rfl
  |some x =>
   exfalso;have b:=P a (by(refine aa q ?_);intro z;injection z);have l:a≠D:=λz=>by rw[z,d] at q;injection q
   rw[aj (d! b),aj l] at h;have:=i.aF a h;replace this:=(ag.same a (λx hx q=>GM (t x hx a q) (EC b)) l)▸this;unfold layR at this;replace this:=(gH _ (ga b))▸this;replace this:=(aj (d! b))▸this;replace this:=(aj l)▸this;replace this:=q▸this;injection this
 exact yq ce rfl (u g (.head _)) (lp gp f) (ix.self I hB f (lp gp f))
def EQ(h:Heap)(H:af)(ds:List DV)(ao:AO):Prop:=∃vs,ao=.list vs/\aJ h H vs ds
def mA(V:Vx)(elt:Expr)(ρ:Str->Option DV)(out:List DV):Prop:=∃d,Ev V elt ρ d/\out=[d]
theorem yC{elt:Expr}:n? V (yB elt) (mA V elt) EQ (2^24) where
 mono:=λs ⟨vs,n,G⟩=>ar vs n (G.mono s)
 kind:=λ⟨vs,n,_⟩=>⟨(λr q=>by(replace q:=n▸q);injection q),(λv q=>by(replace q:=n▸q);injection q)⟩
 run:=λ{c A env R ah H s D ds C ao ρ Q} ⟨d,o,E⟩ p B ⟨vs,t,y⟩ hz st w k=>by
  subst E t;refine aG (o.run p st w λv g u e m b=>?_);have f:g D=iF:=by
   cases q:g D with
   |none=>rfl
   |some x=>have:=b.aF D (by(refine aa q ?_);intro z;injection z);(replace this:=B▸this);injection this
  have j:=b.show B;have F:=y.length;refine aG (ju j (am ..) (by(replace hz:=eQ▸hz;replace hz:=l?▸hz);(refine aa bW ?_);exact Qm hz F) λl i=>bH ?_);refine k (.list (vs++[abs v])) g l e (ar _ rfl ((y.mono e).append (.cons m .nil))) (i.part (λa ao h=>?_) λa h=>?_)
  ·obtain h|h:=h
   ·have q:a≠D:=λq=>by(replace h:=q▸h;replace h:=f▸h);injection h
    exact .inl (by(refine aa (aj q) ?_;refine aa (aj q) ?_);exact h)
   by_cases q:a=D
   ·subst q;rw[am] at h;exact .inl (by rw[am];exact h)
   (replace h:=(aj q)▸h);exact .inr (aa (ci q) h)
  have q:a≠D:=λq=>h (by(refine aa q ?_);exact f);refine aa (aj q) ?_
  exact b.aF a h
theorem fa.names(a:fa sc V.T):∀x∈sc.names,x.2=.local->sc.names.lookup x.1=wf .local:=λx b e=>by
 obtain⟨n,k⟩:=x;have e:k=.local:=e;refine az e ?_
 exact lw a.nodup b
theorem aE.comp{elt:Expr}{pos:Pos}{ds:List DV}{outs:List (List DV)}(l:fa sc V.T)(P:bj V g.target g.iter ρ ds)(W:jm (V.into sc) (c! sc) g (jp (V.into sc) (c! sc) (mA (V.into sc) elt) gs) (c8 sc ρ) ds outs)(hz:outs.flatten.length<=2^24)(d:∀U∈g::gs,U.is_async=0)(hs:autoParam (∀env x,fQ g.iter env x=pure x) aU):aE V (.ListComp elt (g::gs) sc pos) ρ outs.flatten:=⟨λ{c A env R ah H s Q E} p st w k=>by
 rw[eval_ListComp];have v:=d g (.head _);obtain⟨Z,gi,gf,S⟩:=g;have v:S=0:=v;subst v;refine ty (use:=iF) rfl (hs env) (mH (l.kn p)) l.kind l.names (P.run p st w λit Kp Y I G J O a u h=>?_);refine iV p.ok h (by simp[cB]) λD F N f=>(tZ (RR:=λacc C=>tj c.M A E iF Q acc C) l (yo elt _ sc pos) yC d W p (w.mono a) J O u hz N (ar [] rfl .nil) f λC r ao' H' s' t z B y j i=>?_);refine ak j λvs n o=>?_
 obtain rfl:=n;refine ak (i.ns (am ..)) λm L X=>(ar m L (λh' q=>k D vs H' _ (a.trans t) z o ?_));have:=i.t! (am ..) q;rwa [show del (upd (upd H' D (.list vs)) C (.ns r)) C=upd H' D (.list vs) from funext λb=>by
  unfold del upd;by_cases e:b=C
  ·(refine aa (FB e) ?_;refine aa e ?_;refine aa (Da (aI y)) ?_);exact B.symm
  (refine aa (Da e) ?_;exact aa (Da e) rfl)] at this⟩
end
section
open Classical
structure ca where
 g:Gr
 rd:Option (List Int)
 po:Int
 nf:Int
inductive MO where
 |list (ds:List DV)
 |dict (o:Option Addr) (es:List (Int×Int))
 |rows (cf:List (List Int))
 |dv (σ:ca)
inductive XV where
 |fz (d:DV)
 |own (o:MO)
noncomputable def MO.view:MO->Option DV
 |.list ds=>wf (.list ds)
 |.dict _ es=>wf (.dict es)
 |.rows _=>iF
 |.dv _=>iF
noncomputable def XV.view:XV->Option DV
 |.fz d=>wf d
 |.own o=>o.view
noncomputable def XV.iP:XV->Option DV
 |.fz d=>wf d
 |.own _=>iF
abbrev b_:=Str->Option XV
noncomputable def hN(ρ:b_):Str->Option DV:=λx=>(ρ x).bind XV.view
noncomputable def fW(ρ:b_):Str->Option DV:=λx=>(ρ x).bind XV.iP
structure e_(R:af)(a:Addr)(as:List Addr)(cf:List (List Int)):Prop where
 top:R a=wf (.list (as.map AV.ref))
 len:as.length=cf.length
 row:∀(i:Nat) b xs,as[i]?=wf b->cf[i]?=wf xs->R b=wf (.list (xs.map AV.int))
 nd:as.Nodup
 lA:a∉as
theorem e_.on{R R':af}{a:Addr}{as:List Addr}{cf:List (List Int)}(r:e_ R a as cf)(h:∀b,b=a\/b∈as->R' b=R b):e_ R' a as cf :=⟨by(refine aa (h a (.inl rfl)) ?_);exact r.top,r.len,λi b xs c d=>aa (h b (.inr (en c))) (r.row i b xs c d),r.nd,r.lA⟩
def fG(h:Heap)(R H:af)(F:Addr->Prop)(av:AV):XV->Prop
 |.fz d=>Rep h H av d
 |.own (.list ds)=>∃a vs,av=.ref a/\R a=wf (.list vs)/\aJ h H vs ds/\F=(·=a)
 |.own (.dict o es)=>∃a ep,av=.ref a/\R a=wf (.dict (es.map λp=>(p.1,AV.int p.2)) ep)/\F=(·=a)/\∀b,o=wf b->a=b
 |.own (.rows cf)=>∃a as,av=.ref a/\e_ R a as cf/\F=λb=>b=a\/b∈as
 |.own (.dv A)=>∃σ l,av=.ref σ.self/\A=⟨σ.g,σ.rd,σ.po,σ.nf⟩/\bC R F σ l
theorem bC.on{H H':af}{F:Addr->Prop}{σ:cn}{l:Lay}(S:bC H F σ l)(h:∀a,F a->H' a=H a):bC H' F σ l :=
 ⟨aa (h _ S.fp.1) S.inst,aa (h _ S.fp.2.1) S.attr,aa (h _ S.fp.2.2) S.dict,λk c=>by(refine aa (h _ (S.eA k c).1) ?_);exact S.node k c,λk c=>aa (h _ (S.eA k c).2.1) (S.dK k c),
  λk c=>by(refine aa (h _ (S.eA k c).2.2) ?_);exact S.succ k c,S.inj,S.nodup,λr f=>by refine a! (S.c_ r f) λi g e=>?_;exact aC (aa (h _ e) i) g e,S.fp,S.eA,λb d=>aa (h b d) (S.all b d)⟩
theorem fG.on{h:Heap}{R R' H H':af}{F:Addr->Prop}{av:AV}{xv:XV}(x:fG h R H F av xv)(hs:Sub H H')(g:∀a,F a->R' a=R a):fG h R' H' F av xv:=by
 cases xv with
 |fz d=>exact Rep.mono hs x
 |own o =>
  cases o with
  |list ds =>
   refine jJ x λa vs f e i c=>?_
   exact dc a vs f (aa (g a (aa c rfl)) e) (i.mono hs) c
  |dict o es =>
   refine jJ x λa ep f e c k=>?_
   exact dc a ep f (aa (g a (aa c rfl)) e) c k
  |rows cf =>
   refine dP x λa as f e c=>?_
   exact cj a as f (e.on λb j=>g b (aa c j)) c
  |dv σ =>
   refine dP x λdU l f e i=>?_
   exact cj dU l f e (i.on g)
structure bX(V:Vx)(c:Cx)(A:aD)(env:Env)(R0:af):Prop where
 G:c.G=V.G
 ok:c.Ok
 rm:bL c A V.n
 fi:b8 R0 c.outer
 tab:env.scope.names=V.T
 eq:env=c.bd
 nm:∀x k,V.T.lookup x=wf k->gL x=true
 inj:∀x y a,env.cells.lookup x=wf a->env.cells.lookup y=wf a->x=y
 vn:∀x,V.T.lookup x≠wf .free
 code:∀a q,V.P=wf (a,q)->(a,q)∈V.G.tabs/\(∀q',(a,q')∈V.G.tabs->q'=q)/\env.qual++"<lambda>"=q/\∃cc,env.code=.ref cc/\CodeHd c.h₀ cc a
noncomputable def isVar(T:List (Str×c5))(x:Str):Bool:=T.lookup x==wf .local||T.lookup x==wf .cell
structure Fs(V:Vx)(c:Cx)(env:Env)(R0:af)(ρ:b_)(ex:Option (AV×XV))(ah:Str->Option AV)(R H:af)(F:Option Str->Addr->Prop)(s:ae):Prop where
 st:St c R ah H s
 slots:∀x,isVar V.T x=true->fb c env R x
 var:∀x xv,ρ x=wf xv->∃av,bk c env ah R x=wf av/\fG c.h₀ R H (F (wf x)) av xv
 ext:∀av xv,ex=wf (av,xv)->fG c.h₀ R H (F iF) av xv
 foot:∀i a,F i a->R a≠iF/\R0 a=iF/\∀x,isVar V.T x=true->dn c env x≠wf a
 fU:∀i j a,i≠j->F i a->¬F j a
 base:∀a ao,R0 a=wf ao->R a=wf ao
 cells:∀x a,isVar V.T x=true->dn c env x=wf a->R0 a=iF
def FS(V:Vx)(c:Cx)(env:Env)(R0 H0:af)(ρ:b_)(ex:Option (AV×XV))(s:ae):Prop:=∃ah R H F,Sub H0 H/\Fs V c env R0 ρ ex ah R H F s
section
variable{V:Vx}{c:Cx}{A:aD}{env:Env}{R0:af}{ρ:b_}{ex:Option (AV×XV)}{ah:Str->Option AV}{R H:af}{F:Option Str->Addr->Prop}{s:ae}{E:ab->ae->Prop}
theorem bX.fn(f:bX V c A env R0):env.scope.kind=.function:=aa f.eq f.ok.fn
theorem bX.locals(f:bX V c A env R0):env.locals=c.L:=by(exact aa f.eq rfl)
theorem bX.pre(f:bX V c A env R0)(hs:∀x,isVar V.T x=true->fb c env R x)(d:∀a ao,R0 a=wf ao->R a=wf ao):Pre V c A env R :=
 ⟨f.G,f.ok,f.rm,f.fi.keep (c6.gK ⟨d⟩),f.tab,f.fn,aa f.eq f.ok.glob,aa f.eq f.ok.blt,f.nm,f.inj,λx hx=>by
  have hx:V.T.lookup x=wf .cell:=hx.resolve_right (f.vn x);have b:env.kindOf x=wf .cell:=by(replace hx:=(bn f.tab)▸hx);exact hx
  exact(hs x (by unfold isVar;(refine aa hx ?_);rfl)).cell b⟩
theorem Fs.pre(m:Fs V c env R0 ρ ex ah R H F s)(f:bX V c A env R0):Pre V c A env R:=f.pre m.slots m.base
theorem Fs.grow{H':af}{s':ae}(m:Fs V c env R0 ρ ex ah R H F s)(hs:Sub H H')(st:St c R ah H' s'):Fs V c env R0 ρ ex ah R H' F s' :=⟨st,m.slots,λx xv e=>let⟨av,h1,h2⟩:=m.var x xv e;(ar av h1 (h2.on hs λa a=>rfl)),λav xv e=>(m.ext av xv e).on hs λa a=>rfl,m.foot,m.fU,m.base,m.cells⟩
theorem Fs.less{ρ':b_}(m:Fs V c env R0 ρ ex ah R H F s)(h:∀x xv,ρ' x=wf xv->ρ x=wf xv):Fs V c env R0 ρ' ex ah R H F s :=⟨m.st,m.slots,λx xv e=>m.var x xv (h x xv e),m.ext,m.foot,m.fU,m.base,m.cells⟩
theorem FS.less{H0:af}{ρ':b_}(m:FS V c env R0 H0 ρ ex s)(h:∀x xv,ρ' x=wf xv->ρ x=wf xv):FS V c env R0 H0 ρ' ex s:=let⟨a,b,d,e,q,m⟩:=m;⟨a,b,d,e,q,m.less h⟩
theorem Fs.vm(m:Fs V c env R0 ρ ex ah R H F s):Fs V c env R0 ρ iF ah R H F s:=⟨m.st,m.slots,m.var,λa a e=>((by injection e)),m.foot,m.fU,m.base,m.cells⟩
noncomputable def bQ(R H:af)(S:Addr->Prop):af:=λa=>if S a then R a else H a
noncomputable def aN(R:af)(S:Addr->Prop):af:=λa=>if S a then iF else R a
theorem St.shown{S:Addr->Prop}(st:St c R ah H s):St c (aN R S) ah (bQ R H S) s :=
 st.part (λa ao h=>by
  unfold bQ aN at h;by_cases q:S a
  ·simp only[FB q] at h;exact h.elim .inr (λz=>(by injection z))
  ·simp only[Da q] at h;exact h) λa h=>by
  unfold bQ at h;delta aN;by_cases q:S a
  ·exact aa (FB q) rfl
  rw[Da q] at h ⊢;exact st.aF a h
theorem St.hidden{S:Addr->Prop}{H':af}{s':ae}(st:St c R ah H s)(d:∀a,S a->R a≠iF)(hs:Sub (bQ R H S) H')(b:St c (aN R S) ah H' s'):St c R ah (aN H' S) s'/\Sub H (aN H' S):=by
 refine⟨b.part (λa ao h=>?_) λa h=>?_,⟨λa ao e=>?_⟩⟩
 ·obtain h|h:=h
  ·unfold aN at h;by_cases q:S a
   ·rw[FB q] at h;injection h
   rw[Da q] at h;exact .inl h
  by_cases q:S a
  ·exact .inl (hs.le a ao (by unfold bQ;(refine aa (FB q) ?_);exact h))
  exact .inr (by unfold aN;(refine aa (Da q) ?_);exact h)
 ·unfold aN at h;by_cases q:S a
  ·rw[FB q] at h;exact GM rfl h
  replace h:=(Da q)▸h;have:=b.aF a h;unfold aN at this;rwa [Da q] at this
 have q:=λq=>d a q (st.aF a (by(refine aa e ?_);intro z;injection z));delta aN;refine aa (Da q) ?_
 exact hs.le a ao (by unfold bQ;(refine aa (Da q) ?_);exact e)
theorem sq{S:Addr->Prop}(st:St c R ah H s)(b:∀a,S a->R a≠iF):Sub H (bQ R H S):=⟨λa ao e=>by have q:=λq=>b a q (st.aF a (by(refine aa e ?_);intro z;injection z));unfold bQ;(refine aa (Da q) ?_);exact e⟩
theorem jG{R':af}{b:Str->Option AV}{x:Str}(f:bX V c A env R0)(g:∀a,isVar V.T x=true->dn c env x=wf a->R' a=R a)(h:b x=ah x):bk c env b R' x=bk c env ah R x:=by
 delta bk;cases d:env.kindOf x with
 |none=>rfl
 |some kk =>
  cases kk with
  | «local»=>dsimp only;(refine aa (FB f.locals) ?_;refine aa (FB f.locals) ?_;exact aa h rfl)
  |cell =>
   dsimp only;cases e:env.cells.lookup x with
   |none=>rfl
   |some a =>
    have i:V.T.lookup x=wf .cell:=by(refine az f.tab ?_);exact d
    dsimp only;exact aa (g a (by unfold isVar;(refine aa i ?_);rfl) (by unfold dn;(refine aa d ?_);exact e)) rfl
  |free=>exact GM (by(refine az f.tab ?_);exact d) (f.vn x)
  |globalExplicit=>rfl
  |globalImplicit=>rfl
noncomputable def DV.scalar:DV->Bool
 |.none|.bool _|.int _=>true
 |_=>false
theorem Rep.any{h h':Heap}{H H':af}{v:AV}{d:DV}(r:Rep h H v d)(a:d.scalar=true):Rep h' H' v d:=by
 cases r with
 |none=>exact .none
 |bool b=>exact .bool b
 |int i=>exact .int i
 |list=>injection a
 |tuple=>injection a
 |eg=>injection a
 |dict=>injection a
theorem aJ.any{h h':Heap}{H H':af}{vs:List AV}{ds:List DV}(r:aJ h H vs ds)(b:∀d∈ds,d.scalar=true):aJ h' H' vs ds:=⟨r.length,λi v d c a=>(r.at' i v d c a).any (b d (en a))⟩
def Seen(ρ:b_)(F:Option Str->Addr->Prop)(a:Addr):Prop:=∃x o,ρ x=wf (.own o)/\o.view≠iF/\F (wf x) a
theorem Fs.seen(m:Fs V c env R0 ρ ex ah R H F s):∀a,Seen ρ F a->R a≠iF:=λa ⟨x,o,_,_,h⟩=>(m.foot _ a h).1
theorem Fs.pC(m:Fs V c env R0 ρ ex ah R H F s)(f:bX V c A env R0):Pre V c A env (aN R (Seen ρ F)):=by
 refine f.pre (λx k=>?_) λa ao e=>?_
 ·have sl:=m.slots x k;refine⟨sl.kind,λj g=>GM f.locals g,λj=>?_⟩;refine aV (sl.cell j) λa v g l=>(a_ a v g ?_);delta aN;rw[Da]
  ·exact l
  intro d;refine dP d λy o h h i=>?_
  exact(m.foot _ a i).2.2 x k (by unfold dn;(refine aa j ?_);exact g)
 delta aN;rw[Da]
 ·exact m.base a ao e
 intro b;refine dP b λy o h h i=>?_
 rw[(m.foot _ a i).2.1] at e;injection e
theorem Fs.view(m:Fs V c env R0 ρ ex ah R H F s)(f:bX V c A env R0):View c env ah (aN R (Seen ρ F)) (bQ R H (Seen ρ F)) (hN ρ):=by
 intro x d t;refine ak (xB.mp t) λxv n h2=>(ak (m.var x xv n) λav z l=>?_);refine ar av ?_ ?_
 ·refine az z ?_
  refine jG f (λa r u=>?_) rfl;delta aN;rw[Da];intro b;refine dP b λy o p p v=>?_
  exact(m.foot _ a v).2.2 x r u
 have hs:=sq m.st m.seen;cases xv with
 |fz d'=>(replace h2:=ax h2;subst h2);exact Rep.mono hs l
 |own o =>
  cases o with
  |list ds =>
   replace h2:=ax h2;subst h2;refine aV l λa vs i g=>?_
   obtain rfl:=i;refine a! g λk w j=>(.lst (.inl ?_) (w.mono hs));delta bQ;refine aa (FB (cj x _ n (λq=>(by injection q)) (aa j rfl))) ?_
   exact k
  |dict o es =>
   replace h2:=ax h2;subst h2;refine aV l λa ep h e=>?_
   obtain rfl:=h;refine a! e λk j p=>(.dict (ep:=ep) ?_);delta bQ;refine aa (FB (cj x _ n (λq=>(by injection q)) (aa j rfl))) ?_
   exact k
  |dv σ=>injection h2
  |rows cf=>injection h2
theorem Fs.ja(m:Fs V c env R0 ρ ex ah R H F s):View c env ah R H (fW ρ):=by
 intro x d a;refine ak (xB.mp a) λxv f h2=>(ak (m.var x xv f) λav e b=>?_);cases xv with
 |fz d'=>(replace h2:=ax h2;subst h2);exact ar av e b
 |own o=>injection h2
variable{e:Expr}{d:DV}{ds:List DV}
structure bb(V:Vx)(e:Expr)(ρ:b_)(xv:XV):Prop where
 run:∀{c:Cx} {A:aD} {env:Env} {R0:af} {ex:Option (AV×XV)} {ah:Str->Option AV} {R H:af} {F:Option Str->Addr->Prop} {s:ae} {Q:ab->ae->Prop} {E:ab->ae->Prop},bX V c A env R0->Fs V c env R0 ρ ex ah R H F s ->
  (∀v R' H' F' s',Sub R R'->Sub H H'->(∀a,F' iF a->R a=iF)->Fs V c env R0 ρ (wf (abs v,xv)) ah R' H' F' s'->Q v s')->al c.M A (eval e env) Q E s
structure bK(V:Vx)(e:Expr)(ρ:b_)(d:DV):Prop where
 run:∀{c:Cx} {A:aD} {env:Env} {R0:af} {ex:Option (AV×XV)} {ah:Str->Option AV} {R H:af} {F:Option Str->Addr->Prop} {s:ae} {Q:ab->ae->Prop} {E:ab->ae->Prop},bX V c A env R0->Fs V c env R0 ρ ex ah R H F s ->
  (∀v H' s',Sub H H'->(∀h H,Rep h H (abs v) d)->Fs V c env R0 ρ ex ah R H' F s'->Q v s')->al c.M A (eval e env) Q E s
structure bU(V:Vx)(e:Expr)(ρ:b_)(b:Bool):Prop where
 run:∀{c:Cx} {A:aD} {env:Env} {R0:af} {ex:Option (AV×XV)} {ah:Str->Option AV} {R H:af} {F:Option Str->Addr->Prop} {s:ae} {Q:Bool->ae->Prop} {E:ab->ae->Prop},bX V c A env R0->Fs V c env R0 ρ ex ah R H F s ->
  (∀R' H' F' s',Sub H H'->Fs V c env R0 ρ ex ah R' H' F' s'->Q b s')->al c.M A (isTrue e env (eval e env)) Q E s
theorem bK.of(i:Ev V e (hN ρ) d)(j:d.scalar=true):bK V e ρ d:=⟨λf m k=>by refine i.run (m.pC f) m.st.shown (m.view f) λv H' s' hs h c=>(oA (m.st.hidden m.seen hs c) λb a=>?_);exact k v _ s' a (λg g=>h.any j) (m.grow a b)⟩
theorem bU.of{b:Bool}(g:bT V e (hN ρ) b):bU V e ρ b:=⟨λf m k=>by refine g.run (m.pC f) m.st.shown (m.view f) λH' s' hs d=>(oA (m.st.hidden m.seen hs d) λc a=>?_);exact k _ _ _ s' a (m.grow a c)⟩
theorem Fs.jO{av:AV}{d:DV}(m:Fs V c env R0 ρ ex ah R H F s)(k:Rep c.h₀ H av d):Fs V c env R0 ρ (wf (av,.fz d)) ah R H (λi a=>i≠iF/\F i a) s :=
 ⟨m.st,m.slots,λx xv e=>by
  refine ak (m.var x xv e) λav f b=>(ar av f ?_);refine aa (show(λa=>wf x≠iF/\F (wf x) a)=F (wf x) from funext λa=>propext ⟨λq=>q.2,λq=>⟨(λz=>(by injection z)),q⟩⟩) ?_
  exact b,λl g e=>by cases e;exact k,λi a h=>m.foot i a h.2,λi j a h f b=>m.fU i j a h f.2 b.2,m.base,m.cells⟩
theorem bb.sc(b:bK V e ρ d):bb V e ρ (.fz d):=⟨λf m k=>b.run f m λv H' s' hs a m'=>k v _ H' _ s' (Sub.refl _) hs (λc q=>GM rfl q.1) (m'.jO (a _ _))⟩
theorem bb.iP(c:Ev V e (fW ρ) d):bb V e ρ (.fz d):=⟨λf m k=>c.run (m.pre f) m.st m.ja λv H' s' hs b a=>k v _ H' _ s' (Sub.refl _) hs (λg q=>GM rfl q.1) ((m.grow hs a).jO b)⟩
theorem Fs.iV{H':af}{s':ae}{a:Addr}{vs:List AV}(m:Fs V c env R0 ρ ex ah R H F s)(f:bX V c A env R0)(hs:Sub H H')(l:R a=iF)(o:aJ c.h₀ H' vs ds)(st:St c (upd R a (.list vs)) ah H' s') :
  Fs V c env R0 ρ (wf (.ref a,.own (.list ds))) ah (upd R a (.list vs)) H' (λi b=>if i=iF then b=a else F i b) s':=by
 have sub:Sub R (upd R a (.list vs)):=(Sub.refl _).upd l;have ne:∀i b,F i b->b≠a:=λi b h q=>(m.foot i b h).1 (by(refine aa q ?_);exact l);refine⟨st,λx n=>(m.slots x n).sub sub,λx xv e=>?_,λav xv e=>?_,λi b h=>?_,λi j b h d k=>?_,λb ao e=>sub.le _ _ (m.base b ao e),m.cells⟩
 ·refine ak (m.var x xv e) λav d k=>(ar av (o8 d sub) ?_);refine aa (funext λb=>Da (λz=>nomatch z)) ?_
  exact k.on hs λb p=>aj (ne _ b p)
 ·cases e;refine dc a vs rfl (am ..) o ?_
  exact funext λb=>FB rfl
 ·cases i with
  |none =>
   have h:b=a:=h;subst h;refine aC (by rw[am];intro q;injection q) ?_ (λx n q=>?_)
   ·cases e:R0 b with
    |none=>rfl
    |some ao=>have:=m.base b ao e;(replace this:=l▸this);injection this
   refine cg ((m.slots x n).at q) (λg=>oE g λr e=>?_) (λg=>oE g λv e=>?_)
   ·rw[l] at e;injection e
   rw[l] at e;injection e
  |some x =>
   have h:F (wf x) b:=h;refine a! (m.foot _ b h) λd k t=>?_
   exact aC (aa (aj (ne _ b h)) d) k t
 cases i with
 |none =>
  have d:b=a:=d;cases j with
  |none=>exact h rfl
  |some y=>exact ne (wf y) b k d
 |some x =>
  cases j with
  |none=>exact ne (wf x) b d k
  |some y=>exact m.fU _ _ b h d k
theorem bb.lz(l:aE V e (fW ρ) ds):bb V e ρ (.own (.list ds)):=⟨λ{c A env R0 ex ah R H F s Q E} f m k=>by
 refine l.run (m.pre f) m.st m.ja λa vs H' s' hs i j d=>?_
 have g:=d.aF a (by rw[am];intro q;injection q);refine k _ _ _ _ s' ((Sub.refl _).upd g) hs (λb q=>aa (show b=a from q) g) (m.iV f hs g j (d.part (λb ao h=>?_) λb h=>?_))
 ·obtain h|h:=h
  ·exact .inl (aa (aj (λq=>by rw[q,i] at h;injection h)) h)
  by_cases q:b=a
  ·subst q;rw[am] at h;exact .inl (by rw[am];exact h)
  rw[aj q] at h;exact .inr h
 have q:b≠a:=λq=>h (aa q i);refine aa (aj q) ?_
 exact d.aF b (aa (aj q) h)⟩
noncomputable def putN(ρ:b_)(x:Str)(v:XV):b_:=λy=>if y=x then wf v else ρ y
theorem Fs.store{Q:Unit->ae->Prop}{x:Str}{v:ab}{xv:XV}(f:bX V c A env R0)(m:Fs V c env R0 ρ (wf (abs v,xv)) ah R H F s)(u:isVar V.T x=true)(k:∀b R' L s',Fs V c env R0 (putN ρ x xv) iF b R' H L s'->Q () s'):al c.M A (ml env x v) Q E s:=by
 refine wn m.st f.fn f.inj (m.slots x u) λb R' s' p J I B G O N=>k b R' (λi=>match i with|none=>λw=>False|some y=>if y=x then F iF else F (wf y)) s' ?_
 have same:=λi a h=>B a ((m.foot i a h).2.2 x u);have D:∀y,y≠x->(if y=x then F iF else F (wf y))=F (wf y):=λy t=>Da t;have d:∀i a,F i a->R' a≠iF/\R0 a=iF/\∀x,isVar V.T x=true->dn c env x≠wf a:=λi a h=>by
  refine a! (m.foot i a h) λo n C=>?_
  exact aC (by(refine aa (same i a h) ?_);exact o) n C
 refine⟨p,λy t=>G y (m.slots y t),λy yv e=>?_,λw w e=>((by injection e)),λi a h=>?_,λi j a l ha hb=>?_,λa ao e=>?_,m.cells⟩
 ·by_cases q:y=x
  ·subst q;have e:(if y=y then wf xv else ρ y)=wf yv:=e;(replace e:=(FB rfl)▸e);(replace e:=ax e;subst e);refine ar _ J ?_
   show fG _ _ _ (if y=y then F iF else F (wf y)) _ _;refine aa (FB rfl) ?_
   exact(m.ext _ _ rfl).on (Sub.refl _) (same iF)
  have e:(if y=x then wf xv else ρ y)=wf yv:=e;replace e:=(Da q)▸e;refine ak (m.var y yv e) λav o n=>?_
  refine ar av (by(refine aa (I y q) ?_);exact o) ?_
  show fG _ _ _ (if y=x then F iF else F (wf y)) _ _;refine aa (D y q) ?_
  exact n.on (Sub.refl _) (same (wf y))
 ·cases i with
  |none=>exact h.elim
  |some y =>
   by_cases q:y=x
   ·have h:(if y=x then F iF else F (wf y)) a:=h;(replace h:=(FB q)▸h);exact d iF a h
   have h:(if y=x then F iF else F (wf y)) a:=h;(replace h:=(Da q)▸h);exact d (wf y) a h
 ·cases i with
  |none=>exact ha.elim
  |some y =>
   cases j with
   |none=>exact hb.elim
   |some z =>
    have ha:(if y=x then F iF else F (wf y)) a:=ha;have hb:(if z=x then F iF else F (wf z)) a:=hb;have r:y≠z:=λq=>l (aa q rfl);by_cases q:y=x
    ·replace ha:=(FB q)▸ha;have g:z≠x:=λg=>r (aa q (aa g rfl));replace hb:=(Da g)▸hb;exact m.fU iF (wf z) a (λz=>(by injection z)) ha hb
    replace ha:=(Da q)▸ha;by_cases g:z=x
    ·replace hb:=(FB g)▸hb;exact m.fU iF (wf y) a (λz=>(by injection z)) hb ha
    replace hb:=(Da g)▸hb;exact m.fU (wf y) (wf z) a l ha hb
 rw[B a]
 ·exact m.base a ao e
 intro q;have:=m.cells x a u q;(replace this:=e▸this);injection this
end
end
section
open Classical
abbrev Nm:=List (Str×XV)
noncomputable def aM(l:Nm):b_:=λx=>l.lookup x
def n9(ρ:b_):Nm->Prop
 |[]=>True
 |(x,v)::r=>ρ x=wf v/\n9 ρ r
structure a?(l l':Nm):Prop where
 le:∀x xv,aM l x=wf xv->aM l' x=wf xv
theorem n9.mem{ρ:b_}:∀{l:Nm},n9 ρ l->∀x v,aM l x=wf v->ρ x=wf v
 |[],_,_,_,e=>by injection e
 |(y,u)::r,⟨h1,h2⟩,x,v,e=>by
  unfold aM at e;rw[cP] at e;refine k9 (x:=x==y) (λa=>?_) (λa=>?_)
  ·(replace e:=a▸e);(replace e:=ax e;subst e);(refine aa (beq_iff_eq.mp a) ?_);exact h1
  (replace e:=a▸e);exact n9.mem h2 x v e
theorem a?.of{l l':Nm}(h:n9 (aM l') l):a? l l':=⟨h.mem⟩
theorem a?.refl(l:Nm):a? l l:=⟨λa a e=>e⟩
theorem cJ{l:Nm}{x:Str}{v:XV}:putN (aM l) x v=aM ((x,v)::l):=funext λy=>by
 unfold putN aM;refine aa cP ?_
 by_cases q:y=x
 ·refine aa (FB q) ?_;exact aa (beq_iff_eq.mpr q) rfl
 refine aa (Da q) ?_;exact aa (beq_eq_false_iff_ne.mpr q) rfl
inductive Fl where
 |next
 |brk
 |cont
 |ret (xv:XV)
def mB(V:Vx)(c:Cx)(env:Env)(R0 H0:af)(l:Nm)(Q:Flow->ae->Prop):Fl->Prop
 |.next=>∀s',FS V c env R0 H0 (aM l) iF s'->Q .next s'
 |.brk=>∀s',FS V c env R0 H0 (aM l) iF s'->Q .brk s'
 |.cont=>∀s',FS V c env R0 H0 (aM l) iF s'->Q .cont s'
 |.ret xv=>∀v s',FS V c env R0 H0 (aM l) (wf (abs v,xv)) s'->Q (.ret v) s'
structure Ex(V:Vx)(t:Stmt)(l:Nm)(fl:Fl)(l':Nm):Prop where
 run:∀{c:Cx} {A:aD} {env:Env} {R0 H0:af} {s:ae} {Q:Flow->ae->Prop},bX V c A env R0->FS V c env R0 H0 (aM l) iF s->mB V c env R0 H0 l' Q fl->al c.M A (exec t env) Q (λzz zz=>False) s
structure au(V:Vx)(ts:List Stmt)(l:Nm)(fl:Fl)(l':Nm):Prop where
 run:∀{c:Cx} {A:aD} {env:Env} {R0 H0:af} {s:ae} {Q:Flow->ae->Prop},bX V c A env R0->FS V c env R0 H0 (aM l) iF s->mB V c env R0 H0 l' Q fl->al c.M A (eo ts env) Q (λzz zz=>False) s
theorem mB.less{V:Vx}{c:Cx}{env:Env}{R0 H0:af}{l l':Nm}{Q:Flow->ae->Prop}{fl:Fl}(h:mB V c env R0 H0 l Q fl)(a:a? l l'):mB V c env R0 H0 l' Q fl:=by
 cases fl with
 |next=>exactλs' m=>h s' (m.less a.le)
 |brk=>exactλs' m=>h s' (m.less a.le)
 |cont=>exactλs' m=>h s' (m.less a.le)
 |ret xv=>exactλv s' m=>h v s' (m.less a.le)
section
variable{V:Vx}{l l' l₁ l₂:Nm}{fl:Fl}{t:Stmt}{ts:List Stmt}{e i:Expr}{x:Str}{xv:XV}{d:DV}{ds:List DV}{pos px:Pos}
theorem au.nil:au V [] l .next l:=⟨λf m k=>bi (k _ m)⟩
theorem au.cons(h:Ex V t l .next l₁)(h':au V ts l₁ fl l₂):au V (t::ts) l fl l₂:=⟨λf m k=>tz (h.run f m λs' m'=>h'.run f m' k)⟩
theorem au.last(h:Ex V t l fl l₁):au V [t] l fl l₁:=⟨λf m k=>by
 refine tz (h.run f m ?_);cases fl with
 |next=>exactλs' m'=>bi (k s' m')
 |brk=>exact k
 |cont=>exact k
 |ret xv=>exact k⟩
theorem au.ret{xv:XV}(h:Ex V t l (.ret xv) l₁):au V (t::ts) l (.ret xv) l₁:=⟨λf m k=>tz (h.run f m k)⟩
theorem au.weak(h:au V ts l₁ fl l₂)(a:a? l₁ l):au V ts l fl l₂:=⟨λf m k=>h.run f (m.less a.le) k⟩
theorem au.drop(h:au V ts l fl l₁)(a:a? l₂ l₁):au V ts l fl l₂:=⟨λf m k=>h.run f m (k.less a)⟩
theorem Ex.drop(h:Ex V t l fl l₁)(a:a? l₂ l₁):Ex V t l fl l₂:=⟨λf m k=>h.run f m (k.less a)⟩
theorem Ex.assign(h:bb V e (aM l) xv)(i:isVar V.T x=true)(hs:autoParam (∀env:Env,env.scope.names=V.T->iH e (wf (.Name x px)) pos.line env=pure false) aU):Ex V (.Assign [.Name x px] e pos) l .next ((x,xv)::l):=⟨λf m k=>by refine dQ m λah R H F low m=>(dI (h.run f m λv R' H' p s' n j o m'=>m'.store f i λa d g b c=>k b (ei a d H' g (low.trans j) ?_)) (hs _ f.tab));(refine az cJ ?_);exact c⟩
theorem Ex.Cu(h:bb V e (aM l) xv):Ex V (.Return (wf e) pos) l (.ret xv) l:=⟨λf m k=>by
 refine dQ m λah R H F low m=>?_
 exact nZ (h.run f m λv R' H' b s' c a d m'=>k v s' (ei ah R' H' b (low.trans a) m'))⟩
theorem Ex.ret(h:bb V e (aM l) xv):Ex V (.Return (wf e) pos) l (.ret xv) []:=(Ex.Cu h).drop ⟨λa a e=>(by injection e)⟩
theorem Ex.ite{t:Expr}{body a:List Stmt}{b:Bool}(e:bU V t (aM l) b)(h:b=true->au V body l fl l')(g:b=false->au V a l fl l'):Ex V (.If t body a pos) l fl l':=⟨λf m k=>by
 refine dQ m λah R H F low m=>(eL (e.run f m λR' H' d s' c m'=>?_));cases b with
 |true=>refine(FB rfl).mpr ?_;exact(h rfl).run f ⟨ah,R',H',d,low.trans c,m'⟩ k
 |false=>refine(Da (by decide)).mpr ?_;exact(g rfl).run f ⟨ah,R',H',d,low.trans c,m'⟩ k⟩
end
end
section
open Classical
section
variable{V:Vx}{c:Cx}{A:aD}{env:Env}{R0:af}{ρ:b_}{ex:Option (AV×XV)}{ah:Str->Option AV}{R H:af}{F:Option Str->Addr->Prop}{s:ae}{E:ab->ae->Prop}{x:Str}{ds:List DV}
theorem Fs.jM{R' H':af}{s':ae}{G:Addr->Prop}{xv:XV}{av:AV}(f:bX V c A env R0)(m:Fs V c env R0 ρ ex ah R H F s)(hs:Sub H H')(st:St c R' ah H' s')(E:bk c env ah R x=wf av)(I:∀a,¬F (wf x) a->R a≠iF->R' a=R a)(L:∀a,G a->R' a≠iF/\(F (wf x) a\/R a=iF))(P:fG c.h₀ R' H' G av xv):Fs V c env R0 (putN ρ x xv) ex ah R' H' (λi=>if i=wf x then G else F i) s':=by
 have d:∀y a,isVar V.T y=true->dn c env y=wf a->R' a=R a:=λy a n p=>I a (λq=>(m.foot _ a q).2.2 y n p) (by obtain⟨r,e⟩|⟨v,e⟩:=(m.slots y n).at p<;>((refine aa e ?_);intro q;injection q))
 have l:∀a ao,R0 a=wf ao->R' a=wf ao:=λa ao e=>by(refine aa (I a (λq=>by rw[(m.foot _ a q).2.1] at e;injection e) (by(refine aa (m.base a ao e) ?_);intro q;injection q)) ?_);exact m.base a ao e
 have O:∀i,i≠wf x->(if i=wf x then G else F i)=F i:=λi h=>Da h;have k:=λi a hi h=>I a (m.fU i (wf x) a hi h) (m.foot i a h).1;refine⟨st,λy n=>?_,λy yv e=>?_,λt D e=>?_,λi a h=>?_,λi j a C g h2=>?_,l,m.cells⟩
 ·have sl:=m.slots y n;refine⟨sl.kind,λg h2=>GM f.locals h2,λg=>?_⟩;refine aV (sl.cell g) λb v N S=>?_
  exact a_ b v N (aa (d y b n (by unfold dn;(refine aa g ?_);exact N)) S)
 ·by_cases q:y=x
  ·subst q;have e:(if y=y then wf xv else ρ y)=wf yv:=e;(replace e:=(FB rfl)▸e);(replace e:=ax e;subst e);refine ar av (by(refine aa (jG f (λa n p=>d y a n p) rfl) ?_);exact E) ?_
   (refine aa (FB rfl) ?_);exact P
  have e:(if y=x then wf xv else ρ y)=wf yv:=e;replace e:=(Da q)▸e;refine ak (m.var y yv e) λt g h2=>?_
  have B:=λz=>q (ax z);refine ar t (by(refine aa (jG f (λa n p=>d y a n p) rfl) ?_);exact g) ?_
  refine aa (Da B) ?_
  exact h2.on hs λa p=>k _ a B p
 ·have h2:=m.ext t D e;refine aa (Da (λz=>(by injection z))) ?_
  exact h2.on hs λa p=>k iF a (λz=>(by injection z)) p
 ·by_cases q:i=wf x
  ·have h:=h;replace h:=(FB q)▸h;refine oA (L a h) λg h2=>(aC g ?_ (λy n w=>?_))
   ·obtain h2|h2:=h2
    ·exact(m.foot _ a h2).2.1
    cases e:R0 a with
    |none=>rfl
    |some ao=>have:=m.base a ao e;(replace this:=h2▸this);injection this
   obtain h2|h2:=h2
   ·exact(m.foot _ a h2).2.2 y n w
   obtain⟨r,e⟩|⟨v,e⟩:=(m.slots y n).at w<;>((replace e:=h2▸e);injection e)
  have h:=h;replace h:=(Da q)▸h;refine a! (m.foot i a h) λg h2 Q=>?_
  exact aC (aa (k i a q h) g) h2 Q
 have g:=g;have h2:=h2;have o:∀i,i≠wf x->F i a->G a->False:=λi hi M J=>by
  obtain q|q:=(L a J).2
  ·exact m.fU i (wf x) a hi M q
  exact(m.foot i a M).1 q
 by_cases q:i=wf x
 ·replace g:=(FB q)▸g;have u:j≠wf x:=λz=>C (by(refine aa q ?_;exact aa z rfl));replace h2:=(Da u)▸h2;exact o j u h2 g
 replace g:=(Da q)▸g;by_cases u:j=wf x
 ·(replace h2:=(FB u)▸h2);exact o i q g h2
 (replace h2:=(Da u)▸h2);exact m.fU i j a C g h2
theorem Fs.mut(f:bX V c A env R0)(m:Fs V c env R0 ρ ex ah R H F s)(u:ρ x=wf (.own (.list ds))):∃a vs,bk c env ah R x=wf (.ref a)/\aJ c.h₀ H vs ds/\H a=iF/\St c (del R a) ah (upd H a (.list vs)) s /\
  ∀d ds' H' s',aJ c.h₀ H' d ds'->Sub H H'->H' a=iF->St c (del R a) ah (upd H' a (.list d)) s'->∃R' w,(∀y av,bk c env ah R y=wf av->bk c env ah R' y=wf av)/\Fs V c env R0 (putN ρ x (.own (.list ds'))) ex ah R' H' w s':=by
 refine bJ (m.var x _ u) λav o a vs r p=>?_
 obtain rfl:=r;obtain⟨n,v,k⟩:=p;have j:H a=iF:=by
  cases q:H a with
  |none=>rfl
  |some z=>have:=m.st.aF a (by(refine aa q ?_);intro z;injection z);rw[n] at this;injection this
 refine kH a vs o v j (m.st.show n) (λd ds' H' s' i hs l g=>a_ (upd R a (.list d)) _ (λy av q=>aa (jG f (λb t e=>aj (λz=>(m.foot (wf x) a (aa k rfl)).2.2 y t (by(refine az z ?_);exact e))) rfl) q) (m.jM (G:=(·=a)) f hs ?_ o (λb e B=>?_) (λb e=>?_) (dc a d rfl (am ..) i rfl)))
 ·refine g.part (λb ao h=>?_) λb h=>?_
  ·obtain h|h:=h
   ·exact .inl (aa (aj (λq=>by rw[q,l] at h;injection h)) h)
   by_cases q:b=a
   ·subst q;rw[am] at h;exact .inl (by rw[am];exact h)
   rw[aj q] at h;exact .inr (by(refine aa (ci q) ?_);exact h)
  have q:b≠a:=λq=>h (by(refine aa q ?_);exact l);refine aa (aj q) ?_
  have:=g.aF b (aa (aj q) h);rwa [ci q] at this
 ·exact aj (λq=>e (aa k (aa q rfl)))
 have e:b=a:=e;refine aa e ?_
 exact⟨(by rw[am];intro q;injection q),.inl (aa k rfl)⟩
theorem bX.g!(f:bX V c A env R0){av:AV}(h:bk c env ah R x=wf av):gL x=true:=by
 refine oE (z? h) λk a=>?_
 exact f.nm x k (by(refine az f.tab ?_);exact a)
end
section
variable{V:Vx}{l l' l₁ l₂:Nm}{fl:Fl}{t:Stmt}{ts:List Stmt}{e i:Expr}{x:Str}{xv:XV}{d:DV}{ds:List DV}{pos px ap sp:Pos}
theorem au.freeze(n:aM l x=wf (.own (.list ds)))(s:isVar V.T x=true)(h:au V ts ((x,.fz (.list ds))::l) fl l'):au V ts l fl l':=⟨λf m k=>by
 refine dQ m λah R H F low m=>(bJ (m.var x _ n) λav r a vs j i=>?_);obtain rfl:=j;refine a! i λe o p=>?_
 have d:H a=iF:=by
  cases q:H a with
  |none=>rfl
  |some z=>have:=m.st.aF a (by(refine aa q ?_);intro z;injection z);rw[e] at this;injection this
 have hs:Sub H (upd H a (.list vs)):=(Sub.refl _).upd d;have m':=m.jM (xv:=.fz (.list ds)) (G:=λg=>False) f hs (m.st.show e) r (λb c g=>ci (λq=>c (aa p (aa q rfl)))) (λb c=>c.elim) (.lst (.inl (am ..)) (o.mono hs));rw[cJ] at m';exact h.run f (ei ah (del R a) (upd H a (.list vs)) _ (low.trans hs) m') k⟩
def oh(o:Expr)(name:Str)(apos:Pos)(args:List Expr)(pos:Pos):Prop:=∀env,∃pl,eval (.Call (.Attribute o name apos) args [] pos) env=(do
   let ov<-eval o env
   kT apos.atName
   let(f,first)<-jh [ov] (j4 ov name pl)
   gx pos f first (e9 pos (ck args env)) (gw pos (eJ [] env)))
theorem Ex.append{ap px sp:Pos}(z:aM l x=wf (.own (.list ds)))(h:bb V e (aM l) (.fz d))(hz:ds.length<=2^24-1)(hp:autoParam (Plain [e]) aU)(C:autoParam (oh (.Name x px) "append" ap [e] pos) aU) :
  Ex V (.Expr (.Call (.Attribute (.Name x px) "append" ap) [e] [] pos) sp) l .next ((x,.own (.list (ds++[d])))::l):=⟨λ{c A env R0 H0 s Q} f m k=>by
 refine dQ m λah R H F low m=>(iX (m.mut f z) λa vs u o o p o=>?_);obtain⟨pl,D⟩:=C env;refine jx (c:=c) f.fn (dX (c:=c) (pl:=pl) (ik m.st f.fn (f.g! u) u λv B=>?_) D) rfl;refine aa (ed B) ?_
 refine gI p (am ..) PySem.F.slot_list_append PySem.F.type_list_append (cw (c:=c) ?_ (hp env));refine h.run f m λv R' H' L s' E G I m'=>⟨trivial,?_⟩;refine iX (m'.mut f z) λJ g fh j t q n=>?_
 replace fh:=(o8 u E)▸fh;cases fh;refine ju q (am ..) (aa j.length (aa bW (Qn hz))) λi gn=>⟨rfl,?_⟩;(replace gn:=(show upd (upd H' a (.list g)) a (.list (g++[abs v]))=upd H' a (.list (g++[abs v])) from funext λb=>by unfold upd;split<;>rfl)▸gn);refine aV (n _ (ds++[d]) H' i (j.append (.cons (m'.ext _ _ rfl) .nil)) (Sub.refl _) t gn) λw y o r=>(k i (ei ah w H' y (low.trans G) ?_));(refine az cJ ?_);exact r.vm⟩
end
end
section
open Classical
noncomputable def oG:List (Str×DV)->Nm->Nm
 |[],l=>l
 |(x,d)::r,l=>oG r ((x,.fz d)::l)
section
variable{V:Vx}{c:Cx}{A:aD}{env:Env}{R0:af}{ρ:b_}{ex:Option (AV×XV)}{ah:Str->Option AV}{R H:af}{F:Option Str->Addr->Prop}{s:ae}{E:ab->ae->Prop}{l:Nm}
theorem Fs.assign{bR:Expr}{v:ab}{d:DV}{bs:List (Str×DV)}{Q:Unit->ae->Prop}(f:bX V c A env R0)(m:Fs V c env R0 (aM l) ex ah R H F s)(J:Rep c.h₀ H (abs v) d)(S:fC bR d bs)(C:∀p∈bs,isVar V.T p.1=true)(k:∀a R' G s',Fs V c env R0 (aM (oG bs l)) iF a R' H G s'->Q () s'):al c.M A (ge bR env v) Q E s:=by
 cases S with
 |name x p d =>refine fA ((m.jO J).store f (C _ (.head _)) λa R' G s' m'=>k a R' G s' ?_);rw[cJ] at m';exact m'
 |pair x y px py U kk d₁ d₂ =>
  obtain⟨t,vs,rfl,P,w⟩:=J.kG;obtain⟨o,O,us,n,rfl,e⟩:=m.st.get P;rw[<-e] at w;obtain⟨j,g,rfl,u,r⟩:=w.two;refine wpAny_assign_Tuple f.rm.handled ⟨_,O,rfl,n,rfl⟩ rfl rfl λh' D=>?_
  have m':Fs V c env R0 (aM l) ex ah R H F { s with heap:=h' }:=m.grow (Sub.refl _) (m.st.keeps (tk:=s.toks) λb o e=>D b o (d! (cZ e)) e);show al _ _ (do jh [g] (PySem.assign (.Name x px) env j);(do jh [] (PySem.assign (.Name y py) env g);pure ())) _ _ _;refine aG (fS (fA ((m'.jO u).store f (C _ (.head _)) λeP L N I i=>?_)));rw[cJ] at i;refine aG (fS (fA ((i.jO r).store f (C _ (.tail _ (.head _))) λjT z B q h=>bH ?_)));rw[cJ] at h;exact k jT z B q h
theorem bX.more{it:Addr}{k:AO}(f:bX V c A env R0)(h:R0 it=iF):bX V c A env (upd R0 it k):=⟨f.G,f.ok,f.rm,f.fi.keep (c6.gK ((Sub.refl _).upd h)),f.tab,f.eq,f.nm,f.inj,f.vn,f.code⟩
theorem Fs.under{R' l H':af}{s':ae}{it:Addr}(f:bX V c A env R0)(m:Fs V c env R0 ρ ex ah R H F s)(hs:Sub H H')(st:St c R' ah H' s')(d:∀a,a≠it->R' a=R a/\l a=R0 a)(z:∀ao,l it=wf ao->R' it=wf ao)(n:R it=iF\/R0 it≠iF) :
  Fs V c env l ρ ex ah R' H' F s':=by
 have t:∀y a,isVar V.T y=true->dn c env y=wf a->a≠it:=λy a j g q=>by
  obtain h|h:=n
  ·obtain⟨r,e⟩|⟨v,e⟩:=(m.slots y j).at g<;>(rw[q,h] at e;injection e)
  exact h (by(refine az q ?_);exact m.cells y a j g)
 have u:∀i a,F i a->a≠it:=λi a g q=>by
  obtain h|h:=n
  ·exact(m.foot i a g).1 (aa q h)
  exact h (az q ((m.foot i a g).2.1))
 refine⟨st,λy j=>?_,λy x e=>?_,λav xv e=>?_,λi a h=>?_,m.fU,λa ao e=>?_,λy a j g=>?_⟩
 ·have sl:=m.slots y j;refine⟨sl.kind,λk o=>GM f.locals o,λk=>?_⟩;refine aV (sl.cell k) λb v p w=>?_
  exact a_ b v p (aa ((d b (t y b j (by unfold dn;(refine aa k ?_);exact p))).1) w)
 ·refine ak (m.var y x e) λav k o=>?_
  exact ar av (aa (jG f (λa j g=>(d a (t y a j g)).1) rfl) k) (o.on hs λa g=>(d a (u _ a g)).1)
 ·exact(m.ext av xv e).on hs λa g=>(d a (u _ a g)).1
 ·refine a! (m.foot i a h) λk o B=>(oA (d a (u i a h)) λp w=>?_);exact aC (aa p k) (aa w o) B
 ·by_cases q:a=it
  ·subst q;exact z ao e
  rw[(d a q).2] at e;(refine aa ((d a q).1) ?_);exact m.base a ao e
 (refine aa ((d a (t y a j g)).2) ?_);exact m.cells y a j g
end
section
variable{V:Vx}{l l' l₁ l₂:Nm}{e iter bR test:Expr}{ds:List DV}{pos:Pos}{body:List Stmt}
theorem yQ{c:Cx}{A:aD}{env:Env}{R0 H0:af}{Q:Flow->ae->Prop}{Er:ab->ae->Prop}{it:Addr}{Kp:Nat->af->AO->Prop}{ko:AO}{ah:Str->Option AV}{R H g:af}{F:Option Str->Addr->Prop}{s dL:ae}{ex:Option (AV×XV)}(J:Nat->Nm)(f:bX V c A env R0)(m:Fs V c env R0 (aM l) ex ah R H F s)(h0:a? (J 0) l)(low:Sub H0 H)(turn:∀(i:Nat) d,ds[i]?=wf d->∃bs l',fC bR d bs/\(∀p∈bs,isVar V.T p.1=true)/\au V body (oG bs (J i)) .next l'/\a? (J (i+1)) l')(ix:g4 c A bR it ds Kp)(hB:Kp 0 g ko)(x:Sub H g)(G:R it=iF)(N:St c (upd R it ko) ah g dL)(k:mB V c env R0 H0 (J ds.length) Q .next) :
  dB c.M A (.forLoop bR (.ref it) body [] env) (λr s'=>match r with|.ok f=>Q f s'|.error e=>Er e s') dL:=by
 have y:R0 it=iF:=by
  cases q:R0 it with
  |none=>rfl
  |some ao=>have:=m.base it ao q;(replace this:=G▸this);injection this
 have m₁:=(m.vm.less h0.le).under f x N (λa q=>⟨aj q,aj q⟩) (λao e=>by rw[am] at e ⊢;exact e) (.inl G);refine codeAny_forLoop_any (λn s'=>∃i ko,n+i=ds.length/\∃ah R H F,Sub g H/\Kp i H ko/\Fs V c env (upd R0 it ko) (aM (J i)) iF ah R H F s') ?_ ds.length (Xj 0 ko rfl ah _ g F (Sub.refl _) hB m₁)
 intro n s' O;refine LZ O λi J! P W R' H' F' D y? m'=>?_
 have Ib:=m'.base it _ (am ..);have C:=m'.st;replace C:=(bn (sw Ib))▸C;cases n with
 |zero =>
  have hi:i=ds.length:=by exact pn P
  subst hi;refine ix.done (ia ..) y? C λX gn=>bi ?_
  refine k X (ei W (del R' it) H' F' ((low.trans x).trans D) (m'.under (f.more y) (Sub.refl _) gn (λa q=>⟨ci q,(aj q).symm⟩) (λao e=>by rw[y] at e;injection e) (.inr (by rw[am];intro q;injection q))))
 |succ n =>
  have eN:i<ds.length:=by exact pq P
  refine jJ (turn i ds[i] (by simp[eN])) λbs J_ oU mT S hle=>(ix.step (d:=ds[i]) (by simp[eN]) oU (ia ..) y? C (λv B X ko w lm U gn=>?_) λj j h=>bx h (λj j z=>z) λj j z=>z.elim);have e1:upd (del R' it) it ko=upd R' it ko:=funext λb=>by unfold upd del;by_cases q:b=it<;>simp[q]
  replace gn:=e1▸gn;have Z:=m'.under (f.more y) w gn (λa q=>⟨aj q,(aj q).trans (aj q).symm⟩) (λao e=>by rw[am] at e ⊢;exact e) (.inr (by rw[am];intro q;injection q));refine bx (Z.assign (E:=λj j=>False) (Q:=λj s=>_) (f.more y) lm oU mT λL om tD dR Y=>?_) (λj j z=>z) λj j z=>z.elim;refine bx (S.run (H0:=B) (f.more y) (ei L om B tD (Sub.refl _) Y) (Q:=λfl t=>fl=.next/\FS V c env (upd R0 it ko) B (aM J_) iF t) (λt u=>⟨rfl,u⟩)) (λfl t uU=>?_) λj j z=>z.elim;refine oA uU λwL XN=>?_
  obtain rfl:=wL;refine dQ XN λI E8 EX ET o u=>?_
  exact Xd n (gc _) (i+1) ko (lE P) I E8 EX ET ((D.trans w).trans o) (ix.up U o) (u.less hle.le)
theorem Ex.for(J:Nat->Nm)(g:bj V bR iter (fW (aM l)) ds)(q:a? (J 0) l)(turn:∀(i:Nat) d,ds[i]?=wf d->∃bs l',fC bR d bs/\(∀p∈bs,isVar V.T p.1=true)/\au V body (oG bs (J i)) .next l'/\a? (J (i+1)) l')(hs:autoParam (∀env x,fQ iter env x=pure x) aU):Ex V (.For bR iter body [] pos) l .next (J ds.length):=⟨λ{c A env R0 H0 s Q} f m k=>by
 refine dQ m λah R H F low m=>?_
 exact kW (g.run (m.pre f) m.st m.ja λit t r j h n o b e a=>yQ J f m q low turn n o b e a k) (hs env)⟩
theorem Ex.while(J:Nat->Nm)(n:Nat)(x:a? (J 0) l)(turn:∀i,i<n->bU V test (aM (J i)) true/\∃l',au V body (J i) .next l'/\a? (J (i+1)) l')(fin:bU V test (aM (J n)) false):Ex V (.While test body [] pos) l .next (J n):=⟨λ{c A env R0 H0 s Q} f m k=>by
 refine wpAny_While (codeAny_whileLoop (λk s'=>∃i,k+i=n/\FS V c env R0 H0 (aM (J i)) iF s') ?_ n (ar 0 Qo (m.less x.le)));intro p s' h;refine LV h λi e ah R H F low m'=>?_
 cases p with
 |zero =>
  have hi:i=n:=by exact pn e
  subst hi;refine fin.run f m' λR' H' t g r d=>((Da (by decide)).mpr ?_);exact bi (k g (ei ah R' H' t (low.trans r) d))
 |succ p =>refine rG (turn i (pq e)) λv o w q=>(v.run f m' λR' H' t g r d=>?_);refine(FB rfl).mpr (bx (w.run f (ei ah R' H' t (low.trans r) d) (Q:=λfl a=>fl=.next/\FS V c env R0 H0 (aM o) iF a) (λa b=>⟨rfl,b⟩)) (λfl a j=>?_) λu u z=>z.elim);obtain⟨rfl,b⟩:=j;exact⟨p,gc _,i+1,by exact lE e,b.less q.le⟩⟩
end
end
section
open Classical
theorem FW{b:Str->Option c5}{x:Str}:∀{bs:List (Str×ab)} {m:Str->Option ab},x∉bs.map (·.1)->bindL b bs m x=m x:=by
 intro l0;induction l0 with
 |nil =>intro _ _;exact rfl
 |cons a r c =>
  obtain⟨n,v⟩:=a;intro m h;rw[bq,aW] at h;replace h:=not_or.mp (h);refine aa (c h.2) ?_
  split
  ·exact Da h.1
  rfl
theorem FU{b:Str->Option c5}{x:Str}:∀{bs:List (Str×ab)} {m:Str->Option ab},x∉bs.map (·.1)->bindC b bs m x=m x:=by
 intro l0;induction l0 with
 |nil =>intro _ _;exact rfl
 |cons a r c =>
  obtain⟨n,v⟩:=a;intro m h;rw[bq,aW] at h;replace h:=not_or.mp (h);refine aa (c h.2) ?_
  split
  ·rfl
  exact Da h.1
theorem FV{a:Str->Option c5}{x:Str}{v:ab}(d:a x=wf .local):∀{bs:List (Str×ab)} {m:Str->Option ab},(bs.map (·.1)).Nodup->(x,v)∈bs->bindL a bs m x=wf v:=by
 intro l0;induction l0 with
 |nil =>intros;simp at *
 |cons b r c =>
  obtain⟨n,u⟩:=b;intro m hn h;rw[bq] at hn;replace hn:=dq.mp (hn);show bindL a r _ x=_;obtain e|e:=aW.mp h
  ·cases e;refine aa (FW hn.1) ?_;refine aa (FB d) ?_
   exact FB rfl
  exact c hn.2 e
theorem FT{a:Str->Option c5}{x:Str}{v:ab}(d:a x≠wf .local):∀{bs:List (Str×ab)} {m:Str->Option ab},(bs.map (·.1)).Nodup->(x,v)∈bs->bindC a bs m x=wf v:=by
 intro l0;induction l0 with
 |nil =>intros;simp at *
 |cons b r c =>
  obtain⟨n,u⟩:=b;intro m hn h;rw[bq] at hn;replace hn:=dq.mp (hn);show bindC a r _ x=_;obtain e|e:=aW.mp h
  ·cases e;refine aa (FU hn.1) ?_;refine aa (Da d) ?_
   exact FB rfl
  exact c hn.2 e
theorem tL{e:Str->Option ab}{a:Addr}:∀{cs:List (Str×Addr)} {H:af},(∀p∈cs,p.2≠a)->gD e cs H a=H a:=by
 intro l0;induction l0 with
 |nil =>intro _ _;exact rfl
 |cons c r d =>
  obtain⟨n,b⟩:=c;intro H h;unfold gD;refine aa (aj (aI (h _ (.head _)))) ?_
  exact d λp hp=>h p (.tail _ hp)
theorem tJ{c:Str->Option ab}{x:Str}{a:Addr}:∀{cs:List (Str×Addr)} {H:af},(∀p∈cs,∀q∈cs,p.2=q.2->p.1=q.1)->(x,a)∈cs->gD c cs H a=wf (.cell ((c x).map abs)):=by
 intro l0;induction l0 with
 |nil =>intros;simp at *
 |cons d r f =>
  obtain⟨n,b⟩:=d;intro H hi h;unfold gD;by_cases q:a=b
  ·subst q;have:=hi _ h (n,a) (.head _) rfl;have this:x=n:=this;rw[am,this]
  refine aa (aj q) ?_
  obtain e|e:=aW.mp h
  ·cases e;exact GM rfl q
  exact f (λp hp q g=>hi p (.tail _ hp) q (.tail _ g)) e
structure hZ(sc:bS)(ps:List Str):Prop where
 nodup:(sc.names.map (·.1)).Nodup
 each:(sc.names.all λp=>gL p.1&&p.2 != .free)=true
 par:(ps.all λy=>sc.names.lookup y==wf .local||sc.names.lookup y==wf .cell)=true
 Cf:ps.Nodup
 Go:((aY 0 sc.names []).map (·.1)).Nodup
theorem XQ{α:Type}:∀{ps:List Str} {vs:List α},ps.length=vs.length->(ps.zip vs).map (·.1)=ps:=by
 intro l0;induction l0 with
 |nil =>
  intro m0;cases m0 with
  |nil =>intro _;exact rfl
  |cons _ _ =>intro h;exact(by injection h)
 |cons b _ a =>
  intro m0;cases m0 with
  |nil =>intro h;exact(by injection h)
  |cons v vs =>intro h;exact aa xt (aa bq (aa (a (qa h)) rfl))
theorem wN{h:Heap}{H:af}{x:Str}{xv:XV}{ps:List Str}:∀{vs:List ab} {ds:List DV},aJ h H (vs.map abs) ds->aM (ps.zip (ds.map XV.fz)) x=wf xv->∃v d,(x,v)∈ps.zip vs/\xv=.fz d/\Rep h H (abs v) d:=by
 induction ps with
 |nil=>intro vs ds r e;injection e
 |cons p ps c =>
  intro vs ds r e;cases ds with
  |nil=>injection e
  |cons d ds =>
   cases vs with
   |nil=>exact GM r.length (nofun)
   |cons v vs =>
    unfold aM at e;rw[bq,xt,cP] at e;refine k9 (x:=x==p) (λa=>?_) (λa=>?_)
    ·
     rw[a] at e;(replace e:=ax e;subst e);refine aa (beq_iff_eq.mp a) ?_
     exact cj v d (.head _) rfl r.head
    ·
     rw[a] at e;refine dP (c r.tail e) λb d' i g f=>?_
     exact cj b d' (.tail _ i) g f
section
variable{G:Gx}{n:Nat}{f:Addr}{fs:Stmt}{qual:Str}{dV kV aA:ab}{ps:List Str}{ds:List DV}{l':Nm}{xv:XV}
structure gy(G:Gx)(qual:Str)(aA:ab)(P:Option (Addr×Str)):Prop where
 ok:∀a q,P=wf (a,q)->(a,q)∈G.tabs/\(∀q',(a,q')∈G.tabs->q'=q)/\(qual++".<locals>.")++"<lambda>"=q/\∃cc,aA=.ref cc/\∀h₀,G.K.In h₀->CodeHd h₀ cc a
theorem gy.none:gy G qual aA iF:=⟨λa a e=>nomatch e⟩
theorem tU{c:Cx}{A:aD}{R:af}{ah:Str->Option AV}{H:af}{s:ae}{vs O:List ab}{Q:ab->ae->Prop}{E:ab->ae->Prop}{P:Option (Addr×Str)}{xvs:List XV}{Fp:Str->Addr->Prop}(hP:gy G qual aA P)(fi:di G.K f fs qual dV kV aA)(fo:hZ (aH fs) ps)(hb:∀doc pm an ct S,peek G.K S (e! (gF fs qual dV kV doc pm an aA ct) ⟨O,[]⟩)=wf (ps.zip vs))(uT:vs.length=ps.length)(body:au ⟨G,n,(aH fs).names,P⟩ (bodyOf fs) (ps.zip xvs) (.ret xv) l')(hG:c.G=G)(ok:c.Ok)(rm:bL c A (n+1))(dj:b8 R c.outer)(st:St c R ah H s)(hF:∀x a,Fp x a->H a≠iF)(hD:∀x y a,x≠y->Fp x a->¬Fp y a)(hr:∀x W,aM (ps.zip xvs) x=wf W->∃v,(x,v)∈ps.zip vs/\fG c.h₀ H (aN H λa=>∃x,Fp x a) (Fp x) (abs v) W)(k:∀v r l (d:Option Str->Addr->Prop) s',Sub (aN H λa=>∃x,Fp x a) l->fG c.h₀ r l (d iF) (abs v) xv->(∀y W,aM l' y=wf W->∃av,fG c.h₀ r l (d (wf y)) av W)->(∀i a,d i a->l a=iF/\r a≠iF) ->(∀i j a,i≠j->d i a->¬d j a)->St c R ah (λa=>if∃i,d i a then r a else l a) s'->Q v s'):al c.M A (call (.ref f) O) Q E s:=by
 have u:=XQ uT.symm;refine Ge (binds:=ps.zip vs) (aa hG fi) ok rm st (λdoc pm an ct=>iM ok st (by(refine aa hG ?_);exact hb doc pm an ct)) ?_ fo.Go ?_
 ·refine eE.mpr (?_);intro p hp;have:=eE.mp fo.par p.1 (by(refine az u ?_);exact bh.mpr (ar p hp rfl));exact this
 intro L' s' lD jN t T;have oP:=st.js;have tX:∀p∈aY (L'+1) (aH fs).names [],L'+1<=p.2:=tW _ _ _ _ (bD _) (λN q=>(GM q aX));have F:∀p∈aY (L'+1) (aH fs).names [],∀q∈aY (L'+1) (aH fs).names [],p.2=q.2->p.1=q.1:=qB _ _ _ (λN q=>(GM q aX)) (λN q=>(GM q aX));generalize Io:bindC (λy=>(aH fs).names.lookup y) (ps.zip vs) (λN=>iF)=cm at T ⊢;have low:∀(X:af) a,a<L'->gD cm (aY (L'+1) (aH fs).names []) X a=X a:=λX a o=>tL λp hp q=>by exact GM (hW o (by(refine az q ?_);exact tX p hp)) (dz _)
 have C:=λx a h=>t a (.inl (hF x a h));have f0:bX ⟨G,n,(aH fs).names,P⟩ (c.on (bY qual fs L' f aA (aY (L'+1) (aH fs).names []))) (A.deeper (bY qual fs L' f aA (aY (L'+1) (aH fs).names []))) (bY qual fs L' f aA (aY (L'+1) (aH fs).names [])) (upd R c.L (.ns ah)) :=
  ⟨hG,lD,jN,dj.push ok oP,rfl,rfl,λx kk J=>by
   have:=eE.mp fo.each _ (dO J);rw[f_] at this;exact this.1,λx y a B hy=>F (x,a) (dO B) (y,a) (dO hy) rfl,λx B=>by
   have:=eE.mp fo.each _ (dO B);rw[f_] at this;exact GM this.2 (nofun),λa q e=>by
   refine AG (hP.ok a q e) λz1 z2 z3 cc z4 z5=>?_
   exact⟨z1,z2,z3,cc,z4,z5 _ (hG▸ok.K)⟩⟩
 have cellAt:∀(X:af) x,(aH fs).names.lookup x=wf .cell->∃a,(aY (L'+1) (aH fs).names []).lookup x=wf a/\L'+1<=a/\gD cm (aY (L'+1) (aH fs).names []) X a=wf (.cell ((cm x).map abs)):=λX x B=>by
  refine aB ((oy (aH fs).names (L'+1) [] (λN=>iF) x fo.nodup).1 B) λa D V N=>?_
  exact aR a D V (tJ F (dO D))
 let I:Addr->Prop:=λa=>∃x,Fp x a;let RB:af:=λa=>if I a then H a else upd R c.L (.ns ah) a;have nF:∀a ao,upd R c.L (.ns ah) a=wf ao->¬I a:=λa ao e ⟨x,h⟩=>by have:=T.aF a (aa (low H a (C x a h)) (hF x a h));(replace this:=e▸this);injection this
 have E5:∀a ao,upd R c.L (.ns ah) a=wf ao->RB a=wf ao:=λa ao e=>by show(if I a then H a else _)=_;(refine aa (Da (nF a ao e)) ?_);exact e
 have XZ:∀a,RB a≠iF->a<L':=λa e=>by
  by_cases q:I a
  ·obtain⟨x,h⟩:=q;exact C x a h
  have e:(if I a then H a else upd R c.L (.ns ah) a)≠iF:=e;rw[Da q] at e;exact t a (.inr e)
 have m:Fs ⟨G,n,(aH fs).names,P⟩ (c.on (bY qual fs L' f aA (aY (L'+1) (aH fs).names []))) (bY qual fs L' f aA (aY (L'+1) (aH fs).names [])) (upd R c.L (.ns ah)) (aM (ps.zip xvs)) iF
   (λx=>(bindL (λy=>(aH fs).names.lookup y) (ps.zip vs) (λN=>iF) x).map abs) (gD cm (aY (L'+1) (aH fs).names []) RB) (aN H I) (λi=>match i with|some x=>Fp x|iF=>λN=>False) s':=by
  refine⟨T.part (λa ao h=>?_) λa h=>?_,λx B=>?_,λx DF e=>?_,λN N e=>((by injection e)),λi a h=>?_,λi j a II D V=>?_,λa ao e=>?_,λx a B o=>?_⟩
  ·obtain h|h:=h
   ·unfold aN at h;by_cases q:I a
    ·(replace h:=(FB q)▸h);injection h
    replace h:=(Da q)▸h;exact .inl (aa (low H a (t a (.inl (by(refine aa h ?_);intro q;injection q)))) h)
   by_cases q:∃p∈aY (L'+1) (aH fs).names [],p.2=a
   ·refine ak q λY hp XD=>?_
    obtain rfl:=XD;obtain⟨y,b⟩:=Y;replace h:=(tJ F hp)▸h;exact .inl (aa (tJ F hp) h)
   replace h:=(tL (λp hp e=>q (ar p hp e)))▸h;have h:(if I a then H a else upd R c.L (.ns ah) a)=wf ao:=h;by_cases z:I a
   ·replace h:=(FB z)▸h;exact .inl (by(refine aa (tL (λp hp e=>q (ar p hp e))) ?_);exact h)
   (replace h:=(Da z)▸h);exact .inr h
  ·unfold aN at h;by_cases q:I a
   ·rw[FB q] at h;exact GM rfl h
   replace h:=(Da q)▸h;refine aa (low _ a (t a (.inl h))) ?_
   show(if I a then H a else upd R c.L (.ns ah) a)=iF;refine aa (Da q) ?_
   exact T.aF a (by(refine aa (low H a (t a (.inl h))) ?_);exact h)
  ·have B:=B;unfold isVar at B;rw[lZ,beq_iff_eq,beq_iff_eq] at B;refine⟨B,λD V=>GM rfl V,λD=>?_⟩;refine aB (cellAt RB x D) λa V N h3=>?_
   exact a_ a _ V h3
  ·refine ak (hr x DF e) λv D h3=>(ar (abs v) ?_ (fG.on (R:=H) (H:=aN H I) h3 (Sub.refl _) λa o=>?_))
   ·have hp:=eE.mp fo.par x (az u (bh.mpr (ar _ D rfl)));rw[lZ,beq_iff_eq,beq_iff_eq] at hp;have g8:((ps.zip vs).map (·.1)).Nodup:=by(refine aa u ?_);exact fo.Cf
    obtain hp|hp:=hp
    ·have J:(bY qual fs L' f aA (aY (L'+1) (aH fs).names [])).kindOf x=wf .local:=hp;delta bk;refine aa J ?_
     dsimp only;refine aa (FB (rfl)) ?_;refine aa (FV hp g8 D) ?_
     rfl
    have J:(bY qual fs L' f aA (aY (L'+1) (aH fs).names [])).kindOf x=wf .cell:=hp;refine aB (cellAt RB x hp) λa h4 N h5=>?_
    have h4:=h4;delta bk;refine aa J ?_
    refine aa h4 ?_
    dsimp only;refine aa h5 ?_;refine az Io ?_;refine aa (FT (by(refine aa hp ?_);intro q;cases q) g8 D) ?_
    rfl
   have o:=o;refine aa (low _ a (C x a o)) ?_
   exact FB ⟨x,o⟩
  ·cases i with
   |none=>exact h.elim
   |some x =>
    have h:=h;have o:=C x a h;refine aC ?_ ?_ (λy hy hs=>?_)
    ·refine aa (low _ a o) ?_
     show(if I a then H a else _)≠_;(refine aa (FB ⟨x,h⟩) ?_);exact hF x a h
    ·cases q:upd R c.L (.ns ah) a with
     |none=>rfl
     |some ao=>exact GM ⟨x,h⟩ (nF a ao q)
    unfold dn at hs;refine cE (x:=(aH fs).names.lookup y) (λJ=>?_) (λkk J=>?_)
    ·
     have w:(bY qual fs L' f aA (aY (L'+1) (aH fs).names [])).kindOf y=iF:=J;rw[w] at hs;injection hs
    ·
     have w:(bY qual fs L' f aA (aY (L'+1) (aH fs).names [])).kindOf y=wf kk:=J;replace hs:=w▸hs;cases kk with
     | «local» =>dsimp only at hs;replace hs:=(FB (show(bY qual fs L' f aA (aY (L'+1) (aH fs).names [])).locals=(c.on (bY qual fs L' f aA (aY (L'+1) (aH fs).names []))).L from rfl))▸hs;injection hs
     |cell=>exact GM (hW o (tX _ (dO (show(aY (L'+1) (aH fs).names []).lookup y=wf a from hs)))) (dz _)
     |free=>injection hs
     |globalExplicit=>injection hs
     |globalImplicit=>injection hs
  ·cases i with
   |none=>exact D.elim
   |some x =>
    cases j with
    |none=>exact V.elim
    |some y=>exact hD x y a (λq=>II (by(exact aa q rfl))) D V
  ·(refine aa (low _ a (t a (.inr (by(refine aa e ?_);intro q;injection q)))) ?_);exact E5 a ao e
  have B:=B;unfold dn at o;refine cE (x:=(aH fs).names.lookup x) (λJ=>?_) (λkk J=>?_)
  ·
   have w:(bY qual fs L' f aA (aY (L'+1) (aH fs).names [])).kindOf x=iF:=J;(replace o:=w▸o);injection o
  ·
   have w:(bY qual fs L' f aA (aY (L'+1) (aH fs).names [])).kindOf x=wf kk:=J;replace o:=w▸o;cases kk with
   | «local» =>replace o:=(FB (rfl))▸o;injection o
   |cell =>
    have o:=o;have:=tX _ (dO o);cases q:upd R c.L (.ns ah) a with
    |none=>rfl
    |some y =>have D:=t a (.inr (by(refine aa q ?_);intro z;injection z));exact GM (hW D this) (dz _)
   |free=>injection o
   |globalExplicit=>injection o
   |globalImplicit=>injection o
 refine body.run (c:=c.on (bY qual fs L' f aA (aY (L'+1) (aH fs).names []))) (H0:=aN H I) f0 (ei _ _ _ _ (Sub.refl _) m) λv eh Hp=>(dQ Hp λjT r l d U g=>?_);have Le:∀i a,d i a->l a=iF:=λi a h=>by
  cases e:l a with
  |none=>rfl
  |some y=>exact GM (g.st.aF a (by(refine aa e ?_);intro z;injection z)) (g.foot i a h).1
 refine⟨jT,λa=>if∃i,d i a then r a else l a,g.st.part (λa ao h=>?_) (λa h=>?_),λZ=>k v r l d eh U (g.ext _ _ rfl) (λy W e=>let⟨av,_,z⟩:=g.var y W e;⟨av,z⟩) (λi a o=>⟨Le i a o,(g.foot i a o).1⟩) g.fU Z⟩
 ·obtain h|h:=h
  ·by_cases q:∃i,d i a
   ·(replace h:=(FB q)▸h);exact .inr h
   (replace h:=(Da q)▸h);exact .inl h
  exact .inr (g.base a ao h)
 by_cases q:∃i,d i a
 ·obtain⟨i,q⟩:=q;exact(g.foot i a q).2.1
 replace h:=(Da q)▸h;have:=g.st.aF a h;cases e:upd R c.L (.ns ah) a with
 |none=>rfl
 |some y=>(replace this:=(g.base a y e)▸this);injection this
theorem Dj{H:af}{p:Addr->Prop}(h:∀a,¬p a):aN H p=H:=funext λa=>Da (h a)
theorem Gd{c:Cx}{A:aD}{R:af}{ah:Str->Option AV}{H:af}{s:ae}{vs:List ab}{Q:ab->ae->Prop}{E:ab->ae->Prop}{P:Option (Addr×Str)}(D:gy G qual aA P)(L:di G.K f fs qual dV kV aA)(fo:hZ (aH fs) ps)(C:∀vs:List ab,vs.length=ps.length->∀doc pm an ct S,peek G.K S (e! (gF fs qual dV kV doc pm an aA ct) ⟨vs,[]⟩)=wf (ps.zip vs))(B:ps.length=ds.length)(body:au ⟨G,n,(aH fs).names,P⟩ (bodyOf fs) (ps.zip (ds.map XV.fz)) (.ret xv) l')(F:c.G=G)(ok:c.Ok)(w:bL c A (n+1))(dj:b8 R c.outer)(st:St c R ah H s)(r:aJ c.h₀ H (vs.map abs) ds)(k:∀v W Hf (X:Addr->Prop) s',Sub H Hf->fG c.h₀ W Hf X (abs v) xv->(∀a,X a->Hf a=iF/\W a≠iF)->St c R ah (λa=>if X a then W a else Hf a) s'->Q v s'):al c.M A (call (.ref f) vs) Q E s:=by
 have j:vs.length=ps.length:=by have:=r.length;rw[aw] at this;(refine aa this ?_;exact aa B rfl)
 have p:aN H (λa=>∃x:Str,(λb b=>False:Str->Addr->Prop) x a)=H:=Dj λa ⟨_,h⟩=>h;refine tU (Fp:=λb b=>False) D L fo (C vs j) j body F ok w dj st (λb b h=>h.elim) (λb b b b h=>h.elim) (λx N e=>?_) λv l m g s' hs y b t b o=>k v l m (g iF) s' (p▸hs) y (t iF) (o.drop λa ao e=>?_)
 ·refine dP (wN r e) λv d J u I=>?_
  obtain rfl:=u;exact ar v J (aa p I)
 have e:=e;by_cases q:g iF a
 ·(replace e:=(FB q)▸e);(refine aa (FB ⟨_,q⟩) ?_);exact e
 replace e:=(Da q)▸e;(refine aa (Da (λ⟨i,z⟩=>by rw[(t i a z).1] at e;injection e)) ?_);exact e
theorem bg.fn{d:DV}{P:Option (Addr×Str)}(m:gy G qual aA P)(p:di G.K f fs qual dV kV aA)(fo:hZ (aH fs) ps)(j:∀vs:List ab,vs.length=ps.length->∀doc pm an ct S,peek G.K S (e! (gF fs qual dV kV doc pm an aA ct) ⟨vs,[]⟩)=wf (ps.zip vs))(i:ps.length=ds.length)(body:au ⟨G,n,(aH fs).names,P⟩ (bodyOf fs) (ps.zip (ds.map XV.fz)) (.ret (.fz d)) l'):bg G (n+1) (.ref f) ds d:=⟨λo ok c dj st h k=>Gd m p fo j i body o ok c dj st h λv W r X s' hs g l b =>
 k v r s' hs g (b.drop λa ao e=>by
  have q:¬X a:=λq=>by rw[(l a q).1] at e;injection e
  (refine aa (Da q) ?_);exact e)⟩
end
end
section
variable{G:Gx}{n:Nat}{ds:List DV}{ns ms:List Int}{i j M:Int}
theorem bg.len{k:Nat}(d:ds.length=k)(h:k<2^62):bg G n (.builtin "len") [.list ds] (.int k):=⟨λ{c A R ah H s vs Q E} g ok o p st r k=>by
 refine ak r.one λv i j=>?_
 obtain rfl:=i;refine aV j.toList λl us f e=>?_
 obtain rfl:=f;obtain⟨m,b⟩:=e;refine rr st m (aa b.length (aa d h)) λt s' a=>k _ H s' (Sub.refl _) ?_ a
 (refine aa b.length ?_;refine aa d ?_);exact .int _⟩
theorem bg.range:bg G n (.type "range") [.int i] (.eg 0 i):=⟨λ{c A R ah H s vs Q E} g ok j l st r k=>by
 refine ak r.one λv e f=>?_
 obtain rfl:=e;refine oE f.toInt λt d=>?_
 obtain rfl:=d;exact Vn ok st λa s' h b=>k _ _ s' ((Sub.refl _).upd h) (.eg (am ..)) b⟩
theorem bg.Vm:bg G n (.type "range") [.int i,.int j] (.eg i j):=⟨λ{c A R ah H s vs Q E} g ok o p st r k=>by
 refine aV r.two λv u e d=>?_
 obtain rfl:=e;obtain⟨h,f⟩:=d;obtain⟨t,rfl⟩:=h.toInt;obtain⟨m,rfl⟩:=f.toInt;exact Vo ok st λa s' l b=>k _ _ s' ((Sub.refl _).upd l) (.eg (am ..)) b⟩
theorem bg.max(e:M∈ns)(d:∀a∈ns,a<=M):bg G n (.builtin "max") [.list (ns.map DV.int)] (.int M):=⟨λ{c A R ah H s vs Q E} g ok j u st r k=>by
 refine ak r.one λv h i=>?_
 obtain rfl:=h;refine ak i.i? λl f m=>?_
 obtain rfl:=f;refine K0 j.handled st m (Ej e) λq t s' p o b=>k _ H s' (Sub.refl _) ?_ b
 (refine aa (wW (o M e) (d q p)) ?_);exact .int _⟩
theorem bg.sum:bg G n (.builtin "sum") [.list (ns.map DV.int)] (.int ns.sum):=⟨λ{c A R ah H s vs Q E} g ok f i st r k=>by
 refine ak r.one λv d e=>?_
 obtain rfl:=d;refine ak e.i? λl b h=>?_
 obtain rfl:=b;exact Wx f.handled st h λt s' a=>k _ H s' (Sub.refl _) (.int _) a⟩
end
theorem bj.nb{V:Vx}{ρ:Str->Option DV}{tg e:Expr}{m:Nat}(h:Ev V e ρ (.eg 0 m))(a:m<2^62):bj V tg e ρ ((du 0 m).map DV.int):=by have:=bj.eg (tg:=tg) h (by decide) (by decide) Qp (Qq a);rwa [show((m:Int)-0).toNat=m by exact Qr] at this
section
variable{V:Vx}{ρ:Str->Option DV}{e:Expr}{ds:List DV}{pos sp:Pos}
def k6(V:Vx)(ρ:Str->Option DV):Option Expr->Option Int->Prop
 |none,iF=>True
 |some e,wf i=>Ev V e ρ (.int i)
 |_,_=>False
theorem k6.run{f:Option Expr}{a:Option Int}{c:Cx}{A:aD}{env:Env}{R:af}{ah:Str->Option AV}{H:af}{s:ae}{Q:ab->ae->Prop}{E:ab->ae->Prop}(h:k6 V ρ f a)(p:Pre V c A env R)(st:St c R ah H s)(w:View c env ah R H ρ)(k:∀v H' s',Sub H H'->IsPart v a->St c R ah H' s'->Q v s'):al c.M A (tn f env) Q E s:=by
 cases f with
 |none =>
  cases a with
  |none=>exact bH (k _ H s (Sub.refl _) .none st)
  |some i=>exact h.elim
 |some e =>
  cases a with
  |none=>exact h.elim
  |some i =>
   have h:Ev V e ρ (.int i):=h;refine h.run p st w λv H' s' hs g d=>k v H' s' hs ?_ d
   refine oE g.toInt λt b=>?_
   obtain rfl:=b;exact .int _ _
theorem aE.pick{b a step:Option Expr}{lo hi stp:Option Int}{zs:List DV}(he:Ev V e ρ (.list ds))(hl:k6 V ρ b lo)(hu:k6 V ρ a hi)(hk:k6 V ρ step stp)(h0:stp≠wf 0)(hz:ds.length<=2^24)(hp:∀{h:Heap} {H:af} (vs:List ab),aJ h H (vs.map abs) ds->aJ h H ((ql vs.toArray lo hi stp).toList.map abs) zs)(B:autoParam (∀l sl,∃z,gZ (.Slice b a step sp) false (.ref l) (.ref sl)=gX z (gV (.ref l) (.ref sl))) aU):aE V (.Subscript e (.Slice b a step sp) pos) ρ zs:=⟨λ{c A env R ah H s Q E} p st w k =>
 jg (he.run p st w λv I S m y t=>by
  refine aV y.toList λl vs Y z4=>?_
  obtain rfl:=Y;obtain⟨C,T⟩:=z4;have f:=w.mono m;refine V' p.ok (hl.run p t f λvl X P d pl r=>hu.run p r (f.mono d) λZ W O j pu q=>hk.run p q ((f.mono d).mono j) λvk n N u pk o=>Xk R ah n o (λsl M hn g=>?_));have sub:Sub I (upd n sl (sd vl Z vk)):=((d.trans j).trans u).trans ((Sub.refl _).upd hn);refine oE (B l sl) λz ho=>(ak (g.list (C.imp (sub.le _ _) id)) λus hL L=>?_);refine V! (zs:=(ql us.toArray lo hi stp).toList.map abs) p.ok g (C.imp (sub.le _ _) id) (am ..) pl pu pk h0 (aa T.length (aa bW hz)) (λx U=>?_) (λD s' hD J=>k D _ _ s' (m.trans sub) hD (hp us (aa L (T.mono sub))) J) ho;have G:x.length=us.length:=by have:=congrArg hU (U.trans L.symm);simpa using this
  delta ql;refine aa dh ?_;refine aa dh ?_;refine aa G ?_
  generalize sliceRange _ _ _=idx;have hm:∀i:Nat,(x.toArray[i]?).map abs=(us.toArray[i]?).map abs:=λi=>by have:=congrArg (λl:List AV=>l[i]?) (U.trans L.symm);simpa using this
  refine aa nG ?_;refine aa nG ?_;refine aa xi ?_;refine aa xi ?_
  exact congrArg (λF=>List.filterMap F idx) (funext hm))⟩
theorem aE.slice{b a:Option Expr}{lo hi:Option Int}(i:Ev V e ρ (.list ds))(h:k6 V ρ b lo)(g:k6 V ρ a hi)(hz:ds.length<=2^24)(d:autoParam (∀l sl,∃f,gZ (.Slice b a iF sp) false (.ref l) (.ref sl)=gX f (gV (.ref l) (.ref sl))) aU) :
  aE V (.Subscript e (.Slice b a iF sp) pos) ρ ((ds.drop (lo.elim 0 (nO ds.length))).take (hi.elim ds.length (nO ds.length)-lo.elim 0 (nO ds.length))) :=
 aE.pick (stp:=iF) i h g (by exact trivial) (by decide) hz (λvs r=>by have c:=r.length;rw[aw] at c;rw[slicePick_plain,nG,nD,nB,dh,c];exact(r.drop _).take _) d
end
section
variable{V:Vx}{ρ:Str->Option DV}{elt it lr bR nk:Expr}{ifs:List Expr}{sc:bS}{pos:Pos}{α β:Type}
theorem u0{x:Str}(h:c! sc x=true):c8 sc ρ x=iF:=by unfold c! at h;delta c8;rw[Da];intro q;replace h:=q▸h;exact GM h (by decide)
theorem ki{b:Type}(p:α->Bool)(g:α->b):∀xs:List α,(xs.map λa=>if p a=true then[g a] else[]).flatten=(xs.filter p).map g:=by
 intro l0;induction l0 with
 |nil =>exact rfl
 |cons a r c =>
  refine aa bq ?_;refine aa Eb ?_;refine aa (c) ?_;refine aa fu ?_
  by_cases h:p a=true
  ·(refine aa (FB h) ?_;refine aa (FB h) ?_);rfl
  (refine aa (Da h) ?_;refine aa (Da h) ?_);rfl
theorem aE.k!{xs:List α}{f:α->DV}{bs:α->List (Str×DV)}{p:α->Bool}{g:α->DV}(l:fa sc V.T)(t:bj V bR it ρ (xs.map f))(r:∀a∈xs,fC bR (f a) (bs a)/\∀q∈bs a,c! sc q.1=true)(n:∀a∈xs,jo (V.into sc) ifs (dg (c8 sc ρ) (bs a)) (p a))(o:∀a∈xs,p a=true->Ev (V.into sc) elt (dg (c8 sc ρ) (bs a)) (g a))(hz:xs.length<=2^24)(hs:autoParam (∀env x,fQ it env x=pure x) aU) :
  aE V (.ListComp elt [⟨bR,it,ifs,0⟩] sc pos) ρ ((xs.filter p).map g):=by
 rw[<-ki p g];refine aE.comp (g:=⟨bR,it,ifs,0⟩) (gs:=[]) (ds:=xs.map f) l t ⟨by rw[aw,aw],λi d m e ho=>?_⟩ ?_ (by exact kz rfl) hs
 ·rw[bp] at e ho;refine ak (bu.mp e) λa h k=>?_
  obtain rfl:=k;replace ho:=h▸ho;replace ho:=ax ho;subst ho;have b:=en h;refine oA (r a b) λs j=>⟨bs a,p a,s,λq c=>⟨u0 (j q c),j q c⟩,n a b,λhp=>?_,λhp=>?_⟩
  ·dsimp only;(refine aa (FB hp) ?_);exact ar (g a) (o a b hp) rfl
  dsimp only;(exact aa (Da (by(refine aa hp ?_);decide)) rfl)
 rw[ki,aw];exact bF (iz _ _) hz
theorem aE.Gu{xs:List α}{f:α->DV}{bs:α->List (Str×DV)}{ys:α->List β}{f2:α->β->DV}{bs2:α->β->List (Str×DV)}{p:α->β->Bool}{g:α->β->DV}(w:fa sc V.T)(D:bj V bR it ρ (xs.map f))(A:∀a∈xs,fC bR (f a) (bs a)/\∀q∈bs a,c! sc q.1=true)(C:∀a∈xs,bj (V.into sc) nk lr (dg (c8 sc ρ) (bs a)) ((ys a).map (f2 a)))(o:∀a∈xs,∀b∈ys a,fC nk (f2 a b) (bs2 a b)/\∀q∈bs2 a b,c! sc q.1=true/\dg (c8 sc ρ) (bs a) q.1=iF)(y:∀a∈xs,∀b∈ys a,jo (V.into sc) ifs (dg (dg (c8 sc ρ) (bs a)) (bs2 a b)) (p a b))(z:∀a∈xs,∀b∈ys a,p a b=true->Ev (V.into sc) elt (dg (dg (c8 sc ρ) (bs a)) (bs2 a b)) (g a b))(hz:((xs.map λa=>((ys a).filter (p a)).map (g a)).flatten).length<=2^24)(hs:autoParam (∀env x,fQ it env x=pure x) aU)(n:autoParam (∀env x,fQ lr env x=pure x) aU) :
  aE V (.ListComp elt [⟨bR,it,[],0⟩,⟨nk,lr,ifs,0⟩] sc pos) ρ ((xs.map λa=>((ys a).filter (p a)).map (g a)).flatten):=by
 refine aE.comp (g:=⟨bR,it,[],0⟩) (gs:=[⟨nk,lr,ifs,0⟩]) (ds:=xs.map f) w D ⟨by rw[aw,aw],λi d m j ho=>?_⟩ hz (by exact iu rfl rfl) hs;rw[bp] at j ho;refine ak (bu.mp j) λa s v=>?_
 obtain rfl:=v;replace ho:=s▸ho;replace ho:=ax ho;subst ho;have h:=en s;refine oA (A a h) λr u=>⟨bs a,true,r,λq e=>⟨u0 (u q e),u q e⟩,rfl,λE=>?_,λhp=>(by injection hp)⟩;refine wH rfl n ((ys a).map (f2 a)) ((ys a).map (λb=>if p a b=true then[g a b] else[])) (C a h) ⟨by rw[aw,aw],λi d m j ho=>?_⟩ ((ki (p a) (g a) (ys a)).symm);rw[bp] at j ho;refine ak (bu.mp j) λb k l=>?_
 obtain rfl:=l;replace ho:=k▸ho;replace ho:=ax ho;subst ho;have c:=en k;refine oA (o a h b c) λB t=>⟨bs2 a b,p a b,B,λq e=>⟨(t q e).2,(t q e).1⟩,y a h b c,λhp=>?_,λhp=>?_⟩
 ·dsimp only;(refine aa (FB hp) ?_);exact ar (g a b) (z a h b c hp) rfl
 dsimp only;(exact aa (Da (by(refine aa hp ?_);decide)) rfl)
end
section
open Classical
noncomputable def ca.of(τ:cn):ca:=⟨τ.g,τ.rd,τ.po,τ.nf⟩
structure Act(G:Gx)(n:Nat)(f:Addr)(σ:ca)(ds:List DV)(dU:ca)(d:DV):Prop where
 run:∀{c:Cx} {A:aD} {R:af} {ah:Str->Option AV} {H:af} {s:ae} {vs:List ab} {F:Addr->Prop} {τ:cn} {l:Lay} {Q:ab->ae->Prop} {E:ab->ae->Prop},c.G=G->c.Ok->bL c A n->b8 R c.outer->St c R ah H s->bC H F τ l->σ=.of τ ->
  aJ c.h₀ (λzz=>iF) (vs.map abs) ds->(∀v H' F' lY l' s',bI H F H' F'->lY.self=τ.self->bC H' F' lY l'->dU=.of lY->Rep c.h₀ (aN H' F') (abs v) d->St c R ah H' s'->Q v s')->al c.M A (call (.ref f) (.ref τ.self::vs) []) Q E s
structure kY(G:Gx)(n:Nat)(f:Addr)(σ:ca)(ds:List DV)(dU:ca)(d:DV):Prop where
 run:∀{c:Cx} {A:aD} {R:af} {ah:Str->Option AV} {H:af} {s:ae} {vs:List ab} {F:Addr->Prop} {τ:cn} {l:Lay} {Rr:fP->ae->Prop},c.G=G->c.Ok->bL c A n->b8 R c.outer->St c R ah H s->bC H F τ l->σ=.of τ ->
  aJ c.h₀ (λzz=>iF) (vs.map abs) ds->(∀v H' F' lY l' s',bI H F H' F'->lY.self=τ.self->bC H' F' lY l'->dU=.of lY->Rep c.h₀ (aN H' F') (abs v) d->St c R ah H' s'->Rr (.ok (.ret v)) s')->dB c.M A (.call (.ref f) ⟨.ref τ.self::vs,[]⟩) Rr s
theorem kY.act{G:Gx}{n:Nat}{f:Addr}{σ:ca}{ds:List DV}{dU:ca}{d:DV}(h:kY G n f σ ds dU d):Act G n f σ ds dU d:=⟨λ{c A R ah H s vs F τ l Q E} b ok a g st S e r k=>jk (h.run (Rr:=L9 Q E) b ok a g st S e r k)⟩
section
variable{G:Gx}{n:Nat}{σ:ca}
theorem zN{h:Heap}{H:af}{vs:List ab}{ns:List Int}(r:aJ h H (vs.map abs) (ns.map DV.int)):vs.map abs=ns.map AV.int:=r.m6
theorem x9{k:Int}{preds:List Int}(j:G.K=KP G.w.params)(f:σ.rd=iF)(hz:σ.g.ks.length+preds.length<=9000)(b:∀k,(σ.g.sc k).length+preds.length<=9000):kY G (n+4) 105 σ (.int k::preds.map DV.int) { σ with g:=iK k preds σ.g } .none:=⟨λ{c A R ah H s vs F τ l Rr} m ok i p st S e r h=>by
 subst e;cases vs with
 |nil=>exact GM r.length (nofun)
 |cons v vs =>obtain⟨t,rfl⟩:=r.head.toInt;exact Fd (d:=n) (by(refine aa m ?_);exact j) ok i st S f (zN r.tail) hz b λH' o l' s' P S' a=>h .none H' o { τ with g:=iK k preds τ.g } l' s' P rfl S' rfl .none a⟩
theorem x!{rk:Int->Nat}(o:G.K=KP G.w.params)(f:σ.rd=iF)(hz:σ.g.ks.length<=1000)(a:∀k∈σ.g.ks,(σ.g.sc k).length<=1000)(i:∀k∈σ.g.ks,∀j∈σ.g.sc k,j∈σ.g.ks/\rk j<rk k) :
  Act G (n+2) 110 σ [] { σ with rd:=wf (σ.g.ks.filter λk=>σ.g.np k==0) } .none:=⟨λ{c A R ah H s vs F τ l Q E} p ok d q st S e r h=>by
 subst e;have m:vs=[]:=by have:=r.length;rw[aw] at this;exact iv this
 refine aa m ?_
 exact U9 (rk:=rk) (by(refine aa p ?_);exact o) ok (by have:=d.depth;exact Qs this) d.handled d.frames q st S f hz a i λH' t l' s' P S' b=>h .none H' t { τ with rd:=wf (τ.g.ks.filter λk=>τ.g.np k==0) } l' s' P rfl S' rfl .none b⟩
theorem oq{r:List Int}(o:G.K=KP G.w.params)(b:σ.rd=wf r)(hz:r.length<=10000)(m:∀k∈r,k∈σ.g.ks) :
  Act G (n+1) 117 σ [] { σ with g:={ σ.g with np:=outs r σ.g.np },rd:=wf [],po:=σ.po+r.length } (.tuple (r.map DV.int)):=⟨λ{c A R ah H s vs F τ l Q E} p ok i u st S e rp h=>by
 subst e;have j:vs=[]:=by have:=rp.length;rw[aw] at this;exact iv this
 refine aa j ?_
 refine Vu (d:=n) (aa p o) ok i st S b hz m λD H' s' t f P S' a=>h (.ref D) H' F { τ with g:={ τ.g with np:=outs r τ.g.np },rd:=wf [],po:=τ.po+r.length } l s' P rfl S' rfl (.pP ?_ (aJ.ints r)) a;delta aN;refine aa (Da (λq=>S.all D q t)) ?_
 exact f⟩
noncomputable def ff(ns:List Int)(σ:ca):ca:=.of (dZ ns ⟨0,0,0,σ.g,σ.rd,σ.po,σ.nf⟩)
theorem t9(ns:List Int):∀(τ:cn) (a b c:Addr),ca.of (dZ ns τ)=.of (dZ ns ⟨a,b,c,τ.g,τ.rd,τ.po,τ.nf⟩):=by
 induction ns with
 |nil=>intro τ a b c;rfl
 |cons k r d=>intro τ a b c;exact d (mK τ k) a b c
theorem qv{r:List Int}{ns:List Int}(q:G.K=KP G.w.params)(m:σ.rd=wf r)(hz:ns.length<=1000)(p:∀k∈ns,k∈σ.g.ks)(j:∀k∈σ.g.ks,(∀x∈σ.g.sc k,x∈σ.g.ks)/\(σ.g.sc k).length<=1000)(a:∀i (hi:i<ns.length),(ff (ns.take i) σ).g.np ns[i]=-1)(b:∀i,i<=ns.length->((ff (ns.take i) σ).rd.getD []).length<=8000):kY G (n+1) 138 σ (ns.map DV.int) (ff ns σ) .none:=⟨λ{c A R ah H s vs F τ l Rr} t ok o u st S e rp h=>by
 subst e;refine GX (d:=n) (by(refine aa t ?_);exact q) ok o st S m (zN rp) hz p j (λi hi=>?_) (λi hi=>?_) λH' s' P S' f=>h .none H' F _ l s' P (yz ns τ).1 S' (t9 ns τ 0 0 0).symm .none f
 ·have:=a i hi;unfold ff at this;rw[show ca.of (dZ (ns.take i) ⟨0,0,0,(ca.of τ).g,(ca.of τ).rd,(ca.of τ).po,(ca.of τ).nf⟩)=.of (dZ (ns.take i) τ) from(t9 _ τ 0 0 0).symm] at this;exact this
 have:=b i hi;unfold ff at this;rw[show ca.of (dZ (ns.take i) ⟨0,0,0,(ca.of τ).g,(ca.of τ).rd,(ca.of τ).po,(ca.of τ).nf⟩)=.of (dZ (ns.take i) τ) from(t9 _ τ 0 0 0).symm] at this;exact this⟩
end
section
variable{V:Vx}{c:Cx}{A:aD}{env:Env}{R0:af}{ρ:b_}{ex:Option (AV×XV)}{ah:Str->Option AV}{R H:af}{F:Option Str->Addr->Prop}{s:ae}{E:ab->ae->Prop}{x:Str}{σ dU:ca}{ds:List DV}{d:DV}{f:Addr}
theorem Fs.act{vs:List ab}{a:Addr}{Q:ab->ae->Prop}(act:Act V.G V.n f σ ds dU d)(B:bX V c A env R0)(m:Fs V c env R0 ρ ex ah R H F s)(hx:ρ x=wf (.own (.dv σ)))(ha:bk c env ah R x=wf (.ref a))(hr:aJ c.h₀ (λzz=>iF) (vs.map abs) ds)(k:∀v R' H' i s',Sub H H'->(∀y av,bk c env ah R y=wf av->bk c env ah R' y=wf av)->Rep c.h₀ H' (abs v) d->Fs V c env R0 (putN ρ x (.own (.dv dU))) ex ah R' H' i s'->Q v s'):al c.M A (call (.ref f) (.ref a::vs) []) Q E s:=by
 refine bJ (m.var x _ hx) λav Y τ l y2 Z=>?_
 obtain rfl:=y2;obtain⟨he,S⟩:=Z;replace ha:=Y▸ha;cases ha;have W:∀b,F (wf x) b->R b≠iF:=λb g=>(m.foot _ b g).1;have o:=m.st.shown (S:=F (wf x));have U:=sq m.st W;have fi:b8 (aN R (F (wf x))) c.outer:=B.fi.keep (c6.gK ⟨λb ao e=>by
  delta aN;refine aa (Da (λq=>by rw[(m.foot _ b q).2.1] at e;injection e)) ?_
  exact m.base b ao e⟩)
 refine act.run B.G B.ok B.rm fi o (S.on (H':=bQ R H (F (wf x))) λb g=>by unfold bQ;(exact aa (FB g) rfl)) he hr λv H' i J l' s' P u S' L D p=>?_
 have t:∀b,i b->F (wf x) b\/(R b=iF/\H b=iF):=λb g=>by
  obtain q|q:=P.new b g
  ·exact .inl q
  by_cases O:F (wf x) b
  ·exact .inl O
  refine .inr ⟨?_,?_⟩
  ·have:=p.aF b (S'.all b g);unfold aN at this;rwa [Da O] at this
  unfold bQ at q;rwa [Da O] at q
 have C:Sub H (aN H' i):=⟨λb ao e=>by have T:=λq=>W b q (m.st.aF b (by(refine aa e ?_);intro z;injection z));have X:=P.off T (by unfold bQ;(refine aa (Da T) ?_);exact e);delta aN;(refine aa (Da X.1) ?_);exact X.2⟩
 have j:St c (λb=>if i b then H' b else R b) ah (aN H' i) s':=by
  refine p.part (λb ao h=>?_) λb h=>?_
  ·obtain h|h:=h
   ·unfold aN at h;by_cases q:i b
    ·rw[FB q] at h;injection h
    rw[Da q] at h;exact .inl h
   by_cases q:i b
   ·rw[FB q] at h;exact .inl h
   rw[Da q] at h;exact .inr (by unfold aN;(refine aa (Da (λz=>q (P.sub b z))) ?_);exact h)
  unfold aN at h;by_cases q:i b
  ·rw[FB q] at h;exact GM rfl h
  replace h:=(Da q)▸h;refine aa (Da q) ?_
  have:=p.aF b h;unfold aN at this;rwa [Da (λz=>q (P.sub b z))] at this
 have m':=m.jM (xv:=.own (.dv dU)) (G:=i) B C j Y (λb g N=>?_) (λb g=>⟨?_,?_⟩) (cj J l' (by(exact aa u rfl)) L (S'.on λb g=>FB g))
 ·refine k v _ _ _ s' C (λy av I=>?_) D m';rw[jG B (λb I g=>Da (λq=>?_)) rfl]
  ·exact I
  obtain q|q:=t b q
  ·exact(m.foot _ b q).2.2 y I g
  obtain⟨r,e⟩|⟨w,e⟩:=(m.slots y I).at g<;>(rw[q.1] at e;injection e)
 ·refine Da (λq=>?_);obtain q|q:=t b q
  ·exact g q
  exact N q.1
 ·(refine aa (FB g) ?_);exact S'.all b g
 exact(t b g).imp id (·.1)
end
end
section
open Classical
structure a9(V:Vx)(e:Expr)(ρ:b_)(d:DV)(ρ':b_):Prop where
 run:∀{c:Cx} {A:aD} {env:Env} {R0:af} {ex:Option (AV×XV)} {ah:Str->Option AV} {R H:af} {F:Option Str->Addr->Prop} {s:ae} {Q:ab->ae->Prop} {E:ab->ae->Prop},bX V c A env R0->Fs V c env R0 ρ ex ah R H F s ->
  (∀v R' H' F' s',Sub H H'->(∀y av,bk c env ah R y=wf av->bk c env ah R' y=wf av)->Rep c.h₀ H' (abs v) d->Fs V c env R0 ρ' ex ah R' H' F' s'->Q v s')->al c.M A (eval e env) Q E s
def jn(V:Vx):List Expr->b_->List DV->b_->Prop
 |[],ρ,ds,ρ'=>ds=[]/\ρ'=ρ
 |e::r,ρ,ds,ρ'=>∃d ds' eP,a9 V e ρ d eP/\jn V r eP ds' ρ'/\ds=d::ds'
section
variable{V:Vx}{ρ ρ' eP:b_}{e:Expr}{d:DV}{ds:List DV}{x name:Str}{px ap pos sp:Pos}{args:List Expr}{σ dU:ca}{f:Addr}
theorem a9.sc(h:bK V e ρ d):a9 V e ρ d ρ:=⟨λc m k=>h.run c m λv H' s' hs b m'=>k v _ H' _ s' hs (λa a q=>q) (b _ _) m'⟩
theorem a9.iP(h:Ev V e (fW ρ) d):a9 V e ρ d ρ:=⟨λf m k=>h.run (m.pre f) m.st m.ja λv H' s' hs c a=>k v _ H' _ s' hs (λb b q=>q) c (m.grow hs a)⟩
theorem jn.nil:jn V [] ρ [] ρ:=⟨rfl,rfl⟩
theorem jn.one(h:a9 V e ρ d ρ'):jn V [e] ρ [d] ρ':=⟨d,[],ρ',h,⟨rfl,rfl⟩,rfl⟩
theorem jn.go{c:Cx}{A:aD}{env:Env}{R0:af}{ex:Option (AV×XV)}{ah:Str->Option AV}{E:ab->ae->Prop}(L:bX V c A env R0):∀{args:List Expr} {ρ:b_} {ds:List DV} {R H:af} {F:Option Str->Addr->Prop} {s:ae} {Q:List ab->ae->Prop},jn V args ρ ds ρ' ->Fs V c env R0 ρ ex ah R H F s->(∀vs R' H' N s',Sub H H'->(∀y av,bk c env ah R y=wf av->bk c env ah R' y=wf av)->aJ c.h₀ H' (vs.map abs) ds->Fs V c env R0 ρ' ex ah R' H' N s'->Q vs s')->ey c.M A E env args Q s:=by
 intro args;induction args with
 |nil =>intro ρ ds R H F s Q h m k;obtain⟨rfl,rfl⟩:=h;exact k [] R H F s (Sub.refl _) (λD D q=>q) .nil m
 |cons e r G =>
  intro ρ ds R H F s Q h m k;refine rK h λd ds' eP J I w=>?_
  obtain rfl:=w;exact J.run L m λv z B C x b g l o=>G I o λvs p t u i a f j n=>k (v::vs) p t u i (b.trans a) (λy av q=>f y av (g y av q)) (.cons (l.mono a) j) n
theorem K7{c:Cx}{A:aD}{env:Env}{R0:af}{ex:Option (AV×XV)}{ah:Str->Option AV}{R H:af}{F:Option Str->Addr->Prop}{s:ae}{E:ab->ae->Prop}{a:Addr}{pl:Sem Bool}{Q:ab×List ab->ae->Prop}(p:V.G.K=KP V.G.w.params)(d:bX V c A env R0)(m:Fs V c env R0 ρ ex ah R H F s)(i:ρ x=wf (.own (.dv σ)))(ha:bk c env ah R x=wf (.ref a))(n:∀P,eI (KP P) (.ref 155) name=wf (wf (.ref f)))(j:∀P,isFn (KP P) (.ref f)=true)(k:∀(τ:cn) l,(τ.attrs l).lookup name=iF)(h:Q (.ref f,[.ref a]) s):al c.M A (j4 (.ref a) name pl) Q E s:=by
 refine bJ (m.var x _ i) λav q τ l g e=>?_
 obtain rfl:=g;obtain⟨r,S⟩:=e;replace ha:=q▸ha;cases ha;have S':bC (bQ R H (F (wf x))) (F (wf x)) τ l:=S.on λb o=>by unfold bQ;(exact aa (FB o) rfl)
 exact rx (aa d.G p) d.ok (m.st.shown (S:=F (wf x))) S'.inst S'.attr (n _) (j _) (k τ l) h
theorem a9.ly(C:V.G.K=KP V.G.w.params)(z:ρ x=wf (.own (.dv σ)))(U:jn V args ρ ds eP)(a:eP x=wf (.own (.dv σ)))(act:Act V.G V.n f σ ds dU d)(j:∀d∈ds,d.scalar=true)(S:∀P,eI (KP P) (.ref 155) name=wf (wf (.ref f)))(J:∀P,isFn (KP P) (.ref f)=true)(O:∀P,dr (KP P) (.ref f)=true)(M:∀(τ:cn) l,(τ.attrs l).lookup name=iF)(N:autoParam (oh (.Name x px) name ap args pos) aU)(hp:autoParam (Plain args) aU):a9 V (.Call (.Attribute (.Name x px) name ap) args [] pos) ρ d (putN eP x (.own (.dv dU))):=⟨λ{c A env R0 ex ah R H F s Q E} b m k=>by
 refine bJ (m.var x _ z) λav g τ l D W=>?_
 obtain rfl:=D;obtain⟨pl,T⟩:=N env;refine dX (c:=c) (pl:=pl) (ik m.st b.fn (b.g! g) g λv I=>?_) T;refine aa (ed I) ?_
 refine K7 C b m z g S J M (cw (c:=c) (U.go b m λvs R' H' X s' hs B L m'=>⟨jQ b.ok m'.st (aa b.G (aa C (O _))),?_⟩) (hp env));exact Fs.act act b m' a (B _ _ g) (L.any j) λv r t u h o p e i=>k v r t u h (hs.trans o) (λy av q=>p y av (B y av q)) e i⟩
theorem a9.pop{k:Int}{i:Expr}(G:ρ x=wf (.own (.list ds)))(hi:bK V i ρ (.int k))(T:0<=k)(P:ds[k.toNat]?=wf d)(hz:ds.length<=2^24)(N:autoParam (oh (.Name x px) "pop" ap [i] pos) aU)(hp:autoParam (Plain [i]) aU) :
  a9 V (.Call (.Attribute (.Name x px) "pop" ap) [i] [] pos) ρ d (putN ρ x (.own (.list (ds.eraseIdx k.toNat)))):=⟨λ{c A env R0 ex ah R H F s Q E} n m K=>by
 refine iX (m.mut n G) λa vs B p p q p=>?_
 obtain⟨pl,O⟩:=N env;refine dX (c:=c) (pl:=pl) (ik m.st n.fn (n.g! B) B λv L=>?_) O;refine aa (ed L) ?_
 refine gI q (am ..) PySem.F.slot_list_pop PySem.F.type_list_pop (cw (c:=c) ?_ (hp env));refine hi.run n m λv H' s' S M m'=>⟨trivial,?_⟩;refine oE ((M c.h₀ λp=>iF).toInt) λt I=>?_
 obtain rfl:=I;refine iX (m'.mut n G) λU g fh e y r o=>?_
 replace fh:=B▸fh;cases fh;refine ak (e.get P) λav z j=>?_
 refine U6 r (am ..) T z (by(refine aa e.length ?_;refine aa bW ?_);exact hz) λw h J f=>?_
 rw[show upd (upd H' a (.list g)) a (.list (g.eraseIdx k.toNat))=upd H' a (.list (g.eraseIdx k.toNat)) from funext λb=>by unfold upd;split<;>rfl] at f;obtain⟨C,D,l,u⟩:=o _ (ds.eraseIdx k.toNat) H' h (by rw[nz,nz];exact(e.take _).append (e.drop _)) (Sub.refl _) y f
 exact K w C H' D h S l (aa J j) u⟩
theorem Ex.expr{l l':Nm}(h:a9 V e (aM l) .none ρ')(c:ρ'=aM l')(hs:autoParam (∀env,iH e iF sp.line env=pure false) aU):Ex V (.Expr e sp) l .next l':=⟨λa m k=>by
 refine dQ m λah R H F low m=>?_
 exact jx a.fn (h.run a m λv R' H' d s' hs f b m'=>⟨b.Dc,k s' (ei ah R' H' d (low.trans hs) (c▸m'))⟩) (hs _)⟩
theorem Ex.forM{l l₁:Nm}{iter bR:Expr}{body:List Stmt}(J:Nat->Nm)(f:a9 V iter (aM l) (.tuple ds) ρ')(q:ρ'=aM l₁)(u:a? (J 0) l₁)(turn:∀(i:Nat) d,ds[i]?=wf d->∃bs l',fC bR d bs/\(∀p∈bs,isVar V.T p.1=true)/\au V body (oG bs (J i)) .next l'/\a? (J (i+1)) l')(hs:autoParam (∀env x,fQ iter env x=pure x) aU):Ex V (.For bR iter body [] pos) l .next (J ds.length):=⟨λ{c A env R0 H0 s Q} b m k=>by
 refine dQ m λah R H F low m=>?_
 subst q;refine kW (f.run b m λv R' H' z s' t w o m'=>?_) (hs env);refine aV o.kG λl vs n j=>?_
 obtain rfl:=n;obtain⟨h,e⟩:=j;exact o7 b.ok m'.st h λit g y r a=>yQ J b m' u (low.trans t) turn (zP b.rm.handled) (aC rfl h e) (Sub.refl _) r a k⟩
structure n!(G:Gx)(n:Nat)(f:ab)(ds:List DV)(o:MO):Prop where
 run:∀{c:Cx} {A:aD} {R:af} {ah:Str->Option AV} {H:af} {s:ae} {vs:List ab} {Q:ab->ae->Prop} {E:ab->ae->Prop},c.G=G->c.Ok->bL c A n->b8 R c.outer->St c R ah H s->aJ c.h₀ H (vs.map abs) ds ->
  (∀v W Hf (X:Addr->Prop) s',Sub H Hf->fG c.h₀ W Hf X (abs v) (.own o)->(∀a,X a->Hf a=iF/\W a≠iF)->St c R ah (λa=>if X a then W a else Hf a) s'->Q v s')->al c.M A (call f vs) Q E s
theorem bb.yg{o:MO}{np:Pos}{S:ab}(g:Glob V x S)(t:aZ V args (fW ρ) ds)(hd:n! V.G V.n S ds o)(hp:autoParam (Plain args) aU):bb V (.Call (.Name x np) args [] pos) ρ (.own o):=⟨λ{c A env R0 ex ah R H F s Q E} I m k=>by
 refine ow g hp t (m.pre I) m.st m.ja λvs T P l hr B=>hd.run I.G I.ok I.rm (m.pre I).fi B hr λv W U X cF f hx L b=>?_
 have C:∀a,X a->R a=iF:=λa t=>b.aF a (by(refine aa (FB t) ?_);exact(L a t).2)
 have sub:Sub R (λa=>if X a then W a else R a):=⟨λa ao e=>by(refine aa (Da (λq=>by rw[C a q] at e;injection e)) ?_);exact e⟩
 have u:St c (λa=>if X a then W a else R a) ah U cF:=b.part (λa ao h=>by
  obtain h|h:=h
  ·exact .inl (by(refine aa (Da (λq=>by(replace h:=((L a q).1)▸h);injection h)) ?_);exact h)
  ·by_cases q:X a
   ·replace h:=(FB q)▸h;exact .inl (aa (FB q) h)
   (replace h:=(Da q)▸h);exact .inr h) λa h=>by
  have q:=λq=>h (L a q).1;refine aa (Da q) ?_
  exact b.aF a (by(refine aa (Da q) ?_);exact h)
 have ne:=λi a h q=>(m.foot i a h).1 (C a q);refine k v _ U (λi=>if i=iF then X else F i) cF sub (l.trans f) (λa h=>C a h) ⟨u,λy M=>(m.slots y M).sub sub,λy yv e=>?_,λFy DF e=>?_,λi a h=>?_,λi j a D p d=>?_,λa ao e=>sub.le _ _ (m.base a ao e),m.cells⟩
 ·refine ak (m.var y yv e) λav p d=>(ar av (o8 p sub) ?_);refine aa (Da (λz=>(by injection z))) ?_
  exact d.on (l.trans f) λa t=>Da (ne _ a t)
 ·cases e;refine aa (FB rfl) ?_
  have O:∀a,X a->(if X a then W a else R a)=W a:=λa t=>FB t;exact hx.on (Sub.refl _) O
 ·by_cases q:i=iF
  ·have h:=h;replace h:=(FB q)▸h;refine aC (by(refine aa (FB h) ?_);exact(L a h).2) ?_ (λy M N=>?_)
   ·cases e:R0 a with
    |none=>rfl
    |some ao=>have:=m.base a ao e;(replace this:=(C a h)▸this);injection this
   obtain⟨r,e⟩|⟨w,e⟩:=(m.slots y M).at N<;>((replace e:=(C a h)▸e);injection e)
  have h:=h;replace h:=(Da q)▸h;refine a! (m.foot i a h) λz1 Z Y=>?_
  exact aC (by(refine aa (Da (ne i a h)) ?_);exact z1) Z Y
 have p:=p;have d:=d;by_cases q:i=iF
 ·have J:j≠iF:=λz=>D (by(refine aa q ?_;exact aa z rfl));replace p:=(FB q)▸p;replace d:=(Da J)▸d;exact ne j a d p
 replace p:=(Da q)▸p;by_cases J:j=iF
 ·(replace d:=(FB J)▸d);exact ne i a p d
 (replace d:=(Da J)▸d);exact m.fU i j a D p d⟩
theorem n!.make{n:Nat}{G:Gx}(i:G.K=KP G.w.params):n! G (n+2) (.ref 155) [] (.dv ⟨.empty,iF,0,0⟩):=⟨λ{c A R ah H s vs Q E} j ok g p st r k=>by
 have h:vs=[]:=by have:=r.length;rw[aw] at this;exact iv this
 refine aa h ?_
 refine KY (d:=n) (aa j i) ok g st λx o nd H' F l s' m hs S b=>k (.ref x) H' (aN H' F) F s' ⟨λa ao e=>?_⟩ ⟨⟨x,o,nd,.empty,iF,0,0⟩,l,rfl,rfl,S⟩ (λa f=>⟨FB f,S.all a f⟩) ?_
 ·have q:¬F a:=λq=>by rw[m a q] at e;injection e
  delta aN;(refine aa (Da q) ?_);exact hs.le a ao e
 rw[show(λa=>if F a then H' a else aN H' F a)=H' from funext λa=>by
  delta aN;by_cases q:F a
  ·exact aa (FB q) rfl
  (refine aa (Da q) ?_;exact aa (Da q) rfl)]
 exact b⟩
end
end
section
open Classical
theorem Gs{pos:Pos}{x cv:ab}{a b:Int}(l:List ab)(h:qc l)(e:nQ pos (l++[eK a,eK b,x])=wf cv):nQ pos l=wf cv\/cv=x:=by
 fun_induction qc l with
 |case1 =>
  simp only[iA,nQ,eK] at e;split at e
  ·(replace e:=ax e;subst e);exact .inr rfl
  injection e
 |case2 a' t b' u x' rest ih =>
  simp only[l8,nQ] at e ⊢;split at e
  ·rename_i q;(refine aa (FB q) ?_);exact .inl e
  rename_i q;(refine aa (Da q) ?_);exact ih h e
 |case3 l h1 h2=>exact h.elim
section
variable{c:Cx}{R:af}{ρ:Str->Option AV}{H:af}{s:ae}{A:aD}{E:ab->ae->Prop}
variable{name qual:Str}{params:gQ}{body:Expr}{scope:bS}{bw:List (Str×Addr)}{c' P cc:Addr}{pos:Pos}{firstLine:Nat}{Q:ab->ae->Prop}{ps:Array ab}
theorem St.free(ok:c.Ok)(st:St c R ρ H s){b:Addr}(a:s.heap.objs.size<=b):H b=iF/\R b=iF/\b≠c.L/\c.h₀.get? b=iF/\3<b:=by
 refine ak st.fr λm F f=>(pQ ?_ ?_ ?_ ?_ (fx (st.lR ok) a))
 ·cases e:H b with
  |none=>rfl
  |some ao=>exact GM (fx (st.lt e) a) (dz _)
 ·cases e:R b with
  |none=>rfl
  |some ao=>refine ak (st.bP b ao e) λd z d=>?_;exact GM (fx (cZ z) a) (dz _)
 ·exact jZ (fx st.jr a)
 exact sH (bF F.above (gv (fx st.jr a)))
theorem C!{ps:Array ab}{q:Str}(a:qc ps.toList):¬(fc q).Is (d? ps):=λ⟨vs,c,b,e3⟩=>by
 injection b with b;subst b;replace e3:=(bn DK)▸e3;revert a e3;generalize ps.toList=l;intro a e3;cases l with
 |nil=>injection e3
 |cons x l =>
  cases l with
  |nil=>injection e3
  |cons y r =>replace e3:=ax e3;subst e3;cases x<;>exact a
theorem Kx{ao:AO}{p:Addr×AO}{ps:Array ab}(a:qc ps.toList)(l:p∈ao.links)(h:p.2.Is (d? ps)):False:=by
 cases ao with
 |lam=>(replace h:=(aK.mp l)▸h);exact C! a h
 |enum=>(replace h:=(aK.mp l)▸h);exact nomatch h.1
 |zip =>
  revert h;refine lx l (λh=>?_) (λh=>?_) (λh=>?_) (λh=>?_)
  ·cases h
  ·obtain⟨_,_,h⟩:=h;cases h
  ·exact nomatch h.1
  exact nomatch h.1
 |_=>cases l
theorem Kc(ok:c.Ok)(st:St c R ρ H s)(C:CodeHd c.h₀ cc P)(he:c.bd.code=.ref cc)(hP:(P,qual)∈c.G.tabs)(hu:∀V,(P,V)∈c.G.tabs->V=qual)(Z:qg scope c.bd=pure bw)(h:∀f c' s',H f=iF->St c R ρ (upd H f (g9 name qual params body scope bw c')) s'->Q (.ref f) s') :
  al c.M A (makeFunction name qual params (.expr body) scope c.bd [] [] [] pos firstLine) Q E s:=by
 refine oE st.tb λT t=>(aB (t.tabs P qual hP) λps B ht Ip=>?_);refine aB (t.own P _ B) λo S y5 z5=>?_
 obtain rfl:=y5;obtain⟨p1,p2,p3⟩:=z5;refine ak st.fr λm F hr=>?_
 have J:=ok.T.g.keeps F.keep;refine rJ ok.T.bmain λbm ob b1 b2 b3 b4 b5 b6=>?_
 have IC:b7≠P:=λq=>by
  refine rK J λo es ep e Y j=>?_
  rw[q,S] at e;(replace e:=ax e;subst e);injection Y
 have zp:bm≠P:=λq=>by have e:=F.keep _ _ b3;rw[q,S] at e;(replace e:=ax e;subst e);injection b4
 have zo:bm≠b7:=λq=>by
  refine rK ok.T.g λo es ep e Y j=>?_
  rw[q,e] at b3;(replace b3:=ax b3;subst b3);rw[Y] at b6;injection b6
 have sh:=st.sh;obtain⟨zh,zi⟩:=t.aF P (by(refine aa B ?_);intro q;injection q);have fin:∀{h':Heap} {tk c' cC} {T':af},(∀b o,b≠P->s.heap.get? b=wf o->h'.get? b=wf o)->s.heap.objs.size<=h'.objs.size->cS c R H h' T'->T' c'=wf (fc qual) ->St c R ρ (upd H h'.objs.size (g9 name qual params body scope bw c')) { s with heap:=h'.push (qh name qual params body scope bw ((c.G.mg "__name__").getD .none) c' cC),toks:=tk }:=λ{h' tk c' cC T'} W hz D N=>by
  refine pf (st.free ok hz) λy1 y2 y3 y4 y5=>?_
  have keep:∀b o,b≠P->s.heap.get? b=wf o->(h'.push (qh name qual params body scope bw ((c.G.mg "__name__").getD .none) c' cC)).get? b=wf o:=λb o n e=>gR _ (W b o n e)
  have nP:∀b,H b≠iF\/R b≠iF->b≠P:=λb e q=>by rw[q,zh,zi] at e;exact e.elim (λz=>z rfl) λz=>z rfl
  refine⟨⟨m,⟨(F.ns.extBut W (aI p1)).push _,λb o e=>keep b o (λq=>by rw[q,p2] at e;injection e) (F.keep b o e),F.above⟩,hr⟩,λb ao e=>?_,λb ao e=>(st.bP b ao e).mono λo=>keep b o (nP b (.inr (by(refine aa e ?_);intro q;injection q))),λb e=>?_,aa sh rfl,T',?_⟩
  ·by_cases k:b=h'.objs.size
   ·subst k;rw[am] at e;(replace e:=ax e;subst e);exact dp _ (pV _ rfl) (dT _ _ rfl) y3 y4 y5
   rw[aj k] at e;exact(st.own b ao e).mono λo=>keep b o (nP b (.inl (by(refine aa e ?_);intro q;injection q)))
  ·by_cases k:b=h'.objs.size
   ·subst k;exact y2
   rw[aj k] at e;exact st.aF b e
  refine⟨D.tabs,λa ao e=>(D.own a ao e).mono λo=>gR _,λa e=>⟨?_,(D.aF a e).2⟩,λa ao p e l=>?_,λa ao a' ao' p p' e e' n l l' q=>?_⟩
  ·(refine aa (aj (λq=>by rw[q,D.size] at e;exact e rfl)) ?_);exact(D.aF a e).1
  ·refine cg (i_ a ao e) (λe=>?_) (λWW=>oA WW λj e=>?_)
   ·exact D.link a ao p e l
   rw[e] at l;(refine aa (aK.mp l) ?_);exact N
  refine cg (i_ a ao e) (λe=>?_) (λWX=>oA WX λj e=>?_)
  ·refine cg (i_ a' ao' e') (λe'=>?_) (λwA=>oA wA λj e'=>?_)
   ·exact D.excl a ao a' ao' p p' e e' n l l' q
   rw[e'] at l';have z:=D.link a ao p e l;rw[q,aK.mp l',N] at z;exact⟨_,(ax z).symm⟩
  rw[e] at l;(refine aa (aK.mp l) ?_);exact⟨_,rfl⟩
 refine cE (x:=nQ pos ps.toList) (λN=>?_) (λcv N=>?_)
 ·
  refine kla_makeFunction (mg:=c.G.mg) Z ok.glob J he (C.keeps F.keep) S ht N IC (DB bm ob b1 b2 zo zp (F.keep _ _ b3) b4 b5 b6) λc' cC h' tk W L eN X I!=>(L1 X λd oc vs tt i uL Y hv=>?_);injection i with i;subst i;refine pf (st.free ok L) λx1 x2 x3 x4 x5=>?_
  have v:s.heap.objs.size<=h'.objs.size:=bF L (gv eN);have nc:∀b ao,T b=wf ao->b≠c':=λb ao e q=>by
   refine ak (t.own b ao e) λj z j=>?_
   exact GM (cZ z) (nJ (by(refine aa q ?_);exact L))
  have Ij:c'≠P:=λq=>nc P _ B q.symm;refine h h'.objs.size c' _ (st.free ok v).1 (fin (T':=upd (upd T P (i9 (ps++#[eK pos.line,eK pos.col,.ref c']))) c' (fc qual)) W v ?_ (am ..));have y:∀b q,T b=wf (fc q)->b≠P->upd (upd T P (i9 (ps++#[eK pos.line,eK pos.col,.ref c']))) c' (fc qual) b=wf (fc q):=λb q e n=>by(refine aa (aj (nc b _ e)) ?_;refine aa (aj n) ?_);exact e
  have u:∀q,T P≠wf (fc q):=λq e=>by
   refine aB (t.own P _ e) λo e1 i j=>?_
   rw[S] at e1;(replace e1:=ax e1;subst e1);exact C! ht i
  refine⟨λP' V zg=>?_,λb ao e=>?_,λb e=>?_,λb ao p e l=>?_,t.excl⟩
  ·refine aB (t.tabs P' V zg) λv6 I z2 z3=>?_
   by_cases q:P'=P
   ·subst q;replace I:=B▸I;have I:=congrFun (AO.obj.inj (ax I)) (d? ps);have z4:d? ps=d? v6:=az I rfl
    have z5:ps=v6:=Array.ext' (congrArg Array.toList (Data.fields.inj (congrArg Obj.data z4)));subst z5;refine aR _ (by rw[aj (aI Ij),am]) (by(refine aa wP ?_);exact TriplesOk_snoc _ _ _ _ z2) (λr cv e=>?_);obtain rfl:=hu V zg;rw[wP] at e;obtain e|e:=Gs _ z2 e
    ·refine ak (z3 r cv e) λd e1 i=>?_
     exact ar d e1 (y d _ i λw=>u _ (w▸i))
    exact ar c' e (am ..)
   refine aR v6 (aa (aj (nc P' _ I)) (aa (aj q) I)) z2 (λr cv e=>?_);refine ak (z3 r cv e) λd e1 i=>?_
   exact ar d e1 (y d _ i λw=>u _ (w▸i))
  ·by_cases k:b=c'
   ·subst k;rw[am] at e;(replace e:=ax e;subst e);exact dp _ uL (a_ vs tt Y hv) x3 x4 x5
   rw[aj k] at e;by_cases O:b=P
   ·subst O;rw[am] at e;(replace e:=ax e;subst e);exact dp _ I! rfl p1 p2 p3
   rw[aj O] at e;exact(t.own b ao e).mono λo=>W b o O
  ·by_cases k:b=c'
   ·subst k;exact⟨x1,x2⟩
   replace e:=(aj k)▸e;by_cases O:b=P
   ·subst O;exact⟨zh,zi⟩
   rw[aj O] at e;exact t.aF b e
  have z:=t.link b ao p e l;have hn:p.1≠P:=λw=>by
   refine aB (t.own P _ (w▸z)) λo e1 i j=>?_
   rw[S] at e1;(replace e1:=ax e1;subst e1);exact Kx ht l i
  (refine aa (aj (nc _ _ z)) ?_;refine aa (aj hn) ?_);exact z
 ·
  refine ak (Ip pos cv N) λc' U lg=>?_
  obtain rfl:=U;refine kla_makeFunctionHit (mg:=c.G.mg) Z ok.glob J he (C.keeps F.keep) S ht N (DB bm ob b1 b2 zo zp (F.keep _ _ b3) b4 b5 b6) λcC h' tk hk v=>?_
  exact h h'.objs.size c' _ (st.free ok v).1 (fin (λb o j=>hk b o) v (t.to (λb o j=>hk b o) λj j=>.inl) lg)
end
section
variable{V:Vx}{c:Cx}{A:aD}{env:Env}{R0:af}{ρ:b_}{ex:Option (AV×XV)}{ah:Str->Option AV}{R H:af}{F:Option Str->Addr->Prop}{s:ae}{E:ab->ae->Prop}
variable{q:Str}{params:gQ}{body:Expr}{scope:bS}{bw:List (Str×Addr)}{P:Addr}{pos:Pos}{Q:ab->ae->Prop}
theorem Fs.lam(f:bX V c A env R0)(m:Fs V c env R0 ρ ex ah R H F s)(n:V.P=wf (P,q))(a:tm params env=([],[]))(b:qg scope env=pure bw)(k:∀g c' s',H g=iF->Fs V c env R0 ρ ex ah R (upd H g (g9 "<lambda>" q params body scope bw c')) F s'->Q (.ref g) s') :
  al c.M A (eval (.Lambda params body scope pos) env) Q E s:=by
 refine AG (f.code P q n) λj i l cc d C=>(kla_eval a ?_);refine aa l ?_
 have h:=f.eq;rw[h] at d b ⊢;exact Kc f.ok m.st C d (aa f.G j) (aa f.G i) b λg c' s' z e=>k g c' s' z (h▸m.grow ((Sub.refl _).upd z) e)
end
end
section
open Classical
theorem Rep.AE{h:Heap}{H H':af}(s:∀a ao,H a=wf ao->(∀v,ao≠.cell v)->H' a=wf ao){v:AV}{d:DV}(r:Rep h H v d):Rep h H' v d:=by
 induction r with
 |none=>exact .none
 |bool b=>exact .bool b
 |int i=>exact .int i
 |list x l _ f=>exact .list (x.imp (λe=>s _ _ e (λc z=>(by injection z))) id) l f
 |tuple x l _ f=>exact .tuple (s _ _ x (λc z=>(by injection z))) l f
 |eg x=>exact .eg (s _ _ x (λc z=>(by injection z)))
 |dict x=>exact .dict (s _ _ x (λc z=>(by injection z)))
structure tF(scope:bS)(x:Str):Prop where
 kind:scope.kind=.function
 nodup:(scope.names.map (·.1)).Nodup
 each:(scope.names.all λp=>gL p.1)=true
 par:scope.names.lookup x=wf .local\/scope.names.lookup x=wf .cell
 co:scope.isCoroutine=false
 gen:scope.isGenerator=false
def fY:Option AO->Prop
 |some (.cell _)=>True
 |_=>False
theorem o6{o:Option AO}(h:fY o):∃v,o=wf (.cell v):=by
 cases o with
 |none=>exact h.elim
 |some ao=>cases ao with
  |cell v=>exact⟨v,rfl⟩
  |_=>exact h.elim
section
variable{c:Cx}{R:af}{ρ:Str->Option AV}{H:af}{s:ae}{A:aD}{E:ab->ae->Prop}
variable{name qual x:Str}{params:gQ}{body:Expr}{scope:bS}{bw:List (Str×Addr)}{f c':Addr}{n:Nat}{Q:ab->ae->Prop}{v:ab}{ρb:Str->Option DV}{G:Gx}
theorem Kb(hG:c.G=G)(ok:c.Ok)(rm:bL c A (n+1))(fi:b8 R c.outer)(st:St c R ρ H s)(lo:tF scope x)(q0:H f=wf (g9 name qual params body scope bw c'))(uz:∀pm cC,e! (kP name qual params body scope bw pm (.ref c') cC) ⟨[v],[]⟩=pure [(x,v)])(lh:∀p∈bw,∃w,H p.2=wf (.cell w))(IK:∀p∈bw,∀q∈bw,p.2=q.2->p.1=q.1)(kn:∀y,scope.names.lookup y=wf .free->∃a av,bw.lookup y=wf a/\H a=wf (.cell av)/\∀d,ρb y=wf d->∃w,av=wf w/\Rep c.h₀ H w d)(hx:∀d,ρb x=wf d->Rep c.h₀ H (abs v) d)(IW:∀y d,ρb y=wf d->y=x\/scope.names.lookup y=wf .free)(h:∀env A' R' i H' s',Pre ⟨G,n,scope.names,iF⟩ (c.on env) A' env R'->St (c.on env) R' i H' s'->View (c.on env) env i R' H' ρb ->al c.M A' (eval body env) (λw eh=>∃de,Sub H' de/\St (c.on env) R' i de eh/\(∀P,Sub H P->Sub de P->St c R ρ P eh->Q w eh)) (λI I=>False) s'):al c.M A (call (.ref f) [v]) Q E s:=by
 refine vz (st.get q0) λo ho pm cC y7=>?_
 obtain rfl:=y7;refine oE st.tb λT tb=>(aB (tb.own _ _ (tb.link f _ (c',fc qual) (.inl q0) (.head _))) λoc uL WY I=>?_);refine aV WY λvs t hd hv=>?_
 refine jk (kla_callFunE (by have:=rm.depth;exact m8 this) ho rfl lo.co lo.gen rfl (DD c' oc vs t rfl uL hd hv) ?_);refine aa (uz pm cC) ?_
 refine bH ?_
 simp only[qi,Option.isSome_none,DM,if_false];refine aG (wpAny_alloc ?_);refine aG (wpAny_layCells _ (λname kind cells=>by cases Yo:kind==nH<;>rfl) _ _ _ _ ?_);have uQ:({ s with heap:=s.heap.push { cls:=.type "frame",data:=.dict #[] } }:ae).heap.objs.size=s.heap.objs.size+1:=nr ..;refine aa uQ ?_
 generalize zf:s.heap.objs.size=L' at *;generalize g:(envX qual scope L' f (.ref c') (aY (L'+1) scope.names bw))=env;have u:∀a,H a≠iF\/upd R c.L (.ns ρ) a≠iF->a<L':=λa e=>by
  refine az zf ?_
  obtain e|e:=e
  ·exact st.EV e
  by_cases q1:a=c.L
  ·subst q1;exact st.jr
  (replace e:=(aj q1)▸e);exact st.E6 e
 have N:env.locals=L':=by(exact az g rfl)
 have m:env.scope=scope:=by(exact az g rfl)
 have r:env.cells=aY (L'+1) scope.names bw:=az g rfl;have V:∀y,env.kindOf y=scope.names.lookup y:=λy=>by(refine az g ?_);rfl
 have lD:(c.on env).Ok:=ok.on (az g rfl) (by(refine aa m ?_);exact lo.kind) (az g rfl) (az g rfl);have wk:St (c.on env) (upd R c.L (.ns ρ)) (λI=>iF) H { s with heap:=s.heap.push { cls:=.type "frame",data:=.dict #[] } } :=st.into (m':=λI=>iF) (tk:=s.toks) ok (env:=env) (by(refine aa N ?_;exact aa zf rfl)) (Heap.Ns.new s.heap (.type "frame")) (λb o e=>gR _ e) (λI I e=>(by injection e))
 have U:=wk.z8 lD scope.names;rw[uQ] at U;generalize ze:d5 scope.names (L'+1) H=HL at *;have low:∀a,a<L'->HL a=H a:=λa l=>by(refine az ze ?_);exact gH _ (ga l)
 let S:Addr->Prop:=λa=>fY (HL a);let R2:af:=λa=>if S a then HL a else upd R c.L (.ns ρ) a;have O:∀a,S a->R2 a=HL a:=λa q=>FB q;have tG:∀a,¬S a->R2 a=upd R c.L (.ns ρ) a:=λa q=>Da q;have SR:∀a,S a->upd R c.L (.ns ρ) a=iF:=λa q=>U.aF a (by refine oE (o6 q) λw e=>?_;(refine aa e ?_);intro z;injection z);have J:∀a ao,upd R c.L (.ns ρ) a=wf ao->R2 a=wf ao:=λa ao e=>by(refine aa (tG a (λq=>by(replace e:=(SR a q)▸e);injection e)) ?_);exact e
 have nh:St (c.on env) R2 (λI=>iF) (aN HL S) { s with heap:=pushCells (s.heap.push { cls:=.type "frame",data:=.dict #[] }) scope.names }:=by
  refine U.part (λa ao e=>?_) λa e=>?_
  ·obtain e|e:=e
   ·unfold aN at e;by_cases q:S a
    ·(replace e:=(FB q)▸e);injection e
    (replace e:=(Da q)▸e);exact .inl e
   by_cases q:S a
   ·(replace e:=(O a q)▸e);exact .inl e
   rw[tG a q] at e;exact .inr e
  unfold aN at e;by_cases q:S a
  ·(replace e:=(FB q)▸e);exact GM rfl e
  (replace e:=(Da q)▸e);(refine aa (tG a q) ?_);exact U.aF a e
 have Im:∀p∈bw,p.2<L':=λp hp=>by
  refine oE (lh p hp) λw e=>?_
  exact u _ (.inl (by(refine aa e ?_);intro z;injection z))
 have Gj:=qB scope.names (L'+1) bw (λp hp=>ga (Im p hp)) IK;have inj:∀y z a,env.cells.lookup y=wf a->env.cells.lookup z=wf a->y=z:=λy z a X W=>by rw[r] at X W;exact Gj (y,a) (dO X) (z,a) (dO W) rfl
 have j:∀y,scope.names.lookup y=wf .cell->∃a,env.cells.lookup y=wf a/\L'+1<=a/\HL a=wf (.cell iF):=λy hy=>by(refine aa r ?_;refine az ze ?_);exact(oy scope.names (L'+1) bw H y lo.nodup).1 hy
 have F:∀y,scope.names.lookup y=wf .free->env.cells.lookup y=bw.lookup y:=λy hy=>by(refine aa r ?_);exact(oy scope.names (L'+1) bw H y lo.nodup).2 (by(refine aa hy ?_);intro q;cases q)
 have C:∀y,scope.names.lookup y=wf .free->∃a av,env.cells.lookup y=wf a/\a<L'/\R2 a=wf (.cell av)/\∀d,ρb y=wf d->∃w,av=wf w/\Rep c.h₀ H w d:=λy hy=>by
  refine dP (kn y hy) λa av X W h3=>?_
  have l:=u a (.inl (by(refine aa W ?_);intro z;injection z));have hS:S a:=by show fY (HL a);(refine aa (low a l) ?_;refine aa W ?_);trivial
  exact dc a av (aa (F y hy) X) l (aa (O a hS) (aa (low a l) W)) h3
 have Wf:fb (c.on env) env R2 x:=by
  refine⟨by rw[V];exact lo.par,λI q=>GM rfl q,λq=>?_⟩;rw[V] at q;refine aB (j x q) λa X W h3=>?_
  exact a_ a iF X (aa (O a (by show fY (HL a);(refine aa h3 ?_);trivial)) h3)
 have ux:∀a ao,H a=wf ao->(∀w,ao≠.cell w)->aN HL S a=wf ao:=λa ao e hn=>by
  have l:=u a (.inl (by(refine aa e ?_);intro z;injection z));have:¬S a:=λq=>by
   refine oE (o6 q) λw z=>?_
   replace z:=(low a l)▸z;replace z:=e▸z;replace z:=ax z;subst z;exact hn w rfl
  delta aN;(refine aa (Da this) ?_;refine aa (low a l) ?_);exact e
 rw[Ec];have df:env.scope.kind=.function:=aa m lo.kind;refine aG (aG (aG ?_));show al _ _ (ml (envX qual scope L' f (.ref c') (aY (L'+1) scope.names bw)) x v) _ _ _;refine aa g ?_
 refine wn (c:=c.on env) nh df inj Wf λi R3 s3 jP X W h3 h4 h5 h6=>bH ?_
 show al _ _ (forIn [] PUnit.unit _) _ _ _;refine aa List.forIn_nil ?_
 refine bH (bH ?_);refine xA (jP.nolimit lD) ?_
 show dB _ _ (.expr body (envX qual scope L' f (.ref c') (aY (L'+1) scope.names bw))) _ _;refine aa g ?_
 have D:∀b,dn (c.on env) env x=wf b->L'<b:=λb hb=>by
  unfold dn at hb;rw[V] at hb;obtain q|q:=lo.par
  ·replace hb:=q▸hb;dsimp only at hb;replace hb:=(FB (rfl))▸hb;injection hb
  replace hb:=q▸hb;refine aB (j x q) λa Y z2 I=>?_
  have hb:env.cells.lookup x=wf b:=hb;(replace hb:=Y▸hb);(replace hb:=ax hb;subst hb);exact z2
 have B:=λa l=>h3 a (λq=>GM (D a q) (Qt l));have pre:Pre ⟨G,n,scope.names,iF⟩ (c.on env) (A.deeper env) env R3:=by
  refine⟨hG,lD,rm.on env,?_,aa m rfl,df,az g rfl,az g rfl,λy k hk=>?_,inj,λy hy=>?_⟩
  ·have f1:b8 (upd R c.L (.ns ρ)) (c.on env).outer:=fi.push ok st.js;exact(f1.keep (c6.gK ⟨J⟩)).keep h6
  ·exact eE.mp lo.each _ (dO hk)
  have hy:=hy;obtain hy|hy:=hy
  ·refine aB (j y hy) λa Y z2 z3=>?_
   have hR:R2 a=wf (.cell iF):=by(refine aa (O a (by show fY (HL a);(refine aa z3 ?_);trivial)) ?_);exact z3
   refine oE (h6.cell a iF hR) λv' uR=>?_
   exact a_ a v' Y uR
  refine jJ (C y hy) λa av Y z2 z3 I=>(oE (h6.cell a av z3) λv' uR=>?_);exact a_ a v' Y uR
 have view:View (c.on env) env i R3 (aN HL S) ρb:=λy d hd=>by
  obtain rfl|hy:=IW y d hd
  ·exact ar _ X ((hx d hd).AE ux)
  have jC:y≠x:=λq=>by(replace hy:=q▸hy);obtain z|z:=lo.par<;>((replace hy:=z▸hy);cases hy)
  refine jJ (C y hy) λa av Y z2 z3 z4=>(ak (z4 d hd) λw Xs hr=>?_);obtain rfl:=Xs;refine ar w ?_ (hr.AE ux)
  refine aa (W y jC) ?_
  delta bk;rw[V,hy];refine aa Y ?_
  dsimp only;exact aa z3 rfl
 refine kla_codeExpr (bx (h env _ R3 i _ s3 pre jP view) (λw eh hb=>?_) λI I z=>z.elim);refine aB hb λH3 I6 Z k=>?_
 have xX:∀a,fY (H a)->R3 a=H a:=λa q=>by
  refine oE (o6 q) λw' e=>?_
  have l:=u a (.inl (by(refine aa e ?_);intro z;injection z));refine aa (B a l) ?_;refine aa (O a (by show fY (HL a);(refine aa (low a l) ?_);exact q)) ?_;exact aa (low a l) rfl
 have Wr:Sub H3 (λa=>if fY (H a) then H a else H3 a):=⟨λa ao e=>by
  rw[Da]
  ·exact e
  intro q;have:=Z.aF a (by(refine aa e ?_);intro z;injection z);replace this:=(xX a q)▸this;refine oE (o6 q) λw' e'=>?_
  (replace this:=e'▸this);injection this⟩
 have Ws:Sub H (λa=>if fY (H a) then H a else H3 a):=⟨λa ao e=>by
  by_cases q:fY (H a)
  ·(refine aa (FB q) ?_);exact e
  refine aa (Da q) ?_
  refine I6.le a ao (ux a ao e λw' z=>q ?_);(refine aa e ?_;refine aa z ?_);trivial⟩
 have pM:St (c.on env) (upd R c.L (.ns ρ)) i (λa=>if fY (H a) then H a else H3 a) eh:=by
  refine Z.part (λa ao e=>?_) λa e=>?_
  ·obtain e|e:=e
   ·by_cases q:fY (H a)
    ·rw[FB q] at e;(refine aa (xX a q) ?_);exact .inr e
    (replace e:=(Da q)▸e);exact .inl e
   have l:=u a (.inr (by(refine aa e ?_);intro z;injection z));exact .inr (by(refine aa (B a l) ?_);exact J a ao e)
  by_cases q:fY (H a)
  ·have l:=u a (.inl (by refine oE (o6 q) λw' e'=>?_;(refine aa e' ?_);intro z;injection z));exact SR a (by show fY (HL a);(refine aa (low a l) ?_);exact q)
  replace e:=(Da q)▸e;have:=Z.aF a e;cases e':upd R c.L (.ns ρ) a with
  |none=>rfl
  |some ao =>have l:=u a (.inr (by(refine aa e' ?_);intro z;injection z));(replace this:=(B a l)▸this;replace this:=(J a ao e')▸this);injection this
 exact k _ Ws Wr (pM.B6 st.js st.above)
end
end
section
open Classical
structure n_{δ:Type}(V:Vx)(e:Expr)(ρ:Str->Option DV)(RK:δ->AV->af->Prop)(k:δ):Prop where
 run:∀{c:Cx} {A:aD} {env:Env} {R:af} {ah:Str->Option AV} {H:af} {s:ae} {Q:ab->ae->Prop} {E:ab->ae->Prop},Pre V c A env R->St c R ah H s->View c env ah R H ρ ->
  (∀v H' s',Sub H H'->RK k (abs v) H'->St c R ah H' s'->Q v s')->al c.M A (eval e env) Q E s
structure og{δ:Type}(G:Gx)(RK:δ->AV->af->Prop)(lt:δ->δ->Bool):Prop where
 mono:∀{k v eT H'},RK k v eT->Sub eT H'->RK k v H'
 less:∀{c:Cx} {A R ρ H' s E k1 k2 v1 v2} {Q:ab->ae->Prop},c.G=G->c.Ok->bL c A 0->St c R ρ H' s->RK k1 (abs v1) H'->RK k2 (abs v2) H'->(∀s',St c R ρ H' s'->Q (.bool (lt k1 k2)) s')->al c.M A (fy .Lt v1 v2) Q E s
def u2(k:Int)(v:AV)(_:af):Prop:=v=.int k
theorem og.int{G:Gx}:og G u2 (λa b=>decide (a<b)) where
 mono:=λh e=>h
 less:=λj ok i st d c h=>by obtain⟨g,rfl⟩:=eM d;obtain⟨f,rfl⟩:=eM c;exact ltI (h _ st)
theorem n_.int{V:Vx}{e:Expr}{ρ:Str->Option DV}{k:Int}(h:Ev V e ρ (.int k)):n_ V e ρ u2 k:=⟨λp st w q=>h.run p st w λv H' s' hs c a=>q v H' s' hs (by refine oE c.toInt λt b=>?_;obtain rfl:=b;rfl) a⟩
section
variable{δ:Type}{G:Gx}{hp:Heap}{n:Nat}{H:af}{f c':Addr}{name qual x:Str}{params:gQ}{body:Expr}{scope:bS}{bw:List (Str×Addr)}{κ:Int->δ}{RK:δ->AV->af->Prop}{lt:δ->δ->Bool}{P:Int->Prop}{ρ:Str->Option DV}
theorem keyOf(O:og G RK lt)(lo:tF scope x)(C:H f=wf (g9 name qual params body scope bw c'))(r:∀v pm cC,e! (kP name qual params body scope bw pm (.ref c') cC) ⟨[v],[]⟩=pure [(x,v)])(U:∀p∈bw,∃w,H p.2=wf (.cell w))(B:∀p∈bw,∀q∈bw,p.2=q.2->p.1=q.1)(kn:∀y,scope.names.lookup y=wf .free->∃a av,bw.lookup y=wf a/\H a=wf (.cell av)/\∀d,ρ y=wf d->∃w,av=wf w/\Rep hp H w d)(hb:∀i,P i->n_ ⟨G,n,scope.names,iF⟩ body (dg (c8 scope ρ) [(x,.int i)]) RK (κ i)):mz G hp (n+1) H f κ RK lt P where
 i7:=λI F h3 h4=>by
  refine vz (h4.get (h3.le _ _ C)) λo e pm cC y5=>?_
  obtain rfl:=y5;exact e8 _ _ _ _ e
 call:=λ{c A R ρ' Y s E i t Q} V h0 ok M fi hs st hi h=>by
  have b:∀y d,dg (c8 scope ρ) [(x,.int i)] y=wf d->(y=x/\d=.int i)\/(y≠x/\scope.names.lookup y=wf .free/\ρ y=wf d):=λy d e=>by
   have e:(if y=x then wf (DV.int i) else c8 scope ρ y)=wf d:=e;by_cases q:y=x
   ·(replace e:=(FB q)▸e);(replace e:=ax e;subst e);exact .inl ⟨q,rfl⟩
   replace e:=(Da q)▸e;unfold c8 at e;by_cases N:scope.names.lookup y=wf .free
   ·(replace e:=(FB N)▸e);exact .inr (aC q N e)
   (replace e:=(Da N)▸e);injection e
  refine Kb (ρb:=dg (c8 scope ρ) [(x,.int i)]) V ok M fi st lo (hs.le _ _ C) (r _) (λp hp=>let⟨w,e⟩:=U p hp;⟨w,hs.le _ _ e⟩) B (λy hy=>?_) (λd T=>?_) (λy d e=>?_) λenv A' R' X H' s' p J w=>?_
  ·refine dP (kn y hy) λa av z1 z2 Z=>(cj a av z1 (hs.le _ _ z2) (λd T=>?_));refine cg (b y d T) (λl=>oA l λq g=>?_) (λl=>a! l λg g q=>?_)
   ·(replace hy:=q▸hy);obtain z|z:=lo.par<;>((replace hy:=z▸hy);cases hy)
   refine ak (Z d q) λw q1 q2=>?_
   exact ar w q1 (by(refine aa h0 ?_);exact q2.mono hs)
  ·refine cg (b x d T) (λk=>oA k λg q=>?_) (λk=>oA k λq g=>?_)
   ·(refine aa q ?_);exact .int i
   exact GM rfl q
  ·refine cg (b y d e) (λj=>oA j λq g=>?_) (λj=>a! j λg q g=>?_)
   ·exact .inl q
   exact .inr q
  exact(hb i hi).run (c:=c.on env) p J w λv W L S hr u=>aR W S u (λD I F m=>h v D L I (O.mono hr F) m)
 less:=λV g ok M st I F h=>O.less V ok M st I F h
 mono:=O.mono
end
noncomputable def iT(p:Int->Bool)(x:Int)(xs:List Int):List Int:=xs.takeWhile (λy=>!p y)++x::xs.dropWhile (λy=>!p y)
theorem zK{p:Int->Bool}{x:Int}:∀{xs:List Int} {r:Nat},r<=xs.length->(∀i (hi:i<xs.length),i<r->p xs[i]=false)->(∀i (hi:i<xs.length),r<=i->p xs[i]=true)->xs.take r++x::xs.drop r=iT p x xs
 |[],r,h,_,_=>by simp[iT]
 |a::q,0,h,h1,h2=>by have:=h2 0 (iE _) (bD _);simp only[xf] at this;simp[iT,xr,w8,this]
 |a::q,r+1,h,h1,h2=>by have d:=h1 0 (iE _) Qv;simp only[xf] at d;have c:=zK (p:=p) (x:=x) (xs:=q) (r:=r) (by simpa using h) (λi hi b=>h1 (i+1) (by simpa using hi) (Qw b)) (λi hi b=>h2 (i+1) (by simpa using hi) (Qx b));unfold iT at c ⊢;simp only[List.take_succ_cons,List.drop_succ_cons,xr,w8,d,Bool.not_false,if_true,l8];exact aa c rfl
section
variable{δ:Type}{V:Vx}{l:Nm}{row x:Str}{te body:Expr}{params:gQ}{scope:bS}{np rp lp kp pos sp:Pos}{xs:List Int}{t:Int}{κ:Int->δ}{RK:δ->AV->af->Prop}{lt:δ->δ->Bool}{P:Int->Prop}{pa:Addr}{q:Str}{n:Nat}
structure E0(scope:bS)(T:List (Str×c5)):Prop where
 free:(scope.names.all λp=>p.2 != .free||T.lookup p.1==wf .cell)=true
theorem Ex.JK(hK:V.G.K=KP V.G.w.params)(hn:V.n=n+4)(g:V.T.lookup ("insort_right":Str)=wf .globalImplicit)(hP:V.P=wf (pa,q))(hx:aM l row=wf (.own (.list (xs.map DV.int))))(ht:bK V te (aM l) (.int t))(ko:og V.G RK lt)(lo:tF scope x)(li:E0 scope V.T)(hb:∀i,P i->n_ ⟨V.G,n+1,scope.names,iF⟩ body (dg (c8 scope (hN (aM l))) [(x,.int i)]) RK (κ i))(Jg:∀i∈xs,P i)(I':P t)(IQ:∀i j (hi:i<=j) (hj:j<xs.length),lt (κ t) (κ (xs[i]'(rP hi hj)))=true->lt (κ t) (κ xs[j])=true)(hz:xs.length<=10000)(Iu:autoParam (∀env,tm params env=([],[])) aU)(uz:autoParam (∀bw c' v pm cC,e! (kP "<lambda>" q params body scope bw pm (.ref c') cC) ⟨[v],[]⟩=pure [(x,v)]) aU)(Ik:autoParam (∀env,eval (.Call (.Name "insort_right" np) [.Name row rp,te] [⟨wf "key",.Lambda params body scope lp,kp⟩] pos) env=(do gx pos (<-eval (.Name "insort_right" np) env) [] (e9 pos (ck [.Name row rp,te] env)) (gw pos (eJ [⟨wf "key",.Lambda params body scope lp,kp⟩] env)))) aU)(uN:autoParam (Plain [.Name row rp,te]) aU)(oY:autoParam (∀env,iH (.Call (.Name "insort_right" np) [.Name row rp,te] [⟨wf "key",.Lambda params body scope lp,kp⟩] pos) iF sp.line env=pure false) aU) :
  Ex V (.Expr (.Call (.Name "insort_right" np) [.Name row rp,te] [⟨wf "key",.Lambda params body scope lp,kp⟩] pos) sp) l .next ((row,.own (.list ((iT (λy=>lt (κ t) (κ y)) t xs).map DV.int)))::l):=⟨λ{c A env R0 H0 s Q} f m K=>by
 refine dQ m λah R H F low m=>?_
 have gl:Glob V "insort_right" (.ref 30):=⟨g,.inr (aa hK (Hs _)),by show dr V.G.K (.ref 30)=true;(refine aa hK ?_);exact zW _⟩;refine jx (c:=c) f.fn (qy (gl.name (m.pre f) m.st (qF (c:=c) ?_ (uN env) rfl rfl rfl)) (Ik env)) (oY env);refine bJ (m.var row _ hx) λav h1 FA YU Xo I=>?_
 obtain rfl:=Xo;refine ik m.st f.fn (f.g! h1) h1 λv hv=>?_
 refine aa (ed hv) ?_
 refine ht.run f m λv eT dL H? I5 W=>(oE ((I5 c.h₀ λI=>iF).toInt) λtk Xt=>?_)
 obtain rfl:=Xt;have sc:∀y,scope.names.lookup y=wf .free->V.T.lookup y=wf .cell:=λy Z=>by have:=eE.mp li.free _ (dO Z);simpa using this
 have mh:∀{R':af} {H':af} {F':Option Str->Addr->Prop} {s':ae},Fs V c env R0 (aM l) iF ah R' H' F' s'->∀y,scope.names.lookup y=wf .free->env.kindOf y=wf .cell/\∃b w,env.cells.lookup y=wf b/\R' b=wf (.cell w):=λm' y Z=>by
  have hT:=sc y Z;have hk:env.kindOf y=wf .cell:=by(replace hT:=(bn f.tab)▸hT);exact hT
  exact xA hk ((m'.slots y (by unfold isVar;(refine aa hT ?_);rfl)).cell hk)
 have N:∀p∈scope.names,p.2=.free->∃b,env.cells.lookup p.1=wf b:=λp hp e=>by
  obtain⟨y,k⟩:=p;have e:=e;subst e;refine fj (mh W y (lw lo.nodup hp)) λI b w z I=>?_
  exact xE b z
 refine W.lam f hP (Iu env) (mH N) λgf c' cF IF h=>?_
 obtain⟨B,H_,uE,h⟩:∃B,Sub eT B/\B gf=wf (g9 "<lambda>" q params body scope (cu env.cells scope.names []) c')/\Fs V c env R0 (aM l) iF ah R B F cF:=aR _ ((Sub.refl _).upd IF) (am ..) h;refine xA (jQ f.ok h.st (aa f.G (aa hK (zW _)))) (iX (h.mut f hx) λa vs fh IZ zx CW back=>?_);have ea:a=FA:=by(replace fh:=h1▸fh);exact(AV.ref.inj (ax fh)).symm
 refine az ea ?_
 have mT:=IZ.m6;subst mT;have D:F (wf row)=(·=a):=by
  refine rI (h.var row _ hx) λFy w1 a' Dk U w3 w4 w5=>?_
  rw[fh] at w1;(replace w1:=ax w1;subst w1);(injection U with U;subst U);exact w5
 have zk:=(h.foot (wf row) a (by(exact aa D rfl))).1;let S:Addr->Prop:=λb=>fY (del R a b)\/(Seen (aM l) F b/\b≠a);have zm:¬S a:=λz=>by
  obtain z|z:=z
  ·rw[ia] at z;exact z
  exact z.2 rfl
 have zl:∀b,S b->del R a b≠iF/\b≠a:=λb z=>by
  have u:b≠a:=λz'=>zm (z'▸z);refine xA ?_ u
  obtain z|z:=z
  ·intro z';(replace z:=z'▸z);exact z
  (refine aa (ci u) ?_);exact h.seen b z.1
 have Y:=CW.shown (S:=S);have J:bQ (del R a) (upd B a (.list (xs.map AV.int))) S a=wf (.list (xs.map AV.int)):=by unfold bQ;rw[Da zm,am]
 have L:∀b ao,B b=wf ao->bQ (del R a) (upd B a (.list (xs.map AV.int))) S b=wf ao:=λb ao e=>by
  have u:b≠a:=λz=>by(replace e:=z▸e;replace e:=zx▸e);injection e
  have:¬S b:=λz=>(zl b z).1 (aa (ci u) (h.st.aF b (by(refine aa e ?_);intro z;injection z)));delta bQ;(refine aa (Da this) ?_;refine aa (aj u) ?_);exact e
 have C:∀b w,R b=wf (.cell w)->bQ (del R a) (upd B a (.list (xs.map AV.int))) S b=wf (.cell w):=λb w e=>by
  have u:b≠a:=λz=>by
   refine rI (h.var row _ hx) λI I a' Dk U w3 I w5=>?_
   have ha:a=a':=by(replace w5:=D▸w5);have:=congrFun w5 a;simpa using this
   replace w3:=(bn ha)▸w3;replace w3:=(bn z)▸w3;replace w3:=e▸w3;cases w3
  have:S b:=.inl (by(refine aa (ci u) ?_;refine aa e ?_);trivial);delta bQ;(refine aa (FB this) ?_;refine aa (ci u) ?_);exact e
 have Ww:Sub (bQ R B (Seen (aM l) F)) (bQ (del R a) (upd B a (.list (xs.map AV.int))) S):=⟨λb ao e=>by
  unfold bQ at e;by_cases u:b=a
  ·subst u;rw[FB ⟨row,_,hx,(λz=>(by injection z)),aa D rfl⟩] at e;refine rI (h.var row _ hx) λI w1 a' Dk U w3 w4 w5=>?_
   rw[fh] at w1;(replace w1:=ax w1;subst w1);(injection U with U;subst U);(replace e:=w3▸e);(replace e:=ax e;subst e);refine aa J ?_;exact aa w4.m6 rfl
  by_cases z:Seen (aM l) F b
  ·replace e:=(FB z)▸e;have:S b:=.inr ⟨z,u⟩;delta bQ;(refine aa (FB this) ?_;refine aa (ci u) ?_);exact e
  (replace e:=(Da z)▸e);exact L b ao e⟩
 have KF:=keyOf (G:=c.G) (hp:=c.h₀) (n:=n+1) (H:=bQ (del R a) (upd B a (.list (xs.map AV.int))) S) (κ:=κ) (P:=P) (ρ:=hN (aM l)) (by(refine aa f.G ?_);exact ko) lo (L _ _ uE) (uz _ _)
  (λp hp=>by
   have z:=(qC N p hp).resolve_left (λz=>(GM z aX));refine fj (mh h p.1 (lw lo.nodup ((yj hp).resolve_left (λz=>(GM z aX))))) λI b w E O=>?_
   (replace E:=z▸E);(replace E:=ax E;subst E);exact⟨w,C _ _ O⟩)
  (λp hp r hr e=>by have E:=(qC N p hp).resolve_left (λz=>(GM z aX));have O:=(qC N r hr).resolve_left (λz=>(GM z aX));replace E:=e▸E;exact f.inj _ _ _ E O)
  (λy Z=>by
   refine fj (mh h y Z) λhk b w E O=>?_
   refine cj b w (by(refine aa ((oz lo.nodup).1 Z) ?_;refine aa E ?_);rfl) (C _ _ O) (λd hd=>?_);refine ak (h.view f y d hd) λav q1 q2=>(ar av ?_ (q2.mono Ww));unfold bk at q1;replace q1:=hk▸q1;replace q1:=E▸q1;dsimp only at q1;unfold aN at q1;rw[Da] at q1
   ·(replace q1:=O▸q1);exact q1
   intro M;refine dP M λy' o I I hF=>?_
   exact(h.foot _ b hF).2.2 y (by unfold isVar;(refine aa (sc y Z) ?_);rfl) (by unfold dn;(refine aa hk ?_);exact E))
  (aa f.G hb)
 have rm:=f.rm;replace rm:=hn▸rm;refine JL (by(refine aa f.G ?_);exact hK) f.ok (v? rm (Qy:n+1+3<=n+4)) Y ?_ KF J Jg I' IQ hz λr dR hr h3 h4 pN=>⟨rfl,?_⟩
 ·intro fe IA;refine fj (f.fi fe IA) λE b r O z3=>(lV E b r O ?_);have u:b≠a:=λz=>by rw[z,(h.foot (wf row) a (aa D rfl)).2.1] at z3;injection z3
  have hb:=h.base b _ z3;delta aN;rw[Da,ci u]
  ·exact hb
  rintro(z|⟨⟨_,_,_,_,z⟩,_⟩)
  ·(replace z:=(ci u)▸z;replace z:=hb▸z);exact z
  (replace z3:=((h.foot _ b z).2.1)▸z3);injection z3
 replace pN:=(zK (p:=λy=>lt (κ t) (κ y)) hr h3 h4)▸pN;have X:St c (del R a) ah (upd B a (.list ((iT (λy=>lt (κ t) (κ y)) t xs).map AV.int))) dR:=by
  refine pN.part (λb ao e=>?_) λb e=>?_
  ·by_cases u:b=a
   ·subst u;rw[am,ia] at e;rw[am];obtain e|e:=e
    ·exact .inl e
    injection e
   rw[aj u] at e ⊢;unfold bQ aN;by_cases z:S b
   ·refine aa (FB z) ?_
    obtain e|e:=e
    ·exact GM (h.st.aF b (by(refine aa e ?_);intro z;injection z)) (by(refine az (ci (H:=R) u) ?_);exact(zl b z).1)
    exact .inl e
   (refine aa (Da z) ?_;refine aa (Da z) ?_;refine aa (aj u) ?_);exact e
  refine CW.aF b ?_
  by_cases u:b=a
  ·rw[u,am];intro z;injection z
  rw[aj u] at e ⊢;exact e
 refine aV (back _ ((iT (λy=>lt (κ t) (κ y)) t xs).map DV.int) B dR (aJ.ints _) (Sub.refl _) zx X) λom tD I Ld=>(K dR (ei ah om B tD (low.trans (H?.trans H_)) ?_));(refine az cJ ?_);exact Ld⟩
end
end
section
open Classical
section
variable{c:Cx}{R:af}{ah:Str->Option AV}{H:af}{s:ae}{A:aD}{E:ab->ae->Prop}
theorem Wm{l:Addr}{xs:List AV}{Q:List ab->ae->Prop}(st:St c R ah H s)(f:b9 c H l xs)(hz:xs.length<=cB)(h:∀vs s',vs.map abs=xs->St c R ah H s'->Q vs s'):StarOf c.M A E (.ref l) Q s:=by
 refine ak (st.list f) λvs a e=>(vt a λo b d n i=>?_);have z:al c.M A (collect (.ref l)) Q E s:=by
  refine wpAny_collect_seq l (.inl rfl) b d i (λh' g=>h vs _ e (st.keeps (tk:=s.toks) g)) ?_
  rw[<-e,aw] at hz;(refine aa dh ?_);exact hz
 exact aG (wpAny_specialOf (ar o b d) PySem.F.slot_list_iter.lookup (bH ⟨rfl,z⟩))
noncomputable def Aj(f x:Addr):AO:=.obj λo=>o=methodObj (.ref f) (.ref x)
theorem F6{x C d f:Addr}{sl:List (Option AV)}{es:List (Str×AV)}{name:Str}{expr:Bool}{Q:ab->ae->Prop}(ok:c.Ok)(st:St c R ah H s)(l:H x=wf (.inst C d sl))(P:H d=wf (.attrs es))(N:kR c.G.K C name=true)(L:nT c.G.K C=true)(O:eI c.G.K (.ref C) name=wf (wf (.ref f)))(I:isFn c.G.K (.ref f)=true)(u:tr c.G.K (.ref f) "__get__"=wf (wf (.builtin "function.__get__")))(o:takesIn c.G.K (.ref f)=wf false)(S:xH.contains name=false)(J:es.lookup name=iF)(h:∀q s',H q=iF->R q=iF->St c R ah (upd H q (Aj f x)) s'->Q (.ref q) s'):al c.M A (iG (.ref x) name expr) Q E s:=by
 refine il (st.get l) λox a vs D Y=>?_
 obtain rfl:=D;refine bJ (st.get P) λX t ds n B V=>?_
 obtain rfl:=B;refine ak st.oF λm F k=>(ak (qU (name:=name) V) λr U g2=>?_);replace g2:=J▸g2;have:r=iF:=by cases r with|none=>rfl|some z=>injection g2
 subst this;have b:(x,(⟨.ref C,wf d,.plain,vs⟩:Obj))∈st.nw:=st.kr l a;refine kbm_bound F ok.K st.news (ox:=⟨.ref C,wf d,.plain,vs⟩) ⟨a,rfl,rfl,t⟩ N L O I u o S U λq h' W w e=>?_
 have v:=w _ (.head _);have i:=AB st e;have T:3<q:=by
  have z:=e _ b;refine dD (st.own _ _ l) λg g g g g y=>?_
  exact hW y z
 have j:St c R ah H { s with heap:=h',toks:=s.toks+1 }:=k W (λp hp=>w p (sW _ hp));exact h q _ i.1 i.2.1 (st.grow j v.1 v.2.1 v.2.2 T i.2.1 rfl i.2.2 λp hp=>(w p (.tail _ hp)).1)
end
section
variable{V:Vx}{c:Cx}{A:aD}{env:Env}{R0:af}{ρ:b_}{ex:Option (AV×XV)}{ah:Str->Option AV}{R H:af}{F:Option Str->Addr->Prop}{s:ae}{E:ab->ae->Prop}{x:Str}{σ dU:ca}{ds:List DV}{d:DV}{f:Addr}
theorem Fs.E?{vs:List ab}{a:Addr}{Rr:fP->ae->Prop}(act:kY V.G V.n f σ ds dU d)(B:bX V c A env R0)(m:Fs V c env R0 ρ ex ah R H F s)(Z:ρ x=wf (.own (.dv σ)))(ha:bk c env ah R x=wf (.ref a))(hr:aJ c.h₀ (λzz=>iF) (vs.map abs) ds)(k:∀v R' H' i s',Sub H H'->(∀y av,bk c env ah R y=wf av->bk c env ah R' y=wf av)->Rep c.h₀ H' (abs v) d->Fs V c env R0 (putN ρ x (.own (.dv dU))) ex ah R' H' i s'->Rr (.ok (.ret v)) s'):dB c.M A (.call (.ref f) ⟨.ref a::vs,[]⟩) Rr s:=by
 refine bJ (m.var x _ Z) λav W τ l Y X=>?_
 obtain rfl:=Y;obtain⟨he,S⟩:=X;replace ha:=W▸ha;cases ha;have T:∀b,F (wf x) b->R b≠iF:=λb g=>(m.foot _ b g).1;have o:=m.st.shown (S:=F (wf x));have Q:=sq m.st T;have fi:b8 (aN R (F (wf x))) c.outer:=B.fi.keep (c6.gK ⟨λb ao e=>by
  delta aN;refine aa (Da (λq=>by rw[(m.foot _ b q).2.1] at e;injection e)) ?_
  exact m.base b ao e⟩)
 refine act.run B.G B.ok B.rm fi o (S.on (H':=bQ R H (F (wf x))) λb g=>by unfold bQ;(exact aa (FB g) rfl)) he hr λv H' i I l' s' P u S' J D p=>?_
 have t:∀b,i b->F (wf x) b\/(R b=iF/\H b=iF):=λb g=>by
  obtain q|q:=P.new b g
  ·exact .inl q
  by_cases N:F (wf x) b
  ·exact .inl N
  refine .inr ⟨?_,?_⟩
  ·have:=p.aF b (S'.all b g);unfold aN at this;rwa [Da N] at this
  unfold bQ at q;rwa [Da N] at q
 have C:Sub H (aN H' i):=⟨λb ao e=>by have O:=λq=>T b q (m.st.aF b (by(refine aa e ?_);intro z;injection z));have U:=P.off O (by unfold bQ;(refine aa (Da O) ?_);exact e);delta aN;(refine aa (Da U.1) ?_);exact U.2⟩
 have j:St c (λb=>if i b then H' b else R b) ah (aN H' i) s':=by
  refine p.part (λb ao h=>?_) λb h=>?_
  ·obtain h|h:=h
   ·unfold aN at h;by_cases q:i b
    ·rw[FB q] at h;injection h
    rw[Da q] at h;exact .inl h
   by_cases q:i b
   ·rw[FB q] at h;exact .inl h
   rw[Da q] at h;exact .inr (by unfold aN;(refine aa (Da (λz=>q (P.sub b z))) ?_);exact h)
  unfold aN at h;by_cases q:i b
  ·rw[FB q] at h;exact GM rfl h
  replace h:=(Da q)▸h;refine aa (Da q) ?_
  have:=p.aF b h;unfold aN at this;rwa [Da (λz=>q (P.sub b z))] at this
 have m':=m.jM (xv:=.own (.dv dU)) (G:=i) B C j W (λb g L=>?_) (λb g=>⟨?_,?_⟩) (cj I l' (by(exact aa u rfl)) J (S'.on λb g=>FB g))
 ·refine k v _ _ _ s' C (λy av E=>?_) D m';rw[jG B (λb E g=>Da (λq=>?_)) rfl]
  ·exact E
  obtain q|q:=t b q
  ·exact(m.foot _ b q).2.2 y E g
  obtain⟨r,e⟩|⟨w,e⟩:=(m.slots y E).at g<;>(rw[q.1] at e;injection e)
 ·refine Da (λq=>?_);obtain q|q:=t b q
  ·exact g q
  exact L q.1
 ·(refine aa (FB g) ?_);exact S'.all b g
 exact(t b g).imp id (·.1)
theorem Fs.bound{a:Addr}{name:Str}{expr:Bool}{Q:ab->ae->Prop}(h:V.G.K=KP V.G.w.params)(g:bX V c A env R0)(m:Fs V c env R0 ρ ex ah R H F s)(y:ρ x=wf (.own (.dv σ)))(ha:bk c env ah R x=wf (.ref a))(J:∀P,eI (KP P) (.ref 155) name=wf (wf (.ref f)))(B:∀P,isFn (KP P) (.ref f)=true)(I:∀P,kR (KP P) 155 name=true)(D:∀P,nT (KP P) 155=true)(o:∀P,tr (KP P) (.ref f) "__get__"=wf (wf (.builtin "function.__get__")))(n:∀P,takesIn (KP P) (.ref f)=wf false)(L:xH.contains name=false)(C:∀(τ:cn) l,(τ.attrs l).lookup name=iF)(k:∀q H' s',Sub H H'->H' q=wf (Aj f a)->Fs V c env R0 ρ ex ah R H' F s'->Q (.ref q) s'):al c.M A (iG (.ref a) name expr) Q E s:=by
 refine bJ (m.var x _ y) λav O τ l v u=>?_
 obtain rfl:=v;obtain⟨T,S⟩:=u;replace ha:=O▸ha;cases ha;have t:∀b,F (wf x) b->R b≠iF:=λb p=>(m.foot _ b p).1;have S':bC (bQ R H (F (wf x))) (F (wf x)) τ l:=S.on λb p=>by unfold bQ;(exact aa (FB p) rfl)
 refine F6 g.ok (m.st.shown (S:=F (wf x))) S'.inst S'.attr (aa g.G (aa h (I _))) (aa g.G (aa h (D _))) (by(refine aa g.G ?_;refine aa h ?_);exact J _) (by rw[g.G,h];exact B _) (aa g.G (aa h (o _))) (aa g.G (aa h (n _))) L (C τ l) λq s' i N j=>?_
 have r:¬F (wf x) q:=λz=>by unfold bQ at i;rw[FB z] at i;exact t q z i
 refine oA (m.st.hidden t ((Sub.refl _).upd i) j) λe d=>(k q _ s' d ?_ (m.grow d e));delta aN;rw[Da r,am]
end
section
variable{V:Vx}{ρ eP:b_}{e:Expr}{d:DV}{ds:List DV}{x name:Str}{px ap pos sp:Pos}{args:List Expr}{σ dU:ca}{f:Addr}{ns:List Int}
def E3(o:Expr)(name:Str)(apos:Pos)(args:List Expr)(pos:Pos):Prop:=∀env,eval (.Call (.Attribute o name apos) args [] pos) env=(do
   let ov<-eval o env
   kT apos.atName
   let(f,first)<-jh [ov] (do pure (<-iG ov name true,[]))
   gx pos f first (e9 pos (ck args env)) (gw pos (eJ [] env)))
structure xP(name:Str)(f:Addr):Prop where
 hf:∀P,eI (KP P) (.ref 155) name=wf (wf (.ref f))
 ht:∀P,isFn (KP P) (.ref f)=true
 hg:∀P,kR (KP P) 155 name=true
 hh:∀P,nT (KP P) 155=true
 uE:∀P,tr (KP P) (.ref f) "__get__"=wf (wf (.builtin "function.__get__"))
 I?:∀P,takesIn (KP P) (.ref f)=wf false
 q0:∀P,fnIn (KP P) f=true
 hc:xH.contains name=false
 hn:∀(τ:cn) l,(τ.attrs l).lookup name=iF
theorem yd:xP "add" 105:=⟨λP=>by kernel_rfl,λP=>by kernel_rfl,λP=>by kernel_rfl,λP=>by kernel_rfl,λP=>by kernel_rfl,λP=>by kernel_rfl,λP=>by kernel_rfl,by decide +kernel,λa a=>rfl⟩
end
end
section
open Classical
theorem o9{es:List (Int×Int)}{i:Int}:(es.map λp=>(p.1,AV.int p.2)).lookup i=(es.lookup i).map AV.int:=by
 induction es with
 |nil=>rfl
 |cons p r a =>
  refine aa bq ?_;refine aa cP ?_;refine aa cP ?_
  cases i==p.1 with
  |true=>rfl
  |false=>exact a
noncomputable def i5(es fs:List (Int×Int)):Bool:=(es.length==fs.length)&&es.all λp=>fs.lookup p.1==wf p.2
theorem G'{A:aD}{s:ae}{v u:ab}{a b:Int}(f:abs v=.int a)(g:abs u=.int b):SeqAt.EqAt A s v u (a==b):=by
 refine oE (eM f) λt d=>?_
 obtain rfl:=d;refine oE (eM g) λe c=>?_
 obtain rfl:=c;exact(XU a b t e).at A s
theorem IL{A:aD}{s:ae}{c:List (Int×ab)}{fs:List (Int×Int)}(n:c.map (λp=>(p.1,abs p.2))=fs.map λp=>(p.1,AV.int p.2)):∀{g:List (Int×ab)} {es:List (Int×Int)},g.map (λp=>(p.1,abs p.2))=es.map (λp=>(p.1,AV.int p.2)) ->KeqHits A s c g (es.all λp=>fs.lookup p.1==wf p.2):=by
 intro l0;induction l0 with
 |nil =>
  intro m0;cases m0 with
  |nil =>intro _;exact .nil
  |cons _ _ =>intro h;injection h
 |cons j r l =>
  obtain⟨k,v⟩:=j;intro m0;cases m0 with
  |nil =>intro h;injection h
  |cons i q =>
   obtain⟨t,x⟩:=i;intro h;rw[bq,bq,pZ,tf] at h;refine oA h λb o=>(oA b λf d=>?_);have f:=f;have d:=d;subst f;have a:=lU c k;replace a:=n▸a;replace a:=o9▸a;refine aa List.all_cons ?_
   refine cE (x:=kU c k) (λe=>?_) (λy e=>?_)
   ·
    replace a:=e▸a;have:fs.lookup k=iF:=by cases z:fs.lookup k with|none=>rfl|some y=>rw[z] at a;injection a
    refine aa this ?_
    exact .miss e
   ·
    replace a:=e▸a;refine ak (bu.mp (a.symm)) λz hz m=>?_
    have:(fs.lookup k==wf x)=(x==z):=by rw[hz,wQ,beq_iff_eq,beq_iff_eq];exact⟨λq=>(ax q).symm,λq=>by(exact aa q rfl)⟩
    refine aa this ?_
    exact .hit e (G' d m.symm) (l o)
theorem KA(l b:Addr)(c a:Array ab)(n i:Nat)(j f:Option Addr)(sl e:Array (Option ab))(hz:(c.size != a.size)=true) :
  Meets (l5.«list.__ne__» ⟨[.ref l,.ref b],[]⟩) (λk R s=>s.heap.get? l=wf { cls:=.type "list",dict:=j,data:=.seq c n,slots:=sl }/\s.heap.get? b=wf { cls:=.type "list",dict:=f,data:=.seq a i,slots:=e }/\R (.ok (.ret (.bool true))) s) :=
 .of_wp λprog w A R s h=>by
  obtain⟨hp,g,d,tk,os⟩:=s;obtain⟨hl,hb,h⟩:=h;have m:=PySem.AutoSeq1.sub_list_list
  wp_walk using PySem.AutoSeq1.wpAny_loadPart' hl,PySem.AutoSeq1.wpAny_loadPart' hb
  exact ar _ rfl h
section
variable{V:Vx}{ρ:Str->Option DV}{e a b:Expr}{d d₁ d₂:DV}{ds:List DV}{es fs:List (Int×Int)}{i j v:Int}{pos:Pos}
theorem Ev.kq(A:Ev V a ρ (.dict es))(z:Ev V b ρ (.int i))(s:es.lookup i=wf v)(hs:autoParam (∀l t,gZ b false (.ref l) (.int i t)=gX [.ref l,.int i t] (gV (.ref l) (.int i t))) aU):Ev V (.Subscript a b pos) ρ (.int v):=⟨λp st w h =>
 jg (A.run p st w λv q n d j f=>z.run p f (w.mono d) λu o m c g e=>by
  refine aV j.lT λl ep r y=>?_
  obtain rfl:=r;obtain⟨t,rfl⟩:=g.toInt;exact Internal.kq e (c.le _ _ y) (by(refine aa o9 ?_;refine aa s ?_);rfl) (λv s' x k=>h v _ _ (d.trans c) (x▸.int _) k) (hs l t))⟩
theorem a8.inD:a8 V .In (.int i) (.dict es) (es.lookup i).isSome:=⟨λg ok h st b a k=>by
 refine oE b.toInt λt e=>?_
 obtain rfl:=e;refine aV a.lT λl ep d f=>?_
 obtain rfl:=d;refine Internal.inD st f λs' c=>?_
 (refine aa o9 ?_;refine aa td ?_);exact k _ c⟩
theorem a8.Aw(C:1<=V.n):a8 V .NotEq (.dict es) (.dict fs) (!i5 es fs):=⟨λ{c A R ah H s v u Q E} g ok j st b a k=>by
 refine aV b.lT λl ep i w=>?_
 obtain rfl:=i;refine aV a.lT λl' x h d=>?_
 obtain rfl:=h;refine aB (st.dictAt w) λt z f o=>(aB (st.dictAt d) λr y e m=>?_);have q:t.length=es.length:=by have:=congrArg hU f;simpa using this
 have p:r.length=fs.length:=by have:=congrArg hU e;simpa using this
 refine keq_ne o m z.dictOf y.dictOf (by have:=j.units;exact Bo this) (λB=>IL e f) ?_
 (refine aa q ?_;refine aa p ?_);exact k s st⟩
theorem a8.rC(J:4<=V.n):a8 V .NotEq (.list ds) (.list []) (!ds.isEmpty):=⟨λ{c A R ah H s v u Q E} g ok r st b a k=>by
 refine aV b.toList λl vs D B=>?_
 obtain rfl:=D;obtain⟨w,t⟩:=B;refine aV a.toList λl' us C z=>?_
 obtain rfl:=C;refine oA z λh f=>?_
 cases ds with
 |nil =>have M:=iv t.length;have p:=iv f.length;subst M p;exact Internal.kt (ns:=[]) (ms:=[]) st w h (by have:=r.units;exact vQ J this) (k s st)
 |cons d ds =>
  have p:=iv f.length;subst p;refine ak (st.list w) λws y e=>(ak (st.list h) λG i N=>?_);have L:=List.map_eq_nil_iff.mp N;subst L;obtain⟨⟨cl,q,S,sl⟩,I,rfl,n,rfl⟩:=id y;obtain⟨⟨P,j,O,m⟩,o,rfl,n',rfl⟩:=id i;have hz:(ws.toArray.size != (#[]:Array ab).size)=true:=by have:=t.length;rw[<-e,aw] at this;(refine aa dh ?_;refine aa this ?_);rfl
  exact richCompare_meets_room (op:=.NotEq) y.typeIs i.typeIs PySem.F.slot_list_ne PySem.F.entry_list_ne (PySem.F.args_list_ne_2 _ _) (KA l l' ws.toArray #[] n n' q j sl m hz)
   (aC I o (⟨(λx=>(by injection x)),k s st⟩)) (by have:=r.units;exact Bo this)⟩
theorem bT.Fh{a b c:Expr}{e g k:Bool}(x:bT V a ρ e)(v:e=true->bT V b ρ g)(u:e=true->g=true->bT V c ρ k):bT V (.BoolOp .And [a,b,c] pos) ρ (e&&(g&&k)):=⟨λp st w h =>
 isTrue_and (x.run p st w λt q d j=>by
  cases e with
  |false=>refine(Da (by decide)).mpr ?_;exact h _ _ d j
  |true =>
   refine(FB rfl).mpr (isTrue_and ((v rfl).run p j (w.mono d) λs o f i=>?_));cases g with
   |false=>refine(Da (by decide)).mpr ?_;exact h _ _ (d.trans f) i
   |true =>
    refine(FB rfl).mpr (isTrue_and ((u rfl rfl).run p i ((w.mono d).mono f) λr n m l=>?_));have:=h _ _ ((d.trans f).trans m) l;cases k with
    |false=>refine(Da (by decide)).mpr ?_;exact this
    |true=>refine(FB rfl).mpr ?_;exact isTrue_and_nil this)⟩
end
section
variable{G:Gx}{n:Nat}{ds:List DV}{es:List (Int×Int)}{i j:Int}
theorem bg.Kv(h:es.length<2^62):bg G n (.builtin "len") [.dict es] (.int es.length):=⟨λ{c A R ah H s vs Q E} g ok p q st r k=>by
 refine ak r.one λv d e=>?_
 obtain rfl:=d;refine aV e.lT λl ep b j=>?_
 obtain rfl:=b;refine aB (st.dictAt j) λi o m f=>?_
 have a:i.length=es.length:=by have:=congrArg hU m;simpa using this
 exact call_len_dict f o.dictOf (Qz h a) (aa a (k _ H _ (Sub.refl _) (.int _) (st.toks _)))⟩
theorem bg.divmod(h:j≠0)(hs:j.natAbs<1073741824):bg G n (.builtin "divmod") [.int i,.int j] (.tuple [.int (i.fdiv j),.int (i.fmod j)]):=⟨λ{c A R ah H s vs Q E} g ok m p st r k=>by
 refine aV r.two λv u d b=>?_
 obtain rfl:=d;obtain⟨f,e⟩:=b;obtain⟨t,rfl⟩:=f.toInt;obtain⟨l,rfl⟩:=e.toInt;refine divmod_int h ?_ (.inl (nM hs))
 have a:=(st.alloc ok (o:={ cls:=.type "tuple",data:=.seq #[.int (i.fdiv j) s.toks,.int (i.fmod j) (s.toks+1)] }) (ao:=.tuple [.int (i.fdiv j),.int (i.fmod j)]) (a_ [.int (i.fdiv j) s.toks,.int (i.fmod j) (s.toks+1)] 0 rfl rfl) rfl).toks (s.toks+1+1);exact k _ _ _ ((Sub.refl _).upd st.cV) (.pP (am ..) (.cons (.int _) (.cons (.int _) .nil))) a⟩
end
end
section
open Classical
def pB(ao:AO):Prop:=∀p∈ao.links,∀o,p.2.Is o->(∀q,¬(fc q).Is o)/\∀ps,o≠d? ps
theorem vY{l:Addr}{i:Nat}{o:Obj}(h:(c9 l i).Is o):(∀q,¬(fc q).Is o)/\∀ps,o≠d? ps:=by
 refine oA h λh1 d=>?_
 refine⟨λq c=>?_,λps e=>by(replace h1:=e▸h1);injection h1⟩;refine aV c λvs t a b=>?_
 rw[d] at a;(injection a with a;subst a);cases b
theorem cS.move{c:Cx}{R R' H H':af}{h h':Heap}{T T':af}{e:Addr}{ao:AO}(t:cS c (upd R e ao) H h T)(F:pB ao)(same:∀a,(∀p∈ao.links,p.1≠a)->T' a=T a)(dM:∀a,T' a≠iF->T a≠iF)(own:∀p∈ao.links,∀x,T' p.1=wf x->gB c h' p.1 x)(s:∀a o,(∀p∈ao.links,p.1≠a)->a≠e->h.get? a=wf o->h'.get? a=wf o)(hp:∀a x,H' a=wf x\/R' a=wf x->(a≠e/\(H a=wf x\/R a=wf x))\/(T a=iF/\x.links=[])\/(a=e/\∀p∈x.links,T' p.1=wf p.2/\∃f∈ao.links,f.1=p.1)):cS c R' H' h' T':=by
 have u:=t.ne (.inr (am ..));have g:∀a x,(a≠e/\(H a=wf x\/R a=wf x))->H a=wf x\/upd R e ao a=wf x:=λa x q=>q.2.imp id λz=>by(refine aa (aj q.1) ?_);exact z
 have r:∀p∈ao.links,∀x,T p.1=wf x->(∀q,x≠fc q)/\∀ps,x≠i9 ps:=λp b x e'=>by have:=t.link e ao p (.inr (am ..)) b;(replace this:=e'▸this);(replace this:=ax this;subst this);refine aB (t.own _ _ e') λo A z A=>(oA (F p b o z) λj i=>?_);exact xA (λq w=>j q (w▸z)) (λps w=>i ps (show(i9 ps).Is o from w▸z))
 have keep:∀a x,T a=wf x->((∃q,x=fc q)\/∃ps,x=i9 ps)->T' a=wf x:=λa x e' E=>by
  rw[same a]
  ·exact e'
  intro p b q;refine oA (r p b x (aa q e')) λj i=>(cg E (λk=>oE k λq z=>?_) (λk=>oE k λps z=>?_))
  ·exact j q z
  exact i ps z
 have l:∀a x p,(a≠e/\(H a=wf x\/R a=wf x))->p∈x.links->∀f∈ao.links,f.1≠p.1:=λa x p q hl f b w=>by
  refine oE (t.excl e ao a x f p (.inr (am ..)) (g a x q) (aI q.1) b hl w) λy z=>?_
  exact(r f b _ (t.link e ao f (.inr (am ..)) b)).1 y z
 have C:∀a x,H' a=wf x\/R' a=wf x->T a=iF:=λa x q=>by
  obtain z|z|z:=hp a x q
  ·exact t.ne (g a x z)
  ·exact z.1
  (refine aa z.1 ?_);exact u
 refine⟨λP q G=>?_,λa x e'=>?_,λa e'=>⟨?_,?_⟩,λa x p q hl=>?_,λa x v m p f q y n hl jB w=>?_⟩
 ·refine aB (t.tabs P q G) λps j i D=>?_
  exact aR ps (keep P _ j (.inr ⟨ps,rfl⟩)) i (λpos I w=>let⟨c',w1,w2⟩:=D pos I w;(ar c' w1 (keep c' _ w2 (.inl ⟨q,rfl⟩))))
 ·by_cases q:∃p∈ao.links,p.1=a
  ·obtain⟨p,b,rfl⟩:=q;exact own p b x e'
  have q:=λp b w=>q (ar p b w);replace e':=(same a q)▸e';refine ak (t.own a x e') λo j i=>?_
  exact ar o (s a o q (λw=>by(replace e':=w▸e';replace e':=u▸e');injection e') j) i
 ·cases z:H' a with
  |none=>rfl
  |some x=>exact GM (C a x (.inl z)) (dM a e')
 ·cases z:R' a with
  |none=>rfl
  |some x=>exact GM (C a x (.inr z)) (dM a e')
 ·obtain z|z|z:=hp a x q
  ·(refine aa (same _ (l a x p z hl)) ?_);exact t.link a x p (g a x z) hl
  ·(replace hl:=z.2▸hl);cases hl
  exact(z.2 p hl).1
 obtain z|z|z:=hp a x q
 ·obtain z'|z'|z':=hp v m y
  ·exact t.excl a x v m p f (g a x z) (g v m z') n hl jB w
  ·(replace jB:=z'.2▸jB);cases jB
  refine rG (z'.2 f jB) λA d B w0=>?_
  exact GM (w0.trans w.symm) (l a x p z hl d B)
 ·(replace hl:=z.2▸hl);cases hl
 obtain z'|z'|z':=hp v m y
 ·refine rG (z.2 p hl) λA d B w0=>?_
  exact GM (w0.trans w) (l v m f z' jB d B)
 ·(replace jB:=z'.2▸jB);cases jB
 exact GM (z.1.trans z'.1.symm) n
section
variable{c:Cx}{A:aD}{R:af}{ρ:Str->Option AV}{H:af}{s:ae}{E:ab->ae->Prop}
theorem St.moved{e:Addr}{ao ao':AO}{T':af}{h':Heap}{tk:Nat}{o' on:Obj}{aon:AO}{T:af}(ok:c.Ok)(st:St c (upd R e ao) ρ H s)(t:cS c (upd R e ao) H s.heap T)(N:pB ao)(same:∀a,(∀p∈ao.links,p.1≠a)->T' a=T a)(dM:∀a,T' a≠iF->T a≠iF)(own:∀p∈ao.links,∀x,T' p.1=wf x->gB c h' p.1 x)(heap:∀a o,(∀p∈ao.links,p.1≠a)->a≠e->s.heap.get? a=wf o->h'.get? a=wf o)(I:h'.get? e=wf o')(hi:ao'.Is o')(M:∀p∈ao'.links,T' p.1=wf p.2/\∃G∈ao.links,G.1=p.1)(J:h'.get? s.heap.objs.size=wf on)(k:aon.Is on)(j:autoParam (aon.links=[]) cN):St c (upd R e ao') ρ (upd H s.heap.objs.size aon) { s with heap:=h',toks:=tk }:=by
 have h:∀a,(H a≠iF\/upd R e ao a≠iF\/a=c.L\/c.h₀.get? a≠iF)->∀p∈ao.links,p.1≠a:=λa q p hp w=>by
  have y:=t.link e ao p (.inr (am ..)) hp;refine dD (t.own _ _ y) λo f f u n f=>?_
  obtain⟨l,z4⟩:=t.aF _ (by(refine aa y ?_);intro z;injection z);rw[w] at u n l z4;obtain q|q|q|q:=q
  ·exact q l
  ·exact q z4
  ·exact u q
  exact q n
 refine dD (st.bP e ao (am ..)) λQ f f B A P=>?_
 have d:∀a,H a≠iF->a≠e:=λa q w=>by have:=st.aF a q;rw[w,am] at this;injection this
 have O:H e=iF:=by
  cases z:H e with
  |none=>rfl
  |some x=>exact GM rfl (d e (by(refine aa z ?_);intro w;injection w))
 have g:s.heap.objs.size≠e:=λq=>by refine ak (st.bP e ao (am ..)) λo z f=>?_;(replace z:=(bn q)▸z);exact dz _ (cZ z)
 have C:=st.sh;refine⟨?_,λa x q=>?_,λa x q=>?_,λa q=>?_,aa C rfl,T',t.move N same dM own heap λa x q=>?_⟩
 ·refine ak st.fr λm F r=>?_
  exact ar m ⟨F.ns.at' λo q=>heap _ o (h _ (.inr (.inr (.inl rfl)))) (aI B) q,λb o q=>heap b o (h b (.inr (.inr (.inr (by(refine aa q ?_);intro z;injection z))))) (λw=>by rw[w,A] at q;injection q) (F.keep b o q),F.above⟩ r
 ·by_cases w:a=s.heap.objs.size
  ·subst w;rw[am] at q;(replace q:=ax q;subst q);refine dp on J k (jZ st.jr) ?_ (st.lR ok)
   refine ak st.fr λm F f=>?_
   exact sH (bF F.above (gv st.jr))
  replace q:=(aj w)▸q;exact(st.own a x q).mono λo=>heap a o (h a (.inl (by rw[q];intro z;injection z))) (d a (by rw[q];intro z;injection z))
 ·by_cases w:a=e
  ·subst w;rw[am] at q;(replace q:=ax q;subst q);exact dp o' I hi B A P
  replace q:=(aj w)▸q;have v:upd R e ao a=wf x:=by(refine aa (aj w) ?_);exact q
  exact(st.bP a x v).mono λo=>heap a o (h a (.inr (.inl (by(refine aa v ?_);intro z;injection z)))) w
 ·by_cases w:a=s.heap.objs.size
  ·refine aa w ?_
   refine aa (aj g) ?_
   have:=st.iR;rwa [aj g] at this
  replace q:=(aj w)▸q;have:=st.aF a q;rw[aj (d a q)] at this ⊢;exact this
 obtain q|q:=q
 ·refine cg (i_ (X:=λf=>iF) a x (.inl q)) (λq=>?_) (λi=>oA i λE D=>?_)
  ·have q:=q.resolve_right (λz=>(by injection z));exact .inl ⟨d a (by(refine aa q ?_);intro z;injection z),.inl q⟩
  refine .inr (.inl ⟨?_,aa D j⟩);(refine aa E ?_);exact t.size
 by_cases w:a=e
 ·subst w;rw[am] at q;(replace q:=ax q;subst q);exact .inr (.inr ⟨rfl,M⟩)
 (replace q:=(aj w)▸q);exact .inl ⟨w,.inr q⟩
theorem St.An{e:Addr}{ao:AO}{h':Heap}{T:af}(st:St c (upd R e ao) ρ H s)(t:cS c (upd R e ao) H s.heap T)(y:R e=iF)(v:pB ao)(heap:∀a o,(∀p∈ao.links,p.1≠a)->a≠e->s.heap.get? a=wf o->h'.get? a=wf o):St c R ρ H { s with heap:=h' }:=by
 have h:∀a,(H a≠iF\/upd R e ao a≠iF\/a=c.L\/c.h₀.get? a≠iF)->∀p∈ao.links,p.1≠a:=λa q p hp w=>by
  have n:=t.link e ao p (.inr (am ..)) hp;refine dD (t.own _ _ n) λo g g k j g=>?_
  obtain⟨i,z4⟩:=t.aF _ (by(refine aa n ?_);intro z;injection z);rw[w] at k j i z4;obtain q|q|q|q:=q
  ·exact q i
  ·exact q z4
  ·exact k q
  exact q j
 refine dD (st.bP e ao (am ..)) λC g g B A D=>?_
 have d:∀a,H a≠iF->a≠e:=λa q w=>by have:=st.aF a q;rw[w,am] at this;injection this
 have f:∀a,R a≠iF->a≠e:=λa q w=>q (by(refine aa w ?_);exact y);have u:=st.sh;refine⟨?_,λa x q=>?_,λa x q=>?_,λa q=>?_,by(exact aa u rfl),λa=>if∃p∈ao.links,p.1=a then iF else T a,t.move v (λa q=>Da λ⟨p,hp,w⟩=>q p hp w) (λa q=>?_) (λp hp x q=>?_) heap λa x q=>.inl ⟨?_,q⟩⟩
 ·refine ak st.fr λm F r=>?_
  exact ar m ⟨F.ns.at' λo q=>heap _ o (h _ (.inr (.inr (.inl rfl)))) (aI B) q,λb o q=>heap b o (h b (.inr (.inr (.inr (by(refine aa q ?_);intro z;injection z))))) (λw=>by rw[w,A] at q;injection q) (F.keep b o q),F.above⟩ r
 ·exact(st.own a x q).mono λo=>heap a o (h a (.inl (by(refine aa q ?_);intro z;injection z))) (d a (by(refine aa q ?_);intro z;injection z))
 ·have w:=f a (by(refine aa q ?_);intro z;injection z);have l:upd R e ao a=wf x:=by(refine aa (aj w) ?_);exact q
  exact(st.bP a x l).mono λo=>heap a o (h a (.inr (.inl (by(refine aa l ?_);intro z;injection z)))) w
 ·have:=st.aF a q;rwa [aj (d a q)] at this
 ·intro z;rw[z,ite_self] at q;exact q rfl
 ·rw[FB ⟨p,hp,rfl⟩] at q;injection q
 obtain q|q:=q
 ·exact d a (by(refine aa q ?_);intro z;injection z)
 exact f a (by(refine aa q ?_);intro z;injection z)
noncomputable def kg:Nat->List DV->List DV
 |_,[]=>[]
 |k,d::r=>.tuple [.int k,d]::kg (k+1) r
theorem qN:∀(ds:List DV) (k:Nat),(kg k ds).length=ds.length:=by
 intro l0;induction l0 with
 |nil =>intro _;exact rfl
 |cons d r a =>intro k;exact congrArg (·+1) (a (k+1))
theorem qM:∀{ds:List DV} {k i:Nat} {d:DV},(kg k ds)[i]?=wf d->∃e,ds[i]?=wf e/\d=.tuple [.int ((k+i:Nat):Int),e]:=by
 intro l0;induction l0 with
 |nil =>intros;contradiction
 |cons d r a =>
  intro k;intro m0;cases m0 with
  |zero =>intro _ h;(replace h:=ax h;subst h);exact ar d rfl rfl
  |succ i =>
   intro _ h;refine ak (a (k:=k+1) (i:=i) h) λe c b=>?_
   exact ar e c (aa b (aa (show k+1+i=k+(i+1) by exact AM) rfl))
theorem Cd{it l:Addr}{i:Nat}:pB (.enum it l i):=λp hp o h=>by(replace h:=(aK.mp hp)▸h);exact vY h
theorem JS{e it l:Addr}{xs:List AV}{ds:List DV}{elts:List Expr}{kk:Nat}{tp:Pos}(ok:c.Ok)(hh:A.handled=iF):g4 c A (.Tuple elts kk tp) e (kg 0 ds) (λi H ao=>ao=.enum it l i/\b9 c H l xs/\aJ c.h₀ H xs ds) where
 step:=λ{R ρ H s E P Q i d bs ao} hd hb hn ⟨O,u⟩ st k k2=>by
  subst O;refine ak (qM hd) λX8 n y3=>?_
  obtain rfl:=y3;rw[me] at k;refine vy (st.dk (am ..)) λo y C y5=>?_
  obtain rfl:=y5;refine oE st.tb λT t=>?_
  have N:=t.link e _ (it,c9 l i) (.inr (am ..)) (.head _);refine dD (t.own it _ N) λoi g B z1 z2 z3=>(oA B λhc r=>?_);refine ak (st.list u.1) λvs hL ev=>(ak (u.2.get n) λav hx hr=>?_);replace hx:=(bn ev)▸hx;replace hx:=bp▸hx;refine ak (bu.mp hx) λv h1 W=>?_
  obtain rfl:=W;have G:e≠it:=λq=>by have:=t.ne (a:=e) (.inr (am ..));(replace this:=q▸this;replace this:=N▸this);injection this
  have oV:e<s.heap.objs.size:=cZ y;refine wpAny_pyNext_enum_item (x:=v) y (aR oi g hc r) hL (by simpa using h1) G λh' m J D uQ j=>k2 _ _ (wpAny_letOwnedTupleGo_enum m λHI L b=>?_);have b:=b;have q7:HI.get? s.heap.objs.size=wf { cls:=.type "tuple",data:=.seq #[.int i s.toks,v] }:=(b.2 _ (jZ oV)).trans D
  refine aB J λL7 F lg M=>?_
  have X:=st.moved (T':=upd T it (c9 l (i+1))) (ao':=.enum it l (i+1)) (aon:=.tuple [.int i,abs v]) (tk:=s.toks+1) ok t Cd (λa q=>aj (aI (q _ (.head _)))) (λa q=>?_) (λp hp x q=>?_) (λa o q1 Z Y=>(b.2 a Z).trans (j a o Z (aI (q1 _ (.head _))) Y)) L ⟨_,by push_cast;rfl⟩ (λp hp=>?_) q7 (a_ [.int i s.toks,v] 0 rfl rfl)
  ·have S:=(Sub.refl H).upd (o:=.tuple [.int i,abs v]) st.cV;exact k _ _ _ _ S (.pP (am ..) (.cons (.int _) (.cons (Rep.mono S hr) .nil))) (aC rfl (u.1.imp (S.le _ _) id) (u.2.mono S)) X
  ·by_cases w:a=it
   ·(refine aa w ?_;refine aa N ?_);intro z;injection z
   rwa [aj w] at q
  ·rw[aK.mp hp] at q ⊢;have q:=q;rw[am] at q;(replace q:=ax q;subst q);exact dp L7 ((b.2 it (aI G)).trans F) ⟨lg,M⟩ z1 z2 z3
  refine aa (aK.mp hp) ?_
  exact jS (am ..) _ (.head _) rfl
 done:=λ{R ρ H s E Q ao} hn ⟨O,u⟩ st k=>by
  subst O;rw[qN] at st;refine vy (st.dk (am ..)) λo y C V=>?_
  obtain rfl:=V;refine oE st.tb λT t=>?_
  have N:=t.link e _ (it,c9 l ds.length) (.inr (am ..)) (.head _);refine dD (t.own it _ N) λoi g f z1 z2 z3=>(oA f λhc r=>?_);refine ak (st.list u.1) λvs hL ev=>?_
  have I:vs.length=ds.length:=by rw[<-u.2.length,<-ev,aw]
  refine wpAny_pyNext_enum_end hh y (aR oi g hc r) hL (by(refine az I ?_);simp) λh' m=>k _ ?_
  exact st.An t hn Cd λa o q1 Z Y=>m a o (aI (q1 _ (.head _))) Y
 self:=λ{R ρ H s E Q i ao} hn ⟨O,_⟩ st k=>by
  subst O;refine vy (st.dk (am ..)) λo y C U=>?_
  obtain rfl:=U;exact wpAny_pyIter_enum y k
 up:=λh s=>aC h.1 (h.2.1.imp (s.le _ _) id) (h.2.2.mono s)
theorem cS.more{c:Cx}{R H:af}{h h':Heap}{T:af}{e:Addr}{ao:AO}(t:cS c R H h T)(l:∀a o,h.get? a=wf o->h'.get? a=wf o)(s:∀p∈ao.links,h.objs.size<=p.1/\gB c h' p.1 p.2)(C:(ao.links.map (·.1)).Nodup)(J:h.objs.size<=e)(B:∀p∈ao.links,p.1≠e)(L:∀a,h.objs.size<=a->H a=iF/\R a=iF):∃T',cS c (upd R e ao) H h' T':=by
 have D:∀a,h.objs.size<=a->T a=iF:=λa q=>by
  cases z:T a with
  |none=>rfl
  |some x=>refine ak (t.own a x z) λM w M=>?_;exact GM (cZ w) (nJ q)
 have E:∀p∈ao.links,ao.links.lookup p.1=wf p.2:=λp hp=>lw C hp;have v:∀a x,T a=wf x->ao.links.lookup a=iF:=λa x q=>o? λw=>by
  refine ak (bh.mp w) λp hp O=>?_
  obtain rfl:=O;(replace q:=(D _ (s p hp).1)▸q);injection q
 let T':af:=λa=>match ao.links.lookup a with|some x=>wf x|none=>T a
 have g:∀a x,T a=wf x->T' a=wf x:=λa x q=>by show(match ao.links.lookup a with|some x=>wf x|none=>T a)=_;(refine aa (v a x q) ?_);exact q
 have F:∀p∈ao.links,T' p.1=wf p.2:=λp hp=>by show(match ao.links.lookup p.1 with|some x=>wf x|none=>T p.1)=_;(exact aa (E p hp) rfl)
 have m:∀a x,T' a=wf x->(∃p∈ao.links,p=(a,x))\/T a=wf x:=λa x q=>by
  have q:(match ao.links.lookup a with|some x=>wf x|none=>T a)=wf x:=q;refine cE (x:=ao.links.lookup a) (λz=>?_) (λy z=>?_)
  ·(replace q:=z▸q);exact .inr q
  (replace q:=z▸q);(replace q:=ax q;subst q);exact .inl (ar _ (dO z) rfl)
 have up:∀a x,H a=wf x\/upd R e ao a=wf x->(a≠e/\(H a=wf x\/R a=wf x))\/(a=e/\x=ao):=λa x q=>by
  by_cases w:a=e
  ·subst w;rw[am,(L a J).1] at q;exact .inr ⟨rfl,(ax (q.resolve_left λz=>(by injection z))).symm⟩
  (replace q:=(aj w)▸q);exact .inl ⟨w,q⟩
 refine xE T' ⟨λP q Q=>?_,λa x q=>?_,λa q=>?_,λa x p q b=>?_,λa x u r p d q G n b f w=>?_⟩
 ·refine aB (t.tabs P q Q) λps k j N=>?_
  exact aR ps (g _ _ k) j (λpos S w=>let⟨c',w1,w2⟩:=N pos S w;(ar c' w1 (g _ _ w2)))
 ·obtain⟨p,hp,rfl⟩|z:=m a x q
  ·exact(s _ hp).2
  exact(t.own a x z).mono (l a)
 ·refine cE (x:=T' a) (λz=>?_) (λx z=>?_)
  ·exact GM z q
  ·
   obtain⟨p,hp,rfl⟩|z:=m a x z
   ·refine oA (L a (s _ hp).1) λk j=>?_
    exact⟨k,by(refine aa (aj (B _ hp)) ?_);exact j⟩
   obtain⟨k,j⟩:=t.aF a (by rw[z];intro w;injection w);exact⟨k,by rw[aj (λw=>by rw[w,D e J] at z;injection z)];exact j⟩
 ·obtain⟨_,z⟩|⟨_,rfl⟩:=up a x q
  ·exact g _ _ (t.link a x p z b)
  exact F p b
 have I:∀a x p,(H a=wf x\/R a=wf x)->p∈x.links->∀d∈ao.links,p.1≠d.1:=λa x p z b d A w=>by have:=t.link a x p z b;(replace this:=w▸this;replace this:=(D _ (s d A).1)▸this);injection this
 obtain⟨_,z⟩|⟨z,rfl⟩:=up a x q
 ·obtain⟨_,i⟩|⟨i,rfl⟩:=up u r G
  ·exact t.excl a x u r p d z i n b f w
  exact GM w (I a x p z b d f)
 obtain⟨_,i⟩|⟨i,rfl⟩:=up u r G
 ·exact GM w.symm (I u r d i f p b)
 exact GM (z.trans i.symm) n
theorem St.more{e:Addr}{ao:AO}{h':Heap}{g:Obj}(ok:c.Ok)(st:St c R ρ H s)(heap:∀a o,s.heap.get? a=wf o->h'.get? a=wf o)(u:∀p∈ao.links,s.heap.objs.size<=p.1/\∃o,h'.get? p.1=wf o/\p.2.Is o)(i:(ao.links.map (·.1)).Nodup)(j:s.heap.objs.size<=e)(h:∀p∈ao.links,p.1≠e)(r:h'.get? e=wf g)(hi:ao.Is g):H e=iF/\R e=iF/\St c (upd R e ao) ρ H { s with heap:=h' }:=by
 have f:=λb=>st.free ok (b:=b);refine pf (f e j) λk f2 D C B=>?_
 obtain⟨T,t⟩:=st.tb;have d:=st.keeps (tk:=s.toks) heap;refine aC k f2 ⟨d.fr,d.own,λa x q=>?_,λa q=>?_,d.sh,t.more heap (λp hp=>?_) i j h λa q=>⟨(f a q).1,(f a q).2.1⟩⟩
 ·by_cases w:a=e
  ·subst w;rw[am] at q;(replace q:=ax q;subst q);exact dp g r hi D C B
  (replace q:=(aj w)▸q);exact d.bP a x q
 ·(refine aa (aj (λw=>by(replace q:=w▸q);exact q k)) ?_);exact d.aF a q
 refine rG (u p hp) λz o n m=>(pf (f p.1 z) λl l A y v=>?_);exact W! z o n m A y v
end
section
variable{V:Vx}{ρ:Str->Option DV}{e:Expr}{ds:List DV}{tp np pos:Pos}{elts:List Expr}{kk:Nat}
theorem bj.enum(g:Glob V "enumerate" (.type "enumerate"))(h:Ev V e ρ (.list ds))(hp:autoParam (Plain [e]) aU):bj V (.Tuple elts kk tp) (.Call (.Name "enumerate" np) [e] [] pos) ρ (kg 0 ds):=⟨λ{c A env R ah H s Q E} p st w k =>
 ow g hp (aZ.one h) p st w λvs i f d D a=>by
  refine ak D.one λv y z=>?_
  obtain rfl:=y;refine aV z.toList λl us x u=>?_
  obtain rfl:=x;obtain⟨r,j⟩:=u;refine ak (a.list r) λws J M=>(call_enumerate_list J λh' t o C F=>?_);refine aB o λB n I G=>?_
  obtain⟨L,f2,b⟩:=a.more (ao:=.enum f.heap.objs.size l 0) p.ok F (λq m=>by(refine aa (aK.mp m) ?_);exact W9 (bD _) B n I G) (of_decide_eq_true rfl) (p_ _) (λq m=>aa (aK.mp m) (d! (gc _))) t ⟨_,rfl⟩;exact wpAny_pyIter_enum t (k _ _ _ i _ (JS p.ok p.rm.handled) (aC rfl r j) d f2 b)⟩
end
end
section
open Classical
section
variable{prog:jf}{w:World}{A:aD}{E:ab->ae->Prop}{s:ae}
theorem Fg{M:jX}{a:Addr}{Q:Option Obj->ae->Prop}(h:Q (s.heap.get? a) s):al M A (xI a) Q E s:=λb p c=>by delta xI;rw[Sem.wp_loadIfAlive];exact(Sem.wp_pure ..).mpr h
noncomputable abbrev lX(f g:ab)(TI TO:Addr):Obj:={ cls:=.type "zip",dict:=iF,data:=.fields #[f,g,.bool false,.ref TI,.ref TO],slots:=#[] }
theorem DI{z TI TO a:Addr}{f:Obj}{g:ab}{P:Bool->ae->Prop}(hz:s.heap.get? z=wf (lX (eK a) g TI TO))(h:s.heap.get? a=wf f)(e:∀h' i,h'.get? z=wf (lX (eK a) i TI TO)->kJ z s.heap h'->P false { s with heap:=h' }):al (gW prog w) A (XT (.ref z)) P (λb b=>False) s:=by
 refine aG (jl hz rfl (x:=eK a) rfl ?_);show al _ _ (xI (a:Int).toNat >>= _) _ _ _;rw[l7];refine aG (Fg ?_);refine aa h ?_
 refine aG (jl hz rfl (x:=g) rfl ?_);by_cases q:(g != Value.bool true)=true
 ·refine aa (FB q) ?_
  exact aG (wpAny_setField_rec hz (of_decide_eq_true rfl) λh' c d=>bH (e h' (.bool true) c d))
 refine aa (Da q) ?_
 exact bH (e s.heap g hz ⟨rfl,λb b=>rfl⟩)
theorem XP{z TI TO i1 i2 l1 l2 a:Addr}{H:Obj}{k1 k2:Nat}{xs ys:Array ab}{x y g:ab}{Q:Option ab->ae->Prop}(hz:s.heap.get? z=wf (lX (eK a) g TI TO))(L:s.heap.get? a=wf H)(q:ny s.heap TI (.ref i1) (.ref i2))(O:s.heap.IsListIter i1 l1 k1)(N:s.heap.IsListIter i2 l2 k2)(p:s.heap.IsList l1 xs)(n:s.heap.IsList l2 ys)(J:xs[k1]?=wf x)(I:ys[k2]?=wf y)(B:i1≠z)(v:i2≠z)(u:i1≠i2)(m1:l1≠z)(m2:l2≠z)(m3:l2≠i1)(M:∀h' r,h'.get? z=wf (lX (eK a) r TI TO)->h'.IsListIter i1 l1 (k1+1)->h'.IsListIter i2 l2 (k2+1)->ny h' s.heap.objs.size x y->(∀c o,c≠z->c≠i1->c≠i2->s.heap.get? c=wf o->h'.get? c=wf o)->Q (wf (.ref s.heap.objs.size)) { s with heap:=h' }) :
  al (gW prog w) A (kS (.ref z)) Q E s:=by
 have G:s.TypeIs (.ref z) "zip":=ar _ hz rfl;refine aG (xL (EK (name:=Str.ofString "__next__") G pU (tx pU G F.entry_zip_next ?_ (DO _))));show al _ _ (field (.ref z) 2 >>= _) _ _ _;refine aG (jl hz rfl (x:=.bool false) rfl ?_);refine aG (jl hz rfl (x:=.ref TI) rfl ?_);refine aG (tA q rfl ?_);refine aG (bx (DI hz L λD r i b=>?_) (λm m z=>z) λm m z=>z.elim);refine aG (aG (aG (fS ?_)));refine aG (EN (O.extBut b.extBut B) (p.extBut b.extBut m1) J λC k d=>bH ?_);refine bH (aG (aG (fS ?_)));refine aG (EN ((N.extBut b.extBut v).extBut d.extBut (aI u)) ((n.extBut b.extBut m2).extBut d.extBut m3) I λh j f=>bH ?_);refine bH (bH ?_);show al _ _ (qj [x,y] >>= λt=>ret t) _ _ _;refine aG (wpAny_newTuple ?_);have b:=b;have d:=d;have f:=f;have l:h.objs.size=s.heap.objs.size:=by(refine aa f.1 ?_;refine aa d.1 ?_;exact aa b.1 rfl)
 refine bH (ar _ rfl (bH ?_));have P:ny (h.push { cls:=.type "tuple",data:=.seq #[x,y] }) s.heap.objs.size x y:=az l (pV _ rfl);refine aa l ?_
 have up:∀c o,h.get? c=wf o->(h.push { cls:=.type "tuple",data:=.seq #[x,y] }).get? c=wf o:=λc o e=>gR _ e
 refine M _ r (up _ _ (f.extBut _ _ (aI v) (d.extBut _ _ (aI B) i))) ?_ ?_ P λc o T S R e=>up _ _ (f.extBut _ _ R (d.extBut _ _ S (b.extBut _ _ T e)))
 ·exact(k.extBut f.extBut u).at λo e=>up _ o e
 exact j.at λo e=>up _ o e
theorem XR{z TI TO i1 i2 l1 a:Addr}{p:Obj}{k1:Nat}{xs:Array ab}{g:ab}{Q:Option ab->ae->Prop}(u:A.handled=iF)(hz:s.heap.get? z=wf (lX (eK a) g TI TO))(y:s.heap.get? a=wf p)(l:ny s.heap TI (.ref i1) (.ref i2))(C:s.heap.IsListIter i1 l1 k1)(j:s.heap.IsList l1 xs)(r:xs[k1]?=iF)(q:i1≠z)(m1:l1≠z)(B:∀h',(∀c o,c≠z->c≠i1->s.heap.get? c=wf o->h'.get? c=wf o)->Q iF { s with heap:=h' }) :
  al (gW prog w) A (kS (.ref z)) Q E s:=by
 have n:s.TypeIs (.ref z) "zip":=ar _ hz rfl;refine aG (xL (EK (name:=Str.ofString "__next__") n pU (tx pU n F.entry_zip_next ?_ (DO _))));show al _ _ (field (.ref z) 2 >>= _) _ _ _;refine aG (jl hz rfl (x:=.bool false) rfl ?_);refine aG (jl hz rfl (x:=.ref TI) rfl ?_);refine aG (tA l rfl ?_);refine aG (bx (DI hz y λm H h d=>?_) (λf f z=>z) λf f z=>z.elim);refine aG (aG (aG (fS ?_)));refine aG (wpAny_nextOf_list_end u (C.extBut d.extBut q) (j.extBut d.extBut m1) r λh' x k i=>?_);refine ak i λo t v=>(aG (wpAny_isInstance (T:="StopIteration") (b:=true) (ar o t v) isSubtype_stop ?_));exact bH (B _ λc o G D e=>k c o D (d.extBut _ _ G e))
theorem DJ{z TI TO:Addr}{f g:ab}{Q:ab->ae->Prop}(hz:s.heap.get? z=wf (lX f g TI TO))(h:Q (.ref z) s):al (gW prog w) A (gY (.ref z)) Q E s:=by have a:s.TypeIs (.ref z) "zip":=ar _ hz rfl;refine wpAny_pyIter_slot a F.slot_zip_iter (tx F.slot_zip_iter a F.entry_zip_iter ?_ (F.args_zip_iter_1 _));exact bH (Xb _ rfl ("zip") _ a pU.lookup h)
end
section
variable{c:Cx}{A:aD}{R:af}{ρ:Str->Option AV}{H:af}{s:ae}{E:ab->ae->Prop}
theorem Ce{own:Option Addr}{TI TO i1 i2 l1 l2:Addr}{i:Nat}:pB (.zip own TI TO i1 i2 l1 l2 i):=λp hp o h=>by
 have c:∀d n,o={ cls:=.type "tuple",data:=.seq d n }->(∀q,¬(fc q).Is o)/\∀ps,o≠d? ps:=λd n e=>by
  refine aa e ?_
  exact⟨(λq ⟨_,_,z,_⟩=>(by injection z)),λps z=>by have:=congrArg Obj.data z;injection this⟩
 revert h;refine lx hp (λh=>?_) (λh=>?_) (λh=>?_) (λh=>?_)
 ·exact c _ _ h
 ·obtain⟨a,b,h⟩:=h;exact c _ _ h
 ·exact vY h
 exact vY h
noncomputable def pairD:List DV->List DV->List DV
 |a::r,b::q=>.tuple [a,b]::pairD r q
 |_,_=>[]
theorem B8:∀{ds es:List DV} {i:Nat} {d:DV},(pairD ds es)[i]?=wf d->∃a b,ds[i]?=wf a/\es[i]?=wf b/\d=.tuple [a,b]
 |a::r,b::q,0,_,h=>by(replace h:=ax h;subst h);exact cj a b rfl rfl rfl
 |a::r,b::q,i+1,_,h=>B8 (ds:=r) (es:=q) (i:=i) h
 |[],_,_,_,h=>by injection h
 |_::_,[],_,_,h=>by injection h
theorem UX:∀{ds es:List DV},ds.length<=es.length->(pairD ds es).length=ds.length:=by
 intro l0;induction l0 with
 |nil =>intro _ _;exact rfl
 |cons a r c =>
  intro m0;cases m0 with
  |nil =>intro h;cases h
  |cons b q =>intro h;exact congrArg (·+1) (c (es:=q) (s_ h))
theorem DG{z a b:Addr}{k x:AO}{T:af}{xs ys:List AV}(st:St c (upd R z k) ρ H s)(t:cS c (upd R z k) H s.heap T)(e:T a=wf x)(h:b=z\/b9 c H b xs\/b9 c H b ys):b≠a:=λq=>by
 subst q;obtain⟨i,g⟩:=t.aF b (by(refine aa e ?_);intro q;injection q);refine dD (t.own b x e) λd d d d f d=>?_
 obtain h|h|h:=h
 ·rw[h,am] at g;injection g
 ·obtain h|⟨_,⟨_,h,_⟩,_⟩:=h
  ·rw[i] at h;injection h
  rw[f] at h;injection h
 obtain h|⟨_,⟨_,h,_⟩,_⟩:=h
 ·rw[i] at h;injection h
 rw[f] at h;injection h
theorem DH{z b:Addr}{k:AO}{ws:List AV}(st:St c (upd R z k) ρ H s)(h:b9 c H b ws):b≠z:=λq=>by
 subst q;obtain h|⟨_,⟨_,h,_⟩,_⟩:=h
 ·have:=st.aF b (by(refine aa h ?_);intro q;injection q);rw[am] at this;injection this
 obtain⟨_,_,_,_,a,_⟩:=st.bP b _ (am ..);rw[a] at h;injection h
structure E'(c:Cx)(own:Option Addr)(TI TO i1 i2 l1 l2:Addr)(ds es:List DV)(i:Nat)(H:af)(ao:AO):Prop where
 ao:ao=.zip own TI TO i1 i2 l1 l2 i
 own:∀a,own=wf a->∃xs,H a=wf (.tuple xs)
 first:∃xs,b9 c H l1 xs/\aJ c.h₀ H xs ds
 second:∃xs,b9 c H l2 xs/\aJ c.h₀ H xs es
theorem JW{z TI TO i1 i2 l1 l2:Addr}{ds es:List DV}{x:Str}{xp:Pos}(ok:c.Ok)(hh:A.handled=iF)(n1:TI≠TO)(n2:TI≠i1)(n3:TI≠i2)(n4:TO≠i1)(n5:TO≠i2)(n6:i1≠i2)(hle:ds.length<=es.length) :
  g4 c A (.Name x xp) z (pairD ds es) (λi H ao=>∃own,E' c own TI TO i1 i2 l1 l2 ds es i H ao) where
 step:=λ{R ρ H s E P Q i d bs ao} hd hb hn ⟨own,ea,ho,⟨xs,j,B⟩,⟨ys,f,G⟩⟩ st k k2=>by
  subst ea;refine dP (B8 hd) λd₁ d₂ Iq hd2 y4=>?_
  obtain rfl:=y4;refine il (st.dk (am ..)) λo hz g y5 V=>?_
  obtain rfl:=y5;refine oE st.tb λT t=>?_
  have lk:=λp hp=>t.link z (.zip own TI TO i1 i2 l1 l2 i) p (.inr (am ..)) hp;have O:=lk (TI,_) (.head _);have C:=lk (TO,_) (.tail _ (.head _));have n:=lk (i1,_) (.tail _ (.tail _ (.head _)));have D:=lk (i2,_) (.tail _ (.tail _ (.tail _ (.head _))));refine aB (t.own TI _ O) λr w1 m r=>?_
  have m:=m;subst m;refine aB (t.own TO _ C) λr w2 Y r=>(fM Y λpa pb Xv=>?_);obtain rfl:=Xv;refine aB (t.own i1 _ n) λo3 w3 F r=>(aB (t.own i2 _ D) λo4 w4 M r=>?_);refine ak (st.list j) λvs J ev=>(ak (st.list f) λus N eu=>?_);refine ak (B.get Iq) λav ha I1=>(ak (G.get hd2) λbv oS I2=>?_);replace ha:=(bn ev)▸ha;replace ha:=bp▸ha;replace oS:=(bn eu)▸oS;replace oS:=bp▸oS;refine ak (bu.mp ha) λv h1 Xy=>?_
  obtain rfl:=Xy;refine ak (bu.mp oS) λu h2 Xz=>?_
  obtain rfl:=Xz;have l:∀{a:Addr} {x:AO},T a=wf x->∀{b:Addr},(b=z\/b9 c H b xs\/b9 c H b ys)->b≠a:=λ{a x} e {b} h=>DG st t e h;have U:∀{b:Addr} {ws},b9 c H b ws->b≠z:=λ{b ws} h=>DH st h;have Yr:=cZ hz;have fin:∀{h':Heap} {own':Option Addr} {g':ab},own'≠iF->(∀a,own'=wf a->a=s.heap.objs.size\/∃xs,H a=wf (.tuple xs))->h'.get? z=wf (lX (match own' with|some a=>eK a|none=>.none) g' TI TO)->(∃pa pb,ny h' TO pa pb)->h'.IsListIter i1 l1 (i+1)->h'.IsListIter i2 l2 (i+1)->ny h' s.heap.objs.size v u ->(∀c o,c≠z->c≠TO->c≠i1->c≠i2->s.heap.get? c=wf o->h'.get? c=wf o)->Q (.ref s.heap.objs.size) { s with heap:=h' }:=λ{h' own' g'} jC IX q_ I IG IH hp hk=>by
   refine fM I λpa pb I=>(aB IG λo1 e1 e2 e3=>?_);refine aB IH λo2 f1 f2 f3=>?_
   have d8:=st.moved (T':=upd (upd T i1 (c9 l1 (i+1))) i2 (c9 l2 (i+1))) (ao':=.zip own' TI TO i1 i2 l1 l2 (i+1)) (aon:=.tuple [abs v,abs u]) (tk:=s.toks) (h':=h') ok t Ce (λa q=>?_) (λa q=>?_) (λp Z x q=>?_) (λa o L q2 q3=>hk a o q2 (aI (L _ (.tail _ (.head _)))) (aI (L _ (.tail _ (.tail _ (.head _))))) (aI (L _ (.tail _ (.tail _ (.tail _ (.head _)))))) q3) q_ (ar g' rfl (λq=>GM q jC)) (λp Z=>?_) hp (a_ [v,u] 0 rfl rfl)
   ·have S:=(Sub.refl H).upd (o:=.tuple [abs v,abs u]) st.cV;refine k _ _ _ _ S (.pP (am ..) (.cons (I1.mono S) (.cons (I2.mono S) .nil))) ⟨own',rfl,λa q=>?_,ar xs (j.imp (S.le _ _) id) (B.mono S),ar ys (f.imp (S.le _ _) id) (G.mono S)⟩ d8;refine cg (IX a q) (λw=>?_) (λwA=>oE wA λws w=>?_)
    ·exact xE _ (by rw[w,am])
    exact xE ws (S.le _ _ w)
   ·refine aa (aj (aI (q _ (.tail _ (.tail _ (.tail _ (.head _))))))) ?_;exact aa (aj (aI (q _ (.tail _ (.tail _ (.head _)))))) rfl
   ·by_cases L:a=i2
    ·(refine aa L ?_;refine aa D ?_);intro w;injection w
    replace q:=(aj L)▸q;by_cases q2:a=i1
    ·(refine aa q2 ?_;refine aa n ?_);intro w;injection w
    rwa [aj q2] at q
   ·have cl:=λa ao e=>let⟨_,_,_,w⟩:=t.own a ao e;w;revert q;refine lx Z (λq=>?_) (λq=>?_) (λq=>?_) (λq=>?_)
    ·have q:=q;(replace q:=(aj n3)▸q;replace q:=(aj n2)▸q;replace q:=O▸q);(replace q:=ax q;subst q);exact aR _ (hk TI _ (aI (l O (.inl rfl))) n1 n2 n3 w1) rfl (cl _ _ O)
    ·have q:=q;(replace q:=(aj n5)▸q;replace q:=(aj n4)▸q;replace q:=C▸q);(replace q:=ax q;subst q);exact aR _ I (dT pa pb rfl) (cl _ _ C)
    ·have q:=q;rw[aj n6,am] at q;(replace q:=ax q;subst q);exact aR o1 e1 ⟨e2,e3⟩ (cl _ _ n)
    have q:=q;rw[am] at q;(replace q:=ax q;subst q);exact aR o2 f1 ⟨f2,f3⟩ (cl _ _ D)
   refine lx Z ?_ ?_ ?_ ?_
   ·exact jS (by(refine aa (aj n3) ?_;refine aa (aj n2) ?_;exact aa O rfl)) _ (.head _) rfl
   ·exact jS (by(refine aa (aj n5) ?_;refine aa (aj n4) ?_;exact aa C rfl)) _ (.tail _ (.head _)) rfl
   ·exact jS (by rw[aj n6,am]) _ (.tail _ (.tail _ (.head _))) rfl
   exact jS (by rw[am]) _ (.tail _ (.tail _ (.tail _ (.head _)))) rfl
  cases own with
  |none =>
   have V:=V rfl;subst V;refine wpAny_pyNext_zip_item (x:=v) (y:=u) ⟨aI (l O (.inl rfl)),aI (l C (.inl rfl)),aI (l n (.inl rfl)),aI (l D (.inl rfl)),n1,n2,n3,n4,n5,n6,U j,l C (.inr (.inl j)),l n (.inr (.inl j)),l D (.inr (.inl j)),U f,l C (.inr (.inr f)),l n (.inr (.inr f)),l D (.inr (.inr f))⟩
    hz w1 w2 (ar o3 w3 F) (ar o4 w4 M) J N (by simpa using h1) (by simpa using h2) λh' a1 a2 a3 a4 a5 a6 a7=>k2 _ _ ?_
   exact bH (fin (own':=wf s.heap.objs.size) (λq=>(by injection q)) (λa q=>by(replace q:=ax q;subst q);exact .inl rfl) a1 (dT _ _ a2) a3 a4 a5 a7)
  |some a =>
   refine oE (ho a rfl) λws hw=>(ak (st.own a _ hw) λoa uK r=>?_);refine XP (x:=v) (y:=u) hz uK w1 (ar o3 w3 F) (ar o4 w4 M) J N (by simpa using h1) (by simpa using h2) (aI (l n (.inl rfl))) (aI (l D (.inl rfl))) n6 (U j) (U f) (l n (.inr (.inr f))) λh' g' a1 a3 a4 a5 a7=>k2 _ _ ?_
   exact bH (fin (own':=wf a) (λq=>(by injection q)) (λb q=>by(replace q:=ax q;subst q);exact .inr ⟨ws,hw⟩) a1 (dT _ _ (a7 TO _ (aI (l C (.inl rfl))) n4 n5 w2)) a3 a4 a5 λc o c1 c2 c3 c4=>a7 c o c1 c3 c4)
 done:=λ{R ρ H s E Q ao} hn ⟨own,ea,ho,⟨xs,j,B⟩,⟨ys,f,G⟩⟩ st k=>by
  subst ea;replace st:=(UX hle)▸st;refine il (st.dk (am ..)) λo hz g XH V=>?_
  obtain rfl:=XH;refine oE st.tb λT t=>?_
  have lk:=λp hp=>t.link z (.zip own TI TO i1 i2 l1 l2 ds.length) p (.inr (am ..)) hp;have O:=lk (TI,_) (.head _);have C:=lk (TO,_) (.tail _ (.head _));have n:=lk (i1,_) (.tail _ (.tail _ (.head _)));have D:=lk (i2,_) (.tail _ (.tail _ (.tail _ (.head _))));refine aB (t.own TI _ O) λr w1 m r=>?_
  have m:=m;subst m;refine aB (t.own TO _ C) λr w2 X r=>(fM X λpa pb Xp=>?_);obtain rfl:=Xp;refine aB (t.own i1 _ n) λo3 w3 F r=>(aB (t.own i2 _ D) λo4 w4 M r=>?_);refine ak (st.list j) λvs J ev=>(ak (st.list f) λus N eu=>?_);have W:vs.toArray[ds.length]?=iF:=by
   have:vs.length=ds.length:=by rw[<-B.length,<-ev,aw]
   (refine az this ?_);simp
  have l:∀{a:Addr} {x:AO},T a=wf x->∀{b:Addr},(b=z\/b9 c H b xs\/b9 c H b ys)->b≠a:=λ{a x} e {b} h=>DG st t e h;have U:∀{b:Addr} {ws},b9 c H b ws->b≠z:=λ{b ws} h=>DH st h;have fin:∀h',(∀c o,c≠z->c≠TO->c≠i1->c≠i2->s.heap.get? c=wf o->h'.get? c=wf o)->Q iF { s with heap:=h' }:=λh' hk=>k _ (st.An t hn Ce λa o L q2 q3=>hk a o q2 (aI (L _ (.tail _ (.head _)))) (aI (L _ (.tail _ (.tail _ (.head _))))) (aI (L _ (.tail _ (.tail _ (.tail _ (.head _)))))) q3);cases own with
  |none =>
   have V:=V rfl;subst V;exact wpAny_pyNext_zip_end hh ⟨aI (l O (.inl rfl)),aI (l C (.inl rfl)),aI (l n (.inl rfl)),aI (l D (.inl rfl)),n1,n2,n3,n4,n5,n6,U j,l C (.inr (.inl j)),l n (.inr (.inl j)),l D (.inr (.inl j)),U f,l C (.inr (.inr f)),l n (.inr (.inr f)),l D (.inr (.inr f))⟩
    hz w1 w2 (ar o3 w3 F) (ar o4 w4 M) J N (.inl W) fin
  |some a =>refine oE (ho a rfl) λws hw=>(ak (st.own a _ hw) λoa uK r=>?_);exact XR hh hz uK w1 (ar o3 w3 F) J W (aI (l n (.inl rfl))) (U j) λh' hk=>fin h' λc o c1 c2 c3 c4=>hk c o c1 c3
 self:=λ{R ρ H s E Q i ao} hn ⟨own,ea,_,_,_⟩ st k=>by
  subst ea;refine il (st.dk (am ..)) λo ho g Xq V=>?_
  obtain rfl:=Xq;exact DJ ho k
 up:=λ⟨own,ea,ho,⟨xs,j,B⟩,⟨ys,f,G⟩⟩ s=>⟨own,ea,λa q=>let⟨ws,w⟩:=ho a q;⟨ws,s.le _ _ w⟩,ar xs (j.imp (s.le _ _) id) (B.mono s),ar ys (f.imp (s.le _ _) id) (G.mono s)⟩
end
end
section
open Classical
section
variable{V:Vx}{c:Cx}{A:aD}{env:Env}{R0:af}{ρ:b_}{ex:Option (AV×XV)}{ah:Str->Option AV}{R H:af}{F:Option Str->Addr->Prop}{s:ae}{E:ab->ae->Prop}{x:Str}
theorem Fs.rB{xv:XV}{a:Addr}{ao:AO}(f:bX V c A env R0)(m:Fs V c env R0 ρ ex ah R H F s)(p:bk c env ah R x=wf (.ref a))(l:R a=wf ao)(j:F (wf x)=(·=a)):H a=iF/\St c (del R a) ah (upd H a ao) s /\
  ∀ao' d H' s',(∀R',R' a=wf ao'->fG c.h₀ R' H' (·=a) (.ref a) d)->Sub H H'->H' a=iF->St c (del R a) ah (upd H' a ao') s'->∃R' r,(∀y av,bk c env ah R y=wf av->bk c env ah R' y=wf av)/\Fs V c env R0 (putN ρ x d) ex ah R' H' r s':=by
 have i:H a=iF:=by
  cases q:H a with
  |none=>rfl
  |some z=>have:=m.st.aF a (by(refine aa q ?_);intro z;injection z);rw[l] at this;injection this
 refine aC i (m.st.show l) (λao' d H' s' o hs k g=>a_ (upd R a ao') _ (λy av q=>aa (jG f (λb n e=>aj (λz=>(m.foot (wf x) a (aa j rfl)).2.2 y n (by(refine az z ?_);exact e))) rfl) q) (m.jM (G:=(·=a)) f hs ?_ p (λb e t=>?_) (λb e=>?_) (o _ (am ..))))
 ·refine g.part (λb ao h=>?_) λb h=>?_
  ·obtain h|h:=h
   ·exact .inl (aa (aj (λq=>by rw[q,k] at h;injection h)) h)
   by_cases q:b=a
   ·subst q;rw[am] at h;exact .inl (by rw[am];exact h)
   rw[aj q] at h;exact .inr (by(refine aa (ci q) ?_);exact h)
  have q:b≠a:=λq=>h (by(refine aa q ?_);exact k);refine aa (aj q) ?_
  have:=g.aF b (aa (aj q) h);rwa [ci q] at this
 ·exact aj (λq=>e (by(refine aa j ?_;exact aa q rfl)))
 have e:b=a:=e;refine aa e ?_
 exact⟨(by rw[am];intro q;injection q),.inl (aa j rfl)⟩
theorem Fs.vj{H':af}{s':ae}{a:Addr}{ao:AO}{xv:XV}(m:Fs V c env R0 ρ ex ah R H F s)(f:bX V c A env R0)(hs:Sub H H')(n:R a=iF)(l:∀R',R' a=wf ao->fG c.h₀ R' H' (·=a) (.ref a) xv)(st:St c (upd R a ao) ah H' s') :
  Fs V c env R0 ρ (wf (.ref a,xv)) ah (upd R a ao) H' (λi b=>if i=iF then b=a else F i b) s':=by
 have sub:Sub R (upd R a ao):=(Sub.refl _).upd n;have ne:∀i b,F i b->b≠a:=λi b h q=>(m.foot i b h).1 (aa q n);refine⟨st,λx l=>(m.slots x l).sub sub,λx xv e=>?_,λav xv e=>?_,λi b h=>?_,λi j b h d k=>?_,λb ao e=>sub.le _ _ (m.base b ao e),m.cells⟩
 ·refine ak (m.var x xv e) λav d k=>(ar av (o8 d sub) ?_);refine aa (funext λb=>Da (λz=>(by injection z))) ?_
  exact k.on hs λb o=>aj (ne _ b o)
 ·cases e;refine aa (funext λb=>FB rfl) ?_
  exact l _ (am ..)
 ·cases i with
  |none =>
   have h:=h;subst h;refine aC (by rw[am];intro q;injection q) ?_ (λx l q=>?_)
   ·cases e:R0 b with
    |none=>rfl
    |some ao=>have:=m.base b ao e;(replace this:=n▸this);injection this
   refine cg ((m.slots x l).at q) (λg=>oE g λr e=>?_) (λg=>oE g λv e=>?_)
   ·(replace e:=n▸e);injection e
   (replace e:=n▸e);injection e
  |some x =>
   have h:=h;refine a! (m.foot _ b h) λd k p=>?_
   exact aC (aa (aj (ne _ b h)) d) k p
 cases i with
 |none =>
  have d:=d;cases j with
  |none=>exact h rfl
  |some y=>exact ne (wf y) b k d
 |some x =>
  cases j with
  |none=>exact ne (wf x) b d k
  |some y=>exact m.fU _ _ b h d k
theorem q6{H':af}{a:Addr}{ao:AO}{s':ae}(d:H' a=iF)(st:St c R ah (upd H' a ao) s'):R a=iF/\St c (upd R a ao) ah H' s':=by
 refine⟨st.aF a (by rw[am];intro q;injection q),st.part (λb x h=>?_) λb h=>?_⟩
 ·obtain h|h:=h
  ·exact .inl (aa (aj (λq=>by rw[q,d] at h;injection h)) h)
  by_cases q:b=a
  ·subst q;rw[am] at h;exact .inl (by rw[am];exact h)
  rw[aj q] at h;exact .inr h
 have q:b≠a:=λq=>h (aa q d);refine aa (aj q) ?_
 exact st.aF b (by(refine aa (aj q) ?_);exact h)
end
noncomputable def eZ(es:List (Int×Int))(k v:Int):List (Int×Int):=if es.any (λp=>p.1=k) then es.map (λp=>if p.1=k then(p.1,v) else p) else es++[(k,v)]
noncomputable abbrev dA(es:List (Int×Int)):List (Int×AV):=es.map λp=>(p.1,AV.int p.2)
theorem C3{es:List (Int×Int)}{k v:Int}:i8 (dA es) k (.int v)=dA (eZ es k v):=by
 unfold i8 eZ;refine aa sN ?_
 have:(es.any ((λp:Int×AV=>decide (p.1=k)) ∘ λp=>(p.1,AV.int p.2)))=es.any λp=>decide (p.1=k):=rfl;refine aa this ?_
 split
 ·refine aa dW ?_
  show _=xh _ (xh _ _);refine aa dW ?_
  refine kN λp a=>?_
  simp only[no];split<;>rfl
 show _=xh _ (_++_);(refine aa bf ?_);rfl
theorem Hd{es:List (Int×Int)}{k:Int}:(dA es).filter (λp=>!decide (p.1=k))=dA (es.filter λp=>!decide (p.1=k)):=by(refine aa sS ?_);rfl
section
variable{V:Vx}{l l' l₁ l₂:Nm}{fl:Fl}{e i b:Expr}{x y:Str}{xv:XV}{d d':DV}{ds:List DV}{es:List (Int×Int)}{o:Option Addr}{pos px py ap sp tp:Pos}{ρ ρ' eP jT:b_}{kk:Nat}{ts:List Stmt}
theorem Ex.tO(h:a9 V e (aM l) d ρ')(o:ρ'=aM l₁)(j:isVar V.T x=true)(hs:autoParam (∀env:Env,env.scope.names=V.T->iH e (wf (.Name x px)) pos.line env=pure false) aU):Ex V (.Assign [.Name x px] e pos) l .next ((x,.fz d)::l₁):=⟨λf m k=>by refine dQ m λah R H F low m=>(dI (h.run f m λv R' H' r s' p q n m'=>(m'.jO n).store f j λa g i b c=>k b (ei a g H' i (low.trans p) ?_)) (hs _ f.tab));(refine az cJ ?_;refine az o ?_);exact c⟩
theorem Ex.qx(h:a9 V e (aM l) (.tuple [d,d']) ρ')(q:ρ'=aM l₁)(n:isVar V.T x=true)(j:isVar V.T y=true)(hs:autoParam (∀env,swapsWithSole [.Tuple [.Name x px,.Name y py] kk tp] e pos.line env=pure false) aU)(o:autoParam (∀env,swappedStores [.Tuple [.Name x px,.Name y py] kk tp] e env=pure iF) aU) :
  Ex V (.Assign [.Tuple [.Name x px,.Name y py] kk tp] e pos) l .next ((y,.fz d')::(x,.fz d)::l₁):=⟨λf m k=>by
 refine dQ m λah R H F low m=>(Assign_Tuple (h.run f m λv R' H' t s' r s p m'=>?_) (hs _) (o _));subst q;exact m'.assign f p (.pair ..) (by exact iu n j) λa g i b c=>k b (ei a g H' i (low.trans r) c)⟩
theorem Ex.kD{k v:Int}{es':List (Int×Int)}(h:a9 V e (aM l) (.int v) eP)(q:eP x=wf (.own (.dict o es')))(hi:a9 V i eP (.int k) jT)(he:jT=aM l₂)(hx:aM l₂ x=wf (.own (.dict o es)))(hz:es.length<=2^24)(hs:autoParam (∀env,iH e (wf (.Subscript (.Name x px) i ap)) pos.line env=pure false) aU):Ex V (.Assign [.Subscript (.Name x px) i ap] e pos) l .next ((x,.own (.dict o (eZ es k v)))::l₂):=⟨λ{c A env R0 H0 s Q} f m K=>by
 refine dQ m λah R H F low m=>(xK (h.run f m λu W X Z T B P y b=>?_) (hs env));refine oE y.toInt λt y4=>?_
 obtain rfl:=y4;refine bJ (b.var x _ q) λav G a ep y5 P=>?_
 obtain rfl:=y5;refine ik b.st f.fn (f.g! G) G λu hu=>?_
 refine aa (ed hu) ?_
 refine hi.run f b λw U n Y S z d r j=>(oE r.toInt λt' p=>?_);obtain rfl:=p;subst he;refine bJ (j.var x _ hx) λav h2 a' k_ p I=>?_
 obtain rfl:=p;obtain⟨hR,hF,ho⟩:=I;(replace h2:=(d _ _ G)▸h2);cases h2;refine a! (j.rB (xv:=.own (.dict o es)) f (d _ _ G) hR hF) λhn J E=>?_
 refine Internal.kD J (am ..) (by rw[aw,bW];exact hz) λD C g=>?_
 rw[g_,show abs (.int v t)=.int v from rfl,C3] at g;refine aV (E _ (.own (.dict o (eZ es k v))) n C (λR' M=>dc a D rfl M rfl ho) (Sub.refl _) hn g) λN O P L=>(K C (ei ah N n O (low.trans (B.trans z)) ?_));(refine az cJ ?_);exact L⟩
theorem a9.U7{k v:Int}(W:ρ x=wf (.own (.dict o es)))(hi:bK V i ρ (.int k))(hd:es.lookup k=wf v)(hz:es.length<=2^24)(hm:autoParam (oh (.Name x px) "pop" ap [i] pos) aU)(hp:autoParam (Plain [i]) aU) :
  a9 V (.Call (.Attribute (.Name x px) "pop" ap) [i] [] pos) ρ (.int v) (putN ρ x (.own (.dict o (es.filter λp=>!decide (p.1=k))))):=⟨λ{c A env R0 ex ah R H F s Q E} n m K=>by
 refine bJ (m.var x _ W) λav l a ep Y X=>?_
 obtain rfl:=Y;refine a! X λhR hF ho=>(a! (m.rB (xv:=.own (.dict o es)) n l hR hF) λy D y=>?_);obtain⟨pl,he⟩:=hm env;refine dX (c:=c) (pl:=pl) (ik m.st n.fn (n.g! l) l λv J=>?_) he;obtain rfl:=ed J;refine rz D (am ..) PySem.F.slot_dict_pop PySem.F.type_dict_pop (cw (c:=c) ?_ (hp env));refine hi.run n m λw H' s' hH hr m'=>⟨trivial,?_⟩;refine oE ((hr c.h₀ λy=>iF).toInt) λt C=>?_
 obtain rfl:=C;refine bJ (m'.var x _ W) λav h2 a' k_ B z=>?_
 obtain rfl:=B;obtain⟨d,P,O⟩:=z;(replace h2:=l▸h2);cases h2;refine a! (m'.rB (xv:=.own (.dict o es)) n l d P) λhn e r=>(aB (e.dictAt (am ..)) λkvs g S y=>?_);have J:(kU kvs k).map abs=wf (.int v):=by rw[lU,S,o9,hd];rfl
 refine ak (bu.mp J) λu M L=>?_
 have h:kvs.length<=cB:=by have:=congrArg hU S;rw[aw,aw] at this;(refine aa this ?_;refine aa bW ?_);exact hz
 refine ti PySem.F.slot_dict_pop g.dictOf.typeIs PySem.F.entry_dict_pop (PySem.F.args_dict_pop_2 _ _) (meets_dict_pop_there (fR c.G.prog c.G.w) a (ji c.G.prog c.G.w k t) [] (.inl rfl) rfl) (dc kvs u g.dictOf h M (λh' f N=>?_));refine oE (e.r? (tk:=s'.toks+1) (am ..) N f) λq b=>?_
 have Z:(without kvs k).map (λp=>(p.1,abs p.2))=dA (es.filter λp=>!decide (p.1=k)):=by
  refine az Hd ?_;refine aa (show dA es=kvs.map (λp=>(p.1,abs p.2)) from S.symm) ?_
  refine aa sS ?_
  exact congrArg _ (sQ λp y=>by simp[no])
 rw[g_,Z] at b;refine aV (r _ (.own (.dict o (es.filter λp=>!decide (p.1=k)))) H' _ (λR' d=>dc a q rfl d rfl O) (Sub.refl _) hn b) λT U j I=>?_
 exact K u T H' U _ hH j (by(refine aa L ?_);exact .int v) I⟩
theorem bb.newD:bb V (.Dict [] [] pos) ρ (.own (.dict iF [])):=⟨λ{c A env R0 ex ah R H F s Q E} f m k=>Internal.newD f.ok m.st λa s' i g=>by
 refine oA (q6 i g) λh d=>?_
 exact k _ _ H _ s' ((Sub.refl _).upd h) (Sub.refl _) (λb q=>aa (show b=a from q) h) (m.vj f (Sub.refl _) h (λR' e=>dc a 0 rfl e rfl (λj q=>(by injection q))) d)⟩
theorem bb.GA{np:Pos}(g:Glob V "dict" (.type "dict"))(h:Ev V e (fW ρ) (.dict es))(hz:es.length<=2^24)(hp:autoParam (Plain [e]) aU):bb V (.Call (.Name "dict" np) [e] [] pos) ρ (.own (.dict iF es)):=⟨λ{c A env R0 ex ah R H F s Q E} f m k=>by
 refine ow g hp (aZ.one h) (m.pre f) m.st m.ja λvs w r d O a=>(ak O.one λv C D=>?_);obtain rfl:=C;refine aV D.lT λl ep B S=>?_
 obtain rfl:=B;refine aB (a.dictAt S) λkvs P z N=>?_
 have t:kvs.length<=cB:=by have:=congrArg hU z;rw[aw,aw] at this;(refine aa this ?_;refine aa bW ?_);exact hz
 refine kt_call_dict N P.dictOf t λh' T hs=>(AH T λo W u U M L J I G=>?_);have n:=a.keeps (h':=h') (tk:=r.toks) λb o' e=>(hs.2 b (d! (cZ e))).trans (gR _ e);have j:=a.grow (ao:=.dict (dA es) u) n U (jZ a.jr) (a.free f.ok (bD _)).2.2.2.1 (a.lR f.ok) a.iR (nl W kvs M L (λx x=>J) (λx x=>B9 I) G z) (a.tH (bD _)) λp hp=>(hs.2 p.1 (d! (cZ ((ii a).mp hp).2))).trans (gR _ ((ii a).mp hp).2);refine oA (q6 a.cV j) λy i=>?_
 exact k _ _ w _ _ ((Sub.refl _).upd y) d (λb q=>by(refine aa (q) ?_);exact y) (m.vj f d y (λR' e=>dc _ u rfl e rfl (λx q=>nomatch q)) i)⟩
theorem au.qT(n:aM l x=wf (.own (.dict o es)))(h:au V ts ((x,.fz (.dict es))::l) fl l'):au V ts l fl l':=⟨λf m k=>by
 refine dQ m λah R H F low m=>(bJ (m.var x _ n) λav r a ep j i=>?_);obtain rfl:=j;refine a! i λg p e=>?_
 have d:H a=iF:=by
  cases q:H a with
  |none=>rfl
  |some z=>have:=m.st.aF a (by(refine aa q ?_);intro z;injection z);rw[g] at this;injection this
 have hs:Sub H (upd H a (.dict (dA es) ep)):=(Sub.refl _).upd d;have m':=m.jM (xv:=.fz (.dict es)) (G:=λe=>False) f hs (m.st.show g) r (λb c e=>ci (λq=>c (aa p (aa q rfl)))) (λb c=>c.elim) (.dict (ep:=ep) (am ..));rw[cJ] at m';exact h.run f (ei ah (del R a) (upd H a (.dict (dA es) ep)) _ (low.trans hs) m') k⟩
end
end
section
open Classical
theorem rn{α:Type}{vs:List α}(h:vs.length=1):∃a,vs=[a]:=Eh.mp h
theorem ro{α:Type}{vs:List α}(h:vs.length=2):∃a b,vs=[a,b]:=by
 match vs,h with
 |[a,b],_=>exact dT a b rfl
section
variable{c:Cx}{A:aD}{R:af}{ρ:Str->Option AV}{H:af}{s:ae}{E:ab->ae->Prop}
theorem va{l:Addr}{a b:Int}{Q:ab->ae->Prop}(I:A.handled=iF)(st:St c R ρ H s)(p:H l=wf (.tuple [.int a,.int b]))(h:∀t s',St c R ρ H s'->Q (.int (min a b) t) s'):al c.M A (call (.builtin "min") [.ref l]) Q E s:=by
 refine bJ (st.get p) λo q vs n D e=>?_
 obtain rfl:=D;have k:∃t u,vs=[.int a t,.int b u]:=by
  have p:vs.length=2:=by have:=congrArg hU e;rwa [aw] at this
  refine fM (ro p) λv w C=>?_
  obtain rfl:=C;rw[bq,bq,pZ,pZ] at e;refine oE (eM e.1) λt B=>?_
  obtain rfl:=B;obtain⟨u,rfl⟩:=eM e.2.1;exact dT t u rfl
 refine fM k λt u z=>?_
 obtain rfl:=z;have r:s.heap.IsTuple l (hX #[(a,t),(b,u)]):=lW _ q rfl n (by simp[hX]);have m:l<s.heap.objs.size:=cZ q;refine call_min_walk (wpAny_pyIter_tuple r ?_);refine DE _ [_,l] [_] _ _ _ _ rfl (Walks.tuple (A:=A.in1) I _ l (d! m) (hX #[(a,t),(b,u)])) ⟨aR _ (pV _ rfl) rfl rfl,r.push _⟩ (λx hx=>?_) (aC (by simp[hX]) (CmpOf.ints_lt (j5 #[(a,t),(b,u)]) (λy y=>intItems_at)) (λv h' tk J G=>?_))
 ·rw[nr];obtain rfl|hx:=aW.mp hx
  ·exact gc _
  (refine aa (aK.mp hx) ?_);exact ga m
 have g:=st.keeps (h':=h') (tk:=tk) λx o e=>G x o (λF=>GM (aK.mp F▸cZ e) (dz _)) (gR _ e);have f:(hX #[(a,t),(b,u)])[qd (λi j=>decide (j5 #[(a,t),(b,u)] i<j5 #[(a,t),(b,u)] j)) 1]?=wf v:=by(refine aa (show(1:Nat)=(hX #[(a,t),(b,u)]).size-1 by simp[hX]) ?_);exact J
 by_cases d:b<a
 ·have e:qd (λi j=>decide (j5 #[(a,t),(b,u)] i<j5 #[(a,t),(b,u)] j)) 1=1:=by simp[qd,j5,d]
  rw[e] at f;have k:v=.int b u:=by simpa[hX] using f.symm
  refine aa k ?_
  have:=h u _ g;rwa [show min a b=b by exact Qc d] at this
 have e:qd (λi j=>decide (j5 #[(a,t),(b,u)] i<j5 #[(a,t),(b,u)] j)) 1=0:=by simp[qd,j5,d]
 rw[e] at f;have k:v=.int a t:=by simpa[hX] using f.symm
 refine aa k ?_
 have:=h t _ g;rwa [show min a b=a by exact Qd d] at this
end
theorem bg.va{G:Gx}{n:Nat}{i j:Int}:bg G n (.builtin "min") [.tuple [.int i,.int j]] (.int (gT i j)):=⟨λ{c A R ah H s vs Q E} g ok h p st r k=>by
 refine ak r.one λv e f=>?_
 obtain rfl:=e;refine aV f.kG λl us d b=>?_
 obtain rfl:=d;obtain⟨o,m⟩:=b;have:us=[.int i,.int j]:=m.m6 (ns:=[i,j]);subst this;exact Internal.va h.handled st o λt s' a=>k _ H s' (Sub.refl _) (.int _) a⟩
theorem bj.zip{V:Vx}{ρ:Str->Option DV}{e b:Expr}{ds es:List DV}{np pos xp:Pos}{x:Str}(g:Glob V "zip" (.type "zip"))(h:Ev V e ρ (.list ds))(h':Ev V b ρ (.list es))(D:ds.length<=es.length)(hp:autoParam (Plain [e,b]) aU) :
  bj V (.Name x xp) (.Call (.Name "zip" np) [e,b] [] pos) ρ (pairD ds es):=⟨λ{c A env R ah H s Q E} p st w k =>
 ow g hp (aZ.two h h') p st w λvs t d i W a=>by
  refine aV W.two λv u P M=>?_
  obtain rfl:=P;obtain⟨U,T⟩:=M;refine aV U.toList λl us O z4=>?_
  obtain rfl:=O;obtain⟨G,z⟩:=z4;refine aV T.toList λl' y N L=>?_
  obtain rfl:=N;obtain⟨r,m⟩:=L;refine ak (a.list G) λws X ew=>(ak (a.list r) λS F X9=>?_);refine call_zip_2 X F λh' a1 a2 a3 a4 I a6 a7=>?_
  obtain⟨n,j⟩:∃n:Nat,n=d.heap.objs.size:=⟨_,rfl⟩;rw[<-j] at a1 a2 a3 a4 I a6 ⊢;have Y:∀q∈(AO.zip iF (n+2) (n+3) n (n+1) l l' 0).links,d.heap.objs.size<=q.1/\∃o,h'.get? q.1=wf o/\q.2.Is o:=λq B=>by
   refine ak a4 λo1 e1 e2=>(ak I λo2 g1 Z=>?_);refine lx B ?_ ?_ ?_ ?_
   ·exact jS (QA j) _ a2 rfl
   ·exact W? (QB j) _ a3 _ _ rfl
   ·exact jS (QC j) _ e1 e2
   exact jS (QE j) _ g1 Z
  have C:∀q∈(AO.zip iF (n+2) (n+3) n (n+1) l l' 0).links,q.1≠n+4:=λq B=>by
   refine lx B ?_ ?_ ?_ ?_
   ·exact QF
   ·exact QG
   ·exact QH
   exact QI
  refine a! (a.more (ao:=.zip iF (n+2) (n+3) n (n+1) l l' 0) (e:=n+4) (h':=h') p.ok a7 Y (show([n+2,n+3,n,n+1]:List Nat).Nodup by simp) (QJ j) C a1 (ar _ rfl (λJ=>rfl))) λf1 f2 f=>?_
  exact DJ a1 (k _ _ _ t _ (JW (TI:=n+2) (TO:=n+3) (i1:=n) (i2:=n+1) (l1:=l) (l2:=l') p.ok p.rm.handled (show(n+2:Nat)≠n+3 by exact QK) (show(n+2:Nat)≠n by exact QL) (show(n+2:Nat)≠n+1 by exact QM) (show(n+3:Nat)≠n by exact QN) (show(n+3:Nat)≠n+1 by exact QP) QQ D) ⟨iF,⟨rfl,(λJ q=>nomatch q),ar us G z,ar y r m⟩⟩ i f2 f)⟩
end
section
open Classical
structure gA(id:String)(ds as:List DV)(d:DV)(ds':List DV):Prop where
 run:∀{c:Cx} {A:aD} {R:af} {ah:Str->Option AV} {H:af} {s:ae} {a:Addr} {us:List AV} {vs:List ab} {Q:ab->ae->Prop} {E:ab->ae->Prop},H a=iF->St c R ah (upd H a (.list us)) s->aJ c.h₀ H us ds->aJ c.h₀ H (vs.map abs) as ->
  (∀v Dh s',Rep c.h₀ H (abs v) d->aJ c.h₀ H Dh ds'->St c R ah (upd H a (.list Dh)) s'->Q v s')->al c.M A (call (.builtin id) (.ref a::vs)) Q E s
theorem gA.remove{ns:List Int}{k:Int}(S:k∈ns)(hz:ns.length<=2^24):gA "list.remove" (ns.map DV.int) [.int k] .none ((ns.erase k).map DV.int):=⟨λ{c A R ah H s a us vs Q E} V st P T h=>by
 refine ak T.one λv J M=>?_
 obtain rfl:=J;obtain⟨t,rfl⟩:=M.toInt;have O:=P.m6;subst O;refine bJ (st.get (am ..)) λo w ws n I e=>?_
 obtain rfl:=I;have B:=intsAre_of e;have x:=B.length;have l:∀m (G:m<ws.toArray.size) (D:m<ns.length),rg k ws.toArray[m]=(ns[m]==k):=λm G D=>by
  refine oE (rf B m (G) D) λu C=>?_
  rw[List.getElem_toArray,C];rfl
 obtain⟨j,b⟩:∃j,ns.idxOf k=j:=⟨_,rfl⟩;have z:=b▸List.idxOf_lt_length_of_mem S;have U:ns[j]=k:=by subst b;exact List.getElem_idxOf z
 have C:∀m (g:m<ns.length),m<j->ns[m]≠k:=λm g d q=>by have:=List.not_of_lt_findIdx (p:=(·==k)) (xs:=ns) (i:=m) (by show m<ns.idxOf k;(refine aa b ?_);exact d);simp[q] at this
 refine th PySem.F.slot_list_remove (ar _ w rfl) PySem.F.entry_list_remove (PySem.F.args_list_remove_2 _ _) (PySem.MeetsSeq.list_remove a ws.toArray n (.int k t) (rg k) (λy N=>?_) j (aa dh (aa x z)) (by(refine aa (l j _ z) ?_;refine aa U ?_);exact FB rfl) (λm g d=>by(refine aa (l m g (by rw[dh,x] at g;exact g)) ?_);simpa using C m _ d) (aa dh (aa x (aa bW hz)))) ⟨w,?_⟩
 ·refine fM (zM B (y:=y) (by simpa using N)) λm L r=>?_
  obtain rfl:=r;exact PySem.MeetsSeq.EqGives.int m k L t
 have q:=PySem.IsL.update (w) λxs=>xs.eraseIdxIfInBounds j;have f:=st.set (tk:=s.toks) (ao':=.list ((ns.erase k).map AV.int)) (am ..) (l6 ..) q (a_ (ws.eraseIdx j) _ (by rw[<-List.eraseIdxIfInBounds_toArray]) ?_)
 ·rw[g_] at f;exact h .none _ _ .none (aJ.ints _) f
 rw[List.erase_eq_eraseIdx_of_idxOf b,nz,nz,bf,bf,nD,nB,nD,nB,e]⟩
theorem gA.pop{ds:List DV}{d:DV}(hz:ds.length<2^24):gA "list.pop" (ds++[d]) [] d ds:=⟨λ{c A R ah H s a us vs Q E} n st g k h=>by
 have f:vs=[]:=by have:=k.length;rw[aw] at this;exact iv this
 refine aa f ?_
 have b:=g.length;replace b:=cA▸b;obtain⟨p,y,rfl⟩:∃p y,us=p++[y]:=by
  refine cg (w? us) (λi=>?_) (λj=>fM j λp y i=>?_)
  ·subst i;simp at b
  exact dT p y (by(refine aa i ?_);simp)
 have hp:p.length=ds.length:=by simpa using b
 have m:aJ c.h₀ H p ds:=by have:=g.take p.length;rwa [Ep,hp,Ep] at this
 have l:=g.at' p.length y d (by simp) (by(refine aa hp ?_);simp);refine v3 st (am ..) (aa hp (aa bW hz)) λv s' f e=>?_
 rw[g_] at e;exact h v p s' (aa f l) m e⟩
theorem gA.G_{ds es:List DV}(hz:ds.length+es.length<=2^24):gA "list.extend" ds [.tuple es] .none (ds++es):=⟨λ{c A R ah H s a us vs Q E} z st m B h=>by
 refine ak B.one λv w y=>?_
 obtain rfl:=w;refine aV y.kG λl ws u r=>?_
 obtain rfl:=u;obtain⟨k,f⟩:=r;have j:l≠a:=λq=>by rw[q,z] at k;injection k
 refine bJ (st.get (am ..)) λo i xs n t e=>?_
 obtain rfl:=t;obtain⟨o',g,ys,n',rfl,p⟩:=st.get (by(refine aa (aj j) ?_);exact k);have l1:xs.length=ds.length:=by rw[<-m.length,<-e,aw]
 have l2:ys.length=es.length:=by rw[<-f.length,<-p,aw]
 have b:xs.toArray.size+ys.toArray.size<=cB:=aa dh (aa dh (aa l1 (aa l2 (aa bW hz))));refine th PySem.F.slot_list_extend (ar _ i rfl) PySem.F.entry_list_extend (PySem.F.args_list_extend_2 _ _) (PySem.AutoSeq1.list_extend_list_tuple_0 a xs.toArray n l ys.toArray n' (extend_door b) (Bp b) (Bq b)) (aC i g ?_);have q:=PySem.IsL.update (i) λx=>x++ys.toArray;have d:=st.set (tk:=s.toks) (ao':=.list (us++ws)) (am ..) (l6 ..) q (a_ (xs++ys) _ (by rw[<-D!]) (aa bf (aa e (aa p rfl))));rw[g_] at d;exact h .none _ _ .none (m.append f) d⟩
theorem Kz(l b:Addr)(c a:Array ab)(n m:Nat)(k:Option Addr)(e:Array (Option ab))(o:¬(!c.isEmpty&&Builtin.List.listTooLong (c.size+a.size))=true)(j:c.size<=cB)(i:c.size+a.size<=cB+1) :
  Meets (l5.«list.extend» ⟨[.ref l,.ref b],[]⟩) (λp R s=>s.heap.get? l=wf { cls:=.type "list",dict:=iF,data:=.seq c n,slots:=#[] }/\s.heap.get? b=wf { cls:=.type "list",dict:=k,data:=.seq a m,slots:=e }/\R (.ok (.ret Value.none)) { s with heap:=s.heap.update l (Obj.mapSeq λx=>x++a),toks:=s.toks }) :=
 .of_wp λprog w A R s h=>by
  obtain⟨hp,g,d,tk,os⟩:=s;obtain⟨hl,hb,h⟩:=h;have u:=PySem.AutoSeq1.idx_int;have f2:=PySem.AutoSeq1.sub_tuple_tuple;have t:=PySem.AutoSeq1.sub_list_list;have r:=PySem.AutoSeq1.sub_tuple_list;have q:=PySem.AutoSeq1.sub_list_tuple;have f:(c++a).size<=cB+1:=aa Array.size_append i
  wp_walk using(wpAny_updateSeq hl rfl (hz:=j) (_hz':=f)),PySem.AutoSeq1.wpAny_loadPart' hl,PySem.AutoSeq1.wpAny_loadPart' hb
  exact ar _ rfl h
theorem gA.G?{ds es:List DV}(hz:ds.length+es.length<=2^24):gA "list.extend" ds [.list es] .none (ds++es):=⟨λ{c A R ah H s a us vs Q E} G st r I h=>by
 refine ak I.one λv C D=>?_
 obtain rfl:=C;refine aV D.toList λl ws B u=>?_
 obtain rfl:=B;obtain⟨b,i⟩:=u;refine bJ (st.get (am ..)) λo k xs n y e=>?_
 obtain rfl:=y;have m:l≠a:=λq=>by
  obtain b|⟨_,⟨_,b,_⟩,_⟩:=b
  ·rw[q,G] at b;injection b
  obtain⟨_,_,_,_,z,_⟩:=st.own a _ (am ..);rw[q,z] at b;injection b
 refine ak (st.list (b.imp (λw=>aa (aj m) w) id)) λys d t=>?_
 obtain⟨⟨cl,p,J,sl⟩,j,rfl,n',rfl⟩:=d;have l1:xs.length=ds.length:=by rw[<-r.length,<-e,aw]
 have l2:ys.length=es.length:=by rw[<-i.length,<-t,aw]
 have f:xs.toArray.size+ys.toArray.size<=cB:=aa dh (aa dh (aa l1 (aa l2 (aa bW hz))));refine th PySem.F.slot_list_extend (ar _ k rfl) PySem.F.entry_list_extend (PySem.F.args_list_extend_2 _ _) (Kz a l xs.toArray ys.toArray n n' p sl (extend_door f) (Bp f) (Bq f)) (aC k j ?_);have q:=PySem.IsL.update (k) λx=>x++ys.toArray;have g:=st.set (tk:=s.toks) (ao':=.list (us++ws)) (am ..) (l6 ..) q (a_ (xs++ys) _ (by rw[<-D!]) (aa bf (aa e (aa t rfl))));rw[g_] at g;exact h .none _ _ .none (r.append i) g⟩
theorem a9.rv{V:Vx}{x name:Str}{id:String}{px ap pos:Pos}{args:List Expr}{ρ eP:b_}{ds₀ ds₁ ds' as:List DV}{d:DV}(f:Slot "list" name id)(t:typeOf (.builtin id)=pure (.type "method_descriptor"))(I:ρ x=wf (.own (.list ds₀)))(O:jn V args ρ as eP)(b:eP x=wf (.own (.list ds₁)))(G:gA id ds₁ as d ds')(M:autoParam (oh (.Name x px) name ap args pos) aU)(hp:autoParam (Plain args) aU):a9 V (.Call (.Attribute (.Name x px) name ap) args [] pos) ρ d (putN eP x (.own (.list ds'))):=⟨λ{c A env R0 ex ah R H F s Q E} j m K=>by
 refine iX (m.mut j I) λa vs w C C n C=>?_
 obtain⟨pl,N⟩:=M env;refine dX (c:=c) (pl:=pl) (ik m.st j.fn (j.g! w) w λv r=>?_) N;refine aa (ed r) ?_
 refine gI n (am ..) f t (cw (c:=c) (O.go j m λvs R' H' S s' hs D L m'=>⟨trivial,?_⟩) (hp env));refine iX (m'.mut j b) λP us fh u h o k=>?_
 (replace fh:=(D _ _ w)▸fh);cases fh;refine G.run h o u L λv l g r J e=>(aV (k l ds' H' g J (Sub.refl _) h e) λz B i p=>?_);exact K v z H' B g hs (λy av q=>i y av (D y av q)) r p⟩
end
section
open Classical
section
variable{V:Vx}{l l' l₁ l₂:Nm}{e e0 i:Expr}{x name:Str}{xv:XV}{d:DV}{ds:List DV}{es es':List (Int×Int)}{o:Option Addr}{pos px np ap sp:Pos}{ρ ρ' eP:b_}{σ dU:ca}{f:Addr}{ns:List Int}{k:Int}
theorem Ex.listOf(g:Glob V "list" (.type "list"))(h:a9 V e (aM l) (.tuple ds) ρ')(M:ρ'=aM l₁)(hz:ds.length<=2^24)(E:isVar V.T x=true)(hp:autoParam (Plain [e]) aU)(hs:autoParam (∀env:Env,env.scope.names=V.T->iH (.Call (.Name "list" np) [e] [] pos) (wf (.Name x px)) sp.line env=pure false) aU) :
  Ex V (.Assign [.Name x px] (.Call (.Name "list" np) [e] [] pos) sp) l .next ((x,.own (.list ds))::l₁):=⟨λ{c A env R0 H0 s Q} f m k=>by
 refine dQ m λah R H F low m=>(dI (eU (g.name (m.pre f) m.st (cw (c:=c) (h.run f m λv R' H' U s' O P G m'=>⟨trivial,?_⟩) (hp env)))) (hs _ f.tab));refine aV G.kG λt us D z4=>?_
 obtain rfl:=D;obtain⟨L,j⟩:=z4;refine bJ (m'.st.get L) λS I vs n C e=>?_
 obtain rfl:=C;have o:vs.length=ds.length:=by rw[<-j.length,<-e,aw]
 refine call_list_seq t (.inr rfl) I rfl rfl (λh' c' z J=>?_) (aa dh (aa o (aa bW hz)));have d:=m'.st.keeps (h':=h') (tk:=s'.toks) z;have b:=m'.st.grow (ao:=.list us) d J (jZ m'.st.jr) (m'.st.free f.ok (bD _)).2.2.2.1 (m'.st.lR f.ok) m'.st.iR (a_ vs c' rfl e) (m'.st.tH (bD _)) λp hp=>z _ _ ((ii m'.st).mp hp).2;refine oA (q6 m'.st.cV b) λN a=>((m'.vj (xv:=.own (.list ds)) f (Sub.refl _) N (λB q=>dc _ us rfl q j rfl) a).store f E λi w y r u=>k r (ei i w H' y (low.trans O) ?_));(refine az cJ ?_;refine az M ?_);exact u⟩
theorem a9.Ak(hK:V.G.K=KP V.G.w.params)(T:ρ x=wf (.own (.dv σ)))(h0:bK V e0 ρ (.int k))(he:Ev V e (hN ρ) (.list (ns.map DV.int)))(hz:ns.length<=2^24)(act:kY V.G V.n f σ (.int k::ns.map DV.int) dU d)(y:xP name f)(hm:autoParam (E3 (.Name x px) name ap [e0,.Starred e sp] pos) aU)(W:autoParam (∀env,ck [e0,.Starred e sp] env=[(false,eval e0 env),(true,eval e env)]) aU) :
  a9 V (.Call (.Attribute (.Name x px) name ap) [e0,.Starred e sp] [] pos) ρ d (putN ρ x (.own (.dv dU))):=⟨λ{c A env R0 ex ah R H F s Q E} r m K=>by
 refine bJ (m.var x _ T) λav L τ l y3 zz=>?_
 obtain rfl:=y3;refine aa (hm env) ?_
 refine aG (ik m.st r.fn (r.g! L) L λv hv=>?_);refine aa (ed hv) ?_
 refine aG (j7 ?_);refine aG (fS (aG (m.bound hK r T L y.hf y.ht y.hg y.hh y.uE y.I? y.hc y.hn λq eT dL C hq J=>bH ?_)));have Z:ck [e0,.Starred e sp] env=(false,eval e0 env)::ck [.Starred e sp] env:=by(refine aa (W env) ?_);rfl
 have e2:ck [.Starred e sp] env=[(true,eval e env)]:=by rfl
 show al _ _ (gx pos (.ref q) [] (e9 pos (ck [e0,.Starred e sp] env)) []) _ _ _;refine aa Z ?_
 refine ks_call (P:=MethP c.G.K q f (.ref τ.self)) (by(refine aa e2 ?_);rfl) (λh x=>keeps_M (by(refine aa r.G ?_;refine aa hK ?_);exact y.q0 _) h x) (evalArgs_plain ?_);show al _ _ (spliced (e9 pos ((false,eval e0 env)::ck [.Starred e sp] env))) _ _ _;refine az Z ?_
 refine args_cons (h0.run r J λu qr cF p B b=>?_) Z;refine items_star ?_ e2
 refine he.run (b.pC r) b.st.shown (b.view r) λv H' s' hs hr O=>(ak hr.i? λa N hl=>?_);obtain rfl:=N;refine Wm O hl (by rw[aw,bW];exact hz) λvs I U D=>args_nil (oA (b.st.hidden b.seen hs D) λz g=>?_);have i:=b.grow g z;refine ak (i.st.get (g.le _ _ (p.le _ _ hq))) λo ho hi=>?_
 have hi:=hi;subst hi;refine⟨⟨ho,i.st.u7 r.ok⟩,?_⟩;refine jk (method_call ho ?_);refine oE ((B c.h₀ λzz=>iF).toInt) λt M=>?_
 obtain rfl:=M;have j:aJ c.h₀ (λzz=>iF) ((Value.int k t::(vs++[])).map abs) (.int k::ns.map DV.int):=by rw[dw,bq,U];exact .cons (.int k) (aJ.ints ns)
 exact Fs.E? act r i T L j λv h9 de qp I X Y j S=>K v h9 de qp I ((C.trans p).trans (g.trans X)) Y j S⟩
structure j8(G:Gx)(n:Nat)(f:Addr)(es:List (Int×Int))(ds:List DV)(es':List (Int×Int))(d:DV):Prop where
 run:∀{c:Cx} {A:aD} {R:af} {ah:Str->Option AV} {H:af} {s:ae} {vs:List ab} {a:Addr} {ep:Nat} {Q:ab->ae->Prop} {E:ab->ae->Prop},c.G=G->c.Ok->bL c A n->b8 R c.outer->St c R ah H s->H a=wf (.dict (dA es) ep) ->
  aJ c.h₀ (λzz=>iF) (vs.map abs) ds->(∀v H' k_ s',(∀b ao,b≠a->H b=wf ao->H' b=wf ao)->H' a=wf (.dict (dA es') k_)->Rep c.h₀ (λzz=>iF) (abs v) d->St c R ah H' s'->Q v s')->al c.M A (call (.ref f) (.ref a::vs)) Q E s
theorem a9.Gc(g:Glob V name (.ref f))(hx:ρ x=wf (.own (.dict o es)))(hi:bK V i ρ (.int k))(act:j8 V.G V.n f es [.int k] es' d)(hp:autoParam (Plain [.Name x px,i]) aU) :
  a9 V (.Call (.Name name np) [.Name x px,i] [] pos) ρ d (putN ρ x (.own (.dict o es'))):=⟨λ{c A env R0 ex ah R H F s Q E} h m K=>by
 refine bJ (m.var x _ hx) λav L a ep y2 N=>?_
 obtain rfl:=y2;refine a! N λhR hF ho=>(eU (g.name (m.pre h) m.st (cw (c:=c) (ik m.st h.fn (h.g! L) L λv S=>?_) (hp env))));refine aa (ed S) ?_
 refine hi.run h m λu J Z y p e=>⟨g.i7 (e.pre h) e.st,?_⟩;refine rI (e.var x _ hx) λav h2 a' k_ W t D T=>?_
 rw[L] at h2;(replace h2:=ax h2;subst h2);(injection W with W;subst W);refine a! (e.rB (xv:=.own (.dict o es)) h L t D) λhn O I=>(act.run (vs:=[u]) h.G h.ok h.rm (λenv he=>?_) O (am ..) (.cons (p _ _) .nil) λv H' l B hk ha S z=>?_)
 ·refine fj (h.fi env he) λz1 b r N M=>?_
  exact lV z1 b r N (aa (ci (λq=>by rw[q,(e.foot (wf x) a (aa D rfl)).2.1] at M;injection M)) (e.base b _ M))
 have j:Sub J (del H' a):=⟨λb ao q=>by
  have U:b≠a:=λw=>by rw[w,hn] at q;injection q
  (refine aa (ci U) ?_);exact hk b ao U (aa (aj U) q)⟩
 refine aV (I (.dict (dA es') l) (.own (.dict o es')) (del H' a) B (λR' t=>dc a l rfl t rfl T) j (ia ..) (aa (sw ha) z)) λX Y C P=>?_
 exact K v X _ Y B (y.trans j) C (S.mono ⟨λzz zz q=>by injection q⟩) P⟩
theorem j8.fn{G:Gx}{n:Nat}{fs:Stmt}{qual:Str}{dV kV aA:ab}{ps:List Str}{y:Str}{P:Option (Addr×Str)}(U:gy G qual aA P)(Z:di G.K f fs qual dV kV aA)(fo:hZ (aH fs) (y::ps))(e:∀vs:List ab,vs.length=(y::ps).length->∀doc pm an ct S,peek G.K S (e! (gF fs qual dV kV doc pm an aA ct) ⟨vs,[]⟩)=wf ((y::ps).zip vs))(O:ps.length=ds.length)(M:∀d∈ds,d.scalar=true)(T:d.scalar=true)(body:∀a,∃l',au ⟨G,n,(aH fs).names,P⟩ (bodyOf fs) ((y,.own (.dict (wf a) es))::ps.zip (ds.map XV.fz)) (.ret (.fz d)) l'/\aM l' y=wf (.own (.dict (wf a) es'))):j8 G (n+1) f es ds es' d:=⟨λ{c A R ah H s vs a ep Q E} V ok F dj st u t k=>by
 refine ak (body a) λl' body J=>?_
 have r:=(dq.mp fo.Cf).1;have g:vs.length=ps.length:=by have:=t.length;rw[aw] at this;(refine aa this ?_;exact aa O rfl)
 have W:(λb=>∃z:Str,(λz b=>z=y/\b=a:Str->Addr->Prop) z b)=(·=a):=funext λb=>propext ⟨λ⟨_,_,q⟩=>q,λq=>ar y rfl q⟩;refine tU (vs:=.ref a::vs) (xvs:=.own (.dict (wf a) es)::ds.map XV.fz) (Fp:=λz b=>z=y/\b=a) U Z fo (e _ (congrArg (·+1) g)) (congrArg (·+1) g) body V ok F dj st (λz b q=>by(refine aa q.2 ?_;refine aa u ?_);intro w;injection w) (λz w b n q I=>n (q.1.trans I.1.symm)) (λz xv q=>?_) λv B C h s' hs L m N hD l=>?_
 ·rw[xt] at q ⊢;unfold aM at q;rw[cP] at q;refine k9 (x:=z==y) (λe=>?_) (λe=>?_)
  ·
   rw[e] at q;(replace q:=ax q;subst q);refine aa (beq_iff_eq.mp e) ?_
   exact Xc (.ref a) (.head _) a ep rfl u (funext λb=>propext ⟨λq=>q.2,λq=>⟨rfl,q⟩⟩) (λb q=>ax q)
  ·
   replace q:=e▸q;refine dP (wN t q) λv d' Y j X=>?_
   obtain rfl:=j;exact ar v (.tail _ Y) (X.mono ⟨λD D q=>by injection q⟩)
 replace hs:=W▸hs;refine rL (m y _ J) λav a' p e1 e2 e3 e4=>?_
 have:=e4 a rfl;subst this;have o:h (wf y) a':=by(exact aa e3 rfl)
 refine k v _ p s' (λb ao e q=>?_) ?_ (Rep.any L T) l
 ·have:=hs.le b ao (by unfold aN;(refine aa (Da e) ?_);exact q);(refine aa (Da (λ⟨i,z⟩=>by rw[(N i b z).1] at this;injection this)) ?_);exact this
 (refine aa (FB ⟨_,o⟩) ?_);exact e2⟩
end
end
section
open Classical
def my(s:ae)(k:Int)(v:ab)(s':ae):Prop:=∃h' tk t,s'={ s with heap:=h',toks:=tk }/\v=.int k t/\∀b o,s.heap.get? b=wf o->h'.get? b=wf o
theorem my.ends{a:Heap}{L:Addr}{m:Str->Option ab}{b:List (Addr×Obj)}{s s':ae}{k:Int}{v:ab}(F:Fr a L s.heap m)(N:News a L s.heap b)(q:my s k v s'):KskEnd a L m b k s v s':=by
 refine pg q λh' tk t e d=>?_
 obtain rfl:=e;obtain⟨rfl,c⟩:=d;exact pR h' tk t rfl rfl (F.keeps c) (N.grown c)
section
variable{prog:jf}{w:World}{A:aD}{E:ab->ae->Prop}{s:ae}{name qual x:Str}{params:gQ}{body:Expr}{scope:bS}{bw:List (Str×Addr)}{pm v cC:ab}{g c':Addr}{k:Int}
theorem zY(i:A.depth<j6)(G:s.heap.NoLimit)(F:s.heap.get? g=wf (qh name qual params body scope bw pm c' cC))(r:s.heap.CodeRec (.ref c') qual)(I:e! (kP name qual params body scope bw pm (.ref c') cC) ⟨[v],[]⟩=pure [(x,v)])(D:scope.names.lookup x=wf .local)(c:∀y∈scope.names,y.2≠.cell)(q:scope.isCoroutine=false)(f:scope.isGenerator=false)(H:scope.kind=.function)(h:∀h₁ tk,h₁.Ns s.heap.objs.size (λy=>[(x,v)].reverse.lookup y)->(∀b o,s.heap.get? b=wf o->h₁.get? b=wf o) ->al (gW prog w) (A.deeper (envX qual scope s.heap.objs.size g (.ref c') bw)) (eval body (envX qual scope s.heap.objs.size g (.ref c') bw)) (my { s with heap:=h₁,toks:=tk } k) (λd d=>False) { s with heap:=h₁,toks:=tk }) :
  al (gW prog w) A (call (.ref g) [v]) (my s k) (λd d=>False) s:=by
 refine jk (kla_callFunE i F rfl q f rfl r ?_);refine aa I ?_
 refine bH (EM c (λy C=>by(refine aa (aK.mp C) ?_);exact D) (λh₁ n m=>?_) H);have a:∀b o,s.heap.get? b=wf o->h₁.get? b=wf o:=λb o e=>m.extBut b o (d! (cZ e)) (gR _ e)
 refine⟨G.keeps a,kla_codeExpr (bx (h h₁ _ n a) (λu B E=>?_) λd d z=>z.elim)⟩;refine pg E λh' tk t l j=>?_
 obtain rfl:=l;obtain⟨rfl,p⟩:=j;exact sA h' tk t rfl rfl (λb o e=>p b o (a b o e))
theorem Lv{env:Env}{m:Str->Option ab}{t:Tok}{xp up:Pos}(f:env.scope.kind=.function)(b:env.kindOf x=wf .local)(d:s.heap.Ns env.locals m)(c:m x=wf (.int k t))(g:(x==("__debug__":Str))=false) :
  al (gW prog w) A (eval (.UnaryOp .USub (.Name x xp) up) env) (my s (-k)) (λa a=>False) s :=
 UnaryOp_ (nY (n7 f b d c (P.neg_int (sA s.heap _ _ rfl rfl (λa a e=>e)))) g)
theorem Jm{env:Env}{y:Str}{m:Str->Option ab}{t:Tok}{xp yp ip:Pos}{b d:Addr}{kvs:List (Int×ab)}{i:Int}(j:env.scope.kind=.function)(o:env.kindOf x=wf .local)(r:s.heap.Ns env.locals m)(p:m x=wf (.int i t))(v:(x==("__debug__":Str))=false)(n:env.kindOf y=wf .free)(z:env.cells.lookup y=wf b)(f:s.heap.IsCell b (wf (.ref d)))(c:(y==("__debug__":Str))=false)(g:(y==("__classdict__":Str))=false)(h:s.heap.DictOf (fR prog w) d kvs)(hi:∃u,kU kvs i=wf (.int k u))(hs:∀l t,gZ (.Name x xp) false (.ref l) (.int i t)=gX [.ref l,.int i t] (gV (.ref l) (.int i t))) :
  al (gW prog w) A (eval (.Subscript (.Name y yp) (.Name x xp) ip) env) (my s k) (λa a=>False) s:=by
 refine oE hi λu q=>(jg (nY (EL j n z f (nY (n7 j o r p ?_) v) g) c));exact qm h.mapOf.typeIs slot_dict_getitem.lookup (wpAny_getItem_of (ji _ _ i t) h.mapOf q (sA s.heap _ _ rfl rfl (λa a e=>e))) (hs d t)
end
section
variable{c:Cx}{A:aD}{R:af}{ρ:Str->Option AV}{H:af}{s:ae}{E:ab->ae->Prop}{q x:Str}{params:gQ}{body:Expr}{scope:bS}{bw:List (Str×Addr)}{g c':Addr}
theorem St.zX(ok:c.Ok)(st:St c R ρ H s)(d:H g=wf (g9 "<lambda>" q params body scope bw c')):∃pm cC,∀h,News c.h₀ c.L h st.nw->h.get? g=wf (qh "<lambda>" q params body scope bw pm c' cC)/\h.CodeRec (.ref c') q:=by
 refine vz (st.get d) λo k pm cC f=>?_
 obtain rfl:=f;have e:=st.gO.link g _ (c',fc q) (.inl d) (.head _);refine aB (st.gO.own _ _ e) λi b a m=>(aV a λvs t l j=>?_);exact dT pm cC (λh N=>W_ ((N _ (st.kr d k)).1) c' i vs t rfl ((N _ (st.o0 e b)).1) l j)
theorem sj{l:Addr}{ns ms:List Int}{xp up:Pos}{Q:ab->ae->Prop}(ok:c.Ok)(rm:bL c A 4)(st:St c R ρ H s)(w:H g=wf (g9 "<lambda>" q params (.UnaryOp .USub (.Name x xp) up) scope bw c'))(hl:b9 c H l (ns.map AV.int))(S:ns.length<64)(hb:∀v pm cC,e! (kP "<lambda>" q params (.UnaryOp .USub (.Name x xp) up) scope bw pm (.ref c') cC) ⟨[v],[]⟩=pure [(x,v)])(V:scope.names.lookup x=wf .local)(i:∀y∈scope.names,y.2≠.cell)(P:scope.isCoroutine=false)(u:scope.isGenerator=false)(X:scope.kind=.function)(hd:(x==("__debug__":Str))=false)(hp:ms.Perm ns)(hs:ms.Pairwise (·≥·))(h:∀D s',H D=iF->St c R ρ (upd H D (.list (ms.map AV.int))) s'->Q (.ref D) s'):al c.M A (call (.builtin "sorted") [.ref l] [(Str.ofString "key",.ref g)]) Q E s:=by
 refine ak (st.list hl) λvs hL e=>(ak st.oF λm F kb=>?_);refine fM (st.zX ok w) λpm cC la=>(ksk_letter (λn=>-n) F st.news hL (intsAre_of e) S (ksk_s1 _ _) (λx=>ksk_l1 _ _) (λa=>ksk_t1 g a) (λn t N tk own hn B j=>?_) λD C I ep h' tk B j r hI W f J d=>?_)
 ·obtain⟨a1,a2⟩:=la N λp hp=>j p (b? _ hp);refine bx (zY (s:={ s with heap:=N,toks:=tk }) (k:=-n) (by have:=rm.depth;exact Br this) (ok.T.nolimit.keeps B.keep) a1 a2 (hb _ _ _) V i P u X λh₁ Z L df=>?_) (λv s' hq=>hq.ends B j) λd d z=>z;exact Lv (env:=envX q scope N.objs.size g (.ref c') bw) (t:=t) X V L (by simp) hd
 have U:=j _ (.head _);have O:=AB st r;have e2:I=ms:=(f.trans hp.symm).eq_of_pairwise (λa b d d h1 h2=>wW (by simpa using h2) (by simpa using h1)) J (hs.imp λh=>by simpa using h);subst e2;have h3:3<D:=by refine dD (st.own _ _ w) λd d d d d Y=>(ak (st.get w) λo ho d=>?_);exact hW Y (r _ (st.kr w ho))
 have G:St c R ρ H { s with heap:=h',toks:=tk }:=kb B λp hp=>j p (sW _ hp);exact h D _ O.1 (st.grow G U.1 U.2.1 U.2.2 h3 O.2.1 (a_ C ep rfl (vB hI)) O.2.2 λp hp=>(j p (.tail _ hp)).1)
theorem GN{h:Heap}{d:Addr}{o:Obj}{es:List (Int×AV)}{ep:Nat}{p:jf}{w:World}(e:h.get? d=wf o)(i:xR es ep o):∃kvs:List (Int×ab),h.DictAt (fR p w) d kvs ep/\kvs.map (λp=>(p.1,abs p.2))=es:=by
 refine rJ i λds kvs j g f c b a=>?_
 exact ar kvs (nl o ds e j g (f _ _) (c _ _) b) a
theorem minKey{l b d:Addr}{ns:List Int}{M:Int}{y:Str}{es:List (Int×Int)}{ep:Nat}{κ:Int->Int}{xp yp ip:Pos}{Q:ab->ae->Prop}(ok:c.Ok)(rm:bL c A 4)(st:St c R ρ H s)(hg:H g=wf (g9 "<lambda>" q params (.Subscript (.Name y yp) (.Name x xp) ip) scope bw c'))(r:b9 c H l (ns.map AV.int))(jC:ns≠[])(V:R b=wf (.cell (wf (.ref d))))(hd:R d=wf (.dict (dA es) ep))(oV:∀n∈ns,es.lookup n=wf (κ n))(lh:bw.lookup y=wf b)(D:∀v pm cC,e! (kP "<lambda>" q params (.Subscript (.Name y yp) (.Name x xp) ip) scope bw pm (.ref c') cC) ⟨[v],[]⟩=pure [(x,v)])(hx:scope.names.lookup x=wf .local)(hy:scope.names.lookup y=wf .free)(B:∀y∈scope.names,y.2≠.cell)(uC:scope.isCoroutine=false)(U:scope.isGenerator=false)(hk:scope.kind=.function)(km:(x==("__debug__":Str))=false)(uD:(y==("__debug__":Str))=false)(uA:(y==("__classdict__":Str))=false)(hs:∀i l t,gZ (.Name x xp) false (.ref l) (.int i t)=gX [.ref l,.int i t] (gV (.ref l) (.int i t)))(hM:∀(i:Nat) M',ns[i]?=wf M'->(∀(j:Nat) v,ns[j]?=wf v->κ M'<=κ v/\(j<i->κ M'<κ v))->M'=M)(h:∀t s',St c R ρ H s'->Q (.int M t) s'):al c.M A (call (.builtin "min") [.ref l] [(Str.ofString "key",.ref g)]) Q E s:=by
 refine ak st.oF λm F kb=>(fM (st.zX ok hg) λpm cC la=>?_);refine il (st.dk V) λob IS vb uS P=>(ak (st.dk hd) λod IT Iw=>?_);refine ak (st.list r) λvs hL e=>?_
 have hI:=intsAre_of e;have a:=hI.length;refine ak (bu.mp P) λYT O N=>?_
 obtain rfl:=ed N;subst O;refine kmk_min (λi=>κ (ns.getD i 0)) rm.handled F st.news (λY L J=>?_) (by(refine aa a ?_);exact List.length_pos_iff.mpr jC) (λi v hv Y tk own L J=>?_) λi v h' YS hv C L J=>?_
 ·refine ak hL λo e1 e2=>?_
  obtain r|⟨_,⟨o',r,_⟩,_⟩:=r
  ·exact ar _ ((J _ (st.kr r e1)).1) e2
  have W:=F.keep _ _ r;(replace W:=e1▸W);(replace W:=ax W;subst W);exact ar _ (L.keep _ _ r) e2
 ·refine oE (dG.mp hv) λhi hv=>?_
  refine oE (rf hI i hi (Bm a hi)) λt et=>?_
  replace hv:=et▸hv;refine az hv ?_
  have ID:ns.getD i 0=ns[i]'(by omega):=by(refine aa jV ?_;refine aa (cz (by lia)) ?_);rfl
  refine aa ID ?_
  have I:=λp hp=>J p (b? _ hp);refine oA (la Y I) λa1 a2=>?_
  refine bx (zY (s:={ s with heap:=Y,toks:=tk }) (k:=κ (ns[i]'(by lia))) (by have:=rm.depth;exact Br this) (ok.T.nolimit.keeps L.keep) a1 a2 (D _ _ _) hx B uC U hk λh₁ f uJ S=>?_) (λv s' hq=>hq.ends L J) λzz zz z=>z;refine ak (GN (p:=c.G.prog) (w:=c.G.w) (S _ _ (I _ (st.inR hd IT)).1) Iw) λkvs hm ek=>(Jm (env:=envX q scope Y.objs.size g (.ref c') bw) (s:={ s with heap:=h₁,toks:=f }) (t:=t) (i:=ns[i]'(by lia)) (kvs:=kvs) hk hx uJ (by simp) km hy lh ⟨ob,S _ _ (I _ (st.inR V IS)).1,uS⟩ uD uA hm.dictOf ?_ (hs _));have:=oV _ (iy (show i<ns.length by lia));have hv:(kU kvs (ns[i]'(by omega))).map abs=wf (.int (κ (ns[i]'(by lia)))):=by rw[lU,ek,o9,this];rfl
  refine ak (bu.mp hv) λu Ja Jb=>(oE (eM Jb) λt' XB=>?_);obtain rfl:=XB;exact xE t' Ja
 refine oE (dG.mp hv) λhi hv=>?_
 refine oE (rf hI i hi (Bm a hi)) λt et=>?_
 replace hv:=et▸hv;refine az hv ?_
 have gd:∀j (X:j<ns.length),ns.getD j 0=ns[j]:=λj X=>by(refine aa jV ?_;refine aa (cz X) ?_);rfl
 have:=hM i (ns[i]'(by omega)) (cz (by lia)) λj v IM=>by
  refine oE (dG.mp IM) λX Z=>?_
  obtain rfl:=Z;have D:=C j (by lia);replace D:=(gd i (by lia))▸D;replace D:=(gd j X)▸D;exact D
 refine aa this ?_
 exact h t _ (kb L J)
end
end
section
open Classical
section
variable{V:Vx}{e b body:Expr}{x y:Str}{d:DV}{ds ds':List DV}{ρ:b_}{np pos lp kp xp yp up ip:Pos}{params:gQ}{scope:bS}{pa:Addr}{q:Str}{ns ms:List Int}{es:List (Int×Int)}{o:Option Addr}{M:Int}{κ:Int->Int}{kws:List pY}
def xQ(fn:Str)(np:Pos)(e:Expr)(params:gQ)(body:Expr)(scope:bS)(lp kp pos:Pos):Prop:=∀env,eval (.Call (.Name fn np) [e] [⟨wf "key",.Lambda params body scope lp,kp⟩] pos) env=(do gx pos (<-eval (.Name fn np) env) [] (e9 pos (ck [e] env)) (gw pos (eJ [⟨wf "key",.Lambda params body scope lp,kp⟩] env)))
theorem LF(h:∀p∈scope.names,p.2≠.free)(env:Env):qg scope env=pure []:=by
 have:cu env.cells scope.names []=[]:=by
  revert h;generalize scope.names=l;intro h;have:∀cs,cu env.cells l cs=cs:=by
   induction l with
   |nil=>intro cs;rfl
   |cons p r a =>
    intro cs;obtain⟨n,k⟩:=p;unfold cu;refine aa (Da (λw=>h (n,k) (.head _) (beq_iff_eq.mp w))) ?_
    exact a (λp hp=>h p (.tail _ hp)) cs
  exact this []
 refine aa (mH (λp hp w=>GM w (h p hp))) ?_;exact aa this rfl
theorem bb.sj(W:4<=V.n)(hP:V.P=wf (pa,q))(g:Glob V "sorted" (.builtin "sorted"))(h:Ev V e (fW ρ) (.list (ns.map DV.int)))(M:ns.length<64)(hp:ms.Perm ns)(hs:ms.Pairwise (·≥·))(U:scope.names.lookup x=wf .local)(b:(scope.names.all λy=>y.2 != .cell&&y.2 != .free)=true)(L:scope.isCoroutine=false)(B:scope.isGenerator=false)(Y:scope.kind=.function)(Z:(x==("__debug__":Str))=false)(C:autoParam (∀env,tm params env=([],[])) aU)(hb:autoParam (∀bw c' v pm cC,e! (kP "<lambda>" q params (.UnaryOp .USub (.Name x xp) up) scope bw pm (.ref c') cC) ⟨[v],[]⟩=pure [(x,v)]) aU)(r:autoParam (xQ "sorted" np e params (.UnaryOp .USub (.Name x xp) up) scope lp kp pos) aU)(J:autoParam (Plain [e]) aU) :
  bb V (.Call (.Name "sorted" np) [e] [⟨wf "key",.Lambda params (.UnaryOp .USub (.Name x xp) up) scope lp,kp⟩] pos) ρ (.fz (.list (ms.map DV.int))):=⟨λ{c A env R0 ex ah R H F s Q E} f m K=>by
 have b:=λy I=>by have:=eE.mp b y I;simpa using this
 refine qy (g.name (m.pre f) m.st (qF (c:=c) ?_ (J env) rfl rfl rfl)) (r env);refine h.run (m.pre f) m.st m.ja λv i O a u j=>(ak u.i? λl T X=>?_);obtain rfl:=T;refine(m.grow a j).lam f hP (C env) (LF (λp hp=>(b p hp).2) env) λgf c' N k d=>⟨trivial,?_⟩;have S:=(Sub.refl i).upd (o:=g9 "<lambda>" q params (.UnaryOp .USub (.Name x xp) up) scope [] c') k;refine Internal.sj f.ok (v? f.rm W) d.st (am ..) (X.imp (S.le _ _) id) M (hb _ _) U (λy I=>(b y I).1) L B Y Z hp hs λD s' hD G=>?_
 have t:=(Sub.refl (upd i gf (g9 "<lambda>" q params (.UnaryOp .USub (.Name x xp) up) scope [] c'))).upd (o:=.list (ms.map AV.int)) hD;have w:=d.grow t G;exact K _ R _ _ s' (Sub.refl _) (a.trans (S.trans t)) (λzz z=>GM rfl z.1) (w.jO (.lst (.inl (am ..)) (aJ.ints ms)))⟩
theorem bb.iL(P:bb V e ρ (.fz (.list ds)))(O:Ev V b (fW ρ) (.list ds'))(hz:ds.length+ds'.length<=2^24):bb V (.BinOp e .Add b pos) ρ (.fz (.list (ds++ds'))):=⟨λ{c A env R0 ex ah R H F s Q E} f m K=>by
 refine nX (P.run f m λv p r G B S T U g=>?_);have j:Rep c.h₀ r (abs v) (.list ds):=g.ext _ _ rfl;refine O.run (g.pre f) g.st g.ja λu q y d i h=>(aV j.toList λl vs L z4=>?_);obtain rfl:=L;obtain⟨N,C⟩:=z4;refine aV i.toList λl' us J I=>?_
 obtain rfl:=J;obtain⟨x,n⟩:=I;refine x? f.ok h (N.imp (d.le _ _) id) x (by(refine aa C.length ?_;refine aa n.length ?_;refine aa bW ?_);exact hz) λD s' M w=>?_
 have t:=(Sub.refl q).upd (o:=.list (vs++us)) M;have k:=(g.vm.grow (d.trans t) w).jO (av:=.ref D) (.lst (.inl (am ..)) (((C.mono d).append n).mono t));exact K _ p _ _ s' S (T.trans (d.trans t)) (λa z=>GM rfl z.1) k⟩
theorem a9.minKey(hn:4<=V.n)(hP:V.P=wf (pa,q))(g:Glob V "min" (.builtin "min"))(h:Ev V e (fW ρ) (.list (ns.map DV.int)))(jC:ns≠[])(hy:ρ y=wf (.own (.dict o es)))(hT:V.T.lookup y=wf .cell)(oV:∀n∈ns,es.lookup n=wf (κ n))(hM:∀(i:Nat) M',ns[i]?=wf M'->(∀(j:Nat) v,ns[j]?=wf v->κ M'<=κ v/\(j<i->κ M'<κ v))->M'=M)(hx:scope.names.lookup x=wf .local)(J:scope.names.lookup y=wf .free)(g8:(scope.names.map (·.1)).Nodup)(r:(scope.names.all λz=>z.2 != .cell&&(z.2 != .free||z.1==y))=true)(uC:scope.isCoroutine=false)(N:scope.isGenerator=false)(hk:scope.kind=.function)(hd:(x==("__debug__":Str))=false)(uD:(y==("__debug__":Str))=false)(uA:(y==("__classdict__":Str))=false)(hs:autoParam (∀i l t,gZ (.Name x xp) false (.ref l) (.int i t)=gX [.ref l,.int i t] (gV (.ref l) (.int i t))) aU)(O:autoParam (∀env,tm params env=([],[])) aU)(hb:autoParam (∀bw c' v pm cC,e! (kP "<lambda>" q params (.Subscript (.Name y yp) (.Name x xp) ip) scope bw pm (.ref c') cC) ⟨[v],[]⟩=pure [(x,v)]) aU)(D:autoParam (xQ "min" np e params (.Subscript (.Name y yp) (.Name x xp) ip) scope lp kp pos) aU)(uN:autoParam (Plain [e]) aU) :
  a9 V (.Call (.Name "min" np) [e] [⟨wf "key",.Lambda params (.Subscript (.Name y yp) (.Name x xp) ip) scope lp,kp⟩] pos) ρ (.int M) ρ:=⟨λ{c A env R0 ex ah R H F s Q E} f m K=>by
 have r:∀z∈scope.names,z.2≠.cell/\(z.2=.free->z.1=y):=λz hz=>by have:=eE.mp r z hz;simp only[f_,bne_iff_ne,lZ,beq_iff_eq] at this;exact xA this.1 (λw=>this.2.resolve_left (λq=>q w))
 refine qy (g.name (m.pre f) m.st (qF (c:=c) ?_ (uN env) rfl rfl rfl)) (D env);refine h.run (m.pre f) m.st m.ja λv U dL k I B=>(ak I.i? λl Z hl=>?_);obtain rfl:=Z;have d:=m.grow k B;have L:env.kindOf y=wf .cell:=by(replace hT:=(bn f.tab)▸hT);exact hT
 obtain⟨bc,w,G,S⟩:=(d.slots y (by unfold isVar;(refine aa hT ?_);rfl)).cell L;refine bJ (d.var y _ hy) λav q1 a ep Y X=>?_
 obtain rfl:=Y;refine a! X λzk W W=>?_
 have hw:w=wf (.ref a):=by unfold bk at q1;replace q1:=L▸q1;dsimp only at q1;replace q1:=G▸q1;dsimp only at q1;(replace q1:=S▸q1);exact q1
 subst hw;have Il:∀p∈scope.names,p.2=.free->∃b,env.cells.lookup p.1=wf b:=λp hp w=>⟨bc,aa ((r p hp).2 w) G⟩;refine d.lam f hP (O env) (mH Il) λgf c' cF C u=>⟨trivial,?_⟩;have su:=(Sub.refl U).upd (o:=g9 "<lambda>" q params (.Subscript (.Name y yp) (.Name x xp) ip) scope (cu env.cells scope.names []) c') C;refine Internal.minKey f.ok (v? f.rm hn) u.st (am ..) (hl.imp (su.le _ _) id) jC S zk oV (aa ((oz g8).1 J) (aa G rfl)) (hb _ _) hx J (λz hz=>(r z hz).1) uC N hk hd uD uA hs hM λt s' d8=>?_
 exact K _ R _ F s' (k.trans su) (λW W z=>z) (.int M) (u.grow (Sub.refl _) d8)⟩
end
end
section
open Classical
noncomputable abbrev pD(p:Int×Int):DV:=.tuple [.int p.1,.int p.2]
noncomputable def ie(es:List (Int×Int)):List (Int×Int):=es.foldl (λm p=>eZ m p.1 p.2) []
theorem Ks{es:List (Int×Int)}{k v:Int}:ie (es++[(k,v)])=eZ (ie es) k v:=by delta ie;(refine aa gu ?_);rfl
theorem CY{es:List (Int×Int)}{k v:Int}:(eZ es k v).length<=es.length+1:=by
 delta eZ;split
 ·rw[aw];exact p_ _
 (refine aa cA ?_);exact bD _
theorem Kq(es:List (Int×Int)):∀{m:List (Int×Int)},(es.foldl (λm p=>eZ m p.1 p.2) m).length<=m.length+es.length:=by
 induction es with
 |nil=>intro m;exact bD _
 |cons p r a =>
  intro m;refine bF a ?_
  rw[eQ,<-Nat.add_assoc,Nat.add_right_comm];exact Nat.add_le_add_right CY _
theorem sm{es:List (Int×Int)}{k v:Int}(h:k∉es.map (·.1)):eZ es k v=es++[(k,v)]:=by
 delta eZ;rw[Da];intro q;refine ak (w7.mp q) λp b a=>?_
 exact h (bh.mpr (ar p b (of_decide_eq_true a)))
theorem Kr(es:List (Int×Int)):∀{m:List (Int×Int)},((m++es).map (·.1)).Nodup->es.foldl (λm p=>eZ m p.1 p.2) m=m++es:=by
 induction es with
 |nil=>intro m _;rw[dw];rfl
 |cons p r a =>
  intro m h;obtain⟨k,v⟩:=p;have b:k∉m.map (·.1):=λq=>by rw[bf,bq] at h;exact(cQ.mp h).2.2 k q k (.head _) rfl
  show r.foldl _ (eZ m k v)=_;rw[sm b,a (by rw[eF];exact h),eF];rfl
noncomputable def yA(kx vx:Expr)(acc:ab)(env:Env):Sem Unit:=do
 let kv<-eval kx env
 let vv<-jh [kv] (eval vx env)
 match acc with
 |.ref d=>do
  kT { kx.pos with endLine:=vx.pos.endLine,endCol:=vx.pos.endCol }
  jh [kv,vv] (dictSet d kv vv)
 |_=>unsupported "internal:dictcomp"
theorem Gy(kx vx:Expr)(gens:List d9)(sc:bS)(pos:Pos):k4 (.DictComp kx vx gens sc pos) gens (yA kx vx) where
 clauses:=rfl
 t4:=λa a a a a=>rfl
 t5:=λa a a a a=>rfl
 wv:=λa a a a a=>rfl
 ww:=λa a a a a=>rfl
 turn:=λk it acc env g c e d=>by
  delta tl;dsimp only;refine aa c ?_
  dsimp only;refine aa e ?_
  delta qE;cases h:gens[k+1]? with
  |none=>rfl
  |some f =>
   obtain⟨j,l,m,i⟩:=f;have b:i=0:=d _ h;refine aa b ?_
   rfl
def EP(h:Heap)(H:af)(ds:List DV)(ao:AO):Prop:=∃es ep,ds=es.map pD/\ao=.dict (dA (ie es)) ep
def xV(V:Vx)(kx vx:Expr)(ρ:Str->Option DV)(out:List DV):Prop:=∃a b,Ev V kx ρ (.int a)/\Ev V vx ρ (.int b)/\out=[pD (a,b)]
section
variable{c:Cx}{A:aD}{R:af}{ρ:Str->Option AV}{H:af}{s:ae}{E:ab->ae->Prop}{d:Addr}{es:List (Int×AV)}{ep:Nat}{k:Int}{t:Tok}
theorem GP{v:ab}{Q:Unit->ae->Prop}(st:St c R ρ H s)(j:H d=wf (.dict es ep))(hz:es.length<=cB)(h:∀a s',St c R ρ (upd H d (.dict (i8 es k (abs v)) a)) s'->Q () s'):al c.M A (dictSet d (.int k t) v) Q E s:=by
 refine aB (st.dictAt j) λkvs l e m=>?_
 have f:kvs.length=es.length:=by rw[<-e,aw]
 refine wpAny_dictSet_pairs (ji _ _ k t) l.dictOf (λh' i g=>?_) (aa f hz);obtain⟨a,b⟩:=st.r? (tk:=s.toks+1) j g i
 rw[C4,e] at b;exact h a _ b
end
section
variable{V:Vx}{g:d9}{gs:List d9}{sc:bS}{ρ:Str->Option DV}{kx vx:Expr}{pos:Pos}{ds:List DV}{outs:List (List DV)}
theorem G7:n? V (yA kx vx) (xV V kx vx) EP (2^24) where
 mono:=λs h=>h
 kind:=λ⟨vs,ep,_,L⟩=>⟨(λr q=>by(replace q:=L▸q);injection q),(λv q=>by(replace q:=L▸q);injection q)⟩
 run:=λ{c A env R ah H s D ds S ao ρ Q} ⟨a,b,X,T,U⟩ p J ⟨es,ep,C,E⟩ hz st w k=>by
  subst U E C;refine aG (X.run p st w λu M I f B l=>aG (fS (T.run p l (w.mono f) λv i G n y d=>?_)));refine oE B.toInt λt O=>?_
  obtain rfl:=O;refine oE y.toInt λP N=>?_
  obtain rfl:=N;have g:i D=iF:=by
   cases q:i D with
   |none=>rfl
   |some x=>have:=d.aF D (by(refine aa q ?_);intro z;injection z);(replace this:=J▸this);injection this
  have j:=d.show J;have W:(dA (ie es)).length<=cB:=by
   rw[aw,bW];have:=Kq es (m:=[]);rw[aw,eQ,l?] at hz;replace this:=l?▸this
   exact QR hz this
  refine aG (j7 (fS (GP j (am ..) W λF o e=>?_)));rw[g_,show abs (.int b P)=.int b from rfl,C3,<-Ks] at e;refine k (.dict (dA (ie (es++[(a,b)]))) F) i o (f.trans n) (a_ _ _ (by(refine aa bf ?_);rfl) rfl) (e.part (λa ao h=>?_) λa h=>?_)
  ·obtain h|h:=h
   ·have q:a≠D:=λq=>by(replace h:=q▸h;replace h:=g▸h);injection h
    exact .inl (aa (aj q) h)
   by_cases q:a=D
   ·subst q;rw[am] at h;exact .inl (by rw[am];exact h)
   (replace h:=(aj q)▸h);exact .inr (aa (ci q) h)
  have q:a≠D:=λq=>h (aa q g);refine aa (aj q) ?_
  exact d.aF a h
theorem Ev.GO{es:List (Int×Int)}(v:fa sc V.T)(X:bj V g.target g.iter ρ ds)(co:jm (V.into sc) (c! sc) g (jp (V.into sc) (c! sc) (xV (V.into sc) kx vx) gs) (c8 sc ρ) ds outs)(O:outs.flatten=es.map pD)(hz:es.length<=2^24)(i:∀Z∈g::gs,Z.is_async=0)(hs:autoParam (∀env x,fQ g.iter env x=pure x) aU):Ev V (.DictComp kx vx (g::gs) sc pos) ρ (.dict (ie es)):=⟨λ{c A env R ah H s Q E} p st w k=>by
 rw[arm_eval_DictComp];have I:=i g (.head _);obtain⟨gt,gi,gf,Y⟩:=g;have I:Y=0:=I;subst I;refine ty (use:=iF) rfl (hs env) (mH (v.kn p)) v.kind v.names (X.run p st w λit Kp ko P d S W h F f=>?_);have j:=f.alloc p.ok (o:={ cls:=.type "dict",data:=.dict #[] }) (ao:=.dict [] 0) (nl (#[]) [] (aC rfl rfl rfl) rfl (λl l l G=>by simp at G) (λl l=>.nil) .nil rfl) rfl;refine n8 ?_
 refine tZ (RR:=λacc C=>tj c.M A E iF Q acc C) v (Gy kx vx _ sc pos) G7 i co p (w.mono h) S W F (by rw[O,aw];exact hz) f.cV (a_ [] 0 rfl rfl) j λC r ao' H' s' D L N J u n=>(aV u λes' ep h1 z=>?_);obtain rfl:=z;have G:es'=es:=by replace h1:=O▸h1;refine(List.map_inj_right λx y q=>?_).mp h1.symm;obtain⟨a,b⟩:=x;obtain⟨a',b'⟩:=y;cases q;rfl
 subst G;refine ak (n.ns (am ..)) λm U l=>?_
 have t:Sub H' (upd H' d.heap.objs.size (.dict (dA (ie es')) ep)):=(Sub.refl _).upd L;refine ar m U (λh' B=>k _ _ _ ((h.trans D).trans t) (.dict (am ..)) ?_);have:=n.t! (am ..) B;rwa [show del (upd (upd H' d.heap.objs.size (.dict (dA (ie es')) ep)) C (.ns r)) C=upd H' d.heap.objs.size (.dict (dA (ie es')) ep) from funext λb=>by
  unfold del upd;by_cases e:b=C
  ·(refine aa (FB e) ?_;refine aa e ?_;refine aa (Da (aI J)) ?_);exact N.symm
  (refine aa (Da e) ?_;exact aa (Da e) rfl)] at this⟩
end
end
noncomputable abbrev LI(r:List Int):DV:=.list (r.map DV.int)
noncomputable abbrev LL(xs:List (List Int)):DV:=.list (xs.map LI)
structure Gl(G:Gx):Prop where
 K:G.K=KP G.w.params
 T:G.tabs=[(171,("_law_slide.<locals>.<lambda>":Str)),(176,("_law_reading.<locals>.<lambda>":Str)),(193,("law.<locals>.<lambda>":Str))]
theorem Gl.b{V:Vx}{x:Str}{f:ab}(g:Gl V.G)(i:V.T.lookup x=wf .globalImplicit)(h:∀P,nsIn (KP P) b7 x=wf iF)(e:eH x=wf f)(d:x≠"__name__")(c:match f with|.ref a=>False|.builtin _|.type _=>True|_=>False):Glob V x f :=
 ⟨i,.inl (aC (aa g.K (h _)) e d),by
  cases f with
  |builtin _=>trivial
  |type _=>trivial
  |_=>exact c.elim⟩
theorem Li(P:aO):nsIn (KP P) b7 "len"=wf iF:=by kernel_rfl
theorem Lm(P:aO):nsIn (KP P) b7 "range"=wf iF:=by kernel_rfl
theorem Gl.len{V:Vx}(g:Gl V.G)(h:V.T.lookup ("len":Str)=wf .globalImplicit):Glob V "len" (.builtin "len"):=g.b h Li mG (by decide) trivial
theorem Gl.range{V:Vx}(g:Gl V.G)(h:V.T.lookup ("range":Str)=wf .globalImplicit):Glob V "range" (.type "range"):=g.b h Lm FL (by decide) trivial
theorem r4{a:Int}{m i:Nat}{d:DV}(h:((du a m).map DV.int)[i]?=wf d):i<m/\d=.int (a+i):=by
 replace h:=bp▸h;replace h:=bp▸h;refine ak (bu.mp h) λx j f=>?_
 obtain rfl:=f;refine ak (bu.mp j) λy g e=>?_
 obtain rfl:=e;obtain⟨c,b⟩:=dG.mp g;rw[p6] at c;rw[Ee] at b;exact⟨c,aa b rfl⟩
theorem u_{a i:Int}{m:Nat}(h:i∈du a m):a<=i/\i<a+m:=by
 refine ak (bh.mp h) λk c b=>?_
 obtain rfl:=b;have:=jW.mp c;exact QS this
theorem r5(a:Int)(m:Nat):(du a m).length=m:=by unfold du;rw[aw,p6]
theorem bU.cast{V:Vx}{e:Expr}{ρ:b_}{b b':Bool}(h:bU V e ρ b)(q:b=b'):bU V e ρ b':=q▸h
theorem i!{α:Type}{xs:List α}{i:Nat}{x:α}(h:xs[i]?=wf x):xs.take (i+1)=xs.take i++[x]:=aa iC (aa h rfl)
theorem a8.isNone{V:Vx}{d:DV}:a8 V .Is d .none (match d with|.none=>true|_=>false):=⟨λg ok c st b a k=>by
 refine aa a.Dc ?_
 refine Internal.isNone rfl ?_
 have:∀{av:AV} {h:Heap} {H:af} {d:DV},Rep h H av d->av.isNone=(match d with|.none=>true|_=>false):=λr=>by cases r<;>rfl
 (refine aa (this b) ?_);exact k _ st⟩
theorem bg.Hh{G:Gx}{n:Nat}{f:Addr}{fs:Stmt}{qual:Str}{dV kV aA:ab}{ps:List Str}{ds dds:List DV}{l':Nm}{d:DV}{dvs:List ab}(M:di G.K f fs qual dV kV aA)(fo:hZ (aH fs) ps)(F:∀vs:List ab,vs.length=ds.length->∀doc pm an ct S,peek G.K S (e! (gF fs qual dV kV doc pm an aA ct) ⟨vs,[]⟩)=wf (ps.zip (vs++dvs)))(C:ps.length=ds.length+dds.length)(D:∀h H,aJ h H (dvs.map abs) dds)(body:au ⟨G,n,(aH fs).names,iF⟩ (bodyOf fs) (ps.zip ((ds++dds).map XV.fz)) (.ret (.fz d)) l'):bg G (n+1) (.ref f) ds d:=⟨λ{c A R ah H s vs Q E} I ok w dj st q k=>by
 have o:vs.length=ds.length:=by have:=q.length;rwa [aw] at this
 have j:aJ c.h₀ H ((vs++dvs).map abs) (ds++dds):=by(refine aa bf ?_);exact q.append (D _ _)
 have g:(vs++dvs).length=ps.length:=by have:=j.length;rw[aw] at this;(refine aa this ?_;refine aa C ?_;exact aa cA rfl)
 have p:aN H (λa=>∃x:Str,(λb b=>False:Str->Addr->Prop) x a)=H:=Dj λa ⟨_,h⟩=>h;refine tU (Fp:=λb b=>False) gy.none M fo (F vs o) g body I ok w dj st (λb b h=>h.elim) (λb b b b h=>h.elim) (λx N e=>?_) λv r l t s' hs y b B b m=>k v l s' (p▸hs) y (m.drop λa ao e=>?_)
 ·refine dP (wN j e) λv d L u J=>?_
  obtain rfl:=u;exact ar v L (aa p J)
 (refine aa (Da (λ⟨i,z⟩=>by rw[(B i a z).1] at e;injection e)) ?_);exact e⟩
noncomputable def h_(ns:List Int)(x:Int)(p:Nat×Nat):Nat×Nat:=if x<ns.getD ((p.1+p.2)/2) 0 then(p.1,(p.1+p.2)/2) else((p.1+p.2)/2+1,p.2)
noncomputable def gj(ns:List Int)(x:Int):Nat->Nat×Nat->Nat×Nat
 |0,p=>p
 |i+1,p=>h_ ns x (gj ns x i p)
theorem tR{ns:List Int}{x:Int}:∀(i:Nat) (p:Nat×Nat),gj ns x (i+1) p=gj ns x i (h_ ns x p):=by
 intro l0;induction l0 with
 |zero =>intro _;exact rfl
 |succ i a =>intro p;exact congrArg (h_ ns x) (a p)
structure mr(ns:List Int)(x:Int)(p:Nat×Nat):Prop where
 le:p.1<=p.2
 hi:p.2<=ns.length
 lo:∀i (h:i<ns.length),i<p.1->ns[i]<=x
 up:∀i (h:i<ns.length),p.2<=i->x<ns[i]
theorem half_lt{a b:Nat}(h:a<b):a<=(a+b)/2/\(a+b)/2<b:=by exact QT h
theorem mr.step{ns:List Int}{x:Int}{p:Nat×Nat}(hs:ns.Pairwise (·<=·))(h:mr ns x p)(k:p.1<p.2):mr ns x (h_ ns x p)/\(h_ ns x p).2-(h_ ns x p).1<p.2-p.1:=by
 obtain⟨a,b⟩:=p;refine oA (half_lt (show a<b from k)) λf d=>?_
 have n:b<=ns.length:=h.hi;have g:(a+b)/2<ns.length:=fx d n;have o:ns.getD ((a+b)/2) 0=ns[(a+b)/2]:=by(refine aa jV ?_;refine aa (cz g) ?_);rfl
 have mono:∀i j (hi:i<ns.length) (l:j<ns.length),i<=j->ns[i]<=ns[j]:=λi j hi l q=>by
  by_cases e:i=j
  ·subst e;exact br _
  exact p7.mp hs i j hi l (xx q e)
 delta h_;refine aa o ?_
 by_cases c:x<ns[(a+b)/2]
 ·refine aa (FB c) ?_
  refine⟨⟨f,gv g,h.lo,λi hi q=>dF c (mono _ i g hi q)⟩,?_⟩;generalize(a+b)/2=m at f d;exact Be f d
 refine aa (Da c) ?_
 refine⟨⟨d,n,λi hi q=>bo (mono i _ hi g (s? q)) (eD.mp c),h.up⟩,?_⟩;generalize(a+b)/2=m at f d;exact Bg f d
theorem F0{ns:List Int}{x:Int}(hs:ns.Pairwise (·<=·)):∀(d:Nat) (p:Nat×Nat),p.2-p.1<=d->mr ns x p->∃n,(∀i,i<n->mr ns x (gj ns x i p)/\(gj ns x i p).1<(gj ns x i p).2)/\mr ns x (gj ns x n p)/\(gj ns x n p).1=(gj ns x n p).2:=by
 intro d;induction d with
 |zero =>intro p b h;exact aR 0 (λi q=>GM q (gU _)) h (Ew h.le (Nat.sub_eq_zero_iff_le.mp (xw.mp b)))
 |succ d g =>
  intro p b h;by_cases e:p.1=p.2
  ·exact aR 0 (λi q=>GM q (gU _)) h e
  have a:=xx h.le e;refine oA (h.step hs a) λf c=>(aB (g (h_ ns x p) (s? (fx c b)) f) λn l k j=>?_);refine aR (n+1) (λi q=>?_) (by rw[tR];exact k) (by rw[tR];exact j);cases i with
  |zero=>exact xA h a
  |succ i=>rw[tR];exact l i (ma q)
section
variable{G:Gx}{n:Nat}{ns:List Int}{x:Int}
noncomputable abbrev yc(ns:List Int)(x:Int)(p:Nat×Nat):Nm:=[("a",.fz (LI ns)),("x",.fz (.int x)),("lo",.fz (.int p.1)),("hi",.fz (.int p.2)),("key",.fz .none)]
theorem Hi:hZ (aH pI) ["a","x","lo","hi","key"]:=⟨by decide,by decide,by decide,by decide,by decide⟩
theorem yF(a b:Nat):Int.fdiv ((a:Int)+(b:Int)) 2=(((a+b)/2:Nat):Int):=by rw[sJ _ (by decide),<-Int.natCast_add];rfl
theorem FY(g:Gl G)(hs:ns.Pairwise (·<=·))(hz:ns.length<=2^24):∃k,(k<=ns.length/\(∀i (h:i<ns.length),i<k->ns[i]<=x)/\(∀i (h:i<ns.length),k<=i->x<ns[i])) /\
  au ⟨G,n,(aH pI).names,iF⟩ (bodyOf pI) [("a",.fz (LI ns)),("x",.fz (.int x)),("lo",.fz (.int 0)),("hi",.fz .none),("key",.fz .none)] (.ret (.fz (.int (k:Nat)))) []:=by
 refine aB (F0 (x:=x) hs ns.length (0,ns.length) (bD _) ⟨kO _,bD _,λi h q=>GM q (gU _),λi h q=>GM h (nJ q)⟩) λm w o l=>?_
 have f:(ns.map DV.int).length=ns.length:=aw ..;refine ar ((gj ns x m (0,ns.length)).1) (aC (aa l o.hi) o.lo (aa l o.up)) (au.cons (Ex.ite (bU.of (bT.cmp (Ev.var rfl) Ev.int a8.ltI)) (λq=>by injection q) λj=>au.nil) ?_);refine au.cons (Ex.ite (bU.of (bT.cmp (Ev.var rfl) Ev.yl a8.isNone)) (λj=>au.last (Ex.assign (bb.sc (bK.of (Ev.call (g.len rfl) (aZ.one (Ev.var rfl)) (bg.len f (QU hz))) rfl)) rfl)) λq=>by injection q) (au.cons (l₁:=yc ns x (gj ns x m (0,ns.length))) (Ex.ite (bU.of (bT.cmp (Ev.var rfl) Ev.yl a8.isNone)) (λj=>au.last (Ex.while (λi=>yc ns x (gj ns x i (0,ns.length))) m (a?.of (dS rfl rfl rfl rfl rfl trivial)) (λi hi=>?_) ?_)) λq=>by injection q) (au.ret (Ex.ret (bb.sc (bK.of (Ev.var rfl) rfl)))))
 ·refine oA (w i hi) λr d=>?_
  generalize hp:gj ns x i (0,ns.length)=p at r d;obtain⟨a,b⟩:=p;have d:=d;refine oA (half_lt d) λy s=>?_
  have v:=r.hi;have e:=fx s v;have t:gj ns x (i+1) (0,ns.length)=h_ ns x (a,b):=congrArg (h_ ns x) hp;have u:ns.getD ((a+b)/2) 0=ns[(a+b)/2]:=by(refine aa jV ?_;refine aa (cz e) ?_);rfl
  refine xA (bU.cast (bU.of (bT.cmp (Ev.var rfl) (Ev.var rfl) a8.ltI)) (decide_eq_true (by lia))) ?_
  refine aa t ?_
  delta h_;refine aa u ?_
  by_cases c:x<ns[(a+b)/2]
  ·refine aa (FB c) ?_
   refine ar _ (au.cons (Ex.assign (xv:=.fz (.int (((a+b)/2:Nat):Int))) (bb.sc (bK.of (yF a b▸Ev.op (Ev.op (Ev.var rfl) (Ev.var rfl) bB.add) Ev.int (bB.div (by decide) (nM (by decide)))) rfl)) rfl) (au.last (Ex.ite (b:=true) (bU.cast (bU.of (bT.cmp (Ev.var rfl) (Ev.idx (Ev.var rfl) (Ev.var rfl) (kL _) (by rw[l7,bp,cz e];rfl) (Bs hz e)) a8.ltI)) (decide_eq_true c)) (λj=>au.last (Ex.assign (bb.sc (bK.of (Ev.var rfl) rfl)) rfl)) λq=>(by injection q)))) (a?.of (dS rfl rfl rfl rfl rfl trivial))
  refine aa (Da c) ?_
  refine ar _ (au.cons (Ex.assign (xv:=.fz (.int (((a+b)/2:Nat):Int))) (bb.sc (bK.of (yF a b▸Ev.op (Ev.op (Ev.var rfl) (Ev.var rfl) bB.add) Ev.int (bB.div (by decide) (nM (by decide)))) rfl)) rfl) (au.last (Ex.ite (b:=false) (bU.cast (bU.of (bT.cmp (Ev.var rfl) (Ev.idx (Ev.var rfl) (Ev.var rfl) (kL _) (by rw[l7,bp,cz e];rfl) (Bs hz e)) a8.ltI)) (decide_eq_false c)) (λq=>(by injection q)) λj=>au.last (Ex.assign (bb.sc (bK.of (Ev.op (Ev.var rfl) Ev.int bB.add) rfl)) rfl)))) (a?.of (dS rfl rfl rfl rfl rfl trivial))
 refine bU.cast (bU.of (bT.cmp (Ev.var rfl) (Ev.var rfl) a8.ltI)) (decide_eq_false ?_);(refine aa l ?_);exact nu _
theorem FX(P:aO)(v u doc pm:ab)(an:Option Addr)(ct:ab) S:peek (KP P) S (e! (gF pI "bisect_right" (.ref 31) (.ref 32) doc pm an (.ref 38) ct) ⟨[v,u],[]⟩)=wf (List.zip ([("a":Str),"x","lo","hi","key"]:List Str) [v,u,.int 0 209,.none,.none]):=by kernel_rfl
theorem GQ(g:Gl G)(hs:ns.Pairwise (·<=·))(hz:ns.length<=2^24):∃k,(k<=ns.length/\(∀i (h:i<ns.length),i<k->ns[i]<=x)/\(∀i (h:i<ns.length),k<=i->x<ns[i]))/\bg G (n+1) (.ref 39) [LI ns,.int x] (.int (k:Nat)):=by
 refine ak (FY (n:=n) (x:=x) g hs hz) λk h b=>?_
 refine ar k h (bg.Hh (dvs:=[.int 0 209,.none,.none]) (dds:=[.int 0,.none,.none]) (by(refine aa g.K ?_);exact zG _) Hi (λvs h doc pm an ct S=>?_) rfl (λa a=>.cons (.int 0) (.cons .none (.cons .none .nil))) b);refine fM (ro h) λv u c=>?_
 obtain rfl:=c;(refine aa g.K ?_);exact FX _ v u doc pm an ct S
end
noncomputable def VY:Stmt:=is 15
theorem Jx(P:aO):di (KP P) 186 VY "_law_put" .none .none (.ref 185) where
 fn:=e8 (((cp (KP P) 186).map (·.doc)).getD .none) (((cp (KP P) 186).map (·.pyModule)).getD .none) iF .none (by kernel_rfl)
 code:=by kernel_rfl
 co:=by kernel_rfl
 gen:=by kernel_rfl
 kind:=by kernel_rfl
section
variable{R H:af}{a b D:Addr}{as:List Addr}{cf pre rest:List (List Int)}{row ys:List Int}{i:Nat}
theorem e_.at_(r:e_ H a as (pre++row::rest))(hi:as[pre.length]?=wf b):H b=wf (.list (row.map AV.int)) :=r.row pre.length b row hi (by rw[l! (bD _),Nat.sub_self];rfl)
theorem e_.CM(r:e_ H a as (pre++row::rest))(hi:as[pre.length]?=wf b):e_ (upd H b (.list (ys.map AV.int))) a as (pre++ys::rest):=by
 have k:b∈as:=en hi;obtain⟨i,d⟩:=dG.mp hi;refine⟨by(refine aa (aj (λq=>r.lA (by(refine aa q ?_);exact k))) ?_);exact r.top,by(refine aa r.len ?_);simp,λj h xs h1 h2=>?_,r.nd,r.lA⟩;refine oE (dG.mp h1) λg c=>?_
 by_cases q:j=pre.length
 ·subst q;rw[hi] at h1;(replace h1:=ax h1;subst h1);rw[l! (bD _),Nat.sub_self] at h2;replace h2:=ax h2;subst h2;exact am ..
 have e:h≠b:=λw=>q ((xg r.nd).mp (aa c (aa d (aa w rfl))));refine aa (aj e) ?_
 refine r.row j h xs h1 ?_
 obtain q|q:=Nat.lt_or_gt_of_ne q
 ·rw[p5 q] at h2 ⊢;exact h2
 rw[l! (gv q)] at h2 ⊢;refine oE (Nat.exists_eq_add_of_lt (Nat.sub_pos_of_lt q)) λm f=>?_
 rw[me] at f;rw[f] at h2 ⊢;exact h2
theorem e_.Fa(r:e_ H a as cf)(f:H D=iF):e_ (upd (upd H D (.list (ys.map AV.int))) a (.list (as.map AV.ref++[AV.ref D]))) a (as++[D]) (cf++[ys]):=by
 have c:D≠a:=λq=>by rw[q,r.top] at f;injection f
 have b:D∉as:=λq=>by
  refine oE (Ed q) λj g=>?_
  obtain⟨d,_⟩:=dG.mp g;have:=r.row j D _ g (cz (r.len▸d));rw[f] at this;injection this
 refine⟨by rw[am,bf];rfl,by(refine aa cA ?_;refine aa cA ?_;refine aa r.len ?_);rfl,λj l xs h1 h2=>?_,?_,λq=>?_⟩
 ·by_cases q:j<as.length
  ·replace h1:=(p5 q)▸h1;rw[p5 (r.len▸q)] at h2;have h:=en h1;refine aa (aj (λw=>r.lA (by(refine az w ?_);exact h))) ?_;refine aa (aj (λw=>b (by(refine az w ?_);exact h))) ?_
   exact r.row j l xs h1 h2
  have q:=p? q
  replace h1:=(l! q)▸h1;replace h2:=(l! (r.len▸q))▸h2;replace h2:=(bn r.len)▸h2;cases e:j-as.length with
  |zero =>rw[e] at h1 h2;(replace h1:=ax h1;subst h1);(replace h2:=ax h2;subst h2);rw[aj c,am]
  |succ m=>rw[e] at h1;injection h1
 ·refine cQ.mpr (?_);refine aC r.nd (dq.mpr ⟨aX,iB⟩) (λx k y i w=>?_);rw[aK.mp i] at w;exact b (by(refine az w ?_);exact k)
 obtain q|q:=aT.mp q
 ·exact r.lA q
 exact c (aK.mp q).symm
end
structure E7(H H':af)(a:Addr)(as k7:List Addr):Prop where
 keep:∀b,b≠a->b∉k7->H' b=H b
 new:∀b,b∈k7->b∉as->H b=iF
 old:∀b,b∈as->b∈k7
theorem Vg{c:Cx}{R:af}{ρ:Str->Option AV}{H:af}{s:ae}{A:aD}{E:ab->ae->Prop}{Q:ab->ae->Prop}{n:Nat}{a:Addr}{as:List Addr}{cf:List (List Int)}{x:Int}{t:Tok}(hg:Gl c.G)(ok:c.Ok)(rm:bL c A (n+2))(st:St c R ρ H s)(fi:b8 R c.outer)(r:e_ H a as cf)(hs:∀xs∈cf,xs.Pairwise (·<=·))(hz:cf.length<=1000)(q_:∀xs∈cf,xs.length<=1000)(h:∀H' k7 s',e_ H' a k7 (aq.put cf x)->E7 H H' a as k7->St c R ρ H' s'->Q .none s'):al c.M A (call (.ref 186) [.ref a,.int x t]) Q E s:=by
 have W:=hg.K;have q4:=hg;refine tV (binds:=[(("rows":Str),.ref a),(("x":Str),.int x t)]) (aa W (Jx _)) ok rm st (λdoc pm an ct=>iM ok st (by(refine aa W ?_);intro S;kernel_rfl)) (by kernel_rfl) (by kernel_rfl) ?_
 intro c' A' L' s' P hG h0 ho f jN d8;have ud:b8 (upd R c.L (.ns ρ)) c'.outer:=aa ho (fi.push ok st.js);rw[<-hG] at W q4;refine aL λK d=>(kW (aS ‹_› ‹_› f (by rfl) rfl ?_));refine u3 P ‹_› (.inl r.top) λit s1 hit oQ O=>?_
 have O:=O.names [("rows",.ref a),("x",.int x)] (aC rfl rfl trivial);refine un (u5 (xs:=as.map AV.ref) jN.handled) oQ O (λi ρ' H'=>∃pre y,pre.length=i/\ρ'=lk [("rows",.ref a),("x",.int y)]/\e_ H' a as (pre++cf.drop i)/\aq.put cf x=pre++aq.put (cf.drop i) y/\∀b,b∉as->H' b=H b)
  (λi ρ' H' h=>by refine jJ h λpre y I I h I=>?_;exact .inl h.top) (kH [] x rfl rfl r rfl (λI I=>rfl)) ?_ ?_
 ·intro i av R' ρ' H' s' v hi T hR z st hv;refine dP z λpre y j Xw XM=>?_
  obtain rfl:=Xw;refine a! XM λu iS e=>λK jz=>?_
  replace hi:=bp▸hi;refine ak (bu.mp hi) λb hb Xx=>?_
  obtain rfl:=Xx;refine aa (ed hv) ?_
  refine oE (dG.mp hb) λeN I=>?_
  have m:=r.len▸eN;have o:=w! m;have C:=hs _ (iy m);have l:=q_ _ (iy m);generalize cf[i]=row at o C l;rw[o] at u iS;replace hb:=(bn j)▸hb;have p:=u.at_ hb;refine ak (GQ (n:=n) (x:=y) q4 C (T4 l)) λk J D=>(a! J λk1 k2 k3=>?_);refine fA (cO ‹_› ‹_› f rfl ?_);intro s st;refine aL λK d=>(dI (eU ?_));refine mY ‹_› ‹_› f (by((refine aa W ?_);exact yU _)) rfl ?_
  refine cw (aS ‹_› ‹_› f (by rfl) rfl ?_);refine bV ‹_› ‹_› f (by rfl) rfl λg=>?_
  refine⟨jQ ‹_› ‹_› (by((refine aa W ?_);exact zV _)),?_⟩;refine D.run rfl P jN (ud.keep (c6.gK T)) ‹_› (.cons (.lst (.inl p) (aJ.ints row)) (.cons (.int y) .nil)) λv H1 s2 zC I3 N=>(oE I3.toInt λtk wM=>?_);obtain rfl:=wM;have N:=N.drop zC.le;refine cO ‹_› ‹_› f rfl λs st=>(openK ‹_› (aL ?_));intro K d;refine eL (er ?_);refine bV ‹_› ‹_› f (by rfl) rfl λg=>?_
  refine eU ?_
  refine ku ‹_› ‹_› f (by(refine aa W ?_);kernel_rfl) mG (by decide) rfl ?_
  refine cw (aS ‹_› ‹_› f (by rfl) rfl ?_);refine⟨trivial,?_⟩;refine rr ‹_› (.inl p) (by rw[aw];exact T5 l) λg s3 nh=>?_
  rw[aw];refine lb (d_ ?_);have oT:=en hb;by_cases U:k=row.length
  ·refine ic (beq_iff_eq.mpr (T6 U)) ?_
   refine aL λK d=>?_
   refine jx (Cx.Ok.fn ‹_›) ?_
   refine dX (aS ‹_› ‹_› f (by rfl) rfl ?_);refine gI ‹_› p PySem.F.slot_list_append PySem.F.type_list_append ?_
   refine cw (bV ‹_› ‹_› f (by rfl) rfl ?_);intro g;refine⟨trivial,?_⟩;refine ju ‹_› p (by rw[aw,bW];exact pv l) λs4 jP=>?_
   refine xA rfl (openK ‹_› ?_);refine aL λK d=>?_
   refine wpAny_Return_none (openK ‹_› ?_);refine openK ‹_› ?_
   refine openK ‹_› ?_
   refine openK ‹_› ?_
   have w:=u.CM (ys:=row++[y]) hb;refine a_ _ _ (hR _ _ _ jP) (λst=>h _ as _ (?_) ⟨λV h1 h2=>?_,λV h1 h2=>GM h1 h2,λI q=>q⟩ st)
   ·refine aa iS ?_;refine aa (aq.Vb k1 k2 k3 U) ?_
    replace w:=bf▸w;exact w
   (refine aa (aj (λq=>h2 (by(refine aa q ?_);exact oT))) ?_);exact e V h2
  have U:=xx k1 U;refine eC (by rw[beq_iff_eq];omega) ?_
  refine bi (openK ‹_› ?_);refine aL λK d=>?_
  refine dI (jg ?_);refine aS ‹_› ‹_› f (by rfl) rfl ?_
  refine bV ‹_› ‹_› f (by rfl) rfl λg=>?_
  refine uX (k:=(k:Int)) ‹_› (.inl p) (kL k) (av:=.int row[k]) (by simp[U]) (T7 l k1) ?_
  intro v1 Jc;refine oE (eM Jc) λWJ Z=>?_
  obtain rfl:=Z;refine cO ‹_› ‹_› f rfl λs st=>?_
  refine openK ‹_› ?_
  refine aL λK d=>?_
  refine xK (bV ‹_› ‹_› f (by rfl) rfl ?_);intro g;refine aS ‹_› ‹_› f (by rfl) rfl ?_
  refine bV ‹_› ‹_› f (by rfl) rfl λg=>?_
  refine V3 (k:=(k:Int)) ‹_› p (kL k) (by rw[aw];exact Bc U) (by rw[aw,bW];exact pv l) λs4 jP=>?_
  refine openK ‹_› ?_
  refine aL λK d=>?_
  refine dI ?_
  refine bV ‹_› ‹_› f (by rfl) rfl λg=>?_
  refine cO ‹_› ‹_› f rfl λs st=>?_
  refine openK ‹_› ?_
  refine bi (openK ‹_› ?_);have w:=u.CM (ys:=row.set k y) hb;refine Xi _ _ (St.names st [("rows",.ref a),("x",.int row[k])] (aC rfl rfl trivial)) (pre++[row.set k y]) (row[k]) (aa cA (aa j rfl)) rfl ?_ ?_ (λV h2=>?_)
  ·replace w:=xj▸w;rw[eF];exact w
  ·rw[iS,aq.Vd k1 k2 k3 U,eF];rfl
  (refine aa (aj (λq=>h2 (by(refine aa q ?_);exact oT))) ?_);exact e V h2
 intro ρ' H' s' B st;refine dP B λpre y j Y X=>?_
 obtain rfl:=Y;refine a! X λu iS e=>?_
 rw[aw] at j u iS;rw[show cf.drop as.length=[] by(refine aa r.len ?_;exact aa D? rfl),dw] at u;replace iS:=(show cf.drop as.length=[] by(refine aa r.len ?_;exact aa D? rfl))▸iS;replace iS:=aq.Va▸iS;have Ji:as.length<=1000:=aa r.len hz;have p:=u.top;refine bi (openK ‹_› ?_);refine aL λK d=>?_
 refine jx (Cx.Ok.fn ‹_›) ?_
 refine dX (aS ‹_› ‹_› f (by rfl) rfl ?_);refine gI ‹_› p PySem.F.slot_list_append PySem.F.type_list_append ?_
 refine cw (listE ?_);refine bV ‹_› ‹_› f (by rfl) rfl λg=>?_
 refine iV P ‹_› (by(refine aa bW ?_);exact bl rfl) ?_
 intro D s2 hD N;refine⟨trivial,?_⟩;have HY:D≠a:=λq=>by rw[q,p] at hD;injection hD
 refine ju ‹_› (by(refine aa (aj (aI HY)) ?_);exact p) (by rw[aw,bW];exact pv Ji) ?_
 intro s3 nh;refine xA rfl (openK ‹_› ?_);refine bi ?_
 have w:=u.Fa (ys:=[y]) hD;refine a_ _ _ nh (λst=>h _ (as++[D]) _ (?_) ⟨λV h1 h2=>?_,λV h1 h2=>?_,λI q=>b? _ q⟩ st)
 ·(refine aa iS ?_);exact w
 ·rw[aT] at h2;replace h2:=not_or.mp (h2);(refine aa (aj h1) ?_;refine aa (aj (λq=>h2.2 (aK.mpr q))) ?_);exact e V h2.1
 obtain h1|h1:=aT.mp h1
 ·exact GM h1 h2
 rw[aK.mp h1] at h2 ⊢;(refine az (e D h2) ?_);exact hD
section
open Classical
theorem k_put(P:aO):dr (KP P) (.ref 186)=true:=by kernel_rfl
theorem Ht(P:aO):nsIn (KP P) b7 "_law_put"=wf (wf (.ref 186)):=by kernel_rfl
theorem Gl.put{V:Vx}(g:Gl V.G)(h:V.T.lookup ("_law_put":Str)=wf .globalImplicit):Glob V "_law_put" (.ref 186):=⟨h,.inr (aa g.K (Ht _)),by show dr V.G.K (.ref 186)=true;(refine aa g.K ?_);exact k_put _⟩
theorem e_.all{R:af}{a:Addr}{as:List Addr}{cf:List (List Int)}(r:e_ R a as cf){b:Addr}(h:b=a\/b∈as):R b≠iF:=by
 obtain rfl|h:=h
 ·(refine aa r.top ?_);intro q;injection q
 refine oE (Ed h) λj d=>?_
 refine oE (dG.mp d) λc e=>?_
 (refine aa (r.row j b _ d (cz (r.len▸c))) ?_);intro q;injection q
section
variable{V:Vx}{l l':Nm}{fl:Fl}{ts:List Stmt}{e:Expr}{x:Str}{cf:List (List Int)}{y:Int}{ρ:b_}{np px pos:Pos}{n:Nat}
theorem a9.U_(gl:Gl V.G)(h:V.T.lookup ("_law_put":Str)=wf .globalImplicit)(hn:V.n=n+2)(hx:ρ x=wf (.own (.rows cf)))(hi:bK V e ρ (.int y))(hs:∀xs∈cf,xs.Pairwise (·<=·))(hz:cf.length<=1000)(W:∀xs∈cf,xs.length<=1000)(hp:autoParam (Plain [.Name x px,e]) aU) :
  a9 V (.Call (.Name "_law_put" np) [.Name x px,e] [] pos) ρ .none (putN ρ x (.own (.rows (aq.put cf y)))):=⟨λ{c A env R0 ex ah R H F s Q E} i m K=>by
 have g:=gl.put h;refine bJ (m.var x _ hx) λav O a as y3 zz=>?_
 obtain rfl:=y3;refine eU (g.name (m.pre i) m.st (cw (c:=c) (ik m.st i.fn (i.g! O) O λv hv=>?_) (hp env)));refine aa (ed hv) ?_
 refine hi.run i m λu j dL J I d=>⟨g.i7 (d.pre i) d.st,?_⟩;refine oE ((I c.h₀ λzz=>iF).toInt) λt y7=>?_
 obtain rfl:=y7;refine vA (d.var x _ hx) λav h2 a' k7 e1 ra Y=>?_
 rw[O] at h2;(replace h2:=ax h2;subst h2);(injection e1 with e1;subst e1);have hS:∀b,F (wf x) b->R b≠iF:=λb f=>(d.foot _ b f).1;have B:=d.st.shown (S:=F (wf x));have fi:b8 (aN R (F (wf x))) c.outer:=i.fi.keep (c6.gK ⟨λb ao e=>by
  delta aN;refine aa (Da (λq=>by rw[(d.foot _ b q).2.1] at e;injection e)) ?_
  exact d.base b ao e⟩)
 have Z:Gl c.G:=i.G▸gl;refine Vg (n:=n) Z i.ok (hn▸i.rm) B fi (ra.on (R':=bQ R j (F (wf x))) λb f=>by(refine aa Y ?_);exact FB f) hs hz W λH' bs s' U P C=>?_
 let l:Addr->Prop:=λb=>b=a\/b∈bs;have sub:∀b,F (wf x) b->l b:=λb q=>by rw[Y] at q;exact q.imp id (P.old b)
 have o:∀b,l b->F (wf x) b\/(R b=iF/\j b=iF):=λb f=>by
  by_cases q:F (wf x) b
  ·exact .inl q
  refine .inr ⟨?_,?_⟩
  ·have:=C.aF b (U.all f);unfold aN at this;rwa [Da q] at this
  have L:=q;rw[Y] at L;replace L:=not_or.mp (L);have:=P.new b (f.resolve_left L.1) L.2;unfold bQ at this;rwa [Da q] at this
 have M:Sub j (aN H' l):=⟨λb ao e=>by
  have nF:=λq=>hS b q (d.st.aF b (by(refine aa e ?_);intro z;injection z));have D:¬l b:=λq=>by
   obtain z|z:=o b q
   ·exact nF z
   rw[z.2] at e;injection e
  have k:=P.keep b (λq=>D (.inl q)) (λq=>D (.inr q));delta aN;refine aa (Da D) ?_;refine aa k ?_
  delta bQ;(refine aa (Da nF) ?_);exact e⟩
 have p:St c (λb=>if l b then H' b else R b) ah (aN H' l) s':=by
  refine C.part (λb ao h=>?_) λb h=>?_
  ·obtain h|h:=h
   ·unfold aN at h;by_cases q:l b
    ·rw[FB q] at h;injection h
    rw[Da q] at h;exact .inl h
   by_cases q:l b
   ·rw[FB q] at h;exact .inl h
   rw[Da q] at h;exact .inr (by unfold aN;(refine aa (Da (λz=>q (sub b z))) ?_);exact h)
  unfold aN at h;by_cases q:l b
  ·rw[FB q] at h;exact GM rfl h
  rw[Da q] at h;show(if l b then H' b else R b)=iF;refine aa (Da q) ?_
  have:=C.aF b h;unfold aN at this;rwa [Da (λz=>q (sub b z))] at this
 have m':=d.jM (xv:=.own (.rows (aq.put cf y))) (G:=l) i M p O (λb f X=>?_) (λb f=>⟨?_,?_⟩) (cj a bs rfl (U.on λb f=>FB f) rfl)
 ·refine K .none _ _ _ s' (J.trans M) (λy av N=>?_) .none m';rw[jG i (λb N f=>Da (λq=>?_)) rfl]
  ·exact N
  obtain q|q:=o b q
  ·exact(d.foot _ b q).2.2 y N f
  obtain⟨r,e⟩|⟨w,e⟩:=(d.slots y N).at f<;>(rw[q.1] at e;injection e)
 ·refine Da (λq=>?_);obtain q|q:=o b q
  ·exact f q
  exact X q.1
 ·(refine aa (FB f) ?_);exact U.all f
 exact(o b f).imp id (·.1)⟩
theorem au.Fk(j:aM l x=wf (.own (.list [])))(h:au V ts ((x,.own (.rows []))::l) fl l'):au V ts l fl l':=⟨λf m k=>by
 refine dQ m λah R H F low m=>(bJ (m.var x _ j) λav s a vs g e=>?_);obtain rfl:=g;refine a! e λp o r=>?_
 have n:=iv o.length;subst n;have m':=m.jM (xv:=.own (.rows [])) (G:=F (wf x)) f (Sub.refl _) m.st s (λb d d=>rfl) (λb c=>⟨(m.foot _ b c).1,.inl c⟩) ⟨a,[],rfl,⟨p,rfl,(λi b xs q=>(by injection q)),iB,aX⟩,aa r (funext λb=>propext ⟨.inl,λq=>q.resolve_right aX⟩)⟩;replace m':=cJ▸m';exact h.run f (ei ah R H _ low m') k⟩
theorem au.Hn(w:aM l x=wf (.own (.rows cf)))(h:au V ts ((x,.fz (LL cf))::l) fl l'):au V ts l fl l':=⟨λf m k=>by
 refine dQ m λah R H F low m=>(bJ (m.var x _ w) λav A a as t p=>?_);obtain rfl:=t;obtain⟨r,z⟩:=p;have y:∀b,F (wf x) b->R b≠iF:=λb c=>(m.foot _ b c).1;have hs:=sq m.st y;have e:∀b,b=a\/b∈as->bQ R H (F (wf x)) b=R b:=λb c=>by(refine aa z ?_);exact FB c
 have m':=m.jM (xv:=.fz (LL cf)) (G:=λo=>False) f hs (m.st.shown (S:=F (wf x))) A (λb c o=>Da c) (λb c=>c.elim) (.lst (.inl ((e a (.inl rfl)).trans r.top)) ⟨by rw[aw,aw,r.len],λi v d n j=>by
  rw[bp] at n j;refine ak (bu.mp n) λb g s=>?_
  obtain rfl:=s;refine ak (bu.mp j) λxs u q=>?_
  obtain rfl:=q;exact .lst (.inl ((e b (.inr (en g))).trans (r.row i b xs g u))) (aJ.ints xs)⟩)
 rw[cJ] at m';exact h.run f (ei ah _ _ _ (low.trans hs) m') k⟩
end
end
section
open Classical
noncomputable def r!:Stmt:=is 16
theorem JC(P:aO):di (KP P) 191 r! "_law_table" .none .none (.ref 190) where
 fn:=e8 (((cp (KP P) 191).map (·.doc)).getD .none) (((cp (KP P) 191).map (·.pyModule)).getD .none) iF .none (by kernel_rfl)
 code:=by kernel_rfl
 co:=by kernel_rfl
 gen:=by kernel_rfl
 kind:=by kernel_rfl
theorem Lh(P:aO):nsIn (KP P) b7 "enumerate"=wf iF:=by kernel_rfl
theorem Gl.enum{V:Vx}(g:Gl V.G)(h:V.T.lookup ("enumerate":Str)=wf .globalImplicit):Glob V "enumerate" (.type "enumerate"):=g.b h Lh FF (by decide) trivial
theorem Hm:hZ (aH r!) ["word"]:=⟨by decide,by decide,by decide,by decide,by decide⟩
theorem VF:∀{R:List Int} {k:Int} {i:Nat},(aq.eX k R)[i]?=R[i]?.map λx=>(k+(i:Int),x):=by
 intro l0;induction l0 with
 |nil =>intro _ _;exact rfl
 |cons a R b =>
  intro k;intro m0;cases m0 with
  |zero =>show wf (k,a)=wf (k+((0:Nat):Int),a);rw[D0,sI]
  |succ i =>
   show(aq.eX (k+1) R)[i]?=R[i]?.map _
   refine aa b ?_
   refine congrArg (λf=>R[i]?.map f) (funext λx=>?_);exact aa (show k+1+(i:Int)=k+((i+1:Nat):Int) by exact Bt) rfl
theorem CA:∀{R:List Int} {k:Int},(aq.eX k R).length=R.length:=by
 intro l0;induction l0 with
 |nil =>intro _;exact rfl
 |cons b R a =>intro k;exact congrArg (·+1) (a)
noncomputable def lH(r:Int):List (List Int)->List (List DV)
 |[]=>[]
 |R::rest=>(aq.eX (32*r) R).map pD::lH (r+1) rest
theorem UV:∀{rows:List (List Int)} {r:Int} {i:Nat},(lH r rows)[i]?=rows[i]?.map λR=>(aq.eX (32*(r+(i:Int))) R).map pD:=by
 intro l0;induction l0 with
 |nil =>intro _ _;exact rfl
 |cons R rest a =>
  intro r;intro m0;cases m0 with
  |zero =>show wf _=wf _;rw[D0,sI]
  |succ i =>
   show(lH (r+1) rest)[i]?=rest[i]?.map _
   refine aa a ?_
   refine congrArg (λf=>rest[i]?.map f) (funext λx=>?_);exact aa (show r+1+(i:Int)=r+((i+1:Nat):Int) by exact Bt) rfl
theorem UU:∀{rows:List (List Int)} {r:Int},(lH r rows).flatten=(aq.pairs r rows).map pD:=by
 intro l0;induction l0 with
 |nil =>intro _;exact rfl
 |cons R rest a =>intro r;show(aq.eX (32*r) R).map pD++(lH (r+1) rest).flatten=(aq.eX (32*r) R++aq.pairs (r+1) rest).map pD;refine aa a ?_;exact aa bf rfl
theorem UW:∀{rows:List (List Int)} {r:Int},(lH r rows).length=rows.length:=by
 intro l0;induction l0 with
 |nil =>intro _;exact rfl
 |cons b rest a =>intro r;exact congrArg (·+1) (a)
theorem UO{α:Type}:∀{l:List α},(l.map λa=>[a]).flatten=l:=by
 intro l0;induction l0 with
 |nil =>exact rfl
 |cons a l b =>exact congrArg (a::·) (b)
theorem v_{R:List Int}{k:Int}{p:Int×Int}(h:p∈aq.eX k R):k<=p.1/\p.1<k+R.length:=by refine ak (aq.Ai.mp (h)) λi hi e=>(oE (dG.mp hi) λa b=>?_);exact QW e a
theorem VG:∀{R:List Int} {k:Int},((aq.eX k R).map (·.1)).Nodup:=by
 intro l0;induction l0 with
 |nil =>intro _;exact iB
 |cons a R b =>
  intro k;refine dq.mpr ⟨λh=>?_,b⟩;refine ak (bh.mp h) λp hp e=>?_
  have:=v_ hp;exact QX e this
theorem B!:∀{rows:List (List Int)} {r:Int},(∀R∈rows,R.length<=32)->((aq.pairs r rows).map (·.1)).Nodup/\∀p∈aq.pairs r rows,32*r<=p.1:=by
 intro l0;induction l0 with
 |nil =>intro _ _;exact⟨iB,λn h=>(GM h aX)⟩
 |cons R rest i =>
  intro r d;refine oA (i (r:=r+1) λR h=>d R (.tail _ h)) λm f=>?_
  have o:=d R (.head _);show(((aq.eX (32*r) R++aq.pairs (r+1) rest)).map (·.1)).Nodup/\∀p∈aq.eX (32*r) R++aq.pairs (r+1) rest,_;refine xA ?_ (λp hp=>?_)
  ·rw[bf];refine cQ.mpr (?_);refine aC VG m (λa l b k e=>?_);refine ak (bh.mp l) λp hp g=>?_
   obtain rfl:=g;refine ak (bh.mp k) λq j c=>?_
   obtain rfl:=c;have:=v_ hp;have:=f q j;lia
  obtain hp|hp:=aT.mp hp
  ·exact(v_ hp).1
  have:=f p hp;exact QY this
theorem F?:∀{R:List Int} {x:Int},(aq.bump x R).1.length<=R.length+1:=by
 intro l0;induction l0 with
 |nil =>intro _;exact bD _
 |cons a R b =>
  intro x;by_cases h:x<a
  ·(refine aa (aq.c7 h) ?_);exact p_ _
  refine aa (aq.ch (eD.mp h)) ?_
  exact mc b
theorem Vf:∀{rows:List (List Int)} {x:Int} {M:Nat},(∀R∈rows,R.length<=M)->(aq.put rows x).length<=rows.length+1/\∀R∈aq.put rows x,R.length<=M+1:=by
 intro l0;induction l0 with
 |nil =>
  intro x M h;exact⟨bD _,λR hR=>by
  have hR:=hR;(refine aa (aK.mp hR) ?_);exact mc (kO _)⟩
 |cons S rest b =>
  intro x M h;have a:(aq.bump x S).1.length<=M+1:=bF F? (mc (h S (.head _)))
  show((aq.bump x S).1::aq.kA (aq.put rest) rest (aq.bump x S).2).length<=_/\∀R∈(aq.bump x S).1::aq.kA (aq.put rest) rest (aq.bump x S).2,_;cases(aq.bump x S).2 with
  |none=>exact⟨p_ _,λR hR=>by
    obtain rfl|hR:=aW.mp hR
    ·exact a
    exact ta (h R (.tail _ hR))⟩
  |some y =>
   refine oA (b (x:=y) λR hR=>h R (.tail _ hR)) λd c=>?_
   exact⟨mc d,λR hR=>by
    obtain rfl|hR:=aW.mp hR
    ·exact a
    exact c R hR⟩
theorem Cj:∀{w:List Int} {rows:List (List Int)} {M:Nat},(∀R∈rows,R.length<=M)->(aq.c? rows w).length<=rows.length+w.length/\∀R∈aq.c? rows w,R.length<=M+w.length:=by
 intro l0;induction l0 with
 |nil =>intro rows M h;exact⟨bD _,h⟩
 |cons x w a =>
  intro rows M h;refine oA (Vf (x:=x) h) λf e=>(oA (a e) λd c=>?_);refine aa eQ ?_
  exact xA (bF d (QZ f)) (λR b=>bF (c R b) Q0)
theorem pairs_len:∀{rows:List (List Int)} {r:Int} {M:Nat},(∀R∈rows,R.length<=M)->(aq.pairs r rows).length<=rows.length*M:=by
 intro l0;induction l0 with
 |nil =>intro _ _ _;exact kO _
 |cons R rest a =>intro r M h;have c:=a (r:=r+1) λR b=>h R (.tail _ b);show(aq.eX (32*r) R++aq.pairs (r+1) rest).length<=_;rw[cA,CA,eQ,Nat.succ_mul];have:=h R (.head _);exact Q1 c this
section
variable{G:Gx}{n:Nat}{w:List Int}
noncomputable abbrev tabOf(w:List Int):List (Int×Int):=aq.pairs 0 (aq.c? [] w)
theorem WH(g:Gl G)(D:w.length<=32):au ⟨G,n+2,(aH r!).names,iF⟩ (bodyOf r!) [("word",.fz (LI w))] (.ret (.fz (.dict (tabOf w)))) []:=by
 have h:aq.ka []:=λR b=>GM b aX;have sz:∀v:List Int,v.length<=32->(aq.c? [] v).length<=32/\∀R∈aq.c? [] v,R.length<=32:=λv E=>by
  refine oA (Cj (w:=v) (rows:=[]) (M:=0) λR b=>GM b aX) λh1 C=>?_
  replace h1:=l?▸h1
  exact xA (vR E h1) (λR b=>by have:=C R b;exact vR E this)
 refine au.cons (Ex.assign (xv:=.own (.list [])) (bb.lz (aE.dY .nil (by decide))) rfl) (au.Fk (x:="rows") rfl ?_);refine au.cons (Ex.for (ds:=w.map DV.int) (λi=>[("rows",.own (.rows (aq.c? [] (w.take i))))]) (bj.list (Ev.var rfl)) (a?.of ⟨rfl,trivial⟩) λi d hd=>?_) ?_
 ·replace hd:=bp▸hd;refine ak (bu.mp hd) λx B F=>?_
  obtain rfl:=F;refine oA (sz (w.take i) (bF (List.length_take_le' ..) D)) λo f=>(dc _ _ (.name ..) (by exact kz rfl) (au.last (Ex.expr (a9.U_ (n:=n) (y:=x) g rfl rfl rfl (bK.of (Ev.var rfl) rfl) (aq.Ck h) (Q2 o) λR b=>bF (f R b) (by decide)) cJ)) (a?.of ⟨?_,trivial⟩));refine aa (i! B) ?_
  delta aq.c?
  (refine aa gu ?_);rfl
 rw[aw,fv];refine oA (sz w D) λo f=>(au.Hn (x:="rows") rfl (au.ret (Ex.ret (bb.iP ?_))));have k:=(B! (r:=0) f).1;have c:=pairs_len (r:=0) f;refine aa (show tabOf w=ie (aq.pairs 0 (aq.c? [] w)) from(Kr _ (m:=[]) k).symm) ?_
 generalize aq.c? [] w=X at o f k c ⊢
 refine Ev.GO (ds:=kg 0 (X.map LI)) (outs:=lH 0 X) ⟨rfl,by decide,rfl⟩ (bj.enum (g.enum rfl) (Ev.var rfl)) ⟨by rw[UW,qN,aw],λi d A hd ho=>?_⟩ UU ?_ (by exact iu rfl rfl)
 ·refine ak (qM hd) λe l z=>?_
  obtain rfl:=z;rw[bp] at l;refine ak (bu.mp l) λR b u=>?_
  obtain rfl:=u;replace ho:=UV▸ho;replace ho:=b▸ho;replace ho:=ax ho;subst ho;have H:=f R (en b);refine⟨_,true,.pair ..,(by exact iu ⟨rfl,rfl⟩ ⟨rfl,rfl⟩),rfl,λp=>?_,λq=>(by injection q)⟩;refine wH rfl (λp p=>rfl) (kg 0 (R.map DV.int)) (((aq.eX (32*(0+(i:Int))) R).map pD).map λa=>[a]) (bj.enum (g.enum rfl) (Ev.var rfl)) ⟨by rw[aw,aw,CA,qN,aw],λj d A hd ho=>?_⟩ UO.symm;refine ak (qM hd) λe l t=>?_
  obtain rfl:=t;rw[bp] at l;refine ak (bu.mp l) λx B s=>?_
  obtain rfl:=s;replace ho:=bp▸ho;replace ho:=bp▸ho;replace ho:=VF▸ho;replace ho:=B▸ho;replace ho:=ax ho;subst ho;refine⟨_,true,.pair ..,(by exact iu ⟨rfl,rfl⟩ ⟨rfl,rfl⟩),rfl,λp=>⟨32*(0+(i:Int))+(j:Int),x,?_,Ev.var rfl,rfl⟩,λq=>(by injection q)⟩;have h1:((0+i:Nat):Int)=0+(i:Int):=by exact Q3
  have C:((0+j:Nat):Int)=(j:Int):=by exact Q4
  exact h1▸C▸Ev.op (Ev.op Ev.int (Ev.var rfl) (bB.mul (sM (by decide +kernel)))) (Ev.var rfl) bB.add
 exact Q5 o c
theorem yy(g:Gl G)(b:w.length<=32):bg G (n+3) (.ref 191) [LI w] (.dict (tabOf w)):=by
 refine bg.fn gy.none (by(refine aa g.K ?_);exact JC _) Hm (λvs h doc pm an ct S=>?_) rfl (WH (n:=n) g b);refine oE (rn h) λv a=>?_
 obtain rfl:=a;(refine aa g.K ?_);kernel_rfl
end
end
section
open Classical
section
variable{c:Cx}{A:aD}{e elt:Expr}{g:d9}{gs:List d9}{env:Env}{V:Vx}{sc:bS}{R H:af}{ah:Str->Option AV}{s:ae}{pos kF px:Pos}{x:Str}{ds:List DV}{outs:List (List DV)}
theorem yr{ρ:Str->Option DV}{Q:Flow->ae->Prop}{E:ab->ae->Prop}(l:fa sc V.T)(S:bj V g.target g.iter ρ ds)(X:jm (V.into sc) (c! sc) g (jp (V.into sc) (c! sc) (mA (V.into sc) elt) gs) (c8 sc ρ) ds outs)(hz:outs.flatten.length<=2^24)(b:∀W∈g::gs,W.is_async=0)(hs:∀x,fQ g.iter env x=pure x)(t:iH (.ListComp elt (g::gs) sc pos) (wf (.Name x px)) kF.line env=pure true)(p:Pre V c A env R)(st:St c R ah H s)(w:View c env ah R H ρ)(k:∀D vs H' C r s',Sub H H'->H' D=iF->H' C=iF->D≠C->aJ c.h₀ H' vs outs.flatten->St c R ah (upd (upd H' D (.list vs)) C (.ns r)) s'->al c.M A (ge (.Name x px) env (.ref D)) (λi h=>∃m,h.heap.Ns C m/\∀h',kJ C h.heap h'->Q .next { h with heap:=h' }) E s') :
  al c.M A (exec (.Assign [.Name x px] (.ListComp elt (g::gs) sc pos) kF) env) Q E s:=by
 have y:=b g (.head _);obtain⟨Z,gi,gf,U⟩:=g;have y:U=0:=y;subst y;refine aa (exec_Assign_Name_used _ _ _ _ t) ?_
 refine aG (j7 (aG ?_));refine aG (bx (ty (use:=wf (ge (.Name x px) env)) (Q:=λi s'=>Q .next s') rfl hs (mH (l.kn p)) l.kind l.names ?_) (λi s' N=>bH (bH N)) λi i e=>e);refine S.run p st w λit Kp Y J I L P a v f=>(iV p.ok f (by simp[cB]) λD G O d=>?_);refine tZ (RR:=λacc C=>tj c.M A E (wf (ge (.Name x px) env)) (λi s'=>Q .next s') acc C) l (yo elt _ sc pos) yC b X p (w.mono a) L P v hz O (ar [] rfl .nil) d λC r ao' H' s' u B F z j o=>(ak j λvs n q=>?_);obtain rfl:=n;exact k D vs H' C r s' (a.trans u) B F z q o
variable{R0:af}{ρ:b_}{ex:Option (AV×XV)}{F:Option Str->Addr->Prop}{E:ab->ae->Prop}
theorem Fs.Di{b:af}{D C:Addr}{vs:List AV}{r}{s':ae}{Q:ae->Prop}(f:bX V c A env R0)(m:Fs V c env R0 ρ ex ah R H F s)(L:isVar V.T x=true)(hs:Sub H b)(z:b D=iF)(P:b C=iF)(w:D≠C)(N:aJ c.h₀ b vs ds)(st:St c R ah (upd (upd b D (.list vs)) C (.ns r)) s')(k:∀i R' B g,Fs V c env R0 (putN ρ x (.fz (.list ds))) iF i R' (upd b D (.list vs)) B g->Q g):al c.M A (PySem.assign (.Name x px) env (.ref D)) (λG g=>∃m,g.heap.Ns C m/\∀h',kJ C g.heap h'->Q { g with heap:=h' }) E s':=by
 have y:(upd b D (.list vs)) C=iF:=by(refine aa (aj (aI w)) ?_);exact P
 refine oA (q6 y st) λt n=>?_
 have o:R0 C=iF:=by
  cases q:R0 C with
  |none=>rfl
  |some ao=>have:=m.base C ao q;rw[t] at this;injection this
 have I:Sub H (upd b D (.list vs)):=hs.trans ((Sub.refl _).upd z);have p:Fs V c env (upd R0 C (.ns r)) ρ ex ah (upd R C (.ns r)) (upd b D (.list vs)) F s':=m.under f I n (λa q=>⟨aj q,aj q⟩) (λao e=>by rw[am] at e ⊢;exact e) (.inl t);refine fA ((p.jO (av:=abs (.ref D)) (d:=.list ds) (.lst (.inl (am ..)) (N.mono ((Sub.refl _).upd z)))).store (f.more o) L λi R' B g h=>?_);have u:R' C=wf (.ns r):=h.base C _ (am ..);refine ak (h.st.vp u) λJ O G=>(ar J O (λh' v=>?_));have j:=h.st;rw[<-sw u] at j;have l:=j.ended (tk:=g.toks) (ia ..) v.extBut;exact k i _ _ _ (h.under (f.more o) (Sub.refl _) l (λa q=>⟨ci q,(aj q).symm⟩) (λao e=>by rw[o] at e;injection e) (.inr (by rw[am];intro q;injection q)))
theorem C7{T:List (Str×c5)}(e:env.scope.names=T)(c:env.scope.kind=.function)(h:T.lookup x=wf .local)(b:(px.line==pos.line)=true)(a:(sc.names.any λp=>p.1==x&&(p.2 == .local||p.2 == .cell))=false):iH (.ListComp elt (g::gs) sc pos) (wf (.Name x px)) kF.line env=pure true:=by
 have f:env.kindOf x=wf .local:=by show env.scope.names.lookup x=_;(refine aa e ?_);exact h
 have d:env.blockKind=.function:=by unfold Env.blockKind;(refine aa c ?_);rfl
 show(pure (env.blockKind == .function&&env.kindOf x==wf .local&&px.line==pos.line && !(sc.names.any λp=>p.1==x&&(p.2 == .local||p.2 == .cell))):Sem Bool)=_;(refine aa f ?_;refine aa d ?_;refine aa b ?_;refine aa a ?_);rfl
variable{l:Nm}
theorem Ex.Fo(N:fa sc V.T)(M:V.T.lookup x=wf .local)(W:bj V g.target g.iter (hN (aM l)) ds)(Z:jm (V.into sc) (c! sc) g (jp (V.into sc) (c! sc) (mA (V.into sc) elt) gs) (c8 sc (hN (aM l))) ds outs)(hz:outs.flatten.length<=2^24)(E:∀d∈outs.flatten,d.scalar=true)(o:∀X∈g::gs,X.is_async=0)(U:autoParam ((px.line==pos.line)=true) cN)(S:autoParam ((sc.names.any λp=>p.1==x&&(p.2 == .local||p.2 == .cell))=false) cN)(hs:autoParam (∀env x,fQ g.iter env x=pure x) aU):Ex V (.Assign [.Name x px] (.ListComp elt (g::gs) sc pos) kF) l .next ((x,.fz (.list outs.flatten))::l):=⟨λ{c A env R0 H0 s Q} f m k=>by
 refine dQ m λah R H F low m=>(yr N W Z hz o (hs env) (C7 f.tab f.fn M U S) (m.pC f) m.st.shown (m.view f) λD vs H' C r s' i u J t P w=>?_);have L:∀b,H' b=iF->¬Seen (aM l) F b:=λb G q=>by
  refine cE (x:=R b) (λe=>?_) (λao e=>?_)
  ·exact m.seen b q e
  have:=i.le b ao (by unfold bQ;(refine aa (FB q) ?_);exact e);rw[G] at this;injection this
 have I:(upd H' D (.list vs)) C=iF:=by(refine aa (aj (aI t)) ?_);exact J
 refine oA (m.st.hidden m.seen (i.trans (((Sub.refl _).upd u).trans ((Sub.refl _).upd I))) w) λa B=>?_
 have Y:aN (upd (upd H' D (.list vs)) C (.ns r)) (Seen (aM l) F)=upd (upd (aN H' (Seen (aM l) F)) D (.list vs)) C (.ns r):=funext λb=>by
  unfold aN upd;by_cases q:b=C
  ·refine aa (FB q) ?_;refine aa (FB q) ?_;exact aa (Da (by(refine aa q ?_);exact L C J)) rfl
  by_cases n:b=D
  ·(refine aa (Da q) ?_;refine aa (FB n) ?_;refine aa (Da (by(refine aa n ?_);exact L D u)) ?_;refine aa (Da q) ?_);(exact aa (FB n) rfl)
  (refine aa (Da q) ?_;refine aa (Da n) ?_;refine aa (Da q) ?_);(exact aa (Da n) rfl)
 have v:∀b,H' b=iF->aN H' (Seen (aM l) F) b=iF:=λb G=>by unfold aN;rw[G,ite_self]
 rw[Y] at a;have h:Sub H (aN H' (Seen (aM l) F)):=⟨λb ao e=>by
  have q:=λq=>m.seen b q (m.st.aF b (by(refine aa e ?_);intro z;injection z));delta aN;refine aa (Da q) ?_
  exact i.le b ao (by unfold bQ;(refine aa (Da q) ?_);exact e)⟩
 refine m.Di f (by unfold isVar;(refine aa M ?_);rfl) h (v D u) (v C J) t (P.any E) a λj R' F' O y=>k _ (ei j R' (upd (aN H' (Seen (aM l) F)) D (.list vs)) F' (low.trans (h.trans ((Sub.refl _).upd (v D u)))) ?_);(refine az cJ ?_);exact y⟩
theorem Ex.Ft(o:fa sc V.T)(j:V.T.lookup x=wf .local)(y:bj V g.target g.iter (fW (aM l)) ds)(B:jm (V.into sc) (c! sc) g (jp (V.into sc) (c! sc) (mA (V.into sc) elt) gs) (c8 sc (fW (aM l))) ds outs)(hz:outs.flatten.length<=2^24)(d:∀z∈g::gs,z.is_async=0)(v:autoParam ((px.line==pos.line)=true) cN)(u:autoParam ((sc.names.any λp=>p.1==x&&(p.2 == .local||p.2 == .cell))=false) cN)(hs:autoParam (∀env x,fQ g.iter env x=pure x) aU):Ex V (.Assign [.Name x px] (.ListComp elt (g::gs) sc pos) kF) l .next ((x,.fz (.list outs.flatten))::l):=⟨λ{c A env R0 H0 s Q} f m k=>by
 refine dQ m λah R H F low m=>(yr o y B hz d (hs env) (C7 f.tab f.fn j v u) (m.pre f) m.st m.ja λD vs H' C r s' a n w i t e=>?_);refine m.Di f (by unfold isVar;(refine aa j ?_);rfl) a n w i t e λb R' E q h=>k _ (ei b R' (upd H' D (.list vs)) E (low.trans (a.trans ((Sub.refl _).upd n))) ?_);(refine az cJ ?_);exact h⟩
end
theorem yk{α:Type}{V:Vx}{ρ:Str->Option DV}{elt bR it:Expr}{ifs:List Expr}{sc:bS}{xs:List α}{f:α->DV}{bs:α->List (Str×DV)}{p:α->Bool}{g:α->DV}(o:∀a∈xs,fC bR (f a) (bs a)/\∀q∈bs a,c! sc q.1=true)(m:∀a∈xs,jo (V.into sc) ifs (dg (c8 sc ρ) (bs a)) (p a))(n:∀a∈xs,p a=true->Ev (V.into sc) elt (dg (c8 sc ρ) (bs a)) (g a)):jm (V.into sc) (c! sc) ⟨bR,it,ifs,0⟩ (jp (V.into sc) (c! sc) (mA (V.into sc) elt) []) (c8 sc ρ) (xs.map f) (xs.map λa=>if p a=true then[g a] else[]):=by
 refine⟨by rw[aw,aw],λi d l e ho=>?_⟩;rw[bp] at e ho;refine ak (bu.mp e) λa h k=>?_
 obtain rfl:=k;replace ho:=h▸ho;replace ho:=ax ho;subst ho;have b:=en h;refine oA (o a b) λr j=>⟨bs a,p a,r,λq c=>⟨u0 (j q c),j q c⟩,m a b,λhp=>?_,λhp=>?_⟩
 ·dsimp only;(refine aa (FB hp) ?_);exact ar (g a) (n a b hp) rfl
 dsimp only;(exact aa (Da (by(refine aa hp ?_);decide)) rfl)
section
variable{α:Type}{V:Vx}{l:Nm}{elt bR it:Expr}{ifs:List Expr}{sc:bS}{pos kF px:Pos}{x:Str}{xs:List α}{f:α->DV}{bs:α->List (Str×DV)}{p:α->Bool}{g:α->DV}
theorem Ex.tN(h:fa sc V.T)(i:V.T.lookup x=wf .local)(s:bj V bR it (hN (aM l)) (xs.map f))(o:∀a∈xs,fC bR (f a) (bs a)/\∀q∈bs a,c! sc q.1=true)(j:∀a∈xs,jo (V.into sc) ifs (dg (c8 sc (hN (aM l))) (bs a)) (p a))(n:∀a∈xs,p a=true->Ev (V.into sc) elt (dg (c8 sc (hN (aM l))) (bs a)) (g a))(b:∀a∈xs,(g a).scalar=true)(hz:xs.length<=2^24)(m:autoParam ((px.line==pos.line)=true) cN)(k:autoParam ((sc.names.any λp=>p.1==x&&(p.2 == .local||p.2 == .cell))=false) cN)(hs:autoParam (∀env x,fQ it env x=pure x) aU):Ex V (.Assign [.Name x px] (.ListComp elt [⟨bR,it,ifs,0⟩] sc pos) kF) l .next ((x,.fz (.list ((xs.filter p).map g)))::l):=by
 rw[<-ki p g];refine Ex.Fo (g:=⟨bR,it,ifs,0⟩) (gs:=[]) h i s (yk o j n) ?_ (λd c=>?_) (by exact kz rfl) m k hs
 ·rw[ki,aw];exact bF (iz _ _) hz
 rw[ki] at c;refine ak (bh.mp c) λa r e=>?_
 obtain rfl:=e;exact b a (bN.mp r).1
theorem Ex.Fq(b:fa sc V.T)(c:V.T.lookup x=wf .local)(k:bj V bR it (fW (aM l)) (xs.map f))(j:∀a∈xs,fC bR (f a) (bs a)/\∀q∈bs a,c! sc q.1=true)(d:∀a∈xs,jo (V.into sc) ifs (dg (c8 sc (fW (aM l))) (bs a)) (p a))(i:∀a∈xs,p a=true->Ev (V.into sc) elt (dg (c8 sc (fW (aM l))) (bs a)) (g a))(hz:xs.length<=2^24)(h:autoParam ((px.line==pos.line)=true) cN)(e:autoParam ((sc.names.any λp=>p.1==x&&(p.2 == .local||p.2 == .cell))=false) cN)(hs:autoParam (∀env x,fQ it env x=pure x) aU):Ex V (.Assign [.Name x px] (.ListComp elt [⟨bR,it,ifs,0⟩] sc pos) kF) l .next ((x,.fz (.list ((xs.filter p).map g)))::l):=by
 rw[<-ki p g];refine Ex.Ft (g:=⟨bR,it,ifs,0⟩) (gs:=[]) b c k (yk j d i) ?_ (by exact kz rfl) h e hs
 rw[ki,aw];exact bF (iz _ _) hz
end
end
section
open Classical
noncomputable abbrev ay(es:List (Int×Int)):List Int:=es.map (·.1)
noncomputable def aP(es:List (Int×Int))(q:Int):Int:=(es.lookup q).getD 0
noncomputable abbrev fD(es:List (Int×Int)):aq.bz:=aq.b! (ay es) (aP es)
theorem eW{es:List (Int×Int)}{q:Int}:q∈ay es↔(es.lookup q).isSome=true:=by
 induction es with
 |nil=>exact⟨λh=>GM h aX,λh=>GM (show false=true from h) (by decide)⟩
 |cons p r b =>
  obtain⟨k,v⟩:=p;show q∈k::ay r↔_;rw[aW,cP];by_cases e:q=k
  ·(refine aa (beq_iff_eq.mpr e) ?_);exact⟨λa=>rfl,λa=>.inl e⟩
  rw[beq_eq_false_iff_ne.mpr e,<-b];exact⟨λh=>h.resolve_left e,.inr⟩
theorem mU{es:List (Int×Int)}{q:Int}(h:q∈ay es):es.lookup q=wf (aP es q):=by
 rw[eW] at h;unfold aP;cases e:es.lookup q with
 |none=>rw[e] at h;injection h
 |some v=>rfl
theorem KR{es:List (Int×Int)}{m q:Int}:(es.filter λp=>!decide (p.1=m)).lookup q=if q=m then iF else es.lookup q:=by
 induction es with
 |nil=>split<;>rfl
 |cons p r b =>
  obtain⟨k,v⟩:=p;refine aa fu ?_
  by_cases e:k=m
  ·refine aa (Da (by simp[e])) ?_;refine aa b ?_;refine aa cP ?_
   by_cases a:q=m
   ·refine aa (FB a) ?_;exact aa (FB a) rfl
   refine aa (Da a) ?_;refine aa (Da a) ?_;exact aa (beq_eq_false_iff_ne.mpr (λw=>a (w.trans e))) rfl
  refine aa (FB (by simp[e])) ?_;refine aa cP ?_;refine aa cP ?_;refine aa b ?_
  by_cases a:q=m
  ·refine aa (FB a) ?_;refine aa (FB a) ?_;exact aa (beq_eq_false_iff_ne.mpr (λw=>e (w.symm.trans a))) rfl
  refine aa (Da a) ?_;exact aa (Da a) rfl
theorem z_{es:List (Int×Int)}{p v q:Int}:(es++[(p,v)]).lookup q=(es.lookup q).or (if q=p then wf v else iF):=by
 induction es with
 |nil =>
  show List.lookup q [(p,v)]=_;refine aa cP ?_
  by_cases e:q=p
  ·(refine aa (beq_iff_eq.mpr e) ?_;refine aa (FB e) ?_);rfl
  (refine aa (beq_eq_false_iff_ne.mpr e) ?_;refine aa (Da e) ?_);rfl
 |cons a r b =>
  refine aa l8 ?_;refine aa cP ?_;refine aa cP ?_;refine aa b ?_
  cases q==a.1<;>rfl
noncomputable def fL(es:List (Int×Int))(p:Int):List Int:=[p+32,p+1].filter λq=>(es.lookup q).isSome
noncomputable def cq(es:List (Int×Int))(p:Int):Int:=if p+32∈ay es/\(p+1∈ay es->aP es (p+32)<=aP es (p+1)) then p+32 else p+1
noncomputable def eY(st:List (Int×Int)×Int):List (Int×Int)×Int:=(eZ (st.1.filter λp=>!decide (p.1=cq st.1 st.2)) st.2 (aP st.1 (cq st.1 st.2)),cq st.1 st.2)
noncomputable def bZ:Nat->List (Int×Int)×Int->List (Int×Int)×Int
 |0,st=>st
 |i+1,st=>eY (bZ i st)
theorem sb:∀(i:Nat) (st:List (Int×Int)×Int),bZ (i+1) st=bZ i (eY st):=by
 intro l0;induction l0 with
 |zero =>intro _;exact rfl
 |succ i a =>intro st;exact congrArg eY (a st)
def iY(q:Int):Prop:=0<=q/\q<128/\q%32<5
structure gC(L:Nat)(st:List (Int×Int)×Int):Prop where
 nd:(ay st.1).Nodup
 ok:∀q∈ay st.1,iY q
 m7:iY st.2
 lA:st.2∉ay st.1
 len:st.1.length=L
theorem vi{es:List (Int×Int)}{p:Int}:fL es p=(if p+32∈ay es then[p+32] else[])++(if p+1∈ay es then[p+1] else[]):=by
 unfold fL;refine aa fu ?_;refine aa fu ?_;refine aa xc ?_
 by_cases b:p+32∈ay es<;>by_cases a:p+1∈ay es
 ·(refine aa (FB b) ?_;refine aa (FB a) ?_;refine aa (FB (eW.mp b)) ?_;refine aa (FB (eW.mp a)) ?_);rfl
 ·(refine aa (FB b) ?_;refine aa (Da a) ?_;refine aa (FB (eW.mp b)) ?_;refine aa (Da (λw=>a (eW.mpr w))) ?_);rfl
 ·(refine aa (Da b) ?_;refine aa (FB a) ?_;refine aa (Da (λw=>b (eW.mpr w))) ?_;refine aa (FB (eW.mp a)) ?_);rfl
 (refine aa (Da b) ?_;refine aa (Da a) ?_;refine aa (Da (λw=>b (eW.mpr w))) ?_;refine aa (Da (λw=>a (eW.mpr w))) ?_);rfl
theorem ve{es:List (Int×Int)}{p:Int}(h:fL es p≠[]):cq es p∈ay es/\(cq es p=p+32\/cq es p=p+1):=by
 rw[vi] at h;unfold cq;by_cases a:p+32∈ay es<;>by_cases b:p+1∈ay es
 ·split
  ·exact⟨a,.inl rfl⟩
  exact⟨b,.inr rfl⟩
 ·(refine aa (FB ⟨a,λw=>GM w b⟩) ?_);exact⟨a,.inl rfl⟩
 ·(refine aa (Da (λw=>a w.1)) ?_);exact⟨b,.inr rfl⟩
 rw[Da a,Da b] at h;exact GM rfl h
theorem Lb{es:List (Int×Int)}{p:Int}(i:Nat)(c:Int)(hi:(fL es p)[i]?=wf c)(h:∀(j:Nat) v,(fL es p)[j]?=wf v->aP es c<=aP es v/\(j<i->aP es c<aP es v)):c=cq es p:=by
 rw[vi] at hi h;unfold cq;by_cases a:p+32∈ay es<;>by_cases b:p+1∈ay es
 ·rw[FB a,FB b] at hi h
  match i,hi with
  |0,hi =>replace hi:=ax hi;subst hi;exact aa (FB ⟨a,λd=>(h 1 (p+1) rfl).1⟩) rfl
  |1,hi =>replace hi:=ax hi;subst hi;have:=(h 0 (p+32) rfl).2 (by decide);exact aa (Da (λw=>GM (w.2 b) (nv.mpr this))) rfl
 ·replace hi:=(FB a)▸hi;replace hi:=(Da b)▸hi;refine aa (FB ⟨a,λw=>GM w b⟩) ?_
  match i,hi with
  |0,hi=>(replace hi:=ax hi;subst hi);rfl
 ·replace hi:=(Da a)▸hi;replace hi:=(FB b)▸hi;refine aa (Da (λw=>a w.1)) ?_
  match i,hi with
  |0,hi=>(replace hi:=ax hi;subst hi);rfl
 rw[Da a,Da b] at hi;injection hi
theorem L8{p q:Int}(h:q=p+32\/q=p+1)(a:iY q):p<q:=by obtain h|h:=h<;>lia
theorem gC.step{L:Nat}{st:List (Int×Int)×Int}(I:gC L st)(h:fL st.1 st.2≠[]):gC L (eY st)/\st.2<(eY st).2/\(eY st).2<128/\∀n,aq.cr (n+1) (fD st.1) (aq.pl st.2)=aq.cr n (fD (eY st).1) (aq.pl (eY st).2):=by
 obtain⟨es,p⟩:=st;refine oA (ve h) λf l=>?_
 have e:=I.ok _ f;have m:=L8 l e;have hp:=I.lA;have g:p≠cq es p:=λw=>hp (by(refine aa w ?_);exact f);have u:p∉(es.filter λq=>!decide (q.1=cq es p)).map (·.1):=λw=>hp (by
  refine ak (bh.mp w) λq B A=>?_
  exact bh.mpr (ar q ((bN.mp B).1) A))
 have o:(eY (es,p)).1=(es.filter λq=>!decide (q.1=cq es p))++[(p,aP es (cq es p))]:=sm u;have C:(eY (es,p)).2=cq es p:=rfl;have lk:∀q,(eY (es,p)).1.lookup q=if q=p then wf (aP es (cq es p)) else if q=cq es p then iF else es.lookup q:=λq=>by
  refine aa o ?_;refine aa z_ ?_;refine aa KR ?_
  by_cases a:q=p
  ·rw[FB a,FB a,Da (by(refine aa a ?_);exact g),a];cases z:es.lookup p with
   |none=>rfl
   |some v=>exact GM (eW.mpr (aa z rfl)) hp
  refine aa (Da a) ?_;refine aa (Da a) ?_;exact aa EH rfl
 have mk:∀q,q∈ay (eY (es,p)).1↔(q∈ay es/\q≠cq es p)\/q=p:=λq=>by
  rw[eW,lk,eW];by_cases a:q=p
  ·(refine aa (FB a) ?_);exact⟨λs=>.inr a,λs=>rfl⟩
  refine aa (Da a) ?_
  by_cases b:q=cq es p
  ·(refine aa (FB b) ?_);exact⟨λw=>(nomatch w),λw=>w.elim (λz=>GM b z.2) (λz=>GM z a)⟩
  (refine aa (Da b) ?_);exact⟨λw=>.inl ⟨w,b⟩,λw=>w.elim (·.1) (λz=>GM z a)⟩
 refine cL ⟨?_,λq k=>?_,e,λw=>?_,?_⟩ m e.2.1 (λn=>?_)
 ·rw[o,ay,bf];refine cQ.mpr (?_);refine aC (I.nd.sublist (List.Sublist.map _ (gS ..))) (dq.mpr ⟨aX,iB⟩) (λa y b hb w=>?_);rw[bq,nC] at hb;replace hb:=aK.mp (hb);have hb:b=p:=hb;replace hb:=(bn w)▸hb;exact u (hb▸y)
 ·obtain z|z:=(mk q).mp k
  ·exact I.ok q z.1
  (refine aa z ?_);exact I.m7
 ·obtain z|z:=(mk _).mp w
  ·exact z.2 rfl
  exact g z.symm
 ·refine aa o ?_;refine aa cA ?_;refine az I.len ?_
  have:∀{fs:List (Int×Int)},(ay fs).Nodup->cq es p∈ay fs->(fs.filter λq=>!decide (q.1=cq es p)).length+1=fs.length:=by
   intro fs;induction fs with
   |nil=>intro _ w;cases w
   |cons a r x =>
    intro hn hw;rw[ay,bq] at hn;replace hn:=dq.mp (hn);refine aa fu ?_
    by_cases z:a.1=cq es p
    ·rw[Da (by simp[z]),xb.mpr λb hb=>?_]
     ·rfl
     have:b.1≠cq es p:=λq=>hn.1 (aa z (az q (bh.mpr (ar b hb rfl))));simp[this]
    refine aa (FB (by simp[z])) ?_;refine aa eQ ?_;refine aa eQ ?_
    rw[ay,bq] at hw;replace hw:=aW.mp (hw);exact congrArg (·+1) (x hn.2 (hw.resolve_left (λq=>z q.symm)))
  exact this I.nd f
 have d:p%32<31:=by have:=I.m7.2.2;exact Bu this
 have t:∀q,aP (eY (es,p)).1 q=(if q=p then wf (aP es (cq es p)) else if q=cq es p then iF else es.lookup q).getD 0:=λq=>by unfold aP;rw[lk];rfl
 have i:fD (eY (es,p)).1=aq.gJ (fD es) (aq.pl p) (aq.pl (cq es p)) (aP es (cq es p)):=aq.Hc f hp mk (by rw[t,FB rfl];rfl) λq k j=>by rw[t,Da (λw=>hp (by(refine az w ?_);exact k)),Da j];rfl
 refine aa i ?_
 show aq.cr (n+1) (fD es) (aq.pl p)=aq.cr n _ (aq.pl (cq es p));unfold cq at f ⊢;by_cases c:p+32∈ay es/\(p+1∈ay es->aP es (p+32)<=aP es (p+1))
 ·(refine aa (FB c) ?_);exact aq.V_ d c.1 c.2 n
 rw[Da c] at f ⊢;refine aq.Wb d f (λw=>?_) n;exact nv.mp λz=>c ⟨w,λs=>z⟩
theorem se{L:Nat}{st:List (Int×Int)×Int}(d:Nat)(I:gC L st)(h:fL st.1 st.2=[]):∃n,n<=d/\(∀i,i<n->gC L (bZ i st)/\fL (bZ i st).1 (bZ i st).2≠[])/\gC L (bZ n st)/\fL (bZ n st).1 (bZ n st).2=[] /\
  ∀k,n<=k->aq.cr k (fD st.1) (aq.pl st.2)=(fD (bZ n st).1,aq.pl (bZ n st).2):=by
 refine dp 0 (kO _) (λi q=>GM q (gU _)) I h (λk c=>?_);replace h:=vi▸h;have b:st.2+32∉ay st.1:=λw=>by(replace h:=(FB w)▸h);injection h
 have a:st.2+1∉ay st.1:=λw=>by(replace h:=(FB w)▸h);exact GM (List.append_eq_nil_iff.mp h).2 (λq=>(by injection q))
 exact aq.Wa (by have:=I.m7.2.2;exact Bu this) b a k
theorem Wd{L:Nat}:∀(d:Nat) (st:List (Int×Int)×Int),(128-st.2).toNat<=d->gC L st->∃n,n<=d/\(∀i,i<n->gC L (bZ i st)/\fL (bZ i st).1 (bZ i st).2≠[])/\gC L (bZ n st)/\fL (bZ n st).1 (bZ n st).2=[] /\
  ∀k,n<=k->aq.cr k (fD st.1) (aq.pl st.2)=(fD (bZ n st).1,aq.pl (bZ n st).2):=by
 intro d;induction d with
 |zero =>intro st a I;exact GM (Int.lt_toNat.mpr (Int.sub_pos_of_lt I.m7.2.1)) (nJ a)
 |succ d l =>
  intro st a I;by_cases h:fL st.1 st.2=[]
  ·exact se _ I h
  refine f7 (I.step h) λp o q m=>?_
  refine dD (l (eY st) (by exact Q6 o a) p) λn j g f e c=>?_
  refine dp (n+1) (mc j) (λi hi=>?_) (by rw[sb];exact f) (by rw[sb];exact e) (λk b=>?_)
  ·cases i with
   |zero=>exact xA I h
   |succ i=>rw[sb];exact g i (ma hi)
  cases k with
  |zero=>exact GM b (Nat.not_succ_le_zero _)
  |succ k=>rw[m,sb];exact c k (s_ b)
end
section
open Classical
noncomputable def r9:Stmt:=is 13
theorem JB(P:aO):di (KP P) 174 r9 "_law_slide" .none .none (.ref 173) where
 fn:=e8 (((cp (KP P) 174).map (·.doc)).getD .none) (((cp (KP P) 174).map (·.pyModule)).getD .none) iF .none (by kernel_rfl)
 code:=by kernel_rfl
 co:=by kernel_rfl
 gen:=by kernel_rfl
 kind:=by kernel_rfl
theorem It(P:aO):codeHdIn (KP P) 173 171=true:=by kernel_rfl
theorem Ll(P:aO):nsIn (KP P) b7 "min"=wf iF:=by kernel_rfl
theorem Gl.min{V:Vx}(g:Gl V.G)(h:V.T.lookup ("min":Str)=wf .globalImplicit):Glob V "min" (.builtin "min"):=g.b h Ll FK (by decide) trivial
theorem Hl:hZ (aH r9) ["numbers","free"]:=⟨by decide,by decide,by decide,by decide,by decide⟩
theorem Gq{G:Gx}(g:Gl G):gy G "_law_slide" (.ref 173) (wf (171,"_law_slide.<locals>.<lambda>")):=⟨λa q e=>by
 cases e;refine aa g.T ?_
 refine wG (.head _) (λc h=>?_) (by decide) 173 rfl (λb X=>codeHd_of_K (by(refine az g.K ?_);exact X) (It _));obtain h|h:=aW.mp h
 ·exact(eG h).2
 obtain h|h:=aW.mp h
 ·exact GM (eG h).1 (by decide)
 exact GM (eG (aK.mp h)).1 (by decide)⟩
section
variable{G:Gx}{n:Nat}
noncomputable abbrev CO(a:Addr)(st:List (Int×Int)×Int):Nm:=[("numbers",.own (.dict (wf a) st.1)),("free",.fz (.int st.2)),("nears",.fz (LI (fL st.1 st.2)))]
theorem Wc(g:Gl G)(e:4<=n){L m:Nat}{st:List (Int×Int)×Int}(o:L<=1000)(t:∀i,i<m->gC L (bZ i st)/\fL (bZ i st).1 (bZ i st).2≠[])(u:gC L (bZ m st))(r:fL (bZ m st).1 (bZ m st).2=[])(a:Addr) :
  au ⟨G,n,(aH r9).names,wf (171,"_law_slide.<locals>.<lambda>")⟩ (bodyOf r9) [("numbers",.own (.dict (wf a) st.1)),("free",.fz (.int st.2))] (.ret (.fz (.int (bZ m st).2))) (CO a (bZ m st)):=by
 refine au.cons (Ex.tN (xs:=[st.2+32,st.2+1]) (f:=DV.int) (bs:=λq=>[("near",.int q)]) (p:=λq=>(st.1.lookup q).isSome) (g:=DV.int) ⟨rfl,by decide,rfl⟩ rfl (bj.tuple (Ev.tup (aZ.two (Ev.op (Ev.var rfl) Ev.int bB.add) (Ev.op (Ev.var rfl) Ev.int bB.add)) (bl rfl))) (λq b=>⟨.name ..,by exact kz rfl⟩) (λq b=>?_) (λq b b=>Ev.var rfl) (λb b=>rfl) (bl rfl)) ?_
 ·exact bT.cmp (Ev.var rfl) (Ev.var rfl) a8.inD
 refine au.cons (Ex.while (λi=>CO a (bZ i st)) m (a?.of (cL rfl rfl rfl trivial)) (λi hi=>?_) ?_) (au.ret (Ex.Cu (bb.sc (bK.of (Ev.var rfl) rfl))))
 ·refine oA (t i hi) λI c=>?_
  refine aa (show bZ (i+1) st=eY (bZ i st) from rfl) ?_
  generalize bZ i st=s at I c;obtain⟨es,p⟩:=s;have d:es.length<=1000:=by have:=I.len;exact Q7 o this
  obtain⟨l,_⟩:=ve c;refine⟨bU.cast (bU.of (bT.cmp (d₂:=LI []) (Ev.var rfl) (aE.ev (aE.dY .nil (by decide))) (a8.kt e))) (aa (decide_eq_false c) rfl),?_⟩;have h:es.lookup (cq es p)=wf (aP es (cq es p)):=mU l;refine ar _ (au.cons (Ex.tO (a9.minKey (κ:=aP es) (M:=cq es p) (y:="numbers") (x:="near") e rfl (g.min rfl) (Ev.var rfl) c rfl rfl (λq j=>mU (eW.mpr (bN.mp j).2)) Lb rfl rfl (by decide) rfl rfl rfl rfl rfl rfl rfl) rfl rfl) ?_) (a?.refl _);refine au.cons (Ex.kD (k:=p) (es:=es.filter λq=>!decide (q.1=cq es p)) (es':=es.filter λq=>!decide (q.1=cq es p)) (a9.U7 rfl (bK.of (Ev.var rfl) rfl) h (bF d (by decide))) rfl (a9.sc (bK.of (Ev.var rfl) rfl)) cJ rfl (bF (iz ..) (bF d (by decide)))) (au.cons (Ex.assign (bb.sc (bK.of (Ev.var rfl) rfl)) rfl) (au.drop (au.last (Ex.tN (xs:=[cq es p+32,cq es p+1]) (f:=DV.int) (bs:=λq=>[("near",.int q)]) (p:=λq=>((eY (es,p)).1.lookup q).isSome) (g:=DV.int) ⟨rfl,by decide,rfl⟩ rfl (bj.tuple (Ev.tup (aZ.two (Ev.op (Ev.var rfl) Ev.int bB.add) (Ev.op (Ev.var rfl) Ev.int bB.add)) (bl rfl))) (λq b=>⟨.name ..,by exact kz rfl⟩) (λq b=>?_) (λq b b=>Ev.var rfl) (λb b=>rfl) (bl rfl))) (a?.of (cL rfl rfl rfl trivial))));exact bT.cmp (Ev.var rfl) (Ev.var rfl) a8.inD
 exact bU.cast (bU.of (bT.cmp (d₂:=LI []) (Ev.var rfl) (aE.ev (aE.dY .nil (by decide))) (a8.kt e))) (by(refine aa (decide_eq_true r) ?_);rfl)
theorem V9{st:List (Int×Int)×Int}:∀{m:Nat},(∀i,i<m->fL (bZ i st).1 (bZ i st).2≠[])->(∀x∈ay (bZ m st).1,x∈ay st.1\/x=st.2)/\((bZ m st).2∈ay st.1\/(bZ m st).2=st.2):=by
 intro l0;induction l0 with
 |zero =>intro _;exact⟨λx h=>.inl h,.inr rfl⟩
 |succ m g =>
  intro h;refine oA (g λi hi=>h i (ga hi)) λd f=>?_
  have a:=h m (gc m);refine aa (show bZ (m+1) st=eY (bZ m st) from rfl) ?_
  generalize bZ m st=s at d f a;refine oA (ve a) λj l=>(xA (λx c=>?_) (d _ j));have c:=c;have b:∀(es:List (Int×Int)) (k v:Int),x∈ay (eZ es k v)->x∈ay es\/x=k:=λes k v h=>by
   unfold eZ at h;split at h
   ·rw[ay,dW] at h;refine ak (bh.mp h) λp hp e=>(.inl (bh.mpr (ar p hp ?_)));refine az e ?_
    simp only[no];split<;>rfl
   rw[ay,bf] at h;replace h:=aT.mp (h);exact h.imp id aK.mp
  obtain w|w:=b _ _ _ c
  ·refine ak (bh.mp w) λp hp e=>?_
   exact d x (bh.mpr (ar p ((bN.mp hp).1) e))
  (refine aa w ?_);exact f
theorem E_(g:Gl G)(j:4<=n){L:Nat}{es:List (Int×Int)}{p:Int}(l:L<=1000)(I:gC L (es,p)):∃es' b,gC L (es',b)/\(∀x∈ay es',x∈ay es\/x=p)/\aq.cr 128 (fD es) (aq.pl p)=(fD es',aq.pl b)/\j8 G (n+1) 174 es [.int p] es' (.int b):=by
 obtain⟨m,r,e,c,q,o⟩:=Wd 128 (es,p) (by have:=I.m7.1;exact Q8 this) I;refine dc _ _ c ((V9 λi hi=>(e i hi).2).1) (o 128 r) (j8.fn (y:="numbers") (ps:=["free"]) (Gq g) (aa g.K (JB _)) Hl (λvs h doc pm an ct S=>?_) rfl (λd k=>aa (aK.mp k) rfl) rfl λa=>ar _ (Wc g j l e c q a) rfl);refine fM (ro h) λv u f=>?_
 obtain rfl:=f;(refine aa g.K ?_);kernel_rfl
end
end
noncomputable def iN(Nd:Int->List Int)(ts:List Int)(k:Int):Int:=((ts.filter λt=>decide (k∈Nd t)).length:Int)
theorem B7:∀(r:List Int) (np:Int->Int) (k:Int),outs r np k=if k∈r then -1 else np k:=by
 intro l0;induction l0 with
 |nil =>intro np k;rfl
 |cons a r b =>
  intro np k;have b:=b (bA np a (-1)) k;show outs r (bA np a (-1)) k=_;rw[b];by_cases h:k∈r
  ·simp[h]
  by_cases c:k=a
  ·subst c;simp[h]
  rw[Da h,cY c,Da (by simp[c,h])]
theorem GL:∀(ss:List Int) (np:Int->Int) (rd:List Int),ss.Nodup->(∀k,(dt np rd ss).1 k=if k∈ss then np k-1 else np k)/\(dt np rd ss).2=rd++ss.filter λk=>decide (np k=1):=by
 intro l0;induction l0 with
 |nil =>intro np rd _;exact⟨λk=>by rfl,(dw _).symm⟩
 |cons a r f =>
  intro np rd hn;replace hn:=dq.mp (hn);have e:dt np rd (a::r)=dt (dec (np,rd) a).1 (dec (np,rd) a).2 r:=rfl;refine oA (f (dec (np,rd) a).1 (dec (np,rd) a).2 hn.2) λh g=>?_
  rw[e];refine xA (λk=>?_) ?_
  ·rw[h];show(if k∈r then bA np a (np a-1) k-1 else bA np a (np a-1) k)=_;by_cases b:k=a
   ·subst b;simp[hn.1]
   rw[cY b];simp[b]
  rw[g];have i:(r.filter λk=>decide ((dec (np,rd) a).1 k=1))=r.filter λk=>decide (np k=1):=by
   refine sQ λk b=>?_
   have c:k≠a:=λq=>hn.1 (q▸b);show decide (bA np a (np a-1) k=1)=_;rw[cY c]
  rw[i,fu];show(if np a-1=0 then rd++[a] else rd)++_=_;by_cases d:np a=1
  ·rw[FB (T8 d),FB (decide_eq_true ‹_›)];exact eF ..
  rw[Da (T9 d),Da (by simpa using d)]
structure Net(ts:List Int)(Sc:Int->List Int)(rk:Int->Nat):Prop where
 nd:ts.Nodup
 wg:∀t,(Sc t).Nodup
 lt:∀t,∀i∈Sc t,t∈ts/\i∈ts/\rk i<rk t
structure SI(ts:List Int)(Sc:Int->List Int)(σ:ca)(rd row done:List Int):Prop where
 ks:σ.g.ks=ts
 sc:∀k,σ.g.sc k=Sc k
 c_:σ.rd=wf rd
 po:σ.po=(done.length:Int)+row.length
 nf:σ.nf=done.length
 nd:(done++(row++rd)).Nodup
 sub:∀k∈done++(row++rd),k∈ts
 mem:∀k∈ts,(∀t∈ts,k∈Sc t->t∈done)->k∈done++(row++rd)
 dep:∀k∈done++(row++rd),∀t∈ts,k∈Sc t->t∈done
 cnt:∀k∈ts,k∉done++(row++rd)->σ.g.np k=iN Sc (ts.filter λt=>decide (t∉done)) k
 out:∀k∈row,σ.g.np k=-1
noncomputable def iq(σ:ca):ca:={ σ with g:={ σ.g with np:=outs (σ.rd.getD []) σ.g.np },rd:=wf [],po:=σ.po+(σ.rd.getD []).length }
section
variable{ts:List Int}{Sc:Int->List Int}{rk:Int->Nat}{σ:ca}{rd row done:List Int}
theorem SI.perm(x:SI ts Sc σ rd row done){row':List Int}(hp:row'.Perm row):SI ts Sc σ rd row' done:=by
 have b:∀k,k∈done++(row'++rd)↔k∈done++(row++rd):=λk=>by rw[aT,aT,aT,aT,hp.mem_iff]
 exact⟨x.ks,x.sc,x.c_,by rw[hp.length_eq];exact x.po,x.nf,(D7 done (D8 rd hp)).nodup_iff.mpr x.nd,λk a=>x.sub k ((b k).mp a),λk a h=>(b k).mpr (x.mem k a h),λk a=>x.dep k ((b k).mp a),
  λk a c=>x.cnt k a λq=>c ((b k).mpr q),λk a=>x.out k (hp.mem_iff.mp a)⟩
theorem SI.ready(x:SI ts Sc σ rd row done):SI ts Sc (iq σ) [] (row++rd) done:=by
 have e:σ.rd.getD []=rd:=by rw[x.c_];rfl
 refine⟨x.ks,x.sc,rfl,?_,x.nf,by rw[dw];exact x.nd,λk hk=>x.sub k (by rwa [dw] at hk),λk hk h=>by rw[dw];exact x.mem k hk h,λk hk=>x.dep k (by rwa [dw] at hk),λk hk hn=>?_,λk hk=>?_⟩
 ·show σ.po+((σ.rd.getD []).length:Nat)=_;rw[e,x.po,cA]
  push_cast
  exact T!
 ·rw[dw] at hn;show outs (σ.rd.getD []) σ.g.np k=_;rw[e,B7,Da (λq=>hn (bt _ (bt _ ‹_›)))];exact x.cnt k hk hn
 show outs (σ.rd.getD []) σ.g.np k=_;rw[e,B7];split
 ·rfl
 rename_i h;obtain q|q:=aT.mp hk
 ·exact x.out k q
 exact GM q h
theorem tY{b:Int}(c:ts.Nodup)(l:b∈ts)(h:b∉done)(k:Int) :
  iN Sc (ts.filter λt=>decide (t∉done)) k=iN Sc (ts.filter λt=>decide (t∉done++[b])) k+if k∈Sc b then 1 else 0:=by
 unfold iN;rw[D_,D_];induction ts with
 |nil=>cases l
 |cons a r f =>
  rw[dq] at c;by_cases d:a=b
  ·subst d;have e:(r.filter λt=>decide (k∈Sc t)&&decide (t∉done))=r.filter λt=>decide (k∈Sc t)&&decide (t∉done++[a]):=by
    refine sQ λt m=>?_
    have g:t≠a:=λq=>c.1 (q▸m);simp[g]
   rw[fu,fu,e];by_cases j:k∈Sc a
   ·simp[j,h]
   simp[j]
  have i:b∈r:=by
   obtain q|q:=aW.mp l
   ·exact GM q.symm d
   exact q
  have f:=f c.2 i;rw[fu,fu];have n:(decide (k∈Sc a)&&decide (a∉done++[b]))=(decide (k∈Sc a)&&decide (a∉done)):=by simp[d]
  rw[n];cases(decide (k∈Sc a)&&decide (a∉done)) with
  |true=>rw[FB rfl,FB rfl,eQ,eQ];push_cast;exact T? f
  |false=>rw[Da dE,Da dE];exact f
theorem qD{k:Int}:iN Sc ts k=0↔∀t∈ts,k∉Sc t:=by
 delta iN;constructor
 ·intro h t a b;have:t∈ts.filter λt=>decide (k∈Sc t):=bN.mpr ⟨a,decide_eq_true b⟩;have c:=Ej this;exact T_ h c
 intro h;refine aa (sR.mpr λt a=>by simp[h t a]) ?_
 rfl
theorem GV(b:Int)(σ:ca):ff [b] σ={ σ with g:={ σ.g with np:=(dt (bA σ.g.np b (-2)) (σ.rd.getD []) (σ.g.sc b)).1 },rd:=wf (dt (bA σ.g.np b (-2)) (σ.rd.getD []) (σ.g.sc b)).2,nf:=σ.nf+1 }:=rfl
theorem SI.t8{b:Int}(nt:Net ts Sc rk)(x:SI ts Sc σ rd (row++[b]) done):∃lJ,SI ts Sc (ff [b] σ) lJ row (done++[b]):=by
 have oT:b∈done++((row++[b])++rd):=by simp
 have qZ:=x.sub b oT;have g8:=x.nd;have qY:b∉done:=λq=>by replace g8:=cQ.mp (g8);exact g8.2.2 b q b (b? _ (bt _ (.head _))) rfl
 have Ii:b∉row:=λq=>by replace g8:=cQ.mp (g8);have:=g8.2.1;rw[cQ,cQ] at this;exact this.1.2.2 b q b (.head _) rfl
 rw[GV];have uc:σ.rd.getD []=rd:=by(refine aa x.c_ ?_);rfl
 refine aa uc ?_;refine aa (x.sc b) ?_
 refine oA (GL (Sc b) (bA σ.g.np b (-2)) rd (nt.wg b)) λd1 d2=>?_
 have zq:=λq=>dz _ (nt.lt b b q).2.2;have q8:=λi hi q=>qY (x.dep i q b qZ hi);have hold:∀k,k∈done++((row++[b])++rd)↔k∈(done++[b])++(row++rd):=λk=>by
  simp only[aT,aK];constructor
  ·rintro(h|(h|h)|h)
   ·exact .inl (.inl h)
   ·exact .inr (.inl h)
   ·exact .inl (.inr h)
   exact .inr (.inr h)
  rintro((h|h)|(h|h))
  ·exact .inl h
  ·exact .inr (.inl (.inr h))
  ·exact .inr (.inl (.inl h))
  exact .inr (.inr h)
 have oX:∀i,(i∈(Sc b).filter λk=>decide (bA σ.g.np b (-2) k=1))↔i∈Sc b/\iN Sc (ts.filter λt=>decide (t∉done++[b])) i=0:=λi=>by
  rw[bN];constructor
  ·intro Vi;refine oA Vi λh1 h2=>(xA h1 ?_);have uF:i≠b:=λq=>zq (q▸h1);have h3:=of_decide_eq_true h2;replace h3:=(cY uF)▸h3;have h4:=x.cnt i (nt.lt b i h1).2.1 (q8 i h1);have h5:=tY (Sc:=Sc) nt.nd qZ qY i;replace h5:=(FB h1)▸h5;exact Ua h3 h4 h5
  intro Vk;refine oA Vk λh1 h2=>(xA h1 (decide_eq_true ?_));have uF:i≠b:=λq=>zq (q▸h1);refine aa (cY uF) ?_
  have h4:=x.cnt i (nt.lt b i h1).2.1 (q8 i h1);have h5:=tY (Sc:=Sc) nt.nd qZ qY i;replace h5:=(FB h1)▸h5;exact Ub h2 h4 h5
 generalize Ia:((Sc b).filter λk=>decide (bA σ.g.np b (-2) k=1))=nw at d2 oX;refine xE (rd++nw) ⟨x.ks,x.sc,aa d2 rfl,?_,?_,?_,λk hk=>?_,λk hk hd=>?_,λk hk t ht ll=>?_,λk hk hn=>?_,λk hk=>?_⟩
 ·refine aa x.po ?_;refine aa cA ?_;refine aa cA ?_
  push_cast
  exact Uc
 ·refine aa x.nf ?_;refine aa cA ?_
  rfl
 ·have e:(done++[b])++(row++(rd++nw))=((done++[b])++(row++rd))++nw:=by simp
  rw[e];refine cQ.mpr (?_);refine aC ?_ ?_ (λa ha c hc q=>?_)
  ·have:((done++[b])++(row++rd)).Perm (done++((row++[b])++rd)):=by
    rw[eF];refine D7 done ?_
    rw[<-eF];exact D8 rd xq
   exact this.nodup_iff.mpr g8
  ·(refine az Ia ?_);exact(nt.wg b).sublist gS
  subst q;exact q8 a ((oX a).mp hc).1 ((hold a).mpr ha)
 ·have e:(done++[b])++(row++(rd++nw))=((done++[b])++(row++rd))++nw:=by simp
  rw[e] at hk;replace hk:=aT.mp (hk);obtain hk|hk:=hk
  ·exact x.sub k ((hold k).mpr hk)
  exact(nt.lt b k ((oX k).mp hk).1).2.1
 ·have e:(done++[b])++(row++(rd++nw))=((done++[b])++(row++rd))++nw:=by simp
  rw[e];refine aT.mpr (?_);by_cases zw:k∈done++((row++[b])++rd)
  ·exact .inl ((hold k).mp zw)
  right;rw[oX];have hz:iN Sc (ts.filter λt=>decide (t∉done++[b])) k=0:=qD.mpr λt ht ll=>by
   refine oA (bN.mp ht) λh1 h2=>?_
   exact(of_decide_eq_true h2) (hd t h1 ll)
  refine xA ?_ hz
  by_cases mQ:k∈Sc b
  ·exact mQ
  exfalso;refine zw (x.mem k hk λt ht ll=>?_);have:=hd t ht ll;rw[aT,aK] at this;obtain q|q:=this
  ·exact q
  subst q;exact GM ll mQ
 ·have e:(done++[b])++(row++(rd++nw))=((done++[b])++(row++rd))++nw:=by simp
  rw[e] at hk;replace hk:=aT.mp (hk);obtain hk|hk:=hk
  ·exact b? _ (x.dep k ((hold k).mpr hk) t ht ll)
  have hz:=qD.mp ((oX k).mp hk).2;exact DN λq=>hz t (bN.mpr ⟨ht,decide_eq_true q⟩) ll
 ·have e:(done++[b])++(row++(rd++nw))=((done++[b])++(row++rd))++nw:=by simp
  rw[e,aT] at hn;have q7:k∉done++((row++[b])++rd):=λq=>hn (.inl ((hold k).mp q));have mQ:k≠b:=λq=>q7 (q▸oT);have h4:=x.cnt k hk q7;have h5:=tY (Sc:=Sc) nt.nd qZ qY k;show(dt (bA σ.g.np b (-2)) rd (Sc b)).1 k=_;rw[d1,cY mQ];split
  ·rename_i h;(replace h5:=(FB h)▸h5);exact Ud h4 h5
  rename_i h;(replace h5:=(Da h)▸h5);exact Ue h4 h5
 have mQ:k≠b:=λq=>Ii (q▸hk);show(dt (bA σ.g.np b (-2)) rd (Sc b)).1 k=_;rw[d1,cY mQ,Da (λq=>q8 k q (by simp[hk]))];exact x.out k (b? _ ‹_›)
theorem SI.all(f:Net ts Sc rk)(x:SI ts Sc σ [] [] done):∀k∈ts,k∈done:=by
 obtain⟨N,i⟩:∃N,∀k∈ts,rk k<N:=by
  clear f x;induction ts with
  |nil=>exact⟨0,λk h=>by cases h⟩
  |cons a r c =>
   obtain⟨N,h⟩:=c;refine⟨N+rk a+1,λk hk=>?_⟩;obtain rfl|hk:=aW.mp hk
   ·exact Uf
   have:=h k hk;exact Ug this
 have b:∀(d:Nat) (k:Int),N-rk k<=d->k∈ts->k∈done:=by
  intro d;induction d with
  |zero=>intro k j hk;have:=i k hk;lia
  |succ d c =>intro k j hk;have:=x.mem k hk λt g e=>c t (by have:=(f.lt t k e).2.2;have:=i t g;lia) g;simpa using this
 exactλk hk=>b _ k (bD _) hk
end
structure fT(g:Gr):Prop where
 nd:g.ks.Nodup
 off:∀x,x∉g.ks->g.np x=0/\g.sc x=[]
theorem fT.empty:fT .empty:=⟨iB,λa a=>⟨rfl,rfl⟩⟩
section
variable{g:Gr}{k x p node:Int}{preds:List Int}
theorem oC:x∈(bO k g).ks↔x∈g.ks\/x=k:=by
 unfold bO;split
 ·rename_i h;exact⟨.inl,λq=>q.elim id λe=>e▸h⟩
 exact⟨λq=>(aT.mp q).imp id aK.mp,λq=>aT.mpr (q.imp id aK.mpr)⟩
theorem ke(o:fT g):(bO k g).np x=g.np x/\(bO k g).sc x=g.sc x:=by
 unfold bO;split
 ·exact⟨rfl,rfl⟩
 rename_i h;show bA g.np k 0 x=_/\bA g.sc k [] x=_;by_cases e:x=k
 ·subst e;rw[eO,eO];exact⟨(o.off x h).1.symm,(o.off x h).2.symm⟩
 rw[cY e,cY e];exact⟨rfl,rfl⟩
theorem fT.bO(o:fT g):fT (bO k g):=by
 refine⟨?_,λx hx=>?_⟩
 ·unfold Internal.bO;split
  ·exact o.nd
  rename_i h;show(g.ks++[k]).Nodup;rw[cQ];exact⟨o.nd,dq.mpr ⟨aX,iB⟩,λa ha b hb w=>h (by rw[<-aK.mp hb,<-w];exact ha)⟩
 rw[oC,not_or] at hx;rw[(ke o).1,(ke o).2];exact o.off x hx.1
theorem G3(o:fT g):fT (addEdge node p g)/\(∀x,(addEdge node p g).np x=g.np x)/\(∀x,(addEdge node p g).sc x=if x=p then g.sc x++[node] else g.sc x)/\∀x,x∈(addEdge node p g).ks↔x∈g.ks\/x=p:=by
 have hs:∀x,(addEdge node p g).sc x=if x=p then g.sc x++[node] else g.sc x:=λx=>by
  show bA (Internal.bO p g).sc p ((Internal.bO p g).sc p++[node]) x=_;by_cases e:x=p
  ·subst e;rw[eO,FB rfl,(ke o).2]
  rw[cY e,Da e,(ke o).2]
 refine cL ⟨o.bO.nd,λx b=>?_⟩ (λx=>(ke o).1) hs (λx=>oC);have a:x∉(Internal.bO p g).ks:=b;have c:=o.bO.off x a;refine⟨c.1,?_⟩;rw[oC,not_or] at a;rw[hs,Da a.2,(o.off x a.1).2]
theorem G4{node:Int}:∀{preds:List Int} {g:Gr},fT g->preds.Nodup->fT (preds.foldl (λg p=>addEdge node p g) g)/\(∀x,(preds.foldl (λg p=>addEdge node p g) g).np x=g.np x) /\
  (∀x,(preds.foldl (λg p=>addEdge node p g) g).sc x=if x∈preds then g.sc x++[node] else g.sc x)/\∀x,x∈(preds.foldl (λg p=>addEdge node p g) g).ks↔x∈g.ks\/x∈preds:=by
 intro l0;induction l0 with
 |nil =>intro g o _;exact cL o (λm=>rfl) (λx=>(Da aX).symm) (λx=>⟨.inl,λq=>q.resolve_right aX⟩)
 |cons p r i =>
  intro g o hn;replace hn:=dq.mp (hn);refine f7 (G3 (node:=node) (p:=p) o) λh l k j=>?_
  obtain⟨f,d,c,b⟩:=i h hn.2;refine cL f (λx=>(d x).trans (l x)) (λx=>?_) (λx=>?_)
  ·rw[hO,c,k];by_cases e:x=p
   ·refine aa e ?_
    rw[Da hn.1,FB rfl,FB (.head _)]
   rw[Da e];by_cases a:x∈r
   ·rw[FB a,FB (.tail _ a)]
   rw[Da a,Da (λw=>(aW.mp w).elim e a)]
  rw[hO,b,j,aW,or_assoc]
theorem Fc(o:fT g)(i:preds.Nodup):fT (iK k preds g)/\(∀x,(iK k preds g).np x=if x=k then g.np x+(preds.length:Int) else g.np x) /\
  (∀x,(iK k preds g).sc x=if x∈preds then g.sc x++[k] else g.sc x)/\∀x,x∈(iK k preds g).ks↔(x∈g.ks\/x=k)\/x∈preds:=by
 have d:fT (g5 k preds.length g):=⟨o.bO.nd,λx h=>by have a:x∉(Internal.bO k g).ks:=h;have b:=o.bO.off x a;have c:x≠k:=λe=>a (oC.mpr (.inr e));exact⟨by show bA _ k _ x=_;rw[cY c];exact b.1,b.2⟩⟩
 refine f7 (G4 (node:=k) (preds:=preds) d i) λf b l j=>(cL f (λx=>(b x).trans ?_) (λx=>(l x).trans ?_) (λx=>(j x).trans ?_))
 ·show bA (Internal.bO k g).np k ((Internal.bO k g).np k+(preds.length:Int)) x=_;by_cases e:x=k
  ·subst e;rw[eO,FB rfl,(ke o).1]
  rw[cY e,Da e,(ke o).1]
 ·rw[show(g5 k preds.length g).sc x=g.sc x from(ke o).2]
 rw[show x∈(g5 k preds.length g).ks↔x∈g.ks\/x=k from oC]
end
theorem B_{l l':List Int}(h:l.Nodup)(h':l'.Nodup)(b:∀a,a∈l↔a∈l'):l.length=l'.length:=((nE h h').mpr b).length_eq
noncomputable def bG(pr:Int->List Int)(ts:List Int):Gr:=ts.foldl (λg t=>iK t (pr t) g) .empty
theorem tQ{pr:Int->List Int}{ts:List Int}{t:Int}:bG pr (ts++[t])=iK t (pr t) (bG pr ts):=by unfold bG;rw[gu];rfl
structure Gb(pr:Int->List Int)(ts:List Int)(g:Gr):Prop where
 ok:fT g
 np:∀x,g.np x=if x∈ts then((pr x).length:Int) else 0
 sc:∀x,g.sc x=ts.filter λt=>decide (x∈pr t)
 mem:∀x,x∈g.ks↔x∈ts\/∃t∈ts,x∈pr t
theorem Gb.nil{pr:Int->List Int}:Gb pr [] .empty:=⟨fT.empty,λa=>rfl,λa=>rfl,λx=>⟨λh=>GM h aX,λh=>h.elim (λq=>GM q aX) λ⟨t,h,_⟩=>GM h aX⟩⟩
theorem Gb.add{pr:Int->List Int}{ts:List Int}{g:Gr}{t:Int}(b:Gb pr ts g)(c:t∉ts)(d:(pr t).Nodup):Gb pr (ts++[t]) (iK t (pr t) g):=by
 refine f7 (Fc (k:=t) b.ok d) λo j i f=>⟨o,λx=>?_,λx=>?_,λx=>?_⟩
 ·rw[j,b.np];by_cases e:x=t
  ·subst e;rw[FB rfl,Da c,FB (bt _ (.head _)),pX]
  rw[Da e];by_cases a:x∈ts
  ·rw[FB a,FB (b? _ a)]
  rw[Da a,Da (λw=>(aT.mp w).elim a λz=>e (aK.mp z))]
 ·rw[i,b.sc,p0,fu,xc];by_cases e:x∈pr t
  ·rw[FB e,FB (decide_eq_true e)]
  rw[Da e,Da (by rw[decide_eq_false e];exact dE),dw]
 rw[f,b.mem];constructor
 ·intro h;obtain h|h:=h
  ·obtain h|h:=h
   ·obtain h|h:=h
    ·exact .inl (b? _ h)
    refine ak h λs h h'=>?_
    exact .inr (ar s (b? _ h) h')
   exact .inl (by rw[h];exact bt _ (.head _))
  exact .inr ⟨t,bt _ (.head _),h⟩
 rintro(h|⟨s,h,h'⟩)
 ·obtain h|h:=aT.mp h
  ·exact .inl (.inl (.inl h))
  exact .inl (.inr (aK.mp h))
 obtain h|h:=aT.mp h
 ·exact .inl (.inl (.inr ⟨s,h,h'⟩))
 rw[aK.mp h] at h';exact .inr h'
theorem uq{pr:Int->List Int}{ts:List Int}(a:ts.Nodup)(b:∀t∈ts,(pr t).Nodup):∀i,Gb pr (ts.take i) (bG pr (ts.take i)):=by
 intro l0;induction l0 with
 |zero =>exact Gb.nil
 |succ i d =>
  cases h:ts[i]? with
  |none=>rw[iC,h];simpa using d
  |some t =>
   rw[i! h,tQ];refine(d).add (λg=>?_) (b t (en h));refine oE (dG.mp h) λc e=>?_
   have f:=a;rw[<-p9 i ts,cQ] at f;exact f.2.2 t g t (by rw[w! c,e];exact xk) rfl
structure Told(pr:Int->List Int)(rk:Int->Nat)(ts:List Int):Prop where
 nd:ts.Nodup
 rX:∀t∈ts,(pr t).Nodup
 lt:∀t∈ts,∀x∈pr t,x∈ts/\rk t<rk x
noncomputable abbrev i6(pr:Int->List Int)(ts:List Int)(x:Int):List Int:=ts.filter λt=>decide (x∈pr t)
noncomputable def sT(pr:Int->List Int)(ts:List Int):ca:=⟨bG pr ts,wf ((bG pr ts).ks.filter λk=>(bG pr ts).np k==0),0,0⟩
section
variable{pr:Int->List Int}{rk:Int->Nat}{ts:List Int}
theorem Told.gb(x:Told pr rk ts):Gb pr ts (bG pr ts):=by have:=uq x.nd x.rX ts.length;rwa [fv] at this
theorem Told.ks(x:Told pr rk ts)(k:Int):k∈(bG pr ts).ks↔k∈ts:=by rw[x.gb.mem];exact⟨λh=>h.elim id λ⟨t,b,a⟩=>(x.lt t b k a).1,.inl⟩
theorem Told.rl(x:Told pr rk ts):(bG pr ts).ks.length=ts.length:=(B_ x.gb.ok.nd x.nd x.ks)
theorem Told.mX(x:Told pr rk ts):Net (bG pr ts).ks (i6 pr ts) rk:=by
 refine⟨x.gb.ok.nd,λt=>x.nd.sublist gS,λt i hi=>?_⟩;obtain⟨b,a⟩:=bN.mp hi;have a:=of_decide_eq_true a;refine oA (x.lt i b t a) λd c=>?_
 exact aC ((x.ks t).mpr d) ((x.ks i).mpr b) c
theorem Told.cnt(x:Told pr rk ts){k:Int}(a:k∈ts):(bG pr ts).np k=iN (i6 pr ts) (bG pr ts).ks k:=by rw[x.gb.np,FB a];unfold iN;refine congrArg (λn:Nat=>(n:Int)) (B_ (x.rX k a) (x.gb.ok.nd.sublist gS) λt=>?_);rw[bN,decide_eq_true_iff,bN,decide_eq_true_iff];exact⟨λh=>⟨(x.ks t).mpr (x.lt k a t h).1,a,h⟩,λh=>h.2.2⟩
theorem Told.si(x:Told pr rk ts):∃rd,SI (bG pr ts).ks (i6 pr ts) (sT pr ts) rd [] []:=by
 refine⟨_,rfl,x.gb.sc,rfl,rfl,rfl,?_,λk a=>?_,λk a h=>?_,λk a t c b=>?_,λk a g=>?_,λk a=>GM a aX⟩
 ·show((bG pr ts).ks.filter _).Nodup;exact x.gb.ok.nd.sublist gS
 ·exact(bN.mp (show k∈(bG pr ts).ks.filter _ from a)).1
 ·show k∈(bG pr ts).ks.filter _;rw[bN,beq_iff_eq,x.cnt ((x.ks k).mp a)];exact⟨a,qD.mpr λt c b=>GM (h t c b) aX⟩
 ·refine oA (bN.mp (show k∈(bG pr ts).ks.filter _ from a)) λe d=>?_
  rw[beq_iff_eq,x.cnt ((x.ks k).mp e)] at d;exact GM b (qD.mp d t c)
 show(bG pr ts).np k=_;rw[x.cnt ((x.ks k).mp a),xb.mpr (λt f=>decide_eq_true aX)]
end
structure j9{δ:Type}(lt:δ->δ->Bool):Prop where
 ya:∀a b,lt a b=true->lt b a=false
 neg:∀a b c,lt a b=false->lt b c=false->lt a c=false
theorem j9.int:j9 (λa b:Int=>decide (a<b)):=⟨λa b h=>by simp at *;exact rO h,λa b c e d=>by simp at *;exact vE e d⟩
section
variable{δ:Type}{lt:δ->δ->Bool}{κ:Int->δ}{xs:List Int}{x:Int}
abbrev j?(lt:δ->δ->Bool)(κ:Int->δ)(xs:List Int):Prop:=xs.Pairwise λa b=>lt (κ b) (κ a)=false
noncomputable abbrev re(lt:δ->δ->Bool)(κ:Int->δ)(row:List Int)(t:Int):List Int:=iT (λy=>lt (κ t) (κ y)) t row
theorem JH(p:Int->Bool)(x:Int)(xs:List Int):(iT p x xs).Perm (x::xs):=by refine Em.trans (List.Perm.cons x ?_);rw[Eo]
theorem Wg(o:j9 lt)(hs:j? lt κ xs):∀i j (hi:i<=j) (a:j<xs.length),lt (κ x) (κ (xs[i]'(rP hi a)))=true->lt (κ x) (κ xs[j])=true:=λi j hi a h=>by
 by_cases e:i=j
 ·subst e;exact h
 have:=p7.mp hs i j (by omega) a (by lia);cases q:lt (κ x) (κ xs[j]) with
 |true=>rfl
 |false=>rw[o.neg _ _ _ q this] at h;injection h
theorem JI(o:j9 lt)(hs:j? lt κ xs):j? lt κ (re lt κ xs x):=by
 unfold re iT;have zC:=hs;rw[<-Eo (p:=λy=>!lt (κ x) (κ y)) (l:=xs),j?,dx] at hs;obtain⟨h1,h2,h3⟩:=hs;have hx:∀y∈xs.takeWhile (λy=>!lt (κ x) (κ y)),lt (κ x) (κ y)=false:=λy hy=>by
  have qX:∀(l:List Int),y∈l.takeWhile (λy=>!lt (κ x) (κ y))->lt (κ x) (κ y)=false:=by
   intro l;induction l with
   |nil=>intro h;cases h
   |cons a r ih =>
    refine aa xr ?_
    intro h;split at h
    ·rename_i q;obtain rfl|h:=aW.mp h
     ·simpa using q
     exact ih h
    cases h
  exact qX _ hy
 have hz:∀z∈xs.dropWhile (λy=>!lt (κ x) (κ y)),lt (κ z) (κ x)=false:=by
  generalize hd:xs.dropWhile (λy=>!lt (κ x) (κ y))=d at h2;cases d with
  |nil=>intro z hz;cases hz
  |cons a r =>
   have ha:lt (κ x) (κ a)=true:=by
    have:∀(l:List Int),l.dropWhile (λy=>!lt (κ x) (κ y))=a::r->lt (κ x) (κ a)=true:=by
     intro l;induction l with
     |nil=>intro h;injection h
     |cons b q ih =>
      refine aa w8 ?_
      intro h;split at h
      ·exact ih h
      rename_i w;injection h with h;subst h;simpa using w
    exact this _ hd
   rw[dH] at h2;intro z hz;obtain rfl|hz:=aW.mp hz
   ·exact o.ya _ _ ha
   have h4:=h2.1 z hz;refine k9 (x:=lt (κ x) (κ z)) (λq=>?_) (λq=>?_)
   ·exact o.ya _ _ q
   rw[o.neg _ _ _ q h4] at ha;injection ha
 rw[j?];refine dx.mpr (?_);refine aC h1 ?_ (λa ha b hb=>?_)
 ·rw[dH];exact⟨hz,h2⟩
 obtain rfl|hb:=aW.mp hb
 ·exact hx a ha
 exact h3 a ha b hb
noncomputable abbrev jF(lt:δ->δ->Bool)(κ:Int->δ)(row rd:List Int):List Int:=rd.foldl (re lt κ) row
theorem zJ(o:j9 lt):∀(rd:List Int) {row:List Int},j? lt κ row->j? lt κ (jF lt κ row rd):=by
 intro l0;induction l0 with
 |nil =>intro _ h;exact h
 |cons a r b =>intro _ h;exact b (JI o h)
theorem u1:∀(rd row:List Int),(jF lt κ row rd).Perm (row++rd):=by
 intro l0;induction l0 with
 |nil =>intro row;rw[dw];exact D9 _
 |cons a r b =>
  intro row;refine(b (re lt κ row a)).trans (((JH _ a row).append_right r).trans ?_);refine aa l8 ?_
  exact Em.symm
end
section
variable{G:Gx}{n:Nat}{ts:List Int}{Sc:Int->List Int}{rk:Int->Nat}{σ:ca}{rd row done:List Int}
theorem SI.oq(b:G.K=KP G.w.params)(x:SI ts Sc σ rd row done)(hz:ts.length<=1000):Act G (n+1) 117 σ [] (iq σ) (.tuple (rd.map DV.int)):=by
 have h:=Internal.oq (n:=n) b x.c_ (by have c:=x.nd;have:=gr (cQ.mp (cQ.mp c).2.1).2.1 (l₂:=ts) (λk a=>x.sub k (bt _ (bt _ ‹_›)));exact Uh hz this) (λk a=>by(refine aa x.ks ?_);exact x.sub k (bt _ (bt _ ‹_›)))
 have e:σ.rd.getD []=rd:=aa x.c_ rfl;delta iq;(refine aa e ?_);exact h
theorem SI.r2(x:SI ts Sc σ rd row done):rd.length<=ts.length:=gr (cQ.mp (cQ.mp x.nd).2.1).2.1 (λk a=>x.sub k (bt _ (bt _ a)))
theorem SI.qv{b:Int}(m:G.K=KP G.w.params)(a:Net ts Sc rk)(x:SI ts Sc σ rd (row++[b]) done)(hz:ts.length<=1000):kY G (n+1) 138 σ ([b].map DV.int) (ff [b] σ) .none:=by
 have j:b∈row++[b]:=bt _ (.head _);have f:=x.sub b (bt _ (b? _ j));refine oE (x.t8 a) λl g=>(Internal.qv m x.c_ (bl rfl) (λk h=>aa x.ks (aa (aK.mp h) f)) (λk h=>⟨λy c=>?_,?_⟩) (λi hi=>?_) (λi hi=>?_))
 ·refine aa x.ks ?_
  rw[x.sc] at c;exact(a.lt k y c).2.1
 ·rw[x.sc];have:=gr (a.wg k) λy c=>(a.lt k y c).2.1;exact Ui hz this
 ·have d:i=0:=by have:i<1:=hi;exact Uj this
  subst d;exact x.out b j
 have e:i<=1:=hi
 match i,e with
 |0,_ =>
  show(σ.rd.getD []).length<=8000;refine aa x.c_ ?_
  have:=x.r2;exact BY hz this
 |1,_ =>
  show((ff [b] σ).rd.getD []).length<=8000;refine aa g.c_ ?_
  have:=g.r2;exact BY hz this
end
theorem a9.qz{V:Vx}{ρ:b_}{args:List Expr}{np pos:Pos}{x:Str}{r:ab}{ds:List DV}{d:DV}(g:Glob V x r)(y:aZ V args (hN ρ) ds)(w:bg V.G V.n r ds d)(p:∀d∈ds,d.scalar=true)(hp:autoParam (Plain args) aU) :
  a9 V (.Call (.Name x np) args [] pos) ρ d ρ:=⟨λ{c A env R0 ex ah R H F s Q E} f m K=>by
 refine eU (g.name (m.pre f) m.st (cw (c:=c) (y.args (m.pC f) m.st.shown (m.view f) λvs H' s' hs u o=>?_) (hp env)));refine oA (m.st.hidden m.seen hs o) λa h=>?_
 have b:=m.grow h a;refine⟨g.i7 (b.pre f) a,w.run f.G f.ok f.rm (b.pre f).fi a (u.any p) λv l k e j i=>?_⟩;exact K v R l F k (h.trans e) (λt t q=>q) j (b.grow e i)⟩
theorem im{x:Str}{d:DV}{T:List (Str×c5)}(h:isVar T x=true):∀p∈[(x,d)],isVar T p.1=true:=λp hp=>by
 cases hp with
 |head=>exact h
 |tail _ q=>cases q
theorem own_one{x:Str}{d:DV}{sc:bS}(h:c! sc x=true):∀q∈[(x,d)],c! sc q.1=true:=λp hp=>by
 cases hp with
 |head=>exact h
 |tail _ q=>cases q
theorem U0:∀(l:List Int) (i:Nat) (h:i<l.length),([l[i]]++l.eraseIdx i).Perm l:=by
 intro l0;induction l0 with
 |nil =>intros;contradiction
 |cons a l b =>
  intro m0;cases m0 with
  |zero =>intro _;exact D9 _
  |succ i =>intro h;exact(List.Perm.swap a (l[i]'(ma h)) (l.eraseIdx i)).trans ((b i (ma h)).cons a)
noncomputable abbrev ltZ(a b:Int):Bool:=decide (a<b)
noncomputable def v4(p o:Int):Bool:=(o != p)&&(decide (o.fdiv 32≥p.fdiv 32)&&decide (o.fmod 32<=p.fmod 32))
noncomputable def d6(ks:List Int)(p:Int):List Int:=ks.filter (v4 p)
structure RS where
 σ:ca
 row:List Int
 ps:List Int
 told:Int
noncomputable def cK(κ:Int->Int)(s:RS):List Int:=jF ltZ κ s.row (s.σ.rd.getD [])
noncomputable def i3(κ:Int->Int)(s:RS):Nat:=(s.told.fmod (cK κ s).length).toNat
noncomputable def gM(κ:Int->Int)(s:RS):Int:=(cK κ s).getD (i3 κ s) 0
noncomputable def wd(κ:Int->Int)(s:RS):RS:=⟨ff [gM κ s] (iq s.σ),(cK κ s).eraseIdx (i3 κ s),s.ps++[gM κ s],s.told.fdiv (cK κ s).length⟩
noncomputable def wc(κ:Int->Int)(s:RS):Nat->RS
 |0=>s
 |i+1=>wd κ (wc κ s i)
theorem u?{ks:List Int}{p o:Int}:o∈d6 ks p↔o∈ks/\o≠p/\p/32<=o/32/\o%32<=p%32:=by unfold d6 v4;rw[bN,f_,f_,bne_iff_ne,decide_eq_true_iff,decide_eq_true_iff,sJ _ (by decide),sJ _ (by decide),DR _ (by decide),DR _ (by decide)]
noncomputable def r3(x:Int):Nat:=(x/32+32-x%32).toNat
theorem wt{ks:List Int}(a:ks.Nodup)(h:∀q∈ks,0<=q):Told (d6 ks) r3 ks:=by
 refine⟨a,λt i=>a.sublist gS,λt c x b=>?_⟩;refine f7 (u?.mp b) λg f e d=>?_
 have:=h t c;refine⟨g,?_⟩;exact Q9 f e d this
structure oj(ks:List Int)(κ:Int->Int)(i:Nat)(s:RS):Prop where
 si:∃rd,SI (bG (d6 ks) ks).ks (i6 (d6 ks) ks) s.σ rd s.row s.ps
 so:j? ltZ κ s.row
 len:s.ps.length=i
 rd:aq.Rd aq.gg ks s.ps
structure xY(ks:List Int)(κ:Int->Int)(s:RS)(rd:List Int):Prop where
 si:SI (bG (d6 ks) ks).ks (i6 (d6 ks) ks) s.σ rd s.row s.ps
 pos:0<(cK κ s).length
 at_:i3 κ s<(cK κ s).length
 nn:0<=s.told.fmod (cK κ s).length
 p:(cK κ s)[i3 κ s]?=wf (gM κ s)
 U1:gM κ s∈ks
 done:SI (bG (d6 ks) ks).ks (i6 (d6 ks) ks) (iq s.σ) [] ((cK κ s).eraseIdx (i3 κ s)++[gM κ s]) s.ps
theorem oj.step{ks:List Int}{κ:Int->Int}{i:Nat}{s:RS}(m:Told (d6 ks) r3 ks)(x:oj ks κ i s)(hi:i<ks.length):(∃rd,xY ks κ s rd)/\oj ks κ (i+1) (wd κ s):=by
 obtain⟨⟨rd,si⟩,A,len,n⟩:=x;have q:=m.mX;have y:s.σ.rd.getD []=rd:=by(refine aa si.c_ ?_);rfl
 have k:(cK κ s).Perm (s.row++rd):=by unfold cK;(refine aa y ?_);exact u1 _ _
 have a:=si.ready.perm k;have c:0<(cK κ s).length:=by
  obtain h|h:=Nat.eq_zero_or_pos (cK κ s).length
  ·have D:cK κ s=[]:=iv h;rw[D] at a;have l:=a.all q;have:(bG (d6 ks) ks).ks.length<=s.ps.length:=gr q.nd l;rw[m.rl,len] at this;exact Q' hi this
  exact h
 have t:0<=s.told.fmod (cK κ s).length:=wU _ (Bv c);have v:=DT s.told (b:=((cK κ s).length:Int)) (Bv c);have f:i3 κ s<(cK κ s).length:=by exact Q! c v
 have hp:(cK κ s)[i3 κ s]?=wf (gM κ s):=by delta gM;(refine aa jV ?_;refine aa (cz f) ?_);rfl
 have r:gM κ s=(cK κ s)[i3 κ s]:=by rw[cz f] at hp;exact(ax hp).symm
 have j:gM κ s∈cK κ s:=en hp;have e:gM κ s∈ks:=(m.ks _).mp (a.sub _ (bt _ (b? _ j)));have d:=a.perm (row':=(cK κ s).eraseIdx (i3 κ s)++[gM κ s]) (by
  refine aa r ?_
  exact xq.trans (U0 _ _ f))
 obtain⟨p,g⟩:=d.t8 q;refine⟨⟨rd,si,c,f,t,hp,e,d⟩,⟨p,g⟩,?_,by(refine aa cA ?_;refine aa len ?_);rfl,?_⟩
 ·exact List.Pairwise.sublist (List.eraseIdx_sublist ..) (by exact zJ j9.int _ A)
 refine n.take e (λw=>?_) λo z u C B=>?_
 ·have:=(cQ.mp a.nd).2.2 _ w _ (b? _ j);exact this rfl
 exact a.dep (gM κ s) (bt _ (b? _ j)) o ((m.ks o).mpr z) (bN.mpr ⟨e,decide_eq_true (u?.mpr (cL z u C B))⟩)
noncomputable def CE(ks:List Int)(told:Int):RS:=⟨sT (d6 ks) ks,[],[],told⟩
theorem Cv{ks:List Int}{κ:Int->Int}{told:Int}(a:Told (d6 ks) r3 ks):∀i,i<=ks.length->oj ks κ i (wc κ (CE ks told) i):=by
 intro l0;induction l0 with
 |zero =>intro _;exact⟨a.si,.nil,rfl,aq.Rd.nil⟩
 |succ i b =>intro h;exact((b (nI h)).step a h).2
noncomputable def lN:Stmt:=is 14
theorem Jy(P:aO):di (KP P) 179 lN "_law_reading" .none .none (.ref 178) where
 fn:=e8 (((cp (KP P) 179).map (·.doc)).getD .none) (((cp (KP P) 179).map (·.pyModule)).getD .none) iF .none (by kernel_rfl)
 code:=by kernel_rfl
 co:=by kernel_rfl
 gen:=by kernel_rfl
 kind:=by kernel_rfl
theorem Ir(P:aO):codeHdIn (KP P) 178 176=true:=by kernel_rfl
theorem Hj:hZ (aH lN) ["numbers","told"]:=⟨by decide,by decide,by decide,by decide,by decide⟩
noncomputable abbrev Cp:Str:="_law_reading.<locals>.<lambda>"
theorem Gp{G:Gx}(g:Gl G):gy G "_law_reading" (.ref 178) (wf (176,Cp)):=⟨λa q e=>by
 cases e;refine aa g.T ?_
 refine wG (.tail _ (.head _)) (λc h=>?_) (by decide) 178 rfl (λb X=>codeHd_of_K (by(refine az g.K ?_);exact X) (Ir _));obtain h|h:=aW.mp h
 ·exact GM (eG h).1 (by decide)
 obtain h|h:=aW.mp h
 ·exact(eG h).2
 exact GM (eG (aK.mp h)).1 (by decide)⟩
theorem yH(P:aO):eI (KP P) (.ref 155) "prepare"=wf (wf (.ref 110)):=by kernel_rfl
theorem ue(P:aO):eI (KP P) (.ref 155) "get_ready"=wf (wf (.ref 117)):=by kernel_rfl
theorem yG(P:aO):eI (KP P) (.ref 155) "done"=wf (wf (.ref 138)):=by kernel_rfl
theorem yN(P:aO):isFn (KP P) (.ref 110)=true:=by kernel_rfl
theorem um(P:aO):isFn (KP P) (.ref 117)=true:=by kernel_rfl
theorem yM(P:aO):isFn (KP P) (.ref 138)=true:=by kernel_rfl
theorem Gl.CV{V:Vx}(g:Gl V.G)(h:V.T.lookup ("TopologicalSorter":Str)=wf .globalImplicit):Glob V "TopologicalSorter" (.ref 155):=⟨h,.inr (aa g.K (Hx _)),by show dr V.G.K (.ref 155)=true;(refine aa g.K ?_);exact J6 _⟩
theorem Lg(P:aO):nsIn (KP P) b7 "divmod"=wf iF:=by kernel_rfl
theorem Gl.divmod{V:Vx}(g:Gl V.G)(h:V.T.lookup ("divmod":Str)=wf .globalImplicit):Glob V "divmod" (.builtin "divmod"):=g.b h Lg FE (by decide) trivial
theorem KZ{α β:Type}(f:α->β):∀(l:List α) (i:Nat),(l.map f).eraseIdx i=(l.eraseIdx i).map f:=by
 intro l0;induction l0 with
 |nil =>intro _;exact rfl
 |cons a l b =>
  intro m0;cases m0 with
  |zero =>exact rfl
  |succ i =>exact congrArg (f a::·) (b i)
section
variable{G:Gx}{n:Nat}{es:List (Int×Int)}{told:Int}
noncomputable abbrev VR(G:Gx)(n:Nat):Vx:=⟨G,n+4,(aH lN).names,wf (176,Cp)⟩
noncomputable abbrev rZ(es:List (Int×Int))(s:RS):Nm:=[("numbers",.fz (.dict es)),("told",.fz (.int s.told)),("sorter",.own (.dv s.σ)),("row",.own (.list (s.row.map DV.int))),("word",.own (.list ((s.ps.map (aP es)).map DV.int)))]
theorem v5{ks:List Int}{p:Int}:(d6 ks p).length<=ks.length:=iz _ _
theorem Vs{fl:Fl}{l':Nm}(g:Gl G)(v:(ay es).Nodup)(hz:es.length<=128)(D:∀q∈ay es,0<=q)(rest:au (VR G n) ((bodyOf lN).drop 3) [("numbers",.fz (.dict es)),("told",.fz (.int told)),("sorter",.own (.dv (sT (d6 (ay es)) (ay es))))] fl l') :
  au (VR G n) (bodyOf lN) [("numbers",.fz (.dict es)),("told",.fz (.int told))] fl l':=by
 have l:=wt v D;have e:(ay es).length=es.length:=aw ..;refine au.cons (Ex.assign (bb.yg (g.CV rfl) .nil (n!.make g.K)) rfl) (au.cons (Ex.for (ds:=es.map λp=>DV.int p.1) (λi=>[("numbers",.fz (.dict es)),("told",.fz (.int told)),("sorter",.own (.dv ⟨bG (d6 (ay es)) ((ay es).take i),iF,0,0⟩))]) (bj.dict (Ev.var rfl)) (a?.of (cL rfl rfl rfl trivial)) ?_) ?_)
 ·intro i d hd;replace hd:=bp▸hd;refine ak (bu.mp hd) λa B w=>?_
  obtain rfl:=w;have A:(ay es)[i]?=wf a.1:=by(refine aa bp ?_;refine aa B ?_);rfl
  have b:=uq v l.rX i;have r:((ay es).take i).length<=128:=by(refine aa je ?_);exact Q_ hz e
  refine dc _ _ (.name ..) (im rfl) (au.last (Ex.expr (a9.Ak (k:=a.1) (ns:=d6 (ay es) a.1) (σ:=⟨bG (d6 (ay es)) ((ay es).take i),iF,0,0⟩) g.K rfl (bK.of (Ev.var rfl) rfl) (aE.ev ?_) ?_ (x9 g.K rfl ?_ λk=>?_) yd) cJ)) (a?.of (cL rfl rfl ?_ trivial))
  ·refine aa (show(d6 (ay es) a.1).map DV.int=((ay es).filter (v4 a.1)).map DV.int from rfl) ?_
   refine aE.k! (f:=DV.int) (bs:=λo=>[("one",.int o)]) ⟨rfl,by decide,rfl⟩ (?_:bj _ _ _ _ ((ay es).map DV.int)) (λo j=>⟨.name ..,own_one rfl⟩) (λo j=>?_) (λo j j=>Ev.var rfl) (Ra hz e)
   ·(refine aa dW ?_);exact bj.dict (Ev.var rfl)
   have hp:sC o 32=false:=nM (by decide);have m:sC a.1 32=false:=nM (by decide);exact bT.Fh (bT.cmp (Ev.var rfl) (Ev.var rfl) a8.pd) (λj=>bT.cmp (Ev.op (Ev.var rfl) Ev.int (bB.div (by decide) hp)) (Ev.op (Ev.var rfl) Ev.int (bB.div (by decide) m)) a8.ur) λj j=>bT.cmp (Ev.op (Ev.var rfl) Ev.int (bB.mod (by decide))) (Ev.op (Ev.var rfl) Ev.int (bB.mod (by decide))) a8.u8
  ·have:=v5 (ks:=ay es) (p:=a.1);exact Bw hz e this
  ·have u:=v5 (ks:=ay es) (p:=a.1);have s:=gr b.ok.nd (l₂:=ay es) λx z=>((b.mem x).mp z).elim xn λ⟨t,E,C⟩=>(u?.mp C).1;exact Rb hz e u s
  ·have u:=v5 (ks:=ay es) (p:=a.1);have s:((bG (d6 (ay es)) ((ay es).take i)).sc k).length<=((ay es).take i).length:=by rw[b.sc];exact iz _ _
   exact Rc hz e r u s
  refine aa (i! A) ?_;exact aa tQ rfl
 rw[aw,show(ay es).take es.length=ay es by(refine az e ?_;exact aa fv rfl)];refine au.cons (Ex.expr (a9.ly (σ:=⟨bG (d6 (ay es)) (ay es),iF,0,0⟩) g.K rfl .nil rfl (x! (rk:=r3) g.K rfl ?_ (λk e=>?_) λk e y c=>?_) (λd h=>(GM h aX)) yH yN zR (λj j=>rfl)) cJ) (au.weak rest (a?.of (cL rfl rfl rfl trivial)))
 ·(refine aa l.rl ?_);exact pz hz e
 ·rw[l.gb.sc];have:=iz (λt=>decide (k∈d6 (ay es) t)) (ay es);lia
 have c:=c;rw[l.gb.sc] at c;exact(l.mX.lt k y c).2
theorem Vt(g:Gl G)(J:(ay es).Nodup)(hz:es.length<=128)(M:∀q∈ay es,0<=q){body:List Stmt}{bR it:Expr}{pos:Pos}(L:fk (bodyOf lN) 5=.For bR it body [] pos){i:Nat}{s:RS}(x:oj (ay es) (aP es) i s)(hi:i<(ay es).length){rd:List Int}(t:xY (ay es) (aP es) s rd)(j:Int) :
  au (VR G n) body (("turn",.fz (.int j))::rZ es s) .next (rZ es (wd (aP es) s)):=by
 have y:=wt J M;have I:=y.mX;have o:(ay es).length=es.length:=aw ..;have l:=y.rl;cases L;have H:s.σ.rd.getD []=rd:=by(refine aa t.si.c_ ?_);rfl
 have c:∀m,(jF ltZ (aP es) s.row (rd.take m)).length<=128:=λm=>by
  refine aa ((u1 (lt:=ltZ) (κ:=aP es) (rd.take m) s.row).length_eq) ?_;refine aa cA ?_;refine aa je ?_
  have:=gr (cQ.mp t.si.nd).2.1 (λk o=>t.si.sub k (bt _ o));rw[cA] at this;exact Re hz o l this
 have F:∀m,∀q∈jF ltZ (aP es) s.row (rd.take m),q∈ay es:=λm q B=>by
  refine(y.ks q).mp ?_
  obtain h|h:=aT.mp ((u1 _ _).mem_iff.mp B)
  ·exact t.si.sub q (bt _ (b? _ h))
  exact t.si.sub q (bt _ (bt _ (xn h)))
 have a:cK (aP es) s=jF ltZ (aP es) s.row (rd.take rd.length):=by unfold cK;(refine aa H ?_;exact aa fv rfl)
 have e:(cK (aP es) s).length<=128:=by(refine aa a ?_);exact c _
 refine au.cons (Ex.forM (ds:=rd.map DV.int) (l₁:=("sorter",.own (.dv (iq s.σ)))::("turn",.fz (.int j))::rZ es s) (λm=>[("numbers",.fz (.dict es)),("told",.fz (.int s.told)),("sorter",.own (.dv (iq s.σ))),("row",.own (.list ((jF ltZ (aP es) s.row (rd.take m)).map DV.int))),("word",.own (.list ((s.ps.map (aP es)).map DV.int)))])
  (a9.ly (f:=117) (name:="get_ready") (σ:=s.σ) g.K rfl .nil rfl (t.si.oq (n:=n+3) g.K (Bx hz o l)) (λd h=>(GM h aX)) ue um u6 (λv v=>rfl)) cJ (a?.of (dS rfl rfl rfl rfl rfl trivial)) λm d hd=>?_) ?_
 ·replace hd:=bp▸hd;refine ak (bu.mp hd) λp hp z=>?_
  obtain rfl:=z;have C:=(y.ks p).mp (t.si.sub p (bt _ (bt _ (en hp))));refine dc _ _ (.name ..) (im rfl) (au.last (Ex.JK (n:=n) (P:=λq=>q∈ay es) (κ:=aP es) (RK:=u2) (lt:=ltZ) (x:="one") (t:=p) (xs:=jF ltZ (aP es) s.row (rd.take m)) g.K rfl rfl rfl rfl (bK.of (Ev.var rfl) rfl) og.int ⟨rfl,by decide,rfl,.inl rfl,rfl,rfl⟩ ⟨rfl⟩ (λq B=>n_.int (Ev.kq (Ev.var rfl) (Ev.var rfl) (mU B))) (F m) C (Wg j9.int (zJ j9.int _ x.so)) (by have:=c m;exact Rf this))) (a?.of (dS rfl rfl rfl ?_ rfl trivial));refine aa (i! hp) ?_
  delta jF;(refine aa gu ?_);rfl
 rw[aw,<-a];have D:cK (aP es) s≠[]:=λw=>by have:=t.pos;(replace this:=w▸this);exact GM this (dz _)
 refine au.cons (Ex.ite (b:=false) (bU.cast (bU.of (bT.cmp (d₂:=LI []) (Ev.var rfl) (aE.ev (aE.dY .nil (by decide))) (a8.qO (jY 4 n)))) (decide_eq_false D)) (λq=>(by injection q)) λv=>au.nil) ?_
 have u:((cK (aP es) s).map DV.int).length=(cK (aP es) s).length:=aw ..;have E:((cK (aP es) s).length:Int).natAbs<1073741824:=by exact Rg e
 have r:((cK (aP es) s).length:Int)≠0:=by have:=t.pos;exact Rh this
 refine au.cons (Ex.qx (a9.qz (g.divmod rfl) (aZ.two (Ev.var rfl) (Ev.call (g.len rfl) (aZ.one (Ev.var rfl)) (bg.len u (vS e)))) (bg.divmod r E) (by exact iu rfl rfl)) rfl rfl rfl) ?_
 have hp:((cK (aP es) s).map DV.int)[(s.told.fmod (cK (aP es) s).length).toNat]?=wf (.int (gM (aP es) s)):=by(refine aa bp ?_;refine aa (show(s.told.fmod (cK (aP es) s).length).toNat=i3 (aP es) s from rfl) ?_;refine aa t.p ?_);rfl
 refine au.cons (Ex.tO (a9.pop rfl (bK.of (Ev.var rfl) rfl) t.nn hp (aa u (Bz e))) cJ rfl) ?_
 have A:((s.ps.map (aP es)).map DV.int).length<=128:=by rw[aw,aw,x.len];exact Ri hz hi o
 refine au.cons (Ex.append (x:="word") rfl (bb.sc (bK.of (Ev.kq (Ev.var rfl) (Ev.var rfl) (mU t.U1)) rfl)) (Rj A)) ?_
 refine au.drop (au.last (Ex.expr (a9.ly (f:=138) (name:="done") (σ:=iq s.σ) g.K rfl (.one (a9.sc (bK.of (Ev.var rfl) rfl))) rfl (t.done.qv (n:=n+3) g.K I (Bx hz o l)).act (λd h=>by(refine aa (aK.mp h) ?_);rfl) yG yM zS (λv v=>rfl)) cJ)) (a?.of (dS rfl rfl rfl ?_ ?_ trivial))
 ·show wf _=wf _;rw[KZ];rfl
 show wf _=wf _;(refine aa bf ?_;refine aa bf ?_);rfl
theorem Vq(g:Gl G)(e:(ay es).Nodup)(hz:es.length<=128)(f:∀q∈ay es,0<=q):∃ps,(aq.Rd aq.gg (ay es) ps/\∀q∈ay es,q∈ps) /\
  au (VR G n) (bodyOf lN) [("numbers",.fz (.dict es)),("told",.fz (.int told))] (.ret (.fz (LI (ps.map (aP es))))) []:=by
 have c:=wt e f;have h:(ay es).length=es.length:=aw ..;have x:=Cv (κ:=aP es) (told:=told) c _ (bD _);refine ar _ ⟨x.rd,λq j=>DN λw=>?_⟩ ?_
 ·have:=gr (dq.mpr ⟨w,x.rd.nd⟩) (l₂:=ay es) λa ha=>by
   obtain rfl|ha:=aW.mp ha
   ·exact j
   exact x.rd.sub a ha
  rw[eQ,x.len] at this;exact GM this (Nat.not_succ_le_self _)
 refine Vs g e hz f (au.cons (Ex.assign (xv:=.own (.list [])) (bb.lz (aE.dY .nil (by decide))) rfl) (au.cons (Ex.assign (xv:=.own (.list [])) (bb.lz (aE.dY .nil (by decide))) rfl) ?_));refine au.cons (Ex.for (ds:=(du 0 es.length).map DV.int) (λi=>rZ es (wc (aP es) (CE (ay es) told) i)) (bj.nb (Ev.call (g.range rfl) (aZ.one (Ev.call (g.len rfl) (aZ.one (Ev.var rfl)) (bg.Kv (vS hz)))) bg.range) (vS hz)) (a?.of (dS rfl rfl rfl rfl rfl trivial)) λi d k=>?_) ?_
 ·refine vr (r4 k) λhi=>?_
  have hi:i<(ay es).length:=by(refine aa h ?_);exact hi
  have y:=Cv (κ:=aP es) (told:=told) c i (gv hi);refine oA (y.step c hi) λb l=>?_
  obtain⟨rd,t⟩:=b;exact dc _ _ (.name ..) (im rfl) (Vt g e hz f rfl y hi t _) (a?.refl _)
 rw[aw,r5,<-h];exact au.freeze (x:="word") rfl rfl (au.ret (Ex.ret (bb.iP (Ev.var rfl))))
theorem GR(g:Gl G)(told:Int)(c:(ay es).Nodup)(hz:es.length<=128)(d:∀q∈ay es,0<=q):∃ps,(aq.Rd aq.gg (ay es) ps/\∀q∈ay es,q∈ps)/\bg G (n+5) (.ref 179) [.dict es,.int told] (LI (ps.map (aP es))):=by
 refine ak (Vq (n:=n) (told:=told) g c hz d) λps h b=>(ar ps h (bg.fn (Gp g) (aa g.K (Jy _)) Hj (λvs h doc pm an ct S=>?_) rfl b));refine fM (ro h) λv u a=>?_
 obtain rfl:=a;(refine aa g.K ?_);kernel_rfl
end
noncomputable def pK:Stmt:=is 11
theorem zH(P:aO):di (KP P) 164 pK "_law_ways" .none .none (.ref 163) where
 fn:=e8 (((cp (KP P) 164).map (·.doc)).getD .none) (((cp (KP P) 164).map (·.pyModule)).getD .none) iF .none (by kernel_rfl)
 code:=by kernel_rfl
 co:=by kernel_rfl
 gen:=by kernel_rfl
 kind:=by kernel_rfl
theorem J8(P:aO):dr (KP P) (.ref 164)=true:=by kernel_rfl
theorem Hz(P:aO):nsIn (KP P) b7 "_law_ways"=wf (wf (.ref 164)):=by kernel_rfl
theorem Gl.e7{V:Vx}(g:Gl V.G)(h:V.T.lookup ("_law_ways":Str)=wf .globalImplicit):Glob V "_law_ways" (.ref 164):=⟨h,.inr (aa g.K (Hz _)),by show dr V.G.K (.ref 164)=true;(refine aa g.K ?_);exact J8 _⟩
theorem Lk(P:aO):nsIn (KP P) b7 "max"=wf iF:=by kernel_rfl
theorem Gl.max{V:Vx}(g:Gl V.G)(h:V.T.lookup ("max":Str)=wf .globalImplicit):Glob V "max" (.builtin "max"):=g.b h Lk FJ (by decide) trivial
theorem Lp(P:aO):nsIn (KP P) b7 "sum"=wf iF:=by kernel_rfl
theorem Gl.sum{V:Vx}(g:Gl V.G)(h:V.T.lookup ("sum":Str)=wf .globalImplicit):Glob V "sum" (.builtin "sum"):=g.b h Lp FP (by decide) trivial
theorem yO:hZ (aH pK) ["lengths"]:=⟨by decide,by decide,by decide,by decide,by decide⟩
section
variable{V:Vx}{ρ:Str->Option DV}{e u:Expr}{ds:List DV}{pos sp:Pos}{i:Int}
theorem aE.wr(d:Ev V e ρ (.list ds))(c:Ev V u ρ (.int i))(hz:ds.length<=2^24)(a:autoParam (∀l sl,∃b,gZ (.Slice iF (wf u) iF sp) false (.ref l) (.ref sl)=gX b (gV (.ref l) (.ref sl))) aU):aE V (.Subscript e (.Slice iF (wf u) iF sp) pos) ρ ((ds.drop 0).take (nO ds.length i-0)) :=aE.slice (lo:=iF) (hi:=wf i) d (by exact trivial) (by exact c) hz a
theorem aE.uo(d:Ev V e ρ (.list ds))(c:Ev V u ρ (.int i))(hz:ds.length<=2^24)(a:autoParam (∀l sl,∃b,gZ (.Slice (wf u) iF iF sp) false (.ref l) (.ref sl)=gX b (gV (.ref l) (.ref sl))) aU):aE V (.Subscript e (.Slice (wf u) iF iF sp) pos) ρ ((ds.drop (nO ds.length i)).take (ds.length-nO ds.length i)) :=aE.slice (lo:=wf i) (hi:=iF) d (by exact c) (by exact trivial) hz a
end
section
variable{G:Gx}{a b c:Int}
noncomputable def pe(a b c r:Int):Int×Int×Int:=if r=0 then(a-1,b,c) else if r=1 then(a,b-1,c) else(a,b,c-1)
noncomputable def oJ(a b c r:Int):Bool:=if r=0 then decide (a>b) else if r=1 then decide (b>c) else decide (c>0)
theorem rc{r:Int}(h:r∈du 0 3):r=0\/r=1\/r=2:=by have:=u_ h;exact Rk this
theorem uk{p:Bool}{P:Prop}[Decidable P](e:p=decide P){F:Int->Int}{x:Int}{l:List Int}:(if p=true then x::l else l).map F=(if P then[F x] else[])++l.map F:=by subst e;by_cases h:P<;>simp[h]
theorem Du(g:Gl G){m:Nat}(h:aq.Ln a b c)(o:∀r,r∈du 0 3->oJ a b c r=true->bg G m (.ref 164) [LI [(pe a b c r).1,(pe a b c r).2.1,(pe a b c r).2.2,0]] (.int (aq.fm (pe a b c r)))) :
  au ⟨G,m,(aH pK).names,iF⟩ (bodyOf pK) [("lengths",.fz (LI [a,b,c,0]))] (.ret (.fz (.int (aq.fm (a,b,c))))) []:=by
 obtain⟨t,s,l,a3⟩:=id h;have d:∀x∈[a,b,c,0],x<=a:=λx u=>lx u (br _) l (bo s l) (bo t (bo s l));by_cases k:a=0
 ·refine au.ret (Ex.ite (b:=true) (bU.cast (bU.of (bT.cmp (Ev.call (g.max rfl) (aZ.one (Ev.var rfl)) (bg.max (.head _) d)) Ev.int a8.lb)) (by rw[beq_iff_eq];exact k)) (λn=>au.ret (Ex.ret ?_)) λq=>(by injection q));refine aa (aq.W5 (by exact AS k)) ?_
  exact bb.sc (bK.of Ev.int rfl)
 refine au.cons (Ex.ite (b:=false) (bU.cast (bU.of (bT.cmp (Ev.call (g.max rfl) (aZ.one (Ev.var rfl)) (bg.max (.head _) d)) Ev.int a8.lb)) (by rw[beq_eq_false_iff_ne];exact k)) (λq=>(by injection q)) λn=>au.nil) (au.ret (Ex.ret (bb.sc (bK.of ?_ rfl))));have e:(((du 0 3).filter (oJ a b c)).map λr=>(aq.fm (pe a b c r):Int)).sum=(aq.fm (a,b,c):Int):=by
  refine az (aq.W3 h (by exact Rm t s l k)) ?_;refine aa (show du 0 3=[0,1,2] from rfl) ?_;refine aa fu ?_;refine aa fu ?_;refine aa fu ?_;refine aa xc ?_
  rw[uk (p:=oJ a b c 0) (P:=b<a) rfl,uk (p:=oJ a b c 1) (P:=c<b) rfl,uk (p:=oJ a b c 2) (P:=0<c) rfl,nC,dw];rfl
 refine az e ?_
 refine Ev.call (g.sum rfl) (aZ.one ?_) bg.sum;refine aa dW ?_
 refine aE.ev (aE.k! (f:=DV.int) (bs:=λr=>[("r",.int r)]) ⟨rfl,by decide,rfl⟩ (bj.nb (m:=3) (Ev.call (g.range rfl) (aZ.one Ev.int) bg.range) (by decide)) (λn n=>⟨.name ..,own_one rfl⟩) (λr j=>?_) (λr j hp=>?_) (by decide))
 ·obtain rfl|rfl|rfl:=rc j
  ·exact bT.cmp (Ev.idx (Ev.var rfl) (Ev.var rfl) (by decide) rfl (by decide)) (Ev.idx (Ev.var rfl) (Ev.op (Ev.var rfl) Ev.int bB.add) (by decide) rfl (by decide)) a8.oI
  ·exact bT.cmp (Ev.idx (Ev.var rfl) (Ev.var rfl) (by decide) rfl (by decide)) (Ev.idx (Ev.var rfl) (Ev.op (Ev.var rfl) Ev.int bB.add) (by decide) rfl (by decide)) a8.oI
  exact bT.cmp (Ev.idx (Ev.var rfl) (Ev.var rfl) (by decide) rfl (by decide)) (Ev.idx (Ev.var rfl) (Ev.op (Ev.var rfl) Ev.int bB.add) (by decide) rfl (by decide)) a8.oI
 refine Ev.call (g.e7 rfl) (aZ.one ?_) (o r j hp);obtain rfl|rfl|rfl:=rc j
 ·exact aE.ev (aE.iL (aE.ev (aE.iL (aE.ev (aE.wr (i:=0) (ds:=[.int a,.int b,.int c,.int 0]) (Ev.var rfl) (Ev.var rfl) (bl rfl))) (aE.ev (aE.dY (aZ.one (Ev.op (Ev.idx (i:=0) (Ev.var rfl) (Ev.var rfl) (by decide) rfl (by decide)) Ev.int bB.sub)) (bl rfl))) (bl rfl))) (aE.ev (aE.uo (i:=1) (ds:=[.int a,.int b,.int c,.int 0]) (Ev.var rfl) (Ev.op (Ev.var rfl) Ev.int bB.add) (bl rfl))) (bl rfl))
 ·exact aE.ev (aE.iL (aE.ev (aE.iL (aE.ev (aE.wr (i:=1) (ds:=[.int a,.int b,.int c,.int 0]) (Ev.var rfl) (Ev.var rfl) (bl rfl))) (aE.ev (aE.dY (aZ.one (Ev.op (Ev.idx (i:=1) (Ev.var rfl) (Ev.var rfl) (by decide) rfl (by decide)) Ev.int bB.sub)) (bl rfl))) (bl rfl))) (aE.ev (aE.uo (i:=2) (ds:=[.int a,.int b,.int c,.int 0]) (Ev.var rfl) (Ev.op (Ev.var rfl) Ev.int bB.add) (bl rfl))) (bl rfl))
 exact aE.ev (aE.iL (aE.ev (aE.iL (aE.ev (aE.wr (i:=2) (ds:=[.int a,.int b,.int c,.int 0]) (Ev.var rfl) (Ev.var rfl) (bl rfl))) (aE.ev (aE.dY (aZ.one (Ev.op (Ev.idx (i:=2) (Ev.var rfl) (Ev.var rfl) (by decide) rfl (by decide)) Ev.int bB.sub)) (bl rfl))) (bl rfl))) (aE.ev (aE.uo (i:=3) (ds:=[.int a,.int b,.int c,.int 0]) (Ev.var rfl) (Ev.op (Ev.var rfl) Ev.int bB.add) (bl rfl))) (bl rfl))
theorem Dt(P:aO)(v doc pm:ab)(an:Option Addr)(ct:ab) S:peek (KP P) S (e! (gF pK "_law_ways" .none .none doc pm an (.ref 163) ct) ⟨[v],[]⟩)=wf (List.zip ([("lengths":Str)]:List Str) [v]):=by kernel_rfl
theorem wD{a b c:Int}(d:0<=c)(f:c<=b)(g:b<=a)(h:0<a)(e:(a+b+c).toNat<=0):False:=GM (Int.lt_toNat.mpr (DQ (DQ h (bo d f)) d)) (nJ e)
theorem GU(g:Gl G):∀(m:Nat) (a b c:Int),aq.Ln a b c->(a+b+c).toNat<=m->bg G (m+1) (.ref 164) [LI [a,b,c,0]] (.int (aq.fm (a,b,c))):=by
 intro m;induction m with
 |zero =>
  intro a b c h i;refine bg.fn gy.none (aa g.K (zH _)) yO (λvs h doc pm an ct S=>?_) rfl (Du g h λr n j=>?_)
  ·refine oE (rn h) λv k=>?_
   obtain rfl:=k;(refine aa g.K ?_);exact Dt _ v doc pm an ct S
  obtain⟨e,d,f,a3⟩:=id h;obtain rfl|rfl|rfl:=rc n
  ·exact(wD e d f (fq (bo e d) (of_decide_eq_true j)) i).elim
  ·exact(wD e d f (dF (fq e (of_decide_eq_true j)) f) i).elim
  exact(wD e d f (dF (of_decide_eq_true j) (bo d f)) i).elim
 |succ m l =>
  intro a b c h i;refine bg.fn gy.none (aa g.K (zH _)) yO (λvs h doc pm an ct S=>?_) rfl (Du g h λr n j=>?_)
  ·refine oE (rn h) λv k=>?_
   obtain rfl:=k;(refine aa g.K ?_);exact Dt _ v doc pm an ct S
  obtain⟨e,d,f,a3⟩:=id h;obtain rfl|rfl|rfl:=rc n
  ·have:=of_decide_eq_true (j);exact l (a-1) b c ⟨e,d,by exact BA this,by exact AN a3⟩ (by exact Rn i)
  ·have:=of_decide_eq_true (j);exact l a (b-1) c ⟨e,by exact BA this,by exact rN f,a3⟩ (by exact Ro i)
  have:=of_decide_eq_true (j);exact l a b (c-1) ⟨by exact Rq this,by exact rN d,f,a3⟩ (by exact Rs i)
end
noncomputable def cI(gs:List Int)(p:Int):List Int:=[p+1,p+32].filter λq=>gs.contains q
noncomputable def m?(x:Int):Nat:=x.toNat
theorem mW{gs:List Int}{p q:Int}:q∈cI gs p↔q∈gs/\(q=p+1\/q=p+32):=by delta cI;rw[bN,List.contains_iff_mem,aW,aK];exact⟨λh=>⟨h.2,h.1⟩,λh=>⟨h.2,h.1⟩⟩
theorem WK{gs:List Int}(c:gs.Nodup)(f:∀q∈gs,0<=q):Told (cI gs) m? gs:=by
 refine⟨c,λt g=>List.Nodup.sublist gS ?_,λt b x a=>?_⟩
 ·refine dq.mpr ⟨λw=>?_,dq.mpr ⟨aX,iB⟩⟩;have:=aK.mp w;exact Rt this
 refine oA (mW.mp a) λe d=>?_
 have:=f t b;refine⟨e,?_⟩;exact Ru d this
structure gz(l0:aq.L3)(gs:List Int):Prop where
 ln:aq.Ln l0.1 l0.2.1 l0.2.2
 nd:gs.Nodup
 mem:∀p,p∈gs↔aq.fN l0 p
theorem gz.nn{l0:aq.L3}{gs:List Int}(x:gz l0 gs):∀q∈gs,0<=q:=λq a=>by have:=(x.mem q).mp a;exact Rv this
theorem gz.told{l0:aq.L3}{gs:List Int}(x:gz l0 gs):Told (cI gs) m? gs:=WK x.nd x.nn
noncomputable abbrev WS:=ca×List Int
noncomputable def sx(s:WS)(p:Int):WS:=(iq (ff [p] s.1),s.2.erase p++(ff [p] s.1).rd.getD [])
noncomputable def w0(gs:List Int):WS:=(iq (sT (cI gs) gs),(sT (cI gs) gs).rd.getD [])
noncomputable def gP(gs h:List Int):WS:=h.foldl sx (w0 gs)
abbrev j!(gs:List Int)(s:WS)(done:List Int):Prop:=SI (bG (cI gs) gs).ks (i6 (cI gs) gs) s.1 [] s.2 done
theorem Dl{gs:List Int}(a:Told (cI gs) m? gs):j! gs (w0 gs) []:=by
 refine oE a.si λrd x=>?_
 have e:(sT (cI gs) gs).rd.getD []=rd:=aa x.c_ rfl;delta w0;refine aa e ?_
 exact x.ready
theorem Dp{gs:List Int}{s:WS}{done:List Int}{p:Int}(c:Told (cI gs) m? gs)(x:j! gs s done)(hp:p∈s.2):j! gs (sx s p) (done++[p])/\SI (bG (cI gs) gs).ks (i6 (cI gs) gs) s.1 [] (s.2.erase p++[p]) done/\∃lJ,(ff [p] s.1).rd.getD []=lJ/\SI (bG (cI gs) gs).ks (i6 (cI gs) gs) (ff [p] s.1) lJ (s.2.erase p) (done++[p]):=by
 have b:=x.perm (row':=s.2.erase p++[p]) (xq.trans (List.perm_cons_erase hp).symm);refine oE (b.t8 c.mX) λlJ a=>?_
 have e:(ff [p] s.1).rd.getD []=lJ:=aa a.c_ rfl;refine W8 ?_ b lJ e a
 unfold sx j!;dsimp only;refine aa e ?_
 exact a.ready
theorem Dr{gs:List Int}{s:WS}{done:List Int}(b:Told (cI gs) m? gs)(x:j! gs s done)(p:Int):p∈s.2↔p∈gs/\p∉done/\∀q,q∈cI gs p->q∈done:=by
 have c:∀t,t∈(bG (cI gs) gs).ks/\p∈i6 (cI gs) gs t->t∈cI gs p:=λt h=>of_decide_eq_true (bN.mp h.2).2;constructor
 ·intro h;have g:p∈done++(s.2++[]):=bt _ (b? _ h);have e:=(b.ks p).mp (SI.sub x p g);refine aC e (λw=>(cQ.mp x.nd).2.2 p w p (b? _ h) rfl) (λq f=>?_);exact SI.dep x p g q ((b.ks q).mpr (b.lt p e q f).1) (bN.mpr ⟨e,decide_eq_true f⟩)
 intro a;refine a! a λl k j=>?_
 have:=SI.mem x p ((b.ks p).mpr l) λt i d=>j t (c t ⟨i,d⟩);obtain w|w:=aT.mp this
 ·exact GM w k
 exact(aT.mp w).resolve_right aX
theorem Iy{l0:aq.L3}{gs h1 h2:List Int}{p q:Int}(g:gz l0 gs)(H:aq.g3 l0 (h1++p::h2))(c:q∈cI gs p):q∈h1:=by
 refine oA (mW.mp c) λd e=>?_
 have hp:p∈h1++p::h2:=bt _ (.head _);have b:=H.sub p hp;have a:=(g.mem q).mp d;by_cases w:q∈h1++p::h2
 ·obtain w|w:=aT.mp w
  ·exact w
  obtain w|w:=aW.mp w
  ·lia
  have:=(dH.mp (dx.mp H.ord).2.1).1 q w;lia
 exfalso;have h:=(H.rem q).mpr ⟨a,w⟩;have f:=λz=>((H.rem p).mp z).2 hp;obtain⟨n,k,l,a3⟩:=H.ln;obtain⟨d0,m,i,j⟩:=g.ln;generalize(h1++p::h2).foldl aq.dec l0=L at *;unfold aq.fN aq.jE at *;exact Rw e b i j h f k l
theorem Dn{gs h:List Int}{i:Nat}{p:Int}(hp:h[i]?=wf p):gP gs (h.take (i+1))=sx (gP gs (h.take i)) p:=by delta gP;(refine aa (i! hp) ?_;refine aa gu ?_);rfl
theorem Dm{l0:aq.L3}{gs h:List Int}(g:gz l0 gs)(H:aq.g3 l0 h):∀i,j! gs (gP gs (h.take i)) (h.take i)/\∀p,h[i]?=wf p->p∈(gP gs (h.take i)).2:=by
 have a:∀i,j! gs (gP gs (h.take i)) (h.take i)->∀p,h[i]?=wf p->p∈(gP gs (h.take i)).2:=λi x p hp=>by
  refine oE (dG.mp hp) λj e=>?_
  have d:h=h.take i++p::h.drop (i+1):=by rw[<-e,List.getElem_cons_drop,p9]
  have c:=en hp;refine(Dr g.told x p).mpr (aC ((g.mem p).mpr (H.sub p c)) (λw=>?_) (λq f=>?_))
  ·have:=H.nd;rw[d,cQ] at this;exact this.2.2 p w p (.head _) rfl
  rw[d] at H;have:=Iy g H f;exact this
 intro i;induction i with
 |zero=>exact⟨Dl g.told,a 0 (Dl g.told)⟩
 |succ i b =>
  have:j! gs (gP gs (h.take (i+1))) (h.take (i+1)):=by
   refine cE (x:=h[i]?) (λe=>?_) (λp e=>?_)
   ·
    rw[iC,e];simpa using b.1
   ·
    rw[Dn e,i! e];exact(Dp g.told b.1 (b.2 p e)).1
  exact⟨this,a _ this⟩
noncomputable abbrev jb(gs h:List Int):List Int:=(gP gs h).2
theorem Ds{l0:aq.L3}{gs h:List Int}(g:gz l0 gs)(H:aq.g3 l0 h):aq.mE l0 h (jb gs h):=by
 have x:=(Dm g H h.length).1;replace x:=fv▸x;refine aq.WZ H (cQ.mp (cQ.mp x.nd).2.1).1 λp=>?_
 rw[Dr g.told x p,g.mem];refine⟨λ⟨c,b,a⟩=>⟨c,b,λw=>a _ (mW.mpr ⟨(g.mem _).mpr w,.inl rfl⟩),λw=>a _ (mW.mpr ⟨(g.mem _).mpr w,.inr rfl⟩)⟩,λ⟨c,b,a,i⟩=>⟨c,b,λq f=>?_⟩⟩;refine oA (mW.mp f) λd e=>?_
 obtain rfl|rfl:=e
 ·exact a ((g.mem _).mp d)
 exact i ((g.mem _).mp d)
structure DS where
 runs:List (List Int)
 heads:List (List Int)
noncomputable def jw(gs:List Int)(s:DS):DS:=⟨if jb gs (s.heads.getLastD [])=[] then s.runs++[s.heads.getLastD []] else s.runs,s.heads.dropLast++(jb gs (s.heads.getLastD [])).map λp=>s.heads.getLastD []++[p]⟩
noncomputable def jv(gs:List Int)(s:DS):Nat->DS
 |0=>s
 |i+1=>jw gs (jv gs s i)
theorem t3{gs:List Int}{s:DS}:∀i,jv gs s (i+1)=jv gs (jw gs s) i:=by
 intro l0;induction l0 with
 |zero =>exact rfl
 |succ i a =>exact congrArg (jw gs) (a)
noncomputable abbrev ef(l0:aq.L3)(hs:List (List Int)):Nat:=(hs.map (aq.mu l0)).sum
structure k5(l0:aq.L3)(B:Nat)(s:DS):Prop where
 t6:aq.fE l0 s.heads s.runs
 len:s.runs.length+ef l0 s.heads<=B
theorem Aq{l0:aq.L3}{h:List Int}:1<=aq.mu l0 h:=Nat.pow_pos (by decide)
theorem Ap{l0:aq.L3}:∀{hs:List (List Int)},hs.length<=ef l0 hs
 |[]=>bD _
 |h::hs=>by have b:=Ap (l0:=l0) (hs:=hs);have a:=Aq (l0:=l0) (h:=h);show hs.length+1<=aq.mu l0 h+ef l0 hs;exact Rx b a
theorem zZ{hs:List (List Int)}(h:hs≠[]):hs=hs.dropLast++[hs.getLastD []]:=by
 refine aa List.getLastD_eq_getLast? ?_;refine aa (List.getLast?_eq_some_getLast h) ?_
 exact(sP h).symm
theorem K_{l0:aq.L3}{h W:List Int}{n:Nat}(b:(aq.sz l0).toNat-h.length=n+1):ef l0 (W.map λp=>h++[p])=W.length*4^n:=by
 induction W with
 |nil=>rw[l?,Nat.zero_mul];rfl
 |cons p W a =>show aq.mu l0 (h++[p])+ef l0 (W.map λp=>h++[p])=_;rw[a,eQ,Nat.succ_mul,sY];delta aq.mu;refine aa cA ?_;exact aa (show(aq.sz l0).toNat-(h.length+[p].length)=n by exact AT b) rfl
theorem Ao{l0:aq.L3}{A B:List (List Int)}:ef l0 (A++B)=ef l0 A+ef l0 B:=by unfold ef;(refine aa bf ?_;exact aa l_ rfl)
theorem k5.step{l0:aq.L3}{gs:List Int}{B:Nat}{s:DS}(g:gz l0 gs)(x:k5 l0 B s)(h:s.heads≠[]):k5 l0 B (jw gs s)/\ef l0 (jw gs s).heads<ef l0 s.heads:=by
 have e:=zZ h;have d:=x.len;have D:=x.t6;delta jw;generalize s.heads.getLastD []=hd at e ⊢;generalize s.heads.dropLast=T at e ⊢;rw[e] at D d ⊢;have j:ef l0 [hd]=aq.mu l0 hd:=Nat.add_zero _;have ap:ef l0 (T++[hd])=ef l0 T+aq.mu l0 hd:=aa Ao (aa j rfl);rw[ap] at d ⊢;have hp:=Aq (l0:=l0) (h:=hd);have w:=Ds g (D.hs hd (bt _ (.head _)));by_cases f:jb gs hd=[]
 ·rw[f] at w ⊢;rw[FB rfl,nC,dw];refine⟨⟨D.leaf w,?_⟩,by exact Ry hp⟩;refine aa cA ?_
  exact Rz d hp
 refine aa (Da f) ?_
 have H:=D.hs hd (bt _ (.head _));have i:0<aq.sz (hd.foldl aq.dec l0):=by have:¬(hd.foldl aq.dec l0).1=0:=λk=>f ((aq.wB H.ln w.mem).mpr k);obtain⟨t,r,q,u⟩:=H.ln;exact RA this t r q
 have b:=H.len;obtain⟨n,l⟩:∃n,(aq.sz l0).toNat-hd.length=n+1:=⟨(aq.sz l0).toNat-hd.length-1,by exact RD i b⟩;have a:ef l0 ((jb gs hd).map λp=>hd++[p])<aq.mu l0 hd:=by
  refine aa (K_ l) ?_
  delta aq.mu;rw[l,Nat.pow_succ];have o:=aq.Dq H w;have m:0<4^n:=Nat.pow_pos (by decide);have:=Nat.mul_le_mul_right (4^n) o;exact RE m this
 have c:ef l0 (T++(jb gs hd).map λp=>hd++[p])=ef l0 T+ef l0 ((jb gs hd).map λp=>hd++[p]):=Ao;refine⟨⟨D.node g.ln w f,?_⟩,?_⟩
 ·show s.runs.length+ef l0 (T++(jb gs hd).map λp=>hd++[p])<=B;(refine aa c ?_);exact RF d a
 (refine aa c ?_);exact RG a
theorem VJ{l0:aq.L3}{gs:List Int}{B:Nat}(g:gz l0 gs):∀(m:Nat) (s:DS),ef l0 s.heads<=m->k5 l0 B s->∃n,(∀i,i<n->k5 l0 B (jv gs s i)/\(jv gs s i).heads≠[])/\k5 l0 B (jv gs s n)/\(jv gs s n).heads=[]:=by
 intro m;induction m with
 |zero =>
  intro s a x;by_cases h:s.heads=[]
  ·exact aR 0 (λi q=>GM q (gU _)) x h
  exact GM (fx (x.step g h).2 a) (gU _)
 |succ m d =>
  intro s a x;by_cases h:s.heads=[]
  ·exact aR 0 (λi q=>GM q (gU _)) x h
  refine oA (x.step g h) λc b=>(aB (d (jw gs s) (RH b a) c) λn j f e=>?_);refine aR (n+1) (λi hi=>?_) (by rw[t3];exact f) (by rw[t3];exact e);cases i with
  |zero=>exact xA x h
  |succ i=>rw[t3];exact j i (ma hi)
noncomputable def pJ:Stmt:=is 12
theorem JA(P:aO):di (KP P) 169 pJ "_law_runs" .none .none (.ref 168) where
 fn:=e8 (((cp (KP P) 169).map (·.doc)).getD .none) (((cp (KP P) 169).map (·.pyModule)).getD .none) iF .none (by kernel_rfl)
 code:=by kernel_rfl
 co:=by kernel_rfl
 gen:=by kernel_rfl
 kind:=by kernel_rfl
theorem Lj(P:aO):nsIn (KP P) b7 "list"=wf iF:=by kernel_rfl
theorem Gl.list{V:Vx}(g:Gl V.G)(h:V.T.lookup ("list":Str)=wf .globalImplicit):Glob V "list" (.type "list"):=g.b h Lj FH (by decide) trivial
theorem Hk:hZ (aH pJ) ["gaps"]:=⟨by decide,by decide,by decide,by decide,by decide⟩
theorem Vc{l:Nm}{x y:Str}{v w:XV}:putN (putN (aM l) x v) y w=aM ((y,w)::(x,v)::l):=by(refine aa cJ ?_;exact aa cJ rfl)
theorem all_true{α β:Type}(xs:List α)(g:α->β):(xs.filter λa=>true).map g=xs.map g:=by(exact aa (xb.mpr (λa a=>rfl)) rfl)
section
variable{G:Gx}{n:Nat}{gs:List Int}{l0:aq.L3}
noncomputable abbrev VS(G:Gx)(n:Nat):Vx:=⟨G,n+4,(aH pJ).names,iF⟩
noncomputable abbrev qH(gs:List Int)(s:DS):Nm:=[("gaps",.fz (LI gs)),("runs",.own (.list (s.runs.map LI))),("heads",.own (.list (s.heads.map LI)))]
theorem VK(g:Gl G)(J:gz l0 gs)(hz:gs.length<=128){test:Expr}{body:List Stmt}{pos:Pos}(hb:fk (bodyOf pJ) 2=.While test body [] pos){B:Nat}(hB:B<=1000000){s:DS}(x:k5 l0 B s)(P:s.heads≠[]):au (VS G n) body (qH gs s) .next (qH gs (jw gs s)):=by
 have r:=J.told;have e:=zZ P;have hl:=x.len;have j:=Ap (l0:=l0) (hs:=s.heads);have H:=x.t6.hs (s.heads.getLastD []) (by(refine aa e ?_);simp);delta jw;cases hb;generalize s.heads.getLastD []=hd at e H ⊢;generalize s.heads.dropLast=T at e ⊢;obtain⟨runs,V⟩:=s;subst e;delta qH;refine aa (bf (l₁:=T)) ?_
 have I:(T.map LI).length<=1000000:=by rw[aw];(replace j:=cA▸j);exact RI hB hl j
 refine au.cons (Ex.tO (a9.rv (x:="heads") (name:="pop") (id:="list.pop") (ds₀:=T.map LI++[LI hd]) (ds₁:=T.map LI++[LI hd]) PySem.F.slot_list_pop PySem.F.type_list_pop rfl .nil rfl (gA.pop (RJ I))) cJ rfl) (au.cons (Ex.assign (bb.yg (g.CV rfl) .nil (n!.make g.K)) rfl) ?_);refine au.cons (Ex.for (ds:=gs.map DV.int) (λi=>[("gaps",.fz (LI gs)),("runs",.own (.list (runs.map LI))),("heads",.own (.list (T.map LI))),("head",.fz (LI hd)),("sorter",.own (.dv ⟨bG (cI gs) (gs.take i),iF,0,0⟩))]) (bj.list (Ev.var rfl)) (a?.of (dS rfl rfl rfl rfl rfl trivial)) λi d lj=>?_) ?_
 ·replace lj:=bp▸lj;refine ak (bu.mp lj) λt ht M=>?_
  obtain rfl:=M;have b:=uq J.nd r.rX i;have Q:(gs.take i).length<=128:=aa je (RL hz);have y:(cI gs t).length<=2:=iz _ _;refine dc _ _ (.name ..) (im rfl) (au.last (Ex.expr (a9.Ak (k:=t) (ns:=cI gs t) (σ:=⟨bG (cI gs) (gs.take i),iF,0,0⟩) g.K rfl (bK.of (Ev.var rfl) rfl) (aE.ev ?_) (RM y) (x9 g.K rfl ?_ λk=>?_) yd) cJ)) (a?.of (dS rfl rfl rfl rfl ?_ trivial))
  ·refine aa (show(cI gs t).map DV.int=([t+1,t+32].filter λq=>gs.contains q).map DV.int from rfl) ?_
   refine aE.k! (f:=DV.int) (bs:=λo=>[("near",.int o)]) ⟨rfl,by decide,rfl⟩ (bj.tuple (Ev.tup (aZ.two (Ev.op (Ev.var rfl) Ev.int bB.add) (Ev.op (Ev.var rfl) Ev.int bB.add)) (bl rfl))) (λo a=>⟨.name ..,own_one rfl⟩) (λo a=>?_) (λo a a=>Ev.var rfl) (bl rfl);exact bT.cmp (Ev.var rfl) (Ev.var rfl) a8.uY
  ·have Z:=gr b.ok.nd (l₂:=gs) λx hx=>((b.mem x).mp hx).elim xn λ⟨t,h3,h4⟩=>(mW.mp h4).1;exact BB hz y Z
  ·have Z:((bG (cI gs) (gs.take i)).sc k).length<=(gs.take i).length:=by rw[b.sc];exact iz _ _
   exact BB Q y Z
  refine aa (i! ht) ?_;exact aa tQ rfl
 rw[aw,fv];have c:=r.rl;refine au.cons (Ex.expr (a9.ly (σ:=⟨bG (cI gs) gs,iF,0,0⟩) g.K rfl .nil rfl (x! (rk:=m?) g.K rfl ?_ (λk R=>?_) λk R k' m=>?_) (λd h=>(GM h aX)) yH yN zR (λa a=>rfl)) cJ) ?_
 ·exact pz hz c
 ·rw[r.gb.sc];have:=iz (λt=>decide (k∈cI gs t)) gs;exact RP hz this
 ·have m:=m;rw[r.gb.sc] at m;exact(r.mX.lt k k' m).2
 refine oE r.si λrd si=>?_
 have uc:(sT (cI gs) gs).rd.getD []=rd:=aa si.c_ rfl;have z:w0 gs=(iq (sT (cI gs) gs),rd):=by unfold w0;(exact aa uc rfl)
 have E:=si.r2;have O:(rd.map DV.int).length<=2^24:=by rw[aw];exact Bw hz c E
 refine au.cons (Ex.listOf (g.list rfl) (a9.ly (f:=117) (name:="get_ready") (σ:=sT (cI gs) gs) g.K rfl .nil rfl (si.oq (n:=n+3) g.K (pz hz c)) (λd h=>(GM h aX)) ue um u6 (λa a=>rfl)) cJ O rfl) (au.cons (Ex.for (ds:=hd.map DV.int) (λi=>[("gaps",.fz (LI gs)),("runs",.own (.list (runs.map LI))),("heads",.own (.list (T.map LI))),("head",.fz (LI hd)),("sorter",.own (.dv (gP gs (hd.take i)).1)),("waiting",.own (.list ((gP gs (hd.take i)).2.map DV.int)))]) (bj.list (Ev.var rfl)) (a?.of (sy rfl rfl rfl rfl ?_ ?_ trivial)) λi d lj=>?_) ?_)
 ·exact aa z rfl
 ·show wf _=wf (XV.own (.list ((w0 gs).2.map DV.int)));exact aa z rfl
 ·replace lj:=bp▸lj;refine ak (bu.mp lj) λp hp L=>?_
  obtain rfl:=L;refine oA (Dm J H i) λl X=>?_
  have w:=X p hp;refine aa (Dn hp) ?_
  generalize gP gs (hd.take i)=s at l w;refine LQ (Dp r l w) λYQ N C e1 A=>?_
  have D:s.2.length<=gs.length:=by have:=gr (cQ.mp (cQ.mp l.nd).2.1).1 (λk R=>SI.sub l k (bt _ (b? _ R)));exact RQ c this
  have v:=A.r2;have U:((s.2.erase p).map DV.int).length<=128:=by rw[aw];exact bF (List.length_erase_le ..) (RT hz D)
  refine dc _ _ (.name ..) (im rfl) (au.cons (Ex.expr (a9.ly (f:=138) (name:="done") (σ:=s.1) g.K rfl (.one (a9.sc (bK.of (Ev.var rfl) rfl))) rfl (N.qv (n:=n+3) g.K r.mX (pz hz c)).act (λd h=>aa (aK.mp h) rfl) yG yM zS (λa a=>rfl)) cJ) ?_) (a?.refl _);refine au.cons (Ex.expr (a9.rv (x:="waiting") (name:="remove") (id:="list.remove") (ds₀:=s.2.map DV.int) (ds₁:=s.2.map DV.int) (ds':=(s.2.erase p).map DV.int) PySem.F.slot_list_remove PySem.F.type_list_remove rfl (.one (a9.sc (bK.of (Ev.var rfl) rfl))) rfl (gA.remove w (RU hz D))) cJ) ?_
  refine au.drop (au.last (Ex.expr (a9.rv (x:="waiting") (name:="extend") (id:="list.extend") (ds₀:=(s.2.erase p).map DV.int) (ds₁:=(s.2.erase p).map DV.int) PySem.F.slot_list_extend PySem.F.type_list_extend rfl (.one (a9.ly (f:=117) (name:="get_ready") (σ:=ff [p] s.1) g.K rfl .nil rfl (A.oq (n:=n+3) g.K (pz hz c)) (λd h=>(GM h aX)) ue um u6 (λa a=>rfl))) rfl (gA.G_ (by have Y:(C.map DV.int).length=C.length:=aw ..;exact RV hz c v U Y))) Vc)) (a?.of (sy rfl rfl rfl rfl rfl ?_ trivial));show wf _=wf (XV.own (.list ((s.2.erase p++(ff [p] s.1).rd.getD []).map DV.int)));refine aa e1 ?_;exact aa bf rfl
 rw[aw,fv];have hw:=Ds J H;have u:=aq.Dq H hw;show au (VS G n) _ [("gaps",.fz (LI gs)),("runs",.own (.list (runs.map LI))),("heads",.own (.list (T.map LI))),("head",.fz (LI hd)),("sorter",.own (.dv (gP gs hd).1)),("waiting",.own (.list ((jb gs hd).map DV.int)))] .next _;generalize jb gs hd=W at hw u;have v:(runs.map LI).length<=1000000:=by rw[aw];exact RW hB hl
 have S:hd.length<=9:=by have h1:=H.len;obtain⟨c0,cb,ba,a3⟩:=J.ln;obtain⟨d0,db,da,d3⟩:=H.ln;exact RX h1 cb ba a3 d0 db da
 refine au.cons (l₁:=[("gaps",.fz (LI gs)),("runs",.own (.list ((if W=[] then runs++[hd] else runs).map LI))),("heads",.own (.list (T.map LI))),("head",.fz (LI hd)),("waiting",.own (.list (W.map DV.int)))]) (Ex.ite (b:=decide (W=[])) (bU.of (bT.cmp (d₂:=LI []) (Ev.var rfl) (aE.ev (aE.dY .nil (by decide))) (a8.qO (jY 4 n)))) (λq=>?_) λq=>?_) ?_
 ·refine aa (FB (of_decide_eq_true q)) ?_;refine aa bf ?_
  exact au.drop (au.last (Ex.append (x:="runs") rfl (bb.iP (Ev.var rfl)) (RY v))) (a?.of (dS rfl rfl rfl rfl rfl trivial))
 ·refine aa (Da (of_decide_eq_false q)) ?_
  exact au.drop au.nil (a?.of (dS rfl rfl rfl rfl rfl trivial))
 refine au.freeze (x:="waiting") rfl rfl (au.drop (au.last (Ex.expr (a9.rv (x:="heads") (name:="extend") (id:="list.extend") (ds₀:=T.map LI) (ds₁:=T.map LI) (as:=[.list ((W.map λp=>hd++[p]).map LI)]) (ds':=T.map LI++(W.map λp=>hd++[p]).map LI) PySem.F.slot_list_extend PySem.F.type_list_extend rfl (.one (a9.iP (aE.ev ?_))) rfl (gA.G? (by have Y:((W.map λp=>hd++[p]).map LI).length=W.length:=(aw ..).trans (aw ..);exact RZ I u Y))) cJ)) (a?.of (cL rfl rfl ?_ trivial)))
 ·refine aa (show(W.map λp=>hd++[p]).map LI=(W.filter λa=>true).map (λp=>LI (hd++[p])) from by rw[all_true,dW];rfl) ?_
  refine aE.k! (f:=DV.int) (bs:=λp=>[("place",.int p)]) ⟨rfl,by decide,rfl⟩ (bj.list (Ev.var rfl)) (λa a=>⟨.name ..,own_one rfl⟩) (λa a=>rfl) (λp hp a=>aE.ev ?_) (R1 u);refine aa bf ?_
  exact aE.iL (Ev.var rfl) (aE.ev (aE.dY (aZ.one (Ev.var rfl)) (bl rfl))) (by rw[aw];exact R6 S)
 exact aa bf rfl
theorem VI(g:Gl G)(c:gz l0 gs)(hz:gs.length<=128):∃runs,aq.fE l0 [] runs/\runs.length<=1000000/\au (VS G n) (bodyOf pJ) [("gaps",.fz (LI gs))] (.ret (.fz (LL runs))) []:=by
 have d:(aq.sz l0).toNat<=9:=by obtain⟨s,p,q,a3⟩:=c.ln;exact R7 p q a3
 have l:0+ef l0 [[]]<=1000000:=by show 0+(4^((aq.sz l0).toNat-0)+0)<=_;have:4^(aq.sz l0).toNat<=4^9:=Nat.pow_le_pow_right (by decide) d;rw[Nat.sub_zero];exact R8 this
 refine aB (VJ c _ ⟨[],[[]]⟩ (bD _) ⟨aq.fE.start c.ln,l⟩) λm o j h=>?_
 have f:=j.t6;rw[h] at f;have k:=j.len;refine aR _ f (R9 k) (au.cons (Ex.assign (xv:=.own (.list [])) (bb.lz (aE.dY .nil (by decide))) rfl) ?_);refine au.cons (Ex.assign (xv:=.own (.list ([[]].map LI))) (bb.lz (aE.dY (aZ.one (aE.ev (aE.dY .nil (by decide)))) (bl rfl))) rfl) (au.cons (Ex.while (λi=>qH gs (jv gs ⟨[],[[]]⟩ i)) m (a?.of (cL rfl rfl rfl trivial)) (λi hi=>?_) ?_) (au.freeze (x:="runs") rfl rfl (au.ret (Ex.ret (bb.iP (Ev.var rfl))))))
 ·obtain⟨x,b⟩:=o i hi;refine jS (bU.cast (bU.of (bT.cmp (d₂:=LI []) (Ev.var rfl) (aE.ev (aE.dY .nil (by decide))) (a8.rC (jY 4 n)))) ?_) _ (VK (n:=n) g c hz rfl (bD _) x b) (a?.refl _);cases e:(jv gs ⟨[],[[]]⟩ i).heads with
  |nil=>exact GM e b
  |cons a r=>rfl
 refine bU.cast (bU.of (bT.cmp (d₂:=LI []) (Ev.var rfl) (aE.ev (aE.dY .nil (by decide))) (a8.rC (jY 4 n)))) ?_
 (refine aa h ?_);rfl
theorem GS(g:Gl G)(e:gz l0 gs)(hz:gs.length<=128):∃runs,aq.fE l0 [] runs/\runs.length<=1000000/\bg G (n+5) (.ref 169) [LI gs] (LL runs):=by
 refine aB (VI (n:=n) g e hz) λruns d c b=>(aR runs d c (bg.fn gy.none (aa g.K (JA _)) Hk (λvs h doc pm an ct S=>?_) rfl b));refine oE (rn h) λv a=>?_
 obtain rfl:=a;(refine aa g.K ?_);kernel_rfl
end
theorem mem_lookup{es:List (Int×Int)}(a:(ay es).Nodup){p x:Int}:(p,x)∈es↔es.lookup p=wf x:=⟨λh=>lw a h,λh=>dO h⟩
theorem Ha{es:List (Int×Int)}{p:Int}:fD es (p/32) (p%32)=es.lookup p:=by
 have e:=sL p 32;show(if 0<=p%32/\p%32<32/\32*(p/32)+p%32∈ay es then wf (aP es (32*(p/32)+p%32)) else iF)=_;refine aa e ?_
 by_cases h:p∈ay es
 ·refine aa (FB (aC ph rM h)) ?_;exact aa (mU h) rfl
 refine aa (Da (λw=>h w.2.2)) ?_
 cases q:es.lookup p with
 |none=>rfl
 |some v=>exact GM (eW.mpr (by(refine aa q ?_);rfl)) h
theorem AF{es:List (Int×Int)}(hn:(ay es).Nodup):es.Nodup:=by
 induction es with
 |nil=>exact iB
 |cons a r b =>rw[ay,bq] at hn;replace hn:=dq.mp (hn);exact dq.mpr ⟨λh=>hn.1 (bh.mpr (ar a h rfl)),b hn.2⟩
theorem V1{es fs:List (Int×Int)}(c:(ay es).Nodup)(b:(ay fs).Nodup)(h:∀p x,(p,x)∈es↔(p,x)∈fs):i5 es fs=true:=by delta i5;have hp:=(nE (AF c) (AF b)).mpr λa=>h a.1 a.2;rw[f_,beq_iff_eq,eE];refine⟨hp.length_eq,λa d=>?_⟩;refine beq_iff_eq.mpr (?_);exact(mem_lookup b).mp ((h a.1 a.2).mp d)
theorem C?{w:List Int}{fs:List (Int×Int)}{f:aq.bz}(c:w.length<=32)(b:(ay fs).Nodup)(e:aq.c? [] w=aq.full (aq.rowsOf f))(k:aq.Tab f)(g:aq.dC λi j=>(f i j).isSome=true)(d:aq.eS λi j=>(f i j).isSome=true)(h:∀p,f (p/32) (p%32)=fs.lookup p):i5 (tabOf w) fs=true:=by
 have sz:∀R∈aq.c? [] w,R.length<=32:=λR a=>by have:=(Cj (w:=w) (rows:=[]) (M:=0) λR a=>GM a aX).2 R a;exact vR c this
 refine V1 (B! (r:=0) sz).1 b λp x=>?_
 rw[aq.UZ sz,e,aq.Wz k g d,h,mem_lookup b]
noncomputable def cy(f:Nat->Int)(n i:Nat):List (Int×Int):=(hV i).map λj=>(f j,(n:Int)-(j:Int))
theorem o_{f:Nat->Int}{n i:Nat}:ay (cy f n i)=(hV i).map f:=by unfold cy ay;(refine aa dW ?_);rfl
theorem Am{f:Nat->Int}{n i:Nat}:cy f n (i+1)=cy f n i++[(f i,(n:Int)-(i:Int))]:=by delta cy;(refine aa En ?_;refine aa bf ?_);rfl
theorem vd{f:Nat->Int}{n:Nat}(h:∀i j,i<n->j<n->f i=f j->i=j):∀i,i<=n->(ay (cy f n i)).Nodup:=by
 intro l0;induction l0 with
 |zero =>intro _;exact iB
 |succ i k =>
  intro hi;rw[Am,ay,bf];refine cQ.mpr (?_);refine aC (k (nI hi)) (dq.mpr ⟨aX,iB⟩) (λa ha b d e=>?_);have d:=aK.mp d;have ha:a∈ay (cy f n i):=ha;replace ha:=o_▸ha;refine ak (bh.mp ha) λj c g=>?_
  obtain rfl:=g;have c:=jW.mp c;have:=h j i (R! hi c) (R? hi) (e.trans d);exact BC c this
theorem Al{f:Nat->Int}{n i:Nat}(h:∀i j,i<n->j<n->f i=f j->i=j)(hi:i<n):eZ (cy f n i) (f i) ((n:Int)-(i:Int))=cy f n (i+1):=by
 refine aa Am ?_
 refine sm λw=>?_
 have w:f i∈ay (cy f n i):=w;rw[o_] at w;refine ak (bh.mp w) λj a e=>?_
 have a:=jW.mp a;have:=h j i (R_ hi a) hi e;exact BC a this
theorem vc{f:Nat->Int}{n:Nat}{p x:Int}:(p,x)∈cy f n n↔∃j:Nat,j<n/\p=f j/\x=(n:Int)-(j:Int):=by
 delta cy;rw[bh];constructor
 ·intro b;refine ak b λj d e=>?_
  exact aR j (jW.mp d) ((eG e).1.symm) ((eG e).2.symm)
 intro a;refine aB a λj d c c=>?_
 obtain rfl:=c;obtain rfl:=c;exact ar j (jW.mpr d) rfl
section
variable{G:Gx}{n:Nat}
theorem We(g:Gl G)(y:4<=n){L:Nat}(z:L<=1000):∀(run:List Int) (es:List (Int×Int)),run.Nodup->(∀p∈run,iY p/\p∉ay es)->(ay es).Nodup->(∀q∈ay es,iY q)->es.length=L ->
  ∃(D:Nat->List (Int×Int)) (q:Nat->Int),D 0=es/\(∀i p,run[i]?=wf p->j8 G (n+1) 174 (D i) [.int p] (D (i+1)) (.int (q i))) /\
   aq.ir 128 (run.map aq.pl) (fD es)=((hV run.length).map λi=>aq.pl (q i),fD (D run.length))/\(ay (D run.length)).Nodup/\(∀i,iY (q i)):=by
 intro l0;induction l0 with
 |nil =>intro es _ _ d m l;exact kH (λj=>es) (λj=>0) rfl (λi p h=>(by injection h)) rfl d (λj=>show iY 0 from(aC (by decide) (by decide) (by decide)))
 |cons p run v =>
  intro es h1 f d m l;replace h1:=dq.mp (h1);refine oA (f p (.head _)) λc b=>(jJ (E_ (n:=n) g y z ⟨d,m,c,b,l⟩) λes' k I a A act=>?_);refine iX (v es' h1.2 (λx hx=>⟨(f x (.tail _ hx)).1,λw=>(a x w).elim (f x (.tail _ hx)).2 λe=>h1.1 (az e hx)⟩) I.nd I.ok I.len) λD q u t s r o=>(kH (λi=>match i with|0=>es|i+1=>D i) (λi=>match i with|0=>k|i+1=>q i) rfl (λi x hx=>?_) ?_ r (λi=>?_))
  ·cases i with
   |zero =>replace hx:=ax hx;subst hx;show j8 G (n+1) 174 es [.int p] (D 0) (.int k);(refine aa u ?_);exact act
   |succ i=>exact t i x hx
  ·refine aa bq ?_
   show((aq.cr 128 (fD es) (aq.pl p)).2::(aq.ir 128 (run.map aq.pl) (aq.cr 128 (fD es) (aq.pl p)).1).1,(aq.ir 128 (run.map aq.pl) (aq.cr 128 (fD es) (aq.pl p)).1).2)=_;refine aa A ?_
   refine aa s ?_
   show _=((hV (run.length+1)).map _,_);(refine aa List.range_succ_eq_map ?_;refine aa bq ?_;refine aa dW ?_);rfl
  cases i with
  |zero=>exact I.m7
  |succ i=>exact o i
structure iI(l:aq.L3)(m0 m1 m2 m3:Int)(es:List (Int×Int)):Prop where
 ln:aq.Ln l.1 l.2.1 l.2.2
 li:aq.jq m0 m1 m2 m3
 k1:l.1<=m0
 k2:l.2.1<=m1
 k3:l.2.2<=m2
 nd:(ay es).Nodup
 mem:∀p,p∈ay es↔aq.Num l m0 m1 m2 m3 p
 hl:∀p∈ay es,p-1∈ay es->aP es (p-1)<=aP es p
 hu:∀p∈ay es,p-32∈ay es->aP es (p-32)<aP es p
section
variable{l:aq.L3}{m0 m1 m2 m3:Int}{es:List (Int×Int)}{run:List Int}
theorem iI.all(N:iI l m0 m1 m2 m3 es):∀p∈ay es,p∈aq.e?:=aq.LK N.ln N.li N.mem
theorem iI.len(N:iI l m0 m1 m2 m3 es):es.length<=20:=by have:=gr N.nd N.all;rw[ay,aw] at this;exact this
theorem iI.ok(N:iI l m0 m1 m2 m3 es):∀p∈ay es,iY p:=λp hp=>by have h:=(N.mem p).mp hp;obtain⟨f,e,g,a3⟩:=N.ln;obtain⟨d0,d,c,b,a⟩:=N.li;exact Sa h f e g d c b a
theorem CF(h:aq.Ln l.1 l.2.1 l.2.2)(R:aq.iJ l run):(∀p∈run,iY p)/\run.length<=20:=by refine⟨λp hp=>?_,gr R.nd (R.zF h)⟩;have k:=(R.all p).mp hp;obtain⟨c,a,b,a3⟩:=h;exact Sb k a b a3
theorem G0:∀{n i:Nat},i<n->(aq.bM n)[i]?=wf ((n:Int)-(i:Int)):=by
 intro l0;induction l0 with
 |zero =>intros;simp at *
 |succ n a =>
  intro m0;cases m0 with
  |zero =>intro _;exact congrArg wf Se
  |succ i =>
   intro h;show(aq.bM n)[i]?=_
   refine aa (a (ma h)) ?_
   exact congrArg wf Sf
theorem vZ(p:Int):aq.g? (aq.pl p)=p:=sL p 32
theorem VH(g:Gl G)(hn:4<=n)(N:iI l m0 m1 m2 m3 es)(R:aq.iJ l run):∃(D:Nat->List (Int×Int)) (q:Nat->Int),D 0=es/\(∀i p,run[i]?=wf p->j8 G (n+1) 174 (D i) [.int p] (D (i+1)) (.int (q i))) /\
  (∀i j,i<run.length->j<run.length->q i=q j->i=j)/\(∀i,iY (q i))/\(ay (D run.length)).Nodup /\
  (∀ps,aq.Rd aq.gg (ay es) ps->(∀p∈ay es,p∈ps)->i5 (tabOf (ps.map (aP es))) (D run.length)=true) /\
  ∀ps,aq.Rd aq.gg (ay (cy q run.length run.length)) ps->(∀p∈ay (cy q run.length run.length),p∈ps)->i5 (tabOf (ps.map (aP (cy q run.length run.length)))) (cy (λj=>run.getD j 0) run.length run.length)=true:=by
 refine oA (CF N.ln R) λF u=>?_
 have y:=aq.LH N.ln N.li N.mem R;have o:=N.len;have O:=aq.LG N.ln N.li N.mem;refine LX (aq.J0 (k:=128) N.nd N.all (aq.WF O N.hl N.hu) O R.nd (R.zF N.ln) y (R.gG N.ln) (aq.LJ N.ln N.li N.mem R N.k1 N.k2 N.k3) R.ord (by rw[ay,aw];exact Sg o)) λf σ Y X W V U T s7 fw S=>pf fw λf1 f2 f3 f4 f5=>(iX (We (n:=n) (L:=es.length) g hn (Sh o) run es R.nd (λp hp=>⟨F p hp,y p hp⟩) N.nd N.ok rfl) λD q q1 q2 q3 M q5=>?_);have I:=Y.symm.trans q3;refine oA (eG I) λe1 e2=>?_
 have t:∀i,i<run.length->σ ((run.length:Int)-(i:Int))=aq.pl (q i):=λi hi=>by have:=congrArg (λL:List aq.PP=>L[i]?) e1;rw[bp,G0 hi,bp,List.getElem?_range hi] at this;exact ax this
 have A:∀i:Nat,i<run.length->(run.length:Int)-(i:Int)∈aq.bM run.length:=λi hi=>aq.mV.mpr (Si hi);have J:∀i j,i<run.length->j<run.length->q i=q j->i=j:=λi j hi a e=>by have:=T _ (A i hi) _ (A j a) (aa (t i hi) (aa (t j a) (aa e rfl)));exact Sj this
 have mn:=vd (f:=q) (n:=run.length) J run.length (bD _);have x:∀j,j<run.length->run.getD j 0=run[j]?.getD 0:=λj Q=>jV ..
 have Z:∀i j,i<run.length->j<run.length->run.getD i 0=run.getD j 0->i=j:=λi j hi a e=>by rw[x i hi,x j a,cz hi,cz a] at e;exact(xg R.nd).mp e
 have P:=vd (f:=λj=>run.getD j 0) (n:=run.length) Z run.length (bD _);refine wI D q q1 q2 J q5 M (λps hp b=>?_) (λps hp b=>?_)
 ·refine C? ?_ M (U ps hp b) X W V λp=>aa e2 Ha
  rw[aw];have:=gr hp.nd hp.sub;rw[ay,aw] at this;exact BD o this
 have hm:∀p,p∈ay (cy q run.length run.length)↔∃s∈aq.bM run.length,aq.g? (σ s)=p:=λp=>by
  rw[o_,bh];constructor
  ·intro d;refine ak d λj a E=>?_
   obtain rfl:=E;have a:=jW.mp a;exact ar _ (A j a) (by rw[t j a,vZ])
  intro c;refine ak c λs hs C=>?_
  obtain rfl:=C;have h:=aq.mV.mp hs;refine ar (((run.length:Int)-s).toNat) (jW.mpr (pi h)) ?_
  have a:((run.length:Int)-s).toNat<run.length:=by exact pi h
  have e:=t _ a;rw[show(run.length:Int)-((((run.length:Int)-s).toNat:Nat):Int)=s by exact BE h] at e;rw[e,vZ]
 have hM:∀s∈aq.bM run.length,aP (cy q run.length run.length) (aq.g? (σ s))=s:=λs hs=>by
  have h:=aq.mV.mp hs;have a:((run.length:Int)-s).toNat<run.length:=by exact pi h
  have e:=t _ a;have e0:(run.length:Int)-((((run.length:Int)-s).toNat:Nat):Int)=s:=by exact BE h
  rw[e0] at e;rw[e,vZ];delta aP;(refine aa ((mem_lookup mn).mp (vc.mpr (aR _ a rfl e0.symm))) ?_);rfl
 refine C? ?_ P (S _ _ hm hM ps hp b) f1 f2 f3 λp=>?_
 ·rw[aw];have:=gr hp.nd hp.sub;rw[o_,aw,p6] at this;exact BD u this
 have H:aq.dN run (p/32) (p%32)↔p∈run:=by delta aq.dN;rw[sL];exact⟨λw=>w.2.2,λw=>⟨by exact ph,by exact rM,w⟩⟩
 by_cases m:p∈run
 ·obtain⟨k,r,e⟩:=List.mem_iff_getElem.mp m;have B:=f5 _ (A k r);have h2:aq.cH run ((run.length:Int)-(k:Int))=aq.pl p:=by delta aq.cH;(refine aa (show((run.length:Int)-((run.length:Int)-(k:Int))).toNat=k by exact Sm) ?_;refine aa (x k r) ?_;refine aa (cz r) ?_;refine az e ?_);rfl
  rw[h2] at B;refine B.trans ((mem_lookup P).mp (vc.mpr (aR k r ?_ rfl))).symm;(refine aa (x k r) ?_;refine aa (cz r) ?_;refine az e ?_);rfl
 have B:aq.aQ (aq.bM run.length) (aq.cH run) id (p/32) (p%32)=iF:=by
  cases z:aq.aQ (aq.bM run.length) (aq.cH run) id (p/32) (p%32) with
  |none=>rfl
  |some v=>exact GM (H.mp ((f4 _ _).mp (aa z rfl))) m
 refine aa B ?_
 cases z:(cy (λj=>run.getD j 0) run.length run.length).lookup p with
 |none=>rfl
 |some v =>
  refine aB (vc.mp (dO z)) λj a e Q=>?_
  rw[x j a,cz a] at e;exact GM (aa e (iy a)) m
end
end
noncomputable def dm:Stmt:=is 17
noncomputable abbrev Kd:Str:="law.<locals>.<lambda>"
noncomputable abbrev VL(G:Gx):Vx:=⟨G,20,(aH dm).names,wf (193,Kd)⟩
theorem Lo(P:aO):nsIn (KP P) b7 "sorted"=wf iF:=by kernel_rfl
theorem Gl.sorted{V:Vx}(g:Gl V.G)(h:V.T.lookup ("sorted":Str)=wf .globalImplicit):Glob V "sorted" (.builtin "sorted"):=g.b h Lo FN (by decide) trivial
theorem Lq(P:aO):nsIn (KP P) b7 "zip"=wf iF:=by kernel_rfl
theorem Gl.zip{V:Vx}(g:Gl V.G)(h:V.T.lookup ("zip":Str)=wf .globalImplicit):Glob V "zip" (.type "zip"):=g.b h Lq FR (by decide) trivial
theorem Wy{elt:Expr}{gens:List d9}{scope:bS}{pos px:Pos}{t:Str}{a:Nat}{env:Env}{T:List (Str×c5)}(c:env.scope.names=T)(h:T.lookup t=wf .cell):iH (.ListComp elt gens scope pos) (wf (.Name t px)) a env=pure false:=by
 have b:env.kindOf t=wf .cell:=by show env.scope.names.lookup t=_;(refine aa c ?_);exact h
 show(pure (env.blockKind == .function&&env.kindOf t==wf .local&&px.line==pos.line && !(scope.names.any λx=>x.1==t&&(x.2 == .local||x.2 == .cell))):Sem Bool)=_;refine aa b ?_
 have e:(wf nH==wf NameKind.local)=false:=rfl;rw[e,Bool.and_false,wR,wR]
noncomputable def sv(sc:List Int):Int:=sc.foldl (λt x=>61*t+x) 860934417069
noncomputable def cx(b t:Int):Nat->List Int×Int
 |0=>([],t)
 |n+1=>((cx b t n).1++[(cx b t n).2.fmod b],(cx b t n).2.fdiv b)
theorem qG{b t:Int}:∀n,(cx b t n).1.length=n:=by
 intro l0;induction l0 with
 |zero =>exact rfl
 |succ n a =>(refine aa cA ?_;refine aa (a) ?_);rfl
theorem yu{b t:Int}(a:0<b):∀n,∀x∈(cx b t n).1,0<=x/\x<b:=by
 intro l0;induction l0 with
 |zero =>intro x h;exact GM h aX
 |succ n c =>
  intro x h;obtain h|h:=aT.mp (h)
  ·exact c x h
  refine aa (aK.mp h) ?_
  exact xA (wU _ a) (DT _ a)
noncomputable def sf(ns:List Int):List Int:=ns.mergeSort λa b=>decide (a≥b)
theorem ng(ns:List Int):(sf ns).Perm ns:=Ek ns _
theorem sg(ns:List Int):(sf ns).Pairwise (·≥·):=by have:=El (le:=λa b:Int=>decide (a≥b)) (λa b c e d=>by simp at *;exact vE e d) (λa b=>by simp;exact So) ns;exact this.imp λh=>of_decide_eq_true h
theorem Ku{α:Type}{vs:List α}(h:vs.length=4):∃a b c d,vs=[a,b,c,d]:=by
 match vs,h with
 |[a,b,c,d],_=>exact e8 a b c d rfl
theorem Kt{α:Type}{vs:List α}(h:vs.length=3):∃a b c,vs=[a,b,c]:=by
 match vs,h with
 |[a,b,c],_=>exact wJ a b c rfl
section
variable{G:Gx}{sc:List Int}
theorem Ko(g:Gl G){fl:Fl}{l':Nm}(rest:au (VL G) ((bodyOf dm).drop 2) [("told",.fz (.int (sv sc)))] fl l'):au (VL G) (bodyOf dm) [("script",.fz (LI sc))] fl l':=by
 refine au.cons (Ex.assign (bb.sc (bK.of Ev.int rfl)) rfl) (au.cons (Ex.for (ds:=sc.map DV.int) (λi=>[("told",.fz (.int (sv (sc.take i))))]) (bj.list (Ev.var rfl)) (a?.of ⟨rfl,trivial⟩) λi d hd=>?_) ?_)
 ·replace hd:=bp▸hd;refine ak (bu.mp hd) λx b a=>?_
  obtain rfl:=a;refine dc _ _ (.name ..) (im rfl) (au.last (Ex.assign (bb.sc (bK.of (Ev.op (Ev.op Ev.int (Ev.var rfl) (bB.mul (sM (by decide +kernel)))) (Ev.var rfl) bB.add) rfl)) rfl)) (a?.of ⟨?_,trivial⟩);refine aa (i! b) ?_
  delta sv;(refine aa gu ?_);rfl
 rw[aw,fv];exact rest
theorem Kg(g:Gl G){t:Int}{fl:Fl}{l':Nm}(rest:au (VL G) ((bodyOf dm).drop 6) [("told",.fz (.int (cx 4 (cx 5 t 4).2 3).2)),("lines",.own (.list (((cx 5 t 4).1.map λx=>x+1).map DV.int))),("lengths",.own (.list ((cx 4 (cx 5 t 4).2 3).1.map DV.int)))] fl l') :
  au (VL G) ((bodyOf dm).drop 2) [("told",.fz (.int t))] fl l':=by
 refine au.cons (Ex.assign (xv:=.own (.list [])) (bb.lz (aE.dY .nil (by decide))) rfl) (au.cons (Ex.for (ds:=(du 0 4).map DV.int) (λi=>[("told",.fz (.int (cx 5 t i).2)),("lines",.own (.list (((cx 5 t i).1.map λx=>x+1).map DV.int)))]) (bj.nb (m:=4) (Ev.call (g.range rfl) (aZ.one Ev.int) bg.range) (by decide)) (a?.of (aC rfl rfl trivial)) λi d c=>?_) ?_)
 ·obtain⟨hi,rfl⟩:=r4 c;have a:=qG (b:=5) (t:=t) i;refine dc _ _ (.name ..) (im rfl) (au.cons (Ex.qx (a9.qz (g.divmod rfl) (aZ.two (Ev.var rfl) Ev.int) (bg.divmod (by decide) (by decide)) (by exact iu rfl rfl)) rfl rfl rfl) (au.last (Ex.append (x:="lines") rfl (bb.sc (bK.of (Ev.op (Ev.var rfl) Ev.int bB.add) rfl)) (by rw[aw,aw,a];exact Sq hi)))) (a?.of (aC rfl ?_ trivial));show wf _=wf _;(refine aa (show(cx 5 t (i+1)).1=(cx 5 t i).1++[(cx 5 t i).2.fmod 5] from rfl) ?_;refine aa bf ?_;refine aa bf ?_);rfl
 refine au.cons (Ex.assign (xv:=.own (.list [])) (bb.lz (aE.dY .nil (by decide))) rfl) (au.cons (Ex.for (ds:=(du 0 3).map DV.int) (λi=>[("told",.fz (.int (cx 4 (cx 5 t 4).2 i).2)),("lines",.own (.list (((cx 5 t 4).1.map λx=>x+1).map DV.int))),("lengths",.own (.list ((cx 4 (cx 5 t 4).2 i).1.map DV.int)))]) (bj.nb (m:=3) (Ev.call (g.range rfl) (aZ.one Ev.int) bg.range) (by decide)) (a?.of (cL rfl rfl rfl trivial)) λi d c=>?_) ?_)
 ·obtain⟨hi,rfl⟩:=r4 c;have a:=qG (b:=4) (t:=(cx 5 t 4).2) i;refine dc _ _ (.name ..) (im rfl) (au.cons (Ex.qx (a9.qz (g.divmod rfl) (aZ.two (Ev.var rfl) Ev.int) (bg.divmod (by decide) (by decide)) (by exact iu rfl rfl)) rfl rfl rfl) (au.last (Ex.append (x:="lengths") rfl (bb.sc (bK.of (Ev.var rfl) rfl)) (by rw[aw,a];exact Sr hi)))) (a?.of (cL rfl rfl ?_ trivial));show wf _=wf _;(refine aa (show(cx 4 (cx 5 t 4).2 (i+1)).1=(cx 4 (cx 5 t 4).2 i).1++[(cx 4 (cx 5 t 4).2 i).2.fmod 4] from rfl) ?_;refine aa bf ?_);rfl
 exact rest
theorem Kl(g:Gl G){t a b c m0 m1 m2 m3:Int}{ns ks:List Int}(j:ns.length<64)(k:ks.length<64)(i:sf ns=[m0,m1,m2,m3])(e:sf ks=[a,b,c]){fl:Fl}{l':Nm}(rest:au (VL G) ((bodyOf dm).drop 9) [("told",.fz (.int t)),("lines",.fz (LI [m0,m1,m2,m3])),("lengths",.fz (LI [gT a m0,gT b m1,gT c m2,gT 0 m3]))] fl l') :
  au (VL G) ((bodyOf dm).drop 6) [("told",.fz (.int t)),("lines",.own (.list (ns.map DV.int))),("lengths",.own (.list (ks.map DV.int)))] fl l':=by
 refine au.freeze (x:="lines") rfl rfl (au.cons (Ex.assign (bb.sj (x:="length") (ms:=[m0,m1,m2,m3]) (bl rfl) rfl (g.sorted rfl) (Ev.var rfl) j (i▸ng ns) (i▸sg ns) rfl rfl rfl rfl rfl rfl) rfl) ?_);refine au.freeze (x:="lengths") rfl rfl (au.cons (Ex.assign (bb.iL (bb.sj (x:="length") (ms:=[a,b,c]) (bl rfl) rfl (g.sorted rfl) (Ev.var rfl) k (e▸ng ks) (e▸sg ks) rfl rfl rfl rfl rfl rfl) (aE.ev (aE.dY (aZ.one Ev.int) (bl rfl))) (bl rfl)) rfl) ?_);refine au.cons (Ex.assign (xv:=.fz (LI [gT a m0,gT b m1,gT c m2,gT 0 m3])) (bb.iP (aE.ev ?_)) rfl (λenv h=>Wy h rfl)) (au.weak rest (a?.of (cL rfl rfl rfl trivial)));refine aE.k! (xs:=[(a,m0),(b,m1),(c,m2),(0,m3)]) (f:=λp=>DV.tuple [.int p.1,.int p.2]) (bs:=λp=>[("pair",.tuple [.int p.1,.int p.2])]) (p:=λd=>true) (g:=λp=>DV.int (gT p.1 p.2)) ⟨rfl,by decide,rfl⟩ (bj.zip (ds:=[.int a,.int b,.int c,.int 0]) (es:=[.int m0,.int m1,.int m2,.int m3]) (g.zip rfl) (Ev.var rfl) (Ev.var rfl) (bD _)) (λd d=>⟨.name ..,own_one rfl⟩) (λd d=>rfl) (λp d d=>Ev.call (g.min rfl) (aZ.one (Ev.var rfl)) bg.va) (bl rfl)
end
noncomputable def gh(es:List (Int×Int))(p:Int):List Int:=(([(p-1,(0:Int)),(p-32,1)]:List (Int×Int)).filter λq=>(es.lookup q.1).isSome).map λq=>aP es q.1+q.2
noncomputable def mx(ns:List Int):Int:=ns.foldl max 0
noncomputable def k8(s:Int×List (Int×Int))(p:Int):Int×List (Int×Int):=(s.1.fdiv 3,eZ s.2 p (mx (gh s.2 p)+s.1.fmod 3))
noncomputable def h?(t:Int)(ps:List Int):Int×List (Int×Int):=ps.foldl k8 (t,[])
theorem yb{t p:Int}{ps:List Int}:h? t (ps++[p])=k8 (h? t ps) p:=by unfold h?;(refine aa gu ?_);rfl
theorem foldl_max:∀(r:List Int) (a:Int),(r.foldl max a=a\/r.foldl max a∈r)/\a<=r.foldl max a/\∀x∈r,x<=r.foldl max a:=by
 intro l0;induction l0 with
 |nil =>intro a;exact aC (.inl rfl) (br _) (λx h=>GM h aX)
 |cons b r d =>
  intro a;refine a! (d (max a b)) λh1 c e=>?_
  refine aa hO ?_
  refine aC ?_ (Ss c) (λx hx=>?_)
  ·obtain h1|h1:=h1
   ·refine aa h1 ?_
    by_cases h:b<=a
    ·exact .inl (Su h)
    exact .inr (aa (show max a b=b by exact Sv h) (.head _))
   exact .inr (.tail _ h1)
  obtain rfl|hx:=aW.mp hx
  ·exact Sx c
  exact e x hx
theorem Lc{ns:List Int}:mx ns∈0::ns:=by
 obtain e|e:=(foldl_max ns 0).1
 ·show ns.foldl max 0∈_;(refine aa e ?_);exact .head _
 exact .tail _ e
theorem vf{ns:List Int}:∀x∈0::ns,x<=mx ns:=λx hx=>by
 obtain rfl|hx:=aW.mp hx
 ·exact(foldl_max ns 0).2.1
 exact(foldl_max ns 0).2.2 x hx
theorem Ae{es:List (Int×Int)}{p:Int}:(p-1∈ay es->aP es (p-1)+0∈gh es p)/\(p-32∈ay es->aP es (p-32)+1∈gh es p) :=⟨λh=>bh.mpr (ar (p-1,0) (bN.mpr ⟨.head _,eW.mp h⟩) rfl),λh=>bh.mpr (ar (p-32,1) (bN.mpr ⟨.tail _ (.head _),eW.mp h⟩) rfl)⟩
structure xO(ps:List Int)(es:List (Int×Int)):Prop where
 ks:ay es=ps
 hl:∀p∈ay es,p-1∈ay es->aP es (p-1)<=aP es p
 hu:∀p∈ay es,p-32∈ay es->aP es (p-32)<aP es p
theorem F5{t:Int}:∀{ps:List Int},ps.Pairwise (·<·)->xO ps (h? t ps).2:=by
 intro ps o;have n:∀i,xO (ps.take i) (h? t (ps.take i)).2:=by
  intro i;induction i with
  |zero=>exact⟨rfl,(λp h=>GM h aX),λp h=>GM h aX⟩
  |succ i m =>
   refine cE (x:=ps[i]?) (λe=>?_) (λp e=>?_)
   ·(refine aa iC ?_;refine aa e ?_);simpa using m
   ·
    refine oE (dG.mp e) λr hp=>?_
    have g:∀q∈ps.take i,q<p:=λq f=>by have:=o;rw[<-p9 i ps,dx] at this;exact this.2.2 q f p (by(refine aa (w! r) ?_;refine aa hp ?_);exact .head _)
    refine aa (i! e) ?_;refine aa yb ?_
    generalize h? t (ps.take i)=s at m
    obtain⟨d,es⟩:=s;generalize ps.take i=pre at m g;obtain⟨k1,k2,u⟩:=m;dsimp only at k1 k2 u;have c:p∉ay es:=λw=>nu _ (g p (k1▸w));have a:0<=d.fmod 3:=wU _ (by decide);have y:(k8 (d,es) p).2=es++[(p,mx (gh es p)+d.fmod 3)]:=sm c;refine aa y ?_
    have l:ay (es++[(p,mx (gh es p)+d.fmod 3)])=pre++[p]:=by rw[ay,bf];exact congrArg (·++[p]) k1
    have val:∀q,aP (es++[(p,mx (gh es p)+d.fmod 3)]) q=if q=p then mx (gh es p)+d.fmod 3 else aP es q:=λq=>by
     unfold aP;refine aa z_ ?_
     by_cases w:q=p
     ·refine aa (FB w) ?_;refine aa (FB w) ?_;refine aa w ?_
      cases z:es.lookup p with
      |none=>rfl
      |some v=>exact GM (eW.mpr (by(refine aa z ?_);rfl)) c
     refine aa (Da w) ?_;refine aa (Da w) ?_;exact aa EH rfl
    have mem:∀q,q∈ay (es++[(p,mx (gh es p)+d.fmod 3)])↔q∈ay es\/q=p:=λq=>by rw[l,aT,aK,k1]
    have k:∀q∈ay es,q<p:=λq f=>g q (k1▸f);refine⟨l,λq f b=>?_,λq f b=>?_⟩
    ·rw[val,val];obtain h|h:=(mem q).mp f
     ·have j:=k q h;refine aa (Da (BF j)) ?_;refine aa (Da (BG j)) ?_
      exact k2 q h (((mem _).mp b).resolve_right (BF j))
     subst h;refine aa (Da BH) ?_;refine aa (FB rfl) ?_
     have:=vf _ (.tail 0 ((Ae (es:=es) (p:=q)).1 (((mem _).mp b).resolve_right BH)));exact Sy a this
    rw[val,val];obtain h|h:=(mem q).mp f
    ·have j:=k q h;refine aa (Da (BJ j)) ?_;refine aa (Da (BG j)) ?_
     exact u q h (((mem _).mp b).resolve_right (BJ j))
    subst h;refine aa (Da BK) ?_;refine aa (FB rfl) ?_
    have:=vf _ (.tail 0 ((Ae (es:=es) (p:=q)).2 (((mem _).mp b).resolve_right BK)));exact Sz a this
 have:=n ps.length;rwa [fv] at this
noncomputable def cW(ls ms:List Int)(r:Nat):List Int:=(du (ls.getD r 0) (ms.getD r 0-ls.getD r 0).toNat).map λc=>32*(r:Int)+c
noncomputable def f8(ls ms:List Int)(k:Nat):List Int:=((hV k).map (cW ls ms)).flatten
theorem r7{ls ms:List Int}{k:Nat}:f8 ls ms (k+1)=f8 ls ms k++cW ls ms k:=by
 delta f8;refine aa En ?_;refine aa bf ?_;refine aa p4 ?_
 simp
theorem iU{ls ms:List Int}{r:Nat}{p:Int}:p∈cW ls ms r↔∃c,ls.getD r 0<=c/\c<ms.getD r 0/\p=32*(r:Int)+c:=by
 delta cW;rw[bh];constructor
 ·intro b;refine ak b λc g f=>?_
  obtain rfl:=f;have:=u_ g;exact aR c (SA this) (SD this) rfl
 intro a;refine aB a λc d h e=>?_
 obtain rfl:=e;refine ar c ?_ rfl
 exact bh.mpr (ar ((c-ls.getD r 0).toNat) (jW.mpr (SE d h)) (SF d))
theorem Vz{ls ms:List Int}{r:Nat}:(cW ls ms r).Pairwise (·<·):=by
 unfold cW du;refine aa dW ?_
 exact xo.mpr (List.pairwise_lt_range.imp λh=>by simp only[no];exact SG h)
theorem CD{ls ms:List Int}(h:∀r:Nat,0<=ls.getD r 0/\ms.getD r 0<=32):∀k,(f8 ls ms k).Pairwise (·<·)/\∀p∈f8 ls ms k,p<32*(k:Int):=by
 intro l0;induction l0 with
 |zero =>exact⟨.nil,λp hp=>GM hp aX⟩
 |succ k g =>
  refine oA (g) λm b=>(oA (h k) λl j=>?_);refine aa r7 ?_
  refine xA (dx.mpr (aC m Vz (λp hp q i=>?_))) (λp hp=>?_)
  ·refine aB (iU.mp i) λc e d f=>?_
   obtain rfl:=f;have:=b p hp;exact SH l e this
  obtain hp|hp:=aT.mp hp
  ·have:=b p hp;exact SJ this
  refine aB (iU.mp hp) λc e d a=>?_
  obtain rfl:=a;exact SM j d
theorem tE{xs:List Int}{i:Nat}(h:i<xs.length):(xs.map DV.int)[((i:Nat):Int).toNat]?=wf (.int (xs.getD i 0)):=by rw[l7,bp,jV,cz h];rfl
theorem FC{t:Int}(ps:List Int):(h? t ps).2.length<=ps.length:=by
 have a:∀(ps:List Int) (s:Int×List (Int×Int)),(ps.foldl k8 s).2.length<=s.2.length+ps.length:=by
  intro ps;induction ps with
  |nil=>intro s;exact bD _
  |cons p r b =>
   intro s;have d:=b (k8 s p);have c:(k8 s p).2.length<=s.2.length+1:=CY;refine aa hO ?_;refine aa eQ ?_
   exact vO d c
 have:=a ps (t,[]);rw[l?,me] at this;exact this
section
variable{G:Gx}{t:Int}{ls ms:List Int}
noncomputable abbrev pc(ls ms:List Int)(s:Int×List (Int×Int)):Nm:=[("told",.fz (.int s.1)),("lines",.fz (LI ms)),("lengths",.fz (LI ls)),("numbers",.own (.dict iF s.2))]
theorem Lu(g:Gl G){bR it nk lr:Expr}{body a:List Stmt}{pos b:Pos}(m:fk (bodyOf dm) 10=.For bR it body [] pos)(h:fk body 0=.For nk lr a [] b){s:Int×List (Int×Int)}{r c:Int}(hz:s.2.length<=1000) :
  au (VL G) a (("c",.fz (.int c))::("r",.fz (.int r))::pc ls ms s) .next (("r",.fz (.int r))::pc ls ms (k8 s (32*r+c))):=by
 cases m;cases h;obtain⟨t,es⟩:=s;refine au.cons (Ex.qx (a9.qz (g.divmod rfl) (aZ.two (Ev.var rfl) Ev.int) (bg.divmod (by decide) (by decide)) (by exact iu rfl rfl)) rfl rfl rfl) (au.cons (Ex.assign (xv:=.fz (.int (32*r+c))) (bb.sc (bK.of (Ev.op (Ev.op Ev.int (Ev.var rfl) (bB.mul (sM (by decide +kernel)))) (Ev.var rfl) bB.add) rfl)) rfl) ?_);have e:(([(32*r+c-1,(0:Int)),(32*r+c-32,1)]:List (Int×Int)).filter λq=>(es.lookup q.1).isSome).map (λq=>DV.int (aP es q.1+q.2))=(gh es (32*r+c)).map DV.int:=by(refine aa dW ?_);rfl
 refine au.cons (Ex.drop (Ex.tN (xs:=[(32*r+c-1,(0:Int)),(32*r+c-32,1)]) (f:=pD) (bs:=λq=>[("near",.int q.1),("step",.int q.2)]) (p:=λq=>(es.lookup q.1).isSome) (g:=λq=>.int (aP es q.1+q.2)) ⟨rfl,by decide,rfl⟩ rfl (bj.tuple (Ev.tup (aZ.two (Ev.tup (aZ.two (Ev.op (Ev.var rfl) Ev.int bB.sub) Ev.int) (bl rfl)) (Ev.tup (aZ.two (Ev.op (Ev.var rfl) Ev.int bB.sub) Ev.int) (bl rfl))) (bl rfl))) (λq i=>⟨.pair ..,by exact iu rfl rfl⟩) (λq j=>?_) (λq j hp=>?_) (λi i=>rfl) (bl rfl))
  (l₂:=[("least",.fz (LI (gh es (32*r+c)))),("place",.fz (.int (32*r+c))),("rest",.fz (.int (t.fmod 3))),("told",.fz (.int (t.fdiv 3))),("r",.fz (.int r)),("lines",.fz (LI ms)),("lengths",.fz (LI ls)),("numbers",.own (.dict iF es))]) (a?.of (wF ?_ rfl rfl rfl rfl rfl rfl rfl trivial))) ?_
 ·exact bT.cmp (Ev.var rfl) (Ev.var rfl) a8.inD
 ·exact Ev.op (Ev.kq (Ev.var rfl) (Ev.var rfl) (mU (eW.mpr hp))) (Ev.var rfl) bB.add
 ·show wf _=wf _;exact aa e rfl
 have l:(gh es (32*r+c)).length<=2:=by unfold gh;rw[aw];exact iz _ _
 refine au.drop (au.last (Ex.kD (v:=mx (gh es (32*r+c))+t.fmod 3) (k:=32*r+c) (es:=es) (es':=es) (a9.sc (bK.of (Ev.op (Ev.call (g.max rfl) (aZ.one (d:=LI (0::gh es (32*r+c))) ?_) (bg.max Lc vf)) (Ev.var rfl) bB.add) rfl)) rfl (a9.sc (bK.of (Ev.var rfl) rfl)) rfl rfl (bF hz (by decide)))) (a?.of (dS rfl rfl rfl rfl rfl trivial));exact aE.ev (aE.iL (ds₁:=[.int 0]) (aE.ev (aE.dY (aZ.one Ev.int) (bl rfl))) (Ev.var rfl) (by rw[aw];exact SN l))
theorem r6(h:∀r:Nat,0<=ls.getD r 0/\ms.getD r 0<=32)(r:Nat):(cW ls ms r).length=(ms.getD r 0-ls.getD r 0).toNat/\(cW ls ms r).length<=32:=by
 have e:(cW ls ms r).length=(ms.getD r 0-ls.getD r 0).toNat:=by unfold cW;rw[aw,r5]
 have:=h r;exact⟨e,by exact SO e this⟩
theorem CC(h:∀r:Nat,0<=ls.getD r 0/\ms.getD r 0<=32):∀k,(f8 ls ms k).length<=32*k:=by
 intro l0;induction l0 with
 |zero =>exact bD _
 |succ k a =>
  have c:=a;have b:=(r6 h k).2;refine aa r7 ?_;refine aa cA ?_
  exact SP c b
theorem Vy{r i:Nat}{d:DV}(a:((du (ls.getD r 0) (ms.getD r 0-ls.getD r 0).toNat).map DV.int)[i]?=wf d):∃c,d=.int c/\(cW ls ms r)[i]?=wf (32*(r:Int)+c):=by
 rw[bp] at a;refine ak (bu.mp a) λc e b=>?_
 obtain rfl:=b;refine ar c rfl ?_
 (refine aa bp ?_;refine aa e ?_);rfl
theorem Kj(g:Gl G)(h:∀r:Nat,0<=ls.getD r 0/\ms.getD r 0<=32)(l:ls.length=4)(k:ms.length=4)(e:∀r:Nat,ls.getD r 0<=32/\0<=ms.getD r 0){fl:Fl}{l':Nm}(rest:au (VL G) ((bodyOf dm).drop 11) (pc ls ms (h? t (f8 ls ms 4))) fl l') :
  au (VL G) ((bodyOf dm).drop 9) [("told",.fz (.int t)),("lines",.fz (LI ms)),("lengths",.fz (LI ls))] fl l':=by
 refine au.cons (Ex.assign bb.newD rfl) (au.cons (Ex.for (ds:=(du 0 4).map DV.int) (λr=>pc ls ms (h? t (f8 ls ms r))) (bj.nb (m:=4) (Ev.call (g.range rfl) (aZ.one Ev.int) bg.range) (by decide)) (a?.of (pQ rfl rfl rfl rfl trivial)) λr d f=>?_) rest);refine vr (r4 f) λa=>?_
 have q:(0:Int)+((r:Nat):Int)=(r:Int):=pX _;refine aa q ?_
 refine oA (h r) λw v=>(oA (e r) λu s=>?_);refine dc _ _ (.name ..) (im rfl) (au.last (Ex.for (ds:=(du (ls.getD r 0) (ms.getD r 0-ls.getD r 0).toNat).map DV.int) (λc=>("r",.fz (.int r))::pc ls ms (h? t (f8 ls ms r++(cW ls ms r).take c))) (bj.eg (Ev.call (g.range rfl) (aZ.two (Ev.idx (Ev.var rfl) (Ev.var rfl) (kL r) (tE (BL l a)) (BM a)) (Ev.idx (Ev.var rfl) (Ev.var rfl) (kL r) (tE (BL k a)) (BM a))) bg.Vm) (BN w) (BO u) (BN s) (BO v)) (a?.of (dS rfl ?_ rfl rfl ?_ trivial)) λc d f=>?_)) (a?.of (pQ ?_ rfl rfl ?_ trivial))
 ·show wf _=wf _;rw[Es,dw]
 ·show wf _=wf _;rw[Es,dw]
 ·refine ak (Vy f) λx b j=>?_
  obtain rfl:=b;rw[i! j,<-eF,yb];refine dc _ _ (.name ..) (im rfl) (Lu g rfl rfl ?_) (a?.refl _);have i:=FC (t:=t) (f8 ls ms r++(cW ls ms r).take c);have p:=CC h r;have o:=(r6 h r).2;rw[cA] at i;have y:=List.length_take_le c (cW ls ms r);have n:((cW ls ms r).take c).length<=(cW ls ms r).length:=aa je (EB _ _);exact SQ a i p o n
 ·show wf _=wf _;rw[r7,aw,r5,<-(r6 h r).1,fv]
 show wf _=wf _;rw[r7,aw,r5,<-(r6 h r).1,fv]
end
theorem J7(P:aO):dr (KP P) (.ref 191)=true:=by kernel_rfl
theorem Hy(P:aO):nsIn (KP P) b7 "_law_table"=wf (wf (.ref 191)):=by kernel_rfl
theorem Gl.table{V:Vx}(g:Gl V.G)(h:V.T.lookup ("_law_table":Str)=wf .globalImplicit):Glob V "_law_table" (.ref 191):=⟨h,.inr (aa g.K (Hy _)),by show dr V.G.K (.ref 191)=true;(refine aa g.K ?_);exact J7 _⟩
theorem J3(P:aO):dr (KP P) (.ref 179)=true:=by kernel_rfl
theorem Hu(P:aO):nsIn (KP P) b7 "_law_reading"=wf (wf (.ref 179)):=by kernel_rfl
theorem Gl.read{V:Vx}(g:Gl V.G)(h:V.T.lookup ("_law_reading":Str)=wf .globalImplicit):Glob V "_law_reading" (.ref 179):=⟨h,.inr (aa g.K (Hu _)),by show dr V.G.K (.ref 179)=true;(refine aa g.K ?_);exact J3 _⟩
theorem J4(P:aO):dr (KP P) (.ref 169)=true:=by kernel_rfl
theorem Hv(P:aO):nsIn (KP P) b7 "_law_runs"=wf (wf (.ref 169)):=by kernel_rfl
theorem Gl.runs{V:Vx}(g:Gl V.G)(h:V.T.lookup ("_law_runs":Str)=wf .globalImplicit):Glob V "_law_runs" (.ref 169):=⟨h,.inr (aa g.K (Hv _)),by show dr V.G.K (.ref 169)=true;(refine aa g.K ?_);exact J4 _⟩
theorem J5(P:aO):dr (KP P) (.ref 174)=true:=by kernel_rfl
theorem Hw(P:aO):nsIn (KP P) b7 "_law_slide"=wf (wf (.ref 174)):=by kernel_rfl
theorem Gl.V?{V:Vx}(g:Gl V.G)(h:V.T.lookup ("_law_slide":Str)=wf .globalImplicit):Glob V "_law_slide" (.ref 174):=⟨h,.inr (aa g.K (Hw _)),by show dr V.G.K (.ref 174)=true;(refine aa g.K ?_);exact J5 _⟩
theorem Lf(P:aO):nsIn (KP P) b7 "dict"=wf iF:=by kernel_rfl
theorem Gl.dict{V:Vx}(g:Gl V.G)(h:V.T.lookup ("dict":Str)=wf .globalImplicit):Glob V "dict" (.type "dict"):=g.b h Lf FD (by decide) trivial
section
variable{G:Gx}{t:Int}{l:aq.L3}{m0 m1 m2 m3:Int}{es:List (Int×Int)}
noncomputable abbrev picks(t:Int):List Int:=[0,-1,t]
noncomputable abbrev pO(es:List (Int×Int))(rp:Int->List Int)(pk:Int):DV:=.dict (tabOf ((rp pk).map (aP es)))
noncomputable abbrev ni(t:Int)(es:List (Int×Int))(rp:Int->List Int):Nm:=[("told",.fz (.int t)),("numbers",.fz (.dict es)),("tables",.fz (.list ((picks t).map (pO es rp))))]
structure mD(G:Gx)(es:List (Int×Int))(rp:Int->List Int):Prop where
 rd:∀pk,aq.Rd aq.gg (ay es) (rp pk)/\∀q∈ay es,q∈rp pk
 yx:∀pk,bg G 20 (.ref 179) [.dict es,.int pk] (LI ((rp pk).map (aP es)))
theorem Co(g:Gl G)(b:(ay es).Nodup)(hz:es.length<=32)(c:∀q∈ay es,0<=q):∃rp,mD G es rp:=by
 refine oE (Classical.axiomOfChoice λtold=>GR (n:=15) g told b (SV hz) c) λrp h=>?_
 exact xE rp ⟨λa=>(h a).1,λa=>(h a).2⟩
theorem mD.len{rp:Int->List Int}(x:mD G es rp)(hz:es.length<=32)(a:Int):((rp a).map (aP es)).length<=32:=by rw[aw];have:=gr (x.rd a).1.nd (x.rd a).1.sub;rw[ay,aw] at this;exact SX hz this
theorem Km(g:Gl G){rp:Int->List Int}(x:mD G es rp)(hz:es.length<=32){ls ms:List Int}{fl:Fl}{l':Nm}(rest:au (VL G) ((bodyOf dm).drop 12) (("lengths",.fz (LI ls))::ni t es rp) fl l') :
  au (VL G) ((bodyOf dm).drop 11) [("told",.fz (.int t)),("lines",.fz (LI ms)),("lengths",.fz (LI ls)),("numbers",.own (.dict iF es))] fl l':=by
 refine au.qT (x:="numbers") rfl (au.cons (Ex.Fq (xs:=picks t) (f:=DV.int) (bs:=λb=>[("pick",.int b)]) (p:=λa=>true) (g:=pO es rp) ⟨rfl,by decide,rfl⟩ rfl (bj.tuple (Ev.tup (.cons Ev.int (aZ.two (Ev.neg Ev.int) (Ev.var rfl))) (bl rfl))) (λa a=>⟨.name ..,own_one rfl⟩) (λa a=>rfl) (λb a a=>?_) (bl rfl)) (au.weak rest (a?.of (pQ rfl rfl rfl ?_ trivial))))
 ·exact Ev.call (Gl.table g rfl) (aZ.one (Ev.call (Gl.read g rfl) (aZ.two (Ev.var rfl) (Ev.var rfl)) (x.yx b))) (yy (n:=17) g (x.len hz b))
 show wf _=wf _;rw[all_true]
end
section
variable{G:Gx}{t:Int}{l:aq.L3}{m0 m1 m2 m3:Int}{es:List (Int×Int)}
theorem rA{f:Nat->Int}{n i:Nat}:(cy f n i).length=i:=by unfold cy;rw[aw,p6]
theorem Kk(g:Gl G)(N:iI l m0 m1 m2 m3 es){rp:Int->List Int}(x:mD G es rp){run:List Int}(R:aq.iJ l run){bR it:Expr}{body:List Stmt}{pos:Pos}(U:fk (bodyOf dm) 14=.For bR it body [] pos) :
  ∃l',au (VL G) body (("run",.fz (LI run))::ni t es rp) .next l'/\a? (ni t es rp) l':=by
 refine LW (VH (n:=19) g (by decide) N R) λD q O M E L W J I=>?_
 have B:=N.len;refine oA (CF N.ln R) λm c=>?_
 have w:∀j p,run[j]?=wf p->run.getD j 0=p:=λj p h=>by(refine aa jV ?_;refine aa h ?_);rfl
 have H:∀i j,i<run.length->j<run.length->run.getD i 0=run.getD j 0->i=j:=λi j hi S e=>by replace e:=(w i _ (cz hi))▸e;replace e:=(w j _ (cz S))▸e;exact(xg R.nd).mp e
 have P:=vd (f:=q) (n:=run.length) E run.length (bD _);obtain⟨C,y⟩:=Co (es:=cy q run.length run.length) g P (by(refine aa rA ?_);exact rT c) λp hp=>by
  replace hp:=o_▸hp;refine ak (bh.mp hp) λj m u=>?_
  obtain rfl:=u;exact(L j).1
 have o:(run.map DV.int).length=run.length:=aw ..;cases U;refine ar _ (au.cons (Ex.assign (bb.GA (g.dict rfl) (Ev.var rfl) (SY B)) rfl) (au.cons (Ex.assign bb.newD rfl) (au.cons (Ex.assign bb.newD rfl) ?_))) (a?.refl _);refine au.cons (Ex.for (ds:=kg 0 (run.map DV.int)) (λi=>("run",.fz (LI run))::("left",.own (.dict iF (D i)))::("given",.own (.dict iF (cy (λj=>run.getD j 0) run.length i)))::("marks",.own (.dict iF (cy q run.length i)))::ni t es rp) (bj.enum (g.enum rfl) (Ev.var rfl)) (a?.of (wE rfl ?_ rfl rfl rfl rfl rfl trivial)) λi d T=>?_) ?_
 ·show wf _=wf _;exact aa O rfl
 ·refine ak (qM T) λe F s=>?_
  obtain rfl:=s;rw[bp] at F;refine ak (bu.mp F) λp hp r=>?_
  obtain rfl:=r;obtain⟨hi,_⟩:=dG.mp hp;have A:=Al (f:=λj=>run.getD j 0) H hi;have Q:=Al (f:=q) E hi;replace A:=(w i p hp)▸A;have l1:(cy (λj=>run.getD j 0) run.length i).length<=2^24:=by(refine aa rA ?_);exact BP c hi
  have l2:(cy q run.length i).length<=2^24:=aa rA (BP c hi);rw[me];refine dc _ _ (.pair ..) (by exact iu rfl rfl) (au.cons (Ex.kD (v:=(run.length:Int)-(i:Int)) (k:=p) (es:=cy (λj=>run.getD j 0) run.length i) (es':=cy (λj=>run.getD j 0) run.length i) (a9.sc (bK.of (Ev.op (Ev.call (g.len rfl) (aZ.one (Ev.var rfl)) (bg.len o (BQ c))) (Ev.var rfl) bB.sub) rfl)) rfl (a9.sc (bK.of (Ev.var rfl) rfl)) rfl rfl l1) (au.last (Ex.kD (v:=(run.length:Int)-(i:Int)) (k:=q i) (es:=cy q run.length i) (es':=cy q run.length i) (a9.sc (bK.of (Ev.op (Ev.call (g.len rfl) (aZ.one (Ev.var rfl)) (bg.len o (BQ c))) (Ev.var rfl) bB.sub) rfl)) rfl (a9.Gc (x:="left") (g.V? rfl) rfl (bK.of (Ev.var rfl) rfl) (M i p hp)) cJ rfl l2))) (a?.of (wE rfl rfl ?_ ?_ rfl rfl rfl trivial))
  ·show wf _=wf _;exact aa A rfl
  show wf _=wf _;exact aa Q rfl
 rw[qN,o];refine au.qT (x:="left") rfl (au.qT (x:="given") rfl (au.qT (x:="marks") rfl ?_));have V:(picks t).filter (λa=>!i5 (tabOf ((rp a).map (aP es))) (D run.length))=[]:=sR.mpr λa m=>aa (J _ (x.rd a).1 (x.rd a).2) dE;have f2:(picks t).filter (λa=>!i5 (tabOf ((C a).map (aP (cy q run.length run.length)))) (cy (λj=>run.getD j 0) run.length run.length))=[]:=sR.mpr λa m=>by(refine aa (I _ (y.rd a).1 (y.rd a).2) ?_);exact dE
 refine au.cons (Ex.ite (b:=false) (bU.cast (bU.of (bT.cmp (d₁:=.list (((picks t).filter λa=>!i5 (tabOf ((rp a).map (aP es))) (D run.length)).map (pO es rp))) (d₂:=LI []) (aE.ev ?_) (aE.ev (aE.dY .nil (by decide))) (a8.rC (bl rfl)))) (aa V rfl)) (λz=>nomatch z) λm=>au.nil) ?_
 ·refine aE.k! (f:=pO es rp) (bs:=λa=>[("table",pO es rp a)]) ⟨rfl,by decide,rfl⟩ (bj.list (Ev.var rfl)) (λm m=>⟨.name ..,own_one rfl⟩) (λa m=>?_) (λm m m=>Ev.var rfl) (bl rfl);exact bT.cmp (Ev.var rfl) (Ev.var rfl) (a8.Aw (bl rfl))
 refine au.drop (au.last (Ex.ite (b:=false) (bU.cast (bU.of (bT.cmp (d₁:=.list (((picks t).filter λa=>!i5 (tabOf ((C a).map (aP (cy q run.length run.length)))) (cy (λj=>run.getD j 0) run.length run.length)).map DV.int)) (d₂:=LI []) (aE.ev ?_) (aE.ev (aE.dY .nil (by decide))) (a8.rC (bl rfl)))) (by(refine aa f2 ?_);rfl)) (λz=>nomatch z) λm=>au.nil)) (a?.of (cL rfl rfl rfl trivial));refine aE.k! (f:=DV.int) (bs:=λa=>[("pick",.int a)]) ⟨rfl,by decide,rfl⟩ (bj.tuple (Ev.tup (.cons Ev.int (aZ.two (Ev.neg Ev.int) (Ev.var rfl))) (bl rfl))) (λm m=>⟨.name ..,own_one rfl⟩) (λa m=>?_) (λm m m=>Ev.var rfl) (bl rfl);exact bT.cmp (Ev.call (Gl.table g rfl) (aZ.one (Ev.call (Gl.read g rfl) (aZ.two (Ev.var rfl) (Ev.var rfl)) (y.yx a))) (yy (n:=17) g (y.len (aa rA (rT c)) a))) (Ev.var rfl) (a8.Aw (bl rfl))
end
section
variable{G:Gx}{t a b c m0 m1 m2 m3:Int}{es:List (Int×Int)}
noncomputable abbrev Z4:List Int:=[0,0,0,0]
theorem z4(r:Nat):Z4.getD r 0=0:=by
 match r with
 |0=>rfl
 |1=>rfl
 |2=>rfl
 |3=>rfl
 |r+4=>rfl
theorem yW{ls:List Int}:((du 0 4).map λr=>((du 0 (ls.getD r.toNat 0-0).toNat).filter λa=>true).map λc=>DV.int (32*r+c)).flatten=(f8 Z4 ls 4).map DV.int:=by
 have h:∀r:Nat,(((du 0 (ls.getD r 0-0).toNat).filter λa=>true).map λc=>DV.int (32*(r:Int)+c))=(cW Z4 ls r).map DV.int:=λr=>by rw[all_true];delta cW;rw[z4,dW];rfl
 show(_++(_++(_++(_++[]))))=((cW Z4 ls 0++(cW Z4 ls 1++(cW Z4 ls 2++(cW Z4 ls 3++[]))))).map DV.int;(refine aa bf ?_;refine aa bf ?_;refine aa bf ?_;refine aa bf ?_;refine az (h 0) ?_;refine az (h 1) ?_;refine az (h 2) ?_;refine az (h 3) ?_);rfl
theorem HC(h:aq.Ln a b c):gz (a,b,c) (f8 Z4 [a,b,c,0] 4)/\(f8 Z4 [a,b,c,0] 4).length<=128:=by
 obtain⟨l,j,i,a3⟩:=id h;have g:∀r:Nat,0<=Z4.getD r 0/\[a,b,c,0].getD r 0<=32:=λr=>by
  rw[z4];refine xA (br _) ?_
  match r with
  |0=>show a<=32;exact vI a3
  |1=>show b<=32;exact BR i a3
  |2=>show c<=32;exact BS j i a3
  |3=>show(0:Int)<=32;decide
  |r+4=>show(0:Int)<=32;decide
 have up:=(CD g 4).1;refine xA ⟨h,up.imp λh=>jc h,?_⟩ (CC g 4);refine aq.HD h λp=>?_
 show p∈cW Z4 [a,b,c,0] 0++(cW Z4 [a,b,c,0] 1++(cW Z4 [a,b,c,0] 2++(cW Z4 [a,b,c,0] 3++[])))↔_;rw[dw,aT,aT,aT,iU,iU,iU,iU];constructor
 ·rintro(⟨k,d,h2,e⟩|⟨k,d,h2,e⟩|⟨k,d,h2,e⟩|⟨k,d,h2,e⟩)
  ·exact cj 0 k d (.inl ⟨rfl,h2⟩) e
  ·exact cj 1 k d (.inr (.inl ⟨rfl,h2⟩)) e
  ·exact cj 2 k d (.inr (.inr ⟨rfl,h2⟩)) e
  have d:(0:Int)<=k:=d;have h2:k<(0:Int):=h2;omega
 rintro⟨r,k,d,h2|h2|h2,e⟩
 ·obtain⟨rfl,f⟩:=h2;exact .inl (aR k d f e)
 ·obtain⟨rfl,f⟩:=h2;exact .inr (.inl (aR k d f e))
 obtain⟨rfl,f⟩:=h2;exact .inr (.inr (.inl (aR k d f e)))
theorem Kh(g:Gl G)(N:iI (a,b,c) m0 m1 m2 m3 es){rp:Int->List Int}(x:mD G es rp):au (VL G) ((bodyOf dm).drop 12) (("lengths",.fz (LI [a,b,c,0]))::ni t es rp) (.ret (.fz (.bool true))) []:=by
 have q:aq.Ln a b c:=N.ln;refine oA (HC q) λF A=>(aB (GS (n:=15) g F A) λruns D B v=>?_);have u:(runs.map LI).length=runs.length:=aw ..;obtain⟨w,k,l,a3⟩:=id q;refine au.cons (Ex.assign (bb.iP (Ev.call (Gl.runs g rfl) (aZ.one (?_:Ev _ _ _ (LI (f8 Z4 [a,b,c,0] 4)))) v)) rfl) ?_
 ·show Ev _ _ _ (.list _);refine az yW ?_
  refine aE.ev (aE.Gu (xs:=du 0 4) (f:=DV.int) (bs:=λr=>[("r",.int r)]) (ys:=λr=>du 0 ([a,b,c,0].getD r.toNat 0-0).toNat) (f2:=λe c=>DV.int c) (bs2:=λe c=>[("c",.int c)]) (p:=λe e=>true) (g:=λr c=>DV.int (32*r+c)) ⟨rfl,by decide,rfl⟩ (bj.nb (m:=4) (Ev.call (g.range rfl) (aZ.one Ev.int) bg.range) (by decide)) (λe e=>⟨.name ..,own_one rfl⟩) (λr v=>?_) (λe e e e=>⟨.name ..,by exact kz ⟨rfl,rfl⟩⟩) (λe e e e=>rfl) (λr e c e e=>Ev.op (Ev.op Ev.int (Ev.var rfl) (bB.mul (sM (by decide +kernel)))) (Ev.var rfl) bB.add) ?_)
  ·have j:=u_ v;have y:-(2:Int)^62<=[a,b,c,0].getD r.toNat 0/\[a,b,c,0].getD r.toNat 0<2^62:=by
    have:r=0\/r=1\/r=2\/r=3:=by exact S9 j
    obtain rfl|rfl|rfl|rfl:=this
    ·exact S! w k l a3
    ·exact S? w k l a3
    ·exact Ta w k l a3
    show -(2:Int)^62<=0/\(0:Int)<2^62;decide
   have s:=tE (xs:=[a,b,c,0]) (i:=r.toNat) (Tb j);replace s:=(show((r.toNat:Nat):Int)=r by exact Tc j)▸s;exact bj.eg (Ev.call (g.range rfl) (aZ.one (Ev.idx (Ev.var rfl) (Ev.var rfl) (Td j) s (Te j))) bg.range) (by decide) (by decide) y.1 y.2
  rw[yW,aw];exact Bz A
 refine au.cons (Ex.ite (b:=false) (bU.cast (bU.of (bT.cmp (Ev.call (g.len rfl) (aZ.one (Ev.var rfl)) (bg.len u (Tf B))) (Ev.call (Gl.e7 g rfl) (aZ.one (Ev.var rfl)) (GU g 19 a b c q (Tg k l a3))) a8.pd)) (by rw[show(runs.length:Int)=(aq.fm (a,b,c):Int) from D.count,bne_self_eq_false])) (λz=>(by injection z)) λe=>au.nil) (au.cons (Ex.for (ds:=runs.map LI) (λe=>ni t es rp) (bj.list (Ev.var rfl)) (a?.of (cL rfl rfl rfl trivial)) λi d hd=>?_) (au.ret (Ex.ret (bb.sc (bK.of Ev.Gh rfl)))));replace hd:=bp▸hd;refine ak (bu.mp hd) λrun h o=>?_
 obtain rfl:=o;refine ak (Kk (t:=t) g N x (D.rs run (en h)) rfl) λl' E C=>?_
 exact dc _ l' (.name ..) (im rfl) E C
end
theorem mO{P:Int->Prop}{a b c d:Int}(i:P 0)(h:P a)(g:P b)(f:P c)(e:P d)(r:Nat):P ([a,b,c,d].getD r 0):=by
 match r with
 |0=>exact h
 |1=>exact g
 |2=>exact f
 |3=>exact e
 |r+4=>exact i
section
variable{A B C m0 m1 m2 m3 t:Int}
theorem LM(g:aq.Ln A B C)(li:aq.jq m0 m1 m2 m3)(k1:A<=m0)(k2:B<=m1)(l:C<=m2):iI (A,B,C) m0 m1 m2 m3 (h? t (f8 [A,B,C,0] [m0,m1,m2,m3] 4)).2:=by
 obtain⟨f,j,q,a3⟩:=id g;obtain⟨d0,n,i,d,c⟩:=id li;have o:∀r:Nat,0<=[A,B,C,0].getD r 0/\[m0,m1,m2,m3].getD r 0<=32:=λr =>⟨mO (P:=λx=>0<=x) (by decide) (vJ f j q) (vK f j) (BU f) (by decide) r,mO (P:=λx=>x<=32) (by decide) (AU c) (AW d c) (AX i d c) (AY n i d c) r⟩
 have up:=(CD o 4).1;obtain⟨a,b,m⟩:=F5 (t:=t) up;refine⟨g,li,k1,k2,l,aa a (up.imp λh=>jc h),λp=>?_,b,m⟩;refine aa a ?_
 show p∈cW _ _ 0++(cW _ _ 1++(cW _ _ 2++(cW _ _ 3++[])))↔_;rw[dw,aT,aT,aT,iU,iU,iU,iU];constructor
 ·rintro(⟨k,a,b,e⟩|⟨k,a,b,e⟩|⟨k,a,b,e⟩|⟨k,a,b,e⟩)
  ·have a:A<=k:=a;have b:k<m0:=b;exact .inl ⟨by exact Th e a,by exact Ti e b⟩
  ·have a:B<=k:=a;have b:k<m1:=b;exact .inr (.inl ⟨by exact Tk e a,by exact Tl e b⟩)
  ·have a:C<=k:=a;have b:k<m2:=b;exact .inr (.inr (.inl ⟨by exact Tn e a,by exact To e b⟩))
  have a:0<=k:=a;have b:k<m3:=b;exact .inr (.inr (.inr ⟨by exact Tp e a,by exact Tq e b⟩))
 rintro(⟨a,b⟩|⟨a,b⟩|⟨a,b⟩|⟨a,b⟩)
 ·exact .inl (aR p a b Tr)
 ·have a:=a;exact .inr (.inl (aR (p-32) (Ts a) (Tt b) Tu))
 ·have a:=a;exact .inr (.inr (.inl (aR (p-64) (Tv a) (Tw b) Tx)))
 exact .inr (.inr (.inr (aR (p-96) (Tz a) (TA b) TB)))
end
theorem Ke{G:Gx}(g:Gl G)(sc:List Int):au (VL G) (bodyOf dm) [("script",.fz (LI sc))] (.ret (.fz (.bool true))) []:=by
 refine Ko g (Kg g ?_);generalize sv sc=t;have k:=qG (b:=5) (t:=t) 4;have j:=yu (b:=5) (t:=t) (by decide) 4;have e:=qG (b:=4) (t:=(cx 5 t 4).2) 3;have i:=yu (b:=4) (t:=(cx 5 t 4).2) (by decide) 3;generalize(cx 4 (cx 5 t 4).2 3).2=t';generalize(cx 4 (cx 5 t 4).2 3).1=ks at e i;generalize(cx 5 t 4).1=ds at k j;have F:(ds.map λx=>x+1).length=4:=by rw[aw,k]
 refine lC (Ku ((ng (ds.map λx=>x+1)).length_eq.trans F)) λm0 m1 m2 m3 s=>(L0 (Kt ((ng ks).length_eq.trans e)) λa b c p=>?_);have D:∀x∈[m0,m1,m2,m3],1<=x/\x<=5:=λx hx=>by
  replace hx:=(bn s)▸hx;refine ak (bh.mp ((ng _).mem_iff.mp hx)) λy I m=>?_
  obtain rfl:=m;have:=j y I;exact TC this
 have z:∀x∈[a,b,c],0<=x/\x<=3:=λx hx=>by replace hx:=(bn p)▸hx;have:=i x ((ng _).mem_iff.mp hx);exact TD this
 have o:=sg (ds.map λx=>x+1);have n:=sg ks;replace o:=s▸o;replace n:=p▸n;simp only[dH,aW,aX,or_false,forall_eq_or_imp,forall_eq] at o n;have d:=D m0 (.head _);have f:=D m3 (.tail _ (.tail _ (.tail _ (.head _))));have L:=z a (.head _);have c':=z c (.tail _ (.tail _ (.head _)));refine ky (aq.KJ (a:=a) (b:=b) (c:=c) (m0:=m0) (m1:=m1) (m2:=m2) (m3:=m3) c'.1 (by omega) (by omega) L.2 f.1 (by omega) (by omega) (by omega) d.2) λh li k1 k2 E H=>(Kl g (TE F) (TF e) s p ?_);refine aa H ?_
 generalize gT a m0=A at h k1 ⊢;generalize gT b m1=B at h k2 ⊢;generalize gT c m2=C at h E ⊢;obtain⟨v,u,w,a3⟩:=id h;obtain⟨d0,R,Q,O,M⟩:=id li;have N:=LM (t:=t') h li k1 k2 E;have l:=N.len;refine oE (Co g N.nd (rT l) λq J=>(N.ok q J).1) λrp x=>(Kj g (λr=>⟨mO (P:=λx=>0<=x) (by decide) (vJ v u w) (vK v u) (BU v) (by decide) r,mO (P:=λx=>x<=32) (by decide) (TJ d) (by omega) (by omega) (by omega) r⟩) rfl rfl (λr=>⟨mO (P:=λx=>x<=32) (by decide) (vI a3) (BR w a3) (BS u w a3) (by decide) r,mO (P:=λx=>0<=x) (by decide) (BW d) (by omega) (by omega) (BW f) r⟩) ?_);exact Km g x (rT l) (Kh g N x)
theorem z6:(aH dm).names.all (λp=>gL p.1&&p.2 != .free)=true:=by decide
theorem KC{x y:Str}{v:XV}{l:Nm}:aM ((y,v)::l) x=if x=y then wf v else aM l x:=by
 delta aM;refine aa cP ?_
 by_cases q:x=y
 ·subst q;rw[beq_self_eq_true,FB rfl]
 refine aa (beq_eq_false_iff_ne.mpr q) ?_;exact aa (Da q) rfl
theorem Kf{x:Str}{L:Nat}(h:(aH dm).names.lookup x=wf .cell):∃a:Nat,(aY (L+1) (aH dm).names []).lookup x=wf a/\L+1<=a/\a<=L+5:=by
 have b:=dO h;have:x="lengths"\/x="numbers"\/x="left"\/x="given"\/x="marks":=by
  have c:∀p∈(aH dm).names,p.2=.cell->p.1="lengths"\/p.1="numbers"\/p.1="left"\/p.1="given"\/p.1="marks":=by decide
  exact c _ b rfl
 obtain rfl|rfl|rfl|rfl|rfl:=this
 ·exact aR (L+1) rfl TK TM
 ·exact aR (L+1+1) rfl TN TP
 ·exact aR (L+1+1+1) rfl TQ TR
 ·exact aR (L+1+1+1+1) rfl TS TU
 exact aR (L+1+1+1+1+1) rfl TW TX
noncomputable abbrev wp:List (Addr×Str):=[(171,("_law_slide.<locals>.<lambda>":Str)),(176,("_law_reading.<locals>.<lambda>":Str)),(193,("law.<locals>.<lambda>":Str))]
theorem WA{P:Addr}{q:Str}(h:(P,q)∈wp):P=171\/P=176\/P=193:=by
 obtain h|h:=aW.mp h
 ·exact .inl (eG h).1
 obtain h|h:=aW.mp h
 ·exact .inr (.inl (eG h).1)
 exact .inr (.inr (eG (aK.mp h)).1)
theorem Ki{prog p:jf}{w:World}{g:List Str}{j:ExcName->Option ab}{mg mb m:Str->Option ab}{d:Heap}{L':Nat}{Y sa:Addr}{vs:List ab}{sc:List Int}{H E D B A:Obj}{s:ae}{Q:Flow->ae->Prop}(X:(KP w.params).In d)(T:Top p g j mg mb d)(F:Fr d L' s.heap m)(M:m "script"=wf (.ref sa))(N:News d L' s.heap [(L'+1+1+1+1+1,H),(L'+1+1+1+1,E),(L'+1+1+1,D),(L'+1+1,B),(L'+1,A),(176,d? #[]),(171,d? #[]),(193,d? #[])])(e1:H.data=.cell iF)(e2:E.data=.cell iF)(e3:D.data=.cell iF)(e4:B.data=.cell iF)(e5:A.data=.cell iF)(hl:d.IsList sa vs.toArray)(hI:nx vs sc)(C:CodeHd d 195 193)(l0:176<L'/\171<L'/\193<L')(h:∀s',(∃m',Fr d L' s'.heap m')->(∃ps,s'.heap.get? 176=wf (d? ps))->(∃ps,s'.heap.get? 171=wf (d? ps))->(∃ps,s'.heap.get? 193=wf (d? ps))->s'.gens=s.gens->s'.os=s.os->Q (.ret (.bool true)) s') :
  al (gW prog w) (qf.deeper (bY "law" dm L' Y (.ref 195) (aY (L'+1) (aH dm).names []))) (eo (bodyOf dm) (bY "law" dm L' Y (.ref 195) (aY (L'+1) (aH dm).names []))) Q (λb b=>False) s:=by
 let c:Cx:=⟨⟨prog,w,KP w.params,p,g,j,mg,mb,wp⟩,d,[],bY "law" dm L' Y (.ref 195) (aY (L'+1) (aH dm).names []),s⟩;have ok:c.Ok:=⟨X,T,rfl,rfl,rfl,rfl⟩;have rm:bL c (qf.deeper c.bd) 20:=⟨rfl,by show qf.depth+1+20<j6;decide +kernel,by show qf.units+3+20*20<cLine;decide +kernel,rfl⟩;let R:af:=λ(a:Nat)=>if L'+1<=a/\a<=L'+5 then wf (.cell iF) else iF;let TT:af:=λ(a:Nat)=>if a=171\/a=176\/a=193 then wf (i9 #[]) else iF;have R2:∀a:Nat,L'+1<=a->a<=L'+5->R a=wf (.cell iF):=λa r u=>FB ⟨r,u⟩;have own:∀(a:Nat) o ao,(a,o)∈[(L'+1+1+1+1+1,H),(L'+1+1+1+1,E),(L'+1+1+1,D),(L'+1+1,B),(L'+1,A),(176,d? #[]),(171,d? #[]),(193,d? #[])]->AO.Is ao o->3<a->gB c s.heap a ao:=λa o ao O hi V =>(dp o ((N (a,o) O).1) hi ((N (a,o) O).2.1) ((N (a,o) O).2.2) V)
 have atT:∀(a:Nat),a=171\/a=176\/a=193->TT a=wf (i9 #[]):=λa h=>FB h;have o0:∀(a:Nat) ao,TT a=wf ao->(a=171\/a=176\/a=193)/\ao=i9 #[]:=λa ao e=>by
  have e:(if a=171\/a=176\/a=193 then wf (i9 #[]) else iF)=wf ao:=e;by_cases q:a=171\/a=176\/a=193
  ·(replace e:=(FB q)▸e);(replace e:=ax e;subst e);exact⟨q,rfl⟩
  (replace e:=(Da q)▸e);injection e
 have inR:∀(a:Nat) ao,R a=wf ao->(L'+1<=a/\a<=L'+5)/\ao=.cell iF:=λa ao e=>by
  have e:(if L'+1<=a/\a<=L'+5 then wf (.cell iF) else iF)=wf ao:=e;by_cases q:L'+1<=a/\a<=L'+5
  ·(replace e:=(FB q)▸e);(replace e:=ax e;subst e);exact⟨q,rfl⟩
  (replace e:=(Da q)▸e);injection e
 have t:∀(a:Nat) ao,((λb=>iF:af) a=wf ao\/R a=wf ao)->ao.links=[]:=λa ao e=>by
  obtain e|e:=e
  ·injection e
  (refine aa ((inR a ao e).2) ?_);rfl
 have gO:cS c R (λb=>iF) s.heap TT:=by
  refine⟨λP q U=>⟨#[],atT P (WA U),trivial,λpos cv z=>by injection z⟩,λa ao e=>?_,λa e=>⟨rfl,?_⟩,λa ao p h hp=>?_,λa ao a' ao' p p' h h' b hp b b=>?_⟩
  ·refine vr (o0 a ao e) λq=>?_
   obtain rfl|rfl|rfl:=q
   ·exact own _ (d? #[]) _ (.tail _ (.tail _ (.tail _ (.tail _ (.tail _ (.tail _ (.head _))))))) rfl (by decide)
   ·exact own _ (d? #[]) _ (.tail _ (.tail _ (.tail _ (.tail _ (.tail _ (.head _)))))) rfl (by decide)
   exact own _ (d? #[]) _ (.tail _ (.tail _ (.tail _ (.tail _ (.tail _ (.tail _ (.tail _ (.head _)))))))) rfl (by decide)
  ·refine cE (x:=TT a) (λz=>?_) (λao z=>?_)
   ·exact GM z e
   ·
    refine oA (o0 a ao z) λq b=>?_
    cases z2:R a with
    |none=>rfl
    |some ao' =>
     have r:=(inR a ao' z2).1.1;have q:=q;have r:L'+1<=(a:Nat):=r;refine a! l0 λl1 l2 l3=>?_
     lia
  ·(replace hp:=(t a ao h)▸hp);cases hp
  (replace hp:=(t a ao h)▸hp);cases hp
 have st:St c R (λx=>if x="script" then wf (.ref sa) else iF) (λb=>iF) s:=by
  refine⟨⟨m,F,λx av e=>?_⟩,λa ao e=>((by injection e)),λ(a:Nat) ao e=>?_,λa q=>GM rfl q,rfl,TT,gO⟩
  ·by_cases q:x="script"
   ·have e:=e;(replace e:=(FB q)▸e);(replace e:=ax e;subst e);exact ar (.ref sa) (by(refine aa q ?_);exact M) rfl
   have e:(if x="script" then wf (AV.ref sa) else iF)=wf av:=e;(replace e:=(Da q)▸e);injection e
  have e:(if L'+1<=a/\a<=L'+5 then wf (.cell iF) else iF)=wf ao:=e;by_cases J:L'+1<=a/\a<=L'+5
  ·rw[FB J] at e;(replace e:=ax e;subst e);have:a=L'+1\/a=L'+1+1\/a=L'+1+1+1\/a=L'+1+1+1+1\/a=L'+1+1+1+1+1:=by exact TY J
   obtain rfl|rfl|rfl|rfl|rfl:=this
   ·exact own _ A _ (.tail _ (.tail _ (.tail _ (.tail _ (.head _))))) (ar _ e5 rfl) (TZ l0)
   ·exact own _ B _ (.tail _ (.tail _ (.tail _ (.head _)))) (ar _ e4 rfl) (T0 l0)
   ·exact own _ D _ (.tail _ (.tail _ (.head _))) (ar _ e3 rfl) (T1 l0)
   ·exact own _ E _ (.tail _ (.head _)) (ar _ e2 rfl) T2
   exact own _ H _ (.head _) (ar _ e1 rfl) T3
  (replace e:=(Da J)▸e);injection e
 have f0:bX (VL c.G) c (qf.deeper c.bd) c.bd (λb=>iF) :=
  ⟨rfl,ok,rm,(λenv he=>(GM he aX)),rfl,rfl,λx k S=>by
   have:=eE.mp z6 _ (dO S);rw[f_] at this;exact this.1,λx y a n hy=>qB (aH dm).names (L'+1) [] (λb q=>(GM q aX)) (λb q=>(GM q aX)) (x,a) (dO n) (y,a) (dO hy) rfl,λx n=>by
   have:=eE.mp z6 _ (dO n);rw[f_] at this;exact GM this.2 (nofun),λa q e=>by
    cases e;refine wG (.tail _ (.tail _ (.head _))) (λq' h=>?_) (by rfl) 195 rfl C;obtain h|h:=aW.mp h
    ·exact GM (eG h).1 (by decide)
    obtain h|h:=aW.mp h
    ·exact GM (eG h).1 (by decide)
    exact(eG (aK.mp h)).2⟩
 have mm:Fs (VL c.G) c c.bd (λb=>iF) (aM [("script",.fz (LI sc))]) iF (λx=>if x="script" then wf (.ref sa) else iF) R (λb=>iF) (λb b=>False) s:=by
  refine⟨st,λx n=>?_,λx xv e=>?_,λb b e=>((by injection e)),λb b h=>h.elim,λb b b b h=>h.elim,λb b e=>((by injection e)),λb b b b=>rfl⟩
  ·unfold isVar at n;rw[lZ,beq_iff_eq,beq_iff_eq] at n;refine⟨n,λr u=>GM rfl u,λr=>?_⟩;refine aB (Kf (L:=L') r) λa u V h4=>?_
   exact a_ a _ u (R2 a V h4)
  replace e:=KC▸e;by_cases q:x="script"
  ·rw[FB q] at e;(replace e:=ax e;subst e);subst q;refine ar (.ref sa) ?_ (.lst (.inr (ar vs hl (vB hI))) (aJ.ints sc))
   have S:c.bd.kindOf "script"=wf .local:=rfl;delta bk;refine aa S ?_
   dsimp only;refine aa (FB rfl) ?_;exact aa (FB rfl) rfl
  (replace e:=(Da q)▸e);injection e
 refine(Ke (G:=c.G) ⟨rfl,rfl⟩ sc).run (c:=c) (H0:=λb=>iF) f0 (ei _ R _ _ (Sub.refl _) mm) λv s' W=>(dQ W λjT X1 qr XY I f=>?_);have hv:=(f.ext _ _ rfl).toBool;refine aa hv ?_
 refine ak f.st.fr λm' F' b=>(oE f.st.tb λX2 i=>?_);have l:∀P q,(P,q)∈wp->∃ps,s'.heap.get? P=wf (d? ps):=λP q U=>by refine ak (i.tabs P q U) λps z1 b=>(aB (i.own P _ z1) λo ho hi b=>?_);have hi:=hi;exact xE ps (by(refine aa ho ?_;exact aa hi rfl))
 have Z:=f.st.sh;exact h s' ⟨m',F'⟩ (l _ _ (.tail _ (.head _))) (l _ _ (.head _)) (l _ _ (.tail _ (.tail _ (.head _)))) (aa Z rfl) (aa Z rfl)
end cR.Internal
open PySem PySem.W PyProof.Rows
theorem PySem.Challenge.cw_dn0038_07_holds : PySem.Challenge.rw_dn0038_07.Holds := by
 refine cR.Internal.hd07 ?_
 k_go0
 rename_i hI hr hz q_ hD h₁ tk o1 o2 o3 o4 o5 e1 e2 e3 e4 e5 X0 X T K F C1 C2 N l0
 refine bx (Q:=λfl s'=>GoodW _ _ _ _ _ (.ok (.ret (match fl with | .ret v=>v | _=>.none))) s'/\GrownAll [(178,176),(173,171),(195,193)] s'.heap) (E:=λ_ _=>False) ?_ (λfl s' hq=>hq) (λ_ _ z=>z.elim)
 refine cR.Internal.Ki (by exact X) T F rfl N e1 e2 e3 e4 e5 lifted hI codeHd l0 ?_
 intro s' hF H6 H7 H8 IE IV
 obtain ⟨m',F'⟩:=hF
 exact ⟨goodW_bool F' (IE.trans ‹_›) (λ_=>rfl) (by with_unfolding_all rfl) IV,H6,H7,H8,trivial⟩
