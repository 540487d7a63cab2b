import PyProof.Rows.All
import Wide.All
import OpenK.AllK
import Wide.FinOn
import KE.KBytesWalk
import KE.KDictIter
import PyProof.Rows.RuleB_small
import PyProof.Rows.RuleB_or
import PyProof.InstStore
import PyProof.InstStoreFacts
import KE.BytesMake
import PyProof.AssignAttr
import PyProof.WalksMore
import PyProof.TupleOfSeq
import PyProof.TupleOfGen
import PyProof.EnumMake
import PyProof.TupleIter
import PyProof.StrLawsIn
import Lean
import PySem.Challenge.RW_kl0249_01
set_option Elab.async false
set_option linter.unusedVariables false
set_option linter.unusedSimpArgs false
set_option maxRecDepth 100000
set_option maxHeartbeats 8000000
set_option genInjectivity false
set_option genSizeOf false
set_option compiler.extract_closed false
set_option bootstrap.genMatcherCode false
set_option genSizeOfSpec false
set_option tactic.hygienic false
open Array renaming getElem?_eq_some_iff->Jf,toArray_toList->OE,toList_append->PB,getD->PC,mk->X8,getElem?_eq_getElem->ε,length_toList->aM6,getElem?_setIfInBounds_ne->aN2,getElem?_setIfInBounds_self_of_lt->aN3,getElem?_push_size->aN4,getD_eq_getD_getElem?->aOh
open Bool renaming and_eq_true_iff->sS,not_eq_true'->tP,and_eq_true->Fe,false_eq_true->Fj,false_ne_true->Jh,and_false->Jn,eq_iff_iff->My,or_false->Nf,not_eq_true->o8,or_eq_true_iff->u9,not_true->y7,false_and->aPj,and_true->aPl,or_assoc->aPm,eq_false_iff->aPn
open Classical renaming not_imp->QA,not_forall->o9
open ForIn renaming forIn->Bz
open ForInStep renaming yield->OH
open Function renaming comp_def->PH,comp->Γ
open Int renaming natCast_nonneg->jM,not_lt->pG,le_trans->rM,toNat_natCast->rN,fmod_eq_emod_of_nonneg->vH,toNat_of_nonneg->xA,ofNat_le->zA,le_of_lt->zB,le_refl->Er,ofNat_lt->Es,fdiv_eq_ediv_of_nonneg->Fm,add_zero->Ip,ofNat_inj->Iq,lt_of_lt_of_le->Ml,add_lt_add_left->Mm,lt_trans->Mq,le_of_eq->Su,le_antisymm->Sv,one_mul->NG,mul_comm->NH,lt_irrefl->NJ,mul_le_mul_of_nonneg_left->NK,ofNat_sub->PI,ofNat->PZ,zero_add->V8,add_mul->V9,mul_add->W0,lt_of_not_ge->W1,add_le_add->W3,add_sub_cancel->W4,max_eq_right->W7,lt_iff_le_and_ne->W8,not_le->ζ,toNat->f9,emod_nonneg->m8,lt_of_add_lt_add_left->x8,sub_nonneg_of_le->aMu,mul_le_mul_of_nonneg_right->aMw,emod_lt_of_pos->aPb
open LawfulBEq renaming eq_of_beq->gX
open LawfulMonad renaming pure_bind->AZ
open List renaming range->bX,mem_cons->cE,not_mem_nil->cO,mem_singleton->cW,mem_of_getElem?->dY,length_map->fE,map_map->fO,mem_range->fY,mem_map->gK,getD_eq_getElem?_getD->iJ,mem_append->jV,mem_filter->lO,lookup_cons->mJ,foldl_cons->nH,map_cons->nU,length_append->nV,getElem?_eq_getElem->oO,append_nil->pB,append_assoc->pJ,filter_eq_self->pK,length_cons->pL,length_take->qS,length->rS,all_eq_true->tO,length_filter_le->xF,getElem?_eq_some_iff->zF,map_congr_left->zG,forIn_cons->zI,getElem?_map->Bv,pairwise_cons->Bw,map_append->Fh,nil_append->Fl,getElem_mem->Ft,length_range->Fy,drop_eq_nil_of_le->Iz,forIn_nil->Ja,flatMap_cons->Jd,toArray->Jg,mem_filterMap->Mn,nodup_cons->Mw,contains_iff_mem->Ng,pairwise_append->Te,filterMap_cons->Ti,cons_append->Tn,take_length->AP,replicate->AR,nodup_range->BA,filter_eq_nil_iff->BB,map_take->BC,length_singleton->BP,mem_of_mem_take->BQ,take_append_drop->BR,range'->BU,filter_congr->BV,map_inj_left->BX,drop_drop->NW,range_succ_eq_map->OC,sum_cons->OF,nodup_append->OG,mem_flatMap->PF,getElem?_range->PM,filter->QB,getElem?_drop->QC,contains_cons->Y1,drop->Y2,getElem?_eq_none->Y3,take_of_length_le->Z6,drop_eq_getElem_cons->Z9,lookup->τ,of_mem_zip->c7,range_succ->j9,filter_cons_of_pos->m9,filter_cons_of_neg->o6,mem_of_mem_drop->o7,range'_succ->v7,getElem?_append_right->w6,foldl_append->x6,filter_map->x7,getElem?_take->x9,length_eq_one_iff->y8,lookup_eq_some_iff->aM4,drop_eq_nil_iff->aM7,findIdx?_cons->aNg,mem_reverse->aNh,all_eq_not_any_not->aNi,drop_of_length_le->aNp,eq_nil_of_length_eq_zero->aNq,replicate_succ->aNs,flatten_cons->aNt,take_add_one->aNu,pairwise_singleton->aNv,filter_cons->aNx,length_eq_zero_iff->aN0,zip_cons_cons->aN7,zipIdx_cons->aOa,zipIdx_nil->aOb,isEmpty_nil->aOf,getLast?_map->aOl,ext_getElem->aOo,getElem_set->aOp,map_drop->aOt,length_zip->aPc,filter_append->aPd,countP_eq_length_filter->aPf,length_pos_of_mem->aPg,take_sublist->aPi,perm_middle->aPr,pairwise_iff_getElem->aPs,getElem?_append_left->aPt,drop_append_of_le_length->aPu,find?_cons->aPv,mem_range'_1->aPw,length_drop->aPx
open List.Nodup renaming length_le_of_subset->Tx,sublist->aPh
open List.Pairwise renaming nil->AS
open List.Perm renaming eq_of_pairwise->aPe
open List.cons renaming inj->X7
open Nat renaming sub_add_cancel->bC,le_refl->dH,le_of_lt->eO,le_trans->fD,mod_lt->gY,div_add_mod->iK,zero_le->iR,le_add_right->jD,le_succ_of_le->nW,not_lt->pH,lt_of_le_of_lt->pZ,lt_of_le_of_ne->qL,lt_of_lt_of_le->qO,zero_lt_of_lt->qQ,lt_succ_self->rO,ne_of_lt->rP,min_le_left->rT,lt_irrefl->sR,succ_pos->sW,lt_trans->tY,le_of_lt_succ->vB,min_eq_left->vC,ne_of_gt->wX,zero_add->Bu,le_of_not_lt->Ep,min_le_right->Fg,le_of_eq->Io,le_succ->Iy,mod_eq_of_lt->Jo,min_eq_right->Mk,succ_ne_self->Mr,add_zero->Mu,not_lt_zero->Mv,ble->Sq,lt_of_not_le->Sr,add_comm->Ss,mul_le_mul->Tr,pow_le_pow_right->Ts,add_le_add->Zz,lt_succ_of_lt->AA,zero_testBit->BS,add_sub_cancel->BW,le_of_ble_eq_true->NC,le_antisymm->ND,sub_le->NI,add_right_comm->NY,add_sub_of_le->PD,pow_succ->PG,sub_right_comm->QD,min_self->QE,mul_comm->V7,sub_lt->W5,le_total->W6,div_eq_of_lt->W9,le_of_succ_le->φ,sub_self->Ξ,add_assoc->j8,le_add_left->l5,eq_of_testBit_eq->u5,testBit_and->u6,testBit_two_pow->u7,add_mod_right->v8,add_sub_cancel_left->w7,lt_or_eq_of_le->w9,lt_or_ge->y6,mul_le_mul_right->aMs,not_succ_le_self->aMt,pos_of_ne_zero->aMv,testBit_eq_decide_div_mod_eq->aNy,add_left_cancel->aN8,lt_add_of_pos_right->aN9,zero_lt_one->aOq,lt_succ_of_le->aO2,testBit_lt_two_pow->aPk,add_le_add_left->aPo,and_two_pow_sub_one_eq_mod->aPp,sub_le_iff_le_add->aPq,sub_pos_of_lt->aPy,div_lt_of_lt_mul->aPz
open Nat.succ renaming inj->AY
open Ne renaming symm->gJ
open Option renaming map_eq_some_iff->Eu,none->AG,getD_none->OD,isSome_none->OL,bind_some->Y0,getD_some->k7
open Option.some renaming inj->AK
open PUnit renaming unit->Jb
open Prod.mk renaming inj->Tb
open PyProof renaming noPylong_small->aM5
open PyProof.Rows renaming seqObj->xH,AllBare->Sw,IntsAre->Tj,entry_proto_collect'->aOu
open PySem renaming Str->aC,Value->aD,Shared->aF,Addr->aH,wpAny->aK,wpAny_bind->aM,wpAny_pure->bE,Heap->bH,Expr->bJ,Around->bM,Env->bO,Scope->bR,sizeLine_eq->cU,Stmt->dE,Pos->dI,sizeLine->eJ,wpAny_mono->eK,Obj->fQ,call->gL,Seg->hU,World->iI,Program->iS,starEach->iT,BindsTo->iU,cellsFrom->iV,Tok->jB,mainGlobals->jU,backTo->kQ,Builtin->kR,wpAny_execs_cons->lN,FuncData->mF,pyNext->mH,rawInt->mI,wpAny_holding->mK,wpAny_of_eq->mM,wpAny_field->nI,wpAny_standAt->pI,pushCells->qA,builtinsNs->qM,IsRangeIter->qN,Sem->qP,Comprehension->qR,Setting->rQ,foldedSetIterable->sV,letOwnedTupleGo->tR,sliceBounds->tS,noteFrame->tU,backToKw->tW,keywordEach->tX,swapsWith->vE,typeOf->vF,pyIter->wW,attributeBase->wY,wpAny_call_entry->xB,NameKind->xC,wpAny_call->xD,evalAll->xE,argsOk->xG,wpAny_Call_Name_kw->zC,Flow->zD,wpAny_Assign_Name->zE,wpAny_callSpecial?_slot->zH,seg_execs_cons->zJ,codeAny->Bx,seg_execs_nil->Cb,wpAny_seqItems->Cd,wpAny_items_cons->Et,wpAny_load->Ez,wpAny_storeName_local->Fb,assignEach->Fc,seqIndex?->Ff,pushCells_keeps->Fi,wpAny_newObj_type->Fk,specialOf->Fw,GenState->Ir,codeAmong->It,recursionLimit->Iu,standAt->Iv,wpAny_rule->Jc,seg_bind_wrap->Je,isSubtype_type->Jm,strIterType->Mp,storeName->Ms,theTreesLotGoes->Mx,wpAny_attempt->Mz,ItemsOf->Nb,wpAny_setField->Nc,FuncBody->Sx,IsEnum->Tc,wpAny_execs_nil->Td,wpAny_onRaise->Tf,cameBackBy->Tg,sliceRange->Th,setFlight->To,newExc->Tp,typeLookup_type->Tt,builtinLookup_eq_fast->Tu,codeAny_call_builtin->Tv,bootBuiltins->AB,wpAny_items_nil->AD,checkBuiltinCall->AE,PyData->AF,wpAny_pyIter_list->AH,IsRange->AI,wpAny_pyIter_enum->AJ,wpAny_assign_Name->AL,Result->AM,IsPart->AO,slicePicked->AQ,newList->AW,wpAny_setField_rec->AX,codeAny_builtin->BE,plainId_quiet->BG,entryFor->BH,getAttr->BK,onTheHeap->BL,TriplesOk->NL,wpAny_Constant_str->NM,wpAny_loadName_local->NN,wpAny_Name->NO,wpAny_BinOp->NQ,wpAny_truthy_bool->NR,wpAny_assignInOrder_more->NZ,call_meets->OA,slicePick->OB,codeAny_mono->OI,firstAsync->OJ,firstIter->OK,Protocol->OM,seg_again->ON,wpAny_raiseNew_none->OP,typeIs_str->OQ,fromIndex->OR,wpAny_pyIter_zip->OS,wpAny_letGo->OU,Arguments->OX,defaultsOf->OZ,hookBefore->PN,wpAny_loadPart->PQ,entryFor_of_tree->PR,seqItems?->PY,wpAny_Constant_bool->X0,wpAny_Tuple->X5,wpAny_pyIter_tuple->Y4,assignInOrder->Z0,wpAny_assign_Tuple->Z1,wpAny_assignInOrder_none->Z2,wpAny_While->Z4,codeAny_whileLoop->Z5,typeLookup->Z7,slot_list_getitem->Z8,closureFor->η,wpAny_alloc->ξ,codeAny_of_tree->ρ,assign->χ,callWith_function_kw->ψ,evalArgs_kw->ω,splitAtGen->Δ,wpAny_isInstance->Ψ,isSubtype_stop->Ω,wpAny_updateSeq->c8,wpAny_nextOf_list_item->d6,wpAny_nsGet->j5,wpAny_mkText->k9,wpAny_mkInt->l7,wpAny_Constant_int->aMx,wpAny_loadName_cell->aMy,wpAny_loadName_free->aMz,wpAny_isTrue_Compare1->aM0,wpAny_isTrue_value->aM1,wpAny_allTrue_And_cons->aM2,wpAny_allTrue_Or_cons->aM3,wpAny_pyIter_tupleiter->aM8,callWith_type->aM9,wpAny_pyNext_enum_endD->aNa,wpAny_pyNext_enum_itemD->aNb,wpAny_letOwnedTupleGo_enum->aNc,call_enumerate_str->aNd,wpAny_letOwnedTupleGo_zip->aNe,wpAny_storeName_cell->aNf,wpAny_list_append_plain->aNj,wpAny_letTemporaryGo->aNm,wpAny_getItem_list->aNn,codeAny_call_function->aNw,wpAny_functionCodeX->aOg,arm_eval_Attribute->aOy
open PySem.Around renaming under_plainId->BF
open PySem.AutoSeq1 renaming wpAny_loadPart'->m7
open PySem.Bind renaming madeBy->NS,madeHere->X6
open PySem.Builtin renaming bitAnd->jC,bitNot->tQ,bitOr->Ex
open PySem.Builtin.Generator renaming genWake->aN1
open PySem.Builtin.Int renaming intBits->NU
open PySem.Builtin.List renaming listFitsIndex->AN,listExtendWith->PL,listTooLong->aNr,listLengthHint->aO4,listSameRef->aO5
open PySem.Builtin.Range renaming small->Y6,rangeSize->Y7
open PySem.Builtin.SmallTypes renaming nextOf->Jj,ownedTupleIsFree->OT,ownedTupleHandOut->aOc,calledThroughType->aPa
open PySem.Builtin.Str renaming occurrences->Fq,strSliceIndices->γ,lastOccurrence->aN6
open PySem.Builtin.Tuple renaming tupleExact->aO8
open PySem.Calls renaming Name_function_global->NP,evalArgs_plain->NX,call_function_entry->PT,loadGlobal_builtin->X4,callWith_builtin->Y5,spliced_nil->aOw
open PySem.Challenge renaming pw_kl0249_01->vD,rw_kl0249_01->NT
open PySem.Code renaming builtin->l6
open PySem.Draws renaming strAscii->Y8,strWide->Y9
open PySem.Env renaming kindOf->Fd
open PySem.F renaming slot_tuple_iterator_next->Ga,slot_zip_next->OV,plain_list_iadd->PK,entry_tuple_iterator_next->PW,args_tuple_iterator_next_1->PX,slot_str_join->j6,type_str_join->j7,called_tuple->m6,slot_list_extend->aNk,slot_list_insert->aNl,slot_str_getitem->aNo,plainAttrs_str->aN5,entry_zip_next->aOd,args_zip_next_1->aOe,slot_str_startswith->aOj,type_str_startswith->aOk,slot_str_endswith->aOm,type_str_endswith->aOn,slot_str_index->aOr,type_str_index->aOs,plain_proto_collect->aOv,slot_tuple_iter->aO3,plain_extend_loop->aO6,plain_tuple_new->aO7,args_object_init_2->aO9
open PySem.Frame renaming guarded->Θ
open PySem.FuncBody renaming stmts->Tz
open PySem.Heap renaming get?_push_of_some->eG,lt_size->gS,get?_push_size->gU,SameBut->kU,size_push->tT,get?_update_self->wZ,MadeExcOf->Ji,ExtBut->OY,get?_update_other->l9,get?_update_ne->aO1
open PySem.Heap.IsList renaming push->d8
open PySem.Heap.Ns renaming new->AU
open PySem.Heap.SameBut renaming update->By
open PySem.Heap.UpToSlots renaming of_keeps->aO0
open PySem.IntMulOk renaming of_left->Fz
open PySem.Manifest renaming isStub->aOx
open PySem.NameKind renaming free->mG,cell->Ca
open PySem.Obj renaming data_mapFields->Fx,mapSeq->Mt,isFreed_of_fields->BN,cls_mapFields->PV,mapFields->l8
open PySem.PyData renaming strOk->qB,eqvAll->zK,eqv->Ey,canLayAll0->Fs,depthAll->Jk,depth->Na,canLay0->Tq,list->OW
open PySem.Sem renaming bind_eq_wrap->OO,bind_eq_wrap'->aNz
open PySem.Shared renaming heap->d7,TypeIs->m5
open PySem.Str renaming length_append->PJ,length->δ
open PySem.Txt renaming contains->rR,endswith->tZ,split->uA,startswith->Cc,join->Fo
open PySem.Value renaming none->nG,ref->vG,builtin->Cf,type->Fu,bytes->PU
open PySem.W renaming Frag->fB,findIn->lM,Looks->lP,mroIn->sU,hideAll->xI,looks_findIn->Ce,tabObj->Ew,looks_mroIn->Fv,boot_heap->Iw,CodeHd->Jl,clsIn->Mo,hideAll_get->Nd,findObj->Sy,specialIn->Sz,keepIn->Ta,check_slot->Tw,of_hideAll->BO,kas_sort->PE,handedIn->PO,looks_specialIn->k8
open PySem.W.KasFin renaming intro->aOi
open PySem.W.Looks renaming ld->BJ,of_pure->BM,of_peek->PS
open PySem.W.RowW renaming records->X9
open PySem.callAny renaming viaDunder->aOz
namespace Mini.Internal
inductive LX where
 |v (i:Nat)|n (k:Nat)|a (x y:LX)|m (k:Nat) (x:LX)|t (x:LX) (k:Nat)
noncomputable abbrev LX.x:LX:=.v 0
noncomputable abbrev LX.y:LX:=.v 1
noncomputable abbrev LX.z:LX:=.v 2
noncomputable abbrev LX.w:LX:=.v 3
noncomputable abbrev LX.p:LX:=.v 4
noncomputable abbrev LX.q:LX:=.v 5
noncomputable abbrev LX.i:LX:=.n 1
noncomputable abbrev LX.o:LX:=.n 0
noncomputable abbrev LX.u(x:LX):LX:=.a x (.n 1)
noncomputable def JS:List Nat->Nat->Nat
 |[],_=>0
 |x::_,0=>x
 |_::r,i+1=>JS r i
noncomputable def LX.den(c:List Nat):LX->Nat
 |.v i=>JS c i
 |.n k=>k
 |.a x y=>x.den c+y.den c
 |.m k x=>k*x.den c
 |.t x k=>x.den c*k
noncomputable def cf(c:List Nat):Nat->Nat
 |0=>1
 |i+1=>JS c i
noncomputable def lB(c:List Nat):List Nat->Nat->Nat
 |[],_=>0
 |k::ks,i=>k*cf c i+lB c ks (i+1)
noncomputable def Al:List Nat->List Nat->List Nat
 |k::ks,l::ls=>(k+l)::Al ks ls
 |[],l=>l
 |k,[]=>k
noncomputable def pR(k:Nat):List Nat->List Nat
 |[]=>[]
 |l::ls=>k*l::pR k ls
noncomputable def Wz:Nat->List Nat
 |0=>[1]
 |i+1=>0::Wz i
noncomputable def LX.nf:LX->List Nat
 |.v i=>0::Wz i
 |.n k=>[k]
 |.a x y=>Al x.nf y.nf
 |.m k x=>pR k x.nf
 |.t x k=>pR k x.nf
theorem Ve(c p q:List Nat)(i:Nat):lB c (Al p q) i=lB c p i+lB c q i:=by
 induction p generalizing q i with
 |nil=>exact(Bu _).symm
 |cons k ks ih=>
  cases q with
  |nil=>rfl
  |cons l ls=>
   show(k+l)*cf c i+lB c (Al ks ls) (i+1)=(k*cf c i+lB c ks (i+1))+(l*cf c i+lB c ls (i+1));rw[ih,Nat.add_mul,Nat.add_add_add_comm]
theorem Vd(c:List Nat)(k:Nat)(p:List Nat)(i:Nat):lB c (pR k p) i=k*lB c p i:=by
 induction p generalizing i with
 |nil=>rfl
 |cons l ls ih=>
  show k*l*cf c i+lB c (pR k ls) (i+1)=k*(l*cf c i+lB c ls (i+1));rw[ih,Nat.mul_add,Nat.mul_assoc]
theorem aG1(c:List Nat)(i j:Nat):lB c (Wz i) j=cf c (j+i):=by
 induction i generalizing j with
 |zero=>exact Nat.one_mul _
 |succ i ih=>
  show 0*cf c j+lB c (Wz i) (j+1)=_;rw[Nat.zero_mul,Bu,ih,Nat.succ_add];rfl
theorem LX.Oq(c:List Nat)(x:LX):lB c x.nf 0=x.den c:=by
 induction x with
 |v i=>exact(aG1 c (i+1) 0).trans (congrArg (cf c) (Bu (i+1)))
 |n k=>exact Nat.mul_one k
 |a x y h1 h2=>exact(Ve c x.nf y.nf 0).trans (h1▸h2▸rfl)
 |m k x h=>exact(Vd c k x.nf 0).trans (h▸rfl)
 |t x k h=>exact(Vd c k x.nf 0).trans (h▸V7 _ _)
theorem band{a b:Bool}(h:(a&&b)=true):a=true/\b=true:=by
 cases a with
 |false=>cases h
 |true=>exact⟨rfl,h⟩
noncomputable def Xa:List Nat->List Nat->Bool
 |_,[]=>true
 |[],l::ls=>Sq l 0&&Xa [] ls
 |k::ks,l::ls=>Sq l k&&Xa ks ls
theorem aG2(c p q:List Nat)(i:Nat)(h:Xa p q=true):lB c q i<=lB c p i:=by
 induction q generalizing p i with
 |nil=>exact iR _
 |cons l ls ih=>
  cases p with
  |nil=>
   have h:=band (h);exact fD (Zz (aMs (cf c i) (NC h.1)) (ih [] (i+1) h.2)) (Io (Nat.zero_mul _))
  |cons k ks=>
   have h:=band (h);exact Zz (aMs (cf c i) (NC h.1)) (ih ks (i+1) h.2)
inductive Hy where
 |L (k:Nat) (x y:LX)|E (k:Nat) (x y:LX)|F (k:Nat) (x y:LX)|N (k:Nat) (x y:LX)|M (k:Nat) (x y:LX)
noncomputable abbrev Hy.l(x y:LX):Hy:=.L 1 x y
noncomputable abbrev Hy.e(x y:LX):Hy:=.E 1 x y
noncomputable abbrev Hy.f(x y:LX):Hy:=.F 1 x y
noncomputable abbrev Hy.m(x y:LX):Hy:=.M 1 x y
def Hy.P(c:List Nat):Hy->Prop
 |.L _ x y=>x.den c<=y.den c
 |.E _ x y=>x.den c=y.den c
 |.F _ x y=>x.den c=y.den c
 |.N _ x y=>¬x.den c<=y.den c
 |.M _ x y=>¬x.den c<y.den c
noncomputable def Hy.lo:Hy->List Nat
 |.L k x _=>pR k x.nf
 |.E k x _=>pR k x.nf
 |.F k _ y=>pR k y.nf
 |.N k _ y=>pR k (LX.a y (.n 1)).nf
 |.M k _ y=>pR k y.nf
noncomputable def Hy.hi:Hy->List Nat
 |.L k _ y=>pR k y.nf
 |.E k _ y=>pR k y.nf
 |.F k x _=>pR k x.nf
 |.N k x _=>pR k x.nf
 |.M k x _=>pR k x.nf
theorem Rd{c:List Nat}(k:Nat){x y:LX}(h:x.den c<=y.den c):lB c (pR k x.nf) 0<=lB c (pR k y.nf) 0:=by
 rw[Vd,Vd,LX.Oq,LX.Oq];exact Nat.mul_le_mul_left k h
theorem Hy.le{c:List Nat}{h:Hy}(p:h.P c):lB c h.lo 0<=lB c h.hi 0:=by
 cases h with
 |L k x y=>exact Rd k p
 |E k x y=>exact Rd k (Io p)
 |F k x y=>exact Rd k (Io (Eq.symm p))
 |N k x y=>exact Rd k (Sr p)
 |M k x y=>exact Rd k (Ep p)
def imp(c:List Nat):List Hy->Prop
 |[]=>False
 |h::r=>h.P c->imp c r
noncomputable def Yp:List Hy->List Nat
 |[]=>[]
 |h::r=>Al h.lo (Yp r)
noncomputable def Yx:List Hy->List Nat
 |[]=>[]
 |h::r=>Al h.hi (Yx r)
theorem aI4(c:List Nat)(hs:List Hy)(n:¬lB c (Yp hs) 0<=lB c (Yx hs) 0):imp c hs:=by
 induction hs with
 |nil=>exact n (dH _)
 |cons h r ih=>
  exact λp=>ih λq=>n (by
   show lB c (Al h.lo (Yp r)) 0<=lB c (Al h.hi (Yx r)) 0
   rw[Ve,Ve];exact Zz (Hy.le p) q)
theorem aG(c:List Nat)(hs:List Hy)(ok:Xa (Yp hs) (Al [1] (Yx hs))=true):imp c hs:=aI4 c hs λq=>by
 have h:=aG2 c _ _ 0 ok;rw[Ve] at h;exact aMt _ (fD (fD (Io (Ss _ 1)) h) q)
theorem bV{a b:Nat}(h:b<=a->False):a<b:=Sr h
theorem aV{a b:Nat}(h:b<a->False):a<=b:=Ep h
theorem eQ{a b:Nat}(h1:a<b->False)(h2:b<a->False):a=b:=ND (aV h2) (aV h1)
theorem I6(a b:Nat):a<=a-b+b:=Nat.le_add_of_sub_le (dH _)
inductive LZ where
 |v (i:Nat)|n (k:Int)|a (x y:LZ)|s (x y:LZ)|m (k:Int) (x:LZ)|t (x:LZ) (k:Int)|g (x:LZ)|c (x:LX)
noncomputable abbrev LZ.x:LZ:=.v 0
noncomputable abbrev LZ.y:LZ:=.v 1
noncomputable abbrev LZ.z:LZ:=.v 2
noncomputable abbrev LZ.w:LZ:=.v 3
noncomputable abbrev LZ.p:LZ:=.v 4
noncomputable abbrev LZ.q:LZ:=.v 5
noncomputable abbrev LZ.i:LZ:=.n 1
noncomputable abbrev LZ.o:LZ:=.n 0
noncomputable abbrev LZ.u(x:LZ):LZ:=.a x (.n 1)
noncomputable def Hd:List Int->Nat->Int
 |[],_=>0
 |x::_,0=>x
 |_::r,i+1=>Hd r i
noncomputable def LZ.den(p:List Nat)(q:List Int):LZ->Int
 |.v i=>Hd q i
 |.n k=>k
 |.a x y=>x.den p q+y.den p q
 |.s x y=>x.den p q-y.den p q
 |.m k x=>k*x.den p q
 |.t x k=>x.den p q*k
 |.g x=> -x.den p q
 |.c x=>(x.den p:Nat)
noncomputable def gW(f:Nat->Int):List Int->Nat->Int
 |[],_=>0
 |k::ks,i=>k*f i+gW f ks (i+1)
noncomputable def qE:List Int->List Int->List Int
 |k::ks,l::ls=>(k+l)::qE ks ls
 |[],l=>l
 |k,[]=>k
noncomputable def pQ(k:Int):List Int->List Int
 |[]=>[]
 |l::ls=>k*l::pQ k ls
noncomputable def Wu:Nat->List Int
 |0=>[1]
 |i+1=>0::Wu i
noncomputable def Ay:List Nat->List Int
 |[]=>[]
 |k::ks=>(k:Int)::Ay ks
noncomputable def LZ.nf:LZ->List Int×List Int
 |.v i=>([],Wu i)
 |.n k=>([k],[])
 |.a x y=>(qE x.nf.1 y.nf.1,qE x.nf.2 y.nf.2)
 |.s x y=>(qE x.nf.1 (pQ (-1) y.nf.1),qE x.nf.2 (pQ (-1) y.nf.2))
 |.m k x=>(pQ k x.nf.1,pQ k x.nf.2)
 |.t x k=>(pQ k x.nf.1,pQ k x.nf.2)
 |.g x=>(pQ (-1) x.nf.1,pQ (-1) x.nf.2)
 |.c x=>(Ay x.nf,[])
theorem DR(f:Nat->Int)(p q:List Int)(i:Nat):gW f (qE p q) i=gW f p i+gW f q i:=by
 induction p generalizing q i with
 |nil=>exact(V8 _).symm
 |cons k ks ih=>
  cases q with
  |nil=>exact(Ip _).symm
  |cons l ls=>
   show(k+l)*f i+gW f (qE ks ls) (i+1)=(k*f i+gW f ks (i+1))+(l*f i+gW f ls (i+1));rw[ih,V9];ac_rfl
theorem VK(f:Nat->Int)(k:Int)(p:List Int)(i:Nat):gW f (pQ k p) i=k*gW f p i:=by
 induction p generalizing i with
 |nil=>exact(Int.mul_zero k).symm
 |cons l ls ih=>
  show k*l*f i+gW f (pQ k ls) (i+1)=k*(l*f i+gW f ls (i+1));rw[ih,W0,Int.mul_assoc]
theorem aGl(f:Nat->Int)(i j:Nat):gW f (Wu i) j=f (j+i):=by
 induction i generalizing j with
 |zero=>exact(Ip _).trans (NG _)
 |succ i ih=>
  show 0*f j+gW f (Wu i) (j+1)=_;rw[Int.zero_mul,V8,ih,Nat.succ_add];rfl
noncomputable def cz(p:List Nat)(i:Nat):Int:=(cf p i:Nat)
theorem EK(p l:List Nat)(i:Nat):gW (cz p) (Ay l) i=(lB p l i:Nat):=by
 induction l generalizing i with
 |nil=>rfl
 |cons k ks ih=>exact(congrArg (λz=>(k:Int)*cz p i+z) (ih (i+1))).trans rfl
noncomputable def vT(p:List Nat)(q:List Int)(x:List Int×List Int):Int:=gW (cz p) x.1 0+gW (Hd q) x.2 0
theorem Uo(p:List Nat)(q:List Int)(a b c d:List Int):vT p q (qE a b,qE c d)=vT p q (a,c)+vT p q (b,d):=by
 show gW _ (qE a b) 0+gW _ (qE c d) 0=(gW _ a 0+gW _ c 0)+(gW _ b 0+gW _ d 0);rw[DR,DR];ac_rfl
theorem Nr(p:List Nat)(q:List Int)(k:Int)(a b:List Int):vT p q (pQ k a,pQ k b)=k*vT p q (a,b):=by
 show gW _ (pQ k a) 0+gW _ (pQ k b) 0=k*(gW _ a 0+gW _ b 0);rw[VK,VK,W0]
theorem HJ(a:Int): -1*a= -a:=(Int.neg_mul 1 a).trans (congrArg _ (NG a))
theorem LZ.Oq(p:List Nat)(q:List Int)(x:LZ):vT p q x.nf=x.den p q:=by
 induction x with
 |v i=>exact(V8 _).trans ((aGl (Hd q) i 0).trans (congrArg (Hd q) (Bu i)))
 |n k=>exact(Ip _).trans ((Ip _).trans (Int.mul_one k))
 |a x y h1 h2=>exact(Uo p q _ _ _ _).trans (h1▸h2▸rfl)
 |s x y h1 h2=>exact(Uo p q _ _ _ _).trans ((congrArg _ ((Nr p q _ _ _).trans (HJ _))).trans (h1▸h2▸rfl))
 |m k x h=>exact(Nr p q k _ _).trans (h▸rfl)
 |t x k h=>exact(Nr p q k _ _).trans (h▸NH _ _)
 |g x h=>exact(Nr p q _ _ _).trans ((HJ _).trans (h▸rfl))
 |c x=>exact(Ip _).trans ((EK p x.nf 0).trans (congrArg _ (LX.Oq p x)))
inductive HZ where
 |L (k:Nat) (x y:LZ)|E (k:Nat) (x y:LZ)|F (k:Nat) (x y:LZ)|N (k:Nat) (x y:LZ)|M (k:Nat) (x y:LZ)|O (h:Hy)
noncomputable abbrev HZ.l(x y:LZ):HZ:=.L 1 x y
noncomputable abbrev HZ.e(x y:LZ):HZ:=.E 1 x y
noncomputable abbrev HZ.f(x y:LZ):HZ:=.F 1 x y
noncomputable abbrev HZ.m(x y:LZ):HZ:=.M 1 x y
def HZ.P(p:List Nat)(q:List Int):HZ->Prop
 |.L _ x y=>x.den p q<=y.den p q
 |.E _ x y=>x.den p q=y.den p q
 |.F _ x y=>x.den p q=y.den p q
 |.N _ x y=>¬x.den p q<=y.den p q
 |.M _ x y=>¬x.den p q<y.den p q
 |.O h=>h.P p
noncomputable def Gy(k:Nat)(x y:LZ):List Int×List Int:=(LZ.m k (.s y x)).nf
noncomputable def HZ.up:HZ->List Int×List Int
 |.L k x y=>Gy k x y
 |.E k x y=>Gy k x y
 |.F k x y=>Gy k y x
 |.N k x y=>Gy k (.a y (.n 1)) x
 |.M k x y=>Gy k y x
 |.O h=>(qE (Ay h.hi) (pQ (-1) (Ay h.lo)),qE [] (pQ (-1) []))
theorem Ny{p:List Nat}{q:List Int}(k:Nat){x y:LZ}(h:x.den p q<=y.den p q):0<=vT p q (Gy k x y):=by
 rw[Gy,LZ.Oq];exact Int.mul_nonneg (jM k) (aMu h)
theorem HZ.ge{p:List Nat}{q:List Int}{h:HZ}(w:h.P p q):0<=vT p q h.up:=by
 cases h with
 |L k x y=>exact Ny k w
 |E k x y=>exact Ny k (Su w)
 |F k x y=>exact Ny k (Su (Eq.symm w))
 |N k x y=>exact Ny k (W1 w)
 |M k x y=>exact Ny k (pG.mp w)
 |O h=>
  have u:0<=vT p q (Ay h.hi,[])+ -1*vT p q (Ay h.lo,[]):=by
   rw[HJ];show 0<=(gW _ (Ay h.hi) 0+0)+ -(gW _ (Ay h.lo) 0+0);rw[Ip,Ip,EK,EK];exact aMu (zA.mpr (Hy.le w))
  exact rM u (Su ((congrArg _ (Nr p q _ _ _).symm).trans (Uo p q _ _ _ _).symm))
def HT(p:List Nat)(q:List Int):List HZ->Prop
 |[]=>False
 |h::r=>h.P p q->HT p q r
noncomputable def Dz:List HZ->List Int×List Int
 |[]=>([],[])
 |h::r=>(qE h.up.1 (Dz r).1,qE h.up.2 (Dz r).2)
noncomputable def GU:List Int->Bool
 |[]=>true
 |k::ks=>decide (k<=0)&&GU ks
noncomputable def GR:List Int->Bool
 |[]=>true
 |k::ks=>decide (k=0)&&GR ks
theorem aGk(p:List Nat)(l:List Int)(i:Nat)(h:GU l=true):gW (cz p) l i<=0:=by
 induction l generalizing i with
 |nil=>exact Er _
 |cons k ks ih=>
  have h:=band (h);exact W3 (Int.mul_nonpos_of_nonpos_of_nonneg (of_decide_eq_true h.1) (jM (cf p i))) (ih (i+1) h.2)
theorem aGj(f:Nat->Int)(l:List Int)(i:Nat)(h:GR l=true):gW f l i=0:=by
 induction l generalizing i with
 |nil=>rfl
 |cons k ks ih=>
  have h:=band (h);show k*f i+gW f ks (i+1)=0;rw[ih (i+1) h.2,of_decide_eq_true h.1,Int.zero_mul];rfl
theorem aHo(p:List Nat)(q:List Int)(hs:List HZ)(n:¬0<=vT p q (Dz hs)):HT p q hs:=by
 induction hs with
 |nil=>exact n (Er _)
 |cons h r ih=>exact λw=>ih λu=>n (rM (W3 (HZ.ge w) u) (Su (Uo p q _ _ _ _).symm))
theorem cG(p:List Nat)(q:List Int)(hs:List HZ)(ok:(GU (qE [1] (Dz hs).1)&&GR (Dz hs).2)=true):HT p q hs:=aHo p q hs λu=>by
 have h:=band ok;have h1:=aGk p _ 0 h.1;have h2:=aGj (Hd q) _ 0 h.2;rw[DR] at h1
 have u:0<=gW (cz p) (Dz hs).1 0:=by
  have u:0<=gW (cz p) (Dz hs).1 0+gW (Hd q) (Dz hs).2 0:=u;rw[h2,Ip] at u;exact u
 exact absurd (rM (W3 (Er (gW (cz p) [1] 0)) u) h1) (by show ¬((1:Int)<=0);decide)
theorem pF{a b:Int}(h:b<=a->False):a<b:=W1 h
theorem lF{a b:Int}(h:b<a->False):a<=b:=pG.mp h
theorem sP{a b:Int}(h1:a<b->False)(h2:b<a->False):a=b:=Sv (lF h2) (lF h1)
theorem Kj{b n:Nat}(h:b<n+1)(e:¬b=n):b<n:=qL (vB h) e
theorem Vw{i j:Nat}(h:i<=j)(e:¬i=j):i<=j-1:=Nat.le_sub_one_of_lt (qL h e)
theorem EW{i n:Nat}(e:¬i=n):i<n↔i<n+1:=⟨AA,λh=>Kj h e⟩
theorem C1{n:Nat}(h:n<2^62):(n:Int)<2^62:=Es.mpr h
theorem uN{n:Nat}(h:n<2^63):(n:Int)<2^63:=Es.mpr h
theorem F8(n:Nat): -2^62<=(n:Int):=rM (by decide) (jM n)
theorem aL8(n:Nat): -2^63<=(n:Int):=rM (by decide) (jM n)
theorem C8{j n:Nat}(h:j<n):((0<=if(j:Int)<0 then(j:Int)+n else j)/\(if(j:Int)<0 then(j:Int)+n else j)<n)/\(if(j:Int)<0 then(j:Int)+n else j).toNat=j:=by
 rw[if_neg (pG.mpr (jM j))];exact⟨⟨jM j,Es.mpr h⟩,rN j⟩
theorem ZG{n:Nat}(h:0<n):(0<=-1+(n:Int)/\-1+(n:Int)<n)/\(-1+(n:Int)).toNat=n-1:=by
 cases n with
 |zero=>cases h
 |succ m=>
  have e: -1+((m+1:Nat):Int)=(m:Int):=by rw[Int.add_comm];exact W4 (m:Int) 1
  rw[e];exact⟨⟨jM m,Es.mpr (rO m)⟩,rN m⟩
theorem aJ0{m n l:Nat}(h:n-m=l)(hn:n<=l)(h0:¬l=0):m=0/\n=l:=by
 have e:=ND hn (h▸NI n m);exact⟨Nat.eq_zero_of_not_pos λq=>absurd (h.trans e.symm) (rP (W5 (aMv (e▸h0)) q)),e⟩
theorem EU(a n:Nat):max 0 (min (a:Int) (n:Int))=((min a n:Nat):Int):=by
 rcases W6 a n with h|h
 ·rw[vC h,Int.min_eq_left (zA.mpr h)];exact W7 (jM a)
 ·rw[Mk h,Int.min_eq_right (zA.mpr h)];exact W7 (jM n)
theorem aI1{a b:Nat}:(if(a:Int)<(b:Int) then(a:Int) else(b:Int))=((min b a:Nat):Int):=by
 split
 ·next h=>rw[Mk (eO (Es.mp h))]
 ·next h=>rw[vC (zA.mp (pG.mp h))]
theorem yA{x x':Int}{r r' m:Nat}(hr:r<m)(h:x<x'):x*m+r<x'*m+r':=
 Ml (Mm (Es.mpr hr) (x*m)) (rM (Su (by rw[V9,NG])) (rM (aMw (h) (jM m)) (Int.le_add_of_nonneg_right (jM r'))))
theorem C3{x x':Int}{r r' m:Nat}(hr:r'<m)(h:x<x'):x*m-r<x'*m-r':=
 Int.lt_of_le_of_lt (Int.sub_le_self _ (jM r)) (Int.lt_sub_right_of_add_lt (Ml (Mm (Es.mpr hr) (x*m)) (rM (Su (by rw[V9,NG])) (aMw (h) (jM m)))))
theorem Wh{x x' y y':Int}(f:x<x'->y<y')(g:x'<x->y'<y)(h:¬x=x'):x<x'↔y<y':=
 ⟨f,λq=>W1 λk=>absurd (g (W8.mpr ⟨k,λe=>h e.symm⟩)) (pG.mpr (zB q))⟩
theorem Xm{x x':Int}{r r' m:Nat}(hr:r<m)(tH:r'<m)(e:x*m+r=x'*m+r'):x=x'/\r=r':=by
 have h:=Sv (pG.mp λq=>NJ _ (e▸yA tH q)) (pG.mp λq=>NJ _ (e▸yA hr q));subst h;exact⟨rfl,Iq.mp (Int.add_left_cancel e)⟩
theorem Ye{r q:Nat}(h:r<64):(r+q*64)/64=q:=by rw[Nat.add_mul_div_right _ _ (by decide),W9 h,Bu]
theorem YT{a b:Nat}:2*(a:Int)<=2*(b:Int)↔a<=b:=
 ⟨λh=>zA.mp (Int.le_of_mul_le_mul_left h (by decide)),λh=>NK (zA.mpr h) (by decide)⟩
theorem jK{a k m:Nat}(h:a<=k)(e:Sq k m=true):a<=m:=fD h (NC e)
theorem Rc{a k m:Nat}(h:a=k)(e:Sq k m=true):a<=m:=jK (Io h) e
theorem Rb{a k m:Nat}(h:a=k)(e:Nat.blt m k=true):m<a:=h▸NC e
theorem wG{a b k:Nat}(h:a=k)(i:b<k):b<a:=h▸i
theorem Ra{a b:Nat}(h:a+1=b):a<b:=h▸rO a
theorem Bf{i:Int}{n:Nat}(h:i=n):0<=i:=h▸jM n
section
open PySem PySem.Calls PySem.W PyProof.Rows
theorem fA(h:a<=k)(e:Sq k 16777216=true):a<=eJ:=by rw[cU];exact jK h e
theorem Li(h:a=k)(e:Sq k 16777216=true):a<=eJ:=fA (Io h) e
theorem abs(h:∀(Q':α->aF->Prop) (E':aD->aF->Prop),(∀v s,Q v s->Q' v s)->(∀v s,E v s->E' v s)->aK (model prog w) A m Q' E' s):aK (model prog w) A m Q E s:=h Q E (λ_ _ x=>x) λ_ _ x=>x
section
variable {prog:iS} {w:iI} {A:bM} {α β:Type} {Q:α->aF->Prop} {E:aD->aF->Prop} {s:aF} {c:Prop} [Decidable c]
theorem uY(h:¬c)(k:aK (model prog w) A b Q E s):aK (model prog w) A (if c then a else b) Q E s:=by rw[if_neg h];exact k
theorem Hu(h:c)(k:aK (model prog w) A a Q E s):aK (model prog w) A (if c then a else b) Q E s:=by rw[if_pos h];exact k
theorem aQb(h:¬c)(k:aK (model prog w) A (b>>=f) Q E s):aK (model prog w) A ((if c then a else b)>>=f) Q E s:=by rw[if_neg h];exact k
theorem aQa(h:c)(k:aK (model prog w) A (a>>=f) Q E s):aK (model prog w) A ((if c then a else b)>>=f) Q E s:=by rw[if_pos h];exact k
end
noncomputable def Ks(vs:Array aD):fQ:={cls:=.none,data:=.fields vs}
noncomputable def dP(vs:Array aD)(n:Nat):fQ:={cls:=.type "list",dict:=none,data:=.seq vs n,slots:= #[]}
noncomputable def gA(vs:Array aD)(n:Nat):fQ:={cls:=.type "tuple",dict:=none,data:=.seq vs n,slots:= #[]}
def vS(o o':fQ):Prop:=∃es ep sO Bp,o.data=.dict es ep/\o'.data=.dict sO Bp/\(StrKeys es->StrKeys sO/\∀x,nsFind sO x=nsFind es x)
theorem vS.trans(x:vS o o')(y:vS o' uX):vS o uX:=by
 obtain⟨es,ep,sO,Bp,h1,h2,h3⟩:=x;obtain⟨fs,fp,Mf,iN,h4,h5,h6⟩:=y;rw[h2] at h4;cases h4;exact⟨es,ep,Mf,iN,h1,h5,λq=>by obtain⟨a,b⟩:=h3 q;obtain⟨c,d⟩:=h6 a;exact⟨c,λx=>(d x).trans (b x)⟩⟩
theorem vS.slots(h:∃es ep,o.data=.dict es ep)(sl:Array (Option aD)):vS o {o with slots:=sl}:=by obtain⟨es,ep,e⟩:=h;exact⟨es,ep,es,ep,e,e,λq=>⟨q,λ_=>rfl⟩⟩
def pU(base h':bH)(b:aH)(o:fQ):Prop:=h'.get? b=some o\/
 (base.get? b=none/\∃o',h'.get? b=some o'/\vS o o')\/
 (∃vs more,o=Ks vs/\(base.get? b≠none->isCodeTable base b)/\h'.get? b=some (Ks (vs++more)))
def Le(base h h':bH):Prop:=∀b o,h.get? b=some o->pU base h' b o
def eD(o:fQ):Prop:=(o.cls≠.none\/∃v,o.data=.cell v)/\∀es ep,o.data≠.dict es ep
theorem jX(h:o.cls=.type n)(hn:∀es ep,o.data≠.dict es ep):eD o:=⟨.inl (by rw[h];nofun),hn⟩
section
variable {base h h' nR:bH} {b:aH} {o:fQ}
theorem pU.trans(x:pU base h' b o)(y:∀o',h'.get? b=some o'->pU base nR b o'):pU base nR b o:=by
 rcases x with q|⟨hb,o',q,d⟩|⟨vs,more,rfl,hb,q⟩
 ·exact y o q
 ·rcases y o' q with r|⟨_,uX,r,d'⟩|⟨vs,more,rfl,_,_⟩
  ·exact .inr (.inl ⟨hb,o',r,d⟩)
  ·exact .inr (.inl ⟨hb,uX,r,d.trans d'⟩)
  ·obtain⟨_,_,_,_,_,e,_⟩:=d;cases e
 ·rcases y _ q with r|⟨_,uX,_,d⟩|⟨Az,aJ1,ho,_,r⟩
  ·exact .inr (.inr ⟨vs,more,rfl,hb,r⟩)
  ·obtain⟨_,_,_,_,e,_⟩:=d;cases e
  ·have:Az=vs++more:=by injection ho with _ _ h3 _;injection h3 with h4;exact h4.symm
   subst this;exact .inr (.inr ⟨vs,more++aJ1,rfl,hb,by rw[r,Array.append_assoc]⟩)
theorem pU.cM(x:pU base h' b o)(k:eD o):h'.get? b=some o:=by
 rcases x with q|⟨_,_,_,es,ep,_,_,hc,_⟩|⟨vs,more,rfl,_⟩
 ·exact q
 ·exact absurd hc (k.2 es ep)
 ·exact k.1.elim (λq=>absurd rfl q) λ⟨_,q⟩=>by cases q
def Xu(o:fQ):Prop:=eD o\/∃es ep,o.data=.dict es ep
def sZ(h h':bH)(b:aH):Prop:=∀o,h.get? b=some o->h'.get? b=some o\/∃o',h'.get? b=some o'/\vS o o'
theorem sZ.refl(h:bH)(b:aH):sZ h h b:=λ_ e=>.inl e
theorem sZ.then(x:sZ h h' b)(y:∀o,h'.get? b=some o->nR.get? b=some o\/∃o',nR.get? b=some o'/\vS o o'):sZ h nR b:=λo e=>by
 rcases x o e with q|⟨o',q,d⟩
 ·exact y o q
 ·rcases y o' q with r|⟨uX,r,d'⟩
  ·exact .inr ⟨o',r,d⟩
  ·exact .inr ⟨uX,r,d.trans d'⟩
theorem sZ.cM(x:sZ h h' b)(e:h.get? b=some o)(k:eD o):h'.get? b=some o:=by
 rcases x o e with q|⟨o',q,es,ep,_,_,hd,_⟩
 ·exact q
 ·exact absurd hd (k.2 es ep)
theorem pU.Dt(x:pU base h' b o)(k:Xu o):(h'.get? b=some o\/∃o',h'.get? b=some o'/\vS o o')/\∃o',h'.get? b=some o'/\Xu o':=by
 rcases x with q|⟨_,o',q,d⟩|⟨vs,more,rfl,_⟩
 ·exact⟨.inl q,o,q,k⟩
 ·obtain⟨_,_,sO,Bp,_,e,_⟩:=id d
  exact⟨.inr ⟨o',q,d⟩,o',q,.inr ⟨sO,Bp,e⟩⟩
 ·rcases k with k|⟨es,ep,e⟩
  ·exact k.1.elim (λq=>absurd rfl q) λ⟨_,q⟩=>by cases q
  ·cases e
theorem pU.there(x:pU base h' b o):∃o',h'.get? b=some o':=by
 rcases x with q|⟨_,_,q,_⟩|⟨_,_,_,_,q⟩<;>exact⟨_,q⟩
theorem pU.ns(x:pU base h' b o)(hd:o.data=.dict es ep)(hs:StrKeys es)(hm:∀x,nsFind es x=m x):h'.Ns b m:=by
 rcases x with q|⟨_,o',q,fs,fp,Mf,iN,e1,e2,e3⟩|⟨vs,more,rfl,_⟩
 ·exact⟨o,es,ep,q,hd,hs,hm⟩
 ·rw[hd] at e1;cases e1
  obtain⟨a,c⟩:=e3 hs;exact⟨o',Mf,iN,q,e2,a,λx=>(c x).trans (hm x)⟩
 ·cases hd
theorem pU.cell(x:pU base h' b o)(hd:o.data=.cell v):h'.IsCell b v:=by
 rcases x with q|⟨_,o',q,fs,fp,Mf,iN,e1,e2,e3⟩|⟨vs,more,rfl,_⟩
 ·exact⟨o,q,hd⟩
 ·rw[hd] at e1;cases e1
 ·cases hd
end
section
variable {base h h' nR:bH}
theorem Le.refl(base h:bH):Le base h h:=λ_ _ e=>.inl e
theorem Le.vJ(k:∀b o,h.get? b=some o->h'.get? b=some o):Le base h h':=λb o e=>.inl (k b o e)
theorem Le.trans(x:Le base h h')(y:Le base h' nR):Le base h nR:=λb o e=>(x b o e).trans (y b)
theorem Le.cM(x:Le base h h')(e:h.get? b=some o)(k:eD o):h'.get? b=some o:=(x b o e).cM k
theorem Le.there(x:Le base h h')(e:h.get? b=some o):∃o',h'.get? b=some o':=(x b o e).there
theorem Le.ns(x:Le base h h'){m}(n:h.Ns a m):h'.Ns a m:=by obtain⟨o,es,ep,ho,hd,hs,hm⟩:=n;exact(x a o ho).ns hd hs hm
theorem Le.uD(x:Le base h h')(n:h.IsCell c v):h'.IsCell c v:=by obtain⟨o,ho,hd⟩:=n;exact(x c o ho).cell hd
theorem Le.nolimit(x:Le base h h')(n:h.NoLimit):h'.NoLimit:=by obtain⟨mc,h1,h2⟩:=n;exact⟨mc,x.ns h1,h2⟩
theorem Le.aLe(x:Le base base h):OldK base h:=by
 refine⟨λb o e=>?_,λb o e=>x.there e⟩;rcases x b o e with q|⟨hb,_⟩|⟨vs,more,rfl,hb,q⟩
 ·exact .inl q
 ·rw[e] at hb;cases hb
 ·exact .inr (.inl ⟨hb (by rw[e];nofun),rfl,vs,more,rfl,q⟩)
theorem Le.push(o:fQ):Le base h (h.push o):=.vJ λ_ _ e=>eG o e
end
structure Im(a b:Array Ir):Prop where
 keep:∀(i:Nat) (x:Ir),a[i]?=some x->b[i]?=some x
 bare:Sw a->Sw b
theorem Im.refl(a:Array Ir):Im a a:=⟨λ_ _ e=>e,id⟩
theorem Im.trans(x:Im a b)(y:Im b c):Im a c:=⟨λi v e=>y.keep i v (x.keep i v e),y.bare∘x.bare⟩
structure oI(base:bH)(s s':aF):Prop where
 le:Le base s.heap s'.heap
 gens:Im s.gens s'.gens
 os:s'.os=s.os
theorem oI.refl(base:bH)(s:aF):oI base s s:=⟨.refl _ _,.refl _,rfl⟩
theorem oI.trans(x:oI base s s')(y:oI base s' dF):oI base s dF:=⟨x.le.trans y.le,x.gens.trans y.gens,y.os.trans x.os⟩
theorem oI.of(k:∀b o,s.heap.get? b=some o->h'.get? b=some o):oI base s {s with heap:=h',toks:=tk}:=⟨.vJ k,.refl _,rfl⟩
theorem oI.toks:oI base s {s with toks:=tk}:=⟨.refl _ _,.refl _,rfl⟩
noncomputable abbrev aT:=aH->Option fQ
def aT.Sub(g g':aT):Prop:=∀b o,g b=some o->g' b=some o
theorem aT.Sub.refl(g:aT):g.Sub g:=λ_ _ e=>e
theorem aT.Sub.trans{g g' eP:aT}(x:g.Sub g')(y:g'.Sub eP):g.Sub eP:=λb o e=>y b o (x b o e)
inductive AV where
 |none|bool (b:Bool)|int (i:Int)|str (s:aC)
 |cD (xs:List AV)|aO (xs:List AV)
 |fn (x:aC)
 |kO (a b c d:Int) (l:Bool)
 |mZ (k:Nat) (P:aT->aD->Prop)
noncomputable def yE(EC d:aH)(vs:List aD):fQ:={cls:=.ref EC,dict:=some d,data:=.seq vs.toArray 0,slots:= #[]}
structure BD where
 prog:iS
 w:iI
 base:bH
 mg:aC->Option aD
 mb:aC->Option aD
 EC:aH
 ns:base.Ns jU mg
 bi:base.Ns qM mb
 bt:∀x:aC,x≠"__name__"->mb x=AB x
 nolimit:base.NoLimit
 kK:List aH
 qual:aH->aC
 tabIn:∀b∈kK,base.get? b≠none
 oF:Nat->aD×aC
mutual
inductive VR(B:BD)(g:aT):aD->AV->Prop where
 |none:VR B g .none .none
 |bool (b:Bool):VR B g (.bool b) (.bool b)
 |int (i:Int) (t:jB):VR B g (.int i t) (.int i)
 |str (s:aC) (t:jB):VR B g (.str s t) (.str s)
 |cD {a:aH} {vs:List aD} {n:Nat} {xs:List AV}:g a=some (gA vs.toArray n)->bD B g vs xs->VR B g (.ref a) (.cD xs)
 |aO {a:aH} {vs:List aD} {n:Nat} {xs:List AV}:g a=some (dP vs.toArray n)->bD B g vs xs->VR B g (.ref a) (.aO xs)
 |fn {x:aC} {v:aD}:B.mg x=some v->VR B g v (.fn x)
 |kO {a dA:aH} {i j k l:Int} {t1 t2 t3 t4:jB} {b:Bool}:g a=some (yE B.EC dA [.int i t1,.int j t2,.int k t3,.int l t4,.bool b])->VR B g (.ref a) (.kO i j k l b)
 |mZ {v:aD} {k:Nat} {P:aT->aD->Prop}:(∀g',g.Sub g'->P g' v)->VR B g v (.mZ k P)
inductive bD(B:BD)(g:aT):List aD->List AV->Prop where
 |nil:bD B g [] []
 |cons {v:aD} {x:AV} {vs:List aD} {xs:List AV}:VR B g v x->bD B g vs xs->bD B g (v::vs) (x::xs)
end
def VRI(B:BD)(g:aT)(v:aD):AV->Prop
 |.none=>v=.none
 |.bool b=>v=.bool b
 |.int i=>∃t,v=.int i t
 |.str s=>∃t,v=.str s t
 |.cD xs=>∃(a:aH) (vs:List aD) (n:Nat),v=.ref a/\g a=some (gA vs.toArray n)/\bD B g vs xs
 |.aO xs=>∃(a:aH) (vs:List aD) (n:Nat),v=.ref a/\g a=some (dP vs.toArray n)/\bD B g vs xs
 |.fn x=>B.mg x=some v
 |.kO i j k l b=>∃(a dA:aH) (t1 t2 t3 t4:jB),v=.ref a/\g a=some (yE B.EC dA [.int i t1,.int j t2,.int k t3,.int l t4,.bool b])
 |.mZ _ P=>∀g',g.Sub g'->P g' v
theorem VR.bB(h:VR B g v x):VRI B g v x:=
 VR.rec (motive_2:=λ_ _ _=>True) rfl (λ_=>rfl) (λ_ t=>⟨t,rfl⟩) (λ_ t=>⟨t,rfl⟩) (λh r _=>⟨_,_,_,rfl,h,r⟩) (λh r _=>⟨_,_,_,rfl,h,r⟩) (λh=>h) (λh=>⟨_,_,_,_,_,_,rfl,h⟩) (λh=>h) trivial (λ_ _ _ _=>trivial) h
def aMo(B:BD)(g:aT)(vs:List aD):List AV->Prop
 |[]=>vs=[]
 |x::xs=>∃v r,vs=v::r/\VR B g v x/\bD B g r xs
theorem bD.bB(h:bD B g vs xs):aMo B g vs xs:=by
 cases h with
 |nil=>rfl
 |cons a r=>exact⟨_,_,rfl,a,r⟩
section
variable {B:BD} {g g':aT}
theorem VR.Xq{P:aD->AV->Prop}{Q:List aD->List AV->Prop}(h1:P .none .none)(h2:∀b,P (.bool b) (.bool b))(h3:∀i t,P (.int i t) (.int i))(h4:∀s t,P (.str s t) (.str s))
 (h5:∀{a:aH} {vs:List aD} {n:Nat} {xs:List AV},g a=some (gA vs.toArray n)->bD B g vs xs->Q vs xs->P (.ref a) (.cD xs))
 (h6:∀{a:aH} {vs:List aD} {n:Nat} {xs:List AV},g a=some (dP vs.toArray n)->bD B g vs xs->Q vs xs->P (.ref a) (.aO xs)) (h7:∀{x:aC} {v:aD},B.mg x=some v->P v (.fn x))
 (h8:∀{a dA:aH} {i j k l:Int} {t1 t2 t3 t4:jB} {b:Bool},g a=some (yE B.EC dA [.int i t1,.int j t2,.int k t3,.int l t4,.bool b])->P (.ref a) (.kO i j k l b))
 (h9:∀{v:aD} {k:Nat} {R:aT->aD->Prop},(∀g',g.Sub g'->R g' v)->P v (.mZ k R)) (n0:Q [] []) (c0:∀{v:aD} {x:AV} {vs:List aD} {xs:List AV},VR B g v x->bD B g vs xs->P v x->Q vs xs->Q (v::vs) (x::xs)):
 (∀{v:aD} {x:AV},VR B g v x->P v x)/\∀{vs:List aD} {xs:List AV},bD B g vs xs->Q vs xs:=
 ⟨λh=>VR.rec h1 h2 h3 h4 h5 h6 h7 h8 h9 n0 c0 h,λh=>bD.rec h1 h2 h3 h4 h5 h6 h7 h8 h9 n0 c0 h⟩
theorem VR.ZE(hs:g.Sub g'):(∀{v:aD} {x:AV},VR B g v x->VR B g' v x)/\∀{vs:List aD} {xs:List AV},bD B g vs xs->bD B g' vs xs:=
 VR.Xq .none .bool .int .str (λh _ r=>.cD (hs _ _ h) r) (λh _ r=>.aO (hs _ _ h) r) .fn (λh=>.kO (hs _ _ h)) (λh=>.mZ λeP k=>h eP (hs.trans k)) .nil λ_ _ h r=>.cons h r
theorem VR.mono(hs:g.Sub g')(h:VR B g v x):VR B g' v x:=(VR.ZE hs).1 h
theorem bD.mono(hs:g.Sub g')(h:bD B g vs xs):bD B g' vs xs:=(VR.ZE hs).2 h
theorem bD.length(h:bD B g vs xs):vs.length=xs.length:=by
 induction xs generalizing vs with
 |nil=>cases h;rfl
 |cons x xs ih=>cases h with|cons _ r=>simp[ih r]
theorem bD.append(h:bD B g vs xs)(h':bD B g Az iA):bD B g (vs++Az) (xs++iA):=by
 induction xs generalizing vs with
 |nil=>cases h;exact h'
 |cons x xs ih=>cases h with|cons a r=>exact .cons a (ih r)
theorem bD.get{vs:List aD}{xs:List AV}(h:bD B g vs xs){i:Nat}{x:AV}(e:xs[i]?=some x):∃v,vs[i]?=some v/\VR B g v x:=by
 induction xs generalizing vs i with
 |nil=>simp at e
 |cons y xs ih=>cases h with|cons a r=>cases i with
  |zero=>simp at e;subst e;exact⟨_,rfl,a⟩
  |succ i=>simpa using ih r (by simpa using e)
def Qg(B:BD)(g:aT)(b:aH)(ps:Array aD):Prop:=NL ps.toList/\∀pos cv,It pos ps.toList=some cv->∃c o vs t,cv=.ref c/\g c=some o/\o.data=.fields vs/\vs[1]?=some (.str (B.qual b) t)
theorem Qg.mono(x:Qg B g b ps)(h:g.Sub g'):Qg B g' b ps:=⟨x.1,λpos cv e=>by obtain⟨c,o,vs,t,h1,h2,h3⟩:=x.2 pos cv e;exact⟨c,o,vs,t,h1,h _ _ h2,h3⟩⟩
structure bI(B:BD)(g:aT)(h:bH):Prop where
 base:∀b o,B.base.get? b=some o->eD o->g b=some o
 sub:∀b o,g b=some o->h.get? b=some o/\eD o
 le:Le B.base B.base h
 kK:∀b∈B.kK,∃ps,h.get? b=some (Ks ps)/\Qg B g b ps
structure fU(h:bH)(g g':aT):Prop where
 sub:g.Sub g'
 new:∀b o,g' b=some o->g b=some o\/h.get? b=none
theorem fU.refl(h:bH)(g:aT):fU h g g:=⟨.refl g,λ_ _ e=>.inl e⟩
structure bT(B:BD)(s:aF)(g:aT)(s':aF)(g':aT):Prop where
 keep:oI B.base s s'
 ext:fU s.heap g g'
 ok:bI B g' s'.heap
theorem Le.none(x:Le base h h')(e:h'.get? b=none):h.get? b=none:=by
 cases q:h.get? b with
 |none=>rfl
 |some o=>obtain⟨o',r⟩:=x.there q;rw[e] at r;cases r
theorem bT.refl(k:bI B g s.heap):bT B s g s g:=⟨.refl _ _,.refl _ _,k⟩
theorem bT.trans{s s' dF:aF}{eP:aT}(x:bT B s g s' g')(y:bT B s' g' dF eP):bT B s g dF eP:=
 ⟨x.keep.trans y.keep,⟨x.ext.sub.trans y.ext.sub,λb o e=>by
  rcases y.ext.new b o e with q|q
  ·exact x.ext.new b o q
  ·exact .inr (x.keep.le.none q)⟩,y.ok⟩
theorem bI.at(k:bI B g h)(e:g b=some o):h.get? b=some o:=(k.sub b o e).1
theorem bI.Wk(k:bI B g h)(x:∀b o,h.get? b=some o->h'.get? b=some o):bI B g h':=⟨k.base,λb o e=>⟨x b o (k.sub b o e).1,(k.sub b o e).2⟩,k.le.trans (.vJ x),λb hb=>by obtain⟨ps,h1,h2⟩:=k.kK b hb;exact⟨ps,x _ _ h1,h2⟩⟩
theorem bI.jK(k:bI B g h)(x:Le B.base h h')(t:∀b∈B.kK,∀o,h.get? b=some o->h'.get? b=some o):bI B g h':=⟨k.base,λb o e=>⟨x.cM (k.sub b o e).1 (k.sub b o e).2,(k.sub b o e).2⟩,k.le.trans x,λb hb=>by obtain⟨ps,h1,h2⟩:=k.kK b hb;exact⟨ps,t b hb _ h1,h2⟩⟩
theorem bT.of(k:bI B g s.heap)(x:oI B.base s s')(t:∀b∈B.kK,∀o,s.heap.get? b=some o->s'.heap.get? b=some o):bT B s g s' g:=⟨x,.refl _ _,k.jK x.le t⟩
theorem bT.toks(k:bI B g s.heap):bT B s g {s with toks:=tk} g:=.of k .toks λ_ _ _ e=>e
noncomputable def aT.eF(g:aT)(a:aH)(o:fQ):aT:=λb=>if b=a then some o else g b
theorem aT.jY(g:aT)(a:aH)(o:fQ):g.eF a o a=some o:=if_pos rfl
theorem bI.fresh(k:bI B g h)(e:h.get? a=none):g a=none:=by
 cases q:g a with
 |none=>rfl
 |some o=>rw[k.at q] at e;cases e
theorem bI.eF(k:bI B g h)(e:g a=none)(e':h.get? a=some o)(ho:eD o):bI B (g.eF a o) h:=by
 refine⟨λb o' q r=>?_,λb o' q=>?_,k.le,λb hb=>by obtain⟨ps,h1,h2⟩:=k.kK b hb;exact⟨ps,h1,h2.mono λd o' q=>by
  show(if d=a then some o else g d)=some o'
  by_cases hd:d=a
  ·subst hd;rw[e] at q;cases q
  ·rw[if_neg hd];exact q⟩⟩
 ·have:=k.base b o' q r
  show(if b=a then some o else g b)=some o'
  by_cases hb:b=a
  ·subst hb;rw[e] at this;cases this
  ·rw[if_neg hb];exact this
 ·have q:(if b=a then some o else g b)=some o':=q
  by_cases hb:b=a
  ·subst hb;rw[if_pos rfl] at q;cases q;exact⟨e',ho⟩
  ·rw[if_neg hb] at q;exact k.sub b o' q
theorem fU.eF(o:fQ)(e:g a=none)(e':h.get? a=none):fU h g (g.eF a o):=by
 refine⟨λb o' q=>?_,λb o' q=>?_⟩
 ·show(if b=a then some o else g b)=some o'
  by_cases hb:b=a
  ·subst hb;rw[e] at q;cases q
  ·rw[if_neg hb];exact q
 ·have q:(if b=a then some o else g b)=some o':=q
  by_cases hb:b=a
  ·subst hb;exact .inr e'
  ·rw[if_neg hb] at q;exact .inl q
theorem bH.jN(h:bH):h.get? h.objs.size=none:=by
 cases q:h.get? h.objs.size with
 |none=>rfl
 |some o=>exact absurd (gS q) (sR _)
theorem bT.push(k:bI B g s.heap)(o:fQ)(ho:eD o)(hf:o.isFreed=false):
 bT B s g {s with heap:=s.heap.push o} (g.eF s.heap.objs.size o):=by
 have e:=bH.jN s.heap;have e1:=k.fresh e;refine⟨⟨.push o,.refl _,rfl⟩,.eF o e1 e,?_⟩;exact(k.Wk λ_ _ e=>eG o e).eF e1 (gU _ hf) ho
theorem bT.tE(k:bI B g s.heap)(o:fQ):bT B s g {s with heap:=s.heap.push o} g:=.of k ⟨.push o,.refl _,rfl⟩ λ_ _ _ e=>eG o e
end
inductive LV where
 |val (av:AV)|own (xs:List AV)
noncomputable abbrev aU:=List (aC×LV)
section
variable {B:BD} {g g':aT} {h h':bH}
def Gv(B:BD)(h:bH)(g:aT)(v:aD)(xs:List AV):Prop:=∃a vs n,v=.ref a/\h.get? a=some (dP vs n)/\bD B g vs.toList xs
def eW(B:BD)(h:bH)(g:aT)(v:aD):LV->Prop
 |.val av=>VR B g v av
 |.own xs=>Gv B h g v xs
theorem jE{vs n}:eD (dP vs n):=jX rfl (by nofun)
theorem Gf{vs n}:eD (gA vs n):=jX rfl (by nofun)
theorem Gv.mono(x:Gv B h g v xs)(l:Le B.base h h')(e:g.Sub g'):Gv B h' g' v xs:=
 let⟨a,vs,n,hv,ho,r⟩:=x;⟨a,vs,n,hv,l.cM ho jE,r.mono e⟩
theorem eW.mono(x:eW B h g v lv)(l:Le B.base h h')(e:g.Sub g'):eW B h' g' v lv:=by
 cases lv with
 |val av=>exact VR.mono e x
 |own xs=>exact Gv.mono x l e
theorem VR.oQ(k:bI B g h)(x:VR B g v (.aO xs)):Gv B h g v xs:=by
 obtain⟨_,_,_,rfl,e,r⟩:=VR.bB x;exact⟨_,_,_,rfl,k.at e,by simpa using r⟩
inductive fW(B:BD)(h:bH)(g:aT):List aD->List LV->Prop where
 |nil:fW B h g [] []
 |cons {v:aD} {x:LV} {vs:List aD} {xs:List LV}:eW B h g v x->fW B h g vs xs->fW B h g (v::vs) (x::xs)
theorem fW.mono(x:fW B h g vs xs)(l:Le B.base h h')(e:g.Sub g'):fW B h' g' vs xs:=by
 induction x with
 |nil=>exact .nil
 |cons a _ ih=>exact .cons (a.mono l e) ih
structure Qi(B:BD)(h:bH)(g:aT)(aA:bO)(vars:aU):Prop where
 kind:aA.scope.kind=.function
 eH:aA.globals=jU
 blt:aA.builtins=qM
 dX:∃m,h.Ns aA.locals m/\∀x lv,vars.lookup x=some lv->aA.kindOf x=some .local->∃v,m x=some v/\eW B h g v lv
 gH:∀x lv,vars.lookup x=some lv->(aA.kindOf x=some .cell\/aA.kindOf x=some .free)->∃c v,aA.cells.lookup x=some c/\h.IsCell c (some v)/\eW B h g v lv
theorem Qi.mono(x:Qi B h g aA vars)(l:Le B.base h h')(e:g.Sub g'):Qi B h' g' aA vars where
 kind:=x.kind
 eH:=x.eH
 blt:=x.blt
 dX:=by obtain⟨m,n,r⟩:=x.dX;exact⟨m,l.ns n,λy lv h1 h2=>by obtain⟨v,h3,h4⟩:=r y lv h1 h2;exact⟨v,h3,h4.mono l e⟩⟩
 gH:=λy lv h1 h2=>by obtain⟨c,v,h3,h4,h5⟩:=x.gH y lv h1 h2;exact⟨c,v,h3,l.uD h4,h5.mono l e⟩
def kD(B:BD)(h:bH)(l:List bO):Prop:=∀e∈l,e.scope.kind≠.module/\∃L m,e.frame=some L/\B.base.get? L=none/\h.Ns L m
theorem kD.mono(x:kD B h l)(k:Le B.base h h'):kD B h' l:=λe he=>by
 obtain⟨a,L,m,h1,h2,h3⟩:=x e he;exact⟨a,L,m,h1,h2,k.ns h3⟩
structure dS(B:BD)(k:Nat)(A:bM)(h:bH):Prop where
 handled:A.handled=none
 depth:A.depth+k<Iu
 units:A.units+40*k<cLine
 frames:∃e eB,A.frames=some (e::eB)/\kD B h (e::eB)
variable {k k':Nat} {A:bM}
theorem dS.mono(x:dS B k A h)(l:Le B.base h h'):dS B k A h':=⟨x.handled,x.depth,x.units,by obtain⟨e,o,a,b⟩:=x.frames;exact⟨e,o,a,b.mono l⟩⟩
theorem dS.le(x:dS B k A h)(hk:k'<=k):dS B k' A h:=⟨x.handled,by have:=x.depth;exact bV (aG [_,_,_,_] [.l .x .y,.l (.u (.a .z .y)) .w,.l .w (.a .z .x)] rfl hk this),by have:=x.units;exact bV (aG [_,_,_,_] [.L 40 .x .y,.l (.u (.a .z (.m 40 .y))) .w,.l .w (.a .z (.m 40 .x))] rfl hk this),x.frames⟩
theorem dS.YI(x:dS B k A h):A.depth<Iu:=by have:=x.depth;exact bV (aG [_,_,_] [.l (.u (.a .x .y)) .z,.l .z .x] rfl this)
theorem dS.in1(x:dS B (k+1) A h):dS B k A.in1 h:=⟨x.handled,by have:=x.depth;show A.depth+k<Iu;exact bV (aG [_,_,_] [.l (.u (.a .x (.u .y))) .z,.l .z (.a .x .y)] rfl this),by have:=x.units;show A.units+1+40*k<cLine;exact bV (aG [_,_,_] [.l (.u (.a .x (.m 40 (.u .y)))) .z,.l .z (.a (.u .x) (.m 40 .y))] rfl this),x.frames⟩
noncomputable def nJ(sc:bR):Option Nat:=if(sc.names.lookup ("script":aC)).isSome then some 25 else if(sc.names.lookup ("octets":aC)).isSome then some 21 else none
structure SR(B:BD)(aA:bO)(sc:bR):Prop where
 names:∀x kd,sc.names.lookup x=some kd->aA.kindOf x=some kd\/(kd=.free/\aA.kindOf x=some .cell)
 nP:∀q,nJ sc=some q->aA.code=(B.oF q).1/\aA.qual=(B.oF q).2
structure iQ(B:BD)(k:Nat)(A:bM)(sc:bR)(vars:aU)(aA:bO)(g:aT)(s:aF):Prop where
 room:dS B k A s.heap
 sr:SR B aA sc
 aA:Qi B s.heap g aA vars
 ok:bI B g s.heap
variable {sc:bR} {vars:aU} {aA:bO} {s s':aF}
theorem iQ.post(x:iQ B k A sc vars aA g s)(y:bT B s g s' g'):iQ B k A sc vars aA g' s':=
 ⟨x.room.mono y.keep.le,x.sr,x.aA.mono y.keep.le y.ext.sub,y.ok⟩
end
noncomputable abbrev aW(B:BD):=model B.prog B.w
def aB(B:BD)(k:Nat)(sc:bR)(vars:aU)(e:bJ)(r:AV):Prop:=
 ∀(A:bM) (aA:bO) (g:aT) (s:aF) (Q:aD->aF->Prop) (E:aD->aF->Prop),iQ B k A sc vars aA g s->
  (∀v s' g',bT B s g s' g'->VR B g' v r->Q v s')->aK (aW B) A (eval e aA) Q E s
def gQ(B:BD)(k:Nat)(sc:bR)(vars:aU)(e:bJ)(r:LV):Prop:=
 ∀(A:bM) (aA:bO) (g:aT) (s:aF) (Q:aD->aF->Prop) (E:aD->aF->Prop),iQ B k A sc vars aA g s->
  (∀v s' g',bT B s g s' g'->eW B s'.heap g' v r->Q v s')->aK (aW B) A (eval e aA) Q E s
def bA(B:BD)(k:Nat)(sc:bR)(vars:aU)(e:bJ)(b:Bool):Prop:=
 ∀(A:bM) (aA:bO) (g:aT) (s:aF) (Q:Bool->aF->Prop) (E:aD->aF->Prop),iQ B k A sc vars aA g s->
  (∀s' g',bT B s g s' g'->Q b s')->aK (aW B) A (isTrue e aA (eval e aA)) Q E s
def aZ(B:BD)(k:Nat)(sc:bR)(vars:aU)(es:List bJ)(rs:List LV):Prop:=
 ∀(A:bM) (aA:bO) (g:aT) (s:aF) (pos:dI) (Q:List aD->aF->Prop) (E:aD->aF->Prop),iQ B k A sc vars aA g s->
  (∀vs s' g',bT B s g s' g'->fW B s'.heap g' vs rs->Q vs s')->aK (aW B) A (spliced (kQ pos (iT es aA))) Q E s
def cA(B:BD)(k:Nat)(op:Operator)(x y:LV)(r:AV):Prop:=
 ∀(A:bM) (g:aT) (s:aF) (v w:aD) (Q:aD->aF->Prop) (E:aD->aF->Prop),dS B k A s.heap->bI B g s.heap->eW B s.heap g v x->eW B s.heap g w y->
  (∀v s' g',bT B s g s' g'->VR B g' v r->Q v s')->aK (aW B) A (binaryOp op v w) Q E s
def bG(B:BD)(k:Nat)(op:CmpOp)(x y:LV)(b:Bool):Prop:=
 ∀(A:bM) (g:aT) (s:aF) (v w:aD) (Q:aD->aF->Prop) (E:aD->aF->Prop),dS B k A s.heap->bI B g s.heap->eW B s.heap g v x->eW B s.heap g w y->
  (∀s' g',bT B s g s' g'->Q (.bool b) s')->aK (aW B) A (compareOp op v w) Q E s
def tG(B:BD)(op:UnaryOp)(x:AV)(r:AV):Prop:=
 ∀(A:bM) (g:aT) (s:aF) (v:aD) (Q:aD->aF->Prop) (E:aD->aF->Prop),bI B g s.heap->VR B g v x->
  (∀v s' g',bT B s g s' g'->VR B g' v r->Q v s')->aK (aW B) A (unaryOp op v) Q E s
def lR(B:BD)(k:Nat)(x:LV)(b:Bool):Prop:=
 ∀(A:bM) (g:aT) (s:aF) (v:aD) (Q:Bool->aF->Prop) (E:aD->aF->Prop),dS B k A s.heap->bI B g s.heap->eW B s.heap g v x->
  (∀s' g',bT B s g s' g'->Q b s')->aK (aW B) A (truthy v) Q E s
def cJ(B:BD)(k:Nat)(f:aD)(args:List LV)(r:AV):Prop:=
 ∀(A:bM) (g:aT) (s:aF) (vs:List aD) (Q:aD->aF->Prop) (E:aD->aF->Prop),dS B k A s.heap->bI B g s.heap->fW B s.heap g vs args->
  (∀v s' g',bT B s g s' g'->VR B g' v r->Q v s')->aK (aW B) A (call f vs) Q E s
section
variable {B:BD} {k:Nat} {sc:bR} {vars:aU}
theorem aB.ar(h:aB B k sc vars e r):gQ B k sc vars e (.val r):=h
theorem aB.cC:aB B k sc vars (.Constant (.int i) n p) (.int i):=λ_ _ _ _ _ _ P K=>
 aMx (K _ _ _ (.toks P.ok) (.int _ _))
theorem aB.As:aB B k sc vars (.Constant (.str x) n p) (.str x):=λ_ _ _ _ _ _ P K=>
 NM (K _ _ _ (.toks P.ok) (.str _ _))
theorem aB.sE:aB B k sc vars (.Constant .none n p) .none:=λ_ _ _ _ _ _ P K=>
 wpAny_Constant_none (K _ _ _ (.refl P.ok) .none)
theorem aB.tC:aB B k sc vars (.Constant (.bool b) n p) (.bool b):=λ_ _ _ _ _ _ P K=>
 X0 (K _ _ _ (.refl P.ok) (.bool b))
structure fP(sc:bR)(vars:aU)(x:aC)(r:LV):Prop where
 kind:sc.names.lookup x=some .local\/sc.names.lookup x=some .cell\/sc.names.lookup x=some .free
 var:vars.lookup x=some r
 rL:(x==("__debug__":aC))=false
 MT:(x==("__classdict__":aC))=false
theorem fP.load(n:fP sc vars x r)(P:iQ B k A sc vars aA g s)(K:∀v,eW B s.heap g v r->Q v s):
 aK (aW B) A (loadName aA x) Q E s:=by
 have cell:(aA.kindOf x=some .cell\/aA.kindOf x=some .free)->aK (aW B) A (loadName aA x) Q E s:=λq=>by
  obtain⟨c,v,h1,h2,h3⟩:=P.aA.gH x r n.var q;rcases q with q|q
  ·exact aMy P.aA.kind q h1 h2 (K v h3)
  ·exact aMz P.aA.kind q h1 h2 (K v h3) n.MT
 rcases n.kind with hk|hk|hk
 ·rcases P.sr.names x _ hk with q|⟨q,_⟩
  ·obtain⟨m,n',r'⟩:=P.aA.dX
   obtain⟨v,h1,h2⟩:=r' x r n.var q;exact NN P.aA.kind q n' h1 (K v h2)
  ·cases q
 ·rcases P.sr.names x _ hk with q|⟨q,_⟩
  ·exact cell (.inl q)
  ·cases q
 ·rcases P.sr.names x _ hk with q|⟨_,q⟩
  ·exact cell (.inr q)
  ·exact cell (.inl q)
theorem aB.name(n:fP sc vars x r):gQ B k sc vars (.Name x p) r:=by
 intro A aA g s Q E P K;exact NO (n.load P λv q=>K _ _ _ (.refl P.ok) q) n.rL
theorem Cj(hk:sc.names.lookup x=some .globalImplicit)(hv:B.mg x=some v)(hd:(x==("__debug__":aC))=false)
 (P:iQ B k A sc vars aA g s) (K:Q v s):aK (aW B) A (eval (.Name x p) aA) Q E s:=by
 have q:=(P.sr.names x _ hk).elim id λq=>by cases q.1
 refine NP P.aA.kind q ?_ hd;refine loadGlobal_global ?_ hv K;rw[P.aA.eH];exact P.ok.le.ns B.ns
theorem Us(hk:sc.names.lookup x=some .globalImplicit)(hv:B.mg x=none)(hb:AB x=some v)(hd:(x==("__debug__":aC))=false)(hn:x≠"__name__")
 (P:iQ B k A sc vars aA g s) (K:Q v s):aK (aW B) A (eval (.Name x p) aA) Q E s:=by
 have q:=(P.sr.names x _ hk).elim id λq=>by cases q.1
 refine NP P.aA.kind q ?_ hd;refine X4 ?_ hv ?_ ((B.bt x hn).trans hb) K
 ·rw[P.aA.eH];exact P.ok.le.ns B.ns
 ·rw[P.aA.blt];exact P.ok.le.ns B.bi
theorem aB.F7(hk:sc.names.lookup x=some .globalImplicit)(hv:B.mg x=some (.str t u))(hd:(x==("__debug__":aC))=false):aB B k sc vars (.Name x p) (.str t):=
 λ_ _ _ _ _ _ P K=>Cj hk hv hd P (K _ _ _ (.refl P.ok) (.str _ _))
theorem aB.dB(hl:gQ B k sc vars l x)(hr:gQ B k sc vars r y)(ho:cA B k op x y z):aB B k sc vars (.BinOp l op r p) z:=by
 intro A aA g s Q E P K;refine NQ (hl A aA g s _ E P λv s' g' X hv=>hr A aA g' s' _ E (P.post X) λw dF eP Y hw=>?_);exact ho A eP dF v w Q E ((P.room.mono X.keep.le).mono Y.keep.le) Y.ok (hv.mono Y.keep.le Y.ext.sub) hw λu t gt Z hu=>K u t gt ((X.trans Y).trans Z) hu
theorem aB.un(hl:aB B k sc vars l x)(ho:tG B op x z):aB B k sc vars (.UnaryOp op l p) z:=by
 intro A aA g s Q E P K;refine wpAny_UnaryOp (hl A aA g s _ E P λv s' g' X hv=>?_);exact ho A g' s' v Q E X.ok hv λu t gt Z hu=>K u t gt (X.trans Z) hu
theorem aB.cZ(hl:gQ B k sc vars l x)(hr:gQ B k sc vars r y)(ho:bG B k op x y b)(hm:behindInMarks op r=false):aB B k sc vars (.Compare l [op] [r] p) (.bool b):=by
 intro A aA g s Q E P K;refine wpAny_Compare1 (hl A aA g s _ E P λv s' g' X hv=>hr A aA g' s' _ E (P.post X) λw dF eP Y hw=>?_) hm;exact ho A eP dF v w Q E ((P.room.mono X.keep.le).mono Y.keep.le) Y.ok (hv.mono Y.keep.le Y.ext.sub) hw λt gt Z=>K _ t gt ((X.trans Y).trans Z) (.bool b)
theorem bA.cZ(hl:gQ B k sc vars l x)(hr:gQ B k sc vars r y)(ho:bG B k op x y b)(hm:behindInMarks op r=false):bA B k sc vars (.Compare l [op] [r] p) b:=by
 intro A aA g s Q E P K;refine aM0 (hl A aA g s _ E P λv s' g' X hv=>hr A aA g' s' _ E (P.post X) λw dF eP Y hw=>?_) hm;refine ho A eP dF v w _ E ((P.room.mono X.keep.le).mono Y.keep.le) Y.ok (hv.mono Y.keep.le Y.ext.sub) hw λt gt Z=>?_;exact NR (K t gt ((X.trans Y).trans Z))
theorem bA.not(h:bA B k sc vars x b):bA B k sc vars (.UnaryOp .Not x p) (!b):=by
 intro A aA g s Q E P K;exact wpAny_isTrue_Not (h A aA g s _ E P λs' g' X=>K s' g' X)
theorem bA.val(h:gQ B k sc vars e x)(ht:lR B k x b)(he:∀aA YS,isTrue e aA YS=(do let v <-YS;Iv e.pos;holding [v] (truthy v))):bA B k sc vars e b:=by
 intro A aA g s Q E P K;refine aM1 (h A aA g s _ E P λv s' g' X hv=>?_) (he _ _);exact ht A g' s' v Q E (P.room.mono X.keep.le) X.ok hv λt gt Z=>K t gt (X.trans Z)
def iZ(B:BD)(k:Nat)(sc:bR)(vars:aU)(op:BoolOp)(es:List bJ)(b:Bool):Prop:=
 ∀(A:bM) (aA:bO) (g:aT) (s:aF) (Q:Bool->aF->Prop) (E:aD->aF->Prop),iQ B k A sc vars aA g s->
  (∀s' g',bT B s g s' g'->Q b s')->aK (aW B) A (allTrue op es aA) Q E s
theorem iZ.aJl:iZ B k sc vars .And [] true:=λ_ _ _ _ _ _ P K=>wpAny_allTrue_And_nil (K _ _ (.refl P.ok))
theorem iZ.aJx:iZ B k sc vars .Or [] false:=λ_ _ _ _ _ _ P K=>wpAny_allTrue_Or_nil (K _ _ (.refl P.ok))
theorem iZ.G7(h:bA B k sc vars x false):iZ B k sc vars .And (x::r) false:=λA aA g s Q E P K=>
 aM2 (h A aA g s _ E P λs' g' X=>K s' g' X)
theorem iZ.IM(h:bA B k sc vars x true)(h':iZ B k sc vars .And r b):iZ B k sc vars .And (x::r) b:=λA aA g s Q E P K=>
 aM2 (h A aA g s _ E P λs' g' X=>h' A aA g' s' Q E (P.post X) λdF eP Y=>K dF eP (X.trans Y))
theorem iZ.L8(h:bA B k sc vars x true):iZ B k sc vars .Or (x::r) true:=λA aA g s Q E P K=>
 aM3 (h A aA g s _ E P λs' g' X=>K s' g' X)
theorem iZ.JR(h:bA B k sc vars x false)(h':iZ B k sc vars .Or r b):iZ B k sc vars .Or (x::r) b:=λA aA g s Q E P K=>
 aM3 (h A aA g s _ E P λs' g' X=>h' A aA g' s' Q E (P.post X) λdF eP Y=>K dF eP (X.trans Y))
theorem bA.vL(h:iZ B k sc vars op es b):bA B k sc vars (.BoolOp op es p) b:=λA aA g s Q E P K=>
 wpAny_isTrue_BoolOp (h A aA g s Q E P K)
theorem gQ.ite(ht:bA B k sc vars t b)(h:gQ B k sc vars (if b then x else y) r):gQ B k sc vars (.IfExp t x y p) r:=by
 intro A aA g s Q E P K;refine wpAny_IfExp (ht A aA g s _ E P λs' g' X=>?_);cases b with
 |true=>exact h A aA g' s' Q E (P.post X) λv t gt Y hv=>K v t gt (X.trans Y) hv
 |false=>exact h A aA g' s' Q E (P.post X) λv t gt Y hv=>K v t gt (X.trans Y) hv
theorem aZ.nil:aZ B k sc vars [] []:=λ_ _ _ _ _ _ _ P K=>AD (K _ _ _ (.refl P.ok) .nil)
theorem aZ.cons(h:gQ B k sc vars e r)(hs:aZ B k sc vars es rs)(he:∀aA,iT (e::es) aA=(false,eval e aA)::iT es aA):aZ B k sc vars (e::es) (r::rs):=
 λA aA g s pos Q E P K=>Et (h A aA g s _ E P λv s' g' X hv=>hs A aA g' s' pos _ E (P.post X) λvs dF eP Y bF=>
  K _ dF eP (X.trans Y) (.cons (hv.mono Y.keep.le Y.ext.sub) bF)) (he aA)
theorem fW.Wx(x:fW B h g vs (xs.map .val)):bD B g vs xs:=by
 induction xs generalizing vs with
 |nil=>cases x;exact .nil
 |cons y ys ih=>cases x with|cons a r=>exact .cons a (ih r)
theorem fW.length(x:fW B h g vs xs):vs.length=xs.length:=by
 induction x with
 |nil=>rfl
 |cons _ _ ih=>simp[ih]
theorem aB.cD(h:aZ B k sc vars es (xs.map .val))(hn:xs.length<=eJ):aB B k sc vars (.Tuple es n p) (.cD xs):=by
 intro A aA g s Q E P K;refine X5 (h A aA g s p _ E P λvs s' g' X hv=>?_);refine⟨by have:=hv.length;simp at this;exact aV (aG [_,_,_] [.l .x .y,.e .z .x,.l (.u .y) .z] rfl hn this),?_⟩;have Z:=bT.push X.ok (gA vs.toArray 0) Gf rfl;exact K _ _ _ (X.trans Z) (.cD (aT.jY _ _ _) (hv.Wx.mono Z.ext.sub))
theorem aB.aO(h:aZ B k sc vars es (xs.map .val))(hn:xs.length<=eJ):aB B k sc vars (.List es p) (.aO xs):=by
 intro A aA g s Q E P K;refine wpAny_List (h A aA g s p _ E P λvs s' g' X hv=>?_);refine⟨by have:=hv.length;simp at this;exact aV (aG [_,_,_] [.l .x .y,.e .z .x,.l (.u .y) .z] rfl hn this),?_⟩;have Z:=bT.push X.ok (dP vs.toArray 0) jE rfl;exact K _ _ _ (X.trans Z) (.aO (aT.jY _ _ _) (hv.Wx.mono Z.ext.sub))
end
end
section
open PySem PySem.Calls PySem.W PyProof.Rows PySem.SeqAt
noncomputable def EL(i:Nat):Option dE:=vD.main.body[i]?
noncomputable def Qn:dE->List dE×Option bR×Option bJ
 |.FunctionDef _ _ body _ _ _ scope _ _ _=>(body,some scope,none)
 |.ClassDef _ _ _ body _ _ _ _ _ _ _=>(body,none,none)
 |.For _ _ b _ _=>(b,none,none)
 |.Assign _ e _=>([],none,some e)
 |_=>([],none,none)
noncomputable def Zp:Option dE->List dE×bR
 |some s=>((Qn s).1,(Qn s).2.1.getD {kind:=.module,names:=[],isGenerator:=false,isCoroutine:=false,more:=[]})
 |none=>([],{kind:=.module,names:=[],isGenerator:=false,isCoroutine:=false,more:=[]})
noncomputable def cH(i:Nat):List dE:=(Zp (EL i)).1
noncomputable def bQ(i:Nat):bR:=(Zp (EL i)).2
noncomputable def XQ(i j:Nat):Option dE:=match EL i with
 |some s=>(Qn s).1[j]?
 |none=>none
noncomputable def xN(i j:Nat):List dE:=(Zp (XQ i j)).1
noncomputable def Cm(i j:Nat):bR:=(Zp (XQ i j)).2
noncomputable def XO(o:fQ):Bool:=match o.cls,o.data with|.none,.fields _=>false|_,_=>true
section
set_option tactic.hygienic true
noncomputable def aI5:List aH:=[2,3,4,36,42,43,59,60,81,82,123,124,126,127,129,130,132,133,135,136,140,141,142,153,154,163,164,170,171,172,173,179,180,181,182,188,189,190,191,197,198,199,200,206,207,213,214,220,221,227,228,234,235,241,242,246,247,251,252,256,257,261,262,266,267]
noncomputable def FA(h:bH):fB:=aI5.filterMap λa=>(h.get? a).map λo=>(a,o)
theorem aDg(h:bH):(FA h).In h:=by
 intro a o e
 have m:(a,o)∈FA h:=by
  obtain⟨l1,l2,e1,_⟩:=aM4.mp e;rw[e1];simp
 obtain⟨b,_,hb⟩:=Mn.mp m;obtain⟨o',h1,h2⟩:=Eu.mp hb;cases h2;exact h1
noncomputable def Cy(i:Nat):aD×aC:=if i=25 then(.ref 266,"law.<locals>.") else(.ref 246,"_law_entries.<locals>.")
noncomputable def Du(K:fB)(a:aH):Option mF:=match K.lookup a with
 |some ⟨_,_,.func fd,_⟩=>some fd
 |_=>none
noncomputable def GJ(K:fB)(fd:mF):Bool:=match fd.code with
 |.ref c=>(match K.lookup c with
  |some ⟨cl,_,.fields vs,_⟩=>(match (vs[1]?:Option aD) with|some (.str q _)=>q==fd.qualname|_=>false)&& !(cl==nG)
  |_=>false)
 |_=>false
noncomputable def ZH(fd:mF):Bool:=match nJ fd.scope with
 |none=>true
 |some q=>fd.code==(Cy q).1&&fd.qualname++".<locals>."==(Cy q).2
noncomputable def Se(K:fB)(gen:Bool)(a:aH):Bool:=match K.lookup a with
 |some ⟨cl,_,.func fd,_⟩=> !(cl==nG)&&GJ K fd&&fd.globals==jU&&fd.builtins==qM&&fd.closure.isEmpty&&fd.scope.isGenerator==gen&& !fd.scope.isCoroutine&&ZH fd
 |_=>false
noncomputable def Qp(sc:bR):Bool:=decide (sc.kind=.function)&&decide ((sc.names.map (·.1)).Nodup)&&sc.names.all λp=> !(decide (p.2=.free))
theorem aEn{sc:bR}(h:sc.names.all (λp=> !(decide (p.2=.free)))=true):∀x,(x,mG)∉sc.names:=λx hx=>by
 have:=tO.mp h _ hx;simp at this
structure Ws(B:BD)(gen:Bool)(a:aH)(fd:mF):Prop where
 obj:∃o,B.base.get? a=some o/\o.data=.func fd/\o.cls≠.none
 sH:∃c o vs t,fd.code=.ref c/\B.base.get? c=some o/\o.data=.fields vs/\vs[1]?=some (.str fd.qualname t)/\o.cls≠.none
 co:fd.scope.isCoroutine=false
 gen:fd.scope.isGenerator=gen
 eH:fd.globals=jU
 blt:fd.builtins=qM
 iP:fd.closure=[]
 nP:∀q,nJ fd.scope=some q->fd.code=(B.oF q).1/\fd.qualname++".<locals>."=(B.oF q).2
theorem aGc{K:fB}{h:bH}(X:K.In h){fd:mF}(e:GJ K fd=true):∃c o vs t,fd.code=.ref c/\h.get? c=some o/\o.data=.fields vs/\vs[1]?=some (.str fd.qualname t)/\o.cls≠.none:=by
 unfold GJ at e;cases hc:fd.code with
 |ref c=>
  rw[hc] at e;dsimp only at e;cases hk:K.lookup c with
  |none=>rw[hk] at e;cases e
  |some o=>
   obtain⟨cl,d,da,sl⟩:=o;rw[hk] at e;cases da with
   |fields vs=>
    obtain⟨e1,e2⟩:=sS.mp e;cases hq:vs[1]? with
    |none=>rw[hq] at e1;cases e1
    |some v=>
     rw[hq] at e1;cases v with
     |str q t=>
      refine⟨c,_,vs,t,rfl,X _ _ hk,rfl,by rw[hq,gX e1],λq=>?_⟩;subst q;exact absurd e2 (by decide)
     |_=>cases e1
   |_=>cases e
 |_=>rw[hc] at e;cases e
theorem aI9{K:fB}{B:BD}(X:K.In B.base)(hl:B.oF=Cy){g:Bool}{a:aH}(e:Se K g a=true):∃fd,Du K a=some fd/\Ws B g a fd:=by
 unfold Se at e;cases hk:K.lookup a with
 |none=>rw[hk] at e;cases e
 |some o=>
  obtain⟨cl,d,da,sl⟩:=o;rw[hk] at e;cases da with
  |func fd=>
   obtain⟨e,e8⟩:=band e;obtain⟨e,e7⟩:=band e;obtain⟨e,e6⟩:=band e;obtain⟨e,e5⟩:=band e;obtain⟨e,e4⟩:=band e;obtain⟨e,e3⟩:=band e;obtain⟨e1,e2⟩:=band e;refine⟨fd,by unfold Du;rw[hk],⟨_,X _ _ hk,rfl,λq=>?_⟩,aGc X e2,?_,gX e6,gX e3,gX e4,List.isEmpty_iff.mp e5,λq hq=>?_⟩
   ·rw[show cl=nG from q] at e1;exact absurd e1 (by decide)
   ·exact(tP _).mp e7
   ·unfold ZH at e8
    rw[hq] at e8;obtain⟨f1,f2⟩:=band e8;rw[hl];exact⟨gX f1,gX f2⟩
  |_=>cases e
noncomputable def MN(K:fB)(a:aH):Option (Sx×bR):=(Du K a).map λfd=>(fd.body,fd.scope)
noncomputable def wV(L K:fB)(a:aH)(S:rQ)(args:List aD)(kw:List (aC×aD)):Option (List (aC×aD)):=(Du K a).bind λfd=>peek L S (bindArgs fd ⟨args,kw⟩)
theorem xW{L K:fB}{a:aH}{fd:mF}(e:Du K a=some fd){s:aF}(X:L.In s.heap){args:List aD}{kw:List (aC×aD)}{r:List (aC×aD)}(h:∀S,wV L K a S args kw=some r):iU s fd ⟨args,kw⟩ r:=
 kp_binds X λS=>by have:=h S;unfold wV at this;rw[e] at this;exact this
theorem Oo(h:bH):fB.In [] h:=λ_ _ e=>nomatch e
end
section
set_option tactic.hygienic true
noncomputable abbrev nS:=Option (List (aC×aD))
structure KT where
 ok:Bool
 new:Option CFound
 made:rQ->Option (Option String)
 here:rQ->Option Unit
 Mg:rQ->aH->Option Unit
 MM:List (Option (Sx×bR))
 b1:List (rQ->aD->nS)
 b2:List (rQ->aD->aD->nS)
 b3:rQ->aD->aD->aD->nS
 b5:rQ->aD->aD->aD->aD->aD->nS
 b6:rQ->aD->aD->aD->aD->aD->aD->nS
 bb:List (rQ->aD->aD->aD->aD->aD->nS×nS×nS×nS)
noncomputable def tK:List (aH×Sx×bR):=[(43,.stmts (xN 2 1),Cm 2 1),(82,.stmts (xN 3 4),Cm 3 4),(164,.stmts (cH 5),bQ 5),(171,.stmts (cH 6),bQ 6),
 (180,.stmts (cH 8),bQ 8),(189,.stmts (cH 9),bQ 9),(198,.stmts (cH 10),bQ 10),(207,.stmts (cH 11),bQ 11),(214,.stmts (cH 14),bQ 14),(221,.stmts (cH 16),bQ 16),
 (228,.stmts (cH 17),bQ 17),(235,.stmts (cH 18),bQ 18),(242,.stmts (cH 19),bQ 19),(247,.stmts (cH 21),bQ 21),(252,.stmts (cH 22),bQ 22),(257,.stmts (cH 23),bQ 23),
 (262,.stmts (cH 24),bQ 24),(267,.stmts (cH 25),bQ 25)]
noncomputable def El:List (aH×aC):=[(164,"iterator"),(171,"code"),(221,"addr"),(228,"addr"),(235,"addr"),(242,"email_header_fields"),(252,"word"),(267,"script")]
noncomputable def Mi:List (aH×aC×aC):=[(214,"want","got"),(247,"jobs","mix"),(262,"before","hands")]
noncomputable def Sl:List (aH×jB):=[(180,452),(189,466),(198,481),(207,495)]
noncomputable def Qw:List (aC×aH):=[("_ExceptionTableEntry",154),("_parse_varint",164),("_parse_exception_table",171),("insort_right",180),("bisect_right",189),("insort_left",198),("bisect_left",207),("_ellipsis_match",214),("_iter_escaped_chars",221),
 ("_strip_quoted_realnames",228),("_check_parenthesis",235),("_pre_parse_validation",242),("_law_entries",247),("_law_before",252),("_law_rounds",257),("_law_fewest",262),("law",267)]
noncomputable def noT:List aC:=["range","len","min","sum","list","enumerate","zip","sorted","bytes","tuple","bool","iter","next","type","issubclass","StopIteration"]
noncomputable def aMa:List (aC×Nat):=[("start",0),("end",1),("target",2),("depth",3),("lasti",4)]
noncomputable def T5:List (aC×Option aD):=[("__getattribute__",some (.builtin "tuple.__getattribute__")),("__getattr__",none),("__init__",some (.builtin "object.__init__")),("__iter__",some (.builtin "tuple.__iter__")),("__len__",some (.builtin "tuple.__len__"))]
noncomputable def JZ(K:fB)(i:Nat):Bool:=match K.lookup (124+3*i) with
 |some ox=>ox.cls==.ref 60&&notCls ox&&(match ox.dict with
  |some dx=>(match K.lookup dx with
   |some od=>(match Sy K 60 (some od) "index" with|some (.value (.int j _))=>j==(i:Int)|_=>false)
   |none=>false)
  |none=>false)
 |none=>false
noncomputable def Zs(K:fB)(c P:aH):Bool:=match K.lookup c with
 |some ⟨cl,_,.fields vs,_⟩=>cl==.type "code"&&vs[11]?==some (.ref P)&&vs.getD 11 .none==.ref P&&(match vs.getD 18 .none with|.str ..=>true|_=>false)&&
  (match vs.getD 7 .none with|.int ..=>true|_=>false)&&(match vs.getD 9 .none with|.bool ..=>true|_=>false)&&(match vs.getD 10 .none with|.int ..=>true|_=>false)&&c !=P
 |_=>false
noncomputable def kB(K:fB):Bool:=K.all (λp=>XO p.2)&&(tK.all λp=>Se K (p.1==221) p.1)&&(Qw.all λp=>nsIn K jU p.1==some (some (.ref p.2)))&&(noT.all λx=>nsIn K jU x==some none)&&
 nsIn K jU "ELLIPSIS_MARKER"==some (some (.str "..." 512))&&(T5.all λp=>lM K (.ref 154) p.1==some p.2)&&
 (aMa.all λp=>lM K (.ref 154) p.1==some (some (.ref (124+3*p.2)))&&Sz K (.ref (124+3*p.2)) "__get__"==some (some (.ref 43))&&takesIn K (.ref (124+3*p.2))==some true&&JZ K p.2)&&
 lM K (.ref 60) "__getattribute__"==some (some (.builtin "object.__getattribute__"))&&sU K 154 (.type "tuple")==some true&&instIn K (.ref 154) (.type "type")==some true&&
 (match Mo K 154 with|some m=>m.mro.head?==some (.ref 154)|none=>false)&&sU K 154 (.ref 154)==some true&&sU K 154 (.type "object")==some true&&
 Sz K (.ref 154) "__call__"==some (some (.builtin "type.__call__"))&&readsIn K 154 (.type "type")&&recIn K 142 "staticmethod"==some [.ref 82]&&
 (match K.lookup 154 with|some ⟨_,_,.cls cd,_⟩=> !cd.hasDel|_=>false)&&Ta K (.ref 154)&&Zs K 246 244&&Zs K 266 264
noncomputable def MX(K:fB)(p:aH×aC)(S:rQ)(v:aD):nS:=wV [] K p.1 S [v] []
noncomputable def MY(p:aH×aC)(_:rQ)(v:aD):nS:=some [(p.2,v)]
noncomputable def U5(K:fB)(p:aH×aC×aC)(S:rQ)(v w:aD):nS:=wV [] K p.1 S [v,w] []
noncomputable def U6(p:aH×aC×aC)(_:rQ)(v w:aD):nS:=some [(p.2.1,v),(p.2.2,w)]
noncomputable def MV(K:fB)(p:aH×jB)(S:rQ)(u v w x y:aD):nS×nS×nS×nS:=(wV K K p.1 S [u,v,w,x] [],wV K K p.1 S [u,v,w] [],wV K K p.1 S [u,v,w,x] [("key",y)],wV K K p.1 S [u,v] [("key",y)])
noncomputable def MW(p:aH×jB)(_:rQ)(u v w x y:aD):nS×nS×nS×nS:=(some [("a",u),("x",v),("lo",w),("hi",x),("key",.none)],some [("a",u),("x",v),("lo",w),("hi",.none),("key",.none)],some [("a",u),("x",v),("lo",w),("hi",x),("key",y)],
 some [("a",u),("x",v),("lo",.int 0 p.2),("hi",.none),("key",y)])
noncomputable def kT(K:fB):KT where
 ok:=kB K
 new:=findCls K (.ref 154) (.type "type") "__new__"
 made S:=peek K S (NS (.ref 154))
 here S:=peek K S (X6 "tuple.__new__" (.ref 154))
 Mg S t:=peek K S (AE "tuple.__new__" ⟨[.ref 154,.ref t],[]⟩)
 MM:=tK.map λp=>MN K p.1
 b1:=El.map (MX K)
 b2:=Mi.map (U5 K)
 b3 S u v w:=wV K K 43 S [u,v,w] []
 b5 S u v w x y:=wV [] K 257 S [u,v,w,x,y] []
 b6 S u v w x y z:=wV [] K 82 S [u,v,w,x,y,z] []
 bb:=Sl.map (MV K)
noncomputable def kX:KT where
 ok:=true
 new:=some (.get (.builtin "staticmethod.__get__") (.ref 142) .none (.ref 154))
 made _:=some none
 here _:=some ()
 Mg _ _:=some ()
 MM:=tK.map λp=>some p.2
 b1:=El.map MY
 b2:=Mi.map U6
 b3 _ u v w:=some [("self",u),("obj",v),("objtype",w)]
 b5 _ u v w x y:=some [("order",u),("events",v),("hands",w),("hide",x),("before",y)]
 b6 _ u v w x y z:=some [("_cls",u),("start",v),("end",w),("target",x),("depth",y),("lasti",z)]
 bb:=Sl.map MW
noncomputable def Cw:iS:={vD with main:={vD.main with body:=vD.main.body.drop 25}}
noncomputable def Vv:List PySem.Str:=["_wall","_tuplegetter","_ExceptionTableEntryBase","_ExceptionTableEntry","_parse_varint","_parse_exception_table","insort_right","bisect_right","insort_left","bisect_left","ELLIPSIS_MARKER","_ellipsis_match","_iter_escaped_chars","_strip_quoted_realnames","_check_parenthesis","_pre_parse_validation","_law_entries","_law_before","_law_rounds","_law_fewest"]
noncomputable def xT:Hook where
 α:=KT×List (Option fQ)
 obs s:=(kT (FA s.heap),([244,264]:List aH).map s.heap.get?)
 val _:=(kX,[some (Ew #[]),some (Ew #[])])
 says _ h:=(∃K:fB,K.In h/\kT K=kX)/\h.get? 244=some (Ew #[])/\h.get? 264=some (Ew #[])
 of _ s e:=by
  obtain⟨e1,e2⟩:=Tb e;obtain⟨e3,e4⟩:=X7 e2;exact⟨⟨_,aDg _,e1⟩,e3,(X7 e4).1⟩
 keeps _ _ _:=λ⟨⟨K,h1,h2⟩,h3,h4⟩ k=>⟨⟨K,h1.keeps k,h2⟩,k _ _ h3,k _ _ h4⟩
end
section
set_option tactic.hygienic true
noncomputable def Wy(tb:String->Option kR)(p:iS)(w:iI)(xZ:Nat)(yY:Option aD):Nat->SharedT->Thread->Option SharedT
 |0,_,_=>none
 |n+1,s,t=>match through t with
  |true=>some s
  |false=>match stepOk xZ yY t with
   |false=>none
   |true=>match stepT (denote tb) p w s t with
    |some (s',t')=>Wy tb p w xZ yY n s' t'
    |none=>none
theorem aGy{tb:String->Option kR}{p:iS}{w:iI}{xZ:Nat}{yY:Option aD}{n:Nat}{s s':SharedT}{t:Thread}(h:Wy tb p w xZ yY n s t=some s'):topRun tb p w xZ yY n s.abs t=some s'.abs:=by
 induction n generalizing s t with
 |zero=>cases h
 |succ n ih=>
  replace h:(match through t with
   |true=>some s
   |false=>match stepOk xZ yY t with
    |false=>none
    |true=>match stepT (denote tb) p w s t with
     |some (s',t')=>Wy tb p w xZ yY n s' t'
     |none=>none)=some s':=h
  show(match through t with
   |true=>some s.abs
   |false=>match stepOk xZ yY t with
    |false=>none
    |true=>match step (denote tb) p w s.abs t with
     |.go s' t'=>topRun tb p w xZ yY n s' t'
     |.halt _ _=>none)=some s'.abs
  cases e:through t with
  |true=>rw[e] at h;cases h;rfl
  |false=>
   rw[e] at h;dsimp only at h ⊢;cases e2:stepOk xZ yY t with
   |false=>rw[e2] at h;cases h
   |true=>
    rw[e2] at h;dsimp only at h ⊢;cases e3:stepT (denote tb) p w s t with
    |none=>rw[e3] at h;cases h
    |some q=>
     obtain⟨s2,t2⟩:=q;rw[e3] at h;rw[stepT_spec e3];exact ih h
noncomputable def XZ:List fQ->Nat->BT->BT
 |[],_,t=>t
 |o::r,n,t=>XZ r (n+1) (t.ins n o)
noncomputable def ZX(P:Params)(os:OsState):SharedT:=⟨XZ (Iw P).objs.toList 0 .nil,(Iw P).objs.size,(Iw P).life,X8 [],boot_drawn,boot_toks,os⟩
theorem aD1(P:Params)(os:OsState):(ZX P os).abs=⟨Iw P,X8 [],boot_drawn,boot_toks,os⟩:=by kernel_rfl
noncomputable def aJs(s0:bH)(s:aF):=(staticsOk (importedModules vD.main.body) s0 s.heap&&namesBound vD s.heap&&gensDone s&&laidKept s0 s.heap,
 openSeen Cw Vv (importedModules vD.main.body) (λs=>xlAt Cw [] s&&recOk (X9 NT.row.toRowW) s) true s,xT.obs s)
theorem aFn(w:iI)(os:OsState):(Wy treeTable vD w (Iw w.params).objs.size ((Iw w.params).nsMap jU "__annotations__") 5122 (ZX w.params os) (topStub vD)).map (λs=>aJs (Iw w.params) s.abs)
 =some (true,openGood Cw Vv,xT.val w):=by kernel_rfl
theorem aH7(w:iI):((Iw w.params).isNs jU&&(X8 ([]:List Ir)).size==0)=true:=by kernel_rfl
theorem aDe:LeftO vD Cw Vv (λs=>xlAt Cw [] s&&recOk (X9 NT.row.toRowW) s) xT.obs xT.val 5122:=by
 intro w;obtain⟨⟨h,gs,d,k,os⟩,e,e'⟩:=Eu.mp (boot_open (p:=vD) (N:=5122) (by kernel_rfl) rfl (λs=>by kernel_rfl) w);unfold openEnds;rw[e];obtain⟨q1,q2⟩:=Tb (show(h,gs,d,k)=_ from e');obtain⟨q2,q3⟩:=Tb q2;obtain⟨q3,q4⟩:=Tb q3;subst q1 q2 q3 q4;obtain⟨sT,h1,h2⟩:=Eu.mp (aFn w os);have h3:=aGy h1;rw[aD1] at h3;obtain⟨h4,h5⟩:=Tb h2;rw[Y0];unfold topFrom;dsimp only;rw[aH7];dsimp only;rw[h3,Y0];rw[h4];exact congrArg some h5
end
section
variable {B:BD} {k:Nat}
theorem cA.add:cA B k .Add (.val (.int a)) (.val (.int b)) (.int (a+b)):=by
 intro A g s v w Q E _ G hv hw K;obtain⟨_,rfl⟩:=VR.bB hv;obtain⟨_,rfl⟩:=VR.bB hw
 with_reducible exact add_int (K _ _ _ (.toks G) (.int _ _))
theorem cA.sub:cA B k .Sub (.val (.int a)) (.val (.int b)) (.int (a-b)):=by
 intro A g s v w Q E _ G hv hw K;obtain⟨_,rfl⟩:=VR.bB hv;obtain⟨_,rfl⟩:=VR.bB hw
 with_reducible exact sub_int (K _ _ _ (.toks G) (.int _ _))
theorem cA.mul(h:IntMulOk a b):cA B k .Mult (.val (.int a)) (.val (.int b)) (.int (a*b)):=by
 intro A g s v w Q E _ G hv hw K;obtain⟨_,rfl⟩:=VR.bB hv;obtain⟨_,rfl⟩:=VR.bB hw
 with_reducible exact mul_int (K _ _ _ (.toks G) (.int _ _)) h
theorem cA.fdiv(h:b≠0)(h':b.natAbs<1073741824):cA B k .FloorDiv (.val (.int a)) (.val (.int b)) (.int (a.fdiv b)):=by
 intro A g s v w Q E _ G hv hw K;obtain⟨_,rfl⟩:=VR.bB hv;obtain⟨_,rfl⟩:=VR.bB hw
 with_reducible exact floordiv_int h (K _ _ _ (.toks G) (.int _ _)) (.inl (aM5 h'))
theorem cA.mod(h:b≠0):cA B k .Mod (.val (.int a)) (.val (.int b)) (.int (a.fmod b)):=by
 intro A g s v w Q E _ G hv hw K;obtain⟨_,rfl⟩:=VR.bB hv;obtain⟨_,rfl⟩:=VR.bB hw
 with_reducible exact mod_int' h (K _ _ _ (.toks G) (.int _ _))
theorem cA.pow(h:0<=b)(h':(NU a:Int)*b<=2^27):cA B k .Pow (.val (.int a)) (.val (.int b)) (.int (a^b.toNat)):=by
 intro A g s v w Q E _ G hv hw K;obtain⟨_,rfl⟩:=VR.bB hv;obtain⟨_,rfl⟩:=VR.bB hw
 with_reducible exact pow_int h h' (K _ _ _ (.toks G) (.int _ _))
theorem cA.shl(h:0<=b)(h':b<=1000000)(nR:a.natAbs<2^64):cA B k .LShift (.val (.int a)) (.val (.int b)) (.int (a*2^b.toNat)):=by
 intro A g s v w Q E _ G hv hw K;obtain⟨_,rfl⟩:=VR.bB hv;obtain⟨_,rfl⟩:=VR.bB hw
 with_reducible exact lshift_int_small h h' nR (K _ _ _ (.toks G) (.int _ _))
theorem cA.shr(h:0<=b):cA B k .RShift (.val (.int a)) (.val (.int b)) (.int (a.fdiv (2^b.toNat))):=by
 intro A g s v w Q E _ G hv hw K;obtain⟨_,rfl⟩:=VR.bB hv;obtain⟨_,rfl⟩:=VR.bB hw
 with_reducible exact rshift_int h (K _ _ _ (.toks G) (.int _ _))
theorem cA.band:cA B k .BitAnd (.val (.int a)) (.val (.int b)) (.int (jC a b)):=by
 intro A g s v w Q E _ G hv hw K;obtain⟨_,rfl⟩:=VR.bB hv;obtain⟨_,rfl⟩:=VR.bB hw
 with_reducible exact and_int (K _ _ _ (.toks G) (.int _ _))
theorem cA.bor:cA B k .BitOr (.val (.int a)) (.val (.int b)) (.int (Ex a b)):=by
 intro A g s v w Q E _ G hv hw K;obtain⟨_,rfl⟩:=VR.bB hv;obtain⟨_,rfl⟩:=VR.bB hw
 with_reducible exact or_int (K _ _ _ (.toks G) (.int _ _))
theorem tG.bB:tG B .Invert (.int a) (.int (tQ a)):=by
 intro A g s v Q E G hv K;obtain⟨_,rfl⟩:=VR.bB hv
 with_reducible exact invert_int (K _ _ _ (.toks G) (.int _ _))
theorem tG.neg:tG B .USub (.int a) (.int (-a)):=by
 intro A g s v Q E G hv K;obtain⟨_,rfl⟩:=VR.bB hv
 with_reducible exact neg_int (K _ _ _ (.toks G) (.int _ _))
theorem cA.xX(h:a.length+b.length<=eJ):cA B k .Add (.val (.str a)) (.val (.str b)) (.str (a++b)):=by
 intro A g s v w Q E _ G hv hw K;obtain⟨_,rfl⟩:=VR.bB hv;obtain⟨_,rfl⟩:=VR.bB hw
 with_reducible exact add_str (λt' tk=>K _ _ _ (.toks G) (.str _ _)) h
inductive eY:LV->List AV->Prop where
 |val (xs:List AV):eY (.val (.aO xs)) xs
 |own (xs:List AV):eY (.own xs) xs
theorem eY.oQ(l:eY lv xs)(G:bI B g h)(x:eW B h g v lv):Gv B h g v xs:=by
 cases l with
 |val=>exact VR.oQ G x
 |own=>exact x
theorem cA.Pq(hx:eY x xs)(hy:eY y ys)(h:xs.length+ys.length<=eJ):cA B k .Add x y (.aO (xs++ys)):=by
 intro A g s v w Q E _ G hv hw K;obtain⟨a,vs,n,rfl,ha,rv⟩:=hx.oQ G hv;obtain⟨b,ws,m,rfl,hb,yJ⟩:=hy.oQ G hw;have l1:=rv.length;have l2:=yJ.length;simp only[aM6] at l1 l2;have rK:IsL s.heap a vs n:=ha;have dJ:IsL s.heap b ws m:=hb;have hs:vs.size+ws.size<=eJ:=aV (aG [_,_,_,_,_] [.l (.a .x .y) .z,.e .w .x,.e .p .y,.l (.u .z) (.a .w .p)] rfl h l1 l2)
 with_reducible refine P.add_list rK dJ ?_ hs
 have Z:=bT.push G (dP (vs++ws) 0) jE rfl;refine K _ _ _ Z ?_
 have e:aT.eF g s.heap.objs.size (dP (vs++ws) 0) s.heap.objs.size=some (dP (vs.toList++ws.toList).toArray 0):=by
  rw[aT.jY];simp[dP]
 exact .aO e ((rv.append yJ).mono Z.ext.sub)
theorem bG.lt:bG B k .Lt (.val (.int a)) (.val (.int b)) (decide (a<b)):=by
 intro A g s v w Q E _ G hv hw K;obtain⟨_,rfl⟩:=VR.bB hv;obtain⟨_,rfl⟩:=VR.bB hw
 with_reducible exact lt_int (K _ _ (.refl G))
theorem bG.gt:bG B k .Gt (.val (.int a)) (.val (.int b)) (decide (b<a)):=by
 intro A g s v w Q E _ G hv hw K;obtain⟨_,rfl⟩:=VR.bB hv;obtain⟨_,rfl⟩:=VR.bB hw
 with_reducible exact gt_int (K _ _ (.refl G))
theorem bG.le:bG B k .LtE (.val (.int a)) (.val (.int b)) (decide (a<=b)):=by
 intro A g s v w Q E _ G hv hw K;obtain⟨_,rfl⟩:=VR.bB hv;obtain⟨_,rfl⟩:=VR.bB hw
 with_reducible exact le_int (K _ _ (.refl G))
theorem bG.ge:bG B k .GtE (.val (.int a)) (.val (.int b)) (decide (b<=a)):=by
 intro A g s v w Q E _ G hv hw K;obtain⟨_,rfl⟩:=VR.bB hv;obtain⟨_,rfl⟩:=VR.bB hw
 with_reducible exact ge_int (K _ _ (.refl G))
theorem bG.yW:bG B k .Eq (.val (.int a)) (.val (.int b)) (decide (a=b)):=by
 intro A g s v w Q E _ G hv hw K;obtain⟨_,rfl⟩:=VR.bB hv;obtain⟨_,rfl⟩:=VR.bB hw
 with_reducible refine eq_int ?_
 have:(a==b)=decide (a=b):=rfl;rw[this];exact K _ _ (.refl G)
theorem bG.T8:bG B k .Eq (.val (.str a)) (.val (.str b)) (a==b):=by
 intro A g s v w Q E _ G hv hw K;obtain⟨_,rfl⟩:=VR.bB hv;obtain⟨_,rfl⟩:=VR.bB hw
 with_reducible exact eq_str (K _ _ (.refl G))
noncomputable def AV.Lk:AV->Bool
 |.none=>true
 |_=>false
theorem VR.isNone(h:VR B g v x)(hf:∀y,x≠.fn y)(ho:∀n P,x≠.mZ n P):(v==nG)=x.Lk:=by
 cases h with
 |none=>rfl
 |fn=>exact absurd rfl (hf _)
 |mZ=>exact absurd rfl (ho _ _)
 |_=>first|rfl|exact beq_eq_false_iff_ne.mpr (by nofun)
theorem bG.isNone(hf:∀y,x≠.fn y)(ho:∀n P,x≠.mZ n P):bG B k .Is (.val x) (.val .none) x.Lk:=by
 intro A g s v w Q E _ G hv hw K;obtain rfl:=VR.bB hw
 with_reducible refine is_none ?_
 have hv:=hv;rw[hv.isNone hf ho];exact K _ _ (.refl G)
theorem bG.CY:bG B k .IsNot (.val (.bool a)) (.val (.bool b)) (!(a==b)):=by
 intro A g s v w Q E _ G hv hw K;obtain rfl:=VR.bB hv;obtain rfl:=VR.bB hw
 with_reducible refine wpAny_isNot_plain rfl ?_
 have:((aD.bool a)==aD.bool b)=(a==b):=by cases a<;>cases b<;>rfl
 rw[this];exact K _ _ (.refl G)
mutual
noncomputable def AV.oM:AV->Option AF
 |.none=>some .none
 |.bool b=>some (.bool b)
 |.int i=>some (.int i)
 |.str s=>some (.str s)
 |.cD xs=>(AV.mW xs).map .tuple
 |.aO xs=>(AV.mW xs).map .list
 |_=>AG
noncomputable def AV.mW:List AV->Option (List AF)
 |[]=>some []
 |x::xs=>match AV.oM x,AV.mW xs with
  |some d,some ds=>some (d::ds)
  |_,_=>AG
end
theorem AV.aJf{xs:List AV}(h:AV.mW (x::xs)=some ds):∃a as,AV.oM x=some a/\AV.mW xs=some as/\ds=a::as:=by
 replace h:(match AV.oM x,AV.mW xs with
  |some d,some ds=>some (d::ds)
  |_,_=>AG)=some ds:=h
 revert h;cases AV.oM x with
 |none=>nofun
 |some a=>cases AV.mW xs with
  |none=>nofun
  |some as=>intro h;cases h;exact⟨a,as,rfl,rfl,rfl⟩
set_option tactic.hygienic true in
theorem VR.XI(G:bI B g h):(∀{v:aD} {x:AV},VR B g v x->∀d,x.oM=some d->∃as,Reads h v d as)/\∀{vs:List aD} {xs:List AV},bD B g vs xs->∀ds,AV.mW xs=some ds->∃as,ReadsAll h vs ds as:=by
 refine VR.Xq (λd e=>?_) (λb d e=>?_) (λi t d e=>?_) (λs t d e=>?_) (λho _ r d e=>?_) (λho _ r d e=>?_) (λ_ d e=>nomatch e) (λ_ d e=>nomatch e) (λ_ d e=>nomatch e) (λds e=>?_) λ_ _ a r ds e=>?_
 ·cases e;exact⟨_,.none⟩
 ·cases e;exact⟨_,.bool _⟩
 ·cases e;exact⟨_,.int _ _⟩
 ·cases e;exact⟨_,.str _ _⟩
 ·obtain⟨ds,e',rfl⟩:=Eu.mp e
  obtain⟨as,q⟩:=r ds e';exact⟨_,.tuple (G.at ho) rfl rfl q⟩
 ·obtain⟨ds,e',rfl⟩:=Eu.mp e
  obtain⟨as,q⟩:=r ds e';exact⟨_,.list (G.at ho) rfl rfl q⟩
 ·cases e;exact⟨_,.nil⟩
 ·obtain⟨d,ds,e1,e2,rfl⟩:=AV.aJf e
  obtain⟨as,q⟩:=a d e1;obtain⟨bs,q'⟩:=r ds e2;exact⟨_,.cons q q'⟩
theorem VR.vP(G:bI B g h)(r:VR B g v x)(e:x.oM=some d):∃as,Reads h v d as:=(VR.XI G).1 r d e
theorem bD.vP(G:bI B g h)(r:bD B g vs xs)(e:AV.mW xs=some ds):∃as,ReadsAll h vs ds as:=(VR.XI G).2 r ds e
noncomputable def LV.oM:LV->Option AF
 |.val x=>x.oM
 |.own xs=>(AV.mW xs).map .list
theorem eW.vP(G:bI B g h)(r:eW B h g v x)(e:x.oM=some d):∃as,Reads h v d as:=by
 cases x with
 |val x=>exact VR.vP G r e
 |own xs=>
  simp only[LV.oM,Eu] at e;obtain⟨ds,e,rfl⟩:=e;obtain⟨a,vs,n,rfl,ho,q⟩:=r;obtain⟨as,q⟩:=bD.vP G q e;exact⟨_,.list ho rfl rfl q⟩
theorem bG.eqd(hx:x.oM=some d)(hy:y.oM=some e)(sx:shaped d=true)(sy:shaped e=true)(hb:Ey d e=b):bG B (k+2) .Eq x y b:=by
 intro A g s v w Q E R G hv hw K;obtain⟨as,ra⟩:=eW.vP G hv hx;obtain⟨bs,rb⟩:=eW.vP G hw hy
 with_reducible refine compareEq_shaped ra rb sx sy (by have:=R.units;with_unfolding_all exact bV (aG [_,_,_] [.l (.u (.a .x (.m 40 (.a .y (.n 2))))) .z,.l .z (.a .x (.n 64))] rfl this)) ?_
 rw[hb];exact K _ _ (.refl G)
theorem bG.Qx(hx:x.oM=some d)(hy:y.oM=some e)(sx:shaped d=true)(sy:shaped e=true)(hb:Ey d e=b):bG B (k+2) .NotEq x y (!b):=by
 intro A g s v w Q E R G hv hw K;obtain⟨as,ra⟩:=eW.vP G hv hx;obtain⟨bs,rb⟩:=eW.vP G hw hy
 with_reducible refine compareNe_shaped ra rb sx sy (by have:=R.units;with_unfolding_all exact bV (aG [_,_,_] [.l (.u (.a .x (.m 40 (.a .y (.n 2))))) .z,.l .z (.a .x (.n 64))] rfl this)) ?_
 rw[hb];exact K _ _ (.refl G)
theorem bD.XU{g:aT}{vs:List aD}{ns:List Int}(h:bD B g vs (ns.map .int)):∀y∈vs,∃i t,y=.int i t/\i∈ns:=by
 induction ns generalizing vs with
 |nil=>obtain rfl:=bD.bB h;exact λy h=>by cases h
 |cons n ns ih=>
  obtain⟨_,_,rfl,a,r⟩:=bD.bB h;intro y h;rcases cE.mp h with rfl|h
  ·obtain⟨_,rfl⟩:=VR.bB a;exact⟨n,_,rfl,.head _⟩
  ·obtain⟨i,t,e,m⟩:=ih r y h;exact⟨i,t,e,.tail _ m⟩
noncomputable def Pb(i:Int):aD->Bool
 |.int j _=>j==i
 |_=>false
theorem bD.YQ{g:aT}{i:Int}{vs:List aD}{ns:List Int}(h:bD B g vs (ns.map .int)):vs.any (Pb i)=ns.contains i:=by
 induction ns generalizing vs with
 |nil=>obtain rfl:=bD.bB h;rfl
 |cons n ns ih=>
  obtain⟨_,_,rfl,a,r⟩:=bD.bB h;obtain⟨_,rfl⟩:=VR.bB a;rw[List.any_cons,Y1,ih r];congr 1;show(n==i)=(i==n)
  by_cases h:n=i
  ·subst h;rfl
  ·rw[beq_eq_false_iff_ne.mpr h,beq_eq_false_iff_ne.mpr (gJ h)]
theorem bG.inI{y:LV}{i:Int}{ns:List Int}(hy:eY y (ns.map .int)):bG B k .In (.val (.int i)) y (ns.contains i):=by
 intro A g s v w Q E R G hv hw K;obtain⟨_,rfl⟩:=VR.bB hv;obtain⟨b,ws,m,rfl,hb,yJ⟩:=hy.oQ G hw;have dJ:s.heap.IsList b ws:=⟨_,hb,rfl,m,rfl⟩
 with_reducible refine in_listAt (Pb i) dJ (λy hy=>?_) ?_
 ·obtain⟨j,t,rfl,_⟩:=bD.XU yJ y (by simpa using hy)
  exact EqAt.int_int _ _ _ _
 ·have:ws.any (Pb i)=ns.contains i:=by rw[<-bD.YQ yJ];simp
  rw[this];exact K _ _ (.refl G)
theorem bG.aIy{y:LV}{i:Int}{ns:List Int}(hy:eY y (ns.map .int)):bG B k .NotIn (.val (.int i)) y (!ns.contains i):=by
 intro A g s v w Q E R G hv hw K;obtain⟨_,rfl⟩:=VR.bB hv;obtain⟨b,ws,m,rfl,hb,yJ⟩:=hy.oQ G hw;have dJ:s.heap.IsList b ws:=⟨_,hb,rfl,m,rfl⟩
 with_reducible refine notIn_listAt (Pb i) dJ (λy hy=>?_) ?_
 ·obtain⟨j,t,rfl,_⟩:=bD.XU yJ y (by simpa using hy)
  exact EqAt.int_int _ _ _ _
 ·have:ws.any (Pb i)=ns.contains i:=by rw[<-bD.YQ yJ];simp
  rw[this];exact K _ _ (.refl G)
theorem bG.ES:bG B k .NotIn (.val (.str a)) (.val (.str b)) (!rR b a):=by
 intro A g s v w Q E _ G hv hw K;obtain⟨_,rfl⟩:=VR.bB hv;obtain⟨_,rfl⟩:=VR.bB hw
 with_reducible exact SB.notContains (K _ _ (.refl G))
theorem lR.bool:lR B k (.val (.bool b)) b:=by
 intro A g s v Q E _ G hv K;obtain rfl:=VR.bB hv
 with_reducible exact NR (K _ _ (.refl G))
theorem lR.int:lR B k (.val (.int i)) (i !=0):=by
 intro A g s v Q E _ G hv K;obtain⟨_,rfl⟩:=VR.bB hv
 with_reducible exact P.truthy_int (K _ _ (.refl G))
theorem lR.str(h:(x.length:Int)<2^63):lR B k (.val (.str x)) ((x.length:Int) !=0):=by
 intro A g s v Q E _ G hv K;obtain⟨_,rfl⟩:=VR.bB hv
 with_reducible exact P.truthy_str (by with_unfolding_all exact cG [_] [_] [.l (.u (.c .x)) .x,.l .x (.c .x)] rfl h) (K _ _ (.toks G))
end
structure Fp where
 cB:List aH
 gen:List Nat
section
variable {B:BD} {k:Nat}
def iX(fp:Fp)(s s':aF):Prop:=(∀b∈fp.cB,sZ s.heap s'.heap b)/\∀i∈fp.gen,s'.gens[i]?=s.gens[i]?
theorem iX.refl(fp:Fp)(s:aF):iX fp s s:=⟨λb _=>.refl _ b,λ_ _=>rfl⟩
theorem iX.at(x:iX fp s s')(hb:b∈fp.cB)(h:∃o,s.heap.get? b=some o/\eD o):s'.heap.get? b=s.heap.get? b:=by
 obtain⟨o,e,k⟩:=h;rw[e];exact(x.1 b hb).cM e k
def Ik(fp:Fp)(g:aT):Prop:=∀b∈fp.cB,g b=none
def uK(base:bH)(l:List aH)(h h':bH):Prop:=∀b o,b∉l->h.get? b=some o->pU base h' b o
structure eL(B:BD)(fp:Fp)(s s':aF):Prop where
 le:uK B.base fp.cB s.heap s'.heap
 keep:∀(i:Nat) (x:Ir),i∉fp.gen->s.gens[i]?=some x->s'.gens[i]?=some x
 bare:Sw s.gens->Sw s'.gens
 os:s'.os=s.os
theorem eL.of(x:∀b o,b∉fp.cB->s.heap.get? b=some o->h'.get? b=some o):eL B fp s {s with heap:=h',toks:=tk}:=
 ⟨λb o hb e=>.inl (x b o hb e),λ_ _ _ e=>e,id,rfl⟩
theorem uK.cM(x:uK B.base l h h')(hb:b∉l)(e:h.get? b=some o)(k:eD o):h'.get? b=some o:=(x b o hb e).cM k
theorem bI.Wi(G:bI B g h)(x:uK B.base fp.cB h h')(t:∀b∈B.kK,∀o,h.get? b=some o->h'.get? b=some o)(o:Ik fp g)(ob:∀b∈fp.cB,B.base.get? b=none):bI B g h':=by
 have nb:∀b o',g b=some o'->b∉fp.cB:=λb o' e hb=>by cases ((o b hb).symm.trans e)
 refine⟨G.base,λb o' e=>⟨x.cM (nb b o' e) (G.sub b o' e).1 (G.sub b o' e).2,(G.sub b o' e).2⟩,?_,λb hb=>by obtain⟨ps,h1,h2⟩:=G.kK b hb;exact⟨ps,t b hb _ h1,h2⟩⟩;intro b o' e;have hb:b∉fp.cB:=λq=>by cases ((ob b q).symm.trans e)
 exact(G.le b o' e).trans λuX q=>x b uX hb q
theorem bI.uR(G:bI B g h)(x:∀b o,b∉fp.cB->h.get? b=some o->h'.get? b=some o)(o:Ik fp g)(ob:∀b∈fp.cB,B.base.get? b=none):bI B g h':=
 G.Wi (λb o hb e=>.inl (x b o hb e)) (λb hb o e=>x b o (λq=>B.tabIn b hb (ob b q)) e) o ob
theorem bI.Ox(G:bI B g h)(x:kU I h h')(o:Ik ⟨[I],[]⟩ g)(ob:∀b∈([I]:List aH),B.base.get? b=none):bI B g h':=
 G.uR (λb o hb e=>(x.2 b (by simpa using hb)).trans e) o ob
structure pA(B:BD)(fp:Fp)(g:aT):Prop where
 dM:Ik fp g
 new:∀b∈fp.cB,B.base.get? b=none
structure lV(fp:Fp)(s:aF):Prop where
 cB:∀b∈fp.cB,∃o,s.heap.get? b=some o/\Xu o
 gen:∀i∈fp.gen,∃x,s.gens[i]?=some x
theorem lV.bU(h:∃o,s.heap.get? a=some o/\eD o):lV ⟨[a],[]⟩ s:=⟨λb hb=>by rw[cW.mp hb];obtain⟨o,e,k⟩:=h;exact⟨o,e,.inl k⟩,λi hi=>nomatch hi⟩
theorem IsListIter.cM{h:bH}{I l:aH}{i:Nat}(x:h.IsListIter I l i):∃o,h.get? I=some o/\eD o:=by obtain⟨o,a,b,c⟩:=x;exact⟨o,a,jX b (by rw[c];nofun)⟩
theorem IsTupleIter.cM{h:bH}{I l:aH}{i:Nat}(x:h.IsTupleIter I l i):∃o,h.get? I=some o/\eD o:=by obtain⟨o,a,b,c⟩:=x;exact⟨o,a,jX b (by rw[c];nofun)⟩
theorem qN.cM(z:qN h I x l c):∃o,h.get? I=some o/\eD o:=⟨_,z,jX rfl (by nofun)⟩
theorem IsStrIter.cM{h:bH}{I:aH}{ty:String}{x:aC}{t:jB}{i:Nat}(z:h.IsStrIter I ty x t i):∃o,h.get? I=some o/\eD o:=by obtain⟨o,a,b,c⟩:=z;exact⟨o,a,jX b (by rw[c];nofun)⟩
structure Hm(fp iN:Fp)(s:aF):Prop where
 cB:∀b∈iN.cB,b∈fp.cB\/s.heap.get? b=none
 gen:∀i∈iN.gen,i∈fp.gen\/s.gens[i]?=none
theorem Hm.refl(fp:Fp)(s:aF):Hm fp fp s:=⟨λ_ h=>.inl h,λ_ h=>.inl h⟩
def gB(B:BD)(k:Nat)(A:bM)(bP:bJ)(it:aD):Fp->List AV->aT->aF->Prop
 |fp,[],g,s=>lV fp s/\∀(dZ:aT) (aS:aF) (Q:Option aD->aF->Prop) (E:aD->aF->Prop),dS B k A aS.heap->bI B dZ aS.heap->g.Sub dZ->iX fp s aS->pA B fp dZ->
  (∀bN,eL B fp aS bN->bI B dZ bN.heap->Q none bN)->aK (aW B) A (mH it) Q E aS
 |fp,x::xs,g,s=>lV fp s/\∀(dZ:aT) (aS:aF) (Q:aD->aF->Prop) (E:aD->aF->Prop),dS B k A aS.heap->bI B dZ aS.heap->g.Sub dZ->iX fp s aS->pA B fp dZ->
  (∀v bN fV iN,Hm fp iN aS->eL B fp aS bN->fU aS.heap dZ fV->bI B fV bN.heap->pA B iN fV->VR B fV v x->gB B k A bP it iN xs fV bN->Q v bN)->
  aK (aW B) A (mH it) (λr s'=>∃v,r=some v/\aK (aW B) A (tR bP it v) (λ_ bN=>Q v bN) E s') E aS
theorem IsListIter.same{h h':bH}{I l:aH}{i:Nat}(x:h.IsListIter I l i)(e:h'.get? I=h.get? I):h'.IsListIter I l i:=by obtain⟨o,a,r⟩:=x;exact⟨o,e.trans a,r⟩
theorem bI.pN{g:aT}{h:bH}(G:bI B g h){l:aH}{vs:List aD}{n:Nat}(e:g l=some (dP vs.toArray n)):h.IsList l vs.toArray:=⟨_,G.at e,rfl,n,rfl⟩
theorem bI.Jv{g:aT}{h:bH}(G:bI B g h){l:aH}{vs:List aD}{n:Nat}(e:g l=some (gA vs.toArray n)):h.IsTuple l vs.toArray:=⟨_,G.at e,rfl,n,rfl⟩
theorem bD.drop{g:aT}{vs:List aD}{x:AV}{xs:List AV}{i:Nat}(h:bD B g (vs.drop i) (x::xs)):∃v,vs[i]?=some v/\VR B g v x/\bD B g (vs.drop (i+1)) xs:=by
 generalize e:vs.drop i=ws at h;obtain⟨v,ws,rfl,a,r⟩:=bD.bB h
 have hi:vs[i]?=some v:=by
  have:=congrArg (·[0]?) e;simpa using this
 refine⟨v,hi,a,?_⟩
 have:vs.drop (i+1)=ws:=by
  have:=congrArg (Y2 1) e;simpa [NW,Ss] using this
 rw[this];exact r
theorem bD.Oe{g:aT}{vs:List aD}{i:Nat}(h:bD B g (vs.drop i) []):vs[i]?=none:=by
 generalize e:vs.drop i=ws at h;obtain rfl:=bD.bB h;rw[Y3];exact aM7.mp e
theorem SameBut.EB(x:kU I s.heap h'):eL B ⟨[I],[]⟩ s {s with heap:=h',toks:=tk}:=
 .of λb o hb e=>(x.2 b (by simpa using hb)).trans e
theorem gB.list{A:bM}{bP:bJ}{I l:aH}{vs:List aD}{n:Nat}:∀{xs:List AV} {i:Nat} {g:aT} {s:aF},s.heap.IsListIter I l i->g l=some (dP vs.toArray n)->bD B g (vs.drop i) xs->gB B k A bP (.ref I) ⟨[I],[]⟩ xs g s:=by
 intro xs;induction xs with
 |nil=>
  intro i g s hi hl r;refine⟨.bU (IsListIter.cM hi),?_⟩;intro dZ aS Q E R G sub same own K;have eV:=IsListIter.same hi (same.at (.head _) (IsListIter.cM hi));have nA:=G.pN (sub _ _ hl);refine wpAny_pyNext_list_end R.handled eV nA (by simpa using r.Oe) λh' he=>?_;exact K _ (.of λb o hb e=>he b o (by simpa using hb) e) (G.uR (λb o hb e=>he b o (by simpa using hb) e) own.dM own.new)
 |cons x xs ih=>
  intro i g s hi hl r;refine⟨.bU (IsListIter.cM hi),?_⟩;intro dZ aS Q E R G sub same own K;have eV:=IsListIter.same hi (same.at (.head _) (IsListIter.cM hi));have nA:=G.pN (sub _ _ hl);obtain⟨v,hv,hx,hr⟩:=r.drop;refine wpAny_pyNext_list_item eV nA (by simpa using hv) λh' cY hs=>?_;refine⟨v,rfl,letGo_listiter cY ?_⟩;have kb:eL B ⟨[I],[]⟩ aS {aS with heap:=h'}:=SameBut.EB hs;exact K v _ dZ _ (.refl _ _) kb (.refl _ _) (G.Ox hs own.dM own.new) own (hx.mono sub) (ih cY (sub _ _ hl) (hr.mono sub))
theorem IsTupleIter.same{h h':bH}{I l:aH}{i:Nat}(x:h.IsTupleIter I l i)(e:h'.get? I=h.get? I):h'.IsTupleIter I l i:=by obtain⟨o,a,r⟩:=x;exact⟨o,e.trans a,r⟩
theorem gB.tuple{A:bM}{bP:bJ}{I l:aH}{vs:List aD}{n:Nat}:∀{xs:List AV} {i:Nat} {g:aT} {s:aF},s.heap.IsTupleIter I l i->g l=some (gA vs.toArray n)->bD B g (vs.drop i) xs->gB B k A bP (.ref I) ⟨[I],[]⟩ xs g s:=by
 intro xs;induction xs with
 |nil=>
  intro i g s hi hl r;refine⟨.bU (IsTupleIter.cM hi),?_⟩;intro dZ aS Q E R G sub same own K;have eV:=IsTupleIter.same hi (same.at (.head _) (IsTupleIter.cM hi));have nA:=G.Jv (sub _ _ hl);refine wpAny_pyNext_tuple_end R.handled eV nA (by simpa using r.Oe) λh' he=>?_;exact K _ (.of λb o hb e=>he b o (by simpa using hb) e) (G.uR (λb o hb e=>he b o (by simpa using hb) e) own.dM own.new)
 |cons x xs ih=>
  intro i g s hi hl r;refine⟨.bU (IsTupleIter.cM hi),?_⟩;intro dZ aS Q E R G sub same own K;have eV:=IsTupleIter.same hi (same.at (.head _) (IsTupleIter.cM hi));have nA:=G.Jv (sub _ _ hl);obtain⟨v,hv,hx,hr⟩:=r.drop;refine wpAny_pyNext_tuple_item eV nA (by simpa using hv) λh' cY hs=>?_;refine⟨v,rfl,letGo_tupleiter cY ?_⟩;have kb:eL B ⟨[I],[]⟩ aS {aS with heap:=h'}:=SameBut.EB hs;exact K v _ dZ _ (.refl _ _) kb (.refl _ _) (G.Ox hs own.dM own.new) own (hx.mono sub) (ih cY (sub _ _ hl) (hr.mono sub))
theorem qN.same(z:qN h I x l c)(e:h'.get? I=h.get? I):qN h' I x l c:=e.trans z
theorem UA(h:Q' () s')(h2:aK (aW B) A (tR (.Tuple [] 0 ⟨0,0,0,0⟩) it v) Q' E s'):aK (aW B) A (tR target it v) Q' E s':=by
 cases target<;>first|exact bE h|exact h2
theorem aAb(cY:qN s'.heap I x l c)(h:Q' () s'):
 aK (aW B) A (tR target (.ref I) v) Q' E s':=by
 have ho:=cY;refine UA h ?_;cases v<;>first|exact bE h|exact aM (Ez ho (bE h))
noncomputable def vK(x c:Int):Nat->List AV
 |0=>[]
 |n+1=>.int x::vK (x+c) c n
theorem TP:vK x c (n+1)=.int x::vK (x+c) c n:=rfl
theorem gB.range:∀{n:Nat} {x:Int} {g:aT} {s:aF},qN s.heap I x n c->gB B k A bP (.ref I) ⟨[I],[]⟩ (vK x c n) g s:=by
 intro n;induction n with
 |zero=>
  intro x g s hi;refine⟨.bU (qN.cM hi),?_⟩;intro dZ aS Q E R G sub same own K;have eV:=qN.same hi (same.at (.head _) (qN.cM hi));refine wpAny_pyNext_range_end R.handled eV (lF (cG [] [] [.l (.u .o) (.c .o)] rfl)) λh' he=>?_;exact K _ (.of λb o hb e=>he b o (by simpa using hb) e) (G.uR (λb o hb e=>he b o (by simpa using hb) e) own.dM own.new)
 |succ n ih=>
  intro x g s hi;refine⟨.bU (qN.cM hi),?_⟩;intro dZ aS Q E R G sub same own K;have eV:=qN.same hi (same.at (.head _) (qN.cM hi));refine wpAny_pyNext_range_item eV (pF (cG [_] [] [.l (.c (.u .x)) .o] rfl)) λh' cY hs=>?_
  have Px:qN h' I (x+c) (n:Nat) c:=by
   have:((n+1:Nat):Int)-1=(n:Nat):=sP (cG [_] [] [.l (.u (.s (.c (.u .x)) .i)) (.c .x)] rfl) (cG [_] [] [.l (.u (.c .x)) (.s (.c (.u .x)) .i)] rfl);rw[this] at cY;exact cY
  refine⟨_,rfl,aAb cY ?_⟩;have kb:eL B ⟨[I],[]⟩ aS {aS with heap:=h',toks:=aS.toks+1}:=SameBut.EB hs;exact K _ _ dZ _ (.refl _ _) kb (.refl _ _) (G.Ox hs own.dM own.new) own (.int _ _) (ih Px)
noncomputable def We(l:List Nat):List AV:=l.map λc=>.str ⟨#[c]⟩
end
section
variable {B:BD} {k:Nat} {sc:bR} {vars:aU}
def Gm(B:BD)(it:aD)(fp:Fp)(s:aF):Prop:=∀(A:bM) (aS:aF) (Q:aD->aF->Prop) (E:aD->aF->Prop),iX fp s aS->Q it aS->aK (aW B) A (wW it) Q E aS
structure uC(B:BD)(fp:Fp)(s s':aF)(g':aT):Prop where
 own:pA B fp g'
 cB:∀b∈fp.cB,s.heap.get? b=none/\∃o,s'.heap.get? b=some o
 gen:∀i∈fp.gen,s.gens[i]?=none/\∃x,s'.gens[i]?=some x
def cR(B:BD)(k:Nat)(sc:bR)(vars:aU)(bP:bJ)(e:bJ)(xs:List AV):Prop:=
 ∀(A:bM) (aA:bO) (g:aT) (s:aF) (Q:aD->aF->Prop) (E:aD->aF->Prop),iQ B k A sc vars aA g s->
  (∀it fp s' g',bT B s g s' g'->uC B fp s s' g'->gB B k A bP it fp xs g' s'->Gm B it fp s'->Q it s')->
  aK (aW B) A (eval e aA) (λx aS=>aK (aW B) A (wW x) Q E aS) E s
theorem bI.uB(G:bI B g h)(e:h.get? a=none):B.base.get? a=none:=G.le.none e
theorem uC.bU(X:bT B bZ g s g')(o:fQ)(hf:o.isFreed=false)(tk:Nat):uC B ⟨[s.heap.objs.size],[]⟩ bZ {s with heap:=s.heap.push o,toks:=tk} g':=by
 have e:=bH.jN s.heap;refine⟨⟨λb hb=>?_,λb hb=>?_⟩,λb hb=>?_,λi hi=>nomatch hi⟩
 all_goals (rw[cW.mp hb])
 ·exact X.ok.fresh e
 ·exact X.ok.uB e
 ·exact⟨X.keep.le.none e,o,gU _ hf⟩
theorem bT.GC(G:bI B g s.heap)(o:fQ)(tk:Nat):bT B s g {s with heap:=s.heap.push o,toks:=tk} g:=.of G ⟨.push o,.refl _,rfl⟩ λ_ _ _ e=>eG o e
theorem cR.aO(h:aB B k sc vars e (.aO xs)):cR B k sc vars bP e xs:=by
 intro A aA g s Q E P K;refine h A aA g s _ E P λv s' g' X hv=>?_;obtain⟨l,vs,n,rfl,ho,r⟩:=VR.bB hv;refine AH (X.ok.pN ho) ?_;have Z:=bT.tE X.ok {cls:=.type "list_iterator",data:=.fields #[.ref l,.int 0 0]};have cY:(s'.heap.push {cls:=.type "list_iterator",data:=.fields #[.ref l,.int 0 0]}).IsListIter s'.heap.objs.size l 0:=⟨_,gU _ rfl,rfl,rfl⟩
 refine K _ ⟨[s'.heap.objs.size],[]⟩ _ _ (X.trans Z) (.bU X _ rfl s'.toks) (gB.list cY ho (by simpa using r)) ?_;intro A aS Q E same q;exact wpAny_pyIter_listiter (IsListIter.same cY (same.at (.head _) (IsListIter.cM cY))) q
theorem cR.cD(h:aB B k sc vars e (.cD xs)):cR B k sc vars bP e xs:=by
 intro A aA g s Q E P K;refine h A aA g s _ E P λv s' g' X hv=>?_;obtain⟨l,vs,n,rfl,ho,r⟩:=VR.bB hv;refine Y4 (X.ok.Jv ho) ?_;have Z:=bT.tE X.ok {cls:=.type "tuple_iterator",data:=.fields #[.ref l,.int 0 0]};have cY:(s'.heap.push {cls:=.type "tuple_iterator",data:=.fields #[.ref l,.int 0 0]}).IsTupleIter s'.heap.objs.size l 0:=⟨_,gU _ rfl,rfl,rfl⟩
 refine K _ ⟨[s'.heap.objs.size],[]⟩ _ _ (X.trans Z) (.bU X _ rfl s'.toks) (gB.tuple cY ho (by simpa using r)) ?_;intro A aS Q E same q;exact aM8 (IsTupleIter.same cY (same.at (.head _) (IsTupleIter.cM cY))) q
theorem BZ(x:aC):Mp x="str_ascii_iterator"\/Mp x="str_iterator":=by
 unfold Mp;split<;>simp
structure oN(B:BD)(sc:bR)(f:aC)(v:aD):Prop where
 kind:sc.names.lookup f=some .globalImplicit
 vY:B.mg f=none
 boot:AB f=some v
 rL:(f==("__debug__":aC))=false
 nm:f≠"__name__"
theorem Ub(h:(iT es aA).any (·.1)=false):(kQ pos (iT es aA)).any (·.1)=false:=by
 unfold kQ;rw[List.any_map];simpa using h
noncomputable def eR(es:List bJ):Bool:=es.all λe=> !(e.ctorIdx==22)
theorem pM(h:eR (e::es)=true):iT (e::es) aA=(false,eval e aA)::iT es aA:=by
 cases e with
 |Starred=>cases h
 |_=>rfl
theorem vI(h:eR (e::es)=true):eR es=true:=(band h).2
theorem Ua{es:List bJ}:eR es=true->(iT es aA).any (·.1)=false:=by
 induction es with
 |nil=>exact λ_=>rfl
 |cons e r ih=>exact λh=>by rw[pM h];exact ih (vI h)
theorem Ni(b:oN B sc f v)(hv:(∃id,v=.builtin id)\/∃T,v=.type T)(hn:eR (e::es)=true)
 (P:iQ B k A sc vars aA g s)
 (h:aK (aW B) A (spliced (kQ pos (iT (e::es) aA))) (λvs aS=>aK (aW B) A (call v vs) Q E aS) E s):aK (aW B) A (eval (.Call (.Name f p) (e::es) [] pos) aA) Q E s:=by
 refine zC (Us b.kind b.vY b.boot b.rL b.nm P ?_);have hp:=Ub (pos:=pos) (Ua (aA:=aA) hn)
 have he:kQ pos (iT (e::es) aA)=(false,eval e aA)::kQ pos (iT es aA):=by
  rw[pM hn];rfl
 have ha:aK (aW B) A (evalArgs v true (kQ pos (iT (e::es) aA)) []) (λa aS=>a.kw=[]/\aK (aW B) A (call v a.pos) Q E aS) E s:=by
  rw[he] at h ⊢;exact NX (eK h (λvs s' q=>⟨rfl,q⟩) λ_ _ q=>q)
 have rK:aK (aW B) A (evalArgs v true (kQ pos (iT (e::es) aA)) []) (λa aS=>aK (aW B) A (call v ([]++a.pos) a.kw) Q E aS) E s:=
  eK ha (λa s' q=>by rw[q.1];exact q.2) λ_ _ q=>q
 show aK (aW B) A (callWith pos v [] (kQ pos (iT (e::es) aA)) []) Q E s;rcases hv with ⟨id,rfl⟩|⟨T,rfl⟩
 ·exact Y5 hp rK
 ·exact aM9 hp rK
theorem aB.blt(b:oN B sc f v)(hv:(∃id,v=.builtin id)\/∃T,v=.type T)(hn:eR (e::es)=true)
 (ha:aZ B k sc vars (e::es) rs) (hc:cJ B k v rs r):aB B k sc vars (.Call (.Name f p) (e::es) [] pos) r:=by
 intro A aA g s Q E P K;refine Ni b hv hn P (ha A aA g s pos _ E P λvs s' g' X bF=>?_);exact hc A g' s' vs Q E (P.room.mono X.keep.le) X.ok bF λv t gt Y hr=>K v t gt (X.trans Y) hr
theorem fW.bU(r:fW B h g vs [x]):∃v,vs=[v]/\eW B h g v x:=by
 cases r with|cons a r=>cases r;exact⟨_,rfl,a⟩
theorem fW.kE(r:fW B h g vs [x,y]):∃v w,vs=[v,w]/\eW B h g v x/\eW B h g w y:=by
 cases r with|cons a r=>obtain⟨w,rfl,b⟩:=r.bU;exact⟨_,w,rfl,a,b⟩
theorem fW.Kf(r:fW B h g vs [x,y,z]):∃v w u,vs=[v,w,u]/\eW B h g v x/\eW B h g w y/\eW B h g u z:=by
 cases r with|cons a r=>obtain⟨w,u,rfl,b,c⟩:=r.kE;exact⟨_,w,u,rfl,a,b,c⟩
theorem VR.lW(h:VR B g v (.int i)):∃t,v=.int i t:=by obtain⟨_,rfl⟩:=VR.bB h;exact⟨_,rfl⟩
theorem cR.blt(b:oN B sc f v)(hv:(∃id,v=.builtin id)\/∃T,v=.type T)(hn:eR (e::es)=true)
 (ha:aZ B k sc vars (e::es) rs)
 (hc:∀(A:bM) (g:aT) (s:aF) (vs:List aD) (Q:aD->aF->Prop) (E:aD->aF->Prop),dS B k A s.heap->bI B g s.heap->fW B s.heap g vs rs->
  (∀it fp s' g',bT B s g s' g'->uC B fp s s' g'->gB B k A bP it fp xs g' s'->Gm B it fp s'->Q it s')->aK (aW B) A (call v vs) (λx aS=>aK (aW B) A (wW x) Q E aS) E s):
 cR B k sc vars bP (.Call (.Name f p) (e::es) [] pos) xs:=by
 intro A aA g s Q E P K;refine Ni b hv hn P (ha A aA g s pos _ E P λvs s' g' X bF=>?_);refine hc A g' s' vs Q E (P.room.mono X.keep.le) X.ok bF λit fp t gt Y ff io so=>K it fp t gt (X.trans Y) ?_ io so
 exact⟨ff.own,λb hb=>⟨X.keep.le.none (ff.cB b hb).1,(ff.cB b hb).2⟩,λi hi=>⟨(by
  have h1:=(ff.gen i hi).1;cases q:s.gens[i]? with
  |none=>rfl
  |some x=>(cases ((X.keep.gens.keep i x q).symm.trans h1))),(ff.gen i hi).2⟩⟩
theorem RR{bP:bJ}{A:bM}{g:aT}{bZ s:aF}{r:aH}{a b c:Int}{t u v:jB}{Q:aD->aF->Prop}{E:aD->aF->Prop}(X:bT B bZ g s g)(hr:AI s.heap r a b c t u v)(hs:Y6 a b c=true){n:Nat}(hn:Y7 a b c=n)
 (K:∀it fp s' g',bT B bZ g s' g'->uC B fp bZ s' g'->gB B k A bP it fp (vK a c n) g' s'->Gm B it fp s'->Q it s'):aK (aW B) A (wW (.ref r)) Q E s:=by
 refine wpAny_pyIter_range hr hs ?_;rw[hn];have Z:=bT.tE X.ok {cls:=.type "range_iterator",data:=.fields #[mI a,mI (n:Nat),mI c]};have cY:qN (s.heap.push {cls:=.type "range_iterator",data:=.fields #[mI a,mI (n:Nat),mI c]}) s.heap.objs.size a (n:Nat) c:=gU _ rfl;refine K _ ⟨[s.heap.objs.size],[]⟩ _ _ (X.trans Z) (.bU X _ rfl s.toks) (gB.range cY) ?_;intro A aS Q E same q;exact wpAny_pyIter_rangeiter (qN.same cY (same.at (.head _) (qN.cM cY))) q
theorem cR.xS{bP:bJ}{p pos:dI}{e:bJ}{n:Nat}{i:Int}(b:oN B sc "range" (.type "range"))(hn:eR [e]=true)(h:aB B k sc vars e (.int i))(hi:i=n)(hb:n<2^62):cR B k sc vars bP (.Call (.Name "range" p) [e] [] pos) (vK 0 1 n):=by
 subst hi;refine cR.blt b (.inr ⟨_,rfl⟩) hn (aZ.cons h.ar .nil λaA=>pM hn) λA g s vs Q E R G bF K=>?_;obtain⟨v,rfl,hv⟩:=bF.bU;obtain⟨t,rfl⟩:=VR.lW hv;refine call_range_1 ?_;refine RR (.GC G _ _) (gU _ rfl) (small_one (by decide) (by decide) (F8 _) (C1 hb)) ?_ K;rw[rangeSize_one];split
 ·exact Int.sub_zero _
 ·next h=>exact Sv (jM n) (pG.mp h)
theorem aZ.c(h:gQ B k sc vars e r)(hs:aZ B k sc vars es rs)(hn:eR (e::es)=true):aZ B k sc vars (e::es) (r::rs):=aZ.cons h hs λ_=>pM hn
theorem cR.aIt{bP:bJ}{p pos:dI}{e e' Sj:bJ}{n:Nat}{i j:Int}(b:oN B sc "range" (.type "range"))(hn:eR [e,e',Sj]=true)(h:aB B k sc vars e (.int i))(h':aB B k sc vars e' (.int j))(nR:aB B k sc vars Sj (.int (-1)))
 (hi: -(2^61)<i/\i<2^61) (hj: -(2^61)<j/\j<2^61) (dO:i-j=n):
 cR B k sc vars bP (.Call (.Name "range" p) [e,e',Sj] [] pos) (vK i (-1) n):=by
 refine cR.blt b (.inr ⟨_,rfl⟩) hn (.c h.ar (.c h'.ar (.c nR.ar .nil (vI (vI hn))) (vI hn)) hn) λA g s vs Q E R G bF K=>?_;obtain⟨v,w,x,rfl,hv,hw,hx⟩:=bF.Kf;obtain⟨t,rfl⟩:=VR.lW hv;obtain⟨u,rfl⟩:=VR.lW hw;obtain⟨t',rfl⟩:=VR.lW hx;refine call_range_3 (by decide) ?_ (.inl (aM5 (by decide)));refine RR (.GC G _ _) (gU _ rfl) (small_down (zB (Mq (by decide) hi.1)) (Mq hi.2 (by decide)) (zB (Mq (by decide) hj.1)) (Mq hj.2 (by decide))) ?_ K;rw[rangeSize_down];split
 ·exact dO
 ·next h=>exact Sv (jM n) (dO▸Int.sub_nonpos_of_le (pG.mp h))
end
section
variable {B:BD} {k:Nat} {sc:bR} {vars:aU}
noncomputable def tB:Nat->List AV->List AV
 |_,[]=>[]
 |i,x::xs=>.cD [.int i,x]::tB (i+1) xs
theorem aHv:tB i (x::l)=.cD [.int i,x]::tB (i+1) l:=rfl
theorem dS.C7(R:dS B k A h):A.in1.handled=none:=R.handled
theorem Am(h:b∉a::l):b≠a:=λq=>h (q▸.head _)
theorem Xb(h:b∉a::l):b∉l:=λq=>h (.tail _ q)
theorem He(h:b∉c::a::l):b≠a:=Am (Xb h)
theorem Pm(h:b∉c::d::a::l):b≠a:=He (Xb h)
theorem Pl(h:b∉c::d::e::a::l):b≠a:=Pm (Xb h)
theorem B8(h:b∉c::d::e::f::a::l):b≠a:=Pl (Xb h)
theorem Ld{P:aH->Prop}{a:aH}{l:List aH}(h:P a)(t:∀b∈l,P b):∀b∈a::l,P b:=λb hb=>by
 cases hb with
 |head=>exact h
 |tail _ q=>exact t b q
theorem lV.of(h:∀b∈l,∃o,s.heap.get? b=some o/\eD o):lV ⟨l,[]⟩ s:=⟨λb hb=>let⟨o,e,q⟩:=h b hb;⟨o,e,.inl q⟩,λ_ q=>nomatch q⟩
theorem iX.get(x:iX ⟨l,[]⟩ s s')(h:∀b∈l,∃o,s.heap.get? b=some o/\eD o):∀b∈l,s'.heap.get? b=s.heap.get? b:=λb hb=>x.at hb (h b hb)
theorem iX.has(x:iX ⟨l,[]⟩ s s')(h:∀b∈l,∃o,s.heap.get? b=some o/\eD o):∀b∈l,∃o,s'.heap.get? b=some o:=λb hb=>let⟨o,e,_⟩:=h b hb;⟨o,(x.get h b hb).trans e⟩
theorem Wg{h:bH}{b:aH}(x:∃o,h.get? b=some o):h.objs.size≠b:=λq=>by
 obtain⟨o,e⟩:=x;rw[<-q,bH.jN] at e;cases e
theorem DZ{l:List aH}{g:aT}{s:aF}{h:bH}{tk:Nat}{vs:List aD}{xs:List AV}(G:bI B g s.heap)(own:pA B ⟨l,[]⟩ g)(lv:∀b∈l,∃o,s.heap.get? b=some o)(kb:∀b o,b∉l->s.heap.get? b=some o->h.get? b=some o)(hT:h.get? s.heap.objs.size=some (gA vs.toArray 0))(r:bD B g vs xs):
 ∃g',fU s.heap g g'/\bI B g' h/\eL B ⟨l,[]⟩ s {s with heap:=h,toks:=tk}/\pA B ⟨l,[]⟩ g'/\VR B g' (.ref s.heap.objs.size) (.cD xs):=by
 have nT:=bH.jN s.heap;have f1:=G.fresh nT;have px:=fU.eF (gA vs.toArray 0) f1 nT;exact⟨_,px,(G.uR kb own.dM own.new).eF f1 hT Gf,.of kb,⟨λb hb=>(if_neg (gJ (Wg (lv b hb)))).trans (own.dM _ hb),own.new⟩,.cD (aT.jY _ _ _) (r.mono px.sub)⟩
theorem gB.Dv{A:bM}{sL:List bJ}{n':Nat}{tp:dI}{e it:aH}{Zo:List aH}{n:Nat}{P:Nat->aD->Prop}{St:Nat->bH->Prop}(dD:e≠it)(LN:e∉Zo)(hH:∀i h,St i h->∃o,h.get? it=some o/\eD o)
 (D:∀A:bM,A.handled=none->Draws B.prog B.w A it Zo n P St):∀{xs:List AV} {i:Nat} {old:aD} {g:aT} {s:aF},Tc s.heap e it i old->St i s.heap->i+xs.length=n->
 (∀b∈Zo,b=it\/∃o,g b=some o/\s.heap.get? b=some o)->(∀j x v,xs[j]?=some x->P (i+j) v->VR B g v x)->gB B k A (.Tuple sL n' tp) (.ref e) ⟨[e,it],[]⟩ (tB i xs) g s
 |xs,i,old,g,s,he,pW,hn,Rv,hP=>by
  have lv:∀b∈([e,it]:List aH),∃o,s.heap.get? b=some o/\eD o:=Ld ⟨_,he,jX rfl (by nofun)⟩ (Ld (hH _ _ pW) nofun)
  have mv:∀{dZ:aT} {aS:aF},A.handled=none->bI B dZ aS.heap->g.Sub dZ->iX ⟨[e,it],[]⟩ s aS->Tc aS.heap e it i old/\St i aS.heap:=λR G sub same=>by
   refine⟨(same.get lv _ (.head _)).trans he,(D A R).frame i _ _ pW λb hb o eo=>?_⟩;rcases Rv b hb with q|⟨o',q,q'⟩
   ·rw[q] at eo ⊢;exact(same.get lv _ (.tail _ (.head _))).trans eo
   ·cases (q'.symm.trans eo);exact G.at (sub _ _ q)
  match xs with
  |[]=>
   refine⟨.of lv,λdZ aS Q E R G sub same own K=>?_⟩;obtain⟨Rx,HV⟩:=mv R.handled G sub same;cases (hn);refine aNa (D A.in1 R.C7) Rx HV λh' hx=>?_;have kb:∀b o,b∉([e,it]:List aH)->aS.heap.get? b=some o->h'.get? b=some o:=λb o hb=>hx b o (He hb);exact K _ (.of kb) (G.uR kb own.dM own.new)
  |x::xs=>
   refine⟨.of lv,λdZ aS Q E R G sub same own K=>?_⟩;obtain⟨Rx,HV⟩:=mv R.handled G sub same;have Yt:i+1+xs.length=n:=(NY _ _ _).trans hn;have hM:=qO (rO i) (Yt▸jD _ _);refine aNb (D A.in1 R.C7) Rx HV hM dD LN λv h' tk hv LQ HU hT iF hk=>?_;refine⟨_,rfl,aNc LQ λnR LP hs=>?_⟩;have Ee:=same.has lv;obtain⟨g2,px,G2,kb,ow,vr⟩:=DZ G own Ee (λb o hb eo=>(hs.2 b (Am hb)).trans (hk b o (Am hb) (He hb) eo)) ((hs.2 _ (Wg (Ee _ (.head _)))).trans hT) (.cons (.int _ _) (.cons ((hP 0 x v rfl hv).mono sub) .nil));have sb:g.Sub g2:=λb o q=>px.sub _ _ (sub _ _ q);refine K _ _ _ _ (.refl _ _) kb px G2 ow vr (gB.Dv dD LN hH D LP ((D A R.handled).frame _ _ _ HU λb hb o eo=>(hs.2 b λq=>LN (q▸hb)).trans eo) Yt ?_ λj y u hj hu=>(hP (j+1) y u hj ((congrArg (P · u) (NY i 1 j)).mp hu)).mono sb);intro b hb;rcases Rv b hb with q|⟨o,q,_⟩
   ·exact .inl q
   ·exact .inr ⟨o,sb _ _ q,G2.at (sb _ _ q)⟩
theorem Gm.Dv(h:Tc s.heap e it i old):Gm B (.ref e) ⟨e::l,[]⟩ s:=λA aS Q E same q=>AJ ((same.at (.head _) ⟨_,h,jX rfl (by nofun)⟩).trans h) q
theorem uC.kE(X:bT B bZ g s g')(hk:∀b o,s.heap.get? b=some o->h'.get? b=some o)(he:s.heap.objs.size<=e)(hi:s.heap.objs.size<=it)(le:∃o,h'.get? e=some o)(li:∃o,h'.get? it=some o):
 uC B ⟨[e,it],[]⟩ bZ {s with heap:=h'} g':=by
 have n1:∀b,s.heap.objs.size<=b->s.heap.get? b=none:=λb hb=>by
  cases q:s.heap.get? b with
  |none=>rfl
  |some o=>exact absurd (gS q) (pH.mpr hb)
 have ne:=n1 _ he;have ni:=n1 _ hi;refine⟨⟨λb hb=>?_,λb hb=>?_⟩,λb hb=>?_,λi hi=>nomatch hi⟩
 all_goals (have hb:b=e\/b=it:=by simpa using hb)
 ·rcases hb with rfl|rfl
  ·exact X.ok.fresh ne
  ·exact X.ok.fresh ni
 ·rcases hb with rfl|rfl
  ·exact X.ok.uB ne
  ·exact X.ok.uB ni
 ·rcases hb with rfl|rfl
  ·exact⟨X.keep.le.none ne,le⟩
  ·exact⟨X.keep.le.none ni,li⟩
theorem cR.tB{sL:List bJ}{n':Nat}{tp:dI}{p pos:dI}{e:bJ}{xs:List AV}(b:oN B sc "enumerate" (.type "enumerate"))(hn:eR [e]=true)(h:aB B k sc vars e (.aO xs)):
 cR B k sc vars (.Tuple sL n' tp) (.Call (.Name "enumerate" p) [e] [] pos) (Mini.Internal.tB 0 xs):=by
 refine cR.blt b (.inr ⟨_,rfl⟩) hn (.c h.ar .nil hn) λA g s vs Q E R G bF K=>?_;obtain⟨v,rfl,hv⟩:=bF.bU;obtain⟨l,vs,n,rfl,ho,r⟩:=VR.bB hv;refine call_enumerate_list (G.pN ho) λh' he hi iF hk=>?_;refine AJ he ?_;have Z:bT B s g {s with heap:=h'} g:=.of G (.of hk) λb _=>hk b;have hl:=gS (G.at ho);obtain⟨oi,Rm,_⟩:=id hi;refine K _ ⟨[s.heap.objs.size+1,s.heap.objs.size],[]⟩ _ _ Z (.kE (.refl G) hk (Iy _) (dH _) ⟨_,he⟩ ⟨oi,Rm⟩) ?_ (.Dv he)
 refine gB.Dv (Mr _) ?_ (λ_ _ x=>IsListIter.cM x.1)
  (λA hh=>Draws.list hh _ l (rP hl) _) he ⟨hi,Z.ok.pN ho⟩ (by simp[r.length]) ?_ ?_
 ·intro hm
  rcases cE.mp hm with q|q
  ·exact absurd q (Mr _)
  ·exact absurd (cW.mp q) (wX (AA hl))
 ·intro b hb
  rcases cE.mp hb with rfl|hb
  ·exact .inl rfl
  ·rw[cW.mp hb];exact .inr ⟨_,ho,Z.ok.at ho⟩
 ·intro j x v hj hv
  obtain⟨v',h1,h2⟩:=r.get hj;have:v'=v:=by simp[h1] at hv;exact hv
  exact this▸h2
theorem cR.ZV{sL:List bJ}{n':Nat}{tp:dI}{p pos:dI}{e:bJ}{x:aC}(b:oN B sc "enumerate" (.type "enumerate"))(hn:eR [e]=true)(h:aB B k sc vars e (.str x)):
 cR B k sc vars (.Tuple sL n' tp) (.Call (.Name "enumerate" p) [e] [] pos) (Mini.Internal.tB 0 (We x.cps.toList)):=by
 refine cR.blt b (.inr ⟨_,rfl⟩) hn (.c h.ar .nil hn) λA g s vs Q E R G bF K=>?_;obtain⟨v,rfl,hv⟩:=bF.bU;obtain⟨t,rfl⟩:=VR.bB hv;refine aNd λh' he hi iF hk=>?_;refine AJ he ?_;have Z:bT B s g {s with heap:=h'} g:=.of G (.of hk) λb _=>hk b;obtain⟨oi,Rm,_⟩:=id hi;refine K _ ⟨[s.heap.objs.size+1,s.heap.objs.size],[]⟩ _ _ Z (.kE (.refl G) hk (Iy _) (dH _) ⟨_,he⟩ ⟨oi,Rm⟩) ?_ (.Dv he)
 refine gB.Dv (Zo:=[s.heap.objs.size]) (n:=x.cps.size) (P:=λi v=>∃c u,x.cps[i]?=some c/\v=.str ⟨#[c]⟩ u) (St:=λi h=>h.IsStrIter s.heap.objs.size (Mp x) x t i) (Mr _) ?_ (λ_ _ x=>IsStrIter.cM x)
  (λA hh=>?_) he hi (by simp[We]) ?_ ?_
 ·intro hm;exact absurd (cW.mp hm) (Mr _)
 ·rcases BZ x with q|q
  ·rw[q];exact Y8 hh _ x t
  ·rw[q];exact Y9 hh _ x t
 ·intro b hb
  exact .inl (cW.mp hb)
 ·rintro j y v hj ⟨c,u,hc,rfl⟩
  simp only[We,Bv,Eu] at hj;obtain⟨c',h1,rfl⟩:=hj;have:c'=c:=by simp at h1 hc;rw[h1] at hc;exact AK hc
  subst this;exact .str _ _
noncomputable def Kr:List AV->List AV->List AV
 |x::xs,y::ys=>.cD [x,y]::Kr xs ys
 |_,_=>[]
theorem aIb:Kr (x::l) (y::m)=.cD [x,y]::Kr l m:=rfl
theorem gB.Ww{A:bM}{sL:List bJ}{n':Nat}{tp:dI}{z TI TO i1 i2 l1 l2:aH}{vs ws:List aD}{n m:Nat}(D:ZipApart z TI TO i1 i2 l1 l2):∀{xs ys:List AV} {k1 k2:Nat} {a b:aD} {g:aT} {s:aF},
 IsZip s.heap z TI TO .none->IsPair s.heap TI (.ref i1) (.ref i2)->IsPair s.heap TO a b->s.heap.IsListIter i1 l1 k1->s.heap.IsListIter i2 l2 k2->g l1=some (dP vs.toArray n)->g l2=some (dP ws.toArray m)->g TI=some (gA #[.ref i1,.ref i2] 0)->
 bD B g (vs.drop k1) xs->bD B g (ws.drop k2) ys->gB B k A (.Tuple sL n' tp) (.ref z) ⟨[z,TO,i1,i2],[]⟩ (Kr xs ys) g s
 |xs,ys,k1,k2,a,b,g,s,hz,hTI,R0,h1,h2,wN,nQ,MK,r1,r2=>by
  have lv:∀b∈([z,TO,i1,i2]:List aH),∃o,s.heap.get? b=some o/\eD o:=Ld ⟨_,hz,jX rfl (by nofun)⟩ (Ld ⟨_,R0,jX rfl (by nofun)⟩ (Ld (IsListIter.cM h1) (Ld (IsListIter.cM h2) nofun)))
  have mv:∀{dZ:aT} {aS:aF},bI B dZ aS.heap->g.Sub dZ->iX ⟨[z,TO,i1,i2],[]⟩ s aS->IsZip aS.heap z TI TO .none/\IsPair aS.heap TI (.ref i1) (.ref i2)/\IsPair aS.heap TO a b/\aS.heap.IsListIter i1 l1 k1/\aS.heap.IsListIter i2 l2 k2:=λG sub same=>by
   have w:=same.get lv;exact⟨(w _ (.head _)).trans hz,G.at (sub _ _ MK),(w _ (.tail _ (.head _))).trans R0,IsListIter.same h1 (w _ (.tail _ (.tail _ (.head _)))),IsListIter.same h2 (w _ (.tail _ (.tail _ (.tail _ (.head _)))))⟩
  have mD:((∃x iA,xs=x::iA)->¬∃y Qj,ys=y::Qj)->gB B k A (.Tuple sL n' tp) (.ref z) ⟨[z,TO,i1,i2],[]⟩ [] g s:=λRo=>by
   refine⟨.of lv,λdZ aS Q E R G sub same own K=>?_⟩;obtain⟨gZ,IE,ID,yT,nC⟩:=mv G sub same;refine wpAny_pyNext_zip_end R.handled D gZ IE ID yT nC (G.pN (sub _ _ wN)) (G.pN (sub _ _ nQ)) ?_ λh' hk=>?_
   ·cases xs with
    |nil=>exact .inl (by simpa using r1.Oe)
    |cons x xs=>
     cases ys with
     |nil=>exact .inr (by simpa using r2.Oe)
     |cons y ys=>exact absurd ⟨y,ys,rfl⟩ (Ro ⟨x,xs,rfl⟩)
   ·have kb:∀b o,b∉([z,TO,i1,i2]:List aH)->aS.heap.get? b=some o->h'.get? b=some o:=λb o hb=>hk b o (Am hb) (He hb) (Pm hb) (Pl hb)
    exact K _ (.of kb) (G.uR kb own.dM own.new)
  match xs,ys with
  |[],ys=>exact mD λ⟨_,_,q⟩=>nomatch q
  |x::xs,[]=>exact mD λ_ ⟨_,_,q⟩=>nomatch q
  |x::xs,y::ys=>
   refine⟨.of lv,λdZ aS Q E R G sub same own K=>?_⟩;obtain⟨gZ,IE,ID,yT,nC⟩:=mv G sub same;obtain⟨v,hv,vx,rx⟩:=r1.drop;obtain⟨u,hu,uy,ry⟩:=r2.drop;refine wpAny_pyNext_zip_item D gZ IE ID yT nC (G.pN (sub _ _ wN)) (G.pN (sub _ _ nQ)) (by simpa using hv) (by simpa using hu) λh' z2 TO2 i1' i2' hT iF hk=>?_;refine⟨_,rfl,aNe z2 λnR z3 hs=>?_⟩;have Ee:=same.has lv;obtain⟨g2,px,G2,kb,ow,vr⟩:=DZ G own Ee (λb o hb eo=>(hs.2 b (Am hb)).trans (hk b o (Am hb) (He hb) (Pm hb) (Pl hb) eo)) ((hs.2 _ (Wg (Ee _ (.head _)))).trans hT) (.cons (vx.mono sub) (.cons (uy.mono sub) .nil));have sb:g.Sub g2:=λb o q=>px.sub _ _ (sub _ _ q);refine K _ _ _ _ (.refl _ _) kb px G2 ow vr ?_
   ·refine gB.Ww D z3 (G2.at (sb _ _ MK)) ((hs.2 _ D.TOz).trans TO2) ?_ ?_ (sb _ _ wN) (sb _ _ nQ) (sb _ _ MK) (rx.mono sb) (ry.mono sb)
    ·exact IsListIter.same i1' (hs.2 _ D.i1z)
    ·exact IsListIter.same i2' (hs.2 _ D.i2z)
end
noncomputable def cT(x:aC)(lv:LV):aU->aU
 |[]=>[(x,lv)]
 |(y,l)::r=>if y==x then(y,lv)::r else(y,l)::cT x lv r
theorem aIe:cT x lv []=[(x,lv)]:=rfl
theorem aIf:cT x lv ((y,l)::r)=if y==x then(y,lv)::r else(y,l)::cT x lv r:=rfl
theorem jW(x:aC)(lv:LV)(y:aC):∀vars:aU,(cT x lv vars).lookup y=if y=x then some lv else vars.lookup y
 |[]=>by
  rw[aIe];rw[mJ,List.lookup_nil]
  by_cases h:y=x
  ·subst h;simp
  ·rw[if_neg h,beq_eq_false_iff_ne.mpr h]
 |(z,l)::r=>by
  rw[aIf]
  by_cases hz:(z==x)=true
  ·rw[if_pos hz,mJ,mJ]
   have:=gX hz;subst this
   by_cases h:y=z
   ·subst h;simp
   ·rw[if_neg h,beq_eq_false_iff_ne.mpr h]
  ·rw[if_neg hz,mJ,mJ,jW x lv y r]
   by_cases h:y=z
   ·subst h
    have:y≠x:=λq=>hz (by rw[q];exact beq_self_eq_true x);simp[if_neg this]
   ·rw[beq_eq_false_iff_ne.mpr h]
section
variable {B:BD} {k:Nat} {sc:bR} {vars:aU}
def nF(B:BD)(h:bH)(g:aT)(a:aH)(v:aD):LV->Prop
 |.val av=>VR B g v av
 |.own xs=>v=.ref a/\∃vs n,h.get? a=some (dP vs n)/\bD B g vs.toList xs
theorem nF.M3(x:nF B h g a v lv):eW B h g v lv:=by
 cases lv with
 |val av=>exact x
 |own xs=>obtain⟨rfl,vs,n,ho,r⟩:=x;exact⟨a,vs,n,rfl,ho,r⟩
theorem nF.mono(x:nF B h g a v lv)(l:∀o,h.get? a=some o->eD o->h'.get? a=some o)(e:g.Sub g'):nF B h' g' a v lv:=by
 cases lv with
 |val av=>exact VR.mono e x
 |own xs=>obtain⟨rfl,vs,n,ho,r⟩:=x;exact⟨rfl,vs,n,l _ ho jE,r.mono e⟩
structure fM where
 s:aF
 g:aT
 fI:Fp
 cQ:Option aC
 Lb:aH
 guard:List (Fp×aF)
 bY:List bO
structure Ai(B:BD)(aN:fM)(s:aF):Prop where
 le:Le B.base B.base aN.s.heap
 rA:∀b∈aN.fI.cB,B.base.get? b=none
 sC:aN.fI.gen=[]
 qD:∀b∈aN.fI.cB,∃o,aN.s.heap.get? b=some o
 fI:∀b∈aN.fI.cB,∃o,s.heap.get? b=some o
def Wq(aA:bO)(vars:aU):Prop:=∀y lv,vars.lookup y=some lv->aA.kindOf y=some .local\/aA.kindOf y=some .cell\/aA.kindOf y=some .free
structure Gd(aN:fM)(g:aT)(s:aF)(L:aH)(Sh:List (aC×aH)):Prop where
 same:∀p∈aN.guard,iX p.1 p.2 s
 live:∀p∈aN.guard,lV p.1 s
 nY:∀p∈aN.guard,lV p.1 p.2
 dM:∀p∈aN.guard,Ik p.1 g
 new:∀p∈aN.guard,(∀b∈p.1.cB,aN.s.heap.get? b=none)/\∀i∈p.1.gen,aN.s.gens[i]?=none
 dU:∀p∈aN.guard,L∉p.1.cB
 eE:∀p∈aN.guard,∀x c,Sh.lookup x=some c->c∉p.1.cB
 oL:aN.guard.Pairwise λp q=>(∀b∈p.1.cB,b∉q.1.cB)/\∀i∈p.1.gen,i∉q.1.gen
structure aY(B:BD)(aN:fM)(aA:bO)(cs:List (aC×aH))(own:aC->aH)(vars:aU)(g:aT)(s:aF):Prop where
 en:Ai B aN s
 kd:Wq aA vars
 keep:eL B aN.fI aN.s s
 ext:fU aN.s.heap aN.g g
 ok:bI B g s.heap
 kind:aA.scope.kind=.function
 eH:aA.globals=jU
 blt:aA.builtins=qM
 dX:∃m,s.heap.Ns aA.locals m/\∀x lv,vars.lookup x=some lv->aA.kindOf x=some .local->∃v,m x=some v/\nF B s.heap g (own x) v lv
 gH:∀x lv,vars.lookup x=some lv->(aA.kindOf x=some .cell\/aA.kindOf x=some .free)->∃c v,aA.cells.lookup x=some c/\s.heap.IsCell c (some v)/\nF B s.heap g (own x) v lv
 iG:∀x c,(x,c)∈cs->aA.cells.lookup x=some c/\aA.kindOf x=some .cell/\∃v,s.heap.IsCell c v
 dU:g aA.locals=none/\aN.s.heap.get? aA.locals=none
 eE:∀x c,(x,c)∈cs->g c=none/\aN.s.heap.get? c=none
 kL:∀x c y d,(x,c)∈cs->aA.cells.lookup y=some d->x≠y->c≠d
 gF:∀x xs,vars.lookup x=some (.own xs)->g (own x)=none/\(aN.s.heap.get? (own x)=none\/(own x∈aN.fI.cB/\aN.cQ=some x))/\∀p∈aN.guard,own x∉p.1.cB
 jI:∀x xs y ys,vars.lookup x=some (.own xs)->vars.lookup y=some (.own ys)->x≠y->own x≠own y
 cQ:∀x xs,vars.lookup x=some (.own xs)->aN.cQ=some x->own x=aN.Lb
 gd:Gd aN g s aA.locals aA.cells
 iL:∀x c,aA.cells.lookup x=some c->∃v,s.heap.IsCell c v
 fr:kD B s.heap aN.bY
 lJ:∀e∈aN.bY,∀L,e.frame=some L->L=aA.locals\/∃o,aN.s.heap.get? L=some o
variable {aN:fM} {aA:bO} {cs:List (aC×aH)} {own:aC->aH} {g g':aT} {s s':aF}
theorem aY.aMe(x:aY B aN aA cs own vars g s):Qi B s.heap g aA vars where
 kind:=x.kind
 eH:=x.eH
 blt:=x.blt
 dX:=by obtain⟨m,n,r⟩:=x.dX;exact⟨m,n,λy lv h1 h2=>by obtain⟨v,h3,h4⟩:=r y lv h1 h2;exact⟨v,h3,h4.M3⟩⟩
 gH:=λy lv h1 h2=>by obtain⟨c,v,h3,h4,h5⟩:=x.gH y lv h1 h2;exact⟨c,v,h3,h4,h5.M3⟩
theorem aY.pre(x:aY B aN aA cs own vars g s)(R:dS B k A s.heap)(sr:SR B aA sc):iQ B k A sc vars aA g s:=⟨R,sr,x.aMe,x.ok⟩
theorem eL.then(x:eL B fp s s')(y:oI B.base s' dF):eL B fp s dF:=by
 refine⟨λb o hb e=>?_,λi v hi e=>y.gens.keep i v (x.keep i v hi e),y.gens.bare∘x.bare,y.os.trans x.os⟩;exact(x.le b o hb e).trans (y.le b)
theorem eL.Ap(x:eL B fp s s')(hb:b∉fp.cB)(e:s'.heap.get? b=none):s.heap.get? b=none:=by
 cases q:s.heap.get? b with
 |none=>rfl
 |some o=>
  obtain⟨o',r⟩:=(x.le b o hb q).there;cases (e.symm.trans r)
theorem qV{h:bH}{a:aH}{m:aC->Option aD}(n:h.Ns a m):∃o,h.get? a=some o:=by obtain⟨o,_,_,e,_⟩:=n;exact⟨o,e⟩
theorem zO{h:bH}{a:aH}{v:Option aD}(n:h.IsCell a v):∃o,h.get? a=some o:=by obtain⟨o,e,_⟩:=n;exact⟨o,e⟩
theorem fU.dM(x:fU h g g')(e:g a=none)(l:∃o,h.get? a=some o):g' a=none:=by
 cases q:g' a with
 |none=>rfl
 |some o=>
  obtain⟨o',l⟩:=l;rcases x.new a o q with r|r
  ·cases (e.symm.trans r)
  ·cases (l.symm.trans r)
theorem aY.tA(x:aY B aN aA cs own vars g s)(h:vars.lookup y=some (.own xs))(hk:aA.kindOf y=some .local\/aA.kindOf y=some .cell\/aA.kindOf y=some .free):∃vs n,s.heap.get? (own y)=some (dP vs n)/\bD B g vs.toList xs:=by
 rcases hk with hk|hk
 ·obtain⟨m,n,r⟩:=x.dX
  obtain⟨v,_,q⟩:=r y _ h hk;exact q.2
 ·obtain⟨c,v,_,_,q⟩:=x.gH y _ h hk
  exact q.2
theorem Ai.post(en:Ai B aN s)(y:oI B.base s s'):Ai B aN s':=⟨en.le,en.rA,en.sC,en.qD,λb hb=>by obtain⟨_,q⟩:=en.fI b hb;exact y.le.there q⟩
theorem lV.post(x:lV fp s)(y:oI B.base s s'):lV fp s':=⟨λb hb=>by obtain⟨o,e,hd⟩:=x.cB b hb;exact((y.le b o e).Dt hd).2,λi hi=>by obtain⟨v,e⟩:=x.gen i hi;exact⟨v,y.gens.keep i v e⟩⟩
theorem iX.post(x:iX fp bZ s)(l:lV fp s)(y:oI B.base s s'):iX fp bZ s':=⟨λb hb=>(x.1 b hb).then λo e=>by
 obtain⟨o2,e2,hd⟩:=l.cB b hb;cases (e.symm.trans e2);exact((y.le b o e).Dt hd).1,λi hi=>by
 obtain⟨v,e⟩:=l.gen i hi
 rw[<-x.2 i hi,e];exact y.gens.keep i v e⟩
theorem Gd.post(x:Gd aN g s L Sh)(y:bT B s g s' g'):Gd aN g' s' L Sh where
 same:=λp hp=>(x.same p hp).post (x.live p hp) y.keep
 live:=λp hp=>(x.live p hp).post y.keep
 nY:=x.nY
 dM:=λp hp b hb=>y.ext.dM (x.dM p hp b hb) (by obtain⟨o,e,_⟩:=(x.live p hp).cB b hb;exact⟨o,e⟩)
 new:=x.new
 dU:=x.dU
 eE:=x.eE
 oL:=x.oL
theorem lV.jL(x:lV fp s)(hs:kU a s.heap h')(ha:a∉fp.cB)(tk:Nat):lV fp {s with heap:=h',toks:=tk}:=
 ⟨λb hb=>by obtain⟨o,e,hd⟩:=x.cB b hb;exact⟨o,(hs.2 b λq=>ha (q▸hb)).trans e,hd⟩,x.gen⟩
theorem iX.jL(x:iX fp bZ s)(hs:kU a s.heap h')(ha:a∉fp.cB)(tk:Nat):iX fp bZ {s with heap:=h',toks:=tk}:=
 ⟨λb hb=>(x.1 b hb).then λo e=>.inl ((hs.2 b λq=>ha (q▸hb)).trans e),x.2⟩
theorem Gd.jL(x:Gd aN g s L Sh)(hs:kU a s.heap h')(ha:∀p∈aN.guard,a∉p.1.cB)(tk:Nat):Gd aN g {s with heap:=h',toks:=tk} L Sh where
 same:=λp hp=>(x.same p hp).jL hs (ha p hp) tk
 live:=λp hp=>(x.live p hp).jL hs (ha p hp) tk
 nY:=x.nY
 dM:=x.dM
 new:=x.new
 dU:=x.dU
 eE:=x.eE
 oL:=x.oL
theorem kD.jL(x:kD B h l)(hs:kU a h h')(hd:∀m,h.Ns a m->∃m',h'.Ns a m'):kD B h' l:=λe he=>by
 obtain⟨b,L,m,h1,h2,h3⟩:=x e he
 by_cases q:L=a
 ·subst q
  obtain⟨m',r⟩:=hd m h3;exact⟨b,L,m',h1,h2,r⟩
 ·exact⟨b,L,m,h1,h2,h3.sameBut hs q⟩
theorem aY.post(x:aY B aN aA cs own vars g s)(y:bT B s g s' g'):aY B aN aA cs own vars g' s' where
 en:=x.en.post y.keep
 kd:=x.kd
 keep:=x.keep.then y.keep
 ext:=⟨x.ext.sub.trans y.ext.sub,λb o e=>by
  rcases y.ext.new b o e with q|q
  ·exact x.ext.new b o q
  ·refine .inr (x.keep.Ap (λhb=>?_) q)
   obtain⟨o',r⟩:=x.en.fI b hb
   cases (r.symm.trans q)⟩
 ok:=y.ok
 kind:=x.kind
 eH:=x.eH
 blt:=x.blt
 dX:=by obtain⟨m,n,r⟩:=x.dX;exact⟨m,y.keep.le.ns n,λz lv h1 h2=>by obtain⟨v,h3,h4⟩:=r z lv h1 h2;exact⟨v,h3,h4.mono (λo e hd=>y.keep.le.cM e hd) y.ext.sub⟩⟩
 gH:=λz lv h1 h2=>by obtain⟨c,v,h3,h4,h5⟩:=x.gH z lv h1 h2;exact⟨c,v,h3,y.keep.le.uD h4,h5.mono (λo e hd=>y.keep.le.cM e hd) y.ext.sub⟩
 iG:=λz c h=>by obtain⟨a,b,v,q⟩:=x.iG z c h;exact⟨a,b,v,y.keep.le.uD q⟩
 dU:=⟨y.ext.dM x.dU.1 (by obtain⟨_,n,_⟩:=x.dX;exact qV n),x.dU.2⟩
 eE:=λz c h=>⟨y.ext.dM (x.eE z c h).1 (by obtain⟨_,_,_,q⟩:=x.iG z c h;exact zO q),(x.eE z c h).2⟩
 kL:=x.kL
 gF:=λz xs h=>⟨y.ext.dM (x.gF z xs h).1 (by obtain⟨_,_,q,_⟩:=x.tA h (x.kd z _ h);exact⟨_,q⟩),(x.gF z xs h).2⟩
 jI:=x.jI
 cQ:=x.cQ
 gd:=x.gd.post y
 iL:=λz c h=>by obtain⟨v,q⟩:=x.iL z c h;exact⟨v,y.keep.le.uD q⟩
 fr:=x.fr.mono y.keep.le
 lJ:=x.lJ
theorem eL.jL(x:eL B fp s s')(hs:kU a s'.heap h')(ha:s.heap.get? a=none\/a∈fp.cB):eL B fp s {s' with heap:=h',toks:=tk}:=by
 refine⟨λb o hb e=>?_,x.keep,x.bare,x.os⟩
 have LW:b≠a:=λq=>by
  subst q;rcases ha with q|q
  ·cases (e.symm.trans q)
  ·exact hb q
 have e2:=hs.2 b LW;exact(x.le b o hb e).trans λo' q=>.inl (e2.trans q)
theorem bI.jL(G:bI B g h)(hs:kU a h h')(ha:g a=none)(hb:B.base.get? a=none):bI B g h':=
 G.uR (fp:=⟨[a],[]⟩) (λb o hb e=>(hs.2 b (by simpa using hb)).trans e) (λb q=>by rw[cW.mp q];exact ha) (λb q=>by rw[cW.mp q];exact hb)
theorem Nk{h:bH}{L c:aH}{m:aC->Option aD}{v:Option aD}(n:h.Ns L m)(q:h.IsCell c v):c≠L:=by
 rintro rfl;obtain⟨o,es,ep,e,d,_⟩:=n;obtain⟨o',e',d'⟩:=q;cases (e.symm.trans e');cases (d.symm.trans d')
theorem Gc{h:bH}{L a:aH}{m:aC->Option aD}{vs:Array aD}{n:Nat}(x:h.Ns L m)(q:h.get? a=some (dP vs n)):a≠L:=by
 rintro rfl;obtain⟨o,es,ep,e,d,_⟩:=x;cases (e.symm.trans q);cases d
theorem CD{h:bH}{c a:aH}{v:Option aD}{vs:Array aD}{n:Nat}(x:h.IsCell c v)(q:h.get? a=some (dP vs n)):a≠c:=by
 rintro rfl;obtain⟨o,e,d⟩:=x;cases (e.symm.trans q);cases d
theorem Ai.base(en:Ai B aN s)(h:aN.s.heap.get? a=AG\/a∈aN.fI.cB):B.base.get? a=AG:=h.elim (λq=>en.le.none q) (en.rA a)
theorem Ai.jL(en:Ai B aN s)(hs:kU a s.heap h')(l:∃o,h'.get? a=some o):Ai B aN {s with heap:=h',toks:=tk}:=⟨en.le,en.rA,en.sC,en.qD,λb hb=>by
 by_cases q:b=a
 ·subst q;exact l
 ·obtain⟨o,r⟩:=en.fI b hb;exact⟨o,(hs.2 b q).trans r⟩⟩
theorem jZ(h:(cT y l vars).lookup z=some lv):(y=z/\l=lv)\/(¬z=y/\vars.lookup z=some lv):=by
 rw[jW] at h
 by_cases hz:z=y
 ·rw[if_pos hz] at h;exact .inl ⟨hz.symm,AK h⟩
 ·rw[if_neg hz] at h;exact .inr ⟨hz,h⟩
theorem Wq.set(kd:Wq aA vars)(hy:aA.kindOf y=some .local\/aA.kindOf y=some .cell\/aA.kindOf y=some .free):Wq aA (cT y lv vars):=λz l h=>by
 rcases jZ h with ⟨rfl,_⟩|⟨_,h⟩
 ·exact hy
 ·exact kd z l h
theorem aY.HE(x:aY B aN aA cs own vars g s){y:aC}{v:aD}{av:AV}{h':bH}{m:aC->Option aD}(hn:s.heap.Ns aA.locals m)(hr:∀z lv,vars.lookup z=some lv->aA.kindOf z=some .local->∃v,m z=some v/\nF B s.heap g (own z) v lv)
 (hy:aA.kindOf y=some .local) (hv:VR B g v av) (n':h'.Ns aA.locals λz=>if z=y then some v else m z) (hs:kU aA.locals s.heap h') (tk:Nat):
 aY B aN aA cs own (cT y (.val av) vars) g {s with heap:=h',toks:=tk}:=by
 have Pa:∀z lv v,vars.lookup z=some lv->nF B s.heap g (own z) v lv->nF B h' g (own z) v lv:=λz lv v h q=>by
  cases lv with
  |val a=>exact q
  |own xs=>
   obtain⟨rfl,vs,n,e,r⟩:=q;exact⟨rfl,vs,n,(hs.2 _ (Gc hn e)).trans e,r⟩
 refine⟨x.en.jL hs (qV n'),x.kd.set (.inl hy),x.keep.jL hs (.inl x.dU.2),x.ext,x.ok.jL hs x.dU.1 (x.en.base (.inl x.dU.2)),x.kind,x.eH,x.blt,⟨_,n',λz lv h1 h2=>?_⟩,λz lv h1 h2=>?_,λz c h=>?_,x.dU,x.eE,x.kL,λz xs h=>?_,λz xs u us h1 h2 dD=>?_,λz xs h1 h2=>?_,x.gd.jL hs x.gd.dU tk,λz c h=>by obtain⟨v,q⟩:=x.iL z c h;exact⟨v,q.sameBut hs (Nk hn q)⟩,x.fr.jL hs λ_ _=>⟨_,n'⟩,x.lJ⟩
 ·rcases jZ h1 with ⟨rfl,rfl⟩|⟨hz,h1⟩
  ·exact⟨v,if_pos rfl,hv⟩
  ·obtain⟨u,h3,h4⟩:=hr z lv h1 h2
   exact⟨u,(if_neg hz).trans h3,Pa z lv u h1 h4⟩
 ·rcases jZ h1 with ⟨rfl,_⟩|⟨hz,h1⟩
  ·rcases h2 with q|q<;>cases hy.symm.trans q
  ·obtain⟨c,u,h3,h4,h5⟩:=x.gH z lv h1 h2
   exact⟨c,u,h3,h4.sameBut hs (Nk hn h4),Pa z lv u h1 h5⟩
 ·obtain⟨a,b,u,q⟩:=x.iG z c h
  exact⟨a,b,u,q.sameBut hs (Nk hn q)⟩
 ·rcases jZ h with ⟨_,q⟩|⟨_,h⟩
  ·cases q
  ·exact x.gF z xs h
 ·rcases jZ h1 with ⟨_,q⟩|⟨_,h1⟩
  ·cases q
  ·rcases jZ h2 with ⟨_,q⟩|⟨_,h2⟩
   ·cases q
   ·exact x.jI z xs u us h1 h2 dD
 ·rcases jZ h1 with ⟨_,q⟩|⟨_,h1⟩
  ·cases q
  ·exact x.cQ z xs h1 h2
theorem aY.B0(x:aY B aN aA cs own vars g s){y:aC}{c:aH}{v:aD}{av:AV}{h':bH}(hy:(y,c)∈cs)(hv:VR B g v av)(n':h'.IsCell c (some v))(hs:kU c s.heap h')(tk:Nat):
 aY B aN aA cs own (cT y (.val av) vars) g {s with heap:=h',toks:=tk}:=by
 obtain⟨hc,hk,aP6,Ab⟩:=x.iG y c hy;have dM:=x.eE y c hy;obtain⟨m,hn,hr⟩:=x.dX
 have Pa:∀z lv v,vars.lookup z=some lv->nF B s.heap g (own z) v lv->nF B h' g (own z) v lv:=λz lv v h q=>by
  cases lv with
  |val a=>exact q
  |own xs=>
   obtain⟨rfl,vs,n,e,r⟩:=q;exact⟨rfl,vs,n,(hs.2 _ (CD Ab e)).trans e,r⟩
 have nL:=gJ (Nk hn Ab)
 refine⟨x.en.jL hs (zO n'),x.kd.set (.inr (.inl hk)),x.keep.jL hs (.inl dM.2),x.ext,x.ok.jL hs dM.1 (x.en.base (.inl dM.2)),x.kind,x.eH,x.blt,⟨m,hn.sameBut hs nL,λz lv h1 h2=>?_⟩,λz lv h1 h2=>?_,λz d h=>?_,x.dU,x.eE,x.kL,λz xs h=>?_,λz xs u us h1 h2 dD=>?_,λz xs h1 h2=>?_,x.gd.jL hs (λp hp=>x.gd.eE p hp y c hc) tk,λz d h=>by
  obtain⟨v,q⟩:=x.iL z d h
  by_cases hd:d=c
  ·subst hd;exact⟨_,n'⟩
  ·exact⟨v,q.sameBut hs hd⟩,x.fr.jL hs λm q=>absurd rfl (Nk q Ab),x.lJ⟩
 ·rcases jZ h1 with ⟨rfl,_⟩|⟨hz,h1⟩
  ·cases hk.symm.trans h2
  ·obtain⟨u,h3,h4⟩:=hr z lv h1 h2
   exact⟨u,h3,Pa z lv u h1 h4⟩
 ·rcases jZ h1 with ⟨rfl,rfl⟩|⟨hz,h1⟩
  ·exact⟨c,v,hc,n',hv⟩
  ·obtain⟨d,u,h3,h4,h5⟩:=x.gH z lv h1 h2
   exact⟨d,u,h3,h4.sameBut hs (gJ (x.kL y c z d hy h3 (gJ hz))),Pa z lv u h1 h5⟩
 ·obtain⟨a,b,u,q⟩:=x.iG z d h
  by_cases hd:d=c
  ·subst hd;exact⟨a,b,_,n'⟩
  ·exact⟨a,b,u,q.sameBut hs hd⟩
 ·rcases jZ h with ⟨_,q⟩|⟨_,h⟩
  ·cases q
  ·exact x.gF z xs h
 ·rcases jZ h1 with ⟨_,q⟩|⟨_,h1⟩
  ·cases q
  ·rcases jZ h2 with ⟨_,q⟩|⟨_,h2⟩
   ·cases q
   ·exact x.jI z xs u us h1 h2 dD
 ·rcases jZ h1 with ⟨_,q⟩|⟨_,h1⟩
  ·cases q
  ·exact x.cQ z xs h1 h2
mutual
inductive fN:bJ->AV->List (aC×AV)->Prop where
 |name (x:aC) (p:dI) (v:AV):fN (.Name x p) v [(x,v)]
 |cD {es:List bJ} {n:Nat} {p:dI} {vs:List AV} {bs:List (aC×AV)}:yI es vs bs->fN (.Tuple es n p) (.cD vs) bs
inductive yI:List bJ->List AV->List (aC×AV)->Prop where
 |nil:yI [] [] []
 |cons {e:bJ} {es:List bJ} {v:AV} {vs:List AV} {bs Br:List (aC×AV)}:fN e v bs->yI es vs Br->yI (e::es) (v::vs) (bs++Br)
end
noncomputable def fH:List (aC×AV)->aU->aU
 |[],vars=>vars
 |(x,v)::bs,vars=>fH bs (cT x (.val v) vars)
theorem aAr(bs Br:List (aC×AV))(vars:aU):fH (bs++Br) vars=fH Br (fH bs vars):=by
 induction bs generalizing vars with
 |nil=>rfl
 |cons b bs ih=>exact ih _
def qU(aA:bO)(cs:List (aC×aH))(x:aC):Prop:=aA.kindOf x=some .local\/∃c,(x,c)∈cs
theorem zL(S:aY B aN aA cs own vars g s)(hx:qU aA cs x)(hv:VR B g v av)
 (K:∀s',aY B aN aA cs own (cT x (.val av) vars) g s'->Q () s'):aK (aW B) A (Ms aA x v) Q E s:=by
 rcases hx with hx|⟨c,hc⟩
 ·obtain⟨m,n,r⟩:=S.dX
  refine Fb hx n (λh' n' hs=>K _ (S.HE n r hx hv n' hs _)) ?_;rw[S.kind];rfl
 ·obtain⟨a,b,u,q⟩:=S.iG x c hc
  exact aNf S.kind b a q λh' n' hs=>K _ (S.B0 hc hv n' hs _)
theorem aY.tE(x:aY B aN aA cs own vars g s)(hk:∀b o,s.heap.get? b=some o->h'.get? b=some o):aY B aN aA cs own vars g {s with heap:=h',toks:=tk}:=x.post (.of x.ok (.of hk) λb _=>hk b)
theorem aBj(h:yI ts yX bs):ts.length=yX.length:=by
 induction ts generalizing yX bs with
 |nil=>cases h;rfl
 |cons t ts ih=>cases h with|cons _ r=>simp[ih r]
theorem DA(h:fN t av bs)(ts:List bJ):Fc (t::ts) aA=(false,assign t aA)::Fc ts aA:=by
 cases h<;>rfl
theorem aAi(h:yI ts yX bs):(Fc ts aA).length=ts.length:=by
 induction ts generalizing yX bs with
 |nil=>rfl
 |cons t ts ih=>cases h with|cons a r=>rw[DA a];simp[ih r]
theorem aAc(h:yI ts yX bs):(Fc ts aA).findIdx? (·.1)=none:=by
 induction ts generalizing yX bs with
 |nil=>rfl
 |cons t ts ih=>cases h with|cons a r=>rw[DA a,aNg];simp[ih r]
theorem aAh(h:yI ts yX bs):(Fc ts aA).map (·.2)=ts.map λt=>assign t aA:=by
 induction ts generalizing yX bs with
 |nil=>rfl
 |cons t ts ih=>cases h with|cons a r=>rw[DA a,nU,nU,ih r]
theorem fN.Xq{P:bJ->AV->List (aC×AV)->Prop}{Q:List bJ->List AV->List (aC×AV)->Prop}(h1:∀x p v,P (.Name x p) v [(x,v)])
 (h2:∀{es:List bJ} {n:Nat} {p:dI} {vs:List AV} {bs:List (aC×AV)},yI es vs bs->Q es vs bs->P (.Tuple es n p) (.cD vs) bs) (h3:Q [] [] [])
 (h4:∀{e:bJ} {es:List bJ} {v:AV} {vs:List AV} {bs Br:List (aC×AV)},fN e v bs->yI es vs Br->P e v bs->Q es vs Br->Q (e::es) (v::vs) (bs++Br)):(∀{e:bJ} {v:AV} {bs:List (aC×AV)},fN e v bs->P e v bs):=
 λh=>fN.rec h1 h2 h3 h4 h
def aK2(B:BD)(aN:fM)(aA:bO)(cs:List (aC×aH))(own:aC->aH)(A:bM)(E:aD->aF->Prop)(t:bJ)(av:AV)(bs:List (aC×AV)):Prop:=
 ∀(vars:aU) (g:aT) (s:aF) (v:aD) (Q:Unit->aF->Prop),(∀b∈bs,qU aA cs b.1)->aY B aN aA cs own vars g s->VR B g v av->(∀s',aY B aN aA cs own (fH bs vars) g s'->Q () s')->aK (aW B) A (assign t aA v) Q E s
def aJm(B:BD)(aN:fM)(aA:bO)(cs:List (aC×aH))(own:aC->aH)(A:bM)(E:aD->aF->Prop)(ts:List bJ)(yX:List AV)(bs:List (aC×AV)):Prop:=
 ∀(vars:aU) (g:aT) (s:aF) (vs:List aD) (Q:Unit->aF->Prop),(∀b∈bs,qU aA cs b.1)->aY B aN aA cs own vars g s->bD B g vs yX->(∀s',aY B aN aA cs own (fH bs vars) g s'->Q () s')->aK (aW B) A (Z0 (ts.map λt=>assign t aA) vs) Q E s
theorem SX{A:bM}{E:aD->aF->Prop}(hh:A.handled=none){t:bJ}{av:AV}{bs:List (aC×AV)}{vars:aU}{g:aT}{s:aF}{v:aD}{Q:Unit->aF->Prop}(hb:fN t av bs)(hs:∀b∈bs,qU aA cs b.1)(S:aY B aN aA cs own vars g s)(hv:VR B g v av)
 (K:∀s',aY B aN aA cs own (fH bs vars) g s'->Q () s'):aK (aW B) A (assign t aA v) Q E s:=by
 refine fN.Xq (P:=aK2 B aN aA cs own A E) (Q:=aJm B aN aA cs own A E) (λx p av vars g s v Q hs S hv K=>AL (zL S (hs _ (.head _)) hv K)) (λhb ih vars g s v Q hs S hv K=>?_) (λvars g s vs Q hs S hv K=>?_)
  (λ_ _ h r vars g s vs Q hs S hv K=>?_) hb vars g s v Q hs S hv K
 ·obtain⟨_,_,_,rfl,ho,r⟩:=VR.bB hv
  have hl:=aBj hb;have nQ:=r.length;refine Z1 hh (S.ok.Jv ho) (by rw[aAi hb];exact hl.trans nQ.symm) (aAc hb) λh' hx=>?_;rw[aAh hb];refine ih _ _ _ _ _ hs (S.tE λb o e=>hx b o (λq=>?_) e) (by simpa using r) K;have:=bH.jN s.heap;rw[<-q,e] at this;cases this
 ·obtain rfl:=bD.bB hv
  exact Z2 (K s S)
 ·obtain⟨_,_,rfl,a,ar⟩:=bD.bB hv
  refine NZ (h _ _ _ _ _ (λb hb=>hs b (jV.mpr (.inl hb))) S a λs' S'=>?_);exact r _ _ _ _ _ (λb hb=>hs b (jV.mpr (.inr hb))) S' ar λdF NA=>K dF (by rw[aAr];exact NA)
end
section
variable {B:BD} {k:Nat} {sc:bR} {vars vars':aU} {aN:fM} {aA:bO} {cs:List (aC×aH)} {own cS:aC->aH} {g g':aT} {s s':aF}
theorem aY.B6(x:aY B aN aA cs own vars g s)(h:vars.lookup y=some (.own xs)):own y≠aA.locals:=by
 obtain⟨vs,n,e,_⟩:=x.tA h (x.kd y _ h);obtain⟨m,hn,_⟩:=x.dX;exact Gc hn e
theorem aY.Pk(x:aY B aN aA cs own vars g s)(h:vars.lookup y=some (.own xs))(hc:s.heap.IsCell c v):own y≠c:=by
 obtain⟨vs,n,e,_⟩:=x.tA h (x.kd y _ h);exact CD hc e
theorem aY.FV(x:aY B aN aA cs own vars g s)
 (h:∀y lv,vars'.lookup y=some lv->∃Ed,vars.lookup y=some Ed/\∀v,nF B s.heap g (own y) v Ed->nF B s.heap g (cS y) v lv)
 (gF:∀y xs,vars'.lookup y=some (.own xs)->g (cS y)=none/\(aN.s.heap.get? (cS y)=none\/(cS y∈aN.fI.cB/\aN.cQ=some y))/\∀p∈aN.guard,cS y∉p.1.cB)
 (jI:∀y xs z zs,vars'.lookup y=some (.own xs)->vars'.lookup z=some (.own zs)->y≠z->cS y≠cS z)
 (cQ:∀y xs,vars'.lookup y=some (.own xs)->aN.cQ=some y->cS y=aN.Lb):aY B aN aA cs cS vars' g s where
 en:=x.en
 kd:=λy lv e=>by obtain⟨Ed,e0,_⟩:=h y lv e;exact x.kd y Ed e0
 keep:=x.keep
 ext:=x.ext
 ok:=x.ok
 kind:=x.kind
 eH:=x.eH
 blt:=x.blt
 dX:=by obtain⟨m,n,r⟩:=x.dX;exact⟨m,n,λy lv h1 h2=>by obtain⟨Ed,e0,q⟩:=h y lv h1;obtain⟨v,h3,h4⟩:=r y Ed e0 h2;exact⟨v,h3,q v h4⟩⟩
 gH:=λy lv h1 h2=>by obtain⟨Ed,e0,q⟩:=h y lv h1;obtain⟨c,v,h3,h4,h5⟩:=x.gH y Ed e0 h2;exact⟨c,v,h3,h4,q v h5⟩
 iG:=x.iG
 dU:=x.dU
 eE:=x.eE
 kL:=x.kL
 gF:=gF
 jI:=jI
 cQ:=cQ
 gd:=x.gd
 iL:=x.iL
 fr:=x.fr
 lJ:=x.lJ
def fK(vars' vars:aU):Prop:=∀y lv,vars'.lookup y=some lv->vars.lookup y=some lv
theorem fK.refl(vars:aU):fK vars vars:=λ_ _ e=>e
theorem fK.nil(vars:aU):fK [] vars:=λ_ _ e=>nomatch e
theorem fK.cons(h:vars.lookup x=some lv)(r:fK vars' vars):fK ((x,lv)::vars') vars:=λy l e=>by
 rw[mJ] at e;cases q:y==x with
 |true=>rw[q] at e;cases e;rw[gX q];exact h
 |false=>rw[q] at e;exact r y l e
theorem aY.sub(x:aY B aN aA cs own vars g s)(h:fK vars' vars):aY B aN aA cs own vars' g s:=
 x.FV (λy lv e=>⟨lv,h y lv e,λ_ q=>q⟩) (λy xs e=>x.gF y xs (h y _ e)) (λy xs z zs e1 e2 hn=>x.jI y xs z zs (h y _ e1) (h z _ e2) hn) λy xs e1 e2=>x.cQ y xs (h y _ e1) e2
theorem aY.claim(x:aY B aN aA cs own vars g s)(hy:∃P,vars.lookup y=some (.val (.mZ 0 P))/\∀v,P g v->v=.ref a)(ha:g a=none)(hf:aN.s.heap.get? a=none)(hg:∀p∈aN.guard,a∉p.1.cB)
 (hl:∃vs n,s.heap.get? a=some (dP vs n)/\bD B g vs.toList xs) (hs:∀z zs,vars.lookup z=some (.own zs)->own z≠a) (IC:aN.cQ≠some y):
 aY B aN aA cs (λz=>if z=y then a else own z) (cT y (.own xs) vars) g s:=by
 refine x.FV (λz lv e=>?_) (λz zs e=>?_) (λz zs u us e1 e2 dD=>?_) (λz zs e1 e2=>?_)
 ·rcases jZ e with ⟨rfl,rfl⟩|⟨hz,e⟩
  ·obtain⟨P,h1,h2⟩:=hy
   refine⟨_,h1,λv hv=>?_⟩;rw[if_pos rfl];have hP:=VR.bB hv;exact⟨h2 v (hP g (.refl g)),hl⟩
  ·refine⟨lv,e,λv q=>?_⟩
   rw[if_neg hz];exact q
 ·rcases jZ e with ⟨rfl,_⟩|⟨hz,e⟩
  ·rw[if_pos rfl];exact⟨ha,.inl hf,hg⟩
  ·rw[if_neg hz];exact x.gF z zs e
 ·rw[jW] at e1 e2
  by_cases hz:z=y
  ·subst hz
   rw[if_neg (gJ dD)] at e2;rw[if_pos rfl,if_neg (gJ dD)];exact(hs u us e2).symm
  ·rw[if_neg hz] at e1 ⊢
   by_cases hu:u=y
   ·subst hu;rw[if_pos rfl];exact hs z zs e1
   ·rw[if_neg hu] at e2 ⊢;exact x.jI z zs u us e1 e2 dD
 ·rcases jZ e1 with ⟨rfl,_⟩|⟨hz,e1⟩
  ·exact absurd e2 IC
  ·rw[if_neg hz];exact x.cQ z zs e1 e2
theorem aY.jF(x:aY B aN aA cs own vars g s)(hy:vars.lookup y=some (.own xs))(IC:aN.cQ≠some y):
 ∃g',aY B aN aA cs own (cT y (.val (.aO xs)) vars) g' s/\g.Sub g':=by
 obtain⟨vs,n,e,r⟩:=x.tA hy (x.kd y _ hy);obtain⟨h1,h2,h3⟩:=x.gF y xs hy;have h2:=h2.elim id λq=>absurd q.2 IC;have sub:=(fU.eF (dP vs n) h1 h2).sub;have dM:∀a,g a=none->own y≠a->(g.eF (own y) (dP vs n)) a=none:=λa q dD=>(if_neg (gJ dD)).trans q
 have hv:∀v,nF B s.heap g (own y) v (.own xs)->VR B (g.eF (own y) (dP vs n)) v (.aO xs):=λv q=>by
  obtain⟨rfl,_⟩:=q;exact .aO (aT.jY _ _ _) (r.mono sub)
 refine⟨_,?_,sub⟩
 exact {
  en:=x.en
  kd:=x.kd.set (x.kd y _ hy)
  keep:=x.keep
  ext:=⟨x.ext.sub.trans sub,λb o q=>by
   have q:(if b=own y then some (dP vs n) else g b)=some o:=q
   by_cases hb:b=own y
   ·exact .inr (hb▸h2)
   ·rw[if_neg hb] at q;exact x.ext.new b o q⟩
  ok:=x.ok.eF h1 e jE
  kind:=x.kind
  eH:=x.eH
  blt:=x.blt
  dX:=by
   obtain⟨m,hn,q⟩:=x.dX;refine⟨m,hn,λz lv e1 e2=>?_⟩;rcases jZ e1 with ⟨rfl,rfl⟩|⟨hz,e1⟩
   ·obtain⟨v,q1,q2⟩:=q y _ hy e2
    exact⟨v,q1,hv v q2⟩
   ·obtain⟨v,q1,q2⟩:=q z _ e1 e2
    exact⟨v,q1,q2.mono (λ_ e _=>e) sub⟩
  gH:=λz lv e1 e2=>by
   rcases jZ e1 with ⟨rfl,rfl⟩|⟨hz,e1⟩
   ·obtain⟨c,v,q0,q1,q2⟩:=x.gH y _ hy e2
    exact⟨c,v,q0,q1,hv v q2⟩
   ·obtain⟨c,v,q0,q1,q2⟩:=x.gH z _ e1 e2
    exact⟨c,v,q0,q1,q2.mono (λ_ e _=>e) sub⟩
  iG:=x.iG
  dU:=⟨dM _ x.dU.1 (x.B6 hy),x.dU.2⟩
  eE:=λz c q=>⟨dM _ (x.eE z c q).1 (by obtain⟨_,_,_,hc⟩:=x.iG z c q;exact x.Pk hy hc),(x.eE z c q).2⟩
  kL:=x.kL
  gF:=λz zs q=>by
   rcases jZ q with ⟨_,q0⟩|⟨hz,q⟩
   ·cases q0
   ·obtain⟨a1,a2,a3⟩:=x.gF z zs q
    exact⟨dM _ a1 (x.jI y xs z zs hy q (gJ hz)),a2,a3⟩
  jI:=λz zs u us q1 q2 dD=>by
   rcases jZ q1 with ⟨_,q0⟩|⟨_,q1⟩
   ·cases q0
   ·rcases jZ q2 with ⟨_,q0⟩|⟨_,q2⟩
    ·cases q0
    ·exact x.jI z zs u us q1 q2 dD
  cQ:=λz zs q1 q2=>by
   rcases jZ q1 with ⟨_,q0⟩|⟨_,q1⟩
   ·cases q0
   ·exact x.cQ z zs q1 q2
  gd:=⟨x.gd.same,x.gd.live,x.gd.nY,λp hp b hb=>dM _ (x.gd.dM p hp b hb) (λq=>h3 p hp (q▸hb)),x.gd.new,x.gd.dU,x.gd.eE,x.gd.oL⟩
  iL:=x.iL
  fr:=x.fr
  lJ:=x.lJ}
theorem uK.ns(x:uK B.base l h h'){m}(ha:a∉l)(n:h.Ns a m):h'.Ns a m:=by obtain⟨o,es,ep,ho,hd,hs,hm⟩:=n;exact(x a o ha ho).ns hd hs hm
theorem uK.uD(x:uK B.base l h h')(hc:c∉l)(n:h.IsCell c v):h'.IsCell c v:=by obtain⟨o,ho,hd⟩:=n;exact(x c o hc ho).cell hd
theorem uK.there(x:uK B.base l h h')(hb:b∉l)(e:h.get? b=some o):∃o',h'.get? b=some o':=(x b o hb e).there
theorem kD.Wi(x:kD B h fl)(k:uK B.base l h h')(hd:∀b∈l,∀m,h.Ns b m->False):kD B h' fl:=λe he=>by
 obtain⟨a,L,m,h1,h2,h3⟩:=x e he;exact⟨a,L,m,h1,h2,k.ns (λq=>hd L q m h3) h3⟩
theorem eL.aGr(x:eL B fp s s')(y:eL B ⟨[a],[]⟩ s' dF)(ha:s.heap.get? a=none\/a∈fp.cB):eL B fp s dF:=by
 refine⟨λb o hb e=>?_,λi v hi e=>y.keep i v (by simp) (x.keep i v hi e),y.bare∘x.bare,y.os.trans x.os⟩
 have LW:b∉[a]:=λq=>by
  have q:=cW.mp q;rcases ha with r|r
  ·cases e.symm.trans (q▸r)
  ·exact hb (q▸r)
 exact(x.le b o hb e).trans λo' q=>y.le b o' LW q
theorem aY.HK(x:aY B aN aA cs own vars g s)(hy:vars.lookup y=some (.own xs))(hk:eL B ⟨[own y],[]⟩ s s')(he:fU s.heap g g')(G:bI B g' s'.heap)
 (hl:∃vs n,s'.heap.get? (own y)=some (dP vs n)/\bD B g' vs.toList iA):aY B aN aA cs own (cT y (.own iA) vars) g' s':=by
 obtain⟨h1,h2,h3⟩:=x.gF y xs hy;have ne:∀a,own y≠a->a∉[own y]:=λa q=>by simpa using gJ q
 have live:∀a o,own y≠a->s.heap.get? a=some o->eD o->s'.heap.get? a=some o:=λa o q e hd=>hk.le.cM (ne a q) e hd;have xY:∀a,g a=none->(∃o,s.heap.get? a=some o)->g' a=none:=λa q l=>he.dM q l
 have Ec:∀z lv v,z≠y->vars.lookup z=some lv->nF B s.heap g (own z) v lv->nF B s'.heap g' (own z) v lv:=λz lv v hz e q=>by
  cases lv with
  |val av=>exact VR.mono he.sub q
  |own zs=>
   obtain⟨rfl,vs,n,e',r⟩:=q;exact⟨rfl,vs,n,live _ _ (x.jI y xs z zs hy e (gJ hz)) e' jE,r.mono he.sub⟩
 exact {
  en:=⟨x.en.le,x.en.rA,x.en.sC,x.en.qD,λb hb=>by
   by_cases q:b=own y
   ·rw[q];obtain⟨vs,n,e,_⟩:=hl;exact⟨_,e⟩
   ·obtain⟨o,e⟩:=x.en.fI b hb
    exact hk.le.there (ne b (gJ q)) e⟩
  kd:=x.kd.set (x.kd y _ hy)
  keep:=x.keep.aGr hk (h2.imp id (·.1))
  ext:=⟨x.ext.sub.trans he.sub,λb o e=>by
   rcases he.new b o e with q|q
   ·exact x.ext.new b o q
   ·refine .inr (x.keep.Ap (λhb=>?_) q)
    obtain⟨o',r⟩:=x.en.fI b hb
    cases (r.symm.trans q)⟩
  ok:=G
  kind:=x.kind
  eH:=x.eH
  blt:=x.blt
  dX:=by
   obtain⟨m,hn,q⟩:=x.dX;refine⟨m,hk.le.ns (ne _ (x.B6 hy)) hn,λz lv e1 e2=>?_⟩;rcases jZ e1 with ⟨rfl,rfl⟩|⟨hz,e1⟩
   ·obtain⟨v,q1,q2⟩:=q y _ hy e2
    exact⟨v,q1,q2.1,hl⟩
   ·obtain⟨v,q1,q2⟩:=q z _ e1 e2
    exact⟨v,q1,Ec z lv v hz e1 q2⟩
  gH:=λz lv e1 e2=>by
   rcases jZ e1 with ⟨rfl,rfl⟩|⟨hz,e1⟩
   ·obtain⟨c,v,q0,q1,q2⟩:=x.gH y _ hy e2
    exact⟨c,v,q0,hk.le.uD (ne _ (x.Pk hy q1)) q1,q2.1,hl⟩
   ·obtain⟨c,v,q0,q1,q2⟩:=x.gH z _ e1 e2
    exact⟨c,v,q0,hk.le.uD (ne _ (x.Pk hy q1)) q1,Ec z lv v hz e1 q2⟩
  iG:=λz c q=>by obtain⟨a,b,v,hc⟩:=x.iG z c q;exact⟨a,b,v,hk.le.uD (ne _ (x.Pk hy hc)) hc⟩
  dU:=⟨xY _ x.dU.1 (by obtain⟨_,n,_⟩:=x.dX;exact qV n),x.dU.2⟩
  eE:=λz c q=>⟨xY _ (x.eE z c q).1 (by obtain⟨_,_,_,hc⟩:=x.iG z c q;exact zO hc),(x.eE z c q).2⟩
  kL:=x.kL
  gF:=λz zs q=>by
   have⟨uU,q'⟩:∃uU,vars.lookup z=some (.own uU):=by
    rcases jZ q with ⟨rfl,_⟩|⟨_,q⟩
    ·exact⟨_,hy⟩
    ·exact⟨_,q⟩
   obtain⟨a1,a2,a3⟩:=x.gF z uU q';exact⟨xY _ a1 (by obtain⟨_,_,e,_⟩:=x.tA q' (x.kd z _ q');exact⟨_,e⟩),a2,a3⟩
  jI:=λz zs u us q1 q2 dD=>by
   have f:∀z zs,(cT y (.own iA) vars).lookup z=some (.own zs)->∃uU,vars.lookup z=some (.own uU):=λz zs q=>by
    rcases jZ q with ⟨rfl,_⟩|⟨_,q⟩
    ·exact⟨_,hy⟩
    ·exact⟨_,q⟩
   obtain⟨uU,q1⟩:=f z zs q1;obtain⟨Lf,q2⟩:=f u us q2;exact x.jI z _ u _ q1 q2 dD
  cQ:=λz zs q q2=>by
   rcases jZ q with ⟨rfl,_⟩|⟨_,q⟩
   ·exact x.cQ y _ hy q2
   ·exact x.cQ z _ q q2
  gd:={
   same:=λp hp=>⟨λb hb=>((x.gd.same p hp).1 b hb).then λo e=>by
    obtain⟨o2,e2,hd⟩:=(x.gd.live p hp).cB b hb;cases (e.symm.trans e2);exact((hk.le b o (ne b (λq=>h3 p hp (q▸hb))) e).Dt hd).1,λi hi=>by
    obtain⟨v,e⟩:=(x.gd.live p hp).gen i hi
    rw[<-(x.gd.same p hp).2 i hi,e];exact hk.keep i v (by simp) e⟩
   live:=λp hp=>⟨λb hb=>by obtain⟨o,e,hd⟩:=(x.gd.live p hp).cB b hb;exact((hk.le b o (ne b (λq=>h3 p hp (q▸hb))) e).Dt hd).2,
    λi hi=>by obtain⟨v,e⟩:=(x.gd.live p hp).gen i hi;exact⟨v,hk.keep i v (by simp) e⟩⟩
   nY:=x.gd.nY
   dM:=λp hp b hb=>xY _ (x.gd.dM p hp b hb) (by obtain⟨o,e,_⟩:=(x.gd.live p hp).cB b hb;exact⟨o,e⟩)
   new:=x.gd.new
   dU:=x.gd.dU
   eE:=x.gd.eE
   oL:=x.gd.oL}
  iL:=λz c h=>by obtain⟨v,q⟩:=x.iL z c h;exact⟨v,hk.le.uD (ne _ (x.Pk hy q)) q⟩
  fr:=x.fr.Wi hk.le λb hb m q=>by
   obtain⟨vs,n,e',_⟩:=x.tA hy (x.kd y _ hy);exact absurd (cW.mp hb).symm (Gc q e')
  lJ:=x.lJ}
end
inductive jT where
 |cF (v:aU)|brk (v:aU)|cnt (v:aU)|ret (v:aU) (r:AV)
structure Fn where
 sc:bR
 cQ:Option aC:=none
 HD:List aC:=[]
structure eI(B:BD)(k:Nat)(A:bM)(F:Fn)(aN:fM)(aA:bO)(cs:List (aC×aH))(own:aC->aH)(vars:aU)(g:aT)(s:aF):Prop where
 handled:A.handled=none
 depth:A.depth+k<Iu
 units:A.units+40*k<cLine
 frames:A.frames=some aN.bY
 mT:aN.bY≠[]
 scope:aA.scope=F.sc
 cells:∀x,F.sc.names.lookup x=some .cell->F.HD.contains x=false->∃c,(x,c)∈cs
 cQ:aN.cQ=F.cQ
 code:∀q,nJ F.sc=some q->aA.code=(B.oF q).1/\aA.qual=(B.oF q).2
 st:aY B aN aA cs own vars g s
section
variable {B:BD} {k:Nat} {F:Fn} {A:bM} {vars vars':aU} {aN:fM} {aA:bO} {cs:List (aC×aH)} {own cS:aC->aH} {g g':aT} {s s':aF}
theorem eI.to(x:eI B k A F aN aA cs own vars g s)(y:aY B aN aA cs cS vars' g' s'):eI B k A F aN aA cs cS vars' g' s':=⟨x.handled,x.depth,x.units,x.frames,x.mT,x.scope,x.cells,x.cQ,x.code,y⟩
theorem eI.room(x:eI B k A F aN aA cs own vars g s):dS B k A s.heap:=by
 refine⟨x.handled,x.depth,x.units,?_⟩;have h1:=x.frames;have h2:=x.mT;have h3:=x.st.fr;revert h1 h2 h3;generalize aN.bY=l;intro h1 h2 h3;cases l with
 |nil=>exact absurd rfl h2
 |cons e l=>exact⟨e,l,h1,h3⟩
theorem eI.sr(x:eI B k A F aN aA cs own vars g s):SR B aA F.sc:=⟨λy kd h=>.inl (by unfold Fd;rw[x.scope];exact h),x.code⟩
theorem eI.kind(x:eI B k A F aN aA cs own vars g s)(h:F.sc.names.lookup y=some kd):aA.kindOf y=some kd:=by unfold Fd;rw[x.scope];exact h
theorem eI.pre(x:eI B k A F aN aA cs own vars g s):iQ B k A F.sc vars aA g s:=x.st.pre x.room x.sr
def iH(sc:bR)(x:aC):Prop:=sc.names.lookup x=some .local\/sc.names.lookup x=some .cell
def lT(F:Fn)(x:aC):Prop:=F.sc.names.lookup x=some .local\/(F.sc.names.lookup x=some .cell/\F.HD.contains x=false)
theorem eI.iE(x:eI B k A F aN aA cs own vars g s)(h:lT F y):qU aA cs y:=h.imp (λq=>x.kind q) λq=>x.cells y q.1 q.2
def Xv(B:BD)(aN:fM)(aA:bO)(cs:List (aC×aH)):jT->zD->aF->Prop
 |.cF vs,f,s'=>f=.next/\∃cS g',aY B aN aA cs cS vs g' s'
 |.brk vs,f,s'=>f=.brk/\∃cS g',aY B aN aA cs cS vs g' s'
 |.cnt vs,f,s'=>f=.cont/\∃cS g',aY B aN aA cs cS vs g' s'
 |.ret vs r,f,s'=>∃v cS g',f=.ret v/\VR B g' v r/\aY B aN aA cs cS vs g' s'
def aP(B:BD)(k:Nat)(F:Fn)(vars:aU)(st:dE)(out:jT):Prop:=
 ∀(A:bM) (aN:fM) (aA:bO) (cs:List (aC×aH)) (own:aC->aH) (g:aT) (s:aF) (Q:zD->aF->Prop) (E:aD->aF->Prop),eI B k A F aN aA cs own vars g s->
  (∀f s',Xv B aN aA cs out f s'->Q f s')->aK (aW B) A (exec st aA) Q E s
theorem aP.nx{B:BD}{k:Nat}{F:Fn}{vars v1:aU}{st:dE}(h:aP B k F vars st (.cF v1)){A:bM}{aN:fM}{aA:bO}{cs:List (aC×aH)}{own:aC->aH}{g:aT}{s:aF}{Q:zD->aF->Prop}{E:aD->aF->Prop}(P:eI B k A F aN aA cs own vars g s)
 (K:∀cS g' s',aY B aN aA cs cS v1 g' s'->Q .next s'):aK (aW B) A (exec st aA) Q E s:=h A aN aA cs own g s Q E P λf s' O=>by obtain⟨rfl,cS,g',S⟩:=O;exact K cS g' s' S
def aJ(B:BD)(k:Nat)(F:Fn)(vars:aU)(st:List dE)(out:jT):Prop:=
 ∀(A:bM) (aN:fM) (aA:bO) (cs:List (aC×aH)) (own:aC->aH) (g:aT) (s:aF) (Q:zD->aF->Prop) (E:aD->aF->Prop),eI B k A F aN aA cs own vars g s->
  (∀f s',Xv B aN aA cs out f s'->Q f s')->aK (aW B) A (execs st aA) Q E s
theorem aJ.nil:aJ B k F vars [] (.cF vars):=λA aN aA cs own g s Q E P K=>Td (K _ _ ⟨rfl,own,g,P.st⟩)
theorem aJ.cons{st:dE}{r:List dE}{v1:aU}{out:jT}(h:aP B k F vars st (.cF v1))(hr:aJ B k F v1 r out):aJ B k F vars (st::r) out:=λA aN aA cs own g s Q E P K=>by
 refine lN (h A aN aA cs own g s _ E P λf s' o=>?_);obtain⟨rfl,cS,g',S⟩:=o;exact hr A aN aA cs cS g' s' Q E (P.to S) K
noncomputable def jT.aJp:jT->Bool
 |.cF _=>false
 |_=>true
theorem aJ.stop{st:dE}{r:List dE}{out:jT}(h:aP B k F vars st out)(ho:out.aJp=true):aJ B k F vars (st::r) out:=λA aN aA cs own g s Q E P K=>by
 refine lN (h A aN aA cs own g s _ E P λf s' o=>?_);cases out with
 |cF=>cases ho
 |brk=>obtain⟨rfl,q⟩:=o;exact K _ _ ⟨rfl,q⟩
 |cnt=>obtain⟨rfl,q⟩:=o;exact K _ _ ⟨rfl,q⟩
 |ret=>obtain⟨v,a,b,rfl,q⟩:=o;exact K _ _ ⟨v,a,b,rfl,q⟩
theorem aJ.sub{v1:aU}{st:List dE}{out:jT}(hs:fK v1 vars)(h:aJ B k F v1 st out):aJ B k F vars st out:=λA aN aA cs own g s Q E P K=>h A aN aA cs own g s Q E (P.to (P.st.sub hs)) K
theorem aJ.dT{v1 v2:aU}{st:List dE}(h:aJ B k F vars st (.cF v1))(hs:fK v2 v1):aJ B k F vars st (.cF v2):=λA aN aA cs own g s Q E P K=>
 h A aN aA cs own g s Q E P λf s' ⟨e,cS,g',S⟩=>K f s' ⟨e,cS,g',S.sub hs⟩
theorem aP.dT{v1 v2:aU}{st:dE}(h:aP B k F vars st (.cF v1))(hs:fK v2 v1):aP B k F vars st (.cF v2):=λA aN aA cs own g s Q E P K=>
 h A aN aA cs own g s Q E P λf s' ⟨e,cS,g',S⟩=>K f s' ⟨e,cS,g',S.sub hs⟩
theorem aJ.jF{y:aC}{xs:List AV}{st:List dE}{out:jT}(hy:vars.lookup y=some (.own xs))(ha:F.cQ≠some y)(h:aJ B k F (cT y (.val (.aO xs)) vars) st out):aJ B k F vars st out:=λA aN aA cs own g s Q E P K=>by
 obtain⟨g',S,_⟩:=P.st.jF hy (by rw[P.cQ];exact ha);exact h A aN aA cs own g' s Q E (P.to S) K
theorem aP.brk:aP B k F vars (.Break p) (.brk vars):=λA aN aA cs own g s Q E P K=>wpAny_Break (K _ _ ⟨rfl,own,g,P.st⟩)
theorem aP.ret(h:aB B k F.sc vars e r):aP B k F vars (.Return (some e) p) (.ret vars r):=λA aN aA cs own g s Q E P K=>
 wpAny_Return_some (h A aA g s _ E P.pre λv s' g' X hv=>K _ _ ⟨v,own,g',rfl,hv,P.st.post X⟩)
theorem aP.Vt(n:fP F.sc vars x (.own xs))(ha:F.cQ≠some x):
 aP B k F vars (.Return (some (.Name x np)) p) (.ret (cT x (.val (.aO xs)) vars) (.aO xs)):=λA aN aA cs own g s Q E P K=>by
 obtain⟨g',S,_⟩:=P.st.jF n.var (by rw[P.cQ];exact ha);have n':fP F.sc (cT x (.val (.aO xs)) vars) x (.val (.aO xs)):=⟨n.kind,by rw[jW,if_pos rfl],n.rL,n.MT⟩
 exact aP.ret (aB.name n') A aN aA cs own g' s Q E (P.to S) K
theorem aP.ite(ht:bA B k F.sc vars t b)(h:aJ B k F vars (if b then body else pC) out):aP B k F vars (.If t body pC p) out:=λA aN aA cs own g s Q E P K=>by
 refine wpAny_If (ht A aA g s _ E P.pre λs' g' X=>?_);cases b with
 |true=>exact h A aN aA cs own g' s' Q E (P.to (P.st.post X)) K
 |false=>exact h A aN aA cs own g' s' Q E (P.to (P.st.post X)) K
theorem aP.expr(h:aB B k F.sc vars e r)(hs:∀aA,vE e none p.line aA=pure false):aP B k F vars (.Expr e p) (.cF vars):=λA aN aA cs own g s Q E P K=>by
 have hi:interactive aA=false:=by
  unfold interactive;rw[P.st.kind];rfl
 rw[exec_Expr aA e p hi (hs aA)];refine aM (pI (aM (eK (h A aA g s _ E P.pre λv s' g' X hv=>?_) (λ_ _ q=>q) λ_ _ q=>q)));exact wpAny_dropValue (K _ _ ⟨rfl,own,g',P.st.post X⟩)
theorem aP.aMl(h:bA B k F.sc vars t true):aP B k F vars (.Assert t none p) (.cF vars):=λA aN aA cs own g s Q E P K=>by
 refine wpAny_Assert P.handled (h A aA g s _ E P.pre λs' g' X=>?_);rw[if_pos rfl];exact K _ _ ⟨rfl,own,g',P.st.post X⟩
theorem aP.assign(h:aB B k F.sc vars e r)(hx:lT F x)(hs:∀aA,vE e (some (.Name x xp)) p.line aA=pure false):aP B k F vars (.Assign [.Name x xp] e p) (.cF (cT x (.val r) vars)):=λA aN aA cs own g s Q E P K=>by
 refine zE (h A aA g s _ E P.pre λv s' g' X hv=>?_) (hs aA);exact zL (P.st.post X) (P.iE hx) hv λdF S=>K _ _ ⟨rfl,own,g',S⟩
def lQ(B:BD)(k:Nat)(op:Operator)(x y:LV)(r:AV):Prop:=
 ∀(A:bM) (g:aT) (s:aF) (v w:aD) (Q:aD->aF->Prop) (E:aD->aF->Prop),dS B k A s.heap->bI B g s.heap->eW B s.heap g v x->eW B s.heap g w y->
  (∀v s' g',bT B s g s' g'->VR B g' v r->Q v s')->aK (aW B) A (inplaceOp op v w) Q E s
theorem lQ.add:lQ B k .Add (.val (.int a)) (.val (.int b)) (.int (a+b)):=by
 intro A g s v w Q E _ G hv hw K;obtain⟨_,rfl⟩:=VR.bB hv;obtain⟨_,rfl⟩:=VR.bB hw
 with_reducible exact PyProof.Rows.iadd_int (K _ _ _ (.toks G) (.int _ _))
theorem lQ.sub:lQ B k .Sub (.val (.int a)) (.val (.int b)) (.int (a-b)):=by
 intro A g s v w Q E _ G hv hw K;obtain⟨_,rfl⟩:=VR.bB hv;obtain⟨_,rfl⟩:=VR.bB hw
 with_reducible exact PyProof.Rows.isub_int (K _ _ _ (.toks G) (.int _ _))
theorem lQ.xX(h:a.length+b.length<=eJ):lQ B k .Add (.val (.str a)) (.val (.str b)) (.str (a++b)):=by
 intro A g s v w Q E _ G hv hw K;obtain⟨_,rfl⟩:=VR.bB hv;obtain⟨_,rfl⟩:=VR.bB hw
 with_reducible exact PyProof.Rows.iadd_str (λt' tk=>K _ _ _ (.toks G) (.str _ _)) h
theorem aP.Bt(n:fP F.sc vars x (.val a))(h:gQ B k F.sc vars e y)(ho:lQ B k op (.val a) y r)(hx:lT F x):
 aP B k F vars (.AugAssign (.Name x xp) op e p) (.cF (cT x (.val r) vars)):=λA aN aA cs own g s Q E P K=>by
 refine wpAny_AugAssign_Name (n.load P.pre λv hv=>h A aA g s _ E P.pre λw dF eP Y hw=>?_);have Zy:=P.to (P.st.post Y);refine ho A eP dF v w _ E Zy.room Zy.st.ok (VR.mono Y.ext.sub hv) hw λu t gt Z hu=>?_;exact zL (Zy.st.post Z) (Zy.iE hx) hu λs3 S=>K _ _ ⟨rfl,own,gt,S⟩
end
section
variable {B:BD} {k:Nat} {F:Fn} {A:bM} {vars vars':aU} {aN:fM} {aA:bO} {cs:List (aC×aH)} {own cS:aC->aH} {g g':aT} {s s':aF}
theorem aY.push(x:aY B aN aA cs own vars g s)(y:bT B s g s' g')(f:uC B fp s s' g')(l:lV fp s'):
 aY B {aN with guard:=(fp,s')::aN.guard} aA cs own vars g' s':=by
 have z:=x.post y;have nl:∀b,(∃o,s.heap.get? b=some o)->b∉fp.cB:=λb ⟨o,e⟩ hb=>by cases (((f.cB b hb).1).symm.trans e)
 have ng:∀i,(∃o,s.gens[i]?=some o)->i∉fp.gen:=λi ⟨o,e⟩ hi=>by cases (((f.gen i hi).1).symm.trans e)
 have hL:=nl _ (by obtain⟨_,n,_⟩:=x.dX;exact qV n)
 exact {
  en:=⟨z.en.le,z.en.rA,z.en.sC,z.en.qD,z.en.fI⟩
  kd:=z.kd,keep:=z.keep,ext:=z.ext,ok:=z.ok,kind:=z.kind,eH:=z.eH,blt:=z.blt,dX:=z.dX,gH:=z.gH,iG:=z.iG
  dU:=z.dU,eE:=z.eE,kL:=z.kL
  gF:=λw ws h=>by
   obtain⟨a,b,c⟩:=z.gF w ws h;refine⟨a,b,λp hp=>?_⟩;rcases cE.mp hp with rfl|hp
   ·exact nl _ (by obtain⟨_,_,e,_⟩:=x.tA h (x.kd _ _ h);exact⟨_,e⟩)
   ·exact c p hp
  jI:=z.jI,cQ:=z.cQ
  gd:={
   same:=λp hp=>by
    rcases cE.mp hp with rfl|hp
    ·exact .refl _ _
    ·exact z.gd.same p hp
   live:=λp hp=>by
    rcases cE.mp hp with rfl|hp
    ·exact l
    ·exact z.gd.live p hp
   nY:=λp hp=>by
    rcases cE.mp hp with rfl|hp
    ·exact l
    ·exact z.gd.nY p hp
   dM:=λp hp=>by
    rcases cE.mp hp with rfl|hp
    ·exact f.own.dM
    ·exact z.gd.dM p hp
   new:=λp hp=>by
    rcases cE.mp hp with rfl|hp
    ·refine⟨λb hb=>x.keep.Ap (λq=>nl b (x.en.fI b q) hb) (f.cB b hb).1,λi hi=>?_⟩
     cases q:aN.s.gens[i]? with
     |none=>rfl
     |some v=>exact absurd hi (ng i ⟨v,x.keep.keep i v (by rw[x.en.sC];simp) q⟩)
    ·exact z.gd.new p hp
   dU:=λp hp=>by
    rcases cE.mp hp with rfl|hp
    ·exact hL
    ·exact z.gd.dU p hp
   eE:=λp hp w c h=>by
    rcases cE.mp hp with rfl|hp
    ·exact nl _ (by obtain⟨_,q⟩:=x.iL w c h;exact zO q)
    ·exact z.gd.eE p hp w c h
   oL:=by
    refine Bw.mpr ⟨λq hq=>⟨λb hb h=>?_,λi hi h=>?_⟩,z.gd.oL⟩
    ·exact nl b (by obtain⟨o,e,_⟩:=(x.gd.live q hq).cB b h;exact⟨o,e⟩) hb
    ·exact ng i ((x.gd.live q hq).gen i h) hi}
  iL:=z.iL
  fr:=z.fr
  lJ:=z.lJ}
theorem aY.pop(x:aY B {aN with guard:=p::aN.guard} aA cs own vars g s):aY B aN aA cs own vars g s where
 en:=⟨x.en.le,x.en.rA,x.en.sC,x.en.qD,x.en.fI⟩
 kd:=x.kd
 keep:=x.keep
 ext:=x.ext
 ok:=x.ok
 kind:=x.kind
 eH:=x.eH
 blt:=x.blt
 dX:=x.dX
 gH:=x.gH
 iG:=x.iG
 dU:=x.dU
 eE:=x.eE
 kL:=x.kL
 gF:=λw ws h=>by obtain⟨a,b,c⟩:=x.gF w ws h;exact⟨a,b,λq hq=>c q (.tail _ hq)⟩
 jI:=x.jI
 cQ:=x.cQ
 gd:=⟨λq hq=>x.gd.same q (.tail _ hq),λq hq=>x.gd.live q (.tail _ hq),λq hq=>x.gd.nY q (.tail _ hq),λq hq=>x.gd.dM q (.tail _ hq),λq hq=>x.gd.new q (.tail _ hq),λq hq=>x.gd.dU q (.tail _ hq),
  λq hq=>x.gd.eE q (.tail _ hq),(Bw.mp x.gd.oL).2⟩
 iL:=x.iL
 fr:=x.fr
 lJ:=x.lJ
theorem FE(h:(pY++p::yU).Pairwise λp q:Fp×aF=>(∀b∈p.1.cB,b∉q.1.cB)/\∀i∈p.1.gen,i∉q.1.gen)(hq:q∈pY\/q∈yU):
 (∀b∈q.1.cB,b∉p.1.cB)/\∀i∈q.1.gen,i∉p.1.gen:=by
 obtain⟨h1,h2,h3⟩:=Te.mp h;rcases hq with hq|hq
 ·exact h3 q hq p (.head _)
 ·have:=(Bw.mp h2).1 q hq
  exact⟨λb hb h=>this.1 b h hb,λi hi h=>this.2 i h hi⟩
theorem aY.FR{fp:Fp}{s0:aF}{gd MJ:List (Fp×aF)}(x:aY B {aN with guard:=gd} aA cs own vars g s)(pX:(fp,s0)∈gd)(hk:eL B fp s s')(he:fU s.heap g g')(G:bI B g' s'.heap)
 (lZ:∀p∈MJ,∀b∈p.1.cB,(∃q∈gd,b∈q.1.cB)\/s.heap.get? b=none) (wQ:Gd {aN with guard:=MJ} g' s' aA.locals aA.cells):
 aY B {aN with guard:=MJ} aA cs own vars g' s':=by
 have qG:=x.gd.new _ pX;have hL:=x.gd.dU _ pX;have ZF:∀(b:aH) o,b∉fp.cB->s.heap.get? b=some o->eD o->s'.heap.get? b=some o:=λb o hb e hd=>hk.le.cM hb e hd
 have Ec:∀z lv v,vars.lookup z=some lv->nF B s.heap g (own z) v lv->nF B s'.heap g' (own z) v lv:=λz lv v e q=>by
  cases lv with
  |val av=>exact VR.mono he.sub q
  |own zs=>
   obtain⟨rfl,vs,n,e',r⟩:=q;exact⟨rfl,vs,n,ZF _ _ ((x.gF z zs e).2.2 _ pX) e' jE,r.mono he.sub⟩
 have xY:∀a,g a=none->(∃o,s.heap.get? a=some o)->g' a=none:=λa q l=>he.dM q l;have MO:∀z c,aA.cells.lookup z=some c->∀v,s.heap.IsCell c v->s'.heap.IsCell c v:=λz c hc v h=>hk.le.uD (x.gd.eE _ pX z c hc) h
 exact {
  en:=⟨x.en.le,x.en.rA,x.en.sC,x.en.qD,λb hb=>by
   obtain⟨o',e⟩:=x.en.fI b hb
   exact hk.le.there (λq=>by obtain⟨uX,Sj⟩:=x.en.qD b hb;have:=qG.1 b q;cases (this.symm.trans Sj)) e⟩
  kd:=x.kd
  keep:=⟨λb o' hb e=>by
   have Zf:b∉fp.cB:=λq=>by cases ((qG.1 b q).symm.trans e)
   exact(x.keep.le b o' hb e).trans λuX q=>hk.le b uX Zf q,
   λi v hi e=>hk.keep i v (λq=>by cases ((qG.2 i q).symm.trans e)) (x.keep.keep i v hi e),hk.bare∘x.keep.bare,hk.os.trans x.keep.os⟩
  ext:=⟨x.ext.sub.trans he.sub,λb o' e=>by
   rcases he.new b o' e with q|q
   ·exact x.ext.new b o' q
   ·refine .inr (x.keep.Ap (λhb=>?_) q)
    obtain⟨uX,r⟩:=x.en.fI b hb
    cases (r.symm.trans q)⟩
  ok:=G
  kind:=x.kind,eH:=x.eH,blt:=x.blt
  dX:=by
   obtain⟨m,n,r⟩:=x.dX;refine⟨m,hk.le.ns hL n,λz lv h1 h2=>?_⟩;obtain⟨v,h3,h4⟩:=r z lv h1 h2;exact⟨v,h3,Ec z lv v h1 h4⟩
  gH:=λz lv h1 h2=>by
   obtain⟨c,v,h3,h4,h5⟩:=x.gH z lv h1 h2;exact⟨c,v,h3,MO z c h3 _ h4,Ec z lv v h1 h5⟩
  iG:=λz c h=>by obtain⟨a,b,v,q⟩:=x.iG z c h;exact⟨a,b,v,MO z c a _ q⟩
  dU:=⟨xY _ x.dU.1 (by obtain⟨_,n,_⟩:=x.dX;exact qV n),x.dU.2⟩
  eE:=λz c h=>⟨xY _ (x.eE z c h).1 (by obtain⟨_,_,_,q⟩:=x.iG z c h;exact zO q),(x.eE z c h).2⟩
  kL:=x.kL
  gF:=λz zs h=>by
   obtain⟨a,b,c⟩:=x.gF z zs h;refine⟨xY _ a (by obtain⟨_,_,e,_⟩:=x.tA h (x.kd _ _ h);exact⟨_,e⟩),b,λp hp hb=>?_⟩;rcases lZ p hp _ hb with ⟨q,hq,e⟩|e
   ·exact c q hq e
   ·obtain⟨_,_,e',_⟩:=x.tA h (x.kd _ _ h)
    cases (e.symm.trans e')
  jI:=x.jI
  cQ:=x.cQ
  gd:=wQ
  iL:=λz c h=>by obtain⟨v,q⟩:=x.iL z c h;exact⟨v,MO z c h v q⟩
  fr:=λe he=>by
   obtain⟨a,L,m,h1,h2,h3⟩:=x.fr e he
   have hn:L∉fp.cB:=λq=>by
    rcases x.lJ e he L h1 with r|⟨o,r⟩
    ·exact hL (r▸q)
    ·cases ((qG.1 L q).symm.trans r)
   exact⟨a,L,m,h1,h2,hk.le.ns hn h3⟩
  lJ:=x.lJ}
theorem aY.step{fp iN:Fp}{s0:aF}{pY yU:List (Fp×aF)}(x:aY B {aN with guard:=pY++(fp,s0)::yU} aA cs own vars g s)(hk:eL B fp s s')(he:fU s.heap g g')(G:bI B g' s'.heap)(u:Hm fp iN s)(o:pA B iN g')(l:lV iN s'):
 aY B {aN with guard:=pY++(iN,s')::yU} aA cs own vars g' s':=by
 have pX:(fp,s0)∈pY++(fp,s0)::yU:=by simp
 have qG:=x.gd.new _ pX;have hL:=x.gd.dU _ pX;have ZF:∀(b:aH) o,b∉fp.cB->s.heap.get? b=some o->eD o->s'.heap.get? b=some o:=λb o hb e hd=>hk.le.cM hb e hd;have xY:∀a,g a=none->(∃o,s.heap.get? a=some o)->g' a=none:=λa q l=>he.dM q l
 have mem:∀p,p∈pY++(iN,s')::yU->p=(iN,s')\/(p∈pY++(fp,s0)::yU/\(p∈pY\/p∈yU)):=λp hp=>by
  rcases jV.mp hp with h|h
  ·exact .inr ⟨jV.mpr (.inl h),.inl h⟩
  ·rcases cE.mp h with h|h
   ·exact .inl h
   ·exact .inr ⟨jV.mpr (.inr (.tail _ h)),.inr h⟩
 refine x.FR pX hk he G (λp hp=>?_) ?_
 ·intro b hb
  rcases mem p hp with rfl|⟨hp,_⟩
  ·rcases u.cB b hb with q|q
   ·exact .inl ⟨_,pX,q⟩
   ·exact .inr q
  ·exact .inl ⟨p,hp,hb⟩
 ·exact {
   same:=λp hp=>by
    rcases mem p hp with rfl|⟨hp,hq⟩
    ·exact .refl _ _
    ·have d:=FE x.gd.oL hq
     refine⟨λb hb=>?_,λi hi=>?_⟩
     ·refine((x.gd.same p hp).1 b hb).then λo' e=>?_
      obtain⟨o2,e2,hd⟩:=(x.gd.live p hp).cB b hb;cases (e.symm.trans e2);exact((hk.le b o' (d.1 b hb) e).Dt hd).1
     ·obtain⟨v,e⟩:=(x.gd.live p hp).gen i hi
      rw[<-(x.gd.same p hp).2 i hi,e];exact hk.keep i v (d.2 i hi) e
   live:=λp hp=>by
    rcases mem p hp with rfl|⟨hp,hq⟩
    ·exact l
    ·have d:=FE x.gd.oL hq
     refine⟨λb hb=>?_,λi hi=>?_⟩
     ·obtain⟨o',e,hd⟩:=(x.gd.live p hp).cB b hb
      exact((hk.le b o' (d.1 b hb) e).Dt hd).2
     ·obtain⟨v,e⟩:=(x.gd.live p hp).gen i hi
      exact⟨v,hk.keep i v (d.2 i hi) e⟩
   nY:=λp hp=>by
    rcases mem p hp with rfl|⟨hp,_⟩
    ·exact l
    ·exact x.gd.nY p hp
   dM:=λp hp=>by
    rcases mem p hp with rfl|⟨hp,_⟩
    ·exact o.dM
    ·exact λb hb=>xY _ (x.gd.dM p hp b hb) (by obtain⟨o',e,_⟩:=(x.gd.live p hp).cB b hb;exact⟨o',e⟩)
   new:=λp hp=>by
    rcases mem p hp with rfl|⟨hp,_⟩
    ·refine⟨λb hb=>?_,λi hi=>?_⟩
     ·rcases u.cB b hb with q|q
      ·exact qG.1 b q
      ·refine x.keep.Ap (λh=>?_) q
       obtain⟨o',e⟩:=x.en.fI b h;cases (q.symm.trans e)
     ·rcases u.gen i hi with q|q
      ·exact qG.2 i q
      ·cases e:aN.s.gens[i]? with
       |none=>rfl
       |some v=>
        have:=x.keep.keep i v (by have:=x.en.sC;simp only at this;rw[this];simp) e;cases (q.symm.trans this)
    ·exact x.gd.new p hp
   dU:=λp hp=>by
    rcases mem p hp with rfl|⟨hp,_⟩
    ·intro hb
     rcases u.cB _ hb with q|q
     ·exact hL q
     ·obtain⟨_,n,_⟩:=x.dX
      obtain⟨o',e⟩:=qV n;cases (q.symm.trans e)
    ·exact x.gd.dU p hp
   eE:=λp hp=>by
    rcases mem p hp with rfl|⟨hp,_⟩
    ·intro z c hc hb
     rcases u.cB _ hb with q|q
     ·exact x.gd.eE (fp,s0) pX z c hc q
     ·obtain⟨_,n⟩:=x.iL z c hc
      obtain⟨o',e⟩:=zO n;cases (q.symm.trans e)
    ·exact x.gd.eE p hp
   oL:=by
    obtain⟨h1,h2,h3⟩:=Te.mp x.gd.oL;obtain⟨h4,h5⟩:=Bw.mp h2
    have la:∀q∈pY++(fp,s0)::yU,∀b∈q.1.cB,s.heap.get? b≠none:=λq hq b hb e=>by
     obtain⟨o',e',_⟩:=(x.gd.live q hq).cB b hb;cases (e.symm.trans e')
    have lg:∀q∈pY++(fp,s0)::yU,∀i∈q.1.gen,s.gens[i]?≠none:=λq hq i hi e=>by
     obtain⟨v,e'⟩:=(x.gd.live q hq).gen i hi;cases (e.symm.trans e')
    refine Te.mpr ⟨h1,Bw.mpr ⟨λq hq=>⟨λb hb dJ=>?_,λi hi eV=>?_⟩,h5⟩,λp hp q hq=>?_⟩
    ·rcases u.cB b hb with r|r
     ·exact(h4 q hq).1 b r dJ
     ·exact la q (jV.mpr (.inr (.tail _ hq))) b dJ r
    ·rcases u.gen i hi with r|r
     ·exact(h4 q hq).2 i r eV
     ·exact lg q (jV.mpr (.inr (.tail _ hq))) i eV r
    ·rcases cE.mp hq with rfl|hq
     ·have d:=h3 p hp (fp,s0) (.head _)
      refine⟨λb hb dJ=>?_,λi hi eV=>?_⟩
      ·rcases u.cB b dJ with r|r
       ·exact d.1 b hb r
       ·exact la p (jV.mpr (.inl hp)) b hb r
      ·rcases u.gen i eV with r|r
       ·exact d.2 i hi r
       ·exact lg p (jV.mpr (.inl hp)) i hi r
     ·exact h3 p hp q (.tail _ hq)}
theorem aY.drop{fp:Fp}{s0:aF}(x:aY B {aN with guard:=(fp,s0)::aN.guard} aA cs own vars g s)(hk:eL B fp s s')(G:bI B g s'.heap):aY B aN aA cs own vars g s':=by
 have d:=λq hq=>FE (pY:=[]) x.gd.oL (q:=q) (.inr hq)
 have z:aY B {aN with guard:=aN.guard} aA cs own vars g s':=by
  refine x.FR (.head _) hk (.refl _ _) G (λp hp b hb=>.inl ⟨p,.tail _ hp,hb⟩) ?_
  exact {
   same:=λp hp=>⟨λb hb=>((x.gd.same p (.tail _ hp)).1 b hb).then λo' e=>by
    obtain⟨o2,e2,hd⟩:=(x.gd.live p (.tail _ hp)).cB b hb;cases (e.symm.trans e2);exact((hk.le b o' ((d p hp).1 b hb) e).Dt hd).1,λi hi=>by
    obtain⟨v,e⟩:=(x.gd.live p (.tail _ hp)).gen i hi;rw[<-(x.gd.same p (.tail _ hp)).2 i hi,e]
    exact hk.keep i v ((d p hp).2 i hi) e⟩
   live:=λp hp=>⟨λb hb=>by
    obtain⟨o',e,hd⟩:=(x.gd.live p (.tail _ hp)).cB b hb;exact((hk.le b o' ((d p hp).1 b hb) e).Dt hd).2,λi hi=>by
    obtain⟨v,e⟩:=(x.gd.live p (.tail _ hp)).gen i hi
    exact⟨v,hk.keep i v ((d p hp).2 i hi) e⟩⟩
   nY:=λp hp=>x.gd.nY p (.tail _ hp)
   dM:=λp hp=>x.gd.dM p (.tail _ hp)
   new:=λp hp=>x.gd.new p (.tail _ hp)
   dU:=λp hp=>x.gd.dU p (.tail _ hp)
   eE:=λp hp=>x.gd.eE p (.tail _ hp)
   oL:=(Bw.mp x.gd.oL).2}
 exact z
end
section
variable {prog:iS} {w:iI} {A:bM} {aA:bO} {s:aF}
theorem aE8(I:Nat->aF->Prop)
 (GY:∀n s (N:aD->aF->Prop),I n s->aK (model prog w) A (mH it) (λr aS=>match r with
  |none=>R (.ok .next) aS
  |some v=>aK (model prog w) A (tR target it v) (λ_ bN=>aK (model prog w) A (assign target aA v) (λ_ gO=>aK (model prog w) A (execs body aA) (λf gN=>match f with
   |.next|.cont=>∃m,m<n/\I m gN
   |.brk=>R (.ok .next) gN
   |.ret v=>R (.ok (.ret v)) gN) N gO) N bN) N aS) N s)
 (n:Nat) (h:I n s):Bx (model prog w) A (.forLoop target it body [] aA) R s:=by
 refine codeAny_loop' rfl I (λn s hI=>?_) n h;show aK _ _ ((forTurn target it body [] aA).onRaise _) _ _ s;refine wpAny_noted ?_;unfold forTurn;have t:=GY n s (notedBy (model prog w) A aA λe s'=>R (.error e) s') hI;refine aM (pI (aM (Tf (eK t (λr aS lY=>?_) λ_ _ q=>pI q))));cases r with
 |none=>exact bE (.inr ⟨rfl,codeAny_block (Td lY)⟩)
 |some v=>
  refine aM (eK lY (λ_ bN vZ=>?_) λ_ _ q=>q);refine aM (eK vZ (λ_ gO An=>?_) λ_ _ q=>q);refine aM (eK An (λf gN oG=>?_) λ_ _ q=>q);cases f with
  |next=>exact bE (.inl ⟨rfl,oG⟩)
  |cont=>exact bE (.inl ⟨rfl,oG⟩)
  |brk=>exact bE oG
  |ret v=>exact bE oG
end
section
variable {B:BD} {k:Nat} {F:Fn} {vars vars':aU}
inductive gP(B:BD)(k:Nat)(F:Fn)(bP:bJ)(body:List dE):List AV->aU->jT->Prop where
 |nil (vars:aU):gP B k F bP body [] vars (.cF vars)
 |cF {x:AV} {xs:List AV} {vars v1:aU} {bs:List (aC×AV)} {out:jT}:fN bP x bs->(∀b∈bs,lT F b.1)->aJ B k F (fH bs vars) body (.cF v1)->gP B k F bP body xs v1 out->gP B k F bP body (x::xs) vars out
 |cnt {x:AV} {xs:List AV} {vars v1:aU} {bs:List (aC×AV)} {out:jT}:fN bP x bs->(∀b∈bs,lT F b.1)->aJ B k F (fH bs vars) body (.cnt v1)->gP B k F bP body xs v1 out->gP B k F bP body (x::xs) vars out
 |brk {x:AV} {xs:List AV} {vars v1:aU} {bs:List (aC×AV)}:fN bP x bs->(∀b∈bs,lT F b.1)->aJ B k F (fH bs vars) body (.brk v1)->gP B k F bP body (x::xs) vars (.cF v1)
 |ret {x:AV} {xs:List AV} {vars v1:aU} {r:AV} {bs:List (aC×AV)}:fN bP x bs->(∀b∈bs,lT F b.1)->aJ B k F (fH bs vars) body (.ret v1 r)->gP B k F bP body (x::xs) vars (.ret v1 r)
 |sub {xs:List AV} {vars v1:aU} {out:jT}:fK v1 vars->gP B k F bP body xs v1 out->gP B k F bP body xs vars out
theorem pA.of{fp:Fp}{aN:fM}{aA:bO}{cs:List (aC×aH)}{own:aC->aH}{g:aT}{s:aF}{s0:aF}{gd:List (Fp×aF)}(x:aY B {aN with guard:=(fp,s0)::gd} aA cs own vars g s):pA B fp g:=
 ⟨x.gd.dM _ (.head _),λb hb=>x.en.le.none ((x.gd.new _ (.head _)).1 b hb)⟩
theorem gB.live(x:gB B k A bP it fp xs g s):lV fp s:=by
 cases xs with
 |nil=>exact x.1
 |cons=>exact x.1
inductive yG(B:BD)(k:Nat)(A:bM)(F:Fn)(aN:fM)(aA:bO)(cs:List (aC×aH))(bP:bJ)(it:aD)(xs:List AV)(vars:aU)(s:aF):Prop
 |mk (own:aC->aH) (g gI:aT) (sI s0:aF) (fp:Fp) (P:eI B k A F {aN with guard:=(fp,s0)::aN.guard} aA cs own vars g s) (io:gB B k A bP it fp xs gI sI) (sub:gI.Sub g) (same:iX fp sI s)
theorem aY.aIs(x:aY B aN aA cs own vars g s):aY B {aN with g:=g} aA cs own vars g s:=
 {x with en:=⟨x.en.le,x.en.rA,x.en.sC,x.en.qD,x.en.fI⟩,ext:=.refl _ _,gd:=⟨x.gd.same,x.gd.live,x.gd.nY,x.gd.dM,x.gd.new,x.gd.dU,x.gd.eE,x.gd.oL⟩}
theorem aY.aIh(x:aY B {aN with g:=g1} aA cs own vars g s)(h:fU aN.s.heap aN.g g1):aY B aN aA cs own vars g s:=
 {x with en:=⟨x.en.le,x.en.rA,x.en.sC,x.en.qD,x.en.fI⟩,ext:=⟨h.sub.trans x.ext.sub,λb o e=>(x.ext.new b o e).elim (h.new b o) .inr⟩,gd:=⟨x.gd.same,x.gd.live,x.gd.nY,x.gd.dM,x.gd.new,x.gd.dU,x.gd.eE,x.gd.oL⟩}
def aMq(B:BD)(k:Nat)(A:bM)(F:Fn)(aN:fM)(aA:bO)(cs:List (aC×aH))(bP:bJ)(it:aD)(xs:List AV):jT->zD->aF->Prop
 |.cF v1,f,s=>f=.next/\yG B k A F aN aA cs bP it xs v1 s
 |.cnt v1,f,s=>f=.cont/\yG B k A F aN aA cs bP it xs v1 s
 |.brk v1,f,s=>f=.brk/\∃own g,aY B aN aA cs own v1 g s
 |.ret v1 r,f,s=>Xv B aN aA cs (.ret v1 r) f s
theorem Wa{bP:bJ}{body:List dE}{x:AV}{xs:List AV}{vars:aU}{bs:List (aC×AV)}{o1:jT}{A:bM}{aN:fM}{aA:bO}{cs:List (aC×aH)}{it:aD}{s:aF}{W:aD->zD->aF->Prop}{N:aD->aF->Prop}{Z:aF->Prop}
 (hb:fN bP x bs) (hs:∀b∈bs,lT F b.1) (kW:aJ B k F (fH bs vars) body o1) (T:yG B k A F aN aA cs bP it (x::xs) vars s) (K:∀v f gN,aMq B k A F aN aA cs bP it xs o1 f gN->W v f gN):
 aK (aW B) A (mH it) (λr aS=>match r with
  |none=>Z aS
  |some v=>aK (aW B) A (tR bP it v) (λ_ bN=>aK (aW B) A (assign bP aA v) (λ_ gO=>aK (aW B) A (execs body aA) (W v) N gO) N bN) N aS) N s:=by
 obtain⟨own,g,gI,sI,s0,fp,P,io,sub,same⟩:=T;have:=io.2 g s (λv bN=>aK (aW B) A (assign bP aA v) (λ_ gO=>aK (aW B) A (execs body aA) (W v) N gO) N bN) N P.room P.st.ok sub same (pA.of P.st) ?_
 ·refine eK this (λr s' h=>?_) λ_ _ q=>q
  obtain⟨v,rfl,q⟩:=h;exact q
 ·intro v bN fV iN u hk he G o hv Rh
  have S2:=aY.step (pY:=[]) P.st hk he G u o Rh.live;have hx:=S2.ext;have S2':=S2.aIs;refine SX P.handled hb (λb h=>P.iE (hs b h)) S2' hv λgO S3=>?_;have P3:eI B k A F {aN with guard:=(iN,bN)::aN.guard,g:=fV} aA cs own (fH bs vars) fV gO:=⟨P.handled,P.depth,P.units,P.frames,P.mT,P.scope,P.cells,P.cQ,P.code,S3⟩
  refine kW A _ aA cs own fV gO _ N P3 λf gN O=>K v f gN ?_;have un:∀{cS g' v1},aY B {aN with guard:=(iN,bN)::aN.guard,g:=fV} aA cs cS v1 g' gN->aY B {aN with guard:=(iN,bN)::aN.guard} aA cs cS v1 g' gN:=λS=>S.aIh hx
  have tu:∀{cS g' v1},aY B {aN with guard:=(iN,bN)::aN.guard,g:=fV} aA cs cS v1 g' gN->yG B k A F aN aA cs bP it xs v1 gN:=λ{cS g' v1} S=>
   ⟨cS,g',fV,bN,bN,iN,⟨P.handled,P.depth,P.units,P.frames,P.mT,P.scope,P.cells,P.cQ,P.code,un S⟩,Rh,S.ext.sub,S.gd.same _ (.head _)⟩
  cases o1 with
  |cF=>obtain⟨a,o,g,S⟩:=O;exact⟨a,tu S⟩
  |cnt=>obtain⟨a,o,g,S⟩:=O;exact⟨a,tu S⟩
  |brk=>obtain⟨a,o,g,S⟩:=O;exact⟨a,o,g,(un S).pop⟩
  |ret=>obtain⟨v,o,g,a,b,S⟩:=O;exact⟨v,o,g,a,b,(un S).pop⟩
theorem yG.sub(h:fK v1 vars)(T:yG B k A F aN aA cs bP it xs vars s):yG B k A F aN aA cs bP it xs v1 s:=by
 obtain⟨own,g,gI,sI,s0,fp,P,io,sub,same⟩:=T;exact⟨own,g,gI,sI,s0,fp,P.to (P.st.sub h),io,sub,same⟩
theorem aDh{bP:bJ}{body:List dE}{xs:List AV}{out:jT}(r:gP B k F bP body xs vars out){A:bM}{aN:fM}{aA:bO}{cs:List (aC×aH)}{it:aD}{s:aF}{R:AM->aF->Prop}(N:aD->aF->Prop)
 (T:yG B k A F aN aA cs bP it xs vars s) (K:∀f s',Xv B aN aA cs out f s'->R (.ok f) s'):
 aK (aW B) A (mH it) (λr aS=>match r with
  |none=>R (.ok .next) aS
  |some v=>aK (aW B) A (tR bP it v) (λ_ bN=>aK (aW B) A (assign bP aA v) (λ_ gO=>aK (aW B) A (execs body aA) (λf gN=>match f with
   |.next|.cont=>∃m,m<xs.length/\∃iA vars',iA.length=m/\gP B k F bP body iA vars' out/\yG B k A F aN aA cs bP it iA vars' gN
   |.brk=>R (.ok .next) gN
   |.ret v=>R (.ok (.ret v)) gN) N gO) N bN) N aS) N s:=by
 induction r with
 |nil vars=>
  obtain⟨own,g,gI,sI,s0,fp,P,io,sub,same⟩:=T;refine io.2 g s _ N P.room P.st.ok sub same (pA.of P.st) λbN hk hG=>?_;exact K _ _ ⟨rfl,own,g,aY.drop P.st hk hG⟩
 |cF hb hs kW r ih=>
  refine Wa hb hs kW T λv f gN O=>?_;obtain⟨rfl,T⟩:=O;exact⟨_,rO _,_,_,rfl,r,T⟩
 |cnt hb hs kW r ih=>
  refine Wa hb hs kW T λv f gN O=>?_;obtain⟨rfl,T⟩:=O;exact⟨_,rO _,_,_,rfl,r,T⟩
 |brk hb hs kW=>
  refine Wa hb hs kW T λv f gN O=>?_;obtain⟨rfl,o,g,S⟩:=O;exact K _ _ ⟨rfl,o,g,S⟩
 |ret hb hs kW=>
  refine Wa hb hs kW T λv f gN O=>?_;obtain⟨v',o,g,rfl,b,S⟩:=O;exact K _ _ ⟨v',o,g,rfl,b,S⟩
 |sub h r ih=>exact ih (T.sub h) K
theorem aP.loop{bP e:bJ}{body:List dE}{p:dI}{xs:List AV}{out:jT}(h:cR B k F.sc vars bP e xs)(r:gP B k F bP body xs vars out)(hs:∀aA x,sV e aA x=pure x):aP B k F vars (.For bP e body [] p) out:=by
 intro A aN aA cs own g s Q E P K;refine wpAny_For (h A aA g s _ E P.pre λit fp s' g' X ff io so=>?_) (hs aA);have S:=P.st.push X ff io.live;have P':eI B k A F {aN with guard:=(fp,s')::aN.guard} aA cs own vars g' s':=⟨P.handled,P.depth,P.units,P.frames,P.mT,P.scope,P.cells,P.cQ,P.code,S⟩
 refine aE8 (λn s=>∃iA vars',iA.length=n/\gP B k F bP body iA vars' out/\yG B k A F aN aA cs bP it iA vars' s) (λn aS N hI=>?_) xs.length
  ⟨xs,vars,rfl,r,own,g',g',s',s',fp,P',io,.refl _,.refl _ _⟩
 obtain⟨iA,vars',rfl,r',T⟩:=hI;exact aDh (R:=λr s'=>match r with|.ok f=>Q f s'|.error e=>Tg (aW B) A aA E e s') r' N T λf s' O=>K f s' O
inductive Eo(B:BD)(k:Nat)(F:Fn)(oA:bJ)(body:List dE):Nat->aU->jT->Prop where
 |done {vars:aU} {n:Nat}:bA B k F.sc vars oA false->Eo B k F oA body n vars (.cF vars)
 |cF {vars v1:aU} {n:Nat} {out:jT}:bA B k F.sc vars oA true->aJ B k F vars body (.cF v1)->Eo B k F oA body n v1 out->Eo B k F oA body (n+1) vars out
 |sub {n:Nat} {vars v1:aU} {out:jT}:fK v1 vars->Eo B k F oA body n v1 out->Eo B k F oA body n vars out
theorem aP.while(r:Eo B k F oA body n vars out):aP B k F vars (.While oA body [] p) out:=by
 intro A aN aA cs own g s Q E P K;refine Z4 ?_;refine Z5 (λn s=>∃vars' cS g',Eo B k F oA body n vars' out/\eI B k A F aN aA cs cS vars' g' s) (λn aS hI=>?_) n ⟨vars,own,g,r,P⟩;obtain⟨vars',cS,g',r',P'⟩:=hI;clear r P;induction r' generalizing cS g' aS with
 |done ht=>
  refine ht A aA g' aS _ _ P'.pre λs' eP X=>?_;exact Td (K _ _ ⟨rfl,_,_,P'.st.post X⟩)
 |cF ht hb r ih=>
  refine ht A aA g' aS _ _ P'.pre λs' eP X=>?_;have P2:=P'.to (P'.st.post X);refine hb A aN aA cs _ _ s' _ _ P2 λf s3 O=>?_;obtain⟨rfl,o,g3,S⟩:=O;exact⟨_,rO _,_,_,_,r,P2.to S⟩
 |sub h r ih=>exact ih K _ _ _ (P'.to (P'.st.sub h))
end
section
variable {B:BD} {k:Nat} {F:Fn} {A:bM} {sc:bR} {vars vars':aU} {aN:fM} {aA:bO} {cs:List (aC×aH)} {own cS:aC->aH} {g g':aT} {s s' bZ:aF}
def NV(B:BD)(bZ:aF)(g:aT)(s:aF)(v:aD)(a:aH):LV->Prop
 |.val av=>VR B g v av
 |.own xs=>v=.ref a/\g a=none/\bZ.heap.get? a=none/\∃vs n,s.heap.get? a=some (dP vs n)/\bD B g vs.toList xs
theorem NV.post(x:NV B bZ g s v a lv)(y:bT B s g s' g'):NV B bZ g' s' v a lv:=by
 cases lv with
 |val av=>exact VR.mono y.ext.sub x
 |own xs=>
  obtain⟨h1,h2,h3,vs,n,h4,h5⟩:=x;exact⟨h1,y.ext.dM h2 ⟨_,h4⟩,h3,vs,n,y.keep.le.cM h4 jE,h5.mono y.ext.sub⟩
theorem NV.Xr(x:NV B s1 g s v a lv)(y:oI B.base bZ s1):NV B bZ g s v a lv:=by
 cases lv with
 |val av=>exact x
 |own xs=>obtain⟨h1,h2,h3,h4⟩:=x;exact⟨h1,h2,y.le.none h3,h4⟩
def eA(B:BD)(k:Nat)(sc:bR)(vars:aU)(e:bJ)(lv:LV):Prop:=
 ∀(A:bM) (aA:bO) (g:aT) (s:aF) (Q:aD->aF->Prop) (E:aD->aF->Prop),iQ B k A sc vars aA g s->
  (∀v a s' g',bT B s g s' g'->NV B s g' s' v a lv->Q v s')->aK (aW B) A (eval e aA) Q E s
theorem aB.tD(h:aB B k sc vars e r):eA B k sc vars e (.val r):=λA aA g s Q E P K=>h A aA g s Q E P λv s' g' X hv=>K v 0 s' g' X hv
theorem eA.ev(h:eA B k sc vars e (.own xs)):aB B k sc vars e (.aO xs):=λA aA g s Q E P K=>h A aA g s Q E P λv a s' g' X hv=>by
 obtain⟨rfl,h2,h3,vs,n,h4,h5⟩:=hv;have px:=fU.eF (dP vs n) h2 h3;refine K _ s' (g'.eF a (dP vs n)) ⟨X.keep,⟨X.ext.sub.trans px.sub,λb o e=>?_⟩,X.ok.eF h2 h4 jE⟩ (.aO (aT.jY _ _ _) (h5.mono px.sub));rcases px.new b o e with q|q
 ·exact X.ext.new b o q
 ·exact .inr q
theorem eA.nil:eA B k sc vars (.List [] p) (.own []):=λA aA g s Q E P K=>by
 refine wpAny_List (AD ⟨by decide,?_⟩);have e:=bH.jN s.heap;exact K _ s.heap.objs.size _ g (.tE P.ok (dP #[] 0)) ⟨rfl,P.ok.fresh e,e,#[],0,gU _ rfl,.nil⟩
structure iB where
 x:aC
 v:aD
 a:aH
 lv:LV
def NF(B:BD)(aN:fM)(g:aT)(s:aF)(own:aC->aH)(vars:aU)(i:iB):Prop:=
 match i.lv with
 |.val av=>VR B g i.v av
 |.own xs=>i.v=.ref i.a/\g i.a=none/\aN.s.heap.get? i.a=none/\(∀p∈aN.guard,i.a∉p.1.cB)/\aN.cQ≠some i.x/\(∀z zs,vars.lookup z=some (.own zs)->own z≠i.a)/\∃vs n,s.heap.get? i.a=some (dP vs n)/\bD B g vs.toList xs
def Kq(i j:iB):Prop:=∀xs ys,i.lv=.own xs->j.lv=.own ys->i.a≠j.a
noncomputable def rZ:List iB->aU->aU
 |[],vars=>vars
 |i::r,vars=>rZ r (cT i.x i.lv vars)
theorem CA(S:aY B aN aA cs own vars g s)(hx:qU aA cs x)(hv:VR B g v av)
 (K:∀s',aY B aN aA cs own (cT x (.val av) vars) g s'->(∀b vs n,s.heap.get? b=some (dP vs n)->s'.heap.get? b=some (dP vs n))->Q () s'):aK (aW B) A (Ms aA x v) Q E s:=by
 rcases hx with hx|⟨c,hc⟩
 ·obtain⟨m,n,r⟩:=S.dX
  refine Fb hx n (λh' n' hs=>K _ (S.HE n r hx hv n' hs _) λb vs l e=>?_) ?_
  ·exact(hs.2 b (Gc n e)).trans e
  ·rw[S.kind];rfl
 ·obtain⟨a,b,u,q⟩:=S.iG x c hc
  exact aNf S.kind b a q λh' n' hs=>K _ (S.B0 hc hv n' hs _) λb vs l e=>(hs.2 b (CD q e)).trans e
theorem WU(S:aY B aN aA cs own vars g s)(hx:qU aA cs i.x)(hn:NF B aN g s own vars i)
 (K:∀cS s',aY B aN aA cs cS (cT i.x i.lv vars) g s'->(∀b vs n,s.heap.get? b=some (dP vs n)->s'.heap.get? b=some (dP vs n))->
  (∀z,z≠i.x->cS z=own z)->(∀xs,i.lv=.own xs->cS i.x=i.a)->Q () s'):aK (aW B) A (Ms aA i.x i.v) Q E s:=by
 obtain⟨x,v,a,lv⟩:=i;cases lv with
 |val av=>exact CA S hx hn λs' S' hl=>K own s' S' hl (λz _=>rfl) λxs q=>nomatch q
 |own xs=>
  obtain⟨hv,h2,h3,h4,h5,h6,vs,n,h7,h8⟩:=hn;dsimp only at hv hx h2 h3 h4 h5 h6 h7 K ⊢;subst hv;refine CA (av:=.mZ 0 λ_ v=>v=.ref a) S hx (.mZ λ_ _=>rfl) λs' S' hl=>?_;have S2:=S'.claim ⟨_,by rw[jW,if_pos rfl],λv h=>h⟩ h2 h3 h4 ⟨vs,n,hl _ _ _ h7,h8⟩ (λz zs hz=>?_) h5
  ·refine K _ s' (S2.sub λz lv e=>?_) hl (λz hz=>if_neg hz) λ_ _=>if_pos rfl
   rw[jW] at e;rw[jW,jW]
   by_cases hz:z=x
   ·rw[if_pos hz] at e ⊢;exact e
   ·rw[if_neg hz] at e;rw[if_neg hz,if_neg hz];exact e
  ·rw[jW] at hz
   by_cases Bi:z=x
   ·cases ((if_pos Bi).symm.trans hz)
   ·rw[if_neg Bi] at hz;exact h6 z zs hz
inductive Kd(B:BD)(aA:bO):List (aD->qP Unit)->List iB->Prop where
 |nil:Kd B aA [] []
 |cons {f:aD->qP Unit} {fs:List (aD->qP Unit)} {i:iB} {is:List iB}:(∀A Q E s,aK (aW B) A (Ms aA i.x i.v) Q E s->aK (aW B) A (f i.v) Q E s)->Kd B aA fs is->Kd B aA (f::fs) (i::is)
theorem VB(hf:Kd B aA fs is):∀{own:aC->aH} {vars:aU} {s:aF} {Q:Unit->aF->Prop} {E:aD->aF->Prop},aY B aN aA cs own vars g s->(∀i∈is,qU aA cs i.x)->(∀i∈is,NF B aN g s own vars i)->is.Pairwise Kq->
 (∀cS s',aY B aN aA cs cS (rZ is vars) g s'->Q () s')->aK (aW B) A (Z0 fs (is.map (·.v))) Q E s:=by
 induction hf with
 |nil=>exact λS _ _ _ K=>Z2 (K _ _ S)
 | @cons f fs i is hf hr ih=>
  intro own vars s Q E S hx hn hp K;refine NZ (hf _ _ _ _ (WU S (hx i (.head _)) (hn i (.head _)) λcS s' S' hl Rn KX=>?_));obtain⟨Ef,Ls⟩:=Bw.mp hp;refine ih S' (λj hj=>hx j (.tail _ hj)) (λj hj=>?_) Ls K;have nj:=hn j (.tail _ hj);have ap:=Ef j hj;obtain⟨y,w,b,lw⟩:=j;cases lw with
  |val=>exact nj
  |own ys=>
   obtain⟨h1,h2,h3,h4,h5,h6,vs,n,h7,h8⟩:=nj;refine⟨h1,h2,h3,h4,h5,λz zs hz=>?_,vs,n,hl _ _ _ h7,h8⟩;rw[jW] at hz
   by_cases Bi:z=i.x
   ·subst Bi
    rw[if_pos rfl] at hz;cases gZ:i.lv with
    |val=>rw[gZ] at hz;cases hz
    |own xs=>rw[KX xs gZ];exact ap xs ys gZ rfl
   ·rw[if_neg Bi] at hz;rw[Rn z Bi];exact h6 z zs hz
noncomputable def oP:List (aC×LV)->aU->aU
 |[],vars=>vars
 |(x,lv)::r,vars=>oP r (cT x lv vars)
theorem Jr(is:List iB)(vars:aU):rZ is vars=oP (is.map λi=>(i.x,i.lv)) vars:=by
 induction is generalizing vars with
 |nil=>rfl
 |cons i is ih=>exact ih _
def gE(B:BD)(k:Nat)(sc:bR)(vars:aU)(es:List bJ)(lC:List (aC×LV)):Prop:=
 ∀(A:bM) (aA:bO) (g:aT) (s:aF) (pos:dI) (Q:List aD->aF->Prop) (E:aD->aF->Prop),iQ B k A sc vars aA g s->
  (∀(is:List iB) (s':aF) (g':aT),bT B s g s' g'->is.map (λi:iB=>(i.x,i.lv))=lC->(∀i∈is,NV B s g' s' i.v i.a i.lv)->is.Pairwise Kq->Q (is.map (·.v)) s')->aK (aW B) A (spliced (kQ pos (iT es aA))) Q E s
theorem gE.nil:gE B k sc vars [] []:=λ_ _ _ _ _ _ _ P K=>AD (K [] _ _ (.refl P.ok) rfl (λ_ h=>nomatch h) .nil)
theorem gE.cons(h:eA B k sc vars e lv)(hs:gE B k sc vars es lC)(hn:eR (e::es)=true):gE B k sc vars (e::es) ((x,lv)::lC):=
 λA aA g s pos Q E P K=>Et (h A aA g s _ E P λv a s' g' X hv=>hs A aA g' s' pos _ E (P.post X) λis dF eP Y hm hi hp=>by
  refine K (⟨x,v,a,lv⟩::is) dF eP (X.trans Y) (by simp[hm]) (λi h=>?_) (Bw.mpr ⟨λj hj xs ys hx hy=>?_,hp⟩)
  ·rcases cE.mp h with rfl|h
   ·exact hv.post Y
   ·exact(hi i h).Xr X.keep
  ·have:=hi j hj
   rw[hy] at this;obtain⟨_,_,h3,_⟩:=this;have yM:NV B s g' s' v a (.own xs):=by have:lv=.own xs:=hx;rw[<-this];exact hv
   obtain⟨_,_,_,vs,n,h4,_⟩:=yM;intro q;rw[<-q] at h3;dsimp only at h3
   cases (h4.symm.trans h3)) (pM hn)
theorem NV.nf(x:aY B aN aA cs own vars g s)(y:bT B s g s' g')(h:NV B s g' s' i.v i.a i.lv)(ha:aN.cQ≠some i.x):NF B aN g' s' own vars i:=by
 obtain⟨n,v,a,lv⟩:=i;cases lv with
 |val=>exact h
 |own xs=>
  obtain⟨h1,h2,h3,h4⟩:=h;refine⟨h1,h2,x.keep.Ap (λq=>?_) h3,λp hp q=>?_,ha,λz zs hz q=>?_,h4⟩
  ·obtain⟨o,e⟩:=x.en.fI _ q
   cases (h3.symm.trans e)
  ·obtain⟨o,e,_⟩:=(x.gd.live p hp).cB _ q
   cases (h3.symm.trans e)
  ·obtain⟨_,_,e,_⟩:=x.tA hz (x.kd _ _ hz)
   rw[q] at e;dsimp only at h3;cases (h3.symm.trans e)
inductive TN:List bJ->List aC->Prop where
 |nil:TN [] []
 |cons (x:aC) (p:dI) {ts:List bJ} {xs:List aC}:TN ts xs->TN (.Name x p::ts) (x::xs)
theorem TN.len(h:TN ts xs):(Fc ts aA).length=xs.length:=by
 induction h with
 |nil=>rfl
 |cons x p h ih=>exact congrArg (·+1) ih
theorem TN.aK4(h:TN ts xs):(Fc ts aA).findIdx? (·.1)=none:=by
 induction h with
 |nil=>rfl
 | @cons x p ts xs h ih=>
  show(((false,assign (.Name x p) aA):Bool×_)::Fc ts aA).findIdx? (·.1)=none;rw[aNg];simp[ih]
theorem TN.aIn:∀{is:List iB},TN ts (is.map (·.x))->Kd B aA ((Fc ts aA).map (·.2)) is:=by
 induction ts with
 |nil=>intro is h;cases is with
  |nil=>exact .nil
  |cons i is=>cases h
 |cons t ts ih=>intro is h;cases is with
  |nil=>cases h
  |cons i is=>
   rw[nU] at h;cases h with
   |cons _ p h=>exact .cons (λA Q E s h=>AL h) (ih h)
theorem aBm:∀{is:List iB},Kd B aA ((is.map (·.x)).map λn=>bindName aA n) is:=by
 intro is;induction is with
 |nil=>
  exact .nil
 |cons i is ih=>
  exact .cons (λA Q E s h=>wpAny_bindName h) ih
theorem Kq.symm(h:Kq i j):Kq j i:=λxs ys a b q=>h ys xs b a q.symm
theorem aP.Aj(sw:Bool)(h:gE B k F.sc vars es lC)(hz:lC.length<=4096)(hx:∀b∈lC,lT F b.1)(ha:∀b∈lC,F.cQ≠some b.1)(ht:TN ts (lC.map (·.1)))
 (hw:∀aA:bO,aA.scope=F.sc->swappedStores [.Tuple ts n tp] (.Tuple es n' ep) aA=pure (if sw then some (lC.map (·.1)) else none)):
 aP B k F vars (.Assign [.Tuple ts n tp] (.Tuple es n' ep) p) (.cF (oP (if sw then lC.reverse else lC) vars)):=by
 intro A aN aA cs own g s Q E P K
 have main:aK (aW B) A (eval (.Tuple es n' ep) aA) (λv aS=>∃(is:List iB) (g':aT) (T:aH),v=.ref T/\aS.heap.get? T=some (gA (is.map (·.v)).toArray 0)/\aY B aN aA cs own vars g' aS/\is.map (λi:iB=>(i.x,i.lv))=lC/\(∀i∈is,NF B aN g' aS own vars i)/\is.Pairwise Kq) E s:=by
  refine X5 (h A aA g s ep _ E P.pre λis s' g' X hm hi hp=>?_);refine⟨by have:=congrArg rS hm;simp at this;simp[eJ];exact aV (aG [_,_] [.l .x (.n 4096),.e .y .x,.l (.u (.n 16777216)) .y] rfl hz this),is,g',s'.heap.objs.size,rfl,gU _ rfl,?_⟩;have Z:=bT.tE X.ok (gA (is.map (·.v)).toArray 0);refine⟨P.st.post (X.trans Z),hm,λi h=>?_,hp⟩;refine NV.nf P.st (X.trans Z) ((hi i h).post Z) ?_;rw[P.cQ];exact ha (i.x,i.lv) (by rw[<-hm];exact gK.mpr ⟨i,h,rfl⟩)
 have Wd:∀is:List iB,is.map (λi:iB=>(i.x,i.lv))=lC->lC.map (·.1)=is.map (·.x):=λis hm=>by rw[<-hm,fO];rfl
 have iE:∀is:List iB,is.map (λi:iB=>(i.x,i.lv))=lC->∀i∈is,qU aA cs i.x:=λis hm i hi=>P.iE (hx (i.x,i.lv) (by rw[<-hm];exact gK.mpr ⟨i,hi,rfl⟩));have w:=hw aA P.scope
 have C5:∀{is:List iB} {g':aT} {aS:aF} {h':bH},(∀i∈is,NF B aN g' aS own vars i)->(∀b o,aS.heap.get? b=some o->h'.get? b=some o)->∀i∈is,NF B aN g' {aS with heap:=h'} own vars i:=λhi hk i h=>by
  have:=hi i h;obtain⟨n,v,a,lv⟩:=i;cases lv with
  |val=>exact this
  |own xs=>
   obtain⟨h1,h2,h3,h4,h5,h6,vs,m,h7,h8⟩:=this;exact⟨h1,h2,h3,h4,h5,h6,vs,m,hk _ _ h7,h8⟩
 cases sw with
 |false=>
  refine PyProof.Rows.Assign_Tuple (eK main (λv aS q=>?_) λ_ _ q=>q) rfl w;obtain⟨is,g',T,rfl,hT,S,hm,hi,hp⟩:=q;refine Z1 P.handled ⟨_,hT,rfl,_,rfl⟩ ?_ ht.aK4 λh' hk=>?_
  ·rw[ht.len,Wd is hm];simp
  ·have Ie:∀b o,aS.heap.get? b=some o->h'.get? b=some o:=λb o e=>hk b o (λq=>by
    have:=bH.jN aS.heap
    rw[<-q,e] at this;cases this) e
   have S':aY B aN aA cs own vars g' {aS with heap:=h'}:=S.tE Ie;rw[Wd is hm] at ht;refine VB ht.aIn S' (iE is hm) (C5 hi Ie) hp λcS s' S2=>K _ _ ⟨rfl,cS,g',?_⟩;rw[Jr,hm] at S2;exact S2
 |true=>
  refine PyProof.Rows.Assign_Tuple_swapped (eK main (λv aS q=>?_) λ_ _ q=>q) rfl w;obtain⟨is,g',T,rfl,hT,S,hm,hi,hp⟩:=q;have dQ:(lC.map (·.1)).length=(is.map (·.v)).toArray.size:=by rw[Wd is hm];simp
  rw[dQ];have hT':aS.heap.IsTuple T (is.map (·.v)).toArray:=⟨_,hT,rfl,_,rfl⟩
  with_reducible refine wpAny_unpackItems_tuple P.handled hT' λh' hk=>?_
  have Ie:∀b o,aS.heap.get? b=some o->h'.get? b=some o:=λb o e=>hk b o (λq=>by
   have:=bH.jN aS.heap
   rw[<-q,e] at this;cases this) e
  have S':aY B aN aA cs own vars g' {aS with heap:=h'}:=S.tE Ie;rw[Wd is hm];have e1:(is.map (·.v)).toArray.toList.reverse=is.reverse.map (·.v):=by simp
  have e2:(is.map (·.x)).reverse.map (λn=>bindName aA n)=(is.reverse.map (·.x)).map λn=>bindName aA n:=by simp
  rw[e1,e2];refine VB aBm S' (λi h=>iE is hm i (aNh.mp h)) (λi h=>C5 hi Ie i (aNh.mp h)) ?_ λcS s' S2=>K _ _ ⟨rfl,cS,g',?_⟩
  ·rw[List.pairwise_reverse]
   exact hp.imp λh=>h.symm
  ·rw[Jr,List.map_reverse,hm] at S2
   exact S2
theorem aP.xM(h:eA B k F.sc vars e lv)(hx:lT F x)(ha:F.cQ≠some x)(hs:∀aA,aA.scope=F.sc->vE e (some (.Name x xp)) p.line aA=pure false):
 aP B k F vars (.Assign [.Name x xp] e p) (.cF (cT x lv vars)):=λA aN aA cs own g s Q E P K=>by
 refine zE (h A aA g s _ E P.pre λv a s' g' X hv=>?_) (hs aA P.scope);have nf:=NV.nf (i:=⟨x,v,a,lv⟩) P.st X hv (by rw[P.cQ];exact ha);exact WU (P.st.post X) (P.iE hx) nf λcS s' S _ _ _=>K _ _ ⟨rfl,cS,g',S⟩
end
section
variable {B:BD} {k:Nat} {F:Fn} {A:bM} {sc:bR} {vars vars':aU} {aN:fM} {aA:bO} {cs:List (aC×aH)} {own cS:aC->aH} {g g':aT} {s s' bZ:aF}
theorem eI.Oz(P:eI B k A F aN aA cs own vars g s)(n:fP F.sc vars x lv)(K:∀v,nF B s.heap g (own x) v lv->Q v s):aK (aW B) A (eval (.Name x p) aA) Q E s:=by
 refine NO ?_ n.rL;rcases n.kind with hk|hk|hk
 ·obtain⟨m,n',r'⟩:=P.st.dX
  obtain⟨v,h1,h2⟩:=r' x lv n.var (P.kind hk);exact NN P.st.kind (P.kind hk) n' h1 (K v h2)
 ·obtain⟨c,v,h1,h2,h3⟩:=P.st.gH x lv n.var (.inl (P.kind hk))
  exact aMy P.st.kind (P.kind hk) h1 h2 (K v h3)
 ·obtain⟨c,v,h1,h2,h3⟩:=P.st.gH x lv n.var (.inr (P.kind hk))
  exact aMz P.st.kind (P.kind hk) h1 h2 (K v h3) n.MT
theorem aY.HL(x:aY B aN aA cs own vars g s)(hy:vars.lookup y=some (.own xs))(hs:kU (own y) s.heap h')(hl:∃vs n,h'.get? (own y)=some (dP vs n)/\bD B g vs.toList iA):
 aY B aN aA cs own (cT y (.own iA) vars) g {s with heap:=h',toks:=tk}:=by
 obtain⟨h1,h2,h3⟩:=x.gF y xs hy;refine x.HK hy ?_ (.refl _ _) (x.ok.jL hs h1 (x.en.base (h2.imp id (·.1)))) hl;exact .of λb o hb e=>(hs.2 b (by simpa using hb)).trans e
theorem CV{o:bJ}{name:aC}{Au pos:dI}{e:bJ}{es:List bJ}{T id:String}{aA:bO}{Q:aD->aF->Prop}{E:aD->aF->Prop}(hb:∀aA,wY o name aA (eval o aA)=eval o aA)(hn:eR (e::es)=true)(hl:(e::es).length<30)(pP:(Au.endLine==pos.line)=true)
 (pa:PlainAttrs T) (slot:Slot T name id) (Hz:vF (.builtin id)=pure (.type "method_descriptor"))
 (h:aK (aW B) A (eval o aA) (λov aS=>aS.TypeIs ov T/\(∀a,ov=.ref a->∃ob,aS.heap.get? a=some ob/\ob.dict=none)/\
  aK (aW B) A (spliced (kQ pos (iT (e::es) aA))) (λvs bN=>aK (aW B) A (call (.builtin id) (ov::vs)) Q E bN) E aS) E s):
 aK (aW B) A (eval (.Call (.Attribute o name Au) (e::es) [] pos) aA) Q E s:=by
 have hp:=Ub (pos:=pos) (Ua (aA:=aA) hn)
 have he:kQ pos (iT (e::es) aA)=(false,eval e aA)::kQ pos (iT es aA):=by
  rw[pM hn];rfl
 refine wpAny_Call_method (hb aA) ?_ pP pa slot Hz (eK h (λov aS lY=>⟨lY.1,lY.2.1,?_⟩) λ_ _ q=>q)
 ·rw[Fe,Fe]
  refine⟨⟨?_,rfl⟩,by simp at hl ⊢;omega⟩;rw[aNi];simp only[Bool.not_not];simpa using hp
 ·have h2:=lY.2.2
  refine Y5 hp ?_;rw[he] at h2 ⊢;exact NX (eK h2 (λvs s' q=>q) λ_ _ q=>q)
theorem aC8{h:bH}{a:aH}{vs n}(e:h.get? a=some (dP vs n)):∀b,vG a=.ref b->∃ob,h.get? b=some ob/\ob.dict=none:=λb q=>by cases q;exact⟨_,e,rfl⟩
theorem CC(hk:aA.scope.kind=.function)(hs:vE e none p.line aA=pure false)(h:aK (aW B) A (eval e aA) (λ_ s'=>Q .next s') E s):aK (aW B) A (exec (.Expr e p) aA) Q E s:=by
 have hi:interactive aA=false:=by unfold interactive;rw[hk];rfl
 rw[exec_Expr aA e p hi hs];exact aM (pI (aM (eK h (λv s' q=>wpAny_dropValue q) λ_ _ q=>q)))
theorem aP.FZ{x:aC}{xp ap cp ep:dI}{name:aC}{id:String}{e:bJ}{es:List bJ}{xs iA:List AV}{rs:List LV}(n:fP F.sc vars x (.own xs))(hb:∀aA,wY (.Name x xp) name aA (eval (.Name x xp) aA)=eval (.Name x xp) aA)(hn:eR (e::es)=true)(hl:(e::es).length<30)(pP:(ap.endLine==cp.line)=true)
 (slot:Slot "list" name id) (Hz:vF (.builtin id)=pure (.type "method_descriptor")) (ha:aZ B k F.sc vars (e::es) rs)
 (hc:∀(A:bM) (g:aT) (s:aF) (a:aH) (vs:List aD) (us:Array aD) (m:Nat) (Q:aD->aF->Prop) (E:aD->aF->Prop),dS B k A s.heap->bI B g s.heap->s.heap.get? a=some (dP us m)->bD B g us.toList xs->fW B s.heap g vs rs->
  (∀v h' Lf m' tk,kU a s.heap h'->h'.get? a=some (dP Lf m')->bD B g Lf.toList iA->Q v {s with heap:=h',toks:=tk})->aK (aW B) A (call (.builtin id) (.ref a::vs)) Q E s):
 aP B k F vars (.Expr (.Call (.Attribute (.Name x xp) name ap) (e::es) [] cp) ep) (.cF (cT x (.own iA) vars)):=by
 intro A aN aA cs own g s Q E P K;refine CC P.st.kind rfl ?_;refine CV hb hn hl pP PySem.F.plainAttrs_list slot Hz (P.Oz n λv hv=>?_);obtain⟨rfl,us,m,hu,r⟩:=hv;refine⟨⟨_,hu,rfl⟩,aC8 hu,ha A aA g s cp _ E P.pre λvs s' g' X bF=>?_⟩;have P':=P.to (P.st.post X);have hu':=X.keep.le.cM hu jE;refine hc A g' s' (own x) vs us m _ E P'.room P'.st.ok hu' (r.mono X.ext.sub) bF λv h' Lf m' tk hs h1 h2=>?_;exact K _ _ ⟨rfl,own,g',P'.st.HL n.var hs ⟨Lf,m',h1,h2⟩⟩
theorem aP.append(n:fP F.sc vars x (.own xs))(hb:∀aA,wY (.Name x xp) "append" aA (eval (.Name x xp) aA)=eval (.Name x xp) aA)(hn:eR [e]=true)(pP:(ap.endLine==cp.line)=true)(h:aB B k F.sc vars e r)(hz:xs.length<=eJ):
 aP B k F vars (.Expr (.Call (.Attribute (.Name x xp) "append" ap) [e] [] cp) ep) (.cF (cT x (.own (xs++[r])) vars)):=by
 refine aP.FZ n hb hn (by simp) pP PySem.F.slot_list_append rfl (.c h.ar .nil hn) λA g s a vs us m Q E R G hu r bF K=>?_;obtain⟨v,rfl,hv⟩:=bF.bU;have hl:s.heap.PlainList a us:=⟨m,hu⟩
 have iF:us.size<=eJ:=by have:=r.length;simp at this;exact aV (aG [_,_,_] [.l .x .y,.e .z .x,.l (.u .y) .z] rfl hz this)
 refine aNj hl (λh' nA hs=>?_) iF;obtain⟨m',nA⟩:=nA;exact K _ h' _ m' s.toks hs nA (by simpa using r.append (.cons hv .nil))
theorem CJ(f:Array aD->Array aD)(us:Array aD)(m:Nat):∃m',Mt f (dP us m)=dP (f us) m':=⟨_,rfl⟩
theorem aP.aJa(n:fP F.sc vars x (.own xs))(hb:∀aA,wY (.Name x xp) "extend" aA (eval (.Name x xp) aA)=eval (.Name x xp) aA)(hn:eR [e]=true)(pP:(ap.endLine==cp.line)=true)(h:aB B k F.sc vars e (.aO ys))(hz:xs.length+ys.length<=eJ):
 aP B k F vars (.Expr (.Call (.Attribute (.Name x xp) "extend" ap) [e] [] cp) ep) (.cF (cT x (.own (xs++ys)) vars)):=by
 refine aP.FZ n hb hn (by simp) pP aNk rfl (.c h.ar .nil hn) λA g s a vs us m Q E R G hu r bF K=>?_;obtain⟨v,rfl,hv⟩:=bF.bU;obtain⟨b,ws,m2,rfl,hg,r2⟩:=VR.bB hv;have l1:=r.length;have l2:=r2.length;have iF:us.size+ws.toArray.size<=eJ:=by simp at l1 ⊢;exact aV (aG [_,_,_,_,_] [.l (.a .x .y) .z,.e .w .x,.e .p .y,.l (.u .z) (.a .w .p)] rfl hz l1 l2)
 refine OA aNk ⟨_,hu,rfl⟩ PySem.F.entry_list_extend (PySem.F.args_list_extend_2 _ _) (PySem.AutoSeq1.list_extend_list_list_0 a us m b ws.toArray m2 (extend_door iF) (fD (jD _ _) iF)) ⟨hu,G.at hg,?_⟩;obtain⟨m',hm⟩:=CJ (λx=>x++ws.toArray) us m;refine K _ _ (us++ws.toArray) m' s.toks (By ..) ?_ (by simpa using r.append r2);rw[wZ _ hu (by rw[hm];rfl),hm]
theorem bD.take(h:bD B g vs xs)(i:Nat):bD B g (vs.take i) (xs.take i):=by
 induction xs generalizing vs i with
 |nil=>obtain rfl:=bD.bB h;simp;exact .nil
 |cons x xs ih=>obtain⟨_,_,rfl,a,r⟩:=bD.bB h;cases i with
  |zero=>exact .nil
  |succ i=>exact .cons a (ih r i)
theorem bD.aKs(h:bD B g vs xs)(i:Nat):bD B g (vs.drop i) (xs.drop i):=by
 induction xs generalizing vs i with
 |nil=>obtain rfl:=bD.bB h;simp;exact .nil
 |cons x xs ih=>obtain⟨_,_,rfl,a,r⟩:=bD.bB h;cases i with
  |zero=>exact .cons a r
  |succ i=>exact ih r i
theorem aP.Vx{x:aC}{xp ap cp ep:dI}{e e2:bJ}{xs:List AV}{r:AV}{i:Nat}{j:Int}(n:fP F.sc vars x (.own xs))(hb:∀aA,wY (.Name x xp) "insert" aA (eval (.Name x xp) aA)=eval (.Name x xp) aA)(hn:eR [e,e2]=true)(pP:(ap.endLine==cp.line)=true)(h:aB B k F.sc vars e (.int j))(h2:aB B k F.sc vars e2 r)(hj:j=i)(hi:i<=xs.length)(hz:xs.length<=eJ):
 aP B k F vars (.Expr (.Call (.Attribute (.Name x xp) "insert" ap) [e,e2] [] cp) ep) (.cF (cT x (.own (xs.take i++r::xs.drop i)) vars)):=by
 refine aP.FZ n hb hn (by simp) pP aNl rfl (.c h.ar (.c h2.ar .nil (vI hn)) hn) λA g s a vs us m Q E R G hu r' bF K=>?_;obtain⟨v,w,rfl,hv,hw⟩:=bF.kE;obtain⟨t,rfl⟩:=VR.lW hv;have l1:=r'.length;have iF:us.size<=eJ:=by simp at l1;exact aV (aG [_,_,_] [.l .x .y,.e .z .x,.l (.u .y) .z] rfl hz l1)
 have gZ:=fD hi (cU▸hz);have hf:=fitsIndex_of (Bf hj) (by rw[hj];exact uN (pZ gZ (by decide)));have hf':¬(!AN j)=true:=by rw[hf];decide
 have gg:=PySem.AutoSeq1.list_insert_list_int_val_1 a us m j t w hf' iF;have ga:=PySem.F.args_list_insert_3 (.ref a) (.int j t) w;have hT:s.TypeIs (.ref a) "list":=⟨_,hu,rfl⟩
 refine OA aNl hT PySem.F.entry_list_insert ga gg ⟨hu,?_⟩
 have e3:(λxs:Array aD=>have k:=if j<0 then(j+(xs.size:Int)).toNat else min j.toNat xs.size;(xs.extract 0 k).push w++xs.extract k) us=((us.toList.take i)++w::us.toList.drop i).toArray:=by
  have h3:¬(j<0):=cG [_] [_] [.f .x (.c .x),.l (.u .x) .o] rfl hj;have h4:min j.toNat us.size=i:=by simp at l1;rw[hj,rN,l1];exact vC hi
  simp only[h3,if_false,h4];apply Array.ext';simp[List.take_drop];rw[Z6 (by simp;exact aV (aG [_,_,_] [.l .x (.a .y .z),.l (.u (.a .z .y)) .x] rfl (I6 _ _)))]
 obtain⟨m',hm⟩:=CJ (λxs:Array aD=>have k:=if j<0 then(j+(xs.size:Int)).toNat else min j.toNat xs.size;(xs.extract 0 k).push w++xs.extract k) us m;refine K _ _ ((us.toList.take i)++w::us.toList.drop i).toArray m' s.toks (By ..) ?_ ?_
 ·rw[wZ _ hu (by rw[hm];rfl),hm]
  exact congrArg (λz=>some (dP z m')) e3
 ·simpa using (r'.take i).append (.cons hw (r'.aKs i))
end
section
variable {B:BD} {k:Nat} {F:Fn} {A:bM} {sc:bR} {vars vars':aU} {aN:fM} {aA:bO} {cs:List (aC×aH)} {own cS:aC->aH} {g g':aT} {s s' bZ:aF}
theorem aIm(sl:bJ)(o i:aD):∃l,subscripted sl false o i=operate l (getItem o i):=by
 cases sl with
 |Slice a b c p=>cases c<;>exact⟨_,rfl⟩
 |_=>exact⟨_,rfl⟩
theorem DD
 (h:aK (aW B) A (eval value aA) (λo aS=>aK (aW B) A (eval slice aA) (λi bN=>∃(T id:String),Z7 (.type T) "__getitem__"=pure (some (.builtin id))/\bN.TypeIs o T/\aK (aW B) A (getItem o i) Q E bN) E aS) E s):
 aK (aW B) A (eval (.Subscript value slice pos) aA) Q E s:=by
 rw[eval_Subscript];refine aM (eK h (λo aS lY=>aM (mK (eK lY (λi bN vZ=>aM (pI ?_)) λ_ _ x=>x))) λ_ _ x=>x);obtain⟨T,id,hl,hT,hg⟩:=vZ;refine aM ?_;rw[getitemInPython_of_ne hT.not_modules];refine aM (wpAny_specialOf hT hl (bE ?_));have mD:aK (aW B) A (letTemporaryGo value o i>>=λ_=>pure i) (λ_ _=>True) E bN:=aM (aNm (bE trivial))
 have op:∀l,aK (aW B) A (operate l (getItem o i)) (λr gO=>aK (aW B) A (letTemporaryGo value o r>>=λ_=>pure r) Q E gO) E bN:=λl=>
  wpAny_operating (eK hg (λr gO An=>aM (aNm (bE An))) λ_ _ x=>x)
 obtain⟨l,e⟩:=aIm slice o i;rw[e];exact aM (op l)
def iC(B:BD)(k:Nat)(x y:LV)(r:AV):Prop:=
 ∀(A:bM) (g:aT) (s:aF) (v w:aD) (Q:aD->aF->Prop) (E:aD->aF->Prop),dS B k A s.heap->bI B g s.heap->eW B s.heap g v x->eW B s.heap g w y->
  (∀v s' g',bT B s g s' g'->VR B g' v r->Q v s')->∃(T id:String),Z7 (.type T) "__getitem__"=pure (some (.builtin id))/\s.TypeIs v T/\aK (aW B) A (getItem v w) Q E s
theorem aB.sub(hl:gQ B k sc vars l x)(hr:gQ B k sc vars r y)(ho:iC B k x y z):aB B k sc vars (.Subscript l r p) z:=by
 intro A aA g s Q E P K;refine DD (hl A aA g s _ E P λv s' g' X hv=>hr A aA g' s' _ E (P.post X) λw dF eP Y hw=>?_);exact ho A eP dF v w Q E ((P.room.mono X.keep.le).mono Y.keep.le) Y.ok (hv.mono Y.keep.le Y.ext.sub) hw λu t gt Z hu=>K u t gt ((X.trans Y).trans Z) hu
theorem iC.list{lv:LV}{xs:List AV}{i:Int}{j:Nat}{r:AV}(l:eY lv xs)(hi:i=j)(hr:xs[j]?=some r)(hz:xs.length<=eJ):iC B k lv (.val (.int i)) r:=by
 intro A g s v w Q E R G hv hw K;obtain⟨t,rfl⟩:=VR.lW hw;have Hi:=l.oQ G hv;obtain⟨a,vs,n,rfl,ho,bF⟩:=Hi;obtain⟨u,h1,h2⟩:=bF.get hr;have hj:=(zF.mp hr).1;have gZ:=cU▸hz;have hl:s.heap.IsList a vs:=⟨_,ho,rfl,_,rfl⟩
 refine⟨"list",_,(Z8).1,hl.typeIs,?_⟩;refine aNn hl (Bf hi) (by rw[hi];exact uN (qO hj (fD gZ (by decide)))) ?_ (K _ _ _ (.refl G) h2);subst hi;simpa using h1
theorem iC.Kw(l:eY lv xs)(hi:i= -1)(hr:xs.getLast?=some r):iC B k lv (.val (.int i)) r:=by
 intro A g s v w Q E R G hv hw K;obtain⟨t,rfl⟩:=VR.lW hw;have Hi:=l.oQ G hv;obtain⟨a,vs,n,rfl,ho,bF⟩:=Hi;rw[List.getLast?_eq_getElem?] at hr;obtain⟨u,h1,h2⟩:=bF.get hr;have hj:=(zF.mp hr).1;have hl:s.heap.IsList a vs:=⟨_,ho,rfl,_,rfl⟩
 have dQ:=bF.length;simp at dQ;refine⟨"list",_,(Z8).1,hl.typeIs,?_⟩;refine wpAny_getItem_list_neg hl (pF (cG [] [_] [.e .x (.n (-1)),.l .o .x] rfl hi)) (lF (cG [_,_,_] [_] [.f .x (.n (-1)),.O (.l (.u .x) .y),.O (.f .z .y),.l (.u .x) (.g (.c .z))] rfl hi hj dQ)) (by rw[hi];decide) ?_ (K _ _ _ (.refl G) h2);subst hi;have:(-1+(vs.size:Int)).toNat=xs.length-1:=by rw[dQ];exact(ZG (qQ hj)).2
 rw[this];simpa using h1
theorem iC.str{x:aC}{i:Int}{j:Nat}{c:Nat}(hi:i=j)(hr:x.cps.toList[j]?=some c)(hz:x.length<=eJ):iC B k (.val (.str x)) (.val (.int i)) (.str ⟨#[c]⟩):=by
 intro A g s v w Q E R G hv hw K;obtain⟨t,rfl⟩:=VR.lW hw;obtain⟨u,rfl⟩:=VR.bB hv;have hj:=(zF.mp hr).1;have gZ:=cU▸hz;have hx:x.length=x.cps.size:=rfl;refine⟨"str",_,(aNo).1,rfl,?_⟩;refine PySem.P.getItem_str ?_ ?_ (K _ _ _ (.toks G) (.str _ _))
 ·simp at hj ⊢;exact⟨lF (cG [_] [_] [.f .x (.c .x),.l (.u .x) (.n (-9223372036854775808))] rfl hi),pF (cG [_,_,_] [_] [.e .x (.c .x),.O (.l (.u .x) .y),.O (.l .z (.n 16777216)),.O (.f .z .y),.l (.n 9223372036854775808) .x] rfl hi hj gZ hx)⟩
 ·subst hi
  have:Ff (j:Int) x.length=some j:=by
   unfold Ff;simp at hj ⊢;exact C8 (by rw[hx];exact hj)
  rw[this];simpa using hr
theorem iC.cD{xs:List AV}{i:Int}{j:Nat}{r:AV}(hi:i=j)(hr:xs[j]?=some r)(hz:xs.length<=eJ):iC B k (.val (.cD xs)) (.val (.int i)) r:=by
 intro A g s v w Q E R G hv hw K;obtain⟨t,rfl⟩:=VR.lW hw;obtain⟨a,vs,n,rfl,hg,bF⟩:=VR.bB hv;obtain⟨u,h1,h2⟩:=bF.get hr;have hj:=(zF.mp hr).1;have hl:=bF.length;have gZ:=cU▸hz;have ht:IsTup s.heap a vs.toArray:=⟨_,G.at hg,rfl,n,rfl⟩
 refine⟨"tuple",_,(PySem.F.slot_tuple_getitem).1,ht.typeIs,?_⟩
 have hj':Ff i vs.toArray.size=some j:=by
  subst hi;unfold Ff;simp;exact C8 (by rw[hl];exact hj)
 with_reducible refine PyProof.Rows.getItem_tuple ht ?_ ?_ hj' ?_ (K _ _ _ (.refl G) h2)
 ·rw[hi];exact aL8 _
 ·rw[hi];exact uN (qO hj (fD gZ (by decide)))
 ·simpa using h1
noncomputable def jG{α:Type}(l:List α)(lo hi st:Option Int):List α:=
 (Th (tS lo hi st l.length).1 (tS lo hi st l.length).2.1 (tS lo hi st l.length).2.2).filterMap (l[·]?)
theorem bD.aJv(h:bD B g vs xs)(is:List Nat):bD B g (is.filterMap (vs[·]?)) (is.filterMap (xs[·]?)):=by
 induction is with
 |nil=>exact .nil
 |cons i is ih=>
  rw[Ti,Ti];cases q:xs[i]? with
  |none=>
   have:vs[i]?=none:=by
    rw[List.getElem?_eq_none_iff] at q ⊢;rw[h.length];exact q
   rw[this];exact ih
  |some x=>
   obtain⟨v,h1,h2⟩:=h.get q;rw[h1];exact .cons h2 ih
theorem bD.aLa(h:bD B g vs xs)(lo hi st:Option Int):bD B g (jG vs lo hi st) (jG xs lo hi st):=by
 unfold jG;rw[h.length];exact h.aJv _
inductive uS(B:BD)(k:Nat)(sc:bR)(vars:aU):Option bJ->Option Int->Prop where
 |none:uS B k sc vars none none
 |some {e:bJ} {i:Int}:aB B k sc vars e (.int i)->uS B k sc vars (some e) (some i)
theorem uS.run(h:uS B k sc vars e i)(P:iQ B k A sc vars aA g s)
 (K:∀v s' g',bT B s g s' g'->AO v i->Q v s'):aK (aW B) A (evalPart e aA) Q E s:=by
 cases h with
 |none=>exact bE (K _ _ _ (.refl P.ok) .none)
 |some h=>
  refine h A aA g s Q E P λv s' g' X hv=>?_;obtain⟨t,rfl⟩:=VR.lW hv;exact K _ _ _ X (.int _ _)
theorem RP{lo hi st:Option bJ}{p:dI}{a b c:Option Int}(h1:uS B k sc vars lo a)(h2:uS B k sc vars hi b)(h3:uS B k sc vars st c){A:bM}{aA:bO}{g:aT}{s:aF}{Q:aD->aF->Prop}{E:aD->aF->Prop}(P:iQ B k A sc vars aA g s)
 (K:∀S vl vu vs s' g',bT B s g s' g'->s'.heap.IsSliceOf S vl vu vs->AO vl a->AO vu b->AO vs c->Q (.ref S) s'):aK (aW B) A (eval (.Slice lo hi st p) aA) Q E s:=by
 refine wpAny_Slice (h1.run P λvl s1 g1 X1 p1=>h2.run (P.post X1) λvu s2 g2 X2 p2=>h3.run ((P.post X1).post X2) λvs s3 g3 X3 p3=>?_);exact K _ vl vu vs _ g3 (((X1.trans X2).trans X3).trans (.tE X3.ok _)) (.new _ _ _ _) p1 p2 p3
theorem aB.Ow{value:bJ}{lo hi st:Option bJ}{p pos:dI}{a b c:Option Int}{lv:LV}{xs:List AV}(l:eY lv xs)(hv:gQ B k sc vars value lv)(h1:uS B k sc vars lo a)(h2:uS B k sc vars hi b)(h3:uS B k sc vars st c)(h0:c≠some 0)(hz:xs.length<=eJ):
 aB B k sc vars (.Subscript value (.Slice lo hi st p) pos) (.aO (jG xs a b c)):=by
 intro A aA g s Q E P K;refine DD (hv A aA g s _ E P λv s1 g1 X hv=>RP h1 h2 h3 (P.post X) λS vl vu vs s2 g2 Y hS p1 p2 p3=>?_);have Hi:=l.oQ Y.ok (hv.mono Y.keep.le Y.ext.sub);obtain⟨d,us,n,rfl,ho,bF⟩:=Hi;have hl:s2.heap.IsList d us:=⟨_,ho,rfl,_,rfl⟩
 refine⟨"list",_,(Z8).1,hl.typeIs,?_⟩;have dQ:=bF.length;have iF:us.size<=eJ:=by simp at dQ;exact aV (aG [_,_,_] [.l .x .y,.e .z .x,.l (.u .y) .z] rfl hz dQ)
 refine wpAny_getItem_list_slice hl hS p1 p2 p3 h0 ?_ iF;have Z:=bT.push Y.ok (dP (OB us a b c) 0) jE rfl;refine K _ _ _ ((X.trans Y).trans Z) (.aO (vs:=(OB us a b c).toList) (aT.jY _ _ _) ?_);have h:=(bF.mono Z.ext.sub).aLa a b c
 have e:(OB us a b c).toList=jG us.toList a b c:=by
  unfold OB jG;simp
 exact e▸h
theorem Jp(a b:Nat):Th a b 1=(bX (b-a)).map (a+ ·):=by
 have h1:(1:Int)>0:=by decide
 have h2:(if(a:Int)<(b:Int) then((b:Int)-a+1-1)/1 else 0).toNat=b-a:=by
  split
  ·rw[W4,Int.ediv_one,Int.toNat_sub]
  ·next h=>exact(Nat.sub_eq_zero_of_le (zA.mp (pG.mp h))).symm
 simp only[Th,if_pos h1,h2];apply zG;intro x _;exact eQ (cG [_,_,_] [] [.f (.c .x) (.a (.c .y) (.m 1 (.c .z))),.O (.l (.u .x) (.a .y .z))] rfl (xA (lF (cG [_,_] [] [.l (.u (.a (.c .x) (.m 1 (.c .y)))) .o] rfl)))) (cG [_,_,_] [] [.e (.c .x) (.a (.c .y) (.m 1 (.c .z))),.O (.l (.u (.a .y .z)) .x)] rfl (xA (lF (cG [_,_] [] [.l (.u (.a (.c .x) (.m 1 (.c .y)))) .o] rfl))))
theorem Nv(l:List α)(a b:Nat):((bX (b-a)).map (a+ ·)).filterMap (l[·]?)=(l.take b).drop a:=by
 apply List.ext_getElem?;intro i;induction hb:b-a generalizing a i with
 |zero=>
  have:(l.take b).drop a=[]:=by apply Iz;simp;exact aV (aG [_,_,_,_] [.e .x .o,.l .y .z,.l .z (.a .x .w),.l (.u .w) .y] rfl hb (rT _ _) (I6 _ _))
  rw[this];rfl
 |succ n ih=>
  rw[OC,nU,Ti,fO];have e:((a+ ·)∘Nat.succ:Nat->Nat)=((a+1)+ ·):=by funext x;simp;exact eQ (aG [_,_] [.l (.u (.a .x (.u .y))) (.a (.u .x) .y)] rfl) (aG [_,_] [.l (.u (.a (.u .x) .y)) (.a .x (.u .y))] rfl)
  rw[e]
  by_cases h:a<l.length
  ·have h2:(l.take b).drop a=l[a]::(l.take b).drop (a+1):=by
    rw[Z9 (by simp;exact Nat.lt_min.mpr ⟨Nat.sub_pos_iff_lt.mp (by rw[hb];exact sW _),h⟩)];simp
   rw[h2];simp only[Mu,oO h];cases i with
   |zero=>rfl
   |succ i=>simpa using ih (a+1) i (congrArg Nat.pred hb)
  ·have h2:(l.take b).drop a=[]:=by apply Iz;simp;exact aV (aG [_,_,_] [.m .x .y,.l .z .y,.l (.u .x) .z] rfl h (Fg _ _))
   rw[h2];simp only[Mu,Y3 (Ep h)];have h3:=ih (a+1) i (congrArg Nat.pred hb);have h4:(l.take b).drop (a+1)=[]:=by apply Iz;simp;exact aV (aG [_,_,_] [.m .x .y,.l .z .y,.l (.u (.u .x)) .z] rfl h (Fg _ _))
   rw[h3,h4]
theorem TG(l:List α)(a:Nat):l.take (min a l.length)=l.take a:=by
 rcases W6 a l.length with h|h
 ·rw[vC h]
 ·rw[Mk h,AP,Z6 h]
theorem US(l m:List α)(a:Nat)(h:m.length<=l.length):m.drop (min a l.length)=m.drop a:=by
 rcases W6 a l.length with q|q
 ·rw[vC q]
 ·rw[Mk q,aNp h,aNp (fD h q)]
theorem Nj(l:List α)(b:Nat):jG l none (some b) none=l.take b:=by
 unfold jG tS;have e1:((0:Nat):Int)=0:=rfl;have e2:max 0 (min (b:Int) (l.length:Int))=((min b l.length:Nat):Int):=EU _ _;have h3:¬((b:Int)<0):=cG [_] [] [.l (.u (.c .x)) .o] rfl;simp only[OD,h3,if_false,e2,show(1:Int)>0 by decide,if_true];rw[<-e1,Jp,Nv];simp[TG]
theorem aBt(l:List α)(a:Nat):jG l (some a) none none=l.drop a:=by
 unfold jG tS;have e2:max 0 (min (a:Int) (l.length:Int))=((min a l.length:Nat):Int):=EU _ _;have h3:¬((a:Int)<0):=cG [_] [] [.l (.u (.c .x)) .o] rfl;simp only[OD,h3,if_false,e2,show(1:Int)>0 by decide,if_true];rw[Jp,Nv,AP,US l l a (dH _)]
theorem RS(l:List α)(a b:Nat):jG l (some a) (some b) none=(l.take b).drop a:=by
 unfold jG tS;have e2:∀x:Nat,max 0 (min (x:Int) (l.length:Int))=((min x l.length:Nat):Int):=λx=>by exact EU _ _
 have h3:∀x:Nat,¬((x:Int)<0):=λx=>by exact cG [_] [] [.l (.u (.c .x)) .o] rfl
 simp only[OD,h3,if_false,e2,show(1:Int)>0 by decide,if_true];rw[Jp,Nv,TG,US l _ a (by simp;exact(Fg _ _))]
noncomputable def fZ(x:aC)(lo hi:Option Int):aC:=⟨(jG x.cps.toList lo hi none).toArray⟩
theorem QK(p:AO v a):∃q:Option (Int×jB),v=partValue q/\q.map (·.1)=a:=by
 cases p with
 |none=>exact⟨none,rfl,rfl⟩
 |int i t=>exact⟨some (i,t),rfl,rfl⟩
theorem QO(lo hi:Option Int)(n:Nat):γ lo hi 1 n=Th (tS lo hi none n).1 (tS lo hi none n).2.1 (tS lo hi none n).2.2:=by
 cases lo<;>cases hi<;>rfl
theorem QF(lo hi:Option Int)(n:Nat):∃a b:Nat,b<=n/\tS lo hi none n=((a:Int),(b:Int),1):=by
 have f:∀i:Int,∃a:Nat,a<=n/\max 0 (min i (n:Int))=(a:Int):=λi=>⟨(max 0 (min i (n:Int))).toNat,Int.toNat_le.mpr (Int.max_le.mpr ⟨jM _,Int.min_le_right _ _⟩),(xA (Int.le_max_left _ _)).symm⟩
 unfold tS;simp only[OD,show(1:Int)>0 by decide,if_true]
 have g:∀(v:Option Int) (d:Nat),d<=n->∃a:Nat,a<=n/\(match v with|none=>(d:Int)|some i=>max 0 (min (if i<0 then i+n else i) n))=(a:Int):=λv d hd=>by
  cases v with
  |none=>exact⟨d,hd,rfl⟩
  |some i=>exact f _
 obtain⟨a,_,ha⟩:=g lo 0 (iR _);obtain⟨b,hb,dJ⟩:=g hi n (dH _);refine⟨a,b,hb,?_⟩;rw[<-ha,<-dJ];cases lo<;>cases hi<;>rfl
set_option tactic.hygienic true in
theorem aB.Kt{value:bJ}{lo hi:Option bJ}{p pos:dI}{a b:Option Int}{x:aC}(hv:aB B k sc vars value (.str x))(h1:uS B k sc vars lo a)(h2:uS B k sc vars hi b)(hz:x.length<=eJ):
 aB B k sc vars (.Subscript value (.Slice lo hi none p) pos) (.str (fZ x a b)):=by
 intro A aA g s Q E P K;refine DD (hv A aA g s _ E P λv s1 g1 X hv=>RP h1 h2 .none (P.post X) λS vl vu vs s2 g2 Y hS p1 p2 p3=>?_);obtain⟨t,rfl⟩:=VR.bB hv;refine⟨"str",_,(aNo).1,rfl,?_⟩;obtain⟨q1,rfl,e1⟩:=QK p1;obtain⟨q2,rfl,e2⟩:=QK p2;cases p3;refine wpAny_getItem_str_slice (st:=none) hS rfl ?_;have hx:x.length=x.cps.toList.length:=by simp[δ]
 have hp:((AQ x q1 q2 none).filterMap (x.cps[·]?))=jG x.cps.toList a b none:=by
  unfold AQ jG;rw[e1,e2];show(γ a b 1 x.length).filterMap _=_;rw[QO,hx];simp
 have mD:∀u tk,Q (.str (fZ x a b) u) {s2 with toks:=tk}:=λu tk=>K _ _ _ ((X.trans Y).trans (.toks Y.ok)) (.str _ _);obtain⟨m,n,hn,hb⟩:=QF a b x.cps.toList.length
 have Lr:jG x.cps.toList a b none=(x.cps.toList.take n).drop m:=by
  unfold jG;rw[hb];dsimp only;rw[Jp,Nv]
 unfold sliceMade
 split
 ·rename_i hc
  have dQ:(AQ x q1 q2 none).length=x.length:=by simpa using hc
  have e3:fZ x a b=x:=by
   have nQ:(AQ x q1 q2 none).length=n-m:=by
    unfold AQ;rw[e1,e2];show(γ a b 1 x.length).length=_;rw[QO,hx,hb];dsimp only;rw[Jp];simp
   have wB:(x.cps.toList.take n).drop m=x.cps.toList:=by
    by_cases h0:x.cps.toList.length=0
    ·have:x.cps.toList=[]:=aNq h0
     rw[this];simp
    ·have hm:m=0/\n=x.cps.toList.length:=aJ0 (nQ.symm.trans (dQ.trans hx)) hn h0
     rw[hm.1,hm.2,AP];rfl
   unfold fZ;rw[Lr,wB]
  have:=mD t s2.toks;rw[e3] at this;exact this
 ·have h3:=mD s2.toks (s2.toks+1)
  unfold fZ at h3;rw[<-hp] at h3;refine⟨?_,h3⟩;show(aC.mk _).cps.size<=eJ;rw[hp,Lr];simp;have:=hx;exact aV (aG [_,_,_,_,_,_] [.l .x .y,.f .x .z,.l .w .z,.l .p .w,.l (.u (.a .y .q)) .p] rfl hz hx hn (rT _ _))
end
section
variable {B:BD} {k:Nat} {F:Fn} {A:bM} {sc:bR} {vars vars':aU} {aN:fM} {aA:bO} {cs:List (aC×aH)} {own cS:aC->aH} {g g':aT} {s s' bZ:aF}
theorem eA.mul{l r:bJ}{p:dI}{xs:List AV}{i:Int}{n:Nat}(hl:aB B k sc vars l (.aO xs))(hr:aB B k sc vars r (.int i))(hi:i=n)(hz:xs.length*n<=256)(hn:n<=256):eA B k sc vars (.BinOp l .Mult r p) (.own (AR n xs).flatten):=by
 intro A aA g s Q E P K;refine NQ (hl A aA g s _ E P λv s' g' X hv=>hr A aA g' s' _ E (P.post X) λw dF eP Y hw=>?_);obtain⟨u,rfl⟩:=VR.lW hw;have Hi:=VR.oQ Y.ok (hv.mono Y.ext.sub);obtain⟨a,vs,m,rfl,ho,bF⟩:=Hi;have dQ:=bF.length
 have iF:vs.size*i.toNat<=256:=by
  have:vs.size=xs.length:=by simpa using dQ
  rw[this];subst hi;simpa using hz
 have yQ:0<=i/\i<=256:=⟨Bf hi,lF (cG [_] [_] [.e .x (.c .x),.O (.l .x (.n 256)),.l (.u (.n 256)) .x] rfl hi hn)⟩
 have h1:¬(!AN i)=true:=by simp[AN];exact⟨lF (cG [_] [_] [.f .x (.c .x),.l (.u .x) (.n (-9223372036854775808))] rfl hi),pF (cG [] [_] [.l .x (.n 256),.l (.n 9223372036854775808) .x] rfl yQ.2)⟩
 have h2:¬vs.size*i.toNat>(2^63-1)/8:=pH.mpr (fD iF (by decide));have h3:¬aNr (vs.size*i.toNat)=true:=by simp[aNr,eJ];exact jK iF rfl
 have hT:dF.TypeIs (.ref a) "list":=⟨_,ho,rfl⟩
 have m1:=lm_int_rmul_list_any i u a vs m none #[];have m2:=lm_list_mul_any a vs m none #[] i u h1 h2 h3
 refine wpAny_binaryOp_repeat_ref (by decide) hT (λs'=>typeIs_int s' i u) noFill_list_mul F.fills_int_mul F.slot_int_rmul repeat_list F.slot_int_index.lookup
  (OA F.slot_int_rmul (typeIs_int dF i u) F.entry_int_rmul (F.args_int_rmul_2 _ _) m1
   ⟨ho,rfl,hT,OA F.slot_list_mul hT F.entry_list_mul (F.args_list_mul_2 _ _) m2 ⟨ho,?_⟩⟩)
 have e:=bH.jN dF.heap;refine K _ dF.heap.objs.size _ _ ((X.trans Y).trans (.tE Y.ok _)) ⟨rfl,Y.ok.fresh e,(X.trans Y).keep.le.none e,_,_,gU _ rfl,?_⟩
 have e2:(List.foldl (λx1 x2=>x1++x2) #[] (AR (if vs.isEmpty=true then 0 else i.toNat) vs)).toList=(AR n vs.toList).flatten:=by
  have pX:i.toNat=n:=eQ (cG [_,_] [_] [.f .x (.c .x),.f (.c .y) .x,.O (.l (.u .y) .x)] rfl hi (xA (Bf hi))) (cG [_,_] [_] [.e .x (.c .x),.e (.c .y) .x,.O (.l (.u .x) .y)] rfl hi (xA (Bf hi)))
  have f:∀(l:List (Array aD)) (bS:Array aD),(List.foldl (λx1 x2=>x1++x2) bS l).toList=bS.toList++(l.map (·.toList)).flatten:=λl=>by
   induction l with
   |nil=>intro bS;simp
   |cons x l ih=>intro bS;rw[nH,ih];simp
  rw[f,pX]
  by_cases hv:vs.isEmpty=true
  ·have:vs.toList=[]:=by simpa using hv
   rw[if_pos hv,this];simp
  ·rw[if_neg hv];simp
 have f2:∀n:Nat,bD B eP (AR n vs.toList).flatten (AR n xs).flatten:=λn=>by
  induction n with
  |zero=>exact .nil
  |succ n ih=>rw[aNs,aNs,aNt,aNt];exact bF.append ih
 have f3:=f2 n;rw[<-e2] at f3;exact f3
theorem aAt{l:aH}{us:Array aD}{m:Nat}{k':Int}{t:jB}{v:aD}{Q:Unit->aF->Prop}{E:aD->aF->Prop}(hl:s.heap.get? l=some (dP us m))(h0:0<=k')(hn:k'<us.size)(Xi:k'<2^63)
 (hQ:Q () {s with heap:=s.heap.update l (Mt (·.setIfInBounds k'.toNat v))}):aK (aW B) A (setItem (.ref l) (.int k' t) v) Q E s:=by
 have hi:s.heap.IsList l us:=⟨_,hl,rfl,m,rfl⟩
 unfold setItem
 try with_reducible refine mK ?_
 first|refine aM (bE ?_)|skip
 refine aM (wpAny_sequenceKey hi.typeIs (by decide) ?_)
 refine aM (zH hi.typeIs slot_list_setitem
  (xB slot_list_setitem hi.typeIs entry_list_setitem ?_ (args_list_setitem _ _ _)))
 show aK _ _ (kR.List.listSubscript? (.int k' t)>>=_) _ _ s;refine aM (wpAny_listSubscript_int (fitsIndex_of h0 Xi) ?_);clear Xi;obtain⟨j,rfl⟩:=Int.eq_ofNat_of_zero_le h0;have hj:us[j]?=some us[j]:=ε (bV (cG [_,_] [] [.l (.u (.c .x)) (.c .y),.O (.l .y .x)] rfl hn));show aK _ _ ((seqItemAt l j>>=λr=>pure (r.map (j, ·)))>>=_) _ _ s;refine aM (aM (wpAny_seqItemAt hl rfl (bE ?_)));rw[hj];show aK _ _ (setSeqItemAt l j v>>=_) _ _ s;refine aM (wpAny_setSeqItemAt hl rfl ?_);exact bE ⟨.none,rfl,bE hQ⟩
theorem bD.set(h:bD B g vs xs)(i:Nat)(hv:VR B g v x):bD B g (vs.set i v) (xs.set i x):=by
 induction xs generalizing vs i with
 |nil=>obtain rfl:=bD.bB h;exact .nil
 |cons y xs ih=>obtain⟨_,_,rfl,a,r⟩:=bD.bB h;cases i with
  |zero=>exact .cons hv r
  |succ i=>exact .cons a (ih r i)
theorem aP.WV{x:aC}{xp sp p:dI}{op:Operator}{ei e:bJ}{xs:List AV}{i:Int}{j:Nat}{a r:AV}{y:LV}(n:fP F.sc vars x (.own xs))(hi:aB B k F.sc vars ei (.int i))(dO:i=j)(ha:xs[j]?=some a)(h:gQ B k F.sc vars e y)(ho:lQ B k op (.val a) y r)(hz:xs.length<=eJ)
 (hs:∀ov iv new,augStore ei ov iv new=(do holding [new,ov,iv] (setItem ov iv new);release [new,ov,iv] [];pure .next)):
 aP B k F vars (.AugAssign (.Subscript (.Name x xp) ei sp) op e p) (.cF (cT x (.own (xs.set j r)) vars)):=by
 intro A aN aA cs own g s Q E P K;have gZ:=cU▸hz;have hj:=(zF.mp ha).1;refine wpAny_AugAssign_SubscriptAny (P.Oz n λv hv=>?_) hs;obtain⟨rfl,us,m,hu,r1⟩:=hv;refine hi A aA g s _ E P.pre λiv s1 g1 X LC=>?_;obtain⟨t,rfl⟩:=VR.lW LC;have P1:=P.to (P.st.post X);have Lo:=X.keep.le.cM hu jE;obtain⟨u,q1,q2⟩:=r1.get ha;have wN:s1.heap.IsList (own x) us:=⟨_,Lo,rfl,m,rfl⟩
 refine aNn wN (Bf dO) (by rw[dO];exact uN (qO hj (fD gZ (by decide)))) (by subst dO;simpa using q1) ?_;refine h A aA g1 s1 _ E P1.pre λw s2 g2 Y hw=>?_;have P2:=P1.to (P1.st.post Y);have hu2:=Y.keep.le.cM Lo jE;refine ho A g2 s2 u w _ E P2.room P2.st.ok (VR.mono Y.ext.sub (VR.mono X.ext.sub q2)) hw λnv s3 g3 Z hn=>?_;have P3:=P2.to (P2.st.post Z);have O1:=Z.keep.le.cM hu2 jE;have dQ:=r1.length;refine aAt O1 (Bf dO) (by simp at dQ;exact pF (cG [_,_,_] [_] [.e .x (.c .x),.O (.l (.u .x) .y),.O (.f .z .y),.l (.c .z) .x] rfl dO hj dQ)) (by rw[dO];exact uN (qO hj (fD gZ (by decide)))) ?_;obtain⟨m',hm⟩:=CJ (·.setIfInBounds i.toNat nv) us m;refine K _ _ ⟨rfl,own,g3,P3.st.HL n.var (By ..) ⟨us.setIfInBounds i.toNat nv,m',?_,?_⟩⟩
 ·rw[wZ _ O1 (by rw[hm];rfl),hm]
 ·have wA:i.toNat=j:=eQ (cG [_,_] [_] [.f .x (.c .x),.f (.c .y) .x,.O (.l (.u .y) .x)] rfl dO (xA (Bf dO))) (cG [_,_] [_] [.e .x (.c .x),.e (.c .y) .x,.O (.l (.u .x) .y)] rfl dO (xA (Bf dO)))
  rw[wA];have:=((r1.mono ((X.ext.sub.trans Y.ext.sub).trans Z.ext.sub))).set j hn;simpa using this
theorem bD.aKm(h:bD B g vs xs)(i:Nat):bD B g (vs.eraseIdx i) (xs.eraseIdx i):=by
 induction xs generalizing vs i with
 |nil=>obtain rfl:=bD.bB h;exact .nil
 |cons y xs ih=>obtain⟨_,_,rfl,a,r⟩:=bD.bB h;cases i with
  |zero=>exact r
  |succ i=>exact .cons a (ih r i)
theorem aP.delItem(n:fP F.sc vars x (.own xs))(hi:aB B k F.sc vars ei (.int i))(dO:Ff i xs.length=some j)(hz:xs.length<=eJ):
 aP B k F vars (.Delete [.Subscript (.Name x xp) ei sp] p) (.cF (cT x (.own (xs.eraseIdx j)) vars)):=by
 intro A aN aA cs own g s Q E P K;have gZ:=cU▸hz;refine wpAny_Delete (wpAny_deleteEach_cons (wpAny_delete_Subscript (P.Oz n λv hv=>?_)));obtain⟨rfl,us,m,hu,r1⟩:=hv;refine hi A aA g s _ E P.pre λiv s1 g1 X LC=>?_;obtain⟨t,rfl⟩:=VR.lW LC;have P1:=P.to (P.st.post X);have Lo:=X.keep.le.cM hu jE;have dQ:=r1.length;have oY:us.size=xs.length:=by simpa using dQ
 have Xi:AN i=true:=by
  unfold Ff at dO;simp[AN];simp at dO
  by_cases hc:i<0
  ·rw[if_pos hc] at dO
   exact⟨lF (cG [_] [_] [.l .o (.a .x (.c .x)),.O (.l .x (.n 16777216)),.l (.u .x) (.n (-9223372036854775808))] rfl dO.1.1 gZ),Mq hc (by decide)⟩
  ·rw[if_neg hc] at dO
   exact⟨rM (by decide) (pG.mp hc),pF (cG [_] [_] [.l (.u .x) (.c .x),.O (.l .x (.n 16777216)),.l (.n 9223372036854775808) .x] rfl dO.1.2 gZ)⟩
 refine wpAny_delItem_plain ⟨m,Lo⟩ Xi (by rw[oY];exact dO) (λh' hl hs=>?_) (by rw[oY];exact hz);obtain⟨m',hl⟩:=hl;refine bE ?_;refine K _ _ ⟨rfl,own,g1,P1.st.HL n.var hs ⟨_,m',hl,?_⟩⟩;have:=(r1.mono X.ext.sub).aKm j;simpa using this
end
section
variable {B:BD} {k:Nat} {F:Fn} {A:bM} {sc:bR} {vars vars':aU} {aN:fM} {aA:bO} {cs:List (aC×aH)} {own cS:aC->aH} {g g':aT} {s s' bZ:aF}
noncomputable def qX:bH:={objs:= #[]}
noncomputable def eS(L:aH)(h:bH):List (aH×fQ):=(bX h.objs.size).filterMap λa=>if a=L then none else(h.get? a).map (a, ·)
theorem Ge:(a,o)∈eS L h↔a≠L/\h.get? a=some o:=by
 unfold eS;rw[Mn];constructor
 ·rintro⟨b,hb,e⟩
  by_cases q:b=L
  ·cases ((if_pos q).symm.trans e)
  ·rw[if_neg q] at e
   cases r:h.get? b with
   |none=>rw[r] at e;cases e
   |some o'=>rw[r] at e;cases e;exact⟨q,r⟩
 ·rintro⟨q,r⟩
  exact⟨a,fY.mpr (gS r),by rw[if_neg q,r];rfl⟩
theorem zM(a:aH):qX.get? a=none:=by
 cases q:qX.get? a with
 |none=>rfl
 |some o=>exact absurd (gS q) (Mv _)
theorem DV(n:h.Ns L m):Fr qX L h m:=⟨n,λb o e=>absurd e (by rw[zM];nofun),iR _⟩
theorem CQ:News qX L h (eS L h):=λ⟨a,o⟩ hp=>⟨(Ge.mp hp).2,(Ge.mp hp).1,zM a⟩
theorem dS.ns(R:dS B k A h):∃L m,B.base.get? L=none/\h.Ns L m:=by
 obtain⟨e,l,_,f⟩:=R.frames;obtain⟨_,L,m,_,h2,h3⟩:=f e (.head _);exact⟨L,m,h2,h3⟩
theorem DU(hb:B.base.get? L=none)(n:h.Ns L m)(F:Fr qX L h' m)(N:News qX L h' (more++eS L h)):Le B.base h h':=by
 intro b o e
 by_cases q:b=L
 ·obtain rfl:=q.symm
  obtain⟨o1,es,ep,h1,h2,h3,h4⟩:=n;cases (e.symm.trans h1);obtain⟨o2,sO,Bp,r1,r2,r3,r4⟩:=F.ns;exact .inr (.inl ⟨hb,o2,r1,es,ep,sO,Bp,h2,r2,λ_=>⟨r3,λx=>(r4 x).trans (h4 x).symm⟩⟩)
 ·exact .inl (N (b,o) (jV.mpr (.inr (Ge.mpr ⟨q,e⟩)))).1
theorem CL(n:h.Ns L m)(N:News qX L h' (more++eS L h))(e:h.get? b=some o)(ht:∃ps,h.get? b=some (Ks ps)/\Qg B g b ps):h'.get? b=some o:=by
 have dD:b≠L:=λq=>by
  obtain⟨ps,h1,_⟩:=ht;obtain⟨o',es,ep,h2,h3,_⟩:=n;rw[q,h2] at h1;cases h1;cases h3
 exact(N _ (List.mem_append_right _ (Ge.mpr ⟨dD,e⟩))).1
theorem DH(N:News qX L h' ((D,o)::eS L h))(lt:∀q∈eS L h,q.1<D):h.get? D=none/\h'.get? D=some o:=by
 obtain⟨h1,h2,_⟩:=N (D,o) (.head _);refine⟨?_,h1⟩;cases q:h.get? D with
 |none=>rfl
 |some o'=>exact absurd (lt _ (Ge.mpr ⟨h2,q⟩)) (sR _)
theorem cJ.yB(l:eY lv xs)(hz:xs.length<=eJ):cJ B k (.builtin "len") [lv] (.int xs.length):=by
 intro A g s vs Q E R G bF K;obtain⟨v,rfl,hv⟩:=bF.bU;obtain⟨a,us,n,rfl,ho,r⟩:=l.oQ G hv;have hl:s.heap.IsList a us:=⟨_,ho,rfl,_,rfl⟩
 have dQ:=r.length;have gZ:=cU▸hz;have e:us.size=xs.length:=by simpa using dQ
 refine call_len_list hl (uN (pZ (e▸gZ) (by decide))) (K _ _ _ (.toks G) ?_);rw[e];exact .int _ _
theorem cJ.Pp(hz:x.length<=eJ):cJ B k (.builtin "len") [.val (.str x)] (.int x.length):=by
 intro A g s vs Q E R G bF K;obtain⟨v,rfl,hv⟩:=bF.bU;obtain⟨t,rfl⟩:=VR.bB hv;have gZ:=cU▸hz;exact PySem.P.len_str (ζ.mpr (uN (pZ gZ (by decide)))) (K _ _ _ (.toks G) (.int _ _))
theorem cJ.aLi:cJ B k (.builtin "min") [.val (.int a),.val (.int b)] (.int (if b<a then b else a)):=by
 intro A g s vs Q E R G bF K;obtain⟨v,w,rfl,hv,hw⟩:=bF.kE;obtain⟨t,rfl⟩:=VR.lW hv;obtain⟨u,rfl⟩:=VR.lW hw;refine min_two_ints R.handled λh' tk hk=>?_;refine K _ _ _ (.of G (.of hk) λb _=>hk b) ?_
 split<;>exact .int _ _
theorem cJ.list(hz:xs.length<=eJ):cJ B k (.type "list") [.val (.aO xs)] (.aO xs):=by
 intro A g s vs Q E R G bF K;obtain⟨v,rfl,hv⟩:=bF.bU;obtain⟨a,us,n,rfl,ho,r⟩:=VR.oQ G hv;have dQ:=r.length;have e:us.size=xs.length:=by simpa using dQ
 refine call_list_seq a (.inl rfl) ho rfl rfl (λh' c' hk hn=>?_) (by rw[e];exact hz);have f:=bH.jN s.heap;have G':=G.Wk hk;have f1:=G.fresh f;have px:=fU.eF (dP us c') f1 f;exact K _ _ (g.eF s.heap.objs.size (dP us c')) ⟨⟨.vJ hk,.refl _,rfl⟩,px,G'.eF f1 hn jE⟩ (.aO (aT.jY _ _ _) (r.mono px.sub))
noncomputable def bW(l:List Int):List AV:=l.map .int
theorem rU(l:List Int):(bW l).length=l.length:=by simp[bW]
theorem bD.Vi(h:bD B g vs (bW l)):Tj vs l:=by
 induction l generalizing vs with
 |nil=>obtain rfl:=bD.bB h;exact .nil
 |cons i l ih=>obtain⟨_,_,rfl,a,r⟩:=bD.bB h;obtain⟨_,rfl⟩:=VR.bB a;exact .cons _ _ (ih r)
theorem aFj(h:Tj vs l):bD B g vs (bW l):=by
 induction h with
 |nil=>exact .nil
 |cons _ _ _ ih=>exact .cons (.int _ _) ih
theorem cJ.sorted(hz:l.length<64)(hs:∀m:List Int,m.Perm l->m.Pairwise (·<= ·)->m=l'):cJ B k (.builtin "sorted") [.val (.aO (bW l))] (.aO (bW l')):=by
 intro A g s vs Q E R G bF K;obtain⟨v,rfl,hv⟩:=bF.bU;obtain⟨a,us,n,rfl,ho,r⟩:=VR.oQ G hv;obtain⟨L,m,hb,hn⟩:=R.ns;have hl:s.heap.IsList a us.toList.toArray:=⟨_,ho,rfl,n,by rw[OE];rfl⟩
 refine kso_sorted (DV hn) CQ hl r.Vi hz λD Az Ym c h' F N lt hi dQ hp hso E9=>?_;have e:=hs Ym hp hso;subst e;have le:=DU (more:=[_]) hb hn F N;obtain⟨f,f'⟩:=DH N lt;have f1:=G.fresh f;have px:=fU.eF (dP Az.toArray c) f1 f;exact K _ _ (g.eF D (dP Az.toArray c)) ⟨⟨le,.refl _,rfl⟩,px,(G.jK le λb dJ o e=>CL (more:=[_]) hn N e (G.kK b dJ)).eF f1 f' jE⟩ (.aO (aT.jY _ _ _) (aFj hi))
theorem aCw(l:List Int):∀n,n<=l.length->preSum (λi=>l.getD i 0) n=(l.take n).sum:=by
 intro n;induction n with
 |zero=>
  intro _;exact rfl
 |succ n ih=>
  intro h;show preSum _ n+l.getD n 0=_;have hn:n<l.length:=h;rw[ih (eO h),aNu,oO hn];have e1:l.getD n 0=l[n]:=by simp[iJ,oO hn]
  rw[e1];simp only[Option.toList_some,List.sum_append,OF,List.sum_nil];exact sP (cG [] [_,_] [.l (.u (.a .x .y)) (.a .x (.a .y .o))] rfl) (cG [] [_,_] [.l (.u (.a .x (.a .y .o))) (.a .x .y)] rfl)
theorem dS.aJ6(R:dS B k A h):A.in1.handled=none:=R.handled
theorem cJ.sum(il:eY lv (bW l)):cJ B k (.builtin "sum") [lv] (.int l.sum):=by
 intro A g s vs Q E R G bF K;obtain⟨v,rfl,hv⟩:=bF.bU;obtain⟨a,us,n,rfl,ho,r⟩:=il.oQ G hv;have hl:s.heap.IsList a us:=⟨_,ho,rfl,n,rfl⟩
 have hi:=r.Vi;have dQ:us.size=l.length:=by have:=r.length;simpa [bW] using this
 have hM:=gS ho;refine call_sum_walkG (AH hl ?_);refine⟨s.heap.objs.size,_,_,us.size,_,_,λi=>l.getD i 0,rfl,Walks.list R.aJ6 s.heap.objs.size a (rP hM) us,⟨⟨_,gU _ rfl,rfl,rfl⟩,⟨_,eG _ ho,rfl,n,rfl⟩⟩,?_,?_,?_⟩
 ·intro b hb
  rw[tT];rcases cE.mp hb with rfl|hb
  ·exact rO _
  ·rw[cW.mp hb];exact AA hM
 ·intro i v hv
  have yM:us.toList[i]?=some v:=by simpa using hv
  have Q2:i<l.length:=by
   have:=(zF.mp yM).1;simp at this;exact bV (aG [_,_,_] [.e .x .y,.l (.u .z) .x,.l .y .z] rfl dQ this)
  obtain⟨u,h1,h2⟩:=r.get (i:=i) (x:=.int l[i]) (by simp[bW,oO Q2]);cases (yM.symm.trans h1);obtain⟨t,rfl⟩:=VR.lW h2;exact⟨t,by simp[iJ,oO Q2]⟩
 ·intro h' tk t' hk
  rw[dQ,aCw l _ (dH _),AP]
  have Rr:∀b o,s.heap.get? b=some o->h'.get? b=some o:=λb o e=>hk b o (λq=>by
   rw[cW] at q;subst q;have:=bH.jN s.heap
   cases (e.symm.trans this)) (eG _ e)
  exact K _ _ _ (.of G (.of Rr) λb _=>Rr b) (.int _ _)
end
noncomputable def oV(aA:bO):List (aC×xC)->List (aC×aH)->List (aC×aH)
 |[],bS=>bS
 |(n,kd)::r,bS=>if kd==.free then oV aA r ((n,(aA.cells.lookup n).getD 0)::bS) else oV aA r bS
theorem Ot{aA:bO}:oV aA ((n,kd)::r) bS=if kd==.free then oV aA r ((n,(aA.cells.lookup n).getD 0)::bS) else oV aA r bS:=rfl
theorem QL(f:aC×xC->List (aC×aH)->qP (ForInStep (List (aC×aH))))
 (hf:∀name kind cs,f (name,kind) cs=if kind==.free then(do let c <-cellOf aA name;pure (.yield ((name,c)::cs))) else pure (.yield cs)):
 ∀(names:List (aC×xC)) (bS:List (aC×aH)),(∀x∈names,x.2=.free->∃c,aA.cells.lookup x.1=some c)->Bz names bS f=pure (oV aA names bS)
 |[],bS,h=>by rw[Ja];rfl
 |(name,kind)::r,bS,h=>by
  rw[zI,hf];have hr:=λa=>QL f hf r a λx hx=>h x (.tail _ hx);rw[Ot];cases hk:kind==.free with
  |true=>
   rw[if_pos rfl,if_pos rfl];obtain⟨c,hc⟩:=h (name,kind) (.head _) (gX hk);have e:cellOf aA name=pure c:=by unfold cellOf;rw[hc]
   rw[e,hc];exact hr _
  |false=>
   rw[if_neg (by decide),if_neg (by decide)];exact hr _
theorem QI(h:∀x∈scope.names,x.2=.free->∃c,aA.cells.lookup x.1=some c):η scope aA=pure (oV aA scope.names []):=by
 unfold η;dsimp only;rw[QL _ (λname kind cs=>by cases hk:kind==.free<;>simp[hk]) scope.names [] h];rfl
theorem Ue:∀{names:List (aC×xC)} {bS:List (aC×aH)} {x:aC} {c:aH},(oV aA names bS).lookup x=some c->bS.lookup x=some c\/((x,mG)∈names/\c=(aA.cells.lookup x).getD 0)
 |[],bS,x,c,h=>.inl h
 |(n,kd)::r,bS,x,c,h=>by
  rw[Ot] at h;cases hk:kd==.free with
  |true=>
   rw[hk,if_pos rfl] at h;rcases Ue h with q|⟨q1,q2⟩
   ·rw[mJ] at q
    cases hx:x==n with
    |true=>rw[hx] at q;cases q;have:=gX hx;subst this;have:=gX hk;subst this;exact .inr ⟨.head _,rfl⟩
    |false=>rw[hx] at q;exact .inl q
   ·exact .inr ⟨.tail _ q1,q2⟩
  |false=>
   rw[hk,if_neg (by decide)] at h;rcases Ue h with q|⟨q1,q2⟩
   ·exact .inl q
   ·exact .inr ⟨.tail _ q1,q2⟩
theorem DQ:∀{names:List (aC×xC)} {bS:List (aC×aH)} {x:aC} {c:aH},bS.lookup x=some c->(∀n∈names,n.1≠x)->(oV aA names bS).lookup x=some c
 |[],bS,x,c,h,hn=>h
 |(n,kd)::r,bS,x,c,h,hn=>by
  rw[Ot];have dD:=beq_eq_false_iff_ne.mpr (λq=>hn (n,kd) (.head _) q.symm)
  split
  ·exact DQ (by rw[mJ,dD];exact h) λm hm=>hn m (.tail _ hm)
  ·exact DQ h λm hm=>hn m (.tail _ hm)
theorem SQ:∀{names:List (aC×xC)} {bS:List (aC×aH)} {x:aC},(names.map (·.1)).Nodup->(x,mG)∈names->(oV aA names bS).lookup x=some ((aA.cells.lookup x).getD 0)
 |[],bS,x,hd,h=>nomatch h
 |(n,kd)::r,bS,x,hd,h=>by
  obtain⟨h1,h2⟩:=Mw.mp hd;rcases cE.mp h with q|q
  ·cases q
   rw[Ot,if_pos (show(mG==mG)=true from rfl)];refine DQ (by rw[mJ];simp) λm hm e=>h1 ?_;exact gK.mpr ⟨m,hm,e⟩
  ·rw[Ot]
   split<;>exact SQ h2 q
theorem Ci:∀(names:List (aC×xC)) (n:Nat) (bS:List (aC×aH)),iV n names bS=iV n names []++bS
 |[],n,bS=>rfl
 |(x,kd)::r,n,bS=>by
  unfold iV
  split
  ·rw[Ci r,Ci r _ [(x,n)],pJ];rfl
  ·exact Ci r n bS
set_option tactic.hygienic true in
theorem Nh:∀{names:List (aC×xC)} {n:Nat} {x:aC} {c:aH},(x,c)∈iV n names []->(x,Ca)∈names
 |[],n,x,c,h=>nomatch h
 |(y,kd)::r,n,x,c,h=>by
  unfold iV at h
  split at h
  ·rename_i hk
   rw[Ci] at h;rcases jV.mp h with q|q
   ·exact .tail _ (Nh q)
   ·have:=cW.mp q
    cases this;rw[gX hk];exact .head _
  ·exact .tail _ (Nh h)
theorem Cg:∀{names:List (aC×xC)} {n:Nat} {x:aC},(x,Ca)∈names->∃c,(x,c)∈iV n names []
 |[],n,x,h=>nomatch h
 |(y,kd)::r,n,x,h=>by
  unfold iV;rcases cE.mp h with q|q
  ·cases q
   rw[if_pos (show(Ca==Ca)=true from rfl),Ci];exact⟨n,jV.mpr (.inr (.head _))⟩
  ·split
   ·obtain⟨c,hc⟩:=Cg q
    rw[Ci];exact⟨c,jV.mpr (.inl hc)⟩
   ·exact Cg q
theorem xK:∀{l:List (aC×α)} {x:aC} {c:α},(l.map (·.1)).Nodup->(x,c)∈l->l.lookup x=some c
 |[],x,c,_,h=>nomatch h
 |(y,d)::r,x,c,hd,h=>by
  obtain⟨h1,h2⟩:=Mw.mp hd;rw[mJ];rcases cE.mp h with q|q
  ·cases q;simp
  ·have:(x==y)=false:=beq_eq_false_iff_ne.mpr λe=>h1 (gK.mpr ⟨(x,c),q,e⟩)
   rw[this];exact xK h2 q
theorem BY:∀{names:List (aC×xC)} {n:Nat},(names.map (·.1)).Nodup->((iV n names []).map (·.1)).Nodup
 |[],n,h=>.nil
 |(y,kd)::r,n,h=>by
  obtain⟨h1,h2⟩:=Mw.mp h;unfold iV
  split
  ·rw[Ci,Fh]
   refine OG.mpr ⟨BY h2,by simp,λa ha b hb=>?_⟩;rintro rfl;simp at hb;subst hb;obtain⟨⟨x,c⟩,hx,e⟩:=gK.mp ha;have:=Nh hx;dsimp only at e;subst e;exact h1 (gK.mpr ⟨_,this,rfl⟩)
  ·exact BY h2
theorem Uh{α:Type}{l r:List (aC×α)}{x:aC}:(l++r).lookup x=(l.lookup x).or (r.lookup x):=by
 induction l with
 |nil=>simp
 |cons a l ih=>
  obtain⟨y,d⟩:=a;rw[Tn,mJ,mJ];cases x==y with
  |true=>rfl
  |false=>exact ih
section
variable {B:BD} {k:Nat} {F:Fn} {A:bM} {sc:bR} {vars vars':aU} {aN:fM} {aA:bO} {cs:List (aC×aH)} {own cS:aC->aH} {g g':aT} {s s' bZ:aF}
theorem Nl{scope:bR}{globals:aH}{closure:List (aC×aH)}{ZZ:List (aC×aD)}{qual:aC}{func:Option aH}{code:aD}{Ou:Option bO}{builtins:aH}{Q:bO->aF->Prop}{E:aD->aF->Prop}
 (h:∀aA,aA=newEnv scope s.heap.objs.size globals (iV (s.heap.objs.size+1) scope.names []++closure) qual func code Ou builtins->
  aK (aW B) A (Bz ZZ Jb λx _=>do Ms aA x.1 x.2;pure (.yield Jb)) (λ_ s'=>Q aA s') E
   {s with heap:=qA (s.heap.push {cls:=.type (if Ou.isSome then "dict" else "frame"),data:=.dict #[]}) scope.names}):
 aK (aW B) A (newFunctionEnv scope globals closure ZZ qual func code Ou builtins) Q E s:=by
 unfold newFunctionEnv;refine aM (ξ ?_);refine aM (wpAny_layCells _ (λname kind cells=>by cases hkc:kind==Ca<;>simp[hkc]) _ _ _ _ ?_);rw[show({s with heap:=s.heap.push {cls:=.type (if Ou.isSome then "dict" else "frame"),data:=.dict #[]}}:aF).heap.objs.size=s.heap.objs.size+1 from tT ..];rw[Ci];have h':=h _ rfl;unfold newEnv at h';cases Ou with
 |none=>exact aM (eK h' (λ_ _ q=>bE q) λ_ _ q=>q)
 |some eB=>exact aM (eK h' (λ_ _ q=>bE q) λ_ _ q=>q)
structure Gx(B:BD)(g:aT)(h:bH)(scope:bR)(closure:List (aC×aH))(fv:aU):Prop where
 var:∀x lv,fv.lookup x=some lv->∃av c v,lv=.val av/\(x,mG)∈scope.names/\closure.lookup x=some c/\h.IsCell c (some v)/\VR B g v av
 live:∀x c,closure.lookup x=some c->(x,mG)∈scope.names/\∃v,h.IsCell c v
theorem Ul{scope:bR}{closure:List (aC×aH)}{fv:aU}{cls:String}{fI:Fp}{cQ:Option aC}{Lb:aH}{bY:List bO}(G:bI B g s.heap)(iM:(scope.names.map (·.1)).Nodup)(fr:Gx B g s.heap scope closure fv)
 (hL:aA.locals=s.heap.objs.size) (hc:aA.cells=iV (s.heap.objs.size+1) scope.names []++closure) (hk:aA.scope.kind=.function) (hg:aA.globals=jU) (hb:aA.builtins=qM)
 (Ab:∀x,(x,Ca)∈scope.names->aA.kindOf x=some .cell) (ZQ:∀x,(x,mG)∈scope.names->aA.kindOf x=some .free\/aA.kindOf x=some .cell)
 (rA:∀b∈fI.cB,B.base.get? b=none) (sC:fI.gen=[]) (qD:∀b∈fI.cB,∃o,s.heap.get? b=some o) (own:aC->aH)
 (fL:kD B (qA (s.heap.push {cls:=.type cls,data:=.dict #[]}) scope.names) bY) (LK:∀e∈bY,∀L,e.frame=some L->L=aA.locals\/∃o,s.heap.get? L=some o):
 aY B ⟨s,g,fI,cQ,Lb,[],bY⟩ aA (iV (s.heap.objs.size+1) scope.names []) own fv g {s with heap:=qA (s.heap.push {cls:=.type cls,data:=.dict #[]}) scope.names}:=by
 have keep:∀b o,s.heap.get? b=some o->(qA (s.heap.push {cls:=.type cls,data:=.dict #[]}) scope.names).get? b=some o:=λb o e=>Fi _ _ b o (eG _ e);have ok:=cellsFrom_ok scope.names (s.heap.push {cls:=.type cls,data:=.dict #[]}) (s.heap.objs.size+1) [] ⟨λ_ _ hm=>(nomatch hm),AS⟩ (by rw[tT];exact dH _);rw[tT] at ok
 have fresh:∀a,s.heap.objs.size<=a->s.heap.get? a=none:=λa ha=>by
  cases e:s.heap.get? a with
  |none=>rfl
  |some o'=>exact absurd (gS e) (pH.mpr ha)
 have nd:=BY (n:=s.heap.objs.size+1) iM;have cN:∀x c,(x,c)∈iV (s.heap.objs.size+1) scope.names []->s.heap.get? c=none:=λx c h=>fresh c (fD (Iy _) (ok.empty x c h).2);have lk:∀x c,(x,c)∈iV (s.heap.objs.size+1) scope.names []->aA.cells.lookup x=some c:=λx c h=>by rw[hc,Uh,xK nd h];rfl
 have lkF:∀x c,closure.lookup x=some c->aA.cells.lookup x=some c:=λx c h=>by
  rw[hc,Uh];have hx:=(fr.live x c h).1;cases q:(iV (s.heap.objs.size+1) scope.names []).lookup x with
  |none=>exact h
  |some d=>
   exfalso;have h1:=Nh (mem_of_lookup q);have h2:=xK iM h1;rw[xK iM hx] at h2;cases h2
 have M5:∀x c,aA.cells.lookup x=some c->(x,c)∈iV (s.heap.objs.size+1) scope.names []\/closure.lookup x=some c:=λx c h=>by
  rw[hc,Uh] at h;cases q:(iV (s.heap.objs.size+1) scope.names []).lookup x with
  |none=>rw[q] at h;exact .inr h
  |some d=>rw[q] at h;cases h;exact .inl (mem_of_lookup q)
 have nv:∀x xs,fv.lookup x=some (.own xs)->False:=λx xs h=>by
  obtain⟨av,_,_,e,_⟩:=fr.var x _ h;cases e
 have G':=G.Wk keep
 have ns:(qA (s.heap.push {cls:=.type cls,data:=.dict #[]}) scope.names).Ns aA.locals (λ_=>none):=by
  rw[hL];exact(AU s.heap (.type cls)).keeps (Fi _ _)
 exact {
  en:=⟨G.le,rA,sC,qD,λb hb=>by obtain⟨o,e⟩:=qD b hb;exact⟨o,keep b o e⟩⟩
  kd:=λy lv h=>by
   obtain⟨av,c,v,_,h2,_⟩:=fr.var y lv h;exact(ZQ y h2).elim (λq=>.inr (.inr q)) λq=>.inr (.inl q)
  keep:=.of λb o _ e=>keep b o e
  ext:=.refl _ _
  ok:=G'
  kind:=hk,eH:=hg,blt:=hb
  dX:=⟨_,ns,λx lv h1 h2=>by
   obtain⟨av,c,v,_,h3,_⟩:=fr.var x lv h1
   rcases ZQ x h3 with q|q<;>(cases (q.symm.trans h2))⟩
  gH:=λx lv h1 h2=>by
   obtain⟨av,c,v,rfl,h3,h4,h5,h6⟩:=fr.var x lv h1;exact⟨c,v,lkF x c h4,h5.keeps keep,h6⟩
  iG:=λx c h=>⟨lk x c h,Ab x (Nh h),none,(ok.empty x c h).1⟩
  dU:=⟨hL▸G.fresh (bH.jN _),hL▸bH.jN _⟩
  eE:=λx c h=>⟨G.fresh (cN x c h),cN x c h⟩
  kL:=λx c y d h1 h2 dD=>by
   rintro rfl;rcases M5 y c h2 with q|q
   ·exact dD (name_of_addr ok.apart h1 q)
   ·obtain⟨v,o,e,_⟩:=(fr.live y c q).2
    cases ((cN x c h1).symm.trans e)
  gF:=λx xs h=>(nv x xs h).elim
  jI:=λx xs _ _ h=>(nv x xs h).elim
  cQ:=λx xs h=>(nv x xs h).elim
  gd:=⟨λp h=>(cO h).elim,λp h=>(cO h).elim,λp h=>(cO h).elim,λp h=>(cO h).elim,λp h=>(cO h).elim,λp h=>(cO h).elim,λp h=>(cO h).elim,AS⟩
  iL:=λx c h=>by
   rcases M5 x c h with q|q
   ·exact⟨_,(ok.empty x c q).1⟩
   ·obtain⟨v,hv⟩:=(fr.live x c q).2
    exact⟨v,hv.keeps keep⟩
  fr:=fL
  lJ:=LK}
end
section
variable {prog:iS} {w:iI} {A:bM} {aA:bO} {s:aF}
noncomputable def Vy(aA:bO)(ifs:List bJ):qP Bool:=Bz ifs true λc r=>if r=true then do let ok <-isTrue c aA (eval c aA);pure (OH ok) else pure (OH r)
theorem aDw{dK:bJ}{gens:List qR}{scope:bR}{pos:dI}{d:Nat}{g:qR}{it bS:aD}{Q:Fin->aF->Prop}{E:aD->aF->Prop}(hg:gens[d]?=some g)(ha:g.is_async=0)
 (hn:∀g',gens[d+1]?=some g'->g'.is_async=0/\∀x,sV g'.iter aA x=pure x)
 (h:aK (model prog w) A (mH it) (λr aS=>match r with
  |none=>Q (.done .next) aS
  |some v=>aK (model prog w) A (tR g.target it v) (λ_ bN=>aK (model prog w) A (assign g.target aA v) (λ_ gO=>aK (model prog w) A (Vy aA g.ifs) (λok gN=>
   if ok=true then(match gens[d+1]? with
    |some g'=>aK (model prog w) A (eval g'.iter aA) (λx vW=>aK (model prog w) A (wW x) (λRg vU=>
     Bx (model prog w) A (.compStart (.ListComp dK gens scope pos) (d+1) Rg bS aA) (λr Hb=>match r with|.ok _=>Q (.again (.compLoop (.ListComp dK gens scope pos) d it bS aA)) Hb|.error e=>Tg (model prog w) A aA E e Hb) vU) E vW) E gN
    |none=>aK (model prog w) A (eval dK aA) (λx vW=>aK (model prog w) A (call (.builtin "list.append") [bS,x]) (λ_ vU=>Q (.again (.compLoop (.ListComp dK gens scope pos) d it bS aA)) vU) E vW) E gN)
   else Q (.again (.compLoop (.ListComp dK gens scope pos) d it bS aA)) gN) E gO) E bN) E aS) E s):
 aK (model prog w) A (compTurn (.ListComp dK gens scope pos) d it bS aA) Q E s:=by
 unfold compTurn;simp only[hg];have rK:(g.is_async !=0)=false:=by rw[ha];rfl
 rw[rK];simp only[Fj,if_false];refine aM (pI (aM (eK h (λr aS lY=>?_) λ_ _ q=>q)));cases r with
 |none=>exact bE lY
 |some v=>
  refine aM (eK lY (λ_ bN vZ=>?_) λ_ _ q=>q);refine aM (eK vZ (λ_ gO An=>?_) λ_ _ q=>q);refine aM (eK An (λok gN oG=>?_) λ_ _ q=>q);cases ok with
  |false=>
   rw[if_neg (by decide)] at oG
   with_reducible refine uY (by decide) ?_
   exact bE oG
  |true=>
   rw[if_pos rfl] at oG
   with_reducible refine Hu rfl ?_
   revert hn oG;generalize gens[d+1]?=o;intro hn oG;cases o with
   |none=>
    refine aM (aM (eK oG (λx vW Hg=>aM (eK Hg (λ_ vU Hf=>bE ?_) λ_ _ q=>q)) λ_ _ q=>q));exact bE Hf
   |some g'=>
    obtain⟨h1,h2⟩:=hn g' rfl;have yT:(g'.is_async !=0)=false:=by rw[h1];rfl
    simp only[yT,Fj,if_false];refine aM (eK oG (λx vW Hg=>?_) λ_ _ q=>q);refine aM (pI ?_);refine aM (mM (h2 x) ?_);refine aM (mK (eK Hg (λRg vU Hf=>?_) λ_ _ q=>q));refine aM (wpAny_runOwn (OI Hf λr Hb Pu=>?_));cases r with
    |ok f=>exact bE Pu
    |error e=>exact Pu
end
section
variable {prog:iS} {w:iI} {A:bM} {aA:bO} {s:aF}
def GN(prog:iS)(w:iI)(A:bM)(aA:bO)(dK:bJ)(gens:List qR)(scope:bR)(pos:dI)(d:Nat)(ifs:List bJ)(bS:aD)(Q:aF->Prop)(E:aD->aF->Prop)(s:aF):Prop:=
 aK (model prog w) A (Vy aA ifs) (λok gN=>
  if ok=true then(match gens[d+1]? with
   |some g'=>aK (model prog w) A (eval g'.iter aA) (λx vW=>aK (model prog w) A (wW x) (λRg vU=>
    Bx (model prog w) A (.compStart (.ListComp dK gens scope pos) (d+1) Rg bS aA) (λr Hb=>match r with|.ok _=>Q Hb|.error e=>Tg (model prog w) A aA E e Hb) vU) E vW) E gN
   |none=>aK (model prog w) A (eval dK aA) (λx vW=>aK (model prog w) A (call (.builtin "list.append") [bS,x]) (λ_ vU=>Q vU) E vW) E gN)
  else Q gN) E s
theorem aDx{dK:bJ}{gens:List qR}{scope:bR}{pos:dI}{d:Nat}{g:qR}{it bS:aD}{R:AM->aF->Prop}(hg:gens[d]?=some g)(ha:g.is_async=0)
 (hn:∀g',gens[d+1]?=some g'->g'.is_async=0/\∀x,sV g'.iter aA x=pure x) (I:Nat->aF->Prop)
 (GY:∀n s (N:aD->aF->Prop),I n s->aK (model prog w) A (mH it) (λr aS=>match r with
  |none=>R (.ok .next) aS
  |some v=>aK (model prog w) A (tR g.target it v) (λ_ bN=>aK (model prog w) A (assign g.target aA v) (λ_ gO=>
   GN prog w A aA dK gens scope pos d g.ifs bS (λgN=>∃m,m<n/\I m gN) N gO) N bN) N aS) N s)
 (n:Nat) (h:I n s):Bx (model prog w) A (.compLoop (.ListComp dK gens scope pos) d it bS aA) R s:=by
 refine codeAny_loop rfl I (λn s hI=>?_) n h;show aK _ _ ((compTurn (.ListComp dK gens scope pos) d it bS aA).onRaise (λx=>do tU x aA;Mx x)) _ _ s;refine wpAny_noted ?_;refine aDw hg ha hn (eK (GY n s _ hI) (λr aS lY=>?_) λ_ _ q=>q);cases r with
 |none=>exact lY
 |some v=>
  refine eK lY (λ_ bN vZ=>eK vZ (λ_ gO An=>eK An (λok gN oG=>?_) λ_ _ q=>q) λ_ _ q=>q) λ_ _ q=>q;cases ok with
  |false=>
   rw[if_neg (by decide)] at oG ⊢;exact⟨rfl,oG⟩
  |true=>
   rw[if_pos rfl] at oG ⊢;revert oG;generalize gens[d+1]?=o;intro oG;cases o with
   |none=>exact eK oG (λx vW Hg=>eK Hg (λ_ vU Hf=>⟨rfl,Hf⟩) λ_ _ q=>q) λ_ _ q=>q
   |some g'=>
    refine eK oG (λx vW Hg=>eK Hg (λRg vU Hf=>OI Hf λr Hb Pu=>?_) λ_ _ q=>q) λ_ _ q=>q;cases r with
    |ok f=>exact⟨rfl,Pu⟩
    |error e=>exact Pu
theorem RL(hg:gens[d]?=some g)(ha:g.is_async=0)
 (h:Bx (model prog w) A (.compLoop (.ListComp dK gens scope pos) d it bS aA) R s) (hs:∀(Q:aD->aF->Prop) (E:aD->aF->Prop),Q it s->aK (model prog w) A (wW it) Q E s):
 Bx (model prog w) A (.compStart (.ListComp dK gens scope pos) d it bS aA) R s:=by
 refine ρ ?_;show aK _ _ ((compStart (.ListComp dK gens scope pos) d it bS aA).onRaise (λx=>do tU x aA;Iv theWindowsPlace)) _ _ s;refine wpAny_notedAt ?_;unfold compStart;have yS:clausesOf (.ListComp dK gens scope pos)=gens:=rfl;have rK:(g.is_async !=0)=false:=by rw[ha];rfl
 simp only[yS,hg,Option.elim_some,rK,Fj,if_false];refine aM (wpAny_askSetting (wpAny_ite ?_))
 split
 ·exact aM (bE (bE ⟨rfl,h⟩))
 ·exact aM (Jc (aM (pI (aM (hs _ _ (bE ⟨rfl,h⟩))))))
end
structure CP(B:BD)(k:Nat)(A:bM)(sc:bR)(aN:fM)(aA:bO)(cs:List (aC×aH))(own:aC->aH)(vars:aU)(g:aT)(s:aF):Prop where
 handled:A.handled=none
 depth:A.depth+k<Iu
 units:A.units+40*k<cLine
 frames:A.frames=some aN.bY
 mT:aN.bY≠[]
 sr:SR B aA sc
 iE:∀x,iH sc x->qU aA cs x
 st:aY B aN aA cs own vars g s
section
variable {B:BD} {k:Nat} {A:bM} {sc:bR} {vars vars':aU} {aN:fM} {aA:bO} {cs:List (aC×aH)} {own cS:aC->aH} {g g':aT} {s s':aF}
theorem CP.to(x:CP B k A sc aN aA cs own vars g s)(y:aY B aN aA cs cS vars' g' s'):CP B k A sc aN aA cs cS vars' g' s':=⟨x.handled,x.depth,x.units,x.frames,x.mT,x.sr,x.iE,y⟩
theorem CP.room(x:CP B k A sc aN aA cs own vars g s):dS B k A s.heap:=by
 refine⟨x.handled,x.depth,x.units,?_⟩;have h1:=x.frames;have h2:=x.mT;have h3:=x.st.fr;revert h1 h2 h3;generalize aN.bY=l;intro h1 h2 h3;cases l with
 |nil=>exact absurd rfl h2
 |cons e l=>exact⟨e,l,h1,h3⟩
theorem CP.pre(x:CP B k A sc aN aA cs own vars g s):iQ B k A sc vars aA g s:=x.st.pre x.room x.sr
def mE(B:BD)(D:aH)(ys:List AV)(g:aT)(s:aF):Prop:=∃vs n,s.heap.get? D=some (dP vs n)/\bD B g vs.toList ys
theorem mE.post{D:aH}{ys:List AV}(x:mE B D ys g s)(y:bT B s g s' g'):mE B D ys g' s':=by obtain⟨vs,n,h,r⟩:=x;exact⟨vs,n,y.keep.le.cM h jE,r.mono y.ext.sub⟩
noncomputable abbrev jR(D:aH):Fp:=⟨[D],[]⟩
theorem mE.same{D:aH}{ys:List AV}{sD:aF}(x:mE B D ys g s)(l:lV (jR D) sD)(a:iX (jR D) sD s)(b:iX (jR D) sD s')(h:g.Sub g'):mE B D ys g' s':=by
 obtain⟨vs,n,e,r⟩:=x;obtain⟨o,e0,k⟩:=l.cB D (.head _)
 have cM:eD o:=by
  rcases k with k|⟨es,ep,k⟩
  ·exact k
  ·exfalso
   rcases a.1 D (.head _) o e0 with q|⟨o',q,_,_,sO,Bp,_,d,_⟩
   ·cases (e.symm.trans q);cases k
   ·cases (e.symm.trans q);cases d
 have h1:=(a.1 D (.head _)).cM e0 cM;cases (e.symm.trans h1);exact⟨vs,n,(b.1 D (.head _)).cM e0 jE,r.mono h⟩
def Wt(B:BD)(aN:fM)(lG:List (Fp×aF))(D:aH)(aA:bO)(cs:List (aC×aH))(own:aC->aH)(vars:aU)(g:aT)(zs:List AV)(s':aF):Prop:=
 ∃g' Qq,aY B {aN with guard:=lG++[(jR D,Qq)]} aA cs own vars g' s'/\mE B D zs g' s'/\g.Sub g'
def rG(B:BD)(k:Nat)(sc:bR)(dK:bJ)(gens:List qR)(scope:bR)(pos:dI)(d:Nat)(ifs:List bJ)(vars:aU)(ys:List AV):Prop:=
 ∀(A:bM) (aN:fM) (lG:List (Fp×aF)) (sD:aF) (aA:bO) (cs:List (aC×aH)) (own:aC->aH) (g:aT) (s:aF) (D:aH) (zs:List AV) (Q:aF->Prop) (E:aD->aF->Prop),
  CP B k A sc {aN with guard:=lG++[(jR D,sD)]} aA cs own vars g s->mE B D zs g s->zs.length+ys.length<=eJ->(∀s',Wt B aN lG D aA cs own vars g (zs++ys) s'->Q s')->GN B.prog B.w A aA dK gens scope pos d ifs (.ref D) Q E s
inductive jQ(B:BD)(k:Nat)(sc:bR)(vars:aU):List bJ->Bool->Prop where
 |nil:jQ B k sc vars [] true
 |t {e:bJ} {es:List bJ} {b:Bool}:bA B k sc vars e true->jQ B k sc vars es b->jQ B k sc vars (e::es) b
 |f {e:bJ} {es:List bJ}:bA B k sc vars e false->jQ B k sc vars (e::es) false
theorem aFk{aA:bO}:∀(es:List bJ) {Q:Bool->aF->Prop} {E:aD->aF->Prop},Q false s->aK (aW B) A (Bz es false λc r=>if r=true then do let ok <-isTrue c aA (eval c aA);pure (OH ok) else pure (OH r)) Q E s:=by
 intro es;induction es with
 |nil=>
  intro Q E h;rw[Ja];exact bE h
 |cons e es ih=>
  intro Q E h;rw[zI];refine aM ?_
  with_reducible refine uY (by decide) ?_
  exact bE (ih h)
theorem jQ.run{ifs:List bJ}{b:Bool}(h:jQ B k sc vars ifs b){A:bM}{aA:bO}{g:aT}{s:aF}{Q:Bool->aF->Prop}{E:aD->aF->Prop}(P:iQ B k A sc vars aA g s)(K:∀s' g',bT B s g s' g'->Q b s'):
 aK (aW B) A (Vy aA ifs) Q E s:=by
 unfold Vy;induction h generalizing g s with
 |nil=>rw[Ja];exact bE (K _ _ (.refl P.ok))
 |t ht hr ih=>
  rw[zI];refine aM ?_
  with_reducible refine Hu rfl ?_
  refine aM (ht A aA g s _ E P λs' g' X=>bE ?_);exact ih (P.post X) λdF eP Y=>K dF eP (X.trans Y)
 |f ht=>
  rw[zI];refine aM ?_
  with_reducible refine Hu rfl ?_
  refine aM (ht A aA g s _ E P λs' g' X=>bE ?_);exact aFk _ (K s' g' X)
theorem Wt.of{lG:List (Fp×aF)}{sD:aF}{D:aH}{zs:List AV}{g0:aT}(x:aY B {aN with guard:=lG++[(jR D,sD)]} aA cs own vars g s)(a:mE B D zs g s)(h:g0.Sub g):Wt B aN lG D aA cs own vars g0 zs s:=⟨g,sD,x,a,h⟩
theorem rG.skip{dK:bJ}{gens:List qR}{scope:bR}{pos:dI}{d:Nat}{ifs:List bJ}(h:jQ B k sc vars ifs false):rG B k sc dK gens scope pos d ifs vars []:=by
 intro A aN lG sD aA cs own g s D zs Q E P a hz K;refine h.run P.pre λs' g' X=>?_;rw[if_neg (by decide)];exact K s' (.of (P.st.post X) (by simpa using a.post X) X.ext.sub)
theorem aY.aL5{lG:List (Fp×aF)}{sD:aF}{D:aH}{zs:List AV}{r:AV}{h':bH}{tk:Nat}(x:aY B {aN with guard:=lG++[(jR D,sD)]} aA cs own vars g s)(hs:kU D s.heap h')(hl:∃vs n,h'.get? D=some (dP vs n)):
 aY B {aN with guard:=lG++[(jR D,{s with heap:=h',toks:=tk})]} aA cs own vars g {s with heap:=h',toks:=tk}:=by
 have pX:(jR D,sD)∈lG++[(jR D,sD)]:=by simp
 have E5:=x.gd.dM _ pX;have qG:=x.en.le.none ((x.gd.new _ pX).1 D (.head _));refine aY.step x (.of λb o hb e=>(hs.2 b (by simpa using hb)).trans e) (.refl _ _) (x.ok.jL hs (E5 D (.head _)) qG) (.refl _ _) ⟨E5,λb hb=>by rw[cW.mp hb];exact qG⟩ (.bU ?_);obtain⟨vs,n,e⟩:=hl;exact⟨_,e,jE⟩
theorem rG.aMh{dK:bJ}{gens:List qR}{scope:bR}{pos:dI}{d:Nat}{ifs:List bJ}{r:AV}(h:jQ B k sc vars ifs true)(hg:gens[d+1]?=none)(he:aB B k sc vars dK r):rG B k sc dK gens scope pos d ifs vars [r]:=by
 intro A aN lG sD aA cs own g s D zs Q E P a hz K;refine h.run P.pre λs1 g1 X=>?_;rw[if_pos rfl,hg];have P1:=P.to (P.st.post X);refine he A aA g1 s1 _ E P1.pre λv s2 g2 Y hv=>?_;have P2:=P1.to (P1.st.post Y);obtain⟨vs,n,hD,hr⟩:=(a.post X).post Y;have iF:vs.size<=eJ:=by have:=hr.length;simp at this hz;exact aV (aG [_,_,_] [.e .x .y,.l (.u .y) .z,.l (.u .z) .x] rfl this hz)
 refine aNj ⟨n,hD⟩ (λh' hl hs=>?_) iF;obtain⟨n',hl⟩:=hl;have S3:=aY.aL5 (zs:=zs) (r:=r) (tk:=s2.toks) P2.st hs ⟨_,_,hl⟩;exact K _ (.of S3 ⟨_,n',hl,by simpa using hr.append (.cons hv .nil)⟩ (X.ext.sub.trans Y.ext.sub))
inductive mR(B:BD)(k:Nat)(sc:bR)(dK:bJ)(gens:List qR)(scope:bR)(pos:dI)(d:Nat)(bP:bJ)(ifs:List bJ)(vars:aU):List AV->List AV->Prop where
 |nil:mR B k sc dK gens scope pos d bP ifs vars [] []
 |cons {x:AV} {xs y1 y2:List AV} {bs:List (aC×AV)}:fN bP x bs->(∀b∈bs,iH sc b.1)->fK vars (fH bs vars)->rG B k sc dK gens scope pos d ifs (fH bs vars) y1->mR B k sc dK gens scope pos d bP ifs vars xs y2->
  mR B k sc dK gens scope pos d bP ifs vars (x::xs) (y1++y2)
inductive GQ(B:BD)(k:Nat)(A:bM)(sc:bR)(aN:fM)(lG:List (Fp×aF))(D:aH)(aA:bO)(cs:List (aC×aH))(own:aC->aH)(vars:aU)(bP:bJ)(it:aD)(g0:aT)(xs zs:List AV)(s:aF):Prop
 |mk (g gI:aT) (sI s0 sD:aF) (fp:Fp) (P:CP B k A sc {aN with guard:=(fp,s0)::(lG++[(jR D,sD)])} aA cs own vars g s) (io:gB B k A bP it fp xs gI sI) (sub:gI.Sub g) (same:iX fp sI s) (bS:mE B D zs g s) (HB:g0.Sub g)
theorem mR.bB{dK:bJ}{gens:List qR}{scope:bR}{pos:dI}{d:Nat}{bP:bJ}{ifs:List bJ}{xs ys:List AV}(r:mR B k sc dK gens scope pos d bP ifs vars xs ys):(xs=[]/\ys=[])\/
 ∃x H3 y1 y2 bs,xs=x::H3/\ys=y1++y2/\fN bP x bs/\(∀b∈bs,iH sc b.1)/\fK vars (fH bs vars)/\rG B k sc dK gens scope pos d ifs (fH bs vars) y1/\mR B k sc dK gens scope pos d bP ifs vars H3 y2:=by
 cases r with
 |nil=>exact .inl ⟨rfl,rfl⟩
 |cons a b c d e=>exact .inr ⟨_,_,_,_,_,rfl,rfl,a,b,c,d,e⟩
theorem TZ{dK:bJ}{gens:List qR}{scope:bR}{pos:dI}{d:Nat}{c:qR}{xs ys:List AV}(hg:gens[d]?=some c)(ha:c.is_async=0)(hn:∀c',gens[d+1]?=some c'->c'.is_async=0/\∀aA x,sV c'.iter aA x=pure x)
 (r:mR B k sc dK gens scope pos d c.target c.ifs vars xs ys) {A:bM} {aN:fM} {lG:List (Fp×aF)} {D:aH} {aA:bO} {cs:List (aC×aH)} {own:aC->aH} {it:aD} {g0:aT} {zs:List AV} {s:aF} {R:AM->aF->Prop}
 (T:GQ B k A sc aN lG D aA cs own vars c.target it g0 xs zs s) (hz:zs.length+ys.length<=eJ) (K:∀s',Wt B aN lG D aA cs own vars g0 (zs++ys) s'->R (.ok .next) s'):
 Bx (aW B) A (.compLoop (.ListComp dK gens scope pos) d it (.ref D) aA) R s:=by
 refine aDx hg ha (λc' h=>⟨(hn c' h).1,(hn c' h).2 aA⟩) (λn s=>∃iA uU Qj,iA.length=n/\mR B k sc dK gens scope pos d c.target c.ifs vars iA Qj/\uU++Qj=zs++ys/\GQ B k A sc aN lG D aA cs own vars c.target it g0 iA uU s) (λn aS N hI=>?_) xs.length ⟨xs,zs,ys,rfl,r,rfl,T⟩;refine abs λQ' E' hQ hE=>?_;obtain⟨iA,uU,Qj,wL,r',KR,T'⟩:=hI;clear r T;obtain⟨g,gI,sI,s0,sD,fp,P,io,sub,same,a,HB⟩:=T';rcases r'.bB with ⟨rfl,rfl⟩|⟨x,iA,y1,y2,bs,rfl,rfl,hb,hs,hv,pX,hr⟩
 ·refine io.2 g aS _ E' P.room P.st.ok sub same (pA.of P.st) λbN hk G2=>?_
  have S2:aY B {aN with guard:=lG++[(jR D,sD)]} aA cs own vars g bN:=aY.drop P.st hk G2;refine hQ _ _ (K _ ⟨g,sD,S2,?_,HB⟩);have:=a.same (P.st.gd.nY (jR D,sD) (by simp)) (P.st.gd.same (jR D,sD) (by simp)) (S2.gd.same (jR D,sD) (by simp)) (.refl g);rw[<-KR];simpa using this
 ·have:=io.2 g aS (λv bN=>aK (aW B) A (assign c.target aA v) (λ_ gO=>GN B.prog B.w A aA dK gens scope pos d c.ifs (.ref D) (λgN=>∃m,m<n/\∃GV A4 A5,GV.length=m/\mR B k sc dK gens scope pos d c.target c.ifs vars GV A5/\A4++A5=zs++ys/\GQ B k A sc aN lG D aA cs own vars c.target it g0 GV A4 gN) N gO) N bN) N P.room P.st.ok sub same (pA.of P.st) ?_
  ·refine eK this (λr s' h=>hQ _ _ ?_) hE
   obtain⟨v,rfl,q⟩:=h;exact q
  ·intro v bN fV iN u hk he G o wH Rh
   have S2:=aY.step (pY:=[]) P.st hk he G u o Rh.live;have a2:=a.same (P.st.gd.nY (jR D,sD) (by simp)) (P.st.gd.same (jR D,sD) (by simp)) (S2.gd.same (jR D,sD) (by simp)) he.sub;refine SX P.handled hb (λb h=>P.iE _ (hs b h)) S2 wH λgO S3=>?_;have a3:=a2.same (S2.gd.nY (jR D,sD) (by simp)) (S2.gd.same (jR D,sD) (by simp)) (S3.gd.same (jR D,sD) (by simp)) (.refl fV);have P3:CP B k A sc {aN with guard:=((iN,bN)::lG)++[(jR D,sD)]} aA cs own (fH bs vars) fV gO:=⟨P.handled,P.depth,P.units,P.frames,P.mT,P.sr,P.iE,S3⟩
   have dQ:=congrArg rS KR;simp at dQ;refine pX A aN ((iN,bN)::lG) sD aA cs own fV gO D uU _ N P3 a3 (aV (aG [_,_,_,_,_,_] [.l (.a .x .y) .z,.e (.a .w (.a .p .q)) (.a .x .y),.l (.u .z) (.a .w .p)] rfl hz dQ)) λgN So=>?_;obtain⟨g4,Qq,S4,a4,A9⟩:=So;refine⟨_,(wL▸rO _),iA,uU++y1,y2,rfl,hr,by rw[pJ];exact KR,g4,fV,bN,bN,Qq,iN,⟨P.handled,P.depth,P.units,P.frames,P.mT,P.sr,P.iE,S4.sub hv⟩,Rh,A9,?_,a4,?_⟩
   ·exact S4.gd.same (iN,bN) (.head _)
   ·exact(HB.trans he.sub).trans A9
theorem Gm.start{it:aD}{fp:Fp}(so:Gm B it fp s){Q:aD->aF->Prop}{E:aD->aF->Prop}(q:Q it s):aK (aW B) A (wW it) Q E s:=so A s Q E (.refl _ _) q
theorem rG.nest{dK:bJ}{gens:List qR}{scope:bR}{pos:dI}{d:Nat}{ifs:List bJ}{c:qR}{xs ys:List AV}(h:jQ B k sc vars ifs true)(hg:gens[d+1]?=some c)(ha:c.is_async=0)(hn:∀c',gens[d+2]?=some c'->c'.is_async=0/\∀aA x,sV c'.iter aA x=pure x)
 (hi:cR B k sc vars c.target c.iter xs) (r:mR B k sc dK gens scope pos (d+1) c.target c.ifs vars xs ys):rG B k sc dK gens scope pos d ifs vars ys:=by
 intro A aN lG sD aA cs own g s D zs Q E P a hz K;refine h.run P.pre λs1 g1 X=>?_;rw[if_pos rfl,hg];have P1:=P.to (P.st.post X);refine hi A aA g1 s1 _ E P1.pre λit fp s2 g2 Y ff io so=>?_;have S2:=P1.st.push Y ff io.live;have P2:CP B k A sc {aN with guard:=(fp,s2)::(lG++[(jR D,sD)])} aA cs own vars g2 s2:=⟨P.handled,P.depth,P.units,P.frames,P.mT,P.sr,P.iE,S2⟩
 refine RL hg ha ?_ λQ E q=>so.start q
 refine TZ hg ha hn r
  ⟨g2,g2,s2,s2,sD,fp,P2,io,.refl _,.refl _ _,(a.post X).post Y,X.ext.sub.trans Y.ext.sub⟩ hz λs' So=>K s' So
end
theorem QG{aA:bO}:∀{names:List (aC×xC)} {x:aC} {kd:xC},names.lookup x=some kd->
 (names.map λ(n,k)=>if(k==mG&&aA.scope.kind==.function&&aA.kindOf n==some .cell) then(n,Ca) else(n,k)).lookup x=some kd\/
 (kd=.free/\(names.map λ(n,k)=>if(k==mG&&aA.scope.kind==.function&&aA.kindOf n==some .cell) then(n,Ca) else(n,k)).lookup x=some .cell)
 |[],x,kd,h=>by simp at h
 |(n,k)::r,x,kd,h=>by
  have ih:= @QG aA r x kd;show τ x ((if(k==mG&&aA.scope.kind==.function&&aA.kindOf n==some .cell)=true then(n,Ca) else(n,k))::_)=_\/_/\τ x ((if(k==mG&&aA.scope.kind==.function&&aA.kindOf n==some .cell)=true then(n,Ca) else(n,k))::_)=_;cases hx:x==n with
  |true=>
   simp only[mJ,hx] at h;cases h
   by_cases hc:(k==mG&&aA.scope.kind==.function&&aA.kindOf n==some .cell)=true
   ·rw[if_pos hc]
    simp only[mJ,hx];simp only[Fe] at hc;exact .inr ⟨gX hc.1.1,trivial⟩
   ·rw[if_neg hc];simp only[mJ,hx];exact .inl trivial
  |false=>
   simp only[mJ,hx] at h
   by_cases hc:(k==mG&&aA.scope.kind==.function&&aA.kindOf n==some .cell)=true
   ·rw[if_pos hc];simp only[mJ,hx];exact ih h
   ·rw[if_neg hc];simp only[mJ,hx];exact ih h
section
variable {B:BD} {k:Nat} {A:bM} {sc:bR} {vars vars':aU} {aN:fM} {aA:bO} {cs:List (aC×aH)} {own cS:aC->aH} {g g':aT} {s s':aF}
theorem aY.aKr{s0 s3:aF}{g0 g3:aT}{bY:List bO}{gd:List (Fp×aF)}(x:aY B ⟨s3,g3,⟨[],[]⟩,none,0,[],bY⟩ aA cs own vars g s)(y:bT B s0 g0 s3 g3)(wQ:Gd ⟨s0,g0,⟨[],[]⟩,none,0,gd,bY⟩ g s aA.locals aA.cells)(HY:∀z zs,vars.lookup z=some (.own zs)->False)(G0:bI B g0 s0.heap)(LK:∀e∈bY,∀L,e.frame=some L->∃o,s0.heap.get? L=some o):
 aY B ⟨s0,g0,⟨[],[]⟩,none,0,gd,bY⟩ aA cs own vars g s where
 en:=⟨G0.le,λb hb=>(cO hb).elim,rfl,λb hb=>(cO hb).elim,λb hb=>(cO hb).elim⟩
 kd:=x.kd
 keep:=⟨λb o _ e=>(y.keep.le b o e).trans λo' q=>x.keep.le b o' (cO) q,λi v _ e=>x.keep.keep i v (cO) (y.keep.gens.keep i v e),x.keep.bare∘y.keep.gens.bare,x.keep.os.trans y.keep.os⟩
 ext:=⟨y.ext.sub.trans x.ext.sub,λb o e=>(x.ext.new b o e).elim (y.ext.new b o) λq=>.inr (y.keep.le.none q)⟩
 ok:=x.ok
 kind:=x.kind
 eH:=x.eH
 blt:=x.blt
 dX:=x.dX
 gH:=x.gH
 iG:=x.iG
 dU:=⟨x.dU.1,y.keep.le.none x.dU.2⟩
 eE:=λz c h=>⟨(x.eE z c h).1,y.keep.le.none (x.eE z c h).2⟩
 kL:=x.kL
 gF:=λz zs h=>(HY z zs h).elim
 jI:=λz zs _ _ h=>(HY z zs h).elim
 cQ:=λz zs h=>(HY z zs h).elim
 gd:=wQ
 iL:=x.iL
 fr:=x.fr
 lJ:=λe he L h=>.inr (LK e he L h)
structure vM(sc:bR)(vars:aU)(scope:bR)(fv:aU):Prop where
 var:∀x lv,fv.lookup x=some lv->∃av,lv=.val av/\vars.lookup x=some lv/\(x,mG)∈scope.names/\(sc.names.lookup x=some .cell\/sc.names.lookup x=some .free)
 all:∀x,(x,mG)∈scope.names->∃lv,fv.lookup x=some lv
theorem vM.cells(f:vM sc vars scope fv)(P:iQ B k A sc vars aA g s)(h:(x,mG)∈scope.names):
 ∃av c v,fv.lookup x=some (.val av)/\aA.cells.lookup x=some c/\s.heap.IsCell c (some v)/\VR B g v av:=by
 obtain⟨lv,h1⟩:=f.all x h;obtain⟨av,rfl,h2,_,h3⟩:=f.var x lv h1
 have hk:aA.kindOf x=some .cell\/aA.kindOf x=some .free:=by
  rcases h3 with q|q
  ·rcases P.sr.names x _ q with r|⟨r,_⟩
   ·exact .inl r
   ·cases r
  ·rcases P.sr.names x _ q with r|⟨_,r⟩
   ·exact .inr r
   ·exact .inl r
 obtain⟨c,v,q1,q2,q3⟩:=P.aA.gH x _ h2 hk;exact⟨av,c,v,h1,q1,q2,q3⟩
theorem vM.run(f:vM sc vars scope fv)(iM:(scope.names.map (·.1)).Nodup)(P:iQ B k A sc vars aA g s)(le:Le B.base s.heap h')(sub:g.Sub g'):Gx B g' h' scope (oV aA scope.names []) fv where
 var:=λx lv h=>by
  obtain⟨av,rfl,_,h3,_⟩:=f.var x lv h;obtain⟨U7,c,v,q0,q1,q2,q3⟩:=f.cells P h3;cases (h.symm.trans q0);exact⟨av,c,v,rfl,h3,by rw[SQ iM h3,q1];rfl,le.uD q2,q3.mono sub⟩
 live:=λx c h=>by
  rcases Ue h with q|⟨q1,q2⟩
  ·cases q
  ·obtain⟨U7,d,v,_,r1,r2,_⟩:=f.cells P q1
   rw[r1] at q2;have:c=d:=q2;subst this;exact⟨q1,_,le.uD r2⟩
theorem UX
 (tI:gens=g0::gs) (ha:g0.is_async=0) (hf:∀aA x,sV g0.iter aA x=pure x) (hn:∀c',gens[1]?=some c'->c'.is_async=0/\∀aA x,sV c'.iter aA x=pure x) (Aa:scope.kind=.function) (iM:(scope.names.map (·.1)).Nodup) (fr:vM sc vars scope fv) (rD:nJ scope=none)
 (P:iQ B k A sc vars aA g s) (hi:cR B k sc vars g0.target g0.iter xs) (r:mR B k scope dK gens scope pos 0 g0.target g0.ifs fv xs ys) (hz:ys.length<=eJ)
 (K:∀D C s' g' m,bT B s g s' g'->NV B s g' s' (.ref D) D (.own ys)->s.heap.get? C=none->g' C=none->s'.heap.Ns C m->compPost (aW B) A E use Q (.ref D) C (.ok .next) s'):
 aK (aW B) A (comprehension (.ListComp dK gens scope pos) scope aA B5 (AW []) false (eval g0.iter aA) use) Q E s:=by
 have aKf:=QI (scope:=scope) (aA:=aA) λx hx hk=>by
  obtain⟨_,c,_,_,q,_⟩:=fr.cells P (x:=x.1) (by rw[<-hk];exact hx);exact⟨c,q⟩
 refine wpAny_comprehension_free (g:=g0) (gs:=gs) (cl:=oV aA scope.names []) tI (hf aA) aKf Aa (λx hx hl=>xK iM (by rw[<-hl];exact hx)) ?_;refine hi A aA g s _ E P λit fp s1 g1 X ff io so=>?_;refine Fk ?_ (hd:=by size_fits);obtain⟨ev,eB,pD,fL⟩:=P.room.frames;have hD:=bH.jN s1.heap;generalize hDa:s1.heap.objs.size=D at hD ⊢;have X2:=X.trans (bT.tE X.ok {cls:=.type "list",dict:=none,data:=.seq ([]:List aD).toArray});generalize Rk:({s1 with heap:=s1.heap.push {cls:=.type "list",dict:=none,data:=.seq ([]:List aD).toArray}}:aF)=s2 at X2 ⊢;have MF:s2.heap.get? D=some (dP #[] 0):=by rw[<-Rk,<-hDa];exact gU _ rfl
 refine Nl λuQ Wl=>?_;rw[Ja];refine bE ?_;simp only[Option.isSome_some,if_true];have hL:uQ.locals=s2.heap.objs.size:=by rw[Wl];rfl
 have LS:uQ.cells=iV (s2.heap.objs.size+1) scope.names []++oV aA scope.names []:=by rw[Wl];rfl
 have Ys:∀x kd,scope.names.lookup x=some kd->Fd {uQ with scope:=relabel scope aA} x=some kd\/(kd=.free/\Fd {uQ with scope:=relabel scope aA} x=some .cell):=λx kd h=>QG h;have zZ:∀b o,s2.heap.get? b=some o->(qA (s2.heap.push {cls:=.type "dict",data:=.dict #[]}) scope.names).get? b=some o:=λb o e=>Fi _ _ b o (eG _ e)
 have S0:aY B ⟨s2,g1,⟨[],[]⟩,none,0,[],ev::eB⟩ {uQ with scope:=relabel scope aA} (iV (s2.heap.objs.size+1) scope.names []) (λ_=>0) fv g1 {s2 with heap:=qA (s2.heap.push {cls:=.type "dict",data:=.dict #[]}) scope.names}:=by
  refine Ul (aA:={uQ with scope:=relabel scope aA}) (fI:=⟨[],[]⟩) X2.ok iM (fr.run iM P X2.keep.le X2.ext.sub) hL LS Aa ?_ ?_ (λx h=>?_) (λx h=>?_) (λb hb=>(cO hb).elim) rfl (λb hb=>(cO hb).elim) _ ((fL.mono X2.keep.le).mono (.vJ zZ)) (λe he L h=>.inr ?_)
  ·rw[Wl];exact P.aA.eH
  ·rw[Wl];exact P.aA.blt
  ·rcases Ys x _ (xK iM h) with q|⟨q,_⟩
   ·exact q
   ·cases q
  ·rcases Ys x _ (xK iM h) with q|⟨_,q⟩
   ·exact .inl q
   ·exact .inr q
  ·obtain⟨_,L',m,h1,_,h3⟩:=(fL.mono X2.keep.le) e he
   cases (h.symm.trans h1);exact qV h3
 generalize Lp:({s2 with heap:=qA (s2.heap.push {cls:=.type "dict",data:=.dict #[]}) scope.names}:aF)=s3 at S0 ⊢;have X3:bT B s g s3 g1:=X2.trans (by rw[<-Lp];exact .of X2.ok (.of (tk:=s2.toks) zZ) λb _=>zZ b)
 have V5:oI B.base s1 s3:=by
  have k12:oI B.base s1 s2:=by rw[<-Rk];exact⟨.push _,.refl _,rfl⟩
  refine k12.trans ?_;rw[<-Lp];exact .of (tk:=s2.toks) zZ
 have WA:=(io.live).post V5;have sD:s.heap.get? D=none:=X.keep.le.none hD;have lD:∃o,s3.heap.get? D=some o/\eD o:=⟨_,by rw[<-Lp];exact zZ _ _ MF,jE⟩
 have aL3:D∉fp.cB:=λq=>by
  obtain⟨_,o,e⟩:=ff.cB D q;cases (hD.symm.trans e)
 have gD:g1 D=none:=X.ok.fresh hD;have gfp:Ik fp g1:=ff.own.dM
 have U1:∀x c,uQ.cells.lookup x=some c->s2.heap.get? c=none\/∃o,s.heap.get? c=some o:=λx c h=>by
  rw[LS,Uh] at h;cases q:(iV (s2.heap.objs.size+1) scope.names []).lookup x with
  |none=>
   rw[q] at h;rcases Ue h with r|⟨r1,r2⟩
   ·cases r
   ·obtain⟨_,d,v,_,q1,q2,_⟩:=fr.cells P r1
    rw[q1] at r2;have:c=d:=r2;subst this;obtain⟨o,e,_⟩:=q2;exact .inr ⟨o,e⟩
  |some d=>
   rw[q] at h;cases h;have hm:=(mem_of_lookup q)
   have ok:=cellsFrom_ok scope.names (s2.heap.push {cls:=.type "dict",data:=.dict #[]}) (s2.heap.objs.size+1) [] ⟨λ_ _ hm=>(nomatch hm),AS⟩ (by rw[tT];exact dH _);rw[tT] at ok;have:=(ok.empty x c hm).2;cases e:s2.heap.get? c with
   |none=>exact .inl rfl
   |some o=>exact absurd (gS e) (pH.mpr (φ this))
 have Wf:∀c,(s2.heap.get? c=none\/∃o,s.heap.get? c=some o)->c∉fp.cB/\c≠D:=λc h=>by
  constructor
  ·intro q
   obtain⟨e,o,e'⟩:=ff.cB c q;rcases h with h|⟨o',h⟩
   ·have:s2.heap.get? c=some o:=by rw[<-Rk];exact eG _ e'
    cases (h.symm.trans this)
   ·cases (e.symm.trans h)
  ·rintro rfl
   rcases h with h|⟨o',h⟩
   ·cases (MF.symm.trans h)
   ·cases (sD.symm.trans h)
 have wQ:Gd ⟨s,g,⟨[],[]⟩,none,0,(fp,s3)::([]++[(jR D,s3)]),ev::eB⟩ g1 s3 ({uQ with scope:=relabel scope aA}:bO).locals ({uQ with scope:=relabel scope aA}:bO).cells:=by
  have kE:∀{p:Fp×aF} {C:Fp×aF->Prop},C (fp,s3)->C (jR D,s3)->p∈(fp,s3)::([]++[(jR D,s3)])->C p:=λh1 h2 hp=>by
   rcases cE.mp hp with rfl|hp
   ·exact h1
   ·rw[Fl,cW] at hp;subst hp;exact h2
  refine⟨λp hp=>kE (C:=λp=>iX p.1 p.2 s3) (.refl _ _) (.refl _ _) hp,λp hp=>kE (C:=λp=>lV p.1 s3) WA (.bU lD) hp,λp hp=>kE (C:=λp=>lV p.1 p.2) WA (.bU lD) hp,λp hp=>kE (C:=λp=>Ik p.1 g1) gfp (λb hb=>by rw[cW.mp hb];exact gD) hp,
   λp hp=>kE (C:=λp=>(∀b∈p.1.cB,s.heap.get? b=none)/\∀i∈p.1.gen,s.gens[i]?=none) ⟨λb hb=>(ff.cB b hb).1,λi hi=>(ff.gen i hi).1⟩ ⟨λb hb=>by rw[cW.mp hb];exact sD,λi hi=>(cO hi).elim⟩ hp,
   λp hp=>kE (C:=λp=>uQ.locals∉p.1.cB) ?_ ?_ hp,λp hp x c hc=>kE (C:=λp=>c∉p.1.cB) (Wf c (U1 x c hc)).1 (λq=>(Wf c (U1 x c hc)).2 (cW.mp q)) hp,?_⟩
  ·exact(Wf _ (.inl (by rw[hL];exact bH.jN _))).1
  ·exact λq=>(Wf _ (.inl (by rw[hL];exact bH.jN _))).2 (cW.mp q)
  ·refine Bw.mpr ⟨λq hq=>?_,by rw[Fl];exact aNv _ _⟩
   rw[Fl,cW] at hq;subst hq;exact⟨λb hb hbD=>aL3 (cW.mp hbD▸hb),λi _ hi=>(cO hi).elim⟩
 have aLh:∀z zs,fv.lookup z=some (.own zs)->False:=λz zs h=>by
  obtain⟨_,e,_⟩:=fr.var z _ h;cases e
 have S1:=S0.aKr X2 wQ aLh P.ok λe he L h=>by
  obtain⟨_,L',m,h1,_,h3⟩:=fL e he;cases (h.symm.trans h1);exact qV h3
 have CP0:CP B k A scope {(⟨s,g,⟨[],[]⟩,none,0,[],ev::eB⟩:fM) with guard:=(fp,s3)::([]++[(jR D,s3)])} {uQ with scope:=relabel scope aA} (iV (s2.heap.objs.size+1) scope.names []) (λ_=>0) fv g1 s3:=
  ⟨P.room.handled,P.room.depth,P.room.units,pD,by simp,⟨Ys,λq h=>by cases (rD.symm.trans h)⟩,λx hx=>by
   rcases hx with q|q
   ·rcases Ys x _ q with r|⟨r,_⟩
    ·exact .inl r
    ·cases r
   ·exact .inr (Cg (mem_of_lookup q)),S1⟩
 have ZM:iX fp s1 s3:=by
  exact(iX.refl fp s1).post io.live V5
 subst tI;refine RL rfl ha ?_ λQ E q=>so A s3 Q E ZM q
 refine TZ rfl ha hn r
  ⟨g1,g1,s1,s3,s3,fp,CP0,io,.refl _,ZM,⟨#[],0,by rw[<-Lp];exact zZ _ _ MF,.nil⟩,X.ext.sub⟩ (by simpa using hz) λs' So=>?_
 obtain⟨g',Qq,S',a',Dj⟩:=So;obtain⟨m,rJ,_⟩:=S'.dX;have post:bT B s g s' g':=⟨⟨λb o e=>S'.keep.le b o (cO) e,⟨λi v e=>S'.keep.keep i v (cO) e,S'.keep.bare⟩,S'.keep.os⟩,S'.ext,S'.ok⟩
 have gD':=S'.gd.dM (jR D,Qq) (by simp) D (.head _);refine K D uQ.locals s' g' m post ⟨rfl,gD',sD,?_⟩ S'.dU.2 S'.dU.1 rJ;have a'':mE B D ys g' s':=by simpa using a'
 exact a''
end
section
variable {B:BD} {k:Nat} {F:Fn} {A:bM} {sc:bR} {vars vars':aU} {aN:fM} {aA:bO} {cs:List (aC×aH)} {own cS:aC->aH} {g g':aT} {s s':aF}
structure Gn(sc:bR)(vars:aU)(gens:List qR)(g0:qR)(gs:List qR)(scope:bR)(fv:aU):Prop where
 eq:gens=g0::gs
 aP7:g0.is_async=0
 fold:∀aA x,sV g0.iter aA x=pure x
 more:∀c',gens[1]?=some c'->c'.is_async=0/\∀aA x,sV c'.iter aA x=pure x
 kind:scope.kind=.function
 nd:(scope.names.map (·.1)).Nodup
 fr:vM sc vars scope fv
 nP:nJ scope=none
theorem eA.comp(c:Gn sc vars gens g0 gs scope fv)(hi:cR B k sc vars g0.target g0.iter xs)(r:mR B k scope dK gens scope pos 0 g0.target g0.ifs fv xs ys)(hz:ys.length<=eJ):
 eA B k sc vars (.ListComp dK gens scope pos) (.own ys):=by
 intro A aA g s Q E P K;have e:eval (.ListComp dK gens scope pos) aA=comprehension (.ListComp dK gens scope pos) scope aA (firstIterPos gens pos) (AW []) (OJ gens) (OK gens aA):=rfl;rw[e];obtain⟨Ig,ha,hf,hn,hk,iM,fr,rD⟩:=c;have e2:OJ gens=false:=by subst Ig;obtain⟨_,_,_,a⟩:=g0;show(a !=0)=false;have:a=0:=ha;rw[this];rfl
 have e3:OK gens aA=eval g0.iter aA:=by subst Ig;obtain⟨_,_,_,a⟩:=g0;rfl
 rw[e2,e3];refine UX Ig ha hf hn hk iM fr rD P hi r hz λD C s' g' m X hD hC gC rJ=>?_;refine⟨m,rJ,λh' hs=>?_⟩;obtain⟨_,h2,h3,vs,n,h4,h5⟩:=id hD;have ME:D≠C:=by rintro rfl;exact absurd rfl (Gc rJ h4)
 have hb:=P.ok.uB hC;have X':bT B s g {s' with heap:=h'} g':=⟨⟨λb o e=>(X.keep.le b o e).trans λo' q=>.inl ((hs.2 b λq'=>by subst q';cases (hC.symm.trans e)).trans q),X.keep.gens,X.keep.os⟩,X.ext,X.ok.jL hs gC hb⟩
 exact K _ D _ g' X' ⟨rfl,h2,h3,vs,n,(hs.2 D ME).trans h4,h5⟩
theorem aY.aK5(x:aY B aN aA cs own vars g s)(hs:kU C s.heap h')(hL:C≠aA.locals)(yS:∀z c,aA.cells.lookup z=some c->c≠C)(hO:∀z zs,vars.lookup z=some (.own zs)->own z≠C)(hG:∀p∈aN.guard,C∉p.1.cB)
 (hF:∀e∈aN.bY,e.frame≠some C) (hl:C∉aN.fI.cB) (gC:g C=none) (hE:aN.s.heap.get? C=none):aY B aN aA cs own vars g {s with heap:=h',toks:=tk}:=by
 have Ec:∀z lv v,vars.lookup z=some lv->nF B s.heap g (own z) v lv->nF B h' g (own z) v lv:=λz lv v e q=>by
  cases lv with
  |val av=>exact q
  |own zs=>
   obtain⟨rfl,vs,n,e',r⟩:=q;exact⟨rfl,vs,n,(hs.2 _ (hO z zs e)).trans e',r⟩
 exact {
  en:=⟨x.en.le,x.en.rA,x.en.sC,x.en.qD,λb hb=>by obtain⟨o,e⟩:=x.en.fI b hb;exact⟨o,(hs.2 b λq=>hl (q▸hb)).trans e⟩⟩
  kd:=x.kd
  keep:=x.keep.jL hs (.inl hE)
  ext:=x.ext
  ok:=x.ok.jL hs gC (x.en.le.none hE)
  kind:=x.kind,eH:=x.eH,blt:=x.blt
  dX:=by obtain⟨m,n,r⟩:=x.dX;exact⟨m,n.sameBut hs (gJ hL),λz lv h1 h2=>by obtain⟨v,h3,h4⟩:=r z lv h1 h2;exact⟨v,h3,Ec z lv v h1 h4⟩⟩
  gH:=λz lv h1 h2=>by obtain⟨c,v,h3,h4,h5⟩:=x.gH z lv h1 h2;exact⟨c,v,h3,h4.sameBut hs (yS z c h3),Ec z lv v h1 h5⟩
  iG:=λz c h=>by obtain⟨a,b,v,q⟩:=x.iG z c h;exact⟨a,b,v,q.sameBut hs (yS z c a)⟩
  dU:=x.dU,eE:=x.eE,kL:=x.kL,gF:=x.gF,jI:=x.jI,cQ:=x.cQ
  gd:=x.gd.jL hs hG tk
  iL:=λz c h=>by obtain⟨v,q⟩:=x.iL z c h;exact⟨v,q.sameBut hs (yS z c h)⟩
  fr:=λe he=>by obtain⟨a,L,m,h1,h2,h3⟩:=x.fr e he;exact⟨a,L,m,h1,h2,h3.sameBut hs λq=>hF e he (q▸h1)⟩
  lJ:=x.lJ}
theorem aP.RM(c:Gn F.sc vars gens g0 gs scope fv)(hi:cR B k F.sc vars g0.target g0.iter xs)(r:mR B k scope dK gens scope pos 0 g0.target g0.ifs fv xs ys)(hz:ys.length<=eJ)
 (hx:F.sc.names.lookup x=some .local) (ha:F.cQ≠some x) (hs:∀aA:bO,aA.scope=F.sc->vE (.ListComp dK gens scope pos) (some (.Name x xp)) p.line aA=pure true):
 aP B k F vars (.Assign [.Name x xp] (.ListComp dK gens scope pos) p) (.cF (cT x (.own ys) vars)):=by
 intro A aN aA cs own g s Q E P K;rw[exec_Assign_Name_used _ _ _ _ (hs aA P.scope)];obtain⟨Ig,rK,hf,hn,hk,iM,fr,rD⟩:=c;have e2:OJ gens=false:=by subst Ig;obtain⟨_,_,_,a⟩:=g0;show(a !=0)=false;have:a=0:=rK;rw[this];rfl
 have e3:OK gens aA=eval g0.iter aA:=by subst Ig;obtain⟨_,_,_,a⟩:=g0;rfl
 refine aM (pI (aM ?_));show aK _ A (do let _ <-comprehension (.ListComp dK gens scope pos) scope aA (firstIterPos gens pos) (AW []) (OJ gens) (OK gens aA) (some (χ (.Name x xp) aA))) _ _ s;rw[e2,e3];refine aM (eK (UX (Q:=λ_ s'=>Q .next s') (E:=E) (use:=some (χ (.Name x xp) aA)) Ig rK hf hn hk iM fr rD P.pre hi r hz λD C s' g' m X hD hC gC rJ=>?_) (λ_ s' q=>bE (bE q)) λ_ _ q=>q);have S1:=P.st.post X;obtain⟨_,h2,h3,vs,n,h4,h5⟩:=id hD;have ME:D≠C:=by rintro rfl;exact absurd rfl (Gc rJ h4)
 have live:∀a,(∃o,s.heap.get? a=some o)->C≠a:=λa ⟨o,e⟩ q=>by subst q;cases (hC.symm.trans e)
 have cL:C≠aA.locals:=live _ (by obtain⟨_,n,_⟩:=P.st.dX;exact qV n);have nf:NF B aN g' s' own vars ⟨x,.ref D,D,.own ys⟩:=NV.nf P.st X hD (by rw[P.cQ];exact ha);have N6:=P.kind hx;show aK (aW B) A (χ (.Name x xp) aA (.ref D)) _ E s';refine AL ?_;obtain⟨mL,Ic,hr⟩:=S1.dX;refine Fb N6 Ic (λnR n'' HW=>?_) (by rw[P.st.kind];rfl);refine⟨m,rJ.sameBut HW cL,λMG Lp=>?_⟩;have S2:=S1.HE (av:=.mZ 0 λ_ v=>v=.ref D) Ic hr N6 (.mZ λ_ _=>rfl) n'' HW (s'.toks+1);obtain⟨_,_,f3,f4,f5,f6,_⟩:=id nf;have hDL:=Gc Ic h4
 have S3:=S2.claim ⟨_,by rw[jW,if_pos rfl],λv h=>h⟩ h2 f3 f4 ⟨vs,n,(HW.2 D hDL).trans h4,h5⟩ (λz zs gZ=>by
  rw[jW] at gZ
  by_cases Bi:z=x
  ·cases ((if_pos Bi).symm.trans gZ)
  ·rw[if_neg Bi] at gZ;exact f6 z zs gZ) f5
 have S4:=S3.sub λz lv e=>by
  rw[jW] at e;rw[jW,jW]
  by_cases hz:z=x
  ·rw[if_pos hz] at e ⊢;exact e
  ·rw[if_neg hz] at e;rw[if_neg hz,if_neg hz];exact e
 have S5:=S4.aK5 (tk:=s'.toks+1) Lp cL (λz c h=>gJ (live c (by obtain⟨_,q⟩:=P.st.iL z c h;exact zO q))) (λz zs gZ=>?_) (λp hp q=>?_) (λe he q=>?_) (λq=>live C (P.st.en.fI C q) rfl) gC (P.st.keep.Ap (λq=>live C (P.st.en.fI C q) rfl) hC)
 ·exact K _ _ ⟨rfl,_,g',S5⟩
 ·show(if z=x then D else own z)≠C
  by_cases hz:z=x
  ·rw[if_pos hz];exact ME
  ·rw[if_neg hz]
   rw[jW,if_neg hz] at gZ;obtain⟨_,_,e,_⟩:=P.st.tA gZ (P.st.kd _ _ gZ);exact gJ (live _ ⟨_,e⟩)
 ·obtain⟨o,e,_⟩:=(P.st.gd.live p hp).cB C q
  cases (hC.symm.trans e)
 ·obtain⟨_,L,m',h1,_,aL4⟩:=P.st.fr e he
  cases (q.symm.trans h1);exact live C (qV aL4) rfl
end
section
variable {B:BD} {k:Nat} {F:Fn} {A:bM} {sc:bR} {vars vars':aU} {aN:fM} {aA:bO} {cs:List (aC×aH)} {own cS:aC->aH} {g g':aT} {s s':aF}
theorem Ju:∀{is:List iB} {vars:aU} {s:aF} {Q:PUnit->aF->Prop},aY B aN aA cs own vars g s->(∀i∈is,qU aA cs i.x)->(∀i∈is,∃av,i.lv=.val av/\VR B g i.v av)->
 (∀s',aY B aN aA cs own (rZ is vars) g s'->(∀b vs n,s.heap.get? b=some (dP vs n)->s'.heap.get? b=some (dP vs n))->Q Jb s')->aK (aW B) A (Bz (is.map λi=>(i.x,i.v)) Jb λx _=>do Ms aA x.1 x.2;pure (.yield Jb)) Q E s:=by
 intro is;induction is with
 |nil=>
  intro vars s Q S hx hv K;rw[List.map_nil,Ja];exact bE (K s S λ_ _ _ e=>e)
 |cons i is ih=>
  intro vars s Q S hx hv K;rw[nU,zI];obtain⟨av,e,r⟩:=hv i (.head _);refine aM (aM (CA S (hx i (.head _)) r λs' S' hl=>bE ?_));have NA:aY B aN aA cs own (cT i.x i.lv vars) g s':=by rw[e];exact S'
  exact ih NA (λj hj=>hx j (.tail _ hj)) (λj hj=>hv j (.tail _ hj)) λs2 S2 nQ=>K s2 S2 λb vs n q=>nQ b vs n (hl b vs n q)
structure Wr(s:aF)(a:aH)(fd:mF)(body:List dE):Prop where
 obj:∃o,s.heap.get? a=some o/\o.data=.func fd
 body:fd.body=.stmts body
 sH:s.heap.CodeRec fd.code fd.qualname
 co:fd.scope.isCoroutine=false
 gen:fd.scope.isGenerator=false
 kind:fd.scope.kind=.function
 nd:(fd.scope.names.map (·.1)).Nodup
 eH:fd.globals=jU
 blt:fd.builtins=qM
 iP:fd.closure=[]
 zV:∀x,(x,mG)∉fd.scope.names
noncomputable def jT.res:jT->Option AV
 |.ret _ r=>some r
 |.cF _=>some .none
 |_=>none
noncomputable def jT.left:jT->aU
 |.ret v _=>v
 |.cF v=>v
 |.brk v=>v
 |.cnt v=>v
theorem Ut{a:aH}{fd:mF}{body:List dE}{args:Args}{is:List iB}{out:jT}{r:AV}{Q:aD->aF->Prop}{E:aD->aF->Prop}(R:dS B (k+1) A s.heap)(G:bI B g s.heap)(f:Wr s a fd body)(rD:∀q,nJ fd.scope=some q->fd.code=(B.oF q).1/\fd.qualname++".<locals>."=(B.oF q).2)(fI:List aH)(cQ:Option aC)(aL:aH)
 (hb:iU s fd args (is.map λi=>(i.x,i.v))) (hs:∀i∈is,iH fd.scope i.x) (rA:∀b∈fI,B.base.get? b=none) (qD:∀b∈fI,∃o,s.heap.get? b=some o)
 (FK:aU) (aKg:∀(A':bM) (aA:bO) (cs:List (aC×aH)) (aN:fM) (s1:aF) (Q:PUnit->aF->Prop) (E:aD->aF->Prop),aN.s=s->aN.g=g->aN.fI=⟨fI,[]⟩->aN.cQ=cQ->aN.Lb=aL->aN.guard=[]->(∀i∈is,qU aA cs i.x)->(∀b o,s.heap.get? b=some o->s1.heap.get? b=some o)->aY B aN aA cs (λ_=>aL) [] g s1->
  (∀s2,aY B aN aA cs (λ_=>aL) FK g s2->Q Jb s2)->aK (aW B) A' (Bz (is.map λi=>(i.x,i.v)) Jb λx _=>do Ms aA x.1 x.2;pure (.yield Jb)) Q E s1)
 (kW:aJ B k {sc:=fd.scope,cQ:=cQ} FK body out) (hr:out.res=some r)
 (K:∀v s' g' aA cs own bY,aY B ⟨s,g,⟨fI,[]⟩,cQ,aL,[],bY⟩ aA cs own out.left g' s'->VR B g' v r->Q v s'):aK (aW B) A (call (.ref a) args.pos args.kw) Q E s:=by
 obtain⟨o,ho,hd⟩:=f.obj;obtain⟨ev,eB,pD,fL⟩:=R.frames;refine xD ?_;refine aNw (by have:=R.depth;exact bV (aG [_,_,_] [.l (.u (.a .x (.u .y))) .z,.l .z .x] rfl this)) ho hd f.co f.gen f.body f.sH ?_;refine hb _ _ _ _ ?_;refine Nl λaA jJ=>?_;rw[f.iP,pB] at jJ;simp only[OL,Fj,if_false];have hL:aA.locals=s.heap.objs.size:=by rw[jJ];rfl
 have hc:aA.cells=iV (s.heap.objs.size+1) fd.scope.names []++[]:=by rw[jJ,pB];rfl
 have dC:aA.scope=fd.scope:=by rw[jJ];rfl
 have Bm:aA.frame=some s.heap.objs.size:=by rw[jJ];rfl
 have hk:∀x kd,(x,kd)∈fd.scope.names->aA.kindOf x=some kd:=λx kd h=>by
  unfold Fd;rw[dC];exact xK f.nd h
 have Kk:∀b o,s.heap.get? b=some o->(qA (s.heap.push {cls:=.type "frame",data:=.dict #[]}) fd.scope.names).get? b=some o:=λb o e=>Fi _ _ b o (eG _ e)
 have Qa:kD B (qA (s.heap.push {cls:=.type "frame",data:=.dict #[]}) fd.scope.names) (aA::ev::eB):=λe he=>by
  rcases cE.mp he with rfl|he
  ·refine⟨by rw[dC,f.kind];nofun,s.heap.objs.size,_,Bm,G.uB (bH.jN _),(AU s.heap (.type "frame")).keeps (Fi _ _)⟩
  ·exact(fL.mono (.vJ Kk)) e he
 have S0:aY B ⟨s,g,⟨fI,[]⟩,cQ,aL,[],aA::ev::eB⟩ aA (iV (s.heap.objs.size+1) fd.scope.names []) (λ_=>aL) [] g {s with heap:=qA (s.heap.push {cls:=.type "frame",data:=.dict #[]}) fd.scope.names}:=by
  refine Ul G f.nd ⟨λx lv h=>by simp at h,λx c h=>by simp at h⟩ hL hc (by rw[dC,f.kind]) ?_ ?_ (λx h=>hk x _ h) (λx h=>(f.zV x h).elim) rA rfl qD _ Qa (λe he L h=>?_)
  ·rw[jJ];exact f.eH
  ·rw[jJ];exact f.blt
  ·rcases cE.mp he with rfl|he
   ·cases (Bm.symm.trans h);exact .inl hL.symm
   ·obtain⟨_,L',m,h1,_,h3⟩:=fL e he
    cases (h.symm.trans h1);exact .inr (qV h3)
 have iE:∀x,iH fd.scope x->qU aA (iV (s.heap.objs.size+1) fd.scope.names []) x:=λx h=>h.imp (λq=>hk x _ (mem_of_lookup q)) λq=>Cg (mem_of_lookup q);refine aKg _ aA _ _ _ _ _ rfl rfl rfl rfl rfl rfl (λi hi=>iE i.x (hs i hi)) Kk S0 λs2 S2=>?_;refine⟨S2.ok.le.nolimit B.nolimit,codeAny_func ?_⟩
 have P:eI B k (A.deeper aA) {sc:=fd.scope,cQ:=cQ} ⟨s,g,⟨fI,[]⟩,cQ,aL,[],aA::ev::eB⟩ aA (iV (s.heap.objs.size+1) fd.scope.names []) (λ_=>aL) FK g s2:=
  ⟨R.handled,by have:=R.depth;show A.depth+1+k<_;exact bV (aG [_,_,_] [.l (.u (.a .x (.u .y))) .z,.l .z (.a (.u .x) .y)] rfl this),by have:=R.units;show A.units+3+40*k<_;exact bV (aG [_,_,_] [.l (.u (.a .x (.m 40 (.u .y)))) .z,.l .z (.a (.a .x (.n 3)) (.m 40 .y))] rfl this),by show A.frames.map _=_;rw[pD];rfl,by simp,dC,λx h _=>Cg (mem_of_lookup h),rfl,λq h=>by obtain⟨h1,h2⟩:=rD q h;rw[jJ];exact⟨h1,h2⟩,S2⟩
 refine kW (A.deeper aA) _ aA _ _ g s2 _ _ P λfl s3 O=>?_;cases out with
 |cF=>
  obtain⟨rfl,cS,g',S3⟩:=O;cases hr;exact K _ s3 g' aA _ cS _ S3 .none
 |ret=>
  obtain⟨v,cS,g',rfl,hv,S3⟩:=O;cases hr;exact K v s3 g' aA _ cS _ S3 hv
 |brk=>cases hr
 |cnt=>cases hr
def pE(B:BD)(k:Nat)(f:aD)(kw:List (aC×aD))(args:List LV)(r:AV):Prop:=
 ∀(A:bM) (g:aT) (s:aF) (vs:List aD) (Q:aD->aF->Prop) (E:aD->aF->Prop),dS B k A s.heap->bI B g s.heap->fW B s.heap g vs args->
  (∀v s' g',bT B s g s' g'->VR B g' v r->Q v s')->aK (aW B) A (call f vs kw) Q E s
theorem aY.Gh{bY:List bO}{cQ:Option aC}{aL:aH}(x:aY B ⟨s,g,⟨[],[]⟩,cQ,aL,[],bY⟩ aA cs own vars g' s'):bT B s g s' g':=
 ⟨⟨λb o e=>x.keep.le b o cO e,⟨λi v e=>x.keep.keep i v cO e,x.keep.bare⟩,x.keep.os⟩,x.ext,x.ok⟩
structure kI(B:BD)(x:aC)(fd:mF)(body:List dE)(a:aH):Prop where
 nm:B.mg x=some (.ref a)
 obj:∃o,B.base.get? a=some o/\o.data=.func fd/\o.cls≠.none
 body:fd.body=.stmts body
 sH:∃c o vs t,fd.code=.ref c/\B.base.get? c=some o/\o.data=.fields vs/\vs[1]?=some (.str fd.qualname t)/\o.cls≠.none
 co:fd.scope.isCoroutine=false
 gen:fd.scope.isGenerator=false
 kind:fd.scope.kind=.function
 nd:(fd.scope.names.map (·.1)).Nodup
 eH:fd.globals=jU
 blt:fd.builtins=qM
 iP:fd.closure=[]
 zV:∀x,(x,mG)∉fd.scope.names
 nP:∀q,nJ fd.scope=some q->fd.code=(B.oF q).1/\fd.qualname++".<locals>."=(B.oF q).2
theorem kI.at{x:aC}{fd:mF}{body:List dE}{a:aH}(f:kI B x fd body a)(G:bI B g s.heap):Wr s a fd body where
 obj:=by obtain⟨o,h1,h2,h3⟩:=f.obj;exact⟨o,G.le.cM h1 ⟨.inl h3,by rw[h2];nofun⟩,h2⟩
 body:=f.body
 sH:=by obtain⟨c,o,vs,t,h1,h2,h3,h4,h5⟩:=f.sH;exact⟨c,o,vs,t,h1,G.le.cM h2 ⟨.inl h5,by rw[h3];nofun⟩,h3,h4⟩
 co:=f.co
 gen:=f.gen
 kind:=f.kind
 nd:=f.nd
 eH:=f.eH
 blt:=f.blt
 iP:=f.iP
 zV:=f.zV
def aK1(B:BD)(fd:mF)(kw:List (aC×aD))(args:List LV)(kM:List (aC×LV)):Prop:=
 ∀(s:aF) (g:aT) (vs:List aD),bI B g s.heap->fW B s.heap g vs args->∃is:List iB,iU s fd ⟨vs,kw⟩ (is.map λi=>(i.x,i.v))/\is.map (λi=>(i.x,i.lv))=kM/\∀i∈is,eW B s.heap g i.v i.lv
theorem pE.fun{x:aC}{fd:mF}{body:List dE}{a:aH}{kw:List (aC×aD)}{args:List LV}{kM:List (aC×LV)}{out:jT}{r:AV}(f:kI B x fd body a)(hb:aK1 B fd kw args kM)(hv:∀p∈kM,∃av,p.2=.val av)(hs:∀p∈kM,iH fd.scope p.1)
 (kW:aJ B k {sc:=fd.scope} (oP kM []) body out) (hr:out.res=some r):pE B (k+1) (.ref a) kw args r:=by
 intro A g s vs Q E R G bF K;obtain⟨is,h1,h2,h3⟩:=hb s g vs G bF;refine Ut R G (f.at G) f.nP [] none 0 h1 (λi hi=>hs (i.x,i.lv) (by rw[<-h2];exact gK.mpr ⟨i,hi,rfl⟩)) (λb h=>(cO h).elim) (λb h=>(cO h).elim) (oP kM []) ?_ kW hr ?_
 ·intro A' aA cs aN s1 Q E Yq Q4 _ _ _ _ pW hk S K
  refine Ju S pW (λi hi=>?_) λs2 S2 _=>K s2 ?_
  ·obtain⟨av,e⟩:=hv (i.x,i.lv) (by rw[<-h2];exact gK.mpr ⟨i,hi,rfl⟩)
   dsimp only at e;refine⟨av,e,?_⟩;have:=h3 i hi;rw[e] at this;exact this
  ·rw[Jr,h2] at S2;exact S2
 ·intro v s' g' aA cs own bY S wH
  exact K v s' g' S.Gh wH
theorem pE.U3(h:pE B k f [] args r):cJ B k f args r:=h
theorem aY.aLl(x:aY B aN aA cs (λ_=>d) vars g s)(hy:∃P,vars.lookup x0=some (.val (.mZ 0 P))/\∀v,P g v->v=.ref d)(gd:g d=none)(hl:d∈aN.fI.cB)(ha:aN.cQ=some x0)(hA:aN.Lb=d)(hg:aN.guard=[])(a:mE B d xs g s)
 (Ro:∀z zs,vars.lookup z=some (.own zs)->False):aY B aN aA cs (λ_=>d) (cT x0 (.own xs) vars) g s:=by
 refine x.FV (λz lv e=>?_) (λz zs e=>?_) (λz zs u us e1 e2 dD=>?_) (λz zs e1 e2=>hA.symm)
 ·rw[jW] at e
  by_cases hz:z=x0
  ·obtain rfl:=hz.symm
   cases ((if_pos rfl).symm.trans e);obtain⟨P,h1,h2⟩:=hy;refine⟨_,h1,λv hv=>?_⟩;have hP:=VR.bB hv;exact⟨h2 v (hP g (.refl g)),a⟩
  ·rw[if_neg hz] at e;exact⟨lv,e,λv q=>q⟩
 ·rw[jW] at e
  by_cases hz:z=x0
  ·obtain rfl:=hz.symm;exact⟨gd,.inr ⟨hl,ha⟩,by rw[hg];exact λp hp=>(cO hp).elim⟩
  ·rw[if_neg hz] at e;exact(Ro z zs e).elim
 ·rw[jW] at e1 e2
  by_cases hz:z=x0
  ·rw[if_neg (λq=>dD (hz.trans q.symm))] at e2
   exact(Ro u us e2).elim
  ·rw[if_neg hz] at e1;exact(Ro z zs e1).elim
theorem QN:∀{is:List iB} {vars:aU},(∀i∈is,∃av,i.lv=.val av)->(∀z zs,vars.lookup z=some (.own zs)->False)->∀z zs,(rZ is vars).lookup z=some (.own zs)->False
 |[],vars,_,h,z,zs,e=>h z zs e
 |i::is,vars,hv,h,z,zs,e=>by
  refine QN (λj hj=>hv j (.tail _ hj)) (λw ws hw=>?_) z zs e;rw[jW] at hw
  by_cases q:w=i.x
  ·rw[if_pos q] at hw
   obtain⟨av,e⟩:=hv i (.head _);rw[e] at hw;cases hw
  ·rw[if_neg q] at hw;exact h w ws hw
theorem aAy:∀{is:List iB} {vars:aU} {x:aC},(∀i∈is,i.x≠x)->(rZ is vars).lookup x=vars.lookup x:=by
 intro is;induction is with
 |nil=>
  intro vars x _;exact rfl
 |cons i is ih=>
  intro vars x h;show(rZ is (cT i.x i.lv vars)).lookup x=_;rw[ih λj hj=>h j (.tail _ hj),jW,if_neg (gJ (h i (.head _)))]
end
section
variable {B:BD} {k:Nat} {F:Fn} {A:bM} {sc:bR} {vars vars':aU} {aN:fM} {aA:bO} {cs:List (aC×aH)} {own cS:aC->aH} {g g':aT} {s s':aF}
def Gw(B:BD)(k:Nat)(sc:bR)(vars:aU)(oK:List Keyword)(ns:List aC)(rs:List LV):Prop:=
 ∀(A:bM) (aA:bO) (g:aT) (s:aF) (pos:dI) (Q:List aD->aF->Prop) (E:aD->aF->Prop),iQ B k A sc vars aA g s->
  (tW pos (tX oK aA)).all (·.1.isSome)=true/\(tW pos (tX oK aA)).filterMap (·.1)=ns/\
  ((∀vs s' g',bT B s g s' g'->fW B s'.heap g' vs rs->Q vs s')->aK (aW B) A (xE ((tW pos (tX oK aA)).map (·.2))) Q E s)
theorem Gw.nil:Gw B k sc vars [] [] []:=λA aA g s pos Q E P=>⟨rfl,rfl,λK=>bE (K [] s g (.refl P.ok) .nil)⟩
theorem Gw.bU(h:gQ B k sc vars e r):Gw B k sc vars [⟨some x,e,p⟩] [x] [r]:=λA aA g s pos Q E P=>by
 refine⟨rfl,rfl,λK=>?_⟩;show aK (aW B) A (xE [do let v <-eval e aA;Iv pos;pure v]) Q E s;unfold xE;refine aM (aM (h A aA g s _ E P λv s' g' X hv=>aM (pI (bE ?_))));refine aM (mK ?_);exact bE (bE (K [v] s' g' X (.cons hv .nil)))
def G9(B:BD)(s:aF)(v:aD):Prop:=∃a o fd,v=.ref a/\s.heap.get? a=some o/\o.data=.func fd/\eD o
theorem Nx(P:iQ B k A sc vars aA g s)(hf:G9 B s v)(hn:eR (e::es)=true)(ha:aZ B k sc vars (e::es) rs)(hk:Gw B k sc vars oK ns ks)
 (h:∀vs us s' g',bT B s g s' g'->fW B s'.heap g' vs rs->fW B s'.heap g' us ks->aK (aW B) A (call v vs (ns.zip us)) Q E s'):
 aK (aW B) A (callWith pos v [] (kQ pos (iT (e::es) aA)) (tW pos (tX oK aA))) Q E s:=by
 obtain⟨a,o,fd,rfl,ho,hd,hh⟩:=hf
 have he:kQ pos (iT (e::es) aA)=(false,eval e aA)::kQ pos (iT es aA):=by
  rw[pM hn];rfl
 have h1:aK (aW B) A (spliced (kQ pos (iT (e::es) aA))) (λvs aS=>aK (aW B) A (xE ((tW pos (tX oK aA)).map (·.2))) (λus bN=>(bN.heap.get? a=some o/\o.data=.func fd)/\aK (aW B) A (call (.ref a) ([]++vs) (ns.zip us)) Q E bN) E aS) E s:=by
  refine ha A aA g s pos _ E P λvs s1 g1 X bF=>?_;obtain⟨_,_,kk⟩:=hk A aA g1 s1 pos (λus bN=>(bN.heap.get? a=some o/\o.data=.func fd)/\aK (aW B) A (call (.ref a) ([]++vs) (ns.zip us)) Q E bN) E (P.post X);refine kk λus s2 g2 Y oY=>?_;exact⟨⟨(X.trans Y).keep.le.cM ho hh,hd⟩,h vs us s2 g2 (X.trans Y) (bF.mono Y.keep.le Y.ext.sub) oY⟩
 have n1:=(hk A aA g s pos (λ_ _=>True) E P).1;have n2:=(hk A aA g s pos (λ_ _=>True) E P).2.1;refine ψ (o:=o) (fd:=fd) ?_;rw[he] at h1 ⊢;refine ω n1 ?_;rw[n2];exact h1
theorem kI.IG{x:aC}{fd:mF}{body:List dE}{a:aH}(f:kI B x fd body a)(G:bI B g s.heap):G9 B s (.ref a):=by
 obtain⟨o,h1,h2,h3⟩:=f.obj;have hh:eD o:=⟨.inl h3,by rw[h2];nofun⟩
 exact⟨a,o,fd,rfl,G.le.cM h1 hh,h2,hh⟩
theorem aB.call(hk:sc.names.lookup f=some .globalImplicit)(hd:(f==("__debug__":aC))=false)(fo:kI B f fd body a)(hn:eR (e::es)=true)(ha:aZ B k sc vars (e::es) rs)(Lu:Gw B k sc vars oK ns ks)
 (hc:∀us:List aD,us.length=ks.length->∀(A:bM) (g:aT) (s:aF) (vs:List aD) (Q:aD->aF->Prop) (E:aD->aF->Prop),dS B k A s.heap->bI B g s.heap->fW B s.heap g vs rs->fW B s.heap g us ks->
  (∀v s' g',bT B s g s' g'->VR B g' v r->Q v s')->aK (aW B) A (gL (.ref a) vs (ns.zip us)) Q E s):aB B k sc vars (.Call (.Name f p) (e::es) oK pos) r:=by
 intro A aA g s Q E P K;refine zC (Cj hk fo.nm hd P ?_);refine Nx P (fo.IG P.ok) hn ha Lu λvs us s' g' X bF oY=>?_;exact hc us oY.length A g' s' vs Q E (P.room.mono X.keep.le) X.ok bF oY λv dF eP Y hv=>K v dF eP (X.trans Y) hv
theorem aB.Wm(hk:sc.names.lookup f=some .globalImplicit)(hd:(f==("__debug__":aC))=false)(fo:kI B f fd body a)(hn:eR (e::es)=true)(ha:aZ B k sc vars (e::es) rs)(hc:pE B k (.ref a) [] rs r):
 aB B k sc vars (.Call (.Name f p) (e::es) [] pos) r:=
 aB.call hk hd fo hn ha .nil λus hu A g s vs Q E R G bF oY K=>by
  cases us with
  |nil=>exact hc A g s vs Q E R G bF K
  |cons=>cases hu
def IS:AV->Prop
 |.none=>True
 |.bool _=>True
 |.int _=>True
 |.str _=>True
 |_=>False
theorem VR.F9(h:VR B g v r)(f:IS r):VR B g' v r:=by
 cases r with
 |none=>obtain rfl:=VR.bB h;exact .none
 |bool=>obtain rfl:=VR.bB h;exact .bool _
 |int=>obtain⟨_,rfl⟩:=VR.bB h;exact .int _ _
 |str=>obtain⟨_,rfl⟩:=VR.bB h;exact .str _ _
 |_=>cases f
noncomputable def aT.tM(g:aT)(a:aH):aT:=λb=>if b=a then none else g b
theorem bI.tM(G:bI B g h)(hb:B.base.get? a=none)(hl:∀o vs,g a=some o->o.data≠.fields vs):bI B (g.tM a) h where
 base:=λb o e hd=>by
  have:b≠a:=λq=>by rw[q,hb] at e;cases e
  exact(if_neg this).trans (G.base b o e hd)
 sub:=λb o e=>by
  have e:(if b=a then none else g b)=some o:=e
  by_cases q:b=a
  ·cases ((if_pos q).symm.trans e)
  ·rw[if_neg q] at e;exact G.sub b o e
 le:=G.le
 kK:=λb dJ=>by
  obtain⟨ps,h1,h2,h3⟩:=G.kK b dJ;refine⟨ps,h1,h2,λpos cv e=>?_⟩;obtain⟨c,o,vs,t,e1,e2,e3,e4⟩:=h3 pos cv e;refine⟨c,o,vs,t,e1,?_,e3,e4⟩
  have:c≠a:=λq=>by
   exact hl o vs (q▸e2) e3
  exact(if_neg this).trans e2
theorem Ph{xs:List AV}{args:List LV}{r:AV}{C:(aD->aF->Prop)->(aD->aF->Prop)->aF->Prop}{v:aD}{Q:aD->aF->Prop}{E:aD->aF->Prop}(fl:IS r)(G:bI B g s.heap)(hv:eW B s.heap g v (.own xs))
 (h:∀g1,bI B g1 s.heap->g.Sub g1->VR B g1 v (.aO xs)->∀Q,(∀u s' g',bT B s g1 s' g'->VR B g' u r->Q u s')->C Q E s) (K:∀u s' g',bT B s g s' g'->VR B g' u r->Q u s'):C Q E s:=by
 obtain⟨a,vs,n,rfl,ho,hr⟩:=hv;cases hg:g a with
 |some o=>
  have:=G.at hg;cases (ho.symm.trans this);exact h g G (.refl g) (.aO hg hr) Q K
 |none=>
  have G1:=G.eF hg ho jE
  have sub:g.Sub (g.eF a (dP vs n)):=λb o e=>by
   show(if b=a then some _ else g b)=some o;have:b≠a:=λq=>by rw[q,hg] at e;cases e
   rw[if_neg this];exact e
  by_cases hb:B.base.get? a=none
  ·refine h _ G1 sub (.aO (aT.jY _ _ _) (hr.mono sub)) Q λu s' g' X hu=>?_
   refine K u s' (g'.tM a) ⟨X.keep,⟨λb o e=>?_,λb o e=>?_⟩,X.ok.tM hb λo ws e q=>by
    cases ((X.ext.sub _ _ (aT.jY _ _ _)).symm.trans e);cases q⟩ (hu.F9 fl)
   ·have:b≠a:=λq=>by rw[q,hg] at e;cases e
    exact(if_neg this).trans (X.ext.sub _ _ (sub _ _ e))
   ·have e:(if b=a then none else g' b)=some o:=e
    by_cases q:b=a
    ·cases ((if_pos q).symm.trans e)
    ·rw[if_neg q] at e
     rcases X.ext.new b o e with r|r
     ·have r:(if b=a then some _ else g b)=some o:=r
      rw[if_neg q] at r;exact .inl r
     ·exact .inr r
  ·obtain⟨o,e⟩:∃o,B.base.get? a=some o:=by
    cases q:B.base.get? a with
    |none=>exact absurd q hb
    |some o=>exact⟨o,rfl⟩
   exfalso;have:=G.le a o e;rcases this with q|⟨q,_⟩|⟨ws,more,rfl,_,q⟩
   ·cases (ho.symm.trans q)
    cases ((G.base a _ e jE).symm.trans hg)
   ·exact hb q
   ·cases (ho.symm.trans q)
theorem pE.Ph{f:aD}{kw:List (aC×aD)}{xs:List AV}{args:List LV}{r:AV}(h:pE B k f kw (.val (.aO xs)::args) r)(fl:IS r):pE B k f kw (.own xs::args) r:=by
 intro A g s vs Q E R G bF K;cases bF with
 | @cons v _ vs _ hv hr=>
  refine Mini.Internal.Ph (args:=args) fl G hv (λg1 G1 sub Hx Q K1=>?_) K;exact h A g1 s _ Q E R G1 (.cons Hx (hr.mono (.refl _ _) sub)) K1
theorem aP.aKv(hk:F.sc.names.lookup f=some .globalImplicit)(hd:(f==("__debug__":aC))=false)(fo:kI B f fd body a)(n:fP F.sc vars x (.own xs))(hn:eR (.Name x xp::es)=true)(ha:aZ B k F.sc vars es rs)
 (Lu:∀(A:bM) (aN:fM) (aA:bO) (cs:List (aC×aH)) (own:aC->aH) (g:aT) (s:aF) (Q:List aD->aF->Prop) (E:aD->aF->Prop),eI B k A F aN aA cs own vars g s->
  (tW pos (tX oK aA)).all (·.1.isSome)=true/\(tW pos (tX oK aA)).filterMap (·.1)=ns/\
  ((∀vs s' g',bT B s g s' g'->fW B s'.heap g' vs ks->Q vs s')->aK (aW B) A (xE ((tW pos (tX oK aA)).map (·.2))) Q E s))
 (hc:∀us:List aD,us.length=ks.length->∀(A:bM) (g:aT) (s:aF) (d:aH) (vs:List aD) (Q:aD->aF->Prop) (E:aD->aF->Prop),dS B k A s.heap->bI B g s.heap->mE B d xs g s->g d=none->B.base.get? d=none->fW B s.heap g vs rs->fW B s.heap g us ks->
  (∀v s' g',eL B ⟨[d],[]⟩ s s'->fU s.heap g g'->bI B g' s'.heap->mE B d iA g' s'->VR B g' v r->Q v s')->aK (aW B) A (gL (.ref a) (.ref d::vs) (ns.zip us)) Q E s)
 (hs:∀aA,vE (.Call (.Name f p) (.Name x xp::es) oK pos) none ep.line aA=pure false):
 aP B k F vars (.Expr (.Call (.Name f p) (.Name x xp::es) oK pos) ep) (.cF (cT x (.own iA) vars)):=by
 intro A aN aA cs own g s Q E P K;refine CC P.st.kind (hs aA) ?_;refine zC (Cj hk fo.nm hd P.pre ?_);obtain⟨o,h1,h2,h3⟩:=fo.obj;have hh:eD o:=⟨.inl h3,by rw[h2];nofun⟩
 have ho:=P.st.ok.le.cM h1 hh
 have he:kQ pos (iT (.Name x xp::es) aA)=(false,eval (.Name x xp) aA)::kQ pos (iT es aA):=by
  rw[pM hn];rfl
 obtain⟨n1,n2,_⟩:=Lu A aN aA cs own g s (λ_ _=>True) E P;refine ψ (o:=o) (fd:=fd) ?_
 have step:aK (aW B) A (spliced (kQ pos (iT (.Name x xp::es) aA))) (λvs aS=>aK (aW B) A (xE ((tW pos (tX oK aA)).map (·.2))) (λus bN=>(bN.heap.get? a=some o/\o.data=.func fd)/\aK (aW B) A (gL (.ref a) ([]++vs) (ns.zip us)) (λ_ s'=>Q .next s') E bN) E aS) E s:=by
  refine Et (P.Oz n λv hv=>?_) (pM hn);obtain⟨rfl,us,m,hu,hr⟩:=hv;refine ha A aA g s pos _ E P.pre λvs s1 g1 X bF=>?_;have P1:=P.to (P.st.post X);refine(Lu A aN aA cs own g1 s1 _ E P1).2.2 λws s2 g2 Y N7=>?_;have P2:=P1.to (P1.st.post Y);refine⟨⟨(X.trans Y).keep.le.cM ho hh,h2⟩,?_⟩;obtain⟨q1,q2,_⟩:=P2.st.gF x xs n.var;have mB:mE B (own x) xs g2 s2:=⟨us,m,(X.trans Y).keep.le.cM hu jE,hr.mono (X.trans Y).ext.sub⟩
  refine hc ws N7.length A g2 s2 (own x) vs _ E P2.room P2.st.ok mB q1 (P2.st.en.base (q2.imp id (·.1))) (bF.mono Y.keep.le Y.ext.sub) N7 λv s3 g3 hk he G3 bS hv=>?_;exact K _ _ ⟨rfl,own,g3,P2.st.HK n.var hk he G3 bS⟩
 rw[he] at step ⊢;refine ω n1 ?_;rw[n2];exact step
end
noncomputable def IH(s:dE):List dE:=(Qn s).1
section
variable {B:BD} {k:Nat} {F:Fn} {sc:bR} {vars vars':aU}
theorem aCv:∀(n:Nat) (a:Int),vK a 1 n=(bX n).map λi=>.int (a+i):=by
 intro n;induction n with
 |zero=>
  intro a;exact rfl
 |succ n ih=>
  intro a;rw[TP,ih,OC,nU,fO];congr 1
  ·simp
  ·apply zG
   intro i _;simp only[Γ];congr 1
   push_cast
   exact sP (cG [_] [_] [.l (.u (.a (.u .x) (.c .x))) (.a .x (.u (.c .x)))] rfl) (cG [_] [_] [.l (.u (.a .x (.u (.c .x)))) (.a (.u .x) (.c .x))] rfl)
theorem xJ(n:Nat):vK 0 1 n=(bX n).map λi:Nat=>.int (i:Int):=by
 rw[aCv];simp
theorem mR.Xl(L:List α)(g:α->AV)(bs:α->List (aC×AV))(f:α->List AV)(hb:∀i∈L,fN bP (g i) (bs i))(hs:∀i∈L,∀b∈bs i,iH sc b.1)(hv:∀i∈L,fK vars (fH (bs i) vars))
 (h:∀i∈L,rG B k sc dK gens scope pos d ifs (fH (bs i) vars) (f i)):mR B k sc dK gens scope pos d bP ifs vars (L.map g) (L.flatMap f):=by
 induction L with
 |nil=>exact .nil
 |cons i L ih=>
  rw[nU,Jd];exact .cons (hb i (.head _)) (hs i (.head _)) (hv i (.head _)) (h i (.head _)) (ih (λj hj=>hb j (.tail _ hj)) (λj hj=>hs j (.tail _ hj)) (λj hj=>hv j (.tail _ hj)) λj hj=>h j (.tail _ hj))
theorem rG.GW(hg:gens[d+1]?=none)(h:jQ B k sc vars ifs b)(he:b=true->aB B k sc vars dK r):rG B k sc dK gens scope pos d ifs vars (if b then [r] else []):=by
 cases b with
 |true=>exact .aMh h hg (he rfl)
 |false=>exact .skip h
theorem CB(L:List α)(c:α->Bool)(r:α->AV):L.flatMap (λi=>if c i then [r i] else [])=(L.filter c).map r:=by
 induction L with
 |nil=>rfl
 |cons i L ih=>
  rw[Jd,ih,aNx];cases c i<;>simp
theorem eA.jO(L:List α)(g:α->AV)(bs:α->List (aC×AV))(c:α->Bool)(r:α->AV)(co:Gn sc vars [⟨bP,iter,ifs,0⟩] ⟨bP,iter,ifs,0⟩ [] scope fv)(hi:cR B k sc vars bP iter (L.map g))
 (hb:∀i∈L,fN bP (g i) (bs i)) (hs:∀i∈L,∀b∈bs i,iH scope b.1) (hv:∀i∈L,fK fv (fH (bs i) fv)) (ht:∀i∈L,jQ B k scope (fH (bs i) fv) ifs (c i)) (he:∀i∈L,c i=true->aB B k scope (fH (bs i) fv) dK (r i)) (hz:L.length<=eJ):
 eA B k sc vars (.ListComp dK [⟨bP,iter,ifs,0⟩] scope pos) (.own ((L.filter c).map r)):=by
 have l:=mR.Xl (gens:=[⟨bP,iter,ifs,0⟩]) (scope:=scope) (pos:=pos) (d:=0) L g bs (λi=>if c i then [r i] else []) hb hs hv λi hi=>rG.GW rfl (ht i hi) (he i hi);rw[CB] at l;refine eA.comp co hi l ?_;rw[fE];exact fD (xF _ _) hz
theorem aP.jO(L:List α)(g:α->AV)(bs:α->List (aC×AV))(c:α->Bool)(r:α->AV)(co:Gn F.sc vars [⟨bP,iter,ifs,0⟩] ⟨bP,iter,ifs,0⟩ [] scope fv)(hi:cR B k F.sc vars bP iter (L.map g))
 (hb:∀i∈L,fN bP (g i) (bs i)) (hs:∀i∈L,∀b∈bs i,iH scope b.1) (hv:∀i∈L,fK fv (fH (bs i) fv)) (ht:∀i∈L,jQ B k scope (fH (bs i) fv) ifs (c i)) (he:∀i∈L,c i=true->aB B k scope (fH (bs i) fv) dK (r i)) (hz:L.length<=eJ)
 (hx:F.sc.names.lookup x=some .local) (ha:F.cQ≠some x) (wI:∀aA:bO,aA.scope=F.sc->vE (.ListComp dK [⟨bP,iter,ifs,0⟩] scope pos) (some (.Name x xp)) p.line aA=pure true):
 aP B k F vars (.Assign [.Name x xp] (.ListComp dK [⟨bP,iter,ifs,0⟩] scope pos) p) (.cF (cT x (.own ((L.filter c).map r)) vars)):=by
 have l:=mR.Xl (gens:=[⟨bP,iter,ifs,0⟩]) (scope:=scope) (pos:=pos) (d:=0) L g bs (λi=>if c i then [r i] else []) hb hs hv λi hi=>rG.GW rfl (ht i hi) (he i hi);rw[CB] at l;refine aP.RM co hi l ?_ hx ha wI;rw[fE];exact fD (xF _ _) hz
theorem gP.fold(I:List α->aU)(g:α->AV)(bs:α->List (aC×AV))(hb:∀i,fN bP (g i) (bs i))(hs:∀i,∀b∈bs i,lT F b.1):
 ∀(L:List α) (done:List α),(∀(d:List α) (i:α) (r:List α),done++L=d++i::r->done.length<=d.length->aJ B k F (fH (bs i) (I d)) body (.cF (I (d++[i]))))->gP B k F bP body (L.map g) (I done) (.cF (I (done++L))):=by
 intro L;induction L with
 |nil=>
  intro done h;rw[pB];exact .nil _
 |cons i L ih=>
  intro done h;rw[nU];refine .cF (hb i) (hs i) (h done i L rfl (dH _)) ?_;have:=ih (done++[i]) λd j r e hl=>h d j r (by rw[<-e];simp) (by simp at hl;exact eO hl);simpa using this
end
inductive Step(σ:Type) where
 |go (s:σ)|brk (s:σ)|ret (r:AV)
noncomputable def jA{σ α:Type}(t:σ->α->Step σ):σ->List α->Step σ
 |s,[]=>.go s
 |s,i::L=>match t s i with
  |.go s'=>jA t s' L
  |.brk s'=>.go s'
  |.ret r=>.ret r
theorem zU{t:σ->α->Step σ}:jA t s (i::L)=match t s i with
 |.go s'=>jA t s' L
 |.brk s'=>.go s'
 |.ret r=>.ret r:=rfl
section
variable {B:BD} {k:Nat} {F:Fn} {sc:bR} {vars vars':aU}
def fF(B:BD)(k:Nat)(F:Fn)(body:List dE)(vars:aU){σ:Type}(I:σ->aU)(P:σ->Prop):Step σ->Prop
 |.go s=>P s/\aJ B k F vars body (.cF (I s))
 |.brk s=>P s/\aJ B k F vars body (.brk (I s))
 |.ret r=>∃V,aJ B k F vars body (.ret V r)
def Pe(B:BD)(k:Nat)(F:Fn)(bP:bJ)(body:List dE)(xs:List AV)(vars:aU){σ:Type}(I:σ->aU)(P:σ->Prop):Step σ->Prop
 |.go s=>P s/\gP B k F bP body xs vars (.cF (I s))
 |.brk _=>False
 |.ret r=>∃V,gP B k F bP body xs vars (.ret V r)
theorem gP.run(t:σ->α->Step σ)(I:σ->aU)(P:σ->Prop)(g:α->AV)(bs:α->List (aC×AV)):∀(L:List α) (s:σ),P s->(∀i∈L,fN bP (g i) (bs i))->(∀i∈L,∀b∈bs i,lT F b.1)->
 (∀s i,i∈L->P s->fF B k F body (fH (bs i) (I s)) I P (t s i))->Pe B k F bP body (L.map g) (I s) I P (jA t s L):=by
 intro L;induction L with
 |nil=>
  intro s p hb hs h;exact⟨p,.nil _⟩
 |cons i L ih=>
  intro s p hb hs h;have hi:=h s i (.head _) p;have b1:=hb i (.head _);have s1:=hs i (.head _);rw[nU];show Pe B k F bP body _ _ I P (match t s i with|.go s'=>jA t s' L|.brk s'=>.go s'|.ret r=>.ret r);cases e:t s i with
  |go s'=>
   rw[e] at hi;have r:=ih s' hi.1 (λj hj=>hb j (.tail _ hj)) (λj hj=>hs j (.tail _ hj)) λs j hj=>h s j (.tail _ hj);dsimp only;cases e2:jA t s' L with
   |go s2=>rw[e2] at r;exact⟨r.1,.cF b1 s1 hi.2 r.2⟩
   |brk=>rw[e2] at r;exact r
   |ret x=>rw[e2] at r;obtain⟨V,r⟩:=r;exact⟨V,.cF b1 s1 hi.2 r⟩
  |brk s'=>rw[e] at hi;exact⟨hi.1,.brk b1 s1 hi.2⟩
  |ret x=>rw[e] at hi;obtain⟨V,hi⟩:=hi;exact⟨V,.ret b1 s1 hi⟩
noncomputable def Xc(sc:bR)(x:aC):Bool:=(match sc.names.lookup x with
 |some .local=>true
 |some .cell=>true
 |some .free=>true
 |_=>false)&& !(x==("__debug__":aC))&& !(x==("__classdict__":aC))
theorem fP.of(h:Xc sc x=true)(v:vars.lookup x=some r):fP sc vars x r:=by
 unfold Xc at h;rw[Fe,Fe,tP,tP] at h;refine⟨?_,v,h.1.2,h.2⟩;have h:=h.1.1;revert h;cases sc.names.lookup x with
 |none=>nofun
 |some q=>cases q<;>first|exact λ_=>.inl rfl|exact λ_=>.inr (.inl rfl)|exact λ_=>.inr (.inr rfl)|nofun
theorem gQ.nm(h:Xc sc x=true)(v:vars.lookup x=some r):gQ B k sc vars (.Name x p) r:=aB.name (.of h v)
theorem aB.nm(h:Xc sc x=true)(v:vars.lookup x=some (.val r)):aB B k sc vars (.Name x p) r:=aB.name (.of h v)
theorem aB.aKu(h:i=j):aB B k sc vars (.Constant (.int i) n p) (.int j):=h▸aB.cC
theorem gQ.cC:gQ B k sc vars (.Constant (.int i) n p) (.val (.int i)):=aB.ar aB.cC
theorem fN.t2:fN (.Tuple [.Name x p,.Name y q] n r) (.cD [a,b]) [(x,a),(y,b)]:=.cD (.cons (.name _ _ _) (.cons (.name _ _ _) .nil))
theorem fN.t3:fN (.Tuple [.Name x p,.Name y q,.Name z o] n r) (.cD [a,b,c]) [(x,a),(y,b),(z,c)]:=.cD (.cons (.name _ _ _) (.cons (.name _ _ _) (.cons (.name _ _ _) .nil)))
theorem fN.JE:fN (.Tuple [.Name x p,.Tuple [.Name y q,.Name z o] m u] n r) (.cD [a,.cD [b,c]]) [(x,a),(y,b),(z,c)]:=.cD (.cons (.name _ _ _) (.cons (.cD (.cons (.name _ _ _) (.cons (.name _ _ _) .nil))) .nil))
theorem fN.JD:fN (.Tuple [.Name x p,.Tuple [.Name y q,.Name z o,.Name w v] m u] n r) (.cD [a,.cD [b,c,d]]) [(x,a),(y,b),(z,c),(w,d)]:=.cD (.cons (.name _ _ _) (.cons (.cD (.cons (.name _ _ _) (.cons (.name _ _ _) (.cons (.name _ _ _) .nil)))) .nil))
theorem fK.of(h:vs.map (λp=>vars.lookup p.1)=vs.map λp=>some p.2):fK vs vars:=by
 induction vs with
 |nil=>exact .nil _
 |cons p vs ih=>obtain⟨x,l⟩:=p;injection h with h1 h2;exact .cons h1 (ih h2)
theorem aK7{P:bO->Prop}{sc:bR}(h:∀aA:bO,P {aA with scope:=sc}):∀aA:bO,aA.scope=sc->P aA:=λaA e=>by subst e;exact h aA
theorem aB.Gr(n:fP sc vars x (.val r)):aB B k sc vars (.Name x p) r:=aB.name n
theorem iZ.La(h1:bA B k sc vars x b)(h2:b=true->bA B k sc vars y c):iZ B k sc vars .And [x,y] (b&&c):=by
 cases b with
 |false=>exact .G7 h1
 |true=>
  have h:=h2 rfl;cases c with
  |false=>exact .IM h1 (.G7 h)
  |true=>exact .IM h1 (.IM h .aJl)
theorem iZ.Qv(h1:bA B k sc vars x b)(h2:b=false->bA B k sc vars y c):iZ B k sc vars .Or [x,y] (b||c):=by
 cases b with
 |true=>exact .L8 h1
 |false=>
  have h:=h2 rfl;cases c with
  |false=>exact .JR h1 (.JR h .aJx)
  |true=>exact .JR h1 (.L8 h)
theorem jQ.bU(h:bA B k sc vars e b):jQ B k sc vars [e] b:=by
 cases b with
 |false=>exact .f h
 |true=>exact .t h .nil
theorem TV(b:List Int)(i:Nat)(h:i<b.length):(bW b)[i]?=some (.int (b.getD i 0)):=by
 simp[bW,oO h,iJ]
theorem aB.to(h:aB B k sc vars e r)(q:r=r'):aB B k sc vars e r':=q▸h
theorem bA.to(h:bA B k sc vars e r)(q:r=r'):bA B k sc vars e r':=q▸h
def bL(B:BD)(k:Nat)(F:Fn)(vars:aU)(st:List dE)(r:AV):Prop:=∃V,aJ B k F vars st (.ret V r)
theorem bL.cons{st:dE}{eS:List dE}{v1:aU}{r:AV}(h:aP B k F vars st (.cF v1))(hr:bL B k F v1 eS r):bL B k F vars (st::eS) r:=by obtain⟨V,q⟩:=hr;exact⟨V,.cons h q⟩
theorem bL.stop{st:dE}{eS:List dE}{r:AV}{V:aU}(h:aP B k F vars st (.ret V r)):bL B k F vars (st::eS) r:=⟨V,.stop h rfl⟩
theorem bL.ret{e:bJ}{p:dI}{eS:List dE}{r:AV}(h:aB B k F.sc vars e r):bL B k F vars (.Return (some e) p::eS) r:=.stop (.ret h)
theorem bL.ite{t:bJ}{body pC eS:List dE}{p:dI}{b:Bool}{r:AV}(ht:bA B k F.sc vars t b)(h1:b=true->bL B k F vars body r)(h2:b=false->∃v1,aJ B k F vars pC (.cF v1)/\bL B k F v1 eS r):bL B k F vars (.If t body pC p::eS) r:=by
 cases b with
 |true=>obtain⟨V,q⟩:=h1 rfl;exact .stop (.ite ht q)
 |false=>obtain⟨v1,q1,q2⟩:=h2 rfl;exact .cons (.ite ht q1) q2
theorem bL.jF{y:aC}{xs:List AV}{st:List dE}{r:AV}(hy:vars.lookup y=some (.own xs))(ha:F.cQ≠some y)(h:bL B k F (cT y (.val (.aO xs)) vars) st r):bL B k F vars st r:=by obtain⟨V,q⟩:=h;exact⟨V,.jF hy ha q⟩
theorem bL.sub{v1:aU}{st:List dE}{r:AV}(hs:fK v1 vars)(h:bL B k F v1 st r):bL B k F vars st r:=by obtain⟨V,q⟩:=h;exact⟨V,.sub hs q⟩
theorem bL.loop{σ:Type}{bP e:bJ}{body eS:List dE}{p:dI}{xs:List AV}{r:AV}(I:σ->aU)(P:σ->Prop)(o:Step σ)(h:cR B k F.sc vars bP e xs)(hs:∀aA x,sV e aA x=pure x)(he:Pe B k F bP body xs vars I P o)
 (h1:∀s,o=.go s->P s->bL B k F (I s) eS r) (h2:∀x,o=.ret x->x=r):bL B k F vars (.For bP e body [] p::eS) r:=by
 cases o with
 |go s=>exact .cons (.loop h he.2 hs) (h1 s rfl he.1)
 |brk=>exact he.elim
 |ret x=>obtain⟨V,q⟩:=he;obtain rfl:=h2 x rfl;exact .stop (.loop h q hs)
theorem gP.Xk(t:σ->α->σ)(I:σ->aU)(P:σ->Prop)(g:α->AV)(bs:α->List (aC×AV)):∀(L:List α) (s:σ),P s->(∀i∈L,fN bP (g i) (bs i))->(∀i∈L,∀b∈bs i,lT F b.1)->
 (∀s i,i∈L->P s->P (t s i)/\aJ B k F (fH (bs i) (I s)) body (.cF (I (t s i))))->P (L.foldl t s)/\gP B k F bP body (L.map g) (I s) (.cF (I (L.foldl t s))):=by
 intro L;induction L with
 |nil=>
  intro s p hb hs h;exact⟨p,.nil _⟩
 |cons i L ih=>
  intro s p hb hs h;obtain⟨p1,h1⟩:=h s i (.head _) p;obtain⟨p2,h2⟩:=ih (t s i) p1 (λj hj=>hb j (.tail _ hj)) (λj hj=>hs j (.tail _ hj)) λs j hj=>h s j (.tail _ hj);exact⟨p2,.cF (hb i (.head _)) (hs i (.head _)) h1 h2⟩
inductive uL(sc:bR)(vars:aU)(scope:bR):aU->Prop where
 |nil:uL sc vars scope []
 |cons {x:aC} {av:AV} {fv:aU}:vars.lookup x=some (.val av)->scope.names.lookup x=some .free->(sc.names.lookup x=some .cell\/sc.names.lookup x=some .free)->uL sc vars scope fv->uL sc vars scope ((x,.val av)::fv)
theorem uL.ok(h:uL sc vars scope fv)(e:(scope.names.filter λp=>p.2==.free).map (·.1)=fv.map (·.1)):vM sc vars scope fv where
 var:=λx lv q=>by
  clear e;induction h with
  |nil=>cases q
  | @cons y av fv h1 h2 h3 r ih=>
   rw[mJ] at q;cases hx:x==y with
   |true=>rw[hx] at q;cases q;rw[gX hx];exact⟨av,rfl,h1,mem_of_lookup h2,h3⟩
   |false=>rw[hx] at q;exact ih q
 all:=λx hx=>by
  have h1:x∈fv.map (·.1):=by
   rw[<-e];exact gK.mpr ⟨(x,.free),lO.mpr ⟨hx,rfl⟩,rfl⟩
  have f:∀l:aU,x∈l.map (·.1)->∃lv,l.lookup x=some lv:=λl=>by
   induction l with
   |nil=>intro h;simp at h
   |cons p l ih=>
    intro h;obtain⟨y,lv⟩:=p;rw[mJ];cases q:x==y with
    |true=>exact⟨lv,rfl⟩
    |false=>
     rw[nU] at h;rcases cE.mp h with r|r
     ·rw[r] at q;simp at q
     ·exact ih r
  exact f fv h1
theorem Gn.JW(h1:gens=g0::gs)(h2:g0.is_async=0)(h3:∀aA x,sV g0.iter aA x=pure x)(h4:∀c',gens[1]?=some c'->c'.is_async=0/\∀aA x,sV c'.iter aA x=pure x)(h5:scope.kind=.function)
 (h6:(scope.names.map (·.1)).Nodup) (h7:uL sc vars scope fv) (h8:(scope.names.filter λp=>p.2==.free).map (·.1)=fv.map (·.1)) (h9:nJ scope=none):Gn sc vars gens g0 gs scope fv:=⟨h1,h2,h3,h4,h5,h6,h7.ok h8,h9⟩
theorem mR.kE{α β:Type}{dK t1 t2 i1 i2:bJ}{ifs:List bJ}{scope:bR}{pos:dI}{fv:aU}(L:List α)(g:α->AV)(bs:α->List (aC×AV))(L2:α->List β)(g2:β->AV)(Mh:β->List (aC×AV))(c:α->β->Bool)(r:α->β->AV)
 (hb:∀i∈L,fN t1 (g i) (bs i)) (hs:∀i∈L,∀b∈bs i,iH scope b.1) (hv:∀i∈L,fK fv (fH (bs i) fv)) (hi:∀i∈L,cR B k scope (fH (bs i) fv) t2 i2 ((L2 i).map g2))
 (Zf:∀i∈L,∀j∈L2 i,fN t2 (g2 j) (Mh j)) (Rk:∀i∈L,∀j∈L2 i,∀b∈Mh j,iH scope b.1) (Bj:∀i∈L,∀j∈L2 i,fK (fH (bs i) fv) (fH (Mh j) (fH (bs i) fv)))
 (ht:∀i∈L,∀j∈L2 i,jQ B k scope (fH (Mh j) (fH (bs i) fv)) ifs (c i j)) (he:∀i∈L,∀j∈L2 i,c i j=true->aB B k scope (fH (Mh j) (fH (bs i) fv)) dK (r i j)):
 mR B k scope dK [⟨t1,i1,[],0⟩,⟨t2,i2,ifs,0⟩] scope pos 0 t1 [] fv (L.map g) (L.flatMap λi=>((L2 i).filter (c i)).map (r i)):=by
 refine mR.Xl L g bs _ hb hs hv λi Lx=>?_;refine rG.nest .nil rfl rfl (λc' h=>by cases h) (hi i Lx) ?_;rw[<-CB];exact mR.Xl (L2 i) g2 Mh _ (Zf i Lx) (Rk i Lx) (Bj i Lx) λj hj=>rG.GW rfl (ht i Lx j hj) (he i Lx j hj)
section
variable {σ:Type} {I:σ->aU} {P:σ->Prop} {o:Step σ}
theorem fF.cons{st:dE}{eS:List dE}{v1:aU}(h:aP B k F vars st (.cF v1))(hr:fF B k F eS v1 I P o):fF B k F (st::eS) vars I P o:=by
 cases o with
 |go s=>exact⟨hr.1,.cons h hr.2⟩
 |brk s=>exact⟨hr.1,.cons h hr.2⟩
 |ret r=>obtain⟨V,q⟩:=hr;exact⟨V,.cons h q⟩
theorem fF.nil(p:P s)(h:fK (I s) vars):fF B k F [] vars I P (.go s):=⟨p,.dT .nil h⟩
theorem fF.jF{y:aC}{xs:List AV}{st:List dE}(hy:vars.lookup y=some (.own xs))(ha:F.cQ≠some y)(h:fF B k F st (cT y (.val (.aO xs)) vars) I P o):fF B k F st vars I P o:=by
 cases o with
 |go s=>exact⟨h.1,.jF hy ha h.2⟩
 |brk s=>exact⟨h.1,.jF hy ha h.2⟩
 |ret r=>obtain⟨V,q⟩:=h;exact⟨V,.jF hy ha q⟩
theorem fF.ret{e:bJ}{p:dI}{eS:List dE}{r:AV}(h:aB B k F.sc vars e r):fF B k F (.Return (some e) p::eS) vars I P (.ret r):=bL.ret h
theorem fF.GD{t:bJ}{body eS:List dE}{p:dI}{b:Bool}(ht:bA B k F.sc vars t b)(h1:b=true->∃V r,o=.ret r/\aJ B k F vars body (.ret V r))(h2:b=false->fF B k F eS vars I P o):fF B k F (.If t body [] p::eS) vars I P o:=by
 cases b with
 |true=>obtain⟨V,r,rfl,q⟩:=h1 rfl;exact⟨V,.stop (.ite ht q) rfl⟩
 |false=>exact .cons (.ite ht .nil) (h2 rfl)
end
theorem aP.Xk(t:σ->α->σ)(I:σ->aU)(P:σ->Prop)(g:α->AV)(bs:α->List (aC×AV))(L:List α)(s:σ)(h:cR B k F.sc (I s) bP e (L.map g))(hf:∀aA x,sV e aA x=pure x)(p0:P s)(hb:∀i∈L,fN bP (g i) (bs i))(hs:∀i∈L,∀b∈bs i,lT F b.1)
 (ht:∀s i,i∈L->P s->P (t s i)/\aJ B k F (fH (bs i) (I s)) body (.cF (I (t s i)))):aP B k F (I s) (.For bP e body [] p) (.cF (I (L.foldl t s))):=
 .loop h (gP.Xk t I P g bs L s p0 hb hs ht).2 hf
theorem aP.sub{v1:aU}{st:dE}{out:jT}(hs:fK v1 vars)(h:aP B k F v1 st out):aP B k F vars st out:=λA aN aA cs own g s Q E P K=>h A aN aA cs own g s Q E (P.to (P.st.sub hs)) K
structure eZ(B:BD):Prop where
 vY:∀x:aC,x∈(["range","len","min","sum","list","enumerate","zip","sorted","bytes","tuple","bool","iter","next","type","issubclass","StopIteration"]:List aC)->B.mg x=none
end
noncomputable def aQ(l:List Nat):List AV:=l.map λ(n:Nat)=>AV.int (n:Int)
theorem zP(l:List Nat):aQ l=bW (l.map λ(n:Nat)=>(n:Int)):=by simp[aQ,bW]
theorem gM(l:List Nat):(aQ l).length=l.length:=by simp[aQ]
theorem Ud(l m:List Nat):aQ (l++m)=aQ l++aQ m:=by simp[aQ]
theorem TY(b:List Nat)(i:Nat)(h:i<b.length):(aQ b)[i]?=some (.int ((b.getD i 0:Nat):Int)):=by
 simp[aQ,oO h,iJ]
theorem Vp(a b:Nat):jC (a:Int) (b:Int)=((a&&&b:Nat):Int):=by
 unfold jC;have h1:decide (0<=(a:Int))=true:=by simp
 have h2:decide (0<=(b:Int))=true:=by simp
 rw[h1,h2];simp
theorem aCd(a b:Nat):jC (a:Int) (tQ (b:Int))=(a:Int)-((a&&&b:Nat):Int):=by
 unfold jC;have h1:decide (0<=(a:Int))=true:=by simp
 have h2:decide (0<=tQ (b:Int))=false:=by unfold tQ;simp;exact pF (cG [_] [] [.l .i (.g (.c .x))] rfl)
 have h3:(tQ (tQ (b:Int))).toNat=b:=by unfold tQ;exact eQ (cG [_,_] [] [.f (.c .x) (.s (.g (.s (.g (.c .y)) .i)) .i),.O (.l (.u .x) .y)] rfl (xA (lF (cG [_] [] [.l (.u (.s (.g (.s (.g (.c .x)) .i)) .i)) .o] rfl)))) (cG [_,_] [] [.e (.c .x) (.s (.g (.s (.g (.c .y)) .i)) .i),.O (.l (.u .y) .x)] rfl (xA (lF (cG [_] [] [.l (.u (.s (.g (.s (.g (.c .x)) .i)) .i)) .o] rfl))))
 rw[h1,h2];simp[h3]
theorem XN(a b:Nat):Ex (a:Int) (b:Int)=((a|||b:Nat):Int):=by
 unfold Ex jC;have h2:∀x:Nat,decide (0<=tQ (x:Int))=false:=λx=>by unfold tQ;simp;exact pF (cG [_] [] [.l .i (.g (.c .x))] rfl)
 have h3:∀x:Nat,(tQ (tQ (x:Int))).toNat=x:=λx=>by unfold tQ;exact eQ (cG [_,_] [] [.f (.c .x) (.s (.g (.s (.g (.c .y)) .i)) .i),.O (.l (.u .x) .y)] rfl (xA (lF (cG [_] [] [.l (.u (.s (.g (.s (.g (.c .x)) .i)) .i)) .o] rfl)))) (cG [_,_] [] [.e (.c .x) (.s (.g (.s (.g (.c .y)) .i)) .i),.O (.l (.u .y) .x)] rfl (xA (lF (cG [_] [] [.l (.u (.s (.g (.s (.g (.c .x)) .i)) .i)) .o] rfl))))
 rw[h2,h2];dsimp only;rw[h3,h3];unfold tQ;exact sP (cG [_] [] [.l (.u (.s (.g (.s (.g (.c .x)) .i)) .i)) (.c .x)] rfl) (cG [_] [] [.l (.u (.c .x)) (.s (.g (.s (.g (.c .x)) .i)) .i)] rfl)
theorem aGu(d k:Nat):(d:Int).fdiv (2^(k:Int).toNat)=((d/2^k:Nat):Int):=by
 rw[rN,Fm _ (zB (Int.pow_pos (by decide)))]
 push_cast;rfl
theorem WS(d k:Nat):jC ((d:Int).fdiv (2^(k:Int).toNat)) 1=(((d/2^k) % 2:Nat):Int):=by
 rw[aGu];have:=Vp (d/2^k) 1;rw[Nat.and_one_is_mod] at this;exact this
theorem Uy(d k:Nat):(jC ((d:Int).fdiv (2^(k:Int).toNat)) 1 !=0)=d.testBit k:=by
 rw[WS,aNy]
 by_cases h:d/2^k % 2=1
 ·simp[h]
 ·have h0:=(Nat.mod_two_eq_zero_or_one _).resolve_right h
  simp[h0]
theorem aD2(d k:Nat):(!(jC ((d:Int).fdiv (2^(k:Int).toNat)) 1 !=0))= !d.testBit k:=by rw[Uy]
theorem aGv(k:Nat):(1:Int)*2^(k:Int).toNat=((2^k:Nat):Int):=by
 rw[rN];push_cast;exact sP (cG [] [_] [.l (.u (.m 1 .x)) .x] rfl) (cG [] [_] [.l (.u .x) (.m 1 .x)] rfl)
theorem VT(ha:a<64)(hk:k<6):a|||2^k<64:=by
 have h1:2^k<2^6:=Nat.pow_lt_pow_right (by decide) hk;exact Nat.or_lt_two_pow ha h1
def sQ(l:List Nat):Prop:=l.Nodup/\∀x∈l,x<64
theorem QT:∀(n:Nat) {l:List Nat},l.Nodup->(∀x∈l,x<n)->l.length<=n
 |0,[],_,_=>dH _
 |0,x::l,_,h=>absurd (h x (.head _)) (Mv _)
 |n+1,l,hd,h=>by
  have h1:=QT n (l:=l.filter (· !=n)) (hd.filter _) λx hx=>by
   obtain⟨q1,q2⟩:=lO.mp hx;have:=h x q1;have:x≠n:=by simpa using q2
   exact Kj ‹_› this
  have h2:l.length<=(l.filter (· !=n)).length+1:=by
   clear h h1;induction l with
   |nil=>simp
   |cons x l ih=>
    obtain⟨hx,hl⟩:=Mw.mp hd;rw[aNx]
    by_cases q:x=n
    ·obtain rfl:=q.symm
     have e:l.filter (· !=n)=l:=by
      rw[pK];intro a ha;have:a≠n:=λq=>hx (q▸ha);simpa using this
     simp[e]
    ·have:=ih hl
     have q':(x !=n)=true:=by simpa using q
     rw[if_pos q'];simp;omega
  exact aV (aG [_,_,_] [.l .x .y,.l .z (.u .x),.l (.u (.u .y)) .z] rfl h1 h2)
theorem sQ.len(h:sQ l):l.length<=64:=QT 64 h.1 h.2
noncomputable def sY(fs:List Nat)(x:Nat):List Nat:=if fs.contains x then fs else fs++[x]
set_option tactic.hygienic true in
theorem sQ.add(h:sQ l)(hx:x<64):sQ (sY l x):=by
 unfold sY
 split
 ·exact h
 ·rename_i hc
  refine⟨OG.mpr ⟨h.1,by simp,λa ha b hb=>?_⟩,λy hy=>?_⟩
  ·rw[cW.mp hb];rintro rfl;exact hc (by simpa using ha)
  ·rcases jV.mp hy with q|q
   ·exact h.2 y q
   ·rw[cW.mp q];exact hx
section
variable {B:BD} {k:Nat}
theorem QH(ns:List Nat)(i:Nat):(ns.map λ(n:Nat)=>(n:Int)).contains (i:Int)=ns.contains i:=by
 induction ns with
 |nil=>rfl
 |cons n ns ih=>
  simp only[nU,Y1,ih];congr 1
  by_cases h:i=n
  ·obtain rfl:=h.symm;simp
  ·have:((i:Int)==(n:Int))=false:=by simp;exact λe=>h (Iq.mp e)
   rw[this];simp[h]
theorem bG.N4{y:LV}{i:Nat}{ns:List Nat}(hy:eY y (aQ ns)):bG B k .In (.val (.int i)) y (ns.contains i):=by
 rw[<-QH];exact bG.inI (by rw[zP] at hy;exact hy)
theorem bG.aIx{y:LV}{i:Nat}{ns:List Nat}(hy:eY y (aQ ns)):bG B k .NotIn (.val (.int i)) y (!ns.contains i):=by
 rw[<-QH];exact bG.aIy (by rw[zP] at hy;exact hy)
theorem iC.Bg(l:eY lv (aQ b))(h:i<b.length)(hz:b.length<=eJ):iC B k lv (.val (.int i)) (.int ((b.getD i 0:Nat):Int)):=
 .list l rfl (TY b i h) (by rw[gM];exact hz)
end
section
variable {B:BD} {k:Nat} {F:Fn} {sc:bR} {vars vars':aU}
theorem gP.Ad(t:σ->α->σ)(I:σ->aU)(P:List α->σ->Prop)(g:α->AV)(bs:α->List (aC×AV)):∀(L d:List α) (s:σ),P d s->(∀i∈L,fN bP (g i) (bs i))->(∀i∈L,∀b∈bs i,lT F b.1)->
 (∀d' i r s,d++L=d'++i::r->i∈L->P d' s->P (d'++[i]) (t s i)/\aJ B k F (fH (bs i) (I s)) body (.cF (I (t s i))))->P (d++L) (L.foldl t s)/\gP B k F bP body (L.map g) (I s) (.cF (I (L.foldl t s))):=by
 intro L;induction L with
 |nil=>
  intro d s p hb hs h;exact⟨by rw[pB];exact p,.nil _⟩
 |cons i L ih=>
  intro d s p hb hs h;obtain⟨p1,h1⟩:=h d i L s rfl (.head _) p;obtain⟨p2,h2⟩:=ih (d++[i]) (t s i) p1 (λj hj=>hb j (.tail _ hj)) (λj hj=>hs j (.tail _ hj)) λd' j r s e hj=>h d' j r s (by rw[<-e];simp) (.tail _ hj);exact⟨by simpa using p2,.cF (hb i (.head _)) (hs i (.head _)) h1 h2⟩
theorem aP.Ad(t:σ->α->σ)(I:σ->aU)(P:List α->σ->Prop)(g:α->AV)(bs:α->List (aC×AV))(L:List α)(s:σ)(h:cR B k F.sc (I s) bP e (L.map g))(hf:∀aA x,sV e aA x=pure x)(p0:P [] s)(hb:∀i∈L,fN bP (g i) (bs i))(hs:∀i∈L,∀b∈bs i,lT F b.1)
 (ht:∀d i r s,L=d++i::r->P d s->P (d++[i]) (t s i)/\aJ B k F (fH (bs i) (I s)) body (.cF (I (t s i)))):aP B k F (I s) (.For bP e body [] p) (.cF (I (L.foldl t s))):=
 .loop h (gP.Ad t I P g bs L [] s p0 hb hs λd i r s e _=>ht d i r s e).2 hf
end
theorem eZ.JW(bl:eZ B)(hk:sc.names.lookup f=some .globalImplicit)(hm:f∈(["range","len","min","sum","list","enumerate","zip","sorted","bytes","tuple","bool","iter","next","type","issubclass","StopIteration"]:List aC))(hb:AB f=some v)(hd:(f==("__debug__":aC))=false)(hn:f≠"__name__"):oN B sc f v:=⟨hk,bl.vY f hm,hb,hd,hn⟩
section
variable {M:Model} {A:bM} {R:GenEnd} {Y:OM} {n:Nat} {bZ:aF} {c:Code} {fs:List Frame} {s:aF} {aA:bO}
 {K:zD->qP Fin} {H:aD->qP Fin} {gd:Bool->Bool} {lv:List aD->List aD}
theorem Uq{st:dE}(h:aK M (A.over c fs) (exec st aA) (λf s'=>hU M A R Y n bZ c (K f) fs s') (λx s'=>hU M A R Y n bZ c (H x) fs s') s):
 hU M A R Y n bZ c ((exec st aA).wrap K H gd lv) fs s:=seg_wrap h
theorem EN(h:aK M (A.over c fs) (isTrue oA aA (eval oA aA)) (λb s'=>
 hU M A R Y n bZ c ((if b=true then execs body aA else execs pC aA).wrap K H gd lv) fs s') (λx s'=>hU M A R Y n bZ c (H x) fs s') s):
 hU M A R Y n bZ c ((exec (.If oA body pC pos) aA).wrap K H gd lv) fs s:=by
 have e:exec (.If oA body pC pos) aA=(do Iv pos;let b <-isTrue oA aA (eval oA aA);if b then execs body aA else execs pC aA):=rfl;rw[e];show hU M A R Y n bZ c (.at pos λ_=>(isTrue oA aA (eval oA aA)>>=λb=>if b=true then execs body aA else execs pC aA).wrap K H gd lv) fs s;refine seg_at ?_;rw[aNz,qP.wrap_wrap];exact seg_wrap (eK h (λb s' h'=>h') λ_ _ q=>q)
theorem aGw(hf:∀x,sV iter aA x=pure x)
 (h:aK M (A.over c fs) (eval iter aA) (λx aS=>aK M (A.over c fs) (wW x) (λit bN=>∀p,hU M A R Y n bZ (.forLoop target it body pC aA) (M.den (.forLoop target it body pC aA))
  (.ret (λr=>((match r with|.ok f=>(.pure f:qP zD)|.error e=>.raise e).onRaise λ(x:aD)=>do
   if(<-field x 1)==nG then unsupported "frame.own-activation:exception-without-traceback"
   To x aA.frame).wrap K H gd lv) none (gd false) (lv []) c p []::fs) bN) (λx s'=>hU M A R Y n bZ c (H x) fs s') aS) (λx s'=>hU M A R Y n bZ c (H x) fs s') s):
 hU M A R Y n bZ c ((exec (.For target iter body pC pos) aA).wrap K H gd lv) fs s:=by
 have e:exec (.For target iter body pC pos) aA=(do
  Iv pos
  let v <-eval iter aA
  Iv iter.pos
  let it <-holding [v] (wW v)
  runOwn (.forLoop target it body pC aA) aA):=by
   rw[exec_For];simp only[hf];rfl
 rw[e];refine Je (pI ?_);refine Je (eK h (λx aS lY=>?_) λ_ _ q=>q);refine Je (pI ?_);refine Je (mK (eK lY (λit bN vZ=>?_) λ_ _ q=>q));exact seg_call vZ
end
section
variable {prog:iS} {w:iI} {A:bM} {R:GenEnd} {Y:OM} {n:Nat} {bZ:aF} {fs:List Frame} {s:aF} {aA:bO}
noncomputable abbrev Dd(aA:bO)(e:aD):qP Fin:=(do tU e aA;Mx e:qP Unit).wrap (λ_=>.raise e) .raise id id
theorem QQ
 (h:aK (model prog w) (A.over (.forLoop target it body [] aA) fs) (mH it) (λr aS=>match r with
  |none=>hU (model prog w) A R Y n bZ (.block [] aA) ((model prog w).den (.block [] aA)) fs aS
  |some v=>aK (model prog w) (A.over (.forLoop target it body [] aA) fs) (tR target it v) (λ_ bN=>aK (model prog w) (A.over (.forLoop target it body [] aA) fs) (assign target aA v) (λ_ gO=>
   hU (model prog w) A R Y n bZ (.forLoop target it body [] aA) ((execs body aA).wrap (λf=>match f with
    |.next|.cont=>.pure (.again (.forLoop target it body [] aA))
    |.brk=>.pure (.done .next)
    |.ret v=>.pure (.done (.ret v))) (Dd aA) id id) fs gO)
   (λx s'=>hU (model prog w) A R Y n bZ (.forLoop target it body [] aA) (Dd aA x) fs s') bN) (λx s'=>hU (model prog w) A R Y n bZ (.forLoop target it body [] aA) (Dd aA x) fs s') aS)
  (λx s'=>hU (model prog w) A R Y n bZ (.forLoop target it body [] aA) (Dd aA x) fs s') s):
 hU (model prog w) A R Y n bZ (.forLoop target it body [] aA) ((model prog w).den (.forLoop target it body [] aA)) fs s:=by
 show hU _ A R Y n bZ _ ((forTurn target it body [] aA).onRaise (λx=>do tU x aA;Mx x)) fs s;unfold forTurn;rw[qP.onRaise_eq_wrap];refine Je (pI ?_);refine Je (Tf (eK h (λr aS lY=>?_) λx s' q=>pI ?_))
 ·cases r with
  |none=>exact ON rfl lY
  |some v=>
   refine Je (eK lY (λ_ bN vZ=>?_) λx s' q=>?_)
   ·refine Je (eK vZ (λ_ gO An=>?_) λx s' q=>?_)
    ·rw[aNz,qP.wrap_wrap]
     rw[qP.wrap_congr (execs body aA) _ _ (K':=λf=>match f with
      |.next|.cont=>.pure (.again (.forLoop target it body [] aA))
      |.brk=>.pure (.done .next)
      |.ret v=>.pure (.done (.ret v)))
      (λf=>by cases f<;>rfl)
      (λe=>by show(do tU e aA;Mx e:qP Unit).bind (λ_=>.raise e)=_;rw[OO])]
     exact An
    ·show hU _ A R Y n bZ _ ((do tU x aA;Mx x:qP Unit).bind λ_=>.raise x) fs s'
     rw[OO];exact q
   ·show hU _ A R Y n bZ _ ((do tU x aA;Mx x:qP Unit).bind λ_=>.raise x) fs s'
    rw[OO];exact q
 ·show hU _ A R Y n bZ _ ((do tU x aA;Mx x:qP Unit).bind λ_=>.raise x) fs s'
  rw[OO];exact q
theorem aAl(h:∀c',hU (model prog w) A R Y n bZ c' (leafOf (.ok .next)) fs s):hU (model prog w) A R Y n bZ (.block [] aA) ((model prog w).den (.block [] aA)) fs s:=h _
end
noncomputable def mU:Bool->Nat->Int->List Nat->List (Int×aC)
 |true,_,p,[]=>[(p,"\\")]
 |false,_,_,[]=>[]
 |true,i,_,c::l=>((i:Int),"\\"++⟨#[c]⟩)::mU false (i+1) i l
 |false,i,_,c::l=>if c=92 then mU true (i+1) i l else((i:Int),⟨#[c]⟩)::mU false (i+1) i l
theorem FC:mU true i p (c::l)=((i:Int),("\\":aC)++⟨#[c]⟩)::mU false (i+1) i l:=rfl
theorem Kc:mU false i p (c::l)=if c=92 then mU true (i+1) i l else((i:Int),⟨#[c]⟩)::mU false (i+1) i l:=rfl
structure rH(aA:bO)(L:aH):Prop where
 dX:aA.locals=L
 sc:aA.scope=bQ 16
 eH:aA.globals=jU
 blt:aA.builtins=qM
theorem rH.kind(h:rH aA L)(q:(bQ 16).names.lookup x=some kd):aA.kindOf x=some kd:=by unfold Fd;rw[h.sc];exact q
theorem rH.fn(h:rH aA L):aA.scope.kind=.function:=by rw[h.sc];rfl
structure GS(h:bH)(L E I:aH)(x:aC)(t:jB)(iO:Bool)(i:Nat)(pv:Int)(m:aC->Option aD):Prop where
 ns:h.Ns L m
 me:m "escape"=some (.bool iO)
 mp:∃u,m "pos"=some (.int pv u)
 en:∃old,Tc h E I i old
 it:h.IsStrIter I (Mp x) x t i
structure GK(L E I:aH)(bZ s:aF):Prop where
 keep:∀b o,b≠L->b≠E->b≠I->bZ.heap.get? b=some o->s.heap.get? b=some o
 gens:s.gens=bZ.gens
 os:s.os=bZ.os
theorem GK.refl(L E I:aH)(s:aF):GK L E I s s:=⟨λ_ _ _ _ _ e=>e,rfl,rfl⟩
theorem GK.trans(x:GK L E I a b)(y:GK L E I b c):GK L E I a c:=⟨λd o h1 h2 h3 e=>y.keep d o h1 h2 h3 (x.keep d o h1 h2 h3 e),y.gens.trans x.gens,y.os.trans x.os⟩
theorem GS.apart(g:GS h L E I x t iO i pv m):L≠E/\L≠I:=by
 obtain⟨o,es,ep,h1,h2,_⟩:=g.ns;obtain⟨old,h3⟩:=g.en;obtain⟨o',h4,_,h5⟩:=g.it;refine⟨λq=>?_,λq=>?_⟩
 ·subst q
  have h3:=h3;cases (h1.symm.trans h3);cases h2
 ·subst q;cases (h1.symm.trans h4);cases (h2.symm.trans h5)
section
variable {prog:iS} {w:iI} {A:bM} {aA:bO} {L E I:aH} {x:aC} {t:jB} {iO:Bool} {i:Nat} {pv:Int} {m:aC->Option aD} {s:aF}
theorem aFx(hh:A.handled=none)(G:rH aA L)(dD:E≠I)(g:GS s.heap L E I x t iO i pv m){c:Nat}(hc:x.cps[i]?=some c){p1 p2 tp:dI}{n':Nat}{Φ:aF->Prop}{E0 E1 E2:aD->aF->Prop}
 (K:∀s' m',GS s'.heap L E I x t iO (i+1) i m'->GK L E I s s'->(∃u,m' "ch"=some (.str ⟨#[c]⟩ u))->Φ s'):
 aK (model prog w) A (mH (.ref E)) (λr aS=>∃v,r=some v/\aK (model prog w) A (tR (.Tuple [.Name "pos" p1,.Name "ch" p2] n' tp) (.ref E) v) (λ_ bN=>aK (model prog w) A (assign (.Tuple [.Name "pos" p1,.Name "ch" p2] n' tp) aA v) (λ_ gO=>Φ gO) E2 bN) E1 aS) E0 s:=by
 obtain⟨aE,aI⟩:=g.apart
 have D:Draws prog w A.in1 I [I] x.cps.size (λi v=>∃c u,x.cps[i]?=some c/\v=.str ⟨#[c]⟩ u) (λi h=>h.IsStrIter I (Mp x) x t i):=by
  rcases BZ x with q|q
  ·rw[q];exact Y8 (A:=A.in1) hh _ x t
  ·rw[q];exact Y9 (A:=A.in1) hh _ x t
 obtain⟨old,he⟩:=g.en
 have hM:i<x.cps.size:=by
  have:=Jf.mp hc;exact this.1
 refine aNb D he g.it hM dD (by simpa using dD) λv h' tk hv LQ HU hT iF hk=>?_;obtain⟨c',u,Zc,rfl⟩:=hv;cases (hc.symm.trans Zc);refine⟨_,rfl,aNc LQ λnR LP hs=>?_⟩;have nT:s.heap.get? s.heap.objs.size=none:=bH.jN _
 have nTE:s.heap.objs.size≠E:=λq=>by
  have he:=he;rw[q,he] at nT;cases nT
 have hT2:nR.IsTuple s.heap.objs.size (Jg [.int i tk,.str ⟨#[c]⟩ u]):=⟨_,(hs.2 _ nTE).trans hT,rfl,0,rfl⟩
 have k2:∀b o,b≠E->b≠I->s.heap.get? b=some o->nR.get? b=some o:=λb o h1 h2 e=>(hs.2 b h1).trans (hk b o h1 h2 e);refine Z1 hh hT2 rfl rfl λh3 hx=>?_
 have Yl:∀b o,nR.get? b=some o->h3.get? b=some o:=λb o e=>hx b o (λq=>by
  have:=bH.jN nR
  rw[<-q,e] at this;cases this) e
 have ns3:h3.Ns L m:=by
  obtain⟨o,es,ep,h1,r⟩:=g.ns;exact⟨o,es,ep,Yl _ _ (k2 L o aE aI h1),r⟩
 show aK (model prog w) A (Z0 [assign (.Name "pos" p1) aA,assign (.Name "ch" p2) aA] [.int i tk,.str ⟨#[c]⟩ u]) _ _ _;have hp:(aA.scope.kind==.class||(aA.scope.kind==.module&&aA.locals !=aA.globals))=false:=by rw[G.fn];rfl
 refine NZ (AL (Fb (G.kind rfl) (by rw[G.dX];exact ns3) (λh4 n4 s4=>?_) hp));rw[G.dX] at n4 s4;refine NZ (AL (Fb (G.kind rfl) (by rw[G.dX];exact n4) (λh5 n5 s5=>?_) hp));rw[G.dX] at n5 s5;refine Z2 (K _ _ ⟨n5,?_,⟨tk,?_⟩,⟨.str ⟨#[c]⟩ u,?_⟩,?_⟩ ⟨λb o h1 h2 MG e=>?_,rfl,rfl⟩ ⟨u,?_⟩)
 ·show(if("escape":aC)="ch" then _ else if("escape":aC)="pos" then _ else m "escape")=_
  rw[if_neg (by decide),if_neg (by decide)];exact g.me
 ·show(if("pos":aC)="ch" then _ else if("pos":aC)="pos" then _ else m "pos")=_
  rw[if_neg (by decide),if_pos rfl]
 ·exact(s5.2 E (gJ aE)).trans ((s4.2 E (gJ aE)).trans (Yl _ _ LP))
 ·obtain⟨o,e,r⟩:=HU
  exact⟨o,(s5.2 I (gJ aI)).trans ((s4.2 I (gJ aI)).trans (Yl _ _ ((hs.2 I (gJ dD)).trans e))),r⟩
 ·exact(s5.2 b h1).trans ((s4.2 b h1).trans (Yl _ _ (k2 b o h2 MG e)))
 ·show(if("ch":aC)="ch" then _ else _)=_
  rw[if_pos rfl]
inductive aMr(fS:Bool)(all:List (Int×aC))(L E I:aH)(mm:Nat)(bZ:aF)(v:aD)(s':aF)(N0:Resume->aF->Prop):Prop
 |mk (p:Int) (y:aC) (u w:jB) (T:aH) (ev:v=.ref T) (ha:all[all.length-1-mm]?=some (p,y)) (Ii:bZ.heap.get? T=none) (hT:s'.heap.get? T=some (gA #[.int p u,.str y w] 0)) (gk:GK L E I bZ s')
  (MA:T≠E/\T≠I) (rJ:∃m,s'.heap.Ns L m) (l:List aH) (hl:l=if fS=true/\mm=0 then [] else [E,I]) (ZP:∀b∈l,∃o,s'.heap.get? b=some o/\eD o)
  (hk:∀dF,(∀m,s'.heap.Ns L m->dF.heap.Ns L m)->(∀b∈l,dF.heap.get? b=s'.heap.get? b)->N0 (.send .none) dF)
noncomputable def zS(fS:Bool)(all:List (Int×aC))(L E I:aH):OM:=aMr fS all L E I
noncomputable def Af:Bool->List Nat->Bool
 |true,[]=>true
 |false,[]=>false
 |true,_::l=>Af false l
 |false,c::l=>Af (decide (c=92)) l
theorem WN:Af false (c::l)=Af (decide (c=92)) l:=rfl
set_option tactic.hygienic true in
theorem DP:∀(l:List Nat) (e:Bool) (i:Nat) (p:Int),Af e l=true->mU e i p l≠[]
 |[],true,i,p,_=>nofun
 |[],false,i,p,h=>nomatch h
 |c::l,true,i,p,_=>nofun
 |c::l,false,i,p,h=>by
  rw[Kc]
  split
  ·rename_i hc
   rw[WN,decide_eq_true hc] at h;exact DP l _ _ _ h
  ·simp
noncomputable def zW(fS:Bool)(L E I:aH):GenEnd:=λn bZ r aS=>r=.ok (.ret .none)/\(n=0/\GK L E I bZ aS/\(fS=true->∀b o,b≠L->bZ.heap.get? b=some o->aS.heap.get? b=some o))
theorem GS.aJ4(g:GS h L E I x t iO i pv m)(h1:∀m,h.Ns L m->h'.Ns L m)(h2:h'.get? E=h.get? E)(h3:h'.get? I=h.get? I):GS h' L E I x t iO i pv m:=
 ⟨h1 m g.ns,g.me,g.mp,by obtain⟨old,e⟩:=g.en;exact⟨old,h2.trans e⟩,by obtain⟨o,e,r⟩:=g.it;exact⟨o,h3.trans e,r⟩⟩
theorem Jt(G:rH aA L)(hk:(bQ 16).names.lookup y=some .local)(hd:(y==("__debug__":aC))=false)(hn:s.heap.Ns L m)(hm:m y=some v)(h:Q v s):aK (model prog w) A (eval (.Name y p) aA) Q E0 s:=
 NO (NN G.fn (G.kind hk) (by rw[G.dX];exact hn) hm h) hd
theorem UO(G:rH aA L)(hn:s.heap.Ns L m)(hm:m "escape"=some (.bool b))(h:Q b s):aK (model prog w) A (isTrue (.Name "escape" p) aA (eval (.Name "escape" p) aA)) Q E0 s:=
 aM1 (Jt G rfl rfl hn hm (NR h)) rfl
theorem WJ(G:rH aA L)(g:GS s.heap L E I x t iO i pv m)(h:∀s',GS s'.heap L E I x t b i pv (λz=>if z="escape" then some (.bool b) else m z)->GK L E I s s'->Q .next s'):
 aK (model prog w) A (exec (.Assign [.Name "escape" p1] (.Constant (.bool b) n' p2) p3) aA) Q E0 s:=by
 obtain⟨aE,aI⟩:=g.apart;refine zE (X0 (Fb (G.kind rfl) (by rw[G.dX];exact g.ns) (λh' n' hs=>?_) (by rw[G.fn];rfl))) rfl;rw[G.dX] at n' hs;refine h _ ⟨n',if_pos rfl,?_,?_,?_⟩ ⟨λb o h1 _ _ e=>(hs.2 b h1).trans e,rfl,rfl⟩
 ·obtain⟨u,e⟩:=g.mp
  exact⟨u,by rw[if_neg (by decide)];exact e⟩
 ·obtain⟨old,e⟩:=g.en
  exact⟨old,(hs.2 E (gJ aE)).trans e⟩
 ·obtain⟨o,e,r⟩:=g.it
  exact⟨o,(hs.2 I (gJ aI)).trans e,r⟩
theorem aFy(G:rH aA L)(ns:s.heap.Ns L m)(mp:∃u,m "pos"=some (.int pv u))(hn:eR [.Name "pos" p1,e2]=true)
 (h2:∀Q':aD->aF->Prop,(∀w tk,Q' (.str y w) {s with toks:=tk})->aK (model prog w) A (eval e2 aA) Q' E0 s)
 (h:∀s' u w,s'.heap.get? s.heap.objs.size=some (gA #[.int pv u,.str y w] 0)->(∀b o,s.heap.get? b=some o->s'.heap.get? b=some o)->s'.gens=s.gens->s'.os=s.os->Q (.ref s.heap.objs.size) s'):
 aK (model prog w) A (eval (.Tuple [.Name "pos" p1,e2] n' p2) aA) Q E0 s:=by
 obtain⟨u,hu⟩:=mp;refine X5 ?_;refine Et (Jt G rfl rfl ns hu ?_) (pM hn);refine Et (h2 _ λw tk=>AD ?_) (pM (vI hn));refine⟨(by decide:2<=eJ),?_⟩;exact h _ u w (gU _ rfl) (λb o e=>eG _ e) rfl rfl
end
noncomputable abbrev zR(e2:bJ)(n':Nat)(p1 p2 p3 p4:dI):dE:=.Expr (.Yield (some (.Tuple [.Name "pos" p1,e2] n' p2)) p3) p4
noncomputable abbrev Gj(b:Bool)(n':Nat)(p1 p2 p3:dI):dE:=.Assign [.Name "escape" p1] (.Constant (.bool b) n' p2) p3
section
variable {prog:iS} {w:iI} {A:bM} {aA:bO} {L E I:aH} {x:aC} {t:jB} {iO:Bool} {i:Nat} {pv:Int} {m:aC->Option aD} {s bZ:aF} {all:List (Int×aC)} {n:Nat} {fS:Bool}
 {c:Code} {fs:List Frame} {K:zD->qP Fin} {H:aD->qP Fin} {gd:Bool->Bool} {lv:List aD->List aD}
theorem aHs(hh:A.handled=none)(dD:E≠I)(g:GS s.heap L E I x t iO i pv m)(hc:i=x.cps.size)
 (K:∀s',GK L E I s s'->s'.heap.Ns L m->(∀b o,b≠I->s.heap.get? b=some o->s'.heap.get? b=some o)->Φ none s'):aK (model prog w) A (mH (.ref E)) Φ E0 s:=by
 obtain⟨aE,aI⟩:=g.apart
 have D:Draws prog w A.in1 I [I] x.cps.size (λi v=>∃c u,x.cps[i]?=some c/\v=.str ⟨#[c]⟩ u) (λi h=>h.IsStrIter I (Mp x) x t i):=by
  rcases BZ x with q|q
  ·rw[q];exact Y8 (A:=A.in1) hh _ x t
  ·rw[q];exact Y9 (A:=A.in1) hh _ x t
 obtain⟨old,he⟩:=g.en;have st:=g.it;subst hc;refine aNa D he st λh' hx=>?_;obtain⟨o,es,ep,h1,r⟩:=g.ns;exact K _ ⟨λb o _ _ h3 e=>hx b o h3 e,rfl,rfl⟩ ⟨o,es,ep,hx L o aI h1,r⟩ λb o h3 e=>hx b o h3 e
theorem GS.live(g:GS h L E I x t iO i pv m):(∃o,h.get? L=some o)/\(∃o,h.get? E=some o)/\∃o,h.get? I=some o:=by
 obtain⟨o,es,ep,h1,_⟩:=g.ns;obtain⟨old,h2⟩:=g.en;obtain⟨o',h3,_⟩:=g.it;exact⟨⟨o,h1⟩,⟨_,h2⟩,⟨o',h3⟩⟩
theorem RC(G:rH aA L)(Ly:Δ fs=none)(wQ:gd false=false)(Lz:fs.any Θ=false)(ns:s.heap.Ns L m)(mp:∃u,m "pos"=some (.int pv u))(Ej:I<E)(lE:∃o,s.heap.get? E=some o)
 (l:List aH) (hq:l=if fS=true/\n=0 then [] else [E,I]) (hl:∀b∈l,∃o,s.heap.get? b=some o/\eD o) (q:GK L E I bZ s) (hn:eR [.Name "pos" p1,e2]=true)
 (ha:all[all.length-1-n]?=some (pv,y))
 (h2:∀(Q':aD->aF->Prop) (E0:aD->aF->Prop),(∀w tk,Q' (.str y w) {s with toks:=tk})->aK (model prog w) (A.over c fs) (eval e2 aA) Q' E0 s)
 (h:∀s',(∀m,s.heap.Ns L m->s'.heap.Ns L m)->(∀b∈l,s'.heap.get? b=s.heap.get? b)->hU (model prog w) A (zW fS L E I) (zS fS all L E I) n s' c (K .next) fs s'):
 hU (model prog w) A (zW fS L E I) (zS fS all L E I) (n+1) bZ c ((exec (zR e2 n' p1 p2 p3 p4) aA).wrap K H gd lv) fs s:=by
 have Ih:aA.scope.isCoroutine=false:=by rw[G.sc];rfl
 have hi:interactive aA=false:=by unfold interactive;rw[G.sc];rfl
 refine seg_Expr_Yield Ly wQ Lz ?_ Ih hi;refine aFy G ns mp hn (λQ' r=>h2 Q' _ r) λs' u w' eT k' g' o' N0 hk=>?_;have nT:=bH.jN s.heap;refine⟨pv,y,u,w',_,rfl,ha,?_,eT,q.trans ⟨λb o _ _ _ e=>k' b o e,g',o'⟩,?_,⟨m,ns.keeps k'⟩,l,hq,λb hb=>?_,λdF h1 h3=>hk .none dF (h dF (λm n=>h1 m (n.keeps k')) λb hb=>?_)⟩
 ·obtain⟨o1,es,ep,l1,_⟩:=ns
  obtain⟨o2,l2⟩:=lE;have z1:=gS l1;have z2:=gS l2;cases e:bZ.heap.get? s.heap.objs.size with
  |none=>rfl
  |some o=>
   have:=q.keep _ o (wX z1) (wX z2) (wX (tY Ej z2)) e;cases (nT.symm.trans this)
 ·obtain⟨o2,l2⟩:=lE
  have z2:=gS l2;exact⟨wX z2,wX (tY Ej z2)⟩
 ·obtain⟨o,e,r⟩:=hl b hb
  exact⟨o,k' _ _ e,r⟩
 ·obtain⟨o,e,_⟩:=hl b hb
  rw[h3 b hb,k' _ _ e,e]
theorem RD(G:rH aA L)(Ly:Δ fs=none)(wQ:gd false=false)(Lz:fs.any Θ=false)(Ej:I<E)(g:GS s.heap L E I x t iO i pv m)(q:GK L E I bZ s)(hd:fS=true->n≠0)(hn:eR [.Name "pos" p1,e2]=true)
 (ha:all[all.length-1-n]?=some (pv,y))
 (h2:∀(Q':aD->aF->Prop) (E0:aD->aF->Prop),(∀w tk,Q' (.str y w) {s with toks:=tk})->aK (model prog w) (A.over c fs) (eval e2 aA) Q' E0 s)
 (h:∀s',GS s'.heap L E I x t iO i pv m->hU (model prog w) A (zW fS L E I) (zS fS all L E I) n s' c (K .next) fs s'):
 hU (model prog w) A (zW fS L E I) (zS fS all L E I) (n+1) bZ c ((exec (zR e2 n' p1 p2 p3 p4) aA).wrap K H gd lv) fs s:=by
 refine RC G Ly wQ Lz g.ns g.mp Ej g.live.2.1 [E,I] (by rw[if_neg λq=>hd q.1 q.2]) (λb hb=>?_) q hn ha h2 λs' h1 h3=>h s' (g.aJ4 h1 (h3 E (.head _)) (h3 I (.tail _ (.head _))));rcases cE.mp hb with rfl|hb
 ·obtain⟨old,e⟩:=g.en
  exact⟨_,e,jX rfl (by nofun)⟩
 ·rw[cW.mp hb]
  exact IsStrIter.cM g.it
theorem z8(h:aK (model prog w) (A.over (.forLoop target it body [] aA) fs) (mH it) (λr aS=>∃v,r=some v/\
 aK (model prog w) (A.over (.forLoop target it body [] aA) fs) (tR target it v) (λ_ bN=>aK (model prog w) (A.over (.forLoop target it body [] aA) fs) (assign target aA v) (λ_ gO=>
  hU (model prog w) A R Y n bZ (.forLoop target it body [] aA) ((execs body aA).wrap (λf=>match f with
   |.next|.cont=>.pure (.again (.forLoop target it body [] aA))
   |.brk=>.pure (.done .next)
   |.ret v=>.pure (.done (.ret v))) (Dd aA) id id) fs gO)
  (λx s'=>hU (model prog w) A R Y n bZ (.forLoop target it body [] aA) (Dd aA x) fs s') bN) (λx s'=>hU (model prog w) A R Y n bZ (.forLoop target it body [] aA) (Dd aA x) fs s') aS)
 (λx s'=>hU (model prog w) A R Y n bZ (.forLoop target it body [] aA) (Dd aA x) fs s') s):
 hU (model prog w) A R Y n bZ (.forLoop target it body [] aA) ((model prog w).den (.forLoop target it body [] aA)) fs s:=
 QQ (eK h (λr aS q=>by obtain⟨v,rfl,q⟩:=q;exact q) λ_ _ q=>q)
theorem CG(h:all.drop (all.length-(r.length+1))=a::r):all[all.length-1-r.length]?=some a/\all.drop (all.length-r.length)=r:=by
 have hl:r.length+1<=all.length:=by
  have:=congrArg rS h;simp at this;exact aV (aG [_,_,_,_] [.f .x (.u .y),.e (.a .x .z) .w,.l (.u .w) (.u .y)] rfl this (bC ((NI _ _))))
 have e:all.length-(r.length+1)=all.length-1-r.length:=eQ (aG [_,_,_,_,_] [.e (.u .x) .y,.e (.a .z .w) .x,.f (.a .p (.u .w)) .y,.l (.u .p) .z] rfl (bC (qQ hl)) (bC (aV (aG [_,_,_] [.l (.u .x) .y,.f (.u .z) .y,.l (.u .z) .x] rfl hl (bC (qQ hl))))) (bC (hl))) (aG [_,_,_,_,_] [.f (.u .x) .y,.f (.a .z .w) .x,.e (.a .p (.u .w)) .y,.l (.u .z) .p] rfl (bC (qQ hl)) (bC (aV (aG [_,_,_] [.l (.u .x) .y,.f (.u .z) .y,.l (.u .z) .x] rfl hl (bC (qQ hl))))) (bC (hl)));rw[e] at h;refine⟨?_,?_⟩
 ·have:=congrArg (·[0]?) h
  simpa using this
 ·have:=congrArg (Y2 1) h
  rw[NW] at this;have e2:all.length-1-r.length+1=all.length-r.length:=eQ (aG [_,_,_,_,_] [.f (.u .x) .y,.e (.a .z .w) .y,.f (.a .p .w) .x,.l (.u (.u .p)) .z] rfl (bC (qQ hl)) (bC (eO hl)) (bC (aV (aG [_,_,_] [.l (.u .x) .y,.f (.u .z) .y,.l (.u .z) .x] rfl hl (bC (qQ hl)))))) (aG [_,_,_,_,_] [.f .x .y,.f (.a .z .w) .p,.e (.a .x (.u .w)) .p,.l (.u .z) (.u .y)] rfl e (bC (eO hl)) (bC (hl)));rw[e2] at this;simpa using this
theorem aGx(hh:A.handled=none)(Q6:∀c,(A.over c fs).handled=none)(G:rH aA L)(Ej:I<E)(Ly:Δ fs=none)(Lz:fs.any Θ=false)
 (F0:∀iO i pv m bZ s c',s.heap.Ns L m->m "escape"=some (.bool iO)->(∃u,m "pos"=some (.int pv u))->(∃o,s.heap.get? E=some o)->GK L E I bZ s->Af iO []=fS->all.drop (all.length-(mU iO i pv []).length)=mU iO i pv []->
  hU (model prog w) A (zW fS L E I) (zS fS all L E I) (mU iO i pv []).length bZ c' (leafOf (.ok .next)) fs s):
 ∀(l:List Nat) (iO:Bool) (i:Nat) (pv:Int) (m:aC->Option aD) (bZ s:aF),GS s.heap L E I x t iO i pv m->GK L E I bZ s->x.cps.toList.drop i=l->i<=x.cps.size->Af iO l=fS->all.drop (all.length-(mU iO i pv l).length)=mU iO i pv l->
  hU (model prog w) A (zW fS L E I) (zS fS all L E I) (mU iO i pv l).length bZ
   (.forLoop (.Tuple [.Name "pos" p1,.Name "ch" p2] n1 p3) (.ref E) [.If (.Name "escape" p4) [zR (.BinOp (.Constant (.str "\\") n2 p5) .Add (.Name "ch" p6) p7) n3 p8 p9 L7 L6,Gj false n4 L5 K9 Yj]
    [.If (.Compare (.Name "ch" K8) [.Eq] [.Constant (.str "\\") n5 Yi] K7) [Gj true n6 K6 K5 Yh] [zR (.Name "ch" K4) n7 K3 K2 K0 J9] J8] J7] [] aA)
   ((
    model prog w).den (.forLoop (.Tuple [.Name "pos" p1,.Name "ch" p2] n1 p3) (.ref E) [.If (.Name "escape" p4) [zR (.BinOp (.Constant (.str "\\") n2 p5) .Add (.Name "ch" p6) p7) n3 p8 p9 L7 L6,Gj false n4 L5 K9 Yj]
    [.If (.Compare (.Name "ch" K8) [.Eq] [.Constant (.str "\\") n5 Yi] K7) [Gj true n6 K6 K5 Yh] [zR (.Name "ch" K4) n7 K3 K2 K0 J9] J8] J7] [] aA)) fs s:=by
 intro l;have dD:E≠I:=wX Ej;induction l with
 |nil=>
  intro iO i pv m bZ s g q hl hi hd ha
  have eV:i=x.cps.size:=by
   have:=aM7.mp hl;simp at this;exact eQ (aG [_,_] [.l .x .y,.l (.u .y) .x] rfl this) (aG [_,_] [.l .x .y,.l (.u .y) .x] rfl hi)
  refine QQ ?_;refine aHs (Q6 _) dD g eV λs' q' n' k'=>?_;obtain⟨aE,aI⟩:=g.apart;obtain⟨old,he⟩:=g.en;exact aAl λc'=>F0 iO i pv m bZ s' c' n' g.me g.mp ⟨_,k' E _ dD he⟩ (q.trans q') hd ha
 |cons ch l ih=>
  intro iO i pv m bZ s g q hl hi hd ha
  have hc:x.cps[i]?=some ch:=by
   have:=congrArg (·[0]?) hl;simpa using this
  have nA:x.cps.toList.drop (i+1)=l:=by
   have:=congrArg (Y2 1) hl;simpa [NW,Ss] using this
  have eV:i+1<=x.cps.size:=(Jf.mp hc).1;refine z8 (aFx (Q6 _) G dD g hc λs' m' g' q' Rz=>?_);obtain⟨u,Rz⟩:=Rz;refine zJ (EN (UO G g'.ns g'.me ?_));cases iO with
  |true=>
   rw[if_pos rfl];rw[FC,pL] at ha ⊢;replace hd:Af false l=fS:=hd;have hz:fS=true->(mU false (i+1) i l).length≠0:=λq r=>DP l _ _ _ (hd.trans q) (aN0.mp r);obtain⟨a1,a2⟩:=CG ha;refine zJ (RD (pv:=(i:Int)) G Ly rfl Lz Ej g' (q.trans q') hz rfl a1 (λQ' E0 r=>?_) λdF eP=>?_)
   ·refine NQ (NM (Jt G rfl rfl (m:=m') g'.ns Rz ?_))
    have hz:("\\":aC).length+(⟨#[ch]⟩:aC).length<=eJ:=(by decide:2<=eJ)
    with_reducible exact add_str (λt' tk=>r _ _) hz
   ·refine zJ (Uq (WJ G eP λs3 g3 q3=>?_))
    refine Cb ?_;refine Cb (ON rfl ?_);exact ih false (i+1) i _ _ s3 g3 q3 nA eV hd a2
  |false=>
   rw[if_neg Jh];refine zJ (EN (aM0 (Jt G rfl rfl g'.ns Rz (NM ?_)) rfl))
   with_reducible refine eq_str ?_
   have eb:((⟨#[ch]⟩:aC)==("\\":aC))=decide (ch=92):=by
    have e:(("\\":aC))=⟨#[92]⟩:=rfl;rw[e,My];simp
   rw[eb];refine NR ?_;have g2:=g';have q2:GK L E I bZ {s' with toks:=s'.toks+1}:=q.trans ⟨q'.keep,q'.gens,q'.os⟩;rw[WN] at hd
   by_cases nB:ch=92
   ·rw[if_pos (decide_eq_true nB)]
    rw[Kc,if_pos nB] at ha ⊢;rw[decide_eq_true nB] at hd;refine zJ (Uq (WJ G g2 λs3 g3 q3=>?_));refine Cb (Cb (ON rfl ?_));exact ih true (i+1) i _ bZ s3 g3 (q2.trans q3) nA eV hd ha
   ·rw[if_neg (by simp[nB])]
    rw[Kc,if_neg nB,pL] at ha ⊢;rw[decide_eq_false nB] at hd;have hz:fS=true->(mU false (i+1) i l).length≠0:=λq r=>DP l _ _ _ (hd.trans q) (aN0.mp r);obtain⟨a1,a2⟩:=CG ha;refine zJ (RD G Ly rfl Lz Ej g2 q2 hz rfl a1 (λQ' E0 r=>?_) λdF eP=>?_)
    ·exact Jt G rfl rfl g2.ns Rz (r _ _)
    ·refine Cb (Cb (ON rfl ?_))
     exact ih false (i+1) i _ dF dF eP (.refl _ _ _ _) nA eV hd a2
end
section
variable {prog:iS} {w:iI} {A:bM} {aA:bO} {L:aH} {x:aC} {t:jB} {m mg mb:aC->Option aD} {s:aF}
noncomputable abbrev mO(x:aC):List (Int×aC):=mU false 0 0 x.cps.toList
noncomputable abbrev Vk(x:aC):Bool:=Af false x.cps.toList
theorem Ns.jL(n:h.Ns b m)(hs:kU L h h')(dD:b≠L):h'.Ns b m:=by obtain⟨o,es,ep,e,r⟩:=n;exact⟨o,es,ep,(hs.2 b dD).trans e,r⟩
theorem aA5(hh:A.handled=none)(G:rH aA L)(ns:s.heap.Ns L m)(ha:m "addr"=some (.str x t))(hg:s.heap.Ns jU mg)(hb:s.heap.Ns qM mb)(h1:mg "enumerate"=none)(h2:mb "enumerate"=some (.type "enumerate"))(Zh:jU≠L)(Zi:qM≠L)
 (kW:body=[.Assign [.Name "pos" p28] (.Constant (.int 0) n8 p29) p30,Gj false n9 p31 p32 p33,
  .For (.Tuple [.Name "pos" p1,.Name "ch" p2] n1 p3) (.Call (.Name "enumerate" p34) [.Name "addr" p35] [] p36)
   [.If (.Name "escape" p4) [zR (.BinOp (.Constant (.str "\\") n2 p5) .Add (.Name "ch" p6) p7) n3 p8 p9 L7 L6,Gj false n4 L5 K9 Yj]
    [.If (.Compare (.Name "ch" K8) [.Eq] [.Constant (.str "\\") n5 Yi] K7) [Gj true n6 K6 K5 Yh] [zR (.Name "ch" K4) n7 K3 K2 K0 J9] J8] J7] [] p37,
  .If (.Name "escape" p38) [zR (.Constant (.str "\\") M2 p39) n11 p40 p41 p42 p43] [] p44]):
 hU (model prog w) A (zW (Vk x) L (s.heap.objs.size+1) s.heap.objs.size) (zS (Vk x) (mO x) L (s.heap.objs.size+1) s.heap.objs.size) (mO x).length s (.func body aA) ((model prog w).den (.func body aA)) [] s:=by
 subst kW;have hp:(aA.scope.kind==.class||(aA.scope.kind==.module&&aA.locals !=aA.globals))=false:=by rw[G.fn];rfl
 refine seg_func ?_;refine zJ (Uq (zE (aMx (Fb (G.kind rfl) (by rw[G.dX];exact ns) (λyT Yn b1=>?_) hp)) rfl));rw[G.dX] at Yn b1;refine zJ (Uq (zE (X0 (Fb (G.kind rfl) (by rw[G.dX];exact Yn) (λnC JV b2=>?_) hp)) rfl));rw[G.dX] at JV b2;refine zJ (aGw (λ_=>rfl) ?_);refine zC (NP G.fn (G.kind rfl) (X4 (by rw[G.eH];exact Ns.jL (Ns.jL hg b1 Zh) b2 Zh) h1 (by rw[G.blt];exact Ns.jL (Ns.jL hb b1 Zi) b2 Zi) h2 ?_));refine aM9 rfl (NX (Et (Jt G rfl rfl JV (v:=.str x t) ?_ (AD ?_)) rfl))
 ·show(if("addr":aC)="escape" then _ else if("addr":aC)="pos" then _ else m "addr")=_
  rw[if_neg (by decide),if_neg (by decide)];exact ha
 have sz:=b2.1.trans b1.1;refine aNd λh3 he hi iF hk=>?_;refine AJ he λp=>?_;have e1:=sz;rw[e1] at he hi ⊢;have k3:∀b o,b≠L->s.heap.get? b=some o->h3.get? b=some o:=λb o hb e=>hk b o ((b2.2 b hb).trans ((b1.2 b hb).trans e))
 have gs:GS h3 L (s.heap.objs.size+1) s.heap.objs.size x t false 0 0 (λz=>if z="escape" then some (.bool false) else if z="pos" then some (.int 0 s.toks) else m z):=
  ⟨JV.keeps hk,if_pos rfl,⟨s.toks,rfl⟩,⟨_,he⟩,hi⟩
 refine aGx hh ?hf G (rO _) rfl rfl ?F0 x.cps.toList false 0 0 _ s _ gs ⟨λb o h1 _ _ e=>k3 b o h1 e,rfl,rfl⟩ rfl (iR _) rfl (by rw[Ξ];rfl)
 case hf=>exact λc=>hh
 intro iO i pv m' bZ s' c' Ym me mp lE q hd wB;refine seg_leaf _ ?_;refine zJ (EN (UO G Ym me ?_));cases iO with
 |true=>
  rw[if_pos rfl];obtain⟨a1,a2⟩:=CG wB;refine zJ (RC G rfl rfl rfl Ym mp (rO _) lE [] ?_ (λb hb=>nomatch hb) q rfl a1 (λQ' E0 r=>NM (r _ _)) λs2 MG h4'=>?_)
  ·rw[if_pos ⟨hd.symm,rfl⟩]
  ·exact Cb (Cb (seg_end (.ok (.ret .none)) ⟨rfl,rfl,.refl _ _ _ _,λ_ b o _ e=>e⟩))
 |false=>
  rw[if_neg Jh];exact Cb (Cb (seg_end (.ok (.ret .none)) ⟨rfl,rfl,q,λr=>by rw[r] at hd;cases hd⟩))
end
section
variable {prog:iS} {w:iI} {A:bM} {E:aD->aF->Prop} {s:aF}
theorem Uu{M:Model}{Q:aD->aF->Prop}(h:∀h' e,Ji s.heap h' e (.type "StopIteration") []->Q (.ref e) {s with heap:=h'}):aK M A (Tp (.type "StopIteration") []) Q E s:=by
 unfold Tp newTuple;refine aM (Fk ?_ (by size_fits));refine aM (mM (by first|rfl|(simp only[firstArgMember];rfl)) ?_);refine Fk (h _ _ ⟨λb o e=>eG _ (eG _ e),?_,_,gU _ rfl,bH.jN _,eG _ (gU _ rfl)⟩) (by size_fits);exact bH.get?_none_of_le (by simp)
theorem CE{h h':bH}(x:Ji h h' e c l):∃o,h'.get? e=some o/\o.cls=c:=by
 obtain⟨_,q,_⟩:=x.there;exact⟨_,q,rfl⟩
theorem aE4{a:aH}{g n:Nat}{gs:Ir}{P:Nat->aF->aF->Prop}{Y:OM}{Q:Option aD->aF->Prop}(hh:A.handled=none)
 (hl:s.heap.NoLimit) (aJ7:A.depth<Iu) (hg:s.heap.IsGen a g) (tI:s.gens[g]?=some gs)
 (Bk:gs.Goes (model prog w) A.in1 (λn bZ r aS=>r=.ok (.ret .none)/\P n bZ aS) Y n (.send .none) (s.setGen g .running))
 (hY:∀v aS nE,nE.bare=true->Y (n-1) (s.setGen g .running) v aS (λr' dF=>match n with
  |0=>False
  |m+1=>nE.Goes (model prog w) A.in1 (λn bZ r aS=>r=.ok (.ret .none)/\P n bZ aS) Y m r' dF)->Q (some v) (aS.setGen g nE))
 (hP:∀aS,P n (s.setGen g .running) aS->∀h',(∀b o,aS.heap.get? b=some o->h'.get? b=some o)->Q none {aS.setGen g .finished with heap:=h'}):
 aK (model prog w) A (mH (.ref a)) Q E s:=by
 unfold mH
 refine aM (Mz (zH hg.typeIs slot_gen_next
  (xB slot_gen_next hg.typeIs entry_gen_next ?_ (args_gen_next _))))
 show aK _ A.in1 (aN1 (.ref a) (.send .none)) _ _ s;unfold aN1;refine aM (mK (wpAny_genNumber hg (aM (wpAny_genState tI ?_))))
 have go:∀{α:Type} (k:GenResult->qP α) (Q':α->aF->Prop) (E':aD->aF->Prop) (l:List aD),(∀aS,P n (s.setGen g .running) aS->aK (model prog w) A.in1 (k (.returned .none)) Q' E' (aS.setGen g .finished))->
  (∀v aS nE,nE.bare=true->Y (n-1) (s.setGen g .running) v aS (λr' dF=>match n with
   |0=>False
   |m+1=>nE.Goes (model prog w) A.in1 (λn bZ r aS=>r=.ok (.ret .none)/\P n bZ aS) Y m r' dF)->aK (model prog w) A.in1 (k (.yielded v)) Q' E' (aS.setGen g nE))->
  aK (model prog w) A.in1 (.resume g (.send .none) l k) Q' E' s:=λk Q' E' l h1 h2=>
  wpAny_resumeQ tI Bk (λx aS hx=>by obtain⟨rfl,hp⟩:=hx;exact h1 aS hp) h2
 cases gs with
 |running=>exact Bk.elim
 |finished=>exact Bk.elim
 |_=>
  refine aM (wpAny_roomToWake hl aJ7 (go _ _ _ _ (λaS hp=>?_) λv aS nE hb hv=>bE ⟨v,rfl,bE (hY v aS nE hb hv)⟩));show aK _ A.in1 (Tp (.type "StopIteration") []>>=_) _ _ _;refine aM (Uu λh' e x=>aM (OP hh ?_));exact aM (Ψ (CE x) Ω (bE (hP aS hp _ x.keeps)))
end
section
variable {B:BD} {k:Nat} {A:bM} {bP:bJ} {a L E I:aH} {gi n:Nat} {fS:Bool} {all:List (Int×aC)} {l:List aH} {fp:Fp} {s aS s':aF} {g dZ:aT}
noncomputable def Cp(q:Int×aC):AV:=.cD [.int q.1,.str q.2]
theorem CZ{h':bH}(gk:GK L E I (aS.setGen gi .running) s')(hL:L∈fp.cB)(hE:∀b,b=E\/b=I->b∈fp.cB\/∀o,aS.heap.get? b=some o->s'.heap.get? b=some o)(hk:∀b o,s'.heap.get? b=some o->h'.get? b=some o):
 ∀b o,b∉fp.cB->aS.heap.get? b=some o->h'.get? b=some o:=by
 intro b o dJ e;refine hk b o ?_
 by_cases h1:b=E\/b=I
 ·rcases hE b h1 with q|q
  ·exact absurd q dJ
  ·exact q o e
 ·exact gk.keep b o (λq=>dJ (q▸hL)) (λq=>h1 (.inl q)) (λq=>h1 (.inr q)) e
theorem UJ(gk:GK L E I (aS.setGen gi .running) s')(hL:L∈fp.cB)(Rt:gi∈fp.gen)(hE:∀b,b=E\/b=I->b∈fp.cB\/∀o,aS.heap.get? b=some o->s'.heap.get? b=some o)(hb:nE.bare=true)
 (hk:∀b o,s'.heap.get? b=some o->h'.get? b=some o):eL B fp aS {s'.setGen gi nE with heap:=h'}:=by
 have eg:(s'.setGen gi nE).gens=(aS.gens.setIfInBounds gi .running).setIfInBounds gi nE:=by
  show s'.gens.setIfInBounds gi nE=_;rw[gk.gens];rfl
 have dD:∀i,i≠gi->(s'.setGen gi nE).gens[i]?=aS.gens[i]?:=λi hi=>by
  rw[eg,aN2 (gJ hi),aN2 (gJ hi)]
 refine⟨λb o dJ e=>.inl (CZ gk hL hE hk b o dJ e),λi x hi e=>(dD i λq=>hi (q▸Rt)).trans e,λba y hy=>?_,gk.os⟩
 ·obtain⟨i,hi,rfl⟩:=Array.mem_iff_getElem.mp hy
  have yQ:=ε hi
  by_cases q:i=gi
  ·obtain rfl:=q.symm
   have:(s'.setGen gi nE).gens[gi]?=some nE:=by
    have eV:=hi;rw[eg] at eV ⊢;rw[aN3 (by simpa using eV)]
   rw[this] at yQ;rw[<-AK yQ];exact hb
  ·have:=dD i q
   rw[yQ] at this;exact ba _ (Array.mem_of_getElem? this.symm)
structure Ah(B:BD)(A:bM)(a:aH)(gi:Nat)(fS:Bool)(all:List (Int×aC))(L E I:aH)(mm:Nat)(l:List aH)(s:aF):Prop where
 obj:s.heap.IsGen a gi
 ns:∃m,s.heap.Ns L m
 live:∀b∈l,∃o,s.heap.get? b=some o/\eD o
 sub:l=if fS=true/\mm=0 then [] else [E,I]
 apart:a≠L/\a≠E/\a≠I
 st:∃gs,s.gens[gi]?=some gs/\∀dF,(∀m,s.heap.Ns L m->dF.heap.Ns L m)->(∀b∈l,dF.heap.get? b=s.heap.get? b)->gs.Goes (aW B) A.in1 (zW fS L E I) (zS fS all L E I) mm (.send .none) dF
theorem IsGen.cM{h:bH}(x:h.IsGen a gi):∃o,h.get? a=some o/\eD o:=by obtain⟨o,_,_,h1,h2,h3,_⟩:=x;exact⟨o,h1,jX h2 (by rw[h3];nofun)⟩
theorem IsGen.same{h h':bH}(x:h.IsGen a gi)(e:h'.get? a=h.get? a):h'.IsGen a gi:=by obtain⟨o,u,v,h1,r⟩:=x;exact⟨o,u,v,e.trans h1,r⟩
theorem UI{gs:Ir}(R:dS B k A aS.heap)(G:bI B dZ aS.heap)(own:pA B fp dZ)(ha:a∈fp.cB)(hL:L∈fp.cB)(Rt:gi∈fp.gen)(hE:∀b,b=E\/b=I->b∈fp.cB\/aS.heap.get? b=none\/(fS=true/\n=0))(Eh:∀b,b=E\/b=I->B.base.get? b=none)(ap:a≠L/\a≠E/\a≠I)(Ao:aS.heap.IsGen a gi)(hLl:∃o,aS.heap.get? L=some o)
 (tI:aS.gens[gi]?=some gs) (Bk:gs.Goes (aW B) A.in1 (zW fS L E I) (zS fS all L E I) n (.send .none) (aS.setGen gi .running)) {Q:Option aD->aF->Prop} {E0:aD->aF->Prop}
 (h0:n=0->∀bN,eL B fp aS bN->bI B dZ bN.heap->Q none bN)
 (hS:∀m,n=m+1->∀T p y l bN fV,all[all.length-1-m]?=some (p,y)->eL B fp aS bN->fU aS.heap dZ fV->bI B fV bN.heap->pA B ⟨a::L::l,[gi]⟩ fV->Hm fp ⟨a::L::l,[gi]⟩ aS->VR B fV (.ref T) (Cp (p,y))->Ah B A a gi fS all L E I m l bN->Q (some (.ref T)) bN):
 aK (aW B) A (mH (.ref a)) Q E0 aS:=by
 refine aE4 R.handled (G.le.nolimit B.nolimit) R.YI Ao tI Bk (λv s' nE hb hy=>?_) λs' hp h' hk=>?_
 ·cases n with
  |zero=>
   obtain⟨p,y,u,w',T,rfl,_,_,_,_,_,_,l,_,_,hk⟩:=hy;exact(hk s' (λ_ q=>q) (λ_ _=>rfl)).elim
  |succ m=>
   obtain⟨p,y,u,w',T,rfl,rK,Ii,hT,gk,MA,rJ,l,hl,ZP,aLx⟩:=hy
   have Zj:∀b,b=E\/b=I->b∈fp.cB\/aS.heap.get? b=none:=λb dJ=>by
    rcases hE b dJ with q|q|q
    ·exact .inl q
    ·exact .inr q
    ·exact absurd q.2 (Nat.succ_ne_zero _)
   have kb:eL B fp aS (s'.setGen gi nE):=UJ gk hL Rt (λb dJ=>(Zj b dJ).imp id λq o e=>by cases (q.symm.trans e)) hb λ_ _ e=>e
   have Xe:∀b∈l,b=E\/b=I:=λb dJ=>by
    rw[hl] at dJ
    split at dJ
    ·cases dJ
    ·simpa using dJ
   have Ii:aS.heap.get? T=none:=Ii;have fT:=G.fresh Ii;have G1:=G.uR (CZ gk hL (λb dJ=>(Zj b dJ).imp id λq o e=>by cases (q.symm.trans e)) λ_ _ e=>e) own.dM own.new;have px:=fU.eF (gA #[.int p u,.str y w'] 0) fT Ii
   have aLf:(s'.setGen gi nE).heap.IsGen a gi:=by
    obtain⟨o,u',v',h1,r⟩:=Ao;exact⟨o,u',v',gk.keep a o ap.1 ap.2.1 ap.2.2 h1,r⟩
   refine hS m rfl T p y l _ _ rK kb px (G1.eF fT hT Gf) ⟨λb dJ=>?_,λb dJ=>?_⟩ ⟨λb dJ=>?_,λi hi=>?_⟩ (.cD (aT.jY _ _ _) (.cons (.int _ _) (.cons (.str _ _) .nil))) ⟨aLf,rJ,ZP,hl,ap,nE,?_,λdF h1 h2=>aLx dF h1 h2⟩
   ·show(if b=T then _ else dZ b)=none
    have LY:b≠T:=by
     intro q0;rcases cE.mp dJ with e0|dJ
     ·obtain⟨o,e,_⟩:=IsGen.cM Ao
      rw[<-e0,q0,Ii] at e;cases e
     ·rcases cE.mp dJ with e0|dJ
      ·obtain⟨o,e⟩:=hLl
       rw[<-e0,q0,Ii] at e;cases e
      ·rcases Xe _ dJ with q|q
       ·exact MA.1 (q0.symm.trans q)
       ·exact MA.2 (q0.symm.trans q)
    rw[if_neg LY];rcases cE.mp dJ with e0|dJ
    ·exact e0▸own.dM _ ha
    ·rcases cE.mp dJ with e0|dJ
     ·exact e0▸own.dM _ hL
     ·rcases Zj b (Xe b dJ) with q|q
      ·exact own.dM _ q
      ·exact G.fresh q
   ·rcases cE.mp dJ with e0|dJ
    ·exact e0▸own.new _ ha
    ·rcases cE.mp dJ with e0|dJ
     ·exact e0▸own.new _ hL
     ·exact Eh b (Xe b dJ)
   ·rcases cE.mp dJ with e0|dJ
    ·exact .inl (e0▸ha)
    ·rcases cE.mp dJ with e0|dJ
     ·exact .inl (e0▸hL)
     ·exact Zj b (Xe b dJ)
   ·rw[cW.mp hi];exact .inl Rt
   ·show(s'.gens.setIfInBounds gi nE)[gi]?=_
    have:gi<s'.gens.size:=by
     rw[gk.gens];show gi<(aS.gens.setIfInBounds gi .running).size;rw[Array.size_setIfInBounds];exact(Jf.mp tI).1
    rw[aN3 this]
 ·obtain⟨hn,gk,hd⟩:=hp
  have R5:∀b,b=E\/b=I->b∈fp.cB\/∀o,aS.heap.get? b=some o->s'.heap.get? b=some o:=λb dJ=>by
   rcases hE b dJ with q|q|q
   ·exact .inl q
   ·exact .inr λo e=>by cases (q.symm.trans e)
   ·by_cases Ze:b=L
    ·exact .inl (Ze▸hL)
    ·exact .inr λo e=>hd q.1 b o Ze e
  exact h0 hn _ (UJ gk hL Rt R5 rfl hk) (G.uR (CZ gk hL R5 hk) own.dM own.new)
theorem sZ.ns(x:sZ h h' b)(n:h.Ns b m):h'.Ns b m:=by
 obtain⟨o,es,ep,e,hd,hs,hm⟩:=n;rcases x o e with q|⟨o',q,fs,fp,Mf,iN,e1,e2,e3⟩
 ·exact⟨o,es,ep,q,hd,hs,hm⟩
 ·cases (hd.symm.trans e1)
  obtain⟨c,d⟩:=e3 hs;exact⟨o',Mf,iN,q,e2,c,λz=>(d z).trans (hm z)⟩
theorem RW(hg:s.heap.IsGen a gi)(h:Q' () s):aK (aW B) A (tR bP (.ref a) v) Q' E0 s:=by
 obtain⟨o,nm,qn,ho,hc,hd,_⟩:=hg;refine UA h ?_;cases v with
 |ref b=>
  refine aM (Ez ho ?_);rw[hc,hd];exact bE h
 |_=>exact bE h
theorem VW{h:bH}{b:aH}{m:aC->Option aD}(n:h.Ns b m):∃o,h.get? b=some o/\Xu o:=by obtain⟨o,es,ep,e,hd,_⟩:=n;exact⟨o,e,.inr ⟨es,ep,hd⟩⟩
theorem SP(hm:m+1<=all.length):∃q,all[all.length-1-m]?=some q/\all.drop (all.length-(m+1))=q::all.drop (all.length-m):=by
 have hM:all.length-1-m<all.length:=bV (aG [_,_,_,_] [.e (.u .x) .y,.e (.a .z .w) .x,.l .y .z] rfl (bC (qQ hm)) (bC (aV (aG [_,_,_] [.l (.u .x) .y,.f (.u .z) .y,.l (.u .z) .x] rfl hm (bC (qQ hm))))));refine⟨all[all.length-1-m],oO hM,?_⟩;have e1:all.length-(m+1)=all.length-1-m:=eQ (aG [_,_,_,_,_] [.e (.u .x) .y,.f (.a .z (.u .w)) .y,.e (.a .p .w) .x,.l (.u .z) .p] rfl (bC (qQ hM)) (bC (hm)) (bC (aV (aG [_,_,_] [.l (.u .x) .y,.f (.u .z) .y,.l (.u .z) .x] rfl hm (bC (qQ hM)))))) (aG [_,_,_,_,_] [.f (.u .x) .y,.e (.a .z (.u .w)) .y,.f (.a .p .w) .x,.l (.u .p) .z] rfl (bC (qQ hM)) (bC (hm)) (bC (aV (aG [_,_,_] [.l (.u .x) .y,.f (.u .z) .y,.l (.u .z) .x] rfl hm (bC (qQ hM))))));rw[e1,Z9 hM];congr 2;exact eQ (aG [_,_,_,_,_] [.f (.u .x) .y,.e (.a .z .w) .y,.f (.a .p .w) .x,.l (.u (.u .p)) .z] rfl (bC (aV (aG [_,_,_] [.l (.u .x) .y,.e .z .x,.l (.u .y) .i] rfl hM e1))) (bC (eO hm)) (bC (aV (aG [_,_,_] [.l (.u .x) .y,.f (.u .z) .y,.l (.u .z) .x] rfl hm (bC (aV (aG [_,_,_] [.l (.u .x) .y,.e .z .x,.l (.u .y) .i] rfl hM e1))))))) (aG [_,_,_,_,_] [.f .x .y,.f (.a .z .w) .p,.e (.a .x (.u .w)) .p,.l (.u .z) (.u .y)] rfl e1 (bC (eO hm)) (bC (hm)))
theorem Ah.alive(W:Ah B A a gi fS all L E I m l s):lV ⟨a::L::l,[gi]⟩ s:=by
 refine⟨λb hb=>?_,λi hi=>?_⟩
 ·rcases cE.mp hb with rfl|hb
  ·obtain⟨o,e,h⟩:=IsGen.cM W.obj;exact⟨o,e,.inl h⟩
  ·rcases cE.mp hb with rfl|hb
   ·obtain⟨m,n⟩:=W.ns;exact VW n
   ·obtain⟨o,e,h⟩:=W.live b hb;exact⟨o,e,.inl h⟩
 ·rw[cW.mp hi]
  obtain⟨gs,e,_⟩:=W.st;exact⟨gs,e⟩
theorem Ah.next{m:Nat}(W:Ah B A a gi fS all L E I m l s)(Eh:∀b,b=E\/b=I->B.base.get? b=none)(R:dS B k A aS.heap)(G:bI B dZ aS.heap)(same:iX ⟨a::L::l,[gi]⟩ s aS)(own:pA B ⟨a::L::l,[gi]⟩ dZ)
 {Q:Option aD->aF->Prop} {E0:aD->aF->Prop} (h0:m=0->∀bN,eL B ⟨a::L::l,[gi]⟩ aS bN->bI B dZ bN.heap->Q none bN)
 (hS:∀m',m=m'+1->∀T p y l' bN fV,all[all.length-1-m']?=some (p,y)->eL B ⟨a::L::l,[gi]⟩ aS bN->fU aS.heap dZ fV->bI B fV bN.heap->pA B ⟨a::L::l',[gi]⟩ fV->Hm ⟨a::L::l,[gi]⟩ ⟨a::L::l',[gi]⟩ aS->VR B fV (.ref T) (Cp (p,y))->Ah B A a gi fS all L E I m' l' bN->Q (some (.ref T)) bN):
 aK (aW B) A (mH (.ref a)) Q E0 aS:=by
 obtain⟨gs,tI,Bk⟩:=W.st;refine UI R G own (.head _) (.tail _ (.head _)) (.head _) (λb hb=>?_) Eh W.apart (IsGen.same W.obj (same.at (.head _) (IsGen.cM W.obj))) ?_ ((same.2 gi (.head _)).trans tI) (Bk _ (λm n=>sZ.ns (same.1 L (.tail _ (.head _))) n) λb hb=>same.at (.tail _ (.tail _ hb)) (W.live b hb)) h0 hS
 ·rw[Ah.sub W]
  by_cases q:fS=true/\m=0
  ·exact .inr (.inr q)
  ·rw[if_neg q]
   rcases hb with rfl|rfl
   ·exact .inl (by simp)
   ·exact .inl (by simp)
 ·obtain⟨m0,n⟩:=W.ns
  obtain⟨o,_,_,e,_⟩:=sZ.ns (same.1 L (.tail _ (.head _))) n;exact⟨o,e⟩
theorem gB.aL6(Eh:∀b,b=E\/b=I->B.base.get? b=none):∀(m:Nat) {g:aT} {s:aF} {l:List aH},m<=all.length->Ah B A a gi fS all L E I m l s->gB B k A bP (.ref a) ⟨a::L::l,[gi]⟩ ((all.drop (all.length-m)).map Cp) g s:=by
 intro m;induction m with
 |zero=>
  intro g s l hm W;have:all.drop (all.length-0)=[]:=by simp
  rw[this];refine⟨W.alive,λdZ aS Q E0 R G sub same own K=>W.next Eh R G same own (λ_ bN kb kG=>K bN kb kG) λm' e=>by cases e⟩
 |succ m ih=>
  intro g s l hm W;obtain⟨q,e1,e2⟩:=SP hm;rw[e2,nU];refine⟨W.alive,λdZ aS Q E0 R G sub same own K=>W.next Eh R G same own (λe=>by cases e) ?_⟩;intro m' e T p y l' bN fV ha kb px G2 HI fu vr W2;cases e;cases (e1.symm.trans ha);exact⟨_,rfl,RW W2.obj (K _ bN fV _ fu kb px G2 HI vr (ih (eO hm) W2))⟩
theorem gB.aL7{aA:bO}{x:aC}{t:jB}{m:aC->Option aD}(hB:B.mg "enumerate"=none)(G:rH aA L)(haL:a≠L)(Zh:jU≠L)(Zi:qM≠L)(Ao:s.heap.IsGen a gi)(tI:s.gens[gi]?=some (.fresh (.func (cH 16) aA)))(ns:s.heap.Ns L m)(hx:m "addr"=some (.str x t)):
 gB B k A bP (.ref a) ⟨[a,L],[gi]⟩ ((mO x).map Cp) g s:=by
 have live:lV ⟨[a,L],[gi]⟩ s:=by
  refine⟨λb hb=>?_,λi hi=>?_⟩
  ·rcases cE.mp hb with rfl|hb
   ·obtain⟨o,e,h⟩:=IsGen.cM Ao;exact⟨o,e,.inl h⟩
   ·rw[cW.mp hb];exact VW ns
  ·rw[cW.mp hi];exact⟨_,tI⟩
 have step:∀(dZ:aT) (aS:aF) (Q:Option aD->aF->Prop) (E0:aD->aF->Prop),dS B k A aS.heap->bI B dZ aS.heap->iX ⟨[a,L],[gi]⟩ s aS->pA B ⟨[a,L],[gi]⟩ dZ->
  ((mO x).length=0->∀bN,eL B ⟨[a,L],[gi]⟩ aS bN->bI B dZ bN.heap->Q none bN)->
  (∀m',(mO x).length=m'+1->∀T p y l' bN fV E I,(mO x)[(mO x).length-1-m']?=some (p,y)->eL B ⟨[a,L],[gi]⟩ aS bN->fU aS.heap dZ fV->bI B fV bN.heap->pA B ⟨a::L::l',[gi]⟩ fV->Hm ⟨[a,L],[gi]⟩ ⟨a::L::l',[gi]⟩ aS->VR B fV (.ref T) (Cp (p,y))->(∀b,b=E\/b=I->B.base.get? b=none)->Ah B A a gi (Vk x) (mO x) L E I m' l' bN->Q (some (.ref T)) bN)->
  aK (aW B) A (mH (.ref a)) Q E0 aS:=by
  intro dZ aS Q E0 R G1 same own h0 hS;have n1:=sZ.ns (same.1 L (.tail _ (.head _))) ns
  have fr:∀b,b=aS.heap.objs.size+1\/b=aS.heap.objs.size->aS.heap.get? b=none:=λb hb=>by
   cases q:aS.heap.get? b with
   |none=>rfl
   |some o=>
    have:=gS q;rcases hb with rfl|rfl
    ·exact absurd this (pH.mpr (Iy _))
    ·exact absurd this (sR _)
  have ZN:=IsGen.same Ao (same.at (.head _) (IsGen.cM Ao))
  have M4:∀b,(b=aS.heap.objs.size+1\/b=aS.heap.objs.size)->a≠b:=λb hb q=>by
   obtain⟨o,e,_⟩:=IsGen.cM ZN;rw[q,fr b hb] at e;cases e
  refine UI (fS:=Vk x) (all:=mO x) (E:=aS.heap.objs.size+1) (I:=aS.heap.objs.size) (n:=(mO x).length) R G1 own (.head _) (.tail _ (.head _)) (.head _) (λb hb=>.inr (.inl (fr b hb))) (λb hb=>G1.uB (fr b hb)) ⟨haL,M4 _ (.inl rfl),M4 _ (.inr rfl)⟩ ZN ?_ ((same.2 gi (.head _)).trans tI) ⟨rfl,?_⟩ h0 (λm' e T p y l' bN fV h1 h2 h3 h4 h5 h6 h7 h8=>hS m' e T p y l' bN fV _ _ h1 h2 h3 h4 h5 h6 h7 (λb hb=>G1.uB (fr b hb)) h8)
  ·obtain⟨o,_,_,e,_⟩:=n1
   exact⟨o,e⟩
  ·have Yn:(aS.setGen gi .running).heap.Ns L m:=n1
   exact aA5 (s:=aS.setGen gi .running) (R.handled) G Yn hx (G1.le.ns B.ns) (G1.le.ns B.bi) hB ((B.bt _ (by decide)).trans rfl) Zh Zi rfl
 cases wB:mO x with
 |nil=>
  refine⟨live,λdZ aS Q E0 R G1 sub same own K=>step dZ aS Q E0 R G1 same own (λ_ bN kb kG=>K bN kb kG) λm' e=>by rw[wB] at e;cases e⟩
 |cons q r=>
  refine⟨live,λdZ aS Q E0 R G1 sub same own K=>step dZ aS _ E0 R G1 same own (λe=>by rw[wB] at e;cases e) ?_⟩;intro m' e T p y l' bN fV E I ha kb px G2 HI fu vr Eh W2;have em:m'=r.length:=by rw[wB] at e;simpa using e.symm
  subst em;obtain⟨q',e1,e2⟩:=SP (by rw[e];exact dH _);cases (e1.symm.trans ha);have e3:(mO x).drop ((mO x).length-(r.length+1))=q::r:=by rw[e,Ξ,List.drop_zero,wB]
  rw[e2] at e3;obtain⟨e4,e5⟩:=X7 e3;have I1:=gB.aL6 (k:=k) (bP:=bP) (g:=fV) Eh _ (by rw[e];exact Iy _) W2;rw[e5] at I1;subst e4;exact⟨_,rfl,RW W2.obj (K _ bN fV _ fu kb px G2 HI vr I1)⟩
end
section
variable {B:BD} {k:Nat} {sc:bR} {vars:aU}
structure De(B:BD)(x:aC)(fd:mF)(a:aH):Prop where
 nm:B.mg x=some (.ref a)
 obj:∃o,B.base.get? a=some o/\o.data=.func fd/\o.cls≠.none
 body:fd.body=.stmts (cH 16)
 sH:∃c o vs t,fd.code=.ref c/\B.base.get? c=some o/\o.data=.fields vs/\vs[1]?=some (.str fd.qualname t)/\o.cls≠.none
 co:fd.scope.isCoroutine=false
 gen:fd.scope.isGenerator=true
 sc:fd.scope=bQ 16
 eH:fd.globals=jU
 blt:fd.builtins=qM
 iP:fd.closure=[]
 bind:∀s v,iU s fd ⟨[v],[]⟩ [("addr",v)]
theorem cR.gen(hk:sc.names.lookup f=some .globalImplicit)(hd:(f==("__debug__":aC))=false)(go:De B f fd a)(hB:B.mg "enumerate"=none)(hn:eR [e]=true)(h:aB B k sc vars e (.str x)):
 cR B k sc vars bP (.Call (.Name f p) [e] [] pos) ((mO x).map Cp):=by
 intro A aA g s Q E P K;obtain⟨o,h1,h2,h3⟩:=go.obj;have hh:eD o:=⟨.inl h3,by rw[h2];nofun⟩
 refine zC (Cj hk go.nm hd P ?_);refine Nx P ⟨a,o,fd,rfl,P.ok.le.cM h1 hh,h2,hh⟩ hn (.c h.ar .nil hn) .nil λvs us s' g' X bF oY=>?_;obtain⟨v,rfl,hv⟩:=bF.bU;obtain⟨t,rfl⟩:=VR.bB hv;have R:=P.room.mono X.keep.le;have lim:=X.ok.le.nolimit B.nolimit;refine xD ?_;have rc:s'.heap.CodeRec fd.code fd.qualname:=by obtain⟨c,o,vs,t,h1,h2,h3,h4,h5⟩:=go.sH;exact⟨c,o,vs,t,h1,X.ok.le.cM h2 ⟨.inl h5,by rw[h3];nofun⟩,h3,h4⟩
 refine codeAny_call_generator R.YI (X.ok.le.cM h1 hh) h2 go.co go.gen go.body rc ?_;refine go.bind _ _ _ _ _ _ ?_;refine Nl λHk jJ=>?_;have hL:Hk.locals=s'.heap.objs.size:=by rw[jJ];rfl
 have G':rH Hk s'.heap.objs.size:=⟨hL,by rw[jJ];exact go.sc,by rw[jJ];exact go.eH,by rw[jJ];exact go.blt⟩
 have pc:∀hp:bH,qA hp fd.scope.names=hp:=λhp=>by rw[go.sc];rfl
 rw[pc];simp only[OL,Fj,if_false,zI,Ja];have hp:(Hk.scope.kind==.class||(Hk.scope.kind==.module&&Hk.locals !=Hk.globals))=false:=by rw[G'.fn];rfl
 have n0:=AU s'.heap (.type "frame");refine aM (aM (Fb (G'.kind rfl) (by rw[hL];exact n0) (λnC n2 b2=>bE ?_) hp));rw[hL] at n2 b2;have ZI:∀b o,s'.heap.get? b=some o->nC.get? b=some o:=λb o e=>(b2.2 b (λq=>by rw[q,bH.jN] at e;cases e)).trans (eG _ e);refine bE ⟨(Le.vJ (base:=B.base) ZI).nolimit lim,?_⟩;have nL:s'.heap.get? s'.heap.objs.size=none:=bH.jN _;have zZ:∀b o,s'.heap.get? b=some o->(nC.push {cls:=.type "generator",data:=.fields #[.int s'.gens.size 0,.str fd.name (s'.toks+1),.str fd.qualname (s'.toks+1+1)]}).get? b=some o:=λb o e=>eG _ (ZI b o e);have obj:(nC.push {cls:=.type "generator",data:=.fields #[.int s'.gens.size 0,.str fd.name (s'.toks+1),.str fd.qualname (s'.toks+1+1)]}).IsGen nC.objs.size s'.gens.size:=⟨_,_,_,gU _ rfl,rfl,rfl,rfl⟩
 have sz:nC.objs.size=s'.heap.objs.size+1:=by
  rw[b2.1];show(s'.heap.push _).objs.size=_;rw[tT]
 have nT:s'.heap.get? nC.objs.size=none:=by
  cases q:s'.heap.get? nC.objs.size with
  |none=>rfl
  |some o=>
   have:=gS q;rw[sz] at this;exact absurd this (pH.mpr (Iy _))
 have lL:∃o,nC.get? s'.heap.objs.size=some o:=by obtain⟨o,_,_,e,_⟩:=n2;exact⟨o,e⟩
 have dD:nC.objs.size≠s'.heap.objs.size:=by rw[sz];exact Mr _
 refine wpAny_pyIter_gen obj ?_
 have Z:bT B s' g' {s' with heap:=nC.push {cls:=.type "generator",data:=.fields #[.int s'.gens.size 0,.str fd.name (s'.toks+1),.str fd.qualname (s'.toks+1+1)]},gens:=s'.gens.push (.fresh (.func (cH 16) Hk)),toks:=s'.toks+1+1+1} g':=
  .of X.ok ⟨.vJ zZ,⟨λi y e=>by
   have hi:=(Jf.mp e).1;show(s'.gens.push _)[i]?=_
   rw[Array.getElem?_push_lt hi,<-ε hi];exact e,λba=>ba.push rfl⟩,rfl⟩ λb _=>zZ b
 have KY:jU≠s'.heap.objs.size:=λq=>by
  obtain⟨o,_,_,e,_⟩:=X.ok.le.ns B.ns;rw[q,nL] at e;cases e
 have hmb:qM≠s'.heap.objs.size:=λq=>by
  obtain⟨o,_,_,e,_⟩:=X.ok.le.ns B.bi;rw[q,nL] at e;cases e
 refine K _ ⟨[nC.objs.size,s'.heap.objs.size],[s'.gens.size]⟩ _ g' (X.trans Z) ⟨⟨λb hb=>?_,λb hb=>?_⟩,λb hb=>?_,λi hi=>?_⟩ (gB.aL7 hB G' dD KY hmb obj ?_ (n2.keeps λb o e=>eG _ e) (if_pos rfl)) ?_
 ·rcases cE.mp hb with rfl|hb
  ·exact X.ok.fresh nT
  ·rw[cW.mp hb];exact X.ok.fresh nL
 ·rcases cE.mp hb with rfl|hb
  ·exact X.ok.uB nT
  ·rw[cW.mp hb];exact X.ok.uB nL
 ·rcases cE.mp hb with rfl|hb
  ·exact⟨X.keep.le.none nT,_,gU _ rfl⟩
  ·rw[cW.mp hb]
   obtain⟨o,e⟩:=lL;exact⟨X.keep.le.none nL,o,eG _ e⟩
 ·rw[cW.mp hi]
  refine⟨?_,_,aN4⟩;cases q:s.gens[s'.gens.size]? with
  |none=>rfl
  |some y=>
   have:=X.keep.gens.keep _ _ q;have:=(Jf.mp this).1;exact absurd this (sR _)
 ·exact aN4
 ·intro A aS Q E same q
  exact wpAny_pyIter_gen (IsGen.same obj (same.at (.head _) (IsGen.cM obj))) q
end
section
variable {B:BD} {k:Nat} {sc:bR} {vars:aU}
theorem aB.vO{o:bJ}{name:aC}{ap cp:dI}{e:bJ}{es:List bJ}{id:String}{x:aC}{rs:List LV}{r:AV}(hb:∀aA,wY o name aA (eval o aA)=eval o aA)(hn:eR (e::es)=true)(hl:(e::es).length<30)(pP:(ap.endLine==cp.line)=true)
 (slot:Slot "str" name id) (Hz:vF (.builtin id)=pure (.type "method_descriptor")) (ho:aB B k sc vars o (.str x)) (ha:aZ B k sc vars (e::es) rs) (hc:cJ B k (.builtin id) (.val (.str x)::rs) r):
 aB B k sc vars (.Call (.Attribute o name ap) (e::es) [] cp) r:=by
 intro A aA g s Q E P K;refine CV hb hn hl pP aN5 slot Hz (ho A aA g s _ E P λv s' g' X hv=>?_);obtain⟨t,rfl⟩:=VR.bB hv;refine⟨OQ s' x t,(λa q=>nomatch q),ha A aA g' s' cp _ E (P.post X) λvs dF eP Y bF=>?_⟩;exact hc A eP dF _ Q E ((P.room.mono X.keep.le).mono Y.keep.le) Y.ok (.cons (.str x t) bF) λv s3 g3 Z hv=>K v s3 g3 ((X.trans Y).trans Z) hv
noncomputable def cK(l:List aC):List AV:=l.map .str
theorem qC(l:List aC):(cK l).length=l.length:=by simp[cK]
theorem bD.strs:∀{l:List aC} {vs:List aD},bD B g vs (cK l)->StrsAre vs l:=by
 intro l;induction l with
 |nil=>
  intro _ h;obtain rfl:=bD.bB h;exact .nil
 |cons x l ih=>
  intro _ h;obtain⟨_,_,rfl,a,r⟩:=bD.bB h;obtain⟨_,rfl⟩:=VR.bB a;exact .cons _ _ (ih r)
theorem cJ.FU(h:eY lv (cK l))(hs:I8.length<=64)(hz:(l.map (·.length)).sum+l.length*64<=16777216):cJ B k (.builtin "str.join") [.val (.str I8),lv] (.str (Fo I8 l)):=by
 intro A g s vs Q E R G bF K;obtain⟨v,u,rfl,hv,hu⟩:=bF.kE;obtain⟨t,rfl⟩:=VR.bB hv;obtain⟨a,us,n,rfl,ha,hr⟩:=h.oQ G hu;exact join_listC ⟨_,ha,rfl,n,rfl⟩ hr.strs hs hz λt' k=>K _ _ _ (.toks G) (.str _ _)
theorem cJ.XD:cJ B k (.builtin "str.startswith") [.val (.str x),.val (.str y)] (.bool (Cc x y)):=by
 intro A g s vs Q E R G bF K;obtain⟨v,u,rfl,hv,hu⟩:=bF.kE;obtain⟨_,rfl⟩:=VR.bB hv;obtain⟨_,rfl⟩:=VR.bB hu;exact SC.startswith (K _ _ _ (.refl G) (.bool _))
theorem cJ.oS:cJ B k (.builtin "str.endswith") [.val (.str x),.val (.str y)] (.bool (tZ x y)):=by
 intro A g s vs Q E R G bF K;obtain⟨v,u,rfl,hv,hu⟩:=bF.kE;obtain⟨_,rfl⟩:=VR.bB hv;obtain⟨_,rfl⟩:=VR.bB hu;exact SC.endswith (K _ _ _ (.refl G) (.bool _))
theorem cJ.XE{x y:aC}{i:Nat}{eS:List Nat}(ho:Fq x y 0 x.length 1=i::eS):cJ B k (.builtin "str.index") [.val (.str x),.val (.str y)] (.int i):=by
 intro A g s vs Q E R G bF K;obtain⟨v,u,rfl,hv,hu⟩:=bF.kE;obtain⟨_,rfl⟩:=VR.bB hv;obtain⟨_,rfl⟩:=VR.bB hu;exact SC.index ho (K _ _ _ (.toks G) (.int _ _))
set_option tactic.hygienic true in
theorem cJ.aGs(ho:aN6 x y 0 x.length=some i):cJ B k (.builtin "str.rindex") [.val (.str x),.val (.str y)] (.int i):=by
 intro A g s vs Q E R G bF K;obtain⟨v,u,rfl,hv,hu⟩:=bF.kE;obtain⟨_,rfl⟩:=VR.bB hv;obtain⟨_,rfl⟩:=VR.bB hu
 rename_i t u
 exact call_gives F.slot_str_rindex (OQ _ _ _) F.entry_str_rindex (F.args_str_rindex_2 _ _) (gives_str_rindex x y t u i ho) (K _ _ _ (.toks G) (.int _ _))
noncomputable def Gu(x y:aC)(i j:Nat):Int:=match Fq x y i (min j x.length) 1 with|k::_=>(k:Int)|[]=> -1
theorem aBa(x y:aC)(i j:Nat)(t u v w:jB):Gives (kR.«str.find» ⟨[.str x t,.str y u,.int i v,.int j w],[]⟩) (.int (Gu x y i j)):=by
 show Gives (match Fq x y (OR x.length i) (min (OR x.length j) x.length) 1 with|k::_=>retInt k|[]=>(do rule "str.find.not-found";retInt (-1))) _
 have e:∀n:Nat,OR x.length n=n:=λn=>by
  unfold OR;rw[if_neg (by exact cG [_] [] [.l (.u (.c .x)) .o] rfl)];rw[W7 (jM _),rN]
 rw[e,e];unfold Gu;cases Fq x y i (min j x.length) 1 with
 |nil=>exact .rule (.of_eq rfl)
 |cons k _=>exact .of_eq rfl
set_option tactic.hygienic true in
theorem cJ.Gu{x y:aC}{i j:Int}{a b:Nat}(hi:i=a)(hj:j=b):cJ B k (.builtin "str.find") [.val (.str x),.val (.str y),.val (.int i),.val (.int j)] (.int (Gu x y a b)):=by
 intro A g s vs Q E R G bF K;subst hi;subst hj;cases bF with
 |cons hv bF=>
  obtain⟨v2,v3,v4,rfl,h2,h3,h4⟩:=bF.Kf;obtain⟨_,rfl⟩:=VR.bB hv;obtain⟨_,rfl⟩:=VR.bB h2;obtain⟨_,rfl⟩:=VR.bB h3;obtain⟨_,rfl⟩:=VR.bB h4
  rename_i t u v w
  exact call_gives F.slot_str_find (OQ _ _ _) F.entry_str_find (F.args_str_find_4 _ _ _ _) (aBa x y a b t u v w) (K _ _ _ (.toks G) (.int _ _))
theorem eA.split(hb:∀aA,wY o "split" aA (eval o aA)=eval o aA)(hn:eR [e]=true)(pP:(ap.endLine==cp.line)=true)
 (ho:aB B k sc vars o (.str x)) (he:aB B k sc vars e (.str y)) (hy:(y.length==0)=false) (hz:x.length+2<=eJ):eA B k sc vars (.Call (.Attribute o "split" ap) [e] [] cp) (.own (cK (uA x y))):=by
 intro A aA g s Q E P K;refine CV hb hn (by simp) pP aN5 PySem.F.slot_str_split PySem.F.type_str_split (ho A aA g s _ E P λv s' g' X hv=>?_);obtain⟨t,rfl⟩:=VR.bB hv;refine⟨OQ s' x t,(λa q=>nomatch q),aZ.c he.ar .nil hn A aA g' s' cp _ E (P.post X) λvs s2 g2 Y bF=>?_⟩;obtain⟨v,rfl,hv⟩:=bF.bU;have R:=(P.room.mono X.keep.le).mono Y.keep.le;obtain⟨L,m,Ze,Ic⟩:=R.ns;obtain⟨u,rfl⟩:=VR.bB hv;refine splitN1A (DV Ic) CQ hy (λl h' tk hl hs _ _ F N=>?_) hz;have le:=DU (more:=[_]) Ze Ic F N;have hD:s2.heap.get? s2.heap.objs.size=none:=bH.jN _;have Z:bT B s2 g2 {s2 with heap:=h',toks:=tk} g2:=.of Y.ok ⟨le,.refl _,rfl⟩ λb hb o e=>CL (more:=[_]) Ic N e (Y.ok.kK b hb);refine K _ s2.heap.objs.size _ g2 ((X.trans Y).trans Z) ⟨rfl,Y.ok.fresh hD,(X.keep.trans Y.keep).le.none hD,(strValues l).toArray,0,(N _ (.head _)).1,?_⟩;rw[<-hl]
 have:∀l:List (aC×jB),bD B g2 (strValues l) (cK (l.map (·.1))):=λl=>by
  induction l with
  |nil=>exact .nil
  |cons p l ih=>exact .cons (.str _ _) ih
 simpa using this l
end
section
variable {B:BD} {k:Nat} {sc:bR} {vars:aU}
def kA(B:BD)(i:Nat)(x:aC)(ps:List aC):Prop:=∃fd a,kI B x fd (cH i) a/\fd.scope=bQ i/\∀s vs,vs.length=ps.length->iU s fd ⟨vs,[]⟩ (ps.zip vs)
noncomputable def Gz:List aC->List aD->List LV->List iB
 |p::ps,v::vs,l::ls=>⟨p,v,0,l⟩::Gz ps vs ls
 |_,_,_=>[]
theorem WX:Gz (p::ps) (v::vs) (l::ls)=⟨p,v,0,l⟩::Gz ps vs ls:=rfl
theorem VH:∀{ps:List aC} {vs:List aD} {ls:List LV},vs.length=ps.length->ls.length=ps.length->(Gz ps vs ls).map (λi=>(i.x,i.v))=ps.zip vs
 |[],_,_,_,_=>rfl
 |p::ps,[],_,h,_=>by simp at h
 |p::ps,v::vs,[],_,h=>by simp at h
 |p::ps,v::vs,l::ls,h,h'=>by
  simp only[WX,nU,aN7];rw[VH (by simpa using h) (by simpa using h')]
theorem VJ:∀{ps:List aC} {vs:List aD} {ls:List LV},vs.length=ps.length->ls.length=ps.length->(Gz ps vs ls).map (λi=>(i.x,i.lv))=ps.zip ls
 |[],_,_,_,_=>rfl
 |p::ps,[],_,h,_=>by simp at h
 |p::ps,v::vs,[],_,h=>by simp at h
 |p::ps,v::vs,l::ls,h,h'=>by
  simp only[WX,nU,aN7];rw[VJ (by simpa using h) (by simpa using h')]
theorem aIc(r:fW B h g vs ls):∀i∈Gz ps vs ls,eW B h g i.v i.lv:=by
 induction ps generalizing vs ls with
 |nil=>intro i hi;cases hi
 |cons p ps ih=>
  intro i hi;cases r with
  |nil=>cases hi
  |cons a r=>
  rcases cE.mp hi with rfl|hi
  ·exact a
  ·exact ih r i hi
theorem kA.U3{i:Nat}{x:aC}{ps:List aC}{args:List AV}{r:AV}{v1:aU}(t:kA B i x ps)(hl:args.length=ps.length)(hs:∀p∈ps,iH (bQ i) p)(hv:fK v1 (oP (ps.zip (args.map .val)) []))(h:bL B k {sc:=bQ i} v1 (cH i) r):
 ∃fd a,kI B x fd (cH i) a/\pE B (k+1) (.ref a) [] (args.map .val) r:=by
 obtain⟨fd,a,fo,dC,hb⟩:=t;obtain⟨V,h⟩:=h;refine⟨fd,a,fo,pE.fun (kM:=ps.zip (args.map .val)) (out:=.ret V r) fo ?_ ?_ ?_ ?_ rfl⟩
 ·intro s g vs G bF
  have l1:vs.length=ps.length:=by rw[bF.length,fE,hl]
  refine⟨Gz ps vs (args.map .val),?_,VJ l1 (by simpa using hl),aIc bF⟩;rw[VH l1 (by simpa using hl)];exact hb s vs l1
 ·intro p hp
  obtain⟨_,h2⟩:=c7 hp;obtain⟨av,_,e⟩:=gK.mp h2;exact⟨av,e.symm⟩
 ·intro p hp
  rw[dC];exact hs p.1 (c7 hp).1
 ·rw[dC]
  exact .sub hv h
theorem aB.Cx{i:Nat}{x:aC}{ps:List aC}{args:List AV}{r:AV}{v1:aU}{p pos:dI}{e:bJ}{es:List bJ}(t:kA B i x ps)(hk:sc.names.lookup x=some .globalImplicit)(hd:(x==("__debug__":aC))=false)(hl:args.length=ps.length)(hs:∀p∈ps,iH (bQ i) p)(hn:eR (e::es)=true)
 (ha:aZ B (k+1) sc vars (e::es) (args.map .val)) (hv:fK v1 (oP (ps.zip (args.map .val)) [])) (h:bL B k {sc:=bQ i} v1 (cH i) r):aB B (k+1) sc vars (.Call (.Name x p) (e::es) [] pos) r:=by
 obtain⟨fd,a,fo,hc⟩:=t.U3 hl hs hv h;exact aB.Wm hk hd fo hn ha hc
end
section
variable {B:BD} {k:Nat} {F:Fn} {sc:bR} {vars vars':aU}
theorem aJ.bU{st:dE}{out:jT}(h:aP B k F vars st out):aJ B k F vars [st] out:=by
 cases out with
 |cF v=>exact .cons h .nil
 |brk v=>exact .stop h rfl
 |cnt v=>exact .stop h rfl
 |ret v r=>exact .stop h rfl
theorem aJ.sJ(ht:bA B k F.sc vars t b)(h:aJ B k F vars (if b then body else pC) out):aJ B k F vars [.If t body pC p] out:=.bU (.ite ht h)
theorem fF.sJ(ht:bA B k F.sc vars t b)(h:fF B k F (if b then body else pC) vars I P o):fF B k F [.If t body pC p] vars I P o:=by
 cases o with
 |go s=>exact⟨h.1,.sJ ht h.2⟩
 |brk s=>exact⟨h.1,.sJ ht h.2⟩
 |ret r=>obtain⟨V,h⟩:=h;exact⟨V,.sJ ht h⟩
theorem bL.Vt{x:aC}{np p:dI}{xs:List AV}{eS:List dE}(n:fP F.sc vars x (.own xs))(ha:F.cQ≠some x):bL B k F vars (.Return (some (.Name x np)) p::eS) (.aO xs):=.stop (.Vt n ha)
noncomputable def HC(F:Fn)(x:aC):Bool:=match F.sc.names.lookup x with
 |some .local=>true
 |some .cell=> !F.HD.contains x
 |_=>false
theorem fR(h:HC F x=true):lT F x:=by
 unfold HC at h;cases e:F.sc.names.lookup x with
 |none=>rw[e] at h;cases h
 |some kd=>
  rw[e] at h;cases kd with
  |«local»=>exact .inl e
  |cell=>exact .inr ⟨e,by simpa using h⟩
  |_=>cases h
theorem TJ{bs:List (aC×AV)}(h:(bs.map (·.1)).all (HC F)=true):∀b∈bs,lT F b.1:=λb hb=>
 fR (tO.mp h b.1 (gK.mpr ⟨b,hb,rfl⟩))
noncomputable def Pj(sc:bR)(x:aC):Bool:=match sc.names.lookup x with
 |some .local=>true
 |some .cell=>true
 |_=>false
theorem xQ(h:Pj sc x=true):iH sc x:=by
 unfold Pj at h;cases e:sc.names.lookup x with
 |none=>rw[e] at h;cases h
 |some kd=>
  rw[e] at h;cases kd with
  |«local»=>exact .inl e
  |cell=>exact .inr e
  |_=>cases h
theorem VP{bs:List (aC×AV)}(h:(bs.map (·.1)).all (Pj sc)=true):∀b∈bs,iH sc b.1:=λb hb=>
 xQ (tO.mp h b.1 (gK.mpr ⟨b,hb,rfl⟩))
theorem Js{ps:List aC}(h:ps.all (Pj sc)=true):∀p∈ps,iH sc p:=λp hp=>xQ (tO.mp h p hp)
theorem bG.M0:bG B k .NotEq (.val (.int a)) (.val (.int b)) (a !=b):=by
 intro A g s v w Q E _ G hv hw K;obtain⟨_,rfl⟩:=VR.bB hv;obtain⟨_,rfl⟩:=VR.bB hw
 with_reducible exact PyProof.Rows.ne_int (K _ _ (.refl G))
theorem DG:∀{L:List α} {s:σ},jA t s L=.ret r->∃s' i,i∈L/\t s' i=.ret r:=by
 intro L;induction L with
 |nil=>
  intro s h;cases h
 |cons i L ih=>
  intro s h;rw[zU] at h;cases e:t s i with
  |go s'=>rw[e] at h;obtain⟨s2,j,h1,h2⟩:=ih h;exact⟨s2,j,.tail _ h1,h2⟩
  |brk s'=>rw[e] at h;cases h
  |ret r'=>rw[e] at h;cases h;exact⟨s,i,.head _,e⟩
end
section
variable {B:BD} {k:Nat} {F:Fn} {sc:bR} {vars vars':aU}
theorem Jq{h:bH}{b:aH}(hb:h.objs.size<=b):h.get? b=none:=by
 cases q:h.get? b with
 |none=>rfl
 |some o=>exact absurd (gS q) (pH.mpr hb)
theorem Oj{g:aT}{a b:aH}{o:fQ}(h:b≠a):g.eF a o b=g b:=if_neg h
theorem uC.news{g:aT}{s:aF}{h':bH}{T:aH}{o:fQ}(G:bI B g s.heap)(l:List aH)(h1:∀b∈l,s.heap.objs.size<=b/\b≠T/\∃o,h'.get? b=some o):
 uC B ⟨l,[]⟩ s {s with heap:=h'} (g.eF T o):=by
 refine⟨⟨λb hb=>?_,λb hb=>?_⟩,λb hb=>?_,λi hi=>nomatch hi⟩
 all_goals obtain⟨q1,q2,q3⟩:=h1 b hb
 ·rw[Oj q2];exact G.fresh (Jq q1)
 ·exact G.uB (Jq q1)
 ·exact⟨Jq q1,q3⟩
theorem bT.news{g:aT}{s:aF}{h':bH}{T:aH}{o:fQ}(G:bI B g s.heap)(hT:s.heap.objs.size<=T)(ho:eD o)(e:h'.get? T=some o)(hk:∀b o,s.heap.get? b=some o->h'.get? b=some o):
 bT B s g {s with heap:=h'} (g.eF T o):=by
 have f:=G.fresh (Jq hT);have X:bT B s g {s with heap:=h'} g:=.of G (.of hk) λb _=>hk b;exact⟨X.keep,fU.eF o f (Jq hT),bI.eF X.ok f e ho⟩
theorem nn(i j:Nat)(h:Nat.beq i j=false): @Ne aH (N+i) (N+j):=λe=>Nat.ne_of_beq_eq_false h (aN8 e)
theorem neA(h:a≠b): @Ne aH a b:=h
theorem ll(j:Nat)(h:a<N): @Ne aH a (N+j):=rP (qO h (jD _ _))
theorem aAq(N l1 l2:Nat)(h1:l1<N)(h2:l2<N):ZipApart (N+4) (N+2) (N+3) N (N+1) l1 l2:=
 ⟨nn 2 4 rfl,nn 3 4 rfl,nn 0 4 rfl,nn 1 4 rfl,nn 2 3 rfl,nn 2 0 rfl,nn 2 1 rfl,nn 3 0 rfl,nn 3 1 rfl,nn 0 1 rfl,ll 4 h1,ll 3 h1,ll 0 h1,ll 1 h1,ll 4 h2,ll 3 h2,ll 0 h2,ll 1 h2⟩
theorem cR.Ww(b:oN B sc "zip" (.type "zip"))(hn:eR [e1,e2]=true)(h1:aB B k sc vars e1 (.aO xs))(h2:aB B k sc vars e2 (.aO ys)):
 cR B k sc vars (.Tuple sL n' tp) (.Call (.Name "zip" p) [e1,e2] [] pos) (Kr xs ys):=by
 refine cR.blt b (.inr ⟨_,rfl⟩) hn (.c h1.ar (.c h2.ar .nil (vI hn)) hn) λA g s vs Q E R G bF K=>?_;obtain⟨v,w,rfl,hv,hw⟩:=bF.kE;obtain⟨l1,IW,n1,rfl,ho,r⟩:=VR.bB hv;obtain⟨l2,Xy,n2,rfl,wJ,r'⟩:=VR.bB hw
 ·refine call_zip_2 (G.pN ho) (G.pN wJ) λh' z1 z2 z3 i1 i2 iF hk=>?_
  refine OS z1 ?_;have lt1:=gS (G.at ho);have lt2:=gS (G.at wJ);have Ru:((g.eF (s.heap.objs.size+2) (gA #[.ref s.heap.objs.size,.ref (s.heap.objs.size+1)] 0)):aT) (s.heap.objs.size+2)=some (gA #[.ref s.heap.objs.size,.ref (s.heap.objs.size+1)] 0):=aT.jY _ _ _;have Z:=bT.news G (jD _ 2) Gf z2 hk;obtain⟨o1,Rn,hc1⟩:=id i1;obtain⟨o2,KX,LU⟩:=id i2;refine K _ ⟨[s.heap.objs.size+4,s.heap.objs.size+3,s.heap.objs.size,s.heap.objs.size+1],[]⟩ _ _ Z (uC.news G _ ?_) ?_ ?_
  ·intro b hb
   simp only[cE,cO,or_false] at hb;rcases hb with rfl|rfl|rfl|rfl
   ·exact⟨jD _ _,nn 4 2 rfl,_,z1⟩
   ·exact⟨jD _ _,nn 3 2 rfl,_,z3⟩
   ·exact⟨dH _,λq=>absurd q (rP (aN9 (by decide))),_,Rn⟩
   ·exact⟨jD _ _,nn 1 2 rfl,_,KX⟩
  ·have D:ZipApart (s.heap.objs.size+4) (s.heap.objs.size+2) (s.heap.objs.size+3) s.heap.objs.size (s.heap.objs.size+1) l1 l2:=by
    exact aAq _ _ _ lt1 lt2
   exact gB.Ww D z1 z2 z3 i1 i2 (Z.ext.sub _ _ ho) (Z.ext.sub _ _ wJ) Ru (by simpa using r.mono Z.ext.sub) (by simpa using r'.mono Z.ext.sub)
  ·intro A' aS Q' E' same q
   refine OS (TI:=s.heap.objs.size+2) (TO:=s.heap.objs.size+3) (f0:=.none) ?_ q;exact(same.at (.head _) ⟨_,z1,jX rfl (by nofun)⟩).trans z1
end
noncomputable def Pf(N:Nat)(f0:aD):fQ:={cls:=.type "zip",dict:=none,data:=.fields #[f0,.bool false,.bool false,.ref (N+3),.ref (N+4)],slots:= #[]}
structure Z3(h:bH)(N:Nat)(f0:aD)(t:Array aD)(k1 k2 k3:Nat)(l1 l2 l3:aH)(xs ys zs:Array aD):Prop where
 z:h.get? (N+5)=some (Pf N f0)
 TI:h.get? (N+3)=some (gA #[.ref N,.ref (N+1),.ref (N+2)] 0)
 TO:h.get? (N+4)=some (gA t 0)
 i1:h.IsListIter N l1 k1
 i2:h.IsListIter (N+1) l2 k2
 i3:h.IsListIter (N+2) l3 k3
 h1:h.IsList l1 xs
 h2:h.IsList l2 ys
 h3:h.IsList l3 zs
 q1:l1<N
 q2:l2<N
 q3:l3<N
section
variable {h h':bH} {N:Nat} {f0 T6:aD} {t t':Array aD} {k1 k2 k3:Nat} {l1 l2 l3:aH} {xs ys zs:Array aD}
theorem qT(x:h.IsList l xs)(e:h'.get? l=h.get? l):h'.IsList l xs:=by obtain⟨o,a,r⟩:=x;exact⟨o,e.trans a,r⟩
theorem qZ(h:a<b)(k:b<=c): @Ne aH a c:=rP (qO h k)
theorem Z3.Qk(x:Z3 h N f0 t k1 k2 k3 l1 l2 l3 xs ys zs)(hs:kU (N+5) h h')(e:h'.get? (N+5)=some (Pf N T6)):Z3 h' N T6 t k1 k2 k3 l1 l2 l3 xs ys zs:=
 ⟨e,(hs.2 _ (nn 3 5 rfl)).trans x.TI,(hs.2 _ (nn 4 5 rfl)).trans x.TO,IsListIter.same x.i1 (hs.2 _ (nn 0 5 rfl)),IsListIter.same x.i2 (hs.2 _ (nn 1 5 rfl)),IsListIter.same x.i3 (hs.2 _ (nn 2 5 rfl)),
  qT x.h1 (hs.2 _ (qZ x.q1 (jD _ _))),qT x.h2 (hs.2 _ (qZ x.q2 (jD _ _))),qT x.h3 (hs.2 _ (qZ x.q3 (jD _ _))),x.q1,x.q2,x.q3⟩
theorem Z3.IX(x:Z3 h N f0 t k1 k2 k3 l1 l2 l3 xs ys zs)(hs:kU (N+4) h h')(e:h'.get? (N+4)=some (gA t' 0)):Z3 h' N f0 t' k1 k2 k3 l1 l2 l3 xs ys zs:=
 ⟨(
  hs.2 _ (nn 5 4 rfl)).trans x.z,(hs.2 _ (nn 3 4 rfl)).trans x.TI,e,IsListIter.same x.i1 (hs.2 _ (nn 0 4 rfl)),IsListIter.same x.i2 (hs.2 _ (nn 1 4 rfl)),IsListIter.same x.i3 (hs.2 _ (nn 2 4 rfl)),
  qT x.h1 (hs.2 _ (qZ x.q1 (jD _ _))),qT x.h2 (hs.2 _ (qZ x.q2 (jD _ _))),qT x.h3 (hs.2 _ (qZ x.q3 (jD _ _))),x.q1,x.q2,x.q3⟩
theorem Z3.to1(x:Z3 h N f0 t k1 k2 k3 l1 l2 l3 xs ys zs)(hs:kU N h h')(e:h'.IsListIter N l1 k):Z3 h' N f0 t k k2 k3 l1 l2 l3 xs ys zs:=
 ⟨(
  hs.2 _ (nn 5 0 rfl)).trans x.z,(hs.2 _ (nn 3 0 rfl)).trans x.TI,(hs.2 _ (nn 4 0 rfl)).trans x.TO,e,IsListIter.same x.i2 (hs.2 _ (nn 1 0 rfl)),IsListIter.same x.i3 (hs.2 _ (nn 2 0 rfl)),
  qT x.h1 (hs.2 _ (qZ x.q1 (dH _))),qT x.h2 (hs.2 _ (qZ x.q2 (dH _))),qT x.h3 (hs.2 _ (qZ x.q3 (dH _))),x.q1,x.q2,x.q3⟩
theorem Z3.to2(x:Z3 h N f0 t k1 k2 k3 l1 l2 l3 xs ys zs)(hs:kU (N+1) h h')(e:h'.IsListIter (N+1) l2 k):Z3 h' N f0 t k1 k k3 l1 l2 l3 xs ys zs:=
 ⟨(
  hs.2 _ (nn 5 1 rfl)).trans x.z,(hs.2 _ (nn 3 1 rfl)).trans x.TI,(hs.2 _ (nn 4 1 rfl)).trans x.TO,IsListIter.same x.i1 (hs.2 _ (nn 0 1 rfl)),e,IsListIter.same x.i3 (hs.2 _ (nn 2 1 rfl)),
  qT x.h1 (hs.2 _ (qZ x.q1 (jD _ _))),qT x.h2 (hs.2 _ (qZ x.q2 (jD _ _))),qT x.h3 (hs.2 _ (qZ x.q3 (jD _ _))),x.q1,x.q2,x.q3⟩
theorem Z3.to3(x:Z3 h N f0 t k1 k2 k3 l1 l2 l3 xs ys zs)(hs:kU (N+2) h h')(e:h'.IsListIter (N+2) l3 k):Z3 h' N f0 t k1 k2 k l1 l2 l3 xs ys zs:=
 ⟨(
  hs.2 _ (nn 5 2 rfl)).trans x.z,(hs.2 _ (nn 3 2 rfl)).trans x.TI,(hs.2 _ (nn 4 2 rfl)).trans x.TO,IsListIter.same x.i1 (hs.2 _ (nn 0 2 rfl)),IsListIter.same x.i2 (hs.2 _ (nn 1 2 rfl)),e,
  qT x.h1 (hs.2 _ (qZ x.q1 (jD _ _))),qT x.h2 (hs.2 _ (qZ x.q2 (jD _ _))),qT x.h3 (hs.2 _ (qZ x.q3 (jD _ _))),x.q1,x.q2,x.q3⟩
theorem Z3.keep(x:Z3 h N f0 t k1 k2 k3 l1 l2 l3 xs ys zs)(hk:∀b o,h.get? b=some o->h'.get? b=some o):Z3 h' N f0 t k1 k2 k3 l1 l2 l3 xs ys zs:=by
 obtain⟨z,a,b,⟨o1,e1,r1⟩,⟨o2,e2,r2⟩,⟨o3,e3,r3⟩,⟨p1,f1,s1⟩,⟨p2,f2,s2⟩,⟨p3,f3,s3⟩,q,q',q''⟩:=x;exact⟨hk _ _ z,hk _ _ a,hk _ _ b,⟨o1,hk _ _ e1,r1⟩,⟨o2,hk _ _ e2,r2⟩,⟨o3,hk _ _ e3,r3⟩,⟨p1,hk _ _ f1,s1⟩,⟨p2,hk _ _ f2,s2⟩,⟨p3,hk _ _ f3,s3⟩,q,q',q''⟩
end
section
variable {prog:iS} {w:iI} {A:bM} {E:aD->aF->Prop} {s:aF} {N:Nat} {l1 l2 l3:aH} {xs ys zs t:Array aD} {k:Nat}
theorem GX(hT:s.heap.get? (N+4)=some (gA #[a,b,c] 0))
 (h:∀h',h'.get? (N+4)=some (gA ((#[a,b,c]:Array aD).setIfInBounds i x) 0)->kU (N+4) s.heap h'->Q () {s with heap:=h'}):
 aK (model prog w) A (updateSeq (N+4) (·.setIfInBounds i x)) Q E s:=by
 refine c8 hT rfl (h _ ?_ (By ..)) (by show 3<=eJ;rw[cU];decide) (by simp;rw[cU];decide);rw[wZ _ hT rfl];simp[Mt,gA]
def Xx(N:Nat)(h h':bH):Prop:=∀c o,c≠N+5->c≠N+4->c≠N->c≠N+1->c≠N+2->h.get? c=some o->h'.get? c=some o
theorem aCf{a b c x y z:aD}{Q:aD->aF->Prop}(D:Z3 s.heap N .none #[a,b,c] k k k l1 l2 l3 xs ys zs)(hx:xs[k]?=some x)(hy:ys[k]?=some y)(hz:zs[k]?=some z)
 (hQ:∀h',Z3 h' N (mI s.heap.objs.size) #[x,y,z] (k+1) (k+1) (k+1) l1 l2 l3 xs ys zs->h'.get? s.heap.objs.size=some (gA #[x,y,z] 0)->Xx N s.heap h'->Q (.ref s.heap.objs.size) {s with heap:=h'}):
 aK (model prog w) A (kR.«zip.__next__» ⟨[.ref (N+5)],[]⟩) (λmD s'=>∃v,mD=.done (.ret v)/\Q v s') E s:=by
 show aK _ _ (field (.ref (N+5)) 2>>=_) _ _ _;refine aM (nI D.z rfl rfl ?_);show aK _ _ (field (.ref (N+5)) 3>>=_) _ _ _;refine aM (nI D.z rfl rfl ?_);refine aM (Cd D.TI rfl ?_);show aK _ _ (OT (.ref (N+5))>>=_) _ _ _;refine aM ?_;unfold OT;refine aM (nI D.z rfl rfl (bE ?_));simp only[if_true];refine aM (Jc ?_);refine aM (nI D.z rfl rfl ?_);refine aM (AX D.z (by simp) λg1 e1 s1=>?_);have D1:=D.Qk s1 e1;refine aM ?_;simp only[aOa,aOb,zI,Ja];refine aM (aM (Tf ?_));show aK _ _ (Jj (.ref N)>>=_) _ _ _;refine aM (d6 D1.i1 D1.h1 hx λg2 e2 s2=>bE ?_);have D2:=D1.to1 s2 e2;refine aM (Cd D2.TO rfl ?_);refine aM (GX D2.TO λg3 e3 s3=>?_);have D3:=D2.IX s3 e3;refine aM (OU (bE ?_));refine aM (aM (Tf ?_));show aK _ _ (Jj (.ref (N+1))>>=_) _ _ _;refine aM (d6 D3.i2 D3.h2 hy λg4 e4 s4=>bE ?_);have D4:=D3.to2 s4 e4;refine aM (Cd D4.TO rfl ?_);refine aM (GX D4.TO λg5 e5 s5=>?_);have D5:=D4.IX s5 e5;refine aM (OU (bE ?_));refine aM (aM (Tf ?_));show aK _ _ (Jj (.ref (N+2))>>=_) _ _ _;refine aM (d6 D5.i3 D5.h3 hz λg6 e6 s6=>bE ?_);have D6:=D5.to3 s6 e6;refine aM (Cd D6.TO rfl ?_);refine aM (GX D6.TO λg7 e7 s7=>?_);have D7:=D6.IX s7 e7;refine aM (OU (bE (bE ?_)));refine aM (Cd D7.TO rfl ?_);refine aM (wpAny_newTuple ?_ (by show 3<=eJ;rw[cU];decide));have iF:g7.objs.size=s.heap.objs.size:=by rw[s7.1,s6.1,s5.1,s4.1,s3.1,s2.1,s1.1]
 show aK _ _ (aOc (.ref (N+5)) (.ref g7.objs.size)>>=_) _ _ _;refine aM ?_;unfold aOc;have D8:Z3 (g7.push (gA #[x,y,z] 0)) N .ellipsis #[x,y,z] (k+1) (k+1) (k+1) l1 l2 l3 xs ys zs:=D7.keep λ_ _ e=>eG _ e;refine aM (AX D8.z (by simp) λg9 e9 s9=>?_);have D9:=D8.Qk s9 e9;refine AX D9.z (by simp) λR8 Zr Ea=>?_;have V6:=D9.Qk Ea Zr
 have ne:g7.objs.size≠N+5:=λq=>by
  have:=gS D7.z;rw[<-q] at this;exact sR _ this
 have hT:=(Ea.2 _ ne).trans ((s9.2 _ ne).trans (gU _ rfl));rw[iF] at V6 hT;refine bE ⟨_,rfl,?_⟩;show Q (.ref g7.objs.size) _;rw[iF];refine hQ R8 V6 hT λc' o c1 c2 c3 c4 c5 e=>?_;refine(Ea.2 _ c1).trans ((s9.2 _ c1).trans ?_);refine eG _ ?_;exact(s7.2 _ c2).trans ((s6.2 _ c5).trans ((s5.2 _ c2).trans ((s4.2 _ c4).trans ((s3.2 _ c2).trans ((s2.2 _ c3).trans ((s1.2 _ c1).trans e))))))
theorem aD7(hh:A.handled=none)(D:Z3 s.heap N .none #[a,b,c] k k k l1 l2 l3 xs ys zs)(hx:xs[k]?=none)
 (hE:∀h' e,Xx N s.heap h'->(∃o,h'.get? e=some o/\o.cls=.type "StopIteration")->E (.ref e) {s with heap:=h'}):
 aK (model prog w) A (kR.«zip.__next__» ⟨[.ref (N+5)],[]⟩) Q E s:=by
 show aK _ _ (field (.ref (N+5)) 2>>=_) _ _ _;refine aM (nI D.z rfl rfl ?_);show aK _ _ (field (.ref (N+5)) 3>>=_) _ _ _;refine aM (nI D.z rfl rfl ?_);refine aM (Cd D.TI rfl ?_);show aK _ _ (OT (.ref (N+5))>>=_) _ _ _;refine aM ?_;unfold OT;refine aM (nI D.z rfl rfl (bE ?_));simp only[if_true];refine aM (Jc ?_);refine aM (nI D.z rfl rfl ?_);refine aM (AX D.z (by simp) λg1 e1 s1=>?_);have D1:=D.Qk s1 e1;refine aM ?_;simp only[aOa,aOb,zI,Ja];refine aM (aM (Tf ?_));show aK _ _ (Jj (.ref N)>>=_) _ _ _;refine aM (wpAny_nextOf_list_end hh D1.i1 D1.h1 hx λg2 e s2 he=>?_);obtain⟨oe,O7,Q8⟩:=he;have z2:=s2 _ _ (nn 5 0 rfl) D1.z;have ne:e≠N+5:=λq=>by subst q;cases (z2.symm.trans O7);simp[Pf] at Q8
 refine AX z2 (by simp) λg3 _ s3=>hE g3 e (λc' o c1 _ c3 _ _ q=>(s3.2 _ c1).trans (s2 _ _ c3 ((s1.2 _ c1).trans q))) ⟨oe,(s3.2 _ ne).trans O7,Q8⟩
theorem aC4(D:Z3 s.heap N .none #[a,b,c] k k k l1 l2 l3 xs ys zs)(hx:xs[k]?=some x)(hy:ys[k]?=some y)(hz:zs[k]?=some z)
 (hQ:∀h',Z3 h' N (mI s.heap.objs.size) #[x,y,z] (k+1) (k+1) (k+1) l1 l2 l3 xs ys zs->h'.get? s.heap.objs.size=some (gA #[x,y,z] 0)->Xx N s.heap h'->Q (some (.ref s.heap.objs.size)) {s with heap:=h'}):
 aK (model prog w) A (mH (.ref (N+5))) Q E s:=by
 have hT:s.TypeIs (.ref (N+5)) "zip":=⟨_,D.z,rfl⟩
 unfold mH
 exact aM (Mz (zH hT OV
  (xB OV hT aOd (aCf D hx hy hz λh' a1 a2 a3=>bE (hQ h' a1 a2 a3)) (aOe _))))
theorem aDt(hh:A.handled=none)(D:Z3 s.heap N .none #[a,b,c] k k k l1 l2 l3 xs ys zs)(hx:xs[k]?=none)
 (hQ:∀h',Xx N s.heap h'->Q none {s with heap:=h'}):aK (model prog w) A (mH (.ref (N+5))) Q E s:=by
 have hT:s.TypeIs (.ref (N+5)) "zip":=⟨_,D.z,rfl⟩
 unfold mH
 refine aM (Mz (zH hT OV
  (xB OV hT aOd (aD7 hh D hx λh' e hk he=>?_) (aOe _))))
 obtain⟨o,ho,hc⟩:=he;exact aM (Ψ ⟨o,ho,hc⟩ Ω (bE (hQ _ hk)))
end
theorem aAj(a b c:aD):checkTypeCall "zip" ⟨[a,b,c],[]⟩=pure ():=by kernel_rfl
theorem aAv(a b c:aD):AE "zip.__new__" ⟨[.type "zip",a,b,c],[]⟩=pure ():=by kernel_rfl
theorem aE0(a b c d:aD):xG "object.__init__" ⟨[a,b,c,d],[]⟩:=by
 unfold xG;rw[signature?_of (n:=['_','_','t','i','n','i','_','_']) (by kernel_rfl) F.owner_object];kernel_rfl
noncomputable def Ha(h:bH)(l1:aH):bH:=h.push {cls:=.type "list_iterator",data:=.fields #[.ref l1,.int 0 0]}
noncomputable def Di(h:bH)(l1 l2:aH):bH:=(Ha h l1).push {cls:=.type "list_iterator",data:=.fields #[.ref l2,.int 0 0]}
noncomputable def Dh(h:bH)(l1 l2 l3:aH):bH:=(Di h l1 l2).push {cls:=.type "list_iterator",data:=.fields #[.ref l3,.int 0 0]}
noncomputable def Dg(h:bH)(l1 l2 l3:aH):bH:=(Dh h l1 l2 l3).push {cls:=.type "tuple",data:=.seq #[.ref h.objs.size,.ref (Ha h l1).objs.size,.ref (Di h l1 l2).objs.size]}
noncomputable def Df(h:bH)(l1 l2 l3:aH):bH:=(Dg h l1 l2 l3).push {cls:=.type "tuple",data:=.seq #[.none,.none,.none]}
noncomputable def Pg(h:bH)(l1 l2 l3:aH):bH:=(Df h l1 l2 l3).push {cls:=.type "zip",data:=.fields #[.none,.bool false,.bool false,.ref (Dh h l1 l2 l3).objs.size,.ref (Dg h l1 l2 l3).objs.size]}
set_option maxHeartbeats 4000000 in
theorem aBu(l1 l2 l3:aH)(xs ys zs:Array aD):
 Meets (kR.«zip.__new__» ⟨[.type "zip",.ref l1,.ref l2,.ref l3],[]⟩) (λ_ R s=>s.heap.IsList l1 xs/\s.heap.IsList l2 ys/\s.heap.IsList l3 zs/\
  R (.ok (.ret (.ref (Df s.heap l1 l2 l3).objs.size))) {s with heap:=Pg s.heap l1 l2 l3}):=
 .of_wp λprog w A R s h=>by
  obtain⟨hp,g,d,tk,os⟩:=s;obtain⟨wN,nQ,Rq,h⟩:=h;have lZ:=sub_zip;have hL1:=wN;have hL2:bH.IsList (d7 ⟨hp.push {cls:=.type "list_iterator",data:=.fields #[.ref l1,.int 0 0]},g,d,tk,os⟩) l2 ys:=d8 nQ _;have hL3:bH.IsList (d7 ⟨(hp.push {cls:=.type "list_iterator",data:=.fields #[.ref l1,.int 0 0]}).push {cls:=.type "list_iterator",data:=.fields #[.ref l2,.int 0 0]},g,d,tk,os⟩) l3 zs:=d8 (d8 Rq _) _
  wp_walk using AH hL1,AH hL2,AH hL3
  exact⟨_,rfl,h⟩
section
variable {prog:iS} {w:iI} {A:bM} {E:aD->aF->Prop} {s:aF}
theorem aDz(wN:s.heap.IsList l1 xs)(nQ:s.heap.IsList l2 ys)(Rq:s.heap.IsList l3 zs)
 (h:∀h',Z3 h' s.heap.objs.size .none #[.none,.none,.none] 0 0 0 l1 l2 l3 xs ys zs->(∀c o,s.heap.get? c=some o->h'.get? c=some o)->Q (.ref (s.heap.objs.size+5)) {s with heap:=h'}):
 aK (model prog w) A (call (.type "zip") [.ref l1,.ref l2,.ref l3]) Q E s:=by
 refine callType_new F.called_zip (by decide) (aAj _ _ _) (aAv _ _ _) (λobj=>aE0 obj _ _ _) F.entry_zip_new (aBu l1 l2 l3 xs ys zs) ⟨wN,nQ,Rq,?_⟩;have n1:(Ha s.heap l1).objs.size=s.heap.objs.size+1:=tT ..;have n2:(Di s.heap l1 l2).objs.size=s.heap.objs.size+2:=by unfold Di;rw[tT,n1]
 have n3:(Dh s.heap l1 l2 l3).objs.size=s.heap.objs.size+3:=by unfold Dh;rw[tT,n2]
 have n4:(Dg s.heap l1 l2 l3).objs.size=s.heap.objs.size+4:=by unfold Dg;rw[tT,n3]
 have n5:(Df s.heap l1 l2 l3).objs.size=s.heap.objs.size+5:=by unfold Df;rw[tT,n4]
 have k1:∀c o,s.heap.get? c=some o->(Ha s.heap l1).get? c=some o:=λc o e=>eG _ e;have k2:∀c o,(Ha s.heap l1).get? c=some o->(Di s.heap l1 l2).get? c=some o:=λc o e=>eG _ e;have k3:∀c o,(Di s.heap l1 l2).get? c=some o->(Dh s.heap l1 l2 l3).get? c=some o:=λc o e=>eG _ e;have k4:∀c o,(Dh s.heap l1 l2 l3).get? c=some o->(Dg s.heap l1 l2 l3).get? c=some o:=λc o e=>eG _ e;have k5:∀c o,(Dg s.heap l1 l2 l3).get? c=some o->(Df s.heap l1 l2 l3).get? c=some o:=λc o e=>eG _ e;have k6:∀c o,(Df s.heap l1 l2 l3).get? c=some o->(Pg s.heap l1 l2 l3).get? c=some o:=λc o e=>eG _ e;have all:∀c o,s.heap.get? c=some o->(Pg s.heap l1 l2 l3).get? c=some o:=λc o e=>k6 _ _ (k5 _ _ (k4 _ _ (k3 _ _ (k2 _ _ (k1 _ _ e)))));have g1:(Ha s.heap l1).get? s.heap.objs.size=some _:=gU _ rfl;have g2:(Di s.heap l1 l2).get? (Ha s.heap l1).objs.size=some _:=gU _ rfl;have g3:(Dh s.heap l1 l2 l3).get? (Di s.heap l1 l2).objs.size=some _:=gU _ rfl;have g4:(Dg s.heap l1 l2 l3).get? (Dh s.heap l1 l2 l3).objs.size=some _:=gU _ rfl;have g5:(Df s.heap l1 l2 l3).get? (Dg s.heap l1 l2 l3).objs.size=some _:=gU _ rfl;have g6:(Pg s.heap l1 l2 l3).get? (Df s.heap l1 l2 l3).objs.size=some _:=gU _ rfl;rw[n1] at g2 g4;rw[n2] at g3 g4;rw[n3] at g4 g6;rw[n4] at g5 g6;rw[n5] at g6;have lt:∀{l:aH} {xs:Array aD},s.heap.IsList l xs->(l:Nat)<s.heap.objs.size:=λ⟨o,e,_⟩=>gS e;have lk:∀{l:aH} {xs:Array aD},s.heap.IsList l xs->(Pg s.heap l1 l2 l3).IsList l xs:=λ⟨o,e,r⟩=>⟨o,all _ _ e,r⟩
 rw[n5];show _/\_
 exact⟨⟨_,g6,rfl⟩,h _ ⟨g6,k6 _ _ (k5 _ _ g4),k6 _ _ g5,⟨_,k6 _ _ (k5 _ _ (k4 _ _ (k3 _ _ (k2 _ _ g1)))),rfl,rfl⟩,⟨_,k6 _ _ (k5 _ _ (k4 _ _ (k3 _ _ g2))),rfl,rfl⟩,⟨_,k6 _ _ (k5 _ _ (k4 _ _ g3)),rfl,rfl⟩,
  lk wN,lk nQ,lk Rq,lt wN,lt nQ,lt Rq⟩ all⟩
theorem aBv{sL:List bJ}{x1}{pos:dI}{N:Nat}{T:aH}{Q:Unit->aF->Prop}(hz:s.heap.get? (N+5)=some (Pf N (mI T)))
 (hQ:∀h',h'.get? (N+5)=some (Pf N .none)->kU (N+5) s.heap h'->Q () {s with heap:=h'}):aK (model prog w) A (tR (.Tuple sL x1 pos) (.ref (N+5)) (.ref T)) Q E s:=
 aNe hz hQ
end
section
variable {B:BD} {k:Nat} {F:Fn} {sc:bR} {vars vars':aU}
noncomputable def Ov:List AV->List AV->List AV->List AV
 |x::xs,y::ys,z::zs=>.cD [x,y,z]::Ov xs ys zs
 |_,_,_=>[]
def MZ(g:aT)(s:aF)(N:Nat)(i:Nat)(l1 l2 l3:aH)(vs ws us:List aD):Prop:=
 (∃a b c,Z3 s.heap N .none #[a,b,c] i i i l1 l2 l3 vs.toArray ws.toArray us.toArray)/\g (N+3)=some (gA #[.ref N,.ref (N+1),.ref (N+2)] 0)/\∃n m o,g l1=some (dP vs.toArray n)/\g l2=some (dP ws.toArray m)/\g l3=some (dP us.toArray o)
theorem Z3.live(x:Z3 h N f0 t k1 k2 k3 l1 l2 l3 xs ys zs):∀b∈([N+5,N+4,N,N+1,N+2]:List aH),∃o,h.get? b=some o/\eD o:=λb hb=>by
 simp only[cE,cO,or_false] at hb;rcases hb with rfl|rfl|rfl|rfl|rfl
 ·exact⟨_,x.z,jX rfl (by nofun)⟩
 ·exact⟨_,x.TO,Gf⟩
 ·exact IsListIter.cM x.i1
 ·exact IsListIter.cM x.i2
 ·exact IsListIter.cM x.i3
theorem Z3.ZD(x:MZ g s N i l1 l2 l3 vs ws us)(G:bI B dZ aS.heap)(sub:g.Sub dZ)(same:iX ⟨[N+5,N+4,N,N+1,N+2],[]⟩ s aS):MZ dZ aS N i l1 l2 l3 vs ws us:=by
 obtain⟨⟨a,b,c,D⟩,gT,n,m,o,q1,q2,q3⟩:=x;have oZ:∀b∈([N+5,N+4,N,N+1,N+2]:List aH),aS.heap.get? b=s.heap.get? b:=λb hb=>same.at hb (D.live b hb);refine⟨⟨a,b,c,(oZ _ (by simp)).trans D.z,G.at (sub _ _ gT),(oZ _ (by simp)).trans D.TO,IsListIter.same D.i1 (oZ _ (by simp)),IsListIter.same D.i2 (oZ _ (by simp)),IsListIter.same D.i3 (oZ _ (by simp)),G.pN (sub _ _ q1),G.pN (sub _ _ q2),G.pN (sub _ _ q3),D.q1,D.q2,D.q3⟩,sub _ _ gT,n,m,o,sub _ _ q1,sub _ _ q2,sub _ _ q3⟩
theorem gB.Wv:∀{xs ys zs:List AV} {i:Nat} {g:aT} {s:aF},MZ g s N i l1 l2 l3 vs ws us->
 bD B g (vs.drop i) xs->bD B g (ws.drop i) ys->bD B g (us.drop i) zs->ys.length=xs.length->zs.length=xs.length->gB B k A (.Tuple sL n' tp) (.ref (N+5)) ⟨[N+5,N+4,N,N+1,N+2],[]⟩ (Ov xs ys zs) g s
 |[],ys,zs,i,g,s,D,r1,r2,r3,e1,e2=>by
  obtain⟨⟨a,b,c,D0⟩,_⟩:=id D;refine⟨.of D0.live,λdZ aS Q E R G sub same own K=>?_⟩;obtain⟨⟨a,b,c,D1⟩,_⟩:=Z3.ZD D G sub same;refine aDt R.handled D1 (by simpa using r1.Oe) λh' hk=>?_;have kb:∀b o,b∉([N+5,N+4,N,N+1,N+2]:List aH)->aS.heap.get? b=some o->h'.get? b=some o:=λb o hb=>hk b o (Am hb) (He hb) (Pm hb) (Pl hb) (B8 hb);exact K _ (.of kb) (G.uR kb own.dM own.new)
 |x::xs,[],zs,i,g,s,D,r1,r2,r3,e1,e2=>nomatch e1
 |x::xs,y::ys,[],i,g,s,D,r1,r2,r3,e1,e2=>nomatch e2
 |x::xs,y::ys,z::zs,i,g,s,D,r1,r2,r3,e1,e2=>by
  obtain⟨⟨a,b,c,D0⟩,_⟩:=id D;refine⟨.of D0.live,λdZ aS Q E R G sub same own K=>?_⟩;obtain⟨⟨a,b,c,D1⟩,gT,n,m,o,q1,q2,q3⟩:=Z3.ZD D G sub same;obtain⟨v,hv,vx,rx⟩:=r1.drop;obtain⟨u,hu,uy,ry⟩:=r2.drop;obtain⟨t,ht,tz,rz⟩:=r3.drop;refine aC4 D1 (by simpa using hv) (by simpa using hu) (by simpa using ht) λh' D2 hT hk=>?_;refine⟨_,rfl,aBv D2.z λnR z3 hs=>?_⟩;have Ee:=same.has D0.live;obtain⟨g2,px,G2,kb,ow,vr⟩:=DZ G own Ee (λb o hb eo=>(hs.2 b (Am hb)).trans (hk b o (Am hb) (He hb) (Pm hb) (Pl hb) (B8 hb) eo)) ((hs.2 _ (Wg (Ee _ (.head _)))).trans hT) (.cons (vx.mono sub) (.cons (uy.mono sub) (.cons (tz.mono sub) .nil)));have sb:g.Sub g2:=λb o q=>px.sub _ _ (sub _ _ q);exact K _ _ _ _ (.refl _ _) kb px G2 ow vr (gB.Wv ⟨⟨_,_,_,D2.Qk hs z3⟩,px.sub _ _ gT,n,m,o,px.sub _ _ q1,px.sub _ _ q2,px.sub _ _ q3⟩ (rx.mono sb) (ry.mono sb) (rz.mono sb) (AY e1) (AY e2))
theorem cR.Wv(b:oN B sc "zip" (.type "zip"))(hn:eR [e1,e2,e3]=true)(h1:aB B k sc vars e1 (.aO xs))(h2:aB B k sc vars e2 (.aO ys))(h3:aB B k sc vars e3 (.aO zs))
 (l2:ys.length=xs.length) (l3:zs.length=xs.length):cR B k sc vars (.Tuple sL n' tp) (.Call (.Name "zip" p) [e1,e2,e3] [] pos) (Ov xs ys zs):=by
 refine cR.blt b (.inr ⟨_,rfl⟩) hn (.c h1.ar (.c h2.ar (.c h3.ar .nil (vI (vI hn))) (vI hn)) hn) λA g s vs Q E R G bF K=>?_;obtain⟨v,w,u,rfl,hv,hw,hu⟩:=bF.Kf;obtain⟨_,_,_,rfl,ho,r⟩:=VR.bB hv;obtain⟨_,_,_,rfl,wJ,r'⟩:=VR.bB hw;obtain⟨_,_,_,rfl,E6,r''⟩:=VR.bB hu
 ·refine aDz (G.pN ho) (G.pN wJ) (G.pN E6) λh' D hk=>?_
  refine OS D.z ?_;have Ru:(g.eF (s.heap.objs.size+3) (gA #[.ref s.heap.objs.size,.ref (s.heap.objs.size+1),.ref (s.heap.objs.size+2)] 0)) (s.heap.objs.size+3)=some (gA #[.ref s.heap.objs.size,.ref (s.heap.objs.size+1),.ref (s.heap.objs.size+2)] 0):=aT.jY _ _ _;have Z:=bT.news G (jD _ 3) Gf D.TI hk;refine K _ ⟨[s.heap.objs.size+5,s.heap.objs.size+4,s.heap.objs.size,s.heap.objs.size+1,s.heap.objs.size+2],[]⟩ _ _ Z (uC.news G _ ?_) ?_ ?_
  ·intro b hb
   obtain⟨o,ho,_⟩:=D.live b hb
   have q:∀N:Nat,b∈([N+5,N+4,N,N+1,N+2]:List aH)->N<=b/\b≠N+3:=λN hb=>by
    simp only[cE,cO,or_false] at hb;rcases hb with rfl|rfl|rfl|rfl|rfl
    ·exact⟨jD _ _,nn 5 3 rfl⟩
    ·exact⟨jD _ _,nn 4 3 rfl⟩
    ·exact⟨dH _,neA (rP (aN9 (by decide)))⟩
    ·exact⟨jD _ _,nn 1 3 rfl⟩
    ·exact⟨jD _ _,nn 2 3 rfl⟩
   exact⟨(q _ hb).1,(q _ hb).2,o,ho⟩
  ·exact gB.Wv ⟨⟨_,_,_,D⟩,Ru,_,_,_,Z.ext.sub _ _ ho,Z.ext.sub _ _ wJ,Z.ext.sub _ _ E6⟩ (by simpa using r.mono Z.ext.sub) (by simpa using r'.mono Z.ext.sub) (by simpa using r''.mono Z.ext.sub) l2 l3
  ·intro A' aS Q' E' same q
   exact OS ((same.at (.head _) ⟨_,D.z,jX rfl (by nofun)⟩).trans D.z) q
end
section
variable {B:BD} {k:Nat} {F:Fn} {sc:bR} {vars vars':aU}
theorem gP.aK8(t:σ->α->Step σ)(I:σ->aU)(P:List α->σ->Prop)(g:α->AV)(bs:α->List (aC×AV)):∀(L d:List α) (s:σ),P d s->(∀i∈L,fN bP (g i) (bs i))->(∀i∈L,∀b∈bs i,lT F b.1)->
 (∀d' i r s,d++L=d'++i::r->i∈L->P d' s->fF B k F body (fH (bs i) (I s)) I (P (d'++[i])) (t s i))->Pe B k F bP body (L.map g) (I s) I (λs=>∃d',P d' s) (jA t s L):=by
 intro L;induction L with
 |nil=>
  intro d s p hb hs h;exact⟨⟨d,p⟩,.nil _⟩
 |cons i L ih=>
  intro d s p hb hs h;have h1:=h d i L s rfl (.head _) p;rw[zU];cases e:t s i with
  |go s'=>
   rw[e] at h1;obtain⟨p1,h1⟩:=h1;have r:=ih (d++[i]) s' p1 (λj hj=>hb j (.tail _ hj)) (λj hj=>hs j (.tail _ hj)) (λd' j r s he hj=>h d' j r s (by simpa using he) (.tail _ hj));dsimp only;cases q:jA t s' L with
   |go s2=>rw[q] at r;exact⟨r.1,.cF (hb i (.head _)) (hs i (.head _)) h1 r.2⟩
   |brk s2=>rw[q] at r;exact r
   |ret x=>rw[q] at r;obtain⟨V,r⟩:=r;exact⟨V,.cF (hb i (.head _)) (hs i (.head _)) h1 r⟩
  |brk s'=>rw[e] at h1;exact⟨⟨_,h1.1⟩,.brk (hb i (.head _)) (hs i (.head _)) h1.2⟩
  |ret x=>rw[e] at h1;obtain⟨V,h1⟩:=h1;exact⟨V,.ret (hb i (.head _)) (hs i (.head _)) h1⟩
theorem gP.aJy(h:Pe B k F bP body xs vars I P (.go s)):gP B k F bP body xs vars (.cF (I s)):=h.2
theorem UU:∀l:List Int,AV.mW (bW l)=some (l.map .int):=by
 intro l;induction l with
 |nil=>
  exact rfl
 |cons i l ih=>
  show(match AV.oM (.int i),AV.mW (bW l) with|some d,some ds=>some (d::ds)|_,_=>none)=_;rw[ih];rfl
theorem UT:∀l:List aC,AV.mW (cK l)=some (l.map .str):=by
 intro l;induction l with
 |nil=>
  exact rfl
 |cons i l ih=>
  show(match AV.oM (.str i),AV.mW (cK l) with|some d,some ds=>some (d::ds)|_,_=>none)=_;rw[ih];rfl
theorem RK{α:Type}{f:α->AF}(hf:∀a,Na (f a)=0):∀l:List α,Jk (l.map f)=0:=by
 intro l;induction l with
 |nil=>
  simp[Jk]
 |cons i l ih=>
  simp only[nU,Jk,ih,hf];rfl
theorem aHi:∀l:List Int,Fs (l.map .int)=true:=by
 intro l;induction l with
 |nil=>
  simp[Fs]
 |cons i l ih=>
  simp[Fs,Tq,ih]
theorem aHh:∀l:List aC,(∀x∈l,qB x=true)->Fs (l.map .str)=true:=by
 intro l;induction l with
 |nil=>
  intro _;simp[Fs]
 |cons i l ih=>
  intro h;simp[Fs,Tq,ih λx hx=>h x (.tail _ hx),h i (.head _)]
theorem Ug(l:List Int):shaped (.list (l.map .int))=true:=by
 have h:Jk (l.map .int)=0:=RK (λa=>by unfold Na;rfl) l;unfold shaped;simp only[Tq,aHi,Na,h];decide
theorem RA(l:List aC)(h:∀x∈l,qB x=true):shaped (.list (l.map .str))=true:=by
 have h':Jk (l.map .str)=0:=RK (λa=>by unfold Na;rfl) l;unfold shaped;simp only[Tq,aHh l h,Na,h'];decide
theorem EE:∀l m:List Int,zK (l.map .int) (m.map .int)=decide (l=m)
 |[],[]=>by simp[zK]
 |[],_::_=>by simp[zK]
 |_::_,[]=>by simp[zK]
 |a::l,b::m=>by simp[zK,Ey,EE l m,Bool.decide_and];rfl
theorem aHt:∀l:List aC,zK (l.map .str) (l.map .str)=true:=by
 intro l;induction l with
 |nil=>
  simp[zK]
 |cons a l ih=>
  simp[zK,Ey,ih]
theorem eY.Xn(h:eY x (bW l)):x.oM=some (.list (l.map .int)):=by
 cases h with
 |val=>show(AV.mW (bW l)).map OW=_;rw[UU];rfl
 |own=>show(AV.mW (bW l)).map OW=_;rw[UU];rfl
theorem eY.G4(h:eY x (cK l)):x.oM=some (.list (l.map .str)):=by
 cases h with
 |val=>show(AV.mW (cK l)).map OW=_;rw[UT];rfl
 |own=>show(AV.mW (cK l)).map OW=_;rw[UT];rfl
theorem bG.eqI(hx:eY x (bW l))(hy:eY y (bW m)):bG B (k+2) .Eq x y (decide (l=m)):=
 bG.eqd hx.Xn hy.Xn (Ug l) (Ug m) (by simp only[Ey];exact EE l m)
theorem bG.JT(hx:eY x (bW l))(hy:eY y (bW m)):bG B (k+2) .NotEq x y (!decide (l=m)):=
 bG.Qx hx.Xn hy.Xn (Ug l) (Ug m) (by simp only[Ey];exact EE l m)
theorem bG.M1(hx:eY x (cK l))(hy:eY y (cK l))(h:∀x∈l,qB x=true):bG B (k+2) .NotEq x y false:=
 bG.Qx hx.G4 hy.G4 (RA l h) (RA l h) (by simp only[Ey];exact aHt l)
theorem bG.aMd(hx:eY x (aQ l))(hy:eY y []):bG B (k+2) .Eq x y (decide (l=[])):=by
 rw[zP] at hx;have:=bG.eqI (B:=B) (k:=k) (m:=[]) hx hy;simpa using this
theorem bG.B9(hx:eY x (aQ l))(hy:eY y []):bG B (k+2) .NotEq x y (!decide (l=[])):=by
 rw[zP] at hx;have:=bG.JT (B:=B) (k:=k) (m:=[]) hx hy;simpa using this
theorem bG.Qy(hx:eY x (aQ l))(hy:eY y (aQ m)):bG B (k+2) .NotEq x y (!decide (l=m)):=by
 rw[zP] at hx hy;have:=bG.JT (B:=B) (k:=k) hx hy
 have e:(l.map (λ(n:Nat)=>(n:Int))=m.map λ(n:Nat)=>(n:Int))↔l=m:=by
  constructor
  ·intro h
   have h2:=congrArg (List.map f9) h;rw[fO,fO] at h2;have e2:(f9∘λ(n:Nat)=>(n:Int))=id:=by funext n;simp
   rw[e2] at h2;simpa using h2
  ·intro h;rw[h]
 simpa [e] using this
noncomputable def iY{α:Type}:Nat->List α->List (Nat×α)
 |_,[]=>[]
 |i,x::xs=>(i,x)::iY (i+1) xs
theorem EG{l:List α}:iY i (x::l)=(i,x)::iY (i+1) l:=rfl
theorem Uw(f:α->AV):∀(l:List α) (i:Nat),tB i (l.map f)=(iY i l).map λq=>.cD [.int (q.1:Int),f q.2]:=by
 intro l;induction l with
 |nil=>
  intro i;exact rfl
 |cons x l ih=>
  intro i;simp[EG,aHv,ih (i+1)]
theorem Ck:∀(l:List α) (i:Nat),(iY i l).length=l.length:=by
 intro l;induction l with
 |nil=>
  intro i;exact rfl
 |cons x l ih=>
  intro i;simp[EG,ih (i+1)]
theorem DO:∀(l:List α) (i:Nat),∀q∈iY i l,q.1<i+l.length/\q.2∈l:=by
 intro l;induction l with
 |nil=>
  intro i q h;exact nomatch h
 |cons x l ih=>
  intro i q h;rcases cE.mp h with rfl|h
  ·simp
  ·have:=ih (i+1) q h
   exact⟨by simp;exact bV (aG [_,_,_] [.l (.u .x) (.a (.u .y) .z),.l (.a .y (.u .z)) .x] rfl this.1),.tail _ this.2⟩
theorem aD6(f h:Nat->aC):Ov (aQ w) (cK (w.map f)) (cK (w.map h))=w.map λ(k:Nat)=>AV.cD [.int (k:Int),.str (f k),.str (h k)]:=by
 induction w with
 |nil=>rfl
 |cons k w ih=>
  show AV.cD [_,_,_]::Ov (aQ w) (cK (w.map f)) (cK (w.map h))=_;rw[ih];rfl
end
section
variable {B:BD} {k:Nat} {A:bM} {aA:bO} {cs:List (aC×aH)} {own:aC->aH} {vars:aU} {g g':aT} {s s':aF} {aN:fM}
theorem pE.at(f:kI B x fd body a)(hv:∀p∈kM,∃av,p.2=.val av)(hs:∀p∈kM,iH fd.scope p.1)
 (kW:aJ B k {sc:=fd.scope} (oP kM []) body out) (hr:out.res=some r):∀(A:bM) (g:aT) (s:aF) (vs:List aD) (Q:aD->aF->Prop) (E:aD->aF->Prop),dS B (k+1) A s.heap->bI B g s.heap->
  (∃is:List iB,iU s fd ⟨vs,kw⟩ (is.map λi=>(i.x,i.v))/\is.map (λi=>(i.x,i.lv))=kM/\∀i∈is,eW B s.heap g i.v i.lv)->
  (∀v s' g',bT B s g s' g'->VR B g' v r->Q v s')->aK (aW B) A (gL (.ref a) vs kw) Q E s:=by
 intro A g s vs Q E R G hb K;obtain⟨is,h1,h2,h3⟩:=hb;refine Ut R G (f.at G) f.nP [] none 0 h1 (λi hi=>hs (i.x,i.lv) (by rw[<-h2];exact gK.mpr ⟨i,hi,rfl⟩)) (λb h=>(cO h).elim) (λb h=>(cO h).elim) (oP kM []) ?_ kW hr ?_
 ·intro A' aA cs aN s1 Q E Yq Q4 _ _ _ _ pW hk S K
  refine Ju S pW (λi hi=>?_) λs2 S2 _=>K s2 ?_
  ·obtain⟨av,e⟩:=hv (i.x,i.lv) (by rw[<-h2];exact gK.mpr ⟨i,hi,rfl⟩)
   dsimp only at e;refine⟨av,e,?_⟩;have:=h3 i hi;rw[e] at this;exact this
  ·rw[Jr,h2] at S2;exact S2
 ·intro v s' g' aA cs own bY S wH
  exact K v s' g' S.Gh wH
theorem H2.at(f:kI B x fd body a)(hv:∀p∈kM,∃av,p.2=.val av)(hs:∀p∈kM,iH fd.scope p.1)
 (Yq:fd.scope.names.lookup x0=some .local) (dD:∀p∈kM,p.1≠x0)
 (kW:aJ B k {sc:=fd.scope,cQ:=some x0} (cT x0 (.own xs) (oP kM [(x0,.own xs)])) body out) (hr:out.res=some r) (uO:out.left.lookup x0=some (.own iA)):∀(A:bM) (g:aT) (s:aF) (d:aH) (vs:List aD) (Q:aD->aF->Prop) (E:aD->aF->Prop),dS B (k+1) A s.heap->bI B g s.heap->mE B d xs g s->g d=none->B.base.get? d=none->
  (∃is:List iB,iU s fd ⟨.ref d::vs,kw⟩ ((x0,.ref d)::is.map λi=>(i.x,i.v))/\is.map (λi=>(i.x,i.lv))=kM/\∀i∈is,eW B s.heap g i.v i.lv)->
  (∀v s' g',eL B ⟨[d],[]⟩ s s'->fU s.heap g g'->bI B g' s'.heap->mE B d iA g' s'->VR B g' v r->Q v s')->aK (aW B) A (gL (.ref a) (.ref d::vs) kw) Q E s:=by
 intro A g s d vs Q E R G mB gd bd hb K;obtain⟨is,h1,h2,h3⟩:=hb;have ld:∃o,s.heap.get? d=some o:=by obtain⟨_,_,e,_⟩:=mB;exact⟨_,e⟩
 have N8:∀i∈is,∃av,i.lv=.val av:=λi hi=>hv (i.x,i.lv) (by rw[<-h2];exact gK.mpr ⟨i,hi,rfl⟩);have hni:∀i∈is,i.x≠x0:=λi hi=>dD (i.x,i.lv) (by rw[<-h2];exact gK.mpr ⟨i,hi,rfl⟩)
 let i0:iB:=⟨x0,.ref d,d,.val (.mZ 0 λ_ v=>v=.ref d)⟩
 refine Ut (is:=i0::is) R G (f.at G) f.nP [d] (some x0) d h1 (λi hi=>?_) (λb h=>by rw[cW.mp h];exact bd) (λb h=>by rw[cW.mp h];exact ld) (cT x0 (.own xs) (oP kM [(x0,.own xs)])) ?_ kW hr ?_
 ·rcases cE.mp hi with rfl|hi
  ·exact .inl Yq
  ·exact hs (i.x,i.lv) (by rw[<-h2];exact gK.mpr ⟨i,hi,rfl⟩)
 ·intro A' aA cs aN s1 Q E q1 q2 q3 q4 q5 q6 pW hk S K
  refine Ju S pW (λi hi=>?_) λs2 S2 hl=>K s2 ?_
  ·rcases cE.mp hi with rfl|hi
   ·exact⟨_,rfl,.mZ λ_ _=>rfl⟩
   ·obtain⟨av,e⟩:=N8 i hi
    refine⟨av,e,?_⟩;have:=h3 i hi;rw[e] at this;exact this
  ·have S3:=aY.aLl (xs:=xs) S2 ⟨_,by
    show(rZ is (cT x0 i0.lv [])).lookup x0=_
    rw[aAy hni,jW,if_pos rfl],λv h=>h⟩ gd (by rw[q3];exact .head _) q4 q5 q6 ?_ ?_
   ·refine S3.sub λz lv e=>?_
    rw[jW] at e ⊢
    by_cases hz:z=x0
    ·rw[if_pos hz] at e ⊢;exact e
    ·rw[if_neg hz] at e ⊢
     rw[<-h2,<-Jr] at e;show(rZ is (cT x0 i0.lv [])).lookup z=_
     have step:∀(is:List iB) (v1 v2:aU),(∀w,w≠x0->v1.lookup w=v2.lookup w)->∀w,w≠x0->(rZ is v1).lookup w=(rZ is v2).lookup w:=λis=>by
      induction is with
      |nil=>intro v1 v2 h w hw;exact h w hw
      |cons i is ih=>
       intro v1 v2 h w hw;refine ih _ _ (λu hu=>?_) w hw;rw[jW,jW]
       by_cases q:u=i.x
       ·rw[if_pos q,if_pos q]
       ·rw[if_neg q,if_neg q];exact h u hu
     rw[step is (cT x0 i0.lv []) [(x0,.own xs)] (λw hw=>?_) z hz]
     ·exact e
     ·rw[jW,if_neg hw,mJ,beq_eq_false_iff_ne.mpr hw]
   ·obtain⟨us,n,e,r⟩:=mB
    exact⟨us,n,hl _ _ _ (hk _ _ e),r⟩
   ·refine QN (λi hi=>?_) (λz zs h=>by simp at h)
    rcases cE.mp hi with rfl|hi
    ·exact⟨_,rfl⟩
    ·exact N8 i hi
 ·intro v s' g' aA cs own bY S wH
  have ho:=S.cQ x0 _ uO rfl;obtain⟨us,n,e,r⟩:=S.tA uO (S.kd _ _ uO);rw[ho] at e;exact K v s' g' S.keep S.ext S.ok ⟨us,n,e,r⟩ wH
end
section
variable {B:BD} {k:Nat} {A:bM} {g g':aT} {s s':aF} {aN:fM}
theorem aFh(R:dS B (k+1) A s.heap)(G:bI B g s.heap)(ho:s.heap.get? a=some o)(hd:o.data=.func fd)(kW:fd.body=.expr e)(Hh:s.heap.CodeRec fd.code fd.qualname)
 (Ih:fd.scope.isCoroutine=false) (Py:fd.scope.isGenerator=false) (Aa:fd.scope.kind=.function) (iM:(fd.scope.names.map (·.1)).Nodup) (aKb:fd.globals=jU) (aL2:fd.builtins=qM) (rD:nJ fd.scope=none)
 (fr:Gx B g s.heap fd.scope fd.closure fv) (hb:iU s fd args (is.map λi=>(i.x,i.v))) (hs:∀i∈is,iH fd.scope i.x) (hv:∀i∈is,∃av,i.lv=.val av/\VR B g i.v av)
 (he:aB B k fd.scope (rZ is fv) e r) (K:∀v s' g',bT B s g s' g'->VR B g' v r->Q v s'):aK (aW B) A (gL (.ref a) args.pos args.kw) Q E s:=by
 obtain⟨ev,eB,pD,fL⟩:=R.frames;refine xD ?_;refine kla_callFunE (by have:=R.depth;exact bV (aG [_,_,_] [.l (.u (.a .x (.u .y))) .z,.l .z .x] rfl this)) ho hd Ih Py kW Hh ?_;refine hb _ _ _ _ ?_;refine Nl λaA jJ=>?_;simp only[OL,Fj,if_false];have hL:aA.locals=s.heap.objs.size:=by rw[jJ];rfl
 have hc:aA.cells=iV (s.heap.objs.size+1) fd.scope.names []++fd.closure:=by rw[jJ];rfl
 have dC:aA.scope=fd.scope:=by rw[jJ];rfl
 have Bm:aA.frame=some s.heap.objs.size:=by rw[jJ];rfl
 have hk:∀x kd,(x,kd)∈fd.scope.names->aA.kindOf x=some kd:=λx kd h=>by
  unfold Fd;rw[dC];exact xK iM h
 have Kk:∀b o,s.heap.get? b=some o->(qA (s.heap.push {cls:=.type "frame",data:=.dict #[]}) fd.scope.names).get? b=some o:=λb o e=>Fi _ _ b o (eG _ e)
 have Qa:kD B (qA (s.heap.push {cls:=.type "frame",data:=.dict #[]}) fd.scope.names) (aA::ev::eB):=λe he=>by
  rcases cE.mp he with rfl|he
  ·refine⟨by rw[dC,Aa];nofun,s.heap.objs.size,_,Bm,G.uB (bH.jN _),(AU s.heap (.type "frame")).keeps (Fi _ _)⟩
  ·exact(fL.mono (.vJ Kk)) e he
 have S0:aY B ⟨s,g,⟨[],[]⟩,none,0,[],aA::ev::eB⟩ aA (iV (s.heap.objs.size+1) fd.scope.names []) (λ_=>0) fv g {s with heap:=qA (s.heap.push {cls:=.type "frame",data:=.dict #[]}) fd.scope.names}:=by
  refine Ul G iM fr hL hc (by rw[dC,Aa]) ?_ ?_ (λx h=>hk x _ h) (λx h=>.inl (hk x _ h)) (λb h=>(cO h).elim) rfl (λb h=>(cO h).elim) _ Qa (λe he L h=>?_)
  ·rw[jJ];exact aKb
  ·rw[jJ];exact aL2
  ·rcases cE.mp he with rfl|he
   ·cases (Bm.symm.trans h);exact .inl hL.symm
   ·obtain⟨_,L',m,h1,_,h3⟩:=fL e he
    cases (h.symm.trans h1);exact .inr (qV h3)
 have iE:∀x,iH fd.scope x->qU aA (iV (s.heap.objs.size+1) fd.scope.names []) x:=λx h=>h.imp (λq=>hk x _ (mem_of_lookup q)) λq=>Cg (mem_of_lookup q);refine Ju S0 (λi hi=>iE i.x (hs i hi)) hv λs2 S2 _=>?_;refine⟨S2.ok.le.nolimit B.nolimit,kla_codeExpr ?_⟩;have R2:dS B k (A.deeper aA) s2.heap:=⟨R.handled,by have:=R.depth;show A.depth+1+k<_;exact bV (aG [_,_,_] [.l (.u (.a .x (.u .y))) .z,.l .z (.a (.u .x) .y)] rfl this),by have:=R.units;show A.units+3+40*k<_;exact bV (aG [_,_,_] [.l (.u (.a .x (.m 40 (.u .y)))) .z,.l .z (.a (.a .x (.n 3)) (.m 40 .y))] rfl this),aA,ev::eB,by show A.frames.map _=_;rw[pD];rfl,S2.fr⟩
 have SRe:SR B aA fd.scope:=⟨λy kd h=>.inl (by unfold Fd;rw[dC];exact h),λq h=>by cases (rD.symm.trans h)⟩
 exact he (A.deeper aA) aA g s2 _ _ (S2.pre R2 SRe) λv s3 g3 X wH=>K v s3 g3 (S2.Gh.trans X) wH
end
theorem aAo(l:List aD)(h:NL l)(e:It pos (l++[mI a,mI b,c])=some cv):It pos l=some cv\/cv=c:=by
 fun_induction NL l with
 |case1=>
  simp only[Fl,It,mI] at e
  split at e
  ·cases e;exact .inr rfl
  ·cases e
 |case2 a' t b' u x eS ih=>
  simp only[Tn,It] at e ⊢
  split at e
  ·next hc=>rw[if_pos hc];exact .inl e
  ·next hc=>rw[if_neg hc];exact ih h e
 |case3 l h1 h2=>exact h.elim
def uT(B:BD)(i:Nat):Prop:=∃c P,(B.oF i).1=.ref c/\P∈B.kK/\Jl B.base c P/\B.qual P=(B.oF i).2++"<lambda>"/\jU≠P/\B.base.BuiltinsAt B.mg P
inductive Av(B:BD)(g:aT)(f:aH)(params:OX)(body:bJ)(scope:bR)(iP:List (aC×aH)):Prop
 |mk (fd:mF) (o:fQ) (h1:g f=some o) (h2:o.data=.func fd) (h3:fd.params=params) (h4:fd.body=.expr body) (h5:fd.scope=scope) (h6:fd.globals=jU) (h7:fd.builtins=qM) (h8:fd.closure=iP) (h9:fd.defaults=.none) (Zn:fd.kwdefaults=.none)
  (cc:aH) (oc:fQ) (vs:Array aD) (t:jB) (e1:fd.code=.ref cc) (e2:g cc=some oc) (e3:oc.data=.fields vs) (e4:vs[1]?=some (.str fd.qualname t))
theorem Av.mono(x:Av B g f params body scope iP)(h:g.Sub g'):Av B g' f params body scope iP:=by
 obtain⟨fd,o,h1,h2,h3,h4,h5,h6,h7,h8,h9,Zn,cc,oc,vs,t,e1,e2,e3,e4⟩:=x;exact⟨fd,o,h _ _ h1,h2,h3,h4,h5,h6,h7,h8,h9,Zn,cc,oc,vs,t,e1,h _ _ e2,e3,e4⟩
section
variable {B:BD} {k:Nat} {A:bM} {sc:bR} {vars:aU} {aA:bO} {g g':aT} {s s':aF}
theorem BuiltinsAt.le(x:B.base.BuiltinsAt mg P)(l:Le B.base B.base s.heap):s.heap.BuiltinsAt mg P:=by
 obtain⟨bm,o,h1,h2,h3,h4,h5,h6,h7,h8⟩:=x;exact⟨bm,o,h1,h2,h3,h4,l.cM h5 (jX h6 (by rw[h8];nofun)),h6,h7,h8⟩
theorem Jl.le(x:Jl B.base c P)(l:Le B.base B.base s.heap):Jl s.heap c P:=by
 obtain⟨o,vs,file,tf,flags,tg,inF,text,tt,h1,h2,h3,r⟩:=x;exact⟨o,vs,file,tf,flags,tg,inF,text,tt,l.cM h1 (jX h2 (by rw[h3];nofun)),h2,h3,r⟩
theorem aFg(yS:η scope aA=pure Xo)(Bl:aA.globals=jU)
 (hg:s.heap.Ns jU B.mg) (Kn:aA.code=.ref c) (C:Jl s.heap c P) (hP:s.heap.get? P=some (Ks ps)) (ht:NL ps.toList) (LG:jU≠P) (hb:s.heap.BuiltinsAt B.mg P)
 (cY:∀(cv tN:aD) (h':bH) (tk:jB),It pos ps.toList=some cv->(∀b o,s.heap.get? b=some o->h'.get? b=some o)->
  Q (.ref h'.objs.size) {s with heap:=h'.push {cls:=.type "function",data:=.func (kla_fn name qual params body scope Xo ((B.mg "__name__").getD .none) cv tN)},toks:=tk})
 (vY:∀(c':aH) (oc:fQ) (vs:Array aD) (t:jB) (tN:aD) (h':bH) (tk:jB),It pos ps.toList=none->OY P s.heap h'->s.heap.objs.size<=c'->h'.get? c'=some oc->oc.cls=.type "code"->oc.data=.fields vs->vs[1]?=some (.str qual t)->h'.get? P=some (Ks (ps++ #[mI pos.line,mI pos.col,.ref c']))->
  Q (.ref h'.objs.size) {s with heap:=h'.push (kla_obj name qual params body scope Xo ((B.mg "__name__").getD .none) c' tN),toks:=tk}):
 aK (aW B) A (makeFunction name qual params (.expr body) scope aA [] [] [] pos fl) Q E s:=by
 cases hf:It pos ps.toList with
 |some cv=>exact kla_makeFunctionHit yS Bl hg Kn C hP ht hf hb λtN h' tk hk _=>cY cv tN h' tk hf hk
 |none=>
  obtain⟨bm,ob,Mc,E8,_,E7,Mb,Ky,ZS,Km⟩:=hb;rw[makeFunction_eq];simp only[List.zip_nil_right,List.filterMap_nil,aOf,if_true,AZ];unfold makeTail;rw[yS,Bl];refine aM (bE ?_)
  have mD:∀(h0:bH) (tN:aD),(∀b o,s.heap.get? b=some o->h0.get? b=some o)->s.heap.objs.size<=h0.objs.size->∀c' h' tk,OY P h0 h'->h0.objs.size<=c'->h'.CodeRec (.ref c') qual->h'.TableAt c P (ps++ #[mI pos.line,mI pos.col,.ref c'])->(∃P',h0.objs.size<=P'/\h'.IsCode c' P' #[]/\h'.TableAt c' P' #[])->
   Q (.ref h'.objs.size) {s with heap:=h'.push (kla_obj name qual params body scope Xo ((B.mg "__name__").getD .none) c' tN),toks:=tk}:=by
   intro h0 tN hk hs c' h' tk hx Pz Hh kF Sa;obtain⟨P',_,_,⟨o',Az,e1,e2,e3,e4⟩,_⟩:=Sa;obtain⟨c2,o2,Xy,t2,f1,f2,f3,f4⟩:=Hh;cases f1;cases (e1.symm.trans f2);exact vY c' o' Xy t2 tN h' tk hf (λb o hb e=>hx b o hb (hk b o e)) (fD hs Pz) e1 e2 f3 f4 kF.2
  cases Xo with
  |nil=>
   simp only[aOf,if_true];refine aM (bE ?_);refine aM (aOg Kn (C.code hP ht) (C.tab hP) hf λc' h' tk hx Pz hM _ Hh kF Sa=>?_);refine aM (wpAny_builtinsFor (hg.extBut hx LG) Mc E8 (hx _ _ E7 Mb) Ky ZS Km ?_);refine aM (j5 (hg.extBut hx LG) ?_);exact aM (bE (Fk (mD s.heap .none (λ_ _ e=>e) (dH _) c' h' tk hx Pz Hh kF Sa) (by size_fits)))
  |cons q r=>
   simp only[List.isEmpty_cons,Fj,if_false];refine aM (wpAny_newTextTuple ?_);refine aM (aOg Kn ((C.keeps λb o e=>eG _ e).code (eG _ hP) ht) ((C.keeps λb o e=>eG _ e).tab (eG _ hP)) hf λc' h' tk hx Pz hM _ Hh kF Sa=>?_);have Q5:=(hg.push _).extBut hx LG;refine aM (wpAny_builtinsFor Q5 Mc E8 (hx _ _ E7 (eG _ Mb)) Ky ZS Km ?_);refine aM (j5 Q5 ?_);exact aM (bE (Fk (mD _ _ (λb o e=>eG _ e) (by rw[tT];exact jD _ _) c' h' tk hx Pz Hh kF Sa) (by size_fits)))
theorem RX(L:uT B i)(hl:nJ sc=some i)(Qc:∀aA,OZ params aA=([],[]))(fr:vM sc vars scope fv)(iM:(scope.names.map (·.1)).Nodup)(P:iQ B k A sc vars aA g s)
 (K:∀f s' g',bT B s g s' g'->Av B g' f params body scope (oV aA scope.names [])->Gx B g' s'.heap scope (oV aA scope.names []) fv->s.heap.get? f=none->(∃fd,s'.heap.get? f=some {cls:=.type "function",data:=.func fd})->Q (.ref f) s'):aK (aW B) A (eval (.Lambda params body scope pos) aA) Q E s:=by
 obtain⟨c,T,hc,hT,hC,hq,Ru,Mc⟩:=L;obtain⟨Kn,aJ8⟩:=P.sr.nP i hl;rw[hc] at Kn;obtain⟨ps,hP,KW,YD⟩:=P.ok.kK T hT
 have yS:=QI λx hx hk=>by
  obtain⟨x,kd⟩:=x;have hk:=hk;subst hk;obtain⟨_,c,_,_,h2,_⟩:=fr.cells P hx;exact⟨c,h2⟩
 have O3:B.qual T=aA.qual++"<lambda>":=by rw[hq,aJ8]
 refine kla_eval (Qc aA) (aFg yS P.aA.eH (P.ok.le.ns B.ns) Kn (Jl.le hC P.ok.le) hP KW Ru (BuiltinsAt.le Mc P.ok.le) ?_ ?_)
 ·intro cv tN h' tk hf hk
  obtain⟨cc,oc,vs,t,rfl,e2,e3,e4⟩:=YD pos cv hf;have X1:bT B s g {s with heap:=h',toks:=tk} g:=.of P.ok (.of hk) λb _=>hk b;have hh:eD ({cls:=.type "function",data:=.func (kla_fn "<lambda>" (aA.qual++"<lambda>") params body scope (oV aA scope.names []) ((B.mg "__name__").getD .none) (.ref cc) tN)}:fQ):=jX rfl (by nofun);have X2:=X1.trans (bT.push X1.ok _ hh rfl);refine K _ _ _ X2 ⟨_,_,aT.jY _ _ _,rfl,rfl,rfl,rfl,rfl,rfl,rfl,rfl,rfl,cc,oc,vs,t,rfl,?_,e3,?_⟩ (fr.run iM P X2.keep.le X2.ext.sub) ?_ ⟨_,gU _ rfl⟩
  ·exact X2.ext.sub _ _ e2
  ·show vs[1]?=some (.str (aA.qual++"<lambda>") t)
   rw[<-O3];exact e4
  ·cases q:s.heap.get? h'.objs.size with
   |none=>rfl
   |some o=>exact absurd (gS (hk _ o q)) (sR _)
 ·intro c' oc vs t tN h' tk hf hx Bl rI Ky hd h1 kF
  have dD:c'≠T:=λq=>by
   rw[q] at Bl;exact absurd (gS hP) (pH.mpr Bl)
  have Ry:=Jq Bl
  have hct:isCodeTable B.base T:=by
   obtain⟨o,vs,_,_,_,_,_,_,_,q1,q2,q3,q4,_⟩:=hC;exact⟨c,o,vs,q1,q2,q3,q4⟩
  have le:Le B.base s.heap h':=λb o e=>by
   by_cases hb:b=T
   ·obtain rfl:=hb.symm
    cases (hP.symm.trans e);exact .inr (.inr ⟨ps,_,rfl,λ_=>hct,kF⟩)
   ·exact .inl (hx b o hb e)
  have ho:=jX Ky (by rw[hd];nofun);have f1:=P.ok.fresh Ry
  have gT:∀o,g T≠some o:=λo e=>by
   have:=P.ok.sub T o e;rw[hP] at this;obtain⟨q1,q2⟩:=this;cases q1;rcases q2.1 with q|⟨_,q⟩
   ·exact q rfl
   ·cases q
  have px:=fU.eF oc f1 Ry
  have G1:bI B (g.eF c' oc) h':=by
   refine⟨λb o e hh=>px.sub _ _ (P.ok.base b o e hh),λb o e=>?_,P.ok.le.trans le,λb hb=>?_⟩
   ·have e:(if b=c' then some oc else g b)=some o:=e
    by_cases q:b=c'
    ·obtain rfl:=q.symm;cases ((if_pos rfl).symm.trans e);exact⟨rI,ho⟩
    ·rw[if_neg q] at e
     have LY:b≠T:=λq=>gT o (q▸e);exact⟨hx b o LY (P.ok.sub b o e).1,(P.ok.sub b o e).2⟩
   ·by_cases q:b=T
    ·obtain rfl:=q.symm
     refine⟨_,kF,by rw[PB];exact TriplesOk_snoc _ _ _ _ KW,λB5 cv e=>?_⟩;rw[PB] at e;rcases aAo _ KW e with e|rfl
     ·obtain⟨cc,oc',Az,t',e1,e2,e3,e4⟩:=YD B5 cv e
      exact⟨cc,oc',Az,t',e1,px.sub _ _ e2,e3,e4⟩
     ·exact⟨c',oc,vs,t,rfl,aT.jY _ _ _,hd,by rw[O3];exact h1⟩
    ·obtain⟨ps',q1,q2⟩:=P.ok.kK b hb
     exact⟨ps',hx b _ q q1,q2.mono px.sub⟩
  have X1:bT B s g {s with heap:=h',toks:=tk} (g.eF c' oc):=⟨⟨le,.refl _,rfl⟩,px,G1⟩
  have hh:eD (kla_obj "<lambda>" (aA.qual++"<lambda>") params body scope (oV aA scope.names []) ((B.mg "__name__").getD .none) c' tN):=jX rfl (by nofun);have X2:=X1.trans (bT.push X1.ok _ hh rfl)
  have aLs:c'≠h'.objs.size:=λq=>by
   have:=gS rI;rw[q] at this;exact sR _ this
  refine K _ _ _ X2 ⟨_,_,aT.jY _ _ _,rfl,rfl,rfl,rfl,rfl,rfl,rfl,rfl,rfl,c',oc,vs,t,rfl,?_,hd,h1⟩ (fr.run iM P X2.keep.le X2.ext.sub) ?_ ⟨_,gU _ rfl⟩
  ·exact(Oj aLs).trans (aT.jY _ _ _)
  ·cases q:s.heap.get? h'.objs.size with
   |none=>rfl
   |some o=>
    by_cases hb:h'.objs.size=T
    ·exact absurd (gS kF) (by rw[<-hb];exact sR _)
    ·exact absurd (gS (hx _ o hb q)) (sR _)
theorem UC(L:uT B i)(hl:nJ sc=some i)(Qc:∀aA,OZ params aA=([],[]))(fr:vM sc vars scope fv)(iM:(scope.names.map (·.1)).Nodup)(P:iQ B k A sc vars aA g s)
 (K:∀f s' g',bT B s g s' g'->Av B g' f params body scope (oV aA scope.names [])->Gx B g' s'.heap scope (oV aA scope.names []) fv->Q (.ref f) s'):aK (aW B) A (eval (.Lambda params body scope pos) aA) Q E s:=
 RX L hl Qc fr iM P λf s' g' X hv hr _ _=>K f s' g' X hv hr
end
end
section
open PySem PySem.Calls PySem.W PyProof.Rows
def TW(n:Nat)(rk:Nat->Int){α:Type}:KasT α->(α->Prop)->Prop
 |.ret a,Q=>Q a
 |.ask i j k,Q=>i<n/\j<n/\TW n rk (k (decide (rk i<rk j))) Q
section
variable {n:Nat} {rk:Nat->Int} {α β:Type}
theorem TW.bind:∀{t:KasT α},TW n rk t (λa=>TW n rk (f a) Q)->TW n rk (t.bind f) Q
 |.ret a,h=>h
 |.ask i j k,h=>⟨h.1,h.2.1,TW.bind h.2.2⟩
theorem TW.mono(hq:∀a,Q a->Q' a):∀{t:KasT α},TW n rk t Q->TW n rk t Q'
 |.ret a,h=>hq a h
 |.ask i j k,h=>⟨h.1,h.2.1,TW.mono hq h.2.2⟩
noncomputable def KA(rk:Nat->Int)(p:Array Nat)(i:Nat):Int:=rk (p.getD i 0)
structure PA(n:Nat)(p:Array Nat):Prop where
 perm:p.toList.Perm (bX n)
theorem PA.size(h:PA n p):p.size=n:=by simpa using h.perm.length_eq
theorem PA.lt(h:PA n p)(hi:i<n):p.getD i 0<n:=by
 have hs:=h.size;have e:p.getD i 0=p[i]:=by simp[PC,hs,hi]
 rw[e];have:p[i]∈p.toList:=by rw[<-Array.getElem_toList];exact Ft _
 exact fY.mp (h.perm.mem_iff.mp this)
theorem PA.ne(h:PA n p)(hi:i<n)(hj:j<n)(dO:i≠j):p.getD i 0≠p.getD j 0:=by
 have hs:=h.size;have nd:=h.perm.nodup_iff.mpr BA;have e1:p.getD i 0=p.toList[i]'(by simpa [hs] using hi):=by simp[PC,hs,hi]
 have e2:p.getD j 0=p.toList[j]'(by simpa [hs] using hj):=by simp[PC,hs,hj]
 rw[e1,e2];intro q;exact dO ((List.getElem_inj nd).mp q)
theorem PA.of(h:PA n p)(hq:q.Perm p):PA n q:=⟨(Array.perm_iff_toList_perm.mp hq).trans h.perm⟩
def Up(rk:Nat->Int)(p:Array Nat)(k:Nat):Prop:=∀i j,i<=j->j<k->KA rk p i<=KA rk p j
def Dn(rk:Nat->Int)(p:Array Nat)(k:Nat):Prop:=∀i j,i<=j->j<k->KA rk p j<=KA rk p i
def qK(n:Nat)(rk:Nat->Int):Prop:=∀i j,i<n->j<n->i≠j->rk i≠rk j
theorem A3(hi:qK n rk)(h:PA n p)(eV:i<n)(hj:j<n)(dO:i≠j):KA rk p i≠KA rk p j:=hi _ _ (h.lt eV) (h.lt hj) (h.ne eV hj dO)
theorem XB(h:PA n p):∀(f m:Nat),1<=m->m+f=n->Up rk p m->TW n rk (kas_asc p f m) (λr=>m<=r/\r<=n/\Up rk p r/\(r<n->KA rk p r<KA rk p (r-1))):=by
 intro f;induction f with
 |zero=>
  intro m h1 h2 hu;exact⟨dH _,by exact aV (aG [_,_] [.e (.a .x .o) .y,.l (.u .y) .x] rfl h2),hu,λq=>by exact pF (cG [_,_] [_,_] [.O (.f (.a .x .o) .y),.O (.l (.u .x) .y),.L 0 .x .y] rfl h2 q)⟩
 |succ f ih=>
  intro m h1 h2 hu;refine⟨h.lt (bV (aG [_,_,_] [.e (.a .x (.u .y)) .z,.l .z .x] rfl h2)),h.lt (bV (aG [_,_,_,_] [.e (.a .x (.u .y)) .z,.e (.u .w) .x,.l .z .w] rfl h2 (bC (h1)))),?_⟩
  by_cases hc:rk (p.getD m 0)<rk (p.getD (m-1) 0)
  ·rw[decide_eq_true hc];dsimp only;rw[if_pos rfl]
   exact⟨dH _,by exact aV (aG [_,_,_] [.e (.a .x (.u .y)) .z,.l (.u .z) .x] rfl h2),hu,λ_=>hc⟩
  ·rw[decide_eq_false hc];dsimp only;rw[if_neg nofun]
   refine(ih (m+1) (aV (aG [_] [.l (.u (.u .x)) .i] rfl)) (eQ (aG [_,_,_] [.f (.a .x (.u .y)) .z,.l (.u (.a (.u .x) .y)) .z] rfl h2) (aG [_,_,_] [.e (.a .x (.u .y)) .z,.l (.u .z) (.a (.u .x) .y)] rfl h2)) λi j dO hj=>?_).mono λr q=>⟨by exact eO q.1,q.2⟩
   by_cases Lv:j<m
   ·exact hu i j dO Lv
   ·have:j=m:=eQ (aG [_,_] [.m .x .y,.l (.u .x) .y] rfl Lv) (aG [_,_] [.l (.u .x) (.u .y),.l (.u .y) .x] rfl hj)
    subst this
    by_cases wA:i=j
    ·subst wA;exact Er _
    ·have yT:=hu i (j-1) (Vw dO wA) (Ra (bC (h1)))
     have nC:KA rk p (j-1)<=KA rk p j:=by unfold KA;exact lF (cG [] [_,_] [.m .x .y,.l (.u .x) .y] rfl hc)
     exact rM yT nC
theorem aGp(hI:qK n rk)(h:PA n p):∀(f m:Nat),1<=m->m+f=n->Dn rk p m->TW n rk (kas_desc f p m 0) (λr=>r.1=p/\r.2.2=0/\m<=r.2.1/\r.2.1<=n/\Dn rk p r.2.1):=by
 intro f;induction f with
 |zero=>
  intro m h1 h2 hu;exact⟨rfl,rfl,dH _,by show m<=n;exact aV (aG [_,_] [.e (.a .x .o) .y,.l (.u .y) .x] rfl h2),hu⟩
 |succ f ih=>
  intro m h1 h2 hu;refine⟨h.lt (bV (aG [_,_,_] [.e (.a .x (.u .y)) .z,.l .z .x] rfl h2)),h.lt (bV (aG [_,_,_,_] [.e (.a .x (.u .y)) .z,.e (.u .w) .x,.l .z .w] rfl h2 (bC (h1)))),?_⟩
  by_cases hc:rk (p.getD m 0)<rk (p.getD (m-1) 0)
  ·rw[decide_eq_true hc];dsimp only;rw[if_pos rfl,if_neg (by decide)]
   refine(ih (m+1) (aV (aG [_] [.l (.u (.u .x)) .i] rfl)) (eQ (aG [_,_,_] [.f (.a .x (.u .y)) .z,.l (.u (.a (.u .x) .y)) .z] rfl h2) (aG [_,_,_] [.e (.a .x (.u .y)) .z,.l (.u .z) (.a (.u .x) .y)] rfl h2)) λi j dO hj=>?_).mono λr q=>⟨q.1,q.2.1,by exact eO q.2.2.1,q.2.2.2⟩
   by_cases Lv:j<m
   ·exact hu i j dO Lv
   ·have:j=m:=eQ (aG [_,_] [.m .x .y,.l (.u .x) .y] rfl Lv) (aG [_,_] [.l (.u .x) (.u .y),.l (.u .y) .x] rfl hj)
    subst this
    by_cases wA:i=j
    ·subst wA;exact Er _
    ·have yT:=hu i (j-1) (Vw dO wA) (Ra (bC (h1)))
     have nC:KA rk p j<=KA rk p (j-1):=by unfold KA;exact lF (cG [] [_,_] [.l (.u .x) .y,.l (.u .y) .x] rfl hc)
     exact rM nC yT
  ·rw[decide_eq_false hc];dsimp only;rw[if_neg nofun]
   refine⟨h.lt (bV (aG [_,_,_,_] [.e (.a .x (.u .y)) .z,.e (.u .w) .x,.l .z .w] rfl h2 (bC (h1)))),h.lt (bV (aG [_,_,_] [.e (.a .x (.u .y)) .z,.l .z .x] rfl h2)),?_⟩;have dD:=A3 hI h (bV (aG [_,_,_] [.e (.a .x (.u .y)) .z,.l .z .x] rfl h2)) (bV (aG [_,_,_,_] [.e (.a .x (.u .y)) .z,.e (.u .w) .x,.l .z .w] rfl h2 (bC (h1)))) (aG [_,_] [.e (.u .x) .y,.e .y .x] rfl (bC (h1)));unfold KA at dD;rw[decide_eq_true (W8.mpr ⟨pG.mp hc,dD.symm⟩)];dsimp only;rw[if_pos rfl];exact⟨rfl,rfl,dH _,by show m<=n;exact aV (aG [_,_,_] [.e (.a .x (.u .y)) .z,.l (.u .z) .x] rfl h2),hu⟩
theorem VQ(hm:m<=p.size)(i:Nat):(kas_rev p 0 m).getD i 0=if i<m then p.getD (m-1-i) 0 else p.getD i 0:=by
 have:=getElem?_mirror_all (i:=0) hm i;unfold kas_rev;simp only[aOh,this]
 by_cases h:i<m
 ·simp[h]
 ·simp[h]
theorem aEb(h:PA n p)(h1:1<=m)(hm:m<=n)(hd:Dn rk p m):TW n rk (kas_tail3 m n p) (λr=>1<=r.1/\r.1<=n/\PA n r.2/\Up rk r.2 r.1):=by
 unfold kas_tail3;have hs:=h.size;have hp:PA n (kas_rev p 0 m):=h.of (mirror_perm _ _ _ _);refine TW.bind ((XB hp (n-m) m h1 (eQ (aG [_,_,_] [.f (.a .x .y) .z,.l (.u (.a .y .x)) .z] rfl (bC (hm))) (aG [_,_,_] [.e (.a .x .y) .z,.l (.u .z) (.a .y .x)] rfl (bC (hm)))) λi j dO hj=>?_).mono λr q=>⟨by show 1<=r;exact aV (aG [_,_] [.l .i .x,.l .x .y,.l (.u .y) .i] rfl h1 q.1),q.2.1,hp,q.2.2.1⟩);unfold KA;rw[VQ (by exact aV (aG [_,_,_] [.l .x .y,.f .z .y,.l (.u .z) .x] rfl hm hs)),VQ (by exact aV (aG [_,_,_] [.l .x .y,.f .z .y,.l (.u .z) .x] rfl hm hs)),if_pos (pZ dO hj),if_pos hj];exact hd (m-1-j) (m-1-i) (aV (aG [_,_,_,_,_] [.l .x .y,.f (.a .z .x) .w,.e (.a .p .y) .w,.l (.u .z) .p] rfl dO (bC (aV (aG [_,_,_,_] [.l .x .y,.l (.u .y) .z,.f (.u .w) .z,.l (.u .w) .x] rfl dO hj (bC (qQ hj))))) (bC (aV (aG [_,_,_] [.l (.u .x) .y,.f (.u .z) .y,.l (.u .z) .x] rfl hj (bC (qQ hj))))))) (bV (aG [_,_,_,_] [.e (.u .x) .y,.e (.a .z .w) .x,.l .y .z] rfl (bC (qQ hj)) (bC (aV (aG [_,_,_,_] [.l .x .y,.l (.u .y) .z,.f (.u .w) .z,.l (.u .w) .x] rfl dO hj (bC (qQ hj)))))))
theorem aEd(hI:qK n rk)(h1:1<=n)(h:PA n p):TW n rk (kas_count n p) (λr=>1<=r.1/\r.1<=n/\PA n r.2/\Up rk r.2 r.1):=by
 unfold kas_count;refine TW.bind ((XB h (n-1) 1 (dH _) (eQ (aG [_,_] [.f (.u .x) .y,.l (.u (.a .i .x)) .y] rfl (bC (h1))) (aG [_,_] [.e (.u .x) .y,.l (.u .y) (.a .i .x)] rfl (bC (h1)))) λi j dO hj=>?_).mono λr q=>?_)
 ·have:i=j:=eQ (aG [_,_] [.l (.u .x) .i,.l (.u .y) .x] rfl hj) (aG [_,_] [.l .x .y,.l (.u .y) .x] rfl dO)
  subst this;exact Er _
 ·obtain⟨q1,q2,q3,q4⟩:=q
  by_cases hr:r=n
  ·subst hr
   rw[if_pos (by simp)];exact⟨q1,q2,h,q3⟩
  ·rw[if_neg (by simpa using hr)]
   by_cases yO:r>1
   ·rw[if_pos yO]
    refine⟨h.lt (bV (aG [_,_] [.l .x .y,.l (.u .i) .x,.l .y .o] rfl q2 yO)),h.lt (bV (aG [_,_,_] [.l .x .y,.e (.u .z) .x,.l .y .z] rfl q2 (bC (eO yO)))),?_⟩;have sN:=q3 0 (r-1) (iR _) (Ra (bC (eO yO)));have dD:=A3 hI h (bV (aG [_,_] [.l .x .y,.l (.u .i) .x,.l .y .o] rfl q2 yO)) (bV (aG [_,_,_] [.l .x .y,.e (.u .z) .x,.l .y .z] rfl q2 (bC (eO yO)))) (aG [_,_] [.l (.u .i) .x,.f (.u .y) .x,.f .o .y] rfl yO (bC (eO yO)));unfold KA at sN dD;rw[decide_eq_true (W8.mpr ⟨sN,dD⟩)];dsimp only;rw[if_pos rfl];exact⟨q1,q2,h,q3⟩
   ·rw[if_neg yO]
    have er:r=1:=eQ (aG [_] [.l .i .x,.l (.u .x) .i] rfl q1) (aG [_] [.m .i .x,.l (.u .i) .x] rfl yO);subst er;unfold kas_descPart;have h4:=q4 (qL h1 hr);refine TW.bind ((aGp hI h (n-(1+1)) (1+1) (aV (aG [] [.l (.u (.u .i)) .i] rfl)) (PD (qL h1 hr)) λi j dO hj=>?_).mono λr q=>?_)
    ·by_cases wA:i=j
     ·subst wA;exact Er _
     ·have e1:i=0:=Nat.lt_one_iff.mp (qO (qL dO wA) (vB hj))
      have e2:j=1:=ND (vB hj) (aMv λq=>wA (e1.trans q.symm));subst e1;subst e2;exact zB h4
    ·obtain⟨e1,e2,e3,e4,e5⟩:=q
     rw[e2,if_neg (by decide),e1];exact aEb h (eO e3) e4 e5
theorem aEc(h:PA n p)(hk:k<n)(hu:Up rk p k):∀(f l r:Nat),l<=r->r<=k->r-l<=f->(∀i,i<l->KA rk p i<=KA rk p k)->(∀i,r<=i->i<k->KA rk p k<KA rk p i)->
 TW n rk (kas_place p k f l r) (λl'=>l'<=k/\(∀i,i<l'->KA rk p i<=KA rk p k)/\∀i,l'<=i->i<k->KA rk p k<KA rk p i):=by
 intro f;induction f with
 |zero=>
  intro l r h1 h2 h3 h4 h5;have:r=l:=eQ (aG [_,_] [.l .x .y,.l (.u .y) .x] rfl h1) (aG [_,_,_] [.l .x .o,.f (.a .x .y) .z,.l (.u .y) .z] rfl h3 (bC (h1)));subst this;exact⟨h2,h4,h5⟩
 |succ f ih=>
  intro l r h1 h2 h3 h4 h5;unfold kas_place
  by_cases Yu:l>=r
  ·rw[if_pos Yu]
   have:r=l:=eQ (aG [_,_] [.l .x .y,.l (.u .y) .x] rfl h1) (aG [_,_] [.l .x .y,.l (.u .y) .x] rfl Yu);subst this;exact⟨h2,h4,h5⟩
  ·rw[if_neg Yu]
   refine⟨h.lt hk,h.lt (bV (aG [_,_,_,_,_,_] [.L 2 (.u .x) .y,.l .z .w,.L 2 .w .x,.e (.a (.m 2 .p) .q) (.a .z .w),.L 2 .y .p] rfl hk h1 h2 (iK _ 2))),?_⟩;have hm:l<=(l+r)/2/\(l+r)/2<r:=⟨aV (aG [_,_,_,_] [.l .x .y,.f (.a (.m 2 .z) .w) (.a .x .y),.l (.u .w) (.n 2),.L 2 (.u .z) .x] rfl h1 (iK _ 2) (gY _ (sW 1))),bV (aG [_,_,_,_] [.N 1 .x .y,.e (.a (.m 2 .z) .w) (.a .y .x),.L 2 .x .z] rfl Yu (iK _ 2))⟩
   by_cases hc:rk (p.getD k 0)<rk (p.getD ((l+r)/2) 0)
   ·rw[decide_eq_true hc];dsimp only;rw[if_pos rfl]
    refine ih l _ hm.1 (aV (aG [_,_,_] [.l .x .y,.l (.u .z) .x,.l (.u .y) .z] rfl h2 hm.2)) (aV (aG [_,_,_,_,_,_] [.l .x (.u .y),.l (.u .z) .w,.e (.a .p .q) .z,.f (.a .x .q) .w,.l (.u .y) .p] rfl h3 hm.2 (bC (hm.1)) (bC (h1)))) h4 λi hi1 yQ=>?_;have:=hu ((l+r)/2) i hi1 yQ;exact Ml (hc) this
   ·rw[decide_eq_false hc];dsimp only;rw[if_neg nofun]
    refine ih _ r (hm.2) h2 (aV (aG [_,_,_,_,_,_] [.l .x (.u .y),.l .z .w,.e (.a .p (.u .w)) .q,.f (.a .x .z) .q,.l (.u .y) .p] rfl h3 hm.1 (bC (hm.2)) (bC (h1)))) (λi hi=>?_) h5;have:=hu i ((l+r)/2) (aV (aG [_,_] [.l (.u .x) (.u .y),.l (.u .y) .x] rfl hi)) (bV (aG [_,_,_] [.l .x .y,.l (.u .z) .x,.l .y .z] rfl h2 hm.2));have h':KA rk p ((l+r)/2)<=KA rk p k:=by unfold KA;exact lF (cG [] [_,_] [.m .x .y,.l (.u .x) .y] rfl hc)
    exact rM this h'
theorem WR(hk:k<p.size)(hd:d<=k)(i:Nat):(bubble p k d).getD i 0=if i=k-d then p.getD k 0 else if k-d<i/\i<=k then p.getD (i-1) 0 else p.getD i 0:=by
 have:=getElem?_bubble hk d hd i;simp only[aOh,this]
 split
 ·rfl
 ·split<;>rfl
theorem aIj(hI:qK n rk):∀(f k:Nat) {p:Array Nat},PA n p->k+f=n->Up rk p k->TW n rk (kas_bin f p k) (λp'=>PA n p'/\Up rk p' n):=by
 intro f;induction f with
 |zero=>
  intro k p h hk hu;have:k=n:=hk;subst this;exact⟨h,hu⟩
 |succ f ih=>
  intro k p h hk hu;have hs:=h.size;refine TW.bind ((aEc h (by exact bV (aG [_,_,_] [.e (.a .x (.u .y)) .z,.l .z .x] rfl hk)) hu k 0 k (by exact iR _) (dH _) (by exact aV (aG [_,_] [.e (.a .x .o) .y,.l (.u .y) .x] rfl (bC (iR _)))) (λi hi=>by exact lF (cG [_] [_,_] [.O (.l (.u .x) .o),.L 0 (.u .x) .y] rfl hi)) (λi h1 h2=>by exact pF (cG [_,_] [_,_] [.O (.l .x .y),.O (.l (.u .y) .x),.L 0 .x .y] rfl h1 h2))).mono λl q=>?_);obtain⟨q1,q2,q3⟩:=q;refine ih (k+1) (h.of (bubble_perm _ _ _)) (by exact eQ (aG [_,_,_] [.f (.a .x (.u .y)) .z,.l (.u (.a (.u .x) .y)) .z] rfl hk) (aG [_,_,_] [.e (.a .x (.u .y)) .z,.l (.u .z) (.a (.u .x) .y)] rfl hk)) λi j dO hj=>?_;unfold KA;rw[WR (by exact bV (aG [_,_,_,_] [.e (.a .x (.u .y)) .z,.f .w .z,.l .w .x] rfl hk hs)) (by exact aV (aG [_,_,_] [.e (.a .x .y) .z,.l (.u .z) .x] rfl (bC (q1)))),WR (by exact bV (aG [_,_,_,_] [.e (.a .x (.u .y)) .z,.f .w .z,.l .w .x] rfl hk hs)) (by exact aV (aG [_,_,_] [.e (.a .x .y) .z,.l (.u .z) .x] rfl (bC (q1))))];have e:k-(k-l)=l:=eQ (aG [_,_,_,_] [.e (.a .x .y) .z,.f (.a .w .x) .z,.l (.u .w) .y] rfl (bC (q1)) (bC (aV (aG [_,_,_] [.e (.a .x .y) .z,.l (.u .z) .x] rfl (bC (q1)))))) (aG [_,_,_,_] [.f (.a .x .y) .z,.e (.a .w .x) .z,.l (.u .y) .w] rfl (bC (q1)) (bC (aV (aG [_,_,_] [.e (.a .x .y) .z,.l (.u .z) .x] rfl (bC (q1))))));rw[e];unfold Up KA at hu;unfold KA at q2 q3
  by_cases h1:i=l
  ·subst h1
   rw[if_pos rfl]
   by_cases h2:j=i
   ·rw[if_pos h2];exact Er _
   ·rw[if_neg h2,if_pos (⟨qL dO λe=>h2 e.symm,vB hj⟩)]
    exact zB (q3 (j-1) (Vw dO λe=>h2 e.symm) (qO (W5 (pZ (iR i) (qL dO λe=>h2 e.symm)) Nat.one_pos) (vB hj)))
  ·rw[if_neg h1]
   by_cases h2:l<i/\i<=k
   ·rw[if_pos h2,if_neg (by exact aG [_,_,_] [.l .x .y,.l (.u .z) .x,.e .y .z] rfl dO h2.1),if_pos (⟨bV (aG [_,_,_] [.l .x .y,.l (.u .z) .x,.l .y .z] rfl dO h2.1),aV (aG [_,_] [.l (.u .x) (.u .y),.l (.u .y) .x] rfl hj)⟩)]
    exact hu (i-1) (j-1) (aV (aG [_,_,_,_] [.l .x .y,.f (.u .z) .y,.e (.u .w) .x,.l (.u .z) .w] rfl dO (bC (aV (aG [_,_,_,_,_] [.l .x .y,.l (.u .z) .x,.e (.a .w .z) .p,.f (.a .w .z) .p,.l (.u .y) .i] rfl dO h2.1 (bC (q1)) (bC (q1))))) (bC (aV (aG [_,_,_,_] [.l (.u .x) .y,.e (.a .z .x) .w,.f (.a .z .x) .w,.l (.u .y) .i] rfl h2.1 (bC (q1)) (bC (q1))))))) (bV (aG [_,_,_] [.l (.u .x) (.u .y),.e (.u .z) .x,.l .y .z] rfl hj (bC (aV (aG [_,_,_,_,_] [.l .x .y,.l (.u .z) .x,.e (.a .w .z) .p,.f (.a .w .z) .p,.l (.u .y) .i] rfl dO h2.1 (bC (q1)) (bC (q1)))))))
   ·rw[if_neg h2]
    by_cases h3:j=l
    ·rw[if_pos h3];exact q2 i (qL (h3▸dO) h1)
    ·rw[if_neg h3]
     by_cases h4:l<j/\j<=k
     ·rw[if_pos h4];exact hu i (j-1) (Vw dO λe=>h2 (e▸h4)) (bV (aG [_,_,_] [.l (.u .x) (.u .y),.e (.u .z) .x,.l .y .z] rfl hj (bC (aV (aG [_,_,_,_] [.l (.u .x) .y,.e (.a .z .x) .w,.f (.a .z .x) .w,.l (.u .y) .i] rfl h4.1 (bC (q1)) (bC (q1)))))))
     ·rw[if_neg h4];exact hu i j dO (qO (qL (Ep λq=>h4 ⟨q,vB hj⟩) h3) q1)
theorem aGo(hI:qK n rk)(h1:1<=n):TW n rk (PE n) (λp=>PA n p/\Up rk p n):=by
 unfold PE;have h:PA n (Jg (bX n)):=⟨by simp⟩
 refine TW.bind ((aEd hI h1 h).mono λr q=>?_);obtain⟨q1,q2,q3,q4⟩:=q
 by_cases hr:r.1<n
 ·rw[if_pos hr]
  have:max r.1 1=r.1:=Nat.max_eq_left q1;rw[this];exact aIj hI _ _ q3 (eQ (aG [_,_,_] [.f (.a .x .y) .z,.l (.u (.a .y .x)) .z] rfl (bC (q2))) (aG [_,_,_] [.e (.a .x .y) .z,.l (.u .z) (.a .y .x)] rfl (bC (q2)))) q4
 ·rw[if_neg hr]
  have:r.1=n:=eQ (aG [_,_] [.m .x .y,.l (.u .x) .y] rfl hr) (aG [_,_] [.l .x .y,.l (.u .y) .x] rfl q2);rw[this] at q4;exact⟨q3,q4⟩
theorem TW.M9{cZ:Nat->Nat->(Bool->aF->Prop)->aF->Prop}{I:aF->Prop}(hc:∀i j C s,i<n->j<n->I s->(∀s',I s'->C (decide (rk i<rk j)) s')->cZ i j C s){Q:α->aF->Prop}:∀{t:KasT α} {P:α->Prop} {s:aF},TW n rk t P->I s->(∀a s',P a->I s'->Q a s')->t.kasWp cZ Q s
 |.ret a,P,s,h,hi,k=>k a s h hi
 |.ask i j f,P,s,h,hi,k=>hc i j _ s h.1 h.2.1 hi λs' eV=>TW.M9 hc h.2.2 eV k
end
end
section
open PySem PySem.Calls PySem.W PyProof.Rows PySem.SeqAt
noncomputable def qF:List Int->List Int->Bool
 |a::l,b::m=>if a=b then qF l m else decide (a<b)
 |_,_=>false
theorem Kb:qF (a::l) (b::m)=if a=b then qF l m else decide (a<b):=rfl
section
variable {prog:iS} {w:iI} {A:bM} {E:aD->aF->Prop} {s:aF} {mD:Bool} {Q:Bool->aF->Prop}
theorem aBw(hf:mD=false)(h1:Tj xs l):∀{ys:List aD} {m:List Int} {i:Nat},Tj ys m->l.length=m.length->Q (qF l m) s->KatLex prog w A true mD Q (xs.zip ys) i s:=by
 induction h1 with
 |nil=>
  intro ys m i h2 hl h;cases h2 with
  |nil=>subst hf;exact kat_nil h
  |cons=>cases hl
 |cons a t r ih=>
 intro ys m i h2 hl h;cases h2 with
 |nil=>cases hl
 |cons b u r'=>
  refine kat_cons (wpAny_eqBool_int ?_);rw[Kb] at h
  by_cases vA:a=b
  ·have e:(a==b)=true:=by simpa using vA
   rw[e];rw[if_pos vA] at h;exact kat_yes (ih r' (AY hl) h)
  ·have e:(a==b)=false:=by simpa using vA
   rw[e];rw[if_neg vA] at h;refine kat_no ?_
   by_cases hi:i=0
   ·subst hi
    exact oneLt_int h
   ·have:(true&&i==0)=false:=by simpa using hi
    rw[this];exact kat_one _ _ (lt_int h)
end
section
variable {B:BD} {k:Nat} {A:bM} {sc:bR} {vars:aU} {aA:bO} {g g':aT} {s s':aF}
def IsTup(g:aT)(v:aD)(l:List Int):Prop:=∃a us n,v=.ref a/\g a=some (gA us n)/\Tj us.toList l
theorem IsTup.of(h:VR B g v (.cD (bW l))):IsTup g v l:=by
 obtain⟨_,_,_,rfl,ho,r⟩:=VR.bB h;exact⟨_,_,_,rfl,ho,by simpa using r.Vi⟩
theorem aJo(hx:IsTup g x l)(hy:IsTup g y m)(hl:l.length=m.length)(hk:∀b us n,g b=some (gA us n)->s.heap.get? b=some (gA us n))(h:Q (qF l m) s):
 aK (aW B) A (keyLt' (tuples' true) x y) Q E s:=by
 obtain⟨a,us,n,rfl,ha,ia⟩:=hx;obtain⟨b,ws,c,rfl,hb,ib⟩:=hy;refine kat_lt (hk _ _ _ ha) rfl (hk _ _ _ hb) rfl (aBw ?_ ia ib hl h);have h1:=ia.length;have h2:=ib.length;simp at h1 h2;simp;exact aV (aG [_,_,_,_] [.f .x .y,.f .z .x,.e .w .y,.l (.u .z) .w] rfl hl h1 h2)
inductive uG(g:aT):List aD->List (List Int)->Prop where
 |nil:uG g [] []
 |cons {v:aD} {l:List Int} {vs:List aD} {ls:List (List Int)}:IsTup g v l->uG g vs ls->uG g (v::vs) (l::ls)
theorem uG.of(h:bD B g vs (ls.map λl=>.cD (bW l))):uG g vs ls:=by
 induction ls generalizing vs with
 |nil=>obtain rfl:=bD.bB h;exact .nil
 |cons l ls ih=>obtain⟨_,_,rfl,a,r⟩:=bD.bB h;exact .cons (.of a) (ih r)
theorem uG.get(h:uG g vs ls):∀{i:Nat},i<ls.length->IsTup g (vs.getD i .none) (ls.getD i []):=by
 induction h with
 |nil=>intro i hi;simp at hi
 |cons a r ih=>
  intro i hi;cases i with
  |zero=>exact a
  |succ i=>simpa using ih (by simpa using hi)
theorem uG.kat(h:uG g vs ls)(dD:∀l∈ls,l≠[])(hk:∀b us n,g b=some (gA us n)->s.heap.get? b=some (gA us n)):∃fs,KatTups s.heap vs fs/\fs.length=ls.length/\∀f∈fs,∃i t,f=.int i t:=by
 induction h with
 |nil=>exact⟨[],.nil,rfl,λf hf=>nomatch hf⟩
 | @cons v l vs ls a r ih=>
  obtain⟨fs,h1,h2,h3⟩:=ih λl hl=>dD l (.tail _ hl);obtain⟨b,us,n,rfl,hb,ib⟩:=a;have hl:=dD l (.head _);obtain⟨us⟩:=us;cases ib with
  |nil=>exact absurd rfl hl
  |cons t rr=>
   refine⟨.int t rr::fs,.cons (hk _ _ _ hb) rfl rfl (by simp) h1,by simp[h2],λf hf=>?_⟩;rcases cE.mp hf with rfl|hf
   ·exact⟨_,_,rfl⟩
   ·exact h3 f hf
theorem aC7:lP M h (vF (.int i t)) (.type "int"):=lP.now
theorem TC(h:uG g ks ls)(hn:ls.length=n)(h1:1<=n)(hc:∀l∈ls,l.length=c+1)(yD:qK n rk)
 (yN:∀i j,i<n->j<n->qF (ls.getD i []) (ls.getD j [])=decide (rk i<rk j)) (hk:∀b us m,g b=some (gA us m)->s.heap.get? b=some (gA us m)) (hG:∀p,PA n p->Up rk p n->G p s):
 aK (aW B) A (keyKind' ks.toArray) (λκ s'=>(PE n).kasWp (kas_ask B.prog B.w A κ ks) G s') (λ_ _=>False) s:=by
 obtain⟨fs,t1,t2,t3⟩:=h.kat (s:=s) (λl hl e=>by have:=hc l hl;rw[e] at this;simp at this) hk;refine kat_kind t1 (bV (aG [_,_,_] [.f .x .y,.l .i .y,.f .z .x,.l .z .o] rfl hn h1 t2)) (T:=.type "int") (λv hv=>?_) (by decide) ?_
 ·obtain⟨i,t,rfl⟩:=t3 v hv
  exact aC7
 ·have e:(Fu "int" !=Fu "tuple")=true:=by decide
  rw[e];refine TW.M9 (λi j C s' hi hj hs hC=>?_) (aGo yD h1) rfl λp s' hp hs=>by subst hs;exact hG p hp.1 hp.2
  subst hs;have li:(ls.getD i []).length=c+1:=hc _ (by rw[iJ,oO (wG hn hi)];exact Ft _);have lj:(ls.getD j []).length=c+1:=hc _ (by rw[iJ,oO (wG hn hj)];exact Ft _);refine aJo (h.get (wG hn hi)) (h.get (wG hn hj)) (eQ (aG [_,_,_] [.f .x (.u .y),.e .z (.u .y),.l (.u .x) .z] rfl li lj) (aG [_,_,_] [.e .x (.u .y),.f .z (.u .y),.l (.u .z) .x] rfl li lj)) hk ?_;rw[yN i j hi hj];exact hC _ rfl
theorem aIw{L a:aH}{m:aC->Option aD}{us:Array aD}{n:Nat}{h:bH}(x:h.Ns L m)(q:h.get? a=some (gA us n)):a≠L:=λe=>by
 obtain⟨o,es,ep,h1,h2,_⟩:=x;rw[<-e,q] at h1;cases h1;cases h2
theorem bD.oZ(h:bD B g vs xs)(hi:i<xs.length):VR B g (vs.getD i .none) (xs.getD i d):=by
 obtain⟨v,h1,h2⟩:=h.get (oO hi);rw[iJ,h1,iJ,oO hi];exact h2
theorem bD.perm(h:bD B g vs xs):∀{p:List Nat},(∀i∈p,i<xs.length)->bD B g (p.map λi=>vs.getD i .none) (p.map λi=>xs.getD i d):=by
 intro p;induction p with
 |nil=>
  intro _;exact .nil
 |cons i p ih=>
  intro hp;exact .cons (h.oZ (hp i (.head _))) (ih λj hj=>hp j (.tail _ hj))
theorem cJ.aGt{n c:Nat}{ls out:List (List Int)}{rk:Nat->Int}(hn:ls.length=n)(h2:2<=n)(wR:n<64)(hc:∀l∈ls,l.length=c+1)(yD:qK n rk)(yN:∀i j,i<n->j<n->qF (ls.getD i []) (ls.getD j [])=decide (rk i<rk j))
 (uO:∀p,PA n p->Up rk p n->(p.toList.map λi=>ls.getD i [])=out):cJ B k (.builtin "sorted") [.val (.aO (ls.map λl=>.cD (bW l)))] (.aO (out.map λl=>.cD (bW l))):=by
 intro A g s vs Q E R G bF K;obtain⟨v,rfl,hv⟩:=bF.bU;obtain⟨a,us,m,rfl,ho,r⟩:=VR.oQ G hv;obtain⟨L,mm,hb,rJ⟩:=R.ns;have dQ:us.toList.length=n:=by rw[r.length,fE,hn]
 have hl:s.heap.IsList a us.toList.toArray:=⟨_,ho,rfl,m,by rw[OE];rfl⟩
 refine kat_sorted (DV rJ) CQ hl (by exact aV (aG [_,_] [.l (.n 2) .x,.f .y .x,.l (.u .y) (.n 2)] rfl h2 dQ)) (by exact bV (aG [_,_] [.l (.u .x) (.n 64),.e .y .x,.l (.n 64) .y] rfl wR dQ)) λD e1 h' F N lt=>?_;rw[dQ];have it:=uG.of r;refine TC it hn (aV (aG [_] [.l (.n 2) .x,.l (.u .x) .i] rfl h2)) hc yD yN (λb Lf m' e=>?_) λp hp hu=>?_
 ·have e0:=G.at e
  exact(N _ (.tail _ (Ge.mpr ⟨aIw rJ e0,e0⟩))).1
 ·obtain⟨f,f'⟩:=DH N lt
  refine aOi F N (.head λq hq=>rP (lt q hq)) λnC c2 F2 N2=>?_;have le:=DU (more:=[_]) hb rJ F2 N2;obtain⟨f2,f2'⟩:=DH N2 lt;have f1:=G.fresh f2;have px:=fU.eF (dP (Jg (p.toList.map λi=>us.toList.getD i .none)) c2) f1 f2
  have Lq:∀i∈p.toList,i<(ls.map λl=>AV.cD (bW l)).length:=λi hi=>by
   rw[fE,hn];exact fY.mp (hp.perm.mem_iff.mp hi)
  refine K _ _ (g.eF D (dP (Jg (p.toList.map λi=>us.toList.getD i .none)) c2)) ⟨⟨le,.refl _,rfl⟩,px,(G.jK le λb dJ o e=>CL (more:=[_]) rJ N2 e (G.kK b dJ)).eF f1 f2' jE⟩ ?_;have:=(r.perm (d:=.none) Lq).mono px.sub
  have e3:(p.toList.map λi=>(ls.map λl=>AV.cD (bW l)).getD i .none)=out.map λl=>AV.cD (bW l):=by
   rw[<-uO p hp hu,fO];refine zG λi hi=>?_;have eV:=Lq i hi;rw[fE] at eV;simp[iJ,oO eV]
  rw[e3] at this;exact .aO (aT.jY _ _ _) this
end
end
set_option hygiene false
local macro_rules | `(tactic| walk_at "w") => do
 let L (s : String) := (s.splitOn " ").toArray.mapM fun x => let i := Lean.mkIdent x.toName; `(tacticSeq| apply $i:ident)
 let X (s : String) := (s.splitOn " ").toArray.mapM fun x => let i := Lean.mkIdent x.toName; `(tacticSeq| exact $i:ident)
 let a ←L "gQ.nm aB.nm fP.of fR xQ TJ VP Js"
 let b ←X "gQ.cC aB.cC aB.As aB.sE aB.tC aZ.nil"
 let c ←L "aB.dB aB.sub aB.un aB.cZ aB.blt aB.ar aB.aKu aZ.c bA.not bA.cZ bA.vL iZ.La bA.val cA.shr cA.shl bG.N4 bG.aIx iC.Bg cJ.yB aP.assign aP.Bt aP.append aP.expr"
 let d ←X "cA.add cA.sub cA.band cA.bor tG.bB tG.neg bG.yW bG.lt bG.gt bG.T8 bG.M0 bG.ES bG.le bG.ge lR.int lR.bool cJ.aLi lQ.add lQ.sub uL.nil"
 `(tactic| first
 |((with_reducible first $[| $a]*)<;>exact rfl)
 |with_reducible first $[| $b]*
 |((with_reducible first|apply aP.xM eA.nil|first $[| $c]*)<;>walk_at"w")
 |with_reducible first $[| $d]*
 |with_reducible first|exact eY.val _|exact eY.own _|exact fN.name _ _ _
 |((with_reducible apply eZ.JW ‹_›)<;>first|boot_by_name|boot_fast|exact rfl|decide)
 |((with_reducible apply Gn.JW rfl)<;>first|exact rfl|exact fun _ _=>rfl|walk_at"free"|(intro _ h;cases h;done)|decide+kernel|(intro _ h;cases h;exact⟨rfl,fun _ _=>rfl⟩))
 |((with_reducible show _=_);first|exact rfl|decide|omega)
 |((with_reducible show _∨_);first|exact .inl rfl|exact .inr rfl|exact .inl ⟨_,rfl⟩|exact .inr ⟨_,rfl⟩)
 |((with_reducible show _≠_);first|(intro h;cases h;done)|decide)
 |((with_reducible first|apply aK7|intro _);walk_at"w")
 |first|exact TJ rfl|exact VP rfl|exact Js rfl|exact jM _
 |first|exact fN.t2|exact fN.t3|exact fN.JE|exact fN.JD|exact aZ.nil
 |(apply aZ.c<;>walk_at"w")
 |assumption
 |omega
 |((simp only[gM,qC,rU,fE,nV,cU]);omega)
 |decide)
local macro_rules | `(tactic| walk_at "free") => `(tactic| first | exact uL.nil | (refine uL.cons rfl rfl ?_ ?_ <;> first | exact .inl rfl | exact .inr rfl | walk_at "free"))
local macro_rules | `(tactic| walk_at "st") => `(tactic| ((with_reducible first | apply bL.cons | apply fF.cons | apply aJ.cons); walk_at "w"))
section
open PySem PySem.Calls PySem.W PyProof.Rows PySem.SeqAt
section
variable {B:BD} {k:Nat}
noncomputable def Ku(b:List Nat)(d k:Nat):Bool:= !d.testBit k&&decide (b.getD k 0&&&d=b.getD k 0)
noncomputable def hW(b:List Nat)(d:Nat):List Nat:=(bX 6).filter (Ku b d)
noncomputable def sA(rd ps:List Nat):List Nat:=ps.flatMap λbU=>(rd.filter λk=> !bU.testBit k).map λk=>bU|||2^k
noncomputable def Gi(rd:List Nat):Nat->List Nat->List Nat
 |0,ps=>ps
 |n+1,ps=>Gi rd n (sA rd ps)
noncomputable def rY(b:List Nat)(h d:Nat):List Nat:=Gi (hW b d) (min h (hW b d).length) [d]
noncomputable def rW(b:List Nat)(h:Nat)(aJ3:List Nat):List Nat:=aJ3.foldl (λfs d=>(rY b h d).foldl sY fs) []
noncomputable def Hj(b:List Nat)(h:Nat)(lv:List Nat)(t:Nat):Step (List Nat):=if(rW b h lv).contains 63 then .ret (.int ((t+1:Nat):Int)) else .go (rW b h lv)
noncomputable def zT(b:List Nat)(h:Nat):Int:=match jA (Hj b h) [0] (bX 6) with
 |.ret (.int i)=>i
 |_=>0
theorem aE7(hr:∀k∈rd,k<6)(hp:∀x∈ps,x<64):∀x∈sA rd ps,x<64:=by
 intro x hx;obtain⟨bU,h1,h2⟩:=PF.mp hx;obtain⟨k,h3,rfl⟩:=gK.mp h2;exact VT (hp bU h1) (hr k (lO.mp h3).1)
theorem aCp(hr:∀k∈rd,k<6):∀(n:Nat) {ps:List Nat},(∀x∈ps,x<64)->∀x∈Gi rd n ps,x<64:=by
 intro n;induction n with
 |zero=>
  intro ps hp;exact hp
 |succ n ih=>
  intro ps hp;exact ih (aE7 hr hp)
theorem RQ:∀k∈hW b d,k<6:=λk hk=>fY.mp (lO.mp hk).1
theorem Uj(hd:d<64):∀x∈rY b h d,x<64:=aCp RQ _ λx hx=>by rw[cW.mp hx];exact hd
theorem aC6:(sA rd ps).length<=ps.length*rd.length:=by
 unfold sA;induction ps with
 |nil=>simp
 |cons p ps ih=>
  rw[Jd,nV,fE,pL,Nat.succ_mul];have:=xF (λk=> !p.testBit k) rd;exact aV (aG [_,_,_,_] [.l .x .y,.l .z .w,.l (.u (.a .y .w)) (.a .z .x)] rfl ih this)
theorem aBs:(hW b d).length<=6:=by
 have:=xF (Ku b d) (bX 6);simpa [hW] using this
theorem WG{ps:List Nat}(hp:∀x∈ps,x<64):∀{fs:List Nat},sQ fs->sQ (ps.foldl sY fs):=by
 induction ps with
 |nil=>intro fs h;exact h
 |cons p ps ih=>intro fs h;exact ih (λx hx=>hp x (.tail _ hx)) (h.add (hp p (.head _)))
theorem aB0{b:List Nat}{h:Nat}{lv:List Nat}(hl:∀x∈lv,x<64):sQ (rW b h lv):=by
 unfold rW
 have f:∀(lv:List Nat),(∀x∈lv,x<64)->∀fs,sQ fs->sQ (lv.foldl (λfs d=>(rY b h d).foldl sY fs) fs):=λlv=>by
  induction lv with
  |nil=>intro _ fs h;exact h
  |cons d lv ih=>intro hl fs h;exact ih (λx hx=>hl x (.tail _ hx)) _ (WG (Uj (hl d (.head _))) h)
 exact f lv hl [] ⟨.nil,λx hx=>nomatch hx⟩
theorem aG0(b:List Nat)(d i:Nat):((!(jC ((d:Int).fdiv (2^(i:Int).toNat)) 1 !=0))&&decide (jC ((b.getD i 0:Nat):Int) (tQ (d:Int))=0))=Ku b d i:=by
 rw[Uy,aCd];unfold Ku;congr 1;apply decide_eq_decide.mpr;have h1:b.getD i 0&&&d<=b.getD i 0:=Nat.and_le_left;exact Int.sub_eq_zero.trans ⟨λh=>(Iq.mp h).symm,λh=>congrArg _ h.symm⟩
theorem aBd(rd:List Nat):∀(n:Nat) (ps:List Nat),(bX n).foldl (λps _=>sA rd ps) ps=Gi rd n ps:=by
 have f:∀(l:List Nat) (ps:List Nat),l.foldl (λps _=>sA rd ps) ps=Gi rd l.length ps:=λl=>by
  induction l with
  |nil=>intro ps;rfl
  |cons _ l ih=>intro ps;exact ih _
 intro n ps;rw[f];simp
theorem aBf(bl:eZ B)(b:List Nat)(h:Nat)(hb:b.length=6)(h1:h<=3):bL B k {sc:=bQ 24} [("before",.val (.aO (aQ b))),("hands",.val (.int h))] (cH 24) (.int (zT b h)):=by
 conv in (cH 24)=>whnf
 refine' bL.cons ?s1 ?r1
 case s1=>
  refine' aP.assign ?a1 ?b1 ?c1
  case a1=>refine' aB.aO (xs:=aQ [0]) ?i1 (by decide);(case i1=>refine' aZ.c ?q1 ?q2 ?q3;(case q1=>exact aB.ar aB.cC);(case q2=>exact aZ.nil);(case q3=>rfl))
  case b1=>exact .inl rfl
  case c1=>intro aA;rfl
 case r1=>
  refine' bL.loop (I:=λlv=>[("before",.val (.aO (aQ b))),("hands",.val (.int h)),("level",.val (.aO (aQ lv)))]) (P:=sQ) (jA (Hj b h) [0] (bX 6)) ?i2 ?s2 ?e2 ?h2 ?g2
  case i2=>refine' cR.xS (n:=6) (by walk_at"w") rfl (by walk_at"w") ?q3 (by decide);(case q3=>rfl)
  case s2=>intro _ _;rfl
  case e2=>
   rw[xJ];refine' gP.run (Hj b h) (λlv=>[("before",.val (.aO (aQ b))),("hands",.val (.int h)),("level",.val (.aO (aQ lv)))]) sQ (λi:Nat=>.int i) (λi=>[("turn",.int i)]) (bX 6) [0] ?p4 ?b4 ?s4 ?t4
   case p4=>exact⟨by simp,by simp⟩
   case b4=>intro i _;exact .name _ _ _
   case s4=>walk_at"w"
   case t4=>
    intro lv i hi hq;show fF B k _ _ _ _ _ (if(rW b h lv).contains 63 then Step.ret (.int ((i+1:Nat):Int)) else .go (rW b h lv));have hfq:=aB0 (b:=b) (h:=h) hq.2;refine' fF.cons ?s5 ?r5
    case s5=>exact aP.xM eA.nil (.inl rfl) nofun (λ_ _=>rfl)
    case r5=>
    refine' fF.cons (v1:=[("before",.val (.aO (aQ b))),("hands",.val (.int h)),("turn",.val (.int i)),("further",.own (aQ (rW b h lv)))]) ?s6 ?r6
    case s6=>
     refine aP.sub (v1:=[("before",.val (.aO (aQ b))),("hands",.val (.int h)),("turn",.val (.int i)),("further",.own (aQ [])),("level",.val (.aO (aQ lv)))]) (.of rfl) ?_;refine aP.dT ?_ (v1:=[("before",.val (.aO (aQ b))),("hands",.val (.int h)),("turn",.val (.int i)),("further",.own (aQ (rW b h lv))),("level",.val (.aO (aQ lv)))]) (.of rfl);refine' aP.Xk (λfs d=>(rY b h d).foldl sY fs) (λfs=>[("before",.val (.aO (aQ b))),("hands",.val (.int h)),("turn",.val (.int i)),("further",.own (aQ fs)),("level",.val (.aO (aQ lv)))]) sQ (λ(d:Nat)=>AV.int d) (λ(d:Nat)=>[("done",.int d)]) lv [] ?i7 ?f7 ?p7 ?b7 ?s7 ?t7
     case i7=>exact cR.aO (by walk_at"w")
     case f7=>intro _ _;rfl
     case p7=>exact⟨.nil,λx hx=>nomatch hx⟩
     case b7=>intro i _;exact .name _ _ _
     case s7=>walk_at"w"
     case t7=>
      intro fs d hd hp;have F5:=hq.2 d hd;refine⟨WG (Uj F5) hp,?_⟩;refine' aJ.cons ?s8 ?r8
      case s8=>
       refine' aP.xM (lv:=.own (aQ (hW b d))) ?a9 ?b9 ?c9 ?d9
       case a9=>
        refine' eA.jO (bX 6) (λ(i:Nat)=>.int i) (λ(i:Nat)=>[("k",.int i)]) (Ku b d) (λ(i:Nat)=>.int i) (fv:=[("before",.val (.aO (aQ b))),("done",.val (.int d))]) ?Sk ?i9 ?Sm ?Qo ?v9 ?t9 ?e9 ?z9
        case Sk=>walk_at"w"
        case i9=>rw[<-xJ];refine' cR.xS (n:=6) (by walk_at"w") rfl (by walk_at"w") rfl (by decide)
        case Sm=>intro i _;exact .name _ _ _
        case Qo=>walk_at"w"
        case v9=>intro i _;exact .of rfl
        case t9=>
         intro i hi;have uZ:=fY.mp hi;have hib:i<b.length:=hb.symm▸uZ;have hbz:b.length<=eJ:=by rw[hb];decide
         refine' jQ.bU (bA.to ?Zm (aG0 b d i))
         case Zm=>
         refine' bA.vL (iZ.La ?Yi ?Qt)
         case Yi=>walk_at"w"
         case Qt=>intro _;walk_at"w"
        case e9=>intro i _ _;walk_at"w"
        case z9=>decide
       case b9=>exact .inr ⟨rfl,rfl⟩
       case c9=>nofun
       case d9=>walk_at"w"
      case r8=>
      refine aJ.jF (y:="ready") rfl nofun ?_;refine aJ.sub (v1:=[("before",.val (.aO (aQ b))),("hands",.val (.int h)),("turn",.val (.int i)),("further",.own (aQ fs)),("level",.val (.aO (aQ lv))),("done",.val (.int d)),("ready",.val (.aO (aQ (hW b d))))]) (.of rfl) ?_;refine' aJ.cons ?I9 ?JJ
      case I9=>
       refine' aP.assign ?En ?b12 ?c12
       case En=>refine' aB.aO (xs:=aQ [d]) ?i12 ((by decide:1<=eJ));(case i12=>refine' aZ.c ?q1 ?q2 ?q3;(case q1=>walk_at"w");(case q2=>exact aZ.nil);(case q3=>rfl))
       case b12=>exact .inl rfl
       case c12=>intro aA;rfl
      case JJ=>
      refine' aJ.cons (v1:=[("before",.val (.aO (aQ b))),("hands",.val (.int h)),("turn",.val (.int i)),("further",.own (aQ fs)),("level",.val (.aO (aQ lv))),("done",.val (.int d)),("ready",.val (.aO (aQ (hW b d)))),("picks",.val (.aO (aQ (rY b h d))))]) ?Yd ?Bd
      case Yd=>
       have E9:(if((hW b d).length:Int)<(h:Int) then((hW b d).length:Int) else(h:Int))=((min h (hW b d).length:Nat):Int):=aI1;have Ia:=aBs (b:=b) (d:=d);have hrz:(aQ (hW b d)).length<=eJ:=by rw[gM];exact fA Ia rfl
       have aKp:rY b h d=(bX (min h (hW b d).length)).foldl (λps _=>sA (hW b d) ps) [d]:=(aBd _ _ _).symm;rw[aKp];refine' aP.Ad (λps (_:Nat)=>sA (hW b d) ps) (λps=>[("before",.val (.aO (aQ b))),("hands",.val (.int h)),("turn",.val (.int i)),("further",.own (aQ fs)),("level",.val (.aO (aQ lv))),("done",.val (.int d)),("ready",.val (.aO (aQ (hW b d)))),("picks",.val (.aO (aQ ps)))]) (λdn ps=>ps.length<=6^dn.length) (λ(i:Nat)=>.int i) (λ(i:Nat)=>[("pick",.int i)]) (bX (min h (hW b d).length)) [d] ?KP ?f14 ?Yj ?Sn ?Yc ?t14
       case KP=>
        rw[<-xJ];refine' cR.xS (n:=min h (hW b d).length) ?b15 rfl ?MQ ?Qu ?z15
        case b15|MQ=>walk_at"w"
        case Qu=>simp only[gM];exact E9
        case z15=>exact pZ (rT _ _) (pZ h1 (by decide))
       case f14=>intro _ _;rfl
       case Yj=>simp
       case Sn=>intro i _;exact .name _ _ _
       case Yc=>walk_at"w"
       case t14=>
        intro dn j rst ps hL hP
        have LR:dn.length<3:=by
         have:=congrArg rS hL;simp at this;exact bV (aG [_,_,_,_] [.l .x (.n 3),.f .y (.a .z (.u .w)),.l .y .x,.l (.n 3) .z] rfl h1 this (rT _ _))
        have ZO:(sA (hW b d) ps).length<=6^(dn.length+1):=by
         have h2:=aC6 (rd:=hW b d) (ps:=ps);have h3:ps.length*(hW b d).length<=6^dn.length*6:=Tr hP Ia;rw[PG];exact aV (aG [_,_,_] [.l .x .y,.l .y (.t .z 6),.l (.u (.t .z 6)) .x] rfl h2 h3)
        have hz:(sA (hW b d) ps).length<=216:=fD ZO (Ts (n:=6) (by decide) (by exact aV (aG [_] [.l (.u .x) (.n 3),.l (.u (.n 3)) (.u .x)] rfl LR):dn.length+1<=3));refine⟨by simpa using ZO,?_⟩;refine' aJ.dT ?m17 ?w17
        case m17=>
         refine' aJ.cons ?s17 ?f17
         case s17=>
          refine' aP.RM (xs:=aQ ps) (ys:=aQ (sA (hW b d) ps)) (fv:=[("ready",.val (.aO (aQ (hW b d))))]) ?aMj ?KL ?JG ?z18 rfl nofun (by walk_at"w")
          case aMj=>walk_at"w"
          case KL=>exact cR.aO (by walk_at"w")
          case JG=>
           have Si:aQ (sA (hW b d) ps)=ps.flatMap λbU=>((hW b d).filter λk=> !bU.testBit k).map λk=>.int ((bU|||2^k:Nat):Int):=by
            unfold aQ sA;rw[List.map_flatMap];simp[fO,PH]
           rw[Si];refine' mR.kE ps (λ(n:Nat)=>.int n) (λ(n:Nat)=>[("one",.int n)]) (λ_=>hW b d) (λ(n:Nat)=>.int n) (λ(n:Nat)=>[("k",.int n)]) (λbU k=> !bU.testBit k) (λbU k=>.int ((bU|||2^k:Nat):Int)) ?b19 ?s19 ?v19 ?i19 ?b20 ?s20 ?v20 ?t20 ?e20
           case b19=>intro i _;exact .name _ _ _
           case s19=>walk_at"w"
           case v19=>intro i _;exact .of rfl
           case i19=>intro i _;exact cR.aO (by walk_at"w")
           case b20=>intro i _ j _;exact .name _ _ _
           case s20=>intro i _;walk_at"w"
           case v20=>intro i _ j _;exact .of rfl
           case t20=>
            intro i _ j _;refine jQ.bU (bA.to ?_ (aD2 i j))
            walk_at"w"
           case e20=>
            intro i _ j hj _;have Lw:=RQ j hj;have Lv:(j:Int)<=1000000:=zA.mpr (jK (eO Lw) rfl);refine aB.to (r:=.int (Ex (i:Int) (1*2^(j:Int).toNat))) ?_ (by rw[aGv,XN])
            walk_at"w"
          case z18=>rw[gM];exact fA hz rfl
         case f17=>exact aJ.jF (y:="picks") (xs:=aQ (sA (hW b d) ps)) rfl nofun aJ.nil
        case w17=>exact .of rfl
      case Bd=>
      refine' aJ.dT ?m21 ?w21
      case m21=>
       refine' aJ.cons ?s21 aJ.nil
       case s21=>
        refine aP.sub (v1:=[("before",.val (.aO (aQ b))),("hands",.val (.int h)),("turn",.val (.int i)),("further",.own (aQ fs)),("level",.val (.aO (aQ lv))),("picks",.val (.aO (aQ (rY b h d))))]) (.of rfl) ?_;refine' aP.Xk sY (λfs=>[("before",.val (.aO (aQ b))),("hands",.val (.int h)),("turn",.val (.int i)),("further",.own (aQ fs)),("level",.val (.aO (aQ lv))),("picks",.val (.aO (aQ (rY b h d))))]) sQ (λ(i:Nat)=>.int i) (λ(i:Nat)=>[("one",.int i)]) (rY b h d) fs (cR.aO (by walk_at"w")) (by intro _ _;rfl) hp (by intro i _;exact .name _ _ _) (by walk_at"w") ?t22
        case t22=>
         intro gs x hx hg;refine⟨hg.add (Uj F5 x hx),?_⟩;have hgl:=hg.len;refine' aJ.cons (v1:=[("before",.val (.aO (aQ b))),("hands",.val (.int h)),("turn",.val (.int i)),("further",.own (aQ (sY gs x))),("level",.val (.aO (aQ lv))),("picks",.val (.aO (aQ (rY b h d))))]) (aP.ite (b:= !gs.contains x) (by walk_at"w") ?Hv) aJ.nil
         case Hv=>
          unfold sY;cases hc:gs.contains x with
          |true=>exact aJ.nil.dT (.of rfl)
          |false=>
           refine' aJ.dT (aJ.cons (aP.append (xs:=aQ gs) (r:=.int x) (by walk_at"w") (by intro _;rfl) rfl rfl (by walk_at"w") (by rw[gM];exact fA hgl rfl)) aJ.nil) ?w24
           case w24=>
            have e24:aQ (gs++[x])=aQ gs++[.int x]:=Ud gs [x];show fK [_,_,_,("further",.own (aQ (gs++[x]))),_,_] _;rw[e24];exact .of rfl
      case w21=>exact .of rfl
    case r6=>
    refine' fF.GD (b:=(rW b h lv).contains 63) ?t25 ?MI ?ML
    case t25=>
     have:=bG.N4 (B:=B) (k:=k) (i:=63) (eY.own (aQ (rW b h lv)));refine' bA.cZ (aB.ar aB.cC) (by walk_at"w") this rfl
    case MI=>
     intro hc;rw[hc];refine⟨_,_,rfl,aJ.stop (aP.ret ?_) rfl⟩;refine aB.to ?_ (by push_cast;rfl)
     walk_at"w"
    case ML=>
     intro hc;rw[hc];refine fF.jF (y:="further") rfl nofun ?_;refine' fF.cons (aP.assign (by walk_at"w") (.inl rfl) (by intro aA;rfl)) (fF.nil hfq (.of rfl))
  case h2=>
   intro lv e _;have e0:zT b h=0:=by unfold zT;rw[e]
   rw[e0];exact bL.ret aB.cC
  case g2=>
   intro x e
   have:∃i:Int,x=.int i:=by
    have f:∀(L:List Nat) (s:List Nat),jA (Hj b h) s L=.ret x->∃i:Int,x=.int i:=λL=>by
     induction L with
     |nil=>intro s h;cases h
     |cons t L ih=>
      intro s hr;rw[zU] at hr;unfold Hj at hr
      by_cases hc:(rW b h s).contains 63=true
      ·rw[if_pos hc] at hr;cases hr;exact⟨_,rfl⟩
      ·rw[if_neg hc] at hr;exact ih _ hr
    exact f _ _ e
   obtain⟨i,rfl⟩:=this;unfold zT;rw[e]
end
section
variable {B:BD} {k:Nat}
structure SS where
 st:Int
 op:Option Int
 res:List aC
noncomputable def qW(x:aC)(s:SS)(q:Int×aC):SS:=
 if q.2==("\"":aC) then match s.op with
  |none=>{s with op:=some q.1}
  |some o=>{st:=q.1+1,op:=none,res:=if s.st !=o then s.res++[fZ x (some s.st) (some o)] else s.res}
 else s
noncomputable def xP(x:aC):SS:=(mO x).foldl (qW x) ⟨0,none,[]⟩
noncomputable def rX(x:aC):List aC:=if(xP x).st<(x.length:Int) then(xP x).res++[fZ x (some (xP x).st) none] else(xP x).res
noncomputable def xO(x:aC):aC:=if rR x "\"" then Fo "" (rX x) else x
noncomputable def aLd:Option Int->AV
 |none=>.none
 |some i=>.int i
noncomputable def Oh(x:aC)(s:SS):aU:=[("addr",.val (.str x)),("start",.val (.int s.st)),("open_pos",.val (aLd s.op)),("result",.own (cK s.res))]
theorem Uv:∀(l:List Nat) (e:Bool) (i:Nat) (p:Int),(mU e i p l).length<=l.length+(if e then 1 else 0)
 |[],true,i,p=>dH _
 |[],false,i,p=>dH _
 |c::l,true,i,p=>by
  have:=Uv l false (i+1) i;exact nW (Nat.succ_le_succ this)
 |c::l,false,i,p=>by
  rw[Kc]
  split
  ·have:=Uv l true (i+1) i
   simp at this ⊢;omega
  ·have:=Uv l false (i+1) i
   simp at this ⊢;omega
theorem RJ(x:aC):(mO x).length<=x.length:=by
 have:=Uv x.cps.toList false 0 0;simpa [δ] using this
theorem Uc(x:aC)(lo hi:Option Int):(fZ x lo hi).length<=x.length:=by
 obtain⟨a,b,_,e⟩:=QF lo hi x.cps.toList.length
 have:jG x.cps.toList lo hi none=(x.cps.toList.take b).drop a:=by
  unfold jG;rw[e];show(Th a b 1).filterMap _=_;rw[Jp,Nv]
 unfold fZ δ;rw[this];simp;exact aV (aG [_,_,_] [.l .x .y,.l (.u (.a .y .z)) .x] rfl (Fg _ _))
theorem QZ:∀(l:List Nat) (c:Nat),(∀a∈l,a<=c)->l.sum<=l.length*c:=by
 intro l;induction l with
 |nil=>
  intro c _;simp
 |cons a l ih=>
  intro c h;have h1:=h a (.head _);have h2:=ih c λb hb=>h b (.tail _ hb);rw[OF,pL,Nat.add_mul];exact aV (aG [_,_,_,_] [.l .x .y,.l .z .w,.l (.u (.a .w (.m 1 .y))) (.a .x .z)] rfl h1 h2)
def Gl(x:aC)(d:List (Int×aC))(s:SS):Prop:=s.res.length<=d.length/\∀a∈s.res,a.length<=x.length
theorem TH(h:Gl x d s)(q:Int×aC):Gl x (d++[q]) (qW x s q):=by
 obtain⟨h1,h2⟩:=h;unfold qW Gl;rw[nV]
 split
 ·split
  ·exact⟨fD h1 (jD _ _),h2⟩
  ·dsimp only
   split
   ·refine⟨by simpa using h1,λa ha=>?_⟩
    rcases jV.mp ha with ha|ha
    ·exact h2 a ha
    ·rw[cW.mp ha];exact Uc _ _ _
   ·exact⟨fD h1 (jD _ _),h2⟩
 ·exact⟨fD h1 (jD _ _),h2⟩
theorem aEm(x:aC):Gl x (mO x) (xP x):=by
 have f:∀(l d:List (Int×aC)) (s:SS),Gl x d s->Gl x (d++l) (l.foldl (qW x) s):=λl=>by
  induction l with
  |nil=>intro d s h;simpa using h
  |cons q l ih=>intro d s h;simpa using ih (d++[q]) _ (TH h q)
 exact f (mO x) [] ⟨0,none,[]⟩ ⟨dH _,λa h=>nomatch h⟩
theorem QP(l m:List aC):cK (l++m)=cK l++cK m:=by simp[cK]
theorem aBr(bl:eZ B)(hg:∃fd a,De B "_iter_escaped_chars" fd a)(x:aC)(hx:x.length<=1000):bL B k {sc:=bQ 17} [("addr",.val (.str x))] (cH 17) (.str (xO x)):=by
 conv in (cH 17)=>whnf
 obtain⟨fd,a,go⟩:=hg;refine' bL.cons (aP.expr (r:=.str _) ?d0 ?d1) ?r0
 case d0=>walk_at"w"
 case d1=>intro aA;rfl
 case r0=>
 have KS:x.length<=eJ:=by exact fA hx rfl
 refine' bL.ite (b:= !rR x "\"") ?t1 ?h1 ?g1
 case t1=>
  refine' bA.cZ ?a2 ?b2 bG.ES rfl
  case a2|b2=>walk_at"w"
 case h1=>
  intro hc;have e:xO x=x:=by unfold xO;rw[if_neg];simpa using hc
  rw[e];exact bL.ret (by walk_at"w")
 case g1=>
  intro hc;have e:xO x=Fo "" (rX x):=by unfold xO;rw[if_pos];simpa using hc
  rw[e];refine⟨_,aJ.nil,?_⟩;refine' bL.cons (aP.assign (r:=.int 0) ?a3 (.inl rfl) ?c3) ?r3
  case a3=>walk_at"w"
  case c3=>intro aA;rfl
  case r3=>
  refine' bL.cons (aP.assign (r:=.none) ?a4 (.inl rfl) ?c4) ?r4
  case a4=>walk_at"w"
  case c4=>intro aA;rfl
  case r4=>
  refine' bL.cons (aP.xM eA.nil (.inl rfl) nofun (λ_ _=>rfl)) ?r5
  case r5=>
  refine' bL.sub (v1:=Oh x ⟨0,none,[]⟩) ?v6 ?r6
  case v6=>exact .of rfl
  case r6=>
  refine' bL.cons (v1:=Oh x (xP x)) ?s7 ?r7
  case s7=>
   refine' aP.Ad (qW x) (Oh x) (Gl x) Cp (λq=>[("pos",.int q.1),("ch",.str q.2)]) (mO x) ⟨0,none,[]⟩ ?i8 ?f8 ?p8 ?b8 ?s8 ?t8
   case i8=>exact cR.gen rfl rfl go (bl.vY _ (by decide)) rfl (by walk_at"w")
   case f8=>intro _ _;rfl
   case p8=>exact⟨dH _,λa h=>nomatch h⟩
   case b8=>intro q _;exact .cD (.cons (.name _ _ _) (.cons (.name _ _ _) .nil))
   case s8=>
    intro q _ b hb;rcases cE.mp hb with rfl|hb
    ·exact .inl rfl
    ·rw[cW.mp hb];exact .inl rfl
   case t8=>
    intro d q r s hL hP;refine⟨TH hP q,?_⟩;have dQ:=RJ x;have hd:d.length+1<=(mO x).length:=by rw[hL];simp
    have E3:=hP.1;refine' aJ.cons (v1:=Oh x (qW x s q)) (aP.ite (b:=q.2==("\"":aC)) ?t9 ?i9) aJ.nil
    case t9=>exact bA.cZ (by walk_at"w") (by walk_at"w") bG.T8 rfl
    case i9=>
     unfold qW;cases hq:(q.2==("\"":aC)) with
     |false=>exact aJ.nil.dT (.of rfl)
     |true=>
      rw[if_pos rfl,if_pos rfl];obtain⟨st,op,res⟩:=s;cases op with
      |none=>
       refine' aJ.dT (aJ.cons (aP.ite (b:=true) ?Bb ?Hw) aJ.nil) ?w10
       case Bb=>exact bA.cZ (by walk_at"w") (by walk_at"w") (bG.isNone (x:=.none) (λ_ h=>by cases h) (λ_ _ h=>by cases h)) rfl
       case Hw=>
        refine' aJ.cons (aP.assign (r:=.int q.1) ?qJ (.inl rfl) ?c11) aJ.nil
        case qJ=>walk_at"w"
        case c11=>intro aA;rfl
       case w10=>exact .of rfl
      |some o=>
       refine' aJ.cons (v1:=Oh x {st:=q.1+1,op:=none,res:=if st !=o then res++[fZ x (some st) (some o)] else res}) (aP.ite (b:=false) ?Bb ?Hw) aJ.nil
       case Bb=>exact bA.cZ (by walk_at"w") (by walk_at"w") (bG.isNone (x:=.int o) (λ_ h=>by cases h) (λ_ _ h=>by cases h)) rfl
       case Hw=>
        refine' aJ.cons (v1:=[("addr",.val (.str x)),("pos",.val (.int q.1)),("result",.own (cK (if st !=o then res++[fZ x (some st) (some o)] else res)))]) (aP.ite (b:=st !=o) ?t11 ?i11) ?JJ
        case t11=>exact bA.cZ (by walk_at"w") (by walk_at"w") bG.M0 rfl
        case i11=>
         cases dD:(st !=o) with
         |false=>exact aJ.nil.dT (.of rfl)
         |true=>
          rw[if_pos rfl,if_pos rfl,QP];refine' aJ.dT (aJ.cons (aP.append (xs:=cK res) (r:=.str (fZ x (some st) (some o))) (by walk_at"w") (by intro _;rfl) rfl rfl (aB.Kt (by walk_at"w") (.some (by walk_at"w")) (.some (by walk_at"w")) KS) (by rw[qC,cU];dsimp only at E3;exact aV (aG [_,_,_,_] [.l .x (.n 1000),.l .y .x,.l (.u .z) .y,.l .w .z,.l (.u (.n 16777216)) .w] rfl hx dQ hd E3))) aJ.nil) (.of rfl)
        case JJ=>
         refine' aJ.cons (aP.assign (r:=.int (q.1+1)) (by walk_at"w") (.inl rfl) (by intro aA;rfl)) ?Bd
         case Bd=>
         refine' aJ.dT (aJ.cons (aP.assign (r:=.none) (by walk_at"w") (.inl rfl) (by intro aA;rfl)) aJ.nil) (.of rfl)
  case r7=>
   obtain⟨MC,R4⟩:=aEm x;have dQ:=RJ x;refine' bL.cons (v1:=[("addr",.val (.str x)),("result",.own (cK (rX x)))]) (aP.ite (b:=decide ((xP x).st<(x.length:Int))) ?t15 ?KO) ?JH
   case t15=>
    refine' bA.cZ (by walk_at"w") ?b16 bG.lt rfl
    case b16=>
     refine aB.ar ?_;refine' aB.blt (by walk_at"w") (.inl ⟨_,rfl⟩) rfl (by walk_at"w") (cJ.Pp KS)
   case KO=>
    unfold rX;cases hc:decide ((xP x).st<(x.length:Int)) with
    |false=>
     have:=of_decide_eq_false hc;rw[if_neg this];exact aJ.nil.dT (.of rfl)
    |true=>
     have:=of_decide_eq_true hc;rw[if_pos this,if_pos rfl,QP];refine' aJ.dT (aJ.cons (aP.append (by walk_at"w") (by intro _;rfl) rfl rfl (aB.Kt (by walk_at"w") (.some (by walk_at"w")) .none KS) (by rw[qC,cU];exact aV (aG [_,_,_] [.l .x (.n 1000),.l .y .z,.l .z .x,.l (.u (.n 16777216)) .y] rfl hx MC dQ))) aJ.nil) (.of rfl)
   case JH=>
    refine bL.jF (y:="result") rfl nofun (bL.ret ?_)
    have aLo:((rX x).map (·.length)).sum+(rX x).length*64<=16777216:=by
     have hl:(rX x).length<=x.length+1:=by
      unfold rX
      split
      ·rw[nV];simp;exact fD MC dQ
      ·exact aV (aG [_,_,_] [.l .x .y,.l .y .z,.l (.u (.u .z)) .x] rfl MC dQ)
     have ha:∀a∈rX x,a.length<=x.length:=by
      unfold rX
      split
      ·intro a ha
       rcases jV.mp ha with ha|ha
       ·exact R4 a ha
       ·rw[cW.mp ha];exact Uc _ _ _
      ·exact R4
     have h1:=QZ ((rX x).map (·.length)) x.length (λn hn=>by
      obtain⟨a,h,rfl⟩:=gK.mp hn
      exact ha a h)
     rw[fE] at h1;have h2:=Tr (aV (aG [_,_] [.l .x (.n 1000),.l .y (.u .x),.l (.u (.n 1001)) .y] rfl hx hl)) hx;exact aV (aG [_,_,_,_] [.L 64 .x (.n 1000),.L 64 .y (.u .x),.l .z .w,.l .w (.m 1001 (.n 1000)),.l (.u (.n 16777216)) (.a .z (.t .y 64))] rfl hx hl h1 h2)
    have hc:cJ B k (.builtin "str.join") [.val (.str ""),.val (.aO (cK (rX x)))] (.str (Fo "" (rX x))):=cJ.FU (.val _) (by decide) aLo
    with_reducible refine' aB.vO ?nN rfl ?nM rfl j6 j7 (by walk_at"w") ?jS hc
    case nN=>intro _;rfl
    case nM=>show 1<30;decide
    case jS=>walk_at"w"
end
section
variable {B:BD} {k:Nat}
noncomputable def uM(o:Int)(q:Int×aC):Step Int:=if q.2==("(":aC) then .go (o+1) else if q.2==(")":aC) then(if decide (o-1<0)=true then .ret (.bool false) else .go (o-1)) else .go o
noncomputable def Ak(x:aC):Bool:=match jA uM 0 (mO (xO x)) with
 |.go o=>decide (o=0)
 |_=>false
noncomputable def HF(x:aC)(o:Int):aU:=[("addr",.val (.str (xO x))),("opens",.val (.int o))]
theorem aB7(bl:eZ B)(hg:∃fd a,De B "_iter_escaped_chars" fd a)(tx:kA B 17 "_strip_quoted_realnames" ["addr"])(x:aC)(hx:x.length<=1000):bL B (k+1) {sc:=bQ 18} [("addr",.val (.str x))] (cH 18) (.bool (Ak x)):=by
 conv in (cH 18)=>whnf
 refine' bL.cons (aP.assign ?a1 (by walk_at"w") (by intro aA;rfl)) ?r1
 case a1=>
  refine' aB.Cx (args:=[.str x]) tx rfl rfl rfl (by walk_at"w") rfl (by walk_at"w") (fK.refl _) (aBr bl hg x hx)
 case r1=>
 walk_at"st"
 refine bL.sub (v1:=HF x 0) (.of rfl) ?_;obtain⟨fd,a,go⟩:=hg;refine' bL.loop (I:=HF x) (P:=λ_=>True) (jA uM 0 (mO (xO x))) (cR.gen rfl rfl go (bl.vY _ (by decide)) rfl (by walk_at"w")) (by intro _ _;rfl) ?e3 ?h3 ?g3
 case e3=>
  refine' gP.run uM (HF x) _ Cp (λq=>[("pos",.int q.1),("ch",.str q.2)]) _ 0 trivial (by intro q _;walk_at"w") (by intro q _;walk_at"w") ?t4
  case t4=>
   intro o q _ _;refine' fF.sJ (b:=q.2==("(":aC)) (by walk_at"w") ?i5
   case i5=>
   unfold uM;cases h1:q.2==("(":aC) with
   |true=>
    rw[if_pos rfl,if_pos rfl]
    walk_at"st"
    exact fF.nil trivial (.of rfl)
   |false=>
    rw[if_neg nofun,if_neg nofun];refine' fF.sJ (b:=q.2==(")":aC)) (by walk_at"w") ?i6
    case i6=>
    cases h2:q.2==(")":aC) with
    |false=>
     rw[if_neg nofun,if_neg nofun];exact fF.nil trivial (.of rfl)
    |true=>
     rw[if_pos rfl,if_pos rfl]
     walk_at"st"
     refine' fF.sJ (by walk_at"w") ?i7
     case i7=>
     cases h3:decide (o-1<0) with
     |true=>rw[if_pos rfl,if_pos rfl];exact fF.ret (by walk_at"w")
     |false=>rw[if_neg nofun,if_neg nofun];exact fF.nil trivial (.of rfl)
 case h3=>
  intro o e _;have:Ak x=decide (o=0):=by unfold Ak;rw[e]
  rw[this];exact bL.ret (by walk_at"w")
 case g3=>
  intro r e;obtain⟨o,q,_,e2⟩:=DG e
  have:r=.bool false:=by
   unfold uM at e2
   split at e2
   ·cases e2
   ·split at e2
    ·split at e2
     ·cases e2;rfl
     ·cases e2
    ·cases e2
  rw[this];unfold Ak;rw[e,this]
end
section
variable {B:BD} {k:Nat}
noncomputable def fC(x:aC):aC:=if Ak x then x else "('', '')"
noncomputable def Kv(l:List aC):aU:=[("accepted_values",.own (cK l))]
theorem aEr(bl:eZ B)(hg:∃fd a,De B "_iter_escaped_chars" fd a)(tx:kA B 17 "_strip_quoted_realnames" ["addr"])(tc:kA B 18 "_check_parenthesis" ["addr"])(l:List aC)(hl:l.length<=6)(hx:∀x∈l,x.length<=1000):
 bL B (k+2) {sc:=bQ 19} [("email_header_fields",.val (.aO (cK l)))] (cH 19) (.aO (cK (l.map fC))):=by
 conv in (cH 19)=>whnf
 walk_at"st"
 refine' bL.cons (v1:=Kv (l.map fC)) ?s1 (bL.Vt (by walk_at"w") nofun)
 case s1=>
  have e:Kv (l.map fC)=Kv (l.foldl (λbS x=>bS++[fC x]) []):=by
   have f:∀(l bS:List aC),l.foldl (λbS x=>bS++[fC x]) bS=bS++l.map fC:=λl=>by
    induction l with
    |nil=>intro bS;simp
    |cons x l ih=>intro bS;simp[ih]
   rw[f];rfl
  rw[e];refine aP.sub (v1:=("email_header_fields",.val (.aO (cK l)))::Kv []) (.of rfl) ?_;refine aP.dT ?_ (v1:=("email_header_fields",.val (.aO (cK l)))::Kv (l.foldl (λbS x=>bS++[fC x]) [])) (.of rfl);refine' aP.Ad (λbS x=>bS++[fC x]) (λa=>("email_header_fields",.val (.aO (cK l)))::Kv a) (λd a=>a.length=d.length) (λx=>.str x) (λx=>[("v",.str x)]) l [] (cR.aO (by walk_at"w")) (by intro _ _;rfl) rfl (by intro x _;walk_at"w") (by intro x _;walk_at"w") ?t2
  case t2=>
   intro d x r bS hL hP;have hxx:=hx x (by rw[hL];simp);have hd:d.length<6:=by have:=congrArg rS hL;simp at this;exact bV (aG [_,_,_] [.l .x (.n 6),.f .x (.a .y (.u .z)),.l (.n 6) .y] rfl hl this)
   have haz:(cK bS).length<=eJ:=by rw[qC,hP];exact fA (eO hd) rfl
   refine⟨by simp[hP],?_⟩;refine' aJ.cons (v1:=[("accepted_values",.own (cK bS)),("email_header_fields",.val (.aO (cK l))),("v",.val (.str (fC x)))]) (aP.ite ?t3 ?i3) ?r3
   case t3=>
    refine' bA.not (bA.val ?a4 lR.bool (by intro _ _;rfl))
    case a4=>
     refine aB.ar ?_;refine' aB.Cx (args:=[.str x]) tc rfl rfl rfl (by walk_at"w") rfl (by walk_at"w") (fK.refl _) (aB7 bl hg tx x hxx)
   case i3=>
    unfold fC;cases h:Ak x with
    |true=>exact aJ.nil.dT (.of rfl)
    |false=>
     refine' aJ.dT ?a6 ?b6
     case a6=>
      show aJ _ _ _ _ [_] (.cF _);refine aJ.sub (v1:=[("accepted_values",.own (cK bS)),("email_header_fields",.val (.aO (cK l))),("v",.val (.str x))]) (.of rfl) ?_
      walk_at"st"
      exact aJ.nil
     case b6=>exact .of rfl
   case r3=>
    refine aJ.dT (v1:=cT "accepted_values" (.own (cK bS++[.str (fC x)])) [("accepted_values",.own (cK bS)),("email_header_fields",.val (.aO (cK l))),("v",.val (.str (fC x)))]) ?_ ?_
    ·walk_at"st"
     exact aJ.nil
    ·have:cK bS++[.str (fC x)]=cK (bS++[fC x]):=by simp[cK]
     rw[this];exact .of rfl
noncomputable def mV(cX:aC)(e:Nat)(s:Nat)(w:aC):Step Nat:=match Fq cX w s (min e cX.length) 1 with
 |i::_=>.go (i+w.length)
 |[]=>.ret (.bool false)
noncomputable def uF(cX:aC)(ws:List aC)(st en:Nat):Bool:=if decide (en<st)=true then false else match jA (mV cX en) st ws with
 |.go _=>true
 |_=>false
noncomputable def lX(w0:aC)(r:List aC):List aC:=if w0.length=0 then w0::r else r
noncomputable def sM(cX w0:aC)(r:List aC):Bool:=
 if w0.length≠0/\Cc cX w0=false then false else
 if((lX w0 r).getLast?.getD "").length≠0/\tZ cX ((lX w0 r).getLast?.getD "")=false then false else
 uF cX (if((lX w0 r).getLast?.getD "").length=0 then lX w0 r else(lX w0 r).dropLast) w0.length (cX.length-((lX w0 r).getLast?.getD "").length)
noncomputable def lS(kZ cX:aC):Bool:=if rR kZ "..." then(match uA kZ "..." with
 |w0::r=>sM cX w0 r
 |[]=>false) else kZ==cX
theorem aEo:∀{L:List α} {s:σ},jA t s L≠.brk s':=by
 intro L;induction L with
 |nil=>
  intro s h;cases h
 |cons i L ih=>
  intro s h;rw[zU] at h;cases e:t s i with
  |go s'=>rw[e] at h;exact ih h
  |brk s'=>rw[e] at h;cases h
  |ret r'=>rw[e] at h;cases h
theorem aF7(h:tZ x y=true):y.length<=x.length:=by
 unfold tZ at h;simp at h;exact h.1
noncomputable def II(cX:aC)(st en:Nat):aU:=[("got",.val (.str cX)),("startpos",.val (.int (st:Nat))),("endpos",.val (.int (en:Nat)))]
noncomputable def Kz(cX:aC)(ws:List aC)(st en:Nat)(w:aC):aU:=[("ws",.own (cK ws)),("w",.val (.str w)),("got",.val (.str cX)),("startpos",.val (.int (st:Nat))),("endpos",.val (.int (en:Nat)))]
theorem UP(bl:eZ B)(hm:∃u,B.mg "ELLIPSIS_MARKER"=some (.str "..." u))(kZ cX:aC)(hw:kZ.length<=100)(hg:cX.length<=100)(h2:rR kZ "..."=true->2<=(uA kZ "...").length/\(uA kZ "...").length<=100/\∀w∈uA kZ "...",w.length<=100):
 bL B (k+2) {sc:=bQ 14} [("want",.val (.str kZ)),("got",.val (.str cX))] (cH 14) (.bool (lS kZ cX)):=by
 conv in (cH 14)=>whnf
 walk_at"st"
 obtain⟨u,hm⟩:=hm;refine' bL.ite (b:= !rR kZ "...") (bA.cZ (aB.ar (aB.F7 rfl hm rfl)) (by walk_at"w") bG.ES rfl) ?h1 ?g1
 case h1=>
  intro h;have:lS kZ cX=(kZ==cX):=by unfold lS;rw[if_neg];simpa using h
  rw[this];exact bL.ret (by walk_at"w")
 case g1=>
  intro h;have hc:rR kZ "..."=true:=by simpa using h
  obtain⟨l2,l3,l4⟩:=h2 hc;refine⟨_,aJ.nil,?_⟩;have eM:lS kZ cX=(match uA kZ "..." with|w0::r=>sM cX w0 r|[]=>false):=by unfold lS;rw[if_pos hc]
  rw[eM];refine' bL.cons (aP.xM (lv:=.own (cK (uA kZ "..."))) (by exact eA.split (λ_=>rfl) rfl rfl (by walk_at"w") (aB.F7 rfl hm rfl) rfl (by rw[cU];exact aV (aG [_] [.l .x (.n 100),.l (.u (.n 16777216)) (.a .x (.n 2))] rfl hw))) (.inl rfl) nofun (by intro _ _;rfl)) ?r2
  case r2=>
  generalize uA kZ "..."=ws at l2 l3 l4 ⊢
  match ws,l2,l3,l4 with
  |w0::w1::r,l2,l3,l4=>
  refine' bL.cons (aP.aMl ?t3) ?r3
  case t3=>
   refine' bA.to (bA.cZ (x:=.val (.int ((cK (w0::w1::r)).length:Nat))) ?a4 (aB.ar aB.cC) bG.ge rfl) (by simp[cK];exact lF (cG [_] [] [.l (.u (.u (.u (.c .x)))) (.n 2)] rfl))
   case a4=>
    refine aB.ar ?_;refine' aB.blt ?b5 (.inl ⟨_,rfl⟩) rfl ?i5 (cJ.yB (.own _) ?z5)
    case b5|i5=>walk_at"w"
    case z5=>simp only[qC,cU];exact jK l3 rfl
  case r3=>
  refine' bL.cons (aP.Aj (lC:=[("startpos",.val (.int 0)),("endpos",.val (.int (cX.length:Nat)))]) true ?n6 (by simp) (by intro b hb;rcases cE.mp hb with rfl|hb;exact .inl rfl;rw[cW.mp hb];exact .inl rfl) (by intro b hb;nofun) (.cons _ _ (.cons _ _ .nil)) (by walk_at"w")) ?r6
  case n6=>
   refine' gE.cons (aB.tD aB.cC) (gE.cons (aB.tD ?e7) gE.nil rfl) rfl
   case e7=>
    refine' aB.blt ?b5 (.inl ⟨_,rfl⟩) rfl ?i5 (cJ.Pp ?z5)
    case b5|i5=>walk_at"w"
    case z5=>exact fA hg rfl
  case r6=>
  have l0:w0.length<=100:=l4 w0 (.head _);refine' bL.cons (aP.assign (r:=.str w0) (by exact aB.sub (by walk_at"w") (aB.ar aB.cC) (iC.list (j:=0) (.own _) rfl rfl (by simp only[qC,cU];exact jK l3 rfl))) (by walk_at"w") (by intro aA;rfl)) ?r8
  case r8=>
  show bL _ _ _ _ _ (.bool (sM cX w0 (w1::r)));refine bL.sub (v1:=Kz cX (w0::w1::r) 0 cX.length w0) (.of rfl) ?_
  by_cases q1:w0.length≠0/\Cc cX w0=false
  ·have:sM cX w0 (w1::r)=false:=by unfold sM;rw[if_pos q1]
   rw[this];refine' bL.stop (V:=Kz cX (w0::w1::r) 0 cX.length w0) (aP.ite (b:=true) ?t9 ?i9)
   case t9=>exact bA.to (bA.val (x:=.val (.str w0)) (by walk_at"w") (lR.str (by exact uN (pZ l0 (by decide)))) (λ_ _=>rfl)) (by simp;exact q1.1)
   case i9=>
    refine' aJ.stop (aP.ite (b:=false) ?Bb ?Hw) rfl
    case Bb=>
     refine' bA.to (bA.val (x:=.val (.bool (Cc cX w0))) (aB.ar ?qJ) lR.bool (λ_ _=>rfl)) q1.2
     case qJ=>
      with_reducible refine' aB.vO (es:=[]) ?nN ?pS ?nM ?pT aOj aOk ?pV ?jS cJ.XD
      case nN=>intro _;rfl
      case pS=>rfl
      case nM=>show 1<30;decide
      case pT=>rfl
      case pV|jS=>walk_at"w"
    case Hw=>exact aJ.bU (aP.ret aB.tC)
  ·refine' bL.cons (v1:=Kz cX (lX w0 (w1::r)) w0.length cX.length w0) (aP.ite (b:=(w0.length:Int) !=0) ?t9 ?i9) ?r9
   case t9=>exact bA.val (x:=.val (.str w0)) (by walk_at"w") (lR.str (by exact uN (pZ l0 (by decide)))) (λ_ _=>rfl)
   case i9=>
    by_cases z0:w0.length=0
    ·have e1:((w0.length:Int) !=0)=false:=by simp[z0]
     rw[e1];unfold lX;rw[if_pos z0,z0];exact aJ.nil
    ·have e1:((w0.length:Int) !=0)=true:=by simp[z0]
     have q2:Cc cX w0=true:=by
      cases h:Cc cX w0 with
      |true=>rfl
      |false=>exact(q1 ⟨z0,h⟩).elim
     rw[e1,if_pos rfl];unfold lX;rw[if_neg z0];refine' aJ.bU (aP.ite (b:=true) ?Bb ?Hw)
     case Bb=>
      refine' bA.to (bA.val (x:=.val (.bool (Cc cX w0))) (aB.ar ?qJ) lR.bool (λ_ _=>rfl)) q2
      case qJ=>
       with_reducible refine' aB.vO (es:=[]) ?nN ?pS ?nM ?pT aOj aOk ?pV ?jS cJ.XD
       case nN=>intro _;rfl
       case pS=>rfl
       case nM=>show 1<30;decide
       case pT=>rfl
       case pV|jS=>walk_at"w"
     case Hw=>
      refine' aJ.dT (aJ.cons (aP.assign (r:=.int w0.length) ?En (.inl rfl) (λ_=>rfl)) (aJ.cons (aP.delItem (xs:=cK (w0::w1::r)) (i:=0) (j:=0) (by walk_at"w") aB.cC (by unfold Ff;simp[cK];exact pF (cG [_] [] [.l (.u (.u (.c .x))) .o] rfl)) (by simp only[qC,cU];exact jK l3 rfl)) aJ.nil)) (.of rfl)
      case En=>
       refine' aB.blt ?b5 (.inl ⟨_,rfl⟩) rfl ?i5 (cJ.Pp ?z5)
       case b5|i5=>walk_at"w"
       case z5=>exact fA l0 rfl
   case r9=>
   have hB:sM cX w0 (w1::r)=(if((lX w0 (w1::r)).getLast?.getD "").length≠0/\tZ cX ((lX w0 (w1::r)).getLast?.getD "")=false then false else
    uF cX (if((lX w0 (w1::r)).getLast?.getD "").length=0 then lX w0 (w1::r) else(lX w0 (w1::r)).dropLast) w0.length (cX.length-((lX w0 (w1::r)).getLast?.getD "").length)):=by unfold sM;rw[if_neg q1]
   rw[hB]
   have m1:lX w0 (w1::r)≠[]/\(∀w∈lX w0 (w1::r),w.length<=100)/\(lX w0 (w1::r)).length<=100:=by
    unfold lX
    split
    ·exact⟨nofun,l4,l3⟩
    ·exact⟨nofun,λw h=>l4 w (.tail _ h),by simp at l3 ⊢;exact jK l3 rfl⟩
   generalize lX w0 (w1::r)=ws at m1 ⊢;obtain⟨m0,m2,m3⟩:=m1
   have GH:ws.getLast?=some (ws.getLast?.getD ""):=by
    cases h:ws.getLast? with
    |none=>exact(m0 (List.getLast?_eq_none_iff.mp h)).elim
    |some x=>rfl
   have lw:(ws.getLast?.getD "").length<=100:=m2 _ (List.mem_of_getLast? GH);generalize ws.getLast?.getD ""=wl at GH lw ⊢;refine' bL.cons (aP.assign (r:=.str wl) ?yZ (.inl rfl) (λ_=>rfl)) ?JI
   case yZ=>
    refine' aB.sub (y:=.val (.int (-1))) (by walk_at"w") (aB.ar (aB.un aB.cC tG.neg)) (iC.Kw (.own (cK ws)) rfl (by unfold cK;rw[aOl,GH];rfl))
   case JI=>
   refine bL.sub (v1:=Kz cX ws w0.length cX.length wl) (.of rfl) ?_
   by_cases q2:wl.length≠0/\tZ cX wl=false
   ·rw[if_pos q2]
    refine' bL.stop (V:=Kz cX ws w0.length cX.length wl) (aP.ite (b:=true) (by exact bA.to (bA.val (x:=.val (.str wl)) (by walk_at"w") (lR.str (by exact uN (pZ lw (by decide)))) (λ_ _=>rfl)) (by simp;exact q2.1)) ?KN)
    case KN=>
     refine' aJ.stop (aP.ite (b:=false) ?uV (aJ.bU (aP.ret aB.tC))) rfl
     case uV=>
      refine' bA.to (bA.val (x:=.val (.bool (tZ cX wl))) (aB.ar ?Em) lR.bool (λ_ _=>rfl)) q2.2
      case Em=>
       with_reducible refine' aB.vO (es:=[]) ?nN ?pS ?nM ?pT aOm aOn ?pV ?jS cJ.oS
       case nN=>intro _;rfl
       case pS=>rfl
       case nM=>show 1<30;decide
       case pT=>rfl
       case pV|jS=>walk_at"w"
   ·rw[if_neg q2]
    have LM:wl.length≠0->tZ cX wl=true:=λh=>by
     cases h':tZ cX wl with
     |true=>rfl
     |false=>exact(q2 ⟨h,h'⟩).elim
    refine' bL.cons (v1:=Kz cX (if wl.length=0 then ws else ws.dropLast) w0.length (cX.length-wl.length) wl) (aP.ite (b:=(wl.length:Int) !=0) (bA.val (x:=.val (.str wl)) (by walk_at"w") (lR.str (by exact uN (pZ lw (by decide)))) (λ_ _=>rfl)) ?i20) ?r20
    case i20=>
     by_cases z0:wl.length=0
     ·have e1:((wl.length:Int) !=0)=false:=by simp[z0]
      rw[e1,if_pos z0,z0];exact aJ.nil
     ·have e1:((wl.length:Int) !=0)=true:=by simp[z0]
      have q3:=LM z0;have lle:=aF7 q3;rw[e1,if_pos rfl,if_neg z0];refine' aJ.bU (aP.ite (b:=true) ?t21 ?KJ)
      case t21=>
       refine' bA.to (bA.val (x:=.val (.bool (tZ cX wl))) (aB.ar ?Em) lR.bool (λ_ _=>rfl)) q3
       case Em=>
        with_reducible refine' aB.vO (es:=[]) ?nN ?pS ?nM ?pT aOm aOn ?pV ?jS cJ.oS
        case nN=>intro _;rfl
        case pS=>rfl
        case nM=>show 1<30;decide
        case pT=>rfl
        case pV|jS=>walk_at"w"
      case KJ=>
       have aMi:((cX.length:Nat):Int)-(wl.length:Nat)=((cX.length-wl.length:Nat):Int):=by exact(PI lle).symm
       have aKq:(cK ws).eraseIdx (ws.length-1)=cK ws.dropLast:=by
        unfold cK;rw[<-fE (f:=AV.str),List.eraseIdx_length_sub_one,List.map_dropLast]
       have Pw:0<ws.length:=List.length_pos_iff.mpr m0;refine' aJ.dT (aJ.cons (aP.Bt (r:=.int (cX.length-wl.length:Nat)) (by walk_at"w") ?Bo (by rw[<-aMi];exact lQ.sub) (.inl rfl)) (aJ.cons (aP.delItem (xs:=cK ws) (i:= -1) (j:=ws.length-1) (by walk_at"w") (aB.un aB.cC tG.neg) (by unfold Ff;simp only[qC];split<;>simp<;>(first|exact ZG Pw|exact absurd (by decide) ‹¬(-1:Int)<0›)) (by simp only[qC,cU];exact jK m3 rfl)) aJ.nil)) (by rw[aKq];exact .of rfl)
       case Bo=>
        refine aB.ar (r:=.int wl.length) ?_;refine' aB.blt ?b5 (.inl ⟨_,rfl⟩) rfl ?i5 (cJ.Pp ?z5)
        case b5|i5=>walk_at"w"
        case z5=>exact fA lw rfl
    case r20=>
    have m4:(∀w∈(if wl.length=0 then ws else ws.dropLast),w.length<=100):=by
     split
     ·exact m2
     ·exact λw h=>m2 w (List.dropLast_subset _ h)
    generalize (if wl.length=0 then ws else ws.dropLast)=Dy at m4 ⊢;generalize nQ:cX.length-wl.length=en;have aQc:en<=100:=by exact aV (aG [_,_,_] [.l .x (.n 100),.f .y .z,.l .y .x,.l (.u (.n 100)) .z] rfl hg nQ (NI _ _))
    refine' bL.ite (b:=decide (en<w0.length)) (bA.to (bA.cZ (by walk_at"w") (by walk_at"w") bG.gt rfl) (by simp)) ?h24 ?g24
    case h24=>
     intro h;have:uF cX Dy w0.length en=false:=by unfold uF;rw[if_pos h]
     rw[this];exact bL.ret aB.tC
    case g24=>
     intro h;have hE:uF cX Dy w0.length en=(match jA (mV cX en) w0.length Dy with|.go _=>true|_=>false):=by unfold uF;rw[if_neg (by rw[h];nofun)]
     rw[hE];refine⟨_,aJ.nil,?_⟩;refine bL.jF (y:="ws") (xs:=cK Dy) rfl nofun ?_;refine bL.sub (v1:=("ws",.val (.aO (cK Dy)))::II cX w0.length en) (.of rfl) ?_;refine' bL.loop (I:=λst=>("ws",.val (.aO (cK Dy)))::II cX st en) (P:=λ_=>True) (jA (mV cX en) w0.length Dy) (cR.aO (by walk_at"w")) (by intro _ _;rfl) ?MP ?MI ?ML
     case MP=>
      refine' gP.run (mV cX en) (λst=>("ws",.val (.aO (cK Dy)))::II cX st en) _ (λw=>.str w) (λw=>[("w",.str w)]) _ _ trivial (by intro w _;walk_at"w") (by intro w _;walk_at"w") ?JC
      case JC=>
       intro st w hw2 _;have lw2:=m4 w hw2;have hf:Gu cX w st en=(match Fq cX w st (min en cX.length) 1 with|k::_=>(k:Int)|[]=> -1):=rfl;refine' fF.cons (aP.assign (r:=.int (Gu cX w st en)) ?a27 (.inl rfl) (λ_=>rfl)) ?r27
       case a27=>
        with_reducible refine' aB.vO ?nN ?pS ?nM ?pT PySem.F.slot_str_find PySem.F.type_str_find ?pV ?jS (cJ.Gu (i:=(st:Int)) (j:=(en:Int)) rfl rfl)
        case nN=>intro _;rfl
        case pS=>rfl
        case nM=>show 3<30;decide
        case pT=>rfl
        case pV|jS=>walk_at"w"
       case r27=>
       show fF B (k+2) _ _ _ _ _ (match Fq cX w st (min en cX.length) 1 with
        |i::_=>.go (i+w.length)
        |[]=>.ret (.bool false))
       rw[hf];cases Fq cX w st (min en cX.length) 1 with
       |nil=>
        dsimp only;refine' fF.GD (b:=true) ?JB ?MH (λh=>nomatch h)
        case JB=>exact bA.to (bA.cZ (by walk_at"w") (aB.ar aB.cC) bG.lt rfl) (by decide)
        case MH=>intro _;exact⟨_,_,rfl,aJ.bU (aP.ret aB.tC)⟩
       |cons i eS=>
        dsimp only;refine' fF.GD (b:=false) ?JB (λh=>nomatch h) ?MH
        case JB=>exact bA.to (bA.cZ (by walk_at"w") (aB.ar aB.cC) bG.lt rfl) (by simp)
        case MH=>
         intro _;refine' fF.cons (aP.Bt (r:=.int ((i+w.length:Nat):Int)) (by walk_at"w") ?h29 (by rw[Int.natCast_add];exact lQ.add) (.inl rfl)) (fF.nil trivial (.of rfl))
         case h29=>
          refine aB.ar (r:=.int w.length) ?_;refine' aB.blt ?b5 (.inl ⟨_,rfl⟩) rfl ?i5 (cJ.Pp ?z5)
          case b5|i5=>walk_at"w"
          case z5=>exact fA lw2 rfl
     case MI=>
      intro st e _;rw[e];exact bL.ret aB.tC
     case ML=>
      intro x e;obtain⟨s',i,_,e2⟩:=DG e
      have:x=.bool false:=by
       unfold mV at e2
       split at e2
       ·cases e2
       ·cases e2;rfl
      rw[e,this]
end
section
variable {B:BD} {k:Nat}
noncomputable def L(j:Nat):aC:=⟨#[97+j]⟩
noncomputable def rC(j:Nat):aC:=L j++"..."++L j
noncomputable def Ke(j:Nat):aC:="..."++rC j++"..."++L j++"..."
noncomputable def Dc(j k:Nat):aC:=Fo "..." [L k,L k,L j,L j]
theorem aA4:∀j<6,uA (rC j) "..."=[L j,L j]:=by decide+kernel
theorem aA2:∀j<6,uA (Ke j) "..."=[("":aC),L j,L j,L j,("":aC)]:=by decide+kernel
theorem aA3:∀j<6,∀k<6,uA (Dc j k) "..."=[L k,L k,L j,L j]:=by decide+kernel
theorem UQ:∀j<6,lS (rC j) (L j)=false/\lS (L j) (L j)=true:=by decide+kernel
theorem YR:("abcdef":aC)=⟨#[97,98,99,100,101,102]⟩:=by decide+kernel
theorem Kp(j:Nat):(L j).length=1:=rfl
theorem Wb:("...":aC).length=3:=by decide+kernel
def Ae(kZ:aC):Prop:=kZ.length<=100/\(rR kZ "..."=true->2<=(uA kZ "...").length/\(uA kZ "...").length<=100/\∀w∈uA kZ "...",w.length<=100)
theorem CO:∀j<6,Ae (rC j):=by unfold Ae;decide+kernel
theorem aB4:∀j<6,Ae (Ke j):=by unfold Ae;decide+kernel
theorem aB5:∀j<6,∀k<6,Ae (Dc j k):=by unfold Ae;decide+kernel
theorem WK:∀j<6,Ae (L j):=by unfold Ae;decide+kernel
structure Cv(w:aC)(lo hi:Nat->Nat)(bt:Nat->Nat->Bool):Prop where
 len:w.length=12
 KH:∀j<6,∃eS,Fq w (L j) 0 w.length 1=lo j::eS
 B3:∀j<6,aN6 w (L j) 0 w.length=some (hi j)
 pre:∀j<6,lS (rC j) (fZ w none (some ((hi j:Int)+1)))=decide ((lo j:Int)=0)
 post:∀j<6,lS (rC j) (fZ w (some (lo j:Int)) none)=decide ((hi j:Int)+1=12)
 A6:∀j<6,lS (Ke j) w=false
 bU:∀j<6,lS (L j) (fZ w (some (lo j:Int)) (some ((hi j:Int)+1)))=false
 Qe:∀j<6,∀k<6,lS (Dc j k) (fZ w (some (lo k:Int)) (some ((hi j:Int)+1)))=bt j k
noncomputable def jP(b:Nat->Bool):Nat->Nat
 |0=>0
 |n+1=>jP b n+if b n then 2^n else 0
theorem EJ{b:Nat->Bool}:jP b (n+1)=jP b n+if b n then 2^n else 0:=rfl
noncomputable def dR(bt:Nat->Nat->Bool)(n:Nat):List Nat:=(bX 6).map λj=>if j<n then jP (bt j) 6 else 0
noncomputable def nZ(l:List Bool):List AV:=l.map .bool
noncomputable def Gq(w:aC)(lo hi:Nat)(j:Nat):List (aC×aC):=[(rC j,fZ w none (some ((hi:Int)+1))),(rC j,fZ w (some (lo:Int)) none),(rC j,L j),(Ke j,w),(L j,L j),(L j,fZ w (some (lo:Int)) (some ((hi:Int)+1)))]
theorem VF:tB 0 (We ("abcdef":aC).cps.toList)=(bX 6).map λj:Nat=>.cD [.int (j:Int),.str (L j)]:=by
 rw[YR];rfl
theorem VD(bt)(n):(dR bt n).length=6:=by simp[dR]
theorem aB1(h:bX n=d++i::r):d.length=i:=by
 have h1:=congrArg (λl=>l[d.length]?) h;simp at h1;rw[zF] at h1;obtain⟨_,h2⟩:=h1;simpa using h2
theorem CH(h:bX n=d++i::r):d=bX i/\i<n:=by
 have hl:=aB1 h;have hn:=congrArg rS h;simp at hn;have h2:=congrArg (List.take d.length) h;rw[List.take_left,List.take_range,hl] at h2;have:min i n=i:=vC (by rw[hn,hl];exact jD _ _);rw[this] at h2;exact⟨h2.symm,by exact bV (aG [_,_,_,_] [.f .x .y,.f .z (.a .x (.u .w)),.l .z .y] rfl hl hn)⟩
theorem aGi(bt:Nat->Nat->Bool)(hj:j<6):(dR bt j).set j (jP (bt j) 6)=dR bt (j+1):=by
 apply aOo
 ·simp[dR]
 ·intro i h1 h2
  rw[aOp];simp[dR]
  split
  ·next e=>subst e;simp
  ·next e=>congr 1;simp;exact EW λq=>e q.symm
theorem aD5(bt:Nat->Nat->Bool)(hj:j<6):(dR bt j).set j 0=dR bt j:=by
 apply aOo
 ·simp[dR]
 ·intro i h1 h2
  rw[aOp]
  split
  ·next e=>subst e;simp[dR]
  ·rfl
theorem Vm(b:Nat->Bool):∀n,jP b n<2^n:=by
 intro n;induction n with
 |zero=>
  exact aOq
 |succ n ih=>
  have:=ih;rw[EJ,PG];split<;>(first|exact bV (aG [_,_] [.l (.u .x) .y,.l (.t .y 2) (.a .x .y)] rfl this)|exact bV (aG [_,_] [.l (.u .x) .y,.l (.t .y 2) (.a .x .o)] rfl this))
noncomputable def mY(lo hi:Nat):List Bool:=[decide ((lo:Int)=0),decide ((hi:Int)+1=12),false,false,true,false]
theorem Cv.aK3{w lo hi bt}(h:Cv w lo hi bt)(hj:j<6):(Gq w (lo j) (hi j) j).map (λp=>lS p.1 p.2)=mY (lo j) (hi j):=by
 simp only[Gq,nU,List.map_nil,mY,h.pre j hj,h.post j hj,h.A6 j hj,h.bU j hj,(UQ j hj).1,(UQ j hj).2]
noncomputable def IL(bt:Nat->Nat->Bool)(w:aC)(lo hi:Nat->Nat)(j:Nat)(d:List Nat):aU:=[("before",.own (aQ ((dR bt j).set j (jP (bt j) d.length)))),("told",.own (nZ (mY (lo j) (hi j)++d.map (bt j)))),("word",.val (.str w)),("j",.val (.int (j:Int))),("other",.val (.str (L j))),("low",.val (.int (lo j:Nat))),("high",.val (.int ((hi j:Nat)+1)))]
theorem aBn(bl:eZ B)(hm:∃u,B.mg "ELLIPSIS_MARKER"=some (.str "..." u))(te:kA B 14 "_ellipsis_match" ["want","got"]){w:aC}{lo hi:Nat->Nat}{bt:Nat->Nat->Bool}(W:Cv w lo hi bt):
 bL B (k+3) {sc:=bQ 22} [("word",.val (.str w))] (cH 22) (.aO (aQ (dR bt 6))):=by
 conv in (cH 22)=>whnf
 have dQ:=W.len;refine' bL.cons (aP.xM (lv:=.own (aQ (dR bt 0))) (eA.mul (xs:=[.int 0]) (n:=6) (aB.aO (xs:=[.int 0]) (aZ.c (aB.ar aB.cC) aZ.nil rfl) (by decide)) aB.cC rfl (by decide) (by decide)) (.inl rfl) nofun (λ_ _=>rfl)) ?r1
 case r1=>
 refine' bL.cons (v1:=[("before",.own (aQ (dR bt 6))),("word",.val (.str w))]) ?s2 (bL.Vt (by walk_at"w") nofun)
 case s2=>
  refine aP.sub (v1:=[("before",.own (aQ (dR bt 0))),("word",.val (.str w))]) (.of rfl) ?_;refine' aP.loop (xs:=(bX 6).map λj:Nat=>.cD [.int (j:Int),.str (L j)]) ?i3 ?f3 (λ_ _=>rfl)
  case i3=>
   rw[<-VF];exact cR.ZV (by walk_at"w") rfl aB.As
  case f3=>
   refine' gP.fold (λd:List Nat=>[("before",.own (aQ (dR bt d.length))),("word",.val (.str w))]) _ (λj:Nat=>[("j",.int (j:Int)),("other",.str (L j))]) (by intro j;walk_at"w") (by intro j;walk_at"w") (bX 6) [] ?t4
   case t4=>
    intro d j r hL _;rw[Fl] at hL;obtain⟨hd,hj⟩:=CH hL;have gR:d.length=j:=by rw[hd];simp
    have Qb:(d++[j]).length=j+1:=by simp[gR]
    rw[Qb,gR];obtain⟨eS,aLy⟩:=W.KH j hj;have hri:=W.B3 j hj;refine' aJ.cons (aP.Aj (lC:=[("low",.val (.int (lo j:Nat))),("high",.val (.int ((hi j:Nat)+1))),("dots",.val (.str (rC j)))]) true ?n6 (by simp) (by intro b hb;simp only[cE,cO,or_false] at hb;rcases hb with rfl|rfl|rfl<;>exact .inl rfl) (by intro b hb;nofun) (.cons _ _ (.cons _ _ (.cons _ _ .nil))) (by walk_at"w")) ?r6
    case n6=>
     refine' gE.cons (aB.tD ?e7) (gE.cons (aB.tD ?e8) (gE.cons (aB.tD ?e9) gE.nil rfl) rfl) rfl
     case e7=>
      with_reducible refine' aB.vO (es:=[]) ?nN ?pS ?nM ?pT aOr aOs ?pV ?jS (cJ.XE aLy)
      case nN=>intro _;rfl
      case pS=>rfl
      case nM=>show 1<30;decide
      case pT=>rfl
      case pV|jS=>walk_at"w"
     case e8=>
      refine' aB.dB (x:=.val (.int (hi j:Nat))) (aB.ar ?Zr) (aB.ar aB.cC) cA.add
      with_reducible refine' aB.vO (es:=[]) ?nN ?pS ?nM ?pT PySem.F.slot_str_rindex PySem.F.type_str_rindex ?pV ?jS (cJ.aGs hri)
      case nN=>intro _;rfl
      case pS=>rfl
      case nM=>show 1<30;decide
      case pT=>rfl
      case pV|jS=>walk_at"w"
     case e9=>
      refine' aB.dB (aB.ar (aB.dB (by walk_at"w") (aB.ar aB.As) (cA.xX (by rw[Kp,Wb,cU];decide)))) (by walk_at"w") (cA.xX (by rw[PJ,Kp,Wb,cU];decide))
    case r6=>
    refine aJ.sub (v1:=[("before",.own (aQ (dR bt j))),("word",.val (.str w)),("j",.val (.int (j:Int))),("other",.val (.str (L j))),("low",.val (.int (lo j:Nat))),("high",.val (.int ((hi j:Nat)+1))),("dots",.val (.str (rC j)))]) (.of rfl) ?_;refine' aJ.cons (aP.jO (Gq w (lo j) (hi j) j) (λp=>.cD [.str p.1,.str p.2]) (λp=>[("want",.str p.1),("got",.str p.2)]) (λ_=>true) (λp=>.bool (lS p.1 p.2)) (fv:=[]) (by walk_at"w") ?i13 (by intro p _;walk_at"w") (by intro p _;walk_at"w") (by intro p _;exact .of rfl) (by intro p _;exact jQ.nil) ?e13 (by rw[cU];simp[Gq]) rfl nofun (by walk_at"w")) ?Bd
    case i13=>
     refine cR.cD (aB.cD ?_ (by rw[cU];simp[Gq]));have hz:w.length<=eJ:=by rw[dQ,cU];decide
     have e2:∀(a b:bJ) (n:Nat) (p:dI) (x y:aC) (vs:aU),eR [a,b]=true->eR [b]=true->aB B (k+3) (bQ 22) vs a (.str x)->aB B (k+3) (bQ 22) vs b (.str y)->gQ B (k+3) (bQ 22) vs (.Tuple [a,b] n p) (.val (.cD [.str x,.str y])):=λa b n p x y vs n1 n2 h1 h2=>
      aB.ar (aB.cD (xs:=[.str x,.str y]) (aZ.c (aB.ar h1) (aZ.c (aB.ar h2) aZ.nil n2) n1) (by rw[cU];simp))
     refine' aZ.c (e2 _ _ _ _ _ _ _ rfl rfl (by walk_at"w") (aB.Kt (by walk_at"w") .none (.some (by walk_at"w")) hz)) (aZ.c (e2 _ _ _ _ _ _ _ rfl rfl (by walk_at"w") (aB.Kt (by walk_at"w") (.some (by walk_at"w")) .none hz)) (aZ.c (e2 _ _ _ _ _ _ _ rfl rfl (by walk_at"w") (by walk_at"w")) (aZ.c (e2 _ _ _ _ _ _ _ rfl rfl ?p7 (by walk_at"w")) (aZ.c (e2 _ _ _ _ _ _ _ rfl rfl (by walk_at"w") (by walk_at"w")) (aZ.c (e2 _ _ _ _ _ _ _ rfl rfl (by walk_at"w") (aB.Kt (by walk_at"w") (.some (by walk_at"w")) (.some (by walk_at"w")) hz)) aZ.nil rfl) rfl) rfl) rfl) rfl) rfl
     case p7=>
      refine' aB.dB (aB.ar (aB.dB (aB.ar (aB.dB (aB.ar (aB.dB (aB.ar aB.As) (by walk_at"w") (cA.xX ?z1))) (aB.ar aB.As) (cA.xX ?z2))) (by walk_at"w") (cA.xX ?z3))) (aB.ar aB.As) (cA.xX ?z4)
      all_goals
       simp only[rC,PJ,Kp,Wb,cU];decide
    case e13=>
     intro p hp _
     have Lq:Ae p.1/\p.2.length<=100:=by
      have hw:w.length<=100:=by exact Rc dQ rfl
      have Lr:∀a b,(fZ w a b).length<=100:=λa b=>fD (Uc _ _ _) hw;simp only[Gq,cE,cO,or_false] at hp;rcases hp with rfl|rfl|rfl|rfl|rfl|rfl
      ·exact⟨CO j hj,Lr _ _⟩
      ·exact⟨CO j hj,Lr _ _⟩
      ·exact⟨CO j hj,by rw[Kp];decide⟩
      ·exact⟨aB4 j hj,hw⟩
      ·exact⟨WK j hj,by rw[Kp];decide⟩
      ·exact⟨WK j hj,Lr _ _⟩
     refine' aB.Cx (args:=[.str p.1,.str p.2]) te rfl rfl rfl (by walk_at"w") rfl (by walk_at"w") (fK.refl _) (UP bl hm p.1 p.2 Lq.1.1 Lq.2 Lq.1.2)
    case Bd=>
    have aKl:((Gq w (lo j) (hi j) j).filter λ_=>true).map (λp=>AV.bool (lS p.1 p.2))=nZ (mY (lo j) (hi j)):=by
     rw[pK.mpr (λ_ _=>rfl),<-W.aK3 hj,nZ,fO];rfl
    rw[aKl];refine aJ.sub (v1:=[("before",.own (aQ ((dR bt j).set j (jP (bt j) 0)))),("told",.own (nZ (mY (lo j) (hi j)++[]))),("word",.val (.str w)),("j",.val (.int (j:Int))),("other",.val (.str (L j))),("low",.val (.int (lo j:Nat))),("high",.val (.int ((hi j:Nat)+1)))]) ?_ ?_
    ·have e0:(dR bt j).set j (jP (bt j) 0)=dR bt j:=aD5 bt hj
     rw[e0,pB];exact .of rfl
    refine' aJ.cons (v1:=[("before",.own (aQ (dR bt (j+1)))),("told",.own (nZ (mY (lo j) (hi j)++(bX 6).map (bt j)))),("word",.val (.str w)),("low",.val (.int (lo j:Nat))),("high",.val (.int ((hi j:Nat)+1)))]) ?s15 ?JH
    case s15=>
     rw[<-aGi bt hj];refine' aP.dT (v1:=IL bt w lo hi j (bX 6)) ?m16 (.of rfl)
     case m16=>
     refine' aP.loop (xs:=(bX 6).map λj:Nat=>.cD [.int (j:Int),.str (L j)]) ?KN ?f16 (λ_ _=>rfl)
     case KN=>
      rw[<-VF];exact cR.ZV (by walk_at"w") rfl aB.As
     case f16=>
      refine' gP.fold (IL bt w lo hi j) _ (λj:Nat=>[("k",.int (j:Int)),("one",.str (L j))]) (by intro j;walk_at"w") (by intro j;walk_at"w") (bX 6) [] ?uV
      case uV=>
       intro d i r hL _;rw[Fl] at hL;obtain⟨hd,uZ⟩:=CH hL;have gR:d.length=i:=by rw[hd];simp
       have Qb:(d++[i]).length=i+1:=by simp[gR]
       unfold IL;rw[Qb,gR];obtain⟨aP1,aKa⟩:=W.KH i uZ;have hz:w.length<=eJ:=by rw[dQ,cU];decide
       have hb:=Vm (bt j) i;have Zf:2^i<=2^5:=Ts (by decide) (by exact vB uZ);refine' aJ.cons (aP.append (xs:=nZ (mY (lo j) (hi j)++d.map (bt j))) (r:=.bool (bt j i)) (by walk_at"w") (by intro _;rfl) rfl rfl ?Si (by rw[cU];simp[nZ,mY];exact aV (aG [_,_] [.l (.u .x) (.n 6),.e .y .x,.l (.u (.n 16777210)) .y] rfl uZ gR))) ?JG
       case Si=>
        refine aB.to (r:=.bool (lS (Dc j i) (fZ w (some (lo i:Int)) (some ((hi j:Int)+1))))) ?_ (by rw[W.Qe j hj i uZ]);have hp:=aB5 j hj i uZ;refine' aB.Cx (args:=[.str (Dc j i),.str (fZ w (some (lo i:Int)) (some ((hi j:Int)+1)))]) te rfl rfl rfl (by walk_at"w") rfl ?jS (fK.refl _) (UP bl hm _ _ hp.1 (fD (Uc _ _ _) (by exact Rc dQ rfl)) hp.2)
        case jS=>
         show aZ _ _ _ _ _ [.val (.str (Dc j i)),.val (.str (fZ w (some (lo i:Int)) (some ((hi j:Int)+1))))]
         with_reducible refine' aZ.c (aB.ar ?j20) (aZ.c (aB.ar ?Yh) aZ.nil rfl) rfl
         case j20=>
          have hj4:cJ B (k+3) (.builtin "str.join") [.val (.str "..."),.val (.aO (cK [L i,L i,L j,L j]))] (.str (Fo "..." [L i,L i,L j,L j])):=cJ.FU (.val _) (by rw[Wb];decide) (by show(1+(1+(1+(1+0))))+4*64<=16777216;decide)
          with_reducible refine' aB.vO (es:=[]) ?nN ?pS ?nM ?pT j6 j7 ?pV ?jS hj4
          case nN=>intro _;rfl
          case pS=>rfl
          case nM=>show 1<30;decide
          case pT=>rfl
          case pV=>walk_at"w"
          case jS=>
           refine aZ.c (aB.ar (aB.aO (xs:=cK [L i,L i,L j,L j]) ?_ (by rw[cU];simp[cK]))) aZ.nil rfl
           walk_at"w"
         case Yh=>
          refine' aB.Kt (by walk_at"w") (.some ?aLj) (.some (by walk_at"w")) hz
          case aLj=>
           with_reducible refine' aB.vO (es:=[]) ?nN ?pS ?nM ?pT aOr aOs ?pV ?jS (cJ.XE aKa)
           case nN=>intro _;rfl
           case pS=>rfl
           case nM=>show 1<30;decide
           case pT=>rfl
           case pV|jS=>walk_at"w"
       case JG=>
       have etl:nZ (mY (lo j) (hi j)++d.map (bt j))++[AV.bool (bt j i)]=nZ (mY (lo j) (hi j)++(d++[i]).map (bt j)):=by simp[nZ]
       rw[etl];refine' aJ.dT (aJ.cons (aP.WV (xs:=aQ ((dR bt j).set j (jP (bt j) i))) (j:=j) (a:=.int ((jP (bt j) i:Nat):Int)) (r:=.int ((jP (bt j) (i+1):Nat):Int)) (y:=.val (.int (if bt j i then((2^i:Nat):Int) else 0))) (by walk_at"w") (by walk_at"w") rfl (by simp[aQ,dR,hj]) ?Bo ?o22 (by rw[cU];simp[aQ,dR]) (by intro _ _ _;rfl)) aJ.nil) ?Hq
       case Bo=>
        refine' gQ.ite (b:=bt j i) ?Lg ?v23
        case Lg=>
         refine' bA.val (x:=.val (.bool (bt j i))) (aB.ar (aB.sub (y:=.val (.int (-1))) (by walk_at"w") (aB.ar (aB.un aB.cC tG.neg)) (iC.Kw (.own (nZ (mY (lo j) (hi j)++(d++[i]).map (bt j)))) rfl (by unfold nZ;rw[aOl];simp)))) lR.bool (λ_ _=>rfl)
        case v23=>
         cases hc:bt j i with
         |true=>
          rw[if_pos rfl,if_pos rfl];refine aB.ar (aB.to (r:=.int (2^(i:Int).toNat)) (aB.dB (aB.ar aB.cC) (by walk_at"w") (cA.pow (by exact jM _) ?_)) (by simp));have:(NU 2:Int)=2:=by decide+kernel
          rw[this];exact rM (NK (zA.mpr (eO uZ)) (by decide)) (by decide)
         |false=>
          rw[if_neg nofun,if_neg nofun];exact aB.ar aB.cC
       case o22=>
        have:((jP (bt j) (i+1):Nat):Int)=((jP (bt j) i:Nat):Int)+(if bt j i then((2^i:Nat):Int) else 0):=by rw[EJ];split<;>simp
        rw[this];exact lQ.add
       case Hq=>
        have MP:(aQ ((dR bt j).set j (jP (bt j) i))).set j (.int ((jP (bt j) (i+1):Nat):Int))=aQ ((dR bt j).set j (jP (bt j) (i+1))):=by
         unfold aQ;rw[<-List.map_set,List.set_set]
        rw[MP];exact .of rfl
    case JH=>
    refine aJ.jF (y:="told") (xs:=nZ (mY (lo j) (hi j)++(bX 6).map (bt j))) rfl nofun ?_;refine aJ.dT (v1:=[("before",.own (aQ (dR bt (j+1)))),("told",.val (.aO (nZ (mY (lo j) (hi j)++(bX 6).map (bt j))))),("word",.val (.str w)),("low",.val (.int (lo j:Nat))),("high",.val (.int ((hi j:Nat)+1)))]) ?_ (.of rfl);refine' aJ.sJ (b:=false) ?JC aJ.nil
    case JC=>
     refine' bA.vL (iZ.Qv (b:=false) (c:=false) ?o27 (λ_=>?o28))
     case o27=>
      have e6:jG (nZ (mY (lo j) (hi j)++(bX 6).map (bt j))) none (some ((6:Nat):Int)) none=nZ (mY (lo j) (hi j)):=by
       rw[Nj];rfl
      refine' bA.to (bA.cZ (x:=.val (.aO (nZ (mY (lo j) (hi j))))) (y:=.val (.aO (nZ (mY (lo j) (hi j))))) (aB.ar (aB.to (aB.Ow (c:=none) (.val _) (by walk_at"w") .none (.some (i:=((6:Nat):Int)) aB.cC) .none nofun (by rw[cU];simp[nZ,mY])) (by rw[e6]))) (aB.ar (aB.aO ?l29 (by rw[cU];simp[nZ,mY]))) (bG.Qx (k:=k+1) (b:=true) rfl rfl rfl rfl (by cases h1:decide ((lo j:Int)=0)<;>cases h2:decide ((hi j:Int)+1=12)<;>rfl)) rfl) rfl
      case l29=>
       refine' aZ.c (aB.ar (aB.cZ (by walk_at"w") (aB.ar aB.cC) bG.yW rfl)) (aZ.c (aB.ar (aB.cZ (by walk_at"w") (aB.ar aB.cC) bG.yW rfl)) (aZ.c (aB.ar aB.tC) (aZ.c (aB.ar aB.tC) (aZ.c (aB.ar aB.tC) (aZ.c (aB.ar aB.tC) aZ.nil rfl) rfl) rfl) rfl) rfl) rfl
     case o28=>
      refine' bA.to (bA.cZ (x:=.val (.aO [])) (y:=.val (.aO [])) (aB.ar ?e31) (aB.ar (aB.aO aZ.nil (by decide))) (bG.Qx rfl rfl rfl rfl rfl) rfl) rfl
      case e31=>
       refine aB.to (r:=.aO (((mY (lo j) (hi j)++(bX 6).map (bt j)).filter (λb=> !(b==true)&& !(b==false))).map λb=>.bool b)) ?_ ?_
       ·refine'(eA.jO (mY (lo j) (hi j)++(bX 6).map (bt j)) (λb=>.bool b) (λb=>[("answer",.bool b)]) _ _ (by walk_at"w") (cR.aO (by walk_at"w")) (by intro p _;walk_at"w") (by intro p _;walk_at"w") (by intro p _;exact .of rfl) ?t32 (by intro b _ _;walk_at"w") (by rw[cU];simp[mY])).ev
        case t32=>
         intro b _;refine' jQ.bU (bA.vL (iZ.La (bA.cZ (by walk_at"w") (aB.ar aB.tC) bG.CY rfl) λ_=>(bA.cZ (by walk_at"w") (aB.ar aB.tC) bG.CY rfl)))
       ·have:∀l:List Bool,l.filter (λb=> !(b==true)&& !(b==false))=[]:=λl=>by
         apply BB.mpr;intro b _;cases b<;>decide
        rw[this];rfl
end
section
variable {B:BD} {k:Nat}
noncomputable abbrev Ev:=Int×Nat×Nat
noncomputable def tF(e:Ev):AV:=.cD [.int e.1,.int (e.2.1:Int),.int (e.2.2:Int)]
noncomputable def Dm:List aC:=["","\\)","\")\"","\\\""]
noncomputable def Dl:List aC:=["()","(())","\")\"","\"(\\\"\""]
noncomputable def Dk:List aC:=["(",")(",")"]
noncomputable def qY(aX:Nat)(dn:List Nat)(k:Nat)(q:Nat×Ev):aC:=
 if q.2.2.1=1 then Dm.getD (aX/4^q.1 % 4) "" else if dn.contains q.2.2.2 then Dl.getD ((aX/4^q.1 % 4+q.1) % 4) "" else Dk.getD (k/2) ""
noncomputable def uE(aX:Nat)(dn:List Nat)(k:Nat)(s:aC)(q:Nat×Ev):Step aC:=if q.2.2.1=1/\q.2.2.2=k then .brk s else .go (s++qY aX dn k q)
noncomputable def eC(ev:List Ev)(aX:Nat)(dn:List Nat)(k:Nat):aC:=match jA (uE aX dn k) "" (iY 0 ev) with
 |.go s=>s
 |_=>""
noncomputable def Jy(bf dn:List Nat)(k:Nat):List Nat:=(bX 6).filter λbU=>(bf.getD k 0).testBit bU&& !dn.contains bU
noncomputable def oU(ev:List Ev)(aX:Nat)(bf dn:List Nat)(k:Nat):aC:=if decide (Jy bf dn k=[])=true then eC ev aX dn k else "('', '')"
noncomputable def fG(ord dn:List Nat):List Nat:=ord.filter λk=> !dn.contains k
noncomputable def zY(ord:List Nat)(ev:List Ev)(cV aX:Nat)(dn:List Nat):List Nat:=dn++((fG ord dn).filter λk=>fC (eC ev aX dn k)==eC ev aX dn k).take cV
noncomputable def kY(ord:List Nat)(ev:List Ev)(cV aX:Nat):Nat->List Nat
 |0=>[]
 |t+1=>zY ord ev cV aX (kY ord ev cV aX t)
theorem WM:kY ord ev cV aX (t+1)=zY ord ev cV aX (kY ord ev cV aX t):=rfl
noncomputable def sG(ord:List Nat)(ev:List Ev)(cV aX:Nat):Nat->Nat
 |0=>0
 |t+1=>sG ord ev cV aX t+if fG ord (kY ord ev cV aX t)=[] then 0 else 1
theorem aIr:sG ord ev cV aX (t+1)=sG ord ev cV aX t+if fG ord (kY ord ev cV aX t)=[] then 0 else 1:=rfl
theorem DY:(∀x∈Dm,x.length<=5)/\(∀x∈Dl,x.length<=5)/\∀x∈Dk,x.length<=5:=by decide+kernel
theorem EO:(∀x∈Dm,qB x=true)/\(∀x∈Dl,qB x=true)/\∀x∈Dk,qB x=true:=by decide+kernel
theorem CK{l:List aC}{i:Nat}:l.getD i ""∈l\/l.getD i ""="":=by
 by_cases h:i<l.length
 ·left;rw[iJ,oO h];exact Ft h
 ·right;rw[iJ,Y3 (by exact aV (aG [_,_] [.m .x .y,.l (.u .x) .y] rfl h))];rfl
theorem Ux:(("":aC).length<=5)/\qB ""=true:=by decide+kernel
theorem TQ(aX:Nat)(dn:List Nat)(k:Nat)(q:Nat×Ev):(qY aX dn k q).length<=5/\qB (qY aX dn k q)=true:=by
 unfold qY
 split
 ·rcases CK with h|h
  ·exact⟨DY.1 _ h,EO.1 _ h⟩
  ·rw[h];exact Ux
 ·split
  ·rcases CK with h|h
   ·exact⟨DY.2.1 _ h,EO.2.1 _ h⟩
   ·rw[h];exact Ux
  ·rcases CK with h|h
   ·exact⟨DY.2.2 _ h,EO.2.2 _ h⟩
   ·rw[h];exact Ux
theorem aAs(a b:aC)(ha:qB a=true)(hb:qB b=true):qB (a++b)=true:=by
 show((a.cps++b.cps).all _)=true;rw[Array.all_append];unfold qB at ha hb;rw[ha,hb];rfl
theorem aGz{σ α:Type}{t:σ->α->Step σ}(P:Nat->σ->Prop)(hP:∀n s i s',P n s->(t s i=.go s'\/t s i=.brk s')->P (n+1) s'):∀{L:List α} {n:Nat} {s s':σ},P n s->jA t s L=.go s'->∃m,m<=n+L.length/\P m s':=by
 intro L;induction L with
 |nil=>
  intro n s s' p h;cases h;exact⟨n,by simp,p⟩
 |cons i L ih=>
  intro n s s' p h;rw[zU] at h;cases e:t s i with
  |go s2=>
   rw[e] at h;obtain⟨m,h1,h2⟩:=ih (hP n s i s2 p (.inl e)) h;exact⟨m,by simp;exact aV (aG [_,_,_] [.l .x (.a (.u .y) .z),.l (.u (.a .y (.u .z))) .x] rfl h1),h2⟩
  |brk s2=>rw[e] at h;cases h;exact⟨n+1,by simp,hP n s i s' p (.inr e)⟩
  |ret r=>rw[e] at h;cases h
theorem aBc(n:Nat)(s:aC)(q:Nat×Ev)(s':aC)(h:s.length<=5*n/\qB s=true)(e:uE aX dn k s q=.go s'\/uE aX dn k s q=.brk s'):s'.length<=5*(n+1)/\qB s'=true:=by
 have:=TQ aX dn k q;unfold uE at e
 split at e
 ·rcases e with e|e
  ·cases e
  ·cases e;exact⟨by exact aV (aG [_,_] [.l .x (.m 5 .y),.l (.u (.m 5 (.u .y))) .x] rfl h.1),h.2⟩
 ·rcases e with e|e
  ·cases e;exact⟨by rw[PJ];exact aV (aG [_,_,_] [.l .x (.m 5 .y),.l .z (.n 5),.l (.u (.m 5 (.u .y))) (.a .x .z)] rfl h.1 this.1),aAs _ _ h.2 this.2⟩
  ·cases e
theorem UK(ev:List Ev)(aX:Nat)(dn:List Nat)(k:Nat):jA (uE aX dn k) "" (iY 0 ev)=.go (eC ev aX dn k):=by
 unfold eC;cases h:jA (uE aX dn k) "" (iY 0 ev) with
 |go s=>rfl
 |brk s=>exact(aEo h).elim
 |ret r=>
  obtain⟨s',q,_,e⟩:=DG h;unfold uE at e
  split at e<;>cases e
theorem aFs(ev:List Ev)(aX:Nat)(dn:List Nat)(k:Nat):(eC ev aX dn k).length<=5*ev.length/\qB (eC ev aX dn k)=true:=by
 have h0:("":aC).length=0:=by decide+kernel
 obtain⟨m,h1,h2⟩:=aGz (λn (s:aC)=>s.length<=5*n/\qB s=true) (λn s i s' p e=>aBc n s i s' p e) ⟨by rw[h0];exact aV (aG [] [.l (.u (.m 5 .o)) .o] rfl),Ux.2⟩ (UK ev aX dn k);rw[Ck] at h1;exact⟨by exact aV (aG [_,_,_] [.L 5 .x (.a .o .y),.l .z (.m 5 .x),.l (.u (.m 5 .y)) .z] rfl h1 h2.1),h2.2⟩
noncomputable def Qs(ord:List Nat)(ev:List Ev)(cV aX:Nat)(bf:List Nat)(dn:List Nat)(r:Nat):aU:=[("order",.val (.aO (aQ ord))),("events",.val (.aO (ev.map tF))),("hands",.val (.int (cV:Int))),("hide",.val (.int (aX:Int))),("before",.val (.aO (aQ bf))),("done",.val (.aO (aQ dn))),("rounds",.val (.int (r:Int)))]
theorem aDu(ord ev cV aX):∀t,(kY ord ev cV aX t).length<=cV*t:=by
 intro t;induction t with
 |zero=>
  exact iR _
 |succ t ih=>
  have:=ih;rw[WM];unfold zY;rw[nV,qS,Nat.mul_add];exact aV (aG [_,_,_,_] [.l .x .y,.l .z .w,.l (.u (.a .y (.t .w 1))) (.a .x .z)] rfl this (rT _ _))
noncomputable def Qr(ord:List Nat)(ev:List Ev)(cV aX:Nat)(bf:List Nat)(dn:List Nat)(r:Nat)(fr du:List aC):aU:=("waiting",.val (.aO (aQ (fG ord dn))))::("fronts",.own (cK fr))::("due",.own (cK du))::Qs ord ev cV aX bf dn r
noncomputable def Bc(ord:List Nat)(ev:List Ev)(cV aX:Nat)(bf:List Nat)(dn:List Nat)(r:Nat)(fr du:List aC)(kk:Nat)(s:aC):aU:=("k",.val (.int (kk:Int)))::("front",.val (.str s))::Qr ord ev cV aX bf dn r fr du
noncomputable def J0(ord:List Nat)(ev:List Ev)(cV aX:Nat)(bf:List Nat)(dn:List Nat)(r:Nat)(fr:List aC):aU:=("waiting",.val (.aO (aQ (fG ord dn))))::("fronts",.val (.aO (cK fr)))::("due",.val (.aO (cK (fr.map fC))))::Qs ord ev cV aX bf dn r
set_option maxHeartbeats 1000000 in
theorem aA6(bl:eZ B)(hg:∃fd a,De B "_iter_escaped_chars" fd a)(tx:kA B 17 "_strip_quoted_realnames" ["addr"])(tc:kA B 18 "_check_parenthesis" ["addr"])(tp:kA B 19 "_pre_parse_validation" ["email_header_fields"])
 (ho:ord.length<=6) (ho6:∀x∈ord,x<6) (Ma:ev.length=12) (hb:bf.length=6) (hh:cV<=3)
 (H:∀t<6,∀k∈fG ord (kY ord ev cV aX t),fC (eC ev aX (kY ord ev cV aX t) k)=oU ev aX bf (kY ord ev cV aX t) k):
 bL B (k+3) {sc:=bQ 23} [("order",.val (.aO (aQ ord))),("events",.val (.aO (ev.map tF))),("hands",.val (.int (cV:Int))),("hide",.val (.int (aX:Int))),("before",.val (.aO (aQ bf)))] (cH 23) (.int (sG ord ev cV aX 6:Nat)):=by
 conv in (cH 23)=>whnf
 refine' bL.cons (aP.Aj (lC:=[("done",.own (aQ [])),("rounds",.val (.int 0))]) false (gE.cons eA.nil (gE.cons (aB.tD aB.cC) gE.nil rfl) rfl) (by simp) (by intro b hb;simp only[cE,cO,or_false] at hb;rcases hb with rfl|rfl<;>exact fR rfl) (by intro b hb;nofun) (.cons _ _ (.cons _ _ .nil)) (by walk_at"w")) ?r1
 case r1=>
 refine bL.jF (y:="done") (xs:=aQ []) rfl nofun ?_;refine bL.sub (v1:=Qs ord ev cV aX bf (kY ord ev cV aX 0) (sG ord ev cV aX 0)) (.of rfl) ?_;refine' bL.cons (v1:=Qs ord ev cV aX bf (kY ord ev cV aX 6) (sG ord ev cV aX 6)) ?s2 (bL.ret (by walk_at"w"))
 case s2=>
 refine' aP.loop (xs:=(bX 6).map λi:Nat=>.int (i:Int)) (by rw[<-xJ];refine' cR.xS (n:=6) (by walk_at"w") rfl (by walk_at"w") rfl (by decide)) ?f3 (λ_ _=>rfl)
 case f3=>
 refine' gP.fold (λd:List Nat=>Qs ord ev cV aX bf (kY ord ev cV aX d.length) (sG ord ev cV aX d.length)) _ (λj:Nat=>[("turn",.int (j:Int))]) (by intro j;walk_at"w") (by intro j;walk_at"w") (bX 6) [] ?t4
 case t4=>
 intro d t r hL _;rw[Fl] at hL;obtain⟨hd,ht⟩:=CH hL;have gR:d.length=t:=by rw[hd];simp
 have Qb:(d++[t]).length=t+1:=by simp[gR]
 rw[Qb,gR];have Ht:=H t ht;have aKe:=aDu ord ev cV aX t;have YC:(kY ord ev cV aX t).length<=18:=fD aKe (fD (Tr hh (by exact jK (eO ht) rfl:t<=6)) (by decide));have edn:kY ord ev cV aX (t+1)=zY ord ev cV aX (kY ord ev cV aX t):=rfl;have ern:sG ord ev cV aX (t+1)=sG ord ev cV aX t+if fG ord (kY ord ev cV aX t)=[] then 0 else 1:=rfl
 rw[edn,ern];generalize kY ord ev cV aX t=dn at Ht YC ⊢;generalize sG ord ev cV aX t=rn;refine' aJ.cons (aP.Aj (lC:=[("waiting",.own (aQ (fG ord dn))),("fronts",.own (cK [])),("due",.own (cK []))]) true ?n5 (by simp) (by intro b hb;simp only[cE,cO,or_false] at hb;rcases hb with rfl|rfl|rfl<;>exact fR rfl) (by intro b hb;nofun) (.cons _ _ (.cons _ _ (.cons _ _ .nil))) (by walk_at"w")) ?r5
 case n5=>
  refine' gE.cons ?c6 (gE.cons eA.nil (gE.cons eA.nil gE.nil rfl) rfl) rfl
  case c6=>
   refine' eA.jO ord (λ(i:Nat)=>.int (i:Int)) (λ(i:Nat)=>[("k",.int (i:Int))]) (λk=> !dn.contains k) (λ(i:Nat)=>.int (i:Int)) (fv:=[("done",.val (.aO (aQ dn)))]) (by walk_at"w") (cR.aO (by walk_at"w")) (by intro i _;exact .name _ _ _) (by intro i _;walk_at"w") (by intro i _;exact .of rfl) (by intro i _;exact jQ.bU (by walk_at"w")) (by intro i _ _;walk_at"w") (fA ho rfl)
 case r5=>
 refine aJ.jF (y:="waiting") (xs:=aQ (fG ord dn)) rfl nofun ?_;refine aJ.sub (v1:=Qr ord ev cV aX bf dn rn [] []) (.of rfl) ?_;refine' aJ.cons (v1:=Qr ord ev cV aX bf dn rn ((fG ord dn).map (eC ev aX dn)) ((fG ord dn).map (oU ev aX bf dn))) ?Ea ?JK
 case Ea=>
  refine' aP.loop (xs:=(fG ord dn).map λi:Nat=>.int (i:Int)) (cR.aO (by walk_at"w")) ?f11 (λ_ _=>rfl)
  case f11=>
  refine' gP.fold (λd:List Nat=>Qr ord ev cV aX bf dn rn (d.map (eC ev aX dn)) (d.map (oU ev aX bf dn))) _ (λj:Nat=>[("k",.int (j:Int))]) (by intro j;walk_at"w") (by intro j;walk_at"w") (fG ord dn) [] ?JE
  case JE=>
  intro d kk r hL _;rw[Fl] at hL;have Lu:kk∈fG ord dn:=by rw[hL];simp
  have Q0:kk<6:=ho6 kk (lO.mp Lu).1;have P8:kk<bf.length:=hb.symm▸Q0;have hbz:bf.length<=eJ:=by rw[hb];decide
  have Ln:(fG ord dn).length<=6:=fD (xF _ _) ho;have F1:d.length<=6:=by have:=congrArg rS hL;simp at this;exact aV (aG [_,_,_] [.l .x (.n 6),.f .x (.a .y (.u .z)),.l (.u (.n 6)) .y] rfl Ln this)
  have pW:∀st:aC,aJ B (k+3) {sc:=bQ 23} (Bc ord ev cV aX bf dn rn (d.map (eC ev aX dn)) (d.map (oU ev aX bf dn)) kk st) [] (.cF (Bc ord ev cV aX bf dn rn (d.map (eC ev aX dn)) (d.map (oU ev aX bf dn)) kk st)):=λst=>aJ.nil;refine' aJ.cons (aP.assign (r:=.str "") aB.As (fR rfl) (λ_=>rfl)) ?Bd
  case Bd=>
  refine aJ.sub (v1:=Bc ord ev cV aX bf dn rn (d.map (eC ev aX dn)) (d.map (oU ev aX bf dn)) kk "") (.of rfl) ?_;generalize fL:d.map (eC ev aX dn)=fr;generalize Q7:d.map (oU ev aX bf dn)=du;have yR:fr.length<=6:=by rw[<-fL,fE];exact F1
  have hul:du.length<=6:=by rw[<-Q7,fE];exact F1
  refine' aJ.cons (v1:=Bc ord ev cV aX bf dn rn fr du kk (eC ev aX dn kk)) ?Yc ?JI
  case Yc=>
   refine' aP.loop (xs:=(iY 0 ev).map λq=>.cD [.int (q.1:Int),tF q.2]) ?KO ?f15 (λ_ _=>rfl)
   case KO=>
    rw[<-Uw];exact cR.tB (by walk_at"w") rfl (by walk_at"w")
   case f15=>
    have Bk:=UK ev aX dn kk;refine' gP.aJy (I:=Bc ord ev cV aX bf dn rn fr du kk) (P:=λs=>∃d':List (Nat×Ev),s.length<=5*d'.length/\d'.length<=12) (s:=eC ev aX dn kk) ?x15
    case x15=>
    rw[<-Bk];refine' gP.aK8 (uE aX dn kk) (Bc ord ev cV aX bf dn rn fr du kk) (λd s=>s.length<=5*d.length/\d.length<=12) (λq:Nat×Ev=>.cD [.int (q.1:Int),tF q.2]) (λq=>[("place",.int (q.1:Int)),("at",.int q.2.1),("kind",.int (q.2.2.1:Int)),("one",.int (q.2.2.2:Int))]) (iY 0 ev) [] "" ⟨by decide+kernel,by simp⟩ (by intro q _;walk_at"w") (by intro q _;walk_at"w") ?t16
    case t16=>
    intro d' q r' s Ij hq hP;obtain⟨Ef,Ls⟩:=hP;have HX:=(DO ev 0 q hq).1
    have F6:d'.length+1<=12:=by
     have:=congrArg rS Ij;simp[Ck] at this;exact aV (aG [_,_,_] [.e .x (.n 12),.f .x (.a .y (.u .z)),.l (.u (.n 12)) (.u .y)] rfl Ma this)
    have O6:=TQ aX dn kk q;unfold uE
    by_cases hc:q.2.2.1=1/\q.2.2.2=kk
    ·rw[if_pos hc]
     refine⟨⟨by rw[nV];simp;exact aV (aG [_,_] [.l .x (.m 5 .y),.l (.u (.m 5 (.u .y))) .x] rfl Ef),by simp;exact vB F6⟩,?_⟩;refine' aJ.stop (aP.ite (b:=true) ?uV ?i17) rfl
     case uV=>
      refine' bA.to (bA.vL (iZ.La (b:=decide ((q.2.2.1:Int)=1)) (c:=decide ((q.2.2.2:Int)=(kk:Int))) ?IV λ_=>?IU)) (by rw[hc.1,hc.2];simp)
      case IV=>exact bA.cZ (by walk_at"w") (aB.ar aB.cC) bG.yW rfl
      case IU=>exact bA.cZ (by walk_at"w") (by walk_at"w") bG.yW rfl
     case i17=>
      rw[if_pos rfl];exact aJ.sub (.of rfl) (aJ.stop aP.brk rfl)
    ·rw[if_neg hc]
     refine' fF.cons (aP.ite (b:=false) ?uV aJ.nil) ?r17
     case uV=>
      refine' bA.to (bA.vL (iZ.La (b:=decide ((q.2.2.1:Int)=1)) (c:=decide ((q.2.2.2:Int)=(kk:Int))) ?IV λ_=>?IU)) ?Si
      case IV=>exact bA.cZ (by walk_at"w") (aB.ar aB.cC) bG.yW rfl
      case IU=>exact bA.cZ (by walk_at"w") (by walk_at"w") bG.yW rfl
      case Si=>
       rw[Bool.and_eq_false_iff]
       by_cases h1:q.2.2.1=1
       ·right;exact decide_eq_false λh2=>hc ⟨h1,Iq.mp h2⟩
       ·left;exact decide_eq_false λh2=>h1 (by exact eQ (cG [_] [] [.f (.c .x) .i,.O (.l (.u .x) .i)] rfl h2) (cG [_] [] [.e (.c .x) .i,.O (.l (.u .i) .x)] rfl h2))
     case r17=>
     refine' fF.cons (aP.assign (r:=.int ((aX/4^q.1 % 4:Nat):Int)) ?jS (fR rfl) (λ_=>rfl)) ?r19
     case jS=>
      have e4:((aX:Int).fdiv (4^(q.1:Int).toNat)).fmod 4=((aX/4^q.1 % 4:Nat):Int):=by
       have h4:(4:Int)^(q.1:Int).toNat=((4^q.1:Nat):Int):=by simp
       rw[h4,Fm _ (jM _),vH _ (by decide)]
       norm_cast
      refine aB.to (r:=.int (((aX:Int).fdiv (4^(q.1:Int).toNat)).fmod 4)) ?_ (by rw[e4]);have hp4:(4:Nat)^q.1<=4^12:=Ts (by decide) (by exact aV (aG [_,_] [.e .x (.n 12),.l (.u .y) (.a .o .x),.l (.u (.n 12)) .y] rfl Ma HX));have hp0:0<(4:Nat)^q.1:=Nat.pow_pos (by decide);have O5:(4:Int)^(q.1:Int).toNat=((4^q.1:Nat):Int):=by simp
      refine' aB.dB (aB.ar (aB.dB (by walk_at"w") (aB.ar (aB.dB (aB.ar aB.cC) (by walk_at"w") (cA.pow (by exact jM _) ?z20))) (cA.fdiv (by rw[O5];exact Int.ne_of_gt (Es.mpr hp0)) ?m20))) (aB.ar aB.cC) (cA.mod (by decide))
      case z20=>
       have:(NU 4:Int)=3:=by decide+kernel
       rw[this];exact rM (NK (zA.mpr (show q.1<=12 by rw[<-Ma];exact eO (by rw[Bu] at HX;exact HX))) (by decide)) (by decide)
      case m20=>
       rw[O5];have:(4:Nat)^12=16777216:=by decide
       exact pZ hp4 (by decide)
     case r19=>
     have Pw:fF B (k+3) {sc:=bQ 23} [] (Bc ord ev cV aX bf dn rn fr du kk (s++qY aX dn kk q)) (Bc ord ev cV aX bf dn rn fr du kk) (λs=>s.length<=5*(d'++[q]).length/\(d'++[q]).length<=12) (.go (s++qY aX dn kk q)):=
      fF.nil ⟨by rw[PJ,nV];simp;exact aV (aG [_,_,_] [.l .x (.m 5 .y),.l .z (.n 5),.l (.u (.m 5 (.u .y))) (.a .x .z)] rfl Ef O6.1),by simp;exact vB F6⟩ (fK.refl _)
     refine⟨Pw.1,?_⟩;have iF:s.length+(qY aX dn kk q).length<=eJ:=by rw[cU];exact aV (aG [_,_,_] [.l .x (.m 5 .y),.L 5 .y (.n 12),.l .z (.n 5),.l (.u (.n 16777216)) (.a .x .z)] rfl Ef Ls O6.1)
     have GZ:∀(l:List aC) (vs:aU) (es:List bJ) (n:Nat) (p:dI),aZ B (k+3) (bQ 23) vs es ((cK l).map .val)->l.length<=4->aB B (k+3) (bQ 23) vs (.Tuple es n p) (.cD (cK l)):=λl vs es n p h1 h2=>aB.cD h1 (by rw[qC];exact fA h2 rfl);have HA:∀(l:List aC) (i:Nat),l.length<=4->i<l.length->iC B (k+3) (.val (.cD (cK l))) (.val (.int (i:Int))) (.str (l.getD i "")):=λl i h1 h2=>iC.cD rfl (by simp[cK,h2]) (by rw[qC];exact fA h1 rfl);refine' aJ.sJ (b:=decide ((q.2.2.1:Int)=1)) (bA.cZ (by walk_at"w") (aB.ar aB.cC) bG.yW rfl) ?KJ
     case KJ=>
     by_cases h1:q.2.2.1=1
     ·have e1:decide ((q.2.2.1:Int)=1)=true:=decide_eq_true (by exact sP (cG [_] [] [.O (.f .x .i),.l (.u (.c .x)) .i] rfl h1) (cG [_] [] [.O (.e .x .i),.l (.u .i) (.c .x)] rfl h1))
      rw[e1,if_pos rfl];have ep:qY aX dn kk q=Dm.getD (aX/4^q.1 % 4) "":=by unfold qY;rw[if_pos h1]
      rw[ep] at iF ⊢;refine' aJ.dT (aJ.cons (aP.Bt ?Qz (aB.ar ?Bo) (lQ.xX iF) (fR rfl)) aJ.nil) ?Hq
      case Qz=>walk_at"w"
      case Bo=>
       refine' aB.sub (aB.ar (GZ Dm _ _ _ _ ?Hv (by decide))) ?Rf (HA Dm _ (by decide) (by show _<4;exact(gY _ (sW 3))))
       case Hv|Rf=>walk_at"w"
      case Hq=>exact .of rfl
     ·have e1:decide ((q.2.2.1:Int)=1)=false:=decide_eq_false (by exact λe=>h1 (Iq.mp e))
      rw[e1,if_neg nofun];refine' aJ.sJ (b:=dn.contains q.2.2.2) (by walk_at"w") ?i24
      case i24=>
      cases Ry:dn.contains q.2.2.2 with
      |true=>
       rw[if_pos rfl];have ep:qY aX dn kk q=Dl.getD ((aX/4^q.1 % 4+q.1) % 4) "":=by unfold qY;rw[if_neg h1,if_pos Ry]
       rw[ep] at iF ⊢;refine' aJ.dT (aJ.cons (aP.Bt ?Qz (aB.ar ?Bo) (lQ.xX iF) (fR rfl)) aJ.nil) ?Hq
       case Qz=>walk_at"w"
       case Bo=>
        refine' aB.sub (aB.ar (GZ Dl _ _ _ _ ?Hv (by decide))) (aB.ar (aB.to (r:=.int ((((aX/4^q.1 % 4:Nat):Int)+(q.1:Int)).fmod 4)) ?Rf ?JY)) (HA Dl _ (by decide) (by show _<4;exact(gY _ (sW 3))))
        case Hv=>walk_at"w"
        case Rf=>exact aB.dB (aB.ar (aB.dB (by walk_at"w") (by walk_at"w") cA.add)) (aB.ar aB.cC) (cA.mod (by decide))
        case JY=>rw[vH _ (by decide)];norm_cast
       case Hq=>exact .of rfl
      |false=>
       rw[if_neg nofun];have ep:qY aX dn kk q=Dk.getD (kk/2) "":=by unfold qY;rw[if_neg h1,if_neg (by rw[Ry];nofun)]
       rw[ep] at iF ⊢;refine' aJ.dT (aJ.cons (aP.Bt ?Qz (aB.ar ?Bo) (lQ.xX iF) (fR rfl)) aJ.nil) ?Hq
       case Qz=>walk_at"w"
       case Bo=>
        refine' aB.sub (aB.ar (GZ Dk _ _ _ _ ?Hv (by decide))) (aB.ar (aB.to (r:=.int ((kk:Int).fdiv 2)) ?Rf ?JY)) (HA Dk _ (by decide) (by show _<3;exact bV (aG [_,_,_] [.l (.u .x) (.n 6),.e (.a (.m 2 .y) .z) .x,.L 2 (.n 3) .y] rfl Q0 (iK _ 2))))
        case Hv=>walk_at"w"
        case Rf=>exact aB.dB (by walk_at"w") (aB.ar aB.cC) (cA.fdiv (by decide) (by decide))
        case JY=>rw[Fm _ (by decide)];norm_cast
       case Hq=>exact .of rfl
  case JI=>
  have elf:cK fr++[AV.str (eC ev aX dn kk)]=cK (fr++[eC ev aX dn kk]):=by simp[cK]
  have elu:cK du++[AV.str (oU ev aX bf dn kk)]=cK (du++[oU ev aX bf dn kk]):=by simp[cK]
  refine' aJ.cons (v1:=Bc ord ev cV aX bf dn rn (fr++[eC ev aX dn kk]) du kk (eC ev aX dn kk)) ?s30 ?r30
  case s30=>
   refine' aP.dT (aP.append (xs:=cK fr) (r:=.str (eC ev aX dn kk)) (by walk_at"w") (by intro _;rfl) rfl rfl (by walk_at"w") (by rw[qC];exact fA yR rfl)) (by rw[elf];exact .of rfl)
  case r30=>
  have efr:(d++[kk]).map (eC ev aX dn)=fr++[eC ev aX dn kk]:=by rw[Fh,fL];rfl
  have edu:(d++[kk]).map (oU ev aX bf dn)=du++[oU ev aX bf dn kk]:=by rw[Fh,Q7];rfl
  rw[efr,edu];generalize fr++[eC ev aX dn kk]=fr2;refine' aJ.dT (aJ.cons (aP.append (xs:=cK du) (r:=.str (oU ev aX bf dn kk)) (by walk_at"w") (by intro _;rfl) rfl rfl ?e32 (by rw[qC];exact fA hul rfl)) aJ.nil) (by rw[elu];exact .of rfl)
  case e32=>
   refine' gQ.ite (r:=.val (.str (oU ev aX bf dn kk))) (b:=decide (Jy bf dn kk=[])) ?t33 ?v33
   case v33=>
    unfold oU;cases hbk:decide (Jy bf dn kk=[]) with
    |true=>rw[if_pos rfl,if_pos rfl];walk_at"w"
    |false=>rw[if_neg nofun,if_neg nofun];exact aB.ar aB.As
   case t33=>
    refine' bA.cZ (x:=.val (.aO (aQ (Jy bf dn kk)))) (y:=.val (.aO [])) (aB.ar ?c34) (aB.ar (aB.aO (xs:=[]) aZ.nil (by decide))) (bG.aMd (k:=k+1) (.val _) (.val _)) rfl
    case c34=>
     refine'(eA.jO (bX 6) (λ(i:Nat)=>.int (i:Int)) (λ(i:Nat)=>[("one",.int (i:Int))]) (λbU=>(bf.getD kk 0).testBit bU&& !dn.contains bU) (λ(i:Nat)=>.int (i:Int)) (fv:=[("before",.val (.aO (aQ bf))),("done",.val (.aO (aQ dn))),("k",.val (.int (kk:Int)))]) (by walk_at"w") (by rw[<-xJ];refine' cR.xS (n:=6) (by walk_at"w") rfl (by walk_at"w") rfl (by decide)) (by intro i _;exact .name _ _ _) (by intro i _;walk_at"w") (by intro i _;exact .of rfl) ?t35 (by intro i _ _;walk_at"w") (by decide)).ev
     case t35=>
      intro i _;refine' jQ.bU (bA.vL (iZ.La (bA.to (by walk_at"w") (Uy (bf.getD kk 0) i)) λ_=>(by walk_at"w")))
 case JK=>
 generalize fL:(fG ord dn).map (eC ev aX dn)=fr;have yR:fr.length<=6:=by rw[<-fL,fE];exact fD (xF _ _) ho
 have Ln:(fG ord dn).length<=6:=fD (xF _ _) ho
 have Ib:∀x∈fr,x.length<=1000/\qB x=true:=by
  intro x hx;rw[<-fL] at hx;obtain⟨kk,_,rfl⟩:=gK.mp hx;have:=aFs ev aX dn kk;rw[Ma] at this;exact⟨by exact aV (aG [_] [.l .x (.m 5 (.n 12)),.l (.u (.n 1000)) .x] rfl this.1),this.2⟩
 have aJ9:(fG ord dn).map (oU ev aX bf dn)=fr.map fC:=by
  rw[<-fL,fO];exact zG λkk hk=>(Ht kk hk).symm
 have aLw:∀x∈fr.map fC,qB x=true:=by
  intro x hx;obtain⟨y,hy,rfl⟩:=gK.mp hx;unfold fC
  split
  ·exact(Ib y hy).2
  ·decide+kernel
 rw[aJ9];refine aJ.sub (v1:=Qr ord ev cV aX bf dn rn fr (fr.map fC)) (fK.refl _) ?_;refine aJ.jF (y:="fronts") (xs:=cK fr) rfl nofun ?_;refine aJ.jF (y:="due") (xs:=cK (fr.map fC)) rfl nofun ?_;refine aJ.sub (v1:=J0 ord ev cV aX bf dn rn fr) (.of rfl) ?_;refine' aJ.cons (aP.assign (r:=.aO (cK fr)) ?a40 (fR rfl) (λ_=>rfl)) ?r40
 case a40=>
  refine' aB.blt (by walk_at"w") (.inr ⟨_,rfl⟩) rfl (by walk_at"w") (cJ.list (by rw[qC];exact fA yR rfl))
 case r40=>
 refine' aJ.cons (aP.assign (r:=.aO (cK (fr.map fC))) ?a42 (fR rfl) (λ_=>rfl)) ?r42
 case a42=>
  refine' aB.Cx (args:=[.aO (cK fr)]) tp rfl rfl rfl (by walk_at"w") rfl (by walk_at"w") (fK.refl _) (aEr bl hg tx tc fr yR λx hx=>(Ib x hx).1)
 case r42=>
 refine aJ.sub (v1:=("given",.val (.aO (cK fr)))::("kept",.val (.aO (cK (fr.map fC))))::J0 ord ev cV aX bf dn rn fr) (.of rfl) ?_;refine' aJ.cons (aP.ite (b:=false) ?t44 aJ.nil) ?r44
 case t44=>
  refine' bA.vL (iZ.Qv (b:=false) (c:=false) (bA.cZ (by walk_at"w") (by walk_at"w") (bG.M1 (k:=k+1) (.val (cK (fr.map fC))) (.val (cK (fr.map fC))) aLw) rfl) λ_=>(bA.cZ (by walk_at"w") (by walk_at"w") (bG.M1 (k:=k+1) (.val (cK fr)) (.val (cK fr)) λx hx=>(Ib x hx).2) rfl))
 case r44=>
 refine' aJ.cons (aP.assign (r:=.aO (aQ (zY ord ev cV aX dn))) ?a46 (fR rfl) (λ_=>rfl)) ?r46
 case a46=>
  have hz:=fD (xF (λk=>fC (eC ev aX dn k)==eC ev aX dn k) (fG ord dn)) Ln;have en:aQ (zY ord ev cV aX dn)=aQ dn++aQ (((fG ord dn).filter λk=>fC (eC ev aX dn k)==eC ev aX dn k).take cV):=by unfold zY;rw[Ud]
  rw[en];refine' aB.dB (by walk_at"w") (aB.ar ?s47) (cA.Pq (.val _) (.val _) (by rw[gM,gM,qS,cU];exact aV (aG [_,_,_] [.l .x (.n 3),.l .y (.n 18),.l .z .x,.l (.u (.n 16777216)) (.a .y .z)] rfl hh YC (rT _ _))))
  case s47=>
   have ep:jG (aQ ((fG ord dn).filter λk=>fC (eC ev aX dn k)==eC ev aX dn k)) none (some (cV:Int)) none=aQ (((fG ord dn).filter λk=>fC (eC ev aX dn k)==eC ev aX dn k).take cV):=by
    rw[Nj];unfold aQ;rw[BC]
   refine' aB.to (aB.Ow (c:=none) (xs:=aQ ((fG ord dn).filter λk=>fC (eC ev aX dn k)==eC ev aX dn k)) (.val _) (aB.ar ?c48) .none (.some (i:=(cV:Int)) (by walk_at"w")) .none nofun (by rw[gM];exact fA hz rfl)) (by rw[ep])
   case c48=>
    refine'(eA.jO (fG ord dn) (λk:Nat=>.cD [.int (k:Int),.str (eC ev aX dn k),.str (fC (eC ev aX dn k))]) (λk:Nat=>[("k",.int (k:Int)),("front",.str (eC ev aX dn k)),("told",.str (fC (eC ev aX dn k)))]) (λk=>fC (eC ev aX dn k)==eC ev aX dn k) (λ(i:Nat)=>.int (i:Int)) (fv:=[]) (by walk_at"w") ?i49 (by intro i _;walk_at"w") (by intro i _;walk_at"w") (by intro i _;exact .of rfl) (by intro i _;exact jQ.bU (by walk_at"w")) (by intro i _ _;walk_at"w") (fA Ln rfl)).ev
    case i49=>
     have e3:=aD6 (w:=fG ord dn) (eC ev aX dn) (λk=>fC (eC ev aX dn k));have e4:(fG ord dn).map (λk=>fC (eC ev aX dn k))=fr.map fC:=by rw[<-fL,fO];rfl
     rw[fL,e4] at e3;rw[<-e3];refine' cR.Wv (by walk_at"w") rfl (by walk_at"w") (by walk_at"w") (by walk_at"w") (by rw[qC,gM,<-fL,fE]) (by rw[qC,gM,<-fL,fE,fE])
 case r46=>
 have er:((rn+if fG ord dn=[] then 0 else 1:Nat):Int)=(rn:Int)+(if(!decide (fG ord dn=[]))=true then 1 else 0):=by
  by_cases h:fG ord dn=[]
  ·simp[h]
  ·simp[h]
 refine' aJ.dT (aJ.cons (aP.Bt (r:=.int ((rn+if fG ord dn=[] then 0 else 1:Nat):Int)) (y:=.val (.int (if(!decide (fG ord dn=[]))=true then 1 else 0))) (by walk_at"w") ?h51 (by rw[er];exact lQ.add) (fR rfl)) aJ.nil) (.of rfl)
 case h51=>
  refine' gQ.ite (bA.cZ (by walk_at"w") (aB.ar (aB.aO aZ.nil (by decide))) (bG.B9 (.val (aQ (fG ord dn))) (.val _)) rfl) ?v52
  case v52=>
   cases (!decide (fG ord dn=[])) with
   |true=>exact aB.ar aB.cC
   |false=>exact aB.ar aB.cC
end
section
variable {B:BD} {k:Nat} {F:Fn} {sc:bR} {vars vars':aU}
def G8(B:BD)(k:Nat)(f:Nat->Int)(g:aT)(v:aD):Prop:=(∃a o fd,v=.ref a/\g a=some o/\o.data=.func fd)/\
 ∀(i:Nat) (A:bM) (g':aT) (s:aF) (vs:List aD) (Q:aD->aF->Prop) (E:aD->aF->Prop),i<6->g.Sub g'->dS B k A s.heap->bI B g' s.heap->bD B g' vs [.int (i:Int)]->
  (∀v s' eP,bT B s g' s' eP->VR B eP v (.int (f i))->Q v s')->aK (aW B) A (gL v vs []) Q E s
noncomputable abbrev mQ(B:BD)(k:Nat)(f:Nat->Int):AV:=.mZ 1 (G8 B k f)
theorem bG.Vh:bG B k .Is (.val (mQ B j f)) (.val .none) false:=by
 intro A g s v w Q E R G hv hw K;obtain rfl:=VR.bB hw;have hv:=hv;have h:=VR.bB hv;obtain⟨⟨a,o,fd,rfl,_,_⟩,_⟩:=h g (.refl g)
 with_reducible refine is_none ?_
 exact K _ _ (.refl G)
theorem aB.XR{j:Nat}(hj:j<=k){x:aC}{p pos:dI}{e:bJ}{f:Nat->Int}{i:Nat}(n:fP sc vars x (.val (mQ B j f)))(hn:eR [e]=true)(hi:i<6)(h:aB B k sc vars e (.int (i:Int))):aB B k sc vars (.Call (.Name x p) [e] [] pos) (.int (f i)):=by
 intro A aA g s Q E P K;refine zC ?_;refine aB.Gr n A aA g s _ E P λv s1 g1 X hv=>?_;have hv:=VR.bB hv;have hk:=hv g1 (.refl g1);obtain⟨⟨a,o,fd,rfl,ho,hd⟩,hc⟩:=hk;refine Nx (P.post X) ⟨a,o,fd,rfl,(X.ok.sub a o ho).1,hd,(X.ok.sub a o ho).2⟩ hn (.c h.ar .nil hn) .nil λvs us s2 g2 Y bF oY=>?_;cases oY;exact hc i A g2 s2 vs Q E hi Y.ext.sub (((P.room.mono X.keep.le).mono Y.keep.le).le hj) Y.ok (fW.Wx bF) λv s3 g3 Z hv=>K v s3 g3 ((X.trans Y).trans Z) hv
theorem aB.ZJ{x:aC}{p pos:dI}{e:bJ}{f:Nat->Int}{i:Nat}(n:fP sc vars x (.val (mQ B k f)))(hn:eR [e]=true)(hi:i<6)(h:aB B k sc vars e (.int (i:Int))):aB B k sc vars (.Call (.Name x p) [e] [] pos) (.int (f i)):=aB.XR (dH _) n hn hi h
theorem aB.XS{x:aC}{p pos:dI}{e:bJ}{f:Nat->Int}{i:Nat}(n:fP sc vars x (.val (mQ B k f)))(hn:eR [e]=true)(hi:i<6)(h:aB B (k+1) sc vars e (.int (i:Int))):aB B (k+1) sc vars (.Call (.Name x p) [e] [] pos) (.int (f i)):=aB.XR (Iy _) n hn hi h
noncomputable def sF(p:Nat->Bool):Nat->Nat->Nat->Nat
 |0,lo,_=>lo
 |n+1,lo,hi=>if lo<hi then(if p ((lo+hi)/2) then sF p n lo ((lo+hi)/2) else sF p n ((lo+hi)/2+1) hi) else lo
theorem Of{p:Nat->Bool}{lo hi:Nat}:sF p (n+1) lo hi=if lo<hi then(if p ((lo+hi)/2) then sF p n lo ((lo+hi)/2) else sF p n ((lo+hi)/2+1) hi) else lo:=rfl
theorem Un(V:Nat->Nat->aU)(p:Nat->Bool)(M:Nat)(ht:∀lo hi,bA B k F.sc (V lo hi) oA (decide (lo<hi)))
 (hb:∀lo hi,lo<hi->hi<=M->aJ B k F (V lo hi) body (.cF (if p ((lo+hi)/2) then V lo ((lo+hi)/2) else V ((lo+hi)/2+1) hi))):
 ∀(n lo hi:Nat),lo<=hi->hi<=M->hi-lo<=n->Eo B k F oA body n (V lo hi) (.cF (V (sF p n lo hi) (sF p n lo hi))):=by
 intro n;induction n with
 |zero=>
  intro lo hi h1 h2 h3;have e:hi=lo:=eQ (aG [_,_] [.l .x .y,.l (.u .y) .x] rfl h1) (aG [_,_,_] [.l .x .o,.f (.a .x .y) .z,.l (.u .y) .z] rfl h3 (bC (h1)));subst e;exact .done (bA.to (ht hi hi) (by simp))
 |succ n ih=>
  intro lo hi h1 h2 h3;rw[Of]
  by_cases h:lo<hi
  ·rw[if_pos h]
   have hm:lo<=(lo+hi)/2/\(lo+hi)/2<hi:=⟨aV (aG [_,_,_,_] [.l .x .y,.f (.a (.m 2 .z) .w) (.a .x .y),.l (.u .w) (.n 2),.L 2 (.u .z) .x] rfl h1 (iK _ 2) (gY _ (sW 1))),bV (aG [_,_,_,_] [.l (.u .x) .y,.e (.a (.m 2 .z) .w) (.a .x .y),.L 2 .y .z] rfl h (iK _ 2))⟩
   have Md:=hb lo hi h h2;cases hp:p ((lo+hi)/2) with
   |true=>
    rw[hp,if_pos rfl] at Md;rw[if_pos rfl];exact .cF (bA.to (ht lo hi) (by simp[h])) Md (ih lo _ hm.1 (aV (aG [_,_,_] [.l .x .y,.l (.u .z) .x,.l (.u .y) .z] rfl h2 hm.2)) (aV (aG [_,_,_,_,_,_] [.l .x (.u .y),.l (.u .z) .w,.e (.a .p .q) .z,.f (.a .x .q) .w,.l (.u .y) .p] rfl h3 hm.2 (bC (hm.1)) (bC (h1)))))
   |false=>
    rw[hp,if_neg nofun] at Md;rw[if_neg nofun];exact .cF (bA.to (ht lo hi) (by simp[h])) Md (ih _ hi (hm.2) h2 (aV (aG [_,_,_,_,_,_] [.l .x (.u .y),.l .z .w,.e (.a .p (.u .w)) .q,.f (.a .x .z) .q,.l (.u .y) .p] rfl h3 hm.1 (bC (hm.2)) (bC (h1)))))
  ·rw[if_neg h]
   have e:hi=lo:=eQ (aG [_,_] [.l .x .y,.l (.u .y) .x] rfl h1) (aG [_,_] [.m .x .y,.l (.u .x) .y] rfl h);subst e;exact .done (bA.to (ht hi hi) (by simp))
noncomputable def cP(p:Nat->Bool)(lo hi:Nat):Nat:=sF p (hi-lo) lo hi
noncomputable def oE:Option Nat->AV
 |none=>.none
 |some n=>.int (n:Int)
noncomputable def rV(key:AV)(l:List AV)(x:Int)(lo:Nat)(hi:AV):aU:=[("a",.val (.aO l)),("x",.val (.int x)),("lo",.val (.int (lo:Int))),("hi",.val hi),("key",.val key)]
theorem aHg(lo hi:Nat):((lo:Int)+(hi:Int)).fdiv 2=(((lo+hi)/2:Nat):Int):=by
 rw[Fm _ (by decide)];norm_cast
theorem aB.mid{l r:bJ}{p q:dI}{n:Nat}{o:dI}{lo hi:Nat}(h1:gQ B k sc vars l (.val (.int (lo:Int))))(h2:gQ B k sc vars r (.val (.int (hi:Int)))):aB B k sc vars (.BinOp (.BinOp l .Add r p) .FloorDiv (.Constant (.int 2) n o) q) (.int ((lo+hi)/2:Nat)):=
 aB.to (aB.dB (aB.ar (aB.dB h1 h2 cA.add)) (aB.ar aB.cC) (cA.fdiv (by decide) (by decide))) (congrArg AV.int (aHg _ _))
theorem aD3(bl:eZ B){l:List Int}{x:Int}{lo:Nat}{hi:Option Nat}(hl:l.length<=100)(h1:lo<=hi.getD l.length)(h2:hi.getD l.length<=l.length):
 bL B k {sc:=bQ 9} (rV .none (bW l) x lo (oE hi)) (cH 9) (.int (cP (λm=>decide (x<l.getD m 0)) lo (hi.getD l.length):Nat)):=by
 conv in (cH 9)=>whnf
 unfold rV
 walk_at"st"
 refine' bL.cons (aP.ite (b:=false) (bA.to (bA.cZ (by walk_at"w") (aB.ar aB.cC) bG.lt rfl) (by simp)) aJ.nil) ?r1
 case r1=>
 refine' bL.cons (v1:=rV .none (bW l) x lo (.int (hi.getD l.length:Nat))) (aP.ite (b:=(oE hi).Lk) ?t2 ?i2) ?r2
 case t2=>
  refine bA.cZ (by walk_at"w") (aB.ar aB.sE) (bG.isNone ?_ ?_) rfl
  ·intro y;cases hi<;>nofun
  ·intro n P;cases hi<;>nofun
 case i2=>
  cases hi with
  |some n=>exact aJ.nil.dT (.of rfl)
  |none=>
   show aJ _ _ _ _ [_] _;refine' aJ.dT (aJ.cons (aP.assign (r:=.int ((bW l).length:Nat)) ?a3 (fR rfl) (λ_=>rfl)) aJ.nil) (by rw[rU];exact .of rfl)
   case a3=>
    refine' aB.blt (by walk_at"w") (.inl ⟨_,rfl⟩) rfl (by walk_at"w") (cJ.yB (.val _) (by rw[rU];exact fA hl rfl))
 case r2=>
 generalize hi.getD l.length=h at h1 h2 ⊢;refine' bL.cons (v1:=rV .none (bW l) x (cP (λm=>decide (x<l.getD m 0)) lo h) (.int (cP (λm=>decide (x<l.getD m 0)) lo h:Nat))) (aP.ite (bA.cZ (by walk_at"w") (aB.ar aB.sE) (bG.isNone (x:=.none) (λ_ h=>by cases h) (λ_ _ h=>by cases h)) rfl) ?i4) (bL.ret (by walk_at"w"))
 case i4=>
  refine aJ.bU (aP.while (Un (λlo hi=>rV .none (bW l) x lo (.int (hi:Nat))) (λm=>decide (x<l.getD m 0)) h ?_ ?_ (h-lo) lo h h1 (dH _) (dH _)))
  ·intro lo hi
   exact bA.to (bA.cZ (by walk_at"w") (by walk_at"w") bG.lt rfl) (by simp)
  ·intro lo hi q1 q2
   unfold rV;refine' aJ.cons (aP.assign (aB.mid (by walk_at"w") (by walk_at"w")) (fR rfl) (λ_=>rfl)) ?r6
   case r6=>
   refine' aJ.sJ (by exact bA.cZ (by walk_at"w") (aB.ar (aB.sub (by walk_at"w") (by walk_at"w") (iC.list (.val _) rfl (TV l _ (by exact bV (aG [_,_,_,_,_,_] [.L 2 .x .y,.l (.u .z) .w,.L 2 .w .x,.e (.a (.m 2 .p) .q) (.a .z .w),.L 2 .y .p] rfl h2 q1 q2 (iK _ 2)))) (by rw[rU];exact fA hl rfl)))) bG.lt rfl) ?i7
   case i7=>
    cases hp:decide (x<l.getD ((lo+hi)/2) 0) with
    |true=>
     rw[if_pos rfl,if_pos rfl];refine' aJ.dT (aJ.cons (aP.assign ?a8 (fR rfl) (λ_=>rfl)) aJ.nil) ?w8
     case a8=>walk_at"w"
     case w8=>exact .of rfl
    |false=>
     rw[if_neg nofun,if_neg nofun];refine' aJ.dT (aJ.cons (aP.assign ?a8 (fR rfl) (λ_=>rfl)) aJ.nil) ?w8
     case a8=>walk_at"w"
     case w8=>exact .of rfl
theorem aD4(bl:eZ B){l:List Int}{x:Int}{lo:Nat}{hi:Option Nat}(hl:l.length<=100)(h1:lo<=hi.getD l.length)(h2:hi.getD l.length<=l.length):
 bL B k {sc:=bQ 11} (rV .none (bW l) x lo (oE hi)) (cH 11) (.int (cP (λm=> !decide (l.getD m 0<x)) lo (hi.getD l.length):Nat)):=by
 conv in (cH 11)=>whnf
 unfold rV
 walk_at"st"
 refine' bL.cons (aP.ite (b:=false) (bA.to (bA.cZ (by walk_at"w") (aB.ar aB.cC) bG.lt rfl) (by simp)) aJ.nil) ?r1
 case r1=>
 refine' bL.cons (v1:=rV .none (bW l) x lo (.int (hi.getD l.length:Nat))) (aP.ite (b:=(oE hi).Lk) ?t2 ?i2) ?r2
 case t2=>
  refine bA.cZ (by walk_at"w") (aB.ar aB.sE) (bG.isNone ?_ ?_) rfl
  ·intro y;cases hi<;>nofun
  ·intro n P;cases hi<;>nofun
 case i2=>
  cases hi with
  |some n=>exact aJ.nil.dT (.of rfl)
  |none=>
   show aJ _ _ _ _ [_] _;refine' aJ.dT (aJ.cons (aP.assign (r:=.int ((bW l).length:Nat)) ?a3 (fR rfl) (λ_=>rfl)) aJ.nil) (by rw[rU];exact .of rfl)
   case a3=>
    refine' aB.blt (by walk_at"w") (.inl ⟨_,rfl⟩) rfl (by walk_at"w") (cJ.yB (.val _) (by rw[rU];exact fA hl rfl))
 case r2=>
 generalize hi.getD l.length=h at h1 h2 ⊢;refine' bL.cons (v1:=rV .none (bW l) x (cP (λm=> !decide (l.getD m 0<x)) lo h) (.int (cP (λm=> !decide (l.getD m 0<x)) lo h:Nat))) (aP.ite (bA.cZ (by walk_at"w") (aB.ar aB.sE) (bG.isNone (λ_ h=>by cases h) (λ_ _ h=>by cases h)) rfl) ?i4) (bL.ret (by walk_at"w"))
 case i4=>
  refine aJ.bU (aP.while (Un (λlo hi=>rV .none (bW l) x lo (.int (hi:Nat))) (λm=> !decide (l.getD m 0<x)) h ?_ ?_ (h-lo) lo h h1 (dH _) (dH _)))
  ·intro lo hi
   exact bA.to (bA.cZ (by walk_at"w") (by walk_at"w") bG.lt rfl) (by simp)
  ·intro lo hi q1 q2
   unfold rV;refine' aJ.cons (aP.assign (aB.mid (by walk_at"w") (by walk_at"w")) (fR rfl) (λ_=>rfl)) ?r6
   case r6=>
   refine' aJ.sJ (by exact bA.cZ (aB.ar (aB.sub (by walk_at"w") (by walk_at"w") (iC.list (.val _) rfl (TV l _ (by exact bV (aG [_,_,_,_,_,_] [.L 2 .x .y,.l (.u .z) .w,.L 2 .w .x,.e (.a (.m 2 .p) .q) (.a .z .w),.L 2 .y .p] rfl h2 q1 q2 (iK _ 2)))) (by rw[rU];exact fA hl rfl)))) (by walk_at"w") bG.lt rfl) ?i7
   case i7=>
    cases hp:decide (l.getD ((lo+hi)/2) 0<x) with
    |true=>
     rw[if_pos rfl,if_neg nofun];refine' aJ.dT (aJ.cons (aP.assign ?a8 (fR rfl) (λ_=>rfl)) aJ.nil) ?w8
     case a8=>walk_at"w"
     case w8=>exact .of rfl
    |false=>
     rw[if_neg nofun,if_pos (show(!false)=true from rfl)];refine' aJ.dT (aJ.cons (aP.assign ?a8 (fR rfl) (λ_=>rfl)) aJ.nil) ?w8
     case a8=>walk_at"w"
     case w8=>exact .of rfl
theorem aB9(bl:eZ B){l:List Nat}{f:Nat->Int}{x:Int}{lo:Nat}{hi:Option Nat}(hl:l.length<=100)(h6:∀a∈l,a<6)(h1:lo<=hi.getD l.length)(h2:hi.getD l.length<=l.length):
 bL B k {sc:=bQ 9} (rV (mQ B k f) (aQ l) x lo (oE hi)) (cH 9) (.int (cP (λm=>decide (x<f (l.getD m 0))) lo (hi.getD l.length):Nat)):=by
 conv in (cH 9)=>whnf
 have hM:∀i,i<l.length->l.getD i 0<6:=λi hi=>by
  rw[iJ,oO hi];exact h6 _ (Ft hi)
 unfold rV
 walk_at"st"
 refine' bL.cons (aP.ite (b:=false) (bA.to (bA.cZ (by walk_at"w") (aB.ar aB.cC) bG.lt rfl) (by simp)) aJ.nil) ?r1
 case r1=>
 refine' bL.cons (v1:=rV (mQ B k f) (aQ l) x lo (.int (hi.getD l.length:Nat))) (aP.ite (b:=(oE hi).Lk) ?t2 ?i2) ?r2
 case t2=>
  refine bA.cZ (by walk_at"w") (aB.ar aB.sE) (bG.isNone ?_ ?_) rfl
  ·intro y;cases hi<;>nofun
  ·intro n P;cases hi<;>nofun
 case i2=>
  cases hi with
  |some n=>exact aJ.nil.dT (.of rfl)
  |none=>
   show aJ _ _ _ _ [_] _;refine' aJ.dT (aJ.cons (aP.assign (r:=.int ((aQ l).length:Nat)) ?a3 (fR rfl) (λ_=>rfl)) aJ.nil) (by rw[gM];exact .of rfl)
   case a3=>
    refine' aB.blt (by walk_at"w") (.inl ⟨_,rfl⟩) rfl (by walk_at"w") (cJ.yB (.val _) (by rw[gM];exact fA hl rfl))
 case r2=>
 generalize hi.getD l.length=h at h1 h2 ⊢;refine' bL.cons (v1:=rV (mQ B k f) (aQ l) x (cP (λm=>decide (x<f (l.getD m 0))) lo h) (.int (cP (λm=>decide (x<f (l.getD m 0))) lo h:Nat))) (aP.ite (b:=false) (bA.cZ (by walk_at"w") (aB.ar aB.sE) bG.Vh rfl) ?i4) (bL.ret (by walk_at"w"))
 case i4=>
  refine aJ.bU (aP.while (n:=h-lo) (Un (λlo hi=>rV (mQ B k f) (aQ l) x lo (.int (hi:Nat))) (λm=>decide (x<f (l.getD m 0))) h ?_ ?_ (h-lo) lo h h1 (dH _) (dH _)))
  ·intro lo hi
   exact bA.to (bA.cZ (by walk_at"w") (by walk_at"w") bG.lt rfl) (by simp)
  ·intro lo hi q1 q2
   unfold rV;refine' aJ.cons (aP.assign (aB.mid (by walk_at"w") (by walk_at"w")) (fR rfl) (λ_=>rfl)) ?r6
   case r6=>
   refine' aJ.sJ (b:=decide (x<f (l.getD ((lo+hi)/2) 0))) (bA.cZ (by walk_at"w") (aB.ar (aB.ZJ (by walk_at"w") rfl (hM _ (by exact bV (aG [_,_,_,_,_,_] [.L 2 .x .y,.l (.u .z) .w,.L 2 .w .x,.e (.a (.m 2 .p) .q) (.a .z .w),.L 2 .y .p] rfl h2 q1 q2 (iK _ 2)))) (aB.sub (by walk_at"w") (by walk_at"w") (iC.Bg (.val _) (by exact bV (aG [_,_,_,_,_,_] [.L 2 .x .y,.l (.u .z) .w,.L 2 .w .x,.e (.a (.m 2 .p) .q) (.a .z .w),.L 2 .y .p] rfl h2 q1 q2 (iK _ 2))) (fA hl rfl))))) bG.lt rfl) ?i7
   case i7=>
    cases hp:decide (x<f (l.getD ((lo+hi)/2) 0)) with
    |true=>
     rw[if_pos rfl,if_pos rfl];refine' aJ.dT (aJ.cons (aP.assign ?a8 (fR rfl) (λ_=>rfl)) aJ.nil) ?w8
     case a8=>walk_at"w"
     case w8=>exact .of rfl
    |false=>
     rw[if_neg nofun,if_neg nofun];refine' aJ.dT (aJ.cons (aP.assign ?a8 (fR rfl) (λ_=>rfl)) aJ.nil) ?w8
     case a8=>walk_at"w"
     case w8=>exact .of rfl
theorem aCa(bl:eZ B){l:List Nat}{f:Nat->Int}{x:Int}{lo:Nat}{hi:Option Nat}(hl:l.length<=100)(h6:∀a∈l,a<6)(h1:lo<=hi.getD l.length)(h2:hi.getD l.length<=l.length):
 bL B k {sc:=bQ 11} (rV (mQ B k f) (aQ l) x lo (oE hi)) (cH 11) (.int (cP (λm=> !decide (f (l.getD m 0)<x)) lo (hi.getD l.length):Nat)):=by
 conv in (cH 11)=>whnf
 have hM:∀i,i<l.length->l.getD i 0<6:=λi hi=>by
  rw[iJ,oO hi];exact h6 _ (Ft hi)
 unfold rV
 walk_at"st"
 refine' bL.cons (aP.ite (b:=false) (bA.to (bA.cZ (by walk_at"w") (aB.ar aB.cC) bG.lt rfl) (by simp)) aJ.nil) ?r1
 case r1=>
 refine' bL.cons (v1:=rV (mQ B k f) (aQ l) x lo (.int (hi.getD l.length:Nat))) (aP.ite (b:=(oE hi).Lk) ?t2 ?i2) ?r2
 case t2=>
  refine bA.cZ (by walk_at"w") (aB.ar aB.sE) (bG.isNone ?_ ?_) rfl
  ·intro y;cases hi<;>nofun
  ·intro n P;cases hi<;>nofun
 case i2=>
  cases hi with
  |some n=>exact aJ.nil.dT (.of rfl)
  |none=>
   show aJ _ _ _ _ [_] _;refine' aJ.dT (aJ.cons (aP.assign (r:=.int ((aQ l).length:Nat)) ?a3 (fR rfl) (λ_=>rfl)) aJ.nil) (by rw[gM];exact .of rfl)
   case a3=>
    refine' aB.blt (by walk_at"w") (.inl ⟨_,rfl⟩) rfl (by walk_at"w") (cJ.yB (.val _) (by rw[gM];exact fA hl rfl))
 case r2=>
 generalize hi.getD l.length=h at h1 h2 ⊢;refine' bL.cons (v1:=rV (mQ B k f) (aQ l) x (cP (λm=> !decide (f (l.getD m 0)<x)) lo h) (.int (cP (λm=> !decide (f (l.getD m 0)<x)) lo h:Nat))) (aP.ite (b:=false) (bA.cZ (by walk_at"w") (aB.ar aB.sE) bG.Vh rfl) ?i4) (bL.ret (by walk_at"w"))
 case i4=>
  refine aJ.bU (aP.while (n:=h-lo) (Un (λlo hi=>rV (mQ B k f) (aQ l) x lo (.int (hi:Nat))) (λm=> !decide (f (l.getD m 0)<x)) h ?_ ?_ (h-lo) lo h h1 (dH _) (dH _)))
  ·intro lo hi
   exact bA.to (bA.cZ (by walk_at"w") (by walk_at"w") bG.lt rfl) (by simp)
  ·intro lo hi q1 q2
   unfold rV;refine' aJ.cons (aP.assign (aB.mid (by walk_at"w") (by walk_at"w")) (fR rfl) (λ_=>rfl)) ?r6
   case r6=>
   refine' aJ.sJ (b:=decide (f (l.getD ((lo+hi)/2) 0)<x)) (bA.cZ (aB.ar (aB.ZJ (by walk_at"w") rfl (hM _ (by exact bV (aG [_,_,_,_,_,_] [.L 2 .x .y,.l (.u .z) .w,.L 2 .w .x,.e (.a (.m 2 .p) .q) (.a .z .w),.L 2 .y .p] rfl h2 q1 q2 (iK _ 2)))) (aB.sub (by walk_at"w") (by walk_at"w") (iC.Bg (.val _) (by exact bV (aG [_,_,_,_,_,_] [.L 2 .x .y,.l (.u .z) .w,.L 2 .w .x,.e (.a (.m 2 .p) .q) (.a .z .w),.L 2 .y .p] rfl h2 q1 q2 (iK _ 2))) (fA hl rfl))))) (by walk_at"w") bG.lt rfl) ?i7
   case i7=>
    cases hp:decide (f (l.getD ((lo+hi)/2) 0)<x) with
    |true=>
     rw[if_pos rfl,if_neg nofun];refine' aJ.dT (aJ.cons (aP.assign ?a8 (fR rfl) (λ_=>rfl)) aJ.nil) ?w8
     case a8=>walk_at"w"
     case w8=>exact .of rfl
    |false=>
     rw[if_neg nofun,if_pos (show(!false)=true from rfl)];refine' aJ.dT (aJ.cons (aP.assign ?a8 (fR rfl) (λ_=>rfl)) aJ.nil) ?w8
     case a8=>walk_at"w"
     case w8=>exact .of rfl
end
section
variable {B:BD} {k:Nat} {F:Fn} {sc:bR} {vars vars':aU}
inductive kJ(B:BD)(i:Nat)(x:aC):Prop
 |mk (fd:mF) (a:aH) (fo:kI B x fd (cH i) a) (dC:fd.scope=bQ i) (t:jB) (hb:∀(s:aF) (g:aT),bI B g s.heap->
 (∀v1 v2 v3 v4,iU s fd ⟨[v1,v2,v3,v4],[]⟩ [("a",v1),("x",v2),("lo",v3),("hi",v4),("key",.none)])/\
 (∀v1 v2 v3,iU s fd ⟨[v1,v2,v3],[]⟩ [("a",v1),("x",v2),("lo",v3),("hi",.none),("key",.none)])/\
 (∀v1 v2 v3 v4 w,iU s fd ⟨[v1,v2,v3,v4],[("key",w)]⟩ [("a",v1),("x",v2),("lo",v3),("hi",v4),("key",w)])/\
 (∀v1 v2 w,iU s fd ⟨[v1,v2],[("key",w)]⟩ [("a",v1),("x",v2),("lo",.int 0 t),("hi",.none),("key",w)]))
theorem fW.Qe(r:fW B h g vs [x,y,z,u]):∃v1 v2 v3 v4,vs=[v1,v2,v3,v4]/\eW B h g v1 x/\eW B h g v2 y/\eW B h g v3 z/\eW B h g v4 u:=by
 cases r with
 |cons h1 r=>
  obtain⟨v2,v3,v4,rfl,h2,h3,h4⟩:=fW.Kf r;exact⟨_,v2,v3,v4,rfl,h1,h2,h3,h4⟩
noncomputable def hZ{α:Type}(l:List α)(r:Nat)(x:α):List α:=l.take r++x::l.drop r
theorem SE(l:List Int)(r:Nat)(x:Int):(bW l).take r++AV.int x::(bW l).drop r=bW (hZ l r x):=by simp[bW,hZ,BC,aOt]
theorem SG(l:List Nat)(r:Nat)(x:Nat):(aQ l).take r++AV.int (x:Int)::(aQ l).drop r=aQ (hZ l r x):=by simp[aQ,hZ,BC,aOt]
theorem aGh(p:Nat->Bool):∀(n lo hi:Nat),lo<=hi->lo<=sF p n lo hi/\sF p n lo hi<=hi:=by
 intro n;induction n with
 |zero=>
  intro lo hi h;exact⟨dH _,h⟩
 |succ n ih=>
  intro lo hi h;rw[Of]
  by_cases h1:lo<hi
  ·rw[if_pos h1]
   split
   ·have:=ih lo ((lo+hi)/2) (aV (aG [_,_,_,_] [.l .x .y,.f (.a (.m 2 .z) .w) (.a .x .y),.l (.u .w) (.n 2),.L 2 (.u .z) .x] rfl h (iK _ 2) (gY _ (sW 1))));exact⟨this.1,aV (aG [_,_,_,_,_] [.l .x .y,.L 2 .z .w,.e (.a (.m 2 .w) .p) (.a .x .y),.L 2 (.u .y) .z] rfl h this.2 (iK _ 2))⟩
   ·have:=ih ((lo+hi)/2+1) hi (aV (aG [_,_,_,_] [.l (.u .x) .y,.e (.a (.m 2 .z) .w) (.a .x .y),.L 2 (.u .y) (.u .z)] rfl h1 (iK _ 2)));exact⟨aV (aG [_,_,_,_,_] [.L 2 (.u .x) .y,.l .y .z,.f (.a (.m 2 .x) .w) (.a .p .z),.l (.u .w) (.n 2),.l (.u .y) .p] rfl this.1 this.2 (iK _ 2) (gY _ (sW 1))),this.2⟩
  ·rw[if_neg h1];exact⟨dH _,h⟩
theorem Cu(p:Nat->Bool){lo hi:Nat}(h:lo<=hi):lo<=cP p lo hi/\cP p lo hi<=hi:=aGh p _ lo hi h
noncomputable def Kh(a x lo hi key:AV):List (aC×LV):=[("a",.val a),("x",.val x),("lo",.val lo),("hi",.val hi),("key",.val key)]
theorem RT{a x lo hi key:AV}:∀p∈Kh a x lo hi key,∃av,p.2=.val av:=by
 intro p hp;simp only[Kh,cE,cO,or_false] at hp;rcases hp with rfl|rfl|rfl|rfl|rfl<;>exact⟨_,rfl⟩
theorem KG{h:bH}{g:aT}{v1 v2 v3 v4 v5:aD}{a x lo hi key:AV}(h1:VR B g v1 a)(h2:VR B g v2 x)(h3:VR B g v3 lo)(h4:VR B g v4 hi)(h5:VR B g v5 key){P:List (aC×aD)->Prop}(hP:P [("a",v1),("x",v2),("lo",v3),("hi",v4),("key",v5)]):
 ∃is:List iB,P (is.map λi=>(i.x,i.v))/\is.map (λi=>(i.x,i.lv))=Kh a x lo hi key/\∀i∈is,eW B h g i.v i.lv:=by
 refine⟨[⟨"a",v1,0,.val a⟩,⟨"x",v2,0,.val x⟩,⟨"lo",v3,0,.val lo⟩,⟨"hi",v4,0,.val hi⟩,⟨"key",v5,0,.val key⟩],hP,rfl,?_⟩;intro i hi;simp only[cE,cO,or_false] at hi;rcases hi with rfl|rfl|rfl|rfl|rfl
 ·exact h1
 ·exact h2
 ·exact h3
 ·exact h4
 ·exact h5
structure Hp(B:BD)(i:Nat)(nm:aC)(pr:Int->Int->Bool):Prop where
 rL:(nm==("__debug__":aC))=false
 st:∀q∈(["a","x","lo","hi","key"]:List aC),iH (bQ i) q
 w:∀(k:Nat) {l:List Int} {x:Int} {lo:Nat} {hi:Option Nat},l.length<=100->lo<=hi.getD l.length->hi.getD l.length<=l.length->bL B k {sc:=bQ i} (rV .none (bW l) x lo (oE hi)) (cH i) (.int (cP (λm=>pr x (l.getD m 0)) lo (hi.getD l.length):Nat))
 wK:∀(k:Nat) {l:List Nat} {f:Nat->Int} {x:Int} {lo:Nat} {hi:Option Nat},l.length<=100->(∀a∈l,a<6)->lo<=hi.getD l.length->hi.getD l.length<=l.length->bL B k {sc:=bQ i} (rV (mQ B k f) (aQ l) x lo (oE hi)) (cH i) (.int (cP (λm=>pr x (f (l.getD m 0))) lo (hi.getD l.length):Nat))
theorem FF(bl:eZ B):Hp B 9 "bisect_right" λx y=>decide (x<y):=⟨rfl,Js rfl,λ_=>aD3 bl,λ_=>aB9 bl⟩
theorem FG(bl:eZ B):Hp B 11 "bisect_left" λx y=> !decide (y<x):=⟨rfl,Js rfl,λ_=>aD4 bl,λ_=>aCa bl⟩
theorem TR{sc:bR}{a x lo hi key:AV}(h:∀q∈(["a","x","lo","hi","key"]:List aC),iH sc q):∀p∈Kh a x lo hi key,iH sc p.1:=λp hp=>h p.1 (gK.mpr ⟨p,hp,rfl⟩)
theorem WT{i:Nat}{nm:aC}{pr:Int->Int->Bool}(W:Hp B i nm pr){fd:mF}{a:aH}(fo:kI B nm fd (cH i) a)(dC:fd.scope=bQ i){l:List Int}{x:Int}{lo:Nat}{hi:Option Nat}(hl:l.length<=100)(h1:lo<=hi.getD l.length)(h2:hi.getD l.length<=l.length):
 ∀(A:bM) (g:aT) (s:aF) (vs:List aD) (kw:List (aC×aD)) (Q:aD->aF->Prop) (E:aD->aF->Prop),dS B (k+1) A s.heap->bI B g s.heap->
  (∃is:List iB,iU s fd ⟨vs,kw⟩ (is.map λi=>(i.x,i.v))/\is.map (λi=>(i.x,i.lv))=Kh (.aO (bW l)) (.int x) (.int (lo:Int)) (oE hi) .none/\∀i∈is,eW B s.heap g i.v i.lv)->
  (∀v s' g',bT B s g s' g'->VR B g' v (.int (cP (λm=>pr x (l.getD m 0)) lo (hi.getD l.length):Nat))->Q v s')->aK (aW B) A (gL (.ref a) vs kw) Q E s:=by
 intro A g s vs kw;obtain⟨V,h⟩:=W.w k hl h1 h2;refine pE.at (out:=.ret V _) fo RT ?_ ?_ rfl A g s vs
 ·rw[dC];exact TR W.st
 ·rw[dC];exact .sub (fK.refl _) h
theorem aB.IK{i:Nat}{nm:aC}{pr:Int->Int->Bool}(W:Hp B i nm pr)(tb:kJ B i nm){p pos:dI}{e1 e2 e3 e4:bJ}{lv:LV}{l:List Int}{x:Int}{lo:Nat}{hi:Option Nat}(KZ:eY lv (bW l))(hl:l.length<=100)(h1:lo<=hi.getD l.length)(h2:hi.getD l.length<=l.length)
 (hk:sc.names.lookup nm=some .globalImplicit) (hn:eR [e1,e2,e3,e4]=true) (ha:aZ B (k+1) sc vars [e1,e2,e3,e4] [lv,.val (.int x),.val (.int (lo:Int)),.val (oE hi)]):
 aB B (k+1) sc vars (.Call (.Name nm p) [e1,e2,e3,e4] [] pos) (.int (cP (λm=>pr x (l.getD m 0)) lo (hi.getD l.length):Nat)):=by
 obtain⟨fd,a,fo,dC,t,hb⟩:=tb
 have hc:pE B (k+1) (.ref a) [] [.val (.aO (bW l)),.val (.int x),.val (.int (lo:Int)),.val (oE hi)] (.int (cP (λm=>pr x (l.getD m 0)) lo (hi.getD l.length):Nat)):=by
  intro A g s vs Q E R G bF K;obtain⟨v1,v2,v3,v4,rfl,q1,q2,q3,q4⟩:=bF.Qe;exact WT W fo dC hl h1 h2 A g s _ _ Q E R G (KG q1 q2 q3 q4 .none ((hb s g G).1 v1 v2 v3 v4)) K
 refine aB.Wm hk W.rL fo hn ha ?_;cases KZ with
 |val=>exact hc
 |own=>exact pE.Ph hc trivial
theorem aB.aKz{i:Nat}{nm:aC}{pr:Int->Int->Bool}(W:Hp B i nm pr)(tb:kJ B i nm){p pos:dI}{e1 e2 e3:bJ}{lv:LV}{l:List Int}{x:Int}{lo:Nat}(KZ:eY lv (bW l))(hl:l.length<=100)(h1:lo<=l.length)
 (hk:sc.names.lookup nm=some .globalImplicit) (hn:eR [e1,e2,e3]=true) (ha:aZ B (k+1) sc vars [e1,e2,e3] [lv,.val (.int x),.val (.int (lo:Int))]):
 aB B (k+1) sc vars (.Call (.Name nm p) [e1,e2,e3] [] pos) (.int (cP (λm=>pr x (l.getD m 0)) lo l.length:Nat)):=by
 obtain⟨fd,a,fo,dC,t,hb⟩:=tb
 have hc:pE B (k+1) (.ref a) [] [.val (.aO (bW l)),.val (.int x),.val (.int (lo:Int))] (.int (cP (λm=>pr x (l.getD m 0)) lo l.length:Nat)):=by
  intro A g s vs Q E R G bF K;obtain⟨v1,v2,v3,rfl,q1,q2,q3⟩:=bF.Kf;exact WT (hi:=none) W fo dC hl h1 (dH _) A g s _ _ Q E R G (KG q1 q2 q3 .none .none ((hb s g G).2.1 v1 v2 v3)) K
 refine aB.Wm hk W.rL fo hn ha ?_;cases KZ with
 |val=>exact hc
 |own=>exact pE.Ph hc trivial
theorem aGg{i:Nat}{nm:aC}{pr:Int->Int->Bool}(W:Hp B i nm pr){fd:mF}{a:aH}(fo:kI B nm fd (cH i) a)(dC:fd.scope=bQ i){l:List Nat}{f:Nat->Int}{x:Int}{lo:Nat}{hi:Option Nat}(hl:l.length<=100)(h6:∀a∈l,a<6)(h1:lo<=hi.getD l.length)(h2:hi.getD l.length<=l.length):
 ∀(A:bM) (g:aT) (s:aF) (vs:List aD) (kw:List (aC×aD)) (Q:aD->aF->Prop) (E:aD->aF->Prop),dS B (k+1) A s.heap->bI B g s.heap->
  (∃is:List iB,iU s fd ⟨vs,kw⟩ (is.map λi=>(i.x,i.v))/\is.map (λi=>(i.x,i.lv))=Kh (.aO (aQ l)) (.int x) (.int (lo:Int)) (oE hi) (mQ B k f)/\∀i∈is,eW B s.heap g i.v i.lv)->
  (∀v s' g',bT B s g s' g'->VR B g' v (.int (cP (λm=>pr x (f (l.getD m 0))) lo (hi.getD l.length):Nat))->Q v s')->aK (aW B) A (gL (.ref a) vs kw) Q E s:=by
 intro A g s vs kw;obtain⟨V,h⟩:=W.wK k hl h6 h1 h2;refine pE.at (out:=.ret V _) fo RT ?_ ?_ rfl A g s vs
 ·rw[dC];exact TR W.st
 ·rw[dC];exact .sub (fK.refl _) h
theorem aB.ZY{i:Nat}{nm:aC}{pr:Int->Int->Bool}(W:Hp B i nm pr)(tb:kJ B i nm){p pos kp:dI}{e1 e2 e3 e4 e5:bJ}{l:List Nat}{f:Nat->Int}{x:Int}{lo:Nat}{hi:Option Nat}(hl:l.length<=100)(h6:∀a∈l,a<6)(h1:lo<=hi.getD l.length)(h2:hi.getD l.length<=l.length)
 (hk:sc.names.lookup nm=some .globalImplicit) (hn:eR [e1,e2,e3,e4]=true) (ha:aZ B (k+1) sc vars [e1,e2,e3,e4] [.own (aQ l),.val (.int x),.val (.int (lo:Int)),.val (oE hi)]) (fJ:aB B (k+1) sc vars e5 (mQ B k f)):
 aB B (k+1) sc vars (.Call (.Name nm p) [e1,e2,e3,e4] [⟨some "key",e5,kp⟩] pos) (.int (cP (λm=>pr x (f (l.getD m 0))) lo (hi.getD l.length):Nat)):=by
 obtain⟨fd,a,fo,dC,t,hb⟩:=tb;refine aB.call hk W.rL fo hn ha (Gw.bU fJ.ar) λus hu A g s vs Q E R G bF oY K=>?_;obtain⟨w,rfl,hw⟩:=oY.bU;obtain⟨v1,v2,v3,v4,rfl,q1,q2,q3,q4⟩:=bF.Qe;refine Mini.Internal.Ph (r:=.int (cP (λm=>pr x (f (l.getD m 0))) lo (hi.getD l.length):Nat)) (args:=[]) trivial G q1 (λg1 G1 sub Hx Q K1=>?_) K;exact aGg W fo dC hl h6 h1 h2 A g1 s _ _ Q E R G1 (KG Hx (VR.mono sub q2) (VR.mono sub q3) (VR.mono sub q4) (VR.mono sub hw) ((hb s g1 G1).2.2.1 v1 v2 v3 v4 w)) K1
end
section
variable {B:BD} {k:Nat} {F:Fn} {sc:bR} {vars vars':aU}
noncomputable def uI(x lo hi key:AV):List (aC×LV):=[("x",.val x),("lo",.val lo),("hi",.val hi),("key",.val key)]
theorem RU{x lo hi key:AV}:∀p∈uI x lo hi key,∃av,p.2=.val av:=by
 intro p hp;simp only[uI,cE,cO,or_false] at hp;rcases hp with rfl|rfl|rfl|rfl<;>exact⟨_,rfl⟩
theorem TU{x lo hi key:AV}:∀p∈uI x lo hi key,p.1≠("a":aC):=by
 intro p hp;simp only[uI,cE,cO,or_false] at hp;rcases hp with rfl|rfl|rfl|rfl<;>(dsimp only;decide+kernel)
theorem N1{h:bH}{g:aT}{d:aH}{v2 v3 v4 v5:aD}{x lo hi key:AV}(h2:VR B g v2 x)(h3:VR B g v3 lo)(h4:VR B g v4 hi)(h5:VR B g v5 key){P:List (aC×aD)->Prop}(hP:P [("a",.ref d),("x",v2),("lo",v3),("hi",v4),("key",v5)]):
 ∃is:List iB,P (("a",.ref d)::is.map λi=>(i.x,i.v))/\is.map (λi=>(i.x,i.lv))=uI x lo hi key/\∀i∈is,eW B h g i.v i.lv:=by
 refine⟨[⟨"x",v2,0,.val x⟩,⟨"lo",v3,0,.val lo⟩,⟨"hi",v4,0,.val hi⟩,⟨"key",v5,0,.val key⟩],hP,rfl,?_⟩;intro i hi;simp only[cE,cO,or_false] at hi;rcases hi with rfl|rfl|rfl|rfl
 ·exact h2
 ·exact h3
 ·exact h4
 ·exact h5
theorem Gb:(hZ l r x).length=l.length+1:=by
 unfold hZ;simp;rw[Nat.min_comm,<-j8,Ss (min _ _),Nat.sub_add_min_cancel]
theorem aDc(bl:eZ B)(tb:kJ B 9 "bisect_right"){l:List Int}{x:Int}{lo:Nat}{hi:Option Nat}(hl:l.length<=100)(h1:lo<=hi.getD l.length)(h2:hi.getD l.length<=l.length):
 ∃V,aJ B (k+1) {sc:=bQ 8,cQ:=some "a"} (cT "a" (.own (bW l)) (oP (uI (.int x) (.int (lo:Int)) (oE hi) .none) [("a",.own (bW l))])) (cH 8) (.cF V)/\V.lookup ("a":aC)=some (.own (bW (hZ l (cP (λm=>decide (x<l.getD m 0)) lo (hi.getD l.length)) x))):=by
 refine⟨cT "a" (.own (bW (hZ l (cP (λm=>decide (x<l.getD m 0)) lo (hi.getD l.length)) x))) [("a",.own (bW l)),("x",.val (.int x)),("lo",.val (.int (cP (λm=>decide (x<l.getD m 0)) lo (hi.getD l.length):Nat)))],?_,rfl⟩;have sN:=Cu (λm=>decide (x<l.getD m 0)) h1;conv in (cH 8)=>whnf
 refine aJ.sub (v1:=[("a",.own (bW l)),("x",.val (.int x)),("lo",.val (.int (lo:Int))),("hi",.val (oE hi)),("key",.val .none)]) (.of rfl) ?_
 walk_at"st"
 refine' aJ.cons (v1:=[("a",.own (bW l)),("x",.val (.int x)),("lo",.val (.int (cP (λm=>decide (x<l.getD m 0)) lo (hi.getD l.length):Nat)))]) (aP.ite (b:=true) (bA.cZ (by walk_at"w") (aB.ar aB.sE) (bG.isNone (x:=.none) (λ_ h=>by cases h) (λ_ _ h=>by cases h)) rfl) ?i1) ?r1
 case i1=>
  rw[if_pos rfl];refine' aJ.dT (aJ.cons (aP.assign ?a2 (fR rfl) (λ_=>rfl)) aJ.nil) (.of rfl)
  case a2=>
   refine' aB.IK (FF bl) tb (.own _) hl h1 h2 rfl rfl (by walk_at"w")
 case r1=>
 rw[<-SE];refine' aJ.cons (aP.Vx (by walk_at"w") (λ_=>rfl) rfl rfl (by walk_at"w") (by walk_at"w") rfl (by rw[rU];exact aV (aG [_,_,_] [.l .x .y,.l .z .x,.l (.u .y) .z] rfl h2 sN.2)) (by rw[rU];exact fA hl rfl)) aJ.nil
theorem aBy(bl:eZ B)(tb:kJ B 9 "bisect_right"){l:List Nat}{f:Nat->Int}{x:Nat}(hx:x<6)(hl:l.length<=100)(h6:∀a∈l,a<6):
 ∃V,aJ B (k+1) {sc:=bQ 8,cQ:=some "a"} (cT "a" (.own (aQ l)) (oP (uI (.int (x:Int)) (.int 0) .none (mQ B k f)) [("a",.own (aQ l))])) (cH 8) (.cF V)/\V.lookup ("a":aC)=some (.own (aQ (hZ l (cP (λm=>decide (f x<f (l.getD m 0))) 0 l.length) x))):=by
 refine⟨cT "a" (.own (aQ (hZ l (cP (λm=>decide (f x<f (l.getD m 0))) 0 l.length) x))) [("a",.own (aQ l)),("x",.val (.int (x:Int))),("lo",.val (.int (cP (λm=>decide (f x<f (l.getD m 0))) 0 l.length:Nat)))],?_,rfl⟩;have sN:=Cu (λm=>decide (f x<f (l.getD m 0))) (iR l.length);conv in (cH 8)=>whnf
 refine aJ.sub (v1:=[("a",.own (aQ l)),("x",.val (.int (x:Int))),("lo",.val (.int 0)),("hi",.val .none),("key",.val (mQ B k f))]) (.of rfl) ?_
 walk_at"st"
 refine' aJ.cons (v1:=[("a",.own (aQ l)),("x",.val (.int (x:Int))),("lo",.val (.int (cP (λm=>decide (f x<f (l.getD m 0))) 0 l.length:Nat)))]) (aP.ite (bA.cZ (by walk_at"w") (aB.ar aB.sE) bG.Vh rfl) ?i1) ?r1
 case i1=>
  rw[if_neg nofun];refine' aJ.dT (aJ.cons (aP.assign ?a2 (fR rfl) (λ_=>rfl)) aJ.nil) (.of rfl)
  case a2=>
   refine' aB.ZY (hi:=none) (FF bl) tb hl h6 (iR _) (dH _) rfl rfl ?i3 (by walk_at"w")
   case i3=>
    refine' aZ.c (by walk_at"w") (aZ.c (aB.ar (aB.XS (by walk_at"w") rfl hx (by walk_at"w"))) (aZ.c (by walk_at"w") (aZ.c (by walk_at"w") aZ.nil rfl) rfl) rfl) rfl
 case r1=>
 rw[<-SG];refine' aJ.cons (aP.Vx (by walk_at"w") (λ_=>rfl) rfl rfl (by walk_at"w") (by walk_at"w") rfl (by rw[gM];exact sN.2) (by rw[gM];exact fA hl rfl)) aJ.nil
theorem aDd(bl:eZ B)(tb:kJ B 11 "bisect_left"){l:List Int}{x:Int}{lo:Nat}{hi:Option Nat}(hl:l.length<=100)(h1:lo<=hi.getD l.length)(h2:hi.getD l.length<=l.length):
 ∃V,aJ B (k+1) {sc:=bQ 10,cQ:=some "a"} (cT "a" (.own (bW l)) (oP (uI (.int x) (.int (lo:Int)) (oE hi) .none) [("a",.own (bW l))])) (cH 10) (.cF V)/\V.lookup ("a":aC)=some (.own (bW (hZ l (cP (λm=> !decide (l.getD m 0<x)) lo (hi.getD l.length)) x))):=by
 refine⟨cT "a" (.own (bW (hZ l (cP (λm=> !decide (l.getD m 0<x)) lo (hi.getD l.length)) x))) [("a",.own (bW l)),("x",.val (.int x)),("lo",.val (.int (cP (λm=> !decide (l.getD m 0<x)) lo (hi.getD l.length):Nat)))],?_,rfl⟩;have sN:=Cu (λm=> !decide (l.getD m 0<x)) h1;conv in (cH 10)=>whnf
 refine aJ.sub (v1:=[("a",.own (bW l)),("x",.val (.int x)),("lo",.val (.int (lo:Int))),("hi",.val (oE hi)),("key",.val .none)]) (.of rfl) ?_
 walk_at"st"
 refine' aJ.cons (v1:=[("a",.own (bW l)),("x",.val (.int x)),("lo",.val (.int (cP (λm=> !decide (l.getD m 0<x)) lo (hi.getD l.length):Nat)))]) (aP.ite (b:=true) (bA.cZ (by walk_at"w") (aB.ar aB.sE) (bG.isNone (x:=.none) (λ_ h=>by cases h) (λ_ _ h=>by cases h)) rfl) ?i1) ?r1
 case i1=>
  rw[if_pos rfl];refine' aJ.dT (aJ.cons (aP.assign ?a2 (fR rfl) (λ_=>rfl)) aJ.nil) (.of rfl)
  case a2=>
   refine' aB.IK (FG bl) tb (.own _) hl h1 h2 rfl rfl (by walk_at"w")
 case r1=>
 rw[<-SE];refine' aJ.cons (aP.Vx (by walk_at"w") (λ_=>rfl) rfl rfl (by walk_at"w") (by walk_at"w") rfl (by rw[rU];exact aV (aG [_,_,_] [.l .x .y,.l .z .x,.l (.u .y) .z] rfl h2 sN.2)) (by rw[rU];exact fA hl rfl)) aJ.nil
theorem aBz(bl:eZ B)(tb:kJ B 11 "bisect_left"){l:List Nat}{f:Nat->Int}{x:Nat}(hx:x<6)(hl:l.length<=100)(h6:∀a∈l,a<6):
 ∃V,aJ B (k+1) {sc:=bQ 10,cQ:=some "a"} (cT "a" (.own (aQ l)) (oP (uI (.int (x:Int)) (.int 0) .none (mQ B k f)) [("a",.own (aQ l))])) (cH 10) (.cF V)/\V.lookup ("a":aC)=some (.own (aQ (hZ l (cP (λm=> !decide (f (l.getD m 0)<f x)) 0 l.length) x))):=by
 refine⟨cT "a" (.own (aQ (hZ l (cP (λm=> !decide (f (l.getD m 0)<f x)) 0 l.length) x))) [("a",.own (aQ l)),("x",.val (.int (x:Int))),("lo",.val (.int (cP (λm=> !decide (f (l.getD m 0)<f x)) 0 l.length:Nat)))],?_,rfl⟩;have sN:=Cu (λm=> !decide (f (l.getD m 0)<f x)) (iR l.length);conv in (cH 10)=>whnf
 refine aJ.sub (v1:=[("a",.own (aQ l)),("x",.val (.int (x:Int))),("lo",.val (.int 0)),("hi",.val .none),("key",.val (mQ B k f))]) (.of rfl) ?_
 walk_at"st"
 refine' aJ.cons (v1:=[("a",.own (aQ l)),("x",.val (.int (x:Int))),("lo",.val (.int (cP (λm=> !decide (f (l.getD m 0)<f x)) 0 l.length:Nat)))]) (aP.ite (bA.cZ (by walk_at"w") (aB.ar aB.sE) bG.Vh rfl) ?i1) ?r1
 case i1=>
  rw[if_neg nofun];refine' aJ.dT (aJ.cons (aP.assign ?a2 (fR rfl) (λ_=>rfl)) aJ.nil) (.of rfl)
  case a2=>
   refine' aB.ZY (hi:=none) (FG bl) tb hl h6 (iR _) (dH _) rfl rfl ?i3 (by walk_at"w")
   case i3=>
    refine' aZ.c (by walk_at"w") (aZ.c (aB.ar (aB.XS (by walk_at"w") rfl hx (by walk_at"w"))) (aZ.c (by walk_at"w") (aZ.c (by walk_at"w") aZ.nil rfl) rfl) rfl) rfl
 case r1=>
 rw[<-SG];refine' aJ.cons (aP.Vx (by walk_at"w") (λ_=>rfl) rfl rfl (by walk_at"w") (by walk_at"w") rfl (by rw[gM];exact sN.2) (by rw[gM];exact fA hl rfl)) aJ.nil
structure Qh(B:BD)(ii:Nat)(nm:aC)(pr:Int->Int->Bool):Prop where
 rL:(nm==("__debug__":aC))=false
 st:∀q∈(["x","lo","hi","key"]:List aC),iH (bQ ii) q
 al:(bQ ii).names.lookup ("a":aC)=some .local
 b:∀(k:Nat) {l:List Int} {x:Int} {lo:Nat} {hi:Option Nat},l.length<=100->lo<=hi.getD l.length->hi.getD l.length<=l.length->∃V,aJ B (k+1) {sc:=bQ ii,cQ:=some "a"} (cT "a" (.own (bW l)) (oP (uI (.int x) (.int (lo:Int)) (oE hi) .none) [("a",.own (bW l))])) (cH ii) (.cF V)/\V.lookup ("a":aC)=some (.own (bW (hZ l (cP (λm=>pr x (l.getD m 0)) lo (hi.getD l.length)) x)))
 bK:∀(k:Nat) {l:List Nat} {f:Nat->Int} {x:Nat},x<6->l.length<=100->(∀a∈l,a<6)->∃V,aJ B (k+1) {sc:=bQ ii,cQ:=some "a"} (cT "a" (.own (aQ l)) (oP (uI (.int (x:Int)) (.int 0) .none (mQ B k f)) [("a",.own (aQ l))])) (cH ii) (.cF V)/\V.lookup ("a":aC)=some (.own (aQ (hZ l (cP (λm=>pr (f x) (f (l.getD m 0))) 0 l.length) x)))
theorem XX(bl:eZ B)(tb:kJ B 9 "bisect_right"):Qh B 8 "insort_right" λx y=>decide (x<y):=⟨rfl,Js rfl,rfl,λ_=>aDc bl tb,λ_=>aBy bl tb⟩
theorem XY(bl:eZ B)(tb:kJ B 11 "bisect_left"):Qh B 10 "insort_left" λx y=> !decide (y<x):=⟨rfl,Js rfl,rfl,λ_=>aDd bl tb,λ_=>aBz bl tb⟩
theorem TS{sc:bR}{x lo hi key:AV}(h:∀q∈(["x","lo","hi","key"]:List aC),iH sc q):∀p∈uI x lo hi key,iH sc p.1:=λp hp=>h p.1 (gK.mpr ⟨p,hp,rfl⟩)
theorem aP.C6{ii:Nat}{nm:aC}{pr:Int->Int->Bool}(W:Qh B ii nm pr)(ti:kJ B ii nm){y:aC}{p yp pos ep:dI}{e2 e3 e4:bJ}{l:List Int}{x:Int}{lo:Nat}{hi:Nat}(n:fP F.sc vars y (.own (bW l)))(hl:l.length<=100)(h1:lo<=hi)(h2:hi<=l.length)
 (hk:F.sc.names.lookup nm=some .globalImplicit) (hn:eR [.Name y yp,e2,e3,e4]=true) (ha:aZ B (k+2) F.sc vars [e2,e3,e4] [.val (.int x),.val (.int (lo:Int)),.val (.int (hi:Int))]):
 aP B (k+2) F vars (.Expr (.Call (.Name nm p) [.Name y yp,e2,e3,e4] [] pos) ep) (.cF (cT y (.own (bW (hZ l (cP (λm=>pr x (l.getD m 0)) lo hi) x))) vars)):=by
 obtain⟨fd,a,fo,dC,t,hb⟩:=ti;obtain⟨V,h,hV⟩:=W.b k (hi:=some hi) hl h1 h2;refine aP.aKv (r:=.none) hk W.rL fo n hn ha (λA aN aA cs own g s Q E P=>⟨rfl,rfl,λK=>bE (K [] s g (.refl P.st.ok) .nil)⟩) ?_ (λ_=>rfl);intro us hu A g s d vs Q E R G bS gd bd bF oY K;cases oY;obtain⟨v2,v3,v4,rfl,q2,q3,q4⟩:=bF.Kf;refine H2.at (out:=.cF V) fo RU ?_ ?_ TU ?_ rfl hV A g s d _ Q E R G bS gd bd (N1 q2 q3 q4 .none ((hb s g G).1 _ v2 v3 v4)) K
 ·rw[dC];exact TS W.st
 ·rw[dC];exact W.al
 ·rw[dC];exact h
theorem UE{ii:Nat}{nm:aC}{pr:Int->Int->Bool}(W:Qh B ii nm pr){fd:mF}{a:aH}(fo:kI B nm fd (cH ii) a)(dC:fd.scope=bQ ii){l:List Nat}{f:Nat->Int}{x:Nat}(hx:x<6)(hl:l.length<=100)(h6:∀a∈l,a<6)
 {A:bM} {g:aT} {s:aF} {d:aH} {v2 v3 w:aD} {Q:aD->aF->Prop} {E:aD->aF->Prop} (R:dS B (k+2) A s.heap) (G:bI B g s.heap) (bS:mE B d (aQ l) g s) (gd:g d=none) (bd:B.base.get? d=none) (q2:VR B g v2 (.int (x:Int))) (q3:VR B g v3 (.int 0)) (hw:VR B g w (mQ B k f))
 (hb:iU s fd ⟨[.ref d,v2],[("key",w)]⟩ [("a",.ref d),("x",v2),("lo",v3),("hi",.none),("key",w)])
 (K:∀v s' g',eL B ⟨[d],[]⟩ s s'->fU s.heap g g'->bI B g' s'.heap->mE B d (aQ (hZ l (cP (λm=>pr (f x) (f (l.getD m 0))) 0 l.length) x)) g' s'->VR B g' v .none->Q v s'):
 aK (aW B) A (gL (.ref a) [.ref d,v2] [("key",w)]) Q E s:=by
 obtain⟨V,h,hV⟩:=W.bK k hx hl h6;refine H2.at (out:=.cF V) fo RU ?_ ?_ TU ?_ rfl hV A g s d _ Q E R G bS gd bd (N1 q2 q3 .none hw hb) K
 ·rw[dC];exact TS W.st
 ·rw[dC];exact W.al
 ·rw[dC];exact h
end
section
variable {B:BD} {k:Nat} {F:Fn} {sc:bR} {vars vars':aU} {g g':aT} {s s':aF}
theorem R9(G:bI B g s.heap)(hc:s.heap.IsCell c w):∃oc,s.heap.get? c=some oc/\oc.data=.cell w/\eD oc/\(g c=some oc\/(g c=none/\B.base.get? c=none)):=by
 obtain⟨oc,h1,h2⟩:=hc;have hh:eD oc:=⟨.inr ⟨_,h2⟩,by rw[h2];nofun⟩
 refine⟨oc,h1,h2,hh,?_⟩;cases hg:g c with
 |some o=>left;have:=G.at hg;cases (h1.symm.trans this);rfl
 |none=>
  right;refine⟨rfl,?_⟩;cases hb:B.base.get? c with
  |none=>rfl
  |some o=>
   rcases G.le c o hb with q|⟨q,_⟩|⟨ws,more,rfl,_,q⟩
   ·cases (h1.symm.trans q)
    cases ((G.base c _ hb hh).symm.trans hg)
   ·cases (hb.symm.trans q)
   ·cases (h1.symm.trans q);cases h2
theorem ED(hg:g c=none):g.Sub (g.eF c oc):=λb o e=>by
 rw[Oj λq=>by rw[q,hg] at e;cases e];exact e
theorem WO(hg:g c=none)(x:fU h (g.eF c oc) g'):fU h g (g'.tM c):=by
 refine⟨λb o e=>?_,λb o e=>?_⟩
 ·have:b≠c:=λq=>by rw[q,hg] at e;cases e
  exact(if_neg this).trans (x.sub _ _ (ED hg _ _ e))
 ·have e:(if b=c then none else g' b)=some o:=e
  by_cases q:b=c
  ·cases ((if_pos q).symm.trans e)
  ·rw[if_neg q] at e
   rcases x.new b o e with r|r
   ·rw[Oj q] at r;exact .inl r
   ·exact .inr r
theorem YJ(hd:oc.data=.cell w)(hb:B.base.get? c=none)(hgc:g' c=some oc)(G:bI B g' h):bI B (g'.tM c) h:=
 G.tM hb λo ws e q=>by cases (hgc.symm.trans e);cases (hd.symm.trans q)
theorem bD.aLg:∀{vs:List aD},bD B g vs (bW l)->bD B g' vs (bW l):=by
 induction l with
 |nil=>intro vs h;obtain rfl:=bD.bB h;exact .nil
 |cons i l ih=>intro vs h;obtain⟨_,_,rfl,a,r⟩:=bD.bB h;exact .cons (a.F9 trivial) (ih r)
theorem bD.C0(h:bD B g vs (aQ l)):bD B g' vs (aQ l):=by
 rw[zP] at h ⊢;exact h.aLg
structure vR(B:BD)(g:aT)(scope:bR)(iP:List (aC×aH))(fv:aU):Prop where
 var:∀x lv,fv.lookup x=some lv->∃av c v,lv=.val av/\(x,mG)∈scope.names/\iP.lookup x=some c/\(∃o,g c=some o/\o.data=.cell (some v))/\VR B g v av
 live:∀x c,iP.lookup x=some c->(x,mG)∈scope.names/\∃v o,g c=some o/\o.data=.cell v
theorem vR.at(x:vR B g scope iP fv)(G:bI B g s.heap):Gx B g s.heap scope iP fv where
 var:=λy lv h=>by obtain⟨av,c,v,h1,h2,h3,⟨o,h4,h5⟩,h6⟩:=x.var y lv h;exact⟨av,c,v,h1,h2,h3,⟨o,G.at h4,h5⟩,h6⟩
 live:=λy c h=>by obtain⟨h1,v,o,h2,h3⟩:=x.live y c h;exact⟨h1,v,o,G.at h2,h3⟩
theorem vR.mono(x:vR B g scope iP fv)(h:g.Sub g'):vR B g' scope iP fv where
 var:=λy lv e=>by obtain⟨av,c,v,h1,h2,h3,⟨o,h4,h5⟩,h6⟩:=x.var y lv e;exact⟨av,c,v,h1,h2,h3,⟨o,h _ _ h4,h5⟩,h6.mono h⟩
 live:=λy c e=>by obtain⟨h1,v,o,h2,h3⟩:=x.live y c e;exact⟨h1,v,o,h _ _ h2,h3⟩
theorem vR.bU(fr:Gx B g s.heap scope iP [(x,.val av)])(aLq:∀y,(y,mG)∈scope.names->y=x):
 ∃c w,iP.lookup x=some c/\s.heap.IsCell c (some w)/\∀g' o,g.Sub g'->g' c=some o->o.data=.cell (some w)->vR B g' scope iP [(x,.val av)]:=by
 obtain⟨U7,c,w,h1,h2,h3,h4,h5⟩:=fr.var x (.val av) (by simp);cases h1;refine⟨c,w,h3,h4,λg' o sub e1 e2=>⟨λy lv h=>?_,λy d h=>?_⟩⟩
 ·have hy:y=x/\lv=.val av:=by
   simp only[mJ] at h
   split at h
   ·next q=>cases h;exact⟨by simpa using q,rfl⟩
   ·cases h
  obtain⟨rfl,rfl⟩:=hy;exact⟨av,c,w,rfl,h2,h3,⟨o,e1,e2⟩,h5.mono sub⟩
 ·obtain⟨q1,_⟩:=fr.live y d h
  have:=aLq y q1;subst this;cases (h3.symm.trans h);exact⟨q1,_,o,e1,e2⟩
theorem Av.run(hl:Av B g f params body scope iP)(fr:vR B g scope iP fv)(Ih:scope.isCoroutine=false)(Py:scope.isGenerator=false)(Aa:scope.kind=.function)(iM:(scope.names.map (·.1)).Nodup)(rD:nJ scope=none)
 (hb:∀s fd v,fd.params=params->fd.defaults=.none->fd.kwdefaults=.none->iU s fd ⟨[v],[]⟩ [(x,v)]) (hs:iH scope x) (he:aB B k scope (cT x (.val a) fv) body r)
 (R:dS B (k+1) A s.heap) (G:bI B g s.heap) (bF:bD B g vs [a]) (K:∀v s' g',bT B s g s' g'->VR B g' v r->Q v s'):aK (aW B) A (gL (.ref f) vs []) Q E s:=by
 obtain⟨fd,o,h1,h2,h3,h4,h5,h6,h7,h8,h9,Zn,cc,oc,ws,t,e1,e2,e3,e4⟩:=hl;obtain⟨v,vs,rfl,hv,hr⟩:=bD.bB bF;obtain rfl:=bD.bB hr;subst h5;subst h8;exact aFh (is:=[⟨x,v,0,.val a⟩]) R G (G.at h1) h2 h4 ⟨cc,oc,ws,t,e1,G.at e2,e3,e4⟩ Ih Py Aa iM h6 h7 rD (fr.at G) (hb s fd v h3 h9 Zn) (λi hi=>by rw[cW.mp hi];exact hs) (λi hi=>by rw[cW.mp hi];exact⟨a,rfl,hv⟩) he K
theorem Av.aLm(hl:Av B g f params body scope iP)(fr:vR B g scope iP fv)(Ih:scope.isCoroutine=false)(Py:scope.isGenerator=false)(Aa:scope.kind=.function)(iM:(scope.names.map (·.1)).Nodup)(rD:nJ scope=none)
 (hb:∀s fd v,fd.params=params->fd.defaults=.none->fd.kwdefaults=.none->iU s fd ⟨[v],[]⟩ [(x,v)]) (hs:iH scope x) (he:∀i:Nat,i<6->aB B k scope (cT x (.val (.int (i:Int))) fv) body (.int (fk i))):G8 B (k+1) fk g (.ref f):=by
 obtain⟨fd,o,h1,h2,_⟩:=id hl;exact⟨⟨f,o,fd,rfl,h1,h2⟩,λi A g' s vs Q E hi sub R G bF K=>(hl.mono sub).run (fr.mono sub) Ih Py Aa iM rD hb hs (he i hi) R G bF K⟩
theorem eL.pre(x:oI B.base s s2)(y:eL B ⟨l,[]⟩ s2 s'):eL B ⟨l,[]⟩ s s':=
 ⟨λb o hb e=>(x.le b o e).trans λo' q=>y.le b o' hb q,λi v hi e=>y.keep i v hi (x.gens.keep i v e),y.bare∘x.gens.bare,y.os.trans x.os⟩
theorem aP.aJj(hk:F.sc.names.lookup f=some .globalImplicit)(hd:(f==("__debug__":aC))=false)(fo:kI B f fd body a)(n:fP F.sc vars x (.own xs))(hn:eR (.Name x xp::es)=true)(ha:aZ B k F.sc vars es rs)
 (Yt:∀aA,(tW pos (tX oK aA)).all (·.1.isSome)=true) (hn2:∀aA,(tW pos (tX oK aA)).filterMap (·.1)=ns)
 (H:∀(A:bM) (aA:bO) (g:aT) (s:aF) (d:aH) (vs:List aD) (o:fQ) (Q:aD->aF->Prop) (E:aD->aF->Prop),iQ B k A F.sc vars aA g s->s.heap.get? a=some o->eD o->mE B d xs g s->g d=none->B.base.get? d=none->fW B s.heap g vs rs->
  (∀v s' g',eL B ⟨[d],[]⟩ s s'->fU s.heap g g'->bI B g' s'.heap->mE B d iA g' s'->Q v s')->
  aK (aW B) A (xE ((tW pos (tX oK aA)).map (·.2))) (λus bN=>bN.heap.get? a=some o/\aK (aW B) A (gL (.ref a) (.ref d::vs) (ns.zip us)) Q E bN) E s)
 (hs:∀aA,vE (.Call (.Name f p) (.Name x xp::es) oK pos) none ep.line aA=pure false):
 aP B k F vars (.Expr (.Call (.Name f p) (.Name x xp::es) oK pos) ep) (.cF (cT x (.own iA) vars)):=by
 intro A aN aA cs own g s Q E P K;refine CC P.st.kind (hs aA) ?_;refine zC (Cj hk fo.nm hd P.pre ?_);obtain⟨o,h1,h2,h3⟩:=fo.obj;have hh:eD o:=⟨.inl h3,by rw[h2];nofun⟩
 have ho:=P.st.ok.le.cM h1 hh
 have he:kQ pos (iT (.Name x xp::es) aA)=(false,eval (.Name x xp) aA)::kQ pos (iT es aA):=by
  rw[pM hn];rfl
 refine ψ (o:=o) (fd:=fd) ?_
 have step:aK (aW B) A (spliced (kQ pos (iT (.Name x xp::es) aA))) (λvs aS=>aK (aW B) A (xE ((tW pos (tX oK aA)).map (·.2))) (λus bN=>(bN.heap.get? a=some o/\o.data=.func fd)/\aK (aW B) A (gL (.ref a) ([]++vs) (ns.zip us)) (λ_ s'=>Q .next s') E bN) E aS) E s:=by
  refine Et (P.Oz n λv hv=>?_) (pM hn);obtain⟨rfl,us,m,hu,hr⟩:=hv;refine ha A aA g s pos _ E P.pre λvs s1 g1 X bF=>?_;have P1:=P.to (P.st.post X);obtain⟨q1,q2,_⟩:=P1.st.gF x xs n.var;have mB:mE B (own x) xs g1 s1:=⟨us,m,X.keep.le.cM hu jE,hr.mono X.ext.sub⟩
  have Rn:=X.keep.le.cM ho hh;have:=H A aA g1 s1 (own x) vs o (λ_ s'=>Q .next s') E P1.pre Rn hh mB q1 (P1.st.en.base (q2.imp id (·.1))) bF λv s3 g3 hk he G3 bS=>K _ _ ⟨rfl,own,g3,P1.st.HK n.var hk he G3 bS⟩;exact eK this (λus bN h=>⟨⟨h.1,h2⟩,h.2⟩) λ_ _ h=>h
 rw[he] at step ⊢;refine ω (Yt aA) ?_;rw[hn2 aA];exact step
structure Wc(B:BD)(k:Nat)(sc:bR)(vars:aU)(params:OX)(body:bJ)(scope:bR)(x y:aC)(av:AV):Prop where
 HS:∃i,uT B i/\nJ sc=some i
 dflt:∀aA,OZ params aA=([],[])
 free:vM sc vars scope [(y,.val av)]
 bU:∀z,(z,mG)∈scope.names->z=y
 co:scope.isCoroutine=false
 gen:scope.isGenerator=false
 kind:scope.kind=.function
 nd:(scope.names.map (·.1)).Nodup
 nP:nJ scope=none
 bind:∀s fd v,fd.params=params->fd.defaults=.none->fd.kwdefaults=.none->iU s fd ⟨[v],[]⟩ [(x,v)]
 iE:iH scope x
theorem Wc.Yo(hl:∃i,uT B i/\nJ sc=some i)(hv:vars.lookup y=some (.val av))(hf:scope.names.lookup y=some .free)(hs:sc.names.lookup y=some .cell\/sc.names.lookup y=some .free)
 (h1:(scope.names.filter λp=>p.2==.free).map (·.1)=[y]) (co:scope.isCoroutine=false) (gen:scope.isGenerator=false) (kind:scope.kind=.function) (nd:(scope.names.map (·.1)).Nodup) (nP:nJ scope=none) (iE:Pj scope p.arg=true)
 (hb:∀(fd:mF) (v:aD),bindArgs {fd with params:=⟨[],[p],none,[],[],none,[]⟩,defaults:=.none,kwdefaults:=.none} ⟨[v],[]⟩=pure [(p.arg,v)]):
 Wc B k sc vars ⟨[],[p],none,[],[],none,[]⟩ body scope p.arg y av where
 HS:=hl
 dflt:=λ_=>rfl
 free:=(uL.cons hv hf hs uL.nil).ok h1
 bU:=λz hz=>cW.mp (h1▸gK.mpr ⟨(z,.free),lO.mpr ⟨hz,rfl⟩,rfl⟩)
 co:=co
 gen:=gen
 kind:=kind
 nd:=nd
 nP:=nP
 bind:=by
  intro s fd v h1 h2 h3;have q:=hb fd v;refine iU.of_eq ?_;cases fd;simp only at h1 h2 h3;subst h1 h2 h3;exact q
 iE:=xQ iE
theorem aP.ZK{ii:Nat}{nm:aC}{pr:Int->Int->Bool}(W:Qh B ii nm pr)(ti:kJ B ii nm){y:aC}{p yp pos ep kp lp:dI}{e2 lb:bJ}{params:OX}{scope:bR}{px pl:aC}{av:AV}{l:List Nat}{f:Nat->Int}{x:Nat}(n:fP F.sc vars y (.own (aQ l)))(hx:x<6)(hl:l.length<=100)(h6:∀a∈l,a<6)
 (hk:F.sc.names.lookup nm=some .globalImplicit) (hn:eR [.Name y yp,e2]=true) (ha:aZ B (k+3) F.sc vars [e2] [.val (.int (x:Int))]) (hL:Wc B k F.sc vars params lb scope px pl av)
 (he:∀i:Nat,i<6->aB B k scope (cT px (.val (.int (i:Int))) [(pl,.val av)]) lb (.int (f i))):
 aP B (k+3) F vars (.Expr (.Call (.Name nm p) [.Name y yp,e2] [⟨some "key",.Lambda params lb scope lp,kp⟩] pos) ep) (.cF (cT y (.own (aQ (hZ l (cP (λm=>pr (f x) (f (l.getD m 0))) 0 l.length) x))) vars)):=by
 obtain⟨fd,a,fo,dC,t,hb⟩:=ti;refine aP.aJj (ns:=[("key":aC)]) hk W.rL fo n hn ha (λ_=>rfl) (λ_=>rfl) ?_ (λ_=>rfl);intro A aA g s d vs o Q E P ho hho bS gd bd bF K;obtain⟨v2,rfl,q2⟩:=bF.bU;show aK (aW B) A (xE [do let v <-eval (.Lambda params lb scope lp) aA;Iv pos;pure v]) _ E s;unfold xE;obtain⟨i,MD,LA⟩:=hL.HS;refine aM (aM (UC MD LA hL.dflt hL.free hL.nd P λfa s1 g1 X hv fr=>aM (pI (bE ?_))));refine aM (mK ?_);refine bE (bE ?_);refine⟨X.keep.le.cM ho hho,?_⟩;show aK (aW B) A (gL (.ref a) [.ref d,v2] [("key",.ref fa)]) Q E s1;obtain⟨c,w,hc,Ab,hG⟩:=vR.bU fr hL.bU;obtain⟨oc,o1,o2,o3,o4⟩:=R9 X.ok Ab;have R1:=P.room.mono X.keep.le;have aMm:∃ob,s.heap.get? d=some ob:=by obtain⟨us,m,e,_⟩:=bS;exact⟨_,e⟩
 have pY:=X.ext.dM gd aMm;have IP:=bS.post X
 have Pr:∀g2,g1.Sub g2->g2 c=some oc->VR B g2 (.ref fa) (mQ B (k+1) f):=λg2 sub e=>.mZ λg' Dj=>
  (hv.mono (sub.trans Dj)).aLm (hG g' oc (sub.trans Dj) (Dj _ _ e) o2) hL.co hL.gen hL.kind hL.nd hL.nP hL.bind hL.iE he
 rcases o4 with o4|⟨o4,o5⟩
 ·refine UE W fo dC hx hl h6 R1 X.ok IP pY bd (VR.mono X.ext.sub q2) (.int 0 t) (Pr g1 (.refl _) o4) ((hb s1 g1 X.ok).2.2.2 _ v2 _) λv s' g' h1 h2 h3 h4 h5=>?_
  refine K v s' g' (.pre X.keep h1) ⟨X.ext.sub.trans h2.sub,λb ob e=>?_⟩ h3 h4;rcases h2.new b ob e with q|q
  ·exact X.ext.new b ob q
  ·exact .inr (X.keep.le.none q)
 ·have G2:=X.ok.eF o4 o1 o3
  have sub:=ED (oc:=oc) o4
  have dc:d≠c:=λq=>by
   obtain⟨us,m,e,_⟩:=IP;rw[q,o1] at e;cases e;cases o2
  have aMn:mE B d (aQ l) (g1.eF c oc) s1:=by obtain⟨us,m,e,r⟩:=IP;exact⟨us,m,e,r.mono sub⟩
  refine UE W fo dC hx hl h6 R1 G2 aMn ((Oj dc).trans pY) bd (VR.mono sub (VR.mono X.ext.sub q2)) (.int 0 t) (Pr _ sub (aT.jY _ _ _)) ((hb s1 _ G2).2.2.2 _ v2 _) λv s' g' h1 h2 h3 h4 h5=>?_;have e1:=WO o4 h2;refine K v s' (g'.tM c) (.pre X.keep h1) ⟨X.ext.sub.trans e1.sub,λb ob e=>?_⟩ (YJ o2 o5 (h2.sub _ _ (aT.jY _ _ _)) h3) (by obtain⟨us,m,e,r⟩:=h4;exact⟨us,m,e,r.C0⟩);rcases e1.new b ob e with q|q
  ·exact X.ext.new b ob q
  ·exact .inr (X.keep.le.none q)
end
section
variable {L:aH}
section
variable {prog:iS} {w:iI} {A:bM} {E:aD->aF->Prop} {s:aF}
theorem aAn{R:List aD->aF->Prop}{r:aH}{a b c:Int}{t u v:jB}{n:Nat}(hh:A.handled=none)(hr:AI s.heap r a b c t u v)(EY:Y6 a b c=true)(hn:Y7 a b c=n)(dQ:n<=2^24)
 (h:∀(h':bH) (tk:Nat) (bS:Array aD),(∀b o,s.heap.get? b=some o->h'.get? b=some o)->Nb (λi v=>∃t,v=.int (a+i*c) t) bS n->R bS.toList {s with heap:=h',toks:=tk}):
 aK (model prog w) A (collect (.ref r)) R E s:=by
 unfold collect;refine aM (wpAny_runValue (BE aOu ?_));rw[BF aOv _];show aK _ A.in1 (AW []>>=λl=>again (.builtin "list.__iadd__" ⟨[l,.ref r],[]⟩)) _ _ s;refine aM (Fk ?_);refine bE ⟨BG PK _,BE entry_list_iadd' ?_⟩;rw[BF PK _];have Ac:(s.heap.push {cls:=.type "list",data:=.seq ([]:List aD).toArray}).get? s.heap.objs.size=some {cls:=.type "list",data:=.seq #[]}:=gU _ rfl;show aK _ A.in1 (PL (.ref s.heap.objs.size) (.ref r) (.ref s.heap.objs.size)) _ _ _
 have key:=wpAny_extend_range (prog:=prog) (w:=w) (s:={s with heap:=s.heap.push {cls:=.type "list",data:=.seq ([]:List aD).toArray}})
  (R:=λ(q:AM) (s':aF)=>∃(h':bH) (tk:Nat) (mX:Array aD) (c':Nat),q=.ok (.ret (.ref s.heap.objs.size))/\s'={s with heap:=h',toks:=tk}/\
   (∀b o,s.heap.get? b=some o->h'.get? b=some o)/\h'.get? s.heap.objs.size=some {cls:=.type "list",dict:=none,data:=.seq mX c',slots:= #[]}/\Nb (λi v=>∃t,v=.int (a+i*c) t) mX n)
  hh (eG _ hr) EY hn dQ s.heap.objs.size (.ref s.heap.objs.size) 0 Ac
  (λh' tk mX c' hk tJ mB=>⟨h',tk,mX,c',rfl,rfl,λb o e=>hk b o (rP (gS e)) (eG _ e),tJ,mB⟩)
 refine eK key (λmD s' x=>?_) λe s' x=>?_
 ·cases mD with
  |done f=>
   obtain⟨h',tk,mX,c',e,rfl,hk,tJ,mB⟩:=x;cases e;show aK _ A (load s.heap.objs.size>>=_) _ _ _;refine aM (Ez tJ ?_);exact bE (h h' tk mX hk mB)
  |again Qf=>
   refine⟨x.1,OI x.2 λq bN y=>?_⟩;obtain⟨h',tk,mX,c',rfl,rfl,hk,tJ,mB⟩:=y;show aK _ A (load s.heap.objs.size>>=_) _ _ _;refine aM (Ez tJ ?_);exact bE (h h' tk mX hk mB)
 ·obtain⟨_,_,_,_,e',_⟩:=x
  cases e'
end
noncomputable def FW(L D:aH)(h:bH):List (aH×fQ):=(eS L h).filter λp=>p.1 !=D
theorem Np:(a,o)∈FW L D h↔a≠D/\a≠L/\h.get? a=some o:=by
 unfold FW;rw[lO,Ge];simp only[bne_iff_ne,ne_eq];constructor
 ·rintro⟨⟨h1,h2⟩,h3⟩;exact⟨h3,h1,h2⟩
 ·rintro⟨h3,h1,h2⟩;exact⟨⟨h1,h2⟩,h3⟩
noncomputable def Oy(L kS D:aH)(h:bH):List (aH×fQ):=(FW L D h).filter λp=>p.1 !=kS
theorem Nn:(a,o)∈Oy L kS D h↔a≠kS/\a≠D/\a≠L/\h.get? a=some o:=by
 unfold Oy;rw[lO,Np];simp only[bne_iff_ne,ne_eq];constructor
 ·rintro⟨h1,h3⟩;exact⟨h3,h1⟩
 ·rintro⟨h3,h1⟩;exact⟨h1,h3⟩
section
variable {B:BD} {k:Nat} {A:bM} {sc:bR} {vars:aU} {aA:bO} {g g':aT} {s s':aF} {E:aD->aF->Prop}
theorem UB(hb:B.base.get? L=none)(n:h.Ns L m)(n':h'.Ns L m)(K:∀b o,b≠L->b∉l->h.get? b=some o->h'.get? b=some o):uK B.base l h h':=by
 intro b o hl e
 by_cases q:b=L
 ·obtain rfl:=q.symm
  obtain⟨o1,es,ep,h1,h2,h3,h4⟩:=n;cases (e.symm.trans h1);obtain⟨o2,sO,Bp,r1,r2,r3,r4⟩:=n';exact .inr (.inl ⟨hb,o2,r1,es,ep,sO,Bp,h2,r2,λ_=>⟨r3,λx=>(r4 x).trans (h4 x).symm⟩⟩)
 ·exact .inl (K b o q hl e)
theorem aAx{Q:aD->aF->Prop}{r f:aH}{a b c:Int}{t u v:jB}{n:Nat}{L:aH}{m:aC->Option aD}(hh:A.handled=none)(hr:AI s.heap r a b c t u v)(EY:Y6 a b c=true)(hn:Y7 a b c=n)
 (h2:2<=n) (wR:n<64) (ns:s.heap.Ns L m)
 (h:∀(vs:List aD) (D kS:aH) (e1:Nat) (h':bH) (tk:Nat),vs.length=n->Nb (λi v=>∃t,v=.int (a+i*c) t) vs.toArray n->(∀b o,b≠L->s.heap.get? b=some o->h'.get? b=some o)->h'.Ns L m->s.heap.get? D=none->s.heap.get? kS=none->kS≠D->
  h'.get? kS=some (xH "list" #[] 0)->h'.get? D=some (xH "list" #[] e1)->
  KatKeys B.prog B.w A.in1.in1 qX L m kS (.ref f) (λks e s'=>aK (model B.prog B.w) A.in1.in1 (keyKind' (Jg ks)) (λκ dF=>(PE vs.length).kasWp (kas_ask B.prog B.w A.in1.in1 κ ks) (λp s3=>KatFin qX L m kS D ks e e1 (p.toList.map λi=>vs.getD i nG) (λs4=>Q (.ref D) s4) s3) dF) (λ_ _=>False) s') vs [] 0 {s with heap:=h',toks:=tk}):
 aK (model B.prog B.w) A (gL (.builtin "sorted") [.ref r] [("key",.ref f)]) Q E s:=by
 refine call_function_entry_kw kind_sorted plain_sorted entry_sorted (ksk_s1 _ _) ?_;unfold kR.«sorted»;refine aM (bE ?_);refine aM (aAn hh hr EY hn (fD (eO wR) (by decide)) λh0 tk bS Yw mB=>?_);have yL:bS.toList.length=n:=by simpa using mB.1
 refine aM (wpAny_newList ?_ (by rw[yL];exact fA (eO wR) rfl));have n0:=ns.keeps Yw;have O8:(h0.push (xH "list" bS.toList.toArray 0)).get? h0.objs.size=some (xH "list" bS.toList.toArray 0):=gU _ rfl;have hL:=n0.lt
 have YB:∀d,h0.objs.size<=d->s.heap.get? d=none:=λd hd=>by
  cases q:s.heap.get? d with
  |none=>rfl
  |some o=>exact absurd (gS (Yw d o q)) (pH.mpr hd)
 refine aM (mK (wpAny_call_entry_kw slot_list_sort ⟨_,O8,rfl⟩ entry_list_sort ?body (ksk_l1 _ _)))
 case body=>
  show aK (model B.prog B.w) A.in1.in1 (kR.«list.sort» ⟨[.ref h0.objs.size],[("key",.ref f)]⟩) _ _ _
  refine kat_keyed (b:=false)
   ⟨n0.keeps λb o e=>eG _ e,λb o e=>absurd e (by rw[zM];nofun),iR _⟩ (λ⟨d,o⟩ hp=>⟨(Np.mp hp).2.2,(Np.mp hp).2.1,zM d⟩) O8 (wX hL) (zM _)
   (λ⟨d,o⟩ hp=>(Np.mp hp).1) (by rw[yL];exact h2) (by rw[yL];exact wR) λkS e1 h' F' N' l0 l1=>?_
  have nk:=N' _ (.head _);have nD:=N' _ (.tail _ (.head _));refine kat_keys_mono (h bS.toList h0.objs.size kS e1 h' tk yL (by simpa using mB) (λb o hb e=>(N' (b,o) (.tail _ (.tail _ (Np.mpr ⟨rP (gS (Yw b o e)),hb,eG _ (Yw b o e)⟩)))).1) F'.ns (YB _ (dH _)) (YB _ (eO l0)) (wX l0) nk.1 nD.1) λks e s' nA hd=>?_;have nQ:ks.length=bS.toList.length:=by simpa using nA
  refine eK hd (λκ dF hk=>?_) λ_ _ x=>x;have e3:∀{α:Type} (l:List α),katRev false l=l:=λl=>rfl;rw[e3,e3];rw[kat_ask_eq nQ] at hk ⊢;exact kas_wp_mono hk λp s3 Ie=>(e3 (p.toList.map λi=>bS.toList.getD i nG)).symm▸Ie.mono λs4 hq=>⟨_,rfl,bE ⟨_,rfl,hq⟩⟩
structure rF(B:BD)(bZ:aF)(uP:aT)(L:aH)(m:aC->Option aD)(kS D:aH)(ks ds:List aD)(e e1:Nat)(g:aT)(s:aF):Prop where
 post:bT B bZ uP s g
 ns:s.heap.Ns L m
 hb:B.base.get? L=none
 k0:bZ.heap.get? kS=none
 d0:bZ.heap.get? D=none
 bk:B.base.get? kS=none
 bd:B.base.get? D=none
 gk:g kS=none
 gd:g D=none
 ne:kS≠D
 hk:s.heap.get? kS=some (xH "list" ks.toArray e)
 hd:s.heap.get? D=some (xH "list" ds.toArray e1)
section
variable {bZ:aF} {uP:aT} {L kS D:aH} {m:aC->Option aD} {ks M8 ds U0:List aD} {e e' e1 T9:Nat}
theorem rF.run(I:rF B bZ uP L m kS D ks ds e e1 g s)(X:bT B s g s' g'):rF B bZ uP L m kS D ks ds e e1 g' s' where
 post:=I.post.trans X
 ns:=X.keep.le.ns I.ns
 hb:=I.hb
 k0:=I.k0
 d0:=I.d0
 bk:=I.bk
 bd:=I.bd
 gk:=X.ext.dM I.gk ⟨_,I.hk⟩
 gd:=X.ext.dM I.gd ⟨_,I.hd⟩
 ne:=I.ne
 hk:=X.keep.le.cM I.hk jE
 hd:=X.keep.le.cM I.hd jE
theorem rF.fr(I:rF B bZ uP L m kS D ks ds e e1 g s):Fr qX L s.heap m:=⟨I.ns,λb o e=>absurd e (by rw[zM];nofun),iR _⟩
theorem VX{L a:aH}{m:aC->Option aD}{us:Array aD}{n:Nat}{h:bH}(x:h.Ns L m)(q:h.get? a=some (xH "list" us n)):a≠L:=λe=>by
 obtain⟨o,es,ep,h1,h2,_⟩:=x;rw[<-e,q] at h1;cases h1;cases h2
theorem rF.news(I:rF B bZ uP L m kS D ks ds e e1 g s):News qX L s.heap ((kS,xH "list" ks.toArray e)::(D,xH "list" ds.toArray e1)::Oy L kS D s.heap):=λ⟨a,o⟩ hp=>by
 rcases cE.mp hp with q|hp
 ·cases q;exact⟨I.hk,VX I.ns I.hk,zM _⟩
 ·rcases cE.mp hp with q|hp
  ·cases q;exact⟨I.hd,VX I.ns I.hd,zM _⟩
  ·exact⟨(Nn.mp hp).2.2.2,(Nn.mp hp).2.2.1,zM _⟩
theorem rF.ZR(I:rF B bZ uP L m kS D ks ds e e1 g s):∀p∈(D,xH "list" ds.toArray e1)::Oy L kS D h,p.1≠kS:=λ⟨a,o⟩ hp=>by
 rcases cE.mp hp with q|hp
 ·cases q;exact gJ I.ne
 ·exact(Nn.mp hp).1
theorem rF.H4(I:rF B bZ uP L m kS D ks ds e e1 g s)(hh:∀b o,b≠kS->b≠D->b≠L->s.heap.get? b=some o->h.get? b=some o)(hl:h.Ns L m)(F:Fr qX L h' m)(N:News qX L h' ((kS,xH "list" M8.toArray e')::(D,xH "list" U0.toArray T9)::Oy L kS D h)):
 rF B bZ uP L m kS D M8 U0 e' T9 g {s with heap:=h'}:=by
 have kp:∀b o,b≠L->b∉[kS,D]->s.heap.get? b=some o->h'.get? b=some o:=λb o hb hl e=>by
  simp only[cE,cO,or_false,not_or] at hl;exact(N (b,o) (.tail _ (.tail _ (Nn.mpr ⟨hl.1,hl.2,hb,hh b o hl.1 hl.2 hb e⟩)))).1
 have lb:=UB I.hb I.ns F.ns kp
 have no:∀b,(B.base.get? b≠none\/bZ.heap.get? b≠none)->b∉[kS,D]:=λb hb hm=>by
  simp only[cE,cO,or_false] at hm;rcases hm with rfl|rfl
  ·exact hb.elim (λq=>q I.bk) λq=>q I.k0
  ·exact hb.elim (λq=>q I.bd) λq=>q I.d0
 have tb:∀b∈B.kK,∀o,s.heap.get? b=some o->h'.get? b=some o:=λb hb o e=>by
  refine kp b o (λq=>?_) (no b (.inl (B.tabIn b hb))) e;rw[q] at hb;exact B.tabIn _ hb I.hb
 exact {
  post:=⟨⟨λb o e=>(I.post.keep.le b o e).trans λo' q=>lb b o' (no b (.inr (by rw[e];nofun))) q,I.post.keep.gens,I.post.keep.os⟩,I.post.ext,I.post.ok.Wi (fp:=⟨[kS,D],[]⟩) lb tb (λb hb=>by
   simp only[cE,cO,or_false] at hb;rcases hb with rfl|rfl
   ·exact I.gk
   ·exact I.gd) λb hb=>by
   simp only[cE,cO,or_false] at hb;rcases hb with rfl|rfl
   ·exact I.bk
   ·exact I.bd⟩
  ns:=F.ns,hb:=I.hb,k0:=I.k0,d0:=I.d0,bk:=I.bk,bd:=I.bd,gk:=I.gk,gd:=I.gd,ne:=I.ne
  hk:=(N _ (.head _)).1
  hd:=(N _ (.tail _ (.head _))).1}
theorem aDb{fa:aH}{ky:Nat->List Int}{n:Nat}{Fin:List aD->Nat->aF->Prop}(R:dS B (k+1) A bZ.heap)
 (fJ:∀(A:bM) (g:aT) (s:aF) (i:Nat) (vs:List aD) (Q:aD->aF->Prop) (E:aD->aF->Prop),i<n->uP.Sub g->dS B (k+1) A s.heap->bI B g s.heap->bD B g vs [.int (i:Int)]->(∀v s' g',bT B s g s' g'->VR B g' v (.cD (bW (ky i)))->Q v s')->aK (aW B) A (gL (.ref fa) vs []) Q E s)
 (Kx:∀ks e g s,rF B bZ uP L m kS D ks [] e e1 g s->bD B g ks ((bX n).map λi=>.cD (bW (ky i)))->Fin ks e s):
 ∀(r:List aD) (j:Nat) (ks:List aD) (e:Nat) (g:aT) (s:aF),j+r.length=n->(∀(i:Nat) (v:aD),r[i]?=some v->∃t,v=.int ((j+i:Nat):Int) t)->rF B bZ uP L m kS D ks [] e e1 g s->bD B g ks ((bX j).map λi=>.cD (bW (ky i)))->
  KatKeys B.prog B.w A qX L m kS (.ref fa) Fin r ks e s:=by
 intro r;induction r with
 |nil=>
  intro j ks e g s hj hr I hv;have:j=n:=by simpa using hj
  subst this;exact KatKeys.nil (Kx ks e g s I hv)
 |cons v r ih=>
  intro j ks e g s hj hr I hv;obtain⟨t,rfl⟩:=hr 0 v rfl;simp only[pL] at hj;refine KatKeys.cons (fJ A g s j _ _ _ (bV (aG [_,_,_] [.e (.a .x (.u .y)) .z,.l .z .x] rfl hj)) I.post.ext.sub (R.mono I.post.keep.le) I.post.ok (.cons (.int _ _) .nil) λv s1 g1 X Hx=>?_);have I1:=I.run X;refine KatBack.intro I1.fr I1.news (.head I1.ZR) λh' c F' N'=>?_;have I2:=I1.H4 (λb o _ _ _ e=>e) I1.ns F' N';refine ih (j+1) (ks++[v]) c g1 _ (eQ (aG [_,_,_] [.f (.a .x (.u .y)) .z,.l (.u (.a (.u .x) .y)) .z] rfl hj) (aG [_,_,_] [.e (.a .x (.u .y)) .z,.l (.u .z) (.a (.u .x) .y)] rfl hj)) (λi w hw=>?_) I2 ?_
  ·obtain⟨t,rfl⟩:=hr (i+1) w (by simpa using hw)
   exact⟨t,by congr 1;exact sP (cG [_,_] [] [.l (.u (.c (.a .x (.u .y)))) (.c (.a (.u .x) .y))] rfl) (cG [_,_] [] [.l (.u (.c (.a (.u .x) .y))) (.c (.a .x (.u .y)))] rfl)⟩
  ·rw[j9,Fh]
   exact(hv.mono X.ext.sub).append (.cons Hx .nil)
end
theorem QJ{fa r:aH}{n c:Nat}{ky:Nat->List Int}{rk:Nat->Int}{out:List Nat}{t u v:jB}{Q:aD->aF->Prop}(R:dS B (k+3) A s.heap)(G:bI B g s.heap)(hr:AI s.heap r 0 n 1 t u v)(h2:2<=n)(wR:n<64)
 (fJ:∀(A:bM) (g':aT) (s:aF) (i:Nat) (vs:List aD) (Q:aD->aF->Prop) (E:aD->aF->Prop),i<n->g.Sub g'->dS B (k+1) A s.heap->bI B g' s.heap->bD B g' vs [.int (i:Int)]->(∀v s' eP,bT B s g' s' eP->VR B eP v (.cD (bW (ky i)))->Q v s')->aK (aW B) A (gL (.ref fa) vs []) Q E s)
 (hc:∀i,i<n->(ky i).length=c+1) (yD:qK n rk) (yN:∀i j,i<n->j<n->qF (ky i) (ky j)=decide (rk i<rk j)) (uO:∀p,PA n p->Up rk p n->p.toList=out)
 (K:∀v s' g',bT B s g s' g'->VR B g' v (.aO (aQ out))->Q v s'):aK (aW B) A (gL (.builtin "sorted") [.ref r] [("key",.ref fa)]) Q E s:=by
 obtain⟨L,m,hb,ns⟩:=R.ns;have R1:dS B (k+1) A.in1.in1 s.heap:=R.in1.in1;refine aAx R.handled hr (small_one (by omega) (by omega) (by exact F8 _) (by exact C1 (tY wR (by decide)))) (n:=n) (by rw[rangeSize_one];split<;>(first|exact sP (cG [_] [] [.l (.u (.s (.c .x) .o)) (.c .x)] rfl) (cG [_] [] [.l (.u (.c .x)) (.s (.c .x) .o)] rfl)|omega)) h2 wR ns λvs D kS e1 h' tk yL bF kp nL d0 k0 ne hk hd=>?_;have lb:=UB (l:=[]) hb ns nL λb o hb _ e=>kp b o hb e;have le:Le B.base s.heap h':=λb o e=>lb b o (by simp) e;have tb:∀b∈B.kK,∀o,s.heap.get? b=some o->h'.get? b=some o:=λb dJ o e=>kp b o (λq=>B.tabIn b dJ (by rw[q];exact hb)) e
 have N9:∀i,i<n->∃t,vs.getD i .none=.int (i:Int) t:=λi hi=>by
  have h1:=oO (wG yL hi);obtain⟨t,h2⟩:=bF.2 i vs[i] (by simpa using h1);refine⟨t,?_⟩;rw[iJ,h1,k7,h2];congr 1;exact sP (cG [_] [] [.l (.u (.a .o (.t (.c .x) 1))) (.c .x)] rfl) (cG [_] [] [.l (.u (.c .x)) (.a .o (.t (.c .x) 1))] rfl)
 have I0:rF B s g L m kS D [] [] 0 e1 g {s with heap:=h',toks:=tk}:={
  post:=⟨⟨le,.refl _,rfl⟩,.refl _ _,G.jK le tb⟩,ns:=nL,hb:=hb,k0:=k0,d0:=d0,bk:=G.le.none k0,bd:=G.le.none d0,gk:=G.fresh k0,gd:=G.fresh d0,ne:=ne,hk:=hk,hd:=hd}
 refine aDb R1 (λA g' s i vs Q E hi sub R G bF K=>fJ A g' s i vs Q E hi sub R G bF K) (λks e g1 s1 I hks=>?_) vs 0 [] 0 g _ (eQ (aG [_,_] [.f .x .y,.l (.u (.a .o .x)) .y] rfl yL) (aG [_,_] [.e .x .y,.l (.u .y) (.a .o .x)] rfl yL)) (λi v hi=>?_) I0 .nil
 ·have aLv:bD B g1 ks (((bX n).map ky).map λl=>.cD (bW l)):=by rw[fO];exact hks
  have it:=uG.of aLv;rw[yL];have gd:∀i,i<n->((bX n).map ky).getD i []=ky i:=λi hi=>by simp[iJ,Bv,PM hi]
  refine TC it (by simp) (aV (aG [_] [.l (.n 2) .x,.l (.u .x) .i] rfl h2)) (λl hl=>by
   obtain⟨i,hi,rfl⟩:=gK.mp hl
   exact hc i (fY.mp hi)) yD (λi j hi hj=>by rw[gd i hi,gd j hj];exact yN i j hi hj) (λb us m e=>I.post.ok.at e) λp hp hu=>?_
  refine KatFin.intro I.fr I.news (.head I.ZR) λnC c2 F2 N2=>?_;refine aOi F2 N2 (.tail ne (.head λ⟨a,o⟩ hp=>(Nn.mp hp).2.1)) λh3 c3 F3 N3=>?_;have I3:=I.H4 (λb o _ _ _ e=>e) I.ns F3 N3
  ·have px:=fU.eF (dP (Jg (p.toList.map λi=>vs.getD i .none)) c3) I3.gd I3.d0
   refine K _ _ (g1.eF D (dP (Jg (p.toList.map λi=>vs.getD i .none)) c3)) ⟨I3.post.keep,⟨I3.post.ext.sub.trans px.sub,λb o e=>?_⟩,I3.post.ok.eF I3.gd I3.hd jE⟩ ?_
   ·rcases px.new b o e with q|q
    ·exact I3.post.ext.new b o q
    ·exact .inr q
   ·refine .aO (aT.jY _ _ _) ?_
    rw[<-uO p hp hu]
    have:∀l:List Nat,(∀i∈l,i<n)->bD B (g1.eF D (dP (Jg (p.toList.map λi=>vs.getD i .none)) c3)) (l.map λi=>vs.getD i .none) (aQ l):=by
     intro l;induction l with
     |nil=>intro _;exact .nil
     |cons i l ih=>
      intro hl;obtain⟨t,ht⟩:=N9 i (hl i (.head _));refine .cons ?_ (ih λj hj=>hl j (.tail _ hj));show VR B _ (vs.getD i .none) (.int (i:Int));rw[ht];exact .int _ _
    exact this p.toList λi hi=>fY.mp (hp.perm.mem_iff.mp hi)
 ·have eV:i<n:=by
   have:=(zF.mp hi).1;exact bV (aG [_,_,_] [.e .x .y,.l (.u .z) .x,.l .y .z] rfl yL this)
  obtain⟨t,ht⟩:=N9 i eV;rw[iJ,hi,k7] at ht;exact⟨t,by rw[ht];congr 1;exact sP (cG [_] [] [.l (.u (.c .x)) (.c (.a .o .x))] rfl) (cG [_] [] [.l (.u (.c (.a .o .x))) (.c .x)] rfl)⟩
theorem aB.TK{p rp pos B1 kp lp:dI}{e1 lb:bJ}{params:OX}{scope:bR}{px pl:aC}{av:AV}{i:Int}{n c:Nat}{ky:Nat->List Int}{rk:Nat->Int}{out:List Nat}(b:oN B sc "sorted" (.builtin "sorted"))(br:oN B sc "range" (.type "range"))
 (h1:aB B (k+3) sc vars e1 (.int i)) (hi:i=n) (hn:eR [e1]=true) (h2:2<=n) (wR:n<64) (hL:Wc B k sc vars params lb scope px pl av)
 (he:∀i:Nat,i<n->aB B k scope (cT px (.val (.int (i:Int))) [(pl,.val av)]) lb (.cD (bW (ky i)))) (hc:∀i,i<n->(ky i).length=c+1) (yD:qK n rk) (yN:∀i j,i<n->j<n->qF (ky i) (ky j)=decide (rk i<rk j)) (uO:∀p,PA n p->Up rk p n->p.toList=out):
 aB B (k+3) sc vars (.Call (.Name "sorted" p) [.Call (.Name "range" rp) [e1] [] B1] [⟨some "key",.Lambda params lb scope lp,kp⟩] pos) (.aO (aQ out)):=by
 subst hi;intro A aA g s Q E P K;refine zC (Us b.kind b.vY b.boot b.rL b.nm P ?_);refine callWith_kw ?_ (by rfl) (by rfl) (by rfl) (by rfl);refine Et ?_ (pM rfl);refine Ni br (.inr ⟨_,rfl⟩) hn P (aZ.c h1.ar .nil hn A aA g s B1 _ E P λvs s1 g1 X bF=>?_);obtain⟨v,rfl,hv⟩:=bF.bU;obtain⟨t,rfl⟩:=VR.lW hv;refine call_range_1 ?_;have hr:AI (s1.heap.push {cls:=.type "range",data:=.fields #[.int 0 s1.toks,.int (n:Int) t,.int 1 (s1.toks+1)]}) s1.heap.objs.size 0 (n:Int) 1 s1.toks t (s1.toks+1):=gU _ rfl;refine aOw ?_;show aK (aW B) A (xE [do let v <-eval (.Lambda params lb scope lp) aA;Iv pos;pure v]) _ E _;unfold xE;have X2:=X.trans (.GC X.ok {cls:=.type "range",data:=.fields #[.int 0 s1.toks,.int (n:Int) t,.int 1 (s1.toks+1)]} (s1.toks+1+1));obtain⟨i,MD,LA⟩:=hL.HS;refine aM (aM (UC MD LA hL.dflt hL.free hL.nd (P.post X2) λfa s2 g2 Y hv fr=>aM (pI (bE ?_))));refine aM (mK ?_);refine bE (bE ?_);show aK (aW B) A (gL (.builtin "sorted") [.ref s1.heap.objs.size] [("key",.ref fa)]) Q E s2;have O2:=Y.keep.le.cM hr (jX rfl nofun);have Z:=X2.trans Y;obtain⟨cc,w,LS,Ab,hG⟩:=vR.bU fr hL.bU;obtain⟨oc,o1,o2,o3,o4⟩:=R9 Y.ok Ab;have R1:=P.room.mono Z.keep.le
 have Pr:∀g3,g2.Sub g3->g3 cc=some oc->∀(A:bM) (g':aT) (s:aF) (i:Nat) (vs:List aD) (Q:aD->aF->Prop) (E:aD->aF->Prop),i<n->g3.Sub g'->dS B (k+1) A s.heap->bI B g' s.heap->bD B g' vs [.int (i:Int)]->
  (∀v s' eP,bT B s g' s' eP->VR B eP v (.cD (bW (ky i)))->Q v s')->aK (aW B) A (gL (.ref fa) vs []) Q E s:=λg3 sub e A g' s i vs Q E hi Dj R G bF K=>
  (hv.mono (sub.trans Dj)).run (hG g' oc (sub.trans Dj) (Dj _ _ e) o2) hL.co hL.gen hL.kind hL.nd hL.nP hL.bind hL.iE (he i hi) R G bF K
 rcases o4 with o4|⟨o4,o5⟩
 ·exact QJ R1 Y.ok O2 h2 wR (Pr g2 (.refl _) o4) hc yD yN uO λv s' g' W hv=>K v s' g' (Z.trans W) hv
 ·have G2:=Y.ok.eF o4 o1 o3
  have sub:=ED (oc:=oc) o4;refine QJ R1 G2 O2 h2 wR (Pr _ sub (aT.jY _ _ _)) hc yD yN uO λv s' g' W hv=>?_;have e1:=WO o4 W.ext;obtain⟨a,ws,m,rfl,ho,r⟩:=VR.bB hv
  have dD:a≠cc:=λq=>by
   have e2:=W.ext.sub _ _ (aT.jY g2 cc oc);rw[q,e2] at ho;cases ho;cases o2
  exact K _ s' (g'.tM cc) (Z.trans ⟨W.keep,e1,YJ o2 o5 (W.ext.sub _ _ (aT.jY _ _ _)) W.ok⟩) (.aO ((if_neg dD).trans ho) r.C0)
end
end
section
open Builtin Builtin.ObjectAttr
theorem RN:Slot "tuple" "__getattribute__" "tuple.__getattribute__":=
 .of (owner:="tuple") (n:="__getattribute__") (by rw[Tt,Tu];kernel_rfl) (by decide+kernel) (by decide+kernel) (by decide+kernel)
  (by first|exact .inl (by decide+kernel)|exact .inr (by decide+kernel)) (by rw[Jm];kernel_rfl)
theorem aBp:BH table "tuple.__getattribute__"=some kR.«object.__getattribute__»:=entryFor_alias (id':="object.__getattribute__") (by rw[fastTable_eq_tree];kernel_rfl) (by decide+kernel) (by decide+kernel) (by rw[fastTable_eq_tree];kernel_rfl)
theorem aCk(a b:aD):xG "tuple.__getattribute__" ⟨[a,b],[]⟩:=by unfold xG;kernel_rfl
theorem aCj:builtinKind "tuple.__getattribute__"=some .slot:=by decide+kernel
theorem aBo:splitId "tuple.__getattribute__"=some ("tuple","__getattribute__"):=by decide+kernel
section
variable {prog:iS} {w:iI} {A:bM} {E:aD->aF->Prop} {s:aF} {K:fB} {x C a:aH} {ox:fQ} {name:aC} {expr:Bool} {Q:aD->aF->Prop}
theorem zN(hx:h.get? x=some ox)(hc:ox.cls=.ref C):lP M h (vF (.ref x)) (.ref C):=hc▸(BJ hx).andThen .now
theorem aA7(X:K.In h)(hf:lM K (.ref C) name=some (some (.ref a)))(hg:Sz K (.ref a) "__get__"=some (some g))(ht:takesIn K (.ref a)=some true):lP M h (find (.ref x) (.ref C) name) (.bind g (.ref a)):=by
 have L1:=Ce (M:=M) X hf;have L2:lP M h (getOf (some (.ref a))) (some g):=k8 X hg;have L3:=looks_takesIn (M:=M) X ht;refine L1.andThen (L2.andThen ?_);exact(show lP M h (dataDescriptor? (some (.ref a)) (some g)) (some (g,.ref a)) from L3.andThen .now).andThen (lP.tag .now)
theorem aHx(dD:∀id,g≠.builtin id)(X:K.In s.heap)(hx:s.heap.get? x=some ox)(hc:ox.cls=.ref C)(hga:lM K (.ref C) "__getattribute__"=some (some (.builtin "tuple.__getattribute__")))(hk:lM K (.ref C) "__getattr__"=some none)
 (lZ:sU K C (.type "tuple")=some true) (hf:lM K (.ref C) name=some (some (.ref a))) (hg:Sz K (.ref a) "__get__"=some (some g)) (ht:takesIn K (.ref a)=some true)
 (h:aK (model prog w) A.in1 (gL g [.ref a,.ref x,.ref C]) (λv s'=>aK (model prog w) A (handedOut v) Q E s') (λ_ _=>False) {s with toks:=s.toks+1}):
 aK (model prog w) A (BK (.ref x) name expr) Q E s:=by
 obtain⟨hh,gg,d,t,os⟩:=s;have L0:=zN (M:=model prog w) hx hc;have L1:=Ce (M:=model prog w) X hga;have L2:=Ce (M:=model prog w) X hk;have L3:=aA7 (M:=model prog w) (x:=x) X hf hg ht;unfold BK getAttrBy;refine aM (k9 (mK (aM (L0.at (aM (L1.at ?_))))));dsimp only;rw[show(BL (.ref C)&&Cf "tuple.__getattribute__"==Cf "object.__getattribute__")=false from by rw[show(Cf "tuple.__getattribute__"==Cf "object.__getattribute__")=false from by decide+kernel,Jn],if_neg (by decide)];unfold getAttrByItsOwn
 have LH:lP (model prog w) hh (PN (.ref C)) none:=by
  unfold PN;rw[if_pos (show BL (.ref C)=true from rfl)];exact L2
 refine aM (LH.at (aM (Mz (mK ?_))));unfold callGetattribute;rw[show(expr&&BL (Cf "tuple.__getattribute__"))=false from Jn _,if_neg (by decide)];unfold boundAndCalled;rw[RN.bind];refine aM (bE ?_);show aK _ _ (gL (.builtin "tuple.__getattribute__") [.ref x,.str name t]) _ _ _;refine xD ?_;refine Tv RN.plain aBp ?_;refine @Tw (model prog w) _ _ ⟨hh,gg,d,t+1,os⟩ "tuple.__getattribute__" "tuple" "__getattribute__" (.ref x) [.str name t] [] _ aCj aBo (L0.andThen (Fv X lZ)) (aCk (.ref x) (.str name t)) ?_;unfold kR.«object.__getattribute__»;refine aM (mM (a:=(.ref x,[.str name t])) (by kernel_rfl) ?_);refine aM (bE (aM (L0.at (aM (L3.at ?_)))));dsimp only
 have hb:bindTo g (.ref a) (.ref x) (.ref C)=(do ret (<-holding [.ref a] (gL g [.ref a,.ref x,.ref C]))):=by
  unfold bindTo;rfl
 rw[hb];refine aM (mK (eK h (λv s' z=>?_) λ_ _ z=>z.elim));exact bE z
end
end
section
open Builtin Builtin.ObjectAttr
section
variable {B:BD} {k:Nat} {A:bM} {sc:bR} {vars:aU} {aA:bO} {g g':aT} {s s':aF} {E:aD->aF->Prop}
noncomputable abbrev fX(j:Nat)(v:aD):AV:=.mZ j λ_ u=>u=v
theorem VR.Be(h:VR B g u (fX j v)):u=v:=by
 have h:=VR.bB h;exact h g (.refl g)
theorem VR.Ba:VR B g v (fX j v):=.mZ λ_ _=>rfl
theorem aB.aMk(b:oN B sc f v):aB B k sc vars (.Name f p) (fX j v):=by
 intro A aA g s Q E P K;exact Us b.kind b.vY b.boot b.rL b.nm P (K v s g (.refl P.ok) .Ba)
theorem aEa{T:String}{f name:aC}{p Au pos:dI}{e:bJ}{es:List bJ}{id:String}{Q:aD->aF->Prop}(b:oN B sc f (.type T))(hb:∀aA,wY (.Name f p) name aA (eval (.Name f p) aA)=eval (.Name f p) aA)(hn:eR (e::es)=true)(hl:(e::es).length<30)(pP:(Au.endLine==pos.line)=true)
 (GF:aOx T=false) (ht:vF (.type T)=pure (.type "type")) (hf:findCls [] (.type T) (.type "type") name=some (.val (.builtin id))) (hh:PO (.builtin id)=true) (P:iQ B k A sc vars aA g s)
 (h:∀tk,aK (aW B) A (spliced (kQ pos (iT (e::es) aA))) (λvs bN=>aK (aW B) A (gL (.builtin id) vs) Q E bN) E {s with toks:=tk}):
 aK (aW B) A (eval (.Call (.Attribute (.Name f p) name Au) (e::es) [] pos) aA) Q E s:=by
 have hp:=Ub (pos:=pos) (Ua (aA:=aA) hn)
 have he:kQ pos (iT (e::es) aA)=(false,eval e aA)::kQ pos (iT es aA):=by
  rw[pM hn];rfl
 have X:fB.In [] s.heap:=λa o e=>by cases e
 rw[arm_eval_Call,hb];refine aM (Us b.kind b.vY b.boot b.rL b.nm P ?_);refine aM (pI ?_)
 have aKc:methodCallForm ((e::es).length+([]:List Keyword).length) (kQ pos (iT (e::es) aA)) (tW pos (tX [] aA))=true:=by
  unfold methodCallForm;rw[Fe,Fe];refine⟨⟨?_,rfl⟩,decide_eq_true (hl)⟩;rw[aNi];simp only[Bool.not_not];simpa using hp
 have Pw:methodCallPos true (.Name f p) aA Au pos=pure pos:=by unfold methodCallPos;simp[pP]
 unfold methodCall;rw[aKc];have L0:lP (aW B) s.heap (vF (.type T)) (.type "type"):=BM ht;have hg:=type_tga;refine aM (mK ?_);show aK (aW B) A (getMethod (.type T) name _) _ _ _;unfold getMethod Fw;refine aM (aM (L0.here ((Ce X hg).here ?_)));dsimp only
 with_reducible refine Hu canon_tga ?_
 refine aM (eK (Q:=λv s'=>v=.builtin id/\s'={s with toks:=s.toks+1}) ?_ (λv s' z=>?_) λ_ _ z=>z)
 ·have LO:lP (aW B) s.heap (opaqueClassAbove (.type T)) none:=BM (by unfold opaqueClassAbove;dsimp only;rw[GF];rfl)
  refine cls_open X LO L0 hg (looks_hook X (by rfl)) (by show subIn [] _ _=_;rfl) hf ?_;refine bE ?_;dsimp only;rw[handedOut_of hh];exact bE ⟨rfl,rfl⟩
 ·obtain⟨rfl,rfl⟩:=z
  refine bE ?_;refine aM (mM Pw ?_);refine Y5 hp ?_;have h':=h (s.toks+1);rw[he] at h' ⊢;exact NX (eK h' (λvs s' q=>q) λ_ _ q=>q)
theorem aB.A7{T:String}{f name:aC}{p Au pos:dI}{e:bJ}{es:List bJ}{id:String}{rs:List LV}{r:AV}(b:oN B sc f (.type T))(hb:∀aA,wY (.Name f p) name aA (eval (.Name f p) aA)=eval (.Name f p) aA)(hn:eR (e::es)=true)(hl:(e::es).length<30)(pP:(Au.endLine==pos.line)=true)
 (GF:aOx T=false) (ht:vF (.type T)=pure (.type "type")) (hf:findCls [] (.type T) (.type "type") name=some (.val (.builtin id))) (hh:PO (.builtin id)=true) (ha:aZ B k sc vars (e::es) rs) (hc:cJ B k (.builtin id) rs r):
 aB B k sc vars (.Call (.Attribute (.Name f p) name Au) (e::es) [] pos) r:=by
 intro A aA g s Q E P K;refine aEa b hb hn hl pP GF ht hf hh P λtk=>?_;have X:bT B s g {s with toks:=tk} g:=.toks P.ok;refine ha A aA g _ pos _ E (P.post X) λvs s1 g1 Y bF=>?_;exact hc A g1 s1 vs Q E ((P.room.mono X.keep.le).mono Y.keep.le) Y.ok bF λv s2 g2 Z hv=>K v s2 g2 ((X.trans Y).trans Z) hv
def zX(B:BD)(k:Nat)(name:aC)(av r:AV):Prop:=
 ∀(A:bM) (g:aT) (s:aF) (v:aD) (Q:aD->aF->Prop) (E:aD->aF->Prop),dS B k A s.heap->bI B g s.heap->VR B g v av->(∀u s' g',bT B s g s' g'->VR B g' u r->Q u s')->aK (aW B) A (BK v name true) Q E s
theorem aB.Wo{x name:aC}{xp p:dI}{av r:AV}(n:fP sc vars x (.val av))(hb:∀aA,wY (.Name x xp) name aA (eval (.Name x xp) aA)=eval (.Name x xp) aA)(h:zX B k name av r):aB B k sc vars (.Attribute (.Name x xp) name p) r:=by
 intro A aA g s Q E P K;rw[aOy,hb];refine aM (aB.Gr n A aA g s _ E P λv s1 g1 X hv=>?_);refine aM (pI (aM (mK ?_)));refine h A g1 s1 v _ E (P.room.mono X.keep.le) X.ok hv λu s2 g2 Y hu=>?_;exact aM (bE (bE (K u s2 g2 (X.trans Y) hu)))
end
end
section
open Builtin Builtin.ObjectAttr
structure oW(B:BD)(K:fB):Prop where
 JX:K.In B.base
 ZC:∀a o,K.lookup a=some o->XO o=true
 ec:B.EC=154
 H7:lM K (.ref 154) "__getattribute__"=some (some (.builtin "tuple.__getattribute__"))
 E4:lM K (.ref 154) "__getattr__"=some none
 sub:sU K 154 (.type "tuple")=some true
 fld:∀(nm:aC) (i:Nat),(nm,i)∈([("start",0),("end",1),("target",2),("depth",3),("lasti",4)]:List (aC×Nat))->lM K (.ref 154) nm=some (some (.ref (124+3*i)))/\Sz K (.ref (124+3*i)) "__get__"=some (some (.ref 43))/\takesIn K (.ref (124+3*i))=some true/\
  (∃ox dx od tk,K.lookup (124+3*i)=some ox/\ox.cls=.ref 60/\notCls ox=true/\ox.dict=some dx/\K.lookup dx=some od/\Sy K 60 (some od) "index"=some (.value (.int (i:Int) tk)))
 A8:lM K (.ref 60) "__getattribute__"=some (some (.builtin "object.__getattribute__"))
 inst:instIn K (.ref 154) (.type "type")=some true
 KC:∃cd,Mo K 154=some cd
section
variable {B:BD} {K:fB} {k:Nat} {A:bM} {sc:bR} {vars:aU} {aA:bO} {g g':aT} {s s':aF} {E:aD->aF->Prop}
theorem oW.at(F:oW B K)(G:bI B g s.heap):K.In s.heap:=λa o e=>by
 have hb:=F.JX a o e;rcases G.le a o hb with q|⟨q,_⟩|⟨vs,more,rfl,_,_⟩
 ·exact q
 ·cases (hb.symm.trans q)
 ·have:=F.ZC a _ e;cases this
inductive aK0(B:BD)(h:bH)(i j l m:Int)(b:Bool)(v:aD):Prop
 |mk (a dA:aH) (t1 t2 t3 t4:jB) (ev:v=.ref a) (ho:h.get? a=some (yE B.EC dA [.int i t1,.int j t2,.int l t3,.int m t4,.bool b]))
theorem VR.Pd(G:bI B g s.heap)(h:VR B g v (.kO i j l m b)):aK0 B s.heap i j l m b v:=by
 obtain⟨_,_,_,_,_,_,rfl,h0⟩:=VR.bB h;exact⟨_,_,_,_,_,_,rfl,G.at h0⟩
theorem cJ.aJn(F:oW B K):cJ B k (.type "type") [.val (.kO i j l m b)] (fX 3 (.ref 154)):=by
 intro A g s vs Q E R G bF K;obtain⟨v,rfl,hv⟩:=bF.bU;obtain⟨a,dA,t1,t2,t3,t4,rfl,ho⟩:=VR.Pd G hv;obtain⟨hh,gg,d,t,os⟩:=s;refine call_type_obj ho rfl ?_;refine K _ _ _ (.refl G) ?_;show VR B g (.ref B.EC) _;rw[F.ec];exact .Ba
theorem TM(X:K.In h)(hc:Mo K C=some cd):lP M h (isType (.ref C)) true:=by
 unfold Mo at hc;cases ho:K.lookup C with
 |none=>rw[ho] at hc;cases hc
 |some o=>
  rw[ho] at hc;obtain⟨c,d,e,sl⟩:=o;cases e with
  |cls U2=>
   intro A Q E s k q;exact aM (PQ (k _ _ (X _ _ ho)) (bE q))
  |_=>cases hc
theorem cJ.aJ5(F:oW B K):cJ B k (.builtin "issubclass") [.val (fX 3 (.ref 154)),.val (fX 4 (.type "tuple"))] (.bool true):=by
 intro A g s vs Q E R G bF K;obtain⟨v,u,rfl,hv,hu⟩:=bF.kE;have e1:=VR.Be hv;have e2:=VR.Be hu;subst e1;subst e2;have X:=F.at G;obtain⟨cd,Zb⟩:=F.KC;refine call_issubclass (S:=λA R s'=>s'=s/\R (.ok (.ret (.bool true))) s') (λprog w A R s' hs=>issubclass_outer ?_) ⟨rfl,K _ _ _ (.refl G) (.bool _)⟩;obtain⟨rfl,hR⟩:=hs;unfold kR.«issubclass.nested»;refine aM (mM (a:=.type "type") (by first|rfl|kernel_rfl) ?_)
 with_reducible refine Hu (show(Fu "type"==Fu "type")=true by decide) ?_
 refine aM (aM ?_);refine(TM X Zb).here ?_;refine aM (mM rfl ?_)
 with_reducible refine Hu (rfl) ?_
 refine(Fv X F.sub).here ?_;exact bE hR
theorem aEh:Slot "tuple" "__getitem__" "tuple.__getitem__":=
 .of (owner:="tuple") (n:="__getitem__") (by rw[Tt,Tu];kernel_rfl) (by decide+kernel) (by decide+kernel) (by decide+kernel)
  (by first|exact .inl (by decide+kernel)|exact .inr (by decide+kernel)) (by rw[Jm];kernel_rfl)
theorem aEj(a b:aD):xG "tuple.__getitem__" ⟨[a,b],[]⟩:=by unfold xG;kernel_rfl
theorem aEi:builtinKind "tuple.__getitem__"=some .slot:=by decide+kernel
theorem aCl:splitId "tuple.__getitem__"=some ("tuple","__getitem__"):=by decide+kernel
theorem aCm:BH table "tuple.__getitem__"=some kR.«tuple.__getitem__»:=PR (by kernel_rfl)
noncomputable def Gk(i j l m:Int)(b:Bool)(n:Nat):AV:=match n with|0=>.int i|1=>.int j|2=>.int l|3=>.int m|_=>.bool b
theorem aMg:∀n,n<5->∃x,([aD.int i t1,.int j t2,.int l t3,.int m t4,.bool b].toArray)[n]?=some x/\VR B g x (Gk i j l m b n)
 |0,_=>⟨_,rfl,.int _ _⟩
 |1,_=>⟨_,rfl,.int _ _⟩
 |2,_=>⟨_,rfl,.int _ _⟩
 |3,_=>⟨_,rfl,.int _ _⟩
 |4,_=>⟨_,rfl,.bool _⟩
 |_+5,h=>absurd h (pH.mpr (l5 _ _))
theorem cJ.aHz(F:oW B K){i j l m:Int}{b:Bool}{n:Nat}(hn:n<5):cJ B k (.builtin "tuple.__getitem__") [.val (.kO i j l m b),.val (.int (n:Int))] (Gk i j l m b n):=by
 intro A g s vs Q E R G bF KK;obtain⟨v,u,rfl,hv,hu⟩:=bF.kE;obtain⟨a,dA,t1,t2,t3,t4,rfl,ho⟩:=VR.Pd G hv;obtain⟨t,rfl⟩:=VR.lW hu;have X:=F.at G;have L0:=zN (M:=aW B) ho rfl;have e:=F.ec;refine xD (Tv aEh.plain aCm ?_);refine @Tw (aW B) _ _ s "tuple.__getitem__" "tuple" "__getitem__" (.ref a) [.int (n:Int) t] [] _ aEi aCl (L0.andThen (e▸Fv X F.sub)) (aEj _ _) ?_;unfold kR.«tuple.__getitem__»;refine aM (mM (a:=(.ref a,[.int (n:Int) t])) (by kernel_rfl) ?_);refine aM (aM (aM (Ez ho (bE (bE ?_)))));refine aM (mM rfl ?_)
 with_reducible refine uY (show ¬(Fu "int"==Fu "slice")=true by decide) ?_
 have f1:asIndex (.int (n:Int) t)=pure (n:Int):=by first|rfl|kernel_rfl|exact AutoSeq1.idx_int _ _
 have L4:lP (aW B) s.heap (Fw (.int (n:Int) t) "__index__") (some (.builtin "int.__index__")):=k8 (K:=[]) (λa o e=>by cases e) (by kernel_rfl);refine aM (L4.here ?_)
 with_reducible refine uY (by decide) ?_
 rw[f1];refine aM (bE ?_);rw[if_neg (by simp;exact pF (cG [_] [] [.O (.l (.u .x) (.n 5)),.l (.n 9223372036854775808) (.c .x)] rfl hn))]
 have h5:Ff (n:Int) ([aD.int i t1,.int j t2,.int l t3,.int m t4,.bool b].toArray).size=some n:=by
  exact(seqIndex_of (jM _) (by simp;exact pF (cG [_] [] [.O (.l (.u .x) (.n 5)),.l (.n 5) (.c .x)] rfl hn))).trans (by rw[rN])
 rw[h5];obtain⟨x,h6,hx⟩:=aMg n hn;rw[Y0,h6];exact bE (KK _ _ _ (.refl G) hx)
end
end
section
open Builtin Builtin.ObjectAttr
structure Ko(B:BD)(fd:mF)(body:List dE)(a:aH):Prop where
 obj:∃o,B.base.get? a=some o/\o.data=.func fd/\o.cls≠.none
 body:fd.body=.stmts body
 sH:∃c o vs t,fd.code=.ref c/\B.base.get? c=some o/\o.data=.fields vs/\vs[1]?=some (.str fd.qualname t)/\o.cls≠.none
 co:fd.scope.isCoroutine=false
 gen:fd.scope.isGenerator=false
 kind:fd.scope.kind=.function
 nd:(fd.scope.names.map (·.1)).Nodup
 eH:fd.globals=jU
 blt:fd.builtins=qM
 iP:fd.closure=[]
 zV:∀x,(x,mG)∉fd.scope.names
 nP:∀q,nJ fd.scope=some q->fd.code=(B.oF q).1/\fd.qualname++".<locals>."=(B.oF q).2
section
variable {B:BD} {K:fB} {k:Nat} {A:bM} {sc:bR} {vars:aU} {aA:bO} {g g':aT} {s s':aF} {E:aD->aF->Prop}
theorem Ko.at{fd:mF}{body:List dE}{a:aH}(f:Ko B fd body a)(G:bI B g s.heap):Wr s a fd body where
 obj:=by obtain⟨o,h1,h2,h3⟩:=f.obj;exact⟨o,G.le.cM h1 ⟨.inl h3,by rw[h2];nofun⟩,h2⟩
 body:=f.body
 sH:=by obtain⟨c,o,vs,t,h1,h2,h3,h4,h5⟩:=f.sH;exact⟨c,o,vs,t,h1,G.le.cM h2 ⟨.inl h5,by rw[h3];nofun⟩,h3,h4⟩
 co:=f.co
 gen:=f.gen
 kind:=f.kind
 nd:=f.nd
 eH:=f.eH
 blt:=f.blt
 iP:=f.iP
 zV:=f.zV
theorem H0.at(f:Ko B fd body a)(hv:∀p∈kM,∃av,p.2=.val av)(hs:∀p∈kM,iH fd.scope p.1)
 (kW:aJ B k {sc:=fd.scope} (oP kM []) body out) (hr:out.res=some r):∀(A:bM) (g:aT) (s:aF) (vs:List aD) (Q:aD->aF->Prop) (E:aD->aF->Prop),dS B (k+1) A s.heap->bI B g s.heap->
  (∃is:List iB,iU s fd ⟨vs,kw⟩ (is.map λi=>(i.x,i.v))/\is.map (λi=>(i.x,i.lv))=kM/\∀i∈is,eW B s.heap g i.v i.lv)->
  (∀v s' g',bT B s g s' g'->VR B g' v r->Q v s')->aK (aW B) A (gL (.ref a) vs kw) Q E s:=by
 intro A g s vs Q E R G hb K;obtain⟨is,h1,h2,h3⟩:=hb;refine Ut R G (f.at G) f.nP [] none 0 h1 (λi hi=>hs (i.x,i.lv) (by rw[<-h2];exact gK.mpr ⟨i,hi,rfl⟩)) (λb h=>(cO h).elim) (λb h=>(cO h).elim) (oP kM []) ?_ kW hr ?_
 ·intro A' aA cs aN s1 Q E Yq Q4 _ _ _ _ pW hk S K
  refine Ju S pW (λi hi=>?_) λs2 S2 _=>K s2 ?_
  ·obtain⟨av,e⟩:=hv (i.x,i.lv) (by rw[<-h2];exact gK.mpr ⟨i,hi,rfl⟩)
   dsimp only at e;refine⟨av,e,?_⟩;have:=h3 i hi;rw[e] at this;exact this
  ·rw[Jr,h2] at S2;exact S2
 ·intro v s' g' aA cs own bY S wH
  exact K v s' g' S.Gh wH
noncomputable def Qd(n:Nat)(e:AV):aU:=[("self",.val (fX 5 (.ref (124+3*n)))),("obj",.val e),("objtype",.val (fX 3 (.ref 154)))]
theorem aMb(h:(nm,n)∈([("start",0),("end",1),("target",2),("depth",3),("lasti",4)]:List (aC×Nat))):n<5:=by
 exact of_decide_eq_true (tO.mp (show(([("start",0),("end",1),("target",2),("depth",3),("lasti",4)]:List (aC×Nat)).all λp=>decide (p.2<5))=true from rfl) _ h)
theorem zX.index(F:oW B K)(h:(nm,n)∈([("start",0),("end",1),("target",2),("depth",3),("lasti",4)]:List (aC×Nat))):zX B k "index" (fX 5 (.ref (124+3*n))) (.int (n:Int)):=by
 intro A g s v Q E R G hv KK;have e:=VR.Be hv;subst e;have X:=F.at G;obtain⟨_,_,_,ox,dx,od,tk,h1,h2,h3,h4,h5,h6⟩:=F.fld nm n h;refine get_value X ⟨X _ _ h1,h2,h3,?_⟩ F.A8 h6 (by rfl) (KK _ _ g (.toks G) (.int _ _));rw[h4];exact X _ _ h5
theorem aFr(bl:eZ B)(F:oW B K)(h:(nm,n)∈([("start",0),("end",1),("target",2),("depth",3),("lasti",4)]:List (aC×Nat))):
 bL B k {sc:=Cm 2 1} (Qd n (.kO i j l m b)) (xN 2 1) (Gk i j l m b n):=by
 conv in (xN 2 1)=>whnf
 unfold Qd;refine' bL.cons (aP.ite (b:=false) (by exact bA.cZ (by walk_at"w") (aB.ar aB.sE) (bG.isNone (x:=.kO i j l m b) (by intro _ h;cases h) (by intro _ _ h;cases h)) rfl) aJ.nil) ?r1
 case r1=>
  refine' bL.cons (aP.ite (b:=false) ?t2 aJ.nil) ?r2
  case t2=>
   refine' bA.not (bA.val (aB.ar (aB.blt (by walk_at"w") (.inl ⟨_,rfl⟩) rfl (aZ.c (aB.ar (aB.blt (by walk_at"w") (.inr ⟨_,rfl⟩) rfl (aZ.c (by walk_at"w") .nil rfl) (cJ.aJn F))) (aZ.c (aB.ar (aB.aMk (by walk_at"w"))) .nil rfl) rfl) (cJ.aJ5 F))) lR.bool (by intro _ _;rfl))
  case r2=>
   refine' bL.ret (aB.A7 (by walk_at"w") (λ_=>rfl) rfl (by decide) rfl (by decide+kernel) (by first|rfl|kernel_rfl) (by kernel_rfl) (by decide+kernel) (aZ.c (by walk_at"w") (aZ.c (aB.ar (aB.Wo (by walk_at"w") (λ_=>rfl) (zX.index F h))) .nil rfl) rfl) (cJ.aHz F (aMb h)))
theorem aAm(h:VR B g v (Gk i j l m b n)):PO v=true:=by
 rcases n with _|_|_|_|n
 ·obtain⟨_,rfl⟩:=VR.lW h;rfl
 ·obtain⟨_,rfl⟩:=VR.lW h;rfl
 ·obtain⟨_,rfl⟩:=VR.lW h;rfl
 ·obtain⟨_,rfl⟩:=VR.lW h;rfl
 ·cases VR.bB h;rfl
def Xw(B:BD)(K:fB):Prop:=∃fd,Ko B fd (xN 2 1) 43/\fd.scope=Cm 2 1/\∀s v1 v2 v3,K.In s.heap->iU s fd ⟨[v1,v2,v3],[]⟩ [("self",v1),("obj",v2),("objtype",v3)]
theorem zX.kO(bl:eZ B)(F:oW B K)(gf:Xw B K)(h:(nm,n)∈([("start",0),("end",1),("target",2),("depth",3),("lasti",4)]:List (aC×Nat))):zX B (k+2) nm (.kO i j l m b) (Gk i j l m b n):=by
 intro A g s v Q E R G hv KK;obtain⟨fd,fo,dC,hb⟩:=gf;obtain⟨a,dA,t1,t2,t3,t4,rfl,ho⟩:=VR.Pd G hv;have X:=F.at G;obtain⟨f1,f2,f3,_⟩:=F.fld nm n h;have e:=F.ec;refine aHx (C:=154) (g:=.ref 43) (λ_=>nofun) X ho (by rw[<-e];rfl) F.H7 F.E4 F.sub f1 f2 f3 ?_;obtain⟨V,hw⟩:=aFr (B:=B) bl F h;have T:bT B s g {s with toks:=s.toks+1} g:=.toks G;refine H0.at (out:=.ret V (Gk i j l m b n)) (kM:=Qd n (.kO i j l m b)) fo ?_ ?_ ?_ rfl A.in1 g _ _ _ _ (R.mono T.keep.le).in1 T.ok ?_ λv s' g' Y yM=>?_
 ·intro p hp
  simp only[Qd,cE,cO,or_false] at hp;rcases hp with rfl|rfl|rfl<;>exact⟨_,rfl⟩
 ·rw[dC];intro p hp
  simp only[Qd,cE,cO,or_false] at hp;rcases hp with rfl|rfl|rfl<;>exact xQ rfl
 ·rw[dC];exact .sub (fK.refl _) hw
 ·refine⟨[⟨"self",.ref (124+3*n),0,.val (fX 5 (.ref (124+3*n)))⟩,⟨"obj",.ref a,0,.val (.kO i j l m b)⟩,⟨"objtype",.ref 154,0,.val (fX 3 (.ref 154))⟩],hb _ _ _ _ X,rfl,?_⟩
  intro p hp;simp only[cE,cO,or_false] at hp;rcases hp with rfl|rfl|rfl
  ·exact VR.Ba
  ·exact hv
  ·exact VR.Ba
 ·exact handed_on (aAm yM) (KK v s' g' (T.trans Y) yM)
end
end
section
open Builtin Builtin.ObjectAttr
structure Aw(B:BD)(K:fB):Prop where
 made:∀S,peek K S (NS (.ref 154))=some none
 here:∀S,peek K S (X6 "tuple.__new__" (.ref 154))=some ()
 Mg:∀S (t:aH),peek K S (AE "tuple.__new__" ⟨[.ref 154,.ref t],[]⟩)=some ()
 init:lM K (.ref 154) "__init__"=some (some (.builtin "object.__init__"))
 mro:∃m l,Mo K 154=some m/\m.mro=(.ref 154::l)
 self:sU K 154 (.ref 154)=some true
 obj:sU K 154 (.type "object")=some true
 call:Sz K (.ref 154) "__call__"=some (some (.builtin "type.__call__"))
 H5:instIn K (.ref 154) (.type "type")=some true
 vP:readsIn K 154 (.type "type")=true
 new:findCls K (.ref 154) (.type "type") "__new__"=some (.get (.builtin "staticmethod.__get__") (.ref 142) .none (.ref 154))
 sm:recIn K 142 "staticmethod"=some [.ref 82]
 FX:∃o,K.lookup 154=some o/\(∃cd,o.data=.cls cd/\cd.hasDel=false)
theorem aEe:plainId "tuple.__new__"=true:=by decide+kernel
theorem aCh:BH table "tuple.__new__"=some kR.«tuple.__new__»:=PR (by kernel_rfl)
section
variable {B:BD} {K:fB} {k:Nat} {A:bM} {sc:bR} {vars:aU} {aA:bO} {g g':aT} {s s':aF} {E:aD->aF->Prop}
theorem fW.Vr(r:fW B h g vs (x::xs)):∃v ws,vs=v::ws/\eW B h g v x/\fW B h g ws xs:=by
 cases r with|cons a r=>exact⟨_,_,rfl,a,r⟩
theorem bD.aMc(r:bD B g ws [.int i,.int j,.int l,.int m,.bool b]):∃t1 t2 t3 t4,ws=[.int i t1,.int j t2,.int l t3,.int m t4,.bool b]:=by
 obtain⟨_,_,rfl,q1,r1⟩:=bD.bB r;obtain⟨_,_,rfl,q2,r2⟩:=bD.bB r1;obtain⟨_,_,rfl,q3,r3⟩:=bD.bB r2;obtain⟨_,_,rfl,q4,r4⟩:=bD.bB r3;obtain⟨_,_,rfl,q5,r5⟩:=bD.bB r4;obtain rfl:=bD.bB r5;obtain⟨t1,rfl⟩:=VR.bB q1;obtain⟨t2,rfl⟩:=VR.bB q2;obtain⟨t3,rfl⟩:=VR.bB q3;obtain⟨t4,rfl⟩:=VR.bB q4;obtain rfl:=VR.bB q5;exact⟨_,_,_,_,rfl⟩
theorem cJ.aIl(F:oW B K)(M:Aw B K):cJ B k (.builtin "tuple.__new__") [.val (fX 6 (.ref 154)),.val (.cD [.int i,.int j,.int l,.int m,.bool b])] (.kO i j l m b):=by
 intro A g s vs Q E R G bF KK;obtain⟨v,u,rfl,hv,hu⟩:=bF.kE;have e1:=VR.Be hv;subst e1;have X:=F.at G;have hu:VR B g u (.cD [.int i,.int j,.int l,.int m,.bool b]):=hu;obtain⟨a,ws,n,rfl,ho,r⟩:=VR.bB hu;have dQ:=r.length;have wJ:=G.at ho;obtain⟨cd,Zb⟩:=F.KC;obtain⟨oc,rI,U2,Xj,F4⟩:=M.FX;have Lc:lP (aW B) s.heap (AE "tuple.__new__" ⟨[.ref 154,.ref a],[]⟩) ():=PS X (M.Mg _ _);have Lh:lP (aW B) s.heap (X6 "tuple.__new__" (.ref 154)) ():=PS X (M.here _);refine xD (Tv aEe aCh (Lc.here ?_));unfold kR.«tuple.__new__»;dsimp only;refine aM ((TM X Zb).here ?_);rw[if_neg (by decide)];refine aM ((Fv X F.sub).here ?_);rw[if_neg (by decide)];refine aM (Lh.here ?_);refine aM ((Ce X M.init).here ?_);rw[if_pos (by decide)];refine aM (mM (a:=()) rfl ?_);refine aM (mM (a:=()) rfl ?_)
 refine aM (wpAny_collect_seq a (.inr rfl) wJ rfl rfl (λh1 hk1=>?_) (by
  have:ws.toArray.size=5:=by simpa using dQ
  rw[this,cU];exact aV (aG [] [.l (.u (.n 16777216)) (.n 5)] rfl)))
 refine aM (bE ?_);refine aM (ξ ?_);dsimp only;have Rr:∀b o,s.heap.get? b=some o->(h1.push {cls:=.type "dict",data:=.dict #[]}).get? b=some o:=λb o e=>eG _ (hk1 b o e);have LB:∀b o,s.heap.get? b=some o->((h1.push {cls:=.type "dict",data:=.dict #[]}).push (yE 154 h1.objs.size ws)).get? b=some o:=λb o e=>eG _ (Rr b o e);have qG:((h1.push {cls:=.type "dict",data:=.dict #[]}).push (yE 154 h1.objs.size ws)).get? (h1.push {cls:=.type "dict",data:=.dict #[]}).objs.size=some (yE 154 h1.objs.size ws):=gU _ rfl
 have fL:s.heap.get? (h1.push {cls:=.type "dict",data:=.dict #[]}).objs.size=none:=by
  cases q:s.heap.get? (h1.push {cls:=.type "dict",data:=.dict #[]}).objs.size with
  |none=>rfl
  |some o=>exact absurd (gS (Rr _ o q)) (sR _)
 refine aM ?_;unfold newObj;dsimp only
 rw[if_neg (by
  have:ws.toArray.size=5:=by simpa using dQ
  rw[this,cU];decide)]
 show aK (aW B) _ (newObjAsIs (.ref 154) (.seq ws.toArray) (some h1.objs.size)) _ _ _;unfold newObjAsIs;refine aM (ξ ?_);unfold classHasDel;refine aM (aM (Ez (LB _ _ (X _ _ rI)) ?_));rw[Xj];refine bE ?_;rw[F4];refine bE ?_;refine bE ?_;have f1:=G.fresh fL;have px:=fU.eF (yE 154 h1.objs.size ws) f1 fL;have hh:eD (yE 154 h1.objs.size ws):=⟨.inl nofun,nofun⟩
 refine KK (.ref (h1.push {cls:=.type "dict",data:=.dict #[]}).objs.size) _ (g.eF (h1.push {cls:=.type "dict",data:=.dict #[]}).objs.size (yE 154 h1.objs.size ws)) ⟨⟨.vJ LB,.refl _,rfl⟩,px,(G.Wk LB).eF f1 qG hh⟩ ?_;obtain⟨t1,t2,t3,t4,e5⟩:=bD.aMc r;have e:=F.ec;refine .kO (dA:=h1.objs.size) (t1:=t1) (t2:=t2) (t3:=t3) (t4:=t4) ?_;rw[e,<-e5];exact aT.jY _ _ _
noncomputable def Pn(i j l m:Int)(b:Bool):aU:=[("_cls",.val (fX 6 (.ref 154))),("start",.val (.int i)),("end",.val (.int j)),("target",.val (.int l)),("depth",.val (.int m)),("lasti",.val (.bool b))]
theorem aE5(bl:eZ B)(F:oW B K)(M:Aw B K):bL B k {sc:=Cm 3 4} (Pn i j l m b) (xN 3 4) (.kO i j l m b):=by
 conv in (xN 3 4)=>whnf
 unfold Pn
 walk_at"st"
 refine' bL.ret (aB.A7 (by walk_at"w") (λ_=>rfl) rfl (by decide) rfl (by decide+kernel) (by first|rfl|kernel_rfl) (by kernel_rfl) (by decide+kernel) (aZ.c (by walk_at"w") (aZ.c (aB.ar (aB.cD (by walk_at"w") (by rw[cU];show 5<=16777216;decide))) .nil rfl) rfl) (cJ.aIl F M))
def Hl(B:BD):Prop:=∃fd,Ko B fd (xN 3 4) 82/\fd.scope=Cm 3 4/\∀s v0 v1 v2 v3 v4 v5,iU s fd ⟨[v0,v1,v2,v3,v4,v5],[]⟩ [("_cls",v0),("start",v1),("end",v2),("target",v3),("depth",v4),("lasti",v5)]
theorem aCq(c:aH)(eS:List aD):(l6 "type.__call__" ⟨.ref c::eS,[]⟩).weight=1/\(l6 "type.__call__" ⟨.ref c::eS,[]⟩).cUnits=1/\(l6 "type.__call__" ⟨.ref c::eS,[]⟩).envs=[]:=⟨by kernel_rfl,by kernel_rfl,rfl⟩
theorem dS.tc{c:aH}{eS:List aD}{h:bH}(R:dS B (k+1) A h):dS B k (A.under (.builtin "type.__call__" ⟨.ref c::eS,[]⟩)) h:=by
 obtain⟨h1,h2,h3⟩:=aCq c eS;refine⟨R.handled,?_,?_,?_⟩
 ·have:=R.depth
  show A.depth+Code.weight _+k<Iu;rw[h1];exact bV (aG [_,_,_] [.l (.u (.a .x (.u .y))) .z,.l .z (.a (.u .x) .y)] rfl this)
 ·have:=R.units
  show A.units+Code.cUnits _+40*k<cLine;rw[h2];exact bV (aG [_,_,_] [.l (.u (.a .x (.m 40 (.u .y)))) .z,.l .z (.a (.u .x) (.m 40 .y))] rfl this)
 ·have e:(A.under (.builtin "type.__call__" ⟨.ref c::eS,[]⟩)).frames=A.frames:=by
   show pushEnvs (Code.envs (.builtin "type.__call__" ⟨.ref c::eS,[]⟩)) A.frames=A.frames;rw[h3];rfl
  rw[e];exact R.frames
theorem cJ.aHy(bl:eZ B)(F:oW B K)(M:Aw B K)(nf:Hl B){i j l m:Int}{b:Bool}:cJ B (k+4) (.ref 154) [.val (.int i),.val (.int j),.val (.int l),.val (.int m),.val (.bool b)] (.kO i j l m b):=by
 intro A g s vs Q E R G bF KK;obtain⟨v1,IW,rfl,Hx,r1⟩:=bF.Vr;obtain⟨v2,Xy,rfl,Bj,r2⟩:=r1.Vr;obtain⟨v3,vs3,rfl,hv3,r3⟩:=r2.Vr;obtain⟨v4,vs4,rfl,hv4,r4⟩:=r3.Vr;obtain⟨v5,rfl,hv5⟩:=r4.bU;obtain⟨fd,fo,dC,Md⟩:=nf;obtain⟨md,ml,hmd,hml⟩:=M.mro;have X:=F.at G;obtain⟨oc,rI,U2,Xj,F4⟩:=M.FX;have hC:=X _ _ rI;refine xD (ρ ?_);show aK _ _ (callAny (.ref 154) _) _ _ _;obtain⟨occ,ocd,aP9,ocs⟩:=oc;dsimp only at Xj;subst Xj;refine nd_load hC ?_;show aK _ _ (aOz (.ref 154) _) _ _ _;unfold aOz;refine aM ((k8 X M.call).at ?_);dsimp only;rw[tc_bind];refine aM (bE (aM (bE ?_)));refine bE (a:=Fin.again (.call (.builtin "type.__call__") ⟨.ref 154::[v1,v2,v3,v4,v5],[]⟩)) (And.intro rfl ?_);refine codeAny_call_builtin_at (Code.quiet_builtin _ (by decide+kernel)) entry_typeCall (Tw tc_kind tc_split (looks_instIn X M.H5) (tc_args _ _ _) ?_);unfold kR.«type.__call__»;dsimp only;rw[if_neg (by decide)];have aLt:lP (aW B) s.heap (mroOf (.ref 154)) md.mro:=(looks_clsIn X hmd).andThen .now;refine aM (aLt.at ?_);rw[hml];rw[if_neg (show ¬(vG 154::ml).isEmpty=true from nofun)];have Lm:lP (aW B) s.heap (NS (.ref 154)) none:=PS X (M.made _);refine aM (Lm.at ?_);dsimp only;refine aM (cls_bind (s:=s) X M.vP M.new ?_);have T:bT B s g {s with toks:=s.toks+1} g:=.toks G;refine xD (sm_get (s:={s with toks:=s.toks+1}) X M.sm ?_);refine handed_on rfl ?_;refine aM (mK ?_);obtain⟨V,hw⟩:=aE5 (B:=B) (k:=k) bl F M (i:=i) (j:=j) (l:=l) (m:=m) (b:=b);refine H0.at (k:=k) (out:=.ret V (.kO i j l m b)) (r:=.kO i j l m b) (kM:=Pn i j l m b) fo ?_ ?_ ?_ rfl _ g _ _ _ _ ((R.mono T.keep.le).le (aV (aG [_] [.l (.u (.a .x (.n 4))) (.u (.u .x))] rfl))|>.tc) T.ok ?_ λv s' g' Y yM=>?_
 ·intro p hp
  simp only[Pn,cE,cO,or_false] at hp;rcases hp with rfl|rfl|rfl|rfl|rfl|rfl<;>exact⟨_,rfl⟩
 ·rw[dC];intro p hp
  simp only[Pn,cE,cO,or_false] at hp;rcases hp with rfl|rfl|rfl|rfl|rfl|rfl<;>exact xQ rfl
 ·rw[dC];exact .sub (fK.refl _) hw
 ·refine⟨[⟨"_cls",.ref 154,0,.val (fX 6 (.ref 154))⟩,⟨"start",v1,0,.val (.int i)⟩,⟨"end",v2,0,.val (.int j)⟩,⟨"target",v3,0,.val (.int l)⟩,⟨"depth",v4,0,.val (.int m)⟩,⟨"lasti",v5,0,.val (.bool b)⟩],Md _ _ _ _ _ _ _,rfl,?_⟩
  intro p hp;simp only[cE,cO,or_false] at hp;rcases hp with rfl|rfl|rfl|rfl|rfl|rfl
  ·exact VR.Ba
  ·exact Hx
  ·exact Bj
  ·exact hv3
  ·exact hv4
  ·exact hv5
 ·obtain⟨a,dA,t1,t2,t3,t4,rfl,ho⟩:=VR.Pd Y.ok yM
  have X2:=F.at Y.ok;rw[F.ec] at ho;have L0:=zN (M:=aW B) ho rfl;have LI:lP (aW B) s'.heap (isInstance (.ref a) (.ref 154)) true:=L0.andThen (Fv X2 M.self);refine aM (LI.here ?_);rw[if_neg (by decide)];refine aM (mK ?_);unfold callSpecial? Fw;refine aM (aM (L0.here ((Ce X2 M.init).here ?_)));dsimp only;refine mK ?_;rw[oi_bind];refine aM (bE (aM ?_));show aK _ _ (gL (.builtin "object.__init__") (.ref a::[v1,v2,v3,v4,v5])) _ _ _;refine xD (Tv oi_plain entry_oi (@Tw (aW B) _ _ _ "object.__init__" "object" "__init__" (.ref a) [v1,v2,v3,v4,v5] [] _ oi_kind oi_split (L0.andThen (Fv X2 M.obj)) (by unfold xG;kernel_rfl) ?_));unfold kR.«object.__init__»;dsimp only;rw[if_pos (show(!([v1,v2,v3,v4,v5]:List aD).isEmpty|| !([]:List (aC×aD)).isEmpty)=true from rfl)];refine aM (L0.here ?_);refine aM ((Ce X2 M.init).here ?_);have Lm2:lP (aW B) s'.heap (NS (.ref 154)) none:=PS X2 (M.made _);refine aM (Lm2.here ?_);dsimp only;rw[if_neg (by decide+kernel),if_neg (by decide+kernel)];refine bE ?_;refine bE ?_;dsimp only;rw[if_neg (by decide)];exact bE (KK _ _ _ (T.trans Y) yM)
end
end
section
open Builtin PySem.W.KBw
section
variable {prog:iS} {w:iI} {A:bM} {E:aD->aF->Prop} {s:aF} {b:Array UInt8} {t:jB}
theorem aAg(cY:IsBytesIter s.heap it b t i)(hx:b[i]?=some c)
 (hQ:∀h',IsBytesIter h' it b t (i+1)->kU it s.heap h'->Q (.int (c.toNat:Int) s.toks) {s with heap:=h',toks:=s.toks+1}):aK (model prog w) A (call (.builtin "next") [.ref it]) Q E s:=by
 obtain⟨o,ho,hc,hd⟩:=id cY;refine PT (by decide+kernel) (by decide+kernel) kdk_entry_next (kdk_args_next _) ?_;unfold kR.«next»
 refine aM (mM (by first|rfl|kernel_rfl!) ?_);have L0:lP (model prog w) s.heap (Fw (.ref it) "__next__") (some (.builtin "bytes_iterator.__next__")):=(show lP (model prog w) s.heap (vF (.ref it)) (.type "bytes_iterator") from hc▸(BJ ho).andThen .now).andThen (BM slot_next.lookup);refine aM (L0.here ?_)
 with_reducible refine uY (by decide) ?_
 dsimp only;refine aM (zH (iter_typeIs cY) slot_next (xB slot_next (iter_typeIs cY) entry_next ?_ (args_next _)));show aK _ _ (field (.ref it) 0>>=_) _ _ s;refine aM (nI ho hd rfl ?_);show aK _ _ (if(PU b t==nG)=true then _ else _) _ _ s;rw[if_neg (show ¬((PU b t==nG)=true) from Jh)];show aK _ _ (field (.ref it) 1>>=_) _ _ s;refine aM (nI ho hd rfl ?_);refine aM (mM rfl ?_);simp only[rN,hx];refine aM (Nc ho hd (by simp) (aM (l7 (bE ⟨_,rfl,bE ⟨_,rfl,hQ _ ?_ (By ..)⟩⟩))))
 exact⟨_,wZ _ ho (BN (Fx hd _)),(PV ..).trans hc,by
  rw[Fx hd];simp[mI]⟩
theorem aAp(hh:A.handled=none)(cY:IsBytesIter s.heap it b t i)(hx:b[i]?=none)
 (hE:∀h1 h' e,kU it s.heap h1->(∃o,h1.get? it=some o/\o.cls=.type "bytes_iterator")->Ji h1 h' e (.type "StopIteration") []->E (.ref e) {s with heap:=h'}):aK (model prog w) A (call (.builtin "next") [.ref it]) Q E s:=by
 obtain⟨o,ho,hc,hd⟩:=id cY;refine PT (by decide+kernel) (by decide+kernel) kdk_entry_next (kdk_args_next _) ?_;unfold kR.«next»
 refine aM (mM (by first|rfl|kernel_rfl!) ?_);have L0:lP (model prog w) s.heap (Fw (.ref it) "__next__") (some (.builtin "bytes_iterator.__next__")):=(show lP (model prog w) s.heap (vF (.ref it)) (.type "bytes_iterator") from hc▸(BJ ho).andThen .now).andThen (BM slot_next.lookup);refine aM (L0.here ?_)
 with_reducible refine uY (by decide) ?_
 dsimp only;refine aM (zH (iter_typeIs cY) slot_next (xB slot_next (iter_typeIs cY) entry_next ?_ (args_next _)));show aK _ _ (field (.ref it) 0>>=_) _ _ s;refine aM (nI ho hd rfl ?_);show aK _ _ (if(PU b t==nG)=true then _ else _) _ _ s;rw[if_neg (show ¬((PU b t==nG)=true) from Jh)];show aK _ _ (field (.ref it) 1>>=_) _ _ s;refine aM (nI ho hd rfl ?_);refine aM (mM rfl ?_);simp only[rN,hx];refine aM (Jc (aM (Nc ho hd (by simp) ?_)));show aK _ _ (Tp (.type "StopIteration") []>>=_) _ _ _;refine aM (Uu λh' e x=>OP hh ?_);have h1:=wZ (l8 λx=>x.setIfInBounds 0 .none) ho (BN (Fx hd _));exact hE (s.heap.update it (l8 λx=>x.setIfInBounds 0 .none)) _ _ (By ..) ⟨_,h1,(PV ..).trans hc⟩ x
end
end
section
variable {L:aH}
section
variable {B:BD} {k:Nat} {A:bM} {sc:bR} {vars:aU} {g g':aT} {s s':aF}
theorem Uk(hh:A.handled=none)(Yz:A.depth+(k+1)<Iu)(O0:A.units+40*(k+1)<cLine)(pD:A.frames=some bY)(fL:kD B s.heap bY)(G:bI B g s.heap)(f:Wr s a fd body)
 (rD:∀q,nJ fd.scope=some q->fd.code=(B.oF q).1/\fd.qualname++".<locals>."=(B.oF q).2) (hb:iU s fd args (is.map λi=>(i.x,i.v))) (hs:∀i∈is,iH fd.scope i.x) (hv:∀i∈is,∃av,i.lv=.val av/\VR B g i.v av)
 (kW:∀(aA:bO) (cs:List (aC×aH)) (s2:aF),eI B k (A.deeper aA) {sc:=fd.scope} ⟨s,g,⟨[],[]⟩,none,0,[],aA::bY⟩ aA cs (λ_=>0) (rZ is []) g s2->aA.frame=some s.heap.objs.size->
  aK (aW B) (A.deeper aA) (execs body aA) (λfl s3=>Q (match fl with|.ret v=>v|_=>.none) s3) (λe s'=>aK (aW B) (A.deeper aA) (leaving aA e) (λ_ dF=>E e dF) (λe' dF=>E e' dF) s') s2):
 aK (aW B) A (gL (.ref a) args.pos args.kw) Q E s:=by
 obtain⟨o,ho,hd⟩:=f.obj;refine xD ?_;refine aNw (bV (aG [_,_,_] [.l (.u (.a .x (.u .y))) .z,.l .z .x] rfl Yz)) ho hd f.co f.gen f.body f.sH ?_;refine hb _ _ _ _ ?_;refine Nl λaA jJ=>?_;rw[f.iP,pB] at jJ;simp only[OL,Fj,if_false];have hL:aA.locals=s.heap.objs.size:=by rw[jJ];rfl
 have hc:aA.cells=iV (s.heap.objs.size+1) fd.scope.names []:=by rw[jJ];rfl
 have dC:aA.scope=fd.scope:=by rw[jJ];rfl
 have Bm:aA.frame=some s.heap.objs.size:=by rw[jJ];rfl
 have hk:∀x kd,(x,kd)∈fd.scope.names->aA.kindOf x=some kd:=λx kd h=>by
  unfold Fd;rw[dC];exact xK f.nd h
 have Kk:∀b o,s.heap.get? b=some o->(qA (s.heap.push {cls:=.type "frame",data:=.dict #[]}) fd.scope.names).get? b=some o:=λb o e=>Fi _ _ b o (eG _ e)
 have Qa:kD B (qA (s.heap.push {cls:=.type "frame",data:=.dict #[]}) fd.scope.names) (aA::bY):=λe he=>by
  rcases cE.mp he with rfl|he
  ·refine⟨by rw[dC,f.kind];nofun,s.heap.objs.size,_,Bm,G.uB (bH.jN _),(AU s.heap (.type "frame")).keeps (Fi _ _)⟩
  ·exact(fL.mono (.vJ Kk)) e he
 have S0:aY B ⟨s,g,⟨[],[]⟩,none,0,[],aA::bY⟩ aA (iV (s.heap.objs.size+1) fd.scope.names []) (λ_=>0) [] g {s with heap:=qA (s.heap.push {cls:=.type "frame",data:=.dict #[]}) fd.scope.names}:=by
  refine Ul (closure:=[]) G f.nd ⟨λx lv h=>by simp at h,λx c h=>by simp at h⟩ hL (by rw[pB];exact hc) (by rw[dC,f.kind]) ?_ ?_ (λx h=>hk x _ h) (λx h=>(f.zV x h).elim) (λb h=>(cO h).elim) rfl (λb h=>(cO h).elim) _ Qa (λe he L h=>?_)
  ·rw[jJ];exact f.eH
  ·rw[jJ];exact f.blt
  ·rcases cE.mp he with rfl|he
   ·cases (Bm.symm.trans h);exact .inl hL.symm
   ·obtain⟨_,L',m,h1,_,h3⟩:=fL e he
    cases (h.symm.trans h1);exact .inr (qV h3)
 have iE:∀x,iH fd.scope x->qU aA (iV (s.heap.objs.size+1) fd.scope.names []) x:=λx h=>h.imp (λq=>hk x _ (mem_of_lookup q)) λq=>Cg (mem_of_lookup q);refine Ju S0 (λi hi=>iE i.x (hs i hi)) hv λs2 S2 _=>?_;refine⟨S2.ok.le.nolimit B.nolimit,codeAny_func ?_⟩
 have P:eI B k (A.deeper aA) {sc:=fd.scope} ⟨s,g,⟨[],[]⟩,none,0,[],aA::bY⟩ aA (iV (s.heap.objs.size+1) fd.scope.names []) (λ_=>0) (rZ is []) g s2:=
  ⟨hh,by show A.depth+1+k<_;exact bV (aG [_,_,_] [.l (.u (.a .x (.u .y))) .z,.l .z (.a (.u .x) .y)] rfl Yz),by show A.units+3+40*k<_;exact bV (aG [_,_,_] [.l (.u (.a .x (.m 40 (.u .y)))) .z,.l .z (.a (.a .x (.n 3)) (.m 40 .y))] rfl O0),by show A.frames.map _=_;rw[pD];rfl,by simp,dC,λx h _=>Cg (mem_of_lookup h),rfl,λq h=>by obtain⟨h1,h2⟩:=rD q h;rw[jJ];exact⟨h1,h2⟩,S2⟩
 exact kW aA _ s2 P Bm
end
noncomputable def vQ(l:List bO):List aH:=l.filterMap (·.frame)
structure lK(all l:List bO)(h0:bH)(e:aH)(h:bH):Prop where
 S9:∃a0,bH.FlyingW (xI h0 (vQ all)) l e (.type "StopIteration") a0 h
 up:h0.UpToSlots h
section
variable {B:BD} {all l:List bO} {h0 h h':bH} {e:aH} {g:aT}
theorem lK.at(x:lK all l h0 e h)(hb:b∉vQ all)(q:h0.get? b=some o):h.get? b=some o:=by
 obtain⟨a0,f,_⟩:=x.S9;exact f b o (Nd _ q hb)
theorem aHd(hb:B.base.get? L=none)(n:h0.Ns L m)(u:h0.UpToSlots h)(q:h0.get? L=some o):pU B.base h L o:=by
 obtain⟨o1,es,ep,h1,h2,h3,h4⟩:=n;cases (q.symm.trans h1);obtain⟨sl,hs⟩:=u L o q λvs z=>by cases (h2.symm.trans z)
 exact .inr (.inl ⟨hb,_,hs,vS.slots ⟨es,ep,h2⟩ sl⟩)
theorem lK.le(x:lK all l h0 e h)(fr:kD B h0 all):Le B.base h0 h:=λb o q=>by
 by_cases hb:b∈vQ all
 ·obtain⟨ev,he,hf⟩:=Mn.mp hb
  obtain⟨_,L,m,h1,h2,h3⟩:=fr ev he;cases (h1.symm.trans hf);exact aHd h2 h3 x.up q
 ·exact .inl (x.at hb q)
theorem lK.kK(x:lK all l h0 e h)(fr:kD B h0 all):∀b∈B.kK,∀o,h0.get? b=some o->h.get? b=some o:=λb hb o q=>x.at (λhm=>by
 obtain⟨ev,he,hf⟩:=Mn.mp hm;obtain⟨_,L,m,h1,h2,h3⟩:=fr ev he;cases (h1.symm.trans hf)
 exact B.tabIn _ hb h2) q
theorem UL(fr:kD B h0 all):h0.FunFrames (xI h0 (vQ all)) all:=by
 have:∀l,(∀ev∈l,ev∈all)->h0.FunFrames (xI h0 (vQ all)) l:=by
  intro l;induction l with
  |nil=>intro _;trivial
  |cons ev l ih=>
   intro hl;obtain⟨h1,L,m,h2,h3,o,es,ep,h4,h5,_⟩:=fr ev (hl ev (.head _));refine⟨h1,⟨L,o,h2,hideAll_none _ (Mn.mpr ⟨ev,hl ev (.head _),h2⟩),h4,λvs z=>by cases (h5.symm.trans z)⟩,ih λe he=>hl e (.tail _ he)⟩
 exact this all λ_ h=>h
theorem lK.EX(fL:A.frames=some (aA::eB))(hf:aA.frame=some L)(fr:kD B h0 (aA::eB))(hx:Ji h0 s.heap e (.type "StopIteration") [])
 (hQ:∀h',lK (aA::eB) eB h0 e h'->Q () {s with heap:=h'}):aK M A (leaving aA (.ref e)) Q E s:=
 wpAny_leaves_madeW fL hf (λb o q=>BO _ q) (UL fr) hx λh' t x1 x2 x3 x4=>hQ h' ⟨⟨_,x1⟩,(aO0 hx.keeps).trans x4⟩
end
end
section
open PySem.W.KBw
structure oJ(all l:List bO)(h0:bH)(e L:aH)(h:bH):Prop where
 aQd:∃a0,bH.HeldW (xI h0 (vQ all)) l e (.type "StopIteration") a0 L h
 up:h0.UpToSlots h
section
variable {B:BD} {all l eB:List bO} {h0 h h':bH} {e L:aH} {g:aT} {M:Model} {A:bM} {s:aF} {aA:bO} {Q:Unit->aF->Prop} {E:aD->aF->Prop}
theorem oJ.made(fL:A.frames=some (aA::eB))(hf:aA.frame=some L)(fr:kD B h0 (aA::eB))(hx:Ji h0 s.heap e (.type "StopIteration") [])
 (hQ:∀h',oJ (aA::eB) (aA::eB) h0 e L h'->Q () {s with heap:=h'}):aK M A (tU (.ref e) aA) Q E s:=by
 obtain⟨t,he,htn,ht⟩:=hx.there
 have fresh:∀b,h0.get? b=none->(xI h0 (vQ (aA::eB))).get? b=none:=λb hb=>by
  cases hq:(xI h0 (vQ (aA::eB))).get? b with
  |none=>rfl
  |some o'=>have:=BO _ hq;cases (hb.symm.trans this)
 have hl:=UL fr;unfold tU;simp only[hf];refine aM (nI he rfl (x:=.none) rfl ?_);rw[if_neg (by decide)];refine wpAny_entryW fL (hl.of_keeps λb o hb _=>⟨o,hx.keeps b o hb,rfl⟩) hf he (λb o hb=>hx.keeps b o (BO _ hb)) (fresh e hx.new) rfl (by show 1<6;decide) rfl λh' hN=>?_;obtain⟨k1,k2,k3,k4⟩:=hN;exact hQ h' ⟨⟨_,k1,fresh e hx.new,k2,k3⟩,(aO0 hx.keeps).trans k4⟩
theorem lK.aJz(fL:A.frames=some (aA::eB))(hf:aA.frame=some L)(x:lK all (aA::eB) h0 e s.heap)(hQ:∀h',oJ all (aA::eB) h0 e L h'->Q () {s with heap:=h'}):aK M A (tU (.ref e) aA) Q E s:=by
 obtain⟨⟨a0,f⟩,u⟩:=x;exact wpAny_looks_onW fL hf f λh' k1 k2=>hQ h' ⟨⟨_,k1⟩,u.trans k2⟩
theorem oJ.again(hf:aA.frame=some L)(x:oJ all l h0 e L s.heap)(hQ:Q () s):aK M A (tU (.ref e) aA) Q E s:=by
 obtain⟨⟨a0,f⟩,u⟩:=x;exact wpAny_noteFrame_againW hf f.2.2.2 hQ
theorem oJ.Wj(x:oJ all l h0 e L s.heap)(hQ:∀h',lK all l h0 e h'->Q () {s with heap:=h'}):aK M A (To (.ref e) none) Q E s:=by
 obtain⟨⟨a0,f⟩,u⟩:=x;exact wpAny_landsW f λh' k1 k2=>hQ h' ⟨⟨_,k1⟩,u.trans k2⟩
theorem lK.Wj(x:lK all l h0 e s.heap)(hQ:∀h',lK all l h0 e h'->Q () {s with heap:=h'}):aK M A (To (.ref e) none) Q E s:=by
 obtain⟨⟨a0,f⟩,u⟩:=x;exact lands_againW f λh' k1 k2=>hQ h' ⟨⟨_,k1⟩,u.trans k2⟩
theorem oJ.EX(hf:aA.frame=some L)(x:oJ all (aA::eB) h0 e L s.heap)(hQ:∀h',lK all eB h0 e h'->Q () {s with heap:=h'}):aK M A (leaving aA (.ref e)) Q E s:=by
 unfold leaving;refine aM (x.again hf ?_);refine x.Wj λh' y=>hQ h' ?_;obtain⟨⟨a0,k1,k2,⟨_,_,k3⟩,k4⟩,u⟩:=y;exact⟨⟨a0,k1,k2,k3,k4⟩,u⟩
theorem oJ.Xr(hf:aA.frame=some L)(x:oJ all l h0 e L s.heap)(hQ:∀h',oJ all l h0 e L h'->E0 (.ref e) {s with heap:=h'}):Tg M A aA E0 (.ref e) s:=by
 obtain⟨⟨a0,P8,LM,hl,ht⟩,u⟩:=x;obtain⟨oe,vs,T,oT,ts,he,Ky,hd,h1,O9,Q9,hT,Za,h3⟩:=ht;have C9:=(Jf.mp h3).1;have other:∀b,b≠T->(s.heap.update T (l8 (·.setIfInBounds 3 (mI L)))).get? b=s.heap.get? b:=λb hb=>l9 _ _ (gJ hb)
 have TX:∀b o,s.heap.get? b=some o->(∀vs,o.data≠.fields vs)->b≠T:=λb o hb Rp q=>by
  rw[q,hT] at hb;injection hb with hb;subst hb;exact Rp ts Za
 unfold Tg;refine aM (nI he hd h1 ?_);rw[if_neg (by simp)];rw[hf];unfold To;refine aM (nI he hd h1 ?_);rw[if_pos (by simp)];refine Nc hT Za C9 (hQ _ ⟨⟨a0,λb o Mb=>(other b λq=>by rw[q,O9] at Mb;cases Mb).trans (P8 b o Mb),LM,hl.of_keeps λb o hb Rp=>⟨o,(other b (TX b o hb Rp)).trans hb,rfl⟩,?_⟩,u.trans λb o hb Rp=>⟨o.slots,(other b (TX b o hb Rp)).trans hb⟩⟩);exact⟨oe,vs,T,_,_,(other e (gJ Q9)).trans he,Ky,hd,h1,O9,Q9,wZ _ hT (BN (Fx Za _)),Fx Za _,by simp[C9]⟩
theorem lK.there(x:lK all l h0 e h):∃ob,h.get? e=some ob/\ob.cls=.type "StopIteration":=by obtain⟨_,f⟩:=x.S9;exact f.there
end
def BI(h:bH)(I:aH)(l:List Nat):Prop:=∃b t i,IsBytesIter h I b t i/\(b.toList.drop i).map (·.toNat)=l
theorem BI.cM(x:BI h I l):∃o,h.get? I=some o/\eD o:=by obtain⟨b,t,i,⟨o,a,c,d⟩,_⟩:=x;exact⟨o,a,jX c (by rw[d];nofun)⟩
theorem BI.same(x:BI h I l)(e:h'.get? I=h.get? I):BI h' I l:=by obtain⟨b,t,i,⟨o,a,c,d⟩,r⟩:=x;exact⟨b,t,i,⟨o,e.trans a,c,d⟩,r⟩
noncomputable abbrev lA(S:aF)(G:aT)(bY:List bO):fM:=⟨S,G,⟨[],[]⟩,none,0,[],bY⟩
noncomputable abbrev iD(S:aF)(G:aT)(bY:List bO)(I:aH)(s0:aF):fM:=⟨S,G,⟨[],[]⟩,none,0,[(⟨[I],[]⟩,s0)],bY⟩
section
variable {B:BD} {k:Nat} {F:Fn} {A:bM} {vars:aU} {S:aF} {G0:aT} {bY:List bO} {I:aH} {s0:aF} {aA:bO} {cs:List (aC×aH)} {own:aC->aH} {g g':aT} {s s':aF}
theorem aY.bi(x:aY B (iD S G0 bY I s0) aA cs own vars g s)(h:BI s0.heap I l):BI s.heap I l:=
 h.same ((x.gd.same _ (.head _)).at (.head _) h.cM)
theorem aY.Hc(x:aY B (iD S G0 bY I s0) aA cs own vars g s):g I=none:=x.gd.dM _ (.head _) I (.head _)
theorem aY.Po(x:aY B (iD S G0 bY I s0) aA cs own vars g s):B.base.get? I=none:=by
 cases q:B.base.get? I with
 |none=>rfl
 |some o=>
  obtain⟨o',r⟩:=(x.en.le I o q).there;cases (((x.gd.new _ (.head _)).1 I (.head _)).symm.trans r)
theorem aY.FY(x:aY B (iD S G0 bY I s0) aA cs own vars g s)(hk:eL B ⟨[I],[]⟩ s s')(he:fU s.heap g g')(G:bI B g' s'.heap)(hl:∃o,s'.heap.get? I=some o/\eD o):aY B (iD S G0 bY I s') aA cs own vars g' s':=by
 have gi:=x.Hc
 have li:∃o,s.heap.get? I=some o:=by
  obtain⟨o,e,_⟩:=(x.gd.live _ (.head _)).cB I (.head _);exact⟨o,e⟩
 refine aY.step (aN:=lA S G0 bY) (pY:=[]) x hk he G (.refl _ _) ⟨λb hb=>?_,λb hb=>?_⟩ (.bU hl)
 ·rw[cW.mp hb];exact he.dM gi li
 ·rw[cW.mp hb];exact x.Po
theorem aY.aKt(x:aY B (iD S G0 bY I s0) aA cs own vars g s)(hk:eL B ⟨[I],[]⟩ s s')(G:bI B g s'.heap):aY B (lA S G0 bY) aA cs own vars g s':=
 aY.drop x hk G
theorem aC5(P:eI B k A F (iD S G0 bY I s0) aA cs own vars g s)(cY:BI s0.heap I l)(bn:oN B F.sc "next" (.builtin "next"))(n:fP F.sc vars x (.val (fX 7 (.ref I))))
 (KI:∀c l',l=c::l'->∀v s' g',aY B (iD S G0 bY I s') aA cs own vars g' s'->BI s'.heap I l'->VR B g' v (.int (c:Int))->Q v s')
 (KE:l=[]->∀s1 g1 h' e,g1 I=none->aY B (lA S G0 bY) aA cs own vars g1 s1->Ji s1.heap h' e (.type "StopIteration") []->E (.ref e) {s1 with heap:=h'}):
 aK (aW B) A (eval (.Call (.Name "next" p) [.Name x xp] [] cp) aA) Q E s:=by
 refine Ni bn (.inl ⟨_,rfl⟩) rfl P.pre (aZ.c (aB.ar (aB.Gr n)) .nil rfl A aA g s cp _ E P.pre λvs s1 g1 X bF=>?_);obtain⟨v,rfl,hv⟩:=bF.bU;have e1:=VR.Be hv;subst e1;have S1:=P.st.post X;obtain⟨b,t,i,hi,hl⟩:=S1.bi cY;have P1:=P.to S1;cases hb:b[i]? with
 |some c=>
  have aKd:b.toList.drop i=c::b.toList.drop (i+1):=by
   have eV:=(Jf.mp hb).1
   have:b.toList[i]'(by simpa using eV)=c:=by
    have:=(Jf.mp hb).2;simpa using this
   rw[<-this];exact Z9 _
  refine aAg hi hb λh' eV hs=>?_;have G':=S1.ok.Ox hs (λz hz=>by rw[cW.mp hz];exact S1.Hc) (λz hz=>by rw[cW.mp hz];exact S1.Po);have U4:BI h' I ((b.toList.drop (i+1)).map (·.toNat)):=⟨b,t,i+1,eV,rfl⟩
  refine KI c.toNat _ ?_ _ _ g1 (S1.FY (.of λz o hz e=>(hs.2 z (by simpa using hz)).trans e) (.refl _ _) G' U4.cM) U4 (.int _ _);rw[<-hl,aKd];rfl
 |none=>
  have aLr:b.toList.drop i=[]:=by
   have:b.size<=i:=by simpa using hb
   exact Iz (by simpa using this)
  refine aAp P1.handled hi hb λh1 h' e hs _ hm=>?_;have G':=S1.ok.Ox hs (λz hz=>by rw[cW.mp hz];exact S1.Hc) (λz hz=>by rw[cW.mp hz];exact S1.Po);exact KE (by rw[<-hl,aLr];rfl) {s1 with heap:=h1} g1 h' e S1.Hc (S1.aKt ((eL.of λz o hz e=>(hs.2 z (by simpa using hz)).trans e)) G') hm
end
end
section
open PySem.W.KBw
inductive VL:List Nat->Int->Int->Option (Int×List Nat)->Prop
 |done {l:List Nat} {b v:Int}:jC b 64=0->VL l b v (some (v,l))
 |stop {b v:Int}:jC b 64≠0->v.natAbs<2^64->VL [] b v none
 |more {c:Nat} {l:List Nat} {b v:Int} {r:Option (Int×List Nat)}:jC b 64≠0->v.natAbs<2^64->VL l (c:Int) (Ex (v*2^6) (jC (c:Int) 63)) r->VL (c::l) b v r
inductive VI:List Nat->Option (Int×List Nat)->Prop
 |nil:VI [] none
 |cons {c:Nat} {l:List Nat} {r:Option (Int×List Nat)}:VL l (c:Int) (jC (c:Int) 63) r->VI (c::l) r
theorem VI.aHe(h:VI [] r):r=none:=by cases h;rfl
theorem VI.aF9(h:VI (c::l) r):VL l (c:Int) (jC (c:Int) 63) r:=by cases h;assumption
theorem VL.bB(h:VL l b v r):(jC b 64=0/\r=some (v,l))\/(jC b 64≠0/\v.natAbs<2^64/\((l=[]/\r=none)\/
 ∃c l2,l=c::l2/\VL l2 ((c:Nat):Int) (Ex (v*2^6) (jC (c:Int) 63)) r)):=by
 cases h with
 |done h=>exact .inl ⟨h,rfl⟩
 |stop h h1=>exact .inr ⟨h,h1,.inl ⟨rfl,rfl⟩⟩
 |more h h1 h2=>exact .inr ⟨h,h1,.inr ⟨_,_,rfl,h2⟩⟩
variable {L:aH}
section
variable {B:BD} {k:Nat} {F:Fn} {A:bM} {sc:bR} {vars:aU} {S:aF} {G0:aT} {bY:List bO} {I:aH} {s0:aF} {aA:bO} {cs:List (aC×aH)} {own:aC->aH} {g g':aT} {s s':aF}
theorem lQ.aK6(h:a.natAbs<2^64):lQ B k .LShift (.val (.int a)) (.val (.int 6)) (.int (a*2^6)):=by
 intro A g s v w Q E _ G hv hw K;obtain⟨_,rfl⟩:=VR.bB hv;obtain⟨_,rfl⟩:=VR.bB hw
 with_reducible exact ilshift_int_small (by decide) (by decide) h (K _ _ _ (.toks G) (.int _ _))
theorem lQ.bor:lQ B k .BitOr (.val (.int a)) (.val (.int b)) (.int (Ex a b)):=by
 intro A g s v w Q E _ G hv hw K;obtain⟨_,rfl⟩:=VR.bB hv;obtain⟨_,rfl⟩:=VR.bB hw
 with_reducible exact ior_int (K _ _ _ (.toks G) (.int _ _))
theorem CI(P:eI B k A F (iD S G0 bY I s0) aA cs own vars g s)(cY:BI s0.heap I l)(bn:oN B F.sc "next" (.builtin "next"))(n:fP F.sc vars y (.val (fX 7 (.ref I))))(hx:lT F x)
 (KI:∀c l',l=c::l'->∀s2 s' g',eI B k A F (iD S G0 bY I s2) aA cs own (cT x (.val (.int (c:Int))) vars) g' s'->BI s2.heap I l'->Q .next s')
 (KE:l=[]->∀s1 g1 h' e,g1 I=none->aY B (lA S G0 bY) aA cs own vars g1 s1->Ji s1.heap h' e (.type "StopIteration") []->E (.ref e) {s1 with heap:=h'}):
 aK (aW B) A (exec (.Assign [.Name x xp] (.Call (.Name "next" p) [.Name y yp] [] cp) ap) aA) Q E s:=by
 refine zE (aC5 P cY bn n (λc l' hl v s2 g2 S2 b2 hv=>?_) KE) rfl;have P2:eI B k A F (iD S G0 bY I s2) aA cs own vars g2 s2:=⟨P.handled,P.depth,P.units,P.frames,P.mT,P.scope,P.cells,P.cQ,P.code,S2⟩
 exact zL S2 (P2.iE hx) hv λs3 S3=>KI c l' hl s2 s3 g2 (P2.to S3) b2
noncomputable def vV(I:aH)(b v:Int):aU:=[("iterator",.val (fX 7 (.ref I))),("b",.val (.int b)),("val",.val (.int v))]
def aMp(B:BD)(S:aF)(G0:aT)(bY:List bO)(I:aH)(aA:bO)(cs:List (aC×aH))(Q:zD->aF->Prop)(E:aD->aF->Prop)(r:Option (Int×List Nat)):Prop:=
 (∀n l,r=some (n,l)->∀v own s0 g s,aY B (iD S G0 bY I s0) aA cs own [] g s->BI s0.heap I l->VR B g v (.int n)->Q (.ret v) s)/\
 (r=none->∀own g1 s1 h' e,g1 I=none->aY B (lA S G0 bY) aA cs own [] g1 s1->(Ji s1.heap h' e (.type "StopIteration") []\/∃L,aA.frame=some L/\oJ bY bY s1.heap e L h')->E (.ref e) {s1 with heap:=h'})
theorem aA0(bl:eZ B)(hr:VI l r)(P:eI B k A {sc:=bQ 5} (iD S G0 bY I s0) aA cs own [("iterator",.val (fX 7 (.ref I)))] g s)(cY:BI s0.heap I l)(pD:bY=aA::eB)(hL:aA.frame=some L)
 (K:aMp B S G0 bY I aA cs Q E r):aK (aW B) A (execs (cH 5) aA) Q E s:=by
 conv in (cH 5)=>whnf
 have bn:oN B (bQ 5) "next" (.builtin "next"):=by walk_at"w"
 obtain⟨KQ,KE⟩:=K;refine lN (CI P cY bn (by walk_at"w") (by walk_at"w") (λc l' hl s2 s' g' P2 b2=>?_) λhl s1 g1 h' e gi S1 hm=>?_)
 ·have hv:=(hl▸hr:VI (c::l') r).aF9
  have pW:aP B k {sc:=bQ 5} (cT "b" (.val (.int (c:Int))) [("iterator",.val (fX 7 (.ref I)))]) (.Assign [.Name "val" ⟨72,4,72,7⟩] (.BinOp (.Name "b" ⟨72,10,72,11⟩) .BitAnd (.Constant (.int 63) 0 ⟨72,14,72,16⟩) ⟨72,10,72,16⟩) ⟨72,4,72,16⟩) (.cF (cT "val" (.val (.int (jC (c:Int) 63))) (cT "b" (.val (.int (c:Int))) [("iterator",.val (fX 7 (.ref I)))]))):=by
   walk_at"w"
  refine lN (pW.nx P2 λB7 g3 s3 S3=>?_);have P3:=P2.to S3;refine lN ?_;refine Z4 ?_;refine Z5 (λn s=>n=0/\False\/∃l b v own s0 g,l.length<n/\VL l b v r/\eI B k A {sc:=bQ 5} (iD S G0 bY I s0) aA cs own (vV I b v) g s/\BI s0.heap I l) (λn aS hI=>?_) (l'.length+1) (.inr ⟨l',_,_,B7,s2,g3,rO _,hv,P3,b2⟩);refine abs λQ1 E1 Zg R6=>?_;rcases hI with ⟨_,hF⟩|⟨l,b,v,own,s0,g,hn,hv,P,b0⟩
  ·exact hF.elim
  have ht:bA B k (bQ 5) (vV I b v) (.BinOp (.Name "b" ⟨73,10,73,11⟩) .BitAnd (.Constant (.int 64) 0 ⟨73,14,73,16⟩) ⟨73,10,73,16⟩) (!(jC b 64==0)):=by
   unfold vV;exact bA.val (aB.ar (aB.dB (by walk_at"w") (aB.ar aB.cC) cA.band)) lR.int (by intro _ _;rfl)
  refine ht A aA g aS _ _ P.pre λs4 g4 X=>Zg _ _ ?_;have P4:=P.to (P.st.post X);clear X P ht Zg R6;rcases hv.bB with ⟨h0,KV⟩|⟨h0,h1,hv⟩
  ·rw[h0]
   refine Td ?_;have hrt:aP B k {sc:=bQ 5} (vV I b v) (.Return (some (.Name "val" ⟨77,11,77,14⟩)) ⟨77,4,77,14⟩) (.ret (vV I b v) (.int v)):=aP.ret (by walk_at"w");refine lN (hrt A _ aA cs _ _ _ _ _ P4 λf s5 O=>?_);obtain⟨u,HH,g5,rfl,hu,S5⟩:=O;exact KQ v l KV u HH s0 g5 s5 (S5.sub (.of rfl)) b0 hu
  ·have hb1:(!(jC b 64==0))=true:=by simp[h0]
   rw[hb1,if_pos rfl];refine abs λQ' E' hQ hE=>?_
   have a1:aP B k {sc:=bQ 5} (vV I b v) (.AugAssign (.Name "val" ⟨74,8,74,11⟩) .LShift (.Constant (.int 6) 0 ⟨74,16,74,17⟩) ⟨74,8,74,17⟩) (.cF (cT "val" (.val (.int (v*2^6))) (vV I b v))):=
    aP.Bt (by walk_at"w") (aB.ar aB.cC) (lQ.aK6 h1) (by walk_at"w")
   refine lN (a1.nx P4 λHH g5 s5 S5=>?_);have P5:=P4.to S5;rcases hv with ⟨rfl,KV⟩|⟨c2,l2,rfl,Bj⟩
   ·refine lN (CI P5 b0 bn (by walk_at"w") (by walk_at"w") (λc l' hl=>nomatch hl) λ_ s1 g1 h' e gi S1 hm=>?_)
    have fL:A.frames=some (aA::eB):=by rw[<-pD];exact P4.frames
    have LJ:kD B s1.heap (aA::eB):=by rw[<-pD];exact S1.fr
    refine hE _ _ ?_;refine oJ.made fL hL LJ hm λh2 hd=>?_;refine oJ.Xr hL hd λh3 hd=>?_;exact KE KV HH g1 s1 h3 e gi (S1.sub (.of rfl)) (.inr ⟨L,hL,by rw[pD];exact hd⟩)
   ·refine lN (CI P5 b0 bn (by walk_at"w") (by walk_at"w") (λc l' hl s6 s7 g7 P7 b7=>?_) λhl=>nomatch hl)
    cases hl;have V1:=P7
    have a3:aP B k {sc:=bQ 5} (vV I (c2:Int) (v*2^6)) (.AugAssign (.Name "val" ⟨76,8,76,11⟩) .BitOr (.BinOp (.Name "b" ⟨76,15,76,16⟩) .BitAnd (.Constant (.int 63) 0 ⟨76,19,76,21⟩) ⟨76,15,76,21⟩) ⟨76,8,76,21⟩) (.cF (cT "val" (.val (.int (Ex (v*2^6) (jC (c2:Int) 63)))) (vV I (c2:Int) (v*2^6)))):=
     aP.Bt (by walk_at"w") (aB.ar (aB.dB (by walk_at"w") (aB.ar aB.cC) cA.band)) lQ.bor (by walk_at"w")
    refine lN (a3.nx V1 λaLb g8 s8 S8=>?_);refine Td (hQ _ _ ⟨n-1,by simp only[pL] at hn;exact Ra (bC (aV (aG [_,_] [.l (.u (.u .x)) .y,.l (.u .y) .i] rfl hn))),.inr ⟨_,_,_,aLb,s6,g8,by simp only[pL] at hn;exact bV (aG [_,_,_] [.l (.u (.u .x)) .y,.f (.u .z) .y,.l .z .x] rfl hn (bC (aV (aG [_,_] [.l (.u (.u .x)) .y,.l (.u .y) .i] rfl hn)))),Bj,V1.to S8,b7⟩⟩)
 ·exact KE (hl▸hr:VI [] r).aHe own g1 s1 h' e gi (S1.sub (.of rfl)) (.inl hm)
theorem aY.aX(x:aY B (lA s g bY) aA cs own vars g' s2)(hI:B.base.get? I=none)(hf:∀L∈vQ bY,L≠I\/L=aA.locals):aY B (lA {s with heap:=xI s.heap [I]} g bY) aA cs own vars g' s2:=by
 have hn:∀b,s.heap.get? b=none->(xI s.heap [I]).get? b=none:=λb e=>by
  cases q:(xI s.heap [I]).get? b with
  |none=>rfl
  |some o=>cases ((BO _ q).symm.trans e)
 exact {
  en:=⟨λb o e=>by
   have hb:b≠I:=λq=>by rw[q,hI] at e;cases e
   have hm:b∉[I]:=by simpa using hb
   rcases x.en.le b o e with q|⟨q1,o',q2,q3⟩|⟨vs,more,q1,q2,q3⟩
   ·exact .inl (Nd _ q hm)
   ·exact .inr (.inl ⟨q1,o',Nd _ q2 hm,q3⟩)
   ·exact .inr (.inr ⟨vs,more,q1,q2,Nd _ q3 hm⟩),λb h=>(cO h).elim,rfl,λb h=>(cO h).elim,λb h=>(cO h).elim⟩
  kd:=x.kd
  keep:=⟨λb o hb e=>x.keep.le b o hb (BO _ e),x.keep.keep,x.keep.bare,x.keep.os⟩
  ext:=⟨x.ext.sub,λb o e=>(x.ext.new b o e).imp id (hn b)⟩
  ok:=x.ok,kind:=x.kind,eH:=x.eH,blt:=x.blt,dX:=x.dX,gH:=x.gH,iG:=x.iG
  dU:=⟨x.dU.1,hn _ x.dU.2⟩
  eE:=λy c h=>⟨(x.eE y c h).1,hn _ (x.eE y c h).2⟩
  kL:=x.kL
  gF:=λy xs h=>⟨(x.gF y xs h).1,(x.gF y xs h).2.1.imp (hn _) id,(x.gF y xs h).2.2⟩
  jI:=x.jI,cQ:=x.cQ
  gd:=⟨λp h=>(cO h).elim,λp h=>(cO h).elim,λp h=>(cO h).elim,λp h=>(cO h).elim,λp h=>(cO h).elim,λp h=>(cO h).elim,λp h=>(cO h).elim,AS⟩
  iL:=x.iL,fr:=x.fr
  lJ:=λe he L h=>by
   rcases x.lJ e he L h with q|⟨o,q⟩
   ·exact .inl q
   ·rcases hf L (Mn.mpr ⟨e,he,h⟩) with r|r
    ·exact .inr ⟨o,Nd _ q (by simpa using r)⟩
    ·exact .inl r}
theorem aY.EZ(x:aY B (lA S G0 bY) aA cs own vars g s)(hh:∃o,s.heap.get? I=some o/\eD o)(hS:S.heap.get? I=none)(gi:g I=none)(hL:aA.locals≠I)(hC:∀y c,aA.cells.lookup y=some c->c≠I)(hO:∀y ys,vars.lookup y=some (.own ys)->own y≠I):aY B (iD S G0 bY I s) aA cs own vars g s where
 en:=⟨x.en.le,x.en.rA,x.en.sC,x.en.qD,x.en.fI⟩
 kd:=x.kd
 keep:=x.keep
 ext:=x.ext
 ok:=x.ok
 kind:=x.kind
 eH:=x.eH
 blt:=x.blt
 dX:=x.dX
 gH:=x.gH
 iG:=x.iG
 dU:=x.dU
 eE:=x.eE
 kL:=x.kL
 gF:=λy ys h=>⟨(x.gF y ys h).1,(x.gF y ys h).2.1,λp hp=>by rw[cW.mp hp];intro q;exact hO y ys h (cW.mp q)⟩
 jI:=x.jI
 cQ:=x.cQ
 gd:={
  same:=λp hp=>by rw[cW.mp hp];exact .refl _ _
  live:=λp hp=>by rw[cW.mp hp];exact .bU hh
  nY:=λp hp=>by rw[cW.mp hp];exact .bU hh
  dM:=λp hp b hb=>by rw[cW.mp hp] at hb;rw[cW.mp hb];exact gi
  new:=λp hp=>by
   rw[cW.mp hp];exact⟨λb hb=>by rw[cW.mp hb];exact hS,λi hi=>(cO hi).elim⟩
  dU:=λp hp=>by rw[cW.mp hp];intro q;exact hL (cW.mp q)
  eE:=λp hp y c h=>by rw[cW.mp hp];intro q;exact hC y c h (cW.mp q)
  oL:=aNv _ _}
 iL:=x.iL
 fr:=x.fr
 lJ:=x.lJ
def Dx(B:BD):Prop:=∃fd a,kI B "_parse_varint" fd (cH 5) a/\fd.scope=bQ 5/\∀s v,iU s fd ⟨[v],[]⟩ [("iterator",v)]
theorem aAz(bl:eZ B)(fo:kI B "_parse_varint" fd (cH 5) a)(dC:fd.scope=bQ 5)(hb:∀s v,iU s fd ⟨[v],[]⟩ [("iterator",v)])(hr:VI l r)(R:dS B (k+1) A s.heap)(G:bI B g s.heap)(cY:BI s.heap I l)(gi:g I=none)(bi:B.base.get? I=none)
 (KQ:∀n l',r=some (n,l')->∀v s' g',eL B ⟨[I],[]⟩ s s'->fU s.heap g g'->bI B g' s'.heap->BI s'.heap I l'->VR B g' v (.int n)->Q v s')
 (KE:r=none->∀s1 g' e all bY h',eL B ⟨[I],[]⟩ s s1->fU s.heap g g'->bI B g' s1.heap->A.frames=some bY->lK all bY s1.heap e h'->kD B s1.heap all->E (.ref e) {s1 with heap:=h'}):aK (aW B) A (gL (.ref a) [.ref I]) Q E s:=by
 obtain⟨ev,eB,pD,fL⟩:=R.frames
 have hfI:∀L∈vQ (ev::eB),L≠I:=λL hL q=>by
  obtain⟨e,he,hf⟩:=Mn.mp hL;obtain⟨_,L',m,h1,h2,o,es,ep,h3,h4,_⟩:=fL e he;cases (h1.symm.trans hf);subst q;obtain⟨b,t,i,⟨o',x1,x2,x3⟩,_⟩:=cY;cases (h3.symm.trans x1);cases (h4.symm.trans x3)
 refine Uk (is:=[⟨"iterator",.ref I,0,.val (fX 7 (.ref I))⟩]) R.handled R.depth (by have:=R.units;omega) pD fL G (fo.at G) fo.nP (hb _ _) (λi hi=>by rw[cW.mp hi,dC];exact xQ rfl) (λi hi=>by rw[cW.mp hi];exact⟨_,rfl,VR.Ba⟩) λaA cs s2 P hL=>?_
 have hLo:aA.locals≠I:=λq=>by
  obtain⟨o,x1,_⟩:=cY.cM;have:=P.st.dU.2;rw[q,x1] at this;cases this
 have iF:s.heap.objs.size≠I:=λq=>by
  obtain⟨o,x1,_⟩:=cY.cM;exact absurd (gS x1) (by rw[q];exact sR _)
 have S1:=P.st.aX bi λL Ij=>.inl (by
  unfold vQ at Ij;rw[Ti,hL] at Ij;rcases cE.mp Ij with rfl|h
  ·exact iF
  ·exact hfI L h)
 have hI2:=cY.cM
 have MU:BI s2.heap I l:=cY.same (by
  obtain⟨o,x1,x2⟩:=hI2
  rw[x1];exact P.st.keep.le.cM cO x1 x2)
 have S2:=S1.EZ MU.cM (hideAll_none _ (.head _)) gi hLo (λy c hc q=>by
  obtain⟨v,o,x1,x2⟩:=P.st.iL y c hc;obtain⟨b,t,i,⟨o',y1,y2,y3⟩,_⟩:=MU
  rw[q,y1] at x1;cases x1;cases (x2.symm.trans y3)) λy ys h=>by
   replace h:τ y [("iterator",LV.val (fX 7 (.ref I)))]=_:=h;rw[mJ] at h
   split at h<;>cases h
 have P2:eI B k (A.deeper aA) {sc:=bQ 5} (iD {s with heap:=xI s.heap [I]} g (aA::ev::eB) I s2) aA cs (λ_=>0) [("iterator",.val (fX 7 (.ref I)))] g s2:=
  ⟨P.handled,P.depth,P.units,P.frames,P.mT,by rw[<-dC];exact P.scope,by rw[<-dC];exact P.cells,rfl,by rw[<-dC];exact P.code,S2⟩
 have XC:∀{s5:aF},eL B ⟨[],[]⟩ {s with heap:=xI s.heap [I]} s5->eL B ⟨[I],[]⟩ s s5:=λx=>⟨λb o hb e=>x.le b o cO (Nd _ e hb),x.keep,x.bare,x.os⟩
 have YV:∀{g5:aT},g5 I=none->fU (xI s.heap [I]) g g5->fU s.heap g g5:=λg5I x=>⟨x.sub,λb o e=>(x.new b o e).imp id λq=>by
  cases q2:s.heap.get? b with
  |none=>rfl
  |some o2=>
   have hb:b≠I:=λq3=>by rw[q3,g5I] at e;cases e
   cases ((Nd _ q2 (by simpa using hb)).symm.trans q)⟩
 refine aA0 bl hr P2 MU rfl hL ⟨λn l' tH v own s0 g5 s5 S5 b5 hv=>?_,λtH own g1 s1 h' e g1I Sp hx=>?_⟩
 ·exact KQ n l' tH v s5 g5 (XC S5.keep) (YV S5.Hc S5.ext) S5.ok (S5.bi b5) hv
 ·have mD:∀h2,lK (aA::ev::eB) (ev::eB) s1.heap e h2->E (.ref e) {s1 with heap:=h2}:=λh2 fl=>by
   exact KE tH s1 g1 e _ _ h2 (XC Sp.keep) (YV g1I Sp.ext) Sp.ok pD fl Sp.fr
  have aL0:=P.frames;rcases hx with hm|⟨L,Ij,hd⟩
  ·exact lK.EX aL0 hL Sp.fr hm mD
  ·cases (hL.symm.trans Ij)
   exact oJ.EX hL hd mD
end
end
section
open PySem.W.KBw
section
variable {B:BD} {K:fB} {k:Nat} {F:Fn} {A:bM} {sc:bR} {vars:aU} {S:aF} {G0:aT} {bY:List bO} {I:aH} {s0:aF} {aA:bO} {cs:List (aC×aH)} {own:aC->aH} {g g':aT} {s s':aF}
theorem aB.aH0(bl:eZ B)(F:oW B K)(M:Aw B K)(nf:Hl B)(hm:B.mg "_ExceptionTableEntry"=some (.ref 154))(Gs:Ta K (.ref 154)=true)(hk:sc.names.lookup ("_ExceptionTableEntry":aC)=some .globalImplicit)(hn:eR (e::es)=true)
 (ha:aZ B (k+4) sc vars (e::es) [.val (.int i),.val (.int j),.val (.int l),.val (.int m),.val (.bool b)]):aB B (k+4) sc vars (.Call (.Name "_ExceptionTableEntry" p) (e::es) [] pos) (.kO i j l m b):=by
 intro A aA g s Q E P KK;refine zC (Cj hk hm rfl P ?_);refine callWith_K F.JX Gs ?_ (pM hn) ?_
 ·refine ha A aA g s pos _ E P λvs s1 g1 X bF=>⟨F.at X.ok,?_⟩
  rw[Fl];exact cJ.aHy bl F M nf A g1 s1 vs Q E (P.room.mono X.keep.le) X.ok bF λv s2 g2 Y hv=>KK v s2 g2 (X.trans Y) hv
 ·exact Ub (Ua (vI hn))
theorem aY.aJd(x:aY B (iD S G0 bY I s0) aA cs own vars g s)(hk:eL B ⟨[I],[]⟩ s s')(he:fU s.heap g g')(G:bI B g' s'.heap):aY B (lA S G0 bY) aA cs own vars g' s':=
 aY.FR (aN:=lA S G0 bY) x (.head _) hk he G (λp hp=>(cO hp).elim)
  ⟨λp h=>(cO h).elim,λp h=>(cO h).elim,λp h=>(cO h).elim,λp h=>(cO h).elim,λp h=>(cO h).elim,λp h=>(cO h).elim,λp h=>(cO h).elim,AS⟩
theorem QY(bl:eZ B)(vf:Dx B)(P:eI B (k+1) A F (iD S G0 bY I s0) aA cs own vars g s)(hr:VI l r)(cY:BI s0.heap I l)(hk:F.sc.names.lookup ("_parse_varint":aC)=some .globalImplicit)(n:fP F.sc vars x (.val (fX 7 (.ref I))))
 (KI:∀n l',r=some (n,l')->∀v s' g',aY B (iD S G0 bY I s') aA cs own vars g' s'->BI s'.heap I l'->VR B g' v (.int n)->Q v s')
 (KE:r=none->∀s1 g' e all h',aY B (lA S G0 bY) aA cs own vars g' s1->lK all bY s1.heap e h'->kD B s1.heap all->E (.ref e) {s1 with heap:=h'}):
 aK (aW B) A (eval (.Call (.Name "_parse_varint" p) [.Name x xp] [] cp) aA) Q E s:=by
 obtain⟨fd,a,fo,dC,hb⟩:=vf;refine zC (Cj hk fo.nm rfl P.pre ?_);refine Nx P.pre (fo.IG P.st.ok) rfl (aZ.c (aB.ar (aB.Gr n)) .nil rfl) .nil λvs us s1 g1 X bF oY=>?_;cases oY;obtain⟨v,rfl,hv⟩:=bF.bU;have e1:=VR.Be hv;subst e1;have S1:=P.st.post X;have P1:=P.to S1;refine aAz bl fo dC hb hr P1.room S1.ok (S1.bi cY) S1.Hc S1.Po (λn l' tH v s2 g2 k2 e2 G2 b2 Bj=>?_) λtH s2 g2 e all aL9 h' k2 e2 G2 hf fl fr=>?_
 ·exact KI n l' tH v s2 g2 (S1.FY k2 e2 G2 b2.cM) b2 Bj
 ·have:aL9=bY:=by
   have h1:=P.frames;cases (h1.symm.trans hf);rfl
  subst this;exact KE tH s2 g2 e all h' (S1.aJd k2 e2 G2) fl fr
theorem cJ.aKx:cJ B k (.type "bool") [.val (.int a)] (.bool (a !=0)):=by
 intro A g s vs Q E R G bF K;obtain⟨v,rfl,hv⟩:=bF.bU;obtain⟨t,rfl⟩:=VR.lW hv;exact PySem.call_bool_int (K _ _ _ (.refl G) (.bool _))
noncomputable abbrev V0(B:BD)(S:aF)(G0:aT)(bY:List bO)(aA:bO)(cs:List (aC×aH))(own:aC->aH)(vars:aU)(E:aD->aF->Prop)(r:Option (Int×List Nat)):Prop:=
 r=none->∀s1 g' e all h',aY B (lA S G0 bY) aA cs own vars g' s1->lK all bY s1.heap e h'->kD B s1.heap all->E (.ref e) {s1 with heap:=h'}
theorem CF(bl:eZ B)(vf:Dx B)(P:eI B (k+1) A F (iD S G0 bY I s0) aA cs own vars g s)(hr:VI l r)(cY:BI s0.heap I l)(hk:F.sc.names.lookup ("_parse_varint":aC)=some .globalImplicit)(n:fP F.sc vars y (.val (fX 7 (.ref I))))(hx:lT F x)
 (wI:∀aA,vE (.BinOp (.Call (.Name "_parse_varint" p) [.Name y yp] [] cp) .Mult (.Constant (.int 2) 0 p2) bp) (some (.Name x xp)) ap.line aA=pure false)
 (KI:∀n l',r=some (n,l')->∀s2 s' g',eI B (k+1) A F (iD S G0 bY I s2) aA cs own (cT x (.val (.int (n*2))) vars) g' s'->BI s2.heap I l'->Q .next s') (KE:V0 B S G0 bY aA cs own vars E r):
 aK (aW B) A (exec (.Assign [.Name x xp] (.BinOp (.Call (.Name "_parse_varint" p) [.Name y yp] [] cp) .Mult (.Constant (.int 2) 0 p2) bp) ap) aA) Q E s:=by
 refine zE (NQ (QY bl vf P hr cY hk n (λm l' tH v s2 g2 S2 b2 hv=>?_) KE)) (wI aA);have P2:eI B (k+1) A F (iD S G0 bY I s2) aA cs own vars g2 s2:=⟨P.handled,P.depth,P.units,P.frames,P.mT,P.scope,P.cells,P.cQ,P.code,S2⟩
 refine aB.cC A aA g2 s2 _ E P2.pre λw s3 g3 Y hw=>?_;refine cA.mul (IntMulOk.of_right (by decide)) A g3 s3 v w _ E (P2.room.mono Y.keep.le) Y.ok (VR.mono Y.ext.sub hv) hw λu s4 g4 Z hu=>?_;exact zL ((S2.post Y).post Z) (P2.iE hx) hu λs5 S5=>KI m l' tH s2 s5 g4 (P2.to S5) b2
theorem aD9(bl:eZ B)(vf:Dx B)(P:eI B (k+1) A F (iD S G0 bY I s0) aA cs own vars g s)(hr:VI l r)(cY:BI s0.heap I l)(hk:F.sc.names.lookup ("_parse_varint":aC)=some .globalImplicit)(n:fP F.sc vars y (.val (fX 7 (.ref I))))(hx:lT F x)
 (wI:∀aA,vE (.Call (.Name "_parse_varint" p) [.Name y yp] [] cp) (some (.Name x xp)) ap.line aA=pure false)
 (KI:∀n l',r=some (n,l')->∀s2 s' g',eI B (k+1) A F (iD S G0 bY I s2) aA cs own (cT x (.val (.int n)) vars) g' s'->BI s2.heap I l'->Q .next s') (KE:V0 B S G0 bY aA cs own vars E r):
 aK (aW B) A (exec (.Assign [.Name x xp] (.Call (.Name "_parse_varint" p) [.Name y yp] [] cp) ap) aA) Q E s:=by
 refine zE (QY bl vf P hr cY hk n (λm l' tH v s2 g2 S2 b2 hv=>?_) KE) (wI aA);have P2:eI B (k+1) A F (iD S G0 bY I s2) aA cs own vars g2 s2:=⟨P.handled,P.depth,P.units,P.frames,P.mT,P.scope,P.cells,P.cQ,P.code,S2⟩
 exact zL S2 (P2.iE hx) hv λs5 S5=>KI m l' tH s2 s5 g2 (P2.to S5) b2
end
end
section
open PySem.W.KBw
noncomputable def gV(e:Int×Int×Int×Int×Bool):AV:=.kO e.1 e.2.1 e.2.2.1 e.2.2.2.1 e.2.2.2.2
noncomputable def Ki(a b c d:Int):Int×Int×Int×Int×Bool:=(a*2,a*2+b*2,c*2,d.fdiv 2,jC d 1 !=0)
inductive TB:List Nat->List (Int×Int×Int×Int×Bool)->Prop
 |FQ {l:List Nat}:VI l none->TB l []
 |YZ {l l1:List Nat} {a:Int}:VI l (some (a,l1))->VI l1 none->TB l []
 |aJq {l l1 l2:List Nat} {a b:Int}:VI l (some (a,l1))->VI l1 (some (b,l2))->VI l2 none->TB l []
 |FP {l l1 l2 l3:List Nat} {a b c:Int}:VI l (some (a,l1))->VI l1 (some (b,l2))->VI l2 (some (c,l3))->VI l3 none->TB l []
 |more {l l1 l2 l3 l4:List Nat} {a b c d:Int} {es:List (Int×Int×Int×Int×Bool)}:VI l (some (a,l1))->VI l1 (some (b,l2))->VI l2 (some (c,l3))->VI l3 (some (d,l4))->TB l4 es->TB l (Ki a b c d::es)
variable {L:aH}
section
variable {B:BD} {K:fB} {k:Nat} {F:Fn} {A:bM} {sc:bR} {vars:aU} {S:aF} {G0:aT} {bY all:List bO} {I:aH} {s0:aF} {aA:bO} {cs:List (aC×aH)} {own:aC->aH} {g g':aT} {s s':aF}
theorem aCt:AB ("StopIteration":aC)=some (.type "StopIteration"):=by first|boot_by_name|boot_fast
theorem aA1(bl:eZ B)(hL:aA.frame=some L)(S1:aY B (lA S G0 bY) aA cs own vars g s1)(hd:oJ all bY s1.heap e L h')(fr:kD B s1.heap all)
 (kn:aA.kindOf "StopIteration"=some .globalImplicit) (ke:aA.kindOf "entries"=some .local) (hv:vars.lookup ("entries":aC)=some (LV.own xs))
 (KQ:∀v cS g' s',aY B (lA S G0 bY) aA cs cS [] g' s'->VR B g' v (.aO xs)->Q (.ret v) s'):
 aK (aW B) A (tU (.ref e) aA) (λ_ bN=>aK (aW B) A (To (.ref e) none) (λ_ gO=>
  aK (aW B) A (handleBy (.ref e) aA [.ExceptHandler (some (.Name "StopIteration" np)) none [.Return (some (.Name "entries" ep)) rp] pos]) Q E gO) E bN) E {s1 with heap:=h'}:=by
 refine oJ.again (s:={s1 with heap:=h'}) hL hd ?_;refine oJ.Wj (s:={s1 with heap:=h'}) hd λh2 fl=>?_;have T2:aY B (lA S G0 bY) aA cs own vars g {s1 with heap:=h2}:=S1.post (.of S1.ok ⟨fl.le fr,.refl _,rfl⟩ (fl.kK fr));refine wpAny_handleBy_builtin (X:="StopIteration") (T:="StopIteration") (b:=true) (by rw[Jm];kernel_rfl) (by rw[Jm];kernel_rfl) (by rw[Jm];kernel_rfl) ?_;refine NP T2.kind kn ?_ rfl;refine X4 (by rw[T2.eH];exact T2.ok.le.ns B.ns) (bl.vY _ (by decide)) (by rw[T2.blt];exact T2.ok.le.ns B.bi) ((B.bt _ (by decide)).trans aCt) ?_;refine⟨rfl,fl.there,?_⟩;rw[if_pos rfl];refine lK.Wj fl λh3 T1=>?_;have T3:aY B (lA S G0 bY) aA cs own vars g {s1 with heap:=h3}:=S1.post (.of S1.ok ⟨T1.le fr,.refl _,rfl⟩ (T1.kK fr));obtain⟨g4,T4,_⟩:=T3.jF hv nofun;refine lN (wpAny_Return_some ?_);refine NO ?_ rfl;obtain⟨m,n',r'⟩:=T4.dX;obtain⟨v,h1,h2⟩:=r' "entries" (.val (.aO xs)) (by rw[jW,if_pos rfl]) ke;exact NN T4.kind ke n' h1 (KQ v _ g4 _ (T4.sub (.nil _)) h2)
theorem Ui(bl:eZ B)(hA:A.frames=some (aA::eB))(hL:aA.frame=some L)(S1:aY B (lA S G0 (aA::eB)) aA cs own vars g s1)(fl:lK all (aA::eB) s1.heap e h')(fr:kD B s1.heap all)
 (kn:aA.kindOf "StopIteration"=some .globalImplicit) (ke:aA.kindOf "entries"=some .local) (hv:vars.lookup ("entries":aC)=some (LV.own xs))
 (KQ:∀v cS g' s',aY B (lA S G0 (aA::eB)) aA cs cS [] g' s'->VR B g' v (.aO xs)->Q (.ret v) s'):
 notedBy (aW B) A aA (λe s'=>Tg (aW B) A aA (λe aS=>aK (aW B) A (tU e aA) (λ_ bN=>aK (aW B) A (To e none) (λ_ gO=>
  aK (aW B) A (handleBy e aA [.ExceptHandler (some (.Name "StopIteration" np)) none [.Return (some (.Name "entries" ep)) rp] pos]) Q E gO) E bN) E aS) e s') (.ref e) {s1 with heap:=h'}:=
 lK.aJz hA hL fl λh2 hd=>oJ.Xr hL hd λh3 hd3=>aA1 (s1:=s1) bl hL S1 hd3 fr kn ke hv KQ
def TT(P:Int->List Nat->Prop)(l:List Nat)(es:List (Int×Int×Int×Int×Bool)):Prop:=∃r,VI l r/\(r=none->es=[])/\∀a l',r=some (a,l')->P a l'
theorem TT.no(h:VI l none):TT P l []:=⟨_,h,λ_=>rfl,nofun⟩
theorem TT.yes(h:VI l (some (a,l1)))(p:P a l1):TT P l es:=⟨_,h,nofun,λ_ _ e=>by cases e;exact p⟩
def T4(a b c:Int)(l:List Nat)(es:List (Int×Int×Int×Int×Bool)):Prop:=TT (λd l'=>∃sO,es=Ki a b c d::sO/\TB l' sO) l es
def T3(a b:Int)(l:List Nat)(es:List (Int×Int×Int×Int×Bool)):Prop:=TT (λc l'=>T4 a b c l' es) l es
def T2(a:Int)(l:List Nat)(es:List (Int×Int×Int×Int×Bool)):Prop:=TT (λb l'=>T3 a b l' es) l es
theorem TB.t1(h:TB l es):TT (λa l'=>T2 a l' es) l es:=by
 cases h with
 |FQ h1=>exact .no h1
 |YZ h1 h2=>exact .yes h1 (TT.no h2)
 |aJq h1 h2 h3=>exact .yes h1 (TT.yes h2 (TT.no h3))
 |FP h1 h2 h3 h4=>exact .yes h1 (TT.yes h2 (TT.yes h3 (TT.no h4)))
 |more h1 h2 h3 h4 h5=>exact .yes h1 (TT.yes h2 (TT.yes h3 (TT.yes h4 ⟨_,rfl,h5⟩)))
noncomputable def FO:dE:=match cH 6 with
 |[_,_,t]=>t
 |_=>.Pass ⟨0,0,0,0⟩
noncomputable def tV(I:aH)(done:List (Int×Int×Int×Int×Bool)):aU:=[("iterator",.val (fX 7 (.ref I))),("entries",.own (done.map gV))]
theorem aCs(bl:eZ B)(EF:oW B K)(EM:Aw B K)(nf:Hl B)(vf:Dx B)(hm:B.mg "_ExceptionTableEntry"=some (.ref 154))(Gs:Ta K (.ref 154)=true)(kF:TB l es)(lH:es.length<=100)
 (P:eI B (k+4) A {sc:=bQ 6} (iD S G0 (aA::eB) I s0) aA cs own (tV I []) g s) (cY:BI s0.heap I l) (hL:aA.frame=some L)
 (KQ:∀v cS g' s',aY B (lA S G0 (aA::eB)) aA cs cS [] g' s'->VR B g' v (.aO (es.map gV))->Q (.ret v) s'):aK (aW B) A (exec FO aA) Q E s:=by
 conv in FO=>whnf
 have kn:aA.kindOf "StopIteration"=some .globalImplicit:=P.kind rfl;have ke:aA.kindOf "entries"=some .local:=P.kind rfl;have hA:A.frames=some (aA::eB):=P.frames;refine wpAny_Try_except ?_;refine lN (Z4 ?_);refine Z5 (λn s=>∃l Sg done own s0 g,Sg.length<n/\done++Sg=es/\TB l Sg/\eI B (k+4) A {sc:=bQ 6} (iD S G0 (aA::eB) I s0) aA cs own (tV I done) g s/\BI s0.heap I l) (λn aS hI=>?_) (es.length+1) ⟨l,es,[],own,s0,g,rO _,rfl,kF,P,cY⟩;clear kF cY P;refine abs λQ1 E1 Zg R6=>?_;obtain⟨l,Sg,done,own,s0,g,hn,hd,kF,P,b0⟩:=hI;have ht:bA B (k+4) (bQ 6) (tV I done) (.Constant (.bool true) 0 ⟨82,14,82,18⟩) true:=bA.val (aB.ar aB.tC) lR.bool (by intro _ _;rfl);refine ht A aA g aS _ _ P.pre λs2 g2 X=>Zg _ _ ?_;rw[if_pos rfl];refine abs λQ' E' hQ hE=>?_;have P2:=P.to (P.st.post X);unfold tV at P2;have Yv:(bQ 6).names.lookup ("_parse_varint":aC)=some .globalImplicit:=rfl
 have KD:Sg=[]->∀v cS g' s',aY B (lA S G0 (aA::eB)) aA cs cS [] g' s'->VR B g' v (.aO (done.map gV))->Q (.ret v) s':=λe v cS g' s' h1 h2=>by
  subst e;rw[pB] at hd;subst hd;exact KQ v cS g' s' h1 h2
 obtain⟨r1,v1,n1,t1⟩:=kF.t1;refine lN (CF bl vf P2 v1 b0 Yv (by walk_at"w") (by walk_at"w") (λ_=>rfl) (λa l1 e1 s3 s4 g4 P4 b4=>?_) λe1 s3 g3 e all h' S3 fl fr=>hE _ _ (Ui bl hA hL S3 fl fr kn ke rfl (KD (n1 e1))));obtain⟨r2,v2,n2,t2⟩:=t1 a l1 e1;refine lN (CF bl vf P4 v2 b4 Yv (by walk_at"w") (by walk_at"w") (λ_=>rfl) (λb l2 e2 s5 s6 g6 P6 b6=>?_) λe2 s5 g5 e all h' S5 fl fr=>hE _ _ (Ui bl hA hL S5 fl fr kn ke rfl (KD (n2 e2))));obtain⟨r3,v3,n3,t3⟩:=t2 b l2 e2
 have x3:aP B (k+4) {sc:=bQ 6} (cT "length" (.val (.int (b*2))) (cT "start" (.val (.int (a*2))) [("iterator",.val (fX 7 (.ref I))),("entries",.own (done.map gV))])) (.Assign [.Name "end" ⟨85,12,85,15⟩] (.BinOp (.Name "start" ⟨85,18,85,23⟩) .Add (.Name "length" ⟨85,26,85,32⟩) ⟨85,18,85,32⟩) ⟨85,12,85,32⟩)
  (.cF (cT "end" (.val (.int (a*2+b*2))) (cT "length" (.val (.int (b*2))) (cT "start" (.val (.int (a*2))) [("iterator",.val (fX 7 (.ref I))),("entries",.own (done.map gV))])))):=by
  walk_at"w"
 refine lN (x3.nx P6 λHG g7 s7 S7=>?_);have P7:=P6.to S7;refine lN (CF bl vf P7 v3 b6 Yv (by walk_at"w") (by walk_at"w") (λ_=>rfl) (λc l3 e3 s8 s9 g9 P9 b9=>?_) λe3 s8 g8 e all h' S8 fl fr=>hE _ _ (Ui bl hA hL S8 fl fr kn ke rfl (KD (n3 e3))));obtain⟨r4,v4,n4,t4⟩:=t3 c l3 e3;refine lN (aD9 bl vf P9 v4 b9 Yv (by walk_at"w") (by walk_at"w") (λ_=>rfl) (λd l4 e4 Ea I9 g11 V4 b11=>?_) λe4 Ea R8 e all h' S10 fl fr=>hE _ _ (Ui bl hA hL S10 fl fr kn ke rfl (KD (n4 e4))));obtain⟨T7,rfl,aLn⟩:=t4 d l4 e4;have dQ:done.length+(T7.length+1)<=100:=by rw[<-hd,nV,pL] at lH;exact lH
 refine lN ((aP.assign (aB.to (aB.dB (by walk_at"w") (aB.ar aB.cC) (cA.shr (by decide))) rfl) (by walk_at"w") (λ_=>rfl)).nx V4 λaP3 g12 s12 S12=>?_);have V3:=V4.to S12;refine lN ((aP.assign (aB.blt (by walk_at"w") (.inr ⟨_,rfl⟩) rfl (aZ.c (aB.ar (aB.dB (by walk_at"w") (aB.ar aB.cC) cA.band)) .nil rfl) cJ.aKx) (by walk_at"w") (λ_=>rfl)).nx V3 λaP2 g13 Yd S13=>?_);have V2:=V3.to S13;refine lN ((aP.append (by walk_at"w") (λ_=>rfl) rfl rfl (aB.aH0 bl EF EM nf hm Gs rfl rfl (by walk_at"w")) (by rw[fE,cU];exact aV (aG [_,_] [.l (.a .x (.u .y)) (.n 100),.l (.u (.n 16777216)) .x] rfl dQ))).nx V2 λaJw g14 Yc S14=>?_);have P14:=V2.to (S14.sub (vars':=tV I (done++[Ki a b c d])) (by unfold tV;rw[Fh];exact .of rfl));refine Td (hQ _ _ ⟨n-1,by simp only[pL] at hn;exact Ra (bC (aV (aG [_,_] [.l (.u (.u .x)) .y,.l (.u .y) .i] rfl hn))),_,T7,done++[Ki a b c d],aJw,Ea,g14,by simp only[pL] at hn;exact bV (aG [_,_,_] [.l (.u (.u .x)) .y,.f (.u .z) .y,.l .z .x] rfl hn (bC (aV (aG [_,_] [.l (.u (.u .x)) .y,.l (.u .y) .i] rfl hn)))),by rw[pJ];exact hd,aLn,P14,b11⟩)
end
end
section
open Builtin Builtin.ObjectAttr
theorem DN:Slot "function" "__getattribute__" "object.__getattribute__":=
 .of (owner:="object") (n:="__getattribute__") (by rw[Tt,Tu];kernel_rfl) (by decide+kernel) (by decide+kernel) (by decide+kernel)
  (by first|exact .inl (by decide+kernel)|exact .inr (by decide+kernel)) (by rw[Jm];kernel_rfl)
theorem aC0:BH table "object.__getattribute__"=some kR.«object.__getattribute__»:=PR (by kernel_rfl)
theorem aEx(a b:aD):xG "object.__getattribute__" ⟨[a,b],[]⟩:=by unfold xG;kernel_rfl
theorem WH:Z7 (.type "function") "co_exceptiontable"=pure none:=by rw[Tt,Tu];kernel_rfl
section
variable {prog:iS} {w:iI} {A:bM} {E:aD->aF->Prop} {s:aF} {fc d:aH} {o:fQ} {m:aC->Option aD} {expr:Bool} {Q:aD->aF->Prop} {v:aD}
theorem aI8(ho:s.heap.get? fc=some o)(hc:o.cls=.type "function")(hd:o.data=.func fd)(hdd:o.dict=some d)(hn:s.heap.Ns d m)(hm:m "co_exceptiontable"=some v)(hh:PO v=true)(h:Q v {s with toks:=s.toks+1}):
 aK (model prog w) A (BK (.ref fc) "co_exceptiontable" expr) Q E s:=by
 obtain⟨hp,gg,dr,t,os⟩:=s;have L0:lP (model prog w) hp (vF (.ref fc)) (.type "function"):=hc▸(BJ ho).andThen .now;have hT:m5 ⟨hp,gg,dr,t+1,os⟩ (.ref fc) "function":=⟨o,ho,hc⟩
 unfold BK getAttrBy;refine aM (k9 (mK (aM (L0.at (aM ((BM DN.lookup).at ?_))))));dsimp only;rw[show(BL (.type "function")&&Cf "object.__getattribute__"==Cf "object.__getattribute__")=false from rfl,if_neg (by decide)];unfold getAttrByItsOwn;have LH:lP (model prog w) hp (PN (.type "function")) none:=by unfold PN;rw[if_neg (by decide)];exact .now
 refine aM (LH.at (aM (Mz (mK ?_))));unfold callGetattribute;rw[show(expr&&BL (Cf "object.__getattribute__"))=false from Jn _,if_neg (by decide)];unfold boundAndCalled;rw[DN.bind];refine aM (bE ?_);show aK _ _ (gL (.builtin "object.__getattribute__") [.ref fc,.str "co_exceptiontable" t]) _ _ _;refine xB DN hT aC0 ?_ (aEx _ _);unfold kR.«object.__getattribute__»;refine aM (mM (a:=(.ref fc,[.str "co_exceptiontable" t])) (by kernel_rfl) ?_);refine aM (bE (aM (L0.at ?_)));refine aM ?_;unfold find;refine aM (mM WH ?_);refine aM (bE ?_);refine aM (mM rfl ?_);dsimp only;unfold ownThenClass inOwnDict ObjectAttr.ownDict;refine aM (aM (aM (PQ ho ?_)));rw[hd];dsimp only;unfold instanceDict;refine aM (PQ ho ?_);rw[hc,hdd];dsimp only;refine bE ?_;refine j5 hn ?_;rw[hm];refine aM (Jc (bE ?_));refine bE ⟨_,rfl,?_⟩;rw[handedOut_of hh];exact bE h
end
end
section
open Builtin Builtin.ObjectAttr
theorem aFw:StoreFacts "function" [.type "function",.type "object"] "object.__setattr__" "object" where
 mro:=by kernel_rfl
 slot:=.of (owner:="object") (n:="__setattr__") (by rw[Tt,Tu];kernel_rfl) (by decide+kernel) (by decide+kernel) (by decide+kernel)
  (by first|exact .inl (by decide+kernel)|exact .inr (by decide+kernel)) (by rw[Jm];kernel_rfl)
 entry:=PySem.F.store_object.entry
 kind:=by decide+kernel
 split:=by decide+kernel
 hasOwner:=by decide+kernel
 args:=λa b c=>by unfold xG;kernel_rfl
 passes:=λself=>by kernel_rfl
section
variable {prog:iS} {w:iI} {A:bM} {E:aD->aF->Prop} {h:bH} {g:Array Ir} {dr:Drawn} {t:Nat} {os:OsState} {x:aH} {o:fQ} {v:aD} {Q:Unit->aF->Prop}
theorem aI7(hx:h.get? x=some o)(hc:o.cls=.type "function")(Km:o.data=.func fd)(LR:o.dict=none)
 (hq:∀h' IY,h'.get? x=some {cls:=o.cls,dict:=some h.objs.size,data:=o.data,slots:=o.slots}->h'.Ns h.objs.size (λy=>if y="co_exceptiontable" then some v else none)->(∀b ob,b≠x->h.get? b=some ob->h'.get? b=some ob)->Q () ⟨h',g,dr,IY,os⟩):
 aK (model prog w) A (setAttr (.ref x) "co_exceptiontable" v) Q E ⟨h,g,dr,t,os⟩:=by
 have L0:lP (model prog w) h (vF (.ref x)) (.type "function"):=hc▸(BJ hx).andThen .now;have hT:m5 ⟨h,g,dr,t+1,os⟩ (.ref x) "function":=⟨o,hx,hc⟩
 have SF:=aFw;have N5:=wX (gS hx);unfold setAttr;refine aM (k9 ?_);refine aM (zH hT SF.slot (xB SF.slot hT SF.entry ?_ (SF.args _ _ _)));show aK _ _ (kR.«object.__setattr__» ⟨[.ref x,.str "co_exceptiontable" t,v],[]⟩) _ _ _;rw[osa_eq,refuse_eq];refine aM (aM (L0.at (aM (mM SF.mro ?_))));rw[SF.passes];refine bE (aM (L0.at (aM (mM WH ?_))));refine aM (mM rfl ?_);dsimp only;unfold storeInOwnDict;refine aM (mM (by first|rfl|kernel_rfl) ?_)
 with_reducible refine uY (by decide) ?_
 unfold ownDictForStores;refine aM ?_;unfold instanceDict;refine aM (PQ hx ?_);rw[hc,LR,Km];dsimp only
 with_reducible refine uY (by decide+kernel) ?_
 have ZL:(h.push {cls:=.type "dict",data:=.dict #[]}).get? x=some o:=eG _ hx;refine aM (wpAny_alloc' ?_);refine aM (wpAny_update' ZL ?_)
 have wQ:((h.push {cls:=.type "dict",data:=.dict #[]}).update x λo=>{cls:=o.cls,dict:=some h.objs.size,data:=o.data,slots:=o.slots}).get? h.objs.size=some {cls:=.type "dict",data:=.dict #[]}:=
  (aO1 _ _ _ _ N5).trans (bH.get?_push_at rfl rfl)
 have iM:((h.push {cls:=.type "dict",data:=.dict #[]}).update x λo=>{cls:=o.cls,dict:=some h.objs.size,data:=o.data,slots:=o.slots}).Ns h.objs.size (λ_=>none):=
  ⟨_,#[],_,wQ,rfl,λe he=>absurd he (by simp),λ_=>rfl⟩
 unfold dictMade;dsimp only
 with_reducible refine uY (by decide+kernel) ?_
 refine bE ?_;show aK _ _ (storeInDict h.objs.size (.str "co_exceptiontable" t) "co_exceptiontable" v) _ _ _;unfold storeInDict newKeyGuard;refine aM (bE (aM (wpAny_nsSet1 (bH.Ns1.of_empty iM) λh' wL hs=>?_)));obtain⟨oD,esD,epD,hoD,hdD,hcD⟩:=wL.count (Within.cons "co_exceptiontable" v Within.nil);refine aM (wpAny_lookBehind hoD (by rw[hdD];exact pastItsLine_dict (fD hcD (by rw[pL,List.length_nil,cU];exact aV (aG [] [.l (.u (.u (.n 16777216))) (.u .o)] rfl)))) ?_);refine bE ⟨_,rfl,bE ?_⟩;have hxn:=gJ N5;refine hq h' _ ((hs.2 x hxn).trans (wZ _ ZL ?_)) ?_ λb ob hbx hb=>?_
 ·obtain⟨oc,od,odt,osl⟩:=o
  dsimp only at Km;subst Km;rfl
 ·obtain⟨o',es,ep,e1,e2,e3,eu,e4⟩:=wL
  exact⟨o',es,ep,e1,e2,e3,λy=>by rw[e4 y]⟩
 ·exact(hs.2 b (rP (gS hb))).trans ((aO1 _ _ _ _ hbx).trans (eG _ hb))
end
end
section
open Builtin PySem.W.KBw
noncomputable abbrev IJ(l:List Nat):AV:=.mZ 9 λ_ v=>∃b t,v=.bytes b t/\b.toList.map (·.toNat)=l
section
variable {B:BD} {k:Nat} {A:bM} {sc:bR} {vars:aU} {aA:bO} {g g':aT} {s s':aF} {E:aD->aF->Prop}
theorem aBi(l:List Nat)(h:∀n∈l,n<256):(byteArr (l.map λn:Nat=>(n:Int))).toList.map (·.toNat)=l:=by
 unfold byteArr;rw[fO];show(List.map _ l).map _=l;rw[fO];conv=>rhs;rw[<-List.map_id l]
 refine zG λn hn=>?_;have:=h n hn;show(UInt8.ofNat (f9 (n:Int))).toNat=n;rw[rN];rw[UInt8.toNat_ofNat'];exact Jo this
theorem cJ.bytes(il:eY lv (aQ l))(h:∀n∈l,n<256)(hz:l.length<=1000):cJ B k (.type "bytes") [lv] (IJ l):=by
 intro A g s vs Q E R G bF K;obtain⟨v,rfl,hv⟩:=bF.bU;obtain⟨a,us,n,rfl,ho,r⟩:=il.oQ G hv;have hl:s.heap.IsList a us.toList.toArray:=⟨_,ho,rfl,n,by rw[OE];rfl⟩
 have hi:Tj us.toList (l.map λn:Nat=>(n:Int)):=by
  rw[zP] at r;exact r.Vi
 refine call_bytes_ints hl hi (λn hn=>?_) ?_ R.handled ?_
 ·obtain⟨m,hm,rfl⟩:=gK.mp hn
  have:=h m hm;exact⟨jM _,pF (cG [_] [] [.O (.l (.u .x) (.n 256)),.l (.n 256) (.c .x)] rfl this)⟩
 ·have:=hi.length
  rw[fE] at this;rw[this];exact fA hz rfl
 ·exact λh' t k hk=>K _ _ _ (.of G (.of hk) λb _=>hk b) (.mZ λ_ _=>⟨_,_,rfl,aBi l h⟩)
end
end
section
open PySem.W.KBw
def Hn(h:bH)(fc:aH)(l:List Nat):Prop:=∃o fd d m b t,h.get? fc=some o/\o.cls=.type "function"/\o.data=.func fd/\o.dict=some d/\h.Ns d m/\m "co_exceptiontable"=some (.bytes b t)/\b.toList.map (·.toNat)=l
section
variable {B:BD} {K:fB} {k:Nat} {F:Fn} {A:bM} {sc:bR} {vars:aU} {S:aF} {G0:aT} {bY all:List bO} {I:aH} {s0:aF} {aA:bO} {cs:List (aC×aH)} {own:aC->aH} {g g':aT} {s s':aF}
theorem Hn.le(x:Hn h fc l)(le:Le B.base h h'):Hn h' fc l:=by
 obtain⟨o,fd,d,m,b,t,h1,h2,h3,h4,h5,h6,h7⟩:=x;exact⟨o,fd,d,m,b,t,le.cM h1 (jX h2 (by rw[h3];nofun)),h2,h3,h4,le.ns h5,h6,h7⟩
theorem aBx(h:Q (.ref s.heap.objs.size) {s with heap:=s.heap.push {cls:=.type "bytes_iterator",data:=.fields #[.bytes b t,.int 0 0]}}):aK (aW B) A (gL (.builtin "iter") [.bytes b t]) Q E s:=by
 refine PT (by decide+kernel) (by decide+kernel) kdk_entry_iter (kdk_args_iter _) ?_;unfold kR.«iter»;refine aM (mM (by first|rfl|kernel_rfl!) ?_);dsimp only;exact aM (pyIter_bytes (bE ⟨_,rfl,h⟩))
theorem aCc(P:iQ B k A sc vars aA g s)(n:fP sc vars x (.val (fX 8 (.ref fc))))(hf:Hn s.heap fc l)(hb:∀aA,wY (.Name x xp) "co_exceptiontable" aA (eval (.Name x xp) aA)=eval (.Name x xp) aA)
 (h:∀b t s' g',bT B s g s' g'->b.toList.map (·.toNat)=l->Q (.bytes b t) s'):aK (aW B) A (eval (.Attribute (.Name x xp) "co_exceptiontable" p) aA) Q E s:=by
 rw[aOy,hb];refine aM (aB.Gr n A aA g s _ E P λv s1 g1 X hv=>?_);have e1:=VR.Be hv;subst e1;obtain⟨o,fd,d,m,b,t,h1,h2,h3,h4,h5,h6,h7⟩:=hf.le X.keep.le;refine aM (pI (aM (mK ?_)));refine aI8 h1 h2 h3 h4 h5 h6 rfl ?_;exact aM (bE (bE (h b t _ g1 (X.trans (.toks X.ok)) h7)))
def IQ(B:BD):Prop:=∃fd a,kI B "_parse_exception_table" fd (cH 6) a/\fd.scope=bQ 6/\∀s v,iU s fd ⟨[v],[]⟩ [("code",v)]
theorem aBq(bl:eZ B)(EF:oW B K)(EM:Aw B K)(nf:Hl B)(vf:Dx B)(hm:B.mg "_ExceptionTableEntry"=some (.ref 154))(Gs:Ta K (.ref 154)=true)(fo:kI B "_parse_exception_table" fd (cH 6) a)(dC:fd.scope=bQ 6)(hb:∀s v,iU s fd ⟨[v],[]⟩ [("code",v)])
 (kF:TB l es) (lH:es.length<=100) (R:dS B (k+5) A s.heap) (G:bI B g s.heap) (hf:Hn s.heap fc l)
 (KQ:∀v s' g',bT B s g s' g'->VR B g' v (.aO (es.map gV))->Q v s'):aK (aW B) A (gL (.ref a) [.ref fc]) Q E s:=by
 obtain⟨ev,eB,pD,fL⟩:=R.frames;refine Uk (k:=k+4) (args:=⟨[.ref fc],[]⟩) (is:=[⟨"code",.ref fc,0,.val (fX 8 (.ref fc))⟩]) R.handled R.depth (by have:=R.units;omega) pD fL G (fo.at G) fo.nP (hb _ _) (λi hi=>by rw[cW.mp hi,dC];exact xQ rfl) (λi hi=>by rw[cW.mp hi];exact⟨_,rfl,VR.Ba⟩) λaA cs s2 P0 hL=>?_
 have P:eI B (k+4) (A.deeper aA) {sc:=bQ 6} (lA s g (aA::ev::eB)) aA cs (λ_=>0) [("code",.val (fX 8 (.ref fc)))] g s2:=
  ⟨P0.handled,P0.depth,P0.units,P0.frames,P0.mT,by rw[<-dC];exact P0.scope,by rw[<-dC];exact P0.cells,rfl,by rw[<-dC];exact P0.code,P0.st⟩
 have le0:Le B.base s.heap s2.heap:=λb o e=>P.st.keep.le b o cO e;have hf2:=hf.le le0;conv in (cH 6)=>whnf
 have bi:oN B (bQ 6) "iter" (.builtin "iter"):=by walk_at"w"
 refine lN (zE (Ni bi (.inl ⟨_,rfl⟩) rfl P.pre (Et (aCc P.pre (by walk_at"w") hf2 (λ_=>rfl) λb t s3 g3 X Ei=>?_) (pM rfl))) rfl);refine aOw ?_;refine aBx ?_;have S3:=P.st.post X
 have S4:aY B (lA s g (aA::ev::eB)) aA cs (λ_=>0) [("code",.val (fX 8 (.ref fc)))] g3 {s3 with heap:=s3.heap.push {cls:=.type "bytes_iterator",data:=.fields #[.bytes b t,.int 0 0]}}:=
  S3.tE λz o e=>eG _ e
 have b4:BI (s3.heap.push {cls:=.type "bytes_iterator",data:=.fields #[.bytes b t,.int 0 0]}) s3.heap.objs.size l:=⟨b,t,0,⟨_,gU _ rfl,rfl,rfl⟩,Ei⟩
 have old:∀{z:aH},(∃o,s3.heap.get? z=some o)->z≠s3.heap.objs.size:=λ⟨o,e⟩=>rP (gS e)
 have S5:=S4.EZ b4.cM (S3.keep.Ap cO (bH.jN _)) (S3.ok.fresh (bH.jN _)) (by obtain⟨m,n,_⟩:=S3.dX;exact old (qV n)) (λy c hc=>by obtain⟨v,hv⟩:=S3.iL y c hc;exact old (zO hv)) λy ys h=>by
  simp only[mJ] at h
  split at h<;>cases h
 refine zL S5 (P.iE (by walk_at"w")) (VR.Ba (j:=7)) λs6 S6=>?_
 have P6:eI B (k+4) (A.deeper aA) {sc:=bQ 6} (iD s g (aA::ev::eB) s3.heap.objs.size {s3 with heap:=s3.heap.push {cls:=.type "bytes_iterator",data:=.fields #[.bytes b t,.int 0 0]}}) aA cs (λ_=>0) (cT "iterator" (.val (fX 7 (.ref s3.heap.objs.size))) [("code",.val (fX 8 (.ref fc)))]) g3 s6:=
  ⟨P.handled,P.depth,P.units,P.frames,P.mT,P.scope,P.cells,P.cQ,P.code,S6⟩
 refine lN (aP.xM (F:={sc:=bQ 6}) eA.nil (by walk_at"w") nofun (λ_ _=>rfl) (A.deeper aA) _ aA cs _ _ _ _ _ P6 λf s7 O=>?_);obtain⟨rfl,HG,g7,S7⟩:=O;have P7:=P6.to (S7.sub (vars':=tV s3.heap.objs.size []) (.of rfl));refine lN ?_;show aK (aW B) (A.deeper aA) (exec FO aA) _ _ s7;refine aCs bl EF EM nf vf hm Gs kF lH P7 b4 hL λv cS g' s' S' hv=>?_;exact KQ v s' g' S'.Gh hv
end
end
noncomputable abbrev eX:=Nat×Nat
noncomputable def mC(n:Nat):Nat:=(([64,4096]:List Nat).filter λm=>decide (m<=n)).length
noncomputable def kC(bit n:Nat):List Nat:=((bX (bit+mC n)).map λj=>n/64^(bit+mC n-j) % 64+64)++[n % 64]
noncomputable def oH(aR k:Nat):Nat:=aR % 50+k
noncomputable def eU(aR k:Nat):Nat:=aR/50/2^k % 2
noncomputable def rB(aR:Nat)(q:Nat×eX):List Nat:=[q.2.1,q.2.2-q.2.1,q.1,2*oH aR q.1+eU aR q.1]
noncomputable def Xp(i:Nat)(l:List Nat):List Nat:=l.set i (l.getD i 0+128)
noncomputable def pO(aR:Nat)(o:List Nat)(q:Nat×eX):List Nat:=Xp o.length ((rB aR q).foldl (λo n=>o++kC (eU aR q.1) n) o)
noncomputable def rE(aR:Nat)(q:Nat×eX):Int×Int×Int×Int×Bool:=(2*(q.2.1:Int),2*(q.2.2:Int),2*(q.1:Int),(oH aR q.1:Int),decide ((eU aR q.1:Int)=1))
noncomputable def uJ(e:Int×Int×Int×Int×Bool):AV:=.cD [.int e.1,.int e.2.1,.int e.2.2.1,.int e.2.2.2.1,.bool e.2.2.2.2]
noncomputable def kH(p:eX):AV:=.cD [.int (p.1:Int),.int (p.2:Int)]
noncomputable def Od:List dE:=match cH 21 with
 |[a,b,_,_,_,_,_]=>[a,b]
 |_=>[]
noncomputable def Vl:List dE:=match cH 21 with
 |[_,_,c,d,e,f,g]=>[c,d,e,f,g]
 |_=>[]
theorem aF5:cH 21=Od++Vl:=rfl
noncomputable def VU:List dE:=IH ((IH (Od.getD 1 (.Pass ⟨0,0,0,0⟩))).getD 1 (.Pass ⟨0,0,0,0⟩))
noncomputable def wU(dW:List eX)(aR:Nat)(os:List Nat)(tL:List (Int×Int×Int×Int×Bool)):aU:=[("octets",.own (aQ os)),("due",.own (tL.map uJ)),("jobs",.val (.aO (dW.map kH))),("mix",.val (.int (aR:Int)))]
noncomputable def Ek(dW:List eX)(aR:Nat)(os:List Nat)(tL:List (Int×Int×Int×Int×Bool))(q:Nat×eX)(bg:Nat):aU:=[("octets",.own (aQ os)),("due",.own (tL.map uJ)),("jobs",.val (.aO (dW.map kH))),("mix",.val (.int (aR:Int))),("k",.val (.int (q.1:Int))),("first",.val (.int (q.2.1:Int))),("behind",.val (.int (q.2.2:Int))),("begin",.val (.int (bg:Int))),("depth",.val (.int (oH aR q.1:Int))),("bit",.val (.int (eU aR q.1:Int)))]
theorem Vz(n:Nat):mC n<=2:=xF _ _
theorem Nw(bit n:Nat):(kC bit n).length=bit+mC n+1:=by simp[kC]
theorem Vn(aR k:Nat):eU aR k<2:=gY _ (by decide)
section
variable {B:BD} {k:Nat}
theorem aH2(aR k:Nat):(aR:Int).fmod 50+(k:Int)=(oH aR k:Int):=by
 unfold oH;rw[vH _ (by decide)];norm_cast
theorem aGf(aR k:Nat):jC (((aR:Int).fdiv 50).fdiv (2^(k:Int).toNat)) 1=(eU aR k:Int):=by
 have h:(aR:Int).fdiv 50=((aR/50:Nat):Int):=by rw[Fm _ (by decide)];norm_cast
 rw[h];exact WS _ _
theorem QR(s:Int):∀n:Nat,vK s (-1) n=(bX n).map λj:Nat=>.int (s-(j:Int))
 |0=>rfl
 |n+1=>by
  rw[TP,QR,OC,nU,fO];congr 1
  ·simp
  ·refine zG λj _=>?_
   simp only[Γ];congr 1
   push_cast;exact sP (cG [_] [_] [.l (.u (.s (.a .x (.n (-1))) (.c .x))) (.s .x (.u (.c .x)))] rfl) (cG [_] [_] [.l (.u (.s .x (.u (.c .x)))) (.s (.a .x (.n (-1))) (.c .x))] rfl)
noncomputable def xV(s:Nat):List Nat:=(bX s).map λj=>s-j
theorem aAu(s:Nat):vK (s:Int) (-1) s=(xV s).map λi:Nat=>.int (i:Int):=by
 rw[QR,xV,fO];refine zG λj hj=>?_;have:=fY.mp hj;simp only[Γ];congr 1;exact(PI (eO this)).symm
theorem aDs(h:i∈xV s):1<=i/\i<=s:=by
 obtain⟨j,hj,rfl⟩:=gK.mp h;have:=fY.mp hj;exact⟨aV (aG [_,_,_] [.l (.u .x) .y,.f (.a .z .x) .y,.l (.u .z) .i] rfl this (bC (eO this))),aV (aG [_,_,_] [.e (.a .x .y) .z,.l (.u .z) .x] rfl (bC (eO this)))⟩
theorem aHb(n i:Nat):((n:Int).fdiv (64^(i:Int).toNat)).fmod 64+64=((n/64^i % 64+64:Nat):Int):=by
 rw[rN];have h0:(64:Int)^i=((64^i:Nat):Int):=by push_cast;rfl
 have h1:(n:Int).fdiv (64^i)=((n/64^i:Nat):Int):=by
  rw[h0,Fm _ (jM _)];norm_cast
 rw[h1,vH _ (by decide)];norm_cast
theorem aE1(bl:eZ B){dW:List eX}{aR:Nat}{os:List Nat}{tL:List (Int×Int×Int×Int×Bool)}{q:Nat×eX}{bg n:Nat}(hz:os.length<=200)(hn:n<2^40):
 aJ B k {sc:=bQ 21} (cT "number" (.val (.int (n:Int))) (Ek dW aR os tL q bg)) VU (.cF (Ek dW aR (os++kC (eU aR q.1) n) tL q bg)):=by
 conv in VU=>whnf
 unfold Ek;have hb:=Vn aR q.1;have hg:=Vz n;refine' aJ.cons ?s1 ?r1
 case s1=>
  refine' aP.assign (r:=.int ((eU aR q.1+mC n:Nat):Int)) ?a1 (by walk_at"w") (by intro aA;rfl)
  case a1=>
   refine' aB.to (aB.dB (x:=.val (.int (eU aR q.1:Int))) (y:=.val (.int (mC n:Int))) (by walk_at"w") (aB.ar ?y2) cA.add) (by push_cast;rfl)
   case y2=>
    refine' aB.to (aB.blt (v:=.builtin "len") (by walk_at"w") (.inl ⟨_,rfl⟩) rfl (aZ.c (aB.ar (eA.ev (xs:=aQ (([64,4096]:List Nat).filter λm=>decide (m<=n))) ?w3)) .nil rfl) (cJ.yB (.val _) (by rw[gM,cU];have:=Vz n;unfold mC at this;exact jK this rfl))) (by rw[gM];rfl)
    case w3=>
     refine' eA.jO ([64,4096]:List Nat) (λ(i:Nat)=>.int (i:Int)) (λ(i:Nat)=>[("least",.int (i:Int))]) (λm=>decide (m<=n)) (λ(i:Nat)=>.int (i:Int)) (fv:=[("number",.val (.int (n:Int)))]) ?Sk ?i9 ?Sm ?Qo ?v9 ?t9 ?e9 ?z9
     case Sk=>walk_at"w"
     case i9=>exact cR.cD (aB.cD (xs:=[.int 64,.int 4096]) (by walk_at"w") (by rw[cU];show 2<=16777216;decide))
     case Sm=>intro i _;exact .name _ _ _
     case Qo=>walk_at"w"
     case v9=>intro i _;exact .of rfl
     case t9=>
      intro i hi;exact jQ.bU (bA.to (bA.cZ (by walk_at"w") (by walk_at"w") bG.ge rfl) (by simp))
     case e9=>intro i _ _;walk_at"w"
     case z9=>decide
 case r1=>
 refine' aJ.cons (v1:=_) (aP.aJa (ys:=aQ (kC (eU aR q.1) n)) (by walk_at"w") (λ_=>rfl) rfl rfl ?e4 (by rw[gM,gM,Nw,cU];exact aV (aG [_,_,_] [.l .x (.n 200),.l (.u .y) (.n 2),.l .z (.n 2),.l (.u (.n 16777216)) (.a .x (.u (.a .y .z)))] rfl hz hb hg))) (aJ.dT aJ.nil (by rw[<-Ud];exact .of rfl))
 case e4=>
  refine' aB.to (aB.dB (x:=.val (.aO (((xV (eU aR q.1+mC n)).filter λ_=>true).map λ(i:Nat)=>.int ((n/64^i % 64+64:Nat):Int)))) (y:=.val (.aO (aQ [n % 64]))) (aB.ar (eA.ev ?x5)) (aB.ar ?y5) (cA.Pq (.val _) (.val _) ?z5)) ?q5
  case y5=>
   refine' aB.aO (aZ.c (aB.ar (aB.to (aB.dB (by walk_at"w") (aB.ar aB.cC) (cA.mod (by decide))) (by rw[vH _ (by decide)];norm_cast))) .nil rfl) (by rw[cU];show 1<=16777216;decide)
  case z5=>
   have h:=xF (λ_:Nat=>true) (xV (eU aR q.1+mC n));have h2:(xV (eU aR q.1+mC n)).length=eU aR q.1+mC n:=by simp[xV]
   rw[gM,fE,cU];show _+1<=_;exact aV (aG [_,_,_,_] [.l (.u .x) (.n 2),.l .y (.n 2),.l .z .w,.e .w (.a .x .y),.l (.u (.n 16777216)) (.u .z)] rfl hb hg h h2)
  case q5=>
   rw[pK.mpr λ_ _=>rfl];simp[aQ,kC,xV,fO,PH]
  case x5=>
   refine' eA.jO (xV (eU aR q.1+mC n)) (λ(i:Nat)=>.int (i:Int)) (λ(i:Nat)=>[("i",.int (i:Int))]) (λ_=>true) (λ(i:Nat)=>.int ((n/64^i % 64+64:Nat):Int)) (fv:=[("number",.val (.int (n:Int)))]) ?Sk ?i9 ?Sm ?Qo ?v9 ?t9 ?e9 ?z9
   case Sk=>walk_at"w"
   case i9=>
    rw[<-aAu];refine' cR.aIt (by walk_at"w") rfl (by walk_at"w") aB.cC (aB.to (aB.un aB.cC tG.neg) rfl) (⟨Ml (by decide) (jM _),Es.mpr (pZ (Zz (eO hb) hg) (by decide))⟩) (⟨by decide,by decide⟩) (sP (cG [_,_] [] [.l (.u (.s (.c (.a .x .y)) .o)) (.c (.a .x .y))] rfl) (cG [_,_] [] [.l (.u (.c (.a .x .y))) (.s (.c (.a .x .y)) .o)] rfl))
   case Sm=>intro i _;exact .name _ _ _
   case Qo=>walk_at"w"
   case v9=>intro i _;exact .of rfl
   case t9=>intro i hi;exact jQ.nil
   case e9=>
    intro i hi _;have yQ:=aDs hi;have LD:i=1\/i=2\/i=3:=(by decide:∀i,i<4->1<=i->i=1\/i=2\/i=3) i (aO2 (fD yQ.2 (Zz (vB hb) hg))) yQ.1;refine' aB.to (aB.dB (aB.ar (aB.dB (aB.ar (aB.dB (by walk_at"w") (aB.ar (aB.dB (aB.ar aB.cC) (by walk_at"w") (cA.pow (jM _) (by rcases LD with rfl|rfl|rfl<;>decide)))) (cA.fdiv (by rcases LD with rfl|rfl|rfl<;>decide) (by rcases LD with rfl|rfl|rfl<;>decide)))) (aB.ar aB.cC) (cA.mod (by decide)))) (aB.ar aB.cC) cA.add) (congrArg AV.int (aHb n i))
   case z9=>simp only[xV,fE,Fy,cU];exact aV (aG [_,_] [.l (.u .x) (.n 2),.l .y (.n 2),.l (.u (.n 16777216)) (.a .x .y)] rfl hb hg)
noncomputable def VZ:List dE:=IH (Od.getD 1 (.Pass ⟨0,0,0,0⟩))
theorem SN(bit:Nat):∀(l:List Nat) (o:List Nat),(l.foldl (λo n=>o++kC bit n) o).length<=o.length+(bit+3)*l.length:=by
 intro l;induction l with
 |nil=>
  intro o;simp
 |cons n l ih=>
  intro o;have h:=ih (o++kC bit n);have h2:=Vz n;rw[nH];rw[nV,Nw] at h;rw[pL,Nat.mul_succ];exact aV (aG [_,_,_,_,_] [.l .x (.a (.a .y (.u (.a .z .w))) .p),.l .w (.n 2),.l (.u (.a .y (.a .p (.a .z (.n 3))))) .x] rfl h h2)
theorem aAw(bit:Nat):∀(l:List Nat) (o:List Nat),l≠[]->o.length+1<=(l.foldl (λo n=>o++kC bit n) o).length:=by
 intro l;induction l with
 |nil=>
  intro o h;exact absurd rfl h
 |cons n l ih=>
  intro o _;rw[nH]
  by_cases hl:l=[]
  ·subst hl;simp[Nw]
  ·have h:=ih (o++kC bit n) hl
   rw[nV,Nw] at h;exact aV (aG [_,_,_,_] [.l (.u (.a .x (.u (.a .y .z)))) .w,.l (.u .w) (.u .x)] rfl h)
theorem aE6(l:List Nat)(i v:Nat):(aQ l).set i (.int (v:Int))=aQ (l.set i v):=by simp[aQ,List.map_set]
theorem aFi(bl:eZ B){dW:List eX}{aR:Nat}{os:List Nat}{tL:List (Int×Int×Int×Int×Bool)}{q:Nat×eX}(hz:os.length<=100)(hd:tL.length<=100)(h1:q.2.1<=q.2.2)(h2:q.2.2<2^40)(hq:q.1<6):
 aJ B k {sc:=bQ 21} (fH [("k",.int (q.1:Int)),("first",.int (q.2.1:Int)),("behind",.int (q.2.2:Int))] (wU dW aR os tL)) VZ (.cF (wU dW aR (pO aR os q) (tL++[rE aR q]))):=by
 conv in VZ=>whnf
 unfold wU;have hb:=Vn aR q.1;have Yz:oH aR q.1<60:=by unfold oH;have:=gY aR (show 0<50 by decide);exact bV (aG [_,_] [.l (.u .x) (.n 6),.l (.u .y) (.n 50),.l (.n 60) (.a .y .x)] rfl hq this)
 refine' aJ.cons (aP.Aj (lC:=[("begin",.val (.int (os.length:Int))),("depth",.val (.int (oH aR q.1:Int))),("bit",.val (.int (eU aR q.1:Int)))]) true ?n1 (by show 3<=4096;decide) (by intro b hb;simp only[cE,cO,or_false] at hb;rcases hb with rfl|rfl|rfl<;>exact fR rfl) (by intro b hb;nofun) (.cons _ _ (.cons _ _ (.cons _ _ .nil))) (by walk_at"w")) ?r1
 case n1=>
  refine' gE.cons (aB.tD (by exact aB.to (aB.blt (v:=.builtin "len") (by walk_at"w") (.inl ⟨_,rfl⟩) rfl (aZ.c (by walk_at"w") .nil rfl) (cJ.yB (.own _) (by rw[gM];exact fA hz rfl))) (by rw[gM]))) (gE.cons (aB.tD (aB.to (aB.dB (aB.ar (aB.dB (by walk_at"w") (aB.ar aB.cC) (cA.mod (by decide)))) (by walk_at"w") cA.add) (congrArg AV.int (aH2 aR q.1)))) (gE.cons (aB.tD (aB.to (aB.dB (aB.ar (aB.dB (aB.ar (aB.dB (by walk_at"w") (aB.ar aB.cC) (cA.fdiv (by decide) (by decide)))) (by walk_at"w") (cA.shr (jM _)))) (aB.ar aB.cC) cA.band) (congrArg AV.int (aGf aR q.1)))) gE.nil rfl) rfl) rfl
 case r1=>
 refine aJ.sub (v1:=Ek dW aR os tL q os.length) (.of rfl) ?_;refine' aJ.cons (v1:=Ek dW aR ((rB aR q).foldl (λo n=>o++kC (eU aR q.1) n) os) tL q os.length) ?s2 ?r2
 case s2=>
  refine' aP.Ad (λo n=>o++kC (eU aR q.1) n) (λo=>Ek dW aR o tL q os.length) (λd o=>o.length<=100+4*d.length) (λn:Nat=>.int (n:Int)) (λn=>[("number",.int (n:Int))]) (rB aR q) os ?i3 (λ_ _=>rfl) (by simpa using hz) (by intro n _;exact .name _ _ _) (by intro n _;walk_at"w") ?t3
  case i3=>
   refine' cR.cD (aB.cD (xs:=(rB aR q).map λn:Nat=>.int (n:Int)) ?j3 (by rw[fE,cU];show 4<=16777216;decide))
   case j3=>
    unfold Ek;refine' aZ.c (by walk_at"w") (aZ.c (aB.ar (aB.to (aB.dB (by walk_at"w") (by walk_at"w") cA.sub) (by congr 1;exact(PI h1).symm))) (aZ.c (by walk_at"w") (aZ.c (aB.ar (aB.to (aB.dB (aB.ar (aB.dB (aB.ar aB.cC) (by walk_at"w") (cA.mul (Fz (by decide))))) (by walk_at"w") cA.add) (by congr 1))) .nil rfl) rfl) rfl) rfl
  case t3=>
   intro d n r o hL hP
   have dQ:d.length+1<=4:=by
    have:=congrArg rS hL;simp[rB] at this;exact aV (aG [_,_] [.f (.n 4) (.a .x (.u .y)),.l (.u (.n 4)) (.u .x)] rfl this)
   have hn:n<2^40:=by
    have hm:n∈rB aR q:=by rw[hL];simp
    simp only[rB,cE,cO,or_false] at hm;rcases hm with rfl|rfl|rfl|rfl<;>(first|exact pZ h1 h2|exact bV (aG [_,_,_,_] [.l (.u .x) .y,.e (.a .z .w) .x,.l .y .z] rfl h2 (bC (h1)))|exact jK hq rfl|exact bV (aG [_,_] [.l (.u .x) (.n 2),.L 2 (.u .y) (.n 60),.l (.n 1099511627776) (.a (.m 2 .y) .x)] rfl hb Yz))
   refine⟨?_,aE1 bl (by exact aV (aG [_,_] [.l .x (.a (.n 100) (.m 4 .y)),.L 4 (.u .y) (.n 4),.l (.u (.n 200)) .x] rfl hP dQ)) hn⟩;have:=Vz n;rw[nV,Nw,nV,BP];exact aV (aG [_,_,_,_] [.l (.u .x) (.n 2),.l .y (.a (.n 100) (.m 4 .z)),.l .w (.n 2),.l (.u (.a (.n 100) (.m 4 (.u .z)))) (.a .y (.u (.a .x .w)))] rfl hb hP this)
 case r2=>
 have Bl:=aAw (eU aR q.1) (rB aR q) os (by simp[rB]);have sN:=SN (eU aR q.1) (rB aR q) os;have LL:(rB aR q).length=4:=rfl;rw[LL] at sN;generalize hos:(rB aR q).foldl (λo n=>o++kC (eU aR q.1) n) os=Yk at Bl sN;unfold Ek;refine' aJ.cons (aP.WV (r:=.int ((Yk.getD os.length 0+128:Nat):Int)) (by walk_at"w") (by walk_at"w") rfl (TY Yk _ (Bl)) (aB.ar aB.cC) lQ.add (by rw[gM,cU];exact aV (aG [_,_,_] [.l .x (.n 100),.L 4 (.u .y) (.n 2),.l .z (.a .x (.t (.a .y (.n 3)) 4)),.l (.u (.n 16777216)) .z] rfl hz hb sN)) (λ_ _ _=>rfl)) ?r4
 case r4=>
 rw[aE6];refine' aJ.cons (aP.append (r:=uJ (rE aR q)) (by walk_at"w") (λ_=>rfl) rfl rfl ?e5 (by rw[fE];exact fA hd rfl)) (aJ.dT aJ.nil ?w5)
 case e5=>
  refine' aB.cD ?i5 (by rw[cU];show 5<=16777216;decide)
  case i5=>
   refine' aZ.c (aB.ar (aB.dB (aB.ar aB.cC) (by walk_at"w") (cA.mul (Fz (by decide))))) (aZ.c (aB.ar (aB.dB (aB.ar aB.cC) (by walk_at"w") (cA.mul (Fz (by decide))))) (aZ.c (aB.ar (aB.dB (aB.ar aB.cC) (by walk_at"w") (cA.mul (Fz (by decide))))) (aZ.c (by walk_at"w") (aZ.c (aB.ar (aB.cZ (by walk_at"w") (aB.ar aB.cC) bG.yW rfl)) .nil rfl) rfl) rfl) rfl) rfl
 case w5=>
  have e:pO aR os q=Yk.set os.length (Yk.getD os.length 0+128):=by unfold pO Xp;rw[hos]
  rw[e,Fh];exact .of rfl
noncomputable def mN(aR:Nat)(dW:List eX):List Nat:=(iY 0 dW).foldl (pO aR) []
noncomputable def iW(aR:Nat)(dW:List eX):List (Int×Int×Int×Int×Bool):=(iY 0 dW).map (rE aR)
theorem RV(aR:Nat)(o:List Nat)(q:Nat×eX):(pO aR o q).length<=o.length+16:=by
 unfold pO Xp;rw[List.length_set];have h:=SN (eU aR q.1) (rB aR q) o;have LL:(rB aR q).length=4:=rfl;have hb:=Vn aR q.1;rw[LL] at h;exact aV (aG [_,_,_] [.l .x (.a .y (.t (.a .z (.n 3)) 4)),.L 4 (.u .z) (.n 2),.l (.u (.a .y (.n 16))) .x] rfl h hb)
theorem aDk(aR:Nat):∀(L:List (Nat×eX)) (o:List Nat) (d:List (Int×Int×Int×Int×Bool)),L.foldl (λs q=>(pO aR s.1 q,s.2++[rE aR q])) (o,d)=(L.foldl (pO aR) o,d++L.map (rE aR)):=by
 intro L;induction L with
 |nil=>
  intro o d;simp
 |cons q L ih=>
  intro o d;rw[nH,ih,nH,nU];simp
theorem aDm(bl:eZ B){dW:List eX}{aR:Nat}(hj:dW.length=6)(wO:∀p∈dW,p.1<=p.2/\p.2<2^40):
 aJ B k {sc:=bQ 21} [("jobs",.val (.aO (dW.map kH))),("mix",.val (.int (aR:Int)))] Od (.cF (wU dW aR (mN aR dW) (iW aR dW))):=by
 conv in Od=>whnf
 refine' aJ.cons (aP.Aj (lC:=[("octets",.own (aQ [])),("due",.own [])]) true (gE.cons eA.nil (gE.cons eA.nil gE.nil rfl) rfl) (by show 2<=4096;decide) (by intro b hb;simp only[cE,cO,or_false] at hb;rcases hb with rfl|rfl<;>exact fR rfl) (by intro b hb;nofun) (.cons _ _ (.cons _ _ .nil)) (by walk_at"w")) ?r1
 case r1=>
 refine aJ.sub (v1:=wU dW aR [] []) (.of rfl) ?_;refine' aJ.cons ?s2 aJ.nil
 case s2=>
  have Rv:=aDk aR (iY 0 dW) [] []
  have hg:wU dW aR (mN aR dW) (iW aR dW)=wU dW aR ((iY 0 dW).foldl (λ(s:List Nat×List (Int×Int×Int×Int×Bool)) q=>(pO aR s.1 q,s.2++[rE aR q])) ([],[])).1 ((iY 0 dW).foldl (λ(s:List Nat×List (Int×Int×Int×Int×Bool)) q=>(pO aR s.1 q,s.2++[rE aR q])) ([],[])).2:=by
   rw[Rv];simp[mN,iW]
  rw[hg];clear Rv hg
  ·refine' aP.Ad (λ(s:List Nat×List (Int×Int×Int×Int×Bool)) (q:Nat×eX)=>(pO aR s.1 q,s.2++[rE aR q])) (λs=>wU dW aR s.1 s.2) (λd s=>s.1.length<=16*d.length/\s.2.length=d.length) (λq:Nat×eX=>.cD [.int (q.1:Int),kH q.2]) (λq=>[("k",.int (q.1:Int)),("first",.int (q.2.1:Int)),("behind",.int (q.2.2:Int))]) (iY 0 dW) ([],[]) ?i3 (λ_ _=>rfl) (by simp) (by intro q _;exact .cD (.cons (.name _ _ _) (.cons (.cD (.cons (.name _ _ _) (.cons (.name _ _ _) .nil))) .nil))) (by intro q _;walk_at"w") ?t3
   case i3=>
    rw[<-Uw];exact cR.tB (by walk_at"w") rfl (by walk_at"w")
   case t3=>
    intro d q r s hL hP;obtain⟨Ef,Ls⟩:=hP
    have gR:d.length+1<=6:=by
     have:=congrArg rS hL;rw[Ck] at this;simp at this;exact aV (aG [_,_,_] [.e .x (.n 6),.f .x (.a .y (.u .z)),.l (.u (.n 6)) (.u .y)] rfl hj this)
    have hq:=DO dW 0 q (by rw[hL];simp);have ho:=RV aR s.1 q;refine⟨⟨by show(pO aR s.1 q).length<=_;rw[nV,BP];exact aV (aG [_,_,_] [.l .x (.m 16 .y),.l .z (.a .x (.n 16)),.l (.u (.m 16 (.u .y))) .z] rfl Ef ho),by rw[nV,nV];simp[Ls]⟩,?_⟩;exact aFi bl (aV (aG [_,_] [.l .x (.m 16 .y),.L 16 (.u .y) (.n 6),.l (.u (.n 100)) .x] rfl Ef gR)) (aV (aG [_,_] [.e .x .y,.l (.u .y) (.n 6),.l (.u (.n 100)) .x] rfl Ls gR)) (wO _ hq.2).1 (wO _ hq.2).2 (bV (aG [_,_] [.e .x (.n 6),.l (.u .y) (.a .o .x),.l (.n 6) .y] rfl hj hq.1))
end
section
variable {B:BD} {K:fB} {k:Nat} {F:Fn} {A:bM} {sc:bR} {vars:aU} {S:aF} {G0:aT} {bY all:List bO} {I:aH} {s0:aF} {aA:bO} {cs:List (aC×aH)} {own:aC->aH} {g g':aT} {s s':aF}
theorem bT.tM(x:bT B s g s' g')(ha:s.heap.get? a=none)(ho:s'.heap.get? a=some o)(hf:∀vs,o.data≠.fields vs)(G:bI B g s.heap):bT B s g s' (g'.tM a):=by
 have ga:=G.fresh ha;have hb:=G.le.none ha;refine⟨x.keep,⟨λb p e=>?_,λb p e=>?_⟩,x.ok.tM hb λp vs e q=>?_⟩
 ·have:b≠a:=λz=>by rw[z,ga] at e;cases e
  exact(if_neg this).trans (x.ext.sub b p e)
 ·have e:(if b=a then none else g' b)=some p:=e
  by_cases z:b=a
  ·cases ((if_pos z).symm.trans e)
  ·rw[if_neg z] at e
   exact x.ext.new b p e
 ·have:=x.ok.at e
  cases (ho.symm.trans this);exact hf vs q
theorem aGb(L:uT B i)(P:eI B k A F (lA S G0 bY) aA cs own vars g s)(hl:nJ F.sc=some i)(hx:lT F x)(Qc:∀aA,OZ params aA=([],[]))(LJ:vM F.sc vars scope [])(iM:(scope.names.map (·.1)).Nodup)
 (wI:∀aA,vE (.Lambda params body scope lp) (some (.Name x xp)) ap.line aA=pure false) (hkl:∀y ys,vars.lookup y=some (.own ys)->aA.kindOf y=some .local\/aA.kindOf y=some .cell\/aA.kindOf y=some .free)
 (KQ:∀fc s0 g' s',eI B k A F (iD S G0 bY fc s0) aA cs own (cT x (.val (fX 8 (.ref fc))) vars) g' s'->(∃fd,s0.heap.get? fc=some {cls:=.type "function",data:=.func fd})->Q .next s'):
 aK (aW B) A (exec (.Assign [.Name x xp] (.Lambda params body scope lp) ap) aA) Q E s:=by
 refine zE (RX L hl Qc LJ iM P.pre λfc s1 g1 X hv hr qG Ao=>?_) (wI aA);obtain⟨fd,Eg⟩:=Ao;have X':=bT.tM X qG Eg (by nofun) P.st.ok;have S1:=P.st.post X';have old:∀{z:aH},(∃o,s.heap.get? z=some o)->z≠fc:=λ⟨o,e⟩ q=>by rw[q,qG] at e;cases e
 have S2:=S1.EZ ⟨_,Eg,jX rfl (by nofun)⟩ (P.st.keep.Ap cO qG) (if_pos rfl) (by obtain⟨m,n,_⟩:=P.st.dX;exact old (qV n)) (λy c hc=>by obtain⟨v,hv⟩:=P.st.iL y c hc;exact old (zO hv)) λy ys h=>by
  obtain⟨vs,n,e,_⟩:=P.st.tA h (hkl y ys h);exact old ⟨_,e⟩
 refine zL S2 (P.iE hx) (VR.Ba (j:=8)) λs3 S3=>?_;exact KQ fc s1 _ s3 ⟨P.handled,P.depth,P.units,P.frames,P.mT,P.scope,P.cells,P.cQ,P.code,S3⟩ ⟨fd,Eg⟩
theorem aGa(P:eI B k A F (iD S G0 bY fc s0) aA cs own vars g s)(Eg:s0.heap.get? fc=some {cls:=.type "function",data:=.func fd})(he:aB B k F.sc vars e (IJ l))(n:fP F.sc vars x (.val (fX 8 (.ref fc))))
 (wI:∀aA,vE e (some (.Attribute (.Name x xp) "co_exceptiontable" ap)) p.line aA=pure false)
 (KQ:∀s' g',eI B k A F (iD S G0 bY fc s') aA cs own vars g' s'->Hn s'.heap fc l->Q .next s'):
 aK (aW B) A (exec (.Assign [.Attribute (.Name x xp) "co_exceptiontable" ap] e p) aA) Q E s:=by
 refine plainObj_wpAny_Assign_Attribute (he A aA g s _ E P.pre λv s1 g1 X hv=>?_) (wI aA);have P1:=P.to (P.st.post X);refine aB.Gr n A aA g1 s1 _ E P1.pre λov s2 g2 Y hov=>?_;have e1:=VR.Be hov;subst e1;have S2:=P1.st.post Y
 obtain⟨b,t,rfl,hl⟩:∃b t,v=.bytes b t/\b.toList.map (·.toNat)=l:=by
  have h:=VR.bB hv;exact h g1 (.refl _)
 have ho:s2.heap.get? fc=some {cls:=.type "function",data:=.func fd}:=
  ((S2.gd.same _ (.head _)).at (.head _) ⟨_,Eg,jX rfl (by nofun)⟩).trans Eg
 refine aI7 ho rfl rfl rfl λh' IY wJ wL hk=>?_;have k1:eL B ⟨[fc],[]⟩ s2 {s2 with heap:=h',toks:=IY}:=.of λz o hz e=>hk z o (by simpa using hz) e;have G2:=S2.ok.uR (fp:=⟨[fc],[]⟩) (λz o hz e=>hk z o (by simpa using hz) e) (λz hz=>by rw[cW.mp hz];exact S2.Hc) λz hz=>by rw[cW.mp hz];exact S2.Po
 have S3:=S2.FY k1 (.refl _ _) G2 ⟨_,wJ,jX rfl (by nofun)⟩;exact KQ _ g2 ⟨P.handled,P.depth,P.units,P.frames,P.mT,P.scope,P.cells,P.cQ,P.code,S3⟩ ⟨_,fd,_,_,b,t,wJ,rfl,rfl,rfl,wL,if_pos rfl,hl⟩
theorem aDy(bl:eZ B)(EF:oW B K)(EM:Aw B K)(nf:Hl B)(vf:Dx B)(tf:IQ B)(hm:B.mg "_ExceptionTableEntry"=some (.ref 154))(Gs:Ta K (.ref 154)=true)(kF:TB l es)(lH:es.length<=100)
 (P:eI B (k+5) A F (iD S G0 bY fc s0) aA cs own vars g s) (hf:Hn s.heap fc l) (hk:F.sc.names.lookup ("_parse_exception_table":aC)=some .globalImplicit) (n:fP F.sc vars y (.val (fX 8 (.ref fc)))) (hx:lT F x)
 (wI:∀aA,vE (.Call (.Name "_parse_exception_table" p) [.Name y yp] [] cp) (some (.Name x xp)) ap.line aA=pure false)
 (KQ:∀s' g',eI B (k+5) A F (lA S G0 bY) aA cs own (cT x (.val (.aO (es.map gV))) vars) g' s'->Q .next s'):
 aK (aW B) A (exec (.Assign [.Name x xp] (.Call (.Name "_parse_exception_table" p) [.Name y yp] [] cp) ap) aA) Q E s:=by
 obtain⟨fd,a,fo,dC,hb⟩:=tf;refine zE (zC (Cj hk fo.nm rfl P.pre ?_)) (wI aA);refine Nx P.pre (fo.IG P.st.ok) rfl (aZ.c (aB.ar (aB.Gr n)) .nil rfl) .nil λvs us s1 g1 X bF oY=>?_;cases oY;obtain⟨v,rfl,hv⟩:=bF.bU;have e1:=VR.Be hv;subst e1;have P1:=P.to (P.st.post X);refine aBq bl EF EM nf vf hm Gs fo dC hb kF lH P1.room P1.st.ok (hf.le X.keep.le) λv s2 g2 Y Bj=>?_;have S2:=P1.st.post Y;refine zL S2 (P.iE hx) Bj λs3 S3=>?_;exact KQ s3 g2 ⟨P.handled,P.depth,P.units,P.frames,P.mT,P.scope,P.cells,P.cQ,P.code,aY.pop S3⟩
end
section
open Builtin
def Ho(h:bH)(t:aH)(dG:Array aD):Prop:=∃o n,h.get? t=some o/\o.data=.seq dG n
theorem Ho.at(x:Ho h a dG)(e:∀o,h.get? a=some o->h'.get? a=some o):Ho h' a dG:=by obtain⟨o,n,ho,r⟩:=x;exact⟨o,n,e _ ho,r⟩
section
variable {prog:iS} {w:iI} {A:bM} {E:aD->aF->Prop} {s:aF}
theorem aF1(cY:s.heap.IsTupleIter it t i)(ht:Ho s.heap t dG)(hx:dG[i]?=some x)
 (hQ:∀h',h'.IsTupleIter it t (i+1)->kU it s.heap h'->Q (some x) {s with heap:=h'}):aK (model prog w) A (mH (.ref it)) Q E s:=by
 obtain⟨o,ho,hc,hd⟩:=id cY;obtain⟨ol,nl,qI,gR⟩:=ht;unfold mH;refine aM (Mz (zH cY.typeIs Ga (xB Ga cY.typeIs PW ?_ (PX _))));show aK _ _ (field (.ref it) 0>>=_) _ _ s;refine aM (nI ho hd rfl ?_);show aK _ _ (if(vG t==nG)=true then _ else _) _ _ s;rw[if_neg (show ¬((vG t==nG)=true) from Jh)];show aK _ _ (field (.ref it) 1>>=_) _ _ s;refine aM (nI ho hd rfl ?_);show aK _ _ (PY (.ref t)>>=_) _ _ s;refine aM (Cd qI gR ?_);simp only[rN,hx];refine aM (Nc ho hd (by simp) (bE ⟨x,rfl,bE (hQ _ ?_ (By ..))⟩))
 exact⟨_,wZ _ ho (BN (Fx hd _)),(PV ..).trans hc,by
  rw[Fx hd];simp[mI]⟩
theorem aF0(hh:A.handled=none)(cY:s.heap.IsTupleIter it t i)(ht:Ho s.heap t dG)(hx:dG[i]?=none)
 (hQ:∀h',OY it s.heap h'->Q none {s with heap:=h'}):aK (model prog w) A (mH (.ref it)) Q E s:=by
 obtain⟨o,ho,hc,hd⟩:=id cY;obtain⟨ol,nl,qI,gR⟩:=ht;unfold mH;refine aM (Mz (zH cY.typeIs Ga (xB Ga cY.typeIs PW ?_ (PX _))));show aK _ _ (field (.ref it) 0>>=_) _ _ s;refine aM (nI ho hd rfl ?_);show aK _ _ (if(vG t==nG)=true then _ else _) _ _ s;rw[if_neg (show ¬((vG t==nG)=true) from Jh)];show aK _ _ (field (.ref it) 1>>=_) _ _ s;refine aM (nI ho hd rfl ?_);show aK _ _ (PY (.ref t)>>=_) _ _ s;refine aM (Cd qI gR ?_);simp only[rN,hx];refine aM (Jc (aM (Nc ho hd (by simp) ?_)));show aK _ _ (Tp (.type "StopIteration") []>>=_) _ _ _;refine aM (Uu λh' e x=>OP hh ?_);refine aM (Ψ (CE x) Ω ?_);exact bE (hQ _ λc o hc e=>x.keeps _ _ ((By ..).extBut c o hc e))
end
theorem aDq(hh:A.handled=none)(I ax:aH)(dD:ax≠I)(dG:Array aD):
 Walks prog w A I [I,ax] [I] dG.size (λi v=>dG[i]?=some v) (λi h=>h.IsTupleIter I ax i/\Ho h ax dG) where
 sub:=λb hb=>by simp at hb;simp[hb]
 frame:=λ_ _ _ st hk=>⟨st.1.at λo e=>hk I (by simp) o e,st.2.at λo e=>hk ax (by simp) o e⟩
 item:=λi s Q E hi st hQ=>by
  refine aF1 st.1 st.2 (x:=dG[i]) (by simp[hi]) λh' Px Rl=>?_;exact hQ _ h' s.toks (by simp[hi]) ⟨Px,st.2.at λo e=>(Rl.2 ax dD).trans e⟩ λb o hb e=>Rl.extBut b o (λh=>hb (by simp[h])) e
 done:=λs Q E st hQ=>aF0 hh st.1 st.2 (by simp) λh' Rx=>hQ h' s.toks λb o hb e=>Rx b o (λh=>hb (by simp[h])) e
 self:=λ_ _ _ _ st hQ=>aM8 st.1 hQ
end
section
open Builtin
theorem aEg(self:aD):bindSpecial (.builtin "tuple.__iter__") self=pure (.builtin "tuple.__iter__",[self]):=aO3.bind self
section
variable {prog:iS} {w:iI} {A:bM} {E:aD->aF->Prop} {s:aF} {K:fB} {x:aH} {o:fQ}
theorem aF3(X:K.In s.heap)(ho:s.heap.get? x=some o)(hc:o.cls=.ref 154)(cY:lM K (.ref 154) "__iter__"=some (some (.builtin "tuple.__iter__")))(lZ:sU K 154 (.type "tuple")=some true)
 (hQ:Q (.ref s.heap.objs.size) {s with heap:=s.heap.push {cls:=.type "tuple_iterator",data:=.fields #[.ref x,.int 0 0]}}):aK (model prog w) A (wW (.ref x)) Q E s:=by
 have L0:=zN (M:=model prog w) ho hc;have L1:lP (model prog w) s.heap (Fw (.ref x) "__iter__") (some (.builtin "tuple.__iter__")):=L0.andThen (Ce X cY);unfold wW;refine aM (L1.here ?_);dsimp only;refine aM ?_;simp only[callSpecialIfBoundUnlessNone?,bindSpecialIfBound?];refine mK (aM (aM (L1.here ?_)));simp only[aEg];refine aM (wpAny_askSetting (wpAny_ite ?_));have hT:m5 {s with heap:=s.heap.push {cls:=.type "tuple_iterator",data:=.fields #[.ref x,.int 0 0]}} (.ref s.heap.objs.size) "tuple_iterator":=⟨_,gU _ rfl,rfl⟩
 have LU:aK (model prog w) A (gL (.builtin "tuple.__iter__") [.ref x]) (λit s'=>aK (model prog w) A (Fw it "__next__">>=λ
  |none=>(do rule "iter.non-iterator";raiseError "TypeError" s!"iter() returned non-iterator of type '{← typeNameOf it}'")
  |some _=>pure it) Q E s') E s:=by
  refine xD (Tv aO3.plain F.entry_tuple_iter (@Tw (model prog w) _ _ s "tuple.__iter__" "tuple" "__iter__" (.ref x) [] [] _ (by decide+kernel) (by decide+kernel) (L0.andThen (Fv X lZ)) (F.args_tuple_iter_1 _) ?_));show aK _ _ (do ret (<-newFields "tuple_iterator" [.ref x,mI 0])) _ _ s;refine aM (Fk (bE ?_));exact aM (wpAny_specialOf hT Ga.lookup (bE hQ))
 split
 ·refine aM (bE (bE ?_))
  show aK _ _ (if(Cf "tuple.__iter__"==nG)=true then _ else _) _ _ _
  with_reducible refine uY (by decide) ?_
  exact aM (eK LU (λv s' h'=>bE h') λ_ _ h'=>h')
 ·refine wpAny_tryCatch (aM (bE (bE ?_)))
  show aK _ _ (if(Cf "tuple.__iter__"==nG)=true then _ else _) _ _ _
  with_reducible refine uY (by decide) ?_
  exact aM (eK LU (λv s' h'=>bE h') λ_ _ h'=>h')
end
end
section
open Builtin
theorem TF:Slot "tuple" "__len__" "tuple.__len__":=
 .of (owner:="tuple") (n:="__len__") (by rw[Tt,Tu];kernel_rfl) (by decide+kernel) (by decide+kernel) (by decide+kernel)
  (by first|exact .inl (by decide+kernel)|exact .inr (by decide+kernel)) (by rw[Jm];kernel_rfl)
theorem aCi:BH table "tuple.__len__"=some kR.«tuple.__len__»:=PR (by kernel_rfl)
theorem aEf(a:aD):xG "tuple.__len__" ⟨[a],[]⟩:=by unfold xG;kernel_rfl
section
variable {prog:iS} {w:iI} {A:bM} {E:aD->aF->Prop} {s:aF} {K:fB} {x:aH} {o:fQ} {dG:Array aD} {n:Nat}
theorem aHw(X:K.In s.heap)(ho:s.heap.get? x=some o)(hc:o.cls=.ref 154)(hd:o.data=.seq dG n)(lZ:sU K 154 (.type "tuple")=some true)
 (hQ:∀t tk,Q (.int (dG.size:Int) t) {s with toks:=tk}):aK (model prog w) A (gL (.builtin "tuple.__len__") [.ref x]) Q E s:=by
 have L0:=zN (M:=model prog w) ho hc;refine xD (Tv TF.plain aCi (@Tw (model prog w) _ _ s "tuple.__len__" "tuple" "__len__" (.ref x) [] [] _ (by decide+kernel) (by decide+kernel) (L0.andThen (Fv X lZ)) (aEf _) ?_));unfold kR.«tuple.__len__»;refine aM (mM (a:=(.ref x,[])) (by kernel_rfl) ?_);refine aM (aM (aM (Ez ho ?_)));rw[hd];refine bE (bE ?_);exact aM (l7 (bE (hQ _ _)))
theorem aF2(X:K.In s.heap)(ho:s.heap.get? x=some o)(hc:o.cls=.ref 154)(hd:o.data=.seq dG n)(lZ:sU K 154 (.type "tuple")=some true)(hl:lM K (.ref 154) "__len__"=some (some (.builtin "tuple.__len__")))(hz:dG.size<1000)
 (hQ:∀t tk,Q (.int (dG.size:Int) t) {s with toks:=tk}):aK (model prog w) A (gL (.builtin "len") [.ref x]) Q E s:=by
 have L0:=zN (M:=model prog w) ho hc;refine PT kind_len plain_len entry_len (args_len1 _) ?_;unfold kR.«len»;refine aM (bE ?_);unfold callSpecial? Fw;refine aM (aM (aM (L0.here ((Ce X hl).here ?_))));dsimp only;refine mK ?_;rw[TF.bind];refine aM (bE (aM ?_));refine aHw X ho hc hd lZ λt tk=>?_;refine bE ?_;refine aM (mK (bE ?_));refine aM (OU ?_);rw[if_neg (by exact cG [_] [] [.l (.u (.c .x)) .o] rfl),if_neg (ζ.mpr (uN (tY hz (by decide))))];exact aM (l7 (bE ⟨_,rfl,hQ _ _⟩))
end
end
section
open Builtin
section
variable {prog:iS} {w:iI} {A:bM} {E:aD->aF->Prop} {s:aF} {K:fB} {x:aH} {o:fQ} {dG:Array aD} {n:Nat}
theorem aF4(X:K.In s.heap)(ho:s.heap.get? x=some o)(hc:o.cls=.ref 154)(hd:o.data=.seq dG n)(lZ:sU K 154 (.type "tuple")=some true)(hl:lM K (.ref 154) "__len__"=some (some (.builtin "tuple.__len__")))(hz:dG.size<1000)
 (hQ:∀b tk,Q b {s with toks:=tk}):aK (model prog w) A (aO4 (.ref x)) Q E s:=by
 have L0:=zN (M:=model prog w) ho hc;have L1:lP (model prog w) s.heap (Fw (.ref x) "__len__") (some (.builtin "tuple.__len__")):=L0.andThen (Ce X hl);have L2:lP (model prog w) s.heap (isInstance (.ref x) (.type "tuple")) true:=L0.andThen (Fv X lZ);unfold aO4;refine aM (L1.here ?_);dsimp only;rw[show splitId "tuple.__len__"=some ("tuple","__len__") by decide+kernel];dsimp only;refine aM (L2.here ?_)
 with_reducible refine uY (by decide) ?_
 with_reducible refine Hu (by decide+kernel) ?_
 refine aM (L0.here ?_);dsimp only;refine aM (aF2 X ho hc hd lZ hl hz λt tk=>?_);exact aM (bE (bE (hQ _ _)))
end
end
section
open Builtin
section
variable {prog:iS} {w:iI} {A:bM} {E:aD->aF->Prop} {s:aF} {K:fB} {r:aH} {o:fQ} {dG:Array aD} {n:Nat}
theorem aB3(hh:A.handled=none)(X:K.In s.heap)(ho:s.heap.get? r=some o)(hc:o.cls=.ref 154)(hd:o.data=.seq dG n)(lZ:sU K 154 (.type "tuple")=some true)(hi:lM K (.ref 154) "__iter__"=some (some (.builtin "tuple.__iter__")))(hl:lM K (.ref 154) "__len__"=some (some (.builtin "tuple.__len__")))(hz:dG.size<1000)
 (S:aH) (MB:S≠r) (res:aD) (G6:Nat) (hS:s.heap.get? S=some {cls:=.type "list",data:=.seq #[] G6})
 (hR:∀h' tk mX c',(∀b o,b≠S->s.heap.get? b=some o->h'.get? b=some o)->h'.get? S=some {cls:=.type "list",dict:=none,data:=.seq mX c',slots:= #[]}->Nb (λi v=>dG[i]?=some v) mX dG.size->R (.ok (.ret res)) {s with heap:=h',toks:=tk}):
 aK (model prog w) A.in1 (PL (.ref S) (.ref r) res)
  (λmD s'=>match mD with|.done f=>R (.ok f) s'|.again c'=>c'.quiet=true/\Bx (model prog w) A c' R s') (λe s'=>R (.error e) s') s:=by
 have L0:=zN (M:=model prog w) ho hc;have R3:=rP (gS hS);have hrI:=rP (gS ho);have hSf:S∉[s.heap.objs.size,r]:=by simp only[cE,cO,or_false,not_or];exact⟨R3,MB⟩
 have key:∀(h:bH) (Qf tk:Nat),(h.IsTupleIter s.heap.objs.size r 0/\Ho h r dG)->(∀b o,b≠S->s.heap.get? b=some o->h.get? b=some o)->
  h.get? S=some {cls:=.type "list",data:=.seq #[] Qf}->Bx (model prog w) A (.builtin "list.extend.loop" ⟨[.ref S,.ref s.heap.objs.size,res],[]⟩) R {s with heap:=h,toks:=tk}:=by
  intro h Qf tk pW hk Ac;refine codeAny_extend_loopS (aDq (A:=A.in1) hh s.heap.objs.size r hrI dG).toS (fA (eO hz) rfl) S hSf res dG.size 0 _ #[] Qf rfl (iR _) pW Ac (Nb.nil _) λs' mX c' hm tJ mB=>?_;rw[Moved.eq_with hm];refine hR s'.heap s'.toks mX c' (λb o hb e=>hm.heap b o (λIA=>?_) (hk b o hb e)) tJ mB;rcases cE.mp IA with e'|IA
  ·exact hb e'
  ·exact absurd (gS e) (by rw[cW.mp IA];exact sR _)
 unfold PL;refine aM (L0.here ?_);have h1:aO5 (.ref S) (.ref r)=false:=by simp[aO5,MB]
 have h2:(vG 154==Fu "list")=false:=by decide
 have h3:(vG 154==Fu "tuple")=false:=by decide
 simp only[h1,h2,h3,Nf,Fj,if_false];refine aM (aF3 X ho hc hi lZ ?_);have Ac:=eG {cls:=.type "tuple_iterator",data:=.fields #[.ref r,.int 0 0]} hS;have GG:=eG {cls:=.type "tuple_iterator",data:=.fields #[.ref r,.int 0 0]} ho;have YA:(s.heap.push {cls:=.type "tuple_iterator",data:=.fields #[.ref r,.int 0 0]}).IsTupleIter s.heap.objs.size r 0:=⟨_,gU _ rfl,rfl,rfl⟩
 refine aM (mK (aF4 (X.keeps λb o e=>eG _ e) GG hc hd lZ hl hz λroom tk=>?_));refine wpAny_ite_split (λ_=>?_) (λ_=>bE ⟨BG aO6 _,key _ G6 _ ⟨YA,_,_,GG,hd⟩ (λb o _ e=>eG _ e) Ac⟩);refine aM (Jc ?_);refine aM ?_;show aK _ _ (updateSeq S (·.push .none)>>=λ_=>updateSeq S (·.pop)) _ _ _;refine aM (c8 Ac rfl ?_);have ZT:=wZ (Mt (·.push nG)) Ac rfl;refine c8 ZT rfl ?_;have aKi:=wZ (Mt (·.pop)) ZT rfl
 have Lj:∀b o,b≠S->(s.heap.push {cls:=.type "tuple_iterator",data:=.fields #[.ref r,.int 0 0]}).get? b=some o->(((s.heap.push {cls:=.type "tuple_iterator",data:=.fields #[.ref r,.int 0 0]}).update S (Mt (·.push nG))).update S (Mt (·.pop))).get? b=some o:=λb o hb e=>
  (l9 _ _ (gJ hb)).trans ((l9 _ _ (gJ hb)).trans e)
 exact bE ⟨BG aO6 _,key _ _ _ ⟨YA.at λo e=>Lj _ o (gJ R3) e,_,_,Lj _ _ (gJ MB) GG,hd⟩ (λb o hb e=>Lj b o hb (eG _ e)) aKi⟩
end
end
section
variable {prog:iS} {w:iI} {A:bM} {E:aD->aF->Prop} {s:aF} {K:fB} {r:aH} {o:fQ} {dG:Array aD} {n:Nat}
theorem aBg(hh:A.handled=none)(X:K.In s.heap)(ho:s.heap.get? r=some o)(hc:o.cls=.ref 154)(hd:o.data=.seq dG n)(lZ:sU K 154 (.type "tuple")=some true)(hi:lM K (.ref 154) "__iter__"=some (some (.builtin "tuple.__iter__")))(hl:lM K (.ref 154) "__len__"=some (some (.builtin "tuple.__len__")))(hz:dG.size<1000)
 (h:∀(h':bH) (tk:Nat) (bS:Array aD),(∀b o,s.heap.get? b=some o->h'.get? b=some o)->Nb (λi v=>dG[i]?=some v) bS dG.size->R bS.toList {s with heap:=h',toks:=tk}):aK (model prog w) A (collect (.ref r)) R E s:=by
 unfold collect;refine aM (wpAny_runValue (BE aOu ?_));rw[BF aOv _];show aK _ A.in1 (AW []>>=λl=>again (.builtin "list.__iadd__" ⟨[l,.ref r],[]⟩)) _ _ s;refine aM (Fk ?_);refine bE ⟨BG PK _,BE entry_list_iadd' ?_⟩;rw[BF PK _];have Ac:(s.heap.push {cls:=.type "list",data:=.seq ([]:List aD).toArray}).get? s.heap.objs.size=some {cls:=.type "list",data:=.seq #[]}:=gU _ rfl;show aK _ A.in1 (PL (.ref s.heap.objs.size) (.ref r) (.ref s.heap.objs.size)) _ _ _
 have key:=aB3 (prog:=prog) (w:=w) (s:={s with heap:=s.heap.push {cls:=.type "list",data:=.seq ([]:List aD).toArray}})
  (R:=λ(q:AM) (s':aF)=>∃(h':bH) (tk:Nat) (mX:Array aD) (c':Nat),q=.ok (.ret (.ref s.heap.objs.size))/\s'={s with heap:=h',toks:=tk}/\
   (∀b o,s.heap.get? b=some o->h'.get? b=some o)/\h'.get? s.heap.objs.size=some {cls:=.type "list",dict:=none,data:=.seq mX c',slots:= #[]}/\Nb (λi v=>dG[i]?=some v) mX dG.size)
  hh (X.keeps λb o e=>eG _ e) (eG _ ho) hc hd lZ hi hl hz s.heap.objs.size (wX (gS ho)) (.ref s.heap.objs.size) 0 Ac
  (λh' tk mX c' hk tJ mB=>⟨h',tk,mX,c',rfl,rfl,λb o e=>hk b o (rP (gS e)) (eG _ e),tJ,mB⟩)
 refine eK key (λmD s' x=>?_) λe s' x=>?_
 ·cases mD with
  |done f=>
   obtain⟨h',tk,mX,c',e,rfl,hk,tJ,mB⟩:=x;cases e;show aK _ A (load s.heap.objs.size>>=_) _ _ _;refine aM (Ez tJ ?_);exact bE (h h' tk mX hk mB)
  |again Qf=>
   refine⟨x.1,OI x.2 λq bN y=>?_⟩;obtain⟨h',tk,mX,c',rfl,rfl,hk,tJ,mB⟩:=y;show aK _ A (load s.heap.objs.size>>=_) _ _ _;refine aM (Ez tJ ?_);exact bE (h h' tk mX hk mB)
 ·obtain⟨_,_,_,_,e',_⟩:=x
  cases e'
end
section
section
variable {prog:iS} {w:iI} {A:bM} {E:aD->aF->Prop} {s:aF} {K:fB} {r:aH} {o:fQ} {dG:Array aD} {n:Nat}
theorem aDr(h:Nb (λi v=>dG[i]?=some v) bS dG.size):bS=dG:=by
 obtain⟨h1,h2⟩:=h;refine Array.ext h1 λi hi hj=>?_;have:=h2 i bS[i] (by simp[hi]);simp[hj] at this;exact this.symm
theorem aAe(hh:A.handled=none)(X:K.In s.heap)(ho:s.heap.get? r=some o)(hc:o.cls=.ref 154)(hd:o.data=.seq dG n)(lZ:sU K 154 (.type "tuple")=some true)(hi:lM K (.ref 154) "__iter__"=some (some (.builtin "tuple.__iter__")))(hl:lM K (.ref 154) "__len__"=some (some (.builtin "tuple.__len__")))(hz:dG.size<1000)
 (h:∀(h':bH) (tk:Nat),(∀b o,s.heap.get? b=some o->h'.get? b=some o)->Q₁ (.ref h'.objs.size) {s with heap:=h'.push {cls:=.type "tuple",data:=.seq dG},toks:=tk}):
 Bx (model prog w) A (.call (.builtin "tuple.__new__") ⟨[.type "tuple",.ref r],[]⟩) (wants Q₁ E) s:=by
 refine ρ ?_;show aK _ A.in1 (do AE "tuple.__new__" ⟨[.type "tuple",.ref r],[]⟩;again (.builtin "tuple.__new__" ⟨[.type "tuple",.ref r],[]⟩)) _ _ s;refine aM (mM (F.newCall_tuple_1 _) (bE ⟨BG aO7 _,BE F.entry_tuple_new ?_⟩));rw[BF aO7 _];have aP4:=sub_tuple_self;have aP5:=init_tuple_lookup;have hmh:=madeHere_tuple;have L0:=zN (M:=model prog w) ho hc;have h3:(vG 154==Fu "tuple")=false:=by decide
 have Hz:∀{Q:aD->aF->Prop} {E:aD->aF->Prop},Q (.ref 154) s->aK (model prog w) A.in1 (vF (.ref r)) Q E s:=λq=>L0.here q
 have aL1:∀{R:List aD->aF->Prop} {E:aD->aF->Prop},(∀(h':bH) (tk:Nat),(∀b o,s.heap.get? b=some o->h'.get? b=some o)->R dG.toList {s with heap:=h',toks:=tk})->aK (model prog w) A.in1 (collect (.ref r)) R E s:=
  λq=>aBg hh X ho hc hd lZ hi hl hz λh' tk bS hk ha=>by rw[aDr ha];exact q h' tk hk
 wp_walk using Hz,aL1
 intro h' tk hk;show aK _ _ (aO8 dG.toList.toArray>>=λv=>ret v) _ _ _;unfold aO8;refine aM (Fk ?_ (by show dG.toList.toArray.size<=eJ;rw[cU];simp only[OE];exact jK (eO hz) rfl));refine bE ?_;have e:dG.toList.toArray=dG:=by simp
 rw[e];exact h h' tk hk
theorem aAf(hh:A.handled=none)(X:K.In s.heap)(ho:s.heap.get? r=some o)(hc:o.cls=.ref 154)(hd:o.data=.seq dG n)(lZ:sU K 154 (.type "tuple")=some true)(hi:lM K (.ref 154) "__iter__"=some (some (.builtin "tuple.__iter__")))(hl:lM K (.ref 154) "__len__"=some (some (.builtin "tuple.__len__")))(hz:dG.size<1000)
 (hQ:∀(h':bH) (tk:Nat),(∀b o,s.heap.get? b=some o->h'.get? b=some o)->Q (.ref h'.objs.size) {s with heap:=h'.push {cls:=.type "tuple",data:=.seq dG},toks:=tk}):
 aK (model prog w) A (gL (.type "tuple") [.ref r]) Q E s:=by
 refine callType_codes (Q₁:=λobj aS=>aS.TypeIs obj "tuple"/\Q obj aS) m6 (F.typeCall_tuple_1 _) F.entry_object_init
  (aAe hh X ho hc hd lZ hi hl hz λh' tk hk=>⟨⟨_,gU _ rfl,rfl⟩,hQ h' tk hk⟩) λobj aS lY=>?_
 exact⟨lY.1,aO9 obj _,object_init_meets m6.init.lookup m6.made (by decide) prog w A.in1 _ aS ⟨lY.1,rfl,lY.2⟩⟩
end
structure IT(K:fB):Prop where
 iter:lM K (.ref 154) "__iter__"=some (some (.builtin "tuple.__iter__"))
 len:lM K (.ref 154) "__len__"=some (some (.builtin "tuple.__len__"))
variable {B:BD} {K:fB} {k:Nat}
theorem cJ.aIk(F:oW B K)(T:IT K):cJ B k (.type "tuple") [.val (.kO i j l m b)] (.cD [.int i,.int j,.int l,.int m,.bool b]):=by
 intro A g s vs Q E R G bF KQ;obtain⟨v,rfl,hv⟩:=bF.bU;obtain⟨a,dA,t1,t2,t3,t4,rfl,ho⟩:=VR.Pd G hv;refine aAf R.handled (F.at G) ho (by rw[F.ec];rfl) rfl F.sub T.iter T.len (show 5<1000 by decide) λh' tk hk=>?_;have X:bT B s g {s with heap:=h',toks:=tk} g:=.of G (.of hk) λb _=>hk b;have Y:=bT.push X.ok (gA #[.int i t1,.int j t2,.int l t3,.int m t4,.bool b] 0) Gf rfl;exact KQ _ _ _ (X.trans Y) (.cD (aT.jY _ _ _) (.cons (.int _ _) (.cons (.int _ _) (.cons (.int _ _) (.cons (.int _ _) (.cons (.bool _) .nil))))))
end
theorem SO:∀{l1 l2:List dE} {Q:zD->aF->Prop} {s:aF},aK M A (execs l1 aA) (λf s'=>match f with|.next=>aK M A (execs l2 aA) Q E s'|f=>Q f s') E s->aK M A (execs (l1++l2) aA) Q E s:=by
 intro l1 l2 Q s h
 have e:execs (l1++l2) aA=execs l1 aA>>=λf=>match f with|.next=>execs l2 aA|f=>pure f:=by
  clear h;induction l1 with
  |nil=>exact(AZ zD.next λf=>match f with|.next=>execs l2 aA|f=>pure f).symm
  |cons a l ih=>
   rw[Tn,execs_cons,execs_cons,bind_assoc];congr 1
   funext f
   cases f with
   |next=>exact ih
   |brk=>exact(AZ zD.brk _).symm
   |cont=>exact(AZ zD.cont _).symm
   |ret v=>exact(AZ (zD.ret v) _).symm
 rw[e];refine aM (eK h (λf s' q=>?_) λ_ _ q=>q);cases f with
 |next=>exact q
 |_=>exact bE q
noncomputable def yF(e:Int×Int×Int×Int×Bool):AF:=.tuple [.int e.1,.int e.2.1,.int e.2.2.1,.int e.2.2.2.1,.bool e.2.2.2.2]
theorem UW:∀l:List (Int×Int×Int×Int×Bool),AV.mW (l.map uJ)=some (l.map yF):=by
 intro l;induction l with
 |nil=>
  exact rfl
 |cons e l ih=>
  show(match AV.oM (uJ e),AV.mW (l.map uJ) with|some d,some ds=>some (d::ds)|_,_=>none)=_;rw[ih];rfl
theorem aHj:∀l:List (Int×Int×Int×Int×Bool),Fs (l.map yF)=true:=by
 intro l;induction l with
 |nil=>
  simp[Fs]
 |cons i l ih=>
  simp[Fs,Tq,ih,yF]
theorem aDv:∀l:List (Int×Int×Int×Int×Bool),Jk (l.map yF)<=1:=by
 intro l;induction l with
 |nil=>
  simp[Jk]
 |cons i l ih=>
  have:=ih;simp only[nU,Jk,yF,Na];simp;exact Nat.max_le.mpr ⟨dH _,this⟩
theorem RB(l:List (Int×Int×Int×Int×Bool)):shaped (.list (l.map yF))=true:=by
 have h:=aDv l;unfold shaped;simp only[Tq,aHj,Na];simp;exact jK h rfl
theorem aHu:∀l:List (Int×Int×Int×Int×Bool),zK (l.map yF) (l.map yF)=true:=by
 intro l;induction l with
 |nil=>
  simp[zK]
 |cons a l ih=>
  simp[zK,Ey,ih,yF]
section
variable {B:BD} {K:fB} {k:Nat} {F:Fn} {A:bM} {sc:bR} {vars:aU} {S:aF} {G0:aT} {bY all:List bO} {I:aH} {s0:aF} {aA:bO} {cs:List (aC×aH)} {own:aC->aH} {g g':aT} {s s':aF}
theorem eY.G5{x:LV}{l:List (Int×Int×Int×Int×Bool)}(h:eY x (l.map uJ)):x.oM=some (.list (l.map yF)):=by
 cases h with
 |val=>show(AV.mW _).map _=_;rw[UW];rfl
 |own=>show(AV.mW _).map _=_;rw[UW];rfl
theorem bG.neD{x y:LV}{l:List (Int×Int×Int×Int×Bool)}(hx:eY x (l.map uJ))(hy:eY y (l.map uJ)):bG B (k+2) .NotEq x y false:=
 bG.Qx hx.G5 hy.G5 (RB l) (RB l) (by simp only[Ey];exact aHu l)
theorem cJ.aKy:cJ B k (.type "bool") [.val (.bool a)] (.bool a):=by
 intro A g s vs Q E R G bF KQ;obtain⟨v,rfl,hv⟩:=bF.bU;obtain rfl:=VR.bB hv;exact PySem.call_bool_bool (KQ _ _ _ (.refl G) (.bool _))
noncomputable def Kg:List (List Nat):=[[],[9],[200,9,70,1,9],[137,9,9],[73]]
noncomputable def nX(aR:Nat):List Nat:=Kg.getD (aR % 5) []
noncomputable def YN:bJ:=(Qn (Vl.getD 1 (.Pass ⟨0,0,0,0⟩))).2.2.getD (.Constant .none 0 ⟨0,0,0,0⟩)
noncomputable def FD:List dE:=match Vl with
 |[_,_,_,d,e]=>[d,e]
 |_=>[]
noncomputable def YY:List AV:=Kg.map λl=>.aO (aQ l)
theorem aGd(bl:eZ B){aR:Nat}{os:List Nat}{vars:aU}(n1:fP (bQ 21) vars "octets" (.own (aQ os)))(n2:fP (bQ 21) vars "mix" (.val (.int (aR:Int))))(hz:os.length<=200)(hb:∀n∈os++nX aR,n<256):aB B k (bQ 21) vars YN (IJ (os++nX aR)):=by
 have hm:aR % 5<5:=gY _ (by decide)
 have Rj:(nX aR).length<=5:=by
  unfold nX Kg;have:aR % 5=0\/aR % 5=1\/aR % 5=2\/aR % 5=3\/aR % 5=4:=(by decide:∀n,n<5->n=0\/n=1\/n=2\/n=3\/n=4) _ hm;rcases this with h|h|h|h|h<;>rw[h]<;>decide
 have aLz:YY[aR % 5]?=some (.aO (aQ (nX aR))):=by
  unfold nX YY Kg;have:aR % 5=0\/aR % 5=1\/aR % 5=2\/aR % 5=3\/aR % 5=4:=(by decide:∀n,n<5->n=0\/n=1\/n=2\/n=3\/n=4) _ hm;rcases this with h|h|h|h|h<;>rw[h]<;>rfl
 conv in YN=>whnf
 have cl:∀{es:List bJ} {p:dI} {l:List Nat},aZ B k (bQ 21) vars es ((aQ l).map .val)->l.length<=100->gQ B k (bQ 21) vars (.List es p) (.val (.aO (aQ l))):=λh hl=>aB.ar (aB.aO h (by rw[gM];exact fA hl rfl));refine' aB.blt (by walk_at"w") (.inr ⟨_,rfl⟩) rfl (aZ.c ?a1 .nil rfl) (cJ.bytes (.val _) hb (by rw[nV];exact aV (aG [_,_] [.l .x (.n 200),.l .y (.n 5),.l (.u (.n 1000)) (.a .x .y)] rfl hz Rj)))
 case a1=>
  rw[Ud]
  with_reducible refine' aB.ar ?e0
  case e0=>
  with_reducible refine' aB.dB ?b0 ?b01 ?b02
  case b0=>exact aB.name n1
  case b02=>exact cA.Pq (.own _) (.val _) (by rw[gM,gM,cU];exact aV (aG [_,_] [.l .x (.n 200),.l .y (.n 5),.l (.u (.n 16777216)) (.a .x .y)] rfl hz Rj))
  case b01=>
  with_reducible refine' aB.ar ?e1
  case e1=>
  with_reducible refine' aB.sub ?b1 ?b2 ?b5
  case b5=>exact iC.list (.val _) rfl aLz (by rw[cU];show 5<=16777216;decide)
  case b2=>exact aB.ar (aB.to (aB.dB (aB.name n2) (aB.ar aB.cC) (cA.mod (by decide))) (congrArg AV.int (by rw[vH _ (by decide)];rfl)))
  case b1=>
   with_reducible refine' aB.ar ?e5
   case e5=>
   with_reducible refine' aB.aO ?c1 ?z1
   case z1=>rw[cU];show 5<=16777216;decide
   case c1=>
    show aZ B k (bQ 21) vars _ [.val (.aO (aQ [])),.val (.aO (aQ [9])),.val (.aO (aQ [200,9,70,1,9])),.val (.aO (aQ [137,9,9])),.val (.aO (aQ [73]))]
    (with_reducible refine' aZ.c (cl aZ.nil (by decide)) ?q1 rfl)
    case q1=>
    (with_reducible refine' aZ.c ?p2 ?q2 rfl)
    case p2=>refine cl ?_ (by decide);show aZ B k (bQ 21) vars _ [.val (.int 9)];walk_at"w"
    case q2=>
    (with_reducible refine' aZ.c ?p3 ?q3 rfl)
    case p3=>refine cl ?_ (by decide);show aZ B k (bQ 21) vars _ [.val (.int 200),.val (.int 9),.val (.int 70),.val (.int 1),.val (.int 9)];walk_at"w"
    case q3=>
    (with_reducible refine' aZ.c ?p4 ?q4 rfl)
    case p4=>refine cl ?_ (by decide);show aZ B k (bQ 21) vars _ [.val (.int 137),.val (.int 9),.val (.int 9)];walk_at"w"
    case q4=>
    (with_reducible refine' aZ.c ?p5 aZ.nil rfl)
    case p5=>refine cl ?_ (by decide);show aZ B k (bQ 21) vars _ [.val (.int 73)];walk_at"w"
theorem aFz(bl:eZ B)(EF:oW B K)(ET:IT K)(gf:Xw B K){vars:aU}{es:List (Int×Int×Int×Int×Bool)}(lH:es.length<=100)(hv:vars.lookup ("entries":aC)=some (.val (.aO (es.map gV))))(hd:vars.lookup ("due":aC)=some (.own (es.map uJ))):
 bL B (k+3) {sc:=bQ 21} vars FD (.aO (es.map gV)):=by
 conv in FD=>whnf
 refine bL.sub (v1:=[("entries",.val (.aO (es.map gV))),("due",.own (es.map uJ))]) (.cons hv (.cons hd (.nil _))) ?_;refine' bL.ite (b:=false) ?t1 nofun λ_=>⟨_,aJ.nil,bL.ret (by walk_at"w")⟩
 case t1=>
  refine' bA.vL (iZ.Qv (b:=false) (c:=false) ?p2 λ_=>?q2)
  case p2=>
   refine' bA.cZ (aB.ar ?a3) (by walk_at"w") (bG.neD (.val _) (.own _)) rfl
   case a3=>
    refine' aB.to (eA.jO es gV (λe=>[("one",gV e)]) (λ_=>true) uJ (by walk_at"w") (cR.aO (by walk_at"w")) (by intro i _;exact .name _ _ _) (by intro i _;walk_at"w") (by intro i _;exact .of rfl) (by intro i _;exact .nil) (by intro e _ _;exact aB.blt (by walk_at"w") (.inr ⟨_,rfl⟩) rfl (aZ.c (by walk_at"w") .nil rfl) (cJ.aIk EF ET)) (fA lH rfl)).ev (by rw[pK.mpr λ_ _=>rfl])
  case q2=>
   refine' bA.cZ (aB.ar ?a5) (aB.ar (aB.aO aZ.nil (by decide))) (bG.B9 (l:=[]) (.val _) (.val _)) rfl
   case a5=>
    refine' aB.to (eA.jO es gV (λe=>[("one",gV e)]) (λ_=>false) gV (by walk_at"w") (cR.aO (by walk_at"w")) (by intro i _;exact .name _ _ _) (by intro i _;walk_at"w") (by intro i _;exact .of rfl) ?t6 (by intro e _ h;cases h) (fA lH rfl)).ev (congrArg AV.aO (by simp[aQ]))
    case t6=>
     intro e _;have hl:(("lasti":aC),4)∈([("start",0),("end",1),("target",2),("depth",3),("lasti",4)]:List (aC×Nat)):=by simp
     refine' jQ.bU (bA.to (bA.cZ (aB.ar (r:=.bool e.2.2.2.2) (aB.Wo (by walk_at"w") (λ_=>rfl) (zX.kO bl EF gf hl))) (aB.ar (r:=.bool e.2.2.2.2) (aB.blt (by walk_at"w") (.inr ⟨_,rfl⟩) rfl (aZ.c (aB.ar (aB.Wo (by walk_at"w") (λ_=>rfl) (zX.kO bl EF gf hl))) .nil rfl) cJ.aKy)) bG.CY rfl) (by simp))
end
section
variable {B:BD} {K:fB} {k:Nat} {A:bM} {g:aT} {s:aF}
def GP(B:BD):Prop:=∃fd a,kI B "_law_entries" fd (cH 21) a/\fd.scope=bQ 21/\∀s v1 v2,iU s fd ⟨[v1,v2],[]⟩ [("jobs",v1),("mix",v2)]
structure LF(B:BD)(K:fB):Prop where
 bl:eZ B
 ef:oW B K
 em:Aw B K
 et:IT K
 nf:Hl B
 vf:Dx B
 tf:IQ B
 gf:Xw B K
 nm:B.mg "_ExceptionTableEntry"=some (.ref 154)
 kp:Ta K (.ref 154)=true
theorem aDn(lf:LF B K)(L:uT B 21)(fo:kI B "_law_entries" fd (cH 21) a)(dC:fd.scope=bQ 21)(hb:∀s v1 v2,iU s fd ⟨[v1,v2],[]⟩ [("jobs",v1),("mix",v2)])(hj:dW.length=6)(wO:∀p∈dW,p.1<=p.2/\p.2<2^40)
 (kF:TB (mN aR dW++nX aR) (iW aR dW)) (rI:∀n∈mN aR dW++nX aR,n<256) (qI:(mN aR dW).length<=200) (R:dS B (k+6) A s.heap) (G:bI B g s.heap) (h1:VR B g v1 (.aO (dW.map kH))) (h2:VR B g v2 (.int (aR:Int)))
 (KQ:∀v s' g',bT B s g s' g'->VR B g' v (.aO ((iW aR dW).map gV))->Q v s'):aK (aW B) A (gL (.ref a) [v1,v2]) Q E s:=by
 have bl:=lf.bl;have gR:(iW aR dW).length<=100:=by unfold iW;rw[fE,Ck];exact Rc hj rfl
 obtain⟨ev,eB,pD,fL⟩:=R.frames;refine Uk (is:=[⟨"jobs",v1,0,.val (.aO (dW.map kH))⟩,⟨"mix",v2,0,.val (.int (aR:Int))⟩]) R.handled R.depth (by have:=R.units;omega) pD fL G (fo.at G) fo.nP (hb _ _ _) ?hs ?hv λaA cs s2 P0 hL=>?_
 case hs=>
  intro i hi;rw[dC];simp only[cE,cO,or_false] at hi;rcases hi with rfl|rfl<;>exact xQ rfl
 case hv=>
  intro i hi;simp only[cE,cO,or_false] at hi;rcases hi with rfl|rfl
  ·exact⟨_,rfl,h1⟩
  ·exact⟨_,rfl,h2⟩
 have P:eI B (k+5) (A.deeper aA) {sc:=bQ 21} (lA s g (aA::ev::eB)) aA cs (λ_=>0) [("jobs",.val (.aO (dW.map kH))),("mix",.val (.int (aR:Int)))] g s2:=
  ⟨P0.handled,P0.depth,P0.units,P0.frames,P0.mT,by rw[<-dC];exact P0.scope,by rw[<-dC];exact P0.cells,rfl,by rw[<-dC];exact P0.code,P0.st.sub (.of rfl)⟩
 rw[aF5];refine SO ?_;refine aDm bl hj wO (A.deeper aA) _ aA cs _ _ _ _ _ P λf s3 O=>?_;obtain⟨rfl,B7,g3,S3⟩:=O;have P3:=P.to S3;dsimp only;conv in Vl=>whnf
 refine lN (aGb L P3 rfl (by walk_at"w") (λ_=>rfl) (uL.nil.ok rfl) (by decide+kernel) (λ_=>rfl) (λy ys h=>S3.kd y _ h) λfc s0 g4 s4 P4 hfc=>?_);obtain⟨fdc,Eg⟩:=hfc;dsimp only;refine lN (aGa (l:=mN aR dW++nX aR) P4 Eg (aGd bl (by walk_at"w") (by walk_at"w") qI rI) (by walk_at"w") (λ_=>rfl) λs5 g5 P5 hby=>?_);dsimp only;refine lN (aDy bl lf.ef lf.em lf.nf lf.vf lf.tf lf.nm lf.kp kF gR P5 hby rfl (by walk_at"w") (by walk_at"w") (λ_=>rfl) λs6 g6 P6=>?_);dsimp only;show aK (aW B) (A.deeper aA) (execs FD aA) _ _ s6;obtain⟨V,hV⟩:=aFz bl lf.ef lf.et lf.gf (vars:=cT "entries" (.val (.aO ((iW aR dW).map gV))) (cT "code" (.val (fX 8 (.ref fc))) (wU dW aR (mN aR dW) (iW aR dW)))) gR (by unfold wU;rfl) (by unfold wU;rfl);refine hV (A.deeper aA) _ aA cs _ _ _ _ _ P6 λf s7 O=>?_;obtain⟨v,HG,g7,rfl,KU,S7⟩:=O;exact KQ v s7 g7 S7.Gh KU
end
section
variable {prog:iS} {w:iI} {A:bM} {E:aD->aF->Prop} {s:aF}
theorem z7(cY:s.heap.IsTupleIter it t i)(ht:s.heap.IsTuple t dG)(hx:dG[i]?=some x)
 (hQ:∀h',h'.IsTupleIter it t (i+1)->kU it s.heap h'->Q x {s with heap:=h'}):aK (model prog w) A (Jj (.ref it)) Q E s:=by
 obtain⟨o,ho,hc,hd⟩:=id cY;obtain⟨ol,qI,_,nl,gR⟩:=ht;unfold Jj;refine aM (zH cY.typeIs Ga (xB Ga cY.typeIs PW ?_ (PX _)));show aK _ _ (field (.ref it) 0>>=_) _ _ s;refine aM (nI ho hd rfl ?_);show aK _ _ (if(vG t==nG)=true then _ else _) _ _ s;rw[if_neg (show ¬((vG t==nG)=true) from Jh)];show aK _ _ (field (.ref it) 1>>=_) _ _ s;refine aM (nI ho hd rfl ?_);show aK _ _ (PY (.ref t)>>=_) _ _ s;refine aM (Cd qI gR ?_);simp only[rN,hx];refine aM (Nc ho hd (by simp) (bE ⟨x,rfl,bE (hQ _ ?_ (By ..))⟩))
 exact⟨_,wZ _ ho (BN (Fx hd _)),(PV ..).trans hc,by
  rw[Fx hd];simp[mI]⟩
theorem aAa(hh:A.handled=none)(cY:s.heap.IsTupleIter it t i)(ht:s.heap.IsTuple t dG)(hx:dG[i]?=none)
 (hE:∀h' e,OY it s.heap h'->(∃o,h'.get? e=some o/\o.cls=.type "StopIteration")->E (.ref e) {s with heap:=h'}):aK (model prog w) A (Jj (.ref it)) Q E s:=by
 obtain⟨o,ho,hc,hd⟩:=id cY;obtain⟨ol,qI,_,nl,gR⟩:=ht;unfold Jj;refine aM (zH cY.typeIs Ga (xB Ga cY.typeIs PW ?_ (PX _)));show aK _ _ (field (.ref it) 0>>=_) _ _ s;refine aM (nI ho hd rfl ?_);show aK _ _ (if(vG t==nG)=true then _ else _) _ _ s;rw[if_neg (show ¬((vG t==nG)=true) from Jh)];show aK _ _ (field (.ref it) 1>>=_) _ _ s;refine aM (nI ho hd rfl ?_);show aK _ _ (PY (.ref t)>>=_) _ _ s;refine aM (Cd qI gR ?_);simp only[rN,hx];refine aM (Jc (aM (Nc ho hd (by simp) ?_)));show aK _ _ (Tp (.type "StopIteration") []>>=_) _ _ _;refine aM (Uu λh' e x=>OP hh ?_);exact hE _ _ (λc o hc e=>x.keeps _ _ ((By ..).extBut c o hc e)) (CE x)
theorem aBh(hh:A.handled=none)(it t:aH)(dD:t≠it)(dG:Array aD):Draws prog w A it [it,t] dG.size (λi v=>dG[i]?=some v) (λi h=>h.IsTupleIter it t i/\h.IsTuple t dG) where
 live:=λ_ _ st=>by obtain⟨o,ho,_⟩:=st.1;exact⟨o,ho⟩
 frame:=λ_ _ _ st hk=>⟨by obtain⟨o,ho,r⟩:=st.1;exact⟨o,hk it (by simp) o ho,r⟩,by obtain⟨o,ho,r⟩:=st.2;exact⟨o,hk t (by simp) o ho,r⟩⟩
 item:=λi s Q E hi st hQ=>by
  refine z7 st.1 st.2 (x:=dG[i]) (by simp[hi]) λh' Px Rl=>?_;exact hQ _ h' s.toks (by simp[hi]) ⟨Px,by obtain⟨o,ho,r⟩:=st.2;exact⟨o,(Rl.2 t dD).trans ho,r⟩⟩ Rl
 done:=λs Q E st hE=>aAa hh st.1 st.2 (by simp) hE
end
theorem aB8(h:∀b,Q b s):aK (model prog w) A (aPa cls) Q E s:=by
 unfold aPa;exact aM (wpAny_stack_any λst=>bE (h _))
theorem y9(l:aH)(dG:Array aD)(n:Nat)(MS:Option aH)(sl:Array (Option aD)):
 Meets (kR.«enumerate.__new__» ⟨[.type "enumerate",.ref l],[]⟩) (λ_ R s=>s.heap.get? l=some {cls:=.type "tuple",dict:=MS,data:=.seq dG n,slots:=sl}/\
  R (.ok (.ret (.ref (s.heap.push {cls:=.type "tuple_iterator",data:=.fields #[.ref l,.int 0 0]}).objs.size)))
   {s with heap:=(s.heap.push {cls:=.type "tuple_iterator",data:=.fields #[.ref l,.int 0 0]}).push {cls:=.type "enumerate",data:=.fields #[.none,.bool false,.ref s.heap.objs.size,mI 0,.none,.none]}}):=
 .of_wp λprog w A R s h=>by
  obtain⟨hp,g,d,tk,os⟩:=s;obtain⟨hl,h⟩:=h;have lZ:=sub_enumerate;have hL:bH.IsTuple (d7 ⟨hp,g,d,tk,os⟩) l dG:=⟨_,hl,rfl,n,rfl⟩
  wp_walk using m7 hl,aB8
  intro c;cases c
  ·wp_walk using m7 hl,Y4 hL
   exact⟨_,rfl,h⟩
  ·wp_walk using m7 hl,Y4 hL
   exact⟨_,rfl,h⟩
theorem z6(hL:s.heap.IsTuple l dG)
 (h:∀h',Tc h' (s.heap.objs.size+1) s.heap.objs.size 0 .none->h'.IsTupleIter s.heap.objs.size l 0->(∀b o,s.heap.get? b=some o->h'.get? b=some o)->Q (.ref (s.heap.objs.size+1)) {s with heap:=h'}):
 aK (model prog w) A (gL (.type "enumerate") [.ref l]) Q E s:=by
 obtain⟨⟨c,MS,dt,sl⟩,hl,hc,n,hd⟩:=hL;replace hc:c=.type "tuple":=hc;replace hd:dt=.seq dG n:=hd;subst hc hd
 refine callType_new F.called_enumerate (by decide) (F.typeCall_enumerate_1 _) (F.newCall_enumerate_1 _) (λobj=>aO9 obj _) F.entry_enumerate_new
  (y9 l dG n MS sl) ⟨hl,?_⟩
 have hz:(s.heap.push {cls:=.type "tuple_iterator",data:=.fields #[.ref l,.int 0 0]}).objs.size=s.heap.objs.size+1:=tT ..;show _/\_;rw[hz]
 have he:Tc ((s.heap.push {cls:=.type "tuple_iterator",data:=.fields #[.ref l,.int 0 0]}).push
  {cls:=.type "enumerate",data:=.fields #[.none,.bool false,.ref s.heap.objs.size,mI 0,.none,.none]}) (s.heap.objs.size+1) s.heap.objs.size 0 .none:=by
  have:=gU (s.heap.push {cls:=.type "tuple_iterator",data:=.fields #[.ref l,.int 0 0]})
   (o:={cls:=.type "enumerate",data:=.fields #[.none,.bool false,.ref s.heap.objs.size,mI 0,.none,.none]}) rfl
  rw[hz] at this;exact this
 refine⟨⟨_,he,rfl⟩,h _ he ⟨_,eG _ (gU _ rfl),rfl,rfl⟩ λb o x=>eG _ (eG _ x)⟩
section
variable {B:BD} {k:Nat} {sc:bR} {vars:aU}
theorem cR.aKo(b:oN B sc "enumerate" (.type "enumerate"))(hn:eR [e]=true)(h:aB B k sc vars e (.cD xs)):
 cR B k sc vars (.Tuple sL n' tp) (.Call (.Name "enumerate" p) [e] [] pos) (Mini.Internal.tB 0 xs):=by
 refine cR.blt b (.inr ⟨_,rfl⟩) hn (.c h.ar .nil hn) λA g s vs Q E R G bF K=>?_;obtain⟨v,rfl,hv⟩:=bF.bU;obtain⟨l,vs,n,rfl,ho,r⟩:=VR.bB hv;refine z6 (G.Jv ho) λh' he hi hk=>?_;refine AJ he ?_;have Z:bT B s g {s with heap:=h'} g:=.of G (.of hk) λb _=>hk b;have hl:=gS (G.at ho);obtain⟨oi,Rm,_⟩:=id hi;refine K _ ⟨[s.heap.objs.size+1,s.heap.objs.size],[]⟩ _ _ Z (.kE (.refl G) hk (Iy _) (dH _) ⟨_,he⟩ ⟨oi,Rm⟩) ?_ (.Dv he)
 refine gB.Dv (Mr _) ?_ (λ_ _ x=>IsTupleIter.cM x.1)
  (λA hh=>aBh hh _ l (rP hl) _) he ⟨hi,Z.ok.Jv ho⟩ (by simp[r.length]) ?_ ?_
 ·intro hm
  rcases cE.mp hm with q|q
  ·exact absurd q (Mr _)
  ·exact absurd (cW.mp q) (wX (AA hl))
 ·intro b hb
  rcases cE.mp hb with rfl|hb
  ·exact .inl rfl
  ·rw[cW.mp hb];exact .inr ⟨_,ho,Z.ok.at ho⟩
 ·intro j x v hj hv
  obtain⟨v',h1,h2⟩:=r.get hj;have:v'=v:=by simp[h1] at hv;exact hv
  exact this▸h2
theorem bG.aKn(hx:eY x xs)(hy:eY y ys)(h:xs.length≠ys.length):bG B (k+1) .Eq x y false:=by
 intro A g s v w Q E R G hv hw K;obtain⟨a,vs,n,rfl,ha,rv⟩:=hx.oQ G hv;obtain⟨b,ws,m,rfl,hb,yJ⟩:=hy.oQ G hw;have l1:=rv.length;have l2:=yJ.length;simp only[aM6] at l1 l2;have rK:=ha;have dJ:=hb;refine P.eq_list_lengths rK dJ ?_ (by have:=R.units;exact bV (aG [_,_,_] [.l (.u (.a .x (.m 40 (.u .y)))) .z,.l .z .x] rfl this)) (K _ _ (.refl G));simp;exact λe=>h (l1.symm.trans (e.trans l2))
end
noncomputable def wC(xs:List Int):List Nat:=(xs.take 60).map λx=>(x % 1000000).toNat
noncomputable def Zt:List Nat:=[18,112,0,4,1,96,5033,4402]
noncomputable def Bq(t:List Nat):List Nat:=(iY 0 Zt).map λq=>q.2+(jG t (some (q.1:Int)) none (some 8)).sum
noncomputable def oX(d:List Nat):Nat:=d.getD 6 0 % 5000+1
noncomputable def Hs(d:List Nat):Nat:=d.getD 7 0 % 100000
noncomputable def Bs(d:List Nat):List Nat:=(d.take 6).map λbU=>bU % 16*oX d+Hs d
noncomputable def Xg(d:List Nat)(q:Nat×Nat):eX:=(q.1,q.1+(q.2/16 % 8+1)*oX d)
noncomputable def eN(d:List Nat):List eX:=((Bs d).zip d).map (Xg d)
noncomputable def lI(d:List Nat):Nat:=d.getD 7 0/100000 % 2+2
noncomputable def HR:List dE:=match cH 25 with
 |[a,b,c,d,e,_,_,_,_,_,_,_,_,_,_,_,_,_,_]=>[a,b,c,d,e]
 |_=>[]
noncomputable def HQ:List dE:=match cH 25 with
 |[_,_,_,_,_,a,b,c,d,_,_,_,_,_,_,_,_,_,_]=>[a,b,c,d]
 |_=>[]
noncomputable def HP:List dE:=match cH 25 with
 |[_,_,_,_,_,_,_,_,_,a,b,c,d,_,_,_,_,_,_]=>[a,b,c,d]
 |_=>[]
noncomputable def Xf:List dE:=match cH 25 with
 |[_,_,_,_,_,_,_,_,_,_,_,_,_,a,b,c,d,e,f]=>[a,b,c,d,e,f]
 |_=>[]
theorem aFf:cH 25=HR++(HQ++(HP++Xf)):=by rfl
theorem aCy(f:α->β)(l:List α)(a b c:Option Int):jG (l.map f) a b c=(jG l a b c).map f:=by
 unfold jG;rw[fE];induction Th (tS a b c l.length).1 (tS a b c l.length).2.1 (tS a b c l.length).2.2 with
 |nil=>rfl
 |cons i is ih=>
  rw[Ti,Ti,Bv];cases h:l[i]? with
  |none=>simpa using ih
  |some x=>simpa using ih
theorem DM(l:List Nat):(l.map λ(n:Nat)=>(n:Int)).sum=((l.sum:Nat):Int):=by
 induction l with
 |nil=>rfl
 |cons a l ih=>rw[nU,OF,OF,ih];push_cast;rfl
theorem SY:∀(a b:List Nat),Kr (aQ a) (aQ b)=(a.zip b).map λq=>.cD [.int (q.1:Int),.int (q.2:Int)]
 |[],_=>rfl
 |_::_,[]=>rfl
 |x::a,y::b=>by
  have:=SY a b;simp only[aQ] at this;simp[aQ,aIb,this]
section
variable {B:BD} {k:Nat} {F:Fn} {vars:aU}
theorem aJ.Mj(h1:aJ B k F vars l1 (.cF v1))(h2:aJ B k F v1 l2 out):aJ B k F vars (l1++l2) out:=λA aN aA cs own g s Q E P K=>by
 refine SO (h1 A aN aA cs own g s _ E P λf s' O=>?_);obtain⟨rfl,cS,g',S⟩:=O;exact h2 A aN aA cs cS g' s' Q E (P.to S) K
theorem aGq(xs:List Int):(wC xs).length<=60:=by unfold wC;rw[fE,qS];exact jK (rT _ _) rfl
theorem EH(t:List Nat):(Bq t).length=8:=by unfold Bq;rw[fE,Ck];rfl
noncomputable def HN(d:List Nat):aU:=[("draws",.val (.aO (aQ d))),("jobs",.val (.aO ((eN d).map kH)))]
theorem aFd(bl:eZ B)(xs:List Int)(hx:xs.length<=1000):aJ B k {sc:=bQ 25} [("script",.val (.aO (bW xs)))] HR (.cF (HN (Bq (wC xs)))):=by
 conv in HR=>whnf
 refine' aJ.cons (aP.xM (lv:=.own (aQ (wC xs))) ?a1 (by walk_at"w") (by nofun) (by walk_at"w")) ?r1
 case a1=>
  have e:aQ (wC xs)=((xs.take 60).filter λ_=>true).map λx=>AV.int (((x % 1000000).toNat:Nat):Int):=by
   rw[pK.mpr λ_ _=>rfl];unfold aQ wC;rw[fO];rfl
  rw[e];refine' eA.jO (xs.take 60) .int (λx=>[("x",.int x)]) (λ_=>true) (λx=>AV.int (((x % 1000000).toNat:Nat):Int)) (fv:=[]) (by walk_at"w") ?i2 (by intro i _;exact .name _ _ _) (by intro i _;walk_at"w") (by intro i _;exact .of rfl) (by intro i _;exact .nil) ?e2 (by rw[qS];exact fA (rT _ _) rfl)
  case i2=>
   refine' cR.aO (aB.to (aB.Ow (c:=none) (xs:=bW xs) (.val _) (aB.name (by walk_at"w")) .none (.some (i:=60) aB.cC) .none nofun (by rw[rU];exact fA hx rfl)) (by rw[show(60:Int)=((60:Nat):Int) from rfl,Nj];unfold bW;rw[BC]))
  case e2=>
   intro i _ _;refine aB.to (aB.dB (by walk_at"w") (aB.ar aB.cC) (cA.mod (by decide))) (congrArg AV.int ?_);rw[vH _ (by decide)];exact(xA (m8 _ (by decide))).symm
 case r1=>
 refine aJ.jF (y:="taken") rfl nofun ?_;have Rj:=aGq xs;generalize wC xs=t at Rj;refine' aJ.cons (v1:=[("draws",.own (aQ (Bq t)))]) ?s4 ?r4
 case s4=>
  have e:aQ (Bq t)=((iY 0 Zt).filter λ_=>true).map λq=>AV.int ((q.2+(jG t (some (q.1:Int)) none (some 8)).sum:Nat):Int):=by
   rw[pK.mpr λ_ _=>rfl];unfold aQ Bq;rw[fO];rfl
  rw[e];refine' aP.dT (aP.jO (iY 0 Zt) (λq=>.cD [.int (q.1:Int),.int (q.2:Int)]) (λq=>[("k",.int (q.1:Int)),("one",.int (q.2:Int))]) (λ_=>true) (λq=>AV.int ((q.2+(jG t (some (q.1:Int)) none (some 8)).sum:Nat):Int)) (fv:=[("taken",.val (.aO (aQ t)))]) (by walk_at"w") ?i5 (by intro i _;walk_at"w") (by intro i _;walk_at"w") (by intro i _;exact .of rfl) (by intro i _;exact .nil) ?e5 (by rw[Ck,cU];decide) rfl nofun (by walk_at"w")) (.of rfl)
  case i5=>
   rw[<-Uw (λn:Nat=>AV.int (n:Int))];refine' cR.aKo (by walk_at"w") rfl (aB.cD (xs:=Zt.map λn:Nat=>AV.int (n:Int)) ?e6 (by rw[cU];decide))
   case e6=>
    show aZ B k (bQ 25) _ _ [.val (.int 18),.val (.int 112),.val (.int 0),.val (.int 4),.val (.int 1),.val (.int 96),.val (.int 5033),.val (.int 4402)]
    walk_at"w"
  case e5=>
   intro q _ _;refine' aB.to (aB.dB (by walk_at"w") (aB.ar (r:=.int (((jG t (some (q.1:Int)) none (some 8)).sum:Nat):Int)) ?a7) cA.add) (congrArg AV.int (by push_cast;rfl))
   case a7=>
    refine' aB.to (aB.blt (v:=.builtin "sum") (by walk_at"w") (.inl ⟨_,rfl⟩) rfl (aZ.c (r:=.val (.aO (bW ((jG t (some (q.1:Int)) none (some 8)).map λ(n:Nat)=>(n:Int))))) ?a8 .nil rfl) (cJ.sum (.val _))) (by rw[DM])
    case a8=>
     refine' aB.ar (aB.to (aB.Ow (xs:=aQ t) (.val _) (aB.name (by walk_at"w")) (.some (i:=(q.1:Int)) (by walk_at"w")) .none (.some (i:=8) aB.cC) (by decide) (by rw[gM];exact fA Rj rfl)) (by rw[<-zP];unfold aQ;rw[aCy]))
 case r4=>
 refine aJ.jF (y:="draws") rfl nofun ?_;have gR:=EH t;generalize Bq t=d at gR;refine' aJ.cons (aP.Aj (lC:=[("unit",.val (.int (oX d:Int))),("origin",.val (.int (Hs d:Int)))]) false ?M2 (by show 2<=4096;decide) (by intro b hb;simp only[cE,cO,or_false] at hb;rcases hb with rfl|rfl<;>exact fR rfl) (by intro b hb;nofun) (.cons _ _ (.cons _ _ .nil)) (by walk_at"w")) ?JK
 case M2=>
  refine' gE.cons (aB.tD (by exact aB.to (aB.dB (aB.ar (aB.dB (aB.ar (aB.sub (by walk_at"w") (aB.ar aB.cC) (iC.Bg (i:=6) (.val _) (by exact Rb gR rfl) (by exact Li gR rfl)))) (aB.ar aB.cC) (cA.mod (by decide)))) (aB.ar aB.cC) cA.add) (congrArg AV.int (by rw[vH _ (by decide)];unfold oX;rfl)))) (gE.cons (aB.tD (by exact aB.to (aB.dB (aB.ar (aB.sub (by walk_at"w") (aB.ar aB.cC) (iC.Bg (i:=7) (.val _) (by exact Rb gR rfl) (by exact Li gR rfl)))) (aB.ar aB.cC) (cA.mod (by decide))) (congrArg AV.int (by rw[vH _ (by decide)];unfold Hs;rfl)))) gE.nil rfl) rfl
 case JK=>
 have O0:oX d<5001:=by unfold oX;have:=gY (d.getD 6 0) (show 0<5000 by decide);exact Nat.succ_lt_succ this
 refine' aJ.cons (v1:=[("begins",.own (aQ (Bs d))),("unit",.val (.int (oX d:Int))),("draws",.val (.aO (aQ d)))]) ?Yd ?Bd
 case Yd=>
  have e:aQ (Bs d)=((d.take 6).filter λ_=>true).map λbU=>AV.int ((bU % 16*oX d+Hs d:Nat):Int):=by
   rw[pK.mpr λ_ _=>rfl];unfold aQ Bs;rw[fO];rfl
  rw[e];refine' aP.dT (aP.jO (d.take 6) (λn:Nat=>.int (n:Int)) (λn=>[("one",.int (n:Int))]) (λ_=>true) (λbU=>AV.int ((bU % 16*oX d+Hs d:Nat):Int)) (fv:=[("origin",.val (.int (Hs d:Int))),("unit",.val (.int (oX d:Int)))]) (by walk_at"w") ?KP (by intro i _;exact .name _ _ _) (by intro i _;walk_at"w") (by intro i _;exact .of rfl) (by intro i _;exact .nil) ?MR (by rw[qS];exact fA (rT _ _) rfl) rfl nofun (by walk_at"w")) (.of rfl)
  case KP=>
   refine' cR.aO (aB.to (aB.Ow (c:=none) (xs:=aQ d) (.val _) (aB.name (by walk_at"w")) .none (.some (i:=6) aB.cC) .none nofun (by rw[gM];exact Li gR rfl)) (by rw[show(6:Int)=((6:Nat):Int) from rfl,Nj];unfold aQ;rw[BC]))
  case MR=>
   intro bU _ _;have Zm:(bU:Int) % 16<16/\0<=(bU:Int) % 16:=⟨aPb _ (by decide),m8 _ (by decide)⟩
   refine' aB.to (aB.dB (aB.ar (aB.dB (aB.ar (aB.to (aB.dB (by walk_at"w") (aB.ar aB.cC) (cA.mod (by decide))) (congrArg AV.int (vH _ (by decide))))) (by walk_at"w") (cA.mul (Fz (intBits_le_64 (by exact Ml (by decide) Zm.2) (by exact Mq Zm.1 (by decide))))))) (by walk_at"w") cA.add) (congrArg AV.int (by push_cast;rfl))
 case Bd=>
 refine aJ.jF (y:="begins") rfl nofun ?_;have hzl:((Bs d).zip d).length<=6:=by rw[aPc];unfold Bs;rw[fE,qS];exact aV (aG [_,_] [.l .x (.n 6),.l .y .x,.l (.u (.n 6)) .y] rfl (rT _ _) (rT _ _))
 refine' aJ.dT (aJ.jF (y:="jobs") (xs:=(eN d).map kH) rfl nofun aJ.nil|>aJ.cons (aP.xM ?Zv (by walk_at"w") (by nofun) (by walk_at"w"))) (.of rfl)
 case Zv=>
  have e:(eN d).map kH=(((Bs d).zip d).filter λ_=>true).map λq=>kH (Xg d q):=by
   rw[pK.mpr λ_ _=>rfl];unfold eN;rw[fO];rfl
  rw[e];refine' eA.jO ((Bs d).zip d) (λq:Nat×Nat=>.cD [.int (q.1:Int),.int (q.2:Int)]) (λq=>[("first",.int (q.1:Int)),("one",.int (q.2:Int))]) (λ_=>true) (λq=>kH (Xg d q)) (fv:=[("unit",.val (.int (oX d:Int)))]) (by walk_at"w") (by rw[<-SY];exact cR.Ww (by walk_at"w") rfl (by walk_at"w") (by walk_at"w")) (by intro i _;walk_at"w") (by intro i _;walk_at"w") (by intro i _;exact .of rfl) (by intro i _;exact .nil) ?e17 (fA hzl rfl)
  case e17=>
   intro q _ _;have h8:((q.2:Int)/16) % 8+1<10/\0<=((q.2:Int)/16) % 8+1:=⟨pF (cG [] [_] [.l (.u .x) (.n 8),.l (.n 10) (.u .x)] rfl (aPb (b:=8) _ (by decide))),lF (cG [] [_] [.l .o .x,.l (.u (.u .x)) .o] rfl (m8 _ (by decide)))⟩
   refine' aB.cD ?KL (by rw[cU];show 2<=16777216;decide)
   case KL=>
    refine' aZ.c (by walk_at"w") (aZ.c ?Em .nil rfl) rfl
    case Em=>
     refine' aB.ar (aB.to (aB.dB (by walk_at"w") (aB.ar (aB.dB (aB.ar (aB.to (aB.dB (aB.ar (aB.dB (aB.ar (aB.dB (by walk_at"w") (aB.ar aB.cC) (cA.fdiv (by decide) (by decide)))) (aB.ar aB.cC) (cA.mod (by decide)))) (aB.ar aB.cC) cA.add) (by rw[vH _ (by decide),Fm _ (by decide)]))) (by walk_at"w") (cA.mul (Fz (intBits_le_64 (Ml (by decide) h8.2) (Mq h8.1 (by decide))))))) cA.add) (congrArg AV.int (by push_cast;rfl)))
end
noncomputable abbrev Entry:=Int×Int×Int×Int×Bool
noncomputable def Ar(es:List Entry):List (List Int):=es.map λe=>[e.2.1,0,e.2.2.1.fdiv 2]
noncomputable def Aq(es:List Entry):List (List Int):=es.map λe=>[e.1,1,e.2.2.1.fdiv 2]
noncomputable def Zq(e:Ev):List Int:=[e.1,(e.2.1:Int),(e.2.2:Int)]
noncomputable def YU(l:List Int):AV:=.cD (bW l)
structure GO(es:List Entry)(ev:List Ev):Prop where
 len:es.length=6
 Sf:ev.length=12
 lt:∀e∈ev,e.2.2<6
 I7:∃rk:Nat->Int,qK 12 rk/\(∀i j,i<12->j<12->qF ((Ar es++Aq es).getD i []) ((Ar es++Aq es).getD j [])=decide (rk i<rk j))/\∀p,PA 12 p->Up rk p 12->(p.toList.map λi=>(Ar es++Aq es).getD i [])=ev.map Zq
noncomputable def Gp(ev:List Ev):aC:=Fo "" (ev.map λe=>L e.2.2)
section
variable {B:BD} {K:fB} {k:Nat} {F:Fn} {vars:aU}
theorem aDo(lf:LF B K)(L:uT B 21)(fo:kI B "_law_entries" fd (cH 21) a)(dC:fd.scope=bQ 21)(hb:∀s v1 v2,iU s fd ⟨[v1,v2],[]⟩ [("jobs",v1),("mix",v2)])(hj:dW.length=6)(wO:∀p∈dW,p.1<=p.2/\p.2<2^40)
 (kF:TB (mN aR dW++nX aR) (iW aR dW)) (rI:∀n∈mN aR dW++nX aR,n<256) (qI:(mN aR dW).length<=200):pE B (k+6) (.ref a) [] [.val (.aO (dW.map kH)),.val (.int (aR:Int))] (.aO ((iW aR dW).map gV)):=by
 intro A g s vs Q E R G bF KQ;obtain⟨v1,v2,rfl,h1,h2⟩:=bF.kE;exact aDn lf L fo dC hb hj wO kF rI qI R G h1 h2 KQ
theorem Ct(lf:LF B K)(h:(nm,n)∈([("start",0),("end",1),("target",2),("depth",3),("lasti",4)]:List (aC×Nat)))(hn:fP sc vars "one" (.val (gV e)))(hb:∀aA,wY (.Name "one" p) nm aA (eval (.Name "one" p) aA)=eval (.Name "one" p) aA):
 aB B (k+2) sc vars (.Attribute (.Name "one" p) nm q) (Gk e.1 e.2.1 e.2.2.1 e.2.2.2.1 e.2.2.2.2 n):=aB.Wo hn hb (zX.kO lf.bl lf.ef lf.gf h)
noncomputable def HM(d:List Nat)(es:List Entry)(ev:List Ev)(bf:List Nat):aU:=[("before",.val (.aO (aQ bf))),("events",.val (.aO (ev.map tF))),("entries",.val (.aO (es.map gV))),("hands",.val (.int (lI d:Int))),("draws",.val (.aO (aQ d))),("jobs",.val (.aO ((eN d).map kH)))]
theorem aFc(lf:LF B K)(L21:uT B 21)(ef:GP B)(hm:∃u,B.mg "ELLIPSIS_MARKER"=some (.str "..." u))(te:kA B 14 "_ellipsis_match" ["want","got"])(tb:kA B 22 "_law_before" ["word"]){d:List Nat}{es:List Entry}{ev:List Ev}{lo hi:Nat->Nat}{bt:Nat->Nat->Bool}
 (hd:d.length=8) (lH:iW (d.getD 6 0) (eN d)=es) (hj:(eN d).length=6) (wO:∀p∈eN d,p.1<=p.2/\p.2<2^40) (kF:TB (mN (d.getD 6 0) (eN d)++nX (d.getD 6 0)) es) (rI:∀n∈mN (d.getD 6 0) (eN d)++nX (d.getD 6 0),n<256) (qI:(mN (d.getD 6 0) (eN d)).length<=200)
 (eo:GO es ev) (W:Cv (Gp ev) lo hi bt):aJ B (k+7) {sc:=bQ 25} (HN d) HQ (.cF (HM d es ev (dR bt 6))):=by
 have bl:=lf.bl;have Rw:=eo.len;conv in HQ=>whnf
 unfold HN;refine' aJ.cons (aP.Aj (lC:=[("entries",.val (.aO (es.map gV))),("hands",.val (.int (lI d:Int)))]) true ?n1 (by show 2<=4096;decide) (by intro b hb;simp only[cE,cO,or_false] at hb;rcases hb with rfl|rfl<;>exact fR rfl) (by intro b hb;nofun) (.cons _ _ (.cons _ _ .nil)) (by walk_at"w")) ?r1
 case n1=>
  refine' gE.cons (aB.tD ?a2) (gE.cons (aB.tD ?b2) gE.nil rfl) rfl
  case a2=>
   obtain⟨fd,a,fo,dC,hb⟩:=ef;subst lH;refine aB.Wm rfl rfl fo rfl ?_ (aDo (k:=k+1) lf L21 fo dC hb hj wO kF rI qI);exact aZ.c (by walk_at"w") (aZ.c (aB.ar (aB.sub (by walk_at"w") (aB.ar aB.cC) (iC.Bg (i:=6) (.val _) (by exact Rb hd rfl) (by exact Li hd rfl)))) .nil rfl) rfl
  case b2=>
   refine aB.to (aB.dB (aB.ar (aB.dB (aB.ar (aB.dB (aB.ar (aB.sub (by walk_at"w") (aB.ar aB.cC) (iC.Bg (i:=7) (.val _) (by exact Rb hd rfl) (by exact Li hd rfl)))) (aB.ar aB.cC) (cA.fdiv (by decide) (by decide)))) (aB.ar aB.cC) (cA.mod (by decide)))) (aB.ar aB.cC) cA.add) (congrArg AV.int ?_);rw[vH _ (by decide),Fm _ (by decide)];unfold lI;rfl
 case r1=>
 refine aJ.sub (v1:=[("entries",.val (.aO (es.map gV))),("hands",.val (.int (lI d:Int))),("draws",.val (.aO (aQ d))),("jobs",.val (.aO ((eN d).map kH)))]) (.of rfl) ?_;refine' aJ.cons (aP.ite (b:=false) (out:=.cF _) (by exact bA.cZ (by walk_at"w") (aB.ar (aB.aO (xs:=[]) aZ.nil (by decide))) (bG.aKn (xs:=es.map gV) (ys:=[]) (.val _) (.val _) (by rw[fE,Rw];decide)) rfl) aJ.nil) ?r3
 case r3=>
 refine' aJ.cons (aP.assign (r:=.aO (ev.map tF)) ?a4 (fR rfl) (λ_=>rfl)) ?r4
 case a4=>
  obtain⟨rk,yD,yN,uO⟩:=eo.I7;have e1:ev.map tF=(ev.map Zq).map λl=>.cD (bW l):=by rw[fO];rfl
  rw[e1];refine' aB.blt (v:=.builtin "sorted") (by walk_at"w") (.inl ⟨_,rfl⟩) rfl (aZ.c (r:=.val (.aO ((Ar es++Aq es).map λl=>.cD (bW l)))) ?b5 .nil rfl) (cJ.aGt (n:=12) (c:=2) (by simp[Ar,Aq,Rw]) (by decide) (by decide) ?c5 yD yN uO)
  case c5=>
   intro l hl;rcases jV.mp hl with hl|hl
   ·obtain⟨e,_,rfl⟩:=gK.mp hl;rfl
   ·obtain⟨e,_,rfl⟩:=gK.mp hl;rfl
  case b5=>
   rw[Fh];refine' aB.ar (aB.dB (aB.ar ?d5) (aB.ar ?f5) (cA.Pq (.val _) (.val _) (by simp[Ar,Aq,Rw,cU])))
   case d5=>
    refine' aB.to (eA.jO es gV (λe=>[("one",gV e)]) (λ_=>true) (λe=>YU [e.2.1,0,e.2.2.1.fdiv 2]) (fv:=[]) (by walk_at"w") (cR.aO (by walk_at"w")) (by intro i _;exact .name _ _ _) (by intro i _;walk_at"w") (by intro i _;exact .of rfl) (by intro i _;exact .nil) ?e6 (by rw[Rw,cU];decide)).ev (by rw[pK.mpr λ_ _=>rfl];unfold Ar;rw[fO];rfl)
    case e6=>
     intro e _ _;refine' aB.cD (xs:=bW [e.2.1,0,e.2.2.1.fdiv 2]) ?i7 (by rw[cU];show 3<=16777216;decide)
     case i7=>
      show aZ _ _ _ _ _ [.val (.int e.2.1),.val (.int 0),.val (.int (e.2.2.1.fdiv 2))];refine' aZ.c (aB.ar (Ct (n:=1) lf (by simp) (by walk_at"w") (λ_=>rfl))) (aZ.c (aB.ar aB.cC) (aZ.c (aB.ar (aB.dB (aB.ar (Ct (n:=2) lf (by simp) (by walk_at"w") (λ_=>rfl))) (aB.ar aB.cC) (cA.fdiv (by decide) (by decide)))) .nil rfl) rfl) rfl
   case f5=>
    refine' aB.to (eA.jO es gV (λe=>[("one",gV e)]) (λ_=>true) (λe=>YU [e.1,1,e.2.2.1.fdiv 2]) (fv:=[]) (by walk_at"w") (cR.aO (by walk_at"w")) (by intro i _;exact .name _ _ _) (by intro i _;walk_at"w") (by intro i _;exact .of rfl) (by intro i _;exact .nil) ?e8 (by rw[Rw,cU];decide)).ev (by rw[pK.mpr λ_ _=>rfl];unfold Aq;rw[fO];rfl)
    case e8=>
     intro e _ _;refine' aB.cD (xs:=bW [e.1,1,e.2.2.1.fdiv 2]) ?i9 (by rw[cU];show 3<=16777216;decide)
     case i9=>
      show aZ _ _ _ _ _ [.val (.int e.1),.val (.int 1),.val (.int (e.2.2.1.fdiv 2))];refine' aZ.c (aB.ar (Ct (n:=0) lf (by simp) (by walk_at"w") (λ_=>rfl))) (aZ.c (aB.ar aB.cC) (aZ.c (aB.ar (aB.dB (aB.ar (Ct (n:=2) lf (by simp) (by walk_at"w") (λ_=>rfl))) (aB.ar aB.cC) (cA.fdiv (by decide) (by decide)))) .nil rfl) rfl) rfl
 case r4=>
 refine' aJ.dT (aJ.cons (aP.assign ?Zx (fR rfl) (λ_=>rfl)) aJ.nil) (.of rfl)
 case Zx=>
  refine' aB.Cx (args:=[.str (Gp ev)]) tb rfl rfl rfl (by walk_at"w") rfl ?qJ (fK.refl _) (aBn bl hm te W)
  case qJ=>
   refine' aZ.c (aB.ar ?j12) .nil rfl
   case j12=>
    have hc:cJ B (k+7) (.builtin "str.join") [.val (.str ""),.val (.aO (cK (ev.map λe=>L e.2.2)))] (.str (Gp ev)):=cJ.FU (.val _) (by decide) (by
     have:((ev.map λe=>L e.2.2).map (·.length)).sum<=(ev.map λe=>L e.2.2).length*1:=by
      have:=QZ ((ev.map λe=>L e.2.2).map (·.length)) 1 (λn hn=>by
       obtain⟨a,h,rfl⟩:=gK.mp hn;obtain⟨e,_,rfl⟩:=gK.mp h
       exact Io (Kp _))
      simpa using this
     rw[fE,eo.Sf] at this
     rw[fE,eo.Sf];exact aV (aG [_] [.l .x (.m 12 .i),.l (.u (.n 16777216)) (.a .x (.m 12 (.n 64)))] rfl this))
    with_reducible refine' aB.vO ?nN rfl ?nM rfl j6 j7 (by walk_at"w") ?jS hc
    case nN=>intro _;rfl
    case nM=>show 1<30;decide
    case jS=>
     refine' aZ.c (aB.ar ?c13) .nil rfl
     case c13=>
      refine' aB.to (eA.jO ev tF (λe=>[("at",.int e.1),("kind",.int (e.2.1:Int)),("k",.int (e.2.2:Int))]) (λ_=>true) (λe=>.str (L e.2.2)) (by walk_at"w") (cR.aO (by walk_at"w")) (by intro i _;walk_at"w") (by intro i _;walk_at"w") (by intro i _;exact .of rfl) (by intro i _;exact .nil) ?MR (by rw[eo.Sf,cU];decide)).ev (by rw[pK.mpr λ_ _=>rfl];unfold cK;rw[fO];rfl)
      case MR=>
       intro e he _;have h6:=eo.lt e he;refine aB.sub (by walk_at"w") (by walk_at"w") (iC.str rfl ?_ (by rw[cU];decide));rw[YR];have:e.2.2=0\/e.2.2=1\/e.2.2=2\/e.2.2=3\/e.2.2=4\/e.2.2=5:=(by decide:∀n,n<6->n=0\/n=1\/n=2\/n=3\/n=4\/n=5) _ h6;rcases this with h|h|h|h|h|h<;>rw[h]<;>rfl
end
theorem aP0:bX 6=[0,1,2,3,4,5]:=rfl
theorem aGe(b:Nat->Bool)(n:Nat):(((bX n).filter b).map λk=>2^k).sum=jP b n:=by
 induction n with
 |zero=>rfl
 |succ n ih=>
  rw[j9,aPd,Fh,List.sum_append_nat,ih];show _=jP b n+if b n then 2^n else 0
  congr 1;cases h:b n with
  |true=>rw[m9 h];rfl
  |false=>rw[o6 (by rw[h];nofun)];rfl
noncomputable def Ag(l:List Int)(q:Nat×Entry):List Int:=
 let l1:=hZ l (cP (λm=>decide (q.2.2.1<l.getD m 0)) 0 q.1) q.2.2.1
 hZ l1 (cP (λm=> !decide (l1.getD m 0<q.2.1)) (q.1+1) (2*q.1+1)) q.2.1
noncomputable def GL(es:List Entry):List Int:=(iY 0 es).foldl Ag []
theorem aD0:(Ag l q).length=l.length+2:=by unfold Ag;simp only[Gb]
structure FJ(J:List eX)(es:List Entry)(S1 S2:List Int):Prop where
 p1:S1.Perm (J.map λp=>2*(p.2:Int))
 s1:S1.Pairwise (·<= ·)
 p2:S2.Perm (J.map λp=>2*(p.1:Int))
 s2:S2.Pairwise (·<= ·)
 eq:GL es=S1++S2
section
variable {B:BD} {K:fB} {k:Nat} {F:Fn} {vars:aU}
theorem aHn{J:List eX}(hJ:J.length=6){i:Nat}(hi:i<6):(J.map kH)[i]?=some (kH (J.getD i (0,0))):=by
 rw[Bv,oO (wG hJ hi),iJ,oO (wG hJ hi)];rfl
theorem VY{sc:bR}{vars:aU}{J:List eX}(hJ:J.length=6){i:Nat}(hi:i<6){e1 e2:bJ}{p:dI}(h1:aB B k sc vars e1 (.aO (J.map kH)))(h2:aB B k sc vars e2 (.int (i:Int))):aB B k sc vars (.Subscript e1 e2 p) (kH (J.getD i (0,0))):=
 aB.sub (aB.ar h1) (aB.ar h2) (iC.list (.val _) rfl (aHn hJ hi) (by rw[fE,hJ,cU];decide))
noncomputable def Ds(d:List Nat)(es:List Entry)(ev:List Ev)(bf:List Nat)(l:List Int):aU:=[("both",.own (bW l)),("order",.own (aQ [])),("other",.own (aQ [])),("before",.val (.aO (aQ bf))),("events",.val (.aO (ev.map tF))),("entries",.val (.aO (es.map gV))),("hands",.val (.int (lI d:Int))),("draws",.val (.aO (aQ d))),("jobs",.val (.aO ((eN d).map kH)))]
theorem aFb(lf:LF B K)(Ql:kJ B 9 "bisect_right")(IZ:kJ B 8 "insort_right")(Qm:kJ B 11 "bisect_left")(JA:kJ B 10 "insort_left"){d:List Nat}{es:List Entry}{ev:List Ev}{bt:Nat->Nat->Bool}{S1 S2:List Int}
 (lH:es.length=6) (hj:(eN d).length=6) (Zd:∀j k,j<6->k<6->bt j k=decide (((eN d).getD k (0,0)).2<=((eN d).getD j (0,0)).1)) (bo:FJ (eN d) es S1 S2):
 aJ B (k+4) {sc:=bQ 25} (HM d es ev (dR bt 6)) HP (.cF (Ds d es ev (dR bt 6) (S1++S2))):=by
 have bl:=lf.bl;conv in HP=>whnf
 refine' aJ.cons (aP.ite (b:=false) (out:=.cF _) ?t1 aJ.nil) ?r1
 case t1=>
  have e0:dR bt 6=((bX 6).filter λ_=>true).map λj=>jP (bt j) 6:=by
   rw[pK.mpr λ_ _=>rfl];exact zG λj hj=>if_pos (fY.mp hj)
  unfold HM;refine' bA.to (bA.cZ (by walk_at"w") (aB.ar (r:=.aO (aQ (dR bt 6))) ?a2) (bG.Qy (k:=k+2) (.val _) (.val _)) rfl) (by simp)
  case a2=>
   rw[e0];refine' aB.to (eA.jO (bX 6) (λj:Nat=>.int (j:Int)) (λj:Nat=>[("j",.int (j:Int))]) (λ_=>true) (λj=>AV.int ((jP (bt j) 6:Nat):Int)) (fv:=[("jobs",.val (.aO ((eN d).map kH)))]) (by walk_at"w") (by rw[<-xJ];refine' cR.xS (n:=6) (by walk_at"w") rfl (by walk_at"w") rfl (by decide)) (by intro i _;exact .name _ _ _) (by intro i _;walk_at"w") (by intro i _;exact .of rfl) (by intro i _;exact .nil) ?e2 (by rw[cU];decide)).ev (by unfold aQ;rw[fO];rfl)
   case e2=>
    intro j Lw _;have Lw:=fY.mp Lw;have e1:((((bX 6).filter (bt j)).map λk=>2^k).map λ(n:Nat)=>(n:Int)).sum=((jP (bt j) 6:Nat):Int):=by rw[DM,aGe]
    refine' aB.to (aB.blt (v:=.builtin "sum") (by walk_at"w") (.inl ⟨_,rfl⟩) rfl (aZ.c (r:=.val (.aO (bW ((((bX 6).filter (bt j)).map λk=>2^k).map λ(n:Nat)=>(n:Int))))) ?a4 .nil rfl) (cJ.sum (.val _))) (congrArg AV.int e1)
    case a4=>
     refine' aB.ar (aB.to (eA.jO (bX 6) (λi:Nat=>.int (i:Int)) (λi:Nat=>[("k",.int (i:Int))]) (bt j) (λi=>AV.int ((2^i:Nat):Int)) (fv:=[("j",.val (.int (j:Int))),("jobs",.val (.aO ((eN d).map kH)))]) (by walk_at"w") (by rw[<-xJ];refine' cR.xS (n:=6) (by walk_at"w") rfl (by walk_at"w") rfl (by decide)) (by intro i _;exact .name _ _ _) (by intro i _;walk_at"w") (by intro i _;exact .of rfl) ?t5 ?e5 (by rw[cU];decide)).ev (by unfold bW;rw[fO,fO];rfl))
     case e5=>
      intro i hi _;have hi:=fY.mp hi;refine aB.to (aB.dB (aB.ar aB.cC) (by walk_at"w") (cA.pow (jM _) ?_)) (congrArg AV.int (by rw[rN];push_cast;rfl));have:(NU 2:Int)=2:=by decide
      rw[this];exact rM (NK (zA.mpr (eO hi)) (by decide)) (by decide)
     case t5=>
      intro i hi;have hi:=fY.mp hi;refine' jQ.bU (bA.to (bA.cZ (aB.ar (by exact aB.sub (x:=.val (kH ((eN d).getD i (0,0)))) (aB.ar (VY hj hi (by walk_at"w") (by walk_at"w"))) (aB.ar aB.cC) (iC.cD (j:=1) rfl rfl (by rw[cU];show 2<=16777216;decide)))) (aB.ar (by exact aB.sub (x:=.val (kH ((eN d).getD j (0,0)))) (aB.ar (VY hj Lw (by walk_at"w") (by walk_at"w"))) (aB.ar aB.cC) (iC.cD (j:=0) rfl rfl (by rw[cU];show 2<=16777216;decide)))) bG.le rfl) (show decide ((((eN d).getD i (0,0)).2:Int)<=(((eN d).getD j (0,0)).1:Int))=bt j i by rw[Zd j i Lw hi];simp))
 case r1=>
 refine' aJ.cons (aP.Aj (lC:=[("both",.own (bW [])),("order",.own (aQ [])),("other",.own (aQ []))]) false (gE.cons eA.nil (gE.cons eA.nil (gE.cons eA.nil gE.nil rfl) rfl) rfl) (by show 3<=4096;decide) (by intro b hb;simp only[cE,cO,or_false] at hb;rcases hb with rfl|rfl|rfl<;>exact fR rfl) (by intro b hb;nofun) (.cons _ _ (.cons _ _ (.cons _ _ .nil))) (by walk_at"w")) ?r8
 case r8=>
 refine aJ.sub (v1:=Ds d es ev (dR bt 6) []) (.of rfl) ?_;refine' aJ.cons (v1:=Ds d es ev (dR bt 6) (GL es)) ?s9 ?r9
 case s9=>
  unfold GL;refine' aP.Ad Ag (λl=>Ds d es ev (dR bt 6) l) (λdn l=>l.length=2*dn.length) (λq:Nat×Entry=>.cD [.int (q.1:Int),gV q.2]) (λq=>[("k",.int (q.1:Int)),("one",gV q.2)]) (iY 0 es) [] (by rw[<-Uw];exact cR.tB (by walk_at"w") rfl (by walk_at"w")) (λ_ _=>rfl) rfl (by intro q _;walk_at"w") (by intro q _;walk_at"w") ?Bb
  case Bb=>
   intro dn q r l hL hP
   have gR:dn.length+1<=6:=by
    have:=congrArg rS hL;rw[Ck] at this;simp at this;exact aV (aG [_,_,_] [.e .x (.n 6),.f .x (.a .y (.u .z)),.l (.u (.n 6)) (.u .y)] rfl lH this)
   have O4:q.1=dn.length:=by
    have h1:(iY 0 es)[dn.length]?=some q:=by rw[hL];simp
    have h2:∀(l:List Entry) (i n:Nat) (q:Nat×Entry),(iY i l)[n]?=some q->q.1=i+n:=by
     intro l;induction l with
     |nil=>intro i n q h;cases h
     |cons x l ih=>
      intro i n q h;cases n with
      |zero=>cases h;rfl
      |succ n=>rw[EG,List.getElem?_cons_succ] at h;have:=ih (i+1) n q h;exact eQ (aG [_,_,_] [.f .x (.a (.u .y) .z),.l (.u .x) (.a .y (.u .z))] rfl this) (aG [_,_,_] [.e .x (.a (.u .y) .z),.l (.u (.a .y (.u .z))) .x] rfl this)
    have:=h2 es 0 _ _ h1;exact eQ (aG [_,_] [.f .x (.a .o .y),.l (.u .x) .y] rfl this) (aG [_,_] [.e .x (.a .o .y),.l (.u .y) .x] rfl this)
   refine⟨by rw[aD0,hP,nV,BP];exact eQ (aG [_] [.l (.u (.a (.m 2 .x) (.n 2))) (.m 2 (.u .x))] rfl) (aG [_] [.l (.u (.m 2 (.u .x))) (.a (.m 2 .x) (.n 2))] rfl),?_⟩;unfold Ds;refine' aJ.dT (aJ.cons (aP.C6 (k:=k+2) (XX bl Ql) IZ (y:="both") (l:=l) (x:=q.2.2.1) (lo:=0) (hi:=q.1) (by walk_at"w") (by exact aV (aG [_,_] [.e .x (.m 2 .y),.L 2 (.u .y) (.n 6),.l (.u (.n 100)) .x] rfl hP gR)) (by exact iR _) (by exact aV (aG [_,_,_] [.f .x (.m 2 .y),.E 2 .z .y,.L 2 (.u .x) .z] rfl hP O4)) rfl rfl ?qJ) (aJ.cons (aP.C6 (k:=k+2) (XY bl Qm) JA (y:="both") (l:=hZ l (cP (λm=>decide (q.2.2.1<l.getD m 0)) 0 q.1) q.2.2.1) (x:=q.2.1) (lo:=q.1+1) (hi:=2*q.1+1) (by walk_at"w") (by rw[Gb];exact aV (aG [_,_] [.e .x (.m 2 .y),.L 2 (.u .y) (.n 6),.l (.u (.n 100)) (.u .x)] rfl hP gR)) (by exact aV (aG [_] [.l (.u (.u (.m 2 .x))) (.u .x)] rfl)) (by rw[Gb];exact aV (aG [_,_,_] [.f .x (.m 2 .y),.E 2 .z .y,.l (.u (.u .x)) (.u (.m 2 .z))] rfl hP O4)) rfl rfl ?En) aJ.nil)) (.of rfl)
   case qJ=>
    refine' aZ.c (aB.ar (Ct (k:=k+2) (n:=1) lf (by simp) (by walk_at"w") (λ_=>rfl))) (aZ.c (aB.ar aB.cC) (aZ.c (by walk_at"w") .nil rfl) rfl) rfl
   case En=>
    refine' aZ.c (aB.ar (Ct (k:=k+2) (n:=0) lf (by simp) (by walk_at"w") (λ_=>rfl))) (aZ.c (aB.ar (aB.to (aB.dB (by walk_at"w") (aB.ar aB.cC) cA.add) (congrArg AV.int (by push_cast;rfl)))) (aZ.c (aB.ar (aB.to (aB.dB (aB.ar (aB.dB (aB.ar aB.cC) (by walk_at"w") (cA.mul (Fz (by decide))))) (aB.ar aB.cC) cA.add) (congrArg AV.int (by push_cast;rfl)))) .nil rfl) rfl) rfl
 case r9=>
 rw[bo.eq];have l1:=bo.p1.length_eq;have l2:=bo.p2.length_eq;rw[fE,hj] at l1 l2;refine' aJ.cons (aP.ite (b:=false) ?JD aJ.nil) aJ.nil
 case JD=>
  unfold Ds;refine' bA.to (bA.cZ (by walk_at"w") (aB.ar (r:=.aO (bW (S1++S2))) ?yZ) (bG.JT (.own _) (.val _)) rfl) (by simp)
  case yZ=>
   have hu:∀{l S:List Int},S.Perm l->S.Pairwise (·<= ·)->∀m:List Int,m.Perm l->m.Pairwise (·<= ·)->m=S:=λp s m p' s'=>aPe (λa b _ _ h1 h2=>Sv h1 h2) s' s (p'.trans p.symm);have ea:bW (S1++S2)=bW S1++bW S2:=Fh;rw[ea];refine' aB.dB (aB.ar ?Sn) (aB.ar ?c14) (cA.Pq (.val _) (.val _) (by rw[rU,rU,l1,l2,cU];decide))
   case Sn=>
    refine' aB.blt (by walk_at"w") (.inl ⟨_,rfl⟩) rfl (aZ.c (aB.ar ?d15) .nil rfl) (cJ.sorted (by rw[fE,hj];decide) (hu bo.p1 bo.s1))
    case d15=>
     refine' aB.to (eA.jO (eN d) kH (λp=>[("first",.int (p.1:Int)),("behind",.int (p.2:Int))]) (λ_=>true) (λp=>AV.int (2*(p.2:Int))) (by walk_at"w") (cR.aO (by walk_at"w")) (by intro i _;walk_at"w") (by intro i _;walk_at"w") (by intro i _;exact .of rfl) (by intro i _;exact .nil) (by intro p _ _;exact aB.dB (aB.ar aB.cC) (by walk_at"w") (cA.mul (Fz (by decide)))) (by rw[hj,cU];decide)).ev (by rw[pK.mpr λ_ _=>rfl];unfold bW;rw[fO];rfl)
   case c14=>
    refine' aB.blt (by walk_at"w") (.inl ⟨_,rfl⟩) rfl (aZ.c (aB.ar ?d17) .nil rfl) (cJ.sorted (by rw[fE,hj];decide) (hu bo.p2 bo.s2))
    case d17=>
     refine' aB.to (eA.jO (eN d) kH (λp=>[("first",.int (p.1:Int)),("behind",.int (p.2:Int))]) (λ_=>true) (λp=>AV.int (2*(p.1:Int))) (by walk_at"w") (cR.aO (by walk_at"w")) (by intro i _;walk_at"w") (by intro i _;walk_at"w") (by intro i _;exact .of rfl) (by intro i _;exact .nil) (by intro p _ _;exact aB.dB (aB.ar aB.cC) (by walk_at"w") (cA.mul (Fz (by decide)))) (by rw[hj,cU];decide)).ev (by rw[pK.mpr λ_ _=>rfl];unfold bW;rw[fO];rfl)
end
noncomputable def Co(es:List Entry)(S:List Int):List Nat:=es.map λe=>cP (λm=>decide (e.1<S.getD m 0)) 0 6
noncomputable def dN(es:List Entry)(S:List Int):List Nat:=es.map λe=>12-cP (λm=> !decide (S.getD m 0<e.2.1)) 6 12
noncomputable def fJ(hs:List Nat)(i:Nat):Int:= -((hs.getD i 0:Nat):Int)
noncomputable def Dp(hs l:List Nat)(x:Nat):List Nat:=hZ l (cP (λm=>decide (fJ hs x<fJ hs (l.getD m 0))) 0 l.length) x
noncomputable def Dq(hs l:List Nat)(x:Nat):List Nat:=hZ l (cP (λm=> !decide (fJ hs (l.getD m 0)<fJ hs x)) 0 l.length) x
noncomputable def Cr(hs:List Nat):List Nat:=(bX 6).foldl (Dp hs) []
noncomputable def Cq(hs:List Nat):List Nat:=(bX 6).foldl (Dq hs) []
structure Uz(es:List Entry)(S:List Int)(bf:List Nat):Prop where
 len:S.length=12
 ZA:Co es S=bf.map λb=>((bX 6).filter b.testBit).length
 holds:dN es S=(bX 6).map λk=>(bf.filter (·.testBit k)).length
 ord:∃rk:Nat->Int,qK 6 rk/\(∀i j,i<6->j<6->qF [fJ (dN es S) i,(i:Int)] [fJ (dN es S) j,(j:Int)]=decide (rk i<rk j))/\∀p,PA 6 p->Up rk p 6->p.toList=Cr (dN es S)
 Lj:∃rk:Nat->Int,qK 6 rk/\(∀i j,i<6->j<6->qF [fJ (dN es S) i,-(i:Int)] [fJ (dN es S) j,-(j:Int)]=decide (rk i<rk j))/\∀p,PA 6 p->Up rk p 6->p.toList=Cq (dN es S)
theorem SH(h:y∈hZ l r x):y=x\/y∈l:=by
 unfold hZ at h;rcases jV.mp h with h|h
 ·exact .inr (BQ h)
 ·rcases cE.mp h with h|h
  ·exact .inl h
  ·exact .inr (o7 h)
noncomputable def Dr(d:List Nat)(es:List Entry)(ev:List Ev)(bf:List Nat)(S:List Int)(o1 o2:List Nat):aU:=[("order",.own (aQ o1)),("other",.own (aQ o2)),("holds",.val (.aO (aQ (dN es S)))),("before",.val (.aO (aQ bf))),("events",.val (.aO (ev.map tF))),("hands",.val (.int (lI d:Int))),("draws",.val (.aO (aQ d)))]
noncomputable def GB:List dE:=match Xf with
 |[a,b,c,_,_,_]=>[a,b,c]
 |_=>[]
noncomputable def GA:List dE:=match Xf with
 |[_,_,_,a,b,c]=>[a,b,c]
 |_=>[]
theorem aHk:Xf=GB++GA:=by rfl
section
variable {B:BD} {K:fB} {k:Nat} {F:Fn} {vars:aU}
theorem YO{vars:aU}{sc:bR}{b i:Nat}{p1 p2 p3 p4 p5:dI}(h1:fP sc vars "one" (.val (.int (b:Int))))(h2:fP sc vars "k" (.val (.int (i:Int)))):
 bA B k sc vars (.BinOp (.BinOp (.Name "one" p1) .RShift (.Name "k" p2) p3) .BitAnd (.Constant (.int 1) 0 p4) p5) (b.testBit i):=
 bA.to (bA.val (aB.ar (aB.dB (aB.ar (aB.dB (aB.name h1) (aB.name h2) (cA.shr (jM _)))) (aB.ar aB.cC) cA.band)) lR.int (λ_ _=>rfl)) (Uy b i)
theorem aDa(lf:LF B K)(Ql:kJ B 9 "bisect_right")(Qm:kJ B 11 "bisect_left"){d:List Nat}{es:List Entry}{ev:List Ev}{bf:List Nat}{S:List Int}
 (lH:es.length=6) (Ei:bf.length=6) (of:Uz es S bf):
 aJ B (k+3) {sc:=bQ 25} (Ds d es ev bf S) GB (.cF (Dr d es ev bf S [] [])):=by
 have bl:=lf.bl;have hS:=of.len;conv in GB=>whnf
 unfold Ds;refine aJ.jF (y:="both") rfl nofun ?_;refine' aJ.cons (v1:=[("pasts",.own (aQ (Co es S))),("both",.val (.aO (bW S))),("order",.own (aQ [])),("other",.own (aQ [])),("before",.val (.aO (aQ bf))),("events",.val (.aO (ev.map tF))),("entries",.val (.aO (es.map gV))),("hands",.val (.int (lI d:Int))),("draws",.val (.aO (aQ d)))]) ?s1 ?r1
 case s1=>
  have e:aQ (Co es S)=(es.filter λ_=>true).map λe=>AV.int ((cP (λm=>decide (e.1<S.getD m 0)) 0 6:Nat):Int):=by
   rw[pK.mpr λ_ _=>rfl];unfold aQ Co;rw[fO];rfl
  rw[e];refine' aP.dT (aP.jO es gV (λe=>[("one",gV e)]) (λ_=>true) (λe=>AV.int ((cP (λm=>decide (e.1<S.getD m 0)) 0 6:Nat):Int)) (fv:=[("both",.val (.aO (bW S)))]) (by walk_at"w") (cR.aO (by walk_at"w")) (by intro i _;exact .name _ _ _) (by intro i _;walk_at"w") (by intro i _;exact .of rfl) (by intro i _;exact .nil) ?e2 (by rw[lH,cU];decide) rfl nofun (by walk_at"w")) (.of rfl)
  case e2=>
   intro e _ _;refine' aB.IK (k:=k+2) (FF bl) Ql (l:=S) (x:=e.1) (lo:=0) (hi:=some 6) (.val _) (by exact Rc hS rfl) (by show 0<=6;decide) (by show 6<=S.length;exact aV (aG [_] [.f .x (.n 12),.l (.u .x) (.n 6)] rfl hS)) rfl rfl ?a3
   case a3=>
    refine' aZ.c (by walk_at"w") (aZ.c (aB.ar (Ct (k:=k+1) (n:=0) lf (by simp) (by walk_at"w") (λ_=>rfl))) (aZ.c (aB.ar aB.cC) (aZ.c (aB.ar aB.cC) .nil rfl) rfl) rfl) rfl
 case r1=>
 refine aJ.jF (y:="pasts") rfl nofun ?_;refine' aJ.cons (aP.xM (lv:=.own (aQ (dN es S))) ?a4 (by walk_at"w") (by nofun) (by walk_at"w")) ?r4
 case a4=>
  have e:aQ (dN es S)=(es.filter λ_=>true).map λe=>AV.int ((12-cP (λm=> !decide (S.getD m 0<e.2.1)) 6 12:Nat):Int):=by
   rw[pK.mpr λ_ _=>rfl];unfold aQ dN;rw[fO];rfl
  rw[e];refine' eA.jO es gV (λe=>[("one",gV e)]) (λ_=>true) (λe=>AV.int ((12-cP (λm=> !decide (S.getD m 0<e.2.1)) 6 12:Nat):Int)) (fv:=[("both",.val (.aO (bW S)))]) (by walk_at"w") (cR.aO (by walk_at"w")) (by intro i _;exact .name _ _ _) (by intro i _;walk_at"w") (by intro i _;exact .of rfl) (by intro i _;exact .nil) ?e5 (by rw[lH,cU];decide)
  case e5=>
   intro e _ _;have hb:=(Cu (λm=> !decide (S.getD m 0<e.2.1)) (show 6<=12 by decide)).2;refine' aB.to (aB.dB (aB.ar aB.cC) (aB.ar (aB.to (aB.aKz (k:=k+2) (FG bl) Qm (l:=S) (x:=e.2.1) (lo:=6) (.val _) (by exact Rc hS rfl) (by exact aV (aG [_] [.f .x (.n 12),.l (.u .x) (.n 6)] rfl hS)) rfl rfl ?a6) (congrArg (λn=>AV.int ((cP (λm=> !decide (S.getD m 0<e.2.1)) 6 n:Nat):Int)) hS))) cA.sub) (congrArg AV.int (by exact(PI hb).symm))
   case a6=>
    refine' aZ.c (by walk_at"w") (aZ.c (aB.ar (Ct (k:=k+1) (n:=1) lf (by simp) (by walk_at"w") (λ_=>rfl))) (aZ.c (aB.ar aB.cC) .nil rfl) rfl) rfl
 case r4=>
 refine aJ.jF (y:="holds") rfl nofun ?_;refine' aJ.dT (aJ.cons (aP.ite (b:=false) (out:=.cF _) ?t7 aJ.nil) aJ.nil) (.of rfl)
 case t7=>
  refine' bA.vL (iZ.Qv (b:=false) (c:=false) ?p8 λ_=>?q8)
  case p8=>
   refine' bA.to (bA.cZ (x:=.val (.aO (aQ (Co es S)))) (by walk_at"w") (aB.ar (r:=.aO (aQ (Co es S))) ?a9) (bG.Qy (k:=k+1) (.val _) (.val _)) rfl) (by simp)
   case a9=>
    rw[of.ZA];refine' aB.to (eA.jO bf (λb:Nat=>.int (b:Int)) (λb:Nat=>[("one",.int (b:Int))]) (λ_=>true) (λb=>AV.int ((((bX 6).filter b.testBit).length:Nat):Int)) (fv:=[]) (by walk_at"w") (cR.aO (by walk_at"w")) (by intro i _;exact .name _ _ _) (by intro i _;walk_at"w") (by intro i _;exact .of rfl) (by intro i _;exact .nil) ?Zr (by rw[Ei,cU];decide)).ev (by rw[pK.mpr λ_ _=>rfl];unfold aQ;rw[fO];rfl)
    case Zr=>
     intro b _ _;have yR:=xF b.testBit (bX 6);rw[Fy] at yR;refine' aB.to (aB.blt (v:=.builtin "len") (by walk_at"w") (.inl ⟨_,rfl⟩) rfl (aZ.c (r:=.val (.aO (aQ ((bX 6).filter b.testBit)))) (aB.ar ?qJ) .nil rfl) (cJ.yB (.val _) (by rw[gM];exact fA yR rfl))) (by rw[gM])
     case qJ=>
      refine'(eA.jO (bX 6) (λi:Nat=>.int (i:Int)) (λi:Nat=>[("k",.int (i:Int))]) b.testBit (λi=>AV.int (i:Int)) (fv:=[("one",.val (.int (b:Int)))]) (by walk_at"w") (by rw[<-xJ];refine' cR.xS (n:=6) (by walk_at"w") rfl (by walk_at"w") rfl (by decide)) (by intro i _;exact .name _ _ _) (by intro i _;walk_at"w") (by intro i _;exact .of rfl) (by intro i _;exact jQ.bU (YO (by walk_at"w") (by walk_at"w"))) (by intro i _ _;walk_at"w") (by rw[cU];decide)).ev
  case q8=>
   refine' bA.to (bA.cZ (x:=.val (.aO (aQ (dN es S)))) (by walk_at"w") (aB.ar (r:=.aO (aQ (dN es S))) ?yZ) (bG.Qy (.val _) (.val _)) rfl) (by simp)
   case yZ=>
    rw[of.holds];refine' aB.to (eA.jO (bX 6) (λi:Nat=>.int (i:Int)) (λi:Nat=>[("k",.int (i:Int))]) (λ_=>true) (λi=>AV.int (((bf.filter (·.testBit i)).length:Nat):Int)) (fv:=[("before",.val (.aO (aQ bf)))]) (by walk_at"w") (by rw[<-xJ];refine' cR.xS (by walk_at"w") rfl (by walk_at"w") rfl (by decide)) (by intro i _;exact .name _ _ _) (by intro i _;walk_at"w") (by intro i _;exact .of rfl) (by intro i _;exact .nil) ?MQ (by rw[cU];decide)).ev (by rw[pK.mpr λ_ _=>rfl];unfold aQ;rw[fO];rfl)
    case MQ=>
     intro i _ _;have yR:=xF (·.testBit i) bf;rw[Ei] at yR;refine' aB.to (aB.blt (by walk_at"w") (.inl ⟨_,rfl⟩) rfl (aZ.c (aB.ar ?Zu) .nil rfl) (cJ.yB (.val _) (by rw[gM];exact fA yR rfl))) (by rw[gM])
     case Zu=>
      refine'(eA.jO bf (λb:Nat=>.int (b:Int)) (λb:Nat=>[("one",.int (b:Int))]) (·.testBit i) (λb=>AV.int (b:Int)) (fv:=[("k",.val (.int (i:Int)))]) (by walk_at"w") (cR.aO (by walk_at"w")) (by intro b _;exact .name _ _ _) (by intro b _;walk_at"w") (by intro b _;exact .of rfl) (by intro b _;exact jQ.bU (YO (by walk_at"w") (by walk_at"w"))) (by intro b _ _;walk_at"w") (by rw[Ei,cU];decide)).ev
end
section
variable {B:BD} {K:fB} {k:Nat} {F:Fn} {vars:aU}
theorem Vj{sc:bR}{vars:aU}{hs:List Nat}{x:aC}{p1 p2 p3 p4:dI}{i:Nat}(hl:hs.length=6)(hi:i<6)(h1:fP sc vars "holds" (.val (.aO (aQ hs))))(h2:fP sc vars x (.val (.int (i:Int)))):
 aB B k sc vars (.UnaryOp .USub (.Subscript (.Name "holds" p1) (.Name x p2) p3) p4) (.int (fJ hs i)):=
 aB.un (aB.sub (aB.name h1) (aB.name h2) (iC.Bg (.val _) (wG hl hi) (by rw[hl,cU];decide))) tG.neg
theorem aFu(hs:List Nat):∀(L l1 l2:List Nat),L.foldl (λ(s:List Nat×List Nat) x=>(Dp hs s.1 x,Dq hs s.2 x)) (l1,l2)=(L.foldl (Dp hs) l1,L.foldl (Dq hs) l2):=by
 intro L;induction L with
 |nil=>
  intro l1 l2;exact rfl
 |cons x L ih=>
  intro l1 l2;rw[nH,ih,nH,nH]
noncomputable def nK(d:List Nat)(hs:List Nat):List Nat:=if d.sum % 2=0 then Cq hs else Cr hs
theorem aC9(lf:LF B K)(L25:uT B 25)(Ql:kJ B 9 "bisect_right")(IZ:kJ B 8 "insort_right")(Qm:kJ B 11 "bisect_left")(JA:kJ B 10 "insort_left")(hg:∃fd a,De B "_iter_escaped_chars" fd a)(tx:kA B 17 "_strip_quoted_realnames" ["addr"])(tc:kA B 18 "_check_parenthesis" ["addr"])(tp:kA B 19 "_pre_parse_validation" ["email_header_fields"])
 (tr:kA B 23 "_law_rounds" ["order","events","hands","hide","before"]) (tf:kA B 24 "_law_fewest" ["before","hands"]) {d:List Nat} {es:List Entry} {ev:List Ev} {bf:List Nat} {S:List Int}
 (hd:d.length=8) (lH:es.length=6) (Ei:bf.length=6) (Ma:ev.length=12) (of:Uz es S bf) (Yr:(nK d (dN es S)).length<=6) (Ia:∀x∈nK d (dN es S),x<6)
 (H:∀t<6,∀k∈fG (nK d (dN es S)) (kY (nK d (dN es S)) ev (lI d) (d.getD 7 0) t),fC (eC ev (d.getD 7 0) (kY (nK d (dN es S)) ev (lI d) (d.getD 7 0) t) k)=oU ev (d.getD 7 0) bf (kY (nK d (dN es S)) ev (lI d) (d.getD 7 0) t) k)
 (Kx:((sG (nK d (dN es S)) ev (lI d) (d.getD 7 0) 6:Nat):Int)=zT bf (lI d)):
 bL B (k+4) {sc:=bQ 25} (Dr d es ev bf S [] []) GA (.bool true):=by
 have bl:=lf.bl;have Yy:(dN es S).length=6:=by unfold dN;rw[fE,lH]
 have Q3:lI d<=3:=by unfold lI;exact aV (aG [_] [.l (.u .x) (.n 2),.l (.u (.n 3)) (.a .x (.n 2))] rfl (gY _ (sW 1)))
 conv in GA=>whnf
 refine' bL.cons (v1:=Dr d es ev bf S (Cr (dN es S)) (Cq (dN es S))) ?s1 ?r1
 case s1=>
  have e:Dr d es ev bf S (Cr (dN es S)) (Cq (dN es S))=Dr d es ev bf S ((bX 6).foldl (λ(s:List Nat×List Nat) x=>(Dp (dN es S) s.1 x,Dq (dN es S) s.2 x)) ([],[])).1 ((bX 6).foldl (λ(s:List Nat×List Nat) x=>(Dp (dN es S) s.1 x,Dq (dN es S) s.2 x)) ([],[])).2:=by rw[aFu];rfl
  rw[e];refine' aP.Ad (λ(s:List Nat×List Nat) (x:Nat)=>(Dp (dN es S) s.1 x,Dq (dN es S) s.2 x)) (λs=>Dr d es ev bf S s.1 s.2) (λdn s=>s.1.length=dn.length/\s.2.length=dn.length/\(∀a∈s.1,a<6)/\∀a∈s.2,a<6) (λi:Nat=>.int (i:Int)) (λi:Nat=>[("k",.int (i:Int))]) (bX 6) ([],[]) (by rw[<-xJ];refine' cR.xS (n:=6) (by walk_at"w") rfl (by walk_at"w") rfl (by decide)) (λ_ _=>rfl) ⟨rfl,rfl,nofun,nofun⟩ (by intro i _;exact .name _ _ _) (by intro i _;walk_at"w") ?t2
  case t2=>
   intro dn x r s hL hP;obtain⟨p1,p2,p3,p4⟩:=hP;have gR:dn.length+1<=6:=by have:=congrArg rS hL;simp at this;exact aV (aG [_,_] [.f (.n 6) (.a .x (.u .y)),.l (.u (.n 6)) (.u .x)] rfl this)
   have hx:x<6:=fY.mp (by rw[hL];simp);refine⟨⟨?_,?_,?_,?_⟩,?_⟩
   ·show(Dp _ s.1 x).length=_;unfold Dp;rw[Gb,nV,BP];exact eQ (aG [_,_] [.f .x .y,.l (.u (.u .x)) (.u .y)] rfl p1) (aG [_,_] [.e .x .y,.l (.u (.u .y)) (.u .x)] rfl p1)
   ·show(Dq _ s.2 x).length=_;unfold Dq;rw[Gb,nV,BP];exact eQ (aG [_,_] [.f .x .y,.l (.u (.u .x)) (.u .y)] rfl p2) (aG [_,_] [.e .x .y,.l (.u (.u .y)) (.u .x)] rfl p2)
   ·intro a ha
    rcases SH ha with rfl|ha
    ·exact hx
    ·exact p3 a ha
   ·intro a ha
    rcases SH ha with rfl|ha
    ·exact hx
    ·exact p4 a ha
   ·unfold Dr
    refine' aJ.dT (aJ.cons (aP.ZK (k:=k+1) (XX bl Ql) IZ (y:="order") (l:=s.1) (f:=fJ (dN es S)) (px:="one") (pl:="holds") (av:=.aO (aQ (dN es S))) (by walk_at"w") hx (by exact aV (aG [_,_] [.e .x .y,.l (.u .y) (.n 6),.l (.u (.n 100)) .x] rfl p1 gR)) p3 rfl rfl (aZ.c (by walk_at"w") .nil rfl) (.Yo ⟨25,by assumption,rfl⟩ rfl rfl (by first|exact .inl rfl|exact .inr rfl) rfl rfl rfl rfl (by decide+kernel) rfl rfl λ_ _=>rfl) (by intro i hi;exact Vj Yy hi (by walk_at"w") (by walk_at"w"))) (aJ.cons (aP.ZK (k:=k+1) (XY bl Qm) JA (y:="other") (l:=s.2) (f:=fJ (dN es S)) (px:="one") (pl:="holds") (av:=.aO (aQ (dN es S))) (by walk_at"w") hx (by exact aV (aG [_,_] [.e .x .y,.l (.u .y) (.n 6),.l (.u (.n 100)) .x] rfl p2 gR)) p4 rfl rfl (aZ.c (by walk_at"w") .nil rfl) (.Yo ⟨25,by assumption,rfl⟩ rfl rfl (by first|exact .inl rfl|exact .inr rfl) rfl rfl rfl rfl (by decide+kernel) rfl rfl λ_ _=>rfl) (by intro i hi;exact Vj Yy hi (by walk_at"w") (by walk_at"w"))) aJ.nil)) (.of rfl)
 case r1=>
 unfold Dr;refine' bL.cons (aP.ite (b:=false) (out:=.cF _) ?t6 aJ.nil) ?r6
 case t6=>
  refine' bA.vL (iZ.Qv (b:=false) (c:=false) ?p7 λ_=>?q7)
  case p7=>
   obtain⟨rk,h1,h2,h3⟩:=of.ord;refine' bA.to (bA.cZ (x:=.own (aQ (Cr (dN es S)))) (by walk_at"w") (aB.ar (r:=.aO (aQ (Cr (dN es S)))) ?a8) (bG.Qy (k:=k+2) (.own _) (.val _)) rfl) (by simp)
   case a8=>
    refine' aB.TK (k:=k+1) (n:=6) (c:=1) (ky:=λi=>[fJ (dN es S) i,(i:Int)]) (rk:=rk) (px:="k") (pl:="holds") (av:=.aO (aQ (dN es S))) (by walk_at"w") (by walk_at"w") aB.cC rfl rfl (by decide) (by decide) (.Yo ⟨25,by assumption,rfl⟩ rfl rfl (by first|exact .inl rfl|exact .inr rfl) rfl rfl rfl rfl (by decide+kernel) rfl rfl λ_ _=>rfl) ?e9 (λ_ _=>rfl) h1 h2 h3
    case e9=>
     intro i hi;refine' aB.cD (xs:=bW [fJ (dN es S) i,(i:Int)]) (aZ.c (aB.ar (Vj Yy hi (by walk_at"w") (by walk_at"w"))) (aZ.c (by walk_at"w") .nil rfl) rfl) (by rw[cU];show 2<=16777216;decide)
  case q7=>
   obtain⟨rk,h1,h2,h3⟩:=of.Lj;refine' bA.to (bA.cZ (x:=.own (aQ (Cq (dN es S)))) (by walk_at"w") (aB.ar (r:=.aO (aQ (Cq (dN es S)))) ?qJ) (bG.Qy (k:=k+2) (.own _) (.val _)) rfl) (by simp)
   case qJ=>
    refine' aB.TK (k:=k+1) (n:=6) (c:=1) (ky:=λi=>[fJ (dN es S) i,-(i:Int)]) (rk:=rk) (px:="k") (pl:="holds") (av:=.aO (aQ (dN es S))) (by walk_at"w") (by walk_at"w") aB.cC rfl rfl (by decide) (by decide) (.Yo ⟨25,by assumption,rfl⟩ rfl rfl (by first|exact .inl rfl|exact .inr rfl) rfl rfl rfl rfl (by decide+kernel) rfl rfl λ_ _=>rfl) ?e12 (λ_ _=>rfl) h1 h2 h3
    case e12=>
     intro i hi;refine' aB.cD (xs:=bW [fJ (dN es S) i,-(i:Int)]) (aZ.c (aB.ar (Vj Yy hi (by walk_at"w") (by walk_at"w"))) (aZ.c (aB.ar (aB.un (by walk_at"w") tG.neg)) .nil rfl) rfl) (by rw[cU];show 2<=16777216;decide)
 case r6=>
 refine bL.jF (y:="order") rfl nofun (bL.jF (y:="other") rfl nofun ?_);refine' bL.ret (aB.to (aB.cZ (x:=.val (.int ((sG (nK d (dN es S)) ev (lI d) (d.getD 7 0) 6:Nat):Int))) (y:=.val (.int (zT bf (lI d)))) (aB.ar ?yZ) (aB.ar ?Sn) bG.yW rfl) (by rw[decide_eq_true Kx]))
 case yZ=>
  refine' aB.Cx (k:=k+3) (args:=[.aO (aQ (nK d (dN es S))),.aO (ev.map tF),.int (lI d:Int),.int ((d.getD 7 0:Nat):Int),.aO (aQ bf)]) tr rfl rfl rfl (by walk_at"w") rfl ?Zw (fK.refl _) (aA6 bl hg tx tc tp Yr Ia Ma Ei Q3 H|>bL.sub (.of rfl))
  case Zw=>
   show aZ _ _ _ _ _ [.val (.aO (aQ (nK d (dN es S)))),.val (.aO (ev.map tF)),.val (.int (lI d:Int)),.val (.int ((d.getD 7 0:Nat):Int)),.val (.aO (aQ bf))];refine' aZ.c ?o16 (aZ.c (by walk_at"w") (aZ.c (by walk_at"w") (aZ.c (aB.ar (aB.sub (by walk_at"w") (aB.ar aB.cC) (iC.Bg (.val _) (Rb hd rfl) (Li hd rfl)))) (aZ.c (by walk_at"w") .nil rfl) rfl) rfl) rfl) rfl
   case o16=>
    refine' gQ.ite ?uV ?v17
    case uV=>
     refine' bA.val (aB.ar (aB.to (aB.dB (aB.ar (aB.to (aB.blt (by walk_at"w") (.inl ⟨_,rfl⟩) rfl (aZ.c (by rw[<-zP];walk_at"w") .nil rfl) (cJ.sum (.val _))) (congrArg AV.int (DM d)))) (aB.ar aB.cC) (cA.mod (by decide))) (congrArg AV.int (vH _ (by decide))))) lR.int (λ_ _=>rfl)
    case v17=>
     have e1:(((d.sum:Nat):Int) % 2 !=0)= !decide (d.sum % 2=0):=by
      by_cases h:d.sum % 2=0
      ·rw[decide_eq_true h];have:((d.sum:Nat):Int) % 2=0:=congrArg PZ h
       rw[this];rfl
      ·rw[decide_eq_false h];have:((d.sum:Nat):Int) % 2=1:=congrArg PZ (Nat.mod_two_ne_zero.mp h)
       rw[this];rfl
     rw[e1];unfold nK
     by_cases h:d.sum % 2=0
     ·rw[decide_eq_true h,if_pos h];show gQ _ _ _ _ (.Name "other" _) _;walk_at"w"
     ·rw[decide_eq_false h,if_neg h];show gQ _ _ _ _ (.Name "order" _) _;walk_at"w"
 case Sn=>
  refine' aB.Cx (args:=[.aO (aQ bf),.int (lI d:Int)]) tf rfl rfl rfl (by walk_at"w") rfl (aZ.c (by walk_at"w") (aZ.c (by walk_at"w") .nil rfl) rfl) (fK.refl _) (aBf bl bf (lI d) Ei Q3|>bL.sub (.of rfl))
end
structure FI(B:BD)(K:fB):Prop where
 lf:LF B K
 M7:uT B 21
 M6:uT B 25
 ef:GP B
 em:∃u,B.mg "ELLIPSIS_MARKER"=some (.str "..." u)
 te:kA B 14 "_ellipsis_match" ["want","got"]
 tb:kA B 22 "_law_before" ["word"]
 br:kJ B 9 "bisect_right"
 ir:kJ B 8 "insort_right"
 bl:kJ B 11 "bisect_left"
 il:kJ B 10 "insort_left"
 ge:∃fd a,De B "_iter_escaped_chars" fd a
 uV:kA B 17 "_strip_quoted_realnames" ["addr"]
 I5:kA B 18 "_check_parenthesis" ["addr"]
 I4:kA B 19 "_pre_parse_validation" ["email_header_fields"]
 Lg:kA B 23 "_law_rounds" ["order","events","hands","hide","before"]
 H9:kA B 24 "_law_fewest" ["before","hands"]
structure VG(d:List Nat)(es:List Entry)(ev:List Ev)(lo hi:Nat->Nat)(bt:Nat->Nat->Bool)(S1 S2:List Int):Prop where
 lH:iW (d.getD 6 0) (eN d)=es
 hj:(eN d).length=6
 wO:∀p∈eN d,p.1<=p.2/\p.2<2^40
 kF:TB (mN (d.getD 6 0) (eN d)++nX (d.getD 6 0)) es
 rI:∀n∈mN (d.getD 6 0) (eN d)++nX (d.getD 6 0),n<256
 qI:(mN (d.getD 6 0) (eN d)).length<=200
 eo:GO es ev
 W:Cv (Gp ev) lo hi bt
 Zd:∀j k,j<6->k<6->bt j k=decide (((eN d).getD k (0,0)).2<=((eN d).getD j (0,0)).1)
 bo:FJ (eN d) es S1 S2
 of:Uz es (S1++S2) (dR bt 6)
 Yr:(nK d (dN es (S1++S2))).length<=6
 Ia:∀x∈nK d (dN es (S1++S2)),x<6
 H:∀t<6,∀k∈fG (nK d (dN es (S1++S2))) (kY (nK d (dN es (S1++S2))) ev (lI d) (d.getD 7 0) t),fC (eC ev (d.getD 7 0) (kY (nK d (dN es (S1++S2))) ev (lI d) (d.getD 7 0) t) k)=oU ev (d.getD 7 0) (dR bt 6) (kY (nK d (dN es (S1++S2))) ev (lI d) (d.getD 7 0) t) k
 Kx:((sG (nK d (dN es (S1++S2))) ev (lI d) (d.getD 7 0) 6:Nat):Int)=zT (dR bt 6) (lI d)
section
variable {B:BD} {K:fB} {k:Nat} {F:Fn} {vars:aU}
theorem bL.Mj(h1:aJ B k F vars l1 (.cF v1))(h2:bL B k F v1 l2 r):bL B k F vars (l1++l2) r:=by obtain⟨V,h⟩:=h2;exact⟨V,aJ.Mj h1 h⟩
theorem aFa(fn:FI B K){xs:List Int}(hx:xs.length<=1000){es:List Entry}{ev:List Ev}{lo hi:Nat->Nat}{bt:Nat->Nat->Bool}{S1 S2:List Int}(p:VG (Bq (wC xs)) es ev lo hi bt S1 S2):
 bL B (k+7) {sc:=bQ 25} [("script",.val (.aO (bW xs)))] (cH 25) (.bool true):=by
 have hd:=EH (wC xs);have lH:=p.eo.len;rw[aFf];refine bL.Mj (aFd fn.lf.bl xs hx) ?_;generalize Bq (wC xs)=d at p hd;refine bL.Mj (aFc fn.lf fn.M7 fn.ef fn.em fn.te fn.tb hd p.lH p.hj p.wO p.kF p.rI p.qI p.eo p.W) ?_;refine bL.Mj (aFb fn.lf fn.br fn.ir fn.bl fn.il lH p.hj p.Zd p.bo) ?_;rw[aHk];refine bL.Mj (aDa fn.lf fn.br fn.bl lH (VD _ _) p.of) ?_;exact aC9 fn.lf fn.M6 fn.br fn.ir fn.bl fn.il fn.ge fn.uV fn.I5 fn.I4 fn.Lg fn.H9 hd lH (VD _ _) p.eo.Sf p.of p.Yr p.Ia p.H p.Kx
end
end
section
noncomputable def cnt(p:Nat->Bool):Nat:=((bX 6).filter p).length
variable {bt:Nat->Nat->Bool} {h:Nat}
noncomputable def mA(bt:Nat->Nat->Bool)(a:Nat):Nat:=cnt λj=>bt j a
noncomputable def kN(bt:Nat->Nat->Bool)(D:Nat->Bool)(θ a:Nat):Bool:= !D a&&decide (θ<=mA bt a)
def NB(bt:Nat->Nat->Bool)(G S:Nat->Bool):Prop:=∀θ,cnt (kN bt G θ)<=cnt (kN bt S θ)
structure yH(bt:Nat->Nat->Bool):Prop where
 nest:∀a b j,a<6->b<6->j<6->mA bt a<=mA bt b->bt j a=true->bt j b=true
 B4:∃e:Nat->Nat,∀j a,j<6->a<6->bt j a=true->e a<e j
theorem UZ(h:∀a,a<6->p a=true->q a=true):cnt p<=cnt q:=by
 unfold cnt;rw[<-aPf,<-aPf];exact List.countP_mono_left λx hx=>h x (fY.mp hx)
theorem WQ(ha:a<6)(h:p a=true):1<=cnt p:=
 aPg (lO.mpr ⟨fY.mpr ha,h⟩)
theorem aJi(h:1<=cnt p):∃a,a<6/\p a=true:=by
 obtain⟨a,ha⟩:=List.exists_mem_of_length_pos h;obtain⟨h1,h2⟩:=lO.mp ha;exact⟨a,fY.mp h1,h2⟩
theorem UY(h:∀a,a<6->p a=false):cnt p=0:=by
 unfold cnt;rw[BB.mpr λa ha=>by rw[h a (fY.mp ha)];nofun];rfl
theorem JU(p:Nat->Bool):((bX 6).filter p).Nodup:=BA.filter p
theorem YF{p:Nat->Bool}(f:Nat->Nat):∀n,(∃a,a<n/\p a=true)->∃a,a<n/\p a=true/\∀b,b<n->p b=true->f b<=f a
 |0,⟨a,h,_⟩=>by omega
 |n+1,⟨a,h1,h2⟩=>by
  by_cases Bn:∃a,a<n/\p a=true
  ·obtain⟨m,m1,m2,m3⟩:=YF f n Bn
   by_cases hn:p n=true/\f m<f n
   ·refine⟨n,by exact bV (aG [_] [.l (.u .x) .x] rfl),hn.1,λb hb hp=>?_⟩
    by_cases e:b=n
    ·rw[e];exact dH _
    ·have:=m3 b (Kj hb e) hp;exact aV (aG [_,_,_] [.l (.u .x) .y,.l .z .x,.l (.u .y) .z] rfl hn.2 this)
   ·refine⟨m,by exact bV (aG [_,_] [.l (.u .x) .y,.l (.u .y) .x] rfl m1),m2,λb hb hp=>?_⟩
    by_cases e:b=n
    ·subst e
     by_cases q:f m<f b
     ·exact absurd ⟨hp,q⟩ hn
     ·exact aV (aG [_,_] [.m .x .y,.l (.u .x) .y] rfl q)
    ·exact m3 b (Kj hb e) hp
  ·have e:a=n:=by
    by_cases q:a<n
    ·exact absurd ⟨a,q,h2⟩ Bn
    ·exact eQ (aG [_,_] [.m .x .y,.l (.u .x) .y] rfl q) (aG [_,_] [.l (.u .x) (.u .y),.l (.u .y) .x] rfl h1)
   subst e;refine⟨a,by omega,h2,λb hb hp=>?_⟩
   by_cases e:b=a
   ·rw[e];exact dH _
   ·exact absurd ⟨b,by exact Kj hb e,hp⟩ Bn
theorem aF8(ok:yH bt){G G' S S':Nat->Bool}(hD:NB bt G S)(hS:∀θ,cnt (kN bt S θ)<=cnt (kN bt S' θ)+h)(hSv:∀a j,a<6->j<6->bt j a=true->S a=false->S' j=false)
 (hG:∀θ,cnt (kN bt G' θ)+h<=cnt (kN bt G θ)\/∀j,j<6->G' j=false->θ<=mA bt j->∃a,a<6/\bt j a=true/\G a=false):NB bt G' S':=by
 intro θ;rcases hG θ with q|q
 ·have h1:=hD θ
  have h2:=hS θ;exact aV (aG [_,_,_,_,_] [.l (.a .x .y) .z,.l .z .w,.l .w (.a .p .y),.l (.u .p) .x] rfl q h1 h2)
 ·by_cases Bn:∃a,a<6/\(!G a)=true
  ·obtain⟨m,m1,m2,m3⟩:=YF (mA bt) 6 Bn
   have c1:1<=cnt (kN bt G (mA bt m)):=WQ m1 (by unfold kN;rw[m2,decide_eq_true (dH _)];rfl);have c2:=hD (mA bt m);obtain⟨a',a1,a2⟩:=aJi (fD c1 c2);unfold kN at a2;obtain⟨a3,a4⟩:=sS.mp a2;have a4:=of_decide_eq_true a4;have a3:S a'=false:=by simpa using a3
   refine UZ λj hj hu=>?_;unfold kN at hu ⊢;obtain⟨u1,u2⟩:=sS.mp hu;have u3:=of_decide_eq_true u2;obtain⟨a,b1,b2,b3⟩:=q j hj (by simpa using u1) u3;have e1:=ok.nest a m j b1 m1 hj (m3 a b1 (by rw[b3];rfl)) b2;have e2:=ok.nest m a' j m1 a1 hj a4 e1;have e3:=hSv a' j a1 hj e2 a3;rw[e3,u2];rfl
  ·rw[UY λj hj=>?_]
   ·exact iR _
   ·unfold kN
    cases hg:G' j with
    |true=>rfl
    |false=>
     by_cases Ll:θ<=mA bt j
     ·obtain⟨a,b1,b2,b3⟩:=q j hj hg Ll
      exact absurd ⟨a,b1,by rw[b3];rfl⟩ Bn
     ·rw[decide_eq_false Ll];rfl
noncomputable def fr(bt:Nat->Nat->Bool)(D:Nat->Bool)(j:Nat):Bool:=(bX 6).all λa=> !bt j a||D a
theorem Jx:fr bt D j=true↔∀a,a<6->bt j a=true->D a=true:=by
 unfold fr;rw[tO];constructor
 ·intro q a ha hb
  have:=q a (fY.mpr ha);rw[hb] at this;simpa using this
 ·intro q a ha
  have:=q a (fY.mp ha);cases hb:bt j a with
  |false=>rfl
  |true=>rw[this hb];rfl
noncomputable def mS(bt:Nat->Nat->Bool)(ord dn:List Nat):List Nat:=ord.filter λk=> !dn.contains k&&fr bt dn.contains k
noncomputable def xU(bt:Nat->Nat->Bool)(ord:List Nat)(h:Nat)(dn:List Nat):List Nat:=dn++(mS bt ord dn).take h
noncomputable def jH(bt:Nat->Nat->Bool)(ord:List Nat)(h:Nat):Nat->List Nat
 |0=>[]
 |t+1=>xU bt ord h (jH bt ord h t)
structure oR(bt:Nat->Nat->Bool)(ord:List Nat):Prop where
 perm:ord.Perm (bX 6)
 down:ord.Pairwise λa b=>mA bt b<=mA bt a
variable {ord:List Nat}
theorem oR.nd(o:oR bt ord):ord.Nodup:=o.perm.nodup_iff.mpr BA
theorem oR.mem(o:oR bt ord):a∈ord↔a<6:=by rw[o.perm.mem_iff,fY]
theorem aAk:∀{l:List α} {n:Nat},l.Pairwise R->∀x∈l.take n,∀y∈l.drop n,R x y:=by
 intro l n hl x hx y hy;have e:=BR n l;rw[<-e] at hl;exact(Te.mp hl).2.2 x hx y hy
theorem aA9(o:oR bt ord)(dn:List Nat)(θ:Nat):
 cnt (kN bt (xU bt ord h dn).contains θ)+h<=cnt (kN bt dn.contains θ)\/∀j,j<6->(xU bt ord h dn).contains j=false->θ<=mA bt j->∃a,a<6/\bt j a=true/\dn.contains a=false:=by
 have B2:∀{x},x∈mS bt ord dn↔x<6/\dn.contains x=false/\fr bt dn.contains x=true:=by
  intro x;unfold mS;rw[lO,o.mem];simp
 have IF:∀{x},(xU bt ord h dn).contains x=false↔dn.contains x=false/\x∉(mS bt ord dn).take h:=by
  intro x;unfold xU;rw[<-o8,Ng,jV,not_or,<-Ng,o8]
 have key:(∀j,j∈mS bt ord dn->θ<=mA bt j->j∈(mS bt ord dn).take h)->∀j,j<6->(xU bt ord h dn).contains j=false->θ<=mA bt j->∃a,a<6/\bt j a=true/\dn.contains a=false:=by
  intro q j hj hg Ll;obtain⟨g1,g2⟩:=IF.mp hg;have hn:¬j∈mS bt ord dn:=λw=>g2 (q j w Ll);have hf:¬fr bt dn.contains j=true:=λw=>hn (B2.mpr ⟨hj,g1,w⟩);rw[Jx] at hf
  by_cases Bn:∃a,a<6/\bt j a=true/\dn.contains a=false
  ·exact Bn
  ·refine absurd (λa ha hb=>?_) hf
   cases hc:dn.contains a with
   |true=>rfl
   |false=>exact absurd ⟨a,ha,hb,hc⟩ Bn
 by_cases dQ:(mS bt ord dn).length<=h
 ·exact .inr (key λj hj _=>by rw[Z6 dQ];exact hj)
 ·by_cases wB:∀x∈(mS bt ord dn).take h,θ<=mA bt x
  ·refine .inl ?_
   have hl:((mS bt ord dn).take h).length=h:=by rw[qS];exact vC (Nat.le_of_not_le dQ)
   unfold cnt;rw[<-nV.trans (congrArg _ hl)];refine Tx ?_ λx hx=>?_
   ·refine OG.mpr ⟨JU _,?_,λa ha b hb=>?_⟩
    ·exact aPh (aPi _ _) (o.nd.filter _)
    ·rintro rfl
     obtain⟨_,u⟩:=lO.mp ha;unfold kN at u;obtain⟨u1,_⟩:=sS.mp u;exact(IF.mp (by simpa using u1)).2 hb
   ·rcases jV.mp hx with hx|hx
    ·obtain⟨m,u⟩:=lO.mp hx
     refine lO.mpr ⟨m,?_⟩;unfold kN at u ⊢;obtain⟨u1,u2⟩:=sS.mp u;rw[(IF.mp (by simpa using u1)).1,u2];rfl
    ·obtain⟨m1,m2,_⟩:=B2.mp (BQ hx)
     refine lO.mpr ⟨fY.mpr m1,?_⟩;unfold kN;rw[m2,decide_eq_true (wB x hx)];rfl
  ·refine .inr (key λj hj Ll=>?_)
   obtain⟨x,hx⟩:=o9.mp wB;obtain⟨hx1,hx2⟩:=QA.mp hx;have e:=BR h (mS bt ord dn);rw[<-e] at hj;rcases jV.mp hj with q|q
   ·exact q
   ·have hr:=aAk (o.down.filter λk=> !dn.contains k&&fr bt dn.contains k) x hx1 j q
    exact absurd (fD Ll hr) hx2
end
section
variable {bt:Nat->Nat->Bool} {ord:List Nat} {h:Nat}
theorem Um(p:Nat->Bool):∀(n i:Nat),(jP p n).testBit i=(decide (i<n)&&p i):=by
 intro n;induction n with
 |zero=>
  intro i;rw[decide_eq_false (Mv i),aPj];exact BS i
 |succ n Ri=>
  intro i;have hl:=Vm p n;have nQ:=Vm p (n+1);have ih:=Ri i;rw[EJ]
  by_cases hi:n<i
  ·have h1:¬i<n+1:=aG [_,_] [.l (.u .x) .y,.l (.u .y) (.u .x)] rfl hi
   rw[decide_eq_false h1];show(jP p (n+1)).testBit i=false;exact aPk (qO nQ (Ts (by decide) (hi)))
  ·cases hp:p n with
   |false=>
    rw[if_neg nofun,Mu,ih]
    by_cases e:i=n
    ·subst e;rw[hp,Jn,Jn]
    ·have:i<n↔i<n+1:=EW e
     rw[decide_eq_decide.mpr this]
   |true=>
    rw[if_pos rfl,Ss]
    by_cases e:i=n
    ·subst e
     rw[Nat.testBit_two_pow_add_eq,ih,decide_eq_false (sR _),decide_eq_true (rO _),hp];rfl
    ·rw[Nat.testBit_two_pow_add_gt (qL (Ep hi) e),ih]
     have:i<n↔i<n+1:=EW e;rw[decide_eq_decide.mpr this]
noncomputable def wF(D:Nat->Bool):Nat:=jP D 6
theorem zQ(hi:i<6):(wF D).testBit i=D i:=by
 unfold wF;rw[Um,decide_eq_true hi];rfl
theorem VO(hx:x<64)(hb:x.testBit i=true):i<6:=by
 by_cases q:i<6
 ·exact q
 ·rw[aPk (qO hx (show 2^6<=2^i from Ts (by decide) (aV (aG [_] [.m .x (.n 6),.l (.u .x) (.n 6)] rfl q))))] at hb;cases hb
theorem EA(hx:x<64)(hy:y<64)(e:∀i,i<6->x.testBit i=y.testBit i):x=y:=by
 refine u5 λi=>?_
 by_cases q:i<6
 ·exact e i q
 ·have f:∀{z:Nat},z<64->z.testBit i=false:=λhz=>by
   cases hb:Nat.testBit _ i with
   |false=>rfl
   |true=>exact absurd (VO hz hb) q
  rw[f hx,f hy]
theorem Vu(D:Nat->Bool):wF D<64:=Vm D 6
theorem DC(hj:j<6):(dR bt 6).getD j 0=jP (bt j) 6:=by
 unfold dR;rw[iJ,Bv,PM hj];show(if j<6 then _ else _)=_;rw[if_pos hj]
theorem DW:k∈hW (dR bt 6) d↔k<6/\d.testBit k=false/\∀a,a<6->bt k a=true->d.testBit a=true:=by
 unfold hW Ku;rw[lO,fY];refine and_congr_right λhk=>?_;rw[sS,tP,decide_eq_true_iff,DC hk];refine and_congr_right λ_=>⟨λe a ha hb=>?_,λe=>u5 λi=>?_⟩
 ·have e2:=congrArg (Nat.testBit · a) e
  rw[u6,Um,decide_eq_true ha,hb] at e2;exact e2
 ·rw[u6,Um]
  by_cases hi:i<6
  ·cases hb:bt k i with
   |false=>rw[Jn];rfl
   |true=>rw[e i hi hb,aPl]
  ·rw[decide_eq_false hi];rfl
theorem aH3(k:Nat)(e:∀a,a<6->a≠k->p a=true->q a=true):cnt p<=cnt q+1:=by
 unfold cnt;refine(Tx (JU p) (l₂:=k::(bX 6).filter q) λa ha=>?_);obtain⟨h1,h2⟩:=lO.mp ha
 by_cases hk:a=k
 ·exact hk▸.head _
 ·exact .tail _ (lO.mpr ⟨h1,e a (fY.mp h1) hk h2⟩)
theorem Oc(y k i:Nat):(y|||2^k).testBit i=(y.testBit i||decide (k=i)):=by rw[Nat.testBit_or,u7]
theorem aCo:∀(n:Nat) {ps:List Nat} {x:Nat},x∈Gi rd n ps->∃y∈ps,(∀θ,cnt (kN bt y.testBit θ)<=cnt (kN bt x.testBit θ)+n)/\(∀j,x.testBit j=true->y.testBit j=true\/j∈rd)/\∀j,y.testBit j=true->x.testBit j=true:=by
 intro n;induction n with
 |zero=>
  intro ps x hx;exact⟨x,hx,λ_=>dH _,λ_ e=>.inl e,λ_ e=>e⟩
 |succ n ih=>
  intro ps x hx;obtain⟨y,hy,h1,h2,h3⟩:=ih hx;obtain⟨z,hz,hy⟩:=PF.mp hy;obtain⟨k,hk,rfl⟩:=gK.mp hy;refine⟨z,hz,λθ=>?_,λj hj=>?_,λj hj=>?_⟩
  ·have c:=aH3 (p:=kN bt z.testBit θ) (q:=kN bt (z|||2^k).testBit θ) k λa _ hak hp=>by
    unfold kN at hp ⊢;rw[Oc,decide_eq_false (gJ hak),Nf];exact hp
   have:=h1 θ;exact aV (aG [_,_,_,_] [.l .x (.u .y),.l .y (.a .z .w),.l (.u (.a .z (.u .w))) .x] rfl c this)
  ·rcases h2 j hj with q|q
   ·rw[Oc] at q
    rcases u9.mp q with q|q
    ·exact .inl q
    ·exact .inr (of_decide_eq_true q▸(lO.mp hk).1)
   ·exact .inr q
  ·exact h3 j (by rw[Oc,hj];rfl)
theorem aCn:∀(tk:List Nat) {ps:List Nat} {y:Nat},y∈ps->tk.Nodup->(∀k∈tk,k∈rd/\y.testBit k=false)->tk.foldl (λm k=>m|||2^k) y∈Gi rd tk.length ps:=by
 intro tk;induction tk with
 |nil=>
  intro ps y hy _ _;exact hy
 |cons k tk ih=>
  intro ps y hy hn hk;obtain⟨n1,n2⟩:=Mw.mp hn;obtain⟨k1,k2⟩:=hk k (.head _);refine ih (PF.mpr ⟨y,hy,gK.mpr ⟨k,lO.mpr ⟨k1,by rw[k2];rfl⟩,rfl⟩⟩) n2 λj hj=>?_;obtain⟨j1,j2⟩:=hk j (.tail _ hj);refine⟨j1,?_⟩;have dD:¬k=j:=λe=>n1 (by rw[e];exact hj);rw[Oc,j2,decide_eq_false dD];rfl
theorem aDj:∀(tk:List Nat) (y i:Nat),(tk.foldl (λm k=>m|||2^k) y).testBit i=(y.testBit i||tk.contains i):=by
 intro tk;induction tk with
 |nil=>
  intro y i;exact(Nf _).symm
 |cons k tk ih=>
  intro y i;rw[nH,ih,Oc,Y1,aPm]
  have e:decide (k=i)=(i==k):=by
   by_cases q:k=i
   ·rw[q,decide_eq_true rfl,beq_self_eq_true]
   ·rw[decide_eq_false q,beq_eq_false_iff_ne.mpr (gJ q)]
  rw[e]
theorem aHq:∀(tk:List Nat) (y:Nat),y<64->(∀k∈tk,k<6)->tk.foldl (λm k=>m|||2^k) y<64:=by
 intro tk;induction tk with
 |nil=>
  intro y hy _;exact hy
 |cons k tk ih=>
  intro y hy hk;exact ih _ (VT hy (hk k (.head _))) λj hj=>hk j (.tail _ hj)
set_option tactic.hygienic true in
theorem aCe:y∈sY fs x↔y∈fs\/y=x:=by
 unfold sY
 split
 ·rename_i q
  refine⟨.inl,λr=>r.elim id λe=>e▸by simpa using q⟩
 ·rw[jV,cW]
theorem aBe:∀(ps fs:List Nat) {y:Nat},y∈ps.foldl sY fs↔y∈fs\/y∈ps:=by
 intro ps;induction ps with
 |nil=>
  intro fs y;simp
 |cons p ps ih=>
  intro fs y;rw[nH,ih,aCe,cE,or_assoc]
theorem QV:x∈rW b h lv↔∃d∈lv,x∈rY b h d:=by
 unfold rW
 have f:∀(lv fs:List Nat),x∈lv.foldl (λfs d=>(rY b h d).foldl sY fs) fs↔x∈fs\/∃d∈lv,x∈rY b h d:=λlv=>by
  induction lv with
  |nil=>intro fs;simp
  |cons d lv ih=>
   intro fs;rw[nH,ih,aBe,or_assoc];refine or_congr_right ⟨λq=>?_,λ⟨d',hd,q⟩=>?_⟩
   ·rcases q with q|⟨d',hd,q⟩
    ·exact⟨d,.head _,q⟩
    ·exact⟨d',.tail _ hd,q⟩
   ·rcases cE.mp hd with e|hd
    ·exact .inl (e▸q)
    ·exact .inr ⟨d',hd,q⟩
 rw[f];simp
noncomputable def Bh(b:List Nat)(h:Nat):Nat->List Nat
 |0=>[0]
 |t+1=>rW b h (Bh b h t)
structure Ax(bt:Nat->Nat->Bool)(ord:List Nat)(h t:Nat):Prop where
 nd:(jH bt ord h t).Nodup
 lt:∀a∈jH bt ord h t,a<6
 all:∀x∈Bh (dR bt 6) h t,x<64/\NB bt (jH bt ord h t).contains x.testBit/\∀j a,j<6->a<6->bt j a=true->x.testBit j=true->x.testBit a=true
 own:wF (jH bt ord h t).contains∈Bh (dR bt 6) h t
theorem Ax.zero:Ax bt ord h 0 where
 nd:=.nil
 lt:=λa ha=>nomatch ha
 all:=λx hx=>by
  rw[cW.mp hx];exact⟨by decide,λθ=>UZ λa _ q=>by unfold kN;rw[BS];exact q,λj a _ _ _ q=>by rw[BS] at q;cases q⟩
 own:=cW.mpr (EA (Vu _) (by decide) λi hi=>by rw[zQ hi,BS];rfl)
theorem DI(o:oR bt ord):x∈mS bt ord dn↔x<6/\dn.contains x=false/\fr bt dn.contains x=true:=by
 unfold mS;rw[lO,o.mem,sS,tP]
theorem aEq(o:oR bt ord):(mS bt ord dn).length=(hW (dR bt 6) (wF dn.contains)).length:=by
 have m:∀{x},x∈mS bt ord dn↔x∈hW (dR bt 6) (wF dn.contains):=λ{x}=>by
  rw[DI o,DW];refine and_congr_right λhx=>?_;rw[zQ hx,Jx];exact and_congr_right λ_=>⟨λq a ha hb=>by rw[zQ ha];exact q a ha hb,λq a ha hb=>by rw[<-zQ (D:=dn.contains) ha];exact q a ha hb⟩
 exact ND (Tx (o.nd.filter _) λx hx=>m.mp hx) (Tx (BA.filter _) λx hx=>m.mpr hx)
theorem QM{l m:List Nat}{i:Nat}:(l++m).contains i=(l.contains i||m.contains i):=by
 rw[My,u9];simp only[Ng,jV]
theorem Ax.succ(ok:yH bt)(o:oR bt ord)(b:Ax bt ord h t):Ax bt ord h (t+1):=by
 have tk:=λ{a} (ha:a∈(mS bt ord (jH bt ord h t)).take h)=>(DI o).mp (BQ ha);have tn:((mS bt ord (jH bt ord h t)).take h).Nodup:=aPh (aPi _ _) (o.nd.filter _);refine⟨?_,?_,?_,?_⟩
 ·refine OG.mpr ⟨b.nd,tn,λx hx y hy e=>?_⟩
  have q:=(tk hy).2.1;rw[<-e] at q;exact absurd (Ng.mpr hx) (by rw[q];nofun)
 ·intro a ha
  rcases jV.mp ha with ha|ha
  ·exact b.lt a ha
  ·exact(tk ha).1
 ·intro x hx
  obtain⟨d,hd,hx⟩:=QV.mp hx;obtain⟨d1,d2,d3⟩:=b.all d hd;obtain⟨y,hy,t1,t2,t3⟩:=aCo _ hx;rw[cW.mp hy] at t1 t2 t3
  have new:∀{j a},a<6->bt j a=true->x.testBit j=true->d.testBit a=true:=λ{j a} ha hb hj=>by
   rcases t2 j hj with q|q
   ·exact d3 j a (VO d1 q) ha hb q
   ·exact(DW.mp q).2.2 a ha hb
  refine⟨Uj d1 x hx,aF8 ok d2 (λθ=>?_) (λa j ha hj hb hs=>?_) (aA9 o _),λj a hj ha hb q=>t3 a (new ha hb q)⟩
  ·have:=t1 θ
   exact aV (aG [_,_,_,_] [.l .x (.a .y .z),.l .z .w,.l (.u (.a .y .w)) .x] rfl this (rT _ _))
  ·cases q:x.testBit j with
   |false=>rfl
   |true=>cases ((new ha hb q).symm.trans hs)
 ·refine QV.mpr ⟨_,b.own,?_⟩
  have e:wF (jH bt ord h (t+1)).contains=((mS bt ord (jH bt ord h t)).take h).foldl (λm k=>m|||2^k) (wF (jH bt ord h t).contains):=
   EA (Vu _) (aHq _ _ (Vu _) λk hk=>(tk hk).1) λi hi=>by
    rw[zQ hi,aDj,zQ hi];exact QM
  have l:min h (hW (dR bt 6) (wF (jH bt ord h t).contains)).length=((mS bt ord (jH bt ord h t)).take h).length:=by rw[qS,aEq o]
  rw[e];unfold rY;rw[l];refine aCn _ (.head _) tn λk hk=>?_;obtain⟨k1,k2,k3⟩:=tk hk;have k4:(wF (jH bt ord h t).contains).testBit k=false:=by rw[zQ k1];exact k2
  exact⟨DW.mpr ⟨k1,k4,λa ha hb=>by rw[zQ ha];exact Jx.mp k3 a ha hb⟩,k4⟩
theorem Ax.at(ok:yH bt)(o:oR bt ord):∀t,Ax bt ord h t:=by
 intro t;induction t with
 |zero=>
  exact .zero
 |succ t ih=>
  exact(ih).succ ok o
def nO(bt:Nat->Nat->Bool)(ord:List Nat)(h t:Nat):Prop:=∀a,a<6->(jH bt ord h t).contains a=true
theorem WE(ok:yH bt)(o:oR bt ord)(t:Nat):63∈Bh (dR bt 6) h t↔nO bt ord h t:=by
 have b:=Ax.at (h:=h) ok o t;have H8:∀a,a<6->(63:Nat).testBit a=true:=by decide
 refine⟨λq a ha=>?_,λq=>?_⟩
 ·have d:=(b.all 63 q).2.1 0
  rw[UY (p:=kN bt (63:Nat).testBit 0) λa ha=>by unfold kN;rw[H8 a ha];rfl] at d;cases hc:(jH bt ord h t).contains a with
  |true=>rfl
  |false=>
   have:=WQ (p:=kN bt (jH bt ord h t).contains 0) ha (by unfold kN;rw[hc];rfl);exact absurd (fD this d) (by decide)
 ·have e:(63:Nat)=wF (jH bt ord h t).contains:=EA (by decide) (Vu _) λi hi=>by rw[H8 i hi,zQ hi,q i hi]
  rw[e];exact b.own
end
section
variable {bt:Nat->Nat->Bool} {ord:List Nat} {h:Nat}
noncomputable def Jz(bt:Nat->Nat->Bool)(ord:List Nat)(h:Nat):Nat->Nat
 |0=>0
 |t+1=>Jz bt ord h t+if fG ord (jH bt ord h t)=[] then 0 else 1
theorem aEp:Jz bt ord h (t+1)=Jz bt ord h t+if fG ord (jH bt ord h t)=[] then 0 else 1:=rfl
theorem SJ(o:oR bt ord)(t:Nat):fG ord (jH bt ord h t)=[]↔nO bt ord h t:=by
 unfold fG nO;rw[BB];refine⟨λq a ha=>?_,λq a ha=>by rw[q a (o.mem.mp ha)];nofun⟩;have:=q a (o.mem.mpr ha);cases hc:(jH bt ord h t).contains a with
 |true=>rfl
 |false=>rw[hc] at this;exact absurd rfl this
theorem WD(f:nO bt ord h t):nO bt ord h (t+1):=λa ha=>by
 show(xU bt ord h _).contains a=true;unfold xU;rw[QM,f a ha];rfl
theorem UN{e:Nat->Nat}(he:∀j a,j<6->a<6->bt j a=true->e a<e j){D:Nat->Bool}:∀n a,e a<=n->a<6->D a=false->∃x,x<6/\D x=false/\fr bt D x=true
 |n,a,hn,ha,hd=>by
  by_cases hf:fr bt D a=true
  ·exact⟨a,ha,hd,hf⟩
  ·obtain⟨b,q⟩:=o9.mp (mt Jx.mpr hf)
   obtain⟨hb,q⟩:=QA.mp q;obtain⟨vA,q⟩:=QA.mp q;have lt:=he a b ha hb vA
   match n with
   |0=>exact absurd (qO lt hn) (Mv _)
   |n+1=>exact UN he n b (aV (aG [_,_,_] [.l (.u .x) .y,.l .y (.u .z),.l (.u .z) .x] rfl lt hn)) hb (aPn.mpr q)
theorem aKj(ok:yH bt)(o:oR bt ord)(h1:1<=h){t:Nat}(nf:¬nO bt ord h t):(jH bt ord h t).length+1<=(jH bt ord h (t+1)).length:=by
 obtain⟨a,q⟩:=o9.mp nf;obtain⟨ha,q⟩:=QA.mp q;obtain⟨e,he⟩:=ok.B4;obtain⟨x,x1,x2,x3⟩:=UN he (e a) a (dH _) ha (aPn.mpr q);have hp:=aPg ((DI o).mpr ⟨x1,x2,x3⟩);show _<=(jH bt ord h t++(mS bt ord (jH bt ord h t)).take h).length;rw[nV,qS];exact aPo (Nat.le_min.mpr ⟨h1,hp⟩) _
theorem aJe(ok:yH bt)(o:oR bt ord)(h1:1<=h):nO bt ord h 6:=by
 have len:∀t,nO bt ord h t\/t<=(jH bt ord h t).length:=λt=>by
  induction t with
  |zero=>exact .inr (iR _)
  |succ t ih=>
   by_cases f:nO bt ord h t
   ·exact .inl (WD f)
   ·have:=aKj ok o h1 f
    rcases ih with q|q
    ·exact absurd q f
    ·exact .inr (aV (aG [_,_,_] [.l (.u .x) .y,.l .z .x,.l (.u .y) (.u .z)] rfl this q))
 rcases len 6 with f|q
 ·exact f
 ·intro a ha
  have b:=Ax.at (h:=h) ok o 6;cases hc:(jH bt ord h 6).contains a with
  |true=>rfl
  |false=>
   have na:a∉jH bt ord h 6:=λm=>by cases ((Ng.mpr m).symm.trans hc)
   have l:=Tx (Mw.mpr ⟨na,b.nd⟩) λx hx=>by
    rcases cE.mp hx with rfl|hx
    ·exact fY.mpr ha
    ·exact fY.mpr (b.lt x hx)
   rw[pL,Fy] at l;exact absurd (fD l q) (aMt _)
theorem aB2(ok:yH bt)(o:oR bt ord)(h1:1<=h):∃R:Nat,1<=R/\R<=6/\nO bt ord h R/\∀t,t<R->¬nO bt ord h t:=by
 have n0:¬nO bt ord h 0:=λf=>by have:=f 0 (by decide);cases this
 have go:∀n,n<=6->(∀t,t<n->¬nO bt ord h t)\/∃R:Nat,R<=6/\nO bt ord h R/\∀t,t<R->¬nO bt ord h t:=λn=>by
  induction n with
  |zero=>exact λ_=>.inl λt ht=>absurd ht (Mv _)
  |succ n ih=>
   intro hn;rcases ih (jK (eO hn) rfl) with q|q
   ·by_cases f:nO bt ord h n
    ·exact .inr ⟨n,by exact jK (eO hn) rfl,f,q⟩
    ·refine .inl λt ht=>?_
     by_cases e:t=n
     ·rw[e];exact f
     ·exact q t (Kj ht e)
   ·exact .inr q
 rcases go 6 (dH _) with q|⟨R,r1,r2,r3⟩
 ·exact⟨6,by decide,by decide,aJe ok o h1,q⟩
 ·refine⟨R,?_,r1,r2,r3⟩
  cases R with
  |zero=>exact absurd r2 n0
  |succ R=>exact aV (aG [_] [.l (.u (.u .x)) .i] rfl)
theorem aHr(ok:yH bt)(o:oR bt ord)(f:nO bt ord h R)(nf:∀t,t<R->¬nO bt ord h t):∀(n t:Nat),t<R->R<=t+n->jA (Hj (dR bt 6) h) (Bh (dR bt 6) h t) (BU t n)=.ret (.int (R:Int)):=by
 intro n;induction n with
 |zero=>
  intro t h1 h2;exact absurd h1 (pH.mpr h2)
 |succ n ih=>
  intro t h1 h2;rw[v7];rw[zU];have ef:Hj (dR bt 6) h (Bh (dR bt 6) h t) t=if(Bh (dR bt 6) h (t+1)).contains 63=true then .ret (.int ((t+1:Nat):Int)) else .go (Bh (dR bt 6) h (t+1)):=rfl
  rw[ef]
  by_cases e:R=t+1
  ·rw[if_pos (Ng.mpr ((WE ok o _).mpr (e▸f))),e]
  ·rw[if_neg λq=>nf (t+1) (qL h1 λq=>e q.symm) ((WE ok o _).mp (Ng.mp q))]
   exact ih (t+1) (qL h1 λq=>e q.symm) (aV (aG [_,_,_] [.l .x (.a .y (.u .z)),.l (.u (.a (.u .y) .z)) .x] rfl h2))
theorem aCu(o:oR bt ord)(f:nO bt ord h R)(nf:∀t,t<R->¬nO bt ord h t):∀t,Jz bt ord h t=min t R:=by
 intro t;induction t with
 |zero=>
  rw[Nat.zero_min];rfl
 |succ t Ri=>
  have up:∀d,nO bt ord h (R+d):=λd=>by
   induction d with
   |zero=>exact f
   |succ d ih=>exact WD ih
  rw[aEp,Ri]
  by_cases e:t<R
  ·rw[if_neg λq=>nf t e ((SJ o t).mp q)];rw[vC (eO e),vC e]
  ·rw[if_pos ((SJ o t).mpr (by have:=up (t-R);rwa [show R+(t-R)=t by exact eQ (aG [_,_,_] [.f (.a .x .y) .z,.l (.u (.a .y .x)) .z] rfl (bC (aV (aG [_,_] [.m .x .y,.l (.u .x) .y] rfl e)))) (aG [_,_,_] [.e (.a .x .y) .z,.l (.u .z) (.a .y .x)] rfl (bC (aV (aG [_,_] [.m .x .y,.l (.u .x) .y] rfl e))))] at this)),Mk (Ep e),Mk (nW (Ep e))];rfl
theorem py(ok:yH bt)(o:oR bt ord)(h1:1<=h):((Jz bt ord h 6:Nat):Int)=zT (dR bt 6) h:=by
 obtain⟨R,r1,r2,r3,r4⟩:=aB2 ok o h1;have e:=aHr ok o r3 r4 6 0 (bV (aG [_] [.l .i .x,.l .x .o] rfl r1)) (by omega);unfold zT;rw[List.range_eq_range'];rw[show([0]:List Nat)=Bh (dR bt 6) h 0 from rfl,e,aCu o r3 r4,Mk r2]
end
section
open PySem PySem.Calls PySem.W PyProof.Rows
theorem Wp(c:Nat):jC (c:Int) 63=((c % 64:Nat):Int):=(Vp c 63).trans (congrArg _ (aPp c 6))
theorem A2(c:Nat):jC (c:Int) 64=(((c.testBit 6).toNat*64:Nat):Int):=(Vp c 64).trans (congrArg _ (u5 λi=>by
 rw[u6,show(64:Nat)=2^6 from rfl,u7]
 by_cases e:6=i
 ·subst e;cases c.testBit 6<;>rfl
 ·rw[decide_eq_false e,Jn]
  cases c.testBit 6
  ·exact(BS i).symm
  ·exact((u7).trans (decide_eq_false e)).symm))
theorem YX(c:Nat):c.testBit 6=decide (c/64 % 2=1):=aNy
theorem aLc(v c:Nat):Ex ((v:Int)*2^6) ((c % 64:Nat):Int)=((v*64+c % 64:Nat):Int):=by
 have h:v*64+c % 64=v*64|||c % 64:=by
  have:=Nat.shiftLeft_add_eq_or_of_lt (show c % 64<2^6 from gY _ (by decide)) v;rwa [Nat.shiftLeft_eq] at this
 rw[h];exact XN (v*64) (c % 64)
theorem DS{l:List Nat}{b v:Nat}(hb:b/64 % 2=0):VL l (b:Int) (v:Int) (some ((v:Int),l)):=
 .done (by rw[A2,YX,hb];rfl)
theorem WY{b:Nat}(hb:b/64 % 2=1):jC (b:Int) 64≠0:=by rw[A2,YX,hb];decide
theorem VM{c:Nat}{l:List Nat}{b v:Nat}{r:Option (Int×List Nat)}(hb:b/64 % 2=1)(hv:v<2^60)(h:VL l (c:Int) ((v*64+c % 64:Nat):Int) r):VL (c::l) (b:Int) (v:Int) r:=
 .more (WY hb) (by rw[Int.natAbs_natCast];exact tY hv (by decide)) (by rw[Wp,aLc];exact h)
noncomputable def cI(n:Nat):Nat->Nat
 |0=>n % 64
 |i+1=>n/64^(i+1) % 64+64
noncomputable def dg(n:Nat):Nat->List Nat
 |0=>[]
 |i+1=>cI n i::dg n i
theorem YL(n:Nat):∀i,cI n i % 64=n/64^i % 64
 |0=>by rw[cI,Nat.pow_zero,Nat.div_one,Nat.mod_mod]
 |i+1=>by rw[cI,v8,Nat.mod_mod]
theorem ZW(n:Nat):∀i,cI n i<128
 |0=>tY (gY _ (by decide)) (by decide)
 |i+1=>Nat.add_lt_add_right (gY _ (by decide)) 64
theorem YM(n x:Nat)(hx:x=0\/x=128):∀i,(cI n i+x)/64 % 2=if i=0 then 0 else 1
 |0=>by rw[cI,if_pos rfl];rcases hx with rfl|rfl<;>first|exact congrArg (· % 2) (Ye (q:=0) (gY _ (by decide)))|exact congrArg (· % 2) (Ye (q:=2) (gY _ (by decide)))
 |i+1=>by rw[cI,if_neg nofun];rcases hx with rfl|rfl<;>first|exact congrArg (· % 2) (Ye (q:=1) (gY _ (by decide)))|exact congrArg (· % 2) (Ye (q:=3) (gY _ (by decide)))
theorem aIg{n x:Nat}(hn:n<2^60)(hx:x=0\/x=128)(l:List Nat):∀i (y:Nat),(y=0\/y=128)->VL (dg n i++l) ((cI n i+y:Nat):Int) ((n/64^i:Nat):Int) (some ((n:Int),l)):=by
 intro i;induction i with
 |zero=>
  intro y hy;rw[Nat.pow_zero,Nat.div_one];exact DS (by rw[YM n y hy,if_pos rfl])
 |succ i ih=>
  intro y hy;refine VM (by rw[YM n y hy,if_neg nofun]) (pZ (Nat.div_le_self _ _) hn) ?_
  have e:n/64^(i+1)*64+cI n i % 64=n/64^i:=by
   rw[YL,PG,<-Nat.div_div_eq_div_mul,V7];exact iK _ 64
  rw[e];exact ih 0 (.inl rfl)
theorem XA(hs:n<64^(s+1))(hn:n<2^60)(l:List Nat)(y:Nat)(hy:y=0\/y=128):VI ((cI n s+y)::(dg n s++l)) (some ((n:Int),l)):=by
 refine .cons ?_
 have e:(cI n s+y) % 64=n/64^s:=by
  have h1:(cI n s+y) % 64=cI n s % 64:=by rcases hy with rfl|rfl<;>first|rfl|exact Nat.add_mul_mod_self_right _ 2 64
  rw[h1,YL];exact Jo ((Nat.div_lt_iff_lt_mul (Nat.pow_pos (by decide))).mpr (by rw[V7,<-PG];exact hs))
 rw[Wp,e];exact aIg hn hy l s y hy
theorem Wn(n:Nat):∀s,((bX s).map λj=>n/64^(s-j) % 64+64)++[n % 64]=dg n (s+1):=by
 intro s;induction s with
 |zero=>
  exact rfl
 |succ s ih=>
  rw[OC,nU,fO,Tn];show _=cI n (s+1)::dg n (s+1);rw[<-ih];congr 2;refine zG λj _=>?_;show n/64^(s+1-(j+1)) % 64+64=_;rw[Nat.add_sub_add_right]
theorem aI6(hn:n<64^3):n<64^(mC n+1):=by
 unfold mC
 by_cases h1:64<=n
 ·by_cases h2:4096<=n
  ·simp only[QB,decide_eq_true h1,decide_eq_true h2];exact hn
  ·simp only[QB,decide_eq_true h1,decide_eq_false h2];exact Sr h2
 ·have h2:¬4096<=n:=λq=>h1 (fD (by decide) q)
  simp only[QB,decide_eq_false h1,decide_eq_false h2];exact Sr h1
theorem Vq(hn:n<64^3)(l:List Nat):VI (kC bit n++l) (some ((n:Int),l))/\VI ((cI n (bit+mC n)+128)::(dg n (bit+mC n)++l)) (some ((n:Int),l)):=by
 have hs:n<64^(bit+mC n+1):=qO (aI6 hn) (Ts (by decide) (aV (aG [_,_] [.l (.u (.u (.a .x .y))) (.u .y)] rfl)));have R7:n<2^60:=tY hn (by decide);refine⟨?_,XA hs R7 l 128 (.inr rfl)⟩;unfold kC;rw[Wn];exact XA hs R7 l 0 (.inl rfl)
noncomputable def Dw(aR:Nat)(q:Nat×eX):List Nat:=(cI q.2.1 (eU aR q.1+mC q.2.1)+128)::(dg q.2.1 (eU aR q.1+mC q.2.1)++(kC (eU aR q.1) (q.2.2-q.2.1)++(kC (eU aR q.1) q.1++kC (eU aR q.1) (2*oH aR q.1+eU aR q.1))))
theorem aEy(aR:Nat)(o:List Nat)(q:Nat×eX):pO aR o q=o++Dw aR q:=by
 unfold pO Xp rB Dw;rw[nH,nH,nH,nH,List.foldl_nil,pJ,pJ,pJ];have e:kC (eU aR q.1) q.2.1=cI q.2.1 (eU aR q.1+mC q.2.1)::dg q.2.1 (eU aR q.1+mC q.2.1):=by unfold kC;exact Wn _ _
 rw[e,Tn,iJ,w6 (dH _),List.set_append_right _ _ (dH _),Ξ];rfl
theorem aFv(aR:Nat):∀(L:List (Nat×eX)) (o:List Nat),L.foldl (pO aR) o=o++L.flatMap (Dw aR):=by
 intro L;induction L with
 |nil=>
  intro o;exact(pB o).symm
 |cons q L ih=>
  intro o;rw[nH,ih,aEy,Jd,pJ]
theorem aF6(h1:q.2.1<=q.2.2)(h2:q.2.2<64^3)(h3:q.1<6)(h:TB l es):TB (Dw aR q++l) (rE aR q::es):=by
 have hb:=Vn aR q.1;have hd:oH aR q.1<100:=by unfold oH;exact bV (aG [_,_] [.l (.u .x) (.n 6),.l (.u .y) (.n 50),.l (.n 100) (.a .y .x)] rfl h3 (gY _ (sW 49)))
 unfold Dw;rw[Tn,pJ,pJ,pJ];have t:=TB.more (Vq (bit:=eU aR q.1) (pZ h1 h2) (kC (eU aR q.1) (q.2.2-q.2.1)++(kC (eU aR q.1) q.1++(kC (eU aR q.1) (2*oH aR q.1+eU aR q.1)++l)))).2 (Vq (bV (aG [_,_,_,_] [.l (.u .x) .y,.e (.a .z .w) .x,.l .y .z] rfl h2 (bC (h1)))) _).1 (Vq (jK h3 rfl) _).1 (Vq (bV (aG [_,_] [.l (.u .x) (.n 2),.L 2 (.u .y) (.n 100),.l (.n 262144) (.a (.m 2 .y) .x)] rfl hb hd)) l).1 h
 have e:rE aR q=Ki ((q.2.1:Nat):Int) ((q.2.2-q.2.1:Nat):Int) ((q.1:Nat):Int) ((2*oH aR q.1+eU aR q.1:Nat):Int):=by
  unfold rE Ki;have e1:((2*oH aR q.1+eU aR q.1:Nat):Int).fdiv 2=(oH aR q.1:Int):=by rw[Fm _ (by decide)];exact congrArg PZ (by rw[Nat.mul_add_div (by decide),W9 hb,Mu])
  have e2:(jC ((2*oH aR q.1+eU aR q.1:Nat):Int) 1 !=0)=decide ((eU aR q.1:Int)=1):=by
   rw[show jC ((2*oH aR q.1+eU aR q.1:Nat):Int) 1=(((2*oH aR q.1+eU aR q.1) % 2:Nat):Int) from(Vp _ 1).trans (congrArg _ (aPp _ 1))];have:eU aR q.1=0\/eU aR q.1=1:=(by decide:∀n,n<2->n=0\/n=1) _ hb;rcases this with e|e<;>rw[e]
   ·rw[show(2*oH aR q.1+0) % 2=0 by exact Nat.mul_mod_right 2 _];rfl
   ·rw[show(2*oH aR q.1+1) % 2=1 by exact Nat.mul_add_mod 2 _ 1];rfl
  rw[e1,e2,NH _ 2,NH ((q.2.2-q.2.1:Nat):Int) 2,NH ((q.1:Nat):Int) 2];have e3:2*((q.2.1:Nat):Int)+2*((q.2.2-q.2.1:Nat):Int)=2*(q.2.2:Int):=by rw[<-W0];exact congrArg (λz:Int=>2*z) (congrArg PZ (PD h1))
  rw[e3]
 rw[e];exact t
theorem aDp(h:TB l []):∀(L:List (Nat×eX)),(∀q∈L,q.2.1<=q.2.2/\q.2.2<64^3/\q.1<6)->TB (L.flatMap (Dw aR)++l) (L.map (rE aR)):=by
 intro L;induction L with
 |nil=>
  intro _;exact h
 |cons q L ih=>
  intro hq;rw[Jd,pJ,nU];obtain⟨h1,h2,h3⟩:=hq q (.head _);exact aF6 h1 h2 h3 (ih λp hp=>hq p (.tail _ hp))
theorem Og{c:Nat}{l:List Nat}(h:c/64 % 2=0):VI (c::l) (some (((c % 64:Nat):Int),l)):=.cons (by rw[Wp];exact DS h)
theorem WZ{c d:Nat}{l:List Nat}(h:c/64 % 2=1)(h2:d/64 % 2=0):VI (c::d::l) (some (((c % 64*64+d % 64:Nat):Int),l)):=.cons (by rw[Wp];exact VM h (tY (gY _ (by decide)) (by decide)) (DS h2))
theorem RO(aR:Nat):TB (nX aR) []/\(∀n∈nX aR,n<256):=by
 have h:∀l∈Kg,TB l []/\∀n∈l,n<256:=λl hl=>by
  simp only[Kg,cE,cO,or_false] at hl;rcases hl with rfl|rfl|rfl|rfl|rfl
  ·exact⟨.FQ .nil,nofun⟩
  ·exact⟨.YZ (Og (by decide)) .nil,by decide⟩
  ·exact⟨.FP (WZ (by decide) (by decide)) (WZ (by decide) (by decide)) (Og (by decide)) .nil,by decide⟩
  ·exact⟨.FP (Og (by decide)) (Og (by decide)) (Og (by decide)) .nil,by decide⟩
  ·exact⟨.FQ (.cons (.stop (WY (by decide)) (by decide))),by decide⟩
 unfold nX;have hm:aR % 5<5:=gY _ (by decide);rw[iJ,oO (hm)];exact h _ (Ft _)
theorem EP:∀x∈kC bit n,x<128:=by
 have d:∀i,∀x∈dg n i,x<128:=λi=>by
  induction i with
  |zero=>exact nofun
  |succ i ih=>
   intro x hx;rcases cE.mp hx with rfl|hx
   ·exact ZW _ _
   ·exact ih x hx
 intro x hx;unfold kC at hx;rw[Wn] at hx;exact d _ x hx
theorem aJc:∀x∈Dw aR q,x<256:=by
 intro x hx;have e:dg q.2.1 (eU aR q.1+mC q.2.1+1)=kC (eU aR q.1) q.2.1:=by unfold kC;exact(Wn _ _).symm
 rcases cE.mp hx with rfl|hx
 ·have:=ZW q.2.1 (eU aR q.1+mC q.2.1);exact bV (aG [_] [.l (.u .x) (.n 128),.l (.n 256) (.a .x (.n 128))] rfl this)
 ·refine tY ?_ (show 128<256 by decide)
  rcases jV.mp hx with hx|hx
  ·exact EP x (by rw[<-e];exact List.mem_cons_of_mem _ hx)
  ·rcases jV.mp hx with hx|hx
   ·exact EP x hx
   ·rcases jV.mp hx with hx|hx<;>exact EP x hx
theorem aC1(hj:J.length=6)(hb:∀p∈J,p.1<=p.2/\p.2<64^3):
 TB (mN aR J++nX aR) (iW aR J)/\(∀n∈mN aR J++nX aR,n<256)/\(mN aR J).length<=200:=by
 have e:mN aR J=(iY 0 J).flatMap (Dw aR):=by unfold mN;exact aFv aR _ []
 refine⟨?_,?_,?_⟩
 ·rw[e]
  refine aDp (RO aR).1 _ λq hq=>?_;have:=DO J 0 q hq;exact⟨(hb _ this.2).1,(hb _ this.2).2,by exact bV (aG [_,_] [.e .x (.n 6),.l (.u .y) (.a .o .x),.l (.n 6) .y] rfl hj this.1)⟩
 ·intro n hn
  rcases jV.mp hn with hn|hn
  ·rw[e] at hn
   obtain⟨q,_,hn⟩:=PF.mp hn;exact aJc n hn
  ·exact(RO aR).2 n hn
 ·have:∀(L:List (Nat×eX)) (o:List Nat),(L.foldl (pO aR) o).length<=o.length+16*L.length:=λL=>by
   induction L with
   |nil=>intro o;exact dH _
   |cons q L ih=>
    intro o;have h1:=ih (pO aR o q);have h2:=RV aR o q;rw[nH,pL];exact aV (aG [_,_,_,_] [.l .x (.a .y (.m 16 .z)),.l .y (.a .w (.n 16)),.l (.u (.a .w (.m 16 (.u .z)))) .x] rfl h1 h2)
  have h:=this (iY 0 J) [];rw[Ck,hj] at h;exact fD h (by decide)
end
theorem aCb:∀(n lo hi:Nat),lo<=hi->hi-lo<=n->(∀i j,lo<=i->i<=j->j<hi->p i=true->p j=true)->(∀i,lo<=i->i<sF p n lo hi->p i=false)/\∀i,sF p n lo hi<=i->i<hi->p i=true:=by
 intro n;induction n with
 |zero=>
  intro lo hi h1 h2 h3;exact⟨λi q1 q2=>absurd q2 (pH.mpr q1),λi q1 q2=>absurd (q1) (aG [_,_,_,_] [.l .x .o,.l (.u .y) .z,.f (.a .x .w) .z,.l .w .y] rfl h2 q2 (bC (h1)))⟩
 |succ n ih=>
  intro lo hi h1 h2 h3;rw[Of]
  by_cases h:lo<hi
  ·have m1:lo<=(lo+hi)/2:=aV (aG [_,_,_,_] [.l .x .y,.f (.a (.m 2 .z) .w) (.a .x .y),.l (.u .w) (.n 2),.L 2 (.u .z) .x] rfl h1 (iK _ 2) (gY _ (sW 1)))
   have m2:(lo+hi)/2<hi:=bV (aG [_,_,_,_] [.l (.u .x) .y,.e (.a (.m 2 .z) .w) (.a .x .y),.L 2 .y .z] rfl h (iK _ 2));rw[if_pos h];generalize (lo+hi)/2=m at m1 m2;cases hp:p m with
   |true=>
    rw[if_pos rfl];obtain⟨r1,r2⟩:=ih lo m m1 (aV (aG [_,_,_,_,_,_] [.l .x (.u .y),.l (.u .z) .w,.e (.a .p .q) .z,.f (.a .x .q) .w,.l (.u .y) .p] rfl h2 m2 (bC (m1)) (bC (h1)))) λi j a b c=>h3 i j a b (tY c m2);refine⟨r1,λi a b=>?_⟩
    by_cases q:i<m
    ·exact r2 i a q
    ·exact h3 m i m1 (Ep q) b hp
   |false=>
    rw[if_neg nofun];obtain⟨r1,r2⟩:=ih (m+1) hi m2 (aPq.mpr (fD (aPq.mp h2) (by rw[j8,Ss 1];exact aPo (Nat.add_le_add_right m1 1) n))) λi j a b c=>h3 i j (fD m1 (φ a)) b c;refine⟨λi a b=>?_,r2⟩
    by_cases q:m+1<=i
    ·exact r1 i q b
    ·cases eV:p i with
     |false=>rfl
     |true=>rw[h3 i m a (aV (aG [_,_] [.N 1 (.u .x) .y,.l (.u .x) .y] rfl q)) m2 eV] at hp;cases hp
  ·rw[if_neg h]
   exact⟨λi q1 q2=>absurd q2 (pH.mpr q1),λi q1 q2=>absurd (pZ q1 q2) h⟩
theorem VA(h:lo<=hi)(m:∀i j,lo<=i->i<=j->j<hi->p i=true->p j=true):(∀i,lo<=i->i<cP p lo hi->p i=false)/\∀i,cP p lo hi<=i->i<hi->p i=true:=aCb _ lo hi h (dH _) m
theorem aBl(e:∀i,i<M->p (c+i)=q i):∀(n lo hi:Nat),hi<=M->sF p n (c+lo) (c+hi)=c+sF q n lo hi:=by
 intro n;induction n with
 |zero=>
  intro lo hi h;exact rfl
 |succ n ih=>
  intro lo hi h;rw[Of,Of];have hm:(c+lo+(c+hi))/2=c+(lo+hi)/2:=eQ (aG [_,_,_,_,_,_,_] [.e (.a (.m 2 .x) .y) (.a .z .w),.f (.a (.m 2 .p) .q) (.a (.a (.v 6) .z) (.a (.v 6) .w)),.l (.u .q) (.n 2),.L 2 (.u .p) (.a (.v 6) .x)] rfl (iK _ 2) (iK _ 2) (gY _ (sW 1))) (aG [_,_,_,_,_,_,_] [.f (.a (.m 2 .x) .y) (.a .z .w),.l (.u .y) (.n 2),.e (.a (.m 2 .p) .q) (.a (.a (.v 6) .z) (.a (.v 6) .w)),.L 2 (.u (.a (.v 6) .x)) .p] rfl (iK _ 2) (gY _ (sW 1)) (iK _ 2))
  by_cases hl:lo<hi
  ·rw[if_pos (show c+lo<c+hi by exact bV (aG [_,_,_] [.l (.u .x) .y,.l (.a .z .y) (.a .z .x)] rfl hl)),if_pos hl,hm,e _ (by exact bV (aG [_,_,_,_,_] [.L 2 .x .y,.l (.u .z) .x,.e (.a (.m 2 .w) .p) (.a .z .x),.L 2 .y .w] rfl h hl (iK _ 2))),ih lo _ (by exact aV (aG [_,_,_,_,_] [.L 2 .x .y,.l (.u .z) .x,.e (.a (.m 2 .w) .p) (.a .z .x),.L 2 (.u .y) .w] rfl h hl (iK _ 2))),j8,ih _ hi h]
   split<;>rfl
  ·rw[if_neg (show ¬c+lo<c+hi by exact aG [_,_,_] [.m .x .y,.l (.u (.a .z .x)) (.a .z .y)] rfl hl),if_neg hl]
theorem DB(e:∀i,i<n->p (c+i)=q i):cP p c (c+n)=c+cP q 0 n:=by
 unfold cP;rw[w7,Nat.sub_zero];exact aBl e n 0 n (dH _)
theorem SU(e:∀i,i<n->p i=q i):cP p 0 n=cP q 0 n:=by
 have:=DB (p:=p) (q:=q) λi hi=>by rw[Bu];exact e i hi
 rwa [Bu,Bu] at this
theorem Nm(l:List α)(r:Nat)(x:α):(hZ l r x).Perm (x::l):=by
 have h:=aPr (a:=x) (l₁:=l.take r) (l₂:=l.drop r);rwa [BR] at h
theorem RG{α:Type}{R:α->α->Prop}{l:List α}{r:Nat}{x:α}(h:l.Pairwise R)(h1:∀a∈l.take r,R a x)(h2:∀a∈l.drop r,R x a):(hZ l r x).Pairwise R:=by
 have hs:=h;rw[<-BR r l] at hs;obtain⟨a,b,c⟩:=Te.mp hs;refine Te.mpr ⟨a,Bw.mpr ⟨h2,b⟩,λy hy z hz=>?_⟩;rcases cE.mp hz with rfl|hz
 ·exact h1 y hy
 ·exact c y hy z hz
theorem Jw{α:Type}{l:List α}{i:Nat}(h:i<l.length)(d:α):l.getD i d=l[i]:=by rw[iJ,oO h];rfl
theorem CW{α:Type}{l:List α}{r:Nat}{a:α}(d:α)(h:a∈l.take r):∃i,i<r/\i<l.length/\l.getD i d=a:=by
 obtain⟨i,hi,e⟩:=List.mem_take_iff_getElem.mp h;have eV:i<r/\i<l.length:=⟨qO hi (rT _ _),qO hi (Fg _ _)⟩
 exact⟨i,eV.1,eV.2,(Jw eV.2 d).trans e⟩
theorem CX{α:Type}{l:List α}{r:Nat}{a:α}(d:α)(h:a∈l.drop r):∃i,r<=i/\i<l.length/\l.getD i d=a:=by
 obtain⟨i,hi,e⟩:=List.mem_drop_iff_getElem.mp h;exact⟨r+i,jD _ _,by exact bV (aG [_,_,_] [.l (.u (.a .x .y)) .z,.l .z (.a .y .x)] rfl hi),(Jw (bV (aG [_,_,_] [.l (.u (.a .x .y)) .z,.l .z (.a .y .x)] rfl hi)) d).trans e⟩
theorem CS{α:Type}{R:α->α->Prop}{l:List α}(h:l.Pairwise R)(d:α){i j:Nat}(dO:i<j)(hj:j<l.length):R (l.getD i d) (l.getD j d):=by
 rw[Jw hj,Jw (tY dO hj)];exact aPs.mp h i j (tY dO hj) hj dO
noncomputable def yC{α:Type}(f:α->Int)(d:α)(l:List α)(x:α):List α:=hZ l (cP (λm=>decide (f x<f (l.getD m d))) 0 l.length) x
noncomputable def Pt{α:Type}(f:α->Int)(d:α)(l:List α)(x:α):List α:=hZ l (cP (λm=> !decide (f (l.getD m d)<f x)) 0 l.length) x
section
variable {α:Type} {f:α->Int} {d:α} {l:List α} {x:α}
theorem SV(h:l.Pairwise λa b=>f a<=f b):(∀i,i<cP (λm=>decide (f x<f (l.getD m d))) 0 l.length->f (l.getD i d)<=f x)/\∀i,cP (λm=>decide (f x<f (l.getD m d))) 0 l.length<=i->i<l.length->f x<f (l.getD i d):=by
 obtain⟨s1,s2⟩:=VA (p:=λm=>decide (f x<f (l.getD m d))) (iR l.length) λi j _ dO hj hp=>by
  have hp:=of_decide_eq_true hp;rcases w9 dO with q|rfl
  ·exact decide_eq_true (Ml hp (CS h d q hj))
  ·exact decide_eq_true hp
 exact⟨λi hi=>pG.mp (of_decide_eq_false (s1 i (iR _) hi)),λi hi hl=>of_decide_eq_true (s2 i hi hl)⟩
theorem SW(h:l.Pairwise λa b=>f a<=f b):(∀i,i<cP (λm=> !decide (f (l.getD m d)<f x)) 0 l.length->f (l.getD i d)<f x)/\∀i,cP (λm=> !decide (f (l.getD m d)<f x)) 0 l.length<=i->i<l.length->f x<=f (l.getD i d):=by
 obtain⟨s1,s2⟩:=VA (p:=λm=> !decide (f (l.getD m d)<f x)) (iR l.length) λi j _ dO hj hp=>by
  have hp:=of_decide_eq_false ((tP _).mp hp);rcases w9 dO with q|rfl
  ·exact(tP _).mpr (decide_eq_false (pG.mpr (rM (pG.mp hp) (CS h d q hj))))
  ·exact(tP _).mpr (decide_eq_false hp)
 exact⟨λi hi=>of_decide_eq_true ((Bool.not_eq_false' _).mp (s1 i (iR _) hi)),λi hi hl=>pG.mp (of_decide_eq_false ((tP _).mp (s2 i hi hl)))⟩
theorem SA{R:α->α->Prop}(h:l.Pairwise λa b=>f a<=f b)(hR:l.Pairwise R)(h1:∀a∈l,f a<=f x->R a x)(h2:∀a∈l,f x<f a->R x a):(yC f d l x).Pairwise R:=by
 obtain⟨s1,s2⟩:=SV h;refine RG hR (λa ha=>h1 a (BQ ha) ?_) λa ha=>h2 a (o7 ha) ?_
 ·obtain⟨i,i1,i2,rfl⟩:=CW d ha;exact s1 i i1
 ·obtain⟨i,i1,i2,rfl⟩:=CX d ha;exact s2 i i1 i2
theorem SD{R:α->α->Prop}(h:l.Pairwise λa b=>f a<=f b)(hR:l.Pairwise R)(h1:∀a∈l,f a<f x->R a x)(h2:∀a∈l,f x<=f a->R x a):(Pt f d l x).Pairwise R:=by
 obtain⟨s1,s2⟩:=SW h;refine RG hR (λa ha=>h1 a (BQ ha) ?_) λa ha=>h2 a (o7 ha) ?_
 ·obtain⟨i,i1,i2,rfl⟩:=CW d ha;exact s1 i i1
 ·obtain⟨i,i1,i2,rfl⟩:=CX d ha;exact s2 i i1 i2
theorem QU(h:l.Pairwise λa b=>f a<=f b):(yC f d l x).Pairwise λa b=>f a<=f b:=SA h h (λ_ _ q=>q) λ_ _ q=>zB q
theorem aA8(h:l.Pairwise λa b=>f a<=f b):(Pt f d l x).Pairwise λa b=>f a<=f b:=SD h h (λ_ _ q=>zB q) λ_ _ q=>q
theorem QX{q:α->Bool}:∀{l:List α} {r:Nat},r<=l.length->(∀i,i<r->q (l.getD i d)=true)->(∀i,r<=i->i<l.length->q (l.getD i d)=false)->(l.filter q).length=r:=by
 intro l r hr h1 h2;have e:=pK.mpr λa ha=>by obtain⟨i,i1,_,rfl⟩:=CW d ha;exact h1 i i1
 have e2:(l.drop r).filter q=[]:=BB.mpr λa ha=>by obtain⟨i,i1,i2,rfl⟩:=CX d ha;rw[h2 i i1 i2];nofun
 have:=congrArg (λm=>(m.filter q).length) (BR r l);rw[<-this];show(QB q (_++_)).length=r;rw[aPd,e,e2,pB,qS,vC hr]
theorem aJg(h:l.Pairwise λa b=>f a<=f b):cP (λm=>decide (f x<f (l.getD m d))) 0 l.length=(l.filter λa=>decide (f a<=f x)).length:=by
 obtain⟨s1,s2⟩:=SV h;exact(QX (d:=d) (Cu _ (iR _)).2 (λi hi=>decide_eq_true (s1 i hi)) λi hi hl=>decide_eq_false (ζ.mpr (s2 i hi hl))).symm
theorem aJh(h:l.Pairwise λa b=>f a<=f b):cP (λm=> !decide (f (l.getD m d)<f x)) 0 l.length=(l.filter λa=>decide (f a<f x)).length:=by
 obtain⟨s1,s2⟩:=SW h;exact(QX (d:=d) (Cu _ (iR _)).2 (λi hi=>decide_eq_true (s1 i hi)) λi hi hl=>decide_eq_false (pG.mpr (s2 i hi hl))).symm
end
theorem FN(hI:qK n rk)(hp:out.Perm (bX n))(hs:out.Pairwise λa b=>rk a<=rk b)(h:PA n p)(u:Up rk p n):p.toList=out:=by
 have sz:=h.size;refine aPe (λa b ha hb h1 h2=>?_) ?_ hs (h.perm.trans hp.symm)
 ·by_cases e:a=b
  ·exact e
  ·exact absurd (Sv h1 h2) (hI a b (fY.mp (h.perm.mem_iff.mp ha)) (fY.mp (hp.mem_iff.mp hb)) e)
 ·refine aPs.mpr λi j hi hj dO=>?_
  have l:=sz
  have k:∀i (hi:i<p.toList.length),KA rk p i=rk p.toList[i]:=λi hi=>by
   unfold KA;have:i<p.size:=hi;simp[PC,this]
  have:=u i j (eO dO) (l▸hj);rwa [k i hi,k j hj] at this
theorem UM(hp:∀l x,(st l x).Perm (x::l))(hs:∀n l,n<N->l.Perm (bX n)->l.Pairwise R->(st l n).Pairwise R):∀n,n<=N->((bX n).foldl st []).Perm (bX n)/\((bX n).foldl st []).Pairwise R:=by
 intro n;induction n with
 |zero=>
  intro _;exact⟨.nil,.nil⟩
 |succ n ih=>
  intro hn;obtain⟨h1,h2⟩:=ih (φ hn);rw[j9,x6];refine⟨(hp _ n).trans ((h1.cons n).trans ?_),hs n _ hn h1 h2⟩;exact(List.perm_append_singleton n (bX n)).symm
noncomputable def FT(rk:Nat->Int)(n:Nat):List Nat:=(bX n).foldl (yC rk 0) []
theorem DF(rk:Nat->Int)(n:Nat):(FT rk n).Perm (bX n)/\(FT rk n).Pairwise λa b=>rk a<=rk b:=
 UM (λ_ _=>Nm _ _ _) (λ_ _ _ _ h=>QU h) n (dH _)
noncomputable def jb(J:List eX)(k:Nat):eX:=J.getD k (0,0)
noncomputable def kP(J:List eX)(j k:Nat):Bool:=decide ((jb J k).2<=(jb J j).1)
theorem vN(h:J.length=n+1):∃a K,J=a::K/\K.length=n:=by
 cases J with
 |nil=>cases h
 |cons a K=>exact⟨a,K,rfl,AY h⟩
theorem JF(h:J.length=6):∃a b c d e f,J=[a,b,c,d,e,f]:=by
 obtain⟨a,J1,rfl,h1⟩:=vN h;obtain⟨b,J2,rfl,h2⟩:=vN h1;obtain⟨c,J3,rfl,h3⟩:=vN h2;obtain⟨d,J4,rfl,h4⟩:=vN h3;obtain⟨e,J5,rfl,h5⟩:=vN h4;obtain⟨f,J6,rfl,h6⟩:=vN h5;exact⟨a,b,c,d,e,f,by rw[aNq h6]⟩
theorem RZ(hJ:J.length=6):J=(bX 6).map (jb J):=by
 obtain⟨_,_,_,_,_,_,rfl⟩:=JF hJ;rfl
theorem Nq(hJ:J.length=6)(aR:Nat):iW aR J=(bX 6).map λk=>rE aR (k,jb J k):=by
 obtain⟨_,_,_,_,_,_,rfl⟩:=JF hJ;rfl
theorem CN(f g:Nat->α)(h:∀k,k<6->f k=g k):(bX 6).map f=(bX 6).map g:=zG λk hk=>h k (fY.mp hk)
theorem aAd(p:α->Bool):∀l:List α,(l.filter p).length+(l.filter λa=> !p a).length=l.length:=by
 intro l;induction l with
 |nil=>
  exact rfl
 |cons a l Ri=>
  have ih:=Ri;cases h:p a with
  |true=>rw[m9 h,o6 (by rw[h];nofun),pL,pL];exact eQ (aG [_,_,_] [.f (.a .x .y) .z,.l (.u (.a (.u .x) .y)) (.u .z)] rfl ih) (aG [_,_,_] [.e (.a .x .y) .z,.l (.u (.u .z)) (.a (.u .x) .y)] rfl ih)
  |false=>rw[o6 (by rw[h];nofun),m9 (by rw[h];rfl),pL,pL];exact eQ (aG [_,_,_] [.f (.a .x .y) .z,.l (.u (.a .x (.u .y))) (.u .z)] rfl ih) (aG [_,_,_] [.e (.a .x .y) .z,.l (.u (.u .z)) (.a .x (.u .y))] rfl ih)
section
variable {J:List eX}
theorem aJk{x:Int}{f:Nat->Int}{q:Nat->Bool}(h:∀k,k<6->decide (f k<=x)=q k):(((bX 6).map f).filter λa=>decide (a<=x)).length=cnt q:=by
 rw[x7,fE];unfold cnt;exact congrArg rS (BV λk hk=>h k (fY.mp hk))
theorem aH4{x:Int}{f:Nat->Int}{q:Nat->Bool}(h:∀k,k<6->decide (x<=f k)=q k):6-(((bX 6).map f).filter λa=>decide (a<x)).length=cnt q:=by
 rw[x7,fE];have e:=aAd ((λa=>decide (a<x))∘f) (bX 6);rw[Fy] at e
 have e2:((bX 6).filter λk=> !((λa=>decide (a<x))∘f) k).length=cnt q:=by
  unfold cnt;refine congrArg rS (BV λk hk=>?_);rw[<-h k (fY.mp hk)];show(!decide (f k<x))=_;rw[<-decide_not];exact decide_eq_decide.mpr pG
 exact eQ (aG [_,_,_,_] [.e (.a .x .y) (.n 6),.f .y .z,.f (.a .w .x) (.n 6),.l (.u .w) .z] rfl e e2 (bC (aV (aG [_,_] [.e (.a .x .y) (.n 6),.l (.u (.n 6)) .x] rfl e)))) (aG [_,_,_,_] [.f (.a .x .y) (.n 6),.e .y .z,.e (.a .w .x) (.n 6),.l (.u .z) .w] rfl e e2 (bC (aV (aG [_,_] [.e (.a .x .y) (.n 6),.l (.u (.n 6)) .x] rfl e))))
theorem aH6:∀(L:List Entry) (A B:List Int),A.length=B.length->(iY A.length L).foldl Ag (A++B)=(L.map (·.2.1)).foldl (yC id 0) A++(L.map (·.1)).foldl (Pt id 0) B:=by
 intro L;induction L with
 |nil=>
  intro A B h;exact rfl
 |cons e L ih=>
  intro A B h;have g1:∀m,m<A.length->(A++B).getD m 0=A.getD m 0:=λm hm=>by rw[iJ,iJ,aPt hm]
  have r1:cP (λm=>decide (e.2.1<(A++B).getD m 0)) 0 A.length=cP (λm=>decide (e.2.1<A.getD m 0)) 0 A.length:=SU λm hm=>by rw[g1 m hm]
  have l1:=(Cu (λm=>decide (e.2.1<A.getD m 0)) (iR A.length)).2
  have i1:hZ (A++B) (cP (λm=>decide (e.2.1<(A++B).getD m 0)) 0 A.length) e.2.1=yC id 0 A e.2.1++B:=by
   rw[r1];unfold hZ yC;rw[List.take_append_of_le_length l1,aPu l1];exact(pJ _ (_::_) _).symm
  have la:(yC id 0 A e.2.1).length=A.length+1:=Gb
  have t:Ag (A++B) (A.length,e)=yC id 0 A e.2.1++Pt id 0 B e.1:=by
   unfold Ag;dsimp only;rw[i1]
   have r2:cP (λm=> !decide ((yC id 0 A e.2.1++B).getD m 0<e.1)) (A.length+1) (2*A.length+1)=(A.length+1)+cP (λm=> !decide (B.getD m 0<e.1)) 0 B.length:=by
    rw[show 2*A.length+1=A.length+1+B.length by exact eQ (aG [_,_] [.f .x .y,.l (.u (.u (.m 2 .x))) (.a (.u .x) .y)] rfl h) (aG [_,_] [.e .x .y,.l (.u (.a (.u .x) .y)) (.u (.m 2 .x))] rfl h)];refine DB λi hi=>?_;rw[<-la,iJ,w6 (jD _ _),w7,iJ]
   rw[r2,<-la];unfold hZ;rw[List.take_length_add_append,List.drop_length_add_append,pJ];rfl
  show(iY (A.length+1) L).foldl Ag (Ag (A++B) (A.length,e))=_;rw[t,<-la,ih _ _ (la.trans (h▸(Gb).symm))];rfl
theorem SM(hp:∀l x,(st l x).Perm (x::l)):∀(L A:List Int),(L.foldl st A).Perm (A++L):=by
 intro L;induction L with
 |nil=>
  intro A;rw[pB];exact .refl _
 |cons x L ih=>
  intro A;exact(ih _).trans (((hp A x).append_right L).trans aPr.symm)
theorem QW(hs:∀l x,l.Pairwise (·<= ·)->(st l x).Pairwise (·<= ·)):∀(L A:List Int),A.Pairwise (·<= ·)->(L.foldl st A).Pairwise (·<= ·):=by
 intro L;induction L with
 |nil=>
  intro A h;exact h
 |cons x L ih=>
  intro A h;exact ih _ (hs A x h)
noncomputable def oS(J:List eX)(k:Nat):Int:=2*((jb J k).2:Int)
noncomputable def qH(J:List eX)(k:Nat):Int:=2*((jb J k).1:Int)
noncomputable def oB(J:List eX):List Int:=((bX 6).map (oS J)).foldl (yC id 0) []
noncomputable def oC(J:List eX):List Int:=((bX 6).map (qH J)).foldl (Pt id 0) []
theorem Oa:(oB J).Perm ((bX 6).map (oS J))/\(oB J).Pairwise (·<= ·):=⟨SM (λ_ _=>Nm _ _ _) _ [],QW (λ_ _ h=>QU h) _ [] .nil⟩
theorem Ob:(oC J).Perm ((bX 6).map (qH J))/\(oC J).Pairwise (·<= ·):=⟨SM (λ_ _=>Nm _ _ _) _ [],QW (λ_ _ h=>aA8 h) _ [] .nil⟩
theorem Nu:(oB J).length=6:=by rw[Oa.1.length_eq,fE,Fy]
theorem TL:(oC J).length=6:=by rw[Ob.1.length_eq,fE,Fy]
theorem aH5(hJ:J.length=6)(aR:Nat):FJ J (iW aR J) (oB J) (oC J):=by
 have e1:(J.map λp=>2*(p.2:Int))=(bX 6).map (oS J):=by
  conv=>lhs;rw[RZ hJ,fO]
  rfl
 have e2:(J.map λp=>2*(p.1:Int))=(bX 6).map (qH J):=by
  conv=>lhs;rw[RZ hJ,fO]
  rfl
 refine⟨e1▸Oa.1,Oa.2,e2▸Ob.1,Ob.2,?_⟩;have h:=aH6 (iW aR J) [] [] rfl;rw[Nq hJ,fO,fO] at h;rw[Nq hJ];exact h
theorem Vo{bt:Nat->Nat->Bool}{k:Nat}(hk:k<6)(j:Nat):(jP (bt j) 6).testBit k=bt j k:=by rw[Um,decide_eq_true hk];rfl
theorem VC(bt:Nat->Nat->Bool):dR bt 6=(bX 6).map λj=>jP (bt j) 6:=CN _ _ λj hj=>if_pos hj
theorem aEw(j:Nat):cP (λm=>decide (qH J j<(oB J++oC J).getD m 0)) 0 6=cnt (kP J j):=by
 have e:cP (λm=>decide (qH J j<(oB J++oC J).getD m 0)) 0 6=cP (λm=>decide (qH J j<(oB J).getD m 0)) 0 6:=SU λm hm=>by
  rw[iJ,iJ,aPt (by rw[Nu];exact hm)]
 have c:cP (λm=>decide (qH J j<(oB J).getD m 0)) 0 (oB J).length=((oB J).filter λa=>decide (a<=qH J j)).length:=aJg (f:=λa=>a) Oa.2;rw[Nu] at c;rw[e,c,(Oa.1.filter _).length_eq];exact aJk λk hk=>decide_eq_decide.mpr (by unfold oS qH;exact YT)
theorem aFm(k:Nat):12-cP (λm=> !decide ((oB J++oC J).getD m 0<oS J k)) 6 12=mA (kP J) k:=by
 have e:cP (λm=> !decide ((oB J++oC J).getD m 0<oS J k)) 6 (6+6)=6+cP (λm=> !decide ((oC J).getD m 0<oS J k)) 0 6:=DB λm hm=>by
  rw[iJ,w6 (by rw[Nu];exact aV (aG [_] [.l (.u (.a (.n 6) .x)) (.n 6)] rfl)),Nu,w7,iJ]
 have c:cP (λm=> !decide ((oC J).getD m 0<oS J k)) 0 (oC J).length=((oC J).filter λa=>decide (a<oS J k)).length:=aJh (f:=λa=>a) Ob.2;rw[TL,(Ob.1.filter _).length_eq] at c;have h:=aH4 (x:=oS J k) (f:=qH J) (q:=λj=>kP J j k) λj hj=>decide_eq_decide.mpr (by unfold oS qH;exact YT);rw[c] at e;unfold mA;rw[<-h,show(12:Nat)=6+6 from rfl,e,Nat.add_sub_add_left]
theorem aEv(hJ:J.length=6)(aR:Nat):Co (iW aR J) (oB J++oC J)=(dR (kP J) 6).map λb=>((bX 6).filter b.testBit).length:=by
 rw[Nq hJ,VC,fO];unfold Co;have hb:∀k,(rE aR (k,jb J k)).1=qH J k:=λ_=>rfl;rw[fO];simp only[PH,hb,aEw];exact CN _ _ λj hj=>congrArg rS (BV λk hk=>(Vo (fY.mp hk) j).symm)
theorem UG(hJ:J.length=6)(aR:Nat):dN (iW aR J) (oB J++oC J)=(bX 6).map (mA (kP J)):=by
 rw[Nq hJ];unfold dN;have hb:∀k,(rE aR (k,jb J k)).2.1=oS J k:=λ_=>rfl;rw[fO];simp only[PH,hb,aFm]
theorem aFl(bt:Nat->Nat->Bool):(bX 6).map (mA bt)=(bX 6).map λk=>((dR bt 6).filter (·.testBit k)).length:=by
 refine CN _ _ λk hk=>?_;rw[VC,x7,fE];unfold mA cnt;exact congrArg rS (BV λj _=>(Vo hk j).symm)
theorem aB6(hj:j<6)(h:∀a,a<6->q a=true->p a=true)(h1:p j=true)(h2:q j=false):cnt q<cnt p:=by
 refine Tx (l₁:=j::(bX 6).filter q) (Mw.mpr ⟨λm=>?_,JU q⟩) λa ha=>?_
 ·cases (((lO.mp m).2).symm.trans h2)
 ·rcases cE.mp ha with rfl|ha
  ·exact lO.mpr ⟨fY.mpr hj,h1⟩
  ·obtain⟨a1,a2⟩:=lO.mp ha
   exact lO.mpr ⟨a1,h a (fY.mp a1) a2⟩
theorem aJu(hM:∀k,k<6->(jb J k).1<(jb J k).2):yH (kP J) where
 nest:=λa b j ha hb hj hh vA=>by
  cases q:kP J j b with
  |true=>rfl
  |false=>
   have q1:=of_decide_eq_true vA;have q2:=Sr (of_decide_eq_false q);have:=aB6 (p:=λj=>kP J j a) hj (λi _ hi=>decide_eq_true (fD (eO (pZ q1 q2)) (of_decide_eq_true hi))) vA q;exact absurd hh (Nat.not_le.mpr this)
 B4:=⟨λk=>(jb J k).1,λj a _ ha hb=>qO (hM a ha) (of_decide_eq_true hb)⟩
theorem RH(hi:i<6):fJ ((bX 6).map (mA bt)) i= -(mA bt i:Int):=by
 unfold fJ;rw[iJ,Bv,PM hi];rfl
theorem XW{f:Nat->Int}{st:List Nat->Nat->List Nat}{rk:Nat->Int}(hp:∀l x,(st l x).Perm (x::l))(pW:∀{R:Nat->Nat->Prop} {l:List Nat} {x:Nat},x<6->(∀a∈l,a<x)->(l.Pairwise λa b=>f a<=f b)->l.Pairwise R->(∀a∈l,(f a<=f x/\rk a<=rk x->R a x)/\(f x<=f a/\rk x<=rk a->R x a))->(st l x).Pairwise R):
 ((bX 6).foldl st []).Perm (bX 6)/\((bX 6).foldl st []).Pairwise λa b=>f a<=f b/\rk a<=rk b:=
 UM hp (λn l hn hl hR=>pW hn (λa ha=>fY.mp (hl.mem_iff.mp ha)) (hR.imp And.left) hR λa _=>⟨id,id⟩) 6 (dH _)
theorem CU(hs:List Nat):(Cr hs).Perm (bX 6)/\(Cr hs).Pairwise λa b=>fJ hs a<=fJ hs b/\fJ hs a*6+a<=fJ hs b*6+b:=
 XW (λ_ _=>Nm _ _ _) λ{R l x} hx hl hf hR h=>SA hf hR (λa ha q=>(h a ha).1 ⟨q,by have:=hl a ha;exact lF (cG [_,_] [_,_] [.L 6 .x .y,.O (.l (.u .x) .y),.l (.u (.a (.t .y 6) (.c .y))) (.a (.t .x 6) (.c .x))] rfl q this)⟩) λa ha q=>(h a ha).2 ⟨zB q,by have:=hl a ha;exact lF (cG [_,_] [_,_] [.O (.l (.u .x) (.n 6)),.L 6 (.u .x) .y,.l (.u (.a (.t .y 6) (.c .y))) (.a (.t .x 6) (.c .x))] rfl hx q)⟩
theorem CT(hs:List Nat):(Cq hs).Perm (bX 6)/\(Cq hs).Pairwise λa b=>fJ hs a<=fJ hs b/\fJ hs a*6-a<=fJ hs b*6-b:=
 XW (λ_ _=>Nm _ _ _) λ{R l x} hx hl hf hR h=>SD hf hR (λa ha q=>(h a ha).1 ⟨zB q,by have:=hl a ha;exact lF (cG [_,_] [_,_] [.O (.l (.u .x) (.n 6)),.L 6 (.u .x) .y,.l (.u (.s (.t .y 6) (.c .x))) (.s (.t .x 6) (.c .y))] rfl hx q)⟩) λa ha q=>(h a ha).2 ⟨q,by have:=hl a ha;exact lF (cG [_,_] [_,_] [.L 6 .x .y,.O (.l (.u .x) .y),.l (.u (.s (.t .y 6) (.c .x))) (.s (.t .x 6) (.c .y))] rfl q this)⟩
theorem C4:qF [a,b] [c,d]=if a=c then decide (b<d) else decide (a<c):=by
 rw[Kb,Kb,show qF [] []=false from rfl]
 by_cases h:a=c
 ·rw[if_pos h,if_pos h]
  by_cases h2:b=d
  ·rw[if_pos h2,decide_eq_false (by exact cG [] [_,_] [.f .x .y,.l (.u .x) .y] rfl h2)]
  ·rw[if_neg h2]
 ·rw[if_neg h,if_neg h]
theorem aCz(hJ:J.length=6)(aR:Nat):Uz (iW aR J) (oB J++oC J) (dR (kP J) 6) where
 len:=by rw[nV,Nu,TL]
 ZA:=aEv hJ aR
 holds:=(UG hJ aR).trans (aFl _)
 ord:=by
  generalize dN (iW aR J) (oB J++oC J)=hs;have ok:=CU hs;have hI:qK 6 λi=>fJ hs i*6+i:=λi j hi hj dD=>by show fJ hs i*6+(i:Int)≠fJ hs j*6+j;exact λe=>dD (Xm hi hj e).2
  refine⟨λi=>fJ hs i*6+i,hI,λi j hi hj=>?_,λp h u=>FN hI ok.1 (ok.2.imp And.right) h u⟩;rw[C4];dsimp only
  split
  ·next h=>exact decide_eq_decide.mpr (by rw[h];exact⟨λq=>Mm q _,x8⟩)
  ·exact decide_eq_decide.mpr (Wh (yA hi) (yA hj) ‹_›)
 Lj:=by
  generalize dN (iW aR J) (oB J++oC J)=hs;have ok:=CT hs;have hI:qK 6 λi=>fJ hs i*6-i:=λi j hi hj dD=>by show fJ hs i*6-(i:Int)≠fJ hs j*6-j;exact λe=>dD (Xm hj hi (show fJ hs i*6+((j:Nat):Int)=fJ hs j*6+((i:Nat):Int) by rw[Int.sub_eq_iff_eq_add.mp e,Int.add_right_comm,Int.sub_add_cancel])).2.symm
  refine⟨λi=>fJ hs i*6-i,hI,λi j hi hj=>?_,λp h u=>FN hI ok.1 (ok.2.imp And.right) h u⟩;rw[C4];dsimp only
  split
  ·next h=>exact decide_eq_decide.mpr (by rw[h];exact⟨λq=>Mm q _,x8⟩)
  ·exact decide_eq_decide.mpr (Wh (C3 hj) (C3 hi) ‹_›)
theorem aIp(hJ:J.length=6)(aR:Nat)(d:List Nat):oR (kP J) (nK d (dN (iW aR J) (oB J++oC J))):=by
 rw[UG hJ]
 have key:∀{l:List Nat} {rk:Nat->Int},l.Perm (bX 6)->(l.Pairwise λa b=>fJ ((bX 6).map (mA (kP J))) a<=fJ ((bX 6).map (mA (kP J))) b/\rk a<=rk b)->oR (kP J) l:=λhp hs=>
  ⟨hp,hs.imp_of_mem λ{a b} ha hb q=>by
   have q:=q.1;rw[RH (fY.mp (hp.mem_iff.mp ha)),RH (fY.mp (hp.mem_iff.mp hb))] at q
   exact aV (cG [_,_] [] [.l (.g (.c .x)) (.g (.c .y)),.O (.l (.u .x) .y)] rfl q)⟩
 unfold nK
 split
 ·exact key (CT _).1 (CT _).2
 ·exact key (CU _).1 (CU _).2
end
section
open PySem PySem.StrLaws PySem.Builtin.Str
theorem aEz(s sub:aC)(hi:Nat):∀(l:List Nat) (a f:Nat),(Bz l ((#[a]:Array Nat),f) (occBody s sub hi 1)).run.fst= #[a]:=by
 intro l;induction l with
 |nil=>
  intro a f;exact rfl
 |cons b l ih=>
  intro a f;rw[zI];unfold occBody;rw[if_neg λh=>absurd h.1.1.1 (sR 1)];exact ih a f
theorem aC2(s sub:aC)(hi:Nat):∀(l:List Nat) (f:Nat),(∀i∈l,f<=i)->(Bz l ((#[]:Array Nat),f) (occBody s sub hi 1)).run.fst.toList=(l.find? λi=>decide (i+sub.length<=hi)&&subAt s sub i).toList:=by
 intro l;induction l with
 |nil=>
  intro f _;exact rfl
 |cons a l ih=>
  intro f hf;rw[zI,aPv];unfold occBody;cases hc:decide (a+sub.length<=hi)&&subAt s sub a with
  |true=>
   obtain⟨h1,h2⟩:=sS.mp hc;rw[if_pos ⟨⟨⟨aOq,hf a (.head _)⟩,of_decide_eq_true h1⟩,h2⟩];exact congrArg Array.toList (aEz s sub hi l a _)
  |false=>
   rw[if_neg λh=>by rw[decide_eq_true h.1.2,h.2] at hc;cases hc];exact ih f λi eV=>hf i (.tail _ eV)
theorem DL(s sub:aC)(lo hi:Nat):occurrences s sub lo hi 1=((BU lo (hi+1-lo)).find? λi=>decide (i+sub.length<=hi)&&subAt s sub i).toList:=by
 rw[occ_eq];exact aC2 s sub hi _ lo λi h=>(aPw.mp h).1
theorem DT(hn:n<=x.length):(decide (i+(⟨#[c]⟩:aC).length<=n)&&subAt x ⟨#[c]⟩ i)=decide (i<n/\x.cps.toList[i]?=some c):=by
 rw[My,sS,decide_eq_true_iff,decide_eq_true_iff];exact⟨λh=>⟨h.1,(subAt_one x c i).mp ⟨fD h.1 hn,h.2⟩⟩,λh=>⟨h.1,((subAt_one x c i).mpr h.2).2⟩⟩
theorem RI:∀(n lo i:Nat),lo<=i->i<lo+n->p i=true->(∀m,lo<=m->m<i->p m=false)->(BU lo n).find? p=some i:=by
 intro n;induction n with
 |zero=>
  intro lo i h1 h2 _ _;exact absurd h2 (pH.mpr h1)
 |succ n ih=>
  intro lo i h1 h2 h3 h4;rw[v7,aPv]
  by_cases e:lo=i
  ·subst e;rw[h3]
  ·rw[h4 lo (dH _) (qL h1 e)]
   exact ih (lo+1) i (qL h1 e) (bV (aG [_,_,_] [.l (.u .x) (.a .y (.u .z)),.l (.a (.u .y) .z) .x] rfl h2)) h3 λm a b=>h4 m (eO a) b
theorem Om(hn:n<=x.length)(h1:lo<=i)(h2:i<n)(h3:x.cps.toList[i]?=some c)(h4:∀m,lo<=m->m<i->x.cps.toList[m]?≠some c):occurrences x ⟨#[c]⟩ lo n 1=[i]:=by
 rw[DL,RI (n+1-lo) lo i h1 (bV (aG [_,_,_,_] [.l (.u .x) .y,.f (.a .z .w) (.u .y),.l (.a .w .z) .x] rfl h2 (bC (aV (aG [_,_,_] [.l .x .y,.l (.u .y) .z,.l (.u (.u .z)) .x] rfl h1 h2))))) (by rw[DT hn];exact decide_eq_true ⟨h2,h3⟩) λm a b=>by rw[DT hn];exact decide_eq_false λq=>h4 m a b q.2];rfl
theorem ER(hn:n<=x.length)(h:∀m,lo<=m->m<n->x.cps.toList[m]?≠some c):occurrences x ⟨#[c]⟩ lo n 1=[]:=by
 rw[DL,List.find?_eq_none.mpr λm hm q=>by
  rw[DT hn] at q;have q:=of_decide_eq_true q
  exact h m (aPw.mp hm).1 q.1 q.2]
 rfl
theorem aHc(h:lo<=n):occurrences x "" lo n 1=[lo]:=by
 rw[DL,RI (n+1-lo) lo lo (dH _) (bV (aG [_,_,_] [.l .x .y,.f (.a .z .x) (.u .y),.l (.a .x .z) .x] rfl h (bC (nW h)))) ?_ λm a b=>absurd a (Nat.not_le.mpr b)]
 ·rfl
 ·rw[subAt_eq]
  have:decide (lo+("":aC).length<=n)=true:=decide_eq_true h;rw[this];show((x.cps.toList.drop lo).take 0==[])=true;rw[List.take_zero];rfl
theorem aHl(h2:i<x.length)(h3:x.cps.toList[i]?=some c)(h4:∀m,i<m->x.cps.toList[m]?≠some c):lastOccurrence x ⟨#[c]⟩ 0 x.length=some i:=by
 have e:lastOccurrence x ⟨#[c]⟩ 0 x.length=(Bz (BU 0 (x.length+1-0)) (none:Option Nat) (λi (Kw:Option Nat)=>(if i+(⟨#[c]⟩:aC).length<=x.length/\subAt x ⟨#[c]⟩ i=true then pure (.yield (some i)) else pure (.yield Kw):Id (ForInStep (Option Nat))))).run:=by
  unfold lastOccurrence;simp
 have go:∀(n lo:Nat) (st:Option Nat),(lo<=i/\i<lo+n\/i<lo/\st=some i)->(Bz (BU lo n) st (λi (Kw:Option Nat)=>(if i+(⟨#[c]⟩:aC).length<=x.length/\subAt x ⟨#[c]⟩ i=true then pure (.yield (some i)) else pure (.yield Kw):Id (ForInStep (Option Nat))))).run=some i:=by
  intro n;induction n with
  |zero=>intro lo st h;exact h.elim (λq=>absurd q.2 (pH.mpr q.1)) λq=>q.2
  |succ n ih=>
   intro lo st h;rw[v7,zI]
   by_cases q:lo=i
   ·subst q
    rw[if_pos ((subAt_one x c lo).mpr h3)];exact ih (lo+1) _ (.inr ⟨rO _,rfl⟩)
   ·rcases h with h|h
    ·split
     ·exact ih (lo+1) _ (.inl (⟨qL h.1 q,by rw[NY];exact h.2⟩))
     ·exact ih (lo+1) _ (.inl (⟨qL h.1 q,by rw[NY];exact h.2⟩))
    ·rw[if_neg λz=>h4 lo h.1 ((subAt_one x c lo).mp z)]
     exact ih (lo+1) _ (.inr ⟨by exact bV (aG [_,_] [.l (.u .x) .y,.l (.u .y) .x] rfl h.1),h.2⟩)
 rw[e];exact go _ 0 none (.inl (⟨iR _,bV (aG [_,_,_] [.l (.u .x) .y,.f (.a .z .o) (.u .y),.l (.a .o .z) .x] rfl h2 (bC (aV (aG [_] [.l (.u (.u .x)) .o] rfl))))⟩))
theorem xR(e:t s i=.go s'):jA t s (i::l)=jA t s' l:=by rw[zU,e]
theorem Vc(e:t s i=.ret r):jA t s (i::l)=.ret r:=by rw[zU,e]
structure WL(l:List Nat)(lo hi:Nat->Nat):Prop where
 len:l.length=12
 HO:∀j,j<6->lo j<hi j
 IB:∀j,j<6->hi j<12
 oZ:∀j,j<6->∀q,l[q]?=some (97+j)↔q=lo j\/q=hi j
theorem DE:Cc x (L j)=decide (x.cps.toList[0]?=some (97+j)):=by
 unfold Cc L;rw[My,sS,decide_eq_true_iff,decide_eq_true_iff];exact subAt_one x (97+j) 0
theorem YH(h:1<=x.length):tZ x (L j)=decide (x.cps.toList[x.length-1]?=some (97+j)):=by
 unfold tZ L;rw[My,sS,decide_eq_true_iff,decide_eq_true_iff,<-subAt_one];show(0+1<=x.length/\_)↔(x.length-1+1<=x.length/\_);rw[bC h];exact⟨λq=>⟨dH _,q.2⟩,λq=>⟨h,q.2⟩⟩
theorem aFq:∀j<6,rR (rC j) "..."=true:=by decide+kernel
theorem aFo:∀j<6,rR (Ke j) "..."=true:=by decide+kernel
theorem aFp:∀j<6,∀k<6,rR (Dc j k) "..."=true:=by decide+kernel
theorem aKh:∀j<6,rR (L j) "..."=false:=by decide+kernel
theorem L1(j:Nat):(L j).length=1:=rfl
theorem UR(hj:j<6)(hx:2<=x.length):lS (rC j) x=(decide (x.cps.toList[0]?=some (97+j))&&decide (x.cps.toList[x.length-1]?=some (97+j))):=by
 have e:lS (rC j) x=sM x (L j) [L j]:=by unfold lS;rw[if_pos (aFq j hj),aA4 j hj]
 rw[e];unfold sM lX;rw[if_neg (show ¬(L j).length=0 by rw[L1];decide)];show(if(L j).length≠0/\Cc x (L j)=false then false else if(L j).length≠0/\tZ x (L j)=false then false else uF x (if(L j).length=0 then [L j] else []) 1 (x.length-1))=_;rw[DE,YH (fD (by decide) hx),if_neg (show ¬(L j).length=0 by rw[L1];decide)];cases h1:decide (x.cps.toList[0]?=some (97+j)) with
 |false=>rw[if_pos ⟨by rw[L1];decide,rfl⟩];rfl
 |true=>
  rw[if_neg λq=>by cases q.2];cases h2:decide (x.cps.toList[x.length-1]?=some (97+j)) with
  |false=>rw[if_pos ⟨by rw[L1];decide,rfl⟩];rfl
  |true=>
   rw[if_neg λq=>by cases q.2];unfold uF;rw[decide_eq_false (show ¬x.length-1<1 by exact aG [_,_] [.l (.n 2) .x,.f (.u .y) .x,.l (.u .y) .i] rfl hx (bC (aV (aG [_] [.l (.n 2) .x,.l (.u .x) .i] rfl hx)))),if_neg nofun];rfl
section
variable {w:aC} {lo hi:Nat->Nat}
theorem VS(w:aC)(n:Nat):(fZ w none (some ((n:Int)+1))).cps.toList=w.cps.toList.take (n+1):=by
 unfold fZ;rw[show((n:Int)+1)=((n+1:Nat):Int) from rfl,Nj]
theorem CR(w:aC)(n:Nat):(fZ w (some (n:Int)) none).cps.toList=w.cps.toList.drop n:=by
 unfold fZ;rw[aBt]
theorem DK(w:aC)(a n:Nat):(fZ w (some (a:Int)) (some ((n:Int)+1))).cps.toList=(w.cps.toList.take (n+1)).drop a:=by
 unfold fZ;rw[show((n:Int)+1)=((n+1:Nat):Int) from rfl,RS]
theorem Vg(x:aC):x.length=x.cps.toList.length:=rfl
theorem aHp{l:List Nat}{a n i:Nat}(h:a+i<n+1):((l.take (n+1)).drop a)[i]?=l[a+i]?:=by
 rw[QC,x9,if_pos h]
theorem aGn(W:WL w.cps.toList lo hi):Cv w lo hi λj k=>decide (hi k<lo j):=by
 have dQ:w.length=12:=W.len;have Sb:∀j,j<6->w.cps.toList[lo j]?=some (97+j):=λj hj=>(W.oZ j hj _).mpr (.inl rfl);have Sd:∀j,j<6->w.cps.toList[hi j]?=some (97+j):=λj hj=>(W.oZ j hj _).mpr (.inr rfl)
 have C2:∀a n:Nat,n<12->a<=n->(fZ w (some (a:Int)) (some ((n:Int)+1))).length=n+1-a:=λa n hn ha=>by
  rw[Vg,DK,aPx,qS,W.len];rw[vC hn]
 refine⟨dQ,λj hj=>⟨[],?_⟩,λj hj=>?_,λj hj=>?_,λj hj=>?_,λj hj=>?_,λj hj=>?_,λj hj k hk=>?_⟩
 all_goals have l1:=W.HO j hj
 all_goals have l2:=W.IB j hj
 ·exact Om (by exact dH _) (iR _) (by exact bV (aG [_,_,_] [.f .x (.n 12),.l (.u .y) .z,.l (.u .z) (.n 12),.l .x .y] rfl dQ l1 l2)) (Sb j hj) λm _ hm q=>by rcases(W.oZ j hj m).mp q with e|e<;>(first|exact aG [_,_] [.l (.u .x) .y,.f .x .y] rfl hm e|exact aG [_,_,_] [.l (.u .x) .y,.l (.u .z) .x,.f .z .y] rfl l1 hm e)
 ·exact aHl (by exact wG dQ l2) (Sd j hj) λm hm q=>by rcases(W.oZ j hj m).mp q with e|e<;>(first|exact aG [_,_,_] [.l (.u .x) .y,.l (.u .y) .z,.e .z .x] rfl l1 hm e|exact aG [_,_] [.l (.u .x) .y,.e .y .x] rfl hm e)
 ·have hl:(fZ w none (some ((hi j:Int)+1))).length=hi j+1:=by rw[Vg,VS,qS,W.len];exact vC l2
  rw[UR hj (by exact aV (aG [_,_,_] [.l (.u .x) .y,.f .z (.u .y),.l (.u .z) (.n 2)] rfl l1 hl)),hl,VS,BW,x9,if_pos (Nat.zero_lt_succ _),x9,if_pos (rO _),Sd j hj,decide_eq_true rfl,aPl];refine decide_eq_decide.mpr ((W.oZ j hj 0).trans ?_);exact⟨λq=>q.elim (λe=>by rw[<-e];rfl) (λe=>absurd l1 (by rw[<-e];exact Mv _)),λq=>.inl (Iq.mp q.symm)⟩
 ·have hl:(fZ w (some (lo j:Int)) none).length=12-lo j:=by rw[Vg,CR,aPx,W.len]
  rw[UR hj (by exact aV (aG [_,_,_,_] [.l (.u .x) .y,.l (.u .y) (.n 12),.f .z .w,.f (.a .w .x) (.n 12),.l (.u .z) (.n 2)] rfl l1 l2 hl (bC (aV (aG [_,_] [.l (.u .x) .y,.l (.u .y) (.n 12),.l (.u (.n 12)) .x] rfl l1 l2))))),hl,CR,QC,QC,Mu,Sb j hj,decide_eq_true rfl,Bool.true_and];refine decide_eq_decide.mpr ((W.oZ j hj _).trans ?_);rw[QD,PD (vB (tY l1 l2))];exact⟨λq=>q.elim (λe=>absurd l1 (by rw[<-e];exact pH.mpr (vB l2))) (λe=>by rw[<-e];rfl),λq=>.inr (AY (Iq.mp (show((hi j+1:Nat):Int)=((12:Nat):Int) from q))).symm⟩
 ·have e:lS (Ke j) w=sM w "" [L j,L j,L j,""]:=by unfold lS;rw[if_pos (aFo j hj),aA2 j hj]
  rw[e];have e2:sM w "" [L j,L j,L j,""]=uF w ["",L j,L j,L j,""] 0 w.length:=by unfold sM lX;rfl
  rw[e2];unfold uF;rw[decide_eq_false (Mv _),if_neg nofun];have s0:mV w w.length 0 ""=.go 0:=by unfold mV;rw[QE,aHc (iR _)];rfl
  have s1:mV w w.length 0 (L j)=.go (lo j+1):=by
   unfold mV L;rw[QE,Om (dH _) (iR _) (by exact bV (aG [_,_,_] [.f .x (.n 12),.l (.u .y) .z,.l (.u .z) (.n 12),.l .x .y] rfl dQ l1 l2)) (Sb j hj) λm _ hm q=>by rcases(W.oZ j hj m).mp q with e|e<;>(first|exact aG [_,_] [.l (.u .x) .y,.f .x .y] rfl hm e|exact aG [_,_,_] [.l (.u .x) .y,.l (.u .z) .x,.f .z .y] rfl l1 hm e)];rfl
  have s2:mV w w.length (lo j+1) (L j)=.go (hi j+1):=by
   unfold mV L;rw[QE,Om (dH _) l1 (by exact wG dQ l2) (Sd j hj) λm wM hm q=>by rcases(W.oZ j hj m).mp q with e|e<;>(first|exact aG [_,_] [.l (.u .x) .y,.f .x .y] rfl hm e|exact sR _ (e▸wM))];rfl
  have s3:mV w w.length (hi j+1) (L j)=.ret (.bool false):=by
   unfold mV L;rw[QE,ER (dH _) λm wM hm q=>by rcases(W.oZ j hj m).mp q with e|e<;>(first|exact aG [_,_,_] [.l (.u .x) .y,.l (.u .y) .z,.e .z .x] rfl l1 wM e|exact aG [_,_] [.l (.u .x) .y,.e .y .x] rfl wM e)]
  rw[xR s0,xR s1,xR s2,Vc s3]
 ·unfold lS
  rw[if_neg (by rw[aKh j hj];nofun)];refine beq_eq_false_iff_ne.mpr λq=>?_;have hl:=C2 (lo j) (hi j) l2 (eO l1);rw[<-q,L1] at hl;exact aG [_,_,_] [.l (.u .x) .y,.f .i .z,.f (.a .z .x) (.u .y)] rfl l1 hl (bC (aV (aG [_,_] [.l (.u .x) .y,.l (.u (.u .y)) .x] rfl l1)))
 ·have k1:=W.HO k hk
  have k2:=W.IB k hk;have e:lS (Dc j k) (fZ w (some (lo k:Int)) (some ((hi j:Int)+1)))=sM (fZ w (some (lo k:Int)) (some ((hi j:Int)+1))) (L k) [L k,L j,L j]:=by unfold lS;rw[if_pos (aFp j hj k hk),aA3 j hj k hk]
  rw[e];unfold sM lX;rw[if_neg (show ¬(L k).length=0 by rw[L1];decide)]
  by_cases gG:hi j<lo k
  ·rw[DE,DK,Iz (by rw[qS,W.len];exact aV (aG [_,_,_] [.l (.u .x) .y,.l .z (.u .x),.l (.u .y) .z] rfl gG (rT _ _))),decide_eq_false nofun,if_pos ⟨by rw[L1];decide,rfl⟩]
   exact(decide_eq_false (by exact aG [_,_,_,_] [.l (.u .x) .y,.l (.u .z) .w,.l (.u .y) .z,.l (.u .w) .x] rfl l1 k1 gG)).symm
  ·have gG:=Ep gG
   have hl:=C2 (lo k) (hi j) l2 gG;have g:∀i,i<hi j+1-lo k->(fZ w (some (lo k:Int)) (some ((hi j:Int)+1))).cps.toList[i]?=w.cps.toList[lo k+i]?:=λi hi=>by rw[DK,aHp (by exact bV (aG [_,_,_,_] [.l (.u .x) .y,.e (.a .y .z) (.u .w),.l (.u .w) (.a .z .x)] rfl hi (bC (nW gG))))]
   generalize fZ w (some (lo k:Int)) (some ((hi j:Int)+1))=x at hl g
   have dD:lo k≠hi j:=λq=>by
    have a:=Sb k hk;rw[q,Sd j hj] at a;have:j=k:=by injection a;exact aN8 ‹_›
    subst this;exact aG [_,_] [.l (.u .x) .y,.f .x .y] rfl l1 q
   rw[DE,g 0 (by exact bV (aG [_,_,_] [.l .x .y,.f (.a .z .x) (.u .y),.l .z .o] rfl gG (bC (nW gG)))),Mu,Sb k hk,decide_eq_true rfl,if_neg λq=>by cases q.2];show(if(L j).length≠0/\tZ x (L j)=false then false else uF x (if(L j).length=0 then [L k,L j,L j] else [L k,L j]) 1 (x.length-1))=_;rw[YH (by exact aV (aG [_,_,_,_] [.l .x .y,.f .z .w,.f (.a .w .x) (.u .y),.l (.u .z) .i] rfl gG hl (bC (nW gG)))),hl,g _ (by exact W5 (aPy (aO2 gG)) (by decide)),show lo k+(hi j+1-lo k-1)=hi j by rw[QD,BW,PD gG],Sd j hj,decide_eq_true rfl,if_neg (λq=>by cases q.2),if_neg (show ¬(L j).length=0 by rw[L1];decide)];unfold uF;rw[decide_eq_false (show ¬hi j+1-lo k-1<1 by exact pH.mpr (by rw[QD,BW];exact aPy (qL gG dD))),if_neg nofun];have mn:min (hi j+1-lo k-1) x.length=hi j-lo k:=by rw[hl,vC (NI _ _),QD,BW]
   have at_:∀{c m:Nat},c<6->m<hi j-lo k->(x.cps.toList[m]?=some (97+c)↔lo k+m=lo c\/lo k+m=hi c):=λ{c m} hc hm=>by rw[g m (by exact bV (aG [_,_,_,_,_] [.l (.u .x) .y,.e (.a .y .z) .w,.f (.a .p .z) (.u .w),.l .p .x] rfl hm (bC (gG)) (bC (nW gG))))];exact W.oZ c hc _
   show(match jA (mV x (hi j+1-lo k-1)) 1 [L k,L j] with|.go _=>true|_=>false)=_
   by_cases h1:hi k<hi j
   ·have s1:mV x (hi j+1-lo k-1) 1 (L k)=.go (hi k-lo k+1):=by
     unfold mV L;rw[mn,Om (by exact aV (aG [_,_,_] [.f .x .y,.l .x .z,.l (.u .z) .y] rfl mn (Fg _ _))) (by exact aV (aG [_,_,_,_,_] [.l (.u .x) .y,.f (.a .z .x) .y,.e (.a .w .x) (.u .p),.f (.a .w .x) (.u .p),.l (.u .z) .i] rfl k1 (bC (eO k1)) (bC (nW gG)) (bC (nW gG)))) (by exact bV (aG [_,_,_,_,_] [.l (.u .x) .y,.e (.a .z .w) .x,.f (.a .p .w) .y,.l .p .z] rfl h1 (bC (eO k1)) (bC (gG)))) ((at_ hk (m:=hi k-lo k) (by exact bV (aG [_,_,_,_,_] [.l (.u .x) .y,.e (.a .z .w) .x,.f (.a .p .w) .y,.l .p .z] rfl h1 (bC (eO k1)) (bC (gG))))).mpr (.inr (by exact eQ (aG [_,_,_] [.f (.a .x .y) .z,.l (.u (.a .y .x)) .z] rfl (bC (eO k1))) (aG [_,_,_] [.e (.a .x .y) .z,.l (.u .z) (.a .y .x)] rfl (bC (eO k1)))))) λm wM hm q=>by rcases(at_ hk (m:=m) (by exact bV (aG [_,_,_,_,_,_] [.l (.u .x) .y,.l (.u .z) .w,.e (.a .w .p) .x,.f (.a .q .p) .y,.l .q .z] rfl h1 hm (bC (eO k1)) (bC (gG))))).mp q with e|e<;>(first|exact aG [_,_] [.l .i .x,.e (.a .y .x) .y] rfl wM e|exact aG [_,_,_,_,_,_] [.l (.u .x) .y,.f (.a .z .x) .w,.e (.a .y .z) .w,.e (.a .p .z) (.u .q),.f (.a .p .z) (.u .q)] rfl hm e (bC (eO k1)) (bC (nW gG)) (bC (nW gG)))];rfl
    rw[xR s1]
    by_cases h2:hi k<lo j
    ·have s2:mV x (hi j+1-lo k-1) (hi k-lo k+1) (L j)=.go (lo j-lo k+1):=by
      unfold mV L;rw[mn,Om (by exact aV (aG [_,_,_] [.f .x .y,.l .x .z,.l (.u .z) .y] rfl mn (Fg _ _))) (by exact aV (aG [_,_,_,_,_] [.l (.u .x) .y,.f (.a .z .w) .y,.e (.a .p .w) .x,.l (.u .z) (.u .p)] rfl h2 (bC (aV (aG [_,_,_] [.l (.u .x) .y,.l (.u .y) .z,.l (.u .z) .x] rfl k1 h2))) (bC (eO k1)))) (by exact bV (aG [_,_,_,_,_] [.l (.u .x) .y,.e (.a .z .w) .x,.f (.a .p .w) .y,.l .p .z] rfl l1 (bC (aV (aG [_,_,_] [.l (.u .x) .y,.l (.u .y) .z,.l (.u .z) .x] rfl k1 h2))) (bC (gG)))) ((at_ hj (m:=lo j-lo k) (bV (aG [_,_,_,_,_] [.l (.u .x) .y,.e (.a .z .w) .x,.f (.a .p .w) .y,.l .p .z] rfl l1 (bC (aV (aG [_,_,_] [.l (.u .x) .y,.l (.u .y) .z,.l (.u .z) .x] rfl k1 h2))) (bC (gG))))).mpr (.inl (eQ (aG [_,_,_] [.f (.a .x .y) .z,.l (.u (.a .y .x)) .z] rfl (bC (aV (aG [_,_,_] [.l (.u .x) .y,.l (.u .y) .z,.l (.u .z) .x] rfl k1 h2)))) (aG [_,_,_] [.e (.a .x .y) .z,.l (.u .z) (.a .y .x)] rfl (bC (aV (aG [_,_,_] [.l (.u .x) .y,.l (.u .y) .z,.l (.u .z) .x] rfl k1 h2))))))) λm wM hm q=>by rcases(at_ hj (m:=m) (bV (aG [_,_,_,_,_,_] [.l (.u .x) .y,.l (.u .z) .w,.e (.a .w .p) .x,.f (.a .q .p) .y,.l .q .z] rfl l1 hm (bC (aV (aG [_,_,_] [.l (.u .x) .y,.l (.u .y) .z,.l (.u .z) .x] rfl k1 h2))) (bC (gG))))).mp q with e|e<;>(first|exact aG [_,_,_,_,_,_] [.l (.u .x) .y,.f (.a .z .x) .w,.e (.a .y .z) .w,.e (.a .p .z) (.u .q),.f (.a .p .z) (.u .q)] rfl hm e (bC (aV (aG [_,_,_] [.e (.a .x .y) .z,.l (.u .z) .x] rfl e))) (bC (nW gG)) (bC (nW gG))|exact aG [_,_,_,_,_,_] [.l (.u .x) .y,.l (.u .z) .w,.f (.a .p .z) .y,.e (.a .w .p) .x,.e (.a .q .p) (.u .y),.f (.a .q .p) (.u .y)] rfl l1 hm e (bC (aV (aG [_,_,_] [.l (.u .x) .y,.l (.u .y) .z,.l (.u .z) .x] rfl k1 h2))) (bC (nW gG)) (bC (nW gG)))];rfl
     rw[xR s2,decide_eq_true h2];rfl
    ·have s2:mV x (hi j+1-lo k-1) (hi k-lo k+1) (L j)=.ret (.bool false):=by
      unfold mV L;rw[mn,ER (by exact aV (aG [_,_,_] [.f .x .y,.l .x .z,.l (.u .z) .y] rfl mn (Fg _ _))) λm wM hm q=>by rcases(at_ hj hm).mp q with e|e<;>(first|exact aG [_,_,_,_,_,_,_] [.m .x .y,.l (.u .z) .w,.e (.a .p .w) .y,.f (.a .z .p) .x,.e (.a .q .p) (.u (.v 6)),.f (.a .q .p) (.u (.v 6))] rfl h2 wM e (bC (eO k1)) (bC (nW gG)) (bC (nW gG))|exact aG [_,_,_,_,_] [.l (.u .x) .y,.f (.a .z .x) .w,.e (.a .y .z) .w,.e (.a .p .z) (.u .w),.f (.a .p .z) (.u .w)] rfl hm e (bC (gG)) (bC (nW gG)) (bC (nW gG)))]
     rw[Vc s2,decide_eq_false h2]
   ·have s1:mV x (hi j+1-lo k-1) 1 (L k)=.ret (.bool false):=by
     unfold mV L;rw[mn,ER (by exact aV (aG [_,_,_] [.f .x .y,.l .x .z,.l (.u .z) .y] rfl mn (Fg _ _))) λm wM hm q=>by rcases(at_ hk hm).mp q with e|e<;>(first|exact aG [_,_] [.l .i .x,.e (.a .y .x) .y] rfl wM e|exact aG [_,_,_,_,_,_] [.m .x .y,.l (.u .z) .w,.f (.a .p .z) .x,.e (.a .w .p) .y,.e (.a .q .p) (.u .y),.f (.a .q .p) (.u .y)] rfl h1 hm e (bC (gG)) (bC (nW gG)) (bC (nW gG)))]
    rw[Vc s1];exact(decide_eq_false (by exact aG [_,_,_] [.l (.u .x) .y,.m .z .y,.l (.u .z) .x] rfl l1 h1)).symm
end
end
section
open PySem
noncomputable def Yb(J:List eX)(i:Nat):Int:=if i<6 then oS J i else qH J (i-6)
noncomputable def wD(J:List eX)(i:Nat):Int:=(Yb J i*2+(i/6:Nat))*6+(i % 6:Nat)
noncomputable def uW(J:List eX):List Nat:=FT (wD J) 12
noncomputable def yV(J:List eX)(i:Nat):Ev:=(Yb J i,i/6,i % 6)
noncomputable def lU(J:List eX):List Ev:=(uW J).map (yV J)
section
variable {J:List eX}
theorem aDl(hJ:J.length=6)(aR:Nat):Ar (iW aR J)++Aq (iW aR J)=(bX 12).map λi=>Zq (yV J i):=by
 obtain⟨_,_,_,_,_,_,rfl⟩:=JF hJ;rfl
theorem XF:qK 12 (wD J):=λi j hi hj dD=>by unfold wD;exact λe=>by obtain⟨e1,e2⟩:=Xm (gY _ (by decide)) (gY _ (by decide)) e;obtain⟨_,e3⟩:=Xm (aPz hi) (aPz hj) e1;exact dD ((iK i 6).symm.trans (by rw[e3,e2];exact iK j 6))
theorem aLk{a a':Int}{b b' c c':Nat}(hb:b<2)(dJ:b'<2)(hc:c<6)(Zc:c'<6):qF [a,(b:Int),(c:Int)] [a',(b':Int),(c':Int)]=decide ((a*2+b)*6+c<(a'*2+b')*6+c'):=by
 rw[Kb,Kb,Kb,show qF [] []=false from rfl]
 by_cases h1:a=a'
 ·rw[if_pos h1]
  by_cases h2:(b:Int)=b'
  ·rw[if_pos h2]
   by_cases h3:(c:Int)=c'
   ·rw[if_pos h3,decide_eq_false (by rw[h1,h2,h3];exact NJ _)]
   ·rw[if_neg h3];exact decide_eq_decide.mpr (by rw[h1,h2];exact⟨λq=>Mm q _,x8⟩)
  ·rw[if_neg h2];exact decide_eq_decide.mpr (Wh (λq=>yA hc (by rw[h1];exact Mm q _)) (λq=>yA Zc (by rw[h1];exact Mm q _)) h2)
 ·rw[if_neg h1];exact decide_eq_decide.mpr (Wh (λq=>yA hc (yA hb q)) (λq=>yA Zc (yA dJ q)) h1)
theorem Vb:(uW J).Perm (bX 12):=(DF _ _).1
theorem Vs:(uW J).length=12:=Vb.length_eq.trans Fy
theorem aJr:(uW J).Nodup:=Vb.nodup_iff.mpr BA
theorem Oi:i∈uW J↔i<12:=Vb.mem_iff.trans fY
theorem aJb(hJ:J.length=6)(aR:Nat):GO (iW aR J) (lU J) where
 len:=by rw[Nq hJ,fE,Fy]
 Sf:=by unfold lU;rw[fE,Vs]
 lt:=λe he=>by
  obtain⟨i,_,rfl⟩:=gK.mp he;exact gY _ (by decide)
 I7:=by
  have g:∀i,i<12->(Ar (iW aR J)++Aq (iW aR J)).getD i []=Zq (yV J i):=λi hi=>by
   rw[aDl hJ,iJ,Bv,PM hi];rfl
  refine⟨wD J,XF,λi j hi hj=>?_,λp h u=>?_⟩
  ·rw[g i hi,g j hj]
   exact aLk (by show i/6<2;exact bV (aG [_,_,_] [.l (.u .x) (.n 12),.e (.a (.m 6 .y) .z) .x,.L 6 (.n 2) .y] rfl hi (iK _ 6))) (by show j/6<2;exact bV (aG [_,_,_] [.l (.u .x) (.n 12),.e (.a (.m 6 .y) .z) .x,.L 6 (.n 2) .y] rfl hj (iK _ 6))) (gY _ (by decide)) (gY _ (by decide))
  ·have e:=FN XF Vb (DF _ _).2 h u
   rw[e];unfold lU;rw[fO];exact zG λi hi=>g i (Oi.mp hi)
theorem WB:∀{l:List Nat},i∈l->l[l.idxOf i]?=some i
 |a::l,h=>by
  by_cases e:a=i
  ·subst e;rw[List.idxOf_cons_self];rfl
  ·rw[List.idxOf_cons,beq_eq_false_iff_ne.mpr e]
   show l[l.idxOf i]?=some i;exact WB ((cE.mp h).resolve_left (gJ e))
noncomputable def vX(J:List eX)(i:Nat):Nat:=(uW J).idxOf i
theorem Gg(hi:i<12):(uW J)[vX J i]?=some i:=WB (Oi.mpr hi)
theorem XJ(hi:i<12):vX J i<12:=Vs▸List.idxOf_lt_length_of_mem (Oi.mpr hi)
theorem DX(hi:i<12):(uW J)[q]?=some i↔q=vX J i:=by
 refine⟨λh=>?_,λh=>h▸Gg hi⟩;obtain⟨hq,_⟩:=zF.mp h;exact(List.getElem?_inj hq aJr).mp (h.trans (Gg hi).symm)
theorem DJ(hi:i<12)(hj:j<12)(h:wD J i<wD J j):vX J i<vX J j:=by
 rcases y6 (vX J i) (vX J j) with q|q
 ·exact q
 ·rcases w9 q with q|q
  ·have r:=CS (l:=uW J) (DF (wD J) 12).2 0 q (by rw[Vs];exact XJ hi)
   rw[iJ,iJ,Gg hi,Gg hj] at r;simp only[k7] at r;exact absurd h (pG.mpr r)
  ·have h1:=Gg (J:=J) hi
   rw[<-q,Gg hj] at h1;have h1:=AK h1;rw[h1] at h;exact absurd h (NJ _)
noncomputable def yK(J:List eX)(j:Nat):Nat:=vX J (j+6)
noncomputable def yP(J:List eX)(j:Nat):Nat:=vX J j
theorem XG(hk:k<6):wD J k=oS J k*12+k:=by
 unfold wD Yb;rw[if_pos hk,W9 hk,Jo hk];exact sP (cG [_] [_] [.l (.u (.a (.t (.a (.t .x 2) (.c .o)) 6) (.c .x))) (.a (.t .x 12) (.c .x))] rfl) (cG [_] [_] [.l (.u (.a (.t .x 12) (.c .x))) (.a (.t (.a (.t .x 2) (.c .o)) 6) (.c .x))] rfl)
theorem XH(hj:j<6):wD J (j+6)=qH J j*12+6+j:=by
 unfold wD Yb;rw[if_neg (by exact aG [_] [.l (.u (.a .x (.n 6))) (.n 6)] rfl),BW,show(j+6)/6=1 by exact eQ (aG [_,_,_] [.f (.a (.m 6 .x) .y) (.a .z (.n 6)),.l (.u .y) (.n 6),.L 6 (.u .x) .i] rfl (iK _ 6) (gY _ (sW 5))) (aG [_,_,_] [.l (.u .x) (.n 6),.e (.a (.m 6 .y) .z) (.a .x (.n 6)),.L 6 (.u .i) .y] rfl hj (iK _ 6)),show(j+6) % 6=j by rw[v8];exact Jo hj];exact sP (cG [_] [_] [.l (.u (.a (.t (.a (.t .x 2) (.c .i)) 6) (.c .x))) (.a (.a (.t .x 12) (.n 6)) (.c .x))] rfl) (cG [_] [_] [.l (.u (.a (.a (.t .x 12) (.n 6)) (.c .x))) (.a (.t (.a (.t .x 2) (.c .i)) 6) (.c .x))] rfl)
theorem GI(hj:j<6)(hk:k<6):yP J k<yK J j↔kP J j k=true:=by
 have r1:=XG (J:=J) hk;have r2:=XH (J:=J) hj;unfold kP;rw[decide_eq_true_iff];unfold oS at r1;unfold qH at r2;constructor
 ·intro h
  rcases y6 (jb J j).1 (jb J k).2 with q|q
  ·exact absurd (DJ (i:=j+6) (bV (aG [_] [.l (.u .x) (.n 6),.l (.n 12) (.a .x (.n 6))] rfl hj)) (jK hk rfl) (by rw[r1,r2];exact pF (cG [_,_,_,_] [] [.O (.l (.u .x) (.n 6)),.O (.L 24 (.u .y) .z),.l (.a (.t (.m 2 (.c .z)) 12) (.c .w)) (.a (.a (.t (.m 2 (.c .y)) 12) (.n 6)) (.c .x))] rfl hj q))) (pH.mpr (eO h))
  ·exact q
 ·intro h
  exact DJ (jK hk rfl) (bV (aG [_] [.l (.u .x) (.n 6),.l (.n 12) (.a .x (.n 6))] rfl hj)) (by rw[r1,r2];exact pF (cG [_,_,_,_] [] [.O (.l (.u .x) (.n 6)),.O (.L 24 .y .z),.l (.a (.a (.t (.m 2 (.c .z)) 12) (.n 6)) (.c .w)) (.a (.t (.m 2 (.c .y)) 12) (.c .x))] rfl hk h))
theorem aJ2(hM:∀k,k<6->(jb J k).1<(jb J k).2)(hj:j<6):yK J j<yP J j:=by
 have r1:=XG (J:=J) hj;have r2:=XH (J:=J) hj;have:=hM j hj;unfold oS at r1;unfold qH at r2;exact DJ (bV (aG [_] [.l (.u .x) (.n 6),.l (.n 12) (.a .x (.n 6))] rfl hj)) (jK hj rfl) (by rw[r1,r2];exact pF (cG [_,_,_] [] [.O (.L 24 (.u .x) .y),.l (.a (.t (.m 2 (.c .y)) 12) (.c .z)) (.a (.a (.t (.m 2 (.c .x)) 12) (.n 6)) (.c .z))] rfl this))
theorem aDi(l:List aC):∀bS:Array Nat,(l.foldl (λbS p=>bS++("":aC).cps++p.cps) bS).toList=bS.toList++l.flatMap λp=>p.cps.toList:=by
 induction l with
 |nil=>intro bS;exact(pB _).symm
 |cons p l ih=>
  intro bS;rw[nH,ih,Jd,<-pJ];congr 1;show(bS++ #[]++p.cps).toList=_;rw[Array.append_empty,PB]
theorem UD(l:List aC):(Fo "" l).cps.toList=l.flatMap λp=>p.cps.toList:=by
 unfold Fo kR.Str.glued;cases l with
 |nil=>rfl
 |cons p l=>exact aDi l p.cps
theorem TA:(Gp (lU J)).cps.toList=(uW J).map λi=>97+i % 6:=by
 unfold Gp lU;rw[UD,fO,List.flatMap_map];show((uW J).flatMap λi=>[97+i % 6])=_;induction uW J with
 |nil=>rfl
 |cons i l ih=>rw[Jd,ih];rfl
theorem aGm(hM:∀k,k<6->(jb J k).1<(jb J k).2):WL (Gp (lU J)).cps.toList (yK J) (yP J) where
 len:=by rw[TA,fE,Vs]
 HO:=λj hj=>aJ2 hM hj
 IB:=λj hj=>XJ (jK hj rfl)
 oZ:=λj hj q=>by
  rw[TA,Bv,Eu];unfold yK yP;rw[<-DX (show j+6<12 by exact bV (aG [_] [.l (.u .x) (.n 6),.l (.n 12) (.a .x (.n 6))] rfl hj)),<-DX (show j<12 by exact jK hj rfl)];refine⟨λ⟨i,h1,h2⟩=>?_,λh=>h.elim (λh=>⟨_,h,by show 97+(j+6) % 6=97+j;rw[v8,Jo hj]⟩) λh=>⟨_,h,by show 97+j % 6=97+j;rw[Jo hj]⟩⟩;have hi:=Oi.mp (dY h1);have:i=j+6\/i=j:=(by decide:∀i,i<12->∀j,j<6->97+i % 6=97+j->i=j+6\/i=j) i hi j hj h2;rcases this with e|e<;>subst e
  ·exact .inl h1
  ·exact .inr h1
theorem ZU(h:(lU J)[q]?=some e):∃i,i<12/\e=yV J i/\q=vX J i:=by
 unfold lU at h;rw[Bv,Eu] at h;obtain⟨i,h1,rfl⟩:=h;have hi:=Oi.mp (dY h1);exact⟨i,hi,rfl,(DX hi).mp h1⟩
theorem YG(hi:i<12):(lU J)[vX J i]?=some (yV J i):=by
 unfold lU;rw[Bv,Gg hi];rfl
end
end
section
open PySem PySem.StrLaws
noncomputable abbrev QS:=Bool×Bool×List Nat
noncomputable def uH:QS->Nat->QS
 |(true,q,o),c=>(false,q,if q then o else o++[c])
 |(false,q,o),c=>if c=92 then(true,q,if q then o else o++[c]) else if c=34 then(false,!q,o) else(false,q,if q then o else o++[c])
theorem Va(q:Bool)(o:List Nat)(c:Nat):uH (false,q,o) c=if c=92 then(true,q,if q then o else o++[c]) else if c=34 then(false,!q,o) else(false,q,if q then o else o++[c]):=rfl
noncomputable def Cz(l:List aC):List Nat:=l.flatMap λp=>p.cps.toList
def SI(x:List Nat)(n:Nat)(q:Bool)(o:List Nat)(s:SS):Prop:=match q with
 |false=>s.op=none/\∃a:Nat,s.st=(a:Int)/\a<=n/\Cz s.res++(x.take n).drop a=o
 |true=>∃a b:Nat,s.st=(a:Int)/\s.op=some (b:Int)/\a<=b/\b<n/\Cz s.res++(x.take b).drop a=o
theorem aCr{x:List Nat}{n c a:Nat}(h:x[n]?=some c)(ha:a<=n):(x.take (n+1)).drop a=(x.take n).drop a++[c]:=by
 obtain⟨h1,h2⟩:=zF.mp h;rw[aNu,h,aPu (by rw[qS];exact Nat.le_min.mpr ⟨ha,fD ha (eO h1)⟩)];rfl
theorem SI.keep{x:List Nat}{n c:Nat}{q:Bool}{o:List Nat}{s:SS}(h:SI x n q o s)(hc:x[n]?=some c):SI x (n+1) q (if q then o else o++[c]) s:=by
 cases q with
 |false=>
  obtain⟨h1,a,h2,h3,h4⟩:=h;refine⟨h1,a,h2,nW h3,?_⟩;rw[aCr hc h3,<-pJ,h4];rfl
 |true=>
  obtain⟨a,b,h1,h2,h3,h4,h5⟩:=h;exact⟨a,b,h1,h2,h3,AA h4,h5⟩
theorem aIi(c:Nat):(("\\"++⟨#[c]⟩:aC)==("\"":aC))=false:=beq_eq_false_iff_ne.mpr λe=>by
 have:=congrArg (λx:aC=>x.cps.size) e;exact absurd this (by show ¬2=1;decide)
theorem aIa:(("\\":aC)==("\"":aC))=false:=by decide+kernel
theorem Cn(c d:Nat):((⟨#[c]⟩:aC)==⟨#[d]⟩)=decide (c=d):=by
 by_cases h:c=d
 ·subst h;rw[decide_eq_true rfl];exact beq_self_eq_true _
 ·rw[decide_eq_false h]
  exact beq_eq_false_iff_ne.mpr λe=>h (by injection e with e;injection e with e;injection e)
theorem Ur:("\"":aC)=⟨#[34]⟩:=by decide+kernel
theorem aCx(x:aC)(a b:Nat):(fZ x (some (a:Int)) (some (b:Int))).cps.toList=(x.cps.toList.take b).drop a:=by unfold fZ;rw[RS]
theorem RY(l:List aC)(p:aC):Cz (l++[p])=Cz l++p.cps.toList:=by unfold Cz;rw[List.flatMap_append,Jd,List.flatMap_nil,pB]
theorem Nt(x:aC):∀(l:List Nat) (n:Nat) (e q:Bool) (o:List Nat) (s:SS) (p:Int),x.cps.toList.drop n=l->n<=x.cps.toList.length->SI x.cps.toList n q o s->
 SI x.cps.toList (n+l.length) (l.foldl uH (e,q,o)).2.1 (l.foldl uH (e,q,o)).2.2 ((mU e n p l).foldl (qW x) s)
 |[],n,true,q,o,s,p,hl,hn,h=>by
  show SI _ _ q o (qW x s (p,"\\"));unfold qW;rw[if_neg (by rw[aIa];nofun)];exact h
 |[],n,false,q,o,s,p,hl,hn,h=>h
 |c::l,n,e,q,o,s,p,hl,hn,h=>by
  have hc:x.cps.toList[n]?=some c:=by rw[<-Mu n,<-QC,hl];rfl
  have nA:x.cps.toList.drop (n+1)=l:=by rw[<-NW,hl];rfl
  have wL:=(zF.mp hc).1;have hk:=h.keep hc;rw[pL,show n+(l.length+1)=n+1+l.length by exact eQ (aG [_,_] [.l (.u (.a .x (.u .y))) (.a (.u .x) .y)] rfl) (aG [_,_] [.l (.u (.a (.u .x) .y)) (.a .x (.u .y))] rfl),nH];cases e with
  |true=>
   rw[FC,nH];have e1:qW x s ((n:Int),"\\"++⟨#[c]⟩)=s:=by unfold qW;rw[if_neg (by rw[aIi];nofun)]
   rw[e1];exact Nt x l (n+1) false q _ s _ nA wL hk
  |false=>
   rw[Kc]
   by_cases nB:c=92
   ·rw[if_pos nB]
    have e2:uH (false,q,o) c=(true,q,if q then o else o++[c]):=by rw[Va,if_pos nB]
    rw[e2];exact Nt x l (n+1) true q _ s _ nA wL hk
   ·rw[if_neg nB,nH]
    by_cases Zl:c=34
    ·have e2:uH (false,q,o) c=(false,!q,o):=by rw[Va,if_neg nB,if_pos Zl]
     rw[e2];refine Nt x l (n+1) false (!q) o _ _ nA wL ?_;unfold qW;rw[Ur,Cn,if_pos (decide_eq_true Zl)];cases q with
     |false=>
      obtain⟨h1,a,h2,h3,h4⟩:=h;rw[h1];exact⟨a,n,h2,rfl,h3,rO _,h4⟩
     |true=>
      obtain⟨a,b,h1,h2,h3,h4,h5⟩:=h;rw[h2];refine⟨rfl,n+1,rfl,dH _,?_⟩;rw[Iz (by rw[qS];exact aV (aG [_,_] [.l .x (.u .y),.l (.u (.u .y)) .x] rfl (rT _ _))),pB];show Cz (if s.st !=(b:Int) then _ else _)=o;rw[h1]
      by_cases vA:a=b
      ·subst vA
       rw[if_neg (by simp),<-h5,Iz (by rw[qS];exact(rT _ _)),pB]
      ·rw[if_pos (by simp;exact λe=>vA (Iq.mp e)),RY,aCx,h5]
    ·have e2:uH (false,q,o) c=(false,q,if q then o else o++[c]):=by rw[Va,if_neg nB,if_neg Zl]
     rw[e2];have e1:qW x s ((n:Int),⟨#[c]⟩)=s:=by unfold qW;rw[Ur,Cn,if_neg λz=>Zl (of_decide_eq_true z)]
     rw[e1];exact Nt x l (n+1) false q _ s _ nA wL hk
theorem aE3:∀(l:List Nat) (e:Bool) (o:List Nat),34∉l->(l.foldl uH (e,false,o)).2=(false,o++l):=by
 intro l;induction l with
 |nil=>
  intro e o h;rw[pB];rfl
 |cons c l ih=>
  intro e o h;have hc:c≠34:=λq=>h (q▸.head _)
  have e1:∃e',uH (e,false,o) c=(e',false,o++[c]):=by
   cases e with
   |true=>exact⟨_,rfl⟩
   |false=>
    rw[Va]
    by_cases nB:c=92
    ·rw[if_pos nB];exact⟨_,rfl⟩
    ·rw[if_neg nB,if_neg hc];exact⟨_,rfl⟩
  obtain⟨e',e1⟩:=e1;rw[nH,e1,ih e' _ λm=>h (.tail _ m),pJ];rfl
theorem aEk(h:x.cps.toList.foldl uH (false,false,[])=(e,false,o)):(xO x).cps.toList=o:=by
 unfold xO
 by_cases hq:34∈x.cps.toList
 ·have hc:rR x "\""=true:=by unfold rR;rw[Ur,found_one,decide_eq_true hq]
  rw[if_pos hc,UD];have g:=Nt x x.cps.toList 0 false false [] ⟨0,none,[]⟩ 0 rfl (iR _) ⟨rfl,0,rfl,dH _,rfl⟩;rw[h,Bu] at g;obtain⟨h1,a,h2,h3,h4⟩:=g;have h4:Cz (xP x).res++(x.cps.toList.take x.cps.toList.length).drop a=o:=h4;have h2:(xP x).st=(a:Int):=h2;rw[AP] at h4;unfold rX;rw[h2]
  by_cases hM:(a:Int)<(x.length:Int)
  ·rw[if_pos hM]
   show Cz _=o;rw[RY,CR,h4]
  ·rw[if_neg hM]
   have:x.cps.toList.length<=a:=by rw[<-Vg];exact aV (cG [_,_] [] [.m (.c .x) (.c .y),.O (.l (.u .x) .y)] rfl hM)
   rw[Iz this,pB] at h4;exact h4
 ·have hc:¬rR x "\""=true:=by unfold rR;rw[Ur,found_one,decide_eq_false hq];nofun
  rw[if_neg hc];have:=aE3 x.cps.toList false [] hq;rw[h] at this;exact(Tb this).2.symm
noncomputable def mP:Option (Bool×Int)->Nat->Option (Bool×Int)
 |none,_=>none
 |some (true,o),_=>some (false,o)
 |some (false,o),c=>if c=92 then some (true,o) else if c=40 then some (false,o+1) else if c=41 then(if o-1<0 then none else some (false,o-1)) else some (false,o)
theorem Nz(o:Int)(c:Nat):mP (some (false,o)) c=if c=92 then some (true,o) else if c=40 then some (false,o+1) else if c=41 then(if o-1<0 then none else some (false,o-1)) else some (false,o):=rfl
theorem RF:∀l:List Nat,l.foldl mP none=none:=by
 intro l;induction l with
 |nil=>
  exact rfl
 |cons _ l ih=>
  exact ih
noncomputable def aK9:Option (Bool×Int)->Step Int
 |none=>.ret (.bool false)
 |some (_,o)=>.go o
theorem Ol:("(":aC)=⟨#[40]⟩/\(")":aC)=⟨#[41]⟩:=by decide+kernel
theorem VN(c d:Nat):(("\\"++⟨#[c]⟩:aC)==⟨#[d]⟩)=false:=beq_eq_false_iff_ne.mpr λe=>by
 have:=congrArg (λx:aC=>x.cps.size) e;exact absurd this (by show ¬2=1;decide)
theorem VE(d:Nat)(h:d≠92):(("\\":aC)==⟨#[d]⟩)=false:=by
 rw[show("\\":aC)=⟨#[92]⟩ by decide+kernel,Cn,decide_eq_false (gJ h)]
theorem CM(h1:(q.2==⟨#[40]⟩)=false)(h2:(q.2==⟨#[41]⟩)=false):uM o q=.go o:=by
 unfold uM;rw[Ol.1,Ol.2,h1,h2];rfl
theorem Ka:∀(l:List Nat) (n:Nat) (e:Bool) (o:Int) (p:Int),jA uM o (mU e n p l)=aK9 (l.foldl mP (some (e,o)))
 |[],n,true,o,p=>by rw[show mU true n p []=[(p,("\\":aC))] from rfl,xR (CM (VE 40 (by decide)) (VE 41 (by decide)))];rfl
 |[],n,false,o,p=>rfl
 |c::l,n,true,o,p=>by
  rw[FC,xR (CM (VN c 40) (VN c 41)),Ka l (n+1) false o];rfl
 |c::l,n,false,o,p=>by
  rw[Kc,nH]
  by_cases nB:c=92
  ·have e2:mP (some (false,o)) c=some (true,o):=by rw[Nz,if_pos nB]
   rw[if_pos nB,Ka l (n+1) true o,e2]
  ·rw[if_neg nB]
   by_cases Me:c=40
   ·have e2:mP (some (false,o)) c=some (false,o+1):=by rw[Nz,if_neg nB,if_pos Me]
    have e1:uM o ((n:Int),⟨#[c]⟩)=.go (o+1):=by unfold uM;rw[Ol.1,Cn,if_pos (decide_eq_true Me)]
    rw[xR e1,Ka l (n+1) false (o+1),e2]
   ·by_cases Zk:c=41
    ·have e2:mP (some (false,o)) c=if o-1<0 then none else some (false,o-1):=by rw[Nz,if_neg nB,if_neg Me,if_pos Zk]
     have e1:uM o ((n:Int),⟨#[c]⟩)=if decide (o-1<0)=true then .ret (.bool false) else .go (o-1):=by unfold uM;rw[Ol.1,Ol.2,Cn,Cn,if_neg λz=>Me (of_decide_eq_true z),if_pos (decide_eq_true Zk)]
     by_cases Xh:o-1<0
     ·rw[if_pos (decide_eq_true Xh)] at e1
      rw[Vc e1,e2,if_pos Xh,RF];rfl
     ·rw[if_neg λz=>Xh (of_decide_eq_true z)] at e1
      rw[xR e1,e2,if_neg Xh,Ka l (n+1) false (o-1)]
    ·have e2:mP (some (false,o)) c=some (false,o):=by rw[Nz,if_neg nB,if_neg Me,if_neg Zk]
     rw[xR (CM ((Cn _ _).trans (decide_eq_false Me)) ((Cn _ _).trans (decide_eq_false Zk))),Ka l (n+1) false o,e2]
theorem aHa(h:x.cps.toList.foldl uH (false,false,[])=(e,false,o)):Ak x=match o.foldl mP (some (false,0)) with|some (_,n)=>decide (n=0)|none=>false:=by
 unfold Ak;rw[Ka,aEk h];cases o.foldl mP (some (false,0)) with
 |none=>rfl
 |some v=>rfl
def Pc(P:aC)(cl:List Nat):Prop:=(∀o,P.cps.toList.foldl uH (false,false,o)=(false,false,o++cl))/\39∉P.cps.toList
def Il(cl:List Nat):Prop:=∀n:Int,0<=n->cl.foldl mP (some (false,n))=some (false,n)
def St(c:Nat)(b:Bool)(v:Option (Bool×Int)):Prop:=if b=false then v=some (false,0) else(c=0/\∃n:Int,0<n/\v=some (false,n))\/(c≠0/\v=none)
set_option tactic.hygienic true in
theorem St.L9(h:St c b v)(hn:Il cl):St c b (cl.foldl mP v):=by
 unfold St at h ⊢
 split
 ·rename_i e
  rw[if_pos e] at h;rw[h,hn 0 (Er _)]
 ·rename_i e
  rw[if_neg e] at h;rcases h with ⟨h1,n,h2,h3⟩|⟨h1,h2⟩
  ·exact .inl ⟨h1,n,h2,by rw[h3,hn n (zB h2)]⟩
  ·exact .inr ⟨h1,by rw[h2,RF]⟩
theorem FL(n:Int):mP (some (false,n)) 40=some (false,n+1):=rfl
theorem EI(h:0<=n):mP (some (false,n+1)) 41=some (false,n):=by
 rw[Nz,if_neg (by decide),if_neg (by decide),if_pos rfl,if_neg (by exact cG [] [_] [.l .o .x,.l (.u (.s (.u .x) .i)) .o] rfl h),W4]
theorem Vf:Il []:=λ_ _=>rfl
theorem VV(c:Nat):Il [92,c]:=λ_ _=>rfl
theorem aE2:Il [40,41]:=λn h=>by
 show mP (mP (some (false,n)) 40) 41=_;rw[FL,EI h]
theorem aC3:Il [40,40,41,41]:=λn h=>by
 show mP (mP (mP (mP (some (false,n)) 40) 40) 41) 41=_;rw[FL,FL,EI (by exact lF (cG [] [_] [.l .o .x,.l (.u (.u .x)) .o] rfl h)),EI h]
theorem aG5:Dm=[⟨#[]⟩,⟨#[92,41]⟩,⟨#[34,41,34]⟩,⟨#[92,34]⟩]:=by decide+kernel
theorem aG4:Dl=[⟨#[40,41]⟩,⟨#[40,40,41,41]⟩,⟨#[34,41,34]⟩,⟨#[34,40,92,34,34]⟩]:=by decide+kernel
theorem aG3:Dk=[⟨#[40]⟩,⟨#[41,40]⟩,⟨#[41]⟩]:=by decide+kernel
theorem aIv:Pc ⟨#[]⟩ []:=⟨λo=>by rw[pB];rfl,by decide⟩
theorem XK:Pc ⟨#[34,41,34]⟩ []:=⟨λo=>by rw[pB];rfl,by decide⟩
theorem aG7:Pc ⟨#[34,40,92,34,34]⟩ []:=⟨λo=>by rw[pB];rfl,by decide⟩
theorem aIu:Pc ⟨#[40]⟩ [40]:=⟨λo=>rfl,by decide⟩
theorem aG9:Pc ⟨#[41]⟩ [41]:=⟨λo=>rfl,by decide⟩
theorem Xs(o:List Nat)(a b:Nat):o++[a]++[b]=o++[a,b]:=by rw[pJ];rfl
theorem XM(c:Nat)(h:c≠39):Pc ⟨#[92,c]⟩ [92,c]:=⟨λo=>congrArg (λl=>(false,false,l)) (Xs o 92 c),by show 39∉[92,c];simp;exact gJ h⟩
theorem aG8:Pc ⟨#[40,41]⟩ [40,41]:=⟨λo=>congrArg (λl=>(false,false,l)) (Xs o 40 41),by decide⟩
theorem aG6:Pc ⟨#[41,40]⟩ [41,40]:=⟨λo=>congrArg (λl=>(false,false,l)) (Xs o 41 40),by decide⟩
theorem aEu:Pc ⟨#[40,40,41,41]⟩ [40,40,41,41]:=⟨λo=>congrArg (λl=>(false,false,l)) (by show o++[40]++[40]++[41]++[41]=_;rw[Xs,pJ,pJ];rfl),by decide⟩
theorem pc0(h:P∈Dm):∃cl,Pc P cl/\Il cl:=by
 rw[aG5] at h;simp only[cE,cO,or_false] at h;rcases h with rfl|rfl|rfl|rfl
 ·exact⟨_,aIv,Vf⟩
 ·exact⟨_,XM 41 (by decide),VV _⟩
 ·exact⟨_,XK,Vf⟩
 ·exact⟨_,XM 34 (by decide),VV _⟩
theorem pc1(h:P∈Dl):∃cl,Pc P cl/\Il cl:=by
 rw[aG4] at h;simp only[cE,cO,or_false] at h;rcases h with rfl|rfl|rfl|rfl
 ·exact⟨_,aG8,aE2⟩
 ·exact⟨_,aEu,aC3⟩
 ·exact⟨_,XK,Vf⟩
 ·exact⟨_,aG7,Vf⟩
theorem pc2(hc:c<3):∃cl,Pc (Dk.getD c "") cl/\∀b v,St c b v->St c true (cl.foldl mP v):=by
 have h:c=0\/c=1\/c=2:=(by decide:∀c,c<3->c=0\/c=1\/c=2) c hc;rw[aG3];rcases h with rfl|rfl|rfl
 ·refine⟨_,aIu,λb v h=>?_⟩
  unfold St at h ⊢;rw[if_neg nofun]
  split at h
  ·rw[h];exact .inl ⟨rfl,1,by decide,rfl⟩
  ·rcases h with ⟨_,n,h2,h3⟩|⟨h1,_⟩
   ·rw[h3];exact .inl ⟨rfl,n+1,by omega,rfl⟩
   ·exact absurd rfl h1
 ·refine⟨_,aG6,λb v h=>?_⟩
  unfold St at h ⊢;rw[if_neg nofun];refine .inr ⟨by decide,?_⟩
  split at h
  ·rw[h];rfl
  ·rcases h with ⟨h1,_⟩|⟨_,h2⟩
   ·cases h1
   ·rw[h2];rfl
 ·refine⟨_,aG9,λb v h=>?_⟩
  unfold St at h ⊢;rw[if_neg nofun];refine .inr ⟨by decide,?_⟩
  split at h
  ·rw[h];rfl
  ·rcases h with ⟨h1,_⟩|⟨_,h2⟩
   ·cases h1
   ·rw[h2];rfl
noncomputable def Kl(dn:List Nat)(e:Ev):Bool:= !decide (e.2.1=1)&& !dn.contains e.2.2
def FS(c:Nat)(b:Bool)(s:aC):Prop:=∃o,s.cps.toList.foldl uH (false,false,[])=(false,false,o)/\St c b (o.foldl mP (some (false,0)))/\39∉s.cps.toList
theorem WW(s t:aC):(s++t).cps.toList=s.cps.toList++t.cps.toList:=PB
theorem FS.add(h:FS c b s)(hp:Pc P cl)(hs:∀v,St c b v->St c b' (cl.foldl mP v)):FS c b' (s++P):=by
 obtain⟨o,h1,h2,h3⟩:=h;refine⟨o++cl,?_,?_,?_⟩
 ·rw[WW,x6,h1,hp.1]
 ·rw[x6];exact hs _ h2
 ·rw[WW];exact λm=>(jV.mp m).elim h3 hp.2
theorem UH{l:List aC}{i:Nat}(h:i<l.length):l.getD i ""∈l:=by rw[Jw h];exact Ft _
theorem aEt{aX:Nat}{dn:List Nat}{k:Nat}(hk:k<6){q:Nat×Ev}{b:Bool}{s:aC}(h:FS (k/2) b s):FS (k/2) (b||Kl dn q.2) (s++qY aX dn k q):=by
 unfold qY Kl
 by_cases h1:q.2.2.1=1
 ·rw[if_pos h1,decide_eq_true h1,y7,aPj,Nf]
  obtain⟨cl,p1,p2⟩:=pc0 (UH (gY _ (by decide)));exact h.add p1 λv hv=>hv.L9 p2
 ·rw[if_neg h1,decide_eq_false h1]
  cases hc:dn.contains q.2.2.2 with
  |true=>
   rw[if_pos rfl,y7,Jn,Nf];obtain⟨cl,p1,p2⟩:=pc1 (UH (gY _ (by decide)));exact h.add p1 λv hv=>hv.L9 p2
  |false=>
   rw[if_neg nofun];obtain⟨cl,p1,p2⟩:=pc2 (bV (aG [_,_,_] [.l (.u .x) (.n 6),.e (.a (.m 2 .y) .z) .x,.L 2 (.n 3) .y] rfl hk (iK _ 2)));have e:(b||(!false&& !false))=true:=Bool.or_true b;rw[e];exact h.add p1 (p2 b)
noncomputable def sX(dn:List Nat)(k:Nat):List Ev->Bool
 |[]=>false
 |e::r=>if e.2.1=1/\e.2.2=k then false else Kl dn e||sX dn k r
theorem A1{dn:List Nat}{r:List Ev}:sX dn k (e::r)=if e.2.1=1/\e.2.2=k then false else Kl dn e||sX dn k r:=rfl
theorem aFt(hk:k<6):∀(ev:List Ev) (p:Nat) (s:aC) (b:Bool),FS (k/2) b s->∃s',(jA (uE aX dn k) s (iY p ev)=.go s')/\FS (k/2) (b||sX dn k ev) s':=by
 intro ev;induction ev with
 |nil=>
  intro p s b h;exact⟨s,rfl,by rw[show sX dn k []=false from rfl,Nf];exact h⟩
 |cons e r ih=>
  intro p s b h;rw[A1];show ∃s',jA (uE aX dn k) s ((p,e)::iY (p+1) r)=.go s'/\_;rw[zU];unfold uE
  by_cases hb:e.2.1=1/\e.2.2=k
  ·rw[if_pos hb,if_pos hb,Nf];exact⟨s,rfl,h⟩
  ·rw[if_neg hb,if_neg hb,<-aPm]
   exact ih (p+1) _ _ (aEt hk h)
theorem SK(hk:k<6)(ev:List Ev):FS (k/2) (sX dn k ev) (eC ev aX dn k):=by
 obtain⟨s',h1,h2⟩:=aFt hk ev 0 "" false ⟨[],rfl,rfl,nofun⟩;rw[Bool.false_or] at h2;unfold eC;rw[h1];exact h2
theorem RE(hk:k<6)(ev:List Ev):Ak (eC ev aX dn k)= !sX dn k ev:=by
 obtain⟨o,h1,h2,_⟩:=SK hk ev;rw[aHa h1];unfold St at h2;cases hb:sX dn k ev with
 |false=>rw[if_pos hb] at h2;rw[h2];rfl
 |true=>
  rw[if_neg (by rw[hb];nofun)] at h2;rcases h2 with ⟨_,n,q1,q2⟩|⟨_,q⟩
  ·rw[q2];exact decide_eq_false (cG [] [_] [.l (.u .o) .x,.e .x .o] rfl q1)
  ·rw[q];rfl
theorem aH9:sX dn k ev=true↔∃(q:Nat) (e:Ev),ev[q]?=some e/\Kl dn e=true/\∀(m:Nat) (e':Ev),m<=q->ev[m]?=some e'->¬(e'.2.1=1/\e'.2.2=k):=by
 induction ev with
 |nil=>rw[show sX dn k []=false from rfl];simp
 |cons a r ih=>
  rw[A1]
  by_cases hb:a.2.1=1/\a.2.2=k
  ·rw[if_pos hb]
   exact⟨nofun,λx=>by obtain⟨q,e,_,_,h⟩:=x;exact absurd hb (h 0 a (iR _) rfl)⟩
  ·rw[if_neg hb,u9,ih]
   constructor
   ·rintro(h|⟨q,e,h1,h2,h3⟩)
    ·exact⟨0,a,rfl,h,λm e' hm he=>by
      have:m=0:=eQ (aG [_] [.l (.u .x) .o] rfl) (aG [_] [.l .x .o,.l (.u .o) .x] rfl hm)
      subst this;cases he;exact hb⟩
    ·refine⟨q+1,e,h1,h2,λm e' hm he=>?_⟩
     cases m with
     |zero=>cases he;exact hb
     |succ m=>exact h3 m e' (aV (aG [_,_] [.l (.u .x) (.u .y),.l (.u .y) .x] rfl hm)) he
   ·rintro⟨q,e,h1,h2,h3⟩
    cases q with
    |zero=>cases h1;exact .inl h2
    |succ q=>exact .inr ⟨q,e,h1,h2,λm e' hm he=>h3 (m+1) e' (aV (aG [_,_] [.l .x .y,.l (.u (.u .y)) (.u .x)] rfl hm)) he⟩
section
variable {J:List eX}
theorem WI(hi:i<12)(hk:k<6):((yV J i).2.1=1/\(yV J i).2.2=k)↔i=k+6:=by
 exact(by decide:∀i,i<12->∀k,k<6->((i/6=1/\i % 6=k)↔i=k+6)) i hi k hk
theorem FH(hk:k<6):sX dn k (lU J)=true↔∃a,a<6/\kP J k a=true/\dn.contains a=false:=by
 rw[aH9];constructor
 ·rintro⟨q,e,h1,h2,h3⟩
  obtain⟨i,hi,e1,e2⟩:=ZU h1;have h2:(!decide (i/6=1)&& !dn.contains (i % 6))=true:=by rw[e1] at h2;exact h2
  obtain⟨b1,b2⟩:=sS.mp h2;have b1:=of_decide_eq_false ((tP _).mp b1);have b2:=(tP _).mp b2;have uZ:i<6:=Sr λq=>b1 (by rw[Nat.div_eq_of_lt_le (k:=1) (q) (hi)]);rw[Jo uZ] at b2;refine⟨i,uZ,(GI hk uZ).mp ?_,b2⟩;rcases y6 (yP J i) (yK J k) with z|z
  ·exact z
  ·exact absurd ((WI (bV (aG [_] [.l (.u .x) (.n 6),.l (.n 12) (.a .x (.n 6))] rfl hk)) hk).mpr rfl) (h3 (yK J k) _ (by rw[e2];exact z) (YG (bV (aG [_] [.l (.u .x) (.n 6),.l (.n 12) (.a .x (.n 6))] rfl hk))))
 ·rintro⟨a,ha,h1,h2⟩
  refine⟨yP J a,yV J a,YG (jK ha rfl),?_,λm e' hm he hb=>?_⟩
  ·unfold Kl
   have e1:decide ((yV J a).2.1=1)=false:=decide_eq_false (by show ¬a/6=1;exact aG [_,_,_] [.l (.u .x) (.n 6),.e (.a (.m 6 .y) .z) .x,.F 6 .y .i] rfl ha (iK _ 6));have e2:(yV J a).2.2=a:=Jo ha;rw[e1,e2,h2];rfl
  ·obtain⟨i,hi,e1,e2⟩:=ZU he
   rw[e1] at hb;rw[e2,(WI hi hk).mp hb] at hm;exact absurd ((GI hk ha).mpr h1) (pH.mpr hm)
theorem aBk(hk:k<6):decide (Jy (dR (kP J) 6) dn k=[])= !sX dn k (lU J):=by
 rw[My,decide_eq_true_iff,tP,<-o8,FH hk];unfold Jy;rw[BB];constructor
 ·rintro h ⟨a,ha,h1,h2⟩
  refine h a (fY.mpr ha) ?_;rw[DC hk,Vo ha,h1,h2];rfl
 ·intro h a ha q
  have ha:=fY.mp ha;rw[DC hk,Vo ha] at q;obtain⟨q1,q2⟩:=sS.mp q;exact h ⟨a,ha,q1,(tP _).mp q2⟩
theorem aDf(hk:k<6):fC (eC (lU J) aX dn k)=oU (lU J) aX (dR (kP J) 6) dn k:=by
 unfold fC oU;rw[RE hk,aBk hk]
theorem aJt:39∈("('', '')":aC).cps.toList:=by decide+kernel
theorem aBb(hk:k<6):(fC (eC (lU J) aX dn k)==eC (lU J) aX dn k)=fr (kP J) dn.contains k:=by
 unfold fC;rw[RE hk];cases hb:sX dn k (lU J) with
 |false=>
  rw[Bool.not_false,if_pos rfl,beq_self_eq_true];refine(Jx.mpr λa ha h1=>?_).symm;cases hc:dn.contains a with
  |true=>rfl
  |false=>rw[(FH hk).mpr ⟨a,ha,h1,hc⟩] at hb;cases hb
 |true=>
  rw[y7,if_neg nofun];obtain⟨o,_,_,h3⟩:=SK hk (lU J);rw[beq_eq_false_iff_ne.mpr λe=>h3 (by rw[<-e];exact aJt)];obtain⟨a,ha,h1,h2⟩:=(FH hk).mp hb;cases hf:fr (kP J) dn.contains k with
  |false=>rfl
  |true=>cases ((Jx.mp hf a ha h1).symm.trans h2)
variable {ord:List Nat} {cV aX:Nat}
theorem aHf(h6:∀x∈ord,x<6)(dn:List Nat):zY ord (lU J) cV aX dn=xU (kP J) ord cV dn:=by
 have e:(fG ord dn).filter (λk=>fC (eC (lU J) aX dn k)==eC (lU J) aX dn k)=mS (kP J) ord dn:=by
  unfold fG mS;rw[List.filter_filter];refine BV λk hk=>?_;rw[aBb (h6 k hk),Bool.and_comm]
 unfold zY xU;rw[e]
theorem aH1(h6:∀x∈ord,x<6):∀t,kY ord (lU J) cV aX t=jH (kP J) ord cV t:=by
 intro t;induction t with
 |zero=>
  exact rfl
 |succ t ih=>
  rw[WM,ih,aHf h6];rfl
theorem aIq(h6:∀x∈ord,x<6):∀t,sG ord (lU J) cV aX t=Jz (kP J) ord cV t:=by
 intro t;induction t with
 |zero=>
  exact rfl
 |succ t ih=>
  rw[aIr,ih,aH1 h6];rfl
end
end
theorem aHm(hd:d.length=8):(eN d).length=6/\∀p∈eN d,p.1<p.2/\p.2<64^3:=by
 have hu:oX d<=5000:=by unfold oX;have:=gY (d.getD 6 0) (show 0<5000 by decide);exact aV (aG [_] [.l (.u .x) (.n 5000),.l (.u (.n 5000)) (.u .x)] rfl this)
 have Lo:1<=oX d:=l5 _ _;have ho:Hs d<100000:=gY _ (by decide);refine⟨?_,λp hp=>?_⟩
 ·unfold eN Bs
  rw[fE,aPc,fE,qS,hd];rfl
 ·obtain⟨q,hq,rfl⟩:=gK.mp hp
  obtain⟨bU,_,h1⟩:=gK.mp (c7 hq).1;unfold Xg;have m1:bU % 16*oX d<=15*5000:=Tr (vB (gY _ (sW 15))) hu;have m2:(q.2/16 % 8+1)*oX d<=8*5000:=Tr (aV (aG [_] [.l (.u .x) (.n 8),.l (.u (.n 8)) (.u .x)] rfl (gY _ (sW 7)))) hu;have m3:1*1<=(q.2/16 % 8+1)*oX d:=Tr (aV (aG [_] [.l (.u (.u .x)) .i] rfl)) Lo;have h1:=h1;refine⟨?_,?_⟩
  ·show q.1<q.1+(q.2/16 % 8+1)*oX d
   exact bV (aG [_,_] [.l (.m 1 .i) .x,.l (.a .y .x) .y] rfl m3)
  ·show q.1+(q.2/16 % 8+1)*oX d<262144
   exact bV (aG [_,_,_,_] [.l (.u .x) (.n 100000),.l .y (.m 15 (.n 5000)),.l .z (.m 8 (.n 5000)),.f (.a .y .x) .w,.l (.n 262144) (.a .w .z)] rfl ho m1 m2 h1)
theorem aD8(h:k∈fG ord dn):k∈ord:=by unfold fG at h;exact(lO.mp h).1
theorem aKw(W:Cv w (yK J) (yP J) λj k=>decide (yP J k<yK J j)):Cv w (yK J) (yP J) (kP J):=
 ⟨W.len,W.KH,W.B3,W.pre,W.post,W.A6,W.bU,λj hj k hk=>(W.Qe j hj k hk).trans (My.mpr (by rw[decide_eq_true_iff];exact GI hj hk))⟩
theorem aEs(hd:d.length=8):VG d (iW (d.getD 6 0) (eN d)) (lU (eN d)) (yK (eN d)) (yP (eN d)) (kP (eN d)) (oB (eN d)) (oC (eN d)):=by
 obtain⟨hj,hb⟩:=aHm hd;have hM:∀k,k<6->(jb (eN d) k).1<(jb (eN d) k).2:=λk hk=>(hb _ (by unfold jb;rw[Jw (wG hj hk)];exact Ft _)).1;obtain⟨t1,t2,t3⟩:=aC1 hj λp hp=>⟨eO (hb p hp).1,(hb p hp).2⟩
 have W:=aGn (aGm hM);have o:=aIp hj (d.getD 6 0) d;have h6:∀x∈nK d (dN (iW (d.getD 6 0) (eN d)) (oB (eN d)++oC (eN d))),x<6:=λx hx=>o.mem.mp hx
 exact {
  lH:=rfl
  hj:=hj
  wO:=λp hp=>⟨eO (hb p hp).1,tY (hb p hp).2 (by decide)⟩
  kF:=t1
  rI:=t2
  qI:=t3
  eo:=aJb hj _
  W:=aKw W
  Zd:=λ_ _ _ _=>rfl
  bo:=aH5 hj _
  of:=aCz hj _
  Yr:=Io (o.perm.length_eq.trans Fy)
  Ia:=h6
  H:=λt _ k hk=>by
   have hk:=h6 k (aD8 hk);generalize kY _ _ _ _ t=dn;exact aDf hk
  Kx:=by
   rw[aIq h6]
   exact py (aJu hM) o (fD (by decide) (l5 2 _))}
section
open PySem PySem.Calls PySem.W PyProof.Rows PySem.SeqAt
section
set_option tactic.hygienic true
theorem aIo:(tK.all λp=>Qp p.2.2)=true:=by kernel_rfl
section
variable {B:BD} {K:fB}
theorem YE(X:K.In B.base)(hl:B.oF=Cy)(e:kT K=kX)(h2:(tK.all λp=>Se K (p.1==221) p.1)=true)(hp:p∈tK):
 ∃fd,Du K p.1=some fd/\Ws B (p.1==221) p.1 fd/\fd.body=p.2.1/\fd.scope=p.2.2/\Qp fd.scope=true:=by
 obtain⟨fd,h3,h4⟩:=aI9 X hl (tO.mp h2 p hp);have h5:=BX.mp (show tK.map (λp=>MN K p.1)=tK.map λp=>some p.2 from congrArg KT.MM e) p hp;have h6:=tO.mp aIo p hp;unfold MN at h5;rw[h3] at h5;have h7:=AK h5;refine⟨fd,h3,h4,congrArg Prod.fst h7,congrArg Prod.snd h7,?_⟩;rw[show fd.scope=p.2.2 from congrArg Prod.snd h7];exact h6
theorem EV(f:Ws B false a fd)(hb:fd.body=.stmts body)(hs:Qp fd.scope=true):Ko B fd body a:=by
 unfold Qp at hs;simp only[Fe] at hs;exact⟨f.obj,hb,f.sH,f.co,f.gen,of_decide_eq_true hs.1.1,of_decide_eq_true hs.1.2,f.eH,f.blt,f.iP,aEn hs.2,f.nP⟩
theorem Cs(f:Ws B false a fd)(hb:fd.body=.stmts body)(hs:Qp fd.scope=true)(hn:B.mg x=some (.ref a)):kI B x fd body a:=
 have m:=EV f hb hs
 ⟨hn,m.obj,m.body,m.sH,m.co,m.gen,m.kind,m.nd,m.eH,m.blt,m.iP,m.zV,m.nP⟩
theorem aI2{v:aD}(h:(match v with|.str ..=>true|_=>false)=true):∃s t,v=.str s t:=by
 cases v with
 |str s t=>exact⟨s,t,rfl⟩
 |_=>cases h
theorem XT{v:aD}(h:(match v with|.int ..=>true|_=>false)=true):∃s t,v=.int s t:=by
 cases v with
 |int s t=>exact⟨s,t,rfl⟩
 |_=>cases h
theorem aI3{v:aD}(h:(match v with|.bool ..=>true|_=>false)=true):∃s,v=.bool s:=by
 cases v with
 |bool s=>exact⟨s,rfl⟩
 |_=>cases h
theorem YK(X:K.In B.base)(h:Zs K c P=true):Jl B.base c P:=by
 unfold Zs at h;cases hk:K.lookup c with
 |none=>rw[hk] at h;cases h
 |some o=>
  obtain⟨cl,d,da,sl⟩:=o;rw[hk] at h;cases da with
  |fields vs=>
   obtain⟨h,h8⟩:=band h;obtain⟨h,h7⟩:=band h;obtain⟨h,h6⟩:=band h;obtain⟨h,h5⟩:=band h;obtain⟨h,h4⟩:=band h;obtain⟨h,h3⟩:=band h;obtain⟨h1,h2⟩:=band h;obtain⟨s,t,e4⟩:=aI2 h4;obtain⟨i,t5,e5⟩:=XT h5;obtain⟨b,e6⟩:=aI3 h6;obtain⟨i7,t7,e7⟩:=XT h7;exact⟨_,vs,s,t,i,t5,b,i7,t7,X _ _ hk,gX h1,rfl,gX h2,gX h3,e4,e5,e6,e7,bne_iff_ne.mp h8⟩
  |_=>cases h
theorem aI0(h:JZ K i=true):∃ox dx od tk,K.lookup (124+3*i)=some ox/\ox.cls=.ref 60/\notCls ox=true/\ox.dict=some dx/\K.lookup dx=some od/\Sy K 60 (some od) "index"=some (.value (.int (i:Int) tk)):=by
 unfold JZ at h;cases e1:K.lookup (124+3*i) with
 |none=>rw[e1] at h;cases h
 |some ox=>
  rw[e1] at h;obtain⟨h,h3⟩:=band h;obtain⟨h1,h2⟩:=band h;cases e2:ox.dict with
  |none=>rw[e2] at h3;cases h3
  |some dx=>
   rw[e2] at h3
   replace h3:(match K.lookup dx with
    |some od=>(match Sy K 60 (some od) "index" with|some (.value (.int j _))=>j==(i:Int)|_=>false)
    |none=>false)=true:=h3
   cases e3:K.lookup dx with
   |none=>rw[e3] at h3;cases h3
   |some od=>
    rw[e3] at h3;replace h3:(match Sy K 60 (some od) "index" with|some (.value (.int j _))=>j==(i:Int)|_=>false)=true:=h3;cases e4:Sy K 60 (some od) "index" with
    |none=>rw[e4] at h3;cases h3
    |some f=>
     rw[e4] at h3;cases f with
     |value v=>
      cases v with
      |int j t=>exact⟨ox,dx,od,t,rfl,gX h1,h2,e2,e3,by rw[e4,gX h3]⟩
      |_=>cases h3
     |_=>cases h3
theorem A0{G:Prop}{a1 a2 a3 a4 a5 a6 a7 a8 a9 Zx qJ En U9 yZ Zw Zv Zu Em jS U8:Bool}(h:(a1&&a2&&a3&&a4&&a5&&a6&&a7&&a8&&a9&&Zx&&qJ&&En&&U9&&yZ&&Zw&&Zv&&Zu&&Em&&jS&&U8)=true)(k:a1=true->a2=true->a3=true->a4=true->a5=true->a6=true->a7=true->a8=true->a9=true->Zx=true->qJ=true->En=true->U9=true->yZ=true->Zw=true->Zv=true->Zu=true->Em=true->jS=true->U8=true->G):G:=by
 obtain⟨h,JL⟩:=band h;obtain⟨h,JM⟩:=band h;obtain⟨h,JN⟩:=band h;obtain⟨h,Hr⟩:=band h;obtain⟨h,Qt⟩:=band h;obtain⟨h,Qu⟩:=band h;obtain⟨h,JO⟩:=band h;obtain⟨h,JP⟩:=band h;obtain⟨h,JQ⟩:=band h;obtain⟨h,Eb⟩:=band h;obtain⟨h,Yg⟩:=band h;obtain⟨h,q9⟩:=band h;obtain⟨h,q8⟩:=band h;obtain⟨h,q7⟩:=band h;obtain⟨h,q6⟩:=band h;obtain⟨h,q5⟩:=band h;obtain⟨h,q4⟩:=band h;obtain⟨h,q3⟩:=band h;obtain⟨h,q2⟩:=band h;exact k h q2 q3 q4 q5 q6 q7 q8 q9 Yg Eb JQ JP JO Qu Qt Hr JN JM JL
theorem aIz(X:K.In B.base)(e:kT K=kX)(hl:B.oF=Cy)(hec:B.EC=154)(ht:B.kK=[244,264])(hq:B.qual 244="_law_entries.<locals>.<lambda>"/\B.qual 264="law.<locals>.<lambda>")
 (Mc:∀P∈([244,264]:List aH),B.base.BuiltinsAt B.mg P):FI B K:=by
 have Ib:kB K=true:=congrArg KT.ok e;refine A0 Ib λq1 q2 q3 q4 q5 q6 q7 q8 q9 Yg Eb JQ JP JO Qu Qt Hr JN JM JL=>?_;have fn:∀{p},p∈tK->_:=λ{p} hp=>YE X hl e q2 hp;have nm:∀{p:aC×aH},p∈Qw->B.mg p.1=some (.ref p.2):=λ{p} hp=>mg_of X B.ns (gX (tO.mp q3 p hp))
 have b1:∀{p:aH×aC},p∈El->∀{fd:mF},Du K p.1=some fd->∀s v,iU s fd ⟨[v],[]⟩ [(p.2,v)]:=λ{p} hp fd h s v=>
  xW h (Oo _) λS=>congrFun (congrFun (BX.mp (show El.map (MX K)=El.map MY from congrArg KT.b1 e) p hp) S) v
 have b2:∀{p:aH×aC×aC},p∈Mi->∀{fd:mF},Du K p.1=some fd->∀s v w,iU s fd ⟨[v,w],[]⟩ [(p.2.1,v),(p.2.2,w)]:=λ{p} hp fd h s v w=>
  xW h (Oo _) λS=>congrFun (congrFun (congrFun (BX.mp (show Mi.map (U5 K)=Mi.map U6 from congrArg KT.b2 e) p hp) S) v) w
 have fi:∀{p:aC×Option aD},p∈T5->lM K (.ref 154) p.1=some p.2:=λ{p} hp=>gX (tO.mp q6 p hp)
 have ef:oW B K:={
  JX:=X
  ZC:=λa o ho=>by
   obtain⟨l1,l2,e1,_⟩:=aM4.mp ho;exact tO.mp q1 (a,o) (by rw[e1];simp)
  ec:=hec
  H7:=fi (p:=("__getattribute__",_)) (dY (i:=0) rfl)
  E4:=fi (p:=("__getattr__",_)) (dY (i:=1) rfl)
  sub:=gX q9
  fld:=λnm i hm=>by
   have:=tO.mp q7 (nm,i) hm;simp only[Fe] at this;obtain⟨⟨⟨h1,h2⟩,h3⟩,h4⟩:=this;exact⟨gX h1,gX h2,gX h3,aI0 h4⟩
  A8:=gX q8
  inst:=gX Yg
  KC:=by
   cases hm:Mo K 154 with
   |some m=>exact⟨m,rfl⟩
   |none=>rw[hm] at Eb;cases Eb}
 have em:Aw B K:={
  made:=λS=>congrFun (congrArg KT.made e) S
  here:=λS=>congrFun (congrArg KT.here e) S
  Mg:=λS t=>congrFun (congrFun (congrArg KT.Mg e) S) t
  init:=fi (p:=("__init__",_)) (dY (i:=2) rfl)
  mro:=by
   cases hm:Mo K 154 with
   |none=>rw[hm] at Eb;cases Eb
   |some m=>
    rw[hm] at Eb;obtain⟨t,ht⟩:=List.head?_eq_some_iff.mp (gX Eb);exact⟨m,t,rfl,ht⟩
  self:=gX JQ
  obj:=gX JP
  call:=gX JO
  H5:=gX Yg
  vP:=Qu
  new:=congrArg KT.new e
  sm:=gX Qt
  FX:=by
   cases hk:K.lookup 154 with
   |none=>rw[hk] at Hr;cases Hr
   |some o=>
    obtain⟨cl,d,da,sl⟩:=o;rw[hk] at Hr;cases da with
    |cls cd=>exact⟨_,rfl,cd,rfl,(tP _).mp Hr⟩
    |_=>cases Hr}
 have ri:∀{g:aT} {s:aF},bI B g s.heap->K.In s.heap:=λG=>ef.at G
 have Xz:∀{a:aH} {i:Nat} {x y:aC},(a,Tz (cH i),bQ i)∈tK->(a==221)=false->(x,a)∈Qw->(a,y)∈El->kA B i x [y]:=λ{a i x y} m1 m0 m2 m3=>by
  obtain⟨fd,h1,h2,h3,h4,h5⟩:=fn m1;rw[show((a,Tz (cH i),bQ i):aH×Sx×bR).1=a from rfl,m0] at h2;refine⟨fd,a,Cs h2 h3 h5 (nm m2),h4,λs vs hv=>?_⟩;obtain⟨v,rfl⟩:=y8.mp hv;exact b1 m3 h1 s v
 have H6:∀{a:aH} {i:Nat} {x y z:aC},(a,Tz (cH i),bQ i)∈tK->(a==221)=false->(x,a)∈Qw->(a,y,z)∈Mi->kA B i x [y,z]:=λ{a i x y z} m1 m0 m2 m3=>by
  obtain⟨fd,h1,h2,h3,h4,h5⟩:=fn m1;rw[show((a,Tz (cH i),bQ i):aH×Sx×bR).1=a from rfl,m0] at h2;refine⟨fd,a,Cs h2 h3 h5 (nm m2),h4,λs vs hv=>?_⟩;obtain⟨v,IW,rfl,k1⟩:=vN (n:=1) hv;obtain⟨w,rfl⟩:=y8.mp k1;exact b2 m3 h1 s v w
 have cP:∀{a:aH} {i:Nat} {x:aC} {t:jB},(a,Tz (cH i),bQ i)∈tK->(a==221)=false->(x,a)∈Qw->(a,t)∈Sl->kJ B i x:=λ{a i x t} m1 m0 m2 m3=>by
  obtain⟨fd,h1,h2,h3,h4,h5⟩:=fn m1;rw[show((a,Tz (cH i),bQ i):aH×Sx×bR).1=a from rfl,m0] at h2;refine⟨fd,a,Cs h2 h3 h5 (nm m2),h4,t,λs g G=>?_⟩;have q:∀S u v w x y,MV K (a,t) S u v w x y=MW (a,t) S u v w x y:=λS u v w x y=>congrFun (congrFun (congrFun (congrFun (congrFun (congrFun (BX.mp (show Sl.map (MV K)=Sl.map MW from congrArg KT.bb e) (a,t) m3) S) u) v) w) x) y;refine⟨λv1 v2 v3 v4=>?_,λv1 v2 v3=>?_,λv1 v2 v3 v4 w=>?_,λv1 v2 w=>?_⟩
  ·exact xW h1 (ri G) λS=>congrArg (λp=>p.1) (q S v1 v2 v3 v4 .none)
  ·exact xW h1 (ri G) λS=>congrArg (λp=>p.2.1) (q S v1 v2 v3 .none .none)
  ·exact xW h1 (ri G) λS=>congrArg (λp=>p.2.2.1) (q S v1 v2 v3 v4 w)
  ·exact xW h1 (ri G) λS=>congrArg (λp=>p.2.2.2) (q S v1 v2 .none .none w)
 have lm:∀{i:Nat} {c P:aH},(Cy i).1=.ref c->P∈([244,264]:List aH)->Jl B.base c P->B.qual P=(Cy i).2++"<lambda>"->jU≠P->uT B i:=λ{i c P} h1 h2 h3 h4 h5=>
  ⟨c,P,by rw[hl];exact h1,by rw[ht];exact h2,h3,by rw[hl];exact h4,h5,Mc P h2⟩
 have aMf:GP B:=by
  obtain⟨fd,h1,h2,h3,h4,h5⟩:=fn (p:=(247,.stmts (cH 21),bQ 21)) (dY (i:=13) rfl);exact⟨fd,247,Cs h2 h3 h5 (nm (p:=("_law_entries",247)) (dY (i:=12) rfl)),h4,b2 (p:=(247,"jobs","mix")) (dY (i:=1) rfl) h1⟩
 have nf:Hl B:=by
  obtain⟨fd,h1,h2,h3,h4,h5⟩:=fn (p:=(82,.stmts (xN 3 4),Cm 3 4)) (dY (i:=1) rfl);exact⟨fd,EV h2 h3 h5,h4,λs v0 v1 v2 v3 v4 v5=>xW h1 (Oo _) λS=>congrFun (congrFun (congrFun (congrFun (congrFun (congrFun (congrFun (congrArg KT.b6 e) S) v0) v1) v2) v3) v4) v5⟩
 have gf:Xw B K:=by
  obtain⟨fd,h1,h2,h3,h4,h5⟩:=fn (p:=(43,.stmts (xN 2 1),Cm 2 1)) (dY (i:=0) rfl);exact⟨fd,EV h2 h3 h5,h4,λs v0 v1 v2 hX=>xW h1 hX λS=>congrFun (congrFun (congrFun (congrFun (congrArg KT.b3 e) S) v0) v1) v2⟩
 have vf:Dx B:=by
  obtain⟨fd,h1,h2,h3,h4,h5⟩:=fn (p:=(164,.stmts (cH 5),bQ 5)) (dY (i:=2) rfl);exact⟨fd,164,Cs h2 h3 h5 (nm (p:=("_parse_varint",164)) (dY (i:=1) rfl)),h4,b1 (p:=(164,"iterator")) (dY (i:=0) rfl) h1⟩
 have tf:IQ B:=by
  obtain⟨fd,h1,h2,h3,h4,h5⟩:=fn (p:=(171,.stmts (cH 6),bQ 6)) (dY (i:=3) rfl);exact⟨fd,171,Cs h2 h3 h5 (nm (p:=("_parse_exception_table",171)) (dY (i:=2) rfl)),h4,b1 (p:=(171,"code")) (dY (i:=1) rfl) h1⟩
 have Lg:kA B 23 "_law_rounds" ["order","events","hands","hide","before"]:=by
  obtain⟨fd,h1,h2,h3,h4,h5⟩:=fn (p:=(257,.stmts (cH 23),bQ 23)) (dY (i:=15) rfl);refine⟨fd,257,Cs h2 h3 h5 (nm (p:=("_law_rounds",257)) (dY (i:=14) rfl)),h4,λs vs hv=>?_⟩;obtain⟨v0,IW,rfl,k1⟩:=vN (n:=4) hv;obtain⟨v1,Xy,rfl,k2⟩:=vN k1;obtain⟨v2,vs3,rfl,k3⟩:=vN k2;obtain⟨v3,vs4,rfl,k4⟩:=vN k3;obtain⟨v4,rfl⟩:=y8.mp k4;exact xW h1 (Oo _) λS=>congrFun (congrFun (congrFun (congrFun (congrFun (congrFun (congrArg KT.b5 e) S) v0) v1) v2) v3) v4
 have ge:∃fd a,De B "_iter_escaped_chars" fd a:=by
  obtain⟨fd,h1,h2,h3,h4,h5⟩:=fn (p:=(221,.stmts (cH 16),bQ 16)) (dY (i:=9) rfl);exact⟨fd,221,nm (p:=("_iter_escaped_chars",221)) (dY (i:=8) rfl),h2.obj,h3,h2.sH,h2.co,h2.gen,h4,h2.eH,h2.blt,h2.iP,b1 (p:=(221,"addr")) (dY (i:=2) rfl) h1⟩
 have bl:eZ B:=⟨λx hx=>mg_none_of X B.ns (gX (tO.mp q4 x hx))⟩
 exact {
  lf:=⟨bl,ef,em,⟨fi (p:=("__iter__",_)) (dY (i:=3) rfl),fi (p:=("__len__",_)) (dY (i:=4) rfl)⟩,nf,vf,tf,gf,nm (p:=("_ExceptionTableEntry",154)) (dY (i:=0) rfl),JN⟩
  M7:=lm (c:=246) (P:=244) rfl (.head _) (YK X JM) (by rw[hq.1];rfl) (by decide)
  M6:=lm (c:=266) (P:=264) rfl (.tail _ (.head _)) (YK X JL) (by rw[hq.2];rfl) (by decide)
  ef:=aMf
  em:=⟨512,mg_of X B.ns (gX q5)⟩
  te:=H6 (a:=214) (dY (i:=8) rfl) rfl (dY (i:=7) rfl) (dY (i:=0) rfl)
  tb:=Xz (a:=252) (dY (i:=14) rfl) rfl (dY (i:=13) rfl) (dY (i:=6) rfl)
  br:=cP (a:=189) (dY (i:=5) rfl) rfl (dY (i:=4) rfl) (dY (i:=1) rfl)
  ir:=cP (a:=180) (dY (i:=4) rfl) rfl (dY (i:=3) rfl) (dY (i:=0) rfl)
  bl:=cP (a:=207) (dY (i:=7) rfl) rfl (dY (i:=6) rfl) (dY (i:=3) rfl)
  il:=cP (a:=198) (dY (i:=6) rfl) rfl (dY (i:=5) rfl) (dY (i:=2) rfl)
  ge:=ge
  uV:=Xz (a:=228) (dY (i:=10) rfl) rfl (dY (i:=9) rfl) (dY (i:=3) rfl)
  I5:=Xz (a:=235) (dY (i:=11) rfl) rfl (dY (i:=10) rfl) (dY (i:=4) rfl)
  I4:=Xz (a:=242) (dY (i:=12) rfl) rfl (dY (i:=11) rfl) (dY (i:=5) rfl)
  Lg:=Lg
  H9:=H6 (dY (i:=16) rfl) rfl (dY (i:=15) rfl) (dY (i:=2) rfl)}
end
end
section
set_option tactic.hygienic true
open Classical in
noncomputable def g0(h:bH):aT:=λb=>match h.get? b with
 |some o=>if eD o then some o else none
 |none=>none
theorem WC(e:h.get? b=some o)(x:eD o):g0 h b=some o:=by unfold g0;rw[e];exact if_pos x
theorem aKk(e:g0 h b=some o):h.get? b=some o/\eD o:=by
 unfold g0 at e;cases q:h.get? b with
 |none=>rw[q] at e;cases e
 |some o'=>
  rw[q] at e
  by_cases x:eD o'
  ·cases ((if_pos x).symm.trans e);exact⟨rfl,x⟩
  ·cases ((if_neg x).symm.trans e)
theorem aCg:∀{xs:List Int} {vs:List aD},WellAll P h vs (ofPys (xs.map AF.int))->bD B g vs (bW xs):=by
 intro xs;induction xs with
 |nil=>
  intro _ w;cases w;exact .nil
 |cons x xs ih=>
  intro _ w;cases w with
  |cons h1 h2=>
   cases h1;exact .cons (.int _ _) (ih h2)
theorem aH8(T:Top p loose Xd mg mb h)(h4:h.get? 244=some (Ew #[]))(h6:h.get? 264=some (Ew #[])):
 ∀P∈([244,264]:List aH),h.BuiltinsAt mg P:=by
 obtain⟨bm,ob,e1,e2,e3,e4,e5,e6⟩:=T.bmain
 have n:∀P,h.get? P=some (Ew #[])->bm≠P:=λP hP q=>by
  subst q;cases (e3.symm.trans hP);cases e4
 have n0:bm≠jU:=λq=>by
  obtain⟨o,es,ep,q1,q2,_⟩:=T.g;rw[<-q,e3] at q1;cases q1;cases (e6.symm.trans q2)
 intro P hP;refine⟨bm,ob,e1,e2,n0,n P ?_,e3,e4,e5,e6⟩;simp only[cE,cO,or_false] at hP;rcases hP with rfl|rfl
 ·exact h4
 ·exact h6
noncomputable def YW{p:iS}{loose:List aC}{Xd:ExcName->Option aD}{mg mb:aC->Option aD}{h:bH}(w:iI)(T:Top p loose Xd mg mb h)(h4:h.get? 244=some (Ew #[]))(h6:h.get? 264=some (Ew #[])):BD where
 prog:=vD
 w:=w
 base:=h
 mg:=mg
 mb:=mb
 EC:=154
 ns:=T.g
 bi:=T.b
 bt:=T.builtins
 nolimit:=T.nolimit
 kK:=[244,264]
 qual P:=if P=244 then "_law_entries.<locals>.<lambda>" else "law.<locals>.<lambda>"
 tabIn b hb:=by
  simp only[cE,cO,or_false] at hb;rcases hb with rfl|rfl
  ·rw[h4];nofun
  ·rw[h6];nofun
 oF:=Cy
theorem aFe{p:iS}{loose:List aC}{Xd:ExcName->Option aD}{mg mb:aC->Option aD}{w:iI}{s:aF}(T:Top p loose Xd mg mb s.heap)(Y:xT.says w s.heap){fa:aH}(hm:mg "law"=some (.ref fa)){l:aH}{P:Params}{xs:List Int}
 (hw:Well P s.heap (.ref l) (ofPy (.list (xs.map AF.int)))) (hx:¬(63:Int)<(xs.length:Int)) {Q:aD->aF->Prop} {E:aD->aF->Prop}
 (KQ:∀s',OldK s.heap s'.heap->s'.os=s.os->(Sw s.gens->Sw s'.gens)->Q (.bool true) s'):aK (model vD w) callerA (gL (.ref fa) [.ref l]) Q E s:=by
 obtain⟨⟨K,hK,e⟩,h4,h6⟩:=Y
 let B:=YW w T h4 h6
 have fns:FI B K:=aIz (B:=B) hK e rfl rfl rfl ⟨rfl,rfl⟩ (aH8 T h4 h6)
 have G:bI B (g0 s.heap) s.heap:=by
  refine⟨λb o e h=>WC e h,λb o e=>aKk e,.refl _ _,λb hb=>⟨#[],?_,trivial,λpos cv e=>nomatch e⟩⟩;simp only[B,YW,cE,cO,or_false] at hb;rcases hb with rfl|rfl
  ·exact h4
  ·exact h6
 have Ib:kB K=true:=congrArg KT.ok e;have q2:(tK.all λp=>Se K (p.1==221) p.1)=true/\nsIn K jU "law"=some (some (.ref 267)):=A0 Ib λ_ q2 q3 _ _ _ _ _ _ _ _ _ _ _ _ _ _ _ _ _=>⟨q2,gX (tO.mp q3 ("law",267) (dY (i:=16) rfl))⟩
 have nm:mg "law"=some (.ref 267):=mg_of hK T.g q2.2;cases (nm.symm.trans hm);obtain⟨fd,f1,f2,f3,f4,f5⟩:=YE (B:=B) hK rfl e q2.1 (p:=(267,.stmts (cH 25),bQ 25)) (dY (i:=17) rfl);have f4:fd.scope=bQ 25:=f4;have fo:kI B "law" fd (cH 25) 267:=Cs f2 f3 f5 nm
 have hb:∀s v,iU s fd ⟨[v],[]⟩ [("script",v)]:=λs v=>
  xW f1 (Oo _) λS=>congrFun (congrFun (BX.mp (show El.map (MX K)=El.map MY from congrArg KT.b1 e) (267,"script") (dY (i:=7) rfl)) S) v
 obtain⟨vs,ho,hv⟩:∃vs:List aD,s.heap.get? l=some (dP vs.toArray 0)/\bD B (g0 s.heap) vs (bW xs):=by
  cases hw with
  |list h1 h2=>exact⟨_,h1,aCg h2⟩
 have hl:VR B (g0 s.heap) (.ref l) (.aO (bW xs)):=.aO (n:=0) (WC ho (jX rfl nofun)) hv
 refine Uk (B:=B) (k:=7) (args:=⟨[.ref l],[]⟩) (is:=[⟨"script",.ref l,0,.val (.aO (bW xs))⟩]) rfl (by decide) (by decide) rfl (λ_ h=>nomatch h) G (fo.at G) fo.nP (hb _ _) (λi hi=>by rw[cW.mp hi,f4];exact xQ rfl)
  (λi hi=>by rw[cW.mp hi];exact⟨_,rfl,hl⟩) λaA cs s2 P0 hL=>?_
 obtain⟨V,hV⟩:=aFa (k:=0) fns (xs:=xs) (by exact aV (cG [_] [] [.m (.n 63) (.c .x),.O (.l (.u (.n 1000)) .x)] rfl hx)) (aEs (EH (wC xs)))
 have P1:eI B 7 (callerA.deeper aA) {sc:=bQ 25} _ aA cs (λ_=>0) [("script",.val (.aO (bW xs)))] _ s2:=
  ⟨P0.handled,P0.depth,P0.units,P0.frames,P0.mT,by rw[<-f4];exact P0.scope,by rw[<-f4];exact P0.cells,rfl,by rw[<-f4];exact P0.code,P0.st⟩
 refine hV _ _ aA cs _ _ _ _ _ P1 λf s7 O=>?_;obtain⟨v,HG,g7,rfl,KU,S7⟩:=O;cases KU;have R:=S7.Gh;exact KQ s7 R.keep.le.aLe R.keep.os R.keep.gens.bare
theorem aE9:OpenLaw.wellSaid NT=true:=by kernel_rfl
end
end
end Mini.Internal
set_option tactic.hygienic true
open PySem PySem.W PyProof.Rows in
theorem PySem.Challenge.cw_kl0249_01_holds : PySem.Challenge.rw_kl0249_01.Holds := by
 w_on;refine holds_law Mini.Internal.aE9 λaP8=>?_
 refine holds_open (q:=Mini.Internal.Cw) (loose:=Mini.Internal.Vv) (Xt:=λs=>xlAt Mini.Internal.Cw [] s&&recOk (X9 NT.row.toRowW) s) (XP:=XL Mini.Internal.Cw []) (Yf:=Mini.Internal.xT.obs) (Ya:=Mini.Internal.xT.val) (YP:=Mini.Internal.xT.says) (N:=5122)
  Mini.Internal.aDe Mini.Internal.xT.of Mini.Internal.xT.keeps (λs e=>xl_of s (sS.mp e).1) XL.keeps (by rfl) (by rfl) (by rfl) (λs e=>recFacts_of (sS.mp e).2) (by rfl) (by first|assumption|decide+kernel) (by decide+kernel) ⟨rfl,rfl,rfl,rfl,rfl,by decide+kernel⟩ ?hw ?hc
 case hw=>w_witness2
 case hc=>w_strict (
  intro w bZ aS mg mb G Y fa o pm cd doc dV kV ho hd Zb hD KY hg args Wx as aLp aLu hrd Ln hlo;refine Ground.open G ?_
  intro T B D TE TW
  wrow_args aLp aLu hrd Ln hlo
  refine Mini.Internal.aFe T Y KY (by assumption) (by assumption) λs' h1 h2 h3=>?_;refine⟨.inl ⟨_,.bool true,[],rfl,λ_=>rfl,.bool _,?_,λ_=>⟨.nil,nofun⟩⟩,h1,h2,h3 (by rw[hg];exact Sw.empty)⟩
  first|rfl|wrow_post)
