import PyProof.Rows.All
import Wide.All
import OpenK.AllK
import Wide.FinOn
import Open.Tops
import KE.KDictList
import KE.KDictLaws
import PyProof.Rows.SortShellK
import KE.BitLaws
import Lean
import PySem.Challenge.RW_ik0101_01
set_option Elab.async false
set_option tactic.hygienic false
set_option compiler.extract_closed false
set_option compiler.small 0
set_option linter.all false
set_option maxRecDepth 100000
set_option maxHeartbeats 0
set_option genSizeOf false
set_option bootstrap.genMatcherCode false
set_option backward.match.sparseCases false
open Array renaming getElem?_toList->fS,getElem?_eq_getElem->j_,length_toList->kc,getElem?_eq_none->qb,toList_push->v9,forIn_toList->An
open Bool renaming true->aj,false->aC,and_eq_true->cu,false_ne_true->cS,false_eq_true->i5,casesOn->jx,noConfusion->jy,or_eq_false_iff->qc,true_and->v_,beq_eq_decide_eq->wc
open Classical renaming byContradiction->mR
open False renaming elim->qd
open ForInStep renaming yield->rP
open Function renaming comp->we
open Int renaming le_antisymm->eU,toNat_natCast->dM,natCast_nonneg->e6,add_zero->lC,zero_add->qe,mul_add->qf,ofNat->qg,casesOn->rQ,lt_trans->rR,ofNat_sub->rS,add_assoc->wg,lt_of_lt_of_le->wh,add_sub_cancel->wj,sub_add_cancel->wk,natCast_mul->wm,negSucc_lt_zero->Ao,lt_sub_right_of_add_lt->Aq
open Int.ofNat renaming inj->iz
open LawfulBEq renaming eq_of_beq->eL
open List renaming casesOn->aO,length_map->bB,replicate->bN,length_append->bU,append_assoc->bV,append_nil->bY,map_map->b5,range->cW,getElem?_eq_getElem->c7,map_append->c8,drop_eq_nil_of_le->dH,getElem?_map->dN,length_take->dU,map_cons->ek,cons_append->e7,rec->gb,drop_eq_getElem_cons->e8,map->e_,nil_append->fc,map_congr_left->gk,getElem?_set_ne->gV,length->gW,length_drop->gX,lookup_cons->iA,take_append_drop->iB,filter_cons->iC,take_of_length_le->i6,length_range->jz,mem_append_left->jD,length_cons->jE,replicate_succ->jF,lookup->mS,length_set->mT,set_append_right->mU,drop_zero->mV,pairwise_map->mW,take_add_one->mX,nodup_cons->oz,mem_of_mem_take->oG,not_mem_nil->oH,reverse_cons->oJ,getElem?_drop->oK,getD_eq_getElem?_getD->oN,getElem?_inj->qh,take_left'->qi,all_cons->qj,mem_cons->qk,length_replicate->qm,getElem?_take_of_lt->rT,getElem?_eq_none->rU,mem_append_right->rV,getElem?_set_self->rW,getElem_mem->rX,forIn_cons->rY,getElem?_take->rZ,drop_drop->r4,range_succ_eq_map->r5,filter_append->r6,getElem?_set->wq,map_take->wu,eq_nil_of_length_eq_zero->wz,take_succ_cons->wA,nodup_iff_pairwise_ne->wB,mem_append->wC,all_append->wF,mem_of_mem_drop->wG,mem_singleton->wH,length_filter_le->wI,take_length->wJ,filterMap_cons_some->Ar,getElem?_range->Au,filterMap_cons->Av,eq_of_mem_replicate->Aw
open List.cons renaming injEq->r7
open Nat renaming le_refl->bf,le_trans->br,zero_le->bW,ne_of_lt->b8,le_of_eq->cA,sub_self->cB,casesOn->cJ,le_antisymm->cY,le_add_right->dh,lt_of_le_of_lt->er,zero_add->eV,min_eq_left->eW,ne_of_gt->fN,le_of_lt->gy,lt_irrefl->dX,noConfusion->dY,mod_lt->dZ,le_of_not_lt->ff,succ_le_succ->fh,add_assoc->fj,beq->fT,le_succ->iD,add_comm->iE,mod_eq_of_lt->iF,lt_of_lt_of_eq->i7,le_succ_of_le->jG,lt_succ_self->jH,lt_trans->jI,sub_le->kg,add_zero->kh,succ->lD,lt_of_le_of_ne->lE,le_add_left->lG,sub_lt->mY,succ_pos->mZ,not_lt_zero->m3,zero_lt_of_lt->m4,lt_or_eq_of_le->m5,pos_of_ne_zero->oO,eq_of_beq_eq_true->oQ,add_sub_cancel_left->oR,lt_or_ge->qn,le_of_lt_succ->qo,min_le_right->qp,mul_lt_mul_of_pos_right->qq,div_add_mod'->qs,lt_of_not_le->r8,sub_eq_zero_of_le->r9,add_right_comm->r_,one_pos->se,add_le_add_left->sf,min_eq_right->sj,le_of_not_le->sq,le_of_succ_le->wK,lt_add_of_pos_right->wL,div_lt_of_lt_mul->wM,max_eq_right->wN,min_le_left->wO,sub_right_comm->wQ,div_div_eq_div_mul->wR,add_le_add_right->Ax,le_sub_one_of_lt->Ay,eq_zero_of_not_pos->Az,le_of_ble_eq_true->AA,add_lt_of_lt_sub'->AB
open Nat.succ renaming inj->wU
open Option renaming some->af,casesOn->c9,getD_none->wV,getD_some->wW
open Or renaming inl->ko
open Prod renaming casesOn->gz
open Prod.mk renaming injEq->kq
open Pure renaming pure->aX
open PyProof.Rows renaming arrOf->bC,wpS_bind->dD,wpS_pure->dO,Keyed->fU,SBase->fV,SortSt->gm,StrsAre->iG,pendingOf->oS,wpS_forRange->qt,isnot_none_ne->su
open PySem renaming Str->ai,Value->ao,wpAny_bind->au,Addr->az,Shared->ay,wpAny->aB,wpAny_pure->aD,model->aE,Expr->aF,World->aG,Heap->aM,Obj->aR,Scope->aU,Env->aV,Pos->a_,Around->bg,wpAny_mono->bk,sizeLine->bw,Stmt->bH,wpAny_holding->bP,NameKind->b6,rawInt->cT,OsState->dm,codeAny->dw,call->dW,Params->ez,wpAny_of_eq->eB,pyNext->eX,Program->fO,typeOf->fP,wpAny_call->gc,wpAny_call_entry->dP,typeLookup->d7,isSubtype->d8,wpAny_newObj_type->eM,Result->fk,wpAny_standAt->fm,isSubtype_type->fq,treeTable->fW,typeLookup_type->fX,builtinLookup_eq_fast->fY,wpAny_seqItems->fZ,valueAt->f5,cLine->gp,wpAny_specialOf->gY,wpAny_field->gZ,sliceBounds->iH,argsOk->iI,plainId_quiet->iJ,codeAny_builtin->iK,bindArgs->iM,SetTable->i8,starEach->i9,wpAny_rule->i_,wpAny_isInstance->jJ,pyIter->jK,mainGlobals->kr,Operator->ku,FuncData->kA,wpAny_attempt->kB,firstArgMember->kC,relayAll->kD,strKind->kF,entryFor->kG,isInstance->kH,assignEach->kI,Builtin->lH,wpAny_callSpecial?_slot->lI,wpAny_load->lJ,wpAny_updateSeq->lK,wpAny_typeOf->lM,codeAny_call_builtin->lN,wpAny_letGo->m6,builtinsNs->oU,seqIndex?->oV,assign->iO,swappedStores->oW,updateSeq->oX,signature?_of->oY,wpAny_setField_rec->oZ,sysModules->o4,wpAny_loadPart->o5,codeAny_of_tree->o6,wpAny_tryCatch->o7,sliceRange->qv,wpAny_setField->qw,isSubtype_stop->qx,wpAny_setState_of->qy,wpAny_askSetting->qz,builtinKind->qA,richCompare->qB,isTrue->sy,wpAny_execs_nil->sC,Comprehension->sD,wpAny_handled->sE,wpAny_pyIter_list->sF,letOwnedTupleGo->sG,entryFor_of_tree->sH,checkBuiltinCall->sI,foldedSetIterable->sJ,wpAny_pyNext_list_item->wX,wpAny_Call_NameR->wY,intKind->sL,wpAny_truthy_bool->wZ,wpAny_storeName_local->AD,callSpecialIfBoundUnlessNone?->AE,wpAny_comprehension_free->AF
open PySem.Around renaming under_plainId->jL
open PySem.Builtin renaming bitAnd->sM,divisionGoesByPylong->AG
open PySem.Builtin.Builtins renaming bindParams->w5
open PySem.Builtin.Frozenset renaming oneOther->Er,addrOf->Es
open PySem.Builtin.Int renaming intBits->sN
open PySem.Builtin.List renaming listItems->kJ,listUpdate->w6,listExtendWith->w7,listFitsIndex->Et
open PySem.Builtin.ObjectAttr renaming find->Eu,bindTo->Ew
open PySem.Builtin.Range renaming rangeSize->ja,small->w9
open PySem.Builtin.Str renaming strSliceIndices->lO
open PySem.Builtin.Tuple renaming tupleItemsOf->w_
open PySem.Code renaming body->cK
open PySem.Expr renaming casesOn->fQ
open PySem.Expr.Attribute renaming elim->AH
open PySem.Expr.Call renaming elim->AI
open PySem.Expr.Constant renaming elim->AJ
open PySem.Expr.ListComp renaming elim->AK
open PySem.Expr.Name renaming elim->xd
open PySem.Expr.SetComp renaming elim->AL
open PySem.Expr.Slice renaming elim->AM
open PySem.Expr.Subscript renaming elim->AP
open PySem.Expr.Tuple renaming elim->xe
open PySem.F renaming slot_tuple_iterator_next->xg,plain_extend_loop->xh,plainAttrs_list->xj,slot_str_split->xm,plainAttrs_dict->AQ,plainAttrs_str->AR,entry_tuple_iterator_next->Ey,args_tuple_iterator_next_1->Ez,slot_range_iterator_next->EA
open PySem.Flow renaming casesOn->fR
open PySem.Heap renaming get?_push_of_some->bZ,lt_size->b9,get?_push_size->b_,size_push->dJ,SameBut->fu,get?_update_self->jb,get?_update_other->sO
open PySem.Heap.SameBut renaming update->iP
open PySem.IntMulOk renaming of_right->xo
open PySem.MeetsSeq3 renaming plain_eq_loop->sP
open PySem.NameKind renaming free->fy,cell->f6,casesOn->sQ
open PySem.Obj renaming mapSeq->jc,data_mapSeq->sR,isFreed_of_seq->xq
open PySem.PyData renaming strOk->qC
open PySem.SetTable renaming grown->kK,below->sS
open PySem.Shared renaming TypeIs->xr
open PySem.Str renaming join->bX,ofString->jM
open PySem.Value renaming ref->g9,type->jN,casesOn->lP,builtin->xu
open PySem.Value.type renaming elim->AU
open PySem.W renaming topFrame->fB,piecesOf->eN,emptyDict->iQ,instObj->iS,segRun_of->lQ,piece_app->lR,behindTheImports->sU
open PySem.W.Fast renaming tw10110043849684766642->lS,te10110043849684766642->lU,tw4202317264376624991->xw,tw13482112738370960269->xx,te14364793385576792824->EB,tw14364793385576792824->EC
open PySem.W.Looks renaming of_peek->qD
open String renaming ofList->m7
open _root_ renaming List->aa,Nat->ah,Int->aq,Option->aA,Bool->aH,if_neg->aI,absurd->aJ,Array->aK,if_pos->aW,congrArg->bu,False->bG,of_decide_eq_true->b3,String->cj,UInt8->dQ,decide_eq_true->eF,of_decide_eq_false->eG,decide_eq_false->gA,beq_false_of_ne->fC,beq_self_eq_true->iT,DecidableEq->jO,if_false->kL,reduceIte->m8,Decidable->o8,bne_self_eq_false->o9,decide_eq_false_iff_not->xy
section
namespace cZ
universe u
@[elab_as_elim]theorem rwL{α:Sort u}{a b:α}{p:α->Prop}(h:a=b)(k:p b):p a:=h▸k
@[elab_as_elim]theorem rwR{α:Sort u}{a b:α}{p:α->Prop}(h:b=a)(k:p b):p a:=h▸k
def kk(p:Lean.Name)(s:cj)(x:aa Lean.Syntax):Lean.Syntax:=.node .none (p.str s) x.toArray
def nn(x:aa Lean.Syntax):Lean.Syntax:=.node .none `null x.toArray
end cZ
end
local macro_rules (kind:=Lean.Parser.Tactic.rewriteSeq)|s=>if s[3].isNone&&!s[0].isMissing then let r:=s[2][1].getArgs;let p:=s.getKind.getPrefix;let q:=p.getPrefix.str "Term";let m:=Lean.Syntax.missing;if r.size==1 then return cZ.kk p "first" [m,cZ.nn [cZ.nn [m,cZ.kk p "refine" [m,cZ.kk q "app" [Lean.mkIdent ((`cZ).str (if s[2][1][0][0].isNone then "rwL" else "rwR")),cZ.nn [cZ.kk q "app" [s[2][1][0][1],cZ.nn [cZ.kk q "ellipsis" []]],cZ.kk q "syntheticHole" [m,cZ.kk q "hole" []]]]]],cZ.nn [m,s.setArg 0 m]]]else return cZ.nn [s.setArg 2 (s[2].setArg 1 (cZ.nn [r[0]!])),s.setArg 2 (s[2].setArg 1 (Lean.mkNullNode (r.extract 2 r.size)))]else Lean.Macro.throwUnsupported
section
open Lean
namespace cZ
theorem ft{C:Prop}(h:aC=aj):C:=(cS h).elim
theorem tf{C:Prop}(h:aj=aC):C:=(cS h.symm).elim
theorem ns{α:Type}{a:α}{C:Prop}(h:none=af a):C:=nomatch h
theorem gi{α:Type _}{l:aa α}{i:ah}{a:α}(h:l[i]?=af a):∃h:i<l.length,l[i]=a:=List.getElem?_eq_some_iff.mp h
theorem d9{α:Type _}{a:α}{s t:aa α}(h:a∈s++t):a∈s\/a∈t:=List.mem_append.mp h
theorem g_{α:Type _}{a b:α}(h:a∈[b]):a=b:=List.mem_singleton.mp h
theorem gq{α:Type _}{a b:α}{l:aa α}(h:a∈b::l):a=b\/a∈l:=List.mem_cons.mp h
theorem gP{α Z:Type _}{f:α->Z}{l:aa α}{b:Z}(h:b∈l.map f):∃a,a∈l/\f a=b:=List.mem_map.mp h
theorem iZ{m n:ah}(h:m<=n):¬n<m:=Nat.not_lt.mpr h
theorem qE{a b:aH}(h:(a&&b)=aj):a=aj/\b=aj:=Bool.and_eq_true_iff.mp h
theorem jh{α:Type _}{l₁ Z:aa α}{i:ah}(h:l₁.length<=i):(l₁++Z)[i]?=Z[i-l₁.length]?:=List.getElem?_append_right h
theorem m9{α:Type _}{l₁ Z:aa α}{i:ah}(h:i<l₁.length):(l₁++Z)[i]?=l₁[i]?:=List.getElem?_append_left h
theorem j3{α:Type _}{l:aa α}{i:ah}{a:α}(h:l[i]?=af a):a∈l:=List.mem_of_getElem? h
theorem eO{n m:ah}(h:m<=n):n-m+m=n:=Nat.sub_add_cancel h
theorem dz{α:Type _}{a b:α}(h:af a=af b):a=b:=Option.some.inj h
theorem lV{α:Type _}{p:α->aH}{l:aa α}(h:l.all p=aj):∀x∈l,p x=aj:=List.all_eq_true.mp h
theorem dg{n m k:ah}(h:n<m)(g:m<=k):n<k:=Nat.lt_of_lt_of_le h g
theorem bq{p0 Z:Prop}{G:Prop}(h:p0/\Z)(q:p0->Z->G):G:=q h.1 h.2
theorem cL{p0 Z Y:Prop}{G:Prop}(h:p0/\Z/\Y)(q:p0->Z->Y->G):G:=bq h.2 (q h.1)
theorem rA{p0 Z Y X:Prop}{G:Prop}(h:p0/\Z/\Y/\X)(q:p0->Z->Y->X->G):G:=cL h.2 (q h.1)
theorem ED{p0 Z Y X W:Prop}{G:Prop}(h:p0/\Z/\Y/\X/\W)(q:p0->Z->Y->X->W->G):G:=rA h.2 (q h.1)
theorem Mb{p0 Z Y X W V:Prop}{G:Prop}(h:p0/\Z/\Y/\X/\W/\V)(q:p0->Z->Y->X->W->V->G):G:=ED h.2 (q h.1)
theorem Me{p0 Z Y X W V U:Prop}{G:Prop}(h:p0/\Z/\Y/\X/\W/\V/\U)(q:p0->Z->Y->X->W->V->U->G):G:=Mb h.2 (q h.1)
theorem Mf{p0 Z Y X W V U T:Prop}{G:Prop}(h:p0/\Z/\Y/\X/\W/\V/\U/\T)(q:p0->Z->Y->X->W->V->U->T->G):G:=Me h.2 (q h.1)
theorem aZ{Z:Sort _}{p0:Z->Prop}{G:Prop}(h:∃a0,p0 a0)(q:∀a0,p0 a0->G):G:=h.elim q
theorem aQ{Z:Sort _}{p0 Y:Z->Prop}{G:Prop}(h:∃a0,p0 a0/\Y a0)(q:∀a0,p0 a0->Y a0->G):G:=h.elim λa h=>bq h (q a)
theorem cC{Z:Sort _}{p0 Y X:Z->Prop}{G:Prop}(h:∃a0,p0 a0/\Y a0/\X a0)(q:∀a0,p0 a0->Y a0->X a0->G):G:=h.elim λa h=>cL h (q a)
theorem m_{Z:Sort _}{p0 Y X W:Z->Prop}{G:Prop}(h:∃a0,p0 a0/\Y a0/\X a0/\W a0)(q:∀a0,p0 a0->Y a0->X a0->W a0->G):G:=h.elim λa h=>rA h (q a)
theorem Mg{Z:Sort _}{p0 Y X W V:Z->Prop}{G:Prop}(h:∃a0,p0 a0/\Y a0/\X a0/\W a0/\V a0)(q:∀a0,p0 a0->Y a0->X a0->W a0->V a0->G):G:=h.elim λa h=>ED h (q a)
theorem Pw{Z:Sort _}{p0 Y X W V U:Z->Prop}{G:Prop}(h:∃a0,p0 a0/\Y a0/\X a0/\W a0/\V a0/\U a0)(q:∀a0,p0 a0->Y a0->X a0->W a0->V a0->U a0->G):G:=h.elim λa h=>Mb h (q a)
theorem Px{Z:Sort _}{p0 Y X W V U T:Z->Prop}{G:Prop}(h:∃a0,p0 a0/\Y a0/\X a0/\W a0/\V a0/\U a0/\T a0)(q:∀a0,p0 a0->Y a0->X a0->W a0->V a0->U a0->T a0->G):G:=h.elim λa h=>Me h (q a)
theorem Py{Z:Sort _}{p0 Y X W V U T S:Z->Prop}{G:Prop}(h:∃a0,p0 a0/\Y a0/\X a0/\W a0/\V a0/\U a0/\T a0/\S a0)(q:∀a0,p0 a0->Y a0->X a0->W a0->V a0->U a0->T a0->S a0->G):G:=h.elim λa h=>Mf h (q a)
theorem lW{Z:Sort _}{Y:Sort _}{p0:Z->Y->Prop}{G:Prop}(h:∃a0 a1,p0 a0 a1)(q:∀a0 a1,p0 a0 a1->G):G:=h.elim λa h=>aZ h (q a)
theorem cz{Z:Sort _}{Y:Sort _}{p0 X:Z->Y->Prop}{G:Prop}(h:∃a0 a1,p0 a0 a1/\X a0 a1)(q:∀a0 a1,p0 a0 a1->X a0 a1->G):G:=h.elim λa h=>aQ h (q a)
theorem cU{Z:Sort _}{Y:Sort _}{p0 X W:Z->Y->Prop}{G:Prop}(h:∃a0 a1,p0 a0 a1/\X a0 a1/\W a0 a1)(q:∀a0 a1,p0 a0 a1->X a0 a1->W a0 a1->G):G:=h.elim λa h=>cC h (q a)
theorem mK{Z:Sort _}{Y:Sort _}{p0 X W V:Z->Y->Prop}{G:Prop}(h:∃a0 a1,p0 a0 a1/\X a0 a1/\W a0 a1/\V a0 a1)(q:∀a0 a1,p0 a0 a1->X a0 a1->W a0 a1->V a0 a1->G):G:=h.elim λa h=>m_ h (q a)
theorem EE{Z:Sort _}{Y:Sort _}{p0 X W V U:Z->Y->Prop}{G:Prop}(h:∃a0 a1,p0 a0 a1/\X a0 a1/\W a0 a1/\V a0 a1/\U a0 a1)(q:∀a0 a1,p0 a0 a1->X a0 a1->W a0 a1->V a0 a1->U a0 a1->G):G:=h.elim λa h=>Mg h (q a)
theorem EF{Z:Sort _}{Y:Sort _}{p0 X W V U T:Z->Y->Prop}{G:Prop}(h:∃a0 a1,p0 a0 a1/\X a0 a1/\W a0 a1/\V a0 a1/\U a0 a1/\T a0 a1)(q:∀a0 a1,p0 a0 a1->X a0 a1->W a0 a1->V a0 a1->U a0 a1->T a0 a1->G):G:=h.elim λa h=>Pw h (q a)
theorem Pz{Z:Sort _}{Y:Sort _}{p0 X W V U T S:Z->Y->Prop}{G:Prop}(h:∃a0 a1,p0 a0 a1/\X a0 a1/\W a0 a1/\V a0 a1/\U a0 a1/\T a0 a1/\S a0 a1)(q:∀a0 a1,p0 a0 a1->X a0 a1->W a0 a1->V a0 a1->U a0 a1->T a0 a1->S a0 a1->G):G:=h.elim λa h=>Px h (q a)
theorem PA{Z:Sort _}{Y:Sort _}{p0 X W V U T S R:Z->Y->Prop}{G:Prop}(h:∃a0 a1,p0 a0 a1/\X a0 a1/\W a0 a1/\V a0 a1/\U a0 a1/\T a0 a1/\S a0 a1/\R a0 a1)(q:∀a0 a1,p0 a0 a1->X a0 a1->W a0 a1->V a0 a1->U a0 a1->T a0 a1->S a0 a1->R a0 a1->G):G:=h.elim λa h=>Py h (q a)
theorem PB{Z:Sort _}{Y:Sort _}{X:Sort _}{p0:Z->Y->X->Prop}{G:Prop}(h:∃a0 a1 a2,p0 a0 a1 a2)(q:∀a0 a1 a2,p0 a0 a1 a2->G):G:=h.elim λa h=>lW h (q a)
theorem gu{Z:Sort _}{Y:Sort _}{X:Sort _}{p0 W:Z->Y->X->Prop}{G:Prop}(h:∃a0 a1 a2,p0 a0 a1 a2/\W a0 a1 a2)(q:∀a0 a1 a2,p0 a0 a1 a2->W a0 a1 a2->G):G:=h.elim λa h=>cz h (q a)
theorem uF{Z:Sort _}{Y:Sort _}{X:Sort _}{p0 W V:Z->Y->X->Prop}{G:Prop}(h:∃a0 a1 a2,p0 a0 a1 a2/\W a0 a1 a2/\V a0 a1 a2)(q:∀a0 a1 a2,p0 a0 a1 a2->W a0 a1 a2->V a0 a1 a2->G):G:=h.elim λa h=>cU h (q a)
theorem mL{Z:Sort _}{Y:Sort _}{X:Sort _}{p0 W V U:Z->Y->X->Prop}{G:Prop}(h:∃a0 a1 a2,p0 a0 a1 a2/\W a0 a1 a2/\V a0 a1 a2/\U a0 a1 a2)(q:∀a0 a1 a2,p0 a0 a1 a2->W a0 a1 a2->V a0 a1 a2->U a0 a1 a2->G):G:=h.elim λa h=>mK h (q a)
theorem kY{Z:Sort _}{Y:Sort _}{X:Sort _}{p0 W V U T:Z->Y->X->Prop}{G:Prop}(h:∃a0 a1 a2,p0 a0 a1 a2/\W a0 a1 a2/\V a0 a1 a2/\U a0 a1 a2/\T a0 a1 a2)(q:∀a0 a1 a2,p0 a0 a1 a2->W a0 a1 a2->V a0 a1 a2->U a0 a1 a2->T a0 a1 a2->G):G:=h.elim λa h=>EE h (q a)
theorem PC{Z:Sort _}{Y:Sort _}{X:Sort _}{p0 W V U T S:Z->Y->X->Prop}{G:Prop}(h:∃a0 a1 a2,p0 a0 a1 a2/\W a0 a1 a2/\V a0 a1 a2/\U a0 a1 a2/\T a0 a1 a2/\S a0 a1 a2)(q:∀a0 a1 a2,p0 a0 a1 a2->W a0 a1 a2->V a0 a1 a2->U a0 a1 a2->T a0 a1 a2->S a0 a1 a2->G):G:=h.elim λa h=>EF h (q a)
theorem sV{Z:Sort _}{Y:Sort _}{X:Sort _}{p0 W V U T S R:Z->Y->X->Prop}{G:Prop}(h:∃a0 a1 a2,p0 a0 a1 a2/\W a0 a1 a2/\V a0 a1 a2/\U a0 a1 a2/\T a0 a1 a2/\S a0 a1 a2/\R a0 a1 a2)(q:∀a0 a1 a2,p0 a0 a1 a2->W a0 a1 a2->V a0 a1 a2->U a0 a1 a2->T a0 a1 a2->S a0 a1 a2->R a0 a1 a2->G):G:=h.elim λa h=>Pz h (q a)
theorem PD{Z:Sort _}{Y:Sort _}{X:Sort _}{p0 W V U T S R Q:Z->Y->X->Prop}{G:Prop}(h:∃a0 a1 a2,p0 a0 a1 a2/\W a0 a1 a2/\V a0 a1 a2/\U a0 a1 a2/\T a0 a1 a2/\S a0 a1 a2/\R a0 a1 a2/\Q a0 a1 a2)(q:∀a0 a1 a2,p0 a0 a1 a2->W a0 a1 a2->V a0 a1 a2->U a0 a1 a2->T a0 a1 a2->S a0 a1 a2->R a0 a1 a2->Q a0 a1 a2->G):G:=h.elim λa h=>PA h (q a)
theorem rB{Y:Sort _}{X:Sort _}{W:Sort _}{V:Sort _}{p0 U:Y->X->W->V->Prop}{G:Prop}(h:∃a0 a1 a2 Z,p0 a0 a1 a2 Z/\U a0 a1 a2 Z)(q:∀a0 a1 a2 Z,p0 a0 a1 a2 Z->U a0 a1 a2 Z->G):G:=h.elim λa h=>gu h (q a)
theorem xA{Y:Sort _}{X:Sort _}{W:Sort _}{V:Sort _}{p0 U T:Y->X->W->V->Prop}{G:Prop}(h:∃a0 a1 a2 Z,p0 a0 a1 a2 Z/\U a0 a1 a2 Z/\T a0 a1 a2 Z)(q:∀a0 a1 a2 Z,p0 a0 a1 a2 Z->U a0 a1 a2 Z->T a0 a1 a2 Z->G):G:=h.elim λa h=>uF h (q a)
theorem eR{Y:Sort _}{X:Sort _}{W:Sort _}{V:Sort _}{p0 U T S:Y->X->W->V->Prop}{G:Prop}(h:∃a0 a1 a2 Z,p0 a0 a1 a2 Z/\U a0 a1 a2 Z/\T a0 a1 a2 Z/\S a0 a1 a2 Z)(q:∀a0 a1 a2 Z,p0 a0 a1 a2 Z->U a0 a1 a2 Z->T a0 a1 a2 Z->S a0 a1 a2 Z->G):G:=h.elim λa h=>mL h (q a)
theorem HX{Y:Sort _}{X:Sort _}{W:Sort _}{V:Sort _}{p0 U T S R:Y->X->W->V->Prop}{G:Prop}(h:∃a0 a1 a2 Z,p0 a0 a1 a2 Z/\U a0 a1 a2 Z/\T a0 a1 a2 Z/\S a0 a1 a2 Z/\R a0 a1 a2 Z)(q:∀a0 a1 a2 Z,p0 a0 a1 a2 Z->U a0 a1 a2 Z->T a0 a1 a2 Z->S a0 a1 a2 Z->R a0 a1 a2 Z->G):G:=h.elim λa h=>kY h (q a)
theorem PE{Y:Sort _}{X:Sort _}{W:Sort _}{V:Sort _}{p0 U T S R Q:Y->X->W->V->Prop}{G:Prop}(h:∃a0 a1 a2 Z,p0 a0 a1 a2 Z/\U a0 a1 a2 Z/\T a0 a1 a2 Z/\S a0 a1 a2 Z/\R a0 a1 a2 Z/\Q a0 a1 a2 Z)(q:∀a0 a1 a2 Z,p0 a0 a1 a2 Z->U a0 a1 a2 Z->T a0 a1 a2 Z->S a0 a1 a2 Z->R a0 a1 a2 Z->Q a0 a1 a2 Z->G):G:=h.elim λa h=>PC h (q a)
theorem PG{Y:Sort _}{X:Sort _}{W:Sort _}{V:Sort _}{p0 U T S R Q P:Y->X->W->V->Prop}{G:Prop}(h:∃a0 a1 a2 Z,p0 a0 a1 a2 Z/\U a0 a1 a2 Z/\T a0 a1 a2 Z/\S a0 a1 a2 Z/\R a0 a1 a2 Z/\Q a0 a1 a2 Z/\P a0 a1 a2 Z)(q:∀a0 a1 a2 Z,p0 a0 a1 a2 Z->U a0 a1 a2 Z->T a0 a1 a2 Z->S a0 a1 a2 Z->R a0 a1 a2 Z->Q a0 a1 a2 Z->P a0 a1 a2 Z->G):G:=h.elim λa h=>sV h (q a)
theorem Mh{Y:Sort _}{X:Sort _}{W:Sort _}{V:Sort _}{p0 U T S R Q P O:Y->X->W->V->Prop}{G:Prop}(h:∃a0 a1 a2 Z,p0 a0 a1 a2 Z/\U a0 a1 a2 Z/\T a0 a1 a2 Z/\S a0 a1 a2 Z/\R a0 a1 a2 Z/\Q a0 a1 a2 Z/\P a0 a1 a2 Z/\O a0 a1 a2 Z)(q:∀a0 a1 a2 Z,p0 a0 a1 a2 Z->U a0 a1 a2 Z->T a0 a1 a2 Z->S a0 a1 a2 Z->R a0 a1 a2 Z->Q a0 a1 a2 Z->P a0 a1 a2 Z->O a0 a1 a2 Z->G):G:=h.elim λa h=>PD h (q a)
theorem PI{X:Sort _}{W:Sort _}{V:Sort _}{U:Sort _}{T:Sort _}{p0 S:X->W->V->U->T->Prop}{G:Prop}(h:∃a0 a1 a2 Z Y,p0 a0 a1 a2 Z Y/\S a0 a1 a2 Z Y)(q:∀a0 a1 a2 Z Y,p0 a0 a1 a2 Z Y->S a0 a1 a2 Z Y->G):G:=h.elim λa h=>rB h (q a)
theorem PJ{X:Sort _}{W:Sort _}{V:Sort _}{U:Sort _}{T:Sort _}{p0 S R:X->W->V->U->T->Prop}{G:Prop}(h:∃a0 a1 a2 Z Y,p0 a0 a1 a2 Z Y/\S a0 a1 a2 Z Y/\R a0 a1 a2 Z Y)(q:∀a0 a1 a2 Z Y,p0 a0 a1 a2 Z Y->S a0 a1 a2 Z Y->R a0 a1 a2 Z Y->G):G:=h.elim λa h=>xA h (q a)
theorem Mi{X:Sort _}{W:Sort _}{V:Sort _}{U:Sort _}{T:Sort _}{p0 S R Q P:X->W->V->U->T->Prop}{G:Prop}(h:∃a0 a1 a2 Z Y,p0 a0 a1 a2 Z Y/\S a0 a1 a2 Z Y/\R a0 a1 a2 Z Y/\Q a0 a1 a2 Z Y/\P a0 a1 a2 Z Y)(q:∀a0 a1 a2 Z Y,p0 a0 a1 a2 Z Y->S a0 a1 a2 Z Y->R a0 a1 a2 Z Y->Q a0 a1 a2 Z Y->P a0 a1 a2 Z Y->G):G:=h.elim λa h=>HX h (q a)
theorem PK{X:Sort _}{W:Sort _}{V:Sort _}{U:Sort _}{T:Sort _}{S:Sort _}{p0 R:X->W->V->U->T->S->Prop}{G:Prop}(h:∃a0 a1 a2 Z Y a5,p0 a0 a1 a2 Z Y a5/\R a0 a1 a2 Z Y a5)(q:∀a0 a1 a2 Z Y a5,p0 a0 a1 a2 Z Y a5->R a0 a1 a2 Z Y a5->G):G:=h.elim λa h=>PI h (q a)
theorem EG{X:Sort _}{W:Sort _}{V:Sort _}{U:Sort _}{T:Sort _}{S:Sort _}{p0 R Q:X->W->V->U->T->S->Prop}{G:Prop}(h:∃a0 a1 a2 Z Y a5,p0 a0 a1 a2 Z Y a5/\R a0 a1 a2 Z Y a5/\Q a0 a1 a2 Z Y a5)(q:∀a0 a1 a2 Z Y a5,p0 a0 a1 a2 Z Y a5->R a0 a1 a2 Z Y a5->Q a0 a1 a2 Z Y a5->G):G:=h.elim λa h=>PJ h (q a)
theorem PL{X:Sort _}{W:Sort _}{V:Sort _}{U:Sort _}{T:Sort _}{S:Sort _}{p0 R Q P O:X->W->V->U->T->S->Prop}{G:Prop}(h:∃a0 a1 a2 Z Y a5,p0 a0 a1 a2 Z Y a5/\R a0 a1 a2 Z Y a5/\Q a0 a1 a2 Z Y a5/\P a0 a1 a2 Z Y a5/\O a0 a1 a2 Z Y a5)(q:∀a0 a1 a2 Z Y a5,p0 a0 a1 a2 Z Y a5->R a0 a1 a2 Z Y a5->Q a0 a1 a2 Z Y a5->P a0 a1 a2 Z Y a5->O a0 a1 a2 Z Y a5->G):G:=h.elim λa h=>Mi h (q a)
theorem aP{Z:Sort _}{p0 Y:Z->Prop}(a0:Z)(h0:p0 a0)(X:Y a0):∃a0,p0 a0/\Y a0:=⟨a0,h0,X⟩
theorem cy{Z:Sort _}{p0 Y X:Z->Prop}(a0:Z)(h0:p0 a0)(W:Y a0)(V:X a0):∃a0,p0 a0/\Y a0/\X a0:=⟨a0,h0,W,V⟩
theorem lX{Z:Sort _}{p0 Y X W:Z->Prop}(a0:Z)(h0:p0 a0)(V:Y a0)(U:X a0)(T:W a0):∃a0,p0 a0/\Y a0/\X a0/\W a0:=⟨a0,h0,V,U,T⟩
theorem kZ{Z:Sort _}{Y:Sort _}{p0:Z->Y->Prop}(a0:Z)(a1:Y)(h0:p0 a0 a1):∃a0 a1,p0 a0 a1:=⟨a0,a1,h0⟩
theorem cG{Z:Sort _}{Y:Sort _}{p0 X:Z->Y->Prop}(a0:Z)(a1:Y)(h0:p0 a0 a1)(W:X a0 a1):∃a0 a1,p0 a0 a1/\X a0 a1:=⟨a0,a1,h0,W⟩
theorem bM{Z:Sort _}{Y:Sort _}{p0 X W:Z->Y->Prop}(a0:Z)(a1:Y)(h0:p0 a0 a1)(V:X a0 a1)(U:W a0 a1):∃a0 a1,p0 a0 a1/\X a0 a1/\W a0 a1:=⟨a0,a1,h0,V,U⟩
theorem HY{Z:Sort _}{Y:Sort _}{p0 X W V:Z->Y->Prop}(a0:Z)(a1:Y)(h0:p0 a0 a1)(U:X a0 a1)(T:W a0 a1)(S:V a0 a1):∃a0 a1,p0 a0 a1/\X a0 a1/\W a0 a1/\V a0 a1:=⟨a0,a1,h0,U,T,S⟩
theorem Kv{Z:Sort _}{Y:Sort _}{p0 X W V U:Z->Y->Prop}(a0:Z)(a1:Y)(h0:p0 a0 a1)(T:X a0 a1)(S:W a0 a1)(R:V a0 a1)(Q:U a0 a1):∃a0 a1,p0 a0 a1/\X a0 a1/\W a0 a1/\V a0 a1/\U a0 a1:=⟨a0,a1,h0,T,S,R,Q⟩
theorem HZ{Z:Sort _}{Y:Sort _}{p0 X W V U T:Z->Y->Prop}(a0:Z)(a1:Y)(h0:p0 a0 a1)(S:X a0 a1)(R:W a0 a1)(Q:V a0 a1)(P:U a0 a1)(O:T a0 a1):∃a0 a1,p0 a0 a1/\X a0 a1/\W a0 a1/\V a0 a1/\U a0 a1/\T a0 a1:=⟨a0,a1,h0,S,R,Q,P,O⟩
theorem EH{Z:Sort _}{Y:Sort _}{X:Sort _}{p0:Z->Y->X->Prop}(a0:Z)(a1:Y)(a2:X)(h0:p0 a0 a1 a2):∃a0 a1 a2,p0 a0 a1 a2:=⟨a0,a1,a2,h0⟩
theorem kO{Z:Sort _}{Y:Sort _}{X:Sort _}{p0 W:Z->Y->X->Prop}(a0:Z)(a1:Y)(a2:X)(h0:p0 a0 a1 a2)(V:W a0 a1 a2):∃a0 a1 a2,p0 a0 a1 a2/\W a0 a1 a2:=⟨a0,a1,a2,h0,V⟩
theorem EI{Z:Sort _}{Y:Sort _}{X:Sort _}{p0 W V:Z->Y->X->Prop}(a0:Z)(a1:Y)(a2:X)(h0:p0 a0 a1 a2)(U:W a0 a1 a2)(T:V a0 a1 a2):∃a0 a1 a2,p0 a0 a1 a2/\W a0 a1 a2/\V a0 a1 a2:=⟨a0,a1,a2,h0,U,T⟩
theorem rC{Z:Sort _}{Y:Sort _}{X:Sort _}{p0 W V U:Z->Y->X->Prop}(a0:Z)(a1:Y)(a2:X)(h0:p0 a0 a1 a2)(T:W a0 a1 a2)(S:V a0 a1 a2)(R:U a0 a1 a2):∃a0 a1 a2,p0 a0 a1 a2/\W a0 a1 a2/\V a0 a1 a2/\U a0 a1 a2:=⟨a0,a1,a2,h0,T,S,R⟩
theorem xB{Z:Sort _}{Y:Sort _}{X:Sort _}{p0 W V U T:Z->Y->X->Prop}(a0:Z)(a1:Y)(a2:X)(h0:p0 a0 a1 a2)(S:W a0 a1 a2)(R:V a0 a1 a2)(Q:U a0 a1 a2)(P:T a0 a1 a2):∃a0 a1 a2,p0 a0 a1 a2/\W a0 a1 a2/\V a0 a1 a2/\U a0 a1 a2/\T a0 a1 a2:=⟨a0,a1,a2,h0,S,R,Q,P⟩
theorem Mj{Z:Sort _}{Y:Sort _}{X:Sort _}{p0 W V U T S:Z->Y->X->Prop}(a0:Z)(a1:Y)(a2:X)(h0:p0 a0 a1 a2)(R:W a0 a1 a2)(Q:V a0 a1 a2)(P:U a0 a1 a2)(O:T a0 a1 a2)(N:S a0 a1 a2):∃a0 a1 a2,p0 a0 a1 a2/\W a0 a1 a2/\V a0 a1 a2/\U a0 a1 a2/\T a0 a1 a2/\S a0 a1 a2:=⟨a0,a1,a2,h0,R,Q,P,O,N⟩
theorem EJ{Z:Sort _}{Y:Sort _}{X:Sort _}{p0 W V U T S R:Z->Y->X->Prop}(a0:Z)(a1:Y)(a2:X)(h0:p0 a0 a1 a2)(Q:W a0 a1 a2)(P:V a0 a1 a2)(O:U a0 a1 a2)(N:T a0 a1 a2)(M:S a0 a1 a2)(L:R a0 a1 a2):∃a0 a1 a2,p0 a0 a1 a2/\W a0 a1 a2/\V a0 a1 a2/\U a0 a1 a2/\T a0 a1 a2/\S a0 a1 a2/\R a0 a1 a2:=⟨a0,a1,a2,h0,Q,P,O,N,M,L⟩
theorem CV{Y:Sort _}{X:Sort _}{W:Sort _}{V:Sort _}{p0 U T:Y->X->W->V->Prop}(a0:Y)(a1:X)(a2:W)(Z:V)(h0:p0 a0 a1 a2 Z)(S:U a0 a1 a2 Z)(R:T a0 a1 a2 Z):∃a0 a1 a2 Z,p0 a0 a1 a2 Z/\U a0 a1 a2 Z/\T a0 a1 a2 Z:=⟨a0,a1,a2,Z,h0,S,R⟩
theorem qF{Y:Sort _}{X:Sort _}{W:Sort _}{V:Sort _}{p0 U T S:Y->X->W->V->Prop}(a0:Y)(a1:X)(a2:W)(Z:V)(h0:p0 a0 a1 a2 Z)(R:U a0 a1 a2 Z)(Q:T a0 a1 a2 Z)(P:S a0 a1 a2 Z):∃a0 a1 a2 Z,p0 a0 a1 a2 Z/\U a0 a1 a2 Z/\T a0 a1 a2 Z/\S a0 a1 a2 Z:=⟨a0,a1,a2,Z,h0,R,Q,P⟩
theorem uG{Y:Sort _}{X:Sort _}{W:Sort _}{V:Sort _}{p0 U T S R:Y->X->W->V->Prop}(a0:Y)(a1:X)(a2:W)(Z:V)(h0:p0 a0 a1 a2 Z)(Q:U a0 a1 a2 Z)(P:T a0 a1 a2 Z)(O:S a0 a1 a2 Z)(N:R a0 a1 a2 Z):∃a0 a1 a2 Z,p0 a0 a1 a2 Z/\U a0 a1 a2 Z/\T a0 a1 a2 Z/\S a0 a1 a2 Z/\R a0 a1 a2 Z:=⟨a0,a1,a2,Z,h0,Q,P,O,N⟩
theorem Mk{Y:Sort _}{X:Sort _}{W:Sort _}{V:Sort _}{p0 U T S R Q:Y->X->W->V->Prop}(a0:Y)(a1:X)(a2:W)(Z:V)(h0:p0 a0 a1 a2 Z)(P:U a0 a1 a2 Z)(O:T a0 a1 a2 Z)(N:S a0 a1 a2 Z)(M:R a0 a1 a2 Z)(L:Q a0 a1 a2 Z):∃a0 a1 a2 Z,p0 a0 a1 a2 Z/\U a0 a1 a2 Z/\T a0 a1 a2 Z/\S a0 a1 a2 Z/\R a0 a1 a2 Z/\Q a0 a1 a2 Z:=⟨a0,a1,a2,Z,h0,P,O,N,M,L⟩
theorem Kw{Y:Sort _}{X:Sort _}{W:Sort _}{V:Sort _}{p0 U T S R Q P O:Y->X->W->V->Prop}(a0:Y)(a1:X)(a2:W)(Z:V)(h0:p0 a0 a1 a2 Z)(N:U a0 a1 a2 Z)(M:T a0 a1 a2 Z)(L:S a0 a1 a2 Z)(K:R a0 a1 a2 Z)(J:Q a0 a1 a2 Z)(I:P a0 a1 a2 Z)(H:O a0 a1 a2 Z):∃a0 a1 a2 Z,p0 a0 a1 a2 Z/\U a0 a1 a2 Z/\T a0 a1 a2 Z/\S a0 a1 a2 Z/\R a0 a1 a2 Z/\Q a0 a1 a2 Z/\P a0 a1 a2 Z/\O a0 a1 a2 Z:=⟨a0,a1,a2,Z,h0,N,M,L,K,J,I,H⟩
theorem PM{Z:Sort _}{Y:Sort _}{X:Sort _}{W:Sort _}{V:Sort _}{p0:Z->Y->X->W->V->Prop}(a0:Z)(a1:Y)(a2:X)(U:W)(T:V)(h0:p0 a0 a1 a2 U T):∃a0 a1 a2 U T,p0 a0 a1 a2 U T:=⟨a0,a1,a2,U,T,h0⟩
theorem Ml{X:Sort _}{W:Sort _}{V:Sort _}{U:Sort _}{T:Sort _}{p0 S R Q P:X->W->V->U->T->Prop}(a0:X)(a1:W)(a2:V)(Z:U)(Y:T)(h0:p0 a0 a1 a2 Z Y)(O:S a0 a1 a2 Z Y)(N:R a0 a1 a2 Z Y)(M:Q a0 a1 a2 Z Y)(L:P a0 a1 a2 Z Y):∃a0 a1 a2 Z Y,p0 a0 a1 a2 Z Y/\S a0 a1 a2 Z Y/\R a0 a1 a2 Z Y/\Q a0 a1 a2 Z Y/\P a0 a1 a2 Z Y:=⟨a0,a1,a2,Z,Y,h0,O,N,M,L⟩
end cZ
end
section
namespace cZ
section
set_option genInjectivity false
set_option genCtorIdx false
inductive E where|v(i:ah)|w(i:ah)|n(k:ah)|p(a b:E)|s(a b:E)|g(a:E)|m(k:ah)(a:E)|r(k:ah)(a:E)|c(a:E)
noncomputable abbrev Mm{α:Type}(z:α)(l:aa α):ah->α:=gb (λZ=>z) (λa Z f i=>Nat.rec a (λj Z=>f j) i) l
noncomputable def un:ah->aa aq:=Nat.rec [1] λZ l=>0::l
noncomputable def ad(l:aa aq):aa aq->aa aq:=gb (λm=>m) (λa l g m=>gb (a::l) (λb m Z=>(a+b)::g m) m) l
noncomputable def sc(k:aq):aa aq->aa aq:=gb [] λa Z l=>(k*a)::l
noncomputable def dot(l:aa aq):aa aq->aq:=gb (λZ=>0) (λa l g x=>gb 0 (λx y Z=>a*x+g y) x) l
noncomputable abbrev E.d(x:aa ah):E->ah:=E.rec (Mm 0 x) (λZ=>0) (λk=>k) (λZ Z a b=>a+b) (λZ Z Z Z=>0) (λZ Z=>0) (λk Z a=>k*a) (λk Z a=>a*k) (λZ Z=>0)
noncomputable abbrev E.z(x:aa ah)(y:aa aq):E->aq:=E.rec (λZ=>0) (Mm 0 y) (λk=>(k:aq)) (λZ Z a b=>a+b) (λZ Z a b=>a-b) (λZ a=>-a) (λk Z a=>k*a) (λk Z a=>a*k) (λa Z=>((a.d x:ah):aq))
noncomputable def E.f:E->aa aq:=E.rec (λi=>0::un i) (λZ=>[]) (λk=>[(k:aq)]) (λZ Z a b=>ad a b) (λZ Z Z Z=>[]) (λZ Z=>[]) (λk Z a=>sc k a) (λk Z a=>sc k a) (λZ Z=>[])
noncomputable def E.a:E->aa aq:=E.rec (λZ=>[]) (λZ=>[]) (λk=>[(k:aq)]) (λZ Z a b=>ad a b) (λZ Z a b=>ad a (sc (-1) b)) (λZ a=>sc (-1) a) (λk Z a=>sc k a) (λk Z a=>sc k a) (λa Z=>a.f)
noncomputable def E.b:E->aa aq:=E.rec (λZ=>[]) un (λZ=>[]) (λZ Z a b=>ad a b) (λZ Z a b=>ad a (sc (-1) b)) (λZ a=>sc (-1) a) (λk Z a=>sc k a) (λk Z a=>sc k a) (λZ Z=>[])
theorem o_(l):∀m x,dot (ad l m) x=dot l x+dot m x:=by induction l with|nil=>exactλm x=>(qe _).symm|cons a l Z=>
  intro m x;induction m using aO with
  |nil=>induction x using aO with|nil=>rfl|cons x y=>exact(lC _).symm
  |cons b m=>induction x using aO with |nil=>rfl|cons x y=>
    show (a+b)*x+dot (ad l m) y=(a*x+dot l y)+(b*x+dot m y);rw[Z,Int.add_mul,wg,wg,Int.add_left_comm (b*x)]
theorem cg{a b c d:aq}(h:a=b)(k:c=d):a+c=b+d:=by rw[h,k]
theorem jd(k:aq)(l):∀x,dot (sc k l) x=k*dot l x:=by induction l with |nil=>exactλY=>(Int.mul_zero k).symm|cons a l Z=> intro x;induction x using aO with|nil=>exact(Int.mul_zero k).symm|cons x y=>exact(cg (Int.mul_assoc k a x) (Z y)).trans (qf k _ _).symm
theorem EK(i):∀x,dot (un i) x=Mm 0 x i:=by induction i with
 |zero=> intro x;induction x using aO with|nil=>rfl|cons x y=>exact(lC _).trans (Int.one_mul x)
 |succ i Z=> intro x;induction x using aO with|nil=>rfl|cons x y=>exact(cg (Int.zero_mul x) (Z y)).trans (qe _)
noncomputable def up:aa ah->aa aq:=gb [] λa Z l=>(a:aq)::l
theorem Kx(x:aa ah):∀i,Mm 0 (up x) i=((Mm 0 x i:ah):aq):=by induction x with |nil=>exactλY=>rfl|cons a l Z=>intro i;induction i using cJ with|zero=>rfl|succ i=>exact Z i
theorem EL(a b:aq):a-b=a+-1*b:=by rw[Int.neg_mul,Int.one_mul];rfl
theorem E.PN(x:aa ah)(e:E):dot e.f (1::up x)=((e.d x:ah):aq):=by induction e with |v i=>exact(cg (Int.zero_mul 1) ((EK i _).trans (Kx x i))).trans (qe _)|n k=>exact(lC _).trans (Int.mul_one k)|p a b Z Y=>exact(o_ _ _ _).trans (cg Z Y)|m k a Z=>exact(jd _ _ _).trans (bu ((k:aq)*·) Z)|r k a Z=>exact(jd _ _ _).trans ((bu ((k:aq)*·) Z).trans (Int.mul_comm _ _))|_=>rfl
theorem Pj(a b c d:aq):a+b+(c+d)=a+c+(b+d):=by rw[wg,Int.add_left_comm b,<-wg]
theorem E.PO(x:aa ah)(y:aa aq)(e:E):dot e.a (1::up x)+dot e.b y=e.z x y:=by induction e with |w i=>exact(qe _).trans (EK i y)|n k=>exact(lC _).trans ((lC _).trans (Int.mul_one k))|p a b Z Y=>exact(cg (o_ _ _ _) (o_ _ _ _)).trans ((Pj _ _ _ _).trans (cg Z Y))|s a b Z Y=>exact(cg (o_ _ _ _) (o_ _ _ _)).trans ((Pj _ _ _ _).trans ((cg Z ((cg (jd _ _ _) (jd _ _ _)).trans ((qf _ _ _).symm.trans (bu (-1*·) Y)))).trans (EL _ _).symm))|g a Z=>exact(cg (jd _ _ _) (jd _ _ _)).trans ((qf _ _ _).symm.trans ((bu (-1*·) Z).trans ((Int.neg_mul 1 _).trans (bu Neg.neg (Int.one_mul _)))))|m k a Z=>exact(cg (jd _ _ _) (jd _ _ _)).trans ((qf _ _ _).symm.trans (bu ((k:aq)*·) Z))|r k a Z=>exact(cg (jd _ _ _) (jd _ _ _)).trans ((qf _ _ _).symm.trans ((bu ((k:aq)*·) Z).trans (Int.mul_comm _ _)))|c a=>exact(lC _).trans (E.PN x a)|_=>rfl
noncomputable def neg:aa aq->aH:=gb aj λa Z b=>decide (a<=0)&&b
noncomputable def PR:aa aq->aH:=gb aj λa Z b=>decide (a=0)&&b
theorem Ky(l):∀x,neg l=aj->dot l (up x)<=0:=by induction l with |nil=>exactλZ Z=>Int.le_refl 0|cons a l Y=> intro x h;have h:=Bool.and_eq_true_iff.mp h;induction x using aO with|nil=>exact Int.le_refl 0|cons x y=>exact Int.add_le_add (Int.mul_nonpos_of_nonpos_of_nonneg (b3 h.1) (e6 x)) (Y y h.2)
theorem EM(l):∀x,PR l=aj->dot l x=0:=by induction l with|nil=>exactλZ Z=>rfl|cons a l Y=> intro x h;have h:=Bool.and_eq_true_iff.mp h;induction x using aO with|nil=>rfl|cons x y=>exact(cg ((bu (·*x) (b3 h.1)).trans (Int.zero_mul x)) (Y y h.2)).trans (qe 0)
noncomputable def low(k:aq):aa aq->aH:=gb (decide (0<k)) λa l Z=>decide (a<k)&&neg l
theorem EN{k:aq}{l:aa aq}{x:aa ah}(h:low k l=aj):dot l (1::up x)<k:=by induction l using aO with|nil=>exact b3 h|cons a l=> have h:=Bool.and_eq_true_iff.mp h;exact Int.lt_of_le_of_lt (Int.add_le_add_left (Ky l x h.2) _) (by rw[lC,Int.mul_one];exact b3 h.1)
section
variable(e:E->aq)(co:E->aa aq)
noncomputable def B5:aa E->aa ah->aq|l::r::t,Z=>(Z.headD 1:ah)*(e r-e l)+B5 t Z.tail|_,_=>0
noncomputable def LZ:aa E->aa ah->aa aq |l::r::t,Z=>ad (sc (Z.headD 1:ah) (ad (co r) (sc (-1) (co l)))) (LZ t Z.tail)|_,_=>[]
noncomputable def Hy(R:E->E->Prop)(G:Prop):aa E->Prop|l::r::t=>R l r->Hy R G t|_=>G
variable{e}{co}
theorem xC(x:aa aq)(h:∀a,dot (co a) x=e a):∀cs Z,dot (LZ co cs Z) x=B5 e cs Z |[],_=>rfl|[_],_=>rfl|l::r::t,Z=>(o_ _ _ _).trans (cg ((jd _ _ _).trans (bu (((Z.headD 1:ah):aq)*·) ((o_ _ _ _).trans ((cg (h r) ((jd _ _ _).trans (bu (-1*·) (h l)))).trans (EL _ _).symm)))) (xC x h t Z.tail))
theorem EO{R:E->E->Prop}(Y:∀l r,R l r->e l<=e r){G:Prop}:∀cs Z,(0<=B5 e cs Z->G)->Hy R G cs |[],_,h=>h (Int.le_refl 0)|[_],_,h=>h (Int.le_refl 0)|_::_::t,Z,h=>λq=>EO Y t Z.tail λX=>h (Int.add_nonneg (Int.mul_nonneg (e6 _) (Int.sub_nonneg_of_le (Y _ _ q))) X)
end
noncomputable def con(k:ah)(Z:aa ah):aa E->aa E×aa ah|l::r::t=>(r::l::t,k::Z)|t=>(t,Z)
theorem EP{a b D:aq}{k:ah}(h:k*(a-b)+D<k)(Y:0<=D):a<=b:=Int.not_lt.mp λg=>by
 have Z:(k:aq)*1<=k*(a-b):=Int.mul_le_mul_of_nonneg_left (Int.le_sub_left_of_add_le g) (e6 k);rw[Int.mul_one] at Z;exact Int.not_lt.mpr (Int.le_trans Z (Int.le_add_of_nonneg_right Y)) h
noncomputable def uH(e:E->E->Prop):aa E->Prop |l::r::t=>Hy e (e l r) t|_=>True
noncomputable def ER(k:ah)(Z:aa ah)(cs:aa E):aH:=low k (LZ E.f (con k Z cs).1 (con k Z cs).2)
theorem lY(x:aa ah)(k:ah)(Z:aa ah)(cs:aa E)(h:ER k Z cs=aj):uH (λl r=>l.d x<=r.d x) cs:=match cs,h with|[],_=>trivial|[_],_=>trivial|l::r::t,h=>EO (e:=λe=>((e.d x:ah):aq)) (λY Y=>Int.ofNat_le.mpr) t Z λq=>Int.ofNat_le.mp (EP (k:=k) (D:=B5 _ t Z) (by
  have h:=EN (x:=x) h;rw[xC _ (E.PN x)] at h;exact h) q)
noncomputable def SP(k:ah)(Z:aa ah)(cs:aa E):aH:=low k (LZ E.a (con k Z cs).1 (con k Z cs).2)&&PR (LZ E.b (con k Z cs).1 (con k Z cs).2)
theorem ES(x y:aa aq):∀cs Z,B5 (λe=>dot e.a x+dot e.b y) cs Z=B5 (λe=>dot e.a x) cs Z+B5 (λe=>dot e.b y) cs Z
 |[],_=>rfl|[_],_=>rfl|l::r::t,Z=>by
  show _*_+B5 _ t Z.tail=_*_+B5 _ t Z.tail+(_*_+B5 _ t Z.tail);rw[ES x y t Z.tail,Pj,<-qf];refine cg (bu _ ?_) rfl;rw[Int.sub_eq_add_neg,Int.neg_add,Pj];rfl
theorem bJ(x:aa ah)(y:aa aq)(k:ah)(Z:aa ah)(cs:aa E)(h:SP k Z cs=aj):uH (λl r=>l.z x y<=r.z x y) cs:=match cs,h with
 |[],_=>trivial|[_],_=>trivial|l::r::t,h=>EO (e:=E.z x y) (λY Y q=>q) t Z λq=>EP (k:=k) (D:=B5 _ t Z) (by
  have h:=Bool.and_eq_true_iff.mp h;have X:=EN (x:=x) h.1;have W:=EM _ y h.2;rw[xC _ λY=>rfl] at X W;have V:=ES (1::up x) y (r::l::t) (k::Z);rw[show (λe:E=>dot e.a (1::up x)+dot e.b y)=E.z x y from funext (E.PO x y)] at V;have U:=V.trans (bu (_+·) W);rw[lC] at U;show B5 (E.z x y) (r::l::t) (k::Z)<k;rw[U];exact X) q
noncomputable def cq(cs:aa E):aH:=PR (LZ E.f (con 1 [] cs).1 (con 1 [] cs).2)
theorem Jy{e:E->aq}{R:E->E->Prop}(Y:∀l r,R l r->e l=e r){G:Prop}:∀cs Z,(0=B5 e cs Z->G)->Hy R G cs |[],_,h=>h rfl|[_],_,h=>h rfl|_::_::t,Z,h=>λq=>Jy Y t Z.tail λX=>h ((qe 0).symm.trans (cg ((Int.mul_zero _).symm.trans (bu _ (Int.sub_self _).symm|>.trans (by rw[Y _ _ q]))) X))
theorem uJ(x:aa ah)(cs:aa E)(h:cq cs=aj):uH (λl r=>l.d x=r.d x) cs:=match cs,h with |[],_=>trivial|[_],_=>trivial|l::r::t,h=>Jy (e:=λe=>((e.d x:ah):aq)) (λZ Z=>bu _) t [] λq=>iz (by
  have h:=EM _ (1::up x) h;rw[xC _ (E.PN x)] at h;have h:(1:aq)*(((l.d x:ah):aq)-r.d x)+B5 _ t []=0:=h;rw[<-q,lC,Int.one_mul] at h;exact Int.eq_of_sub_eq_zero h)
theorem Qe{a b:ah}(h:a=b):a<=b:=cA h
theorem Qf{a b:ah}(h:a=b):b<=a:=cA h.symm
theorem Qj{a b:aq}(h:a=b):b<=a:=Int.le_of_eq h.symm
theorem Qn{a b:ah}(h:a<=b):(a:aq)<=b:=Int.ofNat_le.mpr h
theorem Qz{a b:ah}(h:(a:aq)<=b):a<=b:=Int.ofNat_le.mp h
theorem Qx{G:Prop}(h:1<=0):G:=(Nat.not_succ_le_zero 0 h).elim
theorem Qa{a b:ah}(h:¬a<=b):b<a:=r8 h
theorem Qb{a b:ah}(h:¬a<b):b<=a:=ff h
theorem Qc{a b:aq}(h:¬a<=b):b<a:=Int.not_le.mp h
theorem Qd{a b:aq}(h:¬a<b):b<=a:=Int.not_lt.mp h
theorem Qp{a:ah}(h:¬a=0):1<=a:=oO h
theorem Qs{a b:ah}(h:a+1<=b):a<b:=h
theorem Qt{a b:ah}(h:a<b):a+1<=b:=h
theorem Q0{a b:ah}:a-b<=a:=kg a b
theorem Q1{a b:ah}:a<=a-b+b:=Nat.sub_le_iff_le_add.mp (bf _)
theorem Q2{a b:ah}(h:b<=a):a-b+b<=a:=cA (Nat.sub_add_cancel h)
theorem Q3{a b:ah}(h:a<=b):a-b<=0:=cA (r9 h)
theorem Q4{a:aq}:a<=a.toNat:=Int.self_le_toNat a
theorem Q5{a:aq}(h:0<=a):a.toNat<=a:=Int.le_of_eq (Int.toNat_of_nonneg h)
noncomputable abbrev V0:E:=.v 0
noncomputable abbrev W0:E:=.w 0
noncomputable abbrev V1:E:=.v 1
noncomputable abbrev V2:E:=.v 2
noncomputable abbrev V3:E:=.v 3
noncomputable abbrev V4:E:=.v 4
noncomputable abbrev V5:E:=.v 5
noncomputable abbrev V6:E:=.v 6
noncomputable abbrev V7:E:=.v 7
noncomputable abbrev V8:E:=.v 8
noncomputable abbrev V9:E:=.v 9
theorem Z0(cs)(Z:ER 1 [] cs=aj):uH (λl r=>l.d []<=r.d []) cs:=lY [] 1 [] cs Z
theorem Z1{a:ah}(cs)(Z:ER 1 [] cs=aj):uH (λl r=>l.d [a]<=r.d [a]) cs:=lY [a] 1 [] cs Z
theorem H6{a:ah}(cs)(Z:cq cs=aj):uH (λl r=>l.d [a]=r.d [a]) cs:=uJ [a] cs Z
theorem Z2{a b:ah}(cs)(Z:ER 1 [] cs=aj):uH (λl r=>l.d [a,b]<=r.d [a,b]) cs:=lY [a,b] 1 [] cs Z
theorem lZ{a b:ah}(cs)(Z:cq cs=aj):uH (λl r=>l.d [a,b]=r.d [a,b]) cs:=uJ [a,b] cs Z
theorem Z3{a b c:ah}(cs)(Z:ER 1 [] cs=aj):uH (λl r=>l.d [a,b,c]<=r.d [a,b,c]) cs:=lY [a,b,c] 1 [] cs Z
theorem Ac{a b c:ah}(cs)(Z:cq cs=aj):uH (λl r=>l.d [a,b,c]=r.d [a,b,c]) cs:=uJ [a,b,c] cs Z
theorem Z4{a b c d:ah}(cs)(Z:ER 1 [] cs=aj):uH (λl r=>l.d [a,b,c,d]<=r.d [a,b,c,d]) cs:=lY [a,b,c,d] 1 [] cs Z
theorem vh{a b c d:ah}(cs)(Z:cq cs=aj):uH (λl r=>l.d [a,b,c,d]=r.d [a,b,c,d]) cs:=uJ [a,b,c,d] cs Z
theorem Z5{a b c d e:ah}(cs)(Z:ER 1 [] cs=aj):uH (λl r=>l.d [a,b,c,d,e]<=r.d [a,b,c,d,e]) cs:=lY [a,b,c,d,e] 1 [] cs Z
theorem L0{a b c d e:ah}(cs)(Z:cq cs=aj):uH (λl r=>l.d [a,b,c,d,e]=r.d [a,b,c,d,e]) cs:=uJ [a,b,c,d,e] cs Z
theorem Z6{a b c d e f:ah}(cs)(Z:ER 1 [] cs=aj):uH (λl r=>l.d [a,b,c,d,e,f]<=r.d [a,b,c,d,e,f]) cs:=lY [a,b,c,d,e,f] 1 [] cs Z
theorem Mn{a b c d e f:ah}(cs)(Z:cq cs=aj):uH (λl r=>l.d [a,b,c,d,e,f]=r.d [a,b,c,d,e,f]) cs:=uJ [a,b,c,d,e,f] cs Z
theorem Z7{a b c d e f h:ah}(cs)(Z:ER 1 [] cs=aj):uH (λl r=>l.d [a,b,c,d,e,f,h]<=r.d [a,b,c,d,e,f,h]) cs:=lY [a,b,c,d,e,f,h] 1 [] cs Z
theorem R6{a b c d e f h:ah}(cs)(Z:cq cs=aj):uH (λl r=>l.d [a,b,c,d,e,f,h]=r.d [a,b,c,d,e,f,h]) cs:=uJ [a,b,c,d,e,f,h] cs Z
theorem Z8{a b c d e f h i:ah}(cs)(Z:ER 1 [] cs=aj):uH (λl r=>l.d [a,b,c,d,e,f,h,i]<=r.d [a,b,c,d,e,f,h,i]) cs:=lY [a,b,c,d,e,f,h,i] 1 [] cs Z
theorem L1{a b c d e f h i:ah}(cs)(Z:cq cs=aj):uH (λl r=>l.d [a,b,c,d,e,f,h,i]=r.d [a,b,c,d,e,f,h,i]) cs:=uJ [a,b,c,d,e,f,h,i] cs Z
theorem Z9{a b c d e f h i j:ah}(cs)(Z:ER 1 [] cs=aj):uH (λl r=>l.d [a,b,c,d,e,f,h,i,j]<=r.d [a,b,c,d,e,f,h,i,j]) cs:=lY [a,b,c,d,e,f,h,i,j] 1 [] cs Z
end
end cZ
end
section
open PySem PySem.W PySem.W.X PyProof.Rows
namespace cZ
noncomputable abbrev pw:fO:=PySem.Challenge.pw_ik0101_01
noncomputable def p0:a_:=⟨0,0,0,0⟩
noncomputable def tS(i:ah):bH:=pw.main.body.getD i (.Pass p0)
noncomputable def ck:bH->aa bH|.FunctionDef _ _ b _ _ _ _ _ _ _=>b|.ClassDef _ _ _ b _ _ _ _ _ _ _=>b|_=>[]
noncomputable def ET:bH->Arguments|.FunctionDef _ a _ _ _ _ _ _ _ _=>a|_=>⟨[],[],none,[],[],none,[]⟩
noncomputable def B6:bH->aU|.FunctionDef _ _ _ _ _ _ s _ _ _=>s|.ClassDef _ _ _ _ _ _ s _ _ _ _=>s|_=>⟨.function,[],aC,aC,[]⟩
noncomputable def jP(s:bH)(j:ah):bH:=(ck s).getD j (.Pass p0)
noncomputable def PS:aF->ai |.Constant (.str s) _ _=>s|_=>Str.empty
noncomputable def PT:bH->ai|.Expr e _=>PS e|_=>Str.empty
noncomputable def docOf(s:bH):ai:=PT (jP s 0)
noncomputable def EU(d:ai):bH->bH |.ClassDef Y X W (.Expr (.Constant _ k q) r::body) dl V sc U b Z p=>.ClassDef Y X W (.Expr (.Constant (.str d) k q) r::body) dl V sc U b Z p|s=>s
noncomputable def de(P:ez)(k:ai)(t:Tok)(v:ao):DictEntry:=⟨PySem.PyData.keyHash P k,.str k t,v⟩
noncomputable def lf(o:aR):BT:=.node o .nil .nil
noncomputable def nd(o:aR)(l r:BT):BT:=.node o l r
noncomputable def Ad:aR:=⟨.type "tuple",none,.seq ⟨[]⟩ 0,⟨[]⟩⟩
noncomputable def Ae(l:aa ao):aR:=⟨.type "tuple",none,.seq ⟨l⟩ 0,⟨[]⟩⟩
noncomputable def HR(l:aa ao):aR:=⟨.none,none,.fields ⟨l⟩,⟨[]⟩⟩
noncomputable def uE(c:cj)(l:aa ao):aR:=⟨.type c,none,.fields ⟨l⟩,⟨[]⟩⟩
noncomputable def yE(P:ez)(n:ah)(l:aa (ai×Tok×ao)):aR:=⟨.type "dict",none,.dict ⟨l.map λx=>de P x.1 x.2.1 x.2.2⟩ n,⟨[]⟩⟩
noncomputable def L2(a b:ah)(v:ao):aR:=⟨.type "frame",none,.plain,⟨[af (.ref a),af (.ref 3),af (.ref b),none,af v,none,af (.ref 0)]⟩⟩
noncomputable def L3:aa ai->ah->aa ao |[],_=>[]|s::l,k=>.str s k::L3 l (k+1)
noncomputable def Mq(k:ah):ao:=.str "/claim/cut.py" k
noncomputable def PU(Z q:ai)(s:bH):aR:=⟨.none,none,.func ⟨Z,q,ET s,.stmts (ck s),B6 s,0,[],.none,.none,.none,.none,none,.none,.none,0⟩,⟨[]⟩⟩
noncomputable def Ej(Z q:ai)(s:bH)(c:aa (ai×az))(u v d m:ao)(y:aA az)(a:ah)(w:ao):aR:=⟨.type "function",none,.func ⟨Z,q,ET s,.stmts (ck s),B6 s,3,c,u,v,d,m,y,.ref a,w,0⟩,⟨[]⟩⟩
noncomputable def Jz(Z q:ai)(k:ah)(i c e f g:aq)(b:aH)(a1 a2:ah)(u v w:ao)(n:ah):aR:=uE "code" [.str Z k,.str q (k+1),Mq (k+2),.int i 0,.int c 0,.int e 0,.int f 0,.int g 0,.ref a1,.bool b,.int 181 0,.ref a2,.none,u,v,w,.int n 0,.int i 0,Mq (n+1)]
noncomputable def PW(Z q:ai)(s:bH)(a k:ah)(i c e f g:aq)(l:aa ai)(r:aa aR):aa aR:=Ad::HR []::Ae (L3 l (k+3))::Ad::PU Z q s::Jz Z q k i c e f g aj a (a+1) (.ref (a+2)) (.ref (a+3)) (.ref (a+4)) (k+3+l.length)::r
noncomputable def JA(Z q:ai)(s:bH)(a k:ah)(i c:aq)(l:aa ai)(r:aa aR):aa aR:=PW Z q s a k i c 0 0 3 l r
noncomputable def qG(m:ao)(Z q:ai)(s:bH)(a k:ah)(i c:aq)(l:aa ai)(r:aa aR):aa aR:=JA Z q s a k i c l (Ej Z q s [] .none .none .none m none (a+5) .none::r)
noncomputable def EV(m:ao)(Z q:ai)(s:bH)(a k:ah)(i c:aq)(l:aa ai)(r:aa aR):aa aR:=JA Z q s a k i c l (Ej Z q s [] .none .none (.str (docOf s) (k+5+l.length)) m none (a+5) .none::r)
noncomputable def PX(m:ao)(Z:ai)(s:bH)(a k:ah)(i:aq)(d:ao)(r:aa aR):aa aR:=Ad::HR []::PU Z Z s::Jz Z Z k i 1 0 0 3 aj a (a+1) .none .none (.ref (a+2)) (k+3)::Ej Z Z s [] .none .none d m none (a+3) .none::r
noncomputable def Pk(P:ez)(s:ai)(k n:ah)(l:aa (ai×Tok×ao)):aR:=yE P n (("__name__",165,.str s k)::l.take (n-1))
noncomputable def R7:aa aR->ah->BT->BT |[],_,t=>t|o::l,n,t=>R7 l (n+1) (t.ins n o)
noncomputable def hm1:ao:=.str "__main__" 164
noncomputable def hm2:ao:=.str "cpy313.difflib" 194
noncomputable def L4:ao:=.str "binascii" 575
noncomputable def R8:ao:=.str "cpy313.base64" 609
noncomputable def SQ:ao:=.str "os" 634
noncomputable def JB:ao:=.str "abc" 645
noncomputable def Kz:ao:=.str "collections.abc" 671
noncomputable def SR:ao:=.str "os" 721
noncomputable def SS:ao:=.str "cpy313.genericpath" 733
noncomputable def KA:ao:=.str "cpy313.posixpath" 746
noncomputable def uK:ao:=.str "law_ik0101_01" 781
noncomputable def SV(d:ai)(P:ez):aa aR:=qG hm1 "_wall" "_wall" (tS 0) 15 187 1 1 ["k"] (Ad::uE "builtin_function_or_method" [.builtin "type.__prepare__",.type "type"]::yE P 8 [("__module__",203,hm2),("__qualname__",205,.str "_tuplegetter" 204),("__firstlineno__",207,.int 5 206),("__init__",216,.ref 35),("__get__",225,.ref 43),("__set__",234,.ref 50),("__delete__",242,.ref 57),("__static_attributes__",245,.ref 58)]::Ad::HR [.int 7 0,.int 4 0,.ref 34,.int 11 0,.int 4 0,.ref 42,.int 18 0,.int 4 0,.ref 49,.int 21 0,.int 4 0,.ref 56]::Jz "_tuplegetter" "_tuplegetter" 198 5 0 0 0 0 aC 25 26 .none .none .none 201::L2 27 24 hm2::qG hm2 "__init__" "_tuplegetter.__init__" (jP (tS 2) 0) 29 208 7 3 ["self","index","doc"] (Ae [.none]::JA "__get__" "_tuplegetter.__get__" (jP (tS 2) 1) 37 217 11 3 ["self","obj","objtype"] (Ej "__get__" "_tuplegetter.__get__" (jP (tS 2) 1) [] (.ref 36) .none .none hm2 none 42 .none::qG hm2 "__set__" "_tuplegetter.__set__" (jP (tS 2) 2) 44 226 18 3 ["self","obj","value"] (qG hm2 "__delete__" "_tuplegetter.__delete__" (jP (tS 2) 3) 51 235 21 2 ["self","obj"] (Ae [.str "__doc__" 243,.str "index" 244]::yE P 4 [("__module__",203,hm2),("__firstlineno__",207,.int 5 206),("__init__",216,.ref 35),("__get__",225,.ref 43),("__set__",234,.ref 50),("__delete__",242,.ref 57),("__static_attributes__",245,.ref 58),("__dict__",247,.ref 61),("__weakref__",249,.ref 62),("__doc__",250,.none)]::⟨.type "type",none,.cls ⟨"_tuplegetter",[.type "object"],[.ref 60,.type "object"],59,"_tuplegetter",aj,[],[],aC,none,aC⟩,⟨[none,none,af (.str "_tuplegetter" 196),af (.str "_tuplegetter" 204),af (.builtin "object.__new__"),af (.bool aj)]⟩⟩::uE "getset_descriptor" [.str "__dict__" 246,.ref 60,.builtin "function.__dict__",.builtin "function.__dict__#set"]::uE "getset_descriptor" [.str "__weakref__" 248,.ref 60,.builtin "ExceptionGroup.__weakref__",.none]::uE "super" [.ref 60,.ref 60,.ref 60]::uE "builtin_function_or_method" [.builtin "object.__init_subclass__",.ref 60]::Ae [.type "tuple"]::uE "builtin_function_or_method" [.builtin "type.__prepare__",.type "type"]::yE P 20 [("__module__",260,hm2),("__qualname__",262,.str "Match" 261),("__firstlineno__",264,.int 23 263),("__doc__",266,.str (docOf (tS 3)) 265),("__slots__",268,.ref 73),("_fields",272,.ref 74),("_field_defaults",273,.ref 75),("__new__",284,.ref 82),("_make",306,.ref 91),("_replace",317,.ref 100),("__replace__",318,.ref 100),("__repr__",326,.ref 107),("_asdict",333,.ref 114),("__getnewargs__",341,.ref 121),("__match_args__",345,.ref 122),("a",355,.ref 124),("b",365,.ref 127),("size",375,.ref 130),("__static_attributes__",376,.ref 132),("__classcell__",377,.ref 68)]::⟨.type "cell",none,.cell (af (.ref 135)),⟨[]⟩⟩::Ad::HR [.int 29 0,.int 4 0,.ref 81,.int 34 0,.int 4 0,.ref 88,.int 41 0,.int 4 0,.ref 99,.int 52 0,.int 4 0,.ref 106,.int 56 0,.int 4 0,.ref 113,.int 59 0,.int 4 0,.ref 120]::Jz "Match" "Match" 255 23 0 0 0 0 aC 69 70 .none .none .none 258::L2 71 67 hm2::Ad::Ae (L3 ["a","b","size"] 269)::yE P 0 []::EV hm2 "__new__" "Match.__new__" (jP (tS 3) 4) 76 274 29 4 ["_cls","a","b","size"] (JA "_make" "Match._make" (jP (tS 3) 5) 83 285 33 2 ["cls","iterable","result"] (Ej "_make" "Match._make" (jP (tS 3) 5) [] .none .none (.str (docOf (jP (tS 3) 5)) 293) hm2 (af 92) 88 .none::yE P 5 [("__module__",295,hm2),("__name__",298,.str "_make" 297),("__qualname__",301,.str "Match._make" 300),("__doc__",303,.str (docOf (jP (tS 3) 5)) 293),("__annotations__",305,.ref 92)]::⟨.type "classmethod",af 90,.fields ⟨[.ref 89,.bool aC]⟩,⟨[]⟩⟩::yE P 0 []::Ae [.ref 68]::Ae [.str "__class__" 310]::HR []::Ae (L3 ["self","kwds","result"] 311)::Ad::PU "_replace" "Match._replace" (jP (tS 3) 6)::Jz "_replace" "Match._replace" 307 41 1 1 0 11 aj 94 95 (.ref 96) (.ref 97) (.ref 98) 314::Ej "_replace" "Match._replace" (jP (tS 3) 6) [("__class__",68)] .none .none (.str (docOf (jP (tS 3) 6)) 316) hm2 none 99 (.ref 93)::EV hm2 "__repr__" "Match.__repr__" (jP (tS 3) 8) 101 319 52 1 ["self"] (qG hm2 "_asdict" "Match._asdict" (jP (tS 3) 9) 108 327 56 1 ["self"] (EV hm2 "__getnewargs__" "Match.__getnewargs__" (jP (tS 3) 10) 115 334 59 1 ["self"] (Ae (L3 ["a","b","size"] 342)::yE P 2 [("index",352,.int 0 346),("__doc__",354,.str "Alias for field number 0" 347)]::⟨.ref 60,af 123,.plain,⟨[]⟩⟩::⟨.type "frame",none,.dict ⟨[(de P "self" 348 (.ref 124)),(de P "index" 349 (.int 0 346)),(de P "doc" 350 (.str "Alias for field number 0" 347))]⟩ 3,⟨[]⟩⟩::yE P 2 [("index",362,.int 1 356),("__doc__",364,.str "Alias for field number 1" 357)]::⟨.ref 60,af 126,.plain,⟨[]⟩⟩::⟨.type "frame",none,.dict ⟨[(de P "self" 358 (.ref 127)),(de P "index" 359 (.int 1 356)),(de P "doc" 360 (.str "Alias for field number 1" 357))]⟩ 3,⟨[]⟩⟩::yE P 2 [("index",372,.int 2 366),("__doc__",374,.str "Alias for field number 2" 367)]::⟨.ref 60,af 129,.plain,⟨[]⟩⟩::⟨.type "frame",none,.dict ⟨[(de P "self" 368 (.ref 130)),(de P "index" 369 (.int 2 366)),(de P "doc" 370 (.str "Alias for field number 2" 367))]⟩ 3,⟨[]⟩⟩::Ad::⟨.type "list",none,.seq ⟨[]⟩ 0,⟨[]⟩⟩::yE P 2 [("__module__",260,hm2),("__firstlineno__",264,.int 23 263),("__doc__",266,.str (docOf (tS 3)) 265),("__slots__",268,.ref 73),("_fields",272,.ref 74),("_field_defaults",273,.ref 75),("__new__",284,.ref 136),("_make",306,.ref 91),("_replace",317,.ref 100),("__replace__",318,.ref 100),("__repr__",326,.ref 107),("_asdict",333,.ref 114),("__getnewargs__",341,.ref 121),("__match_args__",345,.ref 122),("a",355,.ref 124),("b",365,.ref 127),("size",375,.ref 130),("__static_attributes__",376,.ref 132)]::⟨.type "type",none,.cls ⟨"Match",[.type "tuple"],[.ref 135,.type "tuple",.type "object"],134,"Match",aC,[],[],aC,none,aC⟩,⟨[af (.ref 65),none,af (.str "Match" 253),af (.str "Match" 261),af .none,af (.bool aC)]⟩⟩::uE "staticmethod" [.ref 82]::uE "super" [.ref 135,.ref 135,.ref 135]::uE "builtin_function_or_method" [.builtin "object.__init_subclass__",.ref 135]::qG hm2 "_calculate_ratio" "_calculate_ratio" (tS 4) 139 381 66 2 ["matches","length"] (Ad::uE "builtin_function_or_method" [.builtin "type.__prepare__",.type "type"]::yE P 17 [("__module__",396,hm2),("__qualname__",398,.str "SequenceMatcher" 397),("__firstlineno__",400,.int 70 399),("__doc__",402,.str d 401),("__init__",417,.ref 160),("set_seqs",427,.ref 167),("set_seq1",436,.ref 174),("set_seq2",445,.ref 181),("_SequenceMatcher__chain_b",463,.ref 188),("find_longest_match",491,.ref 196),("get_matching_blocks",518,.ref 203),("get_opcodes",525,.ref 210),("get_grouped_opcodes",534,.ref 218),("ratio",543,.ref 225),("quick_ratio",550,.ref 232),("real_quick_ratio",557,.ref 239),("__static_attributes__",568,.ref 240)]::Ad::HR [.int 145 0,.int 4 0,.ref 159,.int 173 0,.int 4 0,.ref 166,.int 184 0,.int 4 0,.ref 173,.int 209 0,.int 4 0,.ref 180,.int 236 0,.int 4 0,.ref 187,.int 260 0,.int 4 0,.ref 195,.int 335 0,.int 4 0,.ref 202,.int 383 0,.int 4 0,.ref 209,.int 386 0,.int 4 0,.ref 217,.int 389 0,.int 4 0,.ref 224,.int 413 0,.int 4 0,.ref 231,.int 416 0,.int 4 0,.ref 238]::Jz "SequenceMatcher" "SequenceMatcher" 391 70 0 0 0 0 aC 149 150 .none .none .none 394::L2 151 148 hm2::Ae [.none,.str "" 404,.str "" 405,.bool aj]::JA "__init__" "SequenceMatcher.__init__" (jP (tS 5) 1) 154 406 145 5 ["self","isjunk","a","b","autojunk"] (Ej "__init__" "SequenceMatcher.__init__" (jP (tS 5) 1) [] (.ref 153) .none (.str (docOf (jP (tS 5) 1)) 416) hm2 none 159 .none::EV hm2 "set_seqs" "SequenceMatcher.set_seqs" (jP (tS 5) 2) 161 418 173 3 ["self","a","b"] (EV hm2 "set_seq1" "SequenceMatcher.set_seq1" (jP (tS 5) 3) 168 428 184 2 ["self","a"] (EV hm2 "set_seq2" "SequenceMatcher.set_seq2" (jP (tS 5) 4) 175 437 209 2 ["self","b"] (qG hm2 "__chain_b" "SequenceMatcher.__chain_b" (jP (tS 5) 5) 182 446 236 1 ["self","b","b2j","i","elt","indices","junk","isjunk","popular","n","ntest","idxs"] (Ae [.int 0 464,.none,.int 0 465,.none]::JA "find_longest_match" "SequenceMatcher.find_longest_match" (jP (tS 5) 6) 190 466 260 5 ["self","alo","ahi","blo","bhi","a","b","b2j","isbjunk","besti","bestj","bestsize","j2len","nothing","i","j2lenget","newj2len","j","k"] (Ej "find_longest_match" "SequenceMatcher.find_longest_match" (jP (tS 5) 6) [] (.ref 189) .none (.str (docOf (jP (tS 5) 6)) 490) hm2 none 195 .none::EV hm2 "get_matching_blocks" "SequenceMatcher.get_matching_blocks" (jP (tS 5) 7) 197 492 335 1 ["self","la","lb","queue","matching_blocks","alo","ahi","blo","bhi","i","j","k","x","i1","j1","k1","non_adjacent","i2","j2","k2"] (qG hm2 "get_opcodes" "SequenceMatcher.get_opcodes" (jP (tS 5) 8) 204 519 383 1 ["self"] (Ae [.int 3 526]::JA "get_grouped_opcodes" "SequenceMatcher.get_grouped_opcodes" (jP (tS 5) 9) 212 527 386 2 ["self","n"] (Ej "get_grouped_opcodes" "SequenceMatcher.get_grouped_opcodes" (jP (tS 5) 9) [] (.ref 211) .none .none hm2 none 217 .none::EV hm2 "ratio" "SequenceMatcher.ratio" (jP (tS 5) 10) 219 535 389 1 ["self","matches"] (qG hm2 "quick_ratio" "SequenceMatcher.quick_ratio" (jP (tS 5) 11) 226 544 413 1 ["self"] (qG hm2 "real_quick_ratio" "SequenceMatcher.real_quick_ratio" (jP (tS 5) 12) 233 551 416 1 ["self"] (Ae (L3 ["a","autojunk","b","b2j","bjunk","bpopular","fullbcount","isjunk","matching_blocks","opcodes"] 558)::yE P 3 [("__module__",396,hm2),("__firstlineno__",400,.int 70 399),("__doc__",402,.str d 401),("__init__",417,.ref 160),("set_seqs",427,.ref 167),("set_seq1",436,.ref 174),("set_seq2",445,.ref 181),("_SequenceMatcher__chain_b",463,.ref 188),("find_longest_match",491,.ref 196),("get_matching_blocks",518,.ref 203),("get_opcodes",525,.ref 210),("get_grouped_opcodes",534,.ref 218),("ratio",543,.ref 225),("quick_ratio",550,.ref 232),("real_quick_ratio",557,.ref 239),("__static_attributes__",568,.ref 240),("__dict__",570,.ref 243),("__weakref__",572,.ref 244)]::⟨.type "type",none,.cls ⟨"SequenceMatcher",[.type "object"],[.ref 242,.type "object"],241,"SequenceMatcher",aj,[],[],aC,none,aC⟩,⟨[none,none,af (.str "SequenceMatcher" 389),af (.str "SequenceMatcher" 397),af (.builtin "object.__new__"),af (.bool aj)]⟩⟩::uE "getset_descriptor" [.str "__dict__" 569,.ref 242,.builtin "function.__dict__",.builtin "function.__dict__#set"]::uE "getset_descriptor" [.str "__weakref__" 571,.ref 242,.builtin "ExceptionGroup.__weakref__",.none]::uE "super" [.ref 242,.ref 242,.ref 242]::uE "builtin_function_or_method" [.builtin "object.__init_subclass__",.ref 242]::qG L4 "_buffer" "_buffer" (tS 7) 247 577 419 1 ["data","t"] (qG L4 "_truth" "_truth" (tS 8) 254 585 426 1 ["x","t"] (yE P 1 [("newline",595,.bool aj)]::PW "b2a_base64" "b2a_base64" (tS 10) 262 596 432 1 1 1 3 ["data","newline","bin_data","out","leftbits","leftchar","b"] (Ej "b2a_base64" "b2a_base64" (tS 10) [] .none (.ref 261) .none L4 none 267 .none::Ae [.none]::JA "b64encode" "b64encode" (tS 12) 270 611 455 2 ["s","altchars","encoded"] (Ej "b64encode" "b64encode" (tS 12) [] (.ref 269) .none (.str (docOf (tS 12)) 619) R8 none 275 .none::EV R8 "urlsafe_b64encode" "urlsafe_b64encode" (tS 14) 277 626 468 1 ["s"] (qG SQ "_plain_name" "_plain_name" (tS 16) 284 636 477 2 ["x","what","kind"] (Ae [.type "type"]::uE "builtin_function_or_method" [.builtin "type.__prepare__",.type "type"]::yE P 5 [("__module__",654,JB),("__qualname__",656,.str "ABCMeta" 655),("__firstlineno__",658,.int 483 657),("register",666,.ref 304),("__static_attributes__",667,.ref 305)]::Ad::HR [.int 485 0,.int 4 0,.ref 303]::Jz "ABCMeta" "ABCMeta" 649 483 0 0 0 0 aC 294 295 .none .none .none 652::L2 296 293 JB::qG JB "register" "ABCMeta.register" (jP (tS 18) 0) 298 659 485 2 ["cls","subclass"] (Ad::yE P 2 [("__module__",654,JB),("__firstlineno__",658,.int 483 657),("register",666,.ref 304),("__static_attributes__",667,.ref 305),("__doc__",668,.none)]::⟨.type "type",none,.cls ⟨"ABCMeta",[.type "type"],[.ref 307,.type "type",.type "object"],306,"ABCMeta",aj,[],[.ref 340],aC,none,aC⟩,⟨[af (.ref 291),none,af (.str "ABCMeta" 647),af (.str "ABCMeta" 655),af (.builtin "type.__new__"),af (.bool aj)]⟩⟩::uE "super" [.ref 307,.ref 307,.ref 307]::uE "builtin_function_or_method" [.builtin "object.__init_subclass__",.ref 307]::Ae [.ref 307]::uE "builtin_function_or_method" [.builtin "type.__prepare__",.type "type"]::yE P 7 [("__module__",680,Kz),("__qualname__",682,.str "_ABCLike" 681),("__firstlineno__",684,.int 488 683),("__instancecheck__",693,.ref 323),("__subclasscheck__",701,.ref 330),("register",709,.ref 337),("__static_attributes__",710,.ref 338)]::Ad::HR [.int 490 0,.int 4 0,.ref 322,.int 496 0,.int 4 0,.ref 329,.int 501 0,.int 4 0,.ref 336]::Jz "_ABCLike" "_ABCLike" 675 488 0 0 0 0 aC 313 314 .none .none .none 678::L2 315 312 Kz::qG Kz "__instancecheck__" "_ABCLike.__instancecheck__" (jP (tS 20) 0) 317 685 490 2 ["cls","instance","C"] (qG Kz "__subclasscheck__" "_ABCLike.__subclasscheck__" (jP (tS 20) 1) 324 694 496 2 ["cls","C"] (qG Kz "register" "_ABCLike.register" (jP (tS 20) 2) 331 702 501 2 ["cls","subclass"] (Ad::yE P 2 [("__module__",680,Kz),("__firstlineno__",684,.int 488 683),("__instancecheck__",693,.ref 323),("__subclasscheck__",701,.ref 330),("register",709,.ref 337),("__static_attributes__",710,.ref 338),("__doc__",711,.none)]::⟨.type "type",none,.cls ⟨"_ABCLike",[.ref 307],[.ref 340,.ref 307,.type "type",.type "object"],339,"_ABCLike",aj,[],[],aC,none,aC⟩,⟨[af (.ref 310),none,af (.str "_ABCLike" 673),af (.str "_ABCLike" 681),af (.builtin "type.__new__"),af (.bool aj)]⟩⟩::uE "super" [.ref 340,.ref 340,.ref 340]::uE "builtin_function_or_method" [.builtin "object.__init_subclass__",.ref 340]::qG Kz "_abc_plain_meta" "_abc_plain_meta" (tS 21) 343 714 503 1 ["C"] (qG SR "fspath" "fspath" (tS 23) 350 723 507 1 ["path","kind","hook","given"] (PW "_check_arg_types" "_check_arg_types" (tS 25) 357 735 524 1 0 0 7 ["funcname","args","hasstr","hasbytes","s"] (Ej "_check_arg_types" "_check_arg_types" (tS 25) [] .none .none .none SS none 362 .none::EV KA "splitroot" "splitroot" (tS 27) 364 748 536 1 ["p","sep","empty"] (EV KA "normpath" "normpath" (tS 28) 371 758 553 1 ["path","sep","dot","dotdot","_","initial_slashes","comps","new_comps","comp"] (PX KA "commonpath" (tS 29) 378 774 579 (.str (docOf (tS 29)) 779) (qG uK "_law_written" "_law_written" (tS 31) 383 783 610 1 ["octets","signs","number","octet","size","word","at"] (qG uK "_law_octets" "_law_octets" (tS 32) 390 796 621 2 ["place","number","rest"] (qG uK "_law_gap" "_law_gap" (tS 33) 397 805 624 1 ["number","nothing"] (qG uK "_law_junk" "_law_junk" (tS 34) 404 813 629 1 ["piece"] (qG uK "_law_alike" "_law_alike" (tS 35) 411 820 631 2 ["one","two","size"] (qG uK "_law_run" "_law_run" (tS 36) 418 829 636 3 ["gaps","k","step","size","at"] (qG uK "_law_taken" "_law_taken" (tS 37) 425 840 643 2 ["gaps","k","one","two","front","end"] (PX uK "_law_pairs" (tS 38) 432 852 654 .none (qG uK "_law_blocks" "_law_blocks" (tS 39) 437 858 669 1 ["pairs","blocks","i","j"] (PX uK "law" (tS 40) 444 868 677 .none ([])))))))))))))))))))))))))))))))))))))))))))))))))
noncomputable def EW:ah->ah->aa dQ|_,0=>[]|a,n+1=>(UInt8.ofNat a)::EW (a+1) n
noncomputable def hNs:aa (ai×Tok×ao):=("__doc__",166,.none)::("__package__",167,.none)::("__loader__",168,.builtin "__main__.__loader__#opaque")::("__spec__",169,.none)::("__annotations__",170,.ref 6)::("__builtins__",171,.ref 4)::("__file__",173,.str "/claim/cut.py" 172)::("__cached__",174,.none)::("_wall",193,.ref 21)::("_tuplegetter",252,.ref 60)::("Match",380,.ref 135)::("_calculate_ratio",388,.ref 145)::("SequenceMatcher",574,.ref 242)::("_buffer",584,.ref 253)::("_truth",592,.ref 260)::("_B64",594,.bytes ⟨EW 65 26++EW 97 26++EW 48 10++EW 43 1++EW 47 1⟩ 593)::("b2a_base64",608,.ref 268)::("b64encode",620,.ref 276)::("_urlsafe_encode_translation",625,.bytes ⟨EW 0 43++EW 45 1++EW 44 3++EW 95 1++EW 48 208⟩ 624)::("urlsafe_b64encode",633,.ref 283)::("_plain_name",644,.ref 290)::("ABCMeta",670,.ref 307)::("_ABCLike",713,.ref 340)::("_abc_plain_meta",720,.ref 349)::("fspath",732,.ref 356)::("_check_arg_types",745,.ref 363)::("splitroot",757,.ref 370)::("normpath",773,.ref 377)::("commonpath",780,.ref 382)::("_law_written",795,.ref 389)::("_law_octets",804,.ref 396)::("_law_gap",812,.ref 403)::("_law_junk",819,.ref 410)::("_law_alike",828,.ref 417)::("_law_run",839,.ref 424)::("_law_taken",851,.ref 431)::("_law_pairs",857,.ref 436)::("_law_blocks",867,.ref 443)::("law",873,.ref 448)::[]
noncomputable def SW:aa ao:=[(1,20),(5,27),(23,71),(66,144),(70,151),(419,252),(426,259),(432,267),(455,275),(468,282),(477,289),(483,296),(488,315),(503,348),(507,355),(524,362),(536,369),(553,376),(579,381),(610,388),(621,395),(624,402),(629,409),(631,416),(636,423),(643,430),(654,435),(669,442),(677,447)].flatMap λx=>[.int x.1 0,.int 0 0,.ref x.2]
noncomputable def t0(P:ez):BT:=(nd (PySem.W.boot_o_0 P) (nd (PySem.W.boot_o_1 P) (nd (PySem.W.boot_o_3 P) (lf (PySem.W.boot_o_7 P)) (lf Ad)) (nd (PySem.W.boot_o_5 P) (lf (PySem.W.boot_o_9 P)) (lf (uE "code" [.str "<module>" 182,.str "<module>" 183,.str "/claim/cut.py" 184,.int 1 0,.int 0 0,.int 0 0,.int 0 0,.int 0 0,.ref 11,.bool aC,.int 181 0,.ref 12,.none,.none,.none,.none,.int 185 0,.int 1 0,.str "/claim/cut.py" 186])))) (nd (PySem.W.boot_o_2 P) (nd (PySem.W.boot_o_4 P) (lf (PySem.W.boot_o_8 P)) (lf (HR []))) (nd (PySem.W.boot_o_6 P) (lf (PySem.W.boot_o_10 P)) (lf (L2 13 3 hm1)))))
noncomputable def H7(d:ai)(P:ez)(n:ah)(s:ai)(k e c:ah):BT:=R7 ((SV d P).take (n-15)) 15 (((t0 P).ins 3 (Pk P s k e hNs)).ins 12 (HR (SW.take (3*c))))
noncomputable def t1(P:ez):BT:=H7 Str.empty P 65 "cpy313.difflib" 194 11 2
noncomputable def t2(P:ez):BT:=H7 Str.empty P 139 "cpy313.difflib" 194 12 3
noncomputable def t3(P:ez):BT:=H7 Str.empty P 146 "cpy313.difflib" 194 13 4
noncomputable def t4(d:ai)(P:ez):BT:=H7 d P 247 "cpy313.difflib" 194 14 5
noncomputable def t5(d:ai)(P:ez):BT:=H7 d P 291 "abc" 645 22 11
noncomputable def t6(d:ai)(P:ez):BT:=(H7 d P 310 "collections.abc" 671 23 12).ins 307 (⟨.type "type",none,.cls ⟨"ABCMeta",[.type "type"],[.ref 307,.type "type",.type "object"],306,"ABCMeta",aj,[],[],aC,none,aC⟩,⟨[af (.ref 291),none,af (.str "ABCMeta" 647),af (.str "ABCMeta" 655),af (.builtin "type.__new__"),af (.bool aj)]⟩⟩)
noncomputable def t7(d:ai)(P:ez):BT:=H7 d P 357 "cpy313.genericpath" 733 26 15
noncomputable def t8(d:ai)(P:ez):BT:=H7 d P 437 "law_ik0101_01" 781 38 27
noncomputable def t9(d:ai)(P:ez):BT:=H7 d P 449 "law_ik0101_01" 781 40 29
noncomputable def H8(p:ah->aH)(l:aa ah):aH:=@gb ah (λZ=>aH) aC (λa Z Y=>@Bool.rec (λZ=>aH) Y aj (p a)) l
theorem H9(p:ah->aH):∀l:aa ah,l.any p=H8 p l:=by
 intro l;induction l with|nil=>exact rfl|cons a l Z=>
  rw[List.any_cons,Z];show _=@Bool.rec (λY=>aH) (H8 p l) aj (p a);cases p a<;>rfl
theorem any_eq(p:ah->aH)(as:aK ah):as.any p=H8 p as.toList:=by rw[<-H9,Array.any_toList]
noncomputable def KC(as:aK ah)(p:ah->aH)(start stop:ah):aH:=@Bool.rec (λZ=>aH) (Array.any as p start stop) (H8 p as.toList) (@Bool.rec (λZ=>aH) aC (fT stop as.size) (fT start 0))
theorem H_:@Array.any ah=KC:=by
 funext as p start stop;unfold KC;cases Z:fT start 0 with|false=>rfl|true=>cases Y:fT stop as.size with|false=>rfl|true=> have X:=oQ Z;have W:=oQ Y;subst X W;exact any_eq p as
def Mr(_:lH):Type:=Unit
noncomputable def SX{b:lH}(_:Mr b):lH:=b
noncomputable def newF(a:aK ah->(ah->aH)->ah->ah->aH)(h:@Array.any ah=a):lH:=by
 have x:Mr xw:=();delta xw at x;have y:=h▸x;exact SX y
theorem Ia(a:aK ah->(ah->aH)->ah->ah->aH)(h:@Array.any ah=a):xw=newF a h:=by
 subst h;kernel_rfl!
noncomputable def EX:lH:=newF KC H_
noncomputable def sW(id:cj):aA lH:=@Bool.rec (λZ=>aA lH) (PySem.W.Fast.tw1115789885857029328.find (xx id)) (af EX) (fT (xx id) 29827186395103491166823348853)
theorem EY:PySem.W.Fast.tw1115789885857029328.find 29827186395103491166823348853=af xw:=by kernel_rfl!
theorem l6:fW=sW:=by
 rw[EB];funext id;show PySem.W.Fast.tw1115789885857029328.find (xx id)=_;unfold sW;cases h:fT (xx id) 29827186395103491166823348853 with|false=>rfl|true=>
  rw[oQ h,EY];exact bu af (Ia _ _)
noncomputable def kX(t:BT)(n k:ah)(os:dm):SharedT:={tree:=t,n:=n,life:={},gens:=⟨[]⟩,drawn:={},toks:=k,os:=os}
noncomputable def cH:aV:={scope:=pw.main.scope,locals:=mainNs,globals:=mainNs,cells:=[],code:=.ref 13,frame:=af 14}
noncomputable def bE:aa bH:=sU pw
noncomputable def gS(i n:ah):aa bH:=(bE.drop i).take n
noncomputable def Ms:{l:aa ah//docOf (tS 5)=⟨⟨l⟩⟩}:=by
 refine⟨?l,?h⟩;case h=>exact PySem.W.Fast.ofString_ofList _
noncomputable def KD:ai:=⟨⟨Ms.1⟩⟩
theorem Ib:docOf (tS 5)=KD:=Ms.2
theorem KG:gS 5 1=[EU (docOf (tS 5)) (tS 5)]:=by kernel_rfl!
theorem SY(w:aG)(p:fO)(b:aa bH)(os:dm):lS sW p w 11 (af (.ref 6)) 1 362 (kX (t0 w.params) 15 187 os) (eN (gS 0 3) cH (cK b cH) ⟨0,0,0,0⟩ [fB ⟨0,0,0,0⟩])=af (Flow.next,kX (t1 w.params) 65 253 os,cK b cH,⟨5,0,22,54⟩):=by kernel_rfl!
theorem g0(w:aG)(p:fO)(b:aa bH)(os:dm):segRun fW p w 11 (af (.ref 6)) 1 362 (kX (t0 w.params) 15 187 os).abs (eN (gS 0 3) cH (cK b cH) ⟨0,0,0,0⟩ [fB ⟨0,0,0,0⟩])=af (Flow.next,(kX (t1 w.params) 65 253 os).abs,cK b cH,⟨5,0,22,54⟩):=by
 refine lQ ?_;rw[l6,lU];exact SY w p b os
theorem S0(w:aG)(p:fO)(b:aa bH)(os:dm):lS sW p w 11 (af (.ref 6)) 1 1047 (kX (t1 w.params) 65 253 os) (eN (gS 3 1) cH (cK b cH) ⟨5,0,22,54⟩ [fB ⟨0,0,0,0⟩])=af (Flow.next,kX (t2 w.params) 139 381 os,cK b cH,⟨23,0,65,54⟩):=by kernel_rfl!
theorem g1(w:aG)(p:fO)(b:aa bH)(os:dm):segRun fW p w 11 (af (.ref 6)) 1 1047 (kX (t1 w.params) 65 253 os).abs (eN (gS 3 1) cH (cK b cH) ⟨5,0,22,54⟩ [fB ⟨0,0,0,0⟩])=af (Flow.next,(kX (t2 w.params) 139 381 os).abs,cK b cH,⟨23,0,65,54⟩):=by
 refine lQ ?_;rw[l6,lU];exact S0 w p b os
theorem S3(w:aG)(p:fO)(b:aa bH)(os:dm):lS sW p w 11 (af (.ref 6)) 1 31 (kX (t2 w.params) 139 381 os) (eN (gS 4 1) cH (cK b cH) ⟨23,0,65,54⟩ [fB ⟨0,0,0,0⟩])=af (Flow.next,kX (t3 w.params) 146 389 os,cK b cH,⟨66,0,69,14⟩):=by kernel_rfl!
theorem g2(w:aG)(p:fO)(b:aa bH)(os:dm):segRun fW p w 11 (af (.ref 6)) 1 31 (kX (t2 w.params) 139 381 os).abs (eN (gS 4 1) cH (cK b cH) ⟨23,0,65,54⟩ [fB ⟨0,0,0,0⟩])=af (Flow.next,(kX (t3 w.params) 146 389 os).abs,cK b cH,⟨66,0,69,14⟩):=by
 refine lQ ?_;rw[l6,lU];exact S3 w p b os
theorem S4(w:aG)(p:fO)(b:aa bH)(os:dm):lS sW p w 11 (af (.ref 6)) 1 649 (kX (t3 w.params) 146 389 os) (eN ([EU KD (tS 5)]) cH (cK b cH) ⟨66,0,69,14⟩ [fB ⟨0,0,0,0⟩])=af (Flow.next,kX (t4 KD w.params) 247 575 os,cK b cH,⟨70,0,417,16⟩):=by kernel_rfl!
theorem g3(w:aG)(p:fO)(b:aa bH)(os:dm):segRun fW p w 11 (af (.ref 6)) 1 649 (kX (t3 w.params) 146 389 os).abs (eN (gS 5 1) cH (cK b cH) ⟨66,0,69,14⟩ [fB ⟨0,0,0,0⟩])=af (Flow.next,(kX (t4 (docOf (tS 5)) w.params) 247 575 os).abs,cK b cH,⟨70,0,417,16⟩):=by
 refine lQ ?_;rw[KG,Ib,l6,lU];exact S4 w p b os
theorem S5(d:ai)(w:aG)(p:fO)(b:aa bH)(os:dm):lS sW p w 11 (af (.ref 6)) 1 264 (kX (t4 d w.params) 247 575 os) (eN (gS 6 12) cH (cK b cH) ⟨70,0,417,16⟩ [fB ⟨0,0,0,0⟩])=af (Flow.next,kX (t5 d w.params) 291 647 os,cK b cH,⟨482,0,482,8⟩):=by kernel_rfl!
theorem g4(d:ai)(w:aG)(p:fO)(b:aa bH)(os:dm):segRun fW p w 11 (af (.ref 6)) 1 264 (kX (t4 d w.params) 247 575 os).abs (eN (gS 6 12) cH (cK b cH) ⟨70,0,417,16⟩ [fB ⟨0,0,0,0⟩])=af (Flow.next,(kX (t5 d w.params) 291 647 os).abs,cK b cH,⟨482,0,482,8⟩):=by
 refine lQ ?_;rw[l6,lU];exact S5 d w p b os
theorem S6(d:ai)(w:aG)(p:fO)(b:aa bH)(os:dm):lS sW p w 11 (af (.ref 6)) 1 219 (kX (t5 d w.params) 291 647 os) (eN (gS 18 2) cH (cK b cH) ⟨482,0,482,8⟩ [fB ⟨0,0,0,0⟩])=af (Flow.next,kX (t6 d w.params) 310 673 os,cK b cH,⟨487,0,487,8⟩):=by kernel_rfl!
theorem g5(d:ai)(w:aG)(p:fO)(b:aa bH)(os:dm):segRun fW p w 11 (af (.ref 6)) 1 219 (kX (t5 d w.params) 291 647 os).abs (eN (gS 18 2) cH (cK b cH) ⟨482,0,482,8⟩ [fB ⟨0,0,0,0⟩])=af (Flow.next,(kX (t6 d w.params) 310 673 os).abs,cK b cH,⟨487,0,487,8⟩):=by
 refine lQ ?_;rw[l6,lU];exact S6 d w p b os
theorem S7(d:ai)(w:aG)(p:fO)(b:aa bH)(os:dm):lS sW p w 11 (af (.ref 6)) 1 389 (kX (t6 d w.params) 310 673 os) (eN (gS 20 5) cH (cK b cH) ⟨487,0,487,8⟩ [fB ⟨0,0,0,0⟩])=af (Flow.next,kX (t7 d w.params) 357 735 os,cK b cH,⟨523,0,523,8⟩):=by kernel_rfl!
theorem g6(d:ai)(w:aG)(p:fO)(b:aa bH)(os:dm):segRun fW p w 11 (af (.ref 6)) 1 389 (kX (t6 d w.params) 310 673 os).abs (eN (gS 20 5) cH (cK b cH) ⟨487,0,487,8⟩ [fB ⟨0,0,0,0⟩])=af (Flow.next,(kX (t7 d w.params) 357 735 os).abs,cK b cH,⟨523,0,523,8⟩):=by
 refine lQ ?_;rw[l6,lU];exact S7 d w p b os
theorem S8(d:ai)(w:aG)(p:fO)(b:aa bH)(os:dm):lS sW p w 11 (af (.ref 6)) 1 398 (kX (t7 d w.params) 357 735 os) (eN (gS 25 14) cH (cK b cH) ⟨523,0,523,8⟩ [fB ⟨0,0,0,0⟩])=af (Flow.next,kX (t8 d w.params) 437 858 os,cK b cH,⟨654,0,668,16⟩):=by kernel_rfl!
theorem g7(d:ai)(w:aG)(p:fO)(b:aa bH)(os:dm):segRun fW p w 11 (af (.ref 6)) 1 398 (kX (t7 d w.params) 357 735 os).abs (eN (gS 25 14) cH (cK b cH) ⟨523,0,523,8⟩ [fB ⟨0,0,0,0⟩])=af (Flow.next,(kX (t8 d w.params) 437 858 os).abs,cK b cH,⟨654,0,668,16⟩):=by
 refine lQ ?_;rw[l6,lU];exact S8 d w p b os
theorem S9(d:ai)(w:aG)(p:fO)(b:aa bH)(os:dm):lS sW p w 11 (af (.ref 6)) 1 59 (kX (t8 d w.params) 437 858 os) (eN (gS 39 2) cH (cK b cH) ⟨654,0,668,16⟩ [fB ⟨0,0,0,0⟩])=af (Flow.next,kX (t9 d w.params) 449 874 os,cK b cH,⟨677,0,699,81⟩):=by kernel_rfl!
theorem g8(d:ai)(w:aG)(p:fO)(b:aa bH)(os:dm):segRun fW p w 11 (af (.ref 6)) 1 59 (kX (t8 d w.params) 437 858 os).abs (eN (gS 39 2) cH (cK b cH) ⟨654,0,668,16⟩ [fB ⟨0,0,0,0⟩])=af (Flow.next,(kX (t9 d w.params) 449 874 os).abs,cK b cH,⟨677,0,699,81⟩):=by
 refine lQ ?_;rw[l6,lU];exact S9 d w p b os
noncomputable abbrev cE:Code:=cK (sU pw) cH
theorem EZ(w:aG)(os:dm):PySem.W.Fast.tw15667345088766844465 EC pw w 11 (af (.ref 6)) 12 ⟨boot_heap w.params,#[],boot_drawn,boot_toks,os⟩ (topStub pw)=af ((kX (t0 w.params) 15 187 os).abs,⟨PySem.W.Fast.tw11892475500146522536 EC cE,cE,⟨0,0,0,0⟩,[fB ⟨0,0,0,0⟩]⟩):=by kernel_rfl!
theorem Ic(w:aG)(os:dm):topGo fW pw w 11 (af (.ref 6)) 12 ⟨boot_heap w.params,#[],boot_drawn,boot_toks,os⟩ (topStub pw)=af ((kX (t0 w.params) 15 187 os).abs,⟨denote fW cE,cE,⟨0,0,0,0⟩,[fB ⟨0,0,0,0⟩]⟩):=by
 rw[PySem.W.Fast.te15667345088766844465,EB,PySem.W.Fast.te11892475500146522536];exact EZ w os
theorem CW(w:aG)(os:dm):segRun fW pw w 11 (af (.ref 6)) 1 1 (kX (t0 w.params) 15 187 os).abs (blockOf (sU pw) cH cE ⟨0,0,0,0⟩ [fB ⟨0,0,0,0⟩])=af (.next,(kX (t0 w.params) 15 187 os).abs,cE,⟨0,0,0,0⟩):=by kernel_rfl!
noncomputable def CX:ai:=docOf (tS 5)
noncomputable def tF(P:ez):BT:=t9 CX P
noncomputable def Hf(P:ez):aM:=absHeap (tF P) 449 {}
theorem fin_run(w:aG)(os:dm):topRun fW pw w 11 (af (.ref 6)) 2 (kX (tF w.params) 449 874 os).abs ⟨doneF .next,cE,⟨677,0,699,81⟩,[fB ⟨0,0,0,0⟩]⟩=af ⟨Hf w.params,#[],{},874,os⟩:=by kernel_rfl!
theorem Ie:sU pw=gS 0 3++(gS 3 1++(gS 4 1++(gS 5 1++(gS 6 12++(gS 18 2++(gS 20 5++(gS 25 14++(gS 39 2++[])))))))):=by kernel_rfl!
theorem Ig(w:aG)(os:dm):topRun fW pw w 11 (af (.ref 6)) 3433 ⟨boot_heap w.params,#[],boot_drawn,boot_toks,os⟩ (topStub pw)=af ⟨Hf w.params,#[],{},874,os⟩:=by
 have Z:=fin_run w os;have Y:topRun fW pw w 11 (af (.ref 6)) (362+(1047+(31+(649+(264+(219+(389+(398+(59+2))))))))) (kX (t0 w.params) 15 187 os).abs (restOf (sU pw) cH cE ⟨0,0,0,0⟩ [fB ⟨0,0,0,0⟩])=af ⟨Hf w.params,#[],{},874,os⟩:=by
  rw[Ie];refine lR (g0 w pw _ os) ?_;refine lR (g1 w pw _ os) ?_;refine lR (g2 w pw _ os) ?_;refine lR (g3 w pw _ os) ?_;refine lR (g4 CX w pw _ os) ?_;refine lR (g5 CX w pw _ os) ?_;refine lR (g6 CX w pw _ os) ?_;refine lR (g7 CX w pw _ os) ?_;refine lR (g8 CX w pw _ os) ?_;exact Z
 have X:=piece_block (CW w os) Y;exact go_top (n:=12) (N:=3421) (Ic w os) X
noncomputable def Mu:aa ah:=[0,2,3,4,5,7,8,9,13,14,16,18,20,21,23,25,27,28,29,31,32,33,34,35,36,37,38,39,40]
noncomputable def JC(l:aa bH):aa ah->aa bH |[]=>[]|i::r=>l.getD i (.Pass ⟨0,0,0,0⟩)::JC l r
noncomputable def qV:fO:={pw with main:={pw.main with body:=JC pw.main.body Mu}}
noncomputable def qH:aa ai:=["_tuplegetter","Match","SequenceMatcher","b2a_base64","b64encode","_urlsafe_encode_translation"]
noncomputable def PY(s:ay):aH:=xlAt qV [] s&&recOk [] s
noncomputable def R9(s:ay):aM×ah:=(s.heap,s.toks)
noncomputable def R_(w:aG):aM×ah:=(Hf w.params,874)
theorem Mv(w:aG)(os:dm):(staticsOk (importedModules pw.main.body) (boot_heap w.params) (Hf w.params)&&namesBound pw (Hf w.params)&&gensDone ⟨Hf w.params,#[],{},874,os⟩&&laidKept (boot_heap w.params) (Hf w.params))=aj:=by kernel_rfl!
theorem KH(w:aG)(os:dm):PySem.W.Fast.tw4187177175401517315 qV qH (PySem.W.Fast.tw5923862056798008813 pw.main.body) (λs=>xlAt qV [] s&&recOk [] s) aj ⟨Hf w.params,#[],{},874,os⟩=openGood qV qH:=by kernel_rfl!
theorem Mw(w:aG)(os:dm):openSeen qV qH (importedModules pw.main.body) PY aj ⟨Hf w.params,#[],{},874,os⟩=openGood qV qH:=by
 have h:=KH w os;rw[<-PySem.W.Fast.te4187177175401517315,<-PySem.W.Fast.te5923862056798008813] at h;exact h
theorem left:LeftO pw qV qH PY R9 R_ 7000:=LeftO.of_pieces (H₀:=boot_heap) (H₁:=Hf) (gs₀:=#[]) (gs₁:=#[]) (d₀:=boot_drawn) (d₁:={}) (k₀:=boot_toks) (k₁:=874) (m₀:=11) (ann:=af (.ref 6)) (M:=3433) (boot_open (by kernel_rfl!) (by decide) (λs=>rfl)) (λw=>by kernel_rfl!) Ig (by decide) (λw=>by
   funext os;exact looks_pair (Mv w os) (looks_pair (Mw w os) rfl))
end cZ
end
section
open PySem PySem.W PySem.W.X PySem.Calls PyProof.Rows
namespace cZ
theorem E0:namesResolve PySem.Challenge.rw_ik0101_01.row.prog=aj:=by decide+kernel
theorem CY:noRoadLSs {strict:=!(importedModules PySem.Challenge.rw_ik0101_01.row.prog.main.body).all cThrough.contains,foot:=none,bare:=(["vars","dir","locals"]:aa ai).filter (readsOut PySem.Challenge.rw_ik0101_01.row.prog PySem.Challenge.rw_ik0101_01.row.prog.main.body)} PySem.Challenge.rw_ik0101_01.row.prog.main.body=aj:=by decide+kernel
theorem CZ:(namesMeet PySem.Challenge.rw_ik0101_01.row.prog PySem.Challenge.rw_ik0101_01.row.prog.main.body λZ n=>attrL n)=aj:=by decide+kernel
theorem AW:looksOpen PySem.Challenge.rw_ik0101_01.row.prog=aj:=look_both (look_both (look_both (look_both (look_both (by decide+kernel) (by decide+kernel)) E0) (by decide+kernel)) CY) CZ
theorem E1:PySem.Challenge.rw_ik0101_01.row.wellSaid=aj:=by
 unfold OpenRow.wellSaid OpenRow.partSaid;rw[AW];decide+kernel
theorem E2:PySem.Challenge.rw_ik0101_01.wellSaid=aj:=by
 unfold OpenLaw.wellSaid;rw[E1];decide+kernel
end cZ
end
section
open PySem PySem.W PyProof.Rows
namespace cZ
inductive DV where|none|bool(b:aH)|int(i:aq)|str(s:ai)|bytes(b:aK dQ)|con(v:ao)|tup(l:aa DV)|lst(l:aa DV)|qI(l:aa DV)|vj(a b c:aq)deriving Inhabited
inductive AV where|d(x:DV)|ref(k:ah)|bm(id:cj)(k:ah)deriving Inhabited
noncomputable def Mx:az:=135
noncomputable def jj(items:aK ao)(n:ah):aR:=⟨.type "tuple",Option.none,.seq items n,#[]⟩
noncomputable def bS(items:aK ao)(n:ah)(sl:aK (aA ao):=#[]):aR:=⟨.type "list",Option.none,.seq items n,sl⟩
noncomputable def qJ(items:aK ao)(n:ah)(d:aA az):aR:=⟨.ref Mx,d,.seq items n,#[]⟩
noncomputable def Ih(a b c:aq)(t u v:Tok):aR:=⟨.type "range",Option.none,.fields #[.int a t,.int b u,.int c v],#[]⟩
noncomputable def fJ:ao->aH|.type t=>t=="tuple"||(t=="list"||(t=="range"||t=="builtin_function_or_method"))|.ref a=>a==135|_=>aC
noncomputable def sX:Data->aH|.seq _ _=>aj|.fields _=>aj|_=>aC
mutual noncomputable def R(h:aM)(ρ:aa az):DV->ao->Prop |.none,v=>v=.none|.bool b,v=>v=.bool b|.int i,v=>∃t,v=.int i t|.str s,v=>∃t,v=.str s t|.bytes b,v=>∃t,v=.bytes b t|.con u,v=>v=u|.tup l,v=>∃(a:az)(items:aK ao)(n:ah),v=.ref a/\h.get? a=af (jj items n)/\a∉ρ/\RS h ρ l items.toList|.lst l,v=>∃(a:az)(items:aK ao)(n:ah)(Z:aK (aA ao)),v=.ref a/\h.get? a=af (bS items n Z)/\a∉ρ/\RS h ρ l items.toList|.qI l,v=>∃(a:az)(items:aK ao)(n:ah)(d:aA az),v=.ref a/\h.get? a=af (qJ items n d)/\a∉ρ/\RS h ρ l items.toList|.vj a b c,v=>∃(r:az)(t u w:Tok),v=.ref r/\h.get? r=af (Ih a b c t u w)/\r∉ρ noncomputable def RS(h:aM)(ρ:aa az):aa DV->aa ao->Prop|[],Z=>Z=[]|x::l,Z=>∃v r,Z=v::r/\R h ρ x v/\RS h ρ l r end
noncomputable def JD(id:cj)(a:az):aR:=⟨.type "builtin_function_or_method",Option.none,.fields #[.builtin id,.ref a],#[]⟩
noncomputable def RA(h:aM)(ρ:aa az):AV->ao->Prop |.d x,v=>R h ρ x v|.ref k,v=>∃a,v=.ref a/\ρ[k]?=af a|.bm id k,v=>∃a b,v=.ref b/\ρ[k]?=af a/\h.get? b=af (JD id a)/\b∉ρ
section
variable{h:aM}{ρ:aa az}
theorem R.none:R h ρ .none .none:=rfl
theorem R.bool(b:aH):R h ρ (.bool b) (.bool b):=rfl
theorem R.int(i:aq)(t:Tok):R h ρ (.int i) (.int i t):=⟨t,rfl⟩
theorem R.str(x:ai)(t:Tok):R h ρ (.str x) (.str x t):=⟨t,rfl⟩
theorem R.bytes(x:aK dQ)(t:Tok):R h ρ (.bytes x) (.bytes x t):=⟨t,rfl⟩
theorem R.con(v:ao):R h ρ (.con v) v:=rfl
theorem R.tup{l:aa DV}{a:az}{items:aK ao}{n:ah}(Z:h.get? a=af (jj items n))(Y:a∉ρ)(X:RS h ρ l items.toList):R h ρ (.tup l) (.ref a):=rC a items n rfl Z Y X
theorem R.lst{l:aa DV}{a:az}{items:aK ao}{n:ah}{sl:aK (aA ao)}(Z:h.get? a=af (bS items n sl))(Y:a∉ρ)(X:RS h ρ l items.toList):R h ρ (.lst l) (.ref a):=qF a items n sl rfl Z Y X
theorem R.qI{l:aa DV}{a:az}{items:aK ao}{n:ah}{d:aA az}(Z:h.get? a=af (qJ items n d))(Y:a∉ρ)(X:RS h ρ l items.toList):R h ρ (.qI l) (.ref a):=qF a items n d rfl Z Y X
theorem R.vj{a b c:aq}{t u v:Tok}{r:az}(Z:h.get? r=af (Ih a b c t u v))(Y:r∉ρ):R h ρ (.vj a b c) (.ref r):=CV r t u v rfl Z Y
theorem RS.nil:RS h ρ [] []:=rfl
theorem RS.cons{x:DV}{v:ao}{l:aa DV}{vs:aa ao}(Z:R h ρ x v)(Y:RS h ρ l vs):RS h ρ (x::l) (v::vs):=bM v vs rfl Z Y
theorem RA.d{x:DV}{v:ao}(Z:R h ρ x v):RA h ρ (.d x) v:=Z
theorem RA.ref{k:ah}{a:az}(Z:ρ[k]?=af a):RA h ρ (.ref k) (.ref a):=aP a rfl Z
theorem RA.bm{id:cj}{k:ah}{a b:az}(Z:ρ[k]?=af a)(Y:h.get? b=af (JD id a))(X:b∉ρ):RA h ρ (.bm id k) (.ref b):=HY a b rfl Z Y X
end
theorem KI:fJ (.type "tuple")=aj:=rfl
theorem KJ:fJ (.type "list")=aj:=rfl
theorem Sa:fJ (.type "range")=aj:=rfl
theorem Sd:fJ (.type "builtin_function_or_method")=aj:=rfl
theorem Se:fJ (.ref Mx)=aj:=rfl
def mQ(h:aM)(ρ:aa az)(h':aM)(Z:aa az):Prop:=(∀(a:az) (o:aR),h.get? a=af o->(sX o.data=aj/\fJ o.cls=aj)->a∉ρ->h'.get? a=af o/\a∉Z)/\∀(k:ah) (a:az),ρ[k]?=af a->Z[k]?=af a
def My(h:aM)(ρ:aa az)(h':aM)(Z:aa az):Prop:=∀(a:az) (o:aR),h.get? a=af o->(sX o.data=aj/\fJ o.cls=aj)->a∉ρ->h'.get? a=af o/\a∉Z
theorem R.vm{h h':aM}{ρ W:aa az}(k:My h ρ h' W)(x:DV):∀v,R h ρ x v->R h' W x v:=DV.rec (motive_1:=λx=>∀v,R h ρ x v->R h' W x v) (motive_2:=λl=>∀Q,RS h ρ l Q->RS h' W l Q) (λZ e=>e) (λZ Z e=>e) (λZ Z e=>e) (λZ Z e=>e) (λZ Z e=>e) (λZ Z e=>e) (λZ U Z q=>mL q λa items n e Y X V=>rC a items n e ((k _ _ Y ⟨rfl,KI⟩ X).1) ((k _ _ Y ⟨rfl,KI⟩ X).2) (U _ V)) (λZ U Z q=>eR q λa items n P e Y X V=>qF a items n P e ((k _ _ Y ⟨rfl,KJ⟩ X).1) ((k _ _ Y ⟨rfl,KJ⟩ X).2) (U _ V)) (λZ U Z q=>eR q λa items n d e Y X V=>qF a items n d e ((k _ _ Y ⟨rfl,Se⟩ X).1) ((k _ _ Y ⟨rfl,Se⟩ X).2) (U _ V)) (λZ Z Z Z q=>xA q λr t u w e Y X=>CV r t u w e ((k _ _ Y ⟨rfl,Sa⟩ X).1) ((k _ _ Y ⟨rfl,Sa⟩ X).2)) (λZ e=>e) (λZ Z T S Z q=>cU q λv r e O V=>bM v r e (T _ O) (S _ V)) x
theorem RS.vm{h h':aM}{ρ Z:aa az}(k:My h ρ h' Z){l:aa DV}:∀{vs:aa ao},RS h ρ l vs->RS h' Z l vs:=by induction l with |nil=>exactλe=>e|cons x l Y=>exactλq=>cU q λv r e X W=>bM v r e (R.vm k x _ X) (Y W)
theorem R.mono{h h':aM}{ρ Z:aa az}(k:mQ h ρ h' Z){x:DV}{v:ao}(q:R h ρ x v):R h' Z x v:=R.vm k.1 x v q
theorem RS.mono{h h':aM}{ρ Z:aa az}(k:mQ h ρ h' Z){l:aa DV}{vs:aa ao}(q:RS h ρ l vs):RS h' Z l vs:=RS.vm k.1 q
theorem RA.mono{h h':aM}{ρ Z:aa az}(k:mQ h ρ h' Z){x:AV}{v:ao}(q:RA h ρ x v):RA h' Z x v:=by induction x using AV.casesOn with |d x=>exact R.mono k q|ref i=>exact aQ q λa e Y=>aP a e (k.2 _ _ Y)|bm id i=>exact mK q λa b e Y X W=>HY a b e (k.2 _ _ Y) ((k.1 _ _ X ⟨rfl,Sd⟩ W).1) ((k.1 _ _ X ⟨rfl,Sd⟩ W).2)
inductive AO where|list(l:aa DV)|dS(l:aa (ai×AV))(o:aR)|dI(l:aa (aq×aq))|set(l:aa ai)(o:aR)|inst(l:aa (aA AV))|C0|obj(o:aR)deriving Inhabited
noncomputable def uM(h:aM)(ρ:aa az):aa (ai×AV)->aa (ai×ao)->Prop|[],m=>m=[]|(x,a)::l,m=>∃v r,m=(x,v)::r/\RA h ρ a v/\uM h ρ l r
noncomputable def HS:aa (aq×aq)->aa (aq×ao)->Prop|[],m=>m=[]|(k,i)::l,m=>∃t r,m=(k,.int i t)::r/\HS l r
theorem uM.mono{h h':aM}{ρ Z:aa az}(k:mQ h ρ h' Z){l:aa (ai×AV)}:∀{m:aa (ai×ao)},uM h ρ l m->uM h' Z l m:=by induction l with|nil=>exactλe=>e|cons p l Y=>exactλq=>cU q λv r e X W=>bM v r e (X.mono k) (Y W)
noncomputable def atT:aa ai:=["isjunk","a","b","autojunk","matching_blocks","opcodes","fullbcount","b2j","bjunk","bpopular"]
noncomputable def S_:az:=242
structure SK(w:aG)(κ:Type)[jO κ]where
 knd:PySem.KeyKind pw w κ
 dec:ao->κ
 xD:∀x v,knd.is x v=aj->dec v=x
 scan:∀x v,knd.is x v=aj->v.scannable=aj
 one:(∀x v,knd.is x v=aj->plainKind v=aC)\/∀a b:κ,a=b
noncomputable def E3:ao->ai|.str x _=>x|_=>⟨#[]⟩
noncomputable def Pn(w:World):SK w Str where
 knd:=PySem.strKind pw w;dec:=E3;xD:=λx v h=>by(refine aZ (Value.isStrOf_shape h) λt Af=>?_;subst Af);rfl
 scan:=λx v h=>by(refine aZ (Value.isStrOf_shape h) λt Af=>?_;subst Af);rfl
 one:=.inl λx v h=>by(refine aZ (Value.isStrOf_shape h) λt Af=>?_;subst Af);rfl
noncomputable def AX{w:aG}{Z:Type}[jO Z](S:SK w Z):aa (aq×ao)->aa Z->Prop|[],l=>l=[]|e::Y,l=>∃x r,l=x::r/\(e.1=S.knd.hash x/\S.knd.is x e.2=aj)/\AX S Y r
def sY{w:aG}{Z:Type}[jO Z](S:SK w Z)(o:aR)(l:aa Z):Prop:=∃(Y:aK (aq×ao)) (W:ah) (t:i8) (X:aa Z),o.ExactSet/\o.data=.set Y W t/\AX S Y.toList X/\X.Perm l/\t.fits Y.size=aj/\l.length<scanBound/\(t.led=aj\/w.params.followText "set-order"=aj)/\(t.plain=aC\/l.length<=1)
def C1(w:aG)(o:aR)(l:aa ai):Prop:=sY (Pn w) o l
noncomputable def yF(w:aG)(h:aM)(ρ:aa az)(k:ah):AO->az->Prop
 |.list l,a=>∃(items:aK ao)(n:ah)(Y:aK (aA ao)),h.get? a=af (bS items n Y)/\RS h ρ l items.toList|.dS l o,a=>h.get? a=af o/\∃m:aa (ai×ao),h.DictOf (strKind pw w) a m/\uM h ρ l m|.dI l,a=>∃m:aa (aq×ao),h.DictOf (sL pw w) a m/\HS l m|.set l o,a=>h.get? a=af o/\C1 w o l|.obj o,a=>h.get? a=af o|.inst l,a=>∃(Z:az)(m:ai->aA ao)(o:aR),h.Inst a S_ m/\h.get? a=af o/\o.dict=af Z/\ρ[k+1]?=af Z/\Within m atT/\l.length=10/\∀(i:ah)(x:ai),atT[i]?=af x->match l[i]? with|some (af X)=>∃v,m x=af v/\RA h ρ X v|_=>m x=none
 |.C0,a=>∃o,h.get? a=af o
structure AS where
 loc:aa (aA AV)heap:aa AO deriving Inhabited
structure gv(w:aG)(H:aa AO)(h:aM)(ρ:aa az):Prop where
 len:ρ.length=H.length
 nodup:ρ.Nodup
 above:∀a∈ρ,449<=a
 own:∀(i:ah)(l:aa (aA AV)),H[i]?=af (.inst l)->H[i+1]?=af .C0
 obj:∀(k:ah)(o:AO)(a:az),H[k]?=af o->ρ[k]?=af a->yF w h ρ k o a
structure Shape(sc:aU)(env:aV):Prop where
 scope:env.scope=sc
 glob:env.globals=kr
 blt:env.builtins=oU
 fn:sc.kind=.function
 nodup:(sc.names.map (·.1)).Nodup
 apart:env.cells.Pairwise λx y=>x.2≠y.2
 B7:∀x c,env.cells.lookup x=af c->c≠env.locals
 cells:∀(i:ah)(x:ai),sc.names[i]?=af (x,f6)->∃c,env.cells.lookup x=af c
structure C2(sc:aU)(env:aV)(loc:aa (aA AV))(h:aM)(ρ:aa az):Prop where
 ns:∃m,h.Ns env.locals m/\∀(i:ah)(x:ai)(av:AV),sc.names[i]?=af (x,NameKind.local)->loc[i]?=af (af av)->∃v,m x=af v/\RA h ρ av v
 sZ:env.locals∉ρ
 cell:∀(i:ah)(x:ai)(k:b6)(av:AV),sc.names[i]?=af (x,k)->k=f6\/k=fy->loc[i]?=af (af av)->∃c v,env.cells.lookup x=af c/\h.IsCell c (af v)/\RA h ρ av v
 hU:∀x c,env.cells.lookup x=af c->c∉ρ/\∃v,h.IsCell c v
def k6(w:aG)(h:aM):Prop:=∀b o,(Hf w.params).get? b=af o->h.get? b=af o
structure Rel(w:aG)(sc:aU)(env:aV)(σ:AS)(ρ:aa az)(s:ay):Prop where
 shape:Shape sc env
 top:k6 w s.heap
 size:449<=s.heap.objs.size
 locs:449<=env.locals/\∀x c,env.cells.lookup x=af c->449<=c
 frame:C2 sc env σ.loc s.heap ρ
 bK:gv w σ.heap s.heap ρ
structure Step(env:aV)(ρ:aa az)(s s':ay):Prop where
 keep:∀b o,s.heap.get? b=af o->b≠env.locals->(∀x,env.cells.lookup x≠af b)->b∉ρ->s'.heap.get? b=af o
 size:s.heap.objs.size<=s'.heap.objs.size
 gens:s'.gens=s.gens
 os:s'.os=s.os
def eY(ρ Z:aa az)(n:ah):Prop:=∃l,Z=ρ++l/\∀a∈l,n<=a
structure c5(K:ah)(A:bg):Prop where
 depth:A.depth+K<=400
 units:A.units+8*K<=4000
 handled:A.handled=none
def Ev(K:ah)(sc:aU)(e:Expr)(σ:AS)(P:AV->AS->Prop):Prop:=∀(w:aG) (A:bg) (Z:aV) (W:aa az) (s:ay),c5 K A->Rel w sc Z σ W s->aB (aE pw w) A (eval e Z) (λv V=>∃U X Y,P U X/\eY W Y s.heap.objs.size/\Rel w sc Z X Y V/\RA V.heap Y U v/\Step Z W s V) (λT T=>bG) s
inductive Fl where|next|brk|cont|ret(v:AV)
noncomputable def L5(h:aM)(ρ:aa az):Fl->Flow->Prop|.next,.next=>True|.brk,.brk=>True|.cont,.cont=>True|.ret x,.ret v=>RA h ρ x v|_,_=>bG
def Ex(K:ah)(sc:aU)(st:bH)(σ:AS)(P:Fl->AS->Prop):Prop:=∀(w:aG) (A:bg) (Z:aV) (W:aa az) (s:ay),c5 K A->Rel w sc Z σ W s->aB (aE pw w) A (exec st Z) (λf V=>∃U X Y,P U X/\eY W Y s.heap.objs.size/\Rel w sc Z X Y V/\L5 V.heap Y U f/\Step Z W s V) (λT T=>bG) s
def nc(K:ah)(sc:aU)(l:aa bH)(σ:AS)(P:Fl->AS->Prop):Prop:=∀(w:aG) (A:bg) (Z:aV) (W:aa az) (s:ay),c5 K A->Rel w sc Z σ W s->aB (aE pw w) A (execs l Z) (λf V=>∃U X Y,P U X/\eY W Y s.heap.objs.size/\Rel w sc Z X Y V/\L5 V.heap Y U f/\Step Z W s V) (λT T=>bG) s
theorem eY.refl(ρ:aa az)(n:ah):eY ρ ρ n:=aP [] (by simp) (by simp)
theorem eY.trans{ρ X Z:aa az}{n m:ah}(a:eY ρ X n)(b:eY X Z m)(h:n<=m):eY ρ Z n:=by
 (refine aQ a λl Y W=>?_;clear a;subst Y);(refine aQ b λV Y U=>?_;clear b;subst Y);refine aP (l++V) (by simp) (λx hx=>?_);rcases d9 hx with hx|hx;·exact W x hx
 ·exact br h (U x hx)
theorem Step.refl(env:aV)(ρ:aa az)(s:ay):Step env ρ s s:=⟨λZ Z h Z Z Z=>h,bf _,rfl,rfl⟩
theorem Step.trans{env:aV}{ρ Z:aa az}{s s' Y:ay}(g:eY ρ Z s.heap.objs.size)(a:Step env ρ s s')(b:Step env Z s' Y):Step env ρ s Y:=by
 refine⟨λx o W V U T=>b.keep x o (a.keep x o W V U T) V U ?_,br a.size b.size,b.gens.trans a.gens,b.os.trans a.os⟩;(refine aQ g λl X S=>?_;clear g;subst X);intro hm;rcases d9 hm with hm|hm;·exact T hm
 ·exact aJ (b9 W) (iZ (S x hm))
section
variable{w:aG}{A:bg}{env:aV}{sc:aU}{ρ ρ':aa az}{s s':ay}{σ σ':AS}{K:ah}
theorem qK(r:Rel w sc env σ ρ s)(g:eY ρ ρ' s.heap.objs.size)(st:Step env ρ s s'):mQ s.heap ρ s'.heap ρ':=by
 (refine aQ g λl Z R=>?_;clear g;subst Z);refine⟨λa P W X U=>⟨st.keep a _ W ?_ ?_ U,?_⟩,λk a T=>?_⟩;·rintro rfl;refine aQ r.frame.ns λm Z S=>uF Z λo O N Y V S=>?_;rw[W] at Y;cases Y;have X:=V▸X;cases X.1
 ·intro x Q;(refine bq (r.frame.hU x a Q) λS Z=>cz Z λv o Y V=>?_;clear Z);have Y:=W▸Y;cases Y;rw[V] at X;cases X.1
 ·intro hm;rcases d9 hm with hm|hm;·exact U hm
  ·exact aJ (b9 W) (iZ (R a hm))
 ·rw[m9 (gi T).1];exact T
def PV(w:aG)(sc:aU)(env:aV)(ρ:aa az)(s:ay)(P:AV->AS->Prop)(v:ao)(s':ay):Prop:=∃Z σ' ρ',P Z σ'/\eY ρ ρ' s.heap.objs.size/\Rel w sc env σ' ρ' s'/\RA s'.heap ρ' Z v/\Step env ρ s s'
def PF(w:aG)(sc:aU)(env:aV)(ρ:aa az)(s:ay)(P:Fl->AS->Prop)(f:Flow)(s':ay):Prop:=∃Z σ' ρ',P Z σ'/\eY ρ ρ' s.heap.objs.size/\Rel w sc env σ' ρ' s'/\L5 s'.heap ρ' Z f/\Step env ρ s s'
abbrev b7:ao->ay->Prop:=λZ Z=>bG
theorem PV.shift{P:AV->AS->Prop}(g:eY ρ ρ' s.heap.objs.size)(st:Step env ρ s s'){t:Sem ao}{E:ao->ay->Prop}{Z:ay}(h:aB (aE pw w) A t (PV w sc env ρ' s' P) E Z):aB (aE pw w) A t (PV w sc env ρ s P) E Z:=bk h (λv V W=>kY W λU Y X T S R Q O=>xB U Y X T (g.trans S st.size) R Q (st.trans g O)) (λN N h=>h)
theorem PF.shift{P:Fl->AS->Prop}(g:eY ρ ρ' s.heap.objs.size)(st:Step env ρ s s'){t:Sem Flow}{E:ao->ay->Prop}{Z:ay}(h:aB (aE pw w) A t (PF w sc env ρ' s' P) E Z):aB (aE pw w) A t (PF w sc env ρ s P) E Z:=bk h (λv V W=>kY W λU Y X T S R Q O=>xB U Y X T (g.trans S st.size) R Q (st.trans g O)) (λN N h=>h)
theorem Rel.toks(r:Rel w sc env σ ρ s)(k:ah):Rel w sc env σ ρ {s with toks:=k}:=⟨r.shape,r.top,r.size,r.locs,r.frame,r.bK⟩
theorem Step.toks(k:ah):Step env ρ s {s with toks:=k}:=⟨λZ Z h Z Z Z=>h,bf _,rfl,rfl⟩
theorem PV.here{P:AV->AS->Prop}{av:AV}{v:ao}(r:Rel w sc env σ ρ s)(Z:RA s.heap ρ av v)(h:P av σ)(k:ah):PV w sc env ρ s P v {s with toks:=k}:=xB av σ ρ h (eY.refl _ _) (r.toks k) Z (Step.toks k)
theorem PV.same{P:AV->AS->Prop}{av:AV}{v:ao}(r:Rel w sc env σ ρ s)(Z:RA s.heap ρ av v)(h:P av σ):PV w sc env ρ s P v s:=xB av σ ρ h (eY.refl _ _) r Z (Step.refl _ _ _)
end
section
variable{K:ah}{sc:aU}{σ:AS}{P:AV->AS->Prop}
theorem Ev.int{i:aq}{k:ah}{pos:a_}(h:P (.d (.int i)) σ):Ev K sc (.Constant (.int i) k pos) σ P:=λw A Z Y s X r=>wpAny_Constant_int (PV.here r (.d (.int i _)) h _)
theorem Ev.str{x:ai}{k:ah}{pos:a_}(h:P (.d (.str x)) σ):Ev K sc (.Constant (.str x) k pos) σ P:=λw A Z Y s X r=>wpAny_Constant_str (PV.here r (.d (.str x _)) h _)
theorem Ev.local{x:ai}{pos:a_}{av:AV}(i:ah)(hi:sc.names[i]?=af (x,.local))(X:σ.loc[i]?=af (af av))(h:P av σ)(T:(x==("__debug__":ai))=aC):Ev K sc (.Name x pos) σ P:=λw A Z Q s O r=>by
 refine aQ r.frame.ns λm Y W=>?_;refine aQ (W i x av hi X) λv V U=>?_;have S:Z.kindOf x=af .local:=by
  show Z.scope.names.lookup x=_;rw[r.shape.scope];have nd:=r.shape.nodup;clear W X U V;generalize sc.names=l at hi nd;induction l generalizing i with|nil=>exact ns hi|cons y l R=> obtain⟨y,k⟩:=y;rw[ek,oz] at nd;induction i using cJ with|zero=>cases hi;simp[mS]|succ i=>
    have Y:(x,NameKind.local)∈l:=j3 hi;have:x≠y:=by
     rintro rfl;exact nd.1 (List.mem_map.mpr (aP _ Y rfl))
    simp[mS,fC this];exact R i hi nd.2
 exact wpAny_Name (wpAny_loadName_local (by rw[r.shape.scope];exact r.shape.fn) S Y V (PV.same r U h)) T
end
theorem mem_lookup{α Z:Type}[BEq α][LawfulBEq α]{l:aa (α×Z)}{x:α}{y:Z}(h:l.lookup x=af y):(x,y)∈l:=by induction l with |nil=>exact ns h|cons p l Y=>
  obtain⟨a,b⟩:=p;rw[iA] at h;split at h;·rename_i e;cases h;have:=eL e;subst this;exact .head _
  ·exact .tail _ (Y h)
theorem pP(P:ez):(Hf P).objs.size=449:=absHeap_size _ _ _
theorem Ns.keep{h h':aM}{a:az}{m:ai->aA ao}(n:h.Ns a m)(k:∀o,h.get? a=af o->h'.get? a=af o):h'.Ns a m:=by
 (refine gu n λo Z Y X r=>?_;clear n);exact kO o Z Y (k o X) r
theorem IsCell.keep{h h':aM}{a:az}{v:aA ao}(n:h.IsCell a v)(k:∀o,h.get? a=af o->h'.get? a=af o):h'.IsCell a v:=by
 (refine aQ n λo Z r=>?_;clear n);exact aP o (k o Z) r
theorem Ns1.keep{h h':aM}{a:az}{m:ai->aA ao}(n:h.Ns1 a m)(k:∀o,h.get? a=af o->h'.get? a=af o):h'.Ns1 a m:=by
 (refine gu n λo Z Y X r=>?_;clear n);exact kO o Z Y (k o X) r
theorem yH{h h':aM}{ρ Z:aa az}{m:ai->aA ao}{x:ai}{o:aA (aA AV)}(q:match o with|some (af av)=>∃v,m x=af v/\RA h ρ av v|_=>m x=none)(k:∀av v,o=af (af av)->RA h ρ av v->RA h' Z av v):match(generalizing:=false) o with|some (af av)=>∃v,m x=af v/\RA h' Z av v|_=>m x=none:=by induction o using c9 with|none=>exact q|some o=>induction o using c9 with|none=>exact q|some av=>exact aQ q λv e Y=>aP v e (k av v rfl Y)
theorem yF.mono{w:aG}{h h':aM}{ρ U:aa az}{k:ah}{a:az}(R:mQ h ρ h' U)(Z:∀ob,h.get? a=af ob->h'.get? a=af ob){o:AO}(K:∀l,o=.inst l->∀T,ρ[k+1]?=af T->∀ob,h.get? T=af ob->h'.get? T=af ob)(q:yF w h ρ k o a):yF w h' U k o a:=by induction o using AO.casesOn with
 |list l=>exact gu q λitems n J W V=>kO items n J (Z _ W) (V.mono R)|dS l ob=>exact bq q λW q=>aQ q λm Q V=>gu Q λo P O X r=>⟨Z _ W,m,(kO o P O (Z _ X) r),V.mono R⟩|dI l=>exact aQ q λm Q V=>gu Q λo P O X r=>aP m (kO o P O (Z _ X) r) V|set l ob=>exact bq q λW r=>⟨Z _ W,r⟩|obj ob=>exact Z _ q|inst l=>
  refine sV q λT m o I X Y S H G V=>m_ I λF N E D C=>?_;refine EJ T m o (lX F (Z _ N) E D ?_) (Z _ X) Y (R.2 _ _ S) H G (λi x B=>yH (V i x B) λM M M A=>A.mono R);refine C.imp_right λq=>cC q λd L z y=>cy d L z (Ns1.keep y (K l rfl _ ?_));have X:=N▸X;cases X;have Y:=L▸Y;cases Y;exact S|C0=>exact aZ q λo W=>⟨o,Z _ W⟩
theorem yF.alive{w:aG}{h:aM}{ρ:aa az}{k:ah}{a:az}{o:AO}(q:yF w h ρ k o a):∃ob,h.get? a=af ob:=by induction o using AO.casesOn with |list l=>exact gu q λZ Z Z X Z=>⟨_,X⟩|dI l=>exact aQ q λZ W Z=>gu W λZ Z Z Y Z=>⟨_,Y⟩|obj ob=>exact⟨_,q⟩|inst l=>exact sV q λZ Z Z Z Y Z Z Z Z Z=>⟨_,Y⟩|C0=>exact q|_=>exact⟨_,q.1⟩
section
variable{w:aG}{A:bg}{env:aV}{sc:aU}{ρ ρ':aa az}{s s':ay}{σ σ':AS}{h h':aM}{loc:aa (aA AV)}{H:aa AO}
theorem C2.keep(X:C2 sc env loc h ρ)(k:mQ h ρ h' ρ')(P:∀o,h.get? env.locals=af o->h'.get? env.locals=af o)(Q:∀x c o,env.cells.lookup x=af c->h.get? c=af o->h'.get? c=af o)(O:env.locals∉ρ')(N:∀x c,env.cells.lookup x=af c->c∉ρ'):C2 sc env loc h' ρ':=by
 refine⟨?_,O,?_,?_⟩;·refine aQ X.ns λm M L=>?_;refine aP m (Ns.keep M P) (λi x W V U=>?_);refine aQ (L i x W V U) λv T S=>?_;exact aP v T (S.mono k)
 ·intro i x K W V J U;refine cU (X.cell i x K W V J U) λc v Z R S=>?_;exact bM c v Z (IsCell.keep R (λo=>Q x c o Z)) (S.mono k)
 ·intro x c Z;(refine bq (X.hU x c Z) λI Y=>aZ Y λv T=>?_;clear Y);exact⟨N x c Z,v,IsCell.keep T (λo=>Q x c o Z)⟩
theorem gv.keep(Z:gv w H h ρ)(k:mQ h ρ h' ρ)(X:∀a o,a∈ρ->h.get? a=af o->h'.get? a=af o):gv w H h' ρ:=⟨Z.len,Z.nodup,Z.above,Z.own,λi o a V W=>(Z.obj i o a V W).mono k (λY=>X a Y (j3 W)) λU U T S Y=>X T Y (j3 S)⟩
theorem gv.alive(Z:gv w H h ρ){a:az}(X:a∈ρ):∃ob,h.get? a=af ob:=by
 refine aZ (List.mem_iff_getElem?.mp X) λi Y=>?_;exact(Z.obj i _ a (c7 (Z.len▸(gi Y).1)) Y).alive
theorem gv.old(Z:gv w H h ρ){a:az}(Y:a∈ρ):a<h.objs.size:=let ⟨_,q⟩:=Z.alive Y;b9 q
set_option tactic.hygienic true in theorem gv.PZ(W:gv w H h ρ){k:ah}{a:az}{o o':AO}(O:ρ[k]?=af a)(N:H[k]?=af o)(U:o≠.C0)(P:∀l,o'≠.inst l)(K:mQ h ρ h' ρ)(Z:∀b ob,b≠a->h.get? b=af ob->h'.get? b=af ob)(T:yF w h' ρ k o' a):gv w (H.set k o') h' ρ:=by
 have S:∀i b,i≠k->ρ[i]?=af b->b≠a:=λi b X M e=>by
  subst e;exact X ((qh (gi M).1 W.nodup).mp (M.trans O.symm))
 refine⟨by rw[mT];exact W.len,W.nodup,W.above,λi l X=>?_,λi ob b Y R=>?_⟩
 ·have X:=wq▸X;split at X
  ·split at X;·cases X;exact aJ rfl (P l)
   ·exact ns X
  ·have q:=W.own i l X;rw[gV];·exact q
   ·rintro rfl;rw[N] at q;exact U (dz q)
 ·by_cases V:k=i
  ·subst V;have R:=O▸R;cases R;have Y:=wq▸Y;split at Y
   ·split at Y;·cases Y;exact T
    ·exact ns Y
   ·rename_i q;exact aJ rfl q
  ·have Y:=(gV V)▸Y;refine(W.obj i ob b Y R).mono K (λx=>Z b x (S i b (Ne.symm V) R)) λl e L J x=>Z L x (S (i+1) L (λI=>?_) J);subst e;have Q:=W.own i l Y;rw[I,N] at Q;exact U (dz Q)
theorem yI{o:aR}(W:∀a∈ρ,a<h.objs.size):mQ h ρ (h.push o) (ρ++[h.objs.size]):=⟨λa V Z U X=>⟨bZ _ Z,λhm=>by
  rcases d9 hm with hm|hm;·exact X hm
  ·simp at hm;subst hm;exact dX _ (b9 Z)⟩,λk a Y=>by rw[m9 (gi Y).1];exact Y⟩
theorem gv.push(Z:gv w H h ρ)(W:449<=h.objs.size){o:AO}{ob:aR}(T:∀l,o≠.inst l)(V:yF w (h.push ob) (ρ++[h.objs.size]) H.length o h.objs.size):gv w (H++[o]) (h.push ob) (ρ++[h.objs.size]):=by
 refine⟨by simp[Z.len],?_,λa ha=>?_,λi l Y=>?_,λi O b X U=>?_⟩;·rw[List.nodup_append];refine⟨Z.nodup,by simp,λa ha b R=>?_⟩;simp at R;subst R;exact b8 (Z.old ha)
 ·rcases d9 ha with ha|ha;·exact Z.above a ha
  ·simp at ha;subst ha;exact W
 ·by_cases Q:i<H.length;·rw[m9 Q] at Y;have q:=Z.own i l Y;rw[m9 (gi q).1];exact q
  ·exfalso;rw[jh ((Qb Q))] at Y;have:=j3 Y;simp at this;exact T l this.symm
 ·by_cases Y:i<H.length;·rw[m9 Y] at X;rw[m9 (Z.len▸Y)] at U;exact(Z.obj i O b X U).mono (yI λa=>Z.old) (λx=>bZ _) λP P N P x=>bZ _
  ·have S:i=H.length:=by
    have:=(gi X).1;simp at this;exact cY (Z2 [V0,V1,.p V0 (.n 1),.p V1 (.n 1)] rfl this) ((Qb Y))
   subst S;rw[jh (bf _)] at X;rw[jh (by rw[Z.len];exact bf _)] at U;simp[Z.len] at X U;subst X U;exact V
theorem E4(r:Rel w sc env σ ρ s)(st:Step env ρ s s'):k6 w s'.heap:=λb o Y=>by
 have Z:b<449:=pP w.params▸b9 Y;refine st.keep b o (r.top b o Y) (b8 (dg Z r.locs.1)) (λx X=>dX _ (dg Z (r.locs.2 x b X))) (λW=>dX _ (dg Z (r.bK.above b W)))
theorem Rel.of(r:Rel w sc env σ ρ s)(st:Step env ρ s s')(Z:C2 sc env σ'.loc s'.heap ρ')(Y:gv w σ'.heap s'.heap ρ'):Rel w sc env σ' ρ' s':=⟨r.shape,E4 r st,br r.size st.size,r.locs,Z,Y⟩
theorem Step.all(Y:∀b o,s.heap.get? b=af o->s'.heap.get? b=af o)(X:s.heap.objs.size<=s'.heap.objs.size)(W:s'.gens=s.gens)(V:s'.os=s.os):Step env ρ s s':=⟨λb o h Z Z Z=>Y b o h,X,W,V⟩
theorem Rel.all(r:Rel w sc env σ ρ s)(Z:∀b o,s.heap.get? b=af o->s'.heap.get? b=af o)(W:s.heap.objs.size<=s'.heap.objs.size)(V:s'.gens=s.gens)(U:s'.os=s.os):Rel w sc env σ ρ s':=by
 have st:Step env ρ s s':=Step.all Z W V U;have Y:=qK r (eY.refl _ _) st;exact r.of st (r.frame.keep Y (λo=>Z _ o) (λX c o X=>Z c o) r.frame.sZ (λx c T=>(r.frame.hU x c T).1)) (r.bK.keep Y λa o X=>Z a o)
theorem step_same{k:ah}{d:Drawn}{a:az}(Z:fu a s.heap h')(ha:a=env.locals\/(∃x,env.cells.lookup x=af a)\/a∈ρ):Step env ρ s ⟨h',s.gens,d,k,s.os⟩:=by
 refine⟨λb o Y X W V=>?_,cA Z.1.symm,rfl,rfl⟩;rewrite[Z.2 b ?_] at ⊢;exact Y;rintro rfl;rcases ha with ha|⟨x,ha⟩|ha;·exact X ha
 ·exact W x ha
 ·exact V ha
theorem nQ{l:aa (ai×b6)}(nd:(l.map (·.1)).Nodup){i j:ah}{x:ai}{k Y:b6}(hi:l[i]?=af (x,k))(X:l[j]?=af (x,Y)):i=j:=by
 have Z:(l.map (·.1))[i]?=af x:=by rw[dN,hi];rfl
 have W:(l.map (·.1))[j]?=af x:=by rw[dN,X];rfl
 exact(qh ((gi Z).1) nd).mp (Z.trans W.symm)
theorem j6{l:aa (ai×b6)}(nd:(l.map (·.1)).Nodup){i:ah}{x:ai}{k:b6}(hi:l[i]?=af (x,k)):l.lookup x=af k:=by induction l generalizing i with|nil=>exact ns hi|cons y l Z=>
  obtain⟨y,X⟩:=y;rw[ek,oz] at nd;induction i using cJ with|zero=>cases hi;simp[mS]|succ i=>
   have Y:(x,k)∈l:=j3 hi;have:x≠y:=by
    rintro rfl;exact nd.1 (List.mem_map.mpr (aP _ Y rfl))
   simp[mS,fC this];exact Z nd.2 hi
theorem Rel.kind(r:Rel w sc env σ ρ s){i:ah}{x:ai}{k:b6}(hi:sc.names[i]?=af (x,k)):env.kindOf x=af k:=by
 show env.scope.names.lookup x=_;rw[r.shape.scope];exact j6 r.shape.nodup hi
set_option tactic.hygienic true in theorem Rel.assign(r:Rel w sc env σ ρ s){i:ah}{x:ai}{av:AV}{v:ao}{m:ai->aA ao}{k:ah}(hi:sc.names[i]?=af (x,NameKind.local))(D:s.heap.Ns env.locals m)(L:h'.Ns env.locals (λy=>if y=x then af v else m y))(N:fu env.locals s.heap h')(K:RA s.heap ρ av v)(J:∀(i:ah)(x:ai)(av:AV),sc.names[i]?=af (x,NameKind.local)->σ.loc[i]?=af (af av)->∃v,m x=af v/\RA s.heap ρ av v):Rel w sc env {σ with loc:=σ.loc.set i (af av)} ρ ⟨h',s.gens,s.drawn,k,s.os⟩:=by
 have st:Step env ρ s ⟨h',s.gens,s.drawn,k,s.os⟩:=step_same N (.inl rfl);have P:=qK r (eY.refl _ _) st;have V:∀b,b≠env.locals->h'.get? b=s.heap.get? b:=λb I=>N.2 b I;refine r.of st ⟨(aP _ L (λj y Y W O=>?_)),r.frame.sZ,λj y G Y W hk O=>?_,λy c M=>?_⟩ (r.bK.keep P λa o F T=>?_)
 ·by_cases X:i=j
  ·subst X;have W:=hi▸W;obtain rfl:x=y:=by cases W;rfl
   have:Y=av:=by
    have Z:(σ.loc.set i (af av))[i]?=af (af Y):=O;rw[wq] at Z;split at Z
    ·split at Z;·cases Z;rfl
     ·cases Z
    ·rename_i q;exact aJ rfl q
   subst this;exact aP v (aW rfl) (K.mono P)
  ·have Z:(σ.loc.set i (af av))[j]?=af (af Y):=O;rw[gV X] at Z;refine aQ (J j y Y W Z) λS U R=>?_;refine aP S ?_ (R.mono P);have:y≠x:=by
    rintro rfl;exact X (nQ r.shape.nodup hi W)
   rw[aI this];exact U
 ·have X:i≠j:=by
   rintro rfl;rw[hi] at W;cases W;rcases hk with hk|hk<;>cases hk
  have Z:(σ.loc.set i (af av))[j]?=af (af Y):=O;rw[gV X] at Z;refine cU (r.frame.cell j y G Y W hk Z) λc S U R E=>?_;refine bM c S U (IsCell.keep R (λo T=>?_)) (E.mono P);rw[V c (r.shape.B7 y c U)];exact T
 ·(refine bq (r.frame.hU y c M) λU Q=>aZ Q λS R=>?_;clear Q);refine⟨U,S,IsCell.keep R (λo T=>?_)⟩;rw[V c (r.shape.B7 y c M)];exact T
 ·rw[V a (λe=>r.frame.sZ (e▸F))];exact T
end
structure Way(w:aG)(sc:aU)(env:aV)(ρ:aa az)(s:ay)(σ':AS)(ρ':aa az)(s':ay):Prop where
 grow:eY ρ ρ' s.heap.objs.size
 rel:Rel w sc env σ' ρ' s'
 step:Step env ρ s s'
section
variable{w:aG}{A:bg}{env:aV}{sc:aU}{ρ ρ' Mz:aa az}{s s' s'':ay}{σ σ' MA:AS}{K:ah}
theorem Way.refl(r:Rel w sc env σ ρ s):Way w sc env ρ s σ ρ s:=⟨eY.refl _ _,r,Step.refl _ _ _⟩
theorem Way.trans(a:Way w sc env ρ s σ' ρ' s')(b:Way w sc env ρ' s' MA Mz s''):Way w sc env ρ s MA Mz s'':=⟨a.grow.trans b.grow a.step.size,b.rel,a.step.trans a.grow b.step⟩
theorem Way.k8(r:Rel w sc env σ ρ s)(a:Way w sc env ρ s σ' ρ' s'):mQ s.heap ρ s'.heap ρ':=qK r a.grow a.step
theorem Way.pv{P:AV->AS->Prop}{av:AV}{v:ao}(a:Way w sc env ρ s σ' ρ' s')(Z:RA s'.heap ρ' av v)(h:P av σ'):PV w sc env ρ s P v s':=xB av σ' ρ' h a.grow a.rel Z a.step
theorem Way.pf{P:Fl->AS->Prop}{fl:Fl}{f:Flow}(a:Way w sc env ρ s σ' ρ' s')(Z:L5 s'.heap ρ' fl f)(h:P fl σ'):PF w sc env ρ s P f s':=xB fl σ' ρ' h a.grow a.rel Z a.step
theorem Way.toks(r:Rel w sc env σ ρ s)(k:ah):Way w sc env ρ s σ ρ {s with toks:=k}:=⟨eY.refl _ _,r.toks k,Step.toks k⟩
theorem Way.all(r:Rel w sc env σ ρ s)(Z:∀b o,s.heap.get? b=af o->s'.heap.get? b=af o)(Y:s.heap.objs.size<=s'.heap.objs.size)(X:s'.gens=s.gens)(W:s'.os=s.os):Way w sc env ρ s σ ρ s':=⟨eY.refl _ _,r.all Z Y X W,Step.all Z Y X W⟩
theorem Way.push(r:Rel w sc env σ ρ s)(o:aR)(k:ah):Way w sc env ρ s σ ρ {s with heap:=s.heap.push o,toks:=k}:=Way.all r (λb Z h=>bZ _ h) (by show _<=(s.heap.push o).objs.size;rw[dJ];exact iD _) rfl rfl
theorem Way.kP{P:AV->AS->Prop}(a:Way w sc env ρ s σ' ρ' s'){t:Sem ao}{E:ao->ay->Prop}{Z:ay}(h:aB (aE pw w) A t (PV w sc env ρ' s' P) E Z):aB (aE pw w) A t (PV w sc env ρ s P) E Z:=PV.shift a.grow a.step h
theorem Way.AY{P:Fl->AS->Prop}(a:Way w sc env ρ s σ' ρ' s'){t:Sem Flow}{E:ao->ay->Prop}{Z:ay}(h:aB (aE pw w) A t (PF w sc env ρ' s' P) E Z):aB (aE pw w) A t (PF w sc env ρ s P) E Z:=PF.shift a.grow a.step h
theorem Ev.run{e:Expr}{P:AV->AS->Prop}(Y:Ev K sc e σ P)(X:c5 K A)(r:Rel w sc env σ ρ s){Q:ao->ay->Prop}(h:∀v s' av σ' ρ',P av σ'->Way w sc env ρ s σ' ρ' s'->RA s'.heap ρ' av v->Q v s'):aB (aE pw w) A (eval e env) Q b7 s:=bk (Y w A env ρ s X r) (λv s' Z=>kY Z λav σ' ρ' W V U T S=>h v s' av σ' ρ' W ⟨V,U,S⟩ T) λR R h=>h
theorem Ex.run{e:bH}{P:Fl->AS->Prop}(Y:Ex K sc e σ P)(X:c5 K A)(r:Rel w sc env σ ρ s){Q:Flow->ay->Prop}(h:∀f s' fl σ' ρ',P fl σ'->Way w sc env ρ s σ' ρ' s'->L5 s'.heap ρ' fl f->Q f s'):aB (aE pw w) A (exec e env) Q b7 s:=bk (Y w A env ρ s X r) (λv s' Z=>kY Z λW σ' ρ' V U T S R=>h v s' W σ' ρ' V ⟨U,T,R⟩ S) λO O h=>h
end
def Ts(K:ah)(sc:aU)(e:Expr)(σ:AS)(P:aH->AS->Prop):Prop:=∀(w:aG) (A:bg) (Z:aV) (W:aa az) (s:ay),c5 K A->Rel w sc Z σ W s->aB (aE pw w) A (sy e Z (eval e Z)) (λb V=>∃Y X,P b Y/\Way w sc Z W s Y X V) b7 s
def L6(K:ah)(sc:aU)(W:ku)(a b:AV)(σ:AS)(P:AV->AS->Prop):Prop:=∀(w:aG) (A:bg) (Z:aV) (Y:aa az) (s:ay),c5 K A->Rel w sc Z σ Y s->∀X vb,RA s.heap Y a X->RA s.heap Y b vb->aB (aE pw w) A (binaryOp W X vb) (PV w sc Z Y s P) b7 s
def Ii(K:ah)(sc:aU)(a:AV)(σ:AS)(P:aH->AS->Prop):Prop:=∀(w:aG) (A:bg) (Z:aV) (X:aa az) (s:ay),c5 K A->Rel w sc Z σ X s->∀V,RA s.heap X a V->aB (aE pw w) A (truthy V) (λb U=>∃Y W,P b Y/\Way w sc Z X s Y W U) b7 s
section
variable{K:ah}{sc:aU}{σ:AS}{P:AV->AS->Prop}{cI:Fl->AS->Prop}
theorem Ev.binop{l r:Expr}{N:ku}{pos:a_}(h:Ev K sc l σ λa Z=>Ev K sc r Z λb Y=>L6 K sc N a b Y P):Ev K sc (.BinOp l N r pos) σ P:=λw A R G s Q L=>wpAny_BinOp (h.run Q L λJ M a Z O U X I=>U.run Q X.rel λvb T b Y V S W H=>(X.trans W).kP (S w A R V T Q W.rel J vb (I.mono (W.k8 X.rel)) H))
theorem Ts.value{e:Expr}{P:aH->AS->Prop}(h:Ev K sc e σ λa Z=>Ii K sc a Z P)(M:∀(env:aV)(Y:Sem ao),sy e env Y=(do let v<-Y;standAt e.pos;holding [v] (truthy v))):Ts K sc e σ P:=λw A env F s O L=>wpAny_isTrue_value (h.run O L λJ T a Z W S X I=>bk (S w A env W T O X.rel J I) (λb N R=>cz R λV U H Q=>cG V U H (X.trans Q)) λG G h=>h) (M env _)
theorem nc.nil(h:cI .next σ):nc K sc [] σ cI:=λw A Z Y s X r=>sC ((Way.refl r).pf (fl:=.next) trivial h)
theorem nc.cons{st:bH}{rest:aa bH}(h:Ex K sc st σ λfl Y=>match fl with|.next=>nc K sc rest Y cI|fl=>cI fl Y):nc K sc (st::rest) σ cI:=λw A T R s S r=>wpAny_execs_cons (h.run S r λf V fl Y X U Z W=>by induction fl using Fl.casesOn with
  |next=>induction f using fR with|next=>exact Z.AY (U w A T X V S Z.rel)|_=>exact W.elim
  |brk=>induction f using fR with|brk=>exact Z.pf (fl:=.brk) W U|_=>exact W.elim
  |cont=>induction f using fR with|cont=>exact Z.pf (fl:=.cont) W U|_=>exact W.elim
  |ret x=>induction f using fR with|ret v=>exact Z.pf (fl:=.ret x) W U|_=>cases W)
theorem Ex.ret{e:Expr}{pos:a_}(h:Ev K sc e σ λav Z=>cI (.ret av) Z):Ex K sc (.Return (af e) pos) σ cI:=λw A V R s U r=>wpAny_Return_some (h.run U r λv W av Z X T Y S=>Y.pf (fl:=.ret av) S T)
theorem Ts.run{e:Expr}{P:aH->AS->Prop}(X:Ts K sc e σ P){w:aG}{A:bg}{env:aV}{ρ:aa az}{s:ay}(W:c5 K A)(r:Rel w sc env σ ρ s){Q:aH->ay->Prop}(h:∀b s' σ' Z,P b σ'->Way w sc env ρ s σ' Z s'->Q b s'):aB (aE pw w) A (sy e env (eval e env)) Q b7 s:=bk (X w A env ρ s W r) (λb s' Y=>cz Y λσ' Z V U=>h b s' σ' Z V U) λT T h=>h
theorem Ex.if{t:Expr}{b o:aa bH}{pos:a_}(h:Ts K sc t σ λc Z=>(c=aj->nc K sc b Z cI)/\(c=aC->nc K sc o Z cI)):Ex K sc (.If t b o pos) σ cI:=λw A V S s U r=>wpAny_If (h.run U r λc W Z X T Y=>by induction c using jx with|true=>exact Y.AY (T.1 rfl w A V X W U Y.rel)|false=>exact Y.AY (T.2 rfl w A V X W U Y.rel))
theorem Ev.MB{t a b:Expr}{pos:a_}(h:Ts K sc t σ λc Z=>(c=aj->Ev K sc a Z P)/\(c=aC->Ev K sc b Z P)):Ev K sc (.IfExp t a b pos) σ P:=λw A V S s U r=>wpAny_IfExp (h.run U r λc W Z X T Y=>by induction c using jx with|true=>exact Y.kP (T.1 rfl w A V X W U Y.rel)|false=>exact Y.kP (T.2 rfl w A V X W U Y.rel))
theorem Ex.break{pos:a_}(h:cI .brk σ):Ex K sc (.Break pos) σ cI:=λw A Z Y s X r=>wpAny_Break ((Way.refl r).pf (fl:=.brk) trivial h)
theorem Ex.continue{pos:a_}(h:cI .cont σ):Ex K sc (.Continue pos) σ cI:=λw A Z Y s X r=>wpAny_Continue ((Way.refl r).pf (fl:=.cont) trivial h)
theorem Ex.mono{e:bH}{P V:Fl->AS->Prop}(h:Ex K sc e σ P)(U:∀f σ,P f σ->V f σ):Ex K sc e σ V:=λw A Y T s S r=>bk (h w A Y T s S r) (λv N Z=>gu Z λR X W Q q=>kO R X W (U _ _ Q) q) λO O h=>h
theorem nc.mono{e:aa bH}{P V:Fl->AS->Prop}(h:nc K sc e σ P)(U:∀f σ,P f σ->V f σ):nc K sc e σ V:=λw A Y T s S r=>bk (h w A Y T s S r) (λv N Z=>gu Z λR X W Q q=>kO R X W (U _ _ Q) q) λO O h=>h
theorem Ev.mono{e:Expr}{P V:AV->AS->Prop}(h:Ev K sc e σ P)(U:∀f σ,P f σ->V f σ):Ev K sc e σ V:=λw A Y T s S r=>bk (h w A Y T s S r) (λv N Z=>gu Z λR X W Q q=>kO R X W (U _ _ Q) q) λO O h=>h
end
section
variable{K:ah}{sc:aU}{σ:AS}{P:AV->AS->Prop}{cI:Fl->AS->Prop}
theorem nc.run{e:aa bH}{P:Fl->AS->Prop}(X:nc K sc e σ P){w:aG}{A:bg}{env:aV}{ρ:aa az}{s:ay}(W:c5 K A)(r:Rel w sc env σ ρ s){Q:Flow->ay->Prop}{E:ao->ay->Prop}(h:∀f s' fl σ' Z,P fl σ'->Way w sc env ρ s σ' Z s'->L5 s'.heap Z fl f->Q f s'):aB (aE pw w) A (execs e env) Q E s:=bk (X w A env ρ s W r) (λv s' Y=>kY Y λV σ' Z U T S R O=>h v s' V σ' Z U ⟨T,S,O⟩ R) λN N h=>h.elim
theorem Ts.P4{e:Expr}{P:aH->AS->Prop}(X:Ts K sc e σ P){w:aG}{A:bg}{env:aV}{ρ:aa az}{s:ay}(W:c5 K A)(r:Rel w sc env σ ρ s){Q:aH->ay->Prop}{E:ao->ay->Prop}(h:∀b s' σ' Z,P b σ'->Way w sc env ρ s σ' Z s'->Q b s'):aB (aE pw w) A (sy e env (eval e env)) Q E s:=bk (X w A env ρ s W r) (λb s' Y=>cz Y λσ' Z V U=>h b s' σ' Z V U) λT T h=>h.elim
theorem Ex.while{t:Expr}{b:aa bH}{pos:a_}(I:ah->AS->Prop)(turn:∀n σ,I n σ->Ts K sc t σ λc W=>(c=aj->nc K sc b W λfl Z=>match fl with|.next=>(∃m,m<n/\I m Z)|.cont=>(∃m,m<n/\I m Z)|.brk=>cI .next Z|.ret x=>cI (.ret x) Z)/\(c=aC->cI .next W))(n:ah)(h:I n σ):Ex K sc (.While t b [] pos) σ cI:=λw A M F s E r=>by
 refine wpAny_While (codeAny_whileLoop (λn y=>∃O L,I n O/\Way w sc M F s O L y) ?_ n (cG σ F h (Way.refl r)));(refineλn D S=>cz S λW J u Y=>?_;clear S);refine(turn n W u).P4 E Y.rel λc C Z H B X=>?_;induction c using jx with
 |true=>
  rw[aW rfl];refine(B.1 rfl).run E X.rel λf z fl U T Q V N=>?_;induction fl using Fl.casesOn with
  |next=>induction f using fR with |next=>(refine aQ Q λm G R=>?_;clear Q);exact aP m G (cG U T R ((Y.trans X).trans V))|_=>cases N
  |cont=>induction f using fR with |cont=>(refine aQ Q λm G R=>?_;clear Q);exact aP m G (cG U T R ((Y.trans X).trans V))|_=>cases N
  |brk=>induction f using fR with |brk=>exact((Y.trans X).trans V).pf (fl:=.next) trivial Q|_=>cases N
  |ret x=>induction f using fR with|ret v=>exact((Y.trans X).trans V).pf (fl:=.ret x) N Q|_=>cases N
 |false=>
  rw[aI cS];exact sC ((Y.trans X).pf (fl:=.next) trivial (B.2 rfl))
end
end cZ
end
section
open PySem PySem.W PySem.Calls PyProof.Rows
namespace cZ
noncomputable def AV.lt(k:ah):AV->aH |.d _=>aj|.ref j=>decide (j<k)|.bm _ j=>decide (j<k)
noncomputable def AO.lt(k:ah):AO->aH
 |.dS l _=>l.all λp=>p.2.lt k|.inst l=>l.all λp=>match p with|some a=>a.lt k|none=>aj
 |_=>aj
open Classical in noncomputable def j7(H:aa AO):aH:=decide (∀(i:ah) (l:aa (aA AV)),H[i]?=af (.inst l)->H[i+1]?=af .C0)
theorem P5{h:aM}{ρ Z:aa az}(X:∀a,a∈Z->a∈ρ){x:DV}{v:ao}(q:R h ρ x v):R h Z x v:=R.vm (λY Y W Y V=>⟨W,λm=>V (X _ m)⟩) x v q
theorem JF{h:aM}{ρ Z:aa az}(X:∀a,a∈Z->a∈ρ){l:aa DV}{vs:aa ao}(q:RS h ρ l vs):RS h Z l vs:=RS.vm (λY Y W Y V=>⟨W,λm=>V (X _ m)⟩) q
theorem ng{ρ:aa az}{k:ah}(a:az)(h:a∈ρ.take k):a∈ρ:=oG h
theorem xE{ρ:aa az}{j k:ah}{a:az}(Z:ρ[j]?=af a)(Y:j<k):(ρ.take k)[j]?=af a:=(rT Y).trans Z
theorem RA.take{h:aM}{ρ:aa az}{k:ah}{x:AV}{v:ao}(q:RA h ρ x v)(Y:x.lt k=aj):RA h (ρ.take k) x v:=by induction x using AV.casesOn with |d x=>exact P5 ng q|ref i=>exact aQ q λa e Z=>aP a e (xE Z (b3 Y))|bm id i=>exact mK q λa b e Z X W=>HY a b e (xE Z (b3 Y)) X (λq=>W (ng _ q))
theorem uM.take{h:aM}{ρ:aa az}{k:ah}{l:aa (ai×AV)}:∀{m:aa (ai×ao)},uM h ρ l m->l.all (λp=>p.2.lt k)=aj->uM h (ρ.take k) l m:=by induction l with |nil=>exactλe V=>e|cons p l Y=> intro m q Z;have Z:=qE Z;exact cU q λv r e X W=>bM v r e (X.take Z.1) (Y W Z.2)
theorem yF.take{w:aG}{h:aM}{ρ:aa az}{i k:ah}{a:az}{o:AO}(hi:(∃l,o=.inst l)->i+1<k)(V:o.lt k=aj)(q:yF w h ρ i o a):yF w h (ρ.take k) i o a:=by induction o using AO.casesOn with |list l=>exact gu q λitems n U Z Y=>kO items n U Z (JF ng Y)|dS l N=>exact bq q λX q=>aQ q λm Z Y=>⟨X,m,Z,Y.take V⟩|inst l=>exact sV q λT m o Z X S W R Q Y=>EJ T m o Z X S (xE W (hi ⟨_,rfl⟩)) R Q (λi x P=>yH (Y i x P) λM v e O=>O.take (lV V _ (j3 e)))|_=>exact q
open Classical in theorem d_(H:aa AO):j7 H=aj↔∀(i:ah)(l:aa (aA AV)),H[i]?=af (.inst l)->H[i+1]?=af .C0:=decide_eq_true_iff
theorem gv.trunc{w:aG}{H:aa AO}{h:aM}{ρ:aa az}(r:gv w H h ρ)(k:ah)(T:j7 (H.take k)=aj)(S:(H.take k).all (·.lt k)=aj):gv w (H.take k) h (ρ.take k):=by
 have own:=(d_ _).mp T;refine⟨by simp[r.len],r.nodup.sublist (List.take_sublist _ _),λa R=>r.above a (ng _ R),own,λi o a Z U=>?_⟩;have X:i<k:=by
  have:=(gi Z).1;exact(Nat.lt_min.mp (dU▸this)).1
 have Q:=lV S _ (j3 Z);have W:=Z;rw[rT X] at Z U;refine(r.obj i o a Z U).take ?_ Q;(refineλY=>aZ Y λl V=>?_;clear Y;subst V);have:=(gi (own i l W)).1;exact(Nat.lt_min.mp (dU▸this)).1
noncomputable def jQ(h:aM)(ρ:aa az):aa AV->aa ao->Prop|[],Z=>Z=[]|x::l,Z=>∃v r,Z=v::r/\RA h ρ x v/\jQ h ρ l r
theorem jQ.nil{h:aM}{ρ:aa az}:jQ h ρ [] []:=rfl
theorem jQ.cons{h:aM}{ρ:aa az}{x:AV}{v:ao}{l:aa AV}{vs:aa ao}(Z:RA h ρ x v)(Y:jQ h ρ l vs):jQ h ρ (x::l) (v::vs):=bM v vs rfl Z Y
theorem jQ.mono{h h':aM}{ρ Z:aa az}(k:mQ h ρ h' Z){l:aa AV}:∀{vs:aa ao},jQ h ρ l vs->jQ h' Z l vs:=by induction l with |nil=>exactλe=>e|cons x l Y=>exactλq=>cU q λv r e X W=>bM v r e (X.mono k) (Y W)
theorem jQ.ds{h:aM}{ρ:aa az}{xs:aa DV}:∀{vs:aa ao},jQ h ρ (xs.map .d) vs->RS h ρ xs vs:=by induction xs with |nil=>exactλe=>e|cons x l Z=>exactλq=>cU q λv r e Y X=>bM v r e Y (Z X)
theorem jQ.length{h:aM}{ρ:aa az}{xs:aa AV}:∀{vs:aa ao},jQ h ρ xs vs->vs.length=xs.length:=by induction xs with |nil=>exactλe=>bu gW e|cons x l Z=>exactλq=>cU q λv r e X Y=>(bu gW e).trans (bu lD (Z Y))
theorem RS.length{h:aM}{ρ:aa az}{xs:aa DV}:∀{vs:aa ao},RS h ρ xs vs->vs.length=xs.length:=by induction xs with |nil=>exactλe=>bu gW e|cons x l Z=>exactλq=>cU q λv r e X Y=>(bu gW e).trans (bu lD (Z Y))
structure B8(ρ:aa az)(s s':ay):Prop where
 keep:∀b o,s.heap.get? b=af o->b∉ρ->s'.heap.get? b=af o
 size:s.heap.objs.size<=s'.heap.objs.size
 gens:s'.gens=s.gens
 os:s'.os=s.os
structure AZ(w:aG)(H:aa AO)(ρ:aa az)(s:ay):Prop where
 top:k6 w s.heap
 size:449<=s.heap.objs.size
 bK:gv w H s.heap ρ
def B9(w:aG)(ρ:aa az)(s:ay)(P:AV->aa AO->Prop)(v:ao)(s':ay):Prop:=∃Y X Z,P Y X/\eY ρ Z s.heap.objs.size/\gv w X s'.heap Z/\RA s'.heap Z Y v/\B8 ρ s s'
def Fn(K:ah)(f:az)(args:aa AV)(H:aa AO)(P:AV->aa AO->Prop):Prop:=∀(w:aG) (A:bg) (Z:aa az) (s:ay),c5 K A->AZ w H Z s->∀Y,jQ s.heap Z args Y->dw (aE pw w) A (.call (.ref f) ⟨Y,[]⟩) (wants (B9 w Z s P) b7) s
section
variable{w:aG}{A:bg}{env:aV}{sc:aU}{ρ ρ':aa az}{s s':ay}{σ σ':AS}{K:ah}{P:AV->AS->Prop}{cI:Fl->AS->Prop}{H H':aa AO}
theorem Rel.pre(r:Rel w sc env σ ρ s):AZ w σ.heap ρ s:=⟨r.top,r.size,r.bK⟩
theorem AZ.old(r:AZ w H ρ s):∀a,a∈ρ->a<s.heap.objs.size:=λa Z=>r.bK.old Z
theorem Way.called(r:Rel w sc env σ ρ s)(g:eY ρ ρ' s.heap.objs.size)(T:gv w H' s'.heap ρ')(st:B8 ρ s s'):Way w sc env ρ s {σ with heap:=H'} ρ' s':=by
 have Y:Step env ρ s s':=⟨λb o h V V S=>st.keep b o h S,st.size,st.gens,st.os⟩;have R:env.locals<s.heap.objs.size:=by
  refine aQ r.frame.ns λm Z V=>gu Z λo L J X V=>?_;exact b9 X
 have Q:∀x c,env.cells.lookup x=af c->c<s.heap.objs.size:=λx c W=>by
  refine bq (r.frame.hU x c W) λV Z=>cz Z λv o X V=>?_;exact b9 X
 have U:∀a,a<s.heap.objs.size->a∉ρ->a∉ρ':=λa O N hm=>by
  (refine aQ g λl Z M=>?_;clear g;subst Z);rcases d9 hm with hm|hm;·exact N hm
  ·exact aJ O (iZ (M a hm))
 refine⟨g,r.of Y (r.frame.keep (qK r g Y) (λo X=>st.keep _ o X r.frame.sZ) (λx c o W X=>st.keep c o X (r.frame.hU x c W).1) (U _ R r.frame.sZ) (λx c W=>U c (Q x c W) (r.frame.hU x c W).1)) T,Y⟩
theorem Way.new(r:Rel w sc env σ ρ s){o:AO}{ob:aR}(Y:∀l,o≠.inst l)(Z:mQ s.heap ρ (s.heap.push ob) (ρ++[s.heap.objs.size])->(s.heap.push ob).get? s.heap.objs.size=af ob->yF w (s.heap.push ob) (ρ++[s.heap.objs.size]) σ.heap.length o s.heap.objs.size)(W:ob.isFreed=aC)(k:ah):Way w sc env ρ s {σ with heap:=σ.heap++[o]} (ρ++[s.heap.objs.size]) {s with heap:=s.heap.push ob,toks:=k}:=Way.called r (aP _ rfl (λa X=>by simp at X;exact cA X.symm)) (r.bK.push r.size Y (Z (yI λa=>r.bK.old) (b_ _ W))) ⟨λb U V T=>bZ _ V,by show _<=(s.heap.push ob).objs.size;rw[dJ];exact iD _,rfl,rfl⟩
theorem Way.s6(r:Rel w sc env σ ρ s){k:ah}{a:az}{o o':AO}{h':aM}{tk:ah}{d:Drawn}(T:ρ[k]?=af a)(Q:σ.heap[k]?=af o)(W:o≠.C0)(V:∀l,o'≠.inst l)(Z:∀b ob,b≠a->s.heap.get? b=af ob->h'.get? b=af ob)(hsz:s.heap.objs.size<=h'.objs.size)(Y:mQ s.heap ρ h' ρ->yF w h' ρ k o' a):Way w sc env ρ s {σ with heap:=σ.heap.set k o'} ρ ⟨h',s.gens,d,tk,s.os⟩:=by
 have st:B8 ρ s ⟨h',s.gens,d,tk,s.os⟩:=⟨λb ob U X=>Z b ob (λe=>X (e▸j3 T)) U,hsz,rfl,rfl⟩;have S:mQ s.heap ρ h' ρ:=⟨λb ob U R X=>⟨st.keep b ob U X,X⟩,λR R h=>h⟩;exact Way.called r (eY.refl _ _) (r.bK.PZ T Q W V S Z (Y S)) st
end
theorem vn(w:aG):(Hf w.params).isNs kr=aj:=by kernel_rfl!
theorem E5(w:aG):(Hf w.params).isNs oU=aj:=by kernel_rfl!
def s7(x:ai)(v:ao):Prop:=∀w:aG,(Hf w.params).nsMap kr x=af v
def E6(x:ai)(v:ao):Prop:=∀w:aG,(Hf w.params).nsMap kr x=none/\(Hf w.params).nsMap oU x=af v
section
variable{K:ah}{sc:aU}{σ:AS}{P:AV->AS->Prop}{cI:Fl->AS->Prop}{w:aG}{env:aV}{ρ:aa az}{s:ay}
theorem Rel.JG(r:Rel w sc env σ ρ s):s.heap.Ns env.globals ((Hf w.params).nsMap kr):=by
 rw[r.shape.glob];exact Ns.keep (.of_isNs (vn w)) λo=>r.top _ o
theorem Rel.P6(r:Rel w sc env σ ρ s):s.heap.Ns env.builtins ((Hf w.params).nsMap oU):=by
 rw[r.shape.blt];exact Ns.keep (.of_isNs (E5 w)) λo=>r.top _ o
theorem Ev.global{x:ai}{pos:a_}{v:ao}{av:AV}(i:ah)(hi:sc.names[i]?=af (x,.globalImplicit))(Z:s7 x v)(Y:∀h ρ,RA h ρ av v)(h:P av σ)(X:(x==("__debug__":ai))=aC):Ev K sc (.Name x pos) σ P:=λw A env ρ s W r=>Name_function_global (by rw[r.shape.scope];exact r.shape.fn) (r.kind hi) (loadGlobal_global r.JG (Z w) (PV.same r (Y _ _) h)) X
def Ls(K:ah)(sc:aU)(V:aa Expr)(σ:AS)(P:aa AV->AS->Prop):Prop:=∀(w:aG) (A:bg) (env:aV) (ρ:aa az) (s:ay) (pos:a_),c5 K A->Rel w sc env σ ρ s->aB (aE pw w) A (spliced (backTo pos (i9 V env))) (λU W=>∃Z Y X,P Z Y/\Way w sc env ρ s Y X W/\jQ W.heap X Z U) b7 s
theorem Ls.nil{P:aa AV->AS->Prop}(h:P [] σ):Ls K sc [] σ P:=λw A env ρ s pos Z r=>args_nil ⟨[],σ,ρ,h,Way.refl r,.nil⟩
theorem Ls.cons{e:Expr}{Q:aa Expr}{P:aa AV->AS->Prop}(h:Ev K sc e σ λa Y=>Ls K sc Q Y λl Z=>P (a::l) Z)(M:∀env:aV,i9 (e::Q) env=(aC,eval e env)::i9 Q env):Ls K sc (e::Q) σ P:=λw A env ρ s pos O r=>args_cons (h.run O r λv T a Y V S X L=>bk (S w A env V T pos O X.rel) (λG N R=>uF R λl Z U J W I=>⟨a::l,Z,U,J,X.trans W,.cons (L.mono (W.k8 X.rel)) I⟩) λH H h=>h) (M env)
theorem Ls.run{W:aa Expr}{P:aa AV->AS->Prop}(h:Ls K sc W σ P){A:bg}(pos:a_)(V:c5 K A)(r:Rel w sc env σ ρ s){Q:aa ao->ay->Prop}(k:∀vs s' Z σ' Y,P Z σ'->Way w sc env ρ s σ' Y s'->jQ s'.heap Y Z vs->Q vs s'):aB (aE pw w) A (spliced (backTo pos (i9 W env))) Q b7 s:=bk (h w A env ρ s pos V r) (λvs s' X=>uF X λZ σ' Y U T S=>k vs s' Z σ' Y U T S) λR R h=>h
theorem ee(r:Rel w sc env σ ρ s):s.heap.objs.size∉ρ:=λZ=>dX _ (r.bK.old Z)
theorem xF{xs:aa DV}{vs:aa ao}(r:Rel w sc env σ ρ s)(Y:RS s.heap ρ xs vs)(h:P (.d (.lst xs)) σ)(n k:ah)(d:Drawn:=s.drawn) (X:d=s.drawn):PV w sc env ρ s P (.ref s.heap.objs.size) ⟨s.heap.push (bS vs.toArray n),s.gens,d,k,s.os⟩:=by
 subst X;have Z:=Way.push r (bS vs.toArray n) k;refine Z.pv (.d (.lst (items:=vs.toArray) (n:=n) (b_ _ rfl) (ee r) ?_)) h;exact Y.mono (Z.k8 r)
theorem KL{xs:aa DV}{vs:aa ao}(r:Rel w sc env σ ρ s)(Y:RS s.heap ρ xs vs)(h:P (.d (.tup xs)) σ)(n k:ah)(d:Drawn:=s.drawn) (X:d=s.drawn):PV w sc env ρ s P (.ref s.heap.objs.size) ⟨s.heap.push (jj vs.toArray n),s.gens,d,k,s.os⟩:=by
 subst X;have Z:=Way.push r (jj vs.toArray n) k;refine Z.pv (.d (.tup (items:=vs.toArray) (n:=n) (b_ _ rfl) (ee r) ?_)) h;exact Y.mono (Z.k8 r)
theorem Ev.list{U:aa Expr}{pos:a_}(h:Ls K sc U σ λX Y=>∃xs:aa DV,X=xs.map .d/\xs.length<=bw/\P (.d (.lst xs)) Y):Ev K sc (.List U pos) σ P:=λw A env ρ s Q r=>wpAny_List (h.run pos Q r λM T X Y V W=>cC W λxs e O N Z S=>by
  subst e;have R:=S.length;rw[bB] at R;exact⟨Z3 [V0,V1,V2,V1,V0,V2] rfl O (Qe R),(xF Z.rel S.ds N 0 _ _ rfl)|>λ⟨a,b,c,d⟩=>⟨a,b,c,d.1,Z.grow.trans d.2.1 Z.step.size,d.2.2.1,d.2.2.2.1,Z.step.trans Z.grow d.2.2.2.2⟩⟩)
theorem Ev.tuple{U:aa Expr}{k:ah}{pos:a_}(h:Ls K sc U σ λX Y=>∃xs:aa DV,X=xs.map .d/\xs.length<=bw/\P (.d (.tup xs)) Y):Ev K sc (.Tuple U k pos) σ P:=λw A env ρ s Q r=>wpAny_Tuple (h.run pos Q r λM T X Y V W=>cC W λxs e O N Z S=>by
  subst e;have R:=S.length;rw[bB] at R;exact⟨Z3 [V0,V1,V2,V1,V0,V2] rfl O (Qe R),(KL Z.rel S.ds N 0 _ _ rfl)|>λ⟨a,b,c,d⟩=>⟨a,b,c,d.1,Z.grow.trans d.2.1 Z.step.size,d.2.2.1,d.2.2.2.1,Z.step.trans Z.grow d.2.2.2.2⟩⟩)
theorem Ev.MC{T:aa Expr}{pos:a_}(h:Ls K sc T σ λX Z=>∃xs:aa DV,X=xs.map .d/\xs.length<=bw/\P (.ref Z.heap.length) {Z with heap:=Z.heap++[.list xs]}):Ev K sc (.List T pos) σ P:=λw A env ρ s Q r=>wpAny_List (h.run pos Q r λO W X Z U V=>cC V λxs e N M Y S=>by
  subst e;have R:=S.length;rw[bB] at R;refine⟨Z3 [V0,V1,V2,V1,V0,V2] rfl N (Qe R),?_⟩;exact(Y.trans (Way.new Y.rel (o:=.list xs) (ob:=bS O.toArray 0) (λI=>nofun) (λL J=>kO _ _ _ J (S.ds.mono L)) rfl W.toks)).pv (.ref (by rw[<-Y.rel.bK.len];simp)) M)
end
section
variable{w:aG}{A:bg}{env:aV}{sc:aU}{ρ ρ':aa az}{s s':ay}{σ σ':AS}{K:ah}{P:AV->AS->Prop}{cI:Fl->AS->Prop}{H H':aa AO}
structure FnAt(f:az)(fd:kA)(body:aa bH)(sc:aU):Prop where
 at_:∀w:aG,∃o,(Hf w.params).get? f=af o/\o.data=.func fd
 body:fd.body=.stmts body
 scope:fd.scope=sc
 co:sc.isCoroutine=aC
 gen:sc.isGenerator=aC
 kind:sc.kind=.function
 glob:fd.globals=kr
 blt:fd.builtins=oU
 clos:fd.closure=[]nodup:(sc.names.map (·.1)).Nodup
 code:∀w:aG,(Hf w.params).CodeRec fd.code fd.qualname
theorem limits(w:aG):(Hf w.params).NoLimit:=by
 refine aP _ (.of_isNs (a:=cStatics) ?_) ?_;·kernel_rfl!
 ·kernel_rfl!
theorem CodeRec.top{h:aM}{Z:ao}{q:ai}(t:k6 w h)(c:(Hf w.params).CodeRec Z q):h.CodeRec Z q:=by
 refine eR c λc o Y X W V U T=>?_;exact qF c o Y X W (t _ _ V) U T
theorem NoLimit.top{h:aM}(t:k6 w h):h.NoLimit:=by
 refine aQ (limits w) λZ Y X=>?_;exact aP Z (Ns.keep Y (λo=>t _ o)) X
theorem C3(kindOf:ai->aA b6):∀(names:aa ai)(vs:aa ao)(m:ai->aA ao),(∀x∈names,kindOf x=af .local)->names.Nodup->names.length=vs.length->∀(i:ah)(x:ai)(v:ao),names[i]?=af x->vs[i]?=af v->bindL kindOf (names.zip vs) m x=af v:=by
 intro S;induction S with
 |nil=> intro _ _ _ _ _ i x v h _;exact ns h|cons n names Z=> intro R;induction R using aO with |nil=> intro _ _ _ Y _ _ _ _ _;exact dY Y|cons u vs=>
   intro m W nd Y i x v V U;rw[oz] at nd;show bindL kindOf (names.zip vs) (if kindOf n=af .local thenλy=>if y=n then af u else m y else m) x=af v;rw[aW (W n (.head _))]
   induction i using cJ with |zero=>
    obtain rfl:n=x:=by cases V;rfl
    obtain rfl:u=v:=by cases U;rfl
    have:∀(names:aa ai) (vs:aa ao) (m:ai->aA ao),n∉names->m n=af u->bindL kindOf (names.zip vs) m n=af u:=by
     intro names;induction names with |nil=>intro vs m _ h;exact h|cons a l Z=> intro vs m T X;induction vs using aO with|nil=>exact X|cons b vs=>
       refine Z vs _ (λq=>T (.tail _ q)) ?_;have:n≠a:=λq=>T (q▸.head _);split;·show (if n=a then af b else m n)=af u;rw[aI this];exact X
       ·exact X
    exact this names vs _ nd.1 (aW rfl)|succ i=>exact Z vs _ (λy Q=>W y (.tail _ Q)) nd.2 (by simpa using Y) i x v V U
theorem jQ.get{h:aM}{ρ:aa az}{l:aa AV}:∀{vs:aa ao},jQ h ρ l vs->∀{i:ah}{a:AV},l[i]?=af a->∃v,vs[i]?=af v/\RA h ρ a v:=by induction l with |nil=>exactλZ Z Z e=>nomatch e|cons x l Y=>
  refineλq i a e=>cU q λv r X W V=>?_;rw[X];induction i using cJ with|zero=>exact aP v rfl (dz e▸W)|succ i=>exact Y V e
noncomputable def A0(n:ah)(args:aa AV):aa (aA AV):=args.map af++bN (n-args.length) none
theorem yJ{n:ah}{args:aa AV}{i:ah}{a:AV}(h:(A0 n args)[i]?=af (af a)):args[i]?=af a:=by
 unfold A0 at h;by_cases Z:i<args.length;·rw[m9 (by simpa using Z),dN] at h;cases q:args[i]? with |none=>rw[q] at h;exact ns h|some x=>have h:=q▸h;cases h;rfl
 ·rw[jh (by simpa using Z)] at h;have:=List.mem_replicate.mp (j3 h);cases this.2
theorem RA.lt{h:aM}{ρ:aa az}{x:AV}{v:ao}(q:RA h ρ x v):x.lt ρ.length=aj:=by induction x using AV.casesOn with |d x=>rfl|ref i=>exact aQ q λZ Z Y=>eF (gi Y).1|bm id i=>exact mK q λZ Z Z Y Z Z=>eF (gi Y).1
theorem uM.lt{h:aM}{ρ:aa az}{l:aa (ai×AV)}:∀{m:aa (ai×ao)},uM h ρ l m->l.all (λp=>p.2.lt ρ.length)=aj:=by induction l with|nil=>exactλW=>rfl|cons p l Z=>exactλq=>cU q λv r e Y X=>Bool.and_eq_true_iff.mpr ⟨Y.lt,Z X⟩
theorem yF.lt{w:aG}{h:aM}{ρ:aa az}{i:ah}{a:az}{o:AO}(q:yF w h ρ i o a):o.lt ρ.length=aj:=by induction o using AO.casesOn with
 |dS l S=>exact bq q λZ q=>aQ q λZ Z Y=>Y.lt|inst l=>
  refine sV q λZ Z Z Z Z Z Z Z V Y=>List.all_eq_true.mpr λp U=>aZ (List.mem_iff_getElem?.mp U) λj W=>?_;have X:j<atT.length:=i7 (gi W).1 V;have q:=Y j _ (c7 X);rw[W] at q;induction p using c9 with |none=>rfl|some R=>exact aQ q λv Z T=>T.lt
 |_=>rfl
theorem gv.wf{h:aM}(Z:gv w H h ρ):H.all (·.lt H.length)=aj/\j7 H=aj:=by
 refine⟨?_,(d_ _).mpr Z.own⟩;rw[List.all_eq_true];intro o X;refine aZ (List.mem_iff_getElem?.mp X) λi Y=>?_;have W:i<ρ.length:=Z.len▸(gi Y).1;rw[<-Z.len];exact(Z.obj i o _ Y (c7 W)).lt
def c_(H:aa AO)(PP:AV->aa AO->Prop)(fl:Fl)(σ':AS):Prop:=∃Z,(fl=.ret Z\/(fl=.next/\Z=.d .none))/\∃k,H.length<=k/\Z.lt k=aj/\((σ'.heap.take k).all (·.lt k)=aj/\j7 (σ'.heap.take k)=aj)/\PP Z (σ'.heap.take k)
theorem c_.same{PP:AV->aa AO->Prop}{x:DV}{σ:AS}{e:aa AO}(wf:H.all (·.lt H.length)=aj/\j7 H=aj)(Z:σ.heap=H++e)(h:PP (.d x) H):c_ H PP (.ret (.d x)) σ:=aP _ (.inl rfl) (lX H.length (bf _) rfl (by rw[Z,qi];exact wf;rfl) (by rw[Z,qi rfl];exact h))
theorem s8:∀{l:aa (ai×b6)}{n:ah}{acc:aa (ai×az)}{x:ai},(∃c,acc.lookup x=af c)->∃c,(cellsFrom n l acc).lookup x=af c:=by
 intro l;induction l with
 |nil=> intro _ _ _ h;exact h|cons Y l Z=>induction Y using gz with|mk y k=>
   intro n acc x X;obtain⟨c,h⟩:=X;unfold cellsFrom;split;·refine Z ?_;cases q:x==y with |true=>exact⟨n,by rw[iA,q]⟩|false=>exact⟨c,by rw[iA,q];exact h⟩
   ·exact Z ⟨c,h⟩
theorem uN{x:ai}:∀{l:aa (ai×b6)}(n:ah){acc:aa (ai×az)}{i:ah},l[i]?=af (x,f6)->∃c,(cellsFrom n l acc).lookup x=af c:=by
 intro l;induction l with
 |nil=>
  intro _ _ _ h;exact ns h|cons Y l Z=>induction Y using gz with|mk y k=> intro n acc X;induction X using cJ with |zero=> intro h;cases h;unfold cellsFrom;exact s8 ⟨n,by rw[iA,iT]⟩|succ i=>
    intro h;unfold cellsFrom;split;·exact Z _ h
    ·exact Z _ h
theorem jQ.app{h:aM}{ρ:aa az}{m:aa AV}{Z:aa ao}(Y:jQ h ρ m Z){l:aa AV}:∀{vs:aa ao},jQ h ρ l vs->jQ h ρ (l++m) (vs++Z):=by induction l with |nil=>exactλe=>by rw[show _=[] from e];exact Y|cons x l X=>exactλq=>cU q λu r e W V=>bM u (r++Z) (by rw[e];rfl) W (X V)
theorem Fn.core{f:az}{fd:kA}{body:aa bH}{V da args:aa AV}{dv:aa ao}{PP:AV->aa AO->Prop}(mk:aa ao->Args)(Y:FnAt f fd body sc)(names:aa ai)(e0:args=V++da)(hda:∀(h:aM)(ρ:aa az),jQ h ρ da dv)(N:sc.names.take args.length=names.map (·,NameKind.local))(U:names.length=args.length)(B:∀(w:aG)(s:ay)(vs:aa ao),vs.length=V.length->k6 w s.heap->BindsTo s fd (mk vs) (names.zip (vs++dv)))(u:H.all (·.lt H.length)=aj/\j7 H=aj->nc K sc body ⟨A0 sc.names.length args,H⟩ (c_ H PP)):∀(w:aG)(A:bg)(ρ:aa az)(s:ay),c5 (K+1) A->AZ w H ρ s->∀vs,jQ s.heap ρ V vs->dw (aE pw w) A (.call (.ref f) (mk vs)) (wants (B9 w ρ s PP) b7) s:=by
 intro w A ρ s hA S O M;have t:=B w s O M.length S.top;have r:jQ s.heap ρ args (O++dv):=e0▸jQ.app (hda s.heap ρ) M;generalize mk O=ag at t ⊢;generalize O++dv=vs at t r;refine aQ (Y.at_ w) λo ho hd=>?_;have Tc:vs.length=args.length:=r.length;refine(codeAny_call_function (o:=o) (fd:=fd) (body:=body) (by have:=hA.depth;show _<1000;exact Z2 [.p V0 (.n 1),.n 1000,.p V0 (.p V1 (.n 1)),.n 400] rfl this) (S.top _ _ ho) hd (by rw[Y.scope];exact Y.co) (by rw[Y.scope];exact Y.gen) Y.body (CodeRec.top S.top (Y.code w)) (t _ _ _ _ ?_));have hnl:∀x∈names,sc.names.lookup x=af .local:=λx j=>by
  refine aZ (List.mem_iff_getElem?.mp j) λi L=>?_;have W:(sc.names.take args.length)[i]?=af (x,NameKind.local):=by rw[N,dN,L];rfl
  have R:i<args.length:=by
   have:=(gi L).1;exact Z3 [.p V0 (.n 1),V1,V2,V1,.p V0 (.n 1),V2] rfl (Qe U) this
  rw[rT R] at W;exact j6 Y.nodup W
 rw[Y.clos];refine wpAny_newFunctionEnv_cells (by rw[Y.scope];exact Y.kind) (λx j=>.inl ?_) λenv he s' J=>?_;·rw[Y.scope];exact hnl _ (List.of_mem_zip j).1
 refine lW J.toInCall.same λe tk hs'=>?_;subst hs';have X:∀b o,s.heap.get? b=af o->e.get? b=af o:=J.toInCall.keep;have hL:s.heap.objs.size<=env.locals:=J.toInCall.fresh;have Sf:env.locals<e.objs.size:=by
  refine gu J.toInCall.ns λo es ep ho ø=>?_;exact b9 ho
 have hC:∀x c,env.cells.lookup x=af c->s.heap.objs.size<=c/\c≠env.locals:=λx c I=>by
  have:=J.above x c (mem_lookup I);exact⟨gy (er hL this),fN this⟩
 have T:env.scope=sc:=by rw[he];exact Y.scope
 have hold:=S.old;have hnd:names.Nodup:=by
  have W:(sc.names.take args.length).map (·.1)=names:=by rw[N,b5];exact List.map_id names
  rw[<-W,wu];exact Y.nodup.sublist (List.take_sublist _ _)
 have fz:mQ s.heap ρ e ρ:=⟨λa o hg ø N=>⟨X _ _ hg,N⟩,λø ø h=>h⟩;have nl:=NoLimit.top S.top;have G:k6 w e:=λb o u=>X b o (S.top b o u);refine⟨NoLimit.top G,?_⟩;have rel:Rel w sc env ⟨A0 sc.names.length args,H⟩ ρ ⟨e,s.gens,s.drawn,tk,s.os⟩:=by
  refine⟨⟨T,by rw[he];exact Y.glob,by rw[he];exact Y.blt,Y.kind,Y.nodup,J.apart,λx c I=>(hC x c I).2,λi x L=>by rw[he];show∃c,(cellsFrom _ fd.scope.names []).lookup x=af c;rw[Y.scope];exact uN _ L⟩,G,?_,⟨br S.size hL,λx c I=>br S.size (hC x c I).1⟩,⟨(aP _ J.toInCall.ns (λi x av L hl=>?_)),λhm=>?_,λi x kd av L hk hl=>?_,λx c I=>⟨λhm=>?_,?_⟩⟩,S.bK.keep fz (λa o ø ho=>X a o ho)⟩;·exact gy (er (br S.size hL) Sf)
  ·have ha:=yJ hl;refine aQ (r.get ha) λv hv hr=>?_;have R:i<args.length:=(gi ha).1;have W:(sc.names.take args.length)[i]?=af (x,NameKind.local):=by rw[rT R];exact L
   rw[N,dN] at W;cases q:names[i]? with|none=>rw[q] at W;cases W|some y=>
    rw[q] at W;have:y=x:=by cases W;rfl
    subst this;refine aP v (C3 _ names vs _ (λz hz=>?_) hnd (U.trans Tc.symm) i y v q hv) (hr.mono fz);show env.scope.names.lookup z=_;rw[T];exact hnl z hz
  ·exact aJ (hold _ hm) (iZ hL)
  ·have ha:=yJ hl;have R:i<args.length:=(gi ha).1;have W:(sc.names.take args.length)[i]?=af (x,kd):=by rw[rT R];exact L
   rw[N,dN] at W;exfalso;cases q:names[i]? with |none=>rw[q] at W;cases W|some y=> rw[q] at W;rcases hk with hk|hk<;>subst hk<;>cases W
  ·exact aJ (hold _ hm) (iZ (hC x c I).1)
  ·exact⟨_,J.cell x c I⟩
 refine codeAny_func ?_;have Td:c5 K (A.deeper env):=⟨by show A.depth+1+K<=400;have:=hA.depth;exact Z2 [.p (.p V0 (.n 1)) V1,.n 400,.p V0 (.p V1 (.n 1)),.n 400] rfl this,by show A.units+3+8*K<=4000;have:=hA.units;exact Z2 [.p (.p V0 (.n 3)) (.m 8 V1),.n 4000,.p V0 (.m 8 (.p V1 (.n 1))),.n 4000] rfl this,hA.handled⟩;(refine(u S.bK.wf).run Td rel λf F fl g Q E=>aQ E λav hfl D=>m_ D λk hk hlt C hpp Z hf=>?_;clear E D);have U:ρ.length<=k:=S.bK.len▸hk;have key:∀v,RA F.heap Q av v->B9 w ρ s PP v F:=λv hv=>by
  refine aQ Z.grow λl hl hl2=>?_;have hsz:s.heap.objs.size<=e.objs.size:=by
   have:s.heap.objs.size<=env.locals:=hL;exact gy (er this Sf)
  refine xB av (g.heap.take k) (Q.take k) hpp (aP (l.take (k-ρ.length)) ?_ (λx j=>br hsz (hl2 x (ng _ j)))) ?_ (hv.take hlt) ⟨λb o u N=>Z.step.keep b o (X b o u) (b8 (dg (b9 u) hL)) (λx j=>?_) N,br hsz Z.step.size,Z.step.gens,Z.step.os⟩;·rw[hl,List.take_append,i6 U]
  ·exact Z.rel.bK.trunc k C.2 C.1
  ·exact aJ (b9 u) (iZ (hC x b j).1)
 rcases hfl with rfl|⟨rfl,rfl⟩;·induction f using fR with |ret v=>exact key v hf|_=>cases hf
 ·induction f using fR with|next=>exact key _ (.d .none)|_=>cases hf
theorem Fn.intro{f:az}{fd:kA}{body:aa bH}{Z da args:aa AV}{dv:aa ao}{PP:AV->aa AO->Prop}(V:FnAt f fd body sc)(names:aa ai)(U:args=Z++da)(W:∀(h:aM)(ρ:aa az),jQ h ρ da dv)(T:sc.names.take args.length=names.map (·,NameKind.local))(X:names.length=args.length)(Y:∀(w:aG)(s:ay)(vs:aa ao),vs.length=Z.length->k6 w s.heap->BindsTo s fd ⟨vs,[]⟩ (names.zip (vs++dv)))(S:H.all (·.lt H.length)=aj/\j7 H=aj->nc K sc body ⟨A0 sc.names.length args,H⟩ (c_ H PP)):Fn (K+1) f Z H PP:=Fn.core (⟨·,[]⟩) V names U W T X Y S
noncomputable def P7:aa ao->Args|[a,b]=>⟨[a],[(("newline":ai),b)]⟩|vs=>⟨vs,[]⟩
def Ij(K:ah)(f:az)(args:aa AV)(H:aa AO)(P:AV->aa AO->Prop):Prop:=∀(w:aG) (A:bg) (ρ:aa az) (s:ay),c5 K A->AZ w H ρ s->∀Z,jQ s.heap ρ args Z->dw (aE pw w) A (.call (.ref f) (P7 Z)) (wants (B9 w ρ s P) b7) s
end
section
variable{w:aG}{A:bg}{env:aV}{sc:aU}{ρ ρ':aa az}{s s':ay}{σ σ':AS}{K:ah}{P:AV->AS->Prop}{cI:Fl->AS->Prop}{H H':aa AO}
theorem Ts.and{Z:aa Expr}{pos:a_}{P:aH->AS->Prop}(h:∀w A env ρ s,c5 K A->Rel w sc env σ ρ s->aB (aE pw w) A (allTrue .And Z env) (λb s'=>∃σ' ρ',P b σ'/\Way w sc env ρ s σ' ρ' s') b7 s):Ts K sc (.BoolOp .And Z pos) σ P:=λw A env ρ s Y r=>wpAny_isTrue_BoolOp (h w A env ρ s Y r)
def Al(K:ah)(sc:aU)(Z:BoolOp)(Y:aa Expr)(σ:AS)(P:aH->AS->Prop):Prop:=∀(w:aG) (A:bg) (env:aV) (ρ:aa az) (s:ay),c5 K A->Rel w sc env σ ρ s->aB (aE pw w) A (allTrue Z Y env) (λb s'=>∃σ' ρ',P b σ'/\Way w sc env ρ s σ' ρ' s') b7 s
theorem Ts.KN{Z:BoolOp}{Y:aa Expr}{pos:a_}{P:aH->AS->Prop}(h:Al K sc Z Y σ P):Ts K sc (.BoolOp Z Y pos) σ P:=λw A env ρ s X r=>wpAny_isTrue_BoolOp (h w A env ρ s X r)
theorem Al.KO{P:aH->AS->Prop}(h:P aj σ):Al K sc .And [] σ P:=λw A env ρ s Z r=>wpAny_allTrue_And_nil (cG σ ρ h (Way.refl r))
theorem Al.MD{P:aH->AS->Prop}(h:P aC σ):Al K sc .Or [] σ P:=λw A env ρ s Z r=>wpAny_allTrue_Or_nil (cG σ ρ h (Way.refl r))
theorem Al.and{e:Expr}{R:aa Expr}{P:aH->AS->Prop}(h:Ts K sc e σ λb Z=>(b=aj->Al K sc .And R Z P)/\(b=aC->P aC Z)):Al K sc .And (e::R) σ P:=λw A env ρ s Q r=>wpAny_allTrue_And_cons (h.run Q r λb U Z Y O X=>by induction b using jx with |true=>exact bk (O.1 rfl w A env Y U Q X.rel) (λc N T=>cz T λW V M S=>cG W V M (X.trans S)) λL L h=>h|false=>exact cG Z Y (O.2 rfl) X)
theorem Al.or{e:Expr}{R:aa Expr}{P:aH->AS->Prop}(h:Ts K sc e σ λb Z=>(b=aC->Al K sc .Or R Z P)/\(b=aj->P aj Z)):Al K sc .Or (e::R) σ P:=λw A env ρ s Q r=>wpAny_allTrue_Or_cons (h.run Q r λb U Z Y O X=>by induction b using jx with |false=>exact bk (O.1 rfl w A env Y U Q X.rel) (λc N T=>cz T λW V M S=>cG W V M (X.trans S)) λL L h=>h|true=>exact cG Z Y (O.2 rfl) X)
theorem Ts.not{e:Expr}{pos:a_}{P:aH->AS->Prop}(h:Ts K sc e σ λb Z=>P (!b) Z):Ts K sc (.UnaryOp .Not e pos) σ P:=λw A env ρ s V r=>wpAny_isTrue_Not (h.run V r λb W Z Y U X=>cG Z Y U X)
theorem Ev.Te{a b:Expr}{pos:a_}(h:Ev K sc a σ λx W=>Ii K sc x W λt Z=>(t=aj->P x Z)/\(t=aC->Ev K sc b Z P)):Ev K sc (.BoolOp .Or [a,b] pos) σ P:=λw A env ρ s Q r=>wpAny_Or2 (h.run Q r λM T x W V L Y O=>bk (L w A env V T Q Y.rel M O) (λt S R=>cz R λZ U N X=>by induction t using jx with|true=>exact(Y.trans X).pv (O.mono (X.k8 Y.rel)) (N.1 rfl)|false=>exact(Y.trans X).kP (N.2 rfl w A env U S Q X.rel)) λJ J h=>h)
theorem Ii.bool{b:aH}{P:aH->AS->Prop}(h:P b σ):Ii K sc (.d (.bool b)) σ P:=by
 rintro w A env ρ s Z r Y rfl;exact aD (cG σ ρ h (Way.refl r))
theorem bz{h:aM}{a:az}{items:aK ao}{n:ah}{sl:aK (aA ao)}(e:h.get? a=af (bS items n sl)):h.IsList a items:=cy _ e rfl ⟨n,rfl⟩
theorem RS.get{h:aM}{ρ:aa az}:∀{l:aa DV}{vs:aa ao},RS h ρ l vs->∀{i:ah}{a:DV},l[i]?=af a->∃v,vs[i]?=af v/\R h ρ a v:=by
 intro l;induction l with
 |nil=> intro _ _ i a h;exact ns h|cons U T W=> intro S Z V;induction V using cJ with
  |zero=> intro a h;obtain⟨v,r,e,Y,X⟩:=Z;cases h;exact⟨v,by rw[e];rfl,Y⟩|succ i=> intro a h;obtain⟨v,r,e,Y,X⟩:=Z;rw[e];exact W X h
theorem RS.none{h:aM}{ρ:aa az}{l:aa DV}{vs:aa ao}(Y:RS h ρ l vs){i:ah}(Z:l[i]?=Option.none):vs[i]?=Option.none:=by
 rw[List.getElem?_eq_none_iff] at Z ⊢;rw[Y.length];exact Z
end
theorem yK(h:aM)(a:az)(f:aR->aR):(h.update a f).objs.size=h.objs.size:=by simp
set_option tactic.hygienic true in theorem vp{M:Model}{Y:Ctx}{p:a_}{t:Sem Fin}{X:aa Frame}{s s':ay}{e:End}(h:Runs M Y p t X s e s'):s.heap.objs.size<=s'.heap.objs.size:=by induction h<;>(try dsimp only[Shared.setGen] at*)<;>(try rw[dJ] at*)<;>(try simp only[Z] at*)<;>first|exact bf _|assumption|exact br ‹_› ‹_›|exact wK ‹_›|(rename_i W;exact br (cA (yK _ _ _).symm) W)
theorem A1{M:Model}{X:Ctx}{p:a_}{g:ah}{r:Resume}{s s':ay}{res:GenResult}(h:Wakes M X p g r s res s'):s.heap.objs.size<=s'.heap.objs.size:=by
 have key:∀{c:Ctx}{q:a_}{u:Sem Fin}{W:aa Frame},(∃Z Y,Runs M c q u W (s.setGen g .running) Z Y/\Z.quiet=aj/\res=Z.result/\s'=Y.setGen g Z.genState)->s.heap.objs.size<=s'.heap.objs.size:=λh=>mK h λZ Y V U U T=>T▸(vp V:(s.setGen g .running).heap.objs.size<=Y.heap.objs.size);have same:s'=s->s.heap.objs.size<=s'.heap.objs.size:=λh=>h▸bf _;delta Wakes at h;generalize s.gens[g]?=x at h;induction x using c9 with|none=>exact h.elim|some x=>induction x using GenState.casesOn with
  |fresh c=>induction r using Resume.casesOn with
   |send v=>induction v using lP with|none=>exact key h|_=>exact same h.2
   |throw=>rw[h.2];exact bf _
  |suspended=>exact key h|running=>exact same h.2|finished=>exact same h.2
theorem Ik{α:Type}(M:Model)(W:Ctx)(n:ah)(t:Sem α):∀(Q:α->a_->ay->Prop)(E:ao->a_->ay->Prop)(p:a_)(s:ay),n<=s.heap.objs.size->Sem.wp M W t Q E p s->Sem.wp M W t (λa X s'=>n<=s'.heap.objs.size/\Q a X s') (λe X s'=>n<=s'.heap.objs.size/\E e X s') p s:=by induction t with |pure a=>intro Q E p s Z h;exact⟨Z,h⟩|raise e=>intro Q E p s Z h;exact⟨Z,h⟩|unsupported _=>intro Q E p s _ h;exact h|finish _=>intro Q E p s _ h;exact h|rule _ k Y=>intro Q E p s Z h;exact Y () Q E p s Z h|«at» X k Y=>intro Q E p s Z h;exact Y () Q E X s Z h|load a _ k Y=>intro Q E p s Z h;refine aQ h λo T h=>?_;exact aP o T (Y o Q E p s Z h)|update a _ f k Y=>intro Q E p s Z h;exact⟨h.1,Y () Q E p _ (by show n<=(s.heap.update a f).objs.size;rw[yK];exact Z) h.2⟩|loadIfAlive a k Y=>intro Q E p s Z h;exact Y _ Q E p s Z h|point _ k Y=>intro Q E p s Z h;exact Y () Q E p s Z h|register _ _=>intro Q E p s _ h;exact h|alloc o k Y=>intro Q E p s Z h;exact Y _ Q E p _ (by show n<=(s.heap.push o).objs.size;rw[dJ];exact jG Z) h|fresh k Y=>intro Q E p s Z h;exact Y _ Q E p _ Z h|ask k Y=>intro Q E p s Z h;exact Y _ Q E p s Z h|choose S m k Y=>intro Q E p s Z h;exact⟨h.1,Y _ Q E p _ Z h.2⟩|os q _ k Y=>intro Q E p s Z h;exact Y _ Q E p _ Z h|call c P _ _ k Y=>intro Q E p s Z h;refine cz h λr s' V h=>?_;exact cG r s' V (Y r Q E p s' (br Z (vp V)) h)|handled own k Y=>intro Q E p s Z h;exact Y _ Q E p s Z h|genState g k Y=>intro Q E p s Z h;refine aQ h λst R h=>?_;exact aP st R (Y _ Q E p s Z h)|newGen c k Y=>intro Q E p s Z h;exact Y _ Q E p _ Z h|resume g r _ k Y=>intro Q E p s Z h;refine cz h λres s' U h=>?_;exact cG res s' U (Y res Q E p s' (br Z (A1 U)) h)|yield _ _ _ _=>intro Q E p s _ h;exact h|stack k Y=>intro Q E p s Z h;exact Y _ Q E p s Z h|fork _ _=>intro Q E p s _ h;exact h|thread k Y=>intro Q E p s Z h;exact Y _ Q E p s Z h|await _ _ _ _ _=>intro Q E p s _ h;exact h
theorem A2{α:Type}{M:Model}{A:bg}{s:ay}{t:Sem α}{Q:α->ay->Prop}{E:ao->ay->Prop}(h:aB M A t Q E s):aB M A t (λa s'=>s.heap.objs.size<=s'.heap.objs.size/\Q a s') (λe s'=>s.heap.objs.size<=s'.heap.objs.size/\E e s') s:=λY p Z=>Ik M Y _ t _ _ p s (bf _) (h Y p Z)
theorem ef{α:Type}{M:Model}{A:bg}{s:ay}{t:Sem α}{Q:α->ay->Prop}(h:aB M A t (λa s'=>s.heap.objs.size<=s'.heap.objs.size->Q a s') b7 s):aB M A t Q b7 s:=bk (A2 h) (λZ Z q=>q.2 q.1) λZ Z q=>q.2
noncomputable def AV.Il:AV->aH|.d _=>aj|_=>aC
noncomputable def AV.dv:AV->DV|.d x=>x|_=>.none
inductive Mt where|append|pop|sort|index|get|setdefault|add|contains|split|join|startswith|translate|user(f:az)
set_option genCtorIdx false in set_option genInjectivity false in inductive IE where|bad|k(x:DV)|loc(i:ah)|ji(i:ah)|bR(v:ao)|bin(op:ku)(a b:IE)|cmp(op:CmpOp)(a b:IE)|not(a:IE)|neg(a:IE)|bo(op:BoolOp)(es:aa IE)|ite(t a b:IE)|tup(es:aa IE)|lst(m:aH)(es:aa IE)|dct(s:aH)|sub(a i:IE)|slc(a:IE)(lo hi st:aA IE)|lB(a:IE)(i:ah)|bnd(a:IE)(m:Mt)|call(f:IE)(es:aa IE)|KP(f:IE)(es:aa IE)(e:IE)|met(a:IE)(m:Mt)(es:aa IE)|C4(es:aa IE)|pQ|comp(s:aH)(n:ah)(imp:aa (ah×ah))(t:aa ah)(elt it:IE)(ifs:aa IE)|s9(l:aH)(f xs:IE)
set_option genCtorIdx false in set_option genInjectivity false in inductive IT where|loc(i:ah)|ji(i:ah)|tup(l:aa IT)|lB(a:IE)(i:ah)|sub(a i:IE)|bad
inductive Sr where|plain|enum|keys
set_option genCtorIdx false in set_option genInjectivity false in inductive IS where|bad|ex(e:IE)|asg(ts:aa IT)(e:IE)|Ek(is:aa ah)(es:aa IE)|P8(ts:aa IT)(es:aa IE)|aug(i:ah)(op:ku)(e:IE)|ret(e:IE)|gU(t:IE)(b o:aa IS)|vq(t:IE)(b:aa IS)|fr(s:Sr)(t:IT)(e:IE)(b:aa IS)|brk|cont|pass|del(a i:IE)|try(b:aa IS)|C5(i n:ah)(imp:aa (ah×ah))(t:aa ah)(elt it:IE)
structure Cx where
 eq:ai->ai->aH
 names:aa (ai×b6)glob:aa (ai×ao)mu:aa ah
 sd:aa ah
section
variable{α β:Type}{C:β->Prop}{d:β}
noncomputable def gw(e:aF)(f:ai->a_->β)(d:β):β:=if h:e.ctorIdx=23 then xd e h f else d
noncomputable def vv(e:aF)(f:aa aF->ah->a_->β)(d:β):β:=if h:e.ctorIdx=25 then xe e h f else d
noncomputable def yL(e:aF)(f:aF->ai->a_->β)(d:β):β:=if h:e.ctorIdx=20 then AH e h f else d
noncomputable def E7(e:aF)(f:aF->aF->a_->β)(d:β):β:=if h:e.ctorIdx=21 then AP e h f else d
noncomputable def xG(e:aF)(f:aF->aa aF->aa Keyword->a_->β)(d:β):β:=if h:e.ctorIdx=16 then AI e h f else d
noncomputable def JH(e:aF)(f:aA aF->aA aF->aA aF->a_->β)(d:β):β:=if h:e.ctorIdx=26 then AM e h f else d
noncomputable def ME(e:aF)(f:aF->aa sD->aU->a_->β)(d:β):β:=if h:e.ctorIdx=8 then AK e h f else d
noncomputable def MF(e:aF)(f:aF->aa sD->aU->a_->β)(d:β):β:=if h:e.ctorIdx=9 then AL e h f else d
noncomputable def JI(e:aF)(f:Const->ah->a_->β)(d:β):β:=if h:e.ctorIdx=19 then AJ e h f else d
noncomputable def onStr(c:Const)(f:ai->β)(d:β):β:=if h:c.ctorIdx=5 then Const.str.elim c h f else d
noncomputable def E8(e:IE)(f:ao->β)(d:β):β:=match e with|.bR v=>f v|_=>d
noncomputable def MG(v:ao)(f:cj->β)(d:β):β:=if h:v.ctorIdx=Value.ctorIdx (.type "") then AU v h f else d
noncomputable def JJ(v:ao)(f:az->β)(d:β):β:=if h:v.ctorIdx=Value.ctorIdx (.ref 0) then Value.ref.elim v h f else d
theorem dE{p:Prop}[o8 p]{G:Prop}{f:p->β}(h:C (dite p f λX=>d))(Z:∀q,C (f q)->G)(Y:¬p->C d->G):G:=by
 by_cases q:p;·rw[dif_pos q] at h;exact Z q h
 ·rw[dif_neg q] at h;exact Y q h
theorem jR{G:aF->Prop}{e f}(h:C (gw e f d))(Z:∀id p,C (f id p)->G (.Name id p))(Y:C d->G e):G e:=dE h (λq=>xd (motive_1:=λt=>∀q,C (xd t q f)->G t) e q (λa b X=>Z a b) q) λX=>Y
theorem E9{G:aF->Prop}{e f}(h:C (vv e f d))(Y:∀Z k p,C (f Z k p)->G (.Tuple Z k p))(X:C d->G e):G e:=dE h (λq=>xe (motive_1:=λt=>∀q,C (xe t q f)->G t) e q (λa b c W=>Y a b c) q) λW=>X
theorem E_{G:aF->Prop}{e f}(h:C (yL e f d))(Z:∀o a p,C (f o a p)->G (.Attribute o a p))(Y:C d->G e):G e:=dE h (λq=>AH (motive_1:=λt=>∀q,C (AH t q f)->G t) e q (λa b c X=>Z a b c) q) λX=>Y
theorem MH{G:aF->Prop}{e f}(h:C (E7 e f d))(Z:∀o a p,C (f o a p)->G (.Subscript o a p))(Y:C d->G e):G e:=dE h (λq=>AP (motive_1:=λt=>∀q,C (AP t q f)->G t) e q (λa b c X=>Z a b c) q) λX=>Y
theorem JL{G:aF->Prop}{e f}(h:C (xG e f d))(X:∀g Y Z p,C (f g Y Z p)->G (.Call g Y Z p))(W:C d->G e):G e:=dE h (λq=>AI (motive_1:=λt=>∀q,C (AI t q f)->G t) e q (λa b c g V=>X a b c g) q) λV=>W
theorem MI{G:aF->Prop}{e f}(h:C (JH e f d))(Z:∀a b c p,C (f a b c p)->G (.Slice a b c p))(Y:e.ctorIdx≠26->C d->G e):G e:=dE h (λq=>AM (motive_1:=λt=>∀q,C (AM t q f)->G t) e q (λa b c g X=>Z a b c g) q) Y
theorem Tf{G:aF->Prop}{e f}(h:C (ME e f d))(Z:∀a b c p,C (f a b c p)->G (.ListComp a b c p))(Y:C d->G e):G e:=dE h (λq=>AK (motive_1:=λt=>∀q,C (AK t q f)->G t) e q (λa b c g X=>Z a b c g) q) λX=>Y
theorem Tg{G:aF->Prop}{e f}(h:C (MF e f d))(Z:∀a b c p,C (f a b c p)->G (.SetComp a b c p))(Y:C d->G e):G e:=dE h (λq=>AL (motive_1:=λt=>∀q,C (AL t q f)->G t) e q (λa b c g X=>Z a b c g) q) λX=>Y
theorem P9{G:aF->Prop}{e f}(h:C (JI e f d))(Z:∀c k p,C (f c k p)->G (.Constant c k p))(Y:C d->G e):G e:=dE h (λq=>AJ (motive_1:=λt=>∀q,C (AJ t q f)->G t) e q (λa b c X=>Z a b c) q) λX=>Y
theorem P_{G:Const->Prop}{e f}(h:C (onStr e f d))(Z:∀s,C (f s)->G (.str s))(Y:C d->G e):G e:=dE h (λq=>Const.str.elim (motive:=λt=>∀q,C (Const.str.elim t q f)->G t) e q (λa X=>Z a) q) λX=>Y
theorem MJ{G:IE->Prop}{e f}(h:C (E8 e f d))(Z:∀v,C (f v)->G (.bR v))(Y:C d->G e):G e:=by induction e using IE.casesOn with|bR v=>exact Z v h|_=>exact Y h
theorem Th{G:ao->Prop}{e f}(h:C (MG e f d))(Z:∀t,C (f t)->G (.type t))(Y:C d->G e):G e:=dE h (λq=>AU (motive:=λt=>∀q,C (AU t q f)->G t) e q (λa X=>Z a) q) λX=>Y
theorem Qg{G:ao->Prop}{e f}(h:C (JJ e f d))(Z:∀t,C (f t)->G (.ref t))(Y:C d->G e):G e:=dE h (λq=>Value.ref.elim (motive:=λt=>∀q,C (Value.ref.elim t q f)->G t) e q (λa X=>Z a) q) λX=>Y
noncomputable def Im(e:IE)(f:az->β)(d:β):β:=E8 e (λv=>JJ v f d) d
theorem Po{G:Prop}{e:IE}{f}(h:C (Im e f d))(Y:∀a,e=.bR (.ref a)->C (f a)->G)(Z:C d->G):G:=MJ (G:=λt=>e=t->G) h (λv h=>Qg (G:=λv=>e=.bR v->G) h (λa h q=>Y a q h) λh X=>Z h) (λh X=>Z h) rfl
theorem xH{e:aF}(h:fT e.ctorIdx 23=aj):∃id p,e=.Name id p:=xd (motive_1:=λe=>∃id p,e=.Name id p) e (oQ h) λid p=>kZ id p rfl
theorem KQ{e:aF}(h:fT e.ctorIdx 25=aj):∃Z k p,e=.Tuple Z k p:=xe (motive_1:=λe=>∃Z k p,e=.Tuple Z k p) e (oQ h) λa b c=>EH a b c rfl
noncomputable def JM(l:aa α)(a d:β):β:=aO l a λZ Z=>d
noncomputable def Ag(l:aa α)(f:α->β)(d:β):β:=aO l d λa t=>JM t (f a) d
noncomputable def Sg(l:aa α)(f:α->α->β)(d:β):β:=aO l d λa t=>Ag t (f a) d
theorem A3{G:aa α->Prop}{l a}(h:C (JM l a d))(Z:C a->G [])(Y:C d->G l):G l:=by induction l using aO with|nil=>exact Z h|cons=>exact Y h
theorem kQ{G:aa α->Prop}{l f}(h:C (Ag l f d))(Y:∀a,C (f a)->G [a])(Z:C d->G l):G l:=by induction l using aO with|nil=>exact Z h|cons a t=>exact A3 (G:=λt=>G (a::t)) h (Y a) Z
theorem Qh{G:aa α->Prop}{l f}(h:C (Sg l f d))(Y:∀a b,C (f a b)->G [a,b])(Z:C d->G l):G l:=by induction l using aO with|nil=>exact Z h|cons a t=>exact kQ (G:=λt=>G (a::t)) h (Y a) Z
theorem oE{G:Prop}{o:aA α}{f:α->β}(h:C (o.elim d f))(Z:∀a,o=af a->C (f a)->G)(Y:o=none->C d->G):G:=by induction o using c9 with|none=>exact Y rfl h|some a=>exact Z a rfl h
theorem l7{G:Prop}{c:aH}{a:β}(h:C (cond c a d))(Z:c=aj->C a->G)(Y:c=aC->C d->G):G:=by induction c using jx with|true=>exact Z rfl h|false=>exact Y rfl h
end
noncomputable section
noncomputable def s_(eq:ai->ai->aH)(x:ai)(l:aa (ai×b6)):ah->aA (ah×b6):=gb (λZ=>none) (λp Z f i=>bif eq x p.1 then af (i,p.2) else f (i+1)) l
noncomputable def findS(eq:ai->ai->aH)(x:ai)(l:aa ai):ah->aA ah:=gb (λZ=>none) (λy Z f i=>bif eq x y then af i else f (i+1)) l
noncomputable def B_{α:Type}(eq:ai->ai->aH)(x:ai)(l:aa (ai×α)):aA α:=gb none (λp Z r=>bif eq x p.1 then af p.2 else r) l
noncomputable def yM:aa (ai×Mt):=[("append",.append),("pop",.pop),("sort",.sort),("index",.index),("get",.get),("setdefault",.setdefault),("add",.add),("__contains__",.contains),("split",.split),("join",.join),("startswith",.startswith),("translate",.translate),("set_seqs",.user 167),("set_seq1",.user 174),("set_seq2",.user 181),("_SequenceMatcher__chain_b",.user 188),("find_longest_match",.user 196),("get_matching_blocks",.user 203)]
noncomputable def xJ(k:b6)(x:Cx)(id:ai):aA ah:=(s_ x.eq id x.names 0).elim none λp=>bif decide (p.2=k) then af p.1 else none
noncomputable def kN(x:Cx)(id:ai):IE:=bif x.eq id "__debug__"||x.eq id "__classdict__" then .bad else(xJ .local x id).elim ((xJ .cell x id).elim ((xJ .free x id).elim ((xJ .globalImplicit x id).elim .bad λZ=>(B_ x.eq id x.glob).elim .bad .bR) .ji) .ji) .loc
noncomputable def mG(x:Cx)(i:ah)(l:aa (ai×b6)):aa (ah×ah):=gb (λZ=>[]) (λp Z f i=>(bif decide (p.2=.free) then (xJ .cell x p.1).elim [] λj=>[(i,j)] else [])++f (i+1)) l i
noncomputable def noStar(e:aF):aH:=!fT e.ctorIdx 22
noncomputable def xK(e:aF):aH:=fT e.ctorIdx 23
noncomputable def isTup(e:aF):aH:=fT e.ctorIdx 25
noncomputable def isType(T:cj)(e:IE):aH:=E8 e (λv=>MG v (λt=>t==T) aC) aC
noncomputable def isRef(a:az)(e:IE):aH:=Im e (λb=>a==b) aC
noncomputable def kT(f:aF->IE)(x:Cx)(n:ah):aF->IT:=Nat.rec (λZ=>.bad) (λZ r e=>gw e (λid Z=>(xJ .local x id).elim ((xJ .cell x id).elim .bad .ji) .loc) (vv e (λY Z Z=>bif Y.all noStar then .tup (Y.map r) else .bad) (yL e (λo a Z=>(findS x.eq a atT 0).elim .bad λi=>bif xK o then .lB (f o) i else .bad) (E7 e (λo i Z=>.sub (f o) (f i)) .bad)))) n
noncomputable def JN(x:Cx)(Z:aa aF):aA (aa ah):=gb (af []) (λe Y r=>gw e (λid Y=>(xJ .local x id).elim none λi=>r.elim none λis=>af (i::is)) none) Z
noncomputable def Fb(x:Cx)(e:aF):aA (aa ah):=gw e (λid Z=>(xJ .local x id).elim none λi=>af [i]) (vv e (λY Z Z=>bif decide (2<=Y.length) then JN x Y else none) none)
noncomputable def A4(eq:ai->ai->aH)(l:aa ai):aH:=gb aj (λx l r=>l.all (λy=>!eq x y)&&r) l
noncomputable def freeOk(x:Cx)(l:aa (ai×b6)):aH:=l.all λp=>!decide (p.2=.cell)&&(!decide (p.2=.free)||(xJ .cell x p.1).isSome)
noncomputable def xM(e:aF):aH:=!fT e.ctorIdx 7
noncomputable def baseOk(e:aF):aH:=xG e (λZ Y Z Z=>!Y.isEmpty) aj
noncomputable def gK(x:Cx)(e:aF):aA IE:=gw e (λid Z=>Im (kN x id) (λa=>af (.bR (.ref a))) none) (yL e (λo a Z=>gw o (λid Z=>bif isRef 135 (kN x id)&&x.eq a "_make" then af .pQ else none) none) none)
noncomputable def KR(x:Cx)(e:aF):aA (ai×IE×aF):=xG e (λg X Z W=>gw g (λid W=>Sg X (λf Y=>JM Z ((gK x f).elim none λg=>bif noStar Y then af (id,g,Y) else none) none) none) none) none
noncomputable def MK(x:Cx)(c:aF->IE)(v:aF)(a:ai):IE:=bif isRef 135 (c v)&&x.eq a "_make" then .pQ else(findS x.eq a atT 0).elim ((B_ x.eq a yM).elim .bad λm=>bif baseOk v then .bnd (c v) m else .bad) λi=>bif xK v then .lB (c v) i else .bad
noncomputable def KS(x:Cx)(c:aF->IE)(o:aF)(a:ai)(Z:aa aF)(Y pos:a_):IE:=bif isType "tuple" (c o) then (bif x.eq a "__new__"&&xK o&&(Y.endLine==pos.line)&&decide (Z.length<29) then .C4 (Z.map c) else .bad) else(B_ x.eq a yM).elim .bad λm=>bif baseOk o&&(Y.endLine==pos.line)&&decide (Z.length<29) then .met (c o) m (Z.map c) else .bad
noncomputable def A5(x:Cx)(c:aF->IE)(f e:aF):IE:=bif noStar e then ((KR x e).elim (.call (c f) [c e]) λr=>bif isType "map" (kN x r.1)&&isType "tuple" (c f) then .s9 aC r.2.1 (c r.2.2) else bif isType "map" (kN x r.1)&&isType "list" (c f) then .s9 aj r.2.1 (c r.2.2) else .call (c f) [c e]) else .bad
noncomputable def Fd(x:Cx)(c:aF->IE)(pos:a_)(f:aF)(Z:aa aF):IE:=yL f (λo a Y=>bif Z.all noStar then KS x c o a Z Y pos else .bad) (gw f (λid p=>Ag Z (A5 x c (.Name id p)) (bif Z.all noStar then .call (c (.Name id p)) (Z.map c) else .bad)) .bad)
noncomputable def Qi(x:Cx)(c:aF->IE)(f:aF)(W:aa aF)(Z:aa Keyword):IE:=gw f (λid p=>Ag W (λY=>Ag Z (λX=>X.arg.elim .bad λk=>bif x.eq k "newline"&&noStar Y then Im (c (.Name id p)) (λa=>.KP (.bR (.ref a)) [c Y] (c X.value)) .bad else .bad) .bad) .bad) .bad
noncomputable def rH(x:Cx)(m:ai):aH:=(xJ .cell x m).isSome
noncomputable def inner(x:Cx)(sc:aU):Cx:={x with names:=sc.names.map λp=>(p.1,bif decide (p.2=.free)&&rH x p.1 then .cell else p.2)}
noncomputable def xN(x:Cx)(s:aH)(sc:aU)(it:aF):aH:=!s&&decide (sc.kind=.function)&&A4 x.eq (sc.names.map (·.1))&&freeOk x sc.names&&xM it
noncomputable def yN(x:Cx)(s:aH)(c:Cx->aF->IE)(elt:aF)(sc:aU)(Z:aa sD):IE:=Ag Z (λg=>bif decide (g.is_async=0)&&xN x s sc g.iter then (Fb (inner x sc) g.target).elim .bad λis=>.comp s sc.names.length (mG x 0 sc.names) is (c (inner x sc) elt) (c x g.iter) (g.ifs.map (c (inner x sc))) else .bad) .bad
noncomputable def ML(c:aF->IE)(v i:aF):IE:=JH i (λlo Z st Y=>.slc (c v) (lo.map c) (Z.map c) (st.map c)) (.sub (c v) (c i))
noncomputable def qL(c:Const):IE:=Const.casesOn c (.k .none) (λb=>.k (.bool b)) (λi=>.k (.int i)) (λZ=>.bad) (λZ Z=>.bad) (λs=>.k (.str s)) (λb=>.k (.bytes b.toArray)) .bad
noncomputable def Qk(c:aF->IE)(l:aF)(Z:aa CmpOp)(X:aa aF):IE:=Ag Z (λY=>Ag X (λr=>bif decide (Y=.In)||decide (Y=.NotIn) then .bad else .cmp Y (c l) (c r)) .bad) .bad
noncomputable def Ql(e:IE)(Z:UnaryOp):IE:=bif decide (Z=.Not) then .not e else bif decide (Z=.USub) then .neg e else .bad
noncomputable def kE(x:Cx)(n:ah)(e:aF):IE:=by
 refine Nat.rec (motive:=λV=>Cx->aF->IE) (λV V=>.bad) (λV r x e=>?_) n x e;induction e using fQ with |Constant c=>exact qL c|Name id=>exact kN x id|BinOp a X b=>exact .bin X (r x a) (r x b)|UnaryOp X a=>exact Ql (r x a) X|BoolOp X Z=>exact .bo X (Z.map (r x))|IfExp t a b=>exact .ite (r x t) (r x a) (r x b)|Compare l U S=>exact Qk (r x) l U S|Tuple Z=>exact .tup (Z.map (r x))|List Z p=>exact .lst (x.mu.contains p.line) (Z.map (r x))|Dict R Q p=>exact bif R.isEmpty&&Q.isEmpty then .dct (x.sd.contains p.line) else .bad|Subscript v i=>exact ML (r x) v i|ListComp Y T sc=>exact yN x aC r Y sc T|SetComp Y T sc=>exact yN x aj r Y sc T|Attribute v a=>exact MK x (r x) v a|Call f Z W pos=>exact bif W.isEmpty then Fd x (r x) pos f Z else Qi x (r x) f Z W|_=>exact .bad
noncomputable def MM(x:Cx)(e:aF):aA (Sr×aF):=xG e (λf Y Z q=>gw f (λid W=>Ag Y (λe=>JM Z (bif isType "enumerate" (kN x id)&&noStar e then af (.enum,e) else none) none) none) (yL f (λe a X=>JM Y (JM Z (bif x.eq a "keys"&&baseOk e&&(X.endLine==q.line) then af (.keys,e) else none) none) none) none)) none
noncomputable def KU(k:Sr)(t:aF):aH:=Sr.casesOn k aj (isTup t) aj
noncomputable def Qm(c:aF->IE)(Z:aa aF):IS:=Ag Z (λt=>E7 t (λo i Y=>.del (c o) (c i)) .bad) .bad
noncomputable def Qo(x:Cx)(Z:ku)(e:IE)(t:aF):IS:=gw t (λid Y=>(xJ .local x id).elim .bad λi=>.aug i Z e) .bad
noncomputable def rI(e:aF):aH:=fT e.ctorIdx 8||(fT e.ctorIdx 9||Nat.beq e.ctorIdx 10)
noncomputable def KV(x:Cx)(line:ah)(Z:aa aF):aA (aa (ai×ah)):=gb (af []) (λt Y r=>gw t (λid p=>bif p.line==line then ((xJ .local x id).elim none λi=>r.elim none λis=>bif is.any (λq=>q.2==i) then none else af ((id,i)::is)) else none) none) Z
noncomputable def rJ(Z:aa aF):ah:=(Z.head?.map (·.pos.line)).getD 0
noncomputable def MN(x:Cx)(ts Z:aa aF):IS:=bif ts.length==2||ts.length==3 then (bif Z.length==ts.length&&Z.all noStar&&!Z.all (foldedForSure 8)&&!Z.all (constantsAlone 8) then((KV x (rJ ts) ts).elim .bad λis=>.Ek (is.map (·.2)) (Z.map (kE x 60))) else .bad)else bif ts.all noStar then .P8 (ts.map (kT (kE x 60) x 10)) (Z.map (kE x 60)) else .bad
noncomputable def plainT(Z:aa aF)(e:aF):aH:=Ag Z (λt=>!((isTup t||Nat.beq t.ctorIdx 24)&&isTup e)) aj
noncomputable def JO(x:Cx)(line:ah)(W:aa aF)(e:aF):IS:=Ag W (λt=>gw t (λid p=>ME e (λZ Y sc pos=>Ag Y (λg=>bif p.line==pos.line&&!(sc.names.any λq=>x.eq q.1 id&&(q.2==.local||q.2==.cell)) then((xJ .local x id).elim .bad λi=>.asg [.loc i] (yN x aC (λy=>kE y 59) Z sc [g])) else .bad) .bad) .bad) (vv t (λns X X=>Ag ns (λn=>gw n (λid X=>MF e (λZ Y sc X=>Ag Y (λg=>bif decide (g.is_async=0)&&g.ifs.isEmpty&&xN x aC sc g.iter then((xJ .local x id).elim .bad λi=>(Fb (inner x sc) g.target).elim .bad λis=>.C5 i sc.names.length (mG x 0 sc.names) is (kE (inner x sc) 60 Z) (kE x 60 g.iter)) else .bad) .bad) .bad) .bad) .bad) .bad)) .bad
noncomputable def Ca(x:Cx)(Z:aa aF)(e:aF):IS:=bif Z.all noStar&&plainT Z e then .asg (Z.map (kT (kE x 60) x 10)) (kE x 60 e) else .bad
noncomputable def JP(x:Cx)(Z:aa aF)(e:aF):IS:=Ag Z (λt=>vv t (λY X X=>vv e (λW X X=>MN x Y W) (Ca x Z e)) (Ca x Z e)) (Ca x Z e)
noncomputable def Fe(e:aF):aH:=JI e (λc Z Z=>onStr c (λZ=>aj) aC) aC
noncomputable def kS(x:Cx)(n:ah)(s:bH):IS:=by
 refine Nat.rec (motive:=λY=>bH->IS) (λY=>.bad) (λY r s=>?_) n s;induction s using Stmt.casesOn with |Expr e=>exact bif Fe e then .pass else bif rI e then .bad else .ex (kE x 60 e)|Assign Z e p=>exact bif rI e then JO x p.line Z e else JP x Z e|AugAssign t X e=>exact Qo x X (kE x 60 e) t|Return v=>exact v.elim (.ret (.k .none)) λe=>.ret (kE x 60 e)|If t b o=>exact .gU (kE x 60 t) (b.map r) (o.map r)|While t b o=>exact JM o (.vq (kE x 60 t) (b.map r)) .bad|For t e b o=>exact JM o ((MM x e).elim (.fr .plain (kT (kE x 60) x 10 t) (kE x 60 e) (b.map r)) λq=>bif KU q.1 t then .fr q.1 (kT (kE x 60) x 10 t) (kE x 60 q.2) (b.map r) else .bad) .bad|Break=>exact .brk|Continue=>exact .cont|Pass=>exact .pass|Delete Z=>exact Qm (kE x 60) Z|Try b h o f=>exact bif !h.isEmpty&&o.isEmpty&&f.isEmpty then .try (b.map r) else .bad|_=>exact .bad
end
noncomputable def JQ:aa (ai×ao):=[("len",.builtin "len"),("isinstance",.builtin "isinstance"),("issubclass",.builtin "issubclass"),("chr",.builtin "chr"),("min",.builtin "min"),("max",.builtin "max")]
noncomputable def JR:aa (ai×ao):=[("range",.type "range"),("tuple",.type "tuple"),("map",.type "map"),("bytes",.type "bytes"),("enumerate",.type "enumerate"),("type",.type "type"),("list",.type "list"),("set",.type "set"),("str",.type "str"),("bytearray",.type "bytearray"),("bool",.type "bool"),("int",.type "int"),("float",.type "float"),("complex",.type "complex"),("dict",.type "dict"),("frozenset",.type "frozenset")]
noncomputable def JT:aa (ai×az):=[("_buffer",253),("_truth",260),("b2a_base64",268),("b64encode",276),("urlsafe_b64encode",283),("fspath",356),("splitroot",370),("normpath",377),("commonpath",382),("_law_written",389),("_law_octets",396),("_law_gap",403),("_law_junk",410),("_law_alike",417),("_law_run",424),("_law_taken",431),("_law_pairs",436),("_law_blocks",443),("law",448),("Match",135),("SequenceMatcher",242)]
noncomputable def jS:aa dQ:=[65,66,67,68,69,70,71,72,73,74,75,76,77,78,79,80,81,82,83,84,85,86,87,88,89,90,97,98,99,100,101,102,103,104,105,106,107,108,109,110,111,112,113,114,115,116,117,118,119,120,121,122,48,49,50,51,52,53,54,55,56,57,43,47]
noncomputable def kR:aa dQ:=(cW 256).map λi=>if i=43 then 45 else if i=47 then 95 else UInt8.ofNat i
noncomputable def JU:aa (ai×ao):=[("_B64",.bytes ⟨jS⟩ 593),("_urlsafe_encode_translation",.bytes ⟨kR⟩ 624)]
noncomputable def globT:aa (ai×ao):=JU++(JQ++(JR++JT.map λ(x,a)=>(x,.ref a)))
noncomputable def pe{α:Type}(l:aa α)(lo hi st:aA aq):aa α:=(qv (iH lo hi st l.length).1 (iH lo hi st l.length).2.1 (iH lo hi st l.length).2.2).filterMap (l[·]?)
noncomputable def DV.eH(n:ah):DV->aH:=Nat.rec (λx=>DV.casesOn x aC (λZ=>aC) (λZ=>aj) qC (λZ=>aC) (λZ=>aC) (λZ=>aC) (λZ=>aC) (λZ=>aC) λZ Z Z=>aC) (λZ r x=>DV.casesOn x aC (λZ=>aC) (λZ=>aj) qC (λZ=>aC) (λZ=>aC) (gb aj λx Z q=>r x&&q) (gb aj λx Z q=>r x&&q) (λZ=>aC) λZ Z Z=>aC) n
noncomputable def DV.tg(n:ah):aa DV->aH:=gb aj λx Z q=>x.eH n&&q
noncomputable def Ff:ao->AV |.bytes b _=>.d (.bytes b)|v=>.d (.con v)
noncomputable def listAt(H:aa AO)(k:ah):aA (aa DV):=match H[k]? with|some (.list l)=>af l|_=>none
theorem bI{H:aa AO}{k:ah}{l:aa DV}:listAt H k=af l↔H[k]?=af (.list l):=by
 delta listAt;generalize H[k]?=x;induction x using c9 with|none=>exact⟨ns,ns⟩|some o=>induction o using AO.casesOn with|list m=>exact⟨λh=>bu (λl=>af (AO.list l)) (dz h),λh=>bu af (AO.list.inj (dz h))⟩|_=>exact⟨ns,λh=>AO.noConfusion (dz h)⟩
def cD(a:AV)(f:DV->Prop):Prop:=AV.casesOn a f (λZ=>bG) (λZ Z=>bG)
def cR(a:AV)(f:ah->Prop):Prop:=AV.casesOn a (λZ=>bG) f (λZ Z=>bG)
noncomputable def dI:DV->aA aq|.int i=>af i|_=>none
noncomputable def dS:DV->aA ai|.str i=>af i|_=>none
noncomputable def dB:DV->aA (aK dQ) |.bytes i=>af i|_=>none
noncomputable def dC:DV->aA ao|.con i=>af i|_=>none
noncomputable def dL:DV->aA (aa DV) |.lst i=>af i|_=>none
noncomputable def dT:DV->aA (aa DV) |.tup i=>af i|_=>none
def so{α:Type}(o:aA α)(f:α->Prop):Prop:=c9 o bG f
def cX{α:Type}(d:DV->aA α)(a:AV)(f:α->Prop):Prop:=cD a λx=>so (d x) f
def a0(as:aa AV)(p:Prop):Prop:=aO as p λZ Z=>bG
def a1(as:aa AV)(f:AV->Prop):Prop:=aO as bG λa as=>a0 as (f a)
def a2(as:aa AV)(f:AV->AV->Prop):Prop:=aO as bG λa as=>a1 as (f a)
noncomputable def JV:AV->aH |.d (.con (.builtin _))=>aC|_=>aj
noncomputable def l8(H:aa AO)(k:ah):aA (aa (aA AV)):=match H[k]? with|some (.inst l)=>af l|_=>none
def KW(H:aa AO)(x:AV)(i:ah)(P:AV->Prop):Prop:=cR x λk=>so (l8 H k) λl=>so (l[i]?) λo=>so o λZ=>JV Z=aj/\P Z
def MO(x:AV)(i:ah)(v:AV)(P:AS->Prop)(σ:AS):Prop:=cR x λk=>so (l8 σ.heap k) λl=>P {σ with heap:=σ.heap.set k (.inst (l.set i (af v)))}
noncomputable def qM(H:aa AO):AV->aA (aa DV) |.d (.lst l)=>af l|.ref k=>listAt H k|_=>none
noncomputable def jk(H:aa AO):AV->aA (aa DV) |.d (.lst l)=>af l|.d (.tup l)=>af l|.d (.bytes b)=>af (b.toList.map λx=>.int x.toNat)|.d (.vj a b c)=>bif decide (c=1)&&w9 a b 1 then af ((cW (ja a b 1).toNat).map λ(i:ah)=>.int (a+(i:aq)))else none|.ref k=>listAt H k|_=>none
theorem l9{C:Prop}{H:aa AO}{a:AV}{l:aa DV}(h:qM H a=af l)(Z:a=.d (.lst l)->C)(Y:∀k,a=.ref k->listAt H k=af l->C):C:=by induction a using AV.casesOn with
 |d x=>induction x using DV.casesOn with|lst x=>exact Z (bu _ (bu _ (dz h)))|_=>exact ns h
 |ref k=>exact Y k rfl h|bm=>exact ns h
def KX(x y:AV)(P:AV->AS->Prop)(σ:AS):Prop:=match x,y with |.d (.int a),.d (.int b)=>P (.d (.int (a+b))) σ|.d (.str a),.d (.str b)=>a.length+b.length<=bw/\P (.d (.str (a++b))) σ|.d (.lst a),.d (.lst b)=>a.length+b.length<=bw/\P (.d (.lst (a++b))) σ|.ref k,.d (.lst b)=>(match listAt σ.heap k with |some a=>a.length+b.length<=bw/\P (.ref σ.heap.length) {σ with heap:=σ.heap++[.list (a++b)]}|_=>bG)|_,_=>bG
def uO(f:aq->aq->AS->(AV->AS->Prop)->Prop)(x y:AV)(P:AV->AS->Prop)(σ:AS):Prop:=match x,y with|.d (.int a),.d (.int b)=>f a b σ P|_,_=>bG
def MP(x y:AV)(P:AV->AS->Prop)(σ:AS):Prop:=match x,y with|.d (.int a),.d (.int b)=>IntMulOk a b/\P (.d (.int (a*b))) σ|.d (.str a),.d (.int b)=>MulOk a b/\P (.d (.str (Txt.mul a b))) σ|_,_=>bG
def uP(Z:ku)(x y:AV)(P:AV->AS->Prop)(σ:AS):Prop:=match Z with |.Add=>KX x y P σ|.Sub=>uO (λa b σ P=>P (.d (.int (a-b))) σ) x y P σ|.Mult=>MP x y P σ|.Mod=>uO (λa b σ P=>b≠0/\P (.d (.int (a.fmod b))) σ) x y P σ|.FloorDiv=>uO (λa b σ P=>b≠0/\AG a b=aC/\P (.d (.int (a.fdiv b))) σ) x y P σ|.Pow=>uO (λa b σ P=>(0<=b/\(sN a:aq)*b<=2^27)/\P (.d (.int (a^b.toNat))) σ) x y P σ|.LShift=>uO (λa b σ P=>(0<=b/\b<=1000000/\a.natAbs<2^64)/\P (.d (.int (a*2^b.toNat))) σ) x y P σ|.RShift=>uO (λa b σ P=>0<=b/\P (.d (.int (a.fdiv (2^b.toNat)))) σ) x y P σ|.BitOr=>uO (λa b σ P=>P (.d (.int (Builtin.bitOr a b))) σ) x y P σ|.BitAnd=>uO (λa b σ P=>P (.d (.int (sM a b))) σ) x y P σ|_=>bG
def oo{α Z:Type}(a:aA α)(b:aA Z)(f:α->Z->Prop)(p:Prop):Prop:=c9 a p λx=>c9 b p (f x)
open Classical in def Qq(H:aa AO)(x y:AV)(P:aH->Prop):Prop:=AV.casesOn x (λa=>AV.casesOn y (λb=>oo (dI a) (dI b) (λi j=>P (decide (i=j))) (oo (dS a) (dS b) (λi j=>P (decide (i=j))) ((a.eH 8=aj/\b.eH 8=aj)/\P (decide (a=b))))) (λk=>so (dL a) λa=>so (listAt H k) λb=>((DV.lst a).eH 8=aj/\(DV.lst b).eH 8=aj)/\P (decide (a=b))) (λZ Z=>bG)) (λk=>cX dL y λb=>so (listAt H k) λa=>((DV.lst a).eH 8=aj/\(DV.lst b).eH 8=aj)/\P (decide (a=b))) (λZ Z=>bG)
def Qu(x y:AV)(P:aH->Prop):Prop:=match x,y with |.d .none,.d .none=>P aj|.d (.con (.type a)),.d (.con (.type b))=>P ((jN a)==(jN b))|.d (.lst _),.d .none=>P aC|.d (.int _),.d .none=>P aC|.d (.bytes _),.d .none=>P aC|.d (.bool _),.d .none=>P aC|.ref _,.d .none=>P aC|_,_=>bG
def Fg(f:aq->aq->aH)(x y:AV)(P:aH->Prop):Prop:=match x,y with|.d (.int a),.d (.int b)=>P (f a b)|_,_=>bG
def Fi(Z:CmpOp)(H:aa AO)(x y:AV)(P:aH->Prop):Prop:=match Z with |.Eq=>Qq H x y P|.NotEq=>Qq H x y λb=>P (!b)|.Lt=>Fg (λa b=>decide (a<b)) x y P|.LtE=>Fg (λa b=>decide (a<=b)) x y P|.Gt=>Fg (λa b=>decide (b<a)) x y P|.GtE=>Fg (λa b=>decide (b<=a)) x y P|.Is=>Qu x y P|.IsNot=>Qu x y λb=>P (!b)|_=>bG
def Fj(H:aa AO)(x:AV)(P:aH->Prop):Prop:=match x with |.d .none=>P aC|.d (.bool b)=>P b|.d (.int i)=>P (i !=0)|.d (.str s)=>s.length<2^62/\P ((s.length:aq) !=0)|.d (.lst l)=>l.length<2^62/\P (!l.isEmpty)|.d (.tup l)=>l.length<2^62/\P (!l.isEmpty)|.ref k=>(match listAt H k with|some l=>l.length<2^62/\P (!l.isEmpty)|_=>bG)|.d (.con (.ref a))=>a=410/\P aj|_=>bG
def MQ(l:aa DV)(i:aq)(f:DV->Prop):Prop:=rQ i (λk=>so (l[k]?) f) (λk=>k<l.length/\so (l[l.length-(k+1)]?) f)
def MR(H:aa AO)(x y:AV)(P:AV->Prop):Prop:=cX dI y λi=>AV.casesOn x (λx=>DV.casesOn x bG (λZ=>bG) (λZ=>bG) (λs=>(0<=i/\i<s.length/\s.length<2^62)/\∀c,s.cps[i.toNat]?=af c->P (.d (.str ⟨#[c]⟩))) (λb=>(0<=i/\i<b.size/\b.size<=2^40)/\P (.d (.int (b.toList.getD i.toNat 0).toNat))) (λZ=>bG) (λl=>l.length<2^62/\rQ i (λk=>so (l[k]?) λv=>P (.d v)) λZ=>bG) (λl=>l.length<2^62/\MQ l i λv=>P (.d v)) (λZ=>bG) (λZ Z Z=>bG)) (λk=>so (listAt H k) λl=>l.length<2^62/\MQ l i λv=>P (.d v)) (λZ Z=>bG)
noncomputable def qN(x:ai)(lo hi:aA aq):ai:=if (lO lo hi 1 x.length).length==x.length then x else ⟨((lO lo hi 1 x.length).filterMap (x.cps[·]?)).toArray⟩
def MS(x:AV)(lo hi st:aA aq)(P:AV->Prop):Prop:=match x with|.d (.lst l)=>l.length<=bw/\st≠af 0/\P (.d (.lst (pe l lo hi st)))|.d (.str s)=>(st=none/\(qN s lo hi).length<=bw)/\P (.d (.str (qN s lo hi)))|_=>bG
def MT(as:aa AV)(P:AV->AS->Prop)(σ:AS):Prop:=a2 as λa b=>cX dC a λc=>cX dT b λl=>(c=.type "str"/\l=[.con (.type "str"),.con (.type "bytes")])/\P (.d (.bool aj)) σ
noncomputable def tn(H:aa AO)(k:ah):aA (aa (ai×AV)):=match H[k]? with|some (.dS l _)=>af l|_=>none
noncomputable def Fo(H:aa AO)(k:ah):aA (aa (aq×aq)):=match H[k]? with|some (.dI l)=>af l|_=>none
noncomputable def setAt(H:aa AO)(k:ah):aA (aa ai):=match H[k]? with|some (.set l _)=>af l|_=>none
theorem k9{H:aa AO}{k:ah}{l:aa (ai×AV)}:tn H k=af l↔∃o,H[k]?=af (.dS l o):=by
 delta tn;generalize H[k]?=x;induction x using c9 with |none=>exact⟨ns,λh=>aZ h λo h=>ns h⟩|some o=>induction o using AO.casesOn with |dS m o=>exact⟨λh=>⟨o,bu (λl=>af (AO.dS l o)) (dz h)⟩,λh=>aZ h λo h=>bu af (AO.dS.inj (dz h)).1⟩|_=>exact⟨ns,λh=>aZ h λo h=>AO.noConfusion (dz h)⟩
theorem pR{H:aa AO}{k:ah}{l:aa (aq×aq)}:Fo H k=af l↔H[k]?=af (.dI l):=by
 delta Fo;generalize H[k]?=x;induction x using c9 with|none=>exact⟨ns,ns⟩|some o=>induction o using AO.casesOn with |dI m=>exact⟨λh=>bu (λl=>af (AO.dI l)) (dz h),λh=>bu af (AO.dI.inj (dz h))⟩|_=>exact⟨ns,λh=>AO.noConfusion (dz h)⟩
theorem gB{H:aa AO}{k:ah}{l:aa ai}:setAt H k=af l↔∃o,H[k]?=af (.set l o):=by
 delta setAt;generalize H[k]?=x;induction x using c9 with |none=>exact⟨ns,λh=>aZ h λo h=>ns h⟩|some o=>induction o using AO.casesOn with |set m o=>exact⟨λh=>⟨o,bu (λl=>af (AO.set l o)) (dz h)⟩,λh=>aZ h λo h=>bu af (AO.set.inj (dz h)).1⟩|_=>exact⟨ns,λh=>aZ h λo h=>AO.noConfusion (dz h)⟩
def MU(x:AV)(as:aa AV)(P:AV->AS->Prop)(σ:AS):Prop:=cR x λk=>a0 as (so (listAt σ.heap k) λl=>l.length<=bw/\∃r y,l=r++[y]/\P (.d y) {σ with heap:=σ.heap.set k (.list r)})
noncomputable def cO(x:ai):aa ai->ah|[]=>0|y::l=>if y=x then 0 else cO x l+1
def Fp(x:AV)(as:aa AV)(P:AV->AS->Prop)(σ:AS):Prop:=cX dL x λl=>a1 as λa=>cX dS a λx=>∃Z:aa ai,l=Z.map .str/\x∈Z/\Z.length<=bw/\P (.d (.int (cO x Z))) σ
def Fq(x:AV)(as:aa AV)(P:AV->AS->Prop)(σ:AS):Prop:=cX dS x λx=>a1 as λa=>cX dS a λy=>(y.length≠0/\x.length<=bw/\(Txt.split x y).length<=bw)/\P (.d (.lst ((Txt.split x y).map .str))) σ
def JW(x:AV)(as:aa AV)(P:AV->AS->Prop)(σ:AS):Prop:=cX dS x λx=>a1 as λa=>so (qM σ.heap a) λl=>∃Z:aa ai,l=Z.map .str/\(Z.map (·.length)).sum+Z.length*x.length<=16777216/\P (.d (.str (bX x Z))) σ
def Cb(x:AV)(as:aa AV)(P:AV->AS->Prop)(σ:AS):Prop:=cX dS x λx=>a1 as λa=>cX dS a λy=>P (.d (.bool (Txt.startswith x y))) σ
def Cc(x:AV)(as:aa AV)(P:AV->AS->Prop)(σ:AS):Prop:=cX dB x λb=>a1 as λa=>cX dB a λt=>(t.size=256/\b.size<=bw)/\P (.d (.bytes (b.map λc=>t.getD c.toNat c))) σ
def JX(x:AV)(as:aa AV)(P:AV->AS->Prop)(σ:AS):Prop:=cR x λk=>a2 as λb a=>cX dS b λx=>so (tn σ.heap k) λl=>P ((l.lookup x).getD a) σ
def Cd(x:AV)(as:aa AV)(P:AV->AS->Prop)(σ:AS):Prop:=cR x λk=>a2 as λb a=>cX dS b λx=>so (tn σ.heap k) λl=>l.length<=bw/\(∀v,l.lookup x=af v->P v σ)/\(l.lookup x=none->∀o,P a {σ with heap:=σ.heap.set k (.dS (l++[(x,a)]) o)})
def JY(x:AV)(as:aa AV)(P:AV->AS->Prop)(σ:AS):Prop:=cR x λk=>a1 as λb=>cX dS b λx=>so (setAt σ.heap k) λl=>l.length+1<scanBound/\∀o,P (.d .none) {σ with heap:=σ.heap.set k (.set (if x∈l then l else l++[x]) o)}
def Io(H:aa AO)(x:AV)(m:Mt)(P:AV->Prop):Prop:=match m,x with|.get,.ref k=>(Fo H k).isSome=aj/\P (.bm "dict.get" k)|.contains,.ref k=>(setAt H k).isSome=aj/\P (.bm "set.__contains__" k)|_,_=>bG
def Sh(id:cj)(k:ah)(as:aa AV)(P:AV->AS->Prop)(σ:AS):Prop:=if id="dict.get" then (a2 as λa b=>cX dI a λi=>cX dI b λz=>so (Fo σ.heap k) λl=>P (.d (.int ((l.lookup i).getD z))) σ)else if id="set.__contains__" then (a1 as λa=>cX dS a λx=>so (setAt σ.heap k) λl=>P (.d (.bool (l.contains x))) σ) else bG
def rK(x y v:AV)(P:AS->Prop)(σ:AS):Prop:=match x,y with |.ref k,.d (.int i)=>(match σ.heap[k]? with |some (.list l)=>(match v with |.d d=>(-(l.length:aq)<=i/\i<l.length/\l.length<=bw)/\P {σ with heap:=σ.heap.set k (.list (l.set (if i<0 then i+l.length else i).toNat d))}|_=>bG)|some (.dI l)=>(match v with |.d (.int z)=>(l.lookup i=none/\l.length<=bw)/\P {σ with heap:=σ.heap.set k (.dI (l++[(i,z)]))}|_=>bG)|_=>bG)|_,_=>bG
def KY(x y:AV)(P:AS->Prop)(σ:AS):Prop:=cR x λk=>cX dS y λx=>so (tn σ.heap k) λl=>((l.lookup x).isSome=aj/\l.length<=bw)/\∀o,P {σ with heap:=σ.heap.set k (.dS (l.filter λp=>decide (p.1≠x)) o)}
noncomputable def El:aa ai->aa ai->aH |[],[]=>aC|[],_::_=>aj|_::_,[]=>aC|x::l,y::m=>if x=y then El l m else decide (x.cps.toList<y.cps.toList)
noncomputable def jm(gt:aH)(l m:aa ai):aH:=if gt then El m l else El l m
noncomputable def fD(gt:aH):aa ai->aa (aa ai)->aa ai |b,[]=>b|b,x::r=>fD gt (if jm gt x b then x else b) r
def Qv(gt:aH)(x:AV)(P:AV->AS->Prop)(σ:AS):Prop:=cX dL x λl=>∃(b:aa ai) (Z:aa (aa ai)),l=(b::Z).map (λm=>.lst (m.map .str))/\P (.d (.lst ((fD gt b Z).map .str))) σ
noncomputable def Qw(gt:aH):cj:=if gt then "max" else "min"
def MV(as:aa AV)(P:AV->AS->Prop)(σ:AS):Prop:=a2 as λa b=>cX dS a λZ=>cX dC b λc=>c=.type "bytes"/\P (.d (.bool aC)) σ
def Ce(as:aa AV)(P:AV->AS->Prop)(σ:AS):Prop:=a0 as (∀o,P (.ref σ.heap.length) {σ with heap:=σ.heap++[.set [] o]})
def Si(D:az->aa AV->aa AO->(AV->aa AO->Prop)->Prop)(as:aa AV)(P:AV->AS->Prop)(σ:AS):Prop:=D 160 (.ref σ.heap.length::as) (σ.heap++[.inst (bN 10 none),.C0]) λv H=>v=.d .none/\P (.ref σ.heap.length) {σ with heap:=H}
def Ft(as:aa AV)(P:AV->AS->Prop)(σ:AS):Prop:=a2 as λa b=>cX dC a λc=>cX dT b λl=>(c=.ref 135/\l.length<=bw)/\P (.d (.qI l)) σ
def MW(D:az->aa AV->aa AO->(AV->aa AO->Prop)->Prop)(as:aa AV)(P:AV->AS->Prop)(σ:AS):Prop:=as.length=3/\D 82 (.d (.con (.ref 135))::as) σ.heap λv H=>∃l,v=.d (.qI l)/\P v {σ with heap:=H}
noncomputable def yO(c:aa AO->DV->(DV->Prop)->Prop)(H:aa AO):aa DV->aa DV->(aa DV->Prop)->Prop|[],Z,P=>P Z|x::r,Z,P=>c (H++[.list Z]) x λy=>Z.length<bw/\yO c H r (Z++[y]) P
def yP(D:az->aa AV->aa AO->(AV->aa AO->Prop)->Prop)(f:az)(first:aa AV)(H:aa AO)(x:DV)(Q:DV->Prop):Prop:=D f (first++[.d x]) H λv Z=>Z=H/\∃y,v=.d y/\Q y
def Fv(D:az->aa AV->aa AO->(AV->aa AO->Prop)->Prop)(l:aH)(f:az)(first:aa AV)(a:AV)(P:AV->AS->Prop)(σ:AS):Prop:=∃Y,qM σ.heap a=af Y/\yO (yP D f first) σ.heap Y [] λZ=>Z.length<=bw/\P (if l then .ref σ.heap.length else .d (.tup Z)) {σ with heap:=σ.heap++[.list Z]}
noncomputable def pS:ah->aa DV->aa DV|_,[]=>[]|i,x::r=>.tup [.int i,x]::pS (i+1) r
noncomputable def nh:DV->aq |.qI (.int i::_)=>i|_=>0
noncomputable def Ip:DV->aH |.qI (.int _::_)=>aj|_=>aC
def JZ(x:AV)(as:aa AV)(P:AV->AS->Prop)(σ:AS):Prop:=cR x λk=>a0 as (so (listAt σ.heap k) λl=>(l.length<64/\l.all Ip=aj/\(l.map nh).Nodup)/\∀Z:aa DV,Z.Perm l->Z.Pairwise (λa b=>nh a<nh b)->P (.d .none) {σ with heap:=σ.heap.set k (.list Z)})
noncomputable def yQ(X:DV->(AS->Prop)->AS->Prop)(elt:(AV->AS->Prop)->AS->Prop)(H:aa AO):aa DV->aR->(AS->Prop)->AS->Prop |[],o,P,W=>W.heap=H++[.obj o]/\P W|x::r,o,P,W=>W.heap=H++[.obj o]/\X x (λY=>elt (λy Z=>y=.d (.bool aj)/\Z.heap=H++[.obj o]/\∀V,yQ X elt H r V P ⟨Z.loc,H++[.obj V]⟩) Y) W
structure Fc where
 fn:az->aa AV->aa AO->(AV->aa AO->Prop)->Prop
 kw:az->aa AV->aa AO->(AV->aa AO->Prop)->Prop
 dn:az->aa AV->aa AO->(AV->aa AO->Prop)->Prop
noncomputable def MX:DV->aA cj |.bytes _=>af "bytes"|.str _=>af "str"|.bool _=>af "bool"|_=>none
noncomputable def MY:DV->aA (aa DV) |.lst l=>af l|.qI l=>af l|_=>none
def MZ(id:cj)(as:aa AV)(P:AV->AS->Prop)(σ:AS):Prop:=if id="len" then (a1 as λa=>cX MY a λl=>l.length<2^62/\P (.d (.int l.length)) σ)else if id="isinstance" then MV as P σ else if id="issubclass" then MT as P σ else if id="min" then (a1 as λa=>Qv aC a P σ)else if id="max" then (a1 as λa=>Qv aj a P σ)else if id="chr" then (a1 as λa=>cX dI a λi=>(0<=i/\i<=1114111)/\P (.d (.str ⟨#[i.toNat]⟩)) σ)else bG
noncomputable def A6:aa az:=[253,260,268,276,283,356,370,377,382,389,396,403,410,417,424,431,436,443,448]
def J0(T:cj)(as:aa AV)(P:AV->AS->Prop)(σ:AS):Prop:=if T="range" then aO as bG λa as=>cX dI a λn=>aO as (P (.d (.vj 0 n 1)) σ) λb as=>a0 as (cX dI b λm=>P (.d (.vj n m 1)) σ)else if T="bytes" then (a1 as λa=>so (qM σ.heap a) λl=>∃ns:aa aq,l=ns.map .int/\(∀n∈ns,0<=n/\n<256)/\ns.length<=bw/\P (.d (.bytes (byteArr ns))) σ)else if T="type" then (a1 as λa=>cD a λx=>so (MX x) λT=>P (.d (.con (.type T))) σ)else if T="set" then Ce as P σ else bG
def yR(F:Fc)(f:AV)(as:aa AV)(P:AV->AS->Prop)(σ:AS):Prop:=match f with |.d (.con (.ref a))=>if a==242 then Si F.dn as P σ else if a==135 then MW F.dn as P σ else A6.contains a=aj/\F.fn a as σ.heap λv H=>P v {σ with heap:=H}|.d (.con (.builtin id))=>MZ id as P σ|.d (.con (.type T))=>J0 T as P σ|.bm id k=>Sh id k as P σ|_=>bG
def KZ(x:AV)(as:aa AV)(P:AV->AS->Prop)(σ:AS):Prop:=cR x λk=>a1 as λa=>cD a λy=>so (listAt σ.heap k) λl=>l.length<bw/\P (.d .none) {σ with heap:=σ.heap.set k (.list (l++[y]))}
noncomputable def vz:Mt->cj×cj |.append=>("list","list.append")|.pop=>("list","list.pop")|.sort=>("list","list.sort")|.index=>("list","list.index")|.get=>("dict","dict.get")|.setdefault=>("dict","dict.setdefault")|.add=>("set","set.add")|.contains=>("set","set.__contains__")|.split=>("str","str.split")|.join=>("str","str.join")|.startswith=>("str","str.startswith")|.translate=>("bytes","bytes.translate")|.user _=>("","")
noncomputable def Fw(H:aa AO):AV->aH|.ref k=>(listAt H k).isSome|_=>aC
noncomputable def ni(H:aa AO)(x:AV):Mt->aH |.append=>Fw H x|.pop=>Fw H x|.sort=>Fw H x|.index=>(match x with|.d (.lst _)=>aj|_=>aC)|.get=>(match x with|.ref k=>(tn H k).isSome|_=>aC)|.setdefault=>(match x with|.ref k=>(tn H k).isSome|_=>aC)|.add=>(match x with|.ref k=>(setAt H k).isSome|_=>aC)|.split=>(match x with|.d (.str _)=>aj|_=>aC)|.join=>(match x with|.d (.str _)=>aj|_=>aC)|.startswith=>(match x with|.d (.str _)=>aj|_=>aC)|.translate=>(match x with|.d (.bytes _)=>aj|_=>aC)|.user _=>(match x with|.ref k=>(l8 H k).isSome|_=>aC)|_=>aC
def M0(F:Fc)(x:AV)(m:Mt)(as:aa AV)(P:AV->AS->Prop)(σ:AS):Prop:=match m with |.append=>KZ x as P σ|.user f=>F.fn f (x::as) σ.heap λv H=>P v {σ with heap:=H}|.pop=>MU x as P σ|.sort=>JZ x as P σ|.index=>Fp x as P σ|.get=>JX x as P σ|.setdefault=>Cd x as P σ|.add=>JY x as P σ|.split=>Fq x as P σ|.join=>JW x as P σ|.startswith=>Cb x as P σ|.translate=>Cc x as P σ|_=>bG
def Qy(P:aH->AS->Prop)(b:aH)(σ:AS):Prop:=P (!b) σ
def vq(test:(aH->AS->Prop)->AS->Prop)(body:(Fl->AS->Prop)->AS->Prop)(P:Fl->AS->Prop)(σ:AS):Prop:=∃(I:ah->AS->Prop) (n:ah),I n σ/\∀n σ,I n σ->test (λc Y=>(c=aj->body (λX Z=>match X with|.next=>(∃m,m<n/\I m Z)|.cont=>(∃m,m<n/\I m Z)|.brk=>P .next Z|.ret v=>P (.ret v) Z) Y)/\(c=aC->P .next Y)) σ
noncomputable def forL(Y:DV->(AS->Prop)->AS->Prop)(body:(Fl->AS->Prop)->AS->Prop)(W:AS->Prop):aa DV->(Fl->AS->Prop)->AS->Prop |[],P,V=>P .next V|x::r,P,V=>Y x (λX=>body (λU Z=>match U with |.next=>W Z/\forL Y body W r P Z|.cont=>W Z/\forL Y body W r P Z|.brk=>P .next Z|.ret v=>P (.ret v) Z) X) V
noncomputable def qO(W:DV->(AS->Prop)->AS->Prop)(test:(aH->AS->Prop)->AS->Prop)(elt:(AV->AS->Prop)->AS->Prop)(H:aa AO):aa DV->aa DV->(aa DV->AS->Prop)->AS->Prop |[],Z,P,U=>U.heap=H++[.list Z]/\P Z U|x::r,Z,P,U=>U.heap=H++[.list Z]/\W x (λV=>test (λc Y=>(c=aj->elt (λy X=>∃d,y=.d d/\Z.length<bw/\X.heap=H++[.list Z]/\qO W test elt H r (Z++[d]) P ⟨X.loc,H++[.list (Z++[d])]⟩) Y)/\(c=aC->qO W test elt H r Z P Y)) V) U
noncomputable def h_(n:ah)(Z:aa (ah×ah))(loc:aa (aA AV)):aa (aA AV):=(cW n).map λi=>match Z.lookup i with|some j=>(loc[j]?).join|none=>none
noncomputable def xO:aa ah->aa AV->aa (aA AV)->aa (aA AV) |i::is,a::as,l=>xO is as (l.set i (af a))|_,_,l=>l
def rD(t:aa ah)(x:DV)(P:AS->Prop)(σ:AS):Prop:=match t with |[i]=>P {σ with loc:=σ.loc.set i (af (.d x))}|is=>match x with |.tup l=>l.length=is.length/\P {σ with loc:=xO is (l.map .d) σ.loc}|.qI l=>l.length=is.length/\P {σ with loc:=xO is (l.map .d) σ.loc}|_=>bG
noncomputable def q9:aa (ah×ah)->aa (aA AV)->aa (aA AV)->Prop |[],_,_=>True|(i,j)::l,Y,Z=>Z[i]?=af (Y[j]?).join/\q9 l Y Z
def j8(a:AV)(xs:aa DV)(σ:AS):Prop:=match a with|.ref k=>listAt σ.heap k=af xs|_=>True
mutual noncomputable def VE(F:Fc):ah->IE->(AV->AS->Prop)->AS->Prop |0,_,_,_=>bG|n+1,e,P,X=>match e with
  |.k x=>P (.d x) X|.loc i=>(match X.loc[i]? with|some (af a)=>P a X|_=>bG)|.ji i=>(match X.loc[i]? with|some (af a)=>P a X|_=>bG)|.bR v=>P (Ff v) X|.bin S a b=>VE F n a (λx Z=>VE F n b (λy Y=>uP S x y P Y) Z) X|.cmp S a b=>VE F n a (λx Z=>VE F n b (λy Y=>Fi S Y.heap x y λc=>P (.d (.bool c)) Y) Z) X|.neg a=>VE F n a (λx Z=>match x with|.d (.int i)=>P (.d (.int (-i))) Z|_=>bG) X|.bo S W=>VO F n S W P X|.ite t a b=>VT F n t (λc Z=>(c=aj->VE F n a P Z)/\(c=aC->VE F n b P Z)) X|.tup W=>VL F n W (λas Z=>as.all AV.Il=aj/\as.length<=bw/\P (.d (.tup (as.map AV.dv))) Z) X|.lst aC W=>VL F n W (λas Z=>as.all AV.Il=aj/\as.length<=bw/\P (.d (.lst (as.map AV.dv))) Z) X|.lst aj W=>VL F n W (λas Z=>as.all AV.Il=aj/\as.length<=bw/\P (.ref Z.heap.length) {Z with heap:=Z.heap++[.list (as.map AV.dv)]}) X|.sub a i=>VE F n a (λx Z=>VE F n i (λy Y=>MR Y.heap x y λv=>P v Y) Z) X|.slc a lo K st=>VE F n a (λx Z=>VP F n lo (λl Y=>VP F n K (λh V=>VP F n st (λt U=>MS x l h t λv=>P v U) V) Y) Z) X|.lB a i=>VE F n a (λx Z=>KW Z.heap x i λv=>P v Z) X|.call f W=>VE F n f (λg Z=>VL F n W (λas Y=>yR F g as P Y) Z) X|.comp aC k R t O it N=>VE F n it (λa Z=>∃T,jk Z.heap a=af T/\qO (rD t) (λQ X=>match N with|[]=>Q aj X|[c]=>VT F n c Q X|_=>bG) (VE F n O) Z.heap T [] (λM L=>q9 R Z.loc L.loc/\P (.d (.lst M)) Z) ⟨h_ k R Z.loc,Z.heap++[.list []]⟩) X|.met a m W=>VE F n a (λx Z=>ni Z.heap x m=aj/\VL F n W (λas Y=>M0 F x m as P Y) Z) X|.dct aj=>∀o,P (.ref X.heap.length) {X with heap:=X.heap++[.dS [] o]}|.dct aC=>P (.ref X.heap.length) {X with heap:=X.heap++[.dI []]}|.bnd a m=>VE F n a (λx Z=>Io Z.heap x m λv=>P v Z) X|.C4 W=>VL F n W (λas Z=>Ft as P Z) X|.KP (.bR (.ref f)) [J] e=>A6.contains f=aj/\VE F n J (λa Z=>VE F n e (λb Y=>F.kw f [a,b] Y.heap λv H=>P v {Y with heap:=H}) Z) X|.s9 l (.bR (.ref f)) T=>VE F n T (λa Z=>Fv F.dn l f [] a P Z) X|.s9 l .pQ T=>VE F n T (λa Z=>Fv F.dn l 89 [.d (.con (.ref 135))] a P Z) X|_=>bG noncomputable def VT (F:Fc):ah->IE->(aH->AS->Prop)->AS->Prop|0,_,_,_=>bG|n+1,e,P,X=>match e with |.cmp W a b=>VE F n a (λx Z=>VE F n b (λy Y=>Fi W Y.heap x y λc=>P c Y) Z) X|.not a=>VT F n a (Qy P) X|.bo W V=>VA F n W V P X|.ite ..=>bG|e=>VE F n e (λx Z=>Fj Z.heap x λc=>P c Z) X noncomputable def VA (F:Fc):ah->BoolOp->aa IE->(aH->AS->Prop)->AS->Prop|0,_,_,_,_=>bG|n+1,.And,[],P,Y=>P aj Y|n+1,.Or,[],P,Y=>P aC Y|n+1,.And,e::X,P,Y=>VT F n e (λc Z=>(c=aj->VA F n .And X P Z)/\(c=aC->P aC Z)) Y|n+1,.Or,e::X,P,Y=>VT F n e (λc Z=>(c=aC->VA F n .Or X P Z)/\(c=aj->P aj Z)) Y noncomputable def VO (F:Fc):ah->BoolOp->aa IE->(AV->AS->Prop)->AS->Prop |n+1,.Or,[a,b],P,Y=>VE F n a (λx Z=>Fj Z.heap x λc=>(c=aj->P x Z)/\(c=aC->VE F n b P Z)) Y|_,_,_,_,_=>bG noncomputable def VL (F:Fc):ah->aa IE->(aa AV->AS->Prop)->AS->Prop|0,_,_,_=>bG|n+1,[],P,X=>P [] X|n+1,e::W,P,X=>VE F n e (λx Z=>VL F n W (λl Y=>P (x::l) Y) Z) X noncomputable def VP (F:Fc):ah->aA IE->(aA aq->AS->Prop)->AS->Prop |0,_,_,_=>bG|n+1,none,P,Y=>P none Y|n+1,af e,P,Y=>VE F n e (λx Z=>match x with|.d (.int i)=>P (af i) Z|_=>bG) Y end
mutual noncomputable def VG(F:Fc):ah->IT->AV->(AS->Prop)->AS->Prop |0,_,_,_,_=>bG|n+1,t,v,P,Y=>match t with |.loc i=>P {Y with loc:=Y.loc.set i (af v)}|.ji i=>P {Y with loc:=Y.loc.set i (af v)}|.lB a i=>VE F n a (λx Z=>MO x i v P Z) Y|.sub a i=>VE F n a (λx Z=>VE F n i (λy X=>rK x y v P X) Z) Y|.tup W=>(match v with |.d (.tup l)=>l.length=W.length/\M1 F n W (l.map .d) P Y|.d (.qI l)=>l.length=W.length/\M1 F n W (l.map .d) P Y|_=>bG)|_=>bG noncomputable def M1 (F:Fc):ah->aa IT->aa AV->(AS->Prop)->AS->Prop |0,_,_,_,_=>bG|n+1,[],[],P,Y=>P Y|n+1,t::X,a::as,P,Y=>VG F n t a (λZ=>M1 F n X as P Z) Y|_,_,_,_,_=>bG end
noncomputable def Pp(F:Fc):ah->aa IT->AV->(AS->Prop)->AS->Prop |0,_,_,_,_=>bG|n+1,[],_,P,Y=>P Y|n+1,t::X,a,P,Y=>VG F n t a (λZ=>Pp F n X a P Z) Y
def M3(Z:ku)(x y:AV)(P:AV->AS->Prop)(σ:AS):Prop:=match Z with|.Add=>uO (λa b σ P=>P (.d (.int (a+b))) σ) x y P σ|_=>bG
mutual noncomputable def VS(F:Fc):ah->aa IS->(Fl->AS->Prop)->AS->Prop |0,_,_,_=>bG|n+1,[],P,Y=>P .next Y|n+1,s::r,P,Y=>VX F n s (λfl Z=>match fl with|.next=>VS F n r P Z|fl=>P fl Z) Y noncomputable def VX(F:Fc):ah->IS->(Fl->AS->Prop)->AS->Prop|0,_,_,_=>bG|n+1,s,P,X=>match s with
  |.ex e=>VE F n e (λM Z=>P .next Z) X|.asg S e=>VE F n e (λv Z=>Pp F n S v (λY=>P .next Y) Z) X|.Ek is R=>VL F n R (λas Z=>as.length<=bw/\as.length=is.length/\P .next {Z with loc:=xO is.reverse as.reverse Z.loc}) X|.P8 S R=>VL F n R (λas Z=>as.length<=bw/\as.length=S.length/\M1 F n S as (λY=>P .next Y) Z) X|.aug i N e=>(match X.loc[i]? with |some (af a)=>VE F n e (λb Z=>M3 N a b (λv Y=>P .next {Y with loc:=Y.loc.set i (af v)}) Z) X|_=>bG)|.ret e=>VE F n e (λv Z=>P (.ret v) Z) X|.gU t b o=>VT F n t (λc Z=>(c=aj->VS F n b P Z)/\(c=aC->VS F n o P Z)) X|.vq t b=>vq (VT F n t) (VS F n b) P X|.fr .plain t e b=>VE F n e (λa Z=>(∃W,jk Z.heap a=af W/\forL (λx=>VG F n t (.d x)) (VS F n b) (j8 a W) W P Z)\/∃k l U,a=.ref k/\Z.heap[k]?=af (.set l U)/\∀W:aa ai,W.Perm l->forL (λx=>VG F n t (.d x)) (VS F n b) (λX=>X.heap[k]?=af (.set l U)) (W.map .str) P Z) X|.fr .enum t e b=>VE F n e (λa Z=>∃W,qM Z.heap a=af W/\forL (λx=>VG F n t (.d x)) (VS F n b) (λX=>qM X.heap a=af W) (pS 0 W) P Z) X|.fr .keys t e b=>VE F n e (λa Z=>∃k l U,a=.ref k/\Z.heap[k]?=af (.dS l U)/\forL (λx=>VG F n t (.d x)) (VS F n b) (λX=>X.heap[k]?=af (.dS l U)) (l.map λp=>.str p.1) P Z) X|.del a i=>VE F n a (λx Z=>VE F n i (λy Y=>KY x y (λV=>P .next V) Y) Z) X|.C5 i k T t Q it=>VE F n it (λa Z=>∃W,jk Z.heap a=af W/\W≠[]/\∀o,yQ (rD t) (VE F n Q) Z.heap W o (λO=>q9 T Z.loc O.loc/\P .next {Z with loc:=Z.loc.set i (af (.d (.bool aj)))}) ⟨h_ k T Z.loc,Z.heap++[.obj o]⟩) X|.brk=>P .brk X|.cont=>P .cont X|.pass=>P .next X|.try b=>VS F n b P X|_=>bG end
theorem jo{α:Type}{o:aA α}{f:α->Prop}{G:Prop}(q:so o f)(k:∀a,o=af a->f a->G):G:=by induction o using c9 with|none=>exact q.elim|some a=>exact k a rfl q
theorem M4{α Z:Type}{a:aA α}{b:aA Z}{f:α->Z->Prop}{p G:Prop}(h:oo a b f p)(X:∀x y,a=af x->b=af y->f x y->G)(Y:p->G):G:=by induction a using c9 with|none=>exact Y h|some x=>induction b using c9 with|none=>exact Y h|some y=>exact X x y rfl rfl h
theorem bO{α:Type}{o:aA α}{f:α->Prop}{a:α}(h:o=af a)(q:f a):so o f:=h▸q
theorem mH{c:Prop}[o8 c]{p q G:Prop}(h:if c then p else q)(Y:c->p->G)(X:¬c->q->G):G:=if Z:c then Y Z (by rw[aW Z] at h;exact h) else X Z (by rw[aI Z] at h;exact h)
theorem yS{α:Type}{d:DV->aA α}{f:α->Prop}{a:AV}{G:Prop}(q:cX d a f)(k:∀x i,a=.d x->d x=af i->f i->G):G:=by induction a using AV.casesOn with |d x=>exact jo q λi e q=>k x i rfl e q|_=>exact q.elim
theorem Fx{x:DV}{i:aq}(e:dI x=af i):x=.int i:=by induction x using DV.casesOn with|int j=>exact bu DV.int (dz e)|_=>exact nomatch e
theorem Fy{x:DV}{i:ai}(e:dS x=af i):x=.str i:=by induction x using DV.casesOn with|str j=>exact bu DV.str (dz e)|_=>exact nomatch e
theorem M5{x:DV}{i:aK dQ}(e:dB x=af i):x=.bytes i:=by induction x using DV.casesOn with|bytes j=>exact bu DV.bytes (dz e)|_=>exact nomatch e
theorem M6{x:DV}{i:ao}(e:dC x=af i):x=.con i:=by induction x using DV.casesOn with|con j=>exact bu DV.con (dz e)|_=>exact nomatch e
theorem Fz{x:DV}{i:aa DV}(e:dL x=af i):x=.lst i:=by induction x using DV.casesOn with|lst j=>exact bu DV.lst (dz e)|_=>exact nomatch e
theorem M7{x:DV}{i:aa DV}(e:dT x=af i):x=.tup i:=by induction x using DV.casesOn with|tup j=>exact bu DV.tup (dz e)|_=>exact nomatch e
section
variable{h:aM}{ρ:aa az}{C:ao->Prop}{D:aa ao->Prop}{v:ao}{vs:aa ao}{a:AV}{as:aa AV}
@[elab_as_elim]theorem uR{f:ah->Prop}(q:cR a f)(Z:RA h ρ a v)(k:∀i x,ρ[i]?=af x->f i->C (.ref x)):C v:=by induction a using AV.casesOn with |ref i=>exact aQ Z λx e Y=>e▸k i x Y q|_=>exact q.elim
@[elab_as_elim]theorem uI{f:aq->Prop}(q:cX dI a f)(Z:RA h ρ a v)(k:∀i t,f i->C (.int i t)):C v:=yS q λx i Y X q=>by
  rw[Y,Fx X] at Z;exact aZ Z λt e=>e▸k i t q
@[elab_as_elim]theorem uS{f:ai->Prop}(q:cX dS a f)(Z:RA h ρ a v)(k:∀i t,f i->C (.str i t)):C v:=yS q λx i Y X q=>by
  rw[Y,Fy X] at Z;exact aZ Z λt e=>e▸k i t q
@[elab_as_elim]theorem uB{f:aK dQ->Prop}(q:cX dB a f)(Z:RA h ρ a v)(k:∀i t,f i->C (.bytes i t)):C v:=yS q λx i Y X q=>by
  rw[Y,M5 X] at Z;exact aZ Z λt e=>e▸k i t q
@[elab_as_elim]theorem uC{f:ao->Prop}(q:cX dC a f)(Z:RA h ρ a v)(k:∀c,f c->C c):C v:=yS q λx i Y X q=>by
  rw[Y,M6 X] at Z;exact(show v=i from Z)▸k i q
@[elab_as_elim]theorem uL{f:aa DV->Prop}(q:cX dL a f)(Z:RA h ρ a v)(k:∀l x items n sl,h.get? x=af (bS items n sl)->x∉ρ->RS h ρ l items.toList->f l->C (.ref x)):C v:=yS q λx i Y X q=>by
  rw[Y,Fz X] at Z;exact eR Z λx items n sl e W V U=>e▸k i x items n sl W V U q
@[elab_as_elim]theorem uT{f:aa DV->Prop}(q:cX dT a f)(Z:RA h ρ a v)(k:∀l x items n,h.get? x=af (jj items n)->x∉ρ->RS h ρ l items.toList->f l->C (.ref x)):C v:=yS q λx i Y X q=>by
  rw[Y,M7 X] at Z;exact mL Z λx items n e W V U=>e▸k i x items n W V U q
@[elab_as_elim]theorem uD{f:DV->Prop}(q:cD a f)(Z:RA h ρ a v)(k:∀x,R h ρ x v->f x->C v):C v:=by induction a using AV.casesOn with|d x=>exact k x Z q|_=>exact q.elim
@[elab_as_elim]theorem M8{p:Prop}(q:a0 as p)(Z:jQ h ρ as vs)(k:p->D []):D vs:=by induction as using aO with|nil=>exact(show vs=[] from Z)▸k q|cons=>exact q.elim
@[elab_as_elim]theorem Cf{f:AV->Prop}(q:a1 as f)(Z:jQ h ρ as vs)(k:∀a v,RA h ρ a v->f a->D [v]):D vs:=by induction as using aO with |nil=>exact q.elim|cons a as=>exact cU Z λv r e Y X=>e▸M8 (D:=λr=>D (v::r)) q X λq=>k a v Y q
@[elab_as_elim]theorem L7{f:AV->AV->Prop}(q:a2 as f)(Z:jQ h ρ as vs)(k:∀a b v u,RA h ρ a v->RA h ρ b u->f a b->D [v,u]):D vs:=by induction as using aO with |nil=>exact q.elim|cons a as=>exact cU Z λv r e Y X=>e▸Cf (D:=λr=>D (v::r)) q X λb u W q=>k a b v u Y W q
theorem lat{w:aG}{H:aa AO}{k:ah}{l:aa DV}{x:az}{G:Prop}(r:gv w H h ρ)(e:listAt H k=af l)(Z:ρ[k]?=af x)(q:∀items n sl,h.get? x=af (bS items n sl)->RS h ρ l items.toList->G):G:=gu (r.obj k _ x (bI.mp e) Z) q
end
section
variable{h:aM}{ρ:aa az}{v:ao}
theorem RS.append:∀{l m:aa DV}{vs Z:aa ao},RS h ρ l vs->RS h ρ m Z->RS h ρ (l++m) (vs++Z):=by
 intro l;induction l with
 |nil=> intro _ _ _ e h;rw[e];exact h|cons U T Y=> intro _ _ _ X h;obtain⟨v,r,e,W,V⟩:=X;rw[e];exact⟨v,_,rfl,W,Y V h⟩
theorem RS.pick{l:aa DV}{vs:aa ao}(Z:RS h ρ l vs)(is:aa ah):RS h ρ (is.filterMap (l[·]?)) (is.filterMap (vs[·]?)):=by induction is with|nil=>exact .nil|cons i is Y=>cases q:l[i]? with|none=>rw[List.filterMap_cons_none q,List.filterMap_cons_none (Z.none q)];exact Y|some x=>
   refine aQ (Z.get q) λv X W=>?_;rw[Ar q,Ar X];exact .cons W Y
end
section
variable{w:aG}{A:bg}{env:aV}{sc:aU}{ρ ρ':aa az}{s s':ay}{σ σ':AS}{K:ah}{P:AV->AS->Prop}{cI:Fl->AS->Prop}{H H':aa AO}
theorem eg(r:gv w H s.heap ρ){k:ah}{l:aa DV}{v:ao}(e:listAt H k=af l)(Y:RA s.heap ρ (.ref k) v):∃(a:az)(items:aK ao)(n:ah)(sl:aK (aA ao)),v=.ref a/\s.heap.get? a=af (bS items n sl)/\RS s.heap ρ l items.toList/\ρ[k]?=af a:=by
 (refine aQ Y λa Z X=>?_;clear Y;subst Z);refine gu (r.obj k _ a (bI.mp e) X) λitems n sl W V=>?_;exact qF a items n sl rfl W V X
set_option tactic.hygienic true in theorem A7{x y:AV}(h:KX x y P σ):L6 K sc .Add x y σ P:=by induction x using AV.casesOn with
 |d v=>induction v using DV.casesOn with
  |int a=>induction y using AV.casesOn with
   |d u=>induction u using DV.casesOn with |int b=>
     intro w A env ρ s M r L vb S W;(refine aZ S λt Z=>?_;clear S;subst Z);(refine aZ W λu Z=>?_;clear W;subst Z);exact add_int (PV.here r (.d (.int _ _)) h _)|_=>exact h.elim
   |_=>exact h.elim
  |str a=>induction y using AV.casesOn with
   |d u=>induction u using DV.casesOn with |str b=>
     intro w A env ρ s M r L vb S W;(refine aZ S λt Z=>?_;clear S;subst Z);(refine aZ W λu Z=>?_;clear W;subst Z);exact add_str (λq m=>PV.here r (.d (.str _ _)) h.2 _) h.1|_=>exact h.elim
   |_=>exact h.elim
  |lst E=>induction y using AV.casesOn with
   |d u=>induction u using DV.casesOn with
    |lst D=>
     intro w A env ρ s M r L vb S W;(refine eR S λa its n V Z R l Q=>?_;clear S;subst Z);(refine eR W λb Y J X Z U I T=>?_;clear W;subst Z);have O:=Q.length;have N:=T.length;refine concat_meets (aP _ R rfl) (aP _ U rfl) noFill_list_add seq_list_add PySem.F.slot_list_add PySem.F.entry_list_add (PySem.F.args_list_add_2 _ _) (list_addW a b its Y n J none none V X (by simp at O N;have:=h.1;exact Z5 [.p V0 V1,V2,V0,V3,V1,V4,.p V3 V4,V2] rfl (Qe O) (Qe N) this)) ⟨R,U,?_⟩;have:=xF r (Q.append T) h.2 0 s.toks _ rfl;have this:=(show (its.toList++Y.toList).toArray=its++Y by simp)▸this;exact this|_=>exact h.elim
   |_=>exact h.elim
  |_=>exact h.elim
 |ref k=>induction y using AV.casesOn with
  |d u=>induction u using DV.casesOn with
   |lst D=>
    intro w A env ρ s M r L vb S W;delta KX at h;dsimp only at h;split at h
    ·rename_i E C;(refine eR (eg r.bK C S) λa its n V Z R Q B=>?_;subst Z);(refine eR W λb Y J X Z U I T=>?_;clear W;subst Z);have O:=Q.length;have N:=T.length;refine concat_meets (aP _ R rfl) (aP _ U rfl) noFill_list_add seq_list_add PySem.F.slot_list_add PySem.F.entry_list_add (PySem.F.args_list_add_2 _ _) (list_addW a b its Y n J none none V X (by simp at O N;have:=h.1;exact Z5 [.p V0 V1,V2,.p V3 V4,V2,V0,V3,V1,V4] rfl h.1 (Qe O) (Qe N))) ⟨R,U,?_⟩;have G:=Q.append T;exact(Way.new r (o:=.list (E++D)) (ob:=bS (its++Y) 0) (λB=>nofun) (λz R=>kO _ _ _ R (by simpa using G.mono z)) rfl s.toks).pv (.ref (by rw[<-r.bK.len];simp)) h.2
    ·exact h.elim|_=>exact h.elim
  |_=>exact h.elim
 |_=>exact h.elim
theorem fE{Z:ku}{f:aq->aq->AS->(AV->AS->Prop)->Prop}{x y:AV}(Y:∀a b,f a b σ P->L6 K sc Z (.d (.int a)) (.d (.int b)) σ P)(h:uO f x y P σ):L6 K sc Z x y σ P:=by induction x using AV.casesOn with
 |d v=>induction v using DV.casesOn with
  |int a=>induction y using AV.casesOn with
   |d u=>induction u using DV.casesOn with |int b=>exact Y _ _ h|_=>exact h.elim
   |_=>exact h.elim
  |_=>exact h.elim
 |_=>exact h.elim
theorem A8{x y:AV}(h:MP x y P σ):L6 K sc .Mult x y σ P:=by induction x using AV.casesOn with
 |d v=>induction v using DV.casesOn with
  |int a=>induction y using AV.casesOn with
   |d u=>induction u using DV.casesOn with |int b=>
     intro w A env ρ s W r V vb Y X;(refine aZ Y λt Z=>?_;clear Y;subst Z);(refine aZ X λu Z=>?_;clear X;subst Z);exact mul_int (PV.here r (.d (.int _ _)) h.2 _) h.1|_=>exact h.elim
   |_=>exact h.elim
  |str a=>induction y using AV.casesOn with
   |d u=>induction u using DV.casesOn with |int b=>
     intro w A env ρ s W r V vb Y X;(refine aZ Y λt Z=>?_;clear Y;subst Z);(refine aZ X λu Z=>?_;clear X;subst Z);exact SB.mul h.1 λU k=>PV.here r (.d (.str _ _)) h.2 _|_=>exact h.elim
   |_=>exact h.elim
  |_=>exact h.elim
 |_=>exact h.elim
theorem A9{S:ku}{x y:AV}(h:uP S x y P σ):L6 K sc S x y σ P:=by induction S using Operator.casesOn with
 |Add=>exact A7 h|Mult=>exact A8 h|Sub=>
  delta uP at h;refine fE ?_ h;(refineλa b h w A env ρ s U r T vb Z=>aZ Z λV X Y=>aZ Y λV W=>?_;subst X;subst W);exact sub_int (PV.here r (.d (.int _ _)) h _)|Mod=>
  delta uP at h;refine fE ?_ h;(refineλa b h w A env ρ s U r T vb Z=>aZ Z λV X Y=>aZ Y λV W=>?_;subst X;subst W);exact mod_int' h.1 (PV.here r (.d (.int _ _)) h.2 _)|FloorDiv=>
  delta uP at h;refine fE ?_ h;(refineλa b h w A env ρ s U r T vb Z=>aZ Z λV X Y=>aZ Y λV W=>?_;subst X;subst W);exact floordiv_int h.1 (PV.here r (.d (.int _ _)) h.2.2 _) (.inl h.2.1)|Pow=>
  delta uP at h;refine fE ?_ h;(refineλa b h w A env ρ s U r T vb Z=>aZ Z λV X Y=>aZ Y λV W=>?_;subst X;subst W);exact pow_int h.1.1 h.1.2 (PV.here r (.d (.int _ _)) h.2 _)|LShift=>
  delta uP at h;refine fE ?_ h;(refineλa b h w A env ρ s U r T vb Z=>aZ Z λV X Y=>aZ Y λV W=>?_;subst X;subst W);exact lshift_int_small h.1.1 h.1.2.1 h.1.2.2 (PV.here r (.d (.int _ _)) h.2 _)|RShift=>
  delta uP at h;refine fE ?_ h;(refineλa b h w A env ρ s U r T vb Z=>aZ Z λV X Y=>aZ Y λV W=>?_;subst X;subst W);exact rshift_int h.1 (PV.here r (.d (.int _ _)) h.2 _)|BitOr=>
  delta uP at h;refine fE ?_ h;(refineλa b h w A env ρ s U r T vb Z=>aZ Z λV X Y=>aZ Y λV W=>?_;subst X;subst W);exact or_int (PV.here r (.d (.int _ _)) h _)|BitAnd=>
  delta uP at h;refine fE ?_ h;(refineλa b h w A env ρ s U r T vb Z=>aZ Z λV X Y=>aZ Y λV W=>?_;clear Z Y;subst X;subst W);exact and_int (PV.here r (.d (.int _ _)) h _)|_=>exact h.elim
end
mutual noncomputable def DV.dat:DV->Dat |.none=>.none|.bool b=>.bool b|.int i=>.int i|.str s=>.str s|.bytes b=>.bytes b|.con _=>.none|.tup l=>.tuple (DV.qP l)|.lst l=>.list (DV.qP l)|.qI _=>.none|.vj _ _ _=>.none noncomputable def DV.qP:aa DV->aa Dat|[]=>[]|x::l=>x.dat::DV.qP l end
theorem tu{p:ah->DV->Prop}{q:ah->aa DV->Prop}(hi:∀n i,p n (.int i))(W:∀n s,qC s=aj->p n (.str s))(V:∀n l,q n l->p (n+1) (.tup l))(Y:∀n l,q n l->p (n+1) (.lst l))(h0:∀n,q n [])(U:∀n x l,p n x->q n l->q n (x::l))(x:DV):∀n,x.eH n=aj->p n x:=DV.rec (motive_1:=λx=>∀n,x.eH n=aj->p n x) (motive_2:=λl=>∀n,DV.tg n l=aj->q n l) (λn e=>by cases n<;>exact jy e) (λZ n e=>by cases n<;>exact jy e) (λi n Z=>hi n i) (λs n e=>W n s (by cases n<;>exact e)) (λZ n e=>by cases n<;>exact jy e) (λZ n e=>by cases n<;>exact jy e) (λl X n e=>by cases n with|zero=>exact jy e|succ n=>exact V n l (X n e)) (λl X n e=>by cases n with|zero=>exact jy e|succ n=>exact Y n l (X n e)) (λZ Z n e=>by cases n<;>exact jy e) (λZ Z Z n e=>by cases n<;>exact jy e) (λn Z=>h0 n) (λx l T Y n e=>by have e:=qE e;exact U n x l (T n e.1) (Y n e.2)) x
theorem C6{p:ah->DV->Prop}{q:ah->aa DV->Prop}(h:∀x n,x.eH n=aj->p n x)(h0:∀n,q n [])(Z:∀n x l,p n x->q n l->q n (x::l))(n:ah)(l:aa DV):DV.tg n l=aj->q n l:=by induction l with|nil=>exactλX=>h0 n|cons x l Y=>intro e;have e:=qE e;exact Z n x l (h x n e.1) (Y e.2)
section
variable{h:aM}{ρ:aa az}
theorem vA(n:ah)(vs:aa ao)(e:RS h ρ [] vs):∃as,ReadsAll h vs (kqdPs (DV.qP [])) as:=by rw[show vs=[] from e];exact⟨_,.nil⟩
theorem tw(n:ah)(x:DV)(l:aa DV)(Z:∀v,R h ρ x v->∃as,Reads h v (kqdP x.dat) as)(Y:∀vs,RS h ρ l vs->∃as,ReadsAll h vs (kqdPs (DV.qP l)) as)(vs:aa ao)(e:RS h ρ (x::l) vs):∃as,ReadsAll h vs (kqdPs (DV.qP (x::l))) as:=cU e λv r e X W=>aZ (Z v X) λas z=>aZ (Y r W) λU V=>by subst e;exact⟨_,.cons z V⟩
theorem ia(n:ah)(x:DV){v:ao}(U:R h ρ x v)(e:x.eH n=aj):∃as,Reads h v (kqdP x.dat) as:=tu (p:=λZ x=>∀v,R h ρ x v->∃as,Reads h v (kqdP x.dat) as) (q:=λZ l=>∀V,RS h ρ l V->∃as,ReadsAll h V (kqdPs (DV.qP l)) as) (λZ i Z q=>aZ q λt e=>by subst e;exact⟨_,.int i t⟩) (λZ s Z Z q=>aZ q λt e=>by subst e;exact⟨_,.str s t⟩) (λZ l Y Z q=>mL q λa items m e X Z W=>aZ (Y _ W) λas z=>by subst e;exact⟨_,reads_tuple_at X rfl rfl z⟩) (λZ l Y Z q=>eR q λa items m T e X Z W=>aZ (Y _ W) λas z=>by subst e;exact⟨_,reads_list_at X rfl rfl z⟩) vA tw x n e v U
theorem C7(n:ah)(l:aa DV){vs:aa ao}(Z:RS h ρ l vs)(e:DV.tg n l=aj):∃as,ReadsAll h vs (kqdPs (DV.qP l)) as:=C6 (p:=λY x=>∀v,R h ρ x v->∃as,Reads h v (kqdP x.dat) as) (q:=λY l=>∀vs,RS h ρ l vs->∃as,ReadsAll h vs (kqdPs (DV.qP l)) as) (λx n e v X=>ia n x X e) vA tw n l e vs Z
end
theorem tB(n:ah)(x:DV)(e:x.eH n=aj):kqdOk n x.dat=aj:=tu (p:=λn x=>kqdOk n x.dat=aj) (q:=λn l=>(DV.qP l).all (kqdOk n)=aj) (λn i=>by cases n<;>rfl) (λn s e=>by cases n<;>exact e) (λZ Z h=>h) (λZ Z h=>h) (λZ=>rfl) (λn x l Y X=>Bool.and_eq_true_iff.mpr ⟨Y,X⟩) x n e
theorem nR{m:ah}{y:DV}{G:Prop}(h:y.eH m=aj)(Z:∀i,y=.int i->G)(ks:∀s,y=.str s->G)(Y:∀k l,y=.tup l->DV.tg k l=aj->G)(X:∀k l,y=.lst l->DV.tg k l=aj->G):G:=by induction y using DV.casesOn with
 |int i=>exact Z i rfl|str s=>exact ks s rfl|tup l=>cases m with|zero=>exact jy h|succ m=>exact Y m l rfl h
 |lst l=>cases m with |zero=>exact jy h|succ m=>exact X m l rfl h
 |_=>cases m<;>exact jy h
theorem Iq(n m:ah)(x y:DV)(V:x.eH n=aj)(U:y.eH m=aj)(e:x.dat=y.dat):x=y:=tu (p:=λZ x=>∀m y,y.eH m=aj->x.dat=y.dat->x=y) (q:=λZ l=>∀m Y,DV.tg m Y=aj->DV.qP l=DV.qP Y->l=Y) (λZ i m y h e=>nR h (λj q=>by subst q;exact bu DV.int (Dat.int.inj e)) (λs q=>by subst q;exact nomatch e) (λZ l q Z=>by subst q;exact nomatch e) (λZ l q Z=>by subst q;exact nomatch e)) (λZ s Z m y h e=>nR h (λj q=>by subst q;exact nomatch e) (λs q=>by subst q;exact bu DV.str (Dat.str.inj e)) (λZ l q Z=>by subst q;exact nomatch e) (λZ l q Z=>by subst q;exact nomatch e)) (λZ l X m y h e=>nR h (λj q=>by subst q;exact nomatch e) (λs q=>by subst q;exact nomatch e) (λk Y q W=>by subst q;exact bu DV.tup (X k Y W (Dat.tuple.inj e))) (λZ l q Z=>by subst q;exact nomatch e)) (λZ l X m y h e=>nR h (λj q=>by subst q;exact nomatch e) (λs q=>by subst q;exact nomatch e) (λZ l q Z=>by subst q;exact nomatch e) (λk Y q W=>by subst q;exact bu DV.lst (X k Y W (Dat.list.inj e)))) (λZ m Y h e=>by cases Y with|nil=>rfl|cons y Y=>exact nomatch e) (λZ x l T S m Y h e=>by cases Y with|nil=>exact nomatch e|cons y Y=> have h:=qE h;have e:=List.cons.inj e;rw[T m y h.1 e.1,S m Y h.2 e.2]) x n V m y U e
theorem nS(x:DV)(h:x.eH 8=aj):SeqAt.shaped (kqdP x.dat)=aj:=by
 have Z:=kqd_lay 8 x.dat (tB 8 x h);unfold SeqAt.shaped;rw[Z.1,v_];exact eF (br Z.2 (by decide))
section
variable{w:aG}{A:bg}{env:aV}{sc:aU}{ρ ρ':aa az}{s s':ay}{σ σ':AS}{K:ah}{P:AV->AS->Prop}{cI:Fl->AS->Prop}{H H':aa AO}
open Classical in theorem FA(x y:DV)(Z:x.eH 8=aj)(Y:y.eH 8=aj):(kqdP x.dat).eqv (kqdP y.dat)=decide (x=y):=by
 have q:=kqd_eqv 8 x.dat y.dat 8 (tB 8 x Z) (tB 8 y Y);by_cases h:x=y;·rw[eF h];exact q.mpr (by rw[h])
 ·rw[gA h];exact Bool.eq_false_iff.mpr λe=>h (Iq 8 8 x y Z Y (q.mp e))
open Classical in theorem A_{x y:DV}{Z vb:ao}{Q:ao->ay->Prop}(U:c5 K A)(Y:∃as,Reads s.heap Z (kqdP x.dat) as)(X:∃as,Reads s.heap vb (kqdP y.dat) as)(W:x.eH 8=aj)(V:y.eH 8=aj)(h:Q (.bool (decide (x=y))) s):aB (aE pw w) A (compareOp .Eq Z vb) Q b7 s:=by
 (refine aZ Y λas T=>?_;clear Y);(refine aZ X λR S=>?_;clear X);refine eq_dataH T S (nS x W) (nS y V) (by have:=U.units;show _<gp;unfold gp;exact Z2 [.p (.p V0 (.n 64)) (.n 1),.n 9900,.p V0 (.m 8 V1),.n 4000] rfl this) ?_;rw[FA x y W V];exact h
open Classical in theorem Ba{x y:DV}{Z vb:ao}{Q:ao->ay->Prop}(U:c5 K A)(Y:∃as,Reads s.heap Z (kqdP x.dat) as)(X:∃as,Reads s.heap vb (kqdP y.dat) as)(W:x.eH 8=aj)(V:y.eH 8=aj)(h:Q (.bool (!decide (x=y))) s):aB (aE pw w) A (compareOp .NotEq Z vb) Q b7 s:=by
 (refine aZ Y λas T=>?_;clear Y);(refine aZ X λR S=>?_;clear X);refine ne_dataH T S (nS x W) (nS y V) (by have:=U.units;show _<gp;unfold gp;exact Z2 [.p (.p V0 (.n 64)) (.n 1),.n 9900,.p V0 (.m 8 V1),.n 4000] rfl this) ?_;rw[FA x y W V];exact h
theorem nT(r:Rel w sc env σ ρ s){k:ah}{l:aa DV}{v:ao}(e:listAt σ.heap k=af l)(Y:RA s.heap ρ (.ref k) v)(X:(DV.lst l).eH 8=aj):∃as,Reads s.heap v (kqdP (DV.lst l).dat) as:=by
 (refine eR (eg r.bK e Y) λa items n U Z W V T=>?_;subst Z);refine aZ (C7 7 l V X) λas z=>?_;show∃as,Reads s.heap _ (kqdP (.list (DV.qP l))) as;exact⟨_,reads_list_at W rfl rfl z⟩
open Classical in theorem Cg(a b:aa DV):decide (DV.lst a=DV.lst b)=decide (a=b):=by
 by_cases h:a=b;·subst h;simp
 ·rw[gA h,gA];intro e;cases e;exact h rfl
open Classical in theorem vB{x y:AV}{P:aH->Prop}{S vb:ao}(T:c5 K A)(r:Rel w sc env σ ρ s)(Z:RA s.heap ρ x S)(Y:RA s.heap ρ y vb)(h:Qq σ.heap x y P):aB (aE pw w) A (compareOp .Eq S vb) (λv s'=>s'=s/\∃b,v=.bool b/\P b) b7 s/\aB (aE pw w) A (compareOp .NotEq S vb) (λv s'=>s'=s/\∃b,v=.bool (!b)/\P b) b7 s:=by induction x using AV.casesOn with
 |d a=>induction y using AV.casesOn with |d b=>
   refine M4 h (λi j X R h=>?_) λh=>M4 h (λs t X R h=>?_) λh=>?_
   ·have Z:=(Fx X)▸Z;have Y:=(Fx R)▸Y;(refine aZ Z λt W=>aZ Y λu V=>?_;subst W;subst V);exact⟨eq_int ⟨rfl,_,rfl,by rw[wc];exact h⟩,ne_int ⟨rfl,_,by rw[bne,wc],h⟩⟩
   ·rw[Fy X] at Z;rw[Fy R] at Y;(refine aZ Z λt W=>aZ Y λu V=>?_;subst W;subst V);exact⟨eq_str ⟨rfl,_,rfl,by rw[wc];exact h⟩,ne_str ⟨rfl,_,by rw[bne,wc],h⟩⟩
   ·exact⟨A_ T (ia 8 a Z h.1.1) (ia 8 b Y h.1.2) h.1.1 h.1.2 ⟨rfl,_,rfl,h.2⟩,Ba T (ia 8 a Z h.1.1) (ia 8 b Y h.1.2) h.1.1 h.1.2 ⟨rfl,_,rfl,h.2⟩⟩|ref k=>
   refine jo h λl X h=>jo h λb e h=>?_;rw[Fz X] at Z;have U:=h.2;rw[<-Cg] at U;exact⟨A_ T (ia 8 (.lst l) Z h.1.1) (nT r e Y h.1.2) h.1.1 h.1.2 ⟨rfl,_,rfl,U⟩,Ba T (ia 8 (.lst l) Z h.1.1) (nT r e Y h.1.2) h.1.1 h.1.2 ⟨rfl,_,rfl,U⟩⟩|_=>exact h.elim
 |ref k=>
  refine yS h λz l Q X h=>jo h λa e h=>?_;rw[Q,Fz X] at Y;have U:=h.2;rw[<-Cg] at U;exact⟨A_ T (nT r e Z h.1.1) (ia 8 (.lst l) Y h.1.2) h.1.1 h.1.2 ⟨rfl,_,rfl,U⟩,Ba T (nT r e Z h.1.1) (ia 8 (.lst l) Y h.1.2) h.1.1 h.1.2 ⟨rfl,_,rfl,U⟩⟩|_=>exact h.elim
end
section
variable{w:aG}{A:bg}{env:aV}{sc:aU}{ρ ρ':aa az}{s s':ay}{σ σ':AS}{K:ah}{P:AV->AS->Prop}{cI:Fl->AS->Prop}{H H':aa AO}
def pg(A:bg)(w:aG)(Z:CmpOp)(Y vb:ao)(s:ay)(P:aH->Prop):Prop:=aB (aE pw w) A (compareOp Z Y vb) (λv s'=>s'=s/\∃b,v=.bool b/\P b) b7 s
theorem vC{x y:AV}{P:aH->Prop}{U vb:ao}(X:RA s.heap ρ x U)(V:RA s.heap ρ y vb)(h:Qu x y P):pg A w .Is U vb s P/\pg A w .IsNot U vb s λb=>P (!b):=by induction x using AV.casesOn with
 |d v=>induction v using DV.casesOn with
  |none=>induction y using AV.casesOn with
   |d u=>induction u using DV.casesOn with |none=>
     cases (X:U=_);cases (V:vb=_);exact⟨wpAny_is_self rfl ⟨rfl,_,rfl,h⟩,wpAny_isNot_self rfl ⟨rfl,_,rfl,h⟩⟩|_=>exact h.elim
   |_=>exact h.elim
  |con c=>induction c using lP with
   |type a=>induction y using AV.casesOn with
    |d u=>induction u using DV.casesOn with
     |con e=>induction e using lP with |type b=>
       cases (X:U=_);cases (V:vb=_);exact⟨wpAny_is_plain rfl ⟨rfl,_,rfl,h⟩,wpAny_isNot_plain rfl ⟨rfl,_,rfl,by show P (!!_);rw[Bool.not_not];exact h⟩⟩|_=>exact h.elim
     |_=>exact h.elim
    |_=>exact h.elim
   |_=>exact h.elim
  |lst l=>induction y using AV.casesOn with
   |d u=>induction u using DV.casesOn with
    |none=>
     have gen:∀{v:ao},v≠.none->P aC->pg A w .Is v .none s P/\pg A w .IsNot v .none s λb=>P (!b):=λY h=>⟨is_none_ne Y ⟨rfl,_,rfl,h⟩,su Y ⟨rfl,_,rfl,h⟩⟩;(refine rB X λW W W W Z W=>?_;clear X;subst Z);cases (V:vb=_);exact gen (λe=>nomatch e) h|_=>exact h.elim
   |_=>exact h.elim
  |int i=>induction y using AV.casesOn with
   |d u=>induction u using DV.casesOn with
    |none=>
     have gen:∀{v:ao},v≠.none->P aC->pg A w .Is v .none s P/\pg A w .IsNot v .none s λb=>P (!b):=λY h=>⟨is_none_ne Y ⟨rfl,_,rfl,h⟩,su Y ⟨rfl,_,rfl,h⟩⟩;(refine aZ X λW Z=>?_;clear X;subst Z);cases (V:vb=_);exact gen (λe=>nomatch e) h|_=>exact h.elim
   |_=>exact h.elim
  |bytes b=>induction y using AV.casesOn with
   |d u=>induction u using DV.casesOn with
    |none=>
     have gen:∀{v:ao},v≠.none->P aC->pg A w .Is v .none s P/\pg A w .IsNot v .none s λb=>P (!b):=λY h=>⟨is_none_ne Y ⟨rfl,_,rfl,h⟩,su Y ⟨rfl,_,rfl,h⟩⟩;(refine aZ X λW Z=>?_;clear X;subst Z);cases (V:vb=_);exact gen (λe=>nomatch e) h|_=>exact h.elim
   |_=>exact h.elim
  |bool b=>induction y using AV.casesOn with
   |d u=>induction u using DV.casesOn with
    |none=>
     have gen:∀{v:ao},v≠.none->P aC->pg A w .Is v .none s P/\pg A w .IsNot v .none s λb=>P (!b):=λY h=>⟨is_none_ne Y ⟨rfl,_,rfl,h⟩,su Y ⟨rfl,_,rfl,h⟩⟩;cases (X:U=_);cases (V:vb=_);exact gen (λe=>nomatch e) h|_=>exact h.elim
   |_=>exact h.elim
  |_=>exact h.elim
 |ref k=>induction y using AV.casesOn with
  |d u=>induction u using DV.casesOn with
   |none=>
    have gen:∀{v:ao},v≠.none->P aC->pg A w .Is v .none s P/\pg A w .IsNot v .none s λb=>P (!b):=λY h=>⟨is_none_ne Y ⟨rfl,_,rfl,h⟩,su Y ⟨rfl,_,rfl,h⟩⟩;(refine aQ X λW Z W=>?_;clear X;subst Z);cases (V:vb=_);exact gen (λe=>nomatch e) h|_=>exact h.elim
  |_=>exact h.elim
 |_=>exact h.elim
theorem l_{Y:CmpOp}{f:aq->aq->aH}{x y:AV}{P:aH->Prop}{X vb:ao}(U:∀(a b:aq)(t u:Tok),P (f a b)->pg A w Y (.int a t) (.int b u) s P)(W:RA s.heap ρ x X)(V:RA s.heap ρ y vb)(h:Fg f x y P):pg A w Y X vb s P:=by induction x using AV.casesOn with
 |d v=>induction v using DV.casesOn with
  |int a=>induction y using AV.casesOn with
   |d u=>induction u using DV.casesOn with
    |int b=>
     (refine aZ W λT Z=>?_;clear W;subst Z);(refine aZ V λT Z=>?_;clear V;subst Z);exact U _ _ _ _ h|_=>exact h.elim
   |_=>exact h.elim
  |_=>exact h.elim
 |_=>exact h.elim
theorem tC{V:CmpOp}{x y:AV}{P:aH->Prop}{T vb:ao}(S:c5 K A)(r:Rel w sc env σ ρ s)(X:RA s.heap ρ x T)(W:RA s.heap ρ y vb)(h:Fi V σ.heap x y P):pg A w V T vb s P:=by induction V using CmpOp.casesOn with |Eq=>exact(vB S r X W h).1|NotEq=>exact bk (vB (P:=λb=>P (!b)) S r X W h).2 (λv s' Z=>bq Z λe Y=>aQ Y λb q p=>⟨e,_,q,p⟩) λU U h=>h|Lt=>exact l_ (λa b t u h=>lt_int ⟨rfl,_,rfl,h⟩) X W h|LtE=>exact l_ (λa b t u h=>le_int ⟨rfl,_,rfl,h⟩) X W h|Gt=>exact l_ (λa b t u h=>gt_int ⟨rfl,_,rfl,h⟩) X W h|GtE=>exact l_ (λa b t u h=>PyProof.Rows.ge_int ⟨rfl,_,rfl,h⟩) X W h|Is=>exact(vC X W h).1|IsNot=>exact bk (vC (P:=λb=>P (!b)) X W h).2 (λv s' Z=>bq Z λe Y=>aQ Y λb q p=>⟨e,_,q,by have p:P (!!b):=p;rw[Bool.not_not] at p;exact p⟩) λU U h=>h|In=>exact h.elim|NotIn=>exact h.elim
theorem pn{items:aK ao}{l:aa DV}(e:items.size=l.length):items.isEmpty=l.isEmpty:=by
 unfold Array.isEmpty;rw[e];cases l<;>rfl
theorem q_:d7 (.type "function") "__bool__"=aX none/\d7 (.type "function") "__len__"=aX none:=by constructor<;>(rw[fX,fY];kernel_rfl)
theorem C8{a:az}{o:aR}{Q:aH->ay->Prop}(Y:s.heap.get? a=af o)(X:o.cls=.type "function")(W:Q aj s):aB (aE pw w) A (truthy (.ref a)) Q b7 s:=by
 have Z:s.TypeIs (.ref a) "function":=aP o Y X;refine au (m:=callSpecial? _ _) ?_;refine au (gY Z q_.1 (aD ?_));refine au (gY Z q_.2 ?_);exact aD W
noncomputable def M9(x:aA aR)(T:cj):aH:=x.elim aC λo=>decide (o.cls=.type T)
theorem tE{x:aA aR}{T:cj}(h:M9 x T=aj):∃o,x=af o/\o.cls=.type T:=by induction x using c9 with|none=>exact ft h|some o=>exact aP o rfl (b3 h)
theorem K0(w:aG):∃o,(Hf w.params).get? 410=af o/\o.cls=.type "function":=tE (by kernel_rfl!)
set_option tactic.hygienic true in theorem tG{x:AV}{P:aH->AS->Prop}(h:Fj σ.heap x λb=>P b σ):Ii K sc x σ P:=by induction x using AV.casesOn with
 |d v=>induction v using DV.casesOn with
  |none=> intro w A env ρ s W r X Z;cases (Z:X=_);exact truthy_none (cG σ ρ h (Way.refl r))|bool b=> intro w A env ρ s W r X Z;cases (Z:X=_);exact aD (cG σ ρ h (Way.refl r))|int i=>
   intro w A env ρ s W r X Z;(refine aZ Z λT Y=>?_;clear Z;subst Y);exact PyProof.Rows.truthy_int (cG σ ρ h (Way.refl r))|str t=>
   intro w A env ρ s W r X Z;(refine aZ Z λT Y=>?_;clear Z;subst Y);exact PySem.P.truthy_str (by have:=h.1;exact Int.not_le.mpr (bJ [_] [] 1 [] [.p (.c V0) (.n 1),.n (2^63),.c (.p V0 (.n 1)),.c (.n (2^62))] rfl (Qn this))) (cG σ ρ h.2 (Way.toks r _))|lst l=>
   intro w A env ρ s W r X Z;(refine eR Z λa items n S Y V T U=>?_;clear Z;subst Y);have e:items.size=_:=U.length;exact wpAny_truthy_list (bz V) (by rw[e];have:=h.1;exact bJ [_] [] 1 [] [.p (.c V0) (.n 1),.n (2^63),.c (.p V0 (.n 1)),.c (.n (2^62))] rfl (Qn this)) (cG σ ρ (by rw[pn e];exact h.2) (Way.toks r _))|tup l=>
   intro w A env ρ s W r X Z;(refine mL Z λa items n Y V T U=>?_;clear Z;subst Y);have e:items.size=_:=U.length;exact truthy_tuple (cy _ V rfl ⟨n,rfl⟩) (by rw[e];have:=h.1;exact bJ [_] [] 1 [] [.p (.c V0) (.n 1),.n (2^63),.c (.p V0 (.n 1)),.c (.n (2^62))] rfl (Qn this)) (cG σ ρ (by rw[pn e];exact h.2) (Way.toks r _))|con c=>induction c using lP with
   |ref a=>
    intro w A env ρ s W r X Z;obtain⟨rfl,h⟩:=h;cases (Z:X=_);obtain⟨o,R,Q⟩:=K0 w;exact C8 (r.top _ _ R) Q (cG σ ρ h (Way.refl r))|_=>exact h.elim
  |_=>exact h.elim
 |ref k=>
  intro w A env ρ s W r X Z;delta Fj at h;dsimp only at h;split at h
  ·rename_i l q;(refine eR (eg r.bK q Z) λa items n S Y V U T=>?_;subst Y);have e:items.size=_:=U.length;exact wpAny_truthy_list (bz V) (by rw[e];have:=h.1;exact bJ [_] [] 1 [] [.p (.c V0) (.n 1),.n (2^63),.c (.p V0 (.n 1)),.c (.n (2^62))] rfl (Qn h.1)) (cG σ ρ (by rw[pn e];exact h.2) (Way.toks r _))
  ·exact h.elim|_=>exact h.elim
def Sb(K:ah)(sc:aU)(a b:AV)(σ:AS)(P:AV->AS->Prop):Prop:=∀(w:aG) (A:bg) (env:aV) (ρ:aa az) (s:ay),c5 K A->Rel w sc env σ ρ s->∀Z vb,RA s.heap ρ a Z->RA s.heap ρ b vb->∃T id,d7 (.type T) "__getitem__"=aX (af (.builtin id))/\s.TypeIs Z T/\aB (aE pw w) A (getItem Z vb) (PV w sc env ρ s P) b7 s
theorem Ev.sub{v Q:Expr}{pos:a_}(h:Ev K sc v σ λa Z=>Ev K sc Q Z λb Y=>Sb K sc a b Y P)(J:∀o i:ao,subscripted Q aC o i=operate [o,i] (getItem o i)):Ev K sc (.Subscript v Q pos) σ P:=λw A env ρ s O r=>Subscript_ (h.run O r λM L a Z N U X I=>U.run O X.rel λvb S b Y V R W G=>by
  refine cU (R w A env V S O W.rel M vb (I.mono (W.k8 X.rel)) G) λT id F E D=>?_;exact(X.trans W).kP (tail_any E F D (J M vb)))
theorem FD{n:ah}{i:aq}(Z:-(n:aq)<=i)(Y:i<n):(if i<0 then i+n else i).toNat<n:=by induction i using rQ with|ofNat j=>exact Int.ofNat_lt.mp Y|negSucc j=>
  rw[aW (Ao j),Int.add_comm];exact(Int.toNat_sub n (j+1)).symm▸(mY (dg (mZ j) (Int.ofNat_le.mp (Int.le_of_neg_le_neg Z))) (mZ j))
theorem yT{l:aa DV}{i:aq}{a:az}{items:aK ao}{n:ah}{sl:aK (aA ao)}{t:Tok}(r:Rel w sc env σ ρ s)(Y:s.heap.get? a=af (bS items n sl))(V:RS s.heap ρ l items.toList)(h:l.length<2^62/\-(l.length:aq)<=i/\i<l.length/\∀v,l[(if i<0 then i+l.length else i).toNat]?=af v->P (.d v) σ):∃T id,d7 (.type T) "__getitem__"=aX (af (.builtin id))/\s.TypeIs (.ref a) T/\aB (aE pw w) A (getItem (.ref a) (.int i t)) (PV w sc env ρ s P) b7 s:=by
 (refine rA h λU X S R=>?_;clear h);have e:items.size=l.length:=by simpa using V.length
 refine bM _ _ slot_list_getitem.lookup ((bz Y).typeIs) ?_;obtain⟨x,W⟩:∃x,l[(if i<0 then i+l.length else i).toNat]?=af x:=⟨_,c7 (FD X S)⟩;refine aQ (V.get W) λv Z Q=>?_;by_cases q:i<0;·rw[aW q] at Z;exact wpAny_getItem_list_neg (bz Y) q (by rw[e];exact X) (bJ [_] [_] 1 [] [.g (.n (2^63)),W0,.g (.c V0),W0,.c (.p V0 (.n 1)),.c (.n (2^62))] rfl X (Qn U)) (by rw[e];simpa using Z) (PV.same r (.d Q) (R _ W))
 ·rw[aI q] at Z;exact wpAny_getItem_list (bz Y) ((Qd q)) (bJ [_] [_] 1 [] [.p W0 (.n 1),.n (2^63),.p W0 (.n 1),.c V0,.c (.p V0 (.n 1)),.c (.n (2^62))] rfl S (Qn U)) (by simpa using Z) (PV.same r (.d Q) (R _ W))
theorem FE{i:aq}{n:ah}(h0:0<=i)(Z:i<n):oV i n=af i.toNat:=by
 unfold oV;simp only[show¬i<0 by exact Int.not_lt.mpr (h0),kL];rw[aW (by rw[eF h0,eF Z];rfl)]
theorem J1{l:aa DV}{i:aq}{f:DV->Prop}{G:Prop}(h:MQ l i f)(k:∀v,-(l.length:aq)<=i->i<l.length->l[(if i<0 then i+l.length else i).toNat]?=af v->f v->G):G:=by induction i using rQ with |ofNat j=>exact jo h λv e h=>k v (Int.le_trans (Int.neg_nonpos_of_nonneg (e6 _)) (e6 j)) (Int.ofNat_lt.mpr (gi e).1) (by rw[aI (show¬qg j<0 from Int.not_lt.mpr (e6 j))];exact e) h|negSucc j=>exact jo h.2 λv e Z=>k v (Int.neg_le_neg (Int.ofNat_le.mpr h.1)) (wh (Ao j) (e6 _)) (by rw[aW (Ao j),Int.add_comm];exact(bu (l[·]?) (Int.toNat_sub _ (j+1))).trans e) Z
theorem Bb{x y:AV}(h:MR σ.heap x y λv=>P v σ):Sb K sc x y σ P:=by
 intro w A env ρ s D r C vb W M;refine uI h M λi t h=>?_;induction x using AV.casesOn with
 |d x=>induction x using DV.casesOn with
  |lst l=>
   (refine eR W λa items n L Z V J U=>?_;clear W;subst Z);exact J1 h.2 λv Y X e S=>yT r V U ⟨h.1,Y,X,λu R=>dz (e.symm.trans R)▸S⟩|tup l=>
   (refine mL W λa items n Z V J U=>?_;clear W;subst Z);have e:items.size=l.length:=by simpa using U.length
   induction i using rQ with|negSucc j=>exact h.2.elim|ofNat j=>
    refine jo h.2 λx O T=>aQ (U.get O) λv I G=>?_;have Y:(0:aq)<=qg j:=e6 j;have X:qg j<(l.length:aq):=Int.ofNat_lt.mpr (gi O).1;have Q:=h.1;exact bM _ _ slot_tuple_getitem.lookup (aP _ V rfl) (getItem_tuple (cy _ V rfl ⟨n,rfl⟩) (Int.le_trans (by decide) Y) (wh (rR X (Int.ofNat_lt.mpr Q)) (by decide)) (j:=j) (by rw[e];exact FE Y X) (by simpa using I) (PV.same r (.d G) T))
  |str s'=>
   (refine aZ W λu Z=>?_;clear W;subst Z);(refine bq h λZ T=>cL Z λY X Q=>?_;clear h);obtain⟨c,N⟩:∃c,s'.cps[i.toNat]?=af c:=⟨_,j_ (by show i.toNat<s'.length;exact Qz (bJ [_,_] [_] 1 [] [.c (.p V0 (.n 1)),.c V1,.p W0 (.n 1),.c V1,.c V0,W0] rfl Z.2.1 (Q5 (Z.1))))⟩;exact bM _ _ PySem.F.slot_str_getitem.lookup (typeIs_str s _ u) (getItem_str (by simp;exact⟨bJ [] [_] 1 [] [.g (.n 9223372036854775808),W0,.n 0,W0] rfl Z.1,bJ [_] [_] 1 [] [.p W0 (.n 1),.n 9223372036854775808,.p W0 (.n 1),.c V0,.c (.p V0 (.n 1)),.c (.n (2^62))] rfl Z.2.1 (Qn Z.2.2)⟩) (c:=c) (by rw[FE Y X];exact N) (PV.here r (.d (.str _ _)) (T _ N) _))|bytes b=>
   (refine aZ W λu Z=>?_;clear W;subst Z);(refine bq h λZ T=>cL Z λY X Q=>?_;clear h);exact bM _ _ FB.slot_bytes_getitem.lookup (typeIs_bytes s _ u) (getItem_bytes (l:=b.toList) (by simp;exact Z1 [V0,.n 1099511627776,V0,.n (2^40)] (by kernel_rfl) Z.2.2) Y X (PV.here r (.d (.int _ _)) T _))|_=>exact h.elim
 |ref k=>
  refine jo h λl q h=>?_;(refine aQ W λa e E=>?_;subst e);exact lat r.bK q E λitems n L V U=>J1 h.2 λv Y X e S=>yT r V U ⟨h.1,Y,X,λu R=>dz (e.symm.trans R)▸S⟩|_=>exact h.elim
end
def uQ(h:aM)(a:az)(items:aK ao):Prop:=∃o n,h.get? a=af o/\o.data=.seq items n
theorem uQ.extBut{h h':aM}{a b:az}{items:aK ao}(x:uQ h a items)(Y:Heap.ExtBut b h h')(Z:a≠b):uQ h' a items:=let ⟨o,n,X,r⟩:=x;⟨o,n,Y a o Z X,r⟩
theorem uQ.of{h:aM}{a:az}{items:aK ao}(x:h.IsTuple a items):uQ h a items:=let ⟨o,Z,_,n,Y⟩:=x;⟨o,n,Z,Y⟩
section
variable{prog:fO}{w:aG}{A:bg}{E:ao->ay->Prop}{s:ay}
structure fF(it:az)(h h':aM):Prop where
 keep:∀b o,b≠it->h.get? b=af o->h'.get? b=af o
 size:h.objs.size<=h'.objs.size
 alive:∃o,h'.get? it=af o
theorem fF.push{it:az}{h h':aM}(e:fF it h h')(o:aR):fF it h (h'.push o):=⟨λb Z Y X=>bZ _ (e.keep b Z Y X),by rw[dJ];exact jG e.size,let ⟨x,W⟩:=e.alive;⟨x,bZ _ W⟩⟩
theorem fF.upd{it:az}{h:aM}{o:aR}(f:aR->aR)(Y:h.get? it=af o)(X:(f o).isFreed=aC):fF it h (h.update it f):=have Z:fu it h (h.update it f):=iP ..;⟨λb U W V=>(Z.2 b W).trans V,cA Z.1.symm,⟨_,jb f Y X⟩⟩
theorem kU{it l:az}{i:ah}{items:aK ao}{Q:aA ao->ay->Prop}(R:A.handled=none)(Z:s.heap.IsListIter it l i)(S:s.heap.IsList l items)(P:items[i]?=none)(O:∀h',fF it s.heap h'->Q none {s with heap:=h'}):aB (aE prog w) A (eX (.ref it)) Q E s:=by
 have key:=Z;(refine cC key λo X N W=>?_;clear key);(refine cC S λM V L Y=>aZ Y λK U=>?_;clear Y;clear S);refine au (kB (lI (name:=jM "__next__") Z.typeIs slot_listiter_next (dP slot_listiter_next Z.typeIs entry_listiter_next ?_ (args_listiter_next _))));show aB _ _ (field (.ref it) 0>>=_) _ _ s;refine au (gZ X W (x:=.ref l) rfl ?_);refine au (gZ X W (x:=.int i 0) rfl ?_);refine au (fZ V U ?_);simp only[dM,P];refine au (i_ (au (qw X W (by simp) ?_)));refine au ?_;refine au (eM ?_ (by size_fits));refine au (m:=kC _ _) (eB (a:=Value.none) (by first|rfl|(simp only[kC];rfl)) ?_);refine eM ?_ (by size_fits);refine au (sE ?_);rw[show A.in1.handled=none from R];refine au (aD (wpAny_throw ?_));refine au (jJ (T:="StopIteration") (b:=aj) (aP _ (b_ _ rfl) rfl) qx ?_);refine aD (O _ (((fF.upd _ X ?_).push _).push _));obtain⟨c,d,J,I⟩:=o;subst W;rfl
theorem next_tuple_end{it l:az}{i:ah}{items:aK ao}{Q:aA ao->ay->Prop}(S:A.handled=none)(Z:s.heap.IsTupleIter it l i)(U:uQ s.heap l items)(R:items[i]?=none)(P:∀h',fF it s.heap h'->Q none {s with heap:=h'}):aB (aE prog w) A (eX (.ref it)) Q E s:=by
 have key:=Z;(refine cC key λo Y O X=>?_;clear key);(refine cz U λN M W V=>?_;clear U);refine au (kB (lI (name:=jM "__next__") Z.typeIs xg (dP xg Z.typeIs Ey ?_ (Ez _))));show aB _ _ (field (.ref it) 0>>=_) _ _ s;refine au (gZ Y X (x:=.ref l) rfl ?_);refine au (gZ Y X (x:=.int i 0) rfl ?_);refine au (fZ W V ?_);simp only[dM,R];refine au (i_ (au (qw Y X (by simp) ?_)));refine au ?_;refine au (eM ?_ (by size_fits));refine au (m:=kC _ _) (eB (a:=Value.none) (by first|rfl|(simp only[kC];rfl)) ?_);refine eM ?_ (by size_fits);refine au (sE ?_);rw[show A.in1.handled=none from S];refine au (aD (wpAny_throw ?_));refine au (jJ (T:="StopIteration") (b:=aj) (aP _ (b_ _ rfl) rfl) qx ?_);refine aD (P _ (((fF.upd _ Y ?_).push _).push _));obtain⟨c,d,L,K⟩:=o;subst X;rfl
theorem tH{it:az}{b:aK dQ}{t:Tok}{i:ah}{Q:aA ao->ay->Prop}(W:A.handled=none)(Z:KBw.IsBytesIter s.heap it b t i)(V:b[i]?=none)(U:∀h',fF it s.heap h'->Q none {s with heap:=h'}):aB (aE prog w) A (eX (.ref it)) Q E s:=by
 have key:=Z;(refine cC key λo Y S X=>?_;clear key);refine au (kB (lI (name:=jM "__next__") (KBw.iter_typeIs Z) KBw.slot_next (dP KBw.slot_next (KBw.iter_typeIs Z) KBw.entry_next ?_ (KBw.args_next _))));show aB _ _ (field (.ref it) 0>>=_) _ _ s;refine au (gZ Y X (x:=.bytes b t) rfl ?_);refine au (gZ Y X (x:=.int i 0) rfl ?_);refine au (eB (a:=b) rfl ?_);rw[dM,V];refine au (i_ (au (qw Y X (by simp) ?_)));refine au ?_;refine au (eM ?_ (by size_fits));refine au (m:=kC _ _) (eB (a:=Value.none) (by first|rfl|(simp only[kC];rfl)) ?_);refine eM ?_ (by size_fits);refine au (sE ?_);rw[show A.in1.handled=none from W];refine au (aD (wpAny_throw ?_));refine au (jJ (T:="StopIteration") (b:=aj) (aP _ (b_ _ rfl) rfl) qx ?_);refine aD (U _ (((fF.upd _ Y ?_).push _).push _));obtain⟨c,d,R,P⟩:=o;subst X;rfl
end
theorem fF.refl{it:az}{h:aM}{o:aR}(Y:h.get? it=af o):fF it h h:=⟨λZ Z Z h=>h,bf _,o,Y⟩
section
variable{prog:fO}{w:aG}{A:bg}{E:ao->ay->Prop}{s:ay}
theorem tI{it:az}{x left step:aq}{Q:aA ao->ay->Prop}(W:A.handled=none)(Z:IsRangeIter s.heap it x left step)(Y:left<=0)(V:∀h',fF it s.heap h'->Q none {s with heap:=h'}):aB (aE prog w) A (eX (.ref it)) Q E s:=by
 have X:s.TypeIs (.ref it) "range_iterator":=aP _ Z rfl;refine au (kB (lI (name:=jM "__next__") X EA (dP EA X PySem.F.entry_range_iterator_next ?_ (PySem.F.args_range_iterator_next_1 _))));show aB _ _ (field (.ref it) 0>>=_) _ _ s;refine au (gZ Z rfl (x:=cT x) rfl ?_);refine au (gZ Z rfl (x:=cT left) rfl ?_);refine au (gZ Z rfl (x:=cT step) rfl ?_);show aB _ _ (if left<=0 then _ else _) _ _ s;rw[aW Y];refine au (i_ ?_);refine au ?_;refine au ?_;refine au (eM ?_ (by size_fits));refine au (m:=kC _ _) (eB (a:=Value.none) (by first|rfl|(simp only[kC];rfl)) ?_);refine eM ?_ (by size_fits);refine au (sE ?_);rw[show A.in1.handled=none from W];refine au (aD (wpAny_throw ?_));refine au (jJ (T:="StopIteration") (b:=aj) (aP _ (b_ _ rfl) rfl) qx ?_);exact aD (V _ (((fF.refl Z).push _).push _))
end
section
set_option backward.match.sparseCases true
theorem QA:fJ (.type "list_iterator")=aC:=rfl
theorem Ti:fJ (.type "tuple_iterator")=aC:=rfl
theorem Tj:fJ (.type "bytes_iterator")=aC:=rfl
theorem Tn:fJ (.type "range_iterator")=aC:=rfl
def Ci(h:aM)(it:az)(T:cj):Prop:=fJ (.type T)=aC/\∃o,h.get? it=af o/\o.cls=.type T
def vD(it:az)(h h':aM):Prop:=(∀b o,b≠it->h.get? b=af o->h'.get? b=af o)/\h.objs.size<=h'.objs.size
theorem vD.same{it:az}{h h':aM}(q:fu it h h'):vD it h h':=⟨λb o Z Y=>(q.2 b Z).trans Y,cA q.1.symm⟩
section
variable{w:aG}{A:bg}{env:aV}{sc:aU}{ρ ρ':aa az}{s s':ay}{σ σ':AS}{K:ah}{P:AV->AS->Prop}{cI:Fl->AS->Prop}{H H':aa AO}{h h':aM}{it:az}{T:cj}
theorem pT(X:Ci h it T)(q:vD it h h'):mQ h ρ h' ρ:=by
 refine⟨λa o W V U=>⟨q.1 a o ?_ W,U⟩,λS S h=>h⟩;rintro rfl;(refine bq X λR Z=>aQ Z λO Y Q=>?_;clear Z;clear X);have Y:=W▸Y;cases Y;rw[Q,R] at V;cases V.2
theorem Rel.but(r:Rel w sc env σ ρ s)(U:Ci s.heap it T)(S:it∉ρ)(R:it≠env.locals)(Q:∀x,env.cells.lookup x≠af it)(Z:449<=it)(q:vD it s.heap h')(tk:ah)(d:Drawn):Rel w sc env σ ρ ⟨h',s.gens,d,tk,s.os⟩:=by
 have W:mQ s.heap ρ h' ρ:=pT U q;refine⟨r.shape,λb o V=>q.1 b o (λe=>?_) (r.top b o V),br r.size q.2,r.locs,r.frame.keep W (λo Y=>q.1 _ o (Ne.symm R) Y) (λx c o X Y=>q.1 c o (λe=>Q x (e▸X)) Y) r.frame.sZ (λx c X=>(r.frame.hU x c X).1),r.bK.keep W λa o O Y=>q.1 a o (λe=>S (e▸O)) Y⟩;subst e;exact aJ (pP w.params▸b9 V) (iZ Z)
noncomputable def Ah(h:aM)(ρ:aa az)(it:az)(i:ah):AV->Prop |.d (.lst l)=>∃(a:az)(items:aK ao)(n:ah)(Z:aK (aA ao)),h.IsListIter it a i/\h.get? a=af (bS items n Z)/\a∉ρ/\RS h ρ l items.toList|.ref k=>∃a,h.IsListIter it a i/\ρ[k]?=af a|.d (.tup l)=>∃(a:az)(items:aK ao)(n:ah),h.IsTupleIter it a i/\h.get? a=af (jj items n)/\a∉ρ/\RS h ρ l items.toList|.d (.bytes b)=>∃t,KBw.IsBytesIter h it b t i|.d (.vj a b _)=>IsRangeIter h it (a+i) (ja a b 1-i) 1|_=>bG
noncomputable def QB:AV->cj |.d (.tup _)=>"tuple_iterator"|.d (.bytes _)=>"bytes_iterator"|.d (.vj _ _ _)=>"range_iterator"|_=>"list_iterator"
theorem Ah.vE{i:ah}{x:AV}(q:Ah h ρ it i x):Ci h it (QB x):=by induction x using AV.casesOn with
 |d x=>induction x using DV.casesOn with |lst l=>exact rB q λZ Z Z Z q Z=>cC q λo Y X Z=>⟨QA,o,Y,X⟩|tup l=>exact gu q λZ Z Z q Z=>cC q λo Y X Z=>⟨Ti,o,Y,X⟩|bytes b=>exact aZ q λt q=>cC q λo Y X Z=>⟨Tj,o,Y,X⟩|vj a b c=>exact⟨Tn,_,q,rfl⟩|_=>exact qd q
 |ref k=>exact aQ q λZ q Z=>cC q λo Y X Z=>⟨QA,o,Y,X⟩|_=>exact qd q
theorem Ah.mono{i:ah}(Z:mQ h ρ h' ρ')(W:∀o,h.get? it=af o->h'.get? it=af o){x:AV}(q:Ah h ρ it i x):Ah h' ρ' it i x:=by induction x using AV.casesOn with
 |d x=>induction x using DV.casesOn with |lst l=>exact eR q λa items n R q V U S=>aQ q λo Y X=>qF a items n R (aP o (W _ Y) X) ((Z.1 _ _ V ⟨rfl,KJ⟩ U).1) ((Z.1 _ _ V ⟨rfl,KJ⟩ U).2) (S.mono Z)|tup l=>exact mL q λa items n q V U S=>aQ q λo Y X=>rC a items n (aP o (W _ Y) X) ((Z.1 _ _ V ⟨rfl,KI⟩ U).1) ((Z.1 _ _ V ⟨rfl,KI⟩ U).2) (S.mono Z)|bytes b=>exact aZ q λt q=>aQ q λo Y X=>cG t o (W _ Y) X|vj a b c=>exact W _ q|_=>exact qd q
 |ref k=>exact aQ q λa q Q=>aQ q λo Y X=>aP a (aP o (W _ Y) X) (Z.2 _ _ Q)|_=>exact qd q
theorem M_{a b c:aq}{xs l:aa DV}{G:Prop}(h:(bif decide (c=1)&&w9 a b 1 then af l else none)=af xs)(k:c=1->w9 a b 1=aj->xs=l->G):G:=l7 (C:=(·=af xs)) h (λq h=>k (b3 (qE q).1) (qE q).2 (dz h).symm) λZ h=>nomatch h
theorem Cj{x:AV}{xs:aa DV}{Q:ao}(r:Rel w sc env σ ρ s)(S:jk σ.heap x=af xs)(X:RA s.heap ρ x Q):aB (aE pw w) A (jK Q) (λv U=>∃(ob:aR)(tk:ah),v=.ref s.heap.objs.size/\U=⟨s.heap.push ob,s.gens,s.drawn,tk,s.os⟩/\Ah (s.heap.push ob) ρ s.heap.objs.size 0 x) b7 s:=by
 have O:∀ob,mQ s.heap ρ (s.heap.push ob) ρ:=λob=>⟨λa o Y R W=>⟨bZ _ Y,W⟩,λR R h=>h⟩
 induction x using AV.casesOn with |bm=>exact ns S|ref k=>
  (refine eR (eg r.bK S X) λa items n N Z Y V M=>?_;subst Z);exact sF (bz Y) (bM _ s.toks rfl rfl (aP a (cy _ (b_ _ rfl) rfl rfl) M))|d d=>induction d using DV.casesOn with
 |lst l=>
  (refine eR X λa items n N Z Y W V=>?_;clear X;subst Z);exact sF (bz Y) (bM _ s.toks rfl rfl (qF a items n N (cy _ (b_ _ rfl) rfl rfl) (bZ _ Y) W (V.mono (O _))))|tup l=>
  (refine mL X λa items n Z Y W V=>?_;clear X;subst Z);exact wpAny_pyIter_tuple (cy _ Y rfl ⟨n,rfl⟩) (bM _ s.toks rfl rfl (rC a items n (cy _ (b_ _ rfl) rfl rfl) (bZ _ Y) W (V.mono (O _))))|bytes b=>
  (refine aZ X λt Z=>?_;clear X;subst Z);exact KBw.pyIter_bytes (bM _ s.toks rfl rfl (bM t _ (b_ _ rfl) rfl rfl))|vj a b c=>
   refine xA X λq t u v Z Y W=>M_ S λe V R=>?_;subst Z e;refine wpAny_pyIter_range (t:=t) (u:=u) (v:=v) Y V (bM _ s.toks rfl rfl ?_);have:=b_ (h:=s.heap) (o:={cls:=.type "range_iterator",data:=.fields #[cT a,cT (ja a b 1),cT 1]}) rfl;show IsRangeIter _ _ (a+(0:ah)) (_-(0:ah)) 1;rw[show a+((0:ah):aq)=a by exact eU (bJ [] [_] 1 [] [.p W0 (.c (.n 0)),W0] rfl) (bJ [] [_] 1 [] [W0,.p W0 (.c (.n 0))] rfl),show ja a b 1-((0:ah):aq)=ja a b 1 by exact eU (bJ [] [_] 1 [] [.s W0 (.c (.n 0)),W0] rfl) (bJ [] [_] 1 [] [W0,.s W0 (.c (.n 0))] rfl)];exact this|_=>exact ns S
theorem Bc{x:AV}{xs:aa DV}{i:ah}(Q:c5 K A)(r:Rel w sc env σ ρ s)(S:jk σ.heap x=af xs)(hi:Ah s.heap ρ it i x):aB (aE pw w) A (eX (.ref it)) (λq O=>∃(h':aM)(tk:ah),O=⟨h',s.gens,s.drawn,tk,s.os⟩/\vD it s.heap h'/\match xs[i]? with|some d=>∃v,q=af v/\R h' ρ d v/\Ah h' ρ it (i+1) x|none=>q=none) b7 s:=by
 have I:=hi.vE;induction x using AV.casesOn with
 |bm=>exact ns S|ref k=>
  (refine aQ hi λa Y G=>?_;clear hi);refine gu (r.bK.obj k _ a (bI.mp S) G) λitems n F V W=>?_;cases q:xs[i]? with |none=>exact kU Q.handled Y (bz V) (by have:=W.none q;simpa using this) λh' e=>bM h' s.toks rfl ⟨e.keep,e.size⟩ rfl|some y=>
   refine aQ (W.get q) λv N M=>?_;refine wX Y (bz V) (by simpa using N) λh' X Z=>bM h' s.toks rfl (vD.same Z) (aP v rfl ?_);have U:mQ s.heap ρ h' ρ:=pT I (vD.same Z)
   exact⟨M.mono U,a,X,G⟩ |d d=>induction d using DV.casesOn with
 |lst l=>
  obtain rfl:=(dz S).symm;(refine eR hi λa items n F Y V L W=>?_;clear hi);cases q:xs[i]? with |none=>exact kU Q.handled Y (bz V) (by have:=W.none q;simpa using this) λh' e=>bM h' s.toks rfl ⟨e.keep,e.size⟩ rfl|some y=>
   refine aQ (W.get q) λv N M=>?_;refine wX Y (bz V) (by simpa using N) λh' X Z=>bM h' s.toks rfl (vD.same Z) (aP v rfl ?_);have U:mQ s.heap ρ h' ρ:=pT I (vD.same Z);exact⟨M.mono U,a,items,n,F,X,(U.1 _ _ V ⟨rfl,KJ⟩ L).1,L,W.mono U⟩
 |tup l=>
  obtain rfl:=(dz S).symm;(refine mL hi λa items n Y V L W=>?_;clear hi);have E:s.heap.IsTuple a items:=cy _ V rfl ⟨n,rfl⟩;cases q:xs[i]? with |none=>exact next_tuple_end Q.handled Y (.of E) (by have:=W.none q;simpa using this) λh' e=>bM h' s.toks rfl ⟨e.keep,e.size⟩ rfl|some y=>
   refine aQ (W.get q) λv N M=>?_;refine wpAny_pyNext_tuple_item Y E (by simpa using N) λh' X Z=>bM h' s.toks rfl (vD.same Z) (aP v rfl ?_);have U:mQ s.heap ρ h' ρ:=pT I (vD.same Z);exact⟨M.mono U,a,items,n,X,(U.1 _ _ V ⟨rfl,KI⟩ L).1,L,W.mono U⟩
 |bytes b=>
  obtain rfl:=(dz S).symm;(refine aZ hi λt Y=>?_;clear hi);rw[dN,fS];cases q:b[i]? with |none=>exact tH Q.handled Y q λh' e=>bM h' s.toks rfl ⟨e.keep,e.size⟩ rfl|some y=>exact KBw.next_item Y q λh' X Z=>bM h' _ rfl (vD.same Z) (cy _ rfl (R.int _ _) ⟨t,X⟩)
 |vj a b c=>
   refine M_ S λe D q=>?_;subst e q;have J:IsRangeIter s.heap it (a+i) (ja a b 1-i) 1:=hi;rw[dN];by_cases q:ja a b 1-i<=0;·rw[rU (by rw[jz];exact Int.toNat_le.mpr (Int.le_of_sub_nonpos q))];exact tI Q.handled J q λh' e=>bM h' s.toks rfl ⟨e.keep,e.size⟩ rfl
   ·rw[Au (by exact Qz (bJ [_,_] [_] 1 [] [.c (.p V0 (.n 1)),.c V1,.p (.n 0) (.n 1),.s W0 (.c V0),W0,.c V1] rfl (Qc q) Q4))];refine wpAny_pyNext_range_item J ((Qc q)) λh' X Z=>bM h' _ rfl (vD.same Z) (cy _ rfl (R.int _ _) ?_);show IsRangeIter h' it (a+(i+1:ah)) (_-(i+1:ah)) 1;rw[show a+((i+1:ah):aq)=a+i+1 by exact eU (bJ [_] [_] 1 [] [.p W0 (.c (.p V0 (.n 1))),.p (.p W0 (.c V0)) (.n 1)] rfl) (bJ [_] [_] 1 [] [.p (.p W0 (.c V0)) (.n 1),.p W0 (.c (.p V0 (.n 1)))] rfl),show ja a b 1-((i+1:ah):aq)=ja a b 1-i-1 by exact eU (bJ [_] [_] 1 [] [.s W0 (.c (.p V0 (.n 1))),.s (.s W0 (.c V0)) (.n 1)] rfl) (bJ [_] [_] 1 [] [.s (.s W0 (.c V0)) (.n 1),.s W0 (.c (.p V0 (.n 1)))] rfl)];exact X|_=>exact ns S
noncomputable def Na:aa cj:=["enumerate","zip","dict_itemiterator","dict_reverseitemiterator","odict_iterator","itertools.zip_longest","itertools.pairwise"]
theorem letGo{t:Expr}{v:ao}{Q:Unit->ay->Prop}(U:Na.contains T=aC)(Y:∃o,s.heap.get? it=af o/\o.cls=.type T)(Z:Q () s):aB (aE pw w) A (sG t (.ref it) v) Q b7 s:=by
 refine aQ Y λo Y X=>?_;have key:∀W:az,aB (aE pw w) A (do
   let o<-load it match o.cls,o.data with |.type n,.fields V=>if Na.contains n&&V[0]?==af (cT W) then
     rule "for.unpacks-the-owned-tuple"updateField it 0 .none|_,_=>aX ()) Q b7 s:=λW=>by
  refine au (lJ Y ?_);rw[X];induction o.data using Data.casesOn with
  |fields V=>
   have q:¬(Na.contains T&&V[0]?==af (cT W))=aj:=by rw[U,Bool.false_and];exact cS
   show aB _ A (ite _ _ _) Q b7 s;rw[aI q];exact aD Z|_=>exact aD Z
 induction t using fQ with
 |Tuple _ _ _=>induction v using lP with |ref a=>exact key a|_=>exact aD Z
 |List _ _=>induction v using lP with|ref a=>exact key a|_=>exact aD Z
 |_=>exact aD Z
theorem Nb{p:cj->Prop}(Y:p "tuple_iterator")(X:p "bytes_iterator")(W:p "range_iterator")(Z:p "list_iterator")(x:AV):p (QB x):=by induction x using AV.casesOn with
 |d d=>induction d using DV.casesOn with |tup=>exact Y|bytes=>exact X|vj=>exact W|_=>exact Z
 |_=>exact Z
theorem Bd(x:AV):Na.contains (QB x)=aC:=Nb (p:=λs=>Na.contains s=aC) (by decide) (by decide) (by decide) (by decide) x
end
end
def As(K:ah)(sc:aU)(t:Expr)(a:AV)(σ:AS)(P:AS->Prop):Prop:=∀(w:aG) (A:bg) (Z:aV) (X:aa az) (s:ay),c5 K A->Rel w sc Z σ X s->∀V,RA s.heap X a V->aB (aE pw w) A (iO t Z V) (λT U=>∃Y W,P Y/\Way w sc Z X s Y W U) b7 s
theorem FG{a:AV}{xs:aa DV}{Y Z:AS}(h:j8 a xs Z)(X:jk Y.heap a=af xs):jk Z.heap a=af xs:=by induction a using AV.casesOn with|d x=>induction x using DV.casesOn<;>exact X|ref k=>exact h|bm=>exact ns X
section
variable{w:aG}{A:bg}{env:aV}{sc:aU}{ρ ρ' aY cM:aa az}{s s' s₁ s₂:ay}{σ σ' σ₁ σ₂:AS}{K:ah}{P:AV->AS->Prop}{cI:Fl->AS->Prop}{H H':aa AO}{h h':aM}{it:az}{T:cj}
structure Lp(w:aG)(sc:aU)(env:aV)(ρ:aa az)(s:ay)(it i:ah)(x:AV)(σ':AS)(ρ':aa az)(s':ay):Prop where
 way:Way w sc env ρ s σ' ρ' s'
 fresh:s.heap.objs.size<=it
 out:it∉ρ'
 old:it<s'.heap.objs.size
 at_:Ah s'.heap ρ' it i x
theorem fK(r:Rel w sc env σ ρ s):env.locals<s.heap.objs.size:=by
 (refine aQ r.frame.ns λm Z Y=>gu Z λo W V X Y=>?_;clear Z);exact b9 X
theorem fG(r:Rel w sc env σ ρ s){x:ai}{c:az}(Y:env.cells.lookup x=af c):c<s.heap.objs.size:=by
 (refine bq (r.frame.hU x c Y) λX Z=>cz Z λv o W X=>?_;clear Z);exact b9 W
theorem Lp.start{x:AV}{ob:aR}{tk:ah}(r:Rel w sc env σ ρ s)(hi:Ah (s.heap.push ob) ρ s.heap.objs.size 0 x):Lp w sc env ρ s s.heap.objs.size 0 x σ ρ ⟨s.heap.push ob,s.gens,s.drawn,tk,s.os⟩:=⟨Way.push r ob tk,bf _,ee r,by show _<(s.heap.push ob).objs.size;rw[dJ];exact jH _,hi⟩
theorem Lp.shift{x:AV}{i:ah}(a:Way w sc env ρ s σ₁ aY s₁)(l:Lp w sc env aY s₁ it i x σ' ρ' s'):Lp w sc env ρ s it i x σ' ρ' s':=⟨a.trans l.way,br a.step.size l.fresh,l.out,l.old,l.at_⟩
theorem Lp.go{x:AV}{i:ah}(r:Rel w sc env σ ρ s)(l:Lp w sc env ρ s it i x σ₁ aY s₁)(a:Way w sc env aY s₁ σ₂ cM s₂):Lp w sc env ρ s it i x σ₂ cM s₂:=by
 refine⟨l.way.trans a,l.fresh,λhm=>?_,dg l.old a.step.size,l.at_.mono (a.k8 l.way.rel) λo Y=>a.step.keep it o Y (λe=>?_) (λy e=>?_) l.out⟩
 ·(refine aQ a.grow λm Z hm2=>?_;subst Z);rcases d9 hm with hm|hm;·exact l.out hm
  ·exact aJ l.old (iZ (hm2 _ hm))
 ·exact aJ (fK r) (iZ (e▸l.fresh))
 ·exact aJ (fG r e) (iZ l.fresh)
theorem Lp.next{x:AV}{i j:ah}{tk:ah}(r:Rel w sc env σ ρ s)(l:Lp w sc env ρ s it i x σ₁ aY s₁)(q:vD it s₁.heap h'):Way w sc env ρ s σ₁ aY ⟨h',s₁.gens,s₁.drawn,tk,s₁.os⟩/\(Ah h' aY it j x->Lp w sc env ρ s it j x σ₁ aY ⟨h',s₁.gens,s₁.drawn,tk,s₁.os⟩):=by
 have Y:it≠env.locals:=λe=>aJ (fK r) (iZ (e▸l.fresh));have X:∀y,env.cells.lookup y≠af it:=λy e=>aJ (fG r e) (iZ l.fresh);have st:Step env ρ s ⟨h',s₁.gens,s₁.drawn,tk,s₁.os⟩:=by
  have st:=l.way.step;exact⟨λb o Z W V U=>q.1 b o (λe=>aJ (b9 Z) (iZ (e▸l.fresh))) (st.keep b o Z W V U),br st.size q.2,st.gens,st.os⟩
 have way:Way w sc env ρ s σ₁ aY ⟨h',s₁.gens,s₁.drawn,tk,s₁.os⟩:=⟨l.way.grow,(l.way.rel.but l.at_.vE l.out Y X (br r.size l.fresh) q tk s₁.drawn),st⟩;exact⟨way,λS=>⟨way,l.fresh,l.out,dg l.old q.2,S⟩⟩
theorem Ir{t:Expr}{b:aa bH}{a:AV}{va:ao}{xs:aa DV}{Rr:fk->ay->Prop}(u:c5 K A)(r:Rel w sc env σ ρ s)(W:Way w sc env ρ s σ₁ aY s₁)(ra:RA s₁.heap aY a va)(hx:jk σ₁.heap a=af xs)(I:forL (λx Q σ=>As K sc t (.d x) σ Q) (λQ σ=>nc K sc b σ Q) (j8 a xs) xs cI σ₁)(o:∀f s',PF w sc env ρ s cI f s'->Rr (.ok f) s'):aB (aE pw w) A (jK va) (λit s₂=>dw (aE pw w) A (.forLoop t it b [] env) Rr s₂) b7 s₁:=by
 refine bk (Cj W.rel hx ra) (λv s₂ Z=>cU Z λob tk e1 e2 hi=>?_) λN N h=>h;subst e1 e2;have l0:=Lp.shift W (Lp.start (tk:=tk) W.rel hi);generalize s₁.heap.objs.size=it at l0;refine codeAny_forLoop_any (λn s'=>∃(i:ah) (σ':AS) (ρ':aa az),i+n=xs.length/\jk σ'.heap a=af xs/\forL (λx Q σ=>As K sc t (.d x) σ Q) (λQ σ=>nc K sc b σ Q) (j8 a xs) (xs.drop i) cI σ'/\Lp w sc env ρ s it i a σ' ρ' s') ?_ xs.length (rC 0 σ₁ aY (eV _) hx I l0);refineλn s₃ Z=>mL Z λi l L k V Y U=>?_;refine bk (Bc u U.way.rel V U.at_) (λq s₄ Z=>cU Z λh' g e4 e G=>?_) λN N h=>h.elim;subst e4;refine bq (U.next (j:=i+1) (tk:=g) r e) λF E=>?_;cases S:xs[i]? with |none=> rw[S] at G;subst G;rw[dH (List.getElem?_eq_none_iff.mp S)] at Y;exact sC (o _ _ (F.pf (fl:=.next) trivial Y))|some d=>
  rw[S] at G;(refine cC G λv c hv hi'=>?_;clear G;subst c);have R:=E hi';have hd:xs.drop i=d::xs.drop (i+1):=by
   refine aZ (gi S) λh1 h2=>?_;rw[e8 h1,h2]
  rw[hd] at Y;refine bk (letGo (Bd a) R.at_.vE.2 (Q:=λN s'=>s'=_) rfl) (λN s₅ e5=>?_) λN N h=>h.elim;subst e5;refine bk (Y w A env L _ u R.way.rel v hv) (λN s₆ Z=>cz Z λJ2 Sj e M=>?_) λN N h=>h.elim;refine e.run u M.rel λf D fl X J y C B=>?_;have O:=(R.go r M).go r C;have z:i<xs.length:=(gi S).1;have done:(j8 a xs X/\forL (λx Q σ=>As K sc t (.d x) σ Q) (λQ σ=>nc K sc b σ Q) (j8 a xs) (xs.drop (i+1)) cI X)->∃m,m<n/\∃(i:ah) (σ':AS) (ρ':aa az),i+m=xs.length/\jk σ'.heap a=af xs/\forL (λx Q σ=>As K sc t (.d x) σ Q) (λQ σ=>nc K sc b σ Q) (j8 a xs) (xs.drop i) cI σ'/\Lp w sc env ρ s it i a σ' ρ' D:=λK1=>bq K1 λh1 h2=>aP (n-1) (Q2 (Z3 [.n 1,V0,V1,.p V2 V0,.p V2 (.n 1),V1] rfl (Qf k) z)) (rC (i+1) X J (vh [.p (.p V0 (.n 1)) V1,V2,.p V0 V3,V2,.p V1 (.n 1),V3] rfl k (eO (Z3 [.n 1,V0,V1,.p V2 V0,.p V2 (.n 1),V1] rfl (Qf k) z))) (FG h1 V) h2 O);induction fl using Fl.casesOn with
  |next=>induction f using fR with |next=>exact done y|_=>exact B.elim
  |cont=>induction f using fR with|cont=>exact done y|_=>exact B.elim
  |brk=>induction f using fR with |brk=>exact o _ _ (O.way.pf (fl:=.next) trivial y)|_=>exact B.elim
  |ret x=>induction f using fR with|ret v=>exact o _ _ (O.way.pf (fl:=.ret x) B y)|_=>exact B.elim
end
section
variable{w:aG}{A:bg}{env:aV}{sc:aU}{ρ ρ' aY cM:aa az}{s s' s₁ s₂:ay}{σ σ' σ₁ σ₂:AS}{K:ah}{P:AV->AS->Prop}{cI:Fl->AS->Prop}{H H':aa AO}{h h':aM}{it:az}{T:cj}
theorem As.mono{t:Expr}{a:AV}{P Y:AS->Prop}(h:As K sc t a σ P)(W:∀σ,P σ->Y σ):As K sc t a σ Y:=λw A env ρ s V r U S=>bk (h w A env ρ s V r U S) (λX s' Z=>cz Z λσ' ρ' R q=>cG σ' ρ' (W _ R) q) λX X h=>h
theorem Ts.mono{e:Expr}{P Y:aH->AS->Prop}(h:Ts K sc e σ P)(W:∀b σ,P b σ->Y b σ):Ts K sc e σ Y:=λw A env ρ s V r=>bk (h w A env ρ s V r) (λX s' Z=>cz Z λσ' ρ' U q=>cG σ' ρ' (W _ _ U) q) λX X h=>h
theorem Ls.mono{Y:aa Expr}{P X:aa AV->AS->Prop}(h:Ls K sc Y σ P)(V:∀b σ,P b σ->X b σ):Ls K sc Y σ X:=λw A env ρ s pos U r=>bk (h w A env ρ s pos U r) (λW s' Z=>gu Z λS σ' ρ' R q=>kO S σ' ρ' (V _ _ R) q) λW W h=>h
theorem As.name{x:ai}{p:a_}{a:AV}{P:AS->Prop}{i:ah}(hi:sc.names[i]?=af (x,.local))(h:P {σ with loc:=σ.loc.set i (af a)}):As K sc (.Name x p) a σ P:=λw A env ρ s U r S X=>by
 refine aQ r.frame.ns λm Y W=>?_;exact wpAny_assign_Name (AD (r.kind hi) Y (λh' V Z=>cG _ ρ h ⟨eY.refl _ _,r.assign hi Y V Z X W,step_same Z (.inl rfl)⟩) (by rw[r.shape.scope,r.shape.fn];rfl))
theorem mh{l:aa (ai×az)}(X:l.Pairwise λx y=>x.2≠y.2){x y:ai}{a b:az}(Z:l.lookup x=af a)(Y:l.lookup y=af b)(h:x≠y):a≠b:=by induction l with|nil=>exact ns Z|cons z l W=>
  obtain⟨z,c⟩:=z;rw[List.pairwise_cons] at X;rw[iA] at Z Y;split at Z
  ·rename_i V;cases Z;split at Y;·rename_i U;exact aJ ((eL V).trans (eL U).symm) h
   ·exact X.1 _ (mem_lookup Y)
  ·split at Y;·cases Y;exact Ne.symm (X.1 _ (mem_lookup Z))
   ·exact W X.2 Z Y
set_option tactic.hygienic true in theorem Rel.Iu(r:Rel w sc env σ ρ s){i:ah}{x:ai}{av:AV}{v:ao}{c:az}{k:ah}(hi:sc.names[i]?=af (x,f6))(Q:env.cells.lookup x=af c)(F:h'.IsCell c (af v))(E:fu c s.heap h')(D:RA s.heap ρ av v):Rel w sc env {σ with loc:=σ.loc.set i (af av)} ρ ⟨h',s.gens,s.drawn,k,s.os⟩:=by
 have st:Step env ρ s ⟨h',s.gens,s.drawn,k,s.os⟩:=step_same E (.inr (.inl ⟨x,Q⟩));have M:=qK r (eY.refl _ _) st;have W:∀b,b≠c->h'.get? b=s.heap.get? b:=λb C=>E.2 b C;refine r.of st ⟨?_,r.frame.sZ,λj y B Y V z L=>?_,λy R J=>?_⟩ (r.bK.keep M λa o u U=>?_)
 ·refine aQ r.frame.ns λm t p=>?_;refine aP m (Ns.keep t (λo U=>by rw[W _ (Ne.symm (r.shape.B7 x c Q))];exact U)) (λj y Y V L=>?_);have X:i≠j:=by
   rintro rfl;have V:=hi▸V;cases V
  have Z:(σ.loc.set i (af av))[j]?=af (af Y):=L;rw[gV X] at Z;refine aQ (p j y Y V Z) λO S N=>?_;exact aP O S (N.mono M)
 ·by_cases X:i=j
  ·subst X;rw[hi] at V;obtain rfl:x=y:=by cases V;rfl
   have:Y=av:=by
    have Z:(σ.loc.set i (af av))[i]?=af (af Y):=L;rw[wq] at Z;split at Z
    ·split at Z;·cases Z;rfl
     ·cases Z
    ·rename_i q;exact aJ rfl q
   subst this;exact bM c v Q F (D.mono M)
  ·have Z:(σ.loc.set i (af av))[j]?=af (af Y):=L;rw[gV X] at Z;refine cU (r.frame.cell j y B Y V z Z) λR O S N n=>?_;have I:x≠y:=by
    rintro rfl;exact X (nQ r.shape.nodup hi V)
   refine bM R O S (IsCell.keep N (λo U=>?_)) (n.mono M);rw[W R (Ne.symm (mh r.shape.apart Q S I))];exact U
 ·refine bq (r.frame.hU y R J) λS G=>aZ G λO N=>?_;by_cases e:R=c;·subst e;exact⟨S,_,F⟩
  ·exact⟨S,O,IsCell.keep N (λo U=>by rw[W R e];exact U)⟩
 ·rw[W a (λe=>(r.frame.hU x c Q).1 (e▸u))];exact U
theorem As.ji{x:ai}{p:a_}{a:AV}{P:AS->Prop}{i:ah}(hi:sc.names[i]?=af (x,.cell))(h:P {σ with loc:=σ.loc.set i (af a)}):As K sc (.Name x p) a σ P:=λw A env ρ s S r R W=>by
 refine aZ (r.shape.cells i x hi) λc Y=>?_;refine bq (r.frame.hU x c Y) λQ X=>aZ X λO V=>?_;exact wpAny_assign_Name (wpAny_storeName_cell (by rw[r.shape.scope];exact r.shape.fn) (r.kind hi) Y V λh' U Z=>cG _ ρ h ⟨eY.refl _ _,r.Iu hi Y U Z W,step_same Z (.inr (.inl ⟨x,Y⟩))⟩)
noncomputable def FH:aF->aH|.Tuple ..=>aj|.List ..=>aj|_=>aC
theorem yU{t e:aF}(h:(FH t&&FH e)=aC)(env:aV):oW [t] e env=aX none:=by induction t using fQ with
 |Tuple=>induction e using fQ<;>first|rfl|exact tf h
 |List=>induction e using fQ<;>first|rfl|exact tf h
 |_=>rfl
noncomputable def To:IE->aH|.bad=>aj|_=>aC
theorem Nc{d:DV}{G:Prop}(h:IE.bad=.k d):G:=tf (bu To h)
theorem Ev.const{c:Const}{k:ah}{pos:a_}{x:DV}(e:qL c=.k x)(h:P (.d x) σ):Ev K sc (.Constant c k pos) σ P:=λw A env ρ s Z r=>by induction c using Const.casesOn with |none=>cases e;exact wpAny_Constant_none (PV.same r (.d .none) h)|bool b=>cases e;exact wpAny_Constant_bool (PV.same r (.d (.bool b)) h)|int i=>cases e;exact wpAny_Constant_int (PV.here r (.d (.int i _)) h _)|str x=>cases e;exact wpAny_Constant_str (PV.here r (.d (.str x _)) h _)|bytes b=>cases e;exact Constant_bytes (PV.here r (.d (.bytes _ _)) h _)|_=>exact Nc e
theorem Ev.ji{x:ai}{pos:a_}{av:AV}{i:ah}{k:b6}(Z:k=.cell\/k=.free)(hi:sc.names[i]?=af (x,k))(U:σ.loc[i]?=af (af av))(h:P av σ)(Y:(x==("__debug__":ai))=aC)(S:(x==("__classdict__":ai))=aC):Ev K sc (.Name x pos) σ P:=λw A env ρ s R r=>by
 refine cU (r.frame.cell i x k av hi Z U) λc v X W V=>?_;rcases Z with rfl|rfl;·exact wpAny_Name (wpAny_loadName_cell (by rw[r.shape.scope];exact r.shape.fn) (r.kind hi) X W (PV.same r V h)) Y
 ·exact wpAny_Name (wpAny_loadName_free (by rw[r.shape.scope];exact r.shape.fn) (r.kind hi) X W (PV.same r V h) S) Y
theorem Ck(h:aM)(ρ:aa az)(v:ao):RA h ρ (Ff v) v:=by cases v<;>first|exact R.bytes (h:=h) (ρ:=ρ) _ _|exact R.con (h:=h) (ρ:=ρ) _
theorem Ev.Nd{x:ai}{pos:a_}{v:ao}{i:ah}(hi:sc.names[i]?=af (x,.globalImplicit))(hv:s7 x v\/E6 x v)(h:P (Ff v) σ)(Z:(x==("__debug__":ai))=aC):Ev K sc (.Name x pos) σ P:=by
 rcases hv with hv|hv;·exact Ev.global i hi hv (λh ρ=>Ck h ρ v) h Z
 ·exactλw A env ρ s Y r=>Name_function_global (by rw[r.shape.scope];exact r.shape.fn) (r.kind hi) (loadGlobal_builtin r.JG (hv w).1 r.P6 (hv w).2 (PV.same r (Ck _ _ v) h)) Z
def Kp(w:aG)(A:bg)(f:ao)(s:ay):Prop:=∀Q:Keeper->ay->Prop,(∀k,Q k s)->aB (aE pw w) A (keeperOf f) Q b7 s
theorem pU{pos:a_}{f:ao}{first:aa ao}{args:aa (aH×Sem ao)}{kws:aa (aA ai×Sem ao)}{Q:ao->ay->Prop}(h:aB (aE pw w) A (evalArgs f aj args kws) (λx s₁=>Kp w A f s₁/\aB (aE pw w) A (dW f (first++x.pos) x.kw) Q b7 s₁) b7 s)(V:(args.any (·.1)||kws.any (·.1.isNone))=aC):aB (aE pw w) A (callWith pos f first args kws) Q b7 s:=by
 refine au (bP (bk h (λx s₁ Z=>au (fm ?_)) λW W x=>x));have Y:∀{t:Sem ao},aB (aE pw w) A t Q b7 s₁->aB (aE pw w) A (t>>=λr=>holding [r] point>>=λW=>aX r) Q b7 s₁:=λh=>au (bk h (λr s₂ X=>au (bP (wpAny_point (aD X)))) λW W x=>x);rw[V];refine au (m:=keeperOf f) (Z.1 _ λk=>?_)
 cases k with |frame=>
  show aB _ _ (if _ then _ else _) _ _ _;split;·exact Y Z.2
  ·exact Y (by unfold callMarked;exact Calls.wpAny_keep Z.2)|boundFrame=>
  show aB _ _ (if _ then _ else _) _ _ _;split;·exact Y Z.2
  ·exact Y (by unfold callMarked;exact Calls.wpAny_keep Z.2)|machine=>exact Y Z.2|caller=>exact Y (wpAny_operating Z.2)
theorem dG{e:aF}(h:noStar e=aj)(Z:aa aF)(env:aV):i9 (e::Z) env=(aC,eval e env)::i9 Z env:=by induction e using fQ<;>first|rfl|exact ft h
theorem gC(pos:a_)(env:aV):∀(Z:aa aF),Z.all noStar=aj->((backTo pos (i9 Z env)).any λx=>x.1)=aC:=by
 intro Z;induction Z with |nil=>exactλX=>rfl|cons e Z Y=>
  intro h;rw[qj,cu] at h;rw[dG h.1];have:=Y h.2;show (aC||_)=aC;exact this
theorem gG{f:ao}{pos:a_}{Z:aa aF}{Q:Args->ay->Prop}(Y:Z.all noStar=aj)(h:aB (aE pw w) A (spliced (backTo pos (i9 Z env))) (λvs s₁=>Q ⟨vs,[]⟩ s₁) b7 s):aB (aE pw w) A (evalArgs f aj (backTo pos (i9 Z env)) []) Q b7 s:=by induction Z using aO with
 |nil=>
  refine au (bk h (λvs s' h'=>?_) λX X x=>x);first |exact aD h'|exact bP (au (aD (au (aD (aD h')))))|exact au (aD (bP (au (aD (au (aD (aD h')))))))
 |cons e Z=> rw[qj,cu] at Y;rw[dG Y.1] at h ⊢;exact Calls.evalArgs_plain h
def Cv(K:ah)(sc:aU)(f:AV)(args:aa AV)(σ:AS)(P:AV->AS->Prop):Prop:=∀(w:aG) (A:bg) (env:aV) (ρ:aa az) (s:ay),c5 K A->Rel w sc env σ ρ s->∀Z Y,RA s.heap ρ f Z->jQ s.heap ρ args Y->Kp w A Z s/\aB (aE pw w) A (dW Z Y) (PV w sc env ρ s P) b7 s
theorem Ev.yR{x:ai}{p pos:a_}{V:aa aF}(h:Ev K sc (.Name x p) σ λg σ₁=>Ls K sc V σ₁ λas σ₂=>Cv K sc g as σ₂ P)(S:V.all noStar=aj):Ev K sc (.Call (.Name x p) V [] pos) σ P:=λw A env ρ s U r=>by
 refine wY (h.run U r λR s₁ g σ₁ aY X Z Q=>?_);refine pU (gG S (X.run pos U Z.rel λO s₂ as σ₂ cM W Y N=>?_)) (by rw[gC pos env V S];rfl);refine bq (W w A env cM s₂ U Y.rel R O (Q.mono (Y.k8 Z.rel)) N) λM L=>?_;exact⟨M,(Z.trans Y).kP L⟩
theorem Kp.builtin{id:cj}:Kp w A (.builtin id) s:=λQ h=>aD (h _)
theorem Kp.type{T:cj}:Kp w A (.type T) s:=λQ h=>aD (h _)
theorem Kp.fn{a:az}{o:aR}{fd:kA}(Z:s.heap.get? a=af o)(Y:o.data=.func fd):Kp w A (.ref a) s:=λQ h=>by
 refine au (lJ Z ?_);rw[Y];exact aD (h _)
noncomputable def Sk:Data->aH|.func _=>aj|_=>aC
theorem Iv{d:Data}(h:Sk d=aj):∃fd,d=.func fd:=by induction d using Data.casesOn with|func fd=>exact⟨fd,rfl⟩|_=>exact ft h
noncomputable def isFn(P:ez)(a:az):aH:=((Hf P).get? a).elim aC λo=>Sk o.data
theorem yV{P:ez}{a:az}(h:isFn P a=aj):∃o fd,(Hf P).get? a=af o/\o.data=.func fd:=oE (C:=(·=aj)) h (λo e h=>aZ (Iv h) λfd Z=>cG o fd e Z) λY h=>ft h
theorem K2(w:aG):A6.all (isFn w.params)=aj:=by kernel_rfl!
theorem FI{a:az}(h:A6.contains a=aj)(w:aG):∃o fd,(Hf w.params).get? a=af o/\o.data=.func fd:=by exact yV (lV (K2 w) a (List.contains_iff_mem.mp h))
noncomputable def FJ:ah->az->aa AV->aa AO->(AV->aa AO->Prop)->Prop|0,_,_,_,_=>bG|K+1,f,as,H,P=>Fn K f as H P
noncomputable def c6(K:ah):Fc:=⟨λa as H P=>Fn K a as H P,Ij K,FJ K⟩
theorem Cv.fn{a:az}{as:aa AV}(Y:A6.contains a=aj)(h:Fn K a as σ.heap λv H=>P v {σ with heap:=H}):Cv K sc (.d (.con (.ref a))) as σ P:=by
 rintro w A env ρ s X r M W rfl V;refine cz (FI Y w) λo L U S=>?_;refine⟨Kp.fn (r.top _ _ U) S,bk (gc (h w A ρ s X r.pre W V)) (λv s₂ Z=>kY Z λJ H' ρ' R g Q O st=>?_) λN N h=>h⟩;exact(Way.called r g Q st).pv O R
theorem FL{h:aM}{ρ:aa az}:∀{ns:aa aq}{vs:aa ao},RS h ρ (ns.map .int) vs->IntsAre vs ns:=by
 intro ns;induction ns with
 |nil=> intro _ e;cases e;exact .nil|cons V U Z=> intro _ Y;obtain⟨v,r,e,⟨t,X⟩,W⟩:=Y;subst e X;exact .cons _ _ (Z W)
theorem yW{a:AV}{l:aa DV}{X:ao}(r:Rel w sc env σ ρ s)(h:qM σ.heap a=af l)(W:RA s.heap ρ a X):∃(x:az)(items:aK ao),X=.ref x/\s.heap.IsList x items/\RS s.heap ρ l items.toList:=by induction a using AV.casesOn with
 |d x=>induction x using DV.casesOn with |lst _=>
   cases h;exact eR W λa items n V e Z U Y=>bM a items e (bz Z) Y|_=>exact ns h
 |ref k=>exact eR (eg r.bK h W) λa items n V e Z Y U=>bM a items e (bz Z) Y|bm=>exact ns h
theorem Iw{x:DV}{T:cj}{h:aM}{ρ:aa az}{v:ao}(e:MX x=af T)(Y:R h ρ x v)(s:ay):s.TypeIs v T/\(jN T==jN "builtin_function_or_method")=aC:=by induction x using DV.casesOn with |bytes b=>(refine aZ Y λt Z=>?_;clear Y;subst Z);cases e;exact⟨rfl,by decide⟩|str b=>(refine aZ Y λt Z=>?_;clear Y;subst Z);cases e;exact⟨rfl,by decide⟩|bool b=>cases (show v=_ from Y);cases e;exact⟨rfl,by decide⟩|_=>cases e
end
section
variable{w:aG}{A:bg}{env:aV}{sc:aU}{ρ ρ' aY cM:aa az}{s s' s₁ s₂:ay}{σ σ' σ₁ σ₂:AS}{K:ah}{P:AV->AS->Prop}{cI:Fl->AS->Prop}{H H':aa AO}{h h':aM}{it:az}{T:cj}
theorem pV{l:az}{items:aK ao}{n:ah}{sl:aK (aA ao)}{x:ao}{Q:ao->ay->Prop}(X:s.heap.get? l=af (bS items n sl))(hsz:items.size<=bw)(W:∀(h':aM)(Y:ah),h'.get? l=af (bS (items.push x) Y sl)->fu l s.heap h'->Q .none {s with heap:=h'}):aB (aE pw w) A (dW (.builtin "list.append") [.ref l,x]) Q b7 s:=by
 refine dP slot_list_append (bz X).typeIs entry_list_append ?_ (args_list_append _ _);show aB _ _ (oX l (·.push x)>>=λV=>ret .none) _ _ s;refine au (lK X rfl (aD (aP (.none) rfl ?_)));refine aZ (sR (o:=bS items n sl) rfl (·.push x)) λY Z=>?_;refine W _ Y ?_ (iP ..);rw[jb _ X (xq Z)];have:(bS items n sl).mapSeq (·.push x)=bS (items.push x) Y sl:=by
  have e:(bS items n sl).mapSeq (·.push x)=⟨.type "list",none,((bS items n sl).mapSeq (·.push x)).data,sl⟩:=rfl;rw[e,Z];rfl
 rw[this]
def Pt(K:ah)(sc:aU)(e:aA aF)(σ:AS)(P:aA aq->AS->Prop):Prop:=match e with |none=>P none σ|some e=>Ev K sc e σ λa σ'=>∃i,a=.d (.int i)/\P (af i) σ'
theorem Pt.run{e:aA aF}{P:aA aq->AS->Prop}(h:Pt K sc e σ P)(W:c5 K A)(r:Rel w sc env σ ρ s){Q:ao->ay->Prop}(k:∀v s' o σ' ρ',P o σ'->Way w sc env ρ s σ' ρ' s'->IsPart v o->Q v s'):aB (aE pw w) A (evalPart e env) Q b7 s:=by induction e using c9 with|none=>exact wpAny_evalPart_none (k _ _ _ _ _ h (Way.refl r) .none)|some e=>exact wpAny_evalPart_some (Ev.run h W r λv s' a σ' ρ' Z=>aQ Z λi e V U X=>by
   subst e;(refine aZ X λt Y=>?_;clear X;subst Y);exact k _ _ _ _ _ V U (.int i t))
theorem Ev.slice{v:aF}{lo hi st:aA aF}{p pos:a_}(h:Ev K sc v σ λa σ₁=>Pt K sc lo σ₁ λl σ₂=>Pt K sc hi σ₂ λu R=>Pt K sc st R λt Q=>MS a l u t λv=>P v Q):Ev K sc (.Subscript v (.Slice lo hi st p) pos) σ P:=λw A env ρ s z r=>Subscript_ (h.run z r λva s₁ a σ₁ aY E O ra=>wpAny_Slice (E.run z O.rel λf s₂ l σ₂ cM D V c=>D.run z V.rel λvu s₃ u R m C U iu=>C.run z U.rel λvt Z t Q k Y S it=>by
  have j:=((O.trans V).trans U).trans S;have G:=Way.push S.rel ⟨.type "slice",none,.fields #[f,vu,vt],#[]⟩ Z.toks;have y:=(((ra.mono (V.k8 O.rel)).mono (U.k8 V.rel)).mono (S.k8 U.rel)).mono (G.k8 S.rel);induction a using AV.casesOn with
  |d a=>induction a using DV.casesOn with |lst J=>
    (refine cL Y λhl ht L=>?_;clear Y);(refine eR y λb items n sl X hg hn B=>?_;clear y;subst X);have W:items.size=J.length:=by simpa using B.length
    have I:∃N,subscripted (.Slice lo hi st p) aC (.ref b) (.ref Z.heap.objs.size)=operate N (getItem (.ref b) (.ref Z.heap.objs.size)):=by cases st<;>exact⟨_,rfl⟩
    refine aZ I λN I=>?_;refine tail_any (bz hg).typeIs slot_list_getitem.lookup (wpAny_getItem_list_slice (lo:=l) (hi:=u) (st:=t) (bz hg) (Heap.IsSliceOf.new Z.heap f vu vt) c iu it ht ?_ (Z3 [V0,V1,V2,V1,V0,V2] rfl hl (Qe W))) I;have q:=xF G.rel (B.pick (qv (iH l u t J.length).1 (iH l u t J.length).2.1 (iH l u t J.length).2.2)) L 0 Z.toks _ rfl;have e2:slicePick items l u t=(List.filterMap (items.toList[·]?) (qv (iH l u t J.length).1 (iH l u t J.length).2.1 (iH l u t J.length).2.2)).toArray:=by
     unfold slicePick;rw[W];simp
    rw[e2];(refine kY q λav σ' ρ' h5 h6 h7 h8 h9=>?_;clear q);exact(j.trans G).trans ⟨h6,h7,h9⟩|>.pv h8 h5|str x=>
    (refine bq Y λX L=>bq X λM W=>?_;clear Y;subst M);(refine aZ y λg X=>?_;clear y;subst X);have part:∀{v:ao}{o:aA aq},IsPart v o->∃q:aA (aq×Tok),partValue q=v/\q.map (·.1)=o:=λh=>by induction h using IsPart.casesOn with |none=>exact aP none rfl rfl|int i t=>exact aP (af (i,t)) rfl rfl
    (refine aQ (part c) λql X M=>?_;subst X;subst M);(refine aQ (part iu) λqu X M=>?_;subst X;subst M);cases it;have I:∃N,subscripted (.Slice lo hi st p) aC (.str x g) (.ref Z.heap.objs.size)=operate N (getItem (.str x g) (.ref Z.heap.objs.size)):=by cases st<;>exact⟨_,rfl⟩
    refine aZ I λN I=>?_;refine tail_any (T:="str") rfl PySem.F.slot_str_getitem.lookup (wpAny_getItem_str_slice (l:=ql) (u:=qu) (st:=none) (cy _ (b_ _ rfl) rfl rfl) rfl ?_) I;unfold sliceMade slicePicked;unfold qN at L W;simp only[Option.map_none,wV,iT,v_] at L W ⊢;by_cases e:((lO (ql.map (·.1)) (qu.map (·.1)) 1 x.length).length==x.length)=aj;·rw[aW e] at L ⊢;exact(j.trans G).pv (.d (.str x g)) L
    ·rw[aI e] at L W ⊢;exact⟨W,((j.trans G).trans (Way.toks G.rel _)).pv (.d (.str _ _)) L⟩|_=>exact Y.elim
  |_=>exact Y.elim))
theorem Iz:∀{l:aa AV},l.all AV.Il=aj->l=(l.map AV.dv).map .d:=by
 intro Z;induction Z with
 |nil=> intro _;exact rfl|cons Y l X=>induction Y using AV.casesOn with
  |d x=>
   intro h;have:l.all AV.Il=aj:=by simpa [AV.Il] using h
   rw[ek,ek,<-(X this)];rfl|ref W=> intro h;simp[AV.Il] at h|bm V U=> intro h;simp[AV.Il] at h
theorem Ls.K3{X:aa aF}{Q:aa DV->AS->Prop}(h:Ls K sc X σ λZ σ₁=>Z.all AV.Il=aj/\Z.length<=bw/\Q (Z.map AV.dv) σ₁):Ls K sc X σ λZ σ₁=>∃xs:aa DV,Z=xs.map .d/\xs.length<=bw/\Q xs σ₁:=h.mono λZ σ₁ Y=>cL Y λW V U=>cy _ (Iz W) (by rw[bB];exact V) U
theorem Pt.mono{e:aA aF}{P Y:aA aq->AS->Prop}(h:Pt K sc e σ P)(X:∀o σ,P o σ->Y o σ):Pt K sc e σ Y:=by induction e using c9 with |none=>exact X _ _ h|some e=>exact Ev.mono (e:=e) h λa σ Z=>aQ Z λi e W=>aP i e (X _ _ W)
theorem Ev.neg{e:aF}{pos:a_}(h:Ev K sc e σ λa σ₁=>∃i:aq,a=.d (.int i)/\P (.d (.int (-i))) σ₁):Ev K sc (.UnaryOp .USub e pos) σ P:=λw A env ρ s V r=>wpAny_UnaryOp (h.run V r λv s₁ a σ₁ aY Y=>aQ Y λi e U Z W=>by
  subst e;(refine aZ W λt X=>?_;clear W;subst X);exact Z.kP (neg_int (PV.here Z.rel (.d (.int _ _)) U _)))
theorem Cm{op:CmpOp}{r:aF}(Z:op≠.In)(Y:op≠.NotIn):behindInMarks op r=aC:=by induction r using fQ with|Set X k p=>show (k==0&&(op==.In||op==.NotIn)&&_)=aC;rw[fC Z,fC Y,Bool.or_false,Bool.and_false];rfl|_=>rfl
theorem Ev.cmp{l r:aF}{S:CmpOp}{pos:a_}(O:behindInMarks S r=aC)(h:Ev K sc l σ λa σ₁=>Ev K sc r σ₁ λb σ₂=>Fi S σ₂.heap a b λc=>P (.d (.bool c)) σ₂):Ev K sc (.Compare l [S] [r] pos) σ P:=λw A env ρ s R N=>wpAny_Compare1 (h.run R N λF s₁ a σ₁ aY X Y M=>X.run R Y.rel λvb s₂ b σ₂ cM W Z L=>(Y.trans Z).kP (bk (tC R Z.rel (M.mono (Z.k8 Y.rel)) L W) (λv Q V=>bq V λe U=>aQ U λc J I=>by subst e J;exact PV.same Z.rel (.d (.bool c)) I) λG G h=>h)) O
theorem Ts.cmp{l r:aF}{S:CmpOp}{pos:a_}{P:aH->AS->Prop}(O:behindInMarks S r=aC)(h:Ev K sc l σ λa σ₁=>Ev K sc r σ₁ λb σ₂=>Fi S σ₂.heap a b λc=>P c σ₂):Ts K sc (.Compare l [S] [r] pos) σ P:=λw A env ρ s R N=>wpAny_isTrue_Compare1 (h.run R N λF s₁ a σ₁ aY X Z M=>X.run R Z.rel λvb s₂ b σ₂ cM W Y L=>bk (tC R Y.rel (M.mono (Y.k8 Z.rel)) L W) (λv Q V=>bq V λe U=>aQ U λc J I=>by
   subst e J;exact aD (cG σ₂ cM I (Z.trans Y))) λG G h=>h) O
def Mc(K:ah)(sc:aU)(x:AV)(m:Mt)(as:aa AV)(σ:AS)(P:AV->AS->Prop):Prop:=∀(w:aG) (A:bg) (env:aV) (ρ:aa az) (s:ay),c5 K A->Rel w sc env σ ρ s->∀Z Y,RA s.heap ρ x Z->jQ s.heap ρ as Y->aB (aE pw w) A (dW (.builtin (vz m).2) (Z::Y)) (PV w sc env ρ s P) b7 s
def FN(name:ai)(m:Mt):Prop:=PlainAttrs (vz m).1/\Slot (vz m).1 name (vz m).2/\fP (.builtin (vz m).2)=aX (.type "method_descriptor")
theorem pq(r:Rel w sc env σ ρ s){x:AV}{Z:ao}(h:Fw σ.heap x=aj)(W:RA s.heap ρ x Z):s.TypeIs Z "list"/\∀a,Z=.ref a->∃ob,s.heap.get? a=af ob/\ob.dict=none:=by
 unfold Fw at h;split at h;·refine aZ (Option.isSome_iff_exists.mp h) λl e=>?_;(refine eR (eg r.bK e W) λa items n V Y X U S=>?_;subst Y);exact⟨(bz X).typeIs,λb e=>by cases e;exact aP _ X rfl⟩
 ·exact ft h
theorem nU{o:aF}(h:baseOk o=aj)(a:ai)(env:aV):attributeBase o a env (eval o env)=eval o env:=by induction o using fQ with
 |Call f Z Y p=>induction Z using aO with |nil=>exact ft h|cons e Z=>induction f using fQ<;>rfl
 |_=>rfl
theorem tJ(pos:a_)(env:aV):∀(Z:aa aF),Z.all noStar=aj->((backTo pos (i9 Z env)).all λx=>!x.1)=aj:=by
 intro Z;induction Z with |nil=>exactλX=>rfl|cons e Z Y=>
  intro h;rw[qj,cu] at h;rw[dG h.1];exact Y h.2
theorem tK{x:AV}{as:aa AV}(h:KZ x as P σ):Mc K sc x .append as σ P:=by
 intro w A env ρ s J r I G R Y;refine uR h R λk a U h=>Cf h Y λb v X h=>uD h X λy Q h=>jo h λl e h=>lat r.bK e U λitems n O N Y=>?_;refine pV N (by rw[(by simpa using Y.length:items.size=l.length)];exact gy h.1) λh' M W Z=>?_;have L:=Way.s6 (tk:=s.toks) (d:=s.drawn) r U (bI.mp e) (λq=>nomatch q) (o':=.list (l++[y])) (λF q=>nomatch q) (λb E X V=>(Z.2 b X).trans V) (cA Z.1.symm) λS=>kO (items.push v) M O W (by rw[v9];exact(Y.mono S).append (RS.cons (Q.mono S) RS.nil));exact L.pv (.d .none) h.2
end
noncomputable def Nf(w:aG)(i:ah):aA ao:=match (Hf w.params).get? 242 with|some o=>(o.slots[i]?).join|none=>none
noncomputable abbrev QC(w:aG):aR:=excClassObj "SequenceMatcher" "SequenceMatcher" 242 241 [.type "object"] [.type "object"] aj [] [] aC none none (Nf w 0) (Nf w 1) (Nf w 2) (Nf w 3) (Nf w 5) "object.__new__"
theorem Ng(w:aG):(Hf w.params).get? 242=af (QC w):=by kernel_rfl!
theorem Nh(w:aG):(Hf w.params).isNs 241=aj:=by kernel_rfl!
noncomputable def FO:aa ai:=["__getattribute__","__setattr__","__getattr__"]
theorem IA(w:aG):(FO++atT).map (λx=>(Hf w.params).nsMap 241 x)=(FO++atT).map (λZ=>none):=by kernel_rfl!
theorem vF{w:aG}{x:ai}(h:x∈FO++atT):(Hf w.params).nsMap 241 x=none:=List.map_inj_left.mp (IA w) x h
theorem obj_none:∀x∈atT,d7 (.type "object") x=aX none:=by
 intro x Z;simp only[atT,qk,oH,or_false] at Z;rcases Z with rfl|rfl|rfl|rfl|rfl|rfl|rfl|rfl|rfl|rfl<;>(rw[fX,fY];kernel_rfl)
theorem handed{h:aM}{ρ:aa az}{a:AV}{v:ao}(Y:RA h ρ a v)(W:JV a=aj):handedOut v=aX v:=by induction a using AV.casesOn with
 |d x=>induction x using DV.casesOn with
  |none=>cases (show v=_ from Y);rfl|bool b=>cases (show v=_ from Y);rfl|int i=>(refine aZ Y λt Z=>?_;clear Y;subst Z);rfl|str i=>(refine aZ Y λt Z=>?_;clear Y;subst Z);rfl|bytes i=>(refine aZ Y λt Z=>?_;clear Y;subst Z);rfl|con u=>
   cases (show v=u from Y);induction v using lP with |builtin id=>exact ft W|_=>rfl
  |tup l=>(refine gu Y λa items n Z X=>?_;clear Y;subst Z);rfl|lst l=>(refine rB Y λa items n V Z X=>?_;clear Y;subst Z);rfl|qI l=>(refine rB Y λa items n X Z X=>?_;clear Y;subst Z);rfl|vj p q c=>(refine rB Y λa t u w Z X=>?_;clear Y;subst Z);rfl
 |ref k=>(refine aQ Y λa Z X=>?_;clear Y;subst Z);rfl|bm id k=>(refine cz Y λa b Z X=>?_;clear Y;subst Z);rfl
theorem bL{H:aa AO}{k:ah}{l:aa (aA AV)}:l8 H k=af l↔H[k]?=af (.inst l):=by
 delta l8;generalize H[k]?=x;induction x using c9 with|none=>exact⟨ns,ns⟩|some o=>induction o using AO.casesOn with|inst m=>exact⟨λh=>bu (λl=>af (AO.inst l)) (dz h),λh=>bu af (AO.inst.inj (dz h))⟩|_=>exact⟨ns,λh=>AO.noConfusion (dz h)⟩
section
variable{w:aG}{A:bg}{env:aV}{sc:aU}{ρ ρ':aa az}{s s':ay}{σ σ':AS}{K:ah}{P:AV->AS->Prop}{cI:Fl->AS->Prop}{H H':aa AO}{h h':aM}
theorem xP(r:Rel w sc env σ ρ s):s.heap.get? 242=af (QC w):=r.top _ _ (Ng w)
theorem Cn(r:Rel w sc env σ ρ s):s.heap.Ns 241 ((Hf w.params).nsMap 241):=Ns.keep (.of_isNs (Nh w)) λo=>r.top _ o
theorem Be{x:AV}{i:ah}{n:ai}{Y:ao}{Q:AV->Prop}(hi:atT[i]?=af n)(r:Rel w sc env σ ρ s)(h:KW σ.heap x i Q)(V:RA s.heap ρ x Y):aB (aE pw w) A (getAttr Y n aj) (λv s'=>∃av,Q av/\s'={s with toks:=s.toks+1}/\RA s.heap ρ av v) b7 s:=by
 refine uR h V λk a U h=>jo h λl e h=>jo h λo T h=>jo h λav S h=>?_;refine sV (r.bK.obj k _ a (bL.mp e) U) λM m L I J G R F E O=>?_;have Z:=O i n hi;rw[T,S] at Z;refine aQ Z λv N X=>?_;have W:=j3 hi;exact load_attr (xP r) (Cn r) (vF (jD _ (.head _))) (vF (rV _ W)) (obj_none _ W) I N (handed X h.1) (cy av h.2 rfl X)
theorem Ev.lB{y n:ai}{p pos:a_}{i:ah}(hi:atT[i]?=af n)(h:Ev K sc (.Name y p) σ λx Z=>KW Z.heap x i λv=>P v Z):Ev K sc (.Attribute (.Name y p) n pos) σ P:=λw A env ρ s S r=>by
 refine au (h.run S r λM U x Z V X Y R=>au (fm (au (bP (bk (Be hi Y.rel X R) (λv T W=>cC W λL Q e O=>?_) λN N h=>h)))));subst e;exact au (aD (aD ((Y.trans (Way.toks Y.rel _)).pv O Q)))
theorem gv.QD{k:ah}{a O:az}{l E:aa (aA AV)}(T:gv w H h ρ)(L:ρ[k]?=af a)(J:H[k]?=af (.inst l))(Q:ρ[k+1]?=af O)(z:mQ h ρ h' ρ)(X:∀b ob,b≠a->b≠O->h.get? b=af ob->h'.get? b=af ob)(I:∃o,h'.get? O=af o)(N:yF w h' ρ k (.inst E) a):gv w (H.set k (.inst E)) h' ρ:=by
 have W:∀i j b c,i≠j->ρ[i]?=af b->ρ[j]?=af c->b≠c:=λi j b c S D y e=>by
  subst e;exact S ((qh (gi D).1 T.nodup).mp (D.trans y.symm))
 have M:=T.own k l J;have G:k<H.length:=(gi J).1;have C:∀i Z,H[i]?=af (.inst Z)->i+1≠k:=λi Z S e=>by
  have:=T.own i Z S;rw[e,J] at this;cases this
 refine⟨by rw[mT];exact T.len,T.nodup,T.above,λi Z S=>?_,λi ob b V U=>?_⟩
 ·by_cases Y:k=i;·subst Y;rw[gV (by exact b8 (Z1 [.p V0 (.n 1),.p V0 (.n 1)] rfl))];exact M
  ·have S:=(gV Y)▸S;rw[gV (λe=>C i Z S e.symm)];exact T.own i Z S
 ·by_cases Y:k=i;·subst Y;have U:=L▸U;cases U;have V:=(rW G)▸V;cases V;exact N
  ·rw[gV Y] at V;by_cases R:i=k+1;·subst R;have V:=M▸V;cases V;have U:=Q▸U;cases U;exact I
   ·refine(T.obj i ob b V U).mono z (λx=>X b x (W i k b a (Ne.symm Y) U L) (W i (k+1) b O R U Q)) λZ e F B x=>X F x ?_ ?_;·subst e;exact W (i+1) k F a (C i Z V) B L
    ·exact W (i+1) (k+1) F O (λe=>Y (wU e).symm) B Q
theorem yX{k i:ah}{n:ai}{l:aa (aA AV)}{av:AV}{va v:ao}(hi:atT[i]?=af n)(r:Rel w sc env σ ρ s)(hl:l8 σ.heap k=af l)(ha:RA s.heap ρ (.ref k) va)(hv:RA s.heap ρ av v):aB (aE pw w) A (setAttr va n v) (λS s'=>Way w sc env ρ s {σ with heap:=σ.heap.set k (.inst (l.set i (af av)))} ρ s') b7 s:=by
 (refine aQ ha λa G L=>?_;clear ha;subst G);have ho:=bL.mp hl;refine sV (r.bK.obj k _ a ho L) λJ m o I hg hd U hw W hm=>?_;have E:=j3 hi;have D:i<10:=(gi hi).1;refine ef (store_attr F.store_object (ns:=atT) (xP r) (Cn r) (vF (jD _ (.tail _ (.head _)))) (vF (rV _ E)) (obj_none _ E) (λe=>?_) I (λh' C B z t g=>?_) hw (by size_fits));·have:=r.bK.above a (j3 L);rw[e] at this;exact aJ this (by decide)
 ·have Z:∀b V,b≠a->b≠J->s.heap.get? b=af V->h'.get? b=af V:=λb V h1 h2 h3=>z b V h1 (λo₀ d₀ f d=>by
   have f:=hg▸f;cases f;have d:=hd▸d;cases d;exact h2) h3;have st:B8 ρ s ⟨h',s.gens,s.drawn,C,s.os⟩:=⟨λb V c Y=>Z b V (λe=>Y (e▸j3 L)) (λe=>Y (e▸j3 U)) c,g,rfl,rfl⟩;have fz:mQ s.heap ρ h' ρ:=⟨λb V c S Y=>⟨st.keep b V c Y,Y⟩,λS S h=>h⟩;refine Mg (t o hg) λR g1 g2 g3 g4 g5=>?_;have T:=g5 J hd;have Tp:∃o,h'.get? J=af o:=by
   (refine m_ B λo₂ Q q2 q3 X=>?_;clear B);have Q:=g1▸Q;cases Q;rcases X with ⟨X,_⟩|⟨d',X,_,q5⟩;·have X:=T▸X;cases X
   ·have X:=T▸X;cases X;refine gu q5.ns λO S S q6 S=>?_;exact⟨O,q6⟩
  refine Way.called r (eY.refl _ _) (r.bK.QD L ho U fz Z Tp (EJ J _ R B g1 T U ?_ (by rw[mT];exact W) (λj y N=>?_))) st
  ·intro y M;by_cases q:y=n;·rw[q];exact E
   ·exact hw y (λe=>M (by show (if y=n then af v else m y)=none;rw[aI q];exact e))
  ·by_cases e:i=j;·subst e;have N:=hi▸N;cases N;rw[rW (by exact Z2 [.p V0 (.n 1),V1,.n 10,V1,.p V0 (.n 1),.n 10] rfl (Qf W) D)];exact aP v (aW rfl) (hv.mono fz)
   ·have Tq:y≠n:=λq=>by
     subst q;exact e ((qh (gi hi).1 (by decide)).mp (hi.trans N.symm))
    rw[gV e];have:=hm j y N;have M:(if y=n then af v else m y)=m y:=aI Tq;generalize l[j]?=x at this ⊢;induction x using c9 with|none=>exact M.trans this|some o=>induction o using c9 with|none=>exact M.trans this|some av=>exact aQ this λu Q q2=>aP u (M.trans Q) (q2.mono fz)
theorem As.lB{y n:ai}{p pos:a_}{i:ah}{v:AV}{P:AS->Prop}(hi:atT[i]?=af n)(h:Ev K sc (.Name y p) σ λx Y=>MO x i v P Y):As K sc (.Attribute (.Name y p) n pos) v σ P:=λw A env ρ s R r L O=>by
 refine au (bP (h.run R r λvo T x Y V Z X N=>au (fm (au (bP ?_)))));refine uR Z N λk a M Z=>jo Z λl e Z=>?_;exact bk (yX hi X.rel e (.ref M) (O.mono (X.k8 r))) (λU S W=>wpAny_release (Q:=λU s'=>∃σ' ρ',P σ'/\Way w sc env ρ s σ' ρ' s') (cG _ _ Z (X.trans W))) λU U h=>h
end
theorem tL{eq:ai->ai->aH}(Y:∀a b,eq a b=aj↔a=b){a:ai}{i:ah}{l:aa ai}:∀{j:ah},findS eq a l j=af i->j<=i/\l[i-j]?=af a:=by induction l with |nil=>exactλh=>nomatch h|cons y l X=>
  refineλ{j}h=>l7 (C:=(·=af i)) h (λe h=>?_) λV h=>bq (X h) λZ W=>⟨wK Z,?_⟩;·rw[<-dz h,cB,(Y _ _).mp e];exact⟨bf _,rfl⟩
  ·rw[<-Nat.succ_pred_eq_of_pos (Nat.sub_pos_of_lt Z)];exact W
noncomputable def nk:aa (ai×az):=[("set_seqs",167),("set_seq1",174),("set_seq2",181),("_SequenceMatcher__chain_b",188),("find_longest_match",196),("get_matching_blocks",203)]
theorem IB(w:aG):nk.map (λp=>(Hf w.params).nsMap 241 p.1)=nk.map (λp=>af (.ref p.2)):=by kernel_rfl!
theorem FP:∀p∈nk,d7 (.type "object") p.1=aX none:=by
 intro p Z;simp only[nk,qk,oH,or_false] at Z;rcases Z with rfl|rfl|rfl|rfl|rfl|rfl<;>(rw[fX,fY];kernel_rfl)
theorem IC(w:aG):nk.all (λp=>isFn w.params p.2)=aj:=by kernel_rfl!
theorem C9(w:aG):nk.all (λp=>match(Hf w.params).get? p.2 with|some o=>(match o.cls with|.type T=>T=="function"|_=>aC)|none=>aC)=aj:=by kernel_rfl!
theorem ID{p:ai×az}(Y:p∈nk)(w:aG):∃o fd,(Hf w.params).get? p.2=af o/\o.data=.func fd/\o.cls=.type "function":=by
 have Z:=lV (C9 w) p Y;refine cz (yV (lV (IC w) p Y)) λo fd e W=>bM o fd e W ?_;have Z:=e▸Z;have Z:(match o.cls with|.type T=>T=="function"|_=>aC)=aj:=Z;induction X:o.cls using lP with|type T=>have Z:=X▸Z;rw[eL Z]|_=>have Z:=X▸Z;exact ft Z
section
variable{w:aG}{A:bg}{env:aV}{sc:aU}{ρ ρ':aa az}{s s':ay}{σ σ':AS}{K:ah}{P:AV->AS->Prop}
theorem Ev.QE{o:aF}{a:ai}{f:az}{F pos:a_}{V:aa aF}(R:(a,f)∈nk)(b:a∉atT)(hb:baseOk o=aj)(hl:(F.endLine==pos.line)=aj)(E:V.all noStar=aj)(Q:V.length<29)(h:Ev K sc o σ λx X=>∃k l,x=.ref k/\l8 X.heap k=af l/\Ls K sc V X λas W=>Fn K f (x::as) W.heap λv H=>P v {W with heap:=H}):Ev K sc (.Call (.Attribute o a F) V [] pos) σ P:=λw A env ρ s D r=>by
 rw[arm_eval_Call,nU hb a env];refine au (h.run D r λva j x X C O=>cU O λk l e U N Z i=>au (fm ?_));subst e;(refine aQ (id i) λx B hk=>?_;subst B);refine sV (Z.rel.bK.obj k _ x (bL.mp U) hk) λdx m ob I hg hd Ni hw z Uw=>?_;refine cU (ID R w) λof fd d y u=>?_;have T:methodCallForm (V.length+([]:aa Keyword).length) (backTo pos (i9 V env)) (backToKw pos (keywordEach [] env))=aj:=by rw[cu,cu];exact⟨⟨tJ pos env V E,rfl⟩,eF (by show V.length+0+0<30;exact Z1 [.p (.p (.p V0 (.n 0)) (.n 0)) (.n 1),.n 30,.p V0 (.n 1),.n 29] rfl Q)⟩
 have M:methodCallPos aj o env F pos=aX pos:=by unfold methodCallPos;simp[hl]
 have t:m a=none:=mR λq=>b (hw a q);unfold methodCall;rw[T];refine au (bP (method_of (xP Z.rel) (Cn Z.rel) (vF (jD _ (.head _))) (vF (jD _ (.tail _ (.tail _ (.head _))))) (List.map_inj_left.mp (IB w) (a,f) R) (Z.rel.top _ _ d) u (FP (a,f) R) I t ?_));refine au (eB M ?_);refine pU (gG E (N.run pos D Z.rel λvs L as W S J Y rs=>⟨Kp.fn (Y.rel.top _ _ d) y,?_⟩)) (by rw[gC pos env V E];rfl);refine bk (gc (J w A S L D Y.rel.pre (.ref x::vs) (bM _ _ rfl (i.mono (Y.k8 Z.rel)) rs))) (λv c G=>kY G λav H' ρ' R g hr hv st=>?_) λø ø h=>h;exact((Z.trans Y).trans (Way.called Y.rel g hr st)).pv hv R
end
section
variable{w:aG}{A:bg}{env:aV}{sc:aU}{ρ ρ':aa az}{s s':ay}{σ σ':AS}{K:ah}{P:AV->AS->Prop}
theorem RS.Nj{h:aM}:∀{l:aa DV}{y:DV}{vs:aa ao},RS h ρ (l++[y]) vs->∃Z v,vs=Z++[v]/\RS h ρ l Z/\R h ρ y v:=by
 intro l;induction l with |nil=> intro _ _ W;obtain⟨v,r,e,Y,X⟩:=W;cases (X:r=[]);exact⟨[],v,e,RS.nil,Y⟩|cons x l V=>
  intro y _ U;obtain⟨v,r,e,Y,X⟩:=U;refine cU (V X) λZ u T S Q=>?_;exact bM (v::Z) u (by rw[e,T];rfl) (RS.cons Y S) Q
theorem tM{l:az}{r:aa ao}{v:ao}{n:ah}{sl:aK (aA ao)}{Q:ao->ay->Prop}(Y:s.heap.get? l=af (bS (r++[v]).toArray n sl))(hsz:r.length+1<=bw)(T:∀(h':aM)(X:ah),h'.get? l=af (bS r.toArray X sl)->fu l s.heap h'->Q v {s with heap:=h'}):aB (aE pw w) A (dW (.builtin "list.pop") [.ref l]) Q b7 s:=by
 refine dP F.slot_list_pop (bz Y).typeIs F.entry_list_pop ?_ (F.args_list_pop_1 _);have S:Builtin.«list.pop» ⟨[.ref l],[]⟩=(do
   let W<-kJ (.ref l)if W.isEmpty then rule "list.pop.empty";raiseError "IndexError" "pop from empty list"
   match (oV (-1) W.size).bind λk=>W[k]?.map (k,·) with |some (k,x)=>w6 (.ref l) (·.eraseIdxIfInBounds k);ret x|none=>rule "list.pop.out-of-range";raiseError "IndexError" "pop index out of range"):=rfl;rw[S];have V:((r++[v]).toArray).isEmpty=aC:=by simp
 have R:(oV (-1) ((r++[v]).toArray).size).bind (λk=>((r++[v]).toArray)[k]?.map (k,·))=af (r.length,v):=by
  have:oV (-1) ((r++[v]).toArray).size=af r.length:=by unfold oV;simp;exact⟨⟨bJ [_] [] 1 [] [.n 0,.p (.g (.n 1)) (.p (.c V0) (.n 1))] rfl,bJ [_] [] 1 [] [.p (.p (.g (.n 1)) (.p (.c V0) (.n 1))) (.n 1),.p (.c V0) (.n 1)] rfl⟩,cY (Qz (bJ [_,_] [] 1 [] [.c V0,.c V1,.c V0,.p (.g (.n 1)) (.p (.c V1) (.n 1))] rfl (Q5 (bJ [_] [] 1 [] [.n 0,.p (.g (.n 1)) (.p (.c V0) (.n 1))] rfl)))) (Qz (bJ [_,_] [] 1 [] [.c V0,.c V1,.p (.g (.n 1)) (.p (.c V0) (.n 1)),.c V1] rfl Q4))⟩
  rw[this];simp
 unfold kJ;refine au (au (fZ Y rfl (aD ?_)));rw[V];simp-iota only[i5,kL];refine au (aD ?_);rw[R];have U:(r++[v]).toArray.eraseIdxIfInBounds r.length=r.toArray:=by
  unfold Array.eraseIdxIfInBounds;simp;rw[List.eraseIdx_append_of_length_le (bf _)];simp
 refine au (lK Y rfl (hz:=by simpa using hsz) (_hz':=by rw[U];simp;exact Z2 [V0,.p V1 (.n 1),.p V0 (.n 1),V1] rfl hsz) (aD (aP v rfl ?_)));refine aZ (sR (o:=bS (r++[v]).toArray n sl) rfl (·.eraseIdxIfInBounds r.length)) λX Z=>?_;refine T _ X ?_ (iP ..);rw[jb _ Y (xq Z)];have e:(bS (r++[v]).toArray n sl).mapSeq (·.eraseIdxIfInBounds r.length)=⟨.type "list",none,((bS (r++[v]).toArray n sl).mapSeq (·.eraseIdxIfInBounds r.length)).data,sl⟩:=rfl;rw[e,Z,U];rfl
theorem Bf{x:AV}{as:aa AV}(h:MU x as P σ):Mc K sc x .pop as σ P:=by
 intro w A env ρ s B r z u O X;(refine uR h O λk a T h=>M8 h X λh=>jo h λl e h=>bq h λN Z=>cz Z λq y W M=>?_;clear Z);subst W;refine lat r.bK e T λitems n L J X=>cU X.Nj λS v I R H=>?_;have G:items=(S++[v]).toArray:=by rw[<-I]
 subst G;have F:=R.length;refine tM J (by rw[F];simpa using N) λt E V Y=>?_;have Q:=Way.s6 (tk:=s.toks) (d:=s.drawn) r T (bI.mp e) (λq=>nomatch q) (o':=.list q) (λp q=>nomatch q) (λb o D U=>(Y.2 b D).trans U) (cA Y.1.symm) λC=>kO S.toArray E L V (by simpa using R.mono C);exact Q.pv (RA.d (H.mono (Q.k8 r))) M
theorem nq{h:aM}:∀{ns:aa ai}{vs:aa ao},RS h ρ (ns.map .str) vs->iG vs ns:=by
 intro ns;induction ns with
 |nil=> intro _ e;cases e;exact .nil|cons V U Z=> intro _ Y;obtain⟨v,r,e,⟨t,X⟩,W⟩:=Y;subst e X;exact .cons _ _ (Z W)
theorem Co{h:aM}:∀{vs:aa ao}{ns:aa ai},iG vs ns->RS h ρ (ns.map .str) vs|_,_,.nil=>RS.nil|_,_,.cons y t q=>RS.cons (R.str y t) (Co q)
theorem yY{x:AV}{as:aa AV}(h:JW x as P σ):Mc K sc x .join as σ P:=by
 intro w A env ρ s Q r O N W Y;refine uS h W λx t h=>Cf h Y λb v V h=>jo h λl e h=>cC h λX Z U T=>?_;subst Z;(refine cU (yW r e V) λa items Z S Y=>?_;subst Z);refine join_list S (nq Y) U λM k=>?_;have R:Txt.join x X=bX x X:=StrLaws.glued_eq_join _ _;rw[R];exact PV.here r (.d (.str _ _)) T _
theorem uU{x:AV}{as:aa AV}(h:Cb x as P σ):Mc K sc x .startswith as σ P:=by
 intro w A env ρ s W r V U Z Y;refine uS h Z λx t h=>Cf h Y λb v X h=>uS h X λy u h=>?_;exact SC.startswith (PV.same r (.d (.bool _)) h)
theorem xQ:∀(n:ah)(l:aa ai),iG (strsFrom n l) l:=by
 intro n l;induction l generalizing n with|nil=>exact .nil|cons x l Z=>exact .cons x n (Z (n+1))
theorem xR{x:AV}{as:aa AV}(h:Fq x as P σ):Mc K sc x .split as σ P:=by
 intro w A env ρ s M r L V S R;(refine uS h S λx t h=>Cf h R λb v Q h=>uS h Q λy u h=>bq h λX O=>cL X λU N Y=>?_;clear X);have U:(y.length==0)=aC:=fC U;have Z:∀(V:aa ao) (k:ah),iG V (Txt.split x y)->PV w sc env ρ s P (.ref s.heap.objs.size) {s with toks:=k,heap:=s.heap.push {cls:=.type "list",data:=.seq V.toArray}}:=λV k q=>xF r (by simpa using Co q) O 0 k _ rfl;unfold Txt.split at Y Z;cases W:(decide (x.length<y.length)||decide (Builtin.Str.strKind x<Builtin.Str.strKind y))
 ·rw[W] at Y Z;simp-iota only[i5,kL] at Y Z;cases T:(Builtin.Str.occurrences x y 0 x.length (x.length+1)).isEmpty;·rw[T] at Y Z;simp-iota only[i5,kL] at Y Z;refine call_meets xm (typeIs_str _ _ _) F.entry_str_split (F.args_str_split_2 _ _) (meets_str_split_sep x y t u W U T N Y) ?_;exact Z _ _ (xQ _ _)
  ·rw[T] at Z;exact call_meets xm (typeIs_str _ _ _) F.entry_str_split (F.args_str_split_2 _ _) (meets_str_split_not_found x y t u W U T) (Z [.str x t] s.toks (.cons _ _ .nil))
 ·rw[W] at Z;exact call_meets xm (typeIs_str _ _ _) F.entry_str_split (F.args_str_split_2 _ _) (meets_str_split_cannot_occur x y t u W) (Z [.str x t] s.toks (.cons _ _ .nil))
end
set_option tactic.hygienic true in theorem Bg(t:i8)(Y:aK (aq×ao))(h:aq)(x:ao):(layNew t Y h x).2.1.led=t.led:=by
 unfold layNew;split;·rename_i Z d _;dsimp only;unfold SetTable.orStandIn;split<;>rfl
 ·rfl
set_option tactic.hygienic true in theorem xS(t:i8)(X:aK (aq×ao))(n:ah):(kD t X n).2.1.led=t.led/\(t.plain=aC->(kD t X n).2.1.plain=aC):=by
 unfold kD;split
 ·rename_i W order e;dsimp only;unfold SetTable.relaid SetTable.laid at e;simp only[Option.bind_eq_bind,Option.bind_eq_some_iff,Option.pure_def,Option.some.injEq,kq] at e;(refine cC e λZ Z Y Z=>?_;clear e;subst Y);split;·exact⟨rfl,id⟩
  ·exact⟨rfl,λZ=>rfl⟩
 ·exact⟨rfl,λZ=>rfl⟩
section
variable{w:aG}{κ:Type}[jO κ]{S:SK w κ}
theorem mj:∀{X:aa (aq×ao)}{l:aa κ},AX S X l↔(∀e∈X,e.1=S.knd.hash (S.dec e.2)/\S.knd.is (S.dec e.2) e.2=aj)/\l=X.map (S.dec ·.2):=by
 intro X;induction X with |nil=> intro l;exact⟨λh=>⟨(λN h=>nomatch h),h⟩,λh=>h.2⟩|cons e X T=>
  intro l;constructor
  ·(refineλZ=>cU Z λx r Y W h=>bq W λU R=>?_;clear W;subst Y);have Q:=S.xD _ _ R;refine bq (T.mp h) λP O=>?_;refine⟨λe V=>?_,by rw[O,ek,Q]⟩;cases V with|head=>rw[Q];exact⟨U,R⟩|tail _ V=>exact P e V
  ·(refineλZ=>bq Z λU Y=>?_;clear Z;subst Y);exact bM _ _ rfl (U _ (.head _)) (T.mpr ⟨λe V=>U e (.tail _ V),rfl⟩)
theorem AX.perm{X Z:aa (aq×ao)}{l:aa κ}(h:AX S X l)(p:Z.Perm X):∃W,AX S Z W/\W.Perm l:=by
 (refine bq (mj.mp h) λV Y=>?_;subst Y);exact aP _ (mj.mpr ⟨λe U=>V e (p.mem_iff.mp U),rfl⟩) (p.map _)
theorem AX.snoc{x:κ}{v:ao}(Y:S.knd.is x v=aj):∀{Z:aa (aq×ao)}{l:aa κ},AX S Z l->AX S (Z++[(S.knd.hash x,v)]) (l++[x]) |[],_,h=>by cases h;exact bM x [] rfl ⟨rfl,Y⟩ rfl|e::Z,l,⟨y,r,X,W,V⟩=>⟨y,r++[x],by rw[X];rfl,W,V.snoc Y⟩
theorem AX.length{Y:aa (aq×ao)}{l:aa κ}(h:AX S Y l):l.length=Y.length:=by
 (refine bq (mj.mp h) λX Z=>?_;subst Z);simp
theorem jT(x:ai)(tk:Tok):(kF pw w).is x (.str x tk)=aj:=by
 show (x==x)=aj;exact iT x
theorem vG{X:aa (aq×ao)}{l:aa κ}(h:AX S X l):ElemsOf S.knd X:=by
 refine bq (mj.mp h) λZ W=>?_;exactλe Y=>⟨(aP _ ((Z e Y).2) ((Z e Y).1)),S.scan _ _ (Z e Y).2⟩
theorem Cp{W:aa (aq×ao)}{l:aa κ}(h:AX S W l)(x:κ):x∈l↔∃e∈W,S.knd.is x e.2=aj:=by
 (refine bq (mj.mp h) λV Y=>?_;subst Y);rw[List.mem_map];constructor
 ·(refineλZ=>aQ Z λe X Y=>?_;subst Y);exact aP _ X ((V e X).2)
 ·(refineλZ=>aQ Z λe X U=>?_;clear Z);exact aP _ X (S.xD _ _ U)
end
section
variable{w:aG}{A:bg}{s:ay}{κ:Type}[jO κ]{S:SK w κ}
theorem C1.setOf{o:aR}{l:aa κ}{h:aM}{a:az}(U:h.get? a=af o)(X:sY S o l):h.SetOf S.knd a (λx=>l.contains x) l.length:=by
 (refine PG X λW T t P hex Z Y V R Q O=>?_;clear X);have e:W.size=l.length:=by rw[<-kc,<-Y.length,V.length_eq]
 refine Kw o W T t U hex Z (vG Y) (λk=>?_) (by rw[e];exact Q) R e;rw[<-Cp Y,List.contains_iff_mem,V.mem_iff]
theorem Cq{a:az}{o:aR}{W:aK (aq×ao)}{Y:ah}{t:i8}(Z:aK (aq×ao))(t':i8){h:aM}(V:h.get? a=af o)(X:o.data=.set W Y t):(h.update a (Obj.putSet Z t')).get? a=af {o with data:=.set Z (Y+1) t'}:=by rw[jb (Obj.putSet Z t') V (by rw[putSet_of Z t' X];rfl),putSet_of Z t' X]
theorem n6{a:az}{o:aR}{l:aa κ}{x:κ}{v:ao}{Q:ao->ay->Prop}(P:S.knd.is x v=aj)(z:s.heap.get? a=af o)(hD:sY S o l)(O:l.length+1<scanBound)(hQ:∀h' o',fu a s.heap h'->h'.get? a=af o'->sY S o' (if x∈l then l else l++[x])->Q .none {s with heap:=h',toks:=s.toks+1}):aB (aE pw w) A (dW (.builtin "set.add") [.ref a,v]) Q b7 s:=by
 have hS:=C1.setOf z hD;have m:v.scannable=aj:=S.scan _ _ P;refine Mh (id hD) λJ ep t l' hex hd hs hp hf hb k hpl=>?_;refine dP F.slot_set_add hS.typeIs F.entry_set_add ?_ (F.args_set_add_2 _ _);unfold Builtin.«set.add» Er;rw[List.isEmpty_nil,bind_assoc];unfold Es setAdd;refine au (aD ?_);try dsimp only
 refine au (aD ?_);try dsimp only
 refine au ?_;refine bP ?_;refine au (S.knd.pyHash P ?_);have i:=vG hs;have Tt:J.size=l.length:=by rw[<-kc,<-hs.length,hp.length_eq]
 have V:∀(b:aH) h' o',fu a s.heap h'->h'.get? a=af o'->sY S o' (if x∈l then l else l++[x])->aB (aE pw w) A.in1 (ret Value.none) (λV N=>∃r,V=.done (.ret r)/\Q r N) b7 {s with heap:=h',toks:=s.toks+1}:=λb h' o' g f d=>aD (aP _ rfl (hQ h' o' g f d));unfold setAddHashed setAddHashedIn;refine bP (au (qy (s:={s with toks:=s.toks+1}) z hd hf ?_));dsimp only;rw[byScan_of m (by rw[Tt];exact hb) i];refine rwL (aW rfl) ?_;unfold setAddByScan;refine au ?_;refine au (i_ ?_);refine au (wpAny_setScan_of (s:={s with toks:=s.toks+1}) P z hd hf i ?_);have I:x∈l↔∃e∈J.toList,S.knd.is x e.2=aj:=by rw[<-hp.mem_iff];exact Cp hs x
 cases hr:List.findIdx? (λe=>S.knd.is x e.2) J.toList with
 |some j=>
  refine aQ (List.findIdx?_eq_some_iff_getElem.mp hr) λhj Tu ø=>?_;have u:x∈l:=I.mpr (aP (J.toList[j]) (rX hj) Tu);refine aD (aD ?_);refine V aj s.heap o (Heap.SameBut.refl a s.heap) z ?_;rw[aW u];exact hD|none=>
  have u:x∉l:=λu=>by
   refine aQ (I.mp u) λe he hpx=>?_;have:=List.findIdx?_eq_none_iff.mp hr e he;rw[hpx] at this;cases this
  have c:∀(b:aH){Y:ay}{Q':Unit->ay->Prop},Q' () Y->aB (aE pw w) A.in1 (match b with|true=>rule "set.scan.the-table-gave-way"|false=>aX ()) Q' b7 Y:=λb Y Q' E=>by cases b<;>first|exact aD E|exact i_ E
  have R:=layNew_perm t J (S.knd.hash x) v;have X:=layNew_fits t J (S.knd.hash x) v;have W:=Bg t J (S.knd.hash x) v;generalize layNew t J (S.knd.hash x) v=L at R X W ⊢;obtain⟨Z,t1,T,Tv⟩:=L;dsimp only at R X W ⊢;rw[v9] at R;refine aQ ((hs.snoc P).perm R) λl1 hs1 M=>?_;have M:l1.Perm (l++[x]):=M.trans (hp.append_right _);have H:Z.size=l.length+1:=by rw[<-kc,<-hs1.length,M.length_eq];simp
  refine au (c _ ?_);have mk:∀(U:aK (aq×ao)) (t2:i8) (D:ah) (o2:aR),o2.ExactSet->o2.data=.set U D t2->U.toList.Perm Z.toList->t2.fits U.size=aj->t2.led=t.led->(t2.plain=aC\/(l++[x]).length<=1)->sY S o2 (l++[x]):=by
   intro U t2 D o2 g f d h4 h5 h6;refine aQ (hs1.perm d) λl2 hs2 Tw=>?_;exact Kw U D t2 l2 g f hs2 (Tw.trans M) h4 (by simpa using O) (by rw[h5];exact k) h6
  have hone:plainKind v=aC\/(l++[x]).length<=1:=S.one.imp (λq=>q _ _ P) λq=>by induction l using aO with|nil=>exact bf 1|cons y l=>exact aJ (q x y▸.head _) u
  obtain⟨Q1,q1,q2⟩:∃Q1:aA aH->ay->Prop,(∀b h' o',fu a s.heap h'->h'.get? a=af o'->sY S o' (l++[x])->Q1 (af b) {s with heap:=h',toks:=s.toks+1})/\∀r N,Q1 r N->aB (aE pw w) A.in1 (match r with|some added=>aX added|none=>setAddHashedIn a v (S.knd.hash x) 99999) (λb Y=>aB (aE pw w) A.in1 (ret Value.none) (λV N=>∃r,V=.done (.ret r)/\Q r N) b7 Y) b7 N:=⟨λr N=>aB (aE pw w) A.in1 (match r with|some added=>aX added|none=>setAddHashedIn a v (S.knd.hash x) 99999) (λb Y=>aB (aE pw w) A.in1 (ret Value.none) (λV N=>∃r,V=.done (.ret r)/\Q r N) b7 Y) b7 N,λb h' o' h4 h5 h6=>aD (V b h' o' h4 h5 (by rw[aI u];exact h6)),λø ø h=>h⟩;have tail:∀t2:i8,t2.led=t.led->(t2.plain=aC\/(l++[x]).length<=1)->t2.fits Z.size=aj->aB (aE pw w) A.in1 (do
    storeSet a Z t2 if (!T&&t2.tooFull)=aj then do
      (match (kD t2 Z (kK Z.size)).2.2 with|true=>rule "set.scan.the-table-gave-way"|false=>aX ())storeSet a (kD t2 Z (kK Z.size)).1 (kD t2 Z (kK Z.size)).2.1
      aX (af aj)else aX (af aj)) Q1 b7 {s with toks:=s.toks+1}:=by
   intro t2 e1 e2 e3;refine au (wpAny_storeSet_of (s:={s with toks:=s.toks+1}) z hd ?_ (fits_of_scanBound (Z3 [.p V0 (.n 1),V1,.p (.p V2 (.n 1)) (.n 1),V1,V0,.p V2 (.n 1)] rfl O (Qe H))));have C:=Cq Z t2 z hd;have G:=iP s.heap a (Obj.putSet Z t2);split
   ·have E:=relayAll_perm t2 Z (kK Z.size);have B:=relayAll_fits t2 Z (kK Z.size);have K:=xS t2 Z (kK Z.size);generalize kD t2 Z (kK Z.size)=Rl at E B K ⊢;obtain⟨U,t3,Sl⟩:=Rl;dsimp only at E B K ⊢;have hsz:U.size=Z.size:=by rw[<-kc,E.length_eq,kc]
    refine au (c _ ?_);refine au (wpAny_storeSet_of (s:={s with heap:=_,toks:=s.toks+1}) C rfl ?_ (fits_of_scanBound (Z4 [.p V0 (.n 1),V1,.p (.p V2 (.n 1)) (.n 1),V1,V3,.p V2 (.n 1),V0,V3] rfl O (Qe H) (Qe hsz))));exact aD (q1 aj _ _ (G.trans (iP _ a _)) (Cq U t3 C rfl) (mk U t3 (ep+1+1) {o with data:=.set U (ep+1+1) t3} ⟨hex.1,hex.2.1,hex.2.2⟩ rfl E B (K.1.trans e1) (e2.imp K.2 id)))
   ·exact aD (q1 aj _ _ G C (mk Z t2 (ep+1) {o with data:=.set Z (ep+1) t2} ⟨hex.1,hex.2.1,hex.2.2⟩ rfl .rfl e3 e1 e2))
  have done:∀t2:i8,t2.led=t.led->(t2.plain=aC\/(l++[x]).length<=1)->t2.fits Z.size=aj->aB (aE pw w) A.in1 (do
    storeSet a Z t2 if (!T&&t2.tooFull)=aj then do
      (match (kD t2 Z (kK Z.size)).2.2 with|true=>rule "set.scan.the-table-gave-way"|false=>aX ())storeSet a (kD t2 Z (kK Z.size)).1 (kD t2 Z (kK Z.size)).2.1
      aX (af aj)else aX (af aj)) (λ(r:aA aH) N=>aB (aE pw w) A.in1 (match r with|some added=>aX added|none=>setAddHashedIn a v (S.knd.hash x) 99999) (λb Y=>aB (aE pw w) A.in1 (ret Value.none) (λV N=>∃r,V=.done (.ret r)/\Q r N) b7 Y) b7 N) b7 {s with toks:=s.toks+1}:=λt2 g f d=>bk (tail t2 g f d) q2 λø ø h=>h;split;·refine au ?_;rw[hashByValue_scannable 8 m];refine aD ?_;cases hpk:plainKind v with |true=>exact done t1 W (.inr (hone.resolve_left (by rw[hpk];decide))) X|false=>exact done {t1 with plain:=aC} W (.inl rfl) (SetTable.fits_plain_off X)
  ·rename_i hnp;refine au (aD ?_);exact done t1 W (.inl (by simpa using hnp)) X
end
theorem je:Slot "set_iterator" "__next__" "set_iterator.__next__":=.of (owner:="set_iterator") (n:="__next__") (by rw[fX,fY];kernel_rfl) (by decide+kernel) (by decide+kernel) (by decide+kernel) (by first|exact .inl (by decide+kernel)|exact .inr (by decide+kernel)) (by rw[fq];kernel_rfl)
theorem qQ:kG table "set_iterator.__next__"=af Builtin.«set_iterator.__next__»:=sH (by kernel_rfl)
theorem yZ:Manifest.owners.lookup (m7 ['r','o','t','a','r','e','t','i','_','t','e','s'].reverse)=af Manifest.sig_set_iterator:=by kernel_rfl
theorem rE(a:ao):iI "set_iterator.__next__" ⟨[a],[]⟩:=by unfold iI;rw[oY (id:="set_iterator.__next__") (n:=['_','_','t','x','e','n','_','_']) (o:=['r','o','t','a','r','e','t','i','_','t','e','s']) (by kernel_rfl) yZ];kernel_rfl
theorem tN:kG table "set.__iter__"=af Builtin.«frozenset.__iter__»:=entryFor_alias (id':="frozenset.__iter__") (by kernel_rfl) (by decide+kernel) (by decide+kernel) (by kernel_rfl)
noncomputable def FQ(first:ao)(i:ah)(a:az)(n Z:ah):aR:=⟨.type "set_iterator",Option.none,.fields #[first,cT i,.ref a,cT n,cT Z],#[]⟩
section
variable{w:aG}{A:bg}{s:ay}
theorem xT{Z:Source}{n:ah}{Q:ah->ay->Prop}(Y:n≠0)(h:∀i,i<n->Q i {s with drawn:=s.drawn.bump Z}):aB (aE pw w) A (choose Z n) Q b7 s:=by
 intro W p X;unfold choose;rw[Sem.wp_choose];exact⟨Y,h _ (dZ _ (oO Y))⟩
theorem n8{α:Type}:∀{l:aa α}{i:ah}{x:α},l[i]?=af x->l.Perm (x::l.eraseIdx i):=by
 intro l;induction l with
 |nil=> intro _ _ h;cases h|cons y l Z=> intro Y;induction Y using cJ with
  |zero=> intro x h;cases h;exact .rfl|succ i=> intro x h;exact((Z (i:=i) (by simpa using h)).cons y).trans (.swap ..)
theorem tO{α:Type}(n:ah):∀(xs:aa α)(s:ay)(Q:aa α->ay->Prop),xs.length=n->(∀Y d,Y.Perm xs->Q Y {s with drawn:=d})->aB (aE pw w) A (drawOrder n xs) Q b7 s:=by induction n with
 |zero=> intro xs s Q Z h;induction xs using aO with|nil=>exact aD (h [] s.drawn .rfl)|cons=>cases Z
 |succ n W=> intro xs s Q Z h;induction xs using aO with|nil=>cases Z|cons x xs=>
   refine au (xT (by simp) λi X=>?_);have e:(x::xs)[i]?=af (x::xs)[i]:=c7 X;rw[e];refine au (W _ _ _ ?_ λY d V=>aD (h _ d ?_));·rw[List.length_eraseIdx_of_lt X,Z];rfl
   ·exact(V.cons _).trans (n8 e).symm
theorem y_{α:Type}(next:ah->ah):∀(n k:ah)(left:aa α)(out:aK α),left.length=n->(pickOrder.go next n k left out).toList.Perm (out.toList++left):=by
 intro n;induction n with
 |zero=> intro k left out h;induction left using aO with |nil=>rw[bY];exact .rfl|cons=>cases h
 |succ n Y=>
  intro k left out h;show (match left[next k%left.length]? with|some x=>pickOrder.go next n (k+1) (left.eraseIdx (next k%left.length)) (out.push x)|none=>out).toList.Perm _;have Z:next k%left.length<left.length:=dZ _ (Z2 [.p (.n 0) (.n 1),V0,.p V1 (.n 1),V0] rfl (Qf h));have e:=c7 Z;rw[e];refine(Y (k+1) _ _ (by rw[List.length_eraseIdx_of_lt Z,h];rfl)).trans ?_;rw[v9,bV];exact(n8 e).symm.append_left _
theorem vH{α:Type}(next:ah->ah)(xs:aK α):(pickOrder next xs).toList.Perm xs.toList:=by exact(y_ next _ _ _ _ (by simp)).trans (by simp)
theorem Bh{Q:ao->ay->Prop}{it:az}{h0:aM}{B:bg}(Z:B.handled=none)(Y:∀e h',fF it h0 h'->(∃o,h'.get? e=af o/\o.cls=.type "StopIteration")->Q (.ref e) {s with heap:=h'}) (X:fF it h0 s.heap){α:Type}{P:α->ay->Prop}:aB (aE pw w) B (newExc (.type "StopIteration") []>>=raiseNew) P Q s:=by
 refine au ?_;rw[newExc,newTuple];refine au (eM ?_ (by size_fits));refine au (m:=kC _ _) (eB (a:=Value.none) (by first|rfl|(simp only[kC];rfl)) ?_);refine eM ?_ (by size_fits);rw[raiseNew];refine au (sE ?_);rw[Z];refine au (aD (wpAny_throw ?_));exact Y _ _ ((X.push _).push _) (aP _ (b_ _ rfl) rfl)
end
section
set_option backward.match.sparseCases true
section
variable{w:aG}{A:bg}{s:ay}{env:aV}{sc:aU}{ρ:aa az}{σ:AS}{K:ah}{κ:Type}[jO κ]{S:SK w κ}
theorem tP{Q:aH->ay->Prop}{E:ao->ay->Prop}(h:Q (w.params.followText "set-order") s):aB (aE pw w) A setsByText Q E s:=by
 unfold setsByText;exact au (qz (aD h))
theorem xU{a:az}{o:aR}{X:aK (aq×ao)}{W:ah}{t:i8}{Z given:ah}{Q:aA (ao×ah)->ay->Prop}{E:ao->ay->Prop}(V:w.params.followText "set-order"=aj)(U:s.heap.get? a=af o)(T:o.data=.set X W t)(Y:t.fits X.size=aj)(h:Q (((pickOrder (w.params.setOrder a W) X)[given]?).map λe=>(e.2,Z)) s):aB (aE pw w) A (setNext a Z given W) Q E s:=by
 unfold setNext;refine au (qy U T Y ?_);refine au (tP ?_);rw[V];simp-iota only[↓m8,o9,i5];refine au ?_;unfold setWalk;refine au (qy U T Y ?_);refine au (tP ?_);rw[V];refine rwL (aW rfl) ?_;refine au (qz (aD ?_));exact aD h
theorem vI{x j:ah}:sS #[x] j=if x<j then 1 else 0:=by kernel_rfl
theorem xV{a:az}{o:aR}{Y:aK (aq×ao)}{W:ah}{t:i8}{Z given:ah}{Q:aA (ao×ah)->ay->Prop}{E:ao->ay->Prop}(V:w.params.followText "set-order"=aC)(U:s.heap.get? a=af o)(T:o.data=.set Y W t)(X:t.fits Y.size=aj)(R:Y.size<=1)(P:t.led=aj)(h:Q (match Y[sS t.place Z]?,t.place[sS t.place Z]? with|some (_,x),af j=>af (x,j+1)|_,_=>none) s):aB (aE pw w) A (setNext a Z given W) Q E s:=by
 unfold setNext;refine au (qy U T X ?_);refine au (tP ?_);rw[V];refine rwL (aI cS) ?_;have O:(!t.plain&&decide (Y.size>1))=aC:=by rw[gA (Nat.not_lt_of_le (R)),Bool.and_false]
 change aB _ _ (if (!t.plain&&decide (Y.size>1))=aj then _ else _) _ _ _;rw[O];refine rwL (aI cS) ?_;have N:(!t.led&&!Y.isEmpty)=aC:=by rw[P];rfl
 refine au (m:=if (!t.led&&!Y.isEmpty)=aj then unsupported "set:maker-not-led" else aX ()) ?_;rw[N];refine rwL (aI cS) ?_;exact aD (aD h)
theorem za{a:az}{o:aR}{Y:aK (aq×ao)}{X:ah}{t:i8}{Q:aH->ay->Prop}{E:ao->ay->Prop}(W:s.heap.get? a=af o)(V:o.data=.set Y X t)(Z:t.fits Y.size=aj)(h:Q (!(w.params.followText "set-order")&&(!t.plain&&decide (Y.size>1))) s):aB (aE pw w) A (setDrawn a) Q E s:=by
 unfold setDrawn;refine au (qy W V Z ?_);exact au (tP (aD h))
def mJ{w:aG}{κ:Type}[jO κ](S:SK w κ)(h:aM)(ρ:aa az)(it a:az)(o:aR)(xs:aa κ)(i:ah):Prop:=∃(Y:aK (aq×ao)) (W:ah) (t:i8) (first:ao),h.get? it=af (FQ first i a Y.size W)/\o.data=.set Y W t/\t.fits Y.size=aj/\(∃U,AX S Y.toList U)/\((w.params.followText "set-order"=aj/\(∃Z:ah,first=cT Z)/\xs=(pickOrder (w.params.setOrder a W) Y).toList.map (S.dec ·.2))\/(w.params.followText "set-order"=aC/\∃(X:az) (V:aa ah) (n:ah),first=.ref X/\h.get? X=af (jj (V.map λ(j:ah)=>cT (j:aq)).toArray n)/\X∉ρ/\X≠it/\(∀j∈V,j<Y.size)/\xs=V.map λj=>S.dec (Y.getD j default).2)\/(w.params.followText "set-order"=aC/\Y.size<=1/\t.led=aj/\∃Z:ah,first=cT Z/\(i=0->Z=0)/\(0<i->∀j,t.place[0]?=af j->Z=j+1)/\xs=Y.toList.map (S.dec ·.2)))
theorem Bj{Z:aa (aq×ao)}{l:aa κ}(h:AX S Z l){e:aq×ao}(Y:e∈Z):S.knd.is (S.dec e.2) e.2=aj:=((mj.mp h).1 e Y).2
theorem zb{a:az}{o:aR}{l:aa κ}{Q:ao->ay->Prop}(U:s.heap.get? a=af o)(m:sY S o l)(hz:∀x∈ρ,x<s.heap.objs.size)(c:∀xs it h' d,xs.Perm l->s.heap.objs.size<=it->it<h'.objs.size->(∀b ob,s.heap.get? b=af ob->h'.get? b=af ob)->mJ S h' ρ it a o xs 0->Q (.ref it) {s with heap:=h',drawn:=d}):aB (aE pw w) A (jK (.ref a)) Q b7 s:=by
 (refine Mh m λZ R t k hex P L O N D J C=>?_;clear m);have g:s.TypeIs (.ref a) "set":=⟨o,U,hex.1⟩;have B:∀x,x∈ρ->x≠s.heap.objs.size:=λx hx e=>dX _ (e▸hz x hx);have I:Z.size=l.length:=by rw[<-kc,<-L.length,O.length_eq]
 have z:k=Z.toList.map (S.dec ·.2):=(mj.mp L).2;have y:∀(ob:aR) (b:az) (V:aR),s.heap.get? b=af V->(s.heap.push ob).get? b=af V:=λob b V h=>bZ _ h;refine wpAny_pyIter_slot g F.slot_set_iter (dP F.slot_set_iter g tN ?_ (F.args_set_iter_1 _));unfold Builtin.«frozenset.__iter__»;refine au (eB (a:=a) rfl ?_);unfold Builtin.Frozenset.sizeOf;refine au (au (wpAny_setEntries_of U P N (aD ?_)));refine au (za U P N ?_);have X:∀(first:ao) (Y:ay),Y.heap.get? a=af o->(∀b ob,s.heap.get? b=af ob->Y.heap.get? b=af ob)->(∃d,Y={s with heap:=Y.heap,drawn:=d})->s.heap.objs.size<=Y.heap.objs.size->(∃xs:aa κ,xs.Perm l/\mJ S (Y.heap.push (FQ first 0 a Z.size R)) ρ Y.heap.objs.size a o xs 0)->aB (aE pw w) A.in1 (setEpoch a>>=λe=>newFields "set_iterator" [first,cT 0,.ref a,cT Z.size,cT e]>>=ret) (λX Y=>∃r,X=.done (.ret r)/\∃T id,Y.TypeIs r T/\d7 (.type T) "__next__"=aX (af id)/\Q r Y) b7 Y:=by
  intro first Y h1 h2 ⟨d,f⟩ h4 ⟨xs,h5,h6⟩;refine au (wpAny_setEpoch_of h1 P N ?_);unfold newFields;refine au (eM ?_ (by size_fits));refine aD (aP _ rfl (bM ("set_iterator") _ (aP _ (b_ _ rfl) rfl) je.lookup ?_));have:=c xs Y.heap.objs.size (Y.heap.push (FQ first 0 a Z.size R)) d h5 h4 (by rw[dJ];exact jH _) (λb ob D=>bZ _ (h2 b ob D)) h6;rw[f];rw[f] at this;exact this
 cases W:w.params.followText "set-order" with |true=>
  refine rwL (aI cS) ?_;refine au (aD ?_);have q:=vH (w.params.setOrder a R) Z;refine X (cT 0) s U (λM M h=>h) ⟨s.drawn,rfl⟩ (bf _) (aP _ ?_ (uG Z R t (cT 0) (b_ _ rfl) P N ⟨_,L⟩ (.inl ⟨W,⟨0,rfl⟩,rfl⟩)));exact((q.map _).trans (by rw[z] at O;exact O))|false=>cases H:(!t.plain&&decide (Z.size>1)) with
  |true=>
   simp-iota only[Bool.not_false,v_,↓m8];refine au ?_;refine tO Z.size (cW Z.size) _ _ jz λG d v=>?_;have u:G.length=Z.size:=by rw[v.length_eq,jz]
   refine au (wpAny_newTuple ?_ (by rw[bB,u,I];exact fits_of_scanBound D));have p:∀j∈G,j<Z.size:=λj hj=>List.mem_range.mp (v.mem_iff.mp hj);refine X (.ref s.heap.objs.size) {s with heap:=s.heap.push (jj (G.map λ(j:ah)=>cT (j:aq)).toArray 0),drawn:=d} (bZ _ U) (λM M h=>bZ _ h) ⟨d,rfl⟩ (by show _<=(s.heap.push _).objs.size;rw[dJ];exact iD _) (aP (G.map λj=>S.dec (Z.getD j default).2) ?_ (uG Z R t (.ref s.heap.objs.size) (b_ _ rfl) P N ⟨_,L⟩ (.inr (.inl ⟨W,s.heap.objs.size,G,0,rfl,bZ _ (b_ _ rfl),λhm=>B _ hm rfl,?_,p,rfl⟩))))
   ·have n:((cW Z.size).map λj=>S.dec (Z.getD j default).2)=k:=by
     rw[z];apply List.ext_getElem?;intro i;rw[dN,dN];by_cases E:i<Z.size;·rw[Au E,fS,j_ E];simp-iota [Array.getD,E]
     ·rw[rU (by rw[jz];exact(Qb E)),rU (by rw[kc];exact(Qb E))];rfl
    exact(v.map _).trans (by rw[n];exact O)
   ·show s.heap.objs.size≠(s.heap.push _).objs.size;rw[dJ];exact b8 (jH _)|false=>
   simp-iota only[Bool.and_false,i5,↓m8];refine au (aD ?_);have n:Z.size<=1:=by
    rw[Bool.and_eq_false_iff] at H;rcases H with h|h
    ·rcases C with h2|h2;·rw[h2] at h;cases h
     ·rw[I];exact h2
    ·have:=eG h;exact(Qb this)
   refine X (cT 0) s U (λM M h=>h) ⟨s.drawn,rfl⟩ (bf _) (aP _ (by rw[z] at O;exact O) (uG Z R t (cT 0) (b_ _ rfl) P N ⟨_,L⟩ (.inr (.inr ⟨W,n,J.resolve_right (by rw[W];exact cS),0,rfl,λM=>rfl,λh=>aJ h (dX _),rfl⟩))))
theorem C_{it a:az}{o:aR}{xs:aa κ}{i:ah}(hh:A.handled=none)(hg:s.heap.get? a=af o)(hcls:a≠it)(hi:mJ S s.heap ρ it a o xs i){Q:aA ao->ay->Prop}(q1:xs[i]?=none->∀h',fF it s.heap h'->Q none {s with heap:=h'})(q2:∀x v h',xs[i]?=af x->S.knd.is x v=aj->mJ S h' ρ it a o xs (i+1)->fF it s.heap h'->Q (af v) {s with heap:=h'}):aB (aE pw w) A (eX (.ref it)) Q b7 s:=by
 (refine HX hi λY J t first E y F c hc=>aZ c λl' g=>?_;clear c;clear hi);have hT:s.TypeIs (.ref it) "set_iterator":=aP _ E rfl;unfold eX;refine au (kB (lI (name:=jM "__next__") hT je (dP je hT qQ ?_ (rE _))));unfold Builtin.«set_iterator.__next__»;refine au (aD ?_);refine au (wpAny_fieldsOf E rfl ?_);show aB _ _ (setEntries a>>=_) _ _ s;refine au (wpAny_setEntries_of hg y F ?_);simp-iota only[o9,i5,↓m8];have stop:∀(R:aM),fF it s.heap R->xs[i]?=none->aB (aE pw w) A.in1 (newExc (.type "StopIteration") []>>=raiseNew (α:=Fin)) (λfin s'=>∃v,fin=Fin.done (Flow.ret v)/\aB (aE pw w) A (aX (af v)) Q b7 s') (λe s'=>aB (aE pw w) A (do
     let P<-kH e (jN "StopIteration")if P=aj then aX none else throw e) Q b7 s') {s with heap:=R}:=by
  intro R he hn;refine Bh (s:={s with heap:=R}) (it:=it) (h0:=s.heap) (B:=A.in1) hh (λe h' hen QF=>aQ QF λoe Tz hce=>?_) he;refine au (jJ (T:="StopIteration") (b:=aj) (aP oe Tz hce) qx (aD (q1 hn h' hen)))
 have upd:∀(k:ah) (x:ao),fF it s.heap (s.heap.update it (Obj.mapFields (·.setIfInBounds k x))):=λk x=>fF.upd _ E rfl;have one:∀(x:ao) (u:ao),xs[i]?=af (S.dec x)->S.knd.is (S.dec x) x=aj->(∀h',mJ S h' ρ it a o xs (i+1)\/h'.get? it≠af (FQ u (i+1) a Y.size J)\/¬fu it s.heap h')->∀h',h'.get? it=af (FQ u (i+1) a Y.size J)->fu it s.heap h'->∃v,Fin.done (Flow.ret x)=Fin.done (Flow.ret v)/\aB (aE pw w) A (aX (af v)) Q b7 {s with heap:=h'}:=by
  intro x u f ht hS h' hg' I;refine aP x rfl (aD (q2 _ x h' f ht ?_ ⟨λb ob hb r=>(I.2 b hb).trans r,cA I.1.symm,_,hg'⟩));rcases hS h' with h|h|h;·exact h
  ·exact aJ hg' h
  ·exact aJ I h
 rcases hc with ⟨O,⟨W,rfl⟩,V⟩|⟨O,pl,js,n,rfl,hpl,TA,m,Sm,V⟩|⟨O,R,z,W,rfl,hs0,hs1,V⟩
 ·refine au (xU O hg y F ?_);have Z:xs[i]?=((pickOrder (w.params.setOrder a J) Y)[i]?).map (S.dec ·.2):=by rw[V,dN,fS]
  simp-iota only[dM] at Z ⊢;cases q:(pickOrder (w.params.setOrder a J) Y)[i]? with
  |none=>
   rw[q] at Z;refine au (qw E rfl (by simp-iota) ?_);exact stop _ (upd _ _) Z|some e=>
   rw[q] at Z;have hm:e∈Y.toList:=(vH _ Y).mem_iff.mp (Array.mem_toList_iff.mpr (Array.mem_of_getElem? q));refine au (oZ E (by simp-iota) λR H G=>?_);refine au (oZ H (by simp-iota) λN X M=>aD ?_);have X:N.get? it=af (FQ (cT W) (i+1) a Y.size J):=X;refine one e.2 _ Z (Bj g hm) (λh'=>?_) N X (G.trans M);by_cases U:h'.get? it=af (FQ (cT W) (i+1) a Y.size J);·exact .inl (uG Y J t _ U y F ⟨_,g⟩ (.inl ⟨O,⟨W,rfl⟩,V⟩))
   ·exact .inr (.inl U)
 ·have hne:pl≠it:=m;refine au (fZ hpl rfl ?_);have Z:xs[i]?=(js[i]?).map (λj=>S.dec (Y.getD j default).2):=by rw[V,dN]
  have e2:((js.map λ(j:ah)=>cT (j:aq)).toArray)[i]?=(js[i]?).map λ(j:ah)=>cT (j:aq):=by simp
  dsimp only;rw[dM,e2];cases q:js[i]? with |none=>
   rw[q] at Z;refine au (oZ E (by simp-iota) λR H G=>?_);refine au (oZ H (by simp-iota) λN X M=>?_);have hb:=G.trans M;exact stop _ ⟨λb ob hb' r=>(hb.2 b hb').trans r,cA hb.1.symm,_,X⟩ Z|some j=>
   rw[q] at Z;have d:=Sm j (j3 q);have e3:Y.getD j default=Y[j]:=by simp-iota [Array.getD,d]
   refine au ?_;unfold setNextDrawn;refine au (qy hg y F ?_);simp only[dM,o9,i5,↓m8,j_ d];refine au (aD (aD ?_));refine au (oZ E (by simp-iota) λN X M=>aD ?_);have X:N.get? it=af (FQ (.ref pl) (i+1) a Y.size J):=X;have hm:Y[j]∈Y.toList:=Array.mem_toList_iff.mpr (Array.getElem_mem d);rw[Option.map_some,e3] at Z;refine one Y[j].2 _ Z (Bj g hm) (λh'=>?_) N X M;by_cases U:h'.get? it=af (FQ (.ref pl) (i+1) a Y.size J)
   ·by_cases I:fu it s.heap h';·exact .inl (uG Y J t _ U y F ⟨_,g⟩ (.inr (.inl ⟨O,pl,js,n,rfl,by rw[I.2 pl m];exact hpl,TA,m,Sm,V⟩)))
    ·exact .inr (.inr I)
   ·exact .inr (.inl U)
 ·refine au (xV O hg y F R z ?_);have Z:xs[i]?=(Y[i]?).map (S.dec ·.2):=by rw[V,dN,fS]
  have L:t.place.size=Y.size:=by
   unfold SetTable.fits at F;rw[cu] at F;exact eL F.1
  simp-iota only[dM] at Z ⊢;by_cases D:i<Y.size
  ·have QG:i=0:=by exact cY (Z2 [V0,.n 0,V1,.n 1,.p V0 (.n 1),V1] rfl R D) (Z1 [.n 0,V0] rfl)
   subst QG;have TF:0<t.place.size:=i7 D L.symm;have hb0:sS t.place W=0:=by
    rw[hs0 rfl];have C:t.place.size=1:=by exact cY (Z2 [V0,.n 1,V1,.n 1,V0,V1] rfl R (Qe L)) (Z2 [.n 1,V0,V1,V0,.p (.n 0) (.n 1),V1] rfl (Qf L) D)
    obtain⟨x,f⟩:∃x,t.place=#[x]:=⟨t.place[0],by
     apply Array.ext;·simpa using C
     ·intro k R N;have:k=0:=by simp-iota at N;exact H6 [V0,.n 0,V0,.n 0] rfl N
      subst this;rfl⟩;rw[f,vI];rfl
   rw[hb0,j_ D,j_ (by exact Z2 [.p (.n 0) (.n 1),V0,V1,V0,.p (.n 0) (.n 1),V1] rfl (Qf L) D:0<t.place.size)];rw[j_ D] at Z;refine au (oZ E (by simp-iota) λR H G=>?_);refine au (oZ H (by simp-iota) λN X M=>aD ?_);have X:N.get? it=af (FQ (cT (t.place[0]+1:ah)) (0+1) a Y.size J):=X;have hm:Y[0]∈Y.toList:=Array.mem_toList_iff.mpr (Array.getElem_mem D);refine one Y[0].2 _ Z (Bj g hm) (λh'=>?_) N X (G.trans M);by_cases U:h'.get? it=af (FQ (cT (t.place[0]+1:ah)) (0+1) a Y.size J);·exact .inl (uG Y J t _ U y F ⟨_,g⟩ (.inr (.inr ⟨O,‹_›,z,t.place[0]+1,rfl,λh=>(nomatch h),λø j d=>by rw[j_ TF] at d;cases d;rfl,V⟩)))
   ·exact .inr (.inl U)
  ·have l:Y[sS t.place W]?=none:=by
    by_cases hz:Y.size=0;·exact qb (Z2 [V0,V1,V0,.n 0] rfl (Qe hz))
    ·have C:t.place.size=1:=by exact cY (Z2 [V0,.n 1,V1,.n 1,V0,V1] rfl R (Qe L)) (Z2 [.n 1,V0,V1,V0,.n 1,V1] rfl (Qf L) (Qp hz))
     obtain⟨x,f⟩:∃x,t.place=#[x]:=⟨t.place[0],by
      apply Array.ext;·simpa using C
      ·intro k R N;have:k=0:=by simp-iota at N;exact H6 [V0,.n 0,V0,.n 0] rfl N
       subst this;rfl⟩;have hsl:W=x+1:=hs1 (Z3 [.p (.n 0) (.n 1),V0,V1,V2,V2,V0,.n 1,V1] rfl (Qe L) (Qb D) (Qf C)) x (by rw[f];rfl);rw[f,vI,hsl,aW (jH _)];exact qb (R)
   rw[l];rw[qb ((Qb D))] at Z;refine au (qw E rfl (by simp-iota) ?_);exact stop _ (upd _ _) Z
theorem tQ{it a:az}{o:aR}{xs:aa κ}{i:ah}(W:A.handled=none)(V:s.heap.get? a=af o)(Z:a≠it)(hi:mJ S s.heap ρ it a o xs i):aB (aE pw w) A (eX (.ref it)) (λq Y=>∃(h':aM),Y={s with heap:=h'}/\fF it s.heap h'/\match xs[i]? with|some x=>∃v,q=af v/\S.knd.is x v=aj/\mJ S h' ρ it a o xs (i+1)|none=>q=none) b7 s:=C_ W V Z hi (λe h' X=>cy h' rfl X (by rw[e])) λx v h' e U T X=>cy h' rfl X (by rw[e];exact cy v rfl U T)
end
end
theorem uM.at_{h:aM}{ρ:aa az}{x:ai}:∀{l:aa (ai×AV)}{m:aa (ai×ao)},uM h ρ l m->match l.lookup x with|some a=>∃v,f5 m x=af v/\RA h ρ a v|none=>f5 m x=none:=by
 intro l;induction l with |nil=> intro _ e;cases e;rfl|cons Y l X=>induction Y using gz with|mk y a=>
   intro _ W;obtain⟨v,r,e,V,U⟩:=W;subst e;rw[iA];by_cases Z:x=y
   ·subst Z;rw[iT];exact aP v (by simp[f5]) V
   ·rw[fC Z];have:=X U;have e:f5 ((y,v)::r) x=f5 r x:=by simp[f5,Ne.symm Z]
    rw[e];exact this
theorem uM.snoc{h:aM}{ρ:aa az}{x:ai}{a:AV}{v:ao}(Z:RA h ρ a v):∀{l:aa (ai×AV)}{m:aa (ai×ao)},uM h ρ l m->uM h ρ (l++[(x,a)]) (m++[(x,v)]):=by
 intro l;induction l with |nil=> intro _ e;cases e;exact bM v [] rfl Z rfl|cons Y l X=>induction Y using gz with|mk y b=> intro _ W;obtain⟨u,r,e,V,U⟩:=W;exact⟨u,r++[(x,v)],by rw[e];rfl,V,X U⟩
theorem uM.without{h:aM}{ρ:aa az}{x:ai}:∀{l:aa (ai×AV)}{m:aa (ai×ao)},uM h ρ l m->uM h ρ (l.filter λp=>decide (p.1≠x)) (without m x):=by
 intro l;induction l with |nil=> intro _ e;cases e;rfl|cons X l Y=>induction X using gz with|mk y b=>
   intro _ W;obtain⟨u,r,e,V,U⟩:=W;subst e;have Y:=Y U;unfold PySem.without at Y ⊢;by_cases Z:y=x;·rw[List.filter_cons_of_neg (by simp[Z]),List.filter_cons_of_neg (by simp[Z])];exact Y
   ·rw[List.filter_cons_of_pos (by simp[Z]),List.filter_cons_of_pos (by simp[Z])];exact bM u _ rfl V Y
theorem uM.keys{h:aM}{ρ:aa az}:∀{l:aa (ai×AV)}{m:aa (ai×ao)},uM h ρ l m->m.map (·.1)=l.map (·.1):=by
 intro l;induction l with
 |nil=>
  intro _ e;cases e;rfl|cons Z l Y=>induction Z using gz with|mk y b=> intro _ X;obtain⟨u,r,e,V,W⟩:=X;subst e;rw[ek,ek,Y W]
theorem stored_new{K:Type}[jO K]{m:aa (K×ao)}{k:K}{v:ao}(h:f5 m k=none):stored m k v=m++[(k,v)]:=by
 unfold stored f5 at*;rw[aI];intro Z;rw[List.any_eq_true] at Z;(refine aQ Z λp Y X=>?_;clear Z);rw[Option.map_eq_none_iff,List.find?_eq_none] at h;exact h p Y X
theorem HS.at_{x:aq}:∀{l:aa (aq×aq)}{m:aa (aq×ao)},HS l m->match l.lookup x with|some a=>∃t,f5 m x=af (.int a t)|none=>f5 m x=none:=by
 intro l;induction l with
 |nil=> intro _ e;cases e;rfl|cons Y l X=>induction Y using gz with|mk y a=>
   intro _ W;obtain⟨v,r,e,V⟩:=W;subst e;rw[iA];by_cases Z:x=y;·subst Z;rw[iT];exact⟨v,by simp[f5]⟩
   ·rw[fC Z];have:=X V;have e:f5 ((y,.int a v)::r) x=f5 r x:=by simp[f5,Ne.symm Z]
    rw[e];exact this
theorem HS.snoc{x a:aq}{t:Tok}:∀{l:aa (aq×aq)}{m:aa (aq×ao)},HS l m->HS (l++[(x,a)]) (m++[(x,.int a t)]):=by
 intro l;induction l with |nil=>
  intro _ e;cases e;exact cG t [] rfl rfl|cons Z l Y=>induction Z using gz with|mk y b=> intro _ X;obtain⟨u,r,e,W⟩:=X;exact⟨u,r++[(x,.int a t)],by rw[e];rfl,Y W⟩
theorem HS.length:∀{l:aa (aq×aq)}{m:aa (aq×ao)},HS l m->m.length=l.length:=by
 intro l;induction l with |nil=> intro _ e;cases e;rfl|cons Z l Y=>induction Z using gz with|mk y b=> intro _ X;obtain⟨u,r,e,W⟩:=X;subst e;rw[jE,jE,Y W]
theorem xW{a:az}(h:449<=a):(a==o4)=aC:=fC λe=>aJ (show 449<=o4 from e▸h) (by decide)
theorem Cr{a b:ai}(h:a.cps.toList=b.cps.toList):a=b:=by
 obtain⟨⟨a⟩⟩:=a;obtain⟨⟨b⟩⟩:=b;cases (h:a=b);rfl
theorem zc{x:ai}:∀{l:aa ai},x∈l->∃h:cO x l<l.length,l[cO x l]=x/\∀m,m<cO x l->∀Z:m<l.length,l[m]≠x:=by
 intro l;induction l with |nil=>exactλh=>by cases h|cons y l X=>
  intro h;by_cases e:y=x
  ·subst e;have Y:cO y (y::l)=0:=by unfold cO;rw[aW rfl]
   rw[Y];exact aP (by simp) (by simp) (λm Z=>aJ Z (m3 _))
  ·have Y:cO x (y::l)=cO x l+1:=by rw[cO,aI e]
   rw[Y];refine aQ (X (by cases h with|head=>exact aJ rfl e|tail _ h=>exact h)) λW V U=>?_;refine aP (by simpa using W) (by simpa using V) (λm Z T=>?_);induction m using cJ with|zero=>exact e|succ m=>simpa using U m (Z2 [.p V0 (.n 1),V1,.p (.p V0 (.n 1)) (.n 1),.p V1 (.n 1)] rfl Z) (by simpa using T)
theorem i3:Slot "bytes" "translate" "bytes.translate":=.of (owner:="bytes") (n:="translate") (by rw[fX,fY];kernel_rfl) (by decide+kernel) (by decide+kernel) (by decide+kernel) (by first|exact .inl (by decide+kernel)|exact .inr (by decide+kernel)) (by rw[fq];kernel_rfl)
theorem mO:kG table "bytes.translate"=af Builtin.«bytes.translate»:=sH (by kernel_rfl)
theorem xX:Manifest.owners.lookup (m7 ['s','e','t','y','b'].reverse)=af Manifest.sig_bytes:=by kernel_rfl
theorem nu(a b:ao):iI "bytes.translate" ⟨[a,b],[]⟩:=by unfold iI;rw[oY (id:="bytes.translate") (n:=['e','t','a','l','s','n','a','r','t']) (o:=['s','e','t','y','b']) (by kernel_rfl) xX];kernel_rfl
section
variable{w:aG}{A:bg}{env:aV}{sc:aU}{ρ ρ':aa az}{s s':ay}{σ σ':AS}{K:ah}{P:AV->AS->Prop}
theorem tR{K:Type}[jO K]{knd:PySem.KeyKind pw w K}{h:aM}{a:az}{m:aa (K×ao)}(h0:h.DictOf knd a m):∃o,h.get? a=af o:=let ⟨o,_,_,Z,_⟩:=h0;⟨o,Z⟩
theorem xY(r:Rel w sc env σ ρ s){k:ah}{l:aa (ai×AV)}{v:ao}(e:tn σ.heap k=af l)(X:RA s.heap ρ (.ref k) v):∃(a:az)(o:aR)(m:aa (ai×ao)),v=.ref a/\σ.heap[k]?=af (.dS l o)/\s.heap.get? a=af o/\s.heap.DictOf (kF pw w) a m/\uM s.heap ρ l m/\ρ[k]?=af a/\(a==o4)=aC:=by
 refine aZ (k9.mp e) λo W=>?_;(refine aQ X λa Z Y=>?_;clear X;subst Z);(refine bq (r.bK.obj k _ a W Y) λV Z=>aQ Z λm U T=>?_;clear Z);exact EJ a o m rfl W V U T Y (xW (r.bK.above a (j3 Y)))
theorem zd{x:AV}{as:aa AV}(h:JX x as P σ):Mc K sc x .get as σ P:=by
 intro w A env ρ s O r N M T S;refine uR h T λk d Z h=>L7 h S λb a vb u Y R h=>uS h Y λx t h=>jo h λl e h=>?_;(refine sV (xY r e (.ref Z)) λL o m X J I U W H V=>?_;cases X);refine call_meetsIn F.slot_dict_get U.typeIs F.entry_dict_get (F.args_dict_get_3 _ _ _) (meets_dict_get_default (kF pw w) d (jT x t) V u) (aP _ U.mapOf ?_);have q:=W.at_ (x:=x);show PV w sc env ρ s P _ _;cases z:l.lookup x with
 |none=>
  rw[z] at q h;rw[q];exact PV.here r R h _|some b=>
  rw[z] at q h;(refine aQ q λv Q Y=>?_;clear q);rw[Q];exact PV.here r Y h _
theorem uV{x:AV}{as:aa AV}(h:Cd x as P σ):Mc K sc x .setdefault as σ P:=by
 intro w A env ρ s y r p n H G;refine uR h H λk d T h=>L7 h G λb a vb u W N h=>uS h W λx t h=>jo h λl e h=>?_;(refine sV (xY r e (.ref T)) λj o m S E i M Y D R=>?_;cases S);have C:m.length=l.length:=by rw[<-bB (f:=(·.1)) (as:=m),Y.keys,bB]
 have q:=Y.at_ (x:=x);refine call_meetsIn F.slot_dict_setdefault M.typeIs F.entry_dict_setdefault (F.args_dict_setdefault_3 _ _ _) (kt_meets_setdefault (kF pw w) d (jT x t) R u) (lX m M (by rw[C];exact h.1) (λv V=>?_) (λV g X U=>?_));·show PV w sc env ρ s P _ _;cases z:l.lookup x with |none=>rw[z] at q;rw[V] at q;cases q|some b=>
   rw[z] at q;(refine aQ q λB Z W=>?_;clear q);rw[V] at Z;cases Z;exact PV.here r W (h.2.1 _ z) _
 ·show PV w sc env ρ s P _ _;cases z:l.lookup x with |some b=>rw[z] at q;(refine aQ q λB Z W=>?_;clear q);rw[V] at Z;cases Z|none=>
   refine aZ (tR X) λL Q=>?_;rw[stored_new V] at X;have J:=Way.s6 (tk:=s.toks+1) (d:=s.drawn) r D E (λq=>nomatch q) (o':=.dS (l++[(x,a)]) L) (λc q=>nomatch q) (λb ob W O=>(U.2 b W).trans O) (cA U.1.symm) λI=>⟨Q,_,X,(Y.mono I).snoc (N.mono I)⟩;exact J.pv (N.mono (J.k8 r)) (h.2.2 z L)
theorem set_inv(r:Rel w sc env σ ρ s){k:ah}{l:aa ai}{v:ao}(e:setAt σ.heap k=af l)(Y:RA s.heap ρ (.ref k) v):∃(a:az)(o:aR),v=.ref a/\σ.heap[k]?=af (.set l o)/\s.heap.get? a=af o/\C1 w o l/\ρ[k]?=af a:=by
 refine aZ (gB.mp e) λo X=>?_;(refine aQ Y λa Z W=>?_;clear Y;subst Z);refine bq (r.bK.obj k _ a X W) λV U=>?_;exact Kv a o rfl X V U W
theorem ze{x:AV}{as:aa AV}(h:JY x as P σ):Mc K sc x .add as σ P:=by
 intro w A env ρ s H r G F Q O;refine uR h Q λk a Y h=>Cf h O λb vb X h=>uS h X λx t h=>jo h λl e h=>?_;(refine EE (set_inv r e (.ref Y)) λE o W N M L J=>?_;cases W);refine n6 (S:=Pn w) (jT x _) M L h.1 λD R Z V U=>?_;have I:=Way.s6 (tk:=s.toks+1) (d:=s.drawn) r J N (λq=>nomatch q) (o':=.set (if x∈l then l else l++[x]) R) (λC q=>nomatch q) (λb B X T=>(Z.2 b X).trans T) (cA Z.1.symm) λz=>⟨V,U⟩;exact I.pv (.d .none) (h.2 R)
theorem uW{x:AV}{as:aa AV}(h:Cc x as P σ):Mc K sc x .translate as σ P:=by
 intro w A env ρ s U r S R Y X;refine uB h Y λb t h=>Cf h X λQ vb W h=>uB h W λZ u h=>?_;refine dP i3 rfl mO ?_ (nu _ _);refine au (m:=Builtin.Bytes.bytesLike _ (.bytes Z u)) (eB (a:=Z) (by unfold Builtin.Bytes.bytesLike;rw[KBy.buffer_eq];rfl) ?_);rw[h.1.1];refine rwL (aI cS) ?_;refine au (aD ?_);dsimp only;rw[show (([]:aa ao).head?<|>Option.map (λx=>x.snd) ([]:aa (ai×ao)).head?)=none from rfl];dsimp only;refine au (aD ?_);refine au (m:=Builtin.Bytes.payload (.bytes b t)) (eB (a:=b) rfl ?_);have V:(Array.filter (λx=>!(#[]:aK dQ).contains x) b)=b:=by simp
 rw[V];split
 ·rename_i q;refine au (i_ ?_);refine au (m:=Builtin.Bytes.Kind.same _ _) ?_;refine au (lM (T:="bytes") rfl ?_);refine aD (aD (aP _ rfl ?_));have q:=eL q;refine PV.same r (av:=.d (.bytes _)) ⟨t,rfl⟩ ?_;have:=h.2;rw[q] at this;exact this
 ·refine au (m:=mkBytes _) (wpAny_mkBytes ?_ (by rw[Array.size_map];exact h.1.2));exact aD (aP _ rfl (PV.here r (.d (.bytes _ _)) h.2 _))
theorem xZ{x:AV}{as:aa AV}(h:Fp x as P σ):Mc K sc x .index as σ P:=by
 intro w A env ρ s B r z u M L;refine uL h M λl a items n J O q T h=>Cf h L λb vb I h=>uS h I λx t h=>m_ h λX W H G E=>?_;subst W;have Z:items.size=X.length:=by simpa using T.length
 refine aQ (zc H) λV S R=>?_;have each:∀(m:ah) (Y:m<items.size),∃U,items[m]=.str (X[m]'(Z3 [.p V0 (.n 1),V1,V2,V1,.p V0 (.n 1),V2] rfl (Qe Z) Y)) U:=λm Y=>by
  refine aQ (T.get (i:=m) (a:=.str (X[m]'(by exact Z3 [.p V0 (.n 1),V1,V2,V1,.p V0 (.n 1),V2] rfl (Qe Z) Y))) (by rw[dN,c7 (by exact Z3 [.p V0 (.n 1),V1,V2,V1,.p V0 (.n 1),V2] rfl (Qe Z) Y)];rfl)) λv N W=>aZ W λU e=>?_;rw[fS,j_ Y] at N;cases N;exact⟨U,e⟩
 have D:=sizeLine_eq;refine call_meets F.slot_list_index (bz O).typeIs F.entry_list_index (F.args_list_index_2 _ _) (SeqAt.list_indexAt a items n none J (.str x t) (λy=>(E3 y).cps.toList==x.cps.toList) (cO x X) (Z3 [.p V0 (.n 1),V1,V2,V1,.p V0 (.n 1),V2] rfl (Qf Z) V) (bJ [_,_,_] [] 1 [] [.p (.c V0) (.n 1),.s (.n (2^63)) (.n 1),.c V1,.c V2,.c (.p V0 (.n 1)),.c V1,.c V2,.c (.n 16777216)] rfl (Qn G) (Qn V) (Qn (Qe D))) ?_ ?_) ⟨O,λy C=>?_,?_⟩
 ·refine aZ (each (cO x X) (Z3 [.p V0 (.n 1),V1,V2,V1,.p V0 (.n 1),V2] rfl (Qf Z) V)) λU e=>?_;rw[e];show (X[cO x X].cps.toList==x.cps.toList)=aj;rw[S];exact iT _
 ·intro m Y Q;refine aZ (each m Y) λU e=>?_;rw[e];show (X[m].cps.toList==x.cps.toList)=aC;refine fC λe=>R m Q (Z3 [.p V0 (.n 1),V1,V2,V1,.p V0 (.n 1),V2] rfl (Qe Z) Y) (Cr e)
 ·obtain⟨m,Y,rfl⟩:=Array.mem_iff_getElem.mp C;refine aZ (each m Y) λU e=>?_;rw[e];exact(SeqRoads2.EqGives.str X[m] x U t).at _ _
 ·exact PV.here r (.d (.int _ _)) E _
end
theorem ri:Slot "method_descriptor" "__get__" "method_descriptor.__get__":=.of (owner:="method_descriptor") (n:="__get__") (by rw[fX,fY];kernel_rfl) (by decide+kernel) (by decide+kernel) (by decide+kernel) (by first|exact .inl (by decide+kernel)|exact .inr (by decide+kernel)) (by rw[fq];kernel_rfl)
theorem x7:kG table "method_descriptor.__get__"=af Builtin.«method_descriptor.__get__»:=sH (by kernel_rfl)
theorem FT:Manifest.owners.lookup (m7 ['r','o','t','p','i','r','c','s','e','d','_','d','o','h','t','e','m'].reverse)=af Manifest.sig_method_descriptor:=by kernel_rfl
theorem zf(a b c:ao):iI "method_descriptor.__get__" ⟨[a,b,c],[]⟩:=by unfold iI;rw[oY (id:="method_descriptor.__get__") (n:=['_','_','t','e','g','_','_']) (o:=['r','o','t','p','i','r','c','s','e','d','_','d','o','h','t','e','m']) (by kernel_rfl) FT];kernel_rfl
theorem slot_set_contains:Slot "set" "__contains__" "set.__contains__":=.of (owner:="set") (n:="__contains__") (by rw[fX,fY];kernel_rfl) (by decide+kernel) (by decide+kernel) (by decide+kernel) (by first|exact .inl (by decide+kernel)|exact .inr (by decide+kernel)) (by rw[fq];kernel_rfl)
theorem type_set_contains:fP (.builtin "set.__contains__")=aX (.type "method_descriptor"):=by show builtinType _=_;rw[builtinType_eq_fast];kernel_rfl
section
variable{w:aG}{A:bg}{s:ay}
theorem IF:".".intercalate ("set.__contains__".cutAt '.').dropLast="set":=by decide+kernel
theorem FU:".".intercalate ("dict.get".cutAt '.').dropLast="dict":=by decide+kernel
theorem IG:d8 (.type "set") (.type "set")=aX aj:=by rw[fq];kernel_rfl
theorem FW:d8 (.type "dict") (.type "dict")=aX aj:=by rw[fq];kernel_rfl
theorem K4{T id:cj}{a:az}{o:aR}{E:ao->ay->Prop}{Q:ao->ay->Prop}(Z:fP (.builtin id)=aX (.type "method_descriptor"))(told:Manifest.toldItsClass.contains id=aC)(Y:".".intercalate (id.cutAt '.').dropLast=T)(sub:d8 (.type T) (.type T)=aX aj)(V:s.heap.get? a=af o)(U:o.cls=.type T)(S:Q (.ref s.heap.objs.size) {s with heap:=s.heap.push (JD id a)}):aB (aE pw w) A (dW (.builtin "method_descriptor.__get__") [.builtin id,.ref a,.type T]) Q E s:=by
 have X:s.TypeIs (.ref a) T:=aP _ V U;refine dP ri (show s.TypeIs (.builtin id) "method_descriptor" from Z) x7 ?_ (zf _ _ _);unfold Builtin.«method_descriptor.__get__»;refine au (aD ?_);dsimp only;rw[aI (show¬((g9 a==Value.none)=aj) from cS),aI (show¬((jN T==Value.none)=aj) from cS)];dsimp only;rw[told];refine rwL (aI cS) ?_;have R:∀(n:ai),(jN (".".intercalate (id.cutAt '.').dropLast))=.type T:=λP=>by rw[Y]
 obtain⟨O,g,d,N,os⟩:=s;have X:∀W,(⟨O,g,d,W,os⟩:ay).TypeIs (.ref a) T:=λP=>aP _ V U;refine au ?_;refine au (aD ?_);rw[R ⟨#[]⟩];refine au (jJ (X _) sub ?_);repeat (any_goals (first|assumption|exact X _|wp_step))
 exact aP _ rfl S
theorem Dc:d7 (.type "method_descriptor") "__set__"=aX none:=by rw[fX,fY];kernel_rfl
theorem Dd:d7 (.type "method_descriptor") "__delete__"=aX none:=by rw[fX,fY];kernel_rfl
theorem II{T id:cj}{name:ai}{a:az}{o:aR}{E:ao->ay->Prop}{Q:Builtin.ObjectAttr.Found->ay->Prop}(X:Slot T name id)(W:fP (.builtin id)=aX (.type "method_descriptor"))(P:s.heap.get? a=af o)(O:o.cls=.type T)(N:o.dict=none)(V:(∃U S,o.data=.dict U S)\/∃U S t,o.data=.set U S t)(Z:(["__module__","__name__","__qualname__","__doc__","__annotations__"]:aa ai).contains name=aC)(H:Q (.bind (.builtin "method_descriptor.__get__") (.builtin id)) s):aB (aE pw w) A (Eu (.ref a) (.type T) name) Q E s:=by
 unfold Eu;refine au (eB X.lookup ?_);unfold Builtin.ObjectAttr.getOf;refine au (gY (show s.TypeIs (.builtin id) "method_descriptor" from W) ri.lookup ?_);have f1:=Dc;have f2:=Dd;obtain⟨c,K,J,G⟩:=o;obtain⟨M,g,d,F,os⟩:=s;simp only at O N;subst O N;have R:∀Y,(⟨M,g,d,Y,os⟩:ay).TypeIs (.builtin id) "method_descriptor":=λI=>W;have L:∀Y,(⟨M,g,d,Y,os⟩:ay).TypeIs (.ref a) T:=λI=>aP _ P rfl;simp only at P;rcases V with ⟨U,S,e⟩|⟨U,S,t,e⟩<;>
 ·simp only at e;subst e;repeat (any_goals (first|assumption|exact R _|exact L _|wp_step))
  rw[Z];refine rwL (aI cS) ?_;repeat (any_goals (first|assumption|exact R _|exact L _|wp_step))
theorem Nk{T id:cj}{name:ai}{u:Tok}{a:az}{o:aR}{E:ao->ay->Prop}{Q:ao->ay->Prop}(Y:Slot T name id)(X:fP (.builtin id)=aX (.type "method_descriptor"))(told:Manifest.toldItsClass.contains id=aC)(V:".".intercalate (id.cutAt '.').dropLast=T)(sub:d8 (.type T) (.type T)=aX aj)(U:s.heap.get? a=af o)(S:o.cls=.type T)(N:o.dict=none)(W:(∃R P,o.data=.dict R P)\/∃R P t,o.data=.set R P t)(Z:(["__module__","__name__","__qualname__","__doc__","__annotations__"]:aa ai).contains name=aC)(M:Q (.ref s.heap.objs.size) {s with heap:=s.heap.push (JD id a)}):aB (aE pw w) A (Builtin.«object.__getattribute__» ⟨[.ref a,.str name u],[]⟩) (λO s'=>∃v,O=.done (.ret v)/\Q v s') E s:=by
 unfold Builtin.«object.__getattribute__»;refine au (aD ?_);refine au (m:=Builtin.ObjectAttr.attrName _) (eB (a:=name) rfl ?_);refine au (lM (aP o U S) ?_);refine au (II Y X U S N W Z ?_);show aB _ _ (Ew _ _ _ _) _ _ _;unfold Ew;refine au (bP (K4 X told V sub U S (aD (aP _ rfl M))))
theorem tT{T id V:cj}{name:ai}{a:az}{o:aR}{E:ao->ay->Prop}{Q:ao->ay->Prop}(X:Slot T name id)(U:fP (.builtin id)=aX (.type "method_descriptor"))(told:Manifest.toldItsClass.contains id=aC)(S:".".intercalate (id.cutAt '.').dropLast=T)(sub:d8 (.type T) (.type T)=aX aj)(Z:Slot T "__getattribute__" V)(R:kG table V=af Builtin.«object.__getattribute__»)(P:∀a b,iI V ⟨[a,b],[]⟩)(M:s.heap.get? a=af o)(L:o.cls=.type T)(J:o.dict=none)(W:(∃O N,o.data=.dict O N)\/∃O N t,o.data=.set O N t)(Y:(["__module__","__name__","__qualname__","__doc__","__annotations__"]:aa ai).contains name=aC)(I:Q (.ref s.heap.objs.size) {s with heap:=s.heap.push (JD id a),toks:=s.toks+1}):aB (aE pw w) A (getAttr (.ref a) name aj) Q E s:=by
 unfold getAttr getAttrBy;have K:∀k,xr {s with toks:=k} (.ref a) T:=λk=>aP _ M L;refine au (wpAny_mkText ?_);refine bP (au (lM (K _) (au (eB Z.lookup ?_))));dsimp only;rw[aI (by simp[onTheHeap])];unfold getAttrByItsOwn hookBefore;refine au (aD ?_);refine au (kB (bP ?_));show aB _ _ (boundAndCalled _ _ _) _ _ _;unfold boundAndCalled;refine au (eB (Z.bind _) ?_);refine dP (E:=_) Z (K _) R (Nk (s:={s with toks:=s.toks+1}) X U told S sub M L J W Y ?_) (P _ _);exact aD I
theorem told_set:Manifest.toldItsClass.contains "set.__contains__"=aC:=by decide+kernel
theorem De:Manifest.toldItsClass.contains "dict.get"=aC:=by decide+kernel
theorem sig_get:∃sig,Manifest.signature? "dict.get"=some sig/\∀a b c:Value,Bind.checkArgs "dict.get" {sig with full:=s!"{Bind.lastOf "dict"}.{Bind.lastOf "dict.get"}"} ⟨[a,b,c],[]⟩=pure ():=by
 have e:=oY (id:="dict.get") (n:=['t','e','g']) (o:=['t','c','i','d']) (by kernel_rfl) F.owner_dict;cases h:mS (m7 ['t','e','g'].reverse) Manifest.sig_dict with |none=>exact aJ h (by decide+kernel)|some sig=>
  refine aP sig (e.trans h) (λa b c=>?_);have:sig=((mS (m7 ['t','e','g'].reverse) Manifest.sig_dict).getD sig):=by rw[h];rfl
  rw[this];kernel_rfl
theorem sig_cont:∃sig,Manifest.signature? "set.__contains__"=some sig/\∀a b:Value,Bind.checkArgs "set.__contains__" {sig with full:=s!"{Bind.lastOf "set"}.{Bind.lastOf "set.__contains__"}"} ⟨[a,b],[]⟩=pure ():=by
 have e:=oY (id:="set.__contains__") (n:=['_','_','s','n','i','a','t','n','o','c','_','_']) (o:=['t','e','s']) (by kernel_rfl) F.owner_set;cases h:mS (m7 ['_','_','s','n','i','a','t','n','o','c','_','_'].reverse) Manifest.sig_set with |none=>exact aJ h (by decide+kernel)|some sig=>
  refine aP sig (e.trans h) (λa b=>?_);have:sig=((mS (m7 ['_','_','s','n','i','a','t','n','o','c','_','_'].reverse) Manifest.sig_set).getD sig):=by rw[h];rfl
  rw[this];kernel_rfl
theorem pW:qA "dict.get"=af .method/\qA "set.__contains__"=af .method/\(Manifest.varargsMethods.contains "dict.get"||Manifest.varargsMethods.contains "set.__contains__")=aC:=by decide+kernel
theorem nV:d8 (.type "dict") (.type "module")=aX aC/\d8 (.type "set") (.type "module")=aX aC/\d8 (.type "dict") (.type "type")=aX aC/\d8 (.type "set") (.type "type")=aX aC:=by refine⟨?_,?_,?_,?_⟩<;>(rw[fq];kernel_rfl)
theorem vJ{T id:cj}{a:az}{o:aR}{xs:aa ao}{sig:Manifest.Signature}{E:ao->ay->Prop}{Q:Unit->ay->Prop}(QH:Manifest.signature? id=af sig)(hk:qA id=af .method)(hv:Manifest.varargsMethods.contains id=aC)(h1:d8 (.type T) (.type "module")=aX aC)(h2:d8 (.type T) (.type "type")=aX aC)(ha:Bind.checkArgs id {sig with full:=s!"{Bind.lastOf T}.{Bind.lastOf id}"} ⟨.ref a::xs,[]⟩=pure ()) (hx:s.heap.get? a=some o) (hc:o.cls=.type T) (hdat:(∃es ep,o.data=.dict es ep)\/∃es ep t,o.data=.set es ep t) (hQ:Q () s):wpAny (model pw w) A (checkBoundCall id ⟨.ref a::xs,[]⟩) Q E s:=by
 have hT:s.TypeIs (.ref a) T:=aP _ hx hc;unfold checkBoundCall;rw[QH];rw[hk];dsimp only;rw[aI (by decide)];refine au (jJ hT h1 ?_);rw[hv];refine rwL (aI cS) ?_;refine au (m:=PySem.isType (.ref a)) ?_;unfold PySem.isType;refine au (m:=loadHead a) (o5 hx (aD ?_));have fin:aB (aE pw w) A (fP (.ref a)) (λcls s'=>cls=.type T/\s'=s) E s:=lM hT ⟨rfl,rfl⟩;rcases hdat with ⟨es,ep,e⟩|⟨es,ep,t,e⟩<;>
 ·rw[e];refine rwL (aI cS) ?_;refine au (bk fin (λcls s' QI=>bq QI λe1 e2=>?_) λø ø h=>h);subst e1 e2;exact eB ha hQ
theorem Cs{id:cj}{b:lH}{a x:az}{xs:aa ao}{Q:ao->ay->Prop}(Y:s.heap.get? x=af (JD id a))(W:plainId id=aj)(U:kG table id=af b)(Z:∀(A:bg)(E:ao->ay->Prop)(Q:Unit->ay->Prop),Q () s->aB (aE pw w) A (checkBoundCall id ⟨.ref a::xs,[]⟩) Q E s)(h:aB (aE pw w) A.in1 (b ⟨.ref a::xs,[]⟩) (λX s'=>match X with|.done f=>wants Q b7 (.ok f) s'|.again V=>V.quiet=aj/\dw (aE pw w) A V (wants Q b7) s') (λe s'=>wants Q b7 (.error e) s') s):aB (aE pw w) A (dW (.ref x) xs) Q b7 s:=by
 refine gc (o6 ?_);show aB _ _ (callAny (.ref x) ⟨xs,[]⟩) _ _ _;unfold callAny;refine au (lJ Y ?_);show aB _ _ (checkBoundCall id ⟨.ref a::xs,[]⟩>>=λT=>again (.builtin id ⟨.ref a::xs,[]⟩)>>=aX) _ _ _;refine au (Z _ _ _ ?_);refine au (aD (aD ⟨iJ W _,iK U ?_⟩));rw[jL W];exact h
theorem uX{B:bg}{a:az}{o:aR}{l:aa ai}{x:ai}{t:Tok}{Q:ao->ay->Prop}(W:s.heap.get? a=af o)(V:C1 w o l)(h:Q (.bool (l.contains x)) {s with toks:=s.toks+1}):aB (aE pw w) A (Builtin.«frozenset.__contains__» ⟨[.ref a,.str x t],[]⟩) (λY s'=>match Y with|.done f=>wants Q b7 (.ok f) s'|.again X=>X.quiet=aj/\dw (aE pw w) B X (wants Q b7) s') (λe s'=>wants Q b7 (.error e) s') s:=by
 have U:=C1.setOf (S:=Pn w) W V;have Z:=jT (w:=w) x t;unfold Builtin.«frozenset.__contains__» Er;rw[List.isEmpty_nil,bind_assoc];unfold Es Builtin.Frozenset.withSetAsKey setContains;refine au (aD ?_);try dsimp only
 refine au (aD ?_);try dsimp only
 refine au (o7 ?_);refine bP ?_;refine au ((kF pw w).pyHash Z ?_);refine au (wpAny_setFind_of (s:={s with toks:=s.toks+1}) Z rfl U λr T=>?_);refine aD (aD ?_);show Q (.bool r.isSome) _;rw[T];exact h
end
section
variable{w:aG}{A:bg}{env:aV}{sc:aU}{ρ ρ':aa az}{s s':ay}{σ σ':AS}{K:ah}{P:AV->AS->Prop}
theorem Bk(r:Rel w sc env σ ρ s){k:ah}{l:aa (aq×aq)}{v:ao}(e:Fo σ.heap k=af l)(X:RA s.heap ρ (.ref k) v):∃(a:az)(m:aa (aq×ao)),v=.ref a/\σ.heap[k]?=af (.dI l)/\s.heap.DictOf (sL pw w) a m/\HS l m/\ρ[k]?=af a/\(a==o4)=aC:=by
 have W:=pR.mp e;(refine aQ X λa Z Y=>?_;clear X;subst Z);refine aQ (r.bK.obj k _ a W Y) λm V U=>?_;exact HZ a m rfl W V U Y (xW (r.bK.above a (j3 Y)))
theorem pX{K:Type}[jO K]{knd:PySem.KeyKind pw w K}{h:aM}{a:az}{m:aa (K×ao)}(W:h.DictOf knd a m):∃o,h.get? a=af o/\o.cls=.type "dict"/\o.dict=none/\∃Z Y,o.data=.dict Z Y:=by
 (refine mL W λo Z Y U V X T=>?_;clear W);exact lX o U V.1 V.2.1 (kZ Z Y X)
theorem J3{id:cj}{k:ah}{a:az}{tk:ah}(r:Rel w sc env σ ρ s)(Z:ρ[k]?=af a)(Y:P (.bm id k) σ):PV w sc env ρ s P (.ref s.heap.objs.size) {s with heap:=s.heap.push (JD id a),toks:=tk}:=(Way.push r (JD id a) tk).pv (RA.bm Z (b_ _ rfl) (ee r)) Y
theorem Bl{x:AV}{m:Mt}{name:ai}{Q:ao}(X:FN name m)(O:(["__module__","__name__","__qualname__","__doc__","__annotations__"]:aa ai).contains name=aC)(r:Rel w sc env σ ρ s)(h:Io σ.heap x m λv=>P v σ)(N:RA s.heap ρ x Q):aB (aE pw w) A (getAttr Q name aj) (PV w sc env ρ s P) b7 s:=by induction m using Mt.casesOn with
 |get=>induction x using AV.casesOn with |ref k=>
   (refine bq h λV U=>?_;clear h);refine aZ (Option.isSome_iff_exists.mp V) λl e=>?_;(refine EF (Bk r e N) λa m Y M W L T J=>?_;subst Y);refine m_ (pX W) λo S I R Z=>?_;exact tT X.2.1 X.2.2 De FU FW F.slot_dict_getattribute am_entry_dict_getattribute F.args_dict_getattribute_2 S I R (.inl Z) O (J3 r T U)|_=>exact h.elim
 |contains=>induction x using AV.casesOn with |ref k=>
   (refine bq h λV U=>?_;clear h);refine aZ (Option.isSome_iff_exists.mp V) λl e=>?_;(refine EE (set_inv r e N) λa o Y M S W T=>?_;subst Y);(refine xA W λH G t E hex Z D=>?_;clear W);exact tT X.2.1 X.2.2 told_set IF IG F.slot_set_getattribute F.entry_set_ga F.args_set_getattribute_2 S hex.1 hex.2.1 (.inr (EH H G t Z)) O (J3 r T U)|_=>exact h.elim
 |_=>exact h.elim
theorem Ev.bnd{o:aF}{name:ai}{m:Mt}{pos:a_}(R:baseOk o=aj)(Q:(["__module__","__name__","__qualname__","__doc__","__annotations__"]:aa ai).contains name=aC)(h:Ev K sc o σ λx Z=>FN name m/\Io Z.heap x m λv=>P v Z):Ev K sc (.Attribute o name pos) σ P:=λw A env ρ s O r=>by
 rw[arm_eval_Attribute,nU R name env];refine au (h.run O r λE U x Z V X=>bq X λN W Y M=>au (fm (au (bP (bk (Bl N Q Y.rel W M) (λv T S=>?_) λL L h=>h)))));refine au (wpAny_letTemporaryGo (aD ?_));(refine kY S λD σ' ρ' J I H G F=>?_;clear S);exact(Y.trans ⟨I,H,F⟩).pv G J
theorem Cv.bm{id:cj}{k:ah}{as:aa AV}(h:Sh id k as P σ):Cv K sc (.bm id k) as σ P:=by
 (refineλw A env ρ s hA r vf vs W=>mK W λa x V v S hn u=>?_;subst V);refine⟨λQ U=>?_,?_⟩;·unfold keeperOf;refine au (lJ S ?_);exact aD (U _)
 refine mH h (λO h=>?_) λp h=>mH h (λO h=>?_) λp h=>h.elim
 ·subst O;refine L7 h u λb c vb vc N M h=>uI h N λi t h=>uI h M λz t2 h=>jo h λl e h=>?_;(refine EF (Bk r e (RA.ref v)) λj m L g X J I H=>?_;cases L);refine m_ (pX X) λo Y M f Z=>?_;refine aQ sig_get λG D C=>?_;have B:Manifest.varargsMethods.contains "dict.get"=aC:=by have:=pW.2.2;rw[qc] at this;exact this.1
  have hr:R s.heap ρ (.int ((l.lookup i).getD z)) ((f5 m i).getD (.int z t2)):=by
   have q:=J.at_ (x:=i);cases n:l.lookup i with|none=>rw[n] at q;rw[q];exact⟨_,rfl⟩|some b=>rw[n] at q;refine aZ q λt3 q=>?_;rw[q];exact⟨_,rfl⟩
  refine Cs (b:=Builtin.«dict.get») S F.slot_dict_get.plain F.entry_dict_get (λA E Q U=>vJ (T:="dict") (id:="dict.get") D pW.1 B nV.1 nV.2.2.1 (C _ _ _) Y M (.inl Z) U) ?_;exact meets_dict_get_default (sL pw w) a (k:=i) (key:=.int i t) (by show (i==i)=aj;exact iT i) H (.int z t2) A _ s (aP _ X.mapOf (PV.here r (RA.d hr) h _))
 ·subst O;refine Cf h u λb vb N h=>uS h N λx t h=>jo h λl e h=>?_;(refine EE (set_inv r e (RA.ref v)) λj o L g Y X I=>?_;cases L);refine aQ sig_cont λG D C=>?_;have y:=X;(refine xA X λes ep tt l' hex Z p=>?_;clear X);have B:Manifest.varargsMethods.contains "set.__contains__"=aC:=by have:=pW.2.2;rw[qc] at this;exact this.2
  refine Cs (b:=Builtin.«frozenset.__contains__») S F.slot_set_contains.plain PySem.entry_set_contains (λA E Q U=>vJ (T:="set") (id:="set.__contains__") D pW.2.1 B nV.2.1 nV.2.2.2 (C _ _) Y hex.1 (.inr (EH es ep tt Z)) U) ?_;exact uX Y y (PV.here r (.d (.bool _)) h _)
end
section
variable{w:aG}{A:bg}{env:aV}{sc:aU}{ρ ρ':aa az}{s s':ay}{σ σ':AS}{K:ah}{P:AV->AS->Prop}
theorem RS.set{h:aM}{y:DV}{v:ao}(X:R h ρ y v):∀{l:aa DV}{vs:aa ao}(i:ah),RS h ρ l vs->RS h ρ (l.set i y) (vs.set i v):=by
 intro l;induction l with
 |nil=> intro _ i e;cases e;exact rfl|cons x l W=> intro S V;induction V using cJ with |zero=> intro U;obtain⟨u,r,e,Y,Z⟩:=U;exact⟨v,r,by rw[e];rfl,X,Z⟩|succ i=> intro T;obtain⟨u,r,e,Y,Z⟩:=T;exact⟨u,r.set i v,by rw[e];rfl,Y,W i Z⟩
theorem qR{l:az}{items:aK ao}{n:ah}{sl:aK (aA ao)}{i:aq}{t:Tok}{v:ao}{Q:Unit->ay->Prop}(W:s.heap.get? l=af (bS items n sl))(h0:-(items.size:aq)<=i)(T:i<items.size)(hsz:items.size<=bw)(L:∀(h':aM)(S:ah),h'.get? l=af (bS (items.setIfInBounds (if i<0 then i+items.size else i).toNat v) S sl)->fu l s.heap h'->Q () {s with heap:=h'}):aB (aE pw w) A (setItem (.ref l) (.int i t) v) Q b7 s:=by
 have R:=(bz W).typeIs (s:=s);have N:=sizeLine_eq;have V:Et i=aj:=by
  unfold Et;simp only[cu,decide_eq_true_eq];exact⟨bJ [_,_] [_] 1 [] [.g (.n (2^63)),W0,.g (.c V0),W0,.c V0,.c V1,.c V1,.c (.n 16777216)] rfl h0 (Qn hsz) (Qn (Qe N)),bJ [_,_] [_] 1 [] [.p W0 (.n 1),.n (2^63),.p W0 (.n 1),.c V0,.c V0,.c V1,.c V1,.c (.n 16777216)] rfl T (Qn hsz) (Qn (Qe N))⟩
 unfold setItem;try with_reducible refine bP ?_
 first|refine au (aD ?_)|skip
 refine au (wpAny_sequenceKey R (by decide) ?_);refine au (lI (name:=jM "__setitem__") R slot_list_setitem (dP slot_list_setitem R entry_list_setitem ?_ (args_list_setitem _ _ _)));show aB _ _ (Builtin.List.listSubscript? (.int i t)>>=_) _ _ s;refine au (wpAny_listSubscript_int V ?_);have Z:∀j:ah,j<items.size->j=(if i<0 then i+items.size else i).toNat->aB (aE pw w) A.in1 (setSeqItemAt l j v>>=λJ=>ret .none) (λZ s'=>∃v,Z=.done (.ret v)/\aB (aE pw w) A (aX (af v)>>=λJ=>aX ()) Q b7 s') b7 s:=by
  intro j Y e;refine au (wpAny_setSeqItemAt W rfl (aD (aP (.none) rfl (au (aD (aD ?_))))));refine aZ (sR (o:=bS items n sl) rfl (·.setIfInBounds j v)) λS U=>?_;refine L _ S ?_ (iP ..);rw[jb _ W (xq U)];have I:(bS items n sl).mapSeq (·.setIfInBounds j v)=⟨.type "list",none,((bS items n sl).mapSeq (·.setIfInBounds j v)).data,sl⟩:=rfl;rw[I,U,e];rfl
 by_cases X:i<0
 ·obtain⟨m,rfl⟩:∃m:ah,i=Int.negSucc m:=Int.eq_negSucc_of_lt_zero X;show aB _ _ ((kJ (.ref l)>>=λM=>aX ((oV (Int.negSucc m) M.size).bind λj=>M[j]?.map (j,·)))>>=_) _ _ s;refine au (au ?_);unfold kJ;refine au (fZ W rfl (aD (aD ?_)));rw[seqIndex_neg X h0];have Y:(Int.negSucc m+items.size).toNat<items.size:=by have:=FD h0 T;rwa [aW X] at this
  simp only[Option.bind_some,j_ Y,Option.map_some];exact Z _ Y (by rw[aW X])
 ·(refine aZ (Int.eq_ofNat_of_zero_le (by exact(Qd X):0<=i)) λj O=>?_;subst O);have Y:j<items.size:=by exact Qz (bJ [_,_] [] 1 [] [.c (.p V0 (.n 1)),.c V1,.p (.c V0) (.n 1),.c V1] rfl T)
  show aB _ _ ((seqItemAt l j>>=λr=>aX (r.map (j,·)))>>=_) _ _ s;refine au (au (wpAny_seqItemAt W rfl (aD ?_)));rw[j_ Y];exact Z j Y (by rw[aI X];rfl)
theorem uY{x y v:AV}{F E D:ao}{Q:AS->Prop}(r:Rel w sc env σ ρ s)(h:rK x y v Q σ)(C:RA s.heap ρ x F)(B:RA s.heap ρ y E)(S:RA s.heap ρ v D):aB (aE pw w) A (setItem F E D) (λp s'=>∃σ' ρ',Q σ'/\Way w sc env ρ s σ' ρ' s') b7 s:=by induction x using AV.casesOn with
 |ref k=>induction y using AV.casesOn with
  |d u=>induction u using DV.casesOn with
   |int i=>
    delta rK at h;dsimp only at h;(refine aZ B λt Z=>?_;clear B;subst Z);induction e:σ.heap[k]? using c9 with |none=>rw[e] at h;exact h.elim|some R=>induction R using AO.casesOn with
     |list l=>
      rw[e] at h;induction v using AV.casesOn with
      |d d=>
        (refine bq h λZ O=>cL Z λN j M=>?_;clear h);(refine eR (eg r.bK (bI.mpr e) C) λa items n g Z f o L=>?_;subst Z);have T:items.size=l.length:=by simpa using o.length
        refine qR f (by rw[T];exact N) (by rw[T];exact j) (by rw[T];exact M) λc n' V Y=>?_;rw[T] at V;have J:=Way.s6 (tk:=s.toks) (d:=s.drawn) r L e (λq=>nomatch q) (o':=.list (l.set (if i<0 then i+l.length else i).toNat d)) (λp q=>nomatch q) (λb R I X=>(Y.2 b I).trans X) (cA Y.1.symm) λH=>kO _ n' g V (by
         rw[Array.toList_setIfInBounds];exact RS.set (RA.mono H (x:=.d d) S) _ (o.mono H));exact cG _ _ O J|_=>exact h.elim
     |dI l=> rw[e] at h;induction v using AV.casesOn with
      |d v=>induction v using DV.casesOn with
       |int z=>
         (refine bq h λZ O=>bq Z λN M=>?_;clear h);(refine aZ S λu Z=>?_;clear S;subst Z);(refine EF (Bk r (pR.mpr e) C) λa m Z ho hd W L hns=>?_;subst Z);have G:f5 m i=none:=by have q:=W.at_ (x:=i);rw[N] at q;exact q
         refine wpAny_setItem_pairs (knd:=sL pw w) (k:=i) (by show (i==i)=aj;exact iT i) hd (λc U Y=>?_) (by rw[W.length];exact M);rw[stored_new G] at U;have J:=Way.s6 (tk:=s.toks+1) (d:=s.drawn) r L e (λq=>nomatch q) (o':=.dI (l++[(i,z)])) (λp q=>nomatch q) (λb R I X=>(Y.2 b I).trans X) (cA Y.1.symm) λH=>aP _ U W.snoc;exact cG _ _ O J|_=>exact h.elim
      |_=>exact h.elim
     |_=>rw[e] at h;exact h.elim
   |_=>exact h.elim
  |_=>exact h.elim
 |_=>exact h.elim
theorem As.sub{o i:aF}{pos:a_}{v:AV}{Q:AS->Prop}(h:Ev K sc o σ λx Z=>Ev K sc i Z λy Y=>rK x y v Q Y):As K sc (.Subscript o i pos) v σ Q:=λw A env ρ s L r z E=>by
 rw[assign_Subscript];refine au (bP (h.run L r λu J x Z N T X D=>?_));refine au (bP (T.run L X.rel λt I y Y M S W C=>?_));have H:=X.trans W;refine au (fm (au (bP (bk (uY W.rel S (D.mono (W.k8 X.rel)) C (E.mono (H.k8 r))) (λG F R=>cz R λV U B O=>?_) λG G h=>h))));exact wpAny_release (cG V U B (H.trans O))
theorem Bm{x y:AV}{R O:ao}{Q:AS->Prop}(r:Rel w sc env σ ρ s)(h:KY x y Q σ)(I:RA s.heap ρ x R)(H:RA s.heap ρ y O):aB (aE pw w) A (delItem R O) (λN s'=>∃σ' ρ',Q σ'/\Way w sc env ρ s σ' ρ' s') b7 s:=by
 refine uR h I λk a U h=>uS h H λx t h=>jo h λl e h=>bq h λZ G=>bq Z λM E=>?_;(refine sV (xY r e (.ref U)) λg o m Z D c V Y C B=>?_;cases Z);have z:m.length=l.length:=by rw[<-bB (f:=(·.1)) (as:=m),Y.keys,bB]
 have q:=Y.at_ (x:=x);refine wpAny_delItem_slot V.typeIs (by decide) F.slot_dict_delitem (dP F.slot_dict_delitem V.typeIs F.entry_dict_delitem ?_ (F.args_dict_delitem_2 _ _));unfold Builtin.«dict.__delitem__» Builtin.Dict.dictSlotArgs;refine au (au (wpAny_notOrdered_dict V.typeIs ?_));refine aD ?_;show aB _ _ (Builtin.Dict.takeOut a (.str x t)>>=_) _ _ s;refine au (wpAny_takeOut_pairs (knd:=kF pw w) (jT x t) V (λu=>?_) (λen h1 h3 h' X W=>?_) (by rw[z];exact E));·exfalso;cases L:l.lookup x with |none=>rw[L] at M;cases M|some b=>rw[L] at q;refine aQ q λv q N=>?_;rw[u] at q;cases q
 ·refine aZ (tR X) λJ T=>?_;refine au (m6 (aD (aP (.none) rfl ?_)));have n:=Way.s6 (tk:=s.toks+1) (d:=s.drawn) r C D (λq=>nomatch q) (o':=.dS (l.filter λp=>decide (p.1≠x)) J) (λN q=>nomatch q) (λb ob j S=>(W.2 b j).trans S) (cA W.1.symm) λi=>⟨T,_,X,(Y.mono i).without⟩;exact cG _ _ (G J) n
theorem Ex.del{o i:aF}{p pos:a_}{U:Fl->AS->Prop}(h:Ev K sc o σ λx Z=>Ev K sc i Z λy Y=>KY x y (λX=>U .next X) Y):Ex K sc (.Delete [.Subscript o i p] pos) σ U:=λw A env ρ s L r=>by
 refine wpAny_Delete (wpAny_deleteEach_cons (wpAny_delete_Subscript (h.run L r λC J x Z O T W F=>T.run L W.rel λB I y Y N S V E=>?_)));refine bk (Bm V.rel S (F.mono (V.k8 W.rel)) E) (λH G R=>cz R λX M D Q=>?_) λH H h=>h;exact wpAny_deleteEach_nil (((W.trans V).trans Q).pf (fl:=.next) trivial D)
end
section
set_option backward.match.sparseCases true
noncomputable def TG(gt:aH):CmpOp:=if gt then .Gt else .Lt
noncomputable def J4(gt:aH):aq:=if gt then 4 else 0
section
variable{w:aG}{A:bg}{env:aV}{sc:aU}{ρ ρ':aa az}{s s':ay}{σ σ':AS}{K:ah}{P:AV->AS->Prop}
theorem ny:∀{vs:aa ao}{l:aa ai},iG vs l->∀i:ah,match l[i]? with|some x=>∃t,vs[i]?=af (.str x t)|none=>vs[i]?=none
 |_,_,.nil,i=>rfl|_,_,.cons y t q,0=>⟨t,rfl⟩|_,_,.cons y t q,i+1=>ny q i
theorem IJ{x y:ai}{t u:Tok}{Q:aH->ay->Prop}{E:ao->ay->Prop}(h:Q (decide (x=y)) s):aB (aE pw w) A (eqBool (.str x t) (.str y u)) Q E s:=by
 have e:(x.cps.toList==y.cps.toList)=decide (x=y):=by
  by_cases q:x=y;·subst q;simp
  ·rw[gA q];exact fC λz=>q (Cr z)
 refine SeqRoads2.EqGives.str x y t u _ _ _ _ _ _ ?_;rw[e];exact h
theorem dR{B:bg}{E:ao->ay->Prop}{a:az}{items:aK ao}{n:ah}{sl:aK (aA ao)}{Q:aK ao->ay->Prop}(Z:s.heap.get? a=af (bS items n sl))(h:Q items s):aB (aE pw w) B (kJ (.ref a)) Q E s:=by
 unfold kJ;exact au (fZ Z rfl (aD h))
theorem IK{x y:ai}{t u:Tok}{Q:ao->ay->Prop}{E:ao->ay->Prop}(h:Q (.bool (x.cps.toList<y.cps.toList)) s):aB (aE pw w) A (qB .Lt (.str x t) (.str y u)) Q E s:=lt_str h
theorem IL{x y:ai}{t u:Tok}{Q:ao->ay->Prop}{E:ao->ay->Prop}(h:Q (.bool (y.cps.toList<x.cps.toList)) s):aB (aE pw w) A (qB .Gt (.str x t) (.str y u)) Q E s:=PySem.P.gt_str h
theorem FY(gt:aH){a b:az}{items Z:aK ao}{n E:ah}{sl L:aK (aA ao)}{l m:aa ai}{R:fk->ay->Prop}(T:s.heap.get? a=af (bS items n sl))(S:s.heap.get? b=af (bS Z E L))(I:iG items.toList l)(H:iG Z.toList m)(W:R (.ok (.ret (.bool (jm gt l m)))) s):∀(k i:ah),l.length-i=k->i<=l.length->i<=m.length->jm gt l m=jm gt (l.drop i) (m.drop i)->dw (aE pw w) A (.builtin "list.__eq__.loop" ⟨[.ref a,.ref b,cT i,cT (J4 gt)],[]⟩) R s:=by
 have G:items.size=l.length:=by have:=I.length;simpa using this
 have F:Z.size=m.length:=by have:=H.length;simpa using this
 have stop:∀i,i<=l.length->i<=m.length->(i=l.length\/i=m.length)->jm gt l m=jm gt (l.drop i) (m.drop i)->jm gt l m=if gt then decide (items.size>Z.size) else decide (items.size<Z.size):=by
  intro i Q O J e;rw[e,G,F];rcases J with rfl|rfl;·rw[dH (bf _)];cases q:m.drop l.length with |nil=> have:=List.drop_eq_nil_iff.mp q;cases gt<;>simp[jm,El]<;>assumption|cons y r=>
    have:l.length<m.length:=by
     rcases qn l.length m.length with h|h;·exact h
     ·rw[dH h] at q;cases q
    cases gt<;>simp[jm,El]<;>assumption
  ·rw[dH (bf m.length)];cases q:l.drop m.length with |nil=> have:=List.drop_eq_nil_iff.mp q;cases gt<;>simp[jm,El]<;>assumption|cons y r=>
    have:m.length<l.length:=by
     rcases qn m.length l.length with h|h;·exact h
     ·rw[dH h] at q;cases q
    cases gt<;>simp[jm,El]<;>assumption
 intro k;induction k with
 |zero=>
  intro i N Q O e;refine iK MeetsSeq3.entry_eq_loop ?_;rw[jL sP _];have X:items[i]?=none:=qb (Z4 [V0,V1,V0,V2,V3,.n 0,V2,.p V3 V1] rfl (Qe G) (Qe N) Q1);have st:=stop i Q O (.inl (Ac [V0,V1,.n 0,V2,.p V2 V0,V1] rfl (Eq.symm N) (eO (Q)))) e;cases gt;all_goals
   show aB _ _ (kJ (.ref a)>>=_) _ _ s;refine au (dR T ?_);refine au (dR S ?_);rw[dM,X];refine au (dR T ?_);refine au (dR S ?_);rw[st] at W;exact aD W|succ k D=>
  intro i N Q O e;refine iK MeetsSeq3.entry_eq_loop ?_;rw[jL sP _];have V:i<l.length:=by exact Z4 [.p V0 (.n 1),V1,.p V2 (.n 1),V3,.p V3 V0,V1] rfl (Qf N) (Q2 (Q))
  have X:=ny I i;rw[c7 V,fS] at X;refine aZ X λt X=>?_;by_cases Y:i<m.length
  ·have U:=ny H i;rw[c7 Y,fS] at U;refine aZ U λu U=>?_;have C:l.drop i=l[i]::l.drop (i+1):=e8 V;have B:m.drop i=m[i]::m.drop (i+1):=e8 Y;rw[C,B] at e;have z:((i:aq)+1)=((i+1:ah):aq):=by push_cast;rfl
   cases gt;all_goals
    show aB _ _ (kJ (.ref a)>>=_) _ _ s;refine au (dR T ?_);refine au (dR S ?_);rw[dM,X,U];refine au (IJ ?_);by_cases M:l[i]=m[i]
    ·rw[eF M];refine rwL (aW rfl) ?_;refine au (aD (aD ⟨iJ sP _,?_⟩));rw[z];refine D (i+1) (by rw[Nat.sub_succ,N];rfl) V Y ?_;rw[e];simp[jm,El,M]
    ·rw[gA M];refine rwL (aI cS) ?_;refine au (dR T ?_);refine au (dR S ?_);rw[X,U];rw[e] at W;simp only[jm,El,i5,↓m8,aI M,aI (Ne.symm M)] at W;refine au ?_;first |with_reducible refine IK ?_|with_reducible refine IL ?_
     exact aD W
  ·have U:Z[i]?=none:=qb (Z3 [V0,V1,V0,V2,V2,V1] rfl (Qe F) (Qb Y));have st:=stop i Q O (.inr (cY (O) ((Qb Y)))) e;cases gt;all_goals
    show aB _ _ (kJ (.ref a)>>=_) _ _ s;refine au (dR T ?_);refine au (dR S ?_);rw[dM,X,U];refine au (dR T ?_);refine au (dR S ?_);rw[st] at W;exact aD W
theorem rj(gt:aH){a b:az}{items Z:aK ao}{n S:ah}{sl W:aK (aA ao)}{l m:aa ai}{Q:ao->ay->Prop}{E:ao->ay->Prop}(V:A.units<gp)(U:s.heap.get? a=af (bS items n sl))(T:s.heap.get? b=af (bS Z S W))(R:iG items.toList l)(O:iG Z.toList m)(N:Q (.bool (jm gt l m)) s):aB (aE pw w) A (qB (TG gt) (.ref a) (.ref b)) Q E s:=by
 have Y:=(bz U).typeIs (s:=s);have X:=(bz T).typeIs (s:=s);have sub:d8 (.type "list") (.type "list")=aX aj:=by rw[fq];kernel_rfl
 have body:∀(A:bg),dw (aE pw w) A (.builtin "list.__eq__.loop" ⟨[.ref a,.ref b,cT (0:ah),cT (J4 gt)],[]⟩) (λr s'=>match r with|.ok (.ret v)=>v≠.notImplemented/\Q v s'|.ok _=>bG|.error e=>E e s') s:=λA=>FY gt U T R O ⟨(λe=>nomatch e),N⟩ _ 0 rfl (bW _) (bW _) rfl;induction gt using jx with
 |false=>
  refine wpAny_richCompare_same_room Y X F.slot_list_lt (gc (lN F.slot_list_lt.plain F.entry_list_lt (F.slot_list_lt.check _ _ _ _ _ _ _ _ Y (F.args_list_lt_2 _ _) ?_))) V;show aB _ _ (kH (.ref b) (.type "list")>>=_) _ _ s;refine au (jJ X sub ?_);exact aD ⟨iJ sP _,body _⟩|true=>
  refine wpAny_richCompare_same_room Y X F.slot_list_gt (gc (lN F.slot_list_gt.plain F.entry_list_gt (F.slot_list_gt.check _ _ _ _ _ _ _ _ Y (F.args_list_gt_2 _ _) ?_))) V;show aB _ _ (kH (.ref b) (.type "list")>>=_) _ _ s;refine au (jJ X sub ?_);exact aD ⟨iJ sP _,body _⟩
end
end
section
variable{w:aG}{A:bg}{env:aV}{sc:aU}{ρ ρ':aa az}{s s':ay}{σ σ':AS}{K:ah}{P:AV->AS->Prop}{I S aL:az}{h0:aM}
def L8(h:aM)(ρ:aa az)(v:ao)(l:aa ai):Prop:=R h ρ (.lst (l.map .str)) v
noncomputable def FZ(gt:aH):cj:=if gt then "max.loop" else "min.loop"
noncomputable def TH(gt:aH):lH:=if gt then Builtin.«max.loop» else Builtin.«min.loop»
theorem zg:∀gt,kG table (FZ gt)=af (TH gt)|true=>F.entry_max_loop|false=>F.entry_min_loop
theorem k_:∀gt,plainId (FZ gt)=aj|true=>F.plain_max_loop|false=>F.plain_min_loop
theorem lex_lt{a b:az}{items Z:aK ao}{n X:ah}{sl Y:aK (aA ao)}{l m:aa ai}{Q:ao->ay->Prop}{E:ao->ay->Prop}(W:A.units<gp)(V:s.heap.get? a=af (bS items n sl))(U:s.heap.get? b=af (bS Z X Y))(T:iG items.toList l)(R:iG Z.toList m)(O:Q (.bool (jm aC l m)) s):aB (aE pw w) A (qB .Lt (.ref a) (.ref b)) Q E s:=rj aC W V U T R O
theorem K5{a b:az}{items Z:aK ao}{n X:ah}{sl Y:aK (aA ao)}{l m:aa ai}{Q:ao->ay->Prop}{E:ao->ay->Prop}(W:A.units<gp)(V:s.heap.get? a=af (bS items n sl))(U:s.heap.get? b=af (bS Z X Y))(T:iG items.toList l)(R:iG Z.toList m)(O:Q (.bool (jm aj l m)) s):aB (aE pw w) A (qB .Gt (.ref a) (.ref b)) Q E s:=rj aj W V U T R O
theorem F0:(toString "min"++toString ".loop":cj)=FZ aC:=by decide
theorem F1:(toString "max"++toString ".loop":cj)=FZ aj:=by decide
theorem Bo(a b:ao):(#[a,b]).size<=bw:=by show 2<=bw;decide
theorem Ct(a b:ao):(#[a,b]).size<=bw+1:=jG (Bo a b)
theorem Nl(gt:aH){items:aK ao}{n:ah}{sl:aK (aA ao)}(f:A.handled=none)(r:A.units+1<gp)(a:h0.objs.size<=I)(hS:h0.objs.size<=S)(Q:I≠S)(hL:h0.get? aL=af (bS items n sl)){g:aK GenState}{d:Drawn}{os:dm}{R:fk->ay->Prop}:∀(ls:aa (aa ai))(i:ah)(h:aM)(tk:ah)(vb:ao)(b:aa ai)(c:ah),(∀j,match ls[j]? with|some l=>∃v,items[i+j]?=af v/\L8 h0 ρ v l|none=>items[i+j]?=none)->h.IsListIter I aL i->(∀x o,h0.get? x=af o->h.get? x=af o)->h.get? S=af {cls:=.type "list",dict:=none,data:=.seq #[vb,vb] c,slots:=#[]}->L8 h0 ρ vb b->(∀v h' y,L8 h0 ρ v (fD gt b ls)->(∀x o,h0.get? x=af o->h'.get? x=af o)->R (.ok (.ret v)) ⟨h',g,d,y,os⟩)->dw (aE pw w) A (.builtin (FZ gt) ⟨[.ref I,.none,.ref S],[]⟩) R ⟨h,g,d,tk,os⟩:=by
 intro ls;have X:∀h:aM,(∀x o,h0.get? x=af o->h.get? x=af o)->h.IsList aL items:=λh O=>bz (O _ _ hL);have zh:∀x o,h0.get? x=af o->x≠I:=λx o Z e=>aJ (b9 Z) (iZ (e▸a));have U:∀x o,h0.get? x=af o->x≠S:=λx o Z e=>aJ (b9 Z) (iZ (e▸hS));have q:∀args,(Code.builtin (FZ gt) args).quiet=aj:=iJ (k_ gt);have T:=zg gt;have H:∀args,A.under (.builtin (FZ gt) args)=A.in1:=λargs=>jL (k_ gt) args;induction ls with
 |nil=>
  intro i h tk vb b c W u O G z N;have M:=W 0;have M:items[i]?=none:=M;cases gt;all_goals
   refine iK T ?_;rw[H];show aB _ A.in1 (seqItems? (.ref S)>>=_) _ _ _;refine au (fZ G rfl ?_);show aB _ A.in1 (tryCatch (eX (.ref I)) _>>=_) _ _ _;refine au (o7 (kU (s:=⟨h,g,d,tk,os⟩) f u (X h O) M λh' p=>?_));have V:=p.keep S _ (Ne.symm Q) G;show aB _ A.in1 (oX S (λø=>#[])>>=_) _ _ _;refine au ?_;refine lK V rfl (hz:=Bo _ _) (_hz':=bW _) (au (m6 (aD ?_)));exact N vb _ tk z λx o Z=>(sO _ _ (Ne.symm (U x o Z))).trans (p.keep x o (zh x o Z) (O x o Z))|cons l ls m=>
  intro i h tk vb b c W u O G z N;refine aQ (W 0) λv M k=>?_;have M:items[i]?=af v:=M;(refine eR (id k) λav iv nv sv L F Ux E=>?_;subst L);(refine eR (id z) λab ib nb t L D hnb C=>?_;subst L);cases gt;all_goals
   refine iK T ?_;rw[H];show aB _ A.in1 (seqItems? (.ref S)>>=_) _ _ _;refine au (fZ G rfl ?_);show aB _ A.in1 (tryCatch (eX (.ref I)) _>>=_) _ _ _;refine au (o7 (wX (s:=⟨h,g,d,tk,os⟩) u (X h O) M λh' B t=>?_));have Y:∀x o,h0.get? x=af o->h'.get? x=af o:=λx o Z=>(t.2 x (zh x o Z)).trans (O x o Z);have V:=(t.2 S (Ne.symm Q)).trans G;refine au (aD ?_);dsimp only[wW];first|rw[F0]|rw[F1]
   refine au (o7 (bP (au ?_)));first |with_reducible refine lex_lt (s:=⟨h',g,d,tk,os⟩) (A:=A.in1) r (Y _ _ F) (Y _ _ D) (nq E) (nq C) ?_|with_reducible refine K5 (s:=⟨h',g,d,tk,os⟩) (A:=A.in1) r (Y _ _ F) (Y _ _ D) (nq E) (nq C) ?_
   refine au (bP (wZ ?_));refine au (m6 (aD ?_));unfold fD at N;split
   ·rename_i J;rw[aW J] at N;refine au ?_;refine lK V rfl (hz:=Bo _ _) (_hz':=Ct _ _) (au (m6 ?_));refine aD ⟨q _,m (i+1) _ tk _ _ _ (λj=>?_) (B.at λo e=>(sO _ _ (Ne.symm Q)).trans e) (λx o Z=>(sO _ _ (Ne.symm (U x o Z))).trans (Y x o Z)) (jb _ V rfl) k N⟩;have:=W (j+1);rw[show i+(j+1)=i+1+j from r_ i j 1] at this;exact this
   ·rename_i J;rw[aI J] at N;refine au (m6 ?_);refine aD ⟨q _,m (i+1) _ tk _ _ _ (λj=>?_) B Y V z N⟩;have:=W (j+1);rw[show i+(j+1)=i+1+j from r_ i j 1] at this;exact this
theorem F2(gt:aH){items:aK ao}{n:ah}{sl:aK (aA ao)}(D:A.handled=none)(C:A.units+1<gp)(J:h0.objs.size<=I)(H:h0.objs.size<=S)(Y:I≠S)(G:h0.get? aL=af (bS items n sl)){g:aK GenState}{d:Drawn}{os:dm}{R:fk->ay->Prop}{h:aM}{tk c:ah}{b:aa ai}{ls:aa (aa ai)}(W:∀j:ah,match(b::ls)[j]? with|some l=>∃v,items[j]?=af v/\L8 h0 ρ v l|none=>items[j]?=none)(hi:h.IsListIter I aL 0)(Q:∀x o,h0.get? x=af o->h.get? x=af o)(F:h.get? S=af {cls:=.type "list",dict:=none,data:=.seq #[] c,slots:=#[]})(B:∀v h' O,L8 h0 ρ v (fD gt b ls)->(∀x o,h0.get? x=af o->h'.get? x=af o)->R (.ok (.ret v)) ⟨h',g,d,O,os⟩):dw (aE pw w) A (.builtin (FZ gt) ⟨[.ref I,.none,.ref S],[]⟩) R ⟨h,g,d,tk,os⟩:=by
 have X:∀h:aM,(∀x o,h0.get? x=af o->h.get? x=af o)->h.IsList aL items:=λh Q=>bz (Q _ _ G);have zh:∀x o,h0.get? x=af o->x≠I:=λx o Z e=>aJ (b9 Z) (iZ (e▸J));have V:∀x o,h0.get? x=af o->x≠S:=λx o Z e=>aJ (b9 Z) (iZ (e▸H));have z:∀args,(Code.builtin (FZ gt) args).quiet=aj:=iJ (k_ gt);have U:=zg gt;have N:∀args,A.under (.builtin (FZ gt) args)=A.in1:=λargs=>jL (k_ gt) args;have go:=λi h tk vb y c=>Nl (w:=w) (A:=A) (ρ:=ρ) gt D C J H Y G (g:=g) (d:=d) (os:=os) (R:=R) ls i h tk vb y c;refine aQ (W 0) λv u t=>?_;cases gt;all_goals
  refine iK U ?_;rw[N];show aB _ A.in1 (seqItems? (.ref S)>>=_) _ _ _;refine au (fZ F rfl ?_);show aB _ A.in1 (tryCatch (eX (.ref I)) _>>=_) _ _ _;refine au (o7 (wX (s:=⟨h,g,d,tk,os⟩) hi (X h Q) u λh' M E=>?_));have L:∀x o,h0.get? x=af o->h'.get? x=af o:=λx o Z=>(E.2 x (zh x o Z)).trans (Q x o Z);have T:=(E.2 S (Ne.symm Y)).trans F;refine au (aD ?_);dsimp only[wW];first|rw[F0]|rw[F1]
  show aB _ A.in1 (oX S (λr=>#[v,v])>>=_) _ _ _;refine au ?_;refine lK T rfl (hz:=bW _) (_hz':=Ct _ _) ?_;refine aD ⟨z _,go (0+1) _ tk _ _ _ (λj=>?_) (M.at λo e=>(sO _ _ (Ne.symm Y)).trans e) (λx o Z=>(sO _ _ (Ne.symm (V x o Z))).trans (L x o Z)) (jb _ T rfl) t B⟩;have:=W (j+1);rw[show j+1=0+1+j by rw[eV,iE]] at this;rw[show (0+1+j)=j+1 by rw[eV,iE]] at this ⊢;exact this
theorem Nm{h:aM}:∀{ls:aa (aa ai)}{vs:aa ao},RS h ρ (ls.map λm=>.lst (m.map .str)) vs->∀j:ah,match ls[j]? with|some l=>∃v,vs[j]?=af v/\L8 h ρ v l|none=>vs[j]?=none:=by
 intro ls;induction ls with
 |nil=> intro _ e j;cases e;rfl|cons l ls W=> intro U Z V;induction V using cJ with |zero=> obtain⟨v,r,e,Y,X⟩:=Z;exact⟨v,by rw[e];rfl,Y⟩|succ j=> obtain⟨v,r,e,Y,X⟩:=Z;have:=W X j;subst e;exact this
theorem vK{gt:aH}{as:aa AV}(h:a1 as λx=>Qv gt x P σ):Cv K sc (.d (.con (.builtin (Qw gt)))) as σ P:=by
 rintro w A env ρ s W r t q rfl M;refine⟨Kp.builtin,?_⟩;refine Cf h M λx v L h=>uL h L λl a items n p T m J h=>cz h λb H Q G=>?_;subst Q;have Z:=Nm J;simp-iota only[fS] at Z;have V:A.units+1<gp:=by
  have:=W.units;have:gp=9900:=rfl;exact er (fh (br (dh _ _) W.units)) (by decide)
 have Y:∀(U:bg),U.handled=none->U.units+1<gp->∀(g:aK GenState) (d:Drawn) (os:dm) (O:ah),g=s.gens->d=s.drawn->os=s.os->dw (aE pw w) U (.builtin (FZ gt) ⟨[.ref s.heap.objs.size,.none,.ref (s.heap.objs.size+1)],[]⟩) (wants (λv s'=>s.heap.objs.size<=s'.heap.objs.size->PV w sc env ρ s P v s') b7) ⟨(s.heap.push {cls:=.type "list_iterator",data:=.fields #[.ref a,.int 0 0]}).push {cls:=.type "list",data:=.seq #[]},g,d,O,os⟩:=by
  intro U E V g d os O D C B;subst D C B;refine F2 (h0:=s.heap) (aL:=a) (ρ:=ρ) gt E V (bf _) (iD _) (b8 (jH _)) T (b:=b) (ls:=H) Z (cy _ (bZ _ (b_ _ rfl)) rfl rfl) (λx o z=>bZ _ (bZ _ z)) (c:=0) ?_ λv k y u N=>?_;·have:=b_ (h:=s.heap.push {cls:=.type "list_iterator",data:=.fields #[.ref a,.int 0 0]}) (o:={cls:=.type "list",data:=.seq #[]}) rfl;rw[dJ] at this;exact this
  ·intro X;exact(Way.all r N X rfl rfl).pv (RA.d ((show R s.heap ρ _ v from u).mono ((Way.all r N X rfl rfl).k8 r))) G
 refine ef ?_;cases gt
 ·refine call_function_tree F.kind_min F.plain_min F.entry_min (F.args_min1 _) ?_;show aB _ A.in1 (w5 "min" ["key","default"] 0 ⟨[],[]⟩>>=_) _ _ s;refine au (eB (show w5 "min" ["key","default"] 0 ⟨[],[]⟩=aX [none,none] from rfl) ?_);refine au (aD ?_);refine au (sF (bz T) ?_);refine au (eM ?_);rw[F0];rw[dJ];exact aD ⟨iJ (k_ aC) _,Y A W.handled V _ _ _ _ rfl rfl rfl⟩
 ·refine call_function_tree F.kind_max F.plain_max F.entry_max (F.args_max1 _) ?_;show aB _ A.in1 (w5 "max" ["key","default"] 0 ⟨[],[]⟩>>=_) _ _ s;refine au (eB (show w5 "max" ["key","default"] 0 ⟨[],[]⟩=aX [none,none] from rfl) ?_);refine au (aD ?_);refine au (sF (bz T) ?_);refine au (eM ?_);rw[F1];rw[dJ];exact aD ⟨iJ (k_ aj) _,Y A W.handled V _ _ _ _ rfl rfl rfl⟩
end
section
variable{w:aG}{A:bg}{env:aV}{sc:aU}{ρ ρ':aa az}{s s':ay}{σ σ':AS}{K:ah}{P:AV->AS->Prop}
theorem Bp{as:aa AV}(h:MV as P σ):Cv K sc (.d (.con (.builtin "isinstance"))) as σ P:=by
 rintro w A env ρ s V r U T rfl Z;refine⟨Kp.builtin,?_⟩;refine L7 h Z λa b v u Y X h=>uS h Y λx t h=>uC h X λc h=>?_;rw[h.1];refine call_isinstance_of ?_;have W:=PV.here r (.d (.bool aC)) h.2 (s.toks+1);obtain⟨S,g,d,R,os⟩:=s;exact isinstance_nested_false_str (by decide) (by first|rfl|kernel_rfl) (by rw[fq];kernel_rfl) W
noncomputable def mo(w:aG):aR:={cls:=.type "set",dict:=none,data:=.set #[] 0 (.fresh 0 0 (!w.params.followText "set-order"))}
theorem F3{R:fk->ay->Prop}(h:R (.ok (.ret (.ref s.heap.objs.size))) {s with heap:=s.heap.push (mo w)}):dw (aE pw w) A (.call (.builtin "set.__new__") ⟨[.type "set"],[]⟩) R s:=by
 refine o6 ?_;show aB _ A.in1 (sI "set.__new__" ⟨[.type "set"],[]⟩>>=λY=>again (.builtin "set.__new__" ⟨[.type "set"],[]⟩)) _ _ s;refine au (eB PySem.F.newCall_set_0 (aD ⟨iJ PySem.F.plain_set_new _,iK PySem.F.entry_set_new ?_⟩));rw[jL PySem.F.plain_set_new _];unfold Builtin.«set.__new__» Builtin.Frozenset.newClass;have Z:=sub_set_self;obtain⟨X,g,d,W,os⟩:=s;dsimp only;wp_walk;refine qz (aD ?_);dsimp only;rw[newObj];exact au (wpAny_alloc (aD (aD h)))
theorem zj{Q:ao->ay->Prop}(h:Q (.ref s.heap.objs.size) {s with heap:=s.heap.push (mo w)}):aB (aE pw w) A (dW (.type "set") []) Q b7 s:=by
 refine lW PySem.F.called_set.mro λc I T=>?_;have V:=PySem.F.called_set.made;have S:=PySem.F.called_set.sub;have H:=PySem.F.called_set.notType;have G:=PySem.F.called_set.canCreate;have O:=PySem.F.typeCall_set_0;have N:(s.heap.push (mo w)).get? s.heap.objs.size=af (mo w):=b_ _ rfl;have M:xr {s with heap:=s.heap.push (mo w)} (.ref s.heap.objs.size) "set":=aP _ N rfl;have L:=PySem.F.called_set.init.lookup;have J:=PySem.F.called_set.init.bind (.ref s.heap.objs.size);refine gc (o6 ?_);show aB _ _ (callAny (.type "set") _) _ _ _;refine aD ⟨Code.quiet_builtin _ (by decide+kernel),iK PySem.F.entry_type_call ?_⟩;rw[Around.under_plain (weight_type_call_type "set" [] []) rfl];repeat (any_goals (first|assumption|wp_step))
 refine F3 ?_;repeat (any_goals (first|assumption|wp_step))
 refine codeAny_mono (lN (R:=wants (λr Y=>r=.none/\Q (.ref s.heap.objs.size) Y) b7) PySem.F.called_set.init.plain PySem.F.entry_set_init (check_set_init M ?_)) λW Y Z=>?_;·unfold Builtin.«set.__init__» noKeywords;wp_walk;exact⟨rfl,h⟩
 ·induction W using Except.casesOn with |error e=>exact Z|ok X=>induction X using fR with
   |ret r=>
    (refine bq Z λU E=>?_;clear Z;subst U);repeat (any_goals (first|assumption|wp_step))|_=>exact Z.elim
theorem uZ{as:aa AV}(h:Ce as P σ):Cv K sc (.d (.con (.type "set"))) as σ P:=by
 rintro w A env ρ s V r U T rfl Z;refine⟨Kp.type,?_⟩;refine M8 h Z λh=>?_;have Y:((!w.params.followText "set-order")=aj\/w.params.followText "set-order"=aj):=by cases w.params.followText "set-order"<;>simp
 refine zj ?_;have X:=Way.new r (o:=.set [] (mo w)) (ob:=mo w) (λS q=>nomatch q) (λR W=>⟨W,#[],0,_,[],⟨rfl,rfl,rfl⟩,rfl,rfl,.nil,rfl,by decide,Y,.inr (bW _)⟩) rfl s.toks;refine X.pv (RA.ref ?_) (h _);show (ρ++[s.heap.objs.size])[σ.heap.length]?=_;rw[<-r.bK.len,jh (bf _),cB];rfl
end
section
variable{w:aG}{A:bg}{env:aV}{sc:aU}{ρ ρ':aa az}{s s':ay}{σ σ':AS}{K:ah}{P:AV->AS->Prop}
theorem qS:plainId "issubclass.nested"=aj:=by decide+kernel
theorem qT:sI "issubclass.nested" ⟨[.type "str",.type "str",cT (0+1)],[]⟩=aX ():=by first|rfl|kernel_rfl
theorem Bq{as:aa AV}(h:MT as P σ):Cv K sc (.d (.con (.builtin "issubclass"))) as σ P:=by
 rintro w A env ρ s B r z y rfl R;refine⟨Kp.builtin,?_⟩;refine L7 h R λa b v u O N h=>uC h O λc h=>uT h N λl a items n T x S h=>?_;rw[h.1.1];rw[h.1.2] at S;(refine cU S λM L J W Y=>cU Y λI L H V G=>?_;clear Y);cases (W:M=_);cases (V:I=_);cases (G:_=[]);subst H;have E:items=#[.type "str",.type "bytes"]:=by rw[<-J]
 subst E;have U:s.TypeIs (.ref a) "tuple":=aP _ T rfl;have X:d8 (.type "tuple") (.type "tuple")=aX aj:=by rw[fq];kernel_rfl
 have D:fP (.type "str")=aX (.type "type"):=by first|rfl|kernel_rfl
 have Z:d8 (.type "str") (.type "str")=aX aj:=by rw[fq];kernel_rfl
 refine call_function_tree F.kind_issubclass F.plain_issubclass F.entry_issubclass (F.args_issubclass_2 _ _) (issubclass_outer ?_);unfold Builtin.«issubclass.nested»;refine au (m:=fP (.ref a)) (lM U ?_);rw[aI (by decide)];unfold Builtin.Builtins.unionMembers;refine au (au (lM U ?_));rw[aI (by decide)];refine aD ?_;refine au (jJ U X ?_);refine rwL (aW rfl) ?_;rw[aI (by decide)];refine au (fZ T rfl ?_);have inner:∀(Q:ao->ay->Prop),Q (.bool aj) s->aB (aE pw w) A.in1 (dW (.builtin "issubclass.nested") [.type "str",.type "str",cT (0+1)]) Q b7 s:=λQ C=>by
  refine gc (lN qS F.entry_issubclass_nested ?_);refine eB (a:=()) qT ?_;unfold Builtin.«issubclass.nested»;refine au (eB D ?_);rw[aW (by decide)];refine au (m:=d8 (.type "str") (.type "str")) (eB Z ?_);exact aD C
 refine au ?_;rw[<-An];rw[wW,rY];refine au (au (inner _ ?_));refine au (wZ ?_);refine rwL (aW rfl) ?_;refine au (aD (aD ?_));refine aD ?_;exact aD (PV.same r (.d (.bool aj)) h.2)
end
theorem IM(w:aG):(Hf w.params).nsMap 241 "__init__"=af (.ref 160):=by kernel_rfl!
theorem F4(w:aG):∃o,(Hf w.params).get? 160=af o/\o.cls=.type "function":=tE (by kernel_rfl!)
section
variable{w:aG}{A:bg}{env:aV}{sc:aU}{ρ ρ':aa az}{s s':ay}{σ σ':AS}{K:ah}{P:AV->AS->Prop}
theorem Df{as:aa AV}(h:Si (FJ K) as P σ):Cv K sc (.d (.con (.ref 242))) as σ P:=by induction K using cJ with|zero=>exact h.elim|succ K=>
 rintro w A env ρ s f r vf C rfl ha;refine aQ (F4 w) λof hof L=>?_;have B:=xP r;have J:=Cn r;have I:mroOf (.type "object")=aX [.type "object"]:=by kernel_rfl
 have hlk:d7 (.type "object") "__init__"=aX (af (.builtin "object.__init__")):=by rw[fX,fY];kernel_rfl
 refine⟨λQ hQ=>?_,?_⟩
 ·unfold keeperOf;refine au (lJ B ?_);show aB _ _ (specialOf (.ref 242) "__call__">>=_) _ _ _;refine au (gY (T:="type") (aP _ B rfl) tc_lookup ?_);exact aD (hQ _)
 obtain⟨Z,g,d,tk,os⟩:=s;have hI:Looks (aE pw w) Z (d7 (.ref 242) "__init__") (af (.ref 160)):=λA Q E s' k q=>by
  have hn':s'.heap.Ns 241 ((Hf w.params).nsMap 241):=Ns.keep J (λo=>k _ o);refine wpAny_typeLookup_exc (k _ _ B) hn' I hlk ?_;rw[IM];exact q
 have R:∀self,Looks (aE pw w) Z (bindSpecial (.ref 160) self) (.ref 160,[self]):=λself A Q E s' k q=>by
  unfold bindSpecial;refine au (lM (T:="function") (aP _ (k _ _ (r.top _ _ hof)) L) ?_);rw[aW (by decide)];exact aD q
 have X:Frag.In [(242,QC w)] Z:=λa o e=>by
  rw[iA] at e;split at e;·rename_i q;cases e;have:=eL q;subst this;exact B
  ·cases e
 have Y:Makes (aE pw w) Z 242:=makes_of X (by first|rfl|kernel_rfl);refine gc (make_core Y hI R (.inl (by rfl)) ?_);have M:∀(o1 o2:aR),((Z.push o1).push o2).objs.size=Z.objs.size+2:=λo1 o2=>by rw[dJ,dJ]
 have z:((Z.push iQ).push (iS 242 Z.objs.size)).get? (Z.objs.size+1)=af (iS 242 Z.objs.size):=by
  have:=b_ (h:=Z.push iQ) (o:=iS 242 Z.objs.size) rfl;rw[dJ] at this;exact this
 have hd:((Z.push iQ).push (iS 242 Z.objs.size)).get? Z.objs.size=af iQ:=bZ _ (b_ _ rfl);have keep:∀b o,Z.get? b=af o->((Z.push iQ).push (iS 242 Z.objs.size)).get? b=af o:=λb o e=>bZ _ (bZ _ e);have old:∀a∈ρ,a<Z.objs.size:=λa ha=>r.bK.old ha;have fz:mQ Z ρ ((Z.push iQ).push (iS 242 Z.objs.size)) (ρ++[Z.objs.size+1,Z.objs.size]):=by
  refine⟨λa ob hg H J=>⟨keep _ _ hg,λhm=>?_⟩,λk a hk=>by rw[m9 (gi hk).1];exact hk⟩;have:=b9 hg;rcases d9 hm with hm|hm;·exact J hm
  ·simp at hm;rcases hm with rfl|rfl;·exact aJ this (iZ (iD _))
   ·exact aJ this (dX _)
 have len:=r.bK.len;have G:gv w (σ.heap++[.inst (bN 10 none),.C0]) ((Z.push iQ).push (iS 242 Z.objs.size)) (ρ++[Z.objs.size+1,Z.objs.size]):=by
  refine⟨by simp[len],?_,λa ha=>?_,λi l W=>?_,λi o a V U=>?_⟩
  ·rw[List.nodup_append];refine⟨r.bK.nodup,by simp,λa ha b R=>?_⟩;have:=old a ha;simp at R;rcases R with rfl|rfl;·exact b8 (Nat.lt_succ_of_lt this)
   ·exact b8 this
  ·rcases d9 ha with ha|ha;·exact r.bK.above a ha
   ·have O:449<=Z.objs.size:=r.size;simp at ha;rcases ha with rfl|rfl;·exact jG O
    ·exact O
  ·by_cases N:i<σ.heap.length;·rw[m9 N] at W;have q:=r.bK.own i l W;rw[m9 (gi q).1];exact q
   ·rw[jh ((Qb N))] at W;rw[jh (by exact Z2 [V0,.p V1 (.n 1),V0,V1] rfl (Qb N))];have QG:i-σ.heap.length=0:=by
     rcases qn 0 (i-σ.heap.length) with h|h
     ·exfalso;obtain⟨j,y⟩:∃j,i-σ.heap.length=j+1:=⟨i-σ.heap.length-1,lZ [V0,.p V1 (.n 1),V0,.p V1 (.n 1)] rfl (Eq.symm (eO (Z1 [.n 1,V0,.p (.n 0) (.n 1),V0] rfl h)))⟩;rw[y] at W;induction j using cJ with |zero=>cases W|succ j=>cases W
     ·exact cY (h) (Z1 [.n 0,V0] rfl)
    rw[show i+1-σ.heap.length=1 by exact vh [V0,.n 1,V1,.n 0,.p V0 V2,.p V3 (.n 1),V3,.p V1 V2] rfl QG (eO (Z2 [V0,.p V1 (.n 1),V0,V1] rfl (Qb N))) (Eq.symm (eO ((Qb N))))];rfl
  ·by_cases W:i<σ.heap.length;·rw[m9 W] at V;rw[m9 (len▸W)] at U;exact(r.bK.obj i o a V U).mono fz (λx=>keep _ _) λH H dx H x=>keep _ _
   ·rw[jh ((Qb W))] at V;rw[jh (by exact Z3 [V0,V1,V0,V2,V2,V1] rfl (Qe len) (Qb W))] at U;rw[len] at U;obtain⟨j,y⟩:∃j,i-σ.heap.length=j:=⟨_,rfl⟩;rw[y] at V U;match j,V,U with
    |0,V,U=>
     cases V;cases U;have hij:i=σ.heap.length:=by exact Ac [V0,V1,V2,.n 0,V0,.p V2 V1] rfl y (Eq.symm (eO ((Qb W))))
     subst hij;refine EJ Z.objs.size (λH=>none) _ (lX _ z rfl (λc=>by simp) (.inr (cy Z.objs.size rfl (b8 (jH _)) (Heap.Ns1.of_empty (rC _ (#[]) _ hd rfl (λe he=>aJ he (by simp)) (λH=>rfl)))))) z rfl ?_ (λx z=>aJ rfl z) (by simp) (λi x W=>?_)
     ·rw[jh (by exact Z2 [V0,.p V1 (.n 1),V0,V1] rfl (Qe len)),len];rw[show σ.heap.length+1-σ.heap.length=1 by exact lZ [V0,.n 1,.p V0 V1,.p V1 (.n 1)] rfl (eO (Z1 [V0,.p V0 (.n 1)] rfl))];rfl
     ·by_cases F:i<10;·rw[List.getElem?_replicate_of_lt F]
      ·rw[rU (by simpa using F)]|1,V,U=>cases V;cases U;exact⟨_,hd⟩|j+2,V,U=>cases V
 have ak:c5 K (A.under (.builtin "type.__call__" ⟨.ref 242::C,[]⟩)):=by
  have e1:(A.under (.builtin "type.__call__" ⟨.ref 242::C,[]⟩)).depth=A.depth+1:=rfl;have e2:(A.under (.builtin "type.__call__" ⟨.ref 242::C,[]⟩)).units=A.units+1:=rfl;exact⟨by rw[e1];have:=f.depth;exact Z2 [.p (.p V0 (.n 1)) V1,.n 400,.p V0 (.p V1 (.n 1)),.n 400] rfl this,by rw[e2];have:=f.units;exact Z2 [.p (.p V0 (.n 1)) (.m 8 V1),.n 4000,.p V0 (.m 8 (.p V1 (.n 1))),.n 4000] rfl this,f.handled⟩
 have pre:AZ w (σ.heap++[.inst (bN 10 none),.C0]) (ρ++[Z.objs.size+1,Z.objs.size]) ⟨(Z.push iQ).push (iS 242 Z.objs.size),g,d,tk,os⟩:=⟨λb o R=>keep _ _ (r.top b o R),by show 449<=((Z.push iQ).push (iS 242 Z.objs.size)).objs.size;rw[M];have:449<=Z.objs.size:=r.size;exact Z1 [.n 449,.p V0 (.n 2),.n 449,V0] rfl this,G⟩;have rk:(ρ++[Z.objs.size+1,Z.objs.size])[σ.heap.length]?=af (Z.objs.size+1):=by rw[jh ((Qe len)),len,cB];rfl
 refine codeAny_mono (h w _ _ _ ak pre (.ref (Z.objs.size+1)::C) (bM _ _ rfl (RA.ref rk) (ha.mono fz))) λres s' u=>?_;induction res using Except.casesOn with |error e=>exact u.elim|ok fl=>induction fl using fR with
  |ret v=>
   (refine kY u λav H' ρ' S t hr' hv st=>bq S λK6 TJ=>?_;clear u;subst K6);refine⟨hv,?_⟩;have way:Way w sc env ρ ⟨Z,g,d,tk,os⟩ {σ with heap:=H'} ρ' s':=by
    (refine aQ t λl S N=>?_;clear t;subst S);refine Way.called r (aP ([Z.objs.size+1,Z.objs.size]++l) (by rw[bV]) (λa ha=>?_)) hr' ⟨λb o R J=>?_,?_,st.gens,st.os⟩
    ·rcases d9 ha with ha|ha
     ·simp at ha;show Z.objs.size<=a;rcases ha with rfl|rfl;·exact iD _
      ·exact bf _
     ·have:=N a ha;have e:=M iQ (iS 242 Z.objs.size);show Z.objs.size<=a;have:((Z.push iQ).push (iS 242 Z.objs.size)).objs.size<=a:=this;exact br (dh _ 2) (br (cA e.symm) this)
    ·refine st.keep b o (keep _ _ R) λhm=>?_;have D:b<Z.objs.size:=b9 R;rcases d9 hm with hm|hm;·exact J hm
     ·simp at hm;rcases hm with rfl|rfl;·exact aJ D (iZ (iD _))
      ·exact aJ D (dX _)
    ·have q:=st.size;have e:=M iQ (iS 242 Z.objs.size);show Z.objs.size<=s'.heap.objs.size;have:((Z.push iQ).push (iS 242 Z.objs.size)).objs.size<=s'.heap.objs.size:=q;exact br (dh _ 2) (br (cA e.symm) this)
   refine way.pv (RA.ref ?_) TJ;(refine aQ t λl S N=>?_;clear t;subst S);rw[m9 (gi rk).1];exact rk|_=>exact u.elim
end
noncomputable def kM(P:ez):Frag:=[135,134,136,91,2,82,89].filterMap λa=>((Hf P).get? a).map λo=>(a,o)
theorem Cu{P:ez}{a:az}{o:aR}(h:(kM P).lookup a=af o):(Hf P).get? a=af o:=by
 unfold kM at h;generalize ([135,134,136,91,2,82,89]:aa az)=l at h;induction l with |nil=>cases h|cons b l Z=> rw[Av] at h;cases e:(Hf P).get? b with|none=>rw[e] at h;exact Z h|some Y=>
   rw[e] at h;dsimp only[Option.map_some] at h;rw[iA] at h;split at h;·rename_i q;cases h;rw[eL q];exact e
   ·exact Z h
theorem tU{w:aG}{h:aM}(t:k6 w h):(kM w.params).In h:=λa o e=>t a o (Cu e)
theorem TL(w:aG):peek (kM w.params) ⟨pw,w.params⟩ (mroOf (.ref 135))=af [.ref 135,.type "tuple",.type "object"]:=by kernel_rfl!
theorem Sn(w:aG):peek (kM w.params) ⟨pw,w.params⟩ (Bind.madeBy (.ref 135))=af none:=by kernel_rfl!
theorem So(w:aG):peek (kM w.params) ⟨pw,w.params⟩ (d8 (.ref 135) (.type "tuple"))=af aj:=by kernel_rfl!
theorem TM(w:aG):peek (kM w.params) ⟨pw,w.params⟩ (PySem.isType (.ref 135))=af aj:=by kernel_rfl!
theorem TN(w:aG):peek (kM w.params) ⟨pw,w.params⟩ (Bind.madeHere "tuple.__new__" (.ref 135))=af ():=by kernel_rfl!
theorem QJ(w:aG):peek (kM w.params) ⟨pw,w.params⟩ (d7 (.ref 135) "__init__")=af (af (.builtin "object.__init__")):=by kernel_rfl!
theorem Sp(w:aG):readsIn (kM w.params) 135 (.type "type")=aj:=by kernel_rfl!
theorem TP(w:aG):findCls (kM w.params) (.ref 135) (.type "type") "__new__"=af (.get (.builtin "staticmethod.__get__") (.ref 136) .none (.ref 135)):=by kernel_rfl!
theorem TQ(w:aG):findCls (kM w.params) (.ref 135) (.type "type") "_make"=af (.get (.builtin "classmethod.__get__") (.ref 91) .none (.ref 135)):=by kernel_rfl!
theorem QK(w:aG):recIn (kM w.params) 136 "staticmethod"=af (.ref 82::((recIn (kM w.params) 136 "staticmethod").getD []).tail):=by kernel_rfl!
theorem QL(w:aG):recIn (kM w.params) 91 "classmethod"=af (.ref 89::((recIn (kM w.params) 91 "classmethod").getD []).tail):=by kernel_rfl!
theorem pB:plainId "tuple.__new__"=aj:=by decide+kernel
theorem QM(w:aG):peek (kM w.params) ⟨pw,w.params⟩ (classHasDel 135)=af aC:=by kernel_rfl!
theorem QN(w:aG)(x:ao):peek (kM w.params) ⟨pw,w.params⟩ (sI "tuple.__new__" ⟨[.ref 135,x],[]⟩)=af ():=by kernel_rfl!
section
variable{w:aG}{A:bg}{env:aV}{sc:aU}{ρ ρ':aa az}{s s':ay}{σ σ':AS}{K:ah}{P:AV->AS->Prop}
theorem Dg{Y:az}{items:aK ao}{n:ah}{Q:ao->ay->Prop}(X:(kM w.params).In s.heap)(T:s.heap.get? Y=af (jj items n))(hsz:items.size<=bw)(S:∀h' x R,(∀b o,s.heap.get? b=af o->h'.get? b=af o)->s.heap.objs.size<=x->h'.get? x=af (qJ items 0 (af R))->Q (.ref x) {s with heap:=h'}):aB (aE pw w) A (dW (.builtin "tuple.__new__") [.ref 135,.ref Y]) Q b7 s:=by
 have L:∀{V:Type}{t:Sem V}{r:V}(e:peek (kM w.params) ⟨pw,w.params⟩ t=af r),Looks (aE pw w) s.heap t r:=λe=>qD X e;refine gc (lN pB F.entry_tuple_new ?_);refine(L (QN w _)).here ?_;unfold Builtin.«tuple.__new__»;refine au ((L (TM w)).here ?_);refine rwL (aI cS) ?_;refine au ((L (So w)).here ?_);refine rwL (aI cS) ?_;refine au ((L (TN w)).here ?_);refine au ((L (QJ w)).here ?_);simp only[iT,↓m8];refine au (eB (a:=()) (by rfl) ?_);refine au (eB (a:=()) (by rfl) ?_);rw[aI (by decide)];refine au (ef (wpAny_collect_seq Y (.inr rfl) T rfl rfl (λW O Z=>?_) hsz));have Z:s.heap.objs.size<=W.objs.size:=Z;refine au (aD ?_);refine au (wpAny_alloc ?_);refine au (m:=newObj _ _ _) ?_;unfold newObj;have e:items.toList.toArray=items:=rfl;rw[e];dsimp only;rw[aI (iZ hsz)];unfold newObjAsIs;refine au (wpAny_alloc ?_);dsimp only;have U:∀b o,s.heap.get? b=af o->((W.push {cls:=.type "dict",data:=.dict #[]}).push (qJ items 0 (af W.objs.size))).get? b=af o:=λb o h=>bZ _ (bZ _ (O b o h));refine au (((L (QM w)).keeps U).at ?_);refine rwL (aI cS) ?_;refine aD (aD ?_);refine S _ _ _ U ?_ (b_ _ rfl);rw[dJ];exact jG Z
theorem zk{as:aa AV}(h:Ft as P σ):∀(w:aG)(A:bg)(env:aV)(ρ:aa az)(s:ay),c5 K A->Rel w sc env σ ρ s->∀vs,jQ s.heap ρ as vs->aB (aE pw w) A (dW (.builtin "tuple.__new__") vs) (PV w sc env ρ s P) b7 s:=by
 intro w A env ρ s F r vs U;(refine L7 h U λa b v u T S h=>uC h T λc h=>uT h S λl a items n Q E W h=>bq h λZ O=>bq Z λY N=>?_;clear Z);rw[Y];have M:items.size=_:=W.length;refine ef (Dg (tU r.top) Q (by rw[M];exact N) λL x D J I X H=>?_);have V:=Way.all r (s':={s with heap:=L}) J H rfl rfl;exact V.pv (RA.d (R.qI X (λG=>dX _ (dg (r.bK.old G) I)) (W.mono (V.k8 r)))) O
end
noncomputable def Nn(x:aA aR):aH:=x.elim aC λo=>decide (o.cls=.type "type")&&fT o.data.ctorIdx 8
theorem Br{x:aA aR}(h:Nn x=aj):∃o Z,x=af o/\o.cls=.type "type"/\o.data=.cls Z:=by induction x using c9 with |none=>exact ft h|some o=> have h:=qE h;exact Data.cls.elim (motive:=λd=>o.data=d->∃Y Z,af o=af Y/\Y.cls=.type "type"/\Y.data=.cls Z) o.data (oQ h.2) (λc e=>bM o c rfl (b3 h.1) e) rfl
theorem Dh(w:aG):∃o Z,(Hf w.params).get? 135=af o/\o.cls=.type "type"/\o.data=.cls Z:=Br (by kernel_rfl!)
theorem QO(w:aG):peek (kM w.params) ⟨pw,w.params⟩ (kH (.ref 135) (.type "type"))=af aj:=by kernel_rfl!
theorem QS(w:aG):peek (kM w.params) ⟨pw,w.params⟩ (d8 (.ref 135) (.ref 135))=af aj:=by kernel_rfl!
theorem QT(w:aG):peek (kM w.params) ⟨pw,w.params⟩ (d8 (.ref 135) (.type "object"))=af aj:=by kernel_rfl!
theorem F5(a b c d:ao):iI "object.__init__" ⟨[a,b,c,d],[]⟩:=by unfold iI;kernel_rfl
section
variable{w:aG}{A:bg}{env:aV}{sc:aU}{ρ ρ':aa az}{s s':ay}{σ σ':AS}{K:ah}{P:AV->AS->Prop}
theorem F6{x:az}{items:aK ao}{n:ah}{d:aA az}{a b c:ao}{E:ao->ay->Prop}{Q:ao->ay->Prop}(X:(kM w.params).In s.heap)(Y:s.heap.get? x=af (qJ items n d))(V:Q .none s):aB (aE pw w) A (dW (.builtin "object.__init__") [.ref x,a,b,c]) Q E s:=by
 have L:∀{W:Type}{t:Sem W}{r:W}(e:peek (kM w.params) ⟨pw,w.params⟩ t=af r),Looks (aE pw w) s.heap t r:=λe=>qD X e;have lt:∀{A:bg}{E:ao->ay->Prop}{Q:ao->ay->Prop},Q (.ref 135) s->aB (aE pw w) A (fP (.ref x)) Q E s:=λh=>by
  unfold fP;exact au (o5 Y (aD h))
 refine gc (lN oi_plain entry_oi ?_);have Z:Looks (aE pw w) s.heap (kH (.ref x) (.type "object")) aj:=λA Q E s' k q=>by
  unfold kH;refine au ?_;unfold fP;refine au (o5 (k _ _ Y) (aD ?_));exact((L (QT w)).keeps k).here q
 refine check_slot oi_kind oi_split Z (F5 _ _ _ _) ?_;unfold Builtin.«object.__init__»;dsimp only;rw[aW (by rfl)];refine au (lt ?_);refine au ((L (QJ w)).here ?_);refine au ((L (Sn w)).here ?_);refine rwL (aI cS) ?_;rw[aI (by decide)];exact aD V
theorem pY{α:Type}{l:aa α}{n:ah}(h:l.length=n+1):∃a r,l=a::r/\r.length=n:=by induction l using aO with|nil=>exact nomatch h|cons a r=>exact cG a r rfl (wU h)
theorem Bs{as:aa AV}(h:MW (FJ K) as P σ):Cv K sc (.d (.con (.ref 135))) as σ P:=by induction K using cJ with|zero=>exact h.2.elim|succ K=>
 refine bq h λk h=>?_;rintro w A env ρ s O r vf G rfl F;refine cU (Dh w) λj cd N V U=>?_;have R:=r.top _ _ N;obtain⟨cc,dd,i,sl⟩:=j;simp only at V U;subst V U;have X:=tU r.top;have L:∀{S:Type}{t:Sem S}{r:S}(e:peek (kM w.params) ⟨pw,w.params⟩ t=af r),Looks (aE pw w) s.heap t r:=λe=>qD X e;refine⟨λQ g=>?_,?_⟩
 ·unfold keeperOf;refine au (lJ R ?_);dsimp only;refine au (gY (T:="type") (aP _ R rfl) tc_lookup ?_);exact aD (g _)
 have M:G.length=3:=F.length.trans k;obtain⟨Y,vb,vc,rfl⟩:∃Y vb vc,G=[Y,vb,vc]:=by exact cz (pY M) λa r e h=>cz (pY h) λb r' f h=>cz (pY h) λc r'' J h=>EH a b c (by rw[e,f,J,wz h])
 refine gc (o6 ?_);show aB _ _ (callAny (.ref 135) _) _ _ _;refine nd_load R ?_;show aB _ _ (callAny.viaDunder (.ref 135) _) _ _ _;unfold callAny.viaDunder;refine au (gY (T:="type") (aP _ R rfl) tc_lookup ?_);dsimp only;rw[tc_bind];refine au (aD (au (aD ?_)));refine aD (a:=Fin.again (.call (.builtin "type.__call__") ⟨[.ref 135,Y,vb,vc],[]⟩)) (And.intro rfl ?_);refine codeAny_call_builtin_at (Code.quiet_builtin _ (by decide+kernel)) entry_typeCall (check_slot tc_kind tc_split (L (QO w)) (tc_args _ _ _) ?_);unfold Builtin.«type.__call__»;dsimp only;rw[aI (by decide)];refine au ((L (TL w)).here ?_);refine rwL (aI cS) ?_;refine au ((L (Sn w)).here ?_);dsimp only;have ak:c5 K (A.under (.builtin "type.__call__" ⟨[.ref 135,Y,vb,vc],[]⟩)):=by
  have e1:(A.under (.builtin "type.__call__" ⟨[.ref 135,Y,vb,vc],[]⟩)).depth=A.depth+1:=rfl;have e2:(A.under (.builtin "type.__call__" ⟨[.ref 135,Y,vb,vc],[]⟩)).units=A.units+1:=rfl;exact⟨by rw[e1];have:=O.depth;exact Z2 [.p (.p V0 (.n 1)) V1,.n 400,.p V0 (.p V1 (.n 1)),.n 400] rfl this,by rw[e2];have:=O.units;exact Z2 [.p (.p V0 (.n 1)) (.m 8 V1),.n 4000,.p V0 (.m 8 (.p V1 (.n 1))),.n 4000] rfl this,O.handled⟩
 have D:=r.toks (s.toks+1);refine au (cls_bind X (Sp w) (TP w) (gc (sm_get (s:={s with toks:=s.toks+1}) X (QK w) ?_)));show aB _ _ (handedOut (.ref 82)) _ _ _;refine aD ?_;refine au (bP (bk (gc (h w _ ρ _ ak D.pre [.ref 135,Y,vb,vc] (bM _ _ rfl (rfl:g9 135=g9 135) F))) (λv Z q=>?_) λø ø q=>q.elim));(refine kY q λav H' ρ' W gr I C st=>aQ W λl H hp=>?_;clear q;subst H);have z:=(Way.toks r (s.toks+1)).trans (Way.called D gr I st);(refine eR (id C) λx items n d W y Sq hxs=>?_;subst W);have u:=tU z.rel.top;have o:∀{S:Type}{t:Sem S}{r:S}(e:peek (kM w.params) ⟨pw,w.params⟩ t=af r),Looks (aE pw w) Z.heap t r:=λe=>qD u e;have lt:∀{B:bg}{E:ao->ay->Prop}{Q:ao->ay->Prop},Q (.ref 135) Z->aB (aE pw w) B (fP (.ref x)) Q E Z:=λh=>by
  unfold fP;exact au (o5 y (aD h))
 refine au ?_;unfold kH;refine au (lt ((o (QS w)).here ?_));refine rwL (aI cS) ?_;refine au (bP ?_);unfold callSpecial? specialOf;refine au (au (lt ((o (QJ w)).here ?_)));refine bP ?_;rw[oi_bind];refine au (aD ?_);refine au (F6 u y ?_);refine aD ?_;simp only[o9,i5,↓m8];exact aD (z.pv C hp)
end
theorem gf:Slot "map" "__next__" "map.__next__":=.of (owner:="map") (n:="__next__") (by rw[fX,fY];kernel_rfl) (by decide+kernel) (by decide+kernel) (by decide+kernel) (by first|exact .inl (by decide+kernel)|exact .inr (by decide+kernel)) (by rw[fq];kernel_rfl)
theorem nA:kG table "map.__next__"=af Builtin.«map.__next__»:=sH (by kernel_rfl)
theorem vL:Manifest.owners.lookup (m7 ['p','a','m'].reverse)=af Manifest.sig_map:=by kernel_rfl
theorem n9(a:ao):iI "map.__next__" ⟨[a],[]⟩:=by unfold iI;rw[oY (id:="map.__next__") (n:=['_','_','t','x','e','n','_','_']) (o:=['p','a','m']) (by kernel_rfl) vL];kernel_rfl
theorem u0:∃id,Slot "map" "__iter__" id/\kG table id=af Builtin.«dict_keyiterator.__iter__»/\∀a,iI id ⟨[a],[]⟩:=by
 refine cy ("map.__iter__") ?_ ?_ (λa=>?_);·exact .of (owner:="map") (n:="__iter__") (by rw[fX,fY];kernel_rfl) (by decide+kernel) (by decide+kernel) (by decide+kernel) (by first|exact .inl (by decide+kernel)|exact .inr (by decide+kernel)) (by rw[fq];kernel_rfl)
 ·exact entryFor_alias (id':="dict_keyiterator.__iter__") (by kernel_rfl) (by decide+kernel) (by decide+kernel) (by kernel_rfl)
 ·unfold iI;rw[oY (id:="map.__iter__") (n:=['_','_','r','e','t','i','_','_']) (o:=['p','a','m']) (by kernel_rfl) vL];kernel_rfl
theorem tV:d7 (.type "map") "__len__"=aX none/\d7 (.type "map") "__length_hint__"=aX none:=by constructor<;>(rw[fX,fY];kernel_rfl)
theorem Bt:TypeCalled "map" "map.__new__" "object.__init__":=by
 have Z:mroOf (.type "map")=aX [.type "map",.type "object"]:=by rw[mroOf_type];kernel_rfl
 have Y:d7 (.type "map") "__new__"=aX (af (.builtin "map.__new__")):=by rw[fX,fY];kernel_rfl
 refine⟨by decide+kernel,by decide+kernel,(kZ _ _ Z),madeBy_type Z Y (by decide+kernel),by decide+kernel,by rw[fq];kernel_rfl,?_⟩;exact .of (owner:="object") (n:="__init__") (by rw[fX,fY];kernel_rfl) (by decide+kernel) (by decide+kernel) (by decide+kernel) (by first|exact .inl (by decide+kernel)|exact .inr (by decide+kernel)) (by rw[fq];kernel_rfl)
theorem x8(a b:ao):checkTypeCall "map" ⟨[a,b],[]⟩=aX ():=by kernel_rfl
theorem zl(a b:ao):sI "map.__new__" ⟨[.type "map",a,b],[]⟩=aX ():=by kernel_rfl
theorem u5:kG table "map.__new__"=af Builtin.«map.__new__»:=sH (by kernel_rfl)
theorem IP:d8 (.type "map") (.type "map")=aX aj:=by rw[fq];kernel_rfl
noncomputable def zm(T:az)(f:ao):aR:=⟨.type "map",none,.fields #[.ref T,f],#[]⟩
section
variable{w:aG}{A:bg}{env:aV}{sc:aU}{ρ ρ':aa az}{s s':ay}{σ σ':AS}{K:ah}{P:AV->AS->Prop}
theorem u6(f:ao)(l:az)(items:aK ao)(n:ah)(sl:aK (aA ao)):Meets (Builtin.«map.__new__» ⟨[.type "map",f,.ref l],[]⟩) (λT R s=>s.heap.get? l=af (bS items n sl)/\R (.ok (.ret (.ref (s.heap.objs.size+2)))) {s with heap:=((s.heap.push {cls:=.type "list_iterator",data:=.fields #[.ref l,.int 0 0]}).push (jj #[.ref s.heap.objs.size] 0)).push (zm (s.heap.objs.size+1) f)}):=.of_wp λZ w A R s h=>by
  obtain⟨W,g,d,V,os⟩:=s;refine bq h λY h=>?_;have X:=IP;have U:Heap.IsList (Shared.heap ⟨W,g,d,V,os⟩) l items:=bz Y;unfold Builtin.«map.__new__»;wp_walk using wpAny_loadPart' Y,sF U;refine aP _ rfl ?_;simp only[dJ];exact h
theorem F7{f:ao}{l:az}{items:aK ao}{n:ah}{sl:aK (aA ao)}{Q:ao->ay->Prop}(U:s.heap.get? l=af (bS items n sl))(h:∀h',h'.IsListIter s.heap.objs.size l 0->h'.get? (s.heap.objs.size+1)=af (jj #[.ref s.heap.objs.size] 0)->h'.get? (s.heap.objs.size+2)=af (zm (s.heap.objs.size+1) f)->(∀b o,s.heap.get? b=af o->h'.get? b=af o)->h'.objs.size=s.heap.objs.size+3->Q (.ref (s.heap.objs.size+2)) {s with heap:=h'}):aB (aE pw w) A (dW (.type "map") [f,.ref l]) Q b7 s:=by
 refine callType_new Bt (by decide) (x8 _ _) (zl _ _) (λX=>PySem.F.args_object_init_3 X _ _) u5 (u6 f l items n sl) ⟨U,?_⟩;generalize Z:({cls:=.type "list_iterator",data:=.fields #[.ref l,.int 0 0]}:aR)=Y;have W:(s.heap.push Y).objs.size=s.heap.objs.size+1:=dJ ..;have V:((s.heap.push Y).push (jj #[.ref s.heap.objs.size] 0)).objs.size=s.heap.objs.size+2:=by rw[dJ,W]
 have g3:(((s.heap.push Y).push (jj #[.ref s.heap.objs.size] 0)).push (zm (s.heap.objs.size+1) f)).get? (s.heap.objs.size+2)=af (zm (s.heap.objs.size+1) f):=by
  have:=b_ (h:=(s.heap.push Y).push (jj #[.ref s.heap.objs.size] 0)) (o:=zm (s.heap.objs.size+1) f) rfl;rw[V] at this;exact this
 have g2:((s.heap.push Y).push (jj #[.ref s.heap.objs.size] 0)).get? (s.heap.objs.size+1)=af (jj #[.ref s.heap.objs.size] 0):=by
  have:=b_ (h:=s.heap.push Y) (o:=jj #[.ref s.heap.objs.size] 0) rfl;rw[W] at this;exact this
 refine⟨(aP _ g3 rfl),h _ (cy Y (bZ _ (bZ _ (b_ _ (by rw[<-Z];rfl)))) (by rw[<-Z]) (by rw[<-Z];rfl)) (bZ _ g2) g3 (λb o x=>bZ _ (bZ _ (bZ _ x))) (by rw[dJ,V])⟩
end
theorem Cw{H:aa AO}{x y:AO}:(H++[x]).set H.length y=H++[y]:=by rw[mU _ _ (bf _),cB];rfl
section
variable{w:aG}{A:bg}{env:aV}{sc:aU}{ρ ρ':aa az}{s s' s0:ay}{σ σ':AS}{K:ah}{P:AV->AS->Prop}
structure Mp(w:aG)(sc:aU)(env:aV)(ρ:aa az)(s0:ay)(σ:AS)(S M T it aL:az)(vf:ao)(of:aA (az×aR))(i:ah)(ys:aa DV)(s:ay):Prop where
 way:Way w sc env ρ s0 {σ with heap:=σ.heap++[.list ys]} (ρ++[S]) s
 gM:s.heap.get? M=af (zm T vf)gT:s.heap.get? T=af (jj #[.ref it] 0)gI:s.heap.IsListIter it aL i
 gF:∀p,of=af p->s.heap.get? p.1=af p.2
structure Ap(env:aV)(ρ:aa az)(S M T it:az)(of:aA (az×aR)):Prop where
 oM:M∉ρ++[S]/\M≠env.locals/\∀x,env.cells.lookup x≠af M
 oT:T∉ρ++[S]/\T≠env.locals/\∀x,env.cells.lookup x≠af T
 oI:it∉ρ++[S]/\it≠env.locals/\∀x,env.cells.lookup x≠af it
 d4:M≠it
 d5:T≠it
 QU:449<=it
 oF:∀p,of=af p->p.1≠it/\p.1∉ρ++[S]/\p.1≠env.locals/\∀x,env.cells.lookup x≠af p.1
def n_(w:aG)(sc:aU)(env:aV)(B:bg)(loc:aa (aA AV))(ρ:aa az)(Z:ao)(of:aA (az×aR))(c:aa AO->DV->(DV->Prop)->Prop):Prop:=∀(H:aa AO) (x:DV) (Q:DV->Prop) (s:ay) (v:ao),c H x Q->Rel w sc env ⟨loc,H⟩ ρ s->R s.heap ρ x v->(∀p,of=af p->s.heap.get? p.1=af p.2)->aB (aE pw w) B (dW Z [v]) (λr s'=>∃y,Q y/\Way w sc env ρ s ⟨loc,H⟩ ρ s'/\R s'.heap ρ y r) b7 s
theorem Np{h:aM}{it a:az}{i:ah}(hi:h.IsListIter it a i):Ci h it "list_iterator":=by
 (refine cC hi λo Z Y X=>?_;clear hi);exact⟨QA,o,Z,Y⟩
theorem Mp.moved{S M T it aL:az}{V:ao}{of:aA (az×aR)}{i j:ah}{X:aa DV}{h':aM}(Z:Ap env ρ S M T it of)(Q:s0.heap.objs.size<=it)(m:Mp w sc env ρ s0 σ S M T it aL V of i X s)(q:vD it s.heap h'):Way w sc env ρ s0 {σ with heap:=σ.heap++[.list X]} (ρ++[S]) {s with heap:=h'}/\(h'.IsListIter it aL j->Mp w sc env ρ s0 σ S M T it aL V of j X {s with heap:=h'}):=by
 have Y:=m.way;have W:=Y.rel.but (Np m.gI) Z.oI.1 Z.oI.2.1 Z.oI.2.2 Z.QU q s.toks s.drawn;have way:Way w sc env ρ s0 {σ with heap:=σ.heap++[.list X]} (ρ++[S]) {s with heap:=h'}:=⟨Y.grow,W,⟨λb o U O N L=>q.1 b o (λe=>aJ (b9 U) (iZ (e▸Q))) (Y.step.keep b o U O N L),br Y.step.size q.2,Y.step.gens,Y.step.os⟩⟩;exact⟨way,λJ=>⟨way,q.1 _ _ Z.d4 m.gM,q.1 _ _ Z.d5 m.gT,J,λp R=>q.1 _ _ (Z.oF p R).1 (m.gF p R)⟩⟩
theorem F8{S M T it aL:az}{U:ao}{of:aA (az×aR)}{i:ah}{O:aa DV}{x:DV}{v:ao}{items:aK ao}{n:ah}{sl:aK (aA ao)}{c:aa AO->DV->(DV->Prop)->Prop}{Q:DV->Prop}(X:Ap env ρ S M T it of)(G:s0.heap.objs.size<=it)(F:n_ w sc env A σ.loc (ρ++[S]) U of c)(m:Mp w sc env ρ s0 σ S M T it aL U of i O s)(E:s.heap.get? aL=af (bS items n sl))(D:items[i]?=af v)(C:R s.heap (ρ++[S]) x v)(B:c (σ.heap++[.list O]) x Q):aB (aE pw w) A (Builtin.«map.__next__» ⟨[.ref M],[]⟩) (λN s'=>∃r,N=.done (.ret r)/\∃y,Q y/\R s'.heap (ρ++[S]) y r/\Mp w sc env ρ s0 σ S M T it aL U of (i+1) O s') b7 s:=by
 unfold Builtin.«map.__next__»;refine au (aD ?_);refine au (gZ m.gM rfl (x:=.ref T) rfl ?_);refine au (fZ m.gT rfl ?_);dsimp only;rw[<-An];simp-iota only[rY,List.forIn_nil];refine au (au (au (bP (wpAny_nextOf_list_item m.gI (bz E) D λJ Y W=>?_))));refine bq (m.moved (j:=i+1) X G (vD.same W)) λg Z=>?_;have Z:=Z Y;refine aD (aD ?_);refine au (gZ Z.gM rfl (x:=U) rfl ?_);refine au (bP ?_);have z:mQ s.heap (ρ++[S]) J (ρ++[S]):=pT (Np m.gI) (vD.same W);refine bk (F _ x Q _ v B Z.way.rel (C.mono z) Z.gF) (λr s' V=>cC V λy u I t=>?_) λq q h=>h;refine au (m6 (aD (aP r rfl (cy y u t ?_))));have keep:∀(b:az) (o:aR),b∉ρ++[S]/\b≠env.locals/\(∀x,env.cells.lookup x≠af b)->J.get? b=af o->s'.heap.get? b=af o:=λb o L l=>I.step.keep b o l L.2.1 L.2.2 L.1;(refine aQ Y λk g1 g2=>?_;clear Y);exact⟨Z.way.trans I,keep _ _ X.oM Z.gM,keep _ _ X.oT Z.gT,(aP k (keep _ _ X.oI g1) g2),λp H=>keep _ _ (X.oF p H).2 (Z.gF p H)⟩
theorem F9{S M T it aL:az}{X:ao}{of:aA (az×aR)}{i:ah}{W:aa DV}{x:DV}{v:ao}{items:aK ao}{n:ah}{sl:aK (aA ao)}{c:aa AO->DV->(DV->Prop)->Prop}{Q:DV->Prop}(U:Ap env ρ S M T it of)(O:s0.heap.objs.size<=it)(N:n_ w sc env A.in1 σ.loc (ρ++[S]) X of c)(m:Mp w sc env ρ s0 σ S M T it aL X of i W s)(L:s.heap.get? aL=af (bS items n sl))(J:items[i]?=af v)(I:R s.heap (ρ++[S]) x v)(H:c (σ.heap++[.list W]) x Q){E:ao->ay->Prop}{PP:aA ao->ay->Prop}(G:∀r y s',Q y->R s'.heap (ρ++[S]) y r->Mp w sc env ρ s0 σ S M T it aL X of (i+1) W s'->PP (af r) s'):aB (aE pw w) A (eX (.ref M)) PP E s:=by
 have V:s.TypeIs (.ref M) "map":=aP _ m.gM rfl;unfold eX;refine au (kB (lI (name:=jM "__next__") V gf (dP gf V nA ?_ (n9 _))));refine bk (F8 U O N m L J I H) (λF s' Z=>aQ Z λr e Y=>cC Y λy D C B=>aP r e ?_) λz z h=>h.elim;exact aD (G r y s' D C B)
theorem IQ{S M T it aL:az}{Q:ao}{of:aA (az×aR)}{i:ah}{U:aa DV}{items:aK ao}{n:ah}{sl:aK (aA ao)}(O:A.handled=none)(N:Ap env ρ S M T it of)(L:s0.heap.objs.size<=it)(m:Mp w sc env ρ s0 σ S M T it aL Q of i U s)(J:s.heap.get? aL=af (bS items n sl))(I:items[i]?=none){PP:aA ao->ay->Prop}(H:∀s',Way w sc env ρ s0 {σ with heap:=σ.heap++[.list U]} (ρ++[S]) s'->PP none s'):aB (aE pw w) A (eX (.ref M)) PP b7 s:=by
 have R:s.TypeIs (.ref M) "map":=aP _ m.gM rfl;refine ef ?_;unfold eX;refine au (kB (lI (name:=jM "__next__") R gf (dP gf R nA ?_ (n9 _))));unfold Builtin.«map.__next__»;refine au (aD ?_);refine au (gZ m.gM rfl (x:=.ref T) rfl ?_);refine au (fZ m.gT rfl ?_);dsimp only;rw[<-An];simp-iota only[rY,List.forIn_nil];refine au (au (au (bP (wpAny_nextOf_list_end O m.gI (bz J) I λD e Y Z=>aQ Z λG X W=>?_))));refine au (jJ (T:="StopIteration") (b:=aj) (aP G X W) qx (aD λV=>H _ ?_));exact(m.moved (j:=0) N L ⟨λb o F E=>Y b o F E,V⟩).1
theorem Mp.push{S M T it aL:az}{I:ao}{of:aA (az×aR)}{i:ah}{Z:aa DV}{y:DV}{r:ao}(Y:ρ.length=σ.heap.length)(U:M≠S/\T≠S/\it≠S)(x:∀p,of=af p->p.1≠S)(m:Mp w sc env ρ s0 σ S M T it aL I of i Z s)(v:R s.heap (ρ++[S]) y r)(hsz:Z.length<bw){E:ao->ay->Prop}{PP:Unit->ay->Prop}(u:∀s',Mp w sc env ρ s0 σ S M T it aL I of i (Z++[y]) s'->PP () s'):aB (aE pw w) A (w6 (.ref S) (·.push r)) PP E s:=by
 have H:(ρ++[S])[σ.heap.length]?=af S:=by rw[jh ((Qe Y)),Y,cB];rfl
 have G:(σ.heap++[AO.list Z])[σ.heap.length]?=af (.list Z):=by rw[jh (bf _),cB];rfl
 refine gu (m.way.rel.bK.obj _ _ S G H) λitems n X V F=>?_;have D:items.size=Z.length:=by simpa using F.length
 show aB _ _ (oX S (·.push r)) _ _ _;refine lK V rfl (hz:=by rw[D];exact gy hsz) (_hz':=by show (items.push r).size<=_;rw[Array.size_push,D];exact Z2 [.p V0 (.n 1),.p V1 (.n 1),.p V0 (.n 1),V1] rfl hsz) ?_;refine aZ (sR (o:=bS items n X) rfl (·.push r)) λC W=>?_;have Q:fu S s.heap (s.heap.update S (jc (·.push r))):=iP ..;have O:(s.heap.update S (jc (·.push r))).get? S=af (bS (items.push r) C X):=by
  rw[jb _ V (xq W)];have e:(bS items n X).mapSeq (·.push r)=⟨.type "list",none,((bS items n X).mapSeq (·.push r)).data,X⟩:=rfl;rw[e,W];rfl
 have N:=Way.s6 (tk:=s.toks) (d:=s.drawn) m.way.rel H G (λq=>nomatch q) (o':=.list (Z++[y])) (λk q=>nomatch q) (λb j L J=>(Q.2 b L).trans J) (cA Q.1.symm) λB=>kO (items.push r) C X O (by rw[v9];exact(F.mono B).append (RS.cons (v.mono B) RS.nil));have t:(σ.heap++[AO.list Z]).set σ.heap.length (.list (Z++[y]))=σ.heap++[.list (Z++[y])]:=Cw;have N:Way w sc env (ρ++[S]) s ⟨σ.loc,σ.heap++[.list (Z++[y])]⟩ (ρ++[S]) {s with heap:=s.heap.update S (jc (·.push r))}:=by rw[<-t];exact N
 have keep:∀(b:az) (o:aR),b≠S->s.heap.get? b=af o->(s.heap.update S (jc (·.push r))).get? b=af o:=λb o L V=>(Q.2 b L).trans V;refine aQ m.gI λl g1 g2=>?_;exact u _ ⟨m.way.trans N,keep _ _ U.1 m.gM,keep _ _ U.2.1 m.gT,(aP l (keep _ _ U.2.2 g1) g2),λp z=>keep _ _ (x p z) (m.gF p z)⟩
theorem F_{S M T it aL:az}{B res:ao}{of:aA (az×aR)}{xs:aa DV}{c:aa AO->DV->(DV->Prop)->Prop}{PP:aa DV->Prop}{R:fk->ay->Prop}(t:A.handled=none)(hE:∀e s,¬b7 e s)(z:Ap env ρ S M T it of)(x:s0.heap.objs.size<=it)(W:ρ.length=σ.heap.length)(o:M≠S/\T≠S/\it≠S)(l:∀p,of=af p->p.1≠S)(j:n_ w sc env A.in1.in1 σ.loc (ρ++[S]) B of c)(X:∀(s:ay)(Z:aa DV),Way w sc env ρ s0 {σ with heap:=σ.heap++[.list Z]} (ρ++[S]) s->∃(items:aK ao) (n:ah) (sl:aK (aA ao)),s.heap.get? aL=af (bS items n sl)/\RS s.heap (ρ++[S]) xs items.toList)(g:∀Z s',PP Z->Way w sc env ρ s0 {σ with heap:=σ.heap++[.list Z]} (ρ++[S]) s'->R (.ok (.ret res)) s'):∀(k i:ah) (Z:aa DV) (s:ay),xs.length-i=k->i<=xs.length->yO c σ.heap (xs.drop i) Z PP->Mp w sc env ρ s0 σ S M T it aL B of i Z s->dw (aE pw w) A (.builtin "list.extend.loop" ⟨[.ref S,.ref M,res],[]⟩) R s:=by
 intro k;induction k with
 |zero=>
  intro i Z s V L U m;refine iK F.entry_extend_loop ?_;rw[jL xh _];show aB _ A.in1 (eX (.ref M)>>=_) _ _ s;refine gu (X s Z m.way) λitems n sl J N=>?_;have u:items.size=xs.length:=by simpa using N.length
  rw[dH (by exact Z3 [V0,V1,V2,.n 0,V0,.p V2 V1] rfl (Qe V) Q1)] at U;refine au (bk (IQ (A:=A.in1) (PP:=λq s'=>q=none/\Way w sc env ρ s0 {σ with heap:=σ.heap++[.list Z]} (ρ++[S]) s') t z x m J (qb (Z4 [V0,V1,V2,.n 0,V0,V3,V3,.p V2 V1] rfl (Qe V) (Qe u) Q1)) λs' I=>⟨rfl,I⟩) (λq s' Q=>bq Q λe I=>?_) λf f h=>h.elim);subst e;exact aD (g Z s' U I)|succ k d=>
  intro i Z s V L U m;refine iK F.entry_extend_loop ?_;rw[jL xh _];show aB _ A.in1 (eX (.ref M)>>=_) _ _ s;refine gu (X s Z m.way) λitems n sl J N=>?_;have u:items.size=xs.length:=by simpa using N.length
  have Y:i<xs.length:=by exact Z4 [.p V0 (.n 1),V1,.p V2 (.n 1),V3,.p V3 V0,V1] rfl (Qf V) (Q2 (L))
  rw[e8 Y] at U;refine aQ (N.get (c7 Y)) λv b a=>?_;refine au (F9 z x j m J (by simpa using b) a U λr y s' O=>bq O λH G E m'=>?_);refine au (Mp.push W o l m' E H λD C=>?_);exact aD ⟨iJ xh _,d (i+1) (Z++[y]) D (L0 [V0,V1,V2,.p V1 (.n 1),.p V0 (.p V3 (.n 1)),V4,V4,.p V2 V3] rfl V (eO (Y)) (Eq.symm (eO (L)))) (Y) G C⟩
end
section
variable{w:aG}{A:bg}{env:aV}{sc:aU}{ρ ρ':aa az}{s s' s0:ay}{σ σ':AS}{K:ah}{P:AV->AS->Prop}{S M T it aL:az}{vf res:ao}{of:aA (az×aR)}{i:ah}{ys:aa DV}
theorem Mp.obj(Z:ρ.length=σ.heap.length)(m:Mp w sc env ρ s0 σ S M T it aL vf of i ys s):∃items n sl,s.heap.get? S=af (bS items n sl)/\RS s.heap (ρ++[S]) ys items.toList:=by
 have Y:(ρ++[S])[σ.heap.length]?=af S:=by rw[jh ((Qe Z)),Z,cB];rfl
 have X:(σ.heap++[AO.list ys])[σ.heap.length]?=af (.list ys):=by rw[jh (bf _),cB];rfl
 exact m.way.rel.bK.obj _ _ S X Y
theorem Mp.chg(Z:ρ.length=σ.heap.length)(Y:M≠S/\T≠S/\it≠S)(O:∀p,of=af p->p.1≠S)(m:Mp w sc env ρ s0 σ S M T it aL vf of i ys s){h':aM}{items:aK ao}{n:ah}{sl:aK (aA ao)}(X:h'.get? S=af (bS items n sl))(W:fu S s.heap h')(N:mQ s.heap (ρ++[S]) h' (ρ++[S])->RS h' (ρ++[S]) ys items.toList):Mp w sc env ρ s0 σ S M T it aL vf of i ys {s with heap:=h'}:=by
 have L:(ρ++[S])[σ.heap.length]?=af S:=by rw[jh ((Qe Z)),Z,cB];rfl
 have J:(σ.heap++[AO.list ys])[σ.heap.length]?=af (.list ys):=by rw[jh (bf _),cB];rfl
 have V:=Way.s6 (tk:=s.toks) (d:=s.drawn) m.way.rel L J (λq=>nomatch q) (o':=.list ys) (λE q=>nomatch q) (λb D U R=>(W.2 b U).trans R) (cA W.1.symm) λI=>kO items n sl X (N I);have H:(σ.heap++[AO.list ys]).set σ.heap.length (.list ys)=σ.heap++[.list ys]:=Cw;have V:Way w sc env (ρ++[S]) s ⟨σ.loc,σ.heap++[.list ys]⟩ (ρ++[S]) {s with heap:=h'}:=by
  have G:({loc:=σ.loc,heap:=(σ.heap++[AO.list ys]).set σ.heap.length (.list ys)}:AS)=⟨σ.loc,σ.heap++[.list ys]⟩:=by rw[H]
  rw[<-G];exact V
 have keep:∀(b:az) (o:aR),b≠S->s.heap.get? b=af o->h'.get? b=af o:=λb o U X=>(W.2 b U).trans X;refine aQ m.gI λF g1 g2=>?_;exact⟨m.way.trans V,keep _ _ Y.1 m.gM,keep _ _ Y.2.1 m.gT,(aP F (keep _ _ Y.2.2 g1) g2),λp Q=>keep _ _ (O p Q) (m.gF p Q)⟩
theorem Cy{xs:aa DV}{c:aa AO->DV->(DV->Prop)->Prop}{PP:aa DV->Prop}{R:fk->ay->Prop}(H:A.handled=none)(G:Ap env ρ S M T it of)(F:s0.heap.objs.size<=it)(Z:ρ.length=σ.heap.length)(U:M≠S/\T≠S/\it≠S)(N:∀p,of=af p->p.1≠S)(E:n_ w sc env A.in1.in1 σ.loc (ρ++[S]) vf of c)(X:∀(s:ay)(ys:aa DV),Way w sc env ρ s0 {σ with heap:=σ.heap++[.list ys]} (ρ++[S]) s->∃(items:aK ao) (n:ah) (sl:aK (aA ao)),s.heap.get? aL=af (bS items n sl)/\RS s.heap (ρ++[S]) xs items.toList)(D:∀ys s',PP ys->Way w sc env ρ s0 {σ with heap:=σ.heap++[.list ys]} (ρ++[S]) s'->R (.ok (.ret res)) s') (C:yO c σ.heap xs [] PP) (m:Mp w sc env ρ s0 σ S M T it aL vf of 0 [] s):aB (aE pw w) A.in1 (w7 (.ref S) (.ref M) res) (λQ s'=>match Q with|.done f=>R (.ok f) s'|.again L=>L.quiet=aj/\dw (aE pw w) A L R s') (λe s'=>R (.error e) s') s:=by
 have Y:s.TypeIs (.ref M) "map":=aP _ m.gM rfl;refine cC u0 λid J B z=>?_;unfold w7;refine au (lM Y ?_);have y:Builtin.List.listSameRef (.ref S) (.ref M)=aC:=by simp[Builtin.List.listSameRef,Ne.symm U.1]
 have x:(jN "map"==jN "list")=aC:=by decide
 have v:(jN "map"==jN "tuple")=aC:=by decide
 simp-iota only[y,x,v,Bool.or_false,i5,kL];refine au (wpAny_pyIter_slot Y J (dP J Y B (aD (aP _ rfl (bM ("map") _ Y gf.lookup ?_))) (z _)));refine au (bP ?_);unfold Builtin.List.listLengthHint;refine au (gY Y tV.1 ?_);show aB _ A.in1 (specialOf (g9 M) (jM "__length_hint__")>>=_) _ _ _;refine au (gY Y tV.2 ?_);refine aD ?_;show aB _ A.in1 (rule "list.extend.makes-room">>=λW=>Builtin.List.listTouch (.ref S)>>=λW=>again (.builtin "list.extend.loop" ⟨[.ref S,.ref M,res],[]⟩)) _ _ _;refine au (i_ ?_);refine au ?_;show aB _ A.in1 (oX S (·.push .none)>>=λW=>oX S (·.pop)) _ _ _;refine gu (m.obj Z) λitems n sl I u=>?_;have t:items.size=0:=by simpa using u.length
 have r:items=#[]:=Array.eq_empty_of_size_eq_zero t;subst r;refine au (lK I rfl (hz:=bW _) (_hz':=by show 1<=bw+1;exact Z1 [.n 1,.p V0 (.n 1)] rfl) ?_);have V:=jb (jc (·.push Value.none)) I rfl;refine lK V rfl (hz:=by show 1<=bw;decide) (_hz':=by show 0<=bw+1;exact Z1 [.n 0,.p V0 (.n 1)] rfl) ?_;have O:=jb (jc (·.pop)) V rfl;have q:fu S s.heap ((s.heap.update S (jc (·.push Value.none))).update S (jc (·.pop))):=(iP ..).trans (iP ..);have o:=m.chg Z U N (items:=#[]) (n:=n+1+1) (sl:=sl) (by rw[O];rfl) q λW=>RS.nil;exact aD ⟨iJ xh _,F_ (res:=res) H (λW W h=>h) G F Z U N E X D _ 0 [] _ rfl (bW _) C o⟩
end
section
variable{w:aG}{A:bg}{env:aV}{sc:aU}{ρ ρ':aa az}{s s' s0:ay}{σ σ':AS}{K:ah}{P:AV->AS->Prop}{S M T it aL:az}{vf res:ao}{of:aA (az×aR)}{i:ah}{ys:aa DV}
structure Di(A B:bg):Prop where
 depth:B.depth<=A.depth+1
 units:B.units<=A.units+8
 handled:B.handled=A.handled
theorem Di.room{B:bg}(n:Di A B)(Z:c5 (K+1) A):c5 K B:=⟨br (Ax n.depth K) (br (cA (r_ A.depth 1 K)) Z.depth),br (Ax n.units (8*K)) (br (cA (r_ A.units 8 (8*K))) Z.units),n.handled.trans Z.handled⟩
theorem Ga{B:bg}{f:az}{ρ:aa az}{loc:aa (aA AV)}(L:c5 K B):n_ w sc env B loc ρ (.ref f) none (yP (FJ (K+1)) f []):=by
 intro H x Q s v W r J _;have W:Fn K f [.d x] H _:=W;refine bk (gc (W w B ρ s L r.pre [v] (bM _ _ rfl J rfl))) (λC s' q=>?_) λN N h=>h;(refine kY q λz u ρ' Z V I Y st=>bq Z λU X=>aQ X λy R G=>?_;clear X;clear q;subst U;subst R);have O:=Way.called r V I st;(refine aQ V λl Z N=>?_;clear V;subst Z);have F:=r.bK.len;have E:=O.rel.bK.len;have D:l=[]:=by
  have:(ρ++l).length=ρ.length:=by rw[E];exact F.symm
  rw[bU] at this;exact List.length_eq_zero_iff.mp (lZ [V0,.n 0,.p V1 V0,V1] rfl this)
 subst D;rw[bY] at O Y;exact cy y G O Y
theorem Gb{B:bg}{b:az}{ρ:aa az}{loc:aa (aA AV)}(O:c5 K B):n_ w sc env B loc ρ (.ref b) (af (b,methodObj (.ref 89) (.ref 135))) (yP (FJ (K+1)) 89 [.d (.con (.ref 135))]):=by
 intro H x Q s v X r N W;have L:=W _ rfl;have X:Fn K 89 [.d (.con (.ref 135)),.d x] H _:=X;refine gc (o6 ?_);show aB _ _ (callAny (.ref b) ⟨[v],[]⟩) _ _ _;unfold callAny;refine au (lJ L ?_);dsimp only;rw[aW (by decide)];refine aD (a:=Fin.again (.call (.ref 89) ⟨[.ref 135,v],[]⟩)) (And.intro rfl ?_);refine codeAny_mono (X w B ρ s O r.pre [.ref 135,v] (bM _ _ rfl (rfl:g9 135=g9 135) (bM _ _ rfl N rfl))) λres s' Z=>?_;induction res using Except.casesOn with|error e=>exact Z.elim|ok J=>induction J using fR with
  |ret D=>
   obtain⟨C,z,ρ',⟨rfl,y,rfl,I⟩,V,Z,Y,st⟩:=Z;have U:=Way.called r V Z st;(refine aQ V λl R u=>?_;clear V;subst R);have G:=r.bK.len;have F:=U.rel.bK.len;have E:l=[]:=by
    have:(ρ++l).length=ρ.length:=by rw[F];exact G.symm
    rw[bU] at this;exact List.length_eq_zero_iff.mp (lZ [V0,.n 0,.p V1 V0,V1] rfl this)
   subst E;rw[bY] at U Y;exact cy y I U Y|_=>exact Z.elim
theorem jU{a:az}(r:Rel w sc env σ ρ s0)(h:s0.heap.objs.size<=a):a∉ρ/\a≠env.locals/\∀x,env.cells.lookup x≠af a:=⟨λZ=>aJ (r.bK.old Z) (iZ h),λe=>aJ (fK r) (iZ (e▸h)),λx e=>aJ (fG r e) (iZ h)⟩
theorem Dj{c:aa AO->DV->(DV->Prop)->Prop}{PP:aa DV->Prop}{xs:aa DV}{I:ao}{a:AV}{Q:ao->ay->Prop}{X:Sem ao}(r:Rel w sc env σ ρ s0)(N:qM σ.heap a=af xs)(G:RA s0.heap ρ a I)(V:∀p,of=af p->s0.heap.get? p.1=af p.2/\p.1∉ρ/\p.1≠env.locals/\∀x,env.cells.lookup x≠af p.1)(h:∀aL h',I=.ref aL->(∀b o,s0.heap.get? b=af o->h'.get? b=af o)->h'.objs.size=s0.heap.objs.size+3->h'.get? (s0.heap.objs.size+2)=af (zm (s0.heap.objs.size+1) vf)->Ap env ρ (s0.heap.objs.size+3) (s0.heap.objs.size+2) (s0.heap.objs.size+1) s0.heap.objs.size of->(∀p,of=af p->p.1≠s0.heap.objs.size+3)->Mp w sc env ρ s0 σ (s0.heap.objs.size+3) (s0.heap.objs.size+2) (s0.heap.objs.size+1) s0.heap.objs.size aL vf of 0 [] {s0 with heap:=h'.push (bS #[] 0)}->(∀(s:ay) (ys:aa DV),Way w sc env ρ s0 {σ with heap:=σ.heap++[.list ys]} (ρ++[s0.heap.objs.size+3]) s->∃(items:aK ao) (n:ah) (sl:aK (aA ao)),s.heap.get? aL=af (bS items n sl)/\RS s.heap (ρ++[s0.heap.objs.size+3]) xs items.toList)->Q (.ref (s0.heap.objs.size+2)) {s0 with heap:=h'}):aB (aE pw w) A (dW (.type "map") [vf,I]) Q b7 s0:=by
 have L:∃(aL:az) (items:aK ao) (n:ah) (sl:aK (aA ao)),I=.ref aL/\s0.heap.get? aL=af (bS items n sl)/\∀(s:ay) (ys:aa DV),Way w sc env ρ s0 {σ with heap:=σ.heap++[.list ys]} (ρ++[s0.heap.objs.size+3]) s->∃(items:aK ao) (n:ah) (sl:aK (aA ao)),s.heap.get? aL=af (bS items n sl)/\RS s.heap (ρ++[s0.heap.objs.size+3]) xs items.toList:=by
  refine l9 N (λe=>?_) λk e N=>?_<;>subst e
  ·clear N;(refine eR G λaL items n sl Z U g y=>?_;clear G;subst Z);refine CV aL items n sl rfl U (λs ys F=>?_);have E:=F.k8 r;exact kO items n sl ((E.1 _ _ U ⟨rfl,KJ⟩ g).1) (y.mono E)
  ·(refine eR (eg r.bK N G) λaL items n sl Z U y R=>?_;subst Z);refine CV aL items n sl rfl U (λs ys F=>?_);have v:=bI.mp N;have D:k<σ.heap.length:=(gi v).1;have C:(σ.heap++[AO.list ys])[k]?=af (.list xs):=by rw[m9 D];exact v
   have B:(ρ++[s0.heap.objs.size+3])[k]?=af aL:=by rw[m9 (gi R).1];exact R
   exact F.rel.bK.obj k _ aL C B
 (refine xA L λaL items n sl Z U J=>?_;clear L;subst Z);refine F7 U λh' u f t R O=>?_;have l:Way w sc env ρ s0 σ ρ {s0 with heap:=h'}:=Way.all r R (by rw[O];exact Z1 [V0,.p V0 (.n 3)] rfl) rfl rfl;have j:=Way.new l.rel (o:=.list []) (ob:=bS #[] 0) (λø q=>nomatch q) (λE U=>kO (#[]) 0 (#[]) U RS.nil) rfl s0.toks;have d:({s0 with heap:=h'}:ay).heap.objs.size=s0.heap.objs.size+3:=O;rw[d] at j;have H:=λk=>jU (a:=s0.heap.objs.size+k) r (dh _ _);have z:∀k,k<3->s0.heap.objs.size+k∉ρ++[s0.heap.objs.size+3]:=λk R hm=>by
  rcases d9 hm with hm|hm;·exact(H k).1 hm
  ·have hm:s0.heap.objs.size+k=s0.heap.objs.size+3:=by simpa using hm
   have:(s0.heap.objs.size:ah)+k=s0.heap.objs.size+3:=hm;exact Qx (lY [_,_] 0 [] [.n 1,.n 0,.p V0 (.n 1),.n 3,.p V1 (.n 3),.p V1 V0] rfl R (Qf hm))
 have Y:∀p,of=af p->p.1≠s0.heap.objs.size+3/\p.1≠s0.heap.objs.size:=λp W=>by
  have:=b9 (V p W).1;exact⟨λe=>aJ (e▸this) (iZ (dh _ _)),λe=>aJ (e▸this) (dX _)⟩
 have ap:Ap env ρ (s0.heap.objs.size+3) (s0.heap.objs.size+2) (s0.heap.objs.size+1) s0.heap.objs.size of:=⟨⟨z 2 (Z0 [.p (.n 2) (.n 1),.n 3] rfl),(H 2).2⟩,⟨z 1 (Z0 [.p (.n 1) (.n 1),.n 3] rfl),(H 1).2⟩,⟨z 0 (Z0 [.p (.n 0) (.n 1),.n 3] rfl),(H 0).2⟩,fN (wL (Z0 [.p (.n 0) (.n 1),.n 2] rfl)),fN (jH _),r.size,λp W=>⟨(Y p W).2,λhm=>by
   rcases d9 hm with hm|hm;·exact(V p W).2.1 hm
   ·exact(Y p W).1 (by simpa using hm),(V p W).2.2⟩⟩;(refine aQ u λoi g1 g2=>?_;clear u);have m:Mp w sc env ρ s0 σ (s0.heap.objs.size+3) (s0.heap.objs.size+2) (s0.heap.objs.size+1) s0.heap.objs.size aL vf of 0 [] {s0 with heap:=h'.push (bS #[] 0)}:=⟨l.trans j,bZ _ t,bZ _ f,(aP oi (bZ _ g1) g2),λp W=>bZ _ (R _ _ (V p W).1)⟩;exact h aL h' rfl R O t ap (λp W=>(Y p W).1) m J
end
section
set_option backward.match.sparseCases true
section
variable{w:aG}{A:bg}{env:aV}{sc:aU}{ρ ρ':aa az}{s s' s0:ay}{σ σ':AS}{K:ah}{P:AV->AS->Prop}{S M T it aL:az}{vf res:ao}{of:aA (az×aR)}{i:ah}{ys:aa DV}
theorem zo{c:aa AO->DV->(DV->Prop)->Prop}{xs:aa DV}{h':aM}{Q:ao->ay->Prop}(r:Rel w sc env σ ρ s0)(E:A.handled=none)(hsz:h'.objs.size=s0.heap.objs.size+3)(D:Ap env ρ (s0.heap.objs.size+3) (s0.heap.objs.size+2) (s0.heap.objs.size+1) s0.heap.objs.size of)(I:∀p,of=af p->p.1≠s0.heap.objs.size+3)(m:Mp w sc env ρ s0 σ (s0.heap.objs.size+3) (s0.heap.objs.size+2) (s0.heap.objs.size+1) s0.heap.objs.size aL vf of 0 [] {s0 with heap:=h'.push (bS #[] 0)})(V:∀(s:ay) (ys:aa DV),Way w sc env ρ s0 {σ with heap:=σ.heap++[.list ys]} (ρ++[s0.heap.objs.size+3]) s->∃(items:aK ao) (n:ah) (sl:aK (aA ao)),s.heap.get? aL=af (bS items n sl)/\RS s.heap (ρ++[s0.heap.objs.size+3]) xs items.toList)(C:n_ w sc env A.in1.in1.in1 σ.loc (ρ++[s0.heap.objs.size+3]) vf of c){PP:aa DV->Prop}(B:yO c σ.heap xs [] PP)(z:∀ys s',PP ys->Way w sc env ρ s0 {σ with heap:=σ.heap++[.list ys]} (ρ++[s0.heap.objs.size+3]) s'->Q (.ref (s0.heap.objs.size+3)) s'):aB (aE pw w) A (dW (.type "list") [.ref (s0.heap.objs.size+2)]) Q b7 {s0 with heap:=h'}:=by
 have Z:=r.bK.len;have H:s0.heap.objs.size+2≠s0.heap.objs.size+3/\s0.heap.objs.size+1≠s0.heap.objs.size+3/\s0.heap.objs.size≠s0.heap.objs.size+3:=⟨b8 (Z1 [.p (.p V0 (.n 2)) (.n 1),.p V0 (.n 3)] rfl),b8 (Z1 [.p (.p V0 (.n 1)) (.n 1),.p V0 (.n 3)] rfl),b8 (Z1 [.p V0 (.n 1),.p V0 (.n 3)] rfl)⟩;refine callType_codes (s:={s0 with heap:=h'}) (Q₁:=λU X=>U=.ref (s0.heap.objs.size+3)/\X={s0 with heap:=h'.push (bS #[] 0)}) F.called_list (F.typeCall_list_1 _) F.entry_list_init (code_list_new _ ⟨by show g9 h'.objs.size=_;rw[hsz],rfl⟩) λU X W=>?_;(refine bq W λO N=>?_;clear W;subst O;subst N);refine gu (m.obj Z) λitems n sl R y=>?_;have x:items.size=0:=by simpa using y.length
 have v:items=#[]:=Array.eq_empty_of_size_eq_zero x;subst v;refine⟨(aP _ R rfl),F.args_list_init_2 _ _,?_⟩;show aB _ A.in1.in1 (kJ (.ref (s0.heap.objs.size+3))>>=λold=>w6 (.ref (s0.heap.objs.size+3)) (λY=>#[])>>=λY=>PySem.letGo old.toList.reverse>>=λY=>w7 (.ref (s0.heap.objs.size+3)) (.ref (s0.heap.objs.size+2)) .none) _ _ _;refine au (dR R ?_);refine au (m:=oX (s0.heap.objs.size+3) (λY=>#[])) (lK R rfl (hz:=bW _) (_hz':=by show 0<=bw+1;exact Z1 [.n 0,.p V0 (.n 1)] rfl) ?_);have L:=jb (jc (λY=>(#[]:aK ao))) R rfl;refine au (m6 ?_);refine aZ (sR (o:=bS #[] n sl) rfl (λY=>(#[]:aK ao))) λG J=>?_;have u:(bS #[] n sl).mapSeq (λY=>(#[]:aK ao))=bS #[] G sl:=by
  have e:(bS #[] n sl).mapSeq (λY=>(#[]:aK ao))=⟨.type "list",none,((bS #[] n sl).mapSeq (λY=>(#[]:aK ao))).data,sl⟩:=rfl;rw[e,J];rfl
 have t:=m.chg Z H I (items:=#[]) (n:=G) (sl:=sl) (by rw[L,u]) (iP ..) λY=>RS.nil;refine Cy (A:=A.in1) (res:=.none) E D (bf _) Z H I C V (λys s' q l=>?_) B t;exact⟨rfl,z ys s' q l⟩
theorem x_{c:aa AO->DV->(DV->Prop)->Prop}{xs:aa DV}{h':aM}{Q:ao->ay->Prop}(r:Rel w sc env σ ρ s0)(C:A.handled=none)(hsz:h'.objs.size=s0.heap.objs.size+3)(B:h'.get? (s0.heap.objs.size+2)=af (zm (s0.heap.objs.size+1) vf))(z:Ap env ρ (s0.heap.objs.size+3) (s0.heap.objs.size+2) (s0.heap.objs.size+1) s0.heap.objs.size of)(y:∀p,of=af p->p.1≠s0.heap.objs.size+3)(m:Mp w sc env ρ s0 σ (s0.heap.objs.size+3) (s0.heap.objs.size+2) (s0.heap.objs.size+1) s0.heap.objs.size aL vf of 0 [] {s0 with heap:=h'.push (bS #[] 0)})(V:∀(s:ay) (ys:aa DV),Way w sc env ρ s0 {σ with heap:=σ.heap++[.list ys]} (ρ++[s0.heap.objs.size+3]) s->∃(items:aK ao) (n:ah) (sl:aK (aA ao)),s.heap.get? aL=af (bS items n sl)/\RS s.heap (ρ++[s0.heap.objs.size+3]) xs items.toList)(x:n_ w sc env A.in1.in1.in1.in1 σ.loc (ρ++[s0.heap.objs.size+3]) vf of c){PP:aa DV->Prop}(u:yO c σ.heap xs [] PP) (J:∀ys,PP ys->ys.length<=bw)(t:∀ys s' vs,PP ys->Way w sc env ρ s0 {σ with heap:=σ.heap++[.list ys]} (ρ++[s0.heap.objs.size+3]) s'->RS s'.heap (ρ++[s0.heap.objs.size+3]) ys vs->Q (.ref s'.heap.objs.size) {s' with heap:=s'.heap.push (jj vs.toArray 0)}):aB (aE pw w) A (dW (.type "tuple") [.ref (s0.heap.objs.size+2)]) Q b7 {s0 with heap:=h'}:=by
 have Y:=r.bK.len;have q:s0.heap.objs.size+2≠s0.heap.objs.size+3/\s0.heap.objs.size+1≠s0.heap.objs.size+3/\s0.heap.objs.size≠s0.heap.objs.size+3:=⟨b8 (Z1 [.p (.p V0 (.n 2)) (.n 1),.p V0 (.n 3)] rfl),b8 (Z1 [.p (.p V0 (.n 1)) (.n 1),.p V0 (.n 3)] rfl),b8 (Z1 [.p V0 (.n 1),.p V0 (.n 3)] rfl)⟩;refine callType_codes (s:={s0 with heap:=h'}) (Q₁:=λW Z=>Z.TypeIs W "tuple"/\Q W Z) F.called_tuple (F.typeCall_tuple_1 _) F.entry_object_init ?_ λW Z X=>⟨X.1,F.args_object_init_2 W _,object_init_meets F.called_tuple.init.lookup F.called_tuple.made (by decide) pw w A.in1 _ Z ⟨X.1,rfl,X.2⟩⟩;refine o6 ?_;show aB _ A.in1.in1 (sI "tuple.__new__" ⟨[.type "tuple",.ref (s0.heap.objs.size+2)],[]⟩>>=λg=>again (.builtin "tuple.__new__" ⟨[.type "tuple",.ref (s0.heap.objs.size+2)],[]⟩)) _ _ _;refine au (eB (F.newCall_tuple_1 _) (aD ⟨iJ pB _,iK F.entry_tuple_new ?_⟩));rw[jL pB _];have D:=sub_tuple_self;have I:=init_tuple_lookup;have o:=madeHere_tuple;have H:xr {s0 with heap:=h'} (.ref (s0.heap.objs.size+2)) "map":=aP _ B rfl;have G:∀(U:aa ao->ay->Prop),(∀ys s' vs,PP ys->Way w sc env ρ s0 {σ with heap:=σ.heap++[.list ys]} (ρ++[s0.heap.objs.size+3]) s'->RS s'.heap (ρ++[s0.heap.objs.size+3]) ys vs->U vs s')->aB (aE pw w) A.in1.in1 (collect (.ref (s0.heap.objs.size+2))) U b7 {s0 with heap:=h'}:=by
  intro U E;unfold collect;refine au (wpAny_runValue (iK F.entry_proto_collect ?_));rw[jL F.plain_proto_collect _];show aB _ A.in1.in1.in1 (newList []>>=λl=>again (.builtin "list.__iadd__" ⟨[l,.ref (s0.heap.objs.size+2)],[]⟩)) _ _ _;refine au (eM ?_);have e:({s0 with heap:=h'}:ay).heap.objs.size=s0.heap.objs.size+3:=hsz;rw[e];refine aD ⟨iJ F.plain_list_iadd _,iK F.entry_list_iadd ?_⟩;rw[jL F.plain_list_iadd _];show aB _ A.in1.in1.in1 (w7 (.ref (s0.heap.objs.size+3)) (.ref (s0.heap.objs.size+2)) (.ref (s0.heap.objs.size+3))) _ _ _;refine Cy (A:=A.in1.in1) (res:=.ref (s0.heap.objs.size+3)) (R:=wants (λv s'=>aB (aE pw w) A.in1.in1 (match v with|Value.ref a=>(do match (<-load a).data with|.seq xs _=>aX xs.toList|_=>unsupported "internal:collect")|_=>unsupported "internal:collect") U b7 s') b7) C z (bf _) Y q y x V (λys s' O N=>?_) u m;have k:(ρ++[s0.heap.objs.size+3])[σ.heap.length]?=af (s0.heap.objs.size+3):=by rw[jh ((Qe Y)),Y,cB];rfl
  have j:(σ.heap++[AO.list ys])[σ.heap.length]?=af (.list ys):=by rw[jh (bf _),cB];rfl
  refine gu (N.rel.bK.obj _ _ _ j k) λitems n sl h L=>?_;show aB _ _ (load (s0.heap.objs.size+3)>>=_) _ _ _;refine au (lJ h ?_);exact aD (E ys s' items.toList O N L)
 wp_walk using lM H,(G _);intro ys s' vs O N L;show aB _ _ (Builtin.Tuple.tupleExact vs.toArray>>=λv=>ret v) _ _ _;unfold Builtin.Tuple.tupleExact;refine au (eM ?_ (by show vs.toArray.size<=bw;rw[List.size_toArray,L.length];exact J ys O));exact aD ⟨(aP _ (b_ _ rfl) rfl),t ys s' vs O N L⟩
end
end
def Gd(env:aV)(ρ:aa az)(of:aA (az×aR))(s:ay):Prop:=∀p,of=af p->s.heap.get? p.1=af p.2/\p.1∉ρ/\p.1≠env.locals/\∀x,env.cells.lookup x≠af p.1
def Ai(K:ah)(sc:aU)(e:aF)(S:az)(first:aa AV):Prop:=∀(w:aG) (A:bg) (Z:aV) (Y:aa az) (s:ay) (U:AS),c5 K A->Rel w sc Z U Y s->∀Q:ao->ay->Prop,(∀T of X,Way w sc Z Y s U Y X->Gd Z Y of X->(∀(B:bg) (W:aa (aA AV)) (V:aa az),Di A B->n_ w sc Z B W V T of (yP (FJ K) S first))->Q T X)->aB (aE pw w) A (eval e Z) Q b7 s
section
variable{w:aG}{A:bg}{env:aV}{sc:aU}{ρ ρ':aa az}{s s':ay}{σ σ':AS}{K:ah}{P:AV->AS->Prop}{fa:az}{first:aa AV}
theorem Ai.fn{id:ai}{p:a_}(h:∀σ,Ev K sc (.Name id p) σ λv σ'=>v=.d (.con (.ref fa))/\σ'=σ):Ai K sc (.Name id p) fa []:=by
 intro w A env ρ s σ S r Q O;obtain⟨G,g,d,F,os⟩:=s;refine ef (bk (h σ w A env ρ _ S r) (λv s' Z=>kY Z λE σ' ρ' Y W R N st=>bq Y λV X D=>?_) λU U h=>h);subst V X;cases (N:v=_);have M:ρ'=ρ:=by
  (refine aQ W λl T U=>?_;clear W;subst T);have V:=r.bK.len;have X:=R.bK.len;rw[bU] at X;have:l=[]:=List.length_eq_zero_iff.mp (Ac [V0,.n 0,V1,V2,.p V2 V0,V1] rfl (Eq.symm V) X);rw[this,bY]
 subst M;refine O _ none _ ⟨W,R,st⟩ (λU q=>nomatch q) λB L ρ' J=>?_;induction K using cJ with|zero=>intro H x Q s v I;exact I.elim|succ K=>exact Ga (J.room S)
theorem Ai.make{id:ai}{p q:a_}(h:∀σ,Ev K sc (.Name id p) σ λv σ'=>v=.d (.con (.ref 135))/\σ'=σ):Ai K sc (.Attribute (.Name id p) "_make" q) 89 [.d (.con (.ref 135))]:=by
 intro w A env ρ s σ N r Q L;rw[arm_eval_Attribute,nU (by rfl) "_make" env];refine au ((h σ).run N r λJ Z x S W V=>bq V λR T Y I=>au (fm (au (bP ?_))));subst R T;cases (I:J=_);have G:W=ρ:=by
  (refine aQ Y.grow λl O z=>?_;subst O);have R:=r.bK.len;have T:=Y.rel.bK.len;rw[bU] at T;have:l=[]:=List.length_eq_zero_iff.mp (Ac [V0,.n 0,V1,V2,.p V2 V0,V1] rfl (Eq.symm R) T);rw[this,bY]
 subst G;have X:=tU Y.rel.top;refine cls_bind X (Sp w) (TQ w) (gc (cm_get (s:={Z with toks:=Z.toks+1}) X (QL w) ?_));show aB _ _ (handedOut _) _ _ _;have F:(Z.heap.push (methodObj (.ref 89) (.ref 135))).get? Z.heap.objs.size=af (methodObj (.ref 89) (.ref 135)):=b_ _ rfl;have U:=Way.push Y.rel (methodObj (.ref 89) (.ref 135)) (Z.toks+1);refine aD ?_;refine au (wpAny_letTemporaryGo (aD ?_));refine L _ (af (Z.heap.objs.size,methodObj (.ref 89) (.ref 135))) _ (Y.trans U) (λp e=>?_) λB E ρ' D=>?_
 ·cases e;have M:=jU (a:=Z.heap.objs.size) Y.rel (bf _);exact⟨F,M.1,M.2⟩
 ·induction K using cJ with|zero=>intro H x Q s v C;exact C.elim|succ K=>exact Gb (D.room N)
theorem Gd.way{of:aA (az×aR)}(h:Gd env ρ of s)(Y:Way w sc env ρ s σ' ρ' s'):Gd env ρ' of s':=λp e=>by
 refine rA (h p e) λX W V U=>?_;refine⟨Y.step.keep _ _ X V U W,λhm=>?_,V,U⟩;(refine aQ Y.grow λl Z T=>?_;subst Z);rcases d9 hm with hm|hm;·exact W hm
 ·exact aJ (b9 X) (iZ (T _ hm))
theorem Nq:Di A A.in1.in1.in1:=⟨by show A.depth<=_;exact Z1 [V0,.p V0 (.n 1)] rfl,by show A.units+1+1+1<=_;exact Z1 [.p (.p (.p V0 (.n 1)) (.n 1)) (.n 1),.p V0 (.n 8)] rfl,rfl⟩
theorem Nr:Di A A.in1.in1.in1.in1:=⟨by show A.depth<=_;exact Z1 [V0,.p V0 (.n 1)] rfl,by show A.units+1+1+1+1<=_;exact Z1 [.p (.p (.p (.p V0 (.n 1)) (.n 1)) (.n 1)) (.n 1),.p V0 (.n 8)] rfl,rfl⟩
theorem Ge{id:ai}{p:a_}{g xs:aF}{pos:a_}(E:Ev K sc (.Name id p) σ λv σ'=>v=.d (.con (.type "map"))/\σ'=σ)(D:Ai K sc g fa first)(I:noStar g=aj)(H:noStar xs=aj)(C:Ev K sc xs σ P)(G:c5 K A)(r:Rel w sc env σ ρ s){Q:ao->ay->Prop}(z:∀a X Z Y L J of,P a X->Way w sc env ρ s X Z Y->RA Y.heap Z a L->Gd env Z of Y->(∀(B:bg)(loc:aa (aA AV))(ρ':aa az),Di A B->n_ w sc env B loc ρ' J of (yP (FJ K) fa first))->aB (aE pw w) A (dW (.type "map") [J,L]) Q b7 Y):aB (aE pw w) A (eval (.Call (.Name id p) [g,xs] [] pos) env) Q b7 s:=by
 refine wY (E.run G r λy Y n X Z R=>bq R λx u W t=>?_);subst x u;cases (t:y=_);refine pU (gG (by simp[I,H]) (args_cons (D w A env Z Y _ G W.rel _ λJ of F V q O=>args_cons (C.run G V.rel λL N a T S M U o=>args_nil ⟨Kp.type,?_⟩) (dG H _ _)) (dG I _ _))) (by rw[gC pos env _ (by simp[I,H])];rfl);exact z a T S N L J of M ((W.trans V).trans U) o (q.way U) O
theorem Ev.s9{l:aH}{id N:ai}{p B q pos:a_}{g xs:aF}(F:Ev K sc (.Name id p) σ λv σ'=>v=.d (.con (.type (if l then"list"else"tuple")))/\σ'=σ)(o:Ev K sc (.Name N B) σ λv σ'=>v=.d (.con (.type "map"))/\σ'=σ)(n:Ai K sc g fa first)(k:noStar g=aj)(j:noStar xs=aj)(i:Ev K sc xs σ λa Y=>Fv (FJ K) l fa first a P Y):Ev K sc (.Call (.Name id p) [.Call (.Name N B) [g,xs] [] q] [] pos) σ P:=λw A env ρ s G r=>by
 refine wY (F.run G r λf z av Y E M=>bq M λb e2 W rg=>?_);subst b e2;cases (rg:f=_);refine pU (gG (by rfl) (args_cons (Ge o n k j i G W.rel λa S Q L va vf of V Z ra F U=>?_) (dG (by rfl) _ _))) (by rw[gC pos env _ (by rfl)];rfl);(refine aQ V λzs D J=>?_;clear V);have I:=W.trans Z;refine Dj Z.rel D ra F (PP:=λø=>True) (X:=aX .none) (c:=yP (FJ K) fa first) λaL h' e hk H hM y x m T=>args_nil ⟨Kp.type,?_⟩;subst e;induction l using jx with
 |true=> refine zo Z.rel G.handled H y x m T (U _ _ _ Nq) J λu s' C O=>?_;refine(I.trans O).pv (RA.ref ?_) C.2;show (Q++[L.heap.objs.size+3])[S.heap.length]?=_;have len:=Z.rel.bK.len;rw[jh ((Qe len)),len,cB];rfl|false=> refine x_ Z.rel G.handled H hM y x m T (U _ _ _ Nr) J (λu h=>h.1) λu s' vs C O hs=>?_;have t:=Way.push O.rel (jj vs.toArray 0) s'.toks;refine((I.trans O).trans t).pv (RA.d (R.tup (b_ _ rfl) (ee O.rel) ?_)) C.2;exact hs.mono (t.k8 O.rel)
end
theorem Dk:findCls [] (.type "tuple") (.type "type") "__new__"=af (.val (.builtin "tuple.__new__")):=by kernel_rfl
theorem Gf:fP (.type "tuple")=aX (.type "type"):=by kernel_rfl!
section
variable{w:aG}{A:bg}{env:aV}{sc:aU}{ρ ρ':aa az}{s s':ay}{σ σ':AS}{K:ah}{P:AV->AS->Prop}{fa:az}{first:aa AV}
theorem zp{Q:ao×aa ao->ay->Prop}{W:Sem aH}{E:ao->ay->Prop}(h:Q (.builtin "tuple.__new__",[]) {s with toks:=s.toks+1}):aB (aE pw w) A (getMethod (.type "tuple") "__new__" W) Q E s:=by
 have X:Frag.In [] s.heap:=λa o e=>by cases e
 have V:opaqueClassAbove (.type "tuple")=aX none:=by unfold opaqueClassAbove;dsimp only;rw[show Manifest.isStub "tuple"=aC by decide+kernel];rfl
 have Y:Looks (aE pw w) s.heap (fP (.type "tuple")) (.type "type"):=Looks.of_pure Gf;unfold getMethod specialOf;refine au (au (Y.here ((looks_findIn X type_tga).here ?_)));dsimp only;rw[aW canon_tga];refine au (bk (Q:=λv=>Q (v,[])) (E:=E) ?_ (λZ Z z=>aD z) λZ Z z=>z);exact cls_open X (Looks.of_pure V) Y type_tga (looks_hook X (r:=none) (by rfl)) (by kernel_rfl) Dk (aD (handed_on (by decide+kernel) h))
theorem Ev.C4{id:ai}{p L pos:a_}{Y:aa aF}(F:Ev K sc (.Name id p) σ λv σ'=>v=.d (.con (.type "tuple"))/\σ'=σ)(E:(L.endLine==pos.line)=aj)(J:Y.all noStar=aj)(S:Y.length<29)(h:Ls K sc Y σ λas Z=>Ft as P Z):Ev K sc (.Call (.Attribute (.Name id p) "__new__" L) Y [] pos) σ P:=λw A env ρ s I r=>by
 rw[arm_eval_Call,nU (by rfl) "__new__" env];refine au (F.run I r λD R x Z H Q=>bq Q λC B X z=>au (fm ?_));subst C B;cases (z:D=_);have U:methodCallForm (Y.length+([]:aa Keyword).length) (backTo pos (i9 Y env)) (backToKw pos (keywordEach [] env))=aj:=by
  show (_&&_&&_)=aj;rw[cu,cu];exact⟨⟨tJ pos env Y J,rfl⟩,eF (by show Y.length+0+0<30;exact Z1 [.p (.p (.p V0 (.n 0)) (.n 0)) (.n 1),.n 30,.p V0 (.n 1),.n 29] rfl S)⟩
 have O:methodCallPos aj (.Name id p) env L pos=aX pos:=by unfold methodCallPos;simp[E]
 unfold methodCall;rw[U];refine au (bP (zp ?_));refine au (eB O ?_);have W:=X.trans (Way.toks X.rel (R.toks+1));refine pU (gG J (h.run pos I W.rel λy N as G T M V u=>⟨Kp.builtin,?_⟩)) (by rw[gC pos env Y J];rfl);exact(W.trans V).kP (zk M w A env T N I V.rel y u)
end
def Ext(s s':ay):Prop:=∃Z,s'={s with heap:=Z}/\(∀b o,s.heap.get? b=af o->Z.get? b=af o)/\s.heap.objs.size<=Z.objs.size
section
variable{w:aG}{A:bg}{env:aV}{sc:aU}{ρ ρ':aa az}{s s':ay}{σ σ':AS}{K:ah}{P:AV->AS->Prop}{cI:Fl->AS->Prop}{H H':aa AO}{h h':aM}
theorem Ext.way(r:Rel w sc env σ ρ s)(e:Ext s s'):Way w sc env ρ s σ ρ s':=by
 (refine cC e λh' Z Y X=>?_;clear e;subst Z);exact Way.all r Y X rfl rfl
theorem ya{t:az}{items:aK ao}{Q:aa ao->ay->Prop}(N:A.handled=none)(W:s.heap.IsTuple t items)(M:∀s',Ext s s'->Q items.toList s'):aB (aE pw w) A (unpackItems (.ref t) items.size none) Q b7 s:=by
 have V:t≠s.heap.objs.size:=by(refine aQ W λo L I=>?_;clear W);exact b8 (b9 L)
 refine au ?_;refine au (gY W.typeIs PySem.F.slot_tuple_iter.lookup ?_);refine aD ?_;refine au (bP (wpAny_pyIter_tuple W ?_));refine au (bP (wpAny_draw_tuple V items.size 0 _ _ (cy _ (b_ _ rfl) rfl rfl) (W.push _) (Z1 [.p (.n 0) V0,V0] rfl) λS X Z=>?_));have U:List.take items.size (List.drop 0 items.toList)=items.toList:=by rw[mV];exact i6 (by simp)
 rw[U];rw[aI (by simp)];refine au (bP (next_tuple_end N X (.of ((W.push _).extBut Z.extBut V)) (by simp) λT Y=>?_));refine aD (M _ (cy T rfl (λb o e=>?_) ?_))
 ·have R:b≠s.heap.objs.size:=b8 (b9 e);exact Y.keep b o R (Z.extBut b o R (bZ _ e))
 ·have J:=Y.size;have O:=Z.1;rw[dJ] at O;exact br (iD _) (br (cA O.symm) J)
noncomputable def HT(K:ah)(sc:aU):aa aF->aa AV->(AS->Prop)->AS->Prop |[],[],P,σ=>P σ|t::Y,a::as,P,σ=>As K sc t a σ λZ=>HT K sc Y as P Z|_,_,_,_=>bG
theorem Dl{t:aF}{env:aV}(h:noStar t=aj)(Z:aa aF):kI (t::Z) env=(aC,iO t env)::kI Z env:=by induction t using fQ<;>first|rfl|exact ft h
theorem Cz{env:aV}:∀{Z:aa aF},Z.all noStar=aj->(kI Z env).map (·.2)=Z.map (λt=>iO t env)/\(kI Z env).findIdx? (·.1)=none/\(kI Z env).length=Z.length:=by
 intro Z;induction Z with |nil=>exactλU=>⟨rfl,rfl,rfl⟩|cons t Z Y=>
  intro h;rw[qj,cu] at h;refine cL (Y h.2) λX W V=>?_;have e:kI (t::Z) env=(aC,iO t env)::kI Z env:=by exact Dl h.1 Z
  rw[e];refine⟨by rw[ek,X];rfl,?_,by rw[jE,V];rfl⟩;rw[List.findIdx?_cons,W];rfl
theorem HT.run(J:c5 K A){P:AS->Prop}:∀{Q:aa aF}{as:aa AV}{vs:aa ao}{σ:AS}{ρ:aa az}{s:ay},HT K sc Q as P σ->Rel w sc env σ ρ s->jQ s.heap ρ as vs->aB (aE pw w) A (assignInOrder (Q.map λt=>iO t env) vs) (λW s'=>∃σ' ρ',P σ'/\Way w sc env ρ s σ' ρ' s') b7 s:=by
 intro I;induction I with
 |nil=>
  intro G;induction G using aO with |nil=> intro vs σ ρ s h r V;subst V;exact aD (cG σ ρ h (Way.refl r))|cons C B=> intro _ _ _ _ h _ _;exact h.elim
 |cons t Q F=> intro E;induction E using aO with
  |nil=> intro _ _ _ _ h _ _;exact h.elim|cons a as=>
   intro vs σ ρ s h r V;obtain⟨v,vs,rfl,D,V⟩:=V;refine au (bP (bk (h w A env ρ s J r v D) (λW M ⟨O,N,U,Z⟩=>?_) λW W h=>h));exact bk (F U Z.rel (V.mono (Z.k8 r))) (λW L T=>cz T λY X S R=>⟨Y,X,S,Z.trans R⟩) λW W h=>h
theorem jQ.of{h:aM}{ρ:aa az}:∀{l:aa DV}{vs:aa ao},RS h ρ l vs->jQ h ρ (l.map .d) vs:=by
 intro l;induction l with
 |nil=> intro _ e;exact e|cons V U Z=> intro _ Y;obtain⟨v,r,e,X,W⟩:=Y;exact⟨v,r,e,X,Z W⟩
theorem As.tup{R:aa aF}{k:ah}{pos:a_}{l:aa DV}{P:AS->Prop}(I:R.all noStar=aj)(G:l.length=R.length)(h:HT K sc R (l.map .d) P σ):As K sc (.Tuple R k pos) (.d (.tup l)) σ P:=by
 (refineλw A env ρ s O r x Y=>mL Y λa items n V F E N=>?_;clear Y;subst V);have D:s.heap.IsTuple a items:=cy _ F rfl ⟨n,rfl⟩;refine cL (Cz (env:=env) I) λC B z=>?_;have Q:items.size=l.length:=by simpa using N.length
 refine au (fm ?_);unfold unpack;rw[z,B,<-G,<-Q];refine au (bP (ya O.handled D λM y=>?_));have Z:=y.way r;rw[C];exact bk (h.run O Z.rel (jQ.of (N.mono (Z.k8 r)))) (λL J U=>cz U λX W T S=>cG X W T (Z.trans S)) λL L h=>h
theorem Ex.Nt{S L:aa aF}{k E:ah}{p q pos:a_}{P:Fl->AS->Prop}(y:S.all noStar=aj)(x:∀env:aV,Shape sc env->oW [.Tuple S k p] (.Tuple L E q) env=aX none)(h:Ls K sc L σ λas Z=>as.length<=bw/\as.length=S.length/\HT K sc S as (λT=>P .next T) Z):Ex K sc (.Assign [.Tuple S k p] (.Tuple L E q) pos) σ P:=λw A env ρ s J r=>by
 refine Assign_Tuple (wpAny_Tuple (h.run q J r λN Y as Z I X=>cL X λl j v W D=>?_)) rfl (x env r.shape);have U:=D.length;refine⟨Z3 [V0,V1,V2,V1,V0,V2] rfl X.1 (Qe U),?_⟩;have M:=Way.push W.rel (jj N.toArray 0) Y.toks;refine cL (Cz (env:=env) y) λu t o=>?_;have n:(Y.heap.push (jj N.toArray 0)).IsTuple Y.heap.objs.size N.toArray:=cy _ (b_ _ rfl) rfl ⟨0,rfl⟩;refine au (fm ?_);unfold unpack;rw[o,t,show S.length=N.toArray.size by rw[List.size_toArray];exact Ac [V0,V1,V0,V2,V2,V1] rfl (Eq.symm X.2.1) (Eq.symm U)];refine au (bP (ya J.handled n λC m=>?_));have V:=m.way M.rel;rw[u];exact bk (v.run J V.rel ((D.mono (M.k8 W.rel)).mono (V.k8 M.rel))) (λB z R=>cz R λG F Q O=>(((W.trans M).trans V).trans O).pf (fl:=.next) trivial Q) λB B h=>h
theorem Gg(z:c5 K A):∀{names:aa ai}{is:aa ah}{as:aa AV}{vs:aa ao}{σ:AS}{ρ:aa az}{s:ay},names.length=is.length->as.length=is.length->(∀p∈names.zip is,sc.names[p.2]?=af (p.1,NameKind.local))->Rel w sc env σ ρ s->jQ s.heap ρ as vs->aB (aE pw w) A (assignInOrder (names.map λn=>bindName env n) vs) (λY s'=>Way w sc env ρ s {σ with loc:=xO is as σ.loc} ρ s') b7 s:=by
 intro O;induction O with
 |nil=>
  intro N;induction N using aO with
  |nil=>
   intro M;induction M using aO with
   |nil=> intro vs σ ρ s _ _ _ r X;subst X;exact aD (Way.refl r)|cons y u=> intro _ _ _ _ _ h _ _ _;exact dY h
  |cons t q=> intro _ _ _ _ _ h _ _ _ _;exact dY h
 |cons x names L=> intro J;induction J using aO with |nil=> intro _ _ _ _ _ h _ _ _ _;exact dY h|cons i is=> intro I;induction I using aO with |nil=> intro _ _ _ _ _ h _ _ _;exact dY h|cons a as=>
    intro vs σ ρ s G F U r X;obtain⟨v,vs,rfl,E,X⟩:=X;have T:=U (x,i) (.head _);have key:aB (aE pw w) A (bindName env x v) (λY s'=>Way w sc env ρ s {σ with loc:=σ.loc.set i (af a)} ρ s') b7 s:=by
     obtain⟨m,S,D⟩:=r.frame.ns;exact bindName_ (AD (r.kind T) S (λh' C W=>⟨eY.refl _ _,r.assign T S C W E D,step_same W (.inl rfl)⟩) (by rw[r.shape.scope,r.shape.fn];rfl))
    refine au (bP (bk key (λY R Z=>?_) λY Y h=>h));exact bk (L (by simpa using G) (by simpa using F) (λp B=>U p (.tail _ B)) Z.rel (X.mono (Z.k8 r))) (λY Q V=>Z.trans V) λY Y h=>h
theorem jQ.snoc{h:aM}{ρ:aa az}{a:AV}{v:ao}:∀{l:aa AV}{vs:aa ao},jQ h ρ l vs->RA h ρ a v->jQ h ρ (l++[a]) (vs++[v]):=by
 intro l;induction l with |nil=>
  intro _ e q;cases e;exact bM v [] rfl q rfl|cons V U Z=>
  intro _ Y q;obtain⟨u,r,e,X,W⟩:=Y;exact⟨u,r++[v],by rw[e];rfl,X,Z W q⟩
theorem jQ.rev{h:aM}{ρ:aa az}:∀{l:aa AV}{vs:aa ao},jQ h ρ l vs->jQ h ρ l.reverse vs.reverse:=by
 intro l;induction l with
 |nil=> intro _ e;cases e;exact rfl|cons V U Z=>
  intro _ Y;obtain⟨u,r,e,X,W⟩:=Y;rw[e,oJ,oJ];exact(Z W).snoc X
theorem CA{α Z:Type}:∀{l:aa α}{r:aa Z},l.length=r.length->l.reverse.zip r.reverse=(l.zip r).reverse
 |[],[],_=>rfl|a::l,b::r,h=>by
  rw[oJ,oJ,List.zip_append (by simpa using h),CA (by simpa using h)];show _=((a,b)::l.zip r).reverse;rw[oJ];rfl
theorem Ex.Nu{L Q:aa aF}{k J:ah}{p q pos:a_}{P:Fl->AS->Prop}{names:aa ai}{is:aa ah}(C:∀env:aV,Shape sc env->oW [.Tuple L k p] (.Tuple Q J q) env=aX (af names))(O:names.length=is.length)(hi:∀p∈names.zip is,sc.names[p.2]?=af (p.1,NameKind.local))(h:Ls K sc Q σ λas Z=>as.length<=bw/\as.length=is.length/\P .next {Z with loc:=xO is.reverse as.reverse Z.loc}):Ex K sc (.Assign [.Tuple L k p] (.Tuple Q J q) pos) σ P:=λw A env ρ s N r=>by
 refine Assign_Tuple_swapped (wpAny_Tuple (h.run q N r λS Y as Z M X=>cL X λv B z W I=>?_)) rfl (C env r.shape);have U:=I.length;refine⟨Z3 [V0,V1,V2,V1,V0,V2] rfl X.1 (Qe U),?_⟩;have R:=Way.push W.rel (jj S.toArray 0) Y.toks;have y:(Y.heap.push (jj S.toArray 0)).IsTuple Y.heap.objs.size S.toArray:=cy _ (b_ _ rfl) rfl ⟨0,rfl⟩;rw[show names.length=S.toArray.size by rw[List.size_toArray];exact vh [V0,V1,V0,V2,V2,V3,V3,V1] rfl O (Eq.symm X.2.1) (Eq.symm U)];refine ya N.handled y λG x=>?_;have V:=x.way R.rel;refine bk (Gg N (by simpa using O) (by simpa using B) (λp F=>hi p ?_) V.rel (((I.mono (R.k8 W.rel)).mono (V.k8 R.rel)).rev)) (λE D T=>(((W.trans R).trans V).trans T).pf (fl:=.next) trivial z) λE E h=>h;rw[CA O] at F;exact List.mem_reverse.mp F
noncomputable def Nv(K:ah)(sc:aU):aa aF->AV->(AS->Prop)->AS->Prop |[],_,P,σ=>P σ|t::Y,a,P,σ=>As K sc t a σ λZ=>Nv K sc Y a P Z
theorem Nv.run(M:c5 K A){P:AS->Prop}{a:AV}{v:ao}:∀{Q:aa aF}{σ:AS}{ρ:aa az}{s:ay},Nv K sc Q a P σ->Rel w sc env σ ρ s->RA s.heap ρ a v->aB (aE pw w) A (assignAll v (Q.map λt=>iO t env)) (λV s'=>∃σ' ρ',P σ'/\Way w sc env ρ s σ' ρ' s') b7 s:=by
 intro I;induction I with |nil=> intro σ ρ s h r U;exact aD (cG σ ρ h (Way.refl r))|cons t G F=>induction G using aO with |nil=> intro σ ρ s h r U;exact h w A env ρ s M r v U|cons E Q=>
   intro σ ρ s h r U;refine au (bP (bk (h w A env ρ s M r v U) (λV L Z=>cz Z λO N T Y=>?_) λV V h=>h));exact bk (F T Y.rel (U.mono (Y.k8 r))) (λV J Z=>cz Z λX W S R=>cG X W S (Y.trans R)) λV V h=>h
theorem Ex.QV{W:aa aF}{e:aF}{pos:a_}{P:Fl->AS->Prop}(J:W.all noStar=aj)(I:∀env:aV,swapsWithSole W e pos.line env=aX aC)(G:∀env:aV,Shape sc env->oW W e env=aX none)(h:Ev K sc e σ λa Z=>Nv K sc W a (λY=>P .next Y) Z):Ex K sc (.Assign W e pos) σ P:=λw A env ρ s O r=>by
 refine wpAny_Assign_stores (h.run O r λv N a Z R V X F=>?_) (I env) (G env r.shape);rw[(Cz (env:=env) J).1];exact bk (V.run O X.rel F) (λM L U=>cz U λY Q T S=>(X.trans S).pf (fl:=.next) trivial T) λM M h=>h
end
theorem K7(w:aG):peek (kM w.params) ⟨pw,w.params⟩ (d7 (.ref 135) "__iter__")=af (af (.builtin "tuple.__iter__")):=by kernel_rfl!
theorem QW(w:aG):peek (kM w.params) ⟨pw,w.params⟩ (d7 (.ref 135) "__len__")=af (af (.builtin "tuple.__len__")):=by kernel_rfl!
theorem CB:qA "tuple.__iter__"=af .slot/\splitId "tuple.__iter__"=af ("tuple","__iter__")/\qA "tuple.__len__"=af .slot/\splitId "tuple.__len__"=af ("tuple","__len__"):=by decide+kernel
section
variable{w:aG}{A:bg}{env:aV}{sc:aU}{ρ ρ':aa az}{s s':ay}{σ σ':AS}{K:ah}{P:AV->AS->Prop}{E:ao->ay->Prop}
theorem tW{x:az}{items:aK ao}{n:ah}{d:aA az}{name:ai}{r:aA ao}{Q:aA ao->ay->Prop}(X:(kM w.params).In s.heap)(Z:s.heap.get? x=af (qJ items n d))(e:peek (kM w.params) ⟨pw,w.params⟩ (d7 (.ref 135) name)=af r)(Y:Q r s):aB (aE pw w) A (specialOf (.ref x) name) Q E s:=by
 unfold specialOf fP;exact au (au (o5 Z (aD ((qD (M:=aE pw w) X e).here Y))))
theorem yb{x:az}{items:aK ao}{n:ah}{d:aA az}(X:(kM w.params).In s.heap)(Z:s.heap.get? x=af (qJ items n d)):Looks (aE pw w) s.heap (kH (.ref x) (.type "tuple")) aj:=λA Q E s' k q=>by
 unfold kH;refine au ?_;unfold fP;refine au (o5 (k _ _ Z) (aD ?_));exact((qD (M:=aE pw w) X (So w)).keeps k).here q
theorem CC{self:ao}:bindSpecial (.builtin "tuple.__iter__") self=aX (.builtin "tuple.__iter__",[self])/\bindSpecial (.builtin "tuple.__len__") self=aX (.builtin "tuple.__len__",[self]):=⟨PySem.F.slot_tuple_iter.bind self,PySem.F.slot_tuple_len.bind self⟩
theorem IU{x:az}{items:aK ao}{n:ah}{d:aA az}{Q:ao->ay->Prop}(X:(kM w.params).In s.heap)(Y:s.heap.get? x=af (qJ items n d))(Z:(items.size:aq)<2^63)(h:Q (.int items.size (s.toks+1)) {s with toks:=s.toks+1+1}):aB (aE pw w) A (dW (.builtin "len") [.ref x]) Q E s:=by
 refine call_function_entry kind_len plain_len entry_len (args_len1 _) ?_;unfold Builtin.«len»;refine au (m:=oneArg "len" _) (aD ?_);refine au (m:=callSpecial? (.ref x) (jM "__len__")) ?_;unfold callSpecial?;refine au (tW X Y (QW w) ?_);refine bP ?_;rw[CC.2];refine au (aD ?_);refine au (bk (Q:=λv s'=>v=.int items.size s.toks/\s'={s with toks:=s.toks+1}) (E:=E) ?_ (λv s' z=>?_) λU U h=>h)
 ·refine gc (lN PySem.F.slot_tuple_len.plain PySem.F.entry_tuple_len (check_slot CB.2.2.1 CB.2.2.2 (yb X Y) (PySem.F.args_tuple_len_1 _) ?_));show aB _ _ (w_ (.ref x)>>=λT=>retInt T.size) _ _ s;unfold w_;refine au (au (fZ Y rfl (aD ?_)));exact au (wpAny_mkInt (aD ⟨rfl,rfl⟩))
 (refine bq z λW V=>?_;clear z;subst W;subst V);refine aD ?_;refine au (bP (aD ?_));refine au (m6 ?_);show aB _ _ (if ((items.size:ah):aq)<0 then _ else _) _ _ _;rw[aI (by exact Int.not_lt.mpr (bJ [_] [] 1 [] [.n 0,.c V0] rfl))];show aB _ _ (if ((items.size:ah):aq)>=2^63 then _ else _) _ _ _;rw[aI (Int.not_le.mpr (Z))];exact au (wpAny_mkInt (aD (aP _ rfl h)))
theorem Gh{x:az}{items:aK ao}{n:ah}{d:aA az}{Q:ao->ay->Prop}(X:(kM w.params).In s.heap)(S:s.heap.get? x=af (qJ items n d))(O:Q (.ref s.heap.objs.size) {s with heap:=s.heap.push {cls:=.type "tuple_iterator",data:=.fields #[.ref x,.int 0 0]}}):aB (aE pw w) A (jK (.ref x)) Q E s:=by
 unfold jK;refine au (tW X S (K7 w) ?_);show aB _ A (AE (.ref x) "__iter__" _>>=_) Q E s;refine au ?_;rw[AE,bindSpecialIfBound?];refine bP (au (au (tW X S (K7 w) ?_)));dsimp only;rw[CC.1];have U:∀{Z:Sem ao}{R:aA ao->ay->Prop},(∀v s',v=.ref s.heap.objs.size/\s'={s with heap:=s.heap.push {cls:=.type "tuple_iterator",data:=.fields #[.ref x,.int 0 0]}}->R (af v) s')->aB (aE pw w) A (if (xu "tuple.__iter__"==Value.none)=aj then (Z>>=λv=>aX (af v)) else (dW (.builtin "tuple.__iter__") [.ref x]>>=λv=>aX (af v))) R E s:=by
  intro Z R h;refine rwL (aI cS) ?_;refine au (gc (lN PySem.F.slot_tuple_iter.plain PySem.F.entry_tuple_iter (check_slot CB.1 CB.2.1 (yb X S) (PySem.F.args_tuple_iter_1 _) ?_)));show aB _ _ (do ret (<-newFields "tuple_iterator" [.ref x,cT 0])) _ _ s;exact au (eM (aD (aD (h _ _ ⟨rfl,rfl⟩))))
 refine au (qz (wpAny_ite ?_));split
 ·refine au (aD (aD (U ?_)));(refineλv s' Y=>bq Y λW V=>?_;subst W;subst V);exact au (gY (T:="tuple_iterator") (aP _ (b_ _ rfl) rfl) PySem.F.slot_tuple_iterator_next.lookup (aD O))
 ·refine o7 (au (aD (aD (U ?_))));(refineλv s' Y=>bq Y λW V=>?_;clear Y;subst W;subst V);exact au (gY (T:="tuple_iterator") (aP _ (b_ _ rfl) rfl) PySem.F.slot_tuple_iterator_next.lookup (aD O))
theorem IV{it t:az}{i:ah}{items:aK ao}{x:ao}{Q:aA ao->ay->Prop}(Z:s.heap.IsTupleIter it t i)(U:uQ s.heap t items)(T:items[i]?=af x)(S:∀h',h'.IsTupleIter it t (i+1)->fu it s.heap h'->Q (af x) {s with heap:=h'}):aB (aE pw w) A (eX (.ref it)) Q E s:=by
 refine cC (id Z) λo X R Y=>?_;(refine cz U λO N W V=>?_;clear U);unfold eX;refine au (kB (lI (name:=jM "__next__") Z.typeIs xg (dP xg Z.typeIs Ey ?_ (Ez _))));show aB _ _ (field (.ref it) 0>>=_) _ _ s;refine au (gZ X Y (x:=.ref t) rfl ?_);show aB _ _ (if (g9 t==Value.none)=aj then _ else _) _ _ s;rw[aI (show¬((g9 t==Value.none)=aj) from cS)];show aB _ _ (field (.ref it) 1>>=_) _ _ s;refine au (gZ X Y (x:=.int i 0) rfl ?_);show aB _ _ (seqItems? (.ref t)>>=_) _ _ s;refine au (fZ W V ?_);dsimp only;rw[dM,T];refine au (qw X Y (by simp) (aD (aP x rfl (aD (S _ ?_ (iP ..))))));exact cy _ (jb _ X (Obj.isFreed_of_fields (Obj.data_mapFields Y _))) ((Obj.cls_mapFields ..).trans R) (by rw[Obj.data_mapFields Y];simp[cT])
theorem IW{it t:az}{items:aK ao}(R:t≠it):∀(n i:ah)(s:ay)(Q:aa ao->ay->Prop),s.heap.IsTupleIter it t i->uQ s.heap t items->i+n<=items.size->(∀h',h'.IsTupleIter it t (i+n)->fu it s.heap h'->Q ((items.toList.drop i).take n) {s with heap:=h'})->aB (aE pw w) A (draw (.ref it) n) Q E s:=by
 intro n;induction n with|zero=>exactλi s Q W L L O=>aD (by simpa using O s.heap W (Heap.SameBut.refl ..))|succ n J=>
  intro i s Q W N U O;have T:i<items.size:=by exact Z3 [.p V0 (.n 1),V1,.p V0 (.p V2 (.n 1)),V1] rfl U
  refine au (IV W N (x:=items[i]) (by simp[T]) λM Y Z=>?_);refine au (bP (J (i+1) _ _ Y (N.extBut Z.extBut R) (Z3 [.p (.p V0 (.n 1)) V1,V2,.p V0 (.p V1 (.n 1)),V2] rfl U) λS X V=>aD ?_));have I:items.toList.drop i=items[i]::items.toList.drop (i+1):=by simp[e8,T]
  have:=O S (by rw[show i+(n+1)=i+1+n by exact lZ [.p V0 (.p V1 (.n 1)),.p (.p V0 (.n 1)) V1] rfl];exact X) (Z.trans V);rw[I,wA] at this;exact this
theorem IX{t:az}{items:aK ao}{n:ah}{d:aA az}{Q:aa ao->ay->Prop}(X:(kM w.params).In s.heap)(J:A.handled=none)(N:s.heap.get? t=af (qJ items n d))(I:∀s',Ext s s'->Q items.toList s'):aB (aE pw w) A (unpackItems (.ref t) items.size none) Q b7 s:=by
 have S:t≠s.heap.objs.size:=b8 (b9 N);unfold unpackItems;refine au ?_;unfold notIterableAtAll;refine au (tW X N (K7 w) ?_);refine aD ?_;refine rwL (aI cS) ?_;refine au (bP (Gh X N ?_));have R:uQ (s.heap.push {cls:=.type "tuple_iterator",data:=.fields #[.ref t,.int 0 0]}) t items:=cG _ n (bZ _ N) rfl;refine au (bP (IW S items.size 0 _ _ (cy _ (b_ _ rfl) rfl rfl) R (Z1 [.p (.n 0) V0,V0] rfl) λV W Z=>?_));have O:List.take items.size (List.drop 0 items.toList)=items.toList:=by rw[mV];exact i6 (by simp)
 rw[O];rw[aI (by simp)];have T:uQ V t items:=R.extBut Z.extBut S;refine au (bP (next_tuple_end J W T (by simp) λU Y=>?_));refine rwL (aI cS) ?_;refine aD (I _ (cy U rfl (λb o e=>?_) ?_))
 ·have M:b≠s.heap.objs.size:=b8 (b9 e);exact Y.keep b o M (Z.extBut b o M (bZ _ e))
 ·have H:=Y.size;have L:=Z.1;rw[dJ] at L;have G:V.objs.size<=U.objs.size:=H;exact br (iD _) (br (cA L.symm) G)
theorem As.qI{V:aa aF}{k:ah}{pos:a_}{l:aa DV}{P:AS->Prop}(I:V.all noStar=aj)(H:l.length=V.length)(h:HT K sc V (l.map .d) P σ):As K sc (.Tuple V k pos) (.d (.qI l)) σ P:=by
 (refineλw A env ρ s O r y Y=>eR Y λa items n d U G F N=>?_;clear Y;subst U);refine cL (Cz (env:=env) I) λD C B=>?_;have Q:items.size=l.length:=by simpa using N.length
 show aB _ _ (do standAt pos;unpack (.ref a) (kI V env)) _ _ _;refine au (fm ?_);unfold unpack;rw[B,C,<-H,<-Q];refine au (bP (IX (tU r.top) O.handled G λM z=>?_));have Z:=z.way r;rw[D];exact bk (HT.run O h Z.rel (jQ.of (N.mono (Z.k8 r)))) (λL J T=>cz T λX W S R=>cG X W S (Z.trans R)) λL L h=>h
end
def Gi(h:aM)(x:az):Prop:=∃T o,fJ (.type T)=aC/\h.get? x=af o/\o.cls=.type T
def Gj(X:aa az)(h h':aM):Prop:=(∀b o,b∉X->h.get? b=af o->h'.get? b=af o)/\h.objs.size<=h'.objs.size
section
variable{w:aG}{A:bg}{env:aV}{sc:aU}{ρ ρ' aY cM:aa az}{s s' s₁ s₂:ay}{σ σ' σ₁ σ₂:AS}{K:ah}{P:AV->AS->Prop}{cI:Fl->AS->Prop}{h h':aM}{X:aa az}
theorem zq(V:∀x∈X,Gi h x)(q:Gj X h h'):mQ h ρ h' ρ:=by
 refine⟨λa o Z Y U=>⟨q.1 a o (λS=>?_) Z,U⟩,λR R h=>h⟩;refine cU (V a S) λT N Q W O=>?_;rw[Z] at W;cases W;rw[O,Q] at Y;cases Y.2
def Own(env:aV)(s:ay)(ρ':aa az)(h:aM)(X:aa az):Prop:=∀x∈X,s.heap.objs.size<=x/\x∉ρ'/\Gi h x
theorem Way.apart(r:Rel w sc env σ ρ s)(a:Way w sc env ρ s σ₁ aY s₁)(V:Own env s aY s₁.heap X)(q:Gj X s₁.heap h')(tk:ah)(d:Drawn):Way w sc env ρ s σ₁ aY ⟨h',s₁.gens,d,tk,s₁.os⟩:=by
 have O:mQ s₁.heap aY h' aY:=zq (λx Z=>(V x Z).2.2) q;have N:∀x∈X,x≠env.locals:=λx Z e=>aJ (fK r) (iZ (e▸(V x Z).1));have M:∀x∈X,∀y,env.cells.lookup y≠af x:=λx Z y e=>aJ (fG r e) (iZ (V x Z).1);have W:=a.rel;refine⟨a.grow,⟨W.shape,λb o U=>q.1 b o (λY=>?_) (W.top b o U),br W.size q.2,W.locs,W.frame.keep O (λo T=>q.1 _ o (λY=>N _ Y rfl) T) (λx c o Z T=>q.1 c o (λY=>M c Y x Z) T) W.frame.sZ (λx c Z=>(W.frame.hU x c Z).1),W.bK.keep O λa o L T=>q.1 a o (λY=>(V a Y).2.1 L) T⟩,?_⟩;·have S:b<449:=pP w.params▸b9 U;have R:=(V b Y).1;have Q:=r.size;exact aJ (br Q R) (Nat.not_le.mpr S)
 ·have st:=a.step;exact⟨λb o U S R Q=>q.1 b o (λY=>aJ (b9 U) (iZ (V b Y).1)) (st.keep b o U S R Q),br st.size q.2,st.gens,st.os⟩
theorem Own.go(r:Rel w sc env σ ρ s)(U:Own env s aY s₁.heap X)(a:Way w sc env aY s₁ σ₂ cM s₂):Own env s cM s₂.heap X:=λx S=>by
 refine cL (U x S) λY W Z=>cU Z λT o R V Q=>?_;refine⟨Y,λhm=>?_,T,o,R,a.step.keep x o V (λe=>aJ (fK r) (iZ (e▸Y))) (λy e=>aJ (fG r e) (iZ Y)) W,Q⟩;(refine aQ a.grow λl Z O=>?_;subst Z);rcases d9 hm with hm|hm;·exact W hm
 ·exact aJ (b9 V) (iZ (O _ hm))
theorem Own.keep(r:Rel w sc env σ ρ s)(Z:Own env s aY s₁.heap X)(a:Way w sc env aY s₁ σ₂ cM s₂){x:az}(Y:x∈X){o:aR}(W:s₁.heap.get? x=af o):s₂.heap.get? x=af o:=a.step.keep x o W (λe=>aJ (fK r) (iZ (e▸(Z x Y).1))) (λy e=>aJ (fG r e) (iZ (Z x Y).1)) (Z x Y).2.1
structure Loop(w:aG)(A:bg)(sc:aU)(env:aV)(ρ:aa az)(s:ay)(t:aF)(itv:ao)(xs:aa DV)(ok:AS->Prop)(J:ah->AS->aa az->ay->Prop):Prop where
 way:∀{i σ' ρ' s'},J i σ' ρ' s'->Way w sc env ρ s σ' ρ' s'
 go:∀{i σ₁ aY s₁ σ₂ cM s₂},J i σ₁ aY s₁->Way w sc env aY s₁ σ₂ cM s₂->J i σ₂ cM s₂
 next:∀{i σ₁ aY s₁},J i σ₁ aY s₁->ok σ₁->aB (aE pw w) A (eX itv) (λq s₂=>match xs[i]? with|none=>q=none/\Way w sc env ρ s σ₁ aY s₂|some d=>∃v,q=af v/\aB (aE pw w) A (sG t itv v) (λø s₃=>R s₃.heap aY d v/\J (i+1) σ₁ aY s₃) b7 s₂) b7 s₁
theorem Loop.run{t:aF}{b:aa bH}{G:ao}{xs:aa DV}{T:AS->Prop}{J:ah->AS->aa az->ay->Prop}{Rs:fk->ay->Prop}(L:Loop w A sc env ρ s t G xs T J)(hA:c5 K A)(h0:J 0 σ₁ aY s₁)(r:T σ₁)(h:forL (λx Q σ=>As K sc t (.d x) σ Q) (λQ σ=>nc K sc b σ Q) T xs cI σ₁)(o:∀f s',PF w sc env ρ s cI f s'->Rs (.ok f) s'):dw (aE pw w) A (.forLoop t G b [] env) Rs s₁:=by
 refine codeAny_forLoop_any (λn s'=>∃(i:ah) (σ':AS) (ρ':aa az),i+n=xs.length/\T σ'/\forL (λx Q σ=>As K sc t (.d x) σ Q) (λQ σ=>nc K sc b σ Q) T (xs.drop i) cI σ'/\J i σ' ρ' s') ?_ xs.length (rC 0 σ₁ aY (eV _) r h h0);refineλn s₃ Y=>mL Y λi l O k N Z F=>?_;refine bk (L.next F N) (λq s₄ M=>?_) λI I h=>h.elim;cases V:xs[i]? with
 |none=>
  rw[V] at M;(refine bq M λj E=>?_;clear M;subst j);rw[dH (List.getElem?_eq_none_iff.mp V)] at Z;exact sC (o _ _ (E.pf (fl:=.next) trivial Z))|some d=>
  rw[V] at M;obtain⟨v,rfl,M⟩:=M;have hd:xs.drop i=d::xs.drop (i+1):=by
   obtain⟨g,e⟩:=gi V;rw[e8 g,e]
  rw[hd] at Z;refine bk M (λI s₅ Y=>bq Y λhv S=>?_) λI I h=>h.elim;refine bk (Z w A env O _ hA (L.way S).rel v hv) (λI s₆ Y=>cz Y λc a hb R=>?_) λI I h=>h.elim;have D:=L.go S R;refine hb.run hA R.rel λf C fl W H u B z=>?_;have U:=L.go D B;have y:i<xs.length:=(gi V).1;have done:(T W/\forL (λx Q σ=>As K sc t (.d x) σ Q) (λQ σ=>nc K sc b σ Q) T (xs.drop (i+1)) cI W)->∃m,m<n/\∃(i:ah) (σ':AS) (ρ':aa az),i+m=xs.length/\T σ'/\forL (λx Q σ=>As K sc t (.d x) σ Q) (λQ σ=>nc K sc b σ Q) T (xs.drop i) cI σ'/\J i σ' ρ' C:=λK1=>bq K1 λg e=>aP (n-1) (Q2 (Z3 [.n 1,V0,V1,.p V2 V0,.p V2 (.n 1),V1] rfl (Qf k) y)) (rC (i+1) W H (vh [.p (.p V0 (.n 1)) V1,V2,.p V0 V3,V2,.p V1 (.n 1),V3] rfl k (eO (Z3 [.n 1,V0,V1,.p V2 V0,.p V2 (.n 1),V1] rfl (Qf k) y))) g e U);induction fl using Fl.casesOn with
  |next=>induction f using fR with|next=>exact done u|_=>cases z
  |cont=>induction f using fR with |cont=>exact done u|_=>cases z
  |brk=>induction f using fR with|brk=>exact o _ _ ((L.way U).pf (fl:=.next) trivial u)|_=>cases z
  |ret x=>induction f using fR with|ret v=>exact o _ _ ((L.way U).pf (fl:=.ret x) z u)|_=>cases z
end
theorem Dm:∀{xs:aa DV}{j i:ah},(pS j xs)[i]?=(xs[i]?).map λd=>.tup [.int ((j+i:ah):aq),d]:=by
 intro Z;induction Z with
 |nil=> intro _ _;exact rfl|cons W xs Y=> intro j X;induction X using cJ with |zero=>exact rfl|succ i=> show (pS (j+1) xs)[i]?=_;rw[Y (j:=j+1) (i:=i),show j+1+i=j+(i+1) by exact lZ [.p (.p V0 (.n 1)) V1,.p V0 (.p V1 (.n 1))] rfl];rfl
section
variable{w:aG}{A:bg}{env:aV}{sc:aU}{ρ ρ' aY cM:aa az}{s s' s₁ s₂:ay}{σ σ' σ₁ σ₂:AS}{K:ah}{P:AV->AS->Prop}{cI:Fl->AS->Prop}{h h':aM}
structure JE(w:aG)(sc:aU)(env:aV)(ρ:aa az)(s:ay)(e it:az)(a:AV)(i:ah)(σ':AS)(ρ':aa az)(s':ay):Prop where
 way:Way w sc env ρ s σ' ρ' s'
 own:Own env s ρ' s'.heap [e,it]ne:e≠it
 en:∃old,IsEnum s'.heap e it i old
 at_:Ah s'.heap ρ' it i a
theorem K8(r:Rel w sc env σ₁ aY s₁){a:AV}{xs:aa DV}{it:az}{i:ah}(Z:qM σ₁.heap a=af xs)(hi:Ah s₁.heap aY it i a):∃(l:az)(items:aK ao),s₁.heap.IsListIter it l i/\s₁.heap.IsList l items/\RS s₁.heap aY xs items.toList:=by
 refine l9 Z (λe=>?_) λk e Z=>?_<;>subst e;·(refine eR hi λl items n U Y X V W=>?_;clear hi);exact bM l items Y (bz X) W
 ·(refine aQ hi λl Y X=>?_;clear hi);refine gu (r.bK.obj _ _ _ (bI.mp Z) X) λitems n U V W=>?_;exact bM l items Y (bz V) W
theorem Ny(hA:c5 K A)(r:Rel w sc env σ ρ s){e it:Addr}{a:AV}{xs:List DV}{elts:List PySem.Expr}{k:Nat}{pt:Pos}:Loop w A sc env ρ s (.Tuple elts k pt) (.ref e) (pS 0 xs) (λσ=>qM σ.heap a=some xs) (JE w sc env ρ s e it a)where
 way j:=j.way;go j w₂:=by
  obtain⟨w₁,ow,ne,⟨old,en⟩,at_⟩:=j;exact⟨w₁.trans w₂,ow.go r w₂,ne,⟨old,ow.keep r w₂ (.head _) en⟩,at_.mono (w₂.k8 w₁.rel) λo ho=>ow.keep r w₂ (.tail _ (.head _)) ho⟩
 next{i σ₁ aY s₁}j hok:=by
  obtain⟨w₁,ow,ne,⟨old,en⟩,at_⟩:=j;refine cU (K8 w₁.rel hok at_) λl items hit hl hs=>?_;have ge:=Dm (xs:=xs) (j:=0) (i:=i);rw[Nat.zero_add] at ge;rw[ge]
  cases hxi:xs[i]? with |none=>
   have:items[i]?=none:=by have:=hs.none hxi;simpa using this
   refine ef (wpAny_pyNext_enum_end hA.handled en hit hl this λh' hb hz=>⟨rfl,Way.apart r w₁ ow ⟨λb o hm hg=>hb b o (λe=>hm (e▸.tail _ (.head _))) hg,hz⟩ _ _⟩)|some d=>
   refine aQ (hs.get hxi) λv hv hr=>?_;refine wpAny_pyNext_enum_item en hit hl (x:=v) (by simpa using hv) ne λh₁ TR yc ht₁ Nz hk₁=>aP _ rfl ?_;refine wpAny_letOwnedTupleGo_enum TR λh₂ J5 hs₂=>?_;have hs₂:Heap.SameBut e h₁ h₂:=hs₂;have bx:Gj [e,it] s₁.heap h₂:=⟨λb o hm hg=>(hs₂.2 b (λq=>hm (q▸.head _))).trans (hk₁ b o (λq=>hm (q▸.head _)) (λq=>hm (q▸.tail _ (.head _))) hg),by rw[hs₂.1,Nz];exact Nat.le_succ _⟩;have w₂:=Way.apart r w₁ ow bx (s₁.toks+1) s₁.drawn;have fz:=zq (ρ:=aY) (λx hx=>(ow x hx).2.2) bx;have hne:e≠s₁.heap.objs.size:=Nat.ne_of_lt (Heap.lt_size en);refine⟨R.tup (items:=#[.int i s₁.toks,v]) (n:=0) ((hs₂.2 _ (Ne.symm hne)).trans ht₁) (ee w₁.rel) (RS.cons (R.int _ _) (RS.cons (hr.mono fz) RS.nil)),w₂,?_,ne,⟨v,?_⟩,?_⟩
   ·intro x hx;refine cL (ow x hx) λh1 h2 h3=>?_;refine⟨h1,h2,?_⟩;rcases gq hx with rfl|hx;·exact bM ("enumerate") _ (by decide) J5 rfl
    ·have hx:=g_ hx;subst hx;(refine cC yc λo ho hc ø=>?_;clear yc);exact bM ("list_iterator") o (by decide) ((hs₂.2 _ (Ne.symm ne)).trans ho) hc
   ·have:((i+1:Nat):Int)=(i:Int)+1:=by push_cast;rfl
    rw[this];exact J5
   ·have Gk:h₂.IsListIter it l (i+1):=by(refine aQ yc λo ho q=>?_;clear yc);exact aP o ((hs₂.2 _ (Ne.symm ne)).trans ho) q
    refine l9 hok (λe=>?_) λk e hok=>?_<;>subst e
    ·(refine eR at_ λl' items' n sl h1 h2 h3 h4=>?_;clear at_);(refine cC h1 λo1 p1 ø p2=>?_;clear h1);(refine cC hit λo2 q1 ø q2=>?_;clear hit);rw[p1] at q1;cases q1;rw[p2] at q2;have:l'=l:=by simpa using q2
     subst this;exact qF l' items' n sl Gk ((fz.1 _ _ h2 ⟨rfl,KJ⟩ h3).1) h3 (h4.mono fz)
    ·(refine aQ at_ λl' h1 h2=>?_;clear at_);(refine cC h1 λo1 p1 ø p2=>?_;clear h1);(refine cC hit λo2 q1 ø q2=>?_;clear hit);rw[p1] at q1;cases q1;rw[p2] at q2;have:l'=l:=by simpa using q2
     subst this;exact aP l' Gk h2
theorem Ex.IY{id:ai}{p q pos y:a_}{e:aF}{X:aa aF}{k:ah}{b:aa bH}(H:Ev K sc (.Name id p) σ λv σ'=>v=.d (.con (.type "enumerate"))/\σ'=σ)(G:noStar e=aj)(h:Ev K sc e σ λa σ₁=>∃xs,qM σ₁.heap a=af xs/\forL (λx Q σ=>As K sc (.Tuple X k y) (.d x) σ Q) (λQ σ=>nc K sc b σ Q) (λσ=>qM σ.heap a=af xs) (pS 0 xs) cI σ₁):Ex K sc (.For (.Tuple X k y) (.Call (.Name id p) [e] [] q) b [] pos) σ cI:=λw A env ρ s J r=>by
 refine wpAny_For (wY (H.run J r λm s₁ av σ₁ aY O=>bq O λj i W g=>?_)) (λI=>rfl);subst j i;cases (g:m=_);refine pU (gG (by simp[G]) (args_cons (h.run J W.rel λc s₂ a σ₂ cM V Z F=>args_nil ⟨Kp.type,?_⟩) (dG G _ _))) (by rw[gC q env _ (by simp[G])];rfl);(refine aQ V λxs hx hf=>?_;clear V);have N:=W.trans Z;have M:∃(l:az) (items:aK ao) (n:ah) (T:aK (aA ao)),c=.ref l/\s₂.heap.get? l=af (bS items n T)/\(∀h' it,(∀b o,s₂.heap.get? b=af o->h'.get? b=af o)->h'.IsListIter it l 0->Ah h' cM it 0 a):=by
  refine l9 hx (λe=>?_) λk e hx=>?_<;>subst e
  ·(refine eR F λl items n T Y U E u=>?_;clear F;subst Y);refine CV l items n T rfl U (λh' it R D=>(qF l items n T D (R _ _ U) E (u.mono ⟨λa o U I E=>⟨R _ _ U,E⟩,λI I h=>h⟩)))
  ·(refine eR (eg Z.rel.bK hx F) λl items n T Y U u C=>?_;subst Y);exact CV l items n T rfl U (λh' it R D=>(aP l D C))
 (refine xA M λl items n T Y U L=>?_;clear M;subst Y);refine call_enumerate_list (bz U) λh' B S z R=>?_;refine wpAny_pyIter_enum B ?_;have w3:Way w sc env cM s₂ σ₂ cM {s₂ with heap:=h'}:=Way.all Z.rel R (by rw[z];exact jG (iD _)) rfl rfl;have n1:=jU (a:=s₂.heap.objs.size+1) Z.rel (iD _);have n0:=jU (a:=s₂.heap.objs.size) Z.rel (bf _);have ow:Own env s cM h' [s₂.heap.objs.size+1,s₂.heap.objs.size]:=λx hx=>by
  have t:=N.step.size;rcases gq hx with rfl|hx;·exact⟨jG t,n1.1,"enumerate",_,by decide,B,rfl⟩
  ·have hx:=g_ hx;subst hx;(refine cC S λo H hc I=>?_;clear S);exact⟨t,n0.1,"list_iterator",o,by decide,H,hc⟩
 refine Loop.run (Ny (a:=a) (it:=s₂.heap.objs.size) J r) J ⟨N.trans w3,ow,fN (jH _),⟨_,B⟩,L h' _ R S⟩ hx hf λf s' hp=>hp
end
section
variable{w:aG}{A:bg}{env:aV}{sc:aU}{ρ ρ' aY cM:aa az}{s s' s₁ s₂:ay}{σ σ' σ₁ σ₂:AS}{K:ah}{P:AV->AS->Prop}{cI:Fl->AS->Prop}{h h':aM}
structure JK(w:aG)(sc:aU)(env:aV)(ρ:aa az)(s:ay)(it d k n ep:az)(i:ah)(σ':AS)(ρ':aa az)(s':ay):Prop where
 way:Way w sc env ρ s σ' ρ' s'
 own:Own env s ρ' s'.heap [it]at_:ρ'[k]?=af d
 ki:s'.heap.IsKeyIter it d i n ep
theorem NB(u:c5 K A)(r:Rel w sc env σ ρ s){t:aF}{it d k F:az}{l:aa (ai×AV)}{o:aR}{m:aa (ai×ao)}(V:∀h:aM,h.get? d=af o->h.DictAt (kF pw w) d m F)(n:m.map (·.1)=l.map (·.1)):Loop w A sc env ρ s t (.ref it) (l.map λp=>.str p.1) (λσ=>σ.heap[k]?=af (.dS l o)) (JK w sc env ρ s it d k m.length F)where
 way j:=j.way;go j Y:=by
  obtain⟨Z,U,W,L⟩:=j;exact⟨Z.trans Y,U.go r Y,(Y.k8 Z.rel).2 _ _ W,L.at λo g=>U.keep r Y (.head _) g⟩
 next{i σ₁ aY s₁}j J:=by
  obtain⟨Z,U,W,L⟩:=j;refine bq (Z.rel.bK.obj _ _ _ J W) λS E=>?_;have D:=V _ S;have f:=λ(x:az) (q:x≠it) (V:x∈[it])=>q (g_ V);have c:(l.map λp=>DV.str p.1)[i]?=(m[i]?).map λp=>.str p.1:=by
   have:=bu (·[i]?) n;simp only[dN] at this ⊢;cases I:m[i]?<;>cases H:l[i]?<;>rw[I,H] at this<;>simp_all
  rw[c];cases Q:m[i]? with |none=>exact ef (wpAny_pyNext_dict_end u.handled L D Q λh' a hz=>⟨rfl,Way.apart r Z U ⟨λb o V S=>a b o (λe=>V (e▸.head _)) S,hz⟩ _ _⟩)|some p=>
   obtain⟨x,v⟩:=p;refine wpAny_pyNext_dict_item L D Q λkey h' X O C=>aP _ rfl ?_;have bx:Gj [it] s₁.heap h':=⟨λb o V S=>(C.2 b (λq=>V (q▸.head _))).trans S,cA C.1.symm⟩;refine cC (id O) λB N M E=>?_;refine letGo (T:="dict_keyiterator") (by decide) (aP B N M) ?_;obtain⟨z,rfl⟩:∃z,key=.str x z:=by
    have X:Value.isStrOf x key=aj:=X;refine aZ (Value.isStrOf_shape X) λt e=>?_;exact⟨t,e⟩
   exact⟨R.str _ _,Way.apart r Z U bx _ _,λy G=>by
    have G:=g_ G;subst G;refine cL (U y (.head _)) λI H E=>?_;exact⟨I,H,"dict_keyiterator",B,by decide,N,M⟩,W,O⟩
theorem Ex.IZ{o:aF}{i q pos:a_}{t:aF}{b:aa bH}(I:baseOk o=aj)(hl:(i.endLine==q.line)=aj)(h:Ev K sc o σ λa σ₁=>∃k l ob,a=.ref k/\σ₁.heap[k]?=af (.dS l ob)/\forL (λx Q σ=>As K sc t (.d x) σ Q) (λQ σ=>nc K sc b σ Q) (λσ=>σ.heap[k]?=af (.dS l ob)) (l.map λp=>.str p.1) cI σ₁):Ex K sc (.For t (.Call (.Attribute o "keys" i) [] [] q) b [] pos) σ cI:=λw A env ρ s H r=>by
 refine wpAny_For (wpAny_Call_method_late (nU I "keys" env) (by rfl) hl rfl (h.run H r λva s₁ a σ₁ aY W=>uF W λk l ob e V hf Z g=>?_)) (λc=>rfl);subst e;(refine aQ g λd Y G=>?_;clear g;subst Y);(refine bq (Z.rel.bK.obj _ _ _ V G) λE Y=>aQ Y λm U D=>?_;clear Y);have C:(d==o4)=aC:=xW (Z.rel.bK.above d (j3 G));refine m_ (pX U) λUy T c B c=>?_;rw[E] at T;cases T;refine HZ _ _ AQ PySem.F.slot_dict_keys PySem.F.type_dict_keys U.typeIs (λa e=>(aP ob (by cases e;exact E) B)) (pU (gG rfl (args_nil ⟨Kp.builtin,?_⟩)) rfl);refine aZ U.dictAt λJ S=>?_;refine call_meetsIn PySem.F.slot_dict_keys U.typeIs PySem.F.entry_dict_keys (PySem.F.args_dict_keys_1 _) (kdl_meets_keys (kF pw w) d C) ⟨⟨_,U⟩,?_⟩;have X:∀(b:az) (o:aR),s₁.heap.get? b=af o->(s₁.heap.push {cls:=.type "dict_keys",data:=.fields #[.ref d]}).get? b=af o:=λb o I=>bZ _ I;refine kdl_pyIter_keys (s:={s₁ with heap:=s₁.heap.push {cls:=.type "dict_keys",data:=.fields #[.ref d]}}) (d:=d) (cy _ (b_ _ rfl) rfl rfl) (S.keep X) ?_;refine EF (id S) λo1 es R z O v u n=>?_;have N:∀h:aM,h.get? d=af ob->h.DictAt (kF pw w) d m J:=λh hh=>HZ o1 es (by rw[E] at R;cases R;exact hh) z O v u n;have M:(s₁.heap.push {cls:=.type "dict_keys",data:=.fields #[.ref d]}).objs.size=s₁.heap.objs.size+1:=dJ ..;have w2:=Way.push Z.rel {cls:=.type "dict_keys",data:=.fields #[.ref d]} s₁.toks;have w3:=Way.push w2.rel {cls:=.type "dict_keyiterator",data:=.fields #[.ref d,.int 0 0,.int m.length 0,.int J 0]} s₁.toks;have L:((s₁.heap.push {cls:=.type "dict_keys",data:=.fields #[.ref d]}).push {cls:=.type "dict_keyiterator",data:=.fields #[.ref d,.int 0 0,.int m.length 0,.int J 0]}).get? (s₁.heap.push {cls:=.type "dict_keys",data:=.fields #[.ref d]}).objs.size=af {cls:=.type "dict_keyiterator",data:=.fields #[.ref d,.int 0 0,.int m.length 0,.int J 0]}:=b_ _ rfl;have n1:=jU (a:=s₁.heap.objs.size+1) Z.rel (iD _);have hz:=Z.step.size;refine Loop.run (NB H r N D.keys) H ⟨(Z.trans w2).trans w3,λy j=>?_,G,(cy _ L rfl rfl)⟩ V hf λf s' hp=>hp;have j:=g_ j;subst j;refine⟨?_,?_,"dict_keyiterator",_,by decide,L,rfl⟩;·show s.heap.objs.size<=_;rw[M];exact jG hz
 ·rw[M];exact n1.1
theorem mJ.way(r:Rel w sc env σ ρ s){it a:az}{o:aR}{Y:Type}[jO Y]{S:SK w Y}{xs:aa Y}{i:ah}(h:mJ S s₁.heap aY it a o xs i)(T:Rel w sc env σ₁ aY s₁)(Z:Way w sc env aY s₁ σ₂ cM s₂)(R:∀ob,s₁.heap.get? it=af ob->s₂.heap.get? it=af ob):mJ S s₂.heap cM it a o xs i:=by
 (refine HX h λQ O t first N M L J h5=>?_;clear h);have W:=Z.k8 T;refine uG Q O t first (R _ N) M L J ?_;rcases h5 with h5|⟨I,H,G,n,F,V,U,X⟩|h5;·exact .inl h5
 ·exact .inr (.inl ⟨I,H,G,n,F,(W.1 _ _ V ⟨rfl,KI⟩ U).1,(W.1 _ _ V ⟨rfl,KI⟩ U).2,X⟩)
 ·exact .inr (.inr h5)
structure JS(w:aG)(sc:aU)(env:aV)(ρ:aa az)(s:ay)(it a k:az)(o:aR)(xs:aa ai)(i:ah)(σ':AS)(ρ':aa az)(s':ay):Prop where
 way:Way w sc env ρ s σ' ρ' s'
 own:Own env s ρ' s'.heap [it]ne:a≠it
 at_:ρ'[k]?=af a
 si:mJ (Pn w) s'.heap ρ' it a o xs i
theorem NC(D:c5 K A)(r:Rel w sc env σ ρ s){t:aF}{it a k:az}{l xs:aa ai}{o:aR}:Loop w A sc env ρ s t (.ref it) (xs.map .str) (λσ=>σ.heap[k]?=af (.set l o)) (JS w sc env ρ s it a k o xs)where
 way j:=j.way;go j Y:=by
  obtain⟨Z,V,N,X,M⟩:=j;exact⟨Z.trans Y,V.go r Y,N,(Y.k8 Z.rel).2 _ _ X,M.way r Z.rel Y λo C=>V.keep r Y (.head _) C⟩
 next{i σ₁ aY s₁}j L:=by
  obtain⟨Z,V,N,X,M⟩:=j;refine bq (Z.rel.bK.obj _ _ _ L X) λJ n=>?_;refine bk (tQ D.handled J N M) (λq s₂ U=>cC U λh' e G S=>?_) λI I h=>h;subst e;have F:Gj [it] s₁.heap h':=⟨λb o B J=>G.keep b o (λq=>B (q▸.head _)) J,G.size⟩;rw[dN];cases Q:xs[i]? with |none=> rw[Q] at S;exact⟨S,Way.apart r Z V F _ _⟩|some x=>
   rw[Q] at S;(refine cC S λv W z O=>?_;clear S;subst W);(refine aZ (Value.isStrOf_shape z) λm W=>?_;subst W);refine rB (id O) λg f d first E I=>?_;refine aP _ rfl (letGo (T:="set_iterator") (by decide) (aP _ E rfl) ?_);exact⟨R.str _ _,Way.apart r Z V F _ _,λy H=>by
    have H:=g_ H;subst H;refine cL (V y (.head _)) λu p I=>?_;exact⟨u,p,"set_iterator",_,by decide,E,rfl⟩,N,X,O⟩
theorem I0{t:aF}{b:aa bH}{k:ah}{l:aa ai}{ob:aR}{S:ao}{R:fk->ay->Prop}(O:c5 K A)(r:Rel w sc env σ ρ s)(Z:Way w sc env ρ s σ₁ aY s₁)(N:RA s₁.heap aY (.ref k) S)(W:σ₁.heap[k]?=af (.set l ob))(I:∀xs:aa ai,xs.Perm l->forL (λx Q σ=>As K sc t (.d x) σ Q) (λQ σ=>nc K sc b σ Q) (λσ=>σ.heap[k]?=af (.set l ob)) (xs.map .str) cI σ₁)(H:∀f s',PF w sc env ρ s cI f s'->R (.ok f) s'):aB (aE pw w) A (jK S) (λit s₂=>dw (aE pw w) A (.forLoop t it b [] env) R s₂) b7 s₁:=by
 (refine aQ N λx V M=>?_;clear N;subst V);refine bq (Z.rel.bK.obj _ _ _ W M) λL G=>?_;refine zb L G (λx F=>Z.rel.bK.old F) λxs it h' d E Y U X J=>?_;have D:Way w sc env aY s₁ σ₁ aY {s₁ with heap:=h',drawn:=d}:=Way.all Z.rel X (gy (er Y U)) rfl rfl;have C:=jU (a:=it) Z.rel Y;refine rB (id J) λv u q first B p=>?_;have z:x≠it:=λe=>aJ (b9 L) (iZ (e▸Y));refine Loop.run (NC (a:=x) O r) O ⟨Z.trans D,λy T=>?_,z,M,J⟩ W (I xs E) H;have T:=g_ T;subst T;exact⟨br Z.step.size Y,C.1,"set_iterator",_,by decide,B,rfl⟩
theorem Ex.ND{t e:aF}{b:aa bH}{pos:a_}(h:Ev K sc e σ λa σ₁=>(∃xs,jk σ₁.heap a=af xs/\forL (λx Q σ=>As K sc t (.d x) σ Q) (λQ σ=>nc K sc b σ Q) (j8 a xs) xs cI σ₁)\/∃k l ob,a=.ref k/\σ₁.heap[k]?=af (.set l ob)/\∀xs:aa ai,xs.Perm l->forL (λx Q σ=>As K sc t (.d x) σ Q) (λQ σ=>nc K sc b σ Q) (λσ=>σ.heap[k]?=af (.set l ob)) (xs.map .str) cI σ₁)(S:∀(env:aV)(x:ao),sJ e env x=aX x):Ex K sc (.For t e b [] pos) σ cI:=λw A env ρ s X r=>by
 refine wpAny_For (h.run X r λO s₁ a σ₁ aY Y Z T=>?_) (S env);rcases Y with ⟨xs,R,W⟩|⟨k,l,ob,e,V,W⟩;·exact Ir X r Z T R W λf s' U=>U
 ·subst e;exact I0 X r Z T V W λf s' U=>U
end
section
variable{w:aG}{A:bg}{s:ay}{E:ao->ay->Prop}{a₀:aK fU}{key:fU->aq}
noncomputable def kx(key:fU->aq)(xs:aK fU)(i:ah):aq:=((xs[i]?).map key).getD 0
theorem nB{xs Z:aK fU}{i j:ah}(h:xs[i]?=Z[j]?):kx key xs i=kx key Z j:=by unfold kx;rw[h]
def vM(key:fU->aq)(xs:aK fU)(k:ah):Prop:=∀i j,i<j->j<k->kx key xs i<kx key xs j
def K9(key:fU->aq)(xs:aK fU)(k:ah):Prop:=∀i j,i<j->j<k->kx key xs j<kx key xs i
structure Bu(w:aG)(A:bg)(s:ay)(key:fU->aq)(a₀:aK fU):Prop where
 lt:∀x y,x∈a₀.toList->y∈a₀.toList->key x≠key y->∀(E:ao->ay->Prop)(Q:aH->ay->Prop),Q (decide (key x<key y)) s->aB (aE pw w) A (oneLt' aj x.1 y.1) Q E s
 nodup:(a₀.toList.map key).Nodup
theorem Bu.ltAt(C:Bu w A s key a₀){st:gm}{i j:ah}{Q:aA aH->gm->Prop}(Y:fV a₀ st)(hi:i<a₀.size)(R:j<a₀.size)(X:i≠j)(h:kx key (bC st) i≠kx key (bC st) j->Q (af (decide (kx key (bC st) i<kx key (bC st) j))) st):wpS (aE pw w) A E s (ltAt' i j) Q st:=by
 have W:=Array.perm_iff_toList_perm.mp Y.perm;have V:=Y.size;have Z:∀i,i<a₀.size->∃x,(bC st)[i]?=af x/\x∈a₀.toList/\kx key (bC st) i=key x:=λi hi=>by
  have e:(bC st)[i]?=af ((bC st)[i]'(by exact Qs (Z3 [.p V0 (.n 1),V1,V2,V1,.p V0 (.n 1),V2] rfl (Qf V) (Qt hi)))):=getElem?_pos _ i (by exact i7 hi V.symm);refine cy _ e (W.mem_iff.mp (by simp-iota)) ?_;unfold kx;rw[e];rfl
 refine cC (Z i hi) λx U P O=>?_;refine cC (Z j R) λy T N M=>?_;have nd:((bC st).toList.map key).Nodup:=(W.map key).nodup_iff.mpr C.nodup;have S:key x≠key y:=λe=>by
  have g1:((bC st).toList.map key)[i]?=af (key x):=by rw[dN,fS,U];rfl
  have g2:((bC st).toList.map key)[j]?=af (key y):=by rw[dN,fS,T];rfl
  exact X ((qh (gi g1).1 nd).mp (by rw[g1,g2,e]))
 rw[O,M] at h;rw[ltAt'_eq];refine dD (wpS_get ?_);show wpS _ _ _ _ (do let x<-elem' (bC st) i;let y<-elem' (bC st) j;lt' x y) Q st;rw[elem'_eq,elem'_eq,U,T];refine dD (dO (dD (dO ?_)));rw[lt'_eq];refine dD (wpS_get ?_);rw[Y.kind,keyLt'_oneType];refine dD (wpS_lift (kB (C.lt x y P N S _ _ ⟨rfl,?_⟩)));exact dO (h S)
theorem vN{xs:aK fU}{Z d:ah}(Y:Z<xs.size)(X:d<=Z)(k:ah):kx key (bubble xs Z d) k=if k=Z-d then kx key xs Z else if Z-d<k/\k<=Z then kx key xs (k-1)else kx key xs k:=by
 have e:=getElem?_bubble Y d X k;split;·rw[aW (by assumption)] at e;exact nB e
 ·rw[aI (by assumption)] at e;split;·rw[aW (by assumption)] at e;exact nB e
  ·rw[aI (by assumption)] at e;exact nB e
theorem Gm{f:ah->aq}{k l i j:ah}(Y:∀i j,i<j->j<k->f i<f j)(lo:∀i,i<l->f i<f k)(hi:∀i,l<=i->i<k->f k<f i)(U:l<=k)(Z:i<j)(T:j<k+1):(if i=l then f k else if l<i/\i<=k then f (i-1)else f i)<if j=l then f k else if l<j/\j<=k then f (j-1)else f j:=by
 rcases Nat.lt_trichotomy j l with q|q|q
 ·have p:=jI Z q;rw[aI (b8 p),aI (λh=>Nat.lt_asymm p h.1),aI (b8 q),aI (λh=>Nat.lt_asymm q h.1)];exact Y i j Z (dg q U)
 ·have p:i<l:=q▸Z;rw[aI (b8 p),aI (λh=>Nat.lt_asymm p h.1),aW q];exact lo i p
 ·have X:=qo T;have W:j-1<k:=dg (mY (m4 q) se) X;have V:l<=j-1:=Ay q;rw[aI (fN q),aW (And.intro q X)];rcases Nat.lt_trichotomy i l with p|p|p;·rw[aI (b8 p),aI (λh=>Nat.lt_asymm p h.1)];exact Y i _ (dg p V) W
  ·rw[aW p];exact hi _ V W
  ·rw[aI (fN p),aW (And.intro p (gy (dg Z X)))];exact Y _ _ (Nat.sub_lt_sub_right (m4 p) Z) W
theorem half{l r:ah}(h:l<r):l<=(l+r)/2/\(l+r)/2<r:=⟨(Nat.le_div_iff_mul_le (by decide)).mpr (Nat.mul_two l▸sf (gy h) l),wM (Nat.two_mul r▸Nat.add_lt_add_right h r)⟩
theorem Bu.binary(C:Bu w A s key a₀){st:gm}{n K:ah}{Q:aH->gm->Prop}(y:n<=a₀.size)(J:K<=n)(O:1<=K)(v:fV a₀ st)(u:vM key (bC st) K)(h:∀U,fV a₀ U->vM key (bC U) n->Q aj U):wpS (aE pw w) A E s (binarySort' 0 n K) Q st:=by
 rw[binarySort'_eq];simp-iota only[eV];refine dD (wpS_mono (qt (I:=λk c U=>c=(none,())/\fV a₀ U/\vM key (bC U) k) (Q:=λc U=>c=(none,())/\fV a₀ U/\vM key (bC U) n) (λk c Y m H T=>?_) (λc Y T=>?_) ⟨rfl,v,by rw[Nat.max_eq_left O];exact u⟩) λc Y T=>?_)
 ·(refine cL T λV W X=>?_;clear T;subst V);have M:k<a₀.size:=dg H y;refine dD (wpS_mono (qt (I:=λx c Z=>Z=Y/\∃l r,c=(none,l,r)/\(l<=r/\r<=k/\r-l<=k-x)/\(∀i,i<l->kx key (bC Y) i<kx key (bC Y) k)/\∀i,r<=i->i<k->kx key (bC Y) k<kx key (bC Y) i) (Q:=λc Z=>Z=Y/\∃l r,c=(none,l,r)/\l<=k/\(∀i,i<l->kx key (bC Y) i<kx key (bC Y) k)/\∀i,l<=i->i<k->kx key (bC Y) k<kx key (bC Y) i) (λx c Z g e T=>?_) (λc Z T=>?_) ⟨rfl,0,k,rfl,⟨Z1 [.n 0,V0] rfl,⟨Z1 [V0,V0] rfl,Z1 [V0,V0] rfl⟩⟩,λi N=>by exact Qx (lY [_] 0 [] [.n 1,.n 0,.p V0 (.n 1),.n 0] rfl N),λi O G=>aJ G (iZ O)⟩) λc Z T=>?_)
  ·(refine bq T λV S=>mK S λl r P R lo N=>?_;clear T;subst V;subst P);dsimp only;by_cases q:l>=r
   ·rw[aW q];have:l=r:=by exact cY (R.1) (q)
    subst this;exact dO ⟨rfl,l,l,rfl,R.2.1,lo,N⟩
   ·rw[aI q];refine bq (half (r8 q)) λF D=>?_;have mk:=dg D R.2.1;refine dD (C.ltAt W M (jI mk M) (fN mk) λt=>?_);by_cases z:kx key (bC Z) k<kx key (bC Z) ((l+r)/2)
    ·rw[eF z];refine dO ⟨rfl,l,(l+r)/2,rfl,⟨F,gy mk,Nat.le_pred_of_lt (dg (Nat.sub_lt_sub_right F D) R.2.2)⟩,lo,λi O G=>?_⟩;rcases m5 O with h3|h3;·exact rR z (X _ _ h3 G)
     ·rw[<-h3];exact z
    ·rw[gA z];have z:kx key (bC Z) ((l+r)/2)<kx key (bC Z) k:=Int.lt_iff_le_and_ne.mpr ⟨Int.not_lt.mp z,Ne.symm t⟩;refine dO ⟨rfl,(l+r)/2+1,r,rfl,⟨D,R.2.1,Nat.le_pred_of_lt (dg (Nat.sub_lt_sub_left (r8 q) (Nat.lt_succ_of_le F)) R.2.2)⟩,λi O=>?_,N⟩;rcases m5 (qo O) with h3|h3;·exact rR (X _ _ h3 mk) z
     ·rw[h3];exact z
  ·(refine bq T λV S=>mK S λl r P R lo N=>?_;clear T;subst V;subst P);have:l=r:=cY R.1 (Nat.sub_eq_zero_iff_le.mp (Nat.le_zero.mp (by have:=R.2.2;rw[wN (bW _),cB] at this;exact this)));subst this;exact⟨rfl,l,l,rfl,R.2.1,lo,N⟩
  ·(refine bq T λV S=>mK S λl r P R lo N=>?_;clear S;clear T;subst V;subst P);show wpS _ _ _ _ (do moveDown' k l;aX (rP (none,()))) _ _;rw[moveDown'_eq];refine dD (wpS_modify (dO ⟨rfl,W.setArr (bubble_perm _ _ _),λi j B o=>?_⟩));have L:k<(bC Z).size:=by rw[W.size];exact M
   show kx key (bubble (bC Z) k (k-l)) i<kx key (bubble (bC Z) k (k-l)) j;rw[vN L (Q0),vN L (Q0),show k-(k-l)=l by exact vh [V0,V1,.p V0 V2,V3,V3,.p V2 V1] rfl (eO (Q0)) (Eq.symm (eO (R)))];exact Gm (f:=kx key (bC Z)) X lo N R B o
 ·(refine cL T λV W X=>?_;clear T;subst V);exact⟨rfl,W,by rw[Nat.max_eq_left O,wN J] at X;exact X⟩
 ·(refine cL T λV W X=>?_;clear T;subst V);exact dO (h _ W X)
end
section
variable{w:aG}{A:bg}{s:ay}{E:ao->ay->Prop}{a₀:aK fU}{key:fU->aq}
theorem vM.step{xs:aK fU}{n:ah}(h:vM key xs n)(Y:1<=n)(z:kx key xs (n-1)<kx key xs n):vM key xs (n+1):=λi j Z X=>by
 rcases m5 (qo X) with q|rfl;·exact h i j Z q
 ·rcases m5 (Ay Z) with q|rfl;·exact rR (h i (j-1) q ((Q2 (Y)))) z
  ·exact z
theorem K9.step{xs:aK fU}{n:ah}(h:K9 key xs n)(Y:1<=n)(z:kx key xs n<kx key xs (n-1)):K9 key xs (n+1):=λi j Z X=>by
 rcases m5 (qo X) with q|rfl;·exact h i j Z q
 ·rcases m5 (Ay Z) with q|rfl;·exact rR z (h i (j-1) q ((Q2 (Y))))
  ·exact z
theorem Bu.asc(C:Bu w A s key a₀){st:gm}{a n:ah}{Q:AscSt->gm->Prop}(P:n<=a₀.size)(R:1<=a)(T:a<=n)(O:fV a₀ st)(N:vM key (bC st) a)(h:∀m,a<=m->m<=n->vM key (bC st) m->(m=n\/kx key (bC st) m<kx key (bC st) (m-1))->Q (none,m) st):wpS (aE pw w) A E s (ascLoop a n) Q st:=by
 unfold ascLoop;refine qt (I:=λx c Z=>Z=st/\c=(none,x)/\vM key (bC st) x) (λx c Z X W S=>?_) (λc Z S=>?_) ⟨rfl,rfl,N⟩
 ·(refine cL S λV U Y=>?_;clear S;subst V;subst U);dsimp only;refine dD (C.ltAt O (Z3 [.p V0 (.n 1),V1,V2,V1,.p V0 (.n 1),V2] rfl P W) (Z4 [.p V0 (.n 1),V1,V2,V1,.p V3 (.n 1),V2,.p V0 (.n 1),V3] rfl P W (Q2 (Z2 [.n 1,V0,.n 1,V1,V1,V0] rfl R X))) (fN ((Q2 (Z2 [.n 1,V0,.n 1,V1,V1,V0] rfl R X)))) λM=>?_);by_cases z:kx key (bC Z) x<kx key (bC Z) (x-1);·rw[eF z];exact dO (h x X (Z2 [V0,V1,.p V0 (.n 1),V1] rfl W) Y (.inr z))
  ·rw[gA z];exact dO ⟨rfl,rfl,Y.step (Z2 [.n 1,V0,.n 1,V1,V1,V0] rfl R X) (Int.lt_iff_le_and_ne.mpr ⟨Int.not_lt.mp z,M.symm⟩)⟩
 ·(refine cL S λV U Y=>?_;clear S;subst V;subst U);rw[show max a n=n from wN T] at Y ⊢;exact h n T (bf _) Y (.inl rfl)
theorem Bu.tail(C:Bu w A s key a₀){st:gm}{m n:ah}{Q:aA ah->gm->Prop}(O:n<=a₀.size)(V:1<=m)(Y:m<=n)(N:fV a₀ st)(M:K9 key (bC st) m)(h:∀k Z,fV a₀ Z->1<=k->k<=n->vM key (bC Z) k->Q (af k) Z):wpS (aE pw w) A E s (tail3 m n) Q st:=by
 unfold tail3;have U:m<=(bC st).size:=by rw[N.size];exact Z3 [V0,V1,V2,V1,V0,V2] rfl O Y
 refine dD (wpS_reverse ?_);have X:fV a₀ (setArr st (mirror (bC st) 0 m ((m-0)/2))):=N.setArr (mirror_perm _ _ _ _);refine dD (C.asc O V Y X (λi j W T=>?_) λk S R P L=>dO (h k _ X (Z2 [.n 1,V0,.n 1,V1,V1,V0] rfl V S) R P));have e:∀x,kx key (mirror (bC st) 0 m ((m-0)/2)) x=if 0<=x/\x<m then kx key (bC st) (0+m-1-x) else kx key (bC st) x:=λx=>by
  have e:=getElem?_mirror_all (i:=0) U x;split;·rw[aW (by assumption)] at e;exact nB e
  ·rw[aI (by assumption)] at e;exact nB e
 show kx key (mirror (bC st) 0 m ((m-0)/2)) i<kx key (mirror (bC st) 0 m ((m-0)/2)) j;rw[e,e,aW (⟨Z1 [.n 0,V0] rfl,Z3 [.p V0 (.n 1),V1,.p V0 (.n 1),V2,.p V2 (.n 1),V1] rfl W T⟩),aW (⟨Z1 [.n 0,V0] rfl,T⟩)];exact M _ _ (Z5 [.p V0 (.n 1),V1,.p V2 (.n 1),V3,V4,.p V1 V2,.p V0 V3,V4] rfl W Q1 (Q2 (Z3 [V0,V1,.p V0 (.n 1),V2,.p (.n 0) V2,.p V1 (.n 1)] rfl T Q1))) (Z3 [.p V0 (.n 1),V1,V0,V2,.p V2 (.n 1),.p (.n 0) V1] rfl Q0 (Q2 (Z1 [.n 1,.p (.n 0) V0,.n 1,V0] rfl V)))
theorem Bu.desc(C:Bu w A s key a₀){st:gm}{n:ah}{Q:aA ah->gm->Prop}(S:n<=a₀.size)(O:2<=n)(R:fV a₀ st)(M:K9 key (bC st) 2)(h:∀k Z,fV a₀ Z->1<=k->k<=n->vM key (bC Z) k->Q (af k) Z):wpS (aE pw w) A E s (descPart 1 n) Q st:=by
 unfold descPart;refine dD (wpS_lift (i_ ⟨rfl,?_⟩));refine dD (wpS_mono (Q:=λc Z=>Z=st/\∃m,c=(none,m,0)/\2<=m/\m<=n/\K9 key (bC st) m) ?_ λc Z T=>?_)
 ·unfold descLoop;refine qt (I:=λx c Z=>Z=st/\c=(none,x,0)/\K9 key (bC st) x) (λx c Z X V T=>?_) (λc Z T=>?_) ⟨rfl,rfl,M⟩
  ·(refine cL T λU W Y=>?_;clear T;subst U;subst W);dsimp only;refine dD (C.ltAt R (Z3 [.p V0 (.n 1),V1,V2,V1,.p V0 (.n 1),V2] rfl S V) (Z4 [.p V0 (.n 1),V1,V2,V1,.p V3 (.n 1),V2,.p V0 (.n 1),V3] rfl S V (Q2 (Z1 [.n 1,V0,.p (.n 1) (.n 1),V0] rfl X))) (fN ((Q2 (Z1 [.n 1,V0,.p (.n 1) (.n 1),V0] rfl X)))) λN=>?_);by_cases z:kx key (bC Z) x<kx key (bC Z) (x-1);·rw[eF z];exact dO ⟨rfl,rfl,Y.step (Z1 [.n 1,V0,.p (.n 1) (.n 1),V0] rfl X) z⟩
   ·rw[gA z];refine dD (C.ltAt R (Z4 [.p V0 (.n 1),V1,V2,V1,.p V3 (.n 1),V2,.p V0 (.n 1),V3] rfl S V (Q2 (Z1 [.n 1,V0,.p (.n 1) (.n 1),V0] rfl X))) (Z3 [.p V0 (.n 1),V1,V2,V1,.p V0 (.n 1),V2] rfl S V) (b8 (mY (dg Nat.two_pos X) se)) λN=>?_);have z:kx key (bC Z) (x-1)<kx key (bC Z) x:=Int.lt_iff_le_and_ne.mpr ⟨Int.not_lt.mp z,N⟩;rw[eF z];exact dO ⟨rfl,x,rfl,X,Z2 [V0,V1,.p V0 (.n 1),V1] rfl V,Y⟩
  ·(refine cL T λU W Y=>?_;clear T;subst U;subst W);rw[show max (1+1) n=n from wN O] at Y ⊢;exact⟨rfl,n,rfl,O,bf _,Y⟩
 ·(refine bq T λU W=>m_ W λm P hm1 hm2 Y=>?_;clear W;clear T;subst U;subst P);dsimp only;rw[aI (dX 0)];exact C.tail S (wK hm1) hm2 R Y h
theorem Bu.count(C:Bu w A s key a₀){st:gm}{n:ah}{Q:aA ah->gm->Prop}(W:n<=a₀.size)(U:1<=n)(X:fV a₀ st)(h:∀k Y,fV a₀ Y->1<=k->k<=n->vM key (bC Y) k->Q (af k) Y):wpS (aE pw w) A E s (countRun' 0 n) Q st:=by
 rw[countRun0_eq];refine dD (C.asc W (bf 1) U X (λi j Z V=>by exact Qx (lY [_,_] 0 [] [.n 1,.n 0,.p V0 (.n 1),V1,.p V1 (.n 1),.n 1] rfl Z V)) λm hm1 hm2 T S=>?_);dsimp only;by_cases e:m=n
 ·rw[aW (by simpa using e)];exact dO (h m st X hm1 hm2 T)
 ·rw[aI (by simpa using e)];have lt:=S.resolve_left e;by_cases g:m>1
  ·rw[aW g];refine dD (C.ltAt X (Z2 [.p (.n 0) (.n 1),V0,V1,V0,.n 1,V1] rfl W U) (Z4 [.p V0 (.n 1),V1,V2,V1,.p V0 (.n 1),V3,.p V3 (.n 1),V2] rfl W (Q2 (hm1)) (lE (hm2) e)) (b8 (Z2 [.p (.n 0) (.n 1),V0,.p (.n 1) (.n 1),V1,V1,.p V0 (.n 1)] rfl g Q1)) λR=>?_);rw[eF (T 0 (m-1) (oO λe=>R (by rw[e])) ((Q2 (hm1))))];exact dO (h m st X hm1 hm2 T)
  ·rw[aI g];have:m=1:=by exact cY ((Qb g)) (hm1)
   subst this;refine C.desc W (Z1 [.n 2,V0,.p (.n 1) (.n 1),V0] rfl (lE (U) e)) X (λi j Z V=>?_) h;have:i=0:=by exact cY (Z2 [V0,.n 0,.p V0 (.n 1),V1,.p V1 (.n 1),.n 2] rfl Z V) (Z1 [.n 0,V0] rfl)
   have:j=1:=by exact cY (Z1 [V0,.n 1,.p V0 (.n 1),.n 2] rfl V) (Z2 [.n 1,V0,.p V1 (.n 1),V0] rfl Z)
   subst i j;exact lt
theorem Bu.runs(C:Bu w A s key a₀){st:gm}{Q:Unit->gm->Prop}(B:fV a₀ st)(L:2<=a₀.size)(K:a₀.size<64)(h:∀Z,(bC Z).Perm a₀->failedOf Z=none->vM key (bC Z) a₀.size->Q () Z):wpS (aE pw w) A E s sortRuns' Q st:=by
 have y:∀{Z},fV a₀ Z->vM key (bC Z) a₀.size->(bC Z).Perm a₀/\failedOf Z=none/\vM key (bC Z) a₀.size/\(setPending Z ((oS Z).push (0,a₀.size,0)))=setPending Z #[(0,a₀.size,0)]:=λW J=>⟨W.perm,W.failed,J,by rw[W.pend];rfl⟩;rw[sortRuns'_eq];refine dD (wpS_get ?_);have H:minRun' a₀.size a₀.size 0=a₀.size:=by
  obtain⟨f,G⟩:∃f,a₀.size=f+1:=⟨a₀.size-1,lZ [V0,.p V1 (.n 1),V0,.p V1 (.n 1)] rfl (Eq.symm (eO (Z1 [.n 1,V0,.n 2,V0] rfl L)))⟩;have:minRun' (f+1) a₀.size 0=a₀.size:=by rw[minRun'_succ,aW K];rfl
  rwa [<-G] at this
 dsimp only;rw[B.size];rw[H];refine dD (wpS_mono (qt (Q:=λc Z=>c=(none,a₀.size)/\oS Z=#[(0,a₀.size,0)]/\(bC Z).Perm a₀/\failedOf Z=none/\vM key (bC Z) a₀.size) (I:=λx c Z=>(x=0/\c=(none,0)/\fV a₀ Z)\/(1<=x/\c=(none,a₀.size)/\oS Z=#[(0,a₀.size,0)]/\(bC Z).Perm a₀/\failedOf Z=none/\vM key (bC Z) a₀.size)) (λx c Z P z X=>?_) (λc Z X=>?_) (.inl ⟨rfl,rfl,B⟩)) λc Z X=>?_)
 ·rcases X with ⟨rfl,rfl,W⟩|⟨v,rfl,u⟩
  ·dsimp only;rw[aI (by exact Nat.not_le_of_lt (Z1 [.p (.n 0) (.n 1),V0,.n 2,V0] rfl L))];simp-iota only[Nat.sub_zero,Nat.min_self,eV];refine dD (C.count (bf _) (Z1 [.n 1,V0,.n 2,V0] rfl L) W λm O V hm1 hm2 N=>?_);dsimp only;by_cases S:m<a₀.size
   ·rw[aW S];refine dD (wpS_lift (i_ ⟨rfl,?_⟩));refine dD (C.binary (bf _) hm2 hm1 V N λM T F=>?_);refine rwL (aI cS) ?_;refine dD (wpS_get ?_);rw[show (oS M).back?=none by rw[T.pend];rfl];exact dD (wpS_modify (dO (.inr ⟨Z0 [.n 1,.n 1] rfl,rfl,by show (oS M).push _=_;rw[T.pend];rfl,T.perm,T.failed,F⟩)))
   ·rw[aI S];have t:m=a₀.size:=by exact cY (hm2) ((Qb S))
    subst t;refine dD (wpS_get ?_);rw[show (oS O).back?=none by rw[V.pend];rfl];exact dD (wpS_modify (dO (.inr ⟨Z0 [.n 1,.n 1] rfl,rfl,by show (oS O).push _=_;rw[V.pend];rfl,V.perm,V.failed,N⟩)))
  ·dsimp only;rw[aW (bf _)];exact dO ⟨rfl,u⟩
 ·rcases X with ⟨z,_⟩|⟨_,r⟩;·exact aJ ((Nat.zero_max _).symm.trans z) (fN (dg Nat.two_pos L))
  ·exact r
 ·(refine ED X λU D q G o=>?_;clear X;subst U);refine dD (wpS_mono (qt (I:=λP c Y=>Y=Z/\c=(none,())) (Q:=λc Y=>Y=Z/\c=(none,())) (λx c Y P P X=>?_) (λP P l=>l) ⟨rfl,rfl⟩) λc Y X=>?_)
  ·(refine bq X λU R=>?_;clear X;subst U;subst R);refine dD (wpS_get ?_);rw[aW (by rw[D];exact bf 1)];exact dO ⟨rfl,rfl⟩
  ·(refine bq X λU R=>?_;clear X;subst U;subst R);exact dO (h _ q G o)
end
theorem QX(w:aG):peek (kM w.params) ⟨pw,w.params⟩ (d7 (.ref 135) "__lt__")=af (af (.builtin "tuple.__lt__")):=by kernel_rfl!
theorem J6:qA "tuple.__lt__"=af .slot/\splitId "tuple.__lt__"=af ("tuple","__lt__"):=by decide+kernel
def qU(h:aM)(v:ao)(i:aq):Prop:=∃(x:az) (items:aK ao) (n:ah) (d:aA az) (t:Tok) (r:aa ao),v=.ref x/\h.get? x=af (qJ items n d)/\items.toList=.int i t::r
section
variable{w:aG}{A:bg}{env:aV}{sc:aU}{ρ ρ':aa az}{s s':ay}{σ σ':AS}{K:ah}{P:AV->AS->Prop}{E:ao->ay->Prop}
theorem yd{x y:az}{Y W:aK ao}{n m:ah}{d U:aA az}{i j:aq}{t u:Tok}{r T:aa ao}{Q:ao->ay->Prop}(X:(kM w.params).In s.heap)(S:s.heap.get? x=af (qJ Y n d))(V:s.heap.get? y=af (qJ W m U))(R:Y.toList=.int i t::r)(O:W.toList=.int j u::T)(N:i≠j)(h:Q (.bool (decide (i<j))) s):aB (aE pw w) A (Builtin.«tuple.__lt__» ⟨[.ref x,.ref y],[]⟩) (λZ s'=>∃v,Z=.done (.ret v)/\Q v s') E s:=by
 show aB _ A (kH (.ref y) (.type "tuple")>>=_) _ _ s;refine au ((yb X V).here ?_);refine rwL (aI cS) ?_;refine au (m:=w_ (.ref x)) ?_;unfold w_;refine au (fZ S rfl (aD ?_));refine au (au (fZ V rfl (aD ?_)));rw[R,O];rw[List.zip_cons_cons,rY];refine au (au ?_);refine au (wpAny_eqBool_int ?_);rw[fC N];refine rwL (aW rfl) ?_;refine au (i_ ?_);refine au (m:=qB .Lt (.int i t) (.int j u)) (lt_int ?_);exact aD (aD (aD (aP _ rfl h)))
theorem Dn{v N:ao}{i j:aq}{Q:aH->ay->Prop}(X:(kM w.params).In s.heap)(L:A.units<gp)(M:qU s.heap v i)(T:qU s.heap N j)(J:i≠j)(h:Q (decide (i<j)) s):aB (aE pw w) A (oneLt' aj v N) Q E s:=by
 (refine EG M λx D n d t r V S I=>?_;clear M;subst V);(refine EG T λy C m B u z V H G=>?_;clear T;subst V);rw[oneLt'_eq];refine rwL (aW rfl) ?_;refine au (wpAny_cRoomFor L ?_);refine au ?_;rw[callSpecialIfBound?,bindSpecialIfBound?];refine bP (au (au (tW X S (QX w) ?_)));simp-iota only[PySem.F.slot_tuple_lt.bind];have U:∀{R:aA ao->ay->Prop},(∀v s',v=.bool (decide (i<j))/\s'=s->R (af v) s')->aB (aE pw w) A (dW (.builtin "tuple.__lt__") ([.ref x]++[.ref y])>>=λv=>aX (af v)) R E s:=by
  intro R h;refine au (gc (lN PySem.F.slot_tuple_lt.plain PySem.F.entry_tuple_lt (check_slot J6.1 J6.2 (yb X S) (PySem.F.args_tuple_lt_2 _ _) ?_)));refine bk (yd (E:=λO O=>bG) X S H I G J (Q:=λv s'=>v=.bool (decide (i<j))/\s'=s) ⟨rfl,rfl⟩) (λU s' Z=>aQ Z λv e q=>?_) λO O h=>h.elim;subst e;exact aD (h _ _ q)
 refine au (qz (wpAny_ite ?_));split
 ·refine au (aD (aD (U ?_)));(refineλv s' Z=>bq Z λY W=>?_;subst Y;subst W);exact wZ h
 ·refine o7 (au (aD (aD (U ?_))));(refineλv s' Z=>bq Z λY W=>?_;clear Z;subst Y;subst W);exact wZ h
theorem tX{α:Type}{f:ao->Sem α}{r:α}:∀{vs:aa ao}{Q:aa α->ay->Prop},(∀v∈vs,∀Q:α->ay->Prop,Q r s->aB (aE pw w) A (f v) Q E s)->Q (vs.map λW=>r) s->aB (aE pw w) A (vs.mapM f) Q E s:=by
 intro vs;induction vs with |nil=> intro Q _ h;rw[List.mapM_nil];exact aD h|cons v vs Y=>
  intro Q Z h;rw[List.mapM_cons];exact au (Z v (.head _) _ (au (Y (λv X=>Z v (.tail _ X)) (aD h))))
theorem zu{v:ao}{i:aq}(Y:qU s.heap v i){Q:ao->ay->Prop}(h:Q (.ref 135) s):aB (aE pw w) A (fP v) Q E s:=by
 (refine EG Y λx W n d t r Z X V=>?_;clear Y;subst Z);unfold fP;exact au (o5 X (aD h))
theorem Dp{vs:aa ao}{Q:SortKind->ay->Prop}(V:∀v∈vs,∃i,qU s.heap v i)(U:2<=vs.length)(h:Q oneType' s):aB (aE pw w) A (keyKind' vs.toArray) Q E s:=by
 obtain⟨v,Y,vs,rfl⟩:∃v Y r,vs=v::Y::r:=by match vs,U with|v::Y::r,_=>exact EH v Y r rfl
 rw[keyKind'_eq,List.mapM_toArray];refine au (wpAny_map (tX (r:=none) (λv Z T X=>?_) ?_))
 ·refine aZ (V v Z) λi W=>?_;show aB _ _ (fP v>>=_) _ _ _;refine au (zu W ?_);exact aD X
 ·rw[aI (by simp-iota)];rw[aI (by simp-iota)];refine au ?_;rw[oneTypeOnly'_eq,List.mapM_toArray];refine au (wpAny_map (tX (r:=.ref 135) (λv Z T X=>?_) ?_));·refine aZ (V v Z) λi W=>?_;exact zu W X
  ·have e:((v::Y::vs).map λS=>g9 135).toArray[0]?=af (.ref 135):=by simp
   rw[e];dsimp only;rw[aW (by simp-iota)];exact aD (aD h)
noncomputable def qW(h:aM):ao->aq|.ref x=>(match h.get? x with|some o=>(match o.data with|.seq items _=>(match items.toList with|.int i _::_=>i|_=>0)|_=>0)|none=>0)|_=>0
theorem qU.key{h:aM}{v:ao}{i:aq}(Y:qU h v i):qW h v=i:=by
 (refine EG Y λx X n d t r Z W V=>?_;clear Y;subst Z);show (match h.get? x with|some o=>(match o.data with|.seq items _=>(match items.toList with|.int i _::_=>i|_=>0)|_=>0)|none=>0)=i;rw[W];show (match X.toList with|.int i _::_=>i|_=>0)=i;rw[V]
end
section
set_option backward.match.sparseCases true
theorem Gn{h:aM}{a:az}{xs:aK ao}{n:ah}{sl:aK (aA ao)}(Z:h.get? a=af (bS xs n sl))(g:aK ao->aK ao):∃Y,(h.update a (jc g)).get? a=af (bS (g xs) Y sl):=by
 have X:=((Heap.get?_eq_some h a _).mp Z).1;exact⟨_,(Heap.get?_eq_some _ _ _).mpr ⟨by rw[Heap.objs_update_self,X];rfl,rfl⟩⟩
section
variable{w:aG}{A:bg}{env:aV}{sc:aU}{ρ ρ':aa az}{s s':ay}{σ σ':AS}{K:ah}{P:AV->AS->Prop}{E:ao->ay->Prop}
theorem qU.keep{h h':aM}{v:ao}{i:aq}{a:az}{xs:aK ao}{n:ah}{sl:aK (aA ao)}(W:h.get? a=af (bS xs n sl))(V:∀b o,b≠a->h.get? b=af o->h'.get? b=af o)(X:qU h v i):qU h' v i:=by
 (refine EG X λx U m d t r Z Y T=>?_;clear X;subst Z);refine⟨x,U,m,d,t,r,rfl,V x _ (λe=>?_) Y,T⟩;subst e;rw[W] at Y;cases Y
theorem Dq{a:az}{items:aK ao}{n:ah}{sl:aK (aA ao)}{Q:PySem.Fin->ay->Prop}(X:(kM w.params).In s.heap)(hu:A.units<gp)(L:449<=a)(J:s.heap.get? a=af (bS items n sl))(m:∀v∈items.toList,∃i,qU s.heap v i)(hn:(items.toList.map (qW s.heap)).Nodup)(V:items.size<64)(h:∀(out:aK ao)(h':aM)(n':ah),out.toList.Perm items.toList->out.toList.Pairwise (λu v=>qW s.heap u<qW s.heap v)->h'.get? a=af (bS out n' sl)->(∀b o,b≠a->s.heap.get? b=af o->h'.get? b=af o)->s.heap.objs.size<=h'.objs.size->Q (.done (.ret .none)) {s with heap:=h'}):aB (aE pw w) A (Builtin.«list.sort» ⟨[.ref a],[]⟩) Q E s:=by
 rw[list_sort_plain];have ha:a<s.heap.objs.size:=b9 J;refine au (listItems_at J rfl ?_);refine au (listUpdate_at J rfl ?_ (hsz:=by rw[sizeLine_eq];exact Z1 [V0,.n 16777216,.p V0 (.n 1),.n 64] (by kernel_rfl) V));refine aZ (Gn J (λT=>#[])) λn1 S=>?_;refine au (seqEpoch_at S rfl ?_);refine au (wpAny_newTuple ?_ (by rw[kc,sizeLine_eq];exact Z1 [V0,.n 16777216,.p V0 (.n 1),.n 64] (by kernel_rfl) V));refine au (wpAny_newList ?_);refine bP ?_;generalize I:s.heap.update a (jc λT=>(#[]:aK ao))=N at S;have k1:fu a s.heap N:=by rw[<-I];exact iP ..
 show aB _ _ _ _ _ {s with heap:=(N.push _).push _};generalize Uz:({cls:=.type "tuple",data:=.seq items.toList.toArray}:aR)=t2;generalize hl2:({cls:=.type "list",data:=.seq ([]:aa ao).toArray}:aR)=l2;have U:((N.push t2).push l2).get? a=af (bS #[] n1 sl):=bZ _ (bZ _ S);have H:((N.push t2).push l2).objs.size=s.heap.objs.size+2:=by rw[dJ,dJ,k1.1]
 have D:∀(b:az) (o:aR),b≠a->s.heap.get? b=af o->((N.push t2).push l2).get? b=af o:=λb o B e=>bZ _ (bZ _ ((k1.2 b B).trans e));clear I;generalize (N.push t2).push l2=M at U H D;have p0:∀p∈(items.zip items).toList,p.1=p.2/\p.1∈items.toList:=λp W=>by
  rw[Array.toList_zip] at W;exact mem_zip_self W
 have z1:(items.zip items).toList.map (·.1)=items.toList:=by rw[Array.toList_zip];exact List.map_fst_zip (bf _)
 have z2:(items.zip items).toList.map (·.2)=items.toList:=by rw[Array.toList_zip];exact List.map_snd_zip (bf _)
 have z:(items.zip items).size=items.size:=by rw[Array.size_zip,Nat.min_self]
 have G:∀Z:gm,(bC Z).Perm (items.zip items)->failedOf Z=none->vM (λp=>qW s.heap p.1) (bC Z) items.size->aB (aE pw w) A (do
   let sorted:=(bC Z).map (·.2)let Y:=(<-seqEpoch a) !=n1
   w6 (.ref a) λT=>sorted if let af e:=failedOf Z then rule "list.sort.comparison-raised";throw e
   if Y then rule "list.sort.modified";raiseError "ValueError" "list modified during sort"
   ret .none) Q E {s with heap:=M}:=by
  intro Z W l g;have W:=Array.perm_iff_toList_perm.mp W;have F:(bC Z).size=items.size:=by have:=W.length_eq;simpa [z] using this
  refine au (seqEpoch_at U rfl ?_);refine au (listUpdate_at U rfl ?_ (hsz:=bW _) (hsz2:=by rw[Array.size_map,F,sizeLine_eq];exact Z1 [V0,.p (.n 16777216) (.n 1),.p V0 (.n 1),.n 64] (by kernel_rfl) V));rw[l];simp only[o9,i5,kL];refine aZ (Gn U (λT=>(bC Z).map (·.2))) λn7 f=>?_;have k7:fu a M (M.update a (jc λT=>(bC Z).map (·.2))):=iP ..;refine aD (h ((bC Z).map (·.2)) _ n7 ?_ ?_ f (λb o B e=>(k7.2 b B).trans (D b o B e)) (by rw[k7.1,H];exact dh _ _));·rw[Array.toList_map,<-z2];exact W.map _
  ·rw[Array.toList_map,mW,List.pairwise_iff_getElem];intro i j t r R;have e1:∀(k:ah) (d:k<(bC Z).toList.length),kx (λp=>qW s.heap p.1) (bC Z) k=qW s.heap ((bC Z).toList[k]).2:=λk d=>by
    have m:(bC Z).toList[k]∈(items.zip items).toList:=W.mem_iff.mp (rX d);rw[<-(p0 _ m).1];unfold kx;rw[<-fS,c7 d];rfl
   rw[<-e1 i t,<-e1 j r];exact g i j R (by rw[<-F,<-kc];exact r)
 dsimp only;by_cases O:items.size<2;·rw[aW O,aW O];refine au (aD ?_);rw[StateT.run_pure];refine au (aD ?_);exact G (SortSt.mk' general' (items.zip items) #[] 7 none) (Array.Perm.refl _) rfl λi j R r=>by exact Qx (lY [_,_,_] 0 [] [.n 1,.n 0,.p V0 (.n 1),.n 2,.p V1 (.n 1),V2,.p V2 (.n 1),V0] rfl O R r)
 ·rw[aI O,aI O];have JB:∀v∈items.toList,qU M v (qW s.heap v):=λv c=>by
   refine aZ (m v c) λi t=>?_;rw[t.key];exact t.keep J D
  have X6:(kM w.params).In M:=λb o e=>D b o (λq=>?_) (X b o e)
  ·refine au (Dp (vs:=items.toList) (λv c=>⟨_,JB v c⟩) (by rw[kc];exact(Qb O)) ?_);have C:Bu w A {s with heap:=M} (λp=>qW s.heap p.1) (items.zip items):=⟨λx y hx hy ne E' Q' hQ=>Dn X6 hu (JB _ (p0 x hx).2) (JB _ (p0 y hy).2) ne hQ,by
     have e:(items.zip items).toList.map (λp=>qW s.heap p.1)=items.toList.map (qW s.heap):=by
      conv=>rhs;rw[<-z1,b5]
      rfl
     rw[e];exact hn⟩;refine au (bk (C.runs (E:=E) (st:=SortSt.mk' oneType' (items.zip items) #[] 7 none) (Q:=λT Z=>(bC Z).Perm (items.zip items)/\failedOf Z=none/\vM (λp=>qW s.heap p.1) (bC Z) items.size) ⟨Array.Perm.refl _,rfl,rfl,rfl⟩ (br (ff O) (cA z.symm)) (er (cA z) V) λZ a1 a2 a3=>⟨a1,a2,by rw[<-z];exact a3⟩) ?_ λT T e=>e);rintro⟨⟨⟩,Z⟩ s' ⟨rfl,W,l,g⟩;exact G Z W l g
  ·subst q;exact aJ (pP w.params▸b9 (Cu e)) (iZ L)
theorem Dr{h:aM}{ρ:aa az}{x:DV}{v:ao}(Z:Ip x=aj)(Y:R h ρ x v):qU h v (nh x):=by induction x using DV.casesOn with
 |qI l=>induction l using aO with |nil=>exact ft Z|cons y r=>induction y using DV.casesOn with |int i=>exact eR Y λa items n d X W V U=>cU U λv T e q V=>aZ q λt S=>⟨a,items,n,d,t,T,X,W,by rw[e,S];rfl⟩|_=>exact ft Z
 |_=>exact ft Z
theorem RS.perm{h:aM}{ρ:aa az}{vs Y:aa ao}(p:Y.Perm vs):∀{l:aa DV},RS h ρ l vs->∃X:aa DV,X.Perm l/\RS h ρ X Y:=by induction p with
 |nil=>intro l Z;exact aP l (.rfl) Z|cons x p R=> intro l Z;induction l using aO with|nil=>cases Z|cons a l=>
   refine cU Z λv r e W Z=>?_;cases e;refine aQ (R Z) λX V U=>?_;exact aP (a::X) (V.cons a) (RS.cons W U)
 |swap x y r=>
  intro l Z;induction l using aO with |nil=>cases Z|cons a l=>
   refine cU Z λv M e W Z=>?_;cases e;induction l using aO with |nil=>cases Z|cons b l=>
    refine cU Z λv L e Q Z=>?_;cases e;exact aP (b::a::l) (.swap ..) (RS.cons Q (RS.cons W Z))
 |trans p q T S=>
  intro l Z;refine aQ (S Z) λl1 V U=>?_;refine aQ (T U) λl2 O N=>?_;exact aP l2 (O.trans V) N
theorem RS.keys{h:aM}{ρ:aa az}:∀{l:aa DV}{vs:aa ao},l.all Ip=aj->RS h ρ l vs->vs.map (qW h)=l.map nh/\∀v∈vs,∃i,qU h v i:=by
 intro l;induction l with |nil=> intro _ _ e;cases e;exact⟨rfl,λS h=>nomatch h⟩|cons x l Y=>
  intro _ Z X;obtain⟨v,r,e,W,V⟩:=X;subst e;rw[qj,cu] at Z;have m:=Dr Z.1 W;refine bq (Y Z.2 V) λU T=>?_;refine⟨by rw[ek,ek,m.key,U],λu hu=>?_⟩;rcases gq hu with rfl|hu;·exact⟨_,m⟩
  ·exact T u hu
theorem zv{x:AV}{as:aa AV}(h:JZ x as P σ):Mc K sc x .sort as σ P:=by
 intro w A env ρ s I r va vs H X;refine uR h H λk a U h=>M8 h X λh=>jo h λl e h=>bq h λW G=>cL W λh1 O F=>lat r.bK e U λitems n D N X=>?_;have C:items.size=l.length:=by simpa using X.length
 refine bq (X.keys O) λz v=>?_;have M:=I.units;have e1:∀B:bg,B=A.in1.in1->B.units<gp:=λB e=>by subst e;show A.units+1+1<9900;exact Z2 [.p (.p (.p V0 (.n 1)) (.n 1)) (.n 1),.n 9900,.p V0 (.m 8 V1),.n 4000] rfl M
 refine dP PyProof.Rows.slot_list_sort (aP _ N rfl) PyProof.Rows.entry_list_sort ?_ (PyProof.Rows.args_list_sort _);refine Dq (tU r.top) (by show A.units+1<9900;exact Z2 [.p (.p V0 (.n 1)) (.n 1),.n 9900,.p V0 (.m 8 V1),.n 4000] rfl M) (r.bK.above a (j3 U)) N v (by rw[z];exact F) (Z2 [.p V0 (.n 1),.n 64,.p V1 (.n 1),.n 64,V0,V1] rfl W.1 (Qe C)) λout h' u T Z S Y t=>aP _ rfl ?_;refine aQ (X.perm T) λV L J=>?_;have a2:V.all Ip=aj:=List.all_eq_true.mpr λy o=>lV O y (L.mem_iff.mp o);have q:=(J.keys a2).1;have Z:V.Pairwise (λa b=>nh a<nh b):=by
  rw[<-mW (f:=nh) (R:=(·<·)),<-q,mW];exact Z
 have j:=Way.s6 (tk:=s.toks) (d:=s.drawn) r U (bI.mp e) (λq=>nomatch q) (o':=.list V) (λø q=>nomatch q) (λb i g Q=>Y b i g Q) t λc=>kO out u D S (J.mono c);exact j.pv (.d .none) (G V L Z)
end
end
noncomputable def jf(env:aV):aa (ai×b6)->aa (ai×az)->aa (ai×az) |[],Z=>Z|(n,.free)::l,Z=>jf env l ((n,(env.cells.lookup n).getD 0)::Z)|_::l,Z=>jf env l Z
theorem Bv{env:aV}:∀(l:aa (ai×b6))(cs:aa (ai×az)),(∀n,(n,fy)∈l->∃c,env.cells.lookup n=af c)->(forIn l cs (λ(x:ai×b6)(r:aa (ai×az))=>if x.2==.free then do let c<-cellOf env x.1;aX (rP ((x.1,c)::r))else aX (rP r)):Sem _)=aX (jf env l cs):=by
 intro X;induction X with |nil=> intro cs _;exact rfl|cons W l Z=>induction W using gz with|mk n k=>
   intro cs h;have Z:=λcs=>Z cs λn V=>h n (.tail _ V);rw[rY];induction k using sQ with
   |free=>
    refine aZ (h n (.head _)) λc Y=>?_;have:cellOf env n=aX c:=by unfold cellOf;rw[Y]
    simp only[iT,if_true,this,pure_bind];rw[Z];show aX (jf env l ((n,c)::cs))=aX (jf env l ((n,(env.cells.lookup n).getD 0)::cs));rw[Y];rfl|_=>exact Z cs
theorem u7{env:aV}{sc:aU}(h:∀n,(n,fy)∈sc.names->∃c,env.cells.lookup n=af c):closureFor sc env=aX (jf env sc.names []):=by
 have:=Bv (env:=env) sc.names [] h;show (do let r<-forIn sc.names [] _;aX r)=_;rw[show (forIn sc.names ([]:aa (ai×az)) _:Sem _)=_ from this];rfl
theorem zw{env:aV}:∀{l:aa (ai×b6)}{cs:aa (ai×az)}{p:ai×az},p∈jf env l cs->p∈cs\/((p.1,fy)∈l/\p.2=(env.cells.lookup p.1).getD 0):=by
 intro l;induction l with
 |nil=>
  intro _ _ h;exact .inl h|cons Y l Z=>induction Y using gz with|mk n k=> intro cs p h;induction k using sQ with
   |free=>
    rcases Z h with h|h;·cases h with|head=>exact .inr ⟨.head _,rfl⟩|tail _ h=>exact .inl h
    ·exact .inr ⟨.tail _ h.1,h.2⟩|_=>exact(Z h).imp_right λh=>⟨.tail _ h.1,h.2⟩
theorem Ds{env:aV}{x:ai}:∀{l:aa (ai×b6)}{cs:aa (ai×az)},(∃c,cs.lookup x=af c)->∃c,(jf env l cs).lookup x=af c:=by
 intro l;induction l with
 |nil=> intro _ h;exact h|cons Y l Z=>induction Y using gz with|mk n k=> intro cs X;obtain⟨c,h⟩:=X;induction k using sQ with
   |free=>
    refine Z ?_;cases q:x==n with |true=>exact⟨_,by rw[iA,q]⟩|false=>exact⟨c,by rw[iA,q];exact h⟩
   |_=>exact Z ⟨c,h⟩
theorem pZ{env:aV}{x:ai}:∀{l:aa (ai×b6)}{cs:aa (ai×az)},(x,fy)∈l->∃c,(jf env l cs).lookup x=af c|(n,k)::l,cs,h=>by cases h with |head=>exact Ds (l:=l) ⟨_,by rw[iA,iT]⟩|tail _ h=>induction k using sQ with |free=>exact pZ (l:=l) h|_=>exact pZ (l:=l) h
theorem Dt{env:aV}:∀{l:aa (ai×b6)}{cs:aa (ai×az)},(cs.map (·.1)).Nodup->(l.map (·.1)).Nodup->(∀x∈l.map (·.1),x∉cs.map (·.1))->((jf env l cs).map (·.1)).Nodup:=by
 intro l;induction l with
 |nil=> intro _ h _ _;exact h|cons U l V=>induction U using gz with|mk n k=>
   intro cs h Z X;rw[ek,oz] at Z;induction k using sQ with
   |free=>
    refine V ?_ Z.2 λx Y W=>?_;·rw[ek,oz];exact⟨X n (.head _),h⟩
    ·cases W with |head=>exact Z.1 Y|tail _ W=>exact X x (.tail _ Y) W
   |_=>exact V h Z.2 λx Y=>X x (.tail _ Y)
structure f7(sc sc':aU):Prop where
 fn:sc'.kind=.function
 nodup:(sc'.names.map (·.1)).Nodup
 free:∀n k,(n,k)∈sc'.names->k≠f6/\(k=fy->∃j:ah,sc.names[j]?=af (n,f6))
section
variable{w:aG}{A:bg}{env:aV}{sc sc':aU}{ρ ρ':aa az}{s s':ay}{σ σ':AS}{K:ah}{P:AV->AS->Prop}{h h':aM}
noncomputable def j4(sc sc':aU):aU:={sc' with names:=sc'.names.map λ(n,k)=>if (k==.free&&sc.kind==.function&&sc.names.lookup n==af .cell) then (n,.cell) else (n,k)}
theorem I1(r:Shape sc env):relabel sc' env=j4 sc sc':=by
 unfold relabel j4;rw[r.scope];have:∀n,env.kindOf n=sc.names.lookup n:=λn=>by show env.scope.names.lookup n=_;rw[r.scope]
 simp only[this]
theorem pF(r:Shape sc env)(c:f7 sc sc'){i:ah}{n:ai}{k:b6}(h:(j4 sc sc').names[i]?=af (n,k)):(k=.cell/\sc'.names[i]?=af (n,.free)/\∃j:ah,sc.names[j]?=af (n,f6))\/(sc'.names[i]?=af (n,k)/\k≠.free/\k≠.cell):=by
 unfold j4 at h;dsimp only at h;rw[dN] at h;cases q:sc'.names[i]? with|none=>rw[q] at h;exact ns h|some p=>
  obtain⟨m,Z⟩:=p;rw[q] at h;refine bq (c.free m Z (j3 q)) λX Y=>?_;have h:(if (Z==.free&&sc.kind==.function&&sc.names.lookup m==af .cell) then (m,f6) else (m,Z))=(n,k):=dz h;split at h;·rename_i e;cases h;rw[cu,cu,beq_iff_eq] at e;obtain rfl:=e.1.1;exact .inl ⟨rfl,rfl,Y rfl⟩
  ·rename_i e;cases h;refine .inr ⟨rfl,λW=>e ?_,X⟩;subst W;refine aZ (Y rfl) λj V=>?_;rw[j6 r.nodup V,r.fn];rfl
theorem zx(sc sc':aU):(j4 sc sc').names.map (·.1)=sc'.names.map (·.1):=by
 rw[b5];refine gk λp Z=>?_;obtain⟨n,k⟩:=p;show (if _ then (n,f6) else (n,k)).1=n;split<;>rfl
theorem p5(r:Shape sc env)(c:f7 sc sc'):(∀x a,(jf env sc'.names []).lookup x=af a->env.cells.lookup x=af a)/\(jf env sc'.names []).Pairwise (λx y=>x.2≠y.2):=by
 have Z:∀p∈jf env sc'.names [],env.cells.lookup p.1=af p.2:=λp V=>by
  rcases zw V with h|⟨U,T⟩;·cases h
  ·refine aZ ((c.free _ _ U).2 rfl) λj S=>?_;refine aZ (r.cells j _ S) λa Y=>?_;rw[T,Y];rfl
 refine⟨λx a h=>Z (x,a) (mem_lookup h),?_⟩;have W:=Dt (env:=env) (l:=sc'.names) (cs:=[]) .nil c.nodup λR R h=>by cases h
 rw[wB,mW] at W;exact W.imp_of_mem λ{a b}Y Q X=>mh r.apart (Z a Y) (Z b Q) X
theorem Du(r:Rel w sc env σ ρ s)(c:f7 sc sc'){C:az}{s':ay}{Y:aa (aA AV)}(O:s.heap.objs.size<=C)(J:C<s'.heap.objs.size)(I:s'.heap.Ns C (λU=>none))(T:∀b o,s.heap.get? b=af o->s'.heap.get? b=af o)(X:∀(i:ah)(x:ai)(k:b6)(a:AV),sc'.names[i]?=af (x,k)->Y[i]?=af (af a)->k=fy/\∃j:ah,sc.names[j]?=af (x,f6)/\σ.loc[j]?=af (af a)):Rel w (j4 sc sc') (compEnvC sc' (jf env sc'.names []) C env) ⟨Y,σ.heap⟩ ρ s':=by
 refine bq (p5 r.shape c) λN u=>?_;have z:mQ s.heap ρ s'.heap ρ:=⟨λa o t U I=>⟨T _ _ t,I⟩,λU U h=>h⟩;refine⟨⟨I1 r.shape,r.shape.glob,r.shape.blt,c.fn,by rw[zx];exact c.nodup,u,λx a S=>?_,λi x R=>?_⟩,λb o V=>T b o (r.top b o V),?_,⟨?_,λx a S=>r.locs.2 x a (N x a S)⟩,⟨(aP _ I (λi x M R H=>?_)),λq=>?_,λi x k M R G H=>?_,λx a S=>?_⟩,r.bK.keep z (λa o U Q=>T a o Q)⟩;·exact(λb V=>b8 (dg V O)) a (fG r (N x a S))
 ·rcases pF r.shape c R with ⟨_,W,_⟩|⟨_,_,L⟩;·exact pZ (j3 W)
  ·exact aJ rfl L
 ·exact br r.size (br O (gy J))
 ·exact br r.size O
 ·rcases pF r.shape c R with ⟨p,_⟩|⟨W,F,L⟩;·cases p
  ·have:=(X i x _ M W H).1;cases this
 ·exact aJ (r.bK.old q) (iZ O)
 ·rcases pF r.shape c R with ⟨rfl,W,F⟩|⟨W,F,L⟩
  ·refine bq (X i x _ M W H) λU Z=>aQ Z λj n E=>?_;refine cU (r.frame.cell j x _ M n (.inl rfl) E) λa v D y m=>?_;refine aZ (pZ (env:=env) (cs:=[]) (j3 W)) λb V=>?_;have e:=N x b V;have e:=D▸e;cases e;(refine aQ y λo Q B=>?_;clear y);exact bM a v V (aP o (T _ _ Q) B) (m.mono z)
  ·rcases G with rfl|rfl;·exact aJ rfl L
   ·exact aJ rfl F
 ·(refine bq (r.frame.hU x a (N x a S)) λD Z=>cz Z λv o Q B=>?_;clear Z);exact⟨D,v,o,T _ _ Q,B⟩
end
section
variable{w:aG}{A:bg}{env:aV}{sc:aU}{ρ ρ' aY cM:aa az}{s s' s₁ s₂:ay}{σ σ' σ₁ σ₂:AS}{K:ah}{P:AV->AS->Prop}{h h':aM}{it:az}
theorem Lp.K_{x:AV}{i:ah}(Y:it≠env.locals)(X:∀y,env.cells.lookup y≠af it)(l:Lp w sc env ρ s it i x σ₁ aY s₁)(a:Way w sc env aY s₁ σ₂ cM s₂):Lp w sc env ρ s it i x σ₂ cM s₂:=by
 refine⟨l.way.trans a,l.fresh,λhm=>?_,dg l.old a.step.size,l.at_.mono (a.k8 l.way.rel) λo W=>a.step.keep it o W Y X l.out⟩;(refine aQ a.grow λm Z hm2=>?_;subst Z);rcases d9 hm with hm|hm;·exact l.out hm
 ·exact aJ l.old (iZ (hm2 _ hm))
theorem Lp.J7{x:AV}{i j:ah}{tk:ah}(X:it≠env.locals)(W:∀y,env.cells.lookup y≠af it)(Z:449<=s.heap.objs.size)(l:Lp w sc env ρ s it i x σ₁ aY s₁)(q:vD it s₁.heap h'):Way w sc env ρ s σ₁ aY ⟨h',s₁.gens,s₁.drawn,tk,s₁.os⟩/\(Ah h' aY it j x->Lp w sc env ρ s it j x σ₁ aY ⟨h',s₁.gens,s₁.drawn,tk,s₁.os⟩):=by
 have st:Step env ρ s ⟨h',s₁.gens,s₁.drawn,tk,s₁.os⟩:=by
  have st:=l.way.step;exact⟨λb o Y V U T=>q.1 b o (λe=>aJ (b9 Y) (iZ (e▸l.fresh))) (st.keep b o Y V U T),br st.size q.2,st.gens,st.os⟩
 have way:Way w sc env ρ s σ₁ aY ⟨h',s₁.gens,s₁.drawn,tk,s₁.os⟩:=⟨l.way.grow,(l.way.rel.but l.at_.vE l.out X W (br Z l.fresh) q tk s₁.drawn),st⟩;exact⟨way,λS=>⟨way,l.fresh,l.out,dg l.old q.2,S⟩⟩
noncomputable def tests(ifs:aa aF)(env:aV):Sem aH:=forIn ifs aj λc r=>if r=aj then do let Z<-isTrue c env (eval c env);aX (rP Z) else aX (rP r)
theorem zy{elt Z iter:aF}{ifs:aa aF}{scope:aU}{pos:a_}{it acc:ao}{env:aV}{R:fk->ay->Prop}(I:ah->ay->Prop)(turn:∀n s,I n s->∀L:ay->Prop,(∀m s',m<n->I m s'->L s')->aB (aE pw w) A (eX it) (λr s₁=>match r with |none=>R (.ok .next) s₁|some v=>aB (aE pw w) A (sG Z it v) (λY X=>aB (aE pw w) A (iO Z env v) (λY s₂=>aB (aE pw w) A (tests ifs env) (λJ W=>if J=aj then aB (aE pw w) A (eval elt env) (λx V=>aB (aE pw w) A (dW (.builtin "list.append") [acc,x]) (λY U=>L U) b7 V) b7 W else L W) b7 s₂) b7 X) b7 s₁) b7 s)(n:ah)(h:I n s):dw (aE pw w) A (.compLoop (.ListComp elt [⟨Z,iter,ifs,0⟩] scope pos) 0 it acc env) R s:=by
 refine codeAny_loop rfl I (λn s H=>?_) n h;refine wpAny_noted ?_;rw[compTurn_list];refine au (fm (au (bk (turn n s H _ λm s' a b=>aP m a b) (λr s₁ T=>?_) λY Y h'=>h'.elim)));induction r using c9 with|none=>exact aD T|some v=>
  refine au (bk T (λY X Q=>?_) λY Y h'=>h'.elim);refine au (bk Q (λY s₂ O=>au (bk O (λJ W S=>?_) λY Y h'=>h'.elim)) λY Y h'=>h'.elim);induction J using jx with |false=>exact aD ⟨rfl,S⟩|true=>exact au (au (bk S (λx V N=>au (bk N (λY U M=>aD (aD ⟨rfl,M⟩)) λY Y h'=>h'.elim)) λY Y h'=>h'.elim))
noncomputable def L_(K:ah)(sc:aU):aa aF->AS->(aH->AS->Prop)->Prop|[],σ,P=>P aj σ|[c],σ,P=>Ts K sc c σ P|_,_,_=>bG
theorem L_.run{ifs:aa aF}{P:aH->AS->Prop}(Z:c5 K A)(r:Rel w sc env σ ρ s)(h:L_ K sc ifs σ P):aB (aE pw w) A (tests ifs env) (λb s'=>∃σ' ρ',P b σ'/\Way w sc env ρ s σ' ρ' s') b7 s:=by induction ifs using aO with|nil=>exact aD (cG σ ρ h (Way.refl r))|cons c l=>induction l using aO with |nil=>exact wpAny_tests_one (Ts.run (e:=c) h Z r λb s' σ' ρ' Y X=>cG σ' ρ' Y X)|cons=>exact h.elim
end
section
variable{w:aG}{A:bg}{env cenv:aV}{sc sc' ye:aU}{ρ ρ' aY cM:aa az}{s s' s₁ s₂:ay}{σ σ' σ₁ σ₂:AS}{K:ah}{P:AV->AS->Prop}{h h':aM}{it D:az}
theorem zz{H:aa AO}{x:AO}{a:AV}{xs:aa DV}(h:jk H a=af xs):jk (H++[x]) a=af xs:=by induction a using AV.casesOn with |d d=>induction d using DV.casesOn<;>exact h|ref k=> have h:listAt H k=af xs:=h;show listAt (H++[x]) k=af xs;rw[bI] at h ⊢;rw[m9 (gi h).1];exact h|bm=>exact h
theorem zA{H:aa AO}{x y:AO}:(H++[x]).set H.length y=H++[y]:=by rw[mU _ _ (bf _),cB];rfl
theorem Dv{t elt iter:aF}{ifs:aa aF}{scope:aU}{pos:a_}{H:aa AO}{a:AV}{xs:aa DV}{R:fk->ay->Prop}{P:aa DV->AS->Prop}(hA:c5 K A)(hl:it≠cenv.locals)(hc:∀y,cenv.cells.lookup y≠af it)(La:449<=s.heap.objs.size)(hx:jk H a=af xs){T:AS}{S:aa az}{m:ay}(QY:S[H.length]?=af D)(h:qO (λx Q σ=>As K ye t (.d x) σ Q) (λQ σ=>L_ K ye ifs σ Q) (λQ σ=>Ev K ye elt σ Q) H xs [] P T)(l0:Lp w ye cenv ρ s it 0 a T S m)(hR:∀acc σ' ρ' s',P acc σ'->σ'.heap=H++[.list acc]->ρ'[H.length]?=af D->Way w ye cenv ρ s σ' ρ' s'->R (.ok .next) s'):dw (aE pw w) A (.compLoop (.ListComp elt [⟨t,iter,ifs,0⟩] scope pos) 0 (.ref it) (.ref D) cenv) R m:=by
 refine zy (λn s'=>∃(i:ah) (acc:aa DV) (σ':AS) (ρ':aa az),i+n=xs.length/\σ'.heap=H++[.list acc]/\ρ'[H.length]?=af D/\qO (λx Q σ=>As K ye t (.d x) σ Q) (λQ σ=>L_ K ye ifs σ Q) (λQ σ=>Ev K ye elt σ Q) H (xs.drop i) acc P σ'/\Lp w ye cenv ρ s it i a σ' ρ' s') ?_ xs.length (uG 0 [] T S (eV _) ?_ QY h l0)
 ·refineλn s₃ Z Nx hN=>HX Z λi acc I O hn G N X F=>?_;have NF:jk I.heap a=af xs:=by rw[G];exact zz hx
  refine bk (Bc hA F.way.rel NF F.at_) (λq s₄ Z=>cU Z λh' tk' e4 hb hq=>?_) λU U h=>h.elim;subst e4;refine bq (F.J7 (j:=i+1) (tk:=tk') hl hc La hb) λLb l₄=>?_;cases E:xs[i]? with
  |none=>
   rw[E] at hq;subst hq;rw[dH (List.getElem?_eq_none_iff.mp E)] at X;exact hR acc I O _ X.2 G N Lb|some d=>
   rw[E] at hq;(refine cC hq λv Af hv hi'=>?_;clear hq;subst Af);have C:=l₄ hi';have hd:xs.drop i=d::xs.drop (i+1):=by
    refine aZ (gi E) λh1 h2=>?_;rw[e8 h1,h2]
   have o:i<xs.length:=(gi E).1;rw[hd] at X;have oh:∀{M:aa az}{n:ah},eY O M n->M[H.length]?=af D:=λK1=>aQ K1 λl e U=>by rw[e,m9 (gi N).1];exact N
   refine bk (letGo (Bd a) C.at_.vE.2 (Q:=λU s'=>s'=_) rfl) (λU s₅ e5=>?_) λU U h=>h.elim;subst e5;refine bk (X.2 w A cenv O _ hA C.way.rel v hv) (λU s₆ Z=>cz Z λJ2 M NG W=>?_) λU U h=>h.elim;refine bk (NG.run hA W.rel) (λok s₇ Z=>cz Z λNH NI Y V=>?_) λU U h=>h.elim;have k:=(C.K_ hl hc W).K_ hl hc V;induction ok using jx with
   |false=>
    have Y:=Y.2 rfl;refine hN (n-1) _ (Q2 (Z3 [.n 1,V0,V1,.p V2 V0,.p V2 (.n 1),V1] rfl (Qf hn) o)) (uG (i+1) acc NH NI (vh [.p (.p V0 (.n 1)) V1,V2,.p V0 V3,V2,.p V1 (.n 1),V3] rfl hn (eO (Z3 [.n 1,V0,V1,.p V2 V0,.p V2 (.n 1),V1] rfl (Qf hn) o))) ?_ (oh ((W.trans V).grow)) Y k);generalize xs.drop (i+1)=l at Y;cases l<;>exact Y.1|true=>
    (refine(Y.1 rfl).run hA V.rel λg f a₈ L B c=>m_ c λdd Lc hsz z Gq J Gs=>?_;clear c);subst Lc;have Ld:=k.K_ hl hc J;have hla:listAt L.heap H.length=af acc:=by rw[bI,z,jh (bf _),cB];rfl
    have ap:KZ (.ref H.length) [.d dd] (λU u=>u=⟨L.loc,H++[.list (acc++[dd])]⟩) L:=bO hla ⟨hsz,by rw[z,zA]⟩;refine bk (tK ap w A cenv B f hA J.rel (.ref D) [g] (.ref (oh ((W.trans V).trans J).grow)) (bM g [] rfl Gs rfl)) (λU QZ Z=>kY Z λav u r e9 Q6 Q7 U NJ=>?_) λU U h=>h;subst e9;have b:Way w ye cenv B f _ r QZ:=⟨Q6,Q7,NJ⟩;exact hN (n-1) _ (Q2 (Z3 [.n 1,V0,V1,.p V2 V0,.p V2 (.n 1),V1] rfl (Qf hn) o)) (uG (i+1) (acc++[dd]) _ r (vh [.p (.p V0 (.n 1)) V1,V2,.p V0 V3,V2,.p V1 (.n 1),V3] rfl hn (eO (Z3 [.n 1,V0,V1,.p V2 V0,.p V2 (.n 1),V1] rfl (Qf hn) o))) rfl (oh (((W.trans V).trans J).trans b).grow) Gq (Ld.K_ hl hc b))
 ·cases xs<;>exact h.1
theorem Dw(r:Shape sc env)(c:f7 sc sc'){i:ah}{x:ai}(h:sc'.names[i]?=af (x,fy)):(j4 sc sc').names[i]?=af (x,f6):=by
 refine aZ ((c.free x _ (j3 h)).2 rfl) λj Z=>?_;rw[dN,h];show af (if (fy==.free&&sc.kind==.function&&sc.names.lookup x==af .cell) then (x,f6) else (x,fy))=_;rw[j6 r.nodup Z,r.fn];rfl
theorem tY{C:az}{x:AO}(r:Rel w sc env σ₁ aY s₁)(c:f7 sc sc')(I:s₁.heap.objs.size<=C)(Z:Way w (j4 sc sc') (compEnvC sc' (jf env sc'.names []) C env) aY s₁ σ' ρ' s')(z:σ'.heap=σ₁.heap++[x])(U:ρ'[σ₁.heap.length]?=af D)(R:∀(i:ah)(x:ai),sc'.names[i]?=af (x,fy)->∀(j:ah)(k:b6)(a:AV),sc.names[j]?=af (x,k)->σ₁.loc[j]?=af (af a)->σ'.loc[i]?=af (af a)):Way w sc env aY s₁ σ₁ aY s'/\D∉aY/\(∀a,a∈aY->a∈ρ')/\yF w s'.heap ρ' σ₁.heap.length x D:=by
 refine bq (p5 r.shape c) λH p2=>?_;have Y:=r.bK.len;have d:=Z.rel.bK.len;(refine aQ Z.grow λl W T=>?_;subst W);have Q:(aY++l).take σ₁.heap.length=aY:=by rw[<-Y];exact qi rfl
 have hD:D∈l:=by
  rw[jh ((Qe Y))] at U;exact j3 U
 have Pk:D∉aY:=λG=>aJ (r.bK.old G) (iZ (T D hD));have st:Step env aY s₁ s':=⟨λb o u h1 S h3=>Z.step.keep b o u (b8 (dg (b9 u) I)) (λx X=>S x (H x b X)) h3,Z.step.size,Z.step.gens,Z.step.os⟩;have t:mQ s₁.heap aY s'.heap aY:=qK r (eY.refl _ _) st;have p:=r.bK.wf;have O:gv w σ₁.heap s'.heap aY:=by
  have F:σ'.heap.take σ₁.heap.length=σ₁.heap:=by rw[z];exact qi rfl
  have:=Z.rel.bK.trunc σ₁.heap.length (by rw[F];exact p.2) (by rw[F];exact p.1);rw[F,Q] at this;exact this
 have old:∀{x a},env.cells.lookup x=af a->((jf env sc'.names []).lookup x=af a/\∃i:ah,sc'.names[i]?=af (x,fy))\/∀o,s₁.heap.get? a=af o->s'.heap.get? a=af o:=λ{x a}X=>by
  by_cases q:∃y,(jf env sc'.names []).lookup y=af a
  ·(refine aZ q λy N=>?_;clear q);have:x=y:=mR λE=>mh r.shape.apart X (H y a N) E rfl;subst this;refine .inl ⟨N,?_⟩;rcases zw (mem_lookup N) with h|⟨h,_⟩;·cases h
   ·exact List.mem_iff_getElem?.mp h
  ·refine .inr λo V=>Z.step.keep a o V (b8 (dg (b9 V) I)) (λy N=>q ⟨y,N⟩) (r.frame.hU x a X).1
 have frame:C2 sc env σ₁.loc s'.heap aY:=by
  refine⟨?_,r.frame.sZ,λi x k M J hk T=>?_,λx a X=>⟨(r.frame.hU x a X).1,?_⟩⟩
  ·refine aQ r.frame.ns λm G hf=>?_;refine aP m (Ns.keep G λo V=>Z.step.keep _ o V (b8 (dg (fK r) I)) (λx X=>?_) r.frame.sZ) (λi x M J T=>?_);·exact aJ rfl (r.shape.B7 x _ (H x _ X))
   ·refine aQ (hf i x M J T) λv h1 S=>?_;exact aP v h1 (S.mono t)
  ·refine cU (r.frame.cell i x k M J hk T) λa v B n g=>?_;rcases old B with ⟨h1,f,S⟩|h1
   ·refine cU (Z.rel.frame.cell f x _ M (Dw r.shape c S) (.inl rfl) (R f x S i k M J T)) λa' v' L e2 e3=>?_;have L:(jf env sc'.names []).lookup x=af a':=L;have L:=h1▸L;cases L;have e:=e3.take (k:=σ₁.heap.length) (by have:=g.lt;rwa [Y] at this);rw[Q] at e;exact bM a v' B e2 e
   ·(refine aQ n λo V U=>?_;clear n);exact bM a v B (aP o (h1 _ V) U) (g.mono t)
  ·rcases old X with ⟨h1,_⟩|h1;·exact(Z.rel.frame.hU x a h1).2
   ·(refine bq (r.frame.hU x a X) λø W=>cz W λv o V U=>?_;clear W);exact cG v o (h1 _ V) U
 refine⟨⟨eY.refl _ _,⟨r.shape,Z.rel.top,br r.size Z.step.size,r.locs,frame,O⟩,st⟩,?_⟩;exact⟨Pk,λa ha=>jD _ ha,Z.rel.bK.obj σ₁.heap.length x D (by rw[z,jh (bf _),cB];rfl) U⟩
theorem Dy{C:az}{acc:aa DV}(r:Rel w sc env σ₁ aY s₁)(c:f7 sc sc')(X:s₁.heap.objs.size<=C)(W:Way w (j4 sc sc') (compEnvC sc' (jf env sc'.names []) C env) aY s₁ σ' ρ' s')(V:σ'.heap=σ₁.heap++[.list acc])(U:ρ'[σ₁.heap.length]?=af D)(Z:∀(i:ah)(x:ai),sc'.names[i]?=af (x,fy)->∀(j:ah)(k:b6)(a:AV),sc.names[j]?=af (x,k)->σ₁.loc[j]?=af (af a)->σ'.loc[i]?=af (af a)):Way w sc env aY s₁ σ₁ aY s'/\R s'.heap aY (.lst acc) (.ref D):=by
 (refine rA (tY r c X W V U Z) λT S Q Y=>gu Y λitems n O N M=>?_;clear Y);exact⟨T,D,items,n,O,rfl,N,S,JF Q M⟩
end
section
variable{w:aG}{A:bg}{env cenv:aV}{sc sc' ye:aU}{ρ ρ' aY cM:aa az}{s s' s₁ s₂:ay}{σ σ' σ₁ σ₂:AS}{K:ah}{P:AV->AS->Prop}{cI:Fl->AS->Prop}{h h':aM}{it D C:az}
theorem Gu{x:AV}{i:ah}{Q:ao->ay->Prop}(hi:Ah s.heap ρ it i x)(h:Q (.ref it) s):aB (aE pw w) A (jK (.ref it)) Q b7 s:=by induction x using AV.casesOn with
 |d x=>induction x using DV.casesOn with |lst l=>exact rB hi λZ Z Z Z q Z=>wpAny_pyIter_listiter q h|tup l=>exact gu hi λZ Z Z q Z=>wpAny_pyIter_tupleiter q h|bytes b=>exact aZ hi λZ q=>KBw.pyIter_self q h|vj a b c=>exact wpAny_pyIter_rangeiter hi h|_=>exact qd hi
 |ref k=>exact aQ hi λZ q Z=>wpAny_pyIter_listiter q h|_=>exact qd hi
theorem Rel.drop{m:ai->aA ao}(r:Rel w sc env σ ρ s)(S:s.heap.Ns C m)(N:C∉ρ)(M:C≠env.locals)(L:∀x,env.cells.lookup x≠af C)(Z:449<=C)(q:fu C s.heap h'):Rel w sc env σ ρ {s with heap:=h'}/\mQ s.heap ρ h' ρ:=by
 have q:=vD.same q;have X:mQ s.heap ρ h' ρ:=by
  refine⟨λa o R W V=>⟨q.1 a o ?_ R,V⟩,λQ Q h=>h⟩;rintro rfl;(refine uF S λH G F U J Q=>?_;clear S);have U:=R▸U;cases U;have W:=J▸W;cases W.1
 refine⟨⟨r.shape,λb o O=>q.1 b o (λe=>?_) (r.top b o O),br r.size q.2,r.locs,r.frame.keep X (λo Y=>q.1 _ o (Ne.symm M) Y) (λx c o T Y=>q.1 c o (λe=>L x (e▸T)) Y) r.frame.sZ (λx c T=>(r.frame.hU x c T).1),r.bK.keep X λa o I Y=>q.1 a o (λe=>N (e▸I)) Y⟩,X⟩;subst e;exact aJ (pP w.params▸b9 O) (iZ Z)
theorem Way.drop{m:ai->aA ao}(r:Rel w sc env σ₁ aY s₁)(Y:Way w sc env aY s₁ σ' ρ' s')(V:s'.heap.Ns C m)(Z:s₁.heap.objs.size<=C)(X:C∉ρ')(q:fu C s'.heap h'):Way w sc env aY s₁ σ' ρ' {s' with heap:=h'}/\mQ s'.heap ρ' h' ρ':=by
 refine bq (Y.rel.drop V X (λe=>aJ (fK r) (iZ (e▸Z))) (λx e=>aJ (fG r e) (iZ Z)) (br r.size Z) q) λU T=>?_;refine⟨⟨Y.grow,U,?_⟩,T⟩;have st:=Y.step;have q:=vD.same q;exact⟨λb o W S R Q=>q.1 b o (λe=>aJ (b9 W) (iZ (e▸Z))) (st.keep b o W S R Q),br st.size q.2,st.gens,st.os⟩
def CD(K:ah)(sc sc':aU)(t elt:aF)(ifs:aa aF)(a:AV)(σ₁:AS)(P:aa DV->Prop):Prop:=∃X Z,jk σ₁.heap a=af X/\(∀(i:ah) (x:ai) (k:b6) (a:AV),sc'.names[i]?=af (x,k)->Z[i]?=af (af a)->k=fy/\∃j:ah,sc.names[j]?=af (x,f6)/\σ₁.loc[j]?=af (af a))/\qO (λx Q σ=>As K (j4 sc sc') t (.d x) σ Q) (λQ σ=>L_ K (j4 sc sc') ifs σ Q) (λQ σ=>Ev K (j4 sc sc') elt σ Q) σ₁.heap X [] (λY σ'=>(∀(i:ah) (x:ai),sc'.names[i]?=af (x,fy)->∀(j:ah) (k:b6) (a:AV),sc.names[j]?=af (x,k)->σ₁.loc[j]?=af (af a)->σ'.loc[i]?=af (af a))/\P Y) ⟨Z,σ₁.heap++[.list []]⟩
theorem tZ{e:aF}{f:Sem ao}{o0:aR}{x0:AO}{a:AV}{d:ao}{xs:aa DV}{V:aa (aA AV)}{RR:ao->az->fk->ay->Prop}(c:f7 sc sc')(r:Rel w sc env σ₁ aY s₁)(ra:RA s₁.heap aY a d)(O:jk σ₁.heap a=af xs)(L:∀(i:ah)(x:ai)(k:b6)(a:AV),sc'.names[i]?=af (x,k)->V[i]?=af (af a)->k=fy/\∃j:ah,sc.names[j]?=af (x,f6)/\σ₁.loc[j]?=af (af a))(y:∀l,x0≠.inst l)(h0:∀(h:aM)(ρ:aa az)(k:ah)(a:az),h.get? a=af o0->yF w h ρ k x0 a)(u:o0.isFreed=aC)(t:∀(s:ay)(Q:ao->ay->Prop),Q (.ref s.heap.objs.size) {s with heap:=s.heap.push o0}->aB (aE pw w) A f Q b7 s)(q:∀(it acc:ao) (cenv:aV) (s:ay) (m:fk->ay->Prop),dw (aE pw w) A (.compLoop e 0 it acc cenv) m s->aB (aE pw w) A (jK it) (λN s'=>dw (aE pw w) A (.compLoop e 0 N acc cenv) m s') b7 s->dw (aE pw w) A (.compStart e 0 it acc cenv) m s)(hl:∀(C D:az) (Y:ay),(aY++[D])[σ₁.heap.length]?=af D->s₁.heap.objs.size≠C->s₁.heap.objs.size<=C->Lp w (j4 sc sc') (compEnvC sc' (jf env sc'.names []) C env) aY s₁ s₁.heap.objs.size 0 a ⟨V,σ₁.heap++[x0]⟩ (aY++[D]) Y->dw (aE pw w) A (.compLoop e 0 (.ref s₁.heap.objs.size) (.ref D) (compEnvC sc' (jf env sc'.names []) C env)) (RR (.ref D) C) Y):aB (aE pw w) A (jK d) (λit s₂=>aB (aE pw w) A f (λacc J=>aB (aE pw w) A (newFunctionEnv sc' env.globals (jf env sc'.names []) [] env.qual none .none (af env)) (λcenv Y=>dw (aE pw w) A (.compStart e 0 it acc {cenv with scope:=relabel sc' env}) (RR acc cenv.locals) Y) b7 J) b7 s₂) b7 s₁:=by
 refine bk (Cj r O ra) (λv s₂ I=>cU I λW E e1 e2 hi=>?_) λS S h=>h;subst e1 e2;have H:=Way.push r W E;refine t _ _ ?_;have G:=Way.new H.rel (o:=x0) (ob:=o0) y (λfz B=>h0 _ _ _ _ B) u E;refine wpAny_newFunctionEnv (λx O=>(c.free x.1 x.2 O).1) (by intro x O;cases O) (λZ F M=>?_) c.fn;dsimp only at F M ⊢;have U:(s₁.heap.push W).objs.size=s₁.heap.objs.size+1:=dJ ..;have X:((s₁.heap.push W).push (o0)).objs.size=s₁.heap.objs.size+2:=by rw[dJ,U]
 have R:∀b o,((s₁.heap.push W).push (o0)).get? b=af o->Z.get? b=af o:=λb o z=>(M.2 b (b8 (b9 z))).trans (bZ _ z);have T:((s₁.heap.push W).push (o0)).objs.size<Z.objs.size:=by
  have:=M.1;rw[dJ] at this;rw[this];exact jH _
 have hD:(aY++[(s₁.heap.push W).objs.size])[σ₁.heap.length]?=af (s₁.heap.push W).objs.size:=by rw[<-r.bK.len,jh (bf _),cB];rfl
 have g:mQ (s₁.heap.push W) aY Z (aY++[(s₁.heap.push W).objs.size]):=by
  refine⟨λx o B S hn=>⟨R _ _ (bZ _ B),λhm=>?_⟩,λk x hk=>?_⟩
  ·rcases d9 hm with hm|hm;·exact hn hm
   ·have e:=g_ hm;exact aJ (b9 B) (by rw[e];exact dX _)
  ·rw[m9 (gi hk).1];exact hk
 have l0:Lp w (j4 sc sc') (compEnvC sc' (jf env sc'.names []) ((s₁.heap.push W).push (o0)).objs.size env) aY s₁ s₁.heap.objs.size 0 a ⟨V,σ₁.heap++[x0]⟩ (aY++[(s₁.heap.push W).objs.size]) ⟨Z,s₁.gens,s₁.drawn,E+0,s₁.os⟩:=by
  refine⟨⟨(aP _ rfl (λx O=>?_)),(Du (s':=⟨Z,s₁.gens,s₁.drawn,E+0,s₁.os⟩) G.rel c (bf _) T F R L),⟨λb o z S S S=>R b o (bZ _ (bZ _ z)),?_,rfl,rfl⟩⟩,bf _,λhm=>?_,?_,hi.mono g λo ho=>R _ o (bZ _ ho)⟩;·cases g_ O;exact Z2 [V0,V1,.p V0 (.n 1),V1] rfl (Qf U)
  ·exact Z3 [V0,V1,.p V0 (.n 2),V2,.p V2 (.n 1),V1] rfl (Qf X) T
  ·rcases d9 hm with hm|hm;·exact ee r hm
   ·have:=g_ hm;exact Qx (lY [_,_] 0 [] [.n 1,.n 0,.p V0 (.n 1),V1,V1,V0] rfl (Qf U) (Qf this))
  ·exact Z3 [.p V0 (.n 1),V1,.p V0 (.n 2),V2,.p V2 (.n 1),V1] rfl (Qf X) T
 have loop:=hl _ (s₁.heap.push W).objs.size _ hD (by exact b8 (Z2 [.p V0 (.n 1),V1,.p V0 (.n 2),V1] rfl (Qf X))) (Z2 [V0,V1,.p V0 (.n 2),V1] rfl (Qf X)) l0;exact q _ _ _ _ _ loop (bk (Gu (Q:=λN s'=>dw (aE pw w) A (.compLoop e 0 N _ _) _ s') l0.at_ loop) (λS S h=>h) λS S h=>h.elim)
theorem vO{t elt iter:aF}{ifs:aa aF}{pos:a_}{a:AV}{T:ao}{P:aa DV->Prop}{RR:ao->az->fk->ay->Prop}(I:c5 K A)(c:f7 sc sc')(r:Rel w sc env σ₁ aY s₁)(H:RA s₁.heap aY a T)(h:CD K sc sc' t elt ifs a σ₁ P)(G:∀D C acc s' m,P acc->Way w sc env aY s₁ σ₁ aY s'->R s'.heap aY (.lst acc) (.ref D)->s'.heap.Ns C m->s₁.heap.objs.size<=C->C<s'.heap.objs.size->RR (.ref D) C (.ok .next) s'):aB (aE pw w) A (jK T) (λit s₂=>aB (aE pw w) A (newList []) (λacc Y=>aB (aE pw w) A (newFunctionEnv sc' env.globals (jf env sc'.names []) [] env.qual none .none (af env)) (λcenv Z=>dw (aE pw w) A (.compStart (.ListComp elt [⟨t,iter,ifs,0⟩] sc' pos) 0 it acc {cenv with scope:=relabel sc' env}) (RR acc cenv.locals) Z) b7 Y) b7 s₂) b7 s₁:=by
 (refine cU h λo S O X V=>?_;clear h);refine tZ (x0:=.list []) (o0:=bS #[] 0) c r H O X (λW=>nofun) (λh ρ k a F=>kO _ _ _ F rfl) rfl (λs Q h=>eM h) (λit acc cenv s n E B=>codeAny_compStart_list E (bk B (λW W h=>h) λW W h=>h.elim)) λC D Z z U N x=>?_;exact Dv (t:=t) (elt:=elt) (iter:=iter) (ifs:=ifs) (scope:=sc') (pos:=pos) (D:=D) (R:=RR (.ref D) C) I U (λy e=>aJ (fG r ((p5 r.shape c).1 y _ e)) (dX _)) r.size O z V x λacc σ' ρ' s' M v u L=>by
   refine bq (Dy r c N L v u M.1) λq p=>?_;refine aQ L.rel.frame.ns λm J W=>?_;exact G _ _ acc s' m M.2 q p J N J.lt
theorem nC{l:aa (ai×b6)}(nd:(l.map (·.1)).Nodup):∀x∈l,x.2=.local->l.lookup x.1=af .local:=λx Z Y=>by
 refine aZ (List.mem_iff_getElem?.mp Z) λi X=>?_;obtain⟨n,k⟩:=x;cases (show k=.local from Y);exact j6 nd X
theorem pG(r:Rel w sc env σ ρ s)(c:f7 sc sc'):closureFor sc' env=aX (jf env sc'.names []):=u7 λn Z=>by
  refine aZ ((c.free n _ Z).2 rfl) λj Y=>?_;exact r.shape.cells j n Y
theorem Ev.comp{t elt iter:aF}{ifs:aa aF}{pos:a_}(c:f7 sc sc')(T:∀(env:aV)(x:ao),sJ iter env x=aX x)(h:Ev K sc iter σ λa σ₁=>CD K sc sc' t elt ifs a σ₁ λacc=>P (.d (.lst acc)) σ₁):Ev K sc (.ListComp elt [⟨t,iter,ifs,0⟩] sc' pos) σ P:=λw A env ρ s V r=>by
 refine AF (use:=none) (e:=.ListComp elt [⟨t,iter,ifs,0⟩] sc' pos) rfl (T env) (pG r c) c.fn (nC c.nodup) (h.run V r λL s₁ a σ₁ aY Y Z S=>?_);refine vO (RR:=λacc C=>compPost (aE pw w) A b7 none _ acc C) V c Z.rel S Y λD C acc s' m R Q O X U N=>?_;refine aP m X (λh' q=>?_);refine bq (Q.drop Z.rel X U (λX=>aJ (Z.rel.bK.old X) (iZ U)) q) λW M=>?_;exact(Z.trans W).pv (.d (O.mono M)) R
theorem Ex.comp{t elt iter:aF}{ifs:aa aF}{pos W p:a_}{y:ai}{i:ah}(E:sc.names[i]?=af (y,.local))(c:f7 sc sc')(B:∀(env:aV)(x:ao),sJ iter env x=aX x)(M:∀env:aV,Shape sc env->swapsWith (.ListComp elt [⟨t,iter,ifs,0⟩] sc' pos) (af (.Name y p)) W.line env=aX aj)(h:Ev K sc iter σ λa σ₁=>CD K sc sc' t elt ifs a σ₁ λacc=>cI .next {σ₁ with loc:=σ₁.loc.set i (af (.d (.lst acc)))}):Ex K sc (.Assign [.Name y p] (.ListComp elt [⟨t,iter,ifs,0⟩] sc' pos) W) σ cI:=λw A env ρ s L r=>by
 rw[exec_Assign_Name_used _ _ _ _ (M env r.shape)];refine au (fm (au ?_));refine au (bk (AF (use:=af (iO (.Name y p) env)) (Q:=λV s'=>PF w sc env ρ s cI .next s') rfl (B env) (pG r c) c.fn (nC c.nodup) (h.run L r λg s₁ a σ₁ aY T Z z=>vO (RR:=λacc C=>compPost (aE pw w) A b7 (af (iO (.Name y p) env)) (λV s'=>PF w sc env ρ s cI .next s') acc C) L c Z.rel z T λD C acc s' m v F u J N I=>?_)) (λV s' n=>aD (aD n)) λV V e=>e);refine bk (As.name (K:=K) (p:=p) (P:=λσ'=>cI .next σ') E v w A env aY s' L F.rel (.ref D) (.d u)) (λV s₂ S=>cz S λσ₂ cM U Y=>?_) λV V h=>h;have H:∀x,env.cells.lookup x≠af C:=λx e=>aJ (fG Z.rel e) (iZ N);have R:C∉aY:=λJ=>aJ (Z.rel.bK.old J) (iZ N);have X:s₂.heap.Ns C m:=Ns.keep J λo k=>Y.step.keep C o k (λe=>aJ (fK Z.rel) (iZ (e▸N))) H R;refine aP m X (λh' q=>?_);refine bq ((F.trans Y).drop Z.rel X N (λO=>by
  refine aQ Y.grow λl e j=>?_;rw[e] at O;rcases d9 O with q|q;·exact R q
  ·exact aJ I (iZ (j C q))) q) λG f=>?_;exact(Z.trans G).pf (fl:=.next) trivial U
end
section
variable{w:aG}{A:bg}{env:aV}{sc:aU}{ρ ρ':aa az}{s s':ay}{σ σ':AS}{K:ah}{P:AV->AS->Prop}{cI:Fl->AS->Prop}
theorem Ev.NK{id:ai}{p pos q:a_}{J E:aF}(I:noStar J=aj)(h:Ev K sc (.Name id p) σ λg X=>∃f,g=.d (.con (.ref f))/\A6.contains f=aj/\Ev K sc J X λa W=>Ev K sc E W λb Y=>Ij K f [a,b] Y.heap λv H=>P v {Y with heap:=H}):Ev K sc (.Call (.Name id p) [J] [⟨af "newline",E,q⟩] pos) σ P:=λw A env ρ s L r=>by
 refine wpAny_Call_Name_kw (h.run L r λz D g X G S=>cC S λf e y R U x=>?_);subst e;cases (x:z=_);refine pU (evalArgs_kw2 (by rfl) (args_cons (R.run L U.rel λu C a W F Q V t=>args_nil (kwAll_cons (Q.run L V.rel λvb O b Y T N Z n=>kwAll_nil ?_))) (dG I _ _)) (dG I _ _)) (by rw[gC pos env _ (by simp[I])];rfl);refine cz (FI y w) λo fd m l=>?_;refine⟨Kp.fn (Z.rel.top _ _ m) l,?_⟩;refine bk (gc (N w A T O L Z.rel.pre [u,vb] (bM _ _ rfl (t.mono (Z.k8 V.rel)) (bM _ _ rfl n rfl)))) (λv B M=>kY M λav H' ρ' k g j i st=>?_) λc c h=>h;exact(((U.trans V).trans Z).trans (Way.called Z.rel g j st)).pv i k
end
theorem slot_bool_hash:Slot "bool" "__hash__" "int.__hash__":=.of (owner:="int") (n:="__hash__") (by rw[fX,fY];kernel_rfl) (by decide+kernel) (by decide+kernel) (by decide+kernel) (by first|exact .inl (by decide+kernel)|exact .inr (by decide+kernel)) (by rw[fq];kernel_rfl)
theorem Dz{w:aG}{A:bg}{E:ao->ay->Prop}{s:ay}{Q:aq->ay->Prop}(h:Q 1 {s with toks:=s.toks+1}):aB (aE pw w) A (pyHash (.bool aj)) Q E s:=by
 have Z:s.TypeIs (.bool aj) "bool":=rfl;unfold pyHash;refine au ?_;rw[cRoomFor,aI (by rw[show [Value.bool aj].any Value.onHeap=aC from rfl];exact cS)];refine aD ?_;refine au (gY Z slot_bool_hash.lookup ?_);show aB _ _ (if (af (xu "int.__hash__")==af Value.none)=aj then _ else _) Q E s;rw[aI (by rw[beq_builtin_none];exact cS)];refine au (gY Z slot_bool_hash.lookup ?_);show aB _ _ (AE (.bool aj) "__hash__" _>>=_) Q E s;refine au (wpAny_callSpecialIfBoundUnlessNone?_slot Z slot_bool_hash (dP slot_bool_hash Z entry_int_hash (show aB _ _ (do ret (<-mkInt (rawHash 1))) _ _ s from wpAny_ret_mkInt ?_) (args_int_hash _)));have e:rawHash 1=1:=by decide+kernel
 rw[e];exact aD h
noncomputable def CE:ao->aH|.bool aj=>aj|_=>aC
set_option tactic.hygienic true in theorem gH{v:ao}(h:CE v=aj):v=.bool aj:=by cases v<;>first|cases h|(rename_i b;cases b<;>first|rfl|cases h)
noncomputable def TS(w:World):PySem.KeyKind pw w Unit where
 is _ v:=CE v;hash _:=1;inj _ _ _ _ _:=rfl;byValue _ v h:=by rw[gH h];rfl
 pyHash hv h:=by rw[gH hv];exact Dz h
 eqBool{A E s a b u v Q}hu hv h:=by
  rw[gH hu,gH hv];unfold PySem.eqBool;refine wpAny_holding ?_;rw[if_pos (by decide)];exact wpAny_bind (wpAny_rule (wpAny_pure h))
 «strs» _ x t v h:=by cases h
noncomputable def sT(w:World):SK w Unit where
 knd:=TS w;dec _:=();xD _ _ _:=rfl;scan _ v h:=by rw[gH h];rfl
 one:=.inr λø ø=>rfl
section
variable{w:aG}{A:bg}{env cenv:aV}{sc sc' ye:aU}{ρ ρ' aY cM:aa az}{s s' s₁ s₂:ay}{σ σ' σ₁ σ₂:AS}{K:ah}{P:AV->AS->Prop}{cI:Fl->AS->Prop}{h h':aM}{it D C:az}
theorem u9(elt Z iter:aF)(scope:aU)(pos:a_)(it acc:ao)(env:aV):compTurn (.SetComp elt [⟨Z,iter,[],0⟩] scope pos) 0 it acc env=(standAt iter.pos>>=λY=>eX it>>=λr=>match r with |none=>aX (.done .next)|some v=>sG Z it v>>=λY=>iO Z env v>>=λY=>(eval elt env>>=λx=>standAt elt.pos>>=λY=>dW (.builtin "set.add") [acc,x]>>=λY=>aX ())>>=λY=>again (.compLoop (.SetComp elt [⟨Z,iter,[],0⟩] scope pos) 0 it acc env)):=by rfl
theorem u_{elt Z iter:aF}{scope:aU}{pos:a_}{it acc:ao}{env:aV}{X:fk->ay->Prop}(h0:dw (aE pw w) A (.compLoop (.SetComp elt [⟨Z,iter,[],0⟩] scope pos) 0 it acc env) X s)(h:aB (aE pw w) A (jK it) (λY s'=>dw (aE pw w) A (.compLoop (.SetComp elt [⟨Z,iter,[],0⟩] scope pos) 0 Y acc env) X s') b7 s):dw (aE pw w) A (.compStart (.SetComp elt [⟨Z,iter,[],0⟩] scope pos) 0 it acc env) X s:=by
 refine o6 ?_;show aB _ _ ((compStart (.SetComp elt [⟨Z,iter,[],0⟩] scope pos) 0 it acc env).onRaise (λx=>do noteFrame x env;standAt theWindowsPlace)) _ _ s;refine wpAny_notedAt ?_;unfold compStart;show aB _ _ (ask>>=_) _ _ s;refine au (qz (wpAny_ite ?_));split;·first |exact au (aD (aD (And.intro rfl h0)))|exact aD (And.intro rfl h0)
 ·refine au (i_ ?_);show aB _ _ (standAt iter.pos>>=_) _ _ s;exact au (fm (au (bk h (λY s' h'=>aD (And.intro rfl h')) λW W x=>x.elim)))
theorem yf{elt Z iter:aF}{scope:aU}{pos:a_}{it acc:ao}{env:aV}{O:fk->ay->Prop}(I:ah->ay->Prop)(turn:∀n s,I n s->∀N:ay->Prop,(∀m s',m<n->I m s'->N s')->aB (aE pw w) A (eX it) (λr s₁=>match r with |none=>O (.ok .next) s₁|some v=>aB (aE pw w) A (sG Z it v) (λY X=>aB (aE pw w) A (iO Z env v) (λY s₂=>aB (aE pw w) A (eval elt env) (λx W=>aB (aE pw w) A (dW (.builtin "set.add") [acc,x]) (λY V=>N V) b7 W) b7 s₂) b7 X) b7 s₁) b7 s)(n:ah)(h:I n s):dw (aE pw w) A (.compLoop (.SetComp elt [⟨Z,iter,[],0⟩] scope pos) 0 it acc env) O s:=by
 refine codeAny_loop rfl I (λn s M=>?_) n h;show aB _ A ((compTurn (.SetComp elt [⟨Z,iter,[],0⟩] scope pos) 0 it acc env).onRaise (λx=>do noteFrame x env;theTreesLotGoes x)) _ _ s;refine wpAny_noted ?_;rw[u9];refine au (fm (au (bk (turn n s M _ λm s' a b=>aP m a b) (λr s₁ U=>?_) λY Y h'=>h'.elim)));induction r using c9 with|none=>exact aD U|some v=>
  refine au (bk U (λY X T=>?_) λY Y h'=>h'.elim);refine au (bk T (λY s₂ S=>?_) λY Y h'=>h'.elim);exact au (au (bk S (λx W R=>au (fm (au (bk R (λY V Q=>aD (aD ⟨rfl,Q⟩)) λY Y h'=>h'.elim)))) λY Y h'=>h'.elim))
noncomputable def om(i:ah):aa Unit:=if i=0 then [] else [()]
theorem Bw{t elt iter:aF}{scope:aU}{pos:a_}{H:aa AO}{a:AV}{xs:aa DV}{Rr:fk->ay->Prop}{P:AS->Prop}{o:aR}(hA:c5 K A)(hl:it≠cenv.locals)(hc:∀y,cenv.cells.lookup y≠af it)(La:449<=s.heap.objs.size)(hx:jk H a=af xs){X:AS}{W:aa az}{r:ay}(QY:W[H.length]?=af D)(TU:sY (sT w) o [])(h:yQ (λx Q σ=>As K ye t (.d x) σ Q) (λQ σ=>Ev K ye elt σ Q) H xs o P X)(l0:Lp w ye cenv ρ s it 0 a X W r)(hR:∀o σ' ρ' s',P σ'->σ'.heap=H++[.obj o]->sY (sT w) o (om xs.length)->ρ'[H.length]?=af D->Way w ye cenv ρ s σ' ρ' s'->Rr (.ok .next) s'):dw (aE pw w) A (.compLoop (.SetComp elt [⟨t,iter,[],0⟩] scope pos) 0 (.ref it) (.ref D) cenv) Rr r:=by
 refine yf (λn s'=>∃(i:ah) (o:aR) (σ':AS) (ρ':aa az),i+n=xs.length/\σ'.heap=H++[.obj o]/\sY (sT w) o (om i)/\ρ'[H.length]?=af D/\yQ (λx Q σ=>As K ye t (.d x) σ Q) (λQ σ=>Ev K ye elt σ Q) H (xs.drop i) o P σ'/\Lp w ye cenv ρ s it i a σ' ρ' s') ?_ xs.length (Mk 0 o X W (eV _) ?_ TU QY h l0)
 ·refineλn s₃ Y Nx hN=>PE Y λi o N V hn M L U Z J=>?_;have f:jk N.heap a=af xs:=by rw[M];exact zz hx
  refine bk (Bc hA J.way.rel f J.at_) (λq s₄ Y=>cU Y λh' tk' e4 hb hq=>?_) λu u h=>h.elim;subst e4;refine bq (J.J7 (j:=i+1) (tk:=tk') hl hc La hb) λLb l₄=>?_;cases I:xs[i]? with
  |none=>
   rw[I] at hq;subst hq;have hle:=List.getElem?_eq_none_iff.mp I;rw[dH hle] at Z;have:i=xs.length:=by exact cY (Z3 [V0,V1,.p V0 V2,V1] rfl (Qe hn)) (hle)
   subst this;exact hR o N V _ Z.2 M L U Lb|some d=>
   rw[I] at hq;(refine cC hq λv Af hv hi'=>?_;clear hq;subst Af);have G:=l₄ hi';have hd:xs.drop i=d::xs.drop (i+1):=by
    refine aZ (gi I) λh1 h2=>?_;rw[e8 h1,h2]
   have hlt:i<xs.length:=(gi I).1;rw[hd] at Z;have oh:∀{T:aa az}{n:ah},eY V T n->T[H.length]?=af D:=λK1=>aQ K1 λl e u=>by rw[e,m9 (gi U).1];exact U
   refine bk (letGo (Bd a) G.at_.vE.2 (Q:=λu s'=>s'=_) rfl) (λu s₅ e5=>?_) λu u h=>h.elim;subst e5;refine bk (Z.2 w A cenv V _ hA G.way.rel v hv) (λu s₆ Y=>cz Y λJ2 T c F=>?_) λu u h=>h.elim;have Q8:=G.K_ hl hc F;(refine c.run hA F.rel λQ9 m a₈ E B k=>cL k λLc z Gq O Gs=>?_;clear k);subst Lc;cases (Gs:Q9=_);have Ld:=Q8.K_ hl hc O;have R:B[H.length]?=af D:=oh (F.trans O).grow;have hk:E.heap[H.length]?=af (.obj o):=by rw[z,jh (bf _),cB];rfl
   have hg:=O.rel.bK.obj _ _ _ hk R;refine n6 (S:=sT w) (x:=()) (v:=.bool aj) rfl hg L (by unfold om;split<;>decide) λh9 o' Ss hg' hS'=>?_;have e9:(if ()∈om i then om i else om i++[()])=om (i+1):=by
    unfold om;by_cases q:i=0;·subst q;rfl
    ·rw[aI q,aI (Nat.succ_ne_zero i)]
   rw[e9] at hS';have g:=Way.s6 (tk:=m.toks+1) (d:=m.drawn) O.rel R hk (λq=>nomatch q) (o':=.obj o') (λu q=>nomatch q) (λb ob hb hob=>(Ss.2 b hb).trans hob) (cA Ss.1.symm) λfz=>hg';have TV:E.heap.set H.length (.obj o')=H++[.obj o']:=by rw[z,zA]
   rw[TV] at g;have Q_:=Ld.K_ hl hc g;exact hN (n-1) _ (Q2 (Z3 [.n 1,V0,V1,.p V2 V0,.p V2 (.n 1),V1] rfl (Qf hn) hlt)) (Mk (i+1) o' _ B (vh [.p (.p V0 (.n 1)) V1,V2,.p V0 V3,V2,.p V1 (.n 1),V3] rfl hn (eO (Z3 [.n 1,V0,V1,.p V2 V0,.p V2 (.n 1),V1] rfl (Qf hn) hlt))) rfl hS' R (Gq o') Q_)
 ·cases xs<;>exact h.1
theorem Ex.C5{t elt iter:aF}{pos l p tp:a_}{y:ai}{i k:ah}(g:sc.names[i]?=af (y,.local))(c:f7 sc sc')(hf:∀(env:aV)(x:ao),sJ iter env x=aX x)(h:Ev K sc iter σ λa σ₁=>∃xs T,jk σ₁.heap a=af xs/\xs≠[]/\(∀(i:ah)(x:ai)(k:b6)(a:AV),sc'.names[i]?=af (x,k)->T[i]?=af (af a)->k=fy/\∃j:ah,sc.names[j]?=af (x,f6)/\σ₁.loc[j]?=af (af a))/\∀o,yQ (λx Q σ=>As K (j4 sc sc') t (.d x) σ Q) (λQ σ=>Ev K (j4 sc sc') elt σ Q) σ₁.heap xs o (λσ'=>(∀(i:ah)(x:ai),sc'.names[i]?=af (x,fy)->∀(j:ah)(k:b6)(a:AV),sc.names[j]?=af (x,k)->σ₁.loc[j]?=af (af a)->σ'.loc[i]?=af (af a))/\cI .next {σ₁ with loc:=σ₁.loc.set i (af (.d (.bool aj)))}) ⟨T,σ₁.heap++[.obj o]⟩):Ex K sc (.Assign [.Tuple [.Name y p] k tp] (.SetComp elt [⟨t,iter,[],0⟩] sc' pos) l) σ cI:=λw A env ρ s f r=>by
 refine wpAny_Assign_stores ?_ rfl (yU rfl env);rw[arm_eval_SetComp];refine AF (use:=none) (e:=.SetComp elt [⟨t,iter,[],0⟩] sc' pos) rfl (hf env) (pG r c) c.fn (nC c.nodup) (h.run f r λva s₁ a σ₁ aY O Z ra=>?_);(refine mK O λxs T hx Sq hloc TX=>?_;clear O);have TY:((!w.params.followText "set-order")=aj\/w.params.followText "set-order"=aj):=by cases w.params.followText "set-order"<;>simp
 refine tZ (RR:=λacc C=>compPost (aE pw w) A b7 none _ acc C) (x0:=.obj (mo w)) (o0:=mo w) c Z.rel ra hx hloc (λV q=>nomatch q) (λh ρ k a B=>B) rfl (λs Q h=>?_) (λit acc cenv s Rr N M=>u_ N M) λC D s₄ hD hne hC l0=>?_;·show aB _ _ (setsByText>>=_) _ _ _;refine au (tP ?_);exact eM h
 refine Bw (scope:=sc') (pos:=pos) f hne (λy e=>aJ (fG Z.rel ((p5 Z.rel.shape c).1 y _ e)) (dX _)) Z.rel.size hx hD (Kw (#[]) 0 _ [] ⟨rfl,rfl,rfl⟩ rfl rfl (.nil) rfl (by decide) TY (.inr (bW _))) (TX _) l0 λo σ' ρ' s' hp hh z hd w'=>?_;refine rA (tY Z.rel c hC w' hh hd hp.1) λwo Pk hsub B=>?_;refine aQ w'.rel.frame.ns λm u V=>?_;refine aP m u (λh' q=>?_);refine bq (wo.drop Z.rel u hC (λu=>aJ (Z.rel.bK.old u) (iZ hC)) q) λW fz=>?_;have B:s'.heap.get? D=af o:=B;have hDC:D≠C:=λe=>by
  subst e;(refine uF u λo' es ep N M V=>?_;clear u);have N:s'.heap.get? D=af o':=N;rw[B] at N;cases N;(refine xA z λes' TZ tt l' V L V=>?_;clear z);rw[L] at M;cases M
 have S:h'.get? D=af o:=(q.2 D hDC).trans B;have wy:=Z.trans W;have eu:om xs.length=[()]:=by unfold om;rw[aI (by cases xs with|nil=>exact aJ rfl Sq|cons=>simp)]
 rw[eu] at z;have e1:(kI [.Tuple [.Name y p] k tp] env).map (·.2)=[iO (.Tuple [.Name y p] k tp) env]:=rfl;rw[e1];show aB _ _ (do standAt tp;unpack (.ref D) (kI [.Name y p] env)) _ _ _;refine au (fm ?_);unfold unpack;have T3:=W.rel;refine au (bP ?_);show aB _ _ (unpackItems (.ref D) 1 none) _ _ _;unfold unpackItems;refine au ?_;unfold notIterableAtAll;have hTy:xr {s' with heap:=h'} (.ref D) "set":=by
  (refine rB z λes' TZ tt l' hex V=>?_;clear z);exact aP o S hex.1
 refine au (gY hTy PySem.F.slot_set_iter.lookup ?_);refine aD ?_;refine rwL (aI cS) ?_;refine au (bP (zb (ρ:=aY) (s:={s' with heap:=h'}) S z (λx hx=>W.rel.bK.old hx) λus it M d T4 U hz2 R si=>?_));have T5:us=[()]:=List.perm_singleton.mp T4;subst T5;have U:h'.objs.size<=it:=U;have R:∀(b:az) (n:aR),h'.get? b=af n->M.get? b=af n:=R;have w2:Way w sc env aY {s' with heap:=h'} σ₁ aY {s' with heap:=M,drawn:=d}:=Way.all W.rel R (gy (er U hz2)) rfl rfl;have J:D≠it:=λe=>aJ (b9 S) (iZ (e▸U));have own:∀{L:aM}{j:ah},mJ (sT w) L aY it D o [()] j->Own env {s' with heap:=h'} aY L [it]:=λsi y g=>by
  have g:=g_ g;subst g;(refine rB si λes ep tt first N V=>?_;clear si);exact⟨U,(jU W.rel U).1,"set_iterator",_,by decide,N,rfl⟩
 refine au (bP ?_);show aB _ _ (eX (.ref it)>>=_) _ _ _;refine au (bk (tQ (s:={s' with heap:=M,drawn:=d}) f.handled (R _ _ S) J si) (λr1 s3 Y=>cC Y λL e3 I Su=>?_) λV V h=>h);subst e3;(refine cC Su λv Af hv Sv=>?_;clear Su;subst Af);obtain rfl:=gH hv;refine au (bP (aD (aD ?_)));simp only[jE,List.length_nil,eV,dX,kL];have w3:=Way.apart W.rel w2 (own si) (X:=[it]) (h':=L) ⟨λb n hb H=>I.keep b n (λq=>hb (q▸.head _)) H,I.size⟩ s'.toks d;refine au (bP (bk (tQ (s:={s' with heap:=L,drawn:=d}) f.handled (I.keep D o J (R _ _ S)) J Sv) (λr2 s4 Y=>cC Y λh4 e4 Sw G=>?_) λV V h=>h));subst e4;have G:r2=none:=G;subst G;refine rwL (aI cS) ?_;refine aD ?_;have w4:=Way.apart W.rel w3 (own Sv) (X:=[it]) (h':=h4) ⟨λb n hb H=>Sw.keep b n (λq=>hb (q▸.head _)) H,Sw.size⟩ s'.toks d;show aB _ _ (do holding [] (iO (.Name y p) env (.bool aj));aX ()) _ _ _;refine au (bP (bk (As.name (K:=K) (p:=p) (a:=.d (.bool aj)) (P:=λσ'=>cI .next σ') g hp.2 w A env aY _ f w4.rel (.bool aj) rfl) (λV s₂ Y=>cz Y λσ₂ cM E w₂=>aD ?_) λV V h=>h));exact((wy.trans w4).trans w₂).pf (fl:=.next) trivial E
end
section
variable{w:aG}{A:bg}{env:aV}{sc:aU}{ρ ρ' aY cM:aa az}{s s' s₁ s₂:ay}{σ σ' σ₁ σ₂:AS}{K:ah}{P:AV->AS->Prop}{cI:Fl->AS->Prop}
theorem rm(r:Rel w sc env σ ρ s){x:AV}{Z:ao}(h:(match x with|.ref k=>(tn σ.heap k).isSome|_=>aC)=aj)(T:RA s.heap ρ x Z):s.TypeIs Z "dict"/\∀a,Z=.ref a->∃ob,s.heap.get? a=af ob/\ob.dict=none:=by induction x using AV.casesOn with
 |ref k=>
  refine aZ (Option.isSome_iff_exists.mp h) λl e=>?_;(refine kY (xY r e T) λa o m Y S R V U=>?_;subst Y);refine m_ (pX V) λob X U W U=>?_;exact⟨V.typeIs,λb e=>by cases e;exact aP _ X W⟩|_=>exact ft h
theorem pH{x:AV}{Z:ao}(h:(match x with|.d (.str _)=>aj|_=>aC)=aj)(X:RA s.heap ρ x Z):s.TypeIs Z "str"/\∀a,Z=.ref a->∃ob,s.heap.get? a=af ob/\ob.dict=none:=by induction x using AV.casesOn with
 |d d=>induction d using DV.casesOn with |str=>(refine aZ X λt Y=>?_;clear X;subst Y);exact⟨rfl,λb e=>Value.noConfusion e⟩|_=>exact ft h
 |_=>exact ft h
theorem Bx{m:Mt}(U:∀f,m≠.user f)(r:Rel w sc env σ ρ s){x:AV}{V:ao}(h:ni σ.heap x m=aj)(Z:RA s.heap ρ x V):s.TypeIs V (vz m).1/\∀a,V=.ref a->∃ob,s.heap.get? a=af ob/\ob.dict=none:=by induction m using Mt.casesOn with
 |append=>exact pq r h Z|pop=>exact pq r h Z|sort=>exact pq r h Z|index=>induction x using AV.casesOn with
  |d d=>induction d using DV.casesOn with |lst=>
    (refine xA Z λa items n S Y X T=>?_;clear Z;subst Y);exact⟨(bz X).typeIs,λb e=>by cases e;exact aP _ X rfl⟩|_=>exact ft h
  |_=>exact ft h
 |get=>exact rm r h Z|setdefault=>exact rm r h Z|add=>induction x using AV.casesOn with
  |ref k=>
   refine aZ (Option.isSome_iff_exists.mp h) λl e=>?_;(refine EE (set_inv r e Z) λa o Y R X W Q=>rB W λO N t M hex T=>?_;clear W;subst Y);exact⟨(aP o X hex.1),λb e=>by cases e;exact aP _ X hex.2.1⟩|_=>exact ft h
 |split=>exact pH h Z|join=>exact pH h Z|startswith=>exact pH h Z|translate=>induction x using AV.casesOn with
  |d d=>induction d using DV.casesOn with |bytes=>(refine aZ Z λt Y=>?_;clear Z;subst Y);exact⟨rfl,λb e=>Value.noConfusion e⟩|_=>exact ft h
  |_=>exact ft h
 |user f=>exact aJ rfl (U f)|_=>exact ft h
theorem Ev.met{o:aF}{a:ai}{N pos:a_}{X:aa aF}{m:Mt}(L:∀f,m≠.user f)(J:baseOk o=aj)(I:(N.endLine==pos.line)=aj)(R:X.all noStar=aj)(W:X.length<29)(h:Ev K sc o σ λx σ₁=>FN a m/\ni σ₁.heap x m=aj/\Ls K sc X σ₁ λas σ₂=>Mc K sc x m as σ₂ P):Ev K sc (.Call (.Attribute o a N) X [] pos) σ P:=λw A env ρ s Q r=>by
 refine wpAny_Call_method_late (nU J a env) (by rw[cu,cu];exact⟨⟨tJ pos env X R,rfl⟩,eF (by show X.length+0+0<30;exact Z1 [.p (.p (.p V0 (.n 0)) (.n 0)) (.n 1),.n 30,.p V0 (.n 1),.n 29] rfl W)⟩) I rfl (h.run Q r λH s₁ x σ₁ aY V=>cL V λO U T Z M=>?_);refine bq (Bx L Z.rel U M) λG F=>?_;refine HZ _ _ O.1 O.2.1 O.2.2 G F (pU (gG R (T.run pos Q Z.rel λE s₂ as σ₂ cM S Y D=>⟨Kp.builtin,?_⟩)) (by rw[gC pos env X R];rfl));exact(Z.trans Y).kP (S w A env cM s₂ Q Y.rel H E (M.mono (Y.k8 Z.rel)) D)
theorem By{x:AV}{m:Mt}{as:aa AV}(Z:∀f,m≠.user f)(h:M0 (c6 K) x m as P σ):Mc K sc x m as σ P:=by induction m using Mt.casesOn with |append=>exact tK h|pop=>exact Bf h|sort=>exact zv h|index=>exact xZ h|get=>exact zd h|setdefault=>exact uV h|add=>exact ze h|split=>exact xR h|join=>exact yY h|startswith=>exact uU h|translate=>exact uW h|user f=>exact aJ rfl (Z f)|_=>exact h.elim
theorem DA{as:aa AV}(h:a1 as λa=>cX MY a λl=>l.length<2^62/\P (.d (.int l.length)) σ):Cv K sc (.d (.con (.builtin "len"))) as σ P:=by
 rintro w A env ρ s Q r O N rfl U;refine⟨Kp.builtin,?_⟩;refine Cf h U λa v Y h=>yS h λx l T X h=>?_;rw[T] at Y;induction x using DV.casesOn with |lst S=>
  cases X;(refine eR Y λa items n M Z W R V=>?_;clear Y;subst Z);have e:items.size=_:=V.length;exact len_list (bz W) (by rw[e];exact wh (Int.ofNat_lt.mpr h.1) (by decide)) (by rw[e];exact PV.here r (.d (.int _ _)) h.2 _)|qI S=>
  cases X;(refine eR Y λa items n d Z W R V=>?_;clear Y;subst Z);have e:items.size=_:=V.length;exact IU (tU r.top) W (by rw[e];exact wh (Int.ofNat_lt.mpr h.1) (by decide)) (by rw[e];exact PV.here r (.d (.int _ _)) h.2 _)|_=>cases X
theorem BA{id:cj}{as:aa AV}(h:MZ id as P σ):Cv K sc (.d (.con (.builtin id))) as σ P:=by
 refine mH h (λe h=>?_) λZ h=>mH h (λe h=>?_) λZ h=>mH h (λe h=>?_) λZ h=>mH h (λe h=>?_) λZ h=>mH h (λe h=>?_) λZ h=>mH h (λe h=>?_) λZ h=>h.elim;·exact e▸DA h
 ·exact e▸Bp h
 ·exact e▸Bq h
 ·exact e▸vK (gt:=aC) h
 ·exact e▸vK (gt:=aj) h
 ·subst e;rintro w A env ρ s W r V U rfl Y;refine⟨Kp.builtin,?_⟩;refine Cf h Y λa v X h=>uI h X λi t h=>?_;exact PySem.P.chr_of_int (by rw[qc];exact⟨gA (Int.not_lt.mpr h.1.1),gA (Int.not_lt.mpr h.1.2)⟩) (PV.here r (.d (.str _ _)) h.2 _)
theorem zB{T:cj}{as:aa AV}(h:J0 T as P σ):Cv K sc (.d (.con (.type T))) as σ P:=by
 refine mH h (λe h=>?_) λV h=>mH h (λe h=>?_) λV h=>mH h (λe h=>?_) λV h=>mH h (λe h=>?_) λV h=>h.elim;·subst e;rintro w A env ρ s U r M L rfl X;refine⟨Kp.type,?_⟩;induction as using aO with|nil=>exact h.elim|cons a as=>
   (refine cU X λv S Z Y W=>?_;subst Z)
   refine uI h Y λn t h=>?_;induction as using aO with |nil=>
    cases (W:S=[]);exact call_range_1 ((Way.push r (Ih _ _ _ _ _ _) _).pv (.d (.vj (b_ _ rfl) (ee r))) h)|cons b as=>
    (refine cU W λu J Z H R=>?_;subst Z);refine M8 h R λh=>uI h H λm t2 h=>?_;exact call_range_2 ((Way.push r (Ih _ _ _ _ _ _) _).pv (.d (.vj (b_ _ rfl) (ee r))) h)
 ·subst e;rintro w A env ρ s U r M L rfl X;refine⟨Kp.type,?_⟩;refine Cf h X λa v Y h=>jo h λl e h=>m_ h λns Z Q O G=>?_;subst Z;(refine cU (yW r e Y) λx items Z F W=>?_;subst Z);have I:=FL W;refine ef (call_bytes_ints (vs:=items.toList) F I Q (by rw[I.length];exact O) U.handled λD t k E N=>?_);exact(Way.all r E N rfl rfl).pv (.d (.bytes _ _)) G
 ·subst e;rintro w A env ρ s U r M L rfl X;refine⟨Kp.type,?_⟩;refine Cf h X λa v Y h=>uD h Y λx Y h=>jo h λT e h=>?_;refine bq (Iw e Y s) λQ O=>?_;exact call_type_of Q O (PV.same r (.d (.con _)) h)
 ·exact e▸uZ h
theorem zC{f:AV}{as:aa AV}(h:yR (c6 K) f as P σ):Cv K sc f as σ P:=by induction f using AV.casesOn with
 |d v=>induction v using DV.casesOn with
  |con c=>induction c using lP with
   |ref a=>
    delta yR at h;dsimp only at h;split at h;·rename_i e;rw[eL e];exact Df h
    ·split at h
     ·rename_i e;rw[eL e];exact Bs h
     ·exact Cv.fn h.1 h.2|builtin id=>exact BA h|type T=>exact zB h|_=>exact h.elim
  |_=>exact h.elim
 |bm id k=>exact Cv.bm h|_=>exact h.elim
end
noncomputable def Le:aa ah->aa ah->aH|[],[]=>aj|a::l,b::r=>fT a b&&Le l r|_,_=>aC
theorem Gv:∀{l r:aa ah},Le l r=aj↔l=r:=by
 intro Z;induction Z with
 |nil=> intro Y;induction Y using aO with |nil=>exact⟨λX=>rfl,λX=>rfl⟩|cons U T=>exact⟨nofun,nofun⟩
 |cons a l W=> intro V;induction V using aO with|nil=>exact⟨nofun,nofun⟩|cons b r=>
   rw[cu,W,r7];exact⟨λh=>⟨oQ h.1,h.2⟩,λh=>⟨by rw[h.1];exact Nat.beq_refl _,h.2⟩⟩
noncomputable def sEq(a b:ai):aH:=Le a.cps.toList b.cps.toList
theorem sEq_iff(a b:ai):sEq a b=aj↔a=b:=by
 unfold sEq;rw[Gv];exact⟨λh=>by cases a;cases b;simp only[Str.mk.injEq];exact Array.toList_inj.mp h,λh=>by rw[h]⟩
structure dF(x:Cx)(sc:aU):Prop where
 fn:sc.kind=.function
 nodup:(sc.names.map (·.1)).Nodup
 names:x.names=sc.names
 eq:∀a b,x.eq a b=aj↔a=b
 glob:∀p∈x.glob,s7 p.1 p.2\/E6 p.1 p.2
 met:∀p∈yM,(∃f,p.2=.user f)\/FN p.1 p.2
theorem BB{eq:ai->ai->aH}{a:ai}{i:ah}{k:b6}{l:aa (ai×b6)}:∀{j:ah},s_ eq a l j=af (i,k)->∃y,j<=i/\l[i-j]?=af (y,k)/\eq a y=aj:=by induction l with |nil=>exactλh=>ns h|cons p l Y=>
  refineλ{j}h=>l7 (C:=(·=af (i,k))) h (λe h=>?_) λU h=>cC (Y h) λX Z W V=>cy X (wK Z) ?_ V;·cases h;exact cy p.1 (bf _) (by rw[cB];rfl) e
  ·rw[<-Nat.succ_pred_eq_of_pos (Nat.sub_pos_of_lt Z)];exact W
theorem pI{α:Type}{eq:ai->ai->aH}{a:ai}{v:α}{l:aa (ai×α)}:B_ eq a l=af v->∃y,(y,v)∈l/\eq a y=aj:=by induction l with |nil=>exactλh=>ns h|cons p l Z=>
  refineλh=>l7 (C:=(·=af v)) h (λe h=>?_) λV h=>aQ (Z h) λY X W=>aP Y (.tail _ X) W;cases h;exact aP p.1 (.head _) e
section
variable{K:ah}{sc:aU}{σ:AS}{P:AV->AS->Prop}{x:Cx}
theorem dF.find(Z:dF x sc){a:ai}{i:ah}{k:b6}(h:s_ x.eq a x.names 0=af (i,k)):sc.names[i]?=af (a,k):=by
 refine cC (BB h) λy W Y X=>?_;rw[Z.names] at Y;rw[(Z.eq _ _).mp X];exact Y
theorem dF.nm(Z:dF x sc){a:ai}{i:ah}{k:b6}(h:xJ k x a=af i):sc.names[i]?=af (a,k):=oE (C:=(·=af i)) h (λp Y h=>l7 (C:=(·=af i)) h (λe h=>by
  have:=Z.find (i:=p.1) (k:=p.2) Y;rw[b3 e,dz h] at this;exact this) λX h=>ns h) λX h=>ns h
section
variable{F:Fc}{n:ah}{G:Prop}
theorem ic{c:aH}{a b:IE}(h:VE F n (cond c a b) P σ)(Z:c=aj->VE F n a P σ->G)(Y:c=aC->VE F n b P σ->G):G:=l7 (C:=(VE F n · P σ)) h Z Y
theorem CF(h:VE F n .bad P σ):G:=by cases n<;>exact h.elim
theorem zD{α:Type}{o:aA α}{f:α->IE}(h:VE F n (o.elim .bad f) P σ)(Z:∀a,o=af a->VE F n (f a) P σ->G):G:=oE (C:=(VE F n · P σ)) h Z λY h=>CF h
theorem I2{o:aA (aA AV)}{p:AV->Prop}(h:match o with|some (af a)=>p a|_=>bG)(k:∀a,o=af (af a)->p a->G):G:=by induction o using c9 with |none=>exact h.elim|some o=>induction o using c9 with|none=>exact h.elim|some a=>exact k a rfl h
end
theorem zE(Y:dF x sc){id:ai}{pos:a_}{m:ah}(h:VE (c6 K) m (kN x id) P σ):Ev K sc (.Name id pos) σ P:=by induction m using cJ with|zero=>exact h.elim|succ m=>
  refine ic h (λV h=>h.elim) λZ h=>?_;have X:∀y:ai,x.eq id y=aC->(id==y)=aC:=λy W=>by
   cases q:id==y;·rfl
   ·rw[(Y.eq _ _).mpr (eL q)] at W;exact tf W
  rw[qc] at Z;have U:=X _ Z.2;have Z:=X _ Z.1;refine oE (C:=(VE (c6 K) (m+1) · P σ)) h (λi e h=>I2 h λa q h=>Ev.local i (Y.nm e) q h Z) λV h=>oE (C:=(VE (c6 K) (m+1) · P σ)) h (λi e h=>I2 h λa q h=>Ev.ji (.inl rfl) (Y.nm e) q h Z U) λV h=>oE (C:=(VE (c6 K) (m+1) · P σ)) h (λi e h=>I2 h λa q h=>Ev.ji (.inr rfl) (Y.nm e) q h Z U) λV h=>zD h λi e h=>zD h λv q h=>aQ (pI q) λy W T=>?_;rw[<-(Y.eq _ _).mp T] at W;exact Ev.Nd (Y.nm e) (Y.glob (id,v) W) h Z
noncomputable def iU:IE->aH|.cmp ..=>aC|.not _=>aC|.bo ..=>aC|.ite ..=>aC|_=>aj
theorem Lf{F:Fc}{m:ah}{e:IE}{P:aH->AS->Prop}(h:iU e=aj):VT F (m+1) e P σ=VE F m e (λx Z=>Fj Z.heap x λc=>P c Z) σ:=by induction e using IE.casesOn<;>first|rfl|exact ft h
section
variable{t s:IE}
theorem vk(h:t=s)(q:iU s=aj):iU t=aj:=by rw[h];exact q
theorem vb(h:t=.bad):iU t=aj:=vk h rfl
theorem vo{α:Type}{o:aA α}{f:α->IE}(h:t=o.elim .bad f)(k:∀a,t=f a->iU t=aj):iU t=aj:=oE (C:=(t=·)) h (λa Z h=>k a h) λZ h=>vb h
theorem vc{c:aH}{a b:IE}(h:t=cond c a b)(Z:t=a->iU t=aj)(Y:t=b->iU t=aj):iU t=aj:=l7 (C:=(t=·)) h (λX=>Z) λX=>Y
theorem I3{id:ai}(h:t=kN x id):iU t=aj:=vc h vb λh=>oE (C:=(t=·)) h (λZ Z h=>vk h rfl) λZ h=>oE (C:=(t=·)) h (λZ Z h=>vk h rfl) λZ h=>oE (C:=(t=·)) h (λZ Z h=>vk h rfl) λZ h=>vo h λZ h=>vo h λZ h=>vk h rfl
theorem zF(c:Const):iU (qL c)=aj:=by cases c<;>rfl
variable{c:aF->IE}{v i f o e:aF}{a:ai}{es:aa aF}{p q:a_}
theorem DB(h:t=ML c v i):iU t=aj:=MI (G:=λZ=>iU t=aj) (C:=(t=·)) h (λZ Z Z Z h=>vk h rfl) λZ h=>vk h rfl
theorem DC(h:t=MK x c v a):iU t=aj:=vc h (λh=>vk h rfl) λh=>oE (C:=(t=·)) h (λZ Z h=>vc h (λh=>vk h rfl) vb) λZ h=>vo h λZ h=>vc h (λh=>vk h rfl) vb
theorem t_{s:aH}{c:Cx->aF->IE}{sc:aU}{Y:aa sD}(h:t=yN x s c e sc Y):iU t=aj:=kQ (G:=λZ=>iU t=aj) (C:=(t=·)) h (λZ h=>vc h (λh=>vo h λZ h=>vk h rfl) vb) vb
theorem DE(h:t=KS x c o a es p q):iU t=aj:=vc h (λh=>vc h (λh=>vk h rfl) vb) λh=>vo h λZ h=>vc h (λh=>vk h rfl) vb
theorem zG(h:t=A5 x c f e):iU t=aj:=vc h (λh=>oE (C:=(t=·)) h (λZ Z h=>vc h (λh=>vk h rfl) λh=>vc h (λh=>vk h rfl) λh=>vk h rfl) λZ h=>vk h rfl) vb
theorem BC(h:t=Fd x c p f es):iU t=aj:=E_ (G:=λZ=>iU t=aj) (C:=(t=·)) h (λZ Z Z h=>vc h DE vb) λh=>jR (G:=λZ=>iU t=aj) (C:=(t=·)) h (λZ Z h=>kQ (G:=λZ=>iU t=aj) (C:=(t=·)) h (λZ h=>zG h) λh=>vc h (λh=>vk h rfl) vb) vb
theorem Gw{Y:aa Keyword}(h:t=Qi x c f es Y):iU t=aj:=jR (G:=λZ=>iU t=aj) (C:=(t=·)) h (λZ Z h=>kQ (G:=λZ=>iU t=aj) (C:=(t=·)) h (λZ h=>kQ (G:=λZ=>iU t=aj) (C:=(t=·)) h (λZ h=>vo h λZ h=>vc h (λh=>Po (C:=(t=·)) h (λZ Z h=>vk h rfl) vb) vb) vb) vb) vb
end
theorem zH{l:aa (ah×ah)}{i j:ah}(h:l.lookup i=af j):(i,j)∈l:=by induction l with |nil=>exact ns h|cons p l Z=>
  obtain⟨a,b⟩:=p;rw[iA] at h;split at h
  ·rename_i e;cases h;cases (eL e);exact .head _
  ·exact .tail _ (Z h)
theorem ua(Z:∀a b,x.eq a b=aj↔a=b){m:ai}(l:aa (ai×b6)):∀j:ah,(s_ x.eq m l j).map (·.2)=l.lookup m:=by induction l with|nil=>exactλX=>rfl|cons p l Y=>
  intro j;show Option.map _ (cond (x.eq m p.1) (af (j,p.2)) (s_ x.eq m l (j+1)))=(match m==p.1 with|true=>af p.2|false=>l.lookup m);cases q:m==p.1 with|true=>rw[(Z _ _).mpr (eL q)];rfl|false=>cases e:x.eq m p.1 with|true=>rw[(Z _ _).mp e,iT] at q;exact tf q|false=>exact Y (j+1)
theorem dF.of(Z:dF x sc){j:ah}{n:ai}{k:b6}(X:sc.names[j]?=af (n,k)):xJ k x n=af j:=by
 have e:=ua Z.eq (m:=n) x.names 0;rw[Z.names,j6 Z.nodup X,<-Z.names] at e;cases q:s_ x.eq n x.names 0 with |none=>rw[q] at e;exact ns e|some p=>
  rw[q] at e;have e:p.2=k:=dz e;have Y:=Z.find (i:=p.1) (k:=p.2) q;unfold xJ;rw[q];show cond (decide (p.2=k)) (af p.1) none=af j;rw[eF e,nQ Z.nodup Y X];rfl
theorem zI(Z:dF x sc)(m:ai):rH x m=(sc.names.lookup m==af .cell):=by
 rw[<-Z.names,<-(ua Z.eq (m:=m) x.names 0)];unfold rH xJ;cases s_ x.eq m x.names 0 with|none=>rfl|some p=> obtain⟨i,k⟩:=p;cases k<;>rfl
theorem rq(Z:∀a b,x.eq a b=aj↔a=b){l:aa ai}:A4 x.eq l=aj->l.Nodup:=by induction l with|nil=>exactλW=>.nil|cons y l Y=>
  intro h;have h:=qE h;refine List.nodup_cons.mpr ⟨λX=>?_,Y h.2⟩;have:=lV h.1 y X;rw[(Z y y).mpr rfl] at this;exact ft this
theorem qX(Y:dF x sc){s:aH}{Z:aU}{it:aF}(h:xN x s Z it=aj):s=aC/\f7 sc Z/\xM it=aj:=by
 refine bq (qE h) λh W=>bq (qE h) λh V=>bq (qE h) λh U=>bq (qE h) λT S=>?_;refine⟨by simpa using T,⟨b3 S,rq Y.eq U,λn k R=>?_⟩,W⟩;refine bq (qE (lV V _ R)) λQ X=>⟨eG (by simpa using Q),λe=>?_⟩;rw[eF e] at X;exact aZ (Option.isSome_iff_exists.mp X) λj O=>⟨j,Y.nm O⟩
theorem zJ(Y:dF x sc){Z:aU}(c:f7 sc Z):dF (inner x Z) (j4 sc Z):=by
 refine⟨c.fn,by rw[zx];exact c.nodup,?_,Y.eq,Y.glob,Y.met⟩;refine gk λp X=>?_;show (p.1,cond (decide (p.2=.free)&&rH x p.1) f6 p.2)=if (p.2==fy&&sc.kind==.function&&sc.names.lookup p.1==af .cell)=aj then (p.1,.cell) else (p.1,p.2);rw[zI Y,Y.fn,show (p.2==fy&&ScopeKind.function==.function)=decide (p.2=.free) from Bool.and_true _];cases (decide (p.2=.free)&&sc.names.lookup p.1==af .cell)<;>rfl
theorem DF(Z:dF x sc){j:ah}{n:ai}(Y:sc.names[j]?=af (n,.cell)){l:aa (ai×b6)}:∀{b i:ah},l[i]?=af (n,.free)->(b+i,j)∈mG x b l:=by induction l with |nil=>exactλh=>ns h|cons p l X=>
  intro b i h;induction i using cJ with
  |zero=>
   cases h;refine jD _ ?_;rw[Z.of Y];exact .head _|succ i=> refine rV _ ?_;have:=X (b:=b+1) h;rw[Nat.succ_add] at this;exact this
theorem DG(Z:dF x sc){p:ah×ah}{l:aa (ai×b6)}:∀{b:ah},p∈mG x b l->∃i n,p.1=b+i/\l[i]?=af (n,fy)/\sc.names[p.2]?=af (n,.cell):=by induction l with |nil=>exactλh=>nomatch h|cons q l Y=>
  intro b h;rcases d9 h with h|h
  ·refine l7 (C:=(p∈·)) h (λe h=>oE (C:=(p∈·)) h (λj X h=>?_) λW h=>nomatch h) λW h=>nomatch h;rw[g_ h];exact bM 0 q.1 rfl (bu (λz=>af (q.1,z)) (b3 e)) (Z.nm X)
  ·exact cU (Y h) λi n V U T=>bM (i+1) n (V.trans (Nat.succ_add b i)) U T
theorem vd{n:ah}{Z:aa (ah×ah)}{loc:aa (aA AV)}{i:ah}{a:AV}(h:(h_ n Z loc)[i]?=af (af a)):∃j,(i,j)∈Z/\loc[j]?=af (af a):=by
 unfold h_ at h;rw[dN] at h;by_cases q:i<n;·have h:=(Au q)▸h;have h:(match Z.lookup i with|some j=>(loc[j]?).join|none=>none)=af a:=dz h;cases e:Z.lookup i with |none=>have h:=e▸h;exact ns h|some j=>
   have h:=e▸h;have h:(loc[j]?).join=af a:=h;refine aP j (zH e) ?_;cases w:loc[j]? with|none=>have h:=w▸h;exact ns h|some y=>have h:=w▸h;exact bu af h
 ·rw[rU (by rw[jz];exact ff q)] at h;exact ns h
theorem BD{loc Z:aa (aA AV)}{i j:ah}{Y:aa (ah×ah)}:q9 Y loc Z->(i,j)∈Y->Z[i]?=af (loc[j]?).join:=by induction Y with|nil=>exactλV h=>nomatch h|cons p l X=>exactλh W=>(gq W).elim (λe=>by cases e;exact h.1) (X h.2)
end
structure CG(K m:ah):Prop where
 e:∀{x:Cx}{sc:aU}{n:ah}{e:aF}{P:AV->AS->Prop}{σ:AS},dF x sc->VE (c6 K) m (kE x n e) P σ->Ev K sc e σ P
 t:∀{x:Cx}{sc:aU}{n:ah}{e:aF}{P:aH->AS->Prop}{σ:AS},dF x sc->VT (c6 K) m (kE x n e) P σ->Ts K sc e σ P
 l:∀{x:Cx}{sc:aU}{n:ah}{es:aa aF}{P:aa AV->AS->Prop}{σ:AS},dF x sc->VL (c6 K) m (es.map (kE x n)) P σ->Ls K sc es σ P
 a:∀{x:Cx}{sc:aU}{n:ah}{op:BoolOp}{es:aa aF}{P:aH->AS->Prop}{σ:AS},dF x sc->VA (c6 K) m op (es.map (kE x n)) P σ->Al K sc op es σ P
 o:∀{x:Cx}{sc:aU}{n:ah}{op:BoolOp}{es:aa aF}{pos:a_}{P:AV->AS->Prop}{σ:AS},dF x sc->VO (c6 K) m op (es.map (kE x n)) P σ->Ev K sc (.BoolOp op es pos) σ P
 p:∀{x:Cx}{sc:aU}{n:ah}{e:aA aF}{P:aA aq->AS->Prop}{σ:AS},dF x sc->VP (c6 K) m (e.map (kE x n)) P σ->Pt K sc e σ P
section
variable{K:ah}{sc:aU}{σ:AS}{P:AV->AS->Prop}{x:Cx}{m n:ah}
theorem yg(c:Const):qL c=.bad\/∃d,qL c=.k d:=by cases c<;>first|exact .inl rfl|exact .inr ⟨_,rfl⟩
theorem DH{e:aF}(h:e.ctorIdx≠26):∀o i,subscripted e aC o i=operate [o,i] (getItem o i):=by induction e using fQ with|Slice=>exact aJ rfl h|_=>exactλZ Z=>rfl
theorem CG.zero:CG K 0:=⟨λZ h=>h.elim,λZ h=>h.elim,λZ h=>h.elim,λ{x sc n Y X P σ}Z h=>by cases Y<;>cases X<;>exact h.elim,λZ h=>h.elim,λZ h=>h.elim⟩
theorem pJ(U:CG K m)(T:dF x sc){id:ai}{p pos:a_}{X:aa aF}(S:X.all noStar=aj)(h:VE (c6 K) (m+1) (.call (kE x n (.Name id p)) (X.map (kE x n))) P σ):Ev K sc (.Call (.Name id p) X [] pos) σ P:=Ev.yR ((U.e T h).mono λg W Z=>(U.l T Z).mono λas V Y=>zC Y) S
theorem I4{a:ai}{f:az}(h:(a,Mt.user f)∈yM):(a,f)∈nk:=by
 simp only[yM,qk,oH,or_false,kq,reduceCtorEq,and_false,false_or,Mt.user.injEq] at h;simp only[nk,qk,oH,or_false,kq];exact h
theorem BE:∀p∈nk,p.1∉atT:=by decide+kernel
theorem gJ{T:cj}{e:IE}(h:isType T e=aj):e=.bR (.type T):=MJ (C:=(·=aj)) (G:=λe=>e=.bR (.type T)) h (λv h=>Th (C:=(·=aj)) (G:=λv=>IE.bR v=.bR (.type T)) h (λt h=>bu (λt=>IE.bR (.type t)) (eL h)) ft) ft
theorem BF{a:az}{e:IE}(h:isRef a e=aj):e=.bR (.ref a):=Po (C:=(·=aj)) h (λb q h=>q.trans (bu (λt=>IE.bR (.ref t)) (eL (a:=a) h).symm)) ft
theorem vP(Z:dF x sc){id:ai}{p:a_}{v:ao}(h:kN x id=.bR v)(σ:AS):Ev K sc (.Name id p) σ λa σ'=>a=Ff v/\σ'=σ:=zE Z (m:=1) (by rw[h];exact⟨rfl,rfl⟩)
theorem yh(Z:dF x sc){id:ai}{p:a_}{v:ao}{n:ah}(h:kE x n (.Name id p)=.bR v)(σ:AS):Ev K sc (.Name id p) σ λa σ'=>a=Ff v/\σ'=σ:=by induction n using cJ with|zero=>exact IE.noConfusion (show IE.bad=.bR v from h)|succ n=>exact vP Z h σ
theorem DI(T:CG K m)(V:dF x sc){o:aF}{a:ai}{L pos:a_}{Q:aa aF}(O:Q.all noStar=aj)(h:VE (c6 K) (m+1) (KS x (kE x n) o a Q L pos) P σ):Ev K sc (.Call (.Attribute o a L) Q [] pos) σ P:=by
 refine ic h (λG h=>ic h (λW k=>?_) λJ h=>h.elim) λJ h=>zD h λmt q h=>aQ (pI q) λy I F=>ic h (λW h=>?_) λJ h=>h.elim;·rw[cu,cu,cu] at W;refine bq W λE D=>bq E λC N=>bq C λB S=>lW (xH S) λid p e=>?_;subst e;rw[(V.eq _ _).mp B];exact Ev.C4 (yh V (gJ G) σ) N O (b3 D) ((T.l V k).mono λas X Z=>Z)
 ·rw[(V.eq _ _).mp F];rw[cu,cu] at W;by_cases R:∀f,mt≠.user f
  ·refine Ev.met R W.1.1 W.1.2 O (b3 W.2) ((T.e V h).mono λv U Y=>⟨?_,Y.1,(T.l V Y.2).mono λas X Z=>By R Z⟩);rcases V.met _ I with ⟨f,e⟩|Ra;·exact aJ e (R f)
   ·exact Ra
  ·refine aZ (Classical.not_forall.mp R) λf M=>?_;have M:=Classical.not_not.mp M;subst M;have H:=I4 I;refine Ev.QE H (BE _ H) W.1.1 W.1.2 O (b3 W.2) ((T.e V h).mono λv U Y=>?_);(refine bq Y λS N=>?_;clear Y)
   induction v using AV.casesOn with |ref k=>
    refine aZ (Option.isSome_iff_exists.mp S) λl A=>?_;exact bM _ l rfl A ((T.l V N).mono λas X Z=>Z)|_=>exact ft S
theorem Gx(Z:dF x sc){f:aF}{g:IE}(h:gK x f=af g):noStar f=aj/\((∃a,g=.bR (.ref a)/\Ai K sc f a [])\/(g=.pQ/\Ai K sc f 89 [.d (.con (.ref 135))])):=by
 refine jR (C:=(·=af g)) (G:=λf=>noStar f=aj/\((∃a,g=.bR (.ref a)/\Ai K sc f a [])\/(g=.pQ/\Ai K sc f 89 [.d (.con (.ref 135))]))) h (λid p h=>Po (C:=(·=af g)) h (λa q h=>⟨rfl,.inl (aP a ((dz h).symm) (Ai.fn (vP Z q)))⟩) λh=>ns h) λh=>?_;refine E_ (C:=(·=af g)) (G:=λf=>noStar f=aj/\((∃a,g=.bR (.ref a)/\Ai K sc f a [])\/(g=.pQ/\Ai K sc f 89 [.d (.con (.ref 135))]))) h (λo a p h=>?_) λh=>ns h;refine jR (C:=(·=af g)) (G:=λo=>_/\((∃b,g=.bR (.ref b)/\Ai K sc (.Attribute o a p) b [])\/(g=.pQ/\Ai K sc (.Attribute o a p) 89 [.d (.con (.ref 135))]))) h (λid q h=>l7 (C:=(·=af g)) h (λY h=>?_) λX h=>ns h) λh=>ns h;rw[cu] at Y;rw[(Z.eq _ _).mp Y.2];exact⟨rfl,.inr ⟨(dz h).symm,Ai.make (vP Z (BF Y.1))⟩⟩
def zK(x:Cx)(Z:ai)(g:IE)(xs e:aF):Prop:=∃p f pos,e=.Call (.Name Z p) [f,xs] [] pos/\gK x f=af g/\noStar xs=aj
theorem Gy{e xs:aF}{Z:ai}{g:IE}(q:KR x e=af (Z,g,xs)):zK x Z g xs e:=by
 refine JL (C:=(·=af (Z,g,xs))) (G:=zK x Z g xs) q (λW X Y pos q=>?_) λq=>ns q;refine jR (C:=(·=af (Z,g,xs))) (G:=λW=>zK x Z g xs (.Call W X Y pos)) q (λid p q=>?_) λq=>ns q;refine Qh (C:=(·=af (Z,g,xs))) (G:=λX=>zK x Z g xs (.Call (.Name id p) X Y pos)) q (λf y q=>?_) λq=>ns q;refine A3 (C:=(·=af (Z,g,xs))) (G:=λY=>zK x Z g xs (.Call (.Name id p) [f,y] Y pos)) q (λq=>?_) λq=>ns q;refine oE (C:=(·=af (Z,g,xs))) q (λS V q=>l7 (C:=(·=af (Z,g,xs))) q (λU q=>?_) λT q=>ns q) λT q=>ns q;cases q;exact EI _ _ _ rfl V U
theorem vQ(V:CG K m)(Z:dF x sc){l:aH}{id Y:ai}{p pos:a_}{e xs:aF}{g:IE}(q:KR x e=af (Y,g,xs))(U:isType "map" (kN x Y)=aj)(T:isType (if l then"list"else"tuple") (kE x n (.Name id p))=aj)(h:VE (c6 K) (m+1) (.s9 l g (kE x n xs)) P σ):Ev K sc (.Call (.Name id p) [e] [] pos) σ P:=by
 (refine uF (Gy q) λS S S W O R=>?_;subst W);refine bq (Gx (K:=K) Z O) λQ X=>?_;rcases X with ⟨a,rfl,X⟩|⟨rfl,X⟩;·exact Ev.s9 (yh Z (gJ T) σ) (vP Z (gJ U) σ) X Q R (V.e Z h)
 ·exact Ev.s9 (yh Z (gJ T) σ) (vP Z (gJ U) σ) X Q R (V.e Z h)
theorem yi(X:CG K m)(W:dF x sc){id:ai}{p pos:a_}{e:aF}(h:VE (c6 K) (m+1) (A5 x (kE x n) (.Name id p) e) P σ):Ev K sc (.Call (.Name id p) [e] [] pos) σ P:=by
 refine ic h (λU h=>?_) λV h=>h.elim;have Y:[e].all noStar=aj:=(Bool.and_true _).trans U;refine oE (C:=(VE (c6 K) (m+1) · P σ)) h (λr q h=>?_) λV h=>pJ X W Y h;refine ic h (λZ h=>?_) λV h=>ic h (λZ h=>?_) λV h=>pJ X W Y h;·rw[cu] at Z;exact vQ (l:=aC) X W q Z.1 Z.2 h
 ·rw[cu] at Z;exact vQ (l:=aj) X W q Z.1 Z.2 h
theorem zL(Y:CG K m)(X:dF x sc){f:aF}{Z:aa aF}{pos:a_}(h:VE (c6 K) (m+1) (Fd x (kE x n) pos f Z) P σ):Ev K sc (.Call f Z [] pos) σ P:=E_ (C:=(VE (c6 K) (m+1) · P σ)) (G:=λf=>Ev K sc (.Call f Z [] pos) σ P) h (λo a U h=>ic h (λW h=>DI Y X W h) λV h=>h.elim) λh=>jR (C:=(VE (c6 K) (m+1) · P σ)) (G:=λf=>Ev K sc (.Call f Z [] pos) σ P) h (λid p h=>kQ (C:=(VE (c6 K) (m+1) · P σ)) (G:=λZ=>Ev K sc (.Call (.Name id p) Z [] pos) σ P) h (λe h=>yi Y X h) λh=>ic h (λW h=>pJ Y X W h) λV h=>h.elim) λh=>h.elim
theorem DJ(R:CG K m)(V:dF x sc){f:aF}{Y:aa aF}{Z:aa Keyword}{pos:a_}(h:VE (c6 K) (m+1) (Qi x (kE x n) f Y Z) P σ):Ev K sc (.Call f Y Z pos) σ P:=by
 refine jR (C:=(VE (c6 K) (m+1) · P σ)) (G:=λf=>Ev K sc (.Call f Y Z pos) σ P) h (λid p h=>?_) λh=>h.elim;refine kQ (C:=(VE (c6 K) (m+1) · P σ)) (G:=λY=>Ev K sc (.Call (.Name id p) Y Z pos) σ P) h (λQ h=>?_) λh=>h.elim;refine kQ (C:=(VE (c6 K) (m+1) · P σ)) (G:=λZ=>Ev K sc (.Call (.Name id p) [Q] Z pos) σ P) h (λO h=>?_) λh=>h.elim;obtain⟨a,I,q⟩:=O;refine zD h λk N h=>ic h (λU h=>Po (C:=(VE (c6 K) (m+1) · P σ)) h (λf M h=>?_) λh=>h.elim) λH h=>h.elim;rw[cu] at U;rw[show a=af k from N,(V.eq _ _).mp U.1];exact Ev.NK U.2 ((yh V M σ).mono λg T X=>bq X λL J=>cy f L h.1 (by rw[J];exact(R.e V h.2).mono λa S W=>R.e V W))
theorem DK:∀p∈yM,(["__module__","__name__","__qualname__","__doc__","__annotations__"]:aa ai).contains p.1=aC:=by decide+kernel
theorem Ev.Rb{pos:a_}(h:∀o,P (.ref σ.heap.length) {σ with heap:=σ.heap++[.dS [] o]}):Ev K sc (.Dict [] [] pos) σ P:=λw A Y V s U r=>by
 refine wpAny_Dict_empty ?_;have X:∀{h:aM}{a:az},h.get? a=af {cls:=.type "dict",data:=.dict #[]}->h.DictOf (kF pw w) a []:=λZ=>Mj _ (#[]) _ Z ⟨rfl,rfl,rfl⟩ rfl (λe W=>aJ W (by simp)) (.nil) (.nil);refine(Way.new r (o:=.dS [] {cls:=.type "dict",data:=.dict #[]}) (ob:={cls:=.type "dict",data:=.dict #[]}) (λT q=>nomatch q) (λS Z=>⟨Z,[],X Z,rfl⟩) rfl s.toks).pv (RA.ref ?_) (h _);rw[<-r.bK.len,jh (bf _),cB];rfl
theorem Ev.Rc{pos:a_}(h:P (.ref σ.heap.length) {σ with heap:=σ.heap++[.dI []]}):Ev K sc (.Dict [] [] pos) σ P:=λw A Y V s U r=>by
 refine wpAny_Dict_empty ?_;have X:∀{h:aM}{a:az},h.get? a=af {cls:=.type "dict",data:=.dict #[]}->h.DictOf (sL pw w) a []:=λZ=>Mj _ (#[]) _ Z ⟨rfl,rfl,rfl⟩ rfl (λe W=>aJ W (by simp)) (.nil) (.nil);refine(Way.new r (o:=.dI []) (ob:={cls:=.type "dict",data:=.dict #[]}) (λT q=>nomatch q) (λS Z=>aP [] (X Z) rfl) rfl s.toks).pv (RA.ref ?_) h;rw[<-r.bK.len,jh (bf _),cB];rfl
theorem vR{F:Fc}{P:aH->AS->Prop}{G:Prop}(h:VT F n .bad P σ):G:=by induction n using cJ with|zero=>exact h.elim|succ n=>exact CF (F:=F) (n:=n) h
theorem Ii.mono{a:AV}{P V:aH->AS->Prop}(h:Ii K sc a σ P)(T:∀b σ,P b σ->V b σ):Ii K sc a σ V:=λw A Y S s R r Q O=>bk (h w A Y S s R r Q O) (λU M Z=>cz Z λX W N q=>cG X W (T _ _ N) q) λU U h=>h
theorem nW{e:aF}(h:xM e=aj)(env:aV)(v:ao):sJ e env v=aX v:=by induction e using fQ<;>first|rfl|exact ft h
theorem rt(W:dF x sc){Q:AS->Prop}{Z:aa aF}:∀{is:aa ah}{as:aa AV}{σ:AS},JN x Z=af is->as.length=is.length->Q {σ with loc:=xO is as σ.loc}->HT K sc Z as Q σ/\Z.length=is.length/\Z.all noStar=aj:=by induction Z with
 |nil=> intro is as σ h Y X;obtain rfl:=dz h;induction as using aO with|nil=>exact⟨X,rfl,rfl⟩|cons=>exact nomatch Y
 |cons e Z V=> intro is as σ h Y X;refine jR (C:=(·=af is)) (G:=λe=>HT K sc (e::Z) as Q σ/\(e::Z).length=is.length/\(e::Z).all noStar=aj) h (λid p h=>oE (C:=(·=af is)) h (λi U h=>oE (C:=(·=af is)) h (λT S h=>?_) λR h=>ns h) λR h=>ns h) λh=>ns h;obtain rfl:=dz h;induction as using aO with|nil=>exact nomatch Y|cons a as=>exact cL (V (σ:={σ with loc:=σ.loc.set i (af a)}) S (wU Y) X) λO N M=>⟨As.name (W.nm U) O,bu lD N,M⟩
theorem Gz{is:aa ah}{x:DV}{P:AS->Prop}{σ:AS}(Z:2<=is.length)(h:rD is x P σ):∃l,(x=.tup l\/x=.qI l)/\l.length=is.length/\P {σ with loc:=xO is (l.map .d) σ.loc}:=by induction is using aO with|nil=>exact aJ Z (by decide)|cons a l=>induction l using aO with|nil=>exact aJ Z (Nat.not_succ_le_self 1)|cons b l=>induction x using DV.casesOn with|tup x=>exact⟨x,.inl rfl,h⟩|qI x=>exact⟨x,.inr rfl,h⟩|_=>exact h.elim
theorem uc(Y:dF x sc){t:aF}{is:aa ah}{d:DV}{Q:AS->Prop}(e:Fb x t=af is)(h:rD is d Q σ):As K sc t (.d d) σ Q:=by
 refine jR (C:=(·=af is)) (G:=λt=>As K sc t (.d d) σ Q) e (λid p e=>oE (C:=(·=af is)) e (λi R e=>?_) λX e=>ns e) λe=>E9 (C:=(·=af is)) (G:=λt=>As K sc t (.d d) σ Q) e (λM k p e=>l7 (C:=(·=af is)) e (λZ e=>?_) λX e=>ns e) λe=>ns e;·obtain rfl:=dz e;exact As.name (Y.nm R) h
 ·have Z:=b3 Z;rw[<-((rt (K:=K) (as:=is.map λX=>.d .none) (σ:=σ) (Q:=λX=>True) Y e (bB _) trivial).2.1).symm] at Z;refine aQ (Gz Z h) λl O W=>bq W λV N=>cL (rt (K:=K) (as:=l.map .d) Y e ((bB _).trans V) N) λU T S=>O.elim (λe=>?_) λe=>?_<;>subst e;·exact As.tup S (V.trans T.symm) U
  ·exact As.qI S (V.trans T.symm) U
theorem zM(W:dF x sc){Y:aU}(V:f7 sc Y){loc Z:aa (aA AV)}(U:q9 (mG x 0 Y.names) loc Z)(i:ah)(y:ai)(hi:Y.names[i]?=af (y,fy))(j:ah)(k:b6)(b:AV)(T:sc.names[j]?=af (y,k))(S:loc[j]?=af (af b)):Z[i]?=af (af b):=by
 refine aZ ((V.free y _ (j3 hi)).2 rfl) λR X=>?_;have:=BD U (DF W X hi);rw[nQ W.nodup X T,S,eV] at this;exact this
theorem GA(X:dF x sc){Z:aU}{n:ah}{loc:aa (aA AV)}{i:ah}{y:ai}{k:b6}{b:AV}(hi:Z.names[i]?=af (y,k))(W:(h_ n (mG x 0 Z.names) loc)[i]?=af (af b)):k=.free/\∃j:ah,sc.names[j]?=af (y,.cell)/\loc[j]?=af (af b):=by
 refine aQ (vd W) λj V U=>cU (DG X V) λT Q S Y R=>?_;rw[<-(eV T).symm.trans S.symm|>.symm,hi] at Y;cases Y;exact⟨rfl,j,R,U⟩
theorem ud(O:CG K m)(N:dF x sc){Y:aU}(D:f7 sc Y){n:ah}{t elt:aF}{ifs:aa aF}{is:aa ah}{a:AV}{Z:AS}{P:aa DV->Prop}(B:Fb (inner x Y) t=af is)(h:∃xs,jk Z.heap a=af xs/\qO (rD is) (λQ σ=>match ifs.map (kE (inner x Y) n)with|[]=>Q aj σ|[c]=>VT (c6 K) m c Q σ|_=>bG) (VE (c6 K) m (kE (inner x Y) n elt)) Z.heap xs [] (λacc σ'=>q9 (mG x 0 Y.names) Z.loc σ'.loc/\P acc) ⟨h_ Y.names.length (mG x 0 Y.names) Z.loc,Z.heap++[.list []]⟩):CD K sc Y t elt ifs a Z P:=by
 refine aQ h λxs A h=>?_;have V:=zJ N D;refine bM xs (h_ (Y.names.length) (mG x 0 Y.names) Z.loc) A (λi y k b z w=>GA N z w) ?_
 ·generalize C:([]:aa DV)=acc at h ⊢;generalize h_ Y.names.length (mG x 0 Y.names) Z.loc=M at h ⊢;revert h;have key:∀(xs acc:aa DV) (σ:AS),qO (rD is) (λQ σ=>match ifs.map (kE (inner x Y) n) with|[]=>Q aj σ|[c]=>VT (c6 K) m c Q σ|_=>bG) (VE (c6 K) m (kE (inner x Y) n elt)) Z.heap xs acc (λacc σ'=>q9 (mG x 0 Y.names) Z.loc σ'.loc/\P acc) σ->qO (λx Q σ=>As K (j4 sc Y) t (.d x) σ Q) (λQ σ=>L_ K (j4 sc Y) ifs σ Q) (λQ σ=>Ev K (j4 sc Y) elt σ Q) Z.heap xs acc (λacc σ'=>(∀(i:ah) (x:ai),Y.names[i]?=af (x,fy)->∀(j:ah) (k:b6) (a:AV),sc.names[j]?=af (x,k)->Z.loc[j]?=af (af a)->σ'.loc[i]?=af (af a))/\P acc) σ:=by
   intro xs;induction xs with
   |nil=> refineλacc σ X=>cL X λL J v=>?_;exact⟨L,zM N D J,v⟩|cons d xs U=>
    refineλacc σ X=>bq X λL J=>?_;refine⟨L,As.mono (uc V B J) λI W=>?_⟩;induction ifs using aO with |nil=>exact⟨λq=>(O.e V (W.1 q)).mono λy S X=>m_ X λH e R G F=>(lX H e R G (U _ _ F)),λq=>U _ _ (W.2 q)⟩|cons c l=>induction l using aO with |nil=>exact Ts.mono (O.t V W) λc E T=>⟨λq=>(O.e V (T.1 q)).mono λy S X=>m_ X λH e R G F=>(lX H e R G (U _ _ F)),λq=>U _ _ (T.2 q)⟩|cons=>exact W.elim
  exact key xs acc ⟨M,_⟩
set_option maxHeartbeats 4000000 in theorem CG.succ(V:CG K m):CG K (m+1):=by
 have D:∀{x:Cx}{sc:aU}{n:ah}{e:aF}{P:AV->AS->Prop}{σ:AS},dF x sc->VE (c6 K) (m+1) (kE x n e) P σ->Ev K sc e σ P:=by
  intro x sc n e P σ X h;induction n using cJ with |zero=>exact h.elim|succ n=>induction e using fQ with
   |Constant c k p=>
    have h:VE (c6 K) (m+1) (qL c) P σ:=h;rcases yg c with q|⟨d,q⟩;·rw[q] at h;exact h.elim
    ·rw[q] at h;exact Ev.const q h|Name id p=>exact zE X h|BinOp l N r p=>exact Ev.binop ((V.e X h).mono λa Y Z=>(V.e X Z).mono λb W U=>A9 U)|UnaryOp N e p=>
    refine ic h (λT h=>h.elim) λT h=>ic h (λq h=>?_) λT h=>h.elim;rw[b3 q];refine Ev.neg ((V.e X h).mono λa Y Z=>?_);split at Z;·exact aP _ rfl Z
    ·exact Z.elim|BoolOp N S p=>exact V.o X h|IfExp t a b p=>exact Ev.MB ((V.t X h).mono λc Y Z=>⟨λq=>V.e X (Z.1 q),λq=>V.e X (Z.2 q)⟩)|Compare l M J p=>
    refine kQ (C:=(VE (c6 K) (m+1) · P σ)) (G:=λM=>Ev K sc (.Compare l M J p) σ P) h (λN h=>?_) λh=>h.elim;refine kQ (C:=(VE (c6 K) (m+1) · P σ)) (G:=λJ=>Ev K sc (.Compare l [N] J p) σ P) h (λr h=>ic h (λT h=>h.elim) λO h=>?_) λh=>h.elim;rw[qc,xy,xy] at O;exact Ev.cmp (Cm O.1 O.2) ((V.e X h).mono λa Y Z=>(V.e X Z).mono λb W U=>U)|Tuple S k p=>exact Ev.tuple ((V.l X h).K3)|List S p=> have h:VE (c6 K) (m+1) (.lst (x.mu.contains p.line) (S.map (kE x n))) P σ:=h;cases q:x.mu.contains p.line with |false=>rw[q] at h;exact Ev.list ((V.l X h).K3)|true=>rw[q] at h;exact Ev.MC (Ls.K3 (Q:=λl σ=>P (.ref σ.heap.length) {σ with heap:=σ.heap++[.list l]}) (V.l X h))
   |Dict ks vs p=>induction ks using aO with
    |nil=>induction vs using aO with
     |nil=> have h:VE (c6 K) (m+1) (.dct (x.sd.contains p.line)) P σ:=h;cases q:x.sd.contains p.line with |true=>rw[q] at h;exact Ev.Rb h|false=>rw[q] at h;exact Ev.Rc h
     |cons=>exact h.elim
    |cons=>exact h.elim
   |Subscript v i p=>
    refine MI (C:=(VE (c6 K) (m+1) · P σ)) (G:=λi=>Ev K sc (.Subscript v i p) σ P) h (λlo hi st q h=>?_) λj h=>?_;·exact Ev.slice ((V.e X h).mono λa Y Z=>(V.p X Z).mono λl W U=>(V.p X U).mono λu σ₃ B=>(V.p X B).mono λt σ₄ A=>A)
    ·exact Ev.sub ((V.e X h).mono λa Y Z=>(V.e X Z).mono λb W U=>Bb U) (DH j)|ListComp I H s p=>
    refine kQ (C:=(VE (c6 K) (m+1) · P σ)) (G:=λH=>Ev K sc (.ListComp I H s p) σ P) h (λg h=>?_) λh=>h.elim;obtain⟨t,it,ifs,a⟩:=g;refine ic h (λhc h=>zD h λis e1 h=>?_) λT h=>h.elim;rw[cu] at hc;rw[show a=0 from b3 hc.1];exact cL (qX X hc.2) λT j w=>Ev.comp j (nW w) ((V.e X h).mono λa Y Z=>ud V X j e1 Z)|SetComp I H s p=>exact kQ (C:=(VE (c6 K) (m+1) · P σ)) (G:=λH=>Ev K sc (.SetComp I H s p) σ P) h (λg h=>ic h (λhc h=>zD h λis e1 h=>h.elim) λT h=>h.elim) λh=>h.elim|Attribute v a p=>
    refine ic h (λT h=>h.elim) λT h=>oE (C:=(VE (c6 K) (m+1) · P σ)) h (λi e1 h=>ic h (λhn h=>?_) λT h=>h.elim) λT h=>zD h λmt q h=>ic h (λhb h=>?_) λT h=>h.elim;·refine lW (xH hn) λy q e=>?_;subst e;exact Ev.lB (tL X.eq e1).2 (V.e X h)
    ·refine aQ (pI q) λy hy D=>?_;have D:=(X.eq _ _).mp D;subst D;refine Ev.bnd hb (DK _ hy) ((V.e X h).mono λv Y Z=>⟨?_,Z⟩);rcases X.met _ hy with ⟨f,e⟩|Ra;·simp only at e;subst e;exact aJ (show Io Y.heap v (.user f) _ from Z) (λz=>z)
     ·exact Ra|Call f S F p=>induction F using aO with|nil=>exact zL V X h|cons kw F=>exact DJ V X h
   |_=>exact h.elim
 refine⟨D,?_,?_,?_,?_,?_⟩
 ·intro x sc n e P σ X h;have R:(∀(E:aV) (L:Sem ao),sy e E L=(do let v<-L;standAt e.pos;holding [v] (truthy v)))->iU (kE x n e)=aj->Ts K sc e σ P:=λhw hv=>by
   rw[Lf hv] at h;exact Ts.value ((V.e X h).mono λa Y Z=>tG Z) hw
  induction n using cJ with |zero=>exact vR h|succ n=>induction e using fQ with
   |Compare l M J p=>
    refine kQ (C:=(VT (c6 K) (m+1) · P σ)) (G:=λM=>Ts K sc (.Compare l M J p) σ P) h (λN h=>?_) λh=>vR h;refine kQ (C:=(VT (c6 K) (m+1) · P σ)) (G:=λJ=>Ts K sc (.Compare l [N] J p) σ P) h (λr h=>l7 (C:=(VT (c6 K) (m+1) · P σ)) h (λT h=>vR h) λO h=>?_) λh=>vR h;rw[qc,xy,xy] at O;exact Ts.cmp (Cm O.1 O.2) ((V.e X h).mono λa Y Z=>(V.e X Z).mono λb W U=>U)|UnaryOp N e p=>induction N using UnaryOp.casesOn with|Not=>exact Ts.not (V.t X h)|USub=>exact R (λT T=>rfl) rfl|_=>exact vR h
   |BoolOp N S p=>exact Ts.KN (V.a X h)|IfExp t a b p=>exact h.elim|Constant c k p=>exact R (λT T=>rfl) (zF c)|Name id p=>exact R (λT T=>rfl) (I3 rfl)|Subscript v i p=>exact R (λT T=>rfl) (DB rfl)|Attribute v a p=>exact R (λT T=>rfl) (DC rfl)|ListComp e H s p=>exact R (λT T=>rfl) (t_ rfl)|SetComp e H s p=>exact R (λT T=>rfl) (t_ rfl)|Call f S F p=>exact R (λT T=>rfl) (vc rfl BC Gw)|Dict ks vs p=>exact R (λT T=>rfl) (vc rfl (λh=>vk h rfl) vb)|BinOp l N r p=>exact R (λT T=>rfl) rfl|Tuple S k p=>exact R (λT T=>rfl) rfl|List S p=>exact R (λT T=>rfl) rfl|_=>exact vR h
 ·intro x sc n S P σ X h;induction S using aO with|nil=>exact Ls.nil h|cons e S=>
   have h:VE (c6 K) m (kE x n e) (λv Y=>VL (c6 K) m (S.map (kE x n)) (λl W=>P (v::l) W) Y) σ:=h;cases q:noStar e with |true=>exact Ls.cons ((V.e X h).mono λa Y Z=>V.l X Z) λE=>dG q S E|false=>induction e using fQ with |Starred v p=>cases n<;>exact CF h|_=>exact tf q
 ·intro x sc n N S P σ X h;induction N using BoolOp.casesOn with
  |And=>induction S using aO with|nil=>exact Al.KO h|cons e S=>exact Al.and ((V.t X h).mono λc Y Z=>⟨λq=>V.a X (Z.1 q),Z.2⟩)
  |Or=>induction S using aO with|nil=>exact Al.MD h|cons e S=>exact Al.or ((V.t X h).mono λc Y Z=>⟨λq=>V.a X (Z.1 q),Z.2⟩)
 ·intro x sc n N S pos P σ X h;induction N using BoolOp.casesOn with
  |And=>induction S using aO with|nil=>exact h.elim|cons e S=>induction S using aO with|nil=>exact h.elim|cons e S=>cases S<;>exact h.elim
  |Or=>match S,h with
   |[a,b],h=>
    refine Ev.Te ((V.e X h).mono λv Y Z=>?_);have q:Ii K sc v Y λc W=>(c=aj->P v W)/\(c=aC->VE (c6 K) m (kE x n b) P W):=tG Z;exact q.mono λc W U=>⟨U.1,λz=>V.e X (U.2 z)⟩|[],h=>exact h.elim|[_],h=>exact h.elim|_::_::_::_,h=>exact h.elim
 ·intro x sc n e P σ X h;induction e using c9 with |none=>exact h|some e=>
   refine Ev.mono (e:=e) (V.e X h) λa Y Z=>?_;split at Z;·exact aP _ rfl Z
   ·exact Z.elim
theorem snd(K:ah):∀m,CG K m:=by
 intro m;induction m with|zero=>exact CG.zero|succ m Z=>exact(Z).succ
end
section
variable{K:ah}{sc:aU}{σ:AS}{P:AV->AS->Prop}{cI:Fl->AS->Prop}{x:Cx}{m n:ah}
theorem GB{e:aF}(h:rI e=aC)(t:aA aF)(l:ah)(env:aV):swapsWith e t l env=aX aC:=by induction e using fQ<;>first|rfl|exact tf h
theorem Ex.expr{e:aF}{pos:a_}(V:rI e=aC)(h:Ev K sc e σ λR Z=>cI .next Z):Ex K sc (.Expr e pos) σ cI:=λw A U Q s T r=>wpAny_Expr_any (h.run T r λv W a Z X S Y O=>Y.pf (fl:=.next) trivial S) (by unfold interactive;rw[r.shape.scope,r.shape.fn];rfl) (GB V _ _ _)
theorem vS{F:Fc}{v:AV}{P:AS->Prop}{G:Prop}(h:VG F m .bad v P σ):G:=by cases m<;>exact h.elim
theorem NL{F:Fc}{G:Prop}(h:VX F m .bad cI σ):G:=by cases m<;>exact h.elim
structure Rd(K m:ah):Prop where
 g:∀{x:Cx}{sc:aU}{n:ah}{t:aF}{v:AV}{Q:AS->Prop}{σ:AS},dF x sc->VG (c6 K) m (kT (kE x 60) x n t) v Q σ->As K sc t v σ Q
 gs:∀{x:Cx}{sc:aU}{n:ah}{ts:aa aF}{as:aa AV}{Q:AS->Prop}{σ:AS},dF x sc->M1 (c6 K) m (ts.map (kT (kE x 60) x n)) as Q σ->HT K sc ts as Q σ
theorem Lg(K m:ah):Rd K m:=by induction m with |zero=>exact⟨λW h=>h.elim,λW h=>h.elim⟩|succ m U=>
  refine⟨λ{x sc n t v Q σ}Z h=>?_,λ{x sc n R as Q σ}Z h=>?_⟩;·induction n using cJ with |zero=>exact vS h|succ n=>
    refine jR (C:=(VG (c6 K) (m+1) · v Q σ)) (G:=λt=>As K sc t v σ Q) h (λid p h=>?_) λh=>E9 (C:=(VG (c6 K) (m+1) · v Q σ)) (G:=λt=>As K sc t v σ Q) h (λN k p h=>l7 (C:=(VG (c6 K) (m+1) · v Q σ)) h (λT h=>?_) λW h=>vS h) λh=>E_ (C:=(VG (c6 K) (m+1) · v Q σ)) (G:=λt=>As K sc t v σ Q) h (λo a p h=>oE (C:=(VG (c6 K) (m+1) · v Q σ)) h (λi O h=>l7 (C:=(VG (c6 K) (m+1) · v Q σ)) h (λT k=>lW (xH T) λy q e=>?_) λW h=>vS h) λW h=>vS h) λh=>MH (C:=(VG (c6 K) (m+1) · v Q σ)) (G:=λt=>As K sc t v σ Q) h (λo i p h=>As.sub (((snd K m).e (x:=x) (n:=60) (e:=o) Z h).mono λa X Y=>((snd K m).e (x:=x) (n:=60) (e:=i) Z Y).mono λb S V=>V)) λh=>vS h;·exact oE (C:=(VG (c6 K) (m+1) · v Q σ)) h (λi e h=>As.name (Z.nm e) h) λW h=>oE (C:=(VG (c6 K) (m+1) · v Q σ)) h (λi e h=>As.ji (Z.nm e) h) λW h=>vS h
    ·induction v using AV.casesOn with
     |d v=>induction v using DV.casesOn with |tup l=>exact As.tup T (h.1.trans (bB _)) (U.gs Z h.2)|qI l=>exact As.qI T (h.1.trans (bB _)) (U.gs Z h.2)|_=>exact h.elim
     |_=>exact h.elim
    ·subst e;exact As.lB (tL Z.eq O).2 ((snd K m).e (x:=x) (n:=60) (e:=.Name y q) Z k)
  ·induction R using aO with
   |nil=>induction as using aO with|nil=>exact h|cons=>exact h.elim
   |cons t R=>induction as using aO with |nil=>exact h.elim|cons a as=>exact As.mono (U.g Z h) λX Y=>U.gs Z Y
theorem Rf{K m:ah}:∀{x:Cx}{sc:aU}{n:ah}{Z:aa aF}{a:AV}{Q:AS->Prop}{σ:AS},dF x sc->Pp (c6 K) m (Z.map (kT (kE x 60) x n)) a Q σ->Nv K sc Z a Q σ:=by induction m with |zero=>exactλU h=>h.elim|succ m V=> intro x sc n Z a Q σ W h;induction Z using aO with |nil=>exact h|cons t Z=>exact As.mono ((Lg K m).g W h) λX Y=>V W Y
theorem BG{Z:aa aF}{e:aF}(h:plainT Z e=aj)(env:aV):oW Z e env=aX none:=by induction Z using aO with |nil=>rfl|cons t Z=>induction t using fQ with
  |Tuple a b c=>induction Z using aO with
   |nil=>induction e using fQ with |Tuple=>exact ft h|_=>rfl
   |cons=>rfl
  |List a b=>induction Z using aO with
   |nil=>induction e using fQ with|Tuple=>exact ft h|_=>rfl
   |cons=>rfl
  |_=>rfl
theorem nD{F:Fc}{c:aH}{a b:IS}{G:Prop}(h:VX F n (cond c a b) cI σ)(Z:c=aj->VX F n a cI σ->G)(Y:c=aC->VX F n b cI σ->G):G:=l7 (C:=(VX F n · cI σ)) h Z Y
theorem GC{α:Type}{F:Fc}{o:aA α}{f:α->IS}{G:Prop}(h:VX F n (o.elim .bad f) cI σ)(Z:∀a,o=af a->VX F n (f a) cI σ->G):G:=oE (C:=(VX F n · cI σ)) h Z λY h=>NL h
noncomputable def Rg(env:aV)(line:ah)(e:aF):aA ai:=gw e (λid pos=>if env.kindOf id==af .local&&pos.line==line then af id else none) none
def Lh(x:Cx)(sc:aU)(line:ah)(Y:aa aF)(is:aa (ai×ah)):Prop:=(∀Z:aV,Shape sc Z->Y.filterMap (Rg Z line)=is.map (·.1))/\is.length=Y.length/\(∀p∈is,sc.names[p.2]?=af (p.1,NameKind.local))/\(is.map (·.2)).Nodup
theorem DL(S:dF x sc){line:ah}{X:aa aF}:∀{is:aa (ai×ah)},KV x line X=af is->Lh x sc line X is:=by induction X with |nil=>intro is h;cases h;exact⟨λY Y=>rfl,rfl,(λY h=>nomatch h),.nil⟩|cons t X R=>
  intro is h;refine jR (C:=(·=af is)) (G:=λt=>Lh x sc line (t::X) is) h (λid p h=>l7 (C:=(·=af is)) h (λW h=>oE (C:=(·=af is)) h (λi Q h=>oE (C:=(·=af is)) h (λO N h=>l7 (C:=(·=af is)) h (λY h=>ns h) λU h=>?_) λY h=>ns h) λY h=>ns h) λY h=>ns h) λh=>ns h;obtain rfl:=dz h;refine rA (R N) λM L J I=>?_;have T:=S.nm Q;refine⟨λZ V=>?_,bu lD L,λp W=>(gq W).elim (λe=>by rw[e];exact T) (J p),?_⟩
  ·have H:Z.kindOf id=af .local:=by
    show Z.scope.names.lookup id=_;rw[V.scope];exact j6 V.nodup T
   have e:Rg Z line (.Name id p)=af id:=aW (by rw[H,W];rfl);rw[Ar e,M Z V];rfl
  ·rw[ek,oz];refine⟨λF=>aQ (gP F) λq E e=>?_,I⟩;rw[List.any_eq_false] at U;exact U q E (by rw[e];exact iT _)
theorem BH:∀{l:aa ai},l.Nodup->l.length<=3->l.eraseDups.length=l.length:=by
 intro l;induction l with
 |nil=> intro _ _;exact rfl|cons a Z _=>induction Z using aO with |nil=> intro _ _;exact rfl|cons b Y=>induction Y using aO with
   |nil=>
    intro h _;have:b≠a:=λe=>by subst e;simp at h
    simp[List.eraseDups_cons,this]|cons c X=>induction X using aO with
    |nil=>
     intro h _;simp only[oz,qk,oH,or_false,not_or] at h;have W:b≠a:=λe=>h.1.1 e.symm;have V:c≠a:=λe=>h.1.2 e.symm;have U:c≠b:=λe=>h.2.1 e.symm;simp[List.eraseDups_cons,W,V,U]|cons T S=> intro _ h;simp at h
theorem GD{α Z:Type}{l:aa (α×Z)}{p:α×Z}(h:p∈(l.map (·.1)).zip (l.map (·.2))):p∈l:=by
 have:∀l:aa (α×Z),(l.map (·.1)).zip (l.map (·.2))=l:=by
  intro l;induction l with |nil=>rfl|cons a l Y=>rw[ek,ek,List.zip_cons_cons,Y]
 rwa [this] at h
theorem GF{ts es:aa aF}{k Z:ah}{p q:a_}{env:aV}(h:¬(ts.length==2||ts.length==3)=aj):oW [.Tuple ts k p] (.Tuple es Z q) env=aX none:=by exact aW (c:=(!(ts.length==2||ts.length==3)||es.length !=ts.length||env.blockKind !=.function)=aj) (by rw[Bool.eq_false_iff.mpr h];rfl)
theorem GG{ts es:aa aF}{k L:ah}{p q:a_}{env:aV}{is:aa (ai×ah)}(X:Shape sc env)(Z:(ts.length==2||ts.length==3)=aj)(Y:(es.length==ts.length&&es.all noStar&&!es.all (foldedForSure 8)&&!es.all (constantsAlone 8))=aj)(G:KV x (rJ ts) ts=af is)(R:Lh x sc (rJ ts) ts is):oW [.Tuple ts k p] (.Tuple es L q) env=aX (af (is.map (·.1))):=by
 (refine rA R λJ Q O N=>?_;clear R);simp only[cu,Bool.not_eq_true',beq_iff_eq] at Y;have nd:(is.map (·.1)).Nodup:=by
  rw[wB,mW] at N ⊢;refine N.imp_of_mem λ{a b}W Y V e=>V ?_;have U:=bu (Option.map (·.1)) (O a W);have M:=bu (Option.map (·.1)) (O b Y);rw[<-dN] at U M;exact(qh (gi U).1 X.nodup).mp (by rw[U,M];show af a.1=af b.1;rw[e])
 have I:(is.map (·.1)).length<=3:=by
  rw[bB,Q];simp only[Bool.or_eq_true,beq_iff_eq] at Z;rcases Z with e|e<;>rw[e]<;>decide
 have T:(env.blockKind !=ScopeKind.function)=aC:=by unfold Env.blockKind;rw[X.scope,X.fn];rfl
 have W:∀F:aF->aH,(∀e∈es,F e=aC)->¬es.any F=aj:=λF h q=>aQ (List.any_eq_true.mp q) λe S q=>cS ((h e S).symm.trans q);refine(aI (c:=(!(ts.length==2||ts.length==3)||es.length !=ts.length||env.blockKind !=.function)=aj) (by rw[Z,Y.1.1.1,T,o9];exact cS)).trans ?_;have H:∀F:aF->aA ai,(∀e,F e=Rg env (rJ ts) e)->ts.filterMap F=is.map (·.1):=λF h=>(bu (ts.filterMap ·) (funext h)).trans (J env X);refine(aI (W _ λe S=>?_)).trans ?_;·have:=lV Y.1.1.2 e S;induction e using fQ<;>first|rfl|exact ft this
 dsimp only;rewrite[H] at ⊢;case a=>intro e;induction e using fQ<;>rfl
 rw[BH nd I,bB,Q];simp only[o9,Bool.or_false,i5,kL,Y.1.2,Y.2]
theorem Ex.aug{id:ai}{q p:a_}{O:ku}{e:aF}{i:ah}{a:AV}(hi:sc.names[i]?=af (id,.local))(I:σ.loc[i]?=af (af a))(h:Ev K sc e σ λb W=>M3 O a b (λv Y=>cI .next {Y with loc:=Y.loc.set i (af v)}) W):Ex K sc (.AugAssign (.Name id q) O e p) σ cI:=λw A H D s G r=>by
 refine aQ r.frame.ns λm Q N=>?_;refine aQ (N i id a hi I) λv F L=>?_;refine wpAny_AugAssign_Name (wpAny_loadName_local (by rw[r.shape.scope];exact r.shape.fn) (r.kind hi) Q F ?_);refine h.run G r λvb T b Y M Z X J=>?_;induction O using Operator.casesOn with
 |Add=>induction a using AV.casesOn with
  |d x=>induction x using DV.casesOn with
   |int x=>induction b using AV.casesOn with
    |d y=>induction y using DV.casesOn with |int y=>
      (refine aZ L λt V=>?_;clear L;subst V);(refine aZ J λu V=>?_;clear J;subst V);refine PyProof.Rows.iadd_int ?_;have U:=X.trans (Way.toks X.rel (T.toks+1));refine aQ U.rel.frame.ns λm Q N=>?_;exact AD (U.rel.kind hi) Q (λC E S=>(U.trans ⟨eY.refl _ _,U.rel.assign hi Q E S (RA.d (R.int _ _)) N,step_same S (.inl rfl)⟩).pf (fl:=.next) trivial Z) (by rw[U.rel.shape.scope,U.rel.shape.fn];rfl)|_=>exact Z.elim
    |_=>exact Z.elim
   |_=>exact Z.elim
  |_=>exact Z.elim
 |_=>exact Z.elim
theorem Ex.try{b:aa bH}{h0:ExceptHandler}{X:aa ExceptHandler}{p:a_}(h:nc K sc b σ cI):Ex K sc (.Try b (h0::X) [] [] p) σ cI:=λw A Z W s V r=>wpAny_Try_except (bk (h w A Z W s V r) (λf Y q=>by induction f using fR with|next=>exact sC q|_=>exact q) λU U h=>h.elim)
theorem DM{F:Fc}{m k:ah}{Y:aa (ah×ah)}{t:aa ah}{elt it:IE}{ifs:aa IE}{P:AV->AS->Prop}(h:VE F (m+1) (.comp aC k Y t elt it ifs) P σ):VE F m it (λa Z=>∃xs,jk Z.heap a=af xs/\qO (rD t) (λQ σ=>match(generalizing:=false) ifs with|[]=>Q aj σ|[c]=>VT F m c Q σ|_=>bG) (VE F m elt) Z.heap xs [] (λacc σ'=>q9 Y Z.loc σ'.loc/\P (.d (.lst acc)) Z) ⟨h_ k Y Z.loc,Z.heap++[.list []]⟩) σ:=h
theorem BI(U:dF x sc){id:ai}{q p pos:a_}{elt:aF}{g:sD}{s:aU}{i:ah}(hi:sc.names[i]?=af (id,.local))(S:(q.line==pos.line&&!(s.names.any λr=>x.eq r.1 id&&(r.2==.local||r.2==.cell)))=aj)(h:VX (c6 K) (m+1) (.asg [.loc i] (yN x aC (λy=>kE y 59) elt s [g])) cI σ):Ex K sc (.Assign [.Name id q] (.ListComp elt [g] s pos) p) σ cI:=by induction m using cJ with|zero=>exact h.elim|succ m=>
 obtain⟨t,it,O,a⟩:=g;refine ic h (λX h=>zD h λis N h=>?_) λM h=>h.elim;rw[cu] at X;rw[show a=0 from b3 X.1];refine cL (qX U X.2) λM Q W=>?_;induction m using cJ with |zero=>exact h.elim|succ m=>
 refine Ex.comp hi Q (nW W) (λZ T=>?_) (((snd K (m+1)).e (x:=x) (n:=59) (e:=it) U (DM h)).mono λa Y V=>ud (snd K (m+1)) U Q (n:=59) N (P:=λR=>cI .next {Y with loc:=Y.loc.set i (af (.d (.lst R)))}) ?_)
 ·rw[cu] at S;have X:Z.kindOf id=af .local:=by
   show Z.scope.names.lookup id=_;rw[T.scope];exact j6 T.nodup hi
  have L:Z.blockKind=.function:=by unfold Env.blockKind;rw[T.scope,T.fn];rfl
  have J:(s.names.any λ(n,k)=>n==id&&(k==.local||k==.cell))=aC:=by
   rw[List.any_eq_false];intro r I e;have:=S.2;rw[Bool.not_eq_true',List.any_eq_false] at this;refine this r I ?_;rw[cu] at e ⊢;exact⟨(U.eq _ _).mpr (eL e.1),e.2⟩
  show (aX (Z.blockKind==.function&&Z.kindOf id==af .local&&q.line==pos.line&&!(s.names.any λ(n,k)=>n==id&&(k==.local||k==.cell))):Sem aH)=aX aj;rw[X,L,J,S.1];rfl
 ·exact V
theorem GH{t t':DV->(AS->Prop)->AS->Prop}{e e':(AV->AS->Prop)->AS->Prop}{H:aa AO}{P V:AS->Prop}(T:∀x Q σ,t x Q σ->t' x Q σ)(S:∀Q σ,e Q σ->e' Q σ)(mt:∀x Q Q' σ,(∀σ,Q σ->Q' σ)->t' x Q σ->t' x Q' σ)(R:∀Q Q' σ,(∀a σ,Q a σ->Q' a σ)->e' Q σ->e' Q' σ)(O:∀σ,P σ->V σ):∀(xs:aa DV)(o:aR)(σ:AS),yQ t e H xs o P σ->yQ t' e' H xs o V σ:=by
 intro xs;induction xs with |nil=>exactλN N h=>⟨h.1,O _ h.2⟩|cons x r M=>exactλo σ h=>⟨h.1,mt _ _ _ _ (λX Y=>R _ _ _ (λy W Z=>⟨Z.1,Z.2.1,λU=>M U _ (Z.2.2 U)⟩) (S _ _ Y)) (T _ _ _ h.2)⟩
theorem BJ(Z:dF x sc){id:ai}{q O pos p:a_}{kk:ah}{elt t it:aF}{s:aU}{i:ah}{is:aa ah}(hi:sc.names[i]?=af (id,.local))(N:Fb (inner x s) t=af is)(M:xN x aC s it=aj)(h:VX (c6 K) (m+1) (.C5 i s.names.length (mG x 0 s.names) is (kE (inner x s) 60 elt) (kE x 60 it)) cI σ):Ex K sc (.Assign [.Tuple [.Name id q] kk O] (.SetComp elt [⟨t,it,[],0⟩] s pos) p) σ cI:=by
 refine cL (qX Z M) λC U Y=>?_;have X:=zJ Z U;exact Ex.C5 hi U (nW Y) (((snd K m).e (x:=x) (n:=60) (e:=it) Z h).mono λa T W=>cC W λL J S I=>HY L _ J S (λi y k b hi H=>GA Z hi H) (λo=>GH (t:=rD is) (t':=λd Q σ=>As K (j4 sc s) t (.d d) σ Q) (e:=VE (c6 K) m (kE (inner x s) 60 elt)) (e':=λQ σ=>Ev K (j4 sc s) elt σ Q) (λd Q σ h=>uc X N h) (λQ σ h=>(snd K m).e (x:=inner x s) (n:=60) (e:=elt) X h) (λd Q G σ R h=>As.mono h R) (λQ G σ R h=>Ev.mono h R) (λF V=>bq V λE D=>⟨zM Z U E,D⟩) _ _ _ (I o)))
theorem zN(W:dF x sc){V:aa aF}{e:aF}{p:a_}(h:VX (c6 K) (m+1) (JO x p.line V e) cI σ):Ex K sc (.Assign V e p) σ cI:=by
 refine kQ (C:=(VX (c6 K) (m+1) · cI σ)) (G:=λV=>Ex K sc (.Assign V e p) σ cI) h (λt h=>?_) λh=>h.elim;refine jR (C:=(VX (c6 K) (m+1) · cI σ)) (G:=λt=>Ex K sc (.Assign [t] e p) σ cI) h (λid q h=>?_) λh=>?_;·refine Tf (C:=(VX (c6 K) (m+1) · cI σ)) (G:=λe=>Ex K sc (.Assign [.Name id q] e p) σ cI) h (λZ X s pos h=>?_) λh=>h.elim;exact kQ (C:=(VX (c6 K) (m+1) · cI σ)) (G:=λX=>Ex K sc (.Assign [.Name id q] (.ListComp Z X s pos) p) σ cI) h (λg h=>nD h (λY h=>GC h λi T h=>BI W (W.nm T) Y h) λQ h=>h.elim) λh=>h.elim
 ·refine E9 (C:=(VX (c6 K) (m+1) · cI σ)) (G:=λt=>Ex K sc (.Assign [t] e p) σ cI) h (λR k U h=>?_) λh=>h.elim;refine kQ (C:=(VX (c6 K) (m+1) · cI σ)) (G:=λR=>Ex K sc (.Assign [.Tuple R k U] e p) σ cI) h (λn h=>?_) λh=>h.elim;refine jR (C:=(VX (c6 K) (m+1) · cI σ)) (G:=λn=>Ex K sc (.Assign [.Tuple [n] k U] e p) σ cI) h (λid q h=>?_) λh=>h.elim;refine Tg (C:=(VX (c6 K) (m+1) · cI σ)) (G:=λe=>Ex K sc (.Assign [.Tuple [.Name id q] k U] e p) σ cI) h (λZ X s pos h=>?_) λh=>h.elim;refine kQ (C:=(VX (c6 K) (m+1) · cI σ)) (G:=λX=>Ex K sc (.Assign [.Tuple [.Name id q] k U] (.SetComp Z X s pos) p) σ cI) h (λg h=>?_) λh=>h.elim;obtain⟨t,it,S,a⟩:=g;refine nD h (λY h=>GC h λi T h=>GC h λis O h=>?_) λQ h=>h.elim;rw[cu,cu] at Y;rw[show a=0 from b3 Y.1.1,show S=[] from List.isEmpty_iff.mp Y.1.2];exact BJ W (W.nm T) O Y.2 h
theorem zO{F:Fc}{Y:aa aF}{e:aF}{G:Prop}(h:VX F n (JP x Y e) cI σ)(S:∀Z k q X V U,Y=[.Tuple Z k q]->e=.Tuple X V U->VX F n (MN x Z X) cI σ->G)(W:VX F n (Ca x Y e) cI σ->G):G:=kQ (C:=(VX F n · cI σ)) (G:=λl=>Y=l->G) h (λt h R=>E9 (C:=(VX F n · cI σ)) (G:=λu=>t=u->G) h (λZ k q h Q=>E9 (C:=(VX F n · cI σ)) (G:=λu=>e=u->G) h (λX V U h O=>S _ _ _ _ _ _ (R.trans (bu (λu=>[u]) Q)) O h) (λh T=>W h) rfl) (λh T=>W h) rfl) (λh T=>W h) rfl
theorem BK{e e':aF}{k:Sr}{G:aF->Prop}(h:MM x e=af (k,e'))(V:∀id p q,k=.enum->isType "enumerate" (kN x id)=aj->noStar e'=aj->G (.Call (.Name id p) [e'] [] q))(U:∀a W q,k=.keys->x.eq a "keys"=aj->baseOk e'=aj->(W.endLine==q.line)=aj->G (.Call (.Attribute e' a W) [] [] q)):G e:=by
 refine JL (C:=(·=af (k,e'))) (G:=G) h (λf X Z q h=>jR (C:=(·=af (k,e'))) (G:=λf=>G (.Call f X Z q)) h (λid p h=>?_) λh=>E_ (C:=(·=af (k,e'))) (G:=λf=>G (.Call f X Z q)) h (λo a W h=>?_) λh=>ns h) λh=>ns h;·refine kQ (C:=(·=af (k,e'))) (G:=λX=>G (.Call (.Name id p) X Z q)) h (λt h=>A3 (C:=(·=af (k,e'))) (G:=λZ=>G (.Call (.Name id p) [t] Z q)) h (λh=>l7 (C:=(·=af (k,e'))) h (λY h=>?_) λT h=>ns h) λh=>ns h) λh=>ns h;cases h;rw[cu] at Y;exact V _ _ _ rfl Y.1 Y.2
 ·refine A3 (C:=(·=af (k,e'))) (G:=λX=>G (.Call (.Attribute o a W) X Z q)) h (λh=>A3 (C:=(·=af (k,e'))) (G:=λZ=>G (.Call (.Attribute o a W) [] Z q)) h (λh=>l7 (C:=(·=af (k,e'))) h (λY h=>?_) λT h=>ns h) λh=>ns h) λh=>ns h;cases h;rw[cu,cu] at Y;exact U _ _ _ rfl Y.1.1 Y.1.2 Y.2
structure zP(K m:ah):Prop where
 x:∀{x:Cx}{sc:aU}{n:ah}{s:bH}{P:Fl->AS->Prop}{σ:AS},dF x sc->VX (c6 K) m (kS x n s) P σ->Ex K sc s σ P
 s:∀{x:Cx}{sc:aU}{n:ah}{l:aa bH}{P:Fl->AS->Prop}{σ:AS},dF x sc->VS (c6 K) m (l.map (kS x n)) P σ->nc K sc l σ P
theorem GI{t:DV->(AS->Prop)->AS->Prop}{b:(Fl->AS->Prop)->AS->Prop}{t':DV->(AS->Prop)->AS->Prop}{b':(Fl->AS->Prop)->AS->Prop}{V:AS->Prop}(T:∀x Q σ,t x Q σ->t' x Q σ)(S:∀Q σ,b Q σ->b' Q σ)(mt:∀x Q Q' σ,(∀σ,Q σ->Q' σ)->t' x Q σ->t' x Q' σ)(R:∀Q Q' σ,(∀f σ,Q f σ->Q' f σ)->b' Q σ->b' Q' σ):∀(xs:aa DV)(P:Fl->AS->Prop)(σ:AS),forL t b V xs P σ->forL t' b' V xs P σ:=by
 intro xs;induction xs with |nil=>exactλO O h=>h|cons x r U=>exactλP σ h=>mt _ _ _ _ (λW X=>R _ _ _ (λN Y Z=>by induction N using Fl.casesOn with|next=>exact⟨Z.1,U P Y Z.2⟩|cont=>exact⟨Z.1,U P Y Z.2⟩|brk=>exact Z|ret v=>exact Z) (S _ _ X)) (T _ _ _ h)
theorem Ex.pass{pos:a_}(h:cI .next σ):Ex K sc (.Pass pos) σ cI:=λw A Z Y s X r=>wpAny_Pass ((Way.refl r).pf (fl:=.next) trivial h)
theorem zP.zero:zP K 0:=⟨λZ h=>h.elim,λZ h=>h.elim⟩
theorem zP.succ(J:zP K m):zP K (m+1):=by
 refine⟨?_,?_⟩;·intro x sc n s P σ X h;induction n using cJ with |zero=>exact h.elim|succ n=>induction s using Stmt.casesOn with
   |Expr e p=>
    refine nD h (λV h=>?_) λV h=>nD h (λM h=>h.elim) λV h=>Ex.expr V ((snd K m).e X h);exact P9 (C:=(·=aj)) (G:=λe=>Ex K sc (.Expr e p) σ P) V (λc k q V=>P_ (C:=(·=aj)) (G:=λc=>Ex K sc (.Expr (.Constant c k q) p) σ P) V (λd M=>Ex.expr rfl (Ev.str h)) ft) ft|Assign B e p=>
    refine nD h (λV h=>zN X h) λV h=>zO h (λB k q es k' q' N e2 h=>?_) λh=>?_
    ·subst N e2;refine nD h (λR h=>?_) λR h=>nD h (λz h=>?_) λM h=>h.elim;·refine nD h (λhb h=>?_) λM h=>h.elim;refine GC h λis N h=>?_;have sp:=DL X N;have q3:=sp.2.2.1;have h:VL (c6 K) m (e_ (kE x 60) es) (λas Z=>as.length<=bw/\as.length=(is.map (·.2)).length/\P .next {Z with loc:=xO (is.map (·.2)).reverse as.reverse Z.loc}) σ:=h;exact Ex.Nu (names:=is.map (·.1)) (is:=is.map (·.2)) (λO y=>GG y R hb N sp) ((bB _).trans (bB _).symm) (λp hp=>q3 p (GD hp)) ((snd K m).l X h)
     ·exact Ex.Nt z (λO y=>GF (by rw[R];exact cS)) (((snd K m).l X h).mono λas Z W=>cL W λT S H=>⟨T,by simpa using S,(Lg K m).gs X H⟩)
    ·refine nD h (λz h=>?_) λM h=>h.elim;rw[cu] at z;exact Ex.QV z.1 (λO=>by induction B using aO with |nil=>rfl|cons t l=>induction l using aO with |nil=>exact GB V _ _ _|cons=>rfl) (λO M=>BG z.2 O) (((snd K m).e X h).mono λa Z Y=>Rf X Y)|Return v p=>induction v using c9 with
    |none=>induction m using cJ with|zero=>exact h.elim|succ m=>exactλw A O ρ s hA r=>wpAny_Return_none ((Way.refl r).pf (fl:=.ret (.d .none)) rfl h)
    |some e=>exact Ex.ret ((snd K m).e X h)
   |If t b o p=>exact Ex.if (((snd K m).t X h).mono λc Z Y=>⟨λq=>J.s X (Y.1 q),λq=>J.s X (Y.2 q)⟩)|While t b o p=>
    refine A3 (C:=(VX (c6 K) (m+1) · P σ)) (G:=λo=>Ex K sc (.While t b o p) σ P) h (λh=>?_) λh=>h.elim;refine cz h λI k h0 ht=>?_;refine Ex.while I (λk Z hI=>((snd K m).t X (ht k Z hI)).mono λc F U=>⟨λq=>(J.s X (U.1 q)).mono λfl σ₃ u=>by cases fl<;>exact u,U.2⟩) k h0|For t e b o p=>
    have conv:∀{j:AS->Prop}{L:aa DV}{σ:AS},forL (λE=>VG (c6 K) m (kT (kE x 60) x 10 t) (AV.d E)) (VS (c6 K) m (e_ (kS x n) b)) j L P σ->forL (λd Q σ=>As K sc t (.d d) σ Q) (λQ σ=>nc K sc b σ Q) j L P σ:=λh=>GI (t:=λE=>VG (c6 K) m (kT (kE x 60) x 10 t) (AV.d E)) (t':=λd Q σ=>As K sc t (.d d) σ Q) (b:=VS (c6 K) m (e_ (kS x n) b)) (b':=λQ σ=>nc K sc b σ Q) (λd Q σ h=>(Lg K m).g X h) (λQ σ h=>J.s X h) (λd Q Q' σ hm h=>As.mono h hm) (λQ Q' σ hm h=>nc.mono h hm) _ _ _ h;refine A3 (C:=(VX (c6 K) (m+1) · P σ)) (G:=λo=>Ex K sc (.For t e b o p) σ P) h (λh=>?_) λh=>h.elim;refine oE (C:=(VX (c6 K) (m+1) · P σ)) h (λq eq h=>nD h (λhen h=>?_) λM h=>h.elim) λM h=>?_
    ·refine BK (k:=q.1) (e':=q.2) (G:=λe=>Ex K sc (.For t e b [] p) σ P) eq (λid p' r N T S=>?_) λa ap r N T S H=>?_;·rw[N] at h hen;refine PB (KQ hen) λelts kk pt et=>?_;rw[et] at conv h ⊢;exact Ex.IY (vP X (gJ T) σ) S (((snd K m).e X h).mono λa Z W=>aQ W λL T S=>aP L T (conv S))
     ·rw[N] at h;rw[(X.eq _ _).mp T];exact Ex.IZ S H (((snd K m).e X h).mono λa Z W=>uF W λk l ob T S H=>EI k l ob T S (conv H))
    ·cases q:xM e with |true=>exact Ex.ND (((snd K m).e X h).mono λa Z Y=>Y.imp (λD=>aQ D λL T S=>aP L T (conv S)) λD=>uF D λk l ob T S H=>EI k l ob T S (λL hp=>conv (H L hp))) (nW q)|false=>induction e using fQ with |Set es k=>exact CF (show VE (c6 K) m .bad _ σ from h)|_=>exact tf q
   |Break p=>exact Ex.break h|Continue p=>exact Ex.continue h|Pass p=>exact Ex.pass h|AugAssign t op e p=>exact jR (C:=(VX (c6 K) (m+1) · P σ)) (G:=λt=>Ex K sc (.AugAssign t op e p) σ P) h (λid q h=>GC h λi N h=>I2 h λa hl h=>Ex.aug (X.nm N) hl ((snd K m).e X h)) λh=>h.elim|Try b y o f p=>
    refine nD h (λV k=>?_) λM h=>h.elim;rw[cu,cu] at V;rw[List.isEmpty_iff.mp V.2,List.isEmpty_iff.mp V.1.2];induction y using aO with |nil=>exact ft V.1.1|cons h0 y=>exact Ex.try (J.s X k)
   |Delete B p=>exact kQ (C:=(VX (c6 K) (m+1) · P σ)) (G:=λB=>Ex K sc (.Delete B p) σ P) h (λt h=>MH (C:=(VX (c6 K) (m+1) · P σ)) (G:=λt=>Ex K sc (.Delete [t] p) σ P) h (λo i q h=>Ex.del (((snd K m).e (x:=x) (n:=60) X h).mono λa Z Y=>((snd K m).e (x:=x) (n:=60) X Y).mono λb F U=>U)) λh=>h.elim) λh=>h.elim|_=>exact h.elim
 ·intro x sc n l P σ X h;induction l using aO with|nil=>exact nc.nil h|cons s r=>exact nc.cons ((J.x X h).mono λfl Z Y=>by induction fl using Fl.casesOn with|next=>exact J.s X Y|_=>exact Y)
end
noncomputable def P0:ez:={strHash:=λZ=>0,shareClass:=λZ=>0,mergeTok:=λt=>t,idOf:=λZ=>0,idOfShared:=λZ Z=>0,followText:=λZ=>aj,idOfImm:=λZ=>0}
noncomputable def mq(f:az):kA:=match (Hf P0).get? f with|some o=>(match o.data with|.func Z=>Z|_=>default)|none=>default
noncomputable def Sx(f:az):aR:=⟨.type "function",none,.func (mq f),#[]⟩
theorem codeRec_of{h:aM}{Z:ao}{q:ai}(c:ah)(o:aR)(vs:aK ao)(t:Tok)(Y:Z=.ref c)(X:h.get? c=af o)(W:o.data=.fields vs)(V:vs[1]?=af (.str q t)):h.CodeRec Z q:=qF c o vs t Y X W V
noncomputable def Li(o:aR):aK ao:=match o.data with|.fields Z=>Z|_=>#[]
noncomputable def Lj(P:ez)(c:ah):aR:=((Hf P).get? c).getD default
noncomputable def tokOf:aA ao->Tok |some (.str _ t)=>t|_=>0
noncomputable def refOf:ao->ah|.ref a=>a|_=>0
noncomputable def J8(f:az):ah:=refOf (mq f).code
noncomputable def yj(f:az):aU:=(mq f).scope
noncomputable def Rh(f:az):Cx:={eq:=sEq,names:=(yj f).names,glob:=globT,mu:=[240,356,357,369,435,568,655,670],sd:=[238]}
structure fL(f:az)(np n:ah)(c:aa IS):Prop where
 fn:∃body,FnAt f (mq f) body (yj f)/\body.map (kS (Rh f) 60)=c
 len:(yj f).names.length=n
 le:np<=n
 Sy:(yj f).names.take np=((yj f).names.take np).map λp=>(p.1,NameKind.local)
structure iw(f:az)(k np:ah)(dv:aa ao)(da:aa AV):Prop where
 bind:∀(w:aG)(s:ay)(vs:aa ao),vs.length=k->k6 w s.heap->BindsTo s (mq f) ⟨vs,[]⟩ (((yj f).names.take np).map (·.1)|>.zip (vs++dv))hda:∀(h:aM)(ρ:aa az),jQ h ρ da dv
 len:k+da.length=np
noncomputable def Sz{α:Type}:Sem α->aR->Sem α |.load _ _ k=>k|_=>λZ=>.unsupported ""
theorem iw.plain{f:az}{Z:ah}(h:∀vs:aa ao,vs.length=Z->iM (mq f) ⟨vs,[]⟩=aX (((yj f).names.take Z).map (·.1)|>.zip vs)):iw f Z Z [] []:=⟨λw s vs Y W=>by rw[bY];exact BindsTo.of_eq (h vs Y),λX X=>rfl,rfl⟩
theorem iw.dflt{f T:az}{s:ay}{w:aG}{args:Args}{Z:aa (ai×ao)}(V:k6 w s.heap)(U:(Hf w.params).get? T=af (Lj w.params T))(Y:iM (mq f) args=(load T>>=Sz (iM (mq f) args)))(X:Sz (iM (mq f) args) (Lj w.params T)=aX Z):BindsTo s (mq f) args Z:=λW W W W S=>by
 rw[Y];exact au (lJ (V _ _ U) (X▸aD S))
theorem fL.of{f:az}{Z n:ah}{c:aa IS}(b:aa bH)(h:∀w:aG,((Hf w.params).get? f,(Hf w.params).get? (J8 f),(Lj w.params (J8 f)).data,(Li (Lj w.params (J8 f)))[1]?)=(af (Sx f),af (Lj w.params (J8 f)),.fields (Li (Lj w.params (J8 f))),af (.str (mq f).qualname (tokOf (Li (Lj w.params (J8 f)))[1]?))))(h':((mq f).body,(mq f).globals,(mq f).builtins,(mq f).closure,A4 sEq ((yj f).names.map (·.1)),(mq f).code,(yj f).isCoroutine,(yj f).isGenerator,(yj f).kind,b.map (kS (Rh f) 60),(yj f).names.length,(yj f).names.take Z)=(.stmts b,kr,oU,[],aj,.ref (J8 f),aC,aC,.function,c,n,((yj f).names.take Z).map λp=>(p.1,NameKind.local)))(U:Z<=n):fL f Z n c:=by
 simp only[kq] at h h';refine Mf h' λT S R Q P O N Y=>ED Y λY M X W V=>?_;exact⟨aP b ⟨λw=>aP (Sx f) (h w).1 rfl,T,rfl,N,Y,M,S,R,Q,rq (x:=⟨sEq,[],[],[],[]⟩) sEq_iff P,λw=>codeRec_of (J8 f) _ _ _ O (h w).2.1 (h w).2.2.1 (h w).2.2.2⟩ X,W,U,V⟩
@[elab_as_elim]theorem len0{α:Type}{C:aa α->Prop}(vs:aa α)(h:vs.length=0)(k:C []):C vs:=List.length_eq_zero_iff.mp h▸k
@[elab_as_elim]theorem iV{α:Type}{C:aa α->Prop}{n:ah}(vs:aa α)(h:vs.length=n+1)(k:∀a r,r.length=n->C (a::r)):C vs:=by induction vs using aO with|nil=>exact nomatch h|cons a r=>exact k a r (wU h)
theorem pK{fd:kA}{l:aa ai}(h:∀a,iM fd ⟨[a],[]⟩=aX (l.zip [a])):∀vs:aa ao,vs.length=1->iM fd ⟨vs,[]⟩=aX (l.zip vs):=λvs q=>iV vs q λa r q=>len0 r q (h a)
theorem DN{fd:kA}{l:aa ai}(h:∀a b,iM fd ⟨[a,b],[]⟩=aX (l.zip [a,b])):∀vs:aa ao,vs.length=2->iM fd ⟨vs,[]⟩=aX (l.zip vs):=λvs q=>iV vs q λa r q=>iV r q λb r q=>len0 r q (h a b)
theorem NN{fd:kA}{l:aa ai}(h:∀a b c,iM fd ⟨[a,b,c],[]⟩=aX (l.zip [a,b,c])):∀vs:aa ao,vs.length=3->iM fd ⟨vs,[]⟩=aX (l.zip vs):=λvs q=>iV vs q λa r q=>iV r q λb r q=>iV r q λc r q=>len0 r q (h a b c)
theorem Ri{fd:kA}{l:aa ai}(h:∀a b c d,iM fd ⟨[a,b,c,d],[]⟩=aX (l.zip [a,b,c,d])):∀vs:aa ao,vs.length=4->iM fd ⟨vs,[]⟩=aX (l.zip vs):=λvs q=>iV vs q λa r q=>iV r q λb r q=>iV r q λc r q=>iV r q λd r q=>len0 r q (h a b c d)
noncomputable def T6:aa IS:=[.pass,.ret (.C4 [(.loc 0),(.tup [(.loc 1),(.loc 2),(.loc 3)])])]
theorem Rj:fL 82 4 5 T6:=.of (ck (jP (tS 3) 4)) (λw=>by kernel_rfl!) (by kernel_rfl!) (by decide)
theorem Rk:iw 82 4 4 [] []:=iw.plain (Ri (λa b c d=>by kernel_rfl!))
noncomputable def T7:aa IS:=[.pass,.asg [(.loc 2)] (.C4 [(.loc 0),(.loc 1)]),.gU (.cmp .NotEq (.call (.bR (.builtin "len")) [(.loc 2)]) (.k (.int 3))) [.bad] [],.ret (.loc 2)]
theorem Rm:fL 89 2 6 T7:=.of (ck (jP (tS 3) 5)) (λw=>by kernel_rfl!) (by kernel_rfl!) (by decide)
theorem Rn:iw 89 2 2 [] []:=iw.plain (DN (λa b=>by kernel_rfl!))
noncomputable def Ro:aa IS:=[.pass,.asg [(.lB (.loc 0) 0)] (.loc 1),.asg [(.lB (.loc 0) 1),(.lB (.loc 0) 2)] (.k .none),.asg [(.lB (.loc 0) 3)] (.loc 4),.ex (.met (.loc 0) (.user 167) [(.loc 2),(.loc 3)])]
theorem NO:fL 160 5 5 Ro:=.of (ck (jP (tS 5) 1)) (λw=>by kernel_rfl!) (by kernel_rfl!) (by decide)
noncomputable def Rp:aa IS:=[.pass,.ex (.met (.loc 0) (.user 174) [(.loc 1)]),.ex (.met (.loc 0) (.user 181) [(.loc 2)])]
theorem NP:fL 167 3 3 Rp:=.of (ck (jP (tS 5) 2)) (λw=>by kernel_rfl!) (by kernel_rfl!) (by decide)
theorem NQ:iw 167 3 3 [] []:=iw.plain (NN (λa b c=>by kernel_rfl!))
noncomputable def Rq:aa IS:=[.pass,.gU (.cmp .Is (.loc 1) (.lB (.loc 0) 1)) [.ret (.k .none)] [],.asg [(.lB (.loc 0) 1)] (.loc 1),.asg [(.lB (.loc 0) 4),(.lB (.loc 0) 5)] (.k .none)]
theorem NR:fL 174 2 2 Rq:=.of (ck (jP (tS 5) 3)) (λw=>by kernel_rfl!) (by kernel_rfl!) (by decide)
theorem NS:iw 174 2 2 [] []:=iw.plain (DN (λa b=>by kernel_rfl!))
noncomputable def Rt:aa IS:=[.pass,.gU (.cmp .Is (.loc 1) (.lB (.loc 0) 2)) [.ret (.k .none)] [],.asg [(.lB (.loc 0) 2)] (.loc 1),.asg [(.lB (.loc 0) 4),(.lB (.loc 0) 5)] (.k .none),.asg [(.lB (.loc 0) 6)] (.k .none),.ex (.met (.loc 0) (.user 188) [])]
theorem NT:fL 181 2 2 Rt:=.of (ck (jP (tS 5) 4)) (λw=>by kernel_rfl!) (by kernel_rfl!) (by decide)
theorem NU:iw 181 2 2 [] []:=iw.plain (DN (λa b=>by kernel_rfl!))
noncomputable def Ru:aa IS:=[.asg [(.loc 1)] (.lB (.loc 0) 2),.asg [(.lB (.loc 0) 7),(.loc 2)] (.dct aj),.fr .enum (.tup [(.loc 3),(.loc 4)]) (.loc 1) [.asg [(.loc 5)] (.met (.loc 2) .setdefault [(.loc 4),(.lst aj [])]),.ex (.met (.loc 5) .append [(.loc 3)])],.asg [(.lB (.loc 0) 8),(.loc 6)] (.call (.bR (.type "set")) []),.asg [(.loc 7)] (.lB (.loc 0) 0),.gU (.loc 7) [.fr .keys (.loc 4) (.loc 2) [.gU (.call (.loc 7) [(.loc 4)]) [.ex (.met (.loc 6) .add [(.loc 4)])] []],.fr .plain (.loc 4) (.loc 6) [.del (.loc 2) (.loc 4)]] [],.asg [(.lB (.loc 0) 9),(.loc 8)] (.call (.bR (.type "set")) []),.asg [(.loc 9)] (.call (.bR (.builtin "len")) [(.loc 1)]),.gU (.bo .And [(.lB (.loc 0) 3),(.cmp .GtE (.loc 9) (.k (.int 200)))]) [.asg [(.loc 10)] (.bin .Add (.bin .FloorDiv (.loc 9) (.k (.int 100))) (.k (.int 1))),.fr .plain (.tup [(.loc 4),(.loc 11)]) .bad [.gU (.cmp .Gt (.call (.bR (.builtin "len")) [(.loc 11)]) (.loc 10)) [.ex (.met (.loc 8) .add [(.loc 4)])] []],.fr .plain (.loc 4) (.loc 8) [.del (.loc 2) (.loc 4)]] []]
theorem NV:fL 188 1 15 Ru:=.of (ck (jP (tS 5) 5)) (λw=>by kernel_rfl!) (by kernel_rfl!) (by decide)
theorem NW:iw 188 1 1 [] []:=iw.plain (pK (λa=>by kernel_rfl!))
noncomputable def Rv:aa IS:=[.pass,.P8 [(.loc 5),(.loc 6),(.loc 7),(.loc 8)] [(.lB (.loc 0) 1),(.lB (.loc 0) 2),(.lB (.loc 0) 7),(.bnd (.lB (.loc 0) 8) .contains)],.gU (.cmp .Is (.loc 2) (.k .none)) [.asg [(.loc 2)] (.call (.bR (.builtin "len")) [(.loc 5)])] [],.gU (.cmp .Is (.loc 4) (.k .none)) [.asg [(.loc 4)] (.call (.bR (.builtin "len")) [(.loc 6)])] [],.Ek [9,10,11] [(.loc 1),(.loc 3),(.k (.int 0))],.asg [(.loc 12)] (.dct aC),.asg [(.loc 13)] (.lst aC []),.fr .plain (.loc 14) (.call (.bR (.type "range")) [(.loc 1),(.loc 2)]) [.asg [(.loc 15)] (.bnd (.loc 12) .get),.asg [(.loc 16)] (.dct aC),.fr .plain (.loc 17) (.met (.loc 7) .get [(.sub (.loc 5) (.loc 14)),(.loc 13)]) [.gU (.cmp .Lt (.loc 17) (.loc 3)) [.cont] [],.gU (.cmp .GtE (.loc 17) (.loc 4)) [.brk] [],.asg [(.loc 18),(.sub (.loc 16) (.loc 17))] (.bin .Add (.call (.loc 15) [(.bin .Sub (.loc 17) (.k (.int 1))),(.k (.int 0))]) (.k (.int 1))),.gU (.cmp .Gt (.loc 18) (.loc 11)) [.Ek [9,10,11] [(.bin .Add (.bin .Sub (.loc 14) (.loc 18)) (.k (.int 1))),(.bin .Add (.bin .Sub (.loc 17) (.loc 18)) (.k (.int 1))),(.loc 18)]] []],.asg [(.loc 12)] (.loc 16)],.vq (.bo .And [(.cmp .Gt (.loc 9) (.loc 1)),(.cmp .Gt (.loc 10) (.loc 3)),(.not (.call (.loc 8) [(.sub (.loc 6) (.bin .Sub (.loc 10) (.k (.int 1))))])),(.cmp .Eq (.sub (.loc 5) (.bin .Sub (.loc 9) (.k (.int 1)))) (.sub (.loc 6) (.bin .Sub (.loc 10) (.k (.int 1)))))]) [.Ek [9,10,11] [(.bin .Sub (.loc 9) (.k (.int 1))),(.bin .Sub (.loc 10) (.k (.int 1))),(.bin .Add (.loc 11) (.k (.int 1)))]],.vq (.bo .And [(.cmp .Lt (.bin .Add (.loc 9) (.loc 11)) (.loc 2)),(.cmp .Lt (.bin .Add (.loc 10) (.loc 11)) (.loc 4)),(.not (.call (.loc 8) [(.sub (.loc 6) (.bin .Add (.loc 10) (.loc 11)))])),(.cmp .Eq (.sub (.loc 5) (.bin .Add (.loc 9) (.loc 11))) (.sub (.loc 6) (.bin .Add (.loc 10) (.loc 11))))]) [.aug 11 .Add (.k (.int 1))],.vq (.bo .And [(.cmp .Gt (.loc 9) (.loc 1)),(.cmp .Gt (.loc 10) (.loc 3)),(.call (.loc 8) [(.sub (.loc 6) (.bin .Sub (.loc 10) (.k (.int 1))))]),(.cmp .Eq (.sub (.loc 5) (.bin .Sub (.loc 9) (.k (.int 1)))) (.sub (.loc 6) (.bin .Sub (.loc 10) (.k (.int 1)))))]) [.Ek [9,10,11] [(.bin .Sub (.loc 9) (.k (.int 1))),(.bin .Sub (.loc 10) (.k (.int 1))),(.bin .Add (.loc 11) (.k (.int 1)))]],.vq (.bo .And [(.cmp .Lt (.bin .Add (.loc 9) (.loc 11)) (.loc 2)),(.cmp .Lt (.bin .Add (.loc 10) (.loc 11)) (.loc 4)),(.call (.loc 8) [(.sub (.loc 6) (.bin .Add (.loc 10) (.loc 11)))]),(.cmp .Eq (.sub (.loc 5) (.bin .Add (.loc 9) (.loc 11))) (.sub (.loc 6) (.bin .Add (.loc 10) (.loc 11))))]) [.asg [(.loc 11)] (.bin .Add (.loc 11) (.k (.int 1)))],.ret (.call (.bR (.ref 135)) [(.loc 9),(.loc 10),(.loc 11)])]
theorem NX:fL 196 5 22 Rv:=.of (ck (jP (tS 5) 6)) (λw=>by kernel_rfl!) (by kernel_rfl!) (by decide)
noncomputable def Rw:aa IS:=[.pass,.gU (.cmp .IsNot (.lB (.loc 0) 4) (.k .none)) [.ret (.lB (.loc 0) 4)] [],.Ek [1,2] [(.call (.bR (.builtin "len")) [(.lB (.loc 0) 1)]),(.call (.bR (.builtin "len")) [(.lB (.loc 0) 2)])],.asg [(.loc 3)] (.lst aj [(.tup [(.k (.int 0)),(.loc 1),(.k (.int 0)),(.loc 2)])]),.asg [(.loc 4)] (.lst aj []),.vq (.loc 3) [.asg [(.tup [(.loc 5),(.loc 6),(.loc 7),(.loc 8)])] (.met (.loc 3) .pop []),.asg [(.tup [(.loc 9),(.loc 10),(.loc 11)]),(.loc 12)] (.met (.loc 0) (.user 196) [(.loc 5),(.loc 6),(.loc 7),(.loc 8)]),.gU (.loc 11) [.ex (.met (.loc 4) .append [(.loc 12)]),.gU (.bo .And [(.cmp .Lt (.loc 5) (.loc 9)),(.cmp .Lt (.loc 7) (.loc 10))]) [.ex (.met (.loc 3) .append [(.tup [(.loc 5),(.loc 9),(.loc 7),(.loc 10)])])] [],.gU (.bo .And [(.cmp .Lt (.bin .Add (.loc 9) (.loc 11)) (.loc 6)),(.cmp .Lt (.bin .Add (.loc 10) (.loc 11)) (.loc 8))]) [.ex (.met (.loc 3) .append [(.tup [(.bin .Add (.loc 9) (.loc 11)),(.loc 6),(.bin .Add (.loc 10) (.loc 11)),(.loc 8)])])] []] []],.ex (.met (.loc 4) .sort []),.asg [(.loc 13),(.loc 14),(.loc 15)] (.k (.int 0)),.asg [(.loc 16)] (.lst aj []),.fr .plain (.tup [(.loc 17),(.loc 18),(.loc 19)]) (.loc 4) [.gU (.bo .And [(.cmp .Eq (.bin .Add (.loc 13) (.loc 15)) (.loc 17)),(.cmp .Eq (.bin .Add (.loc 14) (.loc 15)) (.loc 18))]) [.aug 15 .Add (.loc 19)] [.gU (.loc 15) [.ex (.met (.loc 16) .append [(.tup [(.loc 13),(.loc 14),(.loc 15)])])] [],.Ek [13,14,15] [(.loc 17),(.loc 18),(.loc 19)]]],.gU (.loc 15) [.ex (.met (.loc 16) .append [(.tup [(.loc 13),(.loc 14),(.loc 15)])])] [],.ex (.met (.loc 16) .append [(.tup [(.loc 1),(.loc 2),(.k (.int 0))])]),.asg [(.lB (.loc 0) 4)] (.s9 aj .pQ (.loc 16)),.ret (.lB (.loc 0) 4)]
theorem NY:fL 203 1 24 Rw:=.of (ck (jP (tS 5) 7)) (λw=>by kernel_rfl!) (by kernel_rfl!) (by decide)
theorem NZ:iw 203 1 1 [] []:=iw.plain (pK (λa=>by kernel_rfl!))
noncomputable def Rx:aa IS:=[.asg [(.loc 1)] (.call (.bR (.type "type")) [(.loc 0)]),.gU (.cmp .Is (.loc 1) (.bR (.type "bytes"))) [.ret (.loc 0)] [],.gU (.cmp .Is (.loc 1) (.bR (.type "bytearray"))) [.ret (.call (.bR (.type "bytes")) [(.loc 0)])] [],.ex (.call .bad [(.k (.int 6))])]
theorem N1:fL 253 1 6 Rx:=.of (ck (tS 7)) (λw=>by kernel_rfl!) (by kernel_rfl!) (by decide)
theorem N2:iw 253 1 1 [] []:=iw.plain (pK (λa=>by kernel_rfl!))
noncomputable def Ry:aa IS:=[.asg [(.loc 1)] (.call (.bR (.type "type")) [(.loc 0)]),.gU (.bo .Or [(.cmp .Is (.loc 0) (.k .none)),(.cmp .Is (.loc 1) (.bR (.type "bool"))),(.cmp .Is (.loc 1) (.bR (.type "int"))),(.cmp .Is (.loc 1) (.bR (.type "float"))),(.cmp .Is (.loc 1) (.bR (.type "complex"))),(.cmp .Is (.loc 1) (.bR (.type "str"))),(.cmp .Is (.loc 1) (.bR (.type "bytes"))),(.cmp .Is (.loc 1) (.bR (.type "bytearray"))),(.cmp .Is (.loc 1) (.bR (.type "list"))),(.cmp .Is (.loc 1) (.bR (.type "tuple"))),(.cmp .Is (.loc 1) (.bR (.type "dict"))),(.cmp .Is (.loc 1) (.bR (.type "set"))),(.cmp .Is (.loc 1) (.bR (.type "frozenset"))),(.cmp .Is (.loc 1) (.bR (.type "range")))]) [.ret (.ite (.loc 0) (.k (.bool aj)) (.k (.bool aC)))] [],.ex (.call .bad [(.k (.int 7))])]
theorem N3:fL 260 1 17 Ry:=.of (ck (tS 8)) (λw=>by kernel_rfl!) (by kernel_rfl!) (by decide)
theorem N4:iw 260 1 1 [] []:=iw.plain (pK (λa=>by kernel_rfl!))
noncomputable def Rz:aa IS:=[.asg [(.loc 2)] (.call (.bR (.ref 253)) [(.loc 0)]),.asg [(.loc 1)] (.call (.bR (.ref 260)) [(.loc 1)]),.asg [(.loc 3)] (.lst aj []),.asg [(.loc 4)] (.k (.int 0)),.asg [(.loc 5)] (.k (.int 0)),.fr .plain (.loc 6) (.loc 2) [.asg [(.loc 5)] (.bin .BitAnd (.bin .BitOr (.bin .LShift (.loc 5) (.k (.int 8))) (.loc 6)) (.k (.int 65535))),.asg [(.loc 4)] (.bin .Add (.loc 4) (.k (.int 8))),.vq (.cmp .GtE (.loc 4) (.k (.int 6))) [.ex (.met (.loc 3) .append [(.sub (.bR (.bytes ⟨jS⟩ 593)) (.bin .BitAnd (.bin .RShift (.loc 5) (.bin .Sub (.loc 4) (.k (.int 6)))) (.k (.int 63))))]),.asg [(.loc 4)] (.bin .Sub (.loc 4) (.k (.int 6)))]],.gU (.cmp .Eq (.loc 4) (.k (.int 2))) [.ex (.met (.loc 3) .append [(.sub (.bR (.bytes ⟨jS⟩ 593)) (.bin .LShift (.bin .BitAnd (.loc 5) (.k (.int 3))) (.k (.int 4))))]),.ex (.met (.loc 3) .append [(.k (.int 61))]),.ex (.met (.loc 3) .append [(.k (.int 61))])] [.gU (.cmp .Eq (.loc 4) (.k (.int 4))) [.ex (.met (.loc 3) .append [(.sub (.bR (.bytes ⟨jS⟩ 593)) (.bin .LShift (.bin .BitAnd (.loc 5) (.k (.int 15))) (.k (.int 2))))]),.ex (.met (.loc 3) .append [(.k (.int 61))])] []],.gU (.loc 1) [.ex (.met (.loc 3) .append [(.k (.int 10))])] [],.ret (.call (.bR (.type "bytes")) [(.loc 3)])]
theorem N5:fL 268 2 11 Rz:=.of (ck (tS 10)) (λw=>by kernel_rfl!) (by kernel_rfl!) (by decide)
noncomputable def RB:aa IS:=[.pass,.asg [(.loc 2)] (.KP (.bR (.ref 268)) [(.loc 0)] (.k (.bool aC))),.gU (.cmp .IsNot (.loc 1) (.k .none)) [.bad,.ret (.met (.loc 2) .translate [.bad])] [],.ret (.loc 2)]
theorem N6:fL 276 2 7 RB:=.of (ck (tS 12)) (λw=>by kernel_rfl!) (by kernel_rfl!) (by decide)
noncomputable def RC:aa IS:=[.pass,.ret (.met (.call (.bR (.ref 276)) [(.loc 0)]) .translate [(.bR (.bytes ⟨kR⟩ 624))])]
theorem N7:fL 283 1 3 RC:=.of (ck (tS 14)) (λw=>by kernel_rfl!) (by kernel_rfl!) (by decide)
theorem N8:iw 283 1 1 [] []:=iw.plain (pK (λa=>by kernel_rfl!))
noncomputable def RD:aa IS:=[.asg [(.loc 1)] (.call (.bR (.type "type")) [(.loc 0)]),.gU (.call (.bR (.builtin "issubclass")) [(.loc 1),(.tup [(.bR (.type "str")),(.bR (.type "bytes"))])]) [.ret (.loc 0)] [],.ex (.call .bad [(.loc 1)]),.asg [(.loc 2)] (.call .bad [(.loc 1),(.k (.str "__fspath__")),(.k .none)]),.gU (.cmp .Is (.loc 2) (.k .none)) [.bad] [],.gU (.cmp .IsNot (.call (.bR (.type "type")) [(.loc 2)]) (.call (.bR (.type "type")) [.bad])) [.ex (.call .bad [(.k (.int 13))])] [],.asg [(.loc 3)] (.call (.loc 2) [(.loc 0)]),.gU (.call (.bR (.builtin "issubclass")) [(.call (.bR (.type "type")) [(.loc 3)]),(.tup [(.bR (.type "str")),(.bR (.type "bytes"))])]) [.ret (.loc 3)] [],.gU (.cmp .Gt (.call (.bR (.builtin "len")) [.bad]) (.k (.int 200))) [.ex (.call .bad [(.k (.int 14))])] [],.bad]
theorem N9:fL 356 1 14 RD:=.of (ck (tS 23)) (λw=>by kernel_rfl!) (by kernel_rfl!) (by decide)
theorem N_:iw 356 1 1 [] []:=iw.plain (pK (λa=>by kernel_rfl!))
noncomputable def RE:aa IS:=[.pass,.asg [(.loc 0)] (.call (.bR (.ref 356)) [(.loc 0)]),.gU (.call (.bR (.builtin "isinstance")) [(.loc 0),(.bR (.type "bytes"))]) [.asg [(.loc 1)] (.k (.bytes ⟨[47]⟩)),.asg [(.loc 2)] (.k (.bytes ⟨[]⟩))] [.asg [(.loc 1)] (.k (.str "/")),.asg [(.loc 2)] (.k (.str ""))],.gU (.cmp .NotEq (.slc (.loc 0) none (af (.k (.int 1))) none) (.loc 1)) [.ret (.tup [(.loc 2),(.loc 2),(.loc 0)])] [.gU (.bo .Or [(.cmp .NotEq (.slc (.loc 0) (af (.k (.int 1))) (af (.k (.int 2))) none) (.loc 1)),(.cmp .Eq (.slc (.loc 0) (af (.k (.int 2))) (af (.k (.int 3))) none) (.loc 1))]) [.ret (.tup [(.loc 2),(.loc 1),(.slc (.loc 0) (af (.k (.int 1))) none none)])] [.ret (.tup [(.loc 2),(.slc (.loc 0) none (af (.k (.int 2))) none),(.slc (.loc 0) (af (.k (.int 2))) none none)])]]]
theorem Oa:fL 370 1 6 RE:=.of (ck (tS 27)) (λw=>by kernel_rfl!) (by kernel_rfl!) (by decide)
theorem Ob:iw 370 1 1 [] []:=iw.plain (pK (λa=>by kernel_rfl!))
noncomputable def RG:aa IS:=[.pass,.asg [(.loc 0)] (.call (.bR (.ref 356)) [(.loc 0)]),.gU (.call (.bR (.builtin "isinstance")) [(.loc 0),(.bR (.type "bytes"))]) [.asg [(.loc 1)] (.k (.bytes ⟨[47]⟩)),.asg [(.loc 2)] (.k (.bytes ⟨[46]⟩)),.asg [(.loc 3)] (.k (.bytes ⟨[46,46]⟩))] [.asg [(.loc 1)] (.k (.str "/")),.asg [(.loc 2)] (.k (.str ".")),.asg [(.loc 3)] (.k (.str ".."))],.gU (.not (.loc 0)) [.ret (.loc 2)] [],.asg [(.tup [(.loc 4),(.loc 5),(.loc 0)])] (.call (.bR (.ref 370)) [(.loc 0)]),.asg [(.loc 6)] (.met (.loc 0) .split [(.loc 1)]),.asg [(.loc 7)] (.lst aj []),.fr .plain (.loc 8) (.loc 6) [.gU (.bo .Or [(.not (.loc 8)),(.cmp .Eq (.loc 8) (.loc 2))]) [.cont] [],.gU (.bo .Or [(.cmp .NotEq (.loc 8) (.loc 3)),(.bo .And [(.not (.loc 5)),(.not (.loc 7))]),(.bo .And [(.loc 7),(.cmp .Eq (.sub (.loc 7) (.neg (.k (.int 1)))) (.loc 3))])]) [.ex (.met (.loc 7) .append [(.loc 8)])] [.gU (.loc 7) [.ex (.met (.loc 7) .pop [])] []]],.asg [(.loc 6)] (.loc 7),.asg [(.loc 0)] (.bin .Add (.loc 5) (.met (.loc 1) .join [(.loc 6)])),.ret (.bo .Or [(.loc 0),(.loc 2)])]
theorem Oc:fL 377 1 13 RG:=.of (ck (tS 28)) (λw=>by kernel_rfl!) (by kernel_rfl!) (by decide)
theorem Od:iw 377 1 1 [] []:=iw.plain (pK (λa=>by kernel_rfl!))
noncomputable def RH:aa IS:=[.pass,.asg [(.loc 0)] (.s9 aC (.bR (.ref 356)) (.loc 0)),.gU (.not (.loc 0)) [.bad] [],.gU (.call (.bR (.builtin "isinstance")) [(.sub (.loc 0) (.k (.int 0))),(.bR (.type "bytes"))]) [.asg [(.ji 1)] (.k (.bytes ⟨[47]⟩)),.asg [(.ji 2)] (.k (.bytes ⟨[46]⟩))] [.asg [(.ji 1)] (.k (.str "/")),.asg [(.ji 2)] (.k (.str "."))],.try [.asg [(.loc 3)] (.comp aC 3 [(2,1)] [1] (.met (.loc 1) .split [(.ji 2)]) (.loc 0) []),.try [.C5 4 3 [(2,1)] [1] (.met (.loc 1) .startswith [(.ji 2)]) (.loc 0)],.asg [(.loc 3)] (.comp aC 3 [(2,2)] [1] (.comp aC 3 [(2,2)] [1] (.loc 1) (.loc 1) [(.bo .And [(.loc 1),(.cmp .NotEq (.loc 1) (.ji 2))])]) (.loc 3) []),.asg [(.loc 6)] (.call (.bR (.builtin "min")) [(.loc 3)]),.asg [(.loc 7)] (.call (.bR (.builtin "max")) [(.loc 3)]),.asg [(.loc 8)] (.loc 6),.fr .enum (.tup [(.loc 9),(.loc 5)]) (.loc 6) [.gU (.cmp .NotEq (.loc 5) (.sub (.loc 7) (.loc 9))) [.asg [(.loc 8)] (.slc (.loc 6) none (af (.loc 9)) none),.brk] []],.asg [(.loc 10)] (.ite (.loc 4) (.ji 1) (.slc (.ji 1) none (af (.k (.int 0))) none)),.ret (.bin .Add (.loc 10) (.met (.ji 1) .join [(.loc 8)]))]]
theorem Oe:fL 382 1 23 RH:=.of (ck (tS 29)) (λw=>by kernel_rfl!) (by kernel_rfl!) (by decide)
theorem Of:iw 382 1 1 [] []:=iw.plain (pK (λa=>by kernel_rfl!))
noncomputable def RI:aa IS:=[.asg [(.loc 1)] (.k (.str "ABCDEFGHIJKLMNOPQRSTUVWXYZabcdefghijklmnopqrstuvwxyz0123456789-_")),.asg [(.loc 2)] (.k (.int 0)),.fr .plain (.loc 3) (.loc 0) [.asg [(.loc 2)] (.bin .Add (.bin .Mult (.loc 2) (.k (.int 256))) (.loc 3))],.asg [(.loc 4)] (.bin .FloorDiv (.bin .Add (.bin .Mult (.call (.bR (.builtin "len")) [(.loc 0)]) (.k (.int 8))) (.k (.int 5))) (.k (.int 6))),.asg [(.loc 2)] (.bin .Mult (.loc 2) (.bin .Pow (.k (.int 2)) (.bin .Sub (.bin .Mult (.loc 4) (.k (.int 6))) (.bin .Mult (.call (.bR (.builtin "len")) [(.loc 0)]) (.k (.int 8)))))),.asg [(.loc 5)] (.k (.str "")),.fr .plain (.loc 6) (.call (.bR (.type "range")) [(.loc 4)]) [.asg [(.loc 5)] (.bin .Add (.loc 5) (.sub (.loc 1) (.bin .Mod (.bin .FloorDiv (.loc 2) (.bin .Pow (.k (.int 64)) (.bin .Sub (.bin .Sub (.loc 4) (.k (.int 1))) (.loc 6)))) (.k (.int 64)))))],.ret (.bin .Add (.loc 5) (.bin .Mult (.k (.str "=")) (.bin .Mod (.neg (.call (.bR (.builtin "len")) [(.loc 0)])) (.k (.int 3)))))]
theorem Og:fL 389 1 9 RI:=.of (ck (tS 31)) (λw=>by kernel_rfl!) (by kernel_rfl!) (by decide)
theorem Oh:iw 389 1 1 [] []:=iw.plain (pK (λa=>by kernel_rfl!))
noncomputable def RJ:aa IS:=[.asg [(.loc 2)] (.bin .FloorDiv (.loc 1) (.k (.int 72))),.ret (.slc (.lst aC [(.loc 0),(.bin .Mod (.loc 2) (.k (.int 256))),(.bin .Mod (.bin .FloorDiv (.loc 2) (.k (.int 3))) (.k (.int 256)))]) none (af (.bin .Add (.k (.int 1)) (.bin .Mod (.loc 2) (.k (.int 3))))) none)]
theorem Oi:fL 396 2 3 RJ:=.of (ck (tS 32)) (λw=>by kernel_rfl!) (by kernel_rfl!) (by decide)
theorem Oj:iw 396 2 2 [] []:=iw.plain (DN (λa b=>by kernel_rfl!))
noncomputable def RK:aa IS:=[.asg [(.loc 1)] (.lst aC [(.lst aC []),(.lst aC [(.k (.str "."))]),(.lst aC [(.k (.str ""))]),(.lst aC [(.k (.str ".")),(.k (.str "."))]),(.lst aC [(.k (.str "")),(.k (.str "."))]),(.lst aC [(.k (.str ".")),(.k (.str "")),(.k (.str "."))])]),.gU (.cmp .Eq (.bin .Mod (.loc 0) (.k (.int 2))) (.k (.int 0))) [.ret (.tup [(.lst aC []),(.lst aC [])])] [],.ret (.tup [(.sub (.loc 1) (.bin .Mod (.bin .FloorDiv (.loc 0) (.k (.int 2))) (.k (.int 6)))),(.sub (.loc 1) (.bin .Mod (.bin .FloorDiv (.loc 0) (.k (.int 12))) (.k (.int 6))))])]
theorem Ol:fL 403 1 2 RK:=.of (ck (tS 33)) (λw=>by kernel_rfl!) (by kernel_rfl!) (by decide)
theorem Om:iw 403 1 1 [] []:=iw.plain (pK (λa=>by kernel_rfl!))
noncomputable def RL:aa IS:=[.ret (.bo .Or [(.cmp .Eq (.loc 0) (.k (.str ""))),(.cmp .Eq (.loc 0) (.k (.str ".")))])]
theorem Oo:fL 410 1 1 RL:=.of (ck (tS 34)) (λw=>by kernel_rfl!) (by kernel_rfl!) (by decide)
theorem Oq:iw 410 1 1 [] []:=iw.plain (pK (λa=>by kernel_rfl!))
noncomputable def RM:aa IS:=[.asg [(.loc 2)] (.k (.int 0)),.vq (.bo .And [(.cmp .Lt (.loc 2) (.call (.bR (.builtin "len")) [(.loc 0)])),(.cmp .Lt (.loc 2) (.call (.bR (.builtin "len")) [(.loc 1)])),(.cmp .Eq (.sub (.loc 0) (.loc 2)) (.sub (.loc 1) (.loc 2)))]) [.asg [(.loc 2)] (.bin .Add (.loc 2) (.k (.int 1)))],.ret (.loc 2)]
theorem Ot:fL 417 2 4 RM:=.of (ck (tS 35)) (λw=>by kernel_rfl!) (by kernel_rfl!) (by decide)
theorem Ou:iw 417 2 2 [] []:=iw.plain (DN (λa b=>by kernel_rfl!))
noncomputable def RN:aa IS:=[.asg [(.loc 3)] (.k (.int 1)),.asg [(.loc 4)] (.bin .Add (.loc 1) (.loc 2)),.vq (.bo .And [(.cmp .Lt (.k (.int 0)) (.loc 4)),(.cmp .Lt (.loc 4) (.bin .Sub (.call (.bR (.builtin "len")) [(.loc 0)]) (.k (.int 1)))),(.cmp .Eq (.sub (.loc 0) (.loc 4)) (.tup [(.lst aC []),(.lst aC [])]))]) [.asg [(.loc 3)] (.bin .Add (.loc 3) (.k (.int 1))),.asg [(.loc 4)] (.bin .Add (.loc 4) (.loc 2))],.ret (.loc 3)]
theorem J9:fL 424 3 6 RN:=.of (ck (tS 36)) (λw=>by kernel_rfl!) (by kernel_rfl!) (by decide)
theorem J_:iw 424 3 3 [] []:=iw.plain (NN (λa b c=>by kernel_rfl!))
noncomputable def RO:aa IS:=[.asg [(.tup [(.loc 2),(.loc 3)])] (.sub (.loc 0) (.loc 1)),.gU (.cmp .Eq (.loc 1) (.bin .Sub (.call (.bR (.builtin "len")) [(.loc 0)]) (.k (.int 1)))) [.ret (.tup [(.call (.bR (.ref 417)) [(.loc 2),(.loc 3)]),(.k (.int 0))])] [],.gU (.bo .And [(.cmp .Gt (.loc 1) (.k (.int 0))),(.cmp .GtE (.call (.bR (.ref 424)) [(.loc 0),(.loc 1),(.neg (.k (.int 1)))]) (.call (.bR (.ref 424)) [(.loc 0),(.loc 1),(.k (.int 1))]))]) [.asg [(.loc 4)] (.call (.bR (.ref 417)) [(.loc 2),(.loc 3)]),.asg [(.loc 5)] (.call (.bR (.ref 417)) [(.slc (.slc (.loc 2) (af (.loc 4)) none none) none none (af (.neg (.k (.int 1))))),(.slc (.slc (.loc 3) (af (.loc 4)) none none) none none (af (.neg (.k (.int 1)))))])] [.asg [(.loc 5)] (.call (.bR (.ref 417)) [(.slc (.loc 2) none none (af (.neg (.k (.int 1))))),(.slc (.loc 3) none none (af (.neg (.k (.int 1)))))]),.asg [(.loc 4)] (.call (.bR (.ref 417)) [(.slc (.loc 2) none (af (.bin .Sub (.call (.bR (.builtin "len")) [(.loc 2)]) (.loc 5))) none),(.slc (.loc 3) none (af (.bin .Sub (.call (.bR (.builtin "len")) [(.loc 3)]) (.loc 5))) none)])],.ret (.tup [(.loc 4),(.loc 5)])]
theorem Ov:fL 431 2 9 RO:=.of (ck (tS 37)) (λw=>by kernel_rfl!) (by kernel_rfl!) (by decide)
theorem Ow:iw 431 2 2 [] []:=iw.plain (DN (λa b=>by kernel_rfl!))
noncomputable def RP:aa IS:=[.asg [(.loc 1)] (.lst aj []),.asg [(.ji 2)] (.k (.int 0)),.asg [(.ji 3)] (.k (.int 0)),.fr .plain (.loc 4) (.call (.bR (.type "range")) [(.call (.bR (.builtin "len")) [(.loc 0)])]) [.asg [(.tup [(.loc 5),(.ji 6)])] (.call (.bR (.ref 431)) [(.loc 0),(.loc 4)]),.asg [(.loc 1)] (.bin .Add (.loc 1) (.comp aC 4 [(2,2),(3,3)] [1] (.tup [(.bin .Add (.ji 2) (.loc 1)),(.bin .Add (.ji 3) (.loc 1))]) (.call (.bR (.type "range")) [(.loc 5)]) [])),.asg [(.ji 2)] (.bin .Add (.ji 2) (.call (.bR (.builtin "len")) [(.sub (.sub (.loc 0) (.loc 4)) (.k (.int 0)))])),.asg [(.ji 3)] (.bin .Add (.ji 3) (.call (.bR (.builtin "len")) [(.sub (.sub (.loc 0) (.loc 4)) (.k (.int 1)))])),.asg [(.loc 1)] (.bin .Add (.loc 1) (.comp aC 5 [(2,6),(3,2),(4,3)] [1] (.tup [(.bin .Add (.bin .Sub (.ji 3) (.ji 2)) (.loc 1)),(.bin .Add (.bin .Sub (.ji 4) (.ji 2)) (.loc 1))]) (.call (.bR (.type "range")) [(.ji 6)]) [])),.gU (.cmp .Lt (.loc 4) (.bin .Sub (.call (.bR (.builtin "len")) [(.loc 0)]) (.k (.int 1)))) [.ex (.met (.loc 1) .append [(.tup [(.ji 2),(.ji 3)])]),.asg [(.ji 2)] (.bin .Add (.ji 2) (.k (.int 1))),.asg [(.ji 3)] (.bin .Add (.ji 3) (.k (.int 1)))] []],.ret (.loc 1)]
theorem Ox:fL 436 1 10 RP:=.of (ck (tS 38)) (λw=>by kernel_rfl!) (by kernel_rfl!) (by decide)
theorem Oz:iw 436 1 1 [] []:=iw.plain (pK (λa=>by kernel_rfl!))
noncomputable def RQ:aa IS:=[.asg [(.loc 1)] (.lst aj []),.fr .plain (.tup [(.loc 2),(.loc 3)]) (.loc 0) [.gU (.bo .And [(.cmp .NotEq (.loc 1) (.lst aC [])),(.cmp .Eq (.tup [(.bin .Add (.sub (.sub (.loc 1) (.neg (.k (.int 1)))) (.k (.int 0))) (.sub (.sub (.loc 1) (.neg (.k (.int 1)))) (.k (.int 2)))),(.bin .Add (.sub (.sub (.loc 1) (.neg (.k (.int 1)))) (.k (.int 1))) (.sub (.sub (.loc 1) (.neg (.k (.int 1)))) (.k (.int 2))))]) (.tup [(.loc 2),(.loc 3)]))]) [.asg [(.sub (.loc 1) (.neg (.k (.int 1))))] (.tup [(.sub (.sub (.loc 1) (.neg (.k (.int 1)))) (.k (.int 0))),(.sub (.sub (.loc 1) (.neg (.k (.int 1)))) (.k (.int 1))),(.bin .Add (.sub (.sub (.loc 1) (.neg (.k (.int 1)))) (.k (.int 2))) (.k (.int 1)))])] [.ex (.met (.loc 1) .append [(.tup [(.loc 2),(.loc 3),(.k (.int 1))])])]],.ret (.loc 1)]
theorem OA:fL 443 1 4 RQ:=.of (ck (tS 39)) (λw=>by kernel_rfl!) (by kernel_rfl!) (by decide)
theorem OB:iw 443 1 1 [] []:=iw.plain (pK (λa=>by kernel_rfl!))
noncomputable def RT:aa IS:=[.asg [(.ji 1)] (.bin .Add (.comp aC 2 [] [1] (.bin .Mod (.loc 1) (.k (.int 100000))) (.slc (.loc 0) (af (.k (.int 1))) (af (.k (.int 4))) none) []) (.lst aC [(.k (.int 59)),(.k (.int 72)),(.k (.int 55243)),(.k (.int 19)),(.k (.int 144))])),.asg [(.loc 2)] (.ite (.cmp .NotEq (.loc 0) (.lst aC [])) (.bin .Mod (.sub (.loc 0) (.k (.int 0))) (.k (.int 100000))) (.k (.int 263))),.asg [(.loc 3)] (.comp aC 3 [] [1] (.call (.bR (.ref 403)) [(.loc 1)]) (.bin .Add (.ji 1) (.lst aC [(.loc 2)])) []),.asg [(.loc 5)] (.comp aC 4 [(3,1)] [1] (.call (.bR (.ref 396)) [(.loc 1),(.sub (.ji 3) (.loc 1))]) (.call (.bR (.type "range")) [(.call (.bR (.builtin "len")) [(.ji 1)])]) []),.asg [(.loc 6)] (.comp aC 4 [] [1] (.met (.k (.str "")) .join [(.comp aC 3 [] [1] (.call (.bR (.builtin "chr")) [(.loc 1)]) (.call (.bR (.ref 283)) [(.call (.bR (.type "bytes")) [(.loc 1)])]) [])]) (.loc 5) []),.asg [(.loc 7)] (.lst aC []),.asg [(.loc 8)] (.lst aC []),.fr .plain (.loc 4) (.call (.bR (.type "range")) [(.call (.bR (.builtin "len")) [(.loc 3)])]) [.asg [(.loc 7)] (.bin .Add (.bin .Add (.loc 7) (.sub (.sub (.loc 3) (.loc 4)) (.k (.int 0)))) (.slc (.loc 6) (af (.loc 4)) (af (.bin .Add (.loc 4) (.k (.int 1)))) none)),.asg [(.loc 8)] (.bin .Add (.bin .Add (.loc 8) (.sub (.sub (.loc 3) (.loc 4)) (.k (.int 1)))) (.slc (.loc 6) (af (.loc 4)) (af (.bin .Add (.loc 4) (.k (.int 1)))) none))],.asg [(.loc 9)] (.bin .Mod (.bin .FloorDiv (.loc 2) (.k (.int 72))) (.call (.bR (.builtin "len")) [(.loc 6)])),.asg [(.loc 10)] (.bin .Add (.slc (.loc 8) none (af (.met (.loc 8) .index [(.sub (.loc 6) (.loc 9))])) none) (.lst aC [(.sub (.loc 6) (.bin .Sub (.loc 9) (.k (.int 1))))])),.asg [(.loc 11)] (.comp aC 3 [] [1] (.call (.bR (.ref 389)) [(.loc 1)]) (.loc 5) []),.asg [(.loc 12)] (.bin .Add (.k (.str "/")) (.met (.k (.str "/")) .join [(.loc 11)])),.asg [(.loc 13)] (.lst aC [(.bin .Add (.k (.str "///")) (.met (.k (.str "/")) .join [(.loc 7)])),(.bin .Add (.k (.str "///")) (.met (.k (.str "/")) .join [(.loc 8)]))]),.gU (.cmp .NotEq (.lst aC [(.call (.bR (.ref 377)) [(.sub (.loc 13) (.k (.int 0)))]),(.call (.bR (.ref 377)) [(.sub (.loc 13) (.k (.int 1)))]),(.call (.bR (.ref 382)) [(.loc 13)])]) (.lst aC [(.loc 12),(.loc 12),(.loc 12)])) [.ret (.k (.bool aC))] [],.gU (.cmp .NotEq (.call (.bR (.ref 382)) [(.bin .Add (.loc 13) (.lst aC [(.bin .Add (.k (.str "///")) (.met (.k (.str "/")) .join [(.loc 10)]))]))]) (.bin .Add (.k (.str "/")) (.met (.k (.str "/")) .join [(.slc (.loc 11) none (af (.loc 9)) none)]))) [.ret (.k (.bool aC))] [],.asg [(.loc 14)] (.call (.bR (.ref 242)) [(.bR (.ref 410)),(.loc 7),(.loc 8)]),.asg [(.loc 15)] (.comp aC 4 [] [1,2,3] (.tup [(.loc 1),(.loc 2),(.loc 3)]) (.met (.loc 14) (.user 203) []) []),.ret (.cmp .Eq (.loc 15) (.bin .Add (.call (.bR (.ref 443)) [(.call (.bR (.ref 436)) [(.loc 3)])]) (.lst aC [(.tup [(.call (.bR (.builtin "len")) [(.loc 7)]),(.call (.bR (.builtin "len")) [(.loc 8)]),(.k (.int 0))])])))]
theorem OC:fL 448 1 24 RT:=.of (ck (tS 40)) (λw=>by kernel_rfl!) (by kernel_rfl!) (by decide)
theorem OD:iw 448 1 1 [] []:=iw.plain (pK (λa=>by kernel_rfl!))
noncomputable def RU(f:az):az:=refOf (mq f).defaults
theorem OE:iw 160 4 5 [.bool aj] [.d (.bool aj)]:=by
 refine⟨λw s Y Z X=>?_,λh R=>(bM _ _ rfl rfl rfl),rfl⟩;exact iV Y Z λa W Z=>iV W Z λb V Z=>iV V Z λc U Z=>iV U Z λd S Z=>len0 S Z (iw.dflt (T:=RU 160) X (by kernel_rfl!) (by kernel_rfl!) (by kernel_rfl!))
theorem OG:iw 196 5 5 [] []:=by
 refine⟨λw s Y Z X=>?_,λh Q=>rfl,rfl⟩;exact iV Y Z λa W Z=>iV W Z λb V Z=>iV V Z λc U Z=>iV U Z λd S Z=>iV S Z λe R Z=>len0 R Z (iw.dflt (T:=RU 196) X (by kernel_rfl!) (by kernel_rfl!) (by kernel_rfl!))
theorem OH:iw 276 1 2 [.none] [.d .none]:=by
 refine⟨λw s Y Z X=>?_,λh V=>(bM _ _ rfl rfl rfl),rfl⟩;exact iV Y Z λa W Z=>len0 W Z (iw.dflt (T:=RU 276) X (by kernel_rfl!) (by kernel_rfl!) (by kernel_rfl!))
structure OI(f:az)(np:ah):Prop where bind:∀(w:aG)(s:ay)(vs:aa ao),vs.length=np->k6 w s.heap->BindsTo s (mq f) (P7 vs) (((yj f).names.take np).map (·.1)|>.zip vs)
theorem OJ:OI 268 2:=by
 refine⟨λw s Y Z V=>?_⟩;exact iV Y Z λa X Z=>iV X Z λb W Z=>len0 W Z (BindsTo.of_eq (show iM (mq 268) ⟨[a],[(("newline":ai),b)]⟩=aX _ by kernel_rfl!))
noncomputable def CH:aa (ai×ao):=JU++JT.map λ(x,a)=>(x,.ref a)
noncomputable def CI:aa (ai×ao):=JQ++JR
theorem zQ(w:aG):CH.map (λp=>(Hf w.params).nsMap kr p.1)=CH.map (λp=>af p.2):=by kernel_rfl!
theorem GJ(w:aG):CI.map (λp=>((Hf w.params).nsMap kr p.1,(Hf w.params).nsMap oU p.1))=CI.map (λp=>(none,af p.2)):=by kernel_rfl!
theorem GK(p:ai×ao)(h:p∈globT):s7 p.1 p.2\/E6 p.1 p.2:=by
 have:p∈CH\/p∈CI:=by
  unfold globT at h;unfold CH CI;simp only[wC] at h ⊢;rcases h with h|h|h|h;·exact .inl (.inl h)
  ·exact .inr (.inl h)
  ·exact .inr (.inr h)
  ·exact .inl (.inr h)
 rcases this with h|h;·exact .inl λw=>List.map_inj_left.mp (zQ w) p h
 ·exact .inr λw=>Prod.mk.inj (List.map_inj_left.mp (GJ w) p h)
theorem nE:fP (.builtin "bytes.translate")=aX (.type "method_descriptor"):=by show builtinType _=_;rw[builtinType_eq_fast];kernel_rfl
theorem I5(p:ai×Mt)(h:p∈yM):(∃f,p.2=.user f)\/FN p.1 p.2:=by
 simp only[yM,qk,oH,or_false] at h;rcases h with rfl|rfl|rfl|rfl|rfl|rfl|rfl|rfl|rfl|rfl|rfl|rfl|rfl|rfl|rfl|rfl|rfl|rfl;·exact .inr ⟨xj,PySem.F.slot_list_append,PySem.F.type_list_append⟩
 ·exact .inr ⟨xj,PySem.F.slot_list_pop,PySem.F.type_list_pop⟩
 ·exact .inr ⟨xj,PySem.F.slot_list_sort,PySem.F.type_list_sort⟩
 ·exact .inr ⟨xj,PySem.F.slot_list_index,PySem.F.type_list_index⟩
 ·exact .inr ⟨AQ,PySem.F.slot_dict_get,PySem.F.type_dict_get⟩
 ·exact .inr ⟨AQ,PySem.F.slot_dict_setdefault,PySem.F.type_dict_setdefault⟩
 ·exact .inr ⟨PySem.F.plainAttrs_set,PySem.F.slot_set_add,PySem.F.type_set_add⟩
 ·exact .inr ⟨PySem.F.plainAttrs_set,slot_set_contains,type_set_contains⟩
 ·exact .inr ⟨AR,xm,PySem.F.type_str_split⟩
 ·exact .inr ⟨AR,PySem.F.slot_str_join,PySem.F.type_str_join⟩
 ·exact .inr ⟨AR,PySem.F.slot_str_startswith,PySem.F.type_str_startswith⟩
 ·exact .inr ⟨PySem.W.FB.plainAttrs_bytes,i3,nE⟩
 all_goals exact .inl ⟨_,rfl⟩
theorem GL{f:az}{fd:kA}{body:aa bH}(Z:FnAt f fd body (yj f)):dF (Rh f) (yj f):=⟨Z.kind,Z.nodup,rfl,sEq_iff,GK,I5⟩
theorem OL(K:ah):∀m,zP K m:=by
 intro m;induction m with|zero=>exact zP.zero|succ m Z=>exact zP.succ (Z)
theorem fL.use{f:az}{Y n k:ah}{c:aa IS}{dv:aa ao}{da:aa AV}(t:fL f Y n c)(b:iw f k Y dv da){K:ah}{args:aa AV}{H:aa AO}{PP:AV->aa AO->Prop}(X:args.length=k)(h:H.all (·.lt H.length)=aj/\j7 H=aj->VS (c6 K) 60 c (c_ H PP) ⟨A0 n (args++da),H⟩):Fn (K+1) f args H PP:=by
 refine aQ t.fn λbody W e=>?_;have V:=t.len;have Z:(args++da).length=Y:=by rw[bU,X];exact b.len
 refine Fn.intro W (((yj f).names.take Y).map (·.1)) rfl b.hda ?_ ?_ (λw s U T S=>b.bind w s U (T.trans X) S) λR=>?_;·rw[Z,b5];exact t.Sy
 ·rw[bB,dU,Z,V];exact eW t.le
 ·rw[V];exact(OL K 60).s (GL W) (by rw[e];exact h R)
theorem fL.OM{f:az}{Z n:ah}{c:aa IS}(t:fL f Z n c)(b:OI f Z){K:ah}{args:aa AV}{H:aa AO}{PP:AV->aa AO->Prop}(Y:args.length=Z)(h:H.all (·.lt H.length)=aj/\j7 H=aj->VS (c6 K) 60 c (c_ H PP) ⟨A0 n args,H⟩):Ij (K+1) f args H PP:=by
 refine aQ t.fn λbody X e=>?_;have W:=t.len;refine Fn.core P7 X (((yj f).names.take Z).map (·.1)) (da:=[]) (dv:=[]) (by rw[bY]) (λh R=>rfl) ?_ ?_ (λw s V U T=>by rw[bY];exact b.bind w s V (U.trans Y) T) λS=>?_;·rw[Y,b5];exact t.Sy
 ·rw[bB,dU,Y,W];exact eW t.le
 ·rw[W];exact(OL K 60).s (GL X) (by rw[e];exact h S)
end cZ
end
section
open PySem
namespace cZ
noncomputable def alike:aa ai->aa ai->ah|a::l,b::m=>if a=b then alike l m+1 else 0|_,_=>0
theorem cN:∀l m:aa ai,alike l m<=l.length/\alike l m<=m.length:=by
 intro l;induction l with
 |nil=> intro _;exact⟨bf _,bW _⟩|cons a l Z=> intro Y;induction Y using aO with|nil=>exact⟨bW _,bf _⟩|cons b m=>
   have:=Z m;show (if a=b then alike l m+1 else 0)<=_/\(if a=b then alike l m+1 else 0)<=_;by_cases e:a=b;·rw[aW e];exact⟨fh this.1,fh this.2⟩
   ·rw[aI e];exact⟨bW _,bW _⟩
theorem ue:∀(l m:aa ai)(k:ah),k<alike l m->∃a,l[k]?=af a/\m[k]?=af a:=by
 intro l;induction l with |nil=> intro m k h;cases m<;>exact aJ h (m3 _)|cons a l Z=> intro Y;induction Y using aO with |nil=> intro k h;exact aJ h (m3 _)|cons b m=>
   intro k h;change k<if a=b then alike l m+1 else 0 at h;by_cases e:a=b;·rw[aW e] at h;subst e;induction k using cJ with |zero=>exact aP a rfl rfl|succ k=>exact Z m k (Z2 [.p V0 (.n 1),V1,.p (.p V0 (.n 1)) (.n 1),.p V1 (.n 1)] rfl h)
   ·rw[aI e] at h;exact aJ h (m3 _)
theorem lg:∀(l m:aa ai){a b:ai},l[alike l m]?=af a->m[alike l m]?=af b->a≠b:=by
 intro l;induction l with
 |nil=> intro _ _ _ h _;exact ns h|cons x l X=> intro W;induction W using aO with |nil=> intro _ _ _ h;exact ns h|cons y m=>
   intro a b Z Y;change (x::l)[if x=y then alike l m+1 else 0]?=af a at Z;change (y::m)[if x=y then alike l m+1 else 0]?=af b at Y;by_cases e:x=y;·rw[aW e] at Z Y;exact X m Z Y
   ·rw[aI e] at Z Y;cases Z;cases Y;exact e
theorem zR{l m:aa ai}{n:ah}(X:n<=l.length/\n<=m.length)(h:∀k,k<n->l[k]?=m[k]?)(W:∀a b,l[n]?=af a->m[n]?=af b->a≠b):alike l m=n:=by
 refine cY (ff λq=>?_) (ff λq=>?_);·refine aQ (ue l m n q) λa Z Y=>?_;exact W a a Z Y rfl
 ·have Z:alike l m<l.length:=by exact Z3 [.p V0 (.n 1),V1,V2,V1,.p V0 (.n 1),V2] rfl X.1 q
  have Y:alike l m<m.length:=by exact Z3 [.p V0 (.n 1),V1,V2,V1,.p V0 (.n 1),V2] rfl X.2 q
  exact lg l m (c7 Z) (c7 Y) (by
   have:=h _ q;rw[c7 Z,c7 Y] at this;exact dz this)
noncomputable abbrev Gp:=aa ai×aa ai
noncomputable def gE:Gp:=([],[])
noncomputable def ie(g:Gp):ah×ah:=(alike g.1 g.2,alike (g.1.drop (alike g.1 g.2)).reverse (g.2.drop (alike g.1 g.2)).reverse)
noncomputable def di(g:Gp):ah:=alike g.1.reverse g.2.reverse
noncomputable def gx(g:Gp):ah×ah:=(alike (g.1.take (g.1.length-di g)) (g.2.take (g.2.length-di g)),di g)
noncomputable def ig(g:Gp):Gp:=(g.1.take (g.1.length-di g),g.2.take (g.2.length-di g))
noncomputable def f9(g:Gp):Gp:=(g.1.drop (alike g.1 g.2),g.2.drop (alike g.1 g.2))
theorem pL(l m:aa ai):alike (l.drop (alike l m)) (m.drop (alike l m))=0:=by
 refine zR ⟨bW _,bW _⟩ (λk X=>aJ X (m3 _)) λa b Z Y=>?_;rw[oK,kh] at Z Y;exact lg l m Z Y
theorem BL{l m:aa ai}(i j:ah)(h:alike l m=0):alike (l.take i) (m.take j)=0:=by
 refine zR ⟨bW _,bW _⟩ (λk X=>aJ X (m3 _)) λa b Z Y=>?_;rw[rZ] at Z Y;split at Z
 ·split at Y
  ·refine lg l m ?_ ?_<;>rw[h];·exact Z
   ·exact Y
  ·exact ns Y
 ·exact ns Z
theorem DO(g:Gp):(gx (f9 g)).1=0:=BL _ _ (pL _ _)
theorem DP(g:Gp):ie g=(alike g.1 g.2,di (f9 g)):=rfl
theorem mw(g:Gp):di g<=g.1.length/\di g<=g.2.length:=by
 have:=cN g.1.reverse g.2.reverse;simpa [di] using this
noncomputable def gQ:aa Gp->ah |[]=>1|[_]=>1|g::h::r=>if g=gE then gQ (h::r)+1 else 1
noncomputable def qY:ah->aa Gp->aa (ah×ah)|_,[]=>[]|_,[r]=>[(alike r.1 r.2,0)]|a,g::h::r=>if g=gE then(0,0)::qY (a+1) (h::r)else(if gQ (h::r)<=a then ie g else gx g)::qY 1 (h::r)
noncomputable def BN:aa Gp->aa (ah×ah) |[]=>[]|[r]=>[(alike r.1 r.2,0)]|g::h::r=>gx g::qY 1 (h::r)
noncomputable def CJ(i j:ah)(g:Gp)(t:ah×ah):aa (ah×ah):=(cW t.1).map (λd=>(i+d,j+d))++(cW t.2).map λd=>(i+g.1.length-t.2+d,j+g.2.length-t.2+d)
noncomputable def emit:ah->ah->aa Gp->aa (ah×ah)->aa (ah×ah) |i,j,[g],t::_=>CJ i j g t|i,j,g::h::r,t::Z=>CJ i j g t++(i+g.1.length,j+g.2.length)::emit (i+g.1.length+1) (j+g.2.length+1) (h::r) Z|_,_,_,_=>[]
noncomputable def pM(b:ah×ah×ah):aa (ah×ah):=(cW b.2.2).map λd=>(b.1+d,b.2.1+d)
noncomputable def aN:ah->aa Gp->ah|a,[]=>a|a,g::X=>aN (if g=gE then a+1 else 1) X
theorem nX{g:Gp}:∀{X:aa Gp}{a:ah},aN a (X++[g])=if g=gE then aN a X+1 else 1:=by
 intro Z;induction Z with
 |nil=> intro a;exact rfl|cons h X Y=> intro a;rw[Y];rfl
theorem GO{e:ah}:∀{a:ah},aN a (bN e gE)=a+e:=by induction e with |zero=>intro a;rfl|succ e Z=> intro a;show aN (if gE=gE then a+1 else 1) _=_;rw[aW rfl,Z];exact lZ [.p (.p V0 (.n 1)) V1,.p V0 (.p V1 (.n 1))] rfl
theorem Lk:∀{X:aa Gp}{a:ah},1<=a->1<=aN a X:=by
 intro X;induction X with
 |nil=> intro a h;exact h|cons g X Z=> intro a h;exact Z (a:=if g=gE then a+1 else 1) (by split<;>exact fh (bW _))
theorem GP{Y:aa Gp}:∀{X:aa Gp}{a:ah},aN a (X++Y)=aN (aN a X) Y:=by
 intro X;induction X with |nil=> intro a;exact rfl|cons g X Z=> intro a;exact Z
theorem GQ(X:aa Gp):∃len Y,1<=len/\aN 1 X=len/\((X=bN (len-1) gE/\Y=[])\/∃X1 x,X=X1++x::bN (len-1) gE/\x≠gE/\Y=X1++[x]):=by
 have key:∀(Z:aa Gp) (X:aa Gp),X=Z.reverse->∃len Y,1<=len/\aN 1 X=len/\((X=bN (len-1) gE/\Y=[])\/∃X1 x,X=X1++x::bN (len-1) gE/\x≠gE/\Y=X1++[x]):=by
  intro Z;induction Z with|nil=>rintro X rfl;exact bM 1 [] (bf _) rfl (.inl ⟨rfl,rfl⟩)|cons g Z T=>
   rintro X rfl;refine cU (T _ rfl) λlen Y S R W=>?_;rw[oJ];have V:bN (len-1) gE++[gE]=bN len gE:=by rw[<-List.replicate_succ'];congr 1;exact lZ [.p V0 (.n 1),V1,.p V0 (.n 1),V1] rfl (eO (S))
   by_cases e:g=gE
   ·subst e;refine bM (len+1) Y (Z1 [.n 1,.p V0 (.n 1)] rfl) (by rw[nX,aW rfl,R]) ?_;rcases W with ⟨W,U⟩|⟨X1,x,W,U,Q⟩;·exact .inl ⟨by rw[W,V];rfl,U⟩
    ·exact .inr (bM X1 x (by rw[W,bV,e7,V];rfl) U Q)
   ·exact bM 1 (Z.reverse++[g]) (bf _) (by rw[nX,aI e]) (.inr (bM Z.reverse g rfl e rfl))
 exact key X.reverse X (List.reverse_reverse X).symm
noncomputable def upd(k c:ah)(b:ah×ah):ah×ah:=if c>b.2 then (k+1-c,c) else b
noncomputable def scan:ah->ah->ah×ah->aa Gp->ah×ah |_,_,b,[]=>b|k,c,b,[_]=>upd k c b|k,c,b,g::h::r=>scan (k+1) (if g=gE then c+1 else 1) (upd k c b) (h::r)
noncomputable def gg(H:aa Gp)(k:ah):ah:=aN 1 (H.take k)
theorem DQ{H:aa Gp}:∀(R:aa Gp)(k:ah)(b:ah×ah),R≠[]->H.drop k=R->(∀i,i<k->gg H i<=b.2)->(b=(0,0)\/∃m,m<k/\b=(m+1-gg H m,gg H m)/\∀i,i<m->gg H i<gg H m)->(k=0->b=(0,0))->∃m,m<H.length/\scan k (gg H k) b R=(m+1-gg H m,gg H m)/\(∀i,i<m->gg H i<gg H m)/\∀i,i<H.length->gg H i<=gg H m:=by
 intro R;induction R with |nil=>exactλV V h V V V V=>aJ rfl h|cons g R U=>
  intro k b _ W Y M G;have L:k<H.length:=by
   rcases qn k H.length with q|q;·exact q
   ·have W:=(dH q)▸W;cases W
  have K:H[k]?=af g:=by
   have:=bu (·[0]?) W;simpa using this
  have S:(∀i,i<k+1->gg H i<=(upd k (gg H k) b).2)/\∃m,m<k+1/\upd k (gg H k) b=(m+1-gg H m,gg H m)/\∀i,i<m->gg H i<gg H m:=by
   unfold upd;by_cases q:gg H k>b.2
   ·rw[aW q];refine⟨λi X=>?_,k,jH _,rfl,λi X=>er (Y i X) q⟩;rcases m5 (qo X) with h|rfl;·exact gy (er (Y i h) q)
    ·exact bf _
   ·rw[aI q];refine⟨λi X=>?_,?_⟩
    ·rcases m5 (qo X) with h|rfl;·exact Y i h
     ·exact(Qb q)
    ·rcases M with rfl|⟨m,P,O,Q⟩;·exact aJ (Lk (bf 1)) (by simp at q;exact Nat.not_le_of_lt (Z1 [.p V0 (.n 1),.n 1,V0,.n 0] rfl (Qe q)))
     ·exact cy m (Z2 [.p V0 (.n 1),.p V1 (.n 1),.p V0 (.n 1),V1] rfl P) O Q
  induction R using aO with
  |nil=>
   have Z:H.length=k+1:=by
    have:=bu gW W;simp at this;exact Ac [V0,.p V1 (.n 1),V2,.n 1,V0,.p V2 V1] rfl this (Eq.symm (eO (Z2 [V0,V1,.p V0 (.n 1),V1] rfl L)))
   (refine bq S λP T=>cC T λm O Q J=>?_;clear T;clear S);refine lX m (Z3 [.p V0 (.n 1),V1,.p V2 (.n 1),V1,.p V0 (.n 1),.p V2 (.n 1)] rfl (Qf Z) O) Q J (λi X=>?_);have:=P i (Z3 [.p V0 (.n 1),.p V1 (.n 1),V2,.p V1 (.n 1),.p V0 (.n 1),V2] rfl (Qe Z) X);rw[Q] at this;exact this|cons h R=>
   have N:H.drop (k+1)=h::R:=by rw[<-r4,W];rfl
   have I:gg H (k+1)=if g=gE then gg H k+1 else 1:=by
    unfold gg;rw[mX,K];exact nX
   have U:=U (k+1) (upd k (gg H k) b) (by simp) N S.1 (.inr S.2) (λh=>aJ h (Nat.succ_ne_zero _));have U:=I▸U;exact U
theorem DR:∀(G:aa Gp),∃e,gQ G=e+1/\(G≠[]->e<G.length)/\G.take e=bN e gE:=by
 intro G;induction G with |nil=>exact cy 0 rfl (λh=>aJ rfl h) rfl|cons g Y X=>induction Y using aO with |nil=>exact cy 0 rfl (λZ=>Nat.zero_lt_one) rfl|cons h r=>
   unfold gQ;by_cases q:g=gE;·rw[aW q];refine cC (X) λe W V U=>?_;refine cy (e+1) (by rw[W]) (λZ=>by have:=V (by simp);simp at this ⊢;exact this) ?_;rw[wA,U,jF,q]
   ·rw[aI q];exact cy 0 rfl (λZ=>by simp) rfl
theorem sel{L:Gp}{H:aa Gp}(B:H≠[]):∃(O N:aa Gp)(gl I:Gp)(len:ah),L::H=O++gl::(bN (len-1) gE++I::N)/\1<=len/\scan 0 1 (0,0) H=(O.length,len)/\(∀G V,O=G::V->gl≠gE/\aN 1 V<len)/\(N≠[]->I≠gE/\gQ N<=len):=by
 refine m_ (DQ (H:=H) H 0 (0,0) B rfl (λi A=>aJ A (m3 _)) (.inl rfl) (λF=>rfl)) λm M E z D=>?_;refine cU (GQ (H.take m)) λlen t Q y w=>?_;have P:gg H m=len:=y;have K:H[m]?=af H[m]:=c7 M;have Z:H=H.take m++H[m]::H.drop (m+1):=by rw[List.getElem_cons_drop,iB]
 have S:H.drop (m+1)≠[]->H[m]≠gE/\gQ (H.drop (m+1))<=len:=by
  intro R;have hm1:m+1<H.length:=by
   rcases qn (m+1) H.length with q|q;·exact q
   ·exact aJ (dH q) R
  have Y:gg H (m+1)=if H[m]=gE then gg H m+1 else 1:=by
   unfold gg;rw[mX,K];exact nX
  have C:H[m]≠gE:=λe=>by
   have Y:=(aW e)▸Y;have:=D (m+1) hm1;exact Qx (lY [_,_] 0 [] [.n 1,.n 0,.p V0 (.n 1),V1,V1,V0] rfl (Qf Y) this)
  refine⟨C,?_⟩;refine cC (DR (H.drop (m+1))) λe X U v=>?_;have U:=U R;have U:=gX▸U;have:gg H (m+1+e)=1+e:=by
   unfold gg;rw[List.take_add,v,GP,GO];have:aN 1 (H.take (m+1))=1:=by
    have:=Y;have this:=(aI C)▸this;exact this
   rw[this]
  have t2:=D (m+1+e) (Z4 [.p (.p (.p V0 (.n 1)) V1) (.n 1),V2,.p V1 (.n 1),V3,.p V3 (.p V0 (.n 1)),V2] rfl U (Q2 (M)));rw[X,<-P,iE,<-this];exact t2
 have T:(H.take m).length=m:=by rw[dU];exact eW (gy M)
 rcases w with ⟨X,_⟩|⟨W,x,X,U,_⟩
 ·have:m=len-1:=by
   have:=bu gW X;rw[T,qm] at this;exact this
  refine Ml [] (H.drop (m+1)) L (H[m]) len ?_ Q (by rw[E,P];simp;exact vh [V0,.n 0,V1,V2,.p V0 V3,.p V1 (.n 1),.p V2 (.n 1),V3] rfl this (eO (Z3 [V0,.p V1 (.n 1),V2,V1,V0,.p V2 (.n 1)] rfl (Qf this) Q1)) (eO (Q))) (λF F h=>nomatch h) S;rw[fc,<-X,<-Z]
 ·have J:m=W.length+1+(len-1):=by
   have:=bu gW X;have this:=T▸this;simp at this;exact Ac [V0,.p (.p V1 (.n 1)) V2,V0,.p V1 (.p V2 (.n 1))] rfl this
  refine Ml (L::W) (H.drop (m+1)) x (H[m]) len ?_ Q (by rw[E,P];simp;exact L0 [V0,.p V1 (.n 1),V2,.p (.p V1 (.n 1)) V3,.p V0 V4,.p V2 (.n 1),.p V3 (.n 1),V4] rfl J (eO (Z4 [V0,.p V1 (.n 1),.p (.p V2 (.n 1)) V3,V1,V0,.p V3 (.n 1)] rfl (Qf J) Q1)) (eO (Q))) (λG V h=>?_) S
  ·conv=>lhs;rw[Z,X]
   simp
  ·cases h;refine⟨U,?_⟩;have:gg H W.length=aN 1 W:=by
    unfold gg;have:H.take W.length=W:=by
     have u:H.take W.length=(H.take m).take W.length:=by rw[List.take_take,eW (by rw[<-T,X,bU];exact dh _ _)]
     rw[u,X,qi rfl]
    rw[this]
   rw[<-this,<-P];exact z _ (Z3 [.p V0 (.n 1),V1,.p (.p V0 (.n 1)) V2,V1] rfl (Qf J))
theorem GR{Y:Gp}{Z:aa Gp}(h:Z≠[]->Y≠gE):∀(m:ah),gQ (bN m gE++Y::Z)=m+1:=by
 intro m;induction m with
 |zero=>induction Z using aO with|nil=>rfl|cons g Z=>
   show (if Y=gE then _ else 1)=1
   rw[aI (h (by simp))]|succ m X=>
  rw[jF,e7];have:∃x y,bN m gE++Y::Z=x::y:=by induction m using cJ with|zero=>exact kZ _ _ rfl|succ m=>exact kZ _ _ (by rw[jF];rfl)
  (refine lW this λx y e=>?_;clear this);rw[e] at X ⊢;show (if gE=gE then gQ (x::y)+1 else 1)=_;rw[aW rfl,X]
theorem GS{gl:Gp}{rest:aa Gp}(O:rest≠[])(N:gl≠gE):∀(X:aa Gp)(a:ah),aN a X<gQ rest->∃T,T.length=X.length/\qY a (X++gl::rest)=T++gx gl::qY 1 rest/\qY a (X++[ig gl])=T++[((gx gl).1,0)]:=by
 intro M;induction M with |nil=>
  intro a h;obtain⟨x,y,e⟩:∃x y,rest=x::y:=by induction rest using aO with|nil=>exact aJ rfl O|cons x y=>exact kZ x y rfl
  subst e;refine cy [] rfl ?_ rfl;show (if gl=gE then _ else _)=_;rw[aI N,aI (Nat.not_le.mpr (show a<gQ (x::y) from h))];rfl|cons g X U=>
  intro a h;refine cC (U (if g=gE then a+1 else 1) h) λT Q W V=>?_;have Z:∃x y,X++gl::rest=x::y:=by cases X<;>exact kZ _ _ rfl
  have Y:∃x y,X++[ig gl]=x::y:=by cases X<;>exact kZ _ _ rfl
  have P:gQ (X++gl::rest)=gQ (X++[ig gl]):=by
   clear W V Q T h Z Y U;induction X with
   |nil=>induction rest using aO with|nil=>exact aJ rfl O|cons x y=>
     show (if gl=gE then _ else 1)=1
     rw[aI N]|cons z X U=>
    have Z:∃x y,X++gl::rest=x::y:=by cases X<;>exact kZ _ _ rfl
    have Y:∃x y,X++[ig gl]=x::y:=by cases X<;>exact kZ _ _ rfl
    refine lW Z λx y Z=>?_;refine lW Y λS R Y=>?_;rw[e7,e7];rw[Z,Y] at U ⊢;show (if z=gE then gQ (x::y)+1 else 1)=if z=gE then gQ (S::R)+1 else 1;rw[U]
  refine lW Z λx y Z=>?_;refine lW Y λS R Y=>?_;rw[e7,e7];rw[Z] at W P ⊢;rw[Y] at V P ⊢;by_cases q:g=gE
  ·rw[aW q] at W V;refine cy ((0,0)::T) (by simp[Q]) ?_ ?_;·show (if g=gE then (0,0)::qY (a+1) (x::y) else _)=_;rw[aW q,W];rfl
   ·show (if g=gE then (0,0)::qY (a+1) (S::R) else _)=_;rw[aW q,V];rfl
  ·rw[aI q] at W V;refine cy ((if gQ (x::y)<=a then ie g else gx g)::T) (by simp[Q]) ?_ ?_;·show (if g=gE then _ else (if gQ (x::y)<=a then ie g else gx g)::qY 1 (x::y))=_;rw[aI q,W];rfl
   ·show (if g=gE then _ else (if gQ (S::R)<=a then ie g else gx g)::qY 1 (S::R))=_;rw[aI q,V,P];rfl
theorem GU{gl:Gp}{rest:aa Gp}(U:rest≠[]):∀(Z:aa Gp),(∀Q Y,Z=Q::Y->gl≠gE/\aN 1 Y<gQ rest)->∃T,T.length=Z.length/\BN (Z++gl::rest)=T++gx gl::qY 1 rest/\BN (Z++[ig gl])=T++[((gx gl).1,0)]:=by
 intro Z;induction Z with
 |nil=> intro _;induction rest using aO with |nil=>exact aJ rfl U|cons x y=>exact cy [] rfl rfl rfl
 |cons L X _=>
  intro h;refine bq (h L X rfl) λP O=>?_;refine cC (GS U P X 1 O) λT N S R=>?_;have W:∃x y,X++gl::rest=x::y:=by cases X<;>exact kZ _ _ rfl
  have V:∃x y,X++[ig gl]=x::y:=by cases X<;>exact kZ _ _ rfl
  refine lW W λx y W=>?_;refine lW V λM K V=>?_;rw[e7,e7];rw[W] at S ⊢;rw[V] at R ⊢;exact cy (gx L::T) (by simp[N]) (by show gx L::qY 1 (x::y)=_;rw[S];rfl) (by show gx L::qY 1 (M::K)=_;rw[R];rfl)
theorem I6{Z:Gp}{Y:aa Gp}:∀(m a:ah),qY a (bN m gE++Z::Y)=bN m (0,0)++qY (a+m) (Z::Y):=by
 intro m;induction m with|zero=>exactλa=>rfl|succ m X=>
  intro a;rw[jF,e7,jF,e7];have:∃x y,bN m gE++Z::Y=x::y:=by induction m using cJ with |zero=>exact kZ _ _ rfl|succ m=>exact kZ _ _ (by rw[jF];rfl)
  (refine lW this λx y e=>?_;clear this);rw[e] at X ⊢;show (if gE=gE then (0,0)::qY (a+1) (x::y) else _)=_;rw[aW rfl,X,show a+1+m=a+(m+1) by exact lZ [.p (.p V0 (.n 1)) V1,.p V0 (.p V1 (.n 1))] rfl]
noncomputable def wd(f:Gp->ah)(G:aa Gp):ah:=(G.map λg=>f g+1).sum
noncomputable abbrev l1(g:Gp):ah:=g.1.length
noncomputable abbrev l2(g:Gp):ah:=g.2.length
theorem jv{i j:ah}{g h:Gp}{r:aa Gp}{t:ah×ah}{Z:aa (ah×ah)}:emit i j (g::h::r) (t::Z)=CJ i j g t++(i+g.1.length,j+g.2.length)::emit (i+g.1.length+1) (j+g.2.length+1) (h::r) Z:=rfl
theorem DS{gl:Gp}{rest:aa Gp}{X:aa (ah×ah)}(U:rest≠[]):∀(Z:aa Gp)(T:aa (ah×ah))(i j:ah),T.length=Z.length->emit i j (Z++gl::rest) (T++gx gl::X)=emit i j (Z++[ig gl]) (T++[((gx gl).1,0)])++(cW (di gl)).map (λd=>(i+wd l1 Z+l1 gl-di gl+d,j+wd l2 Z+l2 gl-di gl+d))++(i+wd l1 Z+l1 gl,j+wd l2 Z+l2 gl)::emit (i+wd l1 Z+l1 gl+1) (j+wd l2 Z+l2 gl+1) rest X:=by
 intro Z;induction Z with
 |nil=> intro T i j h;induction T using aO with|cons=>exact dY h|nil=>induction rest using aO with|nil=>exact aJ rfl U|cons x y=>
    show emit i j (gl::x::y) (gx gl::X)=CJ i j (ig gl) ((gx gl).1,0)++_++_;rw[jv]
    unfold CJ;simp[wd,gx,bV]|cons g Z Y=> intro T i j h;induction T using aO with |nil=>exact dY h|cons t T=>
   have W:∃x y,Z++gl::rest=x::y:=by cases Z<;>exact kZ _ _ rfl
   have V:∃x y,Z++[ig gl]=x::y:=by cases Z<;>exact kZ _ _ rfl
   have Y:=Y T (i+g.1.length+1) (j+g.2.length+1) (by simpa using h);refine lW W λx y W=>?_;refine lW V λS R V=>?_;have w:∀f:Gp->ah,wd f (g::Z)=f g+1+wd f Z:=λf=>by simp[wd]
   rw[e7,e7,e7,e7];rw[W,V] at Y ⊢;rw[jv,jv,Y,w,w];have a1:∀z,i+(l1 g+1+wd l1 Z)+z=i+g.1.length+1+wd l1 Z+z:=λz=>by show i+(g.1.length+1+wd l1 Z)+z=_;exact vh [.p (.p V0 (.p (.p V1 (.n 1)) V2)) V3,.p (.p (.p (.p V0 V1) (.n 1)) V2) V3] rfl
   have a2:∀z,j+(l2 g+1+wd l2 Z)+z=j+g.2.length+1+wd l2 Z+z:=λz=>by show j+(g.2.length+1+wd l2 Z)+z=_;exact vh [.p (.p V0 (.p (.p V1 (.n 1)) V2)) V3,.p (.p (.p (.p V0 V1) (.n 1)) V2) V3] rfl
   rw[a1,a2];simp[bV]
theorem GV{Z:Gp}{Y:aa Gp}{X:aa (ah×ah)}:∀(m i j:ah),emit i j (bN m gE++Z::Y) (bN m (0,0)++X)=(cW m).map (λd=>(i+d,j+d))++emit (i+m) (j+m) (Z::Y) X:=by
 intro m;induction m with |zero=>exactλi j=>rfl|succ m W=>
  intro i j;have:∃x y,bN m gE++Z::Y=x::y:=by induction m using cJ with |zero=>exact kZ _ _ rfl|succ m=>exact kZ _ _ (by rw[jF];rfl)
  (refine lW this λx y e=>?_;clear this);rw[jF,e7,jF,e7];rw[e] at W ⊢;show CJ i j gE (0,0)++(i+0,j+0)::emit (i+0+1) (j+0+1) (x::y) _=_;rw[kh,kh,W,r5,ek,b5];have V:(λd=>(i+d,j+d)) ∘ lD=λd=>(i+1+d,j+1+d):=by
   funext d;show (i+(d+1),j+(d+1))=_;rw[show i+(d+1)=i+1+d by exact lZ [.p V0 (.p V1 (.n 1)),.p (.p V0 (.n 1)) V1] rfl,show j+(d+1)=j+1+d by exact lZ [.p V0 (.p V1 (.n 1)),.p (.p V0 (.n 1)) V1] rfl]
  rw[V,show i+(m+1)=i+1+m by exact lZ [.p V0 (.p V1 (.n 1)),.p (.p V0 (.n 1)) V1] rfl,show j+(m+1)=j+1+m by exact lZ [.p V0 (.p V1 (.n 1)),.p (.p V0 (.n 1)) V1] rfl];rfl
theorem BO{Z:Gp}{Y:aa Gp}{a:ah}(h:Y≠[]->Z≠gE/\gQ Y<=a)(i j:ah):emit i j (Z::Y) (qY a (Z::Y))=(cW (alike Z.1 Z.2)).map (λd=>(i+d,j+d))++emit (i+alike Z.1 Z.2) (j+alike Z.1 Z.2) (f9 Z::Y) (BN (f9 Z::Y)):=by
 have X:=cN Z.1 Z.2;induction Y using aO with
 |nil=>
  show CJ i j Z (alike Z.1 Z.2,0)=_++CJ _ _ (f9 Z) (alike (f9 Z).1 (f9 Z).2,0);rw[(pL _ _)];rfl|cons x y=>
  refine bq (h (by simp)) λT S=>?_;have R:qY a (Z::x::y)=ie Z::qY 1 (x::y):=by
   show (if Z=gE then _ else (if gQ (x::y)<=a then ie Z else gx Z)::qY 1 (x::y))=_;rw[aI T,aW S]
  rw[R,(rfl:BN (f9 Z::x::y)=gx (f9 Z)::qY 1 (x::y)),jv,jv];have V:(f9 Z).1.length=Z.1.length-alike Z.1 Z.2:=by simp[f9]
  have U:(f9 Z).2.length=Z.2.length-alike Z.1 Z.2:=by simp[f9]
  have Q:gx (f9 Z)=(0,(ie Z).2):=Prod.ext (DO Z) rfl;rw[Q,V,U,show i+alike Z.1 Z.2+(Z.1.length-alike Z.1 Z.2)=i+Z.1.length by exact vh [.p (.p V0 V1) V2,.p V0 V3,.p V2 V1,V3] rfl (eO (X.1)),show j+alike Z.1 Z.2+(Z.2.length-alike Z.1 Z.2)=j+Z.2.length by exact vh [.p (.p V0 V1) V2,.p V0 V3,.p V2 V1,V3] rfl (eO (X.2))];unfold CJ;rw[V,U];have W:=mw (f9 Z);rw[V,U] at W;simp only[DP,List.range_zero,List.map_nil,fc,bV];congr 3;·funext d;rw[show i+alike Z.1 Z.2+(Z.1.length-alike Z.1 Z.2)-di (f9 Z)+d=i+Z.1.length-di (f9 Z)+d by exact L1 [.p V0 V1,.p V2 V1,.p V0 V3,.p (.p V4 V5) V6,.p V6 V5,V7,.p V4 V7,.p V2 V3] rfl (eO (Z4 [V0,.p (.p V1 V2) V3,V0,V3] rfl W.1)) (eO (X.1)) (Eq.symm (eO (Z6 [V0,.p V1 V2,.p V3 V0,.p (.p V1 V4) V5,.p V5 V4,V2] rfl (Q2 (Z4 [V0,.p (.p V1 V2) V3,V0,V3] rfl W.1)) (Q2 (X.1))))),show j+alike Z.1 Z.2+(Z.2.length-alike Z.1 Z.2)-di (f9 Z)+d=j+Z.2.length-di (f9 Z)+d by exact L1 [.p V0 V1,.p V2 V1,.p V0 V3,.p (.p V4 V5) V6,.p V6 V5,V7,.p V4 V7,.p V2 V3] rfl (eO (Z4 [V0,.p (.p V1 V2) V3,V0,V3] rfl W.2)) (eO (X.2)) (Eq.symm (eO (Z6 [V0,.p V1 V2,.p V3 V0,.p (.p V1 V4) V5,.p V5 V4,V2] rfl (Q2 (Z4 [V0,.p (.p V1 V2) V3,V0,V3] rfl W.2)) (Q2 (X.2)))))]
end cZ
end
section
open PySem PySem.W PySem.Calls PyProof.Rows
namespace cZ
noncomputable def aT(l:aa ai):aa DV:=l.map .str
theorem cP{l:aa ai}{i:ah}{a:ai}(h:l[i]?=af a):(aT l)[i]?=af (.str a):=by rw[aT,dN,h];rfl
theorem nF{α:Type}{l:aa α}{k:ah}(h:k<l.length):∃a,l[k]?=af a:=⟨_,c7 h⟩
theorem zS{α:Type}{l:aa α}{d:α}:(l++[d])[(l++[d]).length-(0+1)]?=af d:=by simp
theorem nG{l:aa DV}{i:aq}{k:ah}{d:DV}{f:DV->Prop}(hi:i=((k:ah):aq))(e:l[k]?=af d)(h:f d):MQ l i f:=by subst hi;exact bO e h
theorem nH(K:ah)(H:aa AO)(l m:aa ai)(L:l.length<2^62)(J:m.length<2^62)(PP:AV->aa AO->Prop)(F:PP (.d (.int (alike l m))) H):Fn (K+1) 417 [.d (.lst (aT l)),.d (.lst (aT m))] H PP:=by
 refine Ot.use Ou rfl λE=>?_;have Z:(aT l).length=l.length:=bB _;have Y:(aT m).length=m.length:=bB _;have T:=cN l m;conv=>whnf
 refine⟨λn I=>∃k,I=⟨[af (.d (.lst (aT l))),af (.d (.lst (aT m))),af (.d (.int (k:ah))),none],H⟩/\k+n=alike l m,alike l m,⟨0,rfl,eV _⟩,?_⟩;(refineλn I W=>aQ W λk S V=>?_;clear W;subst S);conv=>whnf
 have stop:k=alike l m->c_ H PP (.ret (.d (.int (k:ah)))) ⟨[af (.d (.lst (aT l))),af (.d (.lst (aT m))),af (.d (.int (k:ah))),none],H⟩:=by
  rintro rfl;exact c_.same (e:=[]) E (by simp) F
 refine⟨by exact Z2 [.p V0 (.n 1),.n (2^62),.p V1 (.n 1),.n (2^62),V0,V1] (by kernel_rfl) L (Qe Z),?_⟩;refine⟨λR=>?_,λR=>?_⟩
 ·have R:=b3 R;refine⟨by exact Z2 [.p V0 (.n 1),.n (2^62),.p V1 (.n 1),.n (2^62),V0,V1] (by kernel_rfl) J (Qe Y),?_⟩;refine⟨λQ=>?_,λQ=>?_⟩
  ·have Q:=b3 Q;refine aZ (nF (l:=l) (k:=k) (i7 (Int.ofNat_lt.mp R) Z)) λa P=>aZ (nF (l:=m) (k:=k) (i7 (Int.ofNat_lt.mp Q) Y)) λb O=>?_;refine⟨by exact Z2 [.p V0 (.n 1),.n (2^62),.p V1 (.n 1),.n (2^62),V0,V1] (by kernel_rfl) L (Qe Z),bO (cP P) ?_⟩;refine⟨by exact Z2 [.p V0 (.n 1),.n (2^62),.p V1 (.n 1),.n (2^62),V0,V1] (by kernel_rfl) J (Qe Y),bO (cP O) ?_⟩;refine⟨λU=>?_,λU=>?_⟩
   ·have U:=b3 U;subst U;have X:k<alike l m:=by
     refine lE (Z3 [V0,V1,.p V0 V2,V1] rfl (Qe V)) λe=>?_;subst e;exact lg l m P O rfl
    refine⟨λN=>?_,nofun⟩;exact aP (n-1) (Q2 (Z3 [.n 1,V0,V1,.p V2 V0,.p V2 (.n 1),V1] rfl (Qf V) X)) (aP (k+1) rfl (vh [.p (.p V0 (.n 1)) V1,V2,.p V0 V3,V2,.p V1 (.n 1),V3] rfl V (eO (Z3 [.n 1,V0,V1,.p V2 V0,.p V2 (.n 1),V1] rfl (Qf V) X))))
   ·have U:=eG U;refine⟨nofun,λN=>stop ?_⟩;refine cY (Z3 [V0,V1,.p V0 V2,V1] rfl (Qe V)) (ff λX=>?_);refine aQ (ue l m k X) λc M G=>?_;have M:=P▸M;rw[O] at G;cases M;cases G;exact U rfl
  ·have:=eG Q;refine⟨nofun,λN=>?_⟩;exact stop (cY (V▸dh k n) (br T.2 (Y▸ff λh=>this (Int.ofNat_lt.mpr h))))
 ·have:=eG R;refine⟨nofun,λN=>?_⟩;exact stop (cY (V▸dh k n) (br T.1 (Z▸ff λh=>this (Int.ofNat_lt.mpr h))))
section
variable{K:ah}{H:aa AO}{PP:AV->aa AO->Prop}
theorem Ll{a b c:DV}(Y:PP (.d (.qI [a,b,c])) H):Fn (K+1) 82 [.d (.con (.ref 135)),.d a,.d b,.d c] H PP:=by
 refine Rj.use Rk rfl λX=>?_;refine⟨rfl,?_⟩;have Z:3<=bw:=by decide
 refine⟨Z,⟨rfl,Z⟩,?_⟩;exact c_.same (e:=[]) X (by simp) Y
theorem I7{l:aa DV}(Z:l.length=3)(Y:PP (.d (.qI l)) H):Fn (K+1) 89 [.d (.con (.ref 135)),.d (.tup l)] H PP:=by
 refine Rm.use Rn rfl λX=>?_;refine⟨⟨rfl,by rw[Z];decide⟩,?_⟩;refine⟨by rw[Z];decide,?_⟩;refine⟨λh=>?_,λh=>?_⟩;·rw[Z] at h;exact aJ h (by decide)
 ·exact c_.same (e:=[]) X (by simp) Y
theorem I8{x:ai}(Z:PP (.d (.bool (decide (x="")||decide (x=".")))) H):Fn (K+1) 410 [.d (.str x)] H PP:=by
 refine Oo.use Oq rfl λY=>?_;refine⟨λh=>?_,λh=>?_⟩;·refine c_.same (e:=[]) Y (by simp) ?_;rw[show decide (x="")=aj from h] at Z ⊢;exact Z
 ·refine c_.same (e:=[]) Y (by simp) ?_;rw[show decide (x="")=aC from h] at Z;exact Z
theorem DT{b:aK dQ}(Z:PP (.d (.bytes b)) H):Fn (K+1) 253 [.d (.bytes b)] H PP:=by
 refine N1.use N2 rfl λY=>?_;refine⟨λh=>?_,λh=>aJ h (by decide)⟩;exact c_.same (e:=[]) Y (by simp) Z
theorem GW(Y:PP (.d (.bool aC)) H):Fn (K+1) 260 [.d (.bool aC)] H PP:=by
 refine N3.use N4 rfl λX=>?_;refine⟨λZ=>?_,λh=>aJ h (by decide)⟩;refine⟨λh=>aJ h (by decide),λZ=>?_⟩;refine⟨λh=>?_,λh=>aJ h (by decide)⟩;refine⟨λh=>aJ h (by decide),λZ=>?_⟩;exact c_.same (e:=[]) X (by simp) Y
theorem qZ{x:ai}(Z:PP (.d (.str x)) H):Fn (K+1) 356 [.d (.str x)] H PP:=by
 refine N9.use N_ rfl λY=>?_;refine⟨rfl,by decide,?_⟩;refine⟨⟨rfl,rfl⟩,?_⟩;refine⟨λh=>?_,λh=>aJ h (by decide)⟩;exact c_.same (e:=[]) Y (by simp) Z
end
noncomputable def gD(g:Gp):DV:=.tup [.lst (aT g.1),.lst (aT g.2)]
noncomputable def p6:aa (aa ai):=[[],["."],[""],[".","."],["","."],[".","","."]]
noncomputable def oq(n:ah):Gp:=if n%2=0 then ([],[]) else (p6.getD (n/2%6) [],p6.getD (n/12%6) [])
theorem ru(n m:ah):((n:aq).fdiv m)=((n/m:ah):aq):=by rw[Int.fdiv_eq_ediv_of_nonneg _ (e6 m)];rfl
theorem p7(n m:ah):((n:aq).fmod m)=((n%m:ah):aq):=by rw[Int.fmod_eq_emod_of_nonneg _ (e6 m)];rfl
theorem Lm(x:aq){m:ah}(Z:m<2^64):AG x m=aC:=by
 unfold AG;dsimp only;have:¬(if ((m:aq)==0)=aj then 0 else ((m:aq).natAbs.log2)/30+1)>300:=by
  split;·exact Nat.not_lt_of_le (Z0 [.n 0,.n 300] rfl)
  ·rename_i h;have:m.log2<64:=(Nat.log2_lt (λe=>h (by rw[e];rfl))).mpr Z;exact Nat.not_lt_of_le (br (fh (Nat.div_le_self _ _)) (br this (by decide)))
 rw[gA this,Bool.false_and]
theorem zT{k:ah}(h:k<6):(p6.map λl=>DV.lst (aT l))[k]?=af (.lst (aT (p6.getD k []))):=by rw[dN,oN,c7 (show k<p6.length from h)];rfl
section
variable{K:ah}{H:aa AO}{PP:AV->aa AO->Prop}
theorem Ln{n:ah}(T:n<100000)(Z:PP (.d (gD (oq n))) H):Fn (K+1) 403 [.d (.int n)] H PP:=by
 refine Ol.use Om rfl λX=>?_;iterate 7 ((conv=>whnf);refine⟨rfl,by decide,?_⟩)
 refine⟨by decide,?_⟩;refine⟨λh=>?_,λh=>?_⟩
 ·have h:=b3 h;iterate 2 ((conv=>whnf);refine⟨rfl,by decide,?_⟩)
  refine⟨rfl,by decide,?_⟩;refine c_.same (e:=[]) X (by simp) ?_;have e:n%2=0:=by
   have:((n%2:ah):aq)=0:=by rw[<-p7];exact h
   exact iz this
  rw[oq,aW e] at Z;exact Z
 ·have h:=eG h;have W:(2:aq)=((2:ah):aq):=rfl;have V:(6:aq)=((6:ah):aq):=rfl;have Y:(12:aq)=((12:ah):aq):=rfl;have U:((n:aq).fdiv 2).fmod 6=((n/2%6:ah):aq):=by rw[W,ru,V,p7]
  refine⟨by decide,Lm (m:=2) _ (by decide),?_⟩;refine⟨by decide,?_⟩;refine⟨by decide,nG U (zT (dZ (n/2) (by decide))) ?_⟩;refine⟨by decide,Lm (m:=12) _ (by decide),?_⟩;refine⟨by decide,?_⟩;refine⟨by decide,nG (by rw[Y,ru,V,p7]) (zT (dZ (n/12) (by decide))) ?_⟩;refine⟨rfl,(by decide:2<=bw),?_⟩;refine c_.same (e:=[]) X (by simp) ?_;rw[oq,aI (λe=>h (by rw[W,p7,e];rfl))] at Z;exact Z
end
set_option tactic.hygienic true in theorem eJ(a b:ah):qv a b 1=(cW (b-a)).map (a+·):=by
 unfold qv;have e:(if (1:aq)>0 then (if (a:aq)<b then ((b:aq)-a+1-1)/1 else 0) else (if (a:aq)>b then ((a:aq)-b-1-1)/(-1) else 0)).toNat=b-a:=by
  rw[aW (by decide)];split;·rw[wj,Int.ediv_one];exact Int.toNat_sub b a
  ·rename_i h;exact(r9 (Int.ofNat_le.mp (Int.not_lt.mp h))).symm
 dsimp only;rw[e];refine gk λk Z=>?_;exact cY (Qz (bJ [_,_,_] [] 1 [] [.c V0,.c (.p V1 V2),.c V0,.p (.c V1) (.m 1 (.c V2))] rfl (Q5 (bJ [_,_] [] 1 [] [.n 0,.p (.c V0) (.m 1 (.c V1))] rfl)))) (Qz (bJ [_,_,_] [] 1 [] [.c (.p V0 V1),.c V2,.p (.c V0) (.m 1 (.c V1)),.c V2] rfl Q4))
theorem mz{α:Type}(l:aa α)(a:ah):∀k:ah,((cW k).map (a+·)).filterMap (l[·]?)=(l.drop a).take k:=by
 intro k;induction k with|zero=>exact by simp|succ k Z=>
  rw[List.range_succ,c8,List.filterMap_append,Z,mX,oK];cases h:l[a+k]?<;>simp[h]
theorem filterMap_eq{α Z:Type}{f g:α->aA Z}:∀{l:aa α},(∀x∈l,f x=g x)->l.filterMap f=l.filterMap g:=by
 intro l;induction l with |nil=>exactλW=>rfl|cons x l Y=>exactλh=>by rw[Av,Av,h x (.head _),Y λy X=>h y (.tail _ X)]
theorem DU{α:Type}(l:aa α):((cW l.length).map λk=>l.length-1-k).filterMap (l[·]?)=l.reverse:=by
 have e:((cW l.length).map λk=>l.length-1-k).filterMap (l[·]?)=(cW l.length).filterMap λk=>l.reverse[k]?:=by
  rw[List.filterMap_map];refine filterMap_eq λk Z=>?_;show l[l.length-1-k]?=_;rw[List.getElem?_reverse (List.mem_range.mp Z)]
 rw[e];have:=mz l.reverse 0 l.length;rw[mV,i6 (by simp)] at this;simpa using this
theorem lq(i n:ah):(max 0 (min (if(i:aq)<0 then(i:aq)+n else(i:aq)) (n:aq)))=((min i n:ah):aq):=by exact(Nat.le_total i n).elim (λh=>by rw[eW h,Int.min_eq_left (Int.ofNat_le.mpr h),Int.max_eq_right (e6 _)]) λh=>by rw[sj h,Int.min_eq_right (Int.ofNat_le.mpr h),Int.max_eq_right (e6 _)]
theorem p8{α:Type}(l:aa α)(b:ah):pe l none (af (b:aq)) none=l.take b:=by
 unfold pe iH;simp only[wV,show (1:aq)>0 by decide,if_true,lq];have:=eJ 0 (min b l.length);rw[this,mz];simp
theorem q7{α:Type}(l:aa α)(a:ah):pe l (af (a:aq)) none none=l.drop a:=by
 unfold pe iH;simp only[wV,show (1:aq)>0 by decide,if_true,lq];rw[eJ,mz];by_cases h:a<=l.length;·rw[eW h,i6 (by simp)]
 ·rw[dH (cA (sj (sq h)).symm),dH (sq h)];simp
theorem zU{α:Type}(l:aa α)(a b:ah):pe l (af (a:aq)) (af (b:aq)) none=(l.take b).drop a:=by
 unfold pe iH;simp only[wV,show (1:aq)>0 by decide,if_true,lq];rw[eJ,mz,List.drop_take];by_cases h:a<=l.length
 ·rw[eW h];by_cases Z:b<=l.length;·rw[eW Z]
  ·rw[sj (by exact Z2 [V0,V1,.p V0 (.n 1),V1] rfl (Qa Z)),i6 (by simp),i6 (by simp;exact Z4 [V0,.p V1 V2,.p V0 (.n 1),V3,V3,.p V1 V2] rfl (Qa Z) Q1)]
 ·rw[dH (cA (sj (sq h)).symm),dH (sq h)];simp
theorem uf{α:Type}(l:aa α):pe l none none (af (-1))=l.reverse:=by
 unfold pe iH;simp only[wW,show¬((-1:aq)>0) by decide,kL];rw[<-DU];congr 1;unfold qv;simp only[show¬((-1:aq)>0) by decide,kL];have e:(if (l.length:aq)-1>-1 then ((l.length:aq)-1- -1- -1-1)/(- -1) else 0).toNat=l.length:=by
  rw[show (- -1:aq)=1 by decide,Int.ediv_one];split;·simp only[Int.sub_neg,wk,wj];exact dM _
  ·exact(Az λp=>‹¬_› (Int.sub_lt_sub_right (a:=0) (Int.ofNat_lt.mpr p) 1)).symm
 rw[e];refine gk λk Z=>?_;have Z:=List.mem_range.mp Z;lia
theorem I9(x:ai)(b:ah):(qN x none (af (b:aq))).cps.toList=x.cps.toList.take b:=by
 unfold qN;have e:lO none (af (b:aq)) 1 x.length=(cW (min b x.length)).map (0+·):=by
  unfold lO;simp only[show (1:aq)>0 by decide,if_true,lq];exact eJ 0 (min b x.length)
 rw[e];have Z:x.cps.toList.length=x.length:=rfl;split;·rename_i h;have h:=eL h;rw[bB,jz] at h;rw[i6 (br (cA (Z.trans h.symm)) (wO _ _))]
 ·show ((cW (min b x.length)).map (0+·)).filterMap (λi=>x.cps[i]?)=_;have:=mz x.cps.toList 0 (min b x.length);simp only[fS] at this;rw[this,mV,<-Z,List.take_eq_take_iff,Nat.min_assoc,Nat.min_self]
theorem DW(x:ai)(a:ah):(qN x (af (a:aq)) none).cps.toList=x.cps.toList.drop a:=by
 unfold qN;have e:lO (af (a:aq)) none 1 x.length=(cW (x.length-min a x.length)).map (min a x.length+·):=by
  unfold lO;simp only[show (1:aq)>0 by decide,if_true,lq];exact eJ (min a x.length) x.length
 rw[e];have Z:x.cps.toList.length=x.length:=rfl;split
 ·rename_i h;have h:=eL h;rw[bB,jz] at h;by_cases q:x.length=0;·rw[dH (by exact Z3 [V0,V1,V0,V2,V2,.n 0] rfl (Qe Z) (Qe q))];exact List.length_eq_zero_iff.mp (by exact lZ [V0,.n 0,V0,V1,V1,.n 0] rfl Z q)
  ·rw[Az λp=>b8 (mY (oO q) (Nat.lt_min.mpr ⟨p,oO q⟩)) h,mV]
 ·show ((cW (x.length-min a x.length)).map (min a x.length+·)).filterMap (λi=>x.cps[i]?)=_;have:=mz x.cps.toList (min a x.length) (x.length-min a x.length);simp only[fS] at this;rw[this];by_cases h:a<=x.length;·rw[eW h,i6 (by rw[gX,Z];exact bf _)]
  ·rw[dH (cA (Z.trans (sj (sq h)).symm)),dH (by exact Z3 [V0,V1,V0,V2,.p V2 (.n 1),V1] rfl (Qe Z) (Qa h))];simp
theorem zV(x:ai)(a b:ah)(Z:a<=b)(Y:b<=x.length)(h:b-a<x.length):(qN x (af (a:aq)) (af (b:aq))).cps.toList=(x.cps.toList.take b).drop a:=by
 unfold qN;have e:lO (af (a:aq)) (af (b:aq)) 1 x.length=(cW (b-a)).map (a+·):=by
  unfold lO;simp only[show (1:aq)>0 by decide,if_true,lq];rw[eW Y,eW (by exact Z3 [V0,V1,V0,V2,V2,V1] rfl Z Y)];exact eJ a b
 rw[e,aI (by simp;exact b8 (h))];have:=mz x.cps.toList a (b-a);simp only[fS] at this;rw[this,List.drop_take]
theorem rF{p:Prop}{i:o8 p}(h:@decide p i=aj):p:=@b3 p i h
theorem ug{p:Prop}{i:o8 p}(h:@decide p i=aC):¬p:=@eG p i h
noncomputable def nI(p n:ah):aa ah:=[p,n/72%256,n/72/3%256].take (1+n/72%3)
noncomputable def bQ(l:aa ah):aa DV:=l.map λ(x:ah)=>.int (x:aq)
theorem GX{g:Gp}(h:gD g=gD gE):g=gE:=by
 obtain⟨a,b⟩:=g;have h:DV.tup [.lst (aT a),.lst (aT b)]=DV.tup [.lst [],.lst []]:=h;simp only[DV.tup.injEq,r7,DV.lst.injEq,and_true] at h;have Z:a=[]:=List.map_eq_nil_iff.mp h.1;rw[Z,(List.map_eq_nil_iff.mp h.2)];rfl
theorem I_:∀{G:aa Gp}{e:ah},e<G.length->G.take e=bN e gE->(e+1=G.length\/∀g,G[e]?=af g->g≠gE)->gQ G=e+1:=by
 intro G;induction G with
 |nil=> intro e h _ _;simp at h|cons g Y X=>induction Y using aO with
  |nil=>
   intro e h _ _;have:e=0:=by simpa using h
   subst this;rfl|cons x r=> intro W;induction W using cJ with |zero=> intro _ _ h;have h:g≠gE:=h.resolve_left (by simp) g rfl;unfold gQ;rw[aI h]|succ e=> intro V Z U;rw[wA,jF,r7] at Z;unfold gQ;rw[aW Z.1,X (by simpa using V) Z.2 (U.imp (λh=>by simpa using h) λh g T=>h g T)]
theorem ON{X:aa Gp}{e:ah}(V:e<=X.length)(W:X.drop (X.length-e)=bN e gE)(h3:e=X.length\/∀g,X[X.length-e-1]?=af g->g≠gE):aN 1 X=e+1:=by
 rw[(by rw[<-W,iB]:X=X.take (X.length-e)++bN e gE),GP,GO];have:aN 1 (X.take (X.length-e))=1:=by
  rcases h3 with h3|h3;·rw[h3,cB];rfl
  ·by_cases q:X.length-e=0;·rw[q];rfl
   ·obtain⟨m,Y⟩:∃m,X.length-e=m+1:=⟨X.length-e-1,lZ [V0,.p V1 (.n 1),V0,.p V1 (.n 1)] rfl (Eq.symm (eO ((Qp q))))⟩;rw[Y] at h3 ⊢;have Z:m<X.length:=by exact Z3 [.p V0 (.n 1),V1,.p V0 (.n 1),V2,V2,V1] rfl (Qf Y) Q0
    rw[mX,c7 Z];rw[nX,aI (h3 _ (c7 Z))]
 rw[this];exact H6 [.p (.n 1) V0,.p V0 (.n 1)] rfl
theorem pN{Z:aa Gp}{k:ah}{g:Gp}(h:Z[k]?=af g):(Z.map gD)[k]?=af (gD g):=by rw[dN,h];rfl
section
variable{K:ah}{H:aa AO}{PP:AV->aa AO->Prop}
theorem DX{p n:ah}(X:PP (.d (.lst (bQ (nI p n)))) H):Fn (K+1) 396 [.d (.int p),.d (.int n)] H PP:=by
 refine Oi.use Oj rfl λW=>?_;refine⟨by decide,Lm (m:=72) _ (by decide),?_⟩;refine⟨by decide,?_⟩;refine⟨by decide,Lm (m:=3) _ (by decide),?_⟩;refine⟨by decide,?_⟩;refine⟨rfl,(by decide:3<=bw),?_⟩;refine⟨by decide,?_⟩;refine⟨(by decide:3<=bw),by decide,?_⟩;refine c_.same (e:=[]) W (by simp) ?_;have Y:(72:aq)=((72:ah):aq):=rfl;have V:(3:aq)=((3:ah):aq):=rfl;have Z:(256:aq)=((256:ah):aq):=rfl;have e:pe (e_ AV.dv [AV.d (.int p),.d (.int (((n:aq).fdiv 72).fmod 256)),.d (.int ((((n:aq).fdiv 72).fdiv 3).fmod 256))]) none (af (1+((n:aq).fdiv 72).fmod 3)) none=bQ (nI p n):=by
  rw[Y,ru,V,ru,Z,p7,p7,p7];have:=p8 (e_ AV.dv [AV.d (.int p),.d (.int ((n/72%256:ah):aq)),.d (.int ((n/72/3%256:ah):aq))]) (1+n/72%3);rw[this];unfold nI bQ;rw[wu];rfl
 exact e▸X
theorem GY{Z:aa Gp}{k:ah}(I:k+1<Z.length)(N:Z.length<2^62)(P:∀g∈Z,(gD g).eH 8=aj)(M:PP (.d (.int (gQ (Z.drop (k+1)):ah))) H):Fn (K+1) 424 [.d (.lst (Z.map gD)),.d (.int k),.d (.int 1)] H PP:=by
 refine J9.use J_ rfl λG=>?_;have Y:(Z.map gD).length=Z.length:=bB _;refine⟨λn L=>∃e,L=⟨[af (.d (.lst (Z.map gD))),af (.d (.int k)),af (.d (.int 1)),af (.d (.int ((e+1:ah):aq))),af (.d (.int ((k+1+e:ah):aq))),none],H⟩/\k+1+e<Z.length/\(Z.drop (k+1)).take e=bN e gE/\n=Z.length-e,Z.length,⟨0,rfl,I,rfl,rfl⟩,?_⟩;(refineλn L X=>m_ X λe V R J U=>?_;clear X;subst V;subst U);have stop:(e+1=(Z.drop (k+1)).length\/∀g,(Z.drop (k+1))[e]?=af g->g≠gE)->c_ H PP (.ret (.d (.int ((e+1:ah):aq)))) ⟨[af (.d (.lst (Z.map gD))),af (.d (.int k)),af (.d (.int 1)),af (.d (.int ((e+1:ah):aq))),af (.d (.int ((k+1+e:ah):aq))),none],H⟩:=λh=>by
  refine c_.same (e:=[]) G (by simp) ?_;rw[I_ (e:=e) (by rw[gX];exact Z4 [.p V0 (.n 1),V1,.p (.p (.p V2 (.n 1)) V0) (.n 1),V3,V3,.p V1 (.p V2 (.n 1))] rfl R Q1) J h] at M;exact M
 refine⟨λO=>?_,λh=>(eG h (Int.ofNat_lt.mpr (dg (mZ k) (dh _ e)))).elim⟩;refine⟨by exact Z2 [.p V0 (.n 1),.n (2^62),.p V1 (.n 1),.n (2^62),V0,V1] (by kernel_rfl) N (Qe Y),?_⟩;refine⟨λT=>?_,λT=>?_⟩
 ·have T:=b3 T;refine aZ (nF (l:=Z) (k:=k+1+e) R) λg Q=>?_;refine⟨by exact Z2 [.p V0 (.n 1),.n (2^62),.p V1 (.n 1),.n (2^62),V0,V1] (by kernel_rfl) N (Qe Y),bO (pN Q) ?_⟩;refine⟨rfl,by decide,?_⟩;refine⟨rfl,by decide,?_⟩;refine⟨rfl,(by decide:2<=bw),?_⟩;refine⟨⟨P g (j3 Q),by decide⟩,?_⟩;refine⟨λW=>?_,λW=>?_⟩
  ·have W:=rF W;have W:g=gE:=GX W;subst W;refine⟨λO=>?_,nofun⟩;refine⟨Z.length-(e+1),Nat.sub_lt_sub_left (er (lG e (k+1)) R) (jH e),e+1,?_,i7 (Int.ofNat_lt.mp (Int.add_lt_of_lt_sub_right T)) Y,?_,rfl⟩
   ·have F:((e+1:ah):aq)+1=((e+1+1:ah):aq):=by push_cast;rfl
    have E:((k+1+e:ah):aq)+1=((k+1+(e+1):ah):aq):=by push_cast;exact eU (bJ [_,_] [] 1 [] [.p (.p (.p (.c V0) (.n 1)) (.c V1)) (.n 1),.p (.p (.c V0) (.n 1)) (.p (.c V1) (.n 1))] rfl) (bJ [_,_] [] 1 [] [.p (.p (.c V0) (.n 1)) (.p (.c V1) (.n 1)),.p (.p (.p (.c V0) (.n 1)) (.c V1)) (.n 1)] rfl)
    rfl
   ·rw[mX,J,oK,Q,List.replicate_succ'];rfl
  ·refine⟨nofun,λO=>stop (.inr λD S e=>(ug W) ?_)⟩;rw[oK,Q] at S;cases S;rw[e];rfl
 ·refine⟨nofun,λO=>stop (.inl ?_)⟩;rw[gX];exact cY (Nat.le_sub_of_add_le (by rw[iE];exact R)) (Nat.sub_le_of_le_add (by rw[iE];exact br (cA Y.symm) (Int.ofNat_le.mp (Int.le_add_of_sub_right_le (Int.not_lt.mp (eG T))))))
theorem BP{Z:aa Gp}{k:ah}(h0:1<=k)(N:k+1<Z.length)(G:Z.length<2^62)(M:∀g∈Z,(gD g).eH 8=aj)(F:PP (.d (.int (aN 1 ((Z.drop 1).take (k-1)):ah))) H):Fn (K+1) 424 [.d (.lst (Z.map gD)),.d (.int k),.d (.int (-1))] H PP:=by
 refine J9.use J_ rfl λC=>?_;have U:(Z.map gD).length=Z.length:=bB _;have O:((Z.drop 1).take (k-1)).length=k-1:=by rw[dU,gX];exact eW (Nat.sub_le_sub_right (gy (Nat.lt_of_succ_lt N)) 1)
 have L:∀i,i<k-1->((Z.drop 1).take (k-1))[i]?=Z[i+1]?:=λi B=>by rw[rZ,aW B,oK,iE]
 have X:∀e,e<=k-1->((k:aq)+-1-e)=((k-1-e:ah):aq):=λe W=>by exact eU (bJ [_,_,_,_] [] 1 [] [.s (.p (.c V0) (.g (.n 1))) (.c V1),.c V2,.c V3,.c (.p V2 V1),.c V0,.c (.p V3 (.n 1))] rfl (Qn Q1) (Qn Q1)) (bJ [_,_,_,_] [] 1 [] [.c V0,.s (.p (.c V1) (.g (.n 1))) (.c V2),.c (.p V0 V2),.c V3,.c (.p V3 (.n 1)),.c V1] rfl (Qn (Q2 (W))) (Qn (Q2 (h0))))
 refine⟨λn E=>∃e,E=⟨[af (.d (.lst (Z.map gD))),af (.d (.int k)),af (.d (.int (-1))),af (.d (.int ((e+1:ah):aq))),af (.d (.int ((k:aq)+-1-e))),none],H⟩/\e<=k-1/\((Z.drop 1).take (k-1)).drop (k-1-e)=bN e gE/\n=k-e,k,⟨0,by simp;rfl,bW _,?_,rfl⟩,?_⟩;·rw[dH (by exact Z3 [V0,V1,V0,V2,V2,.p V1 (.n 0)] rfl (Qe O) Q1)];rfl
 (refineλn E V=>m_ V λe S W D R=>?_;clear V;subst S;subst R);have stop:(e=k-1\/∀g,((Z.drop 1).take (k-1))[k-1-e-1]?=af g->g≠gE)->c_ H PP (.ret (.d (.int ((e+1:ah):aq)))) ⟨[af (.d (.lst (Z.map gD))),af (.d (.int k)),af (.d (.int (-1))),af (.d (.int ((e+1:ah):aq))),af (.d (.int ((k:aq)+-1-e))),none],H⟩:=λh=>by
  refine c_.same (e:=[]) C (by simp) ?_;rw[ON (e:=e) (by rw[O];exact W) (by rw[O];exact D) (by rw[O];exact h)] at F;exact F
 refine⟨λh0=>?_,λh0=>?_⟩
 ·have h0:=b3 h0;refine⟨by exact Z2 [.p V0 (.n 1),.n (2^62),.p V1 (.n 1),.n (2^62),V0,V1] (by kernel_rfl) G (Qe U),?_⟩;refine⟨λJ=>?_,λh=>aJ (eG h) (by rw[X e W];exactλq=>q (Aq (Int.ofNat_lt.mpr (i7 (er (fh (br (kg _ _) (kg _ _))) N) U.symm))))⟩;refine aZ (nF (l:=Z) (k:=k-1-e) (Z4 [.p V0 (.n 1),V1,.p (.p V2 (.n 1)) (.n 1),V1,V0,V3,V3,V2] rfl N Q0 Q0)) λg I=>?_;refine⟨by exact Z2 [.p V0 (.n 1),.n (2^62),.p V1 (.n 1),.n (2^62),V0,V1] (by kernel_rfl) G (Qe U),nG (X e W) (pN I) ?_⟩;refine⟨rfl,by decide,?_⟩;refine⟨rfl,by decide,?_⟩;refine⟨rfl,(by decide:2<=bw),?_⟩;refine⟨⟨M g (j3 I),by decide⟩,?_⟩;have Y:e<k-1:=Nat.sub_pos_iff_lt.mp (Int.ofNat_lt.mp (by rw[<-X e W];exact h0));have Q:((Z.drop 1).take (k-1))[k-1-e-1]?=af g:=by rw[L _ (mY (m4 Y) (mZ e)),<-I];congr 1;exact eO (Nat.sub_pos_of_lt Y)
  refine⟨λT=>?_,λT=>?_⟩
  ·have T:=rF T;have T:g=gE:=GX T;subst T;refine⟨λJ=>?_,nofun⟩;refine aP (k-(e+1)) (Z4 [.p V0 (.n 1),V1,V2,.p V1 V3,.p V0 (.p V3 (.n 1)),V2] rfl Q1 (Q2 (Z3 [.p V0 (.n 1),V1,.p V0 (.n 1),V2,V2,V1] rfl Y Q0))) (lX (e+1) ?_ Y ?_ rfl)
   ·have A:((e+1:ah):aq)+1=((e+1+1:ah):aq):=by push_cast;rfl
    have z:((k:aq)+-1-e)+-1=((k:aq)+-1-((e+1:ah):aq)):=by push_cast;exact eU (bJ [_,_] [] 1 [] [.p (.s (.p (.c V0) (.g (.n 1))) (.c V1)) (.g (.n 1)),.s (.p (.c V0) (.g (.n 1))) (.p (.c V1) (.n 1))] rfl) (bJ [_,_] [] 1 [] [.s (.p (.c V0) (.g (.n 1))) (.p (.c V1) (.n 1)),.p (.s (.p (.c V0) (.g (.n 1))) (.c V1)) (.g (.n 1))] rfl)
    rw[<-A,<-z];rfl
   ·rw[show k-1-(e+1)=k-1-e-1 from rfl,jF];have:((Z.drop 1).take (k-1)).drop (k-1-e-1)=gE::((Z.drop 1).take (k-1)).drop (k-1-e):=by
     refine aZ (gi Q) λy x=>?_;rw[e8 y,x,show k-1-e-1+1=k-1-e by exact lZ [.p V0 (.n 1),V1,.p V0 (.n 1),V1] rfl (eO (Z3 [.n 1,V0,.p V1 (.n 1),V2,V2,.p V0 V1] rfl Y Q1))]
    rw[this,D]
  ·refine⟨nofun,λJ=>stop (.inr λw P e=>(ug T) ?_)⟩;rw[Q] at P;cases P;rw[e];rfl
 ·refine⟨nofun,λJ=>stop (.inl (cY W (Nat.le_of_sub_eq_zero (Az λp=>(eG h0) (by rw[X e W];exact Int.ofNat_lt.mpr p)))))⟩
end
noncomputable def dK(Z:aa Gp)(k:ah)(g:Gp):ah×ah:=if k+1=Z.length then (alike g.1 g.2,0) else if 0<k/\gQ (Z.drop (k+1))<=aN 1 ((Z.drop 1).take (k-1)) then ie g else gx g
theorem uh(l:aa ai)(a:ah):(aT l).drop a=aT (l.drop a):=by unfold aT;rw[List.map_drop]
theorem jV(l:aa ai)(a:ah):(aT l).take a=aT (l.take a):=by unfold aT;rw[wu]
theorem q8(l:aa ai):(aT l).reverse=aT l.reverse:=by unfold aT;rw[List.map_reverse]
theorem bA(l:aa ai):(aT l).length=l.length:=bB _
section
variable{K:ah}{H:aa AO}{PP:AV->aa AO->Prop}
noncomputable def tD(t:ah×ah):DV:=.tup [.int t.1,.int t.2]
theorem zW(l:aa ai)(a:ah):pe (pe (aT l) (af (a:aq)) none none) none none (af (-1))=aT (l.drop a).reverse:=by rw[q7,uf,uh,q8]
theorem zX{n:ah}{l m:aa ai}{x0 X T S W V U:aA AV}{P:Fl->AS->Prop}(Y:l.length<2^20/\m.length<2^20)(h:P .next ⟨[x0,X,af (.d (.lst (aT l))),af (.d (.lst (aT m))),af (.d (.int ((ie (l,m)).1:ah))),af (.d (.int ((ie (l,m)).2:ah))),W,V,U],H⟩):VS (c6 (K+1)) (n+40) [IS.asg [IT.loc 4] ((IE.bR (g9 417)).call [IE.loc 2,IE.loc 3]),IS.asg [IT.loc 5] ((IE.bR (g9 417)).call [((IE.loc 2).slc (af (IE.loc 4)) none none).slc none none (af (IE.k (DV.int 1)).neg),((IE.loc 3).slc (af (IE.loc 4)) none none).slc none none (af (IE.k (DV.int 1)).neg)])] P ⟨[x0,X,af (.d (.lst (aT l))),af (.d (.lst (aT m))),T,S,W,V,U],H⟩:=by
 have Z:2^20<=bw:=by decide
 have l1:=bA l;have l2:=bA m;refine⟨by decide,?_⟩;refine nH _ _ _ _ (by exact Z1 [.p V0 (.n 1),.n (2^62),.p V0 (.n 1),.n (2^20)] (by kernel_rfl) Y.1) (by exact Z1 [.p V0 (.n 1),.n (2^62),.p V0 (.n 1),.n (2^20)] (by kernel_rfl) Y.2) _ ?_;refine⟨by exact Z3 [V0,V1,.p V2 (.n 1),.n (2^20),.n (2^20),V1,V0,V2] (by kernel_rfl) Y.1 Z (Qe l1),nofun,?_⟩;refine⟨by rw[q7,gX];exact Z4 [V0,V1,.p V2 (.n 1),.n (2^20),.n (2^20),V1,V3,V2,V0,V3] (by kernel_rfl) Y.1 Z (Qe l1) Q0,by decide,?_⟩;refine⟨by exact Z3 [V0,V1,.p V2 (.n 1),.n (2^20),.n (2^20),V1,V0,V2] (by kernel_rfl) Y.2 Z (Qe l2),nofun,?_⟩;refine⟨by rw[q7,gX];exact Z4 [V0,V1,.p V2 (.n 1),.n (2^20),.n (2^20),V1,V3,V2,V0,V3] (by kernel_rfl) Y.2 Z (Qe l2) Q0,by decide,?_⟩;refine⟨by decide,?_⟩;rw[zW,zW];refine nH _ _ _ _ (by simp;exact Z2 [.p V0 (.n 1),.n 4611686018427387904,.p V1 (.n 1),.n (2^20),V0,V1] (by kernel_rfl) Y.1 Q0) (by simp;exact Z2 [.p V0 (.n 1),.n 4611686018427387904,.p V1 (.n 1),.n (2^20),V0,V1] (by kernel_rfl) Y.2 Q0) _ ?_;exact h
theorem zY(l:aa ai)(a:ah)(h:a<=l.length):pe (aT l) none (af (((aT l).length:aq)-a)) none=aT (l.take (l.length-a)):=by rw[show (((aT l).length:aq)-a)=((l.length-a:ah):aq) by rw[bA];exact eU (bJ [_,_,_] [] 1 [] [.s (.c V0) (.c V1),.c V2,.c V0,.c (.p V2 V1)] rfl (Qn Q1)) (bJ [_,_,_] [] 1 [] [.c V0,.s (.c V1) (.c V2),.c (.p V0 V2),.c V1] rfl (Qn (Q2 (h)))),p8,jV]
theorem vU{n:ah}{l m:aa ai}{x0 X T S W V U:aA AV}{P:Fl->AS->Prop}(Z:l.length<2^20/\m.length<2^20)(h:P .next ⟨[x0,X,af (.d (.lst (aT l))),af (.d (.lst (aT m))),af (.d (.int ((gx (l,m)).1:ah))),af (.d (.int ((gx (l,m)).2:ah))),W,V,U],H⟩):VS (c6 (K+1)) (n+40) [IS.asg [IT.loc 5] ((IE.bR (g9 417)).call [(IE.loc 2).slc none none (af (IE.k (DV.int 1)).neg),(IE.loc 3).slc none none (af (IE.k (DV.int 1)).neg)]),IS.asg [IT.loc 4] ((IE.bR (g9 417)).call [(IE.loc 2).slc none (af (IE.bin Operator.Sub ((IE.bR (xu "len")).call [IE.loc 2]) (IE.loc 5))) none,(IE.loc 3).slc none (af (IE.bin Operator.Sub ((IE.bR (xu "len")).call [IE.loc 3]) (IE.loc 5))) none])] P ⟨[x0,X,af (.d (.lst (aT l))),af (.d (.lst (aT m))),T,S,W,V,U],H⟩:=by
 have Y:2^20<=bw:=by decide
 have a1:=mw (l,m);have l1:=bA l;have l2:=bA m;refine⟨by exact Z3 [V0,V1,.p V2 (.n 1),.n (2^20),.n (2^20),V1,V0,V2] (by kernel_rfl) Z.1 Y (Qe l1),by decide,?_⟩;refine⟨by exact Z3 [V0,V1,.p V2 (.n 1),.n (2^20),.n (2^20),V1,V0,V2] (by kernel_rfl) Z.2 Y (Qe l2),by decide,?_⟩;refine⟨by decide,?_⟩;rw[uf,uf,q8,q8];refine nH _ _ _ _ (by simp;exact Z1 [.p V0 (.n 1),.n 4611686018427387904,.p V0 (.n 1),.n (2^20)] (by kernel_rfl) Z.1) (by simp;exact Z1 [.p V0 (.n 1),.n 4611686018427387904,.p V0 (.n 1),.n (2^20)] (by kernel_rfl) Z.2) _ ?_;refine⟨by exact Z2 [.p V0 (.n 1),.n (2^62),.p V1 (.n 1),.n (2^20),V0,V1] (by kernel_rfl) Z.1 (Qe l1),?_⟩;refine⟨by exact Z3 [V0,V1,.p V2 (.n 1),.n (2^20),.n (2^20),V1,V0,V2] (by kernel_rfl) Z.1 Y (Qe l1),nofun,?_⟩;refine⟨by exact Z2 [.p V0 (.n 1),.n (2^62),.p V1 (.n 1),.n (2^20),V0,V1] (by kernel_rfl) Z.2 (Qe l2),?_⟩;refine⟨by exact Z3 [V0,V1,.p V2 (.n 1),.n (2^20),.n (2^20),V1,V0,V2] (by kernel_rfl) Z.2 Y (Qe l2),nofun,?_⟩;refine⟨by decide,?_⟩;rw[zY l (alike l.reverse m.reverse) a1.1,zY m (alike l.reverse m.reverse) a1.2];refine nH _ _ _ _ (er (List.length_take_le' _ _) (dg Z.1 (by decide))) (er (List.length_take_le' _ _) (dg Z.2 (by decide))) _ ?_;exact h
theorem GZ{Y:aa Gp}{k:ah}{g:Gp}(Q:Y[k]?=af g)(S:Y.length<2^20)(V:∀g∈Y,(gD g).eH 8=aj)(U:g.1.length<2^20/\g.2.length<2^20)(N:PP (.d (tD (dK Y k g))) H):Fn (K+2) 431 [.d (.lst (Y.map gD)),.d (.int k)] H PP:=by
 refine Ov.use Ow rfl λM=>?_;have X:(Y.map gD).length=Y.length:=bB _;have P:k<Y.length:=(gi Q).1;have ret:∀(R:AS) (t:ah×ah),R.heap=H->dK Y k g=t->c_ H PP (.ret (.d (tD t))) R:=λR t h e=>by
  refine c_.same (e:=[]) M (by rw[h];simp) ?_;rw[<-e];exact N
 refine⟨by exact Z2 [.p V0 (.n 1),.n (2^62),.p V1 (.n 1),.n (2^20),V0,V1] (by kernel_rfl) S (Qe X),bO (pN Q) ?_⟩;refine⟨rfl,?_⟩;refine⟨by exact Z2 [.p V0 (.n 1),.n (2^62),.p V1 (.n 1),.n (2^20),V0,V1] (by kernel_rfl) S (Qe X),?_⟩;refine⟨λh=>?_,λh=>?_⟩
 ·have h:=b3 h;have Z:k+1=Y.length:=(iz ((bu (·+(1:aq)) h).trans (wk _ _))).trans X;refine⟨by decide,?_⟩;refine nH _ _ _ _ (by exact Z1 [.p V0 (.n 1),.n (2^62),.p V0 (.n 1),.n (2^20)] (by kernel_rfl) U.1) (by exact Z1 [.p V0 (.n 1),.n (2^62),.p V0 (.n 1),.n (2^20)] (by kernel_rfl) U.2) _ ?_;refine⟨rfl,(by decide:2<=bw),?_⟩;exact ret _ (alike g.1 g.2,0) rfl (by unfold dK;rw[aW Z])
 ·have h:=eG h;have Z:¬k+1=Y.length:=λe=>h (by rw[X,<-e];exact(wj (k:aq) 1).symm);refine⟨λW=>?_,λW=>?_⟩
  ·have W:=b3 W;refine⟨by decide,?_⟩;refine BP (Int.ofNat_lt.mp W) ((lE (P) Z)) (by exact Z1 [.p V0 (.n 1),.n (2^62),.p V0 (.n 1),.n (2^20)] (by kernel_rfl) S) V ?_;refine⟨by decide,?_⟩;refine GY ((lE (P) Z)) (by exact Z1 [.p V0 (.n 1),.n (2^62),.p V0 (.n 1),.n (2^20)] (by kernel_rfl) S) V ?_;refine⟨λT=>?_,λT=>?_⟩
   ·have T:=b3 T;refine⟨λO=>?_,nofun⟩;refine zX (n:=16) U ?_;refine⟨rfl,(by decide:2<=bw),?_⟩;exact ret _ (ie g) rfl (by unfold dK;rw[aI Z,aW ⟨Int.ofNat_lt.mp W,Int.ofNat_le.mp T⟩])
   ·refine⟨nofun,λO=>?_⟩;refine vU (n:=16) U ?_;refine⟨rfl,(by decide:2<=bw),?_⟩;exact ret _ (gx g) rfl (by unfold dK;rw[aI Z,aI (λh=>aJ h.2 λq=>(eG T) (Int.ofNat_le.mpr q))])
  ·refine⟨nofun,λO=>?_⟩;refine vU (n:=16) U ?_;refine⟨rfl,(by decide:2<=bw),?_⟩;exact ret _ (gx g) rfl (by unfold dK;rw[aI Z,aI (λh=>aJ h.1 λq=>(eG W) (Int.ofNat_lt.mpr q))])
end
theorem AV.nY{j k:ah}(h:j<=k):∀{a:AV},a.lt j=aj->a.lt k=aj |.d _,_=>rfl|.ref i,q=>eF (dg (b3 q) h)|.bm _ i,q=>eF (dg (b3 q) h)
theorem AO.nY{j k:ah}(h:j<=k){o:AO}(q:o.lt j=aj):o.lt k=aj:=by cases o with
 |dS l Y=>exact List.all_eq_true.mpr λp Z=>AV.nY h (lV q p Z)|inst l=> refine List.all_eq_true.mpr λp Z=>?_;have:=lV q p Z;cases p with |none=>rfl|some a=>exact AV.nY h this
 |_=>rfl
noncomputable def Pq:AO->aH|.list _=>aj|_=>aC
theorem DY{H E:aa AO}(h:j7 H=aj)(Y:E.all Pq=aj):j7 (H++E)=aj:=(d_ _).mpr λi l e=>by
 by_cases Z:i<H.length;·have e:=(m9 Z)▸e;have q:=(d_ _).mp h i l e;rw[m9 (gi q).1];exact q
 ·have e:=(jh (ff Z))▸e;exact nomatch lV Y _ (j3 e)
theorem G0{E:aa AO}{k:ah}(h:E.all Pq=aj):E.all (·.lt k)=aj:=List.all_eq_true.mpr λo Z=>by
 have:=lV h o Z;cases o with|list l=>rfl|_=>cases this
theorem c_.grown{H E:aa AO}{PP:AV->aa AO->Prop}{av:AV}{σ:AS}(wf:H.all (·.lt H.length)=aj/\j7 H=aj)(X:σ.heap=H++E)(Y:E.all Pq=aj)(W:av.lt (H.length+E.length)=aj)(h:PP av (H++E)):c_ H PP (.ret av) σ:=by
 have Z:σ.heap.take (H.length+E.length)=H++E:=by rw[X];exact i6 (by simp)
 refine aP _ (.inl rfl) (lX (H.length+E.length) (dh _ _) W ⟨?_,?_⟩ ?_);·rw[Z,wF,cu];exact⟨List.all_eq_true.mpr λo V=>AO.nY (dh _ _) (lV wf.1 o V),G0 Y⟩
 ·rw[Z];exact DY wf.2 Y
 ·rw[Z];exact h
noncomputable def cV(a b:ah):aa DV:=(List.range' a (b-a)).map λ(i:ah)=>.int (i:aq)
theorem G3{H:aa AO}{a b:aq}:jk H (.d (.vj a b 1))=(cond (w9 a b 1) (af ((cW (ja a b 1).toNat).map λ(i:ah)=>DV.int (a+(i:aq)))) none):=rfl
theorem iW{H:aa AO}{a b:ah}(Z:a<2^62/\b<2^62):jk H (.d (.vj a b 1))=af (cV a b):=by
 have e:ja (a:aq) (b:aq) 1=((b-a:ah):aq):=by
  unfold ja;rw[aW (by decide)];split;·rw[Int.ediv_one,wk];exact(rS (Int.ofNat_le.mp (Int.le_of_lt ‹_›))).symm
  ·exact(bu qg (r9 (Int.ofNat_le.mp (Int.not_lt.mp ‹_›)))).symm
 rw[G3,(PySem.small_one (bJ [_] [] 1 [] [.g (.n (2^62)),.c V0] rfl) (bJ [_] [] 1 [] [.p (.c V0) (.n 1),.n (2^62),.c (.p V0 (.n 1)),.c (.n (2^62))] rfl (Qn Z.1)) (bJ [_] [] 1 [] [.g (.n (2^62)),.c V0] rfl) (bJ [_] [] 1 [] [.p (.c V0) (.n 1),.n (2^62),.c (.p V0 (.n 1)),.c (.n (2^62))] rfl (Qn Z.2))),e,dM];unfold cV;rw[List.range'_eq_map_range,b5];refine bu af (gk λi Y=>?_);show DV.int _=DV.int _;rw[Int.natCast_add]
theorem iY{F:Fc}{n:ah}{elt:IE}{f:DV->DV}{H:aa AO}{P:aa DV->AS->Prop}{L:aA AV->aa (aA AV)}(Z:∀a b,(L a).set 1 b=L b):∀(xs acc:aa DV)(a:aA AV),(∀x∈xs,∀acc Q,Q (.d (f x)) ⟨L (af (.d x)),H++[.list acc]⟩->VE F n elt Q ⟨L (af (.d x)),H++[.list acc]⟩)->acc.length+xs.length<=bw->(∀a,P (acc++xs.map f) ⟨L a,H++[.list (acc++xs.map f)]⟩)->qO (rD [1]) (λQ σ=>Q aj σ) (VE F n elt) H xs acc P ⟨L a,H++[.list acc]⟩:=by
 intro xs;induction xs with |nil=>exactλacc a X Y W=>⟨rfl,by have:=W a;simpa using this⟩|cons x xs V=>
  intro acc a X Y W;refine⟨rfl,?_⟩;refine⟨λT=>?_,nofun⟩;rw[Z];refine X x (.head _) acc _ (lX (f x) rfl (by simp at Y;exact Z3 [.p V0 (.n 1),V1,.p V0 (.p V2 (.n 1)),V1] rfl Y) rfl ?_);refine V (acc++[f x]) _ (λy U=>X y (.tail _ U)) (by simp at Y ⊢;exact Z3 [.p (.p V0 (.n 1)) V1,V2,.p V0 (.p V1 (.n 1)),V2] rfl Y) λa=>?_;have:=W a;simpa using this
end cZ
end
section
open PySem
namespace cZ
noncomputable abbrev gR:=ah×ah×ah
noncomputable def prs(i j:ah)(G:aa Gp):aa (ah×ah):=emit i j G (BN G)
structure Cut(G G1 G2:aa Gp)(gl gr:Gp)(len:ah):Prop where
 eq:G=G1++gl::(bN (len-1) gE++gr::G2)pos:1<=len
 left:∀L' SA,G1=L'::SA->gl≠gE/\aN 1 SA<len
 right:G2≠[]->gr≠gE/\gQ G2<=len
noncomputable def BQ(i j:ah)(Z:aa Gp)(gl Y:Gp)(len:ah):gR:=(i+wd l1 Z+l1 gl-di gl,j+wd l2 Z+l2 gl-di gl,di gl+len+alike Y.1 Y.2)
theorem range_add(a b:ah)(f:ah->ah×ah):(cW (a+b)).map f=(cW a).map f++(cW b).map λd=>f (a+d):=by induction b with|zero=>simp|succ b Z=>rw[<-fj,List.range_succ,c8,Z,List.range_succ,c8,bV];rfl
theorem Ja{i j:ah}{G Z V:aa Gp}{gl Y:Gp}{len:ah}(c:Cut G Z V gl Y len):prs i j G=prs i j (Z++[ig gl])++pM (BQ i j Z gl Y len)++prs (i+wd l1 Z+l1 gl+len+alike Y.1 Y.2) (j+wd l2 Z+l2 gl+len+alike Y.1 Y.2) (f9 Y::V):=by
 have S:(bN (len-1) gE++Y::V)≠[]:=by simp
 have pos:=c.pos;have W:gQ (bN (len-1) gE++Y::V)=len:=by rw[GR (λh=>(c.right h).1)];exact lZ [.p V0 (.n 1),V1,.p V0 (.n 1),V1] rfl (eO (pos))
 refine cC (GU (gl:=gl) S Z (λR U e=>by rw[W];exact c.left R U e)) λT t1 t2 t3=>?_;unfold prs;rw[c.eq,t2,t3,DS S Z T i j t1,I6,GV,show 1+(len-1)=len by exact lZ [.p (.n 1) V0,V1,.p V0 (.n 1),V1] rfl (eO (pos)),BO c.right];have X:=mw gl;rw[bV,bV];congr 1;unfold pM BQ;rw[range_add (di gl+len),range_add (di gl)];have Q:(cW len).map (λd=>(i+wd l1 Z+l1 gl-di gl+(di gl+d),j+wd l2 Z+l2 gl-di gl+(di gl+d)))=(i+wd l1 Z+l1 gl,j+wd l2 Z+l2 gl)::(cW (len-1)).map λd=>(i+wd l1 Z+l1 gl+1+d,j+wd l2 Z+l2 gl+1+d):=by
  obtain⟨m,rfl⟩:∃m,len=m+1:=⟨len-1,lZ [V0,.p V1 (.n 1),V0,.p V1 (.n 1)] rfl (Eq.symm (eO (pos)))⟩;rw[r5,ek,b5];congr 1
  ·simp only[kh,kq];exact⟨L0 [.p V0 V1,.p (.p V2 V3) V4,.p V0 V1,.p (.p V2 V3) V4] rfl (eO (Z4 [V0,.p (.p V1 V2) V3,V0,V3] rfl X.1)),L0 [.p V0 V1,.p (.p V2 V3) V4,.p V0 V1,.p (.p V2 V3) V4] rfl (eO (Z4 [V0,.p (.p V1 V2) V3,V0,V3] rfl X.2))⟩
  ·refine gk λd P=>?_;simp only[we,kq];exact⟨Mn [.p V0 (.p V1 (.p V2 (.n 1))),.p (.p (.p (.p V3 V4) V5) (.n 1)) V2,.p V0 V1,.p (.p V3 V4) V5] rfl (eO (Z4 [V0,.p (.p V1 V2) V3,V0,V3] rfl X.1)),Mn [.p V0 (.p V1 (.p V2 (.n 1))),.p (.p (.p (.p V3 V4) V5) (.n 1)) V2,.p V0 V1,.p (.p V3 V4) V5] rfl (eO (Z4 [V0,.p (.p V1 V2) V3,V0,V3] rfl X.2))⟩
 rw[Q];simp only[bV,e7];congr 3;congr 1
 ·refine gk λd P=>?_;simp only[kq];exact⟨L1 [.p (.p (.p (.p (.p V0 V1) V2) (.n 1)) V3) V4,.p V5 (.p (.p V6 V7) V4),.p V3 (.n 1),V7,.p (.p V0 V1) V2,.p V5 V6] rfl (eO (pos)) (Eq.symm (eO (Z4 [V0,.p (.p V1 V2) V3,V0,V3] rfl X.1))),L1 [.p (.p (.p (.p (.p V0 V1) V2) (.n 1)) V3) V4,.p V5 (.p (.p V6 V7) V4),.p V3 (.n 1),V7,.p (.p V0 V1) V2,.p V5 V6] rfl (eO (pos)) (Eq.symm (eO (Z4 [V0,.p (.p V1 V2) V3,V0,V3] rfl X.2)))⟩
 ·congr 1<;>lia
inductive Tr:ah->ah->aa Gp->aa gR->Prop|nil{i j:ah}{G:aa Gp}{g:Gp}:G=[g]->alike g.1 g.2=0->Tr i j G []|one{i j:ah}{G:aa Gp}{g:Gp}{T:aa gR}:G=[g]->alike g.1 g.2≠0->T=[(i,j,alike g.1 g.2)]->Tr i j G T|node{i j i' j':ah}{G H G1 G2:aa Gp}{L gl gr:Gp}{len:ah}{Tl T' T:aa gR}:G=L::H->Cut G G1 G2 gl gr len->scan 0 1 (0,0) H=(G1.length,len)->H≠[]->i'=i+wd l1 G1+l1 gl+len+alike gr.1 gr.2->j'=j+wd l2 G1+l2 gl+len+alike gr.1 gr.2->Tr i j (G1++[ig gl]) Tl->Tr i' j' (f9 gr::G2) T'->T=Tl++BQ i j G1 gl gr len::T'->Tr i j G T
theorem Tr.ex:∀(n:ah)(i j:ah)(G:aa Gp),G≠[]->G.length<=n->∃T,Tr i j G T
 |0,_,_,G,h,Z=>aJ (List.length_eq_zero_iff.mp (cY (Z) (Z1 [.n 0,V0] rfl))) h|n+1,_,_,[],h,_=>aJ rfl h|n+1,i,j,[g],_,_=>by
  by_cases h:alike g.1 g.2=0;·exact⟨_,.nil rfl h⟩
  ·exact⟨_,.one rfl h rfl⟩|n+1,i,j,L::h::r,_,Z=>by
  refine Mi (sel (L:=L) (H:=h::r) (by simp)) λX S W Y len e p s R Q=>?_;have le:=bu gW e;simp at le;simp at Z;refine aZ (Tr.ex n i j (X++[ig W]) (by simp) (by simp;exact Z5 [.p V0 (.n 1),V1,.p V0 (.p (.p V2 (.p V3 (.n 1))) (.n 1)),.p (.p V4 (.n 1)) (.n 1),.p V4 (.n 1),V1] rfl (Qf le) Z)) λP V=>?_;refine aZ (Tr.ex n (i+wd l1 X+l1 W+len+alike Y.1 Y.2) (j+wd l2 X+l2 W+len+alike Y.1 Y.2) (f9 Y::S) (by simp) (by simp;exact Z5 [.p V0 (.n 1),V1,.p V2 (.p (.p V3 (.p V0 (.n 1))) (.n 1)),.p (.p V4 (.n 1)) (.n 1),.p V4 (.n 1),V1] rfl (Qf le) Z)) λO U=>?_;exact⟨_,.node rfl ⟨e,p,R,Q⟩ s (by simp) rfl rfl V U rfl⟩
theorem Tr.prs{i j:ah}{G:aa Gp}{T:aa gR}(h:Tr i j G T):T.flatMap pM=prs i j G:=by induction h with |@nil i j G g e h=>subst e;show []=CJ i j g (alike g.1 g.2,0);rw[h];rfl|@one i j G g T e h Z=>subst e Z;show pM _++[]=CJ i j g (alike g.1 g.2,0);simp[pM,CJ]|node e c s W Y X _ _ Z a b=> subst Y X Z;rw[Ja c,List.flatMap_append,List.flatMap_cons,a,b,bV]
noncomputable def DZ(f:Gp->ah)(G:aa Gp):ah:=wd f G-1
theorem yk(f:Gp->ah)(X Y:aa Gp):wd f (X++Y)=wd f X+wd f Y:=by unfold wd;rw[c8,List.sum_append]
theorem mC(f:Gp->ah)(g:Gp)(Y:aa Gp):wd f (g::Y)=f g+1+wd f Y:=by unfold wd;rw[ek,List.sum_cons]
theorem Lo(f:Gp->ah)(h:f gE=0)(m:ah):wd f (bN m gE)=m:=by
 unfold wd;rw[List.map_replicate,h];simp
theorem zZ(g:Gp):l1 (ig g)=l1 g-di g/\l2 (ig g)=l2 g-di g:=by constructor<;>simp[ig,l1,l2]
theorem z0(g:Gp):l1 (f9 g)=l1 g-alike g.1 g.2/\l2 (f9 g)=l2 g-alike g.1 g.2:=by constructor<;>simp[f9,l1,l2]
structure CK(i i':ah)(T:aa gR):Prop where
 pos:∀b∈T,0<b.2.2
 lo:∀b∈T,i<=b.1
 hi:∀b∈T,b.1+b.2.2<=i'
 ord:T.Pairwise λa b=>a.1+a.2.2<=b.1
theorem CK.glue{i m W e:ah}{T V:aa gR}{b:gR}(Y:i<=m)(a:CK i m T)(U:b.1=m)(P:0<b.2.2)(S:b.1+b.2.2=W)(c:CK W e V)(X:W<=e):CK i e (T++b::V):=by
 have R:m<=W:=S▸U▸dh _ _;have key:∀{p:gR->Prop},(∀x∈T,p x)->p b->(∀x∈V,p x)->∀x∈T++b::V,p x:=λO N M x Z=>(d9 Z).elim (O x) λZ=>(gq Z).elim (λe=>e▸N) (M x);exact⟨key a.pos P c.pos,key a.lo (U▸Y) λx Z=>br Y (br R (c.lo x Z)),key (λx Z=>br (a.hi x Z) (br R X)) (S▸X) c.hi,List.pairwise_append.mpr ⟨a.ord,List.pairwise_cons.mpr ⟨λx Z=>S▸c.lo x Z,c.ord⟩,λx Z y Q=>(gq Q).elim (λe=>e▸U▸a.hi x Z) λQ=>br (a.hi x Z) (br R (c.lo y Q))⟩⟩
theorem Cut.SD{G Z X:aa Gp}{gl Y:Gp}{len:ah}(c:Cut G Z X gl Y len){f:Gp->ah}(V:f gE=0){e a:ah}(U:f (ig gl)=f gl-e)(T:f (f9 Y)=f Y-a)(W:e<=f gl)(S:a<=f Y):∃x y,DZ f (Z++[ig gl])=wd f Z+x/\DZ f (f9 Y::X)=y+wd f X/\∀i,i+DZ f G=i+wd f Z+f gl+len+a+(y+wd f X)/\i+wd f Z+f gl-e=i+(wd f Z+x)/\i+wd f Z+f gl-e+(e+len+a)=i+wd f Z+f gl+len+a:=by
 have R:=eO W;have Q:=eO S;have g2:∀i,i+wd f Z+f gl-e=i+(wd f Z+(f gl-e)):=λi=>by rw[Nat.add_sub_assoc W,fj]
 refine⟨f gl-e,f Y-a,?_,?_,λi=>⟨?_,g2 i,?_⟩⟩;·unfold DZ;rw[yk,mC,U];rfl
 ·unfold DZ;rw[mC,T,r_];rfl
 ·have w:wd f G=wd f Z+(f gl+1+(len-1+(f Y+1+wd f X))):=by rw[c.eq,yk,mC,yk,Lo f V,mC]
  have P:=eO c.pos;unfold DZ;rw[w];clear w g2 U T V c W S R;generalize len-1=l at P;generalize f Y-a=y at Q;subst P;rw[<-Q];rw[show wd f Z+(f gl+1+(l+(y+a+1+wd f X)))=wd f Z+f gl+(l+1)+a+(y+wd f X)+1 by simp only[fj,iE,Nat.add_left_comm],Nat.add_sub_cancel];simp only[fj]
 ·rw[g2,<-R];simp only[fj,Nat.add_sub_cancel]
theorem Tr.Ma{i j:ah}{G:aa Gp}{T:aa gR}(h:Tr i j G T):CK i (i+DZ l1 G) T:=by induction h with |nil e h=>exact⟨nofun,nofun,nofun,.nil⟩|@one i j G g T e h Z=> subst e Z;have key:∀{p:gR->Prop},p (i,j,alike g.1 g.2)->∀x∈[(i,j,alike g.1 g.2)],p x:=λk x W=>g_ W▸k;exact⟨key (oO h),key (bf _),key (sf (cN g.1 g.2).1 i),List.pairwise_singleton _ _⟩|@node i j O N G H M K L X Y len J I T e c s F V E _ _ Z a b=>
  subst V Z;refine cU (c.SD (f:=l1) rfl (zZ X).1 (z0 Y).1 (mw X).1 (cN Y.1 Y.2).1) λx y U S w=>cL (w i) λR Q P=>?_;have a:=U▸a;have b:=S▸b;rw[R];exact CK.glue (dh _ _) a Q (dg c.pos (br (lG _ _) (dh _ _))) P b (dh _ _)
theorem CK.len{i Y:ah}:∀{T:aa gR}{k:ah},CK i Y T->k<=i->(∀b∈T,k<=b.1)->T.length<=Y-k
 |[],_,_,_,_=>bW _|b::T,k,h,R,X=>by
  have W:=h.pos b (.head _);have V:=h.hi b (.head _);have U:=X b (.head _);have o:=List.pairwise_cons.mp h.ord;have S:CK (b.1+b.2.2) Y T:=⟨λx Z=>h.pos x (.tail _ Z),λx Z=>o.1 x Z,λx Z=>h.hi x (.tail _ Z),o.2⟩;have:=CK.len (k:=b.1+b.2.2) S (bf _) (λx Z=>o.1 x Z);simp;exact Z7 [.p V0 (.n 1),V1,.p (.n 0) (.n 1),V2,V3,V4,V0,V5,V6,.p V1 V3,.p V5 (.p V4 V2),V6] rfl W U this Q1 (Q2 (V))
theorem G4{i m W e:ah}{T V:aa gR}{b:gR}(Y:i<=m)(a:∀b∈T,i<=b.2.1/\b.2.1+b.2.2<=m)(U:b.2.1=m)(S:b.2.1+b.2.2=W)(c:∀b∈V,W<=b.2.1/\b.2.1+b.2.2<=e)(X:W<=e):∀x∈T++b::V,i<=x.2.1/\x.2.1+x.2.2<=e:=by
 have R:m<=W:=S▸U▸dh _ _;exactλx Z=>(d9 Z).elim (λZ=>⟨(a x Z).1,br (a x Z).2 (br R X)⟩) λZ=>(gq Z).elim (λq=>q▸⟨br Y (cA U.symm),br (cA S) X⟩) λZ=>⟨br Y (br R (c x Z).1),(c x Z).2⟩
theorem Tr.T8{i j:ah}{G:aa Gp}{T:aa gR}(h:Tr i j G T):∀b∈T,j<=b.2.1/\b.2.1+b.2.2<=j+DZ l2 G:=by induction h with |nil e h=>exact nofun|@one i j G g T e h Y=> subst e Y;exactλx W=>g_ W▸⟨bf _,sf (cN g.1 g.2).2 j⟩|@node i j N M G H V K L X Z len J I T e c s F E U _ _ Y a b=>
  subst U Y;refine cU (c.SD (f:=l2) rfl (zZ X).2 (z0 Z).2 (mw X).2 (cN Z.1 Z.2).2) λx y S R w=>cL (w j) λQ P O=>?_;have a:=S▸a;have b:=R▸b;rw[Q];exact G4 (b:=BQ i j V X Z len) (dh _ _) a P O b (dh _ _)
theorem Tr.empty{i j:ah}{G:aa Gp}{T:aa gR}(h:Tr i j G T)(e:DZ l1 G=0\/DZ l2 G=0):T=[]:=by
 refine List.eq_nil_iff_forall_not_mem.mpr λb Z=>?_;have X:=h.Ma.pos b Z;have W:=h.Ma.hi b Z;have Y:=h.T8 b Z;exact e.elim (λe=>dX _ (dg (wL X) (br (by rw[e] at W;exact W) (h.Ma.lo b Z)))) λe=>dX _ (dg (wL X) (br (by rw[e] at Y;exact Y.2) Y.1))
noncomputable def nJ:gR->aa gR->aa gR|b,[]=>if b.2.2=0 then[]else[b]|b,x::r=>if b.1+b.2.2=x.1/\b.2.1+b.2.2=x.2.1 then nJ (b.1,b.2.1,b.2.2+x.2.2) r else(if b.2.2=0 then[]else[b])++nJ x r
noncomputable def HU:gR->aa (ah×ah)->aa gR |b,[]=>[b]|b,x::r=>if b.1+b.2.2=x.1/\b.2.1+b.2.2=x.2 then HU (b.1,b.2.1,b.2.2+1) r else b::HU (x.1,x.2,1) r
noncomputable def lb:aa (ah×ah)->aa gR |[]=>[]|x::r=>HU (x.1,x.2,1) r
theorem yl(i j:ah)(r:aa (ah×ah)):∀(m k:ah),HU (i,j,k) ((cW m).map (λd=>(i+k+d,j+k+d))++r)=HU (i,j,k+m) r:=by
 intro m;induction m with |zero=>exactλk=>rfl|succ m Z=>
  intro k;rw[r5,ek,b5,e7];show (if i+k=i+k/\j+k=j+k then HU (i,j,k+1) _ else _)=_;rw[aW ⟨rfl,rfl⟩];have:=Z (k+1);rw[show k+1+m=k+(m+1) by exact lZ [.p (.p V0 (.n 1)) V1,.p V0 (.p V1 (.n 1))] rfl] at this;rw[<-this];congr 2;refine gk λd Y=>?_;simp only[we,kq];exact⟨Ac [.p (.p V0 V1) (.p V2 (.n 1)),.p (.p V0 (.p V1 (.n 1))) V2] rfl,Ac [.p (.p V0 V1) (.p V2 (.n 1)),.p (.p V0 (.p V1 (.n 1))) V2] rfl⟩
theorem G5:∀(T:aa gR)(b:gR),b.2.2≠0->(∀x∈T,0<x.2.2)->HU b (T.flatMap pM)=nJ b T:=by
 intro R;induction R with
 |nil=>
  intro b W _;show [b]=if b.2.2=0 then [] else [b];rw[aI W]|cons Q T U=>induction Q using gz with|mk i P=>induction P using gz with|mk j m=> intro O;induction O using gz with|mk Z N=>induction N using gz with|mk Y k=>
      intro W h;have S:0<m:=h _ (.head _);show HU (Z,Y,k) ((cW m).map (λd=>(i+d,j+d))++T.flatMap pM)=if Z+k=i/\Y+k=j then nJ (Z,Y,k+m) T else (if k=0 then [] else [(Z,Y,k)])++nJ (i,j,m) T;by_cases q:Z+k=i/\Y+k=j;·rw[aW q,<-q.1,<-q.2,yl,U _ (by show k+m≠0;exact fN (Z2 [.p (.n 0) (.n 1),.p V0 V1,.p (.n 0) (.n 1),V1] rfl S)) λx V=>h x (.tail _ V)]
      ·rw[aI q,aI W];obtain⟨X,rfl⟩:∃X,m=X+1:=⟨m-1,lZ [V0,.p V1 (.n 1),V0,.p V1 (.n 1)] rfl (Eq.symm (eO (Z1 [.n 1,V0,.p (.n 0) (.n 1),V0] rfl S)))⟩;rw[r5,ek,b5,e7];show (if Z+k=i+0/\Y+k=j+0 then _ else (Z,Y,k)::HU (i+0,j+0,1) _)=_;rw[kh,kh,aI q];have:=yl i j (T.flatMap pM) X 1;rw[show 1+X=X+1 by exact H6 [.p (.n 1) V0,.p V0 (.n 1)] rfl] at this;have e:(λd=>(i+d,j+d)) ∘ lD=λd=>(i+1+d,j+1+d):=by
        funext d;simp only[we,kq];exact⟨lZ [.p V0 (.p V1 (.n 1)),.p (.p V0 (.n 1)) V1] rfl,lZ [.p V0 (.p V1 (.n 1)),.p (.p V0 (.n 1)) V1] rfl⟩
       rw[e,this,U (i,j,X+1) (Nat.succ_ne_zero _) λx V=>h x (.tail _ V)];rfl
theorem Jb{T:aa gR}(h:∀x∈T,0<x.2.2):lb (T.flatMap pM)=nJ (0,0,0) T:=by induction T using aO with|nil=>rfl|cons x T=>
  obtain⟨i,j,m⟩:=x;have Y:0<m:=h _ (.head _);have e:nJ (0,0,0) ((i,j,m)::T)=nJ (i,j,m) T:=by
   show (if 0+0=i/\0+0=j then nJ (0,0,0+m) T else []++nJ (i,j,m) T)=_;split;·rename_i q;rw[<-q.1,<-q.2,eV]
   ·rfl
  rw[e,<-G5 T _ (Nat.pos_iff_ne_zero.mp Y) λy X=>h y (.tail _ X)];obtain⟨Z,rfl⟩:∃Z,m=Z+1:=⟨m-1,lZ [V0,.p V1 (.n 1),V0,.p V1 (.n 1)] rfl (Eq.symm (eO (Z1 [.n 1,V0,.p (.n 0) (.n 1),V0] rfl Y)))⟩;rw[List.flatMap_cons];unfold pM;rw[r5,ek,b5,e7];have:=yl i j (T.flatMap pM) Z 1;rw[show 1+Z=Z+1 by exact H6 [.p (.n 1) V0,.p V0 (.n 1)] rfl] at this;have e:(λd=>(i+d,j+d)) ∘ lD=λd=>(i+1+d,j+1+d):=by
   funext d;simp only[we,kq];exact⟨lZ [.p V0 (.p V1 (.n 1)),.p (.p V0 (.n 1)) V1] rfl,lZ [.p V0 (.p V1 (.n 1)),.p (.p V0 (.n 1)) V1] rfl⟩
  rw[e];exact this
theorem Jc{c:ah}:∀{p q r s:aa ah},c∉p->c∉q->p++c::r=q++c::s->p=q/\r=s:=by
 intro p;induction p with
 |nil=>
  intro X;induction X using aO with
  |nil=> intro r s _ _ h;exact⟨rfl,by cases h;rfl⟩|cons y q=>
   intro r s _ Z h;cases h;exact aJ (.head _) Z
 |cons x p W=> intro V;induction V using aO with |nil=> intro r s Y _ h;cases h;exact aJ (.head _) Y|cons y q=>
   intro r s Y Z h;rw[e7,e7,r7] at h;refine bq (W (λm=>Y (.tail _ m)) (λm=>Z (.tail _ m)) h.2) λU T=>?_;exact⟨by rw[h.1,U],T⟩
theorem vV{c:ah}{p q:ai}{r:aa ai}:(bX ⟨#[c]⟩ (p::q::r)).cps.toList=p.cps.toList++c::(bX ⟨#[c]⟩ (q::r)).cps.toList:=by
 show (p++⟨#[c]⟩++bX ⟨#[c]⟩ (q::r)).cps.toList=_;simp only[Str.cps_append,Array.toList_append];simp
theorem rG{a b:ai}(h:a.cps.toList=b.cps.toList):a=b:=by
 cases a;cases b;exact bu _ (Array.toList_inj.mp h)
theorem G6{c:ah}:∀{Z Y:aa ai},Z≠[]->Y≠[]->(∀p∈Z,c∉p.cps.toList)->(∀p∈Y,c∉p.cps.toList)->bX ⟨#[c]⟩ Z=bX ⟨#[c]⟩ Y->Z=Y:=by
 intro Z;induction Z with
 |nil=> intro _ h _ _ _ _;exact aJ rfl h|cons p T S=>induction T using aO with
  |nil=> intro R;induction R using aO with |nil=> intro _ h _ _ _;exact aJ rfl h|cons q Q=>induction Q using aO with
    |nil=>
     intro _ _ _ _ h;have h:p=q:=h;rw[h]|cons P r=>
     intro _ _ X _ h;have h:p=_:=h;have V:c∈p.cps.toList:=by rw[h,vV];simp
     exact aJ V (X p (.head _))
  |cons K r=>
   intro O;induction O using aO with
   |nil=> intro _ h _ _ _;exact aJ rfl h|cons q N=>induction N using aO with
    |nil=>
     intro _ _ _ W h;have h:_=q:=h;have V:c∈q.cps.toList:=by rw[<-h,vV];simp
     exact aJ V (W q (.head _))|cons P J=>
     intro _ _ X W h;have h:=bu (λx:ai=>x.cps.toList) h;rw[vV,vV] at h;refine bq (Jc (X p (.head _)) (W q (.head _)) h) λM L=>?_;rw[rG M,S (by simp) (by simp) (λx U=>X x (.tail _ U)) (λx U=>W x (.tail _ U)) (rG L)]
theorem G7(x y:ai):Txt.split x y≠[]:=by
 unfold Txt.split;split;·simp
 ·split;·exact nofun
  ·rw[StrLaws.partsBetween_eq];refine lW (StrLaws.partsFrom_ne x y.length 0 (Builtin.Str.occurrences x y 0 x.length (x.length+1))) λp r e=>?_;rw[e];simp
theorem um{c:ah}{Z:aa ai}(h:Z≠[])(Y:∀p∈Z,c∉p.cps.toList):Txt.split (bX ⟨#[c]⟩ Z) ⟨#[c]⟩=Z:=G6 (c:=c) (G7 _ _) h (λp X=>StrLaws.split_free _ c p X) Y (StrLaws.join_split _ _)
noncomputable abbrev LS:=aA (ah×ah)×gR
noncomputable def jW(Z:aA (ah×ah))(j:ah):ah:=match Z with|some (Y,c)=>if Y+1=j then c+1 else 1|none=>1
noncomputable def stp(i:ah)(s:LS):aA ah->LS |none=>(none,s.2)|some j=>(af (j,jW s.1 j),if jW s.1 j>s.2.2.2 then(i+1-jW s.1 j,j+1-jW s.1 j,jW s.1 j)else s.2)
noncomputable def Aj:ah->LS->aa (aA ah)->LS|_,s,[]=>s|i,s,o::r=>Aj (i+1) (stp i s o) r
theorem CL:∀(a b:aa (aA ah))(i:ah)(s:LS),Aj i s (a++b)=Aj (i+a.length) (Aj i s a) b:=by
 intro a;induction a with |nil=>exactλb i s=>rfl|cons o a Z=>
  intro b i s;show Aj (i+1) (stp i s o) (a++b)=_;rw[Z b,jE,show i+(a.length+1)=i+1+a.length by exact lZ [.p V0 (.p V1 (.n 1)),.p (.p V0 (.n 1)) V1] rfl];rfl
theorem p9:∀(m i:ah)(s:LS),Aj i s (bN m none)=(if m=0 then s.1 else none,s.2):=by
 intro m;induction m with |zero=>exactλi s=>rfl|succ m Z=>
  intro i s;show Aj (i+1) (none,s.2) _=_;rw[Z];simp
noncomputable def uo:ah->aa Gp->aa (aA ah) |_,[]=>[]|j,[g]=>af j::bN g.1.length none|j,g::h::r=>af j::(bN g.1.length none++uo (j+g.2.length+1) (h::r))
noncomputable def cont(j:ah):aa Gp->aa (aA ah) |[]=>[]|g::H=>bN g.1.length none++uo (j+g.2.length) H
noncomputable def off(f:Gp->ah)(G:aa Gp)(m:ah):ah:=wd f (G.take m)+f (G.getD m gE)
theorem z3{f:Gp->ah}{G:aa Gp}{m:ah}(h:m+1<G.length):off f G (m+1)=off f G m+1+f (G.getD (m+1) gE):=by
 unfold off;have e:G.take (m+1)=G.take m++[G.getD m gE]:=by rw[mX,oN,c7 (by exact Z2 [.p V0 (.n 1),V1,.p (.p V0 (.n 1)) (.n 1),V1] rfl h)];rfl
 rw[e,yk,mC];exact Ac [.p (.p V0 (.p (.p V1 (.n 1)) (.n 0))) V2,.p (.p (.p V0 V1) (.n 1)) V2] rfl
noncomputable def ym(i j:ah)(G:aa Gp)(b:ah×ah):gR:=if b.2=0 then (i,j,0) else (i+off l1 G b.1,j+off l2 G b.1,b.2)
theorem Jd{i0 j0:ah}{G:aa Gp}:∀(R:aa Gp)(k c:ah)(b:ah×ah)(i j:ah)(s:LS),R≠[]->G.drop (k+1)=R->i=i0+off l1 G k->j=j0+off l2 G k->jW s.1 j=c->1<=c->c<=k+1->off l1 G (k+1-c)+(c-1)=off l1 G k->off l2 G (k+1-c)+(c-1)=off l2 G k->s.2=ym i0 j0 G b->(Aj i s (uo j R)).2=ym i0 j0 G (scan k c b R):=by
 intro R;induction R with |nil=>exactλZ Z Z Z Z Z h Z Z Z Z Z Z Z Z Z=>aJ rfl h|cons g R I=>
  intro k c b i j s _ U P O H T F N M E;have L:∀{i i0 X o:ah},i=i0+o->X+(c-1)=o->i+1-c=i0+X:=λ{i i0 X o}a b=>Nat.sub_eq_of_eq_add (by rw[a,<-b,fj i0,fj X,eO T,<-fj i0]);have up:∀{X o z:ah},X+(c-1)=o->z=0->X+(c+1-1)=o+1+z:=λ{X o z}a b=>by subst b;exact(bu (X+·) (eO T)).symm.trans ((fj ..).symm.trans (bu lD a))
  have K:(stp i s (af j))=(af (j,c),ym i0 j0 G (upd k c b)):=by
   unfold stp;dsimp only;rw[H,E];have D:(ym i0 j0 G b).2.2=b.2:=by unfold ym;split<;>simp_all
   rw[D];unfold upd;by_cases q:c>b.2
   ·rw[aW q,aW q];unfold ym;rw[aI (by dsimp only;exact fN (Z1 [.p (.n 0) (.n 1),V0,.n 1,V0] rfl T))];refine bu _ ?_;rw[L P N,L O M]
   ·rw[aI q,aI q]
  have J:k+1<G.length:=by
   refine Nat.sub_pos_iff_lt.mp ?_;rw[<-gX,U];exact mZ _
  have C:G.getD (k+1) gE=g:=by
   have:=bu (·[0]?) U;simp only[oK,kh] at this;rw[oN,this];rfl
  induction R using aO with
  |nil=>
   show (Aj (i+1) (stp i s (af j)) (bN g.1.length none)).2=ym i0 j0 G (upd k c b);rw[K,p9]|cons h R=>
   show (Aj (i+1) (stp i s (af j)) (bN g.1.length none++uo (j+g.2.length+1) (h::R))).2=ym i0 j0 G (scan (k+1) (if g=gE then c+1 else 1) (upd k c b) (h::R));rw[K,CL,p9,qm];have S:=z3 (f:=l1) J;have Q:=z3 (f:=l2) J;rw[C] at S Q;have W:g=gE↔g.1.length=0/\g.2.length=0:=by
    obtain⟨x,y⟩:=g;simp[gE]
   refine I (k+1) _ _ _ _ _ (by simp) (by rw[<-r4,U];rfl) (by rw[S];simp only[l1];exact vh [.p (.p V0 (.n 1)) V1,.p V2 (.p (.p V3 (.n 1)) V1),V0,.p V2 V3] rfl P) (by rw[Q];simp only[l2];exact vh [.p (.p V0 V1) (.n 1),.p V2 (.p (.p V3 (.n 1)) V1),V0,.p V2 V3] rfl O) ?_ ?_ ?_ ?_ ?_ rfl
   ·dsimp only;by_cases q:g=gE
    ·refine bq (W.mp q) λY V=>?_;rw[aW Y,aW q];unfold jW;dsimp only;rw[aW (by rw[V,kh])]
    ·rw[aI q];by_cases Y:g.1.length=0;·rw[aW Y];unfold jW;dsimp only;rw[aI λe=>q (W.mpr ⟨Y,by exact lZ [V0,.n 0,.p (.p V1 V0) (.n 1),.p V1 (.n 1)] rfl (Eq.symm e)⟩)]
     ·rw[aI Y];rfl
   ·split;·exact fh (bW _)
    ·exact bf _
   ·split;·exact fh F
    ·exact fh (bW _)
   ·split
    ·rename_i q;refine bq (W.mp q) λY V=>?_;rw[Nat.add_sub_add_right,S];exact up N Y
    ·rfl
   ·split
    ·rename_i q;refine bq (W.mp q) λY V=>?_;rw[Nat.add_sub_add_right,Q];exact up M V
    ·rfl
theorem Lq(i j:ah)(g:Gp):(Aj i (none,(i,j,0)) (cont j [g])).2=(i,j,0):=by
 show (Aj i (none,(i,j,0)) (bN g.1.length none++[])).2=_;rw[bY,p9]
theorem Lr{i j:ah}{L gl Y:Gp}{H Z X:aa Gp}{len:ah}(W:H≠[])(c:Cut (L::H) Z X gl Y len)(V:scan 0 1 (0,0) H=(Z.length,len)):(Aj i (none,(i,j,0)) (cont j (L::H))).2=(i+wd l1 Z+l1 gl,j+wd l2 Z+l2 gl,len):=by
 rw[CL,p9,qm];have z:∀f:Gp->ah,off f (L::H) 0=f L:=λf=>by show 0+f L=f L;rw[eV]
 have q:=Jd (i0:=i) (j0:=j) (G:=L::H) H 0 1 (0,0) (i+off l1 (L::H) 0) (j+off l2 (L::H) 0) (if L.1.length=0 then none else none,(i,j,0)) W rfl rfl rfl (by dsimp only;split<;>rfl) (bf _) (bf _) rfl rfl rfl;rw[z,z,V] at q;refine q.trans ?_;unfold ym;rw[aI (by dsimp only;exact fN (Z1 [.p (.n 0) (.n 1),V0,.n 1,V0] rfl c.pos))];dsimp only;have e:∀f:Gp->ah,off f (L::H) Z.length=wd f Z+f gl:=λf=>by
  unfold off;rw[c.eq,List.take_left,oN,jh (bf _),cB];rfl
 rw[e,e,<-fj,<-fj]
noncomputable def f_(f:Gp->aa ai):aa Gp->aa ai->aa ai|g::G,n::ns=>f g++n::f_ f G ns|g::_,[]=>f g|[],_=>[]
noncomputable def jq(f:Gp->aa ai):aa Gp->aa ai->aa ai|g::G,n::ns=>f g++n::jq f G ns|_,_=>[]
noncomputable def ve(f:Gp->aa ai):aa Gp->aa ai->aa ai|g::G,n::ns=>n::(f g++ve f G ns)|_,_=>[]
theorem CM(f:Gp->aa ai)(W:aa Gp)(Y:aa ai):∀(X:aa Gp)(Z:aa ai),Z.length=X.length->f_ f (X++W) (Z++Y)=jq f X Z++f_ f W Y:=by
 intro V;induction V with
 |nil=> intro U;induction U using aO with |nil=> intro _;exact rfl|cons R Q=> intro h;exact dY h
 |cons g X T=> intro S;induction S using aO with |nil=> intro h;exact dY h|cons n Z=>
   intro h;show f g++n::f_ f (X++W) (Z++Y)=f g++n::jq f X Z++_;rw[T Z (by simpa using h)];simp
theorem vW(f:Gp->aa ai):∀(Y:aa Gp)(g:Gp)(Z:aa ai),Z.length=Y.length->f_ f (g::Y) Z=f g++ve f Y Z:=by
 intro X;induction X with
 |nil=> intro g W;induction W using aO with |nil=> intro _;exact(bY _).symm|cons T S=>
   intro e;cases e |cons h Y V=>
  intro g U;induction U using aO with
  |nil=> intro e;cases e|cons n Z=>
   intro e;show f g++n::f_ f (h::Y) Z=f g++n::(f h++ve f Y Z);rw[V h Z (by simpa using e)]
theorem Je(f:Gp->aa ai)(h:f gE=[])(X:Gp)(W:aa Gp)(Z:aa ai):∀(m:ah)(Y:aa ai),Y.length=m->f_ f (bN m gE++X::W) (Y++Z)=Y++f_ f (X::W) Z:=by
 intro V;induction V with
 |zero=> intro U;induction U using aO with |nil=> intro _;exact rfl|cons R Q=> intro e;cases e
 |succ m T=> intro S;induction S using aO with |nil=> intro e;cases e|cons n Y=> intro e;show f gE++n::f_ f (bN m gE++X::W) (Y++Z)=_;rw[h,T Y (by simpa using e)];rfl
theorem CN{f:Gp->aa ai}(P:f gE=[]){G Z W:aa Gp}{gl T:Gp}{len:ah}(c:Cut G Z W gl T len){ns:aa ai}(S:ns.length+1=G.length):∃Y U X,ns=Y++U++X/\Y.length=Z.length/\U.length=len/\X.length=W.length/\f_ f G ns=jq f Z Y++f gl++U++f T++ve f W X:=by
 have R:G.length=Z.length+1+(len-1)+1+W.length:=by rw[c.eq];simp;exact Ac [.p V0 (.p (.p V1 (.p V2 (.n 1))) (.n 1)),.p (.p (.p (.p V0 (.n 1)) V1) (.n 1)) V2] rfl
 have pos:=c.pos;have L:ns.length=Z.length+(len+W.length):=by clear c;lia
 have Q:((ns.drop Z.length).take len).length=len:=by rw[dU,gX,L,oR];exact eW (dh _ _)
 refine xB (ns.take Z.length) ((ns.drop Z.length).take len) (ns.drop (Z.length+len)) ?_ ?_ ?_ ?_ ?_;·rw[bV,<-r4,iB,iB]
 ·rw[dU];exact eW (L▸dh _ _)
 ·exact Q
 ·rw[gX,L,<-fj,oR]
 ·conv=>lhs;rw[(by rw[<-r4,iB,iB]:ns=ns.take Z.length++((ns.drop Z.length).take len++ns.drop (Z.length+len))),c.eq]
  rw[CM f _ _ _ _ (by rw[dU];exact eW (L▸dh _ _))];have V:=Q;cases q:(ns.drop Z.length).take len with|nil=>rw[q] at V;exact Qx (lY [_] 0 [] [.n 1,.n 0,.n 1,V0,V0,.n 0] rfl pos (Qf V))|cons n U=>
   have V:=q▸V;show _++(f gl++n::f_ f (bN (len-1) gE++T::W) (U++_))=_;rw[Je f P _ _ _ _ _ (by simp at V;exact Ac [V0,V1,.p V0 (.n 1),V2,V2,.p V1 (.n 1)] rfl V (Eq.symm (eO (pos)))),vW f _ _ _ (by rw[gX];exact cY (Z7 [V0,V1,.p V2 (.n 1),V3,V3,.p (.p (.p (.p V4 (.n 1)) V5) (.n 1)) V1,.p V0 (.p V4 V6),V2,.p V5 (.n 1),V6] rfl (Qe S) (Qe R) (Q2 (Z6 [.p V0 V1,V2,V3,.p V2 (.n 1),.p (.p (.p (.p V0 (.n 1)) V4) (.n 1)) V5,V3,V1,.p V4 (.n 1)] rfl (Qf S) (Qf R) Q1)) (Q2 (pos))) (Z7 [V0,V1,V2,.p V3 (.n 1),.p (.p (.p (.p V4 (.n 1)) V5) (.n 1)) V0,V2,V3,.p V1 (.p V4 V6),V6,.p V5 (.n 1)] rfl (Qf S) (Qf R) Q1 Q1))];simp[bV]
noncomputable def dc(x:ai):aH:=decide (x="")||decide (x=".")
def OO(Y1 Y2 S1 S2:aa ai):Prop:=(S1=[]/\S2=[])\/∃n Z Y,S1=n::Z/\S2=n::Y/\dc n=aC/\(Y1≠[]\/Y2≠[])
section
variable{Y1 Y2 S1 S2:aa ai}(h1:∀x∈Y1,dc x=aj)(h2:∀x∈Y2,dc x=aj)(hS:OO Y1 Y2 S1 S2)
include h1 h2 hS
theorem vX{a b:ai}(Y:(Y1++S1)[0]?=af a)(X:(Y2++S2)[0]?=af b)(Z:dc b=aC):a≠b:=by
 rintro rfl;induction Y2 using aO with|cons y Y2=>cases X;have Z:=(h2 _ (.head _))▸Z;cases Z|nil=>induction Y1 using aO with|cons y Y1=>cases Y;have Z:=(h1 _ (.head _))▸Z;cases Z|nil=>
   rcases hS with ⟨rfl,rfl⟩|⟨n,W,V,rfl,rfl,_,h|h⟩;·exact ns Y
   ·exact h rfl
   ·exact h rfl
theorem z4{d:ah}(Z:d<alike Y1 Y2):∃a,(Y1++S1)[d]?=af a/\(Y2++S2)[d]?=af a/\dc a=aj:=by
 refine aQ (ue Y1 Y2 d Z) λa Y X=>?_;have l:=cN Y1 Y2;exact cy a (by rw[m9 (by exact Qs (Z3 [.p V0 (.n 1),V1,.p V0 (.n 1),V2,V2,V1] rfl (Qt Z) l.1))];exact Y) (by rw[m9 (by exact Qs (Z3 [.p V0 (.n 1),V1,.p V0 (.n 1),V2,V2,V1] rfl (Qt Z) l.2))];exact X) (h1 a (j3 Y))
theorem z5{a b:ai}(Y:(Y1++S1)[alike Y1 Y2]?=af a)(X:(Y2++S2)[alike Y1 Y2]?=af b)(Z:dc b=aj):a≠b:=by
 have l:=cN Y1 Y2;by_cases W:alike Y1 Y2<Y2.length
 ·rw[m9 W] at X;by_cases V:alike Y1 Y2<Y1.length;·rw[m9 V] at Y;exact lg Y1 Y2 Y X
  ·rw[jh ((Qb V)),show alike Y1 Y2-Y1.length=0 by exact cY (Z3 [V0,.n 0,V1,V2,.p V0 V2,V1] rfl l.1 (Q2 ((Qb V)))) (Z1 [.n 0,V0] rfl)] at Y;rcases hS with ⟨rfl,rfl⟩|⟨n,T,S,rfl,rfl,U,_⟩;·exact ns Y
   ·cases Y;rintro rfl;have Z:=U▸Z;cases Z
 ·rw[jh ((Qb W)),show alike Y1 Y2-Y2.length=0 by exact cY (Z3 [V0,.n 0,V1,V2,.p V0 V2,V1] rfl l.2 (Q2 ((Qb W)))) (Z1 [.n 0,V0] rfl)] at X;rcases hS with ⟨rfl,rfl⟩|⟨n,T,S,rfl,rfl,U,_⟩;·exact ns X
  ·cases X;have Z:=U▸Z;cases Z
end
structure RV(A B:aa ai)(eK jX eZ j5 bi bj bs e1 e2:ah):Prop where
 a0:eK+e1<=bi
 b0:eZ+e1<=bj
 a1:bi+bs+e2<=jX
 b1:bj+bs+e2<=j5
 al:jX<=A.length
 bl:j5<=B.length
 f1:eK<bi->eZ<bj->∀a b,A[bi-1]?=af a->B[bj-1]?=af b->dc b=aC->a≠b
 f2:bi+bs<jX->bj+bs<j5->∀a b,A[bi+bs]?=af a->B[bj+bs]?=af b->dc b=aC->a≠b
 f3:∀d,d<e1->∃a,A[bi-1-d]?=af a/\B[bj-1-d]?=af a/\dc a=aj
 g3:eK+e1<bi->eZ+e1<bj->∀a b,A[bi-1-e1]?=af a->B[bj-1-e1]?=af b->dc b=aj->a≠b
 f4:∀d,d<e2->∃a,A[bi+bs+d]?=af a/\B[bj+bs+d]?=af a/\dc a=aj
 g4:bi+bs+e2<jX->bj+bs+e2<j5->∀a b,A[bi+bs+e2]?=af a->B[bj+bs+e2]?=af b->dc b=aj->a≠b
structure uq(A W:aa ai)(lo hi:ah):Prop where
 le:lo<=hi
 al:hi<=A.length
 eq:(A.take hi).drop lo=W
theorem uq.len{A W:aa ai}{lo hi:ah}(w:uq A W lo hi):W.length=hi-lo:=by
 have:=w.al;rw[<-w.eq,gX,dU,eW this]
theorem uq.at{A W:aa ai}{lo hi:ah}(w:uq A W lo hi){p:ah}(Z:lo+p<hi):A[lo+p]?=W[p]?:=by rw[<-w.eq,oK,rZ,aW Z]
theorem uq.sub{A X Y Z:aa ai}{lo hi:ah}(w:uq A (X++Y++Z) lo hi):uq A Y (lo+X.length) (lo+X.length+Y.length):=by
 have W:=w.len;have V:=w.le;simp at W;refine⟨Z3 [.p V0 V1,.p (.p V0 V1) V2] rfl,Z7 [.p (.p V0 V1) V2,V3,V4,V3,.p V1 (.p V2 V5),V6,.p V6 V0,V4] rfl w.al (Qe W) (Q2 (V)),?_⟩;have e:(A.take (lo+X.length+Y.length)).drop (lo+X.length)=(((A.take hi).drop lo).drop X.length).take Y.length:=by
  rw[r4,List.take_drop,List.take_take];congr 2;exact(eW (br (by rw[<-W,fj];exact sf (sf (dh _ _) _) _) (cA (Nat.add_sub_of_le V)))).symm
 rw[e,w.eq];simp
theorem uq.ln{A W:aa ai}{lo hi:ah}(w:uq A W lo hi):lo+W.length=hi:=by rw[w.len,Nat.add_sub_of_le w.le]
theorem uq.Pr{A W X Y:aa ai}{lo hi m:ah}(w:uq A W lo hi)(e:W=X++Y)(V:lo+X.length=m):uq A Y m hi:=by
 subst e V;have h:=uq.sub (X:=X) (Y:=Y) (Z:=[]) (by rw[bY];exact w);rw[fj,<-bU,w.ln] at h;exact h
theorem G8{l:aa ai}{d:ah}(h:d<l.length):l[l.length-1-d]?=l.reverse[d]?:=by rw[List.getElem?_reverse h]
theorem G9{A B P1 P2 X1 X2 N Y1 Y2 S1 S2:aa ai}{eK jX eZ j5:ah}(T:uq A (P1++X1++N++Y1++S1) eK jX)(S:uq B (P2++X2++N++Y2++S2) eZ j5)(C:∀x∈X1,dc x=aj)(x2:∀x∈X2,dc x=aj)(O:∀x∈Y1,dc x=aj)(M:∀x∈Y2,dc x=aj)(L:OO X1.reverse X2.reverse P1.reverse P2.reverse)(K:OO Y1 Y2 S1 S2):RV A B eK jX eZ j5 (eK+P1.length+X1.length) (eZ+P2.length+X2.length) N.length (alike X1.reverse X2.reverse) (alike Y1 Y2):=by
 have Q:=T.len;have lb:=S.len;have J:=T.le;have I:=S.le;simp only[bU] at Q lb;have R:=cN X1.reverse X2.reverse;have P:=cN Y1 Y2;simp only[List.length_reverse] at R;have W:∀x∈X1.reverse,dc x=aj:=λx H=>C x (List.mem_reverse.mp H);have V:∀x∈X2.reverse,dc x=aj:=λx H=>x2 x (List.mem_reverse.mp H);have G:∀d,eK+P1.length+X1.length+N.length+d<jX->A[eK+P1.length+X1.length+N.length+d]?=(Y1++S1)[d]?:=λd Z=>by rw[show eK+P1.length+X1.length+N.length+d=eK+((P1++X1++N).length+d) by simp;exact L0 [.p (.p (.p (.p V0 V1) V2) V3) V4,.p V0 (.p (.p V1 (.p V2 V3)) V4)] rfl,T.at (by simp;exact Z6 [.p (.p V0 (.p (.p V1 (.p V2 V3)) V4)) (.n 1),V5,.p (.p (.p (.p (.p V0 V1) V2) V3) V4) (.n 1),V5] rfl Z),bV (P1++X1++N),jh (dh _ _),oR]
 have F:∀d,eZ+P2.length+X2.length+N.length+d<j5->B[eZ+P2.length+X2.length+N.length+d]?=(Y2++S2)[d]?:=λd Z=>by rw[show eZ+P2.length+X2.length+N.length+d=eZ+((P2++X2++N).length+d) by simp;exact L0 [.p (.p (.p (.p V0 V1) V2) V3) V4,.p V0 (.p (.p V1 (.p V2 V3)) V4)] rfl,S.at (by simp;exact Z6 [.p (.p V0 (.p (.p V1 (.p V2 V3)) V4)) (.n 1),V5,.p (.p (.p (.p (.p V0 V1) V2) V3) V4) (.n 1),V5] rfl Z),bV (P2++X2++N),jh (dh _ _),oR]
 have E:∀d,d<P1.length+X1.length->A[eK+P1.length+X1.length-1-d]?=(X1.reverse++P1.reverse)[d]?:=λd Z=>by rw[<-List.reverse_append,<-G8 (by simp;exact Z),show eK+P1.length+X1.length-1-d=eK+((P1++X1).length-1-d) by simp;exact cY (Z8 [V0,.p V1 V2,V3,.p V2 V4,.p V5 V6,.p V3 (.n 1),.p V0 V4,V7,.p V7 (.n 1),.p (.p V1 V5) V6] rfl Q1 Q1 (Q2 (Z5 [V0,V1,.p V0 (.n 1),.p V2 V3,.p (.p V4 V2) V3,.p V1 (.n 1)] rfl Z Q1)) (Q2 (Z4 [.n 1,.p (.p V0 V1) V2,.p V3 (.n 1),.p V1 V2] rfl Z))) (Z8 [.p V0 V1,V2,V3,.p V2 V4,.p (.p V0 V5) V6,.p V3 (.n 1),.p V1 V4,V7,.p V7 (.n 1),.p V5 V6] rfl Q1 Q1 (Q2 (Z4 [V0,V1,.p V0 (.n 1),.p V2 V3,.p V2 V3,.p V1 (.n 1)] rfl Z Q1)) (Q2 (Z3 [.n 1,.p V0 V1,.p V2 (.n 1),.p V0 V1] rfl Z))),T.at (by simp;exact lY [_,_,_,_,_,_,_,_,_,_] 1 [] [.p (.p V0 V1) (.n 1),V2,.p (.p (.p (.p V3 V4) V5) V6) V7,V8,V1,V9,.p V9 (.n 1),.p V3 V4,.p V8 V0,V2] rfl (Qe Q) Q0 (Q2 (Z3 [.n 1,.p V0 V1,.p V2 (.n 1),.p V0 V1] rfl Z)) (Q2 (J))),bV,bV,m9 (by simp;exact Z4 [.p V0 (.n 1),.p V1 V2,V0,V3,.p V3 (.n 1),.p V1 V2] rfl Q0 (Q2 (Z3 [.n 1,.p V0 V1,.p V2 (.n 1),.p V0 V1] rfl Z)))]
 have D:∀d,d<P2.length+X2.length->B[eZ+P2.length+X2.length-1-d]?=(X2.reverse++P2.reverse)[d]?:=λd Z=>by rw[<-List.reverse_append,<-G8 (by simp;exact Z),show eZ+P2.length+X2.length-1-d=eZ+((P2++X2).length-1-d) by simp;exact cY (Z8 [V0,.p V1 V2,V3,.p V2 V4,.p V5 V6,.p V3 (.n 1),.p V0 V4,V7,.p V7 (.n 1),.p (.p V1 V5) V6] rfl Q1 Q1 (Q2 (Z5 [V0,V1,.p V0 (.n 1),.p V2 V3,.p (.p V4 V2) V3,.p V1 (.n 1)] rfl Z Q1)) (Q2 (Z4 [.n 1,.p (.p V0 V1) V2,.p V3 (.n 1),.p V1 V2] rfl Z))) (Z8 [.p V0 V1,V2,V3,.p V2 V4,.p (.p V0 V5) V6,.p V3 (.n 1),.p V1 V4,V7,.p V7 (.n 1),.p V5 V6] rfl Q1 Q1 (Q2 (Z4 [V0,V1,.p V0 (.n 1),.p V2 V3,.p V2 V3,.p V1 (.n 1)] rfl Z Q1)) (Q2 (Z3 [.n 1,.p V0 V1,.p V2 (.n 1),.p V0 V1] rfl Z))),S.at (by simp;exact lY [_,_,_,_,_,_,_,_,_,_] 1 [] [.p (.p V0 V1) (.n 1),V2,.p (.p (.p (.p V3 V4) V5) V6) V7,V8,V1,V9,.p V9 (.n 1),.p V3 V4,.p V8 V0,V2] rfl (Qe lb) Q0 (Q2 (Z3 [.n 1,.p V0 V1,.p V2 (.n 1),.p V0 V1] rfl Z)) (Q2 (I))),bV,bV,m9 (by simp;exact Z4 [.p V0 (.n 1),.p V1 V2,V0,V3,.p V3 (.n 1),.p V1 V2] rfl Q0 (Q2 (Z3 [.n 1,.p V0 V1,.p V2 (.n 1),.p V0 V1] rfl Z)))]
 refine⟨Z4 [.p V0 V1,.p (.p V0 V2) V3,V1,V3] rfl R.1,Z4 [.p V0 V1,.p (.p V0 V2) V3,V1,V3] rfl R.2,Z9 [.p (.p (.p (.p V0 V1) V2) V3) V4,V5,.p (.p (.p (.p V1 V2) V3) V6) V7,V8,V4,V6,.p V8 V0,V5] rfl (Qe Q) P.1 (Q2 (J)),Z9 [.p (.p (.p (.p V0 V1) V2) V3) V4,V5,.p (.p (.p (.p V1 V2) V3) V6) V7,V8,V4,V6,.p V8 V0,V5] rfl (Qe lb) P.2 (Q2 (I)),T.al,S.al,λh U a b Y X=>?_,λh U a b Y X=>?_,λd Z=>?_,λh U a b Y X=>?_,λd Z=>?_,λh U a b Y X=>?_⟩;·have Y:=(E 0 (Z3 [.p (.n 0) (.n 1),.p V0 V1,.p V2 (.n 1),.p (.p V2 V0) V1] rfl h)).symm.trans Y;have X:=(D 0 (Z3 [.p (.n 0) (.n 1),.p V0 V1,.p V2 (.n 1),.p (.p V2 V0) V1] rfl U)).symm.trans X;exact vX W V L Y X
 ·have Y:=(G 0 (Z5 [.p (.p (.p (.p (.p V0 V1) V2) V3) (.n 0)) (.n 1),V4,.p (.p (.p (.p V0 V1) V2) V3) (.n 1),V4] rfl h)).symm.trans Y;have X:=(F 0 (Z5 [.p (.p (.p (.p (.p V0 V1) V2) V3) (.n 0)) (.n 1),V4,.p (.p (.p (.p V0 V1) V2) V3) (.n 1),V4] rfl U)).symm.trans X;exact vX O M K Y X
 ·rw[E d (Z4 [.p V0 (.n 1),.p V1 V2,V3,V2,.p V0 (.n 1),V3] rfl R.1 Z),D d (Z4 [.p V0 (.n 1),.p V1 V2,V3,V2,.p V0 (.n 1),V3] rfl R.2 Z)];exact z4 W V L Z
 ·rw[E _ (by exact Z4 [.p V0 (.n 1),.p V1 V2,.p (.p V3 V0) (.n 1),.p (.p V3 V1) V2] rfl h)] at Y;rw[D _ (by exact Z4 [.p V0 (.n 1),.p V1 V2,.p (.p V3 V0) (.n 1),.p (.p V3 V1) V2] rfl U)] at X;exact z5 W V L Y X
 ·rw[G d (lY [_,_,_,_,_,_,_,_,_,_] 1 [] [.p (.p (.p (.p (.p V0 V1) V2) V3) V4) (.n 1),V5,.p (.p (.p (.p V1 V2) V3) V6) V7,V8,V9,V6,.p V4 (.n 1),V9,.p V8 V0,V5] rfl (Qe Q) P.1 Z (Q2 (J))),F d (lY [_,_,_,_,_,_,_,_,_,_] 1 [] [.p (.p (.p (.p (.p V0 V1) V2) V3) V4) (.n 1),V5,.p (.p (.p (.p V1 V2) V3) V6) V7,V8,V9,V6,.p V4 (.n 1),V9,.p V8 V0,V5] rfl (Qe lb) P.2 Z (Q2 (I)))];exact z4 O M K Z
 ·rw[G _ (h)] at Y;rw[F _ (U)] at X;exact z5 O M K Y X
structure GN(G:aa Gp)(ns:aa ai):Prop where
 len:ns.length+1=G.length
 yo:∀g∈G,(∀x∈g.1,dc x=aj)/\∀x∈g.2,dc x=aj
 name:∀n∈ns,dc n=aC
theorem vY(f:Gp->aa ai):∀(X:aa Gp)(Z:aa ai),Z.length=X.length->∃r,(jq f X Z).reverse=match Z.reverse with|[]=>[]|n::_=>n::r:=by
 intro W;induction W with
 |nil=> intro V;induction V using aO with |nil=> intro _;exact⟨[],rfl⟩|cons T S=> intro h;exact dY h
 |cons g X Y=> intro U;induction U using aO with
  |nil=> intro h;exact dY h|cons n Z=>
   intro h;refine aZ (Y Z (by simpa using h)) λr Y=>?_;have e:(jq f (g::X) (n::Z)).reverse=(jq f X Z).reverse++n::(f g).reverse:=by
    show (f g++n::jq f X Z).reverse=_;simp
   rw[e,oJ];cases q:Z.reverse with|nil=>have Y:=q▸Y;rw[Y];exact⟨_,rfl⟩|cons m s=>have Y:=q▸Y;rw[Y];exact⟨_,rfl⟩
theorem G_{Y:aa Gp}{Z X1 X2:aa ai}(W:Z.length=Y.length)(U:∀n∈Z,dc n=aC)(V:Y≠[]->X1≠[]\/X2≠[]):OO X1.reverse X2.reverse (jq (·.1) Y Z).reverse (jq (·.2) Y Z).reverse:=by
 refine aZ (vY (·.1) Y Z W) λT a=>?_;refine aZ (vY (·.2) Y Z W) λT b=>?_;cases q:Z.reverse with |nil=> rw[q] at a b;exact .inl ⟨a,b⟩|cons n r=>
  rw[q] at a b;have X:n∈Z:=List.mem_reverse.mp (by rw[q];exact .head _);refine .inr (rC n _ _ a b (U n X) ?_);have:Y≠[]:=λe=>by
   subst e;have:Z=[]:=List.length_eq_zero_iff.mp W;have X:=this▸X;cases X
  exact(V this).imp (λh e=>h (List.reverse_eq_nil_iff.mp e)) λh e=>h (List.reverse_eq_nil_iff.mp e)
theorem D0{Y:aa Gp}{Z Y1 Y2:aa ai}(W:Z.length=Y.length)(V:∀n∈Z,dc n=aC)(X:Y≠[]->Y1≠[]\/Y2≠[]):OO Y1 Y2 (ve (·.1) Y Z) (ve (·.2) Y Z):=by induction Y using aO with
 |nil=>induction Z using aO with |nil=>exact .inl ⟨rfl,rfl⟩|cons=>exact dY W
 |cons g Y=>induction Z using aO with|nil=>exact dY W|cons n Z=>exact .inr (rC n _ _ rfl rfl (V n (.head _)) (X (by simp)))
structure yp(A B:aa ai)(eK jX eZ j5:ah)(G:aa Gp)(ns:aa ai):Prop where
 a:uq A (f_ (·.1) G ns) eK jX
 b:uq B (f_ (·.2) G ns) eZ j5
 gn:GN G ns
theorem p_(f:Gp->aa ai):∀(G:aa Gp)(ns:aa ai),ns.length+1=G.length->(f_ f G ns).length+1=wd (λg=>(f g).length) G:=by
 intro G;induction G with
 |nil=> intro _ h;exact dY h|cons g Z Y=>induction Z using aO with
  |nil=> intro X;induction X using aO with |nil=> intro _;rfl|cons V U=> intro e;simp at e
  |cons h r=> intro W;induction W using aO with
   |nil=> intro e;simp at e|cons n ns=>
    intro e;show (f g++n::f_ f (h::r) ns).length+1=_;rw[mC,<-(Y ns (by simpa using e))];simp;exact lZ [.p (.p V0 (.p V1 (.n 1))) (.n 1),.p (.p V0 (.n 1)) (.p V1 (.n 1))] rfl
theorem z6(f:Gp->aa ai):∀(G:aa Gp)(ns:aa ai),ns.length=G.length->(jq f G ns).length=wd (λg=>(f g).length) G:=by
 intro Z;induction Z with
 |nil=> intro Y;induction Y using aO with |nil=> intro h;exact rfl|cons V U=>
   intro h;exact dY h |cons g G X=>
  intro W;induction W using aO with
  |nil=> intro h;exact dY h|cons n ns=>
   intro e;show (f g++n::jq f G ns).length=_;rw[mC,<-X ns (by simpa using e)];simp;exact lZ [.p V0 (.p V1 (.n 1)),.p (.p V0 (.n 1)) V1] rfl
theorem vZ(j:ah)(g h:Gp)(r:aa Gp):cont j (g::h::r)=bN g.1.length none++af (j+g.2.length)::cont (j+g.2.length+1) (h::r):=by
 show bN g.1.length none++uo (j+g.2.length) (h::r)=_;congr 1;induction r using aO with |nil=>show af _::bN _ none=af _::(bN _ none++[]);rw[bY]|cons x r=>
  show af _::(bN _ none++uo (j+g.2.length+h.2.length+1) (x::r))=af _::(bN _ none++uo (j+g.2.length+1+h.2.length) (x::r));rw[show j+g.2.length+1+h.2.length=j+g.2.length+h.2.length+1 by exact Ac [.p (.p (.p V0 V1) (.n 1)) V2,.p (.p (.p V0 V1) V2) (.n 1)] rfl]
theorem Hg:∀(G:aa Gp)(ns:aa ai)(j:ah),ns.length+1=G.length->(cont j G).length=(f_ (·.1) G ns).length:=by
 intro G;induction G with
 |nil=> intro _ _ h;exact dY h|cons g Z Y=>induction Z using aO with
  |nil=>
   intro X;induction X using aO with |nil=>
    intro j _;show (bN _ _++[]).length=g.1.length;simp|cons V U=>
    intro j e;simp at e |cons h r=>
   intro W;induction W using aO with
   |nil=>
    intro j e;simp at e|cons n ns=>
    intro j e;rw[vZ];rw[bU,bU,jE,jE,Y ns _ (by simpa using e)];simp
theorem Jf:∀(G:aa Gp)(ns:aa ai)(j t:ah)(o:aA ah),GN G ns->(cont j G)[t]?=af o->∃x,(f_ (·.1) G ns)[t]?=af x/\match o with |none=>dc x=aj|some p=>dc x=aC/\j<=p/\(f_ (·.2) G ns)[p-j]?=af x:=by
 intro G;induction G with |nil=> intro _ _ _ _ Z _;have:=Z.len;simp at this|cons g S R=>induction S using aO with
  |nil=> intro Q;induction Q using aO with |nil=>
    intro j t o Z h;have h:(bN g.1.length none++[])[t]?=af o:=h;rw[bY] at h;have X:t<g.1.length:=by
     have:=(gi h).1;simpa using this
    rw[List.getElem?_replicate,aW X] at h;cases h;exact aP (g.1[t]) (c7 X) ((Z.yo g (.head _)).1 _ (rX X))|cons K J=>
    intro _ _ _ Z _;have:=Z.len;simp at this
  |cons h r=>
   intro P;induction P using aO with
   |nil=>
    intro _ _ _ Z _;have:=Z.len;simp at this|cons n ns=>
    intro j t o Z e;have W:GN (h::r) ns:=⟨by have:=Z.len;simpa using this,λx V=>Z.yo x (.tail _ V),λx V=>Z.name x (.tail _ V)⟩;rw[vZ] at e;by_cases q:t<g.1.length;·rw[m9 (by simpa using q),List.getElem?_replicate,aW q] at e;cases e;exact aP (g.1[t]) (by rw[m9 q,c7 q]) ((Z.yo g (.head _)).1 _ (rX q))
    ·rw[jh (by simpa using q),qm] at e;rw[jh ((Qb q))];cases T:t-g.1.length with
     |zero=>
      have e:=T▸e;cases e;refine lX n rfl (Z.name n (.head _)) (dh _ _) ?_;rw[oR,jh (bf _),cB];rfl|succ O=>
      rw[T] at e;refine aQ (R ns (j+g.2.length+1) O o W e) λx N U=>?_;refine⟨x,N,?_⟩;induction o using c9 with |none=>exact U|some p=>
       (refine cL U λM Y L=>?_;clear U);refine⟨M,Z3 [V0,V1,.p (.p V0 V2) (.n 1),V1] rfl Y,?_⟩;rw[jh (by exact Z4 [V0,V1,.p (.p V2 V0) (.n 1),V3,V3,.p V1 V2] rfl Y Q1),show p-j-g.2.length=(p-(j+g.2.length+1))+1 by exact Mn [V0,.p V1 (.n 1),.p V0 V2,V3,.p V3 V4,V5,V5,.p V1 (.p (.p V4 V2) (.n 1))] rfl (eO (Z4 [V0,V1,.p (.p V2 V0) (.n 1),V3,V3,.p V1 V2] rfl Y Q1)) (eO (Z3 [V0,V1,.p (.p V0 V2) (.n 1),V1] rfl Y)) (Eq.symm (eO (Y)))];exact L
structure Lu(A B:aa ai)(eK jX eZ j5:ah)(C:aa (aA ah))(b:gR)(bi bj bs e1 e2:ah):Prop where
 lp:(Aj eK (none,(eK,eZ,0)) C).2=(bi,bj,bs)ext:RV A B eK jX eZ j5 bi bj bs e1 e2
 eq:b=(bi-e1,bj-e1,bs+e1+e2)
theorem yp.nil{A B:aa ai}{eK jX eZ j5:ah}{G:aa Gp}{ns:aa ai}(w:yp A B eK jX eZ j5 G ns){T:aa gR}(t:Tr eK eZ G T)(h:jX<=eK\/j5<=eZ):T=[]:=by
 have Z:=p_ (·.2) G ns w.gn.len;refine t.empty ?_;have a:=w.a.len;have b:=w.b.len;show wd l1 G-1=0\/wd l2 G-1=0;exact h.imp (λh=>by rw[<-show _=wd l1 G from (p_ (·.1) G ns w.gn.len),a,r9 h]) λh=>by rw[<-show _=wd l2 G from Z,b,r9 h]
theorem uq.here{A:aa ai}{lo:ah}(h:lo<=A.length):uq A [] lo lo:=⟨bf _,h,by rw[List.drop_take];simp⟩
theorem Lv{X:Sort _}{W:Sort _}{V:Sort _}{U:Sort _}{T:Sort _}{S:Sort _}{p0 R:X->W->V->U->T->S->Prop}(a0:X)(a1:W)(a2:V)(Z:U)(Y:T)(a5:S)(h0:p0 a0 a1 a2 Z Y a5)(Q:R a0 a1 a2 Z Y a5):∃a0 a1 a2 Z Y a5,p0 a0 a1 a2 Z Y a5/\R a0 a1 a2 Z Y a5:=⟨a0,a1,a2,Z,Y,a5,h0,Q⟩
theorem OP{X:Sort _}{W:Sort _}{V:Sort _}{U:Sort _}{T:Sort _}{S:Sort _}{p0 R Q P O:X->W->V->U->T->S->Prop}(a0:X)(a1:W)(a2:V)(Z:U)(Y:T)(a5:S)(h0:p0 a0 a1 a2 Z Y a5)(N:R a0 a1 a2 Z Y a5)(M:Q a0 a1 a2 Z Y a5)(L:P a0 a1 a2 Z Y a5)(K:O a0 a1 a2 Z Y a5):∃a0 a1 a2 Z Y a5,p0 a0 a1 a2 Z Y a5/\R a0 a1 a2 Z Y a5/\Q a0 a1 a2 Z Y a5/\P a0 a1 a2 Z Y a5/\O a0 a1 a2 Z Y a5:=⟨a0,a1,a2,Z,Y,a5,h0,N,M,L,K⟩
theorem Hh{A B:aa ai}{eK jX eZ j5:ah}{G:aa Gp}{ns:aa ai}{T:aa gR}(w:yp A B eK jX eZ j5 G ns)(t:Tr eK eZ G T):∃b bi bj bs I e2,Lu A B eK jX eZ j5 (cont eZ G) b bi bj bs I e2/\((b.2.2=0/\T=[])\/(0<b.2.2/\∃Tl T' Gl nl Gr O,T=Tl++b::T'/\yp A B eK b.1 eZ b.2.1 Gl nl/\Tr eK eZ Gl Tl/\yp A B (b.1+b.2.2) jX (b.2.1+b.2.2) j5 Gr O/\Tr (b.1+b.2.2) (b.2.1+b.2.2) Gr T')):=by
 have one:∀g:Gp,G=[g]->ns=[]/\Lu A B eK jX eZ j5 (cont eZ G) (eK,eZ,alike g.1 g.2) eK eZ 0 0 (alike g.1 g.2):=by
  rintro g rfl;have M:ns=[]:=by
   have:=w.gn.len;exact List.length_eq_zero_iff.mp (by simpa using this)
  subst M;have r:=w.gn.yo g (.head _);have:=G9 (P1:=[]) (P2:=[]) (X1:=[]) (X2:=[]) (N:=[]) (S1:=[]) (S2:=[]) (Y1:=g.1) (Y2:=g.2) (A:=A) (B:=B) (eK:=eK) (jX:=jX) (eZ:=eZ) (j5:=j5) (by have:=w.a;simpa [f_] using this) (by have:=w.b;simpa [f_] using this) nofun nofun r.1 r.2 (.inl ⟨rfl,rfl⟩) (.inl ⟨rfl,rfl⟩);exact⟨rfl,Lq eK eZ g,this,by simp⟩
 cases t with
 |@nil _ _ _ g e h=> refine bq (one g e) λM f=>?_;exact Lv _ _ _ _ _ _ f (.inl ⟨h,rfl⟩)|@one _ _ _ g _ e h eT=>
  refine bq (one g e) λM f=>?_;have r:=w.gn.yo g (by rw[e];exact .head _);have al:=cN g.1 g.2;refine Lv _ _ _ _ _ _ f (.inr ⟨oO h,OP [] [] [gE] [] [f9 g] [] eT ?_ (.nil rfl rfl) ?_ (.nil rfl (pL _ _))⟩)
  ·refine⟨uq.here ?_,uq.here ?_,rfl,?_,nofun⟩;·exact br w.a.le w.a.al
   ·exact br w.b.le w.b.al
   ·intro x P;cases P with |head=>exact⟨nofun,nofun⟩|tail _ h=>cases h
  ·subst e M;have C:=w.a;have v:=w.b;refine⟨?_,?_,rfl,?_,nofun⟩;·exact C.Pr (X:=g.1.take (alike g.1 g.2)) (Y:=g.1.drop (alike g.1 g.2)) (iB _ _).symm (by rw[dU,eW al.1])
   ·exact v.Pr (X:=g.2.take (alike g.1 g.2)) (Y:=g.2.drop (alike g.1 g.2)) (iB _ _).symm (by rw[dU,eW al.2])
   ·intro x P;cases P with |head=>exact⟨λy hy=>r.1 y (wG hy),λy hy=>r.2 y (wG hy)⟩|tail _ h=>cases h
 |@node _ _ i' j' _ H S u L W V len Tl T' _ e c s M ei ej tl tr eT=>
  refine kY (CN (f:=(·.1)) rfl c w.gn.len) λU O R en Q K F f1=>?_;have f2:f_ (·.2) G ns=jq (·.2) S U++W.2++O++V.2++ve (·.2) u R:=by
   refine kY (CN (f:=(·.2)) rfl c w.gn.len) λo T9 m T_ k d Ua f2=>?_;have h1:U++(O++R)=o++(T9++m):=by rw[<-bV,<-bV,<-en,<-T_]
   refine bq (List.append_inj h1 (by rw[Q,k])) λa1 a2=>?_;refine bq (List.append_inj a2 (by rw[K,d])) λa3 a4=>?_;rw[a1,a3,a4];exact f2
  have Ub:W∈G:=by rw[c.eq];simp
  have hgr:V∈G:=by rw[c.eq];simp
  have jl:=w.gn.yo W Ub;have jr:=w.gn.yo V hgr;have SE:∀g:Gp,g≠gE->g.1≠[]\/g.2≠[]:=λg h=>by
   obtain⟨x,y⟩:=g;by_cases q:x=[];·refine .inr λe=>h ?_;show (x,y)=([],[]);rw[q,show y=[] from e]
   ·exact .inl q
  have C:=w.a;have v:=w.b;rw[f1] at C;rw[f2] at v;have E:(jq (·.1) S U).length=wd l1 S:=z6 (·.1) S U Q;have D:(jq (·.2) S U).length=wd l2 S:=z6 (·.2) S U Q;have n1:∀n∈U,dc n=aC:=λn M=>w.gn.name n (by rw[en];simp[M]);have n2:∀n∈R,dc n=aC:=λn M=>w.gn.name n (by rw[en];simp[M]);have ex:=G9 C v jl.1 jl.2 jr.1 jr.2 (G_ Q n1 λh=>by
    obtain⟨x,y,q⟩:∃x y,S=x::y:=by cases S with|nil=>exact aJ rfl h|cons x y=>exact⟨x,y,rfl⟩
    exact SE W (c.left x y q).1) (D0 F n2 λh=>SE V (c.right h).1);rw[E,D,K] at ex;have eE:alike W.1.reverse W.2.reverse=di W:=rfl;rw[eE] at ex;have J:=mw W;have hF:=cN V.1 V.2;have pos:=c.pos;have lp:=Lr (i:=eK) (j:=eZ) M (e▸c) s;rw[<-e] at lp;have d1:l1 W=W.1.length:=rfl;have d2:l2 W=W.2.length:=rfl;rw[d1,d2] at lp;rw[d1] at ei;rw[d2] at ej;have hb:BQ eK eZ S W V len=(eK+wd l1 S+W.1.length-di W,eZ+wd l2 S+W.2.length-di W,len+di W+alike V.1 V.2):=by
   unfold BQ;rw[d1,d2,iE (di W) len]
  refine Lv (BQ eK eZ S W V len) _ _ _ _ _ ⟨lp,ex,hb⟩ (.inr ⟨by rw[hb];dsimp only;exact Z3 [.p (.n 0) (.n 1),.p (.p V0 V1) V2,.n 1,V0] rfl pos,OP Tl T' (S++[ig W]) U (f9 V::u) R eT ?_ tl ?_ ?_⟩)
  ·have I:∀f:Gp->aa ai,f_ f (S++[ig W]) U=jq f S U++f (ig W):=λf=>by
    have:=CM f [ig W] [] S U Q;rw[bY] at this;exact this
   rw[hb];dsimp only;refine⟨?_,?_,?_,?_,n1⟩
   ·rw[I];have:=uq.sub (A:=A) (X:=[]) (Y:=jq (·.1) S U++(ig W).1) (Z:=W.1.drop (W.1.length-di W)++(O++(V.1++ve (·.1) u R))) (lo:=eK) (hi:=jX) (by
     have q:W.1=(ig W).1++W.1.drop (W.1.length-di W):=(iB _ _).symm;have z:=C;rw[q] at z;simpa [bV] using z);have l:(jq (·.1) S U++(ig W).1).length=wd l1 S+(W.1.length-di W):=by rw[bU,E];congr 1;simp[ig]
    rw[l] at this;simp only[List.length_nil,kh] at this;rw[show eK+(wd l1 S+(W.1.length-di W))=eK+wd l1 S+W.1.length-di W by exact Mn [.p V0 (.p V1 V2),V3,.p V2 V4,V5,.p (.p V0 V1) V5,.p V3 V4] rfl (eO (J.1)) (Eq.symm (eO (Z4 [V0,.p (.p V1 V2) V3,V0,V3] rfl J.1)))] at this;exact this
   ·rw[I];have:=uq.sub (A:=B) (X:=[]) (Y:=jq (·.2) S U++(ig W).2) (Z:=W.2.drop (W.2.length-di W)++(O++(V.2++ve (·.2) u R))) (lo:=eZ) (hi:=j5) (by
     have q:W.2=(ig W).2++W.2.drop (W.2.length-di W):=(iB _ _).symm;have z:=v;rw[q] at z;simpa [bV] using z);have l:(jq (·.2) S U++(ig W).2).length=wd l2 S+(W.2.length-di W):=by rw[bU,D];congr 1;simp[ig]
    rw[l] at this;simp only[List.length_nil,kh] at this;rw[show eZ+(wd l2 S+(W.2.length-di W))=eZ+wd l2 S+W.2.length-di W by exact Mn [.p V0 (.p V1 V2),V3,.p V2 V4,V5,.p (.p V0 V1) V5,.p V3 V4] rfl (eO (J.2)) (Eq.symm (eO (Z4 [V0,.p (.p V1 V2) V3,V0,V3] rfl J.2)))] at this;exact this
   ·simp[Q]
   ·intro g hg;rcases d9 hg with h|h;·exact w.gn.yo g (by rw[c.eq];simp[h])
    ·rw[wH] at h;subst h;exact⟨λx P=>jl.1 x (oG P),λx P=>jl.2 x (oG P)⟩
  ·have I:∀f:Gp->aa ai,f_ f (f9 V::u) R=f (f9 V)++ve f u R:=λf=>vW f _ _ _ F;rw[hb];dsimp only;refine⟨?_,?_,?_,?_,n2⟩
   ·rw[I];have l:(jq (·.1) S U++W.1++O++V.1.take (alike V.1 V.2)).length=wd l1 S+W.1.length+len+alike V.1 V.2:=by simp only[bU,E,K,dU,eW (cN V.1 V.2).1]
    refine C.Pr (X:=jq (·.1) S U++W.1++O++V.1.take (alike V.1 V.2)) (by
     have q:V.1=V.1.take (alike V.1 V.2)++(f9 V).1:=(iB _ _).symm;conv=>lhs;rw[q]
     simp only[bV]) ?_;rw[l];exact(R6 [.p V0 (.p (.p V1 V2) V3),.p V4 (.p (.p (.p V5 V6) V1) V3),.p V0 V2,.p (.p V4 V5) V6] rfl (eO (Z4 [V0,.p (.p V1 V2) V3,V0,V3] rfl J.1))).symm
   ·rw[I];have l:(jq (·.2) S U++W.2++O++V.2.take (alike V.1 V.2)).length=wd l2 S+W.2.length+len+alike V.1 V.2:=by simp only[bU,D,K,dU,eW (cN V.1 V.2).2]
    refine v.Pr (X:=jq (·.2) S U++W.2++O++V.2.take (alike V.1 V.2)) (by
     have q:V.2=V.2.take (alike V.1 V.2)++(f9 V).2:=(iB _ _).symm;conv=>lhs;rw[q]
     simp only[bV]) ?_;rw[l];exact(R6 [.p V0 (.p (.p V1 V2) V3),.p V4 (.p (.p (.p V5 V6) V1) V3),.p V0 V2,.p (.p V4 V5) V6] rfl (eO (Z4 [V0,.p (.p V1 V2) V3,V0,V3] rfl J.2))).symm
   ·simp[F]
   ·intro g hg;rcases gq hg with h|h;·subst h;exact⟨λx P=>jr.1 x (wG P),λx P=>jr.2 x (wG P)⟩
    ·exact w.gn.yo g (by rw[c.eq];simp[h])
  ·rw[hb];dsimp only;rw[show eK+wd l1 S+W.1.length-di W+(len+di W+alike V.1 V.2)=i' by exact L1 [.p V0 (.p (.p V1 V2) V3),V4,.p (.p (.p (.p V5 V6) V7) V1) V3,V4,.p V0 V2,.p (.p V5 V6) V7] rfl (Eq.symm ei) (eO (Z4 [V0,.p (.p V1 V2) V3,V0,V3] rfl J.1)),show eZ+wd l2 S+W.2.length-di W+(len+di W+alike V.1 V.2)=j' by exact L1 [.p V0 (.p (.p V1 V2) V3),V4,.p (.p (.p (.p V5 V6) V7) V1) V3,V4,.p V0 V2,.p (.p V5 V6) V7] rfl (Eq.symm ej) (eO (Z4 [V0,.p (.p V1 V2) V3,V0,V3] rfl J.2))];exact tr
end cZ
end
section
open PySem PySem.W PySem.Calls PyProof.Rows
namespace cZ
theorem Hi{A:DV->(AS->Prop)->AS->Prop}{B:(Fl->AS->Prop)->AS->Prop}{W:AS->Prop}{P:Fl->AS->Prop}(I:aa DV->AS->Prop)(X:∀σ,I [] σ->P .next σ)(Y:∀x r σ,I (x::r) σ->(∀Z,I r Z->forL A B W r P Z)->forL A B W (x::r) P σ):∀xs σ,I xs σ->forL A B W xs P σ:=by
 intro xs;induction xs with |nil=>exactλσ h=>X σ h|cons x r V=>exactλσ h=>Y x r σ h (V)
theorem jg{A:DV->(AS->Prop)->AS->Prop}{B:(Fl->AS->Prop)->AS->Prop}{V:AS->Prop}{P:Fl->AS->Prop}(I:aa DV->AS->Prop)(W:∀σ,I [] σ->P .next σ)(Y:∀x r σ,I (x::r) σ->∀R:Fl->AS->Prop,(∀Z,V Z->I r Z->R .next Z)->(∀Z,V Z->I r Z->R .cont Z)->(∀v Z,P (.ret v) Z->R (.ret v) Z)->A x (λX=>B R X) σ):∀xs σ,I xs σ->forL A B V xs P σ:=by
 intro xs;induction xs with |nil=>exactλσ h=>W σ h|cons x r U=>exactλσ h=>Y x r σ h _ (λZ a b=>⟨a,U Z b⟩) (λZ a b=>⟨a,U Z b⟩) λT T h=>h
theorem qa{a b:ah}(h:a<b):cV a b=.int a::cV (a+1) b:=by
 unfold cV;rw[show b-a=(b-(a+1))+1 by exact vh [V0,.p V1 (.n 1),.p V0 V2,V3,V3,.p V1 (.p V2 (.n 1))] rfl (eO (Z2 [V0,V1,.p V0 (.n 1),V1] rfl h)) (Eq.symm (eO (h))),List.range'_succ];rfl
theorem z7{a b:ah}(h:b<=a):cV a b=[]:=by
 unfold cV;rw[show b-a=0 by exact cY ((Q3 (h))) (Z1 [.n 0,V0] rfl)];rfl
theorem j9{a b:ah}{x:DV}{r:aa DV}(h:x::r=cV a b):a<b/\x=.int a/\r=cV (a+1) b:=by
 by_cases q:a<b;·rw[qa q] at h;cases h;exact⟨q,rfl,rfl⟩
 ·rw[z7 ((Qb q))] at h;cases h
theorem gj{a b:ah}(h:[]=cV a b):b<=a:=by
 by_cases q:a<b;·have h:=(qa q)▸h;cases h
 ·exact(Qb q)
theorem Lw:∀(G X:aa Gp)(L:Gp)(t:ah)(g:Gp),G[t]?=af g->(qY (aN 1 X) G)[t]?=af (dK (L::(X++G)) (1+X.length+t) g):=by
 intro G;induction G with
 |nil=> intro _ _ _ _ h;exact ns h|cons g W Z=>induction W using aO with
  |nil=> intro X L t g h;induction t using cJ with |zero=> cases h;unfold dK;rw[aW (by simp;exact H6 [.p (.n 1) V0,.p V0 (.n 1)] rfl)];rfl|succ t=>exact ns h
  |cons h r=> intro X L V;induction V using cJ with
   |zero=>
    intro _ e;cases e;unfold dK;rw[aI (by simp;exact b8 (Z2 [.p (.p (.n 1) V0) (.n 1),.p V0 (.p (.p V1 (.n 1)) (.n 1))] rfl))];have U:(L::(X++g::h::r)).drop (1+X.length+0+1)=h::r:=by
     rw[show 1+X.length+0+1=(X.length+1)+1 by exact H6 [.p (.p (.p (.n 1) V0) (.n 0)) (.n 1),.p (.p V0 (.n 1)) (.n 1)] rfl,List.drop_succ_cons,List.drop_append];simp
    have T:((L::(X++g::h::r)).drop 1).take (1+X.length+0-1)=X:=by rw[List.drop_succ_cons,mV,show 1+X.length+0-1=X.length by exact lZ [V0,V1,.p V0 (.n 1),.p (.p (.n 1) V1) (.n 0)] rfl (eO (Z1 [.n 1,.p (.p (.n 1) V0) (.n 0)] rfl)),List.take_left]
    rw[U,T];by_cases q:g=gE
    ·subst q;show (if gE=gE then (0,0)::qY (aN 1 X+1) (h::r) else _)[0]?=_;rw[aW rfl];split<;>rfl
    ·show (if g=gE then _ else (if gQ (h::r)<=aN 1 X then ie g else gx g)::qY 1 (h::r))[0]?=_;rw[aI q];show af _=_;by_cases Y:gQ (h::r)<=aN 1 X;·rw[aW Y,aW ⟨Z1 [.p (.n 0) (.n 1),.p (.p (.n 1) V0) (.n 0)] rfl,Y⟩]
     ·rw[aI Y,aI λe=>Y e.2]|succ t=>
    intro S e;have Z:=Z (X++[g]) L t S e;rw[nX] at Z;rw[(by simp:L::(X++[g]++h::r)=L::(X++g::h::r)),show 1+(X++[g]).length+t=1+X.length+(t+1) by simp;exact lZ [.p (.p (.n 1) (.p V0 (.n 1))) V1,.p (.p (.n 1) V0) (.p V1 (.n 1))] rfl] at Z;rw[<-Z];by_cases q:g=gE;·rw[aW q];show (if g=gE then (0,0)::qY (aN 1 X+1) (h::r) else _)[t+1]?=_;rw[aW q];rfl
    ·rw[aI q];show (if g=gE then _ else (if gQ (h::r)<=aN 1 X then ie g else gx g)::qY 1 (h::r))[t+1]?=_;rw[aI q];rfl
theorem Lx{Z:aa Gp}{k:ah}{g:Gp}(h:Z[k]?=af g):(BN Z)[k]?=af (dK Z k g):=by match Z,k,h with
 |[r],0,h=>cases h;rfl|[r],k+1,h=>exact ns h|g::h::r,0,e=> cases e;show af (gx g)=_;unfold dK;rw[aI (by simp),aI (by simp)]|g::h::r,k+1,e=>
  have:=Lw (h::r) [] g k _ e;rw[show (BN (g::h::r))=gx g::qY 1 (h::r) from rfl,show 1+([]:aa Gp).length+k=k+1 by simp;exact H6 [.p (.n 1) V0,.p V0 (.n 1)] rfl];rw[show 1+([]:aa Gp).length+k=k+1 by simp;exact H6 [.p (.n 1) V0,.p V0 (.n 1)] rfl] at this;exact this
theorem Hj(Z:aa Gp)(k:ah)(g:Gp):(dK Z k g).1<=g.1.length/\(dK Z k g).2<=g.1.length/\(dK Z k g).2<=g.2.length:=by
 have a:=cN g.1 g.2;have b:=mw g;unfold dK;split;·exact⟨a.1,bW _,bW _⟩
 ·split;·have:=cN (g.1.drop (alike g.1 g.2)).reverse (g.2.drop (alike g.1 g.2)).reverse;simp at this;exact⟨a.1,br this.1 (kg _ _),br this.2 (kg _ _)⟩
  ·have:=cN (g.1.take (g.1.length-di g)) (g.2.take (g.2.length-di g));simp at this;refine⟨?_,b.1,b.2⟩;unfold gx;exact Z3 [V0,V1,V0,V2,V2,V1] rfl this.1 Q0
noncomputable def pD(p:ah×ah):DV:=.tup [.int p.1,.int p.2]
theorem BR{Z:aa Gp}{Y:aa (ah×ah)}{k:ah}{g:Gp}{t:ah×ah}(X:Z[k]?=af g)(W:Y[k]?=af t)(i j:ah):emit i j (Z.drop k) (Y.drop k)=CJ i j g t++if k+1<Z.length then(i+g.1.length,j+g.2.length)::emit (i+g.1.length+1) (j+g.2.length+1) (Z.drop (k+1)) (Y.drop (k+1))else[]:=by
 refine aZ (gi X) λV U=>?_;refine aZ (gi W) λT S=>?_;rw[e8 V,U,e8 T,S];by_cases q:k+1<Z.length
 ·rw[aW q,e8 q];exact jv
 ·rw[aI q,dH ((Qb q)),bY];rfl
def kW(H X:aa AO):Prop:=∃E,X=H++E/\E.all Pq=aj
theorem kW.refl(H:aa AO):kW H H:=aP [] ((bY H).symm) rfl
theorem kW.app{H X:aa AO}(h:kW H X)(l:aa DV):kW H (X++[.list l]):=by
 (refine aQ h λE Z Y=>?_;clear h;subst Z);exact aP (E++[.list l]) (by rw[bV]) (by rw[wF,Y];rfl)
theorem kW.set{H X:aa AO}(h:kW H X){p:ah}(V:H.length<=p)(l:aa DV):kW H (X.set p (.list l)):=by
 (refine aQ h λE Z W=>?_;clear h;subst Z);refine aP (E.set (p-H.length) (.list l)) (mU _ _ V) ?_;rw[List.all_eq_true] at W ⊢;intro x Y;rcases List.mem_or_eq_of_mem_set Y with Y|rfl;·exact W x Y
 ·rfl
theorem kW.len{H X:aa AO}(h:kW H X):H.length<=X.length:=by
 (refine aQ h λE Z Y=>?_;clear h;subst Z);simp
theorem bh{X:aa AO}{l:aa DV}:listAt (X++[.list l]) X.length=af l:=by rw[bI,jh (bf _),cB];rfl
theorem fM{X:aa AO}{p:ah}{l:aa DV}(h:listAt X p=af l):p<X.length:=(gi (bI.mp h)).1
theorem cQ{X:aa AO}{p:ah}{l:aa DV}(h:listAt X p=af l)(Y:aa AO):listAt (X++Y) p=af l:=by rw[bI,m9 (fM h)];exact bI.mp h
theorem iX{X:aa AO}{p:ah}(h:p<X.length)(l:aa DV):listAt (X.set p (.list l)) p=af l:=by rw[bI,rW h]
theorem cF{X:aa AO}{p:ah}{l:aa DV}(h:listAt X p=af l):ni X (.ref p) .append=aj:=by
 show (listAt X p).isSome=aj;rw[h];rfl
theorem c_.own{H X:aa AO}{PP:AV->aa AO->Prop}{av:AV}{σ:AS}(wf:H.all (·.lt H.length)=aj/\j7 H=aj)(o:kW H X)(W:σ.heap=X)(Y:av.lt X.length=aj)(h:PP av X):c_ H PP (.ret av) σ:=by
 (refine aQ o λE Z V=>?_;clear o;subst Z);exact c_.grown wf W V (by rw[bU] at Y;exact Y) h
theorem ry{a b:ah}{x:DV}(h:x∈cV a b):∃d:ah,x=.int d:=by
 (refine aQ (gP h) λd Y Z=>?_;subst Z);exact⟨d,rfl⟩
theorem i4(a b:ah):(cV a b).length=b-a:=by unfold cV;simp
theorem nK{α:Type}(n:ah)(f:DV->α):(cV 0 n).map f=(cW n).map λ(d:ah)=>f (.int d):=by rw[b5,Nat.sub_zero,<-List.range_eq_range'];rfl
inductive OQ(H:aa AO)(gs:aa Gp)(xs:aa DV)(σ:AS):Prop|mk(k p i j:ah)(x4 x5 x6:aA AV)(X:aa AO)(acc:aa (ah×ah)):xs=cV k gs.length->σ=⟨[af (.d (.lst (gs.map gD))),af (.ref p),af (.d (.int ((i:ah):aq))),af (.d (.int ((j:ah):aq))),x4,x5,x6,none,none,none],X⟩->kW H X->H.length<=p->listAt X p=af (acc.map pD)->emit 0 0 gs (BN gs)=acc++emit i j (gs.drop k) ((BN gs).drop k)->OQ H gs xs σ
section
variable{K:ah}{H:aa AO}{PP:AV->aa AO->Prop}
theorem Hl{V:aa Gp}(N:V.length<2^20)(B:∀g∈V,(gD g).eH 8=aj)(hs:∀g∈V,g.1.length<2^20/\g.2.length<2^20)(O:(emit 0 0 V (BN V)).length<=2^20)(hp:∀(X:aa AO)(p:ah),kW H X->H.length<=p->listAt X p=af ((emit 0 0 V (BN V)).map pD)->PP (.ref p) X):Fn (K+3) 436 [.d (.lst (V.map gD))] H PP:=by
 refine Ox.use Oz rfl λwf=>?_;have U:2^20<=bw:=by decide
 have Y:(V.map gD).length=V.length:=bB _;refine⟨rfl,by decide,?_⟩;refine⟨by exact Z2 [.p V0 (.n 1),.n (2^62),.p V1 (.n 1),.n (2^20),V0,V1] (by kernel_rfl) N (Qe Y),?_⟩;refine .inl (aP _ (iW (a:=0) (by exact⟨Z0 [.p (.n 0) (.n 1),.n (2^62)] (by kernel_rfl),Z2 [.p V0 (.n 1),.n (2^62),.p V1 (.n 1),.n (2^20),V0,V1] (by kernel_rfl) N (Qe Y)⟩)) ?_);refine jg (I:=OQ H V) ?_ ?_ _ _ ?_
 ·rintro σ ⟨k,p,i,j,x4,x5,x6,X,W,J,rfl,P,G,F,T⟩;have J:=gj J;have e:emit i j (V.drop k) ((BN V).drop k)=[]:=by rw[dH J];rfl
  rw[e,bY] at T;subst T;exact c_.own wf P rfl (eF (fM F)) (hp X p P G F)
 ·rintro x r σ ⟨k,p,i,j,x4,x5,x6,X,W,J,rfl,P,G,F,T⟩ R u OR rr;(refine cL (j9 J) λA S z=>?_;subst S;subst z);obtain⟨g,M⟩:∃g,V[k]?=af g:=⟨_,c7 A⟩;have y:=j3 M;have o:=Lx M;have w:=Hj V k g;refine bq (hs g y) λm l=>?_;have E:=bA g.1;have D:=bA g.2;rw[BR M o] at T;have Z:=bu gW T;unfold CJ at T Z;simp only[bU,bB,jz] at Z;have hla:(W.map pD).length=W.length:=bB _;refine⟨rfl,?_⟩;refine GZ M (N) B ⟨m,l⟩ ?_;generalize dK V k g=t at T Z o w ⊢;refine⟨rfl,?_⟩;refine aP _ (iW (a:=0) (b:=t.1) (by exact⟨Z0 [.p (.n 0) (.n 1),.n (2^62)] (by kernel_rfl),Z5 [.p V0 (.n 1),.n (2^62),V1,.n (2^20),.p V2 (.p (.p V0 V3) V4),V1] (by kernel_rfl) O (Qf Z)⟩)) ?_;refine iY (f:=λx=>match x with|.int d=>.tup [.int (i+d),.int (j+d)]|_=>.none) (L:=λa=>[none,a,af (.d (.int ((i:ah):aq))),af (.d (.int ((j:ah):aq)))]) (λC C=>rfl) _ _ none ?_ ?_ ?_
  ·intro x v W Q h;(refine aZ (ry v) λd S=>?_;subst S);refine⟨rfl,(by decide:2<=bw),?_⟩;exact h
  ·rw[i4];simp;exact Z6 [V0,V1,V2,.n (2^20),.n (2^20),V1,.p V3 (.p (.p V0 V4) V5),V2] (by kernel_rfl) O U (Qf Z)
  ·intro a;refine⟨⟨rfl,rfl,trivial⟩,?_⟩;conv=>whnf
   rw[F];conv=>whnf
   refine⟨by simp[i4];exact Z6 [.p V0 V1,V2,V3,.n (2^20),.n (2^20),V2,.p V0 (.p (.p V1 V4) V5),V3] (by kernel_rfl) O U (Qf Z),?_⟩;refine⟨by exact Z2 [.p V0 (.n 1),.n (2^62),.p V1 (.n 1),.n (2^20),V0,V1] (by kernel_rfl) N (Qe Y),bO (pN M) ?_⟩;refine⟨(by decide:2<2^62),?_⟩;refine⟨by exact Z2 [.p V0 (.n 1),.n (2^62),.p V1 (.n 1),.n (2^20),V0,V1] (by kernel_rfl) m (Qe E),?_⟩;refine⟨by exact Z2 [.p V0 (.n 1),.n (2^62),.p V1 (.n 1),.n (2^20),V0,V1] (by kernel_rfl) N (Qe Y),bO (pN M) ?_⟩;refine⟨(by decide:2<2^62),?_⟩;refine⟨by exact Z2 [.p V0 (.n 1),.n (2^62),.p V1 (.n 1),.n (2^20),V0,V1] (by kernel_rfl) l (Qe D),?_⟩;refine aP _ (iW (a:=0) (b:=t.2) (by exact⟨Z0 [.p (.n 0) (.n 1),.n (2^62)] (by kernel_rfl),Z5 [.p V0 (.n 1),.n (2^62),V1,.n (2^20),.p V2 (.p (.p V3 V0) V4),V1] (by kernel_rfl) O (Qf Z)⟩)) ?_;refine iY (f:=λx=>match x with|.int d=>.tup [.int (((i+(aT g.1).length:ah):aq)-t.2+d),.int (((j+(aT g.2).length:ah):aq)-t.2+d)]|_=>.none) (L:=λa=>[none,a,af (.d (.int (t.2:ah))),af (.d (.int ((i+(aT g.1).length:ah):aq))),af (.d (.int ((j+(aT g.2).length:ah):aq)))]) (λC C=>rfl) _ _ none ?_ ?_ ?_
   ·intro x v W Q h;(refine aZ (ry v) λd S=>?_;subst S);refine⟨rfl,(by decide:2<=bw),?_⟩;exact h
   ·rw[i4];simp;exact Z6 [V0,V1,V2,.n (2^20),.n (2^20),V1,.p V3 (.p (.p V4 V0) V5),V2] (by kernel_rfl) O U (Qf Z)
   ·intro a;refine⟨⟨rfl,rfl,rfl,trivial⟩,?_⟩;conv=>whnf
    rw[bh];refine⟨by simp[i4];exact Z6 [.p (.p V0 V1) V2,V3,V4,.n (2^20),.n (2^20),V3,.p V0 (.p (.p V1 V2) V5),V4] (by kernel_rfl) O U (Qf Z),?_⟩;have eA:(e_ pD W++([]++e_ (λx=>match x with|.int d=>DV.tup [.int (i+d),.int (j+d)]|_=>.none) (cV 0 t.1)))++([]++e_ (λx=>match x with|.int d=>DV.tup [.int (((i+(aT g.1).length:ah):aq)-t.2+d),.int (((j+(aT g.2).length:ah):aq)-t.2+d)]|_=>.none) (cV 0 t.2))=(W++(e_ (λd=>(i+d,j+d)) (cW t.1)++e_ (λd=>(i+g.1.length-t.2+d,j+g.2.length-t.2+d)) (cW t.2))).map pD:=by
     rw[fc,fc,nK,nK,c8,c8,b5,b5,bV];congr 2;refine gk λd C=>?_;show DV.tup _=DV.tup _;rw[E,D,show ((i+g.1.length:ah):aq)-t.2+d=((i+g.1.length-t.2+d:ah):aq) by exact eU (bJ [_,_,_,_,_] [] 1 [] [.p (.s (.c (.p V0 V1)) (.c V2)) (.c V3),.c (.p V4 V3),.c (.p V0 V1),.c (.p V4 V2)] rfl (Qn Q1)) (bJ [_,_,_,_,_] [] 1 [] [.c (.p V0 V1),.p (.s (.c (.p V2 V3)) (.c V4)) (.c V1),.c (.p V0 V4),.c (.p V2 V3)] rfl (Qn (Q2 (Z3 [V0,.p V1 V2,V0,V2] rfl w.2.1)))),show ((j+g.2.length:ah):aq)-t.2+d=((j+g.2.length-t.2+d:ah):aq) by exact eU (bJ [_,_,_,_,_] [] 1 [] [.p (.s (.c (.p V0 V1)) (.c V2)) (.c V3),.c (.p V4 V3),.c (.p V0 V1),.c (.p V4 V2)] rfl (Qn Q1)) (bJ [_,_,_,_,_] [] 1 [] [.c (.p V0 V1),.p (.s (.c (.p V2 V3)) (.c V4)) (.c V1),.c (.p V0 V4),.c (.p V2 V3)] rfl (Qn (Q2 (Z3 [V0,.p V1 V2,V0,V2] rfl w.2.2))))]
    rw[eA];refine⟨by exact Z2 [.p V0 (.n 1),.n (2^62),.p V1 (.n 1),.n (2^20),V0,V1] (by kernel_rfl) N (Qe Y),?_⟩;refine⟨λh=>?_,λh=>?_⟩
    ·have h:=b3 h;rw[aW (i7 (Int.ofNat_lt.mp (Int.add_lt_of_lt_sub_right h)) Y)] at T Z;refine⟨cF bh,?_⟩;refine⟨rfl,(by decide:2<=bw),?_⟩;refine bO bh ?_;refine⟨by simp;simp at Z;exact Z6 [.p (.p V0 (.p V1 V2)) (.n 1),V3,V4,.n (2^20),.n (2^20),V3,.p V0 (.p (.p V1 V2) (.p V5 (.n 1))),V4] (by kernel_rfl) O U (Qf Z),?_⟩;refine u _ trivial ⟨k+1,_,i+(aT g.1).length+1,j+(aT g.2).length+1,_,_,_,_,W++(e_ (λd=>(i+d,j+d)) (cW t.1)++e_ (λd=>(i+g.1.length-t.2+d,j+g.2.length-t.2+d)) (cW t.2))++[(i+g.1.length,j+g.2.length)],rfl,rfl,?_,?_,?_,?_⟩;·exact kW.set ((P.app _).app _) (by simp;have:=P.len;exact Z2 [V0,.p V1 (.n 1),V0,V1] rfl this) _
     ·have:=P.len;show _<=(X++_).length;simp;exact Z2 [V0,.p V1 (.n 1),V0,V1] rfl this
     ·refine(iX (by simp) _).trans ?_;rw[c8 (l₁:=W++_)];refine bu (λx=>af (_++x)) (?_:[DV.tup [.int ((i+(aT g.1).length:ah):aq),.int ((j+(aT g.2).length:ah):aq)]]=_);rw[E,D];rfl
     ·rw[T,E,D];simp only[bV,e7,fc]
    ·have h:=eG h;rw[aI λq=>h (Aq (Int.ofNat_lt.mpr (i7 q Y.symm))),bY] at T;refine u _ trivial ⟨k+1,_,i+(aT g.1).length,j+(aT g.2).length,_,_,_,_,_,rfl,rfl,(P.app _).app _,?_,bh,?_⟩;·have:=P.len;show _<=(X++_).length;simp;exact Z2 [V0,.p V1 (.n 1),V0,V1] rfl this
     ·rw[dH (ff λq=>h (Aq (Int.ofNat_lt.mpr (i7 q Y.symm))):V.length<=k+1)];rw[T];exact(bY _).symm
 ·refine⟨0,H.length,0,0,_,_,_,_,[],by rw[Y],rfl,(kW.refl H).app [],bf _,bh,by simp⟩
end
noncomputable def bD(b:gR):DV:=.tup [.int b.1,.int b.2.1,.int b.2.2]
theorem z8{n:ah}{l:aa DV}:(∀x∈l,x.eH n=aj)->DV.tg n l=aj:=by induction l with |nil=>exactλX=>rfl|cons x l Z=>exactλh=>Bool.and_eq_true_iff.mpr ⟨h x (.head _),Z λy Y=>h y (.tail _ Y)⟩
theorem nL{n:ah}{l:aa DV}(h:∀x∈l,x.eH n=aj):(DV.lst l).eH (n+1)=aj:=z8 h
theorem kW.old{H X:aa AO}(h:kW H X){k:ah}{l:aa DV}(e:listAt H k=af l):listAt X k=af l:=by
 (refine aQ h λE Z Y=>?_;clear h;subst Z);exact cQ e E
theorem Ho{l:aa DV}{x d:DV}:(l++[x]).set (if(-1:aq)<0 then(-1:aq)+((l++[x]).length:ah)else-1).toNat d=l++[d]:=by rw[aW (by decide),bU,show (-1:aq)+((l.length+[x].length:ah):aq)=(l.length:aq) by simp;exact eU (bJ [_] [] 1 [] [.p (.g (.n 1)) (.p (.c V0) (.n 1)),.c V0] rfl) (bJ [_] [] 1 [] [.c V0,.p (.g (.n 1)) (.p (.c V0) (.n 1))] rfl),dM,mU _ _ (bf _),cB];rfl
theorem z9{a b c d:aq}:DV.tup [.int a,.int b]=.tup [.int c,.int d]↔a=c/\b=d:=by simp only[DV.tup.injEq,r7,DV.int.injEq,and_true]
theorem Ka{p:Prop}{i:o8 p}(h:(!@decide p i)=aj):¬p:=by cases i with|isTrue q=>exact ft h|isFalse q=>exact q
theorem OS{p:Prop}{i:o8 p}(h:(!@decide p i)=aC):p:=by cases i with|isTrue q=>exact q|isFalse q=>exact tf h
theorem n5{n:ah}(h:Nat.ble n 5=aj):n<=bw:=br (AA h) (by decide)
theorem le_size{n m:ah}(h:n<m)(Z:m<=2^20):n<=bw:=gy (dg (dg h Z) (by decide))
inductive OT(H:aa AO)(kp:ah)(ps:aa (ah×ah))(xs:aa DV)(σ:AS):Prop|mk(r:aa (ah×ah))(x2 x3:aA AV)(X:aa AO)(bs:aa gR):xs=r.map pD->σ=⟨[af (.ref kp),af (.ref H.length),x2,x3],X⟩->kW H X->listAt X H.length=af (bs.map bD)->bs.length+r.length<=ps.length->((bs=[]/\lb ps=lb r)\/∃bi cur,bs=bi++[cur]/\lb ps=bi++HU cur r)->OT H kp ps xs σ
section
variable{K:ah}{H:aa AO}{PP:AV->aa AO->Prop}
theorem D3{N:aa (ah×ah)}{B:ah}(E:listAt H B=af (N.map pD))(A:N.length<2^20)(s:∀(X:aa AO)(p:ah),kW H X->H.length<=p->listAt X p=af ((lb N).map bD)->PP (.ref p) X):Fn (K+1) 443 [.ref B] H PP:=by
 refine OA.use OB rfl λo=>?_;have L:2^20<=bw:=by decide
 refine And.intro rfl ⟨by decide,?_⟩;have t:kW H (H++[.list []]):=(kW.refl H).app [];refine ko (aP _ (t.old E) ?_);refine jg (I:=OT H B N) ?_ ?_ _ _ ?_
 ·rintro m ⟨r,l,k,X,P,M,rfl,T,V,Y,D⟩;have M:r=[]:=List.map_eq_nil_iff.mp M.symm;subst M;have:lb N=P:=by
   rcases D with ⟨rfl,h⟩|⟨U,Z,rfl,h⟩;·exact h
   ·exact h
  rw[<-this] at V;conv=>whnf
  exact c_.own o T rfl (eF (fM V)) (s X _ T (bf _) V)
 ·rintro x f m ⟨r,l,k,X,P,M,rfl,T,V,Y,D⟩ R z d rr;obtain⟨⟨i,j⟩,r,rfl,rfl,rfl⟩:∃a C,r=a::C/\x=pD a/\f=C.map pD:=by induction r using aO with|nil=>cases M|cons a C=>cases M;exact bM a C rfl rfl rfl
  have y:(P.map bD).length=P.length:=bB _;have eo:(DV.lst (P.map bD)).eH 8=aj:=nL λx hx=>by
   (refine aQ (gP hx) λb J O=>?_;subst O);rfl
  refine And.intro rfl ?_;refine And.intro rfl ⟨by decide,?_⟩;refine bO V ?_;refine And.intro ⟨eo,rfl⟩ ?_;refine And.intro (λh=>?_) λh=>?_
  ·have w:P≠[]:=λe=>Ka h (by rw[e];rfl);(refine cz (D.resolve_left λq=>w q.1) λU Z O S=>?_;subst O);have G:=V;have V:listAt X H.length=af (U.map bD++[bD Z]):=by rw[G,c8];rfl
   have W:(U.map bD++[bD Z]).length=U.length+1:=by simp
   have Q:(U++[Z]).length=U.length+1:=by simp
   have Y:=Q▸Y;have F:(U.map bD++[bD Z]).length<2^21:=by rw[W];exact Z3 [.p (.p V0 (.n 1)) (.n 1),.n (2^21),.p V1 (.n 1),.n (2^20),.p (.p V0 (.n 1)) (.p V2 (.n 1)),V1] (by kernel_rfl) A Y
   iterate 4 refine bO V (And.intro (jI F (by decide)) (And.intro (i7 (mZ _) W.symm) (bO zS (And.intro (by decide:3<2^62) (bO rfl ?_)))))
   refine And.intro rfl ⟨n5 rfl,?_⟩;refine And.intro rfl ⟨n5 rfl,?_⟩;refine And.intro ⟨rfl,rfl⟩ ?_;refine And.intro (λh=>?_) λh=>?_
   ·have h:=z9.mp (rF h);refine And.intro (λJ=>?_) nofun;iterate 3 refine bO V (And.intro (jI F (by decide)) (And.intro (i7 (mZ _) W.symm) (bO zS (And.intro (by decide:3<2^62) (bO rfl ?_)))))
    refine And.intro rfl ⟨n5 rfl,?_⟩;conv=>whnf
    rw[bI.mp V];refine And.intro ⟨bJ [_,_] [] 1 [] [.g (.c V0),.g (.n 1),.c (.p V1 (.n 1)),.c V0] rfl (Qn (Qf W)),bJ [_] [] 1 [] [.p (.g (.n 1)) (.n 1),.c V0] rfl,by exact Z5 [V0,V1,.p V2 (.n 1),.n (2^20),.n (2^20),V1,.p (.p V3 (.n 1)) (.p V4 (.n 1)),V2,V0,.p V3 (.n 1)] (by kernel_rfl) A L Y (Qe W)⟩ ?_;rw[Ho];refine z _ ((T.set (bf _) _).old E) ⟨r,_,_,_,U++[(Z.1,Z.2.1,Z.2.2+1)],rfl,rfl,T.set (bf _) _,(iX (fM V) _).trans (by rw[c8];rfl),by simp;exact Z3 [.p (.p V0 (.n 1)) V1,V2,.p (.p V0 (.n 1)) (.p V1 (.n 1)),V2] rfl Y,.inr (cG U _ rfl ?_)⟩;rw[S];show U++(if Z.1+Z.2.2=i/\Z.2.1+Z.2.2=j then _ else _)=_;rw[aW ⟨iz h.1,iz h.2⟩]
   ·have h:=mt z9.mpr (ug h);refine And.intro nofun λJ=>?_;refine And.intro (cF V) ?_;refine And.intro rfl ⟨n5 rfl,?_⟩;refine bO G ?_;refine And.intro (by rw[y,Q];exact Z4 [.p (.p V0 (.n 1)) (.n 1),V1,.p V2 (.n 1),.n (2^20),.n (2^20),V1,.p (.p V0 (.n 1)) (.p V3 (.n 1)),V2] (by kernel_rfl) A L Y) ?_;refine z _ ((T.set (bf _) _).old E) ⟨r,_,_,_,U++[Z]++[(i,j,1)],rfl,rfl,T.set (bf _) _,(iX (fM V) _).trans (by rw[c8 (l₁:=U++[Z])];rfl),by simp;exact Z3 [.p (.p V0 (.n 2)) V1,V2,.p (.p V0 (.n 1)) (.p V1 (.n 1)),V2] rfl Y,.inr (cG _ _ rfl ?_)⟩;rw[S];show U++(if Z.1+Z.2.2=i/\Z.2.1+Z.2.2=j then _ else _)=_;rw[aI λq=>h ⟨bu qg q.1,bu qg q.2⟩,bV];rfl
  ·have v:P=[]:=List.map_eq_nil_iff.mp (OS h);subst v;refine bq (D.resolve_right λu=>cz u λU Z e J=>by simp at e) λJ S=>?_;refine And.intro nofun λJ=>?_;refine And.intro (cF V) ?_;refine And.intro rfl ⟨n5 rfl,?_⟩;refine bO V ?_;refine And.intro (by decide) ?_;refine z _ ((T.set (bf _) _).old E) ⟨r,_,_,_,[(i,j,1)],rfl,rfl,T.set (bf _) _,iX (fM V) _,by simp;exact Z3 [.p (.n 1) V0,V1,.p V2 (.p V0 (.n 1)),V1] rfl Y,.inr (cG [] _ rfl S)⟩
 ·exact⟨N,_,_,_,[],rfl,rfl,t,bh,by simp,.inl ⟨rfl,rfl⟩⟩
end
def WF(X:aa AO):Prop:=X.all (·.lt X.length)=aj/\j7 X=aj
noncomputable def zh:AO->aH|.inst _=>aC|_=>aj
noncomputable def Ly:AO->aH|.C0=>aC|_=>aj
theorem WF.push{X:aa AO}{o:AO}(h:WF X)(Y:o.lt (X.length+1)=aj)(hi:zh o=aj):WF (X++[o]):=by
 refine⟨?_,(d_ _).mpr λi l e=>?_⟩;·rw[wF,cu,bU];exact⟨List.all_eq_true.mpr λx W=>AO.nY (dh _ _) (lV h.1 x W),by rw[qj,List.all_nil,Bool.and_true];exact Y⟩
 ·by_cases q:i<X.length;·rw[m9 q] at e;have:=(d_ X).mp h.2 i l e;rw[m9 (gi this).1];exact this
  ·have e:=(jh ((Qb q)))▸e;cases Z:i-X.length with|zero=>rw[Z] at e;cases e;exact ft hi|succ=>have e:=Z▸e;cases e
theorem WF.set{X:aa AO}{k:ah}{o o':AO}(h:WF X)(Z:X[k]?=af o)(V:Ly o=aj)(U:o'.lt X.length=aj)(hi:zh o'=aj\/zh o=aC):WF (X.set k o'):=by
 have Y:=(gi Z).1;refine⟨?_,(d_ _).mpr λi l e=>?_⟩
 ·rw[mT];refine List.all_eq_true.mpr λx W=>?_;rcases List.mem_or_eq_of_mem_set W with W|rfl;·exact lV h.1 x W
  ·exact U
 ·have key:∀l,X[i]?=af (.inst l)->(X.set k o')[i+1]?=af .C0:=λl e=>by
   have:=(d_ X).mp h.2 i l e;by_cases q:k=i+1;·rw[<-q,Z] at this;cases this;exact ft V
   ·rw[gV q];exact this
  by_cases q:k=i
  ·subst q;have e:=(rW Y)▸e;cases e;rcases hi with hi|hi;·exact ft hi
   ·induction o using AO.casesOn with |inst T=>exact key T Z|_=>exact tf hi
  ·rw[gV q] at e;exact key l e
theorem c_.wf{H X:aa AO}{PP:AV->aa AO->Prop}{av:AV}{fl:Fl}{σ:AS}(Y:WF X)(W:H.length<=X.length)(V:σ.heap=X)(U:fl=.ret av\/(fl=.next/\av=.d .none))(T:av.lt X.length=aj)(h:PP av X):c_ H PP fl σ:=by
 have Z:σ.heap.take X.length=X:=by rw[V];exact i6 (bf _)
 exact aP av U (lX X.length W T (by rw[Z];exact Y) (by rw[Z];exact h))
theorem b4{X:aa AO}{k:ah}{o o':AO}(h:X[k]?=af o):(X.set k o')[k]?=af o':=rW (gi h).1
theorem dj{X:aa AO}{k:ah}{o:AO}{l:aa (aA AV)}(h:X[k]?=af o):l8 (X.set k (.inst l)) k=af l:=bL.mpr (b4 h)
noncomputable def lu(x:ai):ah->aa ai->aa ah|_,[]=>[]|j,y::r=>if y=x then j::lu x (j+1) r else lu x (j+1) r
theorem v5(x y:ai):∀(t:aa ai)(j:ah),lu x j (t++[y])=lu x j t++if y=x then[j+t.length]else[]:=by
 intro t;induction t with |nil=> intro j;rfl|cons z t Z=>
  intro j;have Z:=Z (j+1);rw[show j+1+t.length=j+(z::t).length by simp;exact lZ [.p (.p V0 (.n 1)) V1,.p V0 (.p V1 (.n 1))] rfl] at Z;show (if z=x then j::lu x (j+1) (t++[y]) else lu x (j+1) (t++[y]))=(if z=x then j::lu x (j+1) t else lu x (j+1) t)++_;rw[Z];split<;>rfl
theorem v7{x:ai}:∀{t:aa ai}{j:ah},x∉t->lu x j t=[]:=by
 intro Z;induction Z with |nil=> intro _ _;exact rfl|cons z t Y=> intro j h;show (if z=x then _ else lu x (j+1) t)=_;rw[aI (show¬z=x fromλe=>h (by rw[e];exact .head _)),Y λm=>h (.tail _ m)]
theorem Hp{x:ai}:∀{t:aa ai}{j p:ah},t[p]?=af x->(∀q,t[q]?=af x->q=p)->lu x j t=[j+p]:=by
 intro X;induction X with |nil=> intro _ _ h _;exact ns h|cons z t W=> intro j V;induction V using cJ with
  |zero=>
   intro h Z;cases h;show (if x=x then j::lu x (j+1) t else _)=_;rw[aW rfl,v7 λm=>by
    refine aZ (List.getElem?_of_mem m) λq Y=>?_;have:=Z (q+1) Y;exact Qx (lY [_] 0 [] [.n 1,.n 0,.p V0 (.n 1),.n 0] rfl (Qe this))];rfl|succ p=>
   intro h Z;show (if z=x then _ else lu x (j+1) t)=_;rw[aI λe=>by have:=Z 0 (by rw[e];rfl);exact Qx (lY [_] 0 [] [.n 1,.n 0,.p V0 (.n 1),.n 0] rfl (Qf this)),W (p:=p) h λq Y=>by have:=Z (q+1) Y;exact lZ [V0,V1,.p V0 (.n 1),.p V1 (.n 1)] rfl this];rw[show j+1+p=j+(p+1) by exact lZ [.p (.p V0 (.n 1)) V1,.p V0 (.p V1 (.n 1))] rfl]
theorem Hq(x:ai):∀(t:aa ai)(j:ah),(lu x j t).length<=t.length:=by
 intro t;induction t with |nil=>exactλY=>bf _|cons z t Z=>
  intro j;have:=Z (j+1);show (if z=x then j::lu x (j+1) t else lu x (j+1) t).length<=t.length+1;split;·exact fh this
  ·exact jG this
section
variable{K:ah}{H:aa AO}{PP:AV->aa AO->Prop}
noncomputable abbrev mP:aA AV:=af (.d .none)
noncomputable abbrev BS:aA AV:=af (.d (.con (.ref 410)))
noncomputable abbrev D4:aA AV:=af (.d (.bool aj))
noncomputable abbrev ju(A:aa ai):aA AV:=af (.d (.lst (aT A)))
theorem Jg{ks:ah}{A:aa ai}(Z:H[ks]?=af (.inst [BS,mP,mP,D4,none,none,none,none,none,none]))(Y:PP (.d .none) (H.set ks (.inst [BS,ju A,mP,D4,mP,mP,none,none,none,none]))):Fn (K+1) 174 [.ref ks,.d (.lst (aT A))] H PP:=by
 refine NR.use NS rfl λX=>?_;refine bO (bL.mpr Z) ?_;refine And.intro rfl ?_;refine And.intro nofun λW=>?_;refine bO (bL.mpr Z) ?_;refine bO (dj Z) ?_;refine bO (dj (b4 Z)) ?_;exact c_.wf (WF.set X Z rfl rfl (.inr rfl)) (by simp) ((List.set_set ..).trans (List.set_set ..)) (.inr ⟨rfl,rfl⟩) rfl Y
structure BU(n:ah)(D:aa (ai×AV))(X:aa AO)(t:aa ai):Prop where
 lk:∀x v,D.lookup x=af v->x∈t/\∃k,v=.ref k/\n<k/\listAt X k=af (bQ (lu x 0 t))mem:∀x∈t,∃v,D.lookup x=af v
 inj:∀x y k,D.lookup x=af (.ref k)->D.lookup y=af (.ref k)->x=y
theorem ly(a b:aa ah):bQ (a++b)=bQ a++bQ b:=c8
theorem bT{X:aa AO}{k:ah}{o:AO}(h:X[k]?=af o)(Y:aa AO):(X++Y)[k]?=af o:=by rw[m9 (gi h).1];exact h
theorem iy{X:aa AO}{i k:ah}{o o':AO}(h:X[k]?=af o)(Z:i≠k):(X.set i o')[k]?=af o:=by rw[gV Z];exact h
theorem Hr{X:aa AO}{k:ah}{o:AO}(h:X[k]?=af o):k<X.length:=(gi h).1
theorem gO{X:aa AO}{i k:ah}{l:aa DV}{o':AO}(h:listAt X k=af l)(Z:i≠k):listAt (X.set i o') k=af l:=bI.mpr (iy (bI.mp h) Z)
theorem BU.old{n:ah}{D:aa (ai×AV)}{X:aa AO}{t:aa ai}(b:BU n D X t){e:ai}{k:ah}(W:D.lookup e=af (.ref k)):BU n D ((X++[AO.list []]).set k (AO.list (bQ (lu e 0 t)++[DV.int (t.length:ah)]))) (t++[e]):=by
 refine bq (b.lk e _ W) λN Z=>cC Z λM S R V=>?_;cases S;refine⟨λx v Y=>?_,λx Y=>?_,b.inj⟩
 ·(refine bq (b.lk x v Y) λQ Z=>cC Z λP O U T=>?_;clear Z);subst O;refine⟨jD _ Q,P,rfl,U,?_⟩;rw[v5,ly];by_cases q:e=x
  ·subst q;have Y:=W▸Y;cases Y;rw[aW rfl,eV];exact iX (by rw[bU];exact Nat.lt_add_right _ (fM V)) _
  ·rw[aI q,show bQ []=[] from rfl,bY];exact gO (cQ T _) λe=>q (b.inj _ _ k W (by rw[e];exact Y))
 ·rcases d9 Y with h|h;·exact b.mem x h
  ·rw[g_ h];exact⟨_,W⟩
theorem nM(x e:ai)(v:AV):∀D:aa (ai×AV),(D++[(e,v)]).lookup x=match D.lookup x with|some u=>af u|none=>if x=e then af v else none:=by
 intro Z;induction Z with
 |nil=>
  show (match x==e with|true=>af v|false=>none)=if x=e then af v else none;by_cases q:x=e;·rw[aW q,beq_iff_eq.mpr q]
  ·rw[aI q,fC q]|cons Y D X=>induction Y using gz with|mk y u=>
   show (match x==y with|true=>af u|false=>(D++[(e,v)]).lookup x)=match (match x==y with|true=>af u|false=>D.lookup x) with|some u=>af u|none=>if x=e then af v else none;cases x==y;·exact X
   ·rfl
theorem BU.new{n:ah}{D:aa (ai×AV)}{X:aa AO}{t:aa ai}(b:BU n D X t){e:ai}(S:D.lookup e=none)(P:n<X.length)(o:aR):BU n (D++[(e,.ref X.length)]) (((X++[AO.list []]).set n (AO.dS (D++[(e,AV.ref X.length)]) o)).set X.length (AO.list [DV.int (t.length:ah)])) (t++[e]):=by
 have O:e∉t:=λh=>by refine aZ (b.mem e h) λv T=>?_;rw[S] at T;exact ns T
 have old:∀{x v},D.lookup x=af v->x≠e:=λh q=>by rw[q,S] at h;exact ns h
 have lt:∀{x k},D.lookup x=af (.ref k)->k<X.length:=λh=>by
  refine bq (b.lk _ _ h) λN W=>cC W λF M N L=>?_;cases M;exact fM L
 refine⟨λx v Z=>?_,λx Z=>?_,λx y k Z Y=>?_⟩
 ·rw[nM] at Z;rw[v5,ly]
  cases q:D.lookup x with |some u=>
   rw[q] at Z;cases Z;(refine bq (b.lk x _ q) λJ W=>cC W λI G U R=>?_;clear W);subst G;refine⟨jD _ J,I,rfl,U,?_⟩;rw[aI λe=>old q e.symm,show bQ []=[] from rfl,bY];exact gO (gO (cQ R _) (b8 U)) (fN (lt q))|none=>
   rw[q] at Z;by_cases r:x=e
   ·subst r;have Z:=(aW rfl)▸Z;cases Z;refine⟨rV _ (.head _),_,rfl,P,?_⟩;rw[v7 O,aW rfl,eV];exact iX (by simp) _
   ·rw[aI r] at Z;exact ns Z
 ·rw[nM];rcases d9 Z with h|h;·refine aZ (b.mem x h) λv T=>?_;rw[T];exact⟨_,rfl⟩
  ·rw[g_ h,S,aW rfl];exact⟨_,rfl⟩
 ·rw[nM] at Z Y;cases q:D.lookup x with
  |some u=> rw[q] at Z;cases Z;cases V:D.lookup y with|some u=>rw[V] at Y;cases Y;exact b.inj x y k q V|none=>
    rw[V] at Y;by_cases r:y=e;·rw[aW r] at Y;cases Y;exact aJ (lt q) (dX _)
    ·rw[aI r] at Y;exact ns Y |none=>
   rw[q] at Z;by_cases r:x=e;·rw[aW r] at Z;cases Z;cases V:D.lookup y with |some u=>rw[V] at Y;cases Y;exact aJ (lt V) (dX _)|none=>
     rw[V] at Y;by_cases Q:y=e;·rw[r,Q]
     ·rw[aI Q] at Y;exact ns Y
   ·rw[aI r] at Z;exact ns Z
end
theorem Jh{X:aa AO}{k:ah}{D:aa (ai×AV)}{o:aR}(h:X[k]?=af (.dS D o)):ni X (.ref k) .setdefault=aj:=by
 show (tn X k).isSome=aj;rw[k9.mpr ⟨o,h⟩];rfl
theorem Hs{X:aa AO}{k:ah}{D:aa ai}{o:aR}(h:X[k]?=af (.set D o)):ni X (.ref k) .add=aj:=by
 show (setAt X k).isSome=aj;rw[gB.mpr ⟨o,h⟩];rfl
theorem WF.at{X:aa AO}(h:WF X){k:ah}{o:AO}(Z:X[k]?=af o):o.lt X.length=aj:=lV h.1 o (j3 Z)
noncomputable def RW:AO->aH|.list _=>aC|_=>aj
theorem BU.put{n:ah}{D:aa (ai×AV)}{X:aa AO}{t:aa ai}(b:BU n D X t){i:ah}{o:AO}(hi:X[i]?=af o)(W:RW o=aj)(o':AO):BU n D (X.set i o') t:=by
 refine⟨λx v V=>?_,b.mem,b.inj⟩;obtain⟨U,T,S,Y,Z⟩:=b.lk x v V;refine⟨U,T,S,Y,gO Z λe=>?_⟩;rw[e,bI.mp Z] at hi;cases hi;exact ft W
theorem BU.more{n:ah}{D:aa (ai×AV)}{X:aa AO}{t:aa ai}(b:BU n D X t)(Y:aa AO):BU n D (X++Y) t:=by
 refine⟨λx v V=>?_,b.mem,b.inj⟩;obtain⟨U,T,S,Z,W⟩:=b.lk x v V;exact⟨U,T,S,Z,cQ W Y⟩
theorem vg(x y:ai):∀D:aa (ai×AV),(D.filter λp=>decide (p.1≠y)).lookup x=if x=y then none else D.lookup x:=by
 intro Y;induction Y with |nil=>split<;>rfl|cons X D Z=>induction X using gz with|mk z u=>
   rw[iC];by_cases q:z=y
   ·rw[aI (by simp[q]),Z];by_cases r:x=y;·rw[aW r,aW r]
    ·rw[aI r,aI r];show _=(match x==z with|true=>_|false=>_);rw[fC (by rw[q];exact r)]
   ·rw[aW (by simp[q])];show (match x==z with|true=>af u|false=>(D.filter λp=>decide (p.1≠y)).lookup x)=if x=y then none else (match x==z with|true=>af u|false=>D.lookup x);rw[Z];by_cases r:x=y;·rw[aW r,aW r,fC (by rw[r];exact Ne.symm q)]
    ·rw[aI r,aI r]
theorem ur{x:ai}:∀{D:aa (ai×AV)}{v:AV},D.lookup x=af v->x∈D.map (·.1):=by
 intro Z;induction Z with |nil=> intro _ h;exact ns h|cons Y D X=>induction Y using gz with|mk z u=>
   intro v h;by_cases q:x=z;·rw[q];exact .head _
   ·have h:(match x==z with|true=>af u|false=>D.lookup x)=af v:=h;have h:=(fC q)▸h;exact .tail _ (X h)
theorem pO{x:ai}:∀{D:aa (ai×AV)},x∈D.map (·.1)->∃v,D.lookup x=af v
 |(z,u)::D,h=>by
  show∃v,(match x==z with|true=>af u|false=>D.lookup x)=af v;by_cases q:x=z;·rw[beq_iff_eq.mpr q];exact⟨_,rfl⟩
  ·rw[fC q];exact pO ((gq h).resolve_left q)
inductive uu(X:aa AO)(ks:ah)(A B:aa ai):Prop|mk(kb kj kp:ah)(D:aa (ai×AV))(o:aR)(J:aa ai)(oj:aR):X[ks]?=af (.inst [BS,ju A,ju B,D4,mP,mP,mP,af (.ref kb),af (.ref kj),af (.ref kp)])->X[kb]?=af (.dS D o)->X[kj]?=af (.set J oj)->(∀x,dc x=aj->D.lookup x=none)->(∀x∈B,dc x=aC->∃k,D.lookup x=af (.ref k)/\listAt X k=af (bQ (lu x 0 B)))->(∀x∈B,J.contains x=dc x)->uu X ks A B
inductive Kc(n ks:ah)(A B:aa ai)(xs:aa DV):AS->Prop|mk(t r:aa ai)(x3 x4 x5:aA AV)(X:aa AO)(D:aa (ai×AV))(o:aR):B=t++r->xs=pS t.length (aT r)->X[ks]?=af (.inst [BS,ju A,ju B,D4,mP,mP,mP,af (.ref n),none,none])->X[n]?=af (.dS D o)->BU n D X t->WF X->n<X.length->D.length<=t.length->Kc n ks A B xs ⟨[af (.ref ks),ju B,af (.ref n),x3,x4,x5,none,none,none,none,none,none,none,none,none],X⟩
inductive Kd(n ks kj:ah)(A B:aa ai)(D:aa (ai×AV))(o:aR)(x3 x5:aA AV)(xs:aa DV):AS->Prop|mk(d r:aa ai)(x4:aA AV)(X:aa AO)(J:aa ai)(oj:aR):D.map (·.1)=d++r->xs=r.map .str->X[ks]?=af (.inst [BS,ju A,ju B,D4,mP,mP,mP,af (.ref n),af (.ref kj),none])->X[n]?=af (.dS D o)->BU n D X B->WF X->X.length=kj+1->X[kj]?=af (.set J oj)->J.Nodup->(∀x,x∈J↔dc x=aj/\x∈d)->J.length<=d.length->Kd n ks kj A B D o x3 x5 xs ⟨[af (.ref ks),ju B,af (.ref n),x3,x4,x5,af (.ref kj),BS,none,none,none,none,none,none,none],X⟩
inductive Ke(n ks kj:ah)(A B:aa ai)(D:aa (ai×AV))(J:aa ai)(oj:aR)(x3 x5:aA AV)(Y:aa ai)(ys:aa DV):AS->Prop|mk(d r:aa ai)(x4:aA AV)(X:aa AO)(D':aa (ai×AV))(o:aR):Y=d++r->ys=r.map .str->X[ks]?=af (.inst [BS,ju A,ju B,D4,mP,mP,mP,af (.ref n),af (.ref kj),none])->X[n]?=af (.dS D' o)->(∀x,D'.lookup x=if x∈d then none else D.lookup x)->BU n D X B->WF X->X.length=kj+1->X[kj]?=af (.set J oj)->D'.length<=D.length->Ke n ks kj A B D J oj x3 x5 Y ys ⟨[af (.ref ks),ju B,af (.ref n),x3,x4,x5,af (.ref kj),BS,none,none,none,none,none,none,none],X⟩
section
variable{K:ah}{H:aa AO}{PP:AV->aa AO->Prop}
theorem Ht{ks:ah}{A B:aa ai}(j:H[ks]?=af (.inst [BS,ju A,ju B,D4,mP,mP,mP,none,none,none]))(i:B.length<200)(hp:∀X,uu X ks A B->WF X->H.length<=X.length->PP (.d .none) X):Fn (K+2) 188 [.ref ks] H PP:=by
 refine NV.use NW rfl λwf=>?_;have g:200<=bw:=by decide
 have Q:=Hr j;refine bO (bL.mpr j) ?_;refine And.intro rfl ?_;refineλo=>?_;refine bO (bL.mpr (bT j _)) ?_;refine aP _ rfl ?_;refine jg (I:=Kc H.length ks A B) ?_ ?_ _ _ ?_
 ·refineλσ h=>h.casesOn λt r x3 x4 x5 X D o P Z C z f y V hD=>?_;have Z:r=[]:=by induction r using aO with |nil=>rfl|cons=>cases Z
  subst Z;rw[bY] at P;subst P;have O:ks≠H.length:=b8 Q;have W:=jI Q V;refineλw=>?_;refine bO (bL.mpr (bT C _)) ?_;refine bO (dj (bT C _)) ?_;refine And.intro rfl ?_;refine And.intro rfl ⟨λø=>?_,nofun⟩;refine EI _ D o rfl (iy (bT z _) O) ?_;have Uc:WF ((X++[AO.set [] w]).set ks (.inst [BS,ju A,ju B,D4,mP,mP,mP,af (.ref H.length),af (.ref X.length),none])):=WF.set (WF.push y rfl rfl) (bT C _) rfl (by simp[AO.lt,AV.lt];exact Z2 [.p V0 (.n 1),.p V1 (.n 1),.p V0 (.n 1),V1] rfl V) (.inr rfl);refine jg (I:=Kd H.length ks X.length A B D o x3 x5) ?_ ?_ _ _ ?_
  ·refineλσ h=>h.casesOn λd r x4 u J w hd Z N U L F G T h7 s h9=>?_;have Z:r=[]:=List.map_eq_nil_iff.mp Z.symm;subst Z;rw[bY] at hd;have hkj:X.length≠ks:=fN W;have M:X.length≠H.length:=fN V;refine Or.inr (EI X.length J w rfl T (λm hxs=>?_));have nd:m.Nodup:=hxs.nodup_iff.mpr h7;refine jg (I:=Ke H.length ks X.length A B D J w x3 x5 m) ?_ ?_ _ _ ?_
   ·refineλσ h=>h.casesOn λd' r x4 u D' o Y Z N U hl L F G T h9=>?_;have Z:r=[]:=List.map_eq_nil_iff.mp Z.symm;subst Z;rw[bY] at Y;subst Y;refineλop=>?_;refine bO (bL.mpr (bT N _)) ?_;refine And.intro (by rw[bA];exact dg i (by decide)) ?_;refine bO (dj (bT N _)) ?_;refine And.intro rfl ?_;refine And.intro (λø=>?_) nofun;refine And.intro (λh=>?_) λh=>?_;·have h:=rF h;rw[bA] at h;exact Qx (Qz (bJ [_] [] 0 [] [.c (.n 1),.c (.n 0),.n 200,.c V0,.c (.p V0 (.n 1)),.c (.n 200)] rfl h (Qn i)))
    ·refine And.intro nofun λø=>?_;have SG:∀x,x∈m↔dc x=aj/\∃v,D.lookup x=af v:=λx=>by
      rw[hxs.mem_iff,s,<-hd];exact⟨λh=>⟨h.1,pO h.2⟩,λh=>⟨h.1,ur h.2.choose_spec⟩⟩
     have y:WF ((u++[AO.set [] op]).set ks (.inst [BS,ju A,ju B,D4,mP,mP,mP,af (.ref H.length),af (.ref X.length),af (.ref u.length)])):=WF.set (WF.push F rfl rfl) (bT N _) rfl (by simp[AO.lt,AV.lt];exact⟨Z3 [.p V0 (.n 1),.p V1 (.n 1),.p V0 (.n 1),V2,.p V2 (.n 1),V1] rfl V (Qf G),Z2 [.p V0 (.n 1),.p V1 (.n 1),.p V0 (.n 1),V1] rfl (Qf G)⟩) (.inr rfl);have hle:H.length<=((u++[AO.set [] op]).set ks (.inst [BS,ju A,ju B,D4,mP,mP,mP,af (.ref H.length),af (.ref X.length),af (.ref u.length)])).length:=by rw[mT,bU];exact Z4 [V0,.p V1 V2,.p V0 (.n 1),V3,.p V3 (.n 1),V1] rfl V (Qf G)
     refine c_.wf y hle rfl (.inr ⟨rfl,rfl⟩) rfl (hp _ ⟨H.length,X.length,u.length,D',o,J,w,b4 (bT N _),iy (bT U _) O,iy (bT T _) hkj.symm,λx hx=>?_,λx hx E=>?_,λx hx=>?_⟩ y hle)
     ·rw[hl];split;·rfl
      ·rename_i q;rw[SG,not_and] at q;have q:=q hx;cases r:D.lookup x with|none=>rfl|some v=>exact aJ ⟨v,r⟩ q
     ·rw[hl,aI λh=>by rw[SG,E] at h;cases h.1];obtain⟨v,hv⟩:=L.mem x hx;obtain⟨_,k,rfl,_,j⟩:=((L.more [AO.set [] op]).put (bT N _) rfl _).lk x v hv;exact aP k hv j
     ·have:x∈J↔dc x=aj:=by
       rw[s,<-hd];exact⟨λh=>h.1,λh=>⟨h,ur (L.mem x hx).choose_spec⟩⟩
      cases q:dc x with|true=>exact List.contains_iff_mem.mpr (this.mpr q)|false=>exact Bool.eq_false_iff.mpr λh=>by rw[this.mp (List.contains_iff_mem.mp h)] at q;cases q
   ·refineλx ys σ h=>h.casesOn λd' r x4 u D' o Y Z N U hl L F G T SH=>λR ih OR rr=>?_;obtain⟨e,r,rfl,rfl,rfl⟩:∃e S,r=e::S/\x=.str e/\ys=S.map .str:=by induction r using aO with|nil=>cases Z|cons a S=>cases Z;exact bM a S rfl rfl rfl
    have hem:e∈J:=hxs.mem_iff.mp (by rw[Y];simp);have hed:e∉d':=λq=>by
     rw[Y] at nd;exact(List.nodup_append.mp nd).2.2 e q e (.head _) rfl
    refine aZ (pO (hd▸((s e).mp hem).2:e∈D.map (·.1))) λv hv=>?_;refine bO (k9.mpr ⟨_,U⟩) ?_;refine And.intro ⟨by rw[hl,aI hed,hv];rfl,Z4 [V0,V1,.p V2 (.n 1),.n 200,.n 200,V1,V3,V2,V0,V3] rfl i g hD SH⟩ λo'=>?_;have hfl:=wI (λp:ai×AV=>decide (p.1≠e)) D';refine ih _ (iy T M.symm) ⟨d'++[e],r,_,_,_,o',by rw[Y,bV];rfl,rfl,iy N O.symm,b4 U,λx=>?_,L.put U rfl _,WF.set F U rfl ?_ (.inl rfl),by rw[mT];exact G,iy T M.symm,Z3 [V0,V1,V2,V1,V0,V2] rfl SH hfl⟩
    ·rw[vg,hl];by_cases q:x=e;·rw[aW q,aW (by rw[q];simp)]
     ·rw[aI q];by_cases q2:x∈d';·rw[aW q2,aW (jD _ q2)]
      ·rw[aI q2,aI λh=>(d9 h).elim q2 λh=>q (g_ h)]
    ·exact List.all_eq_true.mpr λp hp=>lV (F.at U) p (List.mem_filter.mp hp).1
   ·exact⟨[],m,_,_,D,o,rfl,rfl,N,U,λx=>by rw[aI (by simp)],L,F,G,T,bf _⟩
  ·refineλx m σ h=>h.casesOn λd r x4 u J w hd Z N U L F G T h7 s h9=>λR ih OR rr=>?_;obtain⟨e,r,rfl,rfl,rfl⟩:∃e S,r=e::S/\x=.str e/\m=S.map .str:=by induction r using aO with|nil=>cases Z|cons a S=>cases Z;exact bM a S rfl rfl rfl
   have Y:D.map (·.1)=(d++[e])++r:=by rw[hd,bV];rfl
   have hdl:d.length<200:=by
    have:=bu gW hd;simp at this;exact Z4 [.p V0 (.n 1),.n 200,.p V1 (.n 1),.n 200,V2,V1,.p V0 (.p V3 (.n 1)),V2] rfl i hD (Qf this)
   have hkj:X.length≠ks:=fN W;have M:X.length≠H.length:=fN V;refine And.intro rfl ?_;refine I8 ?_;refine And.intro (λE=>?_) λE=>?_
   ·refine And.intro (Hs T) ?_;refine bO (gB.mpr ⟨_,T⟩) ?_;refine And.intro (by show J.length+1<4096;exact Z2 [.p (.p V0 (.n 1)) (.n 1),.n 4096,V0,V1,.p V1 (.n 1),.n 200] rfl h9 hdl) λo'=>?_;refine ih _ (iy U M) ⟨d++[e],r,_,_,_,o',Y,rfl,iy N hkj,iy U M,L.put T rfl _,WF.set F T rfl rfl (.inl rfl),by rw[mT];exact G,b4 T,?_,λx=>?_,?_⟩
    ·split;·exact h7
     ·rename_i q;exact List.nodup_append.mpr ⟨h7,List.pairwise_singleton _ _,λa ha b f=>by rw[g_ f];rintro rfl;exact q ha⟩
    ·have E:dc e=aj:=E;rw[wC,wH];split;·rename_i q;rw[s];exact⟨λh=>⟨h.1,.inl h.2⟩,λh=>h.2.elim (λq'=>⟨h.1,q'⟩) λq'=>(s x).mp (q'▸q)⟩
     ·rw[wC,wH,s];refine⟨λh=>h.elim (λh=>⟨h.1,.inl h.2⟩) λh=>⟨h▸E,.inr h⟩,λh=>h.2.elim (λq=>.inl ⟨h.1,q⟩) .inr⟩
    ·rw[bU];split;·exact Z3 [V0,.p V1 V2,V0,V1] rfl h9
     ·simp;exact h9
   ·refine ih _ U ⟨d++[e],r,_,_,_,w,Y,rfl,N,U,L,F,G,T,h7,λx=>?_,by rw[bU];exact Z3 [V0,.p V1 V2,V0,V1] rfl h9⟩;have E:dc e=aC:=E;rw[s,wC,wH];exact⟨λh=>⟨h.1,.inl h.2⟩,λh=>⟨h.1,h.2.resolve_right λq=>by rw[q,E] at h;exact aJ h.1 (by simp)⟩⟩
  ·exact⟨[],_,x4,_,[],w,rfl,(b5 ..).symm,b4 (bT C _),iy (bT z _) O,(f.more _).put (bT C _) rfl _,Uc,by simp,iy (by rw[jh (bf _),cB];rfl) (b8 W),.nil,by simp,bf _⟩
 ·refineλx m σ h=>h.casesOn λt r x3 x4 x5 X D o P Z C z f y V hD=>λR ih OR rr=>?_;obtain⟨e,r,rfl,rfl,rfl⟩:∃e S,r=e::S/\x=.tup [.int t.length,.str e]/\m=pS (t.length+1) (aT S):=by induction r using aO with|nil=>cases Z|cons a S=>cases Z;exact bM a S rfl rfl rfl
  have l:t.length<200:=by rw[P] at i;simp at i;exact Z2 [.p V0 (.n 1),.n 200,.p (.p V0 (.p V1 (.n 1))) (.n 1),.n 200] rfl i
  have O:ks≠H.length:=b8 Q;have W:=jI Q V;refine And.intro rfl ?_;refine⟨Jh z,?_⟩;refine And.intro rfl ⟨by decide,?_⟩;refine bO (k9.mpr ⟨o,bT z _⟩) ?_;refine And.intro (Z3 [V0,V1,.n 200,V1,V0,V2,.p V2 (.n 1),.n 200] rfl g hD l) ⟨λv hv=>?_,λhnone o'=>?_⟩
  ·(refine bq (f.lk _ _ hv) λø Af=>cC Af λk K6 Ni hl1=>?_;clear Af;subst K6);have hne:H.length≠k:=b8 Ni;have RX:k≠ks:=by exact fN (Z3 [.p V0 (.n 1),V1,.p V0 (.n 1),V2,.p V2 (.n 1),V1] rfl Q Ni)
   have hl2:=cQ hl1 [.list []];refine And.intro (cF hl2) ?_;conv=>whnf
   rw[cQ hl1];have pl:=Hq e t 0;refine And.intro (by rw[bQ,bB];exact Z3 [.p V0 (.n 1),V1,.n 200,V1,.p V2 (.n 1),.n 200,V0,V2] rfl g l pl) ?_;refine ih _ rfl ⟨t++[e],r,_,_,_,_,D,o,by rw[P,bV];rfl,by rw[bU];rfl,iy (bT C _) RX,iy (bT z _) hne.symm,f.old hv,?_,?_,?_⟩;·exact WF.set (WF.push y rfl rfl) (bI.mp hl2) rfl rfl (.inl rfl)
   ·simp;exact Z2 [.p V0 (.n 1),.p V1 (.n 1),.p V0 (.n 1),V1] rfl V
   ·simp;exact Z2 [V0,.p V1 (.n 1),V0,V1] rfl hD
  ·have hn1:=bT z [AO.list []];have SI:listAt ((X++[AO.list []]).set H.length (AO.dS (D++[(e,AV.ref X.length)]) o')) X.length=af []:=gO bh (b8 V);refine And.intro (cF SI) ?_;refine bO (gO bh (b8 V)) ?_;refine And.intro (by decide) ?_;refine ih _ rfl ⟨t++[e],r,_,_,_,_,D++[(e,AV.ref X.length)],o',by rw[P,bV];rfl,by rw[bU];rfl,iy (iy (bT C _) O.symm) (fN W),iy (b4 hn1) (fN V),f.new hnone V o',?_,?_,?_⟩;·refine WF.set (WF.set (WF.push y rfl rfl) hn1 rfl ?_ (.inl rfl)) (bI.mp SI) rfl rfl (.inl rfl);show (D++[(e,AV.ref X.length)]).all (λp=>p.2.lt (X++[AO.list []]).length)=aj;rw[wF,cu,bU];exact⟨List.all_eq_true.mpr λp hp=>AV.nY (dh _ _) (lV (y.at z) p hp),by simp[AV.lt]⟩
   ·simp;exact Z2 [.p V0 (.n 1),.p V1 (.n 1),.p V0 (.n 1),V1] rfl V
   ·simp;exact hD
 ·refine⟨[],B,_,_,_,_,[],o,rfl,rfl,b4 (bT j _),?_,⟨nofun,nofun,nofun⟩,?_,?_,bf _⟩;·exact iy (by rw[jh (bf _),cB];rfl) (b8 Q)
  ·exact WF.set (WF.push wf rfl rfl) (bT j _) rfl (by simp[AO.lt,AV.lt]) (.inr rfl)
  ·simp
end
theorem jw{X:aa AO}{k:ah}{l:aa (aA AV)}(h:X[k]?=af (.inst l)){f:az}:ni X (.ref k) (.user f)=aj:=by
 show (l8 X k).isSome=aj;rw[bL.mpr h];rfl
section
variable{K:ah}{H:aa AO}{PP:AV->aa AO->Prop}
theorem Ji{ks:ah}{A B:aa ai}(Z:H[ks]?=af (.inst [BS,ju A,mP,D4,mP,mP,none,none,none,none]))(V:B.length<200)(U:∀X,uu X ks A B->WF X->H.length<=X.length->PP (.d .none) X):Fn (K+3) 181 [.ref ks,.d (.lst (aT B))] H PP:=by
 refine NT.use NU rfl λS=>?_;refine bO (bL.mpr Z) ?_;refine And.intro rfl ?_;refine And.intro nofun λR=>?_;refine bO (bL.mpr Z) ?_;refine bO (dj Z) ?_;refine bO (dj (b4 Z)) ?_;refine bO (dj (b4 (b4 Z))) ?_;refine And.intro (jw (b4 (b4 (b4 (b4 Z))))) ?_;refine Ht (A:=A) (b4 (b4 (b4 (b4 Z)))) V λX T Y W=>?_;exact c_.wf Y (by simpa using W) rfl (.inr ⟨rfl,rfl⟩) rfl (U X T Y (by simpa using W))
theorem Jj{ks:ah}{A B:aa ai}(Z:H[ks]?=af (.inst [BS,mP,mP,D4,none,none,none,none,none,none]))(V:B.length<200)(U:∀X,uu X ks A B->WF X->H.length<=X.length->PP (.d .none) X):Fn (K+4) 167 [.ref ks,.d (.lst (aT A)),.d (.lst (aT B))] H PP:=by
 refine NP.use NQ rfl λS=>?_;refine And.intro (jw Z) ?_;refine Jg Z ?_;refine And.intro (jw (b4 Z)) ?_;refine Ji (A:=A) (b4 Z) V λX T W Y=>?_;rw[mT] at Y;exact c_.wf W Y rfl (.inr ⟨rfl,rfl⟩) rfl (U X T W Y)
theorem Jk{ks:ah}{A B:aa ai}(Z:H[ks]?=af (.inst (bN 10 none)))(V:B.length<200)(U:∀X,uu X ks A B->WF X->H.length<=X.length->PP (.d .none) X):Fn (K+5) 160 [.ref ks,.d (.con (.ref 410)),.d (.lst (aT A)),.d (.lst (aT B))] H PP:=by
 refine NO.use OE rfl λS=>?_;refine bO (bL.mpr Z) ?_;refine bO (dj Z) ?_;refine bO (dj (b4 Z)) ?_;refine bO (dj (b4 (b4 Z))) ?_;refine And.intro (jw (b4 (b4 (b4 (b4 Z))))) ?_;refine Jj (A:=A) (b4 (b4 (b4 (b4 Z)))) V λX T W Y=>?_;have Y:H.length<=X.length:=by simpa using Y
 exact c_.wf W Y rfl (.inr ⟨rfl,rfl⟩) rfl (U X T W Y)
end
noncomputable abbrev iN(n:ah):aA AV:=af (.d (.int (n:aq)))
noncomputable abbrev Ud:aA AV:=af (.d (.lst []))
structure FF where
 ks:ah
 kb:ah
 kj:ah
 eK:ah
 jX:ah
 eZ:ah
 j5:ah
 A:aa ai
 B:aa ai
noncomputable def FF.loc(f:FF)(U T S:aq)(jY Z Y X W V:aA AV):aa (aA AV):=[af (.ref f.ks),iN f.eK,iN f.jX,iN f.eZ,iN f.j5,ju f.A,ju f.B,af (.ref f.kb),af (.bm "set.__contains__" f.kj),af (.d (.int U)),af (.d (.int T)),af (.d (.int S)),jY,Ud,Z,Y,X,W,V,none,none,none]
noncomputable abbrev nt(neg:aH)(e:IE):IE:=if neg then .not e else e
noncomputable abbrev iL(i:ah):IE:=.bin .Sub (.loc i) (.k (.int 1))
noncomputable abbrev iR(i:ah):IE:=.bin .Add (.loc i) (.loc 11)
def Lz(X:aa AO)(Z:ah)(B:aa ai):Prop:=∃J Y,X[Z]?=af (.set J Y)/\∀x∈B,J.contains x=dc x
section
variable{F:Fc}{n:ah}{f:FF}{bi bj bs:ah}{jY Em En Eo Ak Am:aA AV}{X:aa AO}{Q:aH->AS->Prop}
theorem Kf(neg:aH)(K:f.A.length<2^20/\f.B.length<2^20)(w:bi<=f.A.length)(y:bj<=f.B.length)(H:Lz X f.kj f.B)(M:∀c:aH,(c=aj↔f.eK<bi/\f.eZ<bj/\∃a b,f.A[bi-1]?=af a/\f.B[bj-1]?=af b/\dc b=!neg/\a=b)->Q c ⟨f.loc bi bj bs jY Em En Eo Ak Am,X⟩):VT F (n+20) (.bo .And [.cmp .Gt (.loc 9) (.loc 1),.cmp .Gt (.loc 10) (.loc 3),nt neg (.call (.loc 8) [.sub (.loc 6) (iL 10)]),.cmp .Eq (.sub (.loc 5) (iL 9)) (.sub (.loc 6) (iL 10))]) Q ⟨f.loc bi bj bs jY Em En Eo Ak Am,X⟩:=by
 have G:=bA f.A;have V:=bA f.B;refine cz H λJ s x H=>?_;refine And.intro (λE=>?_) λE=>M aC ⟨nofun,λh=>(eG E (Int.ofNat_lt.mpr h.1)).elim⟩;refine And.intro (λL=>?_) λL=>M aC ⟨nofun,λh=>(eG L (Int.ofNat_lt.mpr h.2.1)).elim⟩;have L:=b3 L;have U:f.eK<bi:=Int.ofNat_lt.mp (b3 E);have W:f.eZ<bj:=Int.ofNat_lt.mp L;have D:((bj:aq)-1)=((bj-1:ah):aq):=(rS (m4 W)).symm;have last:∀b,f.B[bj-1]?=af b->dc b=!neg->VA F (n+16) .And [.cmp .Eq (.sub (.loc 5) (iL 9)) (.sub (.loc 6) (iL 10))] Q ⟨f.loc bi bj bs jY Em En Eo Ak Am,X⟩:=λb Z T=>by
  refine aZ (nF (l:=f.A) (k:=bi-1) (dg (mY (m4 U) se) w)) λa S=>?_;refine And.intro (by exact Z2 [.p V0 (.n 1),.n (2^62),.p V1 (.n 1),.n (2^20),V0,V1] (by kernel_rfl) K.1 (Qe G)) (nG ((rS (m4 U)).symm) (cP S) (And.intro (by exact Z2 [.p V0 (.n 1),.n (2^62),.p V1 (.n 1),.n (2^20),V0,V1] (by kernel_rfl) K.2 (Qe V)) (nG D (cP Z) ?_)));refine And.intro (λC=>M aj ⟨λR=>⟨U,W,a,b,S,Z,T,rF C⟩,λR=>rfl⟩) λC=>M aC ⟨nofun,λP=>cL P λR R O=>mK O λv u I N R t=>?_⟩;have I:=S▸I;have N:=Z▸N;cases I;cases N;exact aJ t (ug C)
 have Y:∀b,f.B[bj-1]?=af b->J.contains b=dc b:=λb h=>H b (j3 h);have no:∀b,f.B[bj-1]?=af b->dc b=neg->Q aC ⟨f.loc bi bj bs jY Em En Eo Ak Am,X⟩:=λb Z T=>M aC ⟨nofun,λP=>cL P λR R O=>mK O λv u I N z R=>by
  have N:=Z▸N;cases N;have z:=T▸z;cases neg<;>cases z⟩;cases neg
 ·refine aZ (nF (l:=f.B) (k:=bj-1) (dg (mY (m4 W) se) y)) λb Z=>?_;refine And.intro (by exact Z2 [.p V0 (.n 1),.n (2^62),.p V1 (.n 1),.n (2^20),V0,V1] (by kernel_rfl) K.2 (Qe V)) (nG D (cP Z) ?_);refine bO (gB.mpr ⟨_,x⟩) ?_;refine And.intro (λh=>last b Z ((Y b Z).symm.trans h)) λh=>no b Z ((Y b Z).symm.trans h)
 ·refine aZ (nF (l:=f.B) (k:=bj-1) (dg (mY (m4 W) se) y)) λb Z=>?_;refine And.intro (by exact Z2 [.p V0 (.n 1),.n (2^62),.p V1 (.n 1),.n (2^20),V0,V1] (by kernel_rfl) K.2 (Qe V)) (nG D (cP Z) ?_);refine bO (gB.mpr ⟨_,x⟩) ?_;refine And.intro (λh=>last b Z ?_) λh=>no b Z ?_
  ·rw[Y b Z] at h;cases q:dc b;·rfl
   ·rw[q] at h;exact ft h
  ·rw[Y b Z] at h;cases q:dc b;·rw[q] at h;exact tf h
   ·rfl
theorem Kg(neg:aH)(K:f.A.length<2^20/\f.B.length<2^20)(w:f.jX<=f.A.length)(y:f.j5<=f.B.length)(H:Lz X f.kj f.B)(N:∀c:aH,(c=aj↔bi+bs<f.jX/\bj+bs<f.j5/\∃a b,f.A[bi+bs]?=af a/\f.B[bj+bs]?=af b/\dc b=!neg/\a=b)->Q c ⟨f.loc bi bj bs jY Em En Eo Ak Am,X⟩):VT F (n+20) (.bo .And [.cmp .Lt (iR 9) (.loc 2),.cmp .Lt (iR 10) (.loc 4),nt neg (.call (.loc 8) [.sub (.loc 6) (iR 10)]),.cmp .Eq (.sub (.loc 5) (iR 9)) (.sub (.loc 6) (iR 10))]) Q ⟨f.loc bi bj bs jY Em En Eo Ak Am,X⟩:=by
 have G:=bA f.A;have W:=bA f.B;refine cz H λJ r x H=>?_;refine And.intro (λE=>?_) λE=>N aC ⟨nofun,λh=>(eG E (Int.ofNat_lt.mpr h.1)).elim⟩;refine And.intro (λM=>?_) λM=>N aC ⟨nofun,λh=>(eG M (Int.ofNat_lt.mpr h.2.1)).elim⟩;have M:=b3 M;have D:((bj:aq)+bs)=((bj+bs:ah):aq):=rfl;have v:((bi:aq)+bs)=((bi+bs:ah):aq):=rfl;have L:bi+bs<f.jX:=Int.ofNat_lt.mp (b3 E);have V:bj+bs<f.j5:=Int.ofNat_lt.mp M;have last:∀b,f.B[bj+bs]?=af b->dc b=!neg->VA F (n+16) .And [.cmp .Eq (.sub (.loc 5) (iR 9)) (.sub (.loc 6) (iR 10))] Q ⟨f.loc bi bj bs jY Em En Eo Ak Am,X⟩:=λb Z U=>by
  refine aZ (nF (l:=f.A) (k:=bi+bs) (dg L w)) λa T=>?_;refine And.intro (by exact Z2 [.p V0 (.n 1),.n (2^62),.p V1 (.n 1),.n (2^20),V0,V1] (by kernel_rfl) K.1 (Qe G)) (nG v (cP T) (And.intro (by exact Z2 [.p V0 (.n 1),.n (2^62),.p V1 (.n 1),.n (2^20),V0,V1] (by kernel_rfl) K.2 (Qe W)) (nG D (cP Z) ?_)));refine And.intro (λC=>N aj ⟨λS=>⟨L,V,a,b,T,Z,U,rF C⟩,λS=>rfl⟩) λC=>N aC ⟨nofun,λR=>cL R λS S P=>mK P λu t I O S s=>?_⟩;have I:=T▸I;have O:=Z▸O;cases I;cases O;exact aJ s (ug C)
 have Y:∀b,f.B[bj+bs]?=af b->J.contains b=dc b:=λb h=>H b (j3 h);have no:∀b,f.B[bj+bs]?=af b->dc b=neg->Q aC ⟨f.loc bi bj bs jY Em En Eo Ak Am,X⟩:=λb Z U=>N aC ⟨nofun,λR=>cL R λS S P=>mK P λu t I O z S=>by
  have O:=Z▸O;cases O;have z:=U▸z;cases neg<;>cases z⟩;cases neg
 ·refine aZ (nF (l:=f.B) (k:=bj+bs) (dg V y)) λb Z=>?_;refine And.intro (by exact Z2 [.p V0 (.n 1),.n (2^62),.p V1 (.n 1),.n (2^20),V0,V1] (by kernel_rfl) K.2 (Qe W)) (nG D (cP Z) ?_);refine bO (gB.mpr ⟨_,x⟩) ?_;refine And.intro (λh=>last b Z ((Y b Z).symm.trans h)) λh=>no b Z ((Y b Z).symm.trans h)
 ·refine aZ (nF (l:=f.B) (k:=bj+bs) (dg V y)) λb Z=>?_;refine And.intro (by exact Z2 [.p V0 (.n 1),.n (2^62),.p V1 (.n 1),.n (2^20),V0,V1] (by kernel_rfl) K.2 (Qe W)) (nG D (cP Z) ?_);refine bO (gB.mpr ⟨_,x⟩) ?_;refine And.intro (λh=>last b Z ?_) λh=>no b Z ?_
  ·rw[Y b Z] at h;cases q:dc b;·rfl
   ·rw[q] at h;exact ft h
  ·rw[Y b Z] at h;cases q:dc b;·rw[q] at h;exact tf h
   ·rfl
theorem nN{F:Fc}{n:ah}{t:IE}{b r:aa IS}{P:Fl->AS->Prop}{σ:AS}(σ':AS)(W:VS F (n+1) r P σ')(I:ah->AS->Prop)(m:ah)(h0:I m σ)(step:∀N:AS->Prop,N σ'->∀m σ,I m σ->∀R:Fl->AS->Prop,(∀k Z,k<m->I k Z->R .next Z)->VT F n t (λc Y=>(c=aj->VS F n b R Y)/\(c=aC->N Y)) σ):VS F (n+2) (.vq t b::r) P σ:=cG I m h0 λm σ h=>step _ W m σ h _ λk Z a b=>⟨k,a,b⟩
end
section
variable{K:ah}{H:aa AO}{PP:AV->aa AO->Prop}
theorem Jl{b e s t:ah}(h:e<=b):b-e+(s+e+t)=b+s+t:=by rw[iE s e,fj e,<-fj,eO h,fj]
theorem Hu{n:ah}{f:FF}{P O I Y z:ah}{jY W V U T S:aA AV}{X E:aa AO}(wf:WF H)(hX:X=H++E)(l:f.A.length<2^20/\f.B.length<2^20)(d:RV f.A f.B f.eK f.jX f.eZ f.j5 P O I Y z)(j:Lz X f.kj f.B)(hp:PP (.d (.qI [.int ((P-Y:ah):aq),.int ((O-Y:ah):aq),.int ((I+Y+z:ah):aq)])) H):VS (c6 (K+2)) (n+40) [.vq (.bo .And [(.cmp .Gt (.loc 9) (.loc 1)),(.cmp .Gt (.loc 10) (.loc 3)),(.not (.call (.loc 8) [(.sub (.loc 6) (.bin .Sub (.loc 10) (.k (.int 1))))])),(.cmp .Eq (.sub (.loc 5) (.bin .Sub (.loc 9) (.k (.int 1)))) (.sub (.loc 6) (.bin .Sub (.loc 10) (.k (.int 1)))))]) [.Ek [9,10,11] [(.bin .Sub (.loc 9) (.k (.int 1))),(.bin .Sub (.loc 10) (.k (.int 1))),(.bin .Add (.loc 11) (.k (.int 1)))]],.vq (.bo .And [(.cmp .Lt (.bin .Add (.loc 9) (.loc 11)) (.loc 2)),(.cmp .Lt (.bin .Add (.loc 10) (.loc 11)) (.loc 4)),(.not (.call (.loc 8) [(.sub (.loc 6) (.bin .Add (.loc 10) (.loc 11)))])),(.cmp .Eq (.sub (.loc 5) (.bin .Add (.loc 9) (.loc 11))) (.sub (.loc 6) (.bin .Add (.loc 10) (.loc 11))))]) [.aug 11 .Add (.k (.int 1))],.vq (.bo .And [(.cmp .Gt (.loc 9) (.loc 1)),(.cmp .Gt (.loc 10) (.loc 3)),(.call (.loc 8) [(.sub (.loc 6) (.bin .Sub (.loc 10) (.k (.int 1))))]),(.cmp .Eq (.sub (.loc 5) (.bin .Sub (.loc 9) (.k (.int 1)))) (.sub (.loc 6) (.bin .Sub (.loc 10) (.k (.int 1)))))]) [.Ek [9,10,11] [(.bin .Sub (.loc 9) (.k (.int 1))),(.bin .Sub (.loc 10) (.k (.int 1))),(.bin .Add (.loc 11) (.k (.int 1)))]],.vq (.bo .And [(.cmp .Lt (.bin .Add (.loc 9) (.loc 11)) (.loc 2)),(.cmp .Lt (.bin .Add (.loc 10) (.loc 11)) (.loc 4)),(.call (.loc 8) [(.sub (.loc 6) (.bin .Add (.loc 10) (.loc 11)))]),(.cmp .Eq (.sub (.loc 5) (.bin .Add (.loc 9) (.loc 11))) (.sub (.loc 6) (.bin .Add (.loc 10) (.loc 11))))]) [.asg [(.loc 11)] (.bin .Add (.loc 11) (.k (.int 1)))],.ret (.call (.bR (.ref 135)) [(.loc 9),(.loc 10),(.loc 11)])] (c_ H PP) ⟨f.loc P O I jY W V U T S,X⟩:=by
 have a0:=d.a0;have r:=d.b0;have a1:=d.a1;have b1:=d.b1;have i:=d.al;have g:=d.bl;refine nN ⟨f.loc P O I jY W V U T S,X⟩ ?_ (λm G=>G=⟨f.loc P O I jY W V U T S,X⟩) 0 rfl ?_
 ·refine nN ⟨f.loc P O I jY W V U T S,X⟩ ?_ (λm G=>G=⟨f.loc P O I jY W V U T S,X⟩) 0 rfl ?_
  ·refine nN ⟨f.loc (P-Y:ah) (O-Y:ah) (I+Y:ah) jY W V U T S,X⟩ ?_ (λm G=>∃t,t<=Y/\m=Y-t/\G=⟨f.loc (P-t:ah) (O-t:ah) (I+t:ah) jY W V U T S,X⟩) Y (cy 0 (bW _) rfl rfl) ?_
   ·refine nN ⟨f.loc (P-Y:ah) (O-Y:ah) (I+Y+z:ah) jY W V U T S,X⟩ ?_ (λm G=>∃t,t<=z/\m=z-t/\G=⟨f.loc (P-Y:ah) (O-Y:ah) (I+Y+t:ah) jY W V U T S,X⟩) z (cy 0 (bW _) rfl rfl) ?_;·refine And.intro rfl ?_;refine Ll ?_;exact aP _ rfl (c_.same (e:=E) wf hX hp)
    ·(refineλN v m G M R q=>cC M λt o F D=>?_;subst F;subst D);refine Kg aC l i g j λc y=>⟨λh=>?_,λh=>?_⟩
     ·refine cL (y.mp h) λx w Q=>mK Q λa b L J C u=>?_;have Z:t<z:=by
       refine lE o λe=>?_;subst e;rw[Jl (br (lG _ _) a0)] at x L;rw[Jl (br (lG _ _) r)] at w J;exact d.g4 x w a b L J C u
      refine q (z-(t+1)) _ (Z4 [.p V0 (.n 1),V1,V2,.p V1 V3,.p V0 (.p V3 (.n 1)),V2] rfl Q1 (Q2 (Z))) (cy (t+1) Z rfl ?_);rfl
     ·have:t=z:=cY o (ff λZ=>by
       refine cC (d.f4 t Z) λa L J C=>?_;have:=y.mpr ⟨Z7 [.p (.p V0 (.p (.p V1 V2) V3)) (.n 1),V4,.p (.p V5 V1) V6,V4,.p V3 (.n 1),V6,.p V0 V2,V5] rfl a1 Z (Q2 (Z3 [V0,V1,.p V2 V0,V1] rfl a0)),Z7 [.p (.p V0 (.p (.p V1 V2) V3)) (.n 1),V4,.p (.p V5 V1) V6,V4,.p V3 (.n 1),V6,.p V0 V2,V5] rfl b1 Z (Q2 (Z3 [V0,V1,.p V2 V0,V1] rfl r)),a,a,(bu (f.A[·]?) (Jl (br (lG _ _) a0))).trans L,(bu (f.B[·]?) (Jl (br (lG _ _) r))).trans J,C,rfl⟩;rw[h] at this;cases this);subst this;exact v
   ·(refineλN v m G M R q=>cC M λt o F D=>?_;clear M;subst F;subst D);refine Kf aC l (Z6 [V0,V1,.p (.p V2 V3) V4,V5,V5,V1,V0,V2] rfl a1 i Q0) (Z6 [V0,V1,.p (.p V2 V3) V4,V5,V5,V1,V0,V2] rfl b1 g Q0) j λc y=>⟨λh=>?_,λh=>?_⟩
    ·refine cL (y.mp h) λx w Q=>mK Q λa b L J C u=>?_;have Z:t<Y:=by
      refine lE o λe=>?_;subst e;rw[wQ] at L;rw[wQ] at J;exact d.g3 (Nat.add_lt_of_lt_sub x) (Nat.add_lt_of_lt_sub w) a b L J C u
     refine And.intro (n5 rfl) ⟨rfl,q (Y-(t+1)) _ (Z4 [.p V0 (.n 1),V1,V2,.p V1 V3,.p V0 (.p V3 (.n 1)),V2] rfl Q1 (Q2 (Z))) ⟨t+1,Z,rfl,?_⟩⟩;have z1:((P-t:ah):aq)-1=((P-(t+1):ah):aq):=by exact eU (bJ [_,_,_,_] [] 1 [] [.s (.c V0) (.n 1),.c V1,.c V2,.c (.p V1 (.p V3 (.n 1))),.c (.p V0 V3),.c V2] rfl (Qn Q1) (Qn (Q2 (Z4 [V0,V1,.p V2 V3,V1,.p V0 (.n 1),V3] rfl a0 Z)))) (bJ [_,_,_,_] [] 1 [] [.c V0,.s (.c V1) (.n 1),.c V2,.c (.p V1 V3),.c (.p V0 (.p V3 (.n 1))),.c V2] rfl (Qn Q1) (Qn (Q2 (Z4 [.p V0 (.n 1),V1,.p V2 V3,V1,.p V0 (.n 1),V3] rfl a0 Z))))
     have z2:((O-t:ah):aq)-1=((O-(t+1):ah):aq):=by exact eU (bJ [_,_,_,_] [] 1 [] [.s (.c V0) (.n 1),.c V1,.c V2,.c (.p V1 (.p V3 (.n 1))),.c (.p V0 V3),.c V2] rfl (Qn Q1) (Qn (Q2 (Z4 [V0,V1,.p V2 V3,V1,.p V0 (.n 1),V3] rfl r Z)))) (bJ [_,_,_,_] [] 1 [] [.c V0,.s (.c V1) (.n 1),.c V2,.c (.p V1 V3),.c (.p V0 (.p V3 (.n 1))),.c V2] rfl (Qn Q1) (Qn (Q2 (Z4 [.p V0 (.n 1),V1,.p V2 V3,V1,.p V0 (.n 1),V3] rfl r Z))))
     rw[<-z1,<-z2];rfl
    ·have:t=Y:=cY o (ff λZ=>by
      refine cC (d.f3 t Z) λa L J C=>?_;have:=y.mpr ⟨Z5 [.p V0 (.n 1),V1,.p V0 V2,V3,.p V4 (.n 1),V2,V3,.p V1 V4] rfl a0 Z Q1,Z5 [.p V0 (.n 1),V1,.p V0 V2,V3,.p V4 (.n 1),V2,V3,.p V1 V4] rfl r Z Q1,a,a,(bu (f.A[·]?) (wQ P t 1)).trans L,(bu (f.B[·]?) (wQ O t 1)).trans J,C,rfl⟩;rw[h] at this;cases this);subst this;exact v
  ·rintro N v m G rfl R q;refine Kg aj l i g j λc y=>⟨λh=>?_,λø=>v⟩;refine cL (y.mp h) λx w Q=>mK Q λa b L J C u=>?_;exact aJ u (d.f2 x w a b L J C)
 ·rintro N v m G rfl R q;refine Kf aj l (Z5 [V0,V1,.p (.p V0 V2) V3,V4,V4,V1] rfl a1 i) (Z5 [V0,V1,.p (.p V0 V2) V3,V4,V4,V1] rfl b1 g) j λc y=>⟨λh=>?_,λø=>v⟩;(refine cL (y.mp h) λx w Q=>mK Q λa b L J C u=>?_;clear Q);exact aJ u (d.f1 x w a b L J C)
end
theorem Hv{X:aa AO}{k:ah}{D:aa (ai×AV)}{o:aR}(h:X[k]?=af (.dS D o)):ni X (.ref k) .get=aj:=by
 show (tn X k).isSome=aj;rw[k9.mpr ⟨o,h⟩];rfl
def Kh(A B:aa ai)(eK jX eZ j5:ah)(C:aa (aA ah)):Prop:=C.length=jX-eK/\∀t o,C[t]?=af o->∃x,A[eK+t]?=af x/\match o with|none=>dc x=aj|some p=>dc x=aC/\eZ<=p/\p<j5/\x∈B/\lu x 0 B=[p]
noncomputable def RY(Z:aA (ah×ah)):aa (aq×aq):=match Z with|none=>[]|some (j,c)=>[((j:aq),(c:aq))]
theorem LA(Z:aA (ah×ah))(p:ah):((RY Z).lookup ((p:aq)-1)).getD 0+1=((jW Z p:ah):aq):=by induction Z using c9 with |none=>rfl|some q=>
  obtain⟨j,c⟩:=q;show (match ((p:aq)-1)==(j:aq) with|true=>af (c:aq)|false=>none).getD 0+1=(((if j+1=p then c+1 else 1):ah):aq);by_cases h:j+1=p;·rw[aW h,beq_iff_eq.mpr (by exact eU (bJ [_,_] [] 1 [] [.s (.c V0) (.n 1),.c V1,.c V0,.c (.p V1 (.n 1))] rfl (Qn (Qf h))) (bJ [_,_] [] 1 [] [.c V0,.s (.c V1) (.n 1),.c (.p V0 (.n 1)),.c V1] rfl (Qn (Qe h))))];rfl
  ·rw[aI h,fC (λe=>h (iz ((bu (·+(1:aq)) e.symm).trans (wk _ _))))];rfl
theorem Jm{Z:aA (ah×ah)}{i p:ah}(h:∀j c,Z=af (j,c)->c<=i/\c<=j+1):jW Z p<=i+1/\jW Z p<=p+1:=by induction Z using c9 with|none=>exact⟨lG _ _,lG _ _⟩|some q=>
  obtain⟨j,c⟩:=q;have:=h j c rfl;show (if j+1=p then c+1 else 1)<=i+1/\(if j+1=p then c+1 else 1)<=p+1;split;·exact⟨fh this.1,fh (‹j+1=p›▸this.2)⟩
  ·exact⟨fh (bW _),fh (bW _)⟩
theorem OU{H E:aa AO}{k:ah}(Z:H.length<=k)(Y:aa AO)(o:AO):∃X,(H++E++Y).set k o=H++X:=⟨(E++Y).set (k-H.length) o,by rw[bV,mU _ _ Z]⟩
inductive LB(H:aa AO)(ks kb kj eK jX eZ j5:ah)(A B:aa ai)(C:aa (aA ah))(bi bj bs:ah)(xs:aa DV):AS->Prop|mk(i:ah)(jl:aA (ah×ah))(bi' SJ bs' m:ah)(Em En Eo Ak Am:aA AV)(X:aa AO):xs=cV i jX->eK<=i->i<=jX->(Aj i (jl,(bi',SJ,bs')) (C.drop (i-eK))).2=(bi,bj,bs)->(∃E,X=H++E)->H.length<=m->X[m]?=af (.dI (RY jl))->(∀j c,jl=af (j,c)->c<=i/\c<=j+1)->LB H ks kb kj eK jX eZ j5 A B C bi bj bs xs ⟨(FF.mk ks kb kj eK jX eZ j5 A B).loc bi' SJ bs' (af (.ref m)) Em En Eo Ak Am,X⟩
section
variable{K:ah}{H:aa AO}{PP:AV->aa AO->Prop}
theorem LC{ks eK jX eZ j5:ah}{A B:aa ai}{C:aa (aA ah)}{b:gR}{t l g e1 e2:ah}(hs:uu H ks A B)(hl:A.length<2^20/\B.length<2^20)(hc:Kh A B eK jX eZ j5 C)(P:Lu A B eK jX eZ j5 C b t l g e1 e2)(hp:PP (.d (.qI [.int (b.1:ah),.int (b.2.1:ah),.int (b.2.2:ah)])) H):Fn (K+3) 196 [.ref ks,.d (.int eK),.d (.int jX),.d (.int eZ),.d (.int j5)] H PP:=by
 refine NX.use OG rfl λwf=>?_;obtain⟨kb,kj,kp,D,o,J,oj,hi,hb,hj,hjn,hnm,hJ⟩:=hs;refine bO (bL.mpr hi) ?_;refine And.intro rfl ?_;refine bO (bL.mpr hi) ?_;refine And.intro rfl ?_;refine bO (bL.mpr hi) ?_;refine And.intro rfl ?_;refine bO (bL.mpr hi) ?_;refine And.intro rfl ?_;refine And.intro (by rw[gB.mpr ⟨_,hj⟩];rfl) ?_;refine And.intro (n5 rfl) ⟨rfl,?_⟩;refine And.intro nofun λø=>?_;refine And.intro nofun λø=>?_;refine And.intro (n5 rfl) ⟨rfl,?_⟩;refine And.intro rfl ⟨by decide,?_⟩;have a0:=P.ext.a0;have a1:=P.ext.a1;have al:=P.ext.al;refine ko (aP _ (iW (a:=eK) (b:=jX) (by exact⟨Z7 [.p V0 (.n 1),.n (2^62),.p V1 (.n 1),.n (2^20),.p V0 V2,V3,.p (.p V3 V4) V5,V6,V6,V1] (by kernel_rfl) hl.1 a0 a1 al,Z2 [.p V0 (.n 1),.n (2^62),.p V1 (.n 1),.n (2^20),V0,V1] (by kernel_rfl) hl.1 al⟩)) ?_);refine jg (I:=LB H ks kb kj eK jX eZ j5 A B C t l g) ?_ ?_ _ _ ?_;·refineλσ h=>h.casesOn λi Y O N W m Em En Eo Ak Am X L U h2 Z hE hm hd G=>aZ hE λE e=>?_;subst e;have L:=gj L;rw[dH (by rw[hc.1];exact Z5 [V0,V1,V2,V3,V3,.p V1 V4,.p V0 V4,V2] rfl L Q1 (Q2 (Z3 [V0,V1,V0,V2,V2,V1] rfl U h2)))] at Z;cases Z;have e:=P.eq;subst e;exact Hu (n:=12) (f:=⟨ks,kb,kj,eK,jX,eZ,j5,A,B⟩) wf rfl hl P.ext (cG J oj (bT hj _) hJ) hp
 ·refineλx r σ h=>h.casesOn λi Y O N W m Em En Eo Ak Am X L U h2 Z hE hm hd G R ih OR rr=>aZ hE λE e=>?_;subst e;(refine cL (j9 L) λT Af K6=>?_;subst Af;subst K6);obtain⟨co,F⟩:∃co,C[i-eK]?=af co:=⟨_,c7 (by rw[hc.1];exact Z5 [.p V0 (.n 1),V1,.p V2 (.n 1),V3,V3,.p V1 V4,.p V0 V4,V2] rfl T Q1 (Q2 (U)))⟩;refine aQ (hc.2 _ _ F) λx z S=>?_;rw[show eK+(i-eK)=i by exact Ac [.p V0 V1,V2,.p V1 V0,V2] rfl (eO (U))] at z;have Z:(Aj (i+1) (stp i (Y,O,N,W) co) (C.drop (i+1-eK))).2=(t,l,g):=by
   refine aZ (gi F) λq1 q2=>?_;rw[e8 q1,q2,show i-eK+1=i+1-eK by exact vh [.p V0 (.n 1),V1,.p V0 V2,V3,.p V3 (.n 1),.p V1 V2] rfl (eO (U)) (Eq.symm (eO (Z2 [V0,.p V1 (.n 1),V0,V1] rfl U)))] at Z;exact Z
  have hla:=bA A;refine And.intro (by rw[pR.mpr hd];rfl) ?_;refine And.intro (Hv (bT (bT hb _) _)) ?_;have q1:(aT A).length<2^62:=by exact Z2 [.p V0 (.n 1),.n (2^62),.p V1 (.n 1),.n (2^20),V0,V1] (by kernel_rfl) hl.1 (Qe hla)
  refine And.intro q1 (bO (cP z) ?_);refine bO (k9.mpr ⟨_,bT (bT hb _) _⟩) ?_;induction co using c9 with
  |none=>
   rw[hjn x S];refine ko (aP [] rfl ?_);refine ih _ trivial ⟨i+1,none,O,N,W,_,_,_,_,_,_,_,rfl,Z2 [V0,.p V1 (.n 1),V0,V1] rfl U,T,Z,⟨_,bV ..⟩,by simp,?_,nofun⟩;rw[jh (bf _),cB];rfl|some p=>
   refine ED S λS Ue Ug Uh Ui=>?_;refine aQ (hnm x Uh S) λk Ni M=>?_;rw[Ui] at M;rw[Ni];have y:=cQ (cQ M E) [AO.dI []];refine ko (aP _ y ?_);have hcl:∀j c,Y=af (j,c)->c<=i/\c<=j+1:=G;have hz:=LA Y p;have c1:=Jm (p:=p) hcl;have w:(H++E++[AO.dI []])[(H++E).length]?=af (.dI []):=by rw[jh (bf _),cB];rfl
   have V:H.length<=(H++E).length:=by rw[bU];exact dh _ _
   have Uj:k≠(H++E).length:=λe=>by have:=fM M;rw[e] at this;exact aJ this (iZ V)
   have v:∀o',listAt ((H++E++[AO.dI []]).set (H++E).length o') k=af (bQ [p]):=λo'=>gO y Uj.symm;unfold stp at Z;dsimp only at Z;refine And.intro (λh=>aJ (show (p:aq)<eZ from b3 h) (Int.not_lt.mpr (Int.ofNat_le.mpr Ue))) λø=>?_;refine And.intro (λh=>aJ (show (j5:aq)<=p from b3 h) (Int.not_le.mpr (Int.ofNat_lt.mpr Ug))) λø=>?_;refine bO (pR.mpr (bT hd _)) ?_;conv=>whnf
   rw[w];conv=>whnf
   refine⟨⟨rfl,by decide⟩,?_⟩;rw[hz];have u:((H++E++[AO.dI []]).set (H++E).length (AO.dI ([]++[((p:aq),((jW Y p:ah):aq))])))[(H++E).length]?=af (.dI (RY (af (p,jW Y p)))):=b4 w;have Q:∀j c,af (p,jW Y p)=af (j,c)->c<=i+1/\c<=j+1:=λj c e=>by cases e;exact c1
   refine And.intro (λh=>?_) λh=>?_
   ·have h:(W:aq)<(jW Y p:ah):=b3 h;rw[aW (Int.ofNat_lt.mp h)] at Z;refine And.intro (n5 rfl) ⟨rfl,?_⟩;refine And.intro (v _) ?_;refine ih _ trivial ?_;have z1:(i:aq)-(jW Y p:ah)+1=((i+1-jW Y p:ah):aq):=by exact eU (bJ [_,_,_] [] 1 [] [.p (.s (.c V0) (.c V1)) (.n 1),.c V2,.c (.p V0 (.n 1)),.c (.p V2 V1)] rfl (Qn Q1)) (bJ [_,_,_] [] 1 [] [.c V0,.p (.s (.c V1) (.c V2)) (.n 1),.c (.p V0 V2),.c (.p V1 (.n 1))] rfl (Qn (Q2 (c1.1))))
    have z2:(p:aq)-(jW Y p:ah)+1=((p+1-jW Y p:ah):aq):=by exact eU (bJ [_,_,_] [] 1 [] [.p (.s (.c V0) (.c V1)) (.n 1),.c V2,.c (.p V0 (.n 1)),.c (.p V2 V1)] rfl (Qn Q1)) (bJ [_,_,_] [] 1 [] [.c V0,.p (.s (.c V1) (.c V2)) (.n 1),.c (.p V0 V2),.c (.p V1 (.n 1))] rfl (Qn (Q2 (c1.2))))
    have st:=@LB.mk H ks kb kj eK jX eZ j5 A B C t l g _ (i+1) (af (p,jW Y p)) _ _ _ _ (af (.d (.int i))) (af (.bm "dict.get" m)) (af (.ref (H++E).length)) (af (.d (.int p))) (af (.d (.int (jW Y p:ah)))) _ rfl (jG U) T Z (OU V _ _) V u Q;rw[<-z1,<-z2] at st;exact st
   ·have h:¬(W:aq)<(jW Y p:ah):=eG h;rw[aI λq=>h (Int.ofNat_lt.mpr q)] at Z;refine And.intro (v _) ?_;exact ih _ trivial ⟨i+1,af (p,jW Y p),_,_,_,_,_,_,_,_,_,_,rfl,jG U,T,Z,OU V _ _,V,u,Q⟩
 ·refine⟨eK,none,eK,eZ,0,H.length,_,_,_,_,_,_,rfl,bf _,?_,?_,⟨_,rfl⟩,bf _,?_,nofun⟩;·have:=P.ext.a0;exact Z6 [V0,V1,.p V0 V2,V3,.p (.p V3 V4) V5,V1] rfl a0 a1
  ·rw[cB];exact P.lp
  ·rw[jh (bf _),cB];rfl
end
noncomputable def mD(b:gR):DV:=.qI [.int b.1,.int b.2.1,.int b.2.2]
noncomputable abbrev Wn:=ah×ah×ah×ah
noncomputable def wD(w:Wn):DV:=.tup [.int w.1,.int w.2.1,.int w.2.2.1,.int w.2.2.2]
theorem Pu{a b c d:ah}(h:¬(a<b/\c<d)):b<=a\/d<=c:=(qn a b).elim (λp=>.inr (ff λq=>h ⟨p,q⟩)) .inl
theorem uu.app{X:aa AO}{ks:ah}{A B:aa ai}(h:uu X ks A B)(Y:aa AO):uu (X++Y) ks A B:=by
 obtain⟨V,U,T,D,o,J,S,R,Q,P,Z,W,O⟩:=h;exact⟨V,U,T,D,o,J,S,bT R _,bT Q _,bT P _,Z,λx N M=>let ⟨k,L,K⟩:=W x N M;⟨k,L,cQ K _⟩,O⟩
def Jo(A B:aa ai)(w:Wn)(T:aa gR):Prop:=∃G ns,yp A B w.1 w.2.1 w.2.2.1 w.2.2.2 G ns/\Tr w.1 w.2.2.1 G T
theorem LD{A B:aa ai}{eK jX eZ j5:ah}{G:aa Gp}{ns:aa ai}(w:yp A B eK jX eZ j5 G ns)(S:∀(p q:ah)(x:ai),dc x=aC->B[p]?=af x->B[q]?=af x->p=q):Kh A B eK jX eZ j5 (cont eZ G):=by
 refine⟨(Hg G ns eZ w.gn.len).trans w.a.len,λt o h=>?_⟩;refine aQ (Jf G ns eZ t o w.gn h) λx W Z=>?_;have R:=(gi W).1;have lb:=w.b.len;refine aP x (by rw[w.a.at (AB (w.a.len▸R))];exact W) ?_;induction o using c9 with |none=>exact Z|some p=>
  (refine cL Z λV Y U=>?_;clear Z);have T:=(gi U).1;have X:B[p]?=af x:=by
   have:=w.b.at (p:=p-eZ) (AB (lb▸T));rw[show eZ+(p-eZ)=p by exact Ac [.p V0 V1,V2,.p V1 V0,V2] rfl (eO (Y))] at this;rw[this];exact U
  refine⟨V,Y,by have:=AB (lb▸T);rwa [Nat.add_sub_of_le Y] at this,j3 X,?_⟩;rw[Hp X λq Q=>(S p q x V X Q).symm,eV]
noncomputable def gF(ks Z lb h m:ah)(y5 y6 y7 y8 y9 yq yr jY:aA AV):aa (aA AV):=[af (.ref ks),iN Z,iN lb,af (.ref h),af (.ref m),y5,y6,y7,y8,y9,yq,yr,jY,none,none,none,none,none,none,none,none,none,none,none]
section
variable{F:Fc}{n ks la lb hh mm:ah}{a5 a6 a7 a8 a9 BV BW:ah}{jY:aA AV}{b r:aa IS}{P:Fl->AS->Prop}{X:aa AO}
theorem LF(T:a5<a9->a7<BV->VS F (n+20) b (λfl Z=>match fl with|.next=>VS F (n+21) r P Z|fl=>P fl Z) ⟨gF ks la lb hh mm (iN a5) (iN a6) (iN a7) (iN a8) (iN a9) (iN BV) (iN BW) jY,X⟩)(V:¬(a5<a9/\a7<BV)->VS F (n+21) r P ⟨gF ks la lb hh mm (iN a5) (iN a6) (iN a7) (iN a8) (iN a9) (iN BV) (iN BW) jY,X⟩):VS F (n+22) (.gU (.bo .And [(.cmp .Lt (.loc 5) (.loc 9)),(.cmp .Lt (.loc 7) (.loc 10))]) b []::r) P ⟨gF ks la lb hh mm (iN a5) (iN a6) (iN a7) (iN a8) (iN a9) (iN BV) (iN BW) jY,X⟩:=by
 refine And.intro (λW=>?_) λW=>And.intro nofun λU=>V λq=>eG W (Int.ofNat_lt.mpr q.1);refine And.intro (λY=>?_) λY=>And.intro nofun λU=>V λq=>eG Y (Int.ofNat_lt.mpr q.2);have Y:=Int.ofNat_lt.mp (b3 Y);exact And.intro (λU=>T (Int.ofNat_lt.mp (b3 W)) Y) nofun
theorem Hw(T:a9+BW<a6->BV+BW<a8->VS F (n+20) b (λfl Z=>match fl with|.next=>VS F (n+21) r P Z|fl=>P fl Z) ⟨gF ks la lb hh mm (iN a5) (iN a6) (iN a7) (iN a8) (iN a9) (iN BV) (iN BW) jY,X⟩)(V:¬(a9+BW<a6/\BV+BW<a8)->VS F (n+21) r P ⟨gF ks la lb hh mm (iN a5) (iN a6) (iN a7) (iN a8) (iN a9) (iN BV) (iN BW) jY,X⟩):VS F (n+22) (.gU (.bo .And [(.cmp .Lt (.bin .Add (.loc 9) (.loc 11)) (.loc 6)),(.cmp .Lt (.bin .Add (.loc 10) (.loc 11)) (.loc 8))]) b []::r) P ⟨gF ks la lb hh mm (iN a5) (iN a6) (iN a7) (iN a8) (iN a9) (iN BV) (iN BW) jY,X⟩:=by
 refine And.intro (λW=>?_) λW=>And.intro nofun λU=>V λq=>eG W (Int.ofNat_lt.mpr q.1);refine And.intro (λY=>?_) λY=>And.intro nofun λU=>V λq=>eG Y (Int.ofNat_lt.mpr q.2);have Y:=Int.ofNat_lt.mp (b3 Y);exact And.intro (λU=>T (Int.ofNat_lt.mp (b3 W)) Y) nofun
end
theorem D5{F:Fc}{n:ah}{t:IE}{b r:aa IS}{P:Fl->AS->Prop}{σ:AS}(J:AS->Prop)(X:∀σ',J σ'->VS F (n+1) r P σ')(I:ah->AS->Prop)(m:ah)(h0:I m σ)(step:∀N:AS->Prop,(∀σ',J σ'->N σ')->∀m σ,I m σ->∀R:Fl->AS->Prop,(∀k Z,k<m->I k Z->R .next Z)->VT F n t (λc Y=>(c=aj->VS F n b R Y)/\(c=aC->N Y)) σ):VS F (n+2) (.vq t b::r) P σ:=cG I m h0 λm σ h=>step _ X m σ h _ λk Z a b=>⟨k,a,b⟩
theorem Jp:∀Z:aa (Wn×aa gR),Z.length<=(Z.map λw=>2*w.2.length+1).sum:=by
 intro Z;induction Z with|nil=>exact bf _|cons w Z Y=> have:=Y;exact Z3 [.p V0 (.n 1),.p (.p (.m 2 V1) (.n 1)) V2,V0,V2] rfl this
theorem Hx{X:aa AO}{p:ah}{l:aa DV}(h:listAt X p=af l):ni X (.ref p) .pop=aj:=by
 show (listAt X p).isSome=aj;rw[h];rfl
theorem CO{H:aa AO}{x y Z:AO}:(H++[x,y]).set H.length Z=H++[Z,y]:=by rw[mU _ _ (bf _),cB];rfl
theorem Kl{H:aa AO}{x y Z:AO}:(H++[x,y]).set (H.length+1) Z=H++[x,Z]:=by rw[mU _ _ (dh _ _),oR];rfl
theorem yt{H:aa AO}{l:aa DV}{y:AO}:listAt (H++[.list l,y]) H.length=af l:=by rw[bI,jh (bf _),cB];rfl
theorem Hz{H:aa AO}{l:aa DV}{x:AO}:listAt (H++[x,.list l]) (H.length+1)=af l:=by rw[bI,jh (dh _ _),oR];rfl
noncomputable def OV(g:aa (aA AV))(i j k:aq)(W:ah)(Z Y X:aA AV):aa (aA AV):=g.take 13++[af (.d (.int i)),af (.d (.int j)),af (.d (.int k)),af (.ref W),Z,Y,X,none,none,none,none]
theorem gh{X:aa AO}{x y:AO}:(X++[x]).set X.length y=X++[y]:=by rw[mU _ _ (bf _),cB];rfl
theorem D6{X:aa AO}{p:ah}{l:aa DV}(h:listAt X p=af l):ni X (.ref p) .sort=aj:=by
 show (listAt X p).isSome=aj;rw[h];rfl
theorem D7{T W:aa gR}(U:W.Perm T){i Q:ah}(S:CK i Q T):((W.map mD).map nh).Nodup/\∀X:aa DV,X.Perm (W.map mD)->X.Pairwise (λa b=>nh a<nh b)->X=T.map mD:=by
 have R:(T.map mD).Pairwise λa b=>nh a<nh b:=by
  rw[mW];have h:T.Pairwise λa b=>a.1<b.1:=by
   have Z:∀(l:aa gR),(∀b∈l,0<b.2.2)->l.Pairwise (λa b=>a.1+a.2.2<=b.1)->l.Pairwise λa b=>a.1<b.1:=by
    intro l;induction l with|nil=>intro _ _;exact .nil|cons x l P=>
     intro Z Y;rw[List.pairwise_cons] at Y ⊢;exact⟨λy V=>dg (wL (Z x (.head _))) (Y.1 y V),P (λy V=>Z y (.tail _ V)) Y.2⟩
   exact Z T S.pos S.ord
  exact h.imp λ{a b}h=>Int.ofNat_lt.mpr h
 refine⟨?_,λX Z Y=>?_⟩
 ·have:((T.map mD).map nh).Nodup:=by
   rw[wB,mW];exact R.imp λ{a b}h=>Int.ne_of_lt h
  exact((U.map mD).map nh).nodup_iff.mpr this
 ·exact List.Perm.eq_of_pairwise (le:=λa b=>nh a<nh b) (λa b O O N M=>aJ M (Int.not_lt.mpr (Int.le_of_lt N))) Y R (Z.trans (U.map mD))
theorem CP:∀(T:aa gR)(b:gR),(nJ b T).length<=T.length+1:=by
 intro T;induction T with
 |nil=> intro b;show (if b.2.2=0 then [] else [b]).length<=1;split<;>simp|cons x T Z=>
  intro b;have Y:=Z x;show (if b.1+b.2.2=x.1/\b.2.1+b.2.2=x.2.1 then nJ (b.1,b.2.1,b.2.2+x.2.2) T else (if b.2.2=0 then [] else [b])++nJ x T).length<=T.length+1+1;split;·exact Z2 [V0,.p (.p V1 (.n 1)) (.n 1),V0,.p V1 (.n 1)] rfl (Z (b.1,b.2.1,b.2.2+x.2.2))
  ·split;·exact Z2 [V0,.p (.p V1 (.n 1)) (.n 1),V0,.p V1 (.n 1)] rfl Y
   ·simp;exact Y
theorem HA{K:ah}{H:aa AO}{P:aa DV->Prop}:∀(l acc:aa gR),acc.length+l.length<=2^20->P ((acc++l).map mD)->yO (yP (FJ (K+2)) 89 [.d (.con (.ref 135))]) H (l.map bD) (acc.map mD) P:=by
 intro l;induction l with |nil=>exactλacc X h=>by rw[bY] at h;exact h|cons b l Y=>
  intro acc Z h;refine I7 rfl ⟨rfl,_,rfl,?_,?_⟩;·rw[bB];exact dg (by exact Z2 [.p V0 (.n 1),.n (2^20),.p V0 (.p V1 (.n 1)),.n 1048576] (by kernel_rfl) Z:acc.length<2^20) (by decide)
  ·have:=Y (acc++[b]) (by simp at Z ⊢;exact Z2 [.p (.p V0 (.n 1)) V1,.n 1048576,.p V0 (.p V1 (.n 1)),.n 1048576] (by kernel_rfl) Z) (by rw[bV];exact h);rw[c8] at this;exact this
theorem HB{F:Fc}{n:ah}{t:IE}{b o r:aa IS}{P:Fl->AS->Prop}{σ:AS}(J:AS->Prop)(Y:∀σ',J σ'->VS F (n+1) r P σ')(h:(∀σ',J σ'->VS F (n+1) r P σ')->VT F n t (λc Z=>(c=aj->VS F n b (λfl Z=>match fl with|.next=>VS F (n+1) r P Z|fl=>P fl Z) Z)/\(c=aC->VS F n o (λfl Z=>match fl with|.next=>VS F (n+1) r P Z|fl=>P fl Z) Z)) σ):VS F (n+2) (.gU t b o::r) P σ:=h Y
section
variable{K:ah}{H:aa AO}{PP:AV->aa AO->Prop}
theorem z_{F:Fc}{n:ah}{ks Y lb h m:ah}{y5 y6 y7 y8 y9 yq yr jY:aA AV}{cur x2:gR}{acc:aa gR}{H2:aa AO}{P:Fl->AS->Prop}(W:acc.length<=64)(X:∀Z,(cur.2.2=0/\Z=acc)\/(cur.2.2≠0/\Z=acc++[cur])->P .next ⟨OV (gF ks Y lb h m y5 y6 y7 y8 y9 yq yr jY) (x2.1:ah) (x2.2.1:ah) (x2.2.2:ah) H2.length (iN x2.1) (iN x2.2.1) (iN x2.2.2),H2++[.list (Z.map bD)]⟩):VS F (n+36) [.gU (.loc 15) [.ex (.met (.loc 16) .append [(.tup [(.loc 13),(.loc 14),(.loc 15)])])] [],.Ek [13,14,15] [(.loc 17),(.loc 18),(.loc 19)]] P ⟨OV (gF ks Y lb h m y5 y6 y7 y8 y9 yq yr jY) (cur.1:ah) (cur.2.1:ah) (cur.2.2:ah) H2.length (iN x2.1) (iN x2.2.1) (iN x2.2.2),H2++[.list (acc.map bD)]⟩:=by
 refine And.intro (λh=>?_) λh=>?_
 ·have h:(cur.2.2:aq)≠0:=bne_iff_ne.mp h;refine And.intro (cF bh) ?_;refine And.intro rfl ⟨n5 rfl,?_⟩;refine bO bh ?_;refine And.intro (by rw[(bB _)];exact er W (by decide)) ?_;rw[gh];refine And.intro (n5 rfl) ⟨rfl,?_⟩;have:=X (acc++[cur]) (.inr ⟨λe=>h (by rw[e];rfl),rfl⟩);rw[c8] at this;exact this
 ·have h:((cur.2.2:ah):aq)=0:=mR λq=>by rw[bne_iff_ne.mpr q] at h;exact tf h
  refine And.intro (n5 rfl) ⟨rfl,?_⟩;exact X acc (.inl ⟨iz h,rfl⟩)
inductive Km(ks la lb n:ah)(y5 y6 y7 y8 y9 yq yr jY:aA AV)(T:aa gR)(H2:aa AO)(xs:aa DV)(σ:AS):Prop|mk(r:aa gR)(cur:gR)(acc:aa gR)(Ak Am RZ:aA AV):xs=r.map mD->σ=⟨OV (gF ks la lb n (n+1) y5 y6 y7 y8 y9 yq yr jY) (cur.1:ah) (cur.2.1:ah) (cur.2.2:ah) H2.length Ak Am RZ,H2++[.list (acc.map bD)]⟩->nJ (0,0,0) T=acc++nJ cur r->acc.length+r.length<=64->Km ks la lb n y5 y6 y7 y8 y9 yq yr jY T H2 xs σ
inductive Kn(ks la lb n:ah)(y5 y6 y7 y8 y9 yq yr jY:aA AV)(T:aa gR)(H2:aa AO)(σ:AS):Prop|mk(i j k:aq)(Ak Am RZ:aA AV):σ=⟨OV (gF ks la lb n (n+1) y5 y6 y7 y8 y9 yq yr jY) i j k H2.length Ak Am RZ,H2++[.list ((nJ (0,0,0) T).map bD)]⟩->Kn ks la lb n y5 y6 y7 y8 y9 yq yr jY T H2 σ
inductive OW(H:aa AO)(ks:ah)(A B:aa ai)(T:aa gR)(m:ah)(σ:AS):Prop|mk(ws:aa (Wn×aa gR))(bs:aa gR)(y5 y6 y7 y8 y9 yq yr jY:aA AV):σ=⟨gF ks A.length B.length H.length (H.length+1) y5 y6 y7 y8 y9 yq yr jY,H++[.list (ws.map λw=>wD w.1),.list (bs.map mD)]⟩->(∀w∈ws,Jo A B w.1 w.2)->(bs++(ws.map (·.2)).flatten).Perm T->m=(ws.map λw=>2*w.2.length+1).sum->m+bs.length<=2*T.length+1->OW H ks A B T m σ
inductive OX(H:aa AO)(ks:ah)(A B:aa ai)(T:aa gR)(σ:AS):Prop|mk(bs:aa gR)(y5 y6 y7 y8 y9 yq yr jY:aA AV):σ=⟨gF ks A.length B.length H.length (H.length+1) y5 y6 y7 y8 y9 yq yr jY,H++[.list [],.list (bs.map mD)]⟩->bs.Perm T->OX H ks A B T σ
theorem HC{n ks F lb:ah}{A B:aa ai}{T:aa gR}{f d b:ah}{y5 y6 y7 y8 y9 yq yr jY:aA AV}(wf:WF H)(hi:H[ks]?=af (.inst [BS,ju A,ju B,D4,mP,mP,mP,af (.ref f),af (.ref d),af (.ref b)]))(v:T.length<64)(hp:∀X p,listAt X p=af ((nJ (0,0,0) T++[(F,lb,0)]).map mD)->PP (.ref p) X):VS (c6 (K+3)) (n+40) [.fr .plain (.tup [(.loc 17),(.loc 18),(.loc 19)]) (.loc 4) [.gU (.bo .And [(.cmp .Eq (.bin .Add (.loc 13) (.loc 15)) (.loc 17)),(.cmp .Eq (.bin .Add (.loc 14) (.loc 15)) (.loc 18))]) [.aug 15 .Add (.loc 19)] [.gU (.loc 15) [.ex (.met (.loc 16) .append [(.tup [(.loc 13),(.loc 14),(.loc 15)])])] [],.Ek [13,14,15] [(.loc 17),(.loc 18),(.loc 19)]]],.gU (.loc 15) [.ex (.met (.loc 16) .append [(.tup [(.loc 13),(.loc 14),(.loc 15)])])] [],.ex (.met (.loc 16) .append [(.tup [(.loc 1),(.loc 2),(.k (.int 0))])]),.asg [(.lB (.loc 0) 4)] (.s9 aj .pQ (.loc 16)),.ret (.lB (.loc 0) 4)] (c_ H PP) ⟨OV (gF ks F lb H.length (H.length+1) y5 y6 y7 y8 y9 yq yr jY) 0 0 0 (H++[AO.list [],AO.list (T.map mD)]).length none none none,(H++[AO.list [],AO.list (T.map mD)])++[.list []]⟩:=by
 have E:=CP T (0,0,0);have C:2^20<=bw:=by decide
 have U:listAt (H++[AO.list [],AO.list (T.map mD)]) (H.length+1)=af (T.map mD):=Hz;have P:=bT hi [AO.list [],AO.list (T.map mD)];have D:WF (H++[AO.list [],AO.list (T.map mD)]):=by
  have:=WF.push (WF.push wf (o:=.list []) rfl rfl) (o:=.list (T.map mD)) rfl rfl;rw[bV] at this;exact this
 have z:H.length<=(H++[AO.list [],AO.list (T.map mD)]).length:=by rw[bU];exact dh _ _
 have hks:=Hr hi;generalize H++[AO.list [],AO.list (T.map mD)]=y at U P D z ⊢;refine ko (aP _ (cQ U _) ?_);refine jg (I:=Km ks F lb H.length y5 y6 y7 y8 y9 yq yr jY T y) ?_ ?_ _ _ ?_
 ·rintro l ⟨r,Z,V,O,N,M,L,rfl,S,W⟩;have L:r=[]:=List.map_eq_nil_iff.mp L.symm;subst L;have S:nJ (0,0,0) T=V++if Z.2.2=0 then [] else [Z]:=S;have w:(V.map bD).length=V.length:=bB _;refine HB (n:=n+37) (Kn ks F lb H.length y5 y6 y7 y8 y9 yq yr jY T y) ?_ λL=>?_
  ·rintro l ⟨i,j,k,O,N,M,rfl⟩;have t:((nJ (0,0,0) T).map bD).length=(nJ (0,0,0) T).length:=bB _;refine And.intro (cF bh) ?_;refine And.intro rfl ⟨n5 rfl,?_⟩;refine bO bh ?_;refine And.intro (by exact Z4 [.p V0 (.n 1),V1,.p V2 (.n 1),.n 64,V3,.p V2 (.n 1),.n (2^20),V1,V0,V3] (by kernel_rfl) v E C (Qe t)) ?_;rw[gh];refine aP ((nJ (0,0,0) T++[(F,lb,0)]).map bD) (bh.trans (bu af (by rw[c8];rfl))) ?_;have s:((nJ (0,0,0) T++[(F,lb,0)]).map mD).length<=bw:=by rw[bB,bU];exact le_size (by show _+1<100;exact Z2 [.p (.p V0 (.n 1)) (.n 1),.n 100,.p V1 (.n 1),.n 64,V0,.p V1 (.n 1)] rfl v E) (by decide)
   refine HA (K:=K+1) _ [] (by show 0+_<=_;rw[bU];show 0+(_+1)<=_;exact Z2 [.p (.n 0) (.p V0 (.n 1)),.n (2^20),.p V1 (.n 1),.n 64,V0,.p V1 (.n 1)] (by kernel_rfl) v E) (And.intro s ?_);refine bO (bL.mpr (bT (bT P _) _)) ?_;refine bO (dj (bT (bT P _) _)) ?_;refine And.intro rfl ?_;refine c_.wf (X:=(y++[AO.list _]++[AO.list ((nJ (0,0,0) T++[(F,lb,0)]).map mD)]).set ks _) (WF.set (WF.push (WF.push D rfl rfl) rfl rfl) (bT (bT P _) _) rfl ?_ (.inr rfl)) ?_ rfl (.inl rfl) ?_ (hp _ _ (gO bh ?_));·have q:=D.at P;simp[AO.lt,AV.lt] at q ⊢;exact⟨Z2 [.p V0 (.n 1),.p V1 (.n 2),.p V0 (.n 1),V1] rfl q.1,⟨Z2 [.p V0 (.n 1),.p V1 (.n 2),.p V0 (.n 1),V1] rfl q.2.1,Z2 [.p V0 (.n 1),.p V1 (.n 2),.p V0 (.n 1),V1] rfl q.2.2⟩⟩
   ·simp;exact Z2 [V0,.p V1 (.n 2),V0,V1] rfl z
   ·simp[AV.lt]
   ·simp;have:=Hr P;exact b8 (Z2 [.p V0 (.n 1),.p V1 (.n 1),.p V0 (.n 1),V1] rfl this)
  ·refine And.intro (λh=>?_) λh=>?_
   ·have h:(Z.2.2:aq)≠0:=bne_iff_ne.mp h;rw[aI λe=>h (by rw[e];rfl)] at S;refine And.intro (cF bh) ?_;refine And.intro rfl ⟨n5 rfl,?_⟩;refine bO bh ?_;refine And.intro (by exact Z4 [.p V0 (.n 1),V1,.n (2^20),V1,.p V2 V3,.n 64,V0,V2] (by kernel_rfl) C W (Qe w)) ?_;rw[gh];refine L _ ⟨(Z.1:ah),(Z.2.1:ah),(Z.2.2:ah),O,N,M,?_⟩;rw[S,c8];rfl
   ·have h:((Z.2.2:ah):aq)=0:=mR λq=>by rw[bne_iff_ne.mpr q] at h;cases h
    rw[aW (iz h),bY] at S;refine L _ ⟨(Z.1:ah),(Z.2.1:ah),(Z.2.2:ah),O,N,M,?_⟩;rw[S]
 ·rintro x xs l ⟨r,Z,V,O,N,M,L,rfl,S,W⟩ R m OR rr;obtain⟨Q,r,rfl,rfl,rfl⟩:∃a u,r=a::u/\x=mD a/\xs=u.map mD:=by induction r using aO with |nil=>cases L|cons a u=>cases L;exact bM a u rfl rfl rfl
  simp only[jE] at W;have w:(V.map bD).length=V.length:=bB _;have S:nJ (0,0,0) T=V++if Z.1+Z.2.2=Q.1/\Z.2.1+Z.2.2=Q.2.1 then nJ (Z.1,Z.2.1,Z.2.2+Q.2.2) r else (if Z.2.2=0 then [] else [Z])++nJ Q r:=S;have no:¬(Z.1+Z.2.2=Q.1/\Z.2.1+Z.2.2=Q.2.1)->∀Y,(Z.2.2=0/\Y=V)\/(Z.2.2≠0/\Y=V++[Z])->nJ (0,0,0) T=Y++nJ Q r/\Y.length+r.length<=64:=λq Y h=>by
   rw[aI q] at S;rcases h with ⟨h,rfl⟩|⟨h,rfl⟩;·rw[aW h] at S;exact⟨S,Z2 [.p V0 V1,.n 64,.p V0 (.p V1 (.n 1)),.n 64] rfl W⟩
   ·rw[aI h,<-bV] at S;exact⟨S,by simp;exact Z2 [.p (.p V0 (.n 1)) V1,.n 64,.p V0 (.p V1 (.n 1)),.n 64] rfl W⟩
  refine And.intro rfl ?_;refine And.intro (λJ=>?_) λJ=>?_
  ·have J:((Z.1:aq)+Z.2.2)=Q.1:=rF J;refine And.intro (λG=>?_) λG=>?_;·have G:((Z.2.1:aq)+Z.2.2)=Q.2.1:=rF G;rw[aW ⟨iz J,iz G⟩] at S;refine And.intro (λg=>?_) nofun;refine m _ (cQ U _) ⟨r,(Z.1,Z.2.1,Z.2.2+Q.2.2),V,_,_,_,rfl,rfl,S,Z2 [.p V0 V1,.n 64,.p V0 (.p V1 (.n 1)),.n 64] rfl W⟩
   ·have G:¬((Z.2.1:aq)+Z.2.2)=Q.2.1:=ug G;refine And.intro nofun λg=>?_;refine z_ (n:=n) (cur:=Z) (x2:=Q) (acc:=V) (H2:=y) (Z2 [V0,.n 64,.p V0 (.p V1 (.n 1)),.n 64] rfl W) λY h=>?_;exact m _ (cQ U _) ⟨r,Q,Y,_,_,_,rfl,rfl,(no (λe=>G (eU (bJ [_,_,_] [] 1 [] [.p (.c V0) (.c V1),.c V2,.c (.p V0 V1),.c V2] rfl (Qn (Qe e.2))) (bJ [_,_,_] [] 1 [] [.c V0,.p (.c V1) (.c V2),.c V0,.c (.p V1 V2)] rfl (Qn (Qf e.2))))) Y h).1,(no (λe=>G (eU (bJ [_,_,_] [] 1 [] [.p (.c V0) (.c V1),.c V2,.c (.p V0 V1),.c V2] rfl (Qn (Qe e.2))) (bJ [_,_,_] [] 1 [] [.c V0,.p (.c V1) (.c V2),.c V0,.c (.p V1 V2)] rfl (Qn (Qf e.2))))) Y h).2⟩
  ·have J:¬((Z.1:aq)+Z.2.2)=Q.1:=ug J;refine And.intro nofun λg=>?_;refine z_ (n:=n) (cur:=Z) (x2:=Q) (acc:=V) (H2:=y) (Z2 [V0,.n 64,.p V0 (.p V1 (.n 1)),.n 64] rfl W) λY h=>?_;exact m _ (cQ U _) ⟨r,Q,Y,_,_,_,rfl,rfl,(no (λe=>J (eU (bJ [_,_,_] [] 1 [] [.p (.c V0) (.c V1),.c V2,.c (.p V0 V1),.c V2] rfl (Qn (Qe e.1))) (bJ [_,_,_] [] 1 [] [.c V0,.p (.c V1) (.c V2),.c V0,.c (.p V1 V2)] rfl (Qn (Qf e.1))))) Y h).1,(no (λe=>J (eU (bJ [_,_,_] [] 1 [] [.p (.c V0) (.c V1),.c V2,.c (.p V0 V1),.c V2] rfl (Qn (Qe e.1))) (bJ [_,_,_] [] 1 [] [.c V0,.p (.c V1) (.c V2),.c V0,.c (.p V1 V2)] rfl (Qn (Qf e.1))))) Y h).2⟩
 ·exact⟨T,(0,0,0),[],_,_,_,rfl,rfl,rfl,by simp;exact Z1 [V0,.n 64,.p V0 (.n 1),.n 64] rfl v⟩
theorem LG{ks:ah}{A B:aa ai}{T:aa gR}(hs:uu H ks A B)(hT:Jo A B (0,A.length,0,B.length) T)(hl:A.length<64/\B.length<2^20)(hu:∀(p q:ah)(x:ai),dc x=aC->B[p]?=af x->B[q]?=af x->p=q)(hp:∀X p,listAt X p=af ((nJ (0,0,0) T++[(A.length,B.length,0)]).map mD)->PP (.ref p) X):Fn (K+4) 203 [.ref ks] H PP:=by
 refine NY.use NZ rfl λwf=>?_;have hs0:=hs;obtain⟨kb,kj,kp,D,o,J,oj,hi,hb,hj,hjn,hnm,hJ⟩:=hs;have hla:=bA A;have hlb:=bA B;have hsz:2^20<=bw:=by decide
 refine bO (bL.mpr hi) ?_;refine And.intro rfl ?_;refine And.intro nofun λø=>?_;refine bO (bL.mpr hi) ?_;refine And.intro rfl ?_;refine And.intro (by exact Z2 [.p V0 (.n 1),.n (2^62),.p V1 (.n 1),.n 64,V0,V1] (by kernel_rfl) hl.1 (Qe hla)) ?_;refine bO (bL.mpr hi) ?_;refine And.intro rfl ?_;refine And.intro (by exact Z2 [.p V0 (.n 1),.n (2^62),.p V1 (.n 1),.n (2^20),V0,V1] (by kernel_rfl) hl.2 (Qe hlb)) ?_;refine And.intro (n5 rfl) ⟨rfl,?_⟩;refine And.intro rfl ⟨n5 rfl,?_⟩;refine And.intro rfl ⟨n5 rfl,?_⟩;refine And.intro rfl ⟨n5 rfl,?_⟩;have e1:((aT A).length:aq)=(A.length:ah):=by rw[hla]
 have e2:((aT B).length:aq)=(B.length:ah):=by rw[hlb]
 rw[e1,e2];have C:T.length<64:=by
  (refine cz hT λG ns w t=>?_;clear hT);have h1:=t.Ma.len (k:=0) (bW _) (λb ø=>bW _);have h2:=w.a.len;have h3:=p_ (·.1) G ns w.gn.len;change _=wd l1 G at h3;unfold DZ at h1;dsimp only at h1 h2;exact Z7 [.p V0 (.n 1),.n 64,.p V1 (.n 1),.n 64,V0,V2,V3,V4,V5,.p V3 (.n 1),V2,.p (.n 0) V6,V4,V1,.p V6 (.n 1),V5] rfl hl.1 h1 (Qe h2) (Qf h3) Q0 Q0 (Q2 (Z2 [.n 1,V0,.p V1 (.n 1),V0] rfl (Qe h3)))
 refine D5 (n:=53) (I:=OW H ks A B T) (m:=2*T.length+1) (OX H ks A B T) ?_ ?_ ?_
 ·rintro σ ⟨y,s,l,j,i,g,S,Q,P,rfl,Z⟩;(refine cz hT λG ns hG z=>?_;clear hT);have hin:=z.Ma;refine bq (D7 Z hin) λUk Ul=>?_;have f:(y.map mD).length=T.length:=by rw[bB,Z.length_eq]
  refine And.intro (D6 Hz) ?_;refine bO Hz ?_;refine And.intro ⟨Z2 [.p V0 (.n 1),.n 64,.p V1 (.n 1),.n 64,V0,V1] rfl C (Qe f),List.all_eq_true.mpr λx hx=>by(refine aQ (gP hx) λb ø L=>?_;subst L);rfl,Uk⟩ λl' h1 h2=>?_;rw[Ul l' h1 h2,Kl];refine And.intro rfl ⟨by decide,?_⟩;exact HC (n:=11) (y5:=s) (y6:=l) (y7:=j) (y8:=i) (y9:=g) (yq:=S) (yr:=Q) (jY:=P) wf hi C hp
 ·refine⟨[((0,A.length,0,B.length),T)],[],none,none,none,none,none,none,none,none,?_,λw hw=>?_,?_,?_,bf _⟩
  ·have e3:(H++[AO.list [wD (0,A.length,0,B.length)]]).length=H.length+1:=by simp
   refine congr (bu AS.mk ?_) (bV ..);rw[<-e3];rfl
  ·rw[g_ hw];exact hT
  ·simp
  ·simp
 ·intro N hn m σ hI R hR;obtain⟨e,y,s,l,j,i,g,S,Q,P,rfl,hw,Z,rfl,hm⟩:=hI;have R0:=Jp e;conv=>whnf
  rw[yt];have hml:(e.map λw=>wD w.1).length=e.length:=bB _;refine And.intro (by exact lY [_,_,_,_,_] 1 [2] [.p V0 (.n 1),.n (2^62),.p V1 (.n 1),.n 64,.p V2 V3,.p (.m 2 V1) (.n 1),V4,V2,V0,V4] (by kernel_rfl) C hm R0 (Qe hml)) ⟨λh=>?_,λh=>?_⟩
  ·obtain⟨r,⟨w,T1⟩,rfl⟩:∃r x,e=r++[x]:=by
    rcases List.eq_nil_or_concat e with rfl|⟨r,x,rfl⟩;·cases h
    ·exact kZ r x (by simp)
   obtain⟨Y,V,W,U⟩:=w;refine cz (hw ((Y,V,W,U),T1) (by simp)) λG ns hG z=>?_;change yp A B Y V W U G ns at hG;change Tr Y W G T1 at z;refine PK (Hh hG z) λb bi bj bs' e1 e2 hfl F=>?_;have E:((r++[((Y,V,W,U),T1)]).map λw:Wn×aa gR=>2*w.2.length+1).sum=(r.map λw=>2*w.2.length+1).sum+(2*T1.length+1):=by simp
   rw[E] at hm;refine And.intro (Hx yt) ?_;refine bO yt ?_;refine And.intro (by lia) (cG (r.map λw=>wD w.1) (wD (Y,V,W,U)) (by simp) ?_);rw[CO];refine And.intro rfl ?_;refine And.intro (jw (bT hi _)) ?_;refine LC (hs0.app _) ⟨by exact Z1 [.p V0 (.n 1),.n (2^20),.p V0 (.n 1),.n 64] (by kernel_rfl) hl.1,hl.2⟩ (LD hG hu) hfl ?_;refine And.intro rfl ?_;refine And.intro (λh=>?_) λh=>?_
   ·have h:(b.2.2:aq)≠0:=bne_iff_ne.mp h;(refine bq (F.resolve_left λq=>h (by rw[q.1];rfl)) λhpos L=>PL L λO M Gl nl Gr nr K6 w1 t1 w2 t2=>?_;subst K6);have leaf:∀(v u:aa (Wn×aa gR)) (Qd Md:aa DV) (s l j i g S Q P:aA AV),Qd=(r++v++u).map (λw=>wD w.1)->Md=(y++[b]).map mD->((v=[]/\O=[])\/v=[((Y,b.1,W,b.2.1),O)])->((u=[]/\M=[])\/u=[((b.1+b.2.2,V,b.2.1+b.2.2,U),M)])->R .next ⟨gF ks A.length B.length H.length (H.length+1) s l j i g S Q P,H++[.list Qd,.list Md]⟩:=by
     rintro v u Qd Md s l j i g S Q P rfl rfl d hrs;have fl:(v.map (·.2)).flatten=O:=by
      rcases d with ⟨rfl,rfl⟩|rfl;·rfl
      ·simp
     have fr:(u.map (·.2)).flatten=M:=by
      rcases hrs with ⟨rfl,rfl⟩|rfl;·rfl
      ·simp
     have sl:(v.map λw=>2*w.2.length+1).sum<=2*O.length+1:=by rcases d with ⟨rfl,rfl⟩|rfl<;>simp
     have sr:(u.map λw=>2*w.2.length+1).sum<=2*M.length+1:=by rcases hrs with ⟨rfl,rfl⟩|rfl<;>simp
     have lT:(O++b::M).length=O.length+M.length+1:=by simp;exact lZ [.p V0 (.p V1 (.n 1)),.p (.p V0 V1) (.n 1)] rfl
     refine hR (((r++v++u).map λw=>2*w.2.length+1).sum) _ ?_ ⟨r++v++u,y++[b],s,l,j,i,g,S,Q,P,rfl,λx hx=>?_,?_,rfl,?_⟩;·rw[E,lT];simp only[c8,List.sum_append];exact lY [_,_,_,_,_] 2 [2,2] [.p (.p (.p V0 V1) V2) (.n 1),.p V0 (.p (.m 2 (.p (.p V3 V4) (.n 1))) (.n 1)),V1,.p (.m 2 V3) (.n 1),V2,.p (.m 2 V4) (.n 1)] rfl sl sr
     ·rcases d9 hx with hx|hx
      ·rcases d9 hx with hx|hx;·exact hw x (jD _ hx)
       ·rcases d with ⟨rfl,_⟩|rfl;·cases hx
        ·rw[g_ hx];exact cG Gl nl w1 t1
      ·rcases hrs with ⟨rfl,_⟩|rfl;·cases hx
       ·rw[g_ hx];exact cG Gr nr w2 t2
     ·refine List.Perm.trans ?_ Z;simp only[c8,List.flatten_append,fl,fr,ek,List.map_nil,List.flatten_cons,List.flatten_nil,bY,bV];refine List.Perm.append_left _ ?_;have p1:(b::((r.map (·.2)).flatten++(O++M))).Perm ((r.map (·.2)).flatten++(O++b::M)):=by
       rw[<-bV _ O M,<-bV _ O (b::M)];exact List.perm_middle.symm
      exact p1
     ·rw[lT] at hm;simp only[c8,List.sum_append,bU,List.length_singleton];exact lY [_,_,_,_,_,_,_] 2 [2,2,2] [.p (.p (.p V0 V1) V2) (.p V3 (.n 1)),.p (.m 2 V4) (.n 1),.p (.p V0 (.p (.m 2 (.p (.p V5 V6) (.n 1))) (.n 1))) V3,.p (.m 2 V4) (.n 1),V1,.p (.m 2 V5) (.n 1),V2,.p (.m 2 V6) (.n 1)] rfl hm sl sr
    have Um:(r++[((Y,V,W,U),O++b::M)]).length=r.length+1:=by simp
    have Un:(r.map λw=>wD w.1).length=r.length:=bB _;have f:(y.map mD).length=y.length:=bB _;refine And.intro (cF Hz) ?_;refine bO Hz ?_;refine And.intro (by exact lY [_,_,_,_,_,_] 1 [1,2] [.p V0 (.n 1),V1,.n (2^20),V1,.p V2 (.n 1),.n 64,.p (.p V3 (.p (.m 2 V4) (.n 1))) V5,.p (.m 2 V2) (.n 1),V0,V5] (by kernel_rfl) hsz C hm (Qe f)) ?_;rw[Kl];refine LF (n:=26) (a5:=Y) (a6:=V) (a7:=W) (a8:=U) (a9:=b.1) (BV:=b.2.1) (BW:=b.2.2) (λc1 c2=>?_) λc=>?_
    ·refine And.intro (cF yt) ?_;refine And.intro rfl ⟨n5 rfl,?_⟩;refine bO yt ?_;refine And.intro (by lia) ?_;rw[CO];refine Hw (n:=25) (a5:=Y) (a6:=V) (a7:=W) (a8:=U) (a9:=b.1) (BV:=b.2.1) (BW:=b.2.2) (λc3 c4=>?_) λc=>?_
     ·refine And.intro (cF yt) ?_;refine And.intro rfl ⟨n5 rfl,?_⟩;refine bO yt ?_;refine And.intro (by rw[bU,Un];exact dg (by show r.length+1<2^20;lia) hsz) ?_;rw[CO];exact leaf [((Y,b.1,W,b.2.1),O)] [((b.1+b.2.2,V,b.2.1+b.2.2,U),M)] _ _ _ _ _ _ _ _ _ _ (by simp only[bY,c8];rfl) (by simp only[bY,c8];rfl) (.inr rfl) (.inr rfl)
     ·exact leaf [((Y,b.1,W,b.2.1),O)] [] _ _ _ _ _ _ _ _ _ _ (by simp only[bY,c8];rfl) (by simp only[bY,c8];rfl) (.inr rfl) (.inl ⟨rfl,w2.nil t2 (Pu c)⟩)
    ·refine Hw (n:=25) (a5:=Y) (a6:=V) (a7:=W) (a8:=U) (a9:=b.1) (BV:=b.2.1) (BW:=b.2.2) (λc3 c4=>?_) λc'=>?_
     ·refine And.intro (cF yt) ?_;refine And.intro rfl ⟨n5 rfl,?_⟩;refine bO yt ?_;refine And.intro (by lia) ?_;rw[CO];exact leaf [] [((b.1+b.2.2,V,b.2.1+b.2.2,U),M)] _ _ _ _ _ _ _ _ _ _ (by simp only[bY,c8];rfl) (by simp only[bY,c8];rfl) (.inl ⟨rfl,w1.nil t1 (Pu c)⟩) (.inr rfl)
     ·exact leaf [] [] _ _ _ _ _ _ _ _ _ _ (by simp) (by simp only[bY,c8];rfl) (.inl ⟨rfl,w1.nil t1 (Pu c)⟩) (.inl ⟨rfl,w2.nil t2 (Pu c')⟩)
   ·have h:b.2.2=0:=by
     have:((b.2.2:ah):aq)=0:=mR λq=>by rw[bne_iff_ne.mpr q] at h;cases h
     exact iz this
    (refine bq (F.resolve_right λq=>fN q.1 h) λø L=>?_;subst L);exact hR ((r.map λw=>2*w.2.length+1).sum) _ (by rw[E];exact Z2 [.p V0 (.n 1),.p V0 (.p (.m 2 V1) (.n 1))] rfl) ⟨r,y,_,_,_,_,_,_,_,_,rfl,λx hx=>hw x (jD _ hx),by simpa using Z,rfl,Z4 [.p V0 V1,.p (.m 2 V2) (.n 1),.p (.p V0 (.p (.m 2 V3) (.n 1))) V1,.p (.m 2 V2) (.n 1)] rfl hm⟩
  ·have:e=[]:=by induction e using aO with|nil=>rfl|cons=>cases h
   subst this;rw[List.map_nil,List.flatten_nil,bY] at Z;exact hn _ ⟨y,s,l,j,i,g,S,Q,P,rfl,Z⟩
end
noncomputable abbrev eS:ai:=""
theorem yu:("/":ai)=⟨#[47]⟩:=by rfl
theorem R1:("///":ai).cps.toList=[47,47,47]:=by rfl
theorem R2:("/":ai).cps.toList=[47]:=by rfl
structure HV(ps:aa ai):Prop where
 ne:ps≠[]len:ps.length<=100
 le:∀p∈ps,p.length<=100
 free:∀p∈ps,47∉p.cps.toList
theorem yv{Z:aa ai}(h:∀p∈Z,p.length<=100):(Z.map (·.length)).sum<=Z.length*100:=by induction Z with|nil=>exact bf _|cons p Z Y=>
  have X:=Y λq W=>h q (.tail _ W);have V:=h p (.head _);exact Z3 [.p V0 V1,.r 100 (.p V2 (.n 1)),V1,.r 100 V2,V0,.n 100] rfl X V
theorem join_le{Z:aa ai}(Y:Z.length<=110)(h:∀p∈Z,p.length<=100):(bX ("/":ai) Z).length<=12000:=by
 have X:=StrLaws.join_length_le ("/":ai) Z;have W:=yv h;have V:("/":ai).length=1:=rfl;exact lY [_,_,_] 1 [101] [V0,.n 12000,V1,.n 110,V0,.p V2 (.r 1 V1),V2,.r 100 V1] rfl Y X W
theorem v8{X:aa AO}{l:aa DV}:qM (X++[.list l]) (.ref X.length)=af l:=bh
theorem len_str(x:ai):x.cps.toList.length=x.length:=rfl
theorem nZ(x y:ai):(x++y).cps.toList=x.cps.toList++y.cps.toList:=by rw[Str.cps_append,Array.toList_append]
theorem fH{Z:aa ai}(h:Z≠[]):(bX ("/":ai) (""::Z)).cps.toList=47::(bX ("/":ai) Z).cps.toList:=by
 (refine lW (List.exists_cons_of_ne_nil h) λq r Y=>?_;subst Y);rw[yu,vV];rfl
theorem LH{Z:aa ai}(h:Z≠[]):("///":ai)++bX ("/":ai) Z=bX ("/":ai) (""::""::""::Z):=by
 refine rG ?_;rw[nZ,R1,fH (by simp),fH (by simp),fH h];rfl
inductive OY(H:aa AO)(ps:aa ai)(xs:aa DV)(σ:AS):Prop|mk(d r:aa ai)(y8:aA AV):eS::eS::ps=d++r->xs=r.map .str->σ=⟨[af (.d (.str (bX ("/":ai) (eS::eS::ps)))),af (.d (.str "/")),af (.d (.str ".")),af (.d (.str "..")),af (.d (.str "")),af (.d (.str "/")),af (.d (.lst ((eS::eS::ps).map .str))),af (.ref H.length),y8,none,none,none,none],H++[.list (aT (d.filter λp=>!dc p))]⟩->OY H ps xs σ
section
variable{K:ah}{H:aa AO}{PP:AV->aa AO->Prop}
theorem yw{p q:ai}{r:aa ah}(Y:p.cps.toList=47::47::47::r)(U:q.cps.toList=47::47::r)(T:p.length<=2^20)(S:PP (.d (.tup [.str "",.str "/",.str q])) H):Fn (K+2) 370 [.d (.str p)] H PP:=by
 refine Oa.use Ob rfl λR=>?_;have W:2^20<=bw:=by decide
 have Z:p.length=r.length+3:=by rw[<-len_str,Y];rfl
 have Q:qN p none (af 1)="/":=rG (by rw[show (1:aq)=((1:ah):aq) from rfl,I9,Y];rfl);have P:qN p (af 1) (af 2)="/":=rG (by rw[show (1:aq)=((1:ah):aq) from rfl,show (2:aq)=((2:ah):aq) from rfl,zV p 1 2 (by decide) (Z2 [.n 2,V0,.p V1 (.n 3),V0] rfl (Qf Z)) (Z3 [.p V0 (.n 1),V1,.p V2 (.n 3),V1,.p V0 (.n 1),.n 2] rfl (Qf Z) (Q2 (Z0 [.n 1,.n 2] rfl))),Y];rfl);have O:qN p (af 2) (af 3)="/":=rG (by rw[show (2:aq)=((2:ah):aq) from rfl,show (3:aq)=((3:ah):aq) from rfl,zV p 2 3 (by decide) (Z2 [.n 3,V0,.p V1 (.n 3),V0] rfl (Qf Z)) (Z3 [.p V0 (.n 1),V1,.p V2 (.n 3),V1,.p V0 (.n 2),.n 3] rfl (Qf Z) (Q2 (Z0 [.n 2,.n 3] rfl))),Y];rfl);refine And.intro (by decide) ?_;refine qZ ?_;refine And.intro rfl ?_;refine And.intro nofun λX=>?_;conv=>whnf
 rw[Q];refine And.intro ⟨rfl,by decide⟩ ?_;refine And.intro (λh=>aJ rfl (Ka h)) λX=>?_;conv=>whnf
 rw[P];refine And.intro ⟨rfl,by decide⟩ ?_;refine And.intro (λX=>?_) λh=>aJ rfl (Ka h);conv=>whnf
 rw[O];refine And.intro ⟨rfl,by decide⟩ ?_;refine And.intro (λh=>aJ rfl (ug h)) λX=>?_;refine And.intro (λX=>?_) nofun;conv=>whnf
 rw[(rG (by rw[show (1:aq)=((1:ah):aq) from rfl,DW,Y,U];rfl):qN p (af 1) none=q)];have V:q.length=r.length+2:=by rw[<-len_str,U];rfl
 refine And.intro ⟨rfl,by exact Z4 [V0,V1,V2,.n (2^20),.n (2^20),V1,.p V3 (.n 3),V2,V0,.p V3 (.n 2)] (by kernel_rfl) T W (Qf Z) (Qe V)⟩ ?_;refine And.intro rfl ⟨n5 rfl,?_⟩;exact c_.same (e:=[]) R (by simp) S
def uv(p:ai):Prop:=dc p=aC->p≠".."
theorem rz{Z:aa ai}(W:HV Z)(u:∀p∈Z,uv p)(hp:PP (.d (.str (("/":ai)++bX ("/":ai) (Z.filter λp=>!dc p)))) H):Fn (K+3) 377 [.d (.str (bX ("/":ai) (eS::eS::eS::Z)))] H PP:=by
 refine Oc.use Od rfl λt=>?_;have T:2^20<=bw:=by decide
 have w:(bX ("/":ai) (eS::eS::eS::Z)).cps.toList=47::47::47::(bX ("/":ai) Z).cps.toList:=by rw[fH (by simp),fH (by simp),fH W.ne]
 have v:(bX ("/":ai) (eS::eS::Z)).cps.toList=47::47::(bX ("/":ai) Z).cps.toList:=by rw[fH (by simp),fH W.ne]
 have X:=join_le (by have:=W.len;exact Z1 [V0,.n 110,V0,.n 100] rfl this) W.le;have E:(bX ("/":ai) (eS::eS::eS::Z)).length=(bX ("/":ai) Z).length+3:=by rw[<-len_str,w];rfl
 have l2:(bX ("/":ai) (eS::eS::Z)).length=(bX ("/":ai) Z).length+2:=by rw[<-len_str,v];rfl
 have s:Txt.split (bX ("/":ai) (eS::eS::Z)) "/"=eS::eS::Z:=by
  rw[yu];refine um (by simp) λp hp=>?_;rcases gq hp with rfl|hp;·exact nofun
  ·rcases gq hp with rfl|hp;·exact nofun
   ·exact W.free p hp
 refine And.intro (by decide) ?_;refine qZ ?_;refine And.intro rfl ?_;refine And.intro nofun λS=>?_;refine And.intro (by exact Z2 [.p V0 (.n 1),.n (2^62),V1,.n 12000,V0,.p V1 (.n 3)] (by kernel_rfl) X (Qe E)) ?_;refine And.intro (λh=>?_) λS=>?_
 ·exfalso;rw[E] at h;have q:(((bX ("/":ai) Z).length+3:ah):aq)≠0:=by exact Int.ne_of_gt (bJ [_] [] 1 [] [.p (.n 0) (.n 1),.c (.p V0 (.n 3))] rfl)
  have h:(!((((bX ("/":ai) Z).length+3:ah):aq) !=0))=aj:=h;rw[bne_iff_ne.mpr q] at h;cases h
 refine And.intro (by decide) ?_;refine yw w v (by exact Z2 [V0,.n (2^20),V1,.n 12000,V0,.p V1 (.n 3)] (by kernel_rfl) X (Qe E)) ?_;refine And.intro rfl ?_;refine And.intro rfl ?_;conv=>whnf
 rw[s];have Q:=W.len;refine And.intro ⟨by decide,by exact Z3 [V0,V1,.n (2^20),V1,V2,.n 12000,V0,.p V2 (.n 2)] (by kernel_rfl) T X (Qe l2),by simp;exact Z2 [.p (.p V0 (.n 1)) (.n 1),V1,.n (2^20),V1,V0,.n 100] (by kernel_rfl) T Q⟩ ?_;refine And.intro rfl ⟨by decide,?_⟩;refine ko (aP _ rfl ?_);have D:∀x∈eS::eS::Z,x.length<=100/\uv x:=λx hx=>by
  rcases gq hx with rfl|hx;·exact⟨bW _,nofun⟩
  ·rcases gq hx with rfl|hx;·exact⟨bW _,nofun⟩
   ·exact⟨W.le x hx,u x hx⟩
 have C:(eS::eS::Z).filter (λp=>!dc p)=Z.filter λp=>!dc p:=by rw[iC,aI (by decide),iC,aI (by decide)]
 refine jg (I:=OY H Z) ?_ ?_ _ _ ?_
 ·rintro o ⟨d,r,m,M,L,rfl⟩;have L:r=[]:=List.map_eq_nil_iff.mp L.symm;subst L;rw[bY] at M;rw[<-M,C];have J:∀p∈Z.filter (λp=>!dc p),p.length<=100:=λp hp=>W.le p (List.mem_filter.mp hp).1;have V:(Z.filter λp=>!dc p).length<=100:=br (wI _ _) Q;have l:=yv J;have X:=join_le (Z1 [V0,.n 110,V0,.n 100] rfl V) J;have P:(("/":ai)++bX ("/":ai) (Z.filter λp=>!dc p)).length=(bX ("/":ai) (Z.filter λp=>!dc p)).length+1:=by rw[Str.length_append];exact iE _ _
  refine And.intro rfl ?_;conv=>whnf
  rw[v8];refine cy (Z.filter λp=>!dc p) rfl (by show _+_*1<=16777216;exact lY [_,_] 1 [101] [.p V0 (.r 1 V1),.n 16777216,V1,.n 100,V0,.r 100 V1] (by kernel_rfl) V l) ?_;refine And.intro (by rw[<-Str.length_append,P];exact Z2 [.p V0 (.n 1),V1,.n (2^20),V1,V0,.n 12000] (by kernel_rfl) T X) ?_;refine And.intro (by exact Z2 [.p V0 (.n 1),.n (2^62),V1,.n 12000,V0,.p V1 (.n 1)] (by kernel_rfl) X (Qe P)) ⟨λS=>c_.same (e:=[_]) t rfl hp,λh=>?_⟩;rw[P] at h;exact aJ h (by rw[bne_iff_ne.mpr (by exact Int.ne_of_gt (bJ [_] [] 1 [] [.p (.n 0) (.n 1),.c (.p V0 (.n 1))] rfl))];decide)
 ·rintro x k o ⟨d,r,m,M,L,rfl⟩ R j G i;obtain⟨e,r,rfl,rfl,rfl⟩:∃e F,r=e::F/\x=.str e/\k=F.map .str:=by induction r using aO with |nil=>cases L|cons a F=>cases L;exact bM a F rfl rfl rfl
  refine bq (D e (by rw[M];simp)) λB A=>?_;have O:eS::eS::Z=(d++[e])++r:=by rw[M,bV];rfl
  have U:dc e=aj->(d++[e]).filter (λp=>!dc p)=d.filter λp=>!dc p:=λh=>by rw[r6,iC,aI (by rw[h];decide)];exact bY _
  have y:(aT (d.filter λp=>!dc p)).length<=102:=by
   rw[bA];refine br (wI _ _) ?_;have:=bu gW M;simp at this;exact Z3 [V0,.n 102,V1,.n 100,.p V0 (.p V2 (.n 1)),.p (.p V1 (.n 1)) (.n 1)] rfl Q (Qf this)
  refine And.intro (er B (by decide)) ⟨λY=>?_,λY=>?_⟩
  ·have Y:e≠"":=λq=>by rw[q] at Y;cases Y
   refine And.intro (λN=>?_) λN=>?_
   ·have N:¬e=".":=ug N;have X:dc e=aC:=by unfold dc;rw[gA Y,gA N];rfl
    refine And.intro nofun λS=>?_;refine And.intro (λh=>aJ (OS h) (A X)) λS=>?_;refine And.intro (λS=>?_) nofun;refine And.intro (cF bh) ?_;refine bO bh ?_;refine And.intro (er y (by decide)) ?_;rw[gh];refine j _ trivial ⟨d++[e],r,af (.d (.str e)),O,rfl,?_⟩;rw[r6,iC,aW (by rw[X];rfl),aT,aT,c8];rfl
   ·have N:e=".":=rF N;refine And.intro (λS=>?_) nofun;refine G _ trivial ⟨d++[e],r,af (.d (.str e)),O,rfl,?_⟩;rw[U (by rw[N];rfl)];rfl
  ·have Y:e="":=by
    refine mR λq=>?_;have:((e.length:ah):aq)≠0:=λz=>q (rG (List.length_eq_zero_iff.mp (by rw[len_str];exact iz z)));have Y:(!((e.length:aq) !=0))=aj:=Y;rw[bne_iff_ne.mpr this] at Y;cases Y
   refine And.intro (λS=>?_) nofun;refine G _ trivial ⟨d++[e],r,af (.d (.str e)),O,rfl,?_⟩;rw[U (by rw[Y];rfl)];rfl
 ·exact⟨[],_,_,rfl,rfl,rfl⟩
end
theorem BX{F:Fc}{n:ah}{c elt:IE}{g:DV->aH}{f:DV->DV}{H:aa AO}{P:aa DV->AS->Prop}{L:aA AV->aa (aA AV)}(X:∀a b,(L a).set 1 b=L b):∀(xs acc:aa DV)(a:aA AV),(∀x∈xs,∀acc Q,Q (g x) ⟨L (af (.d x)),H++[.list acc]⟩->VT F n c Q ⟨L (af (.d x)),H++[.list acc]⟩)->(∀x∈xs,∀acc Q,Q (.d (f x)) ⟨L (af (.d x)),H++[.list acc]⟩->VE F n elt Q ⟨L (af (.d x)),H++[.list acc]⟩)->acc.length+xs.length<=bw->(∀a,P (acc++(xs.filter g).map f) ⟨L a,H++[.list (acc++(xs.filter g).map f)]⟩)->qO (rD [1]) (λQ σ=>VT F n c Q σ) (VE F n elt) H xs acc P ⟨L a,H++[.list acc]⟩:=by
 intro xs;induction xs with |nil=>exactλacc a S S Z W=>⟨rfl,by have:=W a;simpa using this⟩|cons x xs T=>
  intro acc a V U Z W;refine⟨rfl,?_⟩;show VT F n c _ ⟨(L a).set 1 _,_⟩;rw[X];refine V x (.head _) acc _ ⟨λh=>?_,λh=>?_⟩;·refine U x (.head _) acc _ (lX (f x) rfl (by simp at Z;exact Z3 [.p V0 (.n 1),V1,.p V0 (.p V2 (.n 1)),V1] rfl Z) rfl ?_);refine T (acc++[f x]) _ (λy Y=>V y (.tail _ Y)) (λy Y=>U y (.tail _ Y)) (by simp at Z ⊢;exact Z3 [.p (.p V0 (.n 1)) V1,V2,.p V0 (.p V1 (.n 1)),V2] rfl Z) λa=>?_;have:=W a;rw[iC,aW h] at this;simpa using this
  ·refine T acc _ (λy Y=>V y (.tail _ Y)) (λy Y=>U y (.tail _ Y)) (by simp at Z ⊢;exact Z3 [.p V0 V1,V2,.p V0 (.p V1 (.n 1)),V2] rfl Z) λa=>?_;have:=W a;rw[iC,aI (by rw[h];decide)] at this;exact this
theorem HD{F:Fc}{n:ah}{elt:IE}{H:aa AO}{P:AS->Prop}{L:aA AV->aa (aA AV)}(Z:∀a b,(L a).set 1 b=L b):∀(xs:aa DV)(o:aR)(a:aA AV),(∀x∈xs,∀o Q,Q (.d (.bool aj)) ⟨L (af (.d x)),H++[.obj o]⟩->VE F n elt Q ⟨L (af (.d x)),H++[.obj o]⟩)->(∀a o,P ⟨L a,H++[.obj o]⟩)->yQ (rD [1]) (VE F n elt) H xs o P ⟨L a,H++[.obj o]⟩:=by
 intro xs;induction xs with |nil=>exactλo a T Y=>⟨rfl,Y a o⟩|cons x xs W=>
  intro o a X Y;refine⟨rfl,?_⟩;show VE F n elt _ ⟨(L a).set 1 _,_⟩;rw[Z];exact X x (.head _) o _ ⟨rfl,rfl,λV=>W V _ (λy U=>X y (.tail _ U)) Y⟩
theorem LI{K:ah}{H:aa AO}{P:aa DV->Prop}:∀(l acc:aa ai),acc.length+l.length<=2^20->P (aT (acc++l))->yO (yP (FJ (K+2)) 356 []) H (aT l) (aT acc) P:=by
 intro l;induction l with|nil=>exactλacc X h=>by rw[bY] at h;exact h|cons b l Y=>
  intro acc Z h;refine qZ ⟨rfl,_,rfl,?_,?_⟩;·rw[bA];exact dg (by exact Z2 [.p V0 (.n 1),.n (2^20),.p V0 (.p V1 (.n 1)),.n 1048576] (by kernel_rfl) Z:acc.length<2^20) (by decide)
  ·have:=Y (acc++[b]) (by simp at Z ⊢;exact Z2 [.p (.p V0 (.n 1)) V1,.n 1048576,.p V0 (.p V1 (.n 1)),.n 1048576] (by kernel_rfl) Z) (by rw[bV];exact h);rw[show aT (acc++[b])=aT acc++[.str b] from c8] at this;exact this
theorem Aa(gt:aH):∀(l:aa (aa ai))(b:aa ai),fD gt b l∈b::l:=by
 intro l;induction l with |nil=>exactλb=>.head _|cons x l Z=>
  intro b;have:=Z (if jm gt x b then x else b);rcases gq this with h|h
  ·rw[h];split;·exact .tail _ (.head _)
   ·exact .head _
  ·exact .tail _ (.tail _ h)
noncomputable def px(Z:aa ai):ai:=bX ("/":ai) (eS::eS::eS::Z)
noncomputable def nj(Z:aa ai):aa ai:=Z.filter λp=>!dc p
theorem nO{Z:aa ai}(h:HV Z):Txt.split (px Z) "/"=eS::eS::eS::Z/\(px Z).length<=13000/\Txt.startswith (px Z) "/"=aj/\nj (eS::eS::eS::Z)=nj Z:=by
 have Y:(px Z).cps.toList=47::47::47::(bX ("/":ai) Z).cps.toList:=by unfold px;rw[fH (by simp),fH (by simp),fH h.ne]
 refine⟨?_,?_,?_,?_⟩
 ·unfold px;rw[yu];refine um (by simp) λp hp=>?_;rcases gq hp with rfl|hp;·exact nofun
  ·rcases gq hp with rfl|hp;·exact nofun
   ·rcases gq hp with rfl|hp;·exact nofun
    ·exact h.free p hp
 ·have:(px Z).length=(bX ("/":ai) Z).length+3:=by rw[<-len_str,Y];rfl
  exact Z2 [V0,.n 13000,V1,.n 12000,V0,.p V1 (.n 3)] rfl (join_le (by have:=h.len;exact Z1 [V0,.n 110,V0,.n 100] rfl this) h.le) (Qe this)
 ·refine bq ((StrLaws.subAt_one (px Z) 47 0).mpr (by rw[Y];rfl)) λX W=>?_;show (decide (0+("/":ai).length<=(px Z).length)&&Builtin.Str.subAt (px Z) "/" 0)=aj;rw[eF (show 0+("/":ai).length<=(px Z).length from X),v_];exact W
 ·unfold nj;rw[iC,aI (by decide),iC,aI (by decide),iC,aI (by decide)]
theorem LJ{A:DV->(AS->Prop)->AS->Prop}{B:(Fl->AS->Prop)->AS->Prop}{W:AS->Prop}{P:Fl->AS->Prop}(J:AS->Prop)(V:∀σ,J σ->P .next σ)(I:aa DV->AS->Prop)(X:∀σ,I [] σ->J σ)(Y:(∀σ,J σ->P .next σ)->∀x r σ,I (x::r) σ->(∀Z,I r Z->forL A B W r P Z)->forL A B W (x::r) P σ)(xs:aa DV)(σ:AS)(h:I xs σ):forL A B W xs P σ:=Hi I (λσ h=>V σ (X σ h)) (Y V) xs σ h
noncomputable def oh(d:DV):aH:=match d with|.str s=>!dc s|_=>aC
noncomputable def OZ(x:DV):DV:=match x with|.str s=>.lst (aT (Txt.split s "/"))|_=>.none
noncomputable def R3(x:DV):DV:=match x with|.lst l=>.lst (l.filter oh)|_=>.none
theorem yx(Z:aa ai):(aT Z).filter oh=aT (nj Z):=by rw[List.filter_map];rfl
inductive O0(H:aa AO)(s1 s2:aa ai)(d:ah)(σ:AS):Prop|mk(y0 y3 x5 x9:aA AV)(E:aa AO):σ=⟨[y0,af (.d (.str "/")),af (.d (.str ".")),y3,af (.d (.bool aj)),x5,af (.d (.lst (aT s1))),af (.d (.lst (aT s2))),af (.d (.lst (aT (s1.take d)))),x9,none,none,none,none,none,none,none,none,none,none,none,none,none],H++E⟩->O0 H s1 s2 d σ
inductive O1(H:aa AO)(s1 s2:aa ai)(d:ah)(xs:aa DV)(σ:AS):Prop|mk(i:ah)(y0 y3 x5 x9:aA AV)(E:aa AO):xs=pS i (aT (s1.drop i))->i<=s1.length->i<=d->σ=⟨[y0,af (.d (.str "/")),af (.d (.str ".")),y3,af (.d (.bool aj)),x5,af (.d (.lst (aT s1))),af (.d (.lst (aT s2))),af (.d (.lst (aT s1))),x9,none,none,none,none,none,none,none,none,none,none,none,none,none],H++E⟩->O1 H s1 s2 d xs σ
section
variable{K:ah}{H:aa AO}{PP:AV->aa AO->Prop}
noncomputable def SM(ls:aa (aa ai)):aa DV:=ls.map λm=>.lst (m.map .str)
theorem ou{Q:aa (aa ai)}(O:∀X∈Q,HV X){p0:aa ai}{Q':aa (aa ai)}(R:Q=p0::Q')(P:Q.length<=10){s1 s2:aa ai}(V:s1=fD aC (nj p0) (Q'.map nj))(N:s2=fD aj (nj p0) (Q'.map nj)){d:ah}(hd1:s1.take d=s2.take d)(hd2:d<=s1.length)(Uo:d<=s2.length)(j:d=s1.length\/∃a b,s1[d]?=af a/\s2[d]?=af b/\a≠b)(u:PP (.d (.str (("/":ai)++bX ("/":ai) (s1.take d)))) H):Fn (K+4) 382 [.d (.lst (aT (Q.map px)))] H PP:=by
 refine Oe.use Of rfl λwf=>?_;have U:2^20<=bw:=by decide
 have M:(aT (Q.map px)).length=Q.length:=by rw[bA,bB]
 have c:aT (Q.map px)≠[]:=by rw[R];exact List.cons_ne_nil _ _
 refine aP _ rfl ?_;refine LI (K:=K+1) (Q.map px) [] (by rw[bB];show 0+_<=_;exact Z1 [.p (.n 0) V0,.n (2^20),V0,.n 10] (by kernel_rfl) P) ?_;refine And.intro (show (aT (Q.map px)).length<=_ by exact Z3 [V0,V1,V2,.n 10,.n (2^20),V1,V0,V2] (by kernel_rfl) P U (Qe M)) ?_;refine And.intro (show (aT (Q.map px)).length<_ by exact Z2 [.p V0 (.n 1),.n (2^62),V1,.n 10,V0,V1] (by kernel_rfl) P (Qe M)) ⟨λh=>?_,λD=>?_⟩;·rw[fc,R] at h;cases h
 refine aZ (nF (l:=Q.map px) (k:=0) (by rw[bB,R];exact mZ _)) λx0 Up=>?_;refine And.intro (show (aT (Q.map px)).length<2^62 by rw[M];exact Z1 [.p V0 (.n 1),.n (2^62),V0,.n 10] (by kernel_rfl) P) (bO (cP Up) ?_);refine And.intro rfl ?_;refine And.intro nofun λD=>?_;refine aP (aT (Q.map px)) rfl ?_;have S:∀x∈aT (Q.map px),∃X∈Q,x=.str (px X):=λx W=>by
  (refine aQ (gP W) λy t Y=>?_;subst Y);(refine aQ (gP t) λX Z Y=>?_;subst Y);exact aP X Z rfl
 refine iY (f:=OZ) (L:=λa=>[none,a,af (.d (.str "/"))]) (λD D=>rfl) _ _ none ?_ ?_ ?_
 ·intro x W A Q h;(refine aQ (S x W) λX Z Y=>?_;subst Y);refine rA (nO (O X Z)) λf1 f2 f3 f4=>?_;refine And.intro rfl ?_;refine And.intro ⟨by decide,by exact Z2 [V0,V1,.n (2^20),V1,V0,.n 13000] (by kernel_rfl) U f2,?_⟩ h;rw[f1];have:=(O X Z).len;simp;exact Z2 [.p (.p (.p V0 (.n 1)) (.n 1)) (.n 1),V1,.n (2^20),V1,V0,.n 100] (by kernel_rfl) U this
 ·rw[M];show 0+_<=_;exact Z2 [.p (.n 0) V0,V1,V0,.n 10,.n (2^20),V1] (by kernel_rfl) P U
 ·intro a;refine⟨⟨rfl,trivial⟩,?_⟩;refine cy (aT (Q.map px)) rfl c (λo=>?_);refine HD (L:=λa=>[none,a,af (.d (.str "/"))]) (λD D=>rfl) _ _ none ?_ ?_
  ·intro x W o Q h;(refine aQ (S x W) λX Z Y=>?_;subst Y);refine rA (nO (O X Z)) λf1 f2 f3 f4=>?_;refine And.intro rfl ?_;conv=>whnf
   rw[f3];exact h
  ·intro a o;refine⟨⟨rfl,trivial⟩,?_⟩;have L4:∀x∈[]++(aT (Q.map px)).map OZ,∃X∈Q,x=.lst (aT (eS::eS::eS::X)):=λx W=>by
    rw[fc] at W;(refine aQ (gP W) λy t Y=>?_;subst Y);(refine aQ (S y t) λX Z Y=>?_;subst Y);exact aP X Z (bu (λl=>DV.lst (aT l)) (nO (O X Z)).1)
   have e3:([]++(aT (Q.map px)).map OZ).map R3=SM (Q.map nj):=by
    unfold SM aT;rw[fc,b5,b5,b5,b5];refine gk λX Z=>?_;show DV.lst ((aT (Txt.split (px X) "/")).filter oh)=.lst (aT (nj X));rw[(nO (O X Z)).1,yx,(nO (O X Z)).2.2.2]
   have Uq:([]++(aT (Q.map px)).map OZ).length=Q.length:=by rw[fc,bB,M]
   refine aP _ rfl ?_;refine iY (f:=R3) (L:=λa=>[none,a,af (.d (.str "."))]) (λD D=>rfl) _ _ none ?_ ?_ ?_
   ·intro x W A Q h;(refine aQ (L4 x W) λX Z Y=>?_;subst Y);refine aP _ rfl ?_;refine BX (g:=oh) (f:=λx=>x) (L:=λa=>[none,a,af (.d (.str "."))]) (λD D=>rfl) _ _ none ?_ ?_ ?_ ?_
    ·intro y t A Q h;(refine aQ (gP t) λs hs Y=>?_;subst Y);have hle:s.length<=100:=by
      rcases gq hs with rfl|hs;·exact bW _
      ·rcases gq hs with rfl|hs;·exact bW _
       ·rcases gq hs with rfl|hs;·exact bW _
        ·exact(O X Z).le s hs
     have h:Q (!dc s) _:=h;refine And.intro (er hle (by decide)) ⟨λV=>?_,λV=>?_⟩
     ·have V:s≠"":=λq=>by rw[q] at V;cases V
      refine And.intro (λN=>?_) λN=>?_
      ·have N:¬s=".":=Ka N;have hj:dc s=aC:=by unfold dc;rw[gA V,gA N];rfl
       rw[hj] at h;exact h
      ·have N:s=".":=OS N;rw[show dc s=aj by rw[N];rfl] at h;exact h
     ·have V:s="":=by
       refine mR λq=>?_;have:((s.length:ah):aq)≠0:=λz=>q (rG (List.length_eq_zero_iff.mp (by rw[len_str];exact iz z)));have V:((s.length:aq) !=0)=aC:=V;rw[bne_iff_ne.mpr this] at V;cases V
      rw[show dc s=aj by rw[V];rfl] at h;exact h
    ·exactλy t A Q h=>h
    ·have:=(O X Z).len;rw[bA];simp;exact Z2 [.p (.p (.p V0 (.n 1)) (.n 1)) (.n 1),V1,.n (2^20),V1,V0,.n 100] (by kernel_rfl) U this
    ·intro a;refine⟨⟨rfl,trivial⟩,?_⟩;rw[fc,List.map_id'];exact h
   ·rw[Uq];show 0+_<=_;exact Z2 [.p (.n 0) V0,V1,V0,.n 10,.n (2^20),V1] (by kernel_rfl) P U
   ·intro a;refine⟨⟨rfl,trivial⟩,?_⟩;have e4:[]++([]++(aT (Q.map px)).map OZ).map R3=(nj p0::Q'.map nj).map λm=>DV.lst (m.map .str):=by rw[fc,e3,R];rfl
    refine cG (nj p0) (Q'.map nj) e4 ?_;refine cG (nj p0) (Q'.map nj) e4 ?_;rw[<-V,<-N];have G:∀w,∀p∈fD w (nj p0) (Q'.map nj),p.length<=100:=λw p u=>by
     have C:=Aa w (Q'.map nj) (nj p0);rw[<-ek (f:=nj),<-R] at C;refine aQ (gP C) λX Z e=>?_;rw[<-e] at u;exact(O X Z).le p (List.mem_filter.mp u).1
    have T:∀w,(fD w (nj p0) (Q'.map nj)).length<=100:=λw=>by
     have C:=Aa w (Q'.map nj) (nj p0);rw[<-ek (f:=nj),<-R] at C;refine aQ (gP C) λX Z e=>?_;rw[<-e];exact br (wI _ _) (O X Z).len
    have m1:=G aC;have n1:=T aC;have n2:=T aj;rw[<-V] at m1 n1;rw[<-N] at n2;clear G T V N e4 e3 L4 S O;have k1:=bA s1;have k2:=bA s2;refine aP (aT s1) rfl ?_;refine LJ (J:=O0 H s1 s2 d) ?_ (I:=O1 H s1 s2 d) ?_ ?_ _ _ ?_
    ·rintro σ ⟨y0,y3,x5,x9,E,rfl⟩;have mt:∀p∈s1.take d,p.length<=100:=λp u=>m1 p (oG u);have lt:(s1.take d).length<=100:=by rw[dU];exact br (qp _ _) n1
     have hs:=yv mt;have hj:=join_le (Z1 [V0,.n 110,V0,.n 100] rfl lt) mt;have V:("/":ai).length=1:=rfl;refine And.intro (λD=>?_) nofun;refine And.intro rfl ?_;refine cy (s1.take d) rfl (by show _+_*1<=16777216;exact lY [_,_] 1 [101] [.p V0 (.r 1 V1),.n 16777216,V1,.n 100,V0,.r 100 V1] (by kernel_rfl) lt hs) ?_;exact And.intro (by exact Z3 [.p V0 V1,V2,.n (2^20),V2,V1,.n 12000,V0,.n 1] (by kernel_rfl) U hj (Qe V)) (c_.same (e:=E) wf rfl u)
    ·rintro σ ⟨i,y0,y3,x5,x9,E,W,v,F,rfl⟩;have Ur:i=s1.length:=by
      refine cY v (ff λq=>?_);rw[e8 q] at W;cases W
     have:d=s1.length:=by exact cY (hd2) (Z3 [V0,V1,V2,V1,V0,V2] rfl F (Qf Ur))
     refine⟨y0,y3,x5,x9,E,?_⟩;rw[this,wJ]
    ·rintro hJ x r σ ⟨i,y0,y3,x5,x9,E,W,v,F,rfl⟩ ih;have B:i<s1.length:=by
      refine lE v λq=>?_;rw[q,List.drop_length] at W;cases W
     have ha:s1[i]?=af s1[i]:=c7 B;generalize s1[i]=a at ha;have hdr:s1.drop i=a::s1.drop (i+1):=by
      refine aZ (gi ha) λq1 q2=>?_;rw[e8 q1,q2]
     rw[hdr] at W;cases W;obtain⟨b,C⟩:∃b,s2[i]?=af b:=by
      by_cases q:i<d;·exact⟨_,c7 (Z3 [.p V0 (.n 1),V1,V2,V1,.p V0 (.n 1),V2] rfl Uo q)⟩
      ·have:i=d:=by exact cY (F) ((Qb q))
       subst this;rcases j with q|⟨a,b,_,q,_⟩;·exact Qx (lY [_,_] 0 [] [.n 1,.n 0,.p V0 (.n 1),V1,V1,V0] rfl B (Qf q))
       ·exact⟨b,q⟩
     have UA:=(gi C).1;refine And.intro rfl ?_;refine And.intro (by exact Z2 [.p V0 (.n 1),.n (2^62),V1,.n 100,V0,V1] (by kernel_rfl) n2 (Qe k2)) (bO (cP C) ?_);have heq:i<d->a=b:=λq=>by
      have h3:(s1.take d)[i]?=(s2.take d)[i]?:=by rw[hd1]
      rw[rZ,rZ,aW q,aW q,ha,C] at h3;cases h3;rfl
     refine And.intro (λh=>?_) λh=>?_
     ·have h:¬a=b:=Ka h;have:i=d:=cY F (ff λq=>h (heq q));subst this;refine And.intro (by exact Z3 [V0,V1,.n (2^20),V1,V2,.n 100,V0,V2] (by kernel_rfl) U n1 (Qe k1)) ⟨nofun,?_⟩;rw[p8,jV];exact hJ _ ⟨y0,y3,_,_,E,rfl⟩
     ·have h:a=b:=OS h;have:i<d:=by
       refine lE F λq=>?_;subst q;rcases j with q|⟨a',b',q1,q2,q3⟩;·exact Qx (lY [_,_] 0 [] [.n 1,.n 0,.p V0 (.n 1),V1,V1,V0] rfl B (Qf q))
       ·rw[ha] at q1;rw[C] at q2;cases q1;cases q2;exact q3 h
      exact And.intro rfl (ih _ ⟨i+1,y0,y3,_,_,E,rfl,B,this,rfl⟩)
    ·exact⟨0,_,_,_,_,[_],rfl,bW _,bW _,rfl⟩
end
theorem yy{F:Fc}{n:ah}{P:Fl->AS->Prop}{σ:AS}(h:P .next σ):VS F (n+1) [] P σ:=h
theorem O2{i n:ah}(h:i<n+1):i=n\/i<n:=(Nat.lt_succ_iff_lt_or_eq.mp h).symm
theorem Us{m:ah}(h:m<6):m=0\/m=1\/m=2\/m=3\/m=4\/m=5:=(O2 h).elim (λe=>.inr (.inr (.inr (.inr (.inr e))))) λh=>(O2 h).elim (λe=>.inr (.inr (.inr (.inr (.inl e))))) λh=>(O2 h).elim (λe=>.inr (.inr (.inr (.inl e)))) λh=>(O2 h).elim (λe=>.inr (.inr (.inl e))) λh=>(O2 h).elim (λe=>.inr (.inl e)) λh=>.inl (Nat.lt_one_iff.mp h)
theorem LK{a b:ah}(h:b<256):(a*256)&&&b=0:=by
 have Z:b=255&&&b:=by rw[Nat.and_comm,Nat.and_two_pow_sub_one_eq_mod b 8];exact(iF h).symm
 rw[Z,<-Nat.and_assoc,Nat.and_two_pow_sub_one_eq_mod (a*256) 8,show a*256%2^8=0 from Nat.mul_mod_left a 256,Nat.zero_and]
theorem O3{a b:ah}(h:b<256):Builtin.bitOr ((a:aq)*2^(8:aq).toNat) b=((a*256+b:ah):aq):=by
 have e:((a:aq)*2^(8:aq).toNat)=((a*256:ah):aq):=by rw[wm];rfl
 rw[e,bitOr_and,bitAnd_pp (e6 _) (e6 _),dM,dM,LK h];exact eU (bJ [_,_] [] 1 [] [.s (.p (.c (.r 256 V0)) (.c V1)) (.c (.n 0)),.c (.p (.r 256 V0) V1)] rfl) (bJ [_,_] [] 1 [] [.c (.p (.r 256 V0) V1),.s (.p (.c (.r 256 V0)) (.c V1)) (.c (.n 0))] rfl)
noncomputable def outs(lc:ah):ah->aa ah|8=>[lc/4%64]|10=>[lc/16%64]|12=>[lc/64%64,lc%64]|_=>[]
noncomputable def aS(k:ah):ah:=(jS.getD k 0).toNat
noncomputable def oD(l:aa ah):aa DV:=l.map λk=>.int (aS k:ah)
theorem HE{k:ah}(h:k<64):(0<=(k:aq)/\(k:aq)<(⟨jS⟩:aK dQ).size/\(⟨jS⟩:aK dQ).size<=2^40)/\(DV.int ((((⟨jS⟩:aK dQ).toList.getD (k:aq).toNat 0).toNat:ah):aq))=.int (aS k:ah):=by
 have e:(⟨jS⟩:aK dQ).size=64:=rfl;exact⟨⟨bJ [_] [] 1 [] [.n 0,.c V0] rfl,bJ [_] [] 1 [] [.p (.c V0) (.n 1),.c (.n 64),.c (.p V0 (.n 1)),.c (.n 64)] rfl (Qn h),by decide⟩,rfl⟩
noncomputable def bF(b:aK dQ)(h:ah)(lb lc:aq)(y6:aA AV):aa (aA AV):=[af (.d (.bytes b)),af (.d (.bool aC)),af (.d (.bytes b)),af (.ref h),af (.d (.int lb)),af (.d (.int lc)),y6,none,none,none,none]
theorem D8(lc:ah)(k:ah):((lc:aq).fdiv (2^k))=((lc/2^k:ah):aq):=by
 have:((2:aq)^k)=((2^k:ah):aq):=by rw[Int.natCast_pow];rfl
 rw[this,ru]
inductive Ko(H:aa AO)(b:aK dQ)(lc lb:ah)(o:aa ah)(y6:aA AV)(m:ah)(σ:AS):Prop|mk(o':aa ah):m%6=lb%6->(m=8\/m=10\/m=12\/m<6\/m=6)->o'.length+m<=22->σ=⟨bF b H.length m lc y6,H++[AO.list (oD o')]⟩->o++outs lc lb=o'++(if m=6 then[lc%64]else outs lc m)->Ko H b lc lb o y6 m σ
section
variable{K:ah}{H:aa AO}{PP:AV->aa AO->Prop}
theorem D9{F:Fc}{n:ah}{P:Fl->AS->Prop}{b:aK dQ}{lc:ah}{o:aa ah}{y6:aA AV}(lb:ah)(Z:lb=8\/lb=10\/lb=12)(M:o.length<=10)(h:P .next ⟨bF b H.length (lb%6:ah) lc y6,H++[.list (oD (o++outs lc lb))]⟩):VS F (n+40) [.vq (.cmp .GtE (.loc 4) (.k (.int 6))) [.ex (.met (.loc 3) .append [(.sub (.bR (.bytes ⟨jS⟩ 593)) (.bin .BitAnd (.bin .RShift (.loc 5) (.bin .Sub (.loc 4) (.k (.int 6)))) (.k (.int 63))))]),.asg [(.loc 4)] (.bin .Sub (.loc 4) (.k (.int 6)))]] P ⟨bF b H.length lb lc y6,H++[.list (oD o)]⟩:=by
 have Y:lb≠6/\lb<=12:=by rcases Z with h|h|h<;>rw[h]<;>decide
 refine nN (n:=n+38) (σ':=⟨bF b H.length (lb%6:ah) lc y6,H++[AO.list (oD (o++outs lc lb))]⟩) (show VS F (n+39) [] P ⟨bF b H.length (lb%6:ah) lc y6,H++[AO.list (oD (o++outs lc lb))]⟩ from h) (Ko H b lc lb o y6) lb ?_ ?_;·exact⟨o,rfl,Z.elim .inl λh=>.inr (h.elim .inl λh=>.inr (.inl h)),Nat.add_le_add M Y.2,rfl,by rw[aI Y.1]⟩
 ·rintro N S m I ⟨W,Q,O,X,rfl,U⟩ R L;have T:(oD W).length=W.length:=bB _;refine And.intro (λq=>?_) λq=>?_
  ·have q:(6:aq)<=m:=b3 q;have V:(m:aq)-6=((m-6:ah):aq):=(rS (Int.ofNat_le.mp q)).symm;have J:sM ((lc:aq).fdiv (2^((m:aq)-6).toNat)) 63=((lc/2^(m-6)%64:ah):aq):=by rw[V,dM,D8,bitAnd_m6];rfl
   refine bq (HE (dZ _ (by decide):lc/2^(m-6)%64<64)) λa1 a2=>?_;refine And.intro (cF bh) ?_;refine And.intro (Int.sub_nonneg_of_le q) ?_;conv=>whnf
   rw[J];refine And.intro a1 ?_;refine bO bh ?_;refine And.intro (by rw[T];exact er (by exact Z2 [V0,.n 22,.p V0 V1,.n 22] rfl X:W.length<=22) (by decide)) ?_;rw[gh];refine L (m-6) _ (Z2 [.p V0 (.n 1),V1,.p V0 (.n 6),V1] rfl (Q2 (Qz (bJ [_,_] [] 1 [] [.c (.n 6),.c V0,.c V1,.s (.c V0) (.n 6)] rfl (Qj V))))) ⟨W++[lc/2^(m-6)%64],(Nat.mod_eq_sub_mod (Int.ofNat_le.mp q)).symm.trans Q,O.elim (λh=>.inr (.inr (.inr (.inl (by rw[h];decide))))) λh=>h.elim (λh=>.inr (.inr (.inr (.inl (by rw[h];decide))))) λh=>h.elim (λh=>.inr (.inr (.inr (.inr (by rw[h]))))) λh=>.inr (.inr (.inr (.inl (h.elim (λh=>er (kg _ _) h) λh=>by rw[h];decide)))),by simp;exact Z3 [.p (.p V0 (.n 1)) V1,.n 22,.p V0 V2,.n 22,.p V1 (.n 6),V2] rfl X (Q2 (Qz (bJ [_,_] [] 1 [] [.c (.n 6),.c V0,.c V1,.s (.c V0) (.n 6)] rfl (Qj V)))),?_,?_⟩;·rw[<-V,oD,oD,c8];rfl
   ·rw[U,bV];congr 1;rcases O with rfl|rfl|rfl|h|rfl;·rfl
    ·rfl
    ·rfl
    ·exact aJ (Int.ofNat_le.mp q) (Nat.not_le_of_lt h)
    ·show [lc%64]=[lc/1%64]++[];rw[Nat.div_one];rfl
  ·have q:¬(6:aq)<=m:=eG q;have:outs lc m=[]:=by
    have:m=0\/m=1\/m=2\/m=3\/m=4\/m=5:=Us (r8 λh=>q (Int.ofNat_le.mpr h));rcases this with rfl|rfl|rfl|rfl|rfl|rfl<;>rfl
   rw[aI λe=>q (by rw[e];decide),this,bY] at U;rw[U,<-((iF (r8 λh=>q (Int.ofNat_le.mpr h))).symm.trans Q)] at S;exact S
theorem BY{F:Fc}{n:ah}{P:Fl->AS->Prop}{b:aK dQ}{lc:ah}{o:aa ah}{y6:aA AV}{Z Y:aq}(lb:ah)(W:Z=(lc:ah))(V:Y=(lb:ah))(X:lb=8\/lb=10\/lb=12)(U:o.length<=10)(h:P .next ⟨bF b H.length (lb%6:ah) lc y6,H++[.list (oD (o++outs lc lb))]⟩):VS F (n+40) [.vq (.cmp .GtE (.loc 4) (.k (.int 6))) [.ex (.met (.loc 3) .append [(.sub (.bR (.bytes ⟨jS⟩ 593)) (.bin .BitAnd (.bin .RShift (.loc 5) (.bin .Sub (.loc 4) (.k (.int 6)))) (.k (.int 63))))]),.asg [(.loc 4)] (.bin .Sub (.loc 4) (.k (.int 6)))]] P ⟨bF b H.length Y Z y6,H++[.list (oD o)]⟩:=by
 subst W V;exact D9 lb X U h
noncomputable def D_:ah->ah->aa ah->aa ah->ah×ah×aa ah|lc,lb,o,[]=>(lc,lb,o)|lc,lb,o,x::r=>D_ ((lc*256+x)%65536) ((lb+8)%6) (o++outs ((lc*256+x)%65536) (lb+8)) r
noncomputable def HF(lc:ah):ah->aa ah |2=>[aS (lc%4*16),61,61]|4=>[aS (lc%16*4),61]|_=>[]
noncomputable def Ep(xs:aa ah):aa ah:=(D_ 0 0 [] xs).2.2.map aS++HF (D_ 0 0 [] xs).1 (D_ 0 0 [] xs).2.1
theorem CQ(k:ah):aS k<256:=UInt8.toNat_lt _
inductive O4(H:aa AO)(b:aK dQ)(xs:aa ah)(ys:aa DV)(σ:AS):Prop|mk(r:aa ah)(lc lb:ah)(o:aa ah)(y6:aA AV):ys=bQ r->(∀x∈r,x<256)->(lb=0\/lb=2\/lb=4)->lc<65536->o.length+2*r.length<=6->D_ 0 0 [] xs=D_ lc lb o r->σ=⟨bF b H.length lb lc y6,H++[AO.list (oD o)]⟩->O4 H b xs ys σ
inductive O5(H:aa AO)(b:aK dQ)(xs:aa ah)(σ:AS):Prop|mk(lb lc:aq)(y6:aA AV):σ=⟨bF b H.length lb lc y6,H++[AO.list (bQ (Ep xs))]⟩->O5 H b xs σ
theorem LL{b:aK dQ}{xs:aa ah}(A:b.toList.map (·.toNat)=xs)(y:xs.length<=3)(w:PP (.d (.bytes (byteArr ((Ep xs).map λ(k:ah)=>(k:aq))))) H):Ij (K+2) 268 [.d (.bytes b),.d (.bool aC)] H PP:=by
 refine N5.OM OJ rfl λv=>?_;have X:100<bw:=by decide
 have G:∀x∈xs,x<256:=λx M=>by
  rw[<-A] at M;(refine aQ (gP M) λc Q W=>?_;subst W);exact UInt8.toNat_lt c
 have F:b.toList.map (λx=>DV.int x.toNat)=bQ xs:=by rw[<-A,bQ,b5];rfl
 refine And.intro (by decide) ?_;refine DT ?_;refine And.intro (by decide) ?_;refine GW ?_;refine And.intro rfl ⟨by decide,?_⟩;refine ko (aP (bQ xs) (bu af F) ?_);refine jg (I:=O4 H b xs) ?_ ?_ _ _ ?_
 ·rintro z ⟨r,Y,lb,o,L,T,P,S,N,Z,E,rfl⟩;have T:r=[]:=List.map_eq_nil_iff.mp T.symm;subst T;have V:(oD o).length=o.length:=bB _;have O:oD o=bQ (o.map aS):=by unfold oD bQ;rw[b5];rfl
  have U:Ep xs=o.map aS++HF Y lb:=by unfold Ep;rw[E];rfl
  have u:20<bw:=by decide
  refine HB (n:=52) (O5 H b xs) ?_ λT=>?_
  ·rintro z ⟨t,s,q,rfl⟩;refine And.intro nofun λQ=>?_;conv=>whnf
   rw[v8];have D:(Ep xs).length<=20:=by
    rw[U,bU,bB];have:(HF Y lb).length<=3:=by unfold HF;split<;>simp
    simp at Z;exact Z2 [.p V0 V1,.n 20,V0,.n 6,V1,.n 3] rfl Z this
   refine lX ((Ep xs).map λ(k:ah)=>(k:aq)) (by rw[b5];rfl) (λn l=>?_) (by rw[bB];exact Z2 [V0,V1,.p (.n 100) (.n 1),V1,V0,.n 20] rfl X D) (c_.same (e:=[_]) v rfl w);(refine aQ (gP l) λk hk W=>?_;subst W);have C:k<256:=by
    rw[U] at hk;rcases d9 hk with hk|hk;·(refine aQ (gP hk) λj Q W=>?_;subst W);exact CQ j
    ·unfold HF at hk;split at hk
     ·rcases gq hk with rfl|hk;·exact CQ _
      ·simp at hk;exact Z1 [.p V0 (.n 1),.n 256,V0,.n 61] rfl (Qe hk)
     ·rcases gq hk with rfl|hk;·exact CQ _
      ·simp at hk;exact Z1 [.p V0 (.n 1),.n 256,V0,.n 61] rfl (Qe hk)
     ·cases hk
   exact⟨bJ [_] [] 1 [] [.n 0,.c V0] rfl,bJ [_] [] 1 [] [.p (.c V0) (.n 1),.n 256,.c (.p V0 (.n 1)),.c (.n 256)] rfl (Qn C)⟩
  ·rcases S with rfl|rfl|rfl
   ·refine And.intro (λh=>aJ (rF h) (by decide)) λQ=>?_;refine And.intro (λh=>aJ (rF h) (by decide)) λQ=>?_;refine yy (n:=49) (yy (n:=50) ?_);refine T _ ⟨0,Y,L,?_⟩;rw[U,O];show _=(⟨_,H++[AO.list (bQ (o.map aS++[]))]⟩:AS);rw[bY];rfl
   ·refine And.intro (λQ=>?_) λh=>aJ rfl (ug h);have B:sM (Y:aq) 3*2^(4:aq).toNat=((Y%4*16:ah):aq):=by rw[bitAnd_m2];rfl
    refine bq (HE (show Y%4*16<64 from qq (dZ Y (by decide:0<4)) (by decide:0<16))) λa1 a2=>?_;refine And.intro (cF bh) ?_;refine And.intro ⟨by decide,by decide,by rw[bitAnd_m2];exact(show Y%4<2^64 from dg (dZ Y (by decide:0<4)) (by decide))⟩ ?_;conv=>whnf
    rw[B];refine And.intro a1 ?_;rw[a2];refine bO bh ?_;refine And.intro (by rw[V];exact Z3 [.p V0 (.n 1),V1,.p (.n 100) (.n 1),V1,.p V0 (.m 2 V2),.n 6] rfl X Z) ?_;rw[gh];refine And.intro (cF bh) ?_;refine bO bh ?_;refine And.intro (by rw[bU,V];show o.length+1<_;exact Z3 [.p (.p V0 (.n 1)) (.n 1),V1,.p (.n 100) (.n 1),V1,.p V0 (.m 2 V2),.n 6] rfl X Z) ?_;rw[gh];refine And.intro (cF bh) ?_;refine bO bh ?_;refine And.intro (by rw[bU,bU,V];show o.length+1+1<_;exact Z3 [.p (.p (.p V0 (.n 1)) (.n 1)) (.n 1),V1,.p (.n 100) (.n 1),V1,.p V0 (.m 2 V2),.n 6] rfl X Z) ?_;rw[gh];refine T _ ⟨2,Y,L,?_⟩;rw[U,O,ly,bV,bV];rfl
   ·refine And.intro (λh=>aJ (rF h) (by decide)) λQ=>?_;refine And.intro (λQ=>?_) λh=>aJ rfl (ug h);have B:sM (Y:aq) 15*2^(2:aq).toNat=((Y%16*4:ah):aq):=by rw[bitAnd_m4];rfl
    refine bq (HE (show Y%16*4<64 from qq (dZ Y (by decide:0<16)) (by decide:0<4))) λa1 a2=>?_;refine And.intro (cF bh) ?_;refine And.intro ⟨by decide,by decide,by rw[bitAnd_m4];exact(show Y%16<2^64 from dg (dZ Y (by decide:0<16)) (by decide))⟩ ?_;conv=>whnf
    rw[B];refine And.intro a1 ?_;rw[a2];refine bO bh ?_;refine And.intro (by rw[V];exact Z3 [.p V0 (.n 1),V1,.p (.n 100) (.n 1),V1,.p V0 (.m 2 V2),.n 6] rfl X Z) ?_;rw[gh];refine And.intro (cF bh) ?_;refine bO bh ?_;refine And.intro (by rw[bU,V];show o.length+1<_;exact Z3 [.p (.p V0 (.n 1)) (.n 1),V1,.p (.n 100) (.n 1),V1,.p V0 (.m 2 V2),.n 6] rfl X Z) ?_;rw[gh];refine yy (n:=47) (yy (n:=50) ?_);refine T _ ⟨4,Y,L,?_⟩;rw[U,O,ly,bV];rfl
 ·rintro x i z ⟨r,Y,lb,o,L,T,P,S,N,Z,E,rfl⟩ R g f rr;obtain⟨e,r,rfl,rfl,rfl⟩:∃(e:ah) (J:aa ah),r=e::J/\x=.int (e:aq)/\i=bQ J:=by induction r using aO with|nil=>cases T|cons a J=>cases T;exact bM a J rfl rfl rfl
  have he:=P e (.head _);rw[jE] at Z;refine And.intro ⟨by decide,by decide,jI N (by decide)⟩ ?_;refine BY (n:=11) (lc:=(Y*256+e)%65536) (lb+8) ?_ ?_ (S.elim (λh=>.inl (by rw[h])) λh=>.inr (h.elim (λh=>.inl (by rw[h])) λh=>.inr (by rw[h]))) (Z2 [V0,.n 10,.p V0 (.m 2 (.p V1 (.n 1))),.n 6] rfl Z) ?_;·show sM (Builtin.bitOr ((Y:aq)*2^(8:aq).toNat) e) 65535=_;rw[O3 he,bitAnd_m16];rfl
  ·show (lb:aq)+8=_;exact eU (bJ [_] [] 1 [] [.p (.c V0) (.n 8),.c (.p V0 (.n 8))] rfl) (bJ [_] [] 1 [] [.c (.p V0 (.n 8)),.p (.c V0) (.n 8)] rfl)
  ·refine g _ trivial ⟨r,(Y*256+e)%65536,(lb+8)%6,_,_,rfl,λx M=>P x (.tail _ M),S.elim (λh=>.inr (.inl (by rw[h]))) λh=>h.elim (λh=>.inr (.inr (by rw[h]))) λh=>.inl (by rw[h]),dZ _ (by decide),?_,E,rfl⟩;have:(outs ((Y*256+e)%65536) (lb+8)).length<=2:=by
    unfold outs;split<;>simp
   rw[bU];exact Z3 [.p (.p V0 V1) (.m 2 V2),.n 6,.p V0 (.m 2 (.p V2 (.n 1))),.n 6,V1,.n 2] rfl Z this
 ·exact⟨xs,0,0,[],_,rfl,G,.inl rfl,by decide,by simp;exact lY [_] 1 [2] [.m 2 V0,.n 6,V0,.n 3] rfl y,rfl,rfl⟩
end
noncomputable def CR(k:ah):ah:=(kR.getD k 0).toNat
noncomputable def nP(xs:aa ah):aa ah:=(Ep xs).map CR
noncomputable def nameOf(xs:aa ah):ai:=⟨(nP xs).toArray⟩
noncomputable def eI:aa ah->aa ah×ah|[x]=>([x/4,x%4*16],2)|[x,y]=>([x/4,x%4*16+y/16,y%16*4],1)|[x,y,z]=>([x/4,x%4*16+y/16,y%16*4+z/64,z%64],0)|_=>([],0)
structure jZ(xs:aa ah):Prop where
 len:xs.length=1\/xs.length=2\/xs.length=3
 lt:∀x∈xs,x<256
theorem yG{k q r:ah}(h:r<k):(q*k+r)/k=q:=by rw[iE,Nat.add_mul_div_right _ _ (er (bW _) h),Nat.div_eq_of_lt h,eV]
theorem Ea{k q r:ah}(h:r<k):(q*k+r)%k=r:=by rw[iE,Nat.add_mul_mod_self_right,iF h]
theorem rL{m k q r:ah}(h:q<m)(h':r<k):q*k+r<m*k:=dg (Nat.add_lt_add_left h' _) (Nat.succ_mul q k▸Nat.mul_le_mul_right k h)
theorem jZ.le{xs:aa ah}(h:jZ xs):xs.length<=3:=by rcases h.len with h|h|h<;>(rw[h];decide)
theorem jZ.parts{xs:aa ah}(h:jZ xs){P:aa ah->aa ah×ah->Prop}(S:∀a b,a<64->b<4->P [a*4+b] ([a,b*16],2))(R:∀a b c d,a<64->b<4->c<16->d<16->P [a*4+b,c*16+d] ([a,b*16+c,d*4],1))(Q:∀a b c d e f,a<64->b<4->c<16->d<16->e<4->f<64->P [a*4+b,c*16+d,e*64+f] ([a,b*16+c,d*4+e,f],0)):P xs (eI xs):=by
 obtain⟨hl,Z⟩:=h;have W:∀x,x<256->x/4<64:=λx Z=>wM Z;have V:∀x,x%4<4:=λx=>dZ _ (by decide);have Y:∀x,x<256->x/16<16:=λx Z=>wM Z;have X:∀x,x%16<16:=λx=>dZ _ (by decide);rcases hl with hl|hl|hl;·refine cz (pY hl) λx r e hl=>?_;rw[e,wz hl] at Z ⊢;have:=S (x/4) (x%4) (W x (Z x (.head _))) (V x);rw[qs] at this;exact this
 ·refine cz (pY hl) λx r e hl=>cz (pY hl) λy O U hl=>?_;rw[e,U,wz hl] at Z ⊢;have:=R (x/4) (x%4) (y/16) (y%16) (W x (Z x (.head _))) (V x) (Y y (Z y (.tail _ (.head _)))) (X y);rw[qs,qs] at this;exact this
 ·refine cz (pY hl) λx r e hl=>cz (pY hl) λy O U hl=>cz (pY hl) λz N T hl=>?_;rw[e,U,T,wz hl] at Z ⊢;have:=Q (x/4) (x%4) (y/16) (y%16) (z/64) (z%64) (W x (Z x (.head _))) (V x) (Y y (Z y (.tail _ (.head _)))) (X y) (wM (Z z (.tail _ (.tail _ (.head _))))) (dZ _ (by decide));rw[qs,qs,qs] at this;exact this
theorem jZ.six{xs:aa ah}(h:jZ xs):(eI xs).1.length=xs.length+1/\(eI xs).2<=2:=h.parts (P:=λxs s=>s.1.length=xs.length+1/\s.2<=2) (λZ Z Z Z=>⟨rfl,bf 2⟩) (λZ Z Z Z Z Z Z Z=>⟨rfl,iD 1⟩) λZ Z Z Z Z Z Z Z Z Z Z Z=>⟨rfl,bW 2⟩
theorem HG{xs:aa ah}(h:jZ xs):Ep xs=(eI xs).1.map aS++bN (eI xs).2 61:=by
 have V:∀a b,a<64->b<4->(0*256+(a*4+b))%65536=a*4+b:=λa b Y Z=>by rw[Nat.zero_mul,eV,iF (jI (rL Y Z) (by decide))]
 have T:∀a b c d,a<64->b<4->c<16->d<16->((a*4+b)*256+(c*16+d))%65536=(a*64+(b*16+c))*16+d:=λa b c d Y Z W X=>by
  rw[iF (rL (m:=256) (rL Y Z) (rL W X))];exact vh [.p (.r 256 (.p (.r 4 V0) V1)) (.p (.r 16 V2) V3),.p (.r 16 (.p (.r 64 V0) (.p (.r 16 V1) V2))) V3] (by kernel_rfl)
 refine h.parts (P:=λxs s=>Ep xs=s.1.map aS++bN s.2 61) (λa b Y Z=>?_) (λa b c d Y Z W X=>?_) λa b c d e f Y Z W X R U=>?_;·show [aS ((0*256+(a*4+b))%65536/4%64)]++[aS ((0*256+(a*4+b))%65536%4*16),61,61]=[aS a,aS (b*16)]++[61,61];rewrite[V a b Y Z,yG (q:=a) Z,Ea (q:=a) Z,iF Y] at ⊢;rfl
 ·show [aS ((0*256+(a*4+b))%65536/4%64),aS (((0*256+(a*4+b))%65536*256+(c*16+d))%65536/16%64)]++[aS (((0*256+(a*4+b))%65536*256+(c*16+d))%65536%16*4),61]=[aS a,aS (b*16+c),aS (d*4)]++[61];rewrite[V a b Y Z,T a b c d Y Z W X,yG (q:=a) Z,yG (q:=a*64+(b*16+c)) X,Ea (q:=a*64+(b*16+c)) X,Ea (q:=a) (rL (m:=4) Z W),iF Y] at ⊢;rfl
 ·show [aS ((0*256+(a*4+b))%65536/4%64),aS (((0*256+(a*4+b))%65536*256+(c*16+d))%65536/16%64),aS ((((0*256+(a*4+b))%65536*256+(c*16+d))%65536*256+(e*64+f))%65536/64%64),aS ((((0*256+(a*4+b))%65536*256+(c*16+d))%65536*256+(e*64+f))%65536%64)]++[]=[aS a,aS (b*16+c),aS (d*4+e),aS f]++[];have Q:((a*64+(b*16+c))*16+d)*256+(e*64+f)=(a*4+b)*65536+((c*64+(d*4+e))*64+f):=uJ [a,b,c,d,e,f] [.p (.r 256 (.p (.r 16 (.p (.r 64 V0) (.p (.r 16 V1) V2))) V3)) (.p (.r 64 V4) V5),.p (.r 65536 (.p (.r 4 V0) V1)) (.p (.r 64 (.p (.r 64 V2) (.p (.r 4 V3) V4))) V5)] (by kernel_rfl);have S:d*4+e<64:=rL (m:=16) X R;rewrite[V a b Y Z,T a b c d Y Z W X,Q,Ea (q:=a*4+b) (rL (m:=1024) (k:=64) (rL (m:=16) (k:=64) W S) U),yG (q:=a) Z,yG (q:=a*64+(b*16+c)) X,Ea (q:=a) (rL (m:=4) Z W),iF Y,yG (q:=c*64+(d*4+e)) U,Ea (q:=c*64+(d*4+e)) U,Ea (q:=c) S] at ⊢;rfl
theorem uw{xs:aa ah}(h:jZ xs):nP xs=(eI xs).1.map (λk=>CR (aS k))++bN (eI xs).2 61:=by
 unfold nP;rw[HG h,c8,b5,List.map_replicate];rfl
noncomputable def yz(xs:aa ah):ah:=xs.foldl (λa x=>a*256+x) 0
theorem yC{i n:ah}(h:i<n+1):i=n\/i<n:=(Nat.lt_succ_iff_lt_or_eq.mp h).symm
theorem HH{xs:aa ah}(h:jZ xs):(eI xs).1.length=(xs.length*8+5)/6/\(eI xs).2=(3-xs.length%3)%3/\∀i,i<(eI xs).1.length->(eI xs).1[i]?=af (yz xs*2^((eI xs).1.length*6-xs.length*8)/64^((eI xs).1.length-1-i)%64):=by
 refine h.parts (P:=λxs s=>s.1.length=(xs.length*8+5)/6/\s.2=(3-xs.length%3)%3/\∀i,i<s.1.length->s.1[i]?=af (yz xs*2^(s.1.length*6-xs.length*8)/64^(s.1.length-1-i)%64)) (λa b X W=>?_) (λa b c d X W T S=>?_) λa b c d e f X W T S R U=>?_
 ·refine⟨(show 2=(1*8+5)/6 by decide),(show 2=(3-1%3)%3 by decide),λi hi=>?_⟩;have Z:(0*256+(a*4+b))*16=a*64+b*16:=lZ [.r 16 (.p (.m 0 (.n 256)) (.p (.r 4 V0) V1)),.p (.r 64 V0) (.r 16 V1)] (by kernel_rfl);have Y:b*16<64:=qq W (by decide);rcases yC (n:=1) hi with rfl|hi;·show af (b*16)=af ((0*256+(a*4+b))*16/1%64);rw[Nat.div_one,Z,Ea (q:=a) Y]
  ·cases Nat.lt_one_iff.mp hi;show af a=af ((0*256+(a*4+b))*16/64%64);rw[Z,yG (q:=a) Y,iF X]
 ·refine⟨(show 3=(2*8+5)/6 by decide),(show 1=(3-2%3)%3 by decide),λi hi=>?_⟩;have Z:((0*256+(a*4+b))*256+(c*16+d))*4=(a*64+(b*16+c))*64+d*4:=vh [.r 4 (.p (.r 256 (.p (.m 0 (.n 256)) (.p (.r 4 V0) V1))) (.p (.r 16 V2) V3)),.p (.r 64 (.p (.r 64 V0) (.p (.r 16 V1) V2))) (.r 4 V3)] (by kernel_rfl);have Y:d*4<64:=qq S (by decide);have V:b*16+c<64:=rL (m:=4) W T;rcases yC (n:=2) hi with rfl|hi;·show af (d*4)=af (((0*256+(a*4+b))*256+(c*16+d))*4/1%64);rw[Nat.div_one,Z,Ea (q:=a*64+(b*16+c)) Y]
  rcases yC (n:=1) hi with rfl|hi;·show af (b*16+c)=af (((0*256+(a*4+b))*256+(c*16+d))*4/64%64);rw[Z,yG (q:=a*64+(b*16+c)) Y,Ea (q:=a) V]
  ·cases Nat.lt_one_iff.mp hi;show af a=af (((0*256+(a*4+b))*256+(c*16+d))*4/(64*64)%64);rw[Z,<-wR,yG (q:=a*64+(b*16+c)) Y,yG (q:=a) V,iF X]
 ·refine⟨(show 4=(3*8+5)/6 by decide),(show 0=(3-3%3)%3 by decide),λi hi=>?_⟩;have Z:(((0*256+(a*4+b))*256+(c*16+d))*256+(e*64+f))*1=((a*64+(b*16+c))*64+(d*4+e))*64+f:=uJ [a,b,c,d,e,f] [.r 1 (.p (.r 256 (.p (.r 256 (.p (.m 0 (.n 256)) (.p (.r 4 V0) V1))) (.p (.r 16 V2) V3))) (.p (.r 64 V4) V5)),.p (.r 64 (.p (.r 64 (.p (.r 64 V0) (.p (.r 16 V1) V2))) (.p (.r 4 V3) V4))) V5] (by kernel_rfl);have Y:d*4+e<64:=rL (m:=16) S R;have V:b*16+c<64:=rL (m:=4) W T;rcases yC (n:=3) hi with rfl|hi;·show af f=af ((((0*256+(a*4+b))*256+(c*16+d))*256+(e*64+f))*1/1%64);rw[Nat.div_one,Z,Ea (q:=(a*64+(b*16+c))*64+(d*4+e)) U]
  rcases yC (n:=2) hi with rfl|hi;·show af (d*4+e)=af ((((0*256+(a*4+b))*256+(c*16+d))*256+(e*64+f))*1/64%64);rw[Z,yG (q:=(a*64+(b*16+c))*64+(d*4+e)) U,Ea (q:=a*64+(b*16+c)) Y]
  rcases yC (n:=1) hi with rfl|hi;·show af (b*16+c)=af ((((0*256+(a*4+b))*256+(c*16+d))*256+(e*64+f))*1/(64*64)%64);rw[Z,<-wR,yG (q:=(a*64+(b*16+c))*64+(d*4+e)) U,yG (q:=a*64+(b*16+c)) Y,Ea (q:=a) V]
  ·cases Nat.lt_one_iff.mp hi;show af a=af ((((0*256+(a*4+b))*256+(c*16+d))*256+(e*64+f))*1/(64*64*64)%64);rw[Z,<-wR,<-wR,yG (q:=(a*64+(b*16+c))*64+(d*4+e)) U,yG (q:=a*64+(b*16+c)) Y,yG (q:=a) V,iF X]
noncomputable abbrev signs:ai:="ABCDEFGHIJKLMNOPQRSTUVWXYZabcdefghijklmnopqrstuvwxyz0123456789-_"
theorem signs_at{k:ah}(h:k<64):signs.cps[k]?=af (CR (aS k)):=by
 have:∀k,k<64->signs.cps.toList[k]?=af (CR (aS k)):=by decide+kernel
 rw[<-fS];exact this k h
theorem bits_le{n:ah}(h:n<2^63):sN (n:aq)<=64:=by
 unfold sN;split;·exact bW _
 ·rename_i q;have Z:n≠0:=λe=>q (by rw[e];rfl);have:=(Nat.log2_lt Z).mpr h;exact Z1 [.p V0 (.n 1),.n 64,.p V0 (.n 1),.n 63] rfl this
theorem Jq{xs:aa ah}(h:jZ xs):yz xs<2^24:=by
 have z:∀x,x<256->0*256+x<256:=λx h=>by rw[Nat.zero_mul,eV];exact h
 refine h.parts (P:=λxs T=>yz xs<2^24) (λa b Z Y=>jI (z _ (rL Z Y)) (by decide)) (λa b c d Z Y X W=>jI (rL (m:=256) (z _ (rL Z Y)) (rL X W)) (by decide)) λa b c d e f Z Y X W V U=>rL (m:=65536) (rL (m:=256) (z _ (rL Z Y)) (rL X W)) (rL V U)
theorem R4{l:ah}(h:l=1\/l=2\/l=3):MulOk "=" ((-(l:aq)).fmod 3)/\(Txt.mul "=" ((-(l:aq)).fmod 3)).cps.toList=bN ((3-l%3)%3) 61/\(Txt.mul "=" ((-(l:aq)).fmod 3)).length<=2:=by
 rcases h with rfl|rfl|rfl;·exact⟨⟨rfl,λZ Z=>by decide,λZ Z=>by rfl⟩,rfl,by decide⟩
 ·exact⟨⟨rfl,λZ Z=>by decide,λZ Z=>by rfl⟩,rfl,by decide⟩
 ·exact⟨⟨rfl,λh Z=>aJ (by decide) h,λh Z=>aJ (by decide) h⟩,rfl,by decide⟩
section
variable{K:ah}{H:aa AO}{PP:AV->aa AO->Prop}
theorem LM{b:aK dQ}{xs:aa ah}(Z:b.toList.map (·.toNat)=xs)(Y:xs.length<=3)(X:PP (.d (.bytes (byteArr ((Ep xs).map λ(k:ah)=>(k:aq))))) H):Fn (K+3) 276 [.d (.bytes b)] H PP:=by
 refine N6.use OH rfl λW=>?_;refine And.intro (by decide) ?_;refine LL Z Y ?_;refine And.intro nofun λV=>?_;exact c_.same (e:=[]) W (by simp) X
theorem LN{b:aK dQ}{xs:aa ah}(P:b.toList.map (·.toNat)=xs)(V:jZ xs)(O:∀B:aK dQ,B.toList.map (·.toNat)=nP xs->PP (.d (.bytes B)) H):Fn (K+4) 283 [.d (.bytes b)] H PP:=by
 refine N7.use N8 rfl λN=>?_;have Q:=V.le;have U:(eI xs).1.length+(eI xs).2<=10:=by
  rw[V.six.1];exact br (Nat.add_le_add (fh Q) V.six.2) (by decide)
 have Z:=HG V;have T:(Ep xs).length<=10:=by rw[Z,bU,bB,qm];exact U
 refine And.intro (by decide) ?_;refine LM P Q ?_;refine And.intro rfl ?_;refine And.intro ⟨by rfl,?_⟩ ?_;·rw[byteArr_size,bB];exact br T (by decide)
 ·refine c_.same (e:=[]) N (by simp) (O _ ?_);have S:∀k∈Ep xs,k<256:=λk hk=>by
   rw[Z] at hk;rcases d9 hk with hk|hk
   ·(refine aQ (gP hk) λj M R=>?_;subst R);exact CQ j
   ·have:=Aw hk;exact Z1 [.p V0 (.n 1),.n 256,V0,.n 61] rfl (Qe this)
  rw[Array.toList_map,b5,b5,b5];refine gk λk hk=>?_;have Y:=S k hk;show ((⟨kR⟩:aK dQ).getD ((k:aq).toNat.toUInt8).toNat _).toNat=CR k;have e:((k:aq).toNat.toUInt8).toNat=k:=by exact iF Y
  have X:kR.length=256:=by unfold kR;rw[bB,jz]
  have W:kR[k]?=af kR[k]:=c7 (Z2 [.p V0 (.n 1),V1,.p V0 (.n 1),.n 256,.n 256,V1] rfl Y (Qf X));rw[e,Array.getD_eq_getD_getElem?,((fS ..).symm.trans W:(⟨kR⟩:aK dQ)[k]?=af kR[k]),CR,oN,W];rfl
inductive Kq(H:aa AO)(xs:aa ah)(ys:aa DV)(σ:AS):Prop|mk(r:aa ah)(a:ah)(y3:aA AV):ys=bQ r->r.foldl (λa x=>a*256+x) a=yz xs->σ=⟨[af (.d (.lst (bQ xs))),af (.d (.str signs)),af (.d (.int a)),y3,none,none,none,none,none],H⟩->Kq H xs ys σ
inductive Kr(H:aa AO)(xs sx:aa ah)(N:ah)(y3:aA AV)(ys:aa DV)(σ:AS):Prop|mk(i:ah)(w:ai)(y6:aA AV):ys=cV i sx.length->i<=sx.length->w.cps.toList=(sx.take i).map (λk=>CR (aS k))->σ=⟨[af (.d (.lst (bQ xs))),af (.d (.str signs)),af (.d (.int (N:ah))),y3,af (.d (.int (sx.length:ah))),af (.d (.str w)),y6,none,none],H⟩->Kr H xs sx N y3 ys σ
theorem BZ{xs:aa ah}(L:jZ xs)(f:PP (.d (.str (nameOf xs))) H):Fn (K+1) 389 [.d (.lst (bQ xs))] H PP:=by
 refine Og.use Oh rfl λwf=>?_;have G:2^20<=bw:=by decide
 refine cL (HH L) λs1 s2 y=>?_;have hN:=Jq L;have P:=L.le;have v:=L.six.1;have T:(bQ xs).length=xs.length:=bB _;have V:=uw L;have Y:=R4 L.len;rw[<-s2] at Y;generalize (eI xs).1=Z at s1 y v V;have X:Z.length<=4:=v▸fh P;have u:xs.length*8<=Z.length*6:=by rw[v];exact lY [_] 1 [2] [.r 8 V0,.r 6 (.p V0 (.n 1)),V0,.n 3] rfl P
 have t:Z.length*6-xs.length*8<=24:=br (kg _ _) (Nat.mul_le_mul_right 6 X);have U:(bQ xs).length<2^62:=by rw[T];exact er P (by decide)
 generalize (eI xs).2=pd at V Y;refine ko (aP (bQ xs) rfl ?_);refine jg (I:=Kq H xs) ?_ ?_ _ _ ?_
 ·rintro q ⟨r,a,y3,W,F,rfl⟩;have W:r=[]:=List.map_eq_nil_iff.mp W.symm;subst W;have F:a=yz xs:=F;subst F;have e1:(((bQ xs).length:aq)*8+5).fdiv 6=((Z.length:ah):aq):=by rw[T,s1,show ((xs.length:aq)*8+5)=((xs.length*8+5:ah):aq) by exact eU (bJ [_] [] 1 [] [.p (.r 8 (.c V0)) (.n 5),.c (.p (.r 8 V0) (.n 5))] rfl) (bJ [_] [] 1 [] [.c (.p (.r 8 V0) (.n 5)),.p (.r 8 (.c V0)) (.n 5)] rfl),show (6:aq)=((6:ah):aq) from rfl,ru]
  refine And.intro U ?_;refine And.intro (xo (by decide)) ?_;refine And.intro (by decide) ⟨Lm (m:=6) _ (by decide),?_⟩;rw[e1];have hex:((Z.length:ah):aq)*6-((bQ xs).length:aq)*8=((Z.length*6-xs.length*8:ah):aq):=by rw[T,rS u,wm,wm];rfl
  have o:sN (2:aq)=2:=rfl;have E:sN (64:aq)=7:=rfl;have D:((yz xs:ah):aq)*(2:aq)^(((Z.length:ah):aq)*6-((bQ xs).length:aq)*8).toNat=((yz xs*2^(Z.length*6-xs.length*8):ah):aq):=by rw[hex,dM,wm,Int.natCast_pow];rfl
  refine And.intro (xo (by decide)) ?_;refine And.intro U ?_;refine And.intro (xo (by decide)) ?_;refine And.intro ⟨by rw[hex];exact e6 _,by rw[hex,o];exact bJ [_] [] 1 [2] [.m 2 (.c V0),.n (2^27),.c V0,.c (.n 24)] (by kernel_rfl) (Qn t)⟩ ?_;refine And.intro (IntMulOk.of_left (bits_le (jI hN (by decide)))) ?_;generalize yz xs*2^(Z.length*6-xs.length*8)=N at y D;refine ko (aP _ (iW (a:=0) (b:=Z.length) ⟨by decide,er X (by decide)⟩) ?_);rw[D];refine jg (I:=Kr H xs Z N y3) ?_ ?_ _ _ ?_
  ·rintro q ⟨i,w,y6,W,hi,J,rfl⟩;have W:=gj W;rw[i6 W] at J;have O:w.length=Z.length:=by rw[<-len_str,J,bB]
   (refine cL Y λp1 p2 p3=>?_;clear Y);rw[<-T] at p1 p2 p3;refine And.intro U ?_;refine And.intro (by decide) ?_;refine And.intro p1 ?_;refine And.intro (by exact Z4 [.p V0 V1,V2,.n (2^20),V2,V3,.n 4,V0,V3,V1,.n 2] (by kernel_rfl) G X (Qe O) p3) ?_;refine c_.same (e:=[]) wf (by simp) ?_;have e:w++Txt.mul "=" ((-((bQ xs).length:aq)).fmod 3)=nameOf xs:=rG (by
    rw[nZ,J,p2];show _=(nP xs).toArray.toList;rw[List.toList_toArray,V]);rw[<-e] at f;exact f
  ·rintro x ys q ⟨i,w,y6,W,hi,J,rfl⟩ R l k rr;(refine cL (j9 W) λS j h=>?_;subst j;subst h);have O:w.length<=4:=by rw[<-len_str,J,bB,dU];exact br (qp _ _) X
   have hex:((Z.length:ah):aq)-1-i=((Z.length-1-i:ah):aq):=by exact eU (bJ [_,_,_,_] [] 1 [] [.s (.s (.c V0) (.n 1)) (.c V1),.c V2,.c V3,.c (.p V2 V1),.c V0,.c (.p V3 (.n 1))] rfl (Qn Q1) (Qn Q1)) (bJ [_,_,_,_] [] 1 [] [.c V0,.s (.s (.c V1) (.n 1)) (.c V2),.c (.p V0 V2),.c V3,.c (.p V3 (.n 1)),.c V1] rfl (Qn (Q2 (Z3 [V0,V1,.p V0 (.n 1),V2,V2,.p V1 (.n 1)] rfl S Q1))) (Qn (Q2 (Z2 [.n 1,V0,.p V1 (.n 1),V0] rfl S))))
   have M:(64:aq)^(((Z.length:ah):aq)-1-i).toNat=((64^(Z.length-1-i):ah):aq):=by rw[hex,dM,Int.natCast_pow];rfl
   have C:0<64^(Z.length-1-i):=Nat.pow_pos (by decide);have B:64^(Z.length-1-i)<2^64:=er (Nat.pow_le_pow_right (by decide) (by exact Z3 [V0,.n 3,V1,.n 4,V0,V2,.p V2 (.n 1),V1] rfl X Q0 (Q2 (Qz (bJ [_,_,_] [] 1 [] [.c (.n 1),.c V0,.c V1,.s (.s (.c V0) (.n 1)) (.c V2)] rfl (Qj hex)))):Z.length-1-i<=3)) (by decide);have g:=y i S;have hk:N/64^(Z.length-1-i)%64<64:=dZ _ (by decide);have A:(((N:ah):aq).fdiv (64^(((Z.length:ah):aq)-1-i).toNat)).fmod 64=((N/64^(Z.length-1-i)%64:ah):aq):=by rw[M,ru,show (64:aq)=((64:ah):aq) from rfl,p7]
   refine And.intro ⟨by rw[hex];exact e6 _,by rw[hex,E];exact bJ [_] [] 1 [7] [.m 7 (.c V0),.n (2^27),.c V0,.c (.n 4)] (by kernel_rfl) (Qn (br (kg _ _) (br (kg _ _) X)))⟩ ?_;refine And.intro (by rw[M];exact Int.ne_of_gt (bJ [_] [] 1 [] [.p (.n 0) (.n 1),.c V0,.c (.p (.n 0) (.n 1)),.c V0] rfl (Qn C))) ⟨by rw[M];exact Lm _ B,?_⟩;refine And.intro (by decide) ?_;conv=>whnf
   rw[A];have Q:signs.length=64:=by decide
   refine And.intro ⟨e6 _,by rw[Q];exact Int.ofNat_lt.mpr hk,by rw[Q];decide⟩ λc hc=>?_;rw[dM,signs_at hk] at hc;cases hc;refine And.intro (by show w.length+1<=bw;exact Z2 [.p V0 (.n 1),V1,.n (2^20),V1,V0,.n 4] (by kernel_rfl) G O) ?_;refine l _ trivial ⟨i+1,_,_,rfl,S,?_,rfl⟩;rw[nZ,J,mX,g,c8];rfl
  ·exact⟨0,"",_,rfl,bW _,rfl,rfl⟩
 ·rintro x ys q ⟨r,a,y3,W,F,rfl⟩ R l k rr;obtain⟨e,r,rfl,rfl,rfl⟩:∃(e:ah) (z:aa ah),r=e::z/\x=.int (e:aq)/\ys=bQ z:=by induction r using aO with |nil=>cases W|cons a z=>cases W;exact bM a z rfl rfl rfl
  refine And.intro (xo (by decide)) ?_;exact l _ trivial ⟨r,a*256+e,_,rfl,F,rfl⟩
 ·exact⟨xs,0,_,rfl,rfl,rfl⟩
end
noncomputable def numsOf(sc:aa aq):aa ah:=((sc.take 4).drop 1).map (λx=>(x.fmod 100000).toNat)++[59,72,55243,19,144]
noncomputable def CS(sc:aa aq):ah:=match sc with|[]=>263|x::_=>(x.fmod 100000).toNat
noncomputable def rowsOf(ns:aa ah):aa (aa ah):=(cW ns.length).map λk=>nI k (ns.getD k 0)
noncomputable def ux(ns:aa ah):aa ai:=(rowsOf ns).map nameOf
noncomputable def Eb(ns:aa ah)(b:ah):aa Gp:=(ns++[b]).map oq
theorem rM(x:aq):(x.fmod 100000).toNat<100000/\((x.fmod 100000).toNat:aq)=x.fmod 100000:=by
 have Z:=Int.fmod_nonneg_of_pos x (show (0:aq)<100000 by decide);exact⟨(Int.toNat_lt Z).mpr (Int.fmod_lt_of_pos x (show (0:aq)<100000 by decide)),Int.toNat_of_nonneg Z⟩
theorem Ab(sc:aa aq):5<=(numsOf sc).length/\(numsOf sc).length<=8:=by
 rw[bU,bB,gX,dU];exact⟨lG _ _,Ax (Nat.sub_le_sub_right (wO 4 _) 1) 5⟩
theorem Jr(sc:aa aq):∀n∈numsOf sc,n<100000:=by
 intro n Y;rcases d9 Y with h|h
 ·(refine aQ (gP h) λx X Z=>?_;subst Z);exact(rM x).1
 ·simp at h;rcases h with h|h|h|h|h<;>rw[h]<;>decide
theorem LO(sc:aa aq):CS sc<100000:=by induction sc using aO with|nil=>decide|cons x r=>exact(rM x).1
theorem yD(p n:ah)(Y:p<256):jZ (nI p n)/\(nI p n)[0]?=af p:=by
 have h:n/72%3=0\/n/72%3=1\/n/72%3=2:=(yC (dZ (n/72) (by decide:0<3))).elim (λe=>.inr (.inr e)) λh=>(yC h).elim (λe=>.inr (.inl e)) λh=>(yC h).elim .inl λh=>aJ h (m3 _);have X:n/72%256<256:=dZ _ (by decide);unfold nI;rcases h with h|h|h<;>rw[h];·exact⟨⟨.inl rfl,λx Z=>by simp at Z;exact Z2 [.p V0 (.n 1),.n 256,.p V1 (.n 1),.n 256,V0,V1] rfl Y (Qe Z)⟩,rfl⟩
 ·exact⟨⟨.inr (.inl rfl),λx Z=>by simp at Z;exact Z.elim (λe=>e▸Y) λe=>e▸X⟩,rfl⟩
 ·exact⟨⟨.inr (.inr rfl),λx Z=>by simp at Z;exact Z.elim (λe=>e▸Y) λZ=>Z.elim (λe=>e▸X) λe=>e▸(dZ _ (by decide))⟩,rfl⟩
theorem uy{xs:aa ah}(h:jZ xs):(∀k∈(eI xs).1,k<64)/\(eI xs).1.length+(eI xs).2=4/\∃x a b,xs[0]?=af x/\(eI xs).1[0]?=af a/\(eI xs).1[1]?=af b/\x=a*4+b/16:=by
 refine h.parts (P:=λxs s=>(∀k∈s.1,k<64)/\s.1.length+s.2=4/\∃x a b,xs[0]?=af x/\s.1[0]?=af a/\s.1[1]?=af b/\x=a*4+b/16) (λa b Z Y=>?_) (λa b c d Z Y X W=>?_) λa b c d e f Z Y X W V U=>?_;·exact⟨List.forall_mem_cons.mpr ⟨Z,List.forall_mem_cons.mpr ⟨qq (k:=16) Y (by decide),nofun⟩⟩,rfl,_,_,_,rfl,rfl,rfl,by rw[Nat.mul_div_cancel _ (by decide)]⟩
 ·exact⟨List.forall_mem_cons.mpr ⟨Z,List.forall_mem_cons.mpr ⟨rL Y X,List.forall_mem_cons.mpr ⟨qq (k:=4) W (by decide),nofun⟩⟩⟩,rfl,_,_,_,rfl,rfl,rfl,by rw[yG X]⟩
 ·exact⟨List.forall_mem_cons.mpr ⟨Z,List.forall_mem_cons.mpr ⟨rL Y X,List.forall_mem_cons.mpr ⟨rL W V,List.forall_mem_cons.mpr ⟨U,nofun⟩⟩⟩⟩,rfl,_,_,_,rfl,rfl,rfl,by rw[yG X]⟩
theorem mE:∀k,k<64->CR (aS k)≠47/\CR (aS k)<256/\signs.cps.toList.idxOf (CR (aS k))=k:=by decide+kernel
theorem mF{xs:aa ah}(h:jZ xs):(nameOf xs).length=4/\47∉(nameOf xs).cps.toList/\∀c∈(nameOf xs).cps.toList,c<256:=by
 refine cL (uy h) λX W V=>?_;have e:(nameOf xs).cps.toList=(eI xs).1.map (λk=>CR (aS k))++bN (eI xs).2 61:=by rw[List.toList_toArray,uw h]
 refine⟨by rw[<-len_str,e,bU,bB,qm];exact W,λhm=>?_,λc hc=>?_⟩
 ·have hm:=e▸hm;rcases d9 hm with hm|hm;·refine aQ (gP hm) λk Z q=>?_;exact(mE k (X k Z)).1 q
  ·have:=Aw hm;exact Qx (lY [] 0 [] [.n 1,.n 0,.n 61,.n 47] rfl (Qf this))
 ·rw[e] at hc;rcases d9 hc with hc|hc
  ·(refine aQ (gP hc) λk Z Y=>?_;subst Y);exact(mE k (X k Z)).2.1
  ·have:=Aw hc;exact Z1 [.p V0 (.n 1),.n 256,V0,.n 61] rfl (Qe this)
theorem HJ{xs X:aa ah}(V:jZ xs)(U:jZ X)(e:nameOf xs=nameOf X):xs[0]?=X[0]?:=by
 have e:(nP xs)=nP X:=by
  have:=bu (λs:ai=>s.cps.toList) e;exact this
 refine cL (uy V) λS K Z=>mL Z λx a b J R Q I=>?_;(refine cL (uy U) λP K Z=>mL Z λy c d H O N G=>?_;clear Z);have key:∀{T:aa ah}{i k:ah},jZ T->(eI T).1[i]?=af k->(nP T)[i]?=af (CR (aS k)):=λF W=>by rw[uw F,m9 (by rw[bB];exact(gi W).1),dN,W];rfl
 have Y:∀{k j:ah},k<64->j<64->CR (aS k)=CR (aS j)->k=j:=λW E e=>by rw[<-(mE _ W).2.2,e,(mE _ E).2.2]
 have M:=key V R;rw[e,key U O] at M;have L:=key V Q;rw[e,key U N] at L;have D:=Y (S a (j3 R)) (P c (j3 O)) (dz M).symm;rw[J,H,I,G,D,(Y (S b (j3 Q)) (P d (j3 N)) (dz L).symm)]
structure HK(nms:aa ai):Prop where
 len:∀n∈nms,n.length=4
 free:∀n∈nms,47∉n.cps.toList
 ok:∀n∈nms,∀c∈n.cps.toList,c<256
 nodup:nms.Nodup
theorem LP{ns:aa ah}(V:ns.length<=8):HK (ux ns)/\∀r∈rowsOf ns,jZ r:=by
 have W:∀r∈rowsOf ns,jZ r:=λr Y=>by
  (refine aQ (gP Y) λk Q Z=>?_;subst Z);exact(yD k _ (by have:=List.mem_range.mp Q;exact Z2 [.p V0 (.n 1),.n 256,V1,.n 8,.p V0 (.n 1),V1] rfl V this)).1
 have U:∀n∈ux ns,∃r∈rowsOf ns,n=nameOf r:=λn X=>by
  (refine aQ (gP X) λr Y Z=>?_;subst Z);exact aP r Y rfl
 refine⟨⟨λn X=>?_,λn X=>?_,λn X=>?_,?_⟩,W⟩;·(refine aQ (U n X) λr Y Z=>?_;subst Z);exact(mF (W r Y)).1
 ·(refine aQ (U n X) λr Y Z=>?_;subst Z);exact(mF (W r Y)).2.1
 ·(refine aQ (U n X) λr Y Z=>?_;subst Z);exact(mF (W r Y)).2.2
 ·unfold ux rowsOf;rw[b5,wB,mW];refine(List.pairwise_lt_range (n:=ns.length)).imp_of_mem λ{a b}T S R e=>?_;have T:=List.mem_range.mp T;have S:=List.mem_range.mp S;refine bq (yD a (ns.getD a 0) (Z2 [.p V0 (.n 1),.n 256,V1,.n 8,.p V0 (.n 1),V1] rfl V T)) λa1 a2=>?_;refine bq (yD b (ns.getD b 0) (Z2 [.p V0 (.n 1),.n 256,V1,.n 8,.p V0 (.n 1),V1] rfl V S)) λP O=>?_;have:=HJ a1 P e;rw[a2,O] at this;cases this;exact Qx (lY [_] 0 [] [.n 1,.n 0,.p V0 (.n 1),V0] rfl R)
theorem HK.dc{Y:aa ai}(h:HK Y):∀n∈Y,dc n=aC/\n≠"..":=λn X=>by
 have Z:=h.len n X;refine⟨?_,λe=>by rw[e] at Z;exact aJ Z (by decide)⟩;unfold cZ.dc;rw[gA λe=>by rw[e] at Z;exact aJ Z (by decide),gA λe=>by rw[e] at Z;exact aJ Z (by decide)];rfl
theorem uz:∀l∈p6,l.length<=3/\∀x∈l,cZ.dc x=aj/\x.length<=1/\47∉x.cps.toList:=by decide
theorem Ec(n:ah):((oq n).1.length<=3/\∀x∈(oq n).1,cZ.dc x=aj/\x.length<=1/\47∉x.cps.toList)/\(oq n).2.length<=3/\∀x∈(oq n).2,cZ.dc x=aj/\x.length<=1/\47∉x.cps.toList:=by
 have key:∀k,p6.getD (k%6) []∈p6:=λk=>by
  have:(k%6)<p6.length:=(dZ _ (by decide));rw[oN,c7 this];exact rX this
 unfold oq;split;·exact⟨⟨bW _,nofun⟩,bW _,nofun⟩
 ·exact⟨uz _ (key _),uz _ (key _)⟩
def Ed(f:Gp->aa ai)(g:Gp):Prop:=(f g).length<=3/\∀x∈f g,dc x=aj/\x.length<=1/\47∉x.cps.toList
section
variable{f:Gp->aa ai}
theorem LQ:∀(X:aa Gp)(Z:aa ai),Z.length+1=X.length->(∀g∈X,Ed f g)->(∀n∈Z,dc n=aC)->nj (f_ f X Z)=Z:=by
 intro X;induction X with |nil=> intro _ h _ _;exact dY h|cons g T W=>induction T using aO with
  |nil=> intro S;induction S using aO with |nil=> intro _ V _;exact List.filter_eq_nil_iff.mpr λx Y=>by rw[((V g (.head _)).2 x Y).1];decide|cons Q P=>
    intro e _ _;simp at e |cons h r=>
   intro R;induction R using aO with
   |nil=>
    intro e _ _;simp at e|cons n ns=>
    intro e V U;have W:=W ns (by simpa using e) (λx Y=>V x (.tail _ Y)) λx Y=>U x (.tail _ Y);unfold nj at W ⊢;rw[r6,iC,aW (by rw[U n (.head _)];rfl),W,List.filter_eq_nil_iff.mpr λx Y=>by rw[((V g (.head _)).2 x Y).1];decide];rfl
theorem rN:∀(Y:aa Gp)(Z:aa ai)(x:ai),x∈f_ f Y Z->x∈Z\/∃g∈Y,x∈f g:=by
 intro Y;induction Y with |nil=> intro _ _ h;cases h|cons g G W=> intro V;induction V using aO with |nil=> intro x h;exact .inr (aP g (.head _) h)|cons n ns=>
   intro x h;rcases d9 h with h|h;·exact .inr (aP g (.head _) h)
   ·rcases gq h with rfl|h;·exact .inl (.head _)
    ·exact(W ns x h).imp (.tail _) λX=>aQ X λg U T=>aP g (.tail _ U) T
theorem O6{f:Gp->ah}:∀Z:aa Gp,(∀g∈Z,f g<=3)->wd f Z<=4*Z.length:=by
 intro Z;induction Z with|nil=>exactλU=>bf _|cons g Z Y=>
  intro h;have X:=Y λx W=>h x (.tail _ W);have V:=h g (.head _);exact Z3 [.p (.p V0 (.n 1)) V1,.m 4 (.p V2 (.n 1)),V1,.m 4 V2,V0,.n 3] rfl X V
theorem HL:∀(U:aa Gp)(V:aa ai),(∀g∈U,Ed f g)->V.Nodup->∀(p q:ah)(x:ai),dc x=aC->(f_ f U V)[p]?=af x->(f_ f U V)[q]?=af x->p=q:=by
 intro U;induction U with |nil=> intro _ _ _ _ _ _ _ h _;exact ns h|cons g G L=> intro K;induction K using aO with |nil=> intro T _ p q x Z h _;rw[((T g (.head _)).2 x (j3 h)).1] at Z;exact tf Z|cons n ns=>
   intro T J p q x Z Y X;have nd:=List.nodup_cons.mp J;have Y:(f g++n::f_ f G ns)[p]?=af x:=Y;have X:(f g++n::f_ f G ns)[q]?=af x:=X;have low:∀i,(f g++n::f_ f G ns)[i]?=af x->(f g).length<=i:=λi R=>by
    refine ff λh=>?_;have R:=(m9 h)▸R;rw[((T g (.head _)).2 x (j3 R)).1] at Z;exact tf Z
   have Q:=low p Y;have P:=low q X;have Y:=(jh Q)▸Y;rw[jh P] at X;have W:n∉f_ f G ns\/dc n=aj:=by
    by_cases h:dc n=aj;·exact .inr h
    ·refine .inl λI=>?_;rcases rN G ns n I with O|⟨H,O,F⟩;·exact nd.1 O
     ·exact h ((T H (.tail _ O)).2 n F).1
   cases S:p-(f g).length with
   |zero=>
    have Y:=S▸Y;cases Y;cases eq:q-(f g).length with|zero=>exact cY (Z4 [V0,V1,V2,V1,V3,.n 0,V0,.p V3 V2] rfl P (Qe S) Q1) (Z4 [V0,V1,V2,V1,V3,.n 0,V0,.p V3 V2] rfl Q (Qe eq) Q1)|succ N=>
     rw[eq] at X;rcases W with h|h;·exact aJ (j3 (i:=N) X) h
     ·rw[h] at Z;exact tf Z|succ M=>
    rw[S] at Y;cases eq:q-(f g).length with
    |zero=>
     rw[eq] at X;cases X;rcases W with h|h;·exact aJ (j3 (i:=M) Y) h
     ·rw[h] at Z;exact tf Z|succ N=> have X:=eq▸X;have:=L ns (λx Z=>T x (.tail _ Z)) nd.2 M N x Z Y X;exact(eO Q).symm.trans ((bu (·+(f g).length) (S.trans ((bu lD this).trans eq.symm))).trans (eO P))
theorem Ef(x:ai):∀(J l:aa ai),x∉J->cO x (J++l)=J.length+cO x l:=by
 intro J;induction J with|nil=>exactλl Y=>(eV _).symm|cons y J Z=> intro l h;show (if y=x then 0 else cO x (J++l)+1)=_;rw[aI λe=>h (by rw[e];exact .head _),(Z l λm=>h (.tail _ m)),jE];exact lZ [.p (.p V0 V1) (.n 1),.p (.p V0 (.n 1)) V1] rfl
theorem Eg:∀(Y:aa Gp)(Z:aa ai)(c:ah)(x:ai),Z.length+1=Y.length->(∀g∈Y,Ed f g)->(∀n∈Z,dc n=aC)->Z.Nodup->Z[c]?=af x->nj ((f_ f Y Z).take (cO x (f_ f Y Z)))=Z.take c/\x∈f_ f Y Z:=by
 intro Y;induction Y with
 |nil=> intro _ _ _ h _ _ _ _;exact dY h|cons g O X=>induction O using aO with
  |nil=>
   intro N;induction N using aO with
   |nil=>
    intro _ _ _ _ _ _ h;exact ns h|cons I H=>
    intro _ _ e _ _ _ _;simp at e
  |cons h r=>
   intro M;induction M using aO with
   |nil=>
    intro _ _ e _ _ _ _;simp at e|cons n ns=>
    intro c x e V U L W;have nd:=List.nodup_cons.mp L;have T:x∈n::ns:=j3 W;have K:x∉f g:=λm=>by
     have R:=((V g (.head _)).2 x m).1;rw[U x T] at R;exact ft R
    have Q:(f g).filter (λp=>!dc p)=[]:=List.filter_eq_nil_iff.mpr λx J=>by rw[((V g (.head _)).2 x J).1];decide
    show nj ((f g++n::f_ f (h::r) ns).take (cO x (f g++n::f_ f (h::r) ns)))=_/\x∈f g++n::f_ f (h::r) ns;rw[Ef x _ _ K,List.take_length_add_append];induction c using cJ with
    |zero=>
     cases W;refine⟨?_,by simp⟩;rw[show cO n (n::f_ f (h::r) ns)=0 from aW rfl,List.take_zero,bY];exact Q|succ c=>
     have X:=X ns c x (by simpa using e) (λy S=>V y (.tail _ S)) (λy S=>U y (.tail _ S)) nd.2 W;refine⟨?_,rV _ (.tail _ X.2)⟩;have P:=X.1;unfold nj at P ⊢;rw[show cO x (n::f_ f (h::r) ns)=cO x (f_ f (h::r) ns)+1 from aI (λq=>nd.1 (by rw[q];exact j3 W)),wA,r6,Q,iC,aW (by rw[U n (.head _)];rfl),P];rfl
end
theorem CT{f:Gp->aa ai}{Y:aa Gp}{Z:aa ai}(S:Z.length+1=Y.length)(Q:1<=Z.length)(P:Z.length<=8)(W:∀g∈Y,Ed f g)(R:HK Z):HV (f_ f Y Z)/\(f_ f Y Z).length<=40/\nj (f_ f Y Z)=Z/\∀p∈f_ f Y Z,uv p:=by
 have e:=p_ f Y Z S;have w:=O6 (f:=λg=>(f g).length) Y λg h=>(W g h).1;have X:=LQ Y Z S W λn h=>(R.dc n h).1;refine⟨⟨λq=>?_,lY [_,_,_,_] 1 [4,4] [V0,.n 100,V1,.p V2 (.n 1),V2,.n 8,.p V0 (.n 1),V3,V3,.m 4 V1] rfl (Qf S) P (Qe e) w,λp V=>?_,λp V=>?_⟩,lY [_,_,_,_] 1 [4,4] [V0,.n 40,V1,.p V2 (.n 1),V2,.n 8,.p V0 (.n 1),V3,V3,.m 4 V1] rfl (Qf S) P (Qe e) w,X,λp V O=>?_⟩;·rw[q] at X;have:Z=[]:=X.symm;rw[this] at Q;exact aJ Q (by decide)
 ·rcases rN Y Z p V with h|⟨g,U,T⟩;·have:=R.len p h;exact Z1 [V0,.n 100,V0,.n 4] rfl (Qe this)
  ·have:=((W g U).2 p T).2.1;exact Z1 [V0,.n 100,V0,.n 1] rfl this
 ·rcases rN Y Z p V with h|⟨g,U,T⟩;·exact R.free p h
  ·exact((W g U).2 p T).2.2
 ·rcases rN Y Z p V with h|⟨g,U,T⟩;·exact(R.dc p h).2
  ·rw[((W g U).2 p T).1] at O;exact tf O
theorem CU(a b:ai)(r s:aa ai)(h:a≠b):∀p:aa ai,El (p++a::r) (p++b::s)=decide (a.cps.toList<b.cps.toList):=by
 intro p;induction p with |nil=> show (if a=b then El r s else decide (a.cps.toList<b.cps.toList))=_;rw[aI h]|cons x p Z=>
  show (if x=x then El (p++a::r) (p++b::s) else _)=_;rw[aW rfl];exact Z
theorem O7{p:aa ai}{a b:ai}{r:aa ai}(h:a≠b):(fD aC (p++a::r) [p++a::r,p++[b]]=p++a::r/\fD aj (p++a::r) [p++a::r,p++[b]]=p++[b])\/(fD aC (p++a::r) [p++a::r,p++[b]]=p++[b]/\fD aj (p++a::r) [p++a::r,p++[b]]=p++a::r):=by
 have e:∀Z,fD Z (p++a::r) [p++a::r,p++[b]]=if jm Z (p++[b]) (p++a::r) then p++[b] else p++a::r:=λZ=>by
  show (if jm Z (p++[b]) (if jm Z (p++a::r) (p++a::r) then p++a::r else p++a::r) then p++[b] else (if jm Z (p++a::r) (p++a::r) then p++a::r else p++a::r))=_;rw[ite_self]
 rw[e,e];have Y:jm aC (p++[b]) (p++a::r)=decide (b.cps.toList<a.cps.toList):=CU b a [] r (Ne.symm h) p;have X:jm aj (p++[b]) (p++a::r)=decide (a.cps.toList<b.cps.toList):=CU a b r [] h p;rw[Y,X];by_cases q:a.cps.toList<b.cps.toList
 ·left;rw[eF q,gA (List.lt_asymm q)];exact⟨rfl,rfl⟩
 ·right;have W:b.cps.toList<a.cps.toList:=by exact mR λz=>(λq=>h (rG q)) (List.le_antisymm (List.not_lt.mp z) (List.not_lt.mp q))
  rw[gA q,eF W];exact⟨rfl,rfl⟩
theorem Js{F:Fc}{n:ah}{s:IS}{r:aa IS}{P:Fl->AS->Prop}{σ:AS}(J:AS->Prop)(Y:∀σ',J σ'->VS F n r P σ')(h:(∀σ',J σ'->VS F n r P σ')->VX F n s (λfl Z=>match fl with|.next=>VS F n r P Z|fl=>P fl Z) σ):VS F (n+1) (s::r) P σ:=h Y
theorem Jt{F:Fc}{n i:ah}{v:AV}{P:AS->Prop}{σ:AS}(h:P {σ with loc:=σ.loc.set i (af v)}):Pp F (n+2) [.ji i] v P σ:=h
noncomputable def lF(l:aa (aA AV)):aa (aA AV):=l++bN (24-l.length) none
noncomputable def B0(sc:aa aq):aa DV:=sc.map .int
section
variable{K:ah}{H:aa AO}{P:Fl->AS->Prop}{r:aa IS}
theorem O8{sc:aa aq}(O:sc.length<=63)(h:VS (c6 K) 58 r P ⟨lF [af (.d (.lst (B0 sc))),af (.d (.lst (bQ (numsOf sc)))),af (.d (.int (CS sc:ah)))],H⟩):VS (c6 K) 60 (.asg [(.ji 1)] (.bin .Add (.comp aC 2 [] [1] (.bin .Mod (.loc 1) (.k (.int 100000))) (.slc (.loc 0) (af (.k (.int 1))) (af (.k (.int 4))) none) []) (.lst aC [(.k (.int 59)),(.k (.int 72)),(.k (.int 55243)),(.k (.int 19)),(.k (.int 144))]))::.asg [(.loc 2)] (.ite (.cmp .NotEq (.loc 0) (.lst aC [])) (.bin .Mod (.sub (.loc 0) (.k (.int 0))) (.k (.int 100000))) (.k (.int 263)))::r) P ⟨lF [af (.d (.lst (B0 sc)))],H⟩:=by
 have W:(B0 sc).length=sc.length:=bB _;have Y:100<bw:=by decide
 have V:pe (B0 sc) (af 1) (af 4) none=B0 ((sc.take 4).drop 1):=by
  rw[show (1:aq)=((1:ah):aq) from rfl,show (4:aq)=((4:ah):aq) from rfl,zU];unfold B0;rw[List.map_drop,wu]
 refine And.intro (Z3 [V0,V1,V2,.n 63,V0,V2,.p (.n 100) (.n 1),V1] rfl O (Qe W) Y) ⟨nofun,?_⟩;rw[V];refine aP _ rfl ?_;refine iY (f:=λx=>match x with|.int z=>.int (z.fmod 100000)|_=>.none) (L:=λa=>[none,a]) (λU U=>rfl) _ _ none ?_ ?_ ?_
 ·intro x T M Q h;(refine aQ (gP T) λz U X=>?_;subst X);exact And.intro (by decide) h
 ·rw[bB,gX,dU];exact br (cA (eV _)) (br (br (kg _ _) (wO 4 _)) (by decide))
 ·intro a;refine⟨trivial,?_⟩;refine And.intro rfl ⟨n5 rfl,?_⟩;have e:([]++(B0 ((sc.take 4).drop 1)).map (λx=>match x with|.int z=>DV.int (z.fmod 100000)|_=>.none))++e_ AV.dv [AV.d (.int 59),.d (.int 72),.d (.int 55243),.d (.int 19),.d (.int 144)]=bQ (numsOf sc):=by
   unfold B0 numsOf bQ;rw[fc,b5,c8,b5];congr 1;refine gk λx U=>?_;show DV.int _=.int _;rw[(rM x).2]
  refine And.intro ?_ ?_;·rw[<-bU,e,bQ,bB];exact Z2 [V0,V1,.p (.n 100) (.n 1),V1,V0,.n 8] rfl Y (Ab sc).2
  rw[e];refine Jt (n:=56) ?_;refine Js (n:=58) (s:=.asg [(.loc 2)] (.ite (.cmp .NotEq (.loc 0) (.lst aC [])) (.bin .Mod (.sub (.loc 0) (.k (.int 0))) (.k (.int 100000))) (.k (.int 263)))) (r:=r) (P:=P) (λJ=>J=⟨lF [af (.d (.lst (B0 sc))),af (.d (.lst (bQ (numsOf sc)))),af (.d (.int (CS sc:ah)))],H⟩) (λI S=>by rw[S];exact h) λN=>?_;refine And.intro rfl ⟨by decide,?_⟩;refine And.intro ⟨nL λx T=>by(refine aQ (gP T) λz U X=>?_;subst X);rfl,rfl⟩ ?_;refine And.intro (λh=>?_) λh=>?_
  ·have R:B0 sc≠[]:=λq=>Ka h (by rw[q];rfl);obtain⟨x,Z,rfl⟩:∃x Z,sc=x::Z:=by induction sc using aO with |nil=>exact aJ rfl R|cons x Z=>exact kZ x Z rfl
   refine And.intro (by exact Z2 [.p V0 (.n 1),.n (2^62),V1,.n 63,V0,V1] (by kernel_rfl) O (Qe W)) ?_;refine And.intro (by decide) (N _ ?_);rw[(rM x).2];rfl
  ·have:sc=[]:=List.map_eq_nil_iff.mp (by
    have:=OS h;exact(DV.lst.inj this));subst this;exact N _ rfl
noncomputable def O9(x:DV):DV:=match x with|.int z=>gD (oq z.toNat)|_=>.none
noncomputable def O_(ns:aa ah)(x:DV):DV:=match x with|.int z=>.lst (bQ (nI z.toNat (ns.getD z.toNat 0)))|_=>.none
noncomputable def lz(Z:aa (aa ah)):aa DV:=Z.map λl=>.lst (bQ l)
theorem LR{sc:aa aq}{ns:aa ah}{b:ah}(W:ns.length<=8)(V:∀n∈ns++[b],n<100000)(h:VS (c6 (K+1)) 56 r P ⟨lF [af (.d (.lst (B0 sc))),af (.d (.lst (bQ ns))),af (.d (.int b)),af (.d (.lst ((Eb ns b).map gD))),none,af (.d (.lst (lz (rowsOf ns))))],H⟩):VS (c6 (K+1)) 58 (.asg [(.loc 3)] (.comp aC 3 [] [1] (.call (.bR (.ref 403)) [(.loc 1)]) (.bin .Add (.ji 1) (.lst aC [(.loc 2)])) [])::.asg [(.loc 5)] (.comp aC 4 [(3,1)] [1] (.call (.bR (.ref 396)) [(.loc 1),(.sub (.ji 3) (.loc 1))]) (.call (.bR (.type "range")) [(.call (.bR (.builtin "len")) [(.ji 1)])]) [])::r) P ⟨lF [af (.d (.lst (B0 sc))),af (.d (.lst (bQ ns))),af (.d (.int b))],H⟩:=by
 have Z:100<bw:=by decide
 have Y:(bQ ns).length=ns.length:=bB _;refine And.intro rfl ⟨n5 rfl,?_⟩;have O:bQ ns++e_ AV.dv [AV.d (.int b)]=bQ (ns++[b]):=by rw[ly];rfl
 refine And.intro (by rw[<-bU,O,bQ,bB,bU];show _+1<=_;exact Z2 [.p V0 (.n 1),V1,V0,.n 8,.p (.n 100) (.n 1),V1] rfl W Z) ?_;rw[O];refine aP _ rfl ?_;refine iY (f:=O9) (L:=λa=>[none,a,none]) (λU U=>rfl) _ _ none ?_ ?_ ?_
 ·intro x T S Q h;(refine aQ (gP T) λn N X=>?_;subst X);exact And.intro (by decide) (Ln (V n N) h)
 ·rw[bB,bU];show 0+(_+1)<=_;exact Z2 [.p (.n 0) (.p V0 (.n 1)),V1,V0,.n 8,.p (.n 100) (.n 1),V1] rfl W Z
 ·intro a;refine⟨trivial,?_⟩;have e:[]++(bQ (ns++[b])).map O9=(Eb ns b).map gD:=by rw[fc,b5,b5];rfl
  rw[e];refine And.intro (by exact Z2 [.p V0 (.n 1),.n (2^62),V1,.n 8,V0,V1] (by kernel_rfl) W (Qe Y)) ?_;rw[Y];refine aP _ (iW (a:=0) (b:=ns.length) (by exact⟨Z0 [.p (.n 0) (.n 1),.n (2^62)] (by kernel_rfl),Z1 [.p V0 (.n 1),.n (2^62),V0,.n 8] (by kernel_rfl) W⟩)) ?_;refine iY (f:=O_ ns) (L:=λa=>[none,a,none,af (.d (.lst (bQ ns)))]) (λU U=>rfl) _ _ none ?_ ?_ ?_
  ·intro x T S Q h;(refine aQ (gP T) λk R X=>?_;subst X);have R:k<ns.length:=by
    have:=List.mem_range'.mp R;exact aQ this λi h e=>by rw[e,eV,Nat.one_mul];exact h
   refine And.intro (by exact Z2 [.p V0 (.n 1),.n (2^62),V1,.n 8,V0,V1] (by kernel_rfl) W (Qe Y)) (bO (show (bQ ns)[k]?=af (.int (ns.getD k 0:ah)) by rw[bQ,dN,oN,c7 R];rfl) ?_);exact And.intro (by decide) (DX h)
  ·rw[i4];exact Z3 [.p (.n 0) V0,V1,V2,.n 8,.p (.n 100) (.n 1),V1,V0,V2] rfl W Z Q0
  ·intro a;refine⟨⟨rfl,trivial⟩,?_⟩;have e:[]++(cV 0 ns.length).map (O_ ns)=lz (rowsOf ns):=by
    rw[fc,nK];unfold lz rowsOf;rw[b5];rfl
   rw[e];exact h
noncomputable def Pa(x:DV):DV:=match x with |.lst l=>.str (nameOf (l.map λd=>match d with|.int z=>z.toNat|_=>0))|_=>.none
theorem rO(xs:aa ah):Pa (.lst (bQ xs))=.str (nameOf xs):=by
 show DV.str (nameOf ((bQ xs).map _))=_;rw[b5];congr 2;exact List.map_id' _
noncomputable def Ut(x:DV):DV:=match x with|.int z=>.str ⟨#[z.toNat]⟩|_=>.none
theorem B3:∀l:aa ah,(bX ("":ai) (l.map λc=>(⟨#[c]⟩:ai))).cps.toList=l:=by
 intro Z;induction Z with |nil=>exact rfl|cons c Y X=>induction Y using aO with|nil=>exact rfl|cons d l=>rw[nZ,nZ,X];rfl
theorem B4{xs:aa ah}(h:jZ xs):(byteArr (xs.map λ(k:ah)=>(k:aq))).toList.map (·.toNat)=xs:=by
 rw[b5,b5];refine(gk (g:=id) λk Z=>?_).trans (List.map_id _);have:=h.lt k Z;show (UInt8.ofNat (k:aq).toNat).toNat=k;exact iF this
theorem LU{l5:aa (aA AV)}(J:l5.length=5){X:aa (aa ah)}(I:∀r∈X,jZ r)(G:X.length<=8)(h:VS (c6 (K+4)) 55 r P ⟨lF (l5++[af (.d (.lst (lz X))),af (.d (.lst (aT (X.map nameOf))))]),H⟩):VS (c6 (K+4)) 56 (.asg [(.loc 6)] (.comp aC 4 [] [1] (.met (.k (.str "")) .join [(.comp aC 3 [] [1] (.call (.bR (.builtin "chr")) [(.loc 1)]) (.call (.bR (.ref 283)) [(.call (.bR (.type "bytes")) [(.loc 1)])]) [])]) (.loc 5) [])::r) P ⟨lF (l5++[af (.d (.lst (lz X)))]),H⟩:=by
 obtain⟨a0,a1,a2,O,N,rfl⟩:∃a0 a1 a2 O N,l5=[a0,a1,a2,O,N]:=by refine iV l5 J λa r q=>iV r q λb r q=>iV r q λc r q=>iV r q λd r q=>iV r q λe r q=>len0 r q (PM a b c d e rfl)
 have W:100<bw:=by decide
 refine aP (lz X) rfl ?_;refine iY (f:=Pa) (L:=λa=>[none,a,none,none]) (λU U=>rfl) _ _ none ?_ ?_ ?_
 ·intro x F S Q h;(refine aQ (gP F) λY E Z=>?_;subst Z);rw[rO] at h;have T:=I Y E;refine And.intro rfl ?_;refine lX (Y.map λ(k:ah)=>(k:aq)) (by unfold bQ;rw[b5];rfl) (λn D=>?_) (by rw[bB];rcases T.len with h|h|h<;>rw[h]<;>decide) ?_
  ·(refine aQ (gP D) λk C Z=>?_;subst Z);have:=T.lt k C;exact⟨bJ [_] [] 1 [] [.n 0,.c V0] rfl,bJ [_] [] 1 [] [.p (.c V0) (.n 1),.n 256,.c (.p V0 (.n 1)),.c (.n 256)] rfl (Qn this)⟩
  refine And.intro (by decide) ?_;have V:(nP Y).length=4:=(mF T).1;refine LN (xs:=Y) (B4 T) T λB M=>?_;have R:B.toList.length=4:=by rw[<-V,<-M,bB]
  refine aP _ rfl ?_;refine iY (f:=Ut) (L:=λa=>[none,a,none]) (λU U=>rfl) _ _ none ?_ ?_ ?_
  ·intro y A S Q h;(refine aQ (gP A) λc U Z=>?_;subst Z);have:=UInt8.toNat_lt c;exact And.intro ⟨bJ [_] [] 1 [] [.n 0,.c V0] rfl,bJ [_] [] 1 [] [.c V0,.n 1114111,.c (.p V0 (.n 1)),.c (.n (2^8))] rfl (Qn this)⟩ h
  ·rw[bB];exact Z2 [.p (.n 0) V0,V1,.p (.n 100) (.n 1),V1,V0,.n 4] rfl W (Qe R)
  ·intro a;refine⟨trivial,?_⟩;refine cy ((nP Y).map λc=>⟨#[c]⟩) ?_ ?_ ?_;·rw[<-M,fc,b5,b5,b5];rfl
   ·rw[b5,bB,V];have:∀l:aa ah,(l.map ((λx:ai=>x.length) ∘λc=>(⟨#[c]⟩:ai))).sum=l.length:=λl=>by induction l with|nil=>rfl|cons c l z=>rw[ek,List.sum_cons,z,jE];exact iE _ _
    rw[this,V];exact(by decide:4+4*0<=16777216)
   ·have e:bX ("":ai) ((nP Y).map λc=>(⟨#[c]⟩:ai))=nameOf Y:=rG (B3 _);rw[e];exact h
 ·rw[bB];show 0+_<=_;exact Z2 [.p (.n 0) V0,V1,V0,.n 8,.p (.n 100) (.n 1),V1] rfl G W
 ·intro a;refine⟨trivial,?_⟩;have e:[]++(lz X).map Pa=aT (X.map nameOf):=by
   unfold lz aT;rw[fc,b5,b5];exact gk λY U=>rO Y
  rw[e];exact h
end
theorem lA(a b:aa ai):aT (a++b)=aT a++aT b:=c8
theorem HM{f:Gp->aa ai}{Y:aa Gp}{Z:aa ai}{k:ah}{g:Gp}(X:Z.length+1=Y.length)(W:Y[k]?=af g):f_ f (Y.drop k) (Z.drop k)=f g++((Z.take (k+1)).drop k++f_ f (Y.drop (k+1)) (Z.drop (k+1))):=by
 refine aZ (gi W) λV U=>?_;rw[e8 V,U];by_cases q:k<Z.length
 ·have e:(Z.take (k+1)).drop k=[Z[k]]:=by rw[mX,c7 q,List.drop_append,dU,dH (by rw[dU];exact wO _ _),show k-min k Z.length=0 by rw[eW (gy q),cB]];rfl
  rw[e,e8 q];rfl
 ·rw[dH (by exact(Qb q):Z.length<=k),dH (by exact Z3 [V0,.p V1 (.n 1),V0,.p V2 (.n 1),V2,V1] rfl (Qf X) (Qb q):Y.length<=k+1),dH (by rw[dU];exact br (qp _ _) (ff q))];show f g=f g++([]++[]);rw[bY,bY]
section
variable{K:ah}{H:aa AO}{P:Fl->AS->Prop}{r:aa IS}
theorem Pb{a0 a1 a2 a5:aA AV}{Y:aa Gp}{Z:aa ai}(D:Z.length+1=Y.length)(C:Z.length<=8)(v:(f_ (·.1) Y Z).length<=40)(u:(f_ (·.2) Y Z).length<=40)(h:∀Q,VS (c6 K) 52 r P ⟨lF [a0,a1,a2,af (.d (.lst (Y.map gD))),Q,a5,ju Z,ju (f_ (·.1) Y Z),ju (f_ (·.2) Y Z)],H⟩):VS (c6 K) 55 (.asg [(.loc 7)] (.lst aC [])::.asg [(.loc 8)] (.lst aC [])::.fr .plain (.loc 4) (.call (.bR (.type "range")) [(.call (.bR (.builtin "len")) [(.loc 3)])]) [.asg [(.loc 7)] (.bin .Add (.bin .Add (.loc 7) (.sub (.sub (.loc 3) (.loc 4)) (.k (.int 0)))) (.slc (.loc 6) (af (.loc 4)) (af (.bin .Add (.loc 4) (.k (.int 1)))) none)),.asg [(.loc 8)] (.bin .Add (.bin .Add (.loc 8) (.sub (.sub (.loc 3) (.loc 4)) (.k (.int 1)))) (.slc (.loc 6) (af (.loc 4)) (af (.bin .Add (.loc 4) (.k (.int 1)))) none))]::r) P ⟨lF [a0,a1,a2,af (.d (.lst (Y.map gD))),none,a5,ju Z],H⟩:=by
 have X:100<bw:=by decide
 have W:(Y.map gD).length=Y.length:=bB _;refine And.intro rfl ⟨by decide,?_⟩;refine And.intro rfl ⟨by decide,?_⟩;refine And.intro (by exact Z3 [.p V0 (.n 1),.n (2^62),V1,.p V2 (.n 1),V2,.n 8,V0,V1] (by kernel_rfl) (Qf D) C (Qe W)) ?_;refine ko (aP _ (iW (a:=0) (by exact⟨Z0 [.p (.n 0) (.n 1),.n (2^62)] (by kernel_rfl),Z3 [.p V0 (.n 1),.n (2^62),V1,.p V2 (.n 1),V2,.n 8,V0,V1] (by kernel_rfl) (Qf D) C (Qe W)⟩)) ?_);rw[W];refine jg (I:=λt B=>∃(k:ah) (Q:aA AV) (f s:aa ai),t=cV k Y.length/\B=⟨lF [a0,a1,a2,af (.d (.lst (Y.map gD))),Q,a5,ju Z,ju f,ju s],H⟩/\f_ (·.1) Y Z=f++f_ (·.1) (Y.drop k) (Z.drop k)/\f_ (·.2) Y Z=s++f_ (·.2) (Y.drop k) (Z.drop k)) ?_ ?_ _ _ ?_
 ·(refineλB V=>eR V λk Q f s O N U T=>?_;clear V;subst N);have O:=gj O;rw[dH O] at U T;have U:f_ (·.1) Y Z=f:=U.trans (bY f);have T:f_ (·.2) Y Z=s:=T.trans (bY s);rw[<-U,<-T];exact h Q
 ·(refineλx t B S=>eR S λk Q f s O M U T R l j i=>?_;clear S;subst M);(refine cL (j9 O) λA z y=>?_;subst z;subst y);obtain⟨g,w⟩:∃g,Y[k]?=af g:=⟨_,c7 A⟩;rw[HM D w,<-bV,<-bV] at U T;have l1:=bu gW U;have l2:=bu gW T;simp only[bU] at l1 l2;have q:pe (aT Z) (af (k:aq)) (af ((k:aq)+1)) none=aT ((Z.take (k+1)).drop k):=by
   have:=zU (aT Z) k (k+1);rw[jV,uh] at this;exact this
  have L:=bA f;have J:=bA s;have G:=bA g.1;have F:=bA g.2;have E:=bA ((Z.take (k+1)).drop k);have o:(Y.map gD).length<2^62:=by exact Z3 [.p V0 (.n 1),.n (2^62),V1,.p V2 (.n 1),V2,.n 8,V0,V1] (by kernel_rfl) (Qf D) C (Qe W)
  have m:(aT Z).length<=bw:=by exact Z3 [V0,V1,V2,.n 8,.p (.n 100) (.n 1),V1,V0,V2] rfl C X (Qe (bA Z))
  refine And.intro o (bO (pN w) (And.intro (by decide:2<2^62) ?_));refine And.intro (Z8 [.p V0 V1,V2,V3,.n 40,.p (.n 100) (.n 1),V2,.p (.p (.p V4 V5) V6) V7,V3,V0,V4,V1,V5] rfl v X (Qf l1) (Qe L) (Qe G)) ?_;refine And.intro m ⟨nofun,?_⟩;rw[q];refine And.intro (by rw[bU];exact Z9 [.p (.p V0 V1) V2,V3,V4,.n 40,.p (.n 100) (.n 1),V3,.p (.p (.p V5 V6) V7) V8,V4,V0,V5,V1,V6,V2,V7] rfl v X (Qf l1) (Qe L) (Qe G) (Qe E)) ?_;refine And.intro o (bO (pN w) (And.intro (by decide:2<2^62) ?_));refine And.intro (Z8 [.p V0 V1,V2,V3,.n 40,.p (.n 100) (.n 1),V2,.p (.p (.p V4 V5) V6) V7,V3,V0,V4,V1,V5] rfl u X (Qf l2) (Qe J) (Qe F)) ?_;refine And.intro m ⟨nofun,?_⟩;rw[q];refine And.intro (by rw[bU];exact Z9 [.p (.p V0 V1) V2,V3,V4,.n 40,.p (.n 100) (.n 1),V3,.p (.p (.p V5 V6) V7) V8,V4,V0,V5,V1,V6,V2,V7] rfl u X (Qf l2) (Qe J) (Qe F) (Qe E)) ?_;rw[<-lA,<-lA,<-lA,<-lA];exact l _ trivial (qF (k+1) _ _ _ rfl rfl U T)
 ·exact qF 0 none [] [] rfl rfl rfl rfl
end
noncomputable def ahead(c n:ah):ah:=if c=0 then n-1 else c-1
theorem Eh{l:aa DV}{c:ah}{d:DV}{f:DV->Prop}(Z:c<l.length)(e:l[ahead c l.length]?=af d)(h:f d):MQ l ((c:aq)-1) f:=by cases c with |zero=>exact⟨Z,bO e h⟩|succ c=>
  rw[show (((c+1:ah):aq)-1)=(c:aq) from wj (c:aq) 1];exact bO e h
section
variable{K:ah}{H:aa AO}{P:Fl->AS->Prop}{r:aa IS}
theorem uA{x:ai}{Z:aa ai}(Y:x.length<=1)(X:Z.length<=110)(h:∀p∈Z,p.length<=100):(Z.map (·.length)).sum+Z.length*x.length<=16777216:=by
 have W:=yv h;have V:Z.length*x.length<=Z.length*1:=Nat.mul_le_mul_left _ Y;exact lY [_,_,_] 1 [101] [.p V0 V1,.n 16777216,V2,.n 110,V0,.r 100 V2,V1,.r 1 V2] (by kernel_rfl) X W V
theorem Pc{a0 a1 C z:aA AV}{b c:ah}{Z A B:aa ai}{V:aa (aa ah)}{x w:ai}(N:∀r∈V,jZ r)(U:Z=V.map nameOf)(q:1<=Z.length)(T:Z.length<=8)(v:∀n∈Z,n.length<=100)(R:HV A)(O:HV B)(o:c=b/72%Z.length)(u:Z[c]?=af x)(j:Z[ahead c Z.length]?=af w)(M:x∈B)(S:A.length<=40)(W:B.length<=40)(h:VS (c6 (K+1)) 47 r P ⟨lF [a0,a1,af (.d (.int b)),C,z,af (.d (.lst (lz V))),ju Z,ju A,ju B,af (.d (.int c)),ju (B.take (cO x B)++[w]),ju Z,af (.d (.str (("/":ai)++bX ("/":ai) Z))),ju ([A,B].map px)],H⟩):VS (c6 (K+1)) 52 (.asg [(.loc 9)] (.bin .Mod (.bin .FloorDiv (.loc 2) (.k (.int 72))) (.call (.bR (.builtin "len")) [(.loc 6)]))::.asg [(.loc 10)] (.bin .Add (.slc (.loc 8) none (af (.met (.loc 8) .index [(.sub (.loc 6) (.loc 9))])) none) (.lst aC [(.sub (.loc 6) (.bin .Sub (.loc 9) (.k (.int 1))))]))::.asg [(.loc 11)] (.comp aC 3 [] [1] (.call (.bR (.ref 389)) [(.loc 1)]) (.loc 5) [])::.asg [(.loc 12)] (.bin .Add (.k (.str "/")) (.met (.k (.str "/")) .join [(.loc 11)]))::.asg [(.loc 13)] (.lst aC [(.bin .Add (.k (.str "///")) (.met (.k (.str "/")) .join [(.loc 7)])),(.bin .Add (.k (.str "///")) (.met (.k (.str "/")) .join [(.loc 8)]))])::r) P ⟨lF [a0,a1,af (.d (.int b)),C,z,af (.d (.lst (lz V))),ju Z,ju A,ju B],H⟩:=by
 have Y:2^20<bw:=by decide
 have X:=bA Z;have J:=bA B;have I:c<Z.length:=(gi u).1;have i:((b:aq).fdiv 72).fmod ((aT Z).length:ah)=(c:aq):=by rw[show (72:aq)=((72:ah):aq) from rfl,ru,p7,X,o]
 refine And.intro (by decide) ⟨Lm (m:=72) _ (by decide),?_⟩;refine And.intro (by exact Z2 [.p V0 (.n 1),.n (2^62),V1,.n 8,V0,V1] (by kernel_rfl) T (Qe X)) ?_;refine And.intro (Int.ne_of_gt (bJ [_,_] [] 1 [] [.p (.n 0) (.n 1),.c V0,.c (.n 1),.c V1,.c V1,.c V0] rfl (Qn q) (Qn (Qf X)))) ?_;rw[i];have t:(aT Z).length<2^62:=by exact Z2 [.p V0 (.n 1),.n (2^62),V1,.n 8,V0,V1] (by kernel_rfl) T (Qe X)
 refine And.intro rfl ?_;refine And.intro t (bO (cP u) ?_);refine lX B rfl M (by exact Z2 [V0,V1,V0,.n 40,.p (.n (2^20)) (.n 1),V1] (by kernel_rfl) W Y) ?_;refine And.intro (show (aT B).length<=bw by exact Z3 [V0,V1,V2,.n 40,.p (.n (2^20)) (.n 1),V1,V0,V2] (by kernel_rfl) W Y (Qe J)) ⟨nofun,?_⟩;rw[p8,jV];refine And.intro t (Eh (l:=aT Z) (c:=c) (by exact Z3 [.p V0 (.n 1),V1,V2,V1,.p V0 (.n 1),V2] rfl (Qf X) I) (by rw[X];exact cP j) ?_);refine And.intro rfl ⟨n5 rfl,?_⟩;have G:(aT (B.take (cO x B))).length<=40:=by rw[bA,dU];exact br (qp _ _) W
 refine And.intro (show _+1<=bw by exact Z2 [.p V0 (.n 1),V1,.p (.n (2^20)) (.n 1),V1,V0,.n 40] (by kernel_rfl) Y G) ?_;have F:aT (B.take (cO x B))++e_ AV.dv [AV.d (.str w)]=aT (B.take (cO x B)++[w]):=by rw[lA];rfl
 rw[F];refine aP (lz V) rfl ?_;refine iY (f:=Pa) (L:=λa=>[none,a,none]) (λs s=>rfl) _ _ none ?_ ?_ ?_
 ·intro y g acc Q h;(refine aQ (gP g) λE hm D=>?_;subst D);rw[rO] at h;exact And.intro (by decide) (BZ (N E hm) h)
 ·rw[bB];have:=bu gW U;rw[bB] at this;exact Z3 [.p (.n 0) V0,V1,V2,.n 8,.p (.n (2^20)) (.n 1),V1,V0,V2] (by kernel_rfl) T Y (Qf this)
 ·intro a;refine⟨trivial,?_⟩;have e:[]++(lz V).map Pa=aT Z:=by
   rw[U];unfold lz aT;rw[fc,b5,b5];exact gk λE s=>rO E
  rw[e];have one:("/":ai).length=1:=rfl;have three:("///":ai).length=3:=rfl;have jn:=join_le (Z1 [V0,.n 110,V0,.n 8] rfl T) v;have jA:=join_le (by have:=R.len;exact Z1 [V0,.n 110,V0,.n 40] rfl S) R.le;have jB:=join_le (by have:=O.len;exact Z1 [V0,.n 110,V0,.n 40] rfl W) O.le;refine And.intro rfl ?_;refine cy Z rfl (uA (by decide) (Z1 [V0,.n 110,V0,.n 8] rfl T) v) ?_;refine And.intro (by exact Z3 [.p V0 V1,V2,.p (.n (2^20)) (.n 1),V2,V0,.n 1,V1,.n 12000] (by kernel_rfl) Y (Qe one) jn) ?_;refine And.intro rfl ?_;refine cy A rfl (uA (by decide) (Z1 [V0,.n 110,V0,.n 40] rfl S) R.le) ?_;refine And.intro (by exact Z3 [.p V0 V1,V2,.p (.n (2^20)) (.n 1),V2,V0,.n 3,V1,.n 12000] (by kernel_rfl) Y (Qe three) jA) ?_;refine And.intro rfl ?_;refine cy B rfl (uA (by decide) (Z1 [V0,.n 110,V0,.n 40] rfl W) O.le) ?_;refine And.intro (by exact Z3 [.p V0 V1,V2,.p (.n (2^20)) (.n 1),V2,V0,.n 3,V1,.n 12000] (by kernel_rfl) Y (Qe three) jB) ?_;refine And.intro rfl ⟨n5 rfl,?_⟩;rw[LH R.ne,LH O.ne];exact h
end
theorem Ju:∀Z:aa ai,(∀p∈Z,∀c∈p.cps.toList,c<256)->∀c∈(bX ("/":ai) Z).cps.toList,c<256:=by
 intro Z;induction Z with |nil=> intro _ _ h;cases h|cons p X W=>induction X using aO with |nil=> intro Y c h;exact Y p (.head _) c h|cons q r=>
   intro Y c h;rw[yu,vV] at h;rcases d9 h with h|h;·exact Y p (.head _) c h
   ·rcases gq h with rfl|h;·decide
    ·exact W (λx V=>Y x (.tail _ V)) c h
theorem HN{s:ai}(h:∀c∈s.cps.toList,c<256):qC s=aj:=by
 unfold qC;rw[<-Array.all_toList,List.all_eq_true];intro c Z;have:=h c Z;exact eF (by exact Z1 [.p V0 (.n 1),.n 1114112,.p V0 (.n 1),.n 256] (by kernel_rfl) this)
theorem Ks(gt:aH)(n:aa ai):n=fD gt n [n]:=by
 show n=(if jm gt n n then n else n);rw[ite_self]
section
variable{K:ah}{H:aa AO}{P:Fl->AS->Prop}{r:aa IS}
theorem Pd{a0 a1 a2 o m a5 a6 a7 a8:aA AV}{c:ah}{Z A B C:aa ai}{x w:ai}{q:aa ai}(h1:1<=Z.length)(j:Z.length<=8)(i:HK Z)(G:HV A)(F:HV B)(M:HV C)(X:nj A=Z)(W:nj B=Z)(E:∀p∈A,uv p)(D:∀p∈B,uv p)(hx:Z=Z.take c++x::q)(S:x≠w)(z:nj C=Z.take c++[w])(R:c<Z.length)(h:VS (c6 (K+4)) 45 r P ⟨lF [a0,a1,a2,o,m,a5,a6,a7,a8,af (.d (.int c)),ju C,ju Z,af (.d (.str (("/":ai)++bX ("/":ai) Z))),ju ([A,B].map px)],H⟩):VS (c6 (K+4)) 47 (.gU (.cmp .NotEq (.lst aC [(.call (.bR (.ref 377)) [(.sub (.loc 13) (.k (.int 0)))]),(.call (.bR (.ref 377)) [(.sub (.loc 13) (.k (.int 1)))]),(.call (.bR (.ref 382)) [(.loc 13)])]) (.lst aC [(.loc 12),(.loc 12),(.loc 12)])) [.ret (.k (.bool aC))] []::.gU (.cmp .NotEq (.call (.bR (.ref 382)) [(.bin .Add (.loc 13) (.lst aC [(.bin .Add (.k (.str "///")) (.met (.k (.str "/")) .join [(.loc 10)]))]))]) (.bin .Add (.k (.str "/")) (.met (.k (.str "/")) .join [(.slc (.loc 11) none (af (.loc 9)) none)]))) [.ret (.k (.bool aC))] []::r) P ⟨lF [a0,a1,a2,o,m,a5,a6,a7,a8,af (.d (.int c)),ju C,ju Z,af (.d (.str (("/":ai)++bX ("/":ai) Z))),ju ([A,B].map px)],H⟩:=by
 have Y:2^20<bw:=by decide
 have O:∀n∈Z,n.length<=100:=λn h=>by have:=i.len n h;exact Z1 [V0,.n 100,V0,.n 4] rfl (Qe this)
 have ok:qC (("/":ai)++bX ("/":ai) Z)=aj:=HN λd hd=>by
  rw[nZ] at hd;rcases d9 hd with hd|hd;·rw[R2] at hd;rw[g_ hd];decide
  ·exact Ju Z i.ok d hd
 have L:∀l:aa DV,l=[DV.str (("/":ai)++bX ("/":ai) Z),.str (("/":ai)++bX ("/":ai) Z),.str (("/":ai)++bX ("/":ai) Z)]->(DV.lst l).eH 8=aj:=λl e=>by
  subst e;refine nL λx hx=>?_;have:x=.str (("/":ai)++bX ("/":ai) Z):=by
   rcases gq hx with h|hx;·exact h
   ·rcases gq hx with h|hx;·exact h
    ·exact g_ hx
  subst this;exact ok
 have sA:(("/":ai)++bX ("/":ai) (A.filter λp=>!dc p))=(("/":ai)++bX ("/":ai) Z):=by rw[show A.filter (λp=>!dc p)=Z from X]
 have sB:(("/":ai)++bX ("/":ai) (B.filter λp=>!dc p))=(("/":ai)++bX ("/":ai) Z):=by rw[show B.filter (λp=>!dc p)=Z from W]
 refine And.intro (by decide:2<2^62) ?_;refine And.intro (by decide) ?_;refine rz G E ?_;rw[sA];refine And.intro (by decide:2<2^62) ?_;refine And.intro (by decide) ?_;refine rz F D ?_;rw[sB];refine And.intro (by decide) ?_;refine ou (Q:=[A,B]) (p0:=A) (Q':=[B]) (s1:=Z) (s2:=Z) (d:=Z.length) ?_ rfl (show 2<=10 by decide) ?_ ?_ rfl (bf _) (bf _) (.inl rfl) ?_
 ·intro ps hps;rcases gq hps with rfl|hps;·exact G
  ·rw[g_ hps];exact F
 ·show Z=fD aC (nj A) [nj B];rw[X,W];exact Ks _ _
 ·show Z=fD aj (nj A) [nj B];rw[X,W];exact Ks _ _
 rw[wJ];refine And.intro rfl ⟨n5 rfl,?_⟩;refine And.intro rfl ⟨n5 rfl,?_⟩;refine And.intro ⟨L _ rfl,L _ rfl⟩ ?_;refine And.intro (λh=>aJ rfl (Ka h)) λø=>?_;have jC:=join_le (by have:=M.len;exact Z1 [V0,.n 110,V0,.n 100] rfl this) M.le;have three:("///":ai).length=3:=rfl;have one:("/":ai).length=1:=rfl;refine And.intro rfl ?_;refine cy C rfl (uA (by decide) (by have:=M.len;exact Z1 [V0,.n 110,V0,.n 100] rfl this) M.le) ?_;refine And.intro (by exact Z3 [.p V0 V1,V2,.p (.n (2^20)) (.n 1),V2,V1,.n 12000,V0,.n 3] (by kernel_rfl) Y jC (Qe three)) ?_;refine And.intro rfl ⟨n5 rfl,?_⟩;refine And.intro (n5 rfl) ?_;rw[LH M.ne];refine And.intro (by decide) ?_;have J:∀s,(s=Z\/s=Z.take c++[w])->s.take c=Z.take c/\c<s.length:=λs hs=>by
  have N:(Z.take c).length=c:=by rw[dU];exact eW (gy R)
  rcases hs with rfl|rfl;·exact⟨rfl,R⟩
  ·refine⟨qi N,?_⟩;rw[bU,N];show c<c+1;exact Z1 [.p V0 (.n 1),.p V0 (.n 1)] rfl
 have V:Z[c]?=af x/\(Z.take c++[w])[c]?=af w:=by
  have N:(Z.take c).length=c:=by rw[dU];exact eW (gy R)
  constructor
  ·conv=>lhs;rw[hx]
   rw[jh ((Qe N)),N,cB];rfl
  ·rw[jh ((Qe N)),N,cB];rfl
 obtain⟨U,T,e1,e2,y,g,hd⟩:∃U T,U=fD aC (nj A) ([B,C].map nj)/\T=fD aj (nj A) ([B,C].map nj)/\(U=Z\/U=Z.take c++[w])/\(T=Z\/T=Z.take c++[w])/\∃a b,U[c]?=af a/\T[c]?=af b/\a≠b:=by
  have e:∀I,fD I (nj A) ([B,C].map nj)=fD I (Z.take c++x::q) [Z.take c++x::q,Z.take c++[w]]:=λI=>by
   show fD I (nj A) [nj B,nj C]=_;rw[X,W,z,<-hx]
  have f:=O7 (p:=Z.take c) (r:=q) S;rw[<-hx] at f e;rcases f with ⟨v,u⟩|⟨v,u⟩;·exact Kv Z (Z.take c++[w]) (by rw[e,v]) (by rw[e,u]) (.inl rfl) (.inr rfl) (bM x w V.1 V.2 S)
  ·exact Kv (Z.take c++[w]) Z (by rw[e,v]) (by rw[e,u]) (.inr rfl) (.inl rfl) (bM w x V.2 V.1 S.symm)
 refine ou (Q:=[A,B,C]) (p0:=A) (Q':=[B,C]) (s1:=U) (s2:=T) (d:=c) ?_ rfl (show 3<=10 by decide) e1 e2 ((J U y).1.trans (J T g).1.symm) (gy (J U y).2) (gy (J T g).2) (.inr hd) ?_
 ·intro ps hps;rcases gq hps with rfl|hps;·exact G
  ·rcases gq hps with rfl|hps;·exact F
   ·rw[g_ hps];exact M
 rw[(J U y).1];have t:=bA Z;have mt:∀p∈Z.take c,p.length<=100:=λp hp=>O p (oG hp);have lt:(Z.take c).length<=100:=by rw[dU];exact br (qp _ _) (br j (by decide))
 have jt:=join_le (Z1 [V0,.n 110,V0,.n 100] rfl lt) mt;refine And.intro rfl ?_;refine And.intro (show (aT Z).length<=bw by exact Z3 [V0,V1,V2,.n 8,.p (.n (2^20)) (.n 1),V1,V0,V2] (by kernel_rfl) j Y (Qe t)) ⟨nofun,?_⟩;rw[p8,jV];refine cy (Z.take c) rfl (uA (by decide) (Z1 [V0,.n 110,V0,.n 100] rfl lt) mt) ?_;refine And.intro (by exact Z3 [.p V0 V1,V2,.p (.n (2^20)) (.n 1),V2,V0,.n 1,V1,.n 12000] (by kernel_rfl) Y (Qe one) jt) ?_;refine And.intro (λh=>aJ rfl (Ka h)) λø=>?_;exact h
end
theorem CK.sum{i Y:ah}:∀{T:aa gR}{k:ah},CK i Y T->k<=Y->(∀b∈T,k<=b.1)->(T.flatMap pM).length+k<=Y:=by
 intro W;induction W with |nil=> intro k _ X _;simpa using X|cons b T V=>
  intro k h X U;have S:=h.hi b (.head _);have R:=U b (.head _);have o:=List.pairwise_cons.mp h.ord;have:=V (k:=b.1+b.2.2) (⟨λx Z=>h.pos x (.tail _ Z),λx Z=>h.lo x (.tail _ Z),λx Z=>h.hi x (.tail _ Z),o.2⟩) S (λx Z=>o.1 x Z);rw[List.flatMap_cons,bU];have e:(pM b).length=b.2.2:=by unfold pM;rw[bB,jz]
  exact Z6 [.p (.p V0 V1) V2,V3,V2,V4,.p V1 (.p V4 V5),V3,V0,V5] rfl R this (Qe e)
theorem HO{F:Fc}{n:ah}{H:aa AO}{P:aa DV->AS->Prop}:∀(Z acc:aa gR)(Y X W:aA AV),acc.length+Z.length<=2^20->(∀Y X W,P ((acc++Z).map bD) ⟨[none,Y,X,W],H++[.list ((acc++Z).map bD)]⟩)->qO (rD [1,2,3]) (λQ σ=>Q aj σ) (VE F (n+10) (.tup [(.loc 1),(.loc 2),(.loc 3)])) H (Z.map mD) (acc.map bD) P ⟨[none,Y,X,W],H++[.list (acc.map bD)]⟩:=by
 intro Z;induction Z with |nil=>exactλacc Y X W V U=>⟨rfl,by have:=U Y X W;rw[bY] at this;exact this⟩|cons b Z T=>
  intro acc Y X W V U;refine⟨rfl,rfl,λS=>?_,nofun⟩;refine And.intro rfl ⟨n5 rfl,?_⟩;refine lX (bD b) rfl ?_ rfl ?_;·rw[bB];exact dg (by exact Z2 [.p V0 (.n 1),.n (2^20),.p V0 (.p V1 (.n 1)),.n 1048576] (by kernel_rfl) V:acc.length<2^20) (by decide)
  ·have:=T (acc++[b]) (af (.d (.int b.1))) (af (.d (.int b.2.1))) (af (.d (.int b.2.2))) (by simp at V ⊢;exact Z2 [.p (.p V0 (.n 1)) V1,.n 1048576,.p V0 (.p V1 (.n 1)),.n 1048576] (by kernel_rfl) V) (by rw[bV];exact U);have this:=c8▸this;exact this
theorem dec_is{p:Prop}{i:o8 p}(h:p):@decide p i=aj:=by cases i with|isTrue _=>rfl|isFalse q=>exact aJ h q
theorem Jv{X:aa AO}{ks:ah}{A B:aa ai}(h:uu X ks A B){f:az}:ni X (.ref ks) (.user f)=aj:=by
 obtain⟨_,_,_,_,_,_,_,Z,_⟩:=h;exact jw Z
section
variable{K:ah}{PP:AV->aa AO->Prop}
theorem Pe{a0 a1 a2 u a5 a6 a9 BV BW J I:aA AV}{Z:aa Gp}{A B:aa ai}{T:aa gR}(H:Z.length<=20)(G:∀g∈Z,(gD g).eH 8=aj)(t:∀g∈Z,g.1.length<2^20/\g.2.length<2^20)(S:A.length<=40)(E:B.length<=40)(s:Jo A B (0,A.length,0,B.length) T)(Y:CK 0 A.length T)(R:emit 0 0 Z (BN Z)=T.flatMap pM)(r:∀(p q:ah)(x:ai),dc x=aC->B[p]?=af x->B[q]?=af x->p=q)(o:PP (.d (.bool aj)) []):VS (c6 (K+6)) 45 [.asg [(.loc 14)] (.call (.bR (.ref 242)) [(.bR (.ref 410)),(.loc 7),(.loc 8)]),.asg [(.loc 15)] (.comp aC 4 [] [1,2,3] (.tup [(.loc 1),(.loc 2),(.loc 3)]) (.met (.loc 14) (.user 203) []) []),.ret (.cmp .Eq (.loc 15) (.bin .Add (.call (.bR (.ref 443)) [(.call (.bR (.ref 436)) [(.loc 3)])]) (.lst aC [(.tup [(.call (.bR (.builtin "len")) [(.loc 7)]),(.call (.bR (.builtin "len")) [(.loc 8)]),(.k (.int 0))])])))] (c_ [] PP) ⟨lF [a0,a1,a2,af (.d (.lst (Z.map gD))),u,a5,a6,ju A,ju B,a9,BV,BW,J,I],[]⟩:=by
 have D:2^20<bw:=by decide
 have Q:=bA A;have P:=bA B;have O:(emit 0 0 Z (BN Z)).length<=40:=by
  rw[R];have:=Y.sum (k:=0) (bW _) (λb L=>bW _);exact Z2 [V0,.n 40,V1,.n 40,.p V0 (.n 0),V1] rfl S this
 have W:=Y.len (k:=0) (bf _) (λb L=>bW _);have V:=CP T (0,0,0);have C:lb (emit 0 0 Z (BN Z))=nJ (0,0,0) T:=by rw[R,Jb Y.pos]
 refine Jk (ks:=0) (A:=A) (B:=B) rfl (Z1 [.p V0 (.n 1),.n 200,V0,.n 40] rfl E) λX v hw m=>⟨rfl,?_⟩;refine And.intro (Jv v) ?_;refine LG v s ⟨Z1 [.p V0 (.n 1),.n 64,V0,.n 40] rfl S,by exact Z1 [.p V0 (.n 1),.n (2^20),V0,.n 40] (by kernel_rfl) E⟩ r λX' p z=>?_;refine aP _ z ?_;refine HO (F:=c6 (K+6)) (n:=31) (nJ (0,0,0) T++[(A.length,B.length,0)]) [] none none none (by simp;exact Z4 [V0,.n 1048575,V1,.n 40,V2,V3,V0,.p V2 (.n 1),V3,V1] (by kernel_rfl) S W V Q0) λy1 y2 y3=>⟨trivial,?_⟩;have j:((nJ (0,0,0) T++[(A.length,B.length,0)]).map bD).length<=100:=by rw[bB,bU];exact Z4 [.p V0 (.n 1),.n 100,V1,.n 40,V2,V3,V0,.p V2 (.n 1),V3,V1] rfl S W V Q0
 have N:((nJ (0,0,0) T).map bD).length<=99:=by rw[bB];exact Z4 [V0,.n 99,V1,.n 40,V2,V3,V0,.p V2 (.n 1),V3,V1] rfl S W V Q0
 have M:∀l:aa gR,(DV.lst (l.map bD)).eH 8=aj:=λl=>nL λx i=>by
  (refine aQ (gP i) λb L y=>?_;subst y);rfl
 refine And.intro (by decide) ?_;refine Hl (by exact Z1 [.p V0 (.n 1),.n (2^20),V0,.n 20] (by kernel_rfl) H) G t (by exact Z1 [V0,.n (2^20),V0,.n 40] (by kernel_rfl) O) λX2 p2 h f w=>?_;refine And.intro (by decide) ?_;refine D3 w (by exact Z1 [.p V0 (.n 1),.n (2^20),V0,.n 40] (by kernel_rfl) O) λX3 p3 c a U=>?_;have U:=C▸U;refine And.intro (by exact Z2 [.p V0 (.n 1),.n (2^62),V1,.n 40,V0,V1] (by kernel_rfl) S (Qe Q)) ?_;refine And.intro (by exact Z2 [.p V0 (.n 1),.n (2^62),V1,.n 40,V0,V1] (by kernel_rfl) E (Qe P)) ?_;refine And.intro rfl ⟨n5 rfl,?_⟩;refine And.intro rfl ⟨n5 rfl,?_⟩;conv=>whnf
 rw[U];refine And.intro (by show _+1<=_;exact Z2 [.p V0 (.n 1),V1,.p (.n (2^20)) (.n 1),V1,V0,.n 99] (by kernel_rfl) D N) ?_;have e:(nJ (0,0,0) T).map bD++e_ AV.dv [AV.d (DV.tup (e_ AV.dv [AV.d (.int ((aT A).length:ah)),.d (.int ((aT B).length:ah)),.d (.int 0)]))]=(nJ (0,0,0) T++[(A.length,B.length,0)]).map bD:=by rw[Q,P,c8];rfl
 rw[e];refine bO bh ?_;refine And.intro ⟨M _,M _⟩ ?_;rw[dec_is rfl];exact aP _ (.inl rfl) (lX 0 (bf _) rfl ⟨rfl,(d_ []).mpr λL L e=>nomatch e⟩ o)
theorem LV{sc:aa aq}(m:sc.length<=63)(E:PP (.d (.bool aj)) []):Fn (K+7) 448 [.d (.lst (B0 sc))] [] PP:=by
 refine OC.use OD rfl λwf=>?_;refine bq (Ab sc) λR U=>?_;have N:=Jr sc;have M:=LO sc;refine O8 m ?_;generalize numsOf sc=ns at R U N;generalize CS sc=b at M;refine LR U (λn hn=>?_) ?_
 ·rcases d9 hn with hn|hn;·exact N n hn
  ·rw[g_ hn];exact M
 refine bq (LP (ns:=ns) U) λY J=>?_;have I:(rowsOf ns).length=ns.length:=by unfold rowsOf;rw[bB,jz]
 refine LU (l5:=[_,_,_,_,_]) rfl J (Z2 [V0,.n 8,V1,.n 8,V0,V1] rfl U (Qe I)) ?_;have S:ux ns=(rowsOf ns).map nameOf:=rfl;have X:(ux ns).length=ns.length:=by rw[S,bB,I]
 have W:(ux ns).length+1=(Eb ns b).length:=by unfold Eb;rw[bB,bU,X];rfl
 have Q:∀g∈Eb ns b,Ed (·.1) g/\Ed (·.2) g:=λg Q=>by
  (refine aQ (gP Q) λn ø H=>?_;subst H);exact Ec n
 rw[<-S];generalize ux ns=Z at Y X W S;generalize Eb ns b=V at W Q;generalize rowsOf ns=rs at J I S;refine rA (CT (f:=(·.1)) W (Z2 [.n 1,V0,.n 5,V1,V1,V0] rfl R (Qf X)) (Z2 [V0,.n 8,V1,.n 8,V0,V1] rfl U (Qe X)) (λg h=>(Q g h).1) Y) λpA k jA oA=>?_;refine rA (CT (f:=(·.2)) W (Z2 [.n 1,V0,.n 5,V1,V1,V0] rfl R (Qf X)) (Z2 [V0,.n 8,V1,.n 8,V0,V1] rfl U (Qe X)) (λg h=>(Q g h).2) Y) λu t jB oB=>?_;refine Pb W (Z2 [V0,.n 8,V1,.n 8,V0,V1] rfl U (Qe X)) k t λy4=>?_;have G:b/72%Z.length<Z.length:=dZ _ (Z2 [.p (.n 0) (.n 1),V0,.n 5,V1,V1,V0] rfl R (Qf X));generalize hc:b/72%Z.length=c at G;obtain⟨x,s⟩:∃x,Z[c]?=af x:=⟨_,c7 G⟩;have D:ahead c Z.length<Z.length/\ahead c Z.length≠c:=by unfold ahead;split<;>lia
 obtain⟨w,r⟩:∃w,Z[ahead c Z.length]?=af w:=⟨_,c7 D.1⟩;have j:x≠w:=λe=>by
  rw[<-e] at r;refine aZ (gi s) λi q=>?_;refine aZ (gi r) λq3 q4=>?_;have nd:=List.pairwise_iff_getElem.mp (List.nodup_iff_pairwise_ne.mp Y.nodup);rcases Nat.lt_trichotomy (ahead c Z.length) c with z|z|z;·exact nd _ _ q3 i z (q4.trans q.symm)
  ·exact D.2 z
  ·exact nd _ _ i q3 z (q.trans q4.symm)
 refine bq (Eg (f:=(·.2)) V Z c x W (λg h=>(Q g h).2) (λn h=>(Y.dc n h).1) Y.nodup s) λn1 n2=>?_;have F:=j3 r;have hu:=HL (f:=(·.2)) V Z (λg h=>(Q g h).2) Y.nodup;have L:yp (f_ (·.1) V Z) (f_ (·.2) V Z) 0 (f_ (·.1) V Z).length 0 (f_ (·.2) V Z).length V Z:=⟨⟨bW _,bf _,by rw[wJ,mV]⟩,⟨bW _,bf _,by rw[wJ,mV]⟩,W,λg h=>⟨λy P=>((Q g h).1.2 y P).1,λy P=>((Q g h).2.2 y P).1⟩,λn h=>(Y.dc n h).1⟩;refine aZ (Tr.ex V.length 0 0 V (λe=>by rw[e] at W;cases W) (bf _)) λT o=>?_;have a:∀g∈V,(gD g).eH 8=aj:=λg h=>by
  have str:∀l:aa ai,(∀y∈l,dc y=aj)->(DV.lst (aT l)).eH 7=aj:=λl m=>nL λd hd=>by
   (refine aQ (gP hd) λy P H=>?_;subst H);have hj:=m y P;unfold dc at hj;rw[Bool.or_eq_true,decide_eq_true_iff,decide_eq_true_iff] at hj;rcases hj with rfl|rfl<;>exact HN (by decide)
  show DV.eH 8 (.tup [.lst (aT g.1),.lst (aT g.2)])=aj;refine z8 (n:=7) (l:=[.lst (aT g.1),.lst (aT g.2)]) λd hd=>?_;rcases gq hd with rfl|hd;·exact str g.1 λy P=>((Q g h).1.2 y P).1
  ·rw[g_ hd];exact str g.2 λy P=>((Q g h).2.2 y P).1
 have C:=o.Ma;have hT2:=o.prs;have O:=p_ (·.1) V Z W;have v:DZ l1 V=(f_ (·.1) V Z).length:=by
  unfold DZ;change _=wd l1 V at O;exact Ac [V0,V1,V2,.p V1 (.n 1),.p V0 (.n 1),V2] rfl (Eq.symm O) (eO (Z2 [.n 1,V0,.p V1 (.n 1),V0] rfl (Qe O)))
 rw[v,eV] at C;have hsz:∀g∈V,g.1.length<2^20/\g.2.length<2^20:=λg h=>⟨er (Q g h).1.1 (by decide),er (Q g h).2.1 (by decide)⟩;have Uu:Jo (f_ (·.1) V Z) (f_ (·.2) V Z) (0,(f_ (·.1) V Z).length,0,(f_ (·.2) V Z).length) T:=cG V Z L o;clear L o O v;generalize f_ (·.1) V Z=A at*;generalize f_ (·.2) V Z=B at*;have pC:HV (B.take (cO x B)++[w]):=by
  refine⟨by simp,?_,λp E=>?_,λp E=>?_⟩;·rw[bU,dU];show _+1<=100;exact br (fh (br (qp _ _) t)) (by decide)
  ·rcases d9 E with h|h;·exact u.le p (oG h)
   ·rw[g_ h,Y.len w F];decide
  ·rcases d9 E with h|h;·exact u.free p (oG h)
   ·rw[g_ h];exact Y.free w F
 have jC:nj (B.take (cO x B)++[w])=Z.take c++[w]:=by
  unfold nj at n1 ⊢;rw[r6,n1,iC,aW (by rw[(Y.dc w F).1];rfl)];rfl
 have Uv:Z=Z.take c++x::Z.drop (c+1):=by
  refine aZ (gi s) λi q=>?_;rw[<-q,List.getElem_cons_drop,iB]
 refine Pc J S (Z2 [.n 1,V0,.n 5,V1,V1,V0] rfl R (Qf X)) (Z2 [V0,.n 8,V1,.n 8,V0,V1] rfl U (Qe X)) (λn h=>by have:=Y.len n h;exact Z1 [V0,.n 100,V0,.n 4] rfl (Qe this)) pA u hc.symm s r n2 k t ?_;refine Pd (K:=K+2) (Z2 [.n 1,V0,.n 5,V1,V1,V0] rfl R (Qf X)) (Z2 [V0,.n 8,V1,.n 8,V0,V1] rfl U (Qe X)) Y pA u pC jA jB oA oB Uv j jC G ?_;exact Pe (Z3 [V0,.n 20,V1,.n 8,V2,V1,V0,.p V2 (.n 1)] rfl U (Qe X) (Qf W)) a hsz k t Uu C hT2.symm hu E
end
end cZ
end
section
open PySem PySem.W PySem.W.X PySem.Calls PyProof.Rows
namespace cZ
set_option tactic.hygienic true in theorem LW{P:ez}{h:aM}{a:az}{is:aa aq}{vs:aa ao}(Y:Well P h (.ref a) (.list (ofPys (is.map PyData.int))))(X:h.IsList a vs.toArray):h.get? a=af (bS vs.toArray 0):=by
 refine cC X λT W S q=>aZ q λn V=>?_;cases Y with|list Z R=>
  rename_i U;have e:=W.symm.trans Z;cases e;have e:U.toArray=vs.toArray:=by
   have:=V;cases this;rfl
  rw[Z,e];rfl
set_option tactic.hygienic true in theorem HP{w:aG}{h:aM}{T:ai->aA az}{args:aa WData}{Z:aa ao}{as:aa az}(Y:PySem.Challenge.rw_ik0101_01.row.claim.pre args=aj)(X:WData.layableAll args=aj)(W:ReadsAllW PySem.Challenge.rw_ik0101_01.row.records T h Z args as)(V:WellAll w.params h Z args)(U:∀a∈as,(a==o4)=aC):∃(is:aa aq)(vs:aa ao)(a:az),Z=[.ref a]/\h.get? a=af (bS vs.toArray 0)/\IntsAre vs is/\is.length<=63:=by
 wrow_args Y X W V U;rename_i is _ _ _ _ _ _ _ a vs _ S _ R _ Q _ P _;exact rC is vs a rfl (LW R S) Q (Qz ((Qd P)))
theorem Jw{h:aM}{ρ:aa az}{vs:aa ao}{is:aa aq}(q:IntsAre vs is):RS h ρ (B0 is) vs:=by induction q with|nil=>rfl|cons n t Y Z=>exact bM _ _ rfl ⟨t,rfl⟩ Z
theorem LX:s7 "law" (.ref 448):=λw=>List.map_inj_left.mp (zQ w) ("law",.ref 448) (j3 (i:=20) (by kernel_rfl))
theorem Jx(args:aa WData):PySem.Challenge.rw_ik0101_01.row.claim.post args (.bool aj) args=aj:=by kernel_rfl!
theorem Ei(args:aa WData):∀cls,PySem.Challenge.rw_ik0101_01.row.claim.raises args cls=aC:=λcls=>by kernel_rfl!
theorem Pf:c5 7 callerA:=⟨AA rfl,AA rfl,rfl⟩
theorem Pg(w:aG)(h:aM):gv w [] h []:=⟨rfl,.nil,λa Z=>aJ Z oH,λi l e=>(by rw[List.getElem?_nil] at e;cases e),λk o a e=>(by rw[List.getElem?_nil] at e;cases e)⟩
theorem HQ{w:aG}{Y Z:ay}{D:ai->aA ao}{O:az}{args:aa WData}{X:aa ao}{as:aa az}(T:Z.heap.Ns kr D)(top:k6 w Z.heap)(N:D "law"=af (.ref O))(B:Z.gens=#[])(S:PySem.Challenge.rw_ik0101_01.row.claim.pre args=aj)(Q:WData.layableAll args=aj)(M:ReadsAllW PySem.Challenge.rw_ik0101_01.row.records (classAt Y.heap) Z.heap X args as)(L:WellAll w.params Z.heap X args)(J:∀a∈as,(a==o4)=aC):aB (aE pw w) callerA (dW (.ref O) X) (λv s'=>GoodWG PySem.Challenge.rw_ik0101_01.row.claim (classAt Y.heap) (ExcName.means Y.heap) args Z (Except.ok (Flow.ret v)) s') (λe s'=>GoodWG PySem.Challenge.rw_ik0101_01.row.claim (classAt Y.heap) (ExcName.means Y.heap) args Z (Except.error e) s') Z:=by
 have I:O=448:=by
  (refine mL T λo k j A z i y=>?_;clear T);refine mL (Ns.keep (.of_isNs (vn w)) λo=>top _ o) λg x u H G f t=>?_;have H:=A▸H;cases H;have G:=z▸G;cases G;have e:=(y "law").symm.trans (t "law");rw[N,LX w] at e;cases e;rfl
 subst I;have W:=Jx args;have F:=Ei args;(refine mL (HP S Q M L J) λis c a E s r q=>?_;subst E);have V:449<=Z.heap.objs.size:=by
  refine cz (FI (show A6.contains 448=aj by decide) w) λo U p U=>?_;exact b9 (top _ _ p)
 refine bk (gc ((LV (K:=0) q rfl:Fn 7 448 [.d (.lst (B0 is))] [] (λv U=>v=.d (.bool aj))) w callerA [] Z Pf ⟨top,V,Pg w _⟩ [.ref a] (bM _ _ rfl (R.lst s (by simp) (Jw r)) rfl))) (λv C P=>kY P λav H' n m U U l st=>?_) λU U h=>h.elim;subst m;subst l;exact GoodW.toG ⟨.inl (xB (.bool aj) (.bool aj) [] rfl F (.bool aj) W (λU=>⟨.nil,nofun⟩)),λb o h=>st.keep b o h (by simp),st.os,st.gens.trans B⟩
end cZ
end
section
open PySem PySem.W PySem.W.X PySem.Calls PyProof.Rows
theorem PySem.Challenge.cw_ik0101_01_holds : PySem.Challenge.rw_ik0101_01.Holds := by
 refine holds_law cZ.E2 λsaid=>?_;w_on;refine holds_openX (q:=cZ.qV) (loose:=cZ.qH) (Xt:=cZ.PY) (XP:=XL cZ.qV []) (Yf:=cZ.R9) (Ya:=cZ.R_) (N:=7000) cZ.left (λs e=>xl_of s (Bool.and_eq_true_iff.mp e).1) XL.keeps (by rfl) (by rfl) (by rfl) (λs e=>recFacts_of (Bool.and_eq_true_iff.mp e).2) (by rfl) (by assumption) (by decide+kernel) ⟨rfl,rfl,rfl,rfl,rfl,by decide+kernel⟩ ?hw ?hc;case hw=>w_witness2
 case hc=> intro w s₀ s₁ mg mb G y fa o pm cd doc dV kV ho hd hcd hD hmg hg args vals as L hpre hlay hrd R0 hlo;have hy:s₀.heap=cZ.Hf w.params:=bu Prod.fst y;exact cZ.HQ G.T.g (λb o h=>L.keeps b o (by rw[hy];exact h)) hmg hg hpre hlay hrd R0 hlo
end
