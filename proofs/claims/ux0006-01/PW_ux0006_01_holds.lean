import PyProof.Rows.All
import Wide.All
import OpenK.AllK
import Wide.FinOn
import PySem.Challenge.RW_ux0006_01
set_option Elab.async false
set_option linter.all false
set_option maxRecDepth 100000
set_option maxHeartbeats 8000000
set_option genInjectivity false
set_option genSizeOf false
set_option bootstrap.genMatcherCode false
open Array renaming any_toList->Qr,append_empty->PE,ext'->O6,getElem?_eq_some_iff->Ou,length_toList->ue,size_append->NN,size_extract->Qp,toList->Fg,toList_append->Nh
open Bool renaming and_eq_true->gH,and_eq_true_iff->oS,and_false->FV,eq_iff_iff->qi,false_and->AF,false_eq_true->jh,false_ne_true->d_,false_or->PK,not_not->N_,or_eq_false_iff->Hu,or_eq_true->oY,or_false->Pp,true_and->AX
open Except renaming ok->iE
open Exists renaming elim->bO
open False renaming elim->dA
open ForInStep renaming yield->kG
open Function renaming comp->QA,comp_apply->Rd,comp_def->Bk
open Int renaming add_assoc->Q2,add_le_add_right->AQ,add_right_comm->PM,add_zero->xO,fmod_nonneg_of_pos->QG,le_of_lt->Oy,le_of_lt_add_one->PS,le_trans->p9,lt_of_le_of_lt->xt,lt_trans->uz,max_eq_right->Rg,mul_zero->Qi,natAbs_mul->FR,natCast_mul->NH,natCast_nonneg->eA,neg_le_neg->PT,neg_nonpos_of_nonneg->Hy,not_le->ug,not_lt->h_,ofNat->NC,ofNat_inj->Nj,ofNat_le->lC,ofNat_lt->m5,ofNat_ne_zero->PH,one_mul->Rv,pow_succ->w_,sub_le_self->Ql,sub_one_lt_of_le->PI,toNat_le->FO,toNat_natCast->xv,toNat_of_nonneg->Hq,toNat_of_nonpos->OT,zero_add->GZ,zero_mul->Q_
open Int.ofNat renaming inj->OA
open List renaming all_eq_true->wX,any_map->NM,append_assoc->dn,append_eq_nil_iff->xB,append_nil->gj,append_toArray->P9,casesOn->sk,cons_append->eM,cons_ne_nil->qr,contains_iff_mem->ON,drop_drop->me,drop_eq_getElem_cons->Av,drop_left->AP,drop_nil->NY,drop_of_length_le->mj,drop_zero->Bg,exists_cons_of_ne_nil->rO,extract_eq_take_drop->Hw,filterMap_cons->xb,filterMap_cons_none->M_,filterMap_cons_some->Pw,filter_cons_of_neg->xx,filter_cons_of_pos->uj,filter_eq_nil_iff->FU,filter_eq_self->Qc,findIdx?_cons->xP,flatten->Rq,flatten_append->qa,flatten_cons->gG,foldl->Hi,foldl_cons->mY,forIn_cons->BW,forIn_nil->Rk,forall_mem_cons->bt,getD_eq_getElem?_getD->jg,getElem?_append_left->pF,getElem?_append_right->j5,getElem?_drop->QQ,getElem?_eq_getElem->kF,getElem?_eq_none->oR,getElem?_eq_none_iff->uP,getElem?_eq_some_iff->fX,getElem?_map->dQ,getElem?_range->uv,getElem?_set->RM,getElem?_set_ne->Pn,getElem?_take->Ri,getElem?_toArray->Cb,getElem_mem->Bj,head?_drop->lD,length->m3,length_append->aT,length_cons->dE,length_drop->ez,length_eq_zero_iff->Bx,length_flatten->OI,length_map->aP,length_nil->nL,length_pos_iff->Gk,length_range->eI,length_replicate->jC,length_reverse->wO,length_set->xj,length_singleton->hU,length_take->iG,length_zip->GO,lookup->fG,lookup_cons->eK,map->xD,mapM_cons->sg,map_append->dR,map_congr_left->xg,map_cons->bX,map_drop->sh,map_map->br,map_nil->fT,map_replicate->Gw,map_reverse->Qa,map_take->wZ,map_toArray->NS,mem_append->ei,mem_append_left->By,mem_cons->bJ,mem_cons_of_mem->cw,mem_cons_self->cj,mem_filter->uB,mem_map->dy,mem_of_getElem?->j8,mem_of_mem_drop->AI,mem_of_mem_eraseIdx->Pm,mem_of_mem_take->F_,mem_range->mZ,mem_replicate->oV,mem_reverse->Bp,mem_singleton->cx,nil_append->ef,nodup_append->Tg,nodup_cons->O_,not_mem_nil->a6,of_mem_zip->Qv,pairwise_cons->Ff,pairwise_iff_getElem->Tr,pairwise_map->Fd,prefix_append->j_,prefix_refl->jE,push_toArray->Qn,range->cE,range'->uG,range'_succ->Gn,range_succ->G5,range_succ_eq_map->QU,rec->xZ,replicate->bZ,replicate_succ->se,reverse_cons->BB,set_append_right->QW,set_set->AW,size_toArray->dH,sum->QJ,sum_append->G8,sum_cons->rP,take->An,take_add_one->nR,take_append_drop->A4,take_append_of_le_length->O5,take_length->uC,take_nil->AM,take_of_length_le->kv,take_succ_cons->Qy,take_zero->Gr,toArray->nG,toList_toArray->E3,zipWith->Hd,zip_cons_cons->ku,zip_map->Rm,zip_map'->wM,zip_nil_right->mU
open List.Pairwise renaming nil->Q7
open List.Perm renaming append_left->Y7,nodup_iff->ZO,swap->ZS
open List.cons renaming inj->nM,injEq->ZH
open List.forIn' renaming loop->xo
open Nat renaming add_assoc->nO,add_comm->gI,add_le_add->fU,add_le_add_left->fW,add_le_add_right->iS,add_left_cancel->OX,add_lt_add_left->Pj,add_right_comm->hH,add_sub_add_left->Qx,add_sub_cancel->OO,add_sub_cancel'->qk,add_sub_cancel_left->A8,add_zero->Gx,div_add_mod'->NZ,div_div_eq_div_mul->OW,div_lt_of_lt_mul->rU,le_add_left->dm,le_add_left_of_le->jY,le_add_right->c8,le_max_left->QI,le_max_right->Nl,le_of_eq->bS,le_of_lt->cq,le_of_lt_succ->fV,le_of_not_le->ud,le_of_not_lt->fC,le_of_sub_eq_zero->xI,le_of_succ_le->m4,le_of_succ_le_succ->AB,le_refl->a7,le_sub_of_add_le->Pf,le_succ->oW,le_succ_of_le->o4,le_trans->aw,le_zero->Ha,log2_lt->Rt,lt_add_left->OJ,lt_add_of_pos_right->Bf,lt_add_right->Qj,lt_irrefl->jH,lt_of_le_of_lt->bQ,lt_of_lt_of_le->cK,lt_of_not_le->uy,lt_of_sub_eq_succ->EV,lt_of_succ_lt->Aj,lt_of_succ_lt_succ->mV,lt_succ_of_le->oQ,lt_succ_of_lt->sf,lt_succ_self->iI,lt_trans->du,lt_trichotomy->Ss,max_le->QV,min_assoc->Fs,min_eq_left->oZ,min_eq_right->uD,min_le_left->uA,min_le_right->jZ,min_self->xn,mod_lt->cF,mul_comm->Qt,mul_le_mul->A5,mul_le_mul_left->ib,mul_le_mul_right->PN,mul_succ->um,ne_of_gt->jf,ne_of_lt->rN,not_le->j0,not_le_of_lt->nI,not_lt->iH,not_lt_of_le->qh,not_lt_of_lt->Oe,not_lt_zero->gk,not_succ_le_zero->OM,one_mul->AR,pred->qx,rec->BE,sub_add_cancel->qc,sub_eq_of_eq_add->r6,sub_eq_zero_of_le->rY,sub_le->iU,sub_le_of_le_add->Ak,sub_min_sub_right->NK,sub_ne_zero_of_lt->GY,sub_pos_of_lt->O3,sub_self->mn,succ->sH,succ_le_succ->fj,succ_ne_zero->rR,succ_pos->uq,succ_pred->PB,succ_sub->Br,zero_add->hK,zero_le->cJ,zero_lt_one->Ng,zero_mul->OD
open Nat.succ renaming inj->ux
open Option renaming bind_some->bo,getD_none->xr,getD_some->Gy,isNone_iff_eq_none->Qf,map->lA,map_eq_some_iff->ji,map_some->bz,none->aL,some->jI,some_ne_none->P_
open Option.some renaming inj->mx
open PUnit renaming unit->xJ
open Prod renaming fst->TC,snd->RE
open Prod.mk renaming inj->ZX,injEq->OR
open PyProof renaming noPylong_small->Zq
open PyProof.Rows renaming Attribute_name->OH,Fr->Nq,get?_update_seq->r8,listItems_at->AK,listUpdate_at->xc,seqEpoch_at->O2,typeIs_bool'->uk
open PySem renaming Addr->ak,Arguments->qu,Around->bg,Comprehension->Bv,DictEntry->lF,Env->aR,ExcName->FI,Expr->aJ,Fin->Hl,Flow->jF,FuncData->nQ,Heap->aO,IsPair->B7,IsPart->wQ,JoinOk->Az,Model->uM,NameKind->e7,Obj->iK,Operator->HJ,Params->AA,Pos->bM,Program->ft,PyData->aB,Reads->uo,Result->qg,Scope->bc,Sem->dS,Shared->ah,Slot->qb,Stmt->gK,Str->ae,TriplesOk->BD,Value->af,World->dB,aRefKeyMayBeTheName_at->Pd,args_listiter_next->FZ,builtinLookup_eq_fast->mf,call_gives->Q1,call_meets->qw,call_range_2->Pt,cellsFrom_ok->PU,codeAny_builtin->xd,codeAny_whileLoop->Sj,entryFor_of_tree->AE,entry_listiter_next->G4,getMethod_builtin->AY,isSubtype_stop->FN,isSubtype_type->rM,name_of_addr->Om,pastItsLine_dict->Q6,plainId_quiet->OQ,plainObj_wpAny_Assign_Attribute->NR,pushCells_keeps->O0,rangeSize_one->N8,seqIndex_of->FY,signature?_of->GN,slot_listiter_next->qe,typeIs_int->Nw,typeIs_str->qf,typeLookup_type->mh,wpAny_Assign_Name->yh,wpAny_Assign_stores->NT,wpAny_Call_NameR->o3,wpAny_Expr_any->Tn,wpAny_Name->sy,wpAny_Return_some->RY,wpAny_Slice->Nb,wpAny_While->T8,wpAny_alloc->Nv,wpAny_askSetting->Hx,wpAny_assignInOrder_more->T6,wpAny_assign_Name->HV,wpAny_assign_Tuple->T7,wpAny_attempt->wU,wpAny_bind->ar,wpAny_call->rZ,wpAny_callSpecial?_slot->xu,wpAny_call_entry->p_,wpAny_execs_cons->kH,wpAny_execs_nil->BU,wpAny_field->je,wpAny_getItem_list_slice->Og,wpAny_handled->Fh,wpAny_holding->mi,wpAny_isInstance->Oh,wpAny_ite_split->E4,wpAny_list_append_plain->OY,wpAny_load->Fe,wpAny_loadPart->sa,wpAny_lookBehind->Ro,wpAny_mkInt->E2,wpAny_mkStr->Ft,wpAny_mkText->AJ,wpAny_mono->e8,wpAny_newList->wY,wpAny_newObj_type->ql,wpAny_newTuple->Hv,wpAny_nsGet->Pq,wpAny_of_eq->d9,wpAny_pure->aU,wpAny_pyIter_enum->O9,wpAny_pyIter_list->OZ,wpAny_pyIter_listiter->A6,wpAny_pyIter_zip->NQ,wpAny_pyNext_list_item->RI,wpAny_pyNext_zip_end->RD,wpAny_rule->nJ,wpAny_runValue->NL,wpAny_seqItems->xy,wpAny_setField->uw,wpAny_setField_rec->GP,wpAny_specialOf->nK,wpAny_standAt->qt,wpAny_throw->G9,wpAny_truthy_bool->Ir,wpAny_typeOf->xM,wpAny_updatePart->Ox
open PySem.Around renaming under_plainId->Qz
open PySem.AutoListH renaming list___mul___list_int_3->Zc
open PySem.Builtin renaming bitAnd->gY,bitNot->rT,bitOr->Bw
open PySem.Builtin.Int renaming intBits->fD,intTooBig->GJ
open PySem.Builtin.List renaming listExtendWith->PG,listFitsIndex->AD,listTooLong->YW
open PySem.Builtin.Re renaming ReTarget->QT,reDrive->E_,reNamed->Nk,reNextFound->ZR,reNoCollectionInside->Za,reRawItems->Pe,reRawNat->NB,reRawOf->Oz,reRunToEnd->Nt,reSubstitute->QD,reTextOf->ZJ,reWholeTarget->O7
open PySem.Builtin.Str renaming occurrences->YY,strKind->GG,strSliceIndices->Y2
open PySem.Builtin.Tuple renaming tupleItemsOf->YS
open PySem.Calls renaming Constant_str->ZY,call_function_entry->Ap,call_len_list->Zf,evalArgs_plain->Y9,loadGlobal_global->YU,spliced_cons->Hp,spliced_nil->Fm
open PySem.Challenge renaming rw_ux0006_01->ZG,rw_ux0006_01->mc
open PySem.Code renaming builtin->Am
open PySem.Const renaming none->Ry
open PySem.EntryCells renaming newEntry->Pc
open PySem.Env renaming blockKind->BS,kindOf->jG
open PySem.Expr renaming Constant->Qo
open PySem.F renaming args_int_rmul_2->Zp,args_list_add_2->Y5,args_list_index_2->Zd,args_list_mul_2->Zm,args_list_pop_2->Zx,args_str_find_4->ZU,args_str_split_2->Ho,args_tuple_index_2->Zy,entry_int_rmul->ZQ,entry_list_add->ZE,entry_list_index->Zb,entry_list_mul->ZK,entry_list_pop->YZ,entry_str_find->Zz,entry_str_split->E9,entry_tuple_index->Zv,fills_int_mul->Y3,plainAttrs_list->ZC,plainAttrs_str->Y6,plainAttrs_tuple->ZM,slot_int_index->Y1,slot_int_rmul->PV,slot_list_add->Zt,slot_list_append->ur,slot_list_getitem->Hf,slot_list_index->PW,slot_list_mul->Y8,slot_list_pop->Fn,slot_str_endswith->Zo,slot_str_find->QH,slot_str_getitem->Qu,slot_str_join->Bo,slot_str_split->AN,slot_str_startswith->YX,slot_tuple_getitem->ZI,slot_tuple_index->PQ,store_object->Y_,type_list_append->uh,type_list_index->ZT,type_list_pop->Qq,type_str_endswith->ZD,type_str_find->Zj,type_str_join->Bh,type_str_split->YR,type_str_startswith->Ze,type_tuple_index->Zl
open PySem.Heap renaming SameBut->S8,get?_push_of_some->kD,get?_push_size->qG,get?_update_ne->lE,get?_update_other->EW,get?_update_self->qm,lt_size->j3,size_push->mX,size_update->PF
open PySem.Heap.Ns renaming new->Zu
open PySem.Heap.SameBut renaming update->Ax
open PySem.IsRange renaming new->GD
open PySem.Made renaming str->FE,val->QS
open PySem.Manifest renaming canonical->Y4,owners->Nc,sig_callable_iterator->Zn,sig_re_Pattern->ZL
open PySem.MeetsSeq renaming list_pop_at->Zw
open PySem.NameKind renaming cell->pj,free->qD
open PySem.Obj renaming cls_mapFields->Gu,data_mapFields->si,isFreed_of_fields->wN,mapFields->r9,mapSeq->gZ,putName->uE
open PySem.PyData renaming bool->A_,canLay0->kx,canLayAll0->eu,depth->iF,depthAll->dW,eqv->c6,eqvAll->jX,int->iV,keyHash->Fq,list->fm,strOk->qn,tuple->xm
open PySem.ScopeKind renaming function->Ni,isAnnotationScope->Np
open PySem.Sem renaming call->Rl
open PySem.SeqAt renaming list_indexAt->Zk,shaped->jD
open PySem.SeqAt.EqAt renaming bool_bool->NA,int_int->Zg
open PySem.Sre renaming Frame->wK,Seen->eH
open PySem.Stmt renaming FunctionDef->FG
open PySem.Str renaming append->Oq,empty->OP,join->PY,ofString->dz
open PySem.StrLaws renaming found_one->ZA,glued_eq_join->ZP,occBody->E5,occ_eq->Zh,partsBetween_eq->Zr,partsFrom->wI,sliceText->Rj,sliceText_nat->Y0
open PySem.Txt renaming endswith->wL,join->Bi,slice->iR,split->Bn,startswith->wV
open PySem.Value renaming bool->Bc,builtin->Q4,int->bV,isStr->FP,none->g_,ref->eJ,type->Rn
open PySem.Value.bool renaming inj->ZN
open PySem.W renaming CodeHd->ui,Frag->ZZ,Frag->o5,callWith_of->Pg,kas_ask->Fu,kas_sort->oX,kdk_args_next->Qm,kdk_entry_iter->PJ,kdk_entry_next->Na,kla_fn->Fz,kla_makeFunction->Ny,kla_obj->GQ,tabObj->ZV
open PySem.W.KatTups renaming cons->YT
open PySem.W.Looks renaming of_pure->Qe
open Std.Legacy renaming Range->ZF
open Std.Legacy.Range renaming forIn_eq_forIn_range'->YV
open String renaming ofList->NV
namespace Mine
open PySem
inductive AV where
 |none|bool (b:Bool)|int (i:Int)|str (s:ae)|ref (l:Nat)|val (v:af)
inductive AO where
 |gP
 |list (xs:List AV)
 |tup (xs:List AV)
 |dict (m:List (Nat×AV))
 |inst (cls:ak) (d:Nat)
 |cell (v:AV)
 |raw (o:iK)
 |bound (f:af) (self:AV)
 |nH (f:Nat) (cC:AV)
 |c_ (l:Nat) (i:Nat)
 |tab (es:List ((Nat×Nat)×Nat))
 |code (q:ae)
noncomputable abbrev St:=List AO
noncomputable abbrev aD:=List ak
noncomputable abbrev aj:=List (Nat×AV)
structure Cfg where
 prog:ft
 w:dB
 base:aO
 nm:Nat->ae
 inj:∀i j,nm i=nm j->i=j
 mg:ae->Option af
 mb:ae->Option af
 v9:base.Ns mainGlobals mg
 JZ:base.Ns builtinsNs mb
 nolimit:base.NoLimit
 pins:List (Nat×ak)
 K:ZZ
 eU:K.In base
 code:af
 qual:ae
noncomputable def RelV(ρ:aD):AV->af->Prop
 |.none,v=>v=.none
 |.bool b,v=>v=.bool b
 |.int i,v=>∃t,v=.int i t
 |.str s,v=>∃t,v=.str s t
 |.ref l,v=>∃a,ρ[l]?=some a/\v=.ref a
 |.val x,v=>v=x
inductive bu(ρ:aD):List AV->List af->Prop
 |nil:bu ρ [] []
 |cons {x v xs vs}:RelV ρ x v->bu ρ xs vs->bu ρ (x::xs) (v::vs)
theorem gJ{ρ aq:aD}(h:ρ<+:aq){l:Nat}{a:ak}(e:ρ[l]?=some a):aq[l]?=some a:=by
 obtain⟨t,rfl⟩:=h;exact(pF (fX.mp e).1).trans e
theorem RelV.mono{ρ aq:aD}(h:ρ<+:aq){x:AV}{v:af}(r:RelV ρ x v):RelV aq x v:=by
 cases x with
 |ref l=>exact r.imp λa q=>⟨gJ h q.1,q.2⟩
 |_=>exact r
theorem bu.mono{ρ aq:aD}(h:ρ<+:aq){xs:List AV}{vs:List af}(r:bu ρ xs vs):bu aq xs vs:=by
 induction r with
 |nil=>exact .nil
 |cons a b J=>exact .cons (a.mono h) J
theorem bu.length{ρ:aD}{xs:List AV}{vs:List af}(r:bu ρ xs vs):vs.length=xs.length:=by
 induction r with
 |nil=>rfl
 |cons a b J=>exact congrArg sH J
theorem bu.get{ρ:aD}{xs:List AV}{vs:List af}(r:bu ρ xs vs):∀{i:Nat}{x:AV},xs[i]?=some x->∃v,vs[i]?=some v/\RelV ρ x v:=by
 induction r with
 |nil=>intro i x e;cases e
 |cons a b J=>
  intro i x e;cases i with
  |zero=>cases e;exact⟨_,rfl,a⟩
  |succ i=>exact J e
theorem bu.append{ρ:aD}{xs:List AV}{vs:List af}{J:List AV}{ws:List af}(r:bu ρ xs vs)(h:bu ρ J ws):bu ρ (xs++J) (vs++ws):=by
 induction r with
 |nil=>exact h
 |cons a b N=>exact .cons a N
inductive gc(C:Cfg)(ρ:aD):List (Nat×AV)->List lF->Prop
 |nil:gc C ρ [] []
 |cons {k:Nat} {v:AV} {m:List (Nat×AV)} {gx:Int} {t:Tok} {V:af} {es:List lF}:RelV ρ v V->gc C ρ m es->gc C ρ ((k,v)::m) (⟨gx,.str (C.nm k) t,V⟩::es)
theorem gc.mono{C:Cfg}{ρ aq:aD}(h:ρ<+:aq){m:List (Nat×AV)}{es:List lF}(r:gc C ρ m es):gc C aq m es:=by
 induction r with
 |nil=>exact .nil
 |cons a b J=>exact .cons (a.mono h) J
noncomputable def qM(ρ:aD)(V:Option af)(r:Option Nat):Prop:=r.elim (V=none) λl=>∃c,ρ[l]?=some c/\V=some (.ref c)
theorem qM.mono{ρ aq:aD}(h:ρ<+:aq){V:Option af}{r:Option Nat}(x:qM ρ V r):qM aq V r:=by
 cases r with
 |none=>exact x
 |some l=>exact x.imp λc q=>⟨gJ h q.1,q.2⟩
noncomputable def kn(C:Cfg)(ρ:aD)(h:aO)(a:ak):AO->Prop
 |.gP =>True
 |.list xs=>∃vs,h.PlainList a vs.toArray/\bu ρ xs vs
 |.tup xs=>∃vs,h.get? a=some {cls:=.type "tuple",data:=.seq vs.toArray}/\bu ρ xs vs
 |.dict m=>∃es n,h.get? a=some {cls:=.type "dict",data:=.dict es.toArray n}/\gc C ρ m es
 |.inst c d=>∃da,ρ[d]?=some da/\h.get? a=some {cls:=.ref c,dict:=some da,data:=.plain }
 |.cell v=>∃V,h.IsCell a (some V)/\RelV ρ v V
 |.raw o=>h.get? a=some o
 |.bound f x=>∃V,h.get? a=some {cls:=.type "method",data:=.fields #[f,V]}/\RelV ρ x V
 |.nH f x=>∃fa V,ρ[f]?=some fa/\h.get? a=some {cls:=.type "callable_iterator",data:=.fields #[.ref fa,V,.bool false]}/\RelV ρ x V
 |.c_ l i=>∃J,ρ[l]?=some J/\h.IsListIter a J i
 |.tab es=>∃ps,h.get? a=some (ZV ps)/\BD ps.toList/\∀pos:bM,qM ρ (codeAmong pos ps.toList) (es.lookup (pos.line,pos.col))
 |.code q=>∃oc vs t,h.get? a=some oc/\oc.data=.fields vs/\vs[1]?=some (.str q t)
structure Rel(C:Cfg)(ρ:aD)(st:St)(h:aO):Prop where
 len:ρ.length=st.length
 nodup:ρ.Nodup
 out:∀a∈ρ,C.base.get? a=none
 live:∀a∈ρ,∃o,h.get? a=some o
 keep:∀b o,C.base.get? b=some o->h.get? b=some o
 objs:∀(l:Nat)(o:AO)(a:ak),st[l]?=some o->ρ[l]?=some a->kn C ρ h a o
 pin:∀p∈C.pins,ρ[p.1]?=some p.2
structure Go(X:ak->Prop)(ρ:aD)(s:ah)(aq:aD)(s':ah):Prop where
 pre:ρ<+:aq
 new:∀a∈aq,a∈ρ\/s.heap.get? a=none
 cI:∀a o,s.heap.get? a=some o->a∉ρ->¬X a->s'.heap.get? a=some o
 alive:∀a o,s.heap.get? a=some o->∃o',s'.heap.get? a=some o'
 os:s'.os=s.os
 gens:s'.gens=s.gens
noncomputable abbrev No:ak->Prop:=λ_=>False
theorem Go.refl{X:ak->Prop}{ρ:aD}{s:ah}:Go X ρ s ρ s:=
 ⟨jE _,λ_ h=>.inl h,λ_ _ h _ _=>h,λ_ o h=>⟨o,h⟩,rfl,rfl⟩
theorem Go.trans{X:ak->Prop}{ρ aq J:aD}{s s' O:ah}(g:Go X ρ s aq s')(N:Go X aq s' J O):Go X ρ s J O where
 pre:=g.pre.trans N.pre
 new a h:=(N.new a h).elim (λh=>g.new a h) λh=>.inr (by
  cases q:s.heap.get? a with
  |none=>rfl
  |some o=>obtain⟨o',e⟩:=g.alive a o q;rw[h]at e;cases e)
 cI a o e n x:=by
  refine N.cI a o (g.cI a o e n x) (λm=>?_) x;rcases g.new a m with q|q
  ·exact n q
  ·rw[e]at q;cases q
 alive a o e:=by
  obtain⟨o',R⟩:=g.alive a o e;exact N.alive a o' R
 os:=N.os.trans g.os
 gens:=N.gens.trans g.gens
theorem Go.weak{X Y:ak->Prop}(h:∀a,X a->Y a){ρ aq:aD}{s s':ah}(g:Go X ρ s aq s'):Go Y ρ s aq s':=
 ⟨g.pre,g.new,λa o e n y=>g.cI a o e n λx=>y (h a x),g.alive,g.os,g.gens⟩
theorem Go.toks{X:ak->Prop}{ρ:aD}{s:ah}(t:Nat):Go X ρ s ρ {s with toks:=t}:=
 ⟨jE _,λ_ h=>.inl h,λ_ _ h _ _=>h,λ_ o h=>⟨o,h⟩,rfl,rfl⟩
theorem Go.keeps{X:ak->Prop}{ρ:aD}{s:ah}{h':aO}{t:Nat}(k:∀b o,s.heap.get? b=some o->h'.get? b=some o):Go X ρ s ρ {s with heap:=h',toks:=t}:=
 ⟨jE _,λ_ h=>.inl h,λa o h _ _=>k a o h,λa o h=>⟨o,k a o h⟩,rfl,rfl⟩
theorem kn.mono{C:Cfg}{ρ aq:aD}{h h':aO}{a:ak}(p:ρ<+:aq)(e:∀o,h.get? a=some o->h'.get? a=some o){o:AO}(x:kn C ρ h a o):kn C aq h' a o:=by
 cases o with
 |gP=>exact x
 |list _=>exact x.imp λvs q=>⟨q.1.imp λn=>e _,q.2.mono p⟩
 |tup _=>exact x.imp λvs q=>⟨e _ q.1,q.2.mono p⟩
 |dict _=>exact x.imp λes q=>q.imp λn q=>⟨e _ q.1,q.2.mono p⟩
 |inst _ _=>exact x.imp λda q=>⟨gJ p q.1,e _ q.2⟩
 |cell _=>exact x.imp λV q=>⟨q.1.imp λo q=>⟨e _ q.1,q.2⟩,q.2.mono p⟩
 |raw _=>exact e _ x
 |bound _ _=>exact x.imp λV q=>⟨e _ q.1,q.2.mono p⟩
 |nH _ _=>exact x.imp λfa q=>q.imp λV q=>⟨gJ p q.1,e _ q.2.1,q.2.2.mono p⟩
 |c_ _ _=>exact x.imp λJ q=>⟨gJ p q.1,q.2.imp λo q=>⟨e _ q.1,q.2⟩⟩
 |tab _=>exact x.imp λps q=>⟨e _ q.1,q.2.1,λpos=>(q.2.2 pos).mono p⟩
 |code _=>exact x.imp λoc q=>q.imp λvs q=>q.imp λt q=>⟨e _ q.1,q.2⟩
theorem dM(h:aO){o:iK}(hf:o.isFreed=false):(h.push o).get? h.objs.size=some o:=qG h hf
theorem MJ{l:List Nat}(h:l.Nodup){i j:Nat}(hi:i<l.length)(J:j<l.length)(e:l[i]=l[j]):i=j:=by
 have key:=Tr.mp h;rcases Ss i j with q|q|q
 ·exact absurd e (key i j hi J q)
 ·exact q
 ·exact absurd e.symm (key j i J hi q)
section
variable{C:Cfg}{ρ:aD}{st:St}{h:aO}
theorem Rel.addr(R:Rel C ρ st h){l:Nat}{o:AO}(e:st[l]?=some o):∃a,ρ[l]?=some a/\kn C ρ h a o:=by
 have hl:l<ρ.length:=by rw[R.len];exact(fX.mp e).1
 exact⟨ρ[l],kF hl,R.objs l o _ e (kF hl)⟩
theorem Rel.at(R:Rel C ρ st h){l:Nat}{o:AO}{a:ak}(e:st[l]?=some o)(J:ρ[l]?=some a):kn C ρ h a o:=R.objs l o a e J
theorem Rel.keeps(R:Rel C ρ st h){h':aO}(k:∀b o,h.get? b=some o->h'.get? b=some o):Rel C ρ st h':=
 ⟨R.len,R.nodup,R.out,λa m=>(R.live a m).imp λo e=>k a o e,λb o e=>k b o (R.keep b o e),λl o a e q=>(R.objs l o a e q).mono (jE _) λo' J=>k a o' J,R.pin⟩
theorem Rel.lT(R:Rel C ρ st h){h':aO}(X:ak->Prop)(k:∀b o,h.get? b=some o->¬X b->h'.get? b=some o)(J:∀a∈ρ,¬X a)(hB:∀a o,C.base.get? a=some o->¬X a):Rel C ρ st h':=
 ⟨R.len,R.nodup,R.out,λa m=>(R.live a m).imp λo e=>k a o e (J a m),λb o e=>k b o (R.keep b o e) (hB b o e),λl o a e q=>(R.objs l o a e q).mono (jE _) λo' N=>k a o' N (J a (j8 q)),R.pin⟩
theorem dk(h:aO)(o:iK):∀b x,h.get? b=some x->(h.push o).get? b=some x:=λ_ _ e=>kD o e
theorem fR(h:aO):h.get? h.objs.size=none:=by
 cases q:h.get? h.objs.size with
 |none=>rfl
 |some o=>exact absurd (j3 q) (jH _)
theorem Rel.fh(R:Rel C ρ st h){a:ak}(e:h.get? a=none):a∉ρ:=λm=>by obtain⟨o,q⟩:=R.live _ m;rw[e]at q;cases q
theorem Rel.iB(R:Rel C ρ st h){a:ak}(e:h.get? a=none):C.base.get? a=none:=by
 cases q:C.base.get? a with
 |none=>rfl
 |some o=>rw[R.keep _ _ q]at e;cases e
theorem Rel.alloc(R:Rel C ρ st h){h':aO}{a:ak}{o:AO}(k:∀b x,h.get? b=some x->h'.get? b=some x)
 (O:a∉ρ)(hb:C.base.get? a=none)(hl:∃x,h'.get? a=some x)(hc:kn C (ρ++[a]) h' a o):Rel C (ρ++[a]) (st++[o]) h':=by
 refine⟨by simp[R.len],?_,?_,?_,λb x e=>k b x (R.keep b x e),?_,λp Y=>gJ (j_ _ _) (R.pin p Y)⟩
 ·rw[Tg]
  exact⟨R.nodup,by simp,λx J y S=>by simp at S;subst S;exactλe=>O (e▸J)⟩
 ·intro x J
  rcases ei.mp J with J|J
  ·exact R.out x J
  ·simp at J;subst J;exact hb
 ·intro x J
  rcases ei.mp J with J|J
  ·exact(R.live x J).imp λo e=>k x o e
  ·simp at J;subst J;exact hl
 ·intro l o' U e q
  by_cases N:l<st.length
  ·rw[pF N]at e
   rw[pF (by rw[R.len];exact N)]at q;exact(R.objs l o' U e q).mono (j_ _ _) λx J=>k U x J
  ·rw[j5 (iH.mp N)]at e
   rw[j5 (by rw[R.len];exact iH.mp N),R.len]at q;have hz:l -st.length=0:=by
    have:=(fX.mp e).1;simpa using this
   rw[hz]at e q;simp at e q;subst e;subst q;exact hc
theorem Rel.push(R:Rel C ρ st h){x:iK}{o:AO}(hf:x.isFreed=false)(hc:kn C (ρ++[h.objs.size]) (h.push x) h.objs.size o):Rel C (ρ++[h.objs.size]) (st++[o]) (h.push x):=
 R.alloc (dk h x) (R.fh (fR h)) (R.iB (fR h)) ⟨_,dM h hf⟩ hc
theorem Rel.put(R:Rel C ρ st h){h':aO}{l:Nat}{a:ak}{o':AO}(N:ρ[l]?=some a)(k:∀b x,b≠a->h.get? b=some x->h'.get? b=some x)(hl:∃x,h'.get? a=some x)
 (hc:kn C ρ h' a o'):Rel C ρ (st.set l o') h':=by
 refine⟨by simp[R.len],R.nodup,R.out,λx O=>by
  by_cases q:x=a
  ·subst q;exact hl
  ·exact(R.live x O).imp λo e=>k x o q e,λb x e=>k b x (λq=>?_) (R.keep b x e),?_,R.pin⟩
 ·subst q
  rw[R.out b (j8 N)]at e;cases e
 ·intro l' o S e q
  rw[RM]at e;by_cases J:l=l'
  ·subst J
   rw[N]at q;cases q;rw[if_pos rfl]at e;split at e
   ·cases e;exact hc
   ·cases e
  ·rw[if_neg J]at e
   refine(R.objs l' o S e q).mono (jE _) λx O=>k S x (λz=>?_) O;subst z;obtain⟨h1,U⟩:=fX.mp N;obtain⟨h2,Y⟩:=fX.mp q;exact J (MJ R.nodup h1 h2 (U.trans Y.symm))
theorem Go.alloc{X:ak->Prop}{s:ah}{h':aO}{a:ak}{t:Nat}(k:∀b x,s.heap.get? b=some x->h'.get? b=some x)(J:s.heap.get? a=none):Go X ρ s (ρ++[a]) {s with heap:=h',toks:=t}:=
 ⟨j_ _ _,λb m=>by
  rcases ei.mp m with q|q
  ·exact .inl q
  ·simp at q;subst q;exact .inr J,λb o e _ _=>k b o e,λb o e=>⟨o,k b o e⟩,rfl,rfl⟩
theorem Go.put{X:ak->Prop}{s:ah}{h':aO}{l:Nat}{a:ak}{t:Nat}(J:ρ[l]?=some a)(k:∀b x,b≠a->s.heap.get? b=some x->h'.get? b=some x)(hl:∃x,h'.get? a=some x):Go X ρ s ρ {s with heap:=h',toks:=t}:=
 ⟨jE _,λ_ h=>.inl h,λb o e n _=>k b o (λq=>n (q▸j8 J)) e,λb o e=>by
  by_cases q:b=a
  ·subst q;exact hl
  ·exact⟨o,k b o q e⟩,rfl,rfl⟩
theorem J9{ρ:aD}{a:ak}:(ρ++[a])[ρ.length]?=some a:=by simp
end
noncomputable def Ok{α:Type}(x:Option α)(P:α->Prop):Prop:=x.elim False P
section
variable{α β:Type}{P:α->Prop}
theorem Ok.of{x:Option α}{a:α}(h:x=some a)(p:P a):Ok x P:=h▸p
theorem Ok.bind{x:Option β}{f:β->Option α}(h:Ok (x.bind f) P):Ok x λa=>Ok (f a) P:=by
 cases x with
 |none=>exact h
 |some a=>exact h
theorem Ok.bind'{x:Option β}{f:β->Option α}(h:Ok x λa=>Ok (f a) P):Ok (x.bind f) P:=by
 cases x with
 |none=>exact h
 |some a=>exact h
theorem Ok.map{x:Option β}{f:β->α}(h:Ok (x.map f) P):Ok x λa=>P (f a):=by
 cases x with
 |none=>exact h
 |some a=>exact h
theorem Ok.or{x y:Option α}(h:Ok (x.or y) P):Ok x P\/Ok y P:=by
 cases x with
 |none=>exact .inr h
 |some a=>exact .inl h
theorem Ok.ite{c:Prop}[Decidable c]{x:Option α}(h:Ok (if c then x else none) P):c/\Ok x P:=
 if q:c then⟨q,cast (congrArg (Ok · P) (if_pos q)) h⟩else dA (cast (congrArg (Ok · P) (if_neg q)) h)
theorem Ok.mono{x:Option α}{Q:α->Prop}(h:Ok x P)(k:∀a,P a->Q a):Ok x Q:=by
 cases x with
 |none=>exact h
 |some a=>exact k a h
theorem Ok.get{x:Option α}(h:Ok x P):∃a,x=some a/\P a:=by
 cases x with
 |none=>exact dA h
 |some a=>exact⟨a,rfl,h⟩
theorem Ok.some{G:Prop}{x:Option α}(h:Ok x P)(k:∀a,x=jI a->P a->G):G:=
 let⟨a,e,p⟩:=h.get
 k a e p
end
noncomputable def AV.i?(a:AV):Option Int:=AV.casesOn a aL (λ_=>aL) jI (λ_=>aL) (λ_=>aL) λ_=>aL
noncomputable def AV.b?(a:AV):Option Bool:=AV.casesOn a aL jI (λ_=>aL) (λ_=>aL) (λ_=>aL) λ_=>aL
noncomputable def AV.s?(a:AV):Option ae:=AV.casesOn a aL (λ_=>aL) (λ_=>aL) jI (λ_=>aL) λ_=>aL
noncomputable def AV.r?(a:AV):Option Nat:=AV.casesOn a aL (λ_=>aL) (λ_=>aL) (λ_=>aL) jI λ_=>aL
section
variable{ρ:aD}{a:AV}{V:af}{M:af->Prop}
@[elab_as_elim] theorem RelV.i(r:RelV ρ a V){P:Int->Prop}(h:Ok a.i? P)(k:∀x t,P x->M (.int x t)):M V:=by
 cases a with
 |int x=>exact r.elim λt e=>e▸k x t h
 |_=>exact dA h
@[elab_as_elim] theorem RelV.b(r:RelV ρ a V){P:Bool->Prop}(h:Ok a.b? P)(k:∀x,P x->M (.bool x)):M V:=by
 cases a with
 |bool x=>exact Eq.symm r▸k x h
 |_=>exact dA h
@[elab_as_elim] theorem RelV.s(r:RelV ρ a V){P:ae->Prop}(h:Ok a.s? P)(k:∀x t,P x->M (.str x t)):M V:=by
 cases a with
 |str x=>exact r.elim λt e=>e▸k x t h
 |_=>exact dA h
@[elab_as_elim] theorem RelV.r(r:RelV ρ a V){P:Nat->Prop}(h:Ok a.r? P)(k:∀l J,ρ[l]?=some J->P l->M (.ref J)):M V:=by
 cases a with
 |ref l=>exact r.elim λt e=>e.2▸k l t e.1 h
 |_=>exact dA h
end
@[elab_as_elim] theorem RelV.rr{ρ:aD}{a:AV}{V:af}{M:af->Prop}(r:RelV ρ a V){P:Nat->Prop}(h:Ok a.r? P)(k:∀l J,ρ[l]?=some J->RelV ρ a (.ref J)->P l->M (.ref J)):M V:=
 r.r (M:=λV=>RelV ρ a V->M V) h (λl J e p r=>k l J e r p) r
@[elab_as_elim] theorem RelV.ss{ρ:aD}{a:AV}{V:af}{M:af->Prop}(r:RelV ρ a V){P:ae->Prop}(h:Ok a.s? P)(k:∀x t,RelV ρ a (.str x t)->P x->M (.str x t)):M V:=
 r.s (M:=λV=>RelV ρ a V->M V) h (λx t p r=>k x t r p) r
theorem RelV.sx{ρ:aD}{a:AV}{V:af}(r:RelV ρ a V){P:ae->Prop}(h:Ok a.s? P){G:Prop}(k:∀x t,V=.str x t->P x->G):G:=
 r.s (M:=λW=>V=W->G) h (λx t p e=>k x t e p) rfl
noncomputable def a1(avs:List AV):Option AV:=sk avs none λa r=>sk r (some a) λ_ _=>none
noncomputable def a2(avs:List AV):Option (AV×AV):=sk avs none λa r=>(a1 r).map λb=>(a,b)
noncomputable def a3(avs:List AV):Option (AV×AV×AV):=sk avs none λa r=>(a2 r).map λb=>(a,b)
noncomputable def a4(avs:List AV):Option (AV×AV×AV×AV):=sk avs none λa r=>(a3 r).map λb=>(a,b)
@[elab_as_elim] theorem bu.a1{ρ:aD}{avs:List AV}{vs:List af}(r:bu ρ avs vs){P:AV->Prop}(h:Ok (Mine.a1 avs) P){M:List af->Prop}(k:∀a V,RelV ρ a V->P a->M [V]):M vs:=by
 cases r with
 |nil=>exact dA h
 |cons J N=>
  cases N with
  |nil=>exact k _ _ J h
  |cons=>exact dA h
@[elab_as_elim] theorem bu.a2{ρ:aD}{avs:List AV}{vs:List af}(r:bu ρ avs vs){P:AV×AV->Prop}(h:Ok (Mine.a2 avs) P){M:List af->Prop}(k:∀a V b W,RelV ρ a V->RelV ρ b W->P (a,b)->M [V,W]):M vs:=by
 cases r with
 |nil=>exact dA h
 |cons N J=>exact J.a1 (M:=λl=>M (_::l)) (h.map) λb W J=>k _ _ b W N J
@[elab_as_elim] theorem bu.a3{ρ:aD}{avs:List AV}{vs:List af}(r:bu ρ avs vs){P:AV×AV×AV->Prop}(h:Ok (Mine.a3 avs) P){M:List af->Prop}(k:∀a V b W c X,RelV ρ a V->RelV ρ b W->RelV ρ c X->P (a,b,c)->M [V,W,X]):M vs:=by
 cases r with
 |nil=>exact dA h
 |cons N J=>exact J.a2 (M:=λl=>M (_::l)) (h.map) λb W c X J O=>k _ _ b W c X N J O
@[elab_as_elim] theorem bu.a4{ρ:aD}{avs:List AV}{vs:List af}(r:bu ρ avs vs){P:AV×AV×AV×AV->Prop}(h:Ok (Mine.a4 avs) P){M:List af->Prop}(k:∀a V b W c X d Y,RelV ρ a V->RelV ρ b W->RelV ρ c X->RelV ρ d Y->P (a,b,c,d)->M [V,W,X,Y]):M vs:=by
 cases r with
 |nil=>exact dA h
 |cons N J=>exact J.a3 (M:=λl=>M (_::l)) (h.map) λb W c X d Y J O R=>k _ _ b W c X d Y N J O R
theorem m7{C:Cfg}{ρ:aD}{st:St}{h:aO}(R:Rel C ρ st h){a:ak}:RelV (ρ++[a]) (.ref st.length) (.ref a):=⟨a,by rw[<-R.len,j5 (a7 _),mn];rfl,rfl⟩
noncomputable def Res(C:Cfg)(ρ:aD)(s:ah)(Q:af->ah->Prop)(p:AV×St):Prop:=∀V aq s',Go No ρ s aq s'->Rel C aq p.2 s'.heap->RelV aq p.1 V->Q V s'
theorem Res.step{C:Cfg}{ρ J:aD}{s s1:ah}{Q:af->ah->Prop}{p:AV×St}(g:Go No ρ s J s1)(h:Res C ρ s Q p):Res C J s1 Q p:=λV aq s' N=>h V aq s' (g.trans N)
noncomputable def JR(C:Cfg)(ρ:aD)(s:ah)(Q:List af->ah->Prop)(p:List AV×St):Prop:=∀Vs aq s',Go No ρ s aq s'->Rel C aq p.2 s'.heap->bu aq p.1 Vs->Q Vs s'
noncomputable def tG(C:Cfg)(ρ:aD)(s:ah)(Q:Bool->ah->Prop)(p:Bool×St):Prop:=∀aq s',Go No ρ s aq s'->Rel C aq p.2 s'.heap->Q p.1 s'
theorem tG.step{C:Cfg}{ρ J:aD}{s s1:ah}{Q:Bool->ah->Prop}{p:Bool×St}(g:Go No ρ s J s1)(h:tG C ρ s Q p):tG C J s1 Q p:=λaq s' N=>h aq s' (g.trans N)
end Mine
namespace Mine
theorem de{J N O:Prop}{G:Prop}(h:J/\N/\O)(k:J->N->O->G):G:=k h.1 h.2.1 h.2.2
theorem yW{J N O P3:Prop}{G:Prop}(h:J/\N/\O/\P3)(k:J->N->O->P3->G):G:=k h.1 h.2.1 h.2.2.1 h.2.2.2
theorem yB{J N O P3 R:Prop}{G:Prop}(h:J/\N/\O/\P3/\R)(k:J->N->O->P3->R->G):G:=k h.1 h.2.1 h.2.2.1 h.2.2.2.1 h.2.2.2.2
theorem pN.{u0}{α:Sort u0}{J:Prop}{N:α->Prop}{G:Prop}(h:J/\∃a:α,N a)(k:J->∀a,N a->G):G:=h.2.elim λx1 h1=>k h.1 x1 h1
theorem tc.{u0}{α:Sort u0}{J:Prop}{N P3:α->Prop}{G:Prop}(h:J/\∃a:α,N a/\P3 a)(k:J->∀a,N a->P3 a->G):G:=h.2.elim λx1 h1=>k h.1 x1 h1.1 h1.2
theorem nc.{u0,u1}{α:Sort u0}{β:Sort u1}{J:Prop}{P3 N:α->β->Prop}{G:Prop}(h:J/\∃a:α,∃b:β,P3 a b/\N a b)(k:J->∀a,∀b,P3 a b->N a b->G):G:=h.2.elim λx1 h1=>h1.elim λO h2=>k h.1 x1 O h2.1 h2.2
theorem UJ.{u0}{α:Sort u0}{J N:Prop}{P3 O:α->Prop}{G:Prop}(h:J/\N/\∃a:α,P3 a/\O a)(k:J->N->∀a,P3 a->O a->G):G:=h.2.2.elim λR h2=>k h.1 h.2.1 R h2.1 h2.2
theorem aG.{u0}{α:Sort u0}{J N:α->Prop}{G:Prop}(h:∃a:α,J a/\N a)(k:∀a,J a->N a->G):G:=h.elim λx0 h0=>k x0 h0.1 h0.2
theorem dh.{u0}{α:Sort u0}{J N P3:α->Prop}{G:Prop}(h:∃a:α,J a/\N a/\P3 a)(k:∀a,J a->N a->P3 a->G):G:=h.elim λx0 h0=>k x0 h0.1 h0.2.1 h0.2.2
theorem jj.{u0}{α:Sort u0}{J N P3 O:α->Prop}{G:Prop}(h:∃a:α,J a/\N a/\P3 a/\O a)(k:∀a,J a->N a->P3 a->O a->G):G:=h.elim λx0 h0=>k x0 h0.1 h0.2.1 h0.2.2.1 h0.2.2.2
theorem HI.{u0}{α:Sort u0}{J N P3 O R:α->Prop}{G:Prop}(h:∃a:α,J a/\N a/\P3 a/\O a/\R a)(k:∀a,J a->N a->P3 a->O a->R a->G):G:=h.elim λx0 h0=>k x0 h0.1 h0.2.1 h0.2.2.1 h0.2.2.2.1 h0.2.2.2.2
theorem mN.{u0,u1}{α:Sort u0}{β:Sort u1}{J:α->β->Prop}{G:Prop}(h:∃a:α,∃b:β,J a b)(k:∀a,∀b,J a b->G):G:=h.elim λx0 h0=>h0.elim λx1 h1=>k x0 x1 h1
theorem ou.{u0,u1}{α:Sort u0}{β:Sort u1}{J P3:α->β->Prop}{G:Prop}(h:∃a:α,∃b:β,J a b/\P3 a b)(k:∀a,∀b,J a b->P3 a b->G):G:=h.elim λx0 h0=>h0.elim λx1 h1=>k x0 x1 h1.1 h1.2
theorem fH.{u0,u1}{α:Sort u0}{β:Sort u1}{J P3 N:α->β->Prop}{G:Prop}(h:∃a:α,∃b:β,J a b/\P3 a b/\N a b)(k:∀a,∀b,J a b->P3 a b->N a b->G):G:=h.elim λx0 h0=>h0.elim λx1 h1=>k x0 x1 h1.1 h1.2.1 h1.2.2
theorem fF.{u0,u1}{α:Sort u0}{β:Sort u1}{J P3 N O:α->β->Prop}{G:Prop}(h:∃a:α,∃b:β,J a b/\P3 a b/\N a b/\O a b)(k:∀a,∀b,J a b->P3 a b->N a b->O a b->G):G:=h.elim λx0 h0=>h0.elim λx1 h1=>k x0 x1 h1.1 h1.2.1 h1.2.2.1 h1.2.2.2
theorem kr.{u0,u1}{α:Sort u0}{β:Sort u1}{J P3 N O R:α->β->Prop}{G:Prop}(h:∃a:α,∃b:β,J a b/\P3 a b/\N a b/\O a b/\R a b)(k:∀a,∀b,J a b->P3 a b->N a b->O a b->R a b->G):G:=h.elim λx0 h0=>h0.elim λx1 h1=>k x0 x1 h1.1 h1.2.1 h1.2.2.1 h1.2.2.2.1 h1.2.2.2.2
theorem z7.{u0,u1}{α:Sort u0}{β:Sort u1}{J P3 N O R S:α->β->Prop}{G:Prop}(h:∃a:α,∃b:β,J a b/\P3 a b/\N a b/\O a b/\R a b/\S a b)(k:∀a,∀b,J a b->P3 a b->N a b->O a b->R a b->S a b->G):G:=h.elim λx0 h0=>h0.elim λx1 h1=>k x0 x1 h1.1 h1.2.1 h1.2.2.1 h1.2.2.2.1 h1.2.2.2.2.1 h1.2.2.2.2.2
theorem lV.{u0,u1,u2}{α:Sort u0}{β:Sort u1}{J:Sort u2}{P3:α->β->J->Prop}{G:Prop}(h:∃a:α,∃b:β,∃c:J,P3 a b c)(k:∀a,∀b,∀c,P3 a b c->G):G:=h.elim λx0 h0=>h0.elim λx1 h1=>h1.elim λN h2=>k x0 x1 N h2
theorem sQ.{u0,u1,u2}{α:Sort u0}{β:Sort u1}{J:Sort u2}{P3 N:α->β->J->Prop}{G:Prop}(h:∃a:α,∃b:β,∃c:J,P3 a b c/\N a b c)(k:∀a,∀b,∀c,P3 a b c->N a b c->G):G:=h.elim λx0 h0=>h0.elim λx1 h1=>h1.elim λO h2=>k x0 x1 O h2.1 h2.2
theorem HL.{u0,u1,u2}{α:Sort u0}{β:Sort u1}{J:Sort u2}{P3 N O:α->β->J->Prop}{G:Prop}(h:∃a:α,∃b:β,∃c:J,P3 a b c/\N a b c/\O a b c)(k:∀a,∀b,∀c,P3 a b c->N a b c->O a b c->G):G:=h.elim λx0 h0=>h0.elim λx1 h1=>h1.elim λR h2=>k x0 x1 R h2.1 h2.2.1 h2.2.2
theorem jW.{u0,u1,u2}{α:Sort u0}{β:Sort u1}{J:Sort u2}{P3 N O R:α->β->J->Prop}{G:Prop}(h:∃a:α,∃b:β,∃c:J,P3 a b c/\N a b c/\O a b c/\R a b c)(k:∀a,∀b,∀c,P3 a b c->N a b c->O a b c->R a b c->G):G:=h.elim λx0 h0=>h0.elim λx1 h1=>h1.elim λS h2=>k x0 x1 S h2.1 h2.2.1 h2.2.2.1 h2.2.2.2
theorem nf.{u0,u1,u2,u3}{α:Sort u0}{β:Sort u1}{J:Sort u2}{N:Sort u3}{O:α->β->J->N->Prop}{G:Prop}(h:∃a:α,∃b:β,∃c:J,∃d:N,O a b c d)(k:∀a,∀b,∀c,∀d,O a b c d->G):G:=h.elim λx0 h0=>h0.elim λx1 h1=>h1.elim λR h2=>h2.elim λS h3=>k x0 x1 R S h3
theorem BX.{u0,u1,u2,u3}{α:Sort u0}{β:Sort u1}{J:Sort u2}{N:Sort u3}{O R:α->β->J->N->Prop}{G:Prop}(h:∃a:α,∃b:β,∃c:J,∃d:N,O a b c d/\R a b c d)(k:∀a,∀b,∀c,∀d,O a b c d->R a b c d->G):G:=h.elim λx0 h0=>h0.elim λx1 h1=>h1.elim λS h2=>h2.elim λU h3=>k x0 x1 S U h3.1 h3.2
theorem p7.{u0,u1,u2,u3}{α:Sort u0}{β:Sort u1}{J:Sort u2}{N:Sort u3}{O R S U:α->β->J->N->Prop}{G:Prop}(h:∃a:α,∃b:β,∃c:J,∃d:N,O a b c d/\R a b c d/\S a b c d/\U a b c d)(k:∀a,∀b,∀c,∀d,O a b c d->R a b c d->S a b c d->U a b c d->G):G:=h.elim λx0 h0=>h0.elim λx1 h1=>h1.elim λY h2=>h2.elim λx3 h3=>k x0 x1 Y x3 h3.1 h3.2.1 h3.2.2.1 h3.2.2.2
theorem zU.{u0,u1,u2,u3,u4,u5,u6,u7}{α:Sort u0}{β:Sort u1}{J:Sort u2}{N:Sort u3}{O:Sort u4}{R:Sort u5}{S:Sort u6}{U:Sort u7}{Y:α->β->J->N->O->R->S->U->Prop}{G:Prop}(h:∃a:α,∃b:β,∃c:J,∃d:N,∃e:O,∃f:R,∃g:S,∃i:U,Y a b c d e f g i)(k:∀a,∀b,∀c,∀d,∀e,∀f,∀g,∀i,Y a b c d e f g i->G):G:=h.elim λx0 h0=>h0.elim λx1 h1=>h1.elim λx2 h2=>h2.elim λx3 h3=>h3.elim λx4 h4=>h4.elim λx5 h5=>h5.elim λx6 h6=>h6.elim λx7 h7=>k x0 x1 x2 x3 x4 x5 x6 x7 h7
theorem vk.{u0,u1}{α:Sort u0}{β:Sort u1}{J:α->Prop}{P3:α->β->Prop}{G:Prop}(h:∃a:α,J a/\∃b:β,P3 a b)(k:∀a,J a->∀b,P3 a b->G):G:=h.elim λx0 h0=>h0.2.elim λN h2=>k x0 h0.1 N h2
open PySem
noncomputable def aj.put:aj->Nat->AV->aj
 |[],k,v=>[(k,v)]
 |(j,x)::r,k,v=>if k=j then(k,v)::r else(j,x)::aj.put r k v
theorem aj.wq(F:aj)(k:Nat)(v:AV)(j:Nat):(F.put k v).lookup j=if j=k then some v else F.lookup j:=by
 have J:∀{a b:Nat},¬a=b->(a==b)=false:=λh=>beq_false_of_ne h;induction F with
 |nil=>
  show(match j==k with|true=>some v|false=>none)=_;by_cases h:j=k
  ·rw[if_pos h,h,beq_self_eq_true]
  ·rw[if_neg h,J h];rfl
 |cons p r N=>
  unfold aj.put;by_cases h:k=p.1
  ·rw[if_pos h,eK,eK,<-h]
   by_cases q:j=k
   ·rw[if_pos q,q,beq_self_eq_true]
   ·rw[if_neg q,J q]
  ·rw[if_neg h,eK,eK,N]
   by_cases q:j=p.1
   ·rw[q,beq_self_eq_true];exact(if_neg λz=>h (Eq.symm z)).symm
   ·rw[J q]
structure bN(n:Nat)(A:bg):Prop where
 depth:A.depth+n<900
 units:A.units+20*n<9000
 handled:A.handled=none
theorem bN.le{n m:Nat}{A:bg}(r:bN n A)(h:m<=n):bN m A:=
 ⟨bQ (fW h _) r.depth,bQ (fW (ib _ h) _) r.units,r.handled⟩
theorem bN.cG{n:Nat}{A:bg}(r:bN n A):A.depth<recursionLimit:=du (bQ (c8 _ _) r.depth) (by decide)
theorem bN.WS{n:Nat}{A:bg}(r:bN n A):A.units<cLine:=du (bQ (c8 _ _) r.units) (by decide)
theorem bN.deeper{n:Nat}{A:bg}(r:bN (n+1) A)(env:aR):bN n (A.deeper env):=
 ⟨by have:=r.depth;show A.depth+1+n<900;omega,by have:=r.units;show A.units+3+20*n<9000;omega,r.handled⟩
noncomputable def Jm(C:Cfg)(ρ:aD)(env:aR)(h:aO)(x:ae)(v:AV):Prop:=
 ∃V,RelV ρ v V/\((env.kindOf x=some .local /\∃M,h.Ns env.locals M/\M x=some V)\/
  ((env.kindOf x=some .cell \/env.kindOf x=some .free)/\∃c,env.cells.lookup x=some c/\c∉ρ/\h.IsCell c (some V)))
structure a8(C:Cfg)(sc:bc)(ρ:aD)(F:aj)(env:aR)(h:aO):Prop where
 scope:env.scope=sc
 kind:sc.kind=.function
 globals:env.globals=mainGlobals
 builtins:env.builtins=builtinsNs
 ns:∃M,h.Ns env.locals M
 mI:env.locals∉ρ
 oj:C.base.get? env.locals=none
 vars:∀k v,F.lookup k=some v->Jm C ρ env h (C.nm k) v
 own:∀x,env.kindOf x=some .cell ->∃c gw,env.cells.lookup x=some c/\c∉ρ/\c≠env.locals/\h.IsCell c gw/\C.base.get? c=none
 apart:∀x y c,env.cells.lookup x=some c->env.cells.lookup y=some c->x=y
 vu:∀x,env.kindOf x=some .free ->(x==("__classdict__":ae))=false
 cells:∀x c,env.cells.lookup x=some c->c∉ρ/\∃gw,h.IsCell c gw
 frees:∀x,env.kindOf x=some .free ->∃c,env.cells.lookup x=some c
 here:sc.names.lookup ("due":ae)=some .local ->env.code=C.code/\env.qual=C.qual
noncomputable def lY(env:aR)(T:ae->Prop)(a:ak):Prop:=a=env.locals\/∃x,T x/\env.kindOf x=some .cell /\env.cells.lookup x=some a
noncomputable abbrev dr(env:aR):ak->Prop:=lY env λ_=>True
theorem oq{h:aO}{a:ak}{M}(n:h.Ns a M):∃o,h.get? a=some o:=n.imp λo q=>q.elim λ_ q=>q.elim λ_ q=>q.1
theorem n5{h:aO}{a:ak}{v}(n:h.IsCell a v):∃o,h.get? a=some o:=n.imp λo q=>q.1
theorem IsCell.of{h h':aO}{c:ak}{v}(n:h.IsCell c v)(k:∀o,h.get? c=some o->h'.get? c=some o):h'.IsCell c v:=n.imp λo q=>⟨k _ q.1,q.2⟩
theorem Ns.of{h h':aO}{c:ak}{M}(n:h.Ns c M)(k:∀o,h.get? c=some o->h'.get? c=some o):h'.Ns c M:=n.imp λo q=>q.imp λes q=>q.imp λep q=>⟨k _ q.1,q.2⟩
theorem Go.iZ{X:ak->Prop}{ρ aq:aD}{s s':ah}(g:Go X ρ s aq s'){c:ak}{o:iK}(e:s.heap.get? c=some o)(n:c∉ρ):c∉aq:=λm=>by
 rcases g.new c m with q|q
 ·exact n q
 ·rw[e]at q;cases q
theorem a8.step{C:Cfg}{sc:bc}{ρ aq:aD}{F:aj}{env:aR}{h h':aO}(N:a8 C sc ρ F env h)(p:ρ<+:aq)
 (k:∀a o,h.get? a=some o->a∉ρ->(a=env.locals\/∃x,env.cells.lookup x=some a)->h'.get? a=some o/\a∉aq):a8 C sc aq F env h':=by
 refine bO N.ns λO J=>?_;refine bO (oq J) λR hL=>?_;refine⟨N.scope,N.kind,N.globals,N.builtins,⟨O,Ns.of J λo e=>(k _ _ e N.mI (.inl rfl)).1⟩,(k _ _ hL N.mI (.inl rfl)).2,N.oj,λj v q=>?_,λx q=>?_,N.apart,N.vu,λx c q=>?_,N.frees,N.here⟩
 ·refine aG (N.vars j v q) λV r hv=>?_
  exact⟨V,r.mono p,hv.imp (λq=>⟨q.1,q.2.imp λM q=>⟨Ns.of q.1 λo e=>(k _ _ e N.mI (.inl rfl)).1,q.2⟩⟩) λq=>⟨q.1,q.2.imp λc q=>⟨q.1,(n5 q.2.2).elim λo ho=>(k _ _ ho q.2.1 (.inr ⟨_,q.1⟩)).2,IsCell.of q.2.2 λo e=>(k _ _ e q.2.1 (.inr ⟨_,q.1⟩)).1⟩⟩⟩
 ·refine kr (N.own x q) λc gw b d e f i=>?_
  refine bO (n5 f) λo ho=>?_;exact⟨c,gw,b,(k _ _ ho d (.inr ⟨_,b⟩)).2,e,IsCell.of f λo e=>(k _ _ e d (.inr ⟨_,b⟩)).1,i⟩
 ·refine pN (N.cells x c q) λd gw f=>?_
  refine bO (n5 f) λo ho=>?_;exact⟨(k _ _ ho d (.inr ⟨_,q⟩)).2,gw,IsCell.of f λo e=>(k _ _ e d (.inr ⟨_,q⟩)).1⟩
theorem a8.go{C:Cfg}{sc:bc}{ρ aq:aD}{F:aj}{env:aR}{s s':ah}(N:a8 C sc ρ F env s.heap)(g:Go No ρ s aq s'):a8 C sc aq F env s'.heap:=
 N.step g.pre λa o e n _=>⟨g.cI a o e n id,g.iZ e n⟩
theorem dr.out{C:Cfg}{sc:bc}{ρ:aD}{F:aj}{env:aR}{h:aO}{T:ae->Prop}(N:a8 C sc ρ F env h):∀a∈ρ,¬lY env T a:=by
 rintro a J (rfl|⟨x,_,O,hc⟩)
 ·exact N.mI J
 ·refine fH (N.own x O) λc gw b d _=>?_
  rw[hc]at b;cases b;exact d J
theorem dr.base{C:Cfg}{sc:bc}{ρ:aD}{F:aj}{env:aR}{h:aO}{T:ae->Prop}(N:a8 C sc ρ F env h):∀a o,C.base.get? a=some o->¬lY env T a:=by
 rintro a o ho (rfl|⟨x,_,J,hc⟩)
 ·rw[N.oj]at ho;cases ho
 ·refine kr (N.own x J) λc gw b d _ _ i=>?_
  rw[hc]at b;cases b;rw[i]at ho;cases ho
noncomputable abbrev EM:=aj->St->Option (AV×St)
section
variable(C:Cfg)(n:Nat)(sc:bc)
structure bR(e:aJ)(f:EM):Prop where
 u:∀A env F ρ st s v st' Q E,bN n A->a8 C sc ρ F env s.heap->Rel C ρ st s.heap->f F st=some (v,st')->
  (∀V aq s',Go No ρ s aq s'->Rel C aq st' s'.heap->RelV aq v V->Q V s')->wpAny (model C.prog C.w) A (eval e env) Q E s
structure lh(e:aJ)(f:aj->St->Option (Bool×St)):Prop where
 u:∀A env F ρ st s b st' Q E,bN n A->a8 C sc ρ F env s.heap->Rel C ρ st s.heap->f F st=some (b,st')->
  (∀aq s',Go No ρ s aq s'->Rel C aq st' s'.heap->Q b s')->wpAny (model C.prog C.w) A (isTrue e env (eval e env)) Q E s
structure ip(es:List aJ)(f:aj->St->Option (List AV×St)):Prop where
 u:∀A env F ρ st s vs st' Q E(pos:bM),bN n A->a8 C sc ρ F env s.heap->Rel C ρ st s.heap->f F st=some (vs,st')->
  (∀Vs aq s',Go No ρ s aq s'->Rel C aq st' s'.heap->bu aq vs Vs->Q Vs s')->wpAny (model C.prog C.w) A (spliced (backTo pos (starEach es env))) Q E s
noncomputable def d8(t:af->af->dS af)(f:AV->AV->St->Option (AV×St)):Prop:=
 ∀A ρ st s a b J N v st' Q E,bN n A->Rel C ρ st s.heap->RelV ρ a J->RelV ρ b N->f a b st=some (v,st')->
  (∀V aq s',Go No ρ s aq s'->Rel C aq st' s'.heap->RelV aq v V->Q V s')->wpAny (model C.prog C.w) A (t J N) Q E s
noncomputable def uV(f:AV->St->Option Bool):Prop:=
 ∀A ρ st s a J b Q E,bN n A->Rel C ρ st s.heap->RelV ρ a J->f a st=some b->
  (∀s',Go No ρ s ρ s'->Rel C ρ st s'.heap->Q b s')->wpAny (model C.prog C.w) A (truthy J) Q E s
inductive Fl where
 |next|brk|cont|ret (v:AV)
noncomputable def Dc(ρ:aD):Fl->jF->Prop
 |.next,f=>f=.next
 |.brk,f=>f=.brk
 |.cont,f=>f=.cont
 |.ret v,f=>∃V,f=.ret V/\RelV ρ v V
noncomputable abbrev SM:=aj->St->Option (Fl×aj×St)
structure vR(τ:Nat)(t:aR->dS jF)(f:SM):Prop where
 u:∀A env F ρ st s fl F' st' Q E,bN n A->τ<=s.toks->a8 C sc ρ F env s.heap->Rel C ρ st s.heap->f F st=some (fl,F',st')->
  (∀r aq s',Go (dr env) ρ s aq s'->a8 C sc aq F' env s'.heap->Rel C aq st' s'.heap->Dc aq fl r->Q r s')->wpAny (model C.prog C.w) A (t env) Q E s
noncomputable def cA(τ:Nat)(e:gK)(f:SM):Prop:=vR C n sc τ (exec e) f
noncomputable def gr(τ:Nat)(es:List gK)(f:SM):Prop:=vR C n sc τ (execs es) f
end
noncomputable def pL(C:Cfg)(sc:bc)(env:aR)(ρ:aD)(s:ah)(Q:jF->ah->Prop)(p:Fl×aj×St):Prop:=
 ∀r aq s',Go (dr env) ρ s aq s'->a8 C sc aq p.2.1 env s'.heap->Rel C aq p.2.2 s'.heap->Dc aq p.1 r->Q r s'
theorem pL.step{C:Cfg}{sc:bc}{env:aR}{ρ J:aD}{s s1:ah}{Q:jF->ah->Prop}{p:Fl×aj×St}(g:Go (dr env) ρ s J s1)(h:pL C sc env ρ s Q p):pL C sc env J s1 Q p:=λr aq s' N=>h r aq s' (g.trans N)
section
variable(C:Cfg)(n:Nat)(sc:bc)
noncomputable def KE(e:aJ)(f:EM):Prop:=∀{A env F ρ st s Q E},bN n A->a8 C sc ρ F env s.heap->Rel C ρ st s.heap->Ok (f F st) (Res C ρ s Q)->wpAny (model C.prog C.w) A (eval e env) Q E s
noncomputable def KT(e:aJ)(f:aj->St->Option (Bool×St)):Prop:=∀{A env F ρ st s Q E},bN n A->a8 C sc ρ F env s.heap->Rel C ρ st s.heap->Ok (f F st) (tG C ρ s Q)->wpAny (model C.prog C.w) A (isTrue e env (eval e env)) Q E s
noncomputable def YP(es:List aJ)(f:aj->St->Option (List AV×St)):Prop:=∀{A env F ρ st s Q E}{pos:bM},bN n A->a8 C sc ρ F env s.heap->Rel C ρ st s.heap->Ok (f F st) (JR C ρ s Q)->wpAny (model C.prog C.w) A (spliced (backTo pos (starEach es env))) Q E s
noncomputable def KX(τ:Nat)(t:aR->dS jF)(f:SM):Prop:=∀{A env F ρ st s Q E},bN n A->τ<=s.toks->a8 C sc ρ F env s.heap->Rel C ρ st s.heap->Ok (f F st) (pL C sc env ρ s Q)->wpAny (model C.prog C.w) A (t env) Q E s
noncomputable def Yn(t:af->af->dS af)(f:AV->AV->St->Option (AV×St)):Prop:=∀{A ρ st s a b J N Q E},bN n A->Rel C ρ st s.heap->RelV ρ a J->RelV ρ b N->Ok (f a b st) (Res C ρ s Q)->wpAny (model C.prog C.w) A (t J N) Q E s
noncomputable def zI(f:AV->St->Option Bool):Prop:=∀{A ρ st s a J Q E},bN n A->Rel C ρ st s.heap->RelV ρ a J->Ok (f a st) (λb=>∀s',Go No ρ s ρ s'->Rel C ρ st s'.heap->Q b s')->wpAny (model C.prog C.w) A (truthy J) Q E s
end
section
variable{C:Cfg}{n:Nat}{sc:bc}
theorem bR.k{e:aJ}{f:EM}(h:bR C n sc e f):KE C n sc e f:=λhA N R o=>o.some λp e K=>h.u _ _ _ _ _ _ p.1 p.2 _ _ hA N R e K
theorem KE.s{e:aJ}{f:EM}(h:KE C n sc e f):bR C n sc e f:=⟨λ_ _ _ _ _ _ _ _ _ _ hA N R e K=>h hA N R (Ok.of e K)⟩
theorem lh.k{e:aJ}{f}(h:lh C n sc e f):KT C n sc e f:=λhA N R o=>o.some λp e K=>h.u _ _ _ _ _ _ p.1 p.2 _ _ hA N R e K
theorem KT.s{e:aJ}{f}(h:KT C n sc e f):lh C n sc e f:=⟨λ_ _ _ _ _ _ _ _ _ _ hA N R e K=>h hA N R (Ok.of e K)⟩
theorem ip.k{es:List aJ}{f}(h:ip C n sc es f):YP C n sc es f:=λhA N R o=>o.some λp e K=>h.u _ _ _ _ _ _ p.1 p.2 _ _ _ hA N R e K
theorem vR.k{τ:Nat}{t}{f}(h:vR C n sc τ t f):KX C n sc τ t f:=λhA ht N R o=>o.some λp e K=>h.u _ _ _ _ _ _ p.1 p.2.1 p.2.2 _ _ hA ht N R e K
theorem KX.s{τ:Nat}{t}{f}(h:KX C n sc τ t f):vR C n sc τ t f:=⟨λ_ _ _ _ _ _ _ _ _ _ _ hA ht N R e K=>h hA ht N R (Ok.of e K)⟩
theorem d8.k{t}{f}(h:d8 C n t f):Yn C n t f:=λhA R J N o=>o.some λp e K=>h _ _ _ _ _ _ _ _ p.1 p.2 _ _ hA R J N e K
theorem uV.k{f}(h:uV C n f):zI C n f:=λhA R J o=>o.some λp e K=>h _ _ _ _ _ _ p _ _ hA R J e K
theorem zI.s{f}(h:zI C n f):uV C n f:=λ_ _ _ _ _ _ _ _ _ hA R J e K=>h hA R J (Ok.of e K)
end
theorem wt{α:Type}{M:uM}{A:bg}{t:dS α}{Q:α->ah->Prop}{E:af->ah->Prop}{s:ah}{τ:Nat}(ht:τ<=s.toks)(h:wpAny M A t (λa s'=>τ<=s'.toks->Q a s') E s):wpAny M A t Q E s:=
 wpAny_with_toks ht (e8 h (λ_ _ q=>q) λ_ _ q _=>q)
section
variable{C:Cfg}{n:Nat}{sc:bc}
noncomputable def aa(k:Nat):EM:=λF st=>(F.lookup k).map (·,st)
theorem rB{A:bg}{env:aR}{F:aj}{ρ:aD}{s:ah}{Q:af->ah->Prop}{E:af->ah->Prop}{k:Nat}{v:AV}
 (N:a8 C sc ρ F env s.heap)(h:F.lookup k=some v)(K:∀V,RelV ρ v V->Q V s):wpAny (model C.prog C.w) A (loadName env (C.nm k)) Q E s:=by
 have hk:env.scope.kind=.function :=by rw[N.scope];exact N.kind
 obtain⟨V,r,⟨hl,M,J,hm⟩|⟨hl,c,hc,J,hv⟩⟩:=N.vars k v h
 ·exact wpAny_loadName_local hk hl J hm (K V r)
 ·rcases hl with hl|hl
  ·exact wpAny_loadName_cell hk hl hc hv (K V r)
  ·exact wpAny_loadName_free hk hl hc hv (K V r) (N.vu _ hl)
theorem ai{x:ae}{pos:bM}(k:Nat)(J:C.nm k=x)(hd:(x==("__debug__":ae))=false):bR C n sc (.Name x pos) (aa k):=KE.s λhA N R h=>by
 subst J;exact h.map.some λv e h=>sy (rB N e λV r=>h V _ _ .refl R r) hd
noncomputable def xk(v:AV):EM:=λ_ st=>some (v,st)
theorem aA{i:Int}{k:Nat}{pos:bM}:bR C n sc (.Constant (.int i) k pos) (xk (.int i)):=KE.s λhA N R h=>wpAny_Constant_int (h _ _ _ (.toks _) R ⟨_,rfl⟩)
theorem cz{x:ae}{k:Nat}{pos:bM}:bR C n sc (.Constant (.str x) k pos) (xk (.str x)):=KE.s λhA N R h=>ZY (h _ _ _ (.toks _) R ⟨_,rfl⟩)
theorem kC{b:Bool}{k:Nat}{pos:bM}:bR C n sc (.Constant (.bool b) k pos) (xk (.bool b)):=KE.s λhA N R h=>λ_ _ _=>h _ _ _ .refl R rfl
noncomputable def ay(o:AV->AV->St->Option (AV×St))(f g:EM):EM:=λF st=>(f F st).bind λp=>(g F p.2).bind λq=>o p.1 q.1 q.2
theorem vC{α β:Type}{x:Option α}{f:α->Option β}{b:β}(h:x.bind f=some b):∃a,x=some a/\f a=some b:=Option.bind_eq_some_iff.mp h
theorem aY{l r:aJ}{op:HJ}{pos:bM}{f g:EM}{o}(hl:bR C n sc l f)(hr:bR C n sc r g)(ho:d8 C n (binaryOp op) o):
 bR C n sc (.BinOp l op r pos) (ay o f g):=KE.s λhA N R h=>wpAny_BinOp (hl.k hA N R (h.bind.mono λp h Va J t1 g1 O S=>hr.k hA (N.go g1) O (h.bind.mono λq h Vb bA t2 g2 U Y=>ho.k hA U (S.mono g2.pre) Y (h.mono λr k=>k.step (g1.trans g2)))))
theorem B4{l r:aJ}{op:CmpOp}{pos:bM}{f g:EM}{o}(hl:bR C n sc l f)(hr:bR C n sc r g)(ho:d8 C n (compareOp op) o)
 (hm:behindInMarks op r=false):
 bR C n sc (.Compare l [op] [r] pos) (ay o f g):=KE.s λhA N R h=>wpAny_Compare1 (hl.k hA N R (h.bind.mono λp h Va J t1 g1 O S=>hr.k hA (N.go g1) O (h.bind.mono λq h Vb bA t2 g2 U Y=>ho.k hA U (S.mono g2.pre) Y (h.mono λr k=>k.step (g1.trans g2))))) hm
noncomputable def aS(o:AV->AV->St->Option (AV×St))(f g:EM):aj->St->Option (Bool×St):=
 λF st=>(ay o f g F st).bind λp=>p.1.b?.map λb=>(b,p.2)
theorem cQ{l r:aJ}{op:CmpOp}{pos:bM}{f g:EM}{o}(hl:bR C n sc l f)(hr:bR C n sc r g)(ho:d8 C n (compareOp op) o)
 (hm:behindInMarks op r=false):
 lh C n sc (.Compare l [op] [r] pos) (aS o f g):=KT.s λhA N R h=>wpAny_isTrue_Compare1 (hl.k hA N R (h.bind.bind.mono λp h Va J t1 g1 O S=>hr.k hA (N.go g1) O (h.bind.mono λq h Vb bA t2 g2 U Y=>ho.k hA U (S.mono g2.pre) Y (h.mono λr h V aq s' g' R' r'=>r'.b h.map λx h=>Ir (h aq s' ((g1.trans g2).trans g') R'))))) hm
noncomputable def kj(t:AV->St->Option Bool)(f:EM):aj->St->Option (Bool×St):=λF st=>(f F st).bind λp=>(t p.1 p.2).map (·,p.2)
theorem qv{e:aJ}{f:EM}{t}(he:∀env,isTrue e env (eval e env)=(do let v <-eval e env;standAt e.pos;holding [v] (truthy v)))(hf:bR C n sc e f)(ht:uV C n t):
 lh C n sc e (kj t f):=KT.s λhA N R h=>wpAny_isTrue_value (hf.k hA N R (h.bind.mono λp h Va J t1 g1 O S=>ht.k hA O S (h.map.mono λb h s' U Y=>h _ s' (g1.trans U) Y))) (he _)
noncomputable def iy(f g:aj->St->Option (Bool×St)):aj->St->Option (Bool×St):=λF st=>(f F st).bind λp=>if p.1 then some (true,p.2)else g F p.2
structure qR(C:Cfg)(n:Nat)(sc:bc)(op:BoolOp)(es:List aJ)(f:aj->St->Option (Bool×St)):Prop where
 u:∀{A env F ρ st s Q E},bN n A->a8 C sc ρ F env s.heap->Rel C ρ st s.heap->Ok (f F st) (tG C ρ s Q)->wpAny (model C.prog C.w) A (allTrue op es env) Q E s
theorem wu:qR C n sc .Or [] (λ_ st=>some (false,st)):=⟨λhA N R h=>wpAny_allTrue_Or_nil (h _ _ .refl R)⟩
theorem oK{x:aJ}{es:List aJ}{f g}(h:lh C n sc x f)(hs:qR C n sc .Or es g):qR C n sc .Or (x::es) (iy f g):=⟨λhA N R q=>
 wpAny_allTrue_Or_cons (h.k hA N R (q.bind.mono λp q J t1 g1 O=>by
  obtain⟨b,s1⟩:=p;cases b with
  |false=>exact hs.u hA (N.go g1) O (Ok.mono q λr k=>k.step g1)
  |true=>exact q J t1 g1 O))⟩
theorem rI{op:BoolOp}{es:List aJ}{pos:bM}{f}(h:qR C n sc op es f):lh C n sc (.BoolOp op es pos) f:=KT.s λhA N R q=>wpAny_isTrue_BoolOp (h.u hA N R q)
noncomputable def gd(t:aj->St->Option (Bool×St))(f g:EM):EM:=λF st=>(t F st).bind λp=>if p.1 then f F p.2 else g F p.2
theorem nZ{e a b:aJ}{pos:bM}{t f g}(he:lh C n sc e t)(O:bR C n sc a f)(hb:bR C n sc b g):bR C n sc (.IfExp e a b pos) (gd t f g):=KE.s λhA N R q=>wpAny_IfExp (he.k hA N R (q.bind.mono λp q S t1 g1 J=>by
 obtain⟨b,s1⟩:=p;cases b with
 |true=>exact O.k hA (N.go g1) J (Ok.mono q λr k=>k.step g1)
 |false=>exact hb.k hA (N.go g1) J (Ok.mono q λr k=>k.step g1)))
end
section
variable{C:Cfg}{n:Nat}{sc:bc}{τ:Nat}
theorem Ns.unique{h:aO}{a:ak}{M J:ae->Option af}(x:h.Ns a M)(y:h.Ns a J):M=J:=by
 refine jW x λo es ep e d _ f=>?_;refine jW y λo' R S N O _ U=>?_;rw[e]at N;cases N;rw[d]at O;cases O;funext z
 rw[<-f z,<-U z]
theorem D3{h:aO}{a c:ak}{M:ae->Option af}{v}(x:h.Ns a M)(y:h.IsCell c v):c≠a:=by
 rintro rfl;refine jW x λo es ep e d _ f=>?_;refine aG y λo' J N=>?_;rw[e]at J;cases J;rw[d]at N;cases N
theorem a8.upd{ρ:aD}{F:aj}{env:aR}{h h':aO}{X:ak}{k:Nat}{v:AV}(N:a8 C sc ρ F env h)(hk:∀b o,b≠X->h.get? b=some o->h'.get? b=some o)
 (Y:∃R,h'.Ns env.locals R/\∀x,x≠C.nm k->∀M,h.Ns env.locals M->R x=M x)(U:∀c gw,h.IsCell c gw->∃J,h'.IsCell c J)(ho:∀x c,x≠C.nm k->env.cells.lookup x=some c->c≠X)(hv:Jm C ρ env h' (C.nm k) v):a8 C sc ρ (F.put k v) env h':=by
 refine aG Y λR O hM=>?_;refine⟨N.scope,N.kind,N.globals,N.builtins,⟨_,O⟩,N.mI,N.oj,λj x q=>?_,λx q=>?_,N.apart,N.vu,λx c q=>(N.cells x c q).imp_right λf=>f.elim λgw f=>U c gw f,N.frees,N.here⟩
 ·rw[aj.wq]at q
  by_cases S:j=k
  ·rw[if_pos S]at q
   exact S▸mx q▸hv
  ·rw[if_neg S]at q
   have ne:C.nm j≠C.nm k:=λz=>S (C.inj _ _ z);exact(N.vars j x q).imp λV' p=>p.imp_right λhv=>hv.imp (λp=>p.imp_right λe=>e.elim λM e=>⟨R,O,(hM _ ne M e.1).trans e.2⟩) λp=>p.imp_right λe=>e.imp λc e=>⟨e.1,e.2.1,IsCell.of e.2.2 λo e'=>hk c o (ho _ c ne e.1) e'⟩
 ·refine kr (N.own x q) λc gw b d e f i=>?_
  exact(U c gw f).elim λJ f=>⟨c,J,b,d,e,f,i⟩
theorem Go.upd{Y:ak->Prop}{ρ:aD}{s:ah}{h':aO}{t:Nat}{X:ak}(hk:∀b o,b≠X->s.heap.get? b=some o->h'.get? b=some o)(al:∃o,h'.get? X=some o)(J:Y X):Go Y ρ s ρ {s with heap:=h',toks:=t}:=
 ⟨jE _,λ_ h=>.inl h,λa o e _ x=>hk a o (λz=>x (z▸J)) e,λa o e=>if q:a=X then q▸al else⟨o,hk a o q e⟩,rfl,rfl⟩
theorem mS{A:bg}{env:aR}{F:aj}{ρ:aD}{st:St}{s:ah}{Q:Unit->ah->Prop}{E:af->ah->Prop}{k:Nat}{v:AV}{V:af}{T:ae->Prop}(hT:T (C.nm k))
 (N:a8 C sc ρ F env s.heap)(R:Rel C ρ st s.heap)(hk:sc.names.lookup (C.nm k)=some .local \/sc.names.lookup (C.nm k)=some .cell)(r:RelV ρ v V)
 (K:∀s',Go (lY env T) ρ s ρ s'->a8 C sc ρ (F.put k v) env s'.heap->Rel C ρ st s'.heap->Q () s'):wpAny (model C.prog C.w) A (storeName env (C.nm k) V) Q E s:=by
 have U:env.scope.kind=.function :=N.scope▸N.kind;have fin:∀{h':aO}{t:Nat}{X:ak},(∀b o,b≠X->s.heap.get? b=some o->h'.get? b=some o)->(∃o,h'.get? X=some o)->lY env T X->a8 C sc ρ (F.put k v) env h'->Q () {s with heap:=h',toks:=t}:=λhk al hX N'=>
  K _ (Go.upd hk al hX) N' (R.lT _ (λb o e x=>hk b o (λz=>x (z▸hX)) e) (dr.out N) (dr.base N))
 refine bO N.ns λY S=>?_;rcases hk with hk|hk
 ·have hl:env.kindOf (C.nm k)=some .local :=by unfold jG;rw[N.scope];exact hk
  refine wpAny_storeName_local hl S (λh' O hs=>?_) (by rw[U];rfl);have J:∀b o,b≠env.locals->s.heap.get? b=some o->h'.get? b=some o:=λb o ne e=>(hs.2 b ne).trans e;exact fin J (oq O) (.inl rfl) (N.upd J ⟨_,O,λx ne M e=>(if_neg ne).trans (congrFun (Ns.unique S e) x)⟩ (λc gw f=>⟨gw,IsCell.of f λo e=>J c o (D3 S f) e⟩)
   (λx c _ e=>(N.cells x c e).2.elim λgw f=>D3 S f) ⟨V,r,.inl ⟨hl,_,O,if_pos rfl⟩⟩)
 ·have hl:env.kindOf (C.nm k)=some .cell :=by unfold jG;rw[N.scope];exact hk
  refine kr (N.own _ hl) λc gw hc Z5 Z6 Z7 Z8=>?_;refine wpAny_storeName_cell U hl hc Z7 λh' O hs=>?_;have J:∀b o,b≠c->s.heap.get? b=some o->h'.get? b=some o:=λb o ne e=>(hs.2 b ne).trans e;exact fin (t:=s.toks) J (n5 O) (.inr ⟨_,hT,hl,hc⟩) (N.upd J ⟨Y,Ns.of S λo e=>J _ o (Ne.symm Z6) e,λx _ M e=>congrFun (Ns.unique S e) x⟩ (λc' Z4 f=>if q:c'=c then⟨_,q▸O⟩else⟨Z4,IsCell.of f λo e=>J c' o q e⟩)
   (λx c' ne e z=>ne (N.apart _ _ _ e (z▸hc))) ⟨V,r,.inr ⟨.inl hl,c,hc,Z5,O⟩⟩)
theorem Go.own{env:aR}{ρ aq:aD}{s s':ah}(g:Go No ρ s aq s'):Go (dr env) ρ s aq s':=g.weak λ_ h=>h.elim
noncomputable def bj(k:Nat)(f:EM):SM:=λF st=>(f F st).map λp=>(.next,F.put k p.1,p.2)
theorem mR{value:aJ}{t:Option aJ}{l:Nat}{env env':aR}(h:env.scope=env'.scope):swapsWith value t l env=swapsWith value t l env':=by
 unfold swapsWith BS jG;rw[h]
theorem cY{x:ae}{p' pos:bM}{e:aJ}{f:EM}(k:Nat)(J:C.nm k=x)(he:bR C n sc e f)
 (hk:sc.names.lookup x=some .local \/sc.names.lookup x=some .cell)
 (hs:swapsWith e (some (.Name x p')) pos.line {(default:aR)with scope:=sc}=pure false):
 cA C n sc τ (.Assign [.Name x p'] e pos) (bj k f):=KX.s λhA ht N R h=>by
 subst J;exact yh (he.k hA N R (h.map.mono λp h V O t1 g1 S U=>mS trivial (N.go g1) S hk U λs' Y N' R'=>h _ _ _ (g1.own.trans Y) N' R' rfl)) (by rw[mR (env':={(default:aR)with scope:=sc}) N.scope];exact hs)
noncomputable def cy(f:EM):SM:=λF st=>(f F st).map λp=>(.ret p.1,F,p.2)
theorem eC{e:aJ}{f:EM}{pos:bM}(he:bR C n sc e f):cA C n sc τ (.Return (some e) pos) (cy f):=KX.s λhA ht N R h=>RY (he.k hA N R (h.map.mono λp h V J t1 g1 O S=>h _ _ _ g1.own (N.go g1) O ⟨V,rfl,S⟩))
noncomputable def gN(f:EM):SM:=λF st=>(f F st).map λp=>(.next,F,p.2)
theorem o7{e:aJ}{f:EM}{pos:bM}(he:bR C n sc e f)
 (hs:swapsWith e none pos.line {(default:aR)with scope:=sc}=pure false):cA C n sc τ (.Expr e pos) (gN f):=KX.s λhA ht N R h=>by
 refine Tn (he.k hA N R (h.map.mono λp h V J t1 g1 O S=>h _ _ _ g1.own (N.go g1) O rfl)) ?_ (by rw[mR (env':={(default:aR)with scope:=sc}) N.scope];exact hs);unfold interactive;rw[N.scope,N.kind];rfl
noncomputable def yY:SM:=λF st=>some (.cont,F,st)
theorem PC{pos:bM}:cA C n sc τ (.Continue pos) yY:=KX.s λhA ht N R h=>wpAny_Continue (h _ _ _ .refl N R rfl)
noncomputable def cn(t:aj->St->Option (Bool×St))(f g:SM):SM:=λF st=>(t F st).bind λp=>if p.1 then f F p.2 else g F p.2
theorem eP{e:aJ}{a b:List gK}{pos:bM}{t f g}(he:lh C n sc e t)(S:gr C n sc τ a f)(hb:gr C n sc τ b g):cA C n sc τ (.If e a b pos) (cn t f g):=KX.s λhA ht N R h=>wpAny_If (wt ht (he.k hA N R (h.bind.mono λp h U t1 g1 O J=>by
 obtain⟨b,s1⟩:=p;cases b with
 |true=>exact S.k hA J (N.go g1) O (Ok.mono h λq k=>k.step g1.own)
 |false=>exact hb.k hA J (N.go g1) O (Ok.mono h λq k=>k.step g1.own))))
noncomputable def aC:SM:=λF st=>some (.next,F,st)
theorem bp:gr C n sc τ [] aC:=KX.s λhA ht N R h=>BU (h _ _ _ .refl N R rfl)
noncomputable def ao(f g:SM):SM:=λF st=>(f F st).bind λp=>match p.1 with|.next =>g p.2.1 p.2.2|fl=>some (fl,p.2.1,p.2.2)
theorem aK{x:gK}{xs:List gK}{f g:SM}(hx:cA C n sc τ x f)(hs:gr C n sc τ xs g):gr C n sc τ (x::xs) (ao f g):=KX.s λhA ht N R h=>kH (wt ht (hx.k hA ht N R (h.bind.mono λp h r Z4 t1 g1 O S J U=>by
 obtain⟨Y,F1,s1⟩:=p;cases Y with
 |next=>cases J;exact hs.k hA U O S (Ok.mono h λq k=>k.step g1)
 |brk=>cases J;exact h _ _ _ g1 O S rfl
 |cont=>cases J;exact h _ _ _ g1 O S rfl
 |ret v=>obtain⟨V,e,J⟩:=J;subst e;exact h _ _ _ g1 O S ⟨V,rfl,J⟩)))
noncomputable def eS(k:Nat)(o:AV->AV->St->Option (AV×St))(f:EM):SM:=λF st=>(F.lookup k).bind λx=>(f F st).bind λp=>(o x p.1 p.2).map λq=>(.next,F.put k q.1,q.2)
theorem mu{x:ae}{p' pos:bM}{op:HJ}{e:aJ}{f:EM}{o}(k:Nat)(J:C.nm k=x)(he:bR C n sc e f)(ho:d8 C n (inplaceOp op) o)
 (hk:sc.names.lookup x=some .local \/sc.names.lookup x=some .cell):
 cA C n sc τ (.AugAssign (.Name x p') op e pos) (eS k o f):=KX.s λhA ht N R h=>by
 subst J;exact h.bind.some λx0 h0 h=>wpAny_AugAssign_Name (rB N h0 λV0 O=>he.k hA N R (h.bind.mono λp h V S t1 g1 U Y=>ho.k hA U (O.mono g1.pre) Y (h.map.mono λq h W bA t2 g2 R2 r2=>
  mS trivial (N.go (g1.trans g2)) R2 hk r2 λs' g' N' R'=>h _ _ _ ((g1.trans g2).own.trans g') N' R' rfl)))
noncomputable def after(again:aj->St->Option (Fl×aj×St))(q:Fl×aj×St):Option (Fl×aj×St):=
 Fl.casesOn q.1 (again q.2.1 q.2.2) (some (.next,q.2.1,q.2.2)) (again q.2.1 q.2.2) λv=>some (.ret v,q.2.1,q.2.2)
noncomputable def lJ(t:aj->St->Option (Bool×St))(b:SM)(k:Nat):SM:=
 BE (λ_ _=>none) (λ_ again F st=>(t F st).bind λp=>if p.1 then(b F p.2).bind (after again)else some (.next,F,p.2)) k
noncomputable def CF(C:Cfg)(sc:bc)(env:aR)(ρ:aD)(s:ah)(τ:Nat)(Q:jF->ah->Prop)(again:aj->St->Option (Fl×aj×St))(s1:ah):Prop:=
 τ<=s1.toks/\∃F1 J st1,Go (dr env) ρ s J s1/\a8 C sc J F1 env s1.heap/\Rel C J st1 s1.heap/\Ok (again F1 st1) (pL C sc env ρ s Q)
@[elab_as_elim] theorem Qw{env:aR}{ρ J:aD}{s s1:ah}{Q:jF->ah->Prop}{again:aj->St->Option (Fl×aj×St)}{q:Fl×aj×St}{r:jF}(h:Ok (after again q) (pL C sc env ρ s Q))(ht:τ<=s1.toks)
 (g:Go (dr env) ρ s J s1)(N:a8 C sc J q.2.1 env s1.heap)(R:Rel C J q.2.2 s1.heap)(O:Dc J q.1 r){P:jF->Prop}(S:CF C sc env ρ s τ Q again s1->P .next)(hc:CF C sc env ρ s τ Q again s1->P .cont)(hb:Q .next s1->P .brk)(hr:∀V,Q (.ret V) s1->P (.ret V)):P r:=by
 obtain⟨fl,F1,st1⟩:=q;cases fl with
 |next=>cases O;exact S ⟨ht,F1,J,st1,g,N,R,h⟩
 |cont=>cases O;exact hc ⟨ht,F1,J,st1,g,N,R,h⟩
 |brk=>cases O;exact hb (h _ _ _ g N R rfl)
 |ret v=>exact O.elim λV e=>e.1▸hr V (h _ _ _ g N R ⟨V,rfl,e.2⟩)
theorem Es{e:aJ}{b:List gK}{pos:bM}{t f}(k:Nat)(he:lh C n sc e t)(hb:gr C n sc τ b f):cA C n sc τ (.While e b [] pos) (lJ t f k):=KX.s λ{A env F ρ st s Q E} hA ht N R h=>by
 refine T8 (Sj (λj s1=>CF C sc env ρ s τ Q (lJ t f j) s1) ?_ k ⟨ht,F,ρ,st,.refl,N,R,h⟩);rintro j s1 ⟨O,F1,Z4,st1,g1,S,R1,h1⟩;cases j with
 |zero=>exact dA h1
 |succ j=>
  refine wt O (he.k hA S R1 (h1.bind.mono λp h1 bA t2 g2 Y J=>?_));obtain⟨b1,s2⟩:=p;cases b1 with
  |false=>exact BU (h1 _ _ _ (g1.trans g2.own) (S.go g2) Y rfl)
  |true=>exact wt J (hb.k hA J (S.go g2) Y ((Ok.bind h1).mono λq h r Z5 t3 g3 N3 R3 r3 U=>Qw h U ((g1.trans g2.own).trans g3) N3 R3 r3 (λz=>⟨j,iI _,z⟩) (λz=>⟨j,iI _,z⟩) (λz=>z) λ_ z=>z))
end
open PyProof.Rows
inductive It where
 |list (l i:Nat)
 |tup (l i:Nat)
 |str (x:ae) (i:Nat)
 |range (x left step:Int)
 |enum (l i:Nat)
 |zip (l m i:Nat)
 |gen (l:Nat) (nx:St->Option (Option AV×St))
inductive Item where
 |one (v:AV)
 |two (a b:AV)
noncomputable def It.two(it:It):Bool:=It.casesOn it (λ_ _=>false) (λ_ _=>false) (λ_ _=>false) (λ_ _ _=>false) (λ_ _=>true) (λ_ _ _=>true) λ_ _=>false
noncomputable def It.vQ(it:It):Bool:=It.casesOn it (λ_ _=>false) (λ_ _=>true) (λ_ _=>true) (λ_ _ _=>true) (λ_ _=>false) (λ_ _ _=>false) λ_ _=>true
noncomputable def AO.Jj(o:AO):Option (List AV):=AO.casesOn o aL jI (λ_=>aL) (λ_=>aL) (λ_ _=>aL) (λ_=>aL) (λ_=>aL) (λ_ _=>aL) (λ_ _=>aL) (λ_ _=>aL) (λ_=>aL) λ_=>aL
noncomputable def AO.JK(o:AO):Option (List AV):=AO.casesOn o aL (λ_=>aL) jI (λ_=>aL) (λ_ _=>aL) (λ_=>aL) (λ_=>aL) (λ_ _=>aL) (λ_ _=>aL) (λ_ _=>aL) (λ_=>aL) λ_=>aL
theorem RP{o:AO}{P:List AV->Prop}(h:Ok o.Jj P):∃xs,o=.list xs/\P xs:=by
 cases o with
 |list xs=>exact⟨xs,rfl,h⟩
 |_=>exact dA h
theorem Uz{o:AO}{P:List AV->Prop}(h:Ok o.JK P):∃xs,o=.tup xs/\P xs:=by
 cases o with
 |tup xs=>exact⟨xs,rfl,h⟩
 |_=>exact dA h
noncomputable def bF(st:St)(l:Nat):Option (List AV):=(st[l]?).bind AO.Jj
noncomputable def eo(st:St)(l:Nat):Option (List AV):=(st[l]?).bind AO.JK
theorem dC{st:St}{l:Nat}{xs:List AV}(h:st[l]?=some (.list xs)):bF st l=some xs:=by unfold bF;rw[h];rfl
theorem kM{st:St}{l:Nat}{xs:List AV}(h:st[l]?=some (.tup xs)):eo st l=some xs:=by unfold eo;rw[h];rfl
noncomputable def It.next(it:It)(st:St):Option (Option (Item×It)×St):=It.casesOn it
 (λl i=>(bF st l).map λxs=>((xs[i]?).map λv=>(.one v,.list l (i+1)),st))
 (λl i=>(eo st l).map λxs=>((xs[i]?).map λv=>(.one v,.tup l (i+1)),st))
 (λx i=>some ((x.cps[i]?).map λc=>(.one (.str ⟨#[c]⟩),.str x (i+1)),st))
 (λx left step=>some (if 0<left then some (.one (.int x),.range (x+step) (left -1) step)else none,st))
 (λl i=>(bF st l).map λxs=>((xs[i]?).map λv=>(.two (.int i) v,.enum l (i+1)),st))
 (λl m i=>(bF st l).bind λxs=>(bF st m).map λJ=>((xs[i]?).bind λv=>(J[i]?).map λw=>(.two v w,.zip l m (i+1)),st))
 λl nx=>(nx st).map λp=>(p.1.map λv=>(.one v,.gen l nx),p.2)
structure Zi(h:aO)(z TI TO i1 i2 l1 l2:ak)(k:Nat)(f0 a b:af):Prop where
 D:ZipApart z TI TO i1 i2 l1 l2
 z:IsZip h z TI TO f0
 i:B7 h TI (.ref i1) (.ref i2)
 o:B7 h TO a b
 one:h.IsListIter i1 l1 k
 two:h.IsListIter i2 l2 k
theorem Zi.of{h h':aO}{z TI TO i1 i2 l1 l2:ak}{k:Nat}{f0 f1 a b J b':af}(Z:Zi h z TI TO i1 i2 l1 l2 k f0 a b)(N:IsZip h' z TI TO f1)(O:B7 h' TI (.ref i1) (.ref i2))(R:B7 h' TO J b')(S:∀o,h.get? i1=some o->h'.get? i1=some o)(U:∀o,h.get? i2=some o->h'.get? i2=some o):
 Zi h' z TI TO i1 i2 l1 l2 k f1 J b':=⟨Z.D,N,O,R,Z.one.imp λo e=>⟨S o e.1,e.2⟩,Z.two.imp λo e=>⟨U o e.1,e.2⟩⟩
section
variable(C:Cfg)(n:Nat)
noncomputable def Jh(ρ:aD)(r:Option AV)(V:Option af):Prop:=r.elim (V=none) λv=>∃W,V=some W/\RelV ρ v W
noncomputable def CL(l:Nat)(nx:St->Option (Option AV×St)):Prop:=
 ∀{A ρ st s a Q E},bN n A->Rel C ρ st s.heap->ρ[l]?=some a->Ok (nx st) (λp=>∀V aq s',Go No ρ s aq s'->Rel C aq p.2 s'.heap->Jh aq p.1 V->Q V s')->wpAny (model C.prog C.w) A (pyNext (.ref a)) Q E s
noncomputable def fO(ρ:aD)(h:aO)(fp:List ak)(I:ak)(it:It):Prop:=It.casesOn it
 (λl i=>fp=[I]/\∃a,ρ[l]?=some a/\h.IsListIter I a i)
 (λl i=>fp=[I]/\∃a,ρ[l]?=some a/\h.IsTupleIter I a i)
 (λx i=>fp=[I]/\∃t,h.IsStrIter I (strIterType x) x t i)
 (λx left step=>fp=[I]/\IsRangeIter h I x left step)
 (λl i=>∃a it old,fp=[I,it]/\I≠it/\ρ[l]?=some a/\IsEnum h I it i old/\h.IsListIter it a i)
 (λl m i=>∃a1 a2 TI TO i1 i2 x y,fp=[I,TI,TO,i1,i2]/\ρ[l]?=some a1/\ρ[m]?=some a2/\Zi h I TI TO i1 i2 a1 a2 i .none x y)
 λl nx=>fp=[]/\ρ[l]?=some I/\CL C n l nx
noncomputable def Hid(ρ:aD)(h:aO)(fp:List ak):Prop:=∀a∈fp,a∉ρ/\C.base.get? a=none/\∃o,h.get? a=some o
noncomputable def Ci(h:aO)(I:ak):Prop:=∀A s(Q:af->ah->Prop) E,(∀b o,h.get? b=some o->s.heap.get? b=some o)->Q (.ref I) s->wpAny (model C.prog C.w) A (pyIter (.ref I)) Q E s
end
section
variable{C:Cfg}{n:Nat}
theorem Hid.go{ρ aq:aD}{s s':ah}{fp:List ak}{X:ak->Prop}(H:Hid C ρ s.heap fp)(g:Go X ρ s aq s'):Hid C aq s'.heap fp:=λa m=>by
 refine de (H a m) λh1 h2 J=>?_;obtain⟨o,h3⟩:=J;exact⟨g.iZ h3 h1,h2,g.alive a o h3⟩
theorem fO.of{ρ aq:aD}{h h':aO}{fp:List ak}{I:ak}(p:ρ<+:aq)(k:∀a o,a∈fp->h.get? a=some o->h'.get? a=some o){it:It}(hI:fO C n ρ h fp I it):fO C n aq h' fp I it:=by
 cases it with
 |list l i=>exact hI.imp_right λe=>e.imp λa e=>⟨gJ p e.1,e.2.imp λo y=>⟨k _ _ (hI.1▸.head _) y.1,y.2⟩⟩
 |tup l i=>exact hI.imp_right λe=>e.imp λa e=>⟨gJ p e.1,e.2.imp λo y=>⟨k _ _ (hI.1▸.head _) y.1,y.2⟩⟩
 |str x i=>exact hI.imp_right λe=>e.imp λt e=>e.imp λo y=>⟨k _ _ (hI.1▸.head _) y.1,y.2⟩
 |range x left step=>exact hI.imp_right λe=>k _ _ (hI.1▸.head _) e
 |enum l i=>
  refine jW hI λa it old J ne x N=>?_;subst J;obtain⟨y,o,z⟩:=N;exact⟨a,it,old,rfl,ne,gJ p x,k _ _ (.head _) y,o,k _ _ (.tail _ (.head _)) z.1,z.2⟩
 |zip l m i=>
  refine zU hI λa1 a2 TI TO i1 i2 x y O=>?_;obtain⟨rfl,p1,p2,Z⟩:=O;exact⟨a1,a2,TI,TO,i1,i2,x,y,rfl,gJ p p1,gJ p p2,Z.of (k _ _ (.head _) Z.z) (k _ _ (.tail _ (.head _)) Z.i) (k _ _ (.tail _ (.tail _ (.head _))) Z.o) (λo e=>k _ _ (.tail _ (.tail _ (.tail _ (.head _)))) e) λo e=>k _ _ (.tail _ (.tail _ (.tail _ (.tail _ (.head _))))) e⟩
 |gen l nx=>exact⟨hI.1,gJ p hI.2.1,hI.2.2⟩
theorem fO.go{ρ aq:aD}{s s':ah}{fp:List ak}{I:ak}{X:ak->Prop}{it:It}(h:fO C n ρ s.heap fp I it)(H:Hid C ρ s.heap fp)(g:Go X ρ s aq s')(J:∀a∈fp,¬X a):fO C n aq s'.heap fp I it:=
 h.of g.pre λa o m e=>g.cI a o e (H a m).1 (J a m)
theorem xS{ρ:aD}{st:St}{h h':aO}{fp:List ak}(R:Rel C ρ st h)(H:Hid C ρ h fp)(k:∀a o,a∉fp->h.get? a=some o->h'.get? a=some o):Rel C ρ st h':=
 R.lT (·∈fp) (λb o e m=>k b o m e) (λa J m=>(H a m).1 J) λa o e m=>by rw[(H a m).2.1]at e;cases e
theorem Cg{ρ:aD}{s:ah}{h':aO}{t:Nat}{fp:List ak}(k:∀a o,a∉fp->s.heap.get? a=some o->h'.get? a=some o)(l:∀a∈fp,∃o,h'.get? a=some o):Go (·∈fp) ρ s ρ {s with heap:=h',toks:=t}:=
 ⟨jE _,λ_ h=>.inl h,λa o e _ x=>k a o x e,λa o e=>by
  by_cases q:a∈fp
  ·exact l a q
  ·exact⟨o,k a o q e⟩,rfl,rfl⟩
noncomputable def yF(C:Cfg)(ρ:aD)(h:aO)(it:Item)(V:af):Prop:=Item.casesOn it (λv=>RelV ρ v V) λa b=>∃T A B,V=.ref T/\h.get? T=some {cls:=.type "tuple",data:=.seq #[A,B]}/\RelV ρ a A/\RelV ρ b B
theorem fB{h:aO}{a:ak}{xs:Array af}(p:h.PlainList a xs):h.IsList a xs:=p.isList
theorem p5{h:aO}{a:ak}{xs:Array af}(p:h.get? a=some {cls:=.type "tuple",data:=.seq xs}):h.IsTuple a xs:=⟨_,p,rfl,0,rfl⟩
theorem Rel.list{ρ:aD}{st:St}{h:aO}(R:Rel C ρ st h){l:Nat}{a:ak}{xs:List AV}(e:st[l]?=some (.list xs))(J:ρ[l]?=some a):∃vs,h.PlainList a vs.toArray/\bu ρ xs vs:=R.at e J
theorem Rel.tup{ρ:aD}{st:St}{h:aO}(R:Rel C ρ st h){l:Nat}{a:ak}{xs:List AV}(e:st[l]?=some (.tup xs))(J:ρ[l]?=some a):
 ∃vs,h.get? a=some {cls:=.type "tuple",data:=.seq vs.toArray}/\bu ρ xs vs:=R.at e J
theorem vJ{α β:Type}{x:Option α}{f:α->β}{b:β}(h:x.map f=some b):∃a,x=some a/\f a=b:=ji.mp h
theorem CM{st:St}{l:Nat}{xs:List AV}(h:bF st l=some xs):st[l]?=some (.list xs):=
 (Ok.of (P:=(xs=·)) h rfl).bind.some λo e h=>(RP h).elim λ_ z=>e.trans (congrArg some (z.1.trans (congrArg AO.list z.2.symm)))
theorem IT{st:St}{l:Nat}{xs:List AV}(h:eo st l=some xs):st[l]?=some (.tup xs):=
 (Ok.of (P:=(xs=·)) h rfl).bind.some λo e h=>(Uz h).elim λ_ z=>e.trans (congrArg some (z.1.trans (congrArg AO.tup z.2.symm)))
theorem Rel.l{C:Cfg}{ρ:aD}{st:St}{h:aO}(R:Rel C ρ st h){l:Nat}{J:ak}(N:ρ[l]?=some J){P:List AV->Prop}(q:Ok (bF st l) P){G:Prop}
 (k:∀xs vs,st[l]?=some (.list xs)->h.PlainList J vs.toArray->bu ρ xs vs->P xs->G):G:=
 q.some λxs e p=>(R.list (CM e) N).elim λvs hl=>k xs vs (CM e) hl.1 hl.2 p
theorem Rel.t{C:Cfg}{ρ:aD}{st:St}{h:aO}(R:Rel C ρ st h){l:Nat}{J:ak}(N:ρ[l]?=some J){P:List AV->Prop}(q:Ok (eo st l) P){G:Prop}
 (k:∀xs vs,st[l]?=some (.tup xs)->h.get? J=some {cls:=.type "tuple",data:=.seq vs.toArray}->bu ρ xs vs->P xs->G):G:=
 q.some λxs e p=>(R.tup (IT e) N).elim λvs hl=>k xs vs (IT e) hl.1 hl.2 p
theorem nT{vs:List af}{i:Nat}{V:af}(h:vs[i]?=some V):vs.toArray[i]?=some V:=Cb.trans h
theorem ru{ρ:aD}{xs:List AV}{vs:List af}{i:Nat}(r:bu ρ xs vs)(h:xs[i]?=none):vs.toArray[i]?=none:=by
 rw[Cb,uP,r.length];exact uP.mp h
structure jc(X:ak->Prop)(ρ:aD)(s:ah)(aq:aD)(s':ah):Prop where
 pre:ρ<+:aq
 new:∀a∈aq,a∈ρ\/s.heap.get? a=none
 cI:∀a o,s.heap.get? a=some o->a∉ρ->¬X a->s'.heap.get? a=some o
 alive:∀a o,s.heap.get? a=some o->¬X a->∃o',s'.heap.get? a=some o'
 os:s'.os=s.os
 gens:s'.gens=s.gens
theorem Go.l8{X:ak->Prop}{ρ aq:aD}{s s':ah}(g:Go X ρ s aq s'):jc X ρ s aq s':=
 ⟨g.pre,g.new,g.cI,λa o e _=>g.alive a o e,g.os,g.gens⟩
theorem jc.keeps{X:ak->Prop}{ρ:aD}{s:ah}{h':aO}{t:Nat}(k:∀a o,¬X a->s.heap.get? a=some o->h'.get? a=some o):jc X ρ s ρ {s with heap:=h',toks:=t}:=
 ⟨jE _,λ_ h=>.inl h,λa o e _ m=>k a o m e,λa o e m=>⟨o,k a o m e⟩,rfl,rfl⟩
theorem Go.Xr{X:ak->Prop}{ρ aq:aD}{s s':ah}(g:Go No ρ s aq s'):jc X ρ s aq s':=(g.weak λ_ h=>h.elim).l8
theorem jc.after{X Y:ak->Prop}{ρ aq J:aD}{s s' O:ah}(g:Go X ρ s aq s')(N:jc Y aq s' J O)(hf:∀a,Y a->s.heap.get? a=none):Go X ρ s J O where
 pre:=g.pre.trans N.pre
 new a h:=(N.new a h).elim (λh=>g.new a h) λh=>.inr (by
  cases q:s.heap.get? a with
  |none=>rfl
  |some o=>refine bO (g.alive a o q) λo' e=>?_;rw[h]at e;cases e)
 cI a o e n x:=by
  refine N.cI a o (g.cI a o e n x) (λm=>?_) λm=>?_
  ·rcases g.new a m with q|q
   ·exact n q
   ·rw[e]at q;cases q
  ·rw[hf a m]at e;cases e
 alive a o e:=by
  refine bO (g.alive a o e) λo' R=>?_;exact N.alive a o' R λm=>by rw[hf a m]at e;cases e
 os:=N.os.trans g.os
 gens:=N.gens.trans g.gens
noncomputable def TurnPost(C:Cfg)(A:bg)(eX:aJ)(I:ak)(Q:Option af->ah->Prop)(E:af->ah->Prop)(r:Option af)(s:ah):Prop:=
 r.elim (Q none s) λv=>wpAny (model C.prog C.w) A (letOwnedTupleGo eX (.ref I) v) (λ_ s2=>Q (some v) s2) E s
noncomputable def kO(C:Cfg)(n:Nat)(ρ:aD)(s:ah)(fp:List ak)(I:ak)(Q:Option af->ah->Prop)(p:Option (Item×It)×St):Prop:=
 p.1.elim (∀aq s',jc (·∈fp) ρ s aq s'->Rel C aq p.2 s'.heap->Q none s') λq=>∀V aq s',Go (·∈fp) ρ s aq s'->Rel C aq p.2 s'.heap->fO C n aq s'.heap fp I q.2->yF C aq s'.heap q.1 V->Q (some V) s'
theorem LA{A:bg}{I a:ak}{i:Nat}{V:af}{eX:aJ}{Q:Unit->ah->Prop}{E:af->ah->Prop}{s:ah}(h:s.heap.IsListIter I a i)(fin:Q () s):
 wpAny (model C.prog C.w) A (letOwnedTupleGo eX (.ref I) V) Q E s:=by
 have key:∀elts x1 pos,wpAny (model C.prog C.w) A (letOwnedTupleGo (.Tuple elts x1 pos) (.ref I) V) Q E s:=λelts x1 pos=>by
  cases V<;>first|exact wpAny_letOwnedTupleGo_listiter h fin|exact aU fin
 cases eX with
 |List a b=>exact key a 0 b
 |Tuple a b c=>exact key a b c
 |_=>exact aU fin
section
variable{A:bg}{ρ:aD}{st:St}{s:ah}{fp:List ak}{I:ak}{Q:Option af->ah->Prop}{E:af->ah->Prop}{eX:aJ}
theorem oP(R:Rel C ρ st s.heap)(H:Hid C ρ s.heap fp)(h:kO C n ρ s fp I Q (none,st)){h':aO}(J:∀a o,a∉fp->s.heap.get? a=some o->h'.get? a=some o):Q none {s with heap:=h'}:=
 h ρ _ (jc.keeps J) (xS R H J)
theorem uu{v:AV}{V:af}{it:It}{h':aO}{t:Nat}(R:Rel C ρ st s.heap)(H:Hid C ρ s.heap [I])(h:kO C n ρ s [I] I Q (some (.one v,it),st))(hs:S8 I s.heap h')(al:∃o,h'.get? I=some o)(hI:fO C n ρ h' [I] I it)(r:RelV ρ v V):Q (some V) {s with heap:=h',toks:=t}:=
 have J:∀a o,a∉[I]->s.heap.get? a=some o->h'.get? a=some o:=λa o m e=>(hs.2 a λz=>m (z▸.head _)).trans e
 h V ρ _ (Cg J λa m=>cx.mp m▸al) (xS R H J) hI r
theorem uL{h':aO}(J:∀a o,a≠I->s.heap.get? a=some o->h'.get? a=some o):∀a o,a∉[I]->s.heap.get? a=some o->h'.get? a=some o:=λa o m e=>J a o (λz=>m (z▸.head _)) e
theorem MZ{l i:Nat}(Y:A.handled=none)(R:Rel C ρ st s.heap)(hI:fO C n ρ s.heap fp I (.list l i))(H:Hid C ρ s.heap fp)(h:Ok ((It.list l i).next st) (kO C n ρ s fp I Q)):
 wpAny (model C.prog C.w) A (pyNext (.ref I)) (TurnPost C A eX I Q E) E s:=by
 refine tc hI λO a U hit=>?_;subst O;refine R.l U (Ok.map h) λxs vs _ hl N h=>?_;cases ev:xs[i]? with
 |none=>rw[ev]at h;exact wpAny_pyNext_list_end Y hit (fB hl) (ru N ev) λh' hx=>oP R H h (uL hx)
 |some v=>
  rw[ev]at h;refine aG (N.get ev) λV hV rV=>?_;exact RI hit (fB hl) (nT hV) λh' J S=>LA J (uu (t:=s.toks) R H h S (J.imp λo e=>e.1) ⟨rfl,a,U,J⟩ rV)
theorem Nm{l i:Nat}(hh:A.handled=none)(R:Rel C ρ st s.heap)(hI:fO C n ρ s.heap fp I (.tup l i))(H:Hid C ρ s.heap fp)(ht:∃x p,eX=.Name x p)(h:Ok ((It.tup l i).next st) (kO C n ρ s fp I Q)):
 wpAny (model C.prog C.w) A (pyNext (.ref I)) (TurnPost C A eX I Q E) E s:=by
 refine tc hI λO a Y hit=>?_;subst O;refine mN ht λy p S=>?_;subst S;refine R.t Y (Ok.map h) λxs vs _ hl N h=>?_;cases ev:xs[i]? with
 |none=>rw[ev]at h;exact wpAny_pyNext_tuple_end hh hit (p5 hl) (ru N ev) λh' hx=>oP R H h (uL hx)
 |some v=>
  rw[ev]at h;refine aG (N.get ev) λV hV rV=>?_;exact wpAny_pyNext_tuple_item hit (p5 hl) (nT hV) λh' J U=>aU (uu (t:=s.toks) R H h U (J.imp λo e=>e.1) ⟨rfl,a,Y,J⟩ rV)
theorem Oa{x:ae}{i:Nat}(Y:A.handled=none)(R:Rel C ρ st s.heap)(hI:fO C n ρ s.heap fp I (.str x i))(H:Hid C ρ s.heap fp)(ht:∃x p,eX=.Name x p)(h:Ok ((It.str x i).next st) (kO C n ρ s fp I Q)):
 wpAny (model C.prog C.w) A (pyNext (.ref I)) (TurnPost C A eX I Q E) E s:=by
 refine pN hI λS t hit=>?_;subst S;obtain⟨y,p,rfl⟩:=ht;have h:kO C n ρ s [I] I Q ((x.cps[i]?).map λc=>(.one (.str ⟨#[c]⟩),.str x (i+1)),st):=h;have hI:∀{h'},Heap.IsStrIter h' I (strIterType x) x t (i+1)->fO C n ρ h' [I] I (.str x (i+1)):=λe=>⟨rfl,t,e⟩;have kind:strIterType x=if x.cps.all (·<128)then"str_ascii_iterator" else"str_iterator":=rfl;cases O:x.cps[i]? with
 |none=>
  rw[O]at h;by_cases q:x.cps.all (·<128)=true
  ·rw[kind,if_pos q]at hit;exact wpAny_pyNext_ascii_end Y hit O λh' U=>oP R H h (uL U)
  ·rw[kind,if_neg q]at hit;exact wpAny_pyNext_wide_end Y hit O λh' U=>oP R H h (uL U)
 |some c=>
  rw[O]at h;by_cases q:x.cps.all (·<128)=true
  ·rw[kind,if_pos q]at hit hI;exact wpAny_pyNext_ascii_item hit O λh' J N=>aU (uu R H h N (J.imp λo e=>e.1) (hI J) ⟨_,rfl⟩)
  ·rw[kind,if_neg q]at hit hI;exact wpAny_pyNext_wide_item hit O λh' J N=>aU (uu R H h N (J.imp λo e=>e.1) (hI J) ⟨_,rfl⟩)
theorem Lq{x left step:Int}(S:A.handled=none)(R:Rel C ρ st s.heap)(hI:fO C n ρ s.heap fp I (.range x left step))(H:Hid C ρ s.heap fp)(ht:∃x p,eX=.Name x p)(h:Ok ((It.range x left step).next st) (kO C n ρ s fp I Q)):
 wpAny (model C.prog C.w) A (pyNext (.ref I)) (TurnPost C A eX I Q E) E s:=by
 obtain⟨rfl,hit⟩:=hI;refine mN ht λy p N=>?_;subst N;have h:kO C n ρ s [I] I Q (if 0<left then some (.one (.int x),.range (x+step) (left -1) step)else none,st):=h;by_cases hl:0<left
 ·rw[if_pos hl]at h
  exact wpAny_pyNext_range_item hit hl λh' J O=>aU (uu R H h O ⟨_,J⟩ ⟨rfl,J⟩ ⟨_,rfl⟩)
 ·rw[if_neg hl]at h
  exact wpAny_pyNext_range_end S hit (h_.mp hl) λh' U=>oP R H h (uL U)
theorem HP{o:iK}(h:s.heap.get? I=some o):s.heap.objs.size≠I:=λz=>by rw[<-z,fR]at h;exact nomatch h
theorem L3{l i:Nat}(hh:A.handled=none)(R:Rel C ρ st s.heap)(hI:fO C n ρ s.heap fp I (.enum l i))(H:Hid C ρ s.heap fp)(ht:∃elts k p,eX=.Tuple elts k p)(h:Ok ((It.enum l i).next st) (kO C n ρ s fp I Q)):
 wpAny (model C.prog C.w) A (pyNext (.ref I)) (TurnPost C A eX I Q E) E s:=by
 refine jW hI λa it old N ne ha Z4=>?_;subst N;obtain⟨he,hit⟩:=Z4;refine lV ht λelts k p N=>?_;subst N;refine R.l ha (Ok.map h) λxs vs _ hl S h=>?_;cases ev:xs[i]? with
 |none=>rw[ev]at h;exact wpAny_pyNext_enum_end hh he hit (fB hl) (ru S ev) λh' hx=>oP R H h λa o m e=>hx a o (λz=>m (z▸.tail _ (.head _))) e
 |some v=>
  rw[ev]at h;refine aG (S.get ev) λV hV rV=>?_;refine wpAny_pyNext_enum_item he hit (fB hl) (nT hV) ne λh1 ho U ht hz hk=>wpAny_letOwnedTupleGo_enum ho λh2 Y O=>?_;have kk:∀b o,b∉[I,it]->s.heap.get? b=some o->h2.get? b=some o:=λb o m e=>(O.2 b λz=>m (z▸.head _)).trans (hk b o (λz=>m (z▸.head _)) (λz=>m (z▸.tail _ (.head _))) e);have J:h2.IsListIter it a (i+1):=U.imp λo e=>⟨(O.2 _ (Ne.symm ne)).trans e.1,e.2⟩;exact h _ ρ _ (Cg (t:=s.toks+1) kk (bt.mpr ⟨⟨_,Y⟩,bt.mpr ⟨J.imp λo e=>e.1,nofun⟩⟩)) (xS R H kk) ⟨a,it,V,rfl,ne,ha,Y,J⟩ ⟨_,_,_,rfl,(O.2 _ (HP he)).trans ht,⟨_,rfl⟩,rV⟩
theorem AZ{a b c d:ak}{h':aO}(k:∀x o,x≠I->x≠b->x≠c->x≠d->s.heap.get? x=some o->h'.get? x=some o):∀x o,x∉[I,a,b,c,d]->s.heap.get? x=some o->h'.get? x=some o:=λx o m e=>
 k x o (λz=>m (z▸.head _)) (λz=>m (z▸.tail _ (.tail _ (.head _)))) (λz=>m (z▸.tail _ (.tail _ (.tail _ (.head _))))) (λz=>m (z▸.tail _ (.tail _ (.tail _ (.tail _ (.head _)))))) e
theorem RC{l m i:Nat}(hh:A.handled=none)(R:Rel C ρ st s.heap)(hI:fO C n ρ s.heap fp I (.zip l m i))(H:Hid C ρ s.heap fp)(ht:∃elts k p,eX=.Tuple elts k p)(h:Ok ((It.zip l m i).next st) (kO C n ρ s fp I Q)):
 wpAny (model C.prog C.w) A (pyNext (.ref I)) (TurnPost C A eX I Q E) E s:=by
 refine zU hI λa1 a2 TI TO i1 i2 x y Z5=>?_;obtain⟨rfl,p1,p2,Z⟩:=Z5;refine lV ht λelts k p Z6=>?_;subst Z6;refine R.l p1 (Ok.bind h) λxs vs _ hl O h=>R.l p2 (Ok.map h) λys ws _ N rws h=>?_;cases ev:xs[i]? with
 |none=>rw[ev]at h;exact RD hh Z.D Z.z Z.i Z.o Z.one Z.two (fB hl) (fB N) (.inl (ru O ev)) λh' hx=>oP R H h (AZ hx)
 |some v=>
  cases ew:ys[i]? with
  |none=>rw[ev,ew]at h;exact RD hh Z.D Z.z Z.i Z.o Z.one Z.two (fB hl) (fB N) (.inr (ru rws ew)) λh' hx=>oP R H h (AZ hx)
  |some w=>
   rw[ev,ew]at h;refine aG (O.get ev) λV hV rV=>?_;refine aG (rws.get ew) λW hW rW=>?_;refine wpAny_pyNext_zip_item Z.D Z.z Z.i Z.o Z.one Z.two (fB hl) (fB N) (nT hV) (nT hW) λh1 Z7 S U Y hT Z8 hk=>wpAny_letOwnedTupleGo_zip Z7 λh2 Z4 J=>?_;have kk:=AZ (a:=TI) λb o n1 n2 n3 n4 e=>(J.2 b n1).trans (hk b o n1 n2 n3 n4 e);have Z2:Zi h2 I TI TO i1 i2 a1 a2 (i+1) .none V W:=⟨Z.D,Z4,(J.2 _ Z.D.TIz).trans (hk TI _ Z.D.TIz Z.D.TITO Z.D.TIi1 Z.D.TIi2 Z.i),(J.2 _ Z.D.TOz).trans S,U.imp λo e=>⟨(J.2 _ Z.D.i1z).trans e.1,e.2⟩,Y.imp λo e=>⟨(J.2 _ Z.D.i2z).trans e.1,e.2⟩⟩;exact h _ ρ _ (Cg (t:=s.toks) kk (bt.mpr ⟨⟨_,Z4⟩,bt.mpr ⟨⟨_,Z2.i⟩,bt.mpr ⟨⟨_,Z2.o⟩,bt.mpr ⟨Z2.one.imp λo e=>e.1,bt.mpr ⟨Z2.two.imp λo e=>e.1,nofun⟩⟩⟩⟩⟩)) (xS R H kk)
    ⟨a1,a2,TI,TO,i1,i2,V,W,rfl,p1,p2,Z2⟩ ⟨_,_,_,rfl,(J.2 _ (HP Z.z)).trans hT,rV,rW⟩
theorem Px{l:Nat}{nx:St->Option (Option AV×St)}(hA:bN n A)(R:Rel C ρ st s.heap)(hI:fO C n ρ s.heap fp I (.gen l nx))(ht:∃x p,eX=.Name x p)(h:Ok ((It.gen l nx).next st) (kO C n ρ s fp I Q)):
 wpAny (model C.prog C.w) A (pyNext (.ref I)) (TurnPost C A eX I Q E) E s:=by
 refine de hI λJ hl O=>?_;subst J;refine mN ht λy p N=>?_;subst N;refine O hA R hl ((Ok.map h).mono λp h V aq s' g S U=>?_);obtain⟨r,s1⟩:=p;cases r with
 |none=>exact Eq.symm U▸h aq s' g.Xr S
 |some v=>exact U.elim λW e=>e.1▸aU (h W aq s' (g.weak λ_ h=>h.elim) S ⟨rfl,gJ g.pre hl,O⟩ e.2)
end
theorem HQ{A:bg}{ρ:aD}{st:St}{s:ah}{fp:List ak}{I:ak}{it:It}{Q:Option af->ah->Prop}{E:af->ah->Prop}{eX:aJ}
 (hA:bN n A)(R:Rel C ρ st s.heap)(hI:fO C n ρ s.heap fp I it)(H:Hid C ρ s.heap fp)(h2:it.two=true->∃elts k p,eX=.Tuple elts k p)(h1:it.vQ=true->∃x p,eX=.Name x p)
 (h:Ok (it.next st) (kO C n ρ s fp I Q)):wpAny (model C.prog C.w) A (pyNext (.ref I)) (TurnPost C A eX I Q E) E s:=by
 have J:=hA.handled;cases it with
 |list l i=>exact MZ J R hI H h
 |tup l i=>exact Nm J R hI H (h1 rfl) h
 |str x i=>exact Oa J R hI H (h1 rfl) h
 |range x left step=>exact Lq J R hI H (h1 rfl) h
 |enum l i=>exact L3 J R hI H (h2 rfl) h
 |zip l m i=>exact RC J R hI H (h2 rfl) h
 |gen l nx=>exact Px hA R hI (h1 rfl) h
end
noncomputable def aj.oA(F:aj)(ks:List Nat)(vs:List AV):Option aj:=xZ (motive:=λ_=>aj->List AV->Option aj) (λF vs=>sk vs (some F) λ_ _=>none) (λk _ again F vs=>sk vs none λv vs=>again (F.put k v) vs) ks F vs
inductive b7 where
 |name (k:Nat)
 |names (ks:List Nat)
noncomputable def b7.bind(tg:b7)(it:Item)(F:aj)(st:St):Option aj:=b7.casesOn tg (λk=>Item.casesOn it (λv=>some (F.put k v)) λ_ _=>none)
 λks=>Item.casesOn it (λv=>v.r?.bind λl=>(eo st l).bind λxs=>F.oA ks xs) λa b=>F.oA ks [a,b]
noncomputable def b7.fits(tg:b7)(it:It):Bool:=b7.casesOn tg (λ_=>!it.two) λ_=>!it.vQ
section
variable(C:Cfg)(n:Nat)(sc:bc)(T:ae->Prop)
noncomputable def HF(x:ae):Prop:=T x/\(sc.names.lookup x=some .local \/sc.names.lookup x=some .cell)
inductive b_:List aJ->List Nat->Prop
 |nil:b_ [] []
 |cons {x:ae} {p:bM} {k:Nat} {es:List aJ} {ks:List Nat}:C.nm k=x->HF sc T x->b_ es ks->b_ (.Name x p::es) (k::ks)
inductive bB:aJ->b7->Prop
 |name {x:ae} {p:bM} {k:Nat}:C.nm k=x->HF sc T x->bB (.Name x p) (.name k)
 |names {es:List aJ} {j:Nat} {p:bM} {ks:List Nat}:b_ C sc T es ks->bB (.Tuple es j p) (.names ks)
noncomputable def nq(ρ:aD)(s:ah)(Q:af->ah->Prop)(p:It×St):Prop:=
 ∀I fp aq s',Go No ρ s aq s'->Rel C aq p.2 s'.heap->fO C n aq s'.heap fp I p.1->Hid C aq s'.heap fp->(∀a∈fp,s.heap.get? a=none)->Ci C s'.heap I->Q (.ref I) s'
structure mL(e:aJ)(f:aj->St->Option (It×St)):Prop where
 u:∀{A env F ρ st s Q E},bN n A->a8 C sc ρ F env s.heap->Rel C ρ st s.heap->Ok (f F st) (nq C n ρ s Q)->wpAny (model C.prog C.w) A (eval e env) (λx s1=>wpAny (model C.prog C.w) A (pyIter x) Q E s1) E s
end
section
variable{C:Cfg}{n:Nat}{sc:bc}{T:ae->Prop}
theorem DD{es:List aJ}{ks:List Nat}(h:b_ C sc T es ks)(env:aR):(assignEach es env).findIdx? (·.1)=none/\(assignEach es env).length =ks.length:=by
 induction h with
 |nil=>exact⟨rfl,rfl⟩
 |cons N hk hs J=>
  constructor
  ·show List.findIdx? (·.1) ((false,_)::assignEach _ env)=none
   rw[xP];simp[J.1]
  ·show((false,_)::assignEach _ env).length =_
   simp[J.2]
theorem E1{ks:List Nat}:∀{F:aj}{vs:List AV}{P:aj->Prop},Ok (F.oA ks vs) P->ks.length=vs.length:=by
 induction ks with
 |nil=>exactλ{F vs P} h=>by cases vs with|nil=>rfl|cons=>exact dA h
 |cons k ks J=>exactλ{F vs P} h=>by cases vs with|nil=>exact dA h|cons v vs=>exact congrArg (·+1) (J (F:=F.put k v) h)
theorem FA{A:bg}{env:aR}{Q:Unit->ah->Prop}{E:af->ah->Prop}{es:List aJ}{ks:List Nat}(J:b_ C sc T es ks):∀{F:aj}{ρ:aD}{st:St}{s:ah}{vs:List AV}{Vs:List af},
 a8 C sc ρ F env s.heap->Rel C ρ st s.heap->bu ρ vs Vs->Ok (F.oA ks vs) (λF'=>∀s',Go (lY env T) ρ s ρ s'->a8 C sc ρ F' env s'.heap->Rel C ρ st s'.heap->Q () s')->wpAny (model C.prog C.w) A (assignInOrder ((assignEach es env).map (·.2)) Vs) Q E s:=by
 induction J with
 |nil=>
  intro F ρ st s vs Vs N R r h;cases r with
  |nil=>exact aU (h s .refl N R)
  |cons=>exact dA h
 |cons O hk hs S=>
  intro F ρ st s vs Vs N R r h;cases r with
  |nil=>exact dA h
  |cons a b=>
   subst O;exact T6 (HV (mS hk.1 N R hk.2 a λs1 g1 U Y=>S U Y b (Ok.mono h λF' k s' g'=>k s' (g1.trans g'))))
theorem zS{h h':aO}(x:Heap.ExtBut h.objs.size h h'):∀b o,h.get? b=some o->h'.get? b=some o:=λb o e=>x b o (λz=>by rw[z,fR]at e;cases e) e
theorem Aq{A:bg}{env:aR}{F:aj}{ρ:aD}{st:St}{s:ah}{Q:Unit->ah->Prop}{E:af->ah->Prop}{target:aJ}{tg:b7}{item:Item}{V:af}
 (hA:bN n A)(ht:bB C sc T target tg)(N:a8 C sc ρ F env s.heap)(R:Rel C ρ st s.heap)(r:yF C ρ s.heap item V)
 (h:Ok (tg.bind item F st) λF'=>∀s',Go (lY env T) ρ s ρ s'->a8 C sc ρ F' env s'.heap->Rel C ρ st s'.heap->Q () s'):wpAny (model C.prog C.w) A (assign target env V) Q E s:=by
 have J:∀{es:List aJ}{j:Nat}{p:bM}{ks:List Nat}{T':ak}{vs:List AV}{Vs:List af},b_ C sc T es ks->s.heap.IsTuple T' Vs.toArray->bu ρ vs Vs->Ok (F.oA ks vs) (λF'=>∀s',Go (lY env T) ρ s ρ s'->a8 C sc ρ F' env s'.heap->Rel C ρ st s'.heap->Q () s')->
  wpAny (model C.prog C.w) A (assign (.Tuple es j p) env (.ref T')) Q E s:=by
  intro es j p ks T vs Vs O U S hp;obtain⟨h1,h2⟩:=DD O env;refine T7 hA.handled U (by rw[h2,E1 hp,<-S.length,dH]) h1 λh' Y=>?_;have kk:=zS Y;exact FA O (N.go (Go.keeps (t:=s.toks) kk)) (R.keeps kk) S (hp.mono λF' k s' g'=>k s' (((Go.keeps (X:=No) (t:=s.toks) kk).weak λ_ h=>h.elim).trans g'))
 cases ht with
 |name Y hk=>
  cases item with
  |one v=>subst Y;exact HV (mS hk.1 N R hk.2 r h)
  |two a b=>exact dA h
 |names O=>
  cases item with
  |two a b=>
   refine jW r λT VA VB Z4 U ra rb=>?_;subst Z4;exact J (Vs:=[VA,VB]) O ⟨_,U,rfl,_,rfl⟩ (.cons ra (.cons rb .nil)) h
  |one v=>exact RelV.r r (Ok.bind h) λl la ha h=>R.t ha h.bind λxs vs _ hv S h=>J O (p5 hv) S h
noncomputable def cB(tg:b7)(b:SM)(k:Nat):It->SM:=BE (motive:=λ_=>It->SM) (λ_ _ _=>none) (λ_ again it F st=>if tg.fits it then(it.next st).bind λp=>p.1.elim (some (.next,F,p.2)) λq=>(tg.bind q.1 F p.2).bind λF1=>(b F1 p.2).bind (after (again q.2))else none) k
theorem Hs{tg:b7}{target:aJ}{it:It}(ht:bB C sc T target tg)(h:tg.fits it=true)(hi:it.vQ=true):∃x p,target=Expr.Name x p:=by
 cases ht with
 |name=>exact⟨_,_,rfl⟩
 |names=>exact nomatch (show(!it.vQ)=true from h).symm.trans (congrArg _ hi)
theorem Fc{tg:b7}{target:aJ}{it:It}(ht:bB C sc T target tg)(h:tg.fits it=true)(hi:it.two=true):∃elts k p,target=Expr.Tuple elts k p:=by
 cases ht with
 |names=>exact⟨_,_,_,rfl⟩
 |name=>exact nomatch (show(!it.two)=true from h).symm.trans (congrArg _ hi)
theorem a8.oD{ρ aq:aD}{F:aj}{env:aR}{s s':ah}{X:ak->Prop}(N:a8 C sc ρ F env s.heap)(g:jc X ρ s aq s')(hl:¬X env.locals)(hc:∀x c,env.cells.lookup x=some c->¬X c):a8 C sc aq F env s'.heap:=
 N.step g.pre λa o e n h=>by
  have:¬X a:=by
   rcases h with rfl|⟨x,h⟩
   ·exact hl
   ·exact hc x a h
  refine⟨g.cI a o e n this,λm=>?_⟩;rcases g.new a m with q|q
  ·exact n q
  ·rw[e]at q;cases q
theorem a8.off{ρ:aD}{F:aj}{env:aR}{h:aO}{fp:List ak}(N:a8 C sc ρ F env h)(hf:∀a∈fp,h.get? a=none):env.locals∉fp/\∀x c,env.cells.lookup x=some c->c∉fp:=by
 constructor
 ·intro m
  refine BX N.ns λM o _ _ e _=>?_;rw[hf _ m]at e;cases e
 ·intro x c q m
  refine nc (N.cells x c q) λ_ v o e _=>?_;rw[hf _ m]at e;cases e
theorem dr.off{env:aR}{fp:List ak}(hl:env.locals∉fp)(hc:∀x c,env.cells.lookup x=some c->c∉fp):∀a∈fp,¬lY env T a:=by
 rintro a m (rfl|⟨x,_,_,q⟩)
 ·exact hl m
 ·exact hc x a q m
theorem YM{A:bg}{M:uM}{t:dS af}{Q:af->ah->Prop}{E:af->ah->Prop}{s:ah}{τ:Nat}(ht:τ<=s.toks)
 (h:wpAny M A t (λx s1=>wpAny M A (pyIter x) (λa s'=>τ<=s'.toks->Q a s') E s1) E s):wpAny M A t (λx s1=>wpAny M A (pyIter x) Q E s1) E s:=
 wt ht (e8 h (λ_ _ q J=>wt J q) λ_ _ q=>q)
theorem Ma{τ:Nat}{A:bg}{ρ:aD}{st:St}{s:ah}{fp:List ak}{I:ak}{it:It}{Q:Option af->ah->Prop}{E:af->ah->Prop}{eX:aJ}(ht:τ<=s.toks)
 (hA:bN n A)(R:Rel C ρ st s.heap)(hI:fO C n ρ s.heap fp I it)(H:Hid C ρ s.heap fp)(h2:it.two=true->∃elts k p,eX=.Tuple elts k p)(h1:it.vQ=true->∃x p,eX=.Name x p)
 (h:Ok (it.next st) (kO C n ρ s fp I λr s2=>τ<=s2.toks->Q r s2)):wpAny (model C.prog C.w) A (pyNext (.ref I)) (TurnPost C A eX I Q E) E s:=
 wt ht (e8 (HQ hA R hI H h2 h1 h) (λr s1 q J=>by
  cases r with
  |none=>exact q J
  |some v=>exact wt J q) λ_ _ q=>q)
structure IC(C:Cfg)(n:Nat)(sc:bc)(τ:Nat)(A:bg)(target:aJ)(body:List gK)(tg:b7)(b:SM)(env:aR)(fp:List ak)(s:ah):Prop where
 hA:bN n A
 v3:bB C sc (λ_=>True) target tg
 hb:gr C n sc τ body b
 hl:env.locals∉fp
 hc:∀x c,env.cells.lookup x=some c->c∉fp
 hf:∀a∈fp,s.heap.get? a=none
structure Ji(C:Cfg)(n:Nat)(sc:bc)(τ:Nat)(ρ:aD)(s:ah)(env:aR)(fp:List ak)(I:ak)(s2:ah)(F2:aj)(bA:aD)(bI:St)(tK:It):Prop where
 tok:τ<=s2.toks
 go:Go (dr env) ρ s bA s2
 env:a8 C sc bA F2 env s2.heap
 rel:Rel C bA bI s2.heap
 it:fO C n bA s2.heap fp I tK
 lr:Hid C bA s2.heap fp
noncomputable def CI(C:Cfg)(n:Nat)(sc:bc)(τ:Nat)(ρ:aD)(s:ah)(env:aR)(fp:List ak)(I:ak)(tg:b7)(b:SM)(Q:jF->ah->Prop)(j:Nat)(s2:ah):Prop:=
 ∃F2 bA bI tK,Ji C n sc τ ρ s env fp I s2 F2 bA bI tK/\Ok (cB tg b j tK F2 bI) (pL C sc env ρ s Q)
noncomputable def FK(J:Nat->ah->Prop)(j:Nat)(Q:jF->ah->Prop)(f:jF)(s3:ah):Prop:=Flow.casesOn f (∃m,m<j+1/\J m s3) (Q .next s3) (∃m,m<j+1/\J m s3) λv=>Q (.ret v) s3
theorem Po{τ:Nat}{target:aJ}{body:List gK}{tg:b7}{b:SM}{A:bg}{env:aR}{ρ R:aD}{s s3:ah}{fp:List ak}{I:ak}{j:Nat}{F2:aj}{O:St}{J:It}{item:Item}{V:af}{Q:jF->ah->Prop}{E:af->ah->Prop}
 (X:IC C n sc τ A target body tg b env fp s)(N:Ji C n sc τ ρ s env fp I s3 F2 R O J)(r3:yF C R s3.heap item V)
 (h:Ok ((tg.bind item F2 O).bind λF1=>(b F1 O).bind (after (cB tg b j J))) (pL C sc env ρ s Q)):
 wpAny (model C.prog C.w) A (assign target env V) (λ_ S=>wpAny (model C.prog C.w) A (execs body env) (FK (CI C n sc τ ρ s env fp I tg b Q) j Q) E S) E s3:=
 wt N.tok (Aq X.hA X.v3 N.env N.rel r3 (h.bind.mono λF3 h s4 g4 N4 R4 U=>wt U (X.hb.k X.hA U N4 R4 (h.bind.mono λq h r Y s5 g5 N5 R5 r5 Z4=>by
  have Z5:=(N.it.go N.lr g4 (dr.off X.hl X.hc)).go (N.lr.go g4) g5 (dr.off X.hl X.hc);have H5:=(N.lr.go g4).go g5;obtain⟨fl,F5,Z6⟩:=q;have g:=(N.go.trans g4).trans g5;cases fl with
  |next=>cases r5;exact⟨j,iI _,F5,Y,Z6,J,⟨Z4,g,N5,R5,Z5,H5⟩,h⟩
  |cont=>cases r5;exact⟨j,iI _,F5,Y,Z6,J,⟨Z4,g,N5,R5,Z5,H5⟩,h⟩
  |brk=>cases r5;exact h _ _ _ g N5 R5 rfl
  |ret v=>exact r5.elim λV e=>e.1▸h _ _ _ g N5 R5 ⟨V,rfl,e.2⟩))))
theorem iX{τ:Nat}{target iter:aJ}{body:List gK}{pos:bM}{fi:aj->St->Option (It×St)}{tg:b7}{b:SM}(k:Nat)(hi:mL C n sc iter fi)(v3:bB C sc (λ_=>True) target tg)(hb:gr C n sc τ body b)
 (hs:∀env x,foldedSetIterable iter env x=pure x):
 cA C n sc τ (.For target iter body [] pos) (λF st=>(fi F st).bind λp=>cB tg b k p.1 F p.2):=KX.s λ{A env F ρ st s Q E} hA ht N R h=>by
 refine wpAny_For (YM ht (hi.u hA N R (h.bind.mono λp h I fp Y s1 g1 R1 hI H1 hf _ Z4=>?_))) (hs env);have X:IC C n sc τ A target body tg b env fp s:=⟨hA,v3,hb,(N.off hf).1,(N.off hf).2,hf⟩;refine codeAny_forLoop_any (CI C n sc τ ρ s env fp I tg b Q) ?_ k ⟨F,Y,p.2,p.1,⟨Z4,g1.own,N.go g1,R1,hI,H1⟩,h⟩;rintro j s2 ⟨F2,bA,bI,tK,O,h2⟩;cases j with
 |zero=>exact dA h2
 |succ j=>
  obtain⟨S,h2⟩:=Ok.ite h2;have J:wpAny (model C.prog C.w) A (pyNext (.ref I)) (TurnPost C A target I (λr s3=>r.elim (Q .next s3) λv=>wpAny (model C.prog C.w) A (assign target env v) (λ_ U=>wpAny (model C.prog C.w) A (execs body env) (FK (CI C n sc τ ρ s env fp I tg b Q) j Q)
   (notedBy (model C.prog C.w) A env λe s'=>cameBackBy (model C.prog C.w) A env E e s') U) (notedBy (model C.prog C.w) A env λe s'=>cameBackBy (model C.prog C.w) A env E e s') s3) (notedBy (model C.prog C.w) A env λe s'=>cameBackBy (model C.prog C.w) A env E e s')) (notedBy (model C.prog C.w) A env λe s'=>cameBackBy (model C.prog C.w) A env E e s') s2:=
   Ma O.tok hA O.rel O.it O.lr (Fc v3 S) (Hs v3 S) (h2.bind.mono λp h=>by
    obtain⟨r,Z8⟩:=p;cases r with
    |none=>exactλZ5 s3 g3 R3 _=>h _ _ _ (g3.after O.go hf) (O.env.oD g3 X.hl X.hc) R3 rfl
    |some q=>exactλV Z5 s3 g3 R3 Z6 r3 Z7=>Po X ⟨Z7,g3.l8.after O.go hf,O.env.oD g3.l8 X.hl X.hc,R3,Z6,O.lr.go g3⟩ r3 h)
  refine e8 J (λr s3 h=>?_) λ_ _ h=>h;cases r with
  |none=>exact BU h
  |some v=>exact e8 h (λ_ _ h=>e8 h (λ_ _ h=>e8 h (λf _ h=>by cases f<;>exact h) λ_ _ h=>h) λ_ _ h=>h) λ_ _ h=>h
end
theorem nC{α:Type}{x y:ae}{a:α}{l:List (ae×α)}:fG x ((y,a)::l)=if x=y then some a else fG x l:=by
 by_cases h:x=y
 ·rw[if_pos h,h];exact List.lookup_cons_self
 ·rw[if_neg h,eK,beq_false_of_ne h]
theorem rF{α:Type}(x:ae)(l m:List (ae×α)):(l++m).lookup x=(l.lookup x).or (m.lookup x):=by
 induction l with
 |nil=>rfl
 |cons p l J=>
  rw[eM,nC,nC,J];by_cases h:x=p.1
  ·rw[if_pos h,if_pos h];rfl
  ·rw[if_neg h,if_neg h]
theorem lookup_mem{x:ae}{k:e7}{l:List (ae×e7)}(h:l.lookup x=some k):(x,k)∈l:=by
 induction l with
 |nil=>exact nomatch h
 |cons p l J=>
  rw[nC]at h;by_cases e:x=p.1
  ·rw[if_pos e]at h
   exact e▸mx h▸.head _
  ·rw[if_neg e]at h
   exact .tail _ (J h)
theorem wh(x:ae)(k:e7)(r:List (ae×e7))(n:Nat)(acc:List (ae×ak)):cellsFrom n ((x,k)::r) acc=if(k==.cell)=true then cellsFrom (n+1) r ((x,n)::acc)else cellsFrom n r acc:=rfl
theorem wd(names:List (ae×e7)):∀(n:Nat)(acc:List (ae×ak)),cellsFrom n names acc=cellsFrom n names []++acc:=by
 induction names with
 |nil=>exactλ_ _=>rfl
 |cons p r J=>
  intro n acc;rw[wh,wh];by_cases h:(p.2==pj)=true
  ·rw[if_pos h,if_pos h,J (n+1) ((p.1,n)::acc),J (n+1) [(p.1,n)],dn];rfl
  ·rw[if_neg h,if_neg h];exact J n acc
theorem DI(names:List (ae×e7)):∀(n:Nat){x:ae}{c:ak},(x,c)∈cellsFrom n names []->(x,pj)∈names:=by
 induction names with
 |nil=>exactλ_ _ _ h=>nomatch h
 |cons p r J=>
  intro n x c h;rw[wh]at h;by_cases hk:(p.2==pj)=true
  ·rw[if_pos hk,wd]at h
   refine(ei.mp h).elim (λh=>.tail _ (J _ h)) λh=>?_;rw[(ZX (cx.mp h)).1,<-beq_iff_eq.mp hk];exact .head _
  ·rw[if_neg hk]at h
   exact .tail _ (J _ h)
theorem cellsFrom_some(names:List (ae×e7)):∀(n:Nat){x:ae},(x,pj)∈names->∃c,(cellsFrom n names []).lookup x=some c:=by
 induction names with
 |nil=>exactλ_ _ h=>nomatch h
 |cons p r J=>
  intro n x h;rw[wh];have rest:∀m,(x,pj)∈r->∀l,∃c,(cellsFrom m r []++l).lookup x=some c:=λm h l=>(J m h).imp λc e=>by rw[rF,e];rfl
  by_cases hk:(p.2==pj)=true
  ·rw[if_pos hk,wd]
   rcases bJ.mp h with h|h
   ·rw[rF,nC,if_pos (congrArg TC h)]
    cases(cellsFrom (n+1) r []).lookup x with
    |none=>exact⟨_,rfl⟩
    |some c=>exact⟨c,rfl⟩
   ·exact rest _ h _
  ·rw[if_neg hk]
   rcases bJ.mp h with h|h
   ·exact absurd (beq_iff_eq.mpr (congrArg RE h).symm) hk
   ·exact J n h
noncomputable def eY(env:aR)(l:List (ae×e7)):List (ae×ak)->List (ae×ak):=xZ (motive:=λ_=>List (ae×ak)->List (ae×ak)) id (λp _ again acc=>if(p.2==.free)=true then again ((env.cells.lookup p.1).elim acc λc=>(p.1,c)::acc)else again acc) l
theorem we{scope:bc}{env:aR}(h:∀p∈scope.names,p.2=.free ->∃c,env.cells.lookup p.1=some c):closureFor scope env=pure (eY env scope.names []):=by
 simp only[closureFor];have key:∀(l:List (ae×e7))(acc:List (ae×ak)),(∀p∈l,p.2=.free ->∃c,env.cells.lookup p.1=some c)->
  (forIn l acc λ(x:ae×e7)(r:List (ae×ak))=>(if(x.2==qD)=true then do let y <-cellOf env x.1;pure (kG ((x.1,y)::r))else pure (kG r):dS (ForInStep (List (ae×ak)))))=pure (eY env l acc):=by
  intro l;induction l with
  |nil=>intro acc _;rfl
  |cons p l N=>
   intro acc hl;rw[BW];show _=pure (if(p.2==.free)=true then _ else _);by_cases hk:(p.2==qD)=true
   ·refine bO (hl p cj (beq_iff_eq.mp hk)) λc hc=>?_
    rw[if_pos hk,if_pos hk,show cellOf env p.1=pure c by unfold cellOf;rw[hc],hc];exact N _ λp J=>hl p (cw _ J)
   ·rw[if_neg hk,if_neg hk]
    exact N _ λp J=>hl p (cw _ J)
 exact(congrArg (λt=>t>>= λx=>pure x) (key scope.names [] h)).trans rfl
theorem zO{env:aR}{x:ae}{c:ak}(l:List (ae×e7)):∀{acc:List (ae×ak)},(eY env l acc).lookup x=some c->env.cells.lookup x=some c\/acc.lookup x=some c:=by
 induction l with
 |nil=>exactλ{acc} h=>.inr h
 |cons p r J=>
  intro acc h;have h:(if(p.2==.free)=true then eY env r ((env.cells.lookup p.1).elim acc λc=>(p.1,c)::acc)else eY env r acc).lookup x=some c:=h;by_cases hk:(p.2==qD)=true
  ·rw[if_pos hk]at h
   refine(J h).elim .inl λq=>?_;cases hc:env.cells.lookup p.1 with
   |none=>rw[hc]at q;exact .inr q
   |some c'=>
    rw[hc]at q;have q:fG x ((p.1,c')::acc)=some c:=q;rw[nC]at q;by_cases e:x=p.1
    ·rw[if_pos e]at q;exact .inl (e▸q▸hc)
    ·rw[if_neg e]at q;exact .inr q
  ·rw[if_neg hk]at h
   exact J h
theorem DE{env:aR}{x:ae}{c:ak}(hc:env.cells.lookup x=some c)(l:List (ae×e7)):∀{acc:List (ae×ak)},((x,qD)∈l\/acc.lookup x=some c)->(∀c',acc.lookup x=some c'->c'=c)->(eY env l acc).lookup x=some c:=by
 induction l with
 |nil=>exactλ{acc} h _=>h.elim nofun id
 |cons p r J=>
  intro acc h N;show(if(p.2==.free)=true then eY env r ((env.cells.lookup p.1).elim acc λc=>(p.1,c)::acc)else eY env r acc).lookup x=some c;by_cases hk:(p.2==qD)=true
  ·rw[if_pos hk]
   by_cases e:x=p.1
   ·rw[<-e,hc]
    have O:fG x ((x,c)::acc)=some c:=by rw[nC,if_pos rfl]
    exact J (.inr O) λc' q=>(mx (O.symm.trans q)).symm
   ·have keep:∀o:Option ak,(o.elim acc λc=>(p.1,c)::acc).lookup x=acc.lookup x:=λo=>by
     cases o with
     |none=>rfl
     |some c'=>exact nC.trans (if_neg e)
    refine J (h.imp (λh=>(bJ.mp h).elim (λh=>absurd (congrArg TC h) e) id) λh=>(keep _).trans h) λc' q=>N c' ((keep _).symm.trans q)
  ·rw[if_neg hk]
   exact J (h.imp (λh=>(bJ.mp h).elim (λh=>absurd (beq_iff_eq.mpr (congrArg RE h).symm) hk) id) id) N
noncomputable def fy(scope sc:bc):bc:=relabel scope {(default:aR)with scope:=sc}
theorem K1{scope:bc}{env:aR}:relabel scope env=fy scope env.scope:=rfl
noncomputable def mB(sc:bc)(x:ae)(k:e7):e7:=if k=.free /\sc.names.lookup x=some .cell then .cell else k
theorem D1{scope sc:bc}(hk:sc.kind=.function)(x:ae):(fy scope sc).names.lookup x=(scope.names.lookup x).map (mB sc x):=by
 have one:∀p:ae×e7,(if(p.2==qD&&sc.kind==.function &&({(default:aR)with scope:=sc}:aR).kindOf p.1==some .cell)=true then(p.1,pj)else p)=(p.1,mB sc p.1 p.2):=λp=>by
  unfold mB;by_cases h:p.2=.free /\sc.names.lookup p.1=some .cell
  ·rw[if_pos h,if_pos]
   rw[h.1,hk];exact beq_iff_eq.mpr h.2
  ·rw[if_neg h,if_neg]
   rw[hk,gH,gH];exactλq=>h ⟨beq_iff_eq.mp q.1.1,beq_iff_eq.mp q.2⟩
 have key:∀l:List (ae×e7),(l.map λp=>if(p.2==qD&&sc.kind==.function &&({(default:aR)with scope:=sc}:aR).kindOf p.1==some .cell)=true then(p.1,pj)else p).lookup x=(l.lookup x).map (mB sc x):=λl=>by
  induction l with
  |nil=>rfl
  |cons p l J=>
   rw[bX,one,nC,nC,J];by_cases h:x=p.1
   ·rw[if_pos h,if_pos h,h];rfl
   ·rw[if_neg h,if_neg h]
 exact key scope.names
theorem Lo{M:uM}{A:bg}{E:af->ah->Prop}{s:ah}{scope:bc}{globals:ak}{cl:List (ae×ak)}{qual:ae}{env:aR}{Q:aR->ah->Prop}
 (h:Q (newEnv scope s.heap.objs.size globals (cellsFrom (s.heap.objs.size+1) scope.names cl) qual none .none (some env) builtinsNs) {s with heap:=pushCells (s.heap.push {cls:=.type "dict",data:=.dict #[]}) scope.names}):
 wpAny M A (newFunctionEnv scope globals cl [] qual none .none (some env)) Q E s:=by
 simp only[newFunctionEnv,Option.isSome_some,if_true];refine ar (Nv ?_);refine ar (wpAny_layCells _ (λname kind cells=>by cases J:kind==pj<;>simp[J]) _ _ _ _ ?_);rw[show({s with heap:=s.heap.push {cls:=.type "dict",data:=.dict #[]}}:ah).heap.objs.size =s.heap.objs.size+1 from mX ..];exact ar (aU (aU h))
noncomputable def lN(scope sc:bc):Bool:=
 (scope.kind==.function &&!(scope.names.lookup ("due":ae)==some .local))&&(scope.names.all λp=>(scope.names.lookup p.1==some p.2)&&(p.2!=.free ||((sc.names.lookup p.1==some .cell ||sc.names.lookup p.1==some .free)&&!(p.1==("__classdict__":ae)))))
noncomputable def mJ(scope:bc)(x:ae):Prop:=scope.names.lookup x=some .local \/scope.names.lookup x=some .cell
inductive aV(C:Cfg)(scope:bc):List Nat->Prop
 |nil:aV C scope []
 |cons {k:Nat} {ks:List Nat} (x:ae):C.nm k=x->scope.names.lookup x=some .free ->aV C scope ks->aV C scope (k::ks)
theorem aV.mem{C:Cfg}{scope:bc}{ks:List Nat}(h:aV C scope ks){k:Nat}(m:k∈ks):scope.names.lookup (C.nm k)=some .free :=by
 induction h with
 |nil=>cases m
 |cons x J hl hs N=>
  rcases bJ.mp m with rfl|m
  ·rw[J];exact hl
  ·exact N m
noncomputable def aj.only(fv:List Nat)(F:aj):aj:=F.filter λp=>fv.contains p.1
theorem aj.DY{fv:List Nat}{F:aj}{k:Nat}{v:AV}(h:(F.only fv).lookup k=some v):F.lookup k=some v/\k∈fv:=by
 induction F with
 |nil=>exact nomatch h
 |cons p F N=>
  unfold aj.only at h;by_cases J:fv.contains p.1=true
  ·rw[uj (p:=λp:Nat×AV=>fv.contains p.1) J,eK]at h
   rw[eK];cases hk:k==p.1 with
   |true=>rw[hk]at h;exact⟨h,beq_iff_eq.mp hk▸ON.mp J⟩
   |false=>rw[hk]at h;exact N h
  ·rw[xx (p:=λp:Nat×AV=>fv.contains p.1) J]at h
   obtain⟨h1,h2⟩:=N h;exact⟨by rw[eK,beq_false_of_ne λe:k=p.1=>J (ON.mpr (e▸h2))];exact h1,h2⟩
section
variable{C:Cfg}{n:Nat}{sc:bc}
theorem tZ{scope:bc}(h:lN scope sc=true):(scope.kind=.function /\scope.names.lookup ("due":ae)≠some .local)/\∀p∈scope.names,scope.names.lookup p.1=some p.2/\(p.2=.free ->(sc.names.lookup p.1=some .cell \/sc.names.lookup p.1=some .free)/\(p.1==("__classdict__":ae))=false):=by
 unfold lN at h;rw[gH]at h;refine⟨have z:=oS.mp h.1;⟨by simpa using z.1,by simpa using z.2⟩,λp J=>?_⟩;have:=wX.mp h.2 p J;rw[gH]at this;refine⟨by simpa using this.1,λhf=>?_⟩;have h2:=this.2;rw[hf]at h2;simp at h2;exact⟨h2.1,by simpa using h2.2⟩
theorem Q9{scope:bc}{ρ:aD}{st:St}{F:aj}{env:aR}{s:ah}{fv:List Nat}(N:a8 C sc ρ F env s.heap)(R:Rel C ρ st s.heap)(hc:lN scope sc=true)(iQ:aV C scope fv)
 (hcl:∀p∈scope.names,p.2=.free ->∃c,env.cells.lookup p.1=some c):
 let L:=s.heap.objs.size;let h':=pushCells (s.heap.push {cls:=.type "dict",data:=.dict #[]}) scope.names;let J:aR:={newEnv scope L env.globals (cellsFrom (L+1) scope.names (eY env scope.names [])) env.qual none .none (some env) builtinsNs with scope:=relabel scope env}
 a8 C (fy scope sc) ρ (F.only fv) J h'/\(∀b o,s.heap.get? b=some o->h'.get? b=some o)/\J.locals=L/\(∀a,lY J (mJ scope) a->s.heap.get? a=none):=by
 intro L h' J;obtain⟨⟨hk,Z9⟩,hm⟩:=tZ hc;have Z6:(s.heap.push {cls:=.type "dict",data:=.dict #[]}).objs.size =L+1:=mX ..;have keep:∀b o,s.heap.get? b=some o->h'.get? b=some o:=λb o e=>O0 _ _ b o (kD _ e);have ok:=PU scope.names (s.heap.push {cls:=.type "dict",data:=.dict #[]}) (L+1) [] ⟨λ_ _ hm=>(nomatch hm),Q7⟩ (by rw[Z6];exact a7 _);rw[Z6]at ok;have U:J.cells=cellsFrom (L+1) scope.names []++eY env scope.names []:=wd _ _ _;have Z_:J.scope=fy scope sc:=by show relabel scope env=_;rw[K1,N.scope]
 have Y:∀x,J.kindOf x=(scope.names.lookup x).map (mB sc x):=λx=>by
  unfold jG;rw[Z_];exact D1 N.kind x
 have hrel:(fy scope sc).names.lookup ("due":ae)=some .local ->scope.names.lookup ("due":ae)=some .local :=λq=>by
  rw[D1 N.kind]at q;refine aG (vJ q) λk e q=>?_;unfold mB at q;by_cases hk:k=.free /\sc.names.lookup ("due":ae)=some .cell
  ·rw[if_pos hk]at q;exact nomatch q
  ·rw[if_neg hk]at q;exact q▸e
 have Z5:∀x,J.kindOf x=some .free ->scope.names.lookup x=some .free :=λx q=>by
  rw[Y]at q;refine aG (vJ q) λk e q=>?_;unfold mB at q;by_cases hk:k=.free /\sc.names.lookup x=some .cell
  ·rw[if_pos hk]at q;exact nomatch q
  ·rw[if_neg hk]at q;exact q▸e
 have Z4:∀x,env.kindOf x=sc.names.lookup x:=λx=>by unfold jG;rw[N.scope]
 have fresh:∀c,L<=c->s.heap.get? c=none:=λc hle=>by
  cases q:s.heap.get? c with
  |none=>rfl
  |some o=>exact absurd (j3 q) (iH.mpr hle)
 have look:∀x c,J.cells.lookup x=some c->((x,c)∈cellsFrom (L+1) scope.names []/\h'.IsCell c none/\L+1<=c/\scope.names.lookup x=some .cell)\/
  (env.cells.lookup x=some c/\(cellsFrom (L+1) scope.names []).lookup x=none):=λx c h=>by
  rw[U,rF]at h;cases q:(cellsFrom (L+1) scope.names []).lookup x with
  |some c'=>
   rw[q]at h;have m:=mem_of_lookup (q.trans h);have e:=ok.empty _ _ m;exact .inl ⟨m,e.1,e.2,(hm _ (DI _ _ m)).1⟩
  |none=>
   rw[q]at h;exact .inr ⟨(zO _ h).elim id nofun,rfl⟩
 have Z7:∀x,scope.names.lookup x=some .free ->(cellsFrom (L+1) scope.names []).lookup x=none:=λx hf=>by
  cases q:(cellsFrom (L+1) scope.names []).lookup x with
  |none=>rfl
  |some c=>
   have:=(hm _ (DI _ _ (mem_of_lookup q))).1;rw[hf]at this;cases this
 have O:∀x,scope.names.lookup x=some .free ->∀c,env.cells.lookup x=some c->J.cells.lookup x=some c:=λx hf c S=>by
  rw[U,rF,Z7 x hf];exact DE S _ (.inl (lookup_mem hf)) λ_ q=>nomatch q
 have hNs:h'.Ns L λ_=>none:=(Zu s.heap (.type "dict")).keeps (O0 _ _);refine⟨⟨Z_,hk,N.globals,N.builtins,⟨_,hNs⟩,R.fh (fresh L (a7 _)),R.iB (fresh L (a7 _)),λk v q=>?_,λx q=>?_,λx y c hx hy=>?_,λx q=>?_,λx c q=>?_,λx q=>?_,λq=>absurd (hrel q) Z9⟩,keep,rfl,?_⟩
 ·obtain⟨q1,q2⟩:=aj.DY q
  have hf:=iQ.mem q2;obtain⟨hs,hcd⟩:=(hm _ (lookup_mem hf)).2 rfl;refine aG (N.vars k v q1) λV r hv=>?_;refine⟨V,r,.inr ?_⟩;rcases hv with⟨hl,_⟩|⟨hl,c,S,hn,Z8⟩
  ·rw[Z4]at hl;rw[hl]at hs;rcases hs with hs|hs<;>cases hs
  ·refine⟨?_,c,O _ hf c S,hn,IsCell.of Z8 λo e=>keep _ _ e⟩
   rw[Y,hf];show some (mB sc _ _)=_\/some (mB sc _ _)=_;unfold mB;by_cases hq:qD=.free /\sc.names.lookup (C.nm k)=some .cell
   ·rw[if_pos hq];exact .inl rfl
   ·rw[if_neg hq];exact .inr rfl
 ·rw[Y]at q
  refine aG (vJ q) λk hf q=>?_;unfold mB at q;by_cases hq:k=.free /\sc.names.lookup x=some .cell
  ·refine kr (N.own x ((Z4 x).trans hq.2)) λc gw b d e f i=>?_
   refine bO (n5 f) λo ho=>?_;exact⟨c,gw,O x (hq.1▸hf) c b,d,(λz=>nomatch (fresh L (a7 _)).symm.trans ((z▸rfl:s.heap.get? L=s.heap.get? c).trans ho)),IsCell.of f λo e=>keep _ _ e,i⟩
  ·rw[if_neg hq]at q
   refine bO (cellsFrom_some scope.names (L+1) (lookup_mem (q▸hf))) λc S=>?_;have e:=ok.empty _ _ (mem_of_lookup S);have hle:L<=c:=m4 e.2;exact⟨c,none,by rw[U,rF,S];rfl,R.fh (fresh c hle),jf e.2,e.1,R.iB (fresh c hle)⟩
 ·rcases look x c hx with⟨m,e,le,_⟩|⟨m,_⟩
  ·rcases look y c hy with⟨m',e',le',_⟩|⟨m',_⟩
   ·exact Om ok.apart m m'
   ·refine nc (N.cells y c m') λ_ v o ho _=>?_
    rw[fresh c (m4 le)]at ho;cases ho
  ·rcases look y c hy with⟨m',e',le',_⟩|⟨m',_⟩
   ·refine nc (N.cells x c m) λ_ v o ho _=>?_
    rw[fresh c (m4 le')]at ho;cases ho
   ·exact N.apart x y c m m'
 ·exact((hm _ (lookup_mem (Z5 x q))).2 rfl).2
 ·rcases look x c q with⟨m,e,le,_⟩|⟨m,_⟩
  ·exact⟨R.fh (fresh c (m4 le)),none,e⟩
  ·refine pN (N.cells x c m) λd v f=>?_
   exact⟨d,v,IsCell.of f λo e=>keep _ _ e⟩
 ·exact(hcl _ (lookup_mem (Z5 x q)) rfl).imp λc S=>O x (Z5 x q) c S
 ·rintro a (rfl|⟨x,hT,hx,ha⟩)
  ·exact fresh L (a7 _)
  ·rcases look x a ha with⟨m,e,le,_⟩|⟨m,hno⟩
   ·exact fresh a (m4 le)
   ·exfalso
    rcases hT with hT|hT
    ·rw[Y,hT]at hx;exact nomatch hx
    ·refine bO (cellsFrom_some scope.names (L+1) (lookup_mem hT)) λc S=>?_
     rw[hno]at S;cases S
end
noncomputable def IS(e:aJ)(depth:Nat)(target iter:aJ)(ifs:List aJ)(emit:dS Unit)(it acc:af)(env:aR):dS Hl:=do
 standAt iter.pos
 match<-pyNext it with
 |none=>pure (.done .next)
 |some v=>
  letOwnedTupleGo target it v
  assign target env v
  let mut ok:=true
  for c in ifs do
   if ok then ok <-isTrue c env (eval c env)
  if ok then
   emit
  again (.compLoop e depth it acc env)
structure tf(e:aJ)(depth:Nat)(target iter:aJ)(ifs:List aJ)(emit:aR->af->dS Unit):Prop where
 turn:∀it acc env,compTurn e depth it acc env=IS e depth target iter ifs (emit env acc) it acc env
 under:∀(A:bg) it acc env,A.under (.compLoop e depth it acc env)=A
 den:∀prog w it acc env,(model prog w).den (.compLoop e depth it acc env)=(compTurn e depth it acc env).onRaise (λx=>do noteFrame x env;theTreesLotGoes x)
 U6:∀(A:bg) it acc env,A.under (.compStart e depth it acc env)=A
 XR:∀prog w it acc env,(model prog w).den (.compStart e depth it acc env)=(compStart e depth it acc env).onRaise (λx=>do noteFrame x env;standAt theWindowsPlace)
 sync:((clausesOf e)[depth]?).elim false (·.is_async !=0)=false
noncomputable def vg(M:uM)(A:bg)(emit:dS Unit)(E:af->ah->Prop)(J:Nat->ah->Prop)(n:Nat)(ok:Bool)(s:ah):Prop:=
 if ok=true then wpAny M A emit (λ_ s5=>∃m,m<n/\J m s5) E s else∃m,m<n/\J m s
theorem Kc{prog:ft}{w:dB}{A:bg}{R:qg->ah->Prop}{s:ah}{e target iter:aJ}{depth:Nat}{ifs:List aJ}{emit:aR->af->dS Unit}{it acc:af}{env:aR}
 (ht:tf e depth target iter ifs emit)(I:Nat->ah->Prop)
 (turn:∀n s,I n s->wpAny (model prog w) A (pyNext it) (λr s₁=>r.elim (R (.ok .next) s₁) λv=>wpAny (model prog w) A (letOwnedTupleGo target it v) (λ_ J=>wpAny (model prog w) A (assign target env v) (λ_ N=>
  wpAny (model prog w) A (forIn ifs true λc r=>if r=true then do let ok <-isTrue c env (eval c env);pure (kG ok)else pure (kG r))
   (vg (model prog w) A (emit env acc) (notedBy (model prog w) A env λe s'=>R (.error e) s') I n) (notedBy (model prog w) A env λe s'=>R (.error e) s') N) (notedBy (model prog w) A env λe s'=>R (.error e) s') J) (notedBy (model prog w) A env λe s'=>R (.error e) s') s₁) (notedBy (model prog w) A env λe s'=>R (.error e) s') s)
 (n:Nat)(h:I n s):
 codeAny (model prog w) A (.compLoop e depth it acc env) R s:=by
 refine codeAny_loop rfl I (λn s hI=>?_) n h;rw[ht.under,ht.den];refine wpAny_noted ?_;rw[ht.turn];refine ar (qt (ar (e8 (turn n s hI) (λr s₁ h₁=>?_) λ_ _ h'=>h')));cases r with
 |none=>exact aU h₁
 |some v=>
  refine ar (e8 h₁ (λ_ J S=>ar (e8 S (λ_ N U=>ar (e8 U (λok Z4 O=>?_) λ_ _ h'=>h')) λ_ _ h'=>h')) λ_ _ h'=>h');cases ok with
  |false=>exact aU ⟨rfl,O⟩
  |true=>exact ar (e8 O (λ_ Z5 Y=>aU ⟨rfl,Y⟩) λ_ _ h'=>h')
theorem DF{prog:ft}{w:dB}{A:bg}{R:qg->ah->Prop}{s:ah}{e target iter:aJ}{depth:Nat}{ifs:List aJ}{emit:aR->af->dS Unit}{it acc:af}{env:aR}
 (ht:tf e depth target iter ifs emit)(h0:codeAny (model prog w) A (.compLoop e depth it acc env) R s)
 (h:wpAny (model prog w) A (pyIter it) (λgU s'=>codeAny (model prog w) A (.compLoop e depth gU acc env) R s') (notedBy (model prog w) A env λx s'=>R (.error x) s') s):
 codeAny (model prog w) A (.compStart e depth it acc env) R s:=by
 refine codeAny_of_tree ?_;rw[ht.U6,ht.XR];refine wpAny_notedAt ?_;unfold compStart;rw[ht.sync];show wpAny _ _ (ask>>= _) _ _ s;refine ar (Hx ?_);split
 ·exact aU ⟨rfl,h0⟩
 ·refine ar (nJ ?_)
  have fin:wpAny (model prog w) A (do let __do_lift <-pyIter it;again (.compLoop e depth __do_lift acc env)) (λfin s'=>match fin with|.done f=>R (.ok f) s'|.again c'=>c'.quiet=true/\codeAny (model prog w) A c' R s') (notedBy (model prog w) A env λx s'=>R (.error x) s') s:=
   ar (e8 h (λgU s' h'=>aU ⟨rfl,h'⟩) λ_ _ x=>x)
  cases(clausesOf e)[depth]? with
  |none=>exact fin
  |some g=>exact ar (qt fin)
structure nd(C:Cfg)(n:Nat)(sc:bc)(ifs:List aJ)(f:aj->St->Option (Bool×St)):Prop where
 u:∀{A env F ρ st s Q E},bN n A->a8 C sc ρ F env s.heap->Rel C ρ st s.heap->Ok (f F st) (tG C ρ s Q)->
  wpAny (model C.prog C.w) A (forIn ifs true λc r=>if r=true then do let ok <-isTrue c env (eval c env);pure (kG ok)else pure (kG r)) Q E s
noncomputable def bw:aj->St->Option (Bool×St):=λ_ st=>some (true,st)
noncomputable abbrev jd:=List AV->aj->St->Option (List AV×aj×St)
noncomputable def jN(tg:b7)(ti:aj->St->Option (Bool×St))(em:jd)(k:Nat):It->jd:=BE (motive:=λ_=>It->jd) (λ_ _ _ _=>none)
 (λ_ again it acc F st=>if tg.fits it then(it.next st).bind λp=>p.1.elim (some (acc,F,p.2)) λq=>(tg.bind q.1 F p.2).bind λF1=>(ti F1 p.2).bind λt=>
  if t.1 then(em acc F1 t.2).bind λe=>again q.2 e.1 e.2.1 e.2.2 else again q.2 acc F1 t.2 else none) k
noncomputable def a_(fe:EM):jd:=λacc F st=>(fe F st).bind λe=>if acc.length<=sizeLine then some (acc++[e.1],F,e.2)else none
noncomputable def q8(fi:aj->St->Option (It×St))(tg:b7)(ti:aj->St->Option (Bool×St))(em:jd)(k:Nat):jd:=λacc F st=>(fi F st).bind λp=>jN tg ti em k p.1 acc F p.2
noncomputable abbrev oz:=aD->List AV->iK->Prop
noncomputable def oz.vI(B:oz):Prop:=∀{ρ aq acc o},ρ<+:aq->B ρ acc o->B aq acc o
noncomputable def vX:oz:=λρ acc o=>∃vs m,o={cls:=.type "list",data:=.seq (nG vs) m}/\bu ρ acc vs
theorem z9:vX.vI:=λp h=>h.imp λvs h=>h.imp λm h=>⟨h.1,h.2.mono p⟩
noncomputable def pT(env:aR)(T:ae->Prop)(D a:ak):Prop:=a=D\/lY env T a
structure y6(C:Cfg)(env:aR)(D:ak):Prop where
 base:C.base.get? D=none
 loc:D≠env.locals
 cell:∀x c,env.cells.lookup x=some c->c≠D
theorem y6.own{C:Cfg}{env:aR}{T:ae->Prop}{D:ak}(X:y6 C env D):¬lY env T D:=λh=>h.elim X.loc λh=>h.elim λx h=>X.cell x D h.2.2 rfl
section
variable(C:Cfg)(n:Nat)(dq:bc)(T:ae->Prop)(B:oz)
noncomputable def vf(env:aR)(D:ak)(ρ:aD)(s:ah)(Q:ah->Prop)(p:List AV×aj×St):Prop:=
 ∀aq s' o,Go (pT env T D) ρ s aq s'->a8 C dq aq p.2.1 env s'.heap->Rel C aq p.2.2 s'.heap->D∉aq->s'.heap.get? D=some o->B aq p.1 o->Q s'
structure qP(emit:aR->af->dS Unit)(em:jd):Prop where
 u:∀{A env F ρ st s Q E D acc o},bN n A->a8 C dq ρ F env s.heap->Rel C ρ st s.heap->y6 C env D->D∉ρ->s.heap.get? D=some o->B ρ acc o->Ok (em acc F st) (vf C dq T B env D ρ s Q)->wpAny (model C.prog C.w) A (emit env (.ref D)) (λ_=>Q) E s
structure qF(A:bg)(target:aJ)(ifs:List aJ)(tg:b7)(ti:aj->St->Option (Bool×St))(emit:aR->af->dS Unit)(em:jd)(env:aR)(fp:List ak)(D:ak)(s₀:ah):Prop where
 hA:bN n A
 ht:bB C dq T target tg
 ki:nd C n dq ifs ti
 pP:qP C n dq T B emit em
 hB:B.vI
 pU:∀a∈fp,s₀.heap.get? a=none
 hl:env.locals∉fp
 hc:∀x c,env.cells.lookup x=some c->c∉fp
 Dg:D∉fp
 hD:y6 C env D
structure LoopAt(env:aR)(jm:aD)(s₀:ah)(fp:List ak)(I D:ak)(s:ah)(F:aj)(ρ:aD)(st:St)(it:It)(acc:List AV):Prop where
 go:Go (pT env T D) jm s₀ ρ s
 env:a8 C dq ρ F env s.heap
 rel:Rel C ρ st s.heap
 it:fO C n ρ s.heap fp I it
 lr:Hid C ρ s.heap fp
 out:D∉ρ
 acc:∃o,s.heap.get? D=some o/\B ρ acc o
noncomputable def uH(tg:b7)(ti:aj->St->Option (Bool×St))(em:jd)(env:aR)(jm:aD)(s₀:ah)(fp:List ak)(I D:ak)(Q:ah->Prop)(j:Nat)(s:ah):Prop:=
 ∃F ρ st it acc,LoopAt C n dq T B env jm s₀ fp I D s F ρ st it acc/\Ok (jN tg ti em j it acc F st) (vf C dq T B env D jm s₀ Q)
end
section
variable{C:Cfg}{n:Nat}{dq:bc}{T:ae->Prop}{B:oz}
theorem dF:nd C n dq [] bw:=⟨λhA N R h=>wpAny_tests_nil (h _ _ .refl R)⟩
theorem oU{c:aJ}{f}(h:lh C n dq c f):nd C n dq [c] f:=⟨λhA N R q=>wpAny_tests_one (h.k hA N R q)⟩
theorem Go.wa{env:aR}{D:ak}{ρ J:aD}{s s1:ah}(g:Go No ρ s J s1):Go (pT env T D) ρ s J s1:=g.weak λ_ h=>h.elim
section
variable{A:bg}{e target iter:aJ}{depth:Nat}{ifs:List aJ}{tg:b7}{ti:aj->St->Option (Bool×St)}{emit:aR->af->dS Unit}{em:jd}{env:aR}{I D:ak}{fp:List ak}{jm:aD}{s₀:ah}{Q:ah->Prop}
theorem qF.off(X:qF C n dq T B A target ifs tg ti emit em env fp D s₀):∀a∈fp,¬pT env T D a:=λa m h=>h.elim (λz=>X.Dg (z▸m)) (dr.off X.hl X.hc a m)
theorem Sr(X:qF C n dq T B A target ifs tg ti emit em env fp D s₀){j:Nat}{s:ah}{F:aj}{ρ:aD}{st:St}{it:It}{acc:List AV}{E:af->ah->Prop}{b:Bool}
 (Y:LoopAt C n dq T B env jm s₀ fp I D s F ρ st it acc)
 (h:Ok (if b then(em acc F st).bind λe=>jN tg ti em j it e.1 e.2.1 e.2.2 else jN tg ti em j it acc F st) (vf C dq T B env D jm s₀ Q)):
 vg (model C.prog C.w) A (emit env (.ref D)) E (uH C n dq T B tg ti em env jm s₀ fp I D Q) (j+1) b s:=by
 unfold vg;cases b with
 |false=>exact⟨j,iI _,F,ρ,st,it,acc,Y,h⟩
 |true=>
  rw[if_pos rfl];exact Y.acc.elim λo q=>X.pP.u (Q:=λs5=>∃m,m<j+1/\uH C n dq T B tg ti em env jm s₀ fp I D Q m s5) X.hA Y.env Y.rel X.hD Y.out q.1 q.2 ((Ok.bind h).mono λe h J s6 o6 N U R6 O R S=>
   ⟨j,iI _,e.2.1,J,e.2.2,it,e.1,⟨Y.go.trans N,U,R6,Y.it.go Y.lr N X.off,Y.lr.go N,O,o6,R,S⟩,h⟩)
theorem Mw(X:qF C n dq T B A target ifs tg ti emit em env fp D s₀){j:Nat}{s:ah}{F:aj}{ρ:aD}{st:St}{it:It}{acc:List AV}{E:af->ah->Prop}{item:Item}{V:af}
 (Y:LoopAt C n dq T B env jm s₀ fp I D s F ρ st it acc)(r:yF C ρ s.heap item V)
 (h:Ok ((tg.bind item F st).bind λF1=>(ti F1 st).bind λt=>if t.1 then(em acc F1 t.2).bind λe=>jN tg ti em j it e.1 e.2.1 e.2.2 else jN tg ti em j it acc F1 t.2) (vf C dq T B env D jm s₀ Q)):
 wpAny (model C.prog C.w) A (assign target env V) (λ_ O=>wpAny (model C.prog C.w) A (forIn ifs true λc r=>if r=true then do let ok <-isTrue c env (eval c env);pure (kG ok)else pure (kG r))
  (vg (model C.prog C.w) A (emit env (.ref D)) E (uH C n dq T B tg ti em env jm s₀ fp I D Q) (j+1)) E O) E s:=
 Aq X.hA X.ht Y.env Y.rel r (h.bind.mono λF3 h s4 R S R4=>X.ki.u X.hA S R4 (h.bind.mono λt h Z4 s5 N R5=>Y.acc.elim λo q=>
  have U:=R.cI _ _ q.1 Y.out X.hD.own;have J:Go (pT env T D) ρ s ρ s4:=R.weak λ_ h=>.inr h
  Sr X ⟨(Y.go.trans J).trans N.wa,S.go N,R5,(Y.it.go Y.lr J X.off).go (Y.lr.go J) N λ_ _ h=>h,(Y.lr.go J).go N,N.iZ U Y.out,o,N.cI _ _ U Y.out id,X.hB N.pre q.2⟩ h))
theorem Hr(X:qF C n dq T B A target ifs tg ti emit em env fp D s₀)(O:tf e depth target iter ifs emit)(k:Nat)
 {s:ah}{F:aj}{ρ:aD}{st:St}{it:It}{acc:List AV}{J:qg->ah->Prop}(Y:LoopAt C n dq T B env jm s₀ fp I D s F ρ st it acc)
 (h:Ok (jN tg ti em k it acc F st) (vf C dq T B env D jm s₀ (J (.ok .next)))):
 codeAny (model C.prog C.w) A (.compLoop e depth (.ref I) (.ref D) env) J s:=by
 refine Kc O (uH C n dq T B tg ti em env jm s₀ fp I D (J (.ok .next))) ?_ k ⟨F,ρ,st,it,acc,Y,h⟩;rintro j s2 ⟨F2,bA,bI,tK,Z5,Z,h2⟩;cases j with
 |zero=>exact dA h2
 |succ j=>
  obtain⟨N,h2⟩:=Ok.ite h2;refine e8 (HQ (Q:=λr s3=>r.elim (J (.ok .next) s3) λv=>wpAny (model C.prog C.w) A (assign target env v) (λ_ R=>wpAny (model C.prog C.w) A (forIn ifs true λc r=>if r=true then do let ok <-isTrue c env (eval c env);pure (kG ok)else pure (kG r))
   (vg (model C.prog C.w) A (emit env (.ref D)) (notedBy (model C.prog C.w) A env λe s'=>J (.error e) s') (uH C n dq T B tg ti em env jm s₀ fp I D (J (.ok .next))) (j+1)) (notedBy (model C.prog C.w) A env λe s'=>J (.error e) s') R) (notedBy (model C.prog C.w) A env λe s'=>J (.error e) s') s3)
   X.hA Z.rel Z.it Z.lr (Fc X.ht N) (Hs X.ht N) (h2.bind.mono λp h=>?_)) (λr s3 h=>?_) λ_ _ h=>h
  ·obtain⟨r,Z6⟩:=p
   obtain⟨o,ho,hb⟩:=Z.acc;cases r with
   |none=>
    intro S s3 g3 U;exact h S s3 o (g3.after Z.go X.pU) (Z.env.oD g3 X.hl X.hc) U (λm=>(g3.new D m).elim Z.out λq=>nomatch ho.symm.trans q) (g3.cI _ _ ho Z.out X.Dg) (X.hB g3.pre hb)
   |some q=>exactλV S s3 g3 U Z4 r3=>Mw X ⟨g3.l8.after Z.go X.pU,Z.env.oD g3.l8 X.hl X.hc,U,Z4,Z.lr.go g3,g3.iZ ho Z.out,o,g3.cI _ _ ho Z.out X.Dg,X.hB g3.pre hb⟩ r3 h
  ·cases r with
   |none=>exact h
   |some v=>exact h
theorem Wn{fi}(k:Nat)(hi:mL C n dq iter fi)(ht:bB C dq T target tg)(ki:nd C n dq ifs ti)(pP:qP C n dq T B emit em)(hB:B.vI)
 (J:tf e depth target iter ifs emit)(hs:∀env x,foldedSetIterable iter env x=pure x):
 qP C n dq T B (λenv acc=>do
  let x <-eval iter env
  standAt iter.pos
  let x <-foldedSetIterable iter env x;let _ <-runOwn (.compStart e depth (<-holding [x] (pyIter x)) acc env) env) (q8 fi tg ti em k):=⟨λ{A env F ρ st s Q E D acc o} hA N R hD O ho hb h=>by
 refine ar (e8 (hi.u hA N R (h.bind.mono λp h I fp Z5 s1 g1 R1 hI H1 hf S=>?_)) (λx s1 h1=>ar (qt (ar (d9 (hs env x) (ar (mi (e8 h1 (λI s2 h2=>h2) λ_ _ x=>x))))))) λ_ _ x=>x);refine ar (wpAny_runOwn (h:=none) ?_);have X:qF C n dq T B A target ifs tg ti emit em env fp D s:=⟨hA,ht,ki,pP,hB,hf,(N.off hf).1,(N.off hf).2,(λm=>nomatch (hf D m).symm.trans ho),hD⟩;have L:codeAny (model C.prog C.w) A (.compLoop e depth (.ref I) (.ref D) env) (λr s'=>match r with|.ok f=>wpAny (model C.prog C.w) A (pure ()) (λ_=>Q) E s'|.error e=>cameBackBy (model C.prog C.w) A env E e s') s1:=
  Hr X J k ⟨g1.wa,N.go g1,R1,hI,H1,g1.iZ ho O,o,g1.cI _ _ ho O id,hB g1.pre hb⟩ (h.mono λq K aq s' o' g' N' R' U Y Z4=>aU (K aq s' o' g' N' R' U Y Z4))
 exact DF J L (S A s1 _ _ (λ_ _ e=>e) L)⟩
end
theorem Ic{elt:aJ}{fe:EM}(he:bR C n dq elt fe):qP C n dq T vX (λenv acc=>do let _ <-call (.builtin "list.append") [acc,<-eval elt env]) (a_ fe):=⟨λ{A env F ρ st s Q E D acc o} hA N R hD S ho hb h=>by
 refine ar (he.k hA N R (h.bind.mono λe h V J s1 g1 R1 r1=>?_));obtain⟨hlen,h⟩:=h.ite;refine ou hb λvs m Z4 rv=>?_;subst Z4;have zJ:=rv.mono g1.pre;refine ar (OY ⟨m,g1.cI _ _ ho S id⟩ (λh' O Z5=>aU ?_) (by rw[dH,zJ.length];exact hlen));refine bO O λm' O=>?_;have kk:∀a o,a≠D->s1.heap.get? a=some o->h'.get? a=some o:=λa o ne e=>(Z5.2 a ne).trans e;have U:D∉J:=g1.iZ ho S;have Y:jc (·=D) J s1 J {s1 with heap:=h'}:=jc.keeps (t:=s1.toks) kk;have gX:Go (pT env T D) J s1 J {s1 with heap:=h'}:=⟨Y.pre,Y.new,λa o e m x=>Y.cI a o e m λz=>x (.inl z),λa o e=>by
  by_cases z:a=D
  ·exact⟨_,z▸O⟩
  ·exact Y.alive a o e z,rfl,rfl⟩
 exact h J _ _ (g1.wa.trans gX) ((N.go g1).oD Y (λz=>hD.loc z.symm) λx c q z=>hD.cell x c q z)
  (R1.lT (·=D) (λb o e m=>kk b o m e) (λa ha e=>U (e▸ha)) λa o e z=>nomatch (z▸hD.base:C.base.get? a=none).symm.trans e) U O ⟨vs++[V],m',by rw[Qn],zJ.append (.cons r1 .nil)⟩⟩
end
section
variable{C:Cfg}{n:Nat}{sc:bc}
theorem yb{ρ aq:aD}{s t:ah}{X:ak->Prop}(g:Go X ρ s aq t){a:ak}(e:t.heap.get? a=none):s.heap.get? a=none:=by
 cases q:s.heap.get? a with
 |none=>rfl
 |some o=>exact(g.alive a o q).elim λo' J=>nomatch e.symm.trans J
noncomputable def CompPost(C:Cfg)(B:oz)(A:bg)(ρ:aD)(s:ah)(use:Option (af->dS Unit))(Q:af->ah->Prop)(E:af->ah->Prop)(p:List AV×aj×St):Prop:=
 ∀D L aq s' o,Go No ρ s aq s'->Rel C aq p.2.2 s'.heap->s'.heap.get? D=some o->B aq p.1 o->D∉aq->L∉aq->D≠L->s.heap.get? D=none->s.heap.get? L=none->(∃m,s'.heap.Ns L m)->compPost (model C.prog C.w) A E use Q (.ref D) L (.ok .next) s'
noncomputable def CD(C:Cfg)(B:oz)(J:dS af):Prop:=∀{A:bg}{s:ah}{ρ:aD}{Q:af->ah->Prop}{E:af->ah->Prop},(∀o:iK,o.isFreed=false->B ρ [] o->Q (.ref s.heap.objs.size) {s with heap:=s.heap.push o})->wpAny (model C.prog C.w) A J Q E s
theorem GL:CD C vX (newList []):=λh=>wY (h _ rfl ⟨[],0,rfl,.nil⟩) (by decide)
theorem Go.dead{X:ak->Prop}{ρ aq:aD}{s s':ah}(g:Go X ρ s aq s')(h:∀a,X a->s.heap.get? a=none):Go No ρ s aq s':=
 ⟨g.pre,g.new,λa o e n _=>g.cI a o e n λx=>(nomatch (h a x).symm.trans e),g.alive,g.os,g.gens⟩
theorem Ag{A:bg}{env:aR}{e target iter:aJ}{ifs:List aJ}{gs:List Bv}{scope:bc}{ipos:bM}{tg:b7}{fi ti em}{emit:aR->af->dS Unit}{U:dS af}{B:oz}{fv:List Nat}{k:Nat}{F:aj}{ρ:aD}{st:St}{s:ah}
 {use:Option (af->dS Unit)}{Q:af->ah->Prop}{E:af->ah->Prop}
 (hA:bN n A)(N:a8 C sc ρ F env s.heap)(R:Rel C ρ st s.heap)(hcl':clausesOf e=⟨target,iter,ifs,0⟩::gs)(Z6:tf e 0 target iter ifs emit)(hnew:CD C B U)(hB:B.vI)
 (hi:mL C n sc iter fi)(ht:bB C (fy scope sc) (mJ scope) target tg)(ki:nd C n (fy scope sc) ifs ti)(pP:qP C n (fy scope sc) (mJ scope) B emit em)
 (hc:lN scope sc=true)(iQ:aV C scope fv)(hs:∀x,foldedSetIterable iter env x=pure x)
 (h:Ok ((fi F st).bind λp=>jN tg ti em k p.1 [] (F.only fv) p.2) (CompPost C B A ρ s use Q E)):
 wpAny (model C.prog C.w) A (comprehension e scope env ipos U false (eval iter env) use) Q E s:=by
 obtain⟨⟨Z9,_⟩,hm⟩:=tZ hc;have S:∀x,env.kindOf x=sc.names.lookup x:=λx=>by unfold jG;rw[N.scope]
 have hcl:∀p∈scope.names,p.2=.free ->∃c,env.cells.lookup p.1=some c:=λp hp hf=>
  ((hm p hp).2 hf).1.elim (λq=>(N.own p.1 ((S _).trans q)).imp λc b=>b.elim λ_ b=>b.1) λq=>N.frees p.1 ((S _).trans q)
 refine wpAny_comprehension_free (g:=⟨target,iter,ifs,0⟩) (gs:=gs) hcl' hs (we hcl) Z9 (λp hp hl=>hl▸(hm p hp).1) ?_;refine hi.u hA N R (h.bind.mono λp h I fp Z4 s1 g1 R1 hI H1 pU Z_=>?_);have N1:=N.go g1;refine hnew (ρ:=Z4) λo ofr hb0=>?_;have Z5:=fR s1.heap;let s2:ah:={s1 with heap:=s1.heap.push o};show wpAny _ _ (newFunctionEnv scope env.globals (eY env scope.names []) [] env.qual none .none (some env)) _ _ s2;have k2:∀b o,s1.heap.get? b=some o->s2.heap.get? b=some o:=dk _ _;have g2:Go No Z4 s1 Z4 s2:=Go.keeps (t:=s1.toks) k2;have R2:Rel C Z4 p.2 s2.heap:=R1.keeps k2;have hD2:s2.heap.get? s1.heap.objs.size=some o:=dM _ ofr;obtain⟨N3,k3,hL,Z7⟩:=Q9 (N1.go g2) R2 hc iQ hcl;refine Lo ?_;generalize hce:({newEnv scope s2.heap.objs.size env.globals (cellsFrom (s2.heap.objs.size+1) scope.names (eY env scope.names [])) env.qual none .none (some env) builtinsNs with scope:=relabel scope env}:aR)=J at*;rw[show(newEnv scope s2.heap.objs.size env.globals (cellsFrom (s2.heap.objs.size+1) scope.names (eY env scope.names [])) env.qual none .none (some env) builtinsNs).locals =J.locals by rw[<-hce]];let s3:ah:={s2 with heap:=pushCells (s2.heap.push {cls:=.type "dict",data:=.dict #[]}) scope.names};show codeAny _ _ _ _ s3;have g3:Go No Z4 s2 Z4 s3:=Go.keeps (t:=s2.toks) k3;have k13:∀b o,s1.heap.get? b=some o->s3.heap.get? b=some o:=λb o e=>k3 b o (k2 b o e);have g12:=g1.trans g2;have Z8:∀a∈fp,s2.heap.get? a≠none:=λa m e=>(H1 a m).2.2.elim λo q=>nomatch e.symm.trans (k2 a o q);have O:s2.heap.get? J.locals=none:=Z7 _ (.inl rfl);have Y:∀x c,J.cells.lookup x=some c->s2.heap.get? c=none\/(env.cells.lookup x=some c):=λx c q=>by
  rw[<-hce]at q;have q':(cellsFrom (s2.heap.objs.size+1) scope.names (eY env scope.names [])).lookup x=some c:=q;rw[wd,rF]at q';cases hq:(cellsFrom (s2.heap.objs.size+1) scope.names []).lookup x with
  |none=>rw[hq]at q';exact(zO _ q').elim .inr nofun
  |some c'=>
   rw[hq]at q';have ok:=PU scope.names (s2.heap.push {cls:=.type "dict",data:=.dict #[]}) (s2.heap.objs.size+1) [] ⟨λ_ _ hm=>(nomatch hm),Q7⟩ (bS (mX _ _).symm);rw[show(s2.heap.push {cls:=.type "dict",data:=.dict #[]}).objs.size =s2.heap.objs.size+1 from mX ..]at ok;have le:=(ok.empty _ _ (mem_of_lookup (hq.trans q'))).2;refine .inl ?_;cases q2:s2.heap.get? c with
   |none=>rfl
   |some o=>exact absurd (j3 q2) (iH.mpr (m4 le))
 have hLD:s1.heap.objs.size≠J.locals:=λz=>nomatch (z▸O:s2.heap.get? s1.heap.objs.size=none).symm.trans hD2;have X:qF C n (fy scope sc) (mJ scope) B A target ifs tg ti emit em J fp s1.heap.objs.size s:=
  ⟨hA,ht,ki,pP,hB,pU,λm=>Z8 _ m O,λx c q m=>(Y x c q).elim (λz=>Z8 _ m z) λz=>(N.off pU).2 x c z m,(λm=>(H1 _ m).2.2.elim λo e=>nomatch Z5.symm.trans e),
   R1.iB Z5,hLD,λx c q z=>(Y x c q).elim (λe=>nomatch (z▸e:s2.heap.get? s1.heap.objs.size=none).symm.trans hD2) λe=>(N1.cells x c e).2.elim λ_ w=>w.elim λo w=>nomatch (z▸Z5:s1.heap.get? c=none).symm.trans w.1⟩
 have hX:∀a,pT J (mJ scope) s1.heap.objs.size a->s.heap.get? a=none:=λa h=>h.elim (λz=>z▸yb g1 Z5) λh=>yb g12 (Z7 a h);have L:codeAny (model C.prog C.w) A (.compLoop e 0 (.ref I) (.ref s1.heap.objs.size) J) (compPost (model C.prog C.w) A E use Q (.ref s1.heap.objs.size) J.locals) s3:=
  Hr X Z6 k ⟨(g12.trans g3).wa,N3,R2.keeps k3,hI.of (jE _) λa o _ e=>k13 a o e,(H1.go g2).go g3,R1.fh Z5,o,k3 _ _ hD2,hb0⟩
   (h.mono λq K aq s' o' g' N' R' hn' hD' hb'=>K _ _ aq s' o' (g'.dead hX) R' hD' hb' hn' N'.mI hLD (yb g1 Z5) (yb g12 O) N'.ns)
 exact DF Z6 L (Z_ A s3 _ _ (λb o e=>k13 b o e) L)
theorem known{ρ aq:aD}{st:St}{s s':ah}{D:ak}{xs:List AV}{vs:List af}{X:ak->Prop}(g:Go X ρ s aq s')(hB:C.base.get? D=none)(R:Rel C aq st s'.heap)(hD:s'.heap.PlainList D vs.toArray)(O:bu aq xs vs)(J:D∉aq)(N:s.heap.get? D=none):
 Rel C (aq++[D]) (st++[.list xs]) s'.heap/\Go X ρ s (aq++[D]) s':=
 hD.elim λnD hD=>⟨R.alloc (λ_ _ e=>e) J hB ⟨_,hD⟩ ⟨vs,⟨nD,hD⟩,O.mono (j_ _ _)⟩,
  ⟨g.pre.trans (j_ _ _),λa m=>(ei.mp m).elim (g.new a) λq=>.inr (cx.mp q▸N),g.cI,g.alive,g.os,g.gens⟩⟩
noncomputable def bl(fv:List Nat)(fi:aj->St->Option (It×St))(tg:b7)(ti:aj->St->Option (Bool×St))(em:jd)(k:Nat):EM:=
 λF st=>(fi F st).bind λp=>(jN tg ti em k p.1 [] (F.only fv) p.2).map λr=>(.ref r.2.2.length,r.2.2++[.list r.1])
structure yt(C:Cfg)(n:Nat)(sc:bc)(elt target iter:aJ)(ifs:List aJ)(gs:List Bv)(scope:bc)(pos:bM)(emit:aR->af->dS Unit)(fi:aj->St->Option (It×St))(tg:b7)(ti:aj->St->Option (Bool×St))(em:jd)(fv:List Nat):Prop where
 turn:tf (.ListComp elt (⟨target,iter,ifs,0⟩::gs) scope pos) 0 target iter ifs emit
 hi:mL C n sc iter fi
 ht:bB C (fy scope sc) (mJ scope) target tg
 ki:nd C n (fy scope sc) ifs ti
 pP:qP C n (fy scope sc) (mJ scope) vX emit em
 hc:lN scope sc=true
 iQ:aV C scope fv
 hs:∀env x,foldedSetIterable iter env x=pure x
theorem df{elt target iter:aJ}{ifs:List aJ}{scope:bc}{pos:bM}{tg:b7}{fi ti fe}(fv:List Nat)
 (hi:mL C n sc iter fi)(ht:bB C (fy scope sc) (mJ scope) target tg)(ki:nd C n (fy scope sc) ifs ti)(he:bR C n (fy scope sc) elt fe)
 (hc:lN scope sc=true)(iQ:aV C scope fv)(hs:∀env x,foldedSetIterable iter env x=pure x):
 yt C n sc elt target iter ifs [] scope pos (λenv acc=>do let _ <-call (.builtin "list.append") [acc,<-eval elt env]) fi tg ti (a_ fe) fv:=
 ⟨⟨λ_ _ _=>rfl,λ_ _ _ _=>rfl,λ_ _ _ _ _=>rfl,λ_ _ _ _=>rfl,λ_ _ _ _ _=>rfl,rfl⟩,hi,ht,ki,Ic he,hc,iQ,hs⟩
theorem Of{elt target iter N J:aJ}{ifs O:List aJ}{scope:bc}{pos:bM}{tg S:b7}{fi ti U Y fe}(fv:List Nat)(k:Nat)
 (hi:mL C n sc iter fi)(ht:bB C (fy scope sc) (mJ scope) target tg)(ki:nd C n (fy scope sc) ifs ti)
 (Z4:mL C n (fy scope sc) J U)(Z5:bB C (fy scope sc) (mJ scope) N S)(R:nd C n (fy scope sc) O Y)(he:bR C n (fy scope sc) elt fe)
 (hc:lN scope sc=true)(iQ:aV C scope fv)(hs:∀env x,foldedSetIterable iter env x=pure x)(Z6:∀env x,foldedSetIterable J env x=pure x):
 yt C n sc elt target iter ifs [⟨N,J,O,0⟩] scope pos (λenv acc=>do
  let x <-eval J env
  standAt J.pos
  let x <-foldedSetIterable J env x;let _ <-runOwn (.compStart (.ListComp elt [⟨target,iter,ifs,0⟩,⟨N,J,O,0⟩] scope pos) 1 (<-holding [x] (pyIter x)) acc env) env) fi tg ti (q8 U S Y (a_ fe) k) fv:=
 ⟨⟨λit acc env=>by unfold compTurn IS;simp only[bind_assoc,pure_bind];rfl,λ_ _ _ _=>rfl,λ_ _ _ _ _=>rfl,λ_ _ _ _=>rfl,λ_ _ _ _ _=>rfl,rfl⟩,hi,ht,ki,
  Wn (B:=vX) (emit:=λenv acc=>do let _ <-call (.builtin "list.append") [acc,<-eval elt env]) k Z4 Z5 R (Ic he) z9 ⟨λ_ _ _=>rfl,λ_ _ _ _=>rfl,λ_ _ _ _ _=>rfl,λ_ _ _ _=>rfl,λ_ _ _ _ _=>rfl,rfl⟩ Z6,hc,iQ,hs⟩
theorem dG{elt target iter:aJ}{ifs:List aJ}{gs:List Bv}{scope:bc}{pos:bM}{emit}{tg:b7}{fi ti em}{fv:List Nat}(k:Nat)
 (X:yt C n sc elt target iter ifs gs scope pos emit fi tg ti em fv):
 bR C n sc (.ListComp elt (⟨target,iter,ifs,0⟩::gs) scope pos) (bl fv fi tg ti em k):=KE.s λ{A env F ρ st s Q E} hA N R h=>by
 rw[arm_eval_ListComp];refine Ag hA N R (gs:=gs) rfl X.turn GL z9 X.hi X.ht X.ki X.pP X.hc X.iQ (X.hs env) (Ok.bind' (h.bind.mono λp h=>h.map.mono λq h D L aq s' o' g' R' Z4 Z5 J O Z6 S U Y=>?_));refine bO Y λm hm=>?_;refine ou Z5 λvs nD Z7 Z8=>?_;subst Z7;refine⟨m,hm,λh' Z9=>?_⟩;have kk:∀a o,¬a=L->s'.heap.get? a=some o->h'.get? a=some o:=λa o ne e=>(Z9.2 a ne).trans e;have g2:Go No ρ s aq {s' with heap:=h'}:=(jc.keeps (t:=s'.toks) kk).after g' λa z=>z▸U;have R2:Rel C aq q.2.2 h':=R'.lT (·=L) (λb o e ne=>kk b o ne e) (λa ha z=>O (z▸ha)) λa o e z=>nomatch (z▸U:s.heap.get? a=none).symm.trans (R.keep _ _ e);obtain⟨R3,g3⟩:=known g2 (R.iB S) R2 ⟨nD,kk _ _ Z6 Z4⟩ Z8 J S;exact h _ _ _ g3 R3 (m7 R2)
theorem rm{τ:Nat}{x:ae}{p' J:bM}{elt target iter:aJ}{ifs:List aJ}{gs:List Bv}{scope:bc}{pos:bM}{emit}{tg:b7}{fi ti em}{fv:List Nat}(j:Nat)(hx:C.nm j=x)(k:Nat)
 (X:yt C n sc elt target iter ifs gs scope pos emit fi tg ti em fv)(hl:sc.names.lookup x=some .local \/sc.names.lookup x=some .cell)
 (Z7:swapsWith (.ListComp elt (⟨target,iter,ifs,0⟩::gs) scope pos) (some (.Name x p')) J.line {(default:aR)with scope:=sc}=pure true):
 cA C n sc τ (.Assign [.Name x p'] (.ListComp elt (⟨target,iter,ifs,0⟩::gs) scope pos) J) (bj j (bl fv fi tg ti em k)):=KX.s λ{A env F ρ st s Q E} hA _ N R h=>by
 subst hx;rw[exec_Assign_Name_used (C.nm j) p' _ J (by rw[mR (env':={(default:aR)with scope:=sc}) N.scope];exact Z7)];refine ar (qt (ar ?_));show wpAny _ _ (do let _ <-comprehension (.ListComp elt (⟨target,iter,ifs,0⟩::gs) scope pos) scope env (firstIterPos (⟨target,iter,ifs,0⟩::gs) pos) (newList []) false (eval iter env) (some (assign (.Name (C.nm j) p') env))) _ _ s;refine ar (Ag hA N R (gs:=gs) rfl X.turn GL z9 X.hi X.ht X.ki X.pP X.hc X.iQ (X.hs env) (Ok.bind' (h.map.bind.mono λp h=>h.map.mono λq h D L aq s' o' g' R' Z8 Z9 Y Z4 Z_ Z5 O Z6=>?_)));show wpAny _ _ (assign (.Name (C.nm j) p') env (.ref D)) _ _ s';refine ou Z9 λvs nD zq2 rv'=>?_;subst zq2;obtain⟨R3,g3⟩:=known g' (R.iB Z5) R' ⟨nD,Z8⟩ rv' Y Z5;refine HV (mS (T:=λ_=>True) trivial (N.go g3) R3 hl (v:=.ref q.2.2.length) (m7 R') λs4 g4 N4 R4=>?_);refine bO Z6 λm hm=>?_;have S:¬dr env L:=λz=>z.elim (λz=>N.ns.elim λM w=>(oq w).elim λo e=>nomatch (z▸O:s.heap.get? env.locals=none).symm.trans e) λz=>z.elim λx z=>(N.cells x L z.2.2).2.elim λv w=>(n5 w).elim λo e=>nomatch O.symm.trans e;have U:L∉aq++[D]:=λq=>(ei.mp q).elim Z4 λq=>Z_ (cx.mp q).symm;refine⟨m,Ns.of hm λo e=>g4.cI _ _ e U S,λh' hs'=>?_⟩;have kk:∀a o,¬a=L->s4.heap.get? a=some o->h'.get? a=some o:=λa o ne e=>(hs'.2 a ne).trans e;have gE:jc (·=L) (aq++[D]) s4 (aq++[D]) {s4 with heap:=h'}:=jc.keeps (t:=s4.toks) kk;have R5:Rel C (aq++[D]) (q.2.2++[.list q.1]) h':=R4.lT (·=L) (λb o e ne=>kk b o ne e) (λa ha z=>U (z▸ha)) λa o e z=>nomatch (z▸O:s.heap.get? a=none).symm.trans (R.keep _ _ e);have N5:a8 C sc (aq++[D]) (F.put j (.ref q.2.2.length)) env h':=N4.oD gE (λz=>S (.inl z.symm)) λx c q z=>(N.cells x c q).2.elim λv w=>(n5 w).elim λo e=>nomatch (z▸O:s.heap.get? c=none).symm.trans e;exact aU (aU (h _ _ _ (gE.after (g3.own.trans g4) λa z=>z▸O) N5 R5 rfl))
end
open PySem.W
noncomputable def eO(C:Cfg)(n:Nat)(f:af)(g:List AV->St->Option (AV×St)):Prop:=
 ∀A ρ st s avs vs v st' Q E,bN n A->Rel C ρ st s.heap->bu ρ avs vs->g avs st=some (v,st')->
  (∀V aq s',Go No ρ s aq s'->Rel C aq st' s'.heap->RelV aq v V->Q V s')->wpAny (model C.prog C.w) A (call f vs) Q E s
theorem eO.le{C:Cfg}{n m:Nat}{f:af}{g}(h:eO C n f g)(hm:n<=m):eO C m f g:=
 λA ρ st s avs vs v st' Q E hA=>h A ρ st s avs vs v st' Q E (hA.le hm)
noncomputable def dX(C:Cfg)(n:Nat)(f:af)(g:List AV->St->Option (AV×St)):Prop:=
 ∀A ρ st s avs vs v st'(Q:af->ah->Prop)(E:af->ah->Prop),bN n A->Rel C ρ st s.heap->bu ρ avs vs->g avs st=some (v,st')->
  (∀V aq s',Go No ρ s aq s'->Rel C aq st' s'.heap->RelV aq v V->Q V s')->codeAny (model C.prog C.w) A (.call f ⟨vs,[]⟩) (λr s'=>match r with|.ok (.ret v)=>Q v s'|.ok _=>False|.error e=>E e s') s
theorem dX.call{C:Cfg}{n:Nat}{f:af}{g}(h:dX C n f g):eO C n f g:=
 λA ρ st s avs vs v st' Q E hA R r e K=>rZ (h A ρ st s avs vs v st' Q E hA R r e K)
section
variable{C:Cfg}{n:Nat}{sc:bc}
noncomputable def ik(C:Cfg)(f:af):Prop:=∀h,(∀b o,C.base.get? b=some o->h.get? b=some o)->∃k,(k=Keeper.frame\/k=Keeper.machine\/k=Keeper.boundFrame)/\Looks (model C.prog C.w) h (keeperOf f) k
theorem cP{id:String}:ik C (.builtin id):=λh _=>⟨.machine,.inr (.inl rfl),Qe rfl⟩
theorem d4{T:String}:ik C (.type T):=λh _=>⟨.machine,.inr (.inl rfl),Qe rfl⟩
theorem gz{a:ak}(hk:keepIn C.K (.ref a)=true):ik C (.ref a):=λh J=>keeps_K hk h λa o e=>J _ _ (C.eU a o e)
noncomputable def ag:aj->St->Option (List AV×St):=λ_ st=>some ([],st)
noncomputable def ab(f:EM)(g:aj->St->Option (List AV×St)):aj->St->Option (List AV×St):=λF st=>(f F st).bind λp=>(g F p.2).map λq=>(p.1::q.1,q.2)
theorem aF:ip C n sc [] ag:=by
 refine⟨?_⟩;intro A env F ρ st s vs st' Q E pos hA N R h K;cases h
 exact Fm (K [] ρ s .refl R .nil)
noncomputable def isStar:aJ->Bool
 |.Starred ..=>true
 |_=>false
theorem pZ{e:aJ}{es:List aJ}{env:aR}(h:isStar e=false):starEach (e::es) env=(false,eval e env)::starEach es env:=by
 cases e<;>first|rfl|cases h
theorem au{e:aJ}{es:List aJ}{f g}(he:bR C n sc e f)(hs:ip C n sc es g)(O:isStar e=false):ip C n sc (e::es) (ab f g):=by
 refine⟨?_⟩;intro A env F ρ st s vs st' Q E pos hA N R h K;refine aG (vC h) λJ h1 h=>?_;obtain⟨v,s1⟩:=J;simp only[ji]at h;refine aG h λJ h2 U=>?_;obtain⟨ws,s2⟩:=J;cases U
 rw[pZ O];show wpAny _ _ (spliced ((false,eval e env)::backTo pos (starEach es env))) _ _ _;refine Hp (he.u A env F ρ st s v s1 _ E hA N R h1 λV S t1 g1 Y r1=>?_);refine hs.u A env F S s1 t1 ws _ _ E pos hA (N.go g1) Y h2 λVs bA t2 g2 R2 r2=>?_;exact K (V::Vs) bA t2 (g1.trans g2) R2 (.cons (r1.mono g2.pre) r2)
inductive Plain:List aJ->Prop
 |nil:Plain []
 |cons {e:aJ} {es:List aJ}:isStar e=false->Plain es->Plain (e::es)
theorem Plain.any{es:List aJ}(h:Plain es)(pos:bM)(env:aR):(backTo pos (starEach es env)).any (·.1)=false:=by
 induction h with
 |nil=>rfl
 |cons h1 h2 J=>
  rw[pZ h1];show(false||(backTo pos (starEach _ env)).any (·.1))=false;rw[J];rfl
theorem DN{A:bg}{E:af->ah->Prop}{s:ah}{f:af}{args:List aJ}{pos:bM}{env:aR}{Q:Args->ah->Prop}(J:Plain args)
 (h:wpAny (model C.prog C.w) A (spliced (backTo pos (starEach args env))) (λvs s'=>Q ⟨vs,[]⟩ s') E s):wpAny (model C.prog C.w) A (evalArgs f true (backTo pos (starEach args env)) []) Q E s:=by
 cases J with
 |nil=>
  have h0:wpAny (model C.prog C.w) A (spliced []) (λvs s'=>Q ⟨vs,[]⟩ s') E s:=h;show wpAny (model C.prog C.w) A (evalArgs f true [] []) Q E s;unfold evalArgs;show wpAny (model C.prog C.w) A (spliced []>>= _) Q E s;refine ar (e8 h0 (λvs s' h'=>?_) λ_ _ x=>x);refine ar (aU ?_);refine mi ?_;exact ar (aU (ar (aU (aU h'))))
 |cons h1 h2=>
  rw[pZ h1]at h ⊢;exact Y9 h
theorem p0{A:bg}{E:af->ah->Prop}{s:ah}{f:af}{first:List af}{args:List aJ}{pos:bM}{env:aR}{F:aj}{ρ:aD}{st st1:St}{avs:List AV}{fa}{Q:af->ah->Prop}
 (hA:bN n A)(N:a8 C sc ρ F env s.heap)(R:Rel C ρ st s.heap)(J:Plain args)(hk:ik C f)(S:ip C n sc args fa)(h:fa F st=some (avs,st1))
 (K:∀vs aq s',Go No ρ s aq s'->Rel C aq st1 s'.heap->bu aq avs vs->wpAny (model C.prog C.w) A (call f (first++vs)) Q E s'):
 wpAny (model C.prog C.w) A (callWith pos f first (backTo pos (starEach args env)) []) Q E s:=by
 refine Pg (P:=λh=>∀b o,C.base.get? b=some o->h.get? b=some o) (by rw[J.any];rfl) hk (DN J ?_);exact S.u A env F ρ st s avs st1 _ E pos hA N R h λvs aq s' g O U=>⟨O.keep,K vs aq s' g O U⟩
noncomputable def bK(g:List AV->St->Option (AV×St))(fa:aj->St->Option (List AV×St)):EM:=λF st=>(fa F st).bind λp=>g p.1 p.2
theorem dN{x:ae}{p pos:bM}{args:List aJ}{f:af}{fa g}(hf:∀A env F ρ st s Q E,a8 C sc ρ F env s.heap->Rel C ρ st s.heap->Q f s->wpAny (model C.prog C.w) A (eval (.Name x p) env) Q E s)
 (O:Plain args)(hk:ik C f)(S:ip C n sc args fa)(hc:eO C n f g):bR C n sc (.Call (.Name x p) args [] pos) (bK g fa):=by
 refine⟨?_⟩;intro A env F ρ st s v st' Q E hA N R h K;refine aG (vC h) λJ h1 h=>?_;obtain⟨avs,s1⟩:=J;refine o3 (hf A env F ρ st s _ E N R ?_);refine p0 hA N R O hk S h1 λvs aq s' U Y r'=>?_;exact hc A aq s1 s' avs vs v st' Q E hA Y r' h λV bA s2 g2 R2 r2=>K V bA s2 (U.trans g2) R2 r2
theorem jz{x:ae}{p:bM}{f:af}(hk:sc.names.lookup x=some .globalImplicit)(hg:C.mg x=some f)(hd:(x==("__debug__":ae))=false):
 ∀A env F ρ st s Q E,a8 C sc ρ F env s.heap->Rel C ρ st s.heap->Q f s->wpAny (model C.prog C.w) A (eval (.Name x p) env) Q E s:=by
 intro A env F ρ st s Q E N R S;refine sy ?_ hd;have J:env.scope.kind=.function :=by rw[N.scope];exact N.kind
 have O:env.kindOf x=some .globalImplicit :=by unfold jG;rw[N.scope];exact hk
 unfold loadName;simp only[BS,J,O,Np,AF,jh,if_false];refine YU (mg:=C.mg) ?_ hg S;rw[N.globals];exact C.v9.keeps R.keep
theorem b8{x:ae}{p:bM}{f:af}(hk:sc.names.lookup x=some .globalImplicit)(hg:C.mg x=none)(hb:C.mb x=some f)(hd:(x==("__debug__":ae))=false):
 ∀A env F ρ st s Q E,a8 C sc ρ F env s.heap->Rel C ρ st s.heap->Q f s->wpAny (model C.prog C.w) A (eval (.Name x p) env) Q E s:=by
 intro A env F ρ st s Q E N R S;refine sy ?_ hd;have J:env.scope.kind=.function :=by rw[N.scope];exact N.kind
 have O:env.kindOf x=some .globalImplicit :=by unfold jG;rw[N.scope];exact hk
 unfold loadName;simp only[BS,J,O,Np,AF,jh,if_false];unfold loadGlobal;refine ar (Pq (by rw[N.globals];exact C.v9.keeps R.keep) ?_);rw[hg];refine ar (Pq (by rw[N.builtins];exact C.JZ.keeps R.keep) ?_);rw[hb];exact aU S
theorem tW{x:ae}{p:bM}{f:af}{v:AV}(hf:∀A env F ρ st s Q E,a8 C sc ρ F env s.heap->Rel C ρ st s.heap->Q f s->wpAny (model C.prog C.w) A (eval (.Name x p) env) Q E s)
 (hv:∀ρ,RelV ρ v f):bR C n sc (.Name x p) (xk v):=by
 refine⟨?_⟩;intro A env F ρ st s w st' Q E hA N R h K;cases h
 exact hf A env F ρ st s Q E N R (K f ρ s .refl R (hv ρ))
theorem DW{kd:ae->Option e7}{x:ae}:∀{binds:List (ae×af)}{m:ae->Option af},x∉binds.map (·.1)->bindL kd binds m x=m x
 |[],_,_=>rfl
 |(y,v)::r,m,h=>by
  rw[bX,bJ,not_or]at h;unfold bindL;rw[DW h.2];split
  ·exact if_neg h.1
  ·rfl
theorem D0{kd:ae->Option e7}{x:ae}:∀{binds:List (ae×af)}{m:ae->Option af},x∉binds.map (·.1)->bindC kd binds m x=m x
 |[],_,_=>rfl
 |(y,v)::r,m,h=>by
  rw[bX,bJ,not_or]at h;unfold bindC;rw[D0 h.2];split
  ·rfl
  ·exact if_neg h.1
theorem Ey{kd:ae->Option e7}{x:ae}{v:af}(N:kd x=some .local):∀{binds:List (ae×af)}{m:ae->Option af},(binds.map (·.1)).Nodup ->(x,v)∈binds->bindL kd binds m x=some v
 |(y,w)::r,m,J,h=>by
  rw[bX,O_]at J;unfold bindL;rcases bJ.mp h with h|h
  ·cases h;rw[DW J.1,if_pos N];exact if_pos rfl
  ·exact Ey N J.2 h
theorem EE{kd:ae->Option e7}{x:ae}{v:af}(N:kd x≠some .local):∀{binds:List (ae×af)}{m:ae->Option af},(binds.map (·.1)).Nodup ->(x,v)∈binds->bindC kd binds m x=some v
 |(y,w)::r,m,J,h=>by
  rw[bX,O_]at J;unfold bindC;rcases bJ.mp h with h|h
  ·cases h;rw[D0 J.1,if_neg N];exact if_pos rfl
  ·exact EE N J.2 h
theorem HE{ρ:aD}{nm:Nat->ae}:∀{ks:List Nat}{avs:List AV}{vs:List af},bu ρ avs vs->∀{k:Nat}{v:AV},(ks.zip avs).lookup k=some v->∃V,(nm k,V)∈(ks.map nm).zip vs/\RelV ρ v V
 |[],_,_,_,_,_,h=>by cases h
 |j::ks,_,_,.nil,k,v,h=>by cases h
 |j::ks,_,_,.cons a b,k,v,h=>by
  rw[ku,eK]at h;split at h
  ·rename_i q
   cases h
   exact⟨_,by rw[beq_iff_eq.mp q];exact cj,a⟩
  ·refine aG (HE (nm:=nm) b h) λV m r=>?_
   exact⟨V,cw _ m,r⟩
theorem HT{α β:Type}:∀{l:List α}{m:List β},l.length=m.length->(l.zip m).map (·.1)=l
 |[],[],_=>rfl
 |a::l,b::m,h=>by simp[HT (l:=l) (m:=m) (by simpa using h)]
noncomputable def bG(ks:List Nat)(f:SM)(avs:List AV)(st:St):Option (AV×St):=
 if ks.length=avs.length then(f (ks.zip avs) st).bind λp=>match p.1 with
  |.ret v=>some (v,p.2.2)
  |.next =>some (.none,p.2.2)
  |_=>none
 else none
theorem Bm{fa:ak}{oc:af}{od:Option ak}{osl:Array (Option af)}{fd:nQ}{body:List gK}{ks:List Nat}{A:bg}{ρ:aD}{st:St}{s:ah}{avs:List AV}{vs:List af}{Rz:qg->ah->Prop}
 (hA:bN (n+1) A)(R:Rel C ρ st s.heap)(rv:bu ρ avs vs)(hlen:ks.length=avs.length)
 (ho:C.K.lookup fa=some ⟨oc,od,.func fd,osl⟩)(hcd:codeIn C.K fd.code fd.qualname=true)(hb:fd.body=.stmts body)(hcl:fd.closure=[])(hg:fd.globals=mainGlobals)(hbu:fd.builtins=builtinsNs)
 (vl:∀vs:List af,vs.length=ks.length->bindArgs fd ⟨vs,[]⟩=pure ((ks.map C.nm).zip vs))(hks:ks.Nodup)
 (Y:∀k∈ks,fd.scope.names.lookup (C.nm k)=some .local \/fd.scope.names.lookup (C.nm k)=some .cell)(Z_:∀p∈fd.scope.names,fd.scope.names.lookup p.1=some p.2/\p.2≠.free)
 (hdue:(fd.scope.names.lookup ("due":ae)==some .local)=false)(v7:fd.scope.isCoroutine=false)(vO:fd.scope.isGenerator=false)(hk:fd.scope.kind=.function)
 (Z8:∀env s1 E',(∀e s',wpAny (model C.prog C.w) (A.deeper env) (leaving env e) (λ_ Z9=>Rz (.error e) Z9) (λe' Z9=>Rz (.error e') Z9) s'->E' e s')->env=callEnvC fd s.heap.objs.size fa->a8 C fd.scope ρ (ks.zip avs) env s1.heap->Rel C ρ st s1.heap->Go No ρ s ρ s1->(∀a,dr env a->s.heap.get? a=none)->
  wpAny (model C.prog C.w) (A.deeper env) (execs body env) (λfl s'=>Rz (.ok (.ret (match fl with|.ret v=>v|_=>.none))) s') E' s1):
 codeAny (model C.prog C.w) A (.call (.ref fa) ⟨vs,[]⟩) Rz s:=by
 have hlv:vs.length=ks.length:=by rw[rv.length,hlen]
 have eU:C.K.In s.heap:=λa o e=>R.keep _ _ (C.eU a o e);have S:((ks.map C.nm).zip vs).map (·.1)=ks.map C.nm:=HT (by rw[aP,hlv]);have hnd:(ks.map C.nm).Nodup :=by
  rw[List.Nodup,Fd];exact hks.imp λne e=>ne (C.inj _ _ e)
 have Z6:∀x∈(ks.map C.nm).zip vs,∃k∈ks,x.1=C.nm k:=λx hx=>by
  have:x.1∈((ks.map C.nm).zip vs).map (·.1):=List.mem_map_of_mem hx;rw[S]at this;refine aG (dy.mp this) λk Z4 e=>?_;exact⟨k,Z4,e.symm⟩
 refine codeAny_call_cells hA.cG (eU _ _ ho) rfl (C.nolimit.keeps R.keep) (codeRec_of eU hcd) hb (vl vs hlv) hcl (λx hx=>?_) (λs1 ic=>?_) v7 vO hk
 ·refine aG (Z6 x hx) λk Z4 e=>?_
  rcases Y k Z4 with q|q
  ·left;rw[e];exact q
  ·right
   rw[e];refine⟨q,?_⟩;refine bO (cellsFrom_some fd.scope.names (s.heap.objs.size+1) (lookup_mem q)) λc hc=>?_;rw[hc];rfl
 ·generalize N:callEnvC fd s.heap.objs.size fa=env at ic
  have Z7:env.locals=s.heap.objs.size:=by rw[<-N];rfl
  have dT:env.scope=fd.scope:=by rw[<-N];rfl
  have ecl:env.cells=cellsFrom (s.heap.objs.size+1) fd.scope.names []:=by rw[<-N];rfl
  have egl:env.globals=mainGlobals:=by rw[<-N];exact hg
  have ebu:env.builtins=builtinsNs:=by rw[<-N];exact hbu
  have U:∀x,env.kindOf x=fd.scope.names.lookup x:=λx=>by unfold jG;rw[dT]
  refine ou ic.done λh' tk hs1 keep=>?_;subst hs1;have dead:∀a,s.heap.objs.size<=a->s.heap.get? a=none:=λa le=>by
   cases q:s.heap.get? a with
   |none=>rfl
   |some o=>exact absurd (j3 q) (iH.mpr le)
  have g1:Go No ρ s ρ {s with heap:=h',toks:=tk}:=Go.keeps keep;have R1:Rel C ρ st h':=R.keeps keep;have J:∀x c,env.cells.lookup x=some c->s.heap.get? c=none/\c≠env.locals:=λx c q=>by
   have:=ic.above x c (mem_of_lookup q);rw[Z7]at this ⊢;exact⟨dead c (cq this),jf this⟩
  have O:s.heap.get? env.locals=none:=by rw[Z7];exact dead _ (a7 _)
  have N1:a8 C fd.scope ρ (ks.zip avs) env h':=by
   refine⟨dT,hk,egl,ebu,⟨_,ic.toInCall.ns⟩,R.fh O,R.iB O,λk x q=>?_,λx q=>?_,λx y c hx hy=>?_,λx q=>?_,λx c q=>?_,λx q=>?_,λq=>absurd (beq_iff_eq.mpr q) (by rw[hdue];exact d_)⟩
   ·refine aG (HE (nm:=C.nm) rv q) λV m r=>?_
    refine aG (Z6 _ m) λk' Z4 e'=>?_;have e'':k=k':=C.inj _ _ e';subst e'';refine⟨V,r,?_⟩;rcases Y k Z4 with z|z
    ·exact .inl ⟨(U _).trans z,_,ic.toInCall.ns,Ey ((U _).trans z) (by rw[S];exact hnd) m⟩
    ·refine bO (cellsFrom_some fd.scope.names (s.heap.objs.size+1) (lookup_mem z)) λc hc=>?_
     rw[<-ecl]at hc;refine .inr ⟨.inl ((U _).trans z),c,hc,R.fh (J _ _ hc).1,?_⟩;have:=ic.cell _ _ hc;rw[EE (by rw[U,z];decide) (by rw[S];exact hnd) m]at this;exact this
   ·rw[U]at q
    refine bO (cellsFrom_some fd.scope.names (s.heap.objs.size+1) (lookup_mem q)) λc hc=>?_;rw[<-ecl]at hc;exact⟨c,_,hc,R.fh (J _ _ hc).1,(J _ _ hc).2,ic.cell _ _ hc,R.iB (J _ _ hc).1⟩
   ·exact Om ic.apart (mem_of_lookup hx) (mem_of_lookup hy)
   ·rw[U]at q;exact absurd rfl (Z_ _ (lookup_mem q)).2
   ·exact⟨R.fh (J _ _ q).1,_,ic.cell _ _ q⟩
   ·rw[U]at q;exact absurd rfl (Z_ _ (lookup_mem q)).2
  have Z5:∀a,dr env a->s.heap.get? a=none:=by
   rintro a (rfl|⟨x,_,_,q⟩)
   ·exact O
   ·exact(J x a q).1
  exact Z8 env {s with heap:=h',toks:=tk} _ (λe s' h=>N▸h) N.symm N1 R1 g1 Z5
theorem m9{fa:ak}{oc:af}{od:Option ak}{U:Array (Option af)}{fd:nQ}{body:List gK}{ks:List Nat}{f:SM}
 (ho:C.K.lookup fa=some ⟨oc,od,.func fd,U⟩)(hcd:codeIn C.K fd.code fd.qualname=true)(hb:fd.body=.stmts body)(Y:fd.closure=[])(hg:fd.globals=mainGlobals)(Z4:fd.builtins=builtinsNs)
 (vl:∀vs:List af,vs.length=ks.length->bindArgs fd ⟨vs,[]⟩=pure ((ks.map C.nm).zip vs))(Z5:ks.Nodup)
 (J:∀k∈ks,fd.scope.names.lookup (C.nm k)=some .local \/fd.scope.names.lookup (C.nm k)=some .cell)(Z6:∀p∈fd.scope.names,fd.scope.names.lookup p.1=some p.2/\p.2≠.free)
 (N:gr C n fd.scope 0 body f)(O:(fd.scope.names.lookup ("due":ae)==some .local)=false)
 (v7:fd.scope.isCoroutine=false)(vO:fd.scope.isGenerator=false)(hk:fd.scope.kind=.function):
 dX C (n+1) (.ref fa) (bG ks f):=by
 intro A ρ st s avs vs v st' Q E hA R rv h K;unfold bG at h;split at h
 ·rename_i hlen
  refine aG (vC h) λZ7 h1 h=>?_;obtain⟨fl,F',bI⟩:=Z7;refine Bm hA R rv hlen ho hcd hb Y hg Z4 vl Z5 J Z6 O v7 vO hk λenv s1 E' _ Z8 N1 R1 g1 own=>?_;refine N.u (A.deeper env) env (ks.zip avs) ρ st s1 fl F' bI _ _ (hA.deeper env) (cJ _) N1 R1 h1 λr bA s2 g2 N2 R2 S=>?_;have g:Go No ρ s bA s2:=g2.l8.after g1 own;cases fl with
  |ret x=>cases h;obtain⟨V,rfl,S⟩:=S;exact K V bA s2 g R2 S
  |next=>cases h;cases S;exact K .none bA s2 g R2 rfl
  |brk=>cases h
  |cont=>cases h
 ·cases h
end
noncomputable def iw(C:Cfg)(n:Nat)(t:af->af->dS af)(f:AV->AV->St->Option (AV×St)):Prop:=
 ∀A ρ st s a b J N Q E,bN n A->Rel C ρ st s.heap->RelV ρ a J->RelV ρ b N->Ok (f a b st) (Res C ρ s Q)->wpAny (model C.prog C.w) A (t J N) Q E s
section
variable{C:Cfg}{n:Nat}{t:af->af->dS af}{f g:AV->AV->St->Option (AV×St)}
theorem iw.ok(h:iw C n t f):d8 C n t f:=λA ρ st s a b J N _ _ Q E hA R O S e K=>h A ρ st s a b J N Q E hA R O S (Ok.of e K)
noncomputable def tM(f g:AV->AV->St->Option (AV×St))(a b:AV)(st:St):Option (AV×St):=(f a b st).or (g a b st)
theorem iw.or(h:iw C n t f)(k:iw C n t g):iw C n t (tM f g):=λA ρ st s a b J N Q E hA R O S e=>
 e.or.elim (h A ρ st s a b J N Q E hA R O S) (k A ρ st s a b J N Q E hA R O S)
end
section
variable(C:Cfg)(n:Nat)(sc:bc)
noncomputable def KC(f:af)(g:List AV->St->Option (AV×St)):Prop:=∀{A ρ st s avs vs Q E},bN n A->Rel C ρ st s.heap->bu ρ avs vs->Ok (g avs st) (Res C ρ s Q)->wpAny (model C.prog C.w) A (call f vs) Q E s
end
section
variable{C:Cfg}{n:Nat}{sc:bc}
noncomputable def zM(C:Cfg)(n:Nat)(f:af)(g:List AV->St->Option (AV×St)):Prop:=∀{A ρ st s avs vs}{Q:af->ah->Prop}{E:af->ah->Prop},bN n A->Rel C ρ st s.heap->bu ρ avs vs->Ok (g avs st) (Res C ρ s Q)->codeAny (model C.prog C.w) A (.call f ⟨vs,[]⟩) (λr s'=>match r with|.ok (.ret v)=>Q v s'|.ok _=>False|.error e=>E e s') s
theorem dX.k{f:af}{g}(h:dX C n f g):zM C n f g:=λhA R r o=>o.some λp e K=>h _ _ _ _ _ _ p.1 p.2 _ _ hA R r e K
theorem zM.s{f:af}{g}(h:zM C n f g):dX C n f g:=λ_ _ _ _ _ _ _ _ _ _ hA R r e K=>h hA R r (Ok.of e K)
theorem eO.k{f:af}{g}(h:eO C n f g):KC C n f g:=λhA R r o=>o.some λp e K=>h _ _ _ _ _ _ p.1 p.2 _ _ hA R r e K
theorem KC.s{f:af}{g}(h:KC C n f g):eO C n f g:=λ_ _ _ _ _ _ _ _ _ _ hA R r e K=>h hA R r (Ok.of e K)
end
end Mine
namespace Mine
theorem dx{a b A B N:Nat}(h1:a<=A)(h2:b<=B)(h:A+B<=N):a+b<=N:=aw (fU h1 h2) h
theorem dbl{a b N K:Nat}(h:a<=2*b)(hb:b<N)(k:2*N<=K):a<=K:=aw h (aw (ib 2 (cq hb)) k)
theorem ph{a n k:Nat}(h:a<=n+1):a -(k+1)<=n:=Ak (aw h (fW (dm 1 k) n))
theorem Dx{a b c:Nat}(h:b<c+1 -a)(J:a<=c):a+b<=c:=fV (gI b a▸Nat.add_lt_of_lt_sub h)
theorem yp{n:Nat}(h:n<4):n=0\/n=1\/n=2\/n=3:=by lia
theorem yr{n:Nat}(h:n<3):n=0\/n=1\/n=2:=by lia
theorem C2{a b K:Nat}(h:¬a<K)(hb:b<=K):b<=a:=aw hb (fC h)
theorem CC{a b K:Nat}(h:a<K)(hb:K<=b):¬b<=a:=nI (cK h hb)
theorem yG{a:Nat}(h:14<=a):a≠10/\a≠13:=⟨jf (cK (by decide) h),jf h⟩
theorem z_{a b N:Nat}(h:a+(b+1)<=N):a+1+b<=N:=hH a b 1▸h
theorem rH{a b N:Nat}(h:a+(b+1)<=N):a<N:=cK (oQ (c8 a b)) h
theorem yJ{a b n m:Nat}(h1:a<=m)(h2:b<=m*n):a+b<=m*n+m:=gI a b▸fU h2 h1
theorem I3{u n:Nat}(h:u+20*(n+1)<9000):u+1+20*n<9000:=by lia
theorem CW{b d c:Nat}(h:b=d+c)(hc:1<=c):1<=b:=h▸aw hc (dm c d)
theorem yX{w b d c:Nat}(hw:w<=2*b+2)(hb:b=d+c)(hd:d<=3)(hc:c<=9):w<=26:=by lia
theorem Yu{s t:Nat}(hs:s<=t):t -s<t+1 -s:=by rw[Br hs];exact iI _
theorem J2{s t:Nat}(hs:s<=t)(q:¬s<t):t -s<1:=by rw[rY (fC q)];exact Ng
theorem JS{s t:Nat}(q:s<t)(z:t -s<1):False:=jH _ (cK (O3 q) (fV z))
theorem Yy{s t k:Nat}(h:t -s=k+1):¬t<=s:=λq=>rR k (h.symm.trans (rY q))
theorem m1(n:Nat):(0<=(-1:Int)+(n+1)/\(-1:Int)+(n+1)<n+1)/\((-1:Int)+(n+1)).toNat =n:=by lia
theorem Yt{c r d l k:Nat}(hc:c+r<l)(h:r=k+1+d):c+1+d<l:=by lia
theorem zJ(n k:Nat):((n:Int) -1+-1*k).toNat =n -1 -k:=by lia
theorem YK(i n:Nat):(-(i:Int)+n).toNat =n -i:=by lia
theorem YA(n:Nat):(if(n:Int) -1>-1 then(n:Int) -1 - -1 - -1 -1 else 0).toNat =n:=by lia
theorem Yx{j:Nat}(q:¬j<3):4 -min j 3=4 -min (j+1) 3:=by rw[uD (fC q),uD (o4 (fC q))]
theorem YL{j l:Nat}(e:l=4 -min j 3):1<=l/\l<=4:=e▸⟨Pf (fW (jZ j 3) 1),iU ..⟩
theorem YG{j:Nat}(q:j<3):4 -min j 3 -1=4 -min (j+1) 3:=(congrArg (4 -· -1) (oZ (cq q))).trans (congrArg (4 -·) (oZ q)).symm
theorem Yv{u n a:Nat}(h1:u+20*n<9000)(h:a<=50):u+1+a<9900:=by lia
theorem k4{N k j:Nat}(h:N<=4*k+8)(J:j<=4):N+j<=4*(k+1)+8:=by lia
@[elab_as_elim] theorem Xv{P:Fin 3->Prop}(h0:P 0)(h1:P 1)(h2:P 2)(q:Fin 3):P q:=by
 obtain⟨v,h⟩:=q;rcases yr h with e|e|e
 ·subst e;exact h0
 ·subst e;exact h1
 ·subst e;exact h2
theorem vG{α:Type}{l:List α}{n:Nat}(h:l.length=n+1):∃a t,l=a::t/\t.length=n:=by
 cases l with
 |nil=>exact absurd h.symm (rR n)
 |cons a t=>exact⟨a,t,rfl,ux h⟩
theorem JI{α:Type}{l:List α}(h:l.length=1):∃a,l=[a]:=(vG h).elim λa q=>q.elim λt r=>⟨a,r.1.trans (congrArg _ (List.eq_nil_of_length_eq_zero r.2))⟩
theorem q4{α:Type}{l:List α}(h:l.length=3):∃a b c,l=[a,b,c]:=(vG h).elim λa q=>q.elim λt r=>(vG r.2).elim λb q=>q.elim λu v=>(JI v.2).elim λc w=>⟨a,b,c,r.1.trans (congrArg _ (v.1.trans (congrArg _ w)))⟩
theorem JH{α:Type}{l:List α}(h:l.length=4):∃a b c d,l=[a,b,c,d]:=(vG h).elim λa q=>q.elim λt r=>(q4 r.2).elim λb q=>q.elim λc q=>q.elim λd w=>⟨a,b,c,d,r.1.trans (congrArg _ w)⟩
theorem XY{α:Type}{l:List α}(h:l.length=5):∃a b c d e,l=[a,b,c,d,e]:=(vG h).elim λa q=>q.elim λt r=>(JH r.2).elim λb q=>q.elim λc q=>q.elim λd q=>q.elim λe w=>⟨a,b,c,d,e,r.1.trans (congrArg _ w)⟩
@[elab_as_elim] theorem vv{P:Nat->Prop}(h0:P 0)(h1:P 1)(h2:P 2){p:Nat}(h:p<3):P p:=(yr h).elim (λe=>e▸h0) λe=>e.elim (λe=>e▸h1) λe=>e▸h2
@[elab_as_elim] theorem WV{P:Nat->Prop}(h0:P 0)(h1:P 1)(h2:P 2)(h3:P 3)(J:P 4)(h5:P 5){p:Nat}(h:p<6):P p:=
 if q:p<3 then vv h0 h1 h2 q else by
  have:=vv (P:=λx=>P (x+3)) h3 J h5 (Nat.sub_lt_right_of_lt_add (fC q) h);rwa[qc (fC q)]at this
open PySem PyProof.Rows PySem.W
section
variable{C:Cfg}{n:Nat}{sc:bc}
noncomputable def C6(a b:AV)(st:St):Option (AV×St):=a.i?.bind λx=>b.i?.map λy=>(.int (x+y),st)
noncomputable def vU(a b:AV)(st:St):Option (AV×St):=a.s?.bind λx=>b.s?.bind λy=>if x.length+y.length<=sizeLine then some (.str (x++y),st)else none
noncomputable def JP(a b:AV)(st:St):Option (AV×St):=a.r?.bind λl=>b.r?.bind λm=>(bF st l).bind λxs=>(bF st m).bind λJ=>if xs.length+J.length<=sizeLine then some (.ref st.length,st++[.list (xs++J)])else none
noncomputable def aX:=tM C6 (tM vU JP)
theorem ro{ρ:aD}{st:St}{s:ah}{xs:List AV}{vs:List af}(R:Rel C ρ st s.heap)(r:bu ρ xs vs):
 Rel C (ρ++[s.heap.objs.size]) (st++[.list xs]) (s.heap.push {cls:=.type "list",data:=.seq vs.toArray})/\RelV (ρ++[s.heap.objs.size]) (.ref st.length) (.ref s.heap.objs.size)/\
  Go No ρ s (ρ++[s.heap.objs.size]) {s with heap:=s.heap.push {cls:=.type "list",data:=.seq vs.toArray}}:=
 ⟨R.push rfl ⟨vs,⟨0,dM _ rfl⟩,r.mono (j_ _ _)⟩,⟨_,by rw[<-R.len];simp,rfl⟩,Go.alloc (t:=s.toks) (dk _ _) (fR _)⟩
theorem H7{t:af->af->dS af}(q:∀{A:bg}{s:ah}{x u y v}{Q:af->ah->Prop}{E:af->ah->Prop},Q (.int (x+y) s.toks) {s with toks:=s.toks+1}->wpAny (model C.prog C.w) A (t (.int x u) (.int y v)) Q E s):iw C n t C6:=
 λA ρ st s a b O S Q E hA R J N h=>J.i h.bind λx t h=>N.i h.map λy u h=>q (h _ ρ _ (.toks _) R ⟨_,rfl⟩)
theorem HD{t:af->af->dS af}(q:∀{A:bg}{s:ah}{x y:ae}{u v}{Q:af->ah->Prop}{E:af->ah->Prop},(∀t' tk,Q (.str (x++y) t') {s with toks:=tk})->x.length+y.length<=sizeLine->wpAny (model C.prog C.w) A (t (.str x u) (.str y v)) Q E s):iw C n t vU:=
 λA ρ st s a b O S Q E hA R J N h=>J.s h.bind λx t h=>N.s h.bind λy u h=>q (λt' tk=>h.ite.2 _ ρ _ (.toks _) R ⟨_,rfl⟩) h.ite.1
theorem T9:iw C n (binaryOp .Add) JP:=λA ρ st s a b va vb Q E hA R O S h=>O.r h.bind λl U Y h=>S.r h.bind λm lb hb h=>R.l Y h.bind λxs vs _ h1 J h=>R.l hb h.bind λys ws _ h2 N h=>by
 refine bO h1 λn1 h1=>?_;refine bO h2 λn2 h2=>?_;refine concat_meets ⟨_,h1,rfl⟩ ⟨_,h2,rfl⟩ noFill_list_add seq_list_add Zt ZE (Y5 _ _) (list_addW U lb vs.toArray ws.toArray n1 n2 none none #[] #[] ?_) ⟨h1,h2,?_⟩
 ·rw[dH,dH,J.length,N.length];exact h.ite.1
 ·rw[P9]
  refine de (ro (C:=C) (s:=s) R (J.append N)) λR' r' g'=>?_;exact h.ite.2 _ _ _ g' R' r'
theorem cS:d8 C n (binaryOp .Add) aX:=((H7 add_int).or ((HD λh k=>add_str h k).or T9)).ok
theorem uT{α:Type}{c:Prop}[Decidable c]{x y:α}(h:(if c then some x else none)=some y):c/\x=y:=
 Ok.ite (P:=(·=y)) (Ok.of h rfl)
noncomputable def nj(f:Int->Int->Option Int)(a b:AV)(st:St):Option (AV×St):=a.i?.bind λx=>b.i?.bind λy=>(f x y).map λz=>(.int z,st)
theorem o_{t:af->af->dS af}{f:Int->Int->Option Int}
 (h:∀(A:bg)(s:ah) x u y v z(Q:af->ah->Prop)(E:af->ah->Prop),f x y=some z->Q (.int z s.toks) {s with toks:=s.toks+1}->wpAny (model C.prog C.w) A (t (.int x u) (.int y v)) Q E s):d8 C n t (nj f):=by
 exact iw.ok λA ρ st s a b S U Q E hA R N O J=>N.i J.bind λx t J=>O.i J.bind λy u J=>J.map.some λz e J=>h A s x t y u z Q E e (J _ ρ _ (.toks _) R ⟨_,rfl⟩)
noncomputable def kl:=nj λx y=>some (x -y)
theorem CE:d8 C n (binaryOp .Sub) kl:=o_ λA s x u y v z Q E h q=>sub_int (mx h▸q)
theorem SH:d8 C n (inplaceOp .Sub) kl:=o_ λA s x u y v z Q E h q=>isub_int (mx h▸q)
noncomputable def oMod:=nj λx y=>if y=0 then none else some (x.fmod y)
theorem jK:d8 C n (binaryOp .Mod) oMod:=o_ λA s x u y v z Q E h q=>by
 by_cases J:y=0
 ·rw[if_pos J]at h;exact nomatch h
 ·rw[if_neg J]at h;exact mod_int' J (mx h▸q)
noncomputable def oDiv:=nj λx y=>if y=0 then none else if y.natAbs<1073741824 then some (x.fdiv y)else none
theorem lK:d8 C n (binaryOp .FloorDiv) oDiv:=o_ λA s x u y v z Q E h q=>by
 by_cases J:y=0
 ·rw[if_pos J]at h;exact nomatch h
 ·rw[if_neg J]at h
  exact have h:=uT h;floordiv_int J (h.2▸q) (.inl (Zq h.1))
noncomputable def ja:=nj λx y=>if 0<=y/\(fD x:Int)*y<=2^27 then some (x^y.toNat)else none
theorem vj:d8 C n (binaryOp .Pow) ja:=o_ λA s x u y v z Q E h q=>have h:=uT h;have J:=h.1;pow_int J.1 J.2 (h.2▸q)
noncomputable def nr:=nj λx y=>if 0<=y/\(fD x:Int)+y<=2^27 then some (x*2^y.toNat)else none
theorem HN:d8 C n (inplaceOp .LShift) nr:=o_ λA s x u y v z Q E h q=>have h:=uT h;have J:=h.1;ilshift_int J.1 J.2 (h.2▸q)
noncomputable def oB:=nj λx y=>some (gY x y)
theorem vh:d8 C n (binaryOp .BitAnd) oB:=o_ λA s x u y v z Q E h q=>and_int (mx h▸q)
noncomputable def zB:=nj λx y=>some (Bw x y)
theorem U1:d8 C n (inplaceOp .BitOr) zB:=o_ λA s x u y v z Q E h q=>ior_int (mx h▸q)
noncomputable def gM:=tM C6 vU
theorem o8:d8 C n (inplaceOp .Add) gM:=((H7 iadd_int).or (HD λh k=>iadd_str h k)).ok
noncomputable def vL(v:AV):Option aB:=AV.casesOn v (some .none) (λb=>some (.bool b)) (λi=>some (.int i)) (λs=>some (.str s)) (λ_=>none) λ_=>none
noncomputable def fc(st:St)(k:Nat):AV->Option aB:=BE vL (λ_ f v=>(vL v).or (v.r?.bind λl=>((bF st l).bind λxs=>(xs.mapM f).map .list).or ((eo st l).bind λxs=>(xs.mapM f).map .tuple))) k
theorem Au{st:St}{l k:Nat}{xs:List AV}{ds:List aB}(h:st[l]?=some (.list xs))(e:xs.mapM (fc st k)=some ds):fc st (k+1) (.ref l)=some (.list ds):=by
 show((bF st l).bind _).or _=_;rw[dC h];show(lA _ (xs.mapM (fc st k))).or _=_;rw[e];rfl
theorem D_{ρ:aD}{h:aO}{v:AV}{V:af}(r:RelV ρ v V){P:aB->Prop}(e:Ok (vL v) P):∃d,P d/\∃as,uo h V d as:=by
 cases v with
 |none=>cases r;exact⟨_,e,_,.none⟩
 |bool b=>cases r;exact⟨_,e,_,.bool b⟩
 |int i=>exact r.elim λt z=>z▸⟨_,e,_,.int i t⟩
 |str x=>exact r.elim λt z=>z▸⟨_,e,_,.str x t⟩
 |ref=>exact dA e
 |val=>exact dA e
theorem EG{ρ:aD}{h:aO}{f:AV->Option aB}(N:∀{v:AV}{V:af}{P:aB->Prop},RelV ρ v V->Ok (f v) P->∃d,P d/\∃as,uo h V d as){xs:List AV}{vs:List af}(O:bu ρ xs vs):
 ∀{P:List aB->Prop},Ok (xs.mapM f) P->∃ds,P ds/\∃as,ReadsAll h vs ds as:=by
 induction O with
 |nil=>exactλ{P} e=>⟨[],(show Ok (pure []) P from List.mapM_nil (m:=Option)▸e),_,.nil⟩
 |cons a b J=>
  intro P e;rw[sg]at e;refine vk (N a (Ok.bind e)) λd e as R=>?_;refine vk (J (Ok.bind e)) λds e bs S=>?_;exact⟨_,e,_,.cons R S⟩
theorem UW{ρ:aD}{st:St}{h:aO}(R:Rel C ρ st h)(k:Nat):∀{v:AV}{V:af}{P:aB->Prop},RelV ρ v V->Ok (fc st k v) P->∃d,P d/\∃as,uo h V d as:=by
 induction k with
 |zero=>exactλr e=>D_ r e
 |succ k O=>
  intro v V P r e;refine(Ok.or e).elim (D_ r) λe=>r.r e.bind λl U S e=>e.or.elim (λe=>R.l S e.bind λxs vs _ hl J e=>?_) λe=>R.t S e.bind λxs vs _ hl J e=>?_
  ·refine vk (EG O J e.map) λds e as N=>?_
   exact hl.elim λY hl=>⟨_,e,_,.list hl rfl rfl ((E3 (as:=vs)).symm ▸N)⟩
  ·obtain⟨ds,e,as,N⟩:=EG O J e.map
   exact⟨_,e,_,.tuple hl rfl rfl ((E3 (as:=vs)).symm ▸N)⟩
theorem rJ{ρ:aD}{st:St}{h:aO}(R:Rel C ρ st h)(k:Nat){v:AV}{V:af}{d:aB}(r:RelV ρ v V)(e:fc st k v=some d):∃as,uo h V d as:=
 (UW R k (P:=(d=·)) r (Ok.of e rfl)).elim λ_ z=>z.1▸z.2
noncomputable def Ct(a b:AV)(st:St):Option Bool:=(fc st 4 a).bind λda=>(fc st 4 b).bind λdb=>if jD da&&jD db then some (c6 da db)else none
noncomputable def tD(a b:AV)(st:St):Option Bool:=(a.i?.bind λx=>b.i?.map λy=>x==y).or ((a.s?.bind λx=>b.s?.map λy=>x==y).or (Ct a b st))
noncomputable def oEq(a b:AV)(st:St):Option (AV×St):=(tD a b st).map λc=>(.bool c,st)
noncomputable def c5(a b:AV)(st:St):Option (AV×St):=(tD a b st).map λc=>(.bool (!c),st)
theorem bN.Il{A:bg}(r:bN n A):A.units+64<cLine:=by have:=r.units;show A.units+64<9900;exact cK (Nat.add_lt_add_right (bQ (c8 ..) this) 64) (by decide)
theorem Ih{A:bg}{ρ:aD}{st:St}{s:ah}{a b:AV}{J N:af}{E:af->ah->Prop}(hA:bN n A)(R:Rel C ρ st s.heap)(O:RelV ρ a J)(S:RelV ρ b N){P:Bool->Prop}
 (h:Ok (tD a b st) P):(∀{Q:af->ah->Prop},(∀c,P c->Q (.bool c) s)->wpAny (model C.prog C.w) A (compareOp .Eq J N) Q E s)/\(∀{Q:af->ah->Prop},(∀c,P c->Q (.bool (!c)) s)->wpAny (model C.prog C.w) A (compareOp .NotEq J N) Q E s):=
 h.or.elim (λh=>O.i h.bind λx t h=>S.i h.map λy u h=>⟨λk=>eq_int (k _ h),λk=>ne_int (k _ h)⟩) λh=>h.or.elim (λh=>O.s h.bind λx t h=>S.s h.map λy u h=>⟨λk=>eq_str (k _ h),λk=>ne_str (k _ h)⟩) λh=>
 h.bind.some λda e1 h=>h.bind.some λdb e2 h=>by
  obtain⟨hs,h⟩:=h.ite;rw[gH]at hs;refine bO (rJ R 4 O e1) λas U=>?_;obtain⟨bs,Y⟩:=rJ R 4 S e2;exact⟨λk=>eq_dataH U Y hs.1 hs.2 hA.Il (k _ h),λk=>ne_dataH U Y hs.1 hs.2 hA.Il (k _ h)⟩
theorem ir:d8 C n (compareOp .Eq) oEq:=iw.ok λA ρ st s a b O S Q E hA R J N h=>(Ih hA R J N h.map).1 λc k=>k _ ρ s .refl R rfl
theorem kZ:d8 C n (compareOp .NotEq) c5:=iw.ok λA ρ st s a b O S Q E hA R J N h=>(Ih hA R J N h.map).2 λc k=>k _ ρ s .refl R rfl
noncomputable def zh(f:Int->Int->Bool)(a b:AV)(st:St):Option (AV×St):=a.i?.bind λx=>b.i?.map λy=>(.bool (f x y),st)
theorem Cu{t:af->af->dS af}{f:Int->Int->Bool}
 (h:∀(A:bg)(s:ah) x u y v(Q:af->ah->Prop)(E:af->ah->Prop),Q (.bool (f x y)) s->wpAny (model C.prog C.w) A (t (.int x u) (.int y v)) Q E s):d8 C n t (zh f):=by
 exact iw.ok λA ρ st s a b S U Q E hA R N O J=>N.i J.bind λx t J=>O.i J.map λy u J=>h A s x t y u Q E (J _ ρ s .refl R rfl)
noncomputable def oLt:=zh λx y=>decide (x<y)
noncomputable def l_:=zh λx y=>decide (y<x)
noncomputable def zL:=zh λx y=>decide (y<=x)
theorem yR:d8 C n (compareOp .Lt) oLt:=Cu λA s x u y v Q E q=>lt_int q
theorem yK:d8 C n (compareOp .Gt) l_:=Cu λA s x u y v Q E q=>gt_int q
theorem W8:d8 C n (compareOp .GtE) zL:=Cu λA s x u y v Q E q=>ge_int q
noncomputable def sY(a b:AV)(st:St):Option (AV×St):=a.b?.bind λx=>b.b?.map λy=>(.bool (!(x==y)),st)
theorem Nd(x y:Bool):((Bc x==Bc y):Bool)=(x==y):=by cases x<;>cases y<;>decide
theorem Rx:d8 C n (compareOp .IsNot) sY:=iw.ok λA ρ st s a b O S Q E hA R J N h=>J.b h.bind λx h=>N.b h.map λy h=>wpAny_isNot_plain rfl (by rw[Nd];exact h _ ρ s .refl R rfl)
noncomputable def Dv(a b:AV)(st:St):Option Bool:=b.r?.bind λl=>(bF st l).bind λxs=>(xs.mapM (fc st 3)).bind λds=>(fc st 3 a).bind λd=>if eu ds&&d.canLay0&&decide (dW ds<=50)then some (ds.any λy=>c6 y d)else none
noncomputable def vT(a b:AV)(st:St):Option Bool:=(a.s?.bind λy=>b.s?.map λx=>!(YY x y 0 x.length 1).isEmpty).or (Dv a b st)
noncomputable def l7(a b:AV)(st:St):Option (AV×St):=(vT a b st).map λc=>(.bool c,st)
noncomputable def mz(a b:AV)(st:St):Option (AV×St):=(vT a b st).map λc=>(.bool (!c),st)
theorem D4{A:bg}{x y:Nat}(hA:bN n A)(h:decide (x<=50)=true):A.units+1+min x y<cLine:=by
 have:=hA.units;have:=of_decide_eq_true h;have:=uA x y;show _<9900;exact Yv (by assumption) (aw (uA ..) (of_decide_eq_true h))
theorem FW{A:bg}{ρ:aD}{st:St}{h:aO}{a b:AV}{J N:af}(hA:bN n A)(R:Rel C ρ st h)(O:RelV ρ a J)(S:RelV ρ b N){P:Bool->Prop}(q:Ok (Dv a b st) P){G:Prop}
 (k:∀ds d as bs,uo h N (.list ds) as->uo h J d bs->eu ds=true->d.canLay0=true->A.units+1+min (dW ds) d.depth<cLine->P (ds.any λy=>c6 y d)->G):G:=
 q.bind.some λl U q=>q.bind.some λxs ex q=>q.bind.some λds Y q=>q.bind.some λd e2 q=>by
  obtain⟨hs,q⟩:=q.ite;rw[gH,gH]at hs;refine bO (rJ R 3 O e2) λbs Rb=>?_;have hb:b=.ref l:=by cases b<;>cases U;rfl
  have hl:fc st 4 b=some (.list ds):=hb▸Au (CM ex) Y;refine bO (rJ R 4 S hl) λas Ra=>?_;exact k ds d as bs Ra Rb hs.1.1 hs.1.2 (D4 hA hs.2) q
theorem vw:d8 C n (compareOp .In) l7:=iw.ok λA ρ st s a b Y vb Q E hA R J N h=>h.map.or.elim (λh=>J.s h.bind λx t h=>N.s h.map λy u h=>in_str (h _ ρ s .refl R rfl))
 λh=>FW hA R J N h λds d as bs O S h1 h2 U h=>SeqAt.in_list_reads O S h1 h2 U (h _ ρ s .refl R rfl)
theorem Hm:d8 C n (compareOp .NotIn) mz:=iw.ok λA ρ st s a b Y vb Q E hA R J N h=>h.map.or.elim (λh=>J.s h.bind λx t h=>N.s h.map λy u h=>notIn_str (h _ ρ s .refl R rfl))
 λh=>FW hA R J N h λds d as bs O S h1 h2 U h=>SeqAt.notIn_list_reads O S h1 h2 U (h _ ρ s .refl R rfl)
end
section
variable{C:Cfg}{n:Nat}{sc:bc}
noncomputable def ix(a:AV)(st:St):Option Bool:=a.b?.or ((a.i?.map λi=>i !=0).or ((a.s?.bind λx=>if x.length<=sizeLine then some (x.length !=0)else none).or (a.r?.bind λl=>(bF st l).bind λxs=>if xs.length<=sizeLine then some (!xs.isEmpty)else none)))
theorem y5{n:Nat}(h:n<=sizeLine):(n:Int)<2^63:=by rw[sizeLine_eq]at h;exact xt (lC.mpr h) (by decide)
theorem Sz(n:Nat):((n:Int)!=0)=(n !=0):=by cases n<;>rfl
theorem qo:uV C n ix:=zI.s λ{A ρ st s a S Q E} hA R J h=>h.or.elim (λh=>J.b h λx h=>Ir (h s .refl R)) λh=>h.or.elim (λh=>J.i h.map λx t h=>truthy_int (h s .refl R)) λh=>h.or.elim
 (λh=>J.s h.bind λx t h=>P.truthy_str (ug.mpr (y5 h.ite.1)) (by rw[Sz];exact h.ite.2 _ (.toks _) R))
 λh=>J.r h.bind λl U O h=>R.l O h.bind λxs vs _ hl N h=>wpAny_truthy_list (fB hl) (by rw[dH,N.length];exact y5 h.ite.1) (by
  rw[show(!vs.toArray.isEmpty)=!xs.isEmpty by cases N<;>rfl];exact h.ite.2 _ (.toks _) R)
noncomputable def jb(f:EM):EM:=λF st=>(f F st).bind λp=>p.1.i?.map λi=>(.int (-i),p.2)
theorem qy{e:aJ}{pos:bM}{f:EM}(he:bR C n sc e f):bR C n sc (.UnaryOp .USub e pos) (jb f):=KE.s λhA N R h=>
 wpAny_UnaryOp (he.k hA N R (h.bind.mono λp h V J t1 g1 O S=>S.i h.map λx t h=>neg_int (h _ J _ (g1.trans (.toks _)) O ⟨_,rfl⟩)))
noncomputable def bD(fa:aj->St->Option (List AV×St)):EM:=λF st=>(fa F st).bind λp=>if p.1.length <=sizeLine then some (.ref p.2.length,p.2++[.list p.1])else none
theorem dj{es:List aJ}{pos:bM}{fa}(O:ip C n sc es fa):bR C n sc (.List es pos) (bD fa):=KE.s λhA N R h=>
 wpAny_List_spliced (O.k hA N R (h.bind.mono λp h Vs S t1 g1 U J=>⟨J.length.symm▸h.ite.1,
  have q:=ro (C:=C) (s:=t1) U J
  h.ite.2 _ _ _ (g1.trans q.2.2) q.1 q.2.1⟩))
structure Z3(C:Cfg)(n:Nat)(sc:bc)(τ:Nat)(e:aJ)(f:EM):Prop where
 u:∀A env F ρ st s v st' Q E,bN n A->τ<=s.toks->a8 C sc ρ F env s.heap->Rel C ρ st s.heap->f F st=some (v,st')->
  (∀V aq s',Go No ρ s aq s'->Rel C aq st' s'.heap->RelV aq v V->Q V s')->wpAny (model C.prog C.w) A (eval e env) Q E s
structure uW(C:Cfg)(n:Nat)(sc:bc)(τ:Nat)(es:List aJ)(f:aj->St->Option (List AV×St)):Prop where
 u:∀A env F ρ st s vs st' Q E(pos:bM),bN n A->τ<=s.toks->a8 C sc ρ F env s.heap->Rel C ρ st s.heap->f F st=some (vs,st')->
  (∀Vs aq s',Go No ρ s aq s'->Rel C aq st' s'.heap->bu aq vs Vs->Q Vs s')->wpAny (model C.prog C.w) A (spliced (backTo pos (starEach es env))) Q E s
theorem ip.t{τ:Nat}{es:List aJ}{f}(h:ip C n sc es f):uW C n sc τ es f:=
 ⟨λA env F ρ st s vs st' Q E pos hA _ N R e K=>h.u A env F ρ st s vs st' Q E pos hA N R e K⟩
noncomputable def X5(C:Cfg)(n:Nat)(sc:bc)(τ:Nat)(es:List aJ)(f:aj->St->Option (List AV×St)):Prop:=∀{A env F ρ st s Q E}{pos:bM},bN n A->τ<=s.toks->a8 C sc ρ F env s.heap->Rel C ρ st s.heap->Ok (f F st) (JR C ρ s Q)->wpAny (model C.prog C.w) A (spliced (backTo pos (starEach es env))) Q E s
theorem uW.k{τ:Nat}{es:List aJ}{f}(h:uW C n sc τ es f):X5 C n sc τ es f:=λhA ht N R o=>o.some λp e K=>h.u _ _ _ _ _ _ p.1 p.2 _ _ _ hA ht N R e K
noncomputable def vS(ks:List Nat)(fa:aj->St->Option (List AV×St)):SM:=λF st=>(fa F st).bind λp=>if p.1.length <=sizeLine then(F.oA ks p.1).map λF'=>(.next,F',p.2)else none
theorem DB{ts:List aJ}{v:aJ}{env env':aR}(h:env.scope=env'.scope):swappedStores ts v env=swappedStores ts v env':=by
 unfold swappedStores BS jG;rw[h]
theorem DH{τ:Nat}{ts es:List aJ}{j S:Nat}{pt U pos:bM}{ks:List Nat}{fa}(Y:b_ C sc (λ_=>True) ts ks)(ha:uW C n sc τ es fa)
 (hw:swappedStores [.Tuple ts j pt] (.Tuple es S U) {(default:aR)with scope:=sc}=pure none):
 cA C n sc τ (.Assign [.Tuple ts j pt] (.Tuple es S U) pos) (vS ks fa):=by
 exact KX.s λ{A env F ρ st s Q E} hA J N R h=>by
  refine NT (Tuple_ (ha.k hA J N R (h.bind.mono λp h Vs Z4 t1 g1 R1 O=>?_))) rfl (by rw[DB (env':={(default:aR)with scope:=sc}) N.scope];exact hw);obtain⟨hs,h⟩:=h.ite;have q:=h.map;refine Hv ?_ (O.length.symm▸hs);obtain⟨q1,q2⟩:=DD Y env;refine T7 (x1:=j) hA.handled (p5 (dM _ rfl)) (by rw[q2,E1 q,<-O.length,dH]) q1 λh' hx=>?_;have kk:∀b o,t1.heap.get? b=some o->h'.get? b=some o:=λb o e=>zS hx b o (dk _ _ b o e);have g:=g1.trans (Go.keeps (t:=t1.toks) kk);exact FA Y (N.go g) (R1.keeps kk) O (q.mono λF1 h s' g' N' R'=>h _ _ _ (g.own.trans g') N' R' rfl)
noncomputable def aj.C3(F:aj)(ks:List Nat)(vs:List AV):Option aj:=F.oA ks.reverse vs.reverse
theorem bindAll{A:bg}{env:aR}{Q:Unit->ah->Prop}{E:af->ah->Prop}{ks:List Nat}:(∀k∈ks,sc.names.lookup (C.nm k)=some .local \/sc.names.lookup (C.nm k)=some .cell)->∀{F:aj}{ρ:aD}{st:St}{s:ah}{vs:List AV}{Vs:List af},
 a8 C sc ρ F env s.heap->Rel C ρ st s.heap->bu ρ vs Vs->Ok (F.oA ks vs) (λF'=>∀s',Go (dr env) ρ s ρ s'->a8 C sc ρ F' env s'.heap->Rel C ρ st s'.heap->Q () s')->wpAny (model C.prog C.w) A (assignInOrder (ks.map λk=>bindName env (C.nm k)) Vs) Q E s:=by
 induction ks with
 |nil=>
  intro _ F ρ st s vs Vs N R r h;cases r with
  |nil=>exact aU (h s .refl N R)
  |cons=>exact dA h
 |cons k ks J=>
  intro hk F ρ st s vs Vs N R r h;cases r with
  |nil=>exact dA h
  |cons a b=>exact T6 (wpAny_bindName (mS (T:=λ_=>True) trivial N R (hk k cj) a λs1 g1 O S=>J (λk m=>hk k (cw _ m)) O S b (Ok.mono h λF' q s' U=>q s' (g1.trans U))))
theorem bu.reverse{ρ:aD}{xs:List AV}{vs:List af}(h:bu ρ xs vs):bu ρ xs.reverse vs.reverse:=by
 induction h with
 |nil=>exact .nil
 |cons a b J=>rw[BB,BB];exact J.append (.cons a .nil)
noncomputable def pG(ks:List Nat)(fa:aj->St->Option (List AV×St)):SM:=λF st=>(fa F st).bind λp=>if p.1.length <=sizeLine/\p.1.length =ks.length then(F.C3 ks p.1).map λF'=>(.next,F',p.2)else none
theorem zQ{τ:Nat}{ts es:List aJ}{j S:Nat}{pt U pos:bM}{ks:List Nat}{fa}(hk:∀k∈ks,sc.names.lookup (C.nm k)=some .local \/sc.names.lookup (C.nm k)=some .cell)(ha:uW C n sc τ es fa)
 (hw:swappedStores [.Tuple ts j pt] (.Tuple es S U) {(default:aR)with scope:=sc}=pure (some (ks.map C.nm))):
 cA C n sc τ (.Assign [.Tuple ts j pt] (.Tuple es S U) pos) (pG ks fa):=by
 exact KX.s λ{A env F ρ st s Q E} hA J N R h=>by
  rw[arm_exec_Assign];refine ar (qt (ar (d9 (a:=false) rfl (ar (Tuple_ (ha.k hA J N R (h.bind.mono λp h Vs Z4 t1 g1 R1 O=>?_)))))));obtain⟨hs,h⟩:=h.ite;refine Hv (ar (d9 (a:=some (ks.map C.nm)) (by rw[DB (env':={(default:aR)with scope:=sc}) N.scope];exact hw) (ar (nJ (ar ?_))))) (O.length.symm▸hs.1);rw[show(ks.map C.nm).length =Vs.toArray.size by rw[aP,<-hs.2,<-O.length,dH]];refine wpAny_unpackItems_tuple hA.handled (p5 (dM _ rfl)) λh' hx=>ar ?_;have Y:∀b o,t1.heap.get? b=some o->h'.get? b=some o:=λb o e=>zS hx b o (dk _ _ b o e);have g:=g1.trans (Go.keeps (t:=t1.toks) Y);rw[<-Qa,br];exact bindAll (λk m=>hk k (Bp.mp m)) (N.go g) (R1.keeps Y) O.reverse (h.map.mono λF1 h s' g' N' R'=>aU (h _ _ _ (g.own.trans g') N' R' rfl))
end
section
variable{C:Cfg}{n:Nat}{sc:bc}
noncomputable def Got(C:Cfg)(A:bg)(o i:af)(Q:af->ah->Prop)(E:af->ah->Prop)(s:ah):Prop:=
 ∃T id,typeLookup (.type T) "__getitem__"=pure (some (.builtin id))/\s.TypeIs o T/\wpAny (model C.prog C.w) A (getItem o i) Q E s
theorem zP{A:bg}{env:aR}{value slice:aJ}{pos:bM}{Q:af->ah->Prop}{E:af->ah->Prop}{s:ah}(O:∀o i,∃vs,subscripted slice false o i=operate vs (getItem o i))
 (h:wpAny (model C.prog C.w) A (eval value env) (λo s1=>wpAny (model C.prog C.w) A (eval slice env) (λi s2=>Got C A o i Q E s2) E s1) E s):
 wpAny (model C.prog C.w) A (eval (.Subscript value slice pos) env) Q E s:=by
 rw[eval_Subscript];refine ar (e8 h (λo s₁ h₁=>ar (mi (e8 h₁ (λi R J=>ar (qt ?_)) λ_ _ x=>x))) λ_ _ x=>x);refine fH J λT id hl S hg=>?_;refine ar ?_;rw[getitemInPython_of_ne S.not_modules];refine ar (nK S hl ?_);refine bO (O o i) λvs hv=>?_;refine aU ?_;rw[hv];exact ar (wpAny_operating (e8 hg (λr U N=>ar (wpAny_letTemporaryGo (aU N))) λ_ _ x=>x))
noncomputable def fits63(k:Int):Bool:=decide (-(2^63)<=k)&&decide (k<2^63)
noncomputable def Jo(a:AV)(k:Int)(st:St):Option (AV×St):=a.s?.bind λx=>((seqIndex? k x.length).bind (x.cps[·]?)).map λc=>(.str ⟨#[c]⟩,st)
noncomputable def JC(a:AV)(k:Int)(st:St):Option (AV×St):=a.r?.bind λl=>(bF st l).bind λxs=>(seqIndex? k xs.length).bind λj=>(xs[j]?).map (·,st)
noncomputable def WH(a:AV)(k:Int)(st:St):Option (AV×St):=a.r?.bind λl=>(eo st l).bind λxs=>(seqIndex? k xs.length).bind λj=>(xs[j]?).map (·,st)
noncomputable def kQ(a i:AV)(st:St):Option (AV×St):=i.i?.bind λk=>if fits63 k then(Jo a k st).or ((JC a k st).or (WH a k st))else none
theorem ML{k:Int}(h:fits63 k=true):-(2^63)<=k/\k<2^63:=by
 unfold fits63 at h;rw[gH]at h;exact⟨of_decide_eq_true h.1,of_decide_eq_true h.2⟩
theorem Kg{A:bg}{l:ak}{items:Array af}{k:Int}{t:Tok}{j:Nat}{x:af}{Q:af->ah->Prop}{E:af->ah->Prop}{s:ah}(hl:s.heap.IsList l items)(hk:-(2^63)<=k/\k<2^63)
 (J:seqIndex? k items.size=some j)(N:items[j]?=some x)(h:Q x s):wpAny (model C.prog C.w) A (getItem (.ref l) (.int k t)) Q E s:=by
 unfold seqIndex? at J;by_cases h0:k<0
 ·rw[if_pos h0]at J
  obtain⟨hb,J⟩:=uT J;rw[gH]at hb;exact wpAny_getItem_list_neg hl h0 (by have:=of_decide_eq_true hb.1;exact Int.le_of_sub_nonneg ((Int.sub_neg k _).symm ▸of_decide_eq_true hb.1)) hk.1 (J▸N) h
 ·rw[if_neg h0]at J
  exact wpAny_getItem_list hl (h_.mp h0) hk.2 ((uT J).2▸N) h
theorem Mx{A:bg}{ρ:aD}{st:St}{s:ah}{a i:AV}{va vi:af}{Q:af->ah->Prop}{E:af->ah->Prop}(R:Rel C ρ st s.heap)(N:RelV ρ a va)(ri:RelV ρ i vi)(h:Ok (kQ a i st) (Res C ρ s Q)):
 Got C A va vi Q E s:=ri.i h.bind λk u h=>by
 obtain⟨hf,h⟩:=h.ite;have hk:=ML hf;refine h.or.elim (λh=>N.s h.bind λx t h=>?_) λh=>h.or.elim (λh=>N.r h.bind λl la O h=>R.l O h.bind λxs vs _ hl J h=>h.bind.some λj S h=>h.map.some λx U h=>?_) λh=>N.r h.bind λl la O h=>R.t O h.bind λxs vs _ hl J h=>h.bind.some λj S h=>h.map.some λx U h=>?_
 ·exact h.map.some λc hc h=>⟨"str",_,Qu.lookup,qf _ _ _,P.getItem_str (by rw[Hu];exact⟨decide_eq_false (h_.mpr hk.1),decide_eq_false (ug.mpr hk.2)⟩) hc (h _ _ _ (.toks _) R ⟨_,rfl⟩)⟩
 ·refine aG (J.get U) λX Y rX=>?_
  exact⟨"list",_,Hf.lookup,hl.elim λ_ e=>⟨_,e,rfl⟩,Kg (fB hl) hk (by rw[dH,J.length];exact S) (nT Y) (h _ _ _ .refl R rX)⟩
 ·refine aG (J.get U) λX Y rX=>?_
  exact⟨"tuple",_,ZI.lookup,⟨_,hl,rfl⟩,getItem_tuple (p5 hl) hk.1 hk.2 (by rw[dH,J.length];exact S) (nT Y) (h _ _ _ .refl R rX)⟩
noncomputable def aH(f g:EM):EM:=ay kQ f g
theorem cu{value slice:aJ}{pos:bM}{f g:EM}(hv:bR C n sc value f)(hi:bR C n sc slice g)(J:∀o i,∃vs,subscripted slice false o i=operate vs (getItem o i)):
 bR C n sc (.Subscript value slice pos) (aH f g):=by
 exact KE.s λ{A env F ρ st s Q E} hA N R h=>zP J (hv.k hA N R (h.bind.mono λp h Va O t1 g1 S U=>hi.k hA (N.go g1) S (h.bind.mono λq h Vb bA t2 g2 Y r2=>Mx Y (U.mono g2.pre) r2 (h.mono λr k=>k.step (g1.trans g2)))))
structure pK(C:Cfg)(n:Nat)(sc:bc)(e:Option aJ)(f:aj->St->Option (Option Int×St)):Prop where
 u:∀{A env F ρ st s Q E},bN n A->a8 C sc ρ F env s.heap->Rel C ρ st s.heap->Ok (f F st) (λp=>∀V aq s',Go No ρ s aq s'->Rel C aq p.2 s'.heap->wQ V p.1->Q V s')->wpAny (model C.prog C.w) A (evalPart e env) Q E s
noncomputable def bb:aj->St->Option (Option Int×St):=λ_ st=>some (none,st)
noncomputable def bY(f:EM):aj->St->Option (Option Int×St):=λF st=>(f F st).bind λp=>p.1.i?.map λi=>(some i,p.2)
theorem dt:pK C n sc none bb:=⟨λhA N R h=>wpAny_evalPart_none (h _ _ _ .refl R .none)⟩
theorem eZ{e:aJ}{f:EM}(he:bR C n sc e f):pK C n sc (some e) (bY f):=⟨λhA N R h=>
 wpAny_evalPart_some (he.k hA N R (h.bind.mono λp h V J t1 g1 O S=>S.i h.map λx t h=>h _ J t1 g1 O (.int _ _)))⟩
noncomputable def pick{α:Type}(xs:List α)(lo hi st:Option Int):List α:=
 (sliceRange (sliceBounds lo hi st xs.length).1 (sliceBounds lo hi st xs.length).2.1 (sliceBounds lo hi st xs.length).2.2).filterMap (xs[·]?)
theorem bu.pick{ρ:aD}{xs:List AV}{vs:List af}(h:bu ρ xs vs)(lo hi st:Option Int):bu ρ (Mine.pick xs lo hi st) (Mine.pick vs lo hi st):=by
 unfold Mine.pick;rw[h.length];generalize sliceRange _ _ _=is;induction is with
 |nil=>exact .nil
 |cons i is J=>
  cases q:xs[i]? with
  |none=>rw[M_ q,M_ (uP.mpr (h.length.symm▸uP.mp q))];exact J
  |some x=>exact(h.get q).elim λX N=>by rw[Pw q,Pw N.1];exact .cons N.2 J
noncomputable def XG(a:AV)(lo hi step:Option Int)(st:St):Option (AV×St):=a.s?.bind λx=>if x.length<=sizeLine/\step=none then some (.str (iR x lo hi),st)else none
noncomputable def XU(a:AV)(lo hi step:Option Int)(st:St):Option (AV×St):=a.r?.bind λl=>(bF st l).bind λxs=>if xs.length<=sizeLine/\step≠some 0 then some (.ref st.length,st++[.list (pick xs lo hi step)])else none
noncomputable def sM(a:AV)(lo hi step:Option Int)(st:St):Option (AV×St):=(XG a lo hi step st).or (XU a lo hi step st)
noncomputable def cH(f:EM)(lo hi step:aj->St->Option (Option Int×St)):EM:=λF st=>(f F st).bind λp=>(lo F p.2).bind λa=>(hi F a.2).bind λb=>(step F b.2).bind λc=>sM p.1 a.1 b.1 c.1 c.2
theorem ES{v:af}{i:Option Int}(h:wQ v i):∃p:Option (Int×Tok),v=partValue p/\p.map (·.1)=i:=by
 cases h with
 |none=>exact⟨none,rfl,rfl⟩
 |int i t=>exact⟨some (i,t),rfl,rfl⟩
theorem Ec{ρ:aD}{st:St}{s:ah}{V1 V2 V3:af}(R:Rel C ρ st s.heap):(s.heap.push {cls:=.type "slice",data:=.fields #[V1,V2,V3]}).get? s.heap.objs.size=some {cls:=.type "slice",data:=.fields #[V1,V2,V3]}/\
 Go No ρ s ρ {s with heap:=s.heap.push {cls:=.type "slice",data:=.fields #[V1,V2,V3]}}/\Rel C ρ st (s.heap.push {cls:=.type "slice",data:=.fields #[V1,V2,V3]}):=
 have J:=dk s.heap {cls:=.type "slice",data:=.fields #[V1,V2,V3]}
 ⟨dM s.heap rfl,Go.keeps (t:=s.toks) J,R.keeps J⟩
theorem SU{A:bg}{ρ:aD}{st:St}{s:ah}{a:AV}{S V1 V2 V3:af}{i1 i2 N:Option Int}{sl:ak}{Q:af->ah->Prop}{E:af->ah->Prop}(R:Rel C ρ st s.heap)(U:RelV ρ a S)
 (hs:s.heap.get? sl=some {cls:=.type "slice",data:=.fields #[V1,V2,V3]})(p1:wQ V1 i1)(p2:wQ V2 i2)(Y:wQ V3 N)(h:Ok (sM a i1 i2 N st) (Res C ρ s Q)):Got C A S (.ref sl) Q E s:=by
 refine h.or.elim (λh=>U.s h.bind λx t h=>?_) λh=>U.r h.bind λl la ha h=>R.l ha h.bind λxs vs _ hl rv h=>?_
 ·obtain⟨⟨O,e0⟩,k⟩:=h.ite
  subst e0;refine aG (ES p1) λq1 J w1=>?_;subst J;refine aG (ES p2) λq2 J w2=>?_;subst J;cases Y
  refine⟨"str",_,Qu.lookup,qf _ _ _,wpAny_getItem_str_slice (l:=q1) (u:=q2) (st:=none) ⟨_,hs,rfl,rfl⟩ rfl ?_⟩;have e:sliceMade x t q1 q2 none=if((1:Int)==1&&(Y2 i1 i2 1 x.length).length ==x.length)=true then QS (.str x t)else FE (iR x i1 i2):=by
   unfold sliceMade iR slicePicked;rw[w1,w2];simp only[Option.map_none,xr];split<;>rfl
  rw[e];split
  ·next hc=>exact(show iR x i1 i2=x from if_pos hc)▸k _ ρ _ .refl R ⟨_,rfl⟩
  ·exact⟨aw (Txt.slice_le x i1 i2) O,k _ ρ _ (.toks _) R ⟨_,rfl⟩⟩
 ·obtain⟨O,h⟩:=h.ite
  refine⟨"list",_,Hf.lookup,hl.elim λ_ e=>⟨_,e,rfl⟩,Og (fB hl) ⟨_,hs,rfl,rfl⟩ p1 p2 Y O.2 ?_ (by rw[dH,rv.length];exact O.1)⟩;rw[show slicePick vs.toArray i1 i2 N=(Mine.pick vs i1 i2 N).toArray by unfold slicePick Mine.pick;simp];refine de (ro (C:=C) (s:=s) R (rv.pick i1 i2 N)) λR' r' g'=>?_;exact h _ _ _ g' R' r'
theorem gV{value:aJ}{lower upper step:Option aJ}{p pos:bM}{f:EM}{lo hi O}(hv:bR C n sc value f)(h1:pK C n sc lower lo)(h2:pK C n sc upper hi)(h3:pK C n sc step O)
 (J:∀o i,∃vs,subscripted (.Slice lower upper step p) false o i=operate vs (getItem o i)):
 bR C n sc (.Subscript value (.Slice lower upper step p) pos) (cH f lo hi O):=by
 exact KE.s λ{A env F ρ st s Q E} hA N R h=>zP J (hv.k hA N R (h.bind.mono λp h Va U t1 g1 Y r1=>Nb (h1.u hA (N.go g1) Y (h.bind.mono λa h V1 bA t2 g2 R2 p1=>h2.u hA (N.go (g1.trans g2)) R2 (h.bind.mono λb h V2 Z4 t3 g3 R3 p2=>
  h3.u hA (N.go ((g1.trans g2).trans g3)) R3 (h.bind.mono λc h V3 Z5 t4 S R4 p3=>have q:=Ec (C:=C) R4;SU q.2.2 (((r1.mono g2.pre).mono g3.pre).mono S.pre) q.1 p1 p2 p3 (h.mono λr k=>k.step ((((g1.trans g2).trans g3).trans S).trans q.2.1))))))))
end
noncomputable def gO(C:Cfg)(name:ae)(f:af)(rs:AV->St->Option (List AV)):Prop:=
 ∀A ρ st s a J first Q E pl,Rel C ρ st s.heap->RelV ρ a J->rs a st=some first->
  (∀N s',Go No ρ s ρ s'->Rel C ρ st s'.heap->bu ρ first N->Q (f,N) s')->wpAny (model C.prog C.w) A (getMethod J name pl) Q E s
noncomputable def KR(C:Cfg)(name:ae)(f:af)(rs:AV->St->Option (List AV)):Prop:=
 ∀{A ρ st s a J Q E pl},Rel C ρ st s.heap->RelV ρ a J->Ok (rs a st) (λfirst=>∀N s',Go No ρ s ρ s'->Rel C ρ st s'.heap->bu ρ first N->Q (f,N) s')->wpAny (model C.prog C.w) A (getMethod J name pl) Q E s
theorem gO.k{C:Cfg}{name:ae}{f:af}{rs}(h:gO C name f rs):KR C name f rs:=λR r o=>o.some λp e K=>h _ _ _ _ _ _ p _ _ _ R r e K
theorem KR.s{C:Cfg}{name:ae}{f:af}{rs}(h:KR C name f rs):gO C name f rs:=λ_ _ _ _ _ _ _ _ _ _ R r e K=>h R r (Ok.of e K)
section
variable{C:Cfg}{n:Nat}{sc:bc}
noncomputable def bU(rs:AV->St->Option (List AV))(g:List AV->St->Option (AV×St))(J:EM)(fa:aj->St->Option (List AV×St)):EM:=
 λF st=>(J F st).bind λp=>(rs p.1 p.2).bind λfirst=>(fa F p.2).bind λq=>g (first++q.1) q.2
theorem Plain.Ym{es:List aJ}(h:Plain es)(hl:es.length<29)(pos:bM)(env:aR):methodCallForm (es.length+([]:List Keyword).length) (backTo pos (starEach es env)) (backToKw pos (keywordEach [] env))=true:=by
 unfold methodCallForm;have h1:(backTo pos (starEach es env)).all (λx=>!x.1)=true:=by
  have:=h.any pos env;rw[List.all_eq_not_any_not];simp only[N_];rw[this];rfl
 have e:keywordEach [] env=[]:=rfl;rw[h1,e];exact decide_eq_true (show es.length<30 from sf hl)
theorem dP{o:aJ}{name:ae}{apos pos:bM}{args:List aJ}{f:af}{rs g S fa}(ho:bR C n sc o S)(hr:gO C name f rs)(U:Plain args)(hk:ik C f)(Y:ip C n sc args fa)(hc:eO C n f g)
 (J:∀env,attributeBase o name env (eval o env)=eval o env)(O:(apos.endLine==pos.line)=true)(hl:args.length<29):
 bR C n sc (.Call (.Attribute o name apos) args [] pos) (bU rs g S fa):=by
 exact KE.s λ{A env F ρ st s Q E} hA N R h=>by
  rw[arm_eval_Call,J];refine ar (ho.k hA N R (h.bind.mono λp h V Z4 t1 g1 R1 r1=>ar (qt ?_)));unfold methodCall;rw[U.Ym hl pos env];refine ar (mi (hr.k R1 r1 (h.bind.mono λfirst h Vf t2 g2 R2 r2=>ar (d9 (by unfold methodCallPos;rw[O];rfl) ?_))));exact h.bind.some λq e h=>p0 hA (N.go (g1.trans g2)) R2 U hk Y e λvs Z5 t3 g3 R3 r3=>hc.k hA R3 ((r2.mono g3.pre).append r3) (h.mono λr k=>k.step ((g1.trans g2).trans g3))
noncomputable def ek(a:AV)(st:St):Option (List AV):=a.r?.bind λl=>(bF st l).map λ_=>[a]
noncomputable def jo(a:AV)(_:St):Option (List AV):=a.s?.map λ_=>[a]
theorem nN{name:ae}{id:String}(slot:qb "list" name id)(J:typeOf (.builtin id)=pure (.type "method_descriptor")):gO C name (.builtin id) ek:=KR.s λR r h=>r.rr h.bind λl O N r h=>R.l N h.map λxs vs _ hl _ h=>hl.elim λ_ hl=>
 AY (T:="list") ⟨_,hl,rfl⟩ ZC slot J (λa e=>by cases e;exact⟨_,hl,rfl⟩) (h _ _ .refl R (.cons r .nil))
theorem o9{name:ae}{id:String}(slot:qb "str" name id)(J:typeOf (.builtin id)=pure (.type "method_descriptor")):gO C name (.builtin id) jo:=KR.s λR r h=>r.ss h.map λx t r h=>
 AY (T:="str") (qf _ _ _) Y6 slot J nofun (h _ _ .refl R (.cons r .nil))
noncomputable def bAppend(avs:List AV)(st:St):Option (AV×St):=(a2 avs).bind λp=>p.1.r?.bind λl=>(bF st l).bind λxs=>if xs.length<=sizeLine then some (.none,st.set l (.list (xs++[p.2])))else none
theorem rL:eO C n (.builtin "list.append") bAppend:=KC.s λ{A ρ st s avs vs Q E} hA R Y h=>Y.a2 h.bind λa Va b V ra rb h=>ra.r h.bind λl U O h=>R.l O h.bind λxs ws _ hl J h=>by
 obtain⟨hs,h⟩:=h.ite;refine OY hl (λh' N S=>?_) (by rw[dH,J.length];exact hs);have k:∀b x,b≠U->s.heap.get? b=some x->h'.get? b=some x:=λb x ne e=>(S.2 b ne).trans e;have alive:∃x,h'.get? U=some x:=N.elim λ_ e=>⟨_,e⟩;exact h _ ρ _ (Go.put (t:=s.toks) O k alive) (R.put O k alive ⟨ws++[V],Qn ..▸N,J.append (.cons rb .nil)⟩) rfl
end
section
variable{C:Cfg}{n:Nat}{sc:bc}
noncomputable def intsOf(xs:List AV):Option (List Int):=xZ (some []) (λx _ r=>x.i?.bind λi=>r.map (i::·)) xs
theorem Hj{ρ:aD}{xs:List AV}{vs:List af}(r:bu ρ xs vs):∀{P:List Int->Prop},Ok (intsOf xs) P->∃ps:List (Int×Tok),vs=ps.map (λp=>.int p.1 p.2)/\P (ps.map (·.1)):=by
 induction r with
 |nil=>exactλh=>⟨[],rfl,h⟩
 |@cons x v xs ws a b J=>exactλ{P} h=>a.i (M:=λV=>∃ps:List (Int×Tok),V::ws=ps.map (λp:Int×Tok=>bV p.1 p.2)/\P (ps.map λp:Int×Tok=>p.1)) (Ok.bind h) λx t h=>(J (Ok.map h)).elim λps e=>⟨(x,t)::ps,congrArg _ e.1,e.2⟩
noncomputable def iv(avs:List AV)(st:St):Option (AV×St):=(a1 avs).bind λa=>(a.s?.bind λx=>if x.length<=sizeLine then some (.int x.length,st)else none).or (a.r?.bind λl=>(bF st l).bind λxs=>if xs.length<=sizeLine then some (.int xs.length,st)else none)
theorem px:eO C n (.builtin "len") iv:=KC.s λ{A ρ st s avs vs Q E} hA R N h=>N.a1 h.bind λa V r h=>h.or.elim
 (λh=>r.s h.bind λx t h=>P.len_str (ug.mpr (y5 h.ite.1)) (h.ite.2 _ ρ _ (.toks _) R ⟨_,rfl⟩))
 λh=>r.r h.bind λl S O h=>R.l O h.bind λxs ws _ hl J h=>by
  refine Zf (fB hl) ?_ ?_<;>rw[dH,J.length]
  ·exact y5 h.ite.1
  ·exact h.ite.2 _ ρ _ (.toks _) R ⟨_,rfl⟩
noncomputable def fM(avs:List AV)(st:St):Option (AV×St):=(a1 avs).bind λa=>a.r?.bind λl=>(bF st l).bind λxs=>(intsOf xs).map λns=>(.int ns.sum,st)
theorem sL:eO C n (.builtin "sum") fM:=KC.s λ{A ρ st s avs vs Q E} hA R S h=>S.a1 h.bind λa V r h=>r.r h.bind λl Y U h=>R.l U h.bind λxs ws _ hl N h=>by
 refine aG (Hj N h.map) λps O h=>?_;subst O;have J:=fB hl;rw[show(ps.map λp=>bV p.1 p.2).toArray =intItems ps.toArray by unfold intItems;rw[NS]]at J;refine sum_intListG hA.handled J λh' tk t' k=>?_;rw[preSum_eq,show An ps.toArray.size (xD (λx=>x.fst) ps.toArray.toList)=ps.map (·.1)from kv (bS (aP _))];exact h _ ρ _ (.keeps k) (R.keeps k) ⟨_,rfl⟩
noncomputable def vZ(avs:List AV)(st:St):Option (AV×St):=(a1 avs).bind λa=>a.s?.bind λx=>if x.length=1 then some (.int (x.cps.getD 0 0:Nat),st)else none
theorem Td:eO C n (.builtin "ord") vZ:=KC.s λ{A ρ st s avs vs Q E} hA R J h=>J.a1 h.bind λa V r h=>r.s h.bind λx t h=>ord_of_one h.ite.1 (h.ite.2 _ ρ _ (.toks _) R ⟨_,rfl⟩)
noncomputable def tC(avs:List AV)(st:St):Option (AV×St):=(a1 avs).bind λa=>a.i?.bind λi=>if(decide (i<0)||decide (i>0x10FFFF))=false then some (.str ⟨#[i.toNat]⟩,st)else none
theorem Cp:eO C n (.builtin "chr") tC:=KC.s λ{A ρ st s avs vs Q E} hA R J h=>J.a1 h.bind λa V r h=>r.i h.bind λx t h=>P.chr_of_int h.ite.1 (h.ite.2 _ ρ _ (.toks _) R ⟨_,rfl⟩)
end
open PySem.SeqAt
section
variable{C:Cfg}{n:Nat}{sc:bc}
noncomputable def qZ(avs:List AV)(st:St):Option (AV×St):=(a2 avs).bind λp=>p.1.r?.bind λl=>p.2.i?.bind λi=>(bF st l).bind λxs=>if xs.length<=sizeLine/\AD i=true then(seqIndex? i xs.length).bind λk=>(xs[k]?).map λv=>(v,st.set l (.list (xs.eraseIdx k)))else none
theorem KG{ρ:aD}{xs:List AV}{vs:List af}(h:bu ρ xs vs):∀k,bu ρ (xs.eraseIdx k) (vs.eraseIdx k):=by
 induction h with
 |nil=>exactλ_=>.nil
 |cons a b J=>exactλk=>Nat.casesOn k b λk=>.cons a (J k)
theorem Hc{ρ:aD}{st:St}{s:ah}{l:Nat}{J:ak}{xs:List AV}{ws:List af}{m k:Nat}{t:Nat}(R:Rel C ρ st s.heap)(S:ρ[l]?=some J)
 (hl:s.heap.get? J=some {cls:=.type "list",dict:=none,data:=.seq ws.toArray m,slots:=#[]})(O:bu ρ xs ws):
 Rel C ρ (st.set l (.list (xs.eraseIdx k))) (s.heap.update J (gZ λxs=>xs.eraseIdxIfInBounds k))/\Go No ρ s ρ {s with heap:=s.heap.update J (gZ λxs=>xs.eraseIdxIfInBounds k),toks:=t}:=by
 have U:∀b x,b≠J->s.heap.get? b=some x->(s.heap.update J (gZ λxs=>xs.eraseIdxIfInBounds k)).get? b=some x:=λb x ne e=>by
  rw[lE _ _ _ _ ne];exact e
 obtain⟨ep,N⟩:∃ep,(s.heap.update J (gZ λxs=>xs.eraseIdxIfInBounds k)).get? J=some {cls:=.type "list",dict:=none,data:=.seq (ws.toArray.eraseIdxIfInBounds k) ep,slots:=#[]}:=
  ⟨_,r8 hl _⟩
 refine⟨R.put S U ⟨_,N⟩ ⟨ws.eraseIdx k,⟨ep,?_⟩,KG O k⟩,Go.put S U ⟨_,N⟩⟩
 have:(ws.toArray.eraseIdxIfInBounds k)=(ws.eraseIdx k).toArray :=by simp
 rw[this]at N;exact N
theorem IJ:eO C n (.builtin "list.pop") qZ:=KC.s λ{A ρ st s avs vs Q E} hA R O h=>O.a2 h.bind λa Va b Vb S U h=>S.r h.bind λl Y N h=>U.i h.bind λi u h=>R.l N h.bind λxs ws _ hl J h=>by
 obtain⟨hs,h⟩:=h.ite;refine bO hl λm hl=>?_;refine h.bind.some λk hk h=>h.map.some λx hx h=>?_;refine aG (J.get hx) λX hX rX=>?_;obtain⟨R',g'⟩:=Hc (t:=s.toks) (k:=k) R N hl J;exact qw Fn ⟨_,hl,rfl⟩ YZ (Zx _ _)
  (Zw Y ws.toArray m i u k X hs.2 (by rw[dH,J.length];exact hk) (nT hX) (by rw[dH,J.length];exact hs.1)) ⟨hl,h _ ρ _ g' R' rX⟩
noncomputable def bIndex(avs:List AV)(st:St):Option (AV×St):=(a2 avs).bind λp=>p.1.r?.bind λl=>(bF st l).bind λxs=>(xs.mapM (fc st 3)).bind λds=>(fc st 3 p.2).bind λd=>if eu ds&&d.canLay0&&decide (dW ds<=50)&&decide (ds.length<=sizeLine)then
 (ds.findIdx? λy=>c6 y d).map λ(j:Nat)=>(AV.int (j:Int),st)else none
theorem readsAll_get{h:aO}{vs:List af}{ds:List aB}{as:List ak}(r:ReadsAll h vs ds as):eu ds=true->vs.length=ds.length/\∀j(J:j<vs.length),∃d,ds[j]?=some d/\readOf h vs[j]=d:=by
 induction vs generalizing ds as with
 |nil=>cases r;exactλ_=>⟨rfl,λ_ J=>absurd J (gk _)⟩
 |cons v vs N=>
  cases r with
  |@cons _ _ d ds _ _ a b=>
   intro h;have h':d.canLay0=true/\eu ds=true:=oS.mp h;obtain⟨e,g⟩:=N b h'.2;refine⟨congrArg (·+1) e,λj J=>?_⟩;cases j with
   |zero=>exact⟨d,rfl,readOf_eq h'.1 a⟩
   |succ j=>exact g j (mV J)
theorem PX:eO C n (.builtin "list.index") bIndex:=KC.s λ{A ρ st s avs vs Q E} hA R rv h=>rv.a2 h.bind λa Va b Vb ra rb h=>ra.rr h.bind λl la ha ra h=>R.l ha h.bind λxs ws ex hl Z4 h=>h.bind.some λds e1 h=>h.bind.some λd e2 h=>by
 obtain⟨hs,h⟩:=h.ite;rw[gH,gH,gH]at hs;refine bO hl λm hl=>?_;refine h.map.some λj hj h=>?_;refine bO (rJ R 3 rb e2) λbs Rb=>?_;refine bO (rJ R 4 (v:=.ref l) (r:=⟨la,ha,rfl⟩) (Au ex e1)) λas Ra=>?_;cases Ra with
 |list k1 k2 k3 k4=>
  rw[hl]at k1;cases k1
  cases k3
  obtain⟨J,gg⟩:=readsAll_get k4 hs.1.1.1;have hd:=of_decide_eq_true hs.2;refine aG (List.findIdx?_eq_some_iff_getElem.mp hj) λN O S=>?_;have U:ws.toArray.size=ds.length:=dH.trans J;refine qw PW ⟨_,hl,rfl⟩ Zb (Zd _ _)
   (Zk la ws.toArray m none #[] _ (λy=>c6 (readOf s.heap y) d) j (U▸N) (by rw[sizeLine_eq]at hd;exact uz (m5.mpr (cK N hd)) (by decide)) ?_ λq hq Y=>?_) ⟨hl,items_eqAt (by simpa using k4) Rb hs.1.1.1 hs.1.1.2 (D4 hA hs.1.2),h _ ρ _ (.toks _) R ⟨_,rfl⟩⟩
  ·refine aG (gg j (J▸N)) λd' e' r=>?_
   exact(congrArg (c6 · d) (r.trans (fX.mp e').2.symm)).trans O
  ·refine aG (gg q (dH▸hq)) λd' e' r=>?_
   exact(congrArg (c6 · d) (r.trans (fX.mp e').2.symm)).trans (Bool.eq_false_iff.mpr (S q Y))
end
end Mine
namespace Mine
open PySem PyProof.Rows PySem.W PySem.Builtin.Str
section
variable{C:Cfg}{n:Nat}{sc:bc}
noncomputable def strsOf(xs:List AV):Option (List ae):=xZ (some []) (λx _ r=>x.s?.bind λi=>r.map (i::·)) xs
theorem OF{ρ:aD}{xs:List AV}{vs:List af}(r:bu ρ xs vs):∀{P:List ae->Prop},Ok (strsOf xs) P->∃ps:List (ae×Tok),vs=strValues ps/\P (ps.map (·.1)):=by
 induction r with
 |nil=>exactλh=>⟨[],rfl,h⟩
 |@cons x v xs ws a b J=>exactλ{P} h=>a.s (M:=λV=>∃ps:List (ae×Tok),V::ws=strValues ps/\P (ps.map λp:ae×Tok=>p.1)) (Ok.bind h) λx t h=>(J (Ok.map h)).elim λps e=>⟨(x,t)::ps,congrArg _ e.1,e.2⟩
theorem K4{ρ:aD}:∀ps:List (ae×Tok),bu ρ ((ps.map (·.1)).map AV.str) (strValues ps):=by
 intro ps;induction ps with
 |nil=>
  exact .nil
 |cons J r N=>
  obtain⟨i,t⟩:=J;exact .cons ⟨t,rfl⟩ (N)
noncomputable def uQ(avs:List AV)(st:St):Option (AV×St):=(a2 avs).bind λp=>p.1.s?.bind λx=>p.2.s?.map λy=>(.bool (wV x y),st)
theorem Ml:eO C n (.builtin "str.startswith") uQ:=KC.s λ{A ρ st s avs vs Q E} hA R J h=>J.a2 h.bind λa S b U N O h=>N.s h.bind λx t h=>O.s h.map λy u h=>SC.startswith (h _ ρ _ .refl R rfl)
noncomputable def vA(avs:List AV)(st:St):Option (AV×St):=(a2 avs).bind λp=>p.1.s?.bind λx=>p.2.s?.map λy=>(.bool (wL x y),st)
theorem TX:eO C n (.builtin "str.endswith") vA:=KC.s λ{A ρ st s avs vs Q E} hA R J h=>J.a2 h.bind λa S b U N O h=>N.s h.bind λx t h=>O.s h.map λy u h=>SC.endswith (h _ ρ _ .refl R rfl)
noncomputable def th(x y:ae)(i j:Int):Int:=match occurrences x y (fromIndex x.length i) (min (fromIndex x.length j) x.length) 1 with|k::_=>(k:Int)|[]=>-1
theorem KN(x y:ae)(i j:Int)(t u v z:Tok):Gives (Builtin.«str.find» ⟨[.str x t,.str y u,.int i v,.int j z],[]⟩) (.int (th x y i j)):=by
 show Gives (match occurrences x y (fromIndex x.length i) (min (fromIndex x.length j) x.length) 1 with|k::_=>retInt k|[]=>(do rule "str.find.not-found";retInt (-1))) _;unfold th;cases occurrences x y (fromIndex x.length i) (min (fromIndex x.length j) x.length) 1 with
 |nil=>exact .rule (.of_eq rfl)
 |cons k _=>exact .of_eq rfl
noncomputable def yH(avs:List AV)(st:St):Option (AV×St):=(a4 avs).bind λp=>p.1.s?.bind λx=>p.2.1.s?.bind λy=>p.2.2.1.i?.bind λi=>p.2.2.2.i?.map λj=>(.int (th x y i j),st)
theorem TZ:eO C n (.builtin "str.find") yH:=KC.s λ{A ρ st s avs vs Q E} hA R J h=>J.a4 h.bind λa S b U c Y d Vd N O rc rd h=>N.s h.bind λx t h=>O.s h.bind λy u h=>rc.i h.bind λi p h=>rd.i h.map λj q h=>
 Q1 QH (qf _ _ _) Zz (ZU _ _ _ _) (KN _ _ _ _ t u p q) (h _ ρ _ (.toks _) R ⟨_,rfl⟩)
noncomputable def yD(avs:List AV)(st:St):Option (AV×St):=(a2 avs).bind λp=>p.1.s?.bind λx=>p.2.s?.bind λy=>if(y.length==0)=false/\x.length<=sizeLine/\(partsBetween x (occurrences x y 0 x.length (x.length+1)) y.length).length <=sizeLine then
 some (.ref st.length,st++[.list ((Bn x y).map AV.str)])else none
theorem Pz:eO C n (.builtin "str.split") yD:=KC.s λ{A ρ st s avs vs Q E} hA R N h=>N.a2 h.bind λa Va b Vb O S h=>O.s h.bind λx t h=>S.s h.bind λy u h=>by
 obtain⟨⟨J,U,Y⟩,h⟩:=h.ite;have fin:∀(ps:List (ae×Tok))(tk:Nat),ps.map (·.1)=Bn x y->Q (.ref s.heap.objs.size) {s with heap:=s.heap.push {cls:=.type "list",data:=.seq (strValues ps).toArray },toks:=tk}:=by
  intro ps tk e;rw[<-e]at h;obtain⟨R',r',g'⟩:=ro R (K4 (ρ:=ρ) ps);exact h _ _ _ (g'.trans (.toks tk)) R' r'
 cases h1:(decide (x.length<y.length)||decide (strKind x<strKind y))
 ·cases hf:(occurrences x y 0 x.length (x.length+1)).isEmpty
  ·refine qw AN (qf _ _ _) E9 (Ho _ _) (meets_str_split_sep x y t u h1 J hf U Y) ?_
   show Q _ {s with toks:=_,heap:=s.heap.push {cls:=.type "list",data:=.seq (strsFrom s.toks (partsBetween x (occurrences x y 0 x.length (x.length+1)) y.length)).toArray }};rw[strsFrom_eq];exact fin _ _ ((numbered_texts _ _).trans ((if_neg (ne_true_of_eq_false h1)).trans (if_neg (ne_true_of_eq_false hf))).symm)
  ·exact qw AN (qf _ _ _) E9 (Ho _ _) (meets_str_split_not_found x y t u h1 J hf)
    (fin [(x,t)] s.toks ((if_neg (ne_true_of_eq_false h1)).trans (if_pos hf)).symm)
 ·exact qw AN (qf _ _ _) E9 (Ho _ _) (meets_str_split_cannot_occur x y t u h1)
   (fin [(x,t)] s.toks (if_pos h1).symm)
noncomputable def qU(avs:List AV)(st:St):Option (AV×St):=(a2 avs).bind λp=>p.1.s?.bind λx=>p.2.r?.bind λl=>(bF st l).bind λxs=>(strsOf xs).bind λts=>if Az x ts=true then some (.str (Bi x ts),st)else none
theorem xW:eO C n (.builtin "str.join") qU:=KC.s λ{A ρ st s avs vs Q E} hA R N h=>N.a2 h.bind λa Y b Vb O S h=>O.s h.bind λx t h=>S.r h.bind λl la U h=>R.l U h.bind λxs ws _ hl J h=>by
 obtain⟨ps,rfl,h⟩:=OF J h.bind;exact SC.join (fB hl) rfl h.ite.1 λt' k=>h.ite.2 _ ρ _ (.toks k) R ⟨_,rfl⟩
noncomputable def oC(f g:EM):SM:=λF st=>(f F st).bind λp=>(g F p.2).bind λq=>p.1.r?.bind λl=>q.1.i?.bind λi=>(bF q.2 l).bind λxs=>if xs.length<=sizeLine/\AD i=true then(seqIndex? i xs.length).map λk=>(.next,F,q.2.set l (.list (xs.eraseIdx k)))else none
theorem Hz{o i:aJ}{p pos:bM}{f g:EM}(ho:bR C n sc o f)(hi:bR C n sc i g):cA C n sc 0 (.Delete [.Subscript o i p] pos) (oC f g):=KX.s λ{A env F ρ st s Q E} hA _ N R h=>
 PySem.wpAny_Delete (PySem.wpAny_deleteEach_cons (PySem.wpAny_delete_Subscript (ho.k hA N R (h.bind.mono λp h Va Y t1 g1 R1 r1=>hi.k hA (N.go g1) R1 (h.bind.mono λq h Vb bA t2 g2 O r2=>(r1.mono g2.pre).r h.bind λl la S h=>r2.i h.bind λi u h=>O.l S h.bind λxs ws _ hl J h=>by
  obtain⟨hs,h⟩:=h.ite;refine bO hl λm hl=>?_;refine h.map.some λk hk h=>?_;obtain⟨R',U⟩:=Hc (t:=t2.toks) (k:=k) O S hl J;exact P.delItem_list hl hs.2 (k:=k) (by rw[dH,J.length];exact hk) (PySem.wpAny_deleteEach_nil (h .next bA _ (((g1.trans g2).trans U).weak λ_ h=>h.elim) (N.go ((g1.trans g2).trans U)) R' rfl)) (by rw[dH,J.length];exact hs.1))))))
end
section
variable{C:Cfg}{n:Nat}{sc:bc}
theorem Go.back{X:ak->Prop}{ρ aq:aD}{s s':ah}(g:Go X ρ s aq s'){a:ak}(h:s'.heap.get? a=none):s.heap.get? a=none:=by
 cases q:s.heap.get? a with
 |none=>rfl
 |some o=>refine bO (g.alive a o q) λo' e=>?_;rw[h]at e;cases e
noncomputable def nu(a:AV)(st:St):Option It:=(a.s?.map λx=>.str x 0).or ((a.r?.bind λl=>(bF st l).map λ_=>.list l 0).or (a.r?.bind λl=>(eo st l).map λ_=>.tup l 0))
theorem fz{α:Type}{P:α->Prop}:∀x∈([]:List α),P x:=λ_ h=>absurd h a6
theorem dp{α:Type}{P:α->Prop}{a:α}{l:List α}(p:P a)(q:∀x∈l,P x):∀x∈a::l,P x:=bt.mpr ⟨p,q⟩
theorem len0{α:Type}{P:List α->Prop}(h:P []):∀l:List α,l.length=0->P l:=λl e=>Bx.mp e▸h
theorem qY{α:Type}{P:List α->Prop}(h:∀a,P [a]):∀l:List α,l.length=1->P l:=λl e=>by
 cases l with
 |nil=>exact nomatch e
 |cons a l=>exact len0 (P:=λl=>P (a::l)) (h a) l (ux e)
theorem tv{α:Type}{P:List α->Prop}(h:∀a b,P [a,b]):∀l:List α,l.length=2->P l:=λl e=>by
 cases l with
 |nil=>exact nomatch e
 |cons a l=>exact qY (P:=λl=>P (a::l)) (h a) l (ux e)
theorem j9(h:aO)(j:Nat):h.get? (h.objs.size+j)=none:=by
 cases q:h.get? (h.objs.size+j)with
 |none=>rfl
 |some o=>exact absurd (j3 q) (iH.mpr (c8 _ _))
theorem nq.step{ρ J:aD}{s s1:ah}{Q:af->ah->Prop}{p:It×St}(g:Go No ρ s J s1)(h:nq C n ρ s Q p):nq C n J s1 Q p:=
 λI fp aq s' N R hi O hf hs=>h I fp aq s' (g.trans N) R hi O (λa m=>g.back (hf a m)) hs
theorem nq.new{ρ:aD}{st:St}{s:ah}{h':aO}{t I:Nat}{fp:List ak}{it:It}{Q:af->ah->Prop}(R:Rel C ρ st s.heap)(h:nq C n ρ s Q (it,st))(k:∀b o,s.heap.get? b=some o->h'.get? b=some o)
 (hi:fO C n ρ h' fp I it)(hf:∀a∈fp,s.heap.get? a=none)(ho:∀a∈fp,∃o,h'.get? a=some o)(hs:Ci C h' I):Q (.ref I) {s with heap:=h',toks:=t}:=
 h I fp ρ {s with heap:=h',toks:=t} (.keeps k) (R.keeps k) hi (λa m=>⟨R.fh (hf a m),R.iB (hf a m),ho a m⟩) hf hs
theorem RH{A:bg}{ρ:aD}{st:St}{s:ah}{a:AV}{S:af}{Q:af->ah->Prop}{E:af->ah->Prop}(R:Rel C ρ st s.heap)(r:RelV ρ a S)(h:Ok (nu a st) λit=>nq C n ρ s Q (it,st)):
 wpAny (model C.prog C.w) A (pyIter S) Q E s:=by
 have one:∀{it:It}(o:iK),nq C n ρ s Q (it,st)->o.isFreed=false->fO C n ρ (s.heap.push o) [s.heap.objs.size] s.heap.objs.size it->Ci C (s.heap.push o) s.heap.objs.size->Q (.ref s.heap.objs.size) {s with heap:=s.heap.push o}:=λo h hf hi hs=>
  h.new (t:=s.toks) R (dk _ _) hi (dp (j9 s.heap 0) fz) (dp ⟨_,dM _ hf⟩ fz) hs
 refine h.or.elim (λh=>r.s h.map λx t h=>?_) λh=>h.or.elim (λh=>r.r h.bind λl J N h=>R.l N h.map λxs ws _ hl _ h=>?_) λh=>r.r h.bind λl J N h=>R.t N h.map λxs ws _ hl _ h=>?_
 ·cases O:x.cps.all (·<128)
  ·have ht:strIterType x="str_iterator":=by unfold strIterType;rw[O];rfl
   exact wpAny_pyIter_wide O (one _ h rfl ⟨rfl,t,_,dM _ rfl,by rw[ht],rfl⟩ λA s' Q E k q=>wpAny_pyIter_striter_wide (i:=0) (x:=x) (t:=t) ⟨_,k _ _ (dM _ rfl),rfl,rfl⟩ q)
  ·have ht:strIterType x="str_ascii_iterator":=by unfold strIterType;rw[O];rfl
   exact wpAny_pyIter_ascii O (one _ h rfl ⟨rfl,t,_,dM _ rfl,by rw[ht],rfl⟩ λA s' Q E k q=>wpAny_pyIter_striter_ascii (i:=0) (x:=x) (t:=t) ⟨_,k _ _ (dM _ rfl),rfl,rfl⟩ q)
 ·exact OZ (fB hl) (one _ h rfl ⟨rfl,J,N,_,dM _ rfl,rfl,rfl⟩ λA s' Q E k q=>A6 (i:=0) (l:=J) ⟨_,k _ _ (dM _ rfl),rfl,rfl⟩ q)
 ·exact wpAny_pyIter_tuple (p5 hl) (one _ h rfl ⟨rfl,J,N,_,dM _ rfl,rfl,rfl⟩ λA s' Q E k q=>wpAny_pyIter_tupleiter (i:=0) (t:=J) ⟨_,k _ _ (dM _ rfl),rfl,rfl⟩ q)
noncomputable def bL(f:EM):aj->St->Option (It×St):=λF st=>(f F st).bind λp=>(nu p.1 p.2).map (·,p.2)
theorem d5{e:aJ}{f:EM}(he:bR C n sc e f):mL C n sc e (bL f):=⟨λhA N R h=>he.k hA N R (h.bind.mono λp h V J t1 g1 O S=>RH O S (h.map.mono λit k=>k.step g1))⟩
noncomputable def yT(C:Cfg)(n:Nat)(f:af)(g:List AV->St->Option (It×St)):Prop:=
 ∀{A ρ st s avs vs Q E},bN n A->Rel C ρ st s.heap->bu ρ avs vs->Ok (g avs st) (nq C n ρ s Q)->wpAny (model C.prog C.w) A (call f vs) (λx s1=>wpAny (model C.prog C.w) A (pyIter x) Q E s1) E s
noncomputable def bC(g:List AV->St->Option (It×St))(fa:aj->St->Option (List AV×St)):aj->St->Option (It×St):=λF st=>(fa F st).bind λp=>g p.1 p.2
theorem eG{x:ae}{p pos:bM}{args:List aJ}{f:af}{fa g}(hf:∀A env F ρ st s Q E,a8 C sc ρ F env s.heap->Rel C ρ st s.heap->Q f s->wpAny (model C.prog C.w) A (eval (.Name x p) env) Q E s)
 (J:Plain args)(hk:ik C f)(O:ip C n sc args fa)(hc:yT C n f g):mL C n sc (.Call (.Name x p) args [] pos) (bC g fa):=⟨λ{A env F ρ st s Q E} hA N R h=>
 o3 (hf A env F ρ st s _ E N R (h.bind.some λp e h=>p0 hA N R J hk O e λvs aq s' S U Y=>hc hA U Y (h.mono λit k=>k.step S)))⟩
noncomputable def fZ(k:Int):Bool:=decide (-(2^62)<=k)&&decide (k<2^62)
theorem wB{k:Int}(h:fZ k=true):-(2^62)<=k/\k<2^62:=by
 unfold fZ at h;rw[gH]at h;exact⟨of_decide_eq_true h.1,of_decide_eq_true h.2⟩
noncomputable def BP(avs:List AV)(st:St):Option (It×St):=(a1 avs).bind λa=>a.i?.bind λk=>if fZ k then some (.range 0 (if 0<k then k else 0) 1,st)else none
noncomputable def ye(avs:List AV)(st:St):Option (It×St):=(a2 avs).bind λp=>p.1.i?.bind λa=>p.2.i?.bind λb=>if(fZ a&&fZ b)=true then some (.range a (if a<b then b -a else 0) 1,st)else none
noncomputable def cR(avs:List AV)(st:St):Option (It×St):=(BP avs st).or (ye avs st)
theorem GH{A:bg}{ρ:aD}{st:St}{s:ah}{r:ak}{a b:Int}{t u v:Tok}{Q:af->ah->Prop}{E:af->ah->Prop}(R:Rel C ρ st s.heap)(hr:IsRange s.heap r a b 1 t u v)(O:fZ a=true)(hb:fZ b=true)
 (h:nq C n ρ s Q (.range a (if a<b then b -a else 0) 1,st)):wpAny (model C.prog C.w) A (pyIter (.ref r)) Q E s:=by
 have J:=wB O;have N:=wB hb;refine wpAny_pyIter_range hr (small_one J.1 J.2 N.1 N.2) ?_;rw[N8];exact h.new (t:=s.toks) R (dk _ _) ⟨rfl,dM _ rfl⟩ (dp (j9 s.heap 0) fz) (dp ⟨_,dM _ rfl⟩ fz) λA s' Q E k q=>wpAny_pyIter_rangeiter (k _ _ (dM _ rfl)) q
theorem jV:yT C n (.type "range") cR:=λ{A ρ st s avs vs Q E} hA R J h=>h.or.elim
 (λh=>J.a1 h.bind λa V r h=>r.i h.bind λx t h=>call_range_1 (GH (n:=n) (s:={s with heap:=_,toks:=_}) (R.keeps (dk _ _)) (GD _ _ _ _ _ _ _) (by decide) h.ite.1 (by rw[Int.sub_zero];exact h.ite.2.step (.keeps (dk _ _)))))
 λh=>J.a2 h.bind λa V b W N O h=>N.i h.bind λx t h=>O.i h.bind λy u h=>
 have hk:=oS.mp h.ite.1
 Pt (GH (n:=n) (s:={s with heap:=_,toks:=_}) (R.keeps (dk _ _)) (GD _ _ _ _ _ _ _) hk.1 hk.2 (h.ite.2.step (.keeps (dk _ _))))
noncomputable def lW(avs:List AV)(st:St):Option (It×St):=(a1 avs).bind λa=>a.r?.bind λl=>(bF st l).map λ_=>(.enum l 0,st)
theorem xN:yT C n (.type "enumerate") lW:=λ{A ρ st s avs vs Q E} hA R S h=>S.a1 h.bind λa V r h=>r.r h.bind λl U N h=>R.l N h.map λxs ws _ hl _ h=>
 call_enumerate_list (fB hl) λh' J O Y k=>O9 J (h.new (t:=s.toks) (fp:=[s.heap.objs.size+1,s.heap.objs.size]) R k ⟨U,s.heap.objs.size,.none,rfl,Nat.succ_ne_self _,N,J,O⟩
  (dp (j9 _ 1) (dp (j9 _ 0) fz)) (dp ⟨_,J⟩ (dp (O.elim λo q=>⟨o,q.1⟩) fz)) λA s' Q E k q=>O9 (k _ _ J) q)
theorem m8{n i j:Nat}(h:i≠j):n+i≠n+j:=λe=>h (OX e)
theorem Mr{n a b:Nat}(J:a<n)(hb:b<n):ZipApart (n+4) (n+2) (n+3) (n+0) (n+1) a b:=
 have u:∀{x:Nat}(i:Nat),x<n->x≠n+i:=λi h e=>absurd (cK h (c8 n i)) (e▸jH _)
 ⟨m8 nofun,m8 nofun,m8 nofun,m8 nofun,m8 nofun,m8 nofun,m8 nofun,m8 nofun,m8 nofun,m8 nofun,u 4 J,u 3 J,u 0 J,u 1 J,u 4 hb,u 3 hb,u 0 hb,u 1 hb⟩
theorem GK{h:aO}{a:ak}{xs:Array af}(p:h.PlainList a xs):a<h.objs.size:=p.elim λ_ e=>j3 e
noncomputable def fP(avs:List AV)(st:St):Option (It×St):=(a2 avs).bind λp=>p.1.r?.bind λl=>p.2.r?.bind λm=>(bF st l).bind λ_=>(bF st m).map λ_=>(.zip l m 0,st)
theorem pf:yT C n (.type "zip") fP:=λ{A ρ st s avs vs Q E} hA R U h=>U.a2 h.bind λa V b W Y r2 h=>Y.r h.bind λl la S h=>r2.r h.bind λm mb hb h=>R.l S h.bind λxs ws _ hl _ h=>R.l hb h.map λys us _ hm _ h=>
 call_zip_2 (fB hl) (fB hm) λh' O J N h1 h2 _ k=>NQ O (h.new (t:=s.toks) (fp:=[s.heap.objs.size+4,s.heap.objs.size+2,s.heap.objs.size+3,s.heap.objs.size,s.heap.objs.size+1]) R k ⟨la,mb,_,_,_,_,_,_,rfl,S,hb,Mr (GK hl) (GK hm),O,J,N,h1,h2⟩
  (dp (j9 _ 4) (dp (j9 _ 2) (dp (j9 _ 3) (dp (j9 _ 0) (dp (j9 _ 1) fz))))) (dp ⟨_,O⟩ (dp ⟨_,J⟩ (dp ⟨_,N⟩ (dp (h1.elim λo q=>⟨o,q.1⟩) (dp (h2.elim λo q=>⟨o,q.1⟩) fz))))) λA s' Q E k q=>NQ (k _ _ O) q)
end
section
variable{C:Cfg}{n:Nat}{sc:bc}
structure pH(C:Cfg)(c:ak):Prop where
 Dj:findIn C.K (.ref c) "__getattribute__"=some (some (.builtin "object.__getattribute__"))
 zH:findIn C.K (.ref c) "__getattr__"=some none
 hd:hasDictIn C.K c=true
 hs:findIn C.K (.ref c) "__setattr__"=some (some (.builtin "object.__setattr__"))
 po:plainOver C.K c=true
theorem Fo(j k:Nat)(t:Tok):FP (.str (C.nm j) t) (C.nm k)=decide (k=j):=by
 show(C.nm j==C.nm k)=_;by_cases q:k=j
 ·rw[q,decide_eq_true rfl,beq_self_eq_true]
 ·rw[beq_eq_false_iff_ne.mpr λe=>q (C.inj _ _ e).symm,decide_eq_false q]
theorem Ei{ρ:aD}{k:Nat}{m:List (Nat×AV)}{es:List lF}(d:gc C ρ m es):
 (m.lookup k=none->es.find? (·.key.isStr (C.nm k))=none)/\(∀v,m.lookup k=some v->∃en,es.find? (·.key.isStr (C.nm k))=some en/\RelV ρ v en.val):=by
 induction d with
 |nil=>exact⟨λ_=>rfl,λ_ h=>absurd h (P_ _).symm⟩
 |@cons j v0 m gx t V es r d J=>
  rw[eK,List.find?_cons];show(_->(match FP (.str (C.nm j) t) (C.nm k)with|true=>some _|false=>_)=none)/\∀v,_->∃en,(match FP (.str (C.nm j) t) (C.nm k)with|true=>some _|false=>_)=some en/\_;rw[Fo,show(k==j)=decide (k=j)from rfl];cases decide (k=j)with
  |true=>exact⟨λh=>absurd h (P_ _),λv h=>⟨_,rfl,mx h▸r⟩⟩
  |false=>exact J
theorem DR{ρ:aD}{m:List (Nat×AV)}{es:List lF}(d:gc C ρ m es):es.any (·.refKey)=false:=by
 induction d with
 |nil=>rfl
 |cons r d J=>exact J
theorem gc.length{ρ:aD}{m:List (Nat×AV)}{es:List lF}(d:gc C ρ m es):es.length=m.length:=by
 induction d with
 |nil=>rfl
 |cons r d J=>exact congrArg (·+1) J
noncomputable abbrev mv(es:List lF)(n:Nat):iK:={cls:=.type "dict",data:=.dict es.toArray n}
theorem Kw{ρ:aD}{k j:Nat}{m:List (Nat×AV)}{es:List lF}{v:AV}(d:gc C ρ m es)(h:m.lookup k=some v):∃V,lookIn (C.nm k) (mv es j)=some (some V)/\RelV ρ v V:=by
 refine aG ((Ei d).2 v h) λen e r=>?_;refine⟨en.val,?_,r⟩;show(match es.find? (·.key.isStr (C.nm k))with|some e=>some (some e.val)|none=>_)=_;rw[e]
theorem DQ{ρ:aD}{k j:Nat}{m:List (Nat×AV)}{es:List lF}(d:gc C ρ m es)(h:m.lookup k=none):lookIn (C.nm k) (mv es j)=some none:=by
 show(match es.find? (·.key.isStr (C.nm k))with|some e=>_|none=>if es.any (·.refKey)then none else some none)=_;rw[(Ei d).1 h,DR d];rfl
theorem Rel.inst{ρ:aD}{st:St}{h:aO}(R:Rel C ρ st h){l d:Nat}{c:ak}{m:List (Nat×AV)}{a:ak}(e:st[l]?=some (.inst c d))(N:st[d]?=some (.dict m))(O:ρ[l]?=some a):
 ∃da es j,ρ[d]?=some da/\h.get? da=some (mv es j)/\gc C ρ m es/\InstAt h a (instObj c da) c (some (mv es j)):=by
 refine aG (R.at e O) λda hd ho=>?_;obtain⟨es,j,J,D⟩:=R.at N hd;exact⟨da,es,j,hd,J,D,ho,rfl,rfl,J⟩
theorem Rel.eU{ρ:aD}{st:St}{h:aO}(R:Rel C ρ st h):C.K.In h:=λa o e=>R.keep _ _ (C.eU a o e)
noncomputable def AO.Jl(o:AO):Option (ak×Nat):=AO.casesOn o aL (λ_=>aL) (λ_=>aL) (λ_=>aL) (λc d=>jI (c,d)) (λ_=>aL) (λ_=>aL) (λ_ _=>aL) (λ_ _=>aL) (λ_ _=>aL) (λ_=>aL) λ_=>aL
noncomputable def AO.JD(o:AO):Option (List (Nat×AV)):=AO.casesOn o aL (λ_=>aL) (λ_=>aL) jI (λ_ _=>aL) (λ_=>aL) (λ_=>aL) (λ_ _=>aL) (λ_ _=>aL) (λ_ _=>aL) (λ_=>aL) λ_=>aL
theorem TR{o:AO}{p:ak×Nat}(h:o.Jl=some p):o=.inst p.1 p.2:=by cases o<;>cases h;rfl
theorem SQ{o:AO}{m:List (Nat×AV)}(h:o.JD=some m):o=.dict m:=by cases o<;>cases h;rfl
noncomputable def yL(a:AV)(st:St):Option (ak×Nat×List (Nat×AV)):=a.r?.bind λl=>(st[l]?).bind λo=>o.Jl.bind λp=>(st[p.2]?).bind λq=>q.JD.map λm=>(p.1,p.2,m)
theorem EZ{st:St}{l d:Nat}{c:ak}{m:List (Nat×AV)}(h:st[l]?=some (.inst c d))(k:st[d]?=some (.dict m)):yL (.ref l) st=some (c,d,m):=by
 show(st[l]?).bind _=_;rw[h];show(st[d]?).bind _=_;rw[k];rfl
@[elab_as_elim] theorem Rel.yS{ρ:aD}{st:St}{h:aO}{a:AV}{V:af}(r:RelV ρ a V)(R:Rel C ρ st h){P:ak×Nat×List (Nat×AV)->Prop}(q:Ok (yL a st) P){M:af->Prop}
 (k:∀J c d m da es j,RelV ρ a (.ref J)->ρ[d]?=some da->h.get? da=some (mv es j)->gc C ρ m es->InstAt h J (instObj c da) c (some (mv es j))->P (c,d,m)->M (.ref J)):M V:=
 r.rr q.bind λl J N r q=>q.bind.some λo e q=>q.bind.some λp O q=>q.bind.some λY S q=>q.map.some λm U q=>
  (R.inst (l:=l) (c:=p.1) (d:=p.2) (e.trans (congrArg some (TR O))) (S.trans (congrArg some (SQ U))) N).elim λda h=>h.elim λes h=>h.elim λj h=>k J p.1 p.2 m da es j r h.1 h.2.1 h.2.2.1 h.2.2.2 q
noncomputable def jk(a:AV)(k:Nat)(st:St):Option (ak×Option AV):=(yL a st).map λp=>(p.1,p.2.2.lookup k)
theorem uS{st:St}{l d k:Nat}{c:ak}{m:List (Nat×AV)}(h:st[l]?=some (.inst c d))(q:st[d]?=some (.dict m)):jk (.ref l) k st=some (c,m.lookup k):=by
 unfold jk;rw[EZ h q];rfl
noncomputable def handed(a:AV):Bool:=AV.casesOn a true (λ_=>true) (λ_=>true) (λ_=>true) (λ_=>true) handedIn
theorem Mo{ρ:aD}{a:AV}{V:af}(r:RelV ρ a V)(h:handed a=true):handedIn V=true:=by
 cases a with
 |none=>cases r;rfl
 |bool=>cases r;rfl
 |int=>exact r.elim λ_ e=>e▸rfl
 |str=>exact r.elim λ_ e=>e▸rfl
 |ref=>exact r.elim λ_ e=>e.2▸rfl
 |val=>cases r;exact h
noncomputable def jn(c:ak)(k:Nat)(f:EM):EM:=λF st=>(f F st).bind λp=>(jk p.1 k p.2).bind λq=>q.2.bind λv=>if q.1=c/\handed v=true then some (v,p.2)else none
theorem E7{A:bg}{ρ:aD}{st:St}{s:ah}{c:ak}{k:Nat}{a:AV}{J:af}{Q:af->ah->Prop}{E:af->ah->Prop}(H:pH C c)(hf:findIn C.K (.ref c) (C.nm k)=some none)
 (R:Rel C ρ st s.heap)(O:RelV ρ a J){P:AV->Prop}(h:Ok (jk a k st) λq=>Ok q.2 λv=>(q.1=c/\handed v=true)/\P v)(K:∀v V s',Go No ρ s ρ s'->Rel C ρ st s'.heap->RelV ρ v V->P v->Q V s'):
 wpAny (model C.prog C.w) A (getAttr J (C.nm k) true) Q E s:=Rel.yS O R h.map λxa c' d m da es j _ hd S D I h=>h.some λv hv h=>by
 obtain⟨⟨e,U⟩,p⟩:=h;subst e;obtain⟨V,Y,N⟩:=Kw (j:=j) D hv;exact get_value R.eU I H.Dj (findObj_own H.hd hf rfl Y) (Mo N U) (K v V _ (.toks _) R N p)
theorem qd{x:ae}{np pos:bM}{c:ak}{name:ae}{f:EM}(k:Nat)(hk:C.nm k=name)(H:pH C c)(hf:findIn C.K (.ref c) (C.nm k)=some none)(he:bR C n sc (.Name x np) f):
 bR C n sc (.Attribute (.Name x np) name pos) (jn c k f):=KE.s λhA N R h=>by
 subst hk;exact OH (he.k hA N R (h.bind.mono λp h Va J t1 g1 O S=>E7 H hf O S (h.bind.mono λq h=>h.bind.mono λv h=>h.ite) λv V s' U Y r' h=>h _ J s' (g1.trans U) Y r'))
noncomputable def sX(c f:ak)(k:Nat)(fe:EM):EM:=λF st=>(fe F st).bind λp=>(jk p.1 k p.2).bind λq=>if q.1=c/\q.2.isNone =true then some (.ref p.2.length,p.2++[.bound (.ref f) p.1])else none
theorem My{x:ae}{np pos:bM}{c fa:ak}{name:ae}{f:EM}(k:Nat)(hk:C.nm k=name)(H:pH C c)(hf:findIn C.K (.ref c) (C.nm k)=some (some (.ref fa)))(O:isFn C.K (.ref fa)=true)
 (S:specialIn C.K (.ref fa) "__get__"=some (some (.builtin "function.__get__")))(ht:takesIn C.K (.ref fa)=some false)(hc:copiedNames.contains (C.nm k)=false)(he:bR C n sc (.Name x np) f):
 bR C n sc (.Attribute (.Name x np) name pos) (sX c fa k f):=KE.s λhA N R h=>by
 subst hk;refine OH (he.k hA N R (h.bind.mono λp h Va U t1 g1 J Y=>Rel.yS Y J h.bind.map λxa c' d m da es j r hd Z4 D I h=>?_));obtain⟨⟨e,hh⟩,w⟩:=h.ite;subst e;refine get_bind J.eU I H.Dj (findObj_fn H.hd hf S ht hc (DQ D (Qf.mp hh))) H.zH (rZ (fn_get (s:={t1 with toks:=t1.toks+1}) J.eU (beq_iff_eq.mp O) ?_));show wpAny _ _ (handedOut _) _ _ _;rw[handedOut_of rfl];exact aU (w (.ref t1.heap.objs.size) (U++[t1.heap.objs.size]) _ (g1.trans (Go.alloc (t:=t1.toks+1) (dk _ _) (fR _))) (J.push rfl ⟨.ref xa,dM _ rfl,r.mono (j_ _ _)⟩) (m7 J))
noncomputable def f_(c:ak)(k:Nat)(a:AV)(st:St):Option (List AV):=(jk a k st).bind λq=>if q.1=c/\q.2.isNone =true then some [a]else none
theorem mW{c fa:ak}{name:ae}(k:Nat)(hk:C.nm k=name)(H:pH C c)(hf:findIn C.K (.ref c) (C.nm k)=some (some (.ref fa)))(J:typeIn C.K (.ref fa)=some (.type "function")):gO C name (.ref fa) (f_ c k):=KR.s λR r h=>by
 subst hk;refine Rel.yS r R h.bind.map λN c' d m da es j r hd O D I h=>?_;obtain⟨⟨e,S⟩,w⟩:=h.ite;subst e;exact method_fn R.eU I H.Dj H.zH hf J (by(show lA _ (lookIn (C.nm k) (mv es j))=_;rw[DQ (j:=j) D (Qf.mp S)];rfl)) (w [.ref N] _ .refl R (.cons r .nil))
theorem KL{ρ:aD}{k:Nat}{v:AV}{V:af}{gx:Int}{t:Tok}{f:Option lF->lF}(f1:∀e,f (some e)={e with val:=V})(f2:f none=⟨gx,.str (C.nm k) t,V⟩)(r:RelV ρ v V){m:List (Nat×AV)}{es:List lF}(d:gc C ρ m es):
 gc C ρ (aj.put m k v) (nsPutIn (C.nm k).cps.size (C.nm k).cps.toList f es).1:=by
 induction d with
 |nil=>unfold nsPutIn;rw[f2];exact .cons r .nil
 |@cons j v0 m h0 t0 O es J d N=>
  unfold aj.put nsPutIn;rw[Value.isStrByCps_eq,Fo];by_cases q:k=j
  ·subst q
   rw[if_pos rfl,decide_eq_true rfl,if_pos rfl,f1];exact .cons r d
  ·rw[if_neg q,decide_eq_false q,if_neg d_]
   exact .cons J N
theorem TN(m:aj)(k:Nat)(v:AV):(aj.put m k v).length <=m.length+1:=by
 induction m with
 |nil=>exact a7 _
 |cons p r J=>
  unfold aj.put;split
  ·simp
  ·simp;exact J
noncomputable def setOf(c:ak)(a:AV)(k:Nat)(v:AV)(st:St):Option St:=(yL a st).bind λp=>if p.1=c/\p.2.2.length <=1000 then some (st.set p.2.1 (.dict (aj.put p.2.2 k v)))else none
theorem I9{st:St}{l d k:Nat}{c:ak}{m:List (Nat×AV)}{v:AV}(h:st[l]?=some (.inst c d))(q:st[d]?=some (.dict m))(hm:m.length<=1000):setOf c (.ref l) k v st=some (st.set d (.dict (aj.put m k v))):=by
 unfold setOf;rw[EZ h q];exact if_pos ⟨rfl,hm⟩
theorem G_{A:bg}{ρ:aD}{st:St}{s:ah}{c:ak}{k:Nat}{a v:AV}{va V:af}{Q:Unit->ah->Prop}{E:af->ah->Prop}(H:pH C c)(ht:takerIn C.K c (C.nm k)=some none)
 (R:Rel C ρ st s.heap)(ra:RelV ρ a va)(rv:RelV ρ v V){P:St->Prop}(h:Ok (setOf c a k v st) P)(K:∀st' s',Go No ρ s ρ s'->Rel C ρ st' s'.heap->P st'->Q () s'):
 wpAny (model C.prog C.w) A (setAttr va (C.nm k) V) Q E s:=Rel.yS ra R h.bind λxa c' d m da es j _ hd O D I h=>by
 obtain⟨⟨e,hm⟩,w⟩:=h.ite;subst e;refine set_plain R.eU I H.hs ?_;refine osa_open (s:={s with toks:=s.toks+1}) R.eU I H.po ht λb=>?_;have X:C.K.In ({s with toks:=s.toks+1}:ah).heap :=R.eU;refine aG (any_some (show(clsIn C.K c').any (·.hasDict)=true from H.hd)) λcd Y Z4=>?_;obtain⟨hx,_,_,_⟩:=I;refine ar (aU (ar (ar (sa hx (ar ((looks_clsIn X Y).here ?_))))));rw[Z4];refine aU (a:=some da) (ar (aU (ar ?_)));unfold nsSet;refine ar (ar (Hx (aU (ar (AJ (ar (sa O ?_)))))));dsimp only;have cond:(!es.toArray.any (·.key.isStr (C.nm k))&&es.toArray.any (·.refKey))=false:=by
  rw[<-Qr,<-Qr]
  have:es.toArray.toList=es:=by simp
  rw[this,DR D,FV]
 rw[Pd,cond];obtain⟨J,S,N,P⟩:∃J S,uE (C.nm k) (Fq C.w.params (C.nm k)) (.str (C.nm k) (s.toks+1)) V (mv es j)=mv J S/\gc C ρ (aj.put m k v) J:=by
  unfold uE mv;simp only[E3];generalize hq:nsPutIn _ _ _ es=p;have P:gc C ρ (aj.put m k v) p.1:=by
   rw[<-hq];exact KL (λ_=>rfl) rfl rv D
  obtain⟨J,b'⟩:=p;cases b' with
  |true=>exact⟨_,_,rfl,P⟩
  |false=>exact⟨_,_,rfl,P⟩
 have Pl:=P.length;have Z5:=TN m k v;have U:(s.heap.update da (uE (C.nm k) (Fq C.w.params (C.nm k)) (.str (C.nm k) (s.toks+1)) V)).get? da=some (mv J S):=by
  rw[qm _ O (by rw[N];rfl),N]
 refine Ox O ?_;refine ar (Ro U (Q6 (by rw[dH,sizeLine_eq];exact aw (bS Pl) (aw Z5 (aw (fj hm) (by decide))))) ?_);have kk:∀b x,b≠da->s.heap.get? b=some x->(s.heap.update da (uE (C.nm k) (Fq C.w.params (C.nm k)) (.str (C.nm k) (s.toks+1)) V)).get? b=some x:=λb x ne e=>by
  rw[lE _ _ _ _ ne];exact e
 exact aU (K (st.set d (.dict (aj.put m k v))) _ (Go.put hd kk ⟨_,U⟩) (R.put hd kk ⟨_,U⟩ ⟨J,S,U,P⟩) w)
end
section
variable{C:Cfg}{n:Nat}{sc:bc}{τ:Nat}
noncomputable def kX(c:ak)(k:Nat)(J f:EM):SM:=λF st=>(f F st).bind λp=>(J F p.2).bind λq=>(setOf c q.1 k p.1 q.2).map λst'=>(.next,F,st')
theorem wj{o:aJ}{name:ae}{p' pos:bM}{e:aJ}{c:ak}{J f:EM}(k:Nat)(hk:C.nm k=name)(H:pH C c)(ht:takerIn C.K c (C.nm k)=some none)(ho:bR C n sc o J)(he:bR C n sc e f)
 (hs:swapsWith e (some (.Attribute o name p')) pos.line {(default:aR)with scope:=sc}=pure false):
 cA C n sc τ (.Assign [.Attribute o name p'] e pos) (kX c k J f):=by
 exact KX.s λ{A env F ρ st s Q E} hA S N R h=>by
  subst hk;exact NR (he.k hA N R (h.bind.mono λp h V U t1 g1 Y r1=>ho.k hA (N.go g1) Y (h.bind.mono λq h Va bA t2 g2 R2 r2=>G_ H ht R2 r2 (r1.mono g2.pre) h.map λst' s' O R' h=>h _ bA s' ((g1.trans g2).trans O).own (N.go ((g1.trans g2).trans O)) R' rfl)))
   (by rw[mR (env':={(default:aR)with scope:=sc}) N.scope];exact hs)
noncomputable def xh(c:ak)(k:Nat)(op:AV->AV->St->Option (AV×St))(J f:EM):SM:=λF st=>(J F st).bind λp=>(jk p.1 k p.2).bind λq=>q.2.bind λx=>if q.1=c/\handed x=true then(f F p.2).bind λq=>(op x q.1 q.2).bind λr=>(setOf c p.1 k r.1 r.2).map λst'=>(.next,F,st')else none
theorem KJ{o:aJ}{name:ae}{p' pos:bM}{op:HJ}{e:aJ}{c:ak}{S f:EM}{U}(k:Nat)(hk:C.nm k=name)(H:pH C c)(hf:findIn C.K (.ref c) (C.nm k)=some none)(ht:takerIn C.K c (C.nm k)=some none)
 (ho:bR C n sc o S)(he:bR C n sc e f)(J:d8 C n (inplaceOp op) U):
 cA C n sc τ (.AugAssign (.Attribute o name p') op e pos) (xh c k U S f):=by
 exact KX.s λ{A env F ρ st s Q E} hA Z4 N R h=>by
  subst hk;exact wpAny_AugAssign_AttributeAny (ho.k hA N R (h.bind.mono λp h Va Z5 t1 g1 R1 r1=>E7 H hf R1 r1 (h.bind.mono λq h=>h.bind.mono λx h=>h.ite) λx X t2 g2 R2 rx h=>he.k hA (N.go (g1.trans g2)) R2 (h.bind.mono λq h V Z6 t3 g3 R3 rv=>J.k hA R3 (rx.mono g3.pre) rv (h.bind.mono λr h Y O t4 g4 R4 ry=>
   G_ H ht R4 ((r1.mono g3.pre).mono g4.pre) ry h.map λst' s' g' R' h=>have g:=(((g1.trans g2).trans g3).trans g4).trans g';h _ O s' g.own (N.go g) R' rfl))))
noncomputable def ya(t:aj->St->Option (Bool×St)):SM:=λF st=>(t F st).bind λp=>if p.1 then some (.next,F,p.2)else none
theorem Le{e:aJ}{msg:Option aJ}{pos:bM}{t}(he:lh C n sc e t):cA C n sc τ (.Assert e msg pos) (ya t):=by
 exact KX.s λ{A env F ρ st s Q E} hA O N R h=>wpAny_Assert_holds (he.k hA N R (h.bind.mono λp h J t1 g1 S=>⟨h.ite.1,h.ite.2 _ J t1 g1.own (N.go g1) S rfl⟩))
theorem bN.under{A:bg}(r:bN (n+1) A){c:ak}(l:List af):bN n (A.under (.builtin "type.__call__" ⟨.ref c::l,[]⟩)):=by
 have h1:(Am "type.__call__" ⟨.ref c::l,[]⟩).weight =1:=by rfl
 have h2:(Am "type.__call__" ⟨.ref c::l,[]⟩).cUnits =1:=by rfl
 refine⟨?_,?_,r.handled⟩
 ·have:=r.depth;show A.depth+(Am "type.__call__" ⟨.ref c::l,[]⟩).weight +n<900;rw[h1];exact(hH ..)▸this
 ·have:=r.units;show A.units+(Am "type.__call__" ⟨.ref c::l,[]⟩).cUnits +20*n<9000;rw[h2];exact I3 this
noncomputable def AV.Jg(a:AV):Option Unit:=AV.casesOn a (jI ()) (λ_=>aL) (λ_=>aL) (λ_=>aL) (λ_=>aL) λ_=>aL
theorem RelV.none{ρ:aD}{a:AV}{V:af}(r:RelV ρ a V){P:Unit->Prop}(h:Ok a.Jg P){G:Prop}(k:V=.none ->P ()->G):G:=by
 cases a with
 |none=>exact k r h
 |_=>exact dA h
noncomputable def yQ(c:ak)(g:List AV->St->Option (AV×St))(avs:List AV)(st:St):Option (AV×St):=
 (g (.ref (st.length+1)::avs) (st++[.dict []]++[.inst c st.length])).bind λp=>p.1.Jg.map λ_=>(.ref (st.length+1),p.2)
theorem LZ{c S:ak}{g}(hm:makesIn C.K c=true)(hi:findIn C.K (.ref c) "__init__"=some (some (.ref S)))(hf:typeIn C.K (.ref S)=some (.type "function"))(hg:dX C n (.ref S) g):dX C (n+1) (.ref c) (yQ c g):=by
 refine zM.s λ{A ρ st s avs vs Q E} hA R rv h=>?_;obtain⟨J,O,d,t,os⟩:=s;have X:=R.eU;refine make_core (makes_of X hm) (looks_findIn X hi) (λself=>bind_fn X self hf) (.inl rfl) ?_;have R1:Rel C (ρ++[J.objs.size]) (st++[.dict []]) (J.push emptyDict):=R.push rfl ⟨[],0,dM _ rfl,.nil⟩;have U:(J.push emptyDict).objs.size =J.objs.size+1:=mX ..;have R2:Rel C (ρ++[J.objs.size]++[(J.push emptyDict).objs.size]) (st++[.dict []]++[.inst c st.length]) ((J.push emptyDict).push (instObj c J.objs.size)):=
  R1.push rfl ⟨J.objs.size,gJ (j_ _ _) (by rw[<-R.len,j5 (a7 _),mn];rfl),dM _ rfl⟩
 have g2:Go No ρ (⟨J,O,d,t,os⟩:ah) (ρ++[J.objs.size]++[(J.push emptyDict).objs.size]) ⟨(J.push emptyDict).push (instObj c J.objs.size),O,d,t,os⟩:=
  (Go.alloc (s:=⟨J,O,d,t,os⟩) (t:=t) (dk _ _) (fR _)).trans (Go.alloc (s:=⟨J.push emptyDict,O,d,t,os⟩) (t:=t) (dk _ _) (fR _))
 have N:RelV (ρ++[J.objs.size]++[(J.push emptyDict).objs.size]) (.ref (st.length+1)) (.ref (J.push emptyDict).objs.size):=by
  rw[show st.length+1=(st++[AO.dict []]).length by rw[aT];rfl];exact m7 R1
 rw[U]at R2 g2 N;exact hg.k (Q:=λv s'=>v=.none /\Q (.ref (J.objs.size+1)) s') (hA.under _) R2 (.cons N (rv.mono g2.pre)) (h.bind.mono λp h V Y s3 g3 R3 r3=>r3.none h.map λe h=>⟨e,h _ Y s3 (g2.trans g3) R3 (N.mono g3.pre)⟩)
end
theorem FL:Nc.lookup (NV ['r','o','t','a','r','e','t','i','_','e','l','b','a','l','l','a','c'].reverse)=some Zn:=by kernel_rfl
theorem zR:qb "callable_iterator" "__next__" "callable_iterator.__next__":=
 .of (owner:="callable_iterator") (n:="__next__") (by rw[mh,mf];kernel_rfl) (by decide+kernel) (by decide+kernel) (by decide+kernel)
  (by first|exact .inl (by decide+kernel)|exact .inr (by decide+kernel)) (by rw[rM];kernel_rfl)
theorem Ki:entryFor table "callable_iterator.__next__"=some Builtin.«callable_iterator.__next__»:=AE (by kernel_rfl)
theorem Ko(a:af):argsOk "callable_iterator.__next__" ⟨[a],[]⟩:=by
 unfold argsOk;rw[GN (id:="callable_iterator.__next__") (n:=['_','_','t','x','e','n','_','_']) (o:=['r','o','t','a','r','e','t','i','_','e','l','b','a','l','l','a','c']) (by kernel_rfl) FL];kernel_rfl
theorem J6:∃i,typeLookup (.type "method") "__call__"=pure (some (Q4 i)):=⟨"method.__call__",by rw[mh,mf];kernel_rfl⟩
theorem LR(a b:af):argsOk "iter" ⟨[a,b],[]⟩:=by unfold argsOk;kernel_rfl
theorem Ly{prog:ft}{w:dB}{A:bg}{α:Type}{Q:α->ah->Prop}{E:af->ah->Prop}{s:ah}(J:A.handled=none)
 (h:∀h' e,(∀b o,s.heap.get? b=some o->h'.get? b=some o)->(∃o,h'.get? e=some o/\o.cls=.type "StopIteration")->E (.ref e) {s with heap:=h'}):wpAny (model prog w) A (newExc (.type "StopIteration") []>>= λe=>raiseNew e:dS α) Q E s:=by
 refine ar ?_;simp only[newExc,newTuple];refine ar (ql ?_ (by size_fits));refine ar (m:=firstArgMember _ _) (d9 (a:=g_) (by first|rfl|(simp only[firstArgMember];rfl)) ?_);refine ql ?_ (by size_fits);simp only[raiseNew];refine ar (Fh ?_);rw[J];refine ar (aU (G9 ?_));exact h _ _ (λb o e=>kD _ (kD _ e)) ⟨_,qG _ rfl,rfl⟩
theorem J8(f:af)(l:List af):callBorrowed f l=(call f l).keep [borrowed]:=by
 unfold callBorrowed PySem.call;show Rl _ _ _ _ _=Rl _ _ _ _ _;congr 1
 funext r
 rcases r with e|(v|_|_|_)<;>rfl
theorem J5{M:uM}{A:bg}{f:af}{l:List af}{Q:af->ah->Prop}{E:af->ah->Prop}{s:ah}(h:wpAny M A (call f l) Q E s):wpAny M A (callBorrowed f l) Q E s:=by
 rw[J8];intro N p J;rw[Sem.wp_keep];exact h N p J
section
variable{C:Cfg}{n:Nat}{sc:bc}
theorem Rel.o{ρ:aD}{st:St}{h:aO}(R:Rel C ρ st h){l:Nat}{J:ak}(N:ρ[l]?=some J){P:AO->Prop}(q:Ok (st[l]?) P){G:Prop}(k:∀o,kn C ρ h J o->P o->G):G:=q.some λo e p=>k o (R.at e N) p
noncomputable def AO.bound?(o:AO):Option (af×AV):=AO.casesOn o aL (λ_=>aL) (λ_=>aL) (λ_=>aL) (λ_ _=>aL) (λ_=>aL) (λ_=>aL) (λf x=>jI (f,x)) (λ_ _=>aL) (λ_ _=>aL) (λ_=>aL) λ_=>aL
noncomputable def AO.yN(o:AO):Option (Nat×AV):=AO.casesOn o aL (λ_=>aL) (λ_=>aL) (λ_=>aL) (λ_ _=>aL) (λ_=>aL) (λ_=>aL) (λ_ _=>aL) (λf x=>jI (f,x)) (λ_ _=>aL) (λ_=>aL) λ_=>aL
noncomputable def AO.Df(o:AO):Option (Nat×Nat):=AO.casesOn o aL (λ_=>aL) (λ_=>aL) (λ_=>aL) (λ_ _=>aL) (λ_=>aL) (λ_=>aL) (λ_ _=>aL) (λ_ _=>aL) (λl i=>jI (l,i)) (λ_=>aL) λ_=>aL
section
variable{ρ:aD}{h:aO}{a:ak}{o:AO}(c:kn C ρ h a o){G:Prop}
include c
theorem zW{P:af×AV->Prop}(q:Ok o.bound? P)(k:∀f x V,h.get? a=some {cls:=.type "method",data:=.fields #[f,V]}->RelV ρ x V->P (f,x)->G):G:=by
 cases o with
 |bound f x=>exact c.elim λV c=>k f x V c.1 c.2 q
 |_=>exact dA q
theorem Aa{P:Nat×AV->Prop}(q:Ok o.yN P)(k:∀f x fa V,ρ[f]?=some fa->h.get? a=some {cls:=.type "callable_iterator",data:=.fields #[.ref fa,V,.bool false]}->RelV ρ x V->P (f,x)->G):G:=by
 cases o with
 |nH f x=>exact c.elim λfa c=>c.elim λV c=>k f x fa V c.1 c.2.1 c.2.2 q
 |_=>exact dA q
theorem He{P:Nat×Nat->Prop}(q:Ok o.Df P)(k:∀l i J,ρ[l]?=some J->h.IsListIter a J i->P (l,i)->G):G:=by
 cases o with
 |c_ l i=>exact c.elim λJ c=>k l i J c.1 c.2 q
 |_=>exact dA q
end
noncomputable def Xp(avs:List AV)(st:St):Option (AV×St):=(a1 avs).bind λa=>a.r?.bind λl=>(bF st l).map λ_=>(.ref st.length,st++[.c_ l 0])
noncomputable def W0(avs:List AV)(st:St):Option (AV×St):=(a2 avs).bind λp=>p.1.r?.bind λb=>p.2.s?.bind λx=>(st[b]?).bind λo=>o.bound?.map λ_=>(.ref st.length,st++[.nH b (.str x)])
noncomputable def qS(avs:List AV)(st:St):Option (AV×St):=(Xp avs st).or (W0 avs st)
theorem HK:eO C n (.builtin "iter") qS:=KC.s λ{A ρ st s avs vs Q E} hA R S h=>h.or.elim
 (λh=>S.a1 h.bind λa V r h=>r.r h.bind λl J N h=>R.l N h.map λxs ws _ hl _ h=>by
  refine Ap (by decide+kernel) (by decide+kernel) PJ (kdk_args_iter _) ?_;unfold Builtin.«iter»;refine ar (m:=someArgs "iter" 1 2 _) (d9 (a:=[eJ J]) (by first|rfl|kernel_rfl) ?_);show wpAny _ _ (pyIter (.ref J)>>= _) _ _ _;exact ar (OZ (fB hl) (aU ⟨_,rfl,h _ (ρ++[s.heap.objs.size]) _ (Go.alloc (t:=s.toks) (dk _ _) (fR _)) (R.push rfl ⟨J,gJ (j_ _ _) N,_,dM _ rfl,rfl,rfl⟩) (m7 R)⟩)))
 λh=>S.a2 h.bind λa V b W U Y h=>U.r h.bind λl J N h=>Y.s h.bind λx t h=>R.o N h.bind λo c h=>zW c h.map λf self SV ho rV h=>by
  refine bO J6 λi hi=>?_;refine Ap (by decide+kernel) (by decide+kernel) PJ (LR _ _) ?_;unfold Builtin.«iter»;refine ar (m:=someArgs "iter" 1 2 _) (d9 (a:=[eJ J,.str _ t]) (by first|rfl|kernel_rfl) ?_);dsimp only;refine ar (nK (name:=dz "__call__") (T:="method") ⟨_,ho,rfl⟩ hi ?_);refine E4 (λO=>absurd O (by simp)) (λ_=>ar (nJ (ar (ql (aU ⟨_,rfl,?_⟩) (by size_fits)))));exact h _ (ρ++[s.heap.objs.size]) _ (Go.alloc (t:=s.toks) (dk _ _) (fR _)) (R.push rfl ⟨J,.str _ t,gJ (j_ _ _) N,dM _ rfl,⟨t,rfl⟩⟩) (m7 R)
noncomputable def mH(avs:List AV)(st:St):Option (AV×St):=(a1 avs).bind λa=>a.r?.bind λk=>(st[k]?).bind λo=>o.Df.bind λp=>(bF st p.1).bind λxs=>(xs[p.2]?).map λv=>(v,st.set k (.c_ p.1 (p.2+1)))
theorem B_:eO C n (.builtin "next") mH:=KC.s λ{A ρ st s avs vs Q E} hA R rv h=>rv.a1 h.bind λa V r h=>r.r h.bind λk J hk h=>R.o hk h.bind λo c h=>He c h.bind λl i N hl hit h=>R.l hl h.bind λxs ws _ hw O h=>h.map.some λx hx h=>by
 refine aG (O.get hx) λX hX rX=>?_;refine dh (id hit) λo ho hc hd=>?_;refine Ap (by decide+kernel) (by decide+kernel) Na (Qm _) ?_;unfold Builtin.«next»;refine ar (m:=someArgs "next" 1 2 _) (d9 (a:=[eJ J]) (by first|rfl|kernel_rfl) ?_);dsimp only;refine ar (nK (name:=dz "__next__") hit.typeIs qe.lookup (E4 (λS=>absurd S (by simp)) (λ_=>?_)));obtain⟨m,U⟩:=hw;refine ar (xu (name:=dz "__next__") hit.typeIs qe
  (p_ qe hit.typeIs G4 ?_ (FZ _)))
 show wpAny _ _ (field (.ref J) 0>>= _) _ _ s;refine ar (je ho hd (x:=.ref N) rfl ?_);show wpAny _ _ (if(eJ N==g_)=true then _ else _) _ _ s;rw[if_neg (show¬((eJ N==g_)=true)from d_)];refine ar (je ho hd (x:=.int i 0) rfl (ar (xy U rfl ?_)));have Y:ws.toArray[i]?=some X:=nT hX;simp only[xv,Y];have kk:∀b x,b≠J->s.heap.get? b=some x->(s.heap.update J (r9 (·.setIfInBounds 1 (rawInt ((i:Int)+1))))).get? b=some x:=λb x ne e=>(lE _ _ _ _ ne).trans e;have hn:(s.heap.update J (r9 (·.setIfInBounds 1 (rawInt ((i:Int)+1))))).IsListIter J N (i+1):=
  ⟨_,qm _ ho (wN (si hd _)),(Gu ..).trans hc,by rw[si hd];simp[rawInt]⟩
 have al:∃x,(s.heap.update J (r9 (·.setIfInBounds 1 (rawInt ((i:Int)+1))))).get? J=some x:=hn.elim λo e=>⟨o,e.1⟩;exact ar (uw ho hd (by simp) (aU ⟨X,rfl,aU ⟨_,rfl,h X ρ _ (Go.put (t:=s.toks) hk kk al) (R.put hk kk al ⟨N,hl,hn⟩) rX⟩⟩))
theorem bN.in1{A:bg}(r:bN (n+1) A):bN n A.in1:=
 ⟨by have:=r.depth;show A.depth+n<900;exact du (iI _) this,by have:=r.units;show A.units+1+20*n<9000;exact I3 this,r.handled⟩
noncomputable def qQ(k:Nat)(st:St)(x r:ae):Option AV×St:=if x=r then(none,st.set k .gP)else(some (.str r),st)
noncomputable def ni(fa:ak)(g:List AV->St->Option (AV×St))(k:Nat)(st:St):Option (Option AV×St):=(st[k]?).bind λo=>o.yN.bind λc=>c.2.s?.bind λx=>(st[c.1]?).bind λo'=>o'.bound?.bind λd=>if d.1=.ref fa then
 (g [d.2] st).bind λp=>p.1.s?.bind λr=>(p.2[k]?).bind λN=>N.yN.bind λJ=>J.2.s?.bind λx1=>(p.2[J.1]?).bind λO=>O.bound?.bind λR=>if x1=x/\R.1=.ref fa then some (qQ k p.2 x r)else none
 else none
theorem DG{A:bg}{s:ah}{b fa:ak}{V:af}{oc:af}{N:Option ak}{J:Array (Option af)}{fd:nQ}{Q:Bool->ah->Prop}{E:af->ah->Prop}
 (hb:s.heap.get? b=some {cls:=.type "method",data:=.fields #[.ref fa,V]})(hf:s.heap.get? fa=some ⟨oc,N,.func fd,J⟩)(h:Q true s):wpAny (model C.prog C.w) A (borrowsExactly (.ref b)) Q E s:=by
 unfold borrowsExactly;refine ar (Fe hb ?_);show wpAny _ _ (if(Rn "method"==Rn "method")=true then _ else _) _ _ _;rw[if_pos (by simp)];show wpAny _ _ (load fa>>= _) _ _ _;refine ar (Fe hf ?_);exact aU h
theorem Ac{fa:ak}{oc:af}{od:Option ak}{U:Array (Option af)}{fd:nQ}{g}(ho:C.K.lookup fa=some ⟨oc,od,.func fd,U⟩)(hg:dX C n (.ref fa) g)(k:Nat):CL C (n+1) k (ni fa g k):=by
 intro A ρ st s a Q E hA R hk h;refine R.o hk h.bind λo c h=>Aa c h.bind λb y ba V Z8 N rV h=>rV.s h.bind λx t h=>R.o Z8 h.bind λo c h=>zW c h.bind λf self SV Y rS h=>?_;obtain⟨hf,h⟩:=h.ite;have hf:f=.ref fa:=hf;subst hf;unfold pyNext;refine ar (wU (xu (name:=dz "__next__") ⟨_,N,rfl⟩ zR
  (p_ zR ⟨_,N,rfl⟩ Ki ?_ (Ko _))))
 show wpAny _ _ (field (.ref a) 2>>= _) _ _ _;refine ar (je N rfl (x:=.bool false) rfl ?_);rw[if_neg (by simp)];refine ar (je N rfl (x:=.ref ba) rfl (ar (wU ?_)));unfold callOutOfASlot;refine ar (DG Y (R.eU _ _ ho) ?_);rw[if_pos rfl];refine J5 (rZ (ks_codeAny_call_bound Y (hg.k hA.in1 R (.cons rS .nil) (h.bind.mono λp h W bA s2 g2 R2 r2=>r2.s h.bind λr tw h=>?_))));have S:=gJ g2.pre hk;refine R2.o S h.bind λo c h=>Aa c h.bind λb y Z9 V Z4 J rV h=>rV.sx h.bind λx1 t2 eV h=>R2.o Z4 h.bind λo c h=>zW c h.bind λf self SV Z5 rS h=>?_;obtain⟨⟨e1,hf⟩,w⟩:=h.ite;have hf:f=.ref fa:=hf;subst hf;subst eV;have Z6:s2.heap.get? fa=some ⟨oc,od,.func fd,U⟩:=R2.eU _ _ ho;refine ar (je J rfl (x:=.bool false) rfl ?_);rw[if_neg (by simp)];refine ar (je J rfl (x:=.str _ t2) rfl (ar (mi (wpAny_eqBool_str ?_))));rw[e1];have h:∀V aq s',Go No ρ s aq s'->Rel C aq (qQ k p.2 x r).2 s'.heap->Jh aq (qQ k p.2 x r).1 V->Q V s':=w;unfold qQ at h;by_cases O:x=r
 ·rw[if_pos O]at h
  rw[decide_eq_true O];refine ar (nJ (ar (ar (je J rfl (x:=.ref Z9) rfl (ar ?_)))));unfold slotLetsGo;refine ar (DG Z5 Z6 ?_);rw[if_pos rfl];refine aU (ar (GP J (by simp) λg3 Z_ k3=>ar (GP Z_ (by simp) λg4 hc4 k4=>GP hc4 (by simp) λg5 Z7 k5=>?_)));show wpAny _ _ (newExc (.type "StopIteration") []>>= λe=>raiseNew e) _ _ _;refine Ly hA.handled λh' e k6 he=>he.elim λoe he=>ar (Oh (T:="StopIteration") (b:=true) ⟨_,he.1,he.2⟩ FN ?_);have kk:∀b x,b≠a->s2.heap.get? b=some x->h'.get? b=some x:=λb x ne e=>k6 _ _ ((k5.2 _ ne).trans ((k4.2 _ ne).trans ((k3.2 _ ne).trans e)));exact aU (h _ bA _ (g2.trans (Go.put (t:=s2.toks) S kk ⟨_,k6 _ _ Z7⟩)) (R2.put S kk ⟨_,k6 _ _ Z7⟩ trivial) rfl)
 ·rw[if_neg O]at h
  rw[decide_eq_false O];exact aU ⟨_,rfl,aU (h _ bA s2 g2 R2 ⟨_,rfl,tw,rfl⟩)⟩
end
section
variable{C:Cfg}{n:Nat}{sc:bc}
noncomputable def pq(x:ae)(k:Int):ae:=⟨(bZ k.toNat x.cps.toList).flatten.toArray⟩
noncomputable def T3(xs:List AV)(k:Int):List AV:=(bZ k.toNat xs).flatten
noncomputable def X6(a b:AV)(st:St):Option (AV×St):=a.i?.bind λx=>b.i?.bind λy=>if(decide (fD x>shortFactorBits)&&decide (fD y>shortFactorBits)&&GJ (fD x+fD y))=false then some (.int (x*y),st)else none
noncomputable def yZ(a b:AV)(st:St):Option (AV×St):=a.s?.bind λx=>b.i?.bind λk=>if x.length*k.toNat<=1000000/\x.length<=1000000/\-(2^62)<=k/\k<2^62 then some (.str (pq x k),st)else none
noncomputable def mulL(a b:AV)(st:St):Option (AV×St):=a.r?.bind λl=>b.i?.bind λk=>(bF st l).bind λxs=>if xs.length*k.toNat<=1000000/\-(2^62)<=k/\k<2^62 then some (.ref st.length,st++[.list (T3 xs k)])else none
noncomputable def cU:=tM X6 (tM yZ mulL)
theorem foldl_flatten{α:Type}(l:List (Array α)):∀a:Array α,l.foldl (·++·) a=a++(l.map (·.toList)).flatten.toArray :=by
 induction l with
 |nil=>exactλa=>PE.symm
 |cons x l J=>exactλa=>(J _).trans (by rw[bX,gG,<-P9,Array.toArray_toList,Array.append_assoc])
theorem E8{α:Type}(n:Nat)(x:Array α):(bZ n x).foldl (·++·) #[]=(bZ n x.toList).flatten.toArray :=by
 rw[foldl_flatten,Gw,Array.empty_append]
theorem M6{ρ:aD}{xs:List AV}{vs:List af}(h:bu ρ xs vs)(k:Nat):bu ρ (bZ k xs).flatten (bZ k vs).flatten :=by
 induction k with
 |zero=>exact .nil
 |succ k J=>exact h.append J
theorem TJ{α:Type}(n:Nat)(l:List α):(bZ n l).flatten.length =l.length*n:=by
 rw[OI,Gw,List.sum_replicate_nat,Qt]
theorem KI{x:ae}{k:Int}{t:Tok}{s:ah}{Q:af->ah->Prop}(h1:x.length*k.toNat<=1000000)(fin:∀t' tk,Q (.str (pq x k) t') {s with toks:=tk}):
 (if k<1 then FE OP else if(k==1||x.length==0)=true then QS (.str x t)else FE ⟨(bZ k.toNat x.cps).foldl (·++·) #[]⟩).post Q s:=by
 by_cases hk:k<1
 ·rw[if_pos hk]
  have e:pq x k=OP:=by unfold pq;rw[show k.toNat=0 by exact OT (PS (b:=0) hk)];rfl
  exact⟨by decide,e▸fin _ _⟩
 ·rw[if_neg hk]
  by_cases hc:(k==1||x.length==0)=true
  ·rw[if_pos hc]
   have e:pq x k=x:=by
    obtain⟨x⟩:=x;rw[oY]at hc;rcases hc with hc|hc
    ·unfold pq;rw[beq_iff_eq.mp hc];simp
    ·rw[Array.eq_empty_of_size_eq_zero (beq_iff_eq.mp hc:x.size=0)];unfold pq;simp
   exact e▸fin t s.toks
  ·rw[if_neg hc,E8]
   exact⟨by rw[sizeLine_eq];show(Rq _).toArray.size <=_;rw[dH,TJ];exact aw h1 (by decide),fin _ _⟩
theorem Sw:iw C n (binaryOp .Mult) yZ:=λA ρ st s a b S U Q E hA R N O h=>N.s h.bind λx t h=>O.i h.bind λk u h=>by
 obtain⟨⟨h1,Y,h2,h3⟩,h⟩:=h.ite;refine P.mul_str (by rw[Hu];exact⟨decide_eq_false (by exact h_.mpr (p9 (by decide) h2)),decide_eq_false (by exact ug.mpr (uz h3 (by decide)))⟩) ?_ (λ_ _=>decide_eq_false (by rw[sizeLine_eq];exact qh (aw h1 (by decide)))) (KI h1 λt' tk=>h _ ρ _ (.toks _) R ⟨_,rfl⟩);intro hk hx zH;have:=Int.lt_mul_of_ediv_lt (by exact h_.mp hk:0<k) zH;have J:((x.length*k.toNat:Nat):Int)<=1000000:=lC.mpr h1;rw[NH,Hq (by exact p9 (by decide) (h_.mp hk))]at J;exact absurd (Int.lt_of_lt_of_le this J) (by decide)
theorem Sy:iw C n (binaryOp .Mult) mulL:=λA ρ st s a b va vb Q E hA R S Y h=>S.r h.bind λl O ha h=>Y.i h.bind λk u h=>R.l ha h.bind λxs ws _ hl J h=>by
 obtain⟨⟨h1,h2,h3⟩,h⟩:=h.ite;refine bO hl λm hl=>?_;refine de (ro R (M6 J k.toNat)) λR' r' g'=>?_;have N:ws.toArray.size=xs.length:=dH.trans J.length;refine wpAny_binaryOp_repeat_ref (T:="list") (U:="int") (by decide) ⟨_,hl,rfl⟩ (λs'=>Nw s' k u) noFill_list_mul Y3 PV repeat_list Y1.lookup
  (qw PV (Nw s k u) ZQ (Zp _ _) (int___rmul___int_list k u O ws.toArray m)
   ⟨hl,rfl,⟨_,hl,rfl⟩,qw Y8 ⟨_,hl,rfl⟩ ZK (Zm _ _)
    (Zc O ws.toArray m k u (by simp[AD];exact⟨p9 (by decide) h2,uz h3 (by decide)⟩) (by rw[N];exact qh (aw h1 (by decide))) (by rw[N];simp[YW,sizeLine];exact jY h1))
    ⟨hl,?_⟩⟩)
 have ea:Hi (λx1 x2=>x1++x2) #[] (bZ (if ws.toArray.isEmpty=true then 0 else k.toNat) ws.toArray)=(bZ k.toNat ws).flatten.toArray :=by
  rw[E8];cases ws with
  |nil=>simp
  |cons=>rfl
 rw[ea];exact h _ _ _ g' R' r'
theorem kI:d8 C n (binaryOp .Mult) cU:=(iw.or (λA ρ st s a b O S Q E hA R J N h=>J.i h.bind λx t h=>N.i h.bind λy u h=>mul_int (h.ite.2 _ ρ _ (.toks _) R ⟨_,rfl⟩) (λe=>d_ (h.ite.1.symm.trans e))) (Sw.or Sy)).ok
end
end Mine
namespace Mine
open PySem PyProof.Rows PySem.W
section
variable{C:Cfg}{n:Nat}
end
structure Fx(Kf:o5)(base:aO)(mg mb:ae->Option af):Prop where
 eU:Kf.In base
 g:base.Ns mainGlobals mg
 b:base.Ns builtinsNs mb
 nolimit:base.NoLimit
 boot:∀x:ae,x≠"__name__"->mb x=bootBuiltins x
noncomputable def zb(names:List ae)(i:Nat):ae:=match names[i]? with
 |some x=>x
 |none=>⟨#[2000000+i]⟩
structure xY(names:List ae):Prop where
 nodup:names.Nodup
 small:∀x∈names,∀j,x≠⟨#[2000000+j]⟩
theorem NU{names:List ae}(h:xY names):∀i j,zb names i=zb names j->i=j:=by
 intro i j e;unfold zb at e;cases hi:names[i]? with
 |none=>
  rw[hi]at e;cases J:names[j]? with
  |none=>
   rw[J]at e
   have:(#[2000000+i]:Array Nat)=#[2000000+j]:=congrArg Str.cps e;simp at this;exact this
  |some y=>rw[J]at e;exact absurd e.symm (h.small y (j8 J) i)
 |some x=>
  rw[hi]at e;cases J:names[j]? with
  |none=>rw[J]at e;exact absurd e (h.small x (j8 hi) j)
  |some y=>
   rw[J]at e;dsimp only at e;subst e;refine bO (fX.mp hi) λh1 N=>?_;refine bO (fX.mp J) λh2 O=>?_;have key:=Tr.mp h.nodup;rcases Ss i j with q|q|q
   ·exact absurd (N.trans O.symm) (key i j h1 h2 q)
   ·exact q
   ·exact absurd (O.trans N.symm) (key j i h2 h1 q)
theorem LJ{names:List ae}(h1:names.Nodup)(h2:(names.all λx=>x.cps.all (·<2000000))=true):xY names:=
 ⟨h1,λx J j e=>by
  have:=wX.mp h2 x J;subst e;simp at this;exact absurd this (qh (c8 ..))⟩
noncomputable def cfgOf(prog:ft)(w:dB)(Kf:o5)(base:aO)(mg mb:ae->Option af)(names:List ae)(pins:List (Nat×ak))(code:af)(qual:ae)(J:xY names)(F:Fx Kf base mg mb):Cfg:=
 {prog,w,base,nm:=zb names,inj:=NU J,mg,mb,v9:=F.g,JZ:=F.b,nolimit:=F.nolimit,pins,K:=Kf,eU:=F.eU,code,qual}
theorem Fx.bE{Kf:o5}{base:aO}{mg mb:ae->Option af}(F:Fx Kf base mg mb){x:ae}{r:Option af}(e:nsIn Kf mainGlobals x=some r):mg x=r:=by
 refine jW F.g λo es ep ho hd _ hf=>?_;unfold nsIn at e;split at e
 ·rename_i c d J N sl q
  have:=F.eU _ _ q;rw[ho]at this;cases this
  cases hd
  rw[<-hf];unfold nsFind findBy;rw[<-Array.find?_toList];split at e
  ·rename_i en he
   cases e
   rw[he];rfl
  ·rename_i he
   split at e
   ·cases e
   ·cases e
    rw[he];rfl
 ·cases e
theorem Fx.cg{Kf:o5}{base:aO}{mg mb:ae->Option af}(F:Fx Kf base mg mb){x:ae}{r:Option af}(J:x≠"__name__")(e:bootBuiltins x=r):mb x=r:=(F.boot x J).trans e
noncomputable def bT(K:o5)(a:ak):List gK:=match K.lookup a with
 |some ⟨_,_,.func fd,_⟩=>(match fd.body with|.stmts b=>b|_=>[])
 |_=>[]
noncomputable def bH(K:o5)(a:ak):bc:=match K.lookup a with
 |some ⟨_,_,.func fd,_⟩=>fd.scope
 |_=>default
noncomputable def iY(K:o5)(a:ak):nQ:=match K.lookup a with
 |some ⟨_,_,.func fd,_⟩=>fd
 |_=>default
theorem lQ{l:List (ae×e7)}(h:(l.all λp=>(l.lookup p.1==some p.2)&&p.2!=.free)=true):∀p∈l,l.lookup p.1=some p.2/\p.2≠.free :=λp m=>by
 have:=wX.mp h p m;rw[gH]at this;exact⟨beq_iff_eq.mp this.1,bne_iff_ne.mp this.2⟩
section
variable{C:Cfg}{n:Nat}{sc:bc}
noncomputable def AV.v?(a:AV):Option af:=AV.casesOn a aL (λ_=>aL) (λ_=>aL) (λ_=>aL) (λ_=>aL) jI
theorem RelV.v{ρ:aD}{a:AV}{V:af}(r:RelV ρ a V){P:af->Prop}(h:Ok a.v? P):P V:=by
 cases a with
 |val x=>exact r▸h
 |_=>exact dA h
noncomputable def JJ(D:ak)(xs:List AV)(v:AV)(lo hi step:Option Int)(st:St):Option (AV×St):=v.v?.bind λw=>if w=.ref D/\xs.length<=sizeLine/\step≠some 0 then some (.ref st.length,st++[.list (pick xs lo hi step)])else none
noncomputable def xQ(D:ak)(xs:List AV)(f:EM)(lo hi step:aj->St->Option (Option Int×St)):EM:=λF st=>(f F st).bind λp=>(lo F p.2).bind λa=>(hi F a.2).bind λb=>(step F b.2).bind λc=>JJ D xs p.1 a.1 b.1 c.1 c.2
theorem K6{D:ak}{xs:List AV}{vs:List af}{value:aJ}{lower upper step:Option aJ}{p pos:bM}{f:EM}{lo hi Y}(hD:C.base.IsList D vs.toArray)(hx:∀ρ,bu ρ xs vs)
 (hv:bR C n sc value f)(h1:pK C n sc lower lo)(h2:pK C n sc upper hi)(h3:pK C n sc step Y)
 (O:∀o i,∃vs,subscripted (.Slice lower upper step p) false o i=operate vs (getItem o i)):
 bR C n sc (.Subscript value (.Slice lower upper step p) pos) (xQ D xs f lo hi Y):=by
 exact KE.s λ{A env F ρ st s Q E} hA N R h=>zP O (hv.k hA N R (h.bind.mono λp h Va Z4 t1 g1 R1 r1=>Nb (h1.u hA (N.go g1) R1 (h.bind.mono λa h V1 bA t2 g2 R2 p1=>h2.u hA (N.go (g1.trans g2)) R2 (h.bind.mono λb h V2 Z5 t3 g3 R3 p2=>
  h3.u hA (N.go ((g1.trans g2).trans g3)) R3 (h.bind.mono λc h V3 J t4 g4 R4 p3=>by
   refine de (Ec (C:=C) (V1:=V1) (V2:=V2) (V3:=V3) R4) λe5 g5 R5=>?_;obtain⟨hs,h⟩:=(r1.v h.bind).ite;refine de hs λe0 S U=>?_;refine dh hD λo e hc hl=>?_;have e:=R5.keep _ _ e;rw[e0];refine⟨"list",_,Hf.lookup,⟨o,e,hc⟩,Og ⟨o,e,hc,hl⟩ ⟨_,e5,rfl,rfl⟩ p1 p2 p3 U ?_ (by rw[dH,(hx J).length];exact S)⟩;rw[show slicePick vs.toArray a.1 b.1 c.1=(Mine.pick vs a.1 b.1 c.1).toArray by unfold slicePick Mine.pick;simp];refine de (ro (C:=C) (s:={t4 with heap:=t4.heap.push {cls:=.type "slice",data:=.fields #[V1,V2,V3]}}) R5 ((hx J).pick a.1 b.1 c.1)) λR' r' g'=>?_;exact h _ _ _ (((((g1.trans g2).trans g3).trans g4).trans g5).trans g') R' r'))))))
noncomputable def tl(nx:Nat->St->Option (Option AV×St))(f:EM):aj->St->Option (It×St):=λF st=>(f F st).bind λp=>p.1.r?.bind λk=>(p.2[k]?).bind λo=>(o.Df.map λ_=>(.gen k (nx k),p.2)).or (o.yN.map λ_=>(.gen k (nx k),p.2))
theorem DM:qb "callable_iterator" "__iter__" "callable_iterator.__iter__":=
 .of (owner:="callable_iterator") (n:="__iter__") (by rw[mh,mf];kernel_rfl) (by decide+kernel) (by decide+kernel) (by decide+kernel)
  (by first|exact .inl (by decide+kernel)|exact .inr (by decide+kernel)) (by rw[rM];kernel_rfl)
theorem Kh:entryFor table "callable_iterator.__iter__"=some Builtin.«dict_keyiterator.__iter__»:=
 entryFor_alias (id':="dict_keyiterator.__iter__") (by kernel_rfl) (by first|rfl|decide+kernel|(unfold String.splitOn;simp+decide [String.splitOnAux])) (by decide+kernel) (by kernel_rfl)
theorem Kr(a:af):argsOk "callable_iterator.__iter__" ⟨[a],[]⟩:=by
 unfold argsOk;rw[GN (id:="callable_iterator.__iter__") (n:=['_','_','r','e','t','i','_','_']) (o:=['r','o','t','a','r','e','t','i','_','e','l','b','a','l','l','a','c']) (by kernel_rfl) FL];kernel_rfl
theorem EI{A:bg}{s:ah}{a:ak}{N:Array af}{Q:af->ah->Prop}{E:af->ah->Prop}(h:s.heap.get? a=some {cls:=.type "callable_iterator",data:=.fields N})(O:Q (.ref a) s):
 wpAny (model C.prog C.w) A (pyIter (.ref a)) Q E s:=by
 have J:s.TypeIs (.ref a) "callable_iterator":=⟨_,h,rfl⟩;refine wpAny_pyIter_slot J DM (p_ DM J Kh ?_ (Kr _));show wpAny _ _ (ret (.ref a)) _ _ s;exact aU ⟨_,rfl,"callable_iterator",_,J,zR.lookup,O⟩
theorem Ar{e:aJ}{f:EM}{nx:Nat->St->Option (Option AV×St)}(J:∀k,CL C n k (nx k))(he:bR C n sc e f):mL C n sc e (tl nx f):=by
 exact⟨λhA N R h=>he.k hA N R (h.bind.mono λp h V O t1 g1 S r1=>r1.r h.bind λk Y hk h=>S.o hk h.bind λo c h=>h.or.elim
  (λh=>He c h.map λl i la hl hit h=>A6 hit (h Y [] O t1 g1 S ⟨rfl,hk,J k⟩ fz fz λA s' Q E U q=>A6 (hit.elim λo e=>⟨o,U _ _ e.1,e.2⟩) q))
  λh=>Aa c h.map λf x fa V hf ho r h=>EI ho (h Y [] O t1 g1 S ⟨rfl,hk,J k⟩ fz fz λA s' Q E U q=>EI (U _ _ ho) q))⟩
end
open Builtin.ObjectAttr
theorem DU:qb "function" "__setattr__" "object.__setattr__":=
 .of (owner:="object") (n:="__setattr__") (by rw[mh,mf];kernel_rfl) (by decide+kernel) (by decide+kernel) (by decide+kernel)
  (by first|exact .inl (by decide+kernel)|exact .inr (by decide+kernel)) (by rw[rM];kernel_rfl)
theorem BO:typeLookup (.type "function") ("read":ae)=pure none:=by rw[mh,mf];kernel_rfl
theorem VN:mroOf (.type "function")=pure [.type "function",.type "object"]:=by rw[mroOf_type];kernel_rfl
theorem La:typeHasDict (.type "function")=true:=by decide+kernel
theorem M2(self:af):refuseLoop self "__setattr__" [.type "function",.type "object"]=pure ():=by kernel_rfl
section
variable{prog:ft}{w:dB}{A:bg}{E:af->ah->Prop}{s:ah}
theorem Uv{f:ak}{fd:nQ}{v:af}{Q:Unit->ah->Prop}(ho:s.heap.get? f=some {cls:=.type "function",data:=.func fd})
 (K:∀h' tk t gx ep,h'.get? f=some {cls:=.type "function",dict:=some s.heap.objs.size,data:=.func fd}->
  h'.get? s.heap.objs.size=some {cls:=.type "dict",data:=.dict #[⟨gx,.str "read" t,v⟩] ep}->(∀b o,b≠f->s.heap.get? b=some o->h'.get? b=some o)->Q () {s with heap:=h',toks:=tk}):
 wpAny (model prog w) A (setAttr (.ref f) "read" v) Q E s:=by
 have S:=Y_;have hT:s.TypeIs (.ref f) "function":=⟨_,ho,rfl⟩;refine ar (AJ ?_);refine ar (xu (name:=dz "__setattr__") (T:="function") ⟨_,ho,rfl⟩ DU
  (p_ DU ⟨_,ho,rfl⟩ S.entry ?_ (S.args _ _ _)))
 rw[osa_eq,refuse_eq];refine ar (ar (xM (T:="function") ⟨_,ho,rfl⟩ (ar (d9 VN ?_))));refine d9 (M2 _) ?_;refine ar (xM (T:="function") ⟨_,ho,rfl⟩ (ar (d9 BO (ar ?_))));refine aU ?_;dsimp only;show wpAny _ _ (storeInOwnDict (.ref f) (.type "function") (.str "read" s.toks) "read" v false) _ _ _;unfold storeInOwnDict;refine ar (m:=ownStreamTells _ _) (d9 (a:=()) (by kernel_rfl) ?_);rw[if_neg (by simp)];refine ar ?_;show wpAny _ _ (instanceDict f true) _ _ _;unfold instanceDict;refine ar (sa ho ?_);dsimp only;rw[if_neg (by rw[La];decide)];refine ar (Nv ?_);have O:(s.heap.push {cls:=.type "dict",data:=.dict #[]}).get? f=some {cls:=.type "function",data:=.func fd}:=kD _ ho;refine ar (wpAny_update O ?_);generalize N:(s.heap.push {cls:=.type "dict",data:=.dict #[]}).update f (λo=>{o with dict:=some s.heap.objs.size})=h1;have R:s.heap.objs.size≠f:=λe=>by rw[<-e,fR]at ho;cases ho
 have Y:h1.get? f=some {cls:=.type "function",dict:=some s.heap.objs.size,data:=.func fd}:=by rw[<-N,qm _ O rfl]
 have D:h1.get? s.heap.objs.size=some {cls:=.type "dict",data:=.dict #[]}:=by rw[<-N,lE _ _ _ _ R];exact dM _ rfl
 have kk:∀b o,b≠f->s.heap.get? b=some o->h1.get? b=some o:=λb o ne e=>by rw[<-N,lE _ _ _ _ ne];exact dk _ _ _ _ e
 refine d9 (a:=some s.heap.objs.size) (by rfl) ?_;dsimp only;unfold storeInDict;refine ar (m:=newKeyGuard _ _ _) (d9 (a:=()) (by rfl) ?_);refine ar ?_;unfold nsSet;refine ar (ar (Hx (aU (ar (AJ (ar (sa D ?_)))))));dsimp only;rw[Pd];rw[if_neg (by simp)];generalize hk:(if(dz "read").cps.isEmpty =true then(0:Int)else reduceHash ((model prog w).w.params.strHash (dz "read").cps))=gx;have J:∃ep,uE ("read":ae) gx (.str "read" (s.toks+1)) v {cls:=.type "dict",data:=.dict #[]}={cls:=.type "dict",data:=.dict #[⟨gx,.str "read" (s.toks+1),v⟩] ep}:=⟨1,rfl⟩;refine bO J λep J=>?_;have U:(h1.update s.heap.objs.size (uE ("read":ae) gx (.str "read" (s.toks+1)) v)).get? s.heap.objs.size=some {cls:=.type "dict",data:=.dict #[⟨gx,.str "read" (s.toks+1),v⟩] ep}:=by
  rw[qm _ D (by rw[J];rfl),J]
 refine Ox D ?_;refine ar (Ro U (Q6 (by rw[sizeLine_eq];simp)) ?_);refine aU ⟨_,rfl,?_⟩;refine aU ?_;refine K _ _ _ gx ep ?_ U λb o ne e=>?_
 ·rw[lE _ _ _ _ R.symm];exact Y
 ·rw[lE _ _ _ _ (λq=>by rw[q,fR]at e;cases e)];exact kk b o ne e
end
end Mine
namespace Mine
open PySem PyProof.Rows PySem.W
section
variable{C:Cfg}{n:Nat}
theorem A2{sc:bc}{P:ak}{ρ:aD}{st:St}{F:aj}{env:aR}{s:ah}{h':aO}{tk:Nat}(R:Rel C ρ st s.heap)(N:a8 C sc ρ F env s.heap)(J:P∉ρ)(hB:C.base.get? P=none)
 (hL:env.locals≠P)(O:∀x c,env.cells.lookup x=some c->c≠P)(k:∀b o,b≠P->s.heap.get? b=some o->h'.get? b=some o)(al:∃o,h'.get? P=some o):
 Rel C ρ st h'/\a8 C sc ρ F env h'/\Go (·=P) ρ s ρ {s with heap:=h',toks:=tk}:=by
 refine⟨R.lT (·=P) (λb o e ne=>k b o ne e) (λa m e=>J (e▸m)) (λa o e z=>by rw[z,hB]at e;cases e),N.step (jE _) λa o e n h=>⟨k a o ?_ e,n⟩,⟨jE _,λ_ h=>.inl h,λa o e _ ne=>k a o ne e,λa o e=>?_,rfl,rfl⟩⟩
 ·rcases h with rfl|⟨x,h⟩
  ·exact hL
  ·exact O x a h
 ·by_cases q:a=P
  ·subst q;exact al
  ·exact⟨o,k a o q e⟩
structure Nr(C:Cfg)(ρ:aD)(st:St)(s s':ah)(x:ae)(lp rA sA:ak)(params:qu)(body:List gK)(scope:bc):Prop where
 go:Go (·=106) ρ s (ρ++[lp]) s'
 rel:Rel C (ρ++[lp]) (st++[.list [.int 0]]) s'.heap
 read:∃cp ct c' d3 doc pm t,s'.heap.get? rA=some (fnMade "read" "_law_stream.<locals>.read" params body scope [("text",ct),("places",cp)] doc pm c' d3)/\s'.heap.CodeRec (.ref c') "_law_stream.<locals>.read"/\
  s'.heap.IsCell cp (some (.ref lp))/\s'.heap.IsCell ct (some (.str x t))/\cp∉ρ++[lp]/\ct∉ρ++[lp]/\c'∉ρ++[lp]/\cp≠ct/\s.heap.get? cp=none/\s.heap.get? ct=none/\s.heap.get? c'=none
 stream:∃da fd gx t ep,s'.heap.get? sA=some {cls:=.type "function",dict:=some da,data:=.func fd}/\s'.heap.get? da=some {cls:=.type "dict",data:=.dict #[⟨gx,.str "read" t,.ref rA⟩] ep}/\da∉ρ++[lp]/\s.heap.get? da=none
 Xx:rA∉ρ++[lp]
 XF:s.heap.get? rA=none
 XM:s.heap.get? sA=none
 XT:sA∉ρ++[lp]
 tab:∃ps,s'.heap.get? 106=some (tabObj ps)
end
structure sS(C:Cfg)(n:Nat)(sc:bc)(τ zG:Nat)(pre:List gK)(f:SM):Prop where
 u:∀A env F ρ st s F' st' rest Q E,bN n A->τ<=s.toks->a8 C sc ρ F env s.heap->Rel C ρ st s.heap->f F st=some (.next,F',st')->
  (∀aq s',Go (dr env) ρ s aq s'->a8 C sc aq F' env s'.heap->Rel C aq st' s'.heap->zG<=s'.toks->wpAny (model C.prog C.w) A (execs rest env) Q E s')->wpAny (model C.prog C.w) A (execs (pre++rest) env) Q E s
section
variable{C:Cfg}{n:Nat}{sc:bc}{τ zG:Nat}
theorem Ce:sS C n sc τ τ [] aC:=by
 refine⟨?_⟩;intro A env F ρ st s F' st' rest Q E hA ht N R h K;cases h
 exact K ρ s .refl N R ht
theorem fk{x:gK}{xs:List gK}{f g:SM}(U:cA C n sc τ x f)(hs:sS C n sc τ zG xs g):sS C n sc τ zG (x::xs) (ao f g):=by
 refine⟨?_⟩;intro A env F ρ st s F' st' rest Q E hA ht N R h K;obtain⟨⟨J,F1,s1⟩,h1,h⟩:=vC h;cases J with
 |next=>
  refine kH (wt ht (U.u A env F ρ st s .next F1 s1 _ E hA ht N R h1 λr O t1 g1 Y R1 r1 S=>?_));cases r1
  exact hs.u A env F1 O s1 t1 F' st' rest Q E hA S Y R1 h λaq s' g' N' R' t'=>K aq s' (g1.trans g') N' R' t'
 |brk=>cases h
 |cont=>cases h
 |ret v=>cases h
end
open PySem.Sre PySem.Sre.M
theorem tV{m:M}(h:m.outcome.isSome=true):∀n,runFor n m=m:=by
 intro n;induction n with
 |zero=>
  exact rfl
 |succ n J=>
  unfold runFor;rw[if_pos h]
theorem di{m:M}(h:m.outcome.isSome=false)(n:Nat):runFor (n+1) m=runFor n m.step:=by
 show(if m.outcome.isSome=true then m else runFor n m.step)=_;rw[if_neg (by rw[h];decide)]
theorem Ef(a b:Nat)(m:M):runFor (a+b) m=runFor b (runFor a m):=by
 induction a generalizing m with
 |zero=>rw[hK];rfl
 |succ a J=>
  cases h:m.outcome.isSome with
  |true=>rw[tV h,tV h,tV h]
  |false=>rw[show a+1+b=(a+b)+1 by exact hH ..,di h,di h,J]
section
variable{prog:ft}{w:dB}{A:bg}{E:af->ah->Prop}{s:ah}
theorem drive{Q:M->ah->Prop}{m':M}(ho:m'.outcome.isSome=true)(R:Q m' s):∀(T N:Nat)(m:M),N<4*T->runFor N m=m'->wpAny (model prog w) A (E_ T m) Q E s:=by
 intro T;induction T with
 |zero=>
  intro N m J hr;exact absurd J (gk _)
 |succ T S=>
  intro N m J hr;unfold E_;show wpAny _ _ (if(runFor 4 m).outcome.isSome =true then pure (runFor 4 m)else do rule "sre.turn";E_ T (runFor 4 m)) _ _ _;by_cases O:N<=4
  ·have e:runFor 4 m=m':=by
    rw[show 4=N+(4 -N) by exact(qk O).symm,Ef,hr,tV ho]
   rw[e,if_pos ho];exact aU R
  ·have e:runFor (N -4) (runFor 4 m)=m':=by rw[<-Ef,show 4+(N -4)=N by exact qk (cq (uy O)),hr]
   split
   ·rename_i h5
    rw[tV h5]at e;rw[e];exact aU R
   ·exact ar (nJ (S (N -4) _ (by exact Nat.sub_lt_left_of_lt_add (cq (uy O)) (cK J (bS (gI (4*T) 4)))) e))
end
noncomputable def ov:Array Nat:=#[14,4,0,1,1,6,1,16,46,1]
noncomputable def A1(text:Array Nat)(s:Nat)(first J:Bool)(seen:eH):M:=
 {code:=ov,text,lim:=text.size,start:=s,lastStart:=text.size,mustAdvance:=J,pc:=5,pos:=s,handed:=s,outermost:=first,marks:=#[],
  frames:=[{wait:=.nextStart,pc:=5,pos:=s,outermost:=first}],weight:=1,seen}
noncomputable def og(text:Array Nat)(s:Nat):Bool:=s==0||text.getD (s -1) 0==10
theorem uN(text:Array Nat)(s:Nat)(first J:Bool)(seen:eH):(A1 text s first J seen).step =
 (if og text s=true then{A1 text s first J ((seen.add 6).add 44)with pc:=7}else{A1 text s first J ((seen.add 6).add 44)with answer:=some false}):=by
 show(let m:={A1 text s first J seen with seen:=seen.add 6};let m:={m with seen:=m.seen.add (43+1)};if og text s=true then{m with pc:=7}else m.say false)=_;rfl
theorem Bl(text:Array Nat)(s:Nat)(first J:Bool)(seen:eH):({A1 text s first J seen with pc:=7}:M).step =
 (if s<text.size/\text.getD s 0=46 then{A1 text s first J (seen.add 16)with pc:=9,pos:=s+1}else{A1 text s first J (seen.add 16)with pc:=7,answer:=some false}):=by
 by_cases h1:s<text.size
 ·by_cases h2:text.getD s 0=46
  ·rw[if_pos ⟨h1,h2⟩]
   show(if s>=text.size then _ else _:M)=_;rw[if_neg (j0.mpr h1)];show(match(iE (text.getD s 0==46,seen.add 16):Except String (Bool×eH))with|.error why=>_|.ok (false,seen)=>_|.ok (true,seen)=>_:M)=_;rw[h2];rfl
  ·rw[if_neg (λh=>h2 h.2)]
   show(if s>=text.size then _ else _:M)=_;rw[if_neg (j0.mpr h1)];show(match(iE (text.getD s 0==46,seen.add 16):Except String (Bool×eH))with|.error why=>_|.ok (false,seen)=>_|.ok (true,seen)=>_:M)=_;rw[beq_eq_false_iff_ne.mpr h2];rfl
 ·rw[if_neg (λh=>h1 h.1)]
  show(if s>=text.size then _ else _:M)=_;rw[if_pos (iH.mp h1)];rfl
theorem NJ(text:Array Nat)(s:Nat)(first J:Bool)(seen:eH):({A1 text s first J seen with pc:=9,pos:=s+1}:M).step =
 {A1 text s first J (seen.add 1)with pc:=9,pos:=s+1,handed:=s+1,answer:=some true}:=by
 show(if(first&&((false&&(s+1)!=text.size)||(J&&(s+1)==s)))=true then _ else _:M)=_
 have:((s+1)==s)=false:=by simp
 rw[this];simp;rfl
theorem VD(text:Array Nat)(s:Nat)(first J:Bool)(seen:eH)(pc:Nat):(runFor 2 ({A1 text s first J seen with pc:=pc,pos:=s+1,handed:=s+1,answer:=some true}:M))=
 {A1 text s first J seen with handed:=s+1,frames:=[],weight:=0,answer:=some true,outcome:=some .matched }:=by
 rfl
theorem Im(text:Array Nat)(s:Nat)(first J:Bool)(seen:eH)(pc:Nat)(hs:s<text.size):({A1 text s first J seen with pc:=pc,answer:=some false}:M).step =A1 text (s+1) false false seen:=by
 show(if s<text.size then _ else _:M)=_;rw[if_pos hs];rfl
theorem IV(text:Array Nat)(s:Nat)(first J:Bool)(seen:eH)(pc:Nat)(hs:¬s<text.size):∃m:M,runFor 2 ({A1 text s first J seen with pc:=pc,answer:=some false}:M)=m/\m.outcome=some .failed :=by
 refine⟨_,rfl,?_⟩;show M.outcome (runFor 1 (if s<text.size then _ else _:M))=_;rw[if_neg hs];rfl
noncomputable def kY(text:Array Nat)(s:Nat):Bool:=og text s&&decide (s<text.size)&&text.getD s 0==46
noncomputable def nU(text:Array Nat):Nat->Nat->Option Nat
 |0,_=>none
 |k+1,s=>if kY text s=true then some s else nU text k (s+1)
theorem Er(t:Array Nat)(k s:Nat):nU t (k+1) s=if kY t s=true then some s else nU t k (s+1):=rfl
theorem XJ(text:Array Nat):∀k s,text.size -s=k->s<=text.size->∀first J seen,∃N m,N<=4*k+8/\runFor N (A1 text s first J seen)=m/\
 (match nU text k s with|some e=>m.outcome=some .matched /\m.start=e/\m.handed=e+1|none=>m.outcome=some .failed):=by
 intro k;induction k with
 |zero=>
  intro s hk hs first J seen;have R:¬s<text.size:=by exact qh (xI hk)
  show∃N m,N<=8/\runFor N (A1 text s first J seen)=m/\m.outcome=some .failed;cases hl:og text s with
  |false=>
   refine aG (IV text s first J ((seen.add 6).add 44) 5 R) λm hm ho=>?_;refine⟨3,m,by exact dm ..,?_,ho⟩;rw[show(3:Nat)=2+1 from rfl,di rfl,uN,if_neg (by rw[hl];decide)];exact hm
  |true=>
   refine aG (IV text s first J (((seen.add 6).add 44).add 16) 7 R) λm hm ho=>?_;refine⟨4,m,by exact dm ..,?_,ho⟩;rw[show(4:Nat)=2+1+1 from rfl,di rfl,uN,if_pos hl,di rfl,Bl,if_neg (λh=>R h.1)];exact hm
 |succ k S=>
  intro s hk hs first J seen;have O:s<text.size:=by exact EV hk
  rw[Er];cases hl:og text s with
  |false=>
   have hd:kY text s=false:=by unfold kY;rw[hl];rfl
   rw[hd,if_neg (by decide)];refine fH (S (s+1) (by exact congrArg qx hk) (by exact cK (iI _) O) false false ((seen.add 6).add 44)) λN m h1 h2 h3=>?_;refine⟨N+1+1,m,by exact k4 (j:=2) h1 (by decide),?_,h3⟩;rw[di rfl,uN,if_neg (by rw[hl];decide),di rfl];have:=Im text s first J ((seen.add 6).add 44) 5 O;exact(congrArg (runFor N) this).trans h2
  |true=>
   by_cases hc:text.getD s 0=46
   ·have hd:kY text s=true:=by unfold kY;rw[hl,decide_eq_true O,beq_iff_eq.mpr hc];rfl
    rw[hd,if_pos rfl];refine⟨5,_,by exact dm ..,rfl,?_⟩;rw[show(5:Nat)=2+1+1+1 from rfl,di rfl,uN,if_pos hl,di rfl,Bl,if_pos ⟨O,hc⟩,di rfl,NJ,VD];exact⟨rfl,rfl,rfl⟩
   ·have hd:kY text s=false:=by unfold kY;rw[beq_eq_false_iff_ne.mpr hc,FV]
    rw[hd,if_neg (by decide)];refine fH (S (s+1) (by exact congrArg qx hk) (by exact cK (iI _) O) false false (((seen.add 6).add 44).add 16)) λN m h1 h2 h3=>?_;refine⟨N+1+1+1,m,by exact k4 (j:=3) h1 (by decide),?_,h3⟩;rw[di rfl,uN,if_pos hl,di rfl,Bl,if_neg (λh=>hc h.2),di rfl];have:=Im text s first J (((seen.add 6).add 44).add 16) 7 O;exact(congrArg (runFor N) this).trans h2
noncomputable def ke:Array Nat:=#[14,9,4,1,2,16,10,16,13,0,7,7,16,13,16,10,15,18,5,16,10,15,13,11,16,13,5,5,0,16,10,1,15,2,0,1]
noncomputable def B2(text:Array Nat)(s:Nat)(frames:List wK)(weight pc pos handed:Nat)(outer:Bool)(answer:Option Bool)(seen:eH):M:=
 {code:=ke,text,lim:=text.size,start:=s,lastStart:=text.size,pc,pos,handed,outermost:=outer,marks:=#[],frames,weight,answer,seen}
noncomputable def kL(s:Nat)(first:Bool):wK:={wait:=.nextStart,pc:=10,pos:=s,outermost:=first}
noncomputable def m6(s pc:Nat)(first:Bool):wK:={wait:=.nextBranch,pc:=pc,pos:=s,outermost:=first}
noncomputable def JA(pos:Nat)(first:Bool):wK:={wait:=.lookNot,pc:=26,pos:=pos,outermost:=first}
section
variable(text:Array Nat)(s:Nat)(frames:List wK)(weight pos handed:Nat)(outer:Bool)(seen:eH)
theorem CT:(B2 text s frames weight 12 pos handed outer none seen).step =
 (if pos<text.size/\text.getD pos 0=13 then B2 text s frames weight 14 (pos+1) handed outer none (seen.add 16)else B2 text s frames weight 12 pos handed outer (some false) (seen.add 16)):=by
 by_cases h1:pos<text.size
 ·by_cases h2:text.getD pos 0=13
  ·rw[if_pos ⟨h1,h2⟩]
   show(if pos>=text.size then _ else _:M)=_;rw[if_neg (j0.mpr h1)];show(match(iE (text.getD pos 0==13,seen.add 16):Except String (Bool×eH))with|.error why=>_|.ok (false,seen)=>_|.ok (true,seen)=>_:M)=_;rw[h2];rfl
  ·rw[if_neg (λh=>h2 h.2)]
   show(if pos>=text.size then _ else _:M)=_;rw[if_neg (j0.mpr h1)];show(match(iE (text.getD pos 0==13,seen.add 16):Except String (Bool×eH))with|.error why=>_|.ok (false,seen)=>_|.ok (true,seen)=>_:M)=_;rw[beq_eq_false_iff_ne.mpr h2];rfl
 ·rw[if_neg (λh=>h1 h.1)]
  show(if pos>=text.size then _ else _:M)=_;rw[if_pos (iH.mp h1)];rfl
theorem Jf:(B2 text s frames weight 14 pos handed outer none seen).step =
 (if pos<text.size/\text.getD pos 0=10 then B2 text s frames weight 16 (pos+1) handed outer none (seen.add 16)else B2 text s frames weight 14 pos handed outer (some false) (seen.add 16)):=by
 by_cases h1:pos<text.size
 ·by_cases h2:text.getD pos 0=10
  ·rw[if_pos ⟨h1,h2⟩]
   show(if pos>=text.size then _ else _:M)=_;rw[if_neg (j0.mpr h1)];show(match(iE (text.getD pos 0==10,seen.add 16):Except String (Bool×eH))with|.error why=>_|.ok (false,seen)=>_|.ok (true,seen)=>_:M)=_;rw[h2];rfl
  ·rw[if_neg (λh=>h2 h.2)]
   show(if pos>=text.size then _ else _:M)=_;rw[if_neg (j0.mpr h1)];show(match(iE (text.getD pos 0==10,seen.add 16):Except String (Bool×eH))with|.error why=>_|.ok (false,seen)=>_|.ok (true,seen)=>_:M)=_;rw[beq_eq_false_iff_ne.mpr h2];rfl
 ·rw[if_neg (λh=>h1 h.1)]
  show(if pos>=text.size then _ else _:M)=_;rw[if_pos (iH.mp h1)];rfl
theorem Jc:(B2 text s frames weight 19 pos handed outer none seen).step =
 (if pos<text.size/\text.getD pos 0=10 then B2 text s frames weight 21 (pos+1) handed outer none (seen.add 16)else B2 text s frames weight 19 pos handed outer (some false) (seen.add 16)):=by
 by_cases h1:pos<text.size
 ·by_cases h2:text.getD pos 0=10
  ·rw[if_pos ⟨h1,h2⟩]
   show(if pos>=text.size then _ else _:M)=_;rw[if_neg (j0.mpr h1)];show(match(iE (text.getD pos 0==10,seen.add 16):Except String (Bool×eH))with|.error why=>_|.ok (false,seen)=>_|.ok (true,seen)=>_:M)=_;rw[h2];rfl
  ·rw[if_neg (λh=>h2 h.2)]
   show(if pos>=text.size then _ else _:M)=_;rw[if_neg (j0.mpr h1)];show(match(iE (text.getD pos 0==10,seen.add 16):Except String (Bool×eH))with|.error why=>_|.ok (false,seen)=>_|.ok (true,seen)=>_:M)=_;rw[beq_eq_false_iff_ne.mpr h2];rfl
 ·rw[if_neg (λh=>h1 h.1)]
  show(if pos>=text.size then _ else _:M)=_;rw[if_pos (iH.mp h1)];rfl
theorem W1:(B2 text s frames weight 24 pos handed outer none seen).step =
 (if pos<text.size/\text.getD pos 0=13 then B2 text s frames weight 26 (pos+1) handed outer none (seen.add 16)else B2 text s frames weight 24 pos handed outer (some false) (seen.add 16)):=by
 by_cases h1:pos<text.size
 ·by_cases h2:text.getD pos 0=13
  ·rw[if_pos ⟨h1,h2⟩]
   show(if pos>=text.size then _ else _:M)=_;rw[if_neg (j0.mpr h1)];show(match(iE (text.getD pos 0==13,seen.add 16):Except String (Bool×eH))with|.error why=>_|.ok (false,seen)=>_|.ok (true,seen)=>_:M)=_;rw[h2];rfl
  ·rw[if_neg (λh=>h2 h.2)]
   show(if pos>=text.size then _ else _:M)=_;rw[if_neg (j0.mpr h1)];show(match(iE (text.getD pos 0==13,seen.add 16):Except String (Bool×eH))with|.error why=>_|.ok (false,seen)=>_|.ok (true,seen)=>_:M)=_;rw[beq_eq_false_iff_ne.mpr h2];rfl
 ·rw[if_neg (λh=>h1 h.1)]
  show(if pos>=text.size then _ else _:M)=_;rw[if_pos (iH.mp h1)];rfl
theorem Xh:(B2 text s frames weight 29 pos handed outer none seen).step =
 (if pos<text.size/\text.getD pos 0=10 then B2 text s frames weight 31 (pos+1) handed outer none (seen.add 16)else B2 text s frames weight 29 pos handed outer (some false) (seen.add 16)):=by
 by_cases h1:pos<text.size
 ·by_cases h2:text.getD pos 0=10
  ·rw[if_pos ⟨h1,h2⟩]
   show(if pos>=text.size then _ else _:M)=_;rw[if_neg (j0.mpr h1)];show(match(iE (text.getD pos 0==10,seen.add 16):Except String (Bool×eH))with|.error why=>_|.ok (false,seen)=>_|.ok (true,seen)=>_:M)=_;rw[h2];rfl
  ·rw[if_neg (λh=>h2 h.2)]
   show(if pos>=text.size then _ else _:M)=_;rw[if_neg (j0.mpr h1)];show(match(iE (text.getD pos 0==10,seen.add 16):Except String (Bool×eH))with|.error why=>_|.ok (false,seen)=>_|.ok (true,seen)=>_:M)=_;rw[beq_eq_false_iff_ne.mpr h2];rfl
 ·rw[if_neg (λh=>h1 h.1)]
  show(if pos>=text.size then _ else _:M)=_;rw[if_pos (iH.mp h1)];rfl
theorem VZ:(B2 text s frames weight 16 pos handed outer none seen).step =B2 text s frames weight 35 pos handed outer none (seen.add 15):=by rfl
theorem Wx:(B2 text s frames weight 21 pos handed outer none seen).step =B2 text s frames weight 35 pos handed outer none (seen.add 15):=by rfl
theorem UA:(B2 text s frames weight 32 pos handed outer none seen).step =B2 text s frames weight 35 pos handed outer none (seen.add 15):=by rfl
theorem CH:(B2 text s frames weight 35 pos handed outer none seen).step =B2 text s frames weight 35 pos pos outer (some true) (seen.add 1):=by
 show(if(outer&&((false&&pos !=text.size)||(false&&pos==s)))=true then _ else _:M)=_;simp;rfl
theorem Ah(first:Bool):(B2 text s [kL s first] 1 10 s s first none seen).step =B2 text s [m6 s 11 first,kL s first] 2 12 s s first none (seen.add 7):=by rfl
theorem IL(first:Bool)(p h:Nat)(o:Bool)(pc:Nat):(B2 text s [m6 s 11 first,kL s first] 2 pc p h o (some false) seen).step =B2 text s [m6 s 18 first,kL s first] 2 19 s s first none seen:=by rfl
theorem VS(first:Bool)(p h:Nat)(o:Bool)(pc:Nat):(B2 text s [m6 s 18 first,kL s first] 2 pc p h o (some false) seen).step =B2 text s [m6 s 23 first,kL s first] 2 24 s s first none seen:=by rfl
theorem Us(first:Bool)(p:Nat):(B2 text s [m6 s 23 first,kL s first] 2 26 p handed first none seen).step =B2 text s [JA p first,m6 s 23 first,kL s first] 3 29 p p false none (seen.add 5):=by rfl
theorem VC(first:Bool)(p q h:Nat)(pc:Nat):(B2 text s [JA p first,m6 s 23 first,kL s first] 3 pc q h false (some false) seen).step =B2 text s [m6 s 23 first,kL s first] 2 32 p h first none seen:=by rfl
theorem CZ(first:Bool)(b p h pc:Nat)(o:Bool):∃m,runFor 3 (B2 text s [m6 s b first,kL s first] 2 pc p h o (some true) seen)=m/\m.outcome=some .matched /\m.start=s/\m.handed=h:=⟨_,rfl,rfl,rfl,rfl⟩
end
noncomputable def mM(text:Array Nat)(s:Nat):Bool:=decide (s<text.size)&&(text.getD s 0==10||text.getD s 0==13)
noncomputable def kR(text:Array Nat)(s:Nat):Nat:=if text.getD s 0=13/\s+1<text.size/\text.getD (s+1) 0=10 then s+2 else s+1
noncomputable def mC(text:Array Nat):Nat->Nat->Option Nat
 |0,_=>none
 |k+1,s=>if mM text s=true then some s else mC text k (s+1)
theorem Be(t:Array Nat)(k s:Nat):mC t (k+1) s=if mM t s=true then some s else mC t k (s+1):=rfl
theorem XI(text:Array Nat)(s:Nat)(h:mM text s=true)(first:Bool)(seen:eH):∃N m,N<=20/\runFor N (B2 text s [kL s first] 1 10 s s first none seen)=m/\m.outcome=some .matched /\m.start=s/\m.handed=kR text s:=by
 unfold mM at h;rw[gH,oY]at h;obtain⟨hs,hc⟩:=h;have hs:=of_decide_eq_true hs;by_cases J:text.getD s 0=13
 ·by_cases O:s+1<text.size/\text.getD (s+1) 0=10
  ·have e:kR text s=s+2:=if_pos ⟨J,O.1,O.2⟩
   refine jj (CZ text s ((((((seen.add 7).add 16).add 16).add 15).add 1)) first 11 (s+1+1) (s+1+1) 35 first) λm hm h1 h2 h3=>?_;refine⟨3+1+1+1+1+1,m,by exact dm ..,?_,h1,h2,by rw[h3,e]⟩;rw[di rfl,Ah,di rfl,CT,if_pos ⟨hs,J⟩,di rfl,Jf,if_pos O,di rfl,VZ,di rfl,CH];exact hm
  ·have e:kR text s=s+1:=if_neg (λz=>O z.2)
   have R:¬text.getD s 0=10:=by rw[J];decide
   refine jj (CZ text s (((((((((seen.add 7).add 16).add 16).add 16).add 16).add 5).add 16).add 15).add 1) first 23 (s+1) (s+1) 35 first) λm hm h1 h2 h3=>?_;refine⟨3+1+1+1+1+1+1+1+1+1+1+1+1,m,by exact oQ (dm ..),?_,h1,h2,by rw[h3,e]⟩;rw[di rfl,Ah,di rfl,CT,if_pos ⟨hs,J⟩,di rfl,Jf,if_neg O,di rfl,IL,di rfl,Jc,if_neg (λz=>R z.2),di rfl,VS,
    di rfl,W1,if_pos ⟨hs,J⟩,di rfl,Us,di rfl,Xh,if_neg O,di rfl,VC,di rfl,UA,di rfl,CH]
   exact hm
 ·have O:text.getD s 0=10:=by
   rcases hc with hc|hc
   ·exact beq_iff_eq.mp hc
   ·exact absurd (beq_iff_eq.mp hc) J
  have e:kR text s=s+1:=if_neg (λz=>J z.1);refine jj (CZ text s (((((seen.add 7).add 16).add 16).add 15).add 1) first 18 (s+1) (s+1) 35 first) λm hm h1 h2 h3=>?_;refine⟨3+1+1+1+1+1+1,m,by exact dm ..,?_,h1,h2,by rw[h3,e]⟩;rw[di rfl,Ah,di rfl,CT,if_neg (λz=>J z.2),di rfl,IL,di rfl,Jc,if_pos ⟨hs,O⟩,di rfl,Wx,di rfl,CH];exact hm
theorem Wr(c:Nat)(seen:eH):∃J,inSet ke c ke.size 5 true seen=.ok (c==10||c==13,J):=by
 show∃J,(if(c==10)=true then iE (true,seen.add 16)else(if(c==13)=true then iE (true,(seen.add 16).add 16)else iE (false,((seen.add 16).add 16).add 0)):Except String (Bool×eH))=_;cases c==10<;>cases c==13<;>exact⟨_,rfl⟩
theorem M0(text:Array Nat)(m:M)(hc:m.code=ke)(ht:m.text=text)(hl:m.lim=text.size):∀k s fuel seen,text.size -s=k->k<fuel->∃J,admitted m fuel s seen=.ok (mC text k s,J):=by
 intro k;induction k with
 |zero=>
  intro s fuel seen hk hf;cases fuel with
  |zero=>exact absurd hf (jH _)
  |succ fuel=>
   refine⟨seen,?_⟩;unfold admitted;rw[if_pos (by rw[hl];exact xI hk)];rfl
 |succ k N=>
  intro s fuel seen hk hf;cases fuel with
  |zero=>exact absurd hf (gk _)
  |succ fuel=>
   unfold admitted;rw[Be];rw[if_neg (by rw[hl];exact Yy hk),hc,ht];refine bO (Wr (text.getD s 0) seen) λJ e=>?_;rw[e];have hs:s<text.size:=by exact EV hk
   have O:mM text s=(text.getD s 0==10||text.getD s 0==13):=by unfold mM;rw[decide_eq_true hs,AX]
   rw[O];cases text.getD s 0==10||text.getD s 0==13 with
   |true=>exact⟨J,rfl⟩
   |false=>exact N (s+1) fuel J (by exact congrArg qx hk) (by exact Ak hf)
theorem EL(text:Array Nat):∀k s e,mC text k s=some e->mM text e=true:=by
 intro k;induction k with
 |zero=>
  intro _ _ h;cases h
 |succ k J=>
  intro s e h;rw[Be]at h;split at h
  ·rename_i q;cases h;exact q
  ·exact J (s+1) e h
noncomputable def qT:eH:=({}:eH).add 14
theorem LK(text:Array Nat)(s:Nat)(J:Bool):∃m0:M,m0.outcome=none/\m0.frames=[]/\forSearch ov text 0 s text.size J=(if(decide (s>text.size)||decide (text.size -s<1))=true then m0.say false else A1 text s true J qT):=
 ⟨{code:=ov,text,lim:=text.size,start:=s,pc:=5,pos:=s,handed:=s,marks:=#[],mustAdvance:=J,seen:=qT},rfl,rfl,rfl⟩
theorem LU(text:Array Nat)(s:Nat):∃m0 m1:M,m0.outcome=none/\m0.frames=[]/\m1.code=ke/\m1.text=text/\m1.lim=text.size/\
 forSearch ke text 0 s text.size false=(if(decide (s>text.size)||decide (text.size -s<1))=true then m0.say false else match admitted m1 (text.size+1 -s) s qT with
  |.ok (some s',sn)=>B2 text s' [kL s' true] 1 10 s' s' true none sn
  |.ok (none,sn)=>({m1 with seen:=sn}:M).say false
  |.error why=>m1.stick why)/\m1.outcome=none/\m1.frames=[]:=
 ⟨{code:=ke,text,lim:=text.size,start:=s,pc:=10,pos:=s,handed:=s,marks:=#[],seen:=qT},
  {code:=ke,text,lim:=text.size,start:=s,lastStart:=text.size,pc:=10,pos:=s,handed:=s,marks:=#[],seen:=qT},rfl,rfl,rfl,rfl,rfl,rfl,rfl,rfl⟩
theorem z8{m:M}(h1:m.outcome=none)(h2:m.frames=[]):(runFor 1 (m.say false)).outcome =some .failed :=by
 have:(m.say false).outcome.isSome =false:=by show m.outcome.isSome=false;rw[h1];rfl
 rw[di this 0];show((m.say false).step).outcome =_;unfold M.step;rw[if_neg (by rw[this];decide)];show M.outcome (match some false,m.frames with|some yes,[]=>_|some yes,f::rest=>_|none,_=>_)=_;rw[h2];rfl
theorem S0(text:Array Nat)(s:Nat)(hs:s<=text.size)(J:Bool):∃N m,N<=4*text.size+8/\runFor N (forSearch ov text 0 s text.size J)=m/\
 (match nU text (text.size -s) s with|some e=>m.outcome=some .matched /\m.start=e/\m.handed=e+1|none=>m.outcome=some .failed):=by
 refine dh (LK text s J) λm0 h1 h2 h3=>?_;rw[h3];by_cases q:s<text.size
 ·rw[if_neg (by rw[oY];rintro(z|z)<;>(have:=of_decide_eq_true z;(first|exact JS q (of_decide_eq_true z)|exact absurd q (Oe (of_decide_eq_true z)))))]
  refine fH (XJ text (text.size -s) s rfl hs true J qT) λN m a b c=>?_;exact⟨N,m,by exact aw a (iS (ib 4 (iU ..)) 8),b,c⟩
 ·rw[if_pos (by rw[oY];right;exact decide_eq_true (by exact J2 hs q))]
  refine⟨1,_,by exact uq _,rfl,?_⟩
  have:text.size -s=0:=by exact rY (fC q)
  rw[this];exact z8 h1 h2
theorem SY(text:Array Nat)(s:Nat)(hs:s<=text.size):∃N m,N<=20/\runFor N (forSearch ke text 0 s text.size false)=m/\
 (match mC text (text.size -s) s with|some e=>m.outcome=some .matched /\m.start=e/\m.handed=kR text e|none=>m.outcome=some .failed):=by
 refine z7 (LU text s) λm0 m1 h1 h2 R S U O=>?_;obtain⟨h3,Y,h5⟩:=O;rw[h3];by_cases q:s<text.size
 ·rw[if_neg (by rw[oY];rintro(z|z)<;>(have:=of_decide_eq_true z;(first|exact JS q (of_decide_eq_true z)|exact absurd q (Oe (of_decide_eq_true z)))))]
  refine bO (M0 text m1 R S U (text.size -s) s (text.size+1 -s) qT rfl (by exact Yu hs)) λJ e=>?_;rw[e];cases hf:mC text (text.size -s) s with
  |none=>exact⟨1,_,by exact dm ..,rfl,z8 (m:={m1 with seen:=J}) Y h5⟩
  |some e=>
   refine fH (XI text e (EL text _ _ _ hf) true J) λN m a b c=>?_;exact⟨N,m,a,b,c⟩
 ·rw[if_pos (by rw[oY];right;exact decide_eq_true (by exact J2 hs q))]
  refine⟨1,_,by exact dm ..,rfl,?_⟩
  have:text.size -s=0:=by exact rY (fC q)
  rw[this];exact z8 h1 h2
section
variable{prog:ft}{w:dB}{A:bg}{E:af->ah->Prop}{s:ah}
structure kg(h:aO)(p c:ak)(code:Array Nat):Prop where
 pat:∃a0 f0 t t',h.get? p=some {cls:=.type "re.Pattern",data:=.fields #[a0,f0,.int 0 t,.none,.none,.ref c,.int 0 t']}
 code:h.get? c=some {cls:=.type "tuple",data:=.seq (code.map λ(n:Nat)=>bV (n:Int) 0)}
theorem kg.keeps{h h':aO}{p c:ak}{code:Array Nat}(P:kg h p c code)(k:∀b o,h.get? b=some o->h'.get? b=some o):kg h' p c code:=
 ⟨P.pat.imp λa q=>q.imp λb q=>q.imp λt q=>q.imp λt'=>k _ _,k _ _ P.code⟩
noncomputable def target(p:ak)(x:ae)(t:Tok)(code:Array Nat):QT:=
 {pattern:=.ref p,string:=.str x t,code:=code,text:=x.cps,kind:=0,groups:=0,pos:=0,lim:=x.cps.size}
theorem DP{p c:ak}{code:Array Nat}{x:ae}{t:Tok}{Q:QT->ah->Prop}(P:kg s.heap p c code)(h:Q (target p x t code) s):
 wpAny (model prog w) A (O7 (.ref p) (.str x t)) Q E s:=by
 refine nf P.pat λa0 f0 t1 N J=>?_;unfold O7;refine ar (wpAny_fieldsOf J rfl ?_);refine ar (m:=ZJ _) (d9 (a:=(x.cps,0)) (by rfl) ?_);dsimp only;rw[if_neg (by simp[NB])];rw[if_neg (by simp[NB])];refine ar (m:=Za _ _) (d9 (a:=()) (by rfl) ?_);show wpAny _ _ (Pe (.ref c)>>= _) _ _ _;refine ar ?_;unfold Pe;refine ar (xy P.code rfl (aU (aU ?_)));have e:(((some (code.map λ(n:Nat)=>bV (n:Int) 0)).getD #[]).map Oz).map (·.toNat)=code:=by
  simp only[Gy,Array.map_map];apply O6;simp[Oz,Bk]
 rw[e];exact h
theorem LL(seen:eH)(names:Array String){Q:PUnit->ah->Prop}(h:Q ⟨⟩ s):∀l:List Nat,
 wpAny (model prog w) A (forIn l xJ λi r=>(if seen.has i=true then do rule (names.getD i "");pure (kG xJ)else pure (kG xJ))) Q E s:=by
 intro l;induction l with
 |nil=>
  rw[Rk];exact aU h
 |cons i l J=>
  rw[BW];refine ar ?_;split
  ·exact ar (nJ (aU (J)))
  ·exact aU (J)
theorem KS{m m':M}{N:Nat}{Q:Option M->ah->Prop}(J:N<4*2^64)(hr:runFor N m=m')(ho:m'.outcome=some .matched \/m'.outcome=some .failed)
 (h:Q (match m'.outcome with|some .matched =>some m'|_=>none) s):wpAny (model prog w) A (Nt m) Q E s:=by
 unfold Nt;refine ar (drive (m':=m') (by rcases ho with e|e<;>rw[e]<;>rfl) ?_ (2^64) N m J hr);refine ar ?_;refine LL m'.seen Sre.names ?_ _;rcases ho with e|e
 ·rw[e]at h ⊢;exact aU h
 ·rw[e]at h ⊢;exact aU h
end
open PySem.Builtin.Str (glued tooLong)
noncomputable def lL(text J:List Nat)(fnd:Nat->Option (Nat×Nat)):Nat->Nat->List Nat
 |0,_=>[]
 |k+1,s=>match fnd s with
  |some (e,h)=>(text.drop s).take (e -s)++J++lL text J fnd k h
  |none=>text.drop s
theorem wc:plainId "re.Pattern.sub.loop"=true:=by decide+kernel
theorem DJ:entryFor table "re.Pattern.sub.loop"=some Builtin.«re.Pattern.sub.loop»:=entryFor_of_fast (by kernel_rfl)
noncomputable def textOf(ps:List (ae×Tok)):List Nat:=(ps.map λp=>p.1.cps.toList).flatten
section
variable{prog:ft}{w:dB}{A:bg}{E:af->ah->Prop}
theorem zT{L:ak}{ps:List (ae×Tok)}{ep:Nat}{y:ae}{ty:Tok}{s:ah}{Q:Unit->ah->Prop}(hL:s.heap.get? L=some {cls:=.type "list",dict:=none,data:=.seq (strValues ps).toArray ep,slots:=#[]})(J:ps.length<=300000)
 (K:∀h' N,h'.get? L=some {cls:=.type "list",dict:=none,data:=.seq (strValues (ps++[(y,ty)])).toArray N,slots:=#[]}->(∀b o,b≠L->s.heap.get? b=some o->h'.get? b=some o)->Q () {s with heap:=h'}):
 wpAny (model prog w) A (updateSeq L λxs=>xs.push (.str y ty)) Q E s:=by
 have hlen:(strValues ps).length =ps.length:=aP ..;refine wpAny_updateSeq hL rfl ?_ (by rw[sizeLine_eq];simp[hlen];exact aw J (dm ..)) (by rw[sizeLine_eq];simp[hlen];exact aw J (dm ..));have e:=r8 hL (λxs=>xs.push (.str y ty));have O:(strValues ps).toArray.push (.str y ty)=(strValues (ps++[(y,ty)])).toArray :=by simp[strValues]
 rw[O]at e;exact K _ _ e λb o ne h=>by rw[lE _ _ _ _ ne];exact h
theorem wo(ps:List (ae×Tok))(y:ae)(ty:Tok):textOf (ps++[(y,ty)])=textOf ps++y.cps.toList:=by simp[textOf]
theorem Lz:∀texts:List ae,Bi ⟨#[]⟩ texts=⟨((texts.map λx=>x.cps.toList).flatten).toArray⟩:=by
 intro texts;show glued ⟨#[]⟩ texts=_;rw[ZP];induction texts with
 |nil=>rfl
 |cons x r J=>
  cases r with
  |nil=>
   obtain⟨c⟩:=x;simp[PY]
  |cons y r=>
   show x++(⟨#[]⟩:ae)++PY ⟨#[]⟩ (y::r)=_;rw[J];have key:∀(a b:Array Nat),((⟨a⟩:ae)++(⟨#[]⟩:ae)++(⟨b⟩:ae))=⟨a++b⟩:=λa b=>by
    show(⟨(a++#[])++b⟩:ae)=_;rw[PE]
   obtain⟨c⟩:=x;rw[key];simp
theorem Ll:∀(texts:List ae)(n:Nat),texts.toArray.foldl (·+·.length +(⟨#[]⟩:ae).length) n=n+((texts.map λx=>x.cps.toList).flatten).length :=by
 intro texts n;rw[<-Array.foldl_toList];show texts.foldl _ n=_;revert n;induction texts with
 |nil=>intro n;rfl
 |cons x r J=>
  intro n;rw[mY,J];have h0:(⟨#[]⟩:ae).length =0:=rfl;have N:x.length=x.cps.toList.length:=by simp;rfl
  rw[h0,N,bX,gG,aT];exact nO n x.cps.toList.length _
theorem HO{L:ak}{ps:List (ae×Tok)}{ep:Nat}{s:ah}{x:Array Nat}{Q:af->ah->Prop}(hL:s.heap.get? L=some {cls:=.type "list",dict:=none,data:=.seq (strValues ps).toArray ep,slots:=#[]})
 (N:(textOf ps).length <=8000000)(K:∀tk t',Q (.str ⟨(textOf ps).toArray⟩ t') {s with toks:=tk}){nn:Int}:
 wpAny (model prog w) A.in1 (do
  let J <-mkStr ⟨x.extract 0 0⟩;let items <-seqItems? (.ref L)
  if(items.getD #[]).isEmpty =true then do
   let text <-pure J
   if false=true then do
    let t <-holding [text] do
     let k <-mkInt nn
     newTuple [text,k]
    ret t
   else ret text
  else do
   let text <-call (.builtin (if(0==0)=true then"str.join" else"bytes.join")) [J,.ref L]
   if false=true then do
    let t <-holding [text] do
     let k <-mkInt nn
     newTuple [text,k]
    ret t
   else ret text)
  (λfin s'=>match fin with|.done f=>(match(iE f:qg)with|.ok (.ret v)=>Q v s'|.ok _=>False|.error e=>E e s')|.again c'=>c'.quiet=true/\codeAny (model prog w) A c' (λr s'=>match r with|.ok (.ret v)=>Q v s'|.ok _=>False|.error e=>E e s') s')
  E s:=by
 have R:x.extract 0 0=#[]:=by simp
 rw[R];refine ar (Ft ?_ (by show(0:Nat)<=_;exact cJ _));refine ar (xy hL rfl ?_);cases ps with
 |nil=>
  rw[if_pos (by rfl)];refine ar (aU ?_);rw[if_neg (by decide)];exact aU (K (s.toks+1) s.toks)
 |cons q r=>
  rw[if_neg (by simp[strValues])];refine ar ?_;show wpAny _ _ (call (.builtin "str.join") [.str ⟨#[]⟩ s.toks,.ref L]) _ _ _;have O:(((q::r).map (·.1)).map λx:ae=>x.cps.toList).flatten =textOf (q::r):=by simp[textOf,Bk]
  refine SC.join (l:=q::r) ⟨_,hL,rfl,_,rfl⟩ rfl ?_ λt' tk=>?_
  ·unfold Az
   rw[Ll,O];unfold tooLong;rw[sizeLine_eq];simp;exact aw N (dm ..)
  ·rw[Lz,O]
   rw[if_neg (by decide)];exact aU (K tk t')
theorem NX{a e h:Nat}(b1:a<=e)(b2:e<h):20*a+(e -a)+10<=20*h:=
 aw (fU (fW (Nat.le_mul_of_pos_left (e -a) (by decide:0<20)) (20*a)) (by decide:10<=20)) (by rw[<-Nat.mul_add,qk b1];exact ib 20 b2)
theorem TH{p c:ak}{code:Array Nat}{x r:ae}{t tr:Tok}{fnd:Nat->Option (Nat×Nat)}{L:ak}{Q:af->ah->Prop}
 (Z9:∀a,a<=x.cps.size->(∀e h,fnd a=some (e,h)->a<=e/\e<h/\h<=x.cps.size)/\∃N m,N<4*2^64/\runFor N (forSearch code x.cps 0 a x.cps.size false)=m/\
  (match fnd a with|some (e,h)=>m.outcome=some .matched /\m.start=e/\m.handed=h|none=>m.outcome=some .failed))
 (J:x.cps.size<=100000)(hr:r.cps.size<=10):
 ∀(k:Nat)(a:Nat)(nn:Int)(ps:List (ae×Tok))(ep:Nat)(s:ah),x.cps.size -a<k->a<=x.cps.size->ps.length<=2*a->(textOf ps).length <=20*a->kg s.heap p c code->p≠L->c≠L->
  s.heap.get? L=some {cls:=.type "list",dict:=none,data:=.seq (strValues ps).toArray ep,slots:=#[]}->
  (∀h' tk t',(∀b o,b≠L->s.heap.get? b=some o->h'.get? b=some o)->Q (.str ⟨(textOf ps++lL x.cps.toList r.cps.toList fnd k a).toArray⟩ t') {s with heap:=h',toks:=tk})->
  wpAny (model prog w) A.in1 (Builtin.«re.Pattern.sub.loop» ⟨[.ref p,.str x t,.str r tr,rawInt 0,rawInt 0,rawInt nn,rawInt a,rawInt a,.bool false,.ref L,.bool false],[]⟩)
   (λfin s'=>match fin with|.done f=>(match(iE f:qg)with|.ok (.ret v)=>Q v s'|.ok _=>False|.error e=>E e s')|.again c'=>c'.quiet=true/\codeAny (model prog w) A c' (λr s'=>match r with|.ok (.ret v)=>Q v s'|.ok _=>False|.error e=>E e s') s')
   E s:=by
 intro k;induction k with
 |zero=>intro a nn ps ep s h1;exact absurd h1 (gk _)
 |succ k ih=>
  intro a nn ps ep s hk ha Z_ htl P hpL hcL hL K;have Z5:ps.length<=200000:=aw Z_ (ib 2 (aw ha J));have htp:(textOf ps).length <=2000000:=aw htl (ib 20 (aw ha J));refine nc (Z9 a ha) λhb N m hN zq4=>?_;obtain⟨hrun,hm⟩:=zq4;unfold Builtin.«re.Pattern.sub.loop»;refine ar (DP P ?_);refine ar ?_;rw[if_neg (by simp)];simp only[xv];refine d9 (a:=()) (by rfl) ?_;unfold ZR;refine ar ?_;refine KS (m:=forSearch code x.cps 0 a x.cps.size false) hN hrun (by
   cases hf:fnd a with
   |none=>rw[hf]at hm;exact .inr hm
   |some q=>rw[hf]at hm;exact .inl hm.1) ?_
  cases hf:fnd a with
  |none=>
   rw[hf]at hm;rw[hm];dsimp only;have R:lL x.cps.toList r.cps.toList fnd (k+1) a=x.cps.toList.drop a:=by
    show(match fnd a with|some (e,h)=>_|none=>_)=_;rw[hf]
   by_cases Z6:a<x.cps.size
   ·rw[if_pos (show a<(target p x t code).lim from Z6)]
    refine ar ?_;show wpAny _ _ (mkStr ⟨x.cps.extract a x.cps.size⟩) _ _ _;refine Ft ?_ (by show(x.cps.extract a x.cps.size).size <=_;rw[Qp];exact aw (iU ..) (aw (uA ..) (aw J (by decide))));refine ar (zT hL (aw Z5 (by decide)) λh' Y S U=>?_);have e1:textOf (ps++[(⟨x.cps.extract a x.cps.size⟩,s.toks)])=textOf ps++lL x.cps.toList r.cps.toList fnd (k+1) a:=by
     rw[wo,R];simp[Hw,kv]
    refine HO (x:=x.cps) (nn:=nn) (s:={s with heap:=h',toks:=s.toks+1}) S ?_ λtk t'=>?_
    ·have hx:x.cps.toList.length=x.cps.size:=ue
     rw[e1,R,aT,ez,hx];exact aw (fU htp (aw (iU ..) J)) (by decide)
    ·rw[e1];exact K h' tk t' U
   ·rw[if_neg (show¬a<(target p x t code).lim from Z6)]
    have e1:textOf ps=textOf ps++lL x.cps.toList r.cps.toList fnd (k+1) a:=by
     rw[R,mj (by exact fC Z6),gj]
    refine HO (x:=x.cps) (nn:=nn) hL (aw htp (by decide)) λtk t'=>?_;rw[e1];exact K s.heap tk t' λ_ _ _ q=>q
  |some q=>
   obtain⟨e,h⟩:=q;rw[hf]at hm;refine de hm λhm1 hm2 hm3=>?_;refine de (hb e h hf) λb1 b2 b3=>?_;have Z7:=bQ b1 b2;rw[hm1];dsimp only;rw[hm2,hm3];have next:∀(O:List (ae×Tok))(ep':Nat)(s':ah),O.length<=ps.length+1->textOf O=textOf ps++(x.cps.toList.drop a).take (e -a)->(∀b o,b≠L->s.heap.get? b=some o->s'.heap.get? b=some o)->s'.gens=s.gens->s'.drawn=s.drawn->s'.os=s.os->
    s'.heap.get? L=some {cls:=.type "list",dict:=none,data:=.seq (strValues O).toArray ep',slots:=#[]}->
    wpAny (model prog w) A.in1 (do
     updateSeq L λxs=>xs.push (.str r tr)
     again (.builtin "re.Pattern.sub.loop" ⟨[.ref p,.str x t,.str r tr,rawInt 0,rawInt 0,rawInt (nn+1),rawInt h,rawInt h,.bool (h==e),.ref L,.bool false],[]⟩))
     (λfin s'=>match fin with|.done f=>(match(iE f:qg)with|.ok (.ret v)=>Q v s'|.ok _=>False|.error e=>E e s')|.again c'=>c'.quiet=true/\codeAny (model prog w) A c' (λr s'=>match r with|.ok (.ret v)=>Q v s'|.ok _=>False|.error e=>E e s') s')
     E s':=by
    intro O ep' s' hl ht kk hg hd ho hL';refine ar (zT hL' (aw hl (aw (fj Z5) (by decide))) λh' Y S U=>?_);refine aU ⟨OQ wc _,xd DJ ?_⟩;rw[Qz wc _];have he:(h==e)=false:=beq_eq_false_iff_ne.mpr (by exact jf b2);rw[he];have k2:∀b o,b≠L->s.heap.get? b=some o->h'.get? b=some o:=λb o ne q=>U b o ne (kk b o ne q);refine nf P.pat λa0 f0 t1 t2 hp=>?_;have P':kg h' p c code:=⟨⟨a0,f0,t1,t2,k2 _ _ hpL hp⟩,k2 _ _ hcL P.code⟩;refine ih h (nn+1) (O++[(r,tr)]) Y {s' with heap:=h'} (cK (Nat.sub_lt_sub_left (cK Z7 b3) Z7) (fV hk)) b3 (by rw[aT];exact aw (fj (aw hl (fj Z_))) (ib 2 Z7)) ?_ P' hpL hcL S λZ4 tk t' k3=>?_
    ·rw[wo,ht]
     simp only[aT,iG,ez,ue];exact aw (fU (fU htl (uA ..)) hr) (NX b1 b2)
    ·have:=K Z4 tk t' λb o ne q=>k3 b o ne (k2 b o ne q)
     have e1:textOf (O++[(r,tr)])++lL x.cps.toList r.cps.toList fnd k h=textOf ps++lL x.cps.toList r.cps.toList fnd (k+1) a:=by
      rw[wo,ht];show _=textOf ps++(match fnd a with|some (e,h)=>_|none=>_);rw[hf];simp[dn]
     rw[e1];have e2:({s' with heap:=Z4,toks:=tk}:ah)={s with heap:=Z4,toks:=tk}:=by
      obtain⟨_,_,_,_,_⟩:=s';obtain⟨_,_,_,_,_⟩:=s;dsimp only at hg hd ho ⊢;subst hg hd ho;rfl
     show Q _ {s' with heap:=Z4,toks:=tk};rw[e2];exact this
   by_cases Z8:a<e
   ·rw[if_pos Z8]
    refine ar ?_;show wpAny _ _ (mkStr ⟨x.cps.extract a e⟩) _ _ _;refine Ft ?_ (by show(x.cps.extract a e).size <=_;rw[Qp];exact aw (iU ..) (aw (jZ ..) (aw J (by decide))));refine ar (zT hL (aw Z5 (by decide)) λh' Y S U=>?_);rw[if_pos (by rfl)];refine ar (aU ?_);rw[if_pos (by rfl)];refine next (ps++[(⟨x.cps.extract a e⟩,s.toks)]) Y {s with heap:=h',toks:=s.toks+1} (by simp) ?_ U rfl rfl rfl S;rw[wo];simp[Hw]
   ·rw[if_neg Z8]
    rw[if_pos (by rfl)];refine ar (aU ?_);rw[if_pos (by rfl)];refine next ps ep s (oW _) ?_ (λ_ _ _ q=>q) rfl rfl rfl hL
    have:e -a=0:=rY (fC Z8);rw[this];simp
end
end Mine
namespace Mine
open PySem PyProof.Rows PySem.W PySem.Sre PySem.Sre.M
theorem Mb:Nc.lookup (NV ['n','r','e','t','t','a','P','.','e','r'].reverse)=some ZL:=by kernel_rfl
theorem Bq:qb "re.Pattern" "sub" "re.Pattern.sub":=
 .of (owner:="re.Pattern") (n:="sub") (by rw[mh,mf];kernel_rfl) (by decide+kernel) (by decide+kernel) (by decide+kernel)
  (by first|exact .inl (by decide+kernel)|exact .inr (by decide+kernel)) (by rw[rM];kernel_rfl)
theorem Ru:typeOf (.builtin "re.Pattern.sub")=pure (.type "method_descriptor"):=by show builtinType _=_;rw[builtinType_eq_fast];kernel_rfl
theorem entry_sub:entryFor table "re.Pattern.sub"=some Builtin.«re.Pattern.sub»:=AE (by kernel_rfl)
theorem OU(a b c:af):argsOk "re.Pattern.sub" ⟨[a,b,c],[]⟩:=by
 unfold argsOk;rw[GN (id:="re.Pattern.sub") (n:=['b','u','s']) (o:=['n','r','e','t','t','a','P','.','e','r']) (by kernel_rfl) Mb];kernel_rfl
theorem LB:typeLookup (.type "str") "__call__"=pure none:=by rw[mh,mf];kernel_rfl
section
variable{prog:ft}{w:dB}{A:bg}{E:af->ah->Prop}
theorem M8(a b:af):Nk "re.Pattern.sub" "sub" ["repl","string","count"] 2 [a,b] []=pure [some a,some b,none]:=by rfl
theorem Fj{p c:ak}{code:Array Nat}{x r:ae}{t tr:Tok}{fnd:Nat->Option (Nat×Nat)}{s:ah}{Q:af->ah->Prop}(P:kg s.heap p c code)
 (R:∀a,a<=x.cps.size->(∀e h,fnd a=some (e,h)->a<=e/\e<h/\h<=x.cps.size)/\∃N m,N<4*2^64/\runFor N (forSearch code x.cps 0 a x.cps.size false)=m/\
  (match fnd a with|some (e,h)=>m.outcome=some .matched /\m.start=e/\m.handed=h|none=>m.outcome=some .failed))
 (J:x.cps.size<=100000)(hr:r.cps.size<=10)(S:r.cps.contains 92=false)
 (K:∀h' tk t',(∀b o,s.heap.get? b=some o->h'.get? b=some o)->Q (.str ⟨(lL x.cps.toList r.cps.toList fnd (x.cps.size+1) 0).toArray⟩ t') {s with heap:=h',toks:=tk}):
 wpAny (model prog w) A (call (.builtin "re.Pattern.sub") [.ref p,.str r tr,.str x t]) Q E s:=by
 refine nf (id P.pat) λa0 f0 t1 t2 U=>?_;have hc:=P.code;refine rZ (codeAny_call_builtin Bq.plain entry_sub (Bq.check _ _ _ _ _ _ _ _ ⟨_,U,rfl⟩ (OU _ _ _) ?_));show wpAny _ _ (QD "re.Pattern.sub" "sub" false ⟨[.ref p,.str r tr,.str x t],[]⟩) _ _ _;unfold QD;refine ar (m:=Nk _ _ _ _ _ _) (d9 (M8 _ _) ?_);dsimp only;refine ar (aU ?_);refine ar (nK (qf _ _ _) LB ?_);rw[if_neg (by simp)];refine ar (m:=asStr? _) (d9 (a:=some r) (by rfl) ?_);dsimp only;refine ar (aU ?_);rw[if_neg (by simp),S];rw[if_pos (by rfl)];refine ar (aU ?_);refine ar (mi (DP P ?_));dsimp only;rw[if_neg (by simp)];refine ar (wY ?_ (by simp));refine aU ⟨OQ wc _,xd DJ ?_⟩;rw[Qz wc _];have Y:=dk s.heap {cls:=.type "list",data:=.seq ([]:List af).toArray };have O:∀b o,s.heap.get? b=some o->b≠s.heap.objs.size:=λb o e z=>by rw[z,fR]at e;cases e
 have:=TH (prog:=prog) (w:=w) (A:=A) (E:=E) (t:=t) (tr:=tr) (L:=s.heap.objs.size) (Q:=Q) R J hr (x.cps.size+1) 0 0 [] 0
  {s with heap:=s.heap.push {cls:=.type "list",data:=.seq ([]:List af).toArray }} (by exact a7 _) (cJ _) (cJ _) (cJ _) (P.keeps Y) (O _ _ U) (O _ _ hc) (dM _ rfl)
  λh' tk t' k2=>K h' tk t' λb o e=>k2 b o (O b o e) (Y b o e)
 exact this
end
noncomputable def c9:Bool->List Nat->List Nat
 |_,[]=>[]
 |b,c::r=>if(b&&c==46)=true then 46::46::c9 false r else c::c9 (c==10) r
theorem t9(b:Bool)(c:Nat)(r:List Nat):c9 b (c::r)=if(b&&c==46)=true then 46::46::c9 false r else c::c9 (c==10) r:=rfl
noncomputable def dY:List Nat->List Nat
 |[]=>[]
 |[c]=>if(c==10||c==13)=true then[13,10]else[c]
 |c::d::r=>if(c==13&&d==10)=true then 13::10::dY r else if(c==10||c==13)=true then 13::10::dY (d::r)else c::dY (d::r)
noncomputable def jP(text:Array Nat)(s:Nat):Option (Nat×Nat):=(nU text (text.size -s) s).map λe=>(e,e+1)
noncomputable def jQ(text:Array Nat)(s:Nat):Option (Nat×Nat):=(mC text (text.size -s) s).map λe=>(e,kR text e)
theorem Em(text:Array Nat):∀k s e,nU text k s=some e->kY text e=true/\s<=e:=by
 intro k;induction k with
 |zero=>
  intro _ _ h;cases h
 |succ k J=>
  intro s e h;rw[Er]at h;split at h
  ·rename_i q;cases h;exact⟨q,a7 _⟩
  ·have:=J (s+1) e h
   exact⟨this.1,by exact cq this.2⟩
theorem EP(text:Array Nat):∀k s e,mC text k s=some e->s<=e:=by
 intro k;induction k with
 |zero=>
  intro _ _ h;cases h
 |succ k J=>
  intro s e h;rw[Be]at h;split at h
  ·cases h;exact a7 _
  ·have:=J (s+1) e h;exact cq this
theorem ub(l:List Nat)(s:Nat)(h:s<l.length):l.drop s=(l.toArray.getD s 0)::l.drop (s+1):=by
 rw[Av h];congr 1
 simp[Array.getD,h]
theorem Oj(text:List Nat):∀k s f,text.length -s=k->s<=text.length->k<f->lL text [46,46] (jP text.toArray) f s=c9 (og text.toArray s) (text.drop s):=by
 intro k;induction k with
 |zero=>
  intro s f hk hs hf;cases f with
  |zero=>exact absurd hf (jH _)
  |succ f=>
   have e:jP text.toArray s=none:=by unfold jP;rw[dH,hk];rfl
   have d:text.drop s=[]:=mj (xI hk);show(match jP text.toArray s with|some (e,h)=>_|none=>_)=_;rw[e,d];rfl
 |succ k ih=>
  intro s f hk hs hf;cases f with
  |zero=>exact absurd hf (gk _)
  |succ f=>
   have N:s<text.length:=EV hk;have hd:=ub text s N;have J:og text.toArray (s+1)=(text.toArray.getD s 0==10):=by
    unfold og;rw[show((s+1==0):Bool)=false by simp,PK,OO]
   have O:kY text.toArray s=(og text.toArray s&&text.toArray.getD s 0==46):=by
    unfold kY;rw[dH,decide_eq_true N,Bool.and_true]
   show(match jP text.toArray s with|some (e,h)=>_|none=>_)=_;rw[hd];by_cases q:kY text.toArray s=true
   ·have e:jP text.toArray s=some (s,s+1):=by
     unfold jP;rw[dH,hk];exact congrArg (lA _) (if_pos q)
    rw[e];dsimp only;rw[ih (s+1) f (congrArg qx hk) (by exact N) (by exact fV hf),J];rw[O]at q;have S:text.toArray.getD s 0=46:=by rw[gH]at q;exact beq_iff_eq.mp q.2
    rw[t9,if_pos q,S];simp
   ·have e:jP text.toArray s=jP text.toArray (s+1):=by
     unfold jP;rw[dH,hk,show text.length -(s+1)=k from congrArg qx hk];show(if kY text.toArray s=true then some s else _).map _=_;rw[if_neg q]
    have R:=ih (s+1) (f+1) (congrArg qx hk) (by exact N) (by exact cq hf);rw[J]at R;rw[t9,<-O,if_neg q,<-R,e];show _=_::(match jP text.toArray (s+1)with|some (e,h)=>_|none=>_);cases he:jP text.toArray (s+1)with
    |none=>rfl
    |some p=>
     obtain⟨U,h1⟩:=p
     have:s+1<=U:=by
      unfold jP at he;simp only[ji]at he;refine aG he λe2 Y q2=>?_;cases q2
      exact(Em _ _ _ _ Y).2
     dsimp only;rw[show U -s=(U -(s+1))+1 from(PB (GY this)).symm,Qy];simp
theorem Fk:dY []=[]:=rfl
theorem Qd(b:Bool):c9 b []=[]:=rfl
theorem wJ(c:Nat):dY [c]=if(c==10||c==13)=true then[13,10]else[c]:=rfl
theorem rQ(c d:Nat)(r:List Nat):dY (c::d::r)=if(c==13&&d==10)=true then 13::10::dY r else if(c==10||c==13)=true then 13::10::dY (d::r)else c::dY (d::r):=rfl
theorem O4(text:List Nat):∀k s f,text.length -s=k->s<=text.length->k<f->lL text [13,10] (jQ text.toArray) f s=dY (text.drop s):=by
 intro k;induction k using Nat.strongRecOn with
 |ind k Y=>
  intro s f hk hs hf;cases f with
  |zero=>exact absurd hf (gk _)
  |succ f=>
   by_cases N:s<text.length
   ·have hd:=ub text s N
    have R:mM text.toArray s=(text.toArray.getD s 0==10||text.toArray.getD s 0==13):=by
     unfold mM;rw[dH,decide_eq_true N,AX]
    show(match jQ text.toArray s with|some (e,h)=>_|none=>_)=_;have S:text.length -(s+1)<k:=hk▸Nat.sub_succ_lt_self _ _ N;have d2:text.length -(s+2)<k:=bQ (Nat.pred_le _) S;have hf:=fV hf;refine bO (Nat.exists_eq_succ_of_ne_zero (GY N)) λk' O=>?_;by_cases q:mM text.toArray s=true
    ·have e:jQ text.toArray s=some (s,kR text.toArray s):=by
      unfold jQ;rw[dH,O];exact congrArg (lA _) (if_pos q)
     rw[e];dsimp only;rw[R]at q;by_cases two:text.toArray.getD s 0=13/\s+1<text.length/\text.toArray.getD (s+1) 0=10
     ·have U:kR text.toArray s=s+2:=by unfold kR;rw[dH,if_pos two]
      have hd2:=ub text (s+1) two.2.1;rw[U,Y _ d2 (s+2) f rfl (by exact two.2.1) (cK d2 hf),hd,hd2,rQ,two.1,two.2.2];simp
     ·have U:kR text.toArray s=s+1:=by unfold kR;rw[dH,if_neg two]
      rw[U,Y _ S (s+1) f rfl (by exact N) (cK S hf),hd];by_cases J:s+1<text.length
      ·have hd2:=ub text (s+1) J
       rw[hd2,rQ,if_neg,if_pos q]
       ·simp
       ·intro z
        rw[gH]at z;exact two ⟨beq_iff_eq.mp z.1,J,beq_iff_eq.mp z.2⟩
      ·have:text.drop (s+1)=[]:=mj (by exact fC J)
       rw[this,wJ,if_pos q];rw[mn];rfl
    ·have e:jQ text.toArray s=jQ text.toArray (s+1):=by
      unfold jQ;rw[dH,O,show text.length -(s+1)=k' from congrArg qx O];show(if mM text.toArray s=true then some s else _).map _=_;rw[if_neg q]
     have Z4:=Y _ S (s+1) (f+1) rfl (by exact N) (sf (cK S hf));rw[R]at q;have rhs:dY (text.drop s)=text.toArray.getD s 0::dY (text.drop (s+1)):=by
      rw[hd];by_cases J:s+1<text.length
      ·have hd2:=ub text (s+1) J
       rw[hd2,rQ,if_neg,if_neg q];intro z;rw[gH]at z;exact q (by rw[z.1,Bool.or_true])
      ·have:text.drop (s+1)=[]:=mj (by exact fC J)
       rw[this,wJ,if_neg q];rfl
     rw[rhs,<-Z4,e];show _=_::(match jQ text.toArray (s+1)with|some (e,h)=>_|none=>_);cases he:jQ text.toArray (s+1)with
     |none=>exact hd
     |some p=>
      obtain⟨e1,h1⟩:=p
      have:s+1<=e1:=by
       unfold jQ at he;simp only[ji]at he;refine aG he λU Z5 q2=>?_;cases q2
       exact EP _ _ _ _ Z5
      dsimp only;rw[hd,show e1 -s=(e1 -(s+1))+1 from(PB (GY this)).symm,Qy];simp
   ·have e:jQ text.toArray s=none:=by unfold jQ;rw[dH,rY (fC N)];rfl
    have d:text.drop s=[]:=mj (by exact fC N);show(match jQ text.toArray s with|some (e,h)=>_|none=>_)=_;rw[e,d];rfl
noncomputable def vH(avs:List AV)(st:St):Option (AV×St):=(a3 avs).bind λp=>p.1.v?.bind λw=>p.2.1.s?.bind λr=>p.2.2.s?.bind λx=>
 if x.cps.size<=100000 then(if w=.ref 92/\r.cps=#[46,46]then some (.str ⟨(c9 true x.cps.toList).toArray⟩,st)else none).or (if w=.ref 97/\r.cps=#[13,10]then some (.str ⟨(dY x.cps.toList).toArray⟩,st)else none)else none
section
variable{C:Cfg}{n:Nat}
theorem HR(P1:kg C.base 92 91 ov)(P2:kg C.base 97 96 ke):eO C n (.builtin "re.Pattern.sub") vH:=KC.s λ{A ρ st s avs vs Q E} hA R rv h=>rv.a3 h.bind λa V b W c X ra rb rc h=>by
 have h:=ra.v h.bind;refine rb.s h.bind λr tr h=>rc.s h.bind λx t h=>?_;obtain⟨hs,h⟩:=h.ite;rcases h.or with h|h
 ·obtain⟨⟨rfl,hr⟩,S⟩:=h.ite
  refine Fj (P1.keeps R.keep) (fnd:=jP x.cps) (λa U=>⟨λe h q=>?_,?_⟩) hs (by rw[hr];decide) (by rw[hr];decide+kernel) λh' tk t' J=>?_
  ·refine aG (ji.mp q) λe2 O Y=>?_
   cases Y
   have this:=Em _ _ _ _ O;exact⟨this.2,iI _,of_decide_eq_true (oS.mp (oS.mp this.1).1).2⟩
  ·refine fH (S0 x.cps a U false) λN m a1 a2 a3=>?_
   refine⟨N,m,bQ (aw a1 (iS (ib 4 hs) 8)) (by decide),a2,?_⟩;show match(nU x.cps (x.cps.size -a) a).map λe=>(e,e+1)with|some (e,h)=>m.outcome=some .matched /\m.start=e/\m.handed=h|none=>m.outcome=some .failed
   cases hf:nU x.cps (x.cps.size -a) a with
   |none=>rw[hf]at a3;exact a3
   |some e=>rw[hf]at a3;exact a3
  ·have e:lL x.cps.toList r.cps.toList (jP x.cps) (x.cps.size+1) 0=c9 true x.cps.toList:=by
    rw[hr];exact Oj x.cps.toList x.cps.size 0 (x.cps.size+1) ue (cJ _) (a7 _)
   rw[e];exact S _ ρ _ (.keeps J) (R.keeps J) ⟨_,rfl⟩
 ·obtain⟨⟨rfl,hr⟩,S⟩:=h.ite
  refine Fj (P2.keeps R.keep) (fnd:=jQ x.cps) (λa U=>⟨λe h q=>?_,?_⟩) hs (by rw[hr];decide) (by rw[hr];decide+kernel) λh' tk t' J=>?_
  ·refine aG (ji.mp q) λe2 O Y=>?_
   cases Y
   have h3:=of_decide_eq_true (oS.mp (EL _ _ _ _ O)).1;refine⟨EP _ _ _ _ O,?_⟩;unfold kR;by_cases z:x.cps.getD e 0=13/\e+1<x.cps.size/\x.cps.getD (e+1) 0=10
   ·rw[if_pos z];exact⟨oW _,z.2.1⟩
   ·rw[if_neg z];exact⟨a7 _,h3⟩
  ·obtain⟨N,m,a1,a2,a3⟩:=SY x.cps a U
   refine⟨N,m,bQ a1 (by decide),a2,?_⟩;show match(mC x.cps (x.cps.size -a) a).map λe=>(e,kR x.cps e)with|some (e,h)=>m.outcome=some .matched /\m.start=e/\m.handed=h|none=>m.outcome=some .failed
   cases hf:mC x.cps (x.cps.size -a) a with
   |none=>rw[hf]at a3;exact a3
   |some e=>rw[hf]at a3;exact a3
  ·have e:lL x.cps.toList r.cps.toList (jQ x.cps) (x.cps.size+1) 0=dY x.cps.toList:=by
    rw[hr];exact O4 x.cps.toList x.cps.size 0 (x.cps.size+1) ue (cJ _) (a7 _)
   rw[e];exact S _ ρ _ (.keeps J) (R.keeps J) ⟨_,rfl⟩
noncomputable def vD(a:AV)(_:St):Option (List AV):=a.v?.bind λw=>if w=.ref 92\/w=.ref 97 then some [a]else none
theorem J_:PlainAttrs "re.Pattern":=
 ⟨⟨"object.__getattribute__",by rw[mh,mf];kernel_rfl,by decide+kernel⟩,by rw[mh,mf];kernel_rfl⟩
theorem HZ(N:kg C.base 92 91 ov)(O:kg C.base 97 96 ke):gO C "sub" (.builtin "re.Pattern.sub") vD:=KR.s λ{A ρ st s a J Q E pl} R r h=>by
 obtain⟨S,h⟩:=(r.v h.bind).ite;have key:∀p,(∃c code,kg C.base p c code)->J=.ref p->wpAny (model C.prog C.w) A (getMethod J "sub" pl) Q E s:=λp P e=>by
  subst e;refine mN P λc code P=>?_;refine nf P.pat λa b t t' e=>?_;exact AY (T:="re.Pattern") ⟨_,R.keep _ _ e,rfl⟩ J_ Bq Ru (λa q=>by cases q;exact⟨_,R.keep _ _ e,rfl⟩) (h _ _ .refl R (.cons r .nil))
 exact S.elim (key _ ⟨_,_,N⟩) (key _ ⟨_,_,O⟩)
end
end Mine
namespace Mine
open PySem PyProof.Rows PySem.W PySem.Builtin PySem.Builtin.Str
noncomputable def T(l:List Nat):ae:=⟨l.toArray⟩
theorem tg{α:Type}(st ex:List α)(k:Nat):(st++ex)[st.length+k]?=ex[k]?:=by rw[j5 (c8 ..),A8]
theorem zz{α:Type}(st ex:List α):(st++ex)[st.length]?=ex[0]?:=tg st ex 0
theorem WN(a b:List Nat):T a++T b=T (a++b):=by
 show Oq _ _=_;simp[Oq,T]
theorem eR(a:List Nat):(T a).length =a.length:=by simp[T,Str.length]
theorem vq(a:List Nat):(T a).cps =a.toArray:=rfl
theorem Jv{a b:List Nat}:T a=T b↔a=b:=by simp[T]
theorem CQ{a b:List Nat}:(T a==T b)=(a==b):=by
 by_cases h:a=b
 ·subst h;simp
 ·rw[beq_false_of_ne h,beq_false_of_ne (λe=>h (Jv.mp e))]
theorem lX:dz ""=T []:=by decide+kernel
theorem JE:dz "."=T [46]:=by decide+kernel
theorem pz:dz "..."=T [46,46,46]:=by decide+kernel
theorem Xw:dz ".."=T [46,46]:=by decide+kernel
theorem v8:dz "\""=T [34]:=by decide+kernel
theorem pX:dz "\\"=T [92]:=by decide+kernel
theorem XN:dz "\"\\"=T [34,92]:=by decide+kernel
theorem X7:dz "\\ "=T [92,32]:=by decide+kernel
theorem Dz:dz "\x0a"=T [10]:=by decide+kernel
theorem XB:dz "\x09\x0d"=T [9,13]:=by decide+kernel
theorem WQ:dz " \x0d\x0a"=T [32,13,10]:=by decide+kernel
theorem XH:dz "\r\n"=T [13,10]:=by decide+kernel
theorem VF:dz ".\x0a\"\""=T [46,10,34,34]:=by decide+kernel
theorem Xz:dz "z "=T [122,32]:=by decide+kernel
theorem Xs:dz "z\x09"=T [122,9]:=by decide+kernel
theorem XS:dz "\"z\""=T [34,122,34]:=by decide+kernel
theorem XA:dz "\x0a\x09\x0d "=T [10,9,13,32]:=by decide+kernel
theorem sizeLine_eq:sizeLine=16777216:=rfl
theorem Oo(x:List Nat)(k:Int):pq (T x) k=T (bZ k.toNat x).flatten :=rfl
theorem KY(c n:Nat):(bZ n [c]).flatten =bZ n c:=by
 induction n with
 |zero=>rfl
 |succ n J=>simp[se,J]
theorem K3:∀(ts:List (List Nat))(acc:Array Nat),(ts.map T).foldl (λacc p=>acc++(T []).cps ++p.cps) acc=(acc.toList++ts.flatten).toArray :=by
 intro ts;induction ts with
 |nil=>
  intro acc;simp
 |cons t ts J=>
  intro acc;rw[bX,mY,J];simp[T]
theorem UH(ts:List (List Nat)):Bi (T []) (ts.map T)=T ts.flatten:=by
 unfold Bi glued;cases ts with
 |nil=>rfl
 |cons t ts=>
  simp only[bX,List.drop_succ_cons,Bg,List.headD_cons];rw[K3];simp[T]
theorem Ow(ts:List (List Nat)):strsOf (ts.map λt=>.str (T t))=some (ts.map T):=by
 induction ts with
 |nil=>rfl
 |cons t ts J=>exact congrArg (lA (T t::·)) J
theorem L_(s:ae):∀(ts:List ae)(n:Nat),ts.foldl (λa t=>a+t.length+s.length) n=n+(ts.map λt=>t.length+s.length).sum :=by
 intro ts;induction ts with
 |nil=>
  intro n;simp
 |cons t ts J=>
  intro n;rw[mY,J];simp;exact(congrArg (·+_) (nO ..)).trans (nO ..)
theorem NG(ts:List (List Nat))(h:ts.flatten.length<=16777216):Az (T []) (ts.map T)=true:=by
 unfold Az;have e:(ts.map T).toArray.foldl (λa t=>a+t.length+(T []).length) 0=ts.flatten.length:=by
  rw[List.foldl_toArray,L_];simp[eR,OI,Bk]
 rw[e];have q:tooLong ts.flatten.length=false:=decide_eq_false (by exact qh h);rw[q];rfl
theorem XP(c:Nat)(x:List Nat):(!(occurrences (T x) (T [c]) 0 (T x).length 1).isEmpty)=decide (c∈x):=
 ZA (T x) c
theorem DL(x y:List Nat):wV (T x) (T y)=decide (x.take y.length=y/\y.length<=x.length):=by
 unfold wV subAt;simp only[eR,vq,hK];rw[Bool.and_comm];by_cases h:y.length<=x.length
 ·by_cases q:x.take y.length=y
  ·simp[h,q]
  ·simp[h,q]
 ·simp[h]
theorem Eb(x y:List Nat):wL (T x) (T y)=decide (y.length<=x.length/\x.drop (x.length -y.length)=y):=by
 unfold wL subAt;simp only[eR,vq,hK];by_cases h:y.length<=x.length
 ·have e:x.length -y.length+y.length=x.length:=by exact qc h
  rw[e];have J:(x.toArray.extract (x.length -y.length) x.length)=(x.drop (x.length -y.length)).toArray :=by
   simp;rw[kv (by simp)]
  rw[J,qi];simp[h]
 ·simp[h]
theorem B6(x y:List Nat)(i:Nat):subAt (T x) (T y) i=decide ((x.drop i).take y.length=y):=by
 unfold subAt;simp only[eR,vq];rw[qi,decide_eq_true_iff,beq_iff_eq];simp[Hw]
theorem sd(k L:Nat):max 0 (min (k:Int) (L:Int))=((min k L:Nat):Int):=(Nat.le_total k L).elim (λh=>by rw[oZ h,Int.min_eq_left (lC.mpr h)];exact Rg (eA _)) λh=>by rw[uD h,Int.min_eq_right (lC.mpr h)];exact Rg (eA _)
theorem ze(i j L:Nat):strSliceIndices (some (i:Int)) (some (j:Int)) 1 L=sliceRange ((min i L:Nat):Int) ((min j L:Nat):Int) 1:=by
 have c:∀k:Nat,max 0 (min (if(k:Int)<0 then(k:Int)+L else k) (L:Int))=((min k L:Nat):Int):=λk=>by
  rw[if_neg (h_.mpr (eA _))];exact sd k L
 exact congr (congrArg sliceRange (c i)) (c j)▸rfl
theorem xX(x:List Nat)(i j:Nat)(J:i<=j):iR (T x) (some (i:Int)) (some (j:Int))=T ((x.drop i).take (j -i)):=by
 have e:iR (T x) (some (i:Int)) (some (j:Int))=Rj (T x) (some ((min i x.length:Nat):Int)) (some ((min j x.length:Nat):Int)):=by
  have q:strSliceIndices (some (i:Int)) (some (j:Int)) 1 (T x).length =strSliceIndices (some ((min i x.length:Nat):Int)) (some ((min j x.length:Nat):Int)) 1 (T x).length :=by
   rw[eR,ze,ze,Fs,xn,Fs,xn]
  unfold iR Rj;rw[q]
 rw[e,Y0 (a:=min i x.length) (b:=min j x.length) _ (Nat.le_min.mpr ⟨aw (uA ..) J,jZ ..⟩) (jZ ..)];refine congrArg T ?_;show(x.drop (min i x.length)).take (min j x.length -min i x.length)=_;by_cases h:i<=x.length
 ·rw[oZ h,List.take_eq_take_iff,ez,NK,NK,Fs,xn]
 ·rw[uD (ud h),List.drop_length,mj (ud h),AM,AM]
noncomputable def jt(s sub:ae)(hi cG:Nat):Nat->Nat->Nat->Nat->List Nat
 |0,_,_,_=>[]
 |m+1,i,cnt,free=>if((cnt<cG/\free<=i)/\i+sub.length<=hi)/\subAt s sub i=true then i::jt s sub hi cG m (i+1) (cnt+1) (i+sub.length)else jt s sub hi cG m (i+1) cnt free
theorem Uk(s sub:ae)(hi cG i cnt free:Nat):jt s sub hi cG 0 i cnt free=[]:=rfl
theorem m_(s sub:ae)(hi cG m i cnt free:Nat):jt s sub hi cG (m+1) i cnt free=if((cnt<cG/\free<=i)/\i+sub.length<=hi)/\subAt s sub i=true then i::jt s sub hi cG m (i+1) (cnt+1) (i+sub.length)else jt s sub hi cG m (i+1) cnt free:=rfl
theorem Qh(s sub:ae)(hi cG:Nat):∀(m i:Nat)(st:Array Nat×Nat),(forIn (uG i m) st (E5 s sub hi cG)).run.fst.toList =st.1.toList ++jt s sub hi cG m i st.1.size st.2:=by
 intro m;induction m with
 |zero=>
  intro i st;simp[Uk]
 |succ m J=>
  intro i st;rw[Gn,BW];by_cases h:((st.1.size <cG/\st.2<=i)/\i+sub.length<=hi)/\subAt s sub i=true
  ·have e:E5 s sub hi cG i st=pure (kG (st.1.push i,i+sub.length)):=if_pos h
   rw[e,m_,if_pos h];refine(J (i+1) _).trans ?_;simp
  ·have e:E5 s sub hi cG i st=pure (kG (st.1,st.2)):=if_neg h
   rw[e,m_,if_neg h];exact J (i+1) _
theorem QC(s sub:ae)(lo hi cG:Nat):occurrences s sub lo hi cG=jt s sub hi cG (hi+1 -lo) lo 0 lo:=by
 rw[Zh,Qh];simp
theorem LX(s sub:ae)(hi cG:Nat):∀(m i cnt free:Nat),cG<=cnt->jt s sub hi cG m i cnt free=[]:=by
 intro m;induction m with
 |zero=>
  intro _ _ _ _;exact rfl
 |succ m J=>
  intro i cnt free h;rw[m_];rw[if_neg (λq=>by have:=q.1.1.1;exact absurd q.1.1.1 (qh h)),J _ _ _ h]
theorem As(s sub:ae)(hi cG:Nat):∀(m i cnt free:Nat),hi<i+sub.length->jt s sub hi cG m i cnt free=[]:=by
 intro m;induction m with
 |zero=>
  intro _ _ _ _;exact rfl
 |succ m J=>
  intro i cnt free h;rw[m_];rw[if_neg (λq=>by have:=q.1.2;exact absurd q.1.2 (nI h)),J _ _ _ (by exact cK h (iS (oW i) _))]
theorem So(s sub:ae)(hi cG:Nat):∀(k m i cnt free:Nat),i+k<=free->jt s sub hi cG (m+k) i cnt free=jt s sub hi cG m (i+k) cnt free:=by
 intro k;induction k with
 |zero=>
  intro m i cnt free _;exact rfl
 |succ k J=>
  intro m i cnt free h;show jt s sub hi cG (m+k+1) i cnt free=_;rw[m_,if_neg (λq=>by have:=q.1.1.2;exact absurd (aw h q.1.1.2) (nI (Bf (uq k)))),J m _ _ _ (by exact(hH ..)▸h)];rw[show i+1+k=i+(k+1) by exact hH ..]
theorem MX(s sub:ae)(hi cG:Nat):∀(m i cnt free J:Nat),free<=i->J<=i->jt s sub hi cG m i cnt free=jt s sub hi cG m i cnt J:=by
 intro m;induction m with
 |zero=>
  intro _ _ _ _ _ _;exact rfl
 |succ m N=>
  intro i cnt free J h h';rw[m_,m_];by_cases c:((cnt<cG/\free<=i)/\i+sub.length<=hi)/\subAt s sub i=true
  ·rw[if_pos c,if_pos ⟨⟨⟨c.1.1.1,h'⟩,c.1.2⟩,c.2⟩]
  ·rw[if_neg c,if_neg (λq=>c ⟨⟨⟨q.1.1.1,h⟩,q.1.2⟩,q.2⟩)]
   exact N _ _ _ _ (by exact o4 h) (by exact o4 h')
noncomputable def iu(x y:List Nat)(hi cG cnt i:Nat):List Nat:=jt (T x) (T y) hi cG (hi+1 -i) i cnt i
theorem yO(x y:List Nat)(lo hi cG:Nat):occurrences (T x) (T y) lo hi cG=iu x y hi cG 0 lo:=QC ..
theorem GF{x y:List Nat}{hi cG cnt i:Nat}(N:1<=y.length)(hc:cnt<cG)(J:i+y.length<=hi)(h:(x.drop i).take y.length=y):
 iu x y hi cG cnt i=i::iu x y hi cG (cnt+1) (i+y.length):=by
 unfold iu;have e:hi+1 -i=(hi+1 -(i+y.length)+(y.length -1))+1:=by
  rw[nO,qc N,<-Nat.sub_sub,qc (Nat.le_sub_of_add_le' (o4 J))]
 rw[e];rw[m_];rw[if_pos ⟨⟨⟨hc,a7 _⟩,by rw[eR];exact J⟩,by rw[B6];exact decide_eq_true h⟩,eR,So _ _ _ _ _ _ _ _ _ (by exact bS ((nO ..).trans (congrArg (i+·) (qk N))))];congr 2;exact(nO ..).trans (congrArg (i+·) (qk N))
theorem Ad{x y:List Nat}{hi cG cnt i:Nat}(h:¬(i+y.length<=hi/\(x.drop i).take y.length=y)):iu x y hi cG cnt i=iu x y hi cG cnt (i+1):=by
 unfold iu;by_cases q:i+y.length<=hi
 ·have e:hi+1 -i=(hi+1 -(i+1))+1:=by rw[Nat.add_sub_add_right];exact Br (aw (c8 ..) q)
  rw[e];rw[m_];rw[if_neg (λc=>h ⟨q,by have:=c.2;rw[B6]at this;exact of_decide_eq_true this⟩)];exact MX _ _ _ _ _ _ _ _ _ (by exact c8 ..) (by exact a7 _)
 ·rw[As _ _ _ _ _ _ _ _ (by exact uy q),As _ _ _ _ _ _ _ _ (by rw[eR];exact cK (uy q) (iS (oW i) _))]
theorem Bb{x y:List Nat}{hi cG cnt i:Nat}(h:hi<i+y.length):iu x y hi cG cnt i=[]:=As _ _ _ _ _ _ _ _ (by rw[eR];exact h)
theorem QF{x y:List Nat}{hi i:Nat}(J:i+y.length<=hi)(h:(x.drop i).take y.length=y):iu x y hi 1 0 i=[i]:=by
 unfold iu;have e:hi+1 -i=(hi -i)+1:=Br (aw (c8 ..) J);rw[e];rw[m_];rw[if_pos ⟨⟨⟨by exact a7 _,a7 _⟩,by rw[eR];exact J⟩,by rw[B6];exact decide_eq_true h⟩,LX _ _ _ _ _ _ _ _ (a7 _)]
end Mine
namespace Mine
open PySem PyProof.Rows PySem.W
section
variable{prog:ft}{w:dB}{A:bg}{E:af->ah->Prop}{s:ah}
theorem KV{b:Bool}{Q:Int->ah->Prop}(h:Q (hashInt (if b then 1 else 0)) {s with toks:=s.toks+1}):
 wpAny (model prog w) A (pyHash (.bool b)) Q E s:=by
 have hr:=rawHash_range (if b then 1 else 0);unfold pyHash;refine ar ?_;rw[cRoomFor,if_neg (show¬[Bc b].any Value.onHeap=true from d_)];refine aU ?_;refine ar (nK (uk s b) F.slot_bool_hash.lookup ?_);show wpAny _ _ (if(some (Q4 "int.__hash__")==some g_)=true then _ else _) Q E s;rw[if_neg (by rw[beq_builtin_none];exact d_)];refine ar (nK (uk s b) F.slot_bool_hash.lookup ?_);show wpAny _ _ (callSpecialIfBoundUnlessNone? (.bool b) "__hash__" _>>= _) Q E s;refine ar (wpAny_callSpecialIfBoundUnlessNone?_slot (uk s b) F.slot_bool_hash
  (p_ F.slot_bool_hash (uk s b) entry_int_hash
   (show wpAny _ _ (do ret (<-mkInt (rawHash (if b then 1 else 0)))) _ _ s from wpAny_ret_mkInt ?_) (args_int_hash _)))
 show wpAny _ _ (if(decide (-(2:Int)^63<=rawHash (if b then 1 else 0))&&decide (rawHash (if b then 1 else 0)<2^63))=true then _ else _) Q E _;rw[if_pos (by rw[decide_eq_true hr.1,decide_eq_true hr.2];rfl)];exact aU h
end
noncomputable def Al(prog:ft)(w:dB):KeyKind prog w Bool where
 is k v:=v==.bool k
 hash k:=hashInt (if k then 1 else 0)
 inj v a b h1 h2:=ZN ((eq_of_beq h1).symm.trans (eq_of_beq h2))
 byValue k v h:=by rw[eq_of_beq h];rfl
 pyHash hv h:=by rw[eq_of_beq hv];exact KV h
 eqBool {A E s a b u v Q} J hv h:=by
  rw[eq_of_beq J,eq_of_beq hv];exact NA a b _ _ _ _ (show Q (a==b) s from(show(a==b)=decide (a=b) by cases a<;>cases b<;>rfl)▸h)
 «strs» k x t v h:=nomatch (eq_of_beq h)
noncomputable def Dd(C:Cfg):oz:=λ_ acc o=>∃bs:List Bool,acc=bs.map AV.bool/\o.SetObjOf (Al C.prog C.w) (λk=>bs.contains k) bs.length
theorem Mu{C:Cfg}:(Dd C).vI :=λ_ h=>h
noncomputable def nB(fe:EM):jd:=λacc F st=>(fe F st).bind λe=>e.1.b?.bind λb=>if acc.length<=2 then some (if acc.any (λa=>a.b?==some b)then acc else acc++[.bool b],F,e.2)else none
section
variable{C:Cfg}{n:Nat}{sc:bc}{T:ae->Prop}
theorem has_bool(bs:List Bool)(b:Bool):(bs.map AV.bool).any (λa=>a.b?==some b)=bs.contains b:=by
 induction bs with
 |nil=>rfl
 |cons x bs J=>exact(congrArg ((some x==some b)||·) J).trans (by cases x<;>cases b<;>rfl)
theorem RT:CD C (Dd C) (newSet (.type "set")):=λh=>wpAny_newSet_of (knd:=Al C.prog C.w) λled _=>h _ rfl ⟨[],rfl,setObjOf_fresh led⟩
theorem Ua{elt:aJ}{fe:EM}(he:bR C n sc elt fe):qP C n sc T (Dd C) (λenv acc=>do let v <-eval elt env;standAt elt.pos;let _ <-call (.builtin "set.add") [acc,v]) (nB fe):=⟨λ{A env F ρ st s Q E D acc o} hA N R hD O ho hb h=>by
 refine ar (he.k hA N R (h.bind.mono λe h V J s1 g1 R1 r1=>r1.b h.bind λb h=>ar (qt ?_)));obtain⟨hlen,h⟩:=h.ite;refine aG hb λbs Z4 hs=>?_;subst Z4;rw[aP]at hlen;have S:bs.length+1<scanBound:=bQ (fj hlen) (by decide);refine ar (call_set_add (knd:=Al C.prog C.w) (k:=b) (beq_self_eq_true _) rfl (hs.setOf (g1.cI _ _ ho O id) (Aj S)) S λh' Z5 Z6=>aU ?_);obtain⟨o',U,hO⟩:=Z6.objOf;have kk:∀a o,a≠D->s1.heap.get? a=some o->h'.get? a=some o:=λa o ne e=>(Z5.2 a ne).trans e;have Y:D∉J:=g1.iZ ho O;have gE:jc (·=D) J s1 J {s1 with heap:=h',toks:=s1.toks+1}:=jc.keeps (t:=s1.toks+1) kk;have gX:Go (pT env T D) J s1 J {s1 with heap:=h',toks:=s1.toks+1}:=⟨gE.pre,gE.new,λa o e m x=>gE.cI a o e m λz=>x (.inl z),λa o e=>by
  by_cases z:a=D
  ·exact⟨_,z▸U⟩
  ·exact gE.alive a o e z,rfl,rfl⟩
 refine h J _ _ (g1.wa.trans gX) ((N.go g1).oD gE (λz=>hD.loc z.symm) λx c q z=>hD.cell x c q z)
  (R1.lT (·=D) (λb o e m=>kk b o m e) (λa ha e=>Y (e▸ha)) λa o e z=>nomatch (z▸hD.base:C.base.get? a=none).symm.trans e) Y U ?_
 rw[has_bool];cases q:bs.contains b with
 |true=>
  refine⟨bs,rfl,?_⟩;rw[if_pos q]at hO;rwa[show(λk'=>bs.contains k'||decide (k'=b))=λk=>bs.contains k from funext λk=>by
   by_cases z:k=b
   ·rw[z,q];rfl
   ·rw[decide_eq_false z,Pp]]at hO
 |false=>
  refine⟨bs++[b],(if_neg (t:=bs.map AV.bool) d_).trans (show bs.map AV.bool++[.bool b]=_ from(dR (f:=AV.bool) (l₁:=bs) (l₂:=[b])).symm),?_⟩;rw[if_neg (by rw[q];exact d_)]at hO;rw[aT];rwa[show(λk'=>bs.contains k'||decide (k'=b))=λk=>(bs++[b]).contains k from funext λk=>by
   simp only[List.contains_eq_mem,ei,cx,Bool.decide_or]]at hO⟩
theorem call_one{A:bg}{E:af->ah->Prop}{s:ah}{f:af}{e:aJ}{pos:bM}{env:aR}{Q:af->ah->Prop}(J:isStar e=false)(hk:ik C f)
 (h:wpAny (model C.prog C.w) A (eval e env) (λV s1=>(∀b o,C.base.get? b=some o->s1.heap.get? b=some o)/\wpAny (model C.prog C.w) A (call f [V]) Q E s1) E s):
 wpAny (model C.prog C.w) A (callWith pos f [] (backTo pos (starEach [e] env)) []) Q E s:=by
 have N:Plain [e]:=.cons J .nil;refine Pg (P:=λh=>∀b o,C.base.get? b=some o->h.get? b=some o) (by rw[N.any];rfl) hk (DN N ?_);rw[pZ J];exact Hp (e8 h (λV s1 q=>Fm q) λ_ _ x=>x)
noncomputable def ta(fv:List Nat)(fi:aj->St->Option (It×St))(tg:b7)(ti:aj->St->Option (Bool×St))(em:jd)(k:Nat):EM:=
 λF st=>(fi F st).bind λp=>(jN tg ti em k p.1 [] (F.only fv) p.2).bind λr=>if r.1.length <=3 then some (.int r.1.length,r.2.2)else none
theorem PR{x:ae}{p pos':bM}{elt target iter:aJ}{ifs:List aJ}{scope:bc}{pos:bM}{tg:b7}{fi ti fe}{fv:List Nat}(k:Nat)
 (hf:∀A env F ρ st s Q E,a8 C sc ρ F env s.heap->Rel C ρ st s.heap->Q (.builtin "len") s->wpAny (model C.prog C.w) A (eval (.Name x p) env) Q E s)
 (hi:mL C n sc iter fi)(ht:bB C (fy scope sc) (mJ scope) target tg)(ki:nd C n (fy scope sc) ifs ti)(he:bR C n (fy scope sc) elt fe)
 (hc:lN scope sc=true)(iQ:aV C scope fv)(hs:∀env x,foldedSetIterable iter env x=pure x):
 bR C n sc (.Call (.Name x p) [.SetComp elt [⟨target,iter,ifs,0⟩] scope pos] [] pos') (ta fv fi tg ti (nB fe) k):=KE.s λ{A env F ρ st s Q E} hA N R h=>by
 refine o3 (hf A env F ρ st s _ E N R (call_one rfl cP ?_));rw[arm_eval_SetComp];refine Ag hA N R (gs:=[]) rfl ⟨λ_ _ _=>rfl,λ_ _ _ _=>rfl,λ_ _ _ _ _=>rfl,λ_ _ _ _=>rfl,λ_ _ _ _ _=>rfl,rfl⟩ RT Mu hi ht ki (Ua he) hc iQ (hs env)
  (Ok.bind' (h.bind.mono λp h=>h.bind.mono λq h D L aq s' o' g' R' Y Z4 Z5 J Z6 Z9 O S=>?_))
 refine bO S λm hm=>?_;refine aG Z4 λbs e1 hO=>?_;obtain⟨hlen,h⟩:=h.ite;refine⟨m,hm,λh' Z7=>?_⟩;have kk:∀a o,¬a=L->s'.heap.get? a=some o->h'.get? a=some o:=λa o ne e=>(Z7.2 a ne).trans e;have g2:Go No ρ s aq {s' with heap:=h'}:=(jc.keeps (t:=s'.toks) kk).after g' λa z=>z▸O;have R2:Rel C aq q.2.2 h':=R'.lT (·=L) (λb o e ne=>kk b o ne e) (λa ha z=>J (z▸ha)) λa o e z=>nomatch (z▸O:s.heap.get? a=none).symm.trans (R.keep _ _ e);refine⟨R2.keep,?_⟩;refine pN hO λhex es Z8=>?_;obtain⟨ep,t,hd,_,_,hz,hf⟩:=Z8;have U:es.size=q.1.length :=by rw[hz,e1,aP]
 refine call_len_set (kk _ _ Z6 Y) hex hd hf (by rw[U];exact xt (lC.mpr hlen) (by decide)) ?_;rw[U];exact h _ _ _ (g2.trans (.toks _)) R2 ⟨_,rfl⟩
end
open PySem.Builtin
section
variable{C:Cfg}{n:Nat}{sc:bc}
theorem Ks{ρ:aD}{st:St}{s:ah}{xs:List AV}{vs:List af}(R:Rel C ρ st s.heap)(r:bu ρ xs vs):
 Rel C (ρ++[s.heap.objs.size]) (st++[.tup xs]) (s.heap.push {cls:=.type "tuple",data:=.seq vs.toArray})/\RelV (ρ++[s.heap.objs.size]) (.ref st.length) (.ref s.heap.objs.size)/\
  Go No ρ s (ρ++[s.heap.objs.size]) {s with heap:=s.heap.push {cls:=.type "tuple",data:=.seq vs.toArray}}:=
 ⟨R.push rfl ⟨vs,dM _ rfl,r.mono (j_ _ _)⟩,m7 R,Go.alloc (t:=s.toks) (dk _ _) (fR _)⟩
noncomputable def dc(fa:aj->St->Option (List AV×St)):EM:=λF st=>(fa F st).bind λp=>if p.1.length <=sizeLine then some (.ref p.2.length,p.2++[.tup p.1])else none
theorem gm{es:List aJ}{k:Nat}{pos:bM}{fa}(O:ip C n sc es fa):bR C n sc (.Tuple es k pos) (dc fa):=KE.s λhA N R h=>
 wpAny_Tuple_spliced (O.k hA N R (h.bind.mono λp h Vs S t1 g1 U J=>⟨J.length.symm▸h.ite.1,
  have q:=Ks (C:=C) (s:=t1) U J
  h.ite.2 _ _ _ (g1.trans q.2.2) q.1 q.2.1⟩))
noncomputable def nv(f g:aj->St->Option (Bool×St)):aj->St->Option (Bool×St):=λF st=>(f F st).bind λp=>if p.1 then g F p.2 else some (false,p.2)
theorem DX:qR C n sc .And [] (λ_ st=>some (true,st)):=⟨λhA N R h=>wpAny_allTrue_And_nil (h _ _ .refl R)⟩
theorem wi{x:aJ}{es:List aJ}{f g}(h:lh C n sc x f)(hs:qR C n sc .And es g):qR C n sc .And (x::es) (nv f g):=⟨λhA N R q=>
 wpAny_allTrue_And_cons (h.k hA N R (q.bind.mono λp q J t1 g1 O=>by
  obtain⟨b,s1⟩:=p;cases b with
  |true=>exact hs.u hA (N.go g1) O (Ok.mono q λr k=>k.step g1)
  |false=>exact q J t1 g1 O))⟩
noncomputable def BQ(ks:List Nat)(f:EM):SM:=λF st=>(f F st).bind λp=>((b7.names ks).bind (.one p.1) F p.2).map λF'=>(.next,F',p.2)
theorem LQ{τ:Nat}{ts:List aJ}{j:Nat}{pt pos:bM}{value:aJ}{ks:List Nat}{f:EM}(J:b_ C sc (λ_=>True) ts ks)(he:bR C n sc value f)
 (hs:∀env,swapsWithSole [.Tuple ts j pt] value pos.line env=pure false)(hw:∀env,swappedStores [.Tuple ts j pt] value env=pure none):cA C n sc τ (.Assign [.Tuple ts j pt] value pos) (BQ ks f):=KX.s λ{A env F ρ st s Q E} hA O N R h=>
 NT (he.k hA N R (h.bind.mono λp h V S t1 g1 U Y=>
  Aq (item:=.one p.1) hA (bB.names J) (N.go g1) U Y (h.map.mono λF' h s' g' N' R'=>h _ _ _ (g1.own.trans g') N' R' rfl))) (hs env) (hw env)
noncomputable def yl(avs:List AV)(st:St):Option (AV×St):=(a1 avs).bind λa=>a.r?.bind λl=>(eo st l).bind λxs=>if xs.length<=sizeLine then some (.ref st.length,st++[.list xs])else none
theorem Q0:eO C n (.type "list") yl:=KC.s λ{A ρ st s avs vs Q E} hA R N h=>N.a1 h.bind λa Y O h=>O.r h.bind λl S U h=>R.t U h.bind λxs ws _ hl J h=>by
 obtain⟨hs,h⟩:=h.ite;refine call_list_seq S (.inr rfl) hl rfl rfl (λh' c' k e=>?_) (by rw[dH,J.length];exact hs);exact h _ _ _ (Go.alloc (t:=s.toks) k (fR _)) (R.alloc k (R.fh (fR _)) (R.iB (fR _)) ⟨_,e⟩ ⟨ws,⟨c',e⟩,J.mono (j_ _ _)⟩) (m7 R)
noncomputable def u9(a:Int)(k:Nat):List AV:=(cE k).map λ(i:Nat)=>.int (a+(i:Int))
theorem Rp{ρ:aD}{f:Nat->AV}:∀{n:Nat}{vs:List af},vs.length=n->(∀i v,vs[i]?=some v->RelV ρ (f i) v)->bu ρ ((cE n).map f) vs:=by
 intro n vs;induction vs generalizing n f with
 |nil=>exactλe _=>e▸.nil
 |cons v vs J=>
  intro e h;subst e;rw[dE,QU,bX,br];exact .cons (h 0 v rfl) (J (f:=f∘sH) rfl λi w q=>h (i+1) w q)
noncomputable def xU(fa:aj->St->Option (List AV×St)):EM:=λF st=>(fa F st).bind λp=>(a2 p.1).bind λq=>q.1.i?.bind λa=>q.2.i?.bind λb=>if(fZ a&&fZ b&&decide (b -a<=16777216))=true then some (.ref p.2.length,p.2++[.list (u9 a (b -a).toNat)])else none
theorem K5{x y:ae}{p1 p2 pos pos':bM}{args:List aJ}{fa}
 (hx:∀A env F ρ st s Q E,a8 C sc ρ F env s.heap->Rel C ρ st s.heap->Q (.type "list") s->wpAny (model C.prog C.w) A (eval (.Name x p1) env) Q E s)
 (hy:∀A env F ρ st s Q E,a8 C sc ρ F env s.heap->Rel C ρ st s.heap->Q (.type "range") s->wpAny (model C.prog C.w) A (eval (.Name y p2) env) Q E s)
 (hp:Plain args)(ha:ip C n sc args fa):bR C n sc (.Call (.Name x p1) [.Call (.Name y p2) args [] pos'] [] pos) (xU fa):=KE.s λ{A env F ρ st s Q E} hA N R h=>by
 refine o3 (hx A env F ρ st s _ E N R (call_one rfl d4 ?_));refine o3 (hy A env F ρ st s _ E N R (h.bind.some λp e h=>p0 hA N R hp d4 ha e λvs Z4 s1 g1 J r1=>?_));refine r1.a2 h.bind λa Va b Vb ra rb h=>ra.i h.bind λi t h=>rb.i h.bind λj u h=>?_;obtain⟨hc,h⟩:=h.ite;rw[gH,gH]at hc;have hi:=wB hc.1.1;have S:=wB hc.1.2;have hl:=of_decide_eq_true hc.2;have U:=dk s1.heap {cls:=.type "range",data:=.fields #[.int i t,.int j u,.int 1 s1.toks]};refine Pt ⟨λb o e=>U b o (J.keep b o e),?_⟩;refine call_list_range (n:=(j -i).toNat) hA.handled (GD _ _ _ _ _ _ _) (small_one hi.1 hi.2 S.1 S.2) (by rw[N8];split<;>(first|exact(Hq (Int.sub_nonneg_of_le (Oy (by assumption)))).symm |exact(congrArg Nat.cast (OT (Int.sub_nonpos_of_le (h_.mp (by assumption))))).symm)) (by exact FO.mpr (of_decide_eq_true hc.2)) λh' tk acc c k e hi=>?_;have Y:∀b o,s1.heap.get? b=some o->h'.get? b=some o:=λb o e=>k b o (U b o e);have O:s1.heap.get? (s1.heap.push {cls:=.type "range",data:=.fields #[.int i t,.int j u,.int 1 s1.toks]}).objs.size =none:=by rw[mX];exact j9 _ 1
 refine h _ _ _ (g1.trans (Go.alloc (t:=tk) Y O)) (J.alloc Y (J.fh O) (J.iB O) ⟨_,e⟩ ⟨acc.toList,⟨c,e⟩,Rp (ue.trans hi.1) λi v q=>?_⟩) (m7 J);obtain⟨t,r⟩:=hi.2 i v (by rw[<-Array.getElem?_toList];exact q);exact⟨t,r.trans (by rw[Int.mul_one])⟩
theorem Th{name:ae}{id:String}(slot:qb "tuple" name id)(J:typeOf (.builtin id)=pure (.type "method_descriptor")):gO C name (.builtin id) λa st=>a.r?.bind λl=>(eo st l).map λ_=>[a]:=KR.s λR r h=>r.rr h.bind λl O N r h=>R.t N h.map λxs vs _ hl _ h=>
 AY (T:="tuple") ⟨_,hl,rfl⟩ ZM slot J (λa e=>by cases e;exact⟨_,hl,rfl⟩) (h _ _ .refl R (.cons r .nil))
theorem eq_int{prog:ft}{w:dB}{A:bg}{s:ah}{x y:Int}{t u:Tok}{Q:Bool->ah->Prop}{E:af->ah->Prop}{r:Bool}(e:decide (x=y)=r)(h:Q r s):wpAny (model prog w) A (eqBool (.int x t) (.int y u)) Q E s:=
 Zg x t y u _ _ _ _ ((show(x==y)=r from e▸(qi.mpr (beq_iff_eq.trans (decide_eq_true_iff).symm)))▸h)
noncomputable def vY(k x y z:Int):Option Nat:=if x=k then some 0 else if y=k then some 1 else if z=k then some 2 else none
noncomputable def uR(avs:List AV)(st:St):Option (AV×St):=(a2 avs).bind λp=>p.1.r?.bind λl=>(eo st l).bind λxs=>(a3 xs).bind λq=>q.1.i?.bind λx=>q.2.1.i?.bind λy=>q.2.2.i?.bind λz=>p.2.i?.bind λk=>(vY k x y z).map λ(j:Nat)=>(AV.int (j:Int),st)
theorem Kn{a:ak}{x y z k:Int}{t u v o:Tok}{j:Nat}(e:vY k x y z=some j):Meets (Builtin.«tuple.index» ⟨[.ref a,.int k o],[]⟩)
 (λA R s=>s.heap.get? a=some {cls:=.type "tuple",data:=.seq #[.int x t,.int y u,.int z v]}/\R (.ok (.ret (.int (j:Int) s.toks))) {s with toks:=s.toks+1}):=by
 intro prog w A R s h;obtain⟨N,g,d,tk,os⟩:=s;obtain⟨hl,h⟩:=h;unfold Builtin.«tuple.index»;simp only[YV];refine ar (d9 rfl ?_);refine ar ?_;unfold YS
 wp_walk using wpAny_loadPart' hl
 rw[show uG 0 ([:Min.min #[bV x t,bV y u,bV z v].size #[bV x t,bV y u,bV z v].size]:ZF).size =[0,1,2]from by
  rw[show#[bV x t,bV y u,bV z v].size =3 from rfl];decide]
 rw[xo];refine ar (ar (eq_int rfl ?_));unfold vY at e;by_cases J:x=k
 ·rw[if_pos J]at e
  cases e
  rw[decide_eq_true J];exact ar (ar (E2 (aU (aU (aU (aU h))))))
 rw[decide_eq_false J];rw[if_neg J]at e;refine aU ?_;show wpAny _ _ (xo _ _ _ _ _) _ _ _;rw[xo];refine ar (ar (eq_int rfl ?_));by_cases J:y=k
 ·rw[if_pos J]at e
  cases e
  rw[decide_eq_true J];exact ar (ar (E2 (aU (aU (aU (aU h))))))
 rw[decide_eq_false J];rw[if_neg J]at e;refine aU ?_;show wpAny _ _ (xo _ _ _ _ _) _ _ _;rw[xo];refine ar (ar (eq_int rfl ?_));by_cases J:z=k
 ·rw[if_pos J]at e
  cases e
  rw[decide_eq_true J];exact ar (ar (E2 (aU (aU (aU (aU h))))))
 rw[if_neg J]at e;cases e
theorem Md:eO C n (.builtin "tuple.index") uR:=KC.s λ{A ρ st s avs vs Q E} hA R N h=>N.a2 h.bind λa Va b Vb O S h=>O.r h.bind λl la U h=>R.t U h.bind λxs ws _ hl J h=>by
 revert hl;refine J.a3 h.bind λx X y Y z Z rx ry rz h=>rx.i h.bind λx t h=>ry.i h.bind λy u h=>rz.i h.bind λz v h=>S.i h.bind λk o h=>h.map.some λj e h hl=>?_;exact qw PQ ⟨_,hl,rfl⟩ Zv (Zy _ _) (Kn e) ⟨hl,h _ ρ _ (.toks _) R ⟨_,rfl⟩⟩
end
end Mine
namespace Mine
open PySem PyProof.Rows PySem.W
noncomputable abbrev Jn(qual:ae)(params:qu)(body:aJ)(scope:bc)(clos:List (ae×ak))(pm:af)(c':ak)(d3:af):nQ:=Fz "<lambda>" qual params body scope clos pm (.ref c') d3
noncomputable abbrev yk(qual:ae)(params:qu)(body:aJ)(scope:bc)(clos:List (ae×ak))(pm:af)(c':ak)(d3:af):iK:={cls:=.type "function",data:=.func (Jn qual params body scope clos pm c' d3)}
noncomputable def sR(kp:Nat)(fv:List Nat)(fe:EM)(F:aj)(x:AV)(st:St):Option (AV×St):=fe ((kp,x)::F.only fv) st
section
variable{C:Cfg}{n:Nat}{sc:bc}
theorem D2{scope:bc}{ρ:aD}{F:aj}{env:aR}{h:aO}(N:a8 C sc ρ F env h)(hc:lN scope sc=true):∀p∈scope.names,p.2=.free ->∃c,env.cells.lookup p.1=some c:=λp m hf=>by
 have J:∀x,env.kindOf x=sc.names.lookup x:=λx=>by unfold jG;rw[N.scope]
 rcases(((tZ hc).2 p m).2 hf).1 with q|q
 ·exact(N.own p.1 ((J _).trans q)).elim λc e=>e.elim λ_ e=>⟨c,e.1⟩
 ·exact N.frees p.1 ((J _).trans q)
theorem Te{scope:bc}{ρ:aD}{st:St}{F:aj}{env env':aR}{s:ah}{fv:List Nat}{kp:Nat}{x:AV}{V:af}{h₀:aO}(N:a8 C sc ρ F env s.heap)(R:Rel C ρ st s.heap)(hc:lN scope sc=true)(iQ:aV C scope fv)
 (zC:∀p∈scope.names,p.2≠.cell)(pS:scope.names.lookup (C.nm kp)=some .local)(dT:env'.scope=scope)(eg:env'.globals=mainGlobals)(eb:env'.builtins=builtinsNs)(el:env'.locals=s.heap.objs.size)(ec:env'.cells=eY env scope.names [])
 (Y:h₀.Ns env'.locals λy=>[(C.nm kp,V)].lookup y)(keep:∀b o,s.heap.get? b=some o->h₀.get? b=some o)(r:RelV ρ x V):
 a8 C scope ρ ((kp,x)::F.only fv) env' h₀/\∀a,dr env' a->s.heap.get? a=none:=by
 obtain⟨⟨hk,Z4⟩,hm⟩:=tZ hc;have O:∀y,env'.kindOf y=scope.names.lookup y:=λy=>by unfold jG;rw[dT]
 have dead:s.heap.get? env'.locals=none:=by rw[el];exact fR _
 have look:∀y c,env'.cells.lookup y=some c->env.cells.lookup y=some c:=λy c q=>(zO (acc:=[]) _ (ec▸q)).elim id λz=>nomatch z;have J:∀y,env'.kindOf y≠some .cell :=λy q=>zC _ (lookup_mem ((O y).symm.trans q)) rfl;have cellAt:∀y c,env.cells.lookup y=some c->c∉ρ/\∃v,h₀.IsCell c v:=λy c q=>⟨(N.cells y c q).1,(N.cells y c q).2.imp λv z=>IsCell.of z λo e=>keep _ _ e⟩;have free:∀y,scope.names.lookup y=some .free ->∃c,env.cells.lookup y=some c/\env'.cells.lookup y=some c:=λy q=>
  (D2 N hc _ (lookup_mem q) rfl).imp λc e=>⟨e,ec▸DE e _ (.inl (lookup_mem q)) (λc'(z:([]:List (ae×ak)).lookup y=some c')=>nomatch z)⟩
 refine⟨⟨dT,hk,eg,eb,⟨_,Y⟩,R.fh dead,R.iB dead,λk v q=>?_,λy q=>absurd q (J y),λy z c hy hz=>N.apart _ _ _ (look _ _ hy) (look _ _ hz),λy q=>((hm _ (lookup_mem ((O y).symm.trans q))).2 rfl).2,λy c q=>cellAt y c (look y c q),
  λy q=>(free y ((O y).symm.trans q)).imp λc e=>e.2,λq=>absurd q Z4⟩,λa h=>h.elim (λz=>z▸dead) λz=>z.elim λy z=>absurd z.2.1 (J y)⟩
 rw[eK]at q;cases U:k==kp with
 |true=>
  rw[U]at q;cases q
  have e:=beq_iff_eq.mp U;refine⟨V,r,.inl ⟨(O _).trans (e▸pS),_,Y,?_⟩⟩;rw[e];show(match C.nm kp==C.nm kp with|true=>some V|false=>_)=_;rw[beq_self_eq_true]
 |false=>
  rw[U]at q;obtain⟨q1,q2⟩:=aj.DY q;have hf:=iQ.mem q2;refine aG (free _ hf) λc hc1 Z5=>?_;obtain⟨W,rW,hv⟩:=N.vars k v q1;have S:env.kindOf (C.nm k)=sc.names.lookup (C.nm k):=by unfold jG;rw[N.scope]
  have hs:=((hm _ (lookup_mem hf)).2 rfl).1;refine⟨W,rW,.inr ⟨.inr ((O _).trans hf),c,Z5,?_⟩⟩;rcases hv with⟨hl,_⟩|⟨_,c',e',z⟩
  ·rw[S]at hl;rw[hl]at hs;rcases hs with hs|hs<;>cases hs
  ·rw[hc1]at e';cases e'
   exact⟨z.1,IsCell.of z.2 λo e=>keep _ _ e⟩
structure Ju(C:Cfg)(n:Nat)(sc:bc)(params:qu)(body:aJ)(scope:bc)(kp:Nat)(fv:List Nat)(fe:EM):Prop where
 he:bR C n scope body fe
 hc:lN scope sc=true
 iQ:aV C scope fv
 zC:∀p∈scope.names,p.2≠.cell
 pS:scope.names.lookup (C.nm kp)=some .local
 vl:∀qual clos pm c' d3 V,bindArgs (Jn qual params body scope clos pm c' d3) ⟨[V],[]⟩=pure [(C.nm kp,V)]
 v7:scope.isCoroutine=false
 vO:scope.isGenerator=false
theorem QO{params:qu}{body:aJ}{scope:bc}{kp:Nat}{fv:List Nat}{fe:EM}(X:Ju C n sc params body scope kp fv fe){A:bg}{env:aR}{F:aj}{ρ:aD}{st:St}{s:ah}{Q:af->ah->Prop}{E:af->ah->Prop}
 {U c':ak}{qual:ae}{pm d3 V:af}{x:AV}(hA:bN (n+1) A)(N:a8 C sc ρ F env s.heap)(R:Rel C ρ st s.heap)(hf:s.heap.get? U=some (yk qual params body scope (eY env scope.names []) pm c' d3))(O:s.heap.CodeRec (.ref c') qual)
 (r:RelV ρ x V)(h:Ok (sR kp fv fe F x st) (Res C ρ s Q)):wpAny (model C.prog C.w) A (call (.ref U) [V]) Q E s:=by
 refine rZ (kla_callFunE hA.cG hf rfl X.v7 X.vO rfl O ?_);rw[X.vl];refine aU (wpAny_newFunctionEnv X.zC (λy m=>by cases m with|head=>exact X.pS|tail _ m=>cases m) (λh₀ Y S=>⟨(C.nolimit.keeps R.keep).fresh _ S,?_⟩) (tZ X.hc).1.1);have kk:∀b o,s.heap.get? b=some o->h₀.get? b=some o:=λb o e=>S.extBut b o (rN (j3 e)) (kD _ e);show codeAny _ _ (.expr body (envX qual scope s.heap.objs.size U (.ref c') (eY env scope.names []))) _ _;generalize J:envX qual scope s.heap.objs.size U (.ref c') (eY env scope.names [])=env';obtain⟨N1,own⟩:=Te (env':=env') (h₀:=h₀) N R X.hc X.iQ X.zC X.pS (by rw[<-J]) (by rw[<-J]) (by rw[<-J]) (by rw[<-J]) (by rw[<-J]) (by rw[<-J];exact Y) kk r;have g:Go No ρ s ρ {s with heap:=h₀,toks:=s.toks+1}:=.keeps kk;exact kla_codeExpr (X.he.k (hA.deeper env') N1 (R.keeps kk) (h.mono λp k V' aq s' g' R' r'=>k V' aq s' (g.trans g') R' r'))
end
noncomputable def AO.JL(o:AO):Option (List ((Nat×Nat)×Nat)):=AO.casesOn o aL (λ_=>aL) (λ_=>aL) (λ_=>aL) (λ_ _=>aL) (λ_=>aL) (λ_=>aL) (λ_ _=>aL) (λ_ _=>aL) (λ_ _=>aL) jI λ_=>aL
noncomputable def AO.code?(o:AO):Option ae:=AO.casesOn o aL (λ_=>aL) (λ_=>aL) (λ_=>aL) (λ_ _=>aL) (λ_=>aL) (λ_=>aL) (λ_ _=>aL) (λ_ _=>aL) (λ_ _=>aL) (λ_=>aL) jI
noncomputable def codeAt(st:St)(l:Nat)(q:ae):Option Unit:=(st[l]?).bind λo=>o.code?.bind λJ=>if J=q then some ()else none
noncomputable def vB(t ln co:Nat)(q:ae)(st:St):Option (Nat×St):=
 (st[t]?).bind λo=>o.JL.bind λes=>(es.lookup (ln,co)).elim (some (st.length,st.set t (.tab (es++[((ln,co),st.length)]))++[.code q])) λl=>some (l,st)
theorem Kk{pos:bM}{a b:Int}{c:af}:∀{l:List af},BD l->codeAmong pos (l++[rawInt a,rawInt b,c])=(codeAmong pos l).or (if a=pos.line/\b=pos.col then some c else none):=λ{l} h=>by
 fun_induction BD l with
 |case1=>
  show(if(a==pos.line&&b==pos.col)=true then some c else codeAmong pos [])=_;by_cases q:a=pos.line/\b=pos.col
  ·rw[if_pos q,if_pos (by rw[beq_iff_eq.mpr q.1,beq_iff_eq.mpr q.2];rfl)];rfl
  ·rw[if_neg q,if_neg (by rw[gH,beq_iff_eq,beq_iff_eq];exact q)];rfl
 |case2 J t b' u x rest N=>
  show(if(J==pos.line&&b'==pos.col)=true then some x else codeAmong pos (rest++_))=(if(J==pos.line&&b'==pos.col)=true then some x else codeAmong pos rest).or _;rw[N h];by_cases q:(J==(pos.line:Int)&&b'==(pos.col:Int))=true
  ·rw[if_pos q,if_pos q];rfl
  ·rw[if_neg q,if_neg q]
 |case3 l h1 h2=>exact h.elim
theorem QY{α β:Type}[BEq α](x:α)(l m:List (α×β)):(l++m).lookup x=(l.lookup x).or (m.lookup x):=by
 induction l with
 |nil=>rfl
 |cons p l J=>
  rw[eM,eK,eK,J];cases x==p.1<;>rfl
structure TabAt(C:Cfg)(t:Nat)(P cc:ak):Prop where
 code:C.code=.ref cc
 pin:(t,P)∈C.pins
 hd:ui C.base cc P
 bm:C.base.BuiltinsAt C.mg P
 ne:mainGlobals≠P
section
variable{C:Cfg}{n:Nat}{sc:bc}
theorem LG{ρ:aD}{st:St}{h:aO}{l:Nat}{q:ae}{c:ak}(R:Rel C ρ st h)(hc:ρ[l]?=some c){P:Unit->Prop}(e:Ok (codeAt st l q) P):h.CodeRec (.ref c) q/\P ():=
 R.o hc e.bind λo k e=>by
  cases o with
  |code J=>
   have z:=(show Ok (if J=q then some ()else none) P from e).ite;exact⟨k.elim λoc k=>k.elim λvs k=>k.elim λt k=>⟨c,oc,vs,t,rfl,k.1,k.2.1,z.1▸k.2.2⟩,z.2⟩
  |_=>exact dA e
theorem Ul{ρ:aD}{st:St}{h:aO}{t:Nat}{P:ak}(R:Rel C ρ st h)(O:ρ[t]?=some P){G:Prop}{f:List ((Nat×Nat)×Nat)->Option (Nat×St)}{K:Nat×St->Prop}
 (e:Ok ((st[t]?).bind λo=>o.JL.bind f) K)(k:∀es ps,st[t]?=some (.tab es)->h.get? P=some (tabObj ps)->BD ps.toList->(∀pos:bM,qM ρ (codeAmong pos ps.toList) (es.lookup (pos.line,pos.col)))->Ok (f es) K->G):G:=by
 refine aG e.bind.get λo J N=>?_;cases o with
 |tab es=>exact(R.at J O).elim λps q=>k es ps J q.1 q.2.1 q.2.2 N
 |_=>exact dA N
theorem NF{t:Nat}{P cc:ak}(T:TabAt C t P cc)(hsc:sc.names.lookup ("due":ae)=some .local){params:qu}{body:aJ}{scope:bc}{pos:bM}(Z5:∀env,defaultsOf params env=([],[]))(hc:lN scope sc=true)
 {A:bg}{env:aR}{F:aj}{ρ:aD}{st:St}{s:ah}{Q:af->ah->Prop}{E:af->ah->Prop}(N:a8 C sc ρ F env s.heap)(R:Rel C ρ st s.heap)
 (h:Ok (vB t pos.line pos.col (C.qual++"<lambda>") st) λp=>∀fq c' pm d3 aq s',Go No ρ s aq s'->Rel C aq p.2 s'.heap->aq[p.1]?=some c'->s.heap.get? fq=none->fq∉aq->
  s'.heap.get? fq=some (yk (C.qual++"<lambda>") params body scope (eY env scope.names []) pm c' d3)->Q (.ref fq) s'):
 wpAny (model C.prog C.w) A (eval (.Lambda params body scope pos) env) Q E s:=by
 have hP:ρ[t]?=some P:=R.pin _ T.pin;have here:=N.here hsc;refine kla_eval (Z5 env) ?_;rw[here.2];refine Ul R hP h λes ps he Z6 ht O h=>?_;have Z7:=we (D2 N hc);have hx:=O pos;cases q:es.lookup (pos.line,pos.col)with
 |some l=>
  rw[q]at hx h;refine aG hx λc Z8 Y=>?_;refine kla_makeFunctionHit (mg:=C.mg) Z7 N.globals (C.v9.keeps R.keep) (here.1.trans T.code) (T.hd.keeps R.keep) Z6 ht Y (T.bm.keeps R.keep) λd3 h' tk k sz=>?_;have kk:∀b o,s.heap.get? b=some o->(h'.push (yk (C.qual++"<lambda>") params body scope (eY env scope.names []) ((C.mg "__name__").getD .none) c d3)).get? b=some o:=λb o e=>dk _ _ _ _ (k b o e);have hn:s.heap.get? h'.objs.size=none:=by
   cases z:s.heap.get? h'.objs.size with
   |none=>rfl
   |some o=>exact absurd (j3 z) (iH.mpr sz)
  exact h h'.objs.size c _ d3 ρ {s with heap:=_,toks:=tk} (.keeps kk) (R.keeps kk) Z8 hn (R.fh hn) (dM _ rfl)
 |none=>
  rw[q]at hx h;refine Ny (mg:=C.mg) Z7 N.globals (C.v9.keeps R.keep) (here.1.trans T.code) (T.hd.keeps R.keep) Z6 ht hx T.ne (T.bm.keeps R.keep) λc' d3 h' tk hxx Z9 Z_ hrec htab=>?_;refine p7 hrec λc₂ oc vs tq e2 hoc hd hv=>?_;cases e2
  have kk:∀b o,b≠P->s.heap.get? b=some o->(h'.push (GQ "<lambda>" (C.qual++"<lambda>") params body scope (eY env scope.names []) ((C.mg "__name__").getD .none) c' d3)).get? b=some o:=λb o ne e=>dk _ _ _ _ (hxx b o ne e);have old:∀a,s.heap.objs.size<=a->s.heap.get? a=none:=λa le=>by
   cases z:s.heap.get? a with
   |none=>rfl
   |some o=>exact absurd (j3 z) (iH.mpr le)
  have Z4:=old c' Z9;have hfn:=old _ (cq (bQ Z9 Z_));have J:=dk h' (GQ "<lambda>" (C.qual++"<lambda>") params body scope (eY env scope.names []) ((C.mg "__name__").getD .none) c' d3) _ _ htab;have S:=dk h' (GQ "<lambda>" (C.qual++"<lambda>") params body scope (eY env scope.names []) ((C.mg "__name__").getD .none) c' d3) _ _ hoc;have R1:=R.put (o':=.gP) hP kk ⟨_,J⟩ trivial;have R2:=R1.alloc (o:=.code (C.qual++"<lambda>")) (λ_ _ e=>e) (R.fh Z4) (R.iB Z4) ⟨_,S⟩ ⟨oc,vs,tq,S,hd,hv⟩;have U:(ρ++[c'])[st.length]?=some c':=by rw[<-R.len];exact J9
  have hP':(ρ++[c'])[t]?=some P:=gJ (j_ _ _) hP;have htl:t<st.length:=(fX.mp he).1;have R3:=R2.put (o':=.tab (es++[((pos.line,pos.col),st.length)])) hP' (λb x _ e=>e) ⟨_,J⟩ ⟨_,J,by
   rw[Nh];exact TriplesOk_snoc _ _ _ _ ht,λpos'=>by
   rw[Nh];show qM _ (codeAmong pos' (ps.toList++[rawInt pos.line,rawInt pos.col,.ref c'])) _;rw[Kk ht,QY];have z:=O pos';cases q':es.lookup (pos'.line,pos'.col)with
   |some l=>
    rw[q']at z;refine aG z λc z1 z2=>?_;rw[z2];exact⟨c,gJ (j_ _ _) z1,rfl⟩
   |none=>
    rw[q']at z;rw[show codeAmong pos' ps.toList=none from z];show qM _ (if _ then _ else none) (fG (pos'.line,pos'.col) [((pos.line,pos.col),st.length)]);rw[eK];by_cases w:(pos.line:Int)=pos'.line/\(pos.col:Int)=pos'.col
    ·rw[if_pos w,show((pos'.line,pos'.col)==(pos.line,pos.col))=true from beq_iff_eq.mpr (by rw[OA w.1,OA w.2])]
     exact⟨c',U,rfl⟩
    ·rw[if_neg w,show((pos'.line,pos'.col)==(pos.line,pos.col))=false from beq_false_of_ne λz=>w ⟨congrArg (NC ·.1) z.symm,congrArg (NC ·.2) z.symm⟩]
     rfl⟩
  rw[List.set_append_left _ _ (by rw[xj];exact htl),AW]at R3;refine h h'.objs.size c' _ d3 (ρ++[c']) {s with heap:=_,toks:=tk} ⟨j_ _ _,λb m=>(ei.mp m).imp_right λ(z:b∈[c'])=>(congrArg s.heap.get? (cx.mp z)).trans Z4,λb o e n _=>kk b o (λz=>n (z▸j8 hP)) e,λb o e=>?_,rfl,rfl⟩ R3 U hfn (λm=>(ei.mp m).elim (R.fh hfn) λz=>absurd (cx.mp z) (jf Z_)) (dM _ rfl);by_cases z:b=P
  ·exact z▸⟨_,J⟩
  ·exact⟨o,kk b o z e⟩
end
noncomputable def mD{α:Type}(lt:Nat->Nat->Option Bool)(t:KasT α):Option α:=KasT.rec (motive:=λ_=>Option α) some (λi j _ again=>(lt i j).bind again) t
theorem TK{α:Type}{cmp:Nat->Nat->(Bool->ah->Prop)->ah->Prop}{lt:Nat->Nat->Option Bool}{s:ah}(h:∀i j K,Ok (lt i j) (λb=>K b s)->cmp i j K s){Q:α->ah->Prop}(t:KasT α):Ok (mD lt t) (λa=>Q a s)->t.kasWp cmp Q s:=by
 induction t with
 |ret a=>exact id
 |ask i j k J=>exactλq=>h i j _ (Ok.mono (Ok.bind (f:=λb=>mD lt (k b)) q) λb q=>J b q)
noncomputable def tj(J:AV->St->Option (AV×St))(xs:List AV):St->Option (List AV×St):=xZ (motive:=λ_=>St->Option (List AV×St)) (λst=>some ([],st)) (λx _ again st=>(J x st).bind λp=>(again p.2).map λq=>(p.1::q.1,q.2)) xs
section
variable{C:Cfg}{n:Nat}{sc:bc}
noncomputable abbrev oI(C:Cfg){α:Type}(A:bg)(t:dS α)(Q:α->ah->Prop)(E:af->ah->Prop)(s:ah):Prop:=wpAny (model C.prog C.w) A t Q E s
noncomputable abbrev jl(vs:List af)(e:Nat):iK:=seqObj "list" (nG vs) e
theorem QK{A:bg}{E:af->ah->Prop}{f:af}{kS:ak}{J:aD->ah->Prop}{kf:AV->St->Option (AV×St)}{body:af->PUnit->dS (ForInStep PUnit)}
 (hJ:∀ρ s aq s',Go (·=kS) ρ s aq s'->J ρ s->J aq s')(hB:C.base.get? kS=none)
 (hf:∀{ρ st s x V Q},J ρ s->Rel C ρ st s.heap->RelV ρ x V->Ok (kf x st) (Res C ρ s Q)->oI C A (call f [V]) Q (λ_ _=>False) s)
 (hb:∀(x:af)(ks:List af)(e:Nat)(s:ah)(K:ah->Prop),s.heap.get? kS=some (jl ks e)->ks.length<64->oI C A (call f [x]) (λk s'=>s'.heap.get? kS=some (jl ks e)/\∀h' c,S8 kS s'.heap h'->h'.get? kS=some (jl (ks++[k]) c)->K {s' with heap:=h'}) (λ_ _=>False) s->
  oI C A (body x ⟨⟩) (λr s'=>r=.yield ⟨⟩/\K s') E s){Q:PUnit->ah->Prop}{xs:List AV}{vs:List af}{ρ:aD}(r:bu ρ xs vs):
 ∀{aq st s ks kvs e},ρ<+:aq->J aq s->Rel C aq st s.heap->kS∉aq->s.heap.get? kS=some (jl ks e)->bu aq kvs ks->ks.length+vs.length<64->
 Ok (tj kf xs st) (λp=>∀O U bA s2,Go (·=kS) aq s bA s2->Rel C bA p.2 s2.heap->bu bA (kvs++p.1) O->s2.heap.get? kS=some (jl O U)->Q ⟨⟩ s2)->oI C A (forIn vs xJ body) Q E s:=by
 induction r with
 |nil=>
  intro aq st s ks kvs e _ _ R _ hk Y _ h;rw[Rk];exact aU (h ks e aq s .refl R (by rw[gj];exact Y) hk)
 |@cons x V xs vs rx _ ih=>
  intro aq st s ks kvs e hp hj R hn hk Y hl h;rw[BW];rw[dE]at hl;refine ar (e8 (hb V ks e s (λs'=>oI C A (forIn vs xJ body) Q E s') hk (by exact bQ (c8 ..) hl) (hf hj R (rx.mono hp) (h.bind.mono λp h K N s1 g1 R1 r1=>?_))) (λq s' z=>?_) λ_ _ x=>x)
  ·refine⟨g1.cI _ _ hk hn id,λh' c hs hc=>?_⟩
   have kk:∀b o,b≠kS->s1.heap.get? b=some o->h'.get? b=some o:=λb o ne e=>(hs.2 b ne).trans e;have g2:Go (·=kS) N s1 N {s1 with heap:=h'}:=⟨jE _,λ_ z=>.inl z,λb o e _ ne=>kk b o ne e,λb o e=>by
    by_cases z:b=kS
    ·exact z▸⟨_,hc⟩
    ·exact⟨o,kk b o z e⟩,rfl,rfl⟩
   have g:Go (·=kS) aq s N {s1 with heap:=h'}:=(g1.weak λ_ z=>z.elim).trans g2;have S:kS∉N:=g1.iZ hk hn;have R2:Rel C N p.2 h':=R1.lT (·=kS) (λb o e ne=>kk b o ne e) (λa m z=>S (z▸m)) λa o e z=>nomatch (z▸hB:C.base.get? a=none).symm.trans e;refine ih (hp.trans g1.pre) (hJ _ _ _ _ g hj) R2 S hc ((Y.mono g1.pre).append (.cons r1 .nil)) (by rw[aT,hU];exact bQ (bS (hH ..)) hl) (h.map.mono λq h O U bA s2 g' R' r' Z4=>?_);rw[dn]at r';exact h O U bA s2 (g.trans g') R' r' Z4
  ·obtain⟨rfl,z⟩:=z
   exact z
theorem UE{A:bg}{E:af->ah->Prop}{s:ah}{D kS:ak}{ks out:List af}{e e1:Nat}{J:SortSt}{P:Hl->ah->Prop}(O:(arrOf J).map (·.2)=nG out)(hz:out.length<64)(R:ks.length<64)(hf:failedOf J=none)
 (hk:s.heap.get? kS=some (jl ks e))(hD:s.heap.get? D=some (jl [] e1))(ne:D≠kS)(h:∀h' c,(∀b o,b≠D->b≠kS->s.heap.get? b=some o->h'.get? b=some o)->h'.get? D=some (jl out c)->(∃o,h'.get? kS=some o)->P (.done (.ret .none)) {s with heap:=h'}):
 oI C A (ksk_tail D false e1 (.ref kS) J) P E s:=by
 have s1:=Ax s.heap kS (gZ λ_=>(#[]:Array af));have N:=(s1.2 D ne).trans hD;obtain⟨ck,S⟩:∃ck,(s.heap.update kS (gZ λ_=>(#[]:Array af))).get? kS=some (seqObj "list" #[] ck):=⟨_,r8 hk λ_=>#[]⟩;have s2:=Ax (s.heap.update kS (gZ λ_=>(#[]:Array af))) D (gZ λ_=>nG out);obtain⟨U,Y⟩:∃U,((s.heap.update kS (gZ λ_=>(#[]:Array af))).update D (gZ λ_=>nG out)).get? D=some (jl out U):=⟨_,r8 N λ_=>nG out⟩;unfold ksk_tail;rw[O];refine ar (xc hk rfl ?_ (by exact aw (fV R) (by decide)) (cJ _));refine ar (wpAny_letGo ?_);refine ar (O2 N rfl ?_);refine ar (xc N rfl ?_ (cJ _) (by exact aw (fV hz) (by decide)));rw[hf];simp only[bne_self_eq_false,jh,if_false];exact aU (h _ U (λb o n1 n2 e=>(s2.2 b n1).trans ((s1.2 b n2).trans e)) Y ⟨_,(s2.2 kS ne.symm).trans S⟩)
noncomputable def y4(C:Cfg)(cmp:List AV->St->Option (Nat->Nat->Option Bool)):Prop:=∀{A ρ st s kvs ks}{P:(Nat->Nat->Option Bool)->Prop},A.units<cLine->Rel C ρ st s.heap->bu ρ kvs ks->2<=ks.length->Ok (cmp kvs st) P->
 ∃J lt,P lt/\(∀{Q:SortKind->ah->Prop},Q J s->oI C A (keyKind' (nG ks)) Q (λ_ _=>False) s)/\∀i j K,Ok (lt i j) (λb=>K b s)->Fu C.prog C.w A J ks i j K s
theorem Wk{ρ:aD}{kvs:List AV}{ks:List af}(r:bu ρ kvs ks):∀{P:List Bool->Prop},Ok (kvs.mapM AV.b?) P->∃bs,ks=bs.map Bc/\P bs:=by
 induction r with
 |nil=>exactλh=>⟨[],rfl,h⟩
 |cons a b N=>
  intro P h;rw[sg]at h;refine a.b (Ok.bind h) λx h=>?_;refine aG (N (Ok.bind h)) λbs J h=>?_;subst J;exact⟨x::bs,rfl,h⟩
theorem getD_map{α β:Type}{f:α->β}{l:List α}{i:Nat}{d:β}{a:α}(h:l[i]?=some a):(l.map f).getD i d=f a:=by
 rw[jg,dQ,h];rfl
theorem IU(p q:Bool):decide (b2i p<b2i q)=(!p&&q):=by cases p<;>cases q<;>rfl
theorem Ek{prog:ft}{w:dB}{A:bg}{E:af->ah->Prop}{s:ah}{p q:Bool}{Q:Bool->ah->Prop}(h:Q (!p&&q) s):wpAny (model prog w) A (oneLt' true (.bool p) (.bool q)) Q E s:=by
 rw[oneLt'_eq];simp only[if_true];refine ar (wpAny_cRoomFor_byValue rfl ?_);refine ar (wpAny_callSpecialIfBound?_slot (uk s p) F.slot_bool_lt (Q1 F.slot_bool_lt (uk s p) F.entry_int_lt (F.args_int_lt_2 _ _) (gives_int_lt_bools p q) ?_));show wpAny _ _ (truthOfDropped (.bool (decide (b2i p<b2i q)))) _ _ _;rw[IU];exact Ir h
noncomputable def tm(kvs:List AV)(_:St):Option (Nat->Nat->Option Bool):=(kvs.mapM AV.b?).map λbs i j=>(bs[i]?).bind λx=>(bs[j]?).map λy=>!x&&y
theorem SO:y4 C tm:=λ{A ρ st s kvs ks P} Y R r h2 h=>by
 refine aG (Wk r h.map) λbs J h=>?_;subst J;refine⟨_,_,h,λO=>kas_kind (T:=.type "bool") h2 (λv m=>?_) rfl rfl O,λi j K h=>?_⟩
 ·refine aG (dy.mp m) λb _ N=>?_;subst N
  exact .now
 ·refine h.bind.some λx S h=>h.map.some λy U h=>?_
  unfold Fu;rw[getD_map S,getD_map U,keyLt'_oneType];exact Ek h
noncomputable abbrev T4:=Bool×Bool×Bool×Int
noncomputable def y9(st:St)(a:AV):Option T4:=a.r?.bind λl=>(eo st l).bind λxs=>(a4 xs).bind λq=>q.1.b?.bind λx=>q.2.1.b?.bind λy=>q.2.2.1.b?.bind λz=>q.2.2.2.i?.map λi=>(x,y,z,i)
noncomputable def C8(k J:T4):Bool:=if k.1=J.1 then(if k.2.1=J.2.1 then(if k.2.2.1=J.2.2.1 then decide (k.2.2.2<J.2.2.2)else !k.2.2.1&&J.2.2.1)else !k.2.1&&J.2.1)else !k.1&&J.1
noncomputable def tA(kvs:List AV)(st:St):Option (Nat->Nat->Option Bool):=(kvs.mapM (y9 st)).map λts i j=>(ts[i]?).bind λx=>(ts[j]?).map λy=>C8 x y
noncomputable def XE(h:aO)(V:af)(k:T4):Prop:=∃a t,V=.ref a/\h.get? a=some {cls:=.type "tuple",data:=.seq #[.bool k.1,.bool k.2.1,.bool k.2.2.1,.int k.2.2.2 t]}
theorem Uo{ρ:aD}{st:St}{h:aO}(R:Rel C ρ st h){kvs:List AV}{ks:List af}(r:bu ρ kvs ks):∀{P:List T4->Prop},Ok (kvs.mapM (y9 st)) P->∃ts,(ks.length=ts.length/\KatTups h ks (ts.map λk=>.bool k.1)/\∀(i:Nat)(k:T4),ts[i]?=some k->∃V,ks[i]?=some V/\XE h V k)/\P ts:=by
 induction r with
 |nil=>exactλh=>⟨[],⟨rfl,trivial,λi k e=>nomatch e⟩,h⟩
 |cons a b N=>
  intro P q;rw[sg]at q;refine a.r (Ok.bind (Ok.bind q)) λl O hl q=>R.t hl q.bind λxs ws _ ht S q=>?_;revert ht;refine S.a4 q.bind λx X y Y z Z i I U ry rz ri q=>U.b q.bind λx q=>ry.b q.bind λy q=>rz.b q.bind λz q=>ri.i q.map λi t q ht=>?_;refine aG (N (Ok.bind q)) λts J q=>?_;obtain⟨e1,e2,e3⟩:=J;refine⟨(x,y,z,i)::ts,⟨congrArg (·+1) e1,YT ht rfl rfl rfl e2,λj k e=>?_⟩,q⟩;cases j with
  |zero=>cases e;exact⟨_,rfl,O,t,rfl,ht⟩
  |succ j=>exact e3 j k e
theorem Bt{A:bg}{s:ah}{x y:Bool}{r:List (af×af)}{i:Nat}{Q:Bool->ah->Prop}{fin:Bool}(h1:x=y->KatLex C.prog C.w A true fin Q r (i+1) s)(h2:x≠y->Q (!x&&y) s):KatLex C.prog C.w A true fin Q ((.bool x,.bool y)::r) i s:=by
 refine kat_cons (NA x y _ _ _ _ ?_);by_cases e:x=y
 ·rw[show(x==y)=true from beq_iff_eq.mpr e];exact kat_yes (h1 e)
 ·rw[show(x==y)=false from beq_false_of_ne e]
  refine kat_no ?_;cases hi:i==0 with
  |true=>exact Ek (h2 e)
  |false=>exact kat_one _ _ (lt_bool (by rw[IU];exact h2 e))
theorem RN:y4 C tA:=λ{A ρ st s kvs ks P} hu R r h2 h=>by
 refine aG (Uo R r h.map) λts N h=>?_;obtain⟨U,Y,S⟩:=N;refine⟨_,_,h,λhq=>kat_kind (T:=.type "bool") Y (by rw[aP,<-U];exact cK (by decide) h2) (λv m=>?_) rfl hq,λi j K h=>?_⟩
 ·refine aG (dy.mp m) λb _ O=>?_;subst O
  exact .now
 ·refine h.bind.some λx hx h=>h.map.some λy hy h=>?_
  refine vk (S i x hx) λV hV a J=>?_;obtain⟨t,rfl,ha⟩:=J;refine vk (S j y hy) λW hW b J=>?_;obtain⟨u,rfl,hb⟩:=J;unfold Fu;rw[jg,hV,jg,hW];refine kat_lt ha rfl hb rfl ?_;unfold C8 at h;refine Bt (λe=>?_) λe=>by rw[if_neg e]at h;exact h
  rw[if_pos e]at h;refine Bt (λe=>?_) λe=>by rw[if_neg e]at h;exact h
  rw[if_pos e]at h;refine Bt (λe=>?_) λe=>by rw[if_neg e]at h;exact h
  rw[if_pos e]at h;refine kat_cons (eq_int rfl ?_);by_cases e:x.2.2.2=y.2.2.2
  ·rw[decide_eq_true e]
   rw[decide_eq_false (by rw[e];exact Int.lt_irrefl _)]at h;exact kat_yes h
  ·rw[decide_eq_false e]
   exact kat_no (kat_one _ _ (lt_int h))
end
noncomputable def CY(cmp:List AV->St->Option (Nat->Nat->Option Bool))(J:AV->St->Option (AV×St))(xs:List AV)(st:St):Option (AV×St):=
 (tj J xs st).bind λp=>(cmp p.1 p.2).bind λlt=>(mD lt (oX xs.length)).map λa=>(.ref p.2.length,p.2++[.list (a.toList.map λi=>xs.getD i .none)])
section
variable{C:Cfg}{n:Nat}{sc:bc}
theorem Kz{prog:ft}{w:dB}{A:bg}{E:af->ah->Prop}{s:ah}{l:ak}{o:iK}{T:String}{m:Nat}{vs:List af}{Q:List af->ah->Prop}(O:T="list"\/T="tuple")(ho:s.heap.get? l=some o)(hc:o.cls=.type T)(hd:o.data=.seq vs.toArray m)
 (h:Q vs {s with heap:=(s.heap.push (seqObj "list" #[] 0)).update s.heap.objs.size (gZ (·++vs.toArray))})(N:vs.length<=sizeLine):wpAny (model prog w) A (collect (.ref l)) Q E s:=by
 unfold collect;refine ar (NL (xd entry_proto_collect' ?_));show wpAny _ _ (do again (.builtin "list.__iadd__" ⟨[<-newList [],.ref l],[]⟩)) _ _ s;refine ar (wY (aU ⟨Code.quiet_builtin _ (by decide+kernel),xd entry_list_iadd' ?_⟩));show wpAny _ _ (PG (.ref s.heap.objs.size) (.ref l) (.ref s.heap.objs.size)) _ _ {s with heap:=s.heap.push (seqObj "list" #[] 0)};unfold PG;have J:(s.heap.push (seqObj "list" #[] 0)).get? l=some o:=kD _ ho;refine ar (xM (T:=T) ⟨o,J,hc⟩ ?_);rw[if_pos (by rcases O with rfl|rfl<;>simp)];refine ar (AK J hd ?_);refine ar (AK (xs:=#[]) (n:=0) (qG _ rfl) rfl ?_);rw[if_neg (by simp)];refine ar (xc (xs:=#[]) (n:=0) (qG _ rfl) rfl ?_ (cJ _) (by show(#[]++vs.toArray).size <=sizeLine+1;simp only[NN,dH,nL];exact aw (bS (hK _)) (o4 N)));refine aU ?_;show wpAny (model prog w) A (do
  let o <-load s.heap.objs.size
  match o.data with
  |.seq xs _=>pure xs.toList
  |_=>unsupported "internal:collect") Q E {s with heap:=(s.heap.push (seqObj "list" #[] 0)).update s.heap.objs.size (gZ (·++vs.toArray))}
 refine ar (Fe (r8 (qG _ rfl) _) ?_);show wpAny _ _ (pure ((#[]:Array af)++vs.toArray).toList) Q E _;rw[show((#[]:Array af)++vs.toArray).toList =vs by simp];exact aU h
theorem Ok.map'{α β:Type}{x:Option β}{f:β->α}{P:α->Prop}(h:Ok x λa=>P (f a)):Ok (x.map f) P:=by
 cases x with
 |none=>exact h
 |some a=>exact h
theorem L0{J:AV->St->Option (AV×St)}{xs:List AV}:∀{st:St}{P:List AV×St->Prop},Ok (tj J xs st) P->Ok (tj J xs st) λp=>P p/\p.1.length =xs.length:=by
 induction xs with
 |nil=>exactλh=>⟨h,rfl⟩
 |cons x xs N=>exactλ{st P} h=>Ok.bind' ((Ok.bind h).mono λp h=>Ok.map' (Ok.mono (N (Ok.map h)) λq h=>⟨h.1,congrArg (·+1) h.2⟩))
theorem Lw{ρ:aD}{xs:List AV}{vs:List af}(r:bu ρ xs vs)(is:List Nat):bu ρ (is.map λi=>xs.getD i .none) (is.map λi=>vs.getD i .none):=by
 induction is with
 |nil=>exact .nil
 |cons i is J=>
  refine .cons ?_ J;show RelV ρ (xs.getD i .none) (vs.getD i .none);rw[jg,jg];cases q:xs[i]? with
  |none=>rw[uP.mpr (r.length.symm▸uP.mp q)];rfl
  |some x=>refine aG (r.get q) λV N O=>?_;rw[N];exact O
theorem VQ{A:bg}{E:af->ah->Prop}{s:ah}{ρ:aD}{st:St}{D:ak}{f:af}{m:Nat}{xs:List AV}{vs:List af}{P:Hl->ah->Prop}{cmp}{kf:AV->St->Option (AV×St)}(J:aD->ah->Prop)(hu:A.units<cLine)
 (R:Rel C ρ st s.heap)(rv:bu ρ xs vs)(h2:2<=vs.length)(S:vs.length<64)(hD:s.heap.get? D=some (jl vs m))(O:D∉ρ)(hDB:C.base.get? D=none)
 (hJ:∀X aq s' Z6 Y,(∀a,X a->a=D\/s.heap.get? a=none)->Go X aq s' Z6 Y->J aq s'->J Z6 Y)(hJ0:J ρ s)(hcmp:y4 C cmp)
 (hf:∀{ρ st s x V Q},J ρ s->Rel C ρ st s.heap->RelV ρ x V->Ok (kf x st) (Res C ρ s Q)->oI C A (call f [V]) Q (λ_ _=>False) s)
 (h:Ok ((tj kf xs st).bind λp=>(cmp p.1 p.2).bind λlt=>(mD lt (oX xs.length)).map λa=>(a.toList,p.2)) λq=>∀c aq s',Go (·=D) ρ s aq s'->Rel C aq q.2 s'.heap->D∉aq->
  s'.heap.get? D=some (jl (q.1.map λi=>vs.getD i .none) c)->P (.done (.ret .none)) s'):oI C A (ksk_tree D f false) P E s:=by
 have s1:=Ax s.heap D (gZ λ_=>(#[]:Array af));obtain⟨e1,ho1⟩:∃e1,(s.heap.update D (gZ λ_=>(#[]:Array af))).get? D=some (seqObj "list" #[] e1):=⟨_,r8 hD λ_=>#[]⟩;unfold ksk_tree;refine ar (AK hD rfl ?_);refine ar (xc hD rfl ?_ (by exact aw (fV S) (by decide)) (cJ _));refine ar (O2 ho1 rfl ?_);refine ar (Hv ?_ (by show vs.length<=_;rw[sizeLine_eq];exact aw (fV S) (by decide)));refine ar (wY ?_ (cJ _));refine mi ?_;unfold ksk_rest;refine ar (nJ ?_);rw[List.forIn_toArray];generalize hkS:((s.heap.update D (gZ λ_=>(#[]:Array af))).push {cls:=.type "tuple",data:=.seq vs.toArray.toList.toArray}).objs.size =kS;generalize Z7:((s.heap.update D (gZ λ_=>(#[]:Array af))).push {cls:=.type "tuple",data:=.seq vs.toArray.toList.toArray}).push {cls:=.type "list",data:=.seq ([]:List af).toArray }=h3;have k3:∀b o,b≠D->s.heap.get? b=some o->h3.get? b=some o:=λb o ne e=>Z7▸dk _ _ _ _ (dk _ _ _ _ ((s1.2 b ne).trans e));have Z5:h3.get? D=some (jl [] e1):=Z7▸dk _ _ _ _ (dk _ _ _ _ ho1);have hk3:h3.get? kS=some (jl [] 0):=by rw[<-Z7,<-hkS];exact dM _ rfl
 have U:s.heap.get? kS=none:=by
  rw[<-hkS,mX,PF];exact j9 _ 1
 have Z8:kS≠D:=λz=>nomatch (z▸U:s.heap.get? D=none).symm.trans hD;have g3:Go (·=D) ρ s ρ {s with heap:=h3}:=⟨jE _,λ_ z=>.inl z,λb o e _ ne=>k3 b o ne e,λb o e=>by
  by_cases z:b=D
  ·exact z▸⟨_,Z5⟩
  ·exact⟨o,k3 b o z e⟩,rfl,rfl⟩
 have R3:Rel C ρ st h3:=R.lT (·=D) (λb o e ne=>k3 b o ne e) (λa m z=>O (z▸m)) λa o e z=>nomatch (z▸hDB:C.base.get? a=none).symm.trans e;have kB:=R.iB U;refine ar (QK (C:=C) (kS:=kS) (J:=λaq s'=>J aq s'/\D∉aq/\s'.heap.get? D=some (jl [] e1)) (s:={s with heap:=h3}) (kvs:=[]) (λρ1 t1 bA t2 g j=>⟨hJ (·=kS) _ _ _ _ (λa z=>.inr ((congrArg s.heap.get? z).trans U)) g j.1,g.iZ j.2.2 j.2.1,g.cI _ _ j.2.2 j.2.1 Z8.symm⟩) kB (λj=>hf j.1)
  (λx ks e s' K hk hl hx=>?_) rv (jE _) ⟨hJ (·=D) _ _ _ _ (λa z=>.inl z) g3 hJ0,O,Z5⟩ R3 (R.fh U) hk3 .nil (by simpa using S) ((L0 h.bind).mono λp Z9 Z_ e' bA s2 g2 R2 r2 hk2=>?_))
 ·refine ar (wU (e8 hx (λk Y hk=>?_) λ_ _ z=>z.elim))
  have sb:=Ax Y.heap kS (gZ (·.push k));have ea:(nG ks).push k=nG (ks++[k]):=by simp
  obtain⟨c2,hc2⟩:∃c2,(Y.heap.update kS (gZ (·.push k))).get? kS=some (jl (ks++[k]) c2):=⟨_,(r8 hk.1 (·.push k)).trans (congrArg (λx=>some (seqObj "list" x _)) ea)⟩;refine ar (xc hk.1 rfl ?_ (by exact aw (fV hl) (by decide)) (aw (bS (Array.size_push ..)) (by exact cK hl (dm ..))));exact aU ⟨rfl,hk.2 _ c2 sb hc2⟩
 ·refine ar (AK hk2 rfl ?_)
  obtain⟨h,Z9⟩:=Z9;have hl:Z_.length=vs.length:=by rw[r2.length,ef,Z9,rv.length]
  have r2:bu bA p.1 Z_:=r2;refine fH (hcmp hu R2 r2 (hl.symm▸h2) h.bind) λκ lt h hkind hask=>?_;have hn2:¬vs.toArray.size<2:=by exact qh h2
  unfold ksk_end;dsimp only;rw[if_neg d_,if_neg hn2,if_neg hn2];refine ar (e8 (hkind (Q:=λκ' s'=>κ'=κ/\s'=s2) ⟨rfl,rfl⟩) (λκ' s' e=>?_) λ_ _ z=>z.elim);rw[e.1,e.2];have N:∀a o,s.heap.get? a=some o->a≠kS:=λa o e z=>nomatch (z▸U:s.heap.get? a=none).symm.trans e;have g:Go (·=D) ρ s bA s2:=⟨g2.pre,λa m=>(g2.new a m).imp_right λz=>g3.back z,λa o e n ne=>g2.cI a o (k3 a o ne e) n (N a o e),λa o e=>(g3.alive a o e).elim λo' e'=>g2.alive a o' e',g2.os,g2.gens⟩;have hD2:=g2.cI _ _ Z5 O Z8.symm;have Z4:D∉bA:=g2.iZ Z5 O;have hkρ2:kS∉bA:=g2.iZ hk3 (R.fh U);rw[<-rv.length]at h;refine ar (e8 (kat_run (G:=λp s'=>s'=s2/\mD lt (oX vs.length)=some p) (Q:=λst' s'=>∃p':Array Nat,p'.size=vs.length/\arrOf st'=p'.map (kas_item ((nG Z_).zip vs.toArray))/\failedOf st'=none/\s'=s2/\mD lt (oX vs.length)=some p') hl h2 S
   (λp' st' s' a1 a2 a3 a4=>⟨p',a1,a2,a3,a4.1,a4.2⟩) (TK hask _ (h.map.some λa ea _=>Ok.of ea ⟨rfl,ea⟩))) ?_ λ_ _ z=>z)
  rintro⟨⟨⟩,st'⟩ s' ⟨p',hp,har,hfl,es,ea⟩;rw[es];refine UE (C:=C) (kat_snds hl har) (by rw[aP,ue,hp];exact S) (by exact bQ (bS hl) S) hfl hk2 hD2 Z8.symm λh' c kk hD' hS'=>?_;rw[ea]at h;refine h c bA {s2 with heap:=h'} ⟨g.pre,g.new,λa o e n ne=>kk a o ne (N a o e) (g.cI a o e n ne),λa o e=>?_,g.os,g.gens⟩ (R2.lT (λa=>a=D\/a=kS) (λb o e ne=>kk b o (λz=>ne (.inl z)) (λz=>ne (.inr z)) e) (λa m z=>z.elim (λz=>Z4 (z▸m)) λz=>hkρ2 (z▸m)) λa o e z=>z.elim (λz=>nomatch (z▸hDB:C.base.get? a=none).symm.trans e) λz=>nomatch (z▸kB:C.base.get? a=none).symm.trans e) Z4 hD';by_cases z:a=D
  ·exact z▸⟨_,hD'⟩
  ·obtain⟨o',e'⟩:=g.alive a o e
   exact⟨o',kk a o' z (N a o e) e'⟩
noncomputable def C0(a:AV)(st:St):Option (List AV):=a.r?.bind λl=>(bF st l).or (eo st l)
noncomputable def sU(cmp:List AV->St->Option (Nat->Nat->Option Bool))(t ln co:Nat)(q:ae)(kp:Nat)(fv:List Nat)(fe fa:EM):EM:=λF st=>
 (fa F st).bind λp=>(vB t ln co q p.2).bind λm=>(C0 p.1 m.2).bind λxs=>if 2<=xs.length/\xs.length<64 then CY cmp (λx st=>(codeAt st m.1 q).bind λ_=>sR kp fv fe F x st) xs m.2 else none
theorem EJ{x:ae}{p pos S:bM}{arg:aJ}{fa:EM}{cmp}(hx:∀A env F ρ st s Q E,a8 C sc ρ F env s.heap->Rel C ρ st s.heap->Q (.builtin "sorted") s->wpAny (model C.prog C.w) A (eval (.Name x p) env) Q E s)
 (U:isStar arg=false)(ha:bR C (n+3) sc arg fa)(Z7:y4 C cmp){t:Nat}{P cc:ak}(T:TabAt C t P cc)(hsc:sc.names.lookup ("due":ae)=some .local){params:qu}{body:aJ}{scope:bc}{O:bM}(Z8:∀env,defaultsOf params env=([],[]))
 {kp:Nat}{fv:List Nat}{fe:EM}(X:Ju C n sc params body scope kp fv fe):
 bR C (n+3) sc (.Call (.Name x p) [arg] [⟨some "key",.Lambda params body scope O,S⟩] pos) (sU cmp t O.line O.col (C.qual++"<lambda>") kp fv fe fa):=KE.s λ{A env F ρ st s Q E} hA N R h=>by
 show wpAny _ _ (do callWith pos (<-eval (.Name x p) env) [] (backTo pos (starEach [arg] env)) (backToKw pos (keywordEach [⟨some "key",.Lambda params body scope O,S⟩] env))) Q E s;refine ar (hx A env F ρ st s _ E N R (callWith_kw ?_ (by rw[pZ U];rfl) (by rw[pZ U];rfl) rfl rfl));rw[pZ U];refine Hp (ha.k hA N R (h.bind.mono λa h V ρ1 s1 g1 R1 r1=>Fm (kws_cons (NF T hsc Z8 X.hc (N.go g1) R1 (h.bind.mono λm h fq c' pm d3 bA s2 g2 R2 hc' hn Z9 hf=>kws_nil ?_)))));show wpAny _ _ (call (.builtin "sorted") [V] [(dz "key",.ref fq)]) Q E s2;have N2:=(N.go g1).go g2;have r2:=r1.mono g2.pre;have gg:=g1.trans g2;have seq:Ok (C0 a.1 m.2) (λxs=>Ok (if 2<=xs.length/\xs.length<64 then CY cmp (λx st=>(codeAt st m.1 (C.qual++"<lambda>")).bind λ_=>sR kp fv fe F x st) xs m.2 else none) (Res C ρ s Q)):=h.bind
 have:∃la xs vs o T' md,V=.ref la/\bu bA xs vs/\(T'="list"\/T'="tuple")/\s2.heap.get? la=some o/\o.cls=.type T'/\o.data=.seq vs.toArray md/\Ok (if 2<=xs.length/\xs.length<64 then CY cmp (λx st=>(codeAt st m.1 (C.qual++"<lambda>")).bind λ_=>sR kp fv fe F x st) xs m.2 else none) (Res C ρ s Q):=
  r2.r seq.bind λl la hl h=>h.or.elim (λh=>R2.l hl h λxs vs _ hl rv h=>hl.elim λmd hl=>⟨la,xs,vs,_,"list",md,rfl,rv,.inl rfl,hl,rfl,rfl,h⟩) λh=>R2.t hl h λxs vs _ hl rv h=>⟨la,xs,vs,_,"tuple",_,rfl,rv,.inr rfl,hl,rfl,rfl,h⟩
 refine nf this λla xs vs o zq4=>?_;refine z7 zq4 λT' md zq2 rv hT ho Z_ zq7=>?_;subst zq2;obtain⟨hd,h⟩:=zq7;obtain⟨hl,h⟩:=h.ite;rw[<-rv.length]at hl;refine call_function_entry_kw kind_sorted plain_sorted entry_sorted (ksk_s1 _ _) ?_;unfold Builtin.«sorted»;refine ar (m:=checkCount "sorted" 1 1 _) (aU ?_);refine ar (Kz hT ho Z_ hd ?_ (by exact cq (cK hl.2 (by decide))));refine ar (wY ?_ (by exact cq (cK hl.2 (by decide))));generalize hD:((s2.heap.push (seqObj "list" #[] 0)).update s2.heap.objs.size (gZ (·++vs.toArray))).objs.size =D;generalize hh3:((s2.heap.push (seqObj "list" #[] 0)).update s2.heap.objs.size (gZ (·++vs.toArray))).push {cls:=.type "list",data:=.seq vs.toArray}=h3;have k3:∀b o,s2.heap.get? b=some o->h3.get? b=some o:=λb o e=>by
  rw[<-hh3];refine dk _ _ _ _ ?_;rw[lE _ _ _ _ (rN (j3 e))];exact dk _ _ _ _ e
 have hD3:h3.get? D=some (jl vs 0):=by rw[<-hh3,<-hD];exact dM _ rfl
 have J:s2.heap.get? D=none:=by rw[<-hD,PF,mX];exact j9 _ 1
 have g3:Go No bA s2 bA {s2 with heap:=h3}:=.keeps k3;have Z4:env.locals≠D:=λz=>N2.ns.elim λM w=>(oq w).elim λo e=>nomatch (z▸e:s2.heap.get? D=some o).symm.trans J;have Z5:∀y c,env.cells.lookup y=some c->c≠D:=λy c q z=>(N2.cells y c q).2.elim λv w=>(n5 w).elim λo e=>nomatch (z▸e:s2.heap.get? D=some o).symm.trans J;refine ar (mi (wpAny_call_entry_kw slot_list_sort ⟨_,hD3,rfl⟩ entry_list_sort ?_ (ksk_l1 _ _)));show wpAny (model C.prog C.w) A.in1.in1 (Builtin.«list.sort» ⟨[.ref D],[(dz "key",.ref fq)]⟩) _ _ _;rw[ksk_t1];have hA2:bN (n+1) A.in1.in1:=(hA.in1).in1;refine VQ (C:=C) (s:={s2 with heap:=h3}) (λaq s'=>a8 C sc aq F env s'.heap/\fq∉aq/\s'.heap.get? fq=some (yk (C.qual++"<lambda>") params body scope (eY env scope.names []) pm c' d3)/\aq[m.1]?=some c') hA2.WS
  (R2.keeps k3) rv hl.1 hl.2 hD3 (R2.fh J) (R2.iB J) (λY aq s' ρ'' s'' hY g j=>⟨j.1.oD g.l8 (λz=>?_) λy c q z=>?_,g.iZ j.2.2.1 j.2.1,g.cI _ _ j.2.2.1 j.2.1 λz=>?_,gJ g.pre j.2.2.2⟩) ⟨N2.go g3,Z9,k3 _ _ hf,hc'⟩ Z7
  (λ{aq st' s' x V Q} j R' r' h'=>h'.bind.some λ_ e h'=>QO X hA2 j.1 R' j.2.2.1 (LG (P:=λ_=>True) R' j.2.2.2 (Ok.of e trivial)).1 r' h') (Ok.bind' (h.bind.mono λp h=>Ok.bind' (h.bind.mono λlt h=>Ok.map' (h.map.mono λa h c aq s' g' R' Z6 hD'=>⟨.none,rfl,?_⟩))))
 ·exact(hY _ z).elim Z4 λz=>N2.ns.elim λM w=>(oq w).elim λo e=>nomatch (k3 _ _ e).symm.trans z
 ·exact(hY _ z).elim (Z5 y c q) λz=>(N2.cells y c q).2.elim λv w=>(n5 w).elim λo e=>nomatch (k3 _ _ e).symm.trans z
 ·exact(hY _ z).elim (λz=>nomatch hf.symm.trans ((congrArg s2.heap.get? z).trans J)) λz=>nomatch (k3 _ _ hf).symm.trans z
 ·have hD0:s.heap.get? D=none:=gg.back J
  have gD:Go No ρ s aq s':=((gg.weak (Y:=(·=D)) λ_ z=>z.elim).trans ((g3.weak λ_ z=>z.elim).trans g')).dead λa z=>(congrArg s.heap.get? z).trans hD0;obtain⟨R4,g4⟩:=known gD (R2.iB J) R' ⟨c,hD'⟩ (Lw (rv.mono g'.pre) a.toList) Z6 hD0;exact aU ⟨_,rfl,h _ _ _ g4 R4 (m7 R')⟩
end
noncomputable def C5(h:aO)(e:ak)(tb:af):Prop:=∃J vs,h.get? e=some J/\J.cls=.type "StopIteration"/\J.data=.fields vs/\vs[1]?=some tb/\vs[2]?=some .none
noncomputable def Yp(h:aO)(T:ak)(fl:af):Prop:=∃J ts,h.get? T=some J/\J.data=.fields ts/\ts[3]?=some fl
structure tJ(hr:aO)(fr:List ak)(h:aO)(e:ak)(tb:af):Prop where
 en:hr.get? e=none
 ex:C5 h e tb
 kp:∀b o,hr.get? b=some o->(b∉fr->h.get? b=some o)/\∃sl,h.get? b=some {o with slots:=sl}
structure Flt(hr:aO)(fr:List ak)(h:aO)(e T:ak)(fl:af):Prop where
 lu:tJ hr fr h e (.ref T)
 tn:hr.get? T=none
 ne:T≠e
 tb:Yp h T fl
section
variable{M:uM}{A:bg}{E:af->ah->Prop}{s:ah}{hr base:aO}{fr:List ak}{env:aR}{outer:List aR}{L e T:ak}{Q:Unit->ah->Prop}
theorem tJ.frames{h:aO}{tb:af}(x:tJ hr fr h e tb){l:List aR}(hl:hr.FunFrames base l):h.FunFrames base l:=
 hl.of_keeps λb o e _=>(x.kp b o e).2.elim λ_ z=>⟨_,z,rfl⟩
theorem FX{head:af}{N:Bool}{tb:af}(Z_:A.frames=some (env::outer))(hl:hr.FunFrames base (env::outer))(hf:env.frame=some L)(Z4:∀b∈(env::outer).filterMap (·.frame),b∈fr)(x:tJ hr fr s.heap e tb)
 (h:∀h' T,Flt hr fr h' e T (rawInt L)->Q () {s with heap:=h'}):
 wpAny M A (do let a <-frameOf env;let pl <-entryPlaceOf L N;let b <-Pc head a .none (rawInt L) .none pl;setField (.ref e) 1 b) Q E s:=by
 refine kr x.ex λoe vs he hc hd h1 h2=>?_;have Z5:=x.frames hl;have Z6:e∉(env::outer).filterMap (·.frame):=λhm=>by
  refine tc (Z5.mem hm) λ_ o ho hnf=>?_;rw[he]at ho;cases ho;exact hnf vs hd
 refine ar (wpAny_frameOf_fun Z_ Z5 hf λh₁ J=>?_);refine ar (wpAny_entryPlaceOf λpl Z7=>?_);unfold Pc newFields;refine ar (ql ?_ (Z7.sizeOk5 _ _ _ _ _));have O:h₁.get? e=some oe:=(J.2.1 e Z6).trans he;have R:=kD (h:=h₁) {cls:=.type "traceback",dict:=none,data:=.fields ([head,.ref L,.none,rawInt L,.none]++(if pl.isEmpty then bZ 6 g_ else pl)).toArray } O;have Z8:1<vs.size:=(Ou.mp h1).1;refine uw R hd Z8 (h _ h₁.objs.size ?_);have Z9:h₁.objs.size≠e:=jf (j3 O);have S:=si hd (·.setIfInBounds 1 (eJ h₁.objs.size));have Y:=(EW (h₁.push {cls:=.type "traceback",dict:=none,data:=.fields ([head,.ref L,.none,rawInt L,.none]++(if pl.isEmpty then bZ 6 g_ else pl)).toArray })
  (r9 (·.setIfInBounds 1 (eJ h₁.objs.size))) (Ne.symm Z9)).trans (qG h₁ rfl)
 have keep:∀b o,b≠e->h₁.get? b=some o->((h₁.push {cls:=.type "traceback",dict:=none,data:=.fields ([head,.ref L,.none,rawInt L,.none]++(if pl.isEmpty then bZ 6 g_ else pl)).toArray }).update e (r9 (·.setIfInBounds 1 (eJ h₁.objs.size)))).get? b=some o:=
  λb o hbe hb=>(EW _ _ (Ne.symm hbe)).trans (kD _ hb)
 have U:∀b o,hr.get? b=some o->b≠e:=λb o q z=>nomatch (z▸x.en:hr.get? b=none).symm.trans q;refine⟨⟨x.en,⟨_,_,qm _ R (wN S),(Gu _ _).trans hc,S,by simp[Z8],by rw[Array.getElem?_setIfInBounds_ne (by decide)];exact h2⟩,λb o q=>?_⟩,?_,Z9,⟨_,_,Y,rfl,by first|(simp;done)|(rcases Z7 with rfl|⟨_,_,_,_,_,_,_,rfl⟩<;>simp)⟩⟩
 ·refine pN (x.kp b o q) λk1 sl k2=>?_
  refine bO (J.2.2 b _ k2) λsl' k3=>?_;exact⟨λn=>keep b o (U b o q) ((J.2.1 b λm=>n (Z4 b m)).trans (k1 n)),sl',keep b _ (U b o q) k3⟩
 ·cases q:hr.get? h₁.objs.size with
  |none=>rfl
  |some o=>refine pN (x.kp _ o q) λ_ sl k2=>?_;exact absurd (j3 k2) (by rw[J.1];exact jH _)
theorem Um(N:A.frames=some (env::outer))(hl:hr.FunFrames base (env::outer))(hf:env.frame=some L)(J:∀b∈(env::outer).filterMap (·.frame),b∈fr)(x:tJ hr fr s.heap e .none)
 (h:∀h' T,Flt hr fr h' e T (rawInt L)->Q () {s with heap:=h'}):wpAny M A (noteFrame (.ref e) env) Q E s:=by
 refine kr x.ex λO vs he hc hd h1 h2=>?_;unfold noteFrame;simp only[hf];refine ar (je he hd h1 ?_);rw[if_neg (by decide)];exact FX N hl hf J x h
theorem H4{fl N:af}(x:Flt hr fr s.heap e T fl)(h:∀h',Flt hr fr h' e T N->Q () {s with heap:=h'}):wpAny M A (setField (.ref T) 3 N) Q E s:=by
 refine fH x.tb λoT ts S O h3=>?_;have R:=(Ou.mp h3).1;have other:∀b,b≠T->(s.heap.update T (r9 (·.setIfInBounds 3 N))).get? b=s.heap.get? b:=λb hb=>EW _ _ (Ne.symm hb);have J:∀b o,hr.get? b=some o->b≠T:=λb o q z=>nomatch (z▸x.tn:hr.get? b=none).symm.trans q;refine uw S O R (h _ ⟨⟨x.lu.en,?_,λb o q=>?_⟩,x.tn,x.ne,⟨_,_,qm _ S (wN (si O _)),si O _,by simp[R]⟩⟩)
 ·refine ou x.lu.ex λU vs he r=>?_
  exact⟨U,vs,(other e x.ne.symm).trans he,r⟩
 ·refine pN (x.lu.kp b o q) λY sl k2=>?_
  exact⟨λn=>(other b (J b o q)).trans (Y n),sl,(other b (J b o q)).trans k2⟩
theorem yq{fl:af}{f:Option ak}(x:Flt hr fr s.heap e T fl)(h:∀h',Flt hr fr h' e T (f.elim .none λf=>rawInt f)->Q () {s with heap:=h'}):wpAny M A (setFlight (.ref e) f) Q E s:=by
 refine kr x.lu.ex λJ vs he hc hd h1 h2=>?_;unfold setFlight;refine ar (je he hd h1 ?_);rw[if_pos (show(eJ T !=g_)=true from by simp)];exact H4 x h
theorem QZ(hf:env.frame=some L)(x:Flt hr fr s.heap e T (rawInt L))(h:Q () s):wpAny M A (noteFrame (.ref e) env) Q E s:=by
 refine kr x.lu.ex λO vs he hc hd h1 h2=>?_;refine fH x.tb λR ts N J h3=>?_;exact wpAny_noteFrame_inFlight hf he hd h1 N J h3 h
theorem Tq(N:A.frames=some (env::outer))(hl:hr.FunFrames base (env::outer))(hf:env.frame=some L)(J:∀b∈(env::outer).filterMap (·.frame),b∈fr)(x:Flt hr fr s.heap e T .none)
 (h:∀h' T,Flt hr fr h' e T (rawInt L)->Q () {s with heap:=h'}):wpAny M A (noteFrame (.ref e) env) Q E s:=by
 refine kr x.lu.ex λU vs he hc hd h1 h2=>?_;refine fH x.tb λY ts R O h3=>?_;unfold noteFrame;simp only[hf];refine ar (je he hd h1 ?_);rw[if_pos (show(eJ T !=g_)=true from by simp)];refine ar (je R O h3 ?_);rw[if_neg (show¬((g_==rawInt L)=true)from by simp[rawInt])];exact ar (H4 x λh' S=>FX N hl hf J S.lu h)
theorem Q8(hf:env.frame=some L)(x:Flt hr fr s.heap e T (rawInt L))(h:∀h',Flt hr fr h' e T .none ->Q () {s with heap:=h'}):wpAny M A (leaving env (.ref e)) Q E s:=
 ar (QZ hf x (yq x h))
theorem Sb{K:af->ah->Prop}{fl:af}(hf:env.frame=some L)(x:Flt hr fr s.heap e T fl)(h:∀h',Flt hr fr h' e T (rawInt L)->K (.ref e) {s with heap:=h'}):cameBackBy M A env K (.ref e) s:=by
 refine kr x.lu.ex λJ vs he hc hd h1 h2=>?_;unfold cameBackBy;refine ar (je he hd h1 ?_);rw[if_neg (show¬((eJ T==g_)=true)from by simp)];rw[hf];exact yq x h
end
theorem K2{prog:ft}{w:dB}{A:bg}{α:Type}{Q:α->ah->Prop}{E:af->ah->Prop}{s:ah}(J:A.handled=none)
 (h:∀h' e,(∀b o,s.heap.get? b=some o->h'.get? b=some o)->s.heap.get? e=none->C5 h' e .none ->E (.ref e) {s with heap:=h'}):wpAny (model prog w) A (newExc (.type "StopIteration") []>>= λe=>raiseNew e:dS α) Q E s:=by
 refine ar ?_;simp only[newExc,newTuple];refine ar (ql ?_ (by size_fits));refine ar (m:=firstArgMember _ _) (d9 (a:=g_) (by first|rfl|(simp only[firstArgMember];rfl)) ?_);refine ql ?_ (by size_fits);simp only[raiseNew];refine ar (Fh ?_);rw[J];refine ar (aU (G9 ?_));exact h _ _ (λb o e=>kD _ (kD _ e)) (by rw[mX];exact j9 _ 1) ⟨_,_,qG _ rfl,rfl,rfl,rfl,rfl⟩
theorem next_end{prog:ft}{w:dB}{A:bg}{it l:ak}{i:Nat}{items:Array af}{Q:af->ah->Prop}{E:af->ah->Prop}{s:ah}(S:A.handled=none)
 (hit:s.heap.IsListIter it l i)(hl:s.heap.IsList l items)(U:items[i]?=none)
 (Y:∀(hm h':aO)(e:ak),(∀b o,b≠it->s.heap.get? b=some o->hm.get? b=some o)->(∃o,hm.get? it=some o)->(∀b o,hm.get? b=some o->h'.get? b=some o)->hm.get? e=none->C5 h' e .none ->E (.ref e) {s with heap:=h'}):wpAny (model prog w) A (call (.builtin "next") [.ref it]) Q E s:=by
 refine dh (id hit) λo ho hc hd=>?_;refine dh hl λol J _ N=>?_;obtain⟨nl,O⟩:=N;refine Ap (by decide+kernel) (by decide+kernel) Na (Qm _) ?_;unfold Builtin.«next»;refine ar (m:=someArgs "next" 1 2 _) (d9 (a:=[eJ it]) (by first|rfl|kernel_rfl) ?_);dsimp only;refine ar (nK (name:=dz "__next__") hit.typeIs qe.lookup (E4 (λR=>absurd R (by simp)) (λ_=>?_)));refine ar (xu (name:=dz "__next__") hit.typeIs qe (p_ qe hit.typeIs G4 ?_ (FZ _)));show wpAny _ _ (field (.ref it) 0>>= _) _ _ s;refine ar (je ho hd (x:=.ref l) rfl ?_);show wpAny _ _ (if(eJ l==g_)=true then _ else _) _ _ s;rw[if_neg (show¬((eJ l==g_)=true)from d_)];show wpAny _ _ (field (.ref it) 1>>= _) _ _ s;refine ar (je ho hd (x:=.int i 0) rfl ?_);show wpAny _ _ (seqItems? (.ref l)>>= _) _ _ s;refine ar (xy J O ?_);simp only[xv,U];refine ar (nJ (ar (uw ho hd (by simp) ?_)));show wpAny _ _ (newExc (.type "StopIteration") []>>= λe=>raiseNew e) _ _ _;have hi:=qm (r9 (·.setIfInBounds 0 g_)) ho (wN (si hd _));exact K2 S λh' e k hn he=>Y _ h' e (λb o ne e=>(lE _ _ _ _ ne).trans e) ⟨_,hi⟩ k hn he
noncomputable def uJ(h:aO)(x:ak):Prop:=∃o vs,h.get? x=some o/\o.data=.fields vs/\vs[2]?=some .none
theorem Km:entryFor table "proto.unchain"=some Builtin.«proto.unchain»:=AE (by kernel_rfl)
theorem KU{prog:ft}{w:dB}{A:bg}{α:Type}{Q:α->ah->Prop}{E:af->ah->Prop}{s:ah}{x:ak}(Y:A.handled=some (.ref x))(hx:uJ s.heap x)
 (h:∀h' e,(∀b o,s.heap.get? b=some o->h'.get? b=some o)->(∃o,h'.get? e=some o/\o.cls=.type "StopIteration")->E (.ref e) {s with heap:=h'}):wpAny (model prog w) A (newExc (.type "StopIteration") []>>= λe=>raiseNew e:dS α) Q E s:=by
 refine ar ?_;simp only[newExc,newTuple];refine ar (ql ?_ (by size_fits));refine ar (m:=firstArgMember _ _) (d9 (a:=g_) (by first|rfl|(simp only[firstArgMember];rfl)) ?_);refine ql ?_ (by size_fits);simp only[raiseNew];refine ar (Fh ?_);rw[Y];refine fH hx λo vs ho hd h2=>?_;have R:∀b o',s.heap.get? b=some o'->((s.heap.push {cls:=.type "tuple",data:=.seq ([]:List af).toArray }).push {cls:=.type "StopIteration",data:=.fields (#[.ref s.heap.objs.size,.none,.none,.none,.bool false,.none]++ownMembersOf (.type "StopIteration") [])}).get? b=some o':=λb o' e=>kD _ (kD _ e);generalize S:((s.heap.push {cls:=.type "tuple",data:=.seq ([]:List af).toArray }).push {cls:=.type "StopIteration",data:=.fields (#[.ref s.heap.objs.size,.none,.none,.none,.bool false,.none]++ownMembersOf (.type "StopIteration") [])})=N at R;generalize U:(s.heap.push {cls:=.type "tuple",data:=.seq ([]:List af).toArray }).objs.size =J;have he:N.get? J=some {cls:=.type "StopIteration",data:=.fields (#[.ref s.heap.objs.size,.none,.none,.none,.bool false,.none]++ownMembersOf (.type "StopIteration") [])}:=by rw[<-S,<-U];exact qG _ rfl
 have O:s.heap.get? J=none:=by rw[<-U,mX];exact j9 _ 1
 have ne:x≠J:=λz=>nomatch (z▸ho:s.heap.get? J=some o).symm.trans O;show wpAny _ _ (if(eJ x !=eJ J)=true then _ else _) Q E {s with heap:=N};rw[if_pos (show(eJ x !=eJ J)=true by simp[ne])];refine ar (mi (NL (xd Km ?_)));show wpAny _ _ (field (.ref x) 2>>= _) _ _ _;refine ar (je (R _ _ ho) hd h2 ?_);rw[if_pos (show(g_==g_)=true from rfl)];refine aU ?_;refine ar (uw he rfl (by rw[NN];exact cK (by decide:2<6) (c8 _ _)) (G9 ?_));refine h _ J (λb o' e=>(lE _ _ _ _ λz=>nomatch e.symm.trans ((congrArg s.heap.get? z).trans O)).trans (R b o' e)) ⟨_,qm _ he (wN (si rfl _)),Gu _ _⟩
theorem Ke{prog:ft}{w:dB}{A:bg}{it l x:ak}{i:Nat}{items:Array af}{Q:Option af->ah->Prop}{E:af->ah->Prop}{s:ah}(hh:A.handled=some (.ref x))(hx:uJ s.heap x)(J:x≠it)
 (hit:s.heap.IsListIter it l i)(hl:s.heap.IsList l items)(hx:items[i]?=none)
 (hQ:∀h',(∀b o,b≠it->s.heap.get? b=some o->h'.get? b=some o)->Q none {s with heap:=h'}):wpAny (model prog w) A (pyNext (.ref it)) Q E s:=by
 refine dh (id hit) λo ho hc hd=>?_;refine dh hl λol N _ O=>?_;obtain⟨nl,R⟩:=O;unfold pyNext;refine ar (wU (xu (name:=dz "__next__") hit.typeIs qe
  (p_ qe hit.typeIs G4 ?_ (FZ _))))
 show wpAny _ _ (field (.ref it) 0>>= _) _ _ s;refine ar (je ho hd (x:=.ref l) rfl ?_);show wpAny _ _ (if(eJ l==g_)=true then _ else _) _ _ s;rw[if_neg (show¬((eJ l==g_)=true)from d_)];show wpAny _ _ (field (.ref it) 1>>= _) _ _ s;refine ar (je ho hd (x:=.int i 0) rfl ?_);show wpAny _ _ (seqItems? (.ref l)>>= _) _ _ s;refine ar (xy N R ?_);simp only[xv,hx];refine ar (nJ (ar (uw ho hd (by simp) ?_)));show wpAny _ _ (newExc (.type "StopIteration") []>>= λe=>raiseNew e) _ _ _;refine KU (x:=x) hh (by rename_i S _;refine ou S λox vx e1 e2=>?_;exact⟨ox,vx,(lE _ _ _ _ J).trans e1,e2⟩) λh' e k he=>?_;refine aG he λoe U Y=>?_;refine ar (Oh (T:="StopIteration") (b:=true) ⟨_,U,Y⟩ FN ?_);exact aU (hQ _ λb o ne e=>k b o ((lE _ _ _ _ ne).trans e))
theorem Ky{prog:ft}{w:dB}{A:bg}{x:ak}(hh:A.handled=some (.ref x))(I N:ak)(S:N≠I)(Y:x≠I)(items:Array af):
 Walks prog w A I [I,N,x] [I] items.size (λi v=>items[i]?=some v) (λi h=>h.IsListIter I N i/\h.IsList N items/\uJ h x)where
 sub:=λb hb=>by simp at hb;simp[hb]
 frame:=λ_ _ _ st hk=>⟨st.1.at λo e=>hk I (by simp) o e,st.2.1.at λo e=>hk N (by simp) o e,st.2.2.imp λo z=>z.imp λvs z=>⟨hk x (by simp) o z.1,z.2⟩⟩
 item:=λi s Q E hi st O=>by
  refine RI st.1 st.2.1 (x:=items[i]) (by simp[hi]) λh' R J=>?_;exact O _ h' s.toks (by simp[hi]) ⟨R,st.2.1.extBut J.extBut S,st.2.2.imp λo z=>z.imp λvs z=>⟨J.extBut x o Y z.1,z.2⟩⟩ λb o hb e=>J.extBut b o (λh=>hb (by simp[h])) e
 done:=λs Q E st O=>Ke hh st.2.2 Y st.1 st.2.1 (by simp) λh' U=>O h' s.toks λb o hb e=>U b o (λh=>hb (by simp[h])) e
 self:=λ_ _ _ _ st O=>A6 st.1 O
theorem Xb{prog:ft}{w:dB}{A:bg}{E:af->ah->Prop}{s:ah}{l x:ak}{xs:Array (Int×Tok)}{Q:af->ah->Prop}(S:A.handled=some (.ref x))(O:uJ s.heap x)(hl:s.heap.IsList l (intItems xs))
 (h:∀h' tk t',(∀b o,s.heap.get? b=some o->h'.get? b=some o)->Q (.int (preSum (numAt xs) xs.size) t') {s with heap:=h',toks:=tk}):
 wpAny (model prog w) A (call (.builtin "sum") [.ref l]) Q E s:=by
 have J:x<s.heap.objs.size:=O.elim λo z=>z.elim λvs z=>j3 z.1;refine call_sum_walkG (iter_intList hl λR e st pU N=>?_);subst e;refine⟨_,_,_,_,_,_,numAt xs,rfl,Ky (A:=A.in1) (x:=x) S _ l N (rN J) (intItems xs),⟨st.1,st.2,O.imp λo z=>z.imp λvs z=>⟨kD _ z.1,z.2⟩⟩,λb m=>?_,(λ_ _=>intItems_at),λh' tk t' hk=>?_⟩
 ·rcases bJ.mp m with rfl|m
  ·exact pU _ (by simp)
  ·rcases bJ.mp m with rfl|m
   ·exact pU _ (by simp)
   ·rw[cx.mp m]
    show x<(s.heap.push _).objs.size;rw[mX];exact sf J
 ·have:=h h' tk t' (old_kept hk)
  simpa[intItems]using this
end Mine
open PySem PySem.W PyProof.Rows
namespace Mine
open_top hd01 for PySem.Challenge.rw_ux0006_01.row
theorem ws:ZG.wellSaid=true:=by decide+kernel
open PySem PyProof.Rows PySem.W
noncomputable def Iv:List ae:=[("text":ae),("places":ae),("read":ae),("stream":ae),("size":ae),("iterator":ae),("val":ae),("b":ae),("want":ae),("got":ae),("ws":ae),("w":ae),("startpos":ae),("endpos":ae),("word":ae),("kind":ae),("signs":ae),("sign":ae),("number":ae),("form":ae),("more":ae),("parts":ae),("part":ae),("octet":ae),("k":ae),("name":ae),("place":ae),("self":ae),("fp":ae),("pushback":ae),("whitespace":ae),("instream":ae),("lineno":ae),("token":ae),("ch":ae),("_read_char":ae),("fiter":ae),("data":ae),("script":ae),("push_token":ae),("get_token":ae),("sent":ae),("_":ae),("own":ae),("weights":ae),("n":ae),("words":ae),("dots":ae),("cores":ae),("two":ae),("one":ae),("base":ae),("x":ae),("lexer":ae),("octets":ae),("orders":ae),("order":ae),("steps":ae),("due":ae),("taken":ae),("wants":ae),("calls":ae),("after":ae),("row":ae),("lines":ae),("line":ae),("names":ae),("call":ae),("led":ae),("shares":ae),("share":ae),("total":ae),("to":ae),("weight":ae),("a":ae),("c":ae),("old":ae),("traces":ae),("counts":ae),("count":ae),("first":ae),("powers":ae),("trace":ae),("product":ae),("up":ae),("low":ae)]
theorem LM:xY Iv:=LJ (by decide+kernel) (by decide+kernel)
noncomputable abbrev aI(w:dB)(base:aO)(mg mb:ae->Option af)(pins:List (Nat×ak))(H:Fx (hd01.heap_1 w.params) base mg mb):Cfg:=
 cfgOf mc.row.prog w (hd01.heap_1 w.params) base mg mb Iv pins (.ref 130) "law.<locals>." LM H
noncomputable def vy(a:AV)(st:St):Option (List AV):=a.r?.bind λl=>(eo st l).map λ_=>[a]
section
variable{w:dB}{base:aO}{mg mb:ae->Option af}{pins:List (Nat×ak)}(H:Fx (hd01.heap_1 w.params) base mg mb)
noncomputable def pY:SM:=(ao (bj 7 (bK mH (ab (aa 5) ag)))
 (ao (bj 6 (ay oB (aa 7) (xk (.int 63))))
 (ao (lJ (kj ix (ay oB (aa 7) (xk (.int 64)))) (ao (eS 6 nr (xk (.int 6)))
 (ao (bj 7 (bK mH (ab (aa 5) ag)))
 (ao (eS 6 zB (ay oB (aa 7) (xk (.int 63))))
 aC))) 400)
 (ao (cy (aa 6))
 aC))))
theorem Kb{n:Nat}:gr (aI w base mg mb pins H) n (bH (hd01.heap_1 w.params) 80) 0 (bT (hd01.heap_1 w.params) 80) pY:=
 (aK (cY 7 rfl (dN (b8 rfl (H.bE rfl) (H.cg (by decide) rfl) (by decide)) (Plain.cons rfl Plain.nil) cP (au (ai 5 rfl (by decide)) aF rfl) B_) (.inl rfl) rfl)
 (aK (cY 6 rfl (aY (ai 7 rfl (by decide)) aA vh) (.inl rfl) rfl)
 (aK (Es 400 (qv (by intro _;rfl) (aY (ai 7 rfl (by decide)) aA vh) qo) (aK (mu 6 rfl aA HN (.inl rfl))
 (aK (cY 7 rfl (dN (b8 rfl (H.bE rfl) (H.cg (by decide) rfl) (by decide)) (Plain.cons rfl Plain.nil) cP (au (ai 5 rfl (by decide)) aF rfl) B_) (.inl rfl) rfl)
 (aK (mu 6 rfl (aY (ai 7 rfl (by decide)) aA vh) U1 (.inl rfl))
 bp))))
 (aK (eC (ai 6 rfl (by decide)))
 bp))))
theorem Ka{n:Nat}:dX (aI w base mg mb pins H) (n+1) (.ref 80) (bG [5] pY):=
 m9 (fd:=iY (hd01.heap_1 w.params) 80) rfl rfl rfl rfl rfl rfl
  (qY λa0=>by rfl) (by decide) (dp (.inl rfl) (fz)) (lQ rfl) (Kb H) rfl rfl rfl rfl
noncomputable def ly:SM:=(ao (cn (aS mz (xk (.str "...")) (aa 8)) (ao (cy (ay oEq (aa 8) (aa 9)))
 aC) aC)
 (ao (bj 10 (bU jo yD (aa 8) (ab (xk (.str "...")) ag)))
 (ao (ya (aS zL (bK iv (ab (aa 10) ag)) (xk (.int 2))))
 (ao (pG [12,13] (ab (xk (.int 0)) (ab (bK iv (ab (aa 9) ag)) ag)))
 (ao (bj 11 (aH (aa 10) (xk (.int 0))))
 (ao (cn (kj ix (aa 11)) (ao (cn (kj ix (bU jo uQ (aa 9) (ab (aa 11) ag))) (ao (bj 12 (bK iv (ab (aa 11) ag)))
 (ao (oC (aa 10) (xk (.int 0)))
 aC)) (ao (cy (xk (.bool false)))
 aC))
 aC) aC)
 (ao (bj 11 (aH (aa 10) (jb (xk (.int 1)))))
 (ao (cn (kj ix (aa 11)) (ao (cn (kj ix (bU jo vA (aa 9) (ab (aa 11) ag))) (ao (eS 13 kl (bK iv (ab (aa 11) ag)))
 (ao (oC (aa 10) (jb (xk (.int 1))))
 aC)) (ao (cy (xk (.bool false)))
 aC))
 aC) aC)
 (ao (cn (aS l_ (aa 12) (aa 13)) (ao (cy (xk (.bool false)))
 aC) aC)
 (ao (λF st=>((bL (aa 10)) F st).bind λp=>cB (.name 11) (ao (bj 12 (bU jo yH (aa 9) (ab (aa 11) (ab (aa 12) (ab (aa 13) ag)))))
 (ao (cn (aS oLt (aa 12) (xk (.int 0))) (ao (cy (xk (.bool false)))
 aC) aC)
 (ao (eS 12 gM (bK iv (ab (aa 11) ag)))
 aC))) 400 p.1 F p.2)
 (ao (cy (xk (.bool true)))
 aC)))))))))))
theorem J7{n:Nat}:gr (aI w base mg mb pins H) n (bH (hd01.heap_1 w.params) 87) 0 (bT (hd01.heap_1 w.params) 87) ly:=
 (aK (eP (cQ (tW (jz rfl (H.bE rfl) (by decide)) (λ_=>⟨_,by rfl⟩)) (ai 8 rfl (by decide)) Hm (by with_unfolding_all rfl)) (aK (eC (B4 (ai 8 rfl (by decide)) (ai 9 rfl (by decide)) ir (by with_unfolding_all rfl)))
 bp) bp)
 (aK (cY 10 rfl (dP (ai 8 rfl (by decide)) (o9 AN YR) (Plain.cons rfl Plain.nil) cP (au (tW (jz rfl (H.bE rfl) (by decide)) (λ_=>⟨_,by rfl⟩)) aF rfl) Pz (by intro _;rfl) rfl (by decide)) (.inl rfl) rfl)
 (aK (Le (cQ (dN (b8 rfl (H.bE rfl) (H.cg (by decide) rfl) (by decide)) (Plain.cons rfl Plain.nil) cP (au (ai 10 rfl (by decide)) aF rfl) px) aA W8 (by with_unfolding_all rfl)))
 (aK (zQ (by intro k hk;simp only[bJ,a6,or_false]at hk;rcases hk with rfl|rfl<;>first|exact .inl rfl|exact .inr rfl) (ip.t (au aA (au (dN (b8 rfl (H.bE rfl) (H.cg (by decide) rfl) (by decide)) (Plain.cons rfl Plain.nil) cP (au (ai 9 rfl (by decide)) aF rfl) px) aF rfl) rfl)) rfl)
 (aK (cY 11 rfl (cu (ai 10 rfl (by decide)) aA (by intro _ _;exact⟨_,rfl⟩)) (.inl rfl) rfl)
 (aK (eP (qv (by intro _;rfl) (ai 11 rfl (by decide)) qo) (aK (eP (qv (by intro _;rfl) (dP (ai 9 rfl (by decide)) (o9 YX Ze) (Plain.cons rfl Plain.nil) cP (au (ai 11 rfl (by decide)) aF rfl) Ml (by intro _;rfl) rfl (by decide)) qo) (aK (cY 12 rfl (dN (b8 rfl (H.bE rfl) (H.cg (by decide) rfl) (by decide)) (Plain.cons rfl Plain.nil) cP (au (ai 11 rfl (by decide)) aF rfl) px) (.inl rfl) rfl)
 (aK (Hz (ai 10 rfl (by decide)) aA)
 bp)) (aK (eC kC)
 bp))
 bp) bp)
 (aK (cY 11 rfl (cu (ai 10 rfl (by decide)) (qy aA) (by intro _ _;exact⟨_,rfl⟩)) (.inl rfl) rfl)
 (aK (eP (qv (by intro _;rfl) (ai 11 rfl (by decide)) qo) (aK (eP (qv (by intro _;rfl) (dP (ai 9 rfl (by decide)) (o9 Zo ZD) (Plain.cons rfl Plain.nil) cP (au (ai 11 rfl (by decide)) aF rfl) TX (by intro _;rfl) rfl (by decide)) qo) (aK (mu 13 rfl (dN (b8 rfl (H.bE rfl) (H.cg (by decide) rfl) (by decide)) (Plain.cons rfl Plain.nil) cP (au (ai 11 rfl (by decide)) aF rfl) px) SH (.inl rfl))
 (aK (Hz (ai 10 rfl (by decide)) (qy aA))
 bp)) (aK (eC kC)
 bp))
 bp) bp)
 (aK (eP (cQ (ai 12 rfl (by decide)) (ai 13 rfl (by decide)) yK (by with_unfolding_all rfl)) (aK (eC kC)
 bp) bp)
 (aK (iX 400 (d5 (ai 10 rfl (by decide))) (bB.name rfl ⟨trivial,.inl rfl⟩) (aK (cY 12 rfl (dP (ai 9 rfl (by decide)) (o9 QH Zj) (Plain.cons rfl (Plain.cons rfl (Plain.cons rfl Plain.nil))) cP (au (ai 11 rfl (by decide)) (au (ai 12 rfl (by decide)) (au (ai 13 rfl (by decide)) aF rfl) rfl) rfl) TZ (by intro _;rfl) rfl (by decide)) (.inl rfl) rfl)
 (aK (eP (cQ (ai 12 rfl (by decide)) aA yR (by with_unfolding_all rfl)) (aK (eC kC)
 bp) bp)
 (aK (mu 12 rfl (dN (b8 rfl (H.bE rfl) (H.cg (by decide) rfl) (by decide)) (Plain.cons rfl Plain.nil) cP (au (ai 11 rfl (by decide)) aF rfl) px) o8 (.inl rfl))
 bp))) (by intro _ _;rfl))
 (aK (eC kC)
 bp)))))))))))
theorem DC{n:Nat}:dX (aI w base mg mb pins H) (n+1) (.ref 87) (bG [8,9] ly):=
 m9 (fd:=iY (hd01.heap_1 w.params) 87) rfl rfl rfl rfl rfl rfl
  (tv λa0 a1=>by rfl) (by decide) (dp (.inl rfl) (dp (.inl rfl) (fz))) (lQ rfl) (J7 H) rfl rfl rfl rfl
noncomputable def tT:SM:=(ao (cn (aS oEq (aa 15) (xk (.int 1))) (ao (cy (ay aX (ay aX (xk (.str ("\"":ae))) (bU jo qU (xk (.str ("":ae))) (ab (bl [] (bL (aa 14)) (.name 17) bw (a_ (gd (aS l7 (aa 17) (xk (.str ("\"\\":ae)))) (ay aX (xk (.str ("\\":ae))) (aa 17)) (aa 17))) 400) ag))) (xk (.str ("\"":ae)))))
 aC) aC)
 (ao (bj 16 (bl [] (bL (aa 14)) (.name 17) bw (a_ (gd (aS l7 (aa 17) (xk (.str ("\\ ":ae)))) (ay aX (xk (.str ("\\":ae))) (aa 17)) (aa 17))) 400))
 (ao (cy (ay aX (gd (iy (aS oEq (aa 15) (xk (.int 2))) (iy (aS oEq (aH (aa 14) (xk (.int 0))) (xk (.str ("\"":ae)))) (λ_ st=>some (false,st)))) (ay aX (xk (.str ("\\":ae))) (aH (aa 14) (xk (.int 0)))) (aH (aa 16) (xk (.int 0)))) (bU jo qU (xk (.str ("":ae))) (ab (cH (aa 16) (bY (xk (.int 1))) bb bb) ag))))
 aC)))
theorem Kd{n:Nat}:gr (aI w base mg mb pins H) n (bH (hd01.heap_1 w.params) 116) 0 (bT (hd01.heap_1 w.params) 116) tT:=
 (aK (eP (cQ (ai 15 rfl (by decide)) aA ir (by with_unfolding_all rfl)) (aK (eC (aY (aY cz (dP cz (o9 Bo Bh) (Plain.cons rfl Plain.nil) cP (au (dG 400 (df [] (d5 (ai 14 rfl (by decide))) (bB.name rfl ⟨.inl rfl,.inl rfl⟩) dF (nZ (cQ (ai 17 rfl (by decide)) cz vw (by with_unfolding_all rfl)) (aY cz (ai 17 rfl (by decide)) cS) (ai 17 rfl (by decide))) rfl aV.nil (by intro _ _;rfl))) aF rfl) xW (by intro _;rfl) rfl (by decide)) cS) cz cS))
 bp) bp)
 (aK (rm 16 rfl 400 (df [] (d5 (ai 14 rfl (by decide))) (bB.name rfl ⟨.inl rfl,.inl rfl⟩) dF (nZ (cQ (ai 17 rfl (by decide)) cz vw (by with_unfolding_all rfl)) (aY cz (ai 17 rfl (by decide)) cS) (ai 17 rfl (by decide))) rfl aV.nil (by intro _ _;rfl)) (.inl rfl) rfl)
 (aK (eC (aY (nZ (rI (oK (cQ (ai 15 rfl (by decide)) aA ir (by with_unfolding_all rfl)) (oK (cQ (cu (ai 14 rfl (by decide)) aA (by intro _ _;exact⟨_,rfl⟩)) cz ir (by with_unfolding_all rfl)) wu))) (aY cz (cu (ai 14 rfl (by decide)) aA (by intro _ _;exact⟨_,rfl⟩)) cS) (cu (ai 16 rfl (by decide)) aA (by intro _ _;exact⟨_,rfl⟩))) (dP cz (o9 Bo Bh) (Plain.cons rfl Plain.nil) cP (au (gV (ai 16 rfl (by decide)) (eZ aA) dt dt (by intro _ _;exact⟨_,rfl⟩)) aF rfl) xW (by intro _;rfl) rfl (by decide)) cS))
 bp)))
theorem Kj{n:Nat}:dX (aI w base mg mb pins H) (n+1) (.ref 116) (bG [14,15] tT):=
 m9 (fd:=iY (hd01.heap_1 w.params) 116) rfl rfl rfl rfl rfl rfl
  (tv λa0 a1=>by rfl) (by decide) (dp (.inl rfl) (dp (.inl rfl) (fz))) (lQ rfl) (Kd H) rfl rfl rfl rfl
noncomputable def wg:SM:=(ao (vS [20,21] (ab (ay aX (xk (.int 64)) (ay cU (ay oDiv (aa 19) (xk (.int 2))) (xk (.int 128)))) (ab (bl [18] (bC cR (ab (xk (.int 4)) ag)) (.name 24) (iy (aS oEq (aa 24) (xk (.int 0))) (iy (aS l_ (ay oDiv (aa 18) (ay ja (xk (.int 64)) (aa 24))) (xk (.int 0))) (λ_ st=>some (false,st)))) (a_ (ay oMod (ay oDiv (aa 18) (ay ja (xk (.int 64)) (aa 24))) (xk (.int 64)))) 400) ag)))
 (ao (cy (bU jo qU (xk (.str ("":ae))) (ab (bl [] (bL (ay aX (ay aX (ay cU (bD (ab (aa 20) ag)) (ay oMod (aa 19) (xk (.int 2)))) (cH (bl [20] (bL (cH (aa 21) (bY (xk (.int 1))) bb bb)) (.name 22) bw (a_ (ay aX (aa 20) (aa 22))) 400) bb bb (bY (jb (xk (.int 1)))))) (bD (ab (ay aX (xk (.int 128)) (aH (aa 21) (xk (.int 0)))) ag)))) (.name 23) bw (a_ (bK tC (ab (aa 23) ag))) 400) ag)))
 aC))
theorem Kv{n:Nat}:gr (aI w base mg mb pins H) n (bH (hd01.heap_1 w.params) 121) 0 (bT (hd01.heap_1 w.params) 121) wg:=
 (aK (DH (b_.cons rfl ⟨trivial,.inr rfl⟩ (b_.cons rfl ⟨trivial,.inl rfl⟩ b_.nil)) (ip.t (au (aY aA (aY (aY (ai 19 rfl (by decide)) aA lK) aA kI) cS) (au (dG 400 (df [18] (eG (b8 rfl (H.bE rfl) (H.cg (by decide) rfl) (by decide)) (Plain.cons rfl Plain.nil) d4 (au aA aF rfl) jV) (bB.name rfl ⟨.inl rfl,.inl rfl⟩) (oU (rI (oK (cQ (ai 24 rfl (by decide)) aA ir (by with_unfolding_all rfl)) (oK (cQ (aY (ai 18 rfl (by decide)) (aY aA (ai 24 rfl (by decide)) vj) lK) aA yK (by with_unfolding_all rfl)) wu)))) (aY (aY (ai 18 rfl (by decide)) (aY aA (ai 24 rfl (by decide)) vj) lK) aA jK) rfl (aV.cons _ rfl rfl aV.nil) (by intro _ _;rfl))) aF rfl) rfl)) rfl)
 (aK (eC (dP cz (o9 Bo Bh) (Plain.cons rfl Plain.nil) cP (au (dG 400 (df [] (d5 (aY (aY (aY (dj (au (ai 20 rfl (by decide)) aF rfl)) (aY (ai 19 rfl (by decide)) aA jK) kI) (gV (dG 400 (df [20] (d5 (gV (ai 21 rfl (by decide)) (eZ aA) dt dt (by intro _ _;exact⟨_,rfl⟩))) (bB.name rfl ⟨.inl rfl,.inl rfl⟩) dF (aY (ai 20 rfl (by decide)) (ai 22 rfl (by decide)) cS) rfl (aV.cons _ rfl rfl aV.nil) (by intro _ _;rfl))) dt dt (eZ (qy aA)) (by intro _ _;exact⟨_,rfl⟩)) cS) (dj (au (aY aA (cu (ai 21 rfl (by decide)) aA (by intro _ _;exact⟨_,rfl⟩)) cS) aF rfl)) cS)) (bB.name rfl ⟨.inl rfl,.inl rfl⟩) dF (dN (b8 rfl (H.bE rfl) (H.cg (by decide) rfl) (by decide)) (Plain.cons rfl Plain.nil) cP (au (ai 23 rfl (by decide)) aF rfl) Cp) rfl aV.nil (by intro _ _;rfl))) aF rfl) xW (by intro _;rfl) rfl (by decide)))
 bp))
theorem Ku{n:Nat}:dX (aI w base mg mb pins H) (n+1) (.ref 121) (bG [18,19] wg):=
 m9 (fd:=iY (hd01.heap_1 w.params) 121) rfl rfl rfl rfl rfl rfl
  (tv λa0 a1=>by rfl) (by decide) (dp (.inr rfl) (dp (.inl rfl) (fz))) (lQ rfl) (Kv H) rfl rfl rfl rfl
noncomputable def tU:SM:=(ao (bj 1 (bD (ab (xk (.int 0)) ag)))
 (ao (lJ (nv (aS c5 (aa 8) (xk (.str ("":ae)))) (nv (aS c5 (aa 1) (bD ag)) (λ_ st=>some (true,st)))) (ao (cn (aS oEq (cH (aa 8) bb (bY (xk (.int 3))) bb) (xk (.str ("...":ae)))) (ao (bj 1 (xU (ab (aH (aa 1) (xk (.int 0))) (ab (ay aX (bK iv (ab (aa 25) ag)) (xk (.int 1))) ag))))
 (ao (bj 8 (cH (aa 8) (bY (xk (.int 3))) bb bb))
 aC)) (ao (bj 1 (bl [25,8] (bL (aa 1)) (.name 26) (aS oEq (cH (aa 25) (bY (aa 26)) (bY (ay aX (aa 26) (xk (.int 1)))) bb) (aH (aa 8) (xk (.int 0)))) (a_ (ay aX (aa 26) (xk (.int 1)))) 400))
 (ao (bj 8 (cH (aa 8) (bY (xk (.int 1))) bb bb))
 aC)))
 aC) 400)
 (ao (cy (ay l7 (bK iv (ab (aa 25) ag)) (aa 1)))
 aC)))
theorem KP{n:Nat}:gr (aI w base mg mb pins H) n (bH (hd01.heap_1 w.params) 126) 0 (bT (hd01.heap_1 w.params) 126) tU:=
 (aK (cY 1 rfl (dj (au aA aF rfl)) (.inl rfl) rfl)
 (aK (Es 400 (rI (wi (cQ (ai 8 rfl (by decide)) cz kZ (by with_unfolding_all rfl)) (wi (cQ (ai 1 rfl (by decide)) (dj aF) kZ (by with_unfolding_all rfl)) DX))) (aK (eP (cQ (gV (ai 8 rfl (by decide)) dt (eZ aA) dt (by intro _ _;exact⟨_,rfl⟩)) cz ir (by with_unfolding_all rfl)) (aK (cY 1 rfl (K5 (b8 rfl (H.bE rfl) (H.cg (by decide) rfl) (by decide)) (b8 rfl (H.bE rfl) (H.cg (by decide) rfl) (by decide)) (Plain.cons rfl (Plain.cons rfl Plain.nil)) (au (cu (ai 1 rfl (by decide)) aA (by intro _ _;exact⟨_,rfl⟩)) (au (aY (dN (b8 rfl (H.bE rfl) (H.cg (by decide) rfl) (by decide)) (Plain.cons rfl Plain.nil) cP (au (ai 25 rfl (by decide)) aF rfl) px) aA cS) aF rfl) rfl)) (.inl rfl) rfl)
 (aK (cY 8 rfl (gV (ai 8 rfl (by decide)) (eZ aA) dt dt (by intro _ _;exact⟨_,rfl⟩)) (.inr rfl) rfl)
 bp)) (aK (rm 1 rfl 400 (df [25,8] (d5 (ai 1 rfl (by decide))) (bB.name rfl ⟨.inl rfl,.inl rfl⟩) (oU (cQ (gV (ai 25 rfl (by decide)) (eZ (ai 26 rfl (by decide))) (eZ (aY (ai 26 rfl (by decide)) aA cS)) dt (by intro _ _;exact⟨_,rfl⟩)) (cu (ai 8 rfl (by decide)) aA (by intro _ _;exact⟨_,rfl⟩)) ir (by with_unfolding_all rfl))) (aY (ai 26 rfl (by decide)) aA cS) rfl (aV.cons _ rfl rfl (aV.cons _ rfl rfl aV.nil)) (by intro _ _;rfl)) (.inl rfl) rfl)
 (aK (cY 8 rfl (gV (ai 8 rfl (by decide)) (eZ aA) dt dt (by intro _ _;exact⟨_,rfl⟩)) (.inr rfl) rfl)
 bp)))
 bp))
 (aK (eC (B4 (dN (b8 rfl (H.bE rfl) (H.cg (by decide) rfl) (by decide)) (Plain.cons rfl Plain.nil) cP (au (ai 25 rfl (by decide)) aF rfl) px) (ai 1 rfl (by decide)) vw (by with_unfolding_all rfl)))
 bp)))
theorem KH{n:Nat}:dX (aI w base mg mb pins H) (n+1) (.ref 126) (bG [8,25] tU):=
 m9 (fd:=iY (hd01.heap_1 w.params) 126) rfl rfl rfl rfl rfl rfl
  (tv λa0 a1=>by rfl) (by decide) (dp (.inr rfl) (dp (.inr rfl) (fz))) (lQ rfl) (KP H) rfl rfl rfl rfl
theorem fJ:pH (aI w base mg mb pins H) 69:=⟨by rfl,by rfl,by rfl,by rfl,by rfl⟩
noncomputable def t8:SM:=(ao (kX 69 32 (aa 27) (xk (.int 1)))
 (ao (kX 69 31 (aa 27) (aa 28))
 (ao (kX 69 30 (aa 27) (xk (.str ("\x0a\x09\x0d ":ae))))
 (ao (kX 69 29 (aa 27) (bD ag))
 aC))))
theorem Mt{n:Nat}:gr (aI w base mg mb pins H) n (bH (hd01.heap_1 w.params) 45) 0 (bT (hd01.heap_1 w.params) 45) t8:=
 (aK (wj 32 rfl (fJ H) rfl (ai 27 rfl (by decide)) aA rfl)
 (aK (wj 31 rfl (fJ H) rfl (ai 27 rfl (by decide)) (ai 28 rfl (by decide)) rfl)
 (aK (wj 30 rfl (fJ H) rfl (ai 27 rfl (by decide)) cz rfl)
 (aK (wj 29 rfl (fJ H) rfl (ai 27 rfl (by decide)) (dj aF) rfl)
 bp))))
theorem Mf{n:Nat}:dX (aI w base mg mb pins H) (n+1) (.ref 45) (bG [27,28] t8):=
 m9 (fd:=iY (hd01.heap_1 w.params) 45) rfl rfl rfl rfl rfl rfl
  (tv λa0 a1=>by rfl) (by decide) (dp (.inl rfl) (dp (.inl rfl) (fz))) (lQ rfl) (Mt H) rfl rfl rfl rfl
noncomputable def p4:SM:=(ao (gN (bU ek bAppend (jn 69 29 (aa 27)) (ab (aa 33) ag)))
 aC)
theorem KA{n:Nat}:gr (aI w base mg mb pins H) n (bH (hd01.heap_1 w.params) 66) 0 (bT (hd01.heap_1 w.params) 66) p4:=
 (aK (o7 (dP (qd 29 rfl (fJ H) rfl (ai 27 rfl (by decide))) (nN ur uh) (Plain.cons rfl Plain.nil) cP (au (ai 33 rfl (by decide)) aF rfl) rL (by intro _;rfl) rfl (by decide)) rfl)
 bp)
theorem DS{n:Nat}:dX (aI w base mg mb pins H) (n+1) (.ref 66) (bG [27,33] p4):=
 m9 (fd:=iY (hd01.heap_1 w.params) 66) rfl rfl rfl rfl rfl rfl
  (tv λa0 a1=>by rfl) (by decide) (dp (.inl rfl) (dp (.inl rfl) (fz))) (lQ rfl) (KA H) rfl rfl rfl rfl
noncomputable def ma(bq:AV->St->Option (List AV))(J:List AV->St->Option (AV×St)):SM:=(ao (bj 34 (bU bq J (jn 69 31 (aa 27)) (ab (xk (.int 1)) ag)))
 (ao (cn (aS oEq (aa 34) (xk (.str ("\x0a":ae)))) (ao (xh 69 32 gM (aa 27) (xk (.int 1)))
 aC) aC)
 (ao (cy (aa 34))
 aC)))
theorem KO{rA:ak}{bq:AV->St->Option (List AV)}{R:List AV->St->Option (AV×St)}(N:gO (aI w base mg mb pins H) "read" (.ref rA) bq)(J:ik (aI w base mg mb pins H) (.ref rA))(O:dX (aI w base mg mb pins H) 1 (.ref rA) R):gr (aI w base mg mb pins H) 1 (bH (hd01.heap_1 w.params) 52) 0 (bT (hd01.heap_1 w.params) 52) (ma bq R):=
 (aK (cY 34 rfl (dP (qd 31 rfl (fJ H) rfl (ai 27 rfl (by decide))) N (Plain.cons rfl Plain.nil) J (au aA aF rfl) (O.call) (by intro _;rfl) rfl (by decide)) (.inl rfl) rfl)
 (aK (eP (cQ (ai 34 rfl (by decide)) cz ir (by with_unfolding_all rfl)) (aK (KJ 32 rfl (fJ H) rfl rfl (ai 27 rfl (by decide)) aA o8)
 bp) bp)
 (aK (eC (ai 34 rfl (by decide)))
 bp)))
theorem rC{rA:ak}{bq:AV->St->Option (List AV)}{R:List AV->St->Option (AV×St)}(N:gO (aI w base mg mb pins H) "read" (.ref rA) bq)(J:ik (aI w base mg mb pins H) (.ref rA))(O:dX (aI w base mg mb pins H) 1 (.ref rA) R):dX (aI w base mg mb pins H) (1+1) (.ref 52) (bG [27] (ma bq R)):=
 m9 (fd:=iY (hd01.heap_1 w.params) 52) rfl rfl rfl rfl rfl rfl
  (qY λa0=>by rfl) (by decide) (dp (.inl rfl) (fz)) (lQ rfl) (KO H N J O) rfl rfl rfl rfl
noncomputable def oN(bq:AV->St->Option (List AV))(J:List AV->St->Option (AV×St)):SM:=(ao (cn (kj ix (jn 69 29 (aa 27))) (ao (cy (bU ek qZ (jn 69 29 (aa 27)) (ab (xk (.int 0)) ag)))
 aC) aC)
 (ao (bj 33 (xk (.str ("":ae))))
 (ao (bj 36 (bK qS (ab (sX 69 52 35 (aa 27)) (ab (xk (.str ("":ae))) ag))))
 (ao (λF st=>((tl (ni 52 (bG [27] (ma bq J))) (aa 36)) F st).bind λp=>cB (.name 34) (ao (cn (aS l7 (aa 34) (jn 69 30 (aa 27))) (ao yY
 aC) aC)
 (ao (cn (aS oEq (aa 34) (xk (.str ("\"":ae)))) (ao (λF st=>((tl (ni 52 (bG [27] (ma bq J))) (aa 36)) F st).bind λp=>cB (.name 34) (ao (cn (aS oEq (aa 34) (xk (.str ("\"":ae)))) (ao (cy (aa 33))
 aC) (ao (cn (aS oEq (aa 34) (xk (.str ("\\":ae)))) (ao (bj 34 (bU (f_ 69 35) (bG [27] (ma bq J)) (aa 27) ag))
 aC) aC)
 aC))
 (ao (eS 33 gM (aa 34))
 aC)) 400 p.1 F p.2)
 aC) (ao (cn (aS oEq (aa 34) (xk (.str ("\\":ae)))) (ao (bj 34 (bU (f_ 69 35) (bG [27] (ma bq J)) (aa 27) ag))
 aC) aC)
 (ao (eS 33 gM (aa 34))
 (ao (λF st=>((tl (ni 52 (bG [27] (ma bq J))) (aa 36)) F st).bind λp=>cB (.name 34) (ao (cn (aS l7 (aa 34) (jn 69 30 (aa 27))) (ao (cy (aa 33))
 aC) (ao (cn (aS oEq (aa 34) (xk (.str ("\\":ae)))) (ao (bj 34 (bU (f_ 69 35) (bG [27] (ma bq J)) (aa 27) ag))
 aC) aC)
 aC))
 (ao (eS 33 gM (aa 34))
 aC)) 400 p.1 F p.2)
 aC))))
 aC)) 400 p.1 F p.2)
 (ao (cy (aa 33))
 aC)))))
theorem Li{rA:ak}{bq:AV->St->Option (List AV)}{R:List AV->St->Option (AV×St)}(N:gO (aI w base mg mb pins H) "read" (.ref rA) bq)(J:ik (aI w base mg mb pins H) (.ref rA))(O:dX (aI w base mg mb pins H) 1 (.ref rA) R):gr (aI w base mg mb pins H) 3 (bH (hd01.heap_1 w.params) 59) 0 (bT (hd01.heap_1 w.params) 59) (oN bq R):=
 (aK (eP (qv (by intro _;rfl) (qd 29 rfl (fJ H) rfl (ai 27 rfl (by decide))) qo) (aK (eC (dP (qd 29 rfl (fJ H) rfl (ai 27 rfl (by decide))) (nN Fn Qq) (Plain.cons rfl Plain.nil) cP (au aA aF rfl) IJ (by intro _;rfl) rfl (by decide)))
 bp) bp)
 (aK (cY 33 rfl cz (.inl rfl) rfl)
 (aK (cY 36 rfl (dN (b8 rfl (H.bE rfl) (H.cg (by decide) rfl) (by decide)) (Plain.cons rfl (Plain.cons rfl Plain.nil)) cP (au (My 35 rfl (fJ H) rfl rfl rfl rfl rfl (ai 27 rfl (by decide))) (au cz aF rfl) rfl) HK) (.inl rfl) rfl)
 (aK (iX 400 (Ar (λk=>Ac rfl (rC H N J O) k) (ai 36 rfl (by decide))) (bB.name rfl ⟨trivial,.inl rfl⟩) (aK (eP (cQ (ai 34 rfl (by decide)) (qd 30 rfl (fJ H) rfl (ai 27 rfl (by decide))) vw (by with_unfolding_all rfl)) (aK PC
 bp) bp)
 (aK (eP (cQ (ai 34 rfl (by decide)) cz ir (by with_unfolding_all rfl)) (aK (iX 400 (Ar (λk=>Ac rfl (rC H N J O) k) (ai 36 rfl (by decide))) (bB.name rfl ⟨trivial,.inl rfl⟩) (aK (eP (cQ (ai 34 rfl (by decide)) cz ir (by with_unfolding_all rfl)) (aK (eC (ai 33 rfl (by decide)))
 bp) (aK (eP (cQ (ai 34 rfl (by decide)) cz ir (by with_unfolding_all rfl)) (aK (cY 34 rfl (dP (ai 27 rfl (by decide)) (mW 35 rfl (fJ H) rfl rfl) Plain.nil (gz rfl) aF ((rC H N J O).call.le (by decide)) (by intro _;rfl) rfl (by decide)) (.inl rfl) rfl)
 bp) bp)
 bp))
 (aK (mu 33 rfl (ai 34 rfl (by decide)) o8 (.inl rfl))
 bp)) (by intro _ _;rfl))
 bp) (aK (eP (cQ (ai 34 rfl (by decide)) cz ir (by with_unfolding_all rfl)) (aK (cY 34 rfl (dP (ai 27 rfl (by decide)) (mW 35 rfl (fJ H) rfl rfl) Plain.nil (gz rfl) aF ((rC H N J O).call.le (by decide)) (by intro _;rfl) rfl (by decide)) (.inl rfl) rfl)
 bp) bp)
 (aK (mu 33 rfl (ai 34 rfl (by decide)) o8 (.inl rfl))
 (aK (iX 400 (Ar (λk=>Ac rfl (rC H N J O) k) (ai 36 rfl (by decide))) (bB.name rfl ⟨trivial,.inl rfl⟩) (aK (eP (cQ (ai 34 rfl (by decide)) (qd 30 rfl (fJ H) rfl (ai 27 rfl (by decide))) vw (by with_unfolding_all rfl)) (aK (eC (ai 33 rfl (by decide)))
 bp) (aK (eP (cQ (ai 34 rfl (by decide)) cz ir (by with_unfolding_all rfl)) (aK (cY 34 rfl (dP (ai 27 rfl (by decide)) (mW 35 rfl (fJ H) rfl rfl) Plain.nil (gz rfl) aF ((rC H N J O).call.le (by decide)) (by intro _;rfl) rfl (by decide)) (.inl rfl) rfl)
 bp) bp)
 bp))
 (aK (mu 33 rfl (ai 34 rfl (by decide)) o8 (.inl rfl))
 bp)) (by intro _ _;rfl))
 bp))))
 bp)) (by intro _ _;rfl))
 (aK (eC (ai 33 rfl (by decide)))
 bp)))))
theorem tY{rA:ak}{bq:AV->St->Option (List AV)}{R:List AV->St->Option (AV×St)}(N:gO (aI w base mg mb pins H) "read" (.ref rA) bq)(J:ik (aI w base mg mb pins H) (.ref rA))(O:dX (aI w base mg mb pins H) 1 (.ref rA) R):dX (aI w base mg mb pins H) (3+1) (.ref 59) (bG [27] (oN bq R)):=
 m9 (fd:=iY (hd01.heap_1 w.params) 59) rfl rfl rfl rfl rfl rfl
  (qY λa0=>by rfl) (by decide) (dp (.inl rfl) (fz)) (lQ rfl) (Li H N J O) rfl rfl rfl rfl
end
section
variable{w:dB}{base:aO}{mg mb:ae->Option af}{pins:List (Nat×ak)}(H:Fx (hd01.heap_1 w.params) base mg mb)
theorem y8(H:Fx (hd01.heap_1 w.params) base mg mb):kg base 92 91 ov:=⟨⟨_,_,_,_,H.eU 92 _ (by rfl)⟩,H.eU 91 _ (by rw[show(ov.map λ(n:Nat)=>bV (n:Int) 0)=#[bV 14 0,bV 4 0,bV 0 0,bV 1 0,bV 1 0,bV 6 0,bV 1 0,bV 16 0,bV 46 0,bV 1 0]from by simp[ov]];rfl)⟩
theorem za(H:Fx (hd01.heap_1 w.params) base mg mb):kg base 97 96 ke:=⟨⟨_,_,_,_,H.eU 97 _ (by rfl)⟩,H.eU 96 _ (by rw[show(ke.map λ(n:Nat)=>bV (n:Int) 0)=#[bV 14 0,bV 9 0,bV 4 0,bV 1 0,bV 2 0,bV 16 0,bV 10 0,bV 16 0,bV 13 0,bV 0 0,bV 7 0,bV 7 0,bV 16 0,bV 13 0,bV 16 0,bV 10 0,bV 15 0,bV 18 0,bV 5 0,bV 16 0,bV 10 0,bV 15 0,bV 13 0,bV 11 0,bV 16 0,bV 13 0,bV 5 0,bV 5 0,bV 0 0,bV 16 0,bV 10 0,bV 1 0,bV 15 0,bV 2 0,bV 0 0,bV 1 0]from by simp[ke]];rfl)⟩
noncomputable def p6:SM:=(ao (cy (bU vD vH (xk (.val (.ref 92))) (ab (xk (.str ("..":ae))) (ab (bU vD vH (xk (.val (.ref 97))) (ab (xk (.str "\r\n")) (ab (aa 37) ag))) ag))))
 aC)
theorem LF{n:Nat}:gr (aI w base mg mb pins H) n (bH (hd01.heap_1 w.params) 104) 0 (bT (hd01.heap_1 w.params) 104) p6:=
 (aK (eC (dP (tW (jz (by rfl) (H.bE (by rfl)) (by decide)) (λ_=>rfl)) (HZ (y8 H) (za H)) (Plain.cons rfl (Plain.cons rfl Plain.nil)) cP (au cz (au (dP (tW (jz (by rfl) (H.bE (by rfl)) (by decide)) (λ_=>rfl)) (HZ (y8 H) (za H)) (Plain.cons rfl (Plain.cons rfl Plain.nil)) cP (au (tW (jz (by rfl) (H.bE (by rfl)) (by decide)) (λ_=>⟨_,by rfl⟩)) (au (ai 37 (by rfl) (by decide)) aF (by rfl)) (by rfl)) (HR (y8 H) (za H)) (by intro _;rfl) (by rfl) (by decide)) aF (by rfl)) (by rfl)) (HR (y8 H) (za H)) (by intro _;rfl) (by rfl) (by decide)))
 bp)
theorem LN{n:Nat}:dX (aI w base mg mb pins H) (n+1) (.ref 104) (bG [37] p6):=
 m9 (fd:=iY (hd01.heap_1 w.params) 104) (by rfl) (by rfl) (by rfl) (by rfl) (by rfl) (by rfl)
  (qY λa0=>by rfl) (by decide) (dp (by first|exact .inl rfl|exact .inr rfl) (fz)) (lQ (by rfl)) (LF H) (by rfl) (by rfl) (by rfl) (by rfl)
end
section
variable{w:dB}{base:aO}{mg mb:ae->Option af}{pins:List (Nat×ak)}(H:Fx (hd01.heap_1 w.params) base mg mb)
noncomputable def rE(P:AA):qu:=match(bT (hd01.heap_1 P) 111)[1]? with|some (FG _ p _ _ _ _ _ _ _ _)=>p|_=>default
noncomputable def readBody(P:AA):List gK:=match(bT (hd01.heap_1 P) 111)[1]? with|some (FG _ _ b _ _ _ _ _ _ _)=>b|_=>[]
noncomputable def jA(P:AA):bc:=match(bT (hd01.heap_1 P) 111)[1]? with|some (FG _ _ _ _ _ _ s _ _ _)=>s|_=>default
theorem Lv{P:AA}{env:aR}{ct cp:ak}(h1:env.cells.lookup ("places":ae)=some cp)(h2:env.cells.lookup ("text":ae)=some ct):closureFor (jA P) env=pure [(("text":ae),ct),(("places":ae),cp)]:=by
 have:closureFor (jA P) env=pure (eY env (jA P).names []):=by
  refine we λp J hf=>?_
  have:p∈([("size",.local),("places",.free),("text",.free)]:List (ae×e7)):=J;simp only[bJ,a6,or_false]at this;rcases this with rfl|rfl|rfl
  ·cases hf
  ·exact⟨cp,h1⟩
  ·exact⟨ct,h2⟩
 rw[this];show pure ((env.cells.lookup ("text":ae)).elim ((env.cells.lookup ("places":ae)).elim [] λc=>[(("places":ae),c)]) λc=>(("text":ae),c)::(env.cells.lookup ("places":ae)).elim [] λc=>[(("places":ae),c)])=_;rw[h1,h2];rfl
theorem KD{A:bg}{ρ:aD}{st:St}{s:ah}{x:ae}{t:Tok}{Q:af->ah->Prop}{E:af->ah->Prop}(hA:bN 3 A)(R:Rel (aI w base mg mb pins H) ρ st s.heap)
 (hT:s.heap.get? 106=some (tabObj #[]))(Z7:106∉ρ)(hTB:base.get? 106=none)(hcd:ui base 110 106)(hbm:base.BuiltinsAt mg 106)
 (K:∀lp rA sA s',Nr (aI w base mg mb pins H) ρ st s s' x lp rA sA (rE w.params) (readBody w.params) (jA w.params)->Q (.ref sA) s'):
 wpAny (model mc.row.prog w) A (call (.ref 111) [.str x t]) Q E s:=by
 refine rZ (Bm (C:=aI w base mg mb pins H) (n:=2) (fd:=iY (hd01.heap_1 w.params) 111) (body:=bT (hd01.heap_1 w.params) 111) (ks:=[0]) (avs:=[.str x]) hA R (.cons ⟨t,rfl⟩ .nil) rfl (by rfl) (by rfl) (by rfl) (by rfl) (by rfl) (by rfl)
  (qY λa0=>by rfl) (by decide)
  (dp (by first|exact .inl rfl|exact .inr rfl) (fz)) (lQ (by rfl)) (by rfl) (by rfl) (by rfl) (by rfl) λenv s1 E' _ henv N1 R1 g1 own=>?_)
 have hA2:bN 2 (A.deeper env):=hA.deeper env;have hmg:mainGlobals≠106:=by decide
 have hcode:env.code=.ref 110:=by rw[henv];rfl
 have hglob:env.globals=mainGlobals:=N1.globals;have hL:env.locals≠106:=λe=>by have:=own _ (.inl e.symm);rw[hT]at this;cases this
 have hC:∀y c,env.cells.lookup y=some c->env.kindOf y=some .cell ->c≠106:=λy c q k e=>by have:=own c (.inr ⟨y,trivial,k,q⟩);rw[e,hT]at this;cases this
 have S:∀y c,env.cells.lookup y=some c->c≠106:=λy c q=>by
  refine ou ((N1.cells y c q).2) λv0 o ho hd=>?_;intro e;subst e;have:=g1.cI _ _ hT Z7 id;rw[this]at ho;cases ho
  cases hd
 have hT1:s1.heap.get? 106=some (tabObj #[]):=g1.cI _ _ hT Z7 id;have w1:=cY (C:=aI w base mg mb pins H) (n:=2) (τ:=0) (sc:=(iY (hd01.heap_1 w.params) 111).scope) (x:="places") (p':=⟨93,4,93,10⟩) (pos:=⟨93,4,93,16⟩) 1 (by rfl)
  (dj (pos:=⟨93,13,93,16⟩) (au (aA (i:=0) (k:=0) (pos:=⟨93,14,93,15⟩)) aF (by rfl))) (by first|exact .inl rfl|exact .inr rfl) (by rfl)
 refine kH (w1.u (A.deeper env) env _ ρ st s1 .next [(0,.str x),(1,.ref st.length)] (st++[.list [.int 0]]) _ _ hA2 (cJ _) N1 R1 rfl λr bA s2 g2 N2 R2 r2=>?_);cases r2
 dsimp only;have ownP:∀a,a=106->¬dr env a:=by
  rintro a rfl (e|⟨y,_,_,q⟩)
  ·exact hL e.symm
  ·exact S y _ q rfl
 have Z5:(106:ak)∉bA:=g2.iZ hT1 Z7;have hT2:s2.heap.get? 106=some (tabObj #[]):=g2.cI _ _ hT1 Z7 (ownP _ rfl);refine aG (R2.addr (l:=st.length) (o:=.list [.int 0]) (by simp)) λlp hlp hlpl=>?_;have pS:env.kindOf ("places":ae)=some .cell :=by unfold jG;rw[N2.scope];rfl
 have hkt:env.kindOf ("text":ae)=some .cell :=by unfold jG;rw[N2.scope];rfl
 refine fH (N2.own _ pS) λcp vp hcp hcpρ _=>?_;refine fH (N2.own _ hkt) λct vt hct hctρ _=>?_;refine kH (nestDef_K rfl rfl (by rfl) ?_);refine makeFunction_K (c:=110) (P:=106) (ps:=#[]) (mg:=mg) (Lv (P:=w.params) hcp hct) hglob (H.g.keeps R2.keep) hcode (hcd.keeps R2.keep) hT2 trivial (by rfl) hmg (hbm.keeps R2.keep) λc' d3 doc h' tk hx hge hlt hrec htab=>?_;obtain⟨Y,hfn⟩:∃Y,Y=fnMade "read" (qualnameIn env "read" "read") (rE w.params) (readBody w.params) (jA w.params) [("text",ct),("places",cp)] doc ((mg "__name__").getD .none) c' d3:=⟨_,rfl⟩;have goalS:∀(X:iK),X=Y->fnMade "read" (qualnameIn env "read" "read") (rE w.params) (readBody w.params) (jA w.params) [("text",ct),("places",cp)] doc ((mg "__name__").getD .none) c' d3=X:=λX e=>by rw[e,hfn]
 refine(show wpAny (model mc.row.prog w) (A.deeper env) (storeName env "read" (.ref h'.objs.size)) _ E' {s2 with heap:=h'.push (fnMade "read" (qualnameIn env "read" "read") (rE w.params) (readBody w.params) (jA w.params) [("text",ct),("places",cp)] doc ((mg "__name__").getD .none) c' d3),toks:=tk}from ?_);rw[goalS Y rfl];have kk3:∀b o,b≠106->s2.heap.get? b=some o->(h'.push Y).get? b=some o:=λb o ne e=>dk _ _ _ _ (hx b o ne e);have hT3:(h'.push Y).get? 106=some (tabObj #[rawInt 95,rawInt 4,.ref c']):=dk _ _ _ _ htab;refine de (A2 (tk:=tk) R2 N2 Z5 hTB hL S kk3 ⟨_,hT3⟩) λR3 N3 g3=>?_;have hsz:s2.heap.objs.size<=h'.objs.size:=cq (bQ hge hlt);have hfnn:Y.isFreed=false:=by rw[hfn];rfl
 have hfr:(h'.push Y).get? h'.objs.size=some Y:=dM _ hfnn;have J:∀a,s2.heap.objs.size<=a->s2.heap.get? a=none:=λa le=>by
  cases q:s2.heap.get? a with
  |none=>rfl
  |some o=>exact absurd (j3 q) (iH.mpr le)
 have Z8:h'.objs.size∉bA:=R2.fh (J _ hsz);have Z9:c'∉bA:=R2.fh (J _ hge);refine mS (C:=aI w base mg mb pins H) (sc:=(iY (hd01.heap_1 w.params) 111).scope) (k:=2) (v:=.val (.ref h'.objs.size)) (T:=λ_=>True) trivial N3 R3 (.inl (by rfl)) rfl λs4 g4 N4 R4=>?_;have own2:∀a,dr env a->s.heap.get? a=none:=own;have hT4:s4.heap.get? 106=some (tabObj #[rawInt 95,rawInt 4,.ref c']):=g4.cI _ _ hT3 Z5 (ownP _ rfl);have U:∀a,s2.heap.get? a=none->¬dr env a:=by
  rintro a e (rfl|⟨y,_,_,q⟩)
  ·refine bO N2.ns λM hM=>?_
   refine bO (oq hM) λo ho=>?_;rw[e]at ho;cases ho
  ·refine nc (N2.cells y a q) λ_ v0 o ho _=>?_
   rw[e]at ho;cases ho
 have hf4:s4.heap.get? h'.objs.size=some Y:=g4.cI _ _ hfr Z8 (U _ (J _ hsz));have hcode4:∀o,h'.get? c'=some o->s4.heap.get? c'=some o:=λo e=>g4.cI _ _ (dk _ _ _ _ e) Z9 (U _ (J _ hge));refine kH (yh ?_ (by rw[mR (env':={(default:aR)with scope:=(iY (hd01.heap_1 w.params) 111).scope }) N4.scope];rfl));rw[arm_eval_Lambda];refine ar (aU ?_);refine ar (mi (aU ?_));refine Ny (c:=110) (P:=106) (ps:=#[rawInt 95,rawInt 4,.ref c']) (mg:=mg) (clos:=[]) (by rw[we (λp hp=>absurd hp (by simp))];rfl) hglob (H.g.keeps R4.keep) hcode (hcd.keeps R4.keep) hT4 trivial (by rfl) hmg (hbm.keeps R4.keep) λc2 ctv2 h5 tk5 hx5 hge5 hlt5 hrec5 htab5=>?_;obtain⟨fdL,hfdL⟩:∃fd:nQ,fd=Fz "<lambda>" (env.qual++"<lambda>") {posonlyargs:=[],args:=[],vararg:=none,kwonlyargs:=[],kw_defaults:=[],kwarg:=none,defaults:=[]} (Qo Ry 0 ⟨98,21,98,25⟩) {kind:=Ni,names:=[],isGenerator:=false,isCoroutine:=false} [] ((mg "__name__").getD .none) (.ref c2) ctv2:=⟨_,rfl⟩;refine(show wpAny (model mc.row.prog w) (A.deeper env) (storeName env "stream" (.ref h5.objs.size)) _ E' {s4 with heap:=h5.push {cls:=.type "function",data:=.func (Fz "<lambda>" (env.qual++"<lambda>") {posonlyargs:=[],args:=[],vararg:=none,kwonlyargs:=[],kw_defaults:=[],kwarg:=none,defaults:=[]} (Qo Ry 0 ⟨98,21,98,25⟩) {kind:=Ni,names:=[],isGenerator:=false,isCoroutine:=false} [] ((mg "__name__").getD .none) (.ref c2) ctv2)},toks:=tk5}from ?_);rw[<-hfdL];have kk5:∀b o,b≠106->s4.heap.get? b=some o->(h5.push {cls:=.type "function",data:=.func fdL}).get? b=some o:=λb o ne e=>dk _ _ _ _ (hx5 b o ne e);have hT5:∃ps,(h5.push {cls:=.type "function",data:=.func fdL}).get? 106=some (tabObj ps):=⟨_,dk _ _ _ _ htab5⟩;refine bO hT5 λps5 hT5=>?_;refine de (A2 (tk:=tk5) R4 N4 Z5 hTB hL S kk5 ⟨_,hT5⟩) λR5 N5 g5=>?_;have O:s4.heap.objs.size<=h5.objs.size:=cq (bQ hge5 hlt5);have hfs:(h5.push {cls:=.type "function",data:=.func fdL}).get? h5.objs.size=some {cls:=.type "function",data:=.func fdL}:=dM _ rfl;have N:∀a,s4.heap.objs.size<=a->s4.heap.get? a=none:=λa le=>by
  cases q:s4.heap.get? a with
  |none=>rfl
  |some o=>exact absurd (j3 q) (iH.mpr le)
 have Z_:h5.objs.size∉bA:=R4.fh (N _ O);have Z6:∀a,s4.heap.get? a=none->¬dr env a:=by
  rintro a e (rfl|⟨y,_,_,q⟩)
  ·refine bO N4.ns λM hM=>?_
   refine bO (oq hM) λo ho=>?_;rw[e]at ho;cases ho
  ·refine nc (N4.cells y a q) λ_ v0 o ho _=>?_
   rw[e]at ho;cases ho
 refine mS (C:=aI w base mg mb pins H) (sc:=(iY (hd01.heap_1 w.params) 111).scope) (k:=3) (v:=.val (.ref h5.objs.size)) (T:=λ_=>True) trivial N5 R5 (.inl (by rfl)) rfl λs6 g6 N6 R6=>?_;have hf6:s6.heap.get? h5.objs.size=some {cls:=.type "function",data:=.func fdL}:=g6.cI _ _ hfs Z_ (Z6 _ (N _ O));refine kH (NR ?_ (by rw[mR (env':={(default:aR)with scope:=(iY (hd01.heap_1 w.params) 111).scope }) N6.scope];rfl));refine sy (rB (C:=aI w base mg mb pins H) (k:=2) N6 rfl λV2 r2=>?_) (by decide);cases r2
 refine sy (rB (C:=aI w base mg mb pins H) (k:=3) N6 rfl λV3 r3=>?_) (by decide);cases r3
 refine Uv hf6 λh7 tk7 t7 gx ep hs7 hd7 kk7=>?_;dsimp only;have hPB:base.get? h5.objs.size=none:=R4.iB (N _ O);have hLP:env.locals≠h5.objs.size:=λe=>Z6 _ (N _ O) (.inl e.symm);have hCP:∀y c,env.cells.lookup y=some c->c≠h5.objs.size:=λy c q e=>by
  refine nc (N4.cells y c q) λ_ v0 o ho _=>?_;rw[e,N _ O]at ho;cases ho
 refine de (A2 (tk:=tk7) R6 N6 Z_ hPB hLP hCP kk7 ⟨_,hs7⟩) λR7 N7 g7=>?_;refine kH (RY (sy (rB (C:=aI w base mg mb pins H) (k:=3) N7 rfl λV4 r4=>?_) (by decide)));cases r4
 dsimp only;have hρ2:bA=ρ++[lp]:=by
  refine bO g2.pre λτ e=>?_;have l1:=R2.len;have l0:=R.len;rw[<-e,aT,aT,l0,hU]at l1;have l2:τ.length=1:=by exact OX l1
  refine bO (JI l2) λq zq=>?_;subst zq
  ·rw[<-e,<-l0]at hlp
   simp at hlp;rw[<-e,hlp]
 have X1:∀a,(a=106\/dr env a\/a=h5.objs.size)->s.heap.get? a≠none->a=106:=by
  rintro a (h|h|h) hn
  ·exact h
  ·exact absurd (own a h) hn
  ·have go4:Go (λa=>a=106\/dr env a\/a=h5.objs.size) ρ s bA s4:=
    (((g1.weak λ_ h=>h.elim).trans (g2.weak λ_ h=>.inr (.inl h))).trans (g3.weak λ_ h=>.inl h)).trans (g4.weak λ_ h=>.inr (.inl h))
   exact absurd (go4.back (by rw[h];exact N _ O)) hn
 have Z4:Go (λa=>a=106\/dr env a\/a=h5.objs.size) ρ s bA {s6 with heap:=h7,toks:=tk7}:=
  ((((((g1.weak λ_ h=>h.elim).trans (g2.weak λ_ h=>.inr (.inl h))).trans (g3.weak λ_ h=>.inl h)).trans (g4.weak λ_ h=>.inr (.inl h))).trans (g5.weak λ_ h=>.inl h)).trans (g6.weak λ_ h=>.inr (.inl h))).trans (g7.weak λ_ h=>.inr (.inr h))
 have stay:∀a o,a∉bA->a≠106->a≠h5.objs.size->¬dr env a->s4.heap.get? a=some o->h7.get? a=some o:=λa o n1 n2 n3 n4 e=>
  kk7 a o n3 (g6.cI a o (kk5 a o n2 e) n1 n4)
 have hne45:h'.objs.size≠h5.objs.size:=λe=>by rw[e,N _ O]at hf4;cases hf4
 have n106r:h'.objs.size≠106:=λe=>by rw[<-e,J _ hsz]at hT2;cases hT2
 have n106c:c'≠106:=λe=>by rw[<-e,J _ hge]at hT2;cases hT2
 have hcpO:∀y a,env.cells.lookup y=some a->a∉bA/\a≠106:=λy a q=>⟨(N2.cells y a q).1,S y a q⟩;have cellp:=N7.vars 1 (.ref st.length) rfl;have cellt:=N7.vars 0 (.str x) rfl;refine aG cellp λVp rp hp7=>?_;refine aG cellt λVt rt ht7=>?_;have hp7:h7.IsCell cp (some (.ref lp)):=by
  refine aG rp λa ha zq2=>?_;subst zq2;rw[hlp]at ha;cases ha
  rcases hp7 with⟨q,_⟩|⟨_,c,hc,_,hv⟩
  ·have q':env.kindOf ("places":ae)=some .local :=q
   rw[pS]at q';cases q'
  ·have hc':env.cells.lookup ("places":ae)=some c:=hc
   rw[hcp]at hc';cases hc';exact hv
 have ht7:∃t7,h7.IsCell ct (some (.str x t7)):=by
  refine bO rt λt7 zq1=>?_;subst zq1;rcases ht7 with⟨q,_⟩|⟨_,c,hc,_,hv⟩
  ·have q':env.kindOf ("text":ae)=some .local :=q
   rw[hkt]at q';cases q'
  ·have hc':env.cells.lookup ("text":ae)=some c:=hc
   rw[hct]at hc';cases hc';exact⟨t7,hv⟩
 refine bO ht7 λt7' ht7=>?_;have hqual:qualnameIn env "read" "read"=("_law_stream.<locals>.read":ae):=by rw[henv];rfl
 have hrec7:h7.CodeRec (.ref c') "_law_stream.<locals>.read":=by
  rw[hqual]at hrec;refine p7 hrec λc oc vs tt e1 e2 e3 e4=>?_;cases e1
  have a4:=hcode4 _ e2;exact⟨c',oc,vs,tt,rfl,stay c' _ Z9 n106c (λe=>by rw[e,N _ O]at a4;cases a4) (U _ (J _ hge)) a4,e3,e4⟩
 have hread7:h7.get? h'.objs.size=some Y:=stay _ _ Z8 n106r hne45 (U _ (J _ hsz)) hf4;have hdρ:s6.heap.objs.size∉bA:=R6.fh (fR _);have htab7:∃ps,h7.get? 106=some (tabObj ps):=⟨ps5,kk7 _ _ (λe=>by
  have:s4.heap.get? h5.objs.size=none:=N _ O;rw[<-e,hT4]at this;cases this) (g6.cI _ _ hT5 Z5 (ownP _ rfl))⟩
 have go2:Go (λa=>a=106\/dr env a\/a=h5.objs.size) ρ s bA s2:=(g1.weak λ_ h=>h.elim).trans (g2.weak λ_ h=>.inr (.inl h));have go4:Go (λa=>a=106\/dr env a\/a=h5.objs.size) ρ s bA s4:=(go2.trans (g3.weak λ_ h=>.inl h)).trans (g4.weak λ_ h=>.inr (.inl h));have go6:Go (λa=>a=106\/dr env a\/a=h5.objs.size) ρ s bA s6:=(go4.trans (g5.weak λ_ h=>.inl h)).trans (g6.weak λ_ h=>.inr (.inl h));have frc:=go2.back (J _ hge);have frr:=go2.back (J _ hsz);have frs:=go4.back (N _ O);have frd:=go6.back (fR s6.heap);have frcp:=own cp (.inr ⟨_,trivial,pS,hcp⟩);have frct:=own ct (.inr ⟨_,trivial,hkt,hct⟩);have hpt:cp≠ct:=λe=>by
  have:=N2.apart _ _ _ hcp (by rw[e];exact hct);exact absurd this (by decide)
 rw[hρ2]at Z4 R7 Z8 Z9 Z_ hdρ hcpO;rw[hfn,hqual]at hread7;refine K lp h'.objs.size h5.objs.size _ ⟨⟨Z4.pre,Z4.new,λa o e n ne=>Z4.cI a o e n λz=>ne (X1 a z (by rw[e];simp)),Z4.alive,Z4.os,Z4.gens⟩,R7,⟨cp,ct,c',d3,doc,_,t7',hread7,hrec7,hp7,ht7,(hcpO _ _ hcp).1,(hcpO _ _ hct).1,Z9,hpt,frcp,frct,frc⟩,
  ⟨_,fdL,gx,t7,ep,hs7,hd7,hdρ,frd⟩,Z8,frr,frs,Z_,htab7⟩
end
noncomputable def CX(p:ak->Bool)(h:aO):aO:={h with objs:=h.objs.mapIdx λa o=>if p a then o else{cls:=.none,data:=.freed }}
theorem BA(p:ak->Bool)(h:aO)(a:ak):(CX p h).get? a=if p a=true then h.get? a else none:=by
 unfold CX Heap.get?;simp only[Array.getElem?_mapIdx];cases h.objs[a]? with
 |none=>simp
 |some o=>
  cases q:p a with
  |true=>simp[q]
  |false=>simp[q]
noncomputable def fL(base h:aO)(extra:List ak):aO:=CX (λa=>(base.get? a).isSome ||extra.contains a) h
section
variable{base h:aO}{extra:List ak}
theorem G7{a:ak}{o:iK}(e:(fL base h extra).get? a=some o):h.get? a=some o/\((base.get? a).isSome =true\/a∈extra):=by
 unfold fL at e;rw[BA]at e;split at e
 ·rename_i q
  rw[oY]at q;refine⟨e,q.imp id λz=>?_⟩;simpa using z
 ·cases e
theorem Ab{a:ak}{o:iK}(k:∀b o,base.get? b=some o->h.get? b=some o)(e:base.get? a=some o):(fL base h extra).get? a=some o:=by
 unfold fL;rw[BA,if_pos (by rw[e];rfl)];exact k a o e
theorem MQ{a:ak}{o:iK}(m:a∈extra)(e:h.get? a=some o):(fL base h extra).get? a=some o:=by
 unfold fL;rw[BA,if_pos (by rw[oY];right;simpa using m)];exact e
theorem zZ{a:ak}(e:base.get? a=none)(m:a∉extra):(fL base h extra).get? a=none:=by
 cases q:(fL base h extra).get? a with
 |none=>rfl
 |some o=>
  rcases(G7 q).2 with z|z
  ·rw[e]at z;cases z
  ·exact absurd z m
theorem Fx.fL{Kf:o5}{mg mb:ae->Option af}(F:Fx Kf base mg mb)(k:∀b o,base.get? b=some o->h.get? b=some o):Fx Kf (Mine.fL base h extra) mg mb:=
 have J:∀b o,base.get? b=some o->(Mine.fL base h extra).get? b=some o:=λb o e=>Ab k e
 ⟨λa o e=>J _ _ (F.eU a o e),F.g.keeps J,F.b.keeps J,F.nolimit.keeps J,F.boot⟩
theorem gc.cfg{C C':Cfg}(e:C.nm=C'.nm){ρ:aD}{m:List (Nat×AV)}{es:List lF}(r:gc C ρ m es):gc C' ρ m es:=by
 induction r with
 |nil=>exact .nil
 |cons a b J=>rw[e];exact .cons a J
theorem kn.cfg{C C':Cfg}(e:C.nm=C'.nm){ρ:aD}{h:aO}{a:ak}{o:AO}(x:kn C ρ h a o):kn C' ρ h a o:=by
 cases o with
 |dict _=>exact x.imp λes q=>q.imp λn q=>⟨q.1,q.2.cfg e⟩
 |_=>exact x
theorem Rel.rebase{C C':Cfg}(e:C.nm=C'.nm){ρ:aD}{st:St}(R:Rel C ρ st h)(hb:C'.base=Mine.fL C.base h extra)(J:∀a∈extra,a∉ρ)(N:∀p∈C'.pins,ρ[p.1]?=some p.2):Rel C' ρ st h:=
 ⟨R.len,R.nodup,λa m=>by rw[hb];exact zZ (R.out a m) λz=>J a z m,R.live,λb o q=>(G7 (by rw[<-hb];exact q)).1,λl o a q z=>(R.objs l o a q z).cfg e,N⟩
theorem a8.rebase{C C':Cfg}(e:C.nm=C'.nm)(J:C.code=C'.code/\C.qual=C'.qual){sc:bc}{ρ:aD}{F:aj}{env:aR}(N:a8 C sc ρ F env h)(hb:C'.base=Mine.fL C.base h extra)(hL:env.locals∉extra)(O:∀x c,env.cells.lookup x=some c->c∉extra):a8 C' sc ρ F env h:=by
 refine⟨N.scope,N.kind,N.globals,N.builtins,N.ns,N.mI,by rw[hb];exact zZ N.oj hL,λk v q=>?_,λx q=>?_,N.apart,N.vu,N.cells,N.frees,λh=>⟨(N.here h).1.trans J.1,(N.here h).2.trans J.2⟩⟩
 ·have:=N.vars k v q
  rw[e]at this;exact this
 ·refine kr (N.own x q) λc v0 a b d f i=>?_
  exact⟨c,v0,a,b,d,f,by rw[hb];exact zZ i (O x c a)⟩
end
noncomputable def C4:SM:=(ao (gN (bU ek bAppend (aa 1) (ab (ay aX (aH (aa 1) (jb (xk (.int 1)))) (aa 4)) ag)))
 (ao (cy (cH (aa 0) (bY (aH (aa 1) (jb (xk (.int 2))))) (bY (aH (aa 1) (jb (xk (.int 1))))) bb))
 aC))
theorem WR{w:dB}{base:aO}{mg mb:ae->Option af}{pins:List (Nat×ak)}(H:Fx (hd01.heap_1 w.params) base mg mb){n:Nat}:gr (aI w base mg mb pins H) n (jA w.params) 0 (readBody w.params) C4:=
 (aK (o7 (dP (ai 1 (by rfl) (by decide)) (nN ur uh) (Plain.cons rfl Plain.nil) cP (au (aY (cu (ai 1 (by rfl) (by decide)) (qy aA) (by intro _ _;exact⟨_,rfl⟩)) (ai 4 (by rfl) (by decide)) cS) aF (by rfl)) rL (by intro _;rfl) (by rfl) (by decide)) (by rfl))
 (aK (eC (gV (ai 0 (by rfl) (by decide)) (eZ (cu (ai 1 (by rfl) (by decide)) (qy aA) (by intro _ _;exact⟨_,rfl⟩))) (eZ (cu (ai 1 (by rfl) (by decide)) (qy aA) (by intro _ _;exact⟨_,rfl⟩))) dt (by intro _ _;exact⟨_,rfl⟩)))
 bp))
noncomputable def fx(x:ae)(k:Nat)(avs:List AV)(st:St):Option (AV×St):=match avs with
 |[v]=>(C4 [(4,v),(0,.str x),(1,.ref k)] st).bind λp=>match p.1 with
  |.ret v=>some (v,p.2.2)
  |_=>none
 |_=>none
theorem H3{k:Nat}{v:AV}:∀{l:List (Nat×AV)},l.lookup k=some v->(k,v)∈l
 |[],h=>by cases h
 |(j,x)::r,h=>by
  rw[eK]at h;split at h
  ·rename_i z;cases h;rw[beq_iff_eq.mp z];exact cj
  ·exact cw _ (H3 h)
section
variable{w:dB}{base:aO}{mg mb:ae->Option af}{pins:List (Nat×ak)}(H:Fx (hd01.heap_1 w.params) base mg mb)
theorem Mk{n:Nat}{k:Nat}{lp rA cp ct c':ak}{d3 doc pm:af}{x:ae}{t:Tok}
 (ho:base.get? rA=some (fnMade "read" "_law_stream.<locals>.read" (rE w.params) (readBody w.params) (jA w.params) [("text",ct),("places",cp)] doc pm c' d3))(Z7:base.CodeRec (.ref c') "_law_stream.<locals>.read")
 (hcp:base.IsCell cp (some (.ref lp)))(hct:base.IsCell ct (some (.str x t)))(Z8:cp≠ct)(Z9:(k,lp)∈pins):
 dX (aI w base mg mb pins H) (n+1) (.ref rA) (fx x k):=by
 intro A ρ st s avs vs v st' Q E hA R rv h K;unfold fx at h;split at h
 ·rename_i v0
  refine aG (vC h) λzq0 h1 h=>?_;obtain⟨fl,F',bI⟩:=zq0;cases rv with
  |cons ra rb=>
   cases rb
   rename_i V0;have keep:=R.keep;have hlp:ρ[k]?=some lp:=R.pin (k,lp) Z9;have Z6:s.heap.CodeRec (.ref c') "_law_stream.<locals>.read":=by
    refine p7 Z7 λc oc vs tt e1 e2 e3 e4=>?_;exact⟨c,oc,vs,tt,e1,keep _ _ e2,e3,e4⟩
   refine codeAny_call_def (fd:=fnX "read" "_law_stream.<locals>.read" (rE w.params) (readBody w.params) (jA w.params) [("text",ct),("places",cp)] .none .none doc pm none (.ref c') d3) (body:=readBody w.params) (binds:=[("size",V0)])
    hA.cG (keep _ _ ho) rfl (H.nolimit.keeps keep) Z6 rfl (.of_eq (by rfl)) (by intro y hy hc;have:y∈([("size",.local),("places",.free),("text",.free)]:List (ae×e7)):=hy;simp only[bJ,a6,or_false]at this;rcases this with rfl|rfl|rfl<;>cases hc)
    (by intro y hy;simp only[bJ,a6,or_false]at hy;subst hy;rfl) (λh₀ Z_ kk=>?_) (by rfl) (by rfl) (by rfl)
   generalize N:callEnv _ s.heap.objs.size rA=env;have dT:env.scope=jA w.params:=by rw[<-N];rfl
   have S:env.locals=s.heap.objs.size:=by rw[<-N];rfl
   have U:env.cells=[(("text":ae),ct),(("places":ae),cp)]:=by rw[<-N];rfl
   have egl:env.globals=mainGlobals:=by rw[<-N];rfl
   have ebu:env.builtins=builtinsNs:=by rw[<-N];rfl
   have J:s.heap.get? env.locals=none:=by rw[S];exact fR _
   have g1:Go No ρ s ρ {s with heap:=h₀,toks:=s.toks+1}:=Go.keeps kk;have R1:Rel (aI w base mg mb pins H) ρ st h₀:=R.keeps kk;refine aG hcp λop hop hdp=>?_;refine aG hct λot hot hdt=>?_;have Z4:cp∉ρ:=λm=>by have:base.get? cp=none:=R.out cp m;rw[hop]at this;cases this
   have Z5:ct∉ρ:=λm=>by have:base.get? ct=none:=R.out ct m;rw[hot]at this;cases this
   have hp0:h₀.IsCell cp (some (.ref lp)):=⟨op,kk _ _ (keep _ _ hop),hdp⟩;have ht0:h₀.IsCell ct (some (.str x t)):=⟨ot,kk _ _ (keep _ _ hot),hdt⟩;have O:∀y,env.kindOf y=(jA w.params).names.lookup y:=λy=>by unfold jG;rw[dT]
   have cellOf:∀y c,env.cells.lookup y=some c->(y="text"/\c=ct)\/(y="places"/\c=cp):=λy c q=>by
    rw[U,eK,eK]at q;split at q
    ·rename_i z;cases q;exact .inl ⟨beq_iff_eq.mp z,rfl⟩
    ·split at q
     ·rename_i z;cases q;exact .inr ⟨beq_iff_eq.mp z,rfl⟩
     ·cases q
   have kinds:∀y q,(jA w.params).names.lookup y=some q->(y="size"/\q=.local)\/(y="places"/\q=.free)\/(y="text"/\q=.free):=λy q e=>by
    have e':([("size",.local),("places",.free),("text",.free)]:List (ae×e7)).lookup y=some q:=e;have m:=lookup_mem e';simp only[bJ,a6,or_false,OR]at m;exact m
   have N1:a8 (aI w base mg mb pins H) (jA w.params) ρ [(4,v0),(0,.str x),(1,.ref k)] env h₀:=by
    refine⟨dT,rfl,egl,ebu,⟨_,by rw[S];exact Z_⟩,R.fh J,R.iB J,λj v q=>?_,λy q=>?_,λy z c hy hz=>?_,λy q=>?_,λy c q=>?_,λy q=>?_,λq=>absurd (beq_iff_eq.mpr q) (by rw[show((jA w.params).names.lookup ("due":ae)==some .local)=false from by rfl];exact d_)⟩
    ·have q':=H3 q
     simp only[bJ,a6,or_false,OR]at q';rcases q' with⟨rfl,rfl⟩|⟨rfl,rfl⟩|⟨rfl,rfl⟩
     ·exact⟨V0,ra,.inl ⟨by rw[O];rfl,_,by rw[S];exact Z_,by rfl⟩⟩
     ·exact⟨.str x t,⟨t,rfl⟩,.inr ⟨.inr (by rw[O];rfl),ct,by rw[U];rfl,Z5,ht0⟩⟩
     ·exact⟨.ref lp,⟨lp,hlp,rfl⟩,.inr ⟨.inr (by rw[O];rfl),cp,by rw[U];rfl,Z4,hp0⟩⟩
    ·rw[O]at q
     rcases kinds _ _ q with⟨_,z⟩|⟨_,z⟩|⟨_,z⟩<;>cases z
    ·rcases cellOf _ _ hy with⟨rfl,rfl⟩|⟨rfl,rfl⟩<;>rcases cellOf _ _ hz with⟨rfl,z⟩|⟨rfl,z⟩
     ·rfl
     ·exact absurd z.symm Z8
     ·exact absurd z Z8
     ·rfl
    ·rw[O]at q
     rcases kinds _ _ q with⟨rfl,z⟩|⟨rfl,z⟩|⟨rfl,z⟩
     ·cases z
     ·decide
     ·decide
    ·rcases cellOf _ _ q with⟨rfl,rfl⟩|⟨rfl,rfl⟩
     ·exact⟨Z5,_,ht0⟩
     ·exact⟨Z4,_,hp0⟩
    ·rw[O]at q
     rcases kinds _ _ q with⟨rfl,z⟩|⟨rfl,z⟩|⟨rfl,z⟩
     ·cases z
     ·exact⟨cp,by rw[U];rfl⟩
     ·exact⟨ct,by rw[U];rfl⟩
   have Y:∀a,dr env a->s.heap.get? a=none:=by
    rintro a (rfl|⟨y,_,z,q⟩)
    ·exact J
    ·rw[O]at z
     rcases kinds _ _ z with⟨_,e⟩|⟨_,e⟩|⟨_,e⟩<;>cases e
   refine e8 ((WR H (n:=n)).u (A.deeper env) env [(4,v0),(0,.str x),(1,.ref k)] ρ st {s with heap:=h₀,toks:=s.toks+1} fl F' bI (λf s'=>(match(iE (.ret (match f with|.ret v=>v|_=>.none)):qg)with|.ok (.ret v)=>Q v s'|.ok _=>False|.error e=>E e s')) _ (hA.deeper env) (cJ _) N1 R1 h1 λr bA s2 g2 N2 R2 r2=>?_) (λ_ _ q=>q) λ_ _ q=>q;have g:Go No ρ s bA s2:=g2.l8.after g1 Y;dsimp only at h;cases fl with
   |ret x=>cases h;obtain⟨V,rfl,r2⟩:=r2;exact K V bA s2 g R2 r2
   |next=>cases h
   |brk=>cases h
   |cont=>cases h
 ·cases h
end
open Builtin.ObjectAttr
theorem Jd:typeLookup (.type "function") ("__getattribute__":ae)=pure (some (.builtin "object.__getattribute__")):=by rw[mh,mf];kernel_rfl
theorem UI:typeLookup (.type "function") ("__getattr__":ae)=pure none:=by rw[mh,mf];kernel_rfl
theorem Ej:qb "function" "__getattribute__" "object.__getattribute__":=
 .of (owner:="object") (n:="__getattribute__") (by rw[mh,mf];kernel_rfl) (by decide+kernel) (by decide+kernel) (by decide+kernel)
  (by first|exact .inl (by decide+kernel)|exact .inr (by decide+kernel)) (by rw[rM];kernel_rfl)
theorem Mj:entryFor table "object.__getattribute__"=some Builtin.«object.__getattribute__»:=AE (by kernel_rfl)
theorem Ob(a b:af):argsOk "object.__getattribute__" ⟨[a,b],[]⟩:=by unfold argsOk;kernel_rfl
section
variable{prog:ft}{w:dB}{A:bg}{E:af->ah->Prop}{s:ah}
theorem V8{f da r:ak}{fd:nQ}{gx:Int}{t:Tok}{ep:Nat}{expr:Bool}{Q:af->ah->Prop}(ho:s.heap.get? f=some {cls:=.type "function",dict:=some da,data:=.func fd})
 (hd:s.heap.get? da=some {cls:=.type "dict",data:=.dict #[⟨gx,.str "read" t,.ref r⟩] ep})(K:Q (.ref r) {s with toks:=s.toks+1}):
 wpAny (model prog w) A (getAttr (.ref f) "read" expr) Q E s:=by
 unfold getAttr getAttrBy;refine ar (AJ (mi (ar (xM (T:="function") ⟨_,ho,rfl⟩ (ar (d9 Jd ?_))))));show wpAny _ _ (getAttrByItsOwn (.ref f) (.str "read" s.toks) (.type "function") (.builtin "object.__getattribute__") true expr) _ _ _;unfold getAttrByItsOwn hookBefore callGetattribute boundAndCalled;refine ar (d9 (show(if onTheHeap (.type "function")then typeLookup (.type "function") "__getattr__" else pure none)=pure none from rfl) ?_);refine ar (wU (mi ?_));rw[if_neg (by cases expr<;>decide)];refine ar (d9 (Ej.bind _) ?_);refine p_ Ej ⟨_,ho,rfl⟩ Mj ?_ (Ob _ _);refine ar (m:=slotArgs _ _ _) (d9 (a:=(eJ f,[Value.str "read" s.toks])) (by rfl) ?_);dsimp only;refine ar (aU (ar (xM (T:="function") ⟨_,ho,rfl⟩ (ar ?_))));unfold find;refine ar (d9 BO (ar (aU (ar (aU ?_)))));show wpAny _ _ (ownThenClass _ _ _ _) _ _ _;unfold ownThenClass;refine ar ?_;refine ar (ar (sa ho ?_));show wpAny _ _ (instanceDict f false) _ _ _;unfold instanceDict;refine ar (sa ho ?_);refine aU ?_;show wpAny _ _ (loadPart da _>>= _) _ _ _;refine ar (sa hd ?_);rw[nsLook_of (r:=some (.ref r)) (by rfl)];refine aU ?_;refine ar (nJ (aU ?_));refine aU ⟨_,rfl,?_⟩;refine d9 (a:=eJ r) (by rfl) ?_;exact K
end
noncomputable def bq(sA:ak)(a:AV)(_:St):Option (List AV):=match a with
 |.val (.ref p)=>if p=sA then some []else none
 |_=>none
theorem K7{C:Cfg}{sA da rA:ak}{fd:nQ}{gx:Int}{t:Tok}{ep:Nat}(hs:C.base.get? sA=some {cls:=.type "function",dict:=some da,data:=.func fd})
 (hd:C.base.get? da=some {cls:=.type "dict",data:=.dict #[⟨gx,.str "read" t,.ref rA⟩] ep}):gO C "read" (.ref rA) (bq sA):=by
 intro A ρ st s a O first Q E pl R r h K;unfold bq at h;split at h
 ·rename_i p
  split at h
  ·rename_i N
   cases h
   cases r
   subst N;have ho:=R.keep _ _ hs;have J:s.TypeIs (.ref p) "function":=⟨_,ho,rfl⟩;unfold getMethod;refine ar (nK J Jd ?_);show wpAny _ _ (if(Y4 "object.__getattribute__"!="object.__getattribute__")=true then _ else _) _ _ _;rw[if_neg (by decide+kernel)];refine ar (nK J UI ?_);rw[if_neg (by simp)];refine ar (nK J BO ?_);dsimp only;refine ar (V8 ho (R.keep _ _ hd) (aU ?_));exact K [] _ (.toks _) R .nil
  ·cases h
 ·cases h
end Mine
namespace Mine
open PySem PyProof.Rows PySem.W
mutual
inductive RV(W:List Nat)(st:St):AV->aB->Prop
 |int (i:Int):RV W st (.int i) (.int i)
 |bool (b:Bool):RV W st (.bool b) (.bool b)
 |str (x:ae):RV W st (.str x) (.str x)
 |list {l:Nat} {xs:List AV} {ds:List aB}:l∉W->st[l]?=some (.list xs)->aQ W st xs ds->RV W st (.ref l) (.list ds)
 |tup {l:Nat} {xs:List AV} {ds:List aB}:l∉W->st[l]?=some (.tup xs)->aQ W st xs ds->RV W st (.ref l) (.tuple ds)
inductive aQ(W:List Nat)(st:St):List AV->List aB->Prop
 |nil:aQ W st [] []
 |cons {x:AV} {d:aB} {xs:List AV} {ds:List aB}:RV W st x d->aQ W st xs ds->aQ W st (x::xs) (d::ds)
end
noncomputable def Kp(W W':List Nat)(st st':St):Prop:=∀l,l<st.length->l∉W->l∉W'/\st'[l]?=st[l]?
theorem gq{st:St}{l:Nat}{o:AO}(h:st[l]?=some o):l<st.length:=(fX.mp h).1
theorem RV.to{W W':List Nat}{st st':St}(k:Kp W W' st st'){v:AV}{d:aB}(h:RV W st v d):RV W' st' v d:=
 RV.rec (motive_1:=λv d _=>RV W' st' v d) (motive_2:=λxs ds _=>aQ W' st' xs ds) .int .bool .str
  (λn e _ r=>have q:=k _ (gq e) n;.list q.1 (q.2.trans e) r) (λn e _ r=>have q:=k _ (gq e) n;.tup q.1 (q.2.trans e) r) .nil (λ_ _ a b=>.cons a b) h
theorem aQ.to{W W':List Nat}{st st':St}(k:Kp W W' st st'){xs:List AV}{ds:List aB}(h:aQ W st xs ds):aQ W' st' xs ds:=
 aQ.rec (motive_1:=λv d _=>RV W' st' v d) (motive_2:=λxs ds _=>aQ W' st' xs ds) .int .bool .str
  (λn e _ r=>have q:=k _ (gq e) n;.list q.1 (q.2.trans e) r) (λn e _ r=>have q:=k _ (gq e) n;.tup q.1 (q.2.trans e) r) .nil (λ_ _ a b=>.cons a b) h
structure aN(W:List Nat)(st st':St):Prop where
 len:st.length<=st'.length
 at':∀l,l<st.length->l∉W->st'[l]?=st[l]?
theorem aN.rfl'{W:List Nat}{st:St}:aN W st st:=⟨a7 _,λ_ _ _=>rfl⟩
theorem aN.trans{W:List Nat}{a b c:St}(h:aN W a b)(g:aN W b c):aN W a c:=⟨aw h.len g.len,λl q n=>(g.at' l (cK q h.len) n).trans (h.at' l q n)⟩
theorem aN.any{W:List Nat}{a b:St}(h:aN [] a b):aN W a b:=⟨h.len,λl q _=>h.at' l q a6⟩
theorem aN.app{W:List Nat}{st:St}(ex:List AO):aN W st (st++ex):=⟨by rw[aT];exact c8 ..,λl q _=>pF q⟩
theorem aN.kp{W:List Nat}{a b:St}(h:aN W a b):Kp W W a b:=λl q n=>⟨n,h.at' l q n⟩
theorem aN.get{a b:St}(h:aN [] a b){l:Nat}{o:AO}(e:a[l]?=some o):b[l]?=some o:=(h.at' l (gq e) a6).trans e
theorem aN.cW{W:List Nat}{a b:St}(h:aN W a b){l:Nat}{o:AO}(n:l∉W)(e:a[l]?=some o):b[l]?=some o:=(h.at' l (gq e) n).trans e
theorem RV.keep{W:List Nat}{a b:St}(k:aN W a b){v:AV}{d:aB}(h:RV W a v d):RV W b v d:=h.to k.kp
theorem aQ.keep{W:List Nat}{a b:St}(k:aN W a b){xs:List AV}{ds:List aB}(h:aQ W a xs ds):aQ W b xs ds:=h.to k.kp
inductive Vl where
 |d (d:aB)
 |v (v:AV)
noncomputable abbrev Gm:=Nat->Option Vl
noncomputable def Sat(W:List Nat)(st:St)(x:AV)(p:Vl):Prop:=Vl.casesOn p (λd=>RV W st x d) λv=>x=v
theorem Sat.keep{W:List Nat}{a b:St}(k:aN W a b){x:AV}{p:Vl}(h:Sat W a x p):Sat W b x p:=by
 cases p with
 |d d=>exact RV.keep k h
 |v v=>exact h
noncomputable def Gm.put(G:Gm)(k:Nat)(p:Vl):Gm:=λj=>if j=k then some p else G j
noncomputable def Gm.only(fv:List Nat)(G:Gm):Gm:=λj=>if fv.contains j=true then G j else none
noncomputable def Bd(W:List Nat)(st:St):Prop:=∀w∈W,w<st.length
structure GR(W:List Nat)(G:Gm)(F:aj)(st:St):Prop where
 bd:Bd W st
 at':∀k p,G k=some p->Ok (F.lookup k) λx=>Sat W st x p
theorem Bd.keep{W V:List Nat}{a b:St}(k:aN V a b)(h:Bd W a):Bd W b:=λw m=>cK (h w m) k.len
section
variable{W:List Nat}{G:Gm}{F:aj}{st st':St}
theorem GR.keep(h:GR W G F st)(k:aN W st st'):GR W G F st':=⟨h.bd.keep k,λj p e=>(h.at' j p e).mono λx s=>s.keep k⟩
theorem GR.cZ(h:GR W G F st)(k:aN [] st st'):GR W G F st':=h.keep k.any
theorem GR.put(h:GR W G F st){k:Nat}{x:AV}{p:Vl}(s:Sat W st x p):GR W (G.put k p) (F.put k x) st:=⟨h.bd,λj q e=>by
 rw[aj.wq];by_cases z:j=k
 ·rw[if_pos z];rw[Gm.put,if_pos z]at e;cases e;exact s
 ·rw[if_neg z];rw[Gm.put,if_neg z]at e;exact h.at' j q e⟩
theorem Kt{fv:List Nat}{k:Nat}{v:AV}(hk:fv.contains k=true){F:aj}(h:F.lookup k=some v):(F.only fv).lookup k=some v:=by
 induction F with
 |nil=>exact h
 |cons p F N=>
  rw[eK]at h;unfold aj.only;by_cases z:k=p.1
  ·have J:(k==p.1)=true:=beq_iff_eq.mpr z
   rw[J]at h;rw[uj (p:=λp:Nat×AV=>fv.contains p.1) (z▸hk),eK,J];exact h
  ·have J:(k==p.1)=false:=beq_false_of_ne z
   rw[J]at h;by_cases q:fv.contains p.1=true
   ·rw[uj (p:=λp:Nat×AV=>fv.contains p.1) q,eK,J];exact N h
   ·rw[xx (p:=λp:Nat×AV=>fv.contains p.1) q];exact N h
theorem GR.only(h:GR W G F st)(fv:List Nat):GR W (G.only fv) (F.only fv) st:=⟨h.bd,λj q e=>by
 by_cases z:fv.contains j=true
 ·rw[Gm.only,if_pos z]at e
  refine aG ((h.at' j q e).get) λx J s=>?_;exact Ok.of (Kt z J) s
 ·rw[Gm.only,if_neg z]at e;cases e⟩
theorem RV.i'{v:AV}{i:Int}(h:RV W st v (.int i)):v=.int i:=by cases h;rfl
theorem RV.b'{v:AV}{b:Bool}(h:RV W st v (.bool b)):v=.bool b:=by cases h;rfl
theorem RV.s'{v:AV}{x:ae}(h:RV W st v (.str x)):v=.str x:=by cases h;rfl
theorem RV.l'{v:AV}{ds:List aB}(h:RV W st v (.list ds)):∃l xs,v=.ref l/\l∉W/\st[l]?=some (.list xs)/\aQ W st xs ds:=by
 cases h with
 |list a b c=>exact⟨_,_,rfl,a,b,c⟩
theorem RV.t'{v:AV}{ds:List aB}(h:RV W st v (.tuple ds)):∃l xs,v=.ref l/\l∉W/\st[l]?=some (.tup xs)/\aQ W st xs ds:=by
 cases h with
 |tup a b c=>exact⟨_,_,rfl,a,b,c⟩
theorem aQ.len{xs:List AV}{ds:List aB}(h:aQ W st xs ds):xs.length=ds.length:=
 aQ.rec (motive_1:=λ_ _ _=>True) (motive_2:=λxs ds _=>xs.length=ds.length) (λ_=>trivial) (λ_=>trivial) (λ_=>trivial) (λ_ _ _ _=>trivial) (λ_ _ _ _=>trivial) rfl (λ_ _ _ b=>congrArg sH b) h
theorem aQ.get{xs:List AV}{ds:List aB}(h:aQ W st xs ds):∀{i:Nat}{d:aB},ds[i]?=some d->∃x,xs[i]?=some x/\RV W st x d:=by
 induction xs generalizing ds with
 |nil=>cases h;intro i d e;cases e
 |cons y N J=>
  cases h with
  |cons a b=>
   intro i d e;cases i with
   |zero=>cases e;exact⟨_,rfl,a⟩
   |succ i=>exact J b e
theorem aQ.app{xs J:List AV}{ds es:List aB}(h:aQ W st xs ds)(g:aQ W st J es):aQ W st (xs++J) (ds++es):=by
 induction xs generalizing ds with
 |nil=>cases h;exact g
 |cons y N O=>
  cases h with
  |cons a b=>exact .cons a (O b)
theorem RR{st:St}{l k:Nat}{xs:List AV}{ds:List aB}(h:st[l]?=some (.tup xs))(e:xs.mapM (fc st k)=some ds):fc st (k+1) (.ref l)=some (.tuple ds):=by
 show(none:Option aB).or (((bF st l).bind _).or ((eo st l).bind _))=_;rw[kM h,show bF st l=none by unfold bF;rw[h];rfl];show(none:Option aB).or ((none:Option aB).or ((xs.mapM (fc st k)).map .tuple))=_;rw[e];rfl
theorem RV.rd{v:AV}{d:aB}(h:RV W st v d):∀k,d.depth<=k->fc st k v=some d:=by
 have J:∀k(v:AV)(d:aB),vL v=some d->fc st k v=some d:=λk v d e=>by
  cases k with
  |zero=>exact e
  |succ k=>show(vL v).or _=_;rw[e];rfl
 refine RV.rec (motive_1:=λv d _=>∀k,d.depth<=k->fc st k v=some d) (motive_2:=λxs ds _=>∀k,dW ds<=k->xs.mapM (fc st k)=some ds) (λi k _=>J k _ _ rfl) (λi k _=>J k _ _ rfl) (λi k _=>J k _ _ rfl) ?_ ?_ (λk _=>rfl) ?_ h
 ·intro l xs ds _ e _ N k hk
  cases k with
  |zero=>rw[iF]at hk;exact absurd hk (OM _)
  |succ k=>
   rw[iF]at hk;exact Au e (N k (AB hk))
 ·intro l xs ds _ e _ N k hk
  cases k with
  |zero=>rw[iF]at hk;exact absurd hk (OM _)
  |succ k=>
   rw[iF]at hk;exact RR e (N k (AB hk))
 ·intro x d xs ds _ _ a b k hk
  rw[dW]at hk;rw[sg,a k (aw (QI ..) hk),b k (aw (Nl ..) hk)];rfl
theorem aQ.rd{xs:List AV}{ds:List aB}(h:aQ W st xs ds)(k:Nat)(hk:dW ds<=k):xs.mapM (fc st k)=some ds:=by
 induction xs generalizing ds with
 |nil=>cases h;rfl
 |cons y N J=>
  cases h with
  |cons a b=>
   rw[dW]at hk;rw[sg,a.rd k (aw (QI ..) hk),J b (aw (Nl ..) hk)];rfl
end
end Mine
namespace Mine
open PySem PyProof.Rows PySem.W
section
variable(W:List Nat)(G:Gm)
noncomputable def Ev(f:EM)(p:Vl):Prop:=∀(F:aj)(st:St),GR W G F st->Ok (f F st) λq=>aN [] st q.2/\Sat W q.2 q.1 p
noncomputable abbrev bh(f:EM)(d:aB):Prop:=Ev W G f (.d d)
noncomputable def fb(t:aj->St->Option (Bool×St))(b:Bool):Prop:=∀(F:aj)(st:St),GR W G F st->Ok (t F st) λq=>q.1=b/\aN [] st q.2
noncomputable def jw(fa:aj->St->Option (List AV×St))(ds:List aB):Prop:=∀(F:aj)(st:St),GR W G F st->Ok (fa F st) λq=>aN [] st q.2/\aQ W q.2 q.1 ds
noncomputable def pW(fp:aj->St->Option (Option Int×St))(i:Option Int):Prop:=∀(F:aj)(st:St),GR W G F st->Ok (fp F st) λq=>q.1=i/\aN [] st q.2
noncomputable def cO(o:AV->AV->St->Option (AV×St))(a b r:aB):Prop:=∀(st:St)(x y:AV),Bd W st->RV W st x a->RV W st y b->Ok (o x y st) λc=>aN [] st c.2/\RV W c.2 c.1 r
noncomputable def iz(g:List AV->St->Option (AV×St))(ds:List aB)(r:aB):Prop:=∀(st:St)(xs:List AV),Bd W st->aQ W st xs ds->Ok (g xs st) λc=>aN [] st c.2/\RV W c.2 c.1 r
noncomputable def zo(rs:AV->St->Option (List AV))(d:aB):Prop:=∀(st:St)(x:AV),RV W st x d->Ok (rs x st) λc=>c=[x]
end
theorem Ok.fK{α β:Type}{P:α->Prop}{x:Option β}{f:β->α}(h:Ok x λa=>P (f a)):Ok (x.map f) P:=by
 cases x with
 |none=>exact h
 |some a=>exact h
section
variable{W:List Nat}{G:Gm}
theorem az{k:Nat}{p:Vl}(h:G k=some p):Ev W G (aa k) p:=λ_ _ g=>Ok.fK ((g.at' k p h).mono λx s=>⟨.rfl',s⟩)
theorem gL(i:Int):bh W G (xk (.int i)) (.int i):=λ_ _ g=>⟨.rfl',.int i⟩
theorem Vv(x:ae):bh W G (xk (.str x)) (.str x):=λ_ _ g=>⟨.rfl',.str x⟩
theorem aM{o:AV->AV->St->Option (AV×St)}{f g:EM}{a b r:aB}(hf:bh W G f a)(hg:bh W G g b)(ho:cO W o a b r):bh W G (ay o f g) r:=λ_ _ O=>
 Ok.bind' ((hf _ _ O).mono λp J=>Ok.bind' ((hg _ _ (O.cZ J.1)).mono λq N=>(ho _ _ _ (O.bd.keep (J.1.trans N.1)) (RV.keep N.1.any J.2) N.2).mono λc hc=>⟨(J.1.trans N.1).trans hc.1,hc.2⟩))
theorem d6{o:AV->AV->St->Option (AV×St)}{f g:EM}{a b:aB}{r:Bool}(hf:bh W G f a)(hg:bh W G g b)(ho:cO W o a b (.bool r)):fb W G (aS o f g) r:=λ_ _ J=>
 Ok.bind' ((aM hf hg ho _ _ J).mono λc hc=>by
  obtain⟨x,s⟩:=c;cases(show RV W s x (.bool r)from hc.2).b'
  exact⟨rfl,hc.1⟩)
theorem BR:fb W G bw true:=λ_ _ g=>⟨rfl,.rfl'⟩
theorem uf{b:Bool}:fb W G (λ_ st=>some (b,st)) b:=λ_ _ g=>⟨rfl,.rfl'⟩
theorem xR{s t:aj->St->Option (Bool×St)}{a b:Bool}(hs:fb W G s a)(ht:a=true->fb W G t b):fb W G (nv s t) (a&&b):=λ_ _ N=>Ok.bind' ((hs _ _ N).mono λq J=>by
 obtain⟨c,u⟩:=q;obtain⟨rfl,k⟩:=J;cases c with
 |true=>exact(ht rfl _ _ (N.cZ k)).mono λq J=>⟨J.1,k.trans J.2⟩
 |false=>exact⟨rfl,k⟩)
theorem sT{s t:aj->St->Option (Bool×St)}{a b:Bool}(hs:fb W G s a)(ht:a=false->fb W G t b):fb W G (iy s t) (a||b):=λ_ _ N=>Ok.bind' ((hs _ _ N).mono λq J=>by
 obtain⟨c,u⟩:=q;obtain⟨rfl,k⟩:=J;cases c with
 |true=>exact⟨rfl,k⟩
 |false=>exact(ht rfl _ _ (N.cZ k)).mono λq J=>⟨J.1,k.trans J.2⟩)
theorem qK{t:aj->St->Option (Bool×St)}{f g:EM}{b:Bool}{p:Vl}(ht:fb W G t b)(h1:b=true->Ev W G f p)(h2:b=false->Ev W G g p):Ev W G (gd t f g) p:=λ_ _ N=>Ok.bind' ((ht _ _ N).mono λq J=>by
 obtain⟨c,u⟩:=q;obtain⟨rfl,k⟩:=J;cases c with
 |true=>exact(h1 rfl _ _ (N.cZ k)).mono λq J=>⟨k.trans J.1,J.2⟩
 |false=>exact(h2 rfl _ _ (N.cZ k)).mono λq J=>⟨k.trans J.1,J.2⟩)
theorem IH{f:EM}{i:Int}(hf:bh W G f (.int i)):bh W G (jb f) (.int (-i)):=λ_ _ J=>Ok.bind' ((hf _ _ J).mono λq N=>by
 obtain⟨c,u⟩:=q;obtain⟨k,s⟩:=N;cases(show RV W u c (.int i)from s).i'
 exact⟨k,.int _⟩)
theorem be:jw W G ag []:=λ_ _ g=>⟨.rfl',.nil⟩
theorem aE{f:EM}{fa}{d:aB}{ds:List aB}(hf:bh W G f d)(R:jw W G fa ds):jw W G (ab f fa) (d::ds):=λ_ _ O=>
 Ok.bind' ((hf _ _ O).mono λp J=>Ok.fK ((R _ _ (O.cZ J.1)).mono λq N=>⟨J.1.trans N.1,.cons (RV.keep N.1.any J.2) N.2⟩))
theorem IQ{st:St}(h:Bd W st):st.length∉W:=λm=>jH _ (h _ m)
theorem ng{st:St}{o:AO}:(st++[o])[st.length]?=some o:=by simp
theorem j6{st:St}{xs:List AV}{ds:List aB}(h:Bd W st)(r:aQ W st xs ds):RV W (st++[.list xs]) (.ref st.length) (.list ds):=.list (IQ h) ng (aQ.keep (.app _) r)
theorem UR{st:St}{xs:List AV}{ds:List aB}(h:Bd W st)(r:aQ W st xs ds):RV W (st++[.tup xs]) (.ref st.length) (.tuple ds):=.tup (IQ h) ng (aQ.keep (.app _) r)
theorem e6{fa}{ds:List aB}(O:jw W G fa ds)(hl:ds.length<=16777216):bh W G (bD fa) (.list ds):=λ_ _ N=>Ok.bind' ((O _ _ N).mono λq J=>
 Ok.of (if_pos (by rw[J.2.len];exact hl)) ⟨J.1.trans (.app _),j6 (N.bd.keep J.1) J.2⟩)
theorem oh{fa}{ds:List aB}(O:jw W G fa ds)(hl:ds.length<=16777216):bh W G (dc fa) (.tuple ds):=λ_ _ N=>Ok.bind' ((O _ _ N).mono λq J=>
 Ok.of (if_pos (by rw[J.2.len];exact hl)) ⟨J.1.trans (.app _),UR (N.bd.keep J.1) J.2⟩)
theorem ia{g:List AV->St->Option (AV×St)}{fa}{ds:List aB}{r:aB}(O:jw W G fa ds)(hg:iz W g ds r):bh W G (bK g fa) r:=λ_ _ N=>Ok.bind' ((O _ _ N).mono λq J=>
 (hg _ _ (N.bd.keep J.1) J.2).mono λc hc=>⟨J.1.trans hc.1,hc.2⟩)
theorem so{rs}{g:List AV->St->Option (AV×St)}{R:EM}{fa}{d:aB}{ds:List aB}{r:aB}(ho:bh W G R d)(hr:zo W rs d)(S:jw W G fa ds)(hg:iz W g (d::ds) r):bh W G (bU rs g R fa) r:=λ_ _ O=>
 Ok.bind' ((ho _ _ O).mono λp J=>Ok.bind' ((hr _ _ J.2).mono λc hc=>Ok.bind' ((S _ _ (O.cZ J.1)).mono λq N=>by
  subst hc;exact(hg _ _ (O.bd.keep (J.1.trans N.1)) (.cons (RV.keep N.1.any J.2) N.2)).mono λc hc=>⟨(J.1.trans N.1).trans hc.1,hc.2⟩)))
theorem dO:pW W G bb none:=λ_ _ g=>⟨rfl,.rfl'⟩
theorem fS{f:EM}{i:Int}(hf:bh W G f (.int i)):pW W G (bY f) (some i):=λ_ _ J=>Ok.bind' ((hf _ _ J).mono λq N=>by
 obtain⟨c,u⟩:=q;obtain⟨k,s⟩:=N;cases(show RV W u c (.int i)from s).i'
 exact⟨rfl,k⟩)
noncomputable def rl(W:List Nat)(a:aB)(i j k:Option Int)(r:aB):Prop:=∀(st:St)(x:AV),Bd W st->RV W st x a->Ok (sM x i j k st) λc=>aN [] st c.2/\RV W c.2 c.1 r
theorem iT{f:EM}{lo hi U}{a r:aB}{i j k:Option Int}(hf:bh W G f a)(h1:pW W G lo i)(h2:pW W G hi j)(h3:pW W G U k)(hs:rl W a i j k r):bh W G (cH f lo hi U) r:=λ_ _ N=>
 Ok.bind' ((hf _ _ N).mono λp J=>Ok.bind' ((h1 _ _ (N.cZ J.1)).mono λq O=>Ok.bind' ((h2 _ _ (N.cZ (J.1.trans O.2))).mono λu R=>Ok.bind' ((h3 _ _ (N.cZ ((J.1.trans O.2).trans R.2))).mono λv hv=>by
  have S:=(O.2.trans R.2).trans hv.2;rw[O.1,R.1,hv.1];exact(hs _ _ (N.bd.keep (J.1.trans S)) (RV.keep S.any J.2)).mono λc hc=>⟨(J.1.trans S).trans hc.1,hc.2⟩))))
end
inductive Ai where
 |one (d:aB)
 |two (a b:aB)
inductive qX(W:List Nat)(st:St):Item->Ai->Prop
 |one {v:AV} {d:aB}:RV W st v d->qX W st (.one v) (.one d)
 |two {v w:AV} {a b:aB}:RV W st v a->RV W st w b->qX W st (.two v w) (.two a b)
noncomputable def Yl(W:List Nat)(tg:b7):List Ai->St->It->Prop
 |[],st,it=>tg.fits it=true/\∀st',aN W st st'->it.next st'=some (none,st')
 |a::as,st,it=>tg.fits it=true/\∀st',aN W st st'->∃item gU,it.next st'=some (some (item,gU),st')/\qX W st' item a/\Yl W tg as st' gU
theorem Yl.keep{W:List Nat}{tg:b7}{as:List Ai}{st st1:St}{it:It}(h:Yl W tg as st it)(k:aN W st st1):Yl W tg as st1 it:=by
 cases as with
 |nil=>exact⟨h.1,λst' J=>h.2 st' (k.trans J)⟩
 |cons a as=>exact⟨h.1,λst' J=>h.2 st' (k.trans J)⟩
theorem HG{W:List Nat}{tg:b7}{l:Nat}(hf:tg.fits (.list 0 0)=true)(hl:l∉W){xs:List AV}:∀{J:List AV}{ds:List aB}{i:Nat}{st:St},st[l]?=some (.list xs)->xs.drop i=J->aQ W st J ds->Yl W tg (ds.map .one) st (.list l i):=by
 intro J;induction J with
 |nil=>
  intro ds i st e hd r;cases r
  refine⟨hf,λst' k=>?_⟩;show(bF st' l).map _=_;rw[dC (k.cW hl e),bz,oR (by simpa using hd)];rfl
 |cons y J N=>
  intro ds i st e hd r;cases r with
  |cons a b=>
   have hi:xs[i]?=some y:=by rw[<-lD,hd];rfl
   refine⟨hf,λst' k=>⟨.one y,.list l (i+1),?_,.one (RV.keep k a),N (k.cW hl e) (by rw[<-me,hd];rfl) (aQ.keep k b)⟩⟩;show(bF st' l).map _=_;rw[dC (k.cW hl e),bz,hi];rfl
theorem Wj{W:List Nat}{j l:Nat}(hl:l∉W){xs:List AV}:∀{J:List AV}{ds:List aB}{i:Nat}{st:St},st[l]?=some (.tup xs)->xs.drop i=J->aQ W st J ds->Yl W (.name j) (ds.map .one) st (.tup l i):=by
 intro J;induction J with
 |nil=>
  intro ds i st e hd r;cases r
  refine⟨rfl,λst' k=>?_⟩;show(eo st' l).map _=_;rw[kM (k.cW hl e),bz,oR (by simpa using hd)];rfl
 |cons y J N=>
  intro ds i st e hd r;cases r with
  |cons a b=>
   have hi:xs[i]?=some y:=by rw[<-lD,hd];rfl
   refine⟨rfl,λst' k=>⟨.one y,.tup l (i+1),?_,.one (RV.keep k a),N (k.cW hl e) (by rw[<-me,hd];rfl) (aQ.keep k b)⟩⟩;show(eo st' l).map _=_;rw[kM (k.cW hl e),bz,hi];rfl
theorem I5{W:List Nat}{k:Nat}{x:List Nat}:∀{J:List Nat}{i:Nat}{st:St},x.drop i=J->Yl W (.name k) (J.map λc=>.one (.str (T [c]))) st (.str (T x) i):=by
 intro J;have nx:∀(i:Nat)(st:St),(It.str (T x) i).next st=some ((x[i]?).map λc=>(.one (.str (T [c])),.str (T x) (i+1)),st):=λi st=>by
  show some (lA _ (T x).cps[i]?,st)=_;rw[vq,Cb];rfl
 induction J with
 |nil=>
  intro i st hd;exact⟨rfl,λst' _=>by rw[nx,oR (by simpa using hd)];rfl⟩
 |cons y J N=>
  intro i st hd;have hi:x[i]?=some y:=by rw[<-lD,hd];rfl
  exact⟨rfl,λst' _=>⟨_,_,by rw[nx,hi];rfl,.one (.str _),N (by rw[<-me,hd];rfl)⟩⟩
theorem Fw{W:List Nat}{k:Nat}:∀(n:Nat)(a:Int)(st:St),Yl W (.name k) ((cE n).map λ(j:Nat)=>.one (.int (a+(j:Int)))) st (.range a n 1):=by
 intro n;induction n with
 |zero=>intro a st;exact⟨rfl,λst' _=>rfl⟩
 |succ n J=>
  intro a st;rw[QU];refine⟨rfl,λst' _=>⟨.one (.int a),.range (a+1) n 1,?_,?_,?_⟩⟩
  ·show some (if _ then _ else _,st')=_
   rw[if_pos (by exact Int.natCast_pos.mpr (uq n)),show((n+1:Nat):Int) -1=(n:Int) by exact Int.add_sub_cancel (n:Int) 1]
  ·show qX W st' (.one (.int a)) (.one (.int (a+(0:Int))))
   rw[xO];exact .one (.int _)
  ·have:=J (a+1) st'
   rw[br];rw[show((λj:Nat=>Ai.one (.int (a+(j:Int))))∘sH)=λj:Nat=>Ai.one (.int (a+1+(j:Int)))from funext λj=>by
    show Ai.one _=Ai.one _;congr 2
    simp;exact((Q2 ..).symm.trans (PM ..))]
   exact this
theorem SN{W:List Nat}{ks:List Nat}{l:Nat}(hl:l∉W){xs:List AV}:∀{J:List AV}{ds:List aB}{i:Nat}{st:St},st[l]?=some (.list xs)->xs.drop i=J->aQ W st J ds->Yl W (.names ks) ((ds.zipIdx i).map λp=>.two (.int (p.2:Nat)) p.1) st (.enum l i):=by
 intro J;induction J with
 |nil=>
  intro ds i st e hd r;cases r
  refine⟨rfl,λst' k=>?_⟩;show(bF st' l).map _=_;rw[dC (k.cW hl e),bz,oR (by simpa using hd)];rfl
 |cons y J N=>
  intro ds i st e hd r;cases r with
  |cons a b=>
   have hi:xs[i]?=some y:=by rw[<-lD,hd];rfl
   refine⟨rfl,λst' k=>⟨.two (.int i) y,.enum l (i+1),?_,.two (.int _) (RV.keep k a),N (k.cW hl e) (by rw[<-me,hd];rfl) (aQ.keep k b)⟩⟩;show(bF st' l).map _=_;rw[dC (k.cW hl e),bz,hi];rfl
theorem UB{W:List Nat}{ks:List Nat}{l m:Nat}(hl:l∉W)(hm:m∉W){xs N:List AV}:∀{us vs:List AV}{ds es:List aB}{i:Nat}{st:St},st[l]?=some (.list xs)->st[m]?=some (.list N)->xs.drop i=us->N.drop i=vs->aQ W st us ds->aQ W st vs es->
 Yl W (.names ks) ((ds.zip es).map λp=>.two p.1 p.2) st (.zip l m i):=by
 have nx:∀(i:Nat)(st:St),st[l]?=some (.list xs)->st[m]?=some (.list N)->(It.zip l m i).next st=some ((xs[i]?).bind λv=>(N[i]?).map λw=>(.two v w,.zip l m (i+1)),st):=λi st e f=>by
  show(bF st l).bind _=_;rw[dC e];show(bF st m).map _=_;rw[dC f];rfl
 intro us;induction us with
 |nil=>
  intro vs ds es i st e f hd J r R;cases r
  exact⟨rfl,λst' k=>by rw[nx i st' (k.cW hl e) (k.cW hm f),oR (by simpa using hd)];rfl⟩
 |cons u us S=>
  intro vs ds es i st e f hd J r R;have hi:xs[i]?=some u:=by rw[<-lD,hd];rfl
  cases R with
  |nil=>
   cases r with
   |cons a b=>exact⟨rfl,λst' k=>by rw[nx i st' (k.cW hl e) (k.cW hm f),hi,oR (by simpa using J)];rfl⟩
  |cons U b'=>
   rename_i v Y vs es;have O:N[i]?=some v:=by rw[<-lD,J];rfl
   cases r with
   |cons a b=>
    exact⟨rfl,λst' k=>⟨.two u v,.zip l m (i+1),by rw[nx i st' (k.cW hl e) (k.cW hm f),hi,O];rfl,.two (RV.keep k a) (RV.keep k U),S (k.cW hl e) (k.cW hm f) (by rw[<-me,hd];rfl) (by rw[<-me,J];rfl) (aQ.keep k b) (aQ.keep k b')⟩⟩
theorem range_any(k:Int)(st:St)(h:fZ k=true):BP [.int k] st=some (.range 0 (if 0<k then k else 0) 1,st):=if_pos h
theorem zY(n:Nat)(h:n<=16777216):fZ (n:Int)=true:=by
 unfold fZ;rw[oS];exact⟨decide_eq_true (by exact eA _),decide_eq_true (by exact xt (lC.mpr h) (by decide))⟩
theorem Py(n:Nat)(st:St)(h:n<=16777216):cR [.int n] st=some (.range 0 n 1,st):=by
 refine(congrArg (λz=>Option.or z (ye [.int n] st)) (range_any n st (zY n h))).trans ?_;by_cases h0:0<(n:Int)
 ·exact congrArg (λz:Int=>some (It.range 0 z 1,st)) (if_pos h0)
 ·exact congrArg (λz:Int=>some (It.range 0 z 1,st)) ((if_neg h0).trans (by exact Int.le_antisymm (eA _) (h_.mp h0)))
noncomputable def fg(W:List Nat)(G:Gm)(tg:b7)(fi:aj->St->Option (It×St))(as:List Ai):Prop:=∀(F:aj)(st:St),GR W G F st->Ok (fi F st) λq=>aN [] st q.2/\Yl W tg as q.2 q.1
section
variable{W:List Nat}{G:Gm}
theorem iC{tg:b7}{f:EM}{ds:List aB}(hf:bh W G f (.list ds))(ht:tg.fits (.list 0 0)=true):fg W G tg (bL f) (ds.map .one):=λ_ _ O=>Ok.bind' ((hf _ _ O).mono λp N=>by
 obtain⟨v,st⟩:=p;refine fF ((show RV W st v (.list ds)from N.2).l') λl xs J n e r=>?_;subst J;exact Ok.fK (Ok.of (show nu (.ref l) st=some (.list l 0) by
  show((bF st l).map _).or _=_;rw[dC e];rfl) ⟨N.1,HG ht n e rfl r⟩))
theorem Iy{k:Nat}{f:EM}{ds:List aB}(hf:bh W G f (.tuple ds)):fg W G (.name k) (bL f) (ds.map .one):=λ_ _ N=>Ok.bind' ((hf _ _ N).mono λp J=>by
 obtain⟨v,st⟩:=p;obtain⟨l,xs,rfl,n,e,r⟩:=(show RV W st v (.tuple ds)from J.2).t';exact Ok.fK (Ok.of (show nu (.ref l) st=some (.tup l 0) by
  show((bF st l).map _).or ((eo st l).map _)=_;rw[kM e,show bF st l=none by unfold bF;rw[e];rfl];rfl) ⟨J.1,Wj n e rfl r⟩))
theorem TL{k:Nat}{f:EM}{x:List Nat}(hf:bh W G f (.str (T x))):fg W G (.name k) (bL f) (x.map λc=>.one (.str (T [c]))):=λ_ _ N=>Ok.bind' ((hf _ _ N).mono λp J=>by
 obtain⟨v,st⟩:=p;cases(show RV W st v (.str (T x))from J.2).s'
 exact Ok.fK (Ok.of (show nu (.str (T x)) st=some (.str (T x) 0)from rfl) ⟨J.1,I5 rfl⟩))
theorem oO{k:Nat}{fa}{n:Nat}(J:jw W G fa [.int (n:Nat)])(N:n<=16777216):fg W G (.name k) (bC cR fa) ((cE n).map λ(j:Nat)=>.one (.int (j:Int))):=λ_ _ O=>Ok.bind' ((J _ _ O).mono λp R=>by
 obtain⟨xs,st⟩:=p;obtain⟨S,r⟩:=R;cases r with
 |cons a b=>
  cases a.i'
  cases b
  have:=Fw (W:=W) (k:=k) n 0 st;rw[show(λj:Nat=>Ai.one (.int (0+(j:Int))))=λj:Nat=>Ai.one (.int (j:Int))from funext λj=>by rw[GZ]]at this;have e:=Py n st N;show Ok (cR [.int (n:Nat)] st) _;generalize cR [.int (n:Nat)] st=z at e ⊢;exact Ok.of e ⟨S,this⟩)
theorem xw{ks:List Nat}{fa}{ds:List aB}(J:jw W G fa [.list ds]):fg W G (.names ks) (bC lW fa) ((ds.zipIdx 0).map λp=>.two (.int (p.2:Nat)) p.1):=λ_ _ N=>Ok.bind' ((J _ _ N).mono λp O=>by
 obtain⟨xs,st⟩:=p;obtain⟨R,r⟩:=O;cases r with
 |cons a b=>
  obtain⟨l,S,rfl,n,e,r⟩:=a.l';cases b
  exact Ok.of (show lW [.ref l] st=some (.enum l 0,st) by
   show(bF st l).map _=_;rw[dC e];rfl) ⟨R,SN n e rfl r⟩)
theorem pn{ks:List Nat}{fa}{ds es:List aB}(O:jw W G fa [.list ds,.list es]):fg W G (.names ks) (bC fP fa) ((ds.zip es).map λp=>.two p.1 p.2):=λ_ _ R=>Ok.bind' ((O _ _ R).mono λp S=>by
 obtain⟨xs,st⟩:=p;obtain⟨U,r⟩:=S;cases r with
 |cons a b=>
  refine fF a.l' λl ys J n e r=>?_;subst J;cases b with
  |cons a b=>
   refine fF a.l' λm zs J Y N r'=>?_;subst J;cases b
   exact Ok.of (show fP [.ref l,.ref m] st=some (.zip l m 0,st) by
    show(bF st l).bind _=_;rw[dC e];show(bF st m).map _=_;rw[dC N];rfl) ⟨U,UB n Y e N rfl rfl r r'⟩)
end
inductive gT:b7->Ai->Gm->Gm->Prop
 |one {k:Nat} {d:aB} {G:Gm}:G k=none->gT (.name k) (.one d) G (G.put k (.d d))
 |two {j k:Nat} {a b:aB} {G:Gm}:G j=none->G k=none->gT (.names [j,k]) (.two a b) G ((G.put j (.d a)).put k (.d b))
 |JN {j k:Nat} {a b:aB} {G:Gm}:G j=none->G k=none->gT (.names [j,k]) (.one (.tuple [a,b])) G ((G.put j (.d a)).put k (.d b))
 |vV {i j k:Nat} {a b c:aB} {G:Gm}:G i=none->G j=none->G k=none->gT (.names [i,j,k]) (.one (.tuple [a,b,c])) G (((G.put i (.d a)).put j (.d b)).put k (.d c))
theorem Gm.Cw{G:Gm}{k j:Nat}{p q:Vl}(h:G k=none)(e:G j=some q):G.put k p j=some q:=by
 rw[Gm.put,if_neg (λz=>by rw[z,h]at e;cases e)];exact e
theorem GR.le{W:List Nat}{G G':Gm}{F:aj}{st:St}(h:GR W G' F st)(le:∀j q,G j=some q->G' j=some q):GR W G F st:=⟨h.bd,λj q e=>h.at' j q (le j q e)⟩
theorem Gm.yg{G:Gm}{i k j:Nat}{p r q:Vl}(hi:G i=none)(hk:G k=none)(e:G j=some q):(G.put i p).put k r j=some q:=by
 rw[Gm.put,if_neg (λz=>by rw[z,hk]at e;cases e)];exact Gm.Cw hi e
theorem gT.le{tg:b7}{a:Ai}{G G':Gm}(h:gT tg a G G'):∀j q,G j=some q->G' j=some q:=by
 cases h with
 |one h=>exactλj q e=>Gm.Cw h e
 |two h1 h2=>exactλj q e=>Gm.yg h1 h2 e
 |JN h1 h2=>exactλj q e=>Gm.yg h1 h2 e
 |vV h1 h2 h3=>exactλj q e=>by rw[Gm.put,if_neg (λz=>by rw[z,h3]at e;cases e)];exact Gm.yg h1 h2 e
theorem gT.ok{W:List Nat}{tg:b7}{a:Ai}{G G':Gm}(h:gT tg a G G'){F:aj}{st:St}{item:Item}(s:qX W st item a)(g:GR W G F st):Ok (tg.bind item F st) λF1=>GR W G' F1 st:=by
 cases h with
 |one h=>
  cases s with
  |one r=>exact g.put (p:=.d _) r
 |two h1 h2=>
  cases s with
  |two r O=>exact(g.put (p:=.d _) r).put (p:=.d _) O
 |JN h1 h2=>
  cases s with
  |one r=>
   obtain⟨l,xs,rfl,n,e,r⟩:=r.t';show Ok ((eo st l).bind _) _;rw[kM e];cases r with
   |cons a b=>
    cases b with
    |cons J b=>
     cases b
     exact(g.put (p:=.d _) a).put (p:=.d _) J
 |vV h1 h2 h3=>
  cases s with
  |one r=>
   obtain⟨l,xs,rfl,n,e,r⟩:=r.t';show Ok ((eo st l).bind _) _;rw[kM e];cases r with
   |cons a b=>
    cases b with
    |cons J b=>
     cases b with
     |cons N b=>
      cases b
      exact((g.put (p:=.d _) a).put (p:=.d _) J).put (p:=.d _) N
noncomputable def zK(W:List Nat)(G:Gm)(em:jd)(m:Nat)(φ:List aB->List aB):Prop:=∀(acc:List AV)(ad:List aB)(F:aj)(st:St),GR W G F st->aQ W st acc ad->ad.length+m<=16777216->
 Ok (em acc F st) λq=>aN [] st q.2.2/\aQ W q.2.2 q.1 (φ ad)/\(φ ad).length <=ad.length+m/\GR W G q.2.1 q.2.2
noncomputable def nk{β:Type}(t:β->Bool)(φ:β->List aB->List aB)(bs:List β)(ad:List aB):List aB:=bs.foldl (λad b=>if t b=true then φ b ad else ad) ad
theorem yP{W:List Nat}{G:Gm}{β:Type}{tg:b7}{ti}{em:jd}{m:Nat}{mk:β->Ai}{t:β->Bool}{φ:β->List aB->List aB}:∀{bs:List β}(hb:∀b∈bs,∃G',gT tg (mk b) G G'/\fb W G' ti (t b)/\(t b=true->zK W G' em m (φ b)))
 {fuel:Nat}{it:It}{acc:List AV}{ad:List aB}{F:aj}{st:St},bs.length<fuel->Yl W tg (bs.map mk) st it->GR W G F st->aQ W st acc ad->ad.length+m*bs.length<=16777216->
 Ok (jN tg ti em fuel it acc F st) λq=>aN [] st q.2.2/\aQ W q.2.2 q.1 (nk t φ bs ad)/\GR W G q.2.1 q.2.2/\(nk t φ bs ad).length <=ad.length+m*bs.length:=by
 intro bs;induction bs with
 |nil=>
  intro hb fuel it acc ad F st hf Y g r hl;cases fuel with
  |zero=>exact absurd hf (gk _)
  |succ fuel=>
   show Ok (if tg.fits it=true then(it.next st).bind _ else none) _;rw[if_pos Y.1,Y.2 st .rfl'];exact⟨.rfl',r,g,c8 ..⟩
 |cons b bs U=>
  intro hb fuel it acc ad F st hf Y g r hl;cases fuel with
  |zero=>exact absurd hf (gk _)
  |succ fuel=>
   refine fH (Y.2 st .rfl') λitem gU hn hs Y'=>?_;refine dh (hb b (cj ..)) λG' hB hT hE=>?_;have O:=λx hx=>hb x (cw _ hx);have hm:m*(b::bs).length =m*bs.length+m:=by rw[dE,um]
   rw[hm]at hl ⊢;show Ok (if tg.fits it=true then(it.next st).bind _ else none) _;rw[if_pos Y.1,hn];show Ok ((tg.bind item F st).bind _) _;refine Ok.bind' ((hB.ok hs g).mono λF1 g1=>Ok.bind' ((hT _ _ g1).mono λu hu=>?_));let c:=u.1;let s1:=u.2;let hc:=hu.1;let N:=hu.2;have hc:c=t b:=hc;have N:aN [] st s1:=N;show Ok (if c=true then(em acc F1 s1).bind _ else jN tg ti em fuel gU acc F1 s1) _;rw[hc];have R:=g1.cZ N;have r1:=aQ.keep N.any r;cases S:t b with
   |true=>
    rw[if_pos rfl];refine Ok.bind' ((hE S _ _ _ _ R r1 (by exact aw (fW (dm ..) _) hl)).mono λe he=>?_);have:=U O (mV hf) ((Y'.keep N.any).keep he.1.any) (he.2.2.2.le hB.le) he.2.1 (by have:=he.2.2.1;exact aw (aw (iS he.2.2.1 _) (bS ((nO ..).trans (congrArg _ (gI ..))))) hl);refine this.mono λq J=>⟨(N.trans he.1).trans J.1,?_,J.2.2.1,?_⟩
    ·unfold nk;rw[mY,S];exact J.2.1
    ·have h1:=J.2.2.2
     have h2:=he.2.2.1;unfold nk at h1 ⊢;rw[mY,S];show(Hi _ (φ b ad) bs).length <=_;exact aw h1 (aw (iS he.2.2.1 _) (bS ((nO ..).trans (congrArg _ (gI ..)))))
   |false=>
    rw[if_neg d_];have:=U O (mV hf) (Y'.keep N.any) (R.le hB.le) r1 (by exact aw (fW (c8 ..) _) hl);refine this.mono λq J=>⟨N.trans J.1,?_,J.2.2.1,?_⟩
    ·unfold nk;rw[mY,S];exact J.2.1
    ·have h1:=J.2.2.2
     unfold nk at h1 ⊢;rw[mY,S];show(Hi _ ad bs).length <=_;exact aw h1 (fW (c8 ..) _)
section
variable{W:List Nat}{G:Gm}{β:Type}{fv:List Nat}{fi:aj->St->Option (It×St)}{tg:b7}{ti:aj->St->Option (Bool×St)}{t:β->Bool}{h:β->aB}{bs:List β}{mk:β->Ai}{fe:EM}
theorem CA{d:aB}(he:bh W G fe d):zK W G (a_ fe) 1 (λad=>ad++[d]):=λacc ad F st g r hl=>Ok.bind' ((he _ _ g).mono λe h=>by
 show Ok (if acc.length<=sizeLine then _ else none) _;have J:acc.length<=sizeLine:=by rw[r.len,sizeLine_eq];exact m4 hl
 rw[if_pos J];exact⟨h.1,(aQ.keep h.1.any r).app (.cons h.2 .nil),by rw[aT];exact a7 _,g.cZ h.1⟩)
theorem z6(ad:List aB):nk t (λb ad=>ad++[h b]) bs ad=ad++(bs.filter t).map h:=by
 unfold nk;induction bs generalizing ad with
 |nil=>simp
 |cons b bs J=>
  rw[mY,J];cases q:t b with
  |true=>rw[if_pos rfl,uj q,bX,dn];rfl
  |false=>rw[if_neg d_,xx (by rw[q];exact d_)]
theorem pa(hi:fg W G tg fi (bs.map mk))(hl:bs.length<400)(hb:∀b∈bs,∃G',gT tg (mk b) (G.only fv) G'/\fb W G' ti (t b)/\(t b=true->bh W G' fe (h b))):bh W G (bl fv fi tg ti (a_ fe) 400) (.list ((bs.filter t).map h)):=λ_ _ O=>
 Ok.bind' ((hi _ _ O).mono λp J=>Ok.fK ((yP (m:=1) (φ:=λb ad=>ad++[h b]) (λb m=>(hb b m).imp λG' q=>⟨q.1,q.2.1,λe=>CA (q.2.2 e)⟩) hl J.2 ((O.cZ J.1).only fv) .nil (by rw[nL,hK,AR];exact cq (du hl (by decide)))).mono λq N=>
  ⟨(J.1.trans N.1).trans (.app _),j6 N.2.2.1.bd (by have:=N.2.1;rwa[z6,ef]at this)⟩))
theorem fE(hi:fg W G tg fi (bs.map mk))(hl:bs.length<400)(hb:∀b∈bs,∃G',gT tg (mk b) (G.only fv) G'/\bh W G' fe (h b)):bh W G (bl fv fi tg bw (a_ fe) 400) (.list (bs.map h)):=λ_ _ N=>
 ((pa (t:=λ_=>true) (ti:=bw) hi hl λb m=>(hb b m).imp λG' q=>⟨q.1,BR,λ_=>q.2⟩) _ _ N).mono λq J=>by
  rw[Qc.mpr λ_ _=>rfl]at J;exact J
end
open PySem.Builtin PySem.Builtin.Str
theorem get_set(st:St)(l:Nat)(o:AO)(i:Nat):(st.set l o)[i]?=if i=l then(if l<st.length then some o else none)else st[i]?:=by
 rw[RM];by_cases h:l=i
 ·subst h;simp
 ·rw[if_neg h,if_neg (λe=>h e.symm)]
theorem mT{st:St}{i:Nat}{o:AO}(h:st[i]?=some o):i<st.length:=(fX.mp h).1
theorem Eg(g:aj->St->Option (Fl×aj×St))(F:aj)(st:St):after g (.next,F,st)=g F st:=rfl
theorem wW(t:aj->St->Option (Bool×St))(b:SM)(k:Nat)(F:aj)(st:St):lJ t b (k+1) F st=(t F st).bind λp=>if p.1 then(b F p.2).bind (after (lJ t b k))else some (.next,F,p.2):=rfl
section
variable{tg:b7}{fuel:Nat}{it gU:It}{F F1 F2:aj}{st st1 bI:St}{v:Item}(h1:tg.fits it=true)
include h1
theorem nE{b:SM}(h2:it.next st=some (some (v,gU),st1))(h3:tg.bind v F st1=some F1):cB tg b (fuel+1) it F st=(b F1 st1).bind (after (cB tg b fuel gU)):=by
 show(if tg.fits it=true then(it.next st).bind _ else _)=_;rw[if_pos h1,h2];show(tg.bind v F st1).bind _=_;rw[h3];rfl
theorem wG{b:SM}(h2:it.next st=some (none,st1)):cB tg b (fuel+1) it F st=some (.next,F,st1):=by
 show(if tg.fits it=true then(it.next st).bind _ else _)=_;rw[if_pos h1,h2];rfl
theorem Pr{b:SM}{r:AV}(h2:it.next st=some (some (v,gU),st1))(h3:tg.bind v F st1=some F1)(hb:b F1 st1=some (.ret r,F2,bI)):cB tg b (fuel+1) it F st=some (.ret r,F2,bI):=by
 rw[nE h1 h2 h3,hb];rfl
end
@[simp] theorem bP(k:Nat)(F:aj)(st:St):aa k F st=(F.lookup k).map (·,st):=rfl
@[simp] theorem cT(v:AV)(F:aj)(st:St):xk v F st=some (v,st):=rfl
@[simp] theorem d7(o)(f g:EM)(F:aj)(st:St):ay o f g F st=(f F st).bind λp=>(g F p.2).bind λq=>o p.1 q.1 q.2:=rfl
@[simp] theorem iL(o)(f g:EM)(F:aj)(st:St):aS o f g F st=(ay o f g F st).bind λp=>p.1.b?.map λb=>(b,p.2):=rfl
@[simp] theorem iN(b:Bool):(AV.bool b).b? =some b:=rfl
@[simp] theorem mG(i:Int):(AV.int i).i? =some i:=rfl
@[simp] theorem lM(t)(f:EM)(F:aj)(st:St):kj t f F st=(f F st).bind λp=>(t p.1 p.2).map (·,p.2):=rfl
@[simp] theorem W7(f g)(F:aj)(st:St):iy f g F st=(f F st).bind λp=>if p.1 then some (true,p.2)else g F p.2:=rfl
@[simp] theorem V9(t)(f g:EM)(F:aj)(st:St):gd t f g F st=(t F st).bind λp=>if p.1 then f F p.2 else g F p.2:=rfl
@[simp] theorem gF(k)(f:EM)(F:aj)(st:St):bj k f F st=(f F st).map λp=>(.next,F.put k p.1,p.2):=rfl
@[simp] theorem jJ(f:EM)(F:aj)(st:St):cy f F st=(f F st).map λp=>(.ret p.1,F,p.2):=rfl
@[simp] theorem B5(f:EM)(F:aj)(st:St):gN f F st=(f F st).map λp=>(.next,F,p.2):=rfl
@[simp] theorem Tb(F:aj)(st:St):yY F st=some (.cont,F,st):=rfl
@[simp] theorem ig(F:aj)(st:St):aC F st=some (.next,F,st):=rfl
@[simp] theorem eQ(t)(f g:SM)(F:aj)(st:St):cn t f g F st=(t F st).bind λp=>if p.1 then f F p.2 else g F p.2:=rfl
theorem cM(f g:SM)(F:aj)(st:St):ao f g F st=(f F st).bind λp=>match p.1 with|.next =>g p.2.1 p.2.2|fl=>some (fl,p.2.1,p.2.2):=rfl
@[simp] theorem pC(k)(o)(f:EM)(F:aj)(st:St):eS k o f F st=(F.lookup k).bind λx=>(f F st).bind λp=>(o x p.1 p.2).map λq=>(.next,F.put k q.1,q.2):=rfl
@[simp] theorem dI(F:aj)(st:St):ag F st=some ([],st):=rfl
@[simp] theorem eN(f:EM)(g)(F:aj)(st:St):ab f g F st=(f F st).bind λp=>(g F p.2).map λq=>(p.1::q.1,q.2):=rfl
@[simp] theorem j4(g)(fa)(F:aj)(st:St):bK g fa F st=(fa F st).bind λp=>g p.1 p.2:=rfl
@[simp] theorem iJ(rs g J fa)(F:aj)(st:St):bU rs g J fa F st=(J F st).bind λp=>(rs p.1 p.2).bind λfirst=>(fa F p.2).bind λq=>g (first++q.1) q.2:=rfl
@[simp] theorem CG(f g:EM)(F:aj)(st:St):aH f g F st=ay kQ f g F st:=rfl
@[simp] theorem Cz(f:EM)(F:aj)(st:St):jb f F st=(f F st).bind λp=>p.1.i?.map λi=>(.int (-i),p.2):=rfl
@[simp] theorem x9(fa)(F:aj)(st:St):bD fa F st=(fa F st).bind λp=>if p.1.length <=sizeLine then some (.ref p.2.length,p.2++[.list p.1])else none:=rfl
@[simp] theorem Tc(F:aj)(st:St):bb F st=some (none,st):=rfl
@[simp] theorem Sn(f:EM)(F:aj)(st:St):bY f F st=(f F st).bind λp=>p.1.i?.map λi=>(some i,p.2):=rfl
@[simp] theorem NW(f:EM)(lo hi step)(F:aj)(st:St):cH f lo hi step F st=(f F st).bind λp=>(lo F p.2).bind λa=>(hi F a.2).bind λb=>(step F b.2).bind λc=>sM p.1 a.1 b.1 c.1 c.2:=rfl
@[simp] theorem I4(f:EM)(F:aj)(st:St):bL f F st=(f F st).bind λp=>(nu p.1 p.2).map (·,p.2):=rfl
@[simp] theorem ZW(g)(fa)(F:aj)(st:St):bC g fa F st=(fa F st).bind λp=>g p.1 p.2:=rfl
@[simp] theorem Z0(F:aj)(st:St):bw F st=some (true,st):=rfl
@[simp] theorem Z1(ks)(fa)(F:aj)(st:St):vS ks fa F st=(fa F st).bind λp=>if p.1.length <=sizeLine then(F.oA ks p.1).map λF'=>(.next,F',p.2)else none:=rfl
@[simp] theorem Ii(ks)(fa)(F:aj)(st:St):pG ks fa F st=(fa F st).bind λp=>if p.1.length <=sizeLine/\p.1.length =ks.length then(F.C3 ks p.1).map λF'=>(.next,F',p.2)else none:=rfl
@[simp] theorem qB(x:ae)(st:St):jo (.str x) st=some [.str x]:=rfl
theorem sG(ks f avs st)(h:ks.length=avs.length):bG ks f avs st=(f (ks.zip avs) st).bind λp=>match p.1 with
 |.ret v=>some (v,p.2.2)
 |.next =>some (.none,p.2.2)
 |_=>none:=by
 unfold bG;rw[if_pos h];all_goals rfl
@[simp] theorem M3(x y:Int)(st:St):aX (.int x) (.int y) st=some (.int (x+y),st):=rfl
@[simp] theorem D6(x y:Int)(st:St):gM (.int x) (.int y) st=some (.int (x+y),st):=rfl
theorem I7(x y:List Nat)(st:St)(h:x.length+y.length<=16777216):vU (.str (T x)) (.str (T y)) st=some (.str (T (x++y)),st):=by
 show(if(T x).length +(T y).length <=sizeLine then _ else _)=_;rw[eR,eR,if_pos (show _<=sizeLine from h),WN]
theorem MF(x y:List Nat)(st:St)(h:x.length+y.length<=16777216):aX (.str (T x)) (.str (T y)) st=some (.str (T (x++y)),st):=by
 show(vU _ _ st).or _=_;rw[I7 x y st h];rfl
theorem z4(x y:List Nat)(st:St)(h:x.length+y.length<=16777216):gM (.str (T x)) (.str (T y)) st=some (.str (T (x++y)),st):=I7 x y st h
@[simp] theorem MI(x y:Int)(st:St):kl (.int x) (.int y) st=some (.int (x -y),st):=rfl
theorem Eo(x y:Int)(st:St)(h:y≠0):oMod (.int x) (.int y) st=some (.int (x.fmod y),st):=by
 show lA _ (if y=0 then none else _)=_;rw[if_neg h];rfl
theorem MD(x y:Int)(st:St)(h:y≠0)(h2:y.natAbs<1073741824):oDiv (.int x) (.int y) st=some (.int (x.fdiv y),st):=by
 show lA _ (if y=0 then none else if y.natAbs<1073741824 then _ else _)=_;rw[if_neg h,if_pos h2];rfl
@[simp] theorem Zs(x y:Int)(st:St):oEq (.int x) (.int y) st=some (.bool (x==y),st):=rfl
@[simp] theorem nS(x y:List Nat)(st:St):oEq (.str (T x)) (.str (T y)) st=some (.bool (x==y),st):=by
 show some (AV.bool (T x==T y),st)=_;rw[CQ]
@[simp] theorem Ao(x y:Int)(st:St):oLt (.int x) (.int y) st=some (.bool (decide (x<y)),st):=rfl
@[simp] theorem Bu(x y:Int)(st:St):l_ (.int x) (.int y) st=some (.bool (decide (y<x)),st):=rfl
@[simp] theorem Ol(x y:Int)(st:St):zL (.int x) (.int y) st=some (.bool (decide (y<=x)),st):=rfl
@[simp] theorem E0(c:Nat)(x:List Nat)(st:St):l7 (.str (T [c])) (.str (T x)) st=some (.bool (decide (c∈x)),st):=by
 show some (AV.bool (!(occurrences (T x) (T [c]) 0 (T x).length 1).isEmpty),st)=_;rw[XP]
theorem Me(x:List Nat)(k:Int)(st:St)(h:x.length*k.toNat<=1000000)(h2:x.length<=1000000)(h3:-(2^62)<=k)(J:k<2^62):
 cU (.str (T x)) (.int k) st=some (.str (T (bZ k.toNat x).flatten),st):=by
 have e:yZ (.str (T x)) (.int k) st=some (.str (T (bZ k.toNat x).flatten),st):=by
  show(if(T x).length *k.toNat<=1000000/\(T x).length <=1000000/\-(2^62)<=k/\k<2^62 then _ else _)=_;rw[eR,if_pos ⟨h,h2,h3,J⟩,Oo]
 show(yZ _ _ st).or _=_;rw[e];rfl
theorem Mh(c:Nat)(n:Nat)(st:St)(h:n<=1000000):cU (.str (T [c])) (.int n) st=some (.str (T (bZ n c)),st):=by
 rw[Me [c] n st (by simp;exact jY h) (by simp) (by exact eA _) (by exact xt (lC.mpr h) (by decide))];simp[KY]
theorem Fy{i:Nat}(h:i<2^62):fits63 (i:Int)=true:=by
 unfold fits63;rw[oS];exact⟨decide_eq_true (by exact eA _),decide_eq_true (by exact uz (m5.mpr h) (by decide))⟩
theorem NO{i:Nat}(h:i<2^62):fits63 (-(i:Int))=true:=by
 unfold fits63;rw[oS];exact⟨decide_eq_true (by exact PT (Oy (uz (m5.mpr h) (by decide)))),decide_eq_true (by exact xt (Hy (eA _)) (by decide))⟩
theorem K0(x:List Nat)(i:Nat)(c:Nat)(st:St)(h:x[i]?=some c)(hs:i<2^62):kQ (.str (T x)) (.int i) st=some (.str (T [c]),st):=by
 have q:seqIndex? (i:Int) (T x).length =some i:=FY (eA _) (by rw[eR];exact m5.mpr (fX.mp h).1);have e:Jo (.str (T x)) (i:Int) st=some (.str (T [c]),st):=by
  show((seqIndex? i (T x).length).bind ((T x).cps[·]?)).map _=_;rw[q];show((T x).cps[i]?).map _=_;rw[vq,Cb,h];rfl
 unfold kQ;rw[mG,bo,if_pos (Fy hs),e];rfl
theorem FT(xs:List AV)(l:Nat)(k:Int)(j:Nat)(v:AV)(st:St)(hl:st[l]?=some (.list xs))(hk:seqIndex? k xs.length=some j)(h:xs[j]?=some v)(hf:fits63 k=true):kQ (.ref l) (.int k) st=some (v,st):=by
 have e:JC (.ref l) k st=some (v,st):=by
  show(bF st l).bind _=_;rw[dC hl,bo,hk,bo,h];rfl
 unfold kQ;rw[mG,bo,if_pos hf,e];rfl
theorem DV(xs:List AV)(l:Nat)(i:Nat)(v:AV)(st:St)(hl:st[l]?=some (.list xs))(h:xs[i]?=some v)(hs:i<2^62):kQ (.ref l) (.int i) st=some (v,st):=
 FT xs l i i v st hl (FY (eA _) (m5.mpr (fX.mp h).1)) h (Fy hs)
theorem tX(xs:List AV)(l:Nat)(i:Nat)(v:AV)(st:St)(hl:st[l]?=some (.list xs))(h:xs[xs.length -i]?=some v)(h0:1<=i)(h1:i<=xs.length)(hs:i<2^62):kQ (.ref l) (.int (-(i:Int))) st=some (v,st):=by
 have e:seqIndex? (-(i:Int)) xs.length=some (xs.length -i):=(seqIndex_neg (by exact Int.neg_neg_of_pos (m5.mpr h0)) (by exact PT (lC.mpr h1))).trans (congrArg some (by exact YK ..));exact FT xs l _ _ v st hl e h (NO hs)
theorem VG(ts:List (List Nat))(l:Nat)(st:St)(hl:st[l]?=some (.list (ts.map λt=>.str (T t))))(h:ts.flatten.length<=16777216):qU [.str (T []),.ref l] st=some (.str (T ts.flatten),st):=by
 show(bF st l).bind _=_;rw[dC hl,bo,Ow,bo,if_pos (NG ts h),UH]
theorem t_(x:List Nat)(st:St)(h:x.length<=16777216):iv [.str (T x)] st=some (.int x.length,st):=by
 show(if(T x).length <=sizeLine then _ else _:Option _).or _=_;rw[eR,if_pos (show _<=sizeLine from h)];rfl
theorem Ea(xs:List AV)(l:Nat)(st:St)(hl:st[l]?=some (.list xs))(h:xs.length<=16777216):iv [.ref l] st=some (.int xs.length,st):=by
 show(bF st l).bind _=_;rw[dC hl];exact if_pos h
theorem r_(xs:List AV)(l:Nat)(v:AV)(st:St)(hl:st[l]?=some (.list xs))(h:xs.length<=16777216):bAppend [.ref l,v] st=some (.none,st.set l (.list (xs++[v]))):=by
 show(bF st l).bind _=_;rw[dC hl];exact if_pos h
theorem nF(xs:List AV)(l:Nat)(st:St)(hl:st[l]?=some (.list xs)):ek (.ref l) st=some [.ref l]:=by
 show(bF st l).map _=_;rw[dC hl];rfl
@[simp] theorem YQ(x:ae)(st:St):nu (.str x) st=some (.str x 0):=rfl
theorem xH(x:List Nat)(st:St)(h:x.length<=16777216):ix (.str (T x)) st=some (x.length !=0):=by
 show(if(T x).length <=sizeLine then _ else _:Option _).or _=_;rw[eR,if_pos (show _<=sizeLine from h)];rfl
@[simp] theorem wF(b:Bool)(st:St):ix (.bool b) st=some b:=rfl
@[simp] theorem xC(i:Int)(st:St):ix (.int i) st=some (i !=0):=rfl
theorem cX(F:aj)(k:Nat)(v:AV):(F.put k v).lookup k=some v:=by rw[aj.wq];simp
theorem bW(F:aj)(k:Nat)(v:AV)(j:Nat)(h:j≠k):(F.put k v).lookup j=F.lookup j:=by rw[aj.wq,if_neg h]
theorem Hk{α:Type}:∀(m a:Nat)(xs:List α),((cE m).map (a+·)).filterMap (xs[·]?)=(xs.drop a).take m:=by
 intro m;induction m with
 |zero=>
  intro a xs;simp
 |succ m J=>
  intro a xs;rw[G5,dR,List.filterMap_append,J a xs,nR];congr 1
  rw[QQ,List.map_singleton,xb];cases xs[a+m]?<;>rfl
theorem Bs{α:Type}(xs:List α)(lo hi:Option Int)(a b:Nat)(h:sliceBounds lo hi none xs.length=((a:Int),(b:Int),1)):pick xs lo hi none=(xs.drop a).take (b -a):=by
 unfold pick;rw[h];show(sliceRange (a:Int) (b:Int) 1).filterMap _=_;rw[sliceRange_one,Hk]
theorem pick_from{α:Type}(xs:List α)(i:Nat):pick xs (some (i:Int)) none none=xs.drop i:=by
 rw[Bs xs _ _ (min i xs.length) xs.length]
 ·by_cases h:i<=xs.length
  ·rw[oZ h,kv (by simp)]
  ·rw[uD (by exact ud h),mj (by exact ud h:xs.length<=i)];simp
 ·have J:¬((i:Int)<0):=by exact h_.mpr (eA _)
  simp only[sliceBounds,xr,show(1:Int)>0 by decide,if_true,J,if_false];rw[sd]
theorem SW{α:Type}(xs:List α)(i:Nat):pick xs none (some (i:Int)) none=xs.take i:=by
 rw[Bs xs _ _ 0 (min i xs.length)]
 ·by_cases h:i<=xs.length
  ·rw[oZ h];simp
  ·rw[uD (by exact ud h),kv (by exact ud h:xs.length<=i)];simp
 ·have J:¬((i:Int)<0):=by exact h_.mpr (eA _)
  simp only[sliceBounds,xr,show(1:Int)>0 by decide,if_true,J,if_false];rw[sd];rfl
theorem Nn{α β:Type}(f:α->β)(xs:List α)(lo hi st:Option Int):pick (xs.map f) lo hi st=(pick xs lo hi st).map f:=by
 unfold pick;rw[aP,List.map_filterMap];congr 1
 funext i
 simp
theorem Kq(xs:List AV)(l:Nat)(lo hi eF:Option Int)(st:St)(hl:st[l]?=some (.list xs))(h:xs.length<=16777216)(h0:eF≠some 0):
 sM (.ref l) lo hi eF st=some (.ref st.length,st++[.list (pick xs lo hi eF)]):=by
 show(bF st l).bind _=_;rw[dC hl];exact if_pos ⟨h,h0⟩
theorem NI(a b:Nat):(a:Int).fdiv (b:Int)=((a/b:Nat):Int):=by
 rw[Int.fdiv_eq_ediv_of_nonneg _ (by exact eA _)];rfl
theorem RA(a b:Nat):(a:Int).fmod (b:Int)=((a%b:Nat):Int):=by
 rw[Int.fmod_eq_emod_of_nonneg _ (by exact eA _)];rfl
theorem U9(a b:Nat)(st:St)(h:b≠0)(h2:b<1073741824):oDiv (.int a) (.int b) st=some (.int ((a/b:Nat):Int),st):=by
 rw[MD _ _ _ (by exact PH.mpr h) (by simpa using h2),NI]
theorem ID(a b:Nat)(st:St)(h:b≠0):oMod (.int a) (.int b) st=some (.int ((a%b:Nat):Int),st):=by
 rw[Eo _ _ _ (by exact PH.mpr h),RA]
theorem Hh{α β:Type}{f g:α->Option β}:∀{l:List α},(∀x∈l,f x=g x)->l.filterMap f=l.filterMap g
 |[],_=>rfl
 |x::l,h=>by rw[xb,xb,h x (cj ..),Hh λy J=>h y (cw _ J)]
theorem RX(n:Nat):(if(n:Int) -1>-1 then(n:Int) -1 - -1 - -1 -1 else 0).toNat =n:=by exact YA _
theorem RG(n k:Nat):((n:Int) -1+-1*(k:Int)).toNat =n -1 -k:=by exact zJ ..
theorem Q5{α:Type}(xs:List α):pick xs none none (some (-1))=xs.reverse:=by
 have h1:sliceBounds none none (some (-1)) xs.length=((xs.length:Int) -1,-1,-1):=by
  simp only[sliceBounds,Gy,show¬((-1:Int)>0) by decide,if_false]
 unfold pick;rw[h1];unfold sliceRange;simp only[show¬((-1:Int)>0) by decide,if_false];have h2:(if(xs.length:Int) -1>-1 then((xs.length:Int) -1 - -1 - -1 -1)/ - -1 else 0).toNat =xs.length:=by
  rw[show(- -1:Int)=1 from rfl,Int.ediv_one];exact RX _
 rw[h2,List.filterMap_map];have h3:xs.reverse=(cE xs.length).filterMap (xs.reverse[·]?):=by
  have:=Hk xs.length 0 xs.reverse;simp at this;rw[this,kv (by simp)]
 rw[h3];refine Hh λk hk=>?_;rw[mZ]at hk;rw[List.getElem?_reverse hk];show xs[((xs.length:Int) -1+-1*(k:Int)).toNat]?=_;rw[RG]
theorem WL(c:Nat)(st:St)(h:c<1114112):tC [.int c] st=some (.str (T [c]),st):=by
 show(if(decide ((c:Int)<0)||decide ((c:Int)>0x10FFFF))=false then some (AV.str ⟨#[(c:Int).toNat]⟩,st)else none)=_;rw[if_pos (by rw[Hu];exact⟨decide_eq_false (by exact h_.mpr (eA _)),decide_eq_false (by exact h_.mpr (lC.mpr (fV h)))⟩)];rfl
theorem Lf(xs:List AV)(l n:Nat)(st:St)(hl:st[l]?=some (.list xs))(h:xs.length*n<=1000000)(h2:n<1000000):cU (.ref l) (.int n) st=some (.ref st.length,st++[.list (bZ n xs).flatten]):=by
 show(bF st l).bind _=_;rw[dC hl];exact if_pos ⟨h,by exact eA _,by exact uz (m5.mpr h2) (by decide)⟩
theorem LO(xs J:List AV)(l m:Nat)(st:St)(hl:st[l]?=some (.list xs))(hm:st[m]?=some (.list J))(h:xs.length+J.length<=16777216):aX (.ref l) (.ref m) st=some (.ref st.length,st++[.list (xs++J)]):=by
 show(bF st l).bind _=_;rw[dC hl];show(bF st m).bind _=_;rw[dC hm];exact if_pos h
theorem sj(c k)(f:EM)(F:aj)(st:St):jn c k f F st=(f F st).bind λp=>(jk p.1 k p.2).bind λq=>q.2.bind λv=>if q.1=c/\handed v=true then some (v,p.2)else none:=rfl
theorem Fp{st:St}{l:Nat}{xs:List AV}(h:st[l]?=some (.list xs))(J:xs.length<=16777216):ix (.ref l) st=some (!xs.isEmpty):=by
 show(bF st l).bind _=_;rw[dC h];exact if_pos (by rw[sizeLine_eq];exact J)
theorem uc{c k:Nat}{a:AV}{st:St}(h:jk a k st=some (c,none)):f_ c k a st=some [a]:=by
 unfold f_;rw[h];exact if_pos ⟨rfl,rfl⟩
theorem M4{c f k:Nat}{fe:EM}{F:aj}{st st':St}{a:AV}(e:fe F st=some (a,st'))(h:jk a k st'=some (c,none)):sX c f k fe F st=some (.ref st'.length,st'++[.bound (.ref f) a]):=by
 unfold sX;rw[e];refine Eq.trans (b:=(jk a k st').bind _) rfl ?_;rw[h];exact if_pos ⟨rfl,rfl⟩
noncomputable abbrev sD(x:List Nat):aB:=.str (T x)
noncomputable abbrev nD(n:Nat):aB:=.int (n:Int)
section
variable{W:List Nat}
theorem lg{o:AV->AV->St->Option (AV×St)}{a b:Int}{r:AV}{d:aB}(h:∀st:St,o (.int a) (.int b) st=some (r,st))(hr:∀st,RV W st r d):cO W o (.int a) (.int b) d:=λ_ _ _ bd J N=>by
 cases J.i';cases N.i'
 exact Ok.of (h _) ⟨.rfl',hr _⟩
theorem vK{o:AV->AV->St->Option (AV×St)}{a b:List Nat}{r:AV}{d:aB}(h:∀st:St,o (.str (T a)) (.str (T b)) st=some (r,st))(hr:∀st,RV W st r d):cO W o (sD a) (sD b) d:=λ_ _ _ bd J N=>by
 cases J.s';cases N.s'
 exact Ok.of (h _) ⟨.rfl',hr _⟩
theorem yz(a b:Int):cO W aX (.int a) (.int b) (.int (a+b)):=lg (λst=>rfl) λst=>.int _
theorem mo(a b:Nat):cO W aX (nD a) (nD b) (nD (a+b)):=yz a b
theorem CJ(a b:Int):cO W kl (.int a) (.int b) (.int (a -b)):=lg (λst=>rfl) λst=>.int _
theorem iW(a b:List Nat)(h:a.length+b.length<=16777216):cO W aX (sD a) (sD b) (sD (a++b)):=vK (λst=>MF a b st h) λst=>.str _
theorem Ba(a b:List Nat)(h:a.length+b.length<=16777216):cO W gM (sD a) (sD b) (sD (a++b)):=vK (λst=>z4 a b st h) λst=>.str _
theorem kE(a b:Nat)(h:b≠0):cO W oMod (nD a) (nD b) (nD (a%b)):=lg (λst=>ID a b st h) λst=>.int _
theorem UN(a b:Int)(h:b≠0):cO W oMod (.int a) (.int b) (.int (a.fmod b)):=lg (λst=>Eo a b st h) λst=>.int _
theorem lG(a b:Nat)(h:b≠0)(h2:b<1073741824):cO W oDiv (nD a) (nD b) (nD (a/b)):=lg (λst=>U9 a b st h h2) λst=>.int _
theorem pA(a b:Int):cO W oEq (.int a) (.int b) (.bool (a==b)):=lg (λst=>rfl) λst=>.bool _
theorem UL(a b:Int):cO W c5 (.int a) (.int b) (.bool (!(a==b))):=lg (λst=>rfl) λst=>.bool _
theorem Cq(a b:List Nat):cO W oEq (sD a) (sD b) (.bool (a==b)):=vK (λst=>nS a b st) λst=>.bool _
theorem Cv(a b:List Nat):cO W c5 (sD a) (sD b) (.bool (!(a==b))):=vK (λst=>by
 show some (AV.bool (!(T a==T b)),st)=_;rw[CQ]) λst=>.bool _
theorem Jy(a b:Int):cO W oLt (.int a) (.int b) (.bool (decide (a<b))):=lg (λst=>rfl) λst=>.bool _
theorem CU(a b:Int):cO W l_ (.int a) (.int b) (.bool (decide (b<a))):=lg (λst=>rfl) λst=>.bool _
theorem O8(a b:Bool):cO W sY (.bool a) (.bool b) (.bool (!(a==b))):=λ_ _ _ bd J N=>by
 cases J.b';cases N.b'
 exact Ok.of (show sY (.bool a) (.bool b) _=some (.bool (!(a==b)),_)from rfl) ⟨.rfl',.bool _⟩
theorem Cd(c:Nat)(n:Nat)(h:n<=1000000):cO W cU (sD [c]) (nD n) (sD (bZ n c)):=λ_ _ _ bd J N=>by
 cases J.s';cases N.i'
 exact Ok.of (Mh c n _ h) ⟨.rfl',.str _⟩
theorem Tv(a b:Int)(h:(decide (fD a>shortFactorBits)&&decide (fD b>shortFactorBits)&&GJ (fD a+fD b))=false):cO W cU (.int a) (.int b) (.int (a*b)):=lg (λst=>by
 show(if(decide (fD a>shortFactorBits)&&decide (fD b>shortFactorBits)&&GJ (fD a+fD b))=false then some (AV.int (a*b),st)else none).or _=_;rw[if_pos h];rfl) λst=>.int _
theorem bits_le{x:Int}(h:x.natAbs<18446744073709551616):fD x<=64:=by
 unfold fD;split
 ·exact cJ _
 ·rename_i J
  have h0:x.natAbs≠0:=λe=>J (beq_iff_eq.mpr (Int.natAbs_eq_zero.mp e));exact(Rt h0).mpr h
theorem om(a b:Int)(h:a.natAbs<18446744073709551616):cO W cU (.int a) (.int b) (.int (a*b)):=Tv a b (by rw[show decide (fD a>shortFactorBits)=false from decide_eq_false (iH.mpr (bits_le h))];rfl)
theorem Tj(a b:Nat)(h:a<18446744073709551616):cO W cU (nD a) (nD b) (nD (a*b)):=om a b h
theorem Vk(c:Nat)(x:List Nat):cO W l7 (sD [c]) (sD x) (.bool (decide (c∈x))):=vK (λst=>E0 c x st) λst=>.bool _
theorem nY{ds es:List aB}(h:ds.length+es.length<=16777216):cO W aX (.list ds) (.list es) (.list (ds++es)):=λ_ _ _ bd O R=>by
 refine fF O.l' λl xs J n e r=>?_;subst J;refine fF R.l' λm S J Y U N=>?_;subst J;exact Ok.of (LO xs S l m _ e U (by rw[r.len,N.len];exact h)) ⟨.app _,j6 bd (r.app N)⟩
theorem aQ.rep{st:St}{xs:List AV}{ds:List aB}(r:aQ W st xs ds):∀n,aQ W st (bZ n xs).flatten (bZ n ds).flatten :=by
 intro n;induction n with
 |zero=>
  exact .nil
 |succ n J=>
  rw[se,se,gG,gG];exact r.app J
theorem Tt{ds:List aB}(n:Nat)(h:ds.length*n<=1000000)(h2:n<1000000):cO W cU (.list ds) (nD n) (.list (bZ n ds).flatten):=λ_ _ _ bd N O=>by
 refine fF N.l' λl xs J nn e r=>?_;subst J;cases O.i'
 exact Ok.of (Lf xs l n _ e (by rw[r.len];exact h) h2) ⟨.app _,j6 bd (r.rep n)⟩
theorem CO{o:AV->AV->St->Option (AV×St)}{a b r:aB}(h:∀st x y,Bd W st->RV W st x a->RV W st y b->∃v,o x y st=some (v,st)/\RV W st v r):cO W o a b r:=λ_ _ _ bd J N=>(h _ _ _ bd J N).elim λv q=>Ok.of q.1 ⟨.rfl',q.2⟩
theorem eh{ds:List aB}{d:aB}(i:Nat)(h:ds[i]?=some d)(hs:i<2^62):cO W kQ (.list ds) (nD i) d:=CO λst x y bd N O=>by
 refine fF N.l' λl xs J n e r=>?_;subst J;cases O.i'
 refine aG (r.get h) λx R S=>?_;exact⟨x,DV xs l i x _ e R hs,S⟩
theorem Sx{ds:List aB}{d:aB}(i:Nat)(h:ds[ds.length -i]?=some d)(h0:1<=i)(h1:i<=ds.length)(hs:i<2^62):cO W kQ (.list ds) (.int (-(i:Int))) d:=CO λst x y bd N O=>by
 refine fF N.l' λl xs J n e r=>?_;subst J;cases O.i'
 rw[<-r.len]at h h1;refine aG (r.get h) λx R S=>?_;exact⟨x,tX xs l i x _ e R h0 h1 hs,S⟩
theorem G0{x:List Nat}{c:Nat}(i:Nat)(h:x[i]?=some c)(hs:i<2^62):cO W kQ (sD x) (nD i) (sD [c]):=CO λst _ y bd J N=>by
 cases J.s';cases N.i'
 exact⟨_,K0 x i c _ h hs,.str _⟩
theorem Cy{a b:aB}(O:a.depth<=4/\b.depth<=4)(hs:jD a=true/\jD b=true)(ht:(∃ds,a=.list ds)\/∃ds,a=.tuple ds):cO W oEq a b (.bool (c6 a b)):=λst x y bd J R=>by
 refine Ok.of (a:=(.bool (c6 a b),st)) ?_ ⟨.rfl',.bool _⟩;show(tD x y st).map _=_;have S:∃l,x=.ref l:=by
  rcases ht with⟨ds,rfl⟩|⟨ds,rfl⟩
  ·exact J.l'.imp λl q=>q.elim λ_ q=>q.1
  ·exact J.t'.imp λl q=>q.elim λ_ q=>q.1
 refine bO S λl N=>?_;subst N;rw[show tD (.ref l) y st=some (c6 a b) by
  show Ct _ _ _=_;unfold Ct;rw[J.rd 4 O.1];show(fc st 4 y).bind _=_;rw[R.rd 4 O.2];exact if_pos (by rw[hs.1,hs.2];rfl)]
 rfl
theorem yE{a b:aB}(N:a.depth<=4/\b.depth<=4)(hs:jD a=true/\jD b=true)(ht:(∃ds,a=.list ds)\/∃ds,a=.tuple ds):cO W c5 a b (.bool (!c6 a b)):=λst x y bd O R=>by
 have h:=Cy N hs ht _ _ _ bd O R;refine dh h.get λJ e k r=>?_;obtain⟨v,s⟩:=J;refine aG (vJ e) λc S U=>?_;cases U
 have:=r.b';cases this
 exact Ok.of (show c5 x y st=some (.bool (!c6 a b),st) by show(tD x y st).map _=_;rw[S];rfl) ⟨.rfl',.bool _⟩
theorem IG{d:aB}{ds:List aB}(J:d.depth<=3/\dW ds<=3)(hs:eu ds=true/\d.canLay0=true)(S:∀st x,RV W st x d->x.s?.bind (λy=>AV.s? (.ref 0)|>.map λz=>true)=none):cO W l7 d (.list ds) (.bool (ds.any λy=>c6 y d)):=λst x y bd O R=>by
 refine fF R.l' λl xs N n e r=>?_;subst N;refine Ok.of (a:=(.bool (ds.any λy=>c6 y d),st)) ?_ ⟨.rfl',.bool _⟩;show(vT x (.ref l) st).map _=_;rw[show vT x (.ref l) st=some (ds.any λy=>c6 y d) by
  show(x.s?.bind λy=>none).or (Dv x (.ref l) st)=_;rw[show(x.s?.bind λy=>(none:Option Bool))=none by cases x.s?<;>rfl];show(bF st l).bind _=_;rw[dC e];show(xs.mapM (fc st 3)).bind _=_;rw[r.rd 3 J.2];show(fc st 3 x).bind _=_;rw[O.rd 3 J.1];exact if_pos (by rw[hs.1,hs.2,decide_eq_true (aw J.2 (by decide))];rfl)]
 rfl
theorem L7{d:aB}{ds:List aB}(N:d.depth<=3/\dW ds<=3)(hs:eu ds=true/\d.canLay0=true):cO W mz d (.list ds) (.bool (!ds.any λy=>c6 y d)):=λst x y bd O R=>by
 have h:=IG N hs (λ_ x _=>by cases x.s?<;>rfl) _ _ _ bd O R;refine dh h.get λJ e k r=>?_;obtain⟨v,s⟩:=J;refine aG (vJ e) λc S U=>?_;cases U
 have:=r.b';cases this
 exact Ok.of (show mz x y st=some (.bool (!ds.any λy=>c6 y d),st) by show(vT x y st).map _=_;rw[S];rfl) ⟨.rfl',.bool _⟩
theorem yx{x:ae}:zo W jo (.str x):=λ_ _ r=>by cases r.s';exact Ok.of (qB x _) rfl
theorem T_{ds:List aB}:zo W ek (.list ds):=λ_ _ r=>by
 refine fF r.l' λl xs J n e r=>?_;subst J;exact Ok.of (nF xs l _ e) rfl
theorem Wf{ds:List aB}:zo W vy (.tuple ds):=λst x r=>by
 refine fF r.t' λl xs J n e r=>?_;subst J;exact Ok.of (show vy (.ref l) st=some [.ref l] by
  show(eo st l).map _=_;rw[kM e];rfl) rfl
theorem tE{g:List AV->St->Option (AV×St)}{d r:aB}(h:∀st x,Bd W st->RV W st x d->Ok (g [x] st) λc=>aN [] st c.2/\RV W c.2 c.1 r):iz W g [d] r:=λ_ _ bd rs=>by
 cases rs with
 |cons a b=>cases b;exact h _ _ bd a
theorem zj{g:List AV->St->Option (AV×St)}{d e r:aB}(h:∀st x y,Bd W st->RV W st x d->RV W st y e->Ok (g [x,y] st) λc=>aN [] st c.2/\RV W c.2 c.1 r):iz W g [d,e] r:=λ_ _ bd rs=>by
 cases rs with
 |cons a b=>
  cases b with
  |cons J b=>cases b;exact h _ _ _ bd a J
theorem Ip(x:List Nat)(h:x.length<=16777216):iz W iv [sD x] (nD x.length):=tE λ_ _ bd r=>by cases r.s';exact Ok.of (t_ x _ h) ⟨.rfl',.int _⟩
theorem aQ.ints{st:St}:∀{ns:List Int}{xs:List AV},aQ W st xs (ns.map .int)->xs=ns.map .int
 |[],_,h=>by cases h;rfl
 |n::ns,_,h=>by
  cases h with
  |cons a b=>rw[a.i',b.ints];rfl
theorem aQ.strs{st:St}:∀{ts:List (List Nat)}{xs:List AV},aQ W st xs (ts.map sD)->xs=ts.map λt=>.str (T t)
 |[],_,h=>by cases h;rfl
 |n::ns,_,h=>by
  cases h with
  |cons a b=>rw[a.s',b.strs];rfl
theorem Lr(l:List Int):intsOf (l.map .int)=some l:=by
 induction l with
 |nil=>rfl
 |cons a l J=>
  show(some a).bind (λi=>(intsOf (l.map .int)).map (i::·))=_;rw[J];rfl
theorem s8{ns:List Int}:iz W fM [.list (ns.map .int)] (.int ns.sum):=tE λst x bd r=>by
 obtain⟨l,xs,rfl,n,e,r⟩:=r.l';rw[r.ints]at e;refine Ok.of (a:=(.int ns.sum,st)) ?_ ⟨.rfl',.int _⟩;show(bF st l).bind _=_;rw[dC e];show(intsOf (ns.map .int)).map _=_;rw[Lr];rfl
theorem Vw(c:Nat):iz W vZ [sD [c]] (nD c):=tE λst x bd r=>by
 cases r.s'
 refine Ok.of (a:=(.int (c:Nat),st)) ?_ ⟨.rfl',.int _⟩;show(if(T [c]).length =1 then some (AV.int ((T [c]).cps.getD 0 0:Nat),st)else none)=_;exact if_pos rfl
theorem CN(c:Nat)(h:c<1114112):iz W tC [nD c] (sD [c]):=tE λ_ _ bd r=>by cases r.i';exact Ok.of (WL c _ h) ⟨.rfl',.str _⟩
theorem yd{ts:List (List Nat)}(h:ts.flatten.length<=16777216):iz W qU [sD [],.list (ts.map sD)] (sD ts.flatten):=zj λ_ _ _ bd r N=>by
 cases r.s'
 refine fF N.l' λl xs J n e q=>?_;subst J;rw[q.strs]at e;exact Ok.of (VG ts l _ e h) ⟨.rfl',.str _⟩
theorem Ot{ds:List aB}(h:ds.length<=16777216):iz W yl [.tuple ds] (.list ds):=tE λst x bd r=>by
 obtain⟨l,xs,rfl,n,e,r⟩:=r.t';refine Ok.of (a:=(.ref st.length,st++[.list xs])) ?_ ⟨.app _,j6 bd r⟩;show(eo st l).bind _=_;rw[kM e];exact if_pos (by rw[r.len];exact h)
theorem aQ.drop'{st:St}{xs:List AV}{ds:List aB}(h:aQ W st xs ds):∀n,aQ W st (xs.drop n) (ds.drop n):=by
 induction xs generalizing ds with
 |nil=>cases h;intro n;rw[NY,NY];exact .nil
 |cons y N J=>
  intro n;cases h with
  |cons a b=>
   cases n with
   |zero=>exact .cons a b
   |succ n=>exact J b n
theorem aQ.take'{st:St}{xs:List AV}{ds:List aB}(h:aQ W st xs ds):∀n,aQ W st (xs.take n) (ds.take n):=by
 induction xs generalizing ds with
 |nil=>cases h;intro n;rw[AM,AM];exact .nil
 |cons y N J=>
  intro n;cases h with
  |cons a b=>
   cases n with
   |zero=>exact .nil
   |succ n=>exact .cons a (J b n)
theorem aQ.rev{st:St}{xs:List AV}{ds:List aB}(h:aQ W st xs ds):aQ W st xs.reverse ds.reverse:=by
 induction xs generalizing ds with
 |nil=>cases h;exact .nil
 |cons y N J=>
  cases h with
  |cons a b=>rw[BB,BB];exact(J b).app (.cons a .nil)
theorem y_{ds es:List aB}{i j k:Option Int}(h:ds.length<=16777216)(hk:k≠some 0)(J:∀{st xs},aQ W st xs ds->aQ W st (pick xs i j k) es):rl W (.list ds) i j k (.list es):=λst x bd r=>by
 obtain⟨l,xs,rfl,n,e,r⟩:=r.l';exact Ok.of (Kq xs l i j k st e (by rw[r.len];exact h) hk) ⟨.app _,j6 bd (J r)⟩
theorem yI{ds:List aB}(n:Nat)(h:ds.length<=16777216):rl W (.list ds) none (some (n:Int)) none (.list (ds.take n)):=y_ h (by decide) λr=>by rw[SW];exact r.take' n
theorem qC{ds:List aB}(n:Nat)(h:ds.length<=16777216):rl W (.list ds) (some (n:Int)) none none (.list (ds.drop n)):=y_ h (by decide) λr=>by rw[pick_from];exact r.drop' n
theorem VR{ds:List aB}(h:ds.length<=16777216):rl W (.list ds) none none (some (-1)) (.list ds.reverse):=y_ h (by decide) λr=>by rw[Q5];exact r.rev
end
end Mine
namespace Mine
open PySem PyProof.Rows PySem.W
inductive Out where
 |next (G:Gm)
 |cont (G:Gm)
 |ret (d:aB)
noncomputable def XO(W:List Nat)(o:Out)(q:Fl×aj×St):Prop:=Out.casesOn o (λG=>q.1=.next /\GR W G q.2.1 q.2.2) (λG=>q.1=.cont /\GR W G q.2.1 q.2.2) λd=>∃v,q.1=.ret v/\RV W q.2.2 v d
noncomputable def Sg(W:List Nat)(G:Gm)(f:SM)(o:Out):Prop:=∀(F:aj)(st:St),GR W G F st->Ok (f F st) λq=>aN [] st q.2.2/\XO W o q
section
variable{W:List Nat}{G G1 G2:Gm}{o:Out}
theorem fQ{k:Nat}{f:EM}{p:Vl}(h:Ev W G f p):Sg W G (bj k f) (.next (G.put k p)):=λ_ _ N=>Ok.fK ((h _ _ N).mono λq J=>⟨J.1,rfl,(N.cZ J.1).put J.2⟩)
theorem Ck{k:Nat}{op:AV->AV->St->Option (AV×St)}{f:EM}{a b r:aB}(hk:G k=some (.d a))(h:bh W G f b)(ho:cO W op a b r):Sg W G (eS k op f) (.next (G.put k (.d r))):=λ_ _ N=>
 Ok.bind' ((N.at' k _ hk).mono λx O=>Ok.bind' ((h _ _ N).mono λq J=>Ok.fK ((ho _ _ _ (N.bd.keep J.1) (RV.keep J.1.any O) J.2).mono λc hc=>⟨J.1.trans hc.1,rfl,((N.cZ J.1).cZ hc.1).put (p:=.d r) hc.2⟩)))
theorem uX{f:EM}{d:aB}(h:bh W G f d):Sg W G (cy f) (.ret d):=λ_ _ N=>Ok.fK ((h _ _ N).mono λq J=>⟨J.1,_,rfl,J.2⟩)
theorem CK:Sg W G aC (.next G):=λ_ _ J=>⟨.rfl',rfl,J⟩
theorem n_{f g:SM}(h:Sg W G f (.next G1))(h2:Sg W G1 g o):Sg W G (ao f g) o:=λ_ _ O=>Ok.bind' ((h _ _ O).mono λq J=>by
 obtain⟨fl,F,st⟩:=q;refine de J λk N g1=>?_;subst N;exact(h2 _ _ g1).mono λq J=>⟨k.trans J.1,J.2⟩)
theorem Ay{f g:SM}{d:aB}(h:Sg W G f (.ret d)):Sg W G (ao f g) (.ret d):=λ_ _ J=>Ok.bind' ((h _ _ J).mono λq N=>by
 obtain⟨fl,F,st⟩:=q;obtain⟨k,v,rfl,r⟩:=N;exact⟨k,v,rfl,r⟩)
theorem mA{f:SM}(h:Sg W G f o):Sg W G (ao f aC) o:=λ_ _ N=>Ok.bind' ((h _ _ N).mono λq J=>by
 obtain⟨fl,F,st⟩:=q;cases fl with
 |next=>exact J
 |brk=>exact J
 |cont=>exact J
 |ret v=>exact J)
theorem te{t:aj->St->Option (Bool×St)}{f g:SM}{b:Bool}(ht:fb W G t b)(h1:b=true->Sg W G f o)(h2:b=false->Sg W G g o):Sg W G (cn t f g) o:=λ_ _ N=>Ok.bind' ((ht _ _ N).mono λq J=>by
 obtain⟨c,u⟩:=q;obtain⟨rfl,k⟩:=J;cases c with
 |true=>exact(h1 rfl _ _ (N.cZ k)).mono λq J=>⟨k.trans J.1,J.2⟩
 |false=>exact(h2 rfl _ _ (N.cZ k)).mono λq J=>⟨k.trans J.1,J.2⟩)
theorem Sk{j k:Nat}{fa}{a b:aB}(O:jw W G fa [a,b]):Sg W G (pG [j,k] fa) (.next ((G.put k (.d b)).put j (.d a))):=λ_ _ J=>Ok.bind' ((O _ _ J).mono λq R=>by
 obtain⟨xs,st⟩:=q;obtain⟨N,r⟩:=R;cases r with
 |cons S r=>
  cases r with
  |cons U r=>
   cases r
   exact⟨N,rfl,((J.cZ N).put (p:=.d b) U).put (p:=.d a) S⟩)
theorem FF{j k:Nat}{fa}{a b:aB}(O:jw W G fa [a,b]):Sg W G (vS [j,k] fa) (.next ((G.put j (.d a)).put k (.d b))):=λ_ _ J=>Ok.bind' ((O _ _ J).mono λq R=>by
 obtain⟨xs,st⟩:=q;obtain⟨N,r⟩:=R;cases r with
 |cons S r=>
  cases r with
  |cons U r=>
   cases r
   exact⟨N,rfl,((J.cZ N).put (p:=.d a) S).put (p:=.d b) U⟩)
theorem K9{j k:Nat}{f:EM}{a b:aB}(h:bh W G f (.tuple [a,b])):Sg W G (BQ [j,k] f) (.next ((G.put j (.d a)).put k (.d b))):=λ_ _ J=>Ok.bind' ((h _ _ J).mono λq O=>by
 obtain⟨v,st⟩:=q;obtain⟨N,r⟩:=O;obtain⟨l,xs,rfl,n,e,r⟩:=(show RV W st v (.tuple [a,b])from r).t';refine Ok.fK ?_;show Ok ((eo st l).bind _) _;rw[kM e];cases r with
 |cons R r=>
  cases r with
  |cons S r=>
   cases r
   exact⟨N,rfl,((J.cZ N).put (p:=.d a) R).put (p:=.d b) S⟩)
theorem HX{t:aj->St->Option (Bool×St)}{b:SM}{n:Nat}(ht:fb W G t true)(hb:Sg W G b (.next G1))(h:Sg W G1 (lJ t b n) o):Sg W G (lJ t b (n+1)) o:=λ_ _ N=>Ok.bind' ((ht _ _ N).mono λq J=>by
 obtain⟨c,u⟩:=q;obtain⟨rfl,k⟩:=J;refine Ok.bind' ((hb _ _ (N.cZ k)).mono λq J=>?_);obtain⟨fl,F,st⟩:=q;obtain⟨O,rfl,g1⟩:=J;exact(h _ _ g1).mono λq J=>⟨(k.trans O).trans J.1,J.2⟩)
theorem SK{t:aj->St->Option (Bool×St)}{b:SM}{n:Nat}(ht:fb W G t false):Sg W G (lJ t b (n+1)) (.next G):=λ_ _ J=>Ok.bind' ((ht _ _ J).mono λq N=>by
 obtain⟨c,u⟩:=q;obtain⟨rfl,k⟩:=N;exact⟨k,rfl,J.cZ k⟩)
end
inductive pO:b7->Ai->Gm->Gm->Prop
 |one {k:Nat} {d:aB} {G:Gm}:pO (.name k) (.one d) G (G.put k (.d d))
 |two {j k:Nat} {a b:aB} {G:Gm}:pO (.names [j,k]) (.two a b) G ((G.put j (.d a)).put k (.d b))
 |vV {i j k:Nat} {a b c:aB} {G:Gm}:pO (.names [i,j,k]) (.one (.tuple [a,b,c])) G (((G.put i (.d a)).put j (.d b)).put k (.d c))
theorem pO.ok{W:List Nat}{tg:b7}{a:Ai}{G G':Gm}(h:pO tg a G G'){F:aj}{st:St}{item:Item}(s:qX W st item a)(g:GR W G F st):Ok (tg.bind item F st) λF1=>GR W G' F1 st:=by
 cases h with
 |one=>
  cases s with
  |one r=>exact g.put (p:=.d _) r
 |two=>
  cases s with
  |two r N=>exact(g.put (p:=.d _) r).put (p:=.d _) N
 |vV=>
  cases s with
  |one r=>
   obtain⟨l,xs,rfl,n,e,r⟩:=r.t';show Ok ((eo st l).bind _) _;rw[kM e];cases r with
   |cons a b=>
    cases b with
    |cons O b=>
     cases b with
     |cons J b=>
      cases b
      exact((g.put (p:=.d _) a).put (p:=.d _) O).put (p:=.d _) J
section
variable{W:List Nat}
theorem IM{tg:b7}{b:SM}{P:Fl×aj×St->Prop}(I:List Ai->aj->St->Prop):
 ∀(as:List Ai)(n:Nat){it:It}{F:aj}{st:St},as.length<n->Yl W tg as st it->I as F st->
 (∀a as F st,I (a::as) F st->∀item,qX W st item a->Ok (tg.bind item F st) λF1=>Ok (b F1 st) λq=>(q.1=.next \/q.1=.cont)/\aN W st q.2.2/\I as q.2.1 q.2.2)->
 (∀F st,I [] F st->P (.next,F,st))->Ok (cB tg b n it F st) P:=by
 intro as;induction as with
 |nil=>
  intro n it F st J Y h hs hf;cases n with
  |zero=>exact absurd J (gk _)
  |succ n=>
   rw[wG Y.1 (Y.2 st .rfl')];exact hf F st h
 |cons a as N=>
  intro n it F st J Y h hs hf;cases n with
  |zero=>exact absurd J (gk _)
  |succ n=>
   refine fH (Y.2 st .rfl') λitem gU e s O=>?_;refine aG ((hs a as F st h item s).get) λF1 R h1=>?_;rw[nE Y.1 e R];refine Ok.bind' (h1.mono λq S=>?_);obtain⟨fl,F2,bI⟩:=q;obtain⟨z,k,hI⟩:=S;rcases z with z|z
   ·cases(show fl=.next from z)
    exact N n (mV J) (O.keep k) hI hs hf
   ·cases(show fl=.cont from z)
    exact N n (mV J) (O.keep k) hI hs hf
theorem ym{G:Gm}{tg:b7}{fi}{b:SM}{as:List Ai}(J:List Ai->Gm)(hi:fg W G tg fi as)(h0:J as=G)(hl:as.length<400)(hs:∀a r,a::r<:+ as->∃G1,pO tg a (J (a::r)) G1/\Sg W G1 b (.next (J r))):
 Sg W G (λF st=>(fi F st).bind λp=>cB tg b 400 p.1 F p.2) (.next (J [])):=λF st O=>Ok.bind' ((hi _ _ O).mono λp R=>by
 let it:=p.1;let st1:=p.2;let S:=R.1;let Y:=R.2;refine IM (W:=W) (λr F st'=>r<:+ as/\aN [] st st'/\GR W (J r) F st') as 400 hl Y ⟨List.suffix_refl _,S,h0▸O.cZ S⟩ (λa r F st' h item s=>?_) λF st' h=>⟨h.2.1,rfl,h.2.2⟩;refine de h λhr k g=>?_;refine aG (hs a r hr) λG1 hB U=>?_;refine(hB.ok s g).mono λF1 g1=>(U _ _ g1).mono λq N=>⟨.inl N.2.1,N.1.any,(List.suffix_cons ..).trans hr,k.trans N.1,N.2.2⟩)
noncomputable def Gz:List Nat->List aB->Gm
 |k::ks,d::ds=>λj=>if j=k then some (.d d)else Gz ks ds j
 |_,_=>λ_=>none
theorem Jp{st:St}(bd:Bd W st):∀{ks:List Nat}{xs:List AV}{ds:List aB},aQ W st xs ds->ks.length=ds.length->GR W (Gz ks ds) (ks.zip xs) st
 |[],_,_,h,e=>⟨bd,λj p q=>by cases q⟩
 |k::ks,_,[],h,e=>by cases e
 |k::ks,_,d::ds,h,e=>by
  cases h with
  |cons a b=>
   have J:=Jp bd b (ux e);refine⟨bd,λj p q=>?_⟩;rw[ku,eK];replace q:(if j=k then some (.d d)else Gz ks ds j)=some p:=q;by_cases z:j=k
   ·rw[if_pos z]at q
    cases q
    rw[beq_iff_eq.mpr z];exact a
   ·rw[if_neg z]at q
    rw[beq_false_of_ne z];exact J.at' j p q
theorem Cj{ks:List Nat}{f:SM}{ds:List aB}{d:aB}(hk:ks.length=ds.length)(h:Sg W (Gz ks ds) f (.ret d)):iz W (bG ks f) ds d:=λst xs bd r=>by
 rw[sG _ _ _ _ (by rw[hk,r.len])];refine Ok.bind' ((h _ _ (Jp bd r hk)).mono λq N=>?_);obtain⟨fl,F,st⟩:=q;refine tc N λk v J r=>?_;subst J;exact⟨k,r⟩
end
open PySem.Builtin PySem.Builtin.Str
section
variable{W:List Nat}{G:Gm}
theorem dg{s:ae}{x:List Nat}(h:s=T x):bh W G (xk (.str s)) (sD x):=h▸Vv _
theorem aW(n:Nat):bh W G (xk (.int (n:Int))) (nD n):=gL _
noncomputable def dT(set:List Nat)(c:Nat):List Nat:=if c∈set then[92,c]else[c]
noncomputable def jx(x:List Nat)(kind:Nat):List Nat:=
 if kind=1 then[34]++(x.map (dT [34,92])).flatten ++[34]
 else(if kind=2\/x.headD 0=34 then[92,x.headD 0]else dT [92,32] (x.headD 0))++((x.drop 1).map (dT [92,32])).flatten
theorem BZ(set:List Nat)(c:Nat):(dT set c).length <=2:=by unfold dT;split;exact a7 2;exact oW 1
theorem xE(set:List Nat)(x:List Nat):(x.map (dT set)).flatten.length <=2*x.length:=by
 induction x with
 |nil=>exact a7 _
 |cons c x J=>
  have:=BZ set c;rw[bX,gG,aT,dE];exact aw (fU this J) (bS (gI ..))
theorem EY{set x:List Nat}{lit:ae}(J:lit=T set)(N:x.length<400)(O:G 14=some (.d (sD x))):
 bh W G (bl [] (bL (aa 14)) (.name 17) bw (a_ (gd (aS l7 (aa 17) (xk (.str lit))) (ay aX (xk (.str ("\\":ae))) (aa 17)) (aa 17))) 400) (.list ((x.map (dT set)).map sD)):=by
 rw[br];refine fE (mk:=λc=>.one (.str (T [c]))) (h:=sD∘dT set) (TL (az O)) N λc hc=>⟨_,.one rfl,?_⟩;refine qK (d6 (az rfl) (dg J) (Vk c set)) (λh=>?_) λh=>?_
 ·rw[QA,dT,if_pos (of_decide_eq_true h)]
  exact aM (dg pX) (az rfl) (iW [92] [c] (show 2<=16777216 by decide))
 ·rw[QA,dT,if_neg (of_decide_eq_false h)]
  exact az rfl
theorem LH{x:List Nat}{kind:Nat}(J:1<=x.length/\x.length<400):iz W (bG [14,15] tT) [sD x,nD kind] (sD (jx x kind)):=by
 have cast:∀b:Nat,(((kind:Nat):Int)==((b:Nat):Int))=decide (kind=b):=λb=>qi.mpr (by rw[beq_iff_eq,decide_eq_true_iff];exact Nj);have l1:=xE [34,92] x;refine Cj (ks:=[14,15]) (ds:=[sD x,nD kind]) rfl ?_;by_cases hk:kind=1
 ·refine Ay (te (d6 (az rfl) (aW 1) (pA _ _)) (λ_=>Ay (uX ?_)) λh=>by rw[cast 1,decide_eq_true hk]at h;cases h)
  rw[jx,if_pos hk];exact aM (aM (dg v8) (so (dg lX) yx (aE (EY XN J.2 rfl) be) (yd (by exact dbl l1 J.2 (by decide)))) (iW _ _ (by exact dx (a7 1) (dbl l1 J.2 (a7 _)) (by decide)))) (dg v8) (iW _ _ (by rw[aT,hU];exact dx (dx (a7 1) (dbl l1 J.2 (a7 _)) (a7 _)) (a7 1) (by decide)))
 ·refine n_ (te (o:=.next _) (d6 (az rfl) (aW 1) (pA _ _)) (λh=>by rw[cast 1,decide_eq_false hk]at h;cases h) λ_=>CK) ?_
  refine n_ (fQ (EY X7 J.2 rfl)) (mA (uX ?_));rw[jx,if_neg hk];cases x with
  |nil=>exact absurd J.1 (by decide)
  |cons c r=>
   have l2:=xE [92,32] r;have hl:r.length<400:=Aj J.2;have it:∀G:Gm,G 14=some (.d (sD (c::r)))->bh W G (aH (aa 14) (xk (.int 0))) (sD [c]):=λG h=>aM (az h) (aW 0) (G0 (x:=c::r) 0 rfl (by decide));have hd:(c::r).headD 0=c:=rfl;rw[hd];refine aM (a:=sD (if kind=2\/c=34 then[92,c]else dT [92,32] c)) (b:=sD (r.map (dT [92,32])).flatten) (qK (b:=decide (kind=2)||(([c]:List Nat)==[34]||false)) (sT (d6 (az rfl) (aW 2) (cast 2▸pA _ _)) λ_=>sT (d6 (it _ rfl) (dg v8) (Cq _ _)) λ_=>uf) (λh=>?_) λh=>?_) (so (dg lX) yx (aE (iT (az rfl) (fS (aW 1)) dO dO (qC 1 (by rw[aP,aP];exact aw (cq J.2) (by decide)))) be) (yd (ts:=r.map (dT [92,32])) (by exact dbl l2 hl (by decide)))) (iW _ _ ?_)
   ·have:kind=2\/c=34:=by simpa using h
    rw[if_pos this];exact aM (dg pX) (it _ rfl) (iW [92] [c] (show 2<=16777216 by decide))
   ·have:¬(kind=2\/c=34):=by
     intro z
     have:(decide (kind=2)||(([c]:List Nat)==[34]||false))=true:=by simpa using z
     rw[this]at h;cases h
    rw[if_neg this];exact aM (az rfl) (aW 0) (eh (ds:=((c::r).map (dT [92,32])).map sD) 0 rfl (by decide))
   ·have:=BZ [92,32] c
    split
    ·rw[dE,hU];exact dx (a7 2) (dbl l2 hl (a7 _)) (by decide)
    ·exact dx this (dbl l2 hl (a7 _)) (by decide)
end
noncomputable def dig(N:Nat):List Nat:=if N<64 then[]else if N<4096 then[N/64]else if N<262144 then[N/64%64,N/4096]else[N/64%64,N/4096%64,N/262144]
noncomputable def more(f:Nat):Nat:=64+f/2*128
noncomputable def dD(N f:Nat):List Nat:=bZ (f%2) (more f)++((dig N).map (more f+·)).reverse ++[128+N%64]
theorem CB{N:Nat}(h:N<16777216):∀d∈dig N,d<64:=by
 intro d hd;unfold dig at hd;split at hd
 ·simp at hd
 ·split at hd
  ·simp at hd;exact hd▸rU ‹N<4096›
  ·have m:=λx=>cF x (y:=64) (by decide)
   split at hd
   ·simp at hd;exact hd.elim (λe=>e▸m _) λe=>e▸rU ‹N<262144›
   ·simp at hd;exact hd.elim (λe=>e▸m _) λe=>e.elim (λe=>e▸m _) λe=>e▸rU h
theorem BG(N:Nat):(dig N).length <=3:=by unfold dig;split<;>(try split)<;>(try split)<;>simp
theorem WY(j:Nat)(h:j<4)(st:St):ja (.int 64) (.int j) st=some (.int ((64^j:Nat):Int),st):=by
 have:j=0\/j=1\/j=2\/j=3:=by exact yp h
 rcases this with rfl|rfl|rfl|rfl<;>rfl
theorem vz:∀m∈[64,192,128],∀d:Nat,d<64->gY ((m+d:Nat):Int) 63=(d:Nat):=by decide+kernel
theorem CS:∀m∈[64,192],∀d:Nat,d<64->gY ((m+d:Nat):Int) 64=64:=by decide+kernel
theorem II:∀d:Nat,d<64->gY ((128+d:Nat):Int) 64=0:=by decide+kernel
theorem Et(a b:Nat):Bw (a:Int) (b:Int)=((a||| b:Nat):Int):=by
 unfold Bw gY;have J:¬(0<=rT (a:Int)):=by unfold rT;exact ug.mpr (PI (Hy (eA _)))
 have hb:¬(0<=rT (b:Int)):=by unfold rT;exact ug.mpr (PI (Hy (eA _)))
 have na:∀i:Int,rT (rT i)=i:=by intro i;unfold rT;lia
 simp[J,hb,na]
theorem FC(a d:Nat)(h:d<64):a*64||| d=a*64+d:=by
 have:=Nat.shiftLeft_add_eq_or_of_lt (i:=6) h a;rw[Nat.shiftLeft_eq]at this;exact this.symm
theorem CR(v:Nat)(st:St)(h:v<=16777216):nr (.int v) (.int 6) st=some (.int ((v*64:Nat):Int),st):=by
 unfold nr nj;rw[mG,bo,mG,bo];show lA _ (if(0:Int)<=6/\(fD (v:Int):Int)+6<=2^27 then _ else none)=_;have hb:fD (v:Int)<=64:=by
  unfold fD;split
  ·exact cJ _
  ·rename_i h0
   have:v≠0:=by intro e;subst e;simp at h0
   have J:v<2^25:=by exact bQ h (by decide)
   have:=(Rt this (k:=25)).mpr J;simp;exact cq (cK this (by decide))
 rw[if_pos ⟨by decide,by exact p9 (AQ (lC.mpr hb) 6) (by decide)⟩];simp
theorem yw(st:St)(it l i:Nat)(xs:List AV)(v:AV)(hl:st[l]?=some (.list xs))(hi:st[it]?=some (.c_ l i))(hv:xs[i]?=some v):mH [.ref it] st=some (v,st.set it (.c_ l (i+1))):=by
 show(st[it]?).bind _=_;rw[hi];show(bF st l).bind _=_;rw[dC hl];show(xs[i]?).map _=_;rw[hv];rfl
noncomputable def i_(ds:List Nat)(v:Nat):Nat:=ds.foldl (λv d=>v*64+d) v
theorem HY:∀(ds:List Nat)(v:Nat),v<=i_ ds v:=by
 intro ds;induction ds with
 |nil=>
  intro v;exact a7 _
 |cons d ds J=>
  intro v;have:=J (v*64+d);show v<=i_ ds (v*64+d);exact aw (aw (Nat.le_mul_of_pos_right v (by decide)) (c8 _ d)) this
theorem pB(x y:Int)(st:St):oB (.int x) (.int y) st=some (.int (gY x y),st):=rfl
theorem Je(x y:Int)(st:St):zB (.int x) (.int y) st=some (.int (Bw x y),st):=rfl
theorem Rf(m:Nat)(hm:m∈[64,192])(it l:Nat)(xs rest:List AV)(J:Nat)(O:J<64):∀(hs:List Nat)(fuel i v c:Nat)(F:aj)(st:St),hs.length+2<=fuel->i_ (hs++[J]) v<=16777216->c<64->(∀d∈hs,d<64)->
 it≠l->st[l]?=some (.list xs)->st[it]?=some (.c_ l i)->xs.drop i=((hs.map (m+·))++[128+J]).map (λb:Nat=>AV.int b)++rest->F.lookup 5=some (.ref it)->F.lookup 7=some (.int (m+c:Nat))->F.lookup 6=some (.int v)->
 ∃F',lJ (kj ix (ay oB (aa 7) (xk (.int 64)))) (ao (eS 6 nr (xk (.int 6))) (ao (bj 7 (bK mH (ab (aa 5) ag))) (ao (eS 6 zB (ay oB (aa 7) (xk (.int 63)))) aC))) fuel F st=
  some (.next,F',st.set it (.c_ l (i+hs.length+1)))/\F'.lookup 6=some (.int (i_ (hs++[J]) v:Nat)):=by
 intro hs;induction hs with
 |nil=>
  intro fuel i v c F st hf hv hc hd R hl hi hx h5 h7 h6;obtain⟨k,rfl⟩:∃k,fuel=k+2:=⟨fuel -2,by exact(qc hf).symm⟩;have S:xs[i]?=some (.int ((128+J:Nat):Int)):=by rw[<-lD,hx];rfl
  have hn:=yw st it l i xs _ hl hi S;have U:=CR v st (by have:=HY ([]++[J]) v;exact aw this hv);have q1:∀(F:aj)(b:AV),((F.put 6 b).put 7 (.int ((128+J:Nat):Int))).lookup 6=some b:=λF b=>by rw[bW _ _ _ _ (by decide),cX]
  refine⟨((F.put 6 (.int ((v*64:Nat):Int))).put 7 (.int ((128+J:Nat):Int))).put 6 (.int ((v*64+J:Nat):Int)),?_,?_⟩
  ·rw[wW]
   simp(implicitDefEqProofs:=false)only[lM,d7,bP,cT,h7,bz,bo,pB,CS m hm c hc,xC];rw[if_pos (by decide)];simp(implicitDefEqProofs:=false)only[cM,pC,cT,h6,U,bz,bo,gF,j4,eN,bP,dI,bW _ 6 _ 5 (by decide),h5,hn,q1,cX,d7,pB,vz 128 (by decide) J O,Je,Et,FC v J O,ig,Eg];rw[wW];have q2:(((F.put 6 (.int ((v*64:Nat):Int))).put 7 (.int ((128+J:Nat):Int))).put 6 (.int ((v*64+J:Nat):Int))).lookup 7=some (.int ((128+J:Nat):Int)):=by rw[bW _ _ _ _ (by decide),cX]
   simp(implicitDefEqProofs:=false)only[lM,d7,bP,cT,q2,bz,bo,pB,II J O,xC];rw[if_neg (by decide)];rfl
  ·rw[cX];rfl
 |cons h hs ih=>
  intro fuel i v c F st hf hv hc hd R hl hi hx h5 h7 h6;obtain⟨k,rfl⟩:∃k,fuel=k+1:=⟨fuel -1,by simp at hf;exact(Nat.succ_pred_eq_of_pos (cK (uq _) hf)).symm⟩;have N:h<64:=hd h (cj ..);have S:xs[i]?=some (.int ((m+h:Nat):Int)):=by rw[<-lD,hx];rfl
  have hn:=yw st it l i xs _ hl hi S;have U:=CR v st (by have:=HY (h::hs++[J]) v;exact aw this hv);have Y:gY ((m+h:Nat):Int) 63=(h:Nat):=vz m (by exact(By [128] hm:m∈[64,192]++[128])) h N;have q1:∀(F:aj)(b:AV),((F.put 6 b).put 7 (.int ((m+h:Nat):Int))).lookup 6=some b:=λF b=>by rw[bW _ _ _ _ (by decide),cX]
  have Z4:it<st.length:=mT hi;obtain⟨F',h1,h2⟩:=ih k (i+1) (v*64+h) h (((F.put 6 (.int ((v*64:Nat):Int))).put 7 (.int ((m+h:Nat):Int))).put 6 (.int ((v*64+h:Nat):Int))) (st.set it (.c_ l (i+1))) (by exact fV hf)
   (by exact hv) N (λd Z5=>hd d (cw _ Z5)) R
   (by rw[get_set,if_neg (λe=>R e.symm)];exact hl) (by rw[get_set,if_pos rfl,if_pos Z4]) (by rw[<-me,hx];simp)
   (by rw[bW _ _ _ _ (by decide),bW _ _ _ _ (by decide),bW _ _ _ _ (by decide)];exact h5)
   (by rw[bW _ _ _ _ (by decide),cX]) (by rw[cX])
  refine⟨F',?_,h2⟩;rw[wW];simp(implicitDefEqProofs:=false)only[lM,d7,bP,cT,h7,bz,bo,pB,CS m hm c hc,xC];rw[if_pos (by decide)];simp(implicitDefEqProofs:=false)only[cM,pC,cT,h6,U,bz,bo,gF,j4,eN,bP,dI,bW _ 6 _ 5 (by decide),h5,hn,q1,cX,d7,pB,Y,Je,Et,FC v h N,ig,Eg];rw[h1,AW,show i+1+hs.length+1=i+(h::hs).length +1 by simp;exact hH ..]
theorem GV(N:Nat)(h:N<16777216):i_ ((dig N).reverse ++[N%64]) 0=N:=by
 have e:=λM=>NZ M 64;have J:N/64/64=N/4096:=OW ..;have O:N/4096/64=N/262144:=OW ..;unfold dig;by_cases h1:N<64
 ·simp[h1,i_]
 ·by_cases h2:N<4096
  ·simp[h1,h2,i_];exact NZ ..
  ·by_cases h3:N<262144
   ·simp[h1,h2,h3,i_];rw[<-J,e,e]
   ·simp[h1,h2,h3,i_];rw[<-O,e,<-J,e,e]
section
variable{W:List Nat}{G:Gm}
theorem cast_eq(a b:Nat):(((a:Nat):Int)==((b:Nat):Int))=decide (a=b):=qi.mpr (by rw[beq_iff_eq,decide_eq_true_iff];exact Nj)
theorem uU(a b:Nat):decide (((a:Nat):Int)<((b:Nat):Int))=decide (a<b):=decide_eq_decide.mpr m5
noncomputable def e9(N:Nat):List Nat:=((cE 4).filter λk=>decide (k=0)||(decide (0<N/64^k)||false)).map λk=>N/64^k%64
theorem ua{N:Nat}(h:N<16777216):e9 N=N%64::dig N:=by
 have r:cE 4=[0,1,2,3]:=rfl;have c:∀d,0<d->decide (0<N/d)=decide (d<=N):=λd hd=>decide_eq_decide.mpr (Nat.div_pos_iff.trans ⟨λq=>q.2,λq=>⟨hd,q⟩⟩);unfold e9 dig;rw[r];simp only[List.filter_cons,List.filter_nil,Nat.pow_zero,Nat.reducePow,c 64 (by decide),c 4096 (by decide),c 262144 (by decide),Pp,decide_true,Bool.true_or,if_true,Nat.div_one,show decide (1=0)=false from rfl,show decide (2=0)=false from rfl,show decide (3=0)=false from rfl,PK,decide_eq_true_eq];by_cases h1:N<64
 ·rw[if_neg (by exact nI h1),if_neg (by exact CC h1 (by decide)),if_neg (by exact CC h1 (by decide)),if_pos h1];simp
 ·by_cases h2:N<4096
  ·rw[if_pos (by exact fC (λq=>h1 q)),if_neg (by exact nI h2),if_neg (by exact CC h2 (by decide)),if_neg h1,if_pos h2];simp;exact rU h2
  ·by_cases h3:N<262144
   ·rw[if_pos (by exact C2 h2 (by decide)),if_pos (by exact fC (λq=>h2 q)),if_neg (by exact nI h3),if_neg h1,if_neg h2,if_pos h3];simp;exact rU h3
   ·rw[if_pos (by exact C2 h3 (by decide)),if_pos (by exact C2 h3 (by decide)),if_pos (by exact fC (λq=>h3 q)),if_neg h1,if_neg h2,if_neg h3];simp;exact rU h
theorem G6(j:Nat)(h:j<4):cO W ja (nD 64) (nD j) (nD (64^j)):=lg (λst=>WY j h st) λst=>.int _
theorem xi(j:Nat)(h:j<4):64^j≠0/\64^j<1073741824:=by
 have:j=0\/j=1\/j=2\/j=3:=by exact yp h
 rcases this with rfl|rfl|rfl|rfl<;>decide
theorem TF{N:Nat}(h:N<16777216)(f:Nat):dD N f=bZ (f%2) (more f)++(((e9 N).drop 1).map (more f+·)).reverse ++[128+(e9 N).headD 0]:=by rw[ua h];rfl
theorem Gj(l:List Nat):(l.map λc=>[c]).flatten =l:=by
 induction l with
 |nil=>rfl
 |cons a l J=>rw[bX,gG,J];rfl
theorem Ov{α:Type}(n:Nat)(x:α):(bZ n [x]).flatten =bZ n x:=by
 induction n with
 |zero=>rfl
 |succ n J=>rw[se,gG,J,se];rfl
theorem MN{N f:Nat}(h:N<16777216)(hf:f<4):iz W (bG [18,19] wg) [nD N,nD f] (sD (dD N f)):=by
 have hl:(dig N).length <=3:=BG N;have hd:=CB h;have hm:more f<=192:=by unfold more;exact dx (a7 64) (PN 128 (fV (rU (show f<2*2 from hf)))) (by decide)
 refine Cj (ks:=[18,19]) (ds:=[nD N,nD f]) rfl ?_;refine n_ (FF (a:=nD (more f)) (b:=.list ((e9 N).map nD)) (aE (aM (aW 64) (aM (aM (az rfl) (aW 2) (lG _ _ (by decide) (by decide))) (aW 128) (Tj (f/2) 128 (by exact bQ (Nat.div_le_self f 2) (du hf (by decide))))) (mo _ _)) (aE ?_ be))) (mA (uX ?_))
 ·unfold e9
  rw[br];refine pa (mk:=λj:Nat=>.one (.int (j:Int))) (h:=nD∘λk=>N/64^k%64) (oO (n:=4) (aE (aW 4) be) (by decide)) (by decide) λj O=>⟨_,.one rfl,?_,λ_=>?_⟩
  ·have O:=mZ.mp O
   exact sT (cast_eq j 0▸d6 (az rfl) (aW 0) (pA _ _)) λ_=>sT (uU 0 (N/64^j)▸d6 (aM (az rfl) (aM (aW 64) (az rfl) (G6 j O)) (lG _ _ (xi j O).1 (xi j O).2)) (aW 0) (CU _ _)) λ_=>uf
  ·have O:=mZ.mp O
   exact aM (aM (az rfl) (aM (aW 64) (az rfl) (G6 j O)) (lG _ _ (xi j O).1 (xi j O).2)) (aW 64) (kE _ _ (by decide))
 ·rw[TF h,<-Gj (bZ (f%2) (more f)++_++_)]
  have U:(e9 N).length <=4:=by rw[ua h];exact fj hl
  have hp1:(e9 N)=(e9 N).headD 0::(e9 N).drop 1:=by rw[ua h];rfl
  have J:((e9 N).drop 1).length <=3:=by exact fV U
  have hb:∀c∈bZ (f%2) (more f)++(((e9 N).drop 1).map (more f+·)).reverse ++[128+(e9 N).headD 0],c<1114112:=by
   intro c hc;rw[ei,ei,Bp,cx]at hc;rcases hc with(hc|hc)|hc
   ·rw[(oV.mp hc).2];exact bQ hm (by decide)
   ·refine aG (dy.mp hc) λd R S=>?_;subst S
    rw[ua h]at R;have:=hd d R;exact aw (fU hm this) (by decide)
   ·rw[hc,ua h]
    have:N%64<64:=cF _ (by decide);show 128+N%64<_;exact aw (fW this _) (by decide)
  have hlen:(bZ (f%2) (more f)++(((e9 N).drop 1).map (more f+·)).reverse ++[128+(e9 N).headD 0]).length <=5:=by
   rw[aT,aT,jC,wO,aP,hU]
   have:f%2<2:=cF _ (by decide);exact dx (dx (fV (cF f (by decide))) J (a7 _)) (a7 1) (by decide)
  refine so (dg lX) yx (aE (d:=.list ((_:List (List Nat)).map sD)) ?_ be) (yd (by rw[Gj];exact aw hlen (by decide)));rw[br];refine fE (mk:=λc:Nat=>.one (nD c)) (h:=sD∘λc=>[c]) (bs:=bZ (f%2) (more f)++(((e9 N).drop 1).map (more f+·)).reverse ++[128+(e9 N).headD 0]) ?_ (by exact bQ hlen (by decide)) λc hc=>⟨_,.one rfl,ia (aE (az rfl) be) (CN c (hb c hc))⟩;have:=iC (W:=W) (G:=((Gz [18,19] [nD N,nD f]).put 20 (.d (nD (more f)))).put 21 (.d (.list ((e9 N).map nD)))) (tg:=.name 23) (ds:=(bZ (f%2) (more f)++(((e9 N).drop 1).map (more f+·)).reverse ++[128+(e9 N).headD 0]).map nD) (f:=ay aX (ay aX (ay cU (bD (ab (aa 20) ag)) (ay oMod (aa 19) (xk (.int 2)))) (cH (bl [20] (bL (cH (aa 21) (bY (xk (.int 1))) bb bb)) (.name 22) bw (a_ (ay aX (aa 20) (aa 22))) 400) bb bb (bY (jb (xk (.int 1)))))) (bD (ab (ay aX (xk (.int 128)) (aH (aa 21) (xk (.int 0)))) ag))) ?_ rfl
  ·rwa[br]at this
  ·rw[dR,dR,Qa]
   refine aM (aM ?_ ?_ (nY ?_)) (e6 (aE (aM (aW 128) (aM (az rfl) (aW 0) (eh (ds:=(e9 N).map nD) 0 (by rw[hp1];rfl) (by decide))) (mo _ _)) be) (show 1<=16777216 by decide)) (nY ?_)
   ·have:=Tt (W:=W) (ds:=[nD (more f)]) (f%2) (by exact aw (ib 1 (cq (cF f (by decide)))) (by decide)) (by exact cK (cF _ (by decide)) (by decide))
    rw[Ov,<-Gw]at this;exact aM (e6 (aE (az rfl) be) (show 1<=16777216 by decide)) (aM (az rfl) (aW 2) (kE _ _ (by decide))) this
   ·refine iT (a:=.list ((((e9 N).drop 1).map (more f+·)).map nD)) ?_ dO dO (fS (IH (aW 1))) (VR (by rw[aP,aP];exact aw J (by decide)))
    rw[br];refine fE (mk:=λc:Nat=>.one (nD c)) (h:=nD∘(more f+·)) (bs:=(e9 N).drop 1) ?_ (by exact bQ J (by decide)) λc hc=>⟨_,.one rfl,aM (az rfl) (az rfl) (mo _ _)⟩;have:=iC (W:=W) (G:=((Gz [18,19] [nD N,nD f]).put 20 (.d (nD (more f)))).put 21 (.d (.list ((e9 N).map nD)))) (tg:=.name 22) (ds:=((e9 N).map nD).drop 1) (iT (az (k:=21) rfl) (fS (aW 1)) dO dO (qC 1 (by rw[aP];exact aw U (by decide)))) rfl;rwa[<-sh,br]at this
   ·rw[aP,wO,aP,aP,jC]
    have:f%2<2:=cF _ (by decide);exact dx (fV (cF f (by decide))) J (by decide)
   ·rw[aT,aP,wO,aP,aP,jC]
    have:f%2<2:=cF _ (by decide);show _+1<=_;exact dx (dx (fV (cF f (by decide))) J (a7 _)) (a7 1) (by decide)
end
theorem Jq(k L:Nat):max 0 (min (if(k:Int)<0 then(k:Int)+L else k) (L:Int))=((min k L:Nat):Int):=by
 rw[if_neg (h_.mpr (eA _))];exact sd k L
theorem Rc(x:List Nat)(j:Nat):iR (T x) none (some (j:Int))=T (x.take j):=by
 have q:strSliceIndices none (some (j:Int)) 1 (T x).length =strSliceIndices (some ((0:Nat):Int)) (some (j:Int)) 1 (T x).length :=by
  rw[ze,Nat.zero_min];exact congrArg (sliceRange 0 · 1) (Jq j _)
 have e:iR (T x) none (some (j:Int))=iR (T x) (some ((0:Nat):Int)) (some (j:Int)):=by
  unfold iR;rw[q]
 rw[e,xX _ _ _ (cJ _)];rfl
theorem En(x:List Nat)(i:Nat)(h:i<=x.length):iR (T x) (some (i:Int)) none=T (x.drop i):=by
 have q:strSliceIndices (some (i:Int)) none 1 (T x).length =strSliceIndices (some (i:Int)) (some (x.length:Int)) 1 (T x).length :=by
  rw[eR,ze,xn];exact congrArg (sliceRange · (x.length:Int) 1) (Jq i _)
 have e:iR (T x) (some (i:Int)) none=iR (T x) (some (i:Int)) (some (x.length:Int)):=by
  unfold iR;rw[q]
 rw[e,xX _ _ _ h,kv (by rw[ez];exact a7 _)]
section
variable{W:List Nat}{G:Gm}
theorem yi{x:List Nat}{lo hi:Option Int}{y:List Nat}(hl:x.length<=16777216)(h:iR (T x) lo hi=T y):rl W (sD x) lo hi none (sD y):=λst v bd r=>by
 cases r.s'
 refine Ok.of (a:=(.str (T y),st)) ?_ ⟨.rfl',.str _⟩;show(if(T x).length <=sizeLine/\(none:Option Int)=none then some (AV.str (iR (T x) lo hi),st)else none).or _=_;rw[eR,if_pos ⟨show _<=sizeLine from hl,rfl⟩,h];rfl
theorem lay_ints:∀l:List Nat,eu (l.map nD)=true:=by
 intro l;induction l with
 |nil=>
  rw[fT,eu]
 |cons a l J=>
  rw[bX,eu,kx,J];rfl
theorem A9:∀l:List Nat,dW (l.map nD)=0:=by
 intro l;induction l with
 |nil=>
  rw[fT,dW]
 |cons a l J=>
  rw[bX,dW,iF,J];rfl
theorem shaped_ints(l:List Nat):jD (.list (l.map nD))=true/\(fm (l.map nD)).depth <=4:=by
 have h:(fm (l.map nD)).depth =1:=by rw[iF,A9]
 refine⟨?_,by rw[h];decide⟩;unfold jD;rw[kx,lay_ints,h];rfl
theorem RJ(l:List Nat):c6 (.list (l.map nD)) (.list [])=l.isEmpty:=by
 cases l with
 |nil=>rw[fT,c6,jX];rfl
 |cons a l=>rw[bX,c6,jX];rfl
theorem any_ints(l:List Nat)(n:Nat):((l.map nD).any λy=>c6 y (nD n))=decide (n∈l):=by
 induction l with
 |nil=>rfl
 |cons a l J=>
  rw[bX,List.any_cons,J,c6,cast_eq,qi,oY,decide_eq_true_iff,decide_eq_true_iff,decide_eq_true_iff,bJ];exact or_congr_left ⟨Eq.symm,Eq.symm⟩
noncomputable def pV(name:List Nat):Nat->List Nat->List Nat->List Nat
 |0,_,ps=>ps
 |n+1,w,ps=>if w=[]\/ps=[]then ps else if w.take 3=[46,46,46]then pV name n (w.drop 3) ((cE (name.length+1 -ps.headD 0)).map (ps.headD 0+·))
  else pV name n (w.drop 1) ((ps.filter λp=>((name.drop p).take 1)==w.take 1).map (·+1))
theorem yV(name:List Nat)(n:Nat)(w ps:List Nat):pV name (n+1) w ps=if w=[]\/ps=[]then ps else if w.take 3=[46,46,46]then pV name n (w.drop 3) ((cE (name.length+1 -ps.headD 0)).map (ps.headD 0+·))
 else pV name n (w.drop 1) ((ps.filter λp=>((name.drop p).take 1)==w.take 1).map (·+1)):=rfl
noncomputable def jT(want name:List Nat):Bool:=decide (name.length∈pV name want.length want [0])
noncomputable def J3(xs:List AV)(st:St):Option (AV×St):=(a2 xs).bind λq=>q.1.i?.bind λa=>q.2.i?.bind λb=>if(fZ a&&fZ b&&decide (b -a<=16777216))=true then some (AV.ref st.length,st++[.list (u9 a (b -a).toNat)])else none
theorem W_(a b:Int)(st:St)(h:(fZ a&&fZ b&&decide (b -a<=16777216))=true):J3 [.int a,.int b] st=some (AV.ref st.length,st++[.list (u9 a (b -a).toNat)]):=if_pos h
theorem LY{fa}{a b:Nat}(O:jw W G fa [nD a,nD b])(hb:a<=b/\b<=16777216):bh W G (xU fa) (.list (((cE (b -a)).map (a+·)).map nD)):=λ_ _ J=>Ok.bind' ((O _ _ J).mono λq R=>by
 obtain⟨xs,st⟩:=q;obtain⟨N,r⟩:=R;cases r with
 |cons S r=>
  cases r with
  |cons U r=>
   cases r
   cases S.i'
   cases U.i'
   have h1:(fZ (a:Int)&&fZ (b:Int)&&decide ((b:Int) -(a:Int)<=16777216))=true:=by
    rw[zY a (aw hb.1 hb.2),zY b hb.2];exact decide_eq_true (by exact p9 (Ql _ (eA _)) (lC.mpr hb.2))
   show Ok (J3 [AV.int (a:Int),.int (b:Int)] st) _;rw[W_ a b st h1];refine⟨N.trans (.app _),j6 (J.bd.keep N) ?_⟩;rw[show((b:Int) -(a:Int)).toNat =b -a by exact Int.toNat_sub b a,show u9 (a:Int) (b -a)=((cE (b -a)).map (a+·)).map λn:Nat=>.int (n:Int) by unfold u9;rw[br];rfl];generalize (cE (b -a)).map (a+·)=l;induction l with
   |nil=>exact .nil
   |cons c l Y=>exact .cons (.int _) Y)
noncomputable def yC:aj->St->Option (Bool×St):=(nv (aS c5 (aa 8) (xk (.str ("":ae)))) (nv (aS c5 (aa 1) (bD ag)) (λ_ st=>some (true,st))))
noncomputable def I6:SM:=(ao (cn (aS oEq (cH (aa 8) bb (bY (xk (.int 3))) bb) (xk (.str ("...":ae)))) (ao (bj 1 (xU (ab (aH (aa 1) (xk (.int 0))) (ab (ay aX (bK iv (ab (aa 25) ag)) (xk (.int 1))) ag))))
 (ao (bj 8 (cH (aa 8) (bY (xk (.int 3))) bb bb))
 aC)) (ao (bj 1 (bl [25,8] (bL (aa 1)) (.name 26) (aS oEq (cH (aa 25) (bY (aa 26)) (bY (ay aX (aa 26) (xk (.int 1)))) bb) (aH (aa 8) (xk (.int 0)))) (a_ (ay aX (aa 26) (xk (.int 1)))) 400))
 (ao (bj 8 (cH (aa 8) (bY (xk (.int 1))) bb bb))
 aC)))
 aC)
theorem Ld{name:List Nat}(hn:name.length<300)(m:Nat):∀(n:Nat)(w ps:List Nat)(G:Gm),w.length<=n->n<=300->(∀p∈ps,p<=name.length)->ps.length<400->G 8=some (.d (sD w))->G 25=some (.d (sD name))->G 1=some (.d (.list (ps.map nD)))->
 ∃G' O,Sg W G (lJ yC I6 (n+m+1)) (.next G')/\G' 25=some (.d (sD name))/\G' 1=some (.d (.list (O.map nD)))/\O=pV name n w ps:=by
 have ht:∀(w ps:List Nat)(G:Gm),w.length<=300->G 8=some (.d (sD w))->G 1=some (.d (.list (ps.map nD)))->fb W G yC (!(w==[])&&(!ps.isEmpty&&true)):=λw ps G hw S h1=>by
  refine xR (d6 (az S) (dg lX) (Cv _ _)) λ_=>xR (d6 (az h1) (e6 (ds:=[]) be (by decide)) ?_) λ_=>uf;have:=yE (W:=W) (a:=.list (ps.map nD)) (b:=.list []) ⟨(shaped_ints ps).2,(shaped_ints []).2⟩ ⟨(shaped_ints ps).1,(shaped_ints []).1⟩ (.inl ⟨_,rfl⟩);rwa[RJ]at this
 have U:∀(n:Nat)(w ps:List Nat)(G:Gm),w.length<=300->w=[]\/ps=[]->G 8=some (.d (sD w))->G 1=some (.d (.list (ps.map nD)))->Sg W G (lJ yC I6 (n+1)) (.next G):=λn w ps G hw h S h1=>by
  refine SK ?_;have:=ht w ps G hw S h1;rwa[show(!(w==[])&&(!ps.isEmpty&&true))=false by
   rcases h with rfl|rfl
   ·rfl
   ·rw[List.isEmpty_nil,Bool.not_true,AF,FV]]at this
 intro n;induction n with
 |zero=>
  intro w ps G hw R Z7 hl S J h1;have Z9:w=[]:=Bx.mp (Ha.mp hw);exact⟨G,ps,U (0+m) w ps G (aw hw R) (.inl Z9) S h1,J,h1,rfl⟩
 |succ n ih=>
  intro w ps G hw R Z7 hl S J h1;rw[show n+1+m+1=n+m+1+1 by exact congrArg sH (hH n 1 m)];by_cases hs:w=[]\/ps=[]
  ·exact⟨G,ps,U (n+m+1) w ps G (aw hw R) hs S h1,J,h1,by rw[yV,if_pos hs]⟩
  ·have Y:w.length<=300:=aw hw R
   have Z5:w.length<=16777216:=aw Y (by decide);have Z8:name.length<=16777216:=aw (cq hn) (by decide);have Z4:w≠[]/\ps≠[]:=⟨λe=>hs (.inl e),λe=>hs (.inr e)⟩;have hT:fb W G yC true:=by
    have:=ht w ps G Y S h1;rwa[show(!(w==[])&&(!ps.isEmpty&&true))=true by
     rw[beq_eq_false_iff_ne.mpr Z4.1,show ps.isEmpty=false by cases ps with
      |nil=>exact absurd rfl Z4.2
      |cons=>rfl];rfl]at this
   have c3:fb W G (aS oEq (cH (aa 8) bb (bY (xk (.int 3))) bb) (xk (.str ("...":ae)))) (w.take 3==[46,46,46]):=
    d6 (iT (az S) dO (fS (aW 3)) dO (yi Z5 (Rc w 3))) (dg pz) (Cq _ _)
   by_cases hd:w.take 3=[46,46,46]
   ·have Z_:3<=w.length:=by
     have:=congrArg m3 hd;rw[iG]at this
     have:min 3 w.length=3:=this;exact aw (bS this.symm) (jZ ..)
    refine mN (rO Z4.2) λp r N=>?_;subst N;have hp:p<=name.length:=Z7 p (cj ..);obtain⟨G',O,e1,e2,e3,e4⟩:=ih (w.drop 3) ((cE (name.length+1 -p)).map (p+·)) ((G.put 1 (.d (.list (((cE (name.length+1 -p)).map (p+·)).map nD)))).put 8 (.d (sD (w.drop 3)))) (by rw[ez];exact ph hw) (by exact aw (oW _) R)
     (λq hq=>by refine aG (dy.mp hq) λj hj N=>?_;subst N;have:=mZ.mp hj;exact Dx this hp) (by rw[aP,eI];exact bQ (iU ..) (du (Nat.succ_lt_succ hn) (by decide))) rfl J rfl
    refine⟨G',O,HX hT (mA (te c3 (λ_=>n_ (fQ (p:=.d _) (LY (aE (aM (az h1) (aW 0) (eh (ds:=(p::r).map nD) 0 rfl (by decide))) (aE (aM (ia (aE (az J) be) (Ip _ Z8)) (aW 1) (mo _ _)) be)) ⟨o4 hp,by exact OJ _ hn⟩)) (mA (fQ (p:=.d _) (iT (az S) (fS (aW 3)) dO dO (yi Z5 (En w 3 Z_)))))) λh=>by rw[hd]at h;cases h)) e1,e2,e3,?_⟩;rw[e4,yV,if_neg hs,if_pos hd];rfl
   ·refine mN (rO Z4.1) λc w' N=>?_;subst N
    obtain⟨G',O,e1,e2,e3,e4⟩:=ih ((c::w').drop 1) ((ps.filter λp=>((name.drop p).take 1)==(c::w').take 1).map (·+1)) ((G.put 1 (.d (.list (((ps.filter λp=>((name.drop p).take 1)==(c::w').take 1).map (·+1)).map nD)))).put 8 (.d (sD ((c::w').drop 1)))) (by exact Pf hw) (by exact aw (oW _) R)
     (λq hq=>by
      refine aG (dy.mp hq) λj hj N=>?_;subst N;have hj:=(uB.mp hj).2;by_cases z:j<name.length
      ·exact z
      ·rw[mj (fC z)]at hj;cases hj) (by rw[aP];exact bQ (List.length_filter_le ..) hl) rfl J rfl
    have Z6:bh W G (bl [25,8] (bL (aa 1)) (.name 26) (aS oEq (cH (aa 25) (bY (aa 26)) (bY (ay aX (aa 26) (xk (.int 1)))) bb) (aH (aa 8) (xk (.int 0)))) (a_ (ay aX (aa 26) (xk (.int 1)))) 400) (.list (((ps.filter λp=>((name.drop p).take 1)==(c::w').take 1).map (·+1)).map nD)):=by
     rw[br];refine pa (mk:=λp:Nat=>.one (nD p)) (h:=nD∘(·+1)) ?_ hl λp hp=>⟨_,.one rfl,?_,λ_=>aM (az rfl) (aW 1) (mo _ _)⟩
     ·have:=iC (W:=W) (tg:=.name 26) (az h1) rfl
      rwa[br]at this
     ·refine d6 (iT (az (show(G.only [25,8]).put 26 _ 25=_ from J)) (fS (az rfl)) (fS (aM (az rfl) (aW 1) (mo _ _))) dO (yi Z8 (xX name p (p+1) (oW _)))) (aM (az (show(G.only [25,8]).put 26 _ 8=_ from S)) (aW 0) (G0 (x:=c::w') (c:=c) 0 rfl (by decide))) ?_
      rw[show p+1 -p=1 by exact A8 ..];exact Cq _ _
    refine⟨G',O,HX hT (mA (te c3 (λh=>absurd (beq_iff_eq.mp h) hd) λ_=>n_ (fQ (p:=.d _) Z6) (mA (fQ (p:=.d _) (iT (az S) (fS (aW 1)) dO dO (yi Z5 (En (c::w') 1 (fj (cJ _))))))))) e1,e2,e3,?_⟩;rw[e4,yV,if_neg hs,if_neg hd]
theorem Rr{want name:List Nat}(N:name.length<300)(hw:want.length<=300):iz W (bG [8,25] tU) [sD want,sD name] (.bool (jT want name)):=by
 refine Cj (ks:=[8,25]) (ds:=[sD want,sD name]) rfl ?_;refine fF (Ld (W:=W) N (399 -want.length) want.length want [0] ((Gz [8,25] [sD want,sD name]).put 1 (.d (.list ([0].map nD)))) (a7 _) hw (λp R=>by rw[cx.mp R];exact cJ _) (by decide) rfl rfl rfl) λG' J O S U Y=>?_;rw[show want.length+(399 -want.length)+1=400 by exact congrArg sH (qk (aw hw (by decide)))]at O;refine n_ (fQ (p:=.d (.list ([0].map nD))) (e6 (aE (aW 0) be) (by decide))) (n_ O (mA (uX ?_)));refine aM (ia (aE (az S) be) (Ip _ (aw (cq N) (by decide)))) (az U) ?_;have:=IG (W:=W) (d:=nD name.length) (ds:=J.map nD) ⟨by rw[iF];decide,by rw[A9];decide⟩ ⟨lay_ints _,by rw[kx]⟩ (λ_ x _=>by cases x.s?<;>rfl);rw[any_ints]at this;rw[jT,<-Y];exact this
end
section
variable(g:List Nat)
noncomputable def At(p:Nat)(s:List Nat):Prop:=p+s.length<=g.length/\(g.drop p).take s.length=s
theorem Ja{p:Nat}(h:p<=g.length):At g p []:=⟨h,rfl⟩
theorem Sh{p:Nat}{s:List Nat}{c:Nat}:At g p (s++[c])↔At g p s/\g[p+s.length]?=some c:=by
 unfold At;rw[aT,hU,nR,QQ];constructor
 ·intro⟨h1,h2⟩
  have J:p+s.length<g.length:=h1;rw[kF J]at h2 ⊢;have:=List.append_inj' h2 rfl;exact⟨⟨cq J,this.1⟩,congrArg some (nM this.2).1⟩
 ·intro⟨⟨h1,h2⟩,h3⟩
  exact⟨(fX.mp h3).1,by rw[h3,h2];rfl⟩
noncomputable def Mi:Nat->List Nat->Nat->Prop
 |0,_,p=>p=g.length
 |n+1,r,p=>if r.take 3=[46,46,46]then∃k,p<=k/\k<=g.length/\Mi n (r.drop 3) k else if r=[]then p=g.length else g[p]?=r.head?/\Mi n (r.drop 1) (p+1)
theorem q3(n:Nat)(r:List Nat)(p:Nat):Mi g (n+1) r p=(if r.take 3=[46,46,46]then∃k,p<=k/\k<=g.length/\Mi g n (r.drop 3) k else if r=[]then p=g.length else g[p]?=r.head?/\Mi g n (r.drop 1) (p+1)):=rfl
noncomputable def jR:Nat->List Nat->List Nat->List (List Nat)
 |0,acc,_=>[acc]
 |n+1,acc,r=>if r.take 3=[46,46,46]then acc::jR n [] (r.drop 3)else if r=[]then[acc]else jR n (acc++r.take 1) (r.drop 1)
theorem yv(acc r:List Nat):jR 0 acc r=[acc]:=rfl
theorem qL(n:Nat)(acc r:List Nat):jR (n+1) acc r=(if r.take 3=[46,46,46]then acc::jR n [] (r.drop 3)else if r=[]then[acc]else jR n (acc++r.take 1) (r.drop 1)):=rfl
noncomputable def lZ:List (List Nat)->Nat->Prop
 |[],_=>False
 |s::t,p=>At g p s/\((t=[]/\p+s.length=g.length)\/∃k,p+s.length<=k/\k<=g.length/\lZ t k)
theorem pE(s:List Nat)(t:List (List Nat))(p:Nat):lZ g (s::t) p=(At g p s/\((t=[]/\p+s.length=g.length)\/∃k,p+s.length<=k/\k<=g.length/\lZ g t k)):=rfl
theorem H_:∀n acc r,jR n acc r≠[]:=by
 intro n;induction n with
 |zero=>
  intro _ _;exact qr _ _
 |succ n J=>
  intro acc r;rw[qL];split
  ·exact qr _ _
  ·split
   ·exact qr _ _
   ·exact J _ _
theorem take1{r:List Nat}(h:r≠[]):∃c,r.take 1=[c]/\r.head?=some c:=by
 cases r with
 |nil=>exact absurd rfl h
 |cons c r=>exact⟨c,rfl,rfl⟩
theorem Ux:∀(n:Nat)(acc r:List Nat)(p:Nat),r.length<=n->(lZ g (jR n acc r) p↔At g p acc/\Mi g n r (p+acc.length)):=by
 intro n;have one:∀(acc:List Nat)(p:Nat),lZ g [acc] p↔At g p acc/\p+acc.length=g.length:=λacc p=>by
  rw[pE];refine and_congr_right λ_=>⟨λh=>h.elim (λh=>h.2) λ⟨k,_,_,h⟩=>dA h,λh=>.inl ⟨rfl,h⟩⟩
 induction n with
 |zero=>intro acc r p h;exact one acc p
 |succ n J=>
  intro acc r p h;rw[qL,q3];by_cases h1:r.take 3=[46,46,46]
  ·rw[if_pos h1,if_pos h1]
   have hl:(r.drop 3).length <=n:=by rw[ez];exact ph h
   rw[pE];refine and_congr_right λ_=>⟨λh=>?_,λ⟨k,a,b,c⟩=>.inr ⟨k,a,b,(J [] _ k hl).mpr ⟨Ja g b,c⟩⟩⟩;rcases h with⟨h,_⟩|⟨k,a,b,c⟩
   ·exact absurd h (H_ n _ _)
   ·exact⟨k,a,b,((J [] _ k hl).mp c).2⟩
  ·rw[if_neg h1,if_neg h1]
   by_cases h2:r=[]
   ·rw[if_pos h2,if_pos h2];exact one acc p
   ·rw[if_neg h2,if_neg h2]
    refine aG (take1 h2) λc N O=>?_;have hl:(r.drop 1).length <=n:=by rw[ez];have:=Gk.mpr h2;exact Ak h
    rw[N,J (acc++[c]) _ p hl,Sh,O,aT,hU,<-nO,and_assoc]
theorem Xq:∀(n:Nat)(w ps:List Nat),w.length<=n->(∀p∈ps,p<=g.length)->ps.Pairwise (·<=·)->(g.length∈pV g n w ps↔∃p∈ps,Mi g n w p):=by
 intro n;induction n with
 |zero=>
  intro w ps hw Y hs;exact⟨λh=>⟨_,h,rfl⟩,λ⟨p,h,e⟩=>by rw[<-show p=g.length from e];exact h⟩
 |succ n ih=>
  intro w ps hw Y hs;rw[yV];by_cases h0:w=[]\/ps=[]
  ·rw[if_pos h0]
   rcases h0 with rfl|rfl
   ·exact⟨λh=>⟨_,h,by rw[q3,if_neg (by decide),if_pos rfl]⟩,λ⟨p,h,e⟩=>by rw[q3,if_neg (by decide),if_pos rfl]at e;rw[<-e];exact h⟩
   ·exact⟨λh=>(a6 h).elim,λ⟨p,h,e⟩=>(a6 h).elim⟩
  ·have N:w≠[]/\ps≠[]:=⟨λe=>h0 (.inl e),λe=>h0 (.inr e)⟩
   rw[if_neg h0];by_cases h1:w.take 3=[46,46,46]
   ·rw[if_pos h1]
    refine mN (rO N.2) λa r J=>?_;subst J;have ha:a<=g.length:=Y a (cj ..);rw[show(a::r).headD 0=a from rfl,ih (w.drop 3) _ (by rw[ez];exact ph hw) (λq R=>by refine aG (dy.mp R) λj O J=>?_;subst J;have:=mZ.mp O;exact Dx this ha)
     (Fd.mpr (List.pairwise_lt_range.imp λh=>fW (cq h) _))]
    constructor
    ·intro⟨q,R,e⟩
     refine aG (dy.mp R) λj O J=>?_;subst J;have:=mZ.mp O;exact⟨a,cj ..,by rw[q3,if_pos h1];exact⟨a+j,c8 ..,by exact Dx this ha,e⟩⟩
    ·intro⟨p,S,e⟩
     rw[q3,if_pos h1]at e;refine dh e λk k1 k2 e=>?_;have U:a<=p:=by
      rcases bJ.mp S with rfl|m
      ·exact a7 _
      ·exact(Ff.mp hs).1 p m
     exact⟨k,dy.mpr ⟨k -a,mZ.mpr (by exact Nat.sub_lt_sub_right (aw U k1) (oQ k2)),by exact qk (aw U k1)⟩,e⟩
   ·rw[if_neg h1]
    refine aG (take1 N.1) λc e1 e2=>?_;have fl:∀p,((g.drop p).take 1==w.take 1)=true↔g[p]?=some c:=λp=>by
     rw[beq_iff_eq,e1,<-lD];cases g.drop p with
     |nil=>exact⟨nofun,nofun⟩
     |cons x y=>exact⟨λh=>congrArg some (nM h).1,λh=>by rw[mx h];rfl⟩
    rw[ih (w.drop 1) _ (by rw[ez];have:=Gk.mpr N.1;exact Ak hw) (λq R=>by
     refine aG (dy.mp R) λj O J=>?_;subst J;exact(fX.mp ((fl j).mp (uB.mp O).2)).1)
     (Fd.mpr ((hs.filter _).imp λh=>fj h))]
    constructor
    ·intro⟨q,R,e⟩
     refine aG (dy.mp R) λj O J=>?_;subst J;have O:=uB.mp O;exact⟨j,O.1,by rw[q3,if_neg h1,if_neg N.1];exact⟨by rw[e2];exact(fl j).mp O.2,e⟩⟩
    ·intro⟨p,S,e⟩
     rw[q3,if_neg h1,if_neg N.1]at e;exact⟨p+1,dy.mpr ⟨p,uB.mpr ⟨S,(fl p).mpr (by rw[<-e2];exact e.1)⟩,rfl⟩,e.2⟩
noncomputable def jr(w:List Nat):List (List Nat):=jR w.length [] w
theorem V6(w:List Nat):jT w g=true↔lZ g (jr w) 0:=by
 unfold jT;rw[decide_eq_true_iff,Xq g w.length w [0] (a7 _) (λp J=>by rw[cx.mp J];exact cJ _) (List.pairwise_singleton ..),jr,Ux g _ _ _ _ (a7 _)];exact⟨λ⟨p,J,e⟩=>⟨Ja g (cJ _),by rw[cx.mp J]at e;exact e⟩,λh=>⟨0,cx.mpr rfl,h.2⟩⟩
noncomputable def Gp(q:Nat):List (List Nat)->Nat->Prop
 |[],_=>True
 |w::ws,p=>∃k,p<=k/\k+w.length<=q/\(g.drop k).take w.length=w/\Gp q ws (k+w.length)
theorem Jz{q:Nat}:∀{ws:List (List Nat)}{p p':Nat},p<=p'->Gp g q ws p'->Gp g q ws p
 |[],_,_,_,_=>trivial
 |_::_,_,_,h,⟨k,a,b⟩=>⟨k,aw h a,b⟩
theorem Jb(sm:List Nat):∀(J:List (List Nat))(p:Nat),(∃k,p<=k/\k<=g.length/\lZ g (J++[sm]) k)↔At g (g.length -sm.length) sm/\p<=g.length -sm.length/\sm.length<=g.length/\Gp g (g.length -sm.length) J p:=by
 intro J;induction J with
 |nil=>
  intro p;constructor
  ·intro⟨k,a,b,c⟩
   rw[ef]at c;rw[pE]at c;obtain⟨N,O⟩:=c;have e:k+sm.length=g.length:=O.elim (λh=>h.2) λ⟨_,_,_,h⟩=>dA h;rw[show g.length -sm.length=k by exact r6 e.symm];exact⟨N,a,by exact aw (dm ..) (bS e),trivial⟩
  ·intro⟨a,b,c,_⟩
   refine⟨_,b,iU ..,?_⟩;rw[ef];rw[pE];exact⟨a,.inl ⟨rfl,by exact qc c⟩⟩
 |cons m J S=>
  intro p;constructor
  ·intro⟨k,a,b,c⟩
   rw[eM]at c;rw[pE]at c;obtain⟨N,O⟩:=c;have h:∃R,k+m.length<=R/\R<=g.length/\lZ g (J++[sm]) R:=O.elim (λh=>absurd h.1 (by simp)) id;refine yW ((S _).mp h) λh1 h2 h3 U=>?_;exact⟨h1,by exact aw a (aw (c8 ..) h2),h3,k,a,h2,N.2,U⟩
  ·intro⟨h1,h2,h3,k,a,b,c,d⟩
   refine⟨k,a,by exact aw (c8 k _) (aw b (iU ..)),?_⟩;rw[eM];rw[pE];exact⟨⟨by exact aw b (iU ..),c⟩,.inr ((S _).mpr ⟨h1,b,h3,d⟩)⟩
theorem NP(s0 sm:List Nat)(J:List (List Nat)):lZ g (s0::(J++[sm])) 0↔At g 0 s0/\At g (g.length -sm.length) sm/\s0.length<=g.length -sm.length/\sm.length<=g.length/\Gp g (g.length -sm.length) J s0.length:=by
 rw[pE];rw[hK];refine and_congr_right λ_=>⟨λh=>(Jb g sm J _).mp (h.elim (λh=>absurd h.1 (by simp)) id),λh=>.inr ((Jb g sm J _).mpr h)⟩
theorem DZ{q:Nat}{ws:List (List Nat)}{p:Nat}(h:p<=q):Gp g q ([]::ws) p↔Gp g q ws p:=
 ⟨λ⟨k,a,_,_,d⟩=>Jz g a d,λd=>⟨p,a7 _,h,rfl,d⟩⟩
theorem Cf{q:Nat}:∀{ws:List (List Nat)}{p:Nat},p<=q->(Gp g q (ws++[[]]) p↔Gp g q ws p)
 |[],p,h=>DZ g h
 |w::ws,p,h=>⟨λ⟨k,a,b,c,d⟩=>⟨k,a,b,c,(Cf b).mp d⟩,λ⟨k,a,b,c,d⟩=>⟨k,a,b,c,(Cf b).mpr d⟩⟩
end
noncomputable def bx(ws:List (List Nat)):List AV:=ws.map λw=>.str (T w)
theorem H6{st:St}{l i:Nat}{xs:List AV}(h:st[l]?=some (.list xs)){x}(e:xs[i]?=x):(It.list l i).next st=some (x.map λv=>(.one v,.list l (i+1)),st):=by
 show(bF st l).map _=_;rw[dC h,bz,e]
theorem Lb(x:ae):1<=GG x:=by unfold GG;split<;>(try split)<;>decide
theorem Mm:GG (T [46,46,46])=1:=by decide+kernel
theorem E6(x:List Nat)(i j:Nat):strSub (T x) i j=T ((x.drop i).take (j -i)):=by
 unfold strSub T;congr 1
 apply O6;simp
theorem Gv{pre acc r:List Nat}(h:r.take 3=[46,46,46]):(pre++acc++r).drop (pre.length+acc.length)=r/\pre.length+acc.length+3<=(pre++acc++r).length /\(((pre++acc++r).drop (pre.length+acc.length)).take [46,46,46].length =[46,46,46]):=by
 have e:(pre++acc++r).drop (pre.length+acc.length)=r:=by rw[<-aT,AP]
 have J:3<=r.length:=by
  have:=congrArg m3 h;rw[iG]at this
  have:min 3 r.length=3:=this;exact aw (bS this.symm) (jZ ..)
 exact⟨e,by rw[aT,aT];exact fW J _,by rw[e];exact h⟩
theorem X4(x:ae)(w a:Nat):wI x w a []=[strSub x a x.length]:=rfl
theorem XD(x:ae)(w a c:Nat)(r:List Nat):wI x w a (c::r)=strSub x a c::wI x w (c+w) r:=rfl
theorem Tf:∀(n:Nat)(acc r pre:List Nat)(lim cnt:Nat),r.length<=n->cnt+r.length<lim->
 wI (T (pre++acc++r)) 3 pre.length (iu (pre++acc++r) [46,46,46] (pre++acc++r).length lim cnt (pre.length+acc.length))=(jR n acc r).map T:=by
 intro n;have last:∀(acc pre:List Nat)(lim cnt:Nat),wI (T (pre++acc++[])) 3 pre.length (iu (pre++acc++[]) [46,46,46] (pre++acc++[]).length lim cnt (pre.length+acc.length))=[T acc]:=λacc pre lim cnt=>by
  rw[gj,Bb (by rw[aT];exact Bf (by decide))];rw[X4,eR];rw[E6];simp
 induction n with
 |zero=>
  intro acc r pre lim cnt h hc;rw[Bx.mp (Ha.mp h),yv];exact last acc pre lim cnt
 |succ n J=>
  intro acc r pre lim cnt h hc;rw[qL];by_cases h1:r.take 3=[46,46,46]
  ·refine de (Gv (pre:=pre) (acc:=acc) h1) λe O R=>?_
   have hr:r=[46,46,46]++r.drop 3:=by rw[<-h1,A4]
   have S:r.length=3+(r.drop 3).length :=(congrArg m3 hr).trans aT;have J:=J [] (r.drop 3) (pre++acc++[46,46,46]) lim (cnt+1) (by rw[ez];exact ph h) (by exact Yt hc S);rw[if_pos h1,GF (by decide) (by exact cK (oQ (c8 ..)) hc) O R];rw[XD];rw[gj,dn (pre++acc) [46,46,46] (r.drop 3),<-hr]at J;rw[show pre.length+acc.length+[46,46,46].length =(pre++acc++[46,46,46]).length +([]:List Nat).length by rw[aT,aT];rfl,show pre.length+acc.length+3=(pre++acc++[46,46,46]).length by rw[aT,aT];rfl,J,bX,E6];congr 2
   simp
  ·rw[if_neg h1]
   by_cases h2:r=[]
   ·rw[if_pos h2,h2];exact last acc pre lim cnt
   ·rw[if_neg h2]
    refine aG (take1 h2) λc N _=>?_;have hr:r=[c]++r.drop 1:=by rw[<-N,A4]
    have l1:r.length=1+(r.drop 1).length :=(congrArg m3 hr).trans aT;have e:(pre++acc++r).drop (pre.length+acc.length)=r:=by rw[<-aT,AP]
    have J:=J (acc++[c]) (r.drop 1) pre lim cnt (by rw[ez];exact ph h) (by exact bQ (fW (aw (dm ..) (bS l1.symm)) _) hc);rw[Ad (by rw[e];exactλz=>h1 z.2),N,<-J,show pre++(acc++[c])++r.drop 1=pre++acc++r by rw[<-dn,dn,<-hr],show pre.length+(acc++[c]).length =pre.length+acc.length+1 by rw[aT];rfl]
theorem BJ:∀(n:Nat)(acc r pre:List Nat)(lim:Nat),r.length<=n->1<=lim->(iu (pre++r) [46,46,46] (pre++r).length lim 0 pre.length=[]/\jR n acc r=[acc++r])\/((iu (pre++r) [46,46,46] (pre++r).length lim 0 pre.length).isEmpty =false/\∃a b t,jR n acc r=a::b::t):=by
 intro n;have last:∀(pre:List Nat)(lim:Nat),iu pre [46,46,46] pre.length lim 0 pre.length=[]:=λpre lim=>Bb (Bf (by decide));induction n with
 |zero=>
  intro acc r pre lim h hl;left
  rw[Bx.mp (Ha.mp h),yv,gj,gj];exact⟨last pre lim,rfl⟩
 |succ n J=>
  intro acc r pre lim h hl;rw[qL];by_cases h1:r.take 3=[46,46,46]
  ·right
   refine de (Gv (pre:=pre) (acc:=[]) h1) λe N O=>?_;simp only[gj,nL,Gx]at e N O;rw[if_pos h1,GF (by decide) hl N O];refine⟨rfl,?_⟩;refine mN (rO (H_ n [] (r.drop 3))) λb t e=>?_;exact⟨acc,b,t,by rw[e]⟩
  ·rw[if_neg h1]
   by_cases h2:r=[]
   ·left
    rw[if_pos h2,h2,gj,gj];exact⟨last pre lim,rfl⟩
   ·rw[if_neg h2]
    refine aG (take1 h2) λc R _=>?_;have hr:r=[c]++r.drop 1:=by rw[<-R,A4]
    have l1:r.length=1+(r.drop 1).length :=(congrArg m3 hr).trans aT;have J:=J (acc++[c]) (r.drop 1) (pre++[c]) lim (by rw[ez];exact ph h) hl;rw[dn,dn acc,<-hr,show(pre++[c]).length =pre.length+1 from aT]at J;rw[Ad (by rw[AP];exactλz=>h1 z.2),R];exact J
theorem A3(w:List Nat):(jr w).length <=w.length+1:=by
 have:∀n acc r,(jR n acc r).length <=n+1:=by
  intro n;induction n with
  |zero=>intro acc r;exact a7 _
  |succ n J=>
   intro acc r;rw[qL];split
   ·rw[dE];exact fj (J _ _)
   ·split
    ·exact fj (cJ _)
    ·exact o4 (J _ _)
 exact this _ _ _
theorem L8:∀(n:Nat)(acc r:List Nat),r.length<=n->∀s∈jR n acc r,s.length<=acc.length+r.length:=by
 intro n;induction n with
 |zero=>intro acc r h s hs;rw[yv]at hs;rw[cx.mp hs];exact c8 ..
 |succ n J=>
  intro acc r h s hs;rw[qL]at hs;split at hs
  ·rcases bJ.mp hs with rfl|hs
   ·exact c8 ..
   ·have:=J [] (r.drop 3) (by rw[ez];exact ph h) s hs
    rw[ez]at this;exact aw this (by exact aw (bS (hK _)) (aw (iU ..) (dm ..)))
  ·split at hs
   ·rw[cx.mp hs];exact c8 ..
   ·rename_i h2
    have N:=Gk.mpr h2;have:=J (acc++r.take 1) (r.drop 1) (by rw[ez];exact ph h) s hs;rw[aT,iG,ez]at this;exact aw this (aw (bS (nO ..)) (fW (aw (iS (uA ..) _) (bS (qk N))) _))
theorem L5(w:List Nat)(st:St)(hw:w.length<=10000)(h:∃a b t,jr w=a::b::t):yD [.str (T w),.str (T [46,46,46])] st=some (.ref st.length,st++[.list (bx (jr w))]):=by
 have hlen:=A3 w;have ho:=(BJ w.length [] w [] (w.length+1) (a7 _) (fj (cJ _))).resolve_left (λz=>by
  refine lV h λa b t e=>?_;rw[jr,z.2]at e;cases e)
 have J:partsBetween (T w) (occurrences (T w) (T [46,46,46]) 0 (T w).length ((T w).length +1)) (T [46,46,46]).length =(jr w).map T:=by
  rw[Zr,eR,eR,yO];exact Tf w.length [] w [] (w.length+1) 0 (a7 _) (by exact oQ (bS (hK _)))
 have O:(occurrences (T w) (T [46,46,46]) 0 (T w).length ((T w).length +1)).isEmpty =false:=by rw[yO,eR];exact ho.1
 have N:Bn (T w) (T [46,46,46])=(jr w).map T:=by
  have h3:3<=w.length:=by
   refine lV h λa b t e=>?_;by_cases q:3<=w.length
   ·exact q
   ·exfalso
    have:∀n acc r,r.length<3->(jR n acc r).length =1:=by
     intro n;induction n with
     |zero=>intro acc r _;rw[yv];rfl
     |succ n R=>
      intro acc r hr;rw[qL,if_neg (λz=>by have:=congrArg m3 z;rw[iG]at this;have:min 3 r.length=3:=this;exact absurd (aw (bS this.symm) (jZ ..)) (nI hr))];split
      ·rfl
      ·exact R _ _ (by rw[ez];exact bQ (iU ..) hr)
    have z:=this w.length [] w (by exact Nat.lt_of_not_ge q);rw[jr]at e;rw[e]at z;exact absurd z (by exactλh=>rR _ (ux h))
  unfold Bn;rw[if_neg,if_neg (by rw[O];exact d_),J];rw[Mm];have h1:=Lb (T w);simp[eR];exact⟨h3,jf h1⟩
 show(if(_==0)=false/\_/\_ then _ else none:Option _)=_;rw[if_pos,N,br]
 ·rfl
 ·refine⟨rfl,by exact aw hw (dm ..),?_⟩
  rw[J,aP,sizeLine_eq];exact aw hlen (aw (fj hw) (by decide))
theorem Ph(G w:List Nat)(p q:Nat)(J:q<=G.length):th (T G) (T w) (p:Int) (q:Int)=match iu G w q 1 0 p with|k::_=>(k:Int)|[]=>-1:=by
 unfold th;have f1:fromIndex (T G).length (p:Int)=p:=by
  unfold fromIndex
  have:¬((p:Int)<0):=by exact h_.mpr (eA _)
  rw[if_neg this];exact rfl
 have f2:min (fromIndex (T G).length (q:Int)) (T G).length =q:=by
  have:fromIndex (T G).length (q:Int)=q:=by
   unfold fromIndex
   have:¬((q:Int)<0):=by exact h_.mpr (eA _)
   rw[if_neg this];exact rfl
  rw[this,eR];exact oZ J
 rw[f1,f2,yO];all_goals rfl
noncomputable def sC:SM:=(ao (bj 12 (bU jo yH (aa 9) (ab (aa 11) (ab (aa 12) (ab (aa 13) ag)))))
 (ao (cn (aS oLt (aa 12) (xk (.int 0))) (ao (cy (xk (.bool false)))
 aC) aC)
 (ao (eS 12 gM (bK iv (ab (aa 11) ag)))
 aC)))
theorem RW(F:aj)(st:St)(G w:List Nat)(p q:Nat)(R:F.lookup 9=some (.str (T G)))(J:F.lookup 11=some (.str (T w)))(N:F.lookup 12=some (.int p))(O:F.lookup 13=some (.int q)):
 bU jo yH (aa 9) (ab (aa 11) (ab (aa 12) (ab (aa 13) ag))) F st=some (.int (th (T G) (T w) p q),st):=by
 simp only[iJ,bP,R,J,N,O,eN,dI,bz,bo,qB,eM,ef];rfl
theorem occ_first(G w:List Nat)(q:Nat):∀(n p:Nat),q+1 -p=n->(∃k,iu G w q 1 0 p=[k]/\p<=k/\k+w.length<=q/\(G.drop k).take w.length=w/\∀j,p<=j->j<k->¬(j+w.length<=q/\(G.drop j).take w.length=w))\/
 (iu G w q 1 0 p=[]/\∀j,p<=j->¬(j+w.length<=q/\(G.drop j).take w.length=w)):=by
 intro n;induction n with
 |zero=>
  intro p h;exact .inr ⟨Bb (by exact cK (xI h) (c8 ..)),λj h1 h2=>by exact absurd (aw h1 (aw (c8 ..) h2.1)) (nI (xI h))⟩
 |succ n J=>
  intro p h;by_cases hm:p+w.length<=q/\(G.drop p).take w.length=w
  ·exact .inl ⟨p,QF hm.1 hm.2,a7 _,hm.1,hm.2,λj h1 h2=>absurd h1 (j0.mpr h2)⟩
  ·rw[Ad hm]
   have up:∀j,p<=j->p+1<=j\/j=p:=λj h=>by exact(Nat.lt_or_eq_of_le h).imp id Eq.symm
   rcases J (p+1) (by exact congrArg qx h)with⟨k,a,b,c,d,e⟩|⟨a,b⟩
   ·exact .inl ⟨k,a,m4 b,c,d,λj h1 h2=>(up j h1).elim (λz=>e j z h2) λz=>z▸hm⟩
   ·exact .inr ⟨a,λj h1=>(up j h1).elim (λz=>b j z) λz=>z▸hm⟩
theorem QN(G:List Nat)(Z4:G.length<=10000)(q:Nat)(hq:q<=G.length)(l:Nat)(xs:List (List Nat))(st:St)(hl:st[l]?=some (.list (bx xs))):∀(J:List (List Nat))(i fuel p:Nat)(F:aj),xs.drop i=J->J.length<fuel->(∀s∈J,s.length<=10000)->
 F.lookup 9=some (.str (T G))->F.lookup 12=some (.int p)->F.lookup 13=some (.int q)->p<=q->
 ∃F' fl,cB (.name 11) sC fuel (.list l i) F st=some (fl,F',st)/\((Gp G q J p/\fl=.next)\/(¬Gp G q J p/\fl=.ret (.bool false))):=by
 intro J;induction J with
 |nil=>
  intro i fuel p F O hf _ _ _ _ _;cases fuel with
  |zero=>exact absurd hf (gk _)
  |succ fuel=>
   refine⟨F,.next,wG rfl ?_,.inl ⟨trivial,rfl⟩⟩;exact H6 hl (oR (by unfold bx;rw[aP];simpa using O))
 |cons w J ih=>
  intro i fuel p F O hf hs h9 R S hp;cases fuel with
  |zero=>exact absurd hf (gk _)
  |succ fuel=>
   have hi:xs[i]?=some w:=by rw[<-lD,O];rfl
   have hn:=H6 hl (i:=i) (x:=some (.str (T w))) (by unfold bx;rw[dQ,hi];rfl);have hwl:w.length<=10000:=hs w (cj ..);have g9:(F.put 11 (.str (T w))).lookup 9=some (.str (T G)):=by rw[bW _ _ _ _ (by decide)];exact h9
   have U:(F.put 11 (.str (T w))).lookup 12=some (.int p):=by rw[bW _ _ _ _ (by decide)];exact R
   have N:(F.put 11 (.str (T w))).lookup 13=some (.int q):=by rw[bW _ _ _ _ (by decide)];exact S
   have Y:(F.put 11 (.str (T w))).lookup 11=some (.str (T w)):=cX ..;have fe:=RW (F.put 11 (.str (T w))) st G w p q g9 Y U N;rw[Ph G w p q hq]at fe;have hle:=λst=>t_ w st (aw hwl (by decide));rw[nE rfl hn rfl];rcases occ_first G w q _ p rfl with⟨k,a,b,c,d,e⟩|⟨a,b⟩
   ·rw[a]at fe
    have k0:¬((k:Int)<0):=by exact h_.mpr (eA _)
    have b1:sC (F.put 11 (.str (T w))) st=some (.next,((F.put 11 (.str (T w))).put 12 (.int (k:Int))).put 12 (.int ((k+w.length:Nat):Int)),st):=by
     unfold sC;simp only[cM,gF,fe,bz,bo,eQ,iL,iN,d7,bP,cX,cT,Ao,decide_eq_true_eq,k0,if_false,ig,pC,j4,eN,dI,bW _ 12 _ 11 (by decide),hle,D6];rfl
    rw[b1];obtain⟨F',fl,e1,e2⟩:=ih (i+1) fuel (k+w.length) (((F.put 11 (.str (T w))).put 12 (.int (k:Int))).put 12 (.int ((k+w.length:Nat):Int))) (by rw[<-me,O];rfl) (mV hf) (λs m=>hs s (cw _ m))
     (by rw[bW _ _ _ _ (by decide),bW _ _ _ _ (by decide)];exact g9) (cX ..) (by rw[bW _ _ _ _ (by decide),bW _ _ _ _ (by decide)];exact N) c
    have iff:Gp G q (w::J) p↔Gp G q J (k+w.length):=⟨λ⟨k',a',b',c',d'⟩=>Jz G (iS (fC λz=>e k' a' z ⟨b',c'⟩) _) d',λh=>⟨k,b,c,d,h⟩⟩;exact⟨F',fl,e1,by rw[iff];exact e2⟩
   ·rw[a]at fe
    have b1:sC (F.put 11 (.str (T w))) st=some (.ret (.bool false),(F.put 11 (.str (T w))).put 12 (.int (-1)),st):=by
     unfold sC;simp only[cM,gF,fe,bz,bo,eQ,iL,iN,d7,bP,cX,cT,Ao,decide_eq_true_eq,show((-1:Int)<0) by decide,if_true,jJ]
    rw[b1];exact⟨_,_,rfl,.inr ⟨λ⟨k,h1,h2,h3,_⟩=>b k h1 ⟨h2,h3⟩,rfl⟩⟩
noncomputable def sE:SM:=(ao (cn (aS l_ (aa 12) (aa 13)) (ao (cy (xk (.bool false)))
 aC) aC)
 (ao (λF st=>((bL (aa 10)) F st).bind λp=>cB (.name 11) sC 400 p.1 F p.2)
 (ao (cy (xk (.bool true)))
 aC)))
theorem Qs(G:List Nat)(Z4:G.length<=10000)(p q l:Nat)(hq:q<=G.length)(O:List (List Nat))(F:aj)(st:St)(hl:st[l]?=some (.list (bx O)))(hn:O.length<400)(hy:∀s∈O,s.length<=10000)
 (h9:F.lookup 9=some (.str (T G)))(R:F.lookup 10=some (.ref l))(J:F.lookup 12=some (.int p))(N:F.lookup 13=some (.int q)):
 ∃F' b,sE F st=some (.ret (.bool b),F',st)/\(b=true↔p<=q/\Gp G q O p):=by
 have S:nu (.ref l) st=some (.list l 0):=by
  show((bF st l).map _).or _=_;rw[dC hl];rfl
 by_cases U:p<=q
 ·refine ou (QN G Z4 q hq l O st hl O 0 400 p F rfl hn hy h9 J N U) λF' fl h c=>?_
  have Y:¬((q:Int)<(p:Int)):=by exact h_.mpr (lC.mpr U)
  rcases c with⟨c,rfl⟩|⟨c,rfl⟩
  ·refine⟨F',true,?_,λ_=>⟨U,c⟩,λ_=>rfl⟩
   simp only[sE,cM,eQ,iL,iN,d7,bP,J,N,bz,bo,Bu,decide_eq_true_eq,Y,if_false,ig,I4,R,S,h,jJ,cT]
  ·refine⟨F',false,?_,λz=>(d_ z).elim,λz=>absurd z.2 c⟩
   simp only[sE,cM,eQ,iL,iN,d7,bP,J,N,bz,bo,Bu,decide_eq_true_eq,Y,if_false,ig,I4,R,S,h,jJ,cT]
 ·have Y:((q:Int)<(p:Int)):=by exact m5.mpr (uy U)
  refine⟨F,false,?_,λz=>(d_ z).elim,λz=>absurd z.1 U⟩;simp only[sE,cM,eQ,iL,iN,d7,bP,J,N,bz,bo,Bu,decide_eq_true_eq,Y,if_true,jJ,cT]
theorem H9(s0:St)(o o':AO):(s0++[o]).set s0.length o'=s0++[o']:=by
 rw[QW _ _ (a7 _)];simp
theorem TV(s0:St)(o:AO):(s0++[o])[s0.length]?=some o:=by simp
noncomputable def oG:SM:=(cn (kj ix (aa 11)) (ao (cn (kj ix (bU jo uQ (aa 9) (ab (aa 11) ag))) (ao (bj 12 (bK iv (ab (aa 11) ag)))
 (ao (oC (aa 10) (xk (.int 0)))
 aC)) (ao (cy (xk (.bool false)))
 aC))
 aC) aC)
noncomputable def q5:SM:=(cn (kj ix (aa 11)) (ao (cn (kj ix (bU jo vA (aa 9) (ab (aa 11) ag))) (ao (eS 13 kl (bK iv (ab (aa 11) ag)))
 (ao (oC (aa 10) (jb (xk (.int 1))))
 aC)) (ao (cy (xk (.bool false)))
 aC))
 aC) aC)
@[simp] theorem JF(l:Nat):(AV.ref l).r? =some l:=rfl
theorem HW(s0:St)(xs:List AV):bF (s0++[.list xs]) s0.length=some xs:=dC (TV ..)
theorem MK(F:aj)(s0:St)(x:AV)(xs:List AV)(J:F.lookup 10=some (.ref s0.length))(h:(x::xs).length <=16777216):oC (aa 10) (xk (.int 0)) F (s0++[.list (x::xs)])=some (.next,F,s0++[.list xs]):=by
 unfold oC;simp only[bP,J,cT,bz,bo,JF,mG,HW];rw[if_pos ⟨show _<=sizeLine from h,by decide⟩];have q:seqIndex? 0 (x::xs).length =some 0:=by unfold seqIndex?;simp
 rw[q];simp only[bz,H9];rfl
theorem Nf(F:aj)(s0:St)(x:AV)(xs:List AV)(J:F.lookup 10=some (.ref s0.length))(h:(xs++[x]).length <=16777216):oC (aa 10) (jb (xk (.int 1))) F (s0++[.list (xs++[x])])=some (.next,F,s0++[.list xs]):=by
 unfold oC;simp only[bP,J,cT,Cz,mG,bz,bo,JF,HW];rw[if_pos ⟨show _<=sizeLine from h,by decide⟩];have q:seqIndex? (-1) (xs++[x]).length =some xs.length:=by unfold seqIndex?;simp;exact m1 _
 rw[q];simp only[bz,H9];rw[List.eraseIdx_append_of_length_le (a7 _)];simp
theorem Ug(G P:List Nat)(R:List (List Nat))(F:aj)(s0:St)(hP:P.length<=10000)(hR:R.length<=10000)(U:F.lookup 9=some (.str (T G)))(N:F.lookup 10=some (.ref s0.length))(O:F.lookup 11=some (.str (T P)))(Y:F.lookup 12=some (.int 0))(e:Int)(S:F.lookup 13=some (.int e))
 (Z4:G.take P.length=P/\P.length<=G.length):
 ∃F',oG F (s0++[.list (bx (P::R))])=some (.next,F',s0++[.list (bx ((if P=[]then[[]]else[])++R))])/\F'.lookup 12=some (.int (P.length:Nat))/\F'.lookup 9=some (.str (T G))/\F'.lookup 10=some (.ref s0.length)/\F'.lookup 13=some (.int e):=by
 have ht:=λst=>xH P st (by exact aw hP (dm ..));cases J:P with
 |nil=>
  subst J;refine⟨F,?_,Y,U,N,S⟩;simp only[oG,eQ,lM,bP,O,bz,bo,ht];rfl
 |cons c P'=>
  rw[<-J];have Z5:P≠[]:=by rw[J];simp
  have Z6:(P.length !=0)=true:=by rw[J];simp
  refine⟨F.put 12 (.int (P.length:Nat)),?_,cX ..,by rw[bW _ _ _ _ (by decide)];exact U,by rw[bW _ _ _ _ (by decide)];exact N,by rw[bW _ _ _ _ (by decide)];exact S⟩;have hs:∀st,uQ [.str (T G),.str (T P)] st=some (.bool true,st):=λst=>by
   show some (AV.bool (wV (T G) (T P)),st)=_;rw[DL,decide_eq_true Z4]
  have hl:=λst=>t_ P st (by exact aw hP (dm ..));have hd:=MK (F.put 12 (.int (P.length:Nat))) s0 (.str (T P)) (bx R) (by rw[bW _ _ _ _ (by decide)];exact N) (by simp[bx];exact aw hR (dm ..));have Z7:bx (P::R)=.str (T P)::bx R:=rfl;simp only[oG,eQ,lM,bP,O,U,bz,bo,ht,Z6,if_true,cM,iJ,qB,eN,dI,eM,ef,hs,wF,gF,j4,hl,Z7,hd,ig,if_neg Z5]
theorem VU(G P:List Nat)(R:List (List Nat))(F:aj)(s0:St)(S:P.length<=10000)(U:F.lookup 9=some (.str (T G)))(N:F.lookup 11=some (.str (T P)))(J:¬(G.take P.length=P/\P.length<=G.length)):
 oG F (s0++[.list (bx (P::R))])=some (.ret (.bool false),F,s0++[.list (bx (P::R))]):=by
 have ht:=λst=>xH P st (by exact aw S (dm ..));have O:(P.length !=0)=true:=by
  cases P with
  |nil=>exact absurd ⟨by simp,by simp⟩ J
  |cons _ _=>simp
 have hs:∀st,uQ [.str (T G),.str (T P)] st=some (.bool false,st):=λst=>by
  show some (AV.bool (wV (T G) (T P)),st)=_;rw[DL,decide_eq_false J]
 simp only[oG,eQ,lM,bP,N,U,bz,bo,ht,O,if_true,cM,iJ,qB,eN,dI,eM,ef,hs,wF,jJ,cT];rfl
theorem V5(G L:List Nat)(R:List (List Nat))(F:aj)(s0:St)(hL:L.length<=10000)(hR:R.length<=10000)(h9:F.lookup 9=some (.str (T G)))(N:F.lookup 10=some (.ref s0.length))(O:F.lookup 11=some (.str (T L)))(b:Int)(S:F.lookup 12=some (.int b))(U:F.lookup 13=some (.int (G.length:Nat)))
 (Y:L.length<=G.length/\G.drop (G.length -L.length)=L):
 ∃F',q5 F (s0++[.list (bx (R++[L]))])=some (.next,F',s0++[.list (bx (R++(if L=[]then[[]]else[])))])/\F'.lookup 13=some (.int ((G.length -L.length:Nat):Int))/\F'.lookup 9=some (.str (T G))/\F'.lookup 10=some (.ref s0.length)/\F'.lookup 12=some (.int b):=by
 have ht:=λst=>xH L st (by exact aw hL (dm ..));cases J:L with
 |nil=>
  subst J;refine⟨F,?_,by simpa using U,h9,N,S⟩;simp only[q5,eQ,lM,bP,O,bz,bo,ht];rfl
 |cons c L'=>
  rw[<-J];have Z5:L≠[]:=by rw[J];simp
  have Z6:(L.length !=0)=true:=by rw[J];simp
  refine⟨F.put 13 (.int ((G.length -L.length:Nat):Int)),?_,cX ..,by rw[bW _ _ _ _ (by decide)];exact h9,by rw[bW _ _ _ _ (by decide)];exact N,by rw[bW _ _ _ _ (by decide)];exact S⟩;have hs:∀st,vA [.str (T G),.str (T L)] st=some (.bool true,st):=λst=>by
   show some (AV.bool (wL (T G) (T L)),st)=_;rw[Eb,decide_eq_true Y]
  have hl:=λst=>t_ L st (by exact aw hL (dm ..));have hd:=Nf (F.put 13 (.int ((G.length -L.length:Nat):Int))) s0 (.str (T L)) (bx R) (by rw[bW _ _ _ _ (by decide)];exact N) (by simp[bx];exact aw hR (dm ..));have Z7:bx (R++[L])=bx R++[.str (T L)]:=by simp[bx]
  have Z4:(AV.int ((G.length:Int) -(L.length:Int)))=.int ((G.length -L.length:Nat):Int):=by congr 1;exact(Int.ofNat_sub Y.1).symm
  simp only[q5,eQ,lM,bP,O,h9,U,bz,bo,ht,Z6,if_true,cM,iJ,qB,eN,dI,eM,ef,hs,wF,pC,j4,hl,MI,Z4,Z7,hd,ig,if_neg Z5,gj]
theorem Vm(G L:List Nat)(R:List (List Nat))(F:aj)(s0:St)(hL:L.length<=10000)(S:F.lookup 9=some (.str (T G)))(N:F.lookup 11=some (.str (T L)))(J:¬(L.length<=G.length/\G.drop (G.length -L.length)=L)):
 q5 F (s0++[.list (bx (R++[L]))])=some (.ret (.bool false),F,s0++[.list (bx (R++[L]))]):=by
 have ht:=λst=>xH L st (by exact aw hL (dm ..));have O:(L.length !=0)=true:=by
  cases L with
  |nil=>exact absurd ⟨by simp,by simp⟩ J
  |cons _ _=>simp
 have hs:∀st,vA [.str (T G),.str (T L)] st=some (.bool false,st):=λst=>by
  show some (AV.bool (wL (T G) (T L)),st)=_;rw[Eb,decide_eq_false J]
 simp only[q5,eQ,lM,bP,N,S,bz,bo,ht,O,if_true,cM,iJ,qB,eN,dI,eM,ef,hs,wF,jJ,cT];rfl
theorem ET(x:List Nat)(st:St):mz (.str (T [46,46,46])) (.str (T x)) st=some (.bool (iu x [46,46,46] x.length 1 0 0).isEmpty,st):=by
 show some (AV.bool (!(!(occurrences (T x) (T [46,46,46]) 0 (T x).length 1).isEmpty)),st)=_;rw[yO,eR,N_]
theorem VJ(g w:List Nat):lZ g [w] 0↔w=g:=by
 rw[pE];unfold At;rw[hK,Bg];constructor
 ·intro⟨⟨a,b⟩,c⟩
  have:w.length=g.length:=c.elim (λh=>h.2) λ⟨_,_,_,h⟩=>dA h;rw[this,uC]at b;exact b.symm
 ·rintro rfl
  exact⟨⟨a7 _,uC⟩,.inl ⟨rfl,rfl⟩⟩
theorem rK{ks:List Nat}{f:SM}{avs:List AV}{st st':St}{v:AV}{F':aj}(h:ks.length=avs.length)(e:f (ks.zip avs) st=some (.ret v,F',st')):bG ks f avs st=some (v,st'):=by
 rw[sG _ _ _ _ h,e];rfl
noncomputable def uY:SM:=ao (bj 11 (aH (aa 10) (jb (xk (.int 1))))) (ao q5 sE)
noncomputable def vc:SM:=(ao (cn (aS mz (xk (.str "...")) (aa 8)) (ao (cy (ay oEq (aa 8) (aa 9)))
 aC) aC)
 (ao (bj 10 (bU jo yD (aa 8) (ab (xk (.str "...")) ag)))
 (ao (ya (aS zL (bK iv (ab (aa 10) ag)) (xk (.int 2))))
 (ao (pG [12,13] (ab (xk (.int 0)) (ab (bK iv (ab (aa 9) ag)) ag)))
 (ao (bj 11 (aH (aa 10) (xk (.int 0))))
 (ao oG uY))))))
theorem Wq:ly=vc:=rfl
theorem MH(w g s0 sm:List Nat)(J:List (List Nat))(hw:w.length<=10000)(hg:g.length<=10000)(hs:jr w=s0::(J++[sm]))(st:St):
 vc [(8,.str (T w)),(9,.str (T g))] st=ao oG uY [(8,.str (T w)),(9,.str (T g)),(10,.ref st.length),(13,.int (g.length:Nat)),(12,.int 0),(11,.str (T s0))] (st++[.list (bx (s0::(J++[sm])))]):=by
 have h8:fG 8 [(8,AV.str (T w)),(9,AV.str (T g))]=some (.str (T w)):=rfl;have h9:fG 9 [(8,AV.str (T w)),(9,AV.str (T g))]=some (.str (T g)):=rfl;have N:∃a b t,jr w=a::b::t:=by
  rw[hs];refine mN (rO (show J++[sm]≠[] by simp)) λb t e=>?_;exact⟨s0,b,t,by rw[e]⟩
 have O:=L5 w st hw N;have R:=A3 w;rw[hs]at O R;have U:mz (.str (T [46,46,46])) (.str (T w)) st=some (.bool false,st):=by
  have:=(BJ w.length [] w [] 1 (a7 _) (a7 _)).resolve_left (λz=>by
   refine lV N λa b t e=>?_;rw[jr,z.2]at e;cases e)
  rw[ET];exact congrArg (λb=>some (AV.bool b,st)) this.1
 have hlen:=Ea (bx (s0::(J++[sm]))) st.length (st++[.list (bx (s0::(J++[sm])))]) (zz ..) (by unfold bx;rw[aP];exact aw R (aw (fj hw) (by decide)));have Y:((2:Int)<=((bx (s0::(J++[sm]))).length :Nat)):=by simp[bx];exact AQ (AQ (eA _) 1) 1
 have Z4:=λst'=>t_ g st' (aw hg (by decide));have hit:=DV (bx (s0::(J++[sm]))) st.length 0 (.str (T s0)) (st++[.list (bx (s0::(J++[sm])))]) (zz ..) rfl (by decide);rw[show((0:Nat):Int)=0 from rfl]at hit;unfold vc;rw[cM];simp only[eQ,iL,iN,d7,cT,bP,h8,h9,bz,bo,pz,U,jh,if_false,ig];rw[cM];simp only[gF,iJ,bP,h8,bz,bo,qB,eN,cT,pz,dI,eM,ef,O];rw[cM];have Z5:(aj.put [(8,AV.str (T w)),(9,.str (T g))] 10 (.ref st.length)).lookup 10=some (.ref st.length):=rfl;have q9:(aj.put [(8,AV.str (T w)),(9,.str (T g))] 10 (.ref st.length)).lookup 9=some (.str (T g)):=rfl;simp only[ya,iL,iN,d7,j4,eN,bP,Z5,dI,bz,bo,hlen,cT,Ol,decide_eq_true_eq];rw[if_pos Y];simp only[bo];rw[cM];simp only[Ii,eN,cT,j4,bP,q9,dI,bz,bo,Z4];rw[if_pos ⟨by rw[sizeLine_eq];simp,rfl⟩];have qp:(aj.put [(8,AV.str (T w)),(9,.str (T g))] 10 (.ref st.length)).C3 [12,13] [.int 0,.int (g.length:Nat)]=some [(8,.str (T w)),(9,.str (T g)),(10,.ref st.length),(13,.int (g.length:Nat)),(12,.int 0)]:=rfl;simp only[qp,bz,bo];rw[cM];have S:fG 10 [(8,AV.str (T w)),(9,.str (T g)),(10,.ref st.length),(13,.int (g.length:Nat)),(12,.int 0)]=some (.ref st.length):=rfl;simp only[gF,CG,d7,bP,S,cT,bz,bo,hit];rfl
theorem Qg(w g s0 sm:List Nat)(J:List (List Nat))(S:s0.length<=10000)(U:sm.length<=10000)(hm:∀s∈J,s.length<=10000)(hn:J.length<=300)(hg:g.length<=10000)(st:St):
 ∃F' b X,ao oG uY [(8,.str (T w)),(9,.str (T g)),(10,.ref st.length),(13,.int (g.length:Nat)),(12,.int 0),(11,.str (T s0))] (st++[.list (bx (s0::(J++[sm])))])=some (.ret (.bool b),F',st++[X])/\(b=true↔lZ g (s0::(J++[sm])) 0):=by
 have Z5:At g 0 s0↔g.take s0.length=s0/\s0.length<=g.length:=by
  unfold At;rw[hK,Bg];exact and_comm
 have Y:sm.length<=g.length->(At g (g.length -sm.length) sm↔g.drop (g.length -sm.length)=sm):=λh=>by
  unfold At;rw[kv (by exact bS (ez.trans (Nat.sub_sub_self h)))];exact⟨λz=>z.2,λz=>⟨by exact bS (qc h),z⟩⟩
 rw[NP,Z5];by_cases c0:g.take s0.length=s0/\s0.length<=g.length
 ·refine HI (Ug g s0 (J++[sm]) [(8,.str (T w)),(9,.str (T g)),(10,.ref st.length),(13,.int (g.length:Nat)),(12,.int 0),(11,.str (T s0))] st S (by rw[aT,hU];exact aw (fj hn) (by decide)) rfl rfl rfl rfl g.length rfl c0) λF1 e1 Z6 a9 Z4 Z7=>?_
  obtain⟨R,hR⟩:∃R,R=(if s0=[]then[[]]else[])++J:=⟨_,rfl⟩;have N:R.length<=301:=by rw[hR,aT];split<;>simp<;>(first|exact aw hn (by decide)|exact aw (bS (gI ..)) (fj hn))
  rw[<-dn,<-hR]at e1;have hit:=tX (bx (R++[sm])) st.length 1 (.str (T sm)) (st++[.list (bx (R++[sm]))]) (zz ..) (by simp[bx]) (by decide) (by simp[bx]) (by decide);rw[show-((1:Nat):Int)=-1 from rfl]at hit;have e2:ao oG uY [(8,.str (T w)),(9,.str (T g)),(10,.ref st.length),(13,.int (g.length:Nat)),(12,.int 0),(11,.str (T s0))] (st++[.list (bx (s0::(J++[sm])))])=ao q5 sE (F1.put 11 (.str (T sm))) (st++[.list (bx (R++[sm]))]):=by
   rw[cM,e1];simp only[bo];unfold uY;rw[cM];simp only[gF,CG,d7,bP,Z4,cT,Cz,mG,bz,bo,hit]
  rw[e2];have g9:(F1.put 11 (.str (T sm))).lookup 9=some (.str (T g)):=by rw[bW _ _ _ _ (by decide)];exact a9
  have Z8:(F1.put 11 (.str (T sm))).lookup 10=some (.ref st.length):=by rw[bW _ _ _ _ (by decide)];exact Z4
  have Z9:(F1.put 11 (.str (T sm))).lookup 12=some (.int (s0.length:Nat)):=by rw[bW _ _ _ _ (by decide)];exact Z6
  have Z_:(F1.put 11 (.str (T sm))).lookup 13=some (.int (g.length:Nat)):=by rw[bW _ _ _ _ (by decide)];exact Z7
  by_cases O:sm.length<=g.length/\g.drop (g.length -sm.length)=sm
  ·refine HI (V5 g sm R (F1.put 11 (.str (T sm))) st U (by exact jY N) g9 Z8 (cX ..) (s0.length:Nat) Z9 Z_ O) λF2 e3 b13 b9 b10 b12=>?_
   obtain⟨F3,b,e4,e5⟩:=Qs g hg s0.length (g.length -sm.length) st.length (iU ..) (R++(if sm=[]then[[]]else[])) F2 (st++[.list (bx (R++(if sm=[]then[[]]else[])))]) (zz ..) (by rw[aT];split<;>simp<;>(first|exact bQ N (by decide)|exact bQ (fj N) (by decide)))
    (λs m=>by
     rw[hR,ei,ei]at m;rcases m with(m|m)|m
     ·split at m
      ·rw[cx.mp m];exact cJ _
      ·exact(a6 m).elim
     ·exact hm s m
     ·split at m
      ·rw[cx.mp m];exact cJ _
      ·exact(a6 m).elim) b9 b10 b12 b13
   refine⟨F3,b,_,by rw[cM,e3];exact e4,e5.trans ?_⟩;rw[Y O.1];have gp:s0.length<=g.length -sm.length->(Gp g (g.length -sm.length) (R++(if sm=[]then[[]]else[])) s0.length↔Gp g (g.length -sm.length) J s0.length):=λh=>by
    have k1:Gp g (g.length -sm.length) (R++(if sm=[]then[[]]else[])) s0.length↔Gp g (g.length -sm.length) R s0.length:=by
     split
     ·exact Cf g h
     ·rw[gj]
    rw[k1,hR];split
    ·exact DZ g h
    ·rw[ef]
   exact⟨λz=>⟨c0,O.2,z.1,O.1,(gp z.1).mp z.2⟩,λz=>⟨z.2.2.1,(gp z.2.2.1).mpr z.2.2.2.2⟩⟩
  ·refine⟨F1.put 11 (.str (T sm)),false,_,by rw[cM,Vm g sm R _ st U g9 (cX ..) O];rfl,λz=>(d_ z).elim,λz=>absurd ⟨z.2.2.2.1,(Y z.2.2.2.1).mp z.2.1⟩ O⟩
 ·exact⟨_,false,_,by rw[cM,VU g s0 (J++[sm]) _ st S rfl rfl c0];rfl,λz=>(d_ z).elim,λz=>absurd z.1 c0⟩
theorem UG{W:List Nat}{want name:List Nat}(hw:want.length<=299)(O:name.length<=299):iz W (bG [8,9] ly) [sD want,sD name] (.bool (jT want name)):=zj λst x y bd R S=>by
 cases R.s'
 cases S.s'
 have hb:∀b:Bool,(b=true↔lZ name (jr want) 0)->b=jT want name:=λb h=>qi.mpr (h.trans (V6 name want).symm);rw[Wq];rcases BJ want.length [] want [] 1 (a7 _) (a7 _)with⟨h1,h2⟩|⟨h1,a,b,t,h2⟩
 ·have e:vc ([8,9].zip [.str (T want),.str (T name)]) st=some (.ret (.bool (want==name)),[(8,.str (T want)),(9,.str (T name))],st):=by
   have U:fG 8 [(8,AV.str (T want)),(9,AV.str (T name))]=some (.str (T want)):=rfl;have Y:fG 9 [(8,AV.str (T want)),(9,AV.str (T name))]=some (.str (T name)):=rfl;have N:mz (.str (T [46,46,46])) (.str (T want)) st=some (.bool true,st):=by
    rw[ET];exact congrArg (λl:List Nat=>some (AV.bool l.isEmpty,st)) h1
   simp only[vc,cM,eQ,iL,iN,d7,cT,bP,ku,mU,U,Y,bz,bo,pz,N,if_true,jJ,nS]
  rw[rK rfl e];refine⟨.rfl',?_⟩;rw[hb (want==name) (by rw[jr,h2,ef,VJ,beq_iff_eq])];exact .bool _
 ·have J:jr want=a::((b::t).dropLast ++[(b::t).getLast (qr _ _)]):=by rw[List.dropLast_concat_getLast];exact h2
  have short:∀s∈jr want,s.length<=10000:=λs m=>aw (L8 _ _ _ (a7 _) s m) (by exact aw (fW hw _) (by decide));have hl:=A3 want;rw[J]at short hl;obtain⟨F',r,X,e1,e2⟩:=Qg want name a ((b::t).getLast (qr _ _)) (b::t).dropLast (short _ (cj ..)) (short _ (cw _ (List.mem_append_right _ (cx.mpr rfl)))) (λs m=>short s (cw _ (By _ m)))
   (by rw[dE,aT]at hl;exact aw (c8 ..) (aw (AB hl) (aw hw (by decide)))) (by exact jY O) st
  rw[rK (ks:=[8,9]) (avs:=[.str (T want),.str (T name)]) rfl ((MH want name a _ _ (by exact jY hw) (by exact jY O) J st).trans e1)];refine⟨.app _,?_⟩;rw[hb r (by rw[J];exact e2)];exact .bool _
noncomputable def LD(sA:ak)(ln:Nat)(pb:Nat):List (Nat×AV):=[(32,.int ln),(31,.val (.ref sA)),(30,.str (T [10,9,13,32])),(29,.ref pb)]
structure Pl where
 sA:ak
 X:List Nat
 k:Nat
 d:Nat
 lx:Nat
 pb:Nat
 kd:k≠d
 Yi:k≠lx
 Ys:d≠lx
 pk:pb≠k
 pd:pb≠d
variable(Z:Pl)
structure Lx(st:St)(p:Nat)(ln:Nat):Prop where
 inst:st[Z.lx]?=some (.inst 69 Z.d)
 dict:st[Z.d]?=some (.dict (LD Z.sA ln Z.pb))
 pl:∃ps:List Int,ps.length<=p/\st[Z.k]?=some (.list (ps.map .int ++[.int p]))
noncomputable def iP(st st':St):Prop:=st'.length=st.length/\∀i,i≠Z.k->i≠Z.d->st'[i]?=st[i]?
variable{Z}
theorem iP.trans{a b c:St}(h:iP Z a b)(g:iP Z b c):iP Z a c:=⟨g.1.trans h.1,λi h1 h2=>(g.2 i h1 h2).trans (h.2 i h1 h2)⟩
theorem Jx{st:St}{p ln n:Nat}(L:Lx Z st p ln)(hp:p<=100000)(hX:Z.X.length<=10000):
 ∃st',fx (T Z.X) Z.k [.int n] st=some (.str (T ((Z.X.drop p).take n)),st')/\Lx Z st' (p+n) ln/\iP Z st st'\/n=0:=by
 by_cases hn:n=0
 ·exact⟨st,.inr hn⟩
 refine aG L.pl λps N hk=>?_;have O:=mT hk;have R:fG 1 [(4,AV.int n),(0,.str (T Z.X)),(1,.ref Z.k)]=some (.ref Z.k):=rfl;have S:fG 0 [(4,AV.int n),(0,.str (T Z.X)),(1,.ref Z.k)]=some (.str (T Z.X)):=rfl;have U:fG 4 [(4,AV.int n),(0,.str (T Z.X)),(1,.ref Z.k)]=some (.int n):=rfl;have i1:=tX (ps.map .int ++[.int p]) Z.k 1 (.int p) st hk (by simp) (by decide) (by simp) (by decide);have ap:=r_ (ps.map .int ++[.int p]) Z.k (.int ((p+n:Nat):Int)) st hk (by simp;exact aw N (aw hp (by decide)));let st':=st.set Z.k (.list (ps.map .int ++[.int p]++[.int ((p+n:Nat):Int)]));have J:st'[Z.k]?=some (.list (ps.map .int ++[.int p]++[.int ((p+n:Nat):Int)])):=by rw[get_set,if_pos rfl,if_pos O]
 have j2:=tX (ps.map .int ++[.int p]++[.int ((p+n:Nat):Int)]) Z.k 2 (.int p) st' J (by simp) (by decide) (by simp) (by decide);have j1:=tX (ps.map .int ++[.int p]++[.int ((p+n:Nat):Int)]) Z.k 1 (.int ((p+n:Nat):Int)) st' J (by simp) (by decide) (by simp) (by decide);rw[show-((1:Nat):Int)=-1 from rfl]at i1 j1;rw[show-((2:Nat):Int)=-2 from rfl]at j2;have hs:sM (.str (T Z.X)) (some (p:Int)) (some ((p+n:Nat):Int)) none st'=some (.str (T ((Z.X.drop p).take n)),st'):=by
  show(if(T Z.X).length <=sizeLine/\(none:Option Int)=none then some (AV.str (iR (T Z.X) (some (p:Int)) (some ((p+n:Nat):Int))),st')else none).or _=_;rw[eR,if_pos ⟨by exact aw hX (dm ..),rfl⟩,xX _ _ _ (by exact c8 ..),show p+n -p=n by exact A8 ..];rfl
 have Y:(p:Int)+(n:Int)=((p+n:Nat):Int):=by exact rfl
 refine⟨st',.inl ⟨?_,⟨?_,?_,ps++[(p:Int)],by rw[aT];exact fU N (Nat.pos_of_ne_zero hn),?_⟩,by simp[st'],λi h1 h2=>by rw[get_set,if_neg h1]⟩⟩
 ·unfold fx
  simp only[C4,cM,B5,iJ,bP,R,bz,bo,nF _ _ _ hk,eN,d7,CG,Cz,mG,cT,i1,U,M3,Y,dI,eM,ef,ap,jJ,NW,S,Sn,mG,show st.set Z.k (.list (ps.map .int ++[.int p]++[.int ((p+n:Nat):Int)]))=st' from rfl,j2,j1,Tc,hs]
 ·rw[get_set,if_neg (λe=>Z.Yi e.symm)];exact L.inst
 ·rw[get_set,if_neg (λe=>Z.kd e.symm)];exact L.dict
 ·rw[J];simp
theorem Wl{st:St}{p ln:Nat}(L:Lx Z st p ln):jk (.ref Z.lx) 31 st=some (69,some (.val (.ref Z.sA))):=uS L.inst L.dict
theorem IX{st:St}{p ln:Nat}(L:Lx Z st p ln):jk (.ref Z.lx) 32 st=some (69,some (.int ln)):=uS L.inst L.dict
theorem VP{st:St}{p ln:Nat}(L:Lx Z st p ln):jk (.ref Z.lx) 30 st=some (69,some (.str (T [10,9,13,32]))):=uS L.inst L.dict
theorem Cs{st:St}{p ln:Nat}(L:Lx Z st p ln):jk (.ref Z.lx) 29 st=some (69,some (.ref Z.pb)):=uS L.inst L.dict
theorem sZ{st:St}{p ln:Nat}(L:Lx Z st p ln)(k:Nat)(h:k≠32/\k≠31/\k≠30/\k≠29):jk (.ref Z.lx) k st=some (69,none):=by
 rw[uS L.inst L.dict,LD];have h1:(k==32)=false:=by simpa using h.1
 have h2:(k==31)=false:=by simpa using h.2.1
 have h3:(k==30)=false:=by simpa using h.2.2.1
 have J:(k==29)=false:=by simpa using h.2.2.2
 simp[fG,h1,h2,h3,J]
noncomputable def rc(Z:Pl):SM:=ma (bq Z.sA) (fx (T Z.X) Z.k)
noncomputable def pR(l:List Nat):Nat:=if l=[10]then 1 else 0
theorem yU{st:St}{p ln:Nat}(L:Lx Z st p ln)(hp:p<=100000)(hX:Z.X.length<=10000):
 ∃st',bG [27] (rc Z) [.ref Z.lx] st=some (.str (T ((Z.X.drop p).take 1)),st')/\Lx Z st' (p+1) (ln+pR ((Z.X.drop p).take 1))/\iP Z st st':=by
 refine bO (Jx (n:=1) L hp hX) λst1 h=>?_;refine de (h.resolve_right (by decide)) λh1 O S1=>?_;rw[show((1:Nat):Int)=1 from rfl]at h1;have hF:fG 27 [(27,AV.ref Z.lx)]=some (.ref Z.lx):=rfl;have Z4:bq Z.sA (.val (.ref Z.sA)) st=some []:=by unfold bq;simp
 rw[sG _ _ _ _ rfl];generalize (Z.X.drop p).take 1=c at*;have S:(aj.put [(27,AV.ref Z.lx)] 34 (.str (T c))).lookup 27=some (.ref Z.lx):=rfl;have J:(aj.put [(27,AV.ref Z.lx)] 34 (.str (T c))).lookup 34=some (.str (T c)):=rfl;have N:bj 34 (bU (bq Z.sA) (fx (T Z.X) Z.k) (jn 69 31 (aa 27)) (ab (xk (.int 1)) ag)) [(27,AV.ref Z.lx)] st=some (.next,aj.put [(27,AV.ref Z.lx)] 34 (.str (T c)),st1):=by
  have hh:handed (.val (.ref Z.sA))=true:=rfl;simp only[gF,iJ,sj,bP,hF,bz,bo,Wl L,hh,and_self,if_true,Z4,eN,cT,dI,ef,h1]
 by_cases hc:c=[10]
 ·let bI:=st1.set Z.d (.dict (LD Z.sA (ln+1) Z.pb))
  have Z5:=mT O.dict;have U:setOf 69 (.ref Z.lx) 32 (.int ((ln:Int)+1)) st1=some bI:=I9 O.inst O.dict (by show 4<=1000;decide);have Y:xh 69 32 gM (aa 27) (xk (.int 1)) (aj.put [(27,AV.ref Z.lx)] 34 (.str (T c))) st1=some (.next,aj.put [(27,AV.ref Z.lx)] 34 (.str (T c)),bI):=by
   unfold xh;have hh:handed (.int ln)=true:=rfl;simp only[bP,S,bz,bo,IX O,hh,and_self,if_true,cT,D6,U]
  refine⟨bI,?_,?_,?_⟩
  ·have R:(c==[10])=true:=by simp[hc]
   simp only[rc,ma,cM,ku,mU,N,bo,eQ,iL,iN,d7,bP,J,bz,cT,Dz,nS,R,if_true,Y,ig,jJ]
  ·rw[hc]
   refine⟨?_,?_,?_⟩
   ·rw[get_set,if_neg (λe=>Z.Ys e.symm)];exact O.inst
   ·rw[get_set,if_pos rfl,if_pos Z5];rfl
   ·refine aG O.pl λps a b=>?_
    exact⟨ps,a,by rw[get_set,if_neg Z.kd];exact b⟩
  ·exact S1.trans ⟨by simp[bI],λi h1 h2=>by rw[get_set,if_neg h2]⟩
 ·have R:(c==[10])=false:=by simpa using hc
  refine⟨st1,?_,?_,S1⟩
  ·simp only[rc,ma,cM,ku,mU,N,bo,eQ,iL,iN,d7,bP,J,bz,cT,Dz,nS,R,jh,if_false,ig,jJ]
  ·rw[show pR c=0 from if_neg hc];exact O
end Mine
namespace Mine
open PySem PyProof.Rows PySem.W PySem.Builtin PySem.Builtin.Str
variable{Z:Pl}
structure Fi(Z:Pl)(u:St)(b c:Nat):Prop where
 v_:u[b]?=some (.bound (.ref 52) (.ref Z.lx))
 tI:u[c]?=some (.nH b (.str (T [])))
 bk:b≠Z.k
 bd:b≠Z.d
 ck:c≠Z.k
 cd:c≠Z.d
theorem Fi.same{u J:St}{b c:Nat}(h:Fi Z u b c)(s:iP Z u J):Fi Z J b c:=
 ⟨(s.2 b h.bk h.bd).trans h.v_,(s.2 c h.ck h.cd).trans h.tI,h.bk,h.bd,h.ck,h.cd⟩
noncomputable def nx(Z:Pl):Nat->St->Option (Option AV×St):=ni 52 (bG [27] (rc Z))
theorem Ex{u J:St}{b c fa:Nat}{g:List AV->St->Option (AV×St)}{V:AV}{x r:ae}(i1:u[c]?=some (.nH b (.str x)))(b1:u[b]?=some (.bound (.ref fa) V))(h:g [V] u=some (.str r,J))
 (i2:J[c]?=some (.nH b (.str x)))(b2:J[b]?=some (.bound (.ref fa) V)):ni fa g c u=some (qQ c J x r):=by
 unfold ni;rw[i1];show(u[b]?).bind _=_;rw[b1];refine(if_pos rfl).trans ?_;rw[h];show(J[c]?).bind _=_;rw[i2];show(J[b]?).bind _=_;rw[b2];exact if_pos ⟨rfl,rfl⟩
theorem qH{u:St}{p ln b c ch:Nat}{r:List Nat}(L:Lx Z u p ln)(I:Fi Z u b c)(N:p<=100000)(O:Z.X.length<=10000)(h:Z.X.drop p=ch::r):
 ∃J,(It.gen c (nx Z c)).next u=some (some (.one (.str (T [ch])),.gen c (nx Z c)),J)/\Lx Z J (p+1) (ln+pR [ch])/\iP Z u J:=by
 refine dh (yU L N O) λJ h1 h2 h3=>?_;rw[h]at h1 h2;have I':=I.same h3;refine⟨J,?_,h2,h3⟩;show((ni 52 (bG [27] (rc Z)) c u).map _)=_;rw[Ex I.tI I.v_ h1 I'.tI I'.v_,qQ,if_neg (by simp[Jv])];rfl
theorem Sv{u:St}{p ln b c:Nat}(L:Lx Z u p ln)(I:Fi Z u b c)(N:p<=100000)(O:Z.X.length<=10000)(h:Z.X.drop p=[]):
 ∃J,(It.gen c (nx Z c)).next u=some (none,J.set c .gP)/\Lx Z J (p+1) ln/\iP Z u J:=by
 refine dh (yU L N O) λJ h1 h2 h3=>?_;rw[h]at h1 h2;have I':=I.same h3;refine⟨J,?_,h2,h3⟩;show((ni 52 (bG [27] (rc Z)) c u).map _)=_;rw[Ex I.tI I.v_ h1 I'.tI I'.v_,qQ,if_pos (show T []=T (An 1 [])from rfl)];rfl
noncomputable def gf(its:List (Bool×Nat)):List Nat:=(its.map λp=>if p.1 then[92,p.2]else[p.2]).flatten
noncomputable def gi(its:List (Bool×Nat)):List Nat:=its.map (·.2)
theorem p8(p:Bool×Nat)(its):gf (p::its)=(if p.1 then[92,p.2]else[p.2])++gf its:=rfl
theorem FJ(p:Bool×Nat)(its):gi (p::its)=p.2::gi its:=rfl
noncomputable def pM(Z:Pl):SM:=(ao (cn (aS oEq (aa 34) (xk (.str ("\\":ae)))) (ao (bj 34 (bU (f_ 69 35) (bG [27] (rc Z)) (aa 27) ag))
 aC) aC)
 aC)
noncomputable def DA(Z:Pl):SM:=(ao (cn (aS oEq (aa 34) (xk (.str ("\"":ae)))) (ao (cy (aa 33))
 aC) (pM Z))
 (ao (eS 33 gM (aa 34))
 aC))
noncomputable def Dr(Z:Pl):SM:=(ao (cn (aS l7 (aa 34) (jn 69 30 (aa 27))) (ao (cy (aa 33))
 aC) (pM Z))
 (ao (eS 33 gM (aa 34))
 aC))
theorem HH{u:St}{p ln:Nat}{F:aj}{ch:Nat}(L:Lx Z u p ln)(S:p<=100000)(U:Z.X.length<=10000)(O:F.lookup 27=some (.ref Z.lx))(J:F.lookup 34=some (.str (T [ch]))):
 (ch≠92->pM Z F u=some (.next,F,u))/\(ch=92->∀e r,Z.X.drop p=e::r->∃N,pM Z F u=some (.next,F.put 34 (.str (T [e])),N)/\Lx Z N (p+1) (ln+pR [e])/\iP Z u N):=by
 constructor
 ·intro h
  have hb:(([ch]:List Nat)==[92])=false:=by simpa using h
  simp only[pM,cM,eQ,iL,iN,d7,bP,J,bz,bo,cT,pX,nS,hb,jh,if_false,ig]
 ·intro h e r hr
  refine dh (yU L S U) λN h1 h2 h3=>?_;rw[hr]at h1 h2;have hb:(([ch]:List Nat)==[92])=true:=by simpa using h
  have R:f_ 69 35 (.ref Z.lx) u=some [.ref Z.lx]:=uc (sZ L 35 (by decide));refine⟨N,?_,h2,h3⟩;simp only[pM,cM,eQ,iL,iN,d7,bP,J,O,bz,bo,cT,pX,nS,hb,if_true,gF,iJ,R,dI,gj,h1,ig];rfl
theorem drop_tail{X:List Nat}{p ch:Nat}{r:List Nat}(h:X.drop p=ch::r):X.drop (p+1)=r/\p<X.length:=by
 refine⟨by rw[<-me,h];rfl,?_⟩;by_cases q:p<X.length
 ·exact q
 ·rw[mj (by exact fC q)]at h;cases h
theorem oi{c:Nat}(h:c≠10):pR [c]=0:=if_neg (by simpa using h)
theorem Sl{u:St}{p ln b c:Nat}{F:aj}{tok:List Nat}(it:Bool×Nat)(r:List Nat)(body:SM)(T1:aj->St->Option (Bool×St))(R1:SM)
 (N:body=ao (cn T1 R1 (pM Z)) (ao (eS 33 gM (aa 34)) aC))
 (hT:∀F u p ln ch,Lx Z u p ln->F.lookup 27=some (.ref Z.lx)->F.lookup 34=some (.str (T [ch]))->(ch=92\/(ch=it.2/\it.1=false))->T1 F u=some (false,u))
 (L:Lx Z u p ln)(I:Fi Z u b c)(O:Z.X.length<=10000)(Z6:F.lookup 27=some (.ref Z.lx))(Z7:F.lookup 33=some (.str (T tok)))(Y:tok.length<=1000)(Z4:it.2≠10)(Z8:it.1=false->it.2≠92)
 (h:Z.X.drop p=(if it.1 then[92,it.2]else[it.2])++r):
 ∃ch u1 F2 u2,(It.gen c (nx Z c)).next u=some (some (.one (.str (T [ch])),.gen c (nx Z c)),u1)/\body (F.put 34 (.str (T [ch]))) u1=some (.next,F2,u2)/\F2.lookup 33=some (.str (T (tok++[it.2])))/\F2.lookup 27=some (.ref Z.lx)/\F2.lookup 36=F.lookup 36/\
  Lx Z u2 (p+(if it.1 then[92,it.2]else[it.2]).length) ln/\iP Z u u2/\Z.X.drop (p+(if it.1 then[92,it.2]else[it.2]).length)=r:=by
 have J:∀v,(F.put 34 v).lookup 27=some (.ref Z.lx):=λv=>by rw[bW _ _ _ _ (by decide)];exact Z6
 have Z5:∀v,(F.put 34 v).lookup 33=some (.str (T tok)):=λv=>by rw[bW _ _ _ _ (by decide)];exact Z7
 have R:=λst=>z4 tok [it.2] st (by exact bQ Y (by decide));obtain⟨e,ch⟩:=it;cases e with
 |false=>
  simp only[jh,if_false]at h ⊢;have ht:=drop_tail h;refine dh (qH L I (by exact cq (cK ht.2 (aw O (by decide)))) O h) λu1 n1 S S1=>?_;rw[oi Z4]at S;have hb:=(HH (F:=F.put 34 (.str (T [ch]))) S (by exact aw ht.2 (aw O (by decide))) O (J _) (cX ..)).1 (Z8 rfl);refine⟨ch,u1,(F.put 34 (.str (T [ch]))).put 33 (.str (T (tok++[ch]))),u1,n1,?_,cX ..,by rw[bW _ _ _ _ (by decide)];exact J _,by rw[bW _ _ _ _ (by decide),bW _ _ _ _ (by decide)],S,S1,ht.1⟩;subst N;simp only[cM,eQ,hT (F.put 34 (.str (T [ch]))) u1 _ _ ch S (J _) (cX ..) (.inr ⟨rfl,rfl⟩),bo,jh,if_false,hb,pC,Z5,bP,cX,bz,R,ig]
 |true=>
  simp only[if_true]at h ⊢;have ht:=drop_tail h;have U:=drop_tail ht.1;refine dh (qH L I (by exact aw (cq (Aj (cK U.2 O))) (by decide)) O h) λu1 n1 S S1=>?_;rw[oi (by decide)]at S;refine dh ((HH (F:=F.put 34 (.str (T [92]))) S (by exact cq (cK U.2 (aw O (by decide)))) O (J _) (cX ..)).2 rfl ch r ht.1) λu2 hb L2 S2=>?_;rw[oi Z4]at L2;refine⟨92,u1,((F.put 34 (.str (T [92]))).put 34 (.str (T [ch]))).put 33 (.str (T (tok++[ch]))),u2,n1,?_,cX ..,?_,?_,L2,S1.trans S2,U.1⟩
  ·subst N
   have Z9:((F.put 34 (.str (T [92]))).put 34 (.str (T [ch]))).lookup 33=some (.str (T tok)):=by rw[bW _ _ _ _ (by decide)];exact Z5 _
   simp only[cM,eQ,hT (F.put 34 (.str (T [92]))) u1 _ _ 92 S (J _) (cX ..) (.inl rfl),bo,jh,if_false,hb,pC,Z9,bP,cX,bz,R,ig]
  ·rw[bW _ _ _ _ (by decide),bW _ _ _ _ (by decide)];exact J _
  ·rw[bW _ _ _ _ (by decide),bW _ _ _ _ (by decide),bW _ _ _ _ (by decide)]
theorem BY{b c:Nat}(body:SM)(S:aj->St->Option (Bool×St))(J:body=ao (cn S (ao (cy (aa 33)) aC) (pM Z)) (ao (eS 33 gM (aa 34)) aC))(good:Nat->Prop)(fin:Nat)(N:fin≠10)(hX:Z.X.length<=10000)
 (hT:∀F u p ln ch,Lx Z u p ln->F.lookup 27=some (.ref Z.lx)->F.lookup 34=some (.str (T [ch]))->(ch=92\/good ch)->S F u=some (false,u))
 (U:∀F u p ln,Lx Z u p ln->F.lookup 27=some (.ref Z.lx)->F.lookup 34=some (.str (T [fin]))->S F u=some (true,u)):
 ∀(its:List (Bool×Nat))(fuel p ln:Nat)(u:St)(F:aj)(tok rest:List Nat),its.length<fuel->Lx Z u p ln->Fi Z u b c->F.lookup 27=some (.ref Z.lx)->F.lookup 33=some (.str (T tok))->tok.length+its.length<=1000->
  (∀it∈its,it.2≠10/\(it.1=false->it.2≠92/\good it.2))->Z.X.drop p=gf its++fin::rest->
  ∃F' Y p',cB (.name 34) body fuel (.gen c (nx Z c)) F u=some (.ret (.str (T (tok++gi its))),F',Y)/\Lx Z Y p' ln/\iP Z u Y/\Z.X.drop p'=rest
 |its,0,p,ln,u,F,tok,rest,h,_,_,_,_,_,_,_=>absurd h (gk _)
 |[],fuel+1,p,ln,u,F,tok,rest,_,L,I,O,R,_,_,h=>by
  have ht:=drop_tail (h:Z.X.drop p=fin::rest);refine dh (qH L I (by exact cq (cK ht.2 (aw hX (by decide)))) hX (h:Z.X.drop p=fin::rest)) λu1 n1 L1 S1=>?_;rw[oi N]at L1;refine⟨F.put 34 (.str (T [fin])),u1,p+1,?_,L1,S1,ht.1⟩;have Z4:(F.put 34 (.str (T [fin]))).lookup 33=some (.str (T tok)):=by rw[bW _ _ _ _ (by decide)];exact R
  have hb:body (F.put 34 (.str (T [fin]))) u1=some (.ret (.str (T tok)),F.put 34 (.str (T [fin])),u1):=by
   subst J;simp only[cM,eQ,U (F.put 34 (.str (T [fin]))) u1 _ _ L1 (by rw[bW _ _ _ _ (by decide)];exact O) (cX ..),bo,if_true,jJ,bP,Z4,bz]
  rw[Pr rfl n1 rfl hb];simp[gi]
 |it::its,fuel+1,p,ln,u,F,tok,rest,hf,L,I,O,R,hl,hg,h=>by
  have hit:=hg it (cj ..);rw[p8,dn]at h;refine p7 (Sl it _ body S _ J (λF u p ln ch L a b c=>hT F u p ln ch L a b (c.imp id λq=>by rw[q.1];exact(hit.2 q.2).2)) L I hX O R (by exact cq (bQ (c8 ..) hl)) hit.1 (λq=>(hit.2 q).1) h) λch u1 F2 u2 n1 hb rj Z5=>?_;refine yB Z5 λoJ _ L2 S2 hr=>?_;refine jW (BY body S J good fin N hX hT U its fuel _ ln u2 F2 (tok++[it.2]) rest (by exact fV hf) L2 (I.same S2) oJ rj (by simp at hl ⊢;exact(hH ..)▸hl) (λx hx=>hg x (cw _ hx)) hr) λF' Y p' e1 e2 e3 e4=>?_;refine⟨F',Y,p',?_,e2,S2.trans e3,e4⟩;refine(nE rfl n1 rfl).trans ?_;rw[hb];refine e1.trans ?_;rw[FJ,dn];rfl
end Mine
namespace Mine
open PySem PyProof.Rows PySem.W PySem.Builtin PySem.Builtin.Str
variable{Z:Pl}
noncomputable def gS:List Nat:=[10,9,13,32]
noncomputable def zx:aj->St->Option (Bool×St):=aS l7 (aa 34) (jn 69 30 (aa 27))
noncomputable def tQ:aj->St->Option (Bool×St):=aS oEq (aa 34) (xk (.str ("\"":ae)))
theorem sN{F:aj}{u:St}{p ln ch:Nat}(L:Lx Z u p ln)(J:F.lookup 27=some (.ref Z.lx))(N:F.lookup 34=some (.str (T [ch]))):zx F u=some (decide (ch∈gS),u):=by
 have O:handed (.str (T [10,9,13,32]))=true:=rfl;simp only[zx,iL,iN,d7,bP,N,bz,bo,sj,J,VP L,O,and_self,if_true,E0];rfl
theorem vr{F:aj}{u:St}{ch:Nat}(J:F.lookup 34=some (.str (T [ch]))):tQ F u=some (([ch]:List Nat)==[34],u):=by
 simp only[tQ,iL,iN,d7,bP,J,bz,bo,cT,v8,nS]
noncomputable def tL(Z:Pl)(body:SM):SM:=λF st=>((tl (ni 52 (bG [27] (rc Z))) (aa 36)) F st).bind λp=>cB (.name 34) body 400 p.1 F p.2
theorem u_{F:aj}{u:St}{b c:Nat}(body:SM)(I:Fi Z u b c)(J:F.lookup 36=some (.ref c)):tL Z body F u=cB (.name 34) body 400 (.gen c (nx Z c)) F u:=by
 unfold tL tl;rw[show aa 36 F u=some (.ref c,u)from by rw[bP,J];rfl];show((u[c]?).bind _).bind _=_;rw[I.tI];rfl
noncomputable def ny(Z:Pl):SM:=(ao (cn zx (ao yY
 aC) aC)
 (ao (cn tQ (ao (tL Z (DA Z))
 aC) (ao (cn (aS oEq (aa 34) (xk (.str ("\\":ae)))) (ao (bj 34 (bU (f_ 69 35) (bG [27] (rc Z)) (aa 27) ag))
 aC) aC)
 (ao (eS 33 gM (aa 34))
 (ao (tL Z (Dr Z))
 aC))))
 aC))
theorem PO{b c:Nat}(R:Z.X.length<=10000)(its:List (Bool×Nat))(p ln:Nat)(u:St)(F:aj)(tok rest:List Nat)(hl:its.length<400)(L:Lx Z u p ln)(I:Fi Z u b c)(J:F.lookup 27=some (.ref Z.lx))(N:F.lookup 33=some (.str (T tok)))(ht:tok.length+its.length<=1000)
 (hg:∀it∈its,it.2≠10/\(it.1=false->it.2≠92/\it.2≠34))(h:Z.X.drop p=gf its++34::rest):
 ∃F' O p',cB (.name 34) (DA Z) 400 (.gen c (nx Z c)) F u=some (.ret (.str (T (tok++gi its))),F',O)/\Lx Z O p' ln/\iP Z u O/\Z.X.drop p'=rest:=
 BY (DA Z) tQ rfl (λch=>ch≠34) 34 (by decide) R
  (λF u p ln ch L a b c=>by rw[vr b];rcases c with rfl|c<;>simp;exact c)
  (λF u p ln L a b=>by rw[vr b];rfl) its 400 p ln u F tok rest hl L I J N ht hg h
theorem FH{b c:Nat}(R:Z.X.length<=10000)(fin:Nat)(hf:fin=9\/fin=13\/fin=32)(its:List (Bool×Nat))(p ln:Nat)(u:St)(F:aj)(tok rest:List Nat)(hl:its.length<400)(L:Lx Z u p ln)(I:Fi Z u b c)(J:F.lookup 27=some (.ref Z.lx))(N:F.lookup 33=some (.str (T tok)))(ht:tok.length+its.length<=1000)
 (hg:∀it∈its,it.2≠10/\(it.1=false->it.2≠92/\it.2∉gS))(h:Z.X.drop p=gf its++fin::rest):
 ∃F' O p',cB (.name 34) (Dr Z) 400 (.gen c (nx Z c)) F u=some (.ret (.str (T (tok++gi its))),F',O)/\Lx Z O p' ln/\iP Z u O/\Z.X.drop p'=rest:=
 BY (Dr Z) zx rfl (λch=>ch∉gS) fin (by exactλe=>absurd (e▸hf) (by decide)) R
  (λF u p ln ch L a b c=>by rw[sN L a b];rcases c with rfl|c<;>simp[gS];simpa[gS]using c)
  (λF u p ln L a b=>by rw[sN L a b];rcases hf with rfl|rfl|rfl<;>rfl) its 400 p ln u F tok rest hl L I J N ht hg h
noncomputable def Form(its:List (Bool×Nat))(txt:List Nat):Prop:=
 (txt=34::(gf its++[34])/\∀it∈its,it.2≠10/\(it.1=false->it.2≠92/\it.2≠34))\/
 (∃fin,txt=gf its++[fin]/\(fin=9\/fin=13\/fin=32)/\(∀it∈its,it.2≠10/\(it.1=false->it.2≠92/\it.2∉gS))/\∃i is,its=i::is/\(i.1=false->i.2≠34))
theorem Ln{b c:Nat}(R:Z.X.length<=10000)(its:List (Bool×Nat))(txt:List Nat)(hF:Form its txt)(hl:its.length<300)(fuel p ln:Nat)(u:St)(F:aj)(rest:List Nat)(L:Lx Z u p ln)(I:Fi Z u b c)
 (h27:F.lookup 27=some (.ref Z.lx))(h33:F.lookup 33=some (.str (T [])))(h36:F.lookup 36=some (.ref c))(h:Z.X.drop p=txt++rest):
 ∃F' S p',cB (.name 34) (ny Z) (fuel+1) (.gen c (nx Z c)) F u=some (.ret (.str (T (gi its))),F',S)/\Lx Z S p' ln/\iP Z u S/\Z.X.drop p'=rest:=by
 have N:∀v,(F.put 34 v).lookup 27=some (.ref Z.lx):=λv=>by rw[bW _ _ _ _ (by decide)];exact h27
 have Z5:∀v,(F.put 34 v).lookup 33=some (.str (T [])):=λv=>by rw[bW _ _ _ _ (by decide)];exact h33
 have Z6:∀v,(F.put 34 v).lookup 36=some (.ref c):=λv=>by rw[bW _ _ _ _ (by decide)];exact h36
 rcases hF with⟨rfl,hg⟩|⟨fin,rfl,hf,hg,i,is,rfl,hi⟩
 ·have h':Z.X.drop p=34::(gf its++34::rest):=by rw[h];simp
  have ht:=drop_tail h';refine dh (qH L I (by exact cq (cK ht.2 (aw R (by decide)))) R h') λu1 n1 O U=>?_;rw[oi (by decide)]at O;refine jW (PO R its (p+1) ln u1 (F.put 34 (.str (T [34]))) [] rest (by exact aw hl (dm ..)) O (I.same U) (N _) (Z5 _) (by simp;exact aw (fV hl) (by decide)) hg ht.1) λF' S p' e1 e2 e3 e4=>?_;refine⟨F',S,p',?_,e2,U.trans e3,e4⟩;rw[nE rfl n1 rfl];have t1:=sN O (N (.str (T [34]))) (cX ..);have Y:=vr (F:=F.put 34 (.str (T [34]))) (u:=u1) (ch:=34) (cX ..);rw[show decide (34∈gS)=false from rfl]at t1;rw[show(([34]:List Nat)==[34])=true from rfl]at Y;simp only[ny,cM,eQ,t1,bo,jh,if_false,ig,Y,if_true,u_ _ (I.same U) (Z6 _),e1];rfl
 ·have hit:=hg i (cj ..)
  have h':Z.X.drop p=(if i.1 then[92,i.2]else[i.2])++(gf is++fin::rest):=by rw[h,p8];simp
  obtain⟨ie,J⟩:=i;have Z4:=λst=>z4 [] [J] st (by simp);cases ie with
  |false=>
   simp only[jh,if_false]at h';have ht:=drop_tail h';have q:=hit.2 rfl;refine dh (qH L I (by exact cq (cK ht.2 (aw R (by decide)))) R h') λu1 n1 O U=>?_;rw[oi hit.1]at O;have t1:=sN O (N (.str (T [J]))) (cX ..);have Y:=vr (F:=F.put 34 (.str (T [J]))) (u:=u1) (ch:=J) (cX ..);rw[decide_eq_false q.2]at t1;rw[show(([J]:List Nat)==[34])=false by simpa using hi rfl]at Y;have hb:(([J]:List Nat)==[92])=false:=by simpa using q.1
   refine jW (FH R fin hf is (p+1) ln u1 ((F.put 34 (.str (T [J]))).put 33 (.str (T [J]))) [J] rest (by exact cq (cK hl (by decide))) O (I.same U) (by rw[bW _ _ _ _ (by decide)];exact N _) (cX ..) (by exact aw (bS (gI ..)) (cq (du hl (by decide)))) (λx hx=>hg x (cw _ hx)) ht.1) λF' S p' e1 e2 e3 e4=>?_;refine⟨F',S,p',?_,e2,U.trans e3,e4⟩;rw[nE rfl n1 rfl];have Z7:((F.put 34 (.str (T [J]))).put 33 (.str (T [J]))).lookup 36=some (.ref c):=by rw[bW _ _ _ _ (by decide)];exact Z6 _
   simp only[ny,cM,eQ,t1,bo,jh,if_false,ig,Y,iL,iN,d7,bP,cX,bz,cT,pX,nS,hb,pC,Z5,Z4,ef,u_ _ (I.same U) Z7,e1];rfl
  |true=>
   simp only[if_true]at h';have ht:=drop_tail h';have Z8:=drop_tail ht.1;refine dh (qH L I (by exact aw (cq (Aj (cK Z8.2 R))) (by decide)) R h') λu1 n1 O U=>?_;rw[oi (by decide)]at O;have t1:=sN O (N (.str (T [92]))) (cX ..);have Y:=vr (F:=F.put 34 (.str (T [92]))) (u:=u1) (ch:=92) (cX ..);rw[show decide (92∈gS)=false from rfl]at t1;rw[show(([92]:List Nat)==[34])=false from rfl]at Y;refine dh (yU O (by exact cq (cK Z8.2 (aw R (by decide)))) R) λu2 Z_ L2 S2=>?_;rw[ht.1]at Z_ L2;have hr1':bG [27] (rc Z) [.ref Z.lx] u1=some (.str (T [J]),u2):=Z_;have L2':Lx Z u2 (p+1+1) ln:=by have:pR (An 1 ([J].append (gf is++fin::rest)))=0:=oi hit.1;rw[this]at L2;exact L2
   have hrs:f_ 69 35 (.ref Z.lx) u1=some [.ref Z.lx]:=uc (sZ O 35 (by decide));have Z9:=U.trans S2;have q33:((F.put 34 (.str (T [92]))).put 34 (.str (T [J]))).lookup 33=some (.str (T [])):=by rw[bW _ _ _ _ (by decide)];exact Z5 _
   refine jW (FH R fin hf is (p+1+1) ln u2 (((F.put 34 (.str (T [92]))).put 34 (.str (T [J]))).put 33 (.str (T [J]))) [J] rest (by exact cq (cK hl (by decide))) L2' (I.same Z9) (by rw[bW _ _ _ _ (by decide),bW _ _ _ _ (by decide)];exact N _) (cX ..) (by exact aw (bS (gI ..)) (cq (du hl (by decide)))) (λx hx=>hg x (cw _ hx)) Z8.1) λF' S p' e1 e2 e3 e4=>?_;refine⟨F',S,p',?_,e2,Z9.trans e3,e4⟩;rw[nE rfl n1 rfl];have Z7:(((F.put 34 (.str (T [92]))).put 34 (.str (T [J]))).put 33 (.str (T [J]))).lookup 36=some (.ref c):=by rw[bW _ _ _ _ (by decide),bW _ _ _ _ (by decide)];exact Z6 _
   simp only[ny,cM,eQ,t1,bo,jh,if_false,ig,Y,iL,iN,d7,bP,cX,bz,cT,pX,nS,show(([92]:List Nat)==[92])=true from rfl,if_true,gF,iJ,N,hrs,dI,gj,hr1',pC,q33,Z4,ef,u_ _ (I.same Z9) Z7,e1];rfl
theorem FQ{b c:Nat}(S:Z.X.length<=10000)(its:List (Bool×Nat))(txt:List Nat)(U:Form its txt)(hl:its.length<300):∀(w:List Nat)(fuel p ln:Nat)(u:St)(F:aj)(rest:List Nat),w.length<fuel->(∀x∈w,x∈gS)->Lx Z u p ln->Fi Z u b c->
 F.lookup 27=some (.ref Z.lx)->F.lookup 33=some (.str (T []))->F.lookup 36=some (.ref c)->Z.X.drop p=w++(txt++rest)->
 ∃F' R p',cB (.name 34) (ny Z) fuel (.gen c (nx Z c)) F u=some (.ret (.str (T (gi its))),F',R)/\Lx Z R p' (ln+w.count 10)/\iP Z u R/\Z.X.drop p'=rest
 |w,0,p,ln,u,F,rest,h,_,_,_,_,_,_,_=>absurd h (gk _)
 |[],fuel+1,p,ln,u,F,rest,_,_,L,I,J,N,O,h=>Ln S its txt U hl fuel p ln u F rest L I J N O h
 |x::w,fuel+1,p,ln,u,F,rest,hf,hw,L,I,J,N,O,h=>by
  have hx:=hw x (cj ..);have h':Z.X.drop p=x::(w++(txt++rest)):=h;have ht:=drop_tail h';refine dh (qH L I (by exact cq (cK ht.2 (aw S (by decide)))) S h') λu1 n1 Y S1=>?_;have t1:=sN Y (show(F.put 34 (.str (T [x]))).lookup 27=some (.ref Z.lx) by rw[bW _ _ _ _ (by decide)];exact J) (cX ..);rw[decide_eq_true hx]at t1;obtain⟨F',R,p',e1,e2,e3,e4⟩:=FQ S its txt U hl w fuel (p+1) _ u1 (F.put 34 (.str (T [x]))) rest (by exact fV hf) (λy hy=>hw y (cw _ hy)) Y (I.same S1)
   (by rw[bW _ _ _ _ (by decide)];exact J) (by rw[bW _ _ _ _ (by decide)];exact N) (by rw[bW _ _ _ _ (by decide)];exact O) ht.1
  have hc:ln+pR [x]+w.count 10=ln+(x::w).count 10:=by
   by_cases q:x=10
   ·subst q;rw[List.count_cons_self,show pR [10]=1 from rfl];exact hH ..
   ·rw[oi q,List.count_cons_of_ne q];exact rfl
  rw[hc]at e2;refine⟨F',R,p',?_,e2,S1.trans e3,e4⟩;rw[nE rfl n1 rfl];have hb:ny Z (F.put 34 (.str (T [x]))) u1=some (.cont,F.put 34 (.str (T [x])),u1):=by
   simp only[ny,cM,eQ,t1,bo,if_true,Tb]
  rw[hb];exact e1
noncomputable def gt(Z:Pl):SM:=oN (bq Z.sA) (fx (T Z.X) Z.k)
theorem Jw:gt Z=(ao (cn (kj ix (jn 69 29 (aa 27))) (ao (cy (bU ek qZ (jn 69 29 (aa 27)) (ab (xk (.int 0)) ag)))
 aC) aC)
 (ao (bj 33 (xk (.str ("":ae))))
 (ao (bj 36 (bK qS (ab (sX 69 52 35 (aa 27)) (ab (xk (.str ("":ae))) ag))))
 (ao (tL Z (ny Z))
 (ao (cy (aa 33))
 aC))))):=rfl
noncomputable def F0(Z:Pl)(n:Nat):aj:=[(27,.ref Z.lx),(33,.str (T [])),(36,.ref (n+1))]
noncomputable def U0(Z:Pl)(st:St):St:=st++[.bound (.ref 52) (.ref Z.lx)]++[.nH st.length (.str (T []))]
theorem Fv{st:St}{p ln:Nat}(L:Lx Z st p ln)(N:st[Z.pb]?=some (.list [])):gt Z [(27,.ref Z.lx)] st=(tL Z (ny Z) (F0 Z st.length) (U0 Z st)).bind λp=>match p.1 with
 |.next =>ao (cy (aa 33)) aC p.2.1 p.2.2
 |fl=>some (fl,p.2.1,p.2.2):=by
 have O:fG 27 [(27,AV.ref Z.lx)]=some (.ref Z.lx):=rfl;have S:handed (.ref Z.pb)=true:=rfl;have R:ix (.ref Z.pb) st=some false:=Fp N (cJ _);rw[Jw,cM];simp only[eQ,lM,sj,bP,O,bz,bo,Cs L,S,and_self,if_true,R,jh,if_false,ig];rw[cM];simp only[gF,cT,bz,bo,lX];rw[cM];have J:(aj.put [(27,AV.ref Z.lx)] 33 (.str (T []))).lookup 27=some (.ref Z.lx):=rfl;have hb:sX 69 52 35 (aa 27) (aj.put [(27,AV.ref Z.lx)] 33 (.str (T []))) st=some (.ref st.length,st++[.bound (.ref 52) (.ref Z.lx)]):=M4 (by rw[bP,J];rfl) (sZ L 35 (by decide));have hi:qS [.ref st.length,.str (T [])] (st++[.bound (.ref 52) (.ref Z.lx)])=some (.ref (st.length+1),st++[.bound (.ref 52) (.ref Z.lx)]++[.nH st.length (.str (T []))]):=by
  show((st++[AO.bound (.ref 52) (.ref Z.lx)])[st.length]?).bind _=_;rw[List.getElem?_concat_length];show some (AV.ref (st++[AO.bound (.ref 52) (.ref Z.lx)]).length,_)=_;rw[aT];rfl
 simp only[gF,j4,eN,hb,cT,dI,bz,bo,hi];rw[cM];rfl
theorem J0{st:St}{p ln:Nat}(L:Lx Z st p ln):Lx Z (U0 Z st) p ln:=by
 refine aG L.pl λps a b=>?_;have g:∀i o,st[i]?=some o->(U0 Z st)[i]?=some o:=λi o h=>by
  unfold U0;rw[dn,pF (mT h)];exact h
 exact⟨g _ _ L.inst,g _ _ L.dict,ps,a,g _ _ b⟩
theorem zt{st:St}{p ln:Nat}(L:Lx Z st p ln):Fi Z (U0 Z st) st.length (st.length+1):=by
 have h1:=mT L.dict;have h2:Z.k<st.length:=by refine aG L.pl λps a b=>?_;exact mT b
 exact⟨by simp[U0],by simp[U0],by exact jf h2,by exact jf h1,by exact jf (sf h2),by exact jf (sf h1)⟩
theorem Js{st u:St}(h:iP Z (U0 Z st) u):aN [Z.k,Z.d] st u:=by
 have J:(U0 Z st).length =st.length+2:=by simp[U0]
 refine⟨by rw[h.1,J];exact c8 ..,λi hi n=>?_⟩;rw[bJ,cx,not_or]at n;rw[h.2 i n.1 n.2];unfold U0;rw[dn,pF hi]
theorem TM{st:St}{p ln:Nat}(L:Lx Z st p ln)(J:st[Z.pb]?=some (.list []))(O:Z.X.length<=10000)(its:List (Bool×Nat))(txt w rest:List Nat)(R:Form its txt)(hl:its.length<300)(hwl:w.length<400)(N:∀x∈w,x∈gS)(h:Z.X.drop p=w++(txt++rest)):
 ∃st' p',bG [27] (gt Z) [.ref Z.lx] st=some (.str (T (gi its)),st')/\Lx Z st' p' (ln+w.count 10)/\aN [Z.k,Z.d] st st'/\Z.X.drop p'=rest:=by
 refine jW (FQ O its txt R hl w 400 p ln (U0 Z st) (F0 Z st.length) rest hwl N (J0 L) (zt L) rfl rfl rfl h) λF' S p' U Y e3 e4=>?_;refine⟨S,p',?_,Y,Js e3,e4⟩;refine rK (F':=F') rfl ?_;simp only[ku,mU];rw[Fv L J,u_ _ (zt L) rfl,U];rfl
theorem Wo{st:St}{p ln:Nat}(L:Lx Z st p ln)(N:st[Z.pb]?=some (.list []))(U:Z.X.length<=10000)(Y:p<=100000)(h:Z.X.drop p=[]):
 ∃st',bG [27] (gt Z) [.ref Z.lx] st=some (.str (T []),st')/\Lx Z st' (p+1) ln/\aN [Z.k,Z.d] st st':=by
 refine dh (Sv (J0 L) (zt L) Y U h) λJ n1 O S1=>?_;have h1:=mT L.dict;have h2:Z.k<st.length:=by refine aG L.pl λps a b=>?_;exact mT b
 have h3:=mT L.inst;have gs:∀i,i<st.length->(J.set (st.length+1) .gP)[i]?=J[i]?:=λi hi=>by rw[get_set,if_neg (by exact rN (Qj _ hi))]
 have L2:Lx Z (J.set (st.length+1) .gP) (p+1) ln:=by
  refine aG O.pl λps a b=>?_;exact⟨by rw[gs _ h3];exact O.inst,by rw[gs _ h1];exact O.dict,ps,a,by rw[gs _ h2];exact b⟩
 have S:=Js S1;refine⟨J.set (st.length+1) .gP,?_,L2,by rw[xj];exact S.len,λi hi n=>by rw[gs i hi];exact S.at' i hi n⟩;have hs:cB (.name 34) (ny Z) 400 (.gen (st.length+1) (nx Z (st.length+1))) (F0 Z st.length) (U0 Z st)=some (.next,F0 Z st.length,J.set (st.length+1) .gP):=by
  exact wG (fuel:=399) rfl n1
 have R:fG 33 (F0 Z st.length)=some (.str (T [])):=rfl;refine rK (F':=F0 Z st.length) rfl ?_;simp only[ku,mU];rw[Fv L N,u_ _ (zt L) rfl,hs];simp only[bo,cM,jJ,bP,R,bz]
theorem UQ{st:St}{p ln:Nat}(L:Lx Z st p ln)(q:AV)(N:List AV)(J:st[Z.pb]?=some (.list (q::N)))(O:N.length<=10000):
 bG [27] (gt Z) [.ref Z.lx] st=some (q,st.set Z.pb (.list N)):=by
 refine rK (F':=[(27,.ref Z.lx)]) rfl ?_;have S:fG 27 [(27,AV.ref Z.lx)]=some (.ref Z.lx):=rfl;have Y:handed (.ref Z.pb)=true:=rfl;have U:ix (.ref Z.pb) st=some true:=Fp J (by exact bQ O (by decide));have R:qZ [.ref Z.pb,.int 0] st=some (q,st.set Z.pb (.list N)):=by
  show(bF st Z.pb).bind _=_;rw[dC J];refine(if_pos ⟨by exact bQ O (by decide),by decide⟩).trans ?_;have e:seqIndex? 0 (q::N).length =some 0:=by unfold seqIndex?;simp
  rw[e];rfl
 rw[Jw,cM];simp only[ku,mU,eQ,lM,sj,bP,S,bz,bo,Cs L,Y,and_self,if_true,U,cM,jJ,iJ,nF _ _ _ J,eN,cT,dI,eM,ef,R]
theorem Tu{st:St}{p ln:Nat}(L:Lx Z st p ln)(v:AV)(N:List AV)(J:st[Z.pb]?=some (.list N))(O:N.length<=10000):
 bG [27,33] p4 [.ref Z.lx,v] st=some (.none,st.set Z.pb (.list (N++[v]))):=by
 rw[sG _ _ _ _ rfl];have R:fG 27 [(27,AV.ref Z.lx),(33,v)]=some (.ref Z.lx):=rfl;have S:fG 33 [(27,AV.ref Z.lx),(33,v)]=some v:=rfl;have U:handed (.ref Z.pb)=true:=rfl;have Y:=r_ N Z.pb v st J (by exact aw O (dm ..));simp only[p4,cM,ku,mU,B5,iJ,sj,bP,R,S,bz,bo,Cs L,U,and_self,if_true,nF _ _ _ J,eN,dI,eM,ef,Y,ig]
end Mine
namespace Mine
open PySem PyProof.Rows PySem.W PySem.Builtin PySem.Builtin.Str
noncomputable def js(l:List Nat):Prop:=10∉l/\13∉l
noncomputable def lift:List Nat->List Nat
 |46::r=>46::46::r
 |l=>l
theorem MO(c:Nat)(r:List Nat)(h1:c≠10)(h2:c≠13):dY (c::r)=c::dY r:=by
 cases r with
 |nil=>simp[wJ,Fk,h1,h2]
 |cons d r=>simp[rQ,h1,h2]
theorem Ee:∀(w t:List Nat),js w->dY (w++t)=w++dY t:=by
 intro w;induction w with
 |nil=>
  intro t _;exact rfl
 |cons c w J=>
  intro t h;have h1:c≠10:=λe=>h.1 (by simp[e]);have h2:c≠13:=λe=>h.2 (by simp[e]);rw[eM,MO _ _ h1 h2,J t ⟨λm=>h.1 (cw _ m),λm=>h.2 (cw _ m)⟩];rfl
theorem RL(t:List Nat):dY (10::t)=13::10::dY t:=by
 cases t with
 |nil=>rfl
 |cons d r=>rfl
theorem MG(t:List Nat):dY (13::10::t)=13::10::dY t:=rfl
theorem S4(t:List Nat)(h:t.head?≠some 10):dY (13::t)=13::10::dY t:=by
 cases t with
 |nil=>rfl
 |cons d r=>
  have:d≠10:=λe=>h (by simp[e]);simp[rQ,this]
noncomputable def s_(p:List Nat×List Nat):Prop:=js p.1/\p.1≠[]/\(p.2=[10]\/p.2=[13]\/p.2=[13,10])
noncomputable def lines(ls:List (List Nat×List Nat)):List Nat:=(ls.map λp=>p.1++p.2).flatten
noncomputable def gb(bs:List (List Nat)):List Nat:=(bs.map λb=>b++[13,10]).flatten
theorem LW(tail:List Nat)(ht:js tail):∀ls,(∀p∈ls,s_ p)->(lines ls++tail).head? ≠some 10:=by
 intro ls;induction ls with
 |nil=>
  intro _;intro h
  have:10∈tail:=List.mem_of_mem_head? (by simpa[lines]using h);exact ht.1 this
 |cons N ls O=>
  obtain⟨b,n⟩:=N;intro h;have hb:=h _ (cj ..);intro e;cases J:b with
  |nil=>exact hb.2.1 J
  |cons c r=>
   rw[J]at e hb;simp[lines]at e;exact hb.1.1 (by simp[e])
theorem Lu(tail:List Nat)(ht:js tail):∀ls,(∀p∈ls,s_ p)->dY (lines ls++tail)=gb (ls.map (·.1))++tail:=by
 intro ls;induction ls with
 |nil=>
  intro _;show dY tail=tail;have:=Ee tail [] ht;simpa[Fk]using this
 |cons R ls J=>
  obtain⟨b,n⟩:=R;intro h;have hb:=h _ (cj ..);have N:=J λp O=>h p (cw _ O);have S:=LW tail ht ls λp O=>h p (cw _ O);have e:lines ((b,n)::ls)++tail=b++(n++(lines ls++tail)):=by simp[lines]
  rw[e,Ee _ _ hb.1];have U:gb (xD (·.1) ((b,n)::ls))++tail=b++(13::10::(gb (xD (·.1) ls)++tail)):=by simp[gb]
  rw[U];rcases hb.2.2 with q|q|q<;>simp only[]at q<;>subst q
  ·rw[eM,ef,RL,N]
  ·rw[eM,ef,S4 _ S,N]
  ·rw[eM,eM,ef,MG,N]
theorem Lp:∀(w t:List Nat),10∉w->c9 false (w++t)=w++c9 false t:=by
 intro w;induction w with
 |nil=>
  intro t _;exact rfl
 |cons c w J=>
  intro t h;have h1:(c==10)=false:=by simpa usingλe=>h (by simp[e])
  rw[eM,t9];simp only[AF,jh,if_false,h1];rw[J t λm=>h (cw _ m)];rfl
theorem D8(w t:List Nat)(h:10∉w)(hw:w≠[]):c9 true (w++t)=lift w++c9 false t:=by
 cases w with
 |nil=>exact absurd rfl hw
 |cons c w=>
  have hc:=Lp w t λm=>h (cw _ m);by_cases q:c=46
  ·subst q
   rw[eM,t9];simp only[AX,beq_self_eq_true,if_true,hc];rfl
  ·have h1:(c==10)=false:=by simpa usingλe=>h (by simp[e])
   have h2:(c==46)=false:=by simpa using q
   rw[eM,t9];simp only[AX,h2,jh,if_false,h1,hc];unfold lift;split
   ·rename_i r e
    simp at e;exact absurd e.1 q
   ·rfl
theorem Lh(tail:List Nat)(ht:js tail)(J:tail≠[]):∀bs:List (List Nat),(∀b∈bs,js b/\b≠[])->c9 true (gb bs++tail)=gb (bs.map lift)++lift tail:=by
 intro bs;induction bs with
 |nil=>
  intro _;have:=D8 tail [] ht.1 J;simpa[gb,Qd]using this
 |cons b bs N=>
  intro h;have hb:=h _ (cj ..);have O:=N λp R=>h p (cw _ R);have e:gb (b::bs)++tail=b++(13::10::(gb bs++tail)):=by simp[gb]
  rw[e,D8 _ _ hb.1.1 hb.2];have S:c9 false (13::10::(gb bs++tail))=13::10::c9 true (gb bs++tail):=rfl;rw[S,O];simp[gb]
theorem L4{b:List Nat}(h:js b/\b≠[]):js (lift b)/\lift b≠[]:=by
 unfold lift;split
 ·rename_i r
  refine⟨⟨λm=>h.1.1 ?_,λm=>h.1.2 ?_⟩,by simp⟩
  ·simp at m ⊢;exact m
  ·simp at m ⊢;exact m
 ·exact h
noncomputable def fu(j:Nat)(b:List Nat):List Nat:=match b with
 |46::r=>bZ j 46++46::r
 |l=>l
theorem D9(b:List Nat):fu 0 b=b:=by
 unfold fu;split<;>rfl
noncomputable def pQ(x:List Nat):List Nat:=c9 true (dY x)
theorem AL:∀x:List Nat,(dY x).length <=2*x.length
 |[]=>cJ _
 |[c]=>by rw[wJ];split<;>simp
 |c::d::r=>by
  have h1:=AL r;have h2:=AL (d::r);rw[rQ];split
  ·simp;exact aw (iS h1 2) (c8 _ 2)
  ·split<;>simp at*<;>(first|exact iS h2 2|exact o4 (iS h2 1))
theorem KQ(x:List Nat)(st:St)(R:x.length<=50000):bG [37] p6 [.str (T x)] st=some (.str (T (pQ x)),st):=by
 refine rK (F':=[(37,.str (T x))]) rfl ?_;have h1:vH [.val (.ref 97),.str (T [13,10]),.str (T x)] st=some (.str (T (dY x)),st):=by
  refine(if_pos (aw R (dm ..))).trans ?_;rw[if_neg (λq=>absurd q.2 (by decide)),if_pos ⟨rfl,rfl⟩];rfl
 have h2:vH [.val (.ref 92),.str (T [46,46]),.str (T (dY x))] st=some (.str (T (pQ x)),st):=by
  refine(if_pos (aw (AL x) (ib 2 R))).trans ?_;rw[if_pos ⟨rfl,rfl⟩];rfl
 have J:fG 37 [(37,AV.str (T x))]=some (.str (T x)):=rfl;have N:vD (.val (.ref 92)) st=some [.val (.ref 92)]:=if_pos (c:=eJ 92=.ref 92\/eJ 92=.ref 97) (e:=none) (.inl rfl);have O:vD (.val (.ref 97)) st=some [.val (.ref 97)]:=if_pos (c:=eJ 97=.ref 92\/eJ 97=.ref 97) (e:=none) (.inr rfl);simp only[p6,cM,jJ,iJ,cT,N,O,eN,dI,bP,ku,mU,J,bz,bo,eM,ef,XH,Xw,h1,h2,gj]
theorem QR{W:List Nat}{x:List Nat}(J:x.length<=50000):iz W (bG [37] p6) [sD x] (sD (pQ x)):=tE λst v bd r=>by
 cases r.s'
 rw[KQ x st J];exact⟨.rfl',.str _⟩
theorem Ez(tail:List Nat)(ht:js tail)(J:tail≠[])(N:lift tail=tail)(ls)(h:∀p∈ls,s_ p):pQ (lines ls++tail)=gb ((ls.map (·.1)).map lift)++tail:=by
 unfold pQ;rw[Lu tail ht ls h,Lh tail ht J,N];intro b hb;refine aG (dy.mp hb) λp R O=>?_;subst O;exact⟨(h p R).1,(h p R).2.1⟩
theorem Lg(tail:List Nat)(ht:js tail)(J:tail≠[])(N:lift tail=tail)(bs:List (List Nat))(h:∀b∈bs,js b/\b≠[]):pQ (gb bs++tail)=gb (bs.map lift)++tail:=by
 have e:gb bs=lines (bs.map λb=>(b,[13,10])):=by
  unfold gb lines;rw[br];rfl
 rw[e,Ez tail ht J N]
 ·simp[br,Bk]
 ·intro p R
  refine aG (dy.mp R) λb hb O=>?_;subst O;exact⟨(h b hb).1,(h b hb).2,.inr (.inr rfl)⟩
end Mine
namespace Mine
open PySem PyProof.Rows PySem.W
section
variable{w:dB}{base:aO}{mg mb:ae->Option af}{pins:List (Nat×ak)}(H:Fx (hd01.heap_1 w.params) base mg mb)
noncomputable def f0(D:ak)(xs:List AV):SM:=(bj 43 (bl [38] (bC lW (ab (bD (ab (xk (.int 17)) (ab (xk (.int 256)) (ab (xk (.int 433)) (ab (xk (.int 1745)) (ab (xk (.int 40621)) (ab (xk (.int 3436)) (ab (xk (.int 133)) ag)))))))) ag)) (.names [24,51]) bw (a_ (ay aX (aa 51) (bK fM (ab (bl [] (bL (xQ D xs (aa 38) (bY (aa 24)) (bY (xk (.int 60))) (bY (xk (.int 7))))) (.name 52) bw (a_ (ay oMod (aa 52) (ay ja (xk (.int 10)) (xk (.int 6))))) 400) ag)))) 400))
theorem w0{D:ak}{xs:List AV}{vs:List af}(hD:base.IsList D vs.toArray)(J:∀ρ,bu ρ xs vs):cA (aI w base mg mb pins H) 9 (bH (hd01.heap_1 w.params) 131) 0 (((bT (hd01.heap_1 w.params) 131)[0]?).getD default) (f0 D xs):=
 (cY 43 (by rfl) (dG 400 (df [38] (eG (b8 (by rfl) (H.bE (by rfl)) (H.cg (by decide) (by rfl)) (by decide)) (Plain.cons rfl Plain.nil) d4 (au (dj (au aA (au aA (au aA (au aA (au aA (au aA (au aA aF (by rfl)) (by rfl)) (by rfl)) (by rfl)) (by rfl)) (by rfl)) (by rfl))) aF (by rfl)) xN) (bB.names (b_.cons (by rfl) ⟨.inl rfl,.inl rfl⟩ (b_.cons (by rfl) ⟨.inl rfl,.inl rfl⟩ b_.nil))) dF (aY (ai 51 (by rfl) (by decide)) (dN (b8 (by rfl) (H.bE (by rfl)) (H.cg (by decide) (by rfl)) (by decide)) (Plain.cons rfl Plain.nil) cP (au (dG 400 (df [] (d5 (K6 hD J (ai 38 (by rfl) (by decide)) (eZ (ai 24 (by rfl) (by decide))) (eZ aA) (eZ aA) (by intro _ _;exact⟨_,rfl⟩))) (bB.name (by rfl) ⟨.inl rfl,.inl rfl⟩) dF (aY (ai 52 (by rfl) (by decide)) (aY aA aA vj) jK) (by rfl) aV.nil (by intro _ _;rfl))) aF (by rfl)) sL) cS) (by rfl) (aV.cons _ (by rfl) (by rfl) aV.nil) (by intro _ _;rfl))) (.inr rfl) (by rfl))
noncomputable def f1:SM:=(bj 41 (ay aX (xk (.int 1)) (ay oMod (aH (aa 43) (xk (.int 6))) (xk (.int 3)))))
theorem w1:cA (aI w base mg mb pins H) 9 (bH (hd01.heap_1 w.params) 131) 0 (((bT (hd01.heap_1 w.params) 131)[1]?).getD default) f1:=
 (cY 41 (by rfl) (aY aA (aY (cu (ai 43 (by rfl) (by decide)) aA (by intro _ _;exact⟨_,rfl⟩)) aA jK) cS) (.inl rfl) (by rfl))
noncomputable def f2:SM:=(BQ [50,49] (aH (bD (ab (dc (ab (xk (.str ("a":ae))) (ab (xk (.str ("b":ae))) ag))) (ab (dc (ab (xk (.str ("\"":ae))) (ab (xk (.str ("\\":ae))) ag))) (ab (dc (ab (xk (.str (" ":ae))) (ab (bK tC (ab (xk (.int 12)) ag)) ag))) (ab (dc (ab (xk (.str ("\\":ae))) (ab (xk (.str ("#":ae))) ag))) ag))))) (ay oMod (ay oDiv (aH (aa 43) (xk (.int 6))) (xk (.int 3))) (xk (.int 4)))))
theorem w2:cA (aI w base mg mb pins H) 9 (bH (hd01.heap_1 w.params) 131) 0 (((bT (hd01.heap_1 w.params) 131)[2]?).getD default) f2:=
 (LQ (b_.cons (by rfl) ⟨trivial,.inl rfl⟩ (b_.cons (by rfl) ⟨trivial,.inl rfl⟩ b_.nil)) (cu (dj (au (gm (au cz (au cz aF (by rfl)) (by rfl))) (au (gm (au cz (au cz aF (by rfl)) (by rfl))) (au (gm (au cz (au (dN (b8 (by rfl) (H.bE (by rfl)) (H.cg (by decide) (by rfl)) (by decide)) (Plain.cons rfl Plain.nil) cP (au aA aF (by rfl)) Cp) aF (by rfl)) (by rfl))) (au (gm (au cz (au cz aF (by rfl)) (by rfl))) aF (by rfl)) (by rfl)) (by rfl)) (by rfl))) (aY (aY (cu (ai 43 (by rfl) (by decide)) aA (by intro _ _;exact⟨_,rfl⟩)) aA lK) aA jK) (by intro _ _;exact⟨_,rfl⟩)) (by intro _;rfl) (by intro _;rfl))
noncomputable def f3:SM:=(bj 48 (bD (ab (ay aX (aa 50) (aa 50)) (ab (ay aX (aa 50) (aa 49)) (ab (ay aX (aa 49) (aa 50)) (ab (ay aX (aa 49) (aa 49)) ag))))))
theorem w3:cA (aI w base mg mb pins H) 9 (bH (hd01.heap_1 w.params) 131) 0 (((bT (hd01.heap_1 w.params) 131)[3]?).getD default) f3:=
 (cY 48 (by rfl) (dj (au (aY (ai 50 (by rfl) (by decide)) (ai 50 (by rfl) (by decide)) cS) (au (aY (ai 50 (by rfl) (by decide)) (ai 49 (by rfl) (by decide)) cS) (au (aY (ai 49 (by rfl) (by decide)) (ai 50 (by rfl) (by decide)) cS) (au (aY (ai 49 (by rfl) (by decide)) (ai 49 (by rfl) (by decide)) cS) aF (by rfl)) (by rfl)) (by rfl)) (by rfl))) (.inl rfl) (by rfl))
noncomputable def f4:SM:=(pG [0,46] (ab (xk (.str ("":ae))) (ab (bD ag) ag)))
theorem w4:cA (aI w base mg mb pins H) 9 (bH (hd01.heap_1 w.params) 131) 0 (((bT (hd01.heap_1 w.params) 131)[4]?).getD default) f4:=
 (zQ (by intro k hk;simp only[bJ,a6,or_false]at hk;rcases hk with rfl|rfl<;>first|exact .inl rfl|exact .inr rfl) (ip.t (au cz (au (dj aF) aF (by rfl)) (by rfl))) (by rfl))
noncomputable def f5:SM:=(λF st=>((bC lW (ab (cH (aa 43) bb (bY (xk (.int 6))) bb) ag)) F st).bind λp=>cB (.names [24,45]) (ao (bj 14 (gd (aS oLt (aa 24) (xk (.int 3))) (bU ek qZ (aa 48) (ab (ay oMod (aa 45) (bK iv (ab (aa 48) ag))) ag)) (ay aX (aH (bD (ab (aa 50) (ab (aa 49) (ab (ay aX (aa 50) (aa 49)) (ab (ay aX (aa 49) (aa 50)) ag))))) (ay oMod (aa 45) (xk (.int 4)))) (aH (bD (ab (xk (.str ("":ae))) (ab (xk (.str ("...":ae))) (ab (ay aX (xk (.str ("...":ae))) (aa 49)) (ab (ay aX (ay aX (xk (.str ("...":ae))) (aa 49)) (xk (.str ("...":ae)))) ag))))) (ay oMod (ay oDiv (aa 45) (xk (.int 4))) (xk (.int 4)))))))
 (ao (pG [47,15] (ab (aH (bD (ab (xk (.int 0)) (ab (xk (.int 1)) (ab (gd (aS oLt (aa 24) (xk (.int 3))) (xk (.int 0)) (xk (.int 3))) (ab (gd (aS oLt (aa 24) (xk (.int 3))) (xk (.int 2)) (xk (.int 3))) ag))))) (ay oMod (ay oDiv (aa 45) (xk (.int 16))) (xk (.int 4)))) (ab (ay oMod (ay oDiv (aa 45) (xk (.int 64))) (xk (.int 3))) ag)))
 (ao (eS 0 gM (ay aX (bK (bG [14,15] tT) (ab (ay aX (ay cU (xk (.str (".":ae))) (aa 47)) (aa 14)) (ab (aa 15) ag))) (aH (bD (ab (xk (.str ("\x0a":ae))) (ab (xk (.str ("\x09\x0d":ae))) (ab (xk (.str (" \x0d\x0a":ae))) ag)))) (ay oMod (ay oDiv (aa 45) (xk (.int 192))) (xk (.int 3))))))
 (ao (gN (bU ek bAppend (aa 46) (ab (ay aX (ay cU (xk (.str (".":ae))) (gd (nv (aS l_ (aa 47) (xk (.int 0))) (nv (aS oEq (aa 15) (xk (.int 0))) (λ_ st=>some (true,st)))) (ay aX (aa 47) (aa 41)) (aa 47))) (aa 14)) ag)))
 aC)))) 400 p.1 F p.2)
theorem w5:cA (aI w base mg mb pins H) 9 (bH (hd01.heap_1 w.params) 131) 0 (((bT (hd01.heap_1 w.params) 131)[5]?).getD default) f5:=
 (iX 400 (eG (b8 (by rfl) (H.bE (by rfl)) (H.cg (by decide) (by rfl)) (by decide)) (Plain.cons rfl Plain.nil) d4 (au (gV (ai 43 (by rfl) (by decide)) dt (eZ aA) dt (by intro _ _;exact⟨_,rfl⟩)) aF (by rfl)) xN) (bB.names (b_.cons (by rfl) ⟨trivial,.inl rfl⟩ (b_.cons (by rfl) ⟨trivial,.inl rfl⟩ b_.nil))) (aK (cY 14 (by rfl) (nZ (cQ (ai 24 (by rfl) (by decide)) aA yR (by with_unfolding_all rfl)) (dP (ai 48 (by rfl) (by decide)) (nN Fn Qq) (Plain.cons rfl Plain.nil) cP (au (aY (ai 45 (by rfl) (by decide)) (dN (b8 (by rfl) (H.bE (by rfl)) (H.cg (by decide) (by rfl)) (by decide)) (Plain.cons rfl Plain.nil) cP (au (ai 48 (by rfl) (by decide)) aF (by rfl)) px) jK) aF (by rfl)) IJ (by intro _;rfl) (by rfl) (by decide)) (aY (cu (dj (au (ai 50 (by rfl) (by decide)) (au (ai 49 (by rfl) (by decide)) (au (aY (ai 50 (by rfl) (by decide)) (ai 49 (by rfl) (by decide)) cS) (au (aY (ai 49 (by rfl) (by decide)) (ai 50 (by rfl) (by decide)) cS) aF (by rfl)) (by rfl)) (by rfl)) (by rfl))) (aY (ai 45 (by rfl) (by decide)) aA jK) (by intro _ _;exact⟨_,rfl⟩)) (cu (dj (au cz (au cz (au (aY cz (ai 49 (by rfl) (by decide)) cS) (au (aY (aY cz (ai 49 (by rfl) (by decide)) cS) cz cS) aF (by rfl)) (by rfl)) (by rfl)) (by rfl))) (aY (aY (ai 45 (by rfl) (by decide)) aA lK) aA jK) (by intro _ _;exact⟨_,rfl⟩)) cS)) (.inl rfl) (by rfl))
 (aK (zQ (by intro k hk;simp only[bJ,a6,or_false]at hk;rcases hk with rfl|rfl<;>first|exact .inl rfl|exact .inr rfl) (ip.t (au (cu (dj (au aA (au aA (au (nZ (cQ (ai 24 (by rfl) (by decide)) aA yR (by with_unfolding_all rfl)) aA aA) (au (nZ (cQ (ai 24 (by rfl) (by decide)) aA yR (by with_unfolding_all rfl)) aA aA) aF (by rfl)) (by rfl)) (by rfl)) (by rfl))) (aY (aY (ai 45 (by rfl) (by decide)) aA lK) aA jK) (by intro _ _;exact⟨_,rfl⟩)) (au (aY (aY (ai 45 (by rfl) (by decide)) aA lK) aA jK) aF (by rfl)) (by rfl))) (by rfl))
 (aK (mu 0 (by rfl) (aY (dN (jz (by rfl) (H.bE (by rfl)) (by decide)) (Plain.cons rfl (Plain.cons rfl Plain.nil)) (gz (by rfl)) (au (aY (aY cz (ai 47 (by rfl) (by decide)) kI) (ai 14 (by rfl) (by decide)) cS) (au (ai 15 (by rfl) (by decide)) aF (by rfl)) (by rfl)) ((Kj (n:=1) H).call.le (by decide))) (cu (dj (au cz (au cz (au cz aF (by rfl)) (by rfl)) (by rfl))) (aY (aY (ai 45 (by rfl) (by decide)) aA lK) aA jK) (by intro _ _;exact⟨_,rfl⟩)) cS) o8 (.inl rfl))
 (aK (o7 (dP (ai 46 (by rfl) (by decide)) (nN ur uh) (Plain.cons rfl Plain.nil) cP (au (aY (aY cz (nZ (rI (wi (cQ (ai 47 (by rfl) (by decide)) aA yK (by with_unfolding_all rfl)) (wi (cQ (ai 15 (by rfl) (by decide)) aA ir (by with_unfolding_all rfl)) DX))) (aY (ai 47 (by rfl) (by decide)) (ai 41 (by rfl) (by decide)) cS) (ai 47 (by rfl) (by decide))) kI) (ai 14 (by rfl) (by decide)) cS) aF (by rfl)) rL (by intro _;rfl) (by rfl) (by decide)) (by rfl))
 bp)))) (by intro _ _;rfl))
noncomputable def f6:SM:=(bj 44 (bl [] (bL (cH (aa 43) (bY (xk (.int 3))) (bY (xk (.int 6))) bb)) (.name 45) bw (a_ (ay oMod (ay oDiv (aa 45) (xk (.int 576))) (xk (.int 500)))) 400))
theorem w6:cA (aI w base mg mb pins H) 9 (bH (hd01.heap_1 w.params) 131) 0 (((bT (hd01.heap_1 w.params) 131)[6]?).getD default) f6:=
 (cY 44 (by rfl) (dG 400 (df [] (d5 (gV (ai 43 (by rfl) (by decide)) (eZ aA) (eZ aA) dt (by intro _ _;exact⟨_,rfl⟩))) (bB.name (by rfl) ⟨.inl rfl,.inl rfl⟩) dF (aY (aY (ai 45 (by rfl) (by decide)) aA lK) aA jK) (by rfl) aV.nil (by intro _ _;rfl))) (.inr rfl) (by rfl))
noncomputable def f7:SM:=(eS 0 gM (ay aX (xk (.str (".\x0a\"\"":ae))) (aH (bD (ab (xk (.str ("z ":ae))) (ab (xk (.str ("z\x09":ae))) (ab (xk (.str ("\"z\"":ae))) ag)))) (ay oMod (ay oDiv (aH (aa 43) (xk (.int 6))) (xk (.int 48))) (xk (.int 3))))))
theorem w7:cA (aI w base mg mb pins H) 9 (bH (hd01.heap_1 w.params) 131) 0 (((bT (hd01.heap_1 w.params) 131)[7]?).getD default) f7:=
 (mu 0 (by rfl) (aY cz (cu (dj (au cz (au cz (au cz aF (by rfl)) (by rfl)) (by rfl))) (aY (aY (cu (ai 43 (by rfl) (by decide)) aA (by intro _ _;exact⟨_,rfl⟩)) aA lK) aA jK) (by intro _ _;exact⟨_,rfl⟩)) cS) o8 (.inl rfl))
noncomputable def f8:SM:=(eS 0 gM (ay aX (bU jo qU (xk (.str ("":ae))) (ab (bl [43] (bL (ay aX (cH (aa 43) (bY (xk (.int 6))) bb bb) (aa 44))) (.name 18) bw (a_ (bK (bG [18,19] wg) (ab (aa 18) (ab (ay oMod (ay oDiv (aH (aa 43) (xk (.int 6))) (xk (.int 12))) (xk (.int 4))) ag)))) 400) ag)) (bK tC (ab (ay aX (xk (.int 64)) (ay oMod (ay oDiv (aH (aa 43) (xk (.int 6))) (xk (.int 144))) (xk (.int 64)))) ag))))
theorem w8:cA (aI w base mg mb pins H) 9 (bH (hd01.heap_1 w.params) 131) 0 (((bT (hd01.heap_1 w.params) 131)[8]?).getD default) f8:=
 (mu 0 (by rfl) (aY (dP cz (o9 Bo Bh) (Plain.cons rfl Plain.nil) cP (au (dG 400 (df [43] (d5 (aY (gV (ai 43 (by rfl) (by decide)) (eZ aA) dt dt (by intro _ _;exact⟨_,rfl⟩)) (ai 44 (by rfl) (by decide)) cS)) (bB.name (by rfl) ⟨.inl rfl,.inl rfl⟩) dF (dN (jz (by rfl) (H.bE (by rfl)) (by decide)) (Plain.cons rfl (Plain.cons rfl Plain.nil)) (gz (by rfl)) (au (ai 18 (by rfl) (by decide)) (au (aY (aY (cu (ai 43 (by rfl) (by decide)) aA (by intro _ _;exact⟨_,rfl⟩)) aA lK) aA jK) aF (by rfl)) (by rfl)) ((Ku (n:=1) H).call.le (by decide))) (by rfl) (aV.cons _ (by rfl) (by rfl) aV.nil) (by intro _ _;rfl))) aF (by rfl)) xW (by intro _;rfl) (by rfl) (by decide)) (dN (b8 (by rfl) (H.bE (by rfl)) (H.cg (by decide) (by rfl)) (by decide)) (Plain.cons rfl Plain.nil) cP (au (aY aA (aY (aY (cu (ai 43 (by rfl) (by decide)) aA (by intro _ _;exact⟨_,rfl⟩)) aA lK) aA jK) cS) aF (by rfl)) Cp) cS) o8 (.inl rfl))
noncomputable def f9:SM:=(λF st=>((bC cR (ab (aa 41) ag)) F st).bind λp=>cB (.name 42) (ao (bj 0 (bK (bG [37] p6) (ab (aa 0) ag)))
 aC) 400 p.1 F p.2)
theorem w9:cA (aI w base mg mb pins H) 9 (bH (hd01.heap_1 w.params) 131) 0 (((bT (hd01.heap_1 w.params) 131)[9]?).getD default) f9:=
 (iX 400 (eG (b8 (by rfl) (H.bE (by rfl)) (H.cg (by decide) (by rfl)) (by decide)) (Plain.cons rfl Plain.nil) d4 (au (ai 41 (by rfl) (by decide)) aF (by rfl)) jV) (bB.name (by rfl) ⟨trivial,.inl rfl⟩) (aK (cY 0 (by rfl) (dN (jz (by rfl) (H.bE (by rfl)) (by decide)) (Plain.cons rfl Plain.nil) (gz (by rfl)) (au (ai 0 (by rfl) (by decide)) aF (by rfl)) ((LN (n:=1) H).call.le (by decide))) (.inl rfl) (by rfl))
 bp) (by intro _ _;rfl))
noncomputable def tp(D:ak)(xs:List AV):SM:=(ao (f0 D xs)
 (ao f1
 (ao f2
 (ao f3
 (ao f4
 (ao f5
 (ao f6
 (ao f7
 (ao f8
 (ao f9
 aC))))))))))
theorem WU{D:ak}{xs:List AV}{vs:List af}(hD:base.IsList D vs.toArray)(J:∀ρ,bu ρ xs vs):sS (aI w base mg mb pins H) 9 (bH (hd01.heap_1 w.params) 131) 0 0 ((bT (hd01.heap_1 w.params) 131).take 10) (tp D xs):=
 (fk (w0 H hD J)
 (fk (w1 H)
 (fk (w2 H)
 (fk (w3 H)
 (fk (w4 H)
 (fk (w5 H)
 (fk (w6 H)
 (fk (w7 H)
 (fk (w8 H)
 (fk (w9 H)
 Ce))))))))))
end
section
variable{w:dB}{base:aO}{mg mb:ae->Option af}{pins:List (Nat×ak)}(H:Fx (hd01.heap_1 w.params) base mg mb)
noncomputable def zv:SM:=(bj 53 (bK (yQ 69 (bG [27,28] t8)) (ab (aa 3) ag)))
theorem Yw:cA (aI w base mg mb pins H) 9 (bH (hd01.heap_1 w.params) 131) 0 (((bT (hd01.heap_1 w.params) 131)[11]?).getD default) zv:=
 (cY 53 (by rfl) (dN (jz (by rfl) (H.bE (by rfl)) (by decide)) (Plain.cons rfl Plain.nil) (gz (by rfl)) (au (ai 3 (by rfl) (by decide)) aF (by rfl)) ((LZ (n:=2) (by rfl) (by rfl) (by rfl) (Mf (n:=1) H)).call.le (by decide))) (.inr rfl) (by rfl))
noncomputable def zE(bq:AV->St->Option (List AV))(J:List AV->St->Option (AV×St)):SM:=(cn (aS c5 (bl [53] (bL (aa 46)) (.name 42) bw (a_ (bU (f_ 69 40) (bG [27] (oN bq J)) (aa 53) ag)) 400) (aa 46)) (ao (cy (xk (.bool false)))
 aC) aC)
theorem Ya{rA:ak}{bq:AV->St->Option (List AV)}{R:List AV->St->Option (AV×St)}(N:gO (aI w base mg mb pins H) "read" (.ref rA) bq)(J:ik (aI w base mg mb pins H) (.ref rA))(O:dX (aI w base mg mb pins H) 1 (.ref rA) R):cA (aI w base mg mb pins H) 9 (bH (hd01.heap_1 w.params) 131) 0 (((bT (hd01.heap_1 w.params) 131)[12]?).getD default) (zE bq R):=
 (eP (cQ (dG 400 (df [53] (d5 (ai 46 (by rfl) (by decide))) (bB.name (by rfl) ⟨.inl rfl,.inl rfl⟩) dF (dP (ai 53 (by rfl) (by decide)) (mW 40 (by rfl) (fJ H) (by rfl) (by rfl)) Plain.nil (gz (by rfl)) aF ((tY H N J O).call.le (by decide)) (by intro _;rfl) (by rfl) (by decide)) (by rfl) (aV.cons _ (by rfl) (by rfl) aV.nil) (by intro _ _;rfl))) (ai 46 (by rfl) (by decide)) kZ (by with_unfolding_all rfl)) (aK (eC kC)
 bp) bp)
noncomputable def Ds:SM:=(vS [66,60] (ab (cH (aa 46) bb (bY (xk (.int 3))) bb) (ab (cH (aa 46) (bY (xk (.int 3))) bb bb) ag)))
theorem Yd:cA (aI w base mg mb pins H) 9 (bH (hd01.heap_1 w.params) 131) 0 (((bT (hd01.heap_1 w.params) 131)[13]?).getD default) Ds:=
 (DH (b_.cons (by rfl) ⟨trivial,.inr rfl⟩ (b_.cons (by rfl) ⟨trivial,.inl rfl⟩ b_.nil)) (ip.t (au (gV (ai 46 (by rfl) (by decide)) dt (eZ aA) dt (by intro _ _;exact⟨_,rfl⟩)) (au (gV (ai 46 (by rfl) (by decide)) (eZ aA) dt dt (by intro _ _;exact⟨_,rfl⟩)) aF (by rfl)) (by rfl))) (by rfl))
noncomputable def Dy:SM:=(bj 59 (bl [66] (bL (aa 60)) (.name 8) bw (a_ (bl [8] (bL (aa 66)) (.name 25) bw (a_ (bK (bG [8,25] tU) (ab (aa 8) (ab (aa 25) ag)))) 400)) 400))
theorem Yz:cA (aI w base mg mb pins H) 9 (bH (hd01.heap_1 w.params) 131) 0 (((bT (hd01.heap_1 w.params) 131)[14]?).getD default) Dy:=
 (cY 59 (by rfl) (dG 400 (df [66] (d5 (ai 60 (by rfl) (by decide))) (bB.name (by rfl) ⟨.inr rfl,.inr rfl⟩) dF (dG 400 (df [8] (d5 (ai 66 (by rfl) (by decide))) (bB.name (by rfl) ⟨.inl rfl,.inl rfl⟩) dF (dN (jz (by rfl) (H.bE (by rfl)) (by decide)) (Plain.cons rfl (Plain.cons rfl Plain.nil)) (gz (by rfl)) (au (ai 8 (by rfl) (by decide)) (au (ai 25 (by rfl) (by decide)) aF (by rfl)) (by rfl)) ((KH (n:=1) H).call.le (by decide))) (by rfl) (aV.cons _ (by rfl) (by rfl) aV.nil) (by intro _ _;rfl))) (by rfl) (aV.cons _ (by rfl) (by rfl) aV.nil) (by intro _ _;rfl))) (.inr rfl) (by rfl))
noncomputable def Dn:SM:=(bj 55 (bD (ab (dc (ab (xk (.int 0)) (ab (xk (.int 1)) (ab (xk (.int 2)) ag)))) (ab (dc (ab (xk (.int 0)) (ab (xk (.int 2)) (ab (xk (.int 1)) ag)))) (ab (dc (ab (xk (.int 1)) (ab (xk (.int 0)) (ab (xk (.int 2)) ag)))) (ab (dc (ab (xk (.int 1)) (ab (xk (.int 2)) (ab (xk (.int 0)) ag)))) (ab (dc (ab (xk (.int 2)) (ab (xk (.int 0)) (ab (xk (.int 1)) ag)))) (ab (dc (ab (xk (.int 2)) (ab (xk (.int 1)) (ab (xk (.int 0)) ag)))) ag))))))))
theorem Yr:cA (aI w base mg mb pins H) 9 (bH (hd01.heap_1 w.params) 131) 0 (((bT (hd01.heap_1 w.params) 131)[15]?).getD default) Dn:=
 (cY 55 (by rfl) (dj (au (gm (au aA (au aA (au aA aF (by rfl)) (by rfl)) (by rfl))) (au (gm (au aA (au aA (au aA aF (by rfl)) (by rfl)) (by rfl))) (au (gm (au aA (au aA (au aA aF (by rfl)) (by rfl)) (by rfl))) (au (gm (au aA (au aA (au aA aF (by rfl)) (by rfl)) (by rfl))) (au (gm (au aA (au aA (au aA aF (by rfl)) (by rfl)) (by rfl))) (au (gm (au aA (au aA (au aA aF (by rfl)) (by rfl)) (by rfl))) aF (by rfl)) (by rfl)) (by rfl)) (by rfl)) (by rfl)) (by rfl))) (.inl rfl) (by rfl))
noncomputable def Dq:SM:=(bj 64 (bl [66] (bL (aa 55)) (.name 56) bw (a_ (bl [66] (bL (aa 56)) (.name 26) bw (a_ (aH (aa 66) (aa 26))) 400)) 400))
theorem YB:cA (aI w base mg mb pins H) 9 (bH (hd01.heap_1 w.params) 131) 0 (((bT (hd01.heap_1 w.params) 131)[16]?).getD default) Dq:=
 (cY 64 (by rfl) (dG 400 (df [66] (d5 (ai 55 (by rfl) (by decide))) (bB.name (by rfl) ⟨.inl rfl,.inl rfl⟩) dF (dG 400 (df [66] (d5 (ai 56 (by rfl) (by decide))) (bB.name (by rfl) ⟨.inl rfl,.inl rfl⟩) dF (cu (ai 66 (by rfl) (by decide)) (ai 26 (by rfl) (by decide)) (by intro _ _;exact⟨_,rfl⟩)) (by rfl) (aV.cons _ (by rfl) (by rfl) aV.nil) (by intro _ _;rfl))) (by rfl) (aV.cons _ (by rfl) (by rfl) aV.nil) (by intro _ _;rfl))) (.inr rfl) (by rfl))
noncomputable def zA:SM:=(bj 57 (bD ag))
theorem Yf:cA (aI w base mg mb pins H) 9 (bH (hd01.heap_1 w.params) 131) 0 (((bT (hd01.heap_1 w.params) 131)[17]?).getD default) zA:=
 (cY 57 (by rfl) (dj aF) (.inr rfl) (by rfl))
noncomputable def zm(bq:AV->St->Option (List AV))(J:List AV->St->Option (AV×St)):SM:=(λF st=>((bC fP (ab (aa 60) (ab (aa 59) ag))) F st).bind λp=>cB (.names [8,61]) (ao (cn (aS c5 (bl [8] (bC fP (ab (aa 66) (ab (aa 61) ag))) (.names [25,67]) (aS sY (bK (bG [8,9] ly) (ab (aa 8) (ab (aa 25) ag))) (aa 67)) (a_ (aa 25)) 400) (bD ag)) (ao (cy (xk (.bool false)))
 aC) aC)
 (ao (λF st=>((bL (aa 64)) F st).bind λp=>cB (.name 65) (ao (λF st=>((bL (ay aX (aa 65) (bD (ab (xk (.str ("":ae))) ag)))) F st).bind λp=>cB (.name 14) (ao (gN (bU (f_ 69 39) (bG [27,33] p4) (aa 53) (ab (aa 14) ag)))
 aC) 400 p.1 F p.2)
 aC) 400 p.1 F p.2)
 (ao (λF st=>((bL (aa 64)) F st).bind λp=>cB (.name 42) (ao (bj 9 (bl [53] (bC cR (ab (xk (.int 4)) ag)) (.name 42) bw (a_ (bU (f_ 69 40) (bG [27] (oN bq J)) (aa 53) ag)) 400))
 (ao (λF st=>((bL (ay aX (sU tm 0 152 44 ("law.<locals>.<lambda>":ae) 14 [8] (bK (bG [8,9] ly) (ab (aa 8) (ab (aa 14) ag))) (cH (aa 9) bb (bY (xk (.int 3))) bb)) (cH (aa 9) (bY (xk (.int 3))) bb bb))) F st).bind λp=>cB (.name 14) (ao (gN (bU (f_ 69 39) (bG [27,33] p4) (aa 53) (ab (aa 14) ag)))
 aC) 400 p.1 F p.2)
 aC)) 400 p.1 F p.2)
 (ao (bj 62 (bl [53] (bL (aa 64)) (.name 42) bw (a_ (bl [53] (bC cR (ab (xk (.int 4)) ag)) (.name 42) bw (a_ (bU (f_ 69 40) (bG [27] (oN bq J)) (aa 53) ag)) 400)) 400))
 (ao (cn (aS c5 (bl [64] (bL (aa 62)) (.name 63) (iy (aS mz (cH (aa 63) bb (bY (xk (.int 3))) bb) (aa 64)) (iy (aS c5 (aH (aa 63) (xk (.int 3))) (xk (.str ("":ae)))) (λ_ st=>some (false,st)))) (a_ (aa 63)) 400) (bD ag)) (ao (cy (xk (.bool false)))
 aC) aC)
 (ao (gN (bU ek bAppend (aa 57) (ab (bl [64] (bL (aa 62)) (.name 63) bw (a_ (bU ek bIndex (aa 64) (ab (cH (aa 63) bb (bY (xk (.int 3))) bb) ag))) 400) ag)))
 aC)))))) 400 p.1 F p.2)
theorem YN{rA:ak}{bq:AV->St->Option (List AV)}{R:List AV->St->Option (AV×St)}(N:gO (aI w base mg mb pins H) "read" (.ref rA) bq)(J:ik (aI w base mg mb pins H) (.ref rA))(O:dX (aI w base mg mb pins H) 1 (.ref rA) R)(S:TabAt (aI w base mg mb pins H) 0 128 130):cA (aI w base mg mb pins H) 9 (bH (hd01.heap_1 w.params) 131) 0 (((bT (hd01.heap_1 w.params) 131)[18]?).getD default) (zm bq R):=
 (iX 400 (eG (b8 (by rfl) (H.bE (by rfl)) (H.cg (by decide) (by rfl)) (by decide)) (Plain.cons rfl (Plain.cons rfl Plain.nil)) d4 (au (ai 60 (by rfl) (by decide)) (au (ai 59 (by rfl) (by decide)) aF (by rfl)) (by rfl)) pf) (bB.names (b_.cons (by rfl) ⟨trivial,.inr rfl⟩ (b_.cons (by rfl) ⟨trivial,.inl rfl⟩ b_.nil))) (aK (eP (cQ (dG 400 (df [8] (eG (b8 (by rfl) (H.bE (by rfl)) (H.cg (by decide) (by rfl)) (by decide)) (Plain.cons rfl (Plain.cons rfl Plain.nil)) d4 (au (ai 66 (by rfl) (by decide)) (au (ai 61 (by rfl) (by decide)) aF (by rfl)) (by rfl)) pf) (bB.names (b_.cons (by rfl) ⟨.inl rfl,.inl rfl⟩ (b_.cons (by rfl) ⟨.inl rfl,.inl rfl⟩ b_.nil))) (oU (cQ (dN (jz (by rfl) (H.bE (by rfl)) (by decide)) (Plain.cons rfl (Plain.cons rfl Plain.nil)) (gz (by rfl)) (au (ai 8 (by rfl) (by decide)) (au (ai 25 (by rfl) (by decide)) aF (by rfl)) (by rfl)) ((DC (n:=1) H).call.le (by decide))) (ai 67 (by rfl) (by decide)) Rx (by with_unfolding_all rfl))) (ai 25 (by rfl) (by decide)) (by rfl) (aV.cons _ (by rfl) (by rfl) aV.nil) (by intro _ _;rfl))) (dj aF) kZ (by with_unfolding_all rfl)) (aK (eC kC)
 bp) bp)
 (aK (iX 400 (d5 (ai 64 (by rfl) (by decide))) (bB.name (by rfl) ⟨trivial,.inl rfl⟩) (aK (iX 400 (d5 (aY (ai 65 (by rfl) (by decide)) (dj (au cz aF (by rfl))) cS)) (bB.name (by rfl) ⟨trivial,.inl rfl⟩) (aK (o7 (dP (ai 53 (by rfl) (by decide)) (mW 39 (by rfl) (fJ H) (by rfl) (by rfl)) (Plain.cons rfl Plain.nil) (gz (by rfl)) (au (ai 14 (by rfl) (by decide)) aF (by rfl)) ((DS (n:=1) H).call.le (by decide)) (by intro _;rfl) (by rfl) (by decide)) (by rfl))
 bp) (by intro _ _;rfl))
 bp) (by intro _ _;rfl))
 (aK (iX 400 (d5 (ai 64 (by rfl) (by decide))) (bB.name (by rfl) ⟨trivial,.inl rfl⟩) (aK (rm 9 (by rfl) 400 (df [53] (eG (b8 (by rfl) (H.bE (by rfl)) (H.cg (by decide) (by rfl)) (by decide)) (Plain.cons rfl Plain.nil) d4 (au aA aF (by rfl)) jV) (bB.name (by rfl) ⟨.inl rfl,.inl rfl⟩) dF (dP (ai 53 (by rfl) (by decide)) (mW 40 (by rfl) (fJ H) (by rfl) (by rfl)) Plain.nil (gz (by rfl)) aF ((tY H N J O).call.le (by decide)) (by intro _;rfl) (by rfl) (by decide)) (by rfl) (aV.cons _ (by rfl) (by rfl) aV.nil) (by intro _ _;rfl)) (.inl rfl) (by rfl))
 (aK (iX 400 (d5 (aY (EJ (b8 (by rfl) (H.bE (by rfl)) (H.cg (by decide) (by rfl)) (by decide)) (by rfl) (gV (ai 9 (by rfl) (by decide)) dt (eZ aA) dt (by intro _ _;exact⟨_,rfl⟩)) SO S (by rfl) (by intro _;rfl) ⟨(dN (jz (by rfl) (H.bE (by rfl)) (by decide)) (Plain.cons rfl (Plain.cons rfl Plain.nil)) (gz (by rfl)) (au (ai 8 (by rfl) (by decide)) (au (ai 14 (by rfl) (by decide)) aF (by rfl)) (by rfl)) ((DC (n:=1) H).call.le (by decide))),(by rfl),(aV.cons _ (by rfl) (by rfl) aV.nil),(by decide),(by rfl),(by intros;rfl),(by rfl),(by rfl)⟩) (gV (ai 9 (by rfl) (by decide)) (eZ aA) dt dt (by intro _ _;exact⟨_,rfl⟩)) cS)) (bB.name (by rfl) ⟨trivial,.inl rfl⟩) (aK (o7 (dP (ai 53 (by rfl) (by decide)) (mW 39 (by rfl) (fJ H) (by rfl) (by rfl)) (Plain.cons rfl Plain.nil) (gz (by rfl)) (au (ai 14 (by rfl) (by decide)) aF (by rfl)) ((DS (n:=1) H).call.le (by decide)) (by intro _;rfl) (by rfl) (by decide)) (by rfl))
 bp) (by intro _ _;rfl))
 bp)) (by intro _ _;rfl))
 (aK (rm 62 (by rfl) 400 (df [53] (d5 (ai 64 (by rfl) (by decide))) (bB.name (by rfl) ⟨.inl rfl,.inl rfl⟩) dF (dG 400 (df [53] (eG (b8 (by rfl) (H.bE (by rfl)) (H.cg (by decide) (by rfl)) (by decide)) (Plain.cons rfl Plain.nil) d4 (au aA aF (by rfl)) jV) (bB.name (by rfl) ⟨.inl rfl,.inl rfl⟩) dF (dP (ai 53 (by rfl) (by decide)) (mW 40 (by rfl) (fJ H) (by rfl) (by rfl)) Plain.nil (gz (by rfl)) aF ((tY H N J O).call.le (by decide)) (by intro _;rfl) (by rfl) (by decide)) (by rfl) (aV.cons _ (by rfl) (by rfl) aV.nil) (by intro _ _;rfl))) (by rfl) (aV.cons _ (by rfl) (by rfl) aV.nil) (by intro _ _;rfl)) (.inl rfl) (by rfl))
 (aK (eP (cQ (dG 400 (df [64] (d5 (ai 62 (by rfl) (by decide))) (bB.name (by rfl) ⟨.inl rfl,.inl rfl⟩) (oU (rI (oK (cQ (gV (ai 63 (by rfl) (by decide)) dt (eZ aA) dt (by intro _ _;exact⟨_,rfl⟩)) (ai 64 (by rfl) (by decide)) Hm (by with_unfolding_all rfl)) (oK (cQ (cu (ai 63 (by rfl) (by decide)) aA (by intro _ _;exact⟨_,rfl⟩)) cz kZ (by with_unfolding_all rfl)) wu)))) (ai 63 (by rfl) (by decide)) (by rfl) (aV.cons _ (by rfl) (by rfl) aV.nil) (by intro _ _;rfl))) (dj aF) kZ (by with_unfolding_all rfl)) (aK (eC kC)
 bp) bp)
 (aK (o7 (dP (ai 57 (by rfl) (by decide)) (nN ur uh) (Plain.cons rfl Plain.nil) cP (au (dG 400 (df [64] (d5 (ai 62 (by rfl) (by decide))) (bB.name (by rfl) ⟨.inl rfl,.inl rfl⟩) dF (dP (ai 64 (by rfl) (by decide)) (nN PW ZT) (Plain.cons rfl Plain.nil) cP (au (gV (ai 63 (by rfl) (by decide)) dt (eZ aA) dt (by intro _ _;exact⟨_,rfl⟩)) aF (by rfl)) PX (by intro _;rfl) (by rfl) (by decide)) (by rfl) (aV.cons _ (by rfl) (by rfl) aV.nil) (by intro _ _;rfl))) aF (by rfl)) rL (by intro _;rfl) (by rfl) (by decide)) (by rfl))
 bp)))))) (by intro _ _;rfl))
noncomputable def zF:SM:=(λF st=>((bC lW (ab (aa 55) ag)) F st).bind λp=>cB (.names [24,56]) (ao (bj 58 (sU tA 0 159 32 ("law.<locals>.<lambda>":ae) 26 [59,56] (dc (ab (aH (aH (aa 59) (xk (.int 2))) (aa 26)) (ab (aH (aH (aa 59) (xk (.int 1))) (aa 26)) (ab (aH (aH (aa 59) (xk (.int 0))) (aa 26)) (ab (bU vy uR (aa 56) (ab (aa 26) ag)) ag))))) (aa 56)))
 (ao (cn (aS c5 (bK yl (ab (aH (aa 55) (aH (aH (aa 57) (xk (.int 2))) (aH (aH (aa 57) (xk (.int 1))) (aH (aH (aa 57) (xk (.int 0))) (aa 24))))) ag)) (aa 58)) (ao (cy (xk (.bool false)))
 aC) aC)
 aC)) 400 p.1 F p.2)
theorem Yj(J:TabAt (aI w base mg mb pins H) 0 128 130):cA (aI w base mg mb pins H) 9 (bH (hd01.heap_1 w.params) 131) 0 (((bT (hd01.heap_1 w.params) 131)[19]?).getD default) zF:=
 (iX 400 (eG (b8 (by rfl) (H.bE (by rfl)) (H.cg (by decide) (by rfl)) (by decide)) (Plain.cons rfl Plain.nil) d4 (au (ai 55 (by rfl) (by decide)) aF (by rfl)) xN) (bB.names (b_.cons (by rfl) ⟨trivial,.inl rfl⟩ (b_.cons (by rfl) ⟨trivial,.inr rfl⟩ b_.nil))) (aK (cY 58 (by rfl) (EJ (b8 (by rfl) (H.bE (by rfl)) (H.cg (by decide) (by rfl)) (by decide)) (by rfl) (ai 56 (by rfl) (by decide)) RN J (by rfl) (by intro _;rfl) ⟨(gm (au (cu (cu (ai 59 (by rfl) (by decide)) aA (by intro _ _;exact⟨_,rfl⟩)) (ai 26 (by rfl) (by decide)) (by intro _ _;exact⟨_,rfl⟩)) (au (cu (cu (ai 59 (by rfl) (by decide)) aA (by intro _ _;exact⟨_,rfl⟩)) (ai 26 (by rfl) (by decide)) (by intro _ _;exact⟨_,rfl⟩)) (au (cu (cu (ai 59 (by rfl) (by decide)) aA (by intro _ _;exact⟨_,rfl⟩)) (ai 26 (by rfl) (by decide)) (by intro _ _;exact⟨_,rfl⟩)) (au (dP (ai 56 (by rfl) (by decide)) (Th PQ Zl) (Plain.cons rfl Plain.nil) cP (au (ai 26 (by rfl) (by decide)) aF (by rfl)) Md (by intro _;rfl) (by rfl) (by decide)) aF (by rfl)) (by rfl)) (by rfl)) (by rfl))),(by rfl),(aV.cons _ (by rfl) (by rfl) (aV.cons _ (by rfl) (by rfl) aV.nil)),(by decide),(by rfl),(by intros;rfl),(by rfl),(by rfl)⟩) (.inl rfl) (by rfl))
 (aK (eP (cQ (dN (b8 (by rfl) (H.bE (by rfl)) (H.cg (by decide) (by rfl)) (by decide)) (Plain.cons rfl Plain.nil) d4 (au (cu (ai 55 (by rfl) (by decide)) (cu (cu (ai 57 (by rfl) (by decide)) aA (by intro _ _;exact⟨_,rfl⟩)) (cu (cu (ai 57 (by rfl) (by decide)) aA (by intro _ _;exact⟨_,rfl⟩)) (cu (cu (ai 57 (by rfl) (by decide)) aA (by intro _ _;exact⟨_,rfl⟩)) (ai 24 (by rfl) (by decide)) (by intro _ _;exact⟨_,rfl⟩)) (by intro _ _;exact⟨_,rfl⟩)) (by intro _ _;exact⟨_,rfl⟩)) (by intro _ _;exact⟨_,rfl⟩)) aF (by rfl)) Q0) (ai 58 (by rfl) (by decide)) kZ (by with_unfolding_all rfl)) (aK (eC kC)
 bp) bp)
 bp)) (by intro _ _;rfl))
noncomputable def zD(bq:AV->St->Option (List AV))(J:List AV->St->Option (AV×St)):SM:=(cn (aS c5 (ay aX (bl [53] (bC cR (ab (xk (.int 3)) ag)) (.name 42) bw (a_ (bU (f_ 69 40) (bG [27] (oN bq J)) (aa 53) ag)) 400) (bD (ab (jn 69 32 (aa 53)) ag))) (bD (ab (ay cU (xk (.str (".":ae))) (ay aX (xk (.int 1)) (aa 41))) (ab (xk (.str ("":ae))) (ab (xk (.str ("z":ae))) (ab (xk (.int 8)) ag)))))) (ao (cy (xk (.bool false)))
 aC) aC)
theorem YH{rA:ak}{bq:AV->St->Option (List AV)}{R:List AV->St->Option (AV×St)}(N:gO (aI w base mg mb pins H) "read" (.ref rA) bq)(J:ik (aI w base mg mb pins H) (.ref rA))(O:dX (aI w base mg mb pins H) 1 (.ref rA) R):cA (aI w base mg mb pins H) 9 (bH (hd01.heap_1 w.params) 131) 0 (((bT (hd01.heap_1 w.params) 131)[20]?).getD default) (zD bq R):=
 (eP (cQ (aY (dG 400 (df [53] (eG (b8 (by rfl) (H.bE (by rfl)) (H.cg (by decide) (by rfl)) (by decide)) (Plain.cons rfl Plain.nil) d4 (au aA aF (by rfl)) jV) (bB.name (by rfl) ⟨.inl rfl,.inl rfl⟩) dF (dP (ai 53 (by rfl) (by decide)) (mW 40 (by rfl) (fJ H) (by rfl) (by rfl)) Plain.nil (gz (by rfl)) aF ((tY H N J O).call.le (by decide)) (by intro _;rfl) (by rfl) (by decide)) (by rfl) (aV.cons _ (by rfl) (by rfl) aV.nil) (by intro _ _;rfl))) (dj (au (qd 32 (by rfl) (fJ H) (by rfl) (ai 53 (by rfl) (by decide))) aF (by rfl))) cS) (dj (au (aY cz (aY aA (ai 41 (by rfl) (by decide)) cS) kI) (au cz (au cz (au aA aF (by rfl)) (by rfl)) (by rfl)) (by rfl))) kZ (by with_unfolding_all rfl)) (aK (eC kC)
 bp) bp)
noncomputable def zr(bq:AV->St->Option (List AV))(J:List AV->St->Option (AV×St)):SM:=(bj 54 (bK qS (ab (bl [] (bL (bU bq J (aa 3) (ab (xk (.int 99)) ag))) (.name 17) bw (a_ (bK vZ (ab (aa 17) ag))) 400) ag)))
theorem X_{rA:ak}{bq:AV->St->Option (List AV)}{R:List AV->St->Option (AV×St)}(N:gO (aI w base mg mb pins H) "read" (.ref rA) bq)(J:ik (aI w base mg mb pins H) (.ref rA))(O:dX (aI w base mg mb pins H) 1 (.ref rA) R):cA (aI w base mg mb pins H) 9 (bH (hd01.heap_1 w.params) 131) 0 (((bT (hd01.heap_1 w.params) 131)[21]?).getD default) (zr bq R):=
 (cY 54 (by rfl) (dN (b8 (by rfl) (H.bE (by rfl)) (H.cg (by decide) (by rfl)) (by decide)) (Plain.cons rfl Plain.nil) cP (au (dG 400 (df [] (d5 (dP (ai 3 (by rfl) (by decide)) N (Plain.cons rfl Plain.nil) J (au aA aF (by rfl)) (O.call.le (by decide)) (by intro _;rfl) (by rfl) (by decide))) (bB.name (by rfl) ⟨.inl rfl,.inl rfl⟩) dF (dN (b8 (by rfl) (H.bE (by rfl)) (H.cg (by decide) (by rfl)) (by decide)) (Plain.cons rfl Plain.nil) cP (au (ai 17 (by rfl) (by decide)) aF (by rfl)) Td) (by rfl) aV.nil (by intro _ _;rfl))) aF (by rfl)) HK) (.inr rfl) (by rfl))
noncomputable def zy(bq:AV->St->Option (List AV))(J:List AV->St->Option (AV×St)):SM:=(cn (iy (aS c5 (bl [54] (bC cR (ab (xk (.int 4)) ag)) (.name 42) bw (a_ (bK (bG [5] pY) (ab (aa 54) ag))) 400) (ay aX (cH (aa 43) (bY (xk (.int 6))) bb bb) (aa 44))) (iy (aS c5 (bU (f_ 69 40) (bG [27] (oN bq J)) (aa 53) ag) (xk (.str ("":ae)))) (λ_ st=>some (false,st)))) (ao (cy (xk (.bool false)))
 aC) aC)
theorem YD{rA:ak}{bq:AV->St->Option (List AV)}{R:List AV->St->Option (AV×St)}(N:gO (aI w base mg mb pins H) "read" (.ref rA) bq)(J:ik (aI w base mg mb pins H) (.ref rA))(O:dX (aI w base mg mb pins H) 1 (.ref rA) R):cA (aI w base mg mb pins H) 9 (bH (hd01.heap_1 w.params) 131) 0 (((bT (hd01.heap_1 w.params) 131)[22]?).getD default) (zy bq R):=
 (eP (rI (oK (cQ (dG 400 (df [54] (eG (b8 (by rfl) (H.bE (by rfl)) (H.cg (by decide) (by rfl)) (by decide)) (Plain.cons rfl Plain.nil) d4 (au aA aF (by rfl)) jV) (bB.name (by rfl) ⟨.inl rfl,.inl rfl⟩) dF (dN (jz (by rfl) (H.bE (by rfl)) (by decide)) (Plain.cons rfl Plain.nil) (gz (by rfl)) (au (ai 54 (by rfl) (by decide)) aF (by rfl)) ((Ka (n:=1) H).call.le (by decide))) (by rfl) (aV.cons _ (by rfl) (by rfl) aV.nil) (by intro _ _;rfl))) (aY (gV (ai 43 (by rfl) (by decide)) (eZ aA) dt dt (by intro _ _;exact⟨_,rfl⟩)) (ai 44 (by rfl) (by decide)) cS) kZ (by with_unfolding_all rfl)) (oK (cQ (dP (ai 53 (by rfl) (by decide)) (mW 40 (by rfl) (fJ H) (by rfl) (by rfl)) Plain.nil (gz (by rfl)) aF ((tY H N J O).call.le (by decide)) (by intro _;rfl) (by rfl) (by decide)) cz kZ (by with_unfolding_all rfl)) wu))) (aK (eC kC)
 bp) bp)
noncomputable def qV(bq:AV->St->Option (List AV))(J:List AV->St->Option (AV×St)):SM:=(ao zv
 (ao (zE bq J)
 (ao Ds
 (ao Dy
 (ao Dn
 (ao Dq
 (ao zA
 (ao (zm bq J)
 (ao zF
 (ao (zD bq J)
 (ao (zr bq J)
 (ao (zy bq J)
 aC))))))))))))
theorem W9{rA:ak}{bq:AV->St->Option (List AV)}{R:List AV->St->Option (AV×St)}(N:gO (aI w base mg mb pins H) "read" (.ref rA) bq)(J:ik (aI w base mg mb pins H) (.ref rA))(O:dX (aI w base mg mb pins H) 1 (.ref rA) R)(S:TabAt (aI w base mg mb pins H) 0 128 130):sS (aI w base mg mb pins H) 9 (bH (hd01.heap_1 w.params) 131) 0 0 (((bT (hd01.heap_1 w.params) 131).drop 11).take 12) (qV bq R):=
 (fk (Yw H)
 (fk (Ya H N J O)
 (fk (Yd H)
 (fk (Yz H)
 (fk (Yr H)
 (fk (YB H)
 (fk (Yf H)
 (fk (YN H N J O S)
 (fk (Yj H S)
 (fk (YH H N J O)
 (fk (X_ H N J O)
 (fk (YD H N J O)
 Ce))))))))))))
end
section
variable{w:dB}{base:aO}{mg mb:ae->Option af}{pins:List (Nat×ak)}(H:Fx (hd01.heap_1 w.params) base mg mb)
noncomputable def tP:SM:=(bj 78 (bD ag))
theorem Yg:cA (aI w base mg mb pins H) 9 (bH (hd01.heap_1 w.params) 131) 0 (((bT (hd01.heap_1 w.params) 131)[24]?).getD default) tP:=
 (cY 78 rfl (dj aF) (.inr rfl) rfl)
noncomputable def q6:SM:=(λF st=>((bL (bD (ab (bD (ab (dc (ab (xk (.int 0)) (ab (xk (.int 1)) (ab (xk (.int 2)) ag)))) ag)) (ab (bD (ab (dc (ab (xk (.int 0)) ag)) (ab (dc (ab (xk (.int 1)) (ab (xk (.int 2)) ag))) ag))) (ab (bD (ab (dc (ab (xk (.int 1)) ag)) (ab (dc (ab (xk (.int 0)) (ab (xk (.int 2)) ag))) ag))) (ab (bD (ab (dc (ab (xk (.int 2)) ag)) (ab (dc (ab (xk (.int 0)) (ab (xk (.int 1)) ag))) ag))) (ab (bD (ab (dc (ab (xk (.int 0)) ag)) (ab (dc (ab (xk (.int 1)) ag)) (ab (dc (ab (xk (.int 2)) ag)) ag)))) ag))))))) F st).bind λp=>cB (.name 21) (ao (gN (bU ek bAppend (aa 78) (ab (bK fM (ab (bl [21] (bC fP (ab (aa 44) (ab (aa 59) ag))) (.names [73,61]) (aS oEq (bl [61] (bL (aa 21)) (.name 22) (aS l_ (ta [61] (bL (aa 22)) (.name 26) bw (nB (aH (aa 61) (aa 26))) 400) (xk (.int 1))) (a_ (aa 22)) 400) (bD ag)) (a_ (aa 73)) 400) ag)) ag)))
 aC) 400 p.1 F p.2)
theorem Ye:cA (aI w base mg mb pins H) 9 (bH (hd01.heap_1 w.params) 131) 0 (((bT (hd01.heap_1 w.params) 131)[25]?).getD default) q6:=
 (iX 400 (d5 (dj (au (dj (au (gm (au aA (au aA (au aA aF rfl) rfl) rfl)) aF rfl)) (au (dj (au (gm (au aA aF rfl)) (au (gm (au aA (au aA aF rfl) rfl)) aF rfl) rfl)) (au (dj (au (gm (au aA aF rfl)) (au (gm (au aA (au aA aF rfl) rfl)) aF rfl) rfl)) (au (dj (au (gm (au aA aF rfl)) (au (gm (au aA (au aA aF rfl) rfl)) aF rfl) rfl)) (au (dj (au (gm (au aA aF rfl)) (au (gm (au aA aF rfl)) (au (gm (au aA aF rfl)) aF rfl) rfl) rfl)) aF rfl) rfl) rfl) rfl) rfl))) (bB.name rfl ⟨trivial,.inr rfl⟩) (aK (o7 (dP (ai 78 rfl (by decide)) (nN ur uh) (Plain.cons rfl Plain.nil) cP (au (dN (b8 rfl (H.bE rfl) (H.cg (by decide) rfl) (by decide)) (Plain.cons rfl Plain.nil) cP (au (dG 400 (df [21] (eG (b8 rfl (H.bE rfl) (H.cg (by decide) rfl) (by decide)) (Plain.cons rfl (Plain.cons rfl Plain.nil)) d4 (au (ai 44 rfl (by decide)) (au (ai 59 rfl (by decide)) aF rfl) rfl) pf) (bB.names (b_.cons rfl ⟨.inl rfl,.inl rfl⟩ (b_.cons rfl ⟨.inr rfl,.inr rfl⟩ b_.nil))) (oU (cQ (dG 400 (df [61] (d5 (ai 21 rfl (by decide))) (bB.name rfl ⟨.inl rfl,.inl rfl⟩) (oU (cQ (PR 400 (b8 rfl (H.bE rfl) (H.cg (by decide) rfl) (by decide)) (d5 (ai 22 rfl (by decide))) (bB.name rfl ⟨.inl rfl,.inl rfl⟩) dF (cu (ai 61 rfl (by decide)) (ai 26 rfl (by decide)) (by intro _ _;exact⟨_,rfl⟩)) rfl (aV.cons _ rfl rfl aV.nil) (by intro _ _;rfl)) aA yK (by with_unfolding_all rfl))) (ai 22 rfl (by decide)) rfl (aV.cons _ rfl rfl aV.nil) (by intro _ _;rfl))) (dj aF) ir (by with_unfolding_all rfl))) (ai 73 rfl (by decide)) rfl (aV.cons _ rfl rfl aV.nil) (by intro _ _;rfl))) aF rfl) sL) aF rfl) rL (by intro _;rfl) rfl (by decide)) rfl)
 bp) (by intro _ _;rfl))
noncomputable def tR:SM:=(bj 83 (bD (ab (xk (.int 1)) ag)))
theorem Yh:cA (aI w base mg mb pins H) 9 (bH (hd01.heap_1 w.params) 131) 0 (((bT (hd01.heap_1 w.params) 131)[26]?).getD default) tR:=
 (cY 83 rfl (dj (au aA aF rfl)) (.inr rfl) rfl)
noncomputable def oJ:SM:=(λF st=>((bL (aa 78)) F st).bind λp=>cB (.name 79) (ao (bj 83 (bl [79] (bC fP (ab (ay aX (bD (ab (xk (.int 0)) ag)) (aa 83)) (ab (ay aX (aa 83) (bD (ab (xk (.int 0)) ag))) ag))) (.names [84,85]) bw (a_ (ay kl (aa 84) (ay cU (aa 79) (aa 85)))) 400))
 aC) 400 p.1 F p.2)
theorem Yk:cA (aI w base mg mb pins H) 9 (bH (hd01.heap_1 w.params) 131) 0 (((bT (hd01.heap_1 w.params) 131)[27]?).getD default) oJ:=
 (iX 400 (d5 (ai 78 rfl (by decide))) (bB.name rfl ⟨trivial,.inr rfl⟩) (aK (cY 83 rfl (dG 400 (df [79] (eG (b8 rfl (H.bE rfl) (H.cg (by decide) rfl) (by decide)) (Plain.cons rfl (Plain.cons rfl Plain.nil)) d4 (au (aY (dj (au aA aF rfl)) (ai 83 rfl (by decide)) cS) (au (aY (ai 83 rfl (by decide)) (dj (au aA aF rfl)) cS) aF rfl) rfl) pf) (bB.names (b_.cons rfl ⟨.inl rfl,.inl rfl⟩ (b_.cons rfl ⟨.inl rfl,.inl rfl⟩ b_.nil))) dF (aY (ai 84 rfl (by decide)) (aY (ai 79 rfl (by decide)) (ai 85 rfl (by decide)) kI) CE) rfl (aV.cons _ rfl rfl aV.nil) (by intro _ _;rfl))) (.inr rfl) rfl)
 bp) (by intro _ _;rfl))
noncomputable def tN:SM:=(bj 77 (bD (ab (xk (.int 0)) (ab (xk (.int 0)) (ab (xk (.int 0)) (ab (xk (.int 0)) ag))))))
theorem YJ:cA (aI w base mg mb pins H) 9 (bH (hd01.heap_1 w.params) 131) 0 (((bT (hd01.heap_1 w.params) 131)[28]?).getD default) tN:=
 (cY 77 rfl (dj (au aA (au aA (au aA (au aA aF rfl) rfl) rfl) rfl)) (.inl rfl) rfl)
noncomputable def rg:SM:=(λF st=>((bC cR (ab (xk (.int 6)) ag)) F st).bind λp=>cB (.name 80) (ao (bj 81 (bD (ab (bl [80] (bC cR (ab (xk (.int 6)) ag)) (.name 24) bw (a_ (gd (aS oEq (aa 24) (aa 80)) (xk (.int 1)) (xk (.int 0)))) 400) ag)))
 (ao (λF st=>((bC cR (ab (xk (.int 5)) ag)) F st).bind λp=>cB (.name 42) (ao (gN (bU ek bAppend (aa 81) (ab (bl [44,57,81] (bC cR (ab (xk (.int 6)) ag)) (.name 24) bw (a_ (bK fM (ab (bl [81,24] (bC fP (ab (aa 44) (ab (aa 57) ag))) (.names [73,63]) bw (a_ (ay cU (aa 73) (aH (aH (aa 81) (jb (xk (.int 1)))) (aH (aa 63) (aa 24))))) 400) ag))) 400) ag)))
 aC) 400 p.1 F p.2)
 (ao (cn (aS c5 (bl [83,81] (bC cR (ab (xk (.int 6)) ag)) (.name 24) (aS c5 (bK fM (ab (bl [24] (bC fP (ab (aa 83) (ab (aa 81) ag))) (.names [75,65]) bw (a_ (ay cU (aa 75) (aH (aa 65) (aa 24)))) 400) ag)) (xk (.int 0))) (a_ (aa 24)) 400) (bD ag)) (ao (cy (xk (.bool false)))
 aC) aC)
 (ao (bj 77 (bl [80] (bC fP (ab (aa 77) (ab (cH (aa 81) (bY (xk (.int 1))) bb bb) ag))) (.names [82,65]) bw (a_ (ay aX (aa 82) (aH (aa 65) (aa 80)))) 400))
 aC)))) 400 p.1 F p.2)
theorem Yc:cA (aI w base mg mb pins H) 9 (bH (hd01.heap_1 w.params) 131) 0 (((bT (hd01.heap_1 w.params) 131)[29]?).getD default) rg:=
 (iX 400 (eG (b8 rfl (H.bE rfl) (H.cg (by decide) rfl) (by decide)) (Plain.cons rfl Plain.nil) d4 (au aA aF rfl) jV) (bB.name rfl ⟨trivial,.inr rfl⟩) (aK (cY 81 rfl (dj (au (dG 400 (df [80] (eG (b8 rfl (H.bE rfl) (H.cg (by decide) rfl) (by decide)) (Plain.cons rfl Plain.nil) d4 (au aA aF rfl) jV) (bB.name rfl ⟨.inl rfl,.inl rfl⟩) dF (nZ (cQ (ai 24 rfl (by decide)) (ai 80 rfl (by decide)) ir (by with_unfolding_all rfl)) aA aA) rfl (aV.cons _ rfl rfl aV.nil) (by intro _ _;rfl))) aF rfl)) (.inr rfl) rfl)
 (aK (iX 400 (eG (b8 rfl (H.bE rfl) (H.cg (by decide) rfl) (by decide)) (Plain.cons rfl Plain.nil) d4 (au aA aF rfl) jV) (bB.name rfl ⟨trivial,.inl rfl⟩) (aK (o7 (dP (ai 81 rfl (by decide)) (nN ur uh) (Plain.cons rfl Plain.nil) cP (au (dG 400 (df [44,57,81] (eG (b8 rfl (H.bE rfl) (H.cg (by decide) rfl) (by decide)) (Plain.cons rfl Plain.nil) d4 (au aA aF rfl) jV) (bB.name rfl ⟨.inr rfl,.inr rfl⟩) dF (dN (b8 rfl (H.bE rfl) (H.cg (by decide) rfl) (by decide)) (Plain.cons rfl Plain.nil) cP (au (dG 400 (df [81,24] (eG (b8 rfl (H.bE rfl) (H.cg (by decide) rfl) (by decide)) (Plain.cons rfl (Plain.cons rfl Plain.nil)) d4 (au (ai 44 rfl (by decide)) (au (ai 57 rfl (by decide)) aF rfl) rfl) pf) (bB.names (b_.cons rfl ⟨.inl rfl,.inl rfl⟩ (b_.cons rfl ⟨.inl rfl,.inl rfl⟩ b_.nil))) dF (aY (ai 73 rfl (by decide)) (cu (cu (ai 81 rfl (by decide)) (qy aA) (by intro _ _;exact⟨_,rfl⟩)) (cu (ai 63 rfl (by decide)) (ai 24 rfl (by decide)) (by intro _ _;exact⟨_,rfl⟩)) (by intro _ _;exact⟨_,rfl⟩)) kI) rfl (aV.cons _ rfl rfl (aV.cons _ rfl rfl aV.nil)) (by intro _ _;rfl))) aF rfl) sL) rfl (aV.cons _ rfl rfl (aV.cons _ rfl rfl (aV.cons _ rfl rfl aV.nil))) (by intro _ _;rfl))) aF rfl) rL (by intro _;rfl) rfl (by decide)) rfl)
 bp) (by intro _ _;rfl))
 (aK (eP (cQ (dG 400 (df [83,81] (eG (b8 rfl (H.bE rfl) (H.cg (by decide) rfl) (by decide)) (Plain.cons rfl Plain.nil) d4 (au aA aF rfl) jV) (bB.name rfl ⟨.inr rfl,.inr rfl⟩) (oU (cQ (dN (b8 rfl (H.bE rfl) (H.cg (by decide) rfl) (by decide)) (Plain.cons rfl Plain.nil) cP (au (dG 400 (df [24] (eG (b8 rfl (H.bE rfl) (H.cg (by decide) rfl) (by decide)) (Plain.cons rfl (Plain.cons rfl Plain.nil)) d4 (au (ai 83 rfl (by decide)) (au (ai 81 rfl (by decide)) aF rfl) rfl) pf) (bB.names (b_.cons rfl ⟨.inl rfl,.inl rfl⟩ (b_.cons rfl ⟨.inl rfl,.inl rfl⟩ b_.nil))) dF (aY (ai 75 rfl (by decide)) (cu (ai 65 rfl (by decide)) (ai 24 rfl (by decide)) (by intro _ _;exact⟨_,rfl⟩)) kI) rfl (aV.cons _ rfl rfl aV.nil) (by intro _ _;rfl))) aF rfl) sL) aA kZ (by with_unfolding_all rfl))) (ai 24 rfl (by decide)) rfl (aV.cons _ rfl rfl (aV.cons _ rfl rfl aV.nil)) (by intro _ _;rfl))) (dj aF) kZ (by with_unfolding_all rfl)) (aK (eC kC)
 bp) bp)
 (aK (rm 77 rfl 400 (df [80] (eG (b8 rfl (H.bE rfl) (H.cg (by decide) rfl) (by decide)) (Plain.cons rfl (Plain.cons rfl Plain.nil)) d4 (au (ai 77 rfl (by decide)) (au (gV (ai 81 rfl (by decide)) (eZ aA) dt dt (by intro _ _;exact⟨_,rfl⟩)) aF rfl) rfl) pf) (bB.names (b_.cons rfl ⟨.inl rfl,.inl rfl⟩ (b_.cons rfl ⟨.inl rfl,.inl rfl⟩ b_.nil))) dF (aY (ai 82 rfl (by decide)) (cu (ai 65 rfl (by decide)) (ai 80 rfl (by decide)) (by intro _ _;exact⟨_,rfl⟩)) cS) rfl (aV.cons _ rfl rfl aV.nil) (by intro _ _;rfl)) (.inl rfl) rfl)
 bp)))) (by intro _ _;rfl))
noncomputable def rf:SM:=(cn (aS c5 (aa 77) (bl [78] (bC cR (ab (xk (.int 1)) (ab (xk (.int 5)) ag))) (.name 24) bw (a_ (ay aX (ay ja (aH (aa 78) (xk (.int 0))) (aa 24)) (bK fM (ab (bl [24] (bL (aa 78)) (.name 79) bw (a_ (ay ja (aa 79) (aa 24))) 400) ag)))) 400)) (ao (cy (xk (.bool false)))
 aC) aC)
theorem Yo:cA (aI w base mg mb pins H) 9 (bH (hd01.heap_1 w.params) 131) 0 (((bT (hd01.heap_1 w.params) 131)[30]?).getD default) rf:=
 (eP (cQ (ai 77 rfl (by decide)) (dG 400 (df [78] (eG (b8 rfl (H.bE rfl) (H.cg (by decide) rfl) (by decide)) (Plain.cons rfl (Plain.cons rfl Plain.nil)) d4 (au aA (au aA aF rfl) rfl) jV) (bB.name rfl ⟨.inr rfl,.inr rfl⟩) dF (aY (aY (cu (ai 78 rfl (by decide)) aA (by intro _ _;exact⟨_,rfl⟩)) (ai 24 rfl (by decide)) vj) (dN (b8 rfl (H.bE rfl) (H.cg (by decide) rfl) (by decide)) (Plain.cons rfl Plain.nil) cP (au (dG 400 (df [24] (d5 (ai 78 rfl (by decide))) (bB.name rfl ⟨.inl rfl,.inl rfl⟩) dF (aY (ai 79 rfl (by decide)) (ai 24 rfl (by decide)) vj) rfl (aV.cons _ rfl rfl aV.nil) (by intro _ _;rfl))) aF rfl) sL) cS) rfl (aV.cons _ rfl rfl aV.nil) (by intro _ _;rfl))) kZ (by with_unfolding_all rfl)) (aK (eC kC)
 bp) bp)
noncomputable def tO:SM:=(bj 69 (bD (ab (xk (.int 0)) (ab (xk (.int 0)) (ab (xk (.int 0)) (ab (xk (.int 0)) (ab (xk (.int 0)) (ab (xk (.int 0)) ag))))))))
theorem YC:cA (aI w base mg mb pins H) 9 (bH (hd01.heap_1 w.params) 131) 0 (((bT (hd01.heap_1 w.params) 131)[31]?).getD default) tO:=
 (cY 69 rfl (dj (au aA (au aA (au aA (au aA (au aA (au aA aF rfl) rfl) rfl) rfl) rfl) rfl)) (.inr rfl) rfl)
noncomputable def rh:SM:=(λF st=>((bL (aa 55)) F st).bind λp=>cB (.names [74,7,75]) (ao (bj 70 (ay cU (ay cU (ay cU (aH (aa 44) (aa 74)) (aH (aa 44) (aa 7))) (ay kl (aa 71) (aH (aa 44) (aa 7)))) (ay kl (aa 71) (aH (aa 44) (aa 75)))))
 (ao (bj 69 (bl [57,74,7,75,70] (bC lW (ab (aa 69) ag)) (.names [24,76]) bw (a_ (gd (aS oEq (aa 24) (aH (aH (aa 57) (aa 74)) (aH (aH (aa 57) (aa 7)) (aH (aH (aa 57) (aa 75)) (xk (.int 0)))))) (ay aX (aa 76) (aa 70)) (aa 76))) 400))
 aC)) 400 p.1 F p.2)
theorem YE:cA (aI w base mg mb pins H) 9 (bH (hd01.heap_1 w.params) 131) 0 (((bT (hd01.heap_1 w.params) 131)[32]?).getD default) rh:=
 (iX 400 (d5 (ai 55 rfl (by decide))) (bB.names (b_.cons rfl ⟨trivial,.inr rfl⟩ (b_.cons rfl ⟨trivial,.inr rfl⟩ (b_.cons rfl ⟨trivial,.inr rfl⟩ b_.nil)))) (aK (cY 70 rfl (aY (aY (aY (cu (ai 44 rfl (by decide)) (ai 74 rfl (by decide)) (by intro _ _;exact⟨_,rfl⟩)) (cu (ai 44 rfl (by decide)) (ai 7 rfl (by decide)) (by intro _ _;exact⟨_,rfl⟩)) kI) (aY (ai 71 rfl (by decide)) (cu (ai 44 rfl (by decide)) (ai 7 rfl (by decide)) (by intro _ _;exact⟨_,rfl⟩)) CE) kI) (aY (ai 71 rfl (by decide)) (cu (ai 44 rfl (by decide)) (ai 75 rfl (by decide)) (by intro _ _;exact⟨_,rfl⟩)) CE) kI) (.inr rfl) rfl)
 (aK (cY 69 rfl (dG 400 (df [57,74,7,75,70] (eG (b8 rfl (H.bE rfl) (H.cg (by decide) rfl) (by decide)) (Plain.cons rfl Plain.nil) d4 (au (ai 69 rfl (by decide)) aF rfl) xN) (bB.names (b_.cons rfl ⟨.inl rfl,.inl rfl⟩ (b_.cons rfl ⟨.inl rfl,.inl rfl⟩ b_.nil))) dF (nZ (cQ (ai 24 rfl (by decide)) (cu (cu (ai 57 rfl (by decide)) (ai 74 rfl (by decide)) (by intro _ _;exact⟨_,rfl⟩)) (cu (cu (ai 57 rfl (by decide)) (ai 7 rfl (by decide)) (by intro _ _;exact⟨_,rfl⟩)) (cu (cu (ai 57 rfl (by decide)) (ai 75 rfl (by decide)) (by intro _ _;exact⟨_,rfl⟩)) aA (by intro _ _;exact⟨_,rfl⟩)) (by intro _ _;exact⟨_,rfl⟩)) (by intro _ _;exact⟨_,rfl⟩)) ir (by with_unfolding_all rfl)) (aY (ai 76 rfl (by decide)) (ai 70 rfl (by decide)) cS) (ai 76 rfl (by decide))) rfl (aV.cons _ rfl rfl (aV.cons _ rfl rfl (aV.cons _ rfl rfl (aV.cons _ rfl rfl (aV.cons _ rfl rfl aV.nil))))) (by intro _ _;rfl))) (.inr rfl) rfl)
 bp)) (by intro _ _;rfl))
noncomputable def rj:SM:=(bj 68 (bl [44,57,69] (bC cR (ab (xk (.int 6)) ag)) (.name 72) bw (a_ (bK fM (ab (bl [69,72] (bC fP (ab (aa 44) (ab (aa 57) ag))) (.names [73,63]) bw (q8 (bC cR (ab (xk (.int 6)) ag)) (.name 24) (aS oEq (aH (aa 63) (aa 24)) (aa 72)) (a_ (ay cU (aa 73) (aH (aa 69) (aa 24)))) 400) 400) ag))) 400))
theorem Yq:cA (aI w base mg mb pins H) 9 (bH (hd01.heap_1 w.params) 131) 0 (((bT (hd01.heap_1 w.params) 131)[33]?).getD default) rj:=
 (rm 68 rfl 400 (df [44,57,69] (eG (b8 rfl (H.bE rfl) (H.cg (by decide) rfl) (by decide)) (Plain.cons rfl Plain.nil) d4 (au aA aF rfl) jV) (bB.name rfl ⟨.inr rfl,.inr rfl⟩) dF (dN (b8 rfl (H.bE rfl) (H.cg (by decide) rfl) (by decide)) (Plain.cons rfl Plain.nil) cP (au (dG 400 (Of [69,72] 400 (eG (b8 rfl (H.bE rfl) (H.cg (by decide) rfl) (by decide)) (Plain.cons rfl (Plain.cons rfl Plain.nil)) d4 (au (ai 44 rfl (by decide)) (au (ai 57 rfl (by decide)) aF rfl) rfl) pf) (bB.names (b_.cons rfl ⟨.inl rfl,.inl rfl⟩ (b_.cons rfl ⟨.inl rfl,.inl rfl⟩ b_.nil))) dF (eG (b8 rfl (H.bE rfl) (H.cg (by decide) rfl) (by decide)) (Plain.cons rfl Plain.nil) d4 (au aA aF rfl) jV) (bB.name rfl ⟨.inl rfl,.inl rfl⟩) (oU (cQ (cu (ai 63 rfl (by decide)) (ai 24 rfl (by decide)) (by intro _ _;exact⟨_,rfl⟩)) (ai 72 rfl (by decide)) ir (by with_unfolding_all rfl))) (aY (ai 73 rfl (by decide)) (cu (ai 69 rfl (by decide)) (ai 24 rfl (by decide)) (by intro _ _;exact⟨_,rfl⟩)) kI) rfl (aV.cons _ rfl rfl (aV.cons _ rfl rfl aV.nil)) (by intro _ _;rfl) (by intro _ _;rfl))) aF rfl) sL) rfl (aV.cons _ rfl rfl (aV.cons _ rfl rfl (aV.cons _ rfl rfl aV.nil))) (by intro _ _;rfl)) (.inl rfl) rfl)
noncomputable def q_:SM:=(cy (ay oEq (aa 68) (bl [71] (bL (aa 69)) (.name 70) bw (a_ (ay cU (aa 71) (aa 70))) 400)))
theorem YF:cA (aI w base mg mb pins H) 9 (bH (hd01.heap_1 w.params) 131) 0 (((bT (hd01.heap_1 w.params) 131)[34]?).getD default) q_:=
 (eC (B4 (ai 68 rfl (by decide)) (dG 400 (df [71] (d5 (ai 69 rfl (by decide))) (bB.name rfl ⟨.inl rfl,.inl rfl⟩) dF (aY (ai 71 rfl (by decide)) (ai 70 rfl (by decide)) kI) rfl (aV.cons _ rfl rfl aV.nil) (by intro _ _;rfl))) ir (by with_unfolding_all rfl)))
noncomputable def zg:SM:=(ao tP
 (ao q6
 (ao tR
 (ao oJ
 (ao tN
 (ao rg
 (ao rf
 (ao tO
 (ao rh
 (ao rj
 (ao q_
 aC)))))))))))
theorem Xj:gr (aI w base mg mb pins H) 9 (bH (hd01.heap_1 w.params) 131) 0 ((bT (hd01.heap_1 w.params) 131).drop 24) zg:=
 (aK (Yg H)
 (aK (Ye H)
 (aK (Yh H)
 (aK (Yk H)
 (aK (YJ H)
 (aK (Yc H)
 (aK (Yo H)
 (aK (YC H)
 (aK (YE H)
 (aK (Yq H)
 (aK (YF H)
 bp)))))))))))
end
theorem S9(st:St)(it l i:Nat)(xs:List AV)(v:AV)(hl:st[l]?=some (.list xs))(hi:st[it]?=some (.c_ l i))(hv:xs[i]?=some v):mH [.ref it] st=some (v,st.set it (.c_ l (i+1))):=by
 show(st[it]?).bind _=_;rw[hi];show(bF st l).bind _=_;rw[dC hl];show(xs[i]?).map _=_;rw[hv];rfl
theorem Up{o:AV->AV->St->Option (AV×St)}{F:aj}{st:St}{k:Nat}{x v y:AV}(J:F.lookup k=some x)(hs:o x v st=some (y,st)):eS k o (xk v) F st=some (.next,F.put k y,st):=by
 unfold eS;rw[J];show(o x v st).map _=_;rw[hs];rfl
section
variable{w:dB}{base:aO}{mg mb:ae->Option af}{pins:List (Nat×ak)}(H:Fx (hd01.heap_1 w.params) base mg mb)
theorem Lm{n:Nat}:sS (aI w base mg mb pins H) n (bH (hd01.heap_1 w.params) 80) 0 0 ((bT (hd01.heap_1 w.params) 80).take 2) (ao (bj 7 (bK mH (ab (aa 5) ag))) (ao (bj 6 (ay oB (aa 7) (xk (.int 63)))) aC)):=
 (fk (cY 7 rfl (dN (b8 rfl (H.bE rfl) (H.cg (by decide) rfl) (by decide)) (Plain.cons rfl Plain.nil) cP (au (ai 5 rfl (by decide)) aF rfl) B_) (.inl rfl) rfl)
 (fk (cY 6 rfl (aY (ai 7 rfl (by decide)) aA vh) (.inl rfl) rfl) Ce))
noncomputable def Xl(b:List gK):gK:=match b[2]? with|some (Stmt.While _ (x::_) _ _)=>x|_=>default
theorem KW{A:bg}{outer:List aR}{ρ:aD}{st:St}{s:ah}{oc l i:Nat}{oa:ak}{xs:List AV}{b v2:Int}{Q:af->ah->Prop}{E:af->ah->Prop}
 (hA:bN 2 A)(Z7:A.frames=some outer)(Z8:∀aq s',Go No ρ s aq s'->s'.heap.FunFrames base outer)
 (R:Rel (aI w base mg mb pins H) ρ st s.heap)(ho:st[oc]?=some (.c_ l i))(hl:st[l]?=some (.list xs))(h0:xs[i]?=some (.int b))(h1:xs[i+1]?=none)
 (hb:gY b 64≠0)(hs:∀st':St,nr (.int (gY b 63)) (.int 6) st'=some (.int v2,st'))(ha:ρ[oc]?=some oa)
 (K:∀L aq s2 h' e T,Go No ρ s aq s2->Rel (aI w base mg mb pins H) aq (st.set oc .gP) s2.heap->L∉aq->base.get? L=none->s.heap.get? L=none->
  Flt s2.heap (L::outer.filterMap (·.frame)) h' e T .none ->E (.ref e) {s2 with heap:=h'}):
 wpAny (model mc.row.prog w) A (call (.ref 80) [.ref oa]) Q E s:=by
 have Z9:oc≠l:=λz=>by rw[z,hl]at ho;cases ho
 refine rZ (Bm (C:=aI w base mg mb pins H) (n:=1) (fd:=iY (hd01.heap_1 w.params) 80) (body:=bT (hd01.heap_1 w.params) 80) (ks:=[5]) (avs:=[.ref oc]) hA R (.cons ⟨oa,ha,rfl⟩ .nil) rfl rfl rfl rfl rfl rfl rfl
  (qY λa0=>by rfl) (by decide)
  (dp (.inl rfl) (fz)) (lQ rfl) rfl rfl rfl rfl λenv s1 E' hE U N1 R1 g1 own=>?_)
 have J:bN 1 (A.deeper env):=hA.deeper env;have Y:(A.deeper env).frames =some (env::outer):=Around.frames_deeper Z7;have N:env.frame=some env.locals:=by rw[U];rfl
 have Z_:env.scope.kind≠.module :=by rw[N1.scope,N1.kind];decide
 have e1:(ao (bj 7 (bK mH (ab (aa 5) ag))) (ao (bj 6 (ay oB (aa 7) (xk (.int 63)))) aC)) [(5,.ref oc)] st=some (.next,[(5,.ref oc),(7,.int b),(6,.int (gY b 63))],st.set oc (.c_ l (i+1))):=by
  show(bj 7 (bK mH (ab (aa 5) ag)) [(5,.ref oc)] st).bind _=_;rw[show bj 7 (bK mH (ab (aa 5) ag)) [(5,.ref oc)] st=(mH [.ref oc] st).map λp=>(.next,[(5,.ref oc),(7,p.1)],p.2)from rfl,S9 st oc l i xs _ hl ho h0];rfl
 show wpAny (model mc.row.prog w) (A.deeper env) (execs ((bT (hd01.heap_1 w.params) 80).take 2++(bT (hd01.heap_1 w.params) 80).drop 2) env) _ E' s1;refine(Lm H (n:=1)).u (A.deeper env) env _ ρ st s1 _ _ _ _ _ J (cJ _) N1 R1 e1 λbA s2 g2 N2 R2 _=>?_;have go2:Go No ρ s bA s2:=g2.l8.after g1 own;refine kH (T8 (Sj (λj s'=>j=1/\s'=s2) ?_ 1 ⟨rfl,rfl⟩));rintro j s' ⟨rfl,rfl⟩;refine(qv (C:=aI w base mg mb pins H) (n:=1) (sc:=bH (hd01.heap_1 w.params) 80) (by intro _;rfl) (aY (ai 7 (by rfl) (by decide)) (aA (i:=64)) vh) qo).k J N2 R2 ?_;refine Ok.of (a:=(true,st.set oc (.c_ l (i+1)))) (by
  show some (gY b 64!=0,st.set oc (.c_ l (i+1)))=_;rw[bne_iff_ne.mpr hb]) λρ3 s3 g3 R3=>?_
 show wpAny _ _ (execs _ env) _ _ s3;have N3:=N2.go g3;have w5:cA (aI w base mg mb pins H) 1 (bH (hd01.heap_1 w.params) 80) 0 (Xl (bT (hd01.heap_1 w.params) 80)) (eS 6 nr (xk (.int 6))):=mu 6 rfl (aA (i:=6)) HN (.inl rfl);refine kH (w5.u (A.deeper env) env [(5,.ref oc),(7,.int b),(6,.int (gY b 63))] ρ3 (st.set oc (.c_ l (i+1))) s3 .next (aj.put [(5,.ref oc),(7,.int b),(6,.int (gY b 63))] 6 (.int v2)) (st.set oc (.c_ l (i+1))) _ _ J (cJ _) N3 R3 (Up rfl (hs _)) λr Z4 s4 g4 N4 R4 r4=>?_);cases r4
 have go4:Go No ρ s Z4 s4:=((g2.trans (g3.own.trans g4)).l8).after g1 own;refine kH (yh ?_ (by rw[mR (env':={(default:aR)with scope:=bH (hd01.heap_1 w.params) 80}) N4.scope];rfl));refine o3 (b8 (C:=aI w base mg mb pins H) (sc:=bH (hd01.heap_1 w.params) 80) (x:="next") (f:=.builtin "next") rfl (H.bE rfl) (H.cg (by decide) rfl) (by decide) (A.deeper env) env _ Z4 _ s4 _ _ N4 R4 ?_);refine p0 (C:=aI w base mg mb pins H) (n:=1) (sc:=bH (hd01.heap_1 w.params) 80) (avs:=[.ref oc]) (st1:=st.set oc (.c_ l (i+1))) (fa:=ab (aa 5) ag) J N4 R4 (.cons rfl .nil) cP (au (ai 5 rfl (by decide)) aF rfl) rfl λvs' O s5 g5 R5 r5=>?_;cases r5 with
 |cons r0 rn=>
  cases rn
  refine aG r0 λob S zq2=>?_;subst zq2;have N5:=N4.go g5;have go5:Go No ρ s O s5:=((g2.trans (g3.own.trans (g4.trans g5.own))).l8).after g1 own;have hli:(st.set oc (.c_ l (i+1)))[oc]?=some (.c_ l (i+1)):=by rw[List.getElem?_set_self (fX.mp ho).1]
  have hll:(st.set oc (.c_ l (i+1)))[l]?=some (.list xs):=by rw[Pn Z9];exact hl
  refine aG (R5.at hli S) λla hla hit=>?_;refine aG (R5.list hll hla) λvs hpl rvs=>?_;refine next_end J.handled hit (fB hpl) (ru rvs h1) λhm h' e k al ks en ex=>?_;have R6:Rel (aI w base mg mb pins H) O (st.set oc .gP) hm:=by
   have:=R5.put (h':=hm) S (λb x ne e=>k b x ne e) al (o':=.gP) trivial;rwa[AW]at this
  have Z5:Go No ρ s O {s5 with heap:=hm}:=go5.trans (Go.put (t:=s5.toks) S (λb x ne e=>k b x ne e) al);have hLn:env.locals≠ob:=λz=>N5.mI (z▸j8 S);have ff:hm.FunFrames base (env::outer):=by
   refine⟨Z_,?_,Z8 _ _ Z5⟩;refine BX N5.ns λM o es ep e1 zq5=>?_;obtain⟨e2,_⟩:=zq5;exact⟨env.locals,o,N,N5.oj,k _ _ hLn e1,λvs z=>by rw[e2]at z;cases z⟩
  have hfm:(env::outer).filterMap (·.frame)=env.locals::outer.filterMap (·.frame):=by rw[xb,N]
  have x0:tJ hm (env.locals::outer.filterMap (·.frame)) h' e .none :=⟨en,ex,λb o q=>⟨λ_=>ks b o q,o.slots,ks b o q⟩⟩;have Z6:∀b∈(env::outer).filterMap (·.frame),b∈env.locals::outer.filterMap (·.frame):=λb m=>hfm▸m;refine Um (s:={s5 with heap:=h'}) Y ff N Z6 x0 λh2 T2 x2=>?_;refine Sb (s:={s5 with heap:=h2}) N x2 λh3 x3=>?_;refine hE _ _ (Q8 (s:={s5 with heap:=h3}) N x3 λh4 x4=>?_);exact K env.locals O {s5 with heap:=hm} h4 e T2 Z5 R6 N5.mI N5.oj (own _ (.inl rfl)) x4
end
theorem BH{h h':aO}{c:ak}{v}(n:h.IsCell c v)(k:∀b o,h.get? b=some o->∃sl,h'.get? b=some {o with slots:=sl}):h'.IsCell c v:=n.elim λo q=>(k _ _ q.1).elim λsl e=>⟨_,e,q.2⟩
theorem Jk{h h':aO}{c:ak}{M}(n:h.Ns c M)(k:∀b o,h.get? b=some o->∃sl,h'.get? b=some {o with slots:=sl}):h'.Ns c M:=n.elim λo q=>q.elim λes q=>q.elim λep q=>(k _ _ q.1).elim λsl e=>⟨_,es,ep,e,q.2⟩
theorem a8.slots{C:Cfg}{sc:bc}{ρ:aD}{F:aj}{env:aR}{h h':aO}(N:a8 C sc ρ F env h)(k:∀b o,h.get? b=some o->∃sl,h'.get? b=some {o with slots:=sl}):a8 C sc ρ F env h':=
 ⟨N.scope,N.kind,N.globals,N.builtins,N.ns.imp λM n=>Jk n k,N.mI,N.oj,λj v q=>(N.vars j v q).imp λV p=>p.imp_right λhv=>hv.imp (λp=>p.imp_right λe=>e.imp λM e=>⟨Jk e.1 k,e.2⟩) λp=>p.imp_right λe=>e.imp λc e=>⟨e.1,e.2.1,BH e.2.2 k⟩,
  λx q=>(N.own x q).imp λc e=>e.imp λv e=>⟨e.1,e.2.1,e.2.2.1,BH e.2.2.2.1 k,e.2.2.2.2⟩,N.apart,N.vu,λx c q=>(N.cells x c q).imp_right λf=>f.imp λv f=>BH f k,N.frees,N.here⟩
theorem Kx(l:List Int):intsOf (l.map .int)=some l:=by
 induction l with
 |nil=>rfl
 |cons a l J=>
  show(some a).bind (λi=>(intsOf (l.map .int)).map (i::·))=_;rw[J];rfl
section
variable{w:dB}{base:aO}{mg mb:ae->Option af}{pins:List (Nat×ak)}(H:Fx (hd01.heap_1 w.params) base mg mb)
theorem Oi{A:bg}{env:aR}{F:aj}{ρ:aD}{st:St}{s:ah}{oc l i wl:Nat}{xs:List AV}{b v2:Int}{ws:List Int}{rest:List gK}{Q:jF->ah->Prop}{E:af->ah->Prop}
 (hA:bN 9 A)(U:A.frames=some [env])(O:env.frame=some env.locals)
 (N:a8 (aI w base mg mb pins H) (bH (hd01.heap_1 w.params) 131) ρ F env s.heap)(R:Rel (aI w base mg mb pins H) ρ st s.heap)
 (Z_:F.lookup 54=some (.ref oc))(h44:F.lookup 44=some (.ref wl))(hw:st[wl]?=some (.list (ws.map .int)))
 (ho:st[oc]?=some (.c_ l i))(hl:st[l]?=some (.list xs))(h0:xs[i]?=some (.int b))(h1:xs[i+1]?=none)
 (hb:gY b 64≠0)(hs:∀st':St,nr (.int (gY b 63)) (.int 6) st'=some (.int v2,st'))
 (K:∀aq s',Rel (aI w base mg mb pins H) aq (st.set oc .gP) s'.heap->a8 (aI w base mg mb pins H) (bH (hd01.heap_1 w.params) 131) aq (F.put 71 (.int ws.sum)) env s'.heap->s'.os=s.os->s'.gens=s.gens->
  (∀a o,s.heap.get? a=some o->a∉ρ->¬dr env a->s'.heap.get? a=some o/\a∉aq)->wpAny (model mc.row.prog w) A (execs rest env) Q E s'):
 wpAny (model mc.row.prog w) A (execs (((bT (hd01.heap_1 w.params) 131)[23]?).getD default::rest) env) Q E s:=by
 have hsk:env.scope.kind≠.module :=by rw[N.scope,N.kind];decide
 have ff:∀{aq s'},Go No ρ s aq s'->s'.heap.FunFrames base [env]:=λ{aq s'} g=>by
  have N':=N.go g;refine BX N'.ns λM o es ep e1 zq5=>?_;obtain⟨e2,_⟩:=zq5;exact⟨hsk,⟨env.locals,o,O,N'.oj,e1,λvs z=>by rw[e2]at z;cases z⟩,trivial⟩
 have Y:([env]:List aR).filterMap (·.frame)=[env.locals]:=by rw[xb,O];rfl
 refine kH (wpAny_Try_except ?_);refine kH (Tn ?_ (by unfold interactive;rw[N.scope,N.kind];rfl) (by rw[mR (env':={(default:aR)with scope:=bH (hd01.heap_1 w.params) 131}) N.scope];rfl));refine o3 (jz (C:=aI w base mg mb pins H) (sc:=bH (hd01.heap_1 w.params) 131) (x:="_parse_varint") (f:=.ref 80) rfl (H.bE rfl) (by decide) A env F ρ st s _ _ N R ?_);refine p0 (C:=aI w base mg mb pins H) (n:=9) (sc:=bH (hd01.heap_1 w.params) 131) (avs:=[.ref oc]) (st1:=st) (fa:=ab (aa 54) ag) hA N R (.cons rfl .nil) (gz rfl) (au (ai 54 rfl (by decide)) aF rfl) (by
  show((F.lookup 54).map λx=>(x,st)).bind _=_;rw[Z_];rfl) λvs' ρ1 s1 g1 R1 r1=>?_
 cases r1 with
 |cons r0 rn=>
  cases rn
  refine aG r0 λoa hoa S=>?_;subst S;refine KW H (hA.le (by decide)) U (λaq s' g=>ff (g1.trans g)) R1 ho hl h0 h1 hb hs hoa λL bA s2 h' e T g2 R2 Z4 hLb Z5 x=>?_;have J:=g1.trans g2;have N2:=N.go J;rw[Y]at x;have Z6:∀b∈([env]:List aR).filterMap (·.frame),b∈[L,env.locals]:=λb m=>by rw[Y]at m;exact cw _ m
  have nfr:∀a∈bA,a∉[L,env.locals]:=λa m z=>by
   simp only[bJ,a6,or_false]at z;rcases z with rfl|rfl
   ·exact Z4 m
   ·exact N2.mI m
  have bfr:∀a o,base.get? a=some o->a∉[L,env.locals]:=λa o q z=>by
   simp only[bJ,a6,or_false]at z;rcases z with rfl|rfl
   ·rw[hLb]at q;cases q
   ·have:=N2.oj;rw[show base.get? env.locals=none from this]at q;cases q
  have fin:∀{hh:aO}{T':ak}{fl:af},Flt s2.heap [L,env.locals] hh e T' fl->Rel (aI w base mg mb pins H) bA (st.set oc .gP) hh/\a8 (aI w base mg mb pins H) (bH (hd01.heap_1 w.params) 131) bA F env hh:=λy=>
   ⟨R2.lT (·∈[L,env.locals]) (λb o q n=>(y.lu.kp b o q).1 n) nfr bfr,N2.slots λb o q=>(y.lu.kp b o q).2⟩
  refine Tq (s:={s2 with heap:=h'}) U (ff J) O Z6 x λh5 T5 x5=>?_;refine yq (s:={s2 with heap:=h5}) (f:=none) x5 λh6 x6=>?_;obtain⟨R6,N6⟩:=fin x6;have ty6:∃o,h6.get? e=some o/\o.cls=.type "StopIteration":=x6.lu.ex.imp λoe q=>q.elim λvs q=>⟨q.1,q.2.1⟩;refine wpAny_handleBy_builtin (X:="StopIteration") (T:="StopIteration") (b:=true) (by rw[rM];kernel_rfl) (by rw[rM];kernel_rfl) FN ?_;refine b8 (C:=aI w base mg mb pins H) (sc:=bH (hd01.heap_1 w.params) 131) (x:="StopIteration") (f:=.type "StopIteration") rfl (H.bE rfl) (H.cg (by decide) rfl) (by decide) _ env F bA _ {s2 with heap:=h6} _ _ N6 R6 ⟨rfl,ty6,?_⟩;show wpAny _ _ (setFlight (.ref e) none) _ _ _;refine yq (s:={s2 with heap:=h6}) (f:=none) x6 λh7 x7=>?_;obtain⟨R7,N7⟩:=fin x7;refine kH (yh ?_ (by rw[mR (env':={(default:aR)with scope:=bH (hd01.heap_1 w.params) 131}) N7.scope];rfl));refine o3 (b8 (C:=aI w base mg mb pins H) (sc:=bH (hd01.heap_1 w.params) 131) (x:="sum") (f:=.builtin "sum") rfl (H.bE rfl) (H.cg (by decide) rfl) (by decide) _ env F bA _ {s2 with heap:=h7} _ _ N7 R7 ?_);refine call_one (C:=aI w base mg mb pins H) rfl cP (sy (rB (C:=aI w base mg mb pins H) (k:=44) N7 h44 λV r=>⟨R7.keep,?_⟩) (by decide));refine aG r λla hla S=>?_;subst S;have hwl:(st.set oc .gP)[wl]?=some (.list (ws.map .int)):=by
   rw[Pn (λz=>by rw[z,hw]at ho;cases ho)];exact hw
  refine aG (R7.list hwl hla) λvs hpl rv=>?_;refine aG (Hj rv (Ok.of (P:=λz=>z=ws) (Kx ws) rfl)) λps zq1 hps=>?_;subst zq1;have Z7:=fB hpl;rw[show(ps.map λp=>bV p.1 p.2).toArray =intItems ps.toArray by unfold intItems;rw[NS]]at Z7;have ctx:uJ h7 e:=x7.lu.ex.imp λoe q=>q.imp λvs q=>⟨q.1,q.2.2.1,q.2.2.2.2⟩;refine Xb (A:=A.mark (some (.ref e))) (x:=e) rfl ctx Z7 λh8 tk t' k8=>?_;rw[preSum_eq,show An ps.toArray.size (xD (λx=>x.fst) ps.toArray.toList)=ps.map (·.1)from kv (bS (aP _)),hps];have g8:Go No bA {s2 with heap:=h7} bA {s2 with heap:=h8,toks:=tk}:=.keeps k8;refine mS (C:=aI w base mg mb pins H) (k:=71) (v:=.int ws.sum) (T:=λ_=>True) trivial (N7.go g8) (R7.keeps k8) (.inr rfl) ⟨_,rfl⟩ λs9 g9 N9 R9=>?_;refine BU ?_;refine K bA s9 R9 N9 (g9.os.trans J.os) (g9.gens.trans J.gens) λa o q hn Z8=>?_;have q2:=J.cI a o q hn id;have Z9:=J.iZ q hn;have q7:=(x7.lu.kp a o q2).1 λz=>by
   simp only[bJ,a6,or_false]at z;rcases z with rfl|rfl
   ·rw[g1.cI a o q hn id]at Z5;cases Z5
   ·exact Z8 (.inl rfl)
  exact⟨g9.cI a o (k8 a o q7) Z9 Z8,Z9⟩
end
section
variable{w:dB}{base:aO}{mg mb:ae->Option af}(H:Fx (hd01.heap_1 w.params) base mg mb)
theorem O1{A:bg}{env:aR}{D:ak}{xs:List AV}{vs:List af}{s:ah}{Q:jF->ah->Prop}{E:af->ah->Prop}{F1:aj}{st1:St}{text:ae}
 (hA:bN 9 A)(hfr:A.frames=some [env])(hef:env.frame=some env.locals)(N:a8 (aI w base mg mb [(0,128)] H) (bH (hd01.heap_1 w.params) 131) [128] [(38,.val (.ref D))] env s.heap)(R:Rel (aI w base mg mb [(0,128)] H) [128] [.tab []] s.heap)
 (hT:s.heap.get? 106=some (tabObj #[]))(hTB:base.get? 106=none)(hcd:ui base 110 106)(hbm:base.BuiltinsAt mg 106)(hcd2:ui base 130 128)(hbm2:base.BuiltinsAt mg 128)(hD:base.IsList D vs.toArray)(hx:∀ρ,bu ρ xs vs)
 (hTL:env.locals≠106)(hTC:∀y c,env.cells.lookup y=some c->c≠106)
 (hA1:tp D xs [(38,.val (.ref D))] [.tab []]=some (.next,F1,st1))(Z8:F1.lookup 0=some (.str text))
 (hB1:∀sA:ak,∃(F2:aj)(bI:St)(oc l i wl:Nat)(ys:List AV)(b v2:Int)(ws:List Int)(F3:aj)(Z9:St),qV (bq sA) (fx text st1.length) (F1.put 3 (.val (.ref sA))) (st1++[.list [.int 0]])=some (.next,F2,bI)/\
  F2.lookup 54=some (.ref oc)/\F2.lookup 44=some (.ref wl)/\bI[wl]?=some (.list (ws.map .int))/\bI[oc]?=some (.c_ l i)/\bI[l]?=some (.list ys)/\ys[i]?=some (.int b)/\ys[i+1]?=none/\
  gY b 64≠0/\(∀st':St,nr (.int (gY b 63)) (.int 6) st'=some (.int v2,st'))/\
  zg (F2.put 71 (.int ws.sum)) (bI.set oc .gP)=some (.ret (.bool true),F3,Z9)/\∃es,Z9[0]?=some (.tab es))
 (K:∀s',(∀b o,base.get? b=some o->s'.heap.get? b=some o)->s'.os=s.os->s'.gens=s.gens->(∃ps,s'.heap.get? 106=some (tabObj ps))->(∃ps,s'.heap.get? 128=some (tabObj ps))->Q (.ret (.bool true)) s'):
 wpAny (model mc.row.prog w) A (execs (bT (hd01.heap_1 w.params) 131) env) Q E s:=by
 show wpAny (model mc.row.prog w) A (execs ((bT (hd01.heap_1 w.params) 131).take 10++(bT (hd01.heap_1 w.params) 131).drop 10) env) Q E s;have J:∀a,a=106->¬dr env a:=by
  rintro a rfl (e|⟨y,_,_,q⟩)
  ·exact hTL e.symm
  ·exact hTC y _ q rfl
 refine(WU H hD hx).u A env _ [128] [.tab []] s F1 st1 _ Q E hA (cJ _) N R hA1 λρ1 s1 g1 N1 R1 ht1=>?_;have hT1:s1.heap.get? 106=some (tabObj #[]):=g1.cI _ _ hT (by simp) (J _ rfl);have Z6:106∉ρ1:=g1.iZ hT (by simp);refine kH (wt ht1 (yh ?_ (by rw[mR (env':={(default:aR)with scope:=bH (hd01.heap_1 w.params) 131}) N1.scope];rfl)));refine o3 (jz (C:=aI w base mg mb [(0,128)] H) (sc:=bH (hd01.heap_1 w.params) 131) (x:="_law_stream") (f:=.ref 111) (by rfl) (H.bE (by rfl)) (by decide) A env F1 ρ1 st1 s1 _ _ N1 R1 ?_);refine p0 (C:=aI w base mg mb [(0,128)] H) (n:=9) (sc:=bH (hd01.heap_1 w.params) 131) (avs:=[.str text]) (st1:=st1) (fa:=ab (aa 0) ag) hA N1 R1 (.cons rfl .nil) (gz (by rfl)) (au (ai 0 (by rfl) (by decide)) aF (by rfl)) (by simp[ab,aa,Z8,ag]) λvs' aq s' g' R' r'=>?_;cases r' with
 |cons r0 rn=>
  cases rn
  refine bO r0 λt0 zq1=>?_;subst zq1;have hT':s'.heap.get? 106=some (tabObj #[]):=g'.cI _ _ hT1 Z6 id;have Y:106∉aq:=g'.iZ hT1 Z6;refine KD H (hA.le (by decide)) R' hT' Y hTB hcd hbm λlp rA sA s2 U=>?_;refine nf U.read λcp ct c' d3 Z_=>?_;refine jW Z_ λdoc pm tx hr0 hrec0 hp0 zq6=>?_;obtain⟨ht0,ncp,nct,nc',hpt,fcp,fct,fc'⟩:=zq6;refine nf U.stream λda fdS gx td Z_=>?_;refine jj Z_ λep hs0 hd0 nda fda=>?_;have N':=N1.go g';have N2:a8 (aI w base mg mb [(0,128)] H) (bH (hd01.heap_1 w.params) 131) (aq++[lp]) F1 env s2.heap:=N'.oD U.go.l8 hTL hTC;refine mS (C:=aI w base mg mb [(0,128)] H) (sc:=bH (hd01.heap_1 w.params) 131) (k:=3) (v:=.val (.ref sA)) (T:=λ_=>True) trivial N2 U.rel (by first|exact .inl rfl|exact .inr rfl) rfl λs3 g3 N3 R3=>?_;have Z4:∀a,s'.heap.get? a=none->¬dr env a:=by
   rintro a e (rfl|⟨y,_,_,q⟩)
   ·refine bO N'.ns λM hM=>?_
    refine bO (oq hM) λo ho=>?_;rw[e]at ho;cases ho
   ·refine nc (N'.cells y a q) λ_ v0 o ho _=>?_
    rw[e]at ho;cases ho
  have at3:∀a o,a∉aq++[lp]->s'.heap.get? a=none->s2.heap.get? a=some o->s3.heap.get? a=some o:=λa o n1 n2 e=>g3.cI a o e n1 (Z4 a n2);have S:∀a,s'.heap.get? a=none->env.locals≠a/\∀y c,env.cells.lookup y=some c->c≠a:=λa e=>by
   refine⟨λz=>?_,λy c q z=>?_⟩
   ·refine bO N'.ns λM hM=>?_
    refine bO (oq hM) λo ho=>?_;rw[z,e]at ho;cases ho
   ·refine nc (N'.cells y c q) λ_ v0 o ho _=>?_
    rw[z,e]at ho;cases ho
  have fresh:∀a∈[rA,sA,da,cp,ct,c'],s'.heap.get? a=none:=by
   intro a m;simp only[bJ,a6,or_false]at m;have e1:=U.XF;have e2:=U.XM;rcases m with rfl|rfl|rfl|rfl|rfl|rfl<;>assumption
  have Z7:∀a∈[rA,sA,da,cp,ct,c'],a∉aq++[lp]:=by
   intro a m;have e1:=U.Xx;have e2:=U.XT;simp only[bJ,a6,or_false]at m;rcases m with rfl|rfl|rfl|rfl|rfl|rfl<;>assumption
  have H2:=H.fL (h:=s3.heap) (extra:=[rA,sA,da,cp,ct,c']) R3.keep;have O:∀a∈[rA,sA,da,cp,ct,c'],∀o,s2.heap.get? a=some o->(fL base s3.heap [rA,sA,da,cp,ct,c']).get? a=some o:=λa m o e=>MQ m (at3 a o (Z7 a m) (fresh a m) e);have len':aq.length=st1.length:=R'.len;have R4:Rel (aI w (fL base s3.heap [rA,sA,da,cp,ct,c']) mg mb [(st1.length,lp),(0,128)] H2) (aq++[lp]) (st1++[.list [.int 0]]) s3.heap:=
   Rel.rebase (C:=aI w base mg mb [(0,128)] H) (C':=aI w (fL base s3.heap [rA,sA,da,cp,ct,c']) mg mb [(st1.length,lp),(0,128)] H2) (extra:=[rA,sA,da,cp,ct,c']) rfl R3 rfl Z7 λp hp=>by
    have Z5:p∈[(st1.length,lp),(0,128)]:=hp;rcases bJ.mp Z5 with e|Z5
    ·subst e
     show(aq++[lp])[st1.length]?=some lp;rw[<-len'];simp
    ·rw[cx]at Z5
     subst Z5;exact R3.pin (0,128) (.head _)
  have N4:a8 (aI w (fL base s3.heap [rA,sA,da,cp,ct,c']) mg mb [(st1.length,lp),(0,128)] H2) (bH (hd01.heap_1 w.params) 131) (aq++[lp]) (F1.put 3 (.val (.ref sA))) env s3.heap:=
   a8.rebase (C:=aI w base mg mb [(0,128)] H) (C':=aI w (fL base s3.heap [rA,sA,da,cp,ct,c']) mg mb [(st1.length,lp),(0,128)] H2) (extra:=[rA,sA,da,cp,ct,c']) rfl ⟨rfl,rfl⟩ N3 rfl (λm=>(S _ (fresh _ m)).1 rfl) λy c q m=>(S _ (fresh _ m)).2 y c q rfl
  have okR:=Mk (n:=0) (k:=st1.length) (lp:=lp) (x:=text) (pins:=[(st1.length,lp),(0,128)]) H2 (O rA (by simp) _ hr0) (by
   refine p7 hrec0 λc oc vs tt e1 e2 e3 e4=>?_;cases e1
   exact⟨c',oc,vs,tt,rfl,O c' (by simp) _ e2,e3,e4⟩) (hp0.imp λo q=>⟨O cp (by simp) _ q.1,q.2⟩) (ht0.imp λo q=>⟨O ct (by simp) _ q.1,q.2⟩) hpt (.head _)
  have hres:=K7 (C:=aI w (fL base s3.heap [rA,sA,da,cp,ct,c']) mg mb [(st1.length,lp),(0,128)] H2) (O sA (by simp) _ hs0) (O da (by simp) _ hd0);have hkeep:ik (aI w (fL base s3.heap [rA,sA,da,cp,ct,c']) mg mb [(st1.length,lp),(0,128)] H2) (.ref rA):=λh k=>keeps_F h ⟨_,_,_,_,k _ _ (O rA (by simp) _ hr0)⟩;have TA:TabAt (aI w (fL base s3.heap [rA,sA,da,cp,ct,c']) mg mb [(st1.length,lp),(0,128)] H2) 0 128 130:=by
   have kk:∀b o,base.get? b=some o->(fL base s3.heap [rA,sA,da,cp,ct,c']).get? b=some o:=λb o e=>Ab R3.keep e;exact⟨rfl,.tail _ (.head _),hcd2.keeps kk,hbm2.keeps kk,by decide⟩
  refine zU (hB1 sA) λF2 bI oc l i wl ys b zq8=>?_;refine p7 zq8 λv2 ws F3 Z9 hB h54 h44 zq7=>?_;obtain⟨hw,ho,hl,h0,h1,hb,hs,hC,es,hes⟩:=zq7;intro ht3;show wpAny (model mc.row.prog w) A (execs (((bT (hd01.heap_1 w.params) 131).drop 11).take 12++(bT (hd01.heap_1 w.params) 131).drop 23) env) Q E s3;refine(W9 H2 hres hkeep okR TA).u A env _ _ _ s3 _ _ _ _ _ hA (cJ _) N4 R4 hB λρ5 s5 g5 N5 R5 ht5=>?_;refine Oi H2 hA hfr hef N5 R5 h54 h44 hw ho hl h0 h1 hb hs λρ6 s6 R6 N6 os6 gens6 fr6=>?_;refine(Xj H2).u A env _ _ _ s6 _ _ _ _ _ hA (cJ _) N6 R6 hC λr ρ7 s7 g7 N7 R7 r7=>?_;obtain⟨V7,rfl,r7⟩:=r7;cases r7
  obtain⟨ps,htab⟩:=U.tab;have hn2:106∉aq++[lp]:=λm=>by
   rcases U.go.new 106 m with z|z
   ·exact Y z
   ·rw[hT']at z;cases z
  have t3:=g3.cI _ _ htab hn2 (J _ rfl);have t5:=g5.cI _ _ t3 hn2 (J _ rfl);have hn5:=g5.iZ t3 hn2;obtain⟨t6,hn6⟩:=fr6 _ _ t5 hn5 (J _ rfl);have t7:=g7.cI _ _ t6 hn6 (J _ rfl);refine K s7 (λb o e=>R7.keep _ _ (Ab R3.keep e)) ?_ ?_ ⟨ps,t7⟩ ?_
  ·rw[g7.os,os6,g5.os,g3.os,U.go.os,g'.os,g1.os]
  ·rw[g7.gens,gens6,g5.gens,g3.gens,U.go.gens,g'.gens,g1.gens]
  ·exact(R7.at hes (R7.pin (0,128) (.tail _ (.head _)))).imp λps q=>q.1
end
theorem my{α β:Type}[BEq α][LawfulBEq α]:∀{l:List (α×β)}{x:α}{v:β},l.lookup x=some v->(x,v)∈l
 |[],_,_,h=>by cases h
 |(y,w)::l,x,v,h=>by
  rw[eK]at h;cases q:x==y with
  |true=>rw[q]at h;cases h;rw[eq_of_beq q];exact cj ..
  |false=>rw[q]at h;exact cw _ (my h)
theorem EB:∀(names:List (ae×e7))(n:Nat)(acc:List (ae×ak)),(∀p∈acc,p.2<n)->acc.Pairwise (λx y=>x.2≠y.2)->
 (cellsFrom n names acc).Pairwise (λx y=>x.2≠y.2)/\∀p∈cellsFrom n names acc,p∈acc\/n<=p.2:=by
 intro names;induction names with
 |nil=>
  intro n acc h J;exact⟨J,λp J=>.inl J⟩
 |cons S r R=>
  obtain⟨name,kind⟩:=S;intro n acc h J;unfold cellsFrom;split
  ·have N:∀p∈(name,n)::acc,p.2<n+1:=λp hm=>by
    rcases bJ.mp hm with rfl|hm
    ·exact iI _
    ·exact sf (h p hm)
   have O:((name,n)::acc).Pairwise (λx y=>x.2≠y.2):=by
    rw[Ff];exact⟨λp hm e=>absurd (h p hm) (by rw[<-show n=p.2 from e];exact jH n),J⟩
   obtain⟨a,b⟩:=R (n+1) ((name,n)::acc) N O;refine⟨a,λp hm=>?_⟩;rcases b p hm with q|q
   ·rcases bJ.mp q with rfl|q
    ·exact .inr (a7 _)
    ·exact .inl q
   ·exact .inr (m4 q)
  ·exact R n acc h J
theorem Kl{l:List (ae×ak)}(h:l.Pairwise λx y=>x.2≠y.2){x y:ae}{c:ak}(R:(x,c)∈l)(S:(y,c)∈l):x=y:=by
 induction l with
 |nil=>cases R
 |cons p l U=>
  rw[Ff]at h;rcases bJ.mp R with ex|N
  ·rcases bJ.mp S with O|J
   ·rw[<-O]at ex;cases ex;rfl
   ·exact(h.1 _ J (by rw[<-ex])).elim
  ·rcases bJ.mp S with O|J
   ·exact(h.1 _ N (by rw[<-O])).elim
   ·exact U h.2 N J
theorem Mq{C:Cfg}{name:ae}{sc:bc}{base h:aO}{L fa:ak}{cd:af}{m cm:ae->Option af}{cells news:List (ak×iK)}{k:Nat}{V:af}{P:ak}
 (hb:C.base=base)(hk:sc.kind=.function)(F:Nq base L h m)(N:News base L h (cells++news))(X:CellsAre cm (cellsFrom (L+1) sc.names []) cells)(hP:P<L)
 (Z5:∀x,sc.names.lookup x≠some .free)(hc:sc.names.lookup (C.nm k)=some .cell)(hv:cm (C.nm k)=some V)(Y:cd=C.code)(hq:(envOfC name sc L fa cd).qual =C.qual):
 a8 C sc [P] [(k,.val V)] (envOfC name sc L fa cd) h:=by
 have G:=EB sc.names (L+1) [] (by simp) .nil;have U:∀n c,(n,c)∈cellsFrom (L+1) sc.names []->L<c:=λn c hm=>by
  rcases G.2 _ hm with q|q
  ·cases q
  ·exact q
 have N':News base L h ([]++cells):=λp hp=>N p (By _ (by simpa using hp));have K:=Cl.of_news N' X G.1 U;have R:∀c,L<=c->C.base.get? c=none:=λc hc=>by rw[hb];exact Heap.get?_none_of_le (aw F.above hc)
 have look:∀x,sc.names.lookup x=some .cell ->∃c,(cellsFrom (L+1) sc.names []).lookup x=some c:=λx O=>cellsFrom_some sc.names (L+1) (my O);have nP:∀c,L<=c->c∉[P]:=λc hc m=>by rw[cx]at m;rw[m]at hc;exact absurd hP (iH.mpr hc)
 refine⟨rfl,hk,rfl,rfl,⟨m,F.ns⟩,nP L (a7 _),R L (a7 _),?_,?_,?_,?_,?_,?_,λ_=>⟨Y,hq⟩⟩
 ·intro j v hj
  have:j=k/\v=.val V:=by
   rw[eK]at hj;cases q:j==k with
   |true=>rw[q]at hj;cases hj;exact⟨eq_of_beq q,rfl⟩
   |false=>rw[q]at hj;cases hj
  obtain⟨rfl,rfl⟩:=this;refine bO (look _ hc) λc J=>?_;have S:=K.cell _ _ J;rw[hv]at S;exact⟨V,rfl,.inr ⟨.inl hc,c,J,nP c (cq (U _ _ (my J))),S⟩⟩
 ·intro x O
  refine bO (look x O) λc J=>?_;have Z4:=U _ _ (my J);exact⟨c,_,J,nP c (cq Z4),jf Z4,K.cell _ _ J,R c (cq Z4)⟩
 ·intro x y c O hy
  exact Kl G.1 (my O) (my hy)
 ·intro x O;exact absurd O (Z5 x)
 ·intro x c O
  exact⟨nP c (cq (U _ _ (my O))),_,K.cell _ _ O⟩
 ·intro x O;exact absurd O (Z5 x)
theorem ME{l:List (ae×e7)}(h:(l.all λp=>p.2!=.free)=true):∀x,l.lookup x≠some .free :=λx e=>by
 have:=wX.mp h _ (my e);simp at this
theorem Sq{C:Cfg}{base h:aO}{P:ak}(hb:C.base=base)(N:C.pins=[(0,P)])(k:∀b o,base.get? b=some o->h.get? b=some o)(O:base.get? P=none)(J:h.get? P=some (tabObj #[])):Rel C [P] [.tab []] h:=by
 refine⟨rfl,by simp,?_,?_,λb o e=>k b o (by rw[<-hb];exact e),?_,by rw[N];simp⟩
 ·intro a m;rw[cx.mp m,hb];exact O
 ·intro a m;rw[cx.mp m];exact⟨_,J⟩
 ·intro l o a e q
  cases l with
  |zero=>
   cases e;cases q
   exact⟨#[],J,trivial,λpos=>rfl⟩
  |succ l=>simp at e
noncomputable def l4(ns:List Int):List AV:=ns.map .int
theorem LP(ns:List Int):∀{vs:List af},IntsAre vs ns->∀ρ,bu ρ (l4 ns) vs:=by
 induction ns with
 |nil=>
  intro vs h ρ;cases h
  exact .nil
 |cons n ns J=>
  intro vs h ρ;cases h with
  |cons a=>exact .cons ⟨_,rfl⟩ (J (by assumption) ρ)
theorem W5{Kf:o5}{base:aO}{p:ft}{loose:List ae}{J:FI->Option af}{mg mb:ae->Option af}(X:Kf.In base)(T:Top p loose J mg mb base):Fx Kf base mg mb:=⟨X,T.g,T.b,T.nolimit,T.builtins⟩
theorem DK{p:ft}{loose:List ae}{J:FI->Option af}{mg mb:ae->Option af}{base:aO}{P:ak}(T:Top p loose J mg mb base)(O:base.get? P=none):base.BuiltinsAt mg P:=by
 refine z7 T.bmain λbm R b1 b2 b3 b4 S N=>?_;refine⟨bm,R,b1,b2,?_,?_,b3,b4,S,N⟩
 ·intro e
  subst e;refine HL T.g λo es ep ho hd _=>?_;rw[b3]at ho;cases ho
  rw[N]at hd;cases hd
 ·intro e
  subst e;rw[O]at b3;cases b3
noncomputable def Ij:Prop:=∀(D:ak)(ns:List Int),ns.length<=63->∃(F1:aj)(st1:St)(text:ae),tp D (l4 ns) [(38,.val (.ref D))] [.tab []]=some (.next,F1,st1)/\F1.lookup 0=some (.str text)/\
 ∀sA:ak,∃(F2:aj)(bI:St)(oc l i wl:Nat)(N:List AV)(b v2:Int)(ws:List Int)(O:aj)(J:St),qV (bq sA) (fx text st1.length) (F1.put 3 (.val (.ref sA))) (st1++[.list [.int 0]])=some (.next,F2,bI)/\
  F2.lookup 54=some (.ref oc)/\F2.lookup 44=some (.ref wl)/\bI[wl]?=some (.list (ws.map .int))/\bI[oc]?=some (.c_ l i)/\bI[l]?=some (.list N)/\N[i]?=some (.int b)/\N[i+1]?=none/\
  gY b 64≠0/\(∀st':St,nr (.int (gY b 63)) (.int 6) st'=some (.int v2,st'))/\
  zg (F2.put 71 (.int ws.sum)) (bI.set oc .gP)=some (.ret (.bool true),O,J)/\∃es,J[0]?=some (.tab es)
theorem law_end(PL:Ij){w:dB}{base:aO}{p:ft}{loose:List ae}{S:FI->Option af}{mg mb:ae->Option af}{L fa:ak}{cd:af}{m cm:ae->Option af}{cells:List (ak×iK)}{D:ak}{vs:List af}{ns:List Int}{name:ae}{body:List gK}{sc:bc}{A:bg}{Q:jF->ah->Prop}{E:af->ah->Prop}{s:ah}
 (X:(hd01.heap_1 w.params).In base)(T':Top p loose S mg mb base)(F:Nq base L s.heap m)(N:News base L s.heap (cells++[(106,tabObj #[]),(128,tabObj #[])]))(XC:CellsAre cm (cellsFrom (L+1) sc.names []) cells)
 (J:body=bT (hd01.heap_1 w.params) 131)(Z5:sc=bH (hd01.heap_1 w.params) 131)(hv:cm ("script":ae)=some (.ref D))(hD:base.IsList D vs.toArray)(hI:IntsAre vs ns)(hl:ns.length<=63)(hcd:ui base 110 106)(U:ui base 130 128)(hA:bN 9 A)(hL:106<L/\128<L)
 (hn:name=("law":ae))(hc:cd=.ref 130)(Z6:A.frames=some [envOfC name sc L fa cd])
 (K:∀s',(∀b o,base.get? b=some o->s'.heap.get? b=some o)->s'.os=s.os->s'.gens=s.gens->(∃ps,s'.heap.get? 106=some (tabObj ps))->(∃ps,s'.heap.get? 128=some (tabObj ps))->Q (.ret (.bool true)) s'):
 wpAny (model mc.row.prog w) A (execs body (envOfC name sc L fa cd)) Q E s:=by
 subst J;subst Z5;subst hn;subst hc;have Y:(106,tabObj #[])∈cells++[((106:ak),tabObj #[]),(128,tabObj #[])]:=by simp
 have O:(128,tabObj #[])∈cells++[((106:ak),tabObj #[]),(128,tabObj #[])]:=by simp
 have hT:=N.get Y;have Z4:=N.fresh Y;let H:Fx (hd01.heap_1 w.params) base mg mb:=W5 X T';have Z7:(aI w base mg mb [(0,128)] H).nm 38=("script":ae):=by rfl
 have EN:=Mq (C:=aI w base mg mb [(0,128)] H) (name:="law") (fa:=fa) (cd:=.ref 130) (k:=38) (V:=.ref D) (P:=128) rfl (by rfl) F N XC hL.2 (ME (by rfl)) (by rfl) (by rw[Z7];exact hv) rfl (by rfl);have R:Rel (aI w base mg mb [(0,128)] H) [128] [.tab []] s.heap:=Sq rfl rfl F.keep (N.fresh O) (N.get O);refine HL (PL D ns hl) λF1 st1 text e1 q0 hB=>?_;have G:=EB (bH (hd01.heap_1 w.params) 131).names (L+1) [] (by simp) .nil;exact O1 H hA Z6 rfl EN R hT Z4 hcd (DK T' Z4) U (DK T' (N.fresh O)) hD (λρ=>LP ns hI ρ) (λe=>by have e':L=106:=e;rw[e']at hL;exact jH _ hL.1)
  (λy c hc e=>by
   rcases G.2 _ (my hc)with q|q
   ·cases q
   ·have h1:106<c:=cK (sf hL.1) q
    rw[e]at h1;exact jH _ h1)
  e1 q0 hB K
open PySem.Builtin PySem.Builtin.Str
theorem XX{lo hi:Int}(h:0<=lo)(k:hi<=60):((hi -lo+7 -1)/7).toNat <=9:=FO.mpr (p9 (Int.ediv_le_ediv (by decide) (Int.sub_le_sub_right (AQ (p9 (Ql hi h) k) 7) 1)) (by decide))
theorem EA(ns:List Int)(j:Nat):(pick ns (some (j:Int)) (some 60) (some 7)).length <=9:=by
 unfold pick;refine aw (List.length_filterMap_le _ _) ?_;have J:¬((j:Int)<0):=by exact h_.mpr (eA _)
 simp only[sliceBounds,xr,Gy,show(7:Int)>0 by decide,if_true,J,if_false,show¬((60:Int)<0) by decide];unfold sliceRange;simp only[show(7:Int)>0 by decide,if_true,aP,eI];split
 ·exact XX (Int.le_max_left ..) (Int.max_le.mpr ⟨by decide,Int.min_le_left ..⟩)
 ·exact cJ _
noncomputable def vm(ns:List Int)(k:Nat):Nat:=((pick ns (some (k:Int)) (some 60) (some 7)).map λx=>(x.fmod 1000000).toNat).sum
theorem sum_nat:∀l:List Int,(l.map λx=>x.fmod 1000000).sum =(((l.map λx=>(x.fmod 1000000).toNat).sum :Nat):Int)
 |[]=>rfl
 |x::l=>by
  have:0<=x.fmod 1000000:=QG _ (by decide);rw[bX,bX,rP,rP,sum_nat l,Int.natCast_add,Hq this]
theorem IA:∀l:List Int,(l.map λx=>(x.fmod 1000000).toNat).sum <=999999*l.length
 |[]=>a7 _
 |x::l=>by
  have h1:x.fmod 1000000<1000000:=Int.fmod_lt_of_pos _ (by decide);have h2:0<=x.fmod 1000000:=QG _ (by decide);have:=IA l;rw[bX,rP,dE];exact aw (fU (FO.mpr (PS h1)) this) (bS (gI ..))
theorem ND(ns:List Int)(k:Nat):vm ns k<=8999991:=aw (IA _) (by have:=EA ns k;exact aw (ib _ this) (by decide))
noncomputable def gu(ns:List Int):List Nat:=([17,256,433,1745,40621,3436,133].zipIdx 0).map λp=>p.1+vm ns p.2
section
variable{W:List Nat}{G:Gm}
theorem Hb{st:St}:∀ns:List Int,aQ W st (ns.map .int) (ns.map .int)
 |[]=>.nil
 |n::ns=>.cons (.int n) (Hb ns)
theorem MC{D:ak}{ns:List Int}{f:EM}{lo hi U}{i j k:Option Int}(hf:Ev W G f (.v (.val (.ref D))))(h1:pW W G lo i)(h2:pW W G hi j)(h3:pW W G U k)(hk:k≠some 0)(hl:ns.length<=16777216):
 bh W G (xQ D (l4 ns) f lo hi U) (.list ((pick ns i j k).map .int)):=λ_ _ J=>
 Ok.bind' ((hf _ _ J).mono λp N=>Ok.bind' ((h1 _ _ (J.cZ N.1)).mono λq O=>Ok.bind' ((h2 _ _ (J.cZ (N.1.trans O.2))).mono λu R=>Ok.bind' ((h3 _ _ (J.cZ ((N.1.trans O.2).trans R.2))).mono λv hv=>by
  obtain⟨x,S⟩:=p;have Y:aN [] S v.2:=(O.2.trans R.2).trans hv.2;rw[O.1,R.1,hv.1];obtain⟨hp1,hx⟩:=N;cases(show x=.val (.ref D)from hx)
  have e:JJ D (l4 ns) (.val (.ref D)) i j k v.2=some (.ref v.2.length,v.2++[.list (pick (l4 ns) i j k)]):=if_pos (c:=eJ D=.ref D/\(l4 ns).length <=sizeLine/\k≠some 0) ⟨rfl,by unfold l4;rw[aP];exact hl,hk⟩;refine Ok.of e ⟨(hp1.trans Y).trans (.app _),j6 (J.bd.keep (hp1.trans Y)) ?_⟩;unfold l4;rw[Nn];exact Hb _))))
theorem L9:cO W ja (.int 10) (.int 6) (.int 1000000):=lg (λst=>rfl) λst=>.int _
theorem Uj{D:ak}{ns:List Int}(N:ns.length<=63)(J:G 38=some (.v (.val (.ref D)))):
 bh W G (bl [38] (bC lW (ab (bD (ab (xk (.int 17)) (ab (xk (.int 256)) (ab (xk (.int 433)) (ab (xk (.int 1745)) (ab (xk (.int 40621)) (ab (xk (.int 3436)) (ab (xk (.int 133)) ag)))))))) ag)) (.names [24,51]) bw (a_ (ay aX (aa 51) (bK fM (ab (bl [] (bL (xQ D (l4 ns) (aa 38) (bY (aa 24)) (bY (xk (.int 60))) (bY (xk (.int 7))))) (.name 52) bw (a_ (ay oMod (aa 52) (ay ja (xk (.int 10)) (xk (.int 6))))) 400) ag)))) 400) (.list ((gu ns).map nD)):=by
 unfold gu;rw[br];refine fE (bs:=[17,256,433,1745,40621,3436,133].zipIdx 0) (mk:=λp:Nat×Nat=>.two (nD p.2) (nD p.1)) (h:=nD∘λp:Nat×Nat=>p.1+vm ns p.2) ?_ (by decide) λp O=>⟨_,.two rfl rfl,?_⟩
 ·exact xw (ds:=[17,256,433,1745,40621,3436,133].map nD) (aE (e6 (aE (aW 17) (aE (aW 256) (aE (aW 433) (aE (aW 1745) (aE (aW 40621) (aE (aW 3436) (aE (aW 133) be))))))) (by decide)) be)
 ·refine aM (az rfl) (ia (aE (d:=.list (((pick ns (some (p.2:Int)) (some 60) (some 7)).map λx=>x.fmod 1000000).map .int)) ?_ be) (r:=nD (vm ns p.2)) ?_) (mo _ _)
  ·rw[br]
   refine fE (bs:=pick ns (some (p.2:Int)) (some 60) (some 7)) (mk:=λx:Int=>.one (.int x)) (h:=iV∘λx:Int=>x.fmod 1000000) ?_ (bQ (EA ns p.2) (by decide)) λx R=>⟨_,.one rfl,aM (az rfl) (aM (gL 10) (gL 6) L9) (UN _ _ (by decide))⟩;have:=iC (W:=W) (tg:=.name 52) (MC (G:=((G.only [38]).put 24 (.d (nD p.2))).put 51 (.d (nD p.1))) (ns:=ns) (az (k:=38) J) (fS (az (k:=24) rfl)) (fS (gL 60)) (fS (gL 7)) (by decide) (aw N (by decide))) rfl;rwa[br]at this
  ·have:=s8 (W:=W) (ns:=(pick ns (some (p.2:Int)) (some 60) (some 7)).map λx=>x.fmod 1000000)
   rw[sum_nat]at this;exact this
end
structure Rw where
 core:List Nat
 n:Nat
 k:Nat
noncomputable def dl(k:Nat):List Nat:=[0,1,if k<3 then 0 else 3,if k<3 then 2 else 3]
noncomputable def Rw.c9(r:Rw):Nat:=(dl r.k).getD (r.n/16%4) 0
noncomputable def Rw.kind(r:Rw):Nat:=r.n/64%3
noncomputable def vo:List (List Nat):=[[10],[9,13],[32,13,10]]
noncomputable def Rw.fin(r:Rw):List Nat:=vo.getD (r.n/192%3) []
noncomputable def Rw.body(r:Rw):List Nat:=bZ r.c9 46++r.core
noncomputable def Rw.txt(r:Rw):List Nat:=jx r.body r.kind++r.fin
noncomputable def Rw.up(cC:Nat)(r:Rw):Nat:=if 0<r.c9/\r.kind=0 then r.c9+cC else r.c9
noncomputable def Rw.word(cC:Nat)(r:Rw):List Nat:=bZ (r.up cC) 46++r.core
noncomputable def gn(a b:Nat):List (List Nat):=[[a,a],[a,b],[b,a],[b,b]]
noncomputable def k_(a b:Nat):List (List Nat):=[[a],[b],[a,b],[b,a]]
noncomputable def kN(b:Nat):List (List Nat):=[[],[46,46,46],[46,46,46,b],[46,46,46,b,46,46,46]]
noncomputable def ky(a b n:Nat):List Nat:=(k_ a b).getD (n%4) []++(kN b).getD (n/4%4) []
noncomputable abbrev Ms:=List (List Nat)×List Rw
noncomputable def ko(m:Ms)(p:Nat×Nat):List (List Nat):=if p.2<3 then m.1.eraseIdx (p.1%m.1.length)else m.1
noncomputable def dJ(a b:Nat)(m:Ms)(p:Nat×Nat):Rw:=⟨if p.2<3 then m.1.getD (p.1%m.1.length) []else ky a b p.1,p.1,p.2⟩
noncomputable def qO(a b:Nat)(m:Ms)(p:Nat×Nat):Ms:=(ko m p,m.2++[dJ a b m p])
theorem getD_at{α β:Type}{f:α->β}{l:List α}{i:Nat}{d:α}(h:i<l.length):(l.map f)[i]?=some (f (l.getD i d)):=by
 rw[dQ,kF h,jg,kF h];rfl
theorem Ew{α β:Type}(f:α->β):∀(l:List α)(i:Nat),(l.map f).eraseIdx i=(l.eraseIdx i).map f
 |[],_=>rfl
 |a::l,0=>rfl
 |a::l,i+1=>congrArg (f a::·) (Ew f l i)
theorem getD_mem{α:Type}{l:List α}{i:Nat}{d:α}(h:i<l.length):l.getD i d∈l:=by
 rw[jg,kF h];exact Bj h
theorem Rw.sr(r:Rw):r.c9<=3:=by
 have h:r.n/16%4<4:=cF _ (by decide);have:=getD_mem (l:=dl r.k) (i:=r.n/16%4) (d:=0) h;have all:∀d∈dl r.k,d<=3:=λd m=>by
  unfold dl at m;simp only[bJ,a6,or_false]at m;rcases m with rfl|rfl|rfl|rfl
  ·decide
  ·decide
  ·split<;>decide
  ·split<;>decide
 exact all _ this
theorem Rw.HS(r:Rw):r.fin.length<=3:=by
 have:=getD_mem (l:=vo) (i:=r.n/192%3) (d:=[]) (cF _ (by decide));have all:∀d∈vo,d.length<=3:=by decide
 exact all _ this
theorem DO(a b n:Nat):1<=(ky a b n).length /\(ky a b n).length <=9:=by
 have h1:=getD_mem (l:=k_ a b) (i:=n%4) (d:=[]) (cF _ (by decide));have h2:=getD_mem (l:=kN b) (i:=n/4%4) (d:=[]) (cF _ (by decide));have a1:∀d∈k_ a b,1<=d.length/\d.length<=2:=λd m=>by
  unfold k_ at m;simp only[bJ,a6,or_false]at m;rcases m with rfl|rfl|rfl|rfl<;>exact⟨by simp,by simp⟩
 have a2:∀d∈kN b,d.length<=7:=λd m=>by
  unfold kN at m;simp only[bJ,a6,or_false]at m;rcases m with rfl|rfl|rfl|rfl<;>simp
 unfold ky;rw[aT];have:=a1 _ h1;have:=a2 _ h2;lia
section
variable{W:List Nat}{G:Gm}
noncomputable def b1:SM:=(bj 14 (gd (aS oLt (aa 24) (xk (.int 3))) (bU ek qZ (aa 48) (ab (ay oMod (aa 45) (bK iv (ab (aa 48) ag))) ag)) (ay aX (aH (bD (ab (aa 50) (ab (aa 49) (ab (ay aX (aa 50) (aa 49)) (ab (ay aX (aa 49) (aa 50)) ag))))) (ay oMod (aa 45) (xk (.int 4)))) (aH (bD (ab (xk (.str ("":ae))) (ab (xk (.str ("...":ae))) (ab (ay aX (xk (.str ("...":ae))) (aa 49)) (ab (ay aX (ay aX (xk (.str ("...":ae))) (aa 49)) (xk (.str ("...":ae)))) ag))))) (ay oMod (ay oDiv (aa 45) (xk (.int 4))) (xk (.int 4)))))))
noncomputable def b2:SM:=(pG [47,15] (ab (aH (bD (ab (xk (.int 0)) (ab (xk (.int 1)) (ab (gd (aS oLt (aa 24) (xk (.int 3))) (xk (.int 0)) (xk (.int 3))) (ab (gd (aS oLt (aa 24) (xk (.int 3))) (xk (.int 2)) (xk (.int 3))) ag))))) (ay oMod (ay oDiv (aa 45) (xk (.int 16))) (xk (.int 4)))) (ab (ay oMod (ay oDiv (aa 45) (xk (.int 64))) (xk (.int 3))) ag)))
noncomputable def b3:SM:=(eS 0 gM (ay aX (bK (bG [14,15] tT) (ab (ay aX (ay cU (xk (.str (".":ae))) (aa 47)) (aa 14)) (ab (aa 15) ag))) (aH (bD (ab (xk (.str ("\x0a":ae))) (ab (xk (.str ("\x09\x0d":ae))) (ab (xk (.str (" \x0d\x0a":ae))) ag)))) (ay oMod (ay oDiv (aa 45) (xk (.int 192))) (xk (.int 3))))))
noncomputable def JT:EM:=(ay aX (ay cU (xk (.str (".":ae))) (gd (nv (aS l_ (aa 47) (xk (.int 0))) (nv (aS oEq (aa 15) (xk (.int 0))) (λ_ st=>some (true,st)))) (ay aX (aa 47) (aa 41)) (aa 47))) (aa 14))
noncomputable def b4:SM:=(gN (bU ek bAppend (aa 46) (ab JT ag)))
noncomputable def y7:SM:=(ao b1 (ao b2 (ao b3 (ao b4 aC))))
theorem WK:f5=(λF st=>((bC lW (ab (cH (aa 43) bb (bY (xk (.int 6))) bb) ag)) F st).bind λp=>cB (.names [24,45]) y7 400 p.1 F p.2):=rfl
theorem WT{r:Rw}(N:G 24=some (.d (nD r.k)))(J:G 45=some (.d (nD r.n))):Sg W G b2 (.next ((G.put 15 (.d (nD r.kind))).put 47 (.d (nD r.c9)))):=by
 have lt:fb W G (aS oLt (aa 24) (xk (.int 3))) (decide (r.k<3)):=uU r.k 3▸d6 (az N) (aW 3) (Jy _ _);have ite:∀x y:Nat,bh W G (gd (aS oLt (aa 24) (xk (.int 3))) (xk (.int x)) (xk (.int y))) (nD (if r.k<3 then x else y)):=λx y=>qK lt (λh=>by rw[if_pos (of_decide_eq_true h)];exact aW x) λh=>by rw[if_neg (of_decide_eq_false h)];exact aW y
 exact Sk (aE (aM (e6 (ds:=(dl r.k).map nD) (aE (aW 0) (aE (aW 1) (aE (ite 0 3) (aE (ite 2 3) be)))) (show 4<=16777216 by decide)) (aM (aM (az J) (aW 16) (lG _ _ (by decide) (by decide))) (aW 4) (kE _ _ (by decide))) (eh _ (getD_at (cF _ (by decide))) (du (cF _ (by decide)) (by decide))))
  (aE (aM (aM (az J) (aW 64) (lG _ _ (by decide) (by decide))) (aW 3) (kE _ _ (by decide))) be))
theorem Cc(x:List Nat)(k:Nat)(h:1<=x.length):(jx x k).length <=2*x.length+2:=by
 have l1:=xE [34,92] x;have l2:=xE [92,32] (x.drop 1);rw[ez]at l2;have J:=BZ [92,32] (x.headD 0);unfold jx;split
 ·rw[aT,aT,hU];exact fj (aw (bS (gI ..)) (fj l1))
 ·rw[aT]
  split
  ·rw[dE,hU];exact aw (fW (aw l2 (ib 2 (iU ..))) 2) (bS (gI ..))
  ·exact aw (fU J (aw l2 (ib 2 (iU ..)))) (bS (gI ..))
theorem WX{r:Rw}{txt:List Nat}(hc:1<=r.core.length/\r.core.length<=9)(ht:txt.length<=10000)(h0:G 0=some (.d (sD txt)))(N:G 14=some (.d (sD r.core)))(O:G 15=some (.d (nD r.kind)))(R:G 47=some (.d (nD r.c9)))(S:G 45=some (.d (nD r.n))):
 Sg W G b3 (.next (G.put 0 (.d (sD (txt++r.txt))))):=by
 have hd:=r.sr;have J:r.body.length=r.c9+r.core.length:=by unfold Rw.body;rw[aT,jC]
 have hw:=Cc r.body r.kind (by exact CW J hc.1);have hf:=r.HS;refine Ck h0 (aM (b:=sD r.fin) (ia (aE (aM (aM (dg JE) (az R) (Cd 46 r.c9 (by exact jY hd))) (az N) (iW _ _ (by rw[jC];exact dx hd hc.2 (by decide)))) (aE (az O) be)) (LH (by rw[aT,jC];exact⟨aw hc.1 (dm ..),bQ (fU hd hc.2) (by decide)⟩))) ?_ (iW _ _ (by show(jx r.body r.kind).length +_<=_;exact dx (yX hw J hd hc.2) hf (by decide)))) (Ba txt r.txt (by unfold Rw.txt;rw[aT];exact dx ht (dx (yX hw J hd hc.2) hf (a7 _)) (by decide)));exact aM (e6 (ds:=vo.map sD) (aE (dg Dz) (aE (dg XB) (aE (dg WQ) be))) (show 3<=16777216 by decide)) (aM (aM (az S) (aW 192) (lG _ _ (by decide) (by decide))) (aW 3) (kE _ _ (by decide))) (eh _ (getD_at (cF _ (by decide))) (du (cF _ (by decide)) (by decide)))
theorem Uc{r:Rw}{cC:Nat}(hs:cC<=3)(hc:r.core.length<=9)(N:G 14=some (.d (sD r.core)))(O:G 15=some (.d (nD r.kind)))(J:G 47=some (.d (nD r.c9)))(R:G 41=some (.d (nD cC))):bh W G JT (sD (r.word cC)):=by
 have hd:=r.sr;have S:r.up cC<=6:=by unfold Rw.up;split<;>(first|exact aw hd (by decide)|exact fU hd hs)
 refine aM (aM (dg JE) (b:=nD (r.up cC)) (qK (b:=decide (0<r.c9)&&(decide (r.kind=0)&&true)) (xR (uU 0 r.c9▸d6 (az J) (aW 0) (CU _ _)) λ_=>xR (cast_eq r.kind 0▸d6 (az O) (aW 0) (pA _ _)) λ_=>uf) (λh=>?_) λh=>?_) (Cd 46 _ (by exact jY S))) (az N) (iW _ _ (by rw[jC];exact dx S hc (by decide)))
 ·have:0<r.c9/\r.kind=0:=by simpa using h
  rw[Rw.up,if_pos this];exact aM (az J) (az R) (mo _ _)
 ·have:¬(0<r.c9/\r.kind=0):=λz=>by
   have:(decide (0<r.c9)&&(decide (r.kind=0)&&true))=true:=by simpa using z
   rw[this]at h;cases h
  rw[Rw.up,if_neg this];exact az J
theorem Sp{a b n k:Nat}(hk:¬k<3)(R:G 24=some (.d (nD k)))(O:G 45=some (.d (nD n)))(N:G 50=some (.d (sD [a])))(J:G 49=some (.d (sD [b]))):Sg W G b1 (.next (G.put 14 (.d (sD (ky a b n))))):=by
 have lt:fb W G (aS oLt (aa 24) (xk (.int 3))) (decide (k<3)):=uU k 3▸d6 (az R) (aW 3) (Jy _ _);have hl:=DO a b n;refine fQ (qK lt (λh=>absurd (of_decide_eq_true h) hk) λ_=>aM (a:=sD ((k_ a b).getD (n%4) [])) (b:=sD ((kN b).getD (n/4%4) [])) ?_ ?_ (iW _ _ (by have:=hl.2;unfold ky at this;rw[aT]at this;exact jY this)))
 ·exact aM (e6 (ds:=(k_ a b).map sD) (aE (az N) (aE (az J) (aE (aM (az N) (az J) (iW [a] [b] (show 2<=16777216 by decide))) (aE (aM (az J) (az N) (iW [b] [a] (show 2<=16777216 by decide))) be)))) (show 4<=16777216 by decide)) (aM (az O) (aW 4) (kE _ _ (by decide))) (eh _ (getD_at (cF _ (by decide))) (du (cF _ (by decide)) (by decide)))
 ·exact aM (e6 (ds:=(kN b).map sD) (aE (dg lX) (aE (dg pz) (aE (aM (dg pz) (az J) (iW [46,46,46] [b] (show 4<=16777216 by decide))) (aE (aM (aM (dg pz) (az J) (iW [46,46,46] [b] (show 4<=16777216 by decide))) (dg pz) (iW [46,46,46,b] [46,46,46] (show 7<=16777216 by decide))) be)))) (show 4<=16777216 by decide)) (aM (aM (az O) (aW 4) (lG _ _ (by decide) (by decide))) (aW 4) (kE _ _ (by decide))) (eh _ (getD_at (cF _ (by decide))) (du (cF _ (by decide)) (by decide)))
theorem GR.int{F:aj}{st:St}(g:GR W G F st){k:Nat}{i:Int}(h:G k=some (.d (.int i))):F.lookup k=some (.int i):=by
 refine aG ((g.at' k _ h).get) λx e s=>?_;rw[e,(show RV W st x (.int i)from s).i']
theorem GR.av{F:aj}{st:St}(g:GR W G F st){k:Nat}{v:AV}(h:G k=some (.v v)):F.lookup k=some v:=by
 refine aG ((g.at' k _ h).get) λx e s=>?_;rw[e];exact congrArg some (show x=v from s)
theorem VM{F:aj}{st:St}{n k lc:Nat}{cs:List (List Nat)}(g:GR W G F st)(hk:k<3)(hc:1<=cs.length/\cs.length<=4)(R:G 24=some (.d (nD k)))(S:G 45=some (.d (nD n)))(U:G 48=some (.v (.ref lc)))(hl:st[lc]?=some (.list (bx cs))):
 b1 F st=some (.next,F.put 14 (.str (T (cs.getD (n%cs.length) []))),st.set lc (.list (bx (cs.eraseIdx (n%cs.length))))):=by
 have Y:=g.int R;have Z4:=g.int S;have Z5:=g.av U;have hi:n%cs.length<cs.length:=cF _ hc.1;have J:(bx cs).length =cs.length:=by unfold bx;rw[aP]
 have hlen:=Ea (bx cs) lc st hl (by exact aw (bS J) (aw hc.2 (by decide)));rw[J]at hlen;have N:=ID n cs.length st (jf hc.1);have k3:((k:Int)<3):=by exact m5.mpr hk
 have O:qZ [.ref lc,.int ((n%cs.length:Nat):Int)] st=some (.str (T (cs.getD (n%cs.length) [])),st.set lc (.list (bx (cs.eraseIdx (n%cs.length))))):=by
  have Z6:AD ((n%cs.length:Nat):Int)=true:=by
   have:n%cs.length<4:=cK hi hc.2;have c:n%cs.length=0\/n%cs.length=1\/n%cs.length=2\/n%cs.length=3:=by exact yp this
   rcases c with c|c|c|c<;>rw[c]<;>decide
  show(bF st lc).bind _=_;rw[dC hl];refine(if_pos ⟨by exact aw (bS J) (aw hc.2 (by decide)),Z6⟩).trans ?_;rw[FY (eA _) (m5.mpr (by rw[J];exact hi))];show((bx cs)[((n%cs.length:Nat):Int).toNat]?).map _=_;rw[xv];unfold bx;rw[getD_at (d:=[]) hi,Ew];rfl
 unfold b1;simp only[gF,V9,iL,iN,d7,bP,Y,cT,bz,bo,Ao,k3,decide_true,if_true,iJ,Z5,nF _ _ _ hl,eN,Z4,j4,dI,hlen,N,eM,ef,O]
end
noncomputable abbrev Gl(l:List (Nat×Vl)):Gm:=λj=>l.lookup j
section
variable{W:List Nat}{G:Gm}{F:aj}{st st':St}
theorem GR.to{l:List (Nat×Vl)}(h:GR W G F st)(hl:∀p∈l,G p.1=some p.2):GR W (Gl l) F st:=h.le λj q e=>hl (j,q) (my e)
theorem lz{l:Nat}{o:AO}(h:l∈W):aN W st (st.set l o):=⟨by rw[xj];exact a7 _,λi hi n=>by rw[get_set,if_neg (λz:i=l=>n (z.symm▸h))]⟩
theorem aN.sub{W V:List Nat}{a b:St}(h:aN V a b)(s:∀x∈V,x∈W):aN W a b:=⟨h.len,λl q n=>h.at' l q λm=>n (s l m)⟩
theorem GR.grow(h:GR W G F st)(k:aN W st st'){l:Nat}(h1:st.length<=l)(h2:l<st'.length):GR (l::W) G F st':=by
 have kp:Kp W (l::W) st st':=λi hi n=>⟨λm=>(bJ.mp m).elim (λz=>absurd hi (by rw[z];exact iH.mpr h1)) n,k.at' i hi n⟩;refine⟨λw m=>(bJ.mp m).elim (λz=>z▸h2) λm=>cK (h.bd w m) k.len,λj p e=>(h.at' j p e).mono λx s=>?_⟩;cases p with
 |d d=>exact RV.to kp s
 |v v=>exact s
theorem Iq{fa}{k:Nat}{ds:List aB}(g:GR W G F st)(N:jw W G fa ds)(hl:ds.length<=16777216):∃st1 xs,bj k (bD fa) F st=some (.next,F.put k (.ref st1.length),st1++[.list xs])/\aN [] st st1/\aQ W st1 xs ds:=by
 refine dh ((N F st g).get) λJ e O r=>?_;obtain⟨xs,st1⟩:=J;refine⟨st1,xs,?_,O,r⟩;show((fa F st).bind _).map _=_;rw[e];show(if xs.length<=sizeLine then some (AV.ref st1.length,st1++[AO.list xs])else none).map _=_;rw[if_pos (by rw[r.len];exact hl)];rfl
noncomputable abbrev GA(lc lw cC a b:Nat)(J:aB)(txt:List Nat):List (Nat×Vl):=[(43,.d J),(0,.d (sD txt)),(41,.d (nD cC)),(50,.d (sD [a])),(49,.d (sD [b])),(48,.v (.ref lc)),(46,.v (.ref lw))]
theorem Xe{V:List Nat}{a b n k lc:Nat}{m:Ms}(g:GR W G F st)(J:lc∈V)(hV:∀x∈V,x∈W)(hc:k<3->1<=m.1.length /\m.1.length <=4)(N:G 24=some (.d (nD k)))(O:G 45=some (.d (nD n)))(S:G 48=some (.v (.ref lc)))(U:G 50=some (.d (sD [a])))(Y:G 49=some (.d (sD [b])))(hl:st[lc]?=some (.list (bx m.1))):
 Ok (b1 F st) λq=>q.1=.next /\aN V st q.2.2/\GR W (G.put 14 (.d (sD (dJ a b m (n,k)).core))) q.2.1 q.2.2/\q.2.2[lc]?=some (.list (bx (ko m (n,k))))/\(∀l,l<st.length->l≠lc->q.2.2[l]?=st[l]?):=by
 by_cases hk:k<3
 ·rw[VM g hk (hc hk) N O S hl]
  have e1:(dJ a b m (n,k)).core =m.1.getD (n%m.1.length) []:=if_pos hk;have e2:ko m (n,k)=m.1.eraseIdx (n%m.1.length):=if_pos hk;rw[e1,e2];exact⟨rfl,lz J,(g.keep (lz (hV _ J))).put (p:=.d _) (.str _),by rw[get_set,if_pos rfl,if_pos (gq hl)],λl _ n=>by rw[get_set,if_neg n]⟩
 ·have e1:(dJ a b m (n,k)).core =ky a b n:=if_neg hk
  have e2:ko m (n,k)=m.1:=if_neg hk;rw[e1,e2];exact(Sp hk N O U Y F st g).mono λq R=>⟨R.2.1,R.1.any,R.2.2,R.1.get hl,λl Z4 _=>R.1.at' l Z4 a6⟩
theorem Uw{V:List Nat}{ow:aB}{a b n k lc lw cC:Nat}{m:Ms}{txt:List Nat}{ws:List (List Nat)}(S:lc∈V/\lw∈V/\lc≠lw)(hV:∀x∈V,x∈W)(hs:cC<=3)(hc:k<3->1<=m.1.length /\m.1.length <=4)(hr:1<=(dJ a b m (n,k)).core.length /\(dJ a b m (n,k)).core.length <=9)(ht:txt.length<=10000)(Z5:ws.length<=1000)
 (g:GR W (((Gl (GA lc lw cC a b ow txt)).put 24 (.d (nD k))).put 45 (.d (nD n))) F st)(hl:st[lc]?=some (.list (bx m.1)))(U:st[lw]?=some (.list (bx ws))):
 Ok (y7 F st) λq=>q.1=.next /\aN V st q.2.2/\GR W (Gl (GA lc lw cC a b ow (txt++(dJ a b m (n,k)).txt))) q.2.1 q.2.2/\q.2.2[lc]?=some (.list (bx (ko m (n,k))))/\q.2.2[lw]?=some (.list (bx (ws++[(dJ a b m (n,k)).word cC]))):=by
 unfold y7;refine Ok.bind' ((Xe (a:=a) (b:=b) g S.1 hV hc rfl rfl rfl rfl rfl hl).mono λq N=>?_);obtain⟨fl,F1,st1⟩:=q;refine yB N λz k1 g1 c1 o1=>?_;cases(show fl=.next from z)
 have Y:st1[lw]?=some (.list (bx ws)):=(o1 lw (gq U) (λe=>S.2.2 e.symm)).trans U;refine Ok.bind' ((WT (r:=dJ a b m (n,k)) rfl rfl F1 st1 g1).mono λq N=>?_);obtain⟨fl,F2,bI⟩:=q;refine de N λk2 z g2=>?_;cases(show fl=.next from z)
 refine Ok.bind' ((WX (r:=dJ a b m (n,k)) hr ht rfl rfl rfl rfl rfl F2 bI g2).mono λq N=>?_);obtain⟨fl,F3,O⟩:=q;refine de N λk3 z g3=>?_;cases(show fl=.next from z)
 have Z4:O[lw]?=some (.list (bx ws)):=(k2.trans k3).get Y;have Z6:=g3.av (k:=46) (v:=.ref lw) rfl;have he:Ok (b4 F3 O) λq=>q.1=.next /\q.2.1=F3/\∃J,aN [] O J/\q.2.2=J.set lw (.list (bx (ws++[(dJ a b m (n,k)).word cC]))):=by
  refine Ok.fK (Ok.bind' (Ok.of (a:=(.ref lw,O)) (by rw[bP,Z6];rfl) (Ok.bind' (Ok.of (nF _ _ _ Z4) (Ok.bind' (Ok.bind' ((Uc (r:=dJ a b m (n,k)) hs hr.2 rfl rfl rfl rfl F3 O g3).mono λq N=>?_)))))));obtain⟨x,J⟩:=q;cases(show RV W J x (sD ((dJ a b m (n,k)).word cC))from N.2).s'
  have ap:=r_ (bx ws) lw (.str (T ((dJ a b m (n,k)).word cC))) J (N.1.get Z4) (by unfold bx;rw[aP];exact jY Z5);show Ok (bAppend [.ref lw,.str (T ((dJ a b m (n,k)).word cC))] J) _;rw[ap];refine⟨rfl,rfl,J,N.1,?_⟩;show J.set lw _=_;unfold bx;rw[dR];rfl
 refine Ok.bind' (he.mono λq N=>?_);obtain⟨fl,F4,J⟩:=q;refine UJ N λz z2 R k5 Z7=>?_;subst Z7;cases(show fl=.next from z)
 cases(show F4=F3 from z2)
 have kk:aN [] st1 R:=(k2.trans k3).trans k5;refine⟨rfl,(k1.trans kk.any).trans (lz S.2.1),((g3.cZ k5).keep (lz (hV _ S.2.1))).to (l:=GA lc lw cC a b ow (txt++(dJ a b m (n,k)).txt)) ?_,?_,?_⟩
 ·exact bt.mpr ⟨rfl,bt.mpr ⟨rfl,bt.mpr ⟨rfl,bt.mpr ⟨rfl,bt.mpr ⟨rfl,bt.mpr ⟨rfl,bt.mpr ⟨rfl,λ_ h=>absurd h a6⟩⟩⟩⟩⟩⟩⟩
 ·show(R.set lw _)[lc]?=_
  rw[get_set,if_neg S.2.2];exact kk.get c1
 ·show(R.set lw _)[lw]?=_
  rw[get_set,if_pos rfl,if_pos (gq (kk.get Y))]
end
structure Good(j:Nat)(m:Ms):Prop where
 len:m.1.length =4 -min j 3
 two:∀c∈m.1,c.length=2
 rows:m.2.length =j
 core:∀r∈m.2,1<=r.core.length/\r.core.length<=9
theorem wz{a b j n:Nat}{m:Ms}(h:Good j m)(N:j<6):Good (j+1) (qO a b m (n,j))/\(j<3->1<=m.1.length /\m.1.length <=4)/\(1<=(dJ a b m (n,j)).core.length /\(dJ a b m (n,j)).core.length <=9):=by
 have hl:j<3->1<=m.1.length /\m.1.length <=4:=λq=>by exact YL h.len
 have hr:1<=(dJ a b m (n,j)).core.length /\(dJ a b m (n,j)).core.length <=9:=by
  by_cases q:j<3
  ·have e:(dJ a b m (n,j)).core =m.1.getD (n%m.1.length) []:=if_pos q
   rw[e,h.two _ (getD_mem (cF _ (hl q).1))];decide
  ·have e:(dJ a b m (n,j)).core =ky a b n:=if_neg q
   rw[e];exact DO a b n
 refine⟨⟨?_,?_,by show(m.2++[_]).length =_;rw[aT,h.rows];rfl,λr J=>?_⟩,hl,hr⟩
 ·show(ko m (n,j)).length =_
  unfold ko;by_cases q:j<3
  ·rw[if_pos q,List.length_eraseIdx,if_pos (cF _ (hl q).1),h.len];exact YG q
  ·rw[if_neg q,h.len];exact Yx q
 ·intro c hc
  replace hc:c∈ko m (n,j):=hc;unfold ko at hc;split at hc
  ·exact h.two c (Pm hc)
  ·exact h.two c hc
 ·rcases ei.mp (show r∈m.2++[dJ a b m (n,j)]from J)with z|z
  ·exact h.core r z
  ·rw[cx.mp z];exact hr
theorem Si{r:Rw}(h:1<=r.core.length/\r.core.length<=9):r.txt.length<=30:=by
 have hd:=r.sr;have J:r.body.length=r.c9+r.core.length:=by unfold Rw.body;rw[aT,jC]
 have hw:=Cc r.body r.kind (by exact CW J h.1);have hf:=r.HS;unfold Rw.txt;rw[aT];exact dx (yX hw J hd h.2) hf (by decide)
noncomputable def i9(rows:List Rw):List Nat:=(rows.map Rw.txt).flatten
noncomputable def rwords(cC:Nat)(rows:List Rw):List (List Nat):=rows.map (Rw.word cC)
theorem AS:∀{rows:List Rw},(∀r∈rows,1<=r.core.length/\r.core.length<=9)->(i9 rows).length <=30*rows.length
 |[],_=>a7 _
 |r::rs,h=>by
  have h1:=Si (h r (cj ..));have h2:=AS λx J=>h x (cw _ J);unfold i9 at*;rw[bX,gG,aT,dE];exact yJ h1 h2
noncomputable def nt(a b:Nat):List Nat->Nat->Ms->Ms
 |[],_,m=>m
 |n::ns,j,m=>nt a b ns (j+1) (qO a b m (n,j))
theorem M1{W V:List Nat}{S:aB}{a b cC lc lw:Nat}(hW:lc∈V/\lw∈V/\lc≠lw)(hV:∀x∈V,x∈W)(hs:cC<=3):∀(ns:List Nat)(j fuel:Nat)(m:Ms)(it:It)(F:aj)(st:St),j+ns.length<=6->ns.length<fuel->Good j m->
 Yl W (.names [24,45]) (((ns.map nD).zipIdx j).map λp=>.two (.int (p.2:Nat)) p.1) st it->GR W (Gl (GA lc lw cC a b S (i9 m.2))) F st->st[lc]?=some (.list (bx m.1))->st[lw]?=some (.list (bx (rwords cC m.2)))->
 Ok (cB (.names [24,45]) y7 fuel it F st) λq=>q.1=.next /\aN V st q.2.2/\GR W (Gl (GA lc lw cC a b S (i9 (nt a b ns j m).2))) q.2.1 q.2.2/\q.2.2[lw]?=some (.list (bx (rwords cC (nt a b ns j m).2)))/\Good (j+ns.length) (nt a b ns j m):=by
 intro ns;induction ns with
 |nil=>
  intro j fuel m it F st O hf hg Y g hl J;cases fuel with
  |zero=>exact absurd hf (gk _)
  |succ fuel=>
   rw[wG Y.1 (Y.2 st .rfl')];exact⟨rfl,.rfl',g,J,hg⟩
 |cons n ns ih=>
  intro j fuel m it F st O hf hg Y g hl J;rw[dE]at O;cases fuel with
  |zero=>exact absurd hf (gk _)
  |succ fuel=>
   refine fH (Y.2 st .rfl') λitem gU e s Y'=>?_;refine aG (((pO.two (j:=24) (k:=45) (G:=Gl (GA lc lw cC a b S (i9 m.2)))).ok s g).get) λF1 e1 g1=>?_;refine de (wz (a:=a) (b:=b) (n:=n) hg (by exact cK (oQ (c8 ..)) O)) λgs hc hr=>?_;have R:=AS hg.core;rw[hg.rows]at R;rw[nE Y.1 e e1];refine Ok.bind' ((Uw (m:=m) (n:=n) (k:=j) (txt:=i9 m.2) (ws:=rwords cC m.2) hW hV hs hc hr (by exact aw R (aw (ib 30 (cq (rH O))) (by decide))) (by unfold rwords;rw[aP,hg.rows];exact aw (aw (c8 ..) O) (by decide)) g1 hl J).mono λq N=>?_);obtain⟨fl,F2,bI⟩:=q;refine yB N λz k g2 l2 U=>?_;cases(show fl=.next from z)
   have eT:i9 (qO a b m (n,j)).2=i9 m.2++(dJ a b m (n,j)).txt :=by
    show i9 (m.2++[dJ a b m (n,j)])=_;unfold i9;rw[dR,qa];simp
   have eW:rwords cC (qO a b m (n,j)).2=rwords cC m.2++[(dJ a b m (n,j)).word cC]:=by
    show rwords cC (m.2++[dJ a b m (n,j)])=_;unfold rwords;rw[dR];rfl
   refine(ih (j+1) fuel (qO a b m (n,j)) gU F2 bI (by exact(hH ..)▸O) (mV hf) gs (Y'.keep (k.sub hV)) (by rw[eT];exact g2) l2 (by rw[eW];exact U)).mono λq N=>⟨N.1,k.trans N.2.1,N.2.2.1,N.2.2.2.1,?_⟩;rw[dE,show j+(ns.length+1)=j+1+ns.length by exact(Nat.succ_add ..).symm];exact N.2.2.2.2
noncomputable def Cl(l:List Nat):Prop:=∀c∈l,c≠10/\c≠13
theorem Cl.no{l:List Nat}(h:Cl l):js l:=⟨λm=>(h _ m).1 rfl,λm=>(h _ m).2 rfl⟩
theorem Cl.app{a b:List Nat}(h:Cl a)(g:Cl b):Cl (a++b):=λc m=>(ei.mp m).elim (h c) (g c)
theorem Cl.cons{c:Nat}{l:List Nat}(h:c≠10/\c≠13)(g:Cl l):Cl (c::l):=bt.mpr ⟨h,g⟩
theorem Cl.nil:Cl []:=λ_ m=>absurd m a6
theorem Cl.rep{c:Nat}(h:c≠10/\c≠13)(n:Nat):Cl (bZ n c):=λ_ m=>(oV.mp m).2▸h
theorem Cl.dT{set:List Nat}{c:Nat}(h:c≠10/\c≠13):Cl (dT set c):=by
 unfold Mine.dT;split
 ·exact .cons (by decide) (.cons h .nil)
 ·exact .cons h .nil
theorem Cl.De{set:List Nat}:∀{l:List Nat},Cl l->Cl (l.map (Mine.dT set)).flatten
 |[],_=>.nil
 |c::l,h=>by
  rw[bX,gG];exact(Cl.dT (h c (cj ..))).app (Cl.De λd m=>h d (cw _ m))
theorem Cl.wr{x:List Nat}{k:Nat}(N:x≠[])(h:Cl x):Cl (jx x k):=by
 refine mN (rO N) λc r J=>?_;subst J;have hc:=h c (cj ..);have hr:Cl r:=λd m=>h d (cw _ m);unfold jx;split
 ·exact(Cl.app (.cons (by decide) .nil) (Cl.De h)).app (.cons (by decide) .nil)
 ·refine Cl.app ?_ (Cl.De hr)
  split
  ·exact .cons (by decide) (.cons hc .nil)
  ·exact Cl.dT hc
theorem W6(x:List Nat)(k:Nat):jx x k≠[]:=by
 unfold jx;split
 ·simp
 ·split
  ·simp
  ·unfold dT;split<;>simp
theorem zV(j:Nat)(b:List Nat):lift (fu j b)=fu (j+1) b:=by
 unfold fu;split
 ·rename_i r
  cases j with
  |zero=>rfl
  |succ j=>simp only[se,eM];rfl
 ·rename_i h
  unfold lift;split
  ·rename_i r;exact absurd rfl (h r)
  ·rfl
theorem K_{b:List Nat}(h:js b/\b≠[])(j:Nat):js (fu j b)/\fu j b≠[]:=by
 induction j with
 |zero=>rw[D9];exact h
 |succ j J=>rw[<-zV];exact L4 J
theorem Mz(j:Nat)(b:List Nat):(fu j b).length <=j+b.length:=by unfold fu;split<;>simp
section
variable(ls:List (List Nat×List Nat))(tail:List Nat)
noncomputable def lR(j:Nat):List Nat:=if j=0 then lines ls++tail else gb ((ls.map (·.1)).map (fu j))++tail
theorem Wy(hl:∀p∈ls,s_ p)(ht:js tail/\tail≠[]/\lift tail=tail)(j:Nat):pQ (lR ls tail j)=lR ls tail (j+1):=by
 unfold lR;rw[if_neg (rR j)];by_cases h:j=0
 ·rw[if_pos h,Ez tail ht.1 ht.2.1 ht.2.2 ls hl,h,show lift=fu (0+1)from funext λb=>by rw[<-zV,D9]]
 ·rw[if_neg h,Lg tail ht.1 ht.2.1 ht.2.2,br,show lift∘fu j=fu (j+1)from funext λb=>zV j b]
  intro b hb;refine aG (dy.mp hb) λc hc J=>?_;subst J;refine aG (dy.mp hc) λp N J=>?_;subst J;exact K_ ⟨(hl p N).1,(hl p N).2.1⟩ j
theorem Lc:∀(bs:List (List Nat))(m:Nat),(∀b∈bs,b.length<=m)->(gb bs).length <=(m+2)*bs.length:=by
 intro bs;induction bs with
 |nil=>
  intro _ _;exact a7 _
 |cons b bs J=>
  intro m h;have h1:=h b (cj ..);have h2:=J m λx N=>h x (cw _ N);unfold gb at*;rw[bX,gG,aT,aT,show(b::bs).length =bs.length+1 from rfl,um,show[13,10].length =2 from rfl];exact yJ (iS h1 2) h2
theorem Mg:∀(ls:List (List Nat×List Nat))(m:Nat),(∀p∈ls,p.1.length <=m/\p.2.length <=2)->(lines ls).length <=(m+2)*ls.length:=by
 intro ls;induction ls with
 |nil=>
  intro _ _;exact a7 _
 |cons p ls J=>
  intro m h;have h1:=h p (cj ..);have h2:=J m λx N=>h x (cw _ N);unfold lines at*;rw[bX,gG,aT,aT,show(p::ls).length =ls.length+1 from rfl,um];exact yJ (fU h1.1 h1.2) h2
theorem MS{m:Nat}(h:∀p∈ls,p.1.length <=m/\p.2.length <=2)(j:Nat):(lR ls tail j).length <=(j+m+2)*ls.length+tail.length:=by
 unfold lR;split
 ·rename_i e
  have:=Mg ls m h;rw[aT,e,hK];exact iS this _
 ·rw[aT]
  have:=Lc ((ls.map (·.1)).map (fu j)) (j+m) (λb hb=>by
   refine aG (dy.mp hb) λc hc J=>?_;subst J;refine aG (dy.mp hc) λp N J=>?_;subst J;have:=Mz j p.1;have:=(h p N).1;exact aw (by assumption) (fW (by assumption) j))
  rw[aP,aP]at this;exact iS this _
end
noncomputable def kc:List (List Nat):=[[],[9],[32]]
noncomputable def tu:List (List Nat):=[[10],[13],[13,10]]
noncomputable def Rw.line(r:Rw):List Nat:=jx r.body r.kind++kc.getD (r.n/192%3) []
noncomputable def Rw.nl(r:Rw):List Nat:=tu.getD (r.n/192%3) []
theorem three{P:Nat->Prop}(i:Nat)(h0:P 0)(h1:P 1)(h2:P 2):P (i%3):=by
 have h:i%3<3:=cF _ (by decide);have c:i%3=0\/i%3=1\/i%3=2:=by exact yr h
 rcases c with c|c|c<;>rw[c]<;>assumption
theorem Rw.Pk(r:Rw):r.txt=r.line++r.nl:=by
 unfold Rw.txt Rw.line Rw.nl Rw.fin;rw[dn];exact congrArg _ (three (P:=λi=>vo.getD i []=kc.getD i []++tu.getD i []) (r.n/192) rfl rfl rfl)
theorem Rw.Sd(r:Rw)(h:1<=r.core.length):r.body≠[]:=λe=>by
 have:=congrArg m3 e;unfold Rw.body at this;rw[aT,nL]at this;exact absurd h (nI (bQ (aw (dm ..) (bS this)) Ng))
theorem Rw.x_(r:Rw)(h:1<=r.core.length/\r.core.length<=9)(hc:Cl r.core):s_ (r.line,r.nl)/\r.line.length<=27/\r.nl.length<=2:=by
 have hb:Cl r.body:=(Cl.rep (by decide) _).app hc;have hd:=r.sr;have J:r.body.length=r.c9+r.core.length:=by unfold Rw.body;rw[aT,jC]
 have hw:=Cc r.body r.kind (by exact CW J h.1);have N:Cl (kc.getD (r.n/192%3) [])/\(kc.getD (r.n/192%3) []).length <=1:=three (P:=λi=>Cl (kc.getD i [])/\(kc.getD i []).length <=1) _ ⟨.nil,cJ _⟩ ⟨.cons (by decide) .nil,a7 _⟩ ⟨.cons (by decide) .nil,a7 _⟩;refine⟨⟨((Cl.wr (r.Sd h.1) hb).app N.1).no,λe=>W6 r.body r.kind (xB.mp e).1,?_⟩,?_,?_⟩
 ·exact three (P:=λi=>tu.getD i []=[10]\/tu.getD i []=[13]\/tu.getD i []=[13,10]) _ (.inl rfl) (.inr (.inl rfl)) (.inr (.inr rfl))
 ·unfold Rw.line
  rw[aT];have:=N.2;exact dx (yX hw J hd h.2) N.2 (by decide)
 ·exact three (P:=λi=>(tu.getD i []).length <=2) _ (by decide) (by decide) (by decide)
noncomputable def l5(rows:List Rw):List (List Nat×List Nat):=rows.map (λr=>(r.line,r.nl))++[([46],[10])]
theorem Lk(rows:List Rw):lines (l5 rows)=i9 rows++[46,10]:=by
 unfold lines l5 i9;rw[dR,qa,br];refine congr (congrArg _ (congrArg Rq (xg λr _=>(r.Pk).symm))) rfl
theorem HU{rows:List Rw}(h:∀r∈rows,(1<=r.core.length/\r.core.length<=9)/\Cl r.core):∀p∈l5 rows,s_ p/\p.1.length <=27/\p.2.length <=2:=λp N=>by
 rcases ei.mp N with m|m
 ·refine aG (dy.mp m) λr hr J=>?_;subst J
  exact r.x_ (h r hr).1 (h r hr).2
 ·rw[cx.mp m]
  exact⟨⟨(Cl.cons (by decide) .nil :Cl [46]).no,qr _ _,.inl rfl⟩,by decide,by decide⟩
section
variable(ns:List Int)
noncomputable abbrev ju:aB:=.list ((gu ns).map nD)
noncomputable def o6:Nat:=(gu ns).getD 6 0
noncomputable def fw:Nat:=1+o6 ns%3
noncomputable def qJ:List (Nat×Nat):=[(97,98),(34,92),(32,12),(92,35)]
noncomputable def cv:Nat×Nat:=qJ.getD (o6 ns/3%4) (0,0)
noncomputable def eE:List Rw:=(nt (cv ns).1 (cv ns).2 ((gu ns).take 6) 0 (gn (cv ns).1 (cv ns).2,[])).2
noncomputable def fN:List Nat:=(((gu ns).drop 3).take 3).map λn=>n/576%500
noncomputable def v5:List (List Nat):=[[122,32],[122,9],[34,122,34]]
noncomputable def zN:List Nat:=v5.getD (o6 ns/48%3) []
noncomputable def lP:Nat:=o6 ns/12%4
noncomputable def kP:Nat:=64+o6 ns/144%64
noncomputable def iO:List Nat:=(gu ns).drop 6++fN ns
noncomputable def lO:List Nat:=((iO ns).map λn=>dD n (lP ns)).flatten ++[kP ns]
noncomputable def iq:List Nat:=[34,34]++zN ns++lO ns
noncomputable def kh:List Nat:=lR (l5 (eE ns)) (iq ns) (fw ns)
noncomputable def iM:List (List Nat):=rwords (fw ns) (eE ns)
end
theorem j7(ns:List Int):(gu ns).length =7:=by unfold gu;rw[aP,List.length_zipIdx];rfl
theorem UY(ns:List Int):∀n∈gu ns,n<16777216:=λn N=>by
 refine aG (dy.mp N) λp O J=>?_;subst J;have:=ND ns p.2;have all:∀p∈([17,256,433,1745,40621,3436,133].zipIdx 0:List (Nat×Nat)),p.1<=40621:=by decide
 have:=all p O;exact bQ (fU (by assumption:p.1<=40621) (by assumption:vm ns p.2<=8999991)) (by decide)
theorem Ca(ns:List Int):∀n∈iO ns,n<16777216:=λn N=>by
 rcases ei.mp N with m|m
 ·exact UY ns n (AI m)
 ·refine aG (dy.mp m) λk _ J=>?_;subst J
  have:k/576%500<500:=cF _ (by decide);exact du this (by decide)
theorem Sa{N:Nat}(h:N<16777216)(f:Nat)(hf:f<4):Cl (dD N f)/\(dD N f).length <=5:=by
 have hd:=CB h;have hl:=BG N;have hm:64<=more f:=by unfold more;exact c8 ..
 unfold dD;refine⟨λc hc=>?_,?_⟩
 ·rw[ei,ei,Bp,cx]at hc
  rcases hc with(hc|hc)|hc
  ·rw[(oV.mp hc).2];exact yG (aw (by decide) hm)
  ·refine aG (dy.mp hc) λd _ J=>?_;subst J;exact yG (aw (aw (by decide) hm) (c8 ..))
  ·exact yG (hc▸aw (by decide) (c8 128 _))
 ·rw[aT,aT,jC,wO,aP,hU]
  have:f%2<2:=cF _ (by decide);exact dx (dx (fV this) hl (a7 _)) (a7 1) (by decide)
theorem Cl.flat:∀{l:List (List Nat)},(∀x∈l,Cl x)->Cl l.flatten
 |[],_=>.nil
 |x::l,h=>by rw[gG];exact(h x (cj ..)).app (Cl.flat λy m=>h y (cw _ m))
theorem Fb:∀{l:List (List Nat)}{m:Nat},(∀x∈l,x.length<=m)->l.flatten.length<=m*l.length
 |[],_,_=>cJ _
 |x::l,m,h=>by
  have h1:=h x (cj ..);have h2:=Fb λy J=>h y (cw _ J);rw[gG,aT,show(x::l).length =l.length+1 from rfl,um];exact yJ h1 h2
theorem xG(ns:List Int):(iO ns).length =4:=by
 unfold iO fN;rw[aT,aP,iG,ez,ez,j7];rfl
theorem BL(ns:List Int):(fN ns).length =3:=by
 unfold fN;rw[aP,iG,ez,j7];rfl
theorem BF(ns:List Int):lP ns<4:=cF _ (by decide)
theorem BC(ns:List Int):Cl (lO ns)/\(lO ns).length <=21/\((iO ns).map λn=>dD n (lP ns)).flatten.length <=20:=by
 have h:∀x∈(iO ns).map λn=>dD n (lP ns),Cl x/\x.length<=5:=λx J=>by
  refine aG (dy.mp J) λn O N=>?_;subst N;exact Sa (Ca ns n O) _ (BF ns)
 have hl:=Fb λx J=>(h x J).2;rw[aP,xG]at hl;unfold lO;refine⟨(Cl.flat λx J=>(h x J).1).app (.cons ?_ .nil),?_,hl⟩
 ·unfold kP;exact yG (aw (by decide) (c8 64 _))
 ·rw[aT,hU];exact fj hl
theorem Dh(ns:List Int):Cl (zN ns)/\(zN ns).length <=3:=three (P:=λi=>Cl (v5.getD i [])/\(v5.getD i []).length <=3) _ ⟨.cons (by decide) (.cons (by decide) .nil),by decide⟩ ⟨.cons (by decide) (.cons (by decide) .nil),by decide⟩ ⟨.cons (by decide) (.cons (by decide) (.cons (by decide) .nil)),by decide⟩
theorem Ie(ns:List Int):(js (iq ns)/\iq ns≠[]/\lift (iq ns)=iq ns)/\(iq ns).length <=26:=by
 have J:=Dh ns;have ht:=BC ns;refine⟨⟨?_,?_,rfl⟩,?_⟩
 ·exact(((Cl.cons (by decide) (.cons (by decide) .nil):Cl [34,34]).app J.1).app ht.1).no
 ·exact qr _ _
 ·unfold iq
  rw[aT,aT,show[34,34].length =2 from rfl];exact dx (dx (a7 2) J.2 (a7 _)) ht.2.1 (by decide)
theorem SG(ns:List Int):(cv ns).1≠10/\(cv ns).1≠13/\(cv ns).2≠10/\(cv ns).2≠13:=by
 have all:∀p∈qJ,p.1≠10/\p.1≠13/\p.2≠10/\p.2≠13:=by decide
 exact all _ (getD_mem (cF _ (by decide)))
theorem wA{a b:Nat}{P:List Nat->Prop}(hw:∀n,P (ky a b n))(h0:P []):∀(l:List Nat)(j:Nat)(m:Ms),(∀c∈m.1,P c)->(∀r∈m.2,P r.core)->∀r∈(nt a b l j m).2,P r.core
 |[],_,_,_,h=>h
 |n::l,j,m,hc,h=>by
  refine wA hw h0 l (j+1) (qO a b m (n,j)) (λc m'=>?_) λr m'=>?_
  ·replace m':c∈ko m (n,j):=m'
   unfold ko at m';split at m'
   ·exact hc c (Pm m')
   ·exact hc c m'
  ·rcases ei.mp (show r∈m.2++[dJ a b m (n,j)]from m')with z|z
   ·exact h r z
   ·rw[cx.mp z]
    show P (if j<3 then m.1.getD (n%m.1.length) []else ky a b n);split
    ·by_cases q:n%m.1.length <m.1.length
     ·exact hc _ (getD_mem q)
     ·rw[jg,oR (fC q)];exact h0
    ·exact hw n
theorem Tz(ns:List Int):∀r∈eE ns,Cl r.core:=by
 refine yW (SG ns) λa1 a2 b1 b2=>?_;generalize O:cv ns=p at a1 a2 b1 b2;obtain⟨a,b⟩:=p;have ca:∀{l:List Nat},Cl l->Cl (a::l):=λh=>.cons ⟨a1,a2⟩ h;have N:∀{l:List Nat},Cl l->Cl (b::l):=λh=>.cons ⟨b1,b2⟩ h;have J:∀{l:List Nat},Cl l->Cl (46::l):=λh=>.cons (by decide) h;unfold eE;rw[O];refine wA (λn=>?_) .nil _ _ _ (λc m=>?_) λr m=>absurd m a6
 ·unfold ky
  refine Cl.app ?_ ?_
  ·have all:∀x∈k_ a b,Cl x:=λx m=>by
    unfold k_ at m;simp only[bJ,a6,or_false]at m;rcases m with rfl|rfl|rfl|rfl
    ·exact ca .nil
    ·exact N .nil
    ·exact ca (N .nil)
    ·exact N (ca .nil)
   exact all _ (getD_mem (cF _ (by decide)))
  ·have all:∀x∈kN b,Cl x:=λx m=>by
    unfold kN at m;simp only[bJ,a6,or_false]at m;rcases m with rfl|rfl|rfl|rfl
    ·exact .nil
    ·exact J (J (J .nil))
    ·exact J (J (J (N .nil)))
    ·exact J (J (J (N (J (J (J .nil))))))
   exact all _ (getD_mem (cF _ (by decide)))
 ·replace m:c∈gn a b:=m
  unfold gn at m;simp only[bJ,a6,or_false]at m;rcases m with rfl|rfl|rfl|rfl
  ·exact ca (ca .nil)
  ·exact ca (N .nil)
  ·exact N (ca .nil)
  ·exact N (N .nil)
section
variable{W:List Nat}{G:Gm}{F:aj}{st:St}
theorem GR.shrink{W':List Nat}(h:GR W G F st)(hs:∀x∈W',x∈W):GR W' G F st:=⟨λw m=>h.bd w (hs w m),λj p e=>(h.at' j p e).mono λx s=>by
 cases p with
 |d d=>exact RV.to (λl _ n=>⟨λm=>n (hs l m),rfl⟩) s
 |v v=>exact s⟩
theorem GR.vP(h:GR W G F st){k:Nat}{x:AV}{p:Vl}(e:F.lookup k=some x)(s:Sat W st x p):GR W (G.put k p) F st:=⟨h.bd,λj q J=>by
 by_cases z:j=k
 ·rw[Gm.put,if_pos z]at J
  cases J
  rw[z];exact Ok.of e s
 ·rw[Gm.put,if_neg z]at J;exact h.at' j q J⟩
theorem Sg.to{f:SM}{G':Gm}{l:List (Nat×Vl)}(h:Sg W G f (.next G'))(hl:∀p∈l,G' p.1=some p.2):Sg W G f (.next (Gl l)):=λF st g=>(h F st g).mono λq J=>⟨J.1,J.2.1,GR.to J.2.2 hl⟩
theorem OC{α:Type}(xs:List α)(i j:Nat)(h:i<=j/\j<=xs.length):pick xs (some (i:Int)) (some (j:Int)) none=(xs.drop i).take (j -i):=by
 rw[Bs xs _ _ i j];have J:∀k:Nat,¬((k:Int)<0):=λk=>h_.mpr (eA _);simp only[sliceBounds,xr,show(1:Int)>0 by decide,if_true,J,if_false];rw[sd,sd,oZ (aw h.1 h.2),oZ h.2]
theorem U3{ds:List aB}(i j:Nat)(J:i<=j/\j<=ds.length)(h:ds.length<=16777216):rl W (.list ds) (some (i:Int)) (some (j:Int)) none (.list ((ds.drop i).take (j -i))):=y_ h (by decide) λ{st xs} r=>by
 rw[OC xs i j ⟨J.1,by rw[r.len];exact J.2⟩];exact(r.drop' i).take' (j -i)
theorem Iu{st:St}:∀ts:List (List Nat),aQ W st (bx ts) (ts.map sD)
 |[]=>.nil
 |t::ts=>.cons (.str _) (Iu ts)
theorem R_{xs:List AV}{ts:List (List Nat)}(r:aQ W st xs (ts.map sD)):xs=bx ts:=r.strs
end
noncomputable abbrev pJ(ns:List Int):List (Nat×Vl):=[(0,.d (sD (kh ns))),(43,.d (ju ns)),(41,.d (nD (fw ns))),(44,.d (.list ((fN ns).map nD))),(46,.d (.list ((iM ns).map sD)))]
noncomputable abbrev GM(ns:List Int)(txt:List Nat):List (Nat×Vl):=[(0,.d (sD txt)),(43,.d (ju ns)),(41,.d (nD (fw ns))),(44,.d (.list ((fN ns).map nD))),(46,.d (.list ((iM ns).map sD)))]
section
variable{W:List Nat}{G:Gm}(ns:List Int)
theorem vd{G:Gm}(h:G 43=some (.d (ju ns))):bh W G (aH (aa 43) (xk (.int 6))) (nD (o6 ns)):=aM (az h) (aW 6) (eh (ds:=(gu ns).map nD) 6 (getD_at (by rw[j7];decide)) (by decide))
theorem Xm(h:G 43=some (.d (ju ns))):Sg W G f1 (.next (G.put 41 (.d (nD (fw ns))))):=
 fQ (aM (aW 1) (aM (vd ns h) (aW 3) (kE _ _ (by decide))) (mo _ _))
theorem Xc(h:G 43=some (.d (ju ns))):Sg W G f2 (.next ((G.put 50 (.d (sD [(cv ns).1]))).put 49 (.d (sD [(cv ns).2])))):=by
 refine K9 (aM (e6 (ds:=qJ.map λp=>.tuple [sD [p.1],sD [p.2]]) (aE (oh (aE (dg (show dz "a"=T [97] by decide+kernel)) (aE (dg (show dz "b"=T [98] by decide+kernel)) be)) (show 2<=16777216 by decide)) (aE (oh (aE (dg v8) (aE (dg pX) be)) (show 2<=16777216 by decide))
  (aE (oh (aE (dg (show dz " "=T [32] by decide+kernel)) (aE (ia (aE (aW 12) be) (CN 12 (by decide))) be)) (show 2<=16777216 by decide)) (aE (oh (aE (dg pX) (aE (dg (show dz "#"=T [35] by decide+kernel)) be)) (show 2<=16777216 by decide)) be)))) (show 4<=16777216 by decide))
  (aM (aM (vd ns h) (aW 3) (lG _ _ (by decide) (by decide))) (aW 4) (kE _ _ (by decide))) (eh (ds:=qJ.map λp=>.tuple [sD [p.1],sD [p.2]]) _ (getD_at (d:=(0,0)) (cF _ (by decide))) (du (cF _ (by decide)) (by decide))))
theorem OS{a b:Nat}(J:G 50=some (.d (sD [a])))(N:G 49=some (.d (sD [b]))):jw W G (ab (ay aX (aa 50) (aa 50)) (ab (ay aX (aa 50) (aa 49)) (ab (ay aX (aa 49) (aa 50)) (ab (ay aX (aa 49) (aa 49)) ag)))) ((gn a b).map sD):=
 have op:∀x y:Nat,cO W aX (sD [x]) (sD [y]) (sD [x,y]):=λx y=>iW [x] [y] (show 2<=16777216 by decide)
 aE (aM (az J) (az J) (op a a)) (aE (aM (az J) (az N) (op a b)) (aE (aM (az N) (az J) (op b a)) (aE (aM (az N) (az N) (op b b)) be)))
theorem W2(h:G 43=some (.d (ju ns))):Sg W G f6 (.next (G.put 44 (.d (.list ((fN ns).map nD))))):=by
 refine fQ ?_;unfold fN;rw[br];refine fE (bs:=((gu ns).drop 3).take 3) (mk:=λn:Nat=>.one (nD n)) (h:=nD∘λn=>n/576%500) ?_ (by rw[iG,ez,j7];decide) λn J=>⟨_,.one rfl,aM (aM (az rfl) (aW 576) (lG _ _ (by decide) (by decide))) (aW 500) (kE _ _ (by decide))⟩;have:=iC (W:=W) (tg:=.name 45) (iT (az (k:=43) h) (fS (aW 3)) (fS (aW 6)) dO (U3 3 6 ⟨by decide,by rw[aP,j7];decide⟩ (by rw[aP,j7];decide))) rfl;rwa[<-sh,<-wZ,br]at this
theorem WB{txt:List Nat}(ht:txt.length<=1000)(h:G 43=some (.d (ju ns)))(h0:G 0=some (.d (sD txt))):Sg W G f7 (.next (G.put 0 (.d (sD (txt++([46,10,34,34]++zN ns)))))):=by
 have J:=(Dh ns).2;refine Ck h0 (aM (b:=sD (zN ns)) (dg VF) ?_ (iW _ _ (by show 4+_<=_;exact dx (a7 4) J (by decide)))) (Ba _ _ (by rw[aT,show[46,10,34,34].length =4 from rfl];exact dx ht (dx (a7 4) J (a7 _)) (by decide)));exact aM (e6 (ds:=v5.map sD) (aE (dg Xz) (aE (dg Xs) (aE (dg XS) be))) (show 3<=16777216 by decide)) (aM (aM (vd ns h) (aW 48) (lG _ _ (by decide) (by decide))) (aW 3) (kE _ _ (by decide))) (eh _ (getD_at (cF _ (by decide))) (du (cF _ (by decide)) (by decide)))
theorem Xf{txt:List Nat}(ht:txt.length<=1000)(h:G 43=some (.d (ju ns)))(N:G 44=some (.d (.list ((fN ns).map nD))))(h0:G 0=some (.d (sD txt))):Sg W G f8 (.next (G.put 0 (.d (sD (txt++lO ns))))):=by
 have J:=BC ns;refine Ck h0 (aM (a:=sD ((iO ns).map λn=>dD n (lP ns)).flatten) (b:=sD [kP ns]) (so (dg lX) yx (aE (d:=.list (((iO ns).map λn=>dD n (lP ns)).map sD)) ?_ be) (yd (by exact aw J.2.2 (by decide)))) ?_ (iW _ _ (by exact dx J.2.2 (a7 1) (by decide)))) (Ba txt (lO ns) (by exact dx ht J.2.1 (by decide)))
 ·rw[br]
  refine fE (bs:=iO ns) (mk:=λn:Nat=>.one (nD n)) (h:=sD∘λn=>dD n (lP ns)) ?_ (by rw[xG];decide) λn O=>⟨_,.one rfl,ia (aE (az rfl) (aE (aM (aM (vd ns (show(G.only [43]).put 18 _ 43=_ from h)) (aW 12) (lG _ _ (by decide) (by decide))) (aW 4) (kE _ _ (by decide))) be)) (MN (Ca ns n O) (BF ns))⟩;have:=iC (W:=W) (G:=G) (tg:=.name 18) (f:=ay aX (cH (aa 43) (bY (xk (.int 6))) bb bb) (aa 44)) (ds:=(iO ns).map nD) (by
   unfold iO;rw[dR];refine aM (iT (az h) (fS (aW 6)) dO dO ?_) (az N) (nY (by rw[aP,aP,ez,j7,BL];decide));have:=qC (W:=W) (ds:=(gu ns).map nD) 6 (by rw[aP,j7];decide);rwa[<-sh]at this) rfl
  rwa[br]at this
 ·exact ia (aE (aM (aW 64) (aM (aM (vd ns h) (aW 144) (lG _ _ (by decide) (by decide))) (aW 64) (kE _ _ (by decide))) (mo _ _)) be) (CN (kP ns) (by unfold kP;exact cK (Pj (cF _ (by decide)) 64) (by decide)))
theorem Xg{txt:List Nat}{n:Nat}(N:n<=3)(J:Nat->List Nat)(h0:J 0=txt)(R:∀j,pQ (J j)=J (j+1))(hl:∀j,j<=3->(J j).length <=50000)(hs:n=fw ns):Sg W (Gl (GM ns txt)) f9 (.next (Gl (GM ns (J n)))):=by
 have hi:fg W (Gl (GM ns txt)) (.name 42) (bC cR (ab (aa 41) ag)) ((cE n).map λ(j:Nat)=>.one (.int (j:Int))):=oO (n:=n) (aE (az (by rw[hs];rfl)) be) (by exact aw N (by decide));have hlen:((cE n).map λ(j:Nat)=>Ai.one (.int (j:Int))).length =n:=by rw[aP,eI]
 have:=ym (W:=W) (G:=Gl (GM ns txt)) (tg:=.name 42) (b:=ao (bj 0 (bK (bG [37] p6) (ab (aa 0) ag))) aC) (λr=>Gl (GM ns (J (n -r.length)))) hi (by rw[hlen,mn,h0]) (by rw[hlen];exact bQ N (by decide)) λa r hr=>by
  have hle:=hr.length_le;rw[hlen,dE]at hle;obtain⟨j,rfl⟩:∃j:Nat,a=.one (.int (j:Int)):=by
   have:=hr.subset (cj (a:=a) (l:=r));refine aG (dy.mp this) λj _ O=>?_;subst O;exact⟨j,rfl⟩
  refine⟨_,.one,Sg.to (G':=((Gl (GM ns (J (n -(Ai.one (.int (j:Int))::r).length)))).put 42 (.d (.int (j:Int)))).put 0 (.d (sD (J (n -r.length))))) (mA (fQ (p:=.d _) (ia (aE (az rfl) be) ?_))) ?_⟩
  ·rw[show n -r.length=n -(Ai.one (.int (j:Int))::r).length +1 by exact(qc (O3 hle)).symm,<-R]
   exact QR (hl _ (aw (iU ..) N))
  ·exact bt.mpr ⟨rfl,bt.mpr ⟨rfl,bt.mpr ⟨rfl,bt.mpr ⟨rfl,bt.mpr ⟨rfl,λ_ h=>absurd h a6⟩⟩⟩⟩⟩
 exact this
end
theorem qE(ns:List Int):fw ns<=3:=by unfold fw;have:o6 ns%3<3:=cF _ (by decide);exact aw (bS (gI ..)) this
theorem good0(a b:Nat):Good 0 (gn a b,[]):=⟨rfl,λc m=>by
 replace m:c∈gn a b:=m;unfold gn at m;simp only[bJ,a6,or_false]at m;rcases m with rfl|rfl|rfl|rfl<;>rfl,rfl,λ_ m=>absurd m a6⟩
theorem Xd(F:aj)(st:St):f4 F st=some (.next,(F.put 46 (.ref st.length)).put 0 (.str (T [])),st++[.list []]):=by
 unfold f4;simp only[Ii,eN,cT,lX,x9,dI,bz,bo];rw[if_pos (show([]:List AV).length <=sizeLine from cJ _)];simp only[bz,bo];rw[if_pos ⟨show 2<=sizeLine by rw[sizeLine_eq];decide,rfl⟩];rfl
theorem sq{f g:SM}{F:aj}{st:St}{P:Fl×aj×St->Prop}(h:Ok (f F st) λq=>q.1=.next /\Ok (g q.2.1 q.2.2) P):Ok (ao f g F st) P:=Ok.bind' (h.mono λq J=>by
 obtain⟨fl,F1,st1⟩:=q;obtain⟨z,h⟩:=J;cases(show fl=.next from z)
 exact h)
theorem jU{W:List Nat}{G G':Gm}{f N:SM}(h:Sg W G f (.next G')){F:aj}{st:St}(g:GR W G F st){P:Fl×aj×St->Prop}(k:∀F' st',aN [] st st'->GR W G' F' st'->Ok (N F' st') P):Ok (ao f N F st) P:=
 sq ((h F st g).mono λq J=>⟨J.2.1,k _ _ J.1 J.2.2⟩)
theorem ED(ns:List Int):Good 6 (nt (cv ns).1 (cv ns).2 ((gu ns).take 6) 0 (gn (cv ns).1 (cv ns).2,[])):=by
 have:∀(l:List Nat)(j:Nat)(m:Ms),j+l.length<=6->Good j m->Good (j+l.length) (nt (cv ns).1 (cv ns).2 l j m):=by
  intro l;induction l with
  |nil=>intro j m _ h;exact h
  |cons n l O=>
   intro j m J h;rw[dE]at J ⊢;rw[show j+(l.length+1)=j+1+l.length by exact hH j l.length 1];exact O (j+1) _ (by exact z_ J) (wz h (by exact rH J)).1
 have N:((gu ns).take 6).length =6:=by rw[iG,j7];rfl
 have:=this ((gu ns).take 6) 0 _ (by rw[N];decide) (good0 (cv ns).1 (cv ns).2);rwa[N]at this
theorem qz(ns:List Int):(eE ns).length =6/\∀r∈eE ns,(1<=r.core.length/\r.core.length<=9)/\Cl r.core:=⟨(ED ns).rows,λr m=>⟨(ED ns).core r m,Tz ns r m⟩⟩
theorem text_len(ns:List Int){j:Nat}(J:j<=3):(lR (l5 (eE ns)) (iq ns) j).length <=400:=by
 obtain⟨N,hr⟩:=qz ns;have:=MS (l5 (eE ns)) (iq ns) (m:=27) (λp O=>(HU hr p O).2) j;have ht:=(Ie ns).2;have hl:(l5 (eE ns)).length =7:=by unfold l5;rw[aT,aP,N];rfl
 rw[hl]at this;exact aw this (dx (PN 7 (iS (iS J 27) 2)) ht (by decide))
theorem TP(D:ak)(ns:List Int)(hn:ns.length<=63):∃F1 st1,tp D (l4 ns) [(38,.val (.ref D))] [.tab []]=some (.next,F1,st1)/\st1[0]?=some (.tab [])/\GR [0] (Gl (pJ ns)) F1 st1:=by
 have g0:GR [0] (Gl [(38,.v (.val (.ref D)))]) [(38,.val (.ref D))] [.tab []]:=by
  refine⟨λw m=>by rw[cx.mp m];decide,λj p e=>?_⟩;by_cases z:j=38
  ·rw[z]at e ⊢;cases e;exact rfl
  ·rw[Gl,eK,beq_false_of_ne z]at e;cases e
 have main:Ok (tp D (l4 ns) [(38,.val (.ref D))] [.tab []]) λq=>q.1=.next /\q.2.2[0]?=some (.tab [])/\GR [0] (Gl (pJ ns)) q.2.1 q.2.2:=by
  obtain⟨h6,hr⟩:=qz ns;have hs:=qE ns;unfold tp;have h0:Sg [0] (Gl [(38,.v (.val (.ref D)))]) (f0 D (l4 ns)) (.next ((Gl [(38,.v (.val (.ref D)))]).put 43 (.d (ju ns)))):=fQ (Uj hn rfl);refine jU h0 g0 λF1 st1 k1 g1=>?_;refine jU (Xm ns rfl) g1 λF2 bI k2 g2=>?_;refine jU (Xc ns rfl) g2 λF3 st3 k3 g3=>?_;refine fH (Iq (k:=48) g3 (OS (a:=(cv ns).1) (b:=(cv ns).2) rfl rfl) (show 4<=16777216 by decide)) λN xs e4 k4 r4=>?_;have hx:=R_ r4;subst hx;refine sq (Ok.of e4 ⟨rfl,?_⟩);have k5:aN [] st3 (N++[.list (bx (gn (cv ns).1 (cv ns).2))]):=k4.trans (.app _);have g5:=(g3.grow k5.any k4.len (by rw[aT];exact iI _)).put (k:=48) (x:=.ref N.length) (p:=.v (.ref N.length)) rfl;have S:(N++[AO.list (bx (gn (cv ns).1 (cv ns).2))])[N.length]?=some (.list (bx (gn (cv ns).1 (cv ns).2))):=ng;generalize hst5:N++[AO.list (bx (gn (cv ns).1 (cv ns).2))]=J at k5 g5 S;refine sq (Ok.of (Xd _ _) ⟨rfl,?_⟩);have g6:=(((g5.grow (l:=J.length) (aN.app [.list []]) (a7 _) (by rw[aT];exact iI _)).put (k:=46) (x:=.ref J.length) (p:=.v (.ref J.length)) rfl).put (k:=0) (x:=.str (T [])) (p:=.d (sD [])) (.str _)).to (l:=GA N.length J.length (fw ns) (cv ns).1 (cv ns).2 (ju ns) (i9 []))
   (bt.mpr ⟨rfl,bt.mpr ⟨rfl,bt.mpr ⟨rfl,bt.mpr ⟨rfl,bt.mpr ⟨rfl,bt.mpr ⟨rfl,bt.mpr ⟨rfl,λ_ h=>absurd h a6⟩⟩⟩⟩⟩⟩⟩)
  have U:N.length<J.length:=gq S;have k6:aN [] [.tab []] (J++[.list []]):=(((k1.trans k2).trans k3).trans k5).trans (.app _);have Z4:(J++[AO.list []])[N.length]?=some (.list (bx (gn (cv ns).1 (cv ns).2))):=(pF U).trans S;have Z7:(J++[AO.list []])[J.length]?=some (.list (bx (rwords (fw ns) []))):=ng;generalize J++[AO.list []]=st6 at g6 k6 Z4 Z7;generalize N.length=lc at*;generalize J.length=lw at*;have R:lw≠0:=jf (bQ (cJ _) U);have Z8:lc≠0:=λz=>by have:=k6.get (show([AO.tab []]:St)[0]?=some (.tab [])from rfl);rw[<-z,Z4]at this;cases this
  have hi:fg [lw,lc,0] (Gl (GA lc lw (fw ns) (cv ns).1 (cv ns).2 (ju ns) (i9 []))) (.names [24,45]) (bC lW (ab (cH (aa 43) bb (bY (xk (.int 6))) bb) ag)) (((((gu ns).take 6).map nD).zipIdx 0).map λp=>.two (.int (p.2:Nat)) p.1):=by
   rw[wZ];exact xw (aE (iT (az (k:=43) rfl) dO (fS (aW 6)) dO (yI 6 (by rw[aP,j7];decide))) be)
  refine sq ?_;rw[WK];refine Ok.bind' ((hi _ _ g6).mono λq hq=>?_);obtain⟨it,st7⟩:=q;obtain⟨k7,Y⟩:=hq;have t6:((gu ns).take 6).length =6:=by rw[iG,j7];rfl
  refine(M1 (V:=[lc,lw]) ⟨cj ..,cw _ (cj ..),rN U⟩ (λx m=>by
   simp only[bJ,a6,or_false]at m ⊢;rcases m with rfl|rfl
   ·exact .inr (.inl rfl)
   ·exact .inl rfl) hs ((gu ns).take 6) 0 400 (gn (cv ns).1 (cv ns).2,[]) it _ st7 (by rw[t6];decide) (by rw[t6];decide) (good0 _ _) Y (g6.cZ k7) (k7.get Z4) (k7.get Z7)).mono λq hq=>?_
  obtain⟨fl,F8,O⟩:=q;refine yB hq λz k8 g8 Z5 _=>?_;refine⟨z,?_⟩;have k8':aN [lc,lw] [.tab []] O:=(k6.trans k7).any.trans k8;have Z9:O[0]?=some (.tab []):=k8'.cW (λm=>by simp only[bJ,a6,or_false]at m;rcases m with m|m;exact Z8 m.symm;exact R m.symm) (show([AO.tab []]:St)[0]?=some (.tab [])from rfl);replace g8:GR [lw,lc,0] (Gl (GA lc lw (fw ns) (cv ns).1 (cv ns).2 (ju ns) (i9 (eE ns)))) F8 O:=g8;replace Z5:O[lw]?=some (.list (bx (iM ns))):=Z5;have a46:=g8.av (k:=46) (v:=.ref lw) rfl;have g9:=((g8.shrink (W':=[0]) λx m=>by rw[cx.mp m];exact cw _ (cw _ (cj ..))).vP (k:=46) (p:=.d (.list ((iM ns).map sD))) a46 (.list (λm=>R (cx.mp m)) Z5 (Iu _)));have Z6:=AS λr m=>(hr r m).1;rw[h6]at Z6;have hz:=(Dh ns).2;have hl7:(i9 (eE ns)++([46,10,34,34]++zN ns)).length <=1000:=by rw[aT,aT,show[46,10,34,34].length =4 from rfl];exact dx Z6 (dx (a7 4) hz (a7 _)) (by decide)
  refine jU (W2 ns rfl) g9 λF10 st10 k10 g10=>?_;refine jU (WB ns (by exact aw Z6 (by decide)) rfl rfl) g10 λF11 st11 k11 g11=>?_;refine jU (Xf ns hl7 rfl rfl rfl) g11 λF12 st12 k12 Z_=>?_;have et:i9 (eE ns)++([46,10,34,34]++zN ns)++lO ns=lR (l5 (eE ns)) (iq ns) 0:=by
   unfold lR iq;rw[if_pos rfl,Lk];simp only[dn];rfl
  rw[et]at Z_;have g13:=Z_.to (l:=GM ns (lR (l5 (eE ns)) (iq ns) 0)) (bt.mpr ⟨rfl,bt.mpr ⟨rfl,bt.mpr ⟨rfl,bt.mpr ⟨rfl,bt.mpr ⟨rfl,λ_ h=>absurd h a6⟩⟩⟩⟩⟩);refine jU (Xg ns hs (lR (l5 (eE ns)) (iq ns)) rfl (Wy _ _ (λp hp=>(HU hr p hp).1) (Ie ns).1) (λj hj=>aw (text_len ns hj) (by decide)) rfl) g13 λF14 st14 k14 g14=>?_;exact⟨rfl,(((k10.trans k11).trans k12).trans k14).get Z9,g14.to (l:=pJ ns) (bt.mpr ⟨rfl,bt.mpr ⟨rfl,bt.mpr ⟨rfl,bt.mpr ⟨rfl,bt.mpr ⟨rfl,λ_ h=>absurd h a6⟩⟩⟩⟩⟩)⟩
 refine jj main.get λzq0 e z t g=>?_;obtain⟨fl,F1,st1⟩:=zq0;cases(show fl=.next from z)
 exact⟨F1,st1,e,t,g⟩
noncomputable def dZ(W V:List Nat)(G:Gm)(I I':St->Prop)(f:EM)(d:aB):Prop:=∀(F:aj)(st:St),GR W G F st->I st->Ok (f F st) λq=>aN V st q.2/\RV W q.2 q.1 d/\I' q.2
noncomputable def gQ(I:St->Prop):Prop:=∀{a b:St},aN [] a b->I a->I b
section
variable{W V:List Nat}{G:Gm}{I I1 I2:St->Prop}
theorem uI{f:EM}{d:aB}(h:bh W G f d)(s:gQ I):dZ W V G I I f d:=λF st g i=>(h F st g).mono λq J=>⟨J.1.any,J.2,s J.1 i⟩
theorem yo{o:AV->AV->St->Option (AV×St)}{f g:EM}{a b r:aB}(R:∀x∈V,x∈W)(s:gQ I2)(hf:dZ W V G I I1 f a)(hg:dZ W V G I1 I2 g b)(ho:cO W o a b r):dZ W V G I I2 (ay o f g) r:=λF st O i=>
 Ok.bind' ((hf F st O i).mono λp J=>Ok.bind' ((hg F p.2 (O.keep (J.1.sub R)) J.2.2).mono λq N=>(ho _ _ _ (O.bd.keep (J.1.trans N.1)) (RV.keep (N.1.sub R) J.2.1) N.2.1).mono λc hc=>⟨(J.1.trans N.1).trans hc.1.any,hc.2,s hc.1 N.2.2⟩))
end
structure Ls where
 q:List (List Nat)
 r:List Nat
 ln:Nat
noncomputable def LI(Z:Pl)(s:Ls)(st:St):Prop:=∃p,p<=20000/\Lx Z st p s.ln/\Z.X.drop p=s.r/\st[Z.pb]?=some (.list (bx s.q))
noncomputable abbrev LV(Z:Pl):List Nat:=[Z.k,Z.d,Z.pb]
theorem yj(Z:Pl)(s:Ls):gQ (LI Z s):=λk ⟨p,a,b,c,d⟩=>⟨p,a,⟨k.get b.inst,k.get b.dict,b.pl.imp λps h=>⟨h.1,k.get h.2⟩⟩,c,k.get d⟩
noncomputable def Tok(Z:Pl)(s:Ls)(t:List Nat)(s':Ls):Prop:=∀st,LI Z s st->∃st',bG [27] (gt Z) [.ref Z.lx] st=some (.str (T t),st')/\LI Z s' st'/\aN (LV Z) st st'
theorem TQ{Z:Pl}{t:List Nat}{q:List (List Nat)}{r:List Nat}{ln:Nat}(h:q.length<=10000)(hl:Z.pb≠Z.lx):Tok Z ⟨t::q,r,ln⟩ t ⟨q,r,ln⟩:=λst ⟨p,a,b,c,d⟩=>by
 have e:=UQ b (.str (T t)) (bx q) d (by unfold bx;rw[aP];exact h);refine⟨_,e,⟨p,a,⟨?_,?_,?_⟩,c,?_⟩,lz (cw _ (cw _ (cj ..)))⟩
 ·rw[get_set,if_neg (λz=>hl z.symm)];exact b.inst
 ·rw[get_set,if_neg (λz=>Z.pd z.symm)];exact b.dict
 ·exact b.pl.imp λps h=>⟨h.1,by rw[get_set,if_neg (λz=>Z.pk z.symm)];exact h.2⟩
 ·rw[get_set,if_pos rfl,if_pos (gq d)]
theorem xq{Z:Pl}{its:List (Bool×Nat)}{txt w rest:List Nat}{ln:Nat}(N:Z.X.length<=10000)(O:Form its txt)(hl:its.length<300)(hwl:w.length<400)(J:∀x∈w,x∈gS)(hr:rest≠[]):Tok Z ⟨[],w++(txt++rest),ln⟩ (gi its) ⟨[],rest,ln+w.count 10⟩:=λst ⟨p,a,b,c,d⟩=>by
 refine fF (TM b d N its txt w rest O hl hwl J c) λst' p' e L k hd=>?_;have R:p'<=20000:=by
  by_cases q:p'<=20000
  ·exact q
  ·exact absurd (by rw[<-hd,mj (by exact aw N (aw (by decide) (cq (uy q))))]) hr
 exact⟨st',e,⟨p',R,L,hd,k.cW (by simp[Z.pk,Z.pd]) d⟩,k.sub λx m=>by
  rcases bJ.mp m with m|m
  ·rw[m];exact cj ..
  ·rw[cx.mp m];exact cw _ (cj ..)⟩
theorem Se{Z:Pl}{ln:Nat}(J:Z.X.length<=10000):∀st,(∃p,p<=20000/\Lx Z st p ln/\Z.X.drop p=[]/\st[Z.pb]?=some (.list []))->∃st',bG [27] (gt Z) [.ref Z.lx] st=some (.str (T []),st')/\aN (LV Z) st st':=λst ⟨p,a,b,c,d⟩=>by
 refine dh (Wo b d J (by exact jY a) c) λst' e L k=>?_;exact⟨st',e,k.sub λx m=>by
  rcases bJ.mp m with m|m
  ·rw[m];exact cj ..
  ·rw[cx.mp m];exact cw _ (cj ..)⟩
inductive mK(Z:Pl):Ls->List (List Nat)->Ls->Prop
 |nil {s:Ls}:mK Z s [] s
 |cons {s s1 s2:Ls} {t:List Nat} {ts:List (List Nat)}:Tok Z s t s1->mK Z s1 ts s2->mK Z s (t::ts) s2
noncomputable def km(Z:Pl):EM:=bU (f_ 69 40) (bG [27] (gt Z)) (aa 53) ag
section
variable{W:List Nat}{G:Gm}{Z:Pl}
theorem VW{s s':Ls}{t:List Nat}(h:Tok Z s t s')(J:G 53=some (.v (.ref Z.lx))):dZ W (LV Z) G (LI Z s) (LI Z s') (km Z) (sD t):=λF st g i=>by
 refine dh (h st i) λst' e i' k=>?_;refine dh i λp _ L _=>?_;have N:f_ 69 40 (.ref Z.lx) st=some [.ref Z.lx]:=uc (sZ L 40 (by decide));refine Ok.of (a:=(.str (T t),st')) ?_ ⟨k,.str _,i'⟩;unfold km;simp only[iJ,bP,g.av J,bz,bo,N,dI,gj,e]
theorem MR(U:∀x∈LV Z,x∈W)(O:G 53=some (.v (.ref Z.lx)))(J:G 42=none):∀{as:List aB}{ts:List (List Nat)}{s s':Ls}{fuel:Nat}{it:It}{acc:List AV}{ad:List aB}{F:aj}{st:St},as.length=ts.length->as.length<fuel->ad.length+as.length<=10000->mK Z s ts s'->Yl W (.name 42) (as.map .one) st it->GR W G F st->aQ W st acc ad->LI Z s st->
 Ok (jN (.name 42) bw (a_ (km Z)) fuel it acc F st) λq=>aN (LV Z) st q.2.2/\aQ W q.2.2 q.1 (ad++ts.map sD)/\LI Z s' q.2.2:=by
 intro as;induction as with
 |nil=>
  intro ts s s' fuel it acc ad F st he hf N ht Y g r i;cases ht with
  |nil=>
   cases fuel with
   |zero=>exact absurd hf (gk _)
   |succ fuel=>
    show Ok (if(b7.name 42).fits it=true then(it.next st).bind _ else none) _;rw[if_pos Y.1,Y.2 st .rfl'];exact⟨.rfl',by rw[fT,gj];exact r,i⟩
  |cons=>cases he
 |cons a as ih=>
  intro ts s s' fuel it acc ad F st he hf N ht Y g r i;cases ht with
  |nil=>cases he
  |cons h1 h2=>
   rename_i s1 t ts;cases fuel with
   |zero=>exact absurd hf (gk _)
   |succ fuel=>
    refine fH (Y.2 st .rfl') λitem gU hn hs Y'=>?_;rw[dE]at N hf;show Ok (if(b7.name 42).fits it=true then(it.next st).bind _ else none) _;rw[if_pos Y.1,hn];show Ok (((b7.name 42).bind item F st).bind _) _;refine Ok.bind' (((gT.one (G:=G) J).ok hs g).mono λF1 g1=>?_);have g2:=g1.le (gT.one (k:=42) (d:=a) J).le;show Ok ((a_ (km Z) acc F1 st).bind _) _;refine Ok.bind' (Ok.bind' ((VW h1 O F1 st g2 i).mono λe h=>?_));show Ok (if acc.length<=sizeLine then some (acc++[e.1],F1,e.2)else none) _;rw[if_pos (by rw[r.len,sizeLine_eq];exact aw (cq (rH N)) (by decide))];refine de h λk re i1=>?_;have R:aN W st e.2:=k.sub U;refine(ih (fuel:=fuel) (it:=gU) (acc:=acc++[e.1]) (ad:=ad++[sD t]) (F:=F1) (st:=e.2) (ux he) (mV hf) (by rw[aT,hU];exact z_ N) h2 (Y'.keep R) (g2.keep R) ((aQ.keep R r).app (.cons re .nil)) i1).mono λq S=>⟨k.trans S.1,?_,S.2.2⟩;have:=S.2.1;rwa[dn]at this
theorem xK{fv:List Nat}{fi}{as:List aB}{ts:List (List Nat)}{s s':Ls}(U:∀x∈LV Z,x∈W)(O:G 53=some (.v (.ref Z.lx)))(iQ:fv.contains 53=true)(R:fv.contains 42=false)(hi:fg W G (.name 42) fi (as.map .one))(he:as.length=ts.length)(hl:as.length<400)(ht:mK Z s ts s'):
 dZ W (LV Z) G (LI Z s) (LI Z s') (bl fv fi (.name 42) bw (a_ (km Z)) 400) (.list (ts.map sD)):=λF st S i=>
 Ok.bind' ((hi F st S).mono λp J=>Ok.fK ((MR (G:=G.only fv) U (by rw[Gm.only,if_pos iQ];exact O) (by rw[Gm.only,R];rfl) he hl (by exact aw (bS (hK _)) (cq (du hl (by decide)))) ht J.2 ((S.cZ J.1).only fv) .nil (yj Z s J.1 i)).mono λq N=>
  ⟨(J.1.any.trans N.1).trans (.app _),j6 (S.bd.keep (J.1.any.trans N.1)) N.2.1,yj Z s' (.app _) N.2.2⟩))
end
theorem xf:∀{l:List (List Nat)},(∀t∈l,qn (T t)=true)->eu (l.map sD)=true
 |[],_=>by rw[fT,eu]
 |a::l,h=>by rw[bX,eu,kx,h a (cj ..),xf λt m=>h t (cw _ m)];rfl
theorem AH:∀l:List (List Nat),dW (l.map sD)=0:=by
 intro l;induction l with
 |nil=>
  rw[fT,dW]
 |cons a l J=>
  rw[bX,dW,iF,J];rfl
theorem wk{l:List (List Nat)}(h:∀t∈l,qn (T t)=true):jD (.list (l.map sD))=true/\(fm (l.map sD)).depth <=4:=by
 have e:(fm (l.map sD)).depth =1:=by rw[iF,AH]
 refine⟨?_,by rw[e];decide⟩;unfold jD;rw[kx,xf h,e];rfl
theorem A0:∀a b:List (List Nat),jX (a.map sD) (b.map sD)=(a==b)
 |[],[]=>by rw[fT,jX];rfl
 |[],b::bs=>by rw[fT,bX,jX];rfl
 |a::as,[]=>by rw[fT,bX,jX];rfl
 |a::as,b::bs=>by
  rw[bX,bX,jX,c6,CQ,A0 as bs];rfl
theorem xV{W:List Nat}{a:List (List Nat)}(h:∀t∈a,qn (T t)=true):cO W c5 (.list (a.map sD)) (.list (a.map sD)) (.bool false):=by
 have:=yE (W:=W) (a:=.list (a.map sD)) (b:=.list (a.map sD)) ⟨(wk h).2,(wk h).2⟩ ⟨(wk h).1,(wk h).1⟩ (.inl ⟨_,rfl⟩);rwa[c6,A0,beq_self_eq_true]at this
theorem Pu(a b:List (Bool×Nat)):gf (a++b)=gf a++gf b:=by unfold gf;rw[dR,qa]
theorem SE(a b:List (Bool×Nat)):gi (a++b)=gi a++gi b:=by unfold gi;rw[dR]
theorem EK(n:Nat):gf (bZ n (false,46))=bZ n 46:=by
 induction n with
 |zero=>rfl
 |succ n J=>rw[se,p8,J];rfl
theorem GU(n:Nat):gi (bZ n (false,46))=bZ n 46:=by unfold gi;simp
noncomputable def jv(set:List Nat)(x:List Nat):List (Bool×Nat):=x.map λc=>(decide (c∈set),c)
theorem AG(set:List Nat):∀x:List Nat,gf (jv set x)=(x.map (dT set)).flatten :=by
 intro x;induction x with
 |nil=>
  exact rfl
 |cons c x J=>
  unfold jv;rw[bX,p8,bX,gG];refine congr (congrArg _ ?_) (J);unfold dT;by_cases h:c∈set
  ·rw[if_pos h];exact if_pos (decide_eq_true h)
  ·rw[if_neg h];exact if_neg (λe=>h (of_decide_eq_true e))
theorem Ia(set:List Nat)(x:List Nat):gi (jv set x)=x:=by
 unfold gi jv;rw[br];exact List.map_id x
noncomputable def lq(c:Nat):Prop:=c≠10/\c≠9/\c≠13
noncomputable def Cr(its:List (Bool×Nat)):Prop:=∀it∈its,it.2≠10/\(it.1=false->it.2≠92/\it.2∉gS)
theorem HC{c:Nat}(h:lq c)(tS:c≠32):c∉gS:=λm=>by
 unfold gS at m;simp only[bJ,a6,or_false]at m;rcases m with m|m|m|m
 ·exact h.1 m
 ·exact h.2.1 m
 ·exact h.2.2 m
 ·exact tS m
theorem QM{x:List Nat}(h:∀c∈x,lq c):Cr (jv [92,32] x):=λit m=>by
 refine aG (dy.mp m) λc hc J=>?_;subst J;have:=h c hc;refine⟨this.1,λe=>?_⟩;have N:c∉[92,32]:=of_decide_eq_false e;simp only[bJ,a6,or_false,not_or]at N;exact⟨N.1,HC this N.2⟩
theorem EF{its:List (Bool×Nat)}(h:Cr its)(J:∃i is,its=i::is/\(i.1=false->i.2≠34))(j:Nat):∃txt lo,Form its txt/\(gf its++kc.getD (j%3) [])++[13,10]=txt++lo/\(∀x∈lo,x∈gS)/\lo.count 10=1/\lo.length<=3:=
 three (P:=λi=>∃txt lo,Form its txt/\(gf its++kc.getD i [])++[13,10]=txt++lo/\(∀x∈lo,x∈gS)/\lo.count 10=1/\lo.length<=3) j
  ⟨_,[10],.inr ⟨13,rfl,.inr (.inl rfl),h,J⟩,by rw[dn,dn];rfl,by decide,by decide,by decide⟩
  ⟨_,[13,10],.inr ⟨9,rfl,.inl rfl,h,J⟩,by rw[dn,dn];rfl,by decide,by decide,by decide⟩
  ⟨_,[13,10],.inr ⟨32,rfl,.inr (.inr rfl),h,J⟩,by rw[dn,dn];rfl,by decide,by decide,by decide⟩
noncomputable def Co(x:List Nat):Prop:=x≠[]/\x.headD 0≠46/\∀c∈x,lq c
theorem Ht{j:Nat}{b:List Nat}(h:b.headD 0≠46):fu j b=b:=by
 unfold fu;split
 ·rename_i r;exact absurd rfl h
 ·rfl
theorem EC(j:Nat)(r:List Nat):fu j (46::r)=bZ j 46++46::r:=rfl
theorem Ep{a b:List Nat}(h:a≠[]):(a++b).headD 0=a.headD 0:=by
 cases a with
 |nil=>exact absurd rfl h
 |cons x a=>rfl
theorem mq:lq 46:=⟨by decide,by decide,by decide⟩
theorem Nz(r:Rw)(hc:Co r.core)(hl:r.core.length<=9)(cC:Nat)(hs:cC<=3):∃its txt lo,Form its txt/\fu cC r.line++[13,10]=txt++lo/\gi its=r.word cC/\(∀x∈lo,x∈gS)/\lo.count 10=1/\its.length<300/\lo.length<=3:=by
 have hd:=r.sr;have hb:∀c∈r.body,lq c:=λc m=>by
  rcases ei.mp m with m|m
  ·rw[(oV.mp m).2];exact mq
  ·exact hc.2.2 c m
 have O:r.body.length<=12:=by unfold Rw.body;rw[aT,jC];exact fU hd hl
 by_cases k1:r.kind=1
 ·have e0:jx r.body r.kind=34::(gf (jv [34,92] r.body)++[34]):=by
   rw[AG];unfold jx;rw[if_pos k1];rfl
  have hw:r.word cC=r.body:=by
   unfold Rw.word Rw.up Rw.body;rw[if_neg (λz=>by rw[k1]at z;cases z.2)]
  refine⟨jv [34,92] r.body,_,kc.getD (r.n/192%3) []++[13,10],.inl ⟨rfl,λit m=>?_⟩,?_,(Ia _ _).trans hw.symm,?_,?_,?_,?_⟩
  ·refine aG (dy.mp m) λc Z8 Z9=>?_;subst Z9
   refine⟨(hb c Z8).1,λe=>?_⟩;have R:c∉[34,92]:=of_decide_eq_false e;simp only[bJ,a6,or_false,not_or]at R;exact⟨R.2,R.1⟩
  ·unfold Rw.line
   rw[e0,Ht (by show(34:Nat)≠46;decide),dn]
  ·exact three (P:=λi=>∀x∈kc.getD i []++[13,10],x∈gS) _ (by decide) (by decide) (by decide)
  ·exact three (P:=λi=>(kc.getD i []++[13,10]).count 10=1) _ (by decide) (by decide) (by decide)
  ·unfold jv;rw[aP];exact bQ O (by decide)
  ·exact three (P:=λi=>(kc.getD i []++[13,10]).length <=3) _ (by decide) (by decide) (by decide)
 ·
  refine mN (rO (l:=r.body) (λe=>hc.1 (xB.mp e).2)) λc x U=>?_;have S:∀d∈c::x,lq d:=U▸hb;have key:∃t:Bool,jx r.body r.kind=gf ((t,c)::jv [92,32] x)/\(t=false->c≠34/\c≠92/\c≠32)/\(c=46->r.kind≠2->t=false)/\(r.kind=2->t=true):=by
   unfold jx;rw[if_neg k1,U];by_cases q:r.kind=2\/c=34
   ·refine⟨true,?_,λe=>absurd e (by decide),λe n=>absurd q (by rw[e];exactλz=>z.elim n (by decide)),λ_=>rfl⟩
    rw[if_pos (show r.kind=2\/(c::x).headD 0=34 from q),p8,AG];rfl
   ·refine⟨decide (c∈[92,32]),?_,λe=>?_,λe n=>by rw[e];decide,λe=>absurd (.inl e) q⟩
    ·rw[if_neg (show¬(r.kind=2\/(c::x).headD 0=34)from q)]
     exact(AG [92,32] (c::x)).symm
    ·have R:c∉[92,32]:=of_decide_eq_false e
     simp only[bJ,a6,or_false,not_or]at R;exact⟨λz=>q (.inr z),R.1,R.2⟩
  refine jj key λt e0 ht Y Z_=>?_;have N:Cr ((t,c)::jv [92,32] x):=bt.mpr ⟨⟨(S c (cj ..)).1,λe=>⟨(ht e).2.1,HC (S c (cj ..)) (ht e).2.2⟩⟩,QM λd m=>S d (cw _ m)⟩;have Z4:gi ((t,c)::jv [92,32] x)=r.body:=by rw[FJ,Ia,U]
  have Z5:x.length<=11:=by rw[U]at O;exact AB O
  by_cases J:0<r.c9/\r.kind=0
  ·have Z6:c=46:=by
    have:=congrArg (λl:List Nat=>l.headD 0) U;unfold Rw.body at this;rw[Ep (λe=>by have:=congrArg m3 e;rw[jC,nL]at this;exact absurd this (jf J.1))]at this;obtain⟨m,hm⟩:∃m,r.c9=m+1:=⟨r.c9 -1,by exact Br J.1⟩;rw[hm]at this;exact this.symm
   have htf:t=false:=Y Z6 (by rw[J.2];decide);subst Z6;subst htf;obtain⟨txt,lo,a1,a2,a3,a4,a5⟩:=EF (its:=bZ cC (false,46)++((false,46)::jv [92,32] x)) (λit m=>by
    rcases ei.mp m with m|m
    ·rw[(oV.mp m).2];exact⟨by decide,λ_=>⟨by decide,by decide⟩⟩
    ·exact N it m) (by
     cases cC with
     |zero=>exact⟨_,_,rfl,λ_=>by decide⟩
     |succ s=>exact⟨(false,46),_,rfl,λ_=>by decide⟩) (r.n/192)
   refine⟨_,txt,lo,a1,?_,?_,a3,a4,?_,a5⟩
   ·rw[<-a2]
    refine congrArg (·++[13,10]) ?_;unfold Rw.line;rw[e0,Pu,EK,p8];show fu cC (46::(gf (jv [92,32] x)++kc.getD (r.n/192%3) []))=bZ cC 46++(46::gf (jv [92,32] x))++kc.getD (r.n/192%3) [];rw[EC,dn];rfl
   ·rw[SE,GU,Z4]
    unfold Rw.word Rw.up Rw.body;rw[if_pos J,<-dn,List.replicate_append_replicate,gI]
   ·unfold jv
    rw[aT,jC,dE,aP];exact bQ (fU hs (fj Z5)) (by decide)
  ·refine kr (EF N ⟨_,_,rfl,λe=>(ht e).1⟩ (r.n/192)) λtxt lo a1 a2 a3 a4 a5=>?_
   refine⟨_,txt,lo,a1,?_,?_,a3,a4,?_,a5⟩
   ·rw[<-a2]
    refine congrArg (·++[13,10]) ?_;unfold Rw.line;rw[e0,p8];refine Ht ?_;cases t with
    |true=>show(92:Nat)≠46;decide
    |false=>
     show c≠46;intro e;by_cases Z7:0<r.c9
     ·have hk0:r.kind≠0:=λz=>J ⟨Z7,z⟩
      have:r.kind<3:=cF _ (by decide)
      have:r.kind=2:=by exact(yr this).elim (λe=>absurd e hk0) λq=>q.elim (λe=>absurd e k1) id
      exact absurd (Z_ this) (by decide)
     ·have hz:r.c9=0:=by exact rY (fC Z7)
      have:=congrArg (λl:List Nat=>l.headD 0) U;unfold Rw.body at this;rw[hz,List.replicate_zero,ef]at this;exact hc.2.1 (this.trans e)
   ·rw[Z4]
    unfold Rw.word Rw.up Rw.body;rw[if_neg J]
   ·unfold jv
    rw[dE,aP];exact bQ (fj Z5) (by decide)
theorem yn{f g:SM}{F F1:aj}{st st1:St}(h:f F st=some (.next,F1,st1)):ao f g F st=g F1 st1:=by
 rw[cM,h];rfl
theorem RF(sA:ak)(st:St)(n:Nat)(hl:st.length=n):yQ 69 (bG [27,28] t8) [.val (.ref sA)] st=some (.ref (n+1),st++[.dict (LD sA 1 (n+2)),.inst 69 n,.list []]):=by
 have N:fG 27 [(27,AV.ref (n+1)),(28,AV.val (.ref sA))]=some (.ref (n+1)):=rfl;have O:fG 28 [(27,AV.ref (n+1)),(28,AV.val (.ref sA))]=some (.val (.ref sA)):=rfl;have J:∀(m:List (Nat×AV))(k:Nat)(v:AV)(ex:St),m.length<=10->setOf 69 (.ref (n+1)) k v (st++.dict m::.inst 69 n::ex)=some (st++.dict (aj.put m k v)::.inst 69 n::ex):=by
  intro m k v ex hm;have g1:(st++AO.dict m::AO.inst 69 n::ex)[n+1]?=some (.inst 69 n):=by
   rw[j5 (by rw[hl];exact oW _),hl,A8];rfl
  have g2:(st++AO.dict m::AO.inst 69 n::ex)[n]?=some (.dict m):=by
   rw[j5 (by exact bS hl),hl,mn];rfl
  rw[I9 g1 g2 (by exact aw hm (dm ..)),QW _ _ (by exact bS hl),hl,mn];rfl
 have R:st++[.dict []]++[.inst 69 st.length]=st++AO.dict []::AO.inst 69 n::[]:=by rw[hl];simp
 unfold yQ;rw[R,hl,sG _ _ _ _ rfl];have s1:kX 69 32 (aa 27) (xk (.int 1)) [(27,AV.ref (n+1)),(28,AV.val (.ref sA))] (st++AO.dict []::AO.inst 69 n::[])=some (.next,[(27,AV.ref (n+1)),(28,AV.val (.ref sA))],st++AO.dict [(32,.int 1)]::AO.inst 69 n::[]):=by
  unfold kX;simp only[cT,bP,N,bo,bz,J _ _ _ _ (by decide:([]:List (Nat×AV)).length <=10)];rfl
 have s2:kX 69 31 (aa 27) (aa 28) [(27,AV.ref (n+1)),(28,AV.val (.ref sA))] (st++AO.dict [(32,.int 1)]::AO.inst 69 n::[])=some (.next,[(27,AV.ref (n+1)),(28,AV.val (.ref sA))],st++AO.dict [(32,.int 1),(31,.val (.ref sA))]::AO.inst 69 n::[]):=by
  unfold kX;simp only[cT,bP,N,O,bo,bz];rw[J _ _ _ _ (by simp)];rfl
 have s3:kX 69 30 (aa 27) (xk (.str ("\x0a\x09\x0d ":ae))) [(27,AV.ref (n+1)),(28,AV.val (.ref sA))] (st++AO.dict [(32,.int 1),(31,.val (.ref sA))]::AO.inst 69 n::[])=some (.next,[(27,AV.ref (n+1)),(28,AV.val (.ref sA))],st++AO.dict [(32,.int 1),(31,.val (.ref sA)),(30,.str (T [10,9,13,32]))]::AO.inst 69 n::[]):=by
  unfold kX;simp only[cT,bP,N,XA,bo,bz];rw[J _ _ _ _ (by simp)];rfl
 have s4:kX 69 29 (aa 27) (bD ag) [(27,AV.ref (n+1)),(28,AV.val (.ref sA))] (st++AO.dict [(32,.int 1),(31,.val (.ref sA)),(30,.str (T [10,9,13,32]))]::AO.inst 69 n::[])=some (.next,[(27,AV.ref (n+1)),(28,AV.val (.ref sA))],st++AO.dict (LD sA 1 (n+2))::AO.inst 69 n::[.list []]):=by
  unfold kX;simp only[x9,dI,bP,N,bo,bz];rw[if_pos (by rw[sizeLine_eq];simp)];simp only[bo];have e:(st++AO.dict [(32,.int 1),(31,.val (.ref sA)),(30,.str (T [10,9,13,32]))]::AO.inst 69 n::[])++[AO.list []]=st++AO.dict [(32,.int 1),(31,.val (.ref sA)),(30,.str (T [10,9,13,32]))]::AO.inst 69 n::[AO.list []]:=by simp
  have hlen:(st++AO.dict [(32,.int 1),(31,.val (.ref sA)),(30,.str (T [10,9,13,32]))]::AO.inst 69 n::[]).length =n+2:=by simp[hl]
  rw[e,J _ _ _ _ (by simp),hlen];rfl
 simp only[t8,ku,mU];rw[yn s1,yn s2,yn s3,yn s4];rfl
noncomputable def Di(sA:ak)(X:List Nat)(k:Nat):Pl:=⟨sA,X,k,k+1,k+2,k+3,by lia,by lia,by lia,by lia,by lia⟩
theorem U4(sA:ak)(X:List Nat)(k:Nat){F:aj}{st:St}(hl:st.length=k+1)(hk:st[k]?=some (.list [.int 0]))(h3:F.lookup 3=some (.val (.ref sA))):
 ∃st',zv F st=some (.next,F.put 53 (.ref (k+2)),st')/\LI (Di sA X k) ⟨[],X,1⟩ st'/\aN [] st st'/\st'.length=k+4:=by
 refine⟨st++[.dict (LD sA 1 (k+3)),.inst 69 (k+1),.list []],?_,⟨0,cJ _,⟨?_,?_,[],cJ _,?_⟩,rfl,?_⟩,.app _,by rw[aT,hl];rfl⟩
 ·unfold zv
  simp only[gF,j4,eN,bP,h3,dI,bz,bo];rw[RF sA st (k+1) hl];rfl
 ·show(st++[AO.dict (LD sA 1 (k+3)),.inst 69 (k+1),.list []])[k+2]?=_
  rw[j5 (by exact aw (bS hl) (fW (by decide) k)),hl,show k+2 -(k+1)=1 by exact Qx k 2 1];rfl
 ·show(st++[AO.dict (LD sA 1 (k+3)),.inst 69 (k+1),.list []])[k+1]?=_
  rw[j5 (by exact bS hl),hl,mn];rfl
 ·show(st++[AO.dict (LD sA 1 (k+3)),.inst 69 (k+1),.list []])[k]?=_
  rw[pF (by exact bS hl.symm),hk];rfl
 ·show(st++[AO.dict (LD sA 1 (k+3)),.inst 69 (k+1),.list []])[k+3]?=_
  rw[j5 (by exact aw (bS hl) (fW (by decide) k)),hl,show k+3 -(k+1)=2 by exact Qx k 3 1];rfl
theorem MB{Z:Pl}(R:Z.X.length<=10000){cC:Nat}(hs:cC<=3):∀(rows:List Rw)(lo rest:List Nat)(ln:Nat),(∀r∈rows,Co r.core/\r.core.length<=9)->(∀x∈lo,x∈gS)->lo.length<=3->rest≠[]->
 ∃J N,mK Z ⟨[],lo++((rows.map λr=>fu cC r.line++[13,10]).flatten ++rest),ln⟩ (rows.map (Rw.word cC)) ⟨[],J++rest,N⟩/\(∀x∈J,x∈gS)/\J.length<=3/\N+J.count 10=ln+lo.count 10+rows.length:=by
 intro rows;induction rows with
 |nil=>intro lo rest ln _ h1 h2 _;exact⟨lo,ln,.nil,h1,h2,rfl⟩
 |cons r rows S=>
  intro lo rest ln hr h1 h2 h3;obtain⟨hc,hl⟩:=hr r (cj ..);refine jW (Nz r hc hl cC hs) λits txt l1 a b c O=>?_;refine yW O λd e f g=>?_;obtain⟨J,N,U,g1,g2,g3⟩:=S l1 rest (ln+lo.count 10) (λx m=>hr x (cw _ m)) d g h3;refine⟨J,N,?_,g1,g2,by rw[g3,e,dE];lia⟩;have Y:lo++(((r::rows).map λr=>fu cC r.line++[13,10]).flatten ++rest)=lo++(txt++(l1++((rows.map λr=>fu cC r.line++[13,10]).flatten ++rest))):=by
   rw[bX,gG,b];simp only[dn]
  rw[Y,bX,<-c];exact .cons (xq R a f (by exact bQ h2 (by decide)) h1 (by intro z;have:=(xB.mp z).1;rw[this]at e;cases e)) U
theorem Ve(ns:List Int):∃its,Form its (zN ns)/\gi its=[122]/\its.length=1:=
 three (P:=λi=>∃its,Form its (v5.getD i [])/\gi its=[122]/\its.length=1) _
  ⟨[(false,122)],.inr ⟨32,rfl,.inr (.inr rfl),by decide,_,_,rfl,λ_=>by decide⟩,rfl,rfl⟩
  ⟨[(false,122)],.inr ⟨9,rfl,.inl rfl,by decide,_,_,rfl,λ_=>by decide⟩,rfl,rfl⟩
  ⟨[(false,122)],.inl ⟨rfl,by decide⟩,rfl,rfl⟩
theorem MP(n:Nat):Form (bZ (n+1) (false,46)) (bZ (n+1) 46++[13]):=by
 refine .inr ⟨13,by rw[EK],.inr (.inl rfl),λit m=>?_,(false,46),bZ n (false,46),rfl,λ_=>by decide⟩;rw[(oV.mp m).2];exact⟨by decide,λ_=>⟨by decide,by decide⟩⟩
theorem BV(ns:List Int):lO ns≠[]:=λe=>absurd (xB.mp e).2 (qr _ _)
theorem SX(ns:List Int):(lq (cv ns).1/\(cv ns).1≠46)/\lq (cv ns).2/\(cv ns).2≠46:=by
 have all:∀p∈qJ,((p.1≠10/\p.1≠9/\p.1≠13)/\p.1≠46)/\(p.2≠10/\p.2≠9/\p.2≠13)/\p.2≠46:=by decide
 exact all _ (getD_mem (cF _ (by decide)))
noncomputable def Dk(x:List Nat):Prop:=x.headD 0≠46/\∀c∈x,lq c
theorem B8(ns:List Int):∀r∈eE ns,Co r.core/\r.core.length<=9:=λr m=>by
 obtain⟨O,hr⟩:=qz ns;obtain⟨⟨a1,a2⟩,b1,b2⟩:=SX ns;have h0:Dk r.core:=by
  revert r;unfold eE;generalize cv ns=p at a1 a2 b1 b2;obtain⟨a,b⟩:=p;refine wA (P:=Dk) (λn=>?_) ⟨by decide,λ_ m=>absurd m a6⟩ _ _ _ (λc m=>?_) λr m=>absurd m a6
  ·have J:∀x∈k_ a b,x≠[]/\x.headD 0≠46/\∀c∈x,lq c:=λx m=>by
    unfold k_ at m;simp only[bJ,a6,or_false]at m;rcases m with rfl|rfl|rfl|rfl
    ·exact⟨by simp,a2,bt.mpr ⟨a1,λ_ m=>absurd m a6⟩⟩
    ·exact⟨by simp,b2,bt.mpr ⟨b1,λ_ m=>absurd m a6⟩⟩
    ·exact⟨by simp,a2,bt.mpr ⟨a1,bt.mpr ⟨b1,λ_ m=>absurd m a6⟩⟩⟩
    ·exact⟨by simp,b2,bt.mpr ⟨b1,bt.mpr ⟨a1,λ_ m=>absurd m a6⟩⟩⟩
   have N:∀x∈kN b,∀c∈x,lq c:=λx m c hc=>by
    unfold kN at m;simp only[bJ,a6,or_false]at m;rcases m with rfl|rfl|rfl|rfl<;>simp only[bJ,a6,or_false]at hc
    ·rcases hc with rfl|rfl|rfl<;>exact mq
    ·rcases hc with rfl|rfl|rfl|rfl
     ·exact mq
     ·exact mq
     ·exact mq
     ·exact b1
    ·rcases hc with rfl|rfl|rfl|rfl|rfl|rfl|rfl
     ·exact mq
     ·exact mq
     ·exact mq
     ·exact b1
     ·exact mq
     ·exact mq
     ·exact mq
   have g1:=J _ (getD_mem (l:=k_ a b) (i:=n%4) (d:=[]) (cF _ (by decide)));have g2:=N _ (getD_mem (l:=kN b) (i:=n/4%4) (d:=[]) (cF _ (by decide)));unfold ky;exact⟨by rw[Ep g1.1];exact g1.2.1,λc m=>(ei.mp m).elim (g1.2.2 c) (g2 c)⟩
  ·replace m:c∈gn a b:=m
   unfold gn at m;simp only[bJ,a6,or_false]at m;have two:∀{x y:Nat},lq x->x≠46->lq y->Dk [x,y]:=λh1 h2 h3=>⟨h2,bt.mpr ⟨h1,bt.mpr ⟨h3,λ_ m=>absurd m a6⟩⟩⟩;rcases m with rfl|rfl|rfl|rfl
   ·exact two a1 a2 a1
   ·exact two a1 a2 b1
   ·exact two b1 b2 a1
   ·exact two b1 b2 b1
 have:=(hr r m).1;exact⟨⟨λe=>by rw[e]at this;exact absurd this.1 (by decide),h0⟩,this.2⟩
theorem KZ(ns:List Int){Z:Pl}(O:Z.X=kh ns):∃s1,mK Z ⟨[],kh ns,1⟩ (iM ns) s1/\s1.q=[]/\mK Z s1 [bZ (1+fw ns) 46,[],[122]] ⟨[],lO ns,8⟩:=by
 have N:Z.X.length<=10000:=by
  rw[O];exact aw (text_len ns (qE ns)) (by decide)
 obtain⟨R,hr⟩:=qz ns;have S:kh ns=[]++(((eE ns).map λr=>fu (fw ns) r.line++[13,10]).flatten ++((bZ (1+fw ns) 46++[13])++([10]++iq ns))):=by
  unfold kh lR;rw[if_neg (by unfold fw;exact jf (Qj _ (by decide)))];unfold l5 gb;simp only[dR,br,qa,dn,ef];refine congrArg _ ?_;show(fu (fw ns) [46]++[13,10])++[]++iq ns=_;rw[EC,gj,gI 1,List.replicate_succ'];simp only[dn];rfl
 refine fF (MB N (qE ns) (eE ns) [] ((bZ (1+fw ns) 46++[13])++([10]++iq ns)) 1 (B8 ns) (λ_ m=>absurd m a6) (cJ _) (by simp)) λlo ln U a b c=>?_;rw[R]at c;have Y:ln+lo.count 10=7:=c;have J:=MP (fw ns);rw[gI (fw ns) 1]at J;refine dh (Ve ns) λits zf zc zl=>?_;have t1:=xq (w:=lo) (rest:=[10]++iq ns) (ln:=ln) N J (by rw[jC];have:=qE ns;exact bQ (fW this 1) (by decide)) (by exact bQ b (by decide)) a (by simp);rw[Y,GU]at t1;have t2:=xq (Z:=Z) (its:=[]) (txt:=[34,34]) (w:=[10]) (rest:=zN ns++lO ns) (ln:=7) N (.inl ⟨rfl,λ_ m=>absurd m a6⟩) (by decide) (by decide) (by decide) (λe=>BV ns (xB.mp e).2);have t3:=xq (Z:=Z) (w:=[]) (rest:=lO ns) (ln:=8) N zf (by exact bQ (bS zl) (by decide)) (by decide) (λ_ m=>absurd m a6) (BV ns);rw[zc]at t3;refine⟨_,by rw[S];exact U,rfl,.cons t1 (.cons ?_ (.cons t3 .nil))⟩;have e2:[10]++iq ns=[10]++([34,34]++(zN ns++lO ns)):=by unfold iq;simp only[dn]
 rw[e2];exact t2
noncomputable def il(ns:List Int):List (List Nat):=(iM ns).take 3
noncomputable def fY(ns:List Int):List (List Nat):=(iM ns).drop 3
noncomputable def cV(ns:List Int)(w:List Nat):List Bool:=(il ns).map λn=>jT w n
noncomputable abbrev sO(ns:List Int)(w:List Nat):aB:=.list ((cV ns w).map .bool)
noncomputable abbrev uZ(ns:List Int):aB:=.list ((fY ns).map (sO ns))
noncomputable def aZ:List (List Nat):=[[0,1,2],[0,2,1],[1,0,2],[1,2,0],[2,0,1],[2,1,0]]
noncomputable abbrev oy:aB:=.list (aZ.map λo=>.tuple (o.map nD))
noncomputable def dw(ns:List Int)(o:List Nat):List (List Nat):=o.map λp=>(il ns).getD p []
noncomputable abbrev lH(ns:List Int):aB:=.list (aZ.map λo=>.list ((dw ns o).map sD))
theorem wH(ns:List Int):(iM ns).length =6:=by
 unfold iM rwords;rw[aP,(qz ns).1]
theorem rG(ns:List Int):(il ns).length =3:=by unfold il;rw[iG,wH];rfl
theorem wy(ns:List Int):(fY ns).length =3:=by unfold fY;rw[ez,wH]
theorem wR(ns:List Int):∀w∈iM ns,w.length<=20:=λw m=>by
 refine aG (dy.mp m) λr hr J=>?_;subst J;have h:=((qz ns).2 r hr).1;have hd:=r.sr;have hs:=qE ns;unfold Rw.word;rw[aT,jC]
 have:r.up (fw ns)<=6:=by unfold Rw.up;split<;>(first|exact aw hd (by decide)|exact fU hd hs)
 exact aw (fU this h.2) (by decide)
theorem name_mem(ns:List Int){w:List Nat}(h:w∈il ns):w∈iM ns:=F_ h
theorem GI(ns:List Int){w:List Nat}(h:w∈fY ns):w∈iM ns:=AI h
section
variable{W:List Nat}{G:Gm}(ns:List Int)
theorem Wa(h:G 46=some (.d (.list ((iM ns).map sD)))):Sg W G Ds (.next ((G.put 66 (.d (.list ((il ns).map sD)))).put 60 (.d (.list ((fY ns).map sD))))):=by
 have hl:((iM ns).map sD).length <=16777216:=by rw[aP,wH];decide
 have h1:=yI (W:=W) 3 hl;have h2:=qC (W:=W) 3 hl;rw[<-wZ]at h1;rw[<-sh]at h2;exact FF (aE (iT (az h) dO (fS (aW 3)) dO h1) (aE (iT (az h) (fS (aW 3)) dO dO h2) be))
theorem UD(J:G 66=some (.d (.list ((il ns).map sD))))(h0:G 60=some (.d (.list ((fY ns).map sD)))):Sg W G Dy (.next (G.put 59 (.d (uZ ns)))):=by
 refine fQ (p:=.d _) (fE (bs:=fY ns) (mk:=λw=>.one (sD w)) (h:=sO ns) ?_ (by rw[wy];decide) λw hw=>⟨_,.one rfl,?_⟩)
 ·have:=iC (W:=W) (tg:=.name 8) (az h0) rfl
  rwa[br]at this
 ·have hi:=iC (W:=W) (G:=(G.only [66]).put 8 (.d (sD w))) (tg:=.name 25) (az (k:=66) (show(if 66=8 then _ else _)=_ from J)) rfl
  rw[br]at hi;have:=fE (fv:=[8]) (h:=A_∘λn=>jT w n) (fe:=bK (bG [8,25] tU) (ab (aa 8) (ab (aa 25) ag))) hi (by rw[rG];decide) λn N=>⟨_,.one rfl,ia (aE (az rfl) (aE (az rfl) be)) (Rr (want:=w) (name:=n) (bQ (wR ns n (name_mem ns N)) (by decide)) (aw (wR ns w (GI ns hw)) (by decide)))⟩;rw[<-br]at this;exact this
theorem Wi:Sg W G Dn (.next (G.put 55 (.d oy))):=by
 have t:∀a b c:Nat,bh W G (dc (ab (xk (.int a)) (ab (xk (.int b)) (ab (xk (.int c)) ag)))) (.tuple ([a,b,c].map nD)):=λa b c=>oh (aE (aW a) (aE (aW b) (aE (aW c) be))) (show 3<=16777216 by decide);exact fQ (p:=.d _) (e6 (aE (t 0 1 2) (aE (t 0 2 1) (aE (t 1 0 2) (aE (t 1 2 0) (aE (t 2 0 1) (aE (t 2 1 0) be)))))) (show 6<=16777216 by decide))
theorem pv:∀o∈aZ,∀p∈o,p<3:=by decide
theorem su:∀o∈aZ,o.length=3:=by decide
theorem VX(N:G 66=some (.d (.list ((il ns).map sD))))(h5:G 55=some (.d oy)):Sg W G Dq (.next (G.put 64 (.d (lH ns)))):=by
 refine fQ (p:=.d _) (fE (bs:=aZ) (mk:=λo=>.one (.tuple (o.map nD))) (h:=λo=>.list ((dw ns o).map sD)) ?_ (show 6<400 by decide) λo ho=>⟨_,.one rfl,?_⟩)
 ·have:=iC (W:=W) (tg:=.name 56) (az h5) rfl
  rwa[br]at this
 ·have hi:=Iy (W:=W) (G:=(G.only [66]).put 56 (.d (.tuple (o.map nD)))) (k:=26) (az (k:=56) rfl)
  rw[br]at hi;have:=fE (fv:=[66]) (h:=sD∘λp=>(il ns).getD p []) (fe:=aH (aa 66) (aa 26)) hi (by rw[su o ho];decide) λp J=>⟨_,.one rfl,aM (az (show(((G.only [66]).put 56 _).only [66]).put 26 _ 66=some (.d (.list ((il ns).map sD)))from N)) (az rfl) (eh p (getD_at (by rw[rG];exact pv o ho p J)) (du (pv o ho p J) (by decide)))⟩;rw[<-br]at this;exact this
end
theorem Vq(F:aj)(st:St):zA F st=some (.next,F.put 57 (.ref st.length),st++[.list []]):=by
 unfold zA;simp only[gF,x9,dI,bz,bo];rw[if_pos (show([]:List AV).length <=sizeLine from cJ _)];rfl
noncomputable def dK(W:List Nat)(G:Gm)(I I':St->Prop)(f:SM)(G':Gm):Prop:=∀(F:aj)(st:St),GR W G F st->I st->Ok (f F st) λq=>q.1=.next /\aN W st q.2.2/\GR W G' q.2.1 q.2.2/\I' q.2.2
noncomputable def vM(W:List Nat)(G:Gm)(I I':St->Prop)(tg:b7)(fi:aj->St->Option (It×St))(as:List Ai):Prop:=∀(F:aj)(st:St),GR W G F st->I st->Ok (fi F st) λq=>aN W st q.2/\Yl W tg as q.2 q.1/\I' q.2
section
variable{W:List Nat}{G G1 G2:Gm}{I I1 I2:St->Prop}
theorem yy{f:SM}(h:Sg W G f (.next G1))(s:gQ I):dK W G I I f G1:=λF st g i=>(h F st g).mono λq J=>⟨J.2.1,J.1.any,J.2.2,s J.1 i⟩
theorem pg{f g:SM}(hf:dK W G I I1 f G1)(hg:dK W G1 I1 I2 g G2):dK W G I I2 (ao f g) G2:=λF st O i=>sq ((hf F st O i).mono λq J=>⟨J.1,(hg _ _ J.2.2.1 J.2.2.2).mono λp N=>⟨N.1,J.2.1.trans N.2.1,N.2.2⟩⟩)
theorem TY:dK W G I I aC G:=λF st g i=>⟨rfl,.rfl',g,i⟩
theorem qI{f:SM}(hf:dK W G I I1 f G1):dK W G I I1 (ao f aC) G1:=pg hf TY
theorem z5{k:Nat}{f:EM}{d:aB}(h:dZ W W G I I1 f d):dK W G I I1 (bj k f) (G.put k (.d d)):=λF st g i=>Ok.fK ((h F st g i).mono λq J=>⟨rfl,J.1,(g.keep J.1).put (p:=.d d) J.2.1,J.2.2⟩)
theorem yu{f:SM}(h:dK W G I I1 f G1)(le:∀j q,G2 j=some q->G1 j=some q):dK W G I I1 f G2:=λF st g i=>(h F st g i).mono λq J=>⟨J.1,J.2.1,J.2.2.1.le le,J.2.2.2⟩
theorem qj{f:SM}{k:Nat}{p:Vl}(h:dK W G1 I I1 f (G.put k p))(n:G k=none):dK W G1 I I1 f G:=yu h λj q e=>Gm.Cw n e
theorem mw{f N:SM}(h:dK W G I I1 f G1){F:aj}{st:St}(g:GR W G F st)(i:I st){P:Fl×aj×St->Prop}(k:∀F' st',aN W st st'->GR W G1 F' st'->I1 st'->Ok (N F' st') P):Ok (ao f N F st) P:=
 sq ((h F st g i).mono λq J=>⟨J.1,k _ _ J.2.1 J.2.2.1 J.2.2.2⟩)
theorem Aw{t:aj->St->Option (Bool×St)}{x:SM}(ht:fb W G t false)(s:gQ I):dK W G I I (cn t x aC) G:=λF st g i=>Ok.bind' ((ht F st g).mono λq J=>by
 obtain⟨b,st'⟩:=q;obtain⟨z,k⟩:=J;cases(show b=false from z)
 exact⟨rfl,k.any,g.cZ k,s k i⟩)
theorem Eu{f g:EM}{a b:aB}{x:SM}(s:gQ I2)(hf:dZ W W G I I1 f a)(hg:dZ W W G I1 I2 g b)(ho:cO W c5 a b (.bool false)):dK W G I I2 (cn (aS c5 f g) x aC) G:=λF st J i=>Ok.bind' (Ok.bind' ((yo (λ_ m=>m) s hf hg ho F st J i).mono λq O=>by
 obtain⟨v,st'⟩:=q;refine de O λN r i'=>?_;cases(show RV W st' v (.bool false)from r).b'
 exact⟨rfl,N,J.keep N,i'⟩))
theorem sJ{tg:b7}{fi}{as:List Ai}(h:fg W G tg fi as)(s:gQ I):vM W G I I tg fi as:=λF st g i=>(h F st g).mono λq J=>⟨J.1.any,J.2,s J.1 i⟩
theorem M9{k:Nat}{f:EM}{ds:List aB}(hf:dZ W W G I I1 f (.list ds)):vM W G I I1 (.name k) (bL f) (ds.map .one):=λF st O i=>Ok.bind' ((hf F st O i).mono λp J=>by
 obtain⟨v,st⟩:=p;refine fF ((show RV W st v (.list ds)from J.2.1).l') λl xs N n e r=>?_;subst N;exact Ok.fK (Ok.of (show nu (.ref l) st=some (.list l 0) by
  show((bF st l).map _).or _=_;rw[dC e];rfl) ⟨J.1,HG rfl n e rfl r,J.2.2⟩))
theorem qA{tg:b7}{fi}{b:SM}{as:List Ai}(Is:Nat->St->Prop)(hi:vM W G I (Is 0) tg fi as)(hl:as.length<400)(hs:∀j a,as[j]?=some a->∃G1,pO tg a G G1/\dK W G1 (Is j) (Is (j+1)) b G):
 dK W G I (Is as.length) (λF st=>(fi F st).bind λp=>cB tg b 400 p.1 F p.2) G:=λF st U i=>Ok.bind' ((hi _ _ U i).mono λp hp=>by
 obtain⟨it,st1⟩:=p;refine de hp λk1 Y i1=>?_;refine IM (W:=W) (λr F st'=>(∃j,as.drop j=r/\j+r.length=as.length/\Is j st')/\aN W st st'/\GR W G F st') as 400 hl Y ⟨⟨0,rfl,hK _,i1⟩,k1,U.keep k1⟩ (λa r F st' h item s=>?_) λF st' h=>?_
 ·refine de h λJ k g=>?_;refine dh J λj R O S=>?_
  have ha:as[j]?=some a:=by rw[<-lD,R];rfl
  refine aG (hs j a ha) λG1 hB hS=>?_;refine(hB.ok s g).mono λF1 g1=>(hS _ _ g1 S).mono λq N=>⟨.inl N.1,N.2.1,⟨j+1,by rw[<-me,R];rfl,by exact(hH ..).trans O,N.2.2.2⟩,k.trans N.2.1,N.2.2.1⟩
 ·refine de h λJ k g=>?_;refine dh J λj R O S=>?_
  rw[nL,Gx]at O;exact⟨rfl,k,g,O▸S⟩)
theorem QP{k:Nat}{fe:EM}(hk:G k=none)(Is:Nat->St->Prop)(ds:Nat->aB)(n:Nat)(R:∀j,j<n->dZ W W G (Is j) (Is (j+1)) fe (ds j)):∀(as:List aB)(j:Nat){fuel:Nat}{it:It}{acc:List AV}{ad:List aB}{F:aj}{st:St},j+as.length=n->as.length<fuel->ad.length+as.length<=10000->
 Yl W (.name k) (as.map .one) st it->GR W G F st->aQ W st acc ad->Is j st->
 Ok (jN (.name k) bw (a_ fe) fuel it acc F st) λq=>aN W st q.2.2/\aQ W q.2.2 q.1 (ad++(uG j as.length).map ds)/\Is n q.2.2:=by
 intro as;induction as with
 |nil=>
  intro j fuel it acc ad F st J hf N Y g r i;cases fuel with
  |zero=>exact absurd hf (gk _)
  |succ fuel=>
   show Ok (if(b7.name k).fits it=true then(it.next st).bind _ else none) _;rw[if_pos Y.1,Y.2 st .rfl'];rw[nL,Gx]at J;exact⟨.rfl',by rw[nL];show aQ W st acc (ad++[]);rw[gj];exact r,J▸i⟩
 |cons a as U=>
  intro j fuel it acc ad F st J hf N Y g r i;cases fuel with
  |zero=>exact absurd hf (gk _)
  |succ fuel=>
   refine fH (Y.2 st .rfl') λitem gU hn hs Y'=>?_;rw[dE]at N hf J;show Ok (if(b7.name k).fits it=true then(it.next st).bind _ else none) _;rw[if_pos Y.1,hn];show Ok (((b7.name k).bind item F st).bind _) _;refine Ok.bind' (((gT.one (G:=G) hk).ok hs g).mono λF1 g1=>?_);have g2:=g1.le (gT.one (k:=k) (d:=a) hk).le;show Ok ((a_ fe acc F1 st).bind _) _;refine Ok.bind' (Ok.bind' ((R j (by exact rH (bS J)) F1 st g2 i).mono λe h=>?_));show Ok (if acc.length<=sizeLine then some (acc++[e.1],F1,e.2)else none) _;rw[if_pos (by rw[r.len,sizeLine_eq];exact aw (cq (rH N)) (by decide))];refine de h λO re i1=>?_;refine(U (j+1) (fuel:=fuel) (it:=gU) (acc:=acc++[e.1]) (ad:=ad++[ds j]) (F:=F1) (st:=e.2) (by exact(hH ..).trans J) (mV hf) (by rw[aT,hU];exact z_ N) (Y'.keep O) (g2.keep O) ((aQ.keep O r).app (.cons re .nil)) i1).mono λq S=>⟨O.trans S.1,?_,S.2.2⟩;have:=S.2.1;rw[dn]at this;rw[dE,Gn,bX];exact this
end
theorem HA{W:List Nat}{G:Gm}{fv:List Nat}{fi}{k:Nat}{fe:EM}{as:List aB}(Is:Nat->St->Prop)(ds:Nat->aB)(hi:fg W G (.name k) fi (as.map .one))(hl:as.length<400)(hk:(G.only fv) k=none)(s0:gQ (Is 0))(s1:gQ (Is as.length))(h:∀j,j<as.length->dZ W W (G.only fv) (Is j) (Is (j+1)) fe (ds j)):
 dZ W W G (Is 0) (Is as.length) (bl fv fi (.name k) bw (a_ fe) 400) (.list ((uG 0 as.length).map ds)):=λF st O i=>
 Ok.bind' ((hi F st O).mono λp J=>Ok.fK ((QP hk Is ds as.length h as 0 (hK _) hl (by exact aw (bS (hK _)) (cq (du hl (by decide)))) J.2 ((O.cZ J.1).only fv) .nil (s0 J.1 i)).mono λq N=>
  ⟨(J.1.any.trans N.1).trans (.app _),j6 (O.bd.keep (J.1.any.trans N.1)) N.2.1,s1 (.app _) N.2.2⟩))
noncomputable def cf(bs:List Bool)(i:Nat):Bool:=bs.getD i false
noncomputable def eF(f:Nat->Bool)(l:List Nat):List Nat:=l.filter (λi=>!f i)++l.filter f
noncomputable def ltB(bs:List Bool):Nat->Nat->Option Bool:=λi j=>(bs[i]?).bind λx=>(bs[j]?).map λy=>!x&&y
theorem Xy(x y z:Bool):(mD (ltB [x,y,z]) (oX 3)).map Fg=some (eF (cf [x,y,z]) [0,1,2]):=by
 cases x<;>cases y<;>cases z<;>rfl
noncomputable def Dp(ts:List T4):Nat->Nat->Option Bool:=λi j=>(ts[i]?).bind λx=>(ts[j]?).map λy=>C8 x y
theorem XZ:∀x0 J z0 x1 N O R S U:Bool,(mD (Dp [(x0,J,z0,0),(x1,N,O,1),(R,S,U,2)]) (oX 3)).map Fg=some (eF (cf [x0,x1,R]) (eF (cf [J,N,S]) (eF (cf [z0,O,U]) [0,1,2]))):=by
 decide+kernel
noncomputable abbrev QL:ae:="law.<locals>.<lambda>"
noncomputable def TI(st:St):Prop:=∃es,st[0]?=some (.tab es)/\∀p∈es,st[p.2]?=some (.code QL)
theorem IZ:gQ TI:=λk ⟨es,a,b⟩=>⟨es,k.get a,λp m=>k.get (b p m)⟩
theorem yf{V:List Nat}{st st':St}(k:aN V st st')(h0:0∉V)(hv:∀v∈V,st[v]?≠some (.code QL))(h:TI st):TI st':=by
 refine aG h λes a b=>?_;exact⟨es,k.cW h0 a,λp m=>k.cW (λn=>hv _ n (b p m)) (b p m)⟩
theorem V_(ln co:Nat){st:St}(h:TI st):Ok (vB 0 ln co QL st) λm=>aN [0] st m.2/\TI m.2/\m.2[m.1]?=some (.code QL):=by
 refine aG h λes a b=>?_;have e:vB 0 ln co QL st=(es.lookup (ln,co)).elim (some (st.length,st.set 0 (.tab (es++[((ln,co),st.length)]))++[.code QL])) λl=>some (l,st):=by
  unfold vB;rw[a];rfl
 rw[e];cases q:es.lookup (ln,co)with
 |some l=>exact⟨.rfl',⟨es,a,b⟩,b _ (my q)⟩
 |none=>
  have J:=gq a;have N:aN [0] st (st.set 0 (.tab (es++[((ln,co),st.length)]))++[.code QL]):=(lz (cj ..)).trans (.app _);have O:(st.set 0 (.tab (es++[((ln,co),st.length)]))++[AO.code QL])[st.length]?=some (.code QL):=by
   have:=ng (st:=st.set 0 (.tab (es++[((ln,co),st.length)]))) (o:=.code QL);rwa[xj]at this
  refine⟨N,⟨es++[((ln,co),st.length)],?_,λp m=>?_⟩,O⟩
  ·rw[pF (by rw[xj];exact J),get_set,if_pos rfl,if_pos J]
  ·rcases ei.mp m with m|m
   ·refine N.cW (λz=>?_) (b p m)
    have R:p.2=0:=cx.mp z;have:=b p m;rw[R,a]at this;cases this
   ·rw[cx.mp m];exact O
theorem GR.cons{W:List Nat}{G:Gm}{F:aj}{st:St}(h:GR W G F st){k:Nat}{x:AV}{p:Vl}(s:Sat W st x p):GR W (G.put k p) ((k,x)::F) st:=⟨h.bd,λj q e=>by
 rw[eK];by_cases z:j=k
 ·rw[beq_iff_eq.mpr z];rw[Gm.put,if_pos z]at e;cases e;exact s
 ·rw[beq_false_of_ne z];rw[Gm.put,if_neg z]at e;exact h.at' j q e⟩
theorem RB{W:List Nat}{st:St}{xs:List AV}{ds:List aB}(r:aQ W st xs ds):∀(is:List Nat),(∀i∈is,i<ds.length)->aQ W st (is.map λi=>xs.getD i .none) (is.map λi=>ds.getD i (.int 0)):=by
 intro is;induction is with
 |nil=>
  intro _;exact .nil
 |cons i is J=>
  intro h;have hi:=h i (cj ..);refine aG (r.get (kF hi)) λx e N=>?_;refine .cons ?_ (J λj m=>h j (cw _ m));show RV W st (xs.getD i .none) (ds.getD i (.int 0));rw[jg,e,jg,kF hi];exact N
section
variable{W:List Nat}{G:Gm}{kp:Nat}{fv:List Nat}{fe fa:EM}{β:Type}{mk key:β->aB}
theorem Ti{m:Nat}{F:aj}:∀{ds:List β}{xs:List AV}{st:St},(∀d∈ds,bh W ((G.only fv).put kp (.d (mk d))) fe (key d))->aQ W st xs (ds.map mk)->st[m]?=some (.code QL)->GR W G F st->
 Ok (tj (λx st=>(codeAt st m QL).bind λ_=>sR kp fv fe F x st) xs st) λq=>aN [] st q.2/\aQ W q.2 q.1 (ds.map key):=by
 intro ds;induction ds with
 |nil=>
  intro xs st _ r _ _;cases r
  exact⟨.rfl',.nil⟩
 |cons d ds O=>
  intro xs st hk r hm g;cases r with
  |cons a b=>
   rename_i x xs;show Ok (((codeAt st m QL).bind λ_=>sR kp fv fe F x st).bind _) _;have hc:codeAt st m QL=some ():=by
    unfold codeAt;rw[hm];show(if QL=QL then some ()else none)=some ();exact if_pos rfl
   rw[hc];refine Ok.bind' ((hk d (cj ..) _ _ ((g.only fv).cons (p:=.d (mk d)) a)).mono λp J=>?_);exact Ok.fK ((O (λd m=>hk d (cw _ m)) (aQ.keep J.1.any b) (J.1.get hm) (g.cZ J.1)).mono λq N=>⟨J.1.trans N.1,.cons (RV.keep N.1.any J.2) N.2⟩)
theorem Gq{cmp:List AV->St->Option (Nat->Nat->Option Bool)}{ln co:Nat}{bs:List β}{lt:Nat->Nat->Option Bool}{is:List Nat}{I:St->Prop}(h0:0∈W)(Y:gQ I)(hI:∀a b,aN [0] a b->TI b->I a->I b)(hT:∀a,I a->TI a)
 (O:bh W G fa (.list (bs.map mk))\/bh W G fa (.tuple (bs.map mk)))(hk:∀d∈bs,bh W ((G.only fv).put kp (.d (mk d))) fe (key d))(hl:2<=bs.length/\bs.length<64)(hc:∀(st:St)(kvs:List AV),aQ W st kvs (bs.map key)->cmp kvs st=some lt)(hs:(mD lt (oX bs.length)).map Fg=some is)(hi:∀i∈is,i<bs.length):
 dZ W W G I I (sU cmp 0 ln co QL kp fv fe fa) (.list (is.map λi=>(bs.map mk).getD i (.int 0))):=λF st g i=>by
 have Z4:Ok (fa F st) λp=>aN [] st p.2/\∃l xs,p.1=.ref l/\(p.2[l]?=some (.list xs)\/p.2[l]?=some (.tup xs))/\l∉W/\aQ W p.2 xs (bs.map mk):=by
  rcases O with O|O
  ·exact(O F st g).mono λp N=>by
    refine fF ((show RV W p.2 p.1 (.list (bs.map mk))from N.2).l') λl xs e n q r=>?_;exact⟨N.1,l,xs,e,.inl q,n,r⟩
  ·exact(O F st g).mono λp N=>by
    refine fF ((show RV W p.2 p.1 (.tuple (bs.map mk))from N.2).t') λl xs e n q r=>?_;exact⟨N.1,l,xs,e,.inr q,n,r⟩
 refine Ok.bind' (Z4.mono λp N=>?_);obtain⟨a,st1⟩:=p;refine nc N λk1 l xs ea Z5=>?_;refine de Z5 λR hn r=>?_;cases(show a=.ref l from ea)
 have i1:=Y k1 i;refine Ok.bind' ((V_ ln co (hT _ i1)).mono λm hm=>?_);obtain⟨c,bI⟩:=m;refine de hm λk2 t2 c2=>?_;have S:aN W st1 bI:=k2.sub λx m=>by rw[cx.mp m];exact h0
 have i2:=hI _ _ k2 t2 i1;have r2:=aQ.keep S r;have Z6:C0 (.ref l) bI=some xs:=by
  show(bF bI l).or (eo bI l)=some xs;rcases R with R|R
  ·rw[dC (S.cW hn R)];rfl
  ·have:=S.cW hn R
   rw[kM this,show bF bI l=none by unfold bF;rw[this];rfl];rfl
 rw[Z6];show Ok (if 2<=xs.length/\xs.length<64 then _ else none) _;rw[if_pos (by rw[r.len,aP];exact hl)];have g2:=(g.cZ k1).keep S;refine Ok.bind' ((Ti hk r2 c2 g2).mono λq U=>?_);obtain⟨kvs,J⟩:=q;rw[hc J kvs U.2,r.len,aP];show Ok ((mD lt (oX bs.length)).map _) _;cases hr:mD lt (oX bs.length)with
 |none=>rw[hr]at hs;cases hs
 |some arr=>
  rw[hr]at hs;have e:arr.toList=is:=mx hs;have kk:aN W st J:=(k1.any.trans S).trans U.1.any;refine⟨kk.trans (.app _),?_,Y (.app _) (Y U.1 i2)⟩;show RV W (J++[.list (arr.toList.map λi=>xs.getD i .none)]) (.ref J.length) _;rw[e];exact j6 (g.bd.keep kk) (RB (aQ.keep U.1.any r2) is λi m=>by rw[aP];exact hi i m)
end
theorem Io{W:List Nat}{st:St}:∀{bs:List Bool}{kvs:List AV},aQ W st kvs (bs.map .bool)->kvs.mapM AV.b?=some bs
 |[],kvs,r=>by cases r;rfl
 |b::bs,kvs,r=>by
  cases r with
  |cons x y=>
   cases x.b'
   rw[sg,Io y];rfl
theorem RU{W:List Nat}{st:St}{bs:List Bool}{kvs:List AV}(r:aQ W st kvs (bs.map .bool)):tm kvs st=some (ltB bs):=by
 unfold tm;rw[Io r];rfl
noncomputable def JW(t:T4):aB:=.tuple [.bool t.1,.bool t.2.1,.bool t.2.2.1,.int t.2.2.2]
theorem HB{W:List Nat}{st:St}:∀{ts:List T4}{kvs:List AV},aQ W st kvs (ts.map JW)->kvs.mapM (y9 st)=some ts
 |[],kvs,r=>by cases r;rfl
 |t::ts,kvs,r=>by
  cases r with
  |cons x y=>
   refine fF ((show RV W st _ (.tuple [.bool t.1,.bool t.2.1,.bool t.2.2.1,.int t.2.2.2])from x).t') λl xs J n e r=>?_;subst J
   have:y9 st (.ref l)=some t:=by
    show(eo st l).bind _=_;rw[kM e];cases r with
    |cons a r=>
     cases a.b'
     cases r with
     |cons a r=>
      cases a.b'
      cases r with
      |cons a r=>
       cases a.b'
       cases r with
       |cons a r=>
        cases a.i'
        cases r
        rfl
   rw[sg,this,HB y];rfl
theorem R8{W:List Nat}{st:St}{ts:List T4}{kvs:List AV}(r:aQ W st kvs (ts.map JW)):tA kvs st=some (Dp ts):=by
 unfold tA;rw[HB r];rfl
noncomputable abbrev WZ(Z:Pl)(ls:Nat):List Nat:=[ls,Z.pb,Z.d,Z.k,0]
structure PZ(Z:Pl)(ls:Nat):Prop where
 l1:ls∉LV Z
 l0:ls≠0
 lx:Z.lx≠ls
 z0:0∉LV Z
 x0:Z.lx≠0
 xp:Z.pb≠Z.lx
 xl:Z.X.length<=10000
structure BI(Z:Pl)(ls:Nat)(s:Ls)(sv:List aB)(st:St):Prop where
 li:LI Z s st
 ti:TI st
 ss:∃xs,st[ls]?=some (.list xs)/\aQ (WZ Z ls) st xs sv
section
variable{Z:Pl}{ls:Nat}{s s':Ls}{sv:List aB}
theorem sP:∀x∈LV Z,x∈WZ Z ls:=λx m=>by
 simp only[bJ,a6,or_false]at m ⊢;rcases m with m|m|m
 ·exact .inr (.inr (.inr (.inl m)))
 ·exact .inr (.inr (.inl m))
 ·exact .inr (.inl m)
theorem lI:gQ (BI Z ls s sv):=λk h=>⟨yj Z s k h.li,IZ k h.ti,h.ss.imp λxs q=>⟨k.get q.1,aQ.keep k.any q.2⟩⟩
theorem IB{st st':St}(J:PZ Z ls)(h:BI Z ls s sv st)(k:aN (LV Z) st st')(l:LI Z s' st'):BI Z ls s' sv st':=by
 refine jj h.li λp _ L _ hb=>?_;refine aG L.pl λps _ hk=>?_;refine⟨l,yf k J.z0 (λv m=>?_) h.ti,h.ss.imp λxs q=>⟨k.cW J.l1 q.1,aQ.keep (k.sub sP) q.2⟩⟩;simp only[bJ,a6,or_false]at m;rcases m with rfl|rfl|rfl
 ·rw[hk];exactλe=>nomatch e
 ·rw[L.dict];exactλe=>nomatch e
 ·rw[hb];exactλe=>nomatch e
theorem Vr{st st':St}(J:PZ Z ls)(h:BI Z ls s sv st)(k:aN [0] st st')(t:TI st'):BI Z ls s sv st':=by
 refine jj h.li λp a L c hb=>?_;have n:∀x∈LV Z,x∉[0]:=λx m z=>J.z0 (cx.mp z▸m);refine⟨⟨p,a,⟨k.cW (λz=>J.x0 (cx.mp z)) L.inst,k.cW (n _ (by simp)) L.dict,L.pl.imp λps q=>⟨q.1,k.cW (n _ (by simp)) q.2⟩⟩,c,k.cW (n _ (by simp)) hb⟩,t,h.ss.imp λxs q=>⟨k.cW (λz=>J.l0 (cx.mp z)) q.1,aQ.keep (k.sub λx m=>by rw[cx.mp m];simp) q.2⟩⟩
theorem JB{G:Gm}{f:EM}{d:aB}(N:PZ Z ls)(h:dZ (WZ Z ls) (LV Z) G (LI Z s) (LI Z s') f d):dZ (WZ Z ls) (WZ Z ls) G (BI Z ls s sv) (BI Z ls s' sv) f d:=λF st g i=>(h F st g i.li).mono λq J=>⟨J.1.sub sP,J.2.1,IB N i J.1 J.2.2⟩
noncomputable def pushS:SM:=(gN (bU (f_ 69 39) (bG [27,33] p4) (aa 53) (ab (aa 14) ag)))
theorem Pb{G:Gm}{q:List (List Nat)}{r w:List Nat}{ln:Nat}(R:PZ Z ls)(J:G 53=some (.v (.ref Z.lx)))(N:G 14=some (.d (sD w)))(S:q.length<=10000):dK (WZ Z ls) G (BI Z ls ⟨q,r,ln⟩ sv) (BI Z ls ⟨q++[w],r,ln⟩ sv) pushS G:=λF st g i=>by
 refine jj i.li λp a L c hb=>?_;have O:f_ 69 39 (.ref Z.lx) st=some [.ref Z.lx]:=uc (sZ L 39 (by decide));refine aG ((g.at' 14 _ N).get) λx ex sx=>?_;cases(show RV (WZ Z ls) st x (sD w)from sx).s'
 have e:=Tu L (.str (T w)) (bx q) hb (by unfold bx;rw[aP];exact S);have k:aN (LV Z) st (st.set Z.pb (.list (bx q++[.str (T w)]))):=lz (by simp);refine Ok.of (a:=(.next,F,st.set Z.pb (.list (bx q++[.str (T w)])))) ?_ ⟨rfl,k.sub sP,g.keep (k.sub sP),IB R i k ⟨p,a,⟨?_,?_,?_⟩,c,?_⟩⟩
 ·unfold pushS
  simp only[B5,iJ,bP,g.av J,ex,bz,bo,O,eN,dI,eM,ef,e]
 ·rw[get_set,if_neg (λz=>R.xp z.symm)];exact L.inst
 ·rw[get_set,if_neg (λz=>Z.pd z.symm)];exact L.dict
 ·exact L.pl.imp λps h=>⟨h.1,by rw[get_set,if_neg (λz=>Z.pk z.symm)];exact h.2⟩
 ·rw[get_set,if_pos rfl,if_pos (gq hb)]
  unfold bx;rw[dR];rfl
theorem Af(J:PZ Z ls)(q:List (List Nat))(r:List Nat)(ln:Nat):∀ts:List (List Nat),(ts++q).length <=10000->mK Z ⟨ts++q,r,ln⟩ ts ⟨q,r,ln⟩
 |[],_=>.nil
 |t::ts,h=>.cons (TQ (t:=t) (q:=ts++q) (m4 h) J.xp) (Af J q r ln ts (m4 h))
theorem El{G:Gm}{I:St->Prop}{f:EM}{ws q:List (List Nat)}{r:List Nat}{ln:Nat}(S:PZ Z ls)(J:G 53=some (.v (.ref Z.lx)))(N:G 14=none)(hf:dZ (WZ Z ls) (WZ Z ls) G I (BI Z ls ⟨q,r,ln⟩ sv) f (.list (ws.map sD)))(hl:(q++ws).length <400):
 dK (WZ Z ls) G I (BI Z ls ⟨q++ws,r,ln⟩ sv) (λF st=>((bL f) F st).bind λp=>cB (.name 14) (ao pushS aC) 400 p.1 F p.2) G:=by
 rw[aT]at hl;have:=qA (W:=WZ Z ls) (G:=G) (I:=I) (tg:=.name 14) (fi:=bL f) (b:=ao pushS aC) (as:=(ws.map sD).map .one) (λj=>BI Z ls ⟨q++ws.take j,r,ln⟩ sv) (by rw[Gr,gj];exact M9 hf) (by rw[aP,aP];exact bQ (dm ..) hl) λj a R=>by
  rw[br,dQ]at R;refine aG (ji.mp R) λw hw O=>?_;subst O;have U:=(fX.mp hw).1;refine⟨_,.one,qI (qj (k:=14) (p:=.d (sD w)) ?_ N)⟩;have e:ws.take (j+1)=ws.take j++[w]:=by rw[nR,hw];rfl
  rw[e,<-dn];exact yu (Pb S (by rw[Gm.put,if_neg (by decide)];exact J) (by rw[Gm.put,if_pos rfl]) (by rw[aT,iG];exact aw (fW (jZ ..) _) (cq (du hl (by decide))))) λ_ _ e=>e
 rw[aP,aP,uC]at this;exact this
end
theorem D7:∀{a b:Nat}{x y:List Nat},x.headD 0≠46->y.headD 0≠46->bZ a 46++x=bZ b 46++y->x=y
 |0,0,_,_,_,_,e=>e
 |0,b+1,x,y,J,_,e=>by
  have:=congrArg (λl:List Nat=>l.headD 0) e;exact absurd this J
 |a+1,0,x,y,_,N,e=>by
  have:=congrArg (λl:List Nat=>l.headD 0) e;exact absurd this.symm N
 |a+1,b+1,x,y,J,N,e=>D7 (a:=a) (b:=b) J N (nM e).2
theorem D5{α:Type}:∀{l:List α}{i:Nat}(h:i<l.length),(l[i]::l.eraseIdx i).Perm l
 |a::l,0,_=>.refl _
 |a::l,i+1,h=>(ZS _ _ _).trans (.cons a (D5 (mV h)))
noncomputable def Dm(m:Ms):Prop:=((m.2.take 3).map Rw.core++m.1).Nodup
theorem S3{a b j n:Nat}{m:Ms}(g:Good j m)(O:j<6)(h:Dm m):Dm (qO a b m (n,j)):=by
 unfold Dm at h ⊢;show(((m.2++[dJ a b m (n,j)]).take 3).map Rw.core++ko m (n,j)).Nodup;by_cases q:j<3
 ·have hl:=(wz (a:=a) (b:=b) (n:=n) g O).2.1 q
  have hi:n%m.1.length <m.1.length :=cF _ hl.1;have J:(m.2++[dJ a b m (n,j)]).take 3=m.2++[dJ a b m (n,j)]:=kv (by rw[aT,hU,g.rows];exact q);have R:m.2.take 3=m.2:=kv (by rw[g.rows];exact cq q);have N:ko m (n,j)=m.1.eraseIdx (n%m.1.length):=if_pos q;have S:(dJ a b m (n,j)).core =m.1[n%m.1.length]:=by
   show(if j<3 then _ else _)=_;rw[if_pos q,jg,kF hi];rfl
  rw[J,N,dR,bX,fT,S,dn];rw[R]at h;exact(ZO (Y7 _ (D5 hi))).mpr h
 ·have J:(m.2++[dJ a b m (n,j)]).take 3=m.2.take 3:=O5 (by rw[g.rows];exact fC q)
  have N:ko m (n,j)=m.1:=if_neg q;rw[J,N];exact h
theorem TU(ns:List Int):(cv ns).1≠(cv ns).2:=by
 have all:∀p∈qJ,p.1≠p.2:=by decide
 exact all _ (getD_mem (cF _ (by decide)))
theorem RZ(ns:List Int):Dm (nt (cv ns).1 (cv ns).2 ((gu ns).take 6) 0 (gn (cv ns).1 (cv ns).2,[])):=by
 have:∀(l:List Nat)(j:Nat)(m:Ms),j+l.length<=6->Good j m->Dm m->Dm (nt (cv ns).1 (cv ns).2 l j m):=by
  intro l;induction l with
  |nil=>intro j m _ _ h;exact h
  |cons n l R=>
   intro j m N g h;rw[dE]at N;exact R (j+1) _ (by exact(hH ..)▸N) (wz g (by exact cK (oQ (c8 ..)) N)).1 (S3 g (by exact cK (oQ (c8 ..)) N) h)
 refine this _ 0 _ (by rw[iG,j7];decide) (good0 _ _) ?_;have J:=TU ns;generalize cv ns=p at J;obtain⟨a,b⟩:=p;show(gn a b).Nodup;have J:a≠b:=J;have O:b≠a:=λe=>J e.symm;unfold gn;simp[J,O]
noncomputable def mO(ns:List Int)(p:Nat):List Nat:=(il ns).getD p []
theorem OE(ns:List Int){p q:Nat}(N:p<3)(hq:q<3)(h:mO ns p=mO ns q):p=q:=by
 have hD:=RZ ns;obtain⟨U,hr⟩:=qz ns;have hN:((eE ns).take 3).map Rw.core|>.Nodup:=(Tg.mp hD).1;have hl:(((eE ns).take 3).map Rw.core).length =3:=by rw[aP,iG,U];rfl
 have row:∀{p},p<3->∃r∈eE ns,mO ns p=r.word (fw ns)/\(((eE ns).take 3).map Rw.core)[p]?=some r.core:=λ{p} N=>by
  have J:p<(eE ns).length :=by exact U▸aw N (by decide)
  refine⟨(eE ns)[p],Bj J,?_,?_⟩
  ·unfold mO il iM rwords
   rw[jg,Ri,if_pos N,dQ,kF J];rfl
  ·rw[dQ,Ri,if_pos N,kF J];rfl
 refine dh (row N) λr mr er cr=>?_;refine dh (row hq) λY O R S=>?_;have ec:r.core=Y.core:=by
  rw[er,R]at h;unfold Rw.word at h;exact D7 (B8 ns r mr).1.2.1 (B8 ns Y O).1.2.1 h
 rw[ec,<-S]at cr;exact(List.getElem?_inj (by rw[hl];exact N) hN).mp cr
theorem XW(t:Nat->Bool)(a b c:Nat){α:Type}(x:Nat->α)(d:α):(eF (cf [t a,t b,t c]) [0,1,2]).map (λi=>[x a,x b,x c].getD i d)=(eF t [a,b,c]).map x:=by
 have e:∀(f:Nat->Bool),[a,b,c].filter f=cond (f a) (a::cond (f b) (b::cond (f c) [c] []) (cond (f c) [c] [])) (cond (f b) (b::cond (f c) [c] []) (cond (f c) [c] [])):=λf=>by
  simp only[List.filter];cases f a<;>cases f b<;>cases f c<;>rfl
 unfold eF;rw[e,e];cases t a<;>cases t b<;>cases t c<;>rfl
theorem Wb{t:Nat->Bool}{o:List Nat}(h:∀p∈o,p<3):∀p∈eF t o,p<3:=λp m=>by
 rcases ei.mp m with m|m
 ·exact h p ((uB.mp m).1)
 ·exact h p ((uB.mp m).1)
noncomputable def c4(bs:List Bool)(o:List Nat):List Nat:=eF (cf bs) o
theorem x8:∀x y z:Bool,∀o∈aZ,c4 [x,y,z] o∈aZ:=by decide
noncomputable def zu(o:List Nat):Nat:=aZ.findIdx (·==o)
noncomputable def kT(bs:List Bool):List Nat:=aZ.map λo=>zu (c4 bs o)
noncomputable def cN(ns:List Int)(o:List Nat):List (List Nat):=dw ns o++[[]]
theorem Tw(ns:List Int)(o:List Nat):dw ns o=o.map (mO ns):=rfl
theorem Hn(ns:List Int):∀{o o':List Nat},(∀p∈o,p<3)->(∀p∈o',p<3)->dw ns o=dw ns o'->o=o'
 |[],[],_,_,_=>rfl
 |[],_::_,_,_,h=>nomatch h
 |_::_,[],_,_,h=>nomatch h
 |p::o,q::o',J,N,h=>by
  have:=nM (show mO ns p::dw ns o=mO ns q::dw ns o' from h);rw[OE ns (J p (cj ..)) (N q (cj ..)) this.1,Hn ns (λx m=>J x (cw _ m)) (λx m=>N x (cw _ m)) this.2]
theorem uO(ns:List Int)(w:List Nat):∃x y z,cV ns w=[x,y,z]/\∀p,p<3->cf (cV ns w) p=jT w (mO ns p):=by
 have hl:(cV ns w).length =3:=by unfold cV;rw[aP,rG]
 refine⟨cf (cV ns w) 0,cf (cV ns w) 1,cf (cV ns w) 2,?_,λp J=>?_⟩
 ·refine lV (q4 hl) λx y z e=>?_
  rw[e];rfl
 ·unfold cf cV mO
  rw[jg,dQ,jg,kF (by rw[rG];exact J)];rfl
theorem ml(ns:List Int)(w:List Nat):∀o∈aZ,c4 (cV ns w) o∈aZ:=by
 refine sQ (uO ns w) λx y z e _=>?_;rw[e];exact x8 x y z
theorem jB(ns:List Int){o:List Nat}(h:o∈aZ):(dw ns o).length =3:=by unfold dw;rw[aP];exact su o h
theorem G3(ns:List Int){o:List Nat}(h:o∈aZ){n:List Nat}(m:n∈dw ns o):n∈il ns:=by
 refine aG (dy.mp m) λp N J=>?_;subst J;exact getD_mem (by rw[rG];exact pv o h p N)
theorem ER(ns:List Int){o:List Nat}(h:o∈aZ):(cN ns o).take 3=dw ns o:=by unfold cN;rw[O5 (bS (jB ns h).symm),kv (bS (jB ns h))]
theorem MT(ns:List Int){o:List Nat}(h:o∈aZ):(cN ns o).drop 3=[[]]:=by
 have:=List.drop_left' (l₁:=dw ns o) (l₂:=[[]]) (jB ns h);exact this
theorem wC(ns:List Int):∀l:List (List Nat),(∀o∈l,o∈aZ)->((l.map (cN ns)).flatten).length =4*l.length:=by
 intro l;induction l with
 |nil=>
  intro _;exact rfl
 |cons o l J=>
  intro h;rw[bX,gG,aT,J λx m=>h x (cw _ m)];unfold cN;rw[aT,jB ns (h o (cj ..)),hU,dE];exact gI ..
theorem I_{x:List Nat}(h:∀c∈x,c<1114112):qn (T x)=true:=by
 unfold qn T;rw[show({cps:=x.toArray}:ae).cps =x.toArray from rfl,List.all_toArray,wX];exactλc m=>decide_eq_true (h c m)
section
variable{W:List Nat}{G:Gm}
theorem OB{ds:List aB}{d:aB}{j:Nat}(hd:dW ds<=3/\d.depth<=3)(hs:eu ds=true/\d.canLay0=true)(hl:ds.length<=16777216)(J:(ds.findIdx? λy=>c6 y d)=some j):iz W bIndex [.list ds,d] (nD j):=zj λst x y bd N O=>by
 obtain⟨l,xs,rfl,n,e,r⟩:=N.l';refine Ok.of (a:=(.int (j:Int),st)) ?_ ⟨.rfl',.int _⟩;show(bF st l).bind _=_;rw[dC e];show(xs.mapM (fc st 3)).bind _=_;rw[r.rd 3 hd.1];show(fc st 3 y).bind _=_;rw[O.rd 3 hd.2];show(if eu ds&&d.canLay0&&decide (dW ds<=50)&&decide (ds.length<=sizeLine)then(ds.findIdx? λy=>c6 y d).map λ(j:Nat)=>(AV.int (j:Int),st)else none)=_;rw[if_pos (by rw[hs.1,hs.2,decide_eq_true (aw hd.1 (by decide)),decide_eq_true (by rw[sizeLine_eq];exact hl)];rfl),J];rfl
end
theorem EH:∀{l:List (List (List Nat))},(∀t∈l,∀x∈t,qn (T x)=true)->eu (l.map λt=>.list (t.map sD))=true
 |[],_=>by rw[fT,eu]
 |a::l,h=>by rw[bX,eu,kx,xf (h a (cj ..)),EH λt m=>h t (cw _ m)];rfl
theorem MY:∀l:List (List (List Nat)),dW (l.map λt=>.list (t.map sD))<=1:=by
 intro l;induction l with
 |nil=>
  rw[fT,dW];decide
 |cons a l J=>
  rw[bX,dW,iF,AH];exact QV.mpr ⟨a7 _,J⟩
theorem Hg(t:List (List Nat)):(fm (t.map sD)).depth =1:=by rw[iF,AH]
theorem GS(a b:List (List Nat)):c6 (.list (a.map sD)) (.list (b.map sD))=(a==b):=by rw[c6,A0]
theorem PA{α β:Type}(f:α->β)(p:β->Bool):∀l:List α,(l.map f).findIdx? p=l.findIdx? (p∘f):=by
 intro l;induction l with
 |nil=>
  exact rfl
 |cons a l J=>
  rw[bX,xP,xP,J];rfl
theorem Eh{α:Type}{p q:α->Bool}:∀{l:List α},(∀a∈l,p a=q a)->l.findIdx? p=l.findIdx? q
 |[],_=>rfl
 |a::l,h=>by rw[xP,xP,h a (cj ..),Eh λx m=>h x (cw _ m)]
theorem Ts(ns:List Int):(cv ns).1<128/\(cv ns).2<128:=by
 have all:∀p∈qJ,p.1<128/\p.2<128:=by decide
 exact all _ (getD_mem (cF _ (by decide)))
theorem RK(ns:List Int):∀r∈eE ns,∀c∈r.core,c<128:=by
 obtain⟨a1,b1⟩:=Ts ns;unfold eE;generalize cv ns=p at a1 b1;obtain⟨a,b⟩:=p;have a1:a<128:=a1;have b1:b<128:=b1;have cons:∀{x:Nat}{l:List Nat},x<128->(∀c∈l,c<128)->∀c∈x::l,c<128:=λh g=>bt.mpr ⟨h,g⟩;have nil:∀c∈([]:List Nat),c<128:=λ_ m=>absurd m a6;have d:(46:Nat)<128:=by decide
 refine wA (P:=λx=>∀c∈x,c<128) (λn=>?_) nil _ _ _ (λc m=>?_) λr m=>absurd m a6
 ·unfold ky
  have all:∀x∈k_ a b,∀c∈x,c<128:=λx m=>by
   unfold k_ at m;simp only[bJ,a6,or_false]at m;rcases m with rfl|rfl|rfl|rfl
   ·exact cons a1 nil
   ·exact cons b1 nil
   ·exact cons a1 (cons b1 nil)
   ·exact cons b1 (cons a1 nil)
  have all2:∀x∈kN b,∀c∈x,c<128:=λx m=>by
   unfold kN at m;simp only[bJ,a6,or_false]at m;rcases m with rfl|rfl|rfl|rfl
   ·exact nil
   ·exact cons d (cons d (cons d nil))
   ·exact cons d (cons d (cons d (cons b1 nil)))
   ·exact cons d (cons d (cons d (cons b1 (cons d (cons d (cons d nil))))))
  exactλc m=>(ei.mp m).elim (all _ (getD_mem (show n%4<4 from cF _ (by decide))) c) (all2 _ (getD_mem (show n/4%4<4 from cF _ (by decide))) c)
 ·replace m:c∈gn a b:=m
  unfold gn at m;simp only[bJ,a6,or_false]at m;rcases m with rfl|rfl|rfl|rfl
  ·exact cons a1 (cons a1 nil)
  ·exact cons a1 (cons b1 nil)
  ·exact cons b1 (cons a1 nil)
  ·exact cons b1 (cons b1 nil)
theorem H0(ns:List Int):∀w∈iM ns,qn (T w)=true:=λw m=>by
 refine aG (dy.mp m) λr hr J=>?_;subst J;refine I_ λc hc=>?_;unfold Rw.word at hc;rcases ei.mp hc with hc|hc
 ·rw[(oV.mp hc).2];decide
 ·exact du (RK ns r hr c hc) (by decide)
theorem x_(ns:List Int){o:List Nat}(h:o∈aZ):∀x∈dw ns o,qn (T x)=true:=λx m=>H0 ns x (name_mem ns (G3 ns h m))
noncomputable def JU:aj->St->Option (Bool×St):=(aS c5 (bl [8] (bC fP (ab (aa 66) (ab (aa 61) ag))) (.names [25,67]) (aS sY (bK (bG [8,9] ly) (ab (aa 8) (ab (aa 25) ag))) (aa 67)) (a_ (aa 25)) 400) (bD ag))
noncomputable def C_:EM:=(sU tm 0 152 44 ("law.<locals>.<lambda>":ae) 14 [8] (bK (bG [8,9] ly) (ab (aa 8) (ab (aa 14) ag))) (cH (aa 9) bb (bY (xk (.int 3))) bb))
noncomputable def C7(Z:Pl):EM:=(bl [53] (bC cR (ab (xk (.int 4)) ag)) (.name 42) bw (a_ (km Z)) 400)
noncomputable def h1:SM:=(λF st=>((bL (aa 64)) F st).bind λp=>cB (.name 65) (ao (λF st=>((bL (ay aX (aa 65) (bD (ab (xk (.str ("":ae))) ag)))) F st).bind λp=>cB (.name 14) (ao pushS aC) 400 p.1 F p.2)
 aC) 400 p.1 F p.2)
noncomputable def h2(Z:Pl):SM:=(λF st=>((bL (aa 64)) F st).bind λp=>cB (.name 42) (ao (bj 9 (C7 Z))
 (ao (λF st=>((bL (ay aX C_ (cH (aa 9) (bY (xk (.int 3))) bb bb))) F st).bind λp=>cB (.name 14) (ao pushS aC) 400 p.1 F p.2)
 aC)) 400 p.1 F p.2)
noncomputable def h3(Z:Pl):SM:=(bj 62 (bl [53] (bL (aa 64)) (.name 42) bw (a_ (C7 Z)) 400))
noncomputable def JX:aj->St->Option (Bool×St):=(aS c5 (bl [64] (bL (aa 62)) (.name 63) (iy (aS mz (cH (aa 63) bb (bY (xk (.int 3))) bb) (aa 64)) (iy (aS c5 (aH (aa 63) (xk (.int 3))) (xk (.str ("":ae)))) (λ_ st=>some (false,st)))) (a_ (aa 63)) 400) (bD ag))
noncomputable def zi:EM:=(bl [64] (bL (aa 62)) (.name 63) bw (a_ (bU ek bIndex (aa 64) (ab (cH (aa 63) bb (bY (xk (.int 3))) bb) ag))) 400)
noncomputable def h5:SM:=(gN (bU ek bAppend (aa 57) (ab zi ag)))
noncomputable def Dw(Z:Pl):SM:=(ao (cn JU (ao (cy (xk (.bool false))) aC) aC) (ao h1 (ao (h2 Z) (ao (h3 Z) (ao (cn JX (ao (cy (xk (.bool false))) aC) aC) (ao h5 aC))))))
theorem Uh(Z:Pl):zm (bq Z.sA) (fx (T Z.X) Z.k)=λF st=>((bC fP (ab (aa 60) (ab (aa 59) ag))) F st).bind λp=>cB (.names [8,61]) (Dw Z) 400 p.1 F p.2:=rfl
section
variable{Z:Pl}{ls:Nat}{sv:List aB}{G:Gm}{r:List Nat}{ln:Nat}(ns:List Int){w:List Nat}
theorem Jt(hw:w∈fY ns){n:List Nat}(J:n∈il ns){W:List Nat}:iz W (bG [8,9] ly) [sD w,sD n] (.bool (jT w n)):=UG (aw (wR ns w (GI ns hw)) (by decide)) (aw (wR ns n (name_mem ns J)) (by decide))
theorem MA(w:List Nat):(cV ns w).map A_=(il ns).map λn=>.bool (jT w n):=by unfold cV;rw[br];rfl
theorem Wz{W:List Nat}(hw:w∈fY ns)(J:G 66=some (.d (.list ((il ns).map sD))))(R:G 8=some (.d (sD w)))(N:G 61=some (.d (sO ns w))):fb W G JU false:=by
 have O:=pn (W:=W) (G:=G) (ks:=[25,67]) (fa:=ab (aa 66) (ab (aa 61) ag)) (aE (az J) (aE (az N) be));rw[MA,wM,br]at O;have hc:=pa (fv:=[8]) (t:=λ_:List Nat=>false) (h:=sD) (ti:=aS sY (bK (bG [8,9] ly) (ab (aa 8) (ab (aa 25) ag))) (aa 67)) (fe:=aa 25) O (by rw[rG];decide) λn S=>⟨_,.two rfl rfl,by
  have:=d6 (W:=W) (G:=((G.only [8]).put 25 (.d (sD n))).put 67 (.d (.bool (jT w n)))) (ia (g:=bG [8,9] ly) (aE (az (k:=8) (show G 8=_ from R)) (aE (az (k:=25) rfl) be)) (Jt ns hw S)) (az (k:=67) rfl) (O8 (jT w n) (jT w n));rwa[beq_self_eq_true]at this,λe=>absurd e (by decide)⟩
 rw[FU.mpr λ_ _=>d_]at hc;exact d6 hc (e6 be (cJ _)) (xV (a:=[]) λ_ m=>absurd m a6)
theorem A7{W:List Nat}{k:Nat}(J:G 64=some (.d (lH ns))):fg W G (.name k) (bL (aa 64)) ((aZ.map λo=>fm ((dw ns o).map sD)).map .one):=iC (az J) rfl
theorem WD(Y:PZ Z ls)(J:G 64=some (.d (lH ns)))(N:G 53=some (.v (.ref Z.lx)))(O:G 65=none)(R:G 14=none):dK (WZ Z ls) G (BI Z ls ⟨[],r,ln⟩ sv) (BI Z ls ⟨(aZ.map (cN ns)).flatten,r,ln⟩ sv) h1 G:=by
 refine qA (as:=(aZ.map λo=>fm ((dw ns o).map sD)).map .one) (λj=>BI Z ls ⟨((aZ.take j).map (cN ns)).flatten,r,ln⟩ sv) (sJ (A7 ns J) lI) (show 6<400 by decide) λj a U=>?_;rw[br,dQ]at U;refine aG (ji.mp U) λo ho S=>?_;subst S;have hm:=j8 ho;have e:((aZ.take (j+1)).map (cN ns)).flatten =((aZ.take j).map (cN ns)).flatten ++cN ns o:=by rw[nR,ho,dR,qa];simp
 refine⟨_,.one,qI (qj (k:=65) (p:=.d (.list ((dw ns o).map sD))) ?_ O)⟩;rw[e];refine El (I:=BI Z ls ⟨((aZ.take j).map (cN ns)).flatten,r,ln⟩ sv) (ws:=cN ns o) Y (by rw[Gm.put,if_neg (by decide)];exact N) (by rw[Gm.put,if_neg (by decide)];exact R) (uI ?_ lI) ?_
 ·have:=aM (W:=WZ Z ls) (G:=G.put 65 (.d (.list ((dw ns o).map sD)))) (az (k:=65) rfl) (e6 (ds:=[sD []]) (aE (dg lX) be) (show 1<=16777216 by decide)) (nY (by rw[aP,jB ns hm];decide))
  unfold cN;rw[dR];exact this
 ·have:=wC ns (aZ.take (j+1)) λx m=>F_ m
  rw[<-e,this,iG]
  have:min (j+1) aZ.length<=6:=jZ ..;exact bQ (ib 4 this) (by decide)
theorem Sm(O:PZ Z ls)(J:G 53=some (.v (.ref Z.lx)))(R:G 42=none){l:List (List Nat)}(hl:l.length=4){q:List (List Nat)}(S:(l++q).length <=10000):dZ (WZ Z ls) (WZ Z ls) G (BI Z ls ⟨l++q,r,ln⟩ sv) (BI Z ls ⟨q,r,ln⟩ sv) (C7 Z) (.list (l.map sD)):=by
 have hi:=oO (W:=WZ Z ls) (G:=G) (k:=42) (fa:=ab (xk (.int 4)) ag) (n:=4) (aE (aW 4) be) (by decide);have N:fg (WZ Z ls) G (.name 42) (bC cR (ab (xk (.int 4)) ag)) (((cE 4).map λj:Nat=>iV (j:Int)).map .one):=by rw[br];exact hi
 exact JB O (xK (Z:=Z) sP J rfl rfl N (by rw[aP,eI,hl]) (by rw[aP,eI];decide) (Af O q r ln l S))
theorem Vx(R:PZ Z ls){I:Ls}(hw:w∈fY ns){o:List Nat}(ho:o∈aZ)(S:G 8=some (.d (sD w)))(U:G 9=some (.d (.list ((cN ns o).map sD)))):dZ (WZ Z ls) (WZ Z ls) G (BI Z ls I sv) (BI Z ls I sv) C_ (.list ((dw ns (c4 (cV ns w) o)).map sD)):=by
 have N:bh (WZ Z ls) G (cH (aa 9) bb (bY (xk (.int 3))) bb) (.list ((dw ns o).map sD)):=by
  have hl:(cN ns o).length =4:=by unfold cN;rw[aT,jB ns ho];rfl
  have:=iT (W:=WZ Z ls) (az U) dO (fS (aW 3)) dO (yI 3 (by rw[aP,hl];decide));rwa[<-wZ,ER ns ho]at this
 have J:=pv o ho;refine sQ (uO ns w) λx y z ec hb=>?_;refine lV (q4 (su o ho)) λa b c e=>?_;subst e
 ·skip
  have Y:=hb a (J a (by simp));have O:=hb b (J b (by simp));have hc:=hb c (J c (by simp));have key:=Gq (W:=WZ Z ls) (G:=G) (kp:=14) (fv:=[8]) (fe:=bK (bG [8,9] ly) (ab (aa 8) (ab (aa 14) ag))) (fa:=cH (aa 9) bb (bY (xk (.int 3))) bb) (mk:=sD) (key:=λn=>.bool (jT w n)) (cmp:=tm) (ln:=152) (co:=44) (bs:=dw ns [a,b,c]) (lt:=ltB [cf (cV ns w) a,cf (cV ns w) b,cf (cV ns w) c]) (is:=eF (cf [cf (cV ns w) a,cf (cV ns w) b,cf (cV ns w) c]) [0,1,2]) (I:=BI Z ls I sv) (by simp) lI (λ_ _ k t i=>Vr R i k t) (λ_ i=>i.ti) (.inl N)
   (λn hn=>ia (aE (az (show G 8=_ from S)) (aE (az rfl) be)) (Jt ns hw (G3 ns ho hn))) (by rw[jB ns ho];decide) (λst kvs rv=>RU (by
    rw[Y,O,hc];exact rv)) (by rw[jB ns ho];exact Xy _ _ _) (λi m=>by rw[jB ns ho];exact Wb (by decide) i m)
  have e:=XW (cf (cV ns w)) a b c (λp=>sD (mO ns p)) (iV 0);have e2:(dw ns (c4 (cV ns w) [a,b,c])).map sD=(eF (cf (cV ns w)) [a,b,c]).map λp=>sD (mO ns p):=by rw[Tw,br];rfl
  rw[e2,<-e];exact key
theorem Xa(U:PZ Z ls)(hw:w∈fY ns)(Y:G 64=some (.d (lH ns)))(R:G 53=some (.v (.ref Z.lx)))(h8:G 8=some (.d (sD w)))(Z4:G 42=none)(n9:G 9=none)(Z5:G 14=none):
 dK (WZ Z ls) G (BI Z ls ⟨(aZ.map (cN ns)).flatten,r,ln⟩ sv) (BI Z ls ⟨(aZ.map λo=>cN ns (c4 (cV ns w) o)).flatten,r,ln⟩ sv) (h2 Z) G:=by
 have J:=ml ns w;have h0:BI Z ls ⟨(aZ.map (cN ns)).flatten,r,ln⟩ sv=BI Z ls ⟨((aZ.drop 0).map (cN ns)).flatten ++(((aZ.take 0).map λo=>c4 (cV ns w) o).map (cN ns)).flatten,r,ln⟩ sv:=by
  rw[Gr,fT,fT,List.flatten_nil,gj,Bg]
 have h6:BI Z ls ⟨(aZ.map λo=>cN ns (c4 (cV ns w) o)).flatten,r,ln⟩ sv=BI Z ls ⟨((aZ.drop 6).map (cN ns)).flatten ++(((aZ.take 6).map λo=>c4 (cV ns w) o).map (cN ns)).flatten,r,ln⟩ sv:=by
  rw[br];rfl
 rw[h0,h6];refine qA (as:=(aZ.map λo=>fm ((dw ns o).map sD)).map .one) (λj=>BI Z ls ⟨((aZ.drop j).map (cN ns)).flatten ++(((aZ.take j).map λo=>c4 (cV ns w) o).map (cN ns)).flatten,r,ln⟩ sv) (sJ (A7 ns Y) lI) (show 6<400 by decide) λj a ha=>?_;rw[br,dQ]at ha;refine aG (ji.mp ha) λo ho N=>?_;subst N;have hm:=j8 ho;have hj:j<6:=(fX.mp ho).1;have e0:aZ.drop j=o::aZ.drop (j+1):=by
  refine bO (fX.mp ho) λZ6 e=>?_;rw[Av Z6,e]
 have e1:(((aZ.take (j+1)).map λo=>c4 (cV ns w) o).map (cN ns)).flatten =(((aZ.take j).map λo=>c4 (cV ns w) o).map (cN ns)).flatten ++cN ns (c4 (cV ns w) o):=by rw[nR,ho,dR,dR,qa];simp
 have l1:=wC ns (aZ.drop (j+1)) λx m=>AI m;have l2:=wC ns ((aZ.take (j+1)).map λo=>c4 (cV ns w) o) λx m=>by
  refine aG (dy.mp m) λy hy N=>?_;subst N;exact J y (F_ hy)
 rw[aP,iG]at l2;rw[ez]at l1;rw[e1]at l2 ⊢;rw[e0,bX,gG,dn];have l6:aZ.length=6:=rfl;rw[l6]at l1 l2;generalize ((aZ.drop (j+1)).map (cN ns)).flatten =D at l1 ⊢;generalize (((aZ.take j).map λo=>c4 (cV ns w) o).map (cN ns)).flatten =P at l2 ⊢;rw[aT]at l2;have O:(cN ns o).length =4:=by unfold cN;rw[aT,jB ns hm];rfl
 have Z7:(cN ns (c4 (cV ns w) o)).length =4:=by unfold cN;rw[aT,jB ns (J o hm)];rfl
 let G1:=G.put 42 (.d (.list ((dw ns o).map sD)));refine⟨G1,.one,qj (k:=42) (p:=.d (.list ((dw ns o).map sD))) (G:=G) ?_ Z4⟩;have hg:∀(G':Gm),G' 53=some (.v (.ref Z.lx))->dZ (WZ Z ls) (WZ Z ls) G' (BI Z ls ⟨cN ns o++(D++P),r,ln⟩ sv) (BI Z ls ⟨D++P,r,ln⟩ sv) (bl [53] (bC cR (ab (xk (.int 4)) ag)) (.name 42) bw (a_ (km Z)) 400) (.list ((cN ns o).map sD)):=λG' h=>by
  have hi:=oO (W:=WZ Z ls) (G:=G') (k:=42) (fa:=ab (xk (.int 4)) ag) (n:=4) (aE (aW 4) be) (by decide);have Z8:fg (WZ Z ls) G' (.name 42) (bC cR (ab (xk (.int 4)) ag)) (((cE 4).map λj:Nat=>iV (j:Int)).map .one):=by rw[br];exact hi
  exact JB U (xK (Z:=Z) sP h rfl rfl Z8 (by rw[aP,eI,O]) (by rw[aP,eI];decide) (Af U (D++P) r ln (cN ns o) (by rw[aT,aT,O];exact dx (a7 4) (fU (aw (bS l1) (ib 4 (iU ..))) (aw (c8 ..) (aw (bS l2) (ib 4 (jZ ..))))) (by decide))))
 refine pg (z5 (k:=9) (hg G1 R)) (qI ?_);refine qj (k:=9) (p:=.d (.list ((cN ns o).map sD))) ?_ (show(if 9=42 then _ else G 9)=none from n9);have S:=El (G:=G1.put 9 (.d (.list ((cN ns o).map sD)))) (I:=BI Z ls ⟨D++P,r,ln⟩ sv) (f:=ay aX C_ (cH (aa 9) (bY (xk (.int 3))) bb bb)) (ws:=cN ns (c4 (cV ns w) o)) (q:=D++P) (r:=r) (ln:=ln) (sv:=sv) U R Z5 ?_ (by rw[aT,aT,Z7];exact bQ (iS (fU (aw (bS l1) (ib 4 (iU ..))) (aw (c8 ..) (aw (bS l2) (ib 4 (jZ ..))))) 4) (by decide))
 ·rw[dn]at S
  exact S
 ·have Z9:bh (WZ Z ls) (G1.put 9 (.d (.list ((cN ns o).map sD)))) (cH (aa 9) (bY (xk (.int 3))) bb bb) (.list ([[]].map sD)):=by
   have:=iT (W:=WZ Z ls) (G:=G1.put 9 (.d (.list ((cN ns o).map sD)))) (az (k:=9) rfl) (fS (aW 3)) dO dO (qC 3 (by rw[aP,O];decide));rwa[<-sh,MT ns hm]at this
  have:=yo (V:=WZ Z ls) (λ_ m=>m) lI (Vx ns (G:=G1.put 9 (.d (.list ((cN ns o).map sD)))) (I:=⟨D++P,r,ln⟩) (sv:=sv) U hw hm h8 rfl) (uI Z9 lI) (nY (by rw[aP,jB ns (J o hm)];decide));rw[<-dR]at this;exact this
end
noncomputable def jO(ns:List Int)(w:List Nat)(o:List Nat):List (List Nat):=cN ns (c4 (cV ns w) o)
noncomputable abbrev nh(ns:List Int)(w:List Nat):aB:=.list (aZ.map λo=>.list ((jO ns w o).map sD))
noncomputable abbrev mE(ns:List Int)(w:List Nat):aB:=.list ((kT (cV ns w)).map nD)
theorem Rh:∀o∈aZ,aZ.findIdx? (·==o)=some (zu o):=by decide
section
variable{Z:Pl}{ls:Nat}{sv:List aB}{G:Gm}{r:List Nat}{ln:Nat}(ns:List Int){w:List Nat}
theorem Bz{o:List Nat}(h:o∈aZ):(jO ns w o).length =4:=by
 unfold jO cN;rw[aT,jB ns (ml ns w o h)];rfl
theorem WJ(S:PZ Z ls)(N:G 64=some (.d (lH ns)))(O:G 53=some (.v (.ref Z.lx))):dK (WZ Z ls) G (BI Z ls ⟨(aZ.map (jO ns w)).flatten,r,ln⟩ sv) (BI Z ls ⟨[],r,ln⟩ sv) (h3 Z) (G.put 62 (.d (nh ns w))):=by
 refine z5 ?_;refine HA (W:=WZ Z ls) (as:=aZ.map λo=>fm ((dw ns o).map sD)) (λj=>BI Z ls ⟨((aZ.drop j).map (jO ns w)).flatten,r,ln⟩ sv) (λj=>.list ((jO ns w (aZ.getD j [])).map sD)) (A7 ns N) (show 6<400 by decide) rfl lI lI λj J=>?_;have J:j<aZ.length:=by rw[aP]at J;exact J
 have ho:aZ.getD j []=aZ[j]:=by rw[jg,kF J];rfl
 rw[Av J,bX,gG,ho];have hm:=Bj J;have l1:=wC ns ((aZ.drop (j+1)).map (c4 (cV ns w))) λx m=>by
  refine aG (dy.mp m) λy U R=>?_;subst R;exact ml ns w y (AI U)
 rw[br,aP,ez]at l1;refine Sm (G:=G.only [53]) S (show G 53=_ from O) rfl (Bz ns hm) ?_;rw[aT,Bz ns hm];have Y:aZ.length=6:=rfl;have l2:((aZ.drop (j+1)).map (jO ns w)).flatten.length =4*(aZ.length -(j+1)):=l1;rw[l2,Y];exact dx (a7 4) (ib 4 (iU ..)) (by decide)
theorem EU{W:List Nat}{G:Gm}{o:List Nat}(ho:o∈aZ)(h:G 63=some (.d (.list ((jO ns w o).map sD)))):bh W G (cH (aa 63) bb (bY (xk (.int 3))) bb) (.list ((dw ns (c4 (cV ns w) o)).map sD)):=by
 have:=iT (W:=W) (az h) dO (fS (aW 3)) dO (yI 3 (by rw[aP,Bz ns ho];decide));rwa[<-wZ,show(jO ns w o).take 3=dw ns (c4 (cV ns w) o)from ER ns (ml ns w o ho)]at this
theorem Gi{W:List Nat}(J:G 62=some (.d (nh ns w))):fg W G (.name 63) (bL (aa 62)) (aZ.map λo=>.one (.list ((jO ns w o).map sD))):=by
 have:=iC (W:=W) (tg:=.name 63) (az J) rfl;rwa[br]at this
theorem wm:eu (aZ.map λo=>fm ((dw ns o).map sD))=true/\dW (aZ.map λo=>fm ((dw ns o).map sD))<=1:=by
 have e:(aZ.map λo=>fm ((dw ns o).map sD))=(aZ.map (dw ns)).map λt=>.list (t.map sD):=by rw[br];rfl
 rw[e];exact⟨EH λt m=>by
  refine aG (dy.mp m) λo ho J=>?_;subst J;exact x_ ns ho,MY _⟩
theorem Ed{o:List Nat}(h:o∈aZ):(fm ((dw ns o).map sD)).canLay0 =true:=by rw[kx,xf (x_ ns h)]
theorem Ws{W:List Nat}(J:G 64=some (.d (lH ns)))(N:G 62=some (.d (nh ns w))):fb W G JX false:=by
 have hc:=pa (W:=W) (G:=G) (fv:=[64]) (t:=λ_:List Nat=>false) (h:=λo=>.list ((jO ns w o).map sD)) (ti:=(iy (aS mz (cH (aa 63) bb (bY (xk (.int 3))) bb) (aa 64)) (iy (aS c5 (aH (aa 63) (xk (.int 3))) (xk (.str ("":ae)))) (λ_ st=>some (false,st))))) (fe:=aa 63) (Gi ns N) (show 6<400 by decide) λo ho=>⟨_,.one rfl,by
  have h1:=d6 (W:=W) (G:=(G.only [64]).put 63 (.d (.list ((jO ns w o).map sD)))) (EU ns ho rfl) (az (k:=64) (show G 64=_ from J)) (L7 ⟨by rw[Hg];decide,aw (wm ns).2 (by decide)⟩ ⟨(wm ns).1,Ed ns (ml ns w o ho)⟩);have a1:((aZ.map λo=>fm ((dw ns o).map sD)).any λy=>c6 y (.list ((dw ns (c4 (cV ns w) o)).map sD)))=true:=by
   rw[NM,List.any_eq_true];exact⟨_,ml ns w o ho,by rw[Rd,GS,beq_self_eq_true]⟩
  rw[a1]at h1;have O:((jO ns w o).map sD)[3]?=some (sD []):=by
   unfold jO cN;rw[dQ,j5 (by rw[jB ns (ml ns w o ho)];decide),jB ns (ml ns w o ho)];rfl
  have h2:=d6 (W:=W) (G:=(G.only [64]).put 63 (.d (.list ((jO ns w o).map sD)))) (aM (az (k:=63) rfl) (aW 3) (eh 3 O (by decide))) (dg lX) (Cv [] []);exact sT h1 λ_=>sT h2 λ_=>uf,λe=>absurd e (by decide)⟩
 rw[FU.mpr λ_ _=>d_]at hc;exact d6 hc (e6 be (cJ _)) (xV (a:=[]) λ_ m=>absurd m a6)
theorem Vu{W:List Nat}(J:G 64=some (.d (lH ns)))(N:G 62=some (.d (nh ns w))):bh W G zi (mE ns w):=by
 have hc:=fE (W:=W) (G:=G) (fv:=[64]) (h:=λo=>nD (zu (c4 (cV ns w) o))) (fe:=bU ek bIndex (aa 64) (ab (cH (aa 63) bb (bY (xk (.int 3))) bb) ag)) (Gi ns (w:=w) N) (show 6<400 by decide) λo ho=>⟨_,.one rfl,?_⟩
 ·show bh W G zi (.list ((aZ.map λo=>zu (c4 (cV ns w) o)).map nD))
  rw[br];exact hc
 ·refine so (az (k:=64) (show G 64=_ from J)) T_ (aE (EU ns ho rfl) be) (OB ⟨aw (wm ns).2 (by decide),by rw[Hg];decide⟩ ⟨(wm ns).1,Ed ns (ml ns w o ho)⟩ (by rw[aP];decide) ?_)
  rw[PA,<-Rh _ (ml ns w o ho)];refine Eh λo' O=>?_;rw[Rd,GS];refine qi.mpr ⟨λh=>?_,λh=>?_⟩
  ·rw[Hn ns (pv o' O) (pv _ (ml ns w o ho)) (eq_of_beq h)];exact beq_self_eq_true _
  ·rw[eq_of_beq h];exact beq_self_eq_true _
theorem Xn(S:PZ Z ls){s:Ls}(hl:sv.length<=100)(U:G 57=some (.v (.ref ls)))(Y:G 64=some (.d (lH ns)))(Z4:G 62=some (.d (nh ns w))):dK (WZ Z ls) G (BI Z ls s sv) (BI Z ls s (sv++[mE ns w])) h5 G:=λF st g i=>by
 refine aG i.ss λxs hx _=>?_;refine Ok.fK (Ok.bind' ?_);rw[show aa 57 F st=some (.ref ls,st) by rw[bP,g.av U];rfl];show Ok ((ek (.ref ls) st).bind _) _;rw[nF _ _ _ hx];show Ok ((ab zi ag F st).bind _) _;refine Ok.bind' (Ok.bind' ((Vu (W:=WZ Z ls) ns Y Z4 F st g).mono λq hq=>?_));obtain⟨v,st1⟩:=q;have k1:aN [] st st1:=hq.1;have i1:=lI k1 i;refine aG i1.ss λJ N R=>?_;show Ok (bAppend [.ref ls,v] st1) _;rw[r_ J ls v st1 N (by rw[R.len];exact aw hl (by decide))];have O:aN [ls] st1 (st1.set ls (.list (J++[v]))):=lz (cj ..);have kW:aN (WZ Z ls) st1 (st1.set ls (.list (J++[v]))):=O.sub λx m=>by rw[cx.mp m];simp
 have n:∀x∈LV Z,x∉[ls]:=λx m z=>S.l1 (cx.mp z▸m);refine⟨rfl,k1.any.trans kW,(g.cZ k1).keep kW,?_,?_,J++[v],?_,?_⟩
 ·refine jj i1.li λp a L c hb=>?_
  exact⟨p,a,⟨O.cW (λz=>S.lx (cx.mp z)) L.inst,O.cW (n _ (by simp)) L.dict,L.pl.imp λps q=>⟨q.1,O.cW (n _ (by simp)) q.2⟩⟩,c,O.cW (n _ (by simp)) hb⟩
 ·exact yf O (λz=>S.l0 (cx.mp z).symm) (λv m=>by rw[cx.mp m,N];exactλe=>nomatch e) i1.ti
 ·rw[get_set,if_pos rfl,if_pos (gq N)]
 ·exact aQ.keep kW (R.app (.cons hq.2 .nil))
theorem Ww(U:PZ Z ls)(hw:w∈fY ns)(hl:sv.length<=100)(Y:G 66=some (.d (.list ((il ns).map sD))))(Z4:G 57=some (.v (.ref ls)))(J:G 64=some (.d (lH ns)))(N:G 53=some (.v (.ref Z.lx)))(h8:G 8=some (.d (sD w)))(Z5:G 61=some (.d (sO ns w)))(Z6:G 65=none)(O:G 14=none)(Z7:G 42=none)(n9:G 9=none)(Z8:G 62=none):
 dK (WZ Z ls) G (BI Z ls ⟨[],r,ln⟩ sv) (BI Z ls ⟨[],r,ln⟩ (sv++[mE ns w])) (Dw Z) G:=by
 refine pg (Aw (Wz ns hw Y h8 Z5) lI) (pg (WD ns U J N Z6 O) (pg (Xa ns U hw J N h8 Z7 n9 O) (pg (WJ ns (w:=w) U J N) ?_)));have R:(G.put 62 (.d (nh ns w))) 64=some (.d (lH ns)):=by rw[Gm.put,if_neg (by decide)];exact J
 have Z9:(G.put 62 (.d (nh ns w))) 57=some (.v (.ref ls)):=by rw[Gm.put,if_neg (by decide)];exact Z4
 have S:(G.put 62 (.d (nh ns w))) 62=some (.d (nh ns w)):=by rw[Gm.put,if_pos rfl]
 exact qj (k:=62) (p:=.d (nh ns w)) (pg (Aw (Ws ns R S) lI) (qI (Xn ns U hl Z9 R S))) Z8
theorem Wv(hp:PZ Z ls)(J:G 60=some (.d (.list ((fY ns).map sD))))(N:G 59=some (.d (uZ ns)))(O:G 66=some (.d (.list ((il ns).map sD))))(R:G 57=some (.v (.ref ls)))(S:G 64=some (.d (lH ns)))(U:G 53=some (.v (.ref Z.lx)))(n8:G 8=none)(Y:G 61=none)(Z4:G 65=none)(Z5:G 14=none)(Z6:G 42=none)(n9:G 9=none)(Z7:G 62=none):
 dK (WZ Z ls) G (BI Z ls ⟨[],r,ln⟩ []) (BI Z ls ⟨[],r,ln⟩ ((fY ns).map (mE ns))) (zm (bq Z.sA) (fx (T Z.X) Z.k)) G:=by
 have hz:=pn (W:=WZ Z ls) (G:=G) (ks:=[8,61]) (fa:=ab (aa 60) (ab (aa 59) ag)) (aE (az J) (aE (az N) be));rw[wM,br]at hz;rw[Uh];have key:=qA (W:=WZ Z ls) (G:=G) (b:=Dw Z) (λj=>BI Z ls ⟨[],r,ln⟩ (((fY ns).take j).map (mE ns))) (sJ hz lI) (by rw[aP,wy];decide) λj a ha=>by
  rw[dQ]at ha;refine aG (ji.mp ha) λw hw Z8=>?_;subst Z8;have hm:=j8 hw;refine⟨(G.put 8 (.d (sD w))).put 61 (.d (sO ns w)),.two,?_⟩;have e:((fY ns).take (j+1)).map (mE ns)=((fY ns).take j).map (mE ns)++[mE ns w]:=by rw[nR,hw,dR];rfl
  rw[e];have:=Ww (Z:=Z) (r:=r) (ln:=ln) (sv:=((fY ns).take j).map (mE ns)) (G:=(G.put 8 (.d (sD w))).put 61 (.d (sO ns w))) ns hp hm (by rw[aP,iG,wy];exact aw (jZ ..) (by decide)) O R S U rfl rfl Z4 Z5 Z6 n9 Z7;exact yu this λi q e=>Gm.yg n8 Y e
 rw[aP,uC]at key;exact key
end
theorem Qk:∀l:List Int,eu (l.map .int)=true:=by
 intro l;induction l with
 |nil=>
  rw[fT,eu]
 |cons a l J=>
  rw[bX,eu,kx,J];rfl
theorem Nu:∀l:List Int,dW (l.map .int)=0:=by
 intro l;induction l with
 |nil=>
  rw[fT,dW]
 |cons a l J=>
  rw[bX,dW,iF,J];rfl
theorem oM(l:List Int):jD (.list (l.map .int))=true/\(fm (l.map .int)).depth <=4:=by
 have e:(fm (l.map .int)).depth =1:=by rw[iF,Nu]
 refine⟨?_,by rw[e];decide⟩;unfold jD;rw[kx,Qk l,e];rfl
theorem FD:∀a:List Int,jX (a.map .int) (a.map .int)=true:=by
 intro a;induction a with
 |nil=>
  rw[fT,jX]
 |cons a l J=>
  rw[bX,jX,c6,J,beq_self_eq_true];rfl
section
variable{W:List Nat}
theorem Ig(a:List Int):cO W c5 (.list (a.map .int)) (.list (a.map .int)) (.bool false):=by
 have:=yE (W:=W) (a:=.list (a.map .int)) (b:=.list (a.map .int)) ⟨(oM a).2,(oM a).2⟩ ⟨(oM a).1,(oM a).1⟩ (.inl ⟨_,rfl⟩);rwa[c6,FD]at this
theorem SJ(a:List Int):cO W oEq (.list (a.map .int)) (.list (a.map .int)) (.bool true):=by
 have:=Cy (W:=W) (a:=.list (a.map .int)) (b:=.list (a.map .int)) ⟨(oM a).2,(oM a).2⟩ ⟨(oM a).1,(oM a).1⟩ (.inl ⟨_,rfl⟩);rwa[c6,FD]at this
theorem wx(l:List Nat):l.map nD=(l.map λn:Nat=>(n:Int)).map .int :=by rw[br];rfl
theorem Ib(a:List Nat):cO W c5 (.list (a.map nD)) (.list (a.map nD)) (.bool false):=by rw[wx];exact Ig _
theorem MM:∀o∈aZ,∀p,p<3->iz W uR [.tuple (o.map nD),nD p] (nD (o.findIdx (·==p))):=λo ho p J=>zj λst x y bd R S=>by
 refine fF R.t' λl xs N n e r=>?_;subst N;cases S.i'
 have U:xs=o.map λn:Nat=>AV.int (n:Int):=by
  rw[wx]at r;rw[r.ints,br];rfl
 subst U;refine Ok.of (a:=(.int ((o.findIdx (·==p):Nat):Int),st)) ?_ ⟨.rfl',.int _⟩;show(eo st l).bind _=_;rw[kM e];have all:∀o∈aZ,∃a b c:Nat,o=[a,b,c]/\∀p:Nat,p<3->vY (p:Int) a b c=some (o.findIdx (·==p)):=λo ho=>by
  simp only[aZ,bJ,a6,or_false]at ho;have Y:∀{P:Nat->Prop},P 0->P 1->P 2->∀p,p<3->P p:=λh0 h1 h2 p J=>vv h0 h1 h2 J;rcases ho with rfl|rfl|rfl|rfl|rfl|rfl<;>exact⟨_,_,_,rfl,Y rfl rfl rfl⟩
 refine sQ (all o ho) λa b c O hi=>?_;subst O;show(vY (p:Int) a b c).map (λ(j:Nat)=>(AV.int (j:Int),st))=_;rw[hi p J];rfl
end
noncomputable def qN(bs:List Bool)(k:Nat):Nat:=(kT bs).getD k 0
theorem Mv:∀x0 J z0 x1 N O R S U:Bool,∀k:Fin 6,aZ[qN [R,S,U] (qN [x1,N,O] (qN [x0,J,z0] k.val))]?=some (c4 [R,S,U] (c4 [x1,N,O] (c4 [x0,J,z0] (aZ.getD k.val [])))):=by decide+kernel
theorem nV:∀x y z:Bool,∀k:Fin 6,(kT [x,y,z])[k.val]?=some (qN [x,y,z] k.val)/\qN [x,y,z] k.val<6:=by decide+kernel
theorem S_:∀x0 J z0 x1 N O R S U:Bool,∀o∈aZ,(eF (cf (o.map (cf [R,S,U]))) (eF (cf (o.map (cf [x1,N,O]))) (eF (cf (o.map (cf [x0,J,z0]))) [0,1,2]))).map (λi=>o.getD i 0)=c4 [R,S,U] (c4 [x1,N,O] (c4 [x0,J,z0] o)):=by decide+kernel
theorem IF:∀x0 J z0 x1 N O R S U:Bool,∀i∈eF (cf [R,S,U]) (eF (cf [x1,N,O]) (eF (cf [x0,J,z0]) [0,1,2])),i<3:=by decide+kernel
noncomputable def kK(ns:List Int):List (List Bool):=(fY ns).map (cV ns)
noncomputable abbrev l9(cs:List (List Bool)):aB:=.list (cs.map λc=>.list (c.map .bool))
noncomputable abbrev mP(cs:List (List Bool)):aB:=.list (cs.map λc=>.list ((kT c).map nD))
theorem OL(ns:List Int):uZ ns=l9 (kK ns):=by unfold kK;rw[l9,br];rfl
theorem QB(ns:List Int):fm ((fY ns).map (mE ns))=mP (kK ns):=by unfold kK;rw[mP,br];rfl
noncomputable abbrev C9:=Bool×Bool×Bool
noncomputable def cL(c:C9):List Bool:=[c.1,c.2.1,c.2.2]
theorem HM(ns:List Int):∃a b c:C9,kK ns=[cL a,cL b,cL c]:=by
 have h:=wy ns;unfold kK;refine lV (q4 h) λu v w e=>?_;rw[e]
 ·refine sQ (uO ns u) λx0 J z0 N _=>?_
  refine sQ (uO ns v) λx1 O R S _=>?_;refine sQ (uO ns w) λU Y z2 e2 _=>?_;exact⟨(x0,J,z0),(x1,O,R),(U,Y,z2),by rw[bX,bX,bX,N,S,e2];rfl⟩
theorem I8(c:C9){p:Nat}(J:p<3):((cL c).map A_)[p]?=some (.bool (cf (cL c) p)):=vv (P:=λp=>((cL c).map A_)[p]?=some (.bool (cf (cL c) p))) rfl rfl rfl J
noncomputable def JO:EM:=(sU tA 0 159 32 ("law.<locals>.<lambda>":ae) 26 [59,56] (dc (ab (aH (aH (aa 59) (xk (.int 2))) (aa 26)) (ab (aH (aH (aa 59) (xk (.int 1))) (aa 26)) (ab (aH (aH (aa 59) (xk (.int 0))) (aa 26)) (ab (bU vy uR (aa 56) (ab (aa 26) ag)) ag))))) (aa 56))
noncomputable def JQ:EM:=(bK yl (ab (aH (aa 55) (aH (aH (aa 57) (xk (.int 2))) (aH (aH (aa 57) (xk (.int 1))) (aH (aH (aa 57) (xk (.int 0))) (aa 24))))) ag))
noncomputable def JY:SM:=(ao (bj 58 JO) (ao (cn (aS c5 JQ (aa 58)) (ao (cy (xk (.bool false))) aC) aC) aC))
theorem Wd:zF=λF st=>((bC lW (ab (aa 55) ag)) F st).bind λp=>cB (.names [24,56]) JY 400 p.1 F p.2:=rfl
section
variable{W:List Nat}{G:Gm}{I:St->Prop}{a b c:C9}
theorem Cx{c:C9}{l:List C9}{j p:Nat}{k:Nat}(S:l[j]?=some c)(R:p<3)(J:j<3)(N:G 59=some (.d (l9 (l.map cL))))(O:G 26=some (.d (nD p))):bh W G (aH (aH (aa 59) (xk (.int (j:Nat)))) (aa 26)) (.bool (cf (cL c) p)):=
 aM (aM (az N) (aW j) (eh j (by rw[br,dQ,S];rfl) (du J (by decide)))) (az O) (eh p (I8 c R) (du R (by decide)))
theorem Ue(h0:0∈W)(sI:gQ I)(hI:∀a b,aN [0] a b->TI b->I a->I b)(hT:∀a,I a->TI a){o:List Nat}(ho:o∈aZ)(S:G 59=some (.d (l9 ([a,b,c].map cL))))(O:G 56=some (.d (.tuple (o.map nD)))):
 dZ W W G I I JO (.list ((c4 (cL c) (c4 (cL b) (c4 (cL a) o))).map nD)):=by
 have N:=pv o ho;have U:=su o ho;obtain⟨p,q,r,rfl⟩:=q4 U;have hlen:([p,q,r]:List Nat).length =3:=rfl;have e:=S_ a.1 a.2.1 a.2.2 b.1 b.2.1 b.2.2 c.1 c.2.1 c.2.2 [p,q,r] ho;have key:=Gq (W:=W) (G:=G) (kp:=26) (fv:=[59,56]) (fe:=dc (ab (aH (aH (aa 59) (xk (.int 2))) (aa 26)) (ab (aH (aH (aa 59) (xk (.int 1))) (aa 26)) (ab (aH (aH (aa 59) (xk (.int 0))) (aa 26)) (ab (bU vy uR (aa 56) (ab (aa 26) ag)) ag))))) (fa:=aa 56) (mk:=nD) (key:=λn:Nat=>.tuple [.bool (cf (cL c) n),.bool (cf (cL b) n),.bool (cf (cL a) n),nD ([p,q,r].findIdx (·==n))]) (cmp:=tA) (ln:=159) (co:=32) (bs:=[p,q,r])
  (lt:=Dp [(cf (cL c) p,cf (cL b) p,cf (cL a) p,0),(cf (cL c) q,cf (cL b) q,cf (cL a) q,1),(cf (cL c) r,cf (cL b) r,cf (cL a) r,2)]) (is:=eF (cf ([p,q,r].map (cf (cL c)))) (eF (cf ([p,q,r].map (cf (cL b)))) (eF (cf ([p,q,r].map (cf (cL a)))) [0,1,2]))) (I:=I) h0 sI hI hT (.inr (az O))
  (λn R=>by
   have J:((G.only [59,56]).put 26 (.d (nD n))) 59=some (.d (l9 ([a,b,c].map cL))):=S;exact oh (aE (Cx (k:=0) (l:=[a,b,c]) (j:=2) rfl (N n R) (by decide) J rfl) (aE (Cx (k:=0) (l:=[a,b,c]) (j:=1) rfl (N n R) (by decide) J rfl) (aE (Cx (k:=0) (l:=[a,b,c]) (j:=0) rfl (N n R) (by decide) J rfl) (aE (so (az (show G 56=_ from O)) Wf (aE (az rfl) be) (MM _ ho n (N n R))) be)))) (show 4<=16777216 by decide))
  (show 2<=3/\3<64 by decide) (λst kvs rv=>R8 (W:=W) (st:=st) (by
   have all:∀o∈aZ,o.map (λn=>o.findIdx (·==n))=[0,1,2]:=by decide
   have Y:=all _ ho;have e0:[p,q,r].findIdx (·==p)=0:=(nM Y).1;have e1:[p,q,r].findIdx (·==q)=1:=(nM (nM Y).2).1;have e2:[p,q,r].findIdx (·==r)=2:=(nM (nM (nM Y).2).2).1;rw[bX,bX,bX,e0,e1,e2]at rv;exact rv)) (XZ _ _ _ _ _ _ _ _ _) (λi m=>IF _ _ _ _ _ _ _ _ _ i m)
 have e2:(c4 (cL c) (c4 (cL b) (c4 (cL a) [p,q,r]))).map nD=(eF (cf ([p,q,r].map (cf (cL c)))) (eF (cf ([p,q,r].map (cf (cL b)))) (eF (cf ([p,q,r].map (cf (cL a)))) [0,1,2]))).map λi=>([p,q,r].map nD).getD i (.int 0):=by
  refine(congrArg (xD nD) e.symm).trans ?_;rw[br];refine xg λi m=>?_;have hi:i<3:=IF _ _ _ _ _ _ _ _ _ i m;clear m;exact vv rfl rfl rfl hi
 rw[e2];exact key
theorem BK{c:C9}{l:List C9}{j:Nat}{fe:EM}{k:Fin 6}(O:l[j]?=some c)(J:j<3)(N:G 57=some (.d (mP (l.map cL))))(he:bh W G fe (nD k.val)):bh W G (aH (aH (aa 57) (xk (.int (j:Nat)))) fe) (nD (qN (cL c) k.val)):=
 aM (aM (az N) (aW j) (eh j (by rw[br,dQ,O];rfl) (du J (by decide)))) he (eh k.val (by rw[dQ];exact congrArg (lA nD) (nV c.1 c.2.1 c.2.2 k).1) (du k.isLt (by decide)))
theorem UK(h0:0∈W)(U:gQ I)(hI:∀a b,aN [0] a b->TI b->I a->I b)(hT:∀a,I a->TI a)(R:G 55=some (.d oy))(Y:G 59=some (.d (l9 ([a,b,c].map cL))))(N:G 57=some (.d (mP ([a,b,c].map cL))))(Z4:G 24=none)(Z5:G 56=none)(Z6:G 58=none):dK W G I I zF G:=by
 have hi:=xw (W:=W) (G:=G) (ks:=[24,56]) (fa:=ab (aa 55) ag) (aE (az R) be);rw[Wd];refine qA (W:=W) (G:=G) (I:=I) (b:=JY) (λ_=>I) (sJ hi U) (show 6<400 by decide) λj x hx=>?_;rw[dQ,List.getElem?_zipIdx,dQ]at hx;refine aG (ji.mp hx) λy hy J=>?_;subst J;refine aG (ji.mp hy) λz hz J=>?_;subst J;refine aG (ji.mp hz) λo ho J=>?_;subst J;have hm:=j8 ho;have O:j<6:=(fX.mp ho).1;rw[hK];refine⟨(G.put 24 (.d (nD j))).put 56 (.d (.tuple (o.map nD))),.two,?_⟩;have s1:=z5 (k:=58) (Ue (W:=W) (G:=(G.put 24 (.d (nD j))).put 56 (.d (.tuple (o.map nD)))) (a:=a) (b:=b) (c:=c) h0 U hI hT hm Y rfl);have Z7:aZ.getD j []=o:=by rw[jg,ho];rfl
 have S:=Mv a.1 a.2.1 a.2.2 b.1 b.2.1 b.2.2 c.1 c.2.1 c.2.2 ⟨j,O⟩;rw[show aZ.getD (⟨j,O⟩:Fin 6).val []=o from Z7]at S;let G1:=((G.put 24 (.d (nD j))).put 56 (.d (.tuple (o.map nD)))).put 58 (.d (.list ((c4 (cL c) (c4 (cL b) (c4 (cL a) o))).map nD)));have hg:bh W G1 JQ (.list ((c4 (cL c) (c4 (cL b) (c4 (cL a) o))).map nD)):=by
  have k0:=BK (W:=W) (G:=G1) (l:=[a,b,c]) (j:=0) (c:=a) (fe:=aa 24) (k:=⟨j,O⟩) rfl (by decide) N (az rfl);have k1:=BK (W:=W) (G:=G1) (l:=[a,b,c]) (j:=1) (c:=b) (k:=⟨_,(nV a.1 a.2.1 a.2.2 ⟨j,O⟩).2⟩) rfl (by decide) N k0;have k2:=BK (W:=W) (G:=G1) (l:=[a,b,c]) (j:=2) (c:=c) (k:=⟨_,(nV b.1 b.2.1 b.2.2 ⟨_,(nV a.1 a.2.1 a.2.2 ⟨j,O⟩).2⟩).2⟩) rfl (by decide) N k1;have l3:=(nV c.1 c.2.1 c.2.2 ⟨_,(nV b.1 b.2.1 b.2.2 ⟨_,(nV a.1 a.2.1 a.2.2 ⟨j,O⟩).2⟩).2⟩).2;exact ia (aE (aM (az (k:=55) (show G 55=_ from R)) k2 (eh _ (by rw[dQ];exact congrArg (lA _) S) (du l3 (by decide)))) be) (Ot (by
   have e1:=x8 a.1 a.2.1 a.2.2 o hm;have e2:=x8 b.1 b.2.1 b.2.2 _ e1;have e3:=x8 c.1 c.2.1 c.2.2 _ e2;rw[aP];exact aw (bS (su _ e3)) (by decide)))
 have s2:=qI (Aw (I:=I) (G:=G1) (x:=ao (cy (xk (.bool false))) aC) (d6 hg (az (k:=58) rfl) (Ib _)) U);exact yu (pg s1 s2) λi q e=>by
  show G1 i=some q;show(if i=58 then _ else(if i=56 then _ else(if i=24 then _ else G i)))=some q;rw[if_neg (λz=>by rw[z,Z6]at e;cases e),if_neg (λz=>by rw[z,Z5]at e;cases e),if_neg (λz=>by rw[z,Z4]at e;cases e)];exact e
end
theorem Mp(N f:Nat)(h:N<16777216)(hf:f<4)(it l i:Nat)(xs rest:List AV)(st:St)(U:it≠l)(hl:st[l]?=some (.list xs))(hi:st[it]?=some (.c_ l i))(hx:xs.drop i=((dD N f).map λb:Nat=>AV.int b)++rest):
 bG [5] pY [.ref it] st=some (.int N,st.set it (.c_ l (i+(dD N f).length))):=by
 have Z6:it<st.length:=mT hi;rw[sG _ _ _ _ rfl];have Y:more f∈[64,192]:=by
  have:f=0\/f=1\/f=2\/f=3:=by exact yp hf
  rcases this with rfl|rfl|rfl|rfl<;>decide
 have hF:fG 5 [(5,AV.ref it)]=some (.ref it):=rfl;have hb:dD N f=((bZ (f%2) 0++(dig N).reverse).map (more f+·))++[128+N%64]:=by
  unfold dD;simp
 have Z7:=BG N;have Z8:=CB h;have hN:i_ ((bZ (f%2) 0++(dig N).reverse)++[N%64]) 0=N:=by
  have:f%2=0\/f%2=1:=by exact Nat.mod_two_eq_zero_or_one f
  rcases this with e|e
  ·rw[e];simpa using GV N h
  ·rw[e]
   have:=GV N h;simpa[i_]using this
 have Z4:∀d∈bZ (f%2) 0++(dig N).reverse,d<64:=by
  intro d hd;rcases ei.mp hd with hd|hd
  ·have:=(oV.mp hd).2;exact bQ (bS this) (by decide)
  ·exact Z8 d (Bp.mp hd)
 have Z9:(bZ (f%2) 0++(dig N).reverse).length <=4:=by rw[aT,jC,wO];exact dx (fV (cF f (by decide))) Z7 (by decide)
 generalize bZ (f%2) 0++(dig N).reverse =ds at*;rw[hb]at hx ⊢;generalize Z_:N%64=O at*;have J:O<64:=by exact Z_▸cF _ (by decide)
 cases ds with
 |nil=>
  have R:xs[i]?=some (.int ((128+O:Nat):Int)):=by rw[<-lD,hx];rfl
  have hn:=yw st it l i _ (.int ((128+O:Nat):Int)) hl hi R;have S:O=N:=by simpa[i_]using hN
  simp(implicitDefEqProofs:=false)only[pY,cM,gF,j4,eN,bP,dI,ku,mU,hF,bz,bo,hn,cX,d7,cT,pB,vz 128 (by decide) O J];rw[wW];simp(implicitDefEqProofs:=false)only[lM,d7,bP,cT,bW _ 6 _ 7 (by decide),cX,bz,bo,pB,II O J,xC];rw[if_neg (by decide)];simp[cM,cX,S]
 |cons e es=>
  have he:e<64:=Z4 e (cj ..);have R:xs[i]?=some (.int ((more f+e:Nat):Int)):=by rw[<-lD,hx];rfl
  have hn:=yw st it l i _ (.int ((more f+e:Nat):Int)) hl hi R;have Z5:gY ((more f+e:Nat):Int) 63=(e:Nat):=vz (more f) (by exact(By [128] Y:more f∈[64,192]++[128])) e he;obtain⟨F',h1,h2⟩:=Rf (more f) Y it l xs rest O J es 400 (i+1) e e (aj.put (aj.put [(5,AV.ref it)] 7 (.int ((more f+e:Nat):Int))) 6 (.int (e:Nat))) (st.set it (.c_ l (i+1))) (by exact bQ Z9 (by decide))
   (by have:=hN;simp only[eM,i_,mY,OD,hK]at this;unfold i_;rw[this];exact cq h) he (λd hd=>Z4 d (cw _ hd)) U
   (by rw[get_set,if_neg (λe=>U e.symm)];exact hl) (by rw[get_set,if_pos rfl,if_pos Z6]) (by rw[<-me,hx];simp)
   (by rw[bW _ _ _ _ (by decide),bW _ _ _ _ (by decide)];rfl)
   (by rw[bW _ _ _ _ (by decide),cX]) (by rw[cX])
  have S:i_ (es++[O]) e=N:=by
   have:=hN;simp only[eM,i_,mY,OD,hK]at this;unfold i_;exact this
  simp(implicitDefEqProofs:=false)only[pY,cM,gF,j4,eN,bP,dI,ku,mU,hF,bz,bo,hn,cX,d7,cT,pB,Z5,h1,AW,jJ,h2,S];rw[show i+1+es.length+1=i+((e::es).map (more f+·)++[128+O]).length by rw[aT,aP];exact congrArg sH (hH i 1 es.length)]
noncomputable def LT(Z:Pl)(s:Ls)(st:St):Prop:=LI Z s st/\TI st
theorem jL{Z:Pl}{s:Ls}:gQ (LT Z s):=λk h=>⟨yj Z s k h.1,IZ k h.2⟩
theorem Iw{Z:Pl}{s:Ls}{st:St}(h:LI Z s st):∀v∈LV Z,st[v]?≠some (.code QL):=λv m=>by
 refine jj h λp _ L _ hb=>?_;refine aG L.pl λps _ hk=>?_;simp only[bJ,a6,or_false]at m;rcases m with rfl|rfl|rfl
 ·rw[hk];exactλe=>nomatch e
 ·rw[L.dict];exactλe=>nomatch e
 ·rw[hb];exactλe=>nomatch e
structure oH(Z:Pl)(W:List Nat):Prop where
 z0:0∉LV Z
 x0:Z.lx≠0
 xp:Z.pb≠Z.lx
 xl:Z.X.length<=10000
 sub:∀x∈LV Z,x∈W
section
variable{W:List Nat}{G:Gm}{Z:Pl}{s s':Ls}{I I1:St->Prop}
theorem CP{f:EM}{d:aB}(N:oH Z W)(h:dZ W (LV Z) G (LI Z s) (LI Z s') f d):dZ W W G (LT Z s) (LT Z s') f d:=λF st g i=>(h F st g i.1).mono λq J=>⟨J.1.sub N.sub,J.2.1,J.2.2,yf J.1 N.z0 (Iw i.1) i.2⟩
theorem VK(J:oH Z W){a b:St}(k:aN [0] a b)(t:TI b)(h:LT Z s a):LT Z s b:=by
 refine jj h.1 λp c L d hb=>?_;have n:∀x∈LV Z,x∉[0]:=λx m z=>J.z0 (cx.mp z▸m);exact⟨⟨p,c,⟨k.cW (λz=>J.x0 (cx.mp z)) L.inst,k.cW (n _ (by simp)) L.dict,L.pl.imp λps q=>⟨q.1,k.cW (n _ (by simp)) q.2⟩⟩,d,k.cW (n _ (by simp)) hb⟩,t⟩
theorem MW(J:G 53=some (.v (.ref Z.lx))):dZ W W G (LT Z s) (LT Z s) (jn 69 32 (aa 53)) (nD s.ln):=λF st g i=>by
 refine dh i.1 λp _ L _=>?_;refine Ok.of (a:=(.int (s.ln:Int),st)) ?_ ⟨.rfl',.int _,i⟩;have N:handed (.int (s.ln:Int))=true:=rfl;simp only[sj,bP,g.av J,bz,bo,IX L,N,and_self,if_true]
theorem Nx{f:EM}{d:aB}(s1:gQ I1)(hf:dZ W W G I I1 f d):dZ W W G I I1 (bD (ab f ag)) (.list [d]):=λF st g i=>by
 refine Ok.bind' (Ok.bind' ((hf F st g i).mono λq J=>Ok.fK (Ok.of (show ag F q.2=some ([],q.2)from rfl) ?_)));show Ok (if[q.1].length <=sizeLine then some (AV.ref q.2.length,q.2++[.list [q.1]])else none) _;rw[if_pos (by rw[sizeLine_eq];show 1<=_;decide)];exact⟨J.1.trans (.app _),j6 (g.bd.keep J.1) (.cons J.2.1 .nil),s1 (.app _) J.2.2⟩
theorem QX{fv:List Nat}{fi}{tg:b7}{β:Type}{bs:List β}{mk:β->Ai}{h:β->aB}{fe:EM}(s1:gQ I1)(hi:vM W G I I1 tg fi (bs.map mk))(hl:bs.length<400)(hb:∀b∈bs,∃G',gT tg (mk b) (G.only fv) G'/\bh W G' fe (h b)):dZ W W G I I1 (bl fv fi tg bw (a_ fe) 400) (.list (bs.map h)):=λF st O i=>
 Ok.bind' ((hi F st O i).mono λp J=>Ok.fK ((yP (m:=1) (t:=λ_=>true) (φ:=λb ad=>ad++[h b]) (λb m=>(hb b m).imp λG' q=>⟨q.1,BR,λ_=>CA q.2⟩) hl J.2.1 ((O.keep J.1).only fv) .nil (by rw[nL,hK,AR];exact cq (du hl (by decide)))).mono λq N=>
  ⟨(J.1.trans N.1.any).trans (.app _),j6 N.2.2.1.bd (by
   have:=N.2.1;rw[z6,ef,Qc.mpr λ_ _=>rfl]at this;exact this),s1 (.app _) (s1 N.1 J.2.2)⟩))
theorem Q3{k:Nat}{f:EM}{x:List Nat}(hf:dZ W W G I I1 f (.str (T x))):vM W G I I1 (.name k) (bL f) (x.map λc=>.one (.str (T [c]))):=λF st N i=>Ok.bind' ((hf F st N i).mono λp J=>by
 obtain⟨v,st⟩:=p;cases(show RV W st v (.str (T x))from J.2.1).s'
 exact Ok.fK (Ok.of (show nu (.str (T x)) st=some (.str (T x) 0)from rfl) ⟨J.1,I5 rfl,J.2.2⟩))
end
theorem SI{W:List Nat}{l:List aB}(h:∀d∈l,d.canLay0=true/\d.depth=0/\c6 d d=true):cO W c5 (.list l) (.list l) (.bool false):=by
 have h1:∀{l:List aB},(∀d∈l,d.canLay0=true/\d.depth=0/\c6 d d=true)->eu l=true/\dW l=0/\jX l l=true:=by
  intro l;induction l with
  |nil=>intro _;exact⟨by rw[eu],by rw[dW],by rw[jX]⟩
  |cons d l J=>
   intro h;refine de (h d (cj ..)) λa b c=>?_;refine de (J λx m=>h x (cw _ m)) λN b' c'=>?_;exact⟨by rw[eu,a,N];rfl,by rw[dW,b,b'];rfl,by rw[jX,c,c'];rfl⟩
 refine de (h1 h) λa b c=>?_;have e:(fm l).depth =1:=by rw[iF,b]
 have s:jD (.list l)=true:=by
  unfold jD;rw[kx,a,e];rfl
 have:=yE (W:=W) (a:=.list l) (b:=.list l) ⟨by rw[e];decide,by rw[e];decide⟩ ⟨s,s⟩ (.inl ⟨_,rfl⟩);rwa[c6,c]at this
theorem Cn{x:List Nat}(h:∀c∈x,c<1114112):(sD x).canLay0 =true/\(sD x).depth =0/\c6 (sD x) (sD x)=true:=⟨by rw[kx];exact I_ h,by rw[iF],by rw[c6,beq_self_eq_true]⟩
theorem UC(n:Nat):(nD n).canLay0 =true/\(nD n).depth =0/\c6 (nD n) (nD n)=true:=⟨by rw[kx],by rw[iF],by rw[c6,beq_self_eq_true]⟩
noncomputable def Xt(Z:Pl):EM:=(bl [53] (bC cR (ab (xk (.int 3)) ag)) (.name 42) bw (a_ (km Z)) 400)
theorem U7(Z:Pl):zD (bq Z.sA) (fx (T Z.X) Z.k)=(cn (aS c5 (ay aX (Xt Z) (bD (ab (jn 69 32 (aa 53)) ag))) (bD (ab (ay cU (xk (.str (".":ae))) (ay aX (xk (.int 1)) (aa 41))) (ab (xk (.str ("":ae))) (ab (xk (.str ("z":ae))) (ab (xk (.int 8)) ag)))))) (ao (cy (xk (.bool false))) aC) aC):=rfl
theorem Vi{W:List Nat}{G:Gm}{Z:Pl}{s1:Ls}{os:List Nat}{n:Nat}(S:oH Z W)(U:n<=10)(J:G 53=some (.v (.ref Z.lx)))(N:G 41=some (.d (nD n)))(ht:mK Z s1 [bZ (1+n) 46,[],[122]] ⟨[],os,8⟩):dK W G (LT Z s1) (LT Z ⟨[],os,8⟩) (zD (bq Z.sA) (fx (T Z.X) Z.k)) G:=by
 rw[U7];have hi:=oO (W:=W) (G:=G) (k:=42) (fa:=ab (xk (.int 3)) ag) (n:=3) (aE (aW 3) be) (by decide);have O:fg W G (.name 42) (bC cR (ab (xk (.int 3)) ag)) (((cE 3).map λj:Nat=>iV (j:Int)).map .one):=by rw[br];exact hi
 have g3:=CP S (xK (Z:=Z) (fv:=[53]) S.sub J rfl rfl O (by rw[aP,eI];rfl) (by rw[aP,eI];decide) ht);have Y:=Nx (jL (Z:=Z) (s:=⟨[],os,8⟩)) (MW (W:=W) (G:=G) (Z:=Z) (s:=⟨[],os,8⟩) J);have ga:=yo (V:=W) (λ_ m=>m) jL g3 Y (nY (W:=W) (show 3+1<=16777216 by decide));refine Eu (b:=.list [sD (bZ (1+n) 46),sD [],sD [122],nD 8]) jL ga (uI (e6 (aE (aM (dg (show dz "."=T [46] by decide+kernel)) (aM (aW 1) (az N) (mo _ _)) (Cd 46 (1+n) (by exact aw (fW U _) (by decide)))) (aE (dg lX) (aE (dg (show dz "z"=T [122] by decide+kernel)) (aE (aW 8) be)))) (show 4<=16777216 by decide)) jL) (SI ?_);have R:∀c∈bZ (1+n) 46,c<1114112:=λc m=>by rw[(oV.mp m).2];decide
 exact bt.mpr ⟨Cn R,bt.mpr ⟨Cn (by decide),bt.mpr ⟨Cn (by decide),bt.mpr ⟨UC 8,λ_ m=>absurd m a6⟩⟩⟩⟩
theorem Mn{Z:Pl}{st st':St}(h:iP Z st st'):aN (LV Z) st st':=⟨bS h.1.symm,λl _ n=>h.2 l (λz=>n (by rw[z];simp)) (λz=>n (by rw[z];simp))⟩
theorem Lj{st:St}{l:Nat}{xs:List AV}(h:st[l]?=some (.list xs)):qS [.ref l] st=some (.ref st.length,st++[.c_ l 0]):=by
 show((bF st l).map _).or _=_;rw[dC h];rfl
noncomputable abbrev lS(os:List Nat):List AV:=os.map λb:Nat=>AV.int (b:Int)
section
variable{W:List Nat}{G:Gm}{Z:Pl}{os:List Nat}{ln:Nat}
theorem S7(J:oH Z W)(ho:os.length<=90)(N:os≠[])(h3:G 3=some (.v (.val (.ref Z.sA)))):dZ W W G (LT Z ⟨[],os,ln⟩) (LT Z ⟨[],[],ln⟩) (bU (bq Z.sA) (fx (T Z.X) Z.k) (aa 3) (ab (xk (.int 99)) ag)) (sD os):=
 CP J λF st g i=>by
  refine jj i λp a L c hb=>?_;have c:Z.X.drop p=os:=c;refine bO (Jx (n:=99) L (by exact jY a) J.xl) λst1 hr=>?_;refine de (hr.resolve_right (by decide)) λO Y U=>?_;rw[c,kv (by exact jY ho)]at O;have R:bq Z.sA (.val (.ref Z.sA)) st=some []:=by unfold bq;simp
  have S:p<Z.X.length:=by
   by_cases q:p<Z.X.length
   ·exact q
   ·exact absurd (by rw[<-c,mj (fC q)]) N
  have hx:=J.xl;refine Ok.of (a:=(.str (T os),st1)) ?_ ⟨Mn U,.str _,p+99,by exact aw (iS (cq (cK S hx)) 99) (by decide),Y,?_,?_⟩
  ·rw[show((99:Nat):Int)=99 from rfl]at O
   simp only[iJ,bP,g.av h3,bz,bo,R,eN,cT,dI,ef,O]
  ·rw[<-me,c,mj (by exact jY ho)]
  ·exact(U.2 Z.pb Z.pk Z.pd).trans hb
noncomputable def JG(Z:Pl):EM:=(bl [] (bL (bU (bq Z.sA) (fx (T Z.X) Z.k) (aa 3) (ab (xk (.int 99)) ag))) (.name 17) bw (a_ (bK vZ (ab (aa 17) ag))) 400)
theorem U2(Z:Pl):zr (bq Z.sA) (fx (T Z.X) Z.k)=(bj 54 (bK qS (ab (JG Z) ag))):=rfl
theorem Vh(S:oH Z W)(ho:os.length<=90)(J:os≠[])(h3:G 3=some (.v (.val (.ref Z.sA)))){F:aj}{st:St}(g:GR W G F st)(i:LT Z ⟨[],os,ln⟩ st):
 ∃l oc st',zr (bq Z.sA) (fx (T Z.X) Z.k) F st=some (.next,F.put 54 (.ref oc),st')/\aN W st st'/\LT Z ⟨[],[],ln⟩ st'/\st'[l]?=some (.list (lS os))/\st'[oc]?=some (.c_ l 0)/\l∉W/\st.length<=oc:=by
 have hc:=QX (W:=W) (G:=G) (fv:=[]) (h:=nD) (fe:=bK vZ (ab (aa 17) ag)) (jL (Z:=Z) (s:=⟨[],[],ln⟩)) (Q3 (k:=17) (S7 (os:=os) (ln:=ln) S ho J h3)) (bQ ho (by decide)) λc _=>⟨_,.one rfl,ia (aE (az rfl) be) (Vw c)⟩;refine jj ((hc F st g i).get) λN e k r i'=>?_;obtain⟨v,st1⟩:=N;have k:aN W st st1:=k;refine fF ((show RV W st1 v (.list (os.map nD))from r).l') λl xs O n hl R=>?_;subst O;have U:xs=lS os:=by
  rw[wx]at R;rw[R.ints,br];rfl
 subst U;refine⟨l,st1.length,st1++[.c_ l 0],?_,k.trans (.app _),jL (.app _) i',(aN.app (W:=[]) _).get hl,ng,n,k.len⟩;rw[U2];have Y:JG Z F st=some (.ref l,st1):=e;simp only[gF,j4,eN,Y,dI,bz,bo,Lj hl]
end
theorem VV{Z:Pl}{s:Ls}{st st':St}{oc l i:Nat}(k:aN [oc] st st')(h:st[oc]?=some (.c_ l i))(t:LT Z s st):LT Z s st':=by
 have n:∀{x:Nat}{o:AO},st[x]?=some o->(∀l i,o≠.c_ l i)->st'[x]?=some o:=λ{x o} e ne=>k.cW (λz=>by
  rw[cx.mp z,h]at e;exact ne _ _ (mx e).symm) e
 refine tc t λJ es a b=>?_;obtain⟨p,c,L,d,hb⟩:=J;exact⟨⟨p,c,⟨n L.inst nofun,n L.dict nofun,L.pl.imp λps q=>⟨q.1,n q.2 nofun⟩⟩,d,n hb nofun⟩,es,n a nofun,λp m=>n (b p m) nofun⟩
noncomputable def pos(f:Nat)(ns:List Nat)(j:Nat):Nat:=(((ns.take j).map λn=>dD n f).flatten).length
theorem Pa{f:Nat}{ns:List Nat}{j n:Nat}(h:ns[j]?=some n)(last:Nat):pos f ns (j+1)=pos f ns j+(dD n f).length /\∃rest,(lS ((ns.map λn=>dD n f).flatten ++[last])).drop (pos f ns j)=lS (dD n f)++rest:=by
 refine bO (fX.mp h) λJ e=>?_;have N:ns=ns.take j++n::ns.drop (j+1):=by
  have:=(A4 j ns).symm;rwa[Av J,e]at this
 constructor
 ·unfold pos
  rw[nR,h,dR,qa,aT];simp
 ·refine⟨lS (((ns.drop (j+1)).map λn=>dD n f).flatten ++[last]),?_⟩
  have O:(ns.map λn=>dD n f).flatten ++[last]=((ns.take j).map λn=>dD n f).flatten ++(dD n f++(((ns.drop (j+1)).map λn=>dD n f).flatten ++[last])):=by
   conv=>lhs;rw[N]
   rw[dR,bX,qa,gG];simp only[dn]
  unfold pos;rw[<-sh,O,AP,dR]
noncomputable def vE:EM:=bK (bG [5] pY) (ab (aa 54) ag)
section
variable{W:List Nat}{G:Gm}{Z:Pl}{s:Ls}{oc l f last:Nat}{ns:List Nat}
noncomputable def VI(Z:Pl)(s:Ls)(oc l f last:Nat)(ns:List Nat)(j:Nat)(st:St):Prop:=LT Z s st/\st[l]?=some (.list (lS ((ns.map λn=>dD n f).flatten ++[last])))/\st[oc]?=some (.c_ l (pos f ns j))
theorem yA{j:Nat}:gQ (VI Z s oc l f last ns j):=λk h=>⟨jL k h.1,k.get h.2.1,k.get h.2.2⟩
theorem L6(N:oc∈W)(hf:f<4)(O:G 54=some (.v (.ref oc))){j n:Nat}(R:n<16777216)(S:ns[j]?=some n):dZ W W G (VI Z s oc l f last ns j) (VI Z s oc l f last ns (j+1)) vE (nD n):=λF st g i=>by
 refine de i λt hl ho=>?_;refine pN (Pa (f:=f) S last) λp1 rest p2=>?_;have J:oc≠l:=λz=>by rw[z,hl]at ho;cases ho
 have e:=Mp n f R hf oc l _ _ rest st J hl ho p2;have k:aN [oc] st (st.set oc (.c_ l (pos f ns j+(dD n f).length))):=lz (cj ..);refine Ok.of (a:=(.int n,st.set oc (.c_ l (pos f ns j+(dD n f).length)))) ?_ ⟨k.sub λx m=>by rw[cx.mp m];exact N,.int _,VV k ho t,k.cW (λz=>J (cx.mp z).symm) hl,?_⟩
 ·unfold vE
  simp only[j4,eN,bP,g.av O,dI,bz,bo,e]
 ·rw[get_set,if_pos rfl,if_pos (gq ho),p1]
theorem Vo(Z:Pl):zy (bq Z.sA) (fx (T Z.X) Z.k)=(cn (iy (aS c5 (bl [54] (bC cR (ab (xk (.int 4)) ag)) (.name 42) bw (a_ vE) 400) (ay aX (cH (aa 43) (bY (xk (.int 6))) bb bb) (aa 44))) (iy (aS c5 (km Z) (xk (.str ("":ae)))) (λ_ st=>some (false,st)))) (ao (cy (xk (.bool false))) aC) aC):=rfl
theorem Ui(Y:oH Z W)(Z4:oc∈W)(hf:f<4)(J:oc∉LV Z)(Z5:l∉LV Z)(Z6:G 54=some (.v (.ref oc)))(Z7:G 53=some (.v (.ref Z.lx)))(Z8:∀n∈ns,n<16777216)(h4:ns.length=4)(hs:s.q=[]/\s.r=[])(N:bh W G (ay aX (cH (aa 43) (bY (xk (.int 6))) bb bb) (aa 44)) (.list (ns.map nD))):
 dK W G (VI Z s oc l f last ns 0) (λst=>TI st/\st[l]?=some (.list (lS ((ns.map λn=>dD n f).flatten ++[last])))/\st[oc]?=some (.c_ l (pos f ns 4))) (zy (bq Z.sA) (fx (T Z.X) Z.k)) G:=λF st g i=>by
 have hi:=oO (W:=W) (G:=G) (k:=42) (fa:=ab (xk (.int 4)) ag) (n:=4) (aE (aW 4) be) (by decide);have Z9:fg W G (.name 42) (bC cR (ab (xk (.int 4)) ag)) (((cE 4).map λj:Nat=>iV (j:Int)).map .one):=by rw[br];exact hi
 have hc:=HA (fv:=[54]) (fe:=vE) (VI Z s oc l f last ns) (λj=>nD (ns.getD j 0)) Z9 (show 4<400 by decide) rfl yA yA λj O=>by
  have O:j<ns.length:=by rw[aP,eI]at O;rw[h4];exact O
  have ej:ns[j]?=some ns[j]:=kF O;have e0:ns.getD j 0=ns[j]:=by rw[jg,ej];rfl
  rw[e0];exact L6 (G:=G.only [54]) Z4 hf Z6 (Z8 _ (Bj O)) ej
 have el:(uG 0 (((cE 4).map λj:Nat=>iV (j:Int))).length).map (λj=>nD (ns.getD j 0))=ns.map nD:=by
  refine nf (JH h4) λa b c d e=>?_;rw[e];rfl
 rw[el]at hc;have hA:=yo (V:=W) (λ_ m=>m) yA hc (uI N yA) (Ib ns);rw[Vo];refine Ok.bind' (Ok.bind' (Ok.bind' ((hA F st g i).mono λq hq=>?_)));obtain⟨v,st1⟩:=q;refine de hq λS r1 i1=>?_;have S:aN W st st1:=S;cases(show RV W st1 v (.bool false)from r1).b'
 show Ok (iy (aS c5 (km Z) (xk (.str ("":ae)))) (λ_ st=>some (false,st)) F st1) _;refine de i1 λZ_ hl ho=>?_;obtain⟨li,t⟩:=Z_;refine jj li λp a L c hb=>?_;obtain⟨bI,e2,U⟩:=Se (ln:=s.ln) Y.xl st1 ⟨p,a,L,by rw[c];exact hs.2,by rw[hb,hs.1];rfl⟩;have g1:=g.keep S;have hrs:f_ 69 40 (.ref Z.lx) st1=some [.ref Z.lx]:=uc (sZ L 40 (by decide));have eg:km Z F st1=some (.str (T []),bI):=by
  unfold km;simp only[iJ,bP,g1.av Z7,bz,bo,hrs,dI,gj,e2]
 have et:iy (aS c5 (km Z) (xk (.str ("":ae)))) (λ_ st=>some (false,st)) F st1=some (false,bI):=by
  have en:c5 (.str (T [])) (.str (T [])) bI=some (.bool false,bI):=by
   refine dh ((Cv (W:=[]) [] [] bI _ _ (λ_ m=>absurd m a6) (.str _) (.str _)).get) λq eq kq rq=>?_;rfl
  simp only[W7,iL,iN,d7,eg,cT,lX,bz,bo,en,jh,if_false]
 rw[et];have R:aN W st1 bI:=U.sub Y.sub;refine⟨rfl,S.trans R,g1.keep R,yf U Y.z0 (Iw ⟨p,a,L,c,hb⟩) t,U.cW Z5 hl,U.cW J ho⟩
end
theorem GR.kp{W W':List Nat}{G:Gm}{F:aj}{st st':St}(h:GR W G F st)(k:Kp W W' st st')(b:Bd W' st'):GR W' G F st':=⟨b,λj p e=>(h.at' j p e).mono λx s=>by
 cases p with
 |d d=>exact RV.to k s
 |v v=>exact s⟩
noncomputable abbrev GB(ns:List Int)(lx:Nat)(sA:ak):List (Nat×Vl):=[(43,.d (ju ns)),(41,.d (nD (fw ns))),(44,.d (.list ((fN ns).map nD))),(53,.v (.ref lx)),(3,.v (.val (.ref sA))),(66,.d (.list ((il ns).map sD))),(60,.d (.list ((fY ns).map sD))),(59,.d (uZ ns)),(55,.d oy),(64,.d (lH ns))]
noncomputable abbrev GC(ns:List Int)(lx:Nat)(sA:ak)(oc:Nat):List (Nat×Vl):=[(43,.d (ju ns)),(44,.d (.list ((fN ns).map nD))),(59,.d (l9 (kK ns))),(57,.d (mP (kK ns))),(55,.d oy),(53,.v (.ref lx)),(54,.v (.ref oc))]
theorem Wp(Z:Pl):zE (bq Z.sA) (fx (T Z.X) Z.k)=(cn (aS c5 (bl [53] (bL (aa 46)) (.name 42) bw (a_ (km Z)) 400) (aa 46)) (ao (cy (xk (.bool false))) aC) aC):=rfl
theorem VH{W:List Nat}{G:Gm}{Z:Pl}{s s1:Ls}(ns:List Int)(O:oH Z W)(N:G 53=some (.v (.ref Z.lx)))(J:G 46=some (.d (.list ((iM ns).map sD))))(ht:mK Z s (iM ns) s1):dK W G (LT Z s) (LT Z s1) (zE (bq Z.sA) (fx (T Z.X) Z.k)) G:=by
 rw[Wp];exact Eu jL (CP O (xK (Z:=Z) (fv:=[53]) O.sub N rfl rfl (iC (az J) rfl) (by rw[aP]) (by rw[aP,wH];decide) ht)) (uI (az J) jL) (xV (H0 ns))
theorem TS{W:List Nat}{G:Gm}(ns:List Int)(h:G 43=some (.d (ju ns)))(J:G 44=some (.d (.list ((fN ns).map nD)))):bh W G (ay aX (cH (aa 43) (bY (xk (.int 6))) bb bb) (aa 44)) (.list ((iO ns).map nD)):=by
 unfold iO;rw[dR];refine aM (iT (az h) (fS (aW 6)) dO dO ?_) (az J) (nY (by rw[aP,aP,ez,j7,BL];decide));have:=qC (W:=W) (ds:=(gu ns).map nD) 6 (by rw[aP,j7];decide);rwa[<-sh]at this
theorem SP(f:Nat)(ns:List Nat)(h:ns.length=4)(last:Nat):(lS ((ns.map λn=>dD n f).flatten ++[last]))[pos f ns 4]?=some (.int last)/\(lS ((ns.map λn=>dD n f).flatten ++[last]))[pos f ns 4+1]?=none:=by
 have e:pos f ns 4=((ns.map λn=>dD n f).flatten).length :=by unfold pos;rw[kv (bS h)]
 rw[e];constructor
 ·rw[dQ,j5 (a7 _),mn];rfl
 ·rw[dQ,oR (by rw[aT];exact a7 _)];rfl
theorem S6(ns:List Int)(sA:ak){F1:aj}{st1:St}(g:GR [0] (Gl (pJ ns)) F1 st1)(h0:st1[0]?=some (.tab [])):
 Ok (qV (bq sA) (fx (T (kh ns)) st1.length) (F1.put 3 (.val (.ref sA))) (st1++[.list [.int 0]])) λq=>q.1=.next /\∃oc l i W,oc∈W/\GR W (Gl (GC ns (st1.length+2) sA oc)) q.2.1 q.2.2/\TI q.2.2/\q.2.2[l]?=some (.list (lS ((((iO ns).map λn=>dD n (lP ns)).flatten)++[kP ns])))/\q.2.2[oc]?=some (.c_ l i)/\
  (lS ((((iO ns).map λn=>dD n (lP ns)).flatten)++[kP ns]))[i]?=some (.int (kP ns))/\(lS ((((iO ns).map λn=>dD n (lP ns)).flatten)++[kP ns]))[i+1]?=none:=by
 have Z8:st1.length≠0:=λz=>by
  have:=gq h0;rw[z]at this;exact jH _ this
 generalize hk:st1.length=k at Z8;refine dh (KZ ns (Z:=Di sA (kh ns) k) rfl) λs1 T1 q1 T2=>?_;generalize hZ:Di sA (kh ns) k=Z at T1 T2;have zk:Z.k=k:=by rw[<-hZ];rfl
 have zd:Z.d=k+1:=by rw[<-hZ];rfl
 have zl:Z.lx=k+2:=by rw[<-hZ];rfl
 have zp:Z.pb=k+3:=by rw[<-hZ];rfl
 have zs:Z.sA=sA:=by rw[<-hZ];rfl
 have zX:Z.X=kh ns:=by rw[<-hZ];rfl
 have hX:Z.X.length<=10000:=by rw[zX];exact aw (text_len ns (qE ns)) (by decide)
 have hlv:∀{x:Nat},x∈LV Z↔x=k\/x=k+1\/x=k+3:=λ{x}=>by
  simp only[LV,zk,zd,zp,bJ,a6,or_false]
 let J:List Nat:=[Z.pb,Z.d,Z.k,0];have N:oH Z J:=⟨λm=>by have:=hlv.mp m;exact this.elim (λe=>Z8 e.symm) λe=>e.elim (λe=>rR _ e.symm) λe=>rR _ e.symm,by rw[zl];exact rR _,by rw[zl,zp];lia,hX,λx m=>by
  simp only[LV,J,bJ,a6,or_false]at m ⊢;rcases m with m|m|m
  ·exact .inr (.inr (.inl m))
  ·exact .inr (.inl m)
  ·exact .inl m⟩
 rw[show qV (bq sA) (fx (T (kh ns)) k)=qV (bq Z.sA) (fx (T Z.X) Z.k) by rw[zs,zX,zk]];unfold qV;have Z5:(st1++[AO.list [.int 0]]).length =k+1:=by rw[aT,hk];rfl
 have hkA:(st1++[AO.list [.int 0]])[k]?=some (.list [.int 0]):=hk▸ng;have h0A:(st1++[AO.list [.int 0]])[0]?=some (.tab []):=(aN.app (W:=[]) [AO.list [.int 0]]).get h0;have gA:GR [0] ((Gl (pJ ns)).put 3 (.v (.val (.ref sA)))) (F1.put 3 (.val (.ref sA))) (st1++[.list [.int 0]]):=(g.cZ (.app _)).put (p:=.v _) rfl;refine jj (U4 sA (kh ns) k Z5 hkA (gA.av (k:=3) (v:=.val (.ref sA)) rfl)) λZ9 eB Z_ kB lB=>?_;rw[hZ]at Z_;refine sq (Ok.of eB ⟨rfl,?_⟩);have gB:GR J (((Gl (pJ ns)).put 3 (.v (.val (.ref sA)))).put 53 (.v (.ref (k+2)))) ((F1.put 3 (.val (.ref sA))).put 53 (.ref (k+2))) Z9:=by
  have g1:GR [k,0] ((Gl (pJ ns)).put 3 (.v (.val (.ref sA)))) (F1.put 3 (.val (.ref sA))) (st1++[.list [.int 0]]):=(g.grow (aN.app _) (bS hk) (by rw[Z5];exact iI _)).put (p:=.v _) rfl;refine(g1.kp (W':=J) (λl hl n=>⟨λm=>?_,kB.at' l hl a6⟩) λw m=>?_).put (p:=.v _) rfl
  ·rw[Z5]at hl
   simp only[J,zp,zd,zk,bJ,a6,or_false]at m n;rcases m with m|m|m|m
   ·exact absurd (bQ (bS m.symm) hl) (qh (fW (by decide) k))
   ·exact absurd m (rN hl)
   ·exact n (.inl m)
   ·exact n (.inr m)
  ·rw[lB]
   simp only[J,zp,zd,zk,bJ,a6,or_false]at m;exact m.elim (λe=>oQ (bS e)) λm=>m.elim (λe=>bQ (bS e) (Pj (by decide) k)) λm=>m.elim (λe=>bQ (bS e) (Bf (by decide))) λe=>bQ (bS e) (uq _)
 have tB:TI Z9:=⟨[],kB.get h0A,λ_ m=>absurd m a6⟩;have S:∀G':Gm,G' 53=some (.v (.ref (k+2)))->G' 53=some (.v (.ref Z.lx)):=λG' e=>by rw[zl];exact e
 refine mw (VH (G:=((Gl (pJ ns)).put 3 (.v (.val (.ref sA)))).put 53 (.v (.ref (k+2)))) ns N (S _ rfl) rfl T1) gB ⟨Z_,tB⟩ λF2 bI k2 g2 i2=>?_;refine mw (yy (Wa ns rfl) jL) g2 i2 λF3 st3 k3 g3 i3=>?_;refine mw (yy (UD ns rfl rfl) jL) g3 i3 λF4 st4 k4 g4 i4=>?_;refine mw (yy Wi jL) g4 i4 λF5 st5 k5 g5 i5=>?_;refine mw (yy (VX ns rfl rfl) jL) g5 i5 λF6 U k6 g6 i6=>?_;have g6':=g6.to (l:=GB ns (k+2) sA) (bt.mpr ⟨rfl,bt.mpr ⟨rfl,bt.mpr ⟨rfl,bt.mpr ⟨rfl,bt.mpr ⟨rfl,bt.mpr ⟨rfl,bt.mpr ⟨rfl,bt.mpr ⟨rfl,bt.mpr ⟨rfl,bt.mpr ⟨rfl,λ_ h=>absurd h a6⟩⟩⟩⟩⟩⟩⟩⟩⟩⟩);refine sq (Ok.of (Vq F6 U) ⟨rfl,?_⟩);generalize O:U.length=ls;have bd6:=g6.bd;have n6:∀x∈J,x<ls:=λx m=>O▸bd6 x m;have lx6:Z.lx<ls:=by
  refine dh i6.1 λp _ L _=>?_;rw[<-O];exact gq L.inst
 have hpz:PZ Z ls:=⟨λm=>absurd (n6 ls (N.sub _ m)) (jH _),λz=>absurd (n6 0 (by simp[J])) (by rw[z];exact jH _),rN lx6,N.z0,N.x0,N.xp,N.xl⟩;have g7:GR (WZ Z ls) (Gl ((57,.v (.ref ls))::GB ns (k+2) sA)) (F6.put 57 (.ref ls)) (U++[.list []]):=by
  have:=(g6'.grow (l:=ls) (aN.app [AO.list []]) (bS O) (by rw[aT,O];exact iI _)).put (k:=57) (x:=.ref ls) (p:=.v (.ref ls)) rfl;exact this.le λj q e=>by
   rw[Gl,eK]at e;unfold Gm.put;by_cases z:j=57
   ·rw[if_pos z]
    rw[beq_iff_eq.mpr z]at e;exact e
   ·rw[if_neg z]
    rw[beq_false_of_ne z]at e;exact e
 have i7':=jL (aN.app [AO.list []]) i6;have i7:BI Z ls s1 [] (U++[.list []]):=⟨i7'.1,i7'.2,[],O▸ng,.nil⟩;obtain⟨qq,rr,ll⟩:=s1;cases(show qq=[]from q1)
 have f18':=Wv (Z:=Z) (ls:=ls) (r:=rr) (ln:=ll) (G:=Gl ((57,.v (.ref ls))::GB ns (k+2) sA)) ns hpz rfl rfl rfl rfl rfl (S _ rfl) rfl rfl rfl rfl rfl rfl rfl;refine mw f18' g7 i7 λF8 R k8 g8 i8=>?_;refine lV (HM ns) λa b c e3=>?_;have Y:kK ns=[a,b,c].map cL:=e3;have g9:GR J (Gl [(43,.d (ju ns)),(41,.d (nD (fw ns))),(44,.d (.list ((fN ns).map nD))),(53,.v (.ref (k+2))),(3,.v (.val (.ref sA))),(59,.d (l9 ([a,b,c].map cL))),(55,.d oy),(57,.d (mP ([a,b,c].map cL)))]) F8 R:=by
  have a57:=g8.av (k:=57) (v:=.ref ls) rfl;refine aG i8.ss λxs hx rx=>?_;have rx4:aQ J R xs ((fY ns).map (mE ns)):=aQ.to (W:=WZ Z ls) (W':=J) (st:=R) (st':=R) (λl _ n=>⟨λm=>n (cw _ m),rfl⟩) rx;have r57:RV J R (.ref ls) (mP ([a,b,c].map cL)):=by
   rw[<-Y,<-QB];exact .list (λm=>absurd (n6 ls m) (jH _)) hx rx4
  have Z6:(.d (uZ ns):Vl)=.d (l9 ([a,b,c].map cL)):=by rw[OL,Y]
  refine((g8.shrink (W':=J) λx m=>cw _ m).vP (k:=57) (p:=.d (mP ([a,b,c].map cL))) a57 r57).to ?_;exact bt.mpr ⟨rfl,bt.mpr ⟨rfl,bt.mpr ⟨rfl,bt.mpr ⟨rfl,bt.mpr ⟨rfl,bt.mpr ⟨congrArg some Z6,bt.mpr ⟨rfl,bt.mpr ⟨rfl,λ_ h=>absurd h a6⟩⟩⟩⟩⟩⟩⟩⟩
 refine mw (UK (W:=J) (I:=LT Z ⟨[],rr,ll⟩) (a:=a) (b:=b) (c:=c) (by simp[J]) jL (λ_ _ k t i=>VK N k t i) (λ_ i=>i.2) rfl rfl rfl rfl rfl rfl) g9 ⟨i8.li,i8.ti⟩ λF10 st10 k10 g10 i10=>?_;refine mw (Vi N (aw (qE ns) (by decide)) (S _ rfl) rfl T2) g10 i10 λF11 st11 k11 Z7 i11=>?_;have htl:=(BC ns).2.1;obtain⟨l,oc,st12,e12,k12,i12,hl12,Z4,nl,hoc⟩:=Vh N (by exact jY htl) (BV ns) (show Gl _ 3=some (.v (.val (.ref Z.sA))) by rw[zs];rfl) Z7 i11;refine sq (Ok.of e12 ⟨rfl,?_⟩);have g12:=(Z7.grow (l:=oc) k12 hoc (gq Z4)).put (k:=54) (x:=.ref oc) (p:=.v (.ref oc)) rfl;have hp5:oH Z (oc::J):=⟨N.z0,N.x0,N.xp,N.xl,λx m=>cw _ (N.sub x m)⟩;have hocl:oc∉LV Z:=λm=>by
  have:=Z7.bd oc (N.sub _ m);exact absurd hoc (j0.mpr this)
 have hll:l∉LV Z:=λm=>nl (N.sub _ m);refine mw (Ui (oc:=oc) (l:=l) (last:=kP ns) hp5 (cj ..) (BF ns) hocl hll rfl (S _ rfl) (Ca ns) (xG ns) ⟨rfl,rfl⟩ (TS ns rfl rfl)) g12 ⟨i12,hl12,by rw[Z4];rfl⟩ λF13 st13 k13 g13 i13=>?_;refine de i13 λt13 hl13 ho13=>?_;obtain⟨p1,p2⟩:=SP (lP ns) (iO ns) (xG ns) (kP ns);refine⟨rfl,oc,l,pos (lP ns) (iO ns) 4,oc::J,cj ..,?_,t13,hl13,ho13,p1,p2⟩;have Z6:(.d (l9 ([a,b,c].map cL)):Vl)=.d (l9 (kK ns)):=by rw[Y]
 have e57:(.d (mP ([a,b,c].map cL)):Vl)=.d (mP (kK ns)):=by rw[Y]
 exact g13.to (bt.mpr ⟨rfl,bt.mpr ⟨rfl,bt.mpr ⟨congrArg some Z6,bt.mpr ⟨congrArg some e57,bt.mpr ⟨rfl,bt.mpr ⟨rfl,bt.mpr ⟨rfl,λ_ h=>absurd h a6⟩⟩⟩⟩⟩⟩⟩)
end Mine
namespace Mine
noncomputable def sF(c:C9)(k:Nat):Nat:=qN (cL c) k
noncomputable abbrev Wt:=List (Int×C9)
noncomputable def mF(w:Wt)(f:Nat->Int)(k:Nat):Int:=(w.map λp=>p.1*f (sF p.2 k)).sum
noncomputable def oF(w:Wt)(c:Int)(f:Nat->Int)(k:Nat):Int:=mF w f k -c*f k
noncomputable def cnt(w:Wt)(P:C9->Bool):Int:=(w.map λp=>if P p.2 then p.1 else 0).sum
noncomputable def cst(c:C9):Bool:=c.1==c.2.1&&c.2.1==c.2.2
noncomputable def u0(c:C9):Bool:=c.2.1==c.2.2
noncomputable def u1(c:C9):Bool:=c.1==c.2.2
noncomputable def u2(c:C9):Bool:=c.1==c.2.1
noncomputable def xT:Nat->List Int
 |0=>[1,0,1,1,0,0]
 |1=>[1,1,1,0,0,0]
 |_=>[1,1,0,0,1,0]
noncomputable def xF(Q k:Nat):Int:=(xT Q).getD k 0
noncomputable def uF:Nat->C9->Bool
 |0=>u0
 |1=>u1
 |_=>u2
theorem nX(p:Int×C9)(w:Wt)(f:Nat->Int)(k:Nat):mF (p::w) f k=p.1*f (sF p.2 k)+mF w f k:=rfl
theorem cnt_cons(p:Int×C9)(w:Wt)(P:C9->Bool):cnt (p::w) P=(if P p.2 then p.1 else 0)+cnt w P:=rfl
theorem lU(c:C9){k:Nat}(h:k<6):sF c k<6:=(nV c.1 c.2.1 c.2.2 ⟨k,h⟩).2
theorem GX{w:Wt}{f g:Nat->Int}(h:∀k,k<6->f k=g k){k:Nat}(hk:k<6):mF w f k=mF w g k:=by
 induction w with
 |nil=>rfl
 |cons p w J=>rw[nX,nX,J,h _ (lU p.2 hk)]
theorem ve(w:Wt)(a:Int)(f g:Nat->Int)(k:Nat):mF w (λk=>a*f k+g k) k=a*mF w f k+mF w g k:=by
 induction w with
 |nil=>show(0:Int)=a*0+0;grind
 |cons p w J=>rw[nX,nX,nX,J];grind
noncomputable def eD(c:Int)(P:List Int):List Int:=Hd (λup low=>up -c*low) (0::P) (P++[0])
noncomputable def fA(w:Wt):List Int->(Nat->Int)->Nat->Int
 |[],_,_=>0
 |p::P,f,k=>p*f k+fA w P (mF w f) k
theorem Xk(w:Wt):∀(P:List Int)(f:Nat->Int)(k:Nat),fA w P (mF w f) k=mF w (fA w P f) k:=by
 intro P;induction P with
 |nil=>
  intro f k;show(0:Int)=mF w (λ_=>0) k;have:=ve w 0 (λ_=>0) (λ_=>0) k;have e:∀w:Wt,mF w (λ_=>0) k=0:=by
   intro w;induction w with
   |nil=>rfl
   |cons p w J=>rw[nX,J];grind
  rw[e]
 |cons p P J=>
  intro f k;show p*mF w f k+fA w P (mF w (mF w f)) k=mF w (λk=>p*f k+fA w P (mF w f) k) k;rw[ve,J (mF w f) k]
theorem PD(w:Wt)(c:Int):∀(P:List Int)(u:Int)(f:Nat->Int)(k:Nat),fA w (Hd (λup low=>up -c*low) (u::P) (P++[0])) f k=u*f k+fA w P (mF w f) k -c*fA w P f k:=by
 intro P;induction P with
 |nil=>
  intro u f k;show(u -c*0)*f k+0=u*f k+0 -c*0;grind
 |cons p P J=>
  intro u f k;show(u -c*p)*f k+fA w (Hd (λup low=>up -c*low) (p::P) (P++[0])) (mF w f) k=u*f k+(p*mF w f k+fA w P (mF w (mF w f)) k) -c*(p*f k+fA w P (mF w f) k);rw[J p (mF w f) k];grind
theorem CV(w:Wt)(c:Int)(P:List Int)(f:Nat->Int)(k:Nat):fA w (eD c P) f k=oF w c (fA w P f) k:=by
 unfold eD oF;rw[PD,Xk];grind
theorem Ub:∀Q:Fin 3,∀x y z:Bool,∀k:Fin 6,uF Q.val (x,y,z)=true->xF Q.val (sF (x,y,z) k.val)=xF Q.val k.val:=by decide+kernel
theorem WA:∀Q:Fin 3,∀x y z:Bool,∀k:Fin 6,uF Q.val (x,y,z)=false->xF Q.val (sF (x,y,z) k.val)=xF Q.val (sF (x,y,z) 0):=by decide+kernel
theorem WM:∀x y z:Bool,∀k:Fin 6,cst (x,y,z)=true->sF (x,y,z) k.val=k.val:=by decide+kernel
theorem Ud:∀x y z:Bool,cst (x,y,z)=false->∃Q:Fin 3,∀k:Fin 6,(xF Q.val k.val=1/\sF (x,y,z) k.val=sF (x,y,z) 0)\/(xF Q.val k.val=0/\sF (x,y,z) k.val=sF (x,y,z) 5):=by decide+kernel
noncomputable def oE(w:Wt)(Q:Nat):Int:=(w.map λp=>if uF Q p.2 then 0 else p.1*xF Q (sF p.2 0)).sum
theorem Du(w:Wt)(Q:Fin 3){k:Nat}(hk:k<6):mF w (xF Q.val) k=cnt w (uF Q.val)*xF Q.val k+oE w Q.val:=by
 induction w with
 |nil=>show(0:Int)=0*_+0;grind
 |cons p w J=>
  rw[nX,cnt_cons,J,show oE (p::w) Q.val=(if uF Q.val p.2 then 0 else p.1*xF Q.val (sF p.2 0))+oE w Q.val from rfl];cases h:uF Q.val p.2 with
  |true=>rw[if_pos rfl,if_pos rfl,Ub Q p.2.1 p.2.2.1 p.2.2.2 ⟨k,hk⟩ h];grind
  |false=>rw[if_neg d_,if_neg d_,WA Q p.2.1 p.2.2.1 p.2.2.2 ⟨k,hk⟩ h];grind
noncomputable def mQ(a J b1 b2:Int)(k:Nat):Int:=J*xF 0 k+(b1*xF 1 k+(b2*xF 2 k+a))
theorem H8(w:Wt)(a:Int)(k:Nat):mF w (λ_=>a) k=cnt w (λ_=>true)*a:=by
 induction w with
 |nil=>show(0:Int)=0*a;grind
 |cons p w J=>rw[nX,J,cnt_cons,if_pos rfl];grind
theorem WO(w:Wt)(c a J b1 b2:Int){f:Nat->Int}(h:∀k,k<6->f k=mQ a J b1 b2 k):∃N,∀k,k<6->oF w c f k=mQ N (J*(cnt w u0 -c)) (b1*(cnt w u1 -c)) (b2*(cnt w u2 -c)) k:=by
 refine⟨a*(cnt w (λ_=>true) -c)+J*oE w 0+b1*oE w 1+b2*oE w 2,λk hk=>?_⟩;unfold oF;rw[GX h hk,h k hk];unfold mQ;rw[ve,ve,ve,H8,show mF w (xF 0) k=_ from Du w 0 hk,show mF w (xF 1) k=_ from Du w 1 hk,show mF w (xF 2) k=_ from Du w 2 hk];show J*(cnt w u0*xF 0 k+oE w 0)+(b1*(cnt w u1*xF 1 k+oE w 1)+(b2*(cnt w u2*xF 2 k+oE w 2)+cnt w (λ_=>true)*a)) -c*(J*xF 0 k+(b1*xF 1 k+(b2*xF 2 k+a)))=_;grind
theorem B9(w:Wt)(c a J b1 b2:Int){P:List Int}{f:Nat->Int}(h:∀k,k<6->fA w P f k=mQ a J b1 b2 k):∃N,∀k,k<6->fA w (eD c P) f k=mQ N (J*(cnt w u0 -c)) (b1*(cnt w u1 -c)) (b2*(cnt w u2 -c)) k:=(WO w c a J b1 b2 h).imp λN q k hk=>(CV ..).trans (q k hk)
theorem Qb(w:Wt)(f:Nat->Int):∃a N b1 b2,∀k,k<6->oF w (cnt w cst) f k=mQ a N b1 b2 k:=by
 induction w with
 |nil=>exact⟨0,0,0,0,λk _=>by show(0:Int) -0*f k=0*_+(0*_+(0*_+0));grind⟩
 |cons p w O=>
  refine nf O λa N b1 b2 h=>?_;have e:∀k,oF (p::w) (cnt (p::w) cst) f k=p.1*f (sF p.2 k) -(if cst p.2 then p.1 else 0)*f k+oF w (cnt w cst) f k:=λk=>by
   unfold oF;rw[nX,cnt_cons];grind
  cases hc:cst p.2 with
  |true=>
   refine⟨a,N,b1,b2,λk hk=>?_⟩;rw[e,h k hk,if_pos hc,WM p.2.1 p.2.2.1 p.2.2.2 ⟨k,hk⟩ hc];show p.1*f k -p.1*f k+_=_;grind
  |false=>
   refine bO (Ud p.2.1 p.2.2.1 p.2.2.2 hc) λQ R=>?_;have key:∀k,k<6->f (sF p.2 k)=(f (sF p.2 0) -f (sF p.2 5))*xF Q.val k+f (sF p.2 5):=λk hk=>by
    rcases R ⟨k,hk⟩with⟨h1,h2⟩|⟨h1,h2⟩
    ·rw[show sF p.2 k=sF p.2 0 from h2,show xF Q.val k=1 from h1];grind
    ·rw[show sF p.2 k=sF p.2 5 from h2,show xF Q.val k=0 from h1];grind
   have J:¬cst p.2=true:=by rw[hc];exact d_
   revert key;refine Xv (λkey=>?_) (λkey=>?_) (λkey=>?_) Q
   ·exact⟨a+p.1*f (sF p.2 5),N+p.1*(f (sF p.2 0) -f (sF p.2 5)),b1,b2,λk hk=>by rw[e,h k hk,if_neg J,key k hk];unfold mQ;show _*(_*xF 0 k+_) -_+_=_;grind⟩
   ·exact⟨a+p.1*f (sF p.2 5),N,b1+p.1*(f (sF p.2 0) -f (sF p.2 5)),b2,λk hk=>by rw[e,h k hk,if_neg J,key k hk];unfold mQ;show _*(_*xF 1 k+_) -_+_=_;grind⟩
   ·exact⟨a+p.1*f (sF p.2 5),N,b1,b2+p.1*(f (sF p.2 0) -f (sF p.2 5)),λk hk=>by rw[e,h k hk,if_neg J,key k hk];unfold mQ;show _*(_*xF 2 k+_) -_+_=_;grind⟩
noncomputable def gv(w:Wt):List Int:=[cnt w cst,cnt w u0,cnt w u1,cnt w u2,cnt w λ_=>true]
noncomputable def WI(w:Wt):List Int:=(gv w).foldl (λP c=>eD c P) [1]
theorem RO(w:Wt)(f:Nat->Int){k:Nat}(hk:k<6):fA w (WI w) f k=0:=by
 show fA w (eD _ (eD _ (eD _ (eD _ (eD _ [1]))))) f k=0;refine nf (Qb w (fA w [1] f)) λa O b1 b2 h0=>?_;have N:∀k,k<6->fA w (eD (cnt w cst) [1]) f k=mQ a O b1 b2 k:=λk hk=>by rw[CV];exact h0 k hk
 refine bO (B9 w (cnt w u0) a O b1 b2 N) λa1 h1=>?_;refine bO (B9 w (cnt w u1) _ _ _ _ h1) λa2 h2=>?_;refine bO (B9 w (cnt w u2) _ _ _ _ h2) λa3 h3=>?_;have J:∀k,k<6->fA w (eD (cnt w u2) (eD (cnt w u1) (eD (cnt w u0) (eD (cnt w cst) [1])))) f k=a3:=λk hk=>by
  rw[h3 k hk];unfold mQ;grind
 rw[CV];unfold oF;rw[GX (g:=λ_=>a3) J hk,H8,J k hk];exact Int.sub_self _
noncomputable def tb:Bool->Bool->Bool->List Nat
 |false,false,false=>[0,1,2,3,4,5]
 |true,true,true=>[0,1,2,3,4,5]
 |true,false,false=>[3,5,3,3,5,5]
 |false,true,false=>[1,1,1,4,4,4]
 |false,false,true=>[0,0,2,2,0,2]
 |false,true,true=>[0,1,0,0,1,1]
 |true,false,true=>[2,2,2,3,3,3]
 |true,true,false=>[4,4,5,5,4,5]
theorem W3:∀x y z:Bool,kT [x,y,z]=tb x y z:=by decide+kernel
noncomputable def tF(c:C9)(k:Nat):Nat:=(tb c.1 c.2.1 c.2.2).getD k 0
theorem jq(c:C9):sF c=tF c:=funext λk=>by
 show(kT [c.1,c.2.1,c.2.2]).getD k 0=(tb c.1 c.2.1 c.2.2).getD k 0;rw[W3]
noncomputable def sm(f:Nat->Int):Int:=((cE 6).map f).sum
theorem yM(f:Nat->Int):sm f=f 0+(f 1+(f 2+(f 3+(f 4+(f 5+0))))):=rfl
theorem IW(a:Int)(f g:Nat->Int):sm (λk=>a*f k+g k)=a*sm f+sm g:=by
 rw[yM,yM,yM];grind
noncomputable def sW:List C9->Nat->Nat
 |[],k=>k
 |c::l,k=>sF c (sW l k)
noncomputable def pw(w:Wt)(first:Nat):Nat->Nat->Int
 |0,k=>if k=first then 1 else 0
 |m+1,k=>mF w (pw w first m) k
noncomputable def dU(P:C9->Bool)(l:List C9):Int:=if l.all P then 1 else 0
theorem xe(P:C9->Bool)(c:C9)(l:List C9):dU P (c::l)=if P c then dU P l else 0:=by
 unfold dU;rw[List.all_cons];cases P c<;>rfl
noncomputable def Dt(w:Wt)(m:Nat)(l:List C9):Int:=sm λfirst=>pw w first m (sW l first)
noncomputable def fix(s:Nat->Nat):Int:=sm λk=>if s k=k then 1 else 0
noncomputable def tz(l:List C9):Int:=1+dU u0 l+dU u1 l+dU u2 l+2*dU cst l
theorem XQ:∀x y z:Bool,fix (tF (x,y,z))=tz [(x,y,z)]:=by decide+kernel
theorem XK:∀x y z x1 J N:Bool,fix (λk=>tF (x,y,z) (tF (x1,J,N) k))=tz [(x,y,z),(x1,J,N)]:=by decide+kernel
theorem Xu:∀x y z x1 J N O R S:Bool,fix (λk=>tF (x,y,z) (tF (x1,J,N) (tF (O,R,S) k)))=tz [(x,y,z),(x1,J,N),(O,R,S)]:=by decide+kernel
theorem X9:∀x y z x1 J N O R S U Y z3:Bool,fix (λk=>tF (x,y,z) (tF (x1,J,N) (tF (O,R,S) (tF (U,Y,z3) k))))=tz [(x,y,z),(x1,J,N),(O,R,S),(U,Y,z3)]:=by decide+kernel
theorem R0(w:Wt)(l:List C9)(h1:1<=l.length)(J:l.length<=4):Dt w 0 l=tz l:=by
 cases l with
 |nil=>exact absurd h1 (by decide)
 |cons a l=>
  cases l with
  |nil=>
   refine Eq.trans ?_ (XQ a.1 a.2.1 a.2.2);show fix (sF (a.1,a.2.1,a.2.2))=_;rw[jq]
  |cons b l=>
   cases l with
   |nil=>
    refine Eq.trans ?_ (XK a.1 a.2.1 a.2.2 b.1 b.2.1 b.2.2);show fix (λk=>sF (a.1,a.2.1,a.2.2) (sF (b.1,b.2.1,b.2.2) k))=_;rw[jq,jq]
   |cons c l=>
    cases l with
    |nil=>
     refine Eq.trans ?_ (Xu a.1 a.2.1 a.2.2 b.1 b.2.1 b.2.2 c.1 c.2.1 c.2.2);show fix (λk=>sF (a.1,a.2.1,a.2.2) (sF (b.1,b.2.1,b.2.2) (sF (c.1,c.2.1,c.2.2) k)))=_;rw[jq,jq,jq]
    |cons d l=>
     cases l with
     |nil=>
      refine Eq.trans ?_ (X9 a.1 a.2.1 a.2.2 b.1 b.2.1 b.2.2 c.1 c.2.1 c.2.2 d.1 d.2.1 d.2.2);show fix (λk=>sF (a.1,a.2.1,a.2.2) (sF (b.1,b.2.1,b.2.2) (sF (c.1,c.2.1,c.2.2) (sF (d.1,d.2.1,d.2.2) k))))=_;rw[jq,jq,jq,jq]
     |cons e l=>exact absurd J (nI (dm 5 _))
theorem RS(F:C9->Nat->Int):∀w:Wt,sm (λk=>(w.map λp=>p.1*F p.2 k).sum)=(w.map λp=>p.1*sm (F p.2)).sum :=by
 intro w;induction w with
 |nil=>
  exact rfl
 |cons p w J=>
  show sm (λk=>p.1*F p.2 k+(w.map λp=>p.1*F p.2 k).sum)=p.1*sm (F p.2)+(w.map λp=>p.1*sm (F p.2)).sum;rw[IW,J]
theorem SD(w:Wt)(m:Nat)(l:List C9):Dt w (m+1) l=(w.map λp=>p.1*Dt w m (p.2::l)).sum :=RS (λc first=>pw w first m (sF c (sW l first))) w
theorem Sf(l:List C9)(A J N B2 O:Int):∀w:Wt,(w.map λp=>p.1*(A+dU u0 (p.2::l)*J+dU u1 (p.2::l)*N+dU u2 (p.2::l)*B2+2*(dU cst (p.2::l)*O))).sum =cnt w (λ_=>true)*A+dU u0 l*(cnt w u0*J)+dU u1 l*(cnt w u1*N)+dU u2 l*(cnt w u2*B2)+2*(dU cst l*(cnt w cst*O)):=by
 intro w;induction w with
 |nil=>
  show(0:Int)=0*A+dU u0 l*(0*J)+dU u1 l*(0*N)+dU u2 l*(0*B2)+2*(dU cst l*(0*O));grind
 |cons p w R=>
  rw[bX,rP,R,cnt_cons,cnt_cons,cnt_cons,cnt_cons,cnt_cons,xe,xe,xe,xe,if_pos rfl];have e:∀(b:Bool)(x y:Int),(if b=true then x else 0)=(if b=true then 1 else 0)*x:=λb x y=>by cases b<;>simp
  rw[e (u0 p.2) (dU u0 l) 0,e (u1 p.2) (dU u1 l) 0,e (u2 p.2) (dU u2 l) 0,e (cst p.2) (dU cst l) 0,e (u0 p.2) p.1 0,e (u1 p.2) p.1 0,e (u2 p.2) p.1 0,e (cst p.2) p.1 0];generalize (if u0 p.2=true then(1:Int)else 0)=S;generalize (if u1 p.2=true then(1:Int)else 0)=i1;generalize (if u2 p.2=true then(1:Int)else 0)=i2;generalize (if cst p.2=true then(1:Int)else 0)=U;grind
theorem WW(w:Wt):∀(m:Nat)(l:List C9),1<=l.length+m->l.length+m<=4->Dt w m l=cnt w (λ_=>true)^m+dU u0 l*cnt w u0^m+dU u1 l*cnt w u1^m+dU u2 l*cnt w u2^m+2*(dU cst l*cnt w cst^m):=by
 intro m;induction m with
 |zero=>
  intro l h1 h2;rw[R0 w l h1 h2];unfold tz;simp only[Int.pow_zero];grind
 |succ m J=>
  intro l h1 h2;rw[SD,xg (g:=λp:Int×C9=>p.1*(cnt w (λ_=>true)^m+dU u0 (p.2::l)*cnt w u0^m+dU u1 (p.2::l)*cnt w u1^m+dU u2 (p.2::l)*cnt w u2^m+2*(dU cst (p.2::l)*cnt w cst^m))) λp _=>by rw[J (p.2::l) (by rw[dE];lia) (by rw[dE];lia)],Sf];rw[w_,w_,w_,w_,w_];grind
theorem Oc(w:Wt)(m:Nat)(h1:1<=m)(h2:m<=4):sm (λfirst=>pw w first m first)=cnt w cst^m+((gv w).map λc=>c^m).sum :=by
 have:=WW w m [] (by exact OJ _ h1) (by exact fW h2 _);refine this.trans ?_;show cnt w (λ_=>true)^m+1*cnt w u0^m+1*cnt w u1^m+1*cnt w u2^m+2*(1*cnt w cst^m)=cnt w cst^m+(cnt w cst^m+(cnt w u0^m+(cnt w u1^m+(cnt w u2^m+(cnt w (λ_=>true)^m+0)))));grind
noncomputable abbrev Vg:=List (Nat×Int)
noncomputable def e_(L:Vg)(k:Nat):Int:=(L.map λq=>if k=q.1 then q.2 else 0).sum
noncomputable def pull(s:Nat->Nat)(to:Nat)(L:Vg):Int:=(L.map λq=>if s q.1=to then q.2 else 0).sum
theorem OG(q:Nat×Int)(L:Vg)(k:Nat):e_ (q::L) k=(if k=q.1 then q.2 else 0)+e_ L k:=rfl
theorem MU(s:Nat->Nat)(to:Nat)(q:Nat×Int)(L:Vg):pull s to (q::L)=(if s q.1=to then q.2 else 0)+pull s to L:=rfl
theorem TG(s:Nat->Nat)(to:Nat)(x:Int):∀L:Vg,(∀q∈L,q.1<6)->sm (λk=>if s k=to then x*e_ L k else 0)=x*pull s to L:=by
 intro L;induction L with
 |nil=>
  intro _;have e:(λk=>if s k=to then x*e_ [] k else 0)=λ_=>(0:Int):=funext λk=>by
   show(if s k=to then x*0 else 0)=(0:Int);rw[Qi,ite_self]
  rw[e];show(0:Int)=x*0;rw[Qi]
 |cons q L N=>
  intro h;have e:(λk=>if s k=to then x*e_ (q::L) k else 0)=λk=>1*(if s k=to then(if k=q.1 then x*q.2 else 0)else 0)+(if s k=to then x*e_ L k else 0):=funext λk=>by
   rw[OG];by_cases h1:s k=to
   ·rw[if_pos h1,if_pos h1,if_pos h1]
    by_cases h2:k=q.1
    ·rw[if_pos h2,if_pos h2];grind
    ·rw[if_neg h2,if_neg h2];grind
   ·rw[if_neg h1,if_neg h1,if_neg h1];rfl
  rw[e,IW,N λy m=>h y (cw _ m),MU];have J:=h q (cj ..);obtain⟨v,g⟩:=q;have J:v<6:=J;have key:sm (λk=>if s k=to then(if k=v then x*g else 0)else 0)=if s v=to then x*g else 0:=by
   rw[yM];exact WV (by simp) (by simp) (by simp) (by simp) (by simp) (by simp) J
  rw[key];show 1*(if s v=to then x*g else 0)+_=x*((if s v=to then g else 0)+_);by_cases h1:s v=to
  ·rw[if_pos h1,if_pos h1];grind
  ·rw[if_neg h1,if_neg h1];grind
theorem WE:∀x y z x1 J N O R S:Bool,∀k:Fin 6,tF (x,y,z) (tF (x1,J,N) (tF (O,R,S) (tF (x,y,z) k.val)))=tF (x,y,z) (tF (x1,J,N) (tF (O,R,S) k.val)):=by decide+kernel
theorem Xi:∀x y z x1 J N:Bool,∀k:Fin 6,tF (x,y,z) (tF (x1,J,N) (tF (x,y,z) k.val))=tF (x,y,z) (tF (x1,J,N) k.val):=by decide+kernel
theorem Xo:∀x y z:Bool,∀k:Fin 6,tF (x,y,z) (tF (x,y,z) k.val)=tF (x,y,z) k.val:=by decide+kernel
theorem YO(a:C9){k:Nat}(h:k<6):sF a (sF a k)=sF a k:=by rw[jq];exact Xo a.1 a.2.1 a.2.2 ⟨k,h⟩
theorem Yb(a b:C9){k:Nat}(h:k<6):sF a (sF b (sF a k))=sF a (sF b k):=by rw[jq,jq];exact Xi a.1 a.2.1 a.2.2 b.1 b.2.1 b.2.2 ⟨k,h⟩
theorem YI(a b c:C9){k:Nat}(h:k<6):sF a (sF b (sF c (sF a k)))=sF a (sF b (sF c k)):=by rw[jq,jq,jq];exact WE a.1 a.2.1 a.2.2 b.1 b.2.1 b.2.2 c.1 c.2.1 c.2.2 ⟨k,h⟩
noncomputable def gy(x y z T:Int):Int:=x*y*(T -y)*(T -z)
noncomputable def vF(a b c:C9):Nat:=sF a (sF b (sF c 0))
theorem WC(a b c:C9):vF a b c<6:=lU a (lU b (lU c (by decide)))
noncomputable def tH(a b c:C9)(x y z T:Int):Vg:=[(vF a b c,gy x y z T),(vF a c b,gy x z y T),(vF b a c,gy y x z T),(vF b c a,gy y z x T),(vF c a b,gy z x y T),(vF c b a,gy z y x T)]
theorem Ur(a b c:C9)(x y z:Int)(to:Nat):x*pull (sF a) to (tH a b c x y z (x+y+z))+y*pull (sF b) to (tH a b c x y z (x+y+z))+z*pull (sF c) to (tH a b c x y z (x+y+z))=(x+y+z)*e_ (tH a b c x y z (x+y+z)) to:=by
 have a1:∀p q r:C9,sF p (vF p q r)=vF p q r:=λp q r=>YO p (lU q (lU r (by decide)));have a2:∀p q r:C9,sF q (vF p q r)=vF q p r:=λp q r=>Yb q p (lU r (by decide));have a3:∀p q r:C9,sF r (vF p q r)=vF r p q:=λp q r=>YI r p q (by decide);unfold pull e_ tH;simp only[bX,fT,rP,List.sum_nil,a1,a2,a3];have e:∀(v:Nat)(g:Int),(if to=v then g else 0)=(if v=to then(1:Int)else 0)*g:=λv g=>by
  by_cases h:v=to
  ·rw[if_pos h,if_pos h.symm,Rv]
  ·rw[if_neg h,if_neg (λq=>h q.symm),Q_]
 have U:∀(v:Nat)(g:Int),(if v=to then g else 0)=(if v=to then(1:Int)else 0)*g:=λv g=>by
  by_cases h:v=to
  ·rw[if_pos h,if_pos h,Rv]
  ·rw[if_neg h,if_neg h,Q_]
 simp only[e];simp only[U _ (gy _ _ _ _)];generalize (if vF a b c=to then(1:Int)else 0)=i1;generalize (if vF a c b=to then(1:Int)else 0)=i2;generalize (if vF b a c=to then(1:Int)else 0)=i3;generalize (if vF b c a=to then(1:Int)else 0)=i4;generalize (if vF c a b=to then(1:Int)else 0)=i5;generalize (if vF c b a=to then(1:Int)else 0)=i6;have k:∀p q r:Int,p*(gy p q r (p+q+r)+gy q p r (p+q+r)+gy q r p (p+q+r))=(p+q+r)*gy p q r (p+q+r):=λp q r=>by unfold gy;grind
 have Y:=k x y z;have J:=k x z y;have N:=k y x z;have k4:=k y z x;have O:=k z x y;have R:=k z y x;rw[show x+z+y=x+y+z by exact PM ..]at J;rw[show y+x+z=x+y+z by lia]at N;rw[show y+z+x=x+y+z by lia]at k4;rw[show z+x+y=x+y+z by lia]at O;rw[show z+y+x=x+y+z by lia]at R;generalize gy x y z (x+y+z)=g1 at*;generalize gy x z y (x+y+z)=g2 at*;generalize gy y x z (x+y+z)=g3 at*;generalize gy y z x (x+y+z)=g4 at*;generalize gy z x y (x+y+z)=g5 at*;generalize gy z y x (x+y+z)=g6 at*;generalize x+y+z=S at*;refine Eq.trans (b:=i1*(x*(g1+g3+g4))+i2*(x*(g2+g5+g6))+i3*(y*(g3+g1+g2))+i4*(y*(g4+g6+g5))+i5*(z*(g5+g2+g1))+i6*(z*(g6+g4+g3))) ?_ ?_
 ·clear k Y J N k4 O R e U a1 a2 a3
  grind
 ·rw[Y,J,N,k4,O,R]
  clear k Y J N k4 O R e U a1 a2 a3;grind
open PySem PyProof.Rows PySem.W PySem.Builtin PySem.Builtin.Str
noncomputable abbrev wD(w:Wt):aB:=.list (w.map λp=>.int p.1)
noncomputable abbrev cD(w:Wt):aB:=.list (w.map λp=>.list ((cL p.2).map .bool))
noncomputable abbrev rD(w:Wt):aB:=.list (w.map λp=>.list ((kT (cL p.2)).map nD))
noncomputable abbrev iD(l:List Int):aB:=.list (l.map .int)
noncomputable def dd(d:List Bool)(b:Bool):List Bool:=if d.contains b then d else d++[b]
noncomputable def S5:List (List Bool):=[[],[true],[false],[true,false],[false,true]]
theorem C1:∀d∈S5,∀b:Bool,dd d b∈S5/\d.length<=2:=by decide
noncomputable def vn(bs:List Bool)(l:List Nat):List Bool:=l.foldl (λd p=>dd d (cf bs p)) []
theorem VE{W:List Nat}{G:Gm}{fe:EM}{b:Bool}(he:bh W G fe (.bool b)){d:List Bool}(hd:d∈S5){F:aj}{st:St}(g:GR W G F st):Ok (nB fe (d.map .bool) F st) λq=>q.1=(dd d b).map .bool /\aN [] st q.2.2/\GR W G q.2.1 q.2.2:=Ok.bind' ((he F st g).mono λq J=>by
 obtain⟨v,st'⟩:=q;cases(show RV W st' v (.bool b)from J.2).b'
 show Ok (if(d.map AV.bool).length <=2 then some (if(d.map AV.bool).any (λa=>a.b?==some b)then d.map AV.bool else d.map AV.bool++[.bool b],F,st')else none) _;rw[if_pos (by rw[aP];exact(C1 d hd b).2)];refine⟨?_,J.1,g.cZ J.1⟩;have e:((d.map AV.bool).any λa=>a.b?==some b)=d.contains b:=by
  rw[NM];induction d with
  |nil=>rfl
  |cons x d N=>
   clear N;simp only[S5,bJ,ZH,a6,or_false,reduceCtorEq,false_or]at hd;rcases hd with⟨rfl,rfl⟩|⟨rfl,rfl⟩|⟨rfl,rfl⟩|⟨rfl,rfl⟩<;>cases b<;>rfl
 rw[e];unfold dd;cases d.contains b with
 |true=>rfl
 |false=>show d.map AV.bool++[.bool b]=(d++[b]).map AV.bool;rw[dR];rfl)
theorem MV{W:List Nat}{G:Gm}{k:Nat}{fe:EM}(bit:Nat->Bool):∀(l:List Nat){fuel:Nat}{it:It}{d:List Bool}{F:aj}{st:St},(∀p∈l,bh W (G.put k (.d (nD p))) fe (.bool (bit p)))->G k=none->l.length<fuel->d∈S5->Yl W (.name k) ((l.map nD).map .one) st it->GR W G F st->
 Ok (jN (.name k) bw (nB fe) fuel it (d.map .bool) F st) λq=>q.1=(l.foldl (λd p=>dd d (bit p)) d).map .bool /\l.foldl (λd p=>dd d (bit p)) d∈S5/\aN [] st q.2.2:=by
 intro l;induction l with
 |nil=>
  intro fuel it d F st hb hk hf hd Y g;cases fuel with
  |zero=>exact absurd hf (gk _)
  |succ fuel=>
   show Ok (if(b7.name k).fits it=true then(it.next st).bind _ else none) _;rw[if_pos Y.1,Y.2 st .rfl'];exact⟨rfl,hd,.rfl'⟩
 |cons p l O=>
  intro fuel it d F st hb hk hf hd Y g;cases fuel with
  |zero=>exact absurd hf (gk _)
  |succ fuel=>
   refine fH (Y.2 st .rfl') λitem gU R hs S=>?_;show Ok (if(b7.name k).fits it=true then(it.next st).bind _ else none) _;rw[if_pos Y.1,R];show Ok (((b7.name k).bind item F st).bind _) _;refine Ok.bind' (((gT.one (G:=G) hk).ok hs g).mono λF1 g1=>?_);show Ok ((nB fe (d.map .bool) F1 st).bind _) _;refine Ok.bind' ((VE (hb p (cj ..)) hd g1).mono λq J=>?_);obtain⟨acc,F2,bI⟩:=q;refine de J λe N g2=>?_;cases(show acc=(dd d (bit p)).map .bool from e)
   refine(O (fuel:=fuel) (it:=gU) (F:=F2) (st:=bI) (λx m=>hb x (cw _ m)) hk (mV hf) (C1 d hd (bit p)).1 (S.keep N.any) (g2.le (gT.one hk).le)).mono λq J=>⟨J.1,J.2.1,aN.trans N J.2.2⟩
theorem RQ{W:List Nat}{G:Gm}{fv:List Nat}{f fe:EM}{k:Nat}{l:List Nat}(bit:Nat->Bool)(hf:bh W G f (.tuple (l.map nD)))(hk:(G.only fv) k=none)(hl:l.length<400)(hb:∀p∈l,bh W ((G.only fv).put k (.d (nD p))) fe (.bool (bit p))):
 bh W G (ta fv (bL f) (.name k) bw (nB fe) 400) (nD (l.foldl (λd p=>dd d (bit p)) []).length):=λF st g=>by
 refine Ok.bind' ((Iy (W:=W) (k:=k) hf F st g).mono λp J=>Ok.bind' ((MV (G:=G.only fv) bit l (d:=[]) hb hk hl (by decide) J.2 ((g.cZ J.1).only fv)).mono λq N=>?_));obtain⟨acc,F2,bI⟩:=q;refine de N λe h5 O=>?_;cases(show acc=_ from e)
 show Ok (if((l.foldl (λd p=>dd d (bit p)) []).map AV.bool).length <=3 then some (AV.int ((l.foldl (λd p=>dd d (bit p)) []).map AV.bool).length,bI)else none) _;rw[aP,if_pos (by have:=(C1 _ h5 true).2;exact o4 this)];exact⟨aN.trans J.1 O,.int _⟩
noncomputable def kb:List (List (List Nat)):=[[[0,1,2]],[[0],[1,2]],[[1],[0,2]],[[2],[0,1]],[[0],[1],[2]]]
noncomputable def gh(ps:List (List Nat))(c:C9):Bool:=(ps.filter λp=>decide (1<(vn (cL c) p).length)).isEmpty
theorem UU:∀x y z:Bool,gh [[0,1,2]] (x,y,z)=cst (x,y,z)/\gh [[0],[1,2]] (x,y,z)=u0 (x,y,z)/\gh [[1],[0,2]] (x,y,z)=u1 (x,y,z)/\gh [[2],[0,1]] (x,y,z)=u2 (x,y,z)/\gh [[0],[1],[2]] (x,y,z)=true:=by decide
theorem Mc(w:Wt):kb.map (λps=>cnt w (gh ps))=gv w:=by
 have h:∀c:C9,_:=λc=>UU c.1 c.2.1 c.2.2;show[cnt w (gh [[0,1,2]]),cnt w (gh [[0],[1,2]]),cnt w (gh [[1],[0,2]]),cnt w (gh [[2],[0,1]]),cnt w (gh [[0],[1],[2]])]=_;rw[show gh [[0,1,2]]=cst from funext λc=>(h c).1,show gh [[0],[1,2]]=u0 from funext λc=>(h c).2.1,show gh [[1],[0,2]]=u1 from funext λc=>(h c).2.2.1,show gh [[2],[0,1]]=u2 from funext λc=>(h c).2.2.2.1,show gh [[0],[1],[2]]=λ_=>true from funext λc=>(h c).2.2.2.2];rfl
theorem sum_filter(w:Wt)(P:C9->Bool):((w.filter λp=>P p.2).map λp=>p.1).sum =cnt w P:=by
 induction w with
 |nil=>rfl
 |cons p w J=>
  rw[cnt_cons,<-J];cases h:P p.2 with
  |true=>rw[uj (by exact h),if_pos rfl];rfl
  |false=>rw[xx (by rw[h];exact d_),if_neg d_];exact(GZ _).symm
noncomputable def vN:EM:=(bK fM (ab (bl [21] (bC fP (ab (aa 44) (ab (aa 59) ag))) (.names [73,61]) (aS oEq (bl [61] (bL (aa 21)) (.name 22) (aS l_ (ta [61] (bL (aa 22)) (.name 26) bw (nB (aH (aa 61) (aa 26))) 400) (xk (.int 1))) (a_ (aa 22)) 400) (bD ag)) (a_ (aa 73)) 400) ag))
theorem BN:∀ps∈kb,∀p∈ps,(∀i∈p,i<3)/\p.length<400:=by decide
theorem DT:∀l:List (List Nat),jD (.list (l.map λp=>.tuple (p.map nD)))=true/\(fm (l.map λp=>.tuple (p.map nD))).depth <=4:=λl=>by
 have h:∀l:List (List Nat),eu (l.map λp=>xm (p.map nD))=true/\dW (l.map λp=>xm (p.map nD))<=1:=by
  intro l;induction l with
  |nil=>exact⟨by rw[fT,eu],by rw[fT,dW];decide⟩
  |cons a l J=>exact⟨by rw[bX,eu,kx,lay_ints,J.1];rfl,by rw[bX,dW,iF,A9];exact QV.mpr ⟨a7 _,J.2⟩⟩
 have d:(fm (l.map λp=>.tuple (p.map nD))).depth <=2:=by rw[iF];exact fj (h l).2
 refine⟨?_,aw d (by decide)⟩;unfold jD;rw[kx,(h l).1,decide_eq_true (by exact aw d (by decide))];rfl
theorem Wg{W:List Nat}{G:Gm}{w:Wt}(hw:w.length<400){ps:List (List Nat)}(J:ps∈kb)(N:G 44=some (.d (wD w)))(O:G 59=some (.d (cD w)))(R:G 21=some (.d (.list (ps.map λp=>.tuple (p.map nD))))):bh W G vN (.int (cnt w (gh ps))):=by
 have U:=pn (W:=W) (G:=G) (ks:=[73,61]) (fa:=ab (aa 44) (ab (aa 59) ag)) (aE (az N) (aE (az O) be));rw[wM,br]at U;have hc:=pa (W:=W) (G:=G) (fv:=[21]) (t:=λp:Int×C9=>gh ps p.2) (h:=λp=>.int p.1) (fe:=aa 73) (ti:=(aS oEq (bl [61] (bL (aa 21)) (.name 22) (aS l_ (ta [61] (bL (aa 22)) (.name 26) bw (nB (aH (aa 61) (aa 26))) 400) (xk (.int 1))) (a_ (aa 22)) 400) (bD ag))) U hw λp Y=>⟨_,.two rfl rfl,?_,λ_=>az rfl⟩
 ·have:=ia (g:=fM) (aE hc be) (by
   have:=s8 (W:=W) (ns:=(w.filter λp=>gh ps p.2).map λp=>p.1);rwa[br]at this)
  rwa[sum_filter]at this
 ·let G1:=((G.only [21]).put 73 (.d (.int p.1))).put 61 (.d (.list ((cL p.2).map .bool)))
  have hi:=iC (W:=W) (G:=G1) (tg:=.name 22) (az (k:=21) (show G 21=_ from R)) rfl;rw[br]at hi;have h2:=pa (W:=W) (G:=G1) (fv:=[61]) (t:=λq:List Nat=>decide (1<(vn (cL p.2) q).length)) (h:=λq=>.tuple (q.map nD)) (fe:=aa 22) (ti:=(aS l_ (ta [61] (bL (aa 22)) (.name 26) bw (nB (aH (aa 61) (aa 26))) 400) (xk (.int 1)))) hi (by
   have all:∀ps∈kb,ps.length<400:=by decide
   exact all ps J) λq S=>⟨_,.one rfl,by
   rw[<-uU 1 (vn (cL p.2) q).length];exact d6 (RQ (W:=W) (G:=(G1.only [61]).put 22 (.d (.tuple (q.map nD)))) (fv:=[61]) (fe:=aH (aa 61) (aa 26)) (k:=26) (cf (cL p.2)) (az rfl) rfl (BN ps J q S).2 λi hi=>aM (az (k:=61) rfl) (az rfl) (eh i (I8 p.2 ((BN ps J q S).1 i hi)) (du ((BN ps J q S).1 i hi) (by decide)))) (aW 1) (CU _ _),λ_=>az rfl⟩
  have h3:=d6 h2 (e6 be (cJ _)) (Cy (W:=W) ⟨(DT _).2,by rw[iF,dW];decide⟩ ⟨(DT _).1,by decide⟩ (.inl ⟨_,rfl⟩));have e:c6 (.list ((ps.filter λq=>decide (1<(vn (cL p.2) q).length)).map λq=>.tuple (q.map nD))) (.list [])=gh ps p.2:=by
   unfold gh;cases(ps.filter λq=>decide (1<(vn (cL p.2) q).length))with
   |nil=>rw[fT,c6,jX];rfl
   |cons a l=>rw[bX,c6,jX];rfl
  rw[e]at h3;exact h3
noncomputable def IK:EM:=(bD (ab (bD (ab (dc (ab (xk (.int 0)) (ab (xk (.int 1)) (ab (xk (.int 2)) ag)))) ag)) (ab (bD (ab (dc (ab (xk (.int 0)) ag)) (ab (dc (ab (xk (.int 1)) (ab (xk (.int 2)) ag))) ag))) (ab (bD (ab (dc (ab (xk (.int 1)) ag)) (ab (dc (ab (xk (.int 0)) (ab (xk (.int 2)) ag))) ag))) (ab (bD (ab (dc (ab (xk (.int 2)) ag)) (ab (dc (ab (xk (.int 0)) (ab (xk (.int 1)) ag))) ag))) (ab (bD (ab (dc (ab (xk (.int 0)) ag)) (ab (dc (ab (xk (.int 1)) ag)) (ab (dc (ab (xk (.int 2)) ag)) ag)))) ag))))))
theorem VO:q6=λF st=>((bL IK) F st).bind λp=>cB (.name 21) (ao (gN (bU ek bAppend (aa 78) (ab vN ag))) aC) 400 p.1 F p.2:=rfl
theorem VT(F:aj)(st:St):tP F st=some (.next,F.put 78 (.ref st.length),st++[.list []]):=by
 unfold tP;simp only[gF,x9,dI,bz,bo];rw[if_pos (show([]:List AV).length <=sizeLine from cJ _)];rfl
structure J1(W:List Nat)(G:Gm)(I I':St->Prop)(f:SM)(G':Gm):Prop where
 u:dK W G I I' f G'
noncomputable def pI(w:Wt)(ps:List (List Nat)):Int:=cnt w (gh ps)
section
variable{W:List Nat}{G:Gm}{w:Wt}
theorem OV:bh W G IK (.list (kb.map λps=>.list (ps.map λp=>.tuple (p.map nD)))):=by
 have t1:∀a:Nat,bh W G (dc (ab (xk (.int a)) ag)) (.tuple ([a].map nD)):=λa=>oh (aE (aW a) be) (show 1<=16777216 by decide);have J:∀a b:Nat,bh W G (dc (ab (xk (.int a)) (ab (xk (.int b)) ag))) (.tuple ([a,b].map nD)):=λa b=>oh (aE (aW a) (aE (aW b) be)) (show 2<=16777216 by decide);have t3:∀a b c:Nat,bh W G (dc (ab (xk (.int a)) (ab (xk (.int b)) (ab (xk (.int c)) ag)))) (.tuple ([a,b,c].map nD)):=λa b c=>oh (aE (aW a) (aE (aW b) (aE (aW c) be))) (show 3<=16777216 by decide);exact e6 (aE (e6 (aE (t3 0 1 2) be) (show 1<=16777216 by decide)) (aE (e6 (aE (t1 0) (aE (J 1 2) be)) (show 2<=16777216 by decide)) (aE (e6 (aE (t1 1) (aE (J 0 2) be)) (show 2<=16777216 by decide)) (aE (e6 (aE (t1 2) (aE (J 0 1) be)) (show 2<=16777216 by decide)) (aE (e6 (aE (t1 0) (aE (t1 1) (aE (t1 2) be))) (show 3<=16777216 by decide)) be))))) (show 5<=16777216 by decide)
theorem LC{k lc:Nat}{fe:EM}{xs:List Int}{x:Int}(hk:G k=some (.v (.ref lc)))(N:lc∈W)(hl:xs.length<=1000)(he:bh W G fe (.int x)):dK W G (λst=>st[lc]?=some (.list (xs.map .int))) (λst=>st[lc]?=some (.list ((xs++[x]).map .int))) (gN (bU ek bAppend (aa k) (ab fe ag))) G:=λF st g i=>by
 refine Ok.fK (Ok.bind' ?_);rw[show aa k F st=some (.ref lc,st) by rw[bP,g.av hk];rfl];show Ok ((ek (.ref lc) st).bind _) _;rw[nF _ _ _ i];show Ok ((ab fe ag F st).bind _) _;refine Ok.bind' (Ok.bind' ((he F st g).mono λq R=>?_));obtain⟨v,st1⟩:=q;have O:aN [] st st1:=R.1;cases(show RV W st1 v (.int x)from R.2).i'
 have J:=O.get i;show Ok (bAppend [.ref lc,.int x] st1) _;rw[r_ (xs.map .int) lc (.int x) st1 J (by rw[aP];exact aw hl (by decide))];have S:aN W st1 (st1.set lc (.list (xs.map .int ++[.int x]))):=lz N;refine⟨rfl,O.any.trans S,(g.cZ O).keep S,?_⟩;show(st1.set lc _)[lc]?=_;rw[get_set,if_pos rfl,if_pos (gq J),dR];rfl
theorem TB{lc:Nat}{fe:EM}(N:bh W G fe (.list (kb.map λps=>.list (ps.map λp=>.tuple (p.map nD)))))(O:lc∈W)(hw:w.length<400)(R:G 78=some (.v (.ref lc)))(S:G 44=some (.d (wD w)))(U:G 59=some (.d (cD w)))(Y:G 21=none):dK W G (λst=>st[lc]?=some (.list [])) (λst=>st[lc]?=some (.list ((gv w).map .int))) (λF st=>((bL fe) F st).bind λp=>cB (.name 21) (ao (gN (bU ek bAppend (aa 78) (ab vN ag))) aC) 400 p.1 F p.2) G:=by
 rw[<-show kb.map (pI w)=gv w from Mc w];have hi:=iC (W:=W) (G:=G) (tg:=.name 21) N rfl;have Z4:∀o:AO,gQ λst=>st[lc]?=some o:=λo a b k e=>k.get e;have key:=qA (W:=W) (G:=G) (tg:=.name 21) (fi:=bL fe) (as:=(kb.map λps=>fm (ps.map λp=>.tuple (p.map nD))).map .one) (I:=λst=>st[lc]?=some (.list [])) (b:=ao (gN (bU ek bAppend (aa 78) (ab vN ag))) aC) (λj st=>st[lc]?=some (.list (((kb.take j).map (pI w)).map .int))) (by rw[Gr,fT,fT];exact sJ hi (Z4 (.list []))) (by rw[aP,aP];exact(show 5<400 by decide)) λj a ha=>?_
 ·rw[aP,aP,uC]at key
  exact key
 rw[br,dQ]at ha;refine aG (ji.mp ha) λps J Z5=>?_;subst Z5;have hm:=j8 J;refine⟨_,.one,qI (qj (k:=21) (p:=.d (.list (ps.map λp=>.tuple (p.map nD)))) ?_ Y)⟩;have e:(kb.take (j+1)).map (pI w)=(kb.take j).map (pI w)++[pI w ps]:=by rw[nR,J,dR];rfl
 rw[e];have p:∀{i:Nat}{v:Vl},i≠21->G i=some v->(G.put 21 (.d (.list (ps.map λp=>.tuple (p.map nD))))) i=some v:=λh e=>by rw[Gm.put,if_neg h];exact e
 have hlen:((kb.take j).map (pI w)).length <=1000:=by
  have h5:kb.length=5:=rfl;rw[aP,iG,h5];exact aw (jZ ..) (by decide)
 exact LC (k:=78) (lc:=lc) (xs:=(kb.take j).map (pI w)) (x:=pI w ps) (fe:=vN) (p (by decide) R) O hlen (Wg hw hm (p (by decide) S) (p (by decide) U) (by rw[Gm.put,if_pos rfl]))
theorem VL{lc:Nat}(J:lc∈W)(hw:w.length<400)(N:G 78=some (.v (.ref lc)))(O:G 44=some (.d (wD w)))(R:G 59=some (.d (cD w)))(S:G 21=none):J1 W G (λst=>st[lc]?=some (.list [])) (λst=>st[lc]?=some (.list ((gv w).map .int))) q6 G:=by
 rw[VO];exact⟨TB OV J hw N O R S⟩
theorem yc{l:List Int}{fa}(h:jw W G fa (l.map .int))(hl:l.length<=16777216):bh W G (bD fa) (iD l):=e6 h (by rw[aP];exact hl)
theorem Uq:Sg W G tR (.next (G.put 83 (.d (iD [1])))):=fQ (yc (l:=[1]) (aE (gL 1) be) (show 1<=16777216 by decide))
theorem Wh:Sg W G tN (.next (G.put 77 (.d (iD [0,0,0,0])))):=fQ (yc (l:=[0,0,0,0]) (aE (gL 0) (aE (gL 0) (aE (gL 0) (aE (gL 0) be)))) (show 4<=16777216 by decide))
theorem UZ:Sg W G tO (.next (G.put 69 (.d (iD [0,0,0,0,0,0])))):=fQ (yc (l:=[0,0,0,0,0,0]) (aE (gL 0) (aE (gL 0) (aE (gL 0) (aE (gL 0) (aE (gL 0) (aE (gL 0) be)))))) (show 6<=16777216 by decide))
theorem Ae(c:Int)(P:List Int):eD c P=((0::P).zip (P++[0])).map λq=>q.1 -c*q.2:=by
 unfold eD;rw[List.map_zip_eq_zipWith];rfl
theorem Su{c:Int}{P:List Int}(hc:c.natAbs<18446744073709551616)(N:P.length<300)(J:G 83=some (.d (iD P)))(O:G 79=some (.d (.int c))):bh W G (bl [79] (bC fP (ab (ay aX (bD (ab (xk (.int 0)) ag)) (aa 83)) (ab (ay aX (aa 83) (bD (ab (xk (.int 0)) ag))) ag))) (.names [84,85]) bw (a_ (ay kl (aa 84) (ay cU (aa 79) (aa 85)))) 400) (iD (eD c P)):=by
 have R:bh W G (bD (ab (xk (.int 0)) ag)) (iD [0]):=yc (l:=[0]) (aE (gL 0) be) (show 1<=16777216 by decide);have S:=pn (W:=W) (G:=G) (ks:=[84,85]) (fa:=ab (ay aX (bD (ab (xk (.int 0)) ag)) (aa 83)) (ab (ay aX (aa 83) (bD (ab (xk (.int 0)) ag))) ag)) (aE (aM R (az J) (nY (by rw[aP,aP,hU];exact dx (a7 1) (cq N) (by decide)))) (aE (aM (az J) R (nY (by rw[aP,aP,hU];exact dx (cq N) (a7 1) (by decide)))) be));rw[<-dR,<-dR,Rm,br]at S;have:=fE (W:=W) (G:=G) (fv:=[79]) (h:=λq:Int×Int=>.int (q.1 -c*q.2)) (fe:=ay kl (aa 84) (ay cU (aa 79) (aa 85))) S (by rw[GO];exact bQ (jZ ..) (by rw[aT];exact bQ (fj (cq N)) (by decide))) λq U=>⟨_,.two rfl rfl,aM (az rfl) (aM (az (k:=79) (show G 79=_ from O)) (az rfl) (om c q.2 hc)) (CJ _ _)⟩;rw[Ae,iD,br];exact this
end
theorem Sg.le{W:List Nat}{G G1 G2:Gm}{f:SM}(h:Sg W G f (.next G1))(le:∀j q,G2 j=some q->G1 j=some q):Sg W G f (.next G2):=λF st g=>(h F st g).mono λq J=>⟨J.1,J.2.1,GR.le J.2.2 le⟩
theorem M7(c:Int)(P:List Int):(eD c P).length =P.length+1:=by
 rw[Ae,aP,GO,aT,dE,hU,xn]
noncomputable def jM(cs:List Int):List Int:=cs.foldl (λP c=>eD c P) [1]
theorem K8(cs:List Int)(c:Int):jM (cs++[c])=eD c (jM cs):=by unfold jM;rw[List.foldl_append];rfl
theorem EO(cs:List Int):(jM cs).length =cs.length+1:=by
 have:∀(cs P:List Int),(cs.foldl (λP c=>eD c P) P).length =P.length+cs.length:=by
  intro cs;induction cs with
  |nil=>intro P;rfl
  |cons c cs J=>intro P;rw[mY,J,M7,dE];exact hH ..
 unfold jM;rw[this,hU,gI]
noncomputable def Jr:EM:=(bl [79] (bC fP (ab (ay aX (bD (ab (xk (.int 0)) ag)) (aa 83)) (ab (ay aX (aa 83) (bD (ab (xk (.int 0)) ag))) ag))) (.names [84,85]) bw (a_ (ay kl (aa 84) (ay cU (aa 79) (aa 85)))) 400)
theorem Un:oJ=(λF st=>((bL (aa 78)) F st).bind λp=>cB (.name 79) (ao (bj 83 Jr) aC) 400 p.1 F p.2):=rfl
section
variable{W:List Nat}{G:Gm}{w:Wt}
theorem UM{cs:List Int}(hl:cs.length<=100)(hc:∀c∈cs,c.natAbs<18446744073709551616)(R:G 78=some (.d (iD cs)))(S:G 79=none):Sg W (G.put 83 (.d (iD [1]))) oJ (.next (G.put 83 (.d (iD (jM cs))))):=by
 rw[Un];have hi:=iC (W:=W) (G:=G.put 83 (.d (iD [1]))) (tg:=.name 79) (az (k:=78) (show(G.put 83 (.d (iD [1]))) 78=some (.d (iD cs)) by rw[Gm.put,if_neg (by decide)];exact R)) rfl;rw[br]at hi;have hlen:(cs.map (Ai.one∘iV)).length =cs.length:=aP _;have key:=ym (W:=W) (G:=G.put 83 (.d (iD [1]))) (tg:=.name 79) (b:=ao (bj 83 Jr) aC) (λr=>G.put 83 (.d (iD (jM (cs.take (cs.length -r.length)))))) hi (by rw[hlen,mn];rfl) (by rw[hlen];exact bQ hl (by decide)) λa r hr=>by
  refine bO hr λt ht=>?_;have J:=congrArg m3 ht;rw[aT,dE,hlen]at J;have Y:(cs.map (Ai.one∘iV))[t.length]?=some a:=by rw[<-ht,j5 (a7 _),mn];rfl
  rw[dQ]at Y;refine aG (ji.mp Y) λc O U=>?_;subst U;have e1:cs.length -((Ai.one∘iV) c::r).length =t.length:=by rw[dE];exact r6 J.symm
  have e2:cs.length -r.length=t.length+1:=by exact r6 (J.symm.trans (hH t.length r.length 1))
  refine⟨_,.one,?_⟩;rw[e1,e2,nR,O];show Sg W _ _ (.next (G.put 83 (.d (iD (jM (cs.take t.length++[c]))))));rw[K8];have hP:(jM (cs.take t.length)).length <300:=by rw[EO,iG];have:=jZ t.length cs.length;exact bQ (fj (aw this hl)) (by decide)
  refine Sg.le (mA (fQ (Su (hc c (j8 O)) hP (by rw[Gm.put,if_neg (by decide),Gm.put,if_pos rfl]) (by rw[Gm.put,if_pos rfl])))) λi q e=>?_;unfold Gm.put at e ⊢;by_cases N:i=83
  ·rw[if_pos N]at e ⊢;exact e
  ·rw[if_neg N]at e ⊢
   rw[if_neg (λz=>by rw[z,S]at e;cases e),if_neg N];exact e
 have e0:cs.length -([]:List Ai).length =cs.length:=Nat.sub_zero _;rw[e0,uC]at key;exact key
noncomputable abbrev pD(w:Wt)(first i:Nat):aB:=iD ((cE 6).map (pw w first i))
noncomputable abbrev nz(w:Wt)(first n:Nat):aB:=.list ((cE n).map (pD w first))
noncomputable def JM:EM:=(bl [80] (bC cR (ab (xk (.int 6)) ag)) (.name 24) bw (a_ (gd (aS oEq (aa 24) (aa 80)) (xk (.int 1)) (xk (.int 0)))) 400)
noncomputable def vW:EM:=(bl [44,57,81] (bC cR (ab (xk (.int 6)) ag)) (.name 24) bw (a_ (bK fM (ab (bl [81,24] (bC fP (ab (aa 44) (ab (aa 57) ag))) (.names [73,63]) bw (a_ (ay cU (aa 73) (aH (aH (aa 81) (jb (xk (.int 1)))) (aH (aa 63) (aa 24))))) 400) ag))) 400)
noncomputable def Dl:aj->St->Option (Bool×St):=(aS c5 (bl [83,81] (bC cR (ab (xk (.int 6)) ag)) (.name 24) (aS c5 (bK fM (ab (bl [24] (bC fP (ab (aa 83) (ab (aa 81) ag))) (.names [75,65]) bw (a_ (ay cU (aa 75) (aH (aa 65) (aa 24)))) 400) ag)) (xk (.int 0))) (a_ (aa 24)) 400) (bD ag))
noncomputable def J4:EM:=(bl [80] (bC fP (ab (aa 77) (ab (cH (aa 81) (bY (xk (.int 1))) bb bb) ag))) (.names [82,65]) bw (a_ (ay aX (aa 82) (aH (aa 65) (aa 80)))) 400)
noncomputable def wb:SM:=(ao (bj 81 (bD (ab JM ag)))
 (ao (λF st=>((bC cR (ab (xk (.int 5)) ag)) F st).bind λp=>cB (.name 42) (ao (gN (bU ek bAppend (aa 81) (ab vW ag))) aC) 400 p.1 F p.2)
 (ao (cn Dl (ao (cy (xk (.bool false))) aC) aC)
 (ao (bj 77 J4) aC))))
theorem UP:rg=λF st=>((bC cR (ab (xk (.int 6)) ag)) F st).bind λp=>cB (.name 80) wb 400 p.1 F p.2:=rfl
theorem sV{k:Nat}:fg W G (.name k) (bC cR (ab (xk (.int 6)) ag)) ((cE 6).map λj:Nat=>.one (nD j)):=by
 have:=oO (W:=W) (G:=G) (k:=k) (fa:=ab (xk (.int 6)) ag) (n:=6) (aE (aW 6) be) (by decide);exact this
theorem Vy{k:Nat}:fg W G (.name k) (bC cR (ab (xk (.int 5)) ag)) ((cE 5).map λj:Nat=>.one (nD j)):=by
 have:=oO (W:=W) (G:=G) (k:=k) (fa:=ab (xk (.int 5)) ag) (n:=5) (aE (aW 5) be) (by decide);exact this
theorem Vz{first:Nat}(J:G 80=some (.d (nD first))):bh W G JM (pD w first 0):=by
 have:=fE (W:=W) (G:=G) (fv:=[80]) (h:=λj:Nat=>.int (if j=first then 1 else 0)) (fe:=gd (aS oEq (aa 24) (aa 80)) (xk (.int 1)) (xk (.int 0))) sV (by rw[eI];decide) λj _=>⟨_,.one rfl,qK (cast_eq j first▸d6 (G:=(G.only [80]).put 24 (.d (nD j))) (az (k:=24) rfl) (az (k:=80) (show G 80=_ from J)) (pA _ _)) (λh=>by rw[if_pos (of_decide_eq_true h)];exact gL 1) λh=>by rw[if_neg (of_decide_eq_false h)];exact gL 0⟩;rw[pD,iD,br];exact this
theorem BM(first i:Nat){k:Nat}(hk:k<6):((((cE 6).map (pw w first i)).map iV)[k]?)=some (.int (pw w first i k)):=by
 rw[dQ,dQ,uv hk];rfl
theorem AU(c:C9){k:Nat}(hk:k<6):((kT (cL c)).map nD)[k]?=some (nD (sF c k)):=by
 rw[dQ];exact congrArg (lA nD) (nV c.1 c.2.1 c.2.2 ⟨k,hk⟩).1
theorem U5{first i:Nat}(hw:w.length<400)(hb:∀p∈w,p.1.natAbs <18446744073709551616)(Y:i<=10)(O:G 44=some (.d (wD w)))(R:G 57=some (.d (rD w)))(S:G 81=some (.d (nz w first (i+1)))):bh W G vW (pD w first (i+1)):=by
 have:=fE (W:=W) (G:=G) (fv:=[44,57,81]) (h:=λk:Nat=>.int (pw w first (i+1) k)) (fe:=(bK fM (ab (bl [81,24] (bC fP (ab (aa 44) (ab (aa 57) ag))) (.names [73,63]) bw (a_ (ay cU (aa 73) (aH (aH (aa 81) (jb (xk (.int 1)))) (aH (aa 63) (aa 24))))) 400) ag))) (sV (k:=24)) (by rw[eI];decide) λk hk=>⟨_,.one rfl,?_⟩
 ·rw[pD,iD,br]
  exact this
 ·have J:k<6:=mZ.mp hk
  let G1:=(G.only [44,57,81]).put 24 (.d (nD k));have U:=pn (W:=W) (G:=G1) (ks:=[73,63]) (fa:=ab (aa 44) (ab (aa 57) ag)) (aE (az (k:=44) (show G 44=_ from O)) (aE (az (k:=57) (show G 57=_ from R)) be));rw[wM,br]at U;have N:cO W kQ (nz w first (i+1)) (.int (-((1:Nat):Int))) (pD w first i):=Sx 1 (by rw[aP,eI,OO,dQ,uv (iI i)];rfl) (a7 1) (by rw[aP,eI];exact dm 1 i) (by decide);have hc:=fE (W:=W) (G:=G1) (fv:=[81,24]) (h:=λp:Int×C9=>.int (p.1*pw w first i (sF p.2 k))) (fe:=(ay cU (aa 73) (aH (aH (aa 81) (jb (xk (.int 1)))) (aH (aa 63) (aa 24))))) U hw λp hp=>⟨_,.two rfl rfl,aM (az rfl) (aM (aM (az (k:=81) (show G 81=_ from S)) (IH (aW 1)) N) (aM (az rfl) (az (k:=24) rfl) (eh k (AU p.2 J) (du J (by decide)))) (eh _ (BM first i (lU p.2 J)) (du (lU p.2 J) (by decide)))) (om _ _ (hb p hp))⟩;have:=ia (g:=fM) (aE hc be) (by
   have:=s8 (W:=W) (ns:=w.map λp=>p.1*pw w first i (sF p.2 k));rwa[br]at this)
  exact this
end
theorem UT(w:Wt)(first k:Nat):∀(P:List Int)(i:Nat),fA w P (pw w first i) k=((P.zip (uG i P.length)).map λq=>q.1*pw w first q.2 k).sum :=by
 intro P;induction P with
 |nil=>
  intro i;exact rfl
 |cons p P J=>
  intro i;rw[dE,Gn,ku,bX,rP,<-J (i+1)];rfl
theorem Ik{W:List Nat}{st:St}:∀l:List Int,aQ W st (l.map .int) (l.map .int):=by
 intro l;induction l with
 |nil=>
  exact .nil
 |cons x l J=>
  exact .cons (.int x) (J)
section
variable{W:List Nat}{G:Gm}{w:Wt}
theorem Wu{first:Nat}{P:List Int}(U:P.length=6)(hb:∀c∈P,c.natAbs<18446744073709551616)(Y:∀k,k<6->fA w P (pw w first 0) k=0)(R:G 83=some (.d (iD P)))(S:G 81=some (.d (nz w first 6))):fb W G Dl false:=by
 have hc:=pa (W:=W) (G:=G) (fv:=[83,81]) (t:=λ_:Nat=>false) (h:=nD) (fe:=aa 24) (ti:=(aS c5 (bK fM (ab (bl [24] (bC fP (ab (aa 83) (ab (aa 81) ag))) (.names [75,65]) bw (a_ (ay cU (aa 75) (aH (aa 65) (aa 24)))) 400) ag)) (xk (.int 0)))) (sV (k:=24)) (by rw[eI];decide) λk hk=>⟨_,.one rfl,?_,λe=>absurd e (by decide)⟩
 ·rw[FU.mpr λ_ _=>d_]at hc
  exact d6 hc (e6 be (cJ _)) (xV (a:=[]) λ_ m=>absurd m a6)
 ·have N:k<6:=mZ.mp hk
  let G1:=(G.only [83,81]).put 24 (.d (nD k));have O:=pn (W:=W) (G:=G1) (ks:=[75,65]) (fa:=ab (aa 83) (ab (aa 81) ag)) (aE (az (k:=83) (show G 83=_ from R)) (aE (az (k:=81) (show G 81=_ from S)) be));rw[Rm,br]at O;have hs:=fE (W:=W) (G:=G1) (fv:=[24]) (h:=λq:Int×Nat=>.int (q.1*pw w first q.2 k)) (fe:=(ay cU (aa 75) (aH (aa 65) (aa 24)))) O (by rw[GO,U,eI];decide) λq hq=>⟨_,.two rfl rfl,aM (az rfl) (aM (az rfl) (az (k:=24) rfl) (eh k (BM first q.2 N) (du N (by decide)))) (om _ _ (hb q.1 (Qv hq).1))⟩;have J:=ia (g:=fM) (aE hs be) (by
   have:=s8 (W:=W) (ns:=(P.zip (cE 6)).map λq=>q.1*pw w first q.2 k);rwa[br]at this)
  have e0:((P.zip (cE 6)).map λq=>q.1*pw w first q.2 k).sum =0:=by
   have:=UT w first k P 0;rw[U,<-List.range_eq_range',Y k N]at this;exact this.symm
  rw[e0]at J;exact d6 J (gL 0) (UL 0 0)
noncomputable def nA(w:Wt)(j m:Nat):Int:=((cE j).map λf=>pw w f m f).sum
theorem SR(w:Wt)(j m:Nat):nA w (j+1) m=nA w j m+pw w j m j:=by
 unfold nA;rw[G5,dR,G8];show _+(pw w j m j+0)=_;rw[xO]
noncomputable abbrev jy(w:Wt)(j:Nat):aB:=iD ([1,2,3,4].map (nA w j))
theorem Wc{first:Nat}(hf:first<6)(J:G 77=some (.d (jy w first)))(N:G 81=some (.d (nz w first 6)))(O:G 80=some (.d (nD first))):bh W G J4 (jy w (first+1)):=by
 have R:=pn (W:=W) (G:=G) (ks:=[82,65]) (fa:=ab (aa 77) (ab (cH (aa 81) (bY (xk (.int 1))) bb bb) ag)) (aE (az J) (aE (iT (az N) (fS (aW 1)) dO dO (qC 1 (by rw[aP,eI];decide))) be));have e:((([1,2,3,4].map (nA w first)).map iV).zip (((cE 6).map (pD w first)).drop 1)).map (λp=>Ai.two p.1 p.2)=[1,2,3,4].map λm=>.two (.int (nA w first m)) (pD w first m):=rfl;rw[e]at R;have:=fE (W:=W) (G:=G) (fv:=[80]) (h:=λm:Nat=>.int (nA w (first+1) m)) (fe:=(ay aX (aa 82) (aH (aa 65) (aa 80)))) R (show 4<400 by decide) λm hm=>⟨_,.two rfl rfl,by
  rw[SR];exact aM (az rfl) (aM (az rfl) (az (k:=80) (show G 80=_ from O)) (eh first (BM first m hf) (du hf (by decide)))) (yz _ _)⟩
 rw[jy,iD,br];exact this
noncomputable def IP(w:Wt)(first lp j:Nat)(st:St):Prop:=∃xs,st[lp]?=some (.list xs)/\aQ [lp] st xs ((cE (j+1)).map (pD w first))
theorem Tp{first lp j:Nat}(hw:w.length<400)(hb:∀p∈w,p.1.natAbs <18446744073709551616)(hj:j<=10)(U:G 44=some (.d (wD w)))(Y:G 57=some (.d (rD w)))(O:G 81=some (.v (.ref lp))):dK [lp] G (IP w first lp j) (IP w first lp (j+1)) (gN (bU ek bAppend (aa 81) (ab vW ag))) G:=λF st g i=>by
 refine aG i λxs hx R=>?_;refine Ok.fK (Ok.bind' ?_);rw[show aa 81 F st=some (.ref lp,st) by rw[bP,g.av O];rfl];show Ok ((ek (.ref lp) st).bind _) _;rw[nF _ _ _ hx];show Ok ((ab vW ag F st).bind _) _;have Z4:aQ [] st xs ((cE (j+1)).map (pD w first)):=aQ.to (W:=[lp]) (λl _ _=>⟨a6,rfl⟩) R;have g0:GR [] (G.put 81 (.d (nz w first (j+1)))) F st:=(g.shrink (W':=[]) λ_ m=>absurd m a6).vP (g.av O) (.list a6 hx Z4);refine Ok.bind' (Ok.bind' ((U5 (W:=[]) (first:=first) (i:=j) hw hb hj (by rw[Gm.put,if_neg (by decide)];exact U) (by rw[Gm.put,if_neg (by decide)];exact Y) (by rw[Gm.put,if_pos rfl]) F st g0).mono λq hq=>?_));obtain⟨v,st1⟩:=q;have S:aN [] st st1:=hq.1;refine fF ((show RV [] st1 v (pD w first (j+1))from hq.2).l') λl' ys J _ hy ry=>?_;subst J;have ey:=ry.ints;have N:=S.get hx;have Z5:l'≠lp:=λz=>by
  rw[z,N]at hy;cases hy
  refine aG (R.get (i:=0) (d:=pD w first 0) (by rw[dQ,uv (uq j)];rfl)) λx ex Z6=>?_;refine ou Z6.l' λl2 Z7 J _=>?_;subst J;rw[ey,dQ]at ex;refine aG (ji.mp ex) λ_ _ h=>?_;cases h
 show Ok (bAppend [.ref lp,.ref l'] st1) _;rw[r_ xs lp (.ref l') st1 N (by rw[R.len,aP,eI];exact aw (fj hj) (by decide))];have kW:aN [lp] st1 (st1.set lp (.list (xs++[.ref l']))):=lz (cj ..);refine⟨rfl,S.any.trans kW,(g.cZ S).keep kW,xs++[.ref l'],?_,?_⟩
 ·show(st1.set lp _)[lp]?=_
  rw[get_set,if_pos rfl,if_pos (gq N)]
 ·rw[G5,dR]
  have rv:RV [lp] st1 (.ref l') (pD w first (j+1)):=.list (λm=>Z5 (cx.mp m)) hy (by rw[ey];exact Ik _);exact aQ.keep kW ((aQ.keep S.any R).app (.cons rv .nil))
theorem UO{first:Nat}{P:List Int}(hf:first<6)(hw:w.length<400)(hb:∀p∈w,p.1.natAbs <18446744073709551616)(hP:P.length=6)(U:∀c∈P,c.natAbs<18446744073709551616)(hz:∀k,k<6->fA w P (pw w first 0) k=0)
 (Y:G 44=some (.d (wD w)))(Z4:G 57=some (.d (rD w)))(Z5:G 83=some (.d (iD P)))(Z6:G 77=some (.d (jy w first)))(R:G 80=some (.d (nD first)))(Z7:G 42=none)(Z8:G 81=none):Sg [] G wb (.next (G.put 77 (.d (jy w (first+1))))):=λF st g=>by
 refine fH (Iq (k:=81) g (aE (Vz (w:=w) R) be) (show 1<=16777216 by decide)) λst1 xs e k1 r1=>?_;generalize J:st1.length=lp at e;have N:st.length<=lp:=J▸k1.len;refine sq (Ok.of e ⟨rfl,?_⟩);have S:aN [] st (st1++[.list xs]):=k1.trans (.app _);have gA:GR [lp] (G.put 81 (.v (.ref lp))) (F.put 81 (.ref lp)) (st1++[.list xs]):=(g.grow (l:=lp) S N (by rw[aT,J];exact iI _)).put (p:=.v _) rfl;have xA:(st1++[AO.list xs])[lp]?=some (.list xs):=J▸ng;have iA:IP w first lp 0 (st1++[.list xs]):=⟨xs,xA,aQ.keep (.app _) (aQ.to (W:=[]) (W':=[lp]) (st:=st1) (st':=st1) (λl hl _=>⟨λm=>by rw[cx.mp m,J]at hl;exact absurd hl (jH _),rfl⟩) r1)⟩;have Z9:∀j,gQ (IP w first lp j):=λj a b k h=>h.imp λxs q=>⟨k.get q.1,aQ.keep k.any q.2⟩;have O:=qA (W:=[lp]) (G:=G.put 81 (.v (.ref lp))) (I:=IP w first lp 0) (tg:=.name 42) (fi:=bC cR (ab (xk (.int 5)) ag)) (b:=ao (gN (bU ek bAppend (aa 81) (ab vW ag))) aC) (as:=(cE 5).map λj:Nat=>.one (nD j)) (λj=>IP w first lp j) (sJ Vy (Z9 0)) (by rw[aP,eI];decide) λj a ha=>by
  have hj:j<5:=by
   have:=(fX.mp ha).1;rw[aP,eI]at this;exact this
  rw[dQ,uv hj]at ha;cases ha
  refine⟨_,.one,qI (qj (k:=42) (p:=.d (nD j)) (Tp (w:=w) hw hb (by exact aw (fV hj) (by decide)) ?_ ?_ ?_) (show(if 42=81 then _ else G 42)=none from Z7))⟩
  ·exact Y
  ·exact Z4
  ·rfl
 rw[aP,eI]at O;refine mw O gA iA λF2 bI k2 g2 i2=>?_;refine aG i2 λys hy ry=>?_;have Z_:=g2.av (k:=81) (v:=.ref lp) rfl;have g3:GR [] (G.put 81 (.d (nz w first 6))) F2 bI:=by
  have:=(g2.shrink (W':=[]) λ_ m=>absurd m a6).vP (k:=81) (p:=.d (nz w first 6)) Z_ (.list a6 hy (aQ.to (W:=[lp]) (λl _ _=>⟨a6,rfl⟩) ry));exact this.le λj q e=>by
   unfold Gm.put at e ⊢;by_cases z:j=81
   ·rw[if_pos z]at e ⊢;exact e
   ·rw[if_neg z]at e ⊢;rw[if_neg z];exact e
 have kB:aN [] st bI:=⟨aw S.len k2.len,λl hl _=>(k2.at' l (cK hl S.len) (λm=>by rw[cx.mp m]at hl;exact absurd N (j0.mpr hl))).trans (S.at' l hl a6)⟩;have p:∀{i:Nat}{v:Vl},i≠81->G i=some v->(G.put 81 (.d (nz w first 6))) i=some v:=λh e=>by rw[Gm.put,if_neg h];exact e
 have s1:Sg [] (G.put 81 (.d (nz w first 6))) (cn Dl (ao (cy (xk (.bool false))) aC) aC) (.next (G.put 81 (.d (nz w first 6)))):=te (Wu hP U hz (p (by decide) Z5) (by rw[Gm.put,if_pos rfl])) (λh=>absurd h (by decide)) λ_=>CK;have s2:=n_ s1 (mA (fQ (k:=77) (p:=.d (jy w (first+1))) (Wc (W:=[]) hf (p (by decide) Z6) (by rw[Gm.put,if_pos rfl]) (p (by decide) R))));refine(s2 F2 bI g3).mono λq hq=>⟨kB.trans hq.1,hq.2.1,GR.le hq.2.2 λj v e=>?_⟩;unfold Gm.put at e ⊢;by_cases z:j=77
 ·rw[if_pos z]at e ⊢;exact e
 ·rw[if_neg z]at e ⊢
  rw[if_neg (λy=>by rw[y,Z8]at e;cases e)];exact e
end
section
variable{G:Gm}{w:Wt}
theorem U8{P:List Int}(hw:w.length<400)(hb:∀p∈w,p.1.natAbs <18446744073709551616)(hP:P.length=6)(O:∀c∈P,c.natAbs<18446744073709551616)(hz:∀first k,k<6->fA w P (pw w first 0) k=0)
 (R:G 44=some (.d (wD w)))(S:G 57=some (.d (rD w)))(U:G 83=some (.d (iD P)))(Y:G 80=none)(Z4:G 42=none)(Z5:G 81=none):Sg [] (G.put 77 (.d (jy w 0))) rg (.next (G.put 77 (.d (jy w 6)))):=by
 rw[UP];have hlen:((cE 6).map λj:Nat=>Ai.one (nD j)).length =6:=by rw[aP,eI]
 have key:=ym (W:=[]) (G:=G.put 77 (.d (jy w 0))) (tg:=.name 80) (fi:=bC cR (ab (xk (.int 6)) ag)) (b:=wb) (as:=(cE 6).map λj:Nat=>.one (nD j)) (λr=>G.put 77 (.d (jy w (6 -r.length)))) sV (by rw[hlen]) (by rw[hlen];decide) λa r hr=>by
  obtain⟨t,ht⟩:=hr;have J:=congrArg m3 ht;rw[aT,dE,hlen]at J;have hj:((cE 6).map λj:Nat=>Ai.one (nD j))[t.length]?=some a:=by rw[<-ht,j5 (a7 _),mn];rfl
  have N:t.length<6:=by exact rH (bS J)
  rw[dQ,uv N]at hj;cases hj
  have e1:6 -(Ai.one (nD t.length)::r).length =t.length:=by rw[dE];exact r6 J.symm
  have e2:6 -r.length=t.length+1:=by exact r6 (J.symm.trans (hH t.length r.length 1))
  refine⟨_,.one,?_⟩;rw[e1,e2];have p:∀{i:Nat}{v:Option Vl},i≠77->i≠80->G i=v->((G.put 77 (.d (jy w t.length))).put 80 (.d (nD t.length))) i=v:=λh h' e=>by rw[Gm.put,if_neg h',Gm.put,if_neg h];exact e
  refine Sg.le (UO (G:=(G.put 77 (.d (jy w t.length))).put 80 (.d (nD t.length))) (first:=t.length) N hw hb hP O (hz t.length) (p (by decide) (by decide) R) (p (by decide) (by decide) S) (p (by decide) (by decide) U) ?_ ?_ (p (by decide) (by decide) Z4) (p (by decide) (by decide) Z5)) λi q e=>?_
  ·rw[Gm.put,if_neg (by decide),Gm.put,if_pos rfl]
  ·rw[Gm.put,if_pos rfl]
  ·unfold Gm.put at e ⊢
   by_cases z:i=77
   ·rw[if_pos z]at e ⊢;exact e
   ·rw[if_neg z]at e ⊢
    rw[if_neg (λy=>by rw[y,Y]at e;cases e),if_neg z];exact e
 exact key
end
section
variable{W:List Nat}{G:Gm}{w:Wt}
theorem IY{x:Int}{m:Nat}(J:x.natAbs<18446744073709551616)(hm:m<=4):cO W ja (.int x) (nD m) (.int (x^m)):=lg (λst=>by
 unfold ja nj;rw[mG,bo,mG,bo];show lA _ (if(0:Int)<=(m:Int)/\(fD x:Int)*(m:Int)<=2^27 then _ else none)=_;have hb:=bits_le J;have hmul:fD x*m<=64*4:=A5 hb hm;have hi:(fD x:Int)*(m:Int)<=256:=by
  have:((fD x*m:Nat):Int)<=((64*4:Nat):Int):=lC.mpr hmul;rwa[NH]at this
 rw[if_pos ⟨eA m,p9 hi (by decide)⟩];rfl) λst=>.int _
theorem Ta{k:Nat}:fg W G (.name k) (bC cR (ab (xk (.int 1)) (ab (xk (.int 5)) ag))) ([1,2,3,4].map λm:Nat=>.one (nD m)):=λF st g=>by
 have e:cR [.int 1,.int 5] st=some (.range 1 4 1,st):=by
  have h:ye [.int 1,.int 5] st=some (.range 1 (if(1:Int)<5 then 5 -1 else 0) 1,st):=by
   show(if(fZ 1&&fZ 5)=true then some (It.range 1 (if(1:Int)<5 then 5 -1 else 0) 1,st)else none)=_;exact if_pos (show(fZ 1&&fZ 5)=true by decide)
  show(BP [.int 1,.int 5] st).or (ye [.int 1,.int 5] st)=_;rw[h];rfl
 have y:=Fw (W:=W) (k:=k) 4 1 st;have J:((cE 4).map λj:Nat=>Ai.one (.int (1+(j:Int))))=[1,2,3,4].map λm:Nat=>.one (nD m):=rfl;rw[J]at y;exact Ok.of (show bC cR (ab (xk (.int 1)) (ab (xk (.int 5)) ag)) F st=some (.range 1 4 1,st)from e) ⟨.rfl',y⟩
theorem VY:rf=(cn (aS c5 (aa 77) (bl [78] (bC cR (ab (xk (.int 1)) (ab (xk (.int 5)) ag))) (.name 24) bw (a_ (ay aX (ay ja (aH (aa 78) (xk (.int 0))) (aa 24)) (bK fM (ab (bl [24] (bL (aa 78)) (.name 79) bw (a_ (ay ja (aa 79) (aa 24))) 400) ag)))) 400)) (ao (cy (xk (.bool false))) aC) aC):=rfl
theorem Ut{cs:List Int}{c0:Int}(h0:cs[0]?=some c0)(hl:cs.length<400)(hc:∀c∈cs,c.natAbs<18446744073709551616)(ht:∀m∈[1,2,3,4],nA w 6 m=c0^m+(cs.map λc=>c^m).sum)(S:G 77=some (.d (jy w 6)))(U:G 78=some (.d (iD cs))):Sg W G rf (.next G):=by
 rw[VY];have J:=fE (W:=W) (G:=G) (fv:=[78]) (h:=λm:Nat=>.int (nA w 6 m)) (fe:=(ay aX (ay ja (aH (aa 78) (xk (.int 0))) (aa 24)) (bK fM (ab (bl [24] (bL (aa 78)) (.name 79) bw (a_ (ay ja (aa 79) (aa 24))) 400) ag)))) (Ta (k:=24)) (show 4<400 by decide) λm hm=>⟨_,.one rfl,?_⟩
 ·have e:(fm ([1,2,3,4].map λm:Nat=>.int (nA w 6 m)))=jy w 6:=rfl
  rw[e]at J;exact te (b:=false) (d6 (az S) J (Ig _)) (λh=>absurd h (by decide)) λ_=>CK
 ·have N:m<=4:=by
   have all:∀m∈[1,2,3,4],m<=4:=by decide
   exact all m hm
  rw[ht m hm];have O:((G.only [78]).put 24 (.d (nD m))) 78=some (.d (iD cs)):=U;have hi:=iC (W:=W) (G:=(G.only [78]).put 24 (.d (nD m))) (tg:=.name 79) (az O) rfl;rw[br]at hi;have hs:=fE (W:=W) (G:=(G.only [78]).put 24 (.d (nD m))) (fv:=[24]) (h:=λc:Int=>.int (c^m)) (fe:=ay ja (aa 79) (aa 24)) hi hl λc Y=>⟨_,.one rfl,aM (az rfl) (az (k:=24) rfl) (IY (hc c Y) N)⟩;have R:=ia (g:=fM) (aE hs be) (by
   have:=s8 (W:=W) (ns:=cs.map λc=>c^m);rwa[br]at this)
  exact aM (aM (aM (az O) (aW 0) (eh 0 (by rw[dQ,h0];rfl) (by decide))) (az rfl) (IY (hc c0 (j8 h0)) N)) R (yz _ _)
end
section
variable{W:List Nat}{G:Gm}{w:Wt}
noncomputable def gW(w:Wt)(i:Nat):Int:=(w.getD i (0,(false,false,false))).1
noncomputable def gC(w:Wt)(i:Nat):C9:=(w.getD i (0,(false,false,false))).2
theorem Wm{i:Nat}(h:i<w.length):(w.map λp=>iV p.1)[i]?=some (.int (gW w i)):=getD_at (f:=λp:Int×C9=>iV p.1) (d:=(0,(false,false,false))) h
theorem US{i:Nat}(h:i<w.length):(w.map λp=>fm ((kT (cL p.2)).map nD))[i]?=some (.list ((kT (cL (gC w i))).map nD)):=getD_at (f:=λp:Int×C9=>fm ((kT (cL p.2)).map nD)) (d:=(0,(false,false,false))) h
noncomputable abbrev lj(L:Vg):aB:=iD ((cE 6).map (e_ L))
theorem EX(L:Vg)(q:Nat×Int)(k:Nat):e_ (L++[q]) k=e_ L k+if k=q.1 then q.2 else 0:=by
 unfold e_;rw[dR,G8];show _+((if k=q.1 then q.2 else 0)+0)=_;rw[xO]
noncomputable def I0:EM:=(ay cU (ay cU (ay cU (aH (aa 44) (aa 74)) (aH (aa 44) (aa 7))) (ay kl (aa 71) (aH (aa 44) (aa 7)))) (ay kl (aa 71) (aH (aa 44) (aa 75))))
noncomputable def JV:EM:=(bl [57,74,7,75,70] (bC lW (ab (aa 69) ag)) (.names [24,76]) bw (a_ (gd (aS oEq (aa 24) (aH (aH (aa 57) (aa 74)) (aH (aH (aa 57) (aa 7)) (aH (aH (aa 57) (aa 75)) (xk (.int 0)))))) (ay aX (aa 76) (aa 70)) (aa 76))) 400)
noncomputable def tS:SM:=(ao (bj 70 I0) (ao (bj 69 JV) aC))
theorem We:rh=λF st=>((bL (aa 55)) F st).bind λp=>cB (.names [74,7,75]) tS 400 p.1 F p.2:=rfl
theorem Od{p q r:Nat}{T:Int}(hw:w.length=3)(hb:∀i,i<3->(gW w i).natAbs <=500)(hT:T.natAbs<=1500)(U:p<3)(N:q<3)(hr:r<3)(O:G 44=some (.d (wD w)))(J:G 71=some (.d (.int T)))(R:G 74=some (.d (nD p)))(Y:G 7=some (.d (nD q)))(S:G 75=some (.d (nD r))):bh W G I0 (.int (gy (gW w p) (gW w q) (gW w r) T)):=by
 have it:∀{k i:Nat},i<3->G k=some (.d (nD i))->bh W G (aH (aa 44) (aa k)) (.int (gW w i)):=λhi hk=>aM (az O) (az hk) (eh _ (Wm (by rw[hw];exact hi)) (du hi (by decide)));have b1:=hb p U;have b2:=hb q N;have b3:(gW w p*gW w q).natAbs <=500*500:=by rw[FR];exact A5 b1 b2
 have b4:(T -gW w q).natAbs <=2000:=by exact aw (Int.natAbs_sub_le ..) (fU hT b2)
 have b5:(gW w p*gW w q*(T -gW w q)).natAbs <=500*500*2000:=by rw[FR];exact A5 b3 b4
 exact aM (aM (aM (it U R) (it N Y) (om _ _ (bQ b1 (by decide)))) (aM (az J) (it N Y) (CJ _ _)) (om _ _ (bQ b3 (by decide)))) (aM (az J) (it hr S) (CJ _ _)) (om _ _ (bQ b5 (by decide)))
theorem Cm{fe fi:EM}{i k:Nat}(hi:i<w.length)(J:i<3)(hk:k<6)(N:G 57=some (.d (rD w)))(hf:bh W G fi (nD i))(he:bh W G fe (nD k)):bh W G (aH (aH (aa 57) fi) fe) (nD (sF (gC w i) k)):=
 aM (aM (az N) hf (eh i (US hi) (du J (by decide)))) he (eh k (AU _ hk) (du hk (by decide)))
theorem U_{p q r:Nat}{L:Vg}{g:Int}(hw:w.length=3)(Y:p<3)(hq:q<3)(hr:r<3)(N:G 57=some (.d (rD w)))(O:G 74=some (.d (nD p)))(h7:G 7=some (.d (nD q)))(R:G 75=some (.d (nD r)))(S:G 70=some (.d (.int g)))(U:G 69=some (.d (lj L))):bh W G JV (lj (L++[(vF (gC w p) (gC w q) (gC w r),g)])):=by
 have hi:=xw (W:=W) (G:=G) (ks:=[24,76]) (fa:=ab (aa 69) ag) (aE (az U) be);have e:((((cE 6).map (e_ L)).map iV).zipIdx 0).map (λp=>Ai.two (.int (p.2:Nat)) p.1)=(cE 6).map λk:Nat=>.two (nD k) (.int (e_ L k)):=rfl;rw[e]at hi;have hc:=fE (W:=W) (G:=G) (fv:=[57,74,7,75,70]) (h:=λk:Nat=>.int (e_ (L++[(vF (gC w p) (gC w q) (gC w r),g)]) k)) (fe:=(gd (aS oEq (aa 24) (aH (aH (aa 57) (aa 74)) (aH (aH (aa 57) (aa 7)) (aH (aH (aa 57) (aa 75)) (xk (.int 0)))))) (ay aX (aa 76) (aa 70)) (aa 76))) hi (by rw[eI];decide) λk hk=>⟨_,.two rfl rfl,?_⟩
 ·rw[lj,iD,br]
  exact hc
 ·let G1:=((G.only [57,74,7,75,70]).put 24 (.d (nD k))).put 76 (.d (.int (e_ L k)))
  have J:G1 57=some (.d (rD w)):=N;have k0:=Cm (W:=W) (G:=G1) (fe:=xk (.int 0)) (fi:=aa 75) (k:=0) (by rw[hw];exact hr) hr (by decide) J (az (show G1 75=_ from R)) (aW 0);have k1:=Cm (W:=W) (G:=G1) (fi:=aa 7) (by rw[hw];exact hq) hq (lU _ (by decide)) J (az (show G1 7=_ from h7)) k0;have k2:=Cm (W:=W) (G:=G1) (fi:=aa 74) (by rw[hw];exact Y) Y (lU _ (lU _ (by decide))) J (az (show G1 74=_ from O)) k1;refine qK (b:=decide (k=vF (gC w p) (gC w q) (gC w r))) (cast_eq k (vF (gC w p) (gC w q) (gC w r))▸d6 (G:=G1) (az (k:=24) rfl) k2 (pA _ _)) (λh=>?_) λh=>?_
  ·rw[EX,if_pos (of_decide_eq_true h)]
   exact aM (az rfl) (az (show G1 70=_ from S)) (yz _ _)
  ·rw[EX,if_neg (of_decide_eq_false h),xO]
   exact az rfl
noncomputable def jS(w:Wt)(T:Int)(o:List Nat):Nat×Int:=(vF (gC w (o.getD 0 0)) (gC w (o.getD 1 0)) (gC w (o.getD 2 0)),gy (gW w (o.getD 0 0)) (gW w (o.getD 1 0)) (gW w (o.getD 2 0)) T)
theorem Uy{T:Int}(hw:w.length=3)(hb:∀i,i<3->(gW w i).natAbs <=500)(hT:T.natAbs<=1500)(Y:G 55=some (.d oy))(Z4:G 44=some (.d (wD w)))(Z5:G 57=some (.d (rD w)))(Z6:G 71=some (.d (.int T)))(Z7:G 74=none)(n7:G 7=none)(Z8:G 75=none)(Z9:G 70=none):Sg W (G.put 69 (.d (lj []))) rh (.next (G.put 69 (.d (lj (aZ.map (jS w T)))))):=by
 rw[We];have hi:=iC (W:=W) (G:=G.put 69 (.d (lj []))) (tg:=.names [74,7,75]) (az (k:=55) (show(G.put 69 (.d (lj []))) 55=some (.d oy) by rw[Gm.put,if_neg (by decide)];exact Y)) rfl;rw[br]at hi;have hlen:(aZ.map (Ai.one∘λo=>xm (o.map nD))).length =6:=rfl;have key:=ym (W:=W) (G:=G.put 69 (.d (lj []))) (tg:=.names [74,7,75]) (b:=tS) (λr=>G.put 69 (.d (lj ((aZ.take (6 -r.length)).map (jS w T))))) hi (by rw[hlen];rfl) (by rw[hlen];decide) λa rr hr=>by
  refine bO hr λt ht=>?_;have O:=congrArg m3 ht;rw[aT,dE,hlen]at O;have hj:(aZ.map (Ai.one∘λo=>xm (o.map nD)))[t.length]?=some a:=by rw[<-ht,j5 (a7 _),mn];rfl
  rw[dQ]at hj;refine aG (ji.mp hj) λo ho Z_=>?_;subst Z_;have hm:=j8 ho;have N:=pv o hm;have e1:6 -((Ai.one∘λo=>xm (o.map nD)) o::rr).length =t.length:=by rw[dE];exact r6 O.symm
  have e2:6 -rr.length=t.length+1:=by exact r6 (O.symm.trans (hH t.length rr.length 1))
  rw[e1,e2,nR,ho];have e3:(aZ.take t.length++(some o).toList).map (jS w T)=(aZ.take t.length).map (jS w T)++[jS w T o]:=by rw[dR];rfl
  rw[e3];generalize (aZ.take t.length).map (jS w T)=L;refine lV (q4 (su o hm)) λp q r zq3=>?_;subst zq3;have hp:=N p (by simp);have hq:=N q (by simp);have hr:=N r (by simp);refine⟨_,.vV,?_⟩;generalize J:(((G.put 69 (.d (lj L))).put 74 (.d (nD p))).put 7 (.d (nD q))).put 75 (.d (nD r))=G1;have P:∀{i:Nat}{v:Vl},i≠69->i≠74->i≠7->i≠75->G i=some v->G1 i=some v:=λa b c d e=>by
   rw[<-J,Gm.put,if_neg d,Gm.put,if_neg c,Gm.put,if_neg b,Gm.put,if_neg a];exact e
  have R:G1 74=some (.d (nD p)):=by rw[<-J];rfl
  have q7:G1 7=some (.d (nD q)):=by rw[<-J];rfl
  have S:G1 75=some (.d (nD r)):=by rw[<-J];rfl
  have q69:G1 69=some (.d (lj L)):=by rw[<-J];rfl
  have s1:=fQ (k:=70) (p:=.d _) (Od (W:=W) hw hb hT hp hq hr (P (by decide) (by decide) (by decide) (by decide) Z4) (P (by decide) (by decide) (by decide) (by decide) Z6) R q7 S);have U:∀{i:Nat}{v x:Vl},i≠70->G1 i=some v->(G1.put 70 x) i=some v:=λa e=>by rw[Gm.put,if_neg a];exact e
  have s2:=fQ (k:=69) (p:=.d _) (U_ (W:=W) (G:=G1.put 70 (.d (.int (gy (gW w p) (gW w q) (gW w r) T)))) (L:=L) hw hp hq hr (U (by decide) (P (by decide) (by decide) (by decide) (by decide) Z5)) (U (by decide) R) (U (by decide) q7) (U (by decide) S) (by rw[Gm.put,if_pos rfl]) (U (by decide) q69));refine Sg.le (n_ s1 (mA s2)) λi v e=>?_;rw[<-J];unfold Gm.put at e ⊢;by_cases z:i=69
  ·rw[if_pos z]at e ⊢;exact e
  ·rw[if_neg z]at e ⊢
   rw[if_neg (λy=>by rw[y,Z9]at e;cases e),if_neg (λy=>by rw[y,Z8]at e;cases e),if_neg (λy=>by rw[y,n7]at e;cases e),if_neg (λy=>by rw[y,Z7]at e;cases e),if_neg z];exact e
 exact key
end
section
variable{W:List Nat}{G:Gm}{β:Type}{fv:List Nat}{fi:aj->St->Option (It×St)}{tg:b7}{ti:aj->St->Option (Bool×St)}{t:β->Bool}{h:β->aB}{bs:List β}{mk:β->Ai}{fe:EM}
theorem Vn(hi:fg W G tg fi (bs.map mk))(hl:bs.length<400)(hb:∀b∈bs,∃G',gT tg (mk b) G G'/\fb W G' ti (t b)/\(t b=true->bh W G' fe (h b))):zK W G (q8 fi tg ti (a_ fe) 400) bs.length (λad=>ad++(bs.filter t).map h):=λacc ad F st g r hlen=>
 Ok.bind' ((hi F st g).mono λp J=>(yP (m:=1) (φ:=λb ad=>ad++[h b]) (λb m=>(hb b m).imp λG' q=>⟨q.1,q.2.1,λe=>CA (q.2.2 e)⟩) hl J.2 (g.cZ J.1) (aQ.keep J.1.any r) (by rw[AR];exact hlen)).mono λq O=>by
  refine yW O λk N R hle=>?_;rw[z6]at N hle;rw[AR]at hle;exact⟨aN.trans J.1 k,N,hle,R⟩)
theorem LS(φ:β->List aB):∀(bs:List β)(ad:List aB),nk (λ_=>true) (λb ad=>ad++φ b) bs ad=ad++(bs.map φ).flatten :=by
 intro bs;induction bs with
 |nil=>
  intro ad;show ad=ad++[];rw[gj]
 |cons b bs J=>
  intro ad;show nk (λ_=>true) (λb ad=>ad++φ b) bs (ad++φ b)=_;rw[J,bX,gG,dn]
theorem QE{em:jd}{m:Nat}{φ:β->List aB}(hi:fg W G tg fi (bs.map mk))(hl:bs.length<400)(hm:m*bs.length<=16777216)(hb:∀b∈bs,∃G',gT tg (mk b) (G.only fv) G'/\zK W G' em m (λad=>ad++φ b)):bh W G (bl fv fi tg bw em 400) (.list (bs.map φ).flatten):=λF st O=>
 Ok.bind' ((hi F st O).mono λp J=>Ok.fK ((yP (m:=m) (t:=λ_=>true) (φ:=λb ad=>ad++φ b) (λb R=>(hb b R).imp λG' q=>⟨q.1,BR,λ_=>q.2⟩) hl J.2 ((O.cZ J.1).only fv) .nil (by rw[nL,hK];exact hm)).mono λq N=>
  ⟨(aN.trans J.1 N.1).trans (.app _),j6 N.2.2.1.bd (by have:=N.2.1;rwa[LS,ef]at this)⟩))
end
section
variable{W:List Nat}{G:Gm}{w:Wt}
noncomputable def X8:EM:=(bl [44,57,69] (bC cR (ab (xk (.int 6)) ag)) (.name 72) bw (a_ (bK fM (ab (bl [69,72] (bC fP (ab (aa 44) (ab (aa 57) ag))) (.names [73,63]) bw (q8 (bC cR (ab (xk (.int 6)) ag)) (.name 24) (aS oEq (aH (aa 63) (aa 24)) (aa 72)) (a_ (ay cU (aa 73) (aH (aa 69) (aa 24)))) 400) 400) ag))) 400)
theorem M5(s:Nat->Nat)(to:Nat)(g:Nat->Int):(((cE 6).filter λk=>decide (s k=to)).map g).sum =sm λk=>if s k=to then g k else 0:=by
 have:∀l:List Nat,((l.filter λk=>decide (s k=to)).map g).sum =(l.map λk=>if s k=to then g k else 0).sum :=by
  intro l;induction l with
  |nil=>rfl
  |cons k l J=>
   rw[bX,rP,<-J];by_cases h:s k=to
   ·rw[uj (by exact decide_eq_true h),if_pos h];rfl
   ·rw[xx (by rw[decide_eq_false h];exact d_),if_neg h,GZ]
 exact this _
theorem OK:∀l:List (List Int),l.flatten.sum=(l.map QJ).sum :=by
 intro l;induction l with
 |nil=>
  exact rfl
 |cons a l J=>
  rw[gG,G8,J];rfl
noncomputable def qW(w:Wt)(L:Vg)(to:Nat):Int:=(w.map λp=>p.1*pull (sF p.2) to L).sum
theorem Vj{L:Vg}(hw:w.length=3)(hb:∀p∈w,p.1.natAbs <18446744073709551616)(hL:∀q∈L,q.1<6)(R:G 44=some (.d (wD w)))(S:G 57=some (.d (rD w)))(U:G 69=some (.d (lj L))):bh W G X8 (iD ((cE 6).map (qW w L))):=by
 have hc:=fE (W:=W) (G:=G) (fv:=[44,57,69]) (h:=λto:Nat=>.int (qW w L to)) (fe:=(bK fM (ab (bl [69,72] (bC fP (ab (aa 44) (ab (aa 57) ag))) (.names [73,63]) bw (q8 (bC cR (ab (xk (.int 6)) ag)) (.name 24) (aS oEq (aH (aa 63) (aa 24)) (aa 72)) (a_ (ay cU (aa 73) (aH (aa 69) (aa 24)))) 400) 400) ag))) (sV (k:=72)) (by rw[eI];decide) λto _=>⟨_,.one rfl,?_⟩
 ·rw[iD,br]
  exact hc
 ·let G1:=(G.only [44,57,69]).put 72 (.d (nD to))
  have Y:=pn (W:=W) (G:=G1) (ks:=[73,63]) (fa:=ab (aa 44) (ab (aa 57) ag)) (aE (az (k:=44) (show G 44=_ from R)) (aE (az (k:=57) (show G 57=_ from S)) be));rw[wM,br]at Y;have O:=QE (W:=W) (G:=G1) (fv:=[69,72]) (em:=(q8 (bC cR (ab (xk (.int 6)) ag)) (.name 24) (aS oEq (aH (aa 63) (aa 24)) (aa 72)) (a_ (ay cU (aa 73) (aH (aa 69) (aa 24)))) 400)) (m:=6) (φ:=λp:Int×C9=>(((cE 6).filter λk=>decide (sF p.2 k=to)).map λk=>p.1*e_ L k).map iV) Y (by rw[hw];decide) (by rw[hw];decide) λp hp=>⟨_,.two rfl rfl,by
   have:=Vn (W:=W) (G:=((G1.only [69,72]).put 73 (.d (.int p.1))).put 63 (.d (.list ((kT (cL p.2)).map nD)))) (t:=λk=>decide (sF p.2 k=to)) (h:=λk=>.int (p.1*e_ L k)) (fe:=(ay cU (aa 73) (aH (aa 69) (aa 24)))) (ti:=(aS oEq (aH (aa 63) (aa 24)) (aa 72))) (sV (k:=24)) (by rw[eI];decide) λk hk=>⟨_,.one rfl,by
    have J:k<6:=mZ.mp hk;have h1:=d6 (W:=W) (G:=(((G1.only [69,72]).put 73 (.d (.int p.1))).put 63 (.d (.list ((kT (cL p.2)).map nD)))).put 24 (.d (nD k))) (aM (az (k:=63) rfl) (az (k:=24) rfl) (eh k (AU p.2 J) (du J (by decide)))) (az (k:=72) rfl) (pA _ _);rwa[cast_eq]at h1,λ_=>by
    have J:k<6:=mZ.mp hk;exact aM (az rfl) (aM (az (k:=69) (show G 69=_ from U)) (az (k:=24) rfl) (eh k (by rw[dQ,dQ,uv J];rfl) (du J (by decide)))) (om _ _ (hb p hp))⟩
   rw[eI]at this;rw[br];exact this⟩
  have e1:((w.map λp:Int×C9=>(((cE 6).filter λk=>decide (sF p.2 k=to)).map λk=>p.1*e_ L k).map iV).flatten)=((w.map λp:Int×C9=>((cE 6).filter λk=>decide (sF p.2 k=to)).map λk=>p.1*e_ L k).flatten).map iV:=by
   rw[List.map_flatten,br];rfl
  rw[e1]at O;have N:=ia (g:=fM) (aE O be) s8;have e2:((w.map λp:Int×C9=>((cE 6).filter λk=>decide (sF p.2 k=to)).map λk=>p.1*e_ L k).flatten).sum =qW w L to:=by
   rw[OK,br];unfold qW;refine congrArg QJ (xg λp _=>?_);show(((cE 6).filter λk=>decide (sF p.2 k=to)).map λk=>p.1*e_ L k).sum =_;rw[M5,TG _ _ _ L hL]
  rw[e2]at N;exact N
theorem UX:q_=(cy (ay oEq (aa 68) (bl [71] (bL (aa 69)) (.name 70) bw (a_ (ay cU (aa 71) (aa 70))) 400))):=rfl
theorem Uu{T:Int}{l:List Int}(hl:l.length<400)(R:T.natAbs<=1500)(J:G 71=some (.d (.int T)))(N:G 69=some (.d (iD l)))(O:G 68=some (.d (iD (l.map λx=>T*x)))):Sg W G q_ (.ret (.bool true)):=by
 rw[UX];have hi:=iC (W:=W) (G:=G) (tg:=.name 70) (az N) rfl;rw[br]at hi;have hc:=fE (W:=W) (G:=G) (fv:=[71]) (h:=λx:Int=>.int (T*x)) (fe:=(ay cU (aa 71) (aa 70))) hi hl λx _=>⟨_,.one rfl,aM (az (k:=71) (show G 71=_ from J)) (az rfl) (om _ _ (bQ R (by decide)))⟩;have e:(fm (l.map λx:Int=>.int (T*x)))=iD (l.map λx=>T*x):=by rw[iD,br];rfl
 rw[e]at hc;exact uX (aM (az O) hc (SJ _))
end
theorem Iz{a b:Int}{m n:Nat}(h:a.natAbs<=m)(g:b.natAbs<=n):(a+b).natAbs <=m+n:=aw (Int.natAbs_add_le ..) (fU h g)
theorem IE{P:C9->Bool}:∀{w:Wt},(∀p∈w,p.1.natAbs <=500)->(cnt w P).natAbs <=500*w.length
 |[],_=>a7 _
 |p::w,h=>by
  have h1:=h p (cj ..);have h2:=IE (P:=P) λq m=>h q (cw _ m);rw[cnt_cons,dE,um,gI];refine Iz ?_ h2;split
  ·exact h1
  ·exact cJ _
theorem uK{c:Int}{P:List Int}{B:Nat}(hc:c.natAbs<=1500)(h:∀x∈P,x.natAbs<=B):∀x∈eD c P,x.natAbs<=B*1501:=λx m=>by
 rw[Ae]at m;refine aG (dy.mp m) λq N J=>?_;subst J;obtain⟨m1,O⟩:=Qv N;have h1:q.1.natAbs <=B:=by
  rcases bJ.mp m1 with e|e
  ·rw[e];exact cJ _
  ·exact h _ e
 have h2:q.2.natAbs <=B:=by
  rcases ei.mp O with e|e
  ·exact h _ e
  ·rw[cx.mp e];exact cJ _
 have h3:(-(c*q.2)).natAbs <=B*1500:=by rw[Int.natAbs_neg,FR,Qt B];exact A5 hc h2
 rw[um,gI];exact Iz h1 h3
theorem Tx{cs:List Int}(h5:cs.length=5)(hc:∀c∈cs,c.natAbs<=1500):∀x∈jM cs,x.natAbs<18446744073709551616:=by
 obtain⟨a,b,c,d,e,rfl⟩:=XY h5;have h0:∀x∈([1]:List Int),x.natAbs<=1:=by decide
 have h1:=uK (hc a (by simp)) h0;have h2:=uK (hc b (by simp)) h1;have h3:=uK (hc c (by simp)) h2;have J:=uK (hc d (by simp)) h3;have h5:=uK (hc e (by simp)) J;have hB:1*1501*1501*1501*1501*1501<18446744073709551616:=by decide
 intro x m;have m:x∈eD e (eD d (eD c (eD b (eD a [1])))):=m;exact bQ (h5 x m) hB
noncomputable abbrev GW(w:Wt)(T:Int):List (Nat×Vl):=[(44,.d (wD w)),(59,.d (cD w)),(57,.d (rD w)),(55,.d oy),(71,.d (.int T))]
theorem To{F:aj}{st:St}{J:SM}{P:Fl×aj×St->Prop}(k:∀lc,st.length=lc->Ok (J (F.put 78 (.ref lc)) (st++[.list []])) P):Ok (ao tP J F st) P:=sq (Ok.of (VT F st) ⟨rfl,k _ rfl⟩)
structure zw{α:Type}(x:Option α)(P:α->Prop):Prop where
 u:Ok x P
theorem zw.get{α:Type}{x:Option α}{P:α->Prop}(h:zw x P):∃q,x=some q/\P q:=h.u.get
theorem WG{q6 tR oJ tN rg rf tO rh rj q_:SM}{B:List (Nat×Vl)}{cl:List Int}{Ga Gb Gc Gd Ge Gf Gg Gh:Gm}{F:aj}{st:St}(g:GR [] (Gl B) F st)(h0:∃es,st[0]?=some (.tab es))
 (R:∀lc,J1 [lc] ((Gl B).put 78 (.v (.ref lc))) (λst=>st[lc]?=some (.list [])) (λst=>st[lc]?=some (.list (cl.map .int))) q6 ((Gl B).put 78 (.v (.ref lc))))(S:Sg [] (Gl ((78,.d (iD cl))::B)) tR (.next Ga))(U:Sg [] Ga oJ (.next Gb))(Y:Sg [] Gb tN (.next Gc))(wb:Sg [] Gc rg (.next Gd))(Z4:Sg [] Gd rf (.next Ge))(Z5:Sg [] Ge tO (.next Gf))(tS:Sg [] Gf rh (.next Gg))(Z6:Sg [] Gg rj (.next Gh))(Z7:Sg [] Gh q_ (.ret (.bool true))):
 zw (ao tP (ao q6 (ao tR (ao oJ (ao tN (ao rg (ao rf (ao tO (ao rh (ao rj (ao q_ aC)))))))))) F st) λq=>q.1=.ret (.bool true)/\∃es,q.2.2[0]?=some (.tab es):=⟨by
 refine bO h0 λes h0=>?_;refine To λlc J=>?_;have N:lc≠0:=λq=>by
  have:=gq h0;rw[J,q]at this;exact jH _ this
 have g1:GR [lc] ((Gl B).put 78 (.v (.ref lc))) (F.put 78 (.ref lc)) (st++[.list []]):=(g.grow (l:=lc) (aN.app _) (bS J) (by rw[aT,J];exact iI _)).put (p:=.v _) rfl;refine mw (R lc).u g1 (J▸ng) λF2 bI k2 g2 l2=>?_;have z2:=k2.cW (λm=>N (cx.mp m).symm) ((aN.app (W:=[]) _).get h0);have g3:GR [] (Gl ((78,.d (iD cl))::B)) F2 bI:=((g2.shrink (W':=[]) λ_ m=>absurd m a6).vP (k:=78) (p:=.d (iD cl)) (g2.av (k:=78) (v:=.ref lc) (by rw[Gm.put,if_pos rfl])) (.list a6 l2 (Ik _))).le λj q e=>by
  rw[Gl,eK]at e;unfold Gm.put;by_cases z:j=78
  ·rw[if_pos z]
   rw[beq_iff_eq.mpr z]at e;exact e
  ·rw[if_neg z,if_neg z]
   rw[beq_false_of_ne z]at e;exact e
 refine jU S g3 λF4 st4 k4 g4=>jU U g4 λF5 st5 k5 g5=>jU Y g5 λF6 st6 k6 g6=>jU wb g6 λF7 st7 k7 g7=>jU Z4 g7 λF8 st8 k8 g8=>jU Z5 g8 λF9 st9 k9 g9=>jU tS g9 λF10 st10 Z8 Z9=>jU Z6 Z9 λZ_ O k11 g11=>(Ay (g:=aC) Z7 Z_ O g11).mono λq hq=>?_;refine tc hq λkq v ev rv=>?_;rw[ev,rv.b'];exact⟨rfl,es,kq.get (k11.get (Z8.get (k9.get (k8.get (k7.get (k6.get (k5.get (k4.get z2))))))))⟩⟩
theorem SS{w:Wt}{x y z:Int}{a b c:C9}(ew:w=[(x,a),(y,b),(z,c)])(hb:∀p∈w,p.1.natAbs <=500){F:aj}{st:St}(g:GR [] (Gl (GW w (x+y+z))) F st)(h0:∃es,st[0]?=some (.tab es)):
 zw (zg F st) λq=>q.1=.ret (.bool true)/\∃es,q.2.2[0]?=some (.tab es):=by
 have hw:w.length=3:=by rw[ew];rfl
 have N:∀p∈w,p.1.natAbs <18446744073709551616:=λp m=>bQ (hb p m) (by decide);have hT:cnt w (λ_=>true)=x+y+z:=by rw[ew];show x+(y+(z+0))=_;lia
 have S:∀P:C9->Bool,(cnt w P).natAbs <=1500:=λP=>by have:=IE (P:=P) hb;rw[hw]at this;exact this
 have U:∀v∈gv w,v.natAbs<=1500:=λv m=>by
  unfold gv at m;simp only[bJ,a6,or_false]at m;rcases m with rfl|rfl|rfl|rfl|rfl<;>exact S _
 have O:∀v∈gv w,v.natAbs<18446744073709551616:=λv m=>bQ (U v m) (by decide);have Y:(x+y+z).natAbs <=1500:=hT▸S _;have J:(gv w).length =5:=rfl;have Z6:∀i,i<3->(gW w i).natAbs <=500:=λi hi=>by
  unfold gW;exact hb _ (getD_mem (by rw[hw];exact hi))
 have eL:aZ.map (jS w (x+y+z))=tH a b c x y z (x+y+z):=by rw[ew];rfl
 have Z7:∀q∈aZ.map (jS w (x+y+z)),q.1<6:=λq m=>by
  refine aG (dy.mp m) λo _ Z8=>?_;subst Z8;exact WC _ _ _
 have Z4:(cE 6).map (qW w (aZ.map (jS w (x+y+z))))=((cE 6).map (e_ (aZ.map (jS w (x+y+z))))).map λv=>(x+y+z)*v:=by
  rw[br];refine xg λto _=>?_;show qW w (aZ.map (jS w (x+y+z))) to=(x+y+z)*e_ (aZ.map (jS w (x+y+z))) to;rw[eL,<-Ur a b c x y z to];unfold qW;rw[ew];show x*pull (sF a) to _+(y*pull (sF b) to _+(z*pull (sF c) to _+0))=_;rw[xO];exact(Q2 ..).symm
 have R:∀m∈[1,2,3,4],1<=m/\m<=4:=by decide
 have Z9:(jM (gv w)).length =6:=by rw[EO,J]
 have Z5:=fQ (W:=[]) (k:=68) (p:=.d _) (Vj (W:=[]) (G:=(((Gl ((78,.d (iD (gv w)))::GW w (x+y+z))).put 83 (.d (iD (jM (gv w))))).put 77 (.d (jy w 6))).put 69 (.d (lj (aZ.map (jS w (x+y+z)))))) (w:=w) (L:=aZ.map (jS w (x+y+z))) hw N Z7 rfl rfl rfl);rw[Z4]at Z5;exact WG (cl:=gv w) g h0 (λlc=>VL (w:=w) (lc:=lc) (cj ..) (by rw[hw];decide) rfl rfl rfl rfl) Uq (UM (cs:=gv w) (by rw[J];decide) O rfl rfl) Wh
  (U8 (G:=(Gl ((78,.d (iD (gv w)))::GW w (x+y+z))).put 83 (.d (iD (jM (gv w))))) (w:=w) (P:=jM (gv w)) (by rw[hw];decide) N Z9 (Tx J U) (λfirst k hk=>RO w (pw w first 0) hk) rfl rfl rfl rfl rfl rfl)
  (Ut (w:=w) (cs:=gv w) (c0:=cnt w cst) rfl (by rw[J];decide) O (λm hm=>Oc w m (R m hm).1 (R m hm).2) rfl rfl) UZ
  (Uy (W:=[]) (G:=((Gl ((78,.d (iD (gv w)))::GW w (x+y+z))).put 83 (.d (iD (jM (gv w))))).put 77 (.d (jy w 6))) (w:=w) (T:=x+y+z) hw Z6 Y rfl rfl rfl rfl rfl rfl rfl rfl) Z5
  (Uu (W:=[]) (l:=(cE 6).map (e_ (aZ.map (jS w (x+y+z))))) (T:=x+y+z) (by rw[aP,eI];decide) Y rfl rfl rfl)
theorem plain01:Ij:=λD ns hn=>by
 refine fH (TP D ns hn) λF1 st1 e1 t0 g1=>?_;refine⟨F1,st1,T (kh ns),e1,?_,λsA=>?_⟩
 ·refine aG ((g1.at' 0 (.d (sD (kh ns))) rfl).get) λx ex sx=>?_
  rw[ex,(show RV [0] st1 x (sD (kh ns))from sx).s']
 ·refine dh ((S6 ns sA g1 t0).get) λZ7 e2 z Z8=>?_;obtain⟨fl,F2,bI⟩:=Z7;refine p7 Z8 λoc l i W Z9 g2 t2 Z_=>?_;obtain⟨hl,ho,p1,p2⟩:=Z_
  cases(show fl=.next from z)
  have g2:GR W (Gl (GC ns (st1.length+2) sA oc)) F2 bI:=g2;have a54:=g2.av (k:=54) (v:=.ref oc) rfl;refine aG ((g2.at' 44 (.d (.list ((fN ns).map nD))) rfl).get) λx44 Y Z4=>?_;refine fF ((show RV W bI x44 (.list ((fN ns).map nD))from Z4).l') λwl xs S nW hwl rx=>?_;subst S;rw[wx]at rx;have ex:=rx.ints;subst ex;refine lV (HM ns) λa b c ec=>?_;have U:∀n∈fN ns,n<500:=λn m=>by
   refine aG (dy.mp m) λk _ S=>?_;subst S;exact cF _ (by decide)
  refine lV (q4 (BL ns)) λJ N O ew=>?_;have Z5:((fN ns).map λn:Nat=>(n:Int)).sum =(J:Int)+N+O:=by
   rw[ew];show(J:Int)+((N:Int)+((O:Int)+0))=_;lia
  have kJ:aN W bI (bI.set oc .gP):=lz Z9;have hx:kP ns=64+o6 ns/144%64:=rfl;have R:o6 ns/144%64<64:=cF _ (by decide);have gC:GR [] (Gl (GW [((J:Int),a),((N:Int),b),((O:Int),c)] ((J:Int)+N+O))) (F2.put 71 (.int ((fN ns).map λn:Nat=>(n:Int)).sum)) (bI.set oc .gP):=by
   have e44:(.d (.list ((fN ns).map nD)):Vl)=.d (wD [((J:Int),a),((N:Int),b),((O:Int),c)]):=by rw[ew];rfl
   have e59:(.d (l9 (kK ns)):Vl)=.d (cD [((J:Int),a),((N:Int),b),((O:Int),c)]):=by rw[ec];rfl
   have e57:(.d (mP (kK ns)):Vl)=.d (rD [((J:Int),a),((N:Int),b),((O:Int),c)]):=by rw[ec];rfl
   have e71:(.d (.int ((fN ns).map λn:Nat=>(n:Int)).sum):Vl)=.d (.int ((J:Int)+N+O)):=by rw[Z5]
   have:=((g2.keep kJ).shrink (W':=[]) λ_ m=>absurd m a6).put (k:=71) (x:=.int ((fN ns).map λn:Nat=>(n:Int)).sum) (p:=.d (.int ((fN ns).map λn:Nat=>(n:Int)).sum)) (.int _);exact this.to (bt.mpr ⟨congrArg some e44,bt.mpr ⟨congrArg some e59,bt.mpr ⟨congrArg some e57,bt.mpr ⟨rfl,bt.mpr ⟨congrArg some e71,λ_ h=>absurd h a6⟩⟩⟩⟩⟩)
  have hJ0:∃es,(bI.set oc .gP)[0]?=some (.tab es):=by
   refine aG t2 λes h0 _=>?_;refine⟨es,?_⟩;rw[get_set,if_neg (λq=>?_)]
   ·exact h0
   ·have Z6:bI[oc]?=some (.c_ l i):=ho
    rw[<-q,h0]at Z6;cases Z6
  obtain⟨⟨fl3,F3,st3⟩,e3,z3,hes⟩:=(SS (w:=[((J:Int),a),((N:Int),b),((O:Int),c)]) rfl (λp m=>by
   have h0:=U J (by rw[ew];simp);have h1:=U N (by rw[ew];simp);have h2:=U O (by rw[ew];simp);simp only[bJ,a6,or_false]at m;rcases m with rfl|rfl|rfl
   ·show(J:Int).natAbs <=500;exact cq h0
   ·show(N:Int).natAbs <=500;exact cq h1
   ·show(O:Int).natAbs <=500;exact cq h2) gC hJ0).get
  cases(show fl3=.ret (.bool true)from z3)
  refine⟨F2,bI,oc,l,i,wl,_,(kP ns:Int),((o6 ns/144%64*64:Nat):Int),(fN ns).map λn:Nat=>(n:Int),F3,st3,e2,a54,Y,hwl,ho,hl,p1,p2,?_,λst'=>?_,e3,hes⟩
  ·rw[hx,CS 64 (by decide) _ R];decide
  ·rw[hx,vz 64 (by decide) _ R]
   exact CR _ st' (by exact aw (cq (cF _ (by decide))) (by decide))
end Mine
open PySem PySem.W PyProof.Rows
set_option maxHeartbeats 8000000 in
theorem PySem.Challenge.cw_ux0006_01_holds : PySem.Challenge.rw_ux0006_01.Holds :=
 ⟨Mine.ws, Mine.hd01 (by
 k_fill
 intro w s₀ s₁ mg mb G Y fa o pm cd doc dV kV ho hd hcd hD hmg hg args vals as hpre hlay hrd hwl hlo;have KX := km_in_of Y
 km_tabs Y
 have X := (Ground.X G).1;have V := (Ground.X G).2;refine Ground.open G ?_;intro T B D TE TW;try (refine guard_noD D (by decide +kernel) ?_; clear D)
 km_lay T hmg ho hd cd
 clear hmg
 wrow_args hpre hlay hrd hwl hlo
 first | refine callC_kw (enter_call ?_) | refine enter_call ?_
 w_top on
 kn_posts
 have he := Dflts.none hD rfl;subst he;have he := Dflts.noKw hD;subst he;refine call_cellsN (by decide) ho (fd_plain hd) (Top.nolimit T) hcd rfl (kinds_of (by kinds_ok)) (by decide) fun h₁ tk₁ cells F N0 X0 => ?_;clear hd
 kn_ghosts F T
 rename Frag.In _ _ => X'
 rename Top _ _ _ _ _ (ghostOf _ _) => T'
 rename PyProof.Rows.Fr _ _ _ _ => F'
 rename News (ghostOf _ _) _ _ _ => N'
 rename IntsAre _ _ => hI
 rename CodeHd _ (110, 106).1 _ => hc1
 rename (106 : Addr) < _ ∧ _ => hL
 refine Mine.law_end Mine.plain01 X' T' F' N' X0 (by kernel_rfl) (by kernel_rfl) ?hv lifted hI ?hl hc1 codeHd ?hA hL rfl rfl rfl ?K
 case hv => rfl
 case hl => lia
 case hA => exact ⟨(by show 301 + 1 + 9 < 900; decide), (by show 4 + 3 + 20 * 9 < 9000; decide), rfl⟩
 case K =>
  rintro s' hk hos hgn ⟨p1, hp1⟩ ⟨p2, hp2⟩;refine ⟨⟨.inl ⟨.bool true, .bool true, [], rfl, fun _ => rfl, by constructor, by wrow_post, fun _ => ⟨.nil, nofun⟩⟩, hk, hos, hgn.trans hg⟩, ⟨p1, hp1⟩, ⟨p2, hp2⟩, trivial⟩)⟩

