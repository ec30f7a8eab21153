import PyProof.Rows.All
import Wide.All
import OpenK.AllK
import Wide.FinOn
import PySem.Challenge.RW_ux0006_01
set_option Elab.async false
set_option linter.all false
set_option maxRecDepth 100000
set_option maxHeartbeats 8000000
open Array renaming any_toList->Qc,append_empty->Ow,ext'->OS,getElem?_eq_some_iff->PB,length_toList->uy,size_append->QH,size_extract->O5,toList->E8,toList_append->QP
open Bool renaming and_eq_true->gG,and_eq_true_iff->nK,and_false->Gi,eq_iff_iff->qv,false_and->AS,false_eq_true->je,false_ne_true->d9,false_or->OP,not_not->QV,or_eq_false_iff->Ht,or_eq_true->oY,or_false->O2,true_and->Bq
open Except renaming ok->iG
open Exists renaming elim->bO
open False renaming elim->dA
open ForInStep renaming yield->kD
open Function renaming comp->OG,comp_apply->PX,comp_def->A7
open Int renaming add_assoc->Ny,add_le_add_right->Bp,add_right_comm->Q_,add_zero->xw,fmod_nonneg_of_pos->PW,le_of_lt->OO,le_of_lt_add_one->Pb,le_trans->qu,lt_of_le_of_lt->wK,lt_trans->ui,max_eq_right->Qw,mul_zero->N8,natAbs_mul->Hk,natCast_mul->QY,natCast_nonneg->eu,neg_le_neg->Nz,neg_nonpos_of_nonneg->FN,not_le->uh,not_lt->ib,ofNat->Rq,ofNat_inj->OB,ofNat_le->lF,ofNat_lt->m3,ofNat_ne_zero->PQ,one_mul->PR,pow_succ->xn,sub_le_self->Q1,sub_one_lt_of_le->NL,toNat_le->Hr,toNat_natCast->xf,toNat_of_nonneg->GI,toNat_of_nonpos->NT,zero_add->HC,zero_mul->Ph
open Int.ofNat renaming inj->Pm
open List renaming all_eq_true->w_,any_map->Qz,append_assoc->dm,append_eq_nil_iff->wX,append_nil->gj,append_toArray->O7,casesOn->sj,cons_append->eM,cons_ne_nil->qx,contains_iff_mem->Q6,drop_drop->mf,drop_eq_getElem_cons->BB,drop_left->Ao,drop_nil->NH,drop_of_length_le->mj,drop_zero->An,exists_cons_of_ne_nil->rR,extract_eq_take_drop->HB,filterMap_cons->xj,filterMap_cons_none->OW,filterMap_cons_some->NM,filter_cons_of_neg->xb,filter_cons_of_pos->uz,filter_eq_nil_iff->Fk,filter_eq_self->Nx,findIdx?_cons->xW,flatten->QR,flatten_append->qe,flatten_cons->gI,foldl->Fy,foldl_cons->mV,forIn_cons->B6,forIn_nil->PI,forall_mem_cons->bt,getD_eq_getElem?_getD->jg,getElem?_append_left->pv,getElem?_append_right->jj,getElem?_drop->Rh,getElem?_eq_getElem->kF,getElem?_eq_none->o4,getElem?_eq_none_iff->uO,getElem?_eq_some_iff->fY,getElem?_map->dO,getElem?_range->uA,getElem?_set->R0,getElem?_set_ne->Po,getElem?_take->Ov,getElem?_toArray->BW,getElem_mem->AI,head?_drop->lE,length->mX,length_append->aP,length_cons->dH,length_drop->ez,length_eq_zero_iff->Bk,length_flatten->OH,length_map->aQ,length_nil->nI,length_pos_iff->Fs,length_range->eI,length_replicate->jD,length_reverse->xH,length_set->xh,length_singleton->gZ,length_take->iE,length_zip->Fd,lookup->fG,lookup_cons->eN,map->xG,mapM_cons->sh,map_append->dF,map_congr_left->xe,map_cons->bX,map_drop->r_,map_map->br,map_nil->fS,map_replicate->FH,map_reverse->OJ,map_take->wN,map_toArray->OV,mem_append->eh,mem_append_left->Aq,mem_cons->bJ,mem_cons_of_mem->cw,mem_cons_self->cj,mem_filter->ue,mem_map->dz,mem_of_getElem?->j8,mem_of_mem_drop->A9,mem_of_mem_eraseIdx->Og,mem_of_mem_take->Fo,mem_range->m5,mem_replicate->o3,mem_reverse->AM,mem_singleton->cx,nil_append->d_,nodup_append->S6,nodup_cons->Ql,not_mem_nil->a7,of_mem_zip->PK,pairwise_cons->Gn,pairwise_iff_getElem->RS,pairwise_map->F_,prefix_append->j4,prefix_refl->jJ,push_toArray->Rd,range->cF,range'->uq,range'_succ->Hd,range_succ->G3,range_succ_eq_map->Pw,rec->yg,replicate->bZ,replicate_succ->sf,reverse_cons->A3,set_append_right->QD,set_set->BD,size_toArray->dI,sum->QK,sum_append->FD,sum_cons->r9,take->Bl,take_add_one->nL,take_append_drop->Bh,take_append_of_le_length->Rn,take_length->uo,take_nil->Ap,take_of_length_le->kx,take_succ_cons->Qd,take_zero->FG,toArray->nO,toList_toArray->G5,zipWith->G_,zip_cons_cons->kC,zip_map->Qi,zip_map'->xi,zip_nil_right->mY
open List.Pairwise renaming nil->ND
open List.Perm renaming append_left->ZS,nodup_iff->ZR,swap->Y7
open List.cons renaming inj->nS,injEq->Zp
open List.forIn' renaming loop->wU
open Nat renaming add_assoc->nN,add_comm->gH,add_le_add->fV,add_le_add_left->fW,add_le_add_right->iR,add_left_cancel->Oq,add_lt_add_left->QS,add_right_comm->hK,add_sub_add_left->Oa,add_sub_cancel->Of,add_sub_cancel'->qi,add_sub_cancel_left->A0,add_zero->Fb,div_add_mod'->QN,div_div_eq_div_mul->Qn,div_lt_of_lt_mul->rO,le_add_left->dg,le_add_left_of_le->j0,le_add_right->c8,le_max_left->PM,le_max_right->NI,le_of_ble_eq_true->Gy,le_of_eq->bS,le_of_lt->cq,le_of_lt_succ->fU,le_of_not_le->um,le_of_not_lt->fC,le_of_sub_eq_zero->xO,le_of_succ_le->mW,le_of_succ_le_succ->AJ,le_refl->a6,le_sub_of_add_le->NW,le_succ->oR,le_succ_of_le->oX,le_trans->aw,le_zero->Gk,log2_lt->OL,lt_add_left->Qa,lt_add_of_pos_right->Ay,lt_add_right->Qb,lt_irrefl->jI,lt_of_le_of_lt->bQ,lt_of_lt_of_le->cK,lt_of_not_le->ux,lt_of_sub_eq_succ->G9,lt_of_succ_lt->Bt,lt_of_succ_lt_succ->mZ,lt_succ_of_le->oS,lt_succ_of_lt->rT,lt_succ_self->iJ,lt_trans->du,lt_trichotomy->Ts,max_le->Ru,min_assoc->FF,min_eq_left->oW,min_eq_right->ur,min_le_left->uC,min_le_right->j3,min_self->xE,mod_lt->cE,mul_comm->QB,mul_le_mul->Bm,mul_le_mul_left->h_,mul_le_mul_right->Ro,mul_succ->uj,ne_of_gt->jh,ne_of_lt->rZ,not_le->jX,not_le_of_lt->nJ,not_lt->iH,not_lt_of_le->qm,not_lt_of_lt->NG,not_lt_zero->gk,not_succ_le_zero->PV,one_mul->Bb,pred->qj,rec->BV,sub_add_cancel->qd,sub_eq_of_eq_add->sg,sub_eq_zero_of_le->si,sub_le->iU,sub_le_of_le_add->Bw,sub_min_sub_right->OE,sub_ne_zero_of_lt->FR,sub_pos_of_lt->PS,sub_self->kH,succ->sG,succ_le_succ->fj,succ_ne_zero->se,succ_pos->uk,succ_pred->RI,succ_sub->AA,zero_add->hH,zero_le->cJ,zero_lt_one->Qg,zero_mul->OD
open Nat.succ renaming inj->uw
open Option renaming bind_some->bo,getD_none->wL,getD_some->Hx,isNone_iff_eq_none->Ox,map->lD,map_eq_some_iff->ji,map_some->bz,none->aL,some->jG,some_ne_none->OU
open Option.some renaming inj->mn
open PUnit renaming unit->wM
open Prod renaming fst->Tu,snd->RW
open Prod.mk renaming inj->Z6,injEq->NK
open PyProof renaming noPylong_small->ZJ
open PyProof.Rows renaming Attribute_name->Pp,Fr->Rc,get?_update_seq->r8,listItems_at->A6,listUpdate_at->wR,seqEpoch_at->Nl,typeIs_bool'->uv
open PySem renaming Addr->ak,Arguments->ql,Around->bg,Comprehension->AP,DictEntry->lH,Env->aS,ExcName->Fq,Expr->aJ,Fin->Hq,Flow->jF,FuncData->nR,Heap->aO,IsPair->Cc,IsPart->xI,JoinOk->AZ,Model->uK,NameKind->e6,Obj->iL,Operator->HM,Params->Bg,Pos->bM,Program->ft,PyData->aB,Reads->ud,Result->qt,Scope->bc,Sem->dS,Shared->ah,Slot->qw,Stmt->gJ,Str->ae,TriplesOk->B4,Value->af,World->dB,aRefKeyMayBeTheName_at->Qr,args_listiter_next->Fc,builtinLookup_eq_fast->mi,call_gives->Qf,call_meets->qf,call_range_2->Nw,cellsFrom_ok->Nv,codeAny_builtin->xq,codeAny_whileLoop->Sj,entryFor_of_tree->BC,entry_listiter_next->GL,getMethod_builtin->Ax,isSubtype_stop->GJ,isSubtype_type->rP,name_of_addr->Rl,pastItsLine_dict->ON,plainId_quiet->Q8,plainObj_wpAny_Assign_Attribute->Ol,pushCells_keeps->RE,rangeSize_one->Rm,seqIndex_of->Ff,signature?_of->Hn,slot_listiter_next->qa,typeIs_int->QM,typeIs_str->qn,typeLookup_type->me,wpAny_Assign_Name->x9,wpAny_Assign_stores->NB,wpAny_Call_NameR->oU,wpAny_Expr_any->R8,wpAny_Name->sE,wpAny_Return_some->SR,wpAny_Slice->Pf,wpAny_While->S0,wpAny_alloc->OF,wpAny_askSetting->FI,wpAny_assignInOrder_more->Tw,wpAny_assign_Name->H3,wpAny_assign_Tuple->Tz,wpAny_attempt->xP,wpAny_bind->ar,wpAny_call->rQ,wpAny_callSpecial?_slot->xt,wpAny_call_entry->p_,wpAny_execs_cons->kE,wpAny_execs_nil->Cj,wpAny_field->jf,wpAny_getItem_list_slice->OY,wpAny_handled->FQ,wpAny_holding->mh,wpAny_isInstance->PT,wpAny_ite_split->FV,wpAny_list_append_plain->Ry,wpAny_load->E3,wpAny_loadPart->rN,wpAny_lookBehind->Qo,wpAny_mkInt->GH,wpAny_mkStr->GD,wpAny_mkText->BE,wpAny_mono->e7,wpAny_newList->xK,wpAny_newObj_type->qc,wpAny_newTuple->GS,wpAny_nsGet->OC,wpAny_of_eq->ef,wpAny_pure->aU,wpAny_pyIter_enum->Pt,wpAny_pyIter_list->NA,wpAny_pyIter_listiter->As,wpAny_pyIter_zip->O8,wpAny_pyNext_list_item->RQ,wpAny_pyNext_zip_end->Sb,wpAny_rule->nM,wpAny_runValue->OQ,wpAny_seqItems->xC,wpAny_setField->uB,wpAny_setField_rec->Fw,wpAny_specialOf->nT,wpAny_standAt->qg,wpAny_throw->Ha,wpAny_truthy_bool->IF,wpAny_typeOf->xM,wpAny_updatePart->QE
open PySem.Around renaming under_plainId->Pk
open PySem.AutoListH renaming list___mul___list_int_3->Z4
open PySem.Builtin renaming bitAnd->gY,bitNot->rY,bitOr->AG
open PySem.Builtin.Int renaming intBits->fE,intTooBig->GV
open PySem.Builtin.List renaming listExtendWith->OZ,listFitsIndex->AL,listTooLong->ZU
open PySem.Builtin.Re renaming ReTarget->Nt,reDrive->Ft,reNamed->OI,reNextFound->Zs,reNoCollectionInside->ZE,reRawItems->Pg,reRawOf->Nn,reRunToEnd->PO,reSubstitute->NV,reTextOf->Zh,reWholeTarget->PA
open PySem.Builtin.Str renaming occurrences->Zg,strKind->Gu,strSliceIndices->ZX
open PySem.Builtin.Tuple renaming tupleItemsOf->Z1
open PySem.Calls renaming Constant_str->Z8,call_function_entry->A4,call_len_list->Y6,evalArgs_plain->ZN,loadGlobal_global->Zf,spliced_cons->E4,spliced_nil->Hj
open PySem.Challenge renaming rw_ux0006_01->ZI,rw_ux0006_01->ml
open PySem.Code renaming builtin->Bu
open PySem.Const renaming none->Rr
open PySem.EntryCells renaming newEntry->Qh
open PySem.Env renaming blockKind->Ce,kindOf->jH
open PySem.Expr renaming Constant->NR
open PySem.F renaming args_int_rmul_2->Zd,args_list_add_2->ZM,args_list_index_2->Y4,args_list_mul_2->Y5,args_list_pop_2->ZT,args_str_find_4->ZF,args_str_split_2->G4,args_tuple_index_2->Zl,entry_int_rmul->ZW,entry_list_add->Y_,entry_list_index->ZV,entry_list_mul->Zq,entry_list_pop->Zc,entry_str_find->Z0,entry_str_split->Gq,entry_tuple_index->Za,fills_int_mul->Ze,plainAttrs_list->ZA,plainAttrs_str->Zv,plainAttrs_tuple->Zm,slot_int_index->ZD,slot_int_rmul->Oe,slot_list_add->Y1,slot_list_append->uG,slot_list_getitem->Gw,slot_list_index->PJ,slot_list_mul->Zk,slot_list_pop->Hh,slot_str_endswith->Zb,slot_str_find->Qe,slot_str_getitem->QZ,slot_str_join->BA,slot_str_split->AQ,slot_str_startswith->Zr,slot_tuple_getitem->Zy,slot_tuple_index->Rp,store_object->ZO,type_list_append->uE,type_list_index->Y9,type_list_pop->QT,type_str_endswith->Zj,type_str_find->Y8,type_str_join->Aw,type_str_split->ZZ,type_str_startswith->ZG,type_tuple_index->ZC
open PySem.Heap renaming SameBut->TK,get?_push_of_some->kG,get?_push_size->qF,get?_update_ne->lA,get?_update_other->HF,get?_update_self->qo,lt_size->j9,size_push->m4,size_update->Pu
open PySem.Heap.Ns renaming new->Z3
open PySem.Heap.SameBut renaming update->Al
open PySem.IsRange renaming new->Fe
open PySem.Made renaming str->Hw,val->Ri
open PySem.Manifest renaming canonical->ZK,owners->Q5,sig_callable_iterator->Zw,sig_re_Pattern->Z5
open PySem.MeetsSeq renaming list_pop_at->ZY
open PySem.NameKind renaming cell->o9,free->qy
open PySem.Obj renaming cls_mapFields->GY,data_mapFields->r6,isFreed_of_fields->wV,mapFields->sd,mapSeq->hU,putName->ug
open PySem.PyData renaming bool->Be,canLay0->ky,canLayAll0->eA,depth->iF,depthAll->dW,eqv->c6,eqvAll->jY,int->iS,keyHash->GZ,list->fm,strOk->qr,tuple->xN
open PySem.ScopeKind renaming function->PE,isAnnotationScope->Qj
open PySem.Sem renaming call->O0
open PySem.SeqAt renaming list_indexAt->Y2,shaped->jE
open PySem.SeqAt.EqAt renaming bool_bool->Q7,int_int->Zt
open PySem.Sre renaming Frame->wY,Seen->eJ
open PySem.Stmt renaming FunctionDef->Gr
open PySem.Str renaming append->Ou,empty->Pn,join->Nu,ofString->dy
open PySem.StrLaws renaming found_one->Zx,glued_eq_join->Zo,occBody->Hv,occ_eq->Y3,partsBetween_eq->Zz,partsFrom->xg,sliceText->QJ,sliceText_nat->ZQ
open PySem.Txt renaming endswith->xx,join->AB,slice->iV,split->Bf,startswith->xm
open PySem.Value renaming bool->Bc,builtin->Nq,int->bV,isStr->Hs,none->g_,ref->eH,type->RA
open PySem.Value.bool renaming inj->Zn
open PySem.W renaming CodeHd->uu,Frag->aab,Frag->o5,callWith_of->NO,kas_ask->FE,kas_sort->oV,kdk_args_next->Q2,kdk_entry_iter->RJ,kdk_entry_next->Qy,kla_fn->Hg,kla_makeFunction->OA,kla_obj->Hf,tabObj->Z9
open PySem.W.KatTups renaming cons->ZL
open PySem.W.Looks renaming of_pure->Oz
open Std.Legacy renaming Range->ZH
open Std.Legacy.Range renaming forIn_eq_forIn_range'->ZP
open String renaming ofList->QC
namespace Mine
open PySem
inductive AV where
 |none|bool (b:Bool)|int (i:Int)|str (s:ae)|ref (l:Nat)|val (v:af)
inductive AO where
 |gP
 |list (xs:List AV)
 |tup (xs:List AV)
 |dict (m:List (Nat×AV))
 |inst (cls:ak) (d:Nat)
 |cell (v:AV)
 |raw (o:iL)
 |bound (f:af) (self:AV)
 |nQ (f:Nat) (cC:AV)
 |c_ (l:Nat) (i:Nat)
 |tab (es:List ((Nat×Nat)×Nat))
 |code (q:ae)
noncomputable abbrev St:=List AO
noncomputable abbrev aD:=List ak
noncomputable abbrev aj:=List (Nat×AV)
structure Cfg where
 prog:ft
 w:dB
 base:aO
 nm:Nat->ae
 inj:∀i j,nm i=nm j->i=j
 mg:ae->Option af
 mb:ae->Option af
 wb:base.Ns mainGlobals mg
 J6:base.Ns builtinsNs mb
 nolimit:base.NoLimit
 pins:List (Nat×ak)
 K:aab
 eX:K.In base
 code:af
 qual:ae
noncomputable def RelV(ρ:aD):AV->af->Prop
 |.none,v=>v=.none
 |.bool b,v=>v=.bool b
 |.int i,v=>∃t,v=.int i t
 |.str s,v=>∃t,v=.str s t
 |.ref l,v=>∃a,ρ[l]?=some a/\v=.ref a
 |.val x,v=>v=x
inductive bu(ρ:aD):List AV->List af->Prop
 |nil:bu ρ [] []
 |cons {x v xs vs}:RelV ρ x v->bu ρ xs vs->bu ρ (x::xs) (v::vs)
theorem gK{ρ aq:aD}(h:ρ<+:aq){l:Nat}{a:ak}(e:ρ[l]?=some a):aq[l]?=some a:=by
 obtain⟨t,rfl⟩:=h;exact(pv (fY.mp e).1).trans e
theorem RelV.mono{ρ aq:aD}(h:ρ<+:aq){x:AV}{v:af}(r:RelV ρ x v):RelV aq x v:=by
 cases x with
 |ref l=>exact r.imp λa q=>⟨gK h q.1,q.2⟩
 |_=>exact r
theorem bu.mono{ρ aq:aD}(h:ρ<+:aq){xs:List AV}{vs:List af}(r:bu ρ xs vs):bu aq xs vs:=by
 induction r with
 |nil=>exact .nil
 |cons a b J=>exact .cons (a.mono h) J
theorem bu.length{ρ:aD}{xs:List AV}{vs:List af}(r:bu ρ xs vs):vs.length=xs.length:=by
 induction r with
 |nil=>rfl
 |cons a b J=>exact congrArg sG J
theorem bu.get{ρ:aD}{xs:List AV}{vs:List af}(r:bu ρ xs vs):∀{i:Nat}{x:AV},xs[i]?=some x->∃v,vs[i]?=some v/\RelV ρ x v:=by
 induction r with
 |nil=>intro i x e;cases e
 |cons a b J=>
  intro i x e;cases i with
  |zero=>cases e;exact⟨_,rfl,a⟩
  |succ i=>exact J e
theorem bu.append{ρ:aD}{xs:List AV}{vs:List af}{J:List AV}{ws:List af}(r:bu ρ xs vs)(h:bu ρ J ws):bu ρ (xs++J) (vs++ws):=by
 induction r with
 |nil=>exact h
 |cons a b N=>exact .cons a N
inductive gc(C:Cfg)(ρ:aD):List (Nat×AV)->List lH->Prop
 |nil:gc C ρ [] []
 |cons {k:Nat} {v:AV} {m:List (Nat×AV)} {gx:Int} {t:Tok} {V:af} {es:List lH}:RelV ρ v V->gc C ρ m es->gc C ρ ((k,v)::m) (⟨gx,.str (C.nm k) t,V⟩::es)
theorem gc.mono{C:Cfg}{ρ aq:aD}(h:ρ<+:aq){m:List (Nat×AV)}{es:List lH}(r:gc C ρ m es):gc C aq m es:=by
 induction r with
 |nil=>exact .nil
 |cons a b J=>exact .cons (a.mono h) J
noncomputable def qL(ρ:aD)(V:Option af)(r:Option Nat):Prop:=r.elim (V=none) λl=>∃c,ρ[l]?=some c/\V=some (.ref c)
theorem qL.mono{ρ aq:aD}(h:ρ<+:aq){V:Option af}{r:Option Nat}(x:qL ρ V r):qL aq V r:=by
 cases r with
 |none=>exact x
 |some l=>exact x.imp λc q=>⟨gK h q.1,q.2⟩
noncomputable def km(C:Cfg)(ρ:aD)(h:aO)(a:ak):AO->Prop
 |.gP =>True
 |.list xs=>∃vs,h.PlainList a vs.toArray/\bu ρ xs vs
 |.tup xs=>∃vs,h.get? a=some {cls:=.type "tuple",data:=.seq vs.toArray}/\bu ρ xs vs
 |.dict m=>∃es n,h.get? a=some {cls:=.type "dict",data:=.dict es.toArray n}/\gc C ρ m es
 |.inst c d=>∃da,ρ[d]?=some da/\h.get? a=some {cls:=.ref c,dict:=some da,data:=.plain }
 |.cell v=>∃V,h.IsCell a (some V)/\RelV ρ v V
 |.raw o=>h.get? a=some o
 |.bound f x=>∃V,h.get? a=some {cls:=.type "method",data:=.fields #[f,V]}/\RelV ρ x V
 |.nQ f x=>∃fa V,ρ[f]?=some fa/\h.get? a=some {cls:=.type "callable_iterator",data:=.fields #[.ref fa,V,.bool false]}/\RelV ρ x V
 |.c_ l i=>∃J,ρ[l]?=some J/\h.IsListIter a J i
 |.tab es=>∃ps,h.get? a=some (Z9 ps)/\B4 ps.toList/\∀pos:bM,qL ρ (codeAmong pos ps.toList) (es.lookup (pos.line,pos.col))
 |.code q=>∃oc vs t,h.get? a=some oc/\oc.data=.fields vs/\vs[1]?=some (.str q t)
structure Rel(C:Cfg)(ρ:aD)(st:St)(h:aO):Prop where
 len:ρ.length=st.length
 nodup:ρ.Nodup
 out:∀a∈ρ,C.base.get? a=none
 live:∀a∈ρ,∃o,h.get? a=some o
 keep:∀b o,C.base.get? b=some o->h.get? b=some o
 objs:∀(l:Nat)(o:AO)(a:ak),st[l]?=some o->ρ[l]?=some a->km C ρ h a o
 pin:∀p∈C.pins,ρ[p.1]?=some p.2
structure Go(X:ak->Prop)(ρ:aD)(s:ah)(aq:aD)(s':ah):Prop where
 pre:ρ<+:aq
 new:∀a∈aq,a∈ρ\/s.heap.get? a=none
 cI:∀a o,s.heap.get? a=some o->a∉ρ->¬X a->s'.heap.get? a=some o
 alive:∀a o,s.heap.get? a=some o->∃o',s'.heap.get? a=some o'
 os:s'.os=s.os
 gens:s'.gens=s.gens
noncomputable abbrev No:ak->Prop:=λ_=>False
theorem Go.refl{X:ak->Prop}{ρ:aD}{s:ah}:Go X ρ s ρ s:=
 ⟨jJ _,λ_ h=>.inl h,λ_ _ h _ _=>h,λ_ o h=>⟨o,h⟩,rfl,rfl⟩
theorem Go.trans{X:ak->Prop}{ρ aq J:aD}{s s' O:ah}(g:Go X ρ s aq s')(N:Go X aq s' J O):Go X ρ s J O where
 pre:=g.pre.trans N.pre
 new a h:=(N.new a h).elim (λh=>g.new a h) λh=>.inr (by
  cases q:s.heap.get? a with
  |none=>rfl
  |some o=>obtain⟨o',e⟩:=g.alive a o q;rw[h]at e;cases e)
 cI a o e n x:=by
  refine N.cI a o (g.cI a o e n x) (λm=>?_) x;rcases g.new a m with q|q
  ·exact n q
  ·rw[e]at q;cases q
 alive a o e:=by
  obtain⟨o',R⟩:=g.alive a o e;exact N.alive a o' R
 os:=N.os.trans g.os
 gens:=N.gens.trans g.gens
theorem Go.weak{X Y:ak->Prop}(h:∀a,X a->Y a){ρ aq:aD}{s s':ah}(g:Go X ρ s aq s'):Go Y ρ s aq s':=
 ⟨g.pre,g.new,λa o e n y=>g.cI a o e n λx=>y (h a x),g.alive,g.os,g.gens⟩
theorem Go.toks{X:ak->Prop}{ρ:aD}{s:ah}(t:Nat):Go X ρ s ρ {s with toks:=t}:=
 ⟨jJ _,λ_ h=>.inl h,λ_ _ h _ _=>h,λ_ o h=>⟨o,h⟩,rfl,rfl⟩
theorem Go.keeps{X:ak->Prop}{ρ:aD}{s:ah}{h':aO}{t:Nat}(k:∀b o,s.heap.get? b=some o->h'.get? b=some o):Go X ρ s ρ {s with heap:=h',toks:=t}:=
 ⟨jJ _,λ_ h=>.inl h,λa o h _ _=>k a o h,λa o h=>⟨o,k a o h⟩,rfl,rfl⟩
theorem km.mono{C:Cfg}{ρ aq:aD}{h h':aO}{a:ak}(p:ρ<+:aq)(e:∀o,h.get? a=some o->h'.get? a=some o){o:AO}(x:km C ρ h a o):km C aq h' a o:=by
 cases o with
 |gP=>exact x
 |list _=>exact x.imp λvs q=>⟨q.1.imp λn=>e _,q.2.mono p⟩
 |tup _=>exact x.imp λvs q=>⟨e _ q.1,q.2.mono p⟩
 |dict _=>exact x.imp λes q=>q.imp λn q=>⟨e _ q.1,q.2.mono p⟩
 |inst _ _=>exact x.imp λda q=>⟨gK p q.1,e _ q.2⟩
 |cell _=>exact x.imp λV q=>⟨q.1.imp λo q=>⟨e _ q.1,q.2⟩,q.2.mono p⟩
 |raw _=>exact e _ x
 |bound _ _=>exact x.imp λV q=>⟨e _ q.1,q.2.mono p⟩
 |nQ _ _=>exact x.imp λfa q=>q.imp λV q=>⟨gK p q.1,e _ q.2.1,q.2.2.mono p⟩
 |c_ _ _=>exact x.imp λJ q=>⟨gK p q.1,q.2.imp λo q=>⟨e _ q.1,q.2⟩⟩
 |tab _=>exact x.imp λps q=>⟨e _ q.1,q.2.1,λpos=>(q.2.2 pos).mono p⟩
 |code _=>exact x.imp λoc q=>q.imp λvs q=>q.imp λt q=>⟨e _ q.1,q.2⟩
theorem dN(h:aO){o:iL}(hf:o.isFreed=false):(h.push o).get? h.objs.size=some o:=qF h hf
theorem MV{l:List Nat}(h:l.Nodup){i j:Nat}(hi:i<l.length)(J:j<l.length)(e:l[i]=l[j]):i=j:=by
 have key:=RS.mp h;rcases Ts i j with q|q|q
 ·exact absurd e (key i j hi J q)
 ·exact q
 ·exact absurd e.symm (key j i J hi q)
section
variable{C:Cfg}{ρ:aD}{st:St}{h:aO}
theorem Rel.addr(R:Rel C ρ st h){l:Nat}{o:AO}(e:st[l]?=some o):∃a,ρ[l]?=some a/\km C ρ h a o:=by
 have hl:l<ρ.length:=by rw[R.len];exact(fY.mp e).1
 exact⟨ρ[l],kF hl,R.objs l o _ e (kF hl)⟩
theorem Rel.at(R:Rel C ρ st h){l:Nat}{o:AO}{a:ak}(e:st[l]?=some o)(J:ρ[l]?=some a):km C ρ h a o:=R.objs l o a e J
theorem Rel.keeps(R:Rel C ρ st h){h':aO}(k:∀b o,h.get? b=some o->h'.get? b=some o):Rel C ρ st h':=
 ⟨R.len,R.nodup,R.out,λa m=>(R.live a m).imp λo e=>k a o e,λb o e=>k b o (R.keep b o e),λl o a e q=>(R.objs l o a e q).mono (jJ _) λo' J=>k a o' J,R.pin⟩
theorem Rel.lY(R:Rel C ρ st h){h':aO}(X:ak->Prop)(k:∀b o,h.get? b=some o->¬X b->h'.get? b=some o)(J:∀a∈ρ,¬X a)(hB:∀a o,C.base.get? a=some o->¬X a):Rel C ρ st h':=
 ⟨R.len,R.nodup,R.out,λa m=>(R.live a m).imp λo e=>k a o e (J a m),λb o e=>k b o (R.keep b o e) (hB b o e),λl o a e q=>(R.objs l o a e q).mono (jJ _) λo' N=>k a o' N (J a (j8 q)),R.pin⟩
theorem dn(h:aO)(o:iL):∀b x,h.get? b=some x->(h.push o).get? b=some x:=λ_ _ e=>kG o e
theorem fQ(h:aO):h.get? h.objs.size=none:=by
 cases q:h.get? h.objs.size with
 |none=>rfl
 |some o=>exact absurd (j9 q) (jI _)
theorem Rel.fh(R:Rel C ρ st h){a:ak}(e:h.get? a=none):a∉ρ:=λm=>by obtain⟨o,q⟩:=R.live _ m;rw[e]at q;cases q
theorem Rel.iB(R:Rel C ρ st h){a:ak}(e:h.get? a=none):C.base.get? a=none:=by
 cases q:C.base.get? a with
 |none=>rfl
 |some o=>rw[R.keep _ _ q]at e;cases e
theorem Rel.alloc(R:Rel C ρ st h){h':aO}{a:ak}{o:AO}(k:∀b x,h.get? b=some x->h'.get? b=some x)
 (O:a∉ρ)(hb:C.base.get? a=none)(hl:∃x,h'.get? a=some x)(hc:km C (ρ++[a]) h' a o):Rel C (ρ++[a]) (st++[o]) h':=by
 refine⟨by simp[R.len],?_,?_,?_,λb x e=>k b x (R.keep b x e),?_,λp Y=>gK (j4 _ _) (R.pin p Y)⟩
 ·rw[S6]
  exact⟨R.nodup,by simp,λx J y S=>by simp at S;subst S;exactλe=>O (e▸J)⟩
 ·intro x J
  rcases eh.mp J with J|J
  ·exact R.out x J
  ·simp at J;subst J;exact hb
 ·intro x J
  rcases eh.mp J with J|J
  ·exact(R.live x J).imp λo e=>k x o e
  ·simp at J;subst J;exact hl
 ·intro l o' U e q
  by_cases N:l<st.length
  ·rw[pv N]at e
   rw[pv (by rw[R.len];exact N)]at q;exact(R.objs l o' U e q).mono (j4 _ _) λx J=>k U x J
  ·rw[jj (iH.mp N)]at e
   rw[jj (by rw[R.len];exact iH.mp N),R.len]at q;have hz:l -st.length=0:=by
    have:=(fY.mp e).1;simpa using this
   rw[hz]at e q;simp at e q;subst e;subst q;exact hc
theorem Rel.push(R:Rel C ρ st h){x:iL}{o:AO}(hf:x.isFreed=false)(hc:km C (ρ++[h.objs.size]) (h.push x) h.objs.size o):Rel C (ρ++[h.objs.size]) (st++[o]) (h.push x):=
 R.alloc (dn h x) (R.fh (fQ h)) (R.iB (fQ h)) ⟨_,dN h hf⟩ hc
theorem Rel.put(R:Rel C ρ st h){h':aO}{l:Nat}{a:ak}{o':AO}(N:ρ[l]?=some a)(k:∀b x,b≠a->h.get? b=some x->h'.get? b=some x)(hl:∃x,h'.get? a=some x)
 (hc:km C ρ h' a o'):Rel C ρ (st.set l o') h':=by
 refine⟨by simp[R.len],R.nodup,R.out,λx O=>by
  by_cases q:x=a
  ·subst q;exact hl
  ·exact(R.live x O).imp λo e=>k x o q e,λb x e=>k b x (λq=>?_) (R.keep b x e),?_,R.pin⟩
 ·subst q
  rw[R.out b (j8 N)]at e;cases e
 ·intro l' o S e q
  rw[R0]at e;by_cases J:l=l'
  ·subst J
   rw[N]at q;cases q;rw[if_pos rfl]at e;split at e
   ·cases e;exact hc
   ·cases e
  ·rw[if_neg J]at e
   refine(R.objs l' o S e q).mono (jJ _) λx O=>k S x (λz=>?_) O;subst z;obtain⟨h1,U⟩:=fY.mp N;obtain⟨h2,Y⟩:=fY.mp q;exact J (MV R.nodup h1 h2 (U.trans Y.symm))
theorem Go.alloc{X:ak->Prop}{s:ah}{h':aO}{a:ak}{t:Nat}(k:∀b x,s.heap.get? b=some x->h'.get? b=some x)(J:s.heap.get? a=none):Go X ρ s (ρ++[a]) {s with heap:=h',toks:=t}:=
 ⟨j4 _ _,λb m=>by
  rcases eh.mp m with q|q
  ·exact .inl q
  ·simp at q;subst q;exact .inr J,λb o e _ _=>k b o e,λb o e=>⟨o,k b o e⟩,rfl,rfl⟩
theorem Go.put{X:ak->Prop}{s:ah}{h':aO}{l:Nat}{a:ak}{t:Nat}(J:ρ[l]?=some a)(k:∀b x,b≠a->s.heap.get? b=some x->h'.get? b=some x)(hl:∃x,h'.get? a=some x):Go X ρ s ρ {s with heap:=h',toks:=t}:=
 ⟨jJ _,λ_ h=>.inl h,λb o e n _=>k b o (λq=>n (q▸j8 J)) e,λb o e=>by
  by_cases q:b=a
  ·subst q;exact hl
  ·exact⟨o,k b o q e⟩,rfl,rfl⟩
theorem Kg{ρ:aD}{a:ak}:(ρ++[a])[ρ.length]?=some a:=by simp
end
noncomputable def Ok{α:Type}(x:Option α)(P:α->Prop):Prop:=x.elim False P
section
variable{α β:Type}{P:α->Prop}
theorem Ok.of{x:Option α}{a:α}(h:x=some a)(p:P a):Ok x P:=h▸p
theorem Ok.bind{x:Option β}{f:β->Option α}(h:Ok (x.bind f) P):Ok x λa=>Ok (f a) P:=by
 cases x with
 |none=>exact h
 |some a=>exact h
theorem Ok.bind'{x:Option β}{f:β->Option α}(h:Ok x λa=>Ok (f a) P):Ok (x.bind f) P:=by
 cases x with
 |none=>exact h
 |some a=>exact h
theorem Ok.map{x:Option β}{f:β->α}(h:Ok (x.map f) P):Ok x λa=>P (f a):=by
 cases x with
 |none=>exact h
 |some a=>exact h
theorem Ok.or{x y:Option α}(h:Ok (x.or y) P):Ok x P\/Ok y P:=by
 cases x with
 |none=>exact .inr h
 |some a=>exact .inl h
theorem Ok.ite{c:Prop}[Decidable c]{x:Option α}(h:Ok (if c then x else none) P):c/\Ok x P:=
 if q:c then⟨q,cast (congrArg (Ok · P) (if_pos q)) h⟩else dA (cast (congrArg (Ok · P) (if_neg q)) h)
theorem Ok.mono{x:Option α}{Q:α->Prop}(h:Ok x P)(k:∀a,P a->Q a):Ok x Q:=by
 cases x with
 |none=>exact h
 |some a=>exact k a h
theorem Ok.get{x:Option α}(h:Ok x P):∃a,x=some a/\P a:=by
 cases x with
 |none=>exact dA h
 |some a=>exact⟨a,rfl,h⟩
theorem Ok.some{G:Prop}{x:Option α}(h:Ok x P)(k:∀a,x=jG a->P a->G):G:=
 let⟨a,e,p⟩:=h.get
 k a e p
end
noncomputable def AV.i?(a:AV):Option Int:=AV.casesOn a aL (λ_=>aL) jG (λ_=>aL) (λ_=>aL) λ_=>aL
noncomputable def AV.b?(a:AV):Option Bool:=AV.casesOn a aL jG (λ_=>aL) (λ_=>aL) (λ_=>aL) λ_=>aL
noncomputable def AV.s?(a:AV):Option ae:=AV.casesOn a aL (λ_=>aL) (λ_=>aL) jG (λ_=>aL) λ_=>aL
noncomputable def AV.r?(a:AV):Option Nat:=AV.casesOn a aL (λ_=>aL) (λ_=>aL) (λ_=>aL) jG λ_=>aL
section
variable{ρ:aD}{a:AV}{V:af}{M:af->Prop}
@[elab_as_elim] theorem RelV.i(r:RelV ρ a V){P:Int->Prop}(h:Ok a.i? P)(k:∀x t,P x->M (.int x t)):M V:=by
 cases a with
 |int x=>exact r.elim λt e=>e▸k x t h
 |_=>exact dA h
@[elab_as_elim] theorem RelV.b(r:RelV ρ a V){P:Bool->Prop}(h:Ok a.b? P)(k:∀x,P x->M (.bool x)):M V:=by
 cases a with
 |bool x=>exact Eq.symm r▸k x h
 |_=>exact dA h
@[elab_as_elim] theorem RelV.s(r:RelV ρ a V){P:ae->Prop}(h:Ok a.s? P)(k:∀x t,P x->M (.str x t)):M V:=by
 cases a with
 |str x=>exact r.elim λt e=>e▸k x t h
 |_=>exact dA h
@[elab_as_elim] theorem RelV.r(r:RelV ρ a V){P:Nat->Prop}(h:Ok a.r? P)(k:∀l J,ρ[l]?=some J->P l->M (.ref J)):M V:=by
 cases a with
 |ref l=>exact r.elim λt e=>e.2▸k l t e.1 h
 |_=>exact dA h
end
@[elab_as_elim] theorem RelV.rr{ρ:aD}{a:AV}{V:af}{M:af->Prop}(r:RelV ρ a V){P:Nat->Prop}(h:Ok a.r? P)(k:∀l J,ρ[l]?=some J->RelV ρ a (.ref J)->P l->M (.ref J)):M V:=
 r.r (M:=λV=>RelV ρ a V->M V) h (λl J e p r=>k l J e r p) r
@[elab_as_elim] theorem RelV.ss{ρ:aD}{a:AV}{V:af}{M:af->Prop}(r:RelV ρ a V){P:ae->Prop}(h:Ok a.s? P)(k:∀x t,RelV ρ a (.str x t)->P x->M (.str x t)):M V:=
 r.s (M:=λV=>RelV ρ a V->M V) h (λx t p r=>k x t r p) r
theorem RelV.sx{ρ:aD}{a:AV}{V:af}(r:RelV ρ a V){P:ae->Prop}(h:Ok a.s? P){G:Prop}(k:∀x t,V=.str x t->P x->G):G:=
 r.s (M:=λW=>V=W->G) h (λx t p e=>k x t e p) rfl
noncomputable def a1(avs:List AV):Option AV:=sj avs none λa r=>sj r (some a) λ_ _=>none
noncomputable def a2(avs:List AV):Option (AV×AV):=sj avs none λa r=>(a1 r).map λb=>(a,b)
noncomputable def a3(avs:List AV):Option (AV×AV×AV):=sj avs none λa r=>(a2 r).map λb=>(a,b)
noncomputable def a4(avs:List AV):Option (AV×AV×AV×AV):=sj avs none λa r=>(a3 r).map λb=>(a,b)
@[elab_as_elim] theorem bu.a1{ρ:aD}{avs:List AV}{vs:List af}(r:bu ρ avs vs){P:AV->Prop}(h:Ok (Mine.a1 avs) P){M:List af->Prop}(k:∀a V,RelV ρ a V->P a->M [V]):M vs:=by
 cases r with
 |nil=>exact dA h
 |cons J N=>
  cases N with
  |nil=>exact k _ _ J h
  |cons=>exact dA h
@[elab_as_elim] theorem bu.a2{ρ:aD}{avs:List AV}{vs:List af}(r:bu ρ avs vs){P:AV×AV->Prop}(h:Ok (Mine.a2 avs) P){M:List af->Prop}(k:∀a V b W,RelV ρ a V->RelV ρ b W->P (a,b)->M [V,W]):M vs:=by
 cases r with
 |nil=>exact dA h
 |cons N J=>exact J.a1 (M:=λl=>M (_::l)) (h.map) λb W J=>k _ _ b W N J
@[elab_as_elim] theorem bu.a3{ρ:aD}{avs:List AV}{vs:List af}(r:bu ρ avs vs){P:AV×AV×AV->Prop}(h:Ok (Mine.a3 avs) P){M:List af->Prop}(k:∀a V b W c X,RelV ρ a V->RelV ρ b W->RelV ρ c X->P (a,b,c)->M [V,W,X]):M vs:=by
 cases r with
 |nil=>exact dA h
 |cons N J=>exact J.a2 (M:=λl=>M (_::l)) (h.map) λb W c X J O=>k _ _ b W c X N J O
@[elab_as_elim] theorem bu.a4{ρ:aD}{avs:List AV}{vs:List af}(r:bu ρ avs vs){P:AV×AV×AV×AV->Prop}(h:Ok (Mine.a4 avs) P){M:List af->Prop}(k:∀a V b W c X d Y,RelV ρ a V->RelV ρ b W->RelV ρ c X->RelV ρ d Y->P (a,b,c,d)->M [V,W,X,Y]):M vs:=by
 cases r with
 |nil=>exact dA h
 |cons N J=>exact J.a3 (M:=λl=>M (_::l)) (h.map) λb W c X d Y J O R=>k _ _ b W c X d Y N J O R
theorem m7{C:Cfg}{ρ:aD}{st:St}{h:aO}(R:Rel C ρ st h){a:ak}:RelV (ρ++[a]) (.ref st.length) (.ref a):=⟨a,by rw[<-R.len,jj (a6 _),kH];rfl,rfl⟩
noncomputable def Res(C:Cfg)(ρ:aD)(s:ah)(Q:af->ah->Prop)(p:AV×St):Prop:=∀V aq s',Go No ρ s aq s'->Rel C aq p.2 s'.heap->RelV aq p.1 V->Q V s'
theorem Res.step{C:Cfg}{ρ J:aD}{s s1:ah}{Q:af->ah->Prop}{p:AV×St}(g:Go No ρ s J s1)(h:Res C ρ s Q p):Res C J s1 Q p:=λV aq s' N=>h V aq s' (g.trans N)
noncomputable def JR(C:Cfg)(ρ:aD)(s:ah)(Q:List af->ah->Prop)(p:List AV×St):Prop:=∀Vs aq s',Go No ρ s aq s'->Rel C aq p.2 s'.heap->bu aq p.1 Vs->Q Vs s'
noncomputable def tH(C:Cfg)(ρ:aD)(s:ah)(Q:Bool->ah->Prop)(p:Bool×St):Prop:=∀aq s',Go No ρ s aq s'->Rel C aq p.2 s'.heap->Q p.1 s'
theorem tH.step{C:Cfg}{ρ J:aD}{s s1:ah}{Q:Bool->ah->Prop}{p:Bool×St}(g:Go No ρ s J s1)(h:tH C ρ s Q p):tH C J s1 Q p:=λaq s' N=>h aq s' (g.trans N)
end Mine
namespace Mine
theorem dc{J N O:Prop}{G:Prop}(h:J/\N/\O)(k:J->N->O->G):G:=k h.1 h.2.1 h.2.2
theorem yT{J N O P3:Prop}{G:Prop}(h:J/\N/\O/\P3)(k:J->N->O->P3->G):G:=k h.1 h.2.1 h.2.2.1 h.2.2.2
theorem yF{J N O P3 R:Prop}{G:Prop}(h:J/\N/\O/\P3/\R)(k:J->N->O->P3->R->G):G:=k h.1 h.2.1 h.2.2.1 h.2.2.2.1 h.2.2.2.2
theorem pL.{u0}{α:Sort u0}{J:Prop}{N:α->Prop}{G:Prop}(h:J/\∃a:α,N a)(k:J->∀a,N a->G):G:=h.2.elim λx1 h1=>k h.1 x1 h1
theorem tj.{u0}{α:Sort u0}{J:Prop}{N P3:α->Prop}{G:Prop}(h:J/\∃a:α,N a/\P3 a)(k:J->∀a,N a->P3 a->G):G:=h.2.elim λx1 h1=>k h.1 x1 h1.1 h1.2
theorem m_.{u0,u1}{α:Sort u0}{β:Sort u1}{J:Prop}{P3 N:α->β->Prop}{G:Prop}(h:J/\∃a:α,∃b:β,P3 a b/\N a b)(k:J->∀a,∀b,P3 a b->N a b->G):G:=h.2.elim λx1 h1=>h1.elim λO h2=>k h.1 x1 O h2.1 h2.2
theorem Wu.{u0}{α:Sort u0}{J N:Prop}{P3 O:α->Prop}{G:Prop}(h:J/\N/\∃a:α,P3 a/\O a)(k:J->N->∀a,P3 a->O a->G):G:=h.2.2.elim λR h2=>k h.1 h.2.1 R h2.1 h2.2
theorem aG.{u0}{α:Sort u0}{J N:α->Prop}{G:Prop}(h:∃a:α,J a/\N a)(k:∀a,J a->N a->G):G:=h.elim λx0 h0=>k x0 h0.1 h0.2
theorem di.{u0}{α:Sort u0}{J N P3:α->Prop}{G:Prop}(h:∃a:α,J a/\N a/\P3 a)(k:∀a,J a->N a->P3 a->G):G:=h.elim λx0 h0=>k x0 h0.1 h0.2.1 h0.2.2
theorem jl.{u0}{α:Sort u0}{J N P3 O:α->Prop}{G:Prop}(h:∃a:α,J a/\N a/\P3 a/\O a)(k:∀a,J a->N a->P3 a->O a->G):G:=h.elim λx0 h0=>k x0 h0.1 h0.2.1 h0.2.2.1 h0.2.2.2
theorem Ip.{u0}{α:Sort u0}{J N P3 O R:α->Prop}{G:Prop}(h:∃a:α,J a/\N a/\P3 a/\O a/\R a)(k:∀a,J a->N a->P3 a->O a->R a->G):G:=h.elim λx0 h0=>k x0 h0.1 h0.2.1 h0.2.2.1 h0.2.2.2.1 h0.2.2.2.2
theorem mN.{u0,u1}{α:Sort u0}{β:Sort u1}{J:α->β->Prop}{G:Prop}(h:∃a:α,∃b:β,J a b)(k:∀a,∀b,J a b->G):G:=h.elim λx0 h0=>h0.elim λx1 h1=>k x0 x1 h1
theorem ou.{u0,u1}{α:Sort u0}{β:Sort u1}{J P3:α->β->Prop}{G:Prop}(h:∃a:α,∃b:β,J a b/\P3 a b)(k:∀a,∀b,J a b->P3 a b->G):G:=h.elim λx0 h0=>h0.elim λx1 h1=>k x0 x1 h1.1 h1.2
theorem fH.{u0,u1}{α:Sort u0}{β:Sort u1}{J P3 N:α->β->Prop}{G:Prop}(h:∃a:α,∃b:β,J a b/\P3 a b/\N a b)(k:∀a,∀b,J a b->P3 a b->N a b->G):G:=h.elim λx0 h0=>h0.elim λx1 h1=>k x0 x1 h1.1 h1.2.1 h1.2.2
theorem fF.{u0,u1}{α:Sort u0}{β:Sort u1}{J P3 N O:α->β->Prop}{G:Prop}(h:∃a:α,∃b:β,J a b/\P3 a b/\N a b/\O a b)(k:∀a,∀b,J a b->P3 a b->N a b->O a b->G):G:=h.elim λx0 h0=>h0.elim λx1 h1=>k x0 x1 h1.1 h1.2.1 h1.2.2.1 h1.2.2.2
theorem ku.{u0,u1}{α:Sort u0}{β:Sort u1}{J P3 N O R:α->β->Prop}{G:Prop}(h:∃a:α,∃b:β,J a b/\P3 a b/\N a b/\O a b/\R a b)(k:∀a,∀b,J a b->P3 a b->N a b->O a b->R a b->G):G:=h.elim λx0 h0=>h0.elim λx1 h1=>k x0 x1 h1.1 h1.2.1 h1.2.2.1 h1.2.2.2.1 h1.2.2.2.2
theorem Af.{u0,u1}{α:Sort u0}{β:Sort u1}{J P3 N O R S:α->β->Prop}{G:Prop}(h:∃a:α,∃b:β,J a b/\P3 a b/\N a b/\O a b/\R a b/\S a b)(k:∀a,∀b,J a b->P3 a b->N a b->O a b->R a b->S a b->G):G:=h.elim λx0 h0=>h0.elim λx1 h1=>k x0 x1 h1.1 h1.2.1 h1.2.2.1 h1.2.2.2.1 h1.2.2.2.2.1 h1.2.2.2.2.2
theorem lT.{u0,u1,u2}{α:Sort u0}{β:Sort u1}{J:Sort u2}{P3:α->β->J->Prop}{G:Prop}(h:∃a:α,∃b:β,∃c:J,P3 a b c)(k:∀a,∀b,∀c,P3 a b c->G):G:=h.elim λx0 h0=>h0.elim λx1 h1=>h1.elim λN h2=>k x0 x1 N h2
theorem sP.{u0,u1,u2}{α:Sort u0}{β:Sort u1}{J:Sort u2}{P3 N:α->β->J->Prop}{G:Prop}(h:∃a:α,∃b:β,∃c:J,P3 a b c/\N a b c)(k:∀a,∀b,∀c,P3 a b c->N a b c->G):G:=h.elim λx0 h0=>h0.elim λx1 h1=>h1.elim λO h2=>k x0 x1 O h2.1 h2.2
theorem Ib.{u0,u1,u2}{α:Sort u0}{β:Sort u1}{J:Sort u2}{P3 N O:α->β->J->Prop}{G:Prop}(h:∃a:α,∃b:β,∃c:J,P3 a b c/\N a b c/\O a b c)(k:∀a,∀b,∀c,P3 a b c->N a b c->O a b c->G):G:=h.elim λx0 h0=>h0.elim λx1 h1=>h1.elim λR h2=>k x0 x1 R h2.1 h2.2.1 h2.2.2
theorem jZ.{u0,u1,u2}{α:Sort u0}{β:Sort u1}{J:Sort u2}{P3 N O R:α->β->J->Prop}{G:Prop}(h:∃a:α,∃b:β,∃c:J,P3 a b c/\N a b c/\O a b c/\R a b c)(k:∀a,∀b,∀c,P3 a b c->N a b c->O a b c->R a b c->G):G:=h.elim λx0 h0=>h0.elim λx1 h1=>h1.elim λS h2=>k x0 x1 S h2.1 h2.2.1 h2.2.2.1 h2.2.2.2
theorem nc.{u0,u1,u2,u3}{α:Sort u0}{β:Sort u1}{J:Sort u2}{N:Sort u3}{O:α->β->J->N->Prop}{G:Prop}(h:∃a:α,∃b:β,∃c:J,∃d:N,O a b c d)(k:∀a,∀b,∀c,∀d,O a b c d->G):G:=h.elim λx0 h0=>h0.elim λx1 h1=>h1.elim λR h2=>h2.elim λS h3=>k x0 x1 R S h3
theorem Cg.{u0,u1,u2,u3}{α:Sort u0}{β:Sort u1}{J:Sort u2}{N:Sort u3}{O R:α->β->J->N->Prop}{G:Prop}(h:∃a:α,∃b:β,∃c:J,∃d:N,O a b c d/\R a b c d)(k:∀a,∀b,∀c,∀d,O a b c d->R a b c d->G):G:=h.elim λx0 h0=>h0.elim λx1 h1=>h1.elim λS h2=>h2.elim λU h3=>k x0 x1 S U h3.1 h3.2
theorem p8.{u0,u1,u2,u3}{α:Sort u0}{β:Sort u1}{J:Sort u2}{N:Sort u3}{O R S U:α->β->J->N->Prop}{G:Prop}(h:∃a:α,∃b:β,∃c:J,∃d:N,O a b c d/\R a b c d/\S a b c d/\U a b c d)(k:∀a,∀b,∀c,∀d,O a b c d->R a b c d->S a b c d->U a b c d->G):G:=h.elim λx0 h0=>h0.elim λx1 h1=>h1.elim λY h2=>h2.elim λx3 h3=>k x0 x1 Y x3 h3.1 h3.2.1 h3.2.2.1 h3.2.2.2
theorem z5.{u0,u1,u2,u3,u4,u5,u6,u7}{α:Sort u0}{β:Sort u1}{J:Sort u2}{N:Sort u3}{O:Sort u4}{R:Sort u5}{S:Sort u6}{U:Sort u7}{Y:α->β->J->N->O->R->S->U->Prop}{G:Prop}(h:∃a:α,∃b:β,∃c:J,∃d:N,∃e:O,∃f:R,∃g:S,∃i:U,Y a b c d e f g i)(k:∀a,∀b,∀c,∀d,∀e,∀f,∀g,∀i,Y a b c d e f g i->G):G:=h.elim λx0 h0=>h0.elim λx1 h1=>h1.elim λx2 h2=>h2.elim λx3 h3=>h3.elim λx4 h4=>h4.elim λx5 h5=>h5.elim λx6 h6=>h6.elim λx7 h7=>k x0 x1 x2 x3 x4 x5 x6 x7 h7
theorem vn.{u0,u1}{α:Sort u0}{β:Sort u1}{J:α->Prop}{P3:α->β->Prop}{G:Prop}(h:∃a:α,J a/\∃b:β,P3 a b)(k:∀a,J a->∀b,P3 a b->G):G:=h.elim λx0 h0=>h0.2.elim λN h2=>k x0 h0.1 N h2
open PySem
noncomputable def aj.put:aj->Nat->AV->aj
 |[],k,v=>[(k,v)]
 |(j,x)::r,k,v=>if k=j then(k,v)::r else(j,x)::aj.put r k v
theorem aj.wx(F:aj)(k:Nat)(v:AV)(j:Nat):(F.put k v).lookup j=if j=k then some v else F.lookup j:=by
 have J:∀{a b:Nat},¬a=b->(a==b)=false:=λh=>beq_false_of_ne h;induction F with
 |nil=>
  show(match j==k with|true=>some v|false=>none)=_;by_cases h:j=k
  ·rw[if_pos h,h,beq_self_eq_true]
  ·rw[if_neg h,J h];rfl
 |cons p r N=>
  unfold aj.put;by_cases h:k=p.1
  ·rw[if_pos h,eN,eN,<-h]
   by_cases q:j=k
   ·rw[if_pos q,q,beq_self_eq_true]
   ·rw[if_neg q,J q]
  ·rw[if_neg h,eN,eN,N]
   by_cases q:j=p.1
   ·rw[q,beq_self_eq_true];exact(if_neg λz=>h (Eq.symm z)).symm
   ·rw[J q]
structure bN(n:Nat)(A:bg):Prop where
 depth:A.depth+n<900
 units:A.units+20*n<9000
 handled:A.handled=none
theorem bN.le{n m:Nat}{A:bg}(r:bN n A)(h:m<=n):bN m A:=
 ⟨bQ (fW h _) r.depth,bQ (fW (h_ _ h) _) r.units,r.handled⟩
theorem bN.cG{n:Nat}{A:bg}(r:bN n A):A.depth<recursionLimit:=du (bQ (c8 _ _) r.depth) (by decide)
theorem bN.W0{n:Nat}{A:bg}(r:bN n A):A.units<cLine:=du (bQ (c8 _ _) r.units) (by decide)
theorem bN.deeper{n:Nat}{A:bg}(r:bN (n+1) A)(env:aS):bN n (A.deeper env):=
 ⟨by have:=r.depth;show A.depth+1+n<900;omega,by have:=r.units;show A.units+3+20*n<9000;omega,r.handled⟩
noncomputable def Jq(C:Cfg)(ρ:aD)(env:aS)(h:aO)(x:ae)(v:AV):Prop:=
 ∃V,RelV ρ v V/\((env.kindOf x=some .local /\∃M,h.Ns env.locals M/\M x=some V)\/
  ((env.kindOf x=some .cell \/env.kindOf x=some .free)/\∃c,env.cells.lookup x=some c/\c∉ρ/\h.IsCell c (some V)))
structure a8(C:Cfg)(sc:bc)(ρ:aD)(F:aj)(env:aS)(h:aO):Prop where
 scope:env.scope=sc
 kind:sc.kind=.function
 globals:env.globals=mainGlobals
 builtins:env.builtins=builtinsNs
 ns:∃M,h.Ns env.locals M
 mG:env.locals∉ρ
 om:C.base.get? env.locals=none
 vars:∀k v,F.lookup k=some v->Jq C ρ env h (C.nm k) v
 own:∀x,env.kindOf x=some .cell ->∃c gw,env.cells.lookup x=some c/\c∉ρ/\c≠env.locals/\h.IsCell c gw/\C.base.get? c=none
 apart:∀x y c,env.cells.lookup x=some c->env.cells.lookup y=some c->x=y
 vo:∀x,env.kindOf x=some .free ->(x==("__classdict__":ae))=false
 cells:∀x c,env.cells.lookup x=some c->c∉ρ/\∃gw,h.IsCell c gw
 frees:∀x,env.kindOf x=some .free ->∃c,env.cells.lookup x=some c
 here:sc.names.lookup ("due":ae)=some .local ->env.code=C.code/\env.qual=C.qual
noncomputable def l7(env:aS)(T:ae->Prop)(a:ak):Prop:=a=env.locals\/∃x,T x/\env.kindOf x=some .cell /\env.cells.lookup x=some a
noncomputable abbrev dr(env:aS):ak->Prop:=l7 env λ_=>True
theorem oy{h:aO}{a:ak}{M}(n:h.Ns a M):∃o,h.get? a=some o:=n.imp λo q=>q.elim λ_ q=>q.elim λ_ q=>q.1
theorem nY{h:aO}{a:ak}{v}(n:h.IsCell a v):∃o,h.get? a=some o:=n.imp λo q=>q.1
theorem IsCell.of{h h':aO}{c:ak}{v}(n:h.IsCell c v)(k:∀o,h.get? c=some o->h'.get? c=some o):h'.IsCell c v:=n.imp λo q=>⟨k _ q.1,q.2⟩
theorem Ns.of{h h':aO}{c:ak}{M}(n:h.Ns c M)(k:∀o,h.get? c=some o->h'.get? c=some o):h'.Ns c M:=n.imp λo q=>q.imp λes q=>q.imp λep q=>⟨k _ q.1,q.2⟩
theorem Go.iZ{X:ak->Prop}{ρ aq:aD}{s s':ah}(g:Go X ρ s aq s'){c:ak}{o:iL}(e:s.heap.get? c=some o)(n:c∉ρ):c∉aq:=λm=>by
 rcases g.new c m with q|q
 ·exact n q
 ·rw[e]at q;cases q
theorem a8.step{C:Cfg}{sc:bc}{ρ aq:aD}{F:aj}{env:aS}{h h':aO}(N:a8 C sc ρ F env h)(p:ρ<+:aq)
 (k:∀a o,h.get? a=some o->a∉ρ->(a=env.locals\/∃x,env.cells.lookup x=some a)->h'.get? a=some o/\a∉aq):a8 C sc aq F env h':=by
 refine bO N.ns λO J=>?_;refine bO (oy J) λR hL=>?_;refine⟨N.scope,N.kind,N.globals,N.builtins,⟨O,Ns.of J λo e=>(k _ _ e N.mG (.inl rfl)).1⟩,(k _ _ hL N.mG (.inl rfl)).2,N.om,λj v q=>?_,λx q=>?_,N.apart,N.vo,λx c q=>?_,N.frees,N.here⟩
 ·refine aG (N.vars j v q) λV r hv=>?_
  exact⟨V,r.mono p,hv.imp (λq=>⟨q.1,q.2.imp λM q=>⟨Ns.of q.1 λo e=>(k _ _ e N.mG (.inl rfl)).1,q.2⟩⟩) λq=>⟨q.1,q.2.imp λc q=>⟨q.1,(nY q.2.2).elim λo ho=>(k _ _ ho q.2.1 (.inr ⟨_,q.1⟩)).2,IsCell.of q.2.2 λo e=>(k _ _ e q.2.1 (.inr ⟨_,q.1⟩)).1⟩⟩⟩
 ·refine ku (N.own x q) λc gw b d e f i=>?_
  refine bO (nY f) λo ho=>?_;exact⟨c,gw,b,(k _ _ ho d (.inr ⟨_,b⟩)).2,e,IsCell.of f λo e=>(k _ _ e d (.inr ⟨_,b⟩)).1,i⟩
 ·refine pL (N.cells x c q) λd gw f=>?_
  refine bO (nY f) λo ho=>?_;exact⟨(k _ _ ho d (.inr ⟨_,q⟩)).2,gw,IsCell.of f λo e=>(k _ _ e d (.inr ⟨_,q⟩)).1⟩
theorem a8.go{C:Cfg}{sc:bc}{ρ aq:aD}{F:aj}{env:aS}{s s':ah}(N:a8 C sc ρ F env s.heap)(g:Go No ρ s aq s'):a8 C sc aq F env s'.heap:=
 N.step g.pre λa o e n _=>⟨g.cI a o e n id,g.iZ e n⟩
theorem dr.out{C:Cfg}{sc:bc}{ρ:aD}{F:aj}{env:aS}{h:aO}{T:ae->Prop}(N:a8 C sc ρ F env h):∀a∈ρ,¬l7 env T a:=by
 rintro a J (rfl|⟨x,_,O,hc⟩)
 ·exact N.mG J
 ·refine fH (N.own x O) λc gw b d _=>?_
  rw[hc]at b;cases b;exact d J
theorem dr.base{C:Cfg}{sc:bc}{ρ:aD}{F:aj}{env:aS}{h:aO}{T:ae->Prop}(N:a8 C sc ρ F env h):∀a o,C.base.get? a=some o->¬l7 env T a:=by
 rintro a o ho (rfl|⟨x,_,J,hc⟩)
 ·rw[N.om]at ho;cases ho
 ·refine ku (N.own x J) λc gw b d _ _ i=>?_
  rw[hc]at b;cases b;rw[i]at ho;cases ho
noncomputable abbrev EM:=aj->St->Option (AV×St)
section
variable(C:Cfg)(n:Nat)(sc:bc)
structure bR(e:aJ)(f:EM):Prop where
 u:∀A env F ρ st s v st' Q E,bN n A->a8 C sc ρ F env s.heap->Rel C ρ st s.heap->f F st=some (v,st')->
  (∀V aq s',Go No ρ s aq s'->Rel C aq st' s'.heap->RelV aq v V->Q V s')->wpAny (model C.prog C.w) A (eval e env) Q E s
structure lh(e:aJ)(f:aj->St->Option (Bool×St)):Prop where
 u:∀A env F ρ st s b st' Q E,bN n A->a8 C sc ρ F env s.heap->Rel C ρ st s.heap->f F st=some (b,st')->
  (∀aq s',Go No ρ s aq s'->Rel C aq st' s'.heap->Q b s')->wpAny (model C.prog C.w) A (isTrue e env (eval e env)) Q E s
structure ip(es:List aJ)(f:aj->St->Option (List AV×St)):Prop where
 u:∀A env F ρ st s vs st' Q E(pos:bM),bN n A->a8 C sc ρ F env s.heap->Rel C ρ st s.heap->f F st=some (vs,st')->
  (∀Vs aq s',Go No ρ s aq s'->Rel C aq st' s'.heap->bu aq vs Vs->Q Vs s')->wpAny (model C.prog C.w) A (spliced (backTo pos (starEach es env))) Q E s
noncomputable def d8(t:af->af->dS af)(f:AV->AV->St->Option (AV×St)):Prop:=
 ∀A ρ st s a b J N v st' Q E,bN n A->Rel C ρ st s.heap->RelV ρ a J->RelV ρ b N->f a b st=some (v,st')->
  (∀V aq s',Go No ρ s aq s'->Rel C aq st' s'.heap->RelV aq v V->Q V s')->wpAny (model C.prog C.w) A (t J N) Q E s
noncomputable def uP(f:AV->St->Option Bool):Prop:=
 ∀A ρ st s a J b Q E,bN n A->Rel C ρ st s.heap->RelV ρ a J->f a st=some b->
  (∀s',Go No ρ s ρ s'->Rel C ρ st s'.heap->Q b s')->wpAny (model C.prog C.w) A (truthy J) Q E s
inductive Fl where
 |next|brk|cont|ret (v:AV)
noncomputable def C_(ρ:aD):Fl->jF->Prop
 |.next,f=>f=.next
 |.brk,f=>f=.brk
 |.cont,f=>f=.cont
 |.ret v,f=>∃V,f=.ret V/\RelV ρ v V
noncomputable abbrev SM:=aj->St->Option (Fl×aj×St)
structure vO(τ:Nat)(t:aS->dS jF)(f:SM):Prop where
 u:∀A env F ρ st s fl F' st' Q E,bN n A->τ<=s.toks->a8 C sc ρ F env s.heap->Rel C ρ st s.heap->f F st=some (fl,F',st')->
  (∀r aq s',Go (dr env) ρ s aq s'->a8 C sc aq F' env s'.heap->Rel C aq st' s'.heap->C_ aq fl r->Q r s')->wpAny (model C.prog C.w) A (t env) Q E s
noncomputable def cB(τ:Nat)(e:gJ)(f:SM):Prop:=vO C n sc τ (exec e) f
noncomputable def gr(τ:Nat)(es:List gJ)(f:SM):Prop:=vO C n sc τ (execs es) f
end
noncomputable def pJ(C:Cfg)(sc:bc)(env:aS)(ρ:aD)(s:ah)(Q:jF->ah->Prop)(p:Fl×aj×St):Prop:=
 ∀r aq s',Go (dr env) ρ s aq s'->a8 C sc aq p.2.1 env s'.heap->Rel C aq p.2.2 s'.heap->C_ aq p.1 r->Q r s'
theorem pJ.step{C:Cfg}{sc:bc}{env:aS}{ρ J:aD}{s s1:ah}{Q:jF->ah->Prop}{p:Fl×aj×St}(g:Go (dr env) ρ s J s1)(h:pJ C sc env ρ s Q p):pJ C sc env J s1 Q p:=λr aq s' N=>h r aq s' (g.trans N)
section
variable(C:Cfg)(n:Nat)(sc:bc)
noncomputable def KE(e:aJ)(f:EM):Prop:=∀{A env F ρ st s Q E},bN n A->a8 C sc ρ F env s.heap->Rel C ρ st s.heap->Ok (f F st) (Res C ρ s Q)->wpAny (model C.prog C.w) A (eval e env) Q E s
noncomputable def KT(e:aJ)(f:aj->St->Option (Bool×St)):Prop:=∀{A env F ρ st s Q E},bN n A->a8 C sc ρ F env s.heap->Rel C ρ st s.heap->Ok (f F st) (tH C ρ s Q)->wpAny (model C.prog C.w) A (isTrue e env (eval e env)) Q E s
noncomputable def YJ(es:List aJ)(f:aj->St->Option (List AV×St)):Prop:=∀{A env F ρ st s Q E}{pos:bM},bN n A->a8 C sc ρ F env s.heap->Rel C ρ st s.heap->Ok (f F st) (JR C ρ s Q)->wpAny (model C.prog C.w) A (spliced (backTo pos (starEach es env))) Q E s
noncomputable def KX(τ:Nat)(t:aS->dS jF)(f:SM):Prop:=∀{A env F ρ st s Q E},bN n A->τ<=s.toks->a8 C sc ρ F env s.heap->Rel C ρ st s.heap->Ok (f F st) (pJ C sc env ρ s Q)->wpAny (model C.prog C.w) A (t env) Q E s
noncomputable def YH(t:af->af->dS af)(f:AV->AV->St->Option (AV×St)):Prop:=∀{A ρ st s a b J N Q E},bN n A->Rel C ρ st s.heap->RelV ρ a J->RelV ρ b N->Ok (f a b st) (Res C ρ s Q)->wpAny (model C.prog C.w) A (t J N) Q E s
noncomputable def zJ(f:AV->St->Option Bool):Prop:=∀{A ρ st s a J Q E},bN n A->Rel C ρ st s.heap->RelV ρ a J->Ok (f a st) (λb=>∀s',Go No ρ s ρ s'->Rel C ρ st s'.heap->Q b s')->wpAny (model C.prog C.w) A (truthy J) Q E s
end
section
variable{C:Cfg}{n:Nat}{sc:bc}
theorem bR.k{e:aJ}{f:EM}(h:bR C n sc e f):KE C n sc e f:=λhA N R o=>o.some λp e K=>h.u _ _ _ _ _ _ p.1 p.2 _ _ hA N R e K
theorem KE.s{e:aJ}{f:EM}(h:KE C n sc e f):bR C n sc e f:=⟨λ_ _ _ _ _ _ _ _ _ _ hA N R e K=>h hA N R (Ok.of e K)⟩
theorem lh.k{e:aJ}{f}(h:lh C n sc e f):KT C n sc e f:=λhA N R o=>o.some λp e K=>h.u _ _ _ _ _ _ p.1 p.2 _ _ hA N R e K
theorem KT.s{e:aJ}{f}(h:KT C n sc e f):lh C n sc e f:=⟨λ_ _ _ _ _ _ _ _ _ _ hA N R e K=>h hA N R (Ok.of e K)⟩
theorem ip.k{es:List aJ}{f}(h:ip C n sc es f):YJ C n sc es f:=λhA N R o=>o.some λp e K=>h.u _ _ _ _ _ _ p.1 p.2 _ _ _ hA N R e K
theorem vO.k{τ:Nat}{t}{f}(h:vO C n sc τ t f):KX C n sc τ t f:=λhA ht N R o=>o.some λp e K=>h.u _ _ _ _ _ _ p.1 p.2.1 p.2.2 _ _ hA ht N R e K
theorem KX.s{τ:Nat}{t}{f}(h:KX C n sc τ t f):vO C n sc τ t f:=⟨λ_ _ _ _ _ _ _ _ _ _ _ hA ht N R e K=>h hA ht N R (Ok.of e K)⟩
theorem d8.k{t}{f}(h:d8 C n t f):YH C n t f:=λhA R J N o=>o.some λp e K=>h _ _ _ _ _ _ _ _ p.1 p.2 _ _ hA R J N e K
theorem uP.k{f}(h:uP C n f):zJ C n f:=λhA R J o=>o.some λp e K=>h _ _ _ _ _ _ p _ _ hA R J e K
theorem zJ.s{f}(h:zJ C n f):uP C n f:=λ_ _ _ _ _ _ _ _ _ hA R J e K=>h hA R J (Ok.of e K)
end
theorem wt{α:Type}{M:uK}{A:bg}{t:dS α}{Q:α->ah->Prop}{E:af->ah->Prop}{s:ah}{τ:Nat}(ht:τ<=s.toks)(h:wpAny M A t (λa s'=>τ<=s'.toks->Q a s') E s):wpAny M A t Q E s:=
 wpAny_with_toks ht (e7 h (λ_ _ q=>q) λ_ _ q _=>q)
section
variable{C:Cfg}{n:Nat}{sc:bc}
noncomputable def aa(k:Nat):EM:=λF st=>(F.lookup k).map (·,st)
theorem rB{A:bg}{env:aS}{F:aj}{ρ:aD}{s:ah}{Q:af->ah->Prop}{E:af->ah->Prop}{k:Nat}{v:AV}
 (N:a8 C sc ρ F env s.heap)(h:F.lookup k=some v)(K:∀V,RelV ρ v V->Q V s):wpAny (model C.prog C.w) A (loadName env (C.nm k)) Q E s:=by
 have hk:env.scope.kind=.function :=by rw[N.scope];exact N.kind
 obtain⟨V,r,⟨hl,M,J,hm⟩|⟨hl,c,hc,J,hv⟩⟩:=N.vars k v h
 ·exact wpAny_loadName_local hk hl J hm (K V r)
 ·rcases hl with hl|hl
  ·exact wpAny_loadName_cell hk hl hc hv (K V r)
  ·exact wpAny_loadName_free hk hl hc hv (K V r) (N.vo _ hl)
theorem ai{x:ae}{pos:bM}(k:Nat)(J:C.nm k=x)(hd:(x==("__debug__":ae))=false):bR C n sc (.Name x pos) (aa k):=KE.s λhA N R h=>by
 subst J;exact h.map.some λv e h=>sE (rB N e λV r=>h V _ _ .refl R r) hd
noncomputable def xk(v:AV):EM:=λ_ st=>some (v,st)
theorem aA{i:Int}{k:Nat}{pos:bM}:bR C n sc (.Constant (.int i) k pos) (xk (.int i)):=KE.s λhA N R h=>wpAny_Constant_int (h _ _ _ (.toks _) R ⟨_,rfl⟩)
theorem cz{x:ae}{k:Nat}{pos:bM}:bR C n sc (.Constant (.str x) k pos) (xk (.str x)):=KE.s λhA N R h=>Z8 (h _ _ _ (.toks _) R ⟨_,rfl⟩)
theorem kv{b:Bool}{k:Nat}{pos:bM}:bR C n sc (.Constant (.bool b) k pos) (xk (.bool b)):=KE.s λhA N R h=>λ_ _ _=>h _ _ _ .refl R rfl
noncomputable def ay(o:AV->AV->St->Option (AV×St))(f g:EM):EM:=λF st=>(f F st).bind λp=>(g F p.2).bind λq=>o p.1 q.1 q.2
theorem vH{α β:Type}{x:Option α}{f:α->Option β}{b:β}(h:x.bind f=some b):∃a,x=some a/\f a=some b:=Option.bind_eq_some_iff.mp h
theorem aY{l r:aJ}{op:HM}{pos:bM}{f g:EM}{o}(hl:bR C n sc l f)(hr:bR C n sc r g)(ho:d8 C n (binaryOp op) o):
 bR C n sc (.BinOp l op r pos) (ay o f g):=KE.s λhA N R h=>wpAny_BinOp (hl.k hA N R (h.bind.mono λp h Va J t1 g1 O S=>hr.k hA (N.go g1) O (h.bind.mono λq h Vb bA t2 g2 U Y=>ho.k hA U (S.mono g2.pre) Y (h.mono λr k=>k.step (g1.trans g2)))))
theorem BU{l r:aJ}{op:CmpOp}{pos:bM}{f g:EM}{o}(hl:bR C n sc l f)(hr:bR C n sc r g)(ho:d8 C n (compareOp op) o)
 (hm:behindInMarks op r=false):
 bR C n sc (.Compare l [op] [r] pos) (ay o f g):=KE.s λhA N R h=>wpAny_Compare1 (hl.k hA N R (h.bind.mono λp h Va J t1 g1 O S=>hr.k hA (N.go g1) O (h.bind.mono λq h Vb bA t2 g2 U Y=>ho.k hA U (S.mono g2.pre) Y (h.mono λr k=>k.step (g1.trans g2))))) hm
noncomputable def aT(o:AV->AV->St->Option (AV×St))(f g:EM):aj->St->Option (Bool×St):=
 λF st=>(ay o f g F st).bind λp=>p.1.b?.map λb=>(b,p.2)
theorem cQ{l r:aJ}{op:CmpOp}{pos:bM}{f g:EM}{o}(hl:bR C n sc l f)(hr:bR C n sc r g)(ho:d8 C n (compareOp op) o)
 (hm:behindInMarks op r=false):
 lh C n sc (.Compare l [op] [r] pos) (aT o f g):=KT.s λhA N R h=>wpAny_isTrue_Compare1 (hl.k hA N R (h.bind.bind.mono λp h Va J t1 g1 O S=>hr.k hA (N.go g1) O (h.bind.mono λq h Vb bA t2 g2 U Y=>ho.k hA U (S.mono g2.pre) Y (h.mono λr h V aq s' g' R' r'=>r'.b h.map λx h=>IF (h aq s' ((g1.trans g2).trans g') R'))))) hm
noncomputable def kn(t:AV->St->Option Bool)(f:EM):aj->St->Option (Bool×St):=λF st=>(f F st).bind λp=>(t p.1 p.2).map (·,p.2)
theorem qh{e:aJ}{f:EM}{t}(he:∀env,isTrue e env (eval e env)=(do let v <-eval e env;standAt e.pos;holding [v] (truthy v)))(hf:bR C n sc e f)(ht:uP C n t):
 lh C n sc e (kn t f):=KT.s λhA N R h=>wpAny_isTrue_value (hf.k hA N R (h.bind.mono λp h Va J t1 g1 O S=>ht.k hA O S (h.map.mono λb h s' U Y=>h _ s' (g1.trans U) Y))) (he _)
noncomputable def ix(f g:aj->St->Option (Bool×St)):aj->St->Option (Bool×St):=λF st=>(f F st).bind λp=>if p.1 then some (true,p.2)else g F p.2
structure qR(C:Cfg)(n:Nat)(sc:bc)(op:BoolOp)(es:List aJ)(f:aj->St->Option (Bool×St)):Prop where
 u:∀{A env F ρ st s Q E},bN n A->a8 C sc ρ F env s.heap->Rel C ρ st s.heap->Ok (f F st) (tH C ρ s Q)->wpAny (model C.prog C.w) A (allTrue op es env) Q E s
theorem wu:qR C n sc .Or [] (λ_ st=>some (false,st)):=⟨λhA N R h=>wpAny_allTrue_Or_nil (h _ _ .refl R)⟩
theorem oN{x:aJ}{es:List aJ}{f g}(h:lh C n sc x f)(hs:qR C n sc .Or es g):qR C n sc .Or (x::es) (ix f g):=⟨λhA N R q=>
 wpAny_allTrue_Or_cons (h.k hA N R (q.bind.mono λp q J t1 g1 O=>by
  obtain⟨b,s1⟩:=p;cases b with
  |false=>exact hs.u hA (N.go g1) O (Ok.mono q λr k=>k.step g1)
  |true=>exact q J t1 g1 O))⟩
theorem rJ{op:BoolOp}{es:List aJ}{pos:bM}{f}(h:qR C n sc op es f):lh C n sc (.BoolOp op es pos) f:=KT.s λhA N R q=>wpAny_isTrue_BoolOp (h.u hA N R q)
noncomputable def gf(t:aj->St->Option (Bool×St))(f g:EM):EM:=λF st=>(t F st).bind λp=>if p.1 then f F p.2 else g F p.2
theorem nZ{e a b:aJ}{pos:bM}{t f g}(he:lh C n sc e t)(O:bR C n sc a f)(hb:bR C n sc b g):bR C n sc (.IfExp e a b pos) (gf t f g):=KE.s λhA N R q=>wpAny_IfExp (he.k hA N R (q.bind.mono λp q S t1 g1 J=>by
 obtain⟨b,s1⟩:=p;cases b with
 |true=>exact O.k hA (N.go g1) J (Ok.mono q λr k=>k.step g1)
 |false=>exact hb.k hA (N.go g1) J (Ok.mono q λr k=>k.step g1)))
end
section
variable{C:Cfg}{n:Nat}{sc:bc}{τ:Nat}
theorem Ns.unique{h:aO}{a:ak}{M J:ae->Option af}(x:h.Ns a M)(y:h.Ns a J):M=J:=by
 refine jZ x λo es ep e d _ f=>?_;refine jZ y λo' R S N O _ U=>?_;rw[e]at N;cases N;rw[d]at O;cases O;funext z
 rw[<-f z,<-U z]
theorem D_{h:aO}{a c:ak}{M:ae->Option af}{v}(x:h.Ns a M)(y:h.IsCell c v):c≠a:=by
 rintro rfl;refine jZ x λo es ep e d _ f=>?_;refine aG y λo' J N=>?_;rw[e]at J;cases J;rw[d]at N;cases N
theorem a8.upd{ρ:aD}{F:aj}{env:aS}{h h':aO}{X:ak}{k:Nat}{v:AV}(N:a8 C sc ρ F env h)(hk:∀b o,b≠X->h.get? b=some o->h'.get? b=some o)
 (Y:∃R,h'.Ns env.locals R/\∀x,x≠C.nm k->∀M,h.Ns env.locals M->R x=M x)(U:∀c gw,h.IsCell c gw->∃J,h'.IsCell c J)(ho:∀x c,x≠C.nm k->env.cells.lookup x=some c->c≠X)(hv:Jq C ρ env h' (C.nm k) v):a8 C sc ρ (F.put k v) env h':=by
 refine aG Y λR O hM=>?_;refine⟨N.scope,N.kind,N.globals,N.builtins,⟨_,O⟩,N.mG,N.om,λj x q=>?_,λx q=>?_,N.apart,N.vo,λx c q=>(N.cells x c q).imp_right λf=>f.elim λgw f=>U c gw f,N.frees,N.here⟩
 ·rw[aj.wx]at q
  by_cases S:j=k
  ·rw[if_pos S]at q
   exact S▸mn q▸hv
  ·rw[if_neg S]at q
   have ne:C.nm j≠C.nm k:=λz=>S (C.inj _ _ z);exact(N.vars j x q).imp λV' p=>p.imp_right λhv=>hv.imp (λp=>p.imp_right λe=>e.elim λM e=>⟨R,O,(hM _ ne M e.1).trans e.2⟩) λp=>p.imp_right λe=>e.imp λc e=>⟨e.1,e.2.1,IsCell.of e.2.2 λo e'=>hk c o (ho _ c ne e.1) e'⟩
 ·refine ku (N.own x q) λc gw b d e f i=>?_
  exact(U c gw f).elim λJ f=>⟨c,J,b,d,e,f,i⟩
theorem Go.upd{Y:ak->Prop}{ρ:aD}{s:ah}{h':aO}{t:Nat}{X:ak}(hk:∀b o,b≠X->s.heap.get? b=some o->h'.get? b=some o)(al:∃o,h'.get? X=some o)(J:Y X):Go Y ρ s ρ {s with heap:=h',toks:=t}:=
 ⟨jJ _,λ_ h=>.inl h,λa o e _ x=>hk a o (λz=>x (z▸J)) e,λa o e=>if q:a=X then q▸al else⟨o,hk a o q e⟩,rfl,rfl⟩
theorem mS{A:bg}{env:aS}{F:aj}{ρ:aD}{st:St}{s:ah}{Q:Unit->ah->Prop}{E:af->ah->Prop}{k:Nat}{v:AV}{V:af}{T:ae->Prop}(hT:T (C.nm k))
 (N:a8 C sc ρ F env s.heap)(R:Rel C ρ st s.heap)(hk:sc.names.lookup (C.nm k)=some .local \/sc.names.lookup (C.nm k)=some .cell)(r:RelV ρ v V)
 (K:∀s',Go (l7 env T) ρ s ρ s'->a8 C sc ρ (F.put k v) env s'.heap->Rel C ρ st s'.heap->Q () s'):wpAny (model C.prog C.w) A (storeName env (C.nm k) V) Q E s:=by
 have U:env.scope.kind=.function :=N.scope▸N.kind;have fin:∀{h':aO}{t:Nat}{X:ak},(∀b o,b≠X->s.heap.get? b=some o->h'.get? b=some o)->(∃o,h'.get? X=some o)->l7 env T X->a8 C sc ρ (F.put k v) env h'->Q () {s with heap:=h',toks:=t}:=λhk al hX N'=>
  K _ (Go.upd hk al hX) N' (R.lY _ (λb o e x=>hk b o (λz=>x (z▸hX)) e) (dr.out N) (dr.base N))
 refine bO N.ns λY S=>?_;rcases hk with hk|hk
 ·have hl:env.kindOf (C.nm k)=some .local :=by unfold jH;rw[N.scope];exact hk
  refine wpAny_storeName_local hl S (λh' O hs=>?_) (by rw[U];rfl);have J:∀b o,b≠env.locals->s.heap.get? b=some o->h'.get? b=some o:=λb o ne e=>(hs.2 b ne).trans e;exact fin J (oy O) (.inl rfl) (N.upd J ⟨_,O,λx ne M e=>(if_neg ne).trans (congrFun (Ns.unique S e) x)⟩ (λc gw f=>⟨gw,IsCell.of f λo e=>J c o (D_ S f) e⟩)
   (λx c _ e=>(N.cells x c e).2.elim λgw f=>D_ S f) ⟨V,r,.inl ⟨hl,_,O,if_pos rfl⟩⟩)
 ·have hl:env.kindOf (C.nm k)=some .cell :=by unfold jH;rw[N.scope];exact hk
  refine ku (N.own _ hl) λc gw hc hcn hcL hcv hcb=>?_;refine wpAny_storeName_cell U hl hc hcv λh' O hs=>?_;have J:∀b o,b≠c->s.heap.get? b=some o->h'.get? b=some o:=λb o ne e=>(hs.2 b ne).trans e;exact fin (t:=s.toks) J (nY O) (.inr ⟨_,hT,hl,hc⟩) (N.upd J ⟨Y,Ns.of S λo e=>J _ o (Ne.symm hcL) e,λx _ M e=>congrFun (Ns.unique S e) x⟩ (λc' v₁ f=>if q:c'=c then⟨_,q▸O⟩else⟨v₁,IsCell.of f λo e=>J c' o q e⟩)
   (λx c' ne e z=>ne (N.apart _ _ _ e (z▸hc))) ⟨V,r,.inr ⟨.inl hl,c,hc,hcn,O⟩⟩)
theorem Go.own{env:aS}{ρ aq:aD}{s s':ah}(g:Go No ρ s aq s'):Go (dr env) ρ s aq s':=g.weak λ_ h=>h.elim
noncomputable def bj(k:Nat)(f:EM):SM:=λF st=>(f F st).map λp=>(.next,F.put k p.1,p.2)
theorem mR{value:aJ}{t:Option aJ}{l:Nat}{env env':aS}(h:env.scope=env'.scope):swapsWith value t l env=swapsWith value t l env':=by
 unfold swapsWith Ce jH;rw[h]
theorem cY{x:ae}{p' pos:bM}{e:aJ}{f:EM}(k:Nat)(J:C.nm k=x)(he:bR C n sc e f)
 (hk:sc.names.lookup x=some .local \/sc.names.lookup x=some .cell)
 (hs:swapsWith e (some (.Name x p')) pos.line {(default:aS)with scope:=sc}=pure false):
 cB C n sc τ (.Assign [.Name x p'] e pos) (bj k f):=KX.s λhA ht N R h=>by
 subst J;exact x9 (he.k hA N R (h.map.mono λp h V O t1 g1 S U=>mS trivial (N.go g1) S hk U λs' Y N' R'=>h _ _ _ (g1.own.trans Y) N' R' rfl)) (by rw[mR (env':={(default:aS)with scope:=sc}) N.scope];exact hs)
noncomputable def cy(f:EM):SM:=λF st=>(f F st).map λp=>(.ret p.1,F,p.2)
theorem eC{e:aJ}{f:EM}{pos:bM}(he:bR C n sc e f):cB C n sc τ (.Return (some e) pos) (cy f):=KX.s λhA ht N R h=>SR (he.k hA N R (h.map.mono λp h V J t1 g1 O S=>h _ _ _ g1.own (N.go g1) O ⟨V,rfl,S⟩))
noncomputable def gN(f:EM):SM:=λF st=>(f F st).map λp=>(.next,F,p.2)
theorem o7{e:aJ}{f:EM}{pos:bM}(he:bR C n sc e f)
 (hs:swapsWith e none pos.line {(default:aS)with scope:=sc}=pure false):cB C n sc τ (.Expr e pos) (gN f):=KX.s λhA ht N R h=>by
 refine R8 (he.k hA N R (h.map.mono λp h V J t1 g1 O S=>h _ _ _ g1.own (N.go g1) O rfl)) ?_ (by rw[mR (env':={(default:aS)with scope:=sc}) N.scope];exact hs);unfold interactive;rw[N.scope,N.kind];rfl
noncomputable def yW:SM:=λF st=>some (.cont,F,st)
theorem Rv{pos:bM}:cB C n sc τ (.Continue pos) yW:=KX.s λhA ht N R h=>wpAny_Continue (h _ _ _ .refl N R rfl)
noncomputable def cn(t:aj->St->Option (Bool×St))(f g:SM):SM:=λF st=>(t F st).bind λp=>if p.1 then f F p.2 else g F p.2
theorem eO{e:aJ}{a b:List gJ}{pos:bM}{t f g}(he:lh C n sc e t)(S:gr C n sc τ a f)(hb:gr C n sc τ b g):cB C n sc τ (.If e a b pos) (cn t f g):=KX.s λhA ht N R h=>wpAny_If (wt ht (he.k hA N R (h.bind.mono λp h U t1 g1 O J=>by
 obtain⟨b,s1⟩:=p;cases b with
 |true=>exact S.k hA J (N.go g1) O (Ok.mono h λq k=>k.step g1.own)
 |false=>exact hb.k hA J (N.go g1) O (Ok.mono h λq k=>k.step g1.own))))
noncomputable def aC:SM:=λF st=>some (.next,F,st)
theorem bp:gr C n sc τ [] aC:=KX.s λhA ht N R h=>Cj (h _ _ _ .refl N R rfl)
noncomputable def ao(f g:SM):SM:=λF st=>(f F st).bind λp=>match p.1 with|.next =>g p.2.1 p.2.2|fl=>some (fl,p.2.1,p.2.2)
theorem aK{x:gJ}{xs:List gJ}{f g:SM}(hx:cB C n sc τ x f)(hs:gr C n sc τ xs g):gr C n sc τ (x::xs) (ao f g):=KX.s λhA ht N R h=>kE (wt ht (hx.k hA ht N R (h.bind.mono λp h r ρ1 t1 g1 O S J U=>by
 obtain⟨Y,F1,s1⟩:=p;cases Y with
 |next=>cases J;exact hs.k hA U O S (Ok.mono h λq k=>k.step g1)
 |brk=>cases J;exact h _ _ _ g1 O S rfl
 |cont=>cases J;exact h _ _ _ g1 O S rfl
 |ret v=>obtain⟨V,e,J⟩:=J;subst e;exact h _ _ _ g1 O S ⟨V,rfl,J⟩)))
noncomputable def eS(k:Nat)(o:AV->AV->St->Option (AV×St))(f:EM):SM:=λF st=>(F.lookup k).bind λx=>(f F st).bind λp=>(o x p.1 p.2).map λq=>(.next,F.put k q.1,q.2)
theorem mx{x:ae}{p' pos:bM}{op:HM}{e:aJ}{f:EM}{o}(k:Nat)(J:C.nm k=x)(he:bR C n sc e f)(ho:d8 C n (inplaceOp op) o)
 (hk:sc.names.lookup x=some .local \/sc.names.lookup x=some .cell):
 cB C n sc τ (.AugAssign (.Name x p') op e pos) (eS k o f):=KX.s λhA ht N R h=>by
 subst J;exact h.bind.some λx0 h0 h=>wpAny_AugAssign_Name (rB N h0 λV0 O=>he.k hA N R (h.bind.mono λp h V S t1 g1 U Y=>ho.k hA U (O.mono g1.pre) Y (h.map.mono λq h W bA t2 g2 R2 r2=>
  mS trivial (N.go (g1.trans g2)) R2 hk r2 λs' g' N' R'=>h _ _ _ ((g1.trans g2).own.trans g') N' R' rfl)))
noncomputable def after(again:aj->St->Option (Fl×aj×St))(q:Fl×aj×St):Option (Fl×aj×St):=
 Fl.casesOn q.1 (again q.2.1 q.2.2) (some (.next,q.2.1,q.2.2)) (again q.2.1 q.2.2) λv=>some (.ret v,q.2.1,q.2.2)
noncomputable def lL(t:aj->St->Option (Bool×St))(b:SM)(k:Nat):SM:=
 BV (λ_ _=>none) (λ_ again F st=>(t F st).bind λp=>if p.1 then(b F p.2).bind (after again)else some (.next,F,p.2)) k
noncomputable def Cv(C:Cfg)(sc:bc)(env:aS)(ρ:aD)(s:ah)(τ:Nat)(Q:jF->ah->Prop)(again:aj->St->Option (Fl×aj×St))(s1:ah):Prop:=
 τ<=s1.toks/\∃F1 J st1,Go (dr env) ρ s J s1/\a8 C sc J F1 env s1.heap/\Rel C J st1 s1.heap/\Ok (again F1 st1) (pJ C sc env ρ s Q)
@[elab_as_elim] theorem Oi{env:aS}{ρ J:aD}{s s1:ah}{Q:jF->ah->Prop}{again:aj->St->Option (Fl×aj×St)}{q:Fl×aj×St}{r:jF}(h:Ok (after again q) (pJ C sc env ρ s Q))(ht:τ<=s1.toks)
 (g:Go (dr env) ρ s J s1)(N:a8 C sc J q.2.1 env s1.heap)(R:Rel C J q.2.2 s1.heap)(O:C_ J q.1 r){P:jF->Prop}(S:Cv C sc env ρ s τ Q again s1->P .next)(hc:Cv C sc env ρ s τ Q again s1->P .cont)(hb:Q .next s1->P .brk)(hr:∀V,Q (.ret V) s1->P (.ret V)):P r:=by
 obtain⟨fl,F1,st1⟩:=q;cases fl with
 |next=>cases O;exact S ⟨ht,F1,J,st1,g,N,R,h⟩
 |cont=>cases O;exact hc ⟨ht,F1,J,st1,g,N,R,h⟩
 |brk=>cases O;exact hb (h _ _ _ g N R rfl)
 |ret v=>exact O.elim λV e=>e.1▸hr V (h _ _ _ g N R ⟨V,rfl,e.2⟩)
theorem EJ{e:aJ}{b:List gJ}{pos:bM}{t f}(k:Nat)(he:lh C n sc e t)(hb:gr C n sc τ b f):cB C n sc τ (.While e b [] pos) (lL t f k):=KX.s λ{A env F ρ st s Q E} hA ht N R h=>by
 refine S0 (Sj (λj s1=>Cv C sc env ρ s τ Q (lL t f j) s1) ?_ k ⟨ht,F,ρ,st,.refl,N,R,h⟩);rintro j s1 ⟨O,F1,ρ1,st1,g1,S,R1,h1⟩;cases j with
 |zero=>exact dA h1
 |succ j=>
  refine wt O (he.k hA S R1 (h1.bind.mono λp h1 bA t2 g2 Y J=>?_));obtain⟨b1,s2⟩:=p;cases b1 with
  |false=>exact Cj (h1 _ _ _ (g1.trans g2.own) (S.go g2) Y rfl)
  |true=>exact wt J (hb.k hA J (S.go g2) Y ((Ok.bind h1).mono λq h r ρ3 t3 g3 N3 R3 r3 U=>Oi h U ((g1.trans g2.own).trans g3) N3 R3 r3 (λz=>⟨j,iJ _,z⟩) (λz=>⟨j,iJ _,z⟩) (λz=>z) λ_ z=>z))
end
open PyProof.Rows
inductive It where
 |list (l i:Nat)
 |tup (l i:Nat)
 |str (x:ae) (i:Nat)
 |range (x left step:Int)
 |enum (l i:Nat)
 |zip (l m i:Nat)
 |gen (l:Nat) (nx:St->Option (Option AV×St))
inductive Item where
 |one (v:AV)
 |two (a b:AV)
noncomputable def It.two(it:It):Bool:=It.casesOn it (λ_ _=>false) (λ_ _=>false) (λ_ _=>false) (λ_ _ _=>false) (λ_ _=>true) (λ_ _ _=>true) λ_ _=>false
noncomputable def It.vS(it:It):Bool:=It.casesOn it (λ_ _=>false) (λ_ _=>true) (λ_ _=>true) (λ_ _ _=>true) (λ_ _=>false) (λ_ _ _=>false) λ_ _=>true
noncomputable def AO.Jx(o:AO):Option (List AV):=AO.casesOn o aL jG (λ_=>aL) (λ_=>aL) (λ_ _=>aL) (λ_=>aL) (λ_=>aL) (λ_ _=>aL) (λ_ _=>aL) (λ_ _=>aL) (λ_=>aL) λ_=>aL
noncomputable def AO.JP(o:AO):Option (List AV):=AO.casesOn o aL (λ_=>aL) jG (λ_=>aL) (λ_ _=>aL) (λ_=>aL) (λ_=>aL) (λ_ _=>aL) (λ_ _=>aL) (λ_ _=>aL) (λ_=>aL) λ_=>aL
theorem Tg{o:AO}{P:List AV->Prop}(h:Ok o.Jx P):∃xs,o=.list xs/\P xs:=by
 cases o with
 |list xs=>exact⟨xs,rfl,h⟩
 |_=>exact dA h
theorem Uz{o:AO}{P:List AV->Prop}(h:Ok o.JP P):∃xs,o=.tup xs/\P xs:=by
 cases o with
 |tup xs=>exact⟨xs,rfl,h⟩
 |_=>exact dA h
noncomputable def bF(st:St)(l:Nat):Option (List AV):=(st[l]?).bind AO.Jx
noncomputable def eo(st:St)(l:Nat):Option (List AV):=(st[l]?).bind AO.JP
theorem dC{st:St}{l:Nat}{xs:List AV}(h:st[l]?=some (.list xs)):bF st l=some xs:=by unfold bF;rw[h];rfl
theorem kO{st:St}{l:Nat}{xs:List AV}(h:st[l]?=some (.tup xs)):eo st l=some xs:=by unfold eo;rw[h];rfl
noncomputable def It.next(it:It)(st:St):Option (Option (Item×It)×St):=It.casesOn it
 (λl i=>(bF st l).map λxs=>((xs[i]?).map λv=>(.one v,.list l (i+1)),st))
 (λl i=>(eo st l).map λxs=>((xs[i]?).map λv=>(.one v,.tup l (i+1)),st))
 (λx i=>some ((x.cps[i]?).map λc=>(.one (.str ⟨#[c]⟩),.str x (i+1)),st))
 (λx left step=>some (if 0<left then some (.one (.int x),.range (x+step) (left -1) step)else none,st))
 (λl i=>(bF st l).map λxs=>((xs[i]?).map λv=>(.two (.int i) v,.enum l (i+1)),st))
 (λl m i=>(bF st l).bind λxs=>(bF st m).map λJ=>((xs[i]?).bind λv=>(J[i]?).map λw=>(.two v w,.zip l m (i+1)),st))
 λl nx=>(nx st).map λp=>(p.1.map λv=>(.one v,.gen l nx),p.2)
structure Zi(h:aO)(z TI TO i1 i2 l1 l2:ak)(k:Nat)(f0 a b:af):Prop where
 D:ZipApart z TI TO i1 i2 l1 l2
 z:IsZip h z TI TO f0
 i:Cc h TI (.ref i1) (.ref i2)
 o:Cc h TO a b
 one:h.IsListIter i1 l1 k
 two:h.IsListIter i2 l2 k
theorem Zi.of{h h':aO}{z TI TO i1 i2 l1 l2:ak}{k:Nat}{f0 f1 a b J b':af}(Z:Zi h z TI TO i1 i2 l1 l2 k f0 a b)(N:IsZip h' z TI TO f1)(O:Cc h' TI (.ref i1) (.ref i2))(R:Cc h' TO J b')(S:∀o,h.get? i1=some o->h'.get? i1=some o)(U:∀o,h.get? i2=some o->h'.get? i2=some o):
 Zi h' z TI TO i1 i2 l1 l2 k f1 J b':=⟨Z.D,N,O,R,Z.one.imp λo e=>⟨S o e.1,e.2⟩,Z.two.imp λo e=>⟨U o e.1,e.2⟩⟩
section
variable(C:Cfg)(n:Nat)
noncomputable def JC(ρ:aD)(r:Option AV)(V:Option af):Prop:=r.elim (V=none) λv=>∃W,V=some W/\RelV ρ v W
noncomputable def Cw(l:Nat)(nx:St->Option (Option AV×St)):Prop:=
 ∀{A ρ st s a Q E},bN n A->Rel C ρ st s.heap->ρ[l]?=some a->Ok (nx st) (λp=>∀V aq s',Go No ρ s aq s'->Rel C aq p.2 s'.heap->JC aq p.1 V->Q V s')->wpAny (model C.prog C.w) A (pyNext (.ref a)) Q E s
noncomputable def fO(ρ:aD)(h:aO)(fp:List ak)(I:ak)(it:It):Prop:=It.casesOn it
 (λl i=>fp=[I]/\∃a,ρ[l]?=some a/\h.IsListIter I a i)
 (λl i=>fp=[I]/\∃a,ρ[l]?=some a/\h.IsTupleIter I a i)
 (λx i=>fp=[I]/\∃t,h.IsStrIter I (strIterType x) x t i)
 (λx left step=>fp=[I]/\IsRangeIter h I x left step)
 (λl i=>∃a it old,fp=[I,it]/\I≠it/\ρ[l]?=some a/\IsEnum h I it i old/\h.IsListIter it a i)
 (λl m i=>∃a1 a2 TI TO i1 i2 x y,fp=[I,TI,TO,i1,i2]/\ρ[l]?=some a1/\ρ[m]?=some a2/\Zi h I TI TO i1 i2 a1 a2 i .none x y)
 λl nx=>fp=[]/\ρ[l]?=some I/\Cw C n l nx
noncomputable def Hid(ρ:aD)(h:aO)(fp:List ak):Prop:=∀a∈fp,a∉ρ/\C.base.get? a=none/\∃o,h.get? a=some o
noncomputable def Ct(h:aO)(I:ak):Prop:=∀A s(Q:af->ah->Prop) E,(∀b o,h.get? b=some o->s.heap.get? b=some o)->Q (.ref I) s->wpAny (model C.prog C.w) A (pyIter (.ref I)) Q E s
end
section
variable{C:Cfg}{n:Nat}
theorem Hid.go{ρ aq:aD}{s s':ah}{fp:List ak}{X:ak->Prop}(H:Hid C ρ s.heap fp)(g:Go X ρ s aq s'):Hid C aq s'.heap fp:=λa m=>by
 refine dc (H a m) λh1 h2 J=>?_;obtain⟨o,h3⟩:=J;exact⟨g.iZ h3 h1,h2,g.alive a o h3⟩
theorem fO.of{ρ aq:aD}{h h':aO}{fp:List ak}{I:ak}(p:ρ<+:aq)(k:∀a o,a∈fp->h.get? a=some o->h'.get? a=some o){it:It}(hI:fO C n ρ h fp I it):fO C n aq h' fp I it:=by
 cases it with
 |list l i=>exact hI.imp_right λe=>e.imp λa e=>⟨gK p e.1,e.2.imp λo y=>⟨k _ _ (hI.1▸.head _) y.1,y.2⟩⟩
 |tup l i=>exact hI.imp_right λe=>e.imp λa e=>⟨gK p e.1,e.2.imp λo y=>⟨k _ _ (hI.1▸.head _) y.1,y.2⟩⟩
 |str x i=>exact hI.imp_right λe=>e.imp λt e=>e.imp λo y=>⟨k _ _ (hI.1▸.head _) y.1,y.2⟩
 |range x left step=>exact hI.imp_right λe=>k _ _ (hI.1▸.head _) e
 |enum l i=>
  refine jZ hI λa it old J ne x N=>?_;subst J;obtain⟨y,o,z⟩:=N;exact⟨a,it,old,rfl,ne,gK p x,k _ _ (.head _) y,o,k _ _ (.tail _ (.head _)) z.1,z.2⟩
 |zip l m i=>
  refine z5 hI λa1 a2 TI TO i1 i2 x y O=>?_;obtain⟨rfl,p1,p2,Z⟩:=O;exact⟨a1,a2,TI,TO,i1,i2,x,y,rfl,gK p p1,gK p p2,Z.of (k _ _ (.head _) Z.z) (k _ _ (.tail _ (.head _)) Z.i) (k _ _ (.tail _ (.tail _ (.head _))) Z.o) (λo e=>k _ _ (.tail _ (.tail _ (.tail _ (.head _)))) e) λo e=>k _ _ (.tail _ (.tail _ (.tail _ (.tail _ (.head _))))) e⟩
 |gen l nx=>exact⟨hI.1,gK p hI.2.1,hI.2.2⟩
theorem fO.go{ρ aq:aD}{s s':ah}{fp:List ak}{I:ak}{X:ak->Prop}{it:It}(h:fO C n ρ s.heap fp I it)(H:Hid C ρ s.heap fp)(g:Go X ρ s aq s')(J:∀a∈fp,¬X a):fO C n aq s'.heap fp I it:=
 h.of g.pre λa o m e=>g.cI a o e (H a m).1 (J a m)
theorem xZ{ρ:aD}{st:St}{h h':aO}{fp:List ak}(R:Rel C ρ st h)(H:Hid C ρ h fp)(k:∀a o,a∉fp->h.get? a=some o->h'.get? a=some o):Rel C ρ st h':=
 R.lY (·∈fp) (λb o e m=>k b o m e) (λa J m=>(H a m).1 J) λa o e m=>by rw[(H a m).2.1]at e;cases e
theorem CB{ρ:aD}{s:ah}{h':aO}{t:Nat}{fp:List ak}(k:∀a o,a∉fp->s.heap.get? a=some o->h'.get? a=some o)(l:∀a∈fp,∃o,h'.get? a=some o):Go (·∈fp) ρ s ρ {s with heap:=h',toks:=t}:=
 ⟨jJ _,λ_ h=>.inl h,λa o e _ x=>k a o x e,λa o e=>by
  by_cases q:a∈fp
  ·exact l a q
  ·exact⟨o,k a o q e⟩,rfl,rfl⟩
noncomputable def yy(C:Cfg)(ρ:aD)(h:aO)(it:Item)(V:af):Prop:=Item.casesOn it (λv=>RelV ρ v V) λa b=>∃T A B,V=.ref T/\h.get? T=some {cls:=.type "tuple",data:=.seq #[A,B]}/\RelV ρ a A/\RelV ρ b B
theorem fB{h:aO}{a:ak}{xs:Array af}(p:h.PlainList a xs):h.IsList a xs:=p.isList
theorem p5{h:aO}{a:ak}{xs:Array af}(p:h.get? a=some {cls:=.type "tuple",data:=.seq xs}):h.IsTuple a xs:=⟨_,p,rfl,0,rfl⟩
theorem Rel.list{ρ:aD}{st:St}{h:aO}(R:Rel C ρ st h){l:Nat}{a:ak}{xs:List AV}(e:st[l]?=some (.list xs))(J:ρ[l]?=some a):∃vs,h.PlainList a vs.toArray/\bu ρ xs vs:=R.at e J
theorem Rel.tup{ρ:aD}{st:St}{h:aO}(R:Rel C ρ st h){l:Nat}{a:ak}{xs:List AV}(e:st[l]?=some (.tup xs))(J:ρ[l]?=some a):
 ∃vs,h.get? a=some {cls:=.type "tuple",data:=.seq vs.toArray}/\bu ρ xs vs:=R.at e J
theorem vT{α β:Type}{x:Option α}{f:α->β}{b:β}(h:x.map f=some b):∃a,x=some a/\f a=b:=ji.mp h
theorem CP{st:St}{l:Nat}{xs:List AV}(h:bF st l=some xs):st[l]?=some (.list xs):=
 (Ok.of (P:=(xs=·)) h rfl).bind.some λo e h=>(Tg h).elim λ_ z=>e.trans (congrArg some (z.1.trans (congrArg AO.list z.2.symm)))
theorem Jg{st:St}{l:Nat}{xs:List AV}(h:eo st l=some xs):st[l]?=some (.tup xs):=
 (Ok.of (P:=(xs=·)) h rfl).bind.some λo e h=>(Uz h).elim λ_ z=>e.trans (congrArg some (z.1.trans (congrArg AO.tup z.2.symm)))
theorem Rel.l{C:Cfg}{ρ:aD}{st:St}{h:aO}(R:Rel C ρ st h){l:Nat}{J:ak}(N:ρ[l]?=some J){P:List AV->Prop}(q:Ok (bF st l) P){G:Prop}
 (k:∀xs vs,st[l]?=some (.list xs)->h.PlainList J vs.toArray->bu ρ xs vs->P xs->G):G:=
 q.some λxs e p=>(R.list (CP e) N).elim λvs hl=>k xs vs (CP e) hl.1 hl.2 p
theorem Rel.t{C:Cfg}{ρ:aD}{st:St}{h:aO}(R:Rel C ρ st h){l:Nat}{J:ak}(N:ρ[l]?=some J){P:List AV->Prop}(q:Ok (eo st l) P){G:Prop}
 (k:∀xs vs,st[l]?=some (.tup xs)->h.get? J=some {cls:=.type "tuple",data:=.seq vs.toArray}->bu ρ xs vs->P xs->G):G:=
 q.some λxs e p=>(R.tup (Jg e) N).elim λvs hl=>k xs vs (Jg e) hl.1 hl.2 p
theorem nV{vs:List af}{i:Nat}{V:af}(h:vs[i]?=some V):vs.toArray[i]?=some V:=BW.trans h
theorem ru{ρ:aD}{xs:List AV}{vs:List af}{i:Nat}(r:bu ρ xs vs)(h:xs[i]?=none):vs.toArray[i]?=none:=by
 rw[BW,uO,r.length];exact uO.mp h
structure jc(X:ak->Prop)(ρ:aD)(s:ah)(aq:aD)(s':ah):Prop where
 pre:ρ<+:aq
 new:∀a∈aq,a∈ρ\/s.heap.get? a=none
 cI:∀a o,s.heap.get? a=some o->a∉ρ->¬X a->s'.heap.get? a=some o
 alive:∀a o,s.heap.get? a=some o->¬X a->∃o',s'.heap.get? a=some o'
 os:s'.os=s.os
 gens:s'.gens=s.gens
theorem Go.l9{X:ak->Prop}{ρ aq:aD}{s s':ah}(g:Go X ρ s aq s'):jc X ρ s aq s':=
 ⟨g.pre,g.new,g.cI,λa o e _=>g.alive a o e,g.os,g.gens⟩
theorem jc.keeps{X:ak->Prop}{ρ:aD}{s:ah}{h':aO}{t:Nat}(k:∀a o,¬X a->s.heap.get? a=some o->h'.get? a=some o):jc X ρ s ρ {s with heap:=h',toks:=t}:=
 ⟨jJ _,λ_ h=>.inl h,λa o e _ m=>k a o m e,λa o e m=>⟨o,k a o m e⟩,rfl,rfl⟩
theorem Go.XG{X:ak->Prop}{ρ aq:aD}{s s':ah}(g:Go No ρ s aq s'):jc X ρ s aq s':=(g.weak λ_ h=>h.elim).l9
theorem jc.after{X Y:ak->Prop}{ρ aq J:aD}{s s' O:ah}(g:Go X ρ s aq s')(N:jc Y aq s' J O)(hf:∀a,Y a->s.heap.get? a=none):Go X ρ s J O where
 pre:=g.pre.trans N.pre
 new a h:=(N.new a h).elim (λh=>g.new a h) λh=>.inr (by
  cases q:s.heap.get? a with
  |none=>rfl
  |some o=>refine bO (g.alive a o q) λo' e=>?_;rw[h]at e;cases e)
 cI a o e n x:=by
  refine N.cI a o (g.cI a o e n x) (λm=>?_) λm=>?_
  ·rcases g.new a m with q|q
   ·exact n q
   ·rw[e]at q;cases q
  ·rw[hf a m]at e;cases e
 alive a o e:=by
  refine bO (g.alive a o e) λo' R=>?_;exact N.alive a o' R λm=>by rw[hf a m]at e;cases e
 os:=N.os.trans g.os
 gens:=N.gens.trans g.gens
noncomputable def TurnPost(C:Cfg)(A:bg)(eU:aJ)(I:ak)(Q:Option af->ah->Prop)(E:af->ah->Prop)(r:Option af)(s:ah):Prop:=
 r.elim (Q none s) λv=>wpAny (model C.prog C.w) A (letOwnedTupleGo eU (.ref I) v) (λ_ s2=>Q (some v) s2) E s
noncomputable def kR(C:Cfg)(n:Nat)(ρ:aD)(s:ah)(fp:List ak)(I:ak)(Q:Option af->ah->Prop)(p:Option (Item×It)×St):Prop:=
 p.1.elim (∀aq s',jc (·∈fp) ρ s aq s'->Rel C aq p.2 s'.heap->Q none s') λq=>∀V aq s',Go (·∈fp) ρ s aq s'->Rel C aq p.2 s'.heap->fO C n aq s'.heap fp I q.2->yy C aq s'.heap q.1 V->Q (some V) s'
theorem LK{A:bg}{I a:ak}{i:Nat}{V:af}{eU:aJ}{Q:Unit->ah->Prop}{E:af->ah->Prop}{s:ah}(h:s.heap.IsListIter I a i)(fin:Q () s):
 wpAny (model C.prog C.w) A (letOwnedTupleGo eU (.ref I) V) Q E s:=by
 have key:∀elts x1 pos,wpAny (model C.prog C.w) A (letOwnedTupleGo (.Tuple elts x1 pos) (.ref I) V) Q E s:=λelts x1 pos=>by
  cases V<;>first|exact wpAny_letOwnedTupleGo_listiter h fin|exact aU fin
 cases eU with
 |List a b=>exact key a 0 b
 |Tuple a b c=>exact key a b c
 |_=>exact aU fin
section
variable{A:bg}{ρ:aD}{st:St}{s:ah}{fp:List ak}{I:ak}{Q:Option af->ah->Prop}{E:af->ah->Prop}{eU:aJ}
theorem oQ(R:Rel C ρ st s.heap)(H:Hid C ρ s.heap fp)(h:kR C n ρ s fp I Q (none,st)){h':aO}(J:∀a o,a∉fp->s.heap.get? a=some o->h'.get? a=some o):Q none {s with heap:=h'}:=
 h ρ _ (jc.keeps J) (xZ R H J)
theorem uf{v:AV}{V:af}{it:It}{h':aO}{t:Nat}(R:Rel C ρ st s.heap)(H:Hid C ρ s.heap [I])(h:kR C n ρ s [I] I Q (some (.one v,it),st))(hs:TK I s.heap h')(al:∃o,h'.get? I=some o)(hI:fO C n ρ h' [I] I it)(r:RelV ρ v V):Q (some V) {s with heap:=h',toks:=t}:=
 have J:∀a o,a∉[I]->s.heap.get? a=some o->h'.get? a=some o:=λa o m e=>(hs.2 a λz=>m (z▸.head _)).trans e
 h V ρ _ (CB J λa m=>cx.mp m▸al) (xZ R H J) hI r
theorem uM{h':aO}(J:∀a o,a≠I->s.heap.get? a=some o->h'.get? a=some o):∀a o,a∉[I]->s.heap.get? a=some o->h'.get? a=some o:=λa o m e=>J a o (λz=>m (z▸.head _)) e
theorem MT{l i:Nat}(Y:A.handled=none)(R:Rel C ρ st s.heap)(hI:fO C n ρ s.heap fp I (.list l i))(H:Hid C ρ s.heap fp)(h:Ok ((It.list l i).next st) (kR C n ρ s fp I Q)):
 wpAny (model C.prog C.w) A (pyNext (.ref I)) (TurnPost C A eU I Q E) E s:=by
 refine tj hI λO a U hit=>?_;subst O;refine R.l U (Ok.map h) λxs vs _ hl N h=>?_;cases ev:xs[i]? with
 |none=>rw[ev]at h;exact wpAny_pyNext_list_end Y hit (fB hl) (ru N ev) λh' hx=>oQ R H h (uM hx)
 |some v=>
  rw[ev]at h;refine aG (N.get ev) λV hV rV=>?_;exact RQ hit (fB hl) (nV hV) λh' J S=>LK J (uf (t:=s.toks) R H h S (J.imp λo e=>e.1) ⟨rfl,a,U,J⟩ rV)
theorem Px{l i:Nat}(hh:A.handled=none)(R:Rel C ρ st s.heap)(hI:fO C n ρ s.heap fp I (.tup l i))(H:Hid C ρ s.heap fp)(ht:∃x p,eU=.Name x p)(h:Ok ((It.tup l i).next st) (kR C n ρ s fp I Q)):
 wpAny (model C.prog C.w) A (pyNext (.ref I)) (TurnPost C A eU I Q E) E s:=by
 refine tj hI λO a Y hit=>?_;subst O;refine mN ht λy p S=>?_;subst S;refine R.t Y (Ok.map h) λxs vs _ hl N h=>?_;cases ev:xs[i]? with
 |none=>rw[ev]at h;exact wpAny_pyNext_tuple_end hh hit (p5 hl) (ru N ev) λh' hx=>oQ R H h (uM hx)
 |some v=>
  rw[ev]at h;refine aG (N.get ev) λV hV rV=>?_;exact wpAny_pyNext_tuple_item hit (p5 hl) (nV hV) λh' J U=>aU (uf (t:=s.toks) R H h U (J.imp λo e=>e.1) ⟨rfl,a,Y,J⟩ rV)
theorem QQ{x:ae}{i:Nat}(Y:A.handled=none)(R:Rel C ρ st s.heap)(hI:fO C n ρ s.heap fp I (.str x i))(H:Hid C ρ s.heap fp)(ht:∃x p,eU=.Name x p)(h:Ok ((It.str x i).next st) (kR C n ρ s fp I Q)):
 wpAny (model C.prog C.w) A (pyNext (.ref I)) (TurnPost C A eU I Q E) E s:=by
 refine pL hI λS t hit=>?_;subst S;obtain⟨y,p,rfl⟩:=ht;have h:kR C n ρ s [I] I Q ((x.cps[i]?).map λc=>(.one (.str ⟨#[c]⟩),.str x (i+1)),st):=h;have hI:∀{h'},Heap.IsStrIter h' I (strIterType x) x t (i+1)->fO C n ρ h' [I] I (.str x (i+1)):=λe=>⟨rfl,t,e⟩;have kind:strIterType x=if x.cps.all (·<128)then"str_ascii_iterator" else"str_iterator":=rfl;cases O:x.cps[i]? with
 |none=>
  rw[O]at h;by_cases q:x.cps.all (·<128)=true
  ·rw[kind,if_pos q]at hit;exact wpAny_pyNext_ascii_end Y hit O λh' U=>oQ R H h (uM U)
  ·rw[kind,if_neg q]at hit;exact wpAny_pyNext_wide_end Y hit O λh' U=>oQ R H h (uM U)
 |some c=>
  rw[O]at h;by_cases q:x.cps.all (·<128)=true
  ·rw[kind,if_pos q]at hit hI;exact wpAny_pyNext_ascii_item hit O λh' J N=>aU (uf R H h N (J.imp λo e=>e.1) (hI J) ⟨_,rfl⟩)
  ·rw[kind,if_neg q]at hit hI;exact wpAny_pyNext_wide_item hit O λh' J N=>aU (uf R H h N (J.imp λo e=>e.1) (hI J) ⟨_,rfl⟩)
theorem LY{x left step:Int}(S:A.handled=none)(R:Rel C ρ st s.heap)(hI:fO C n ρ s.heap fp I (.range x left step))(H:Hid C ρ s.heap fp)(ht:∃x p,eU=.Name x p)(h:Ok ((It.range x left step).next st) (kR C n ρ s fp I Q)):
 wpAny (model C.prog C.w) A (pyNext (.ref I)) (TurnPost C A eU I Q E) E s:=by
 obtain⟨rfl,hit⟩:=hI;refine mN ht λy p N=>?_;subst N;have h:kR C n ρ s [I] I Q (if 0<left then some (.one (.int x),.range (x+step) (left -1) step)else none,st):=h;by_cases hl:0<left
 ·rw[if_pos hl]at h
  exact wpAny_pyNext_range_item hit hl λh' J O=>aU (uf R H h O ⟨_,J⟩ ⟨rfl,J⟩ ⟨_,rfl⟩)
 ·rw[if_neg hl]at h
  exact wpAny_pyNext_range_end S hit (ib.mp hl) λh' U=>oQ R H h (uM U)
theorem Ic{o:iL}(h:s.heap.get? I=some o):s.heap.objs.size≠I:=λz=>by rw[<-z,fQ]at h;exact nomatch h
theorem Mt{l i:Nat}(hh:A.handled=none)(R:Rel C ρ st s.heap)(hI:fO C n ρ s.heap fp I (.enum l i))(H:Hid C ρ s.heap fp)(ht:∃elts k p,eU=.Tuple elts k p)(h:Ok ((It.enum l i).next st) (kR C n ρ s fp I Q)):
 wpAny (model C.prog C.w) A (pyNext (.ref I)) (TurnPost C A eU I Q E) E s:=by
 refine jZ hI λa it old N ne ha zq6=>?_;subst N;obtain⟨he,hit⟩:=zq6;refine lT ht λelts k p N=>?_;subst N;refine R.l ha (Ok.map h) λxs vs _ hl S h=>?_;cases ev:xs[i]? with
 |none=>rw[ev]at h;exact wpAny_pyNext_enum_end hh he hit (fB hl) (ru S ev) λh' hx=>oQ R H h λa o m e=>hx a o (λz=>m (z▸.tail _ (.head _))) e
 |some v=>
  rw[ev]at h;refine aG (S.get ev) λV hV rV=>?_;refine wpAny_pyNext_enum_item he hit (fB hl) (nV hV) ne λh1 ho U ht hz hk=>wpAny_letOwnedTupleGo_enum ho λh2 Y O=>?_;have kk:∀b o,b∉[I,it]->s.heap.get? b=some o->h2.get? b=some o:=λb o m e=>(O.2 b λz=>m (z▸.head _)).trans (hk b o (λz=>m (z▸.head _)) (λz=>m (z▸.tail _ (.head _))) e);have J:h2.IsListIter it a (i+1):=U.imp λo e=>⟨(O.2 _ (Ne.symm ne)).trans e.1,e.2⟩;exact h _ ρ _ (CB (t:=s.toks+1) kk (bt.mpr ⟨⟨_,Y⟩,bt.mpr ⟨J.imp λo e=>e.1,nofun⟩⟩)) (xZ R H kk) ⟨a,it,V,rfl,ne,ha,Y,J⟩ ⟨_,_,_,rfl,(O.2 _ (Ic he)).trans ht,⟨_,rfl⟩,rV⟩
theorem Ak{a b c d:ak}{h':aO}(k:∀x o,x≠I->x≠b->x≠c->x≠d->s.heap.get? x=some o->h'.get? x=some o):∀x o,x∉[I,a,b,c,d]->s.heap.get? x=some o->h'.get? x=some o:=λx o m e=>
 k x o (λz=>m (z▸.head _)) (λz=>m (z▸.tail _ (.tail _ (.head _)))) (λz=>m (z▸.tail _ (.tail _ (.tail _ (.head _))))) (λz=>m (z▸.tail _ (.tail _ (.tail _ (.tail _ (.head _)))))) e
theorem Qk{l m i:Nat}(hh:A.handled=none)(R:Rel C ρ st s.heap)(hI:fO C n ρ s.heap fp I (.zip l m i))(H:Hid C ρ s.heap fp)(ht:∃elts k p,eU=.Tuple elts k p)(h:Ok ((It.zip l m i).next st) (kR C n ρ s fp I Q)):
 wpAny (model C.prog C.w) A (pyNext (.ref I)) (TurnPost C A eU I Q E) E s:=by
 refine z5 hI λa1 a2 TI TO i1 i2 x y zq8=>?_;obtain⟨rfl,p1,p2,Z⟩:=zq8;refine lT ht λelts k p zq3=>?_;subst zq3;refine R.l p1 (Ok.bind h) λxs vs _ hl O h=>R.l p2 (Ok.map h) λys ws _ N rws h=>?_;cases ev:xs[i]? with
 |none=>rw[ev]at h;exact Sb hh Z.D Z.z Z.i Z.o Z.one Z.two (fB hl) (fB N) (.inl (ru O ev)) λh' hx=>oQ R H h (Ak hx)
 |some v=>
  cases ew:ys[i]? with
  |none=>rw[ev,ew]at h;exact Sb hh Z.D Z.z Z.i Z.o Z.one Z.two (fB hl) (fB N) (.inr (ru rws ew)) λh' hx=>oQ R H h (Ak hx)
  |some w=>
   rw[ev,ew]at h;refine aG (O.get ev) λV hV rV=>?_;refine aG (rws.get ew) λW hW rW=>?_;refine wpAny_pyNext_zip_item Z.D Z.z Z.i Z.o Z.one Z.two (fB hl) (fB N) (nV hV) (nV hW) λh1 hz1 S U Y hT hsz hk=>wpAny_letOwnedTupleGo_zip hz1 λh2 hz2 J=>?_;have kk:=Ak (a:=TI) λb o n1 n2 n3 n4 e=>(J.2 b n1).trans (hk b o n1 n2 n3 n4 e);have Z2:Zi h2 I TI TO i1 i2 a1 a2 (i+1) .none V W:=⟨Z.D,hz2,(J.2 _ Z.D.TIz).trans (hk TI _ Z.D.TIz Z.D.TITO Z.D.TIi1 Z.D.TIi2 Z.i),(J.2 _ Z.D.TOz).trans S,U.imp λo e=>⟨(J.2 _ Z.D.i1z).trans e.1,e.2⟩,Y.imp λo e=>⟨(J.2 _ Z.D.i2z).trans e.1,e.2⟩⟩;exact h _ ρ _ (CB (t:=s.toks) kk (bt.mpr ⟨⟨_,hz2⟩,bt.mpr ⟨⟨_,Z2.i⟩,bt.mpr ⟨⟨_,Z2.o⟩,bt.mpr ⟨Z2.one.imp λo e=>e.1,bt.mpr ⟨Z2.two.imp λo e=>e.1,nofun⟩⟩⟩⟩⟩)) (xZ R H kk)
    ⟨a1,a2,TI,TO,i1,i2,V,W,rfl,p1,p2,Z2⟩ ⟨_,_,_,rfl,(J.2 _ (Ic Z.z)).trans hT,rV,rW⟩
theorem NF{l:Nat}{nx:St->Option (Option AV×St)}(hA:bN n A)(R:Rel C ρ st s.heap)(hI:fO C n ρ s.heap fp I (.gen l nx))(ht:∃x p,eU=.Name x p)(h:Ok ((It.gen l nx).next st) (kR C n ρ s fp I Q)):
 wpAny (model C.prog C.w) A (pyNext (.ref I)) (TurnPost C A eU I Q E) E s:=by
 refine dc hI λJ hl O=>?_;subst J;refine mN ht λy p N=>?_;subst N;refine O hA R hl ((Ok.map h).mono λp h V aq s' g S U=>?_);obtain⟨r,s1⟩:=p;cases r with
 |none=>exact Eq.symm U▸h aq s' g.XG S
 |some v=>exact U.elim λW e=>e.1▸aU (h W aq s' (g.weak λ_ h=>h.elim) S ⟨rfl,gK g.pre hl,O⟩ e.2)
end
theorem HO{A:bg}{ρ:aD}{st:St}{s:ah}{fp:List ak}{I:ak}{it:It}{Q:Option af->ah->Prop}{E:af->ah->Prop}{eU:aJ}
 (hA:bN n A)(R:Rel C ρ st s.heap)(hI:fO C n ρ s.heap fp I it)(H:Hid C ρ s.heap fp)(h2:it.two=true->∃elts k p,eU=.Tuple elts k p)(h1:it.vS=true->∃x p,eU=.Name x p)
 (h:Ok (it.next st) (kR C n ρ s fp I Q)):wpAny (model C.prog C.w) A (pyNext (.ref I)) (TurnPost C A eU I Q E) E s:=by
 have J:=hA.handled;cases it with
 |list l i=>exact MT J R hI H h
 |tup l i=>exact Px J R hI H (h1 rfl) h
 |str x i=>exact QQ J R hI H (h1 rfl) h
 |range x left step=>exact LY J R hI H (h1 rfl) h
 |enum l i=>exact Mt J R hI H (h2 rfl) h
 |zip l m i=>exact Qk J R hI H (h2 rfl) h
 |gen l nx=>exact NF hA R hI (h1 rfl) h
end
noncomputable def aj.oA(F:aj)(ks:List Nat)(vs:List AV):Option aj:=yg (motive:=λ_=>aj->List AV->Option aj) (λF vs=>sj vs (some F) λ_ _=>none) (λk _ again F vs=>sj vs none λv vs=>again (F.put k v) vs) ks F vs
inductive b7 where
 |name (k:Nat)
 |names (ks:List Nat)
noncomputable def b7.bind(tg:b7)(it:Item)(F:aj)(st:St):Option aj:=b7.casesOn tg (λk=>Item.casesOn it (λv=>some (F.put k v)) λ_ _=>none)
 λks=>Item.casesOn it (λv=>v.r?.bind λl=>(eo st l).bind λxs=>F.oA ks xs) λa b=>F.oA ks [a,b]
noncomputable def b7.fits(tg:b7)(it:It):Bool:=b7.casesOn tg (λ_=>!it.two) λ_=>!it.vS
section
variable(C:Cfg)(n:Nat)(sc:bc)(T:ae->Prop)
noncomputable def Ig(x:ae):Prop:=T x/\(sc.names.lookup x=some .local \/sc.names.lookup x=some .cell)
inductive b_:List aJ->List Nat->Prop
 |nil:b_ [] []
 |cons {x:ae} {p:bM} {k:Nat} {es:List aJ} {ks:List Nat}:C.nm k=x->Ig sc T x->b_ es ks->b_ (.Name x p::es) (k::ks)
inductive bB:aJ->b7->Prop
 |name {x:ae} {p:bM} {k:Nat}:C.nm k=x->Ig sc T x->bB (.Name x p) (.name k)
 |names {es:List aJ} {j:Nat} {p:bM} {ks:List Nat}:b_ C sc T es ks->bB (.Tuple es j p) (.names ks)
noncomputable def nu(ρ:aD)(s:ah)(Q:af->ah->Prop)(p:It×St):Prop:=
 ∀I fp aq s',Go No ρ s aq s'->Rel C aq p.2 s'.heap->fO C n aq s'.heap fp I p.1->Hid C aq s'.heap fp->(∀a∈fp,s.heap.get? a=none)->Ct C s'.heap I->Q (.ref I) s'
structure mK(e:aJ)(f:aj->St->Option (It×St)):Prop where
 u:∀{A env F ρ st s Q E},bN n A->a8 C sc ρ F env s.heap->Rel C ρ st s.heap->Ok (f F st) (nu C n ρ s Q)->wpAny (model C.prog C.w) A (eval e env) (λx s1=>wpAny (model C.prog C.w) A (pyIter x) Q E s1) E s
end
section
variable{C:Cfg}{n:Nat}{sc:bc}{T:ae->Prop}
theorem DJ{es:List aJ}{ks:List Nat}(h:b_ C sc T es ks)(env:aS):(assignEach es env).findIdx? (·.1)=none/\(assignEach es env).length =ks.length:=by
 induction h with
 |nil=>exact⟨rfl,rfl⟩
 |cons N hk hs J=>
  constructor
  ·show List.findIdx? (·.1) ((false,_)::assignEach _ env)=none
   rw[xW];simp[J.1]
  ·show((false,_)::assignEach _ env).length =_
   simp[J.2]
theorem Fm{ks:List Nat}:∀{F:aj}{vs:List AV}{P:aj->Prop},Ok (F.oA ks vs) P->ks.length=vs.length:=by
 induction ks with
 |nil=>exactλ{F vs P} h=>by cases vs with|nil=>rfl|cons=>exact dA h
 |cons k ks J=>exactλ{F vs P} h=>by cases vs with|nil=>exact dA h|cons v vs=>exact congrArg (·+1) (J (F:=F.put k v) h)
theorem E9{A:bg}{env:aS}{Q:Unit->ah->Prop}{E:af->ah->Prop}{es:List aJ}{ks:List Nat}(J:b_ C sc T es ks):∀{F:aj}{ρ:aD}{st:St}{s:ah}{vs:List AV}{Vs:List af},
 a8 C sc ρ F env s.heap->Rel C ρ st s.heap->bu ρ vs Vs->Ok (F.oA ks vs) (λF'=>∀s',Go (l7 env T) ρ s ρ s'->a8 C sc ρ F' env s'.heap->Rel C ρ st s'.heap->Q () s')->wpAny (model C.prog C.w) A (assignInOrder ((assignEach es env).map (·.2)) Vs) Q E s:=by
 induction J with
 |nil=>
  intro F ρ st s vs Vs N R r h;cases r with
  |nil=>exact aU (h s .refl N R)
  |cons=>exact dA h
 |cons O hk hs S=>
  intro F ρ st s vs Vs N R r h;cases r with
  |nil=>exact dA h
  |cons a b=>
   subst O;exact Tw (H3 (mS hk.1 N R hk.2 a λs1 g1 U Y=>S U Y b (Ok.mono h λF' k s' g'=>k s' (g1.trans g'))))
theorem zS{h h':aO}(x:Heap.ExtBut h.objs.size h h'):∀b o,h.get? b=some o->h'.get? b=some o:=λb o e=>x b o (λz=>by rw[z,fQ]at e;cases e) e
theorem By{A:bg}{env:aS}{F:aj}{ρ:aD}{st:St}{s:ah}{Q:Unit->ah->Prop}{E:af->ah->Prop}{target:aJ}{tg:b7}{item:Item}{V:af}
 (hA:bN n A)(ht:bB C sc T target tg)(N:a8 C sc ρ F env s.heap)(R:Rel C ρ st s.heap)(r:yy C ρ s.heap item V)
 (h:Ok (tg.bind item F st) λF'=>∀s',Go (l7 env T) ρ s ρ s'->a8 C sc ρ F' env s'.heap->Rel C ρ st s'.heap->Q () s'):wpAny (model C.prog C.w) A (assign target env V) Q E s:=by
 have J:∀{es:List aJ}{j:Nat}{p:bM}{ks:List Nat}{T':ak}{vs:List AV}{Vs:List af},b_ C sc T es ks->s.heap.IsTuple T' Vs.toArray->bu ρ vs Vs->Ok (F.oA ks vs) (λF'=>∀s',Go (l7 env T) ρ s ρ s'->a8 C sc ρ F' env s'.heap->Rel C ρ st s'.heap->Q () s')->
  wpAny (model C.prog C.w) A (assign (.Tuple es j p) env (.ref T')) Q E s:=by
  intro es j p ks T vs Vs O U S hp;obtain⟨h1,h2⟩:=DJ O env;refine Tz hA.handled U (by rw[h2,Fm hp,<-S.length,dI]) h1 λh' Y=>?_;have kk:=zS Y;exact E9 O (N.go (Go.keeps (t:=s.toks) kk)) (R.keeps kk) S (hp.mono λF' k s' g'=>k s' (((Go.keeps (X:=No) (t:=s.toks) kk).weak λ_ h=>h.elim).trans g'))
 cases ht with
 |name Y hk=>
  cases item with
  |one v=>subst Y;exact H3 (mS hk.1 N R hk.2 r h)
  |two a b=>exact dA h
 |names O=>
  cases item with
  |two a b=>
   refine jZ r λT VA VB zq3 U ra rb=>?_;subst zq3;exact J (Vs:=[VA,VB]) O ⟨_,U,rfl,_,rfl⟩ (.cons ra (.cons rb .nil)) h
  |one v=>exact RelV.r r (Ok.bind h) λl la ha h=>R.t ha h.bind λxs vs _ hv S h=>J O (p5 hv) S h
noncomputable def cA(tg:b7)(b:SM)(k:Nat):It->SM:=BV (motive:=λ_=>It->SM) (λ_ _ _=>none) (λ_ again it F st=>if tg.fits it then(it.next st).bind λp=>p.1.elim (some (.next,F,p.2)) λq=>(tg.bind q.1 F p.2).bind λF1=>(b F1 p.2).bind (after (again q.2))else none) k
theorem Hi{tg:b7}{target:aJ}{it:It}(ht:bB C sc T target tg)(h:tg.fits it=true)(hi:it.vS=true):∃x p,target=Expr.Name x p:=by
 cases ht with
 |name=>exact⟨_,_,rfl⟩
 |names=>exact nomatch (show(!it.vS)=true from h).symm.trans (congrArg _ hi)
theorem HA{tg:b7}{target:aJ}{it:It}(ht:bB C sc T target tg)(h:tg.fits it=true)(hi:it.two=true):∃elts k p,target=Expr.Tuple elts k p:=by
 cases ht with
 |names=>exact⟨_,_,_,rfl⟩
 |name=>exact nomatch (show(!it.two)=true from h).symm.trans (congrArg _ hi)
theorem a8.oI{ρ aq:aD}{F:aj}{env:aS}{s s':ah}{X:ak->Prop}(N:a8 C sc ρ F env s.heap)(g:jc X ρ s aq s')(hl:¬X env.locals)(hc:∀x c,env.cells.lookup x=some c->¬X c):a8 C sc aq F env s'.heap:=
 N.step g.pre λa o e n h=>by
  have:¬X a:=by
   rcases h with rfl|⟨x,h⟩
   ·exact hl
   ·exact hc x a h
  refine⟨g.cI a o e n this,λm=>?_⟩;rcases g.new a m with q|q
  ·exact n q
  ·rw[e]at q;cases q
theorem a8.off{ρ:aD}{F:aj}{env:aS}{h:aO}{fp:List ak}(N:a8 C sc ρ F env h)(hf:∀a∈fp,h.get? a=none):env.locals∉fp/\∀x c,env.cells.lookup x=some c->c∉fp:=by
 constructor
 ·intro m
  refine Cg N.ns λM o _ _ e _=>?_;rw[hf _ m]at e;cases e
 ·intro x c q m
  refine m_ (N.cells x c q) λ_ v o e _=>?_;rw[hf _ m]at e;cases e
theorem dr.off{env:aS}{fp:List ak}(hl:env.locals∉fp)(hc:∀x c,env.cells.lookup x=some c->c∉fp):∀a∈fp,¬l7 env T a:=by
 rintro a m (rfl|⟨x,_,_,q⟩)
 ·exact hl m
 ·exact hc x a q m
theorem Ym{A:bg}{M:uK}{t:dS af}{Q:af->ah->Prop}{E:af->ah->Prop}{s:ah}{τ:Nat}(ht:τ<=s.toks)
 (h:wpAny M A t (λx s1=>wpAny M A (pyIter x) (λa s'=>τ<=s'.toks->Q a s') E s1) E s):wpAny M A t (λx s1=>wpAny M A (pyIter x) Q E s1) E s:=
 wt ht (e7 h (λ_ _ q J=>wt J q) λ_ _ q=>q)
theorem MK{τ:Nat}{A:bg}{ρ:aD}{st:St}{s:ah}{fp:List ak}{I:ak}{it:It}{Q:Option af->ah->Prop}{E:af->ah->Prop}{eU:aJ}(ht:τ<=s.toks)
 (hA:bN n A)(R:Rel C ρ st s.heap)(hI:fO C n ρ s.heap fp I it)(H:Hid C ρ s.heap fp)(h2:it.two=true->∃elts k p,eU=.Tuple elts k p)(h1:it.vS=true->∃x p,eU=.Name x p)
 (h:Ok (it.next st) (kR C n ρ s fp I λr s2=>τ<=s2.toks->Q r s2)):wpAny (model C.prog C.w) A (pyNext (.ref I)) (TurnPost C A eU I Q E) E s:=
 wt ht (e7 (HO hA R hI H h2 h1 h) (λr s1 q J=>by
  cases r with
  |none=>exact q J
  |some v=>exact wt J q) λ_ _ q=>q)
structure IZ(C:Cfg)(n:Nat)(sc:bc)(τ:Nat)(A:bg)(target:aJ)(body:List gJ)(tg:b7)(b:SM)(env:aS)(fp:List ak)(s:ah):Prop where
 hA:bN n A
 v7:bB C sc (λ_=>True) target tg
 hb:gr C n sc τ body b
 hl:env.locals∉fp
 hc:∀x c,env.cells.lookup x=some c->c∉fp
 hf:∀a∈fp,s.heap.get? a=none
structure Jp(C:Cfg)(n:Nat)(sc:bc)(τ:Nat)(ρ:aD)(s:ah)(env:aS)(fp:List ak)(I:ak)(s2:ah)(F2:aj)(bA:aD)(bI:St)(tN:It):Prop where
 tok:τ<=s2.toks
 go:Go (dr env) ρ s bA s2
 env:a8 C sc bA F2 env s2.heap
 rel:Rel C bA bI s2.heap
 it:fO C n bA s2.heap fp I tN
 lu:Hid C bA s2.heap fp
noncomputable def CK(C:Cfg)(n:Nat)(sc:bc)(τ:Nat)(ρ:aD)(s:ah)(env:aS)(fp:List ak)(I:ak)(tg:b7)(b:SM)(Q:jF->ah->Prop)(j:Nat)(s2:ah):Prop:=
 ∃F2 bA bI tN,Jp C n sc τ ρ s env fp I s2 F2 bA bI tN/\Ok (cA tg b j tN F2 bI) (pJ C sc env ρ s Q)
noncomputable def Gx(J:Nat->ah->Prop)(j:Nat)(Q:jF->ah->Prop)(f:jF)(s3:ah):Prop:=Flow.casesOn f (∃m,m<j+1/\J m s3) (Q .next s3) (∃m,m<j+1/\J m s3) λv=>Q (.ret v) s3
theorem O_{τ:Nat}{target:aJ}{body:List gJ}{tg:b7}{b:SM}{A:bg}{env:aS}{ρ R:aD}{s s3:ah}{fp:List ak}{I:ak}{j:Nat}{F2:aj}{O:St}{J:It}{item:Item}{V:af}{Q:jF->ah->Prop}{E:af->ah->Prop}
 (X:IZ C n sc τ A target body tg b env fp s)(N:Jp C n sc τ ρ s env fp I s3 F2 R O J)(r3:yy C R s3.heap item V)
 (h:Ok ((tg.bind item F2 O).bind λF1=>(b F1 O).bind (after (cA tg b j J))) (pJ C sc env ρ s Q)):
 wpAny (model C.prog C.w) A (assign target env V) (λ_ S=>wpAny (model C.prog C.w) A (execs body env) (Gx (CK C n sc τ ρ s env fp I tg b Q) j Q) E S) E s3:=
 wt N.tok (By X.hA X.v7 N.env N.rel r3 (h.bind.mono λF3 h s4 g4 N4 R4 U=>wt U (X.hb.k X.hA U N4 R4 (h.bind.mono λq h r Y s5 g5 N5 R5 r5 ht5=>by
  have hI5:=(N.it.go N.lu g4 (dr.off X.hl X.hc)).go (N.lu.go g4) g5 (dr.off X.hl X.hc);have H5:=(N.lu.go g4).go g5;obtain⟨fl,F5,st5⟩:=q;have g:=(N.go.trans g4).trans g5;cases fl with
  |next=>cases r5;exact⟨j,iJ _,F5,Y,st5,J,⟨ht5,g,N5,R5,hI5,H5⟩,h⟩
  |cont=>cases r5;exact⟨j,iJ _,F5,Y,st5,J,⟨ht5,g,N5,R5,hI5,H5⟩,h⟩
  |brk=>cases r5;exact h _ _ _ g N5 R5 rfl
  |ret v=>exact r5.elim λV e=>e.1▸h _ _ _ g N5 R5 ⟨V,rfl,e.2⟩))))
theorem iX{τ:Nat}{target iter:aJ}{body:List gJ}{pos:bM}{fi:aj->St->Option (It×St)}{tg:b7}{b:SM}(k:Nat)(hi:mK C n sc iter fi)(v7:bB C sc (λ_=>True) target tg)(hb:gr C n sc τ body b)
 (hs:∀env x,foldedSetIterable iter env x=pure x):
 cB C n sc τ (.For target iter body [] pos) (λF st=>(fi F st).bind λp=>cA tg b k p.1 F p.2):=KX.s λ{A env F ρ st s Q E} hA ht N R h=>by
 refine wpAny_For (Ym ht (hi.u hA N R (h.bind.mono λp h I fp Y s1 g1 R1 hI H1 hf _ ht1=>?_))) (hs env);have X:IZ C n sc τ A target body tg b env fp s:=⟨hA,v7,hb,(N.off hf).1,(N.off hf).2,hf⟩;refine codeAny_forLoop_any (CK C n sc τ ρ s env fp I tg b Q) ?_ k ⟨F,Y,p.2,p.1,⟨ht1,g1.own,N.go g1,R1,hI,H1⟩,h⟩;rintro j s2 ⟨F2,bA,bI,tN,O,h2⟩;cases j with
 |zero=>exact dA h2
 |succ j=>
  obtain⟨S,h2⟩:=Ok.ite h2;have J:wpAny (model C.prog C.w) A (pyNext (.ref I)) (TurnPost C A target I (λr s3=>r.elim (Q .next s3) λv=>wpAny (model C.prog C.w) A (assign target env v) (λ_ U=>wpAny (model C.prog C.w) A (execs body env) (Gx (CK C n sc τ ρ s env fp I tg b Q) j Q)
   (notedBy (model C.prog C.w) A env λe s'=>cameBackBy (model C.prog C.w) A env E e s') U) (notedBy (model C.prog C.w) A env λe s'=>cameBackBy (model C.prog C.w) A env E e s') s3) (notedBy (model C.prog C.w) A env λe s'=>cameBackBy (model C.prog C.w) A env E e s')) (notedBy (model C.prog C.w) A env λe s'=>cameBackBy (model C.prog C.w) A env E e s') s2:=
   MK O.tok hA O.rel O.it O.lu (HA v7 S) (Hi v7 S) (h2.bind.mono λp h=>by
    obtain⟨r,st3⟩:=p;cases r with
    |none=>exactλρ3 s3 g3 R3 _=>h _ _ _ (g3.after O.go hf) (O.env.oI g3 X.hl X.hc) R3 rfl
    |some q=>exactλV ρ3 s3 g3 R3 hI3 r3 ht3=>O_ X ⟨ht3,g3.l9.after O.go hf,O.env.oI g3.l9 X.hl X.hc,R3,hI3,O.lu.go g3⟩ r3 h)
  refine e7 J (λr s3 h=>?_) λ_ _ h=>h;cases r with
  |none=>exact Cj h
  |some v=>exact e7 h (λ_ _ h=>e7 h (λ_ _ h=>e7 h (λf _ h=>by cases f<;>exact h) λ_ _ h=>h) λ_ _ h=>h) λ_ _ h=>h
end
theorem nC{α:Type}{x y:ae}{a:α}{l:List (ae×α)}:fG x ((y,a)::l)=if x=y then some a else fG x l:=by
 by_cases h:x=y
 ·rw[if_pos h,h];exact List.lookup_cons_self
 ·rw[if_neg h,eN,beq_false_of_ne h]
theorem rE{α:Type}(x:ae)(l m:List (ae×α)):(l++m).lookup x=(l.lookup x).or (m.lookup x):=by
 induction l with
 |nil=>rfl
 |cons p l J=>
  rw[eM,nC,nC,J];by_cases h:x=p.1
  ·rw[if_pos h,if_pos h];rfl
  ·rw[if_neg h,if_neg h]
theorem lookup_mem{x:ae}{k:e6}{l:List (ae×e6)}(h:l.lookup x=some k):(x,k)∈l:=by
 induction l with
 |nil=>exact nomatch h
 |cons p l J=>
  rw[nC]at h;by_cases e:x=p.1
  ·rw[if_pos e]at h
   exact e▸mn h▸.head _
  ·rw[if_neg e]at h
   exact .tail _ (J h)
theorem wi(x:ae)(k:e6)(r:List (ae×e6))(n:Nat)(acc:List (ae×ak)):cellsFrom n ((x,k)::r) acc=if(k==.cell)=true then cellsFrom (n+1) r ((x,n)::acc)else cellsFrom n r acc:=rfl
theorem we(names:List (ae×e6)):∀(n:Nat)(acc:List (ae×ak)),cellsFrom n names acc=cellsFrom n names []++acc:=by
 induction names with
 |nil=>exactλ_ _=>rfl
 |cons p r J=>
  intro n acc;rw[wi,wi];by_cases h:(p.2==o9)=true
  ·rw[if_pos h,if_pos h,J (n+1) ((p.1,n)::acc),J (n+1) [(p.1,n)],dm];rfl
  ·rw[if_neg h,if_neg h];exact J n acc
theorem DQ(names:List (ae×e6)):∀(n:Nat){x:ae}{c:ak},(x,c)∈cellsFrom n names []->(x,o9)∈names:=by
 induction names with
 |nil=>exactλ_ _ _ h=>nomatch h
 |cons p r J=>
  intro n x c h;rw[wi]at h;by_cases hk:(p.2==o9)=true
  ·rw[if_pos hk,we]at h
   refine(eh.mp h).elim (λh=>.tail _ (J _ h)) λh=>?_;rw[(Z6 (cx.mp h)).1,<-beq_iff_eq.mp hk];exact .head _
  ·rw[if_neg hk]at h
   exact .tail _ (J _ h)
theorem cellsFrom_some(names:List (ae×e6)):∀(n:Nat){x:ae},(x,o9)∈names->∃c,(cellsFrom n names []).lookup x=some c:=by
 induction names with
 |nil=>exactλ_ _ h=>nomatch h
 |cons p r J=>
  intro n x h;rw[wi];have rest:∀m,(x,o9)∈r->∀l,∃c,(cellsFrom m r []++l).lookup x=some c:=λm h l=>(J m h).imp λc e=>by rw[rE,e];rfl
  by_cases hk:(p.2==o9)=true
  ·rw[if_pos hk,we]
   rcases bJ.mp h with h|h
   ·rw[rE,nC,if_pos (congrArg Tu h)]
    cases(cellsFrom (n+1) r []).lookup x with
    |none=>exact⟨_,rfl⟩
    |some c=>exact⟨c,rfl⟩
   ·exact rest _ h _
  ·rw[if_neg hk]
   rcases bJ.mp h with h|h
   ·exact absurd (beq_iff_eq.mpr (congrArg RW h).symm) hk
   ·exact J n h
noncomputable def eY(env:aS)(l:List (ae×e6)):List (ae×ak)->List (ae×ak):=yg (motive:=λ_=>List (ae×ak)->List (ae×ak)) id (λp _ again acc=>if(p.2==.free)=true then again ((env.cells.lookup p.1).elim acc λc=>(p.1,c)::acc)else again acc) l
theorem wd{scope:bc}{env:aS}(h:∀p∈scope.names,p.2=.free ->∃c,env.cells.lookup p.1=some c):closureFor scope env=pure (eY env scope.names []):=by
 unfold closureFor;have key:∀(l:List (ae×e6))(acc:List (ae×ak)),(∀p∈l,p.2=.free ->∃c,env.cells.lookup p.1=some c)->
  (forIn l acc λ(x:ae×e6)(r:List (ae×ak))=>(if(x.2==qy)=true then do let y <-cellOf env x.1;pure (kD ((x.1,y)::r))else pure (kD r):dS (ForInStep (List (ae×ak)))))=pure (eY env l acc):=by
  intro l;induction l with
  |nil=>intro acc _;rfl
  |cons p l N=>
   intro acc hl;rw[B6];show _=pure (if(p.2==.free)=true then _ else _);by_cases hk:(p.2==qy)=true
   ·refine bO (hl p cj (beq_iff_eq.mp hk)) λc hc=>?_
    rw[if_pos hk,if_pos hk,show cellOf env p.1=pure c by unfold cellOf;rw[hc],hc];exact N _ λp J=>hl p (cw _ J)
   ·rw[if_neg hk,if_neg hk]
    exact N _ λp J=>hl p (cw _ J)
 exact(congrArg (λt=>t>>= λx=>pure x) (key scope.names [] h)).trans rfl
theorem zP{env:aS}{x:ae}{c:ak}(l:List (ae×e6)):∀{acc:List (ae×ak)},(eY env l acc).lookup x=some c->env.cells.lookup x=some c\/acc.lookup x=some c:=by
 induction l with
 |nil=>exactλ{acc} h=>.inr h
 |cons p r J=>
  intro acc h;have h:(if(p.2==.free)=true then eY env r ((env.cells.lookup p.1).elim acc λc=>(p.1,c)::acc)else eY env r acc).lookup x=some c:=h;by_cases hk:(p.2==qy)=true
  ·rw[if_pos hk]at h
   refine(J h).elim .inl λq=>?_;cases hc:env.cells.lookup p.1 with
   |none=>rw[hc]at q;exact .inr q
   |some c'=>
    rw[hc]at q;have q:fG x ((p.1,c')::acc)=some c:=q;rw[nC]at q;by_cases e:x=p.1
    ·rw[if_pos e]at q;exact .inl (e▸q▸hc)
    ·rw[if_neg e]at q;exact .inr q
  ·rw[if_neg hk]at h
   exact J h
theorem DK{env:aS}{x:ae}{c:ak}(hc:env.cells.lookup x=some c)(l:List (ae×e6)):∀{acc:List (ae×ak)},((x,qy)∈l\/acc.lookup x=some c)->(∀c',acc.lookup x=some c'->c'=c)->(eY env l acc).lookup x=some c:=by
 induction l with
 |nil=>exactλ{acc} h _=>h.elim nofun id
 |cons p r J=>
  intro acc h N;show(if(p.2==.free)=true then eY env r ((env.cells.lookup p.1).elim acc λc=>(p.1,c)::acc)else eY env r acc).lookup x=some c;by_cases hk:(p.2==qy)=true
  ·rw[if_pos hk]
   by_cases e:x=p.1
   ·rw[<-e,hc]
    have O:fG x ((x,c)::acc)=some c:=by rw[nC,if_pos rfl]
    exact J (.inr O) λc' q=>(mn (O.symm.trans q)).symm
   ·have keep:∀o:Option ak,(o.elim acc λc=>(p.1,c)::acc).lookup x=acc.lookup x:=λo=>by
     cases o with
     |none=>rfl
     |some c'=>exact nC.trans (if_neg e)
    refine J (h.imp (λh=>(bJ.mp h).elim (λh=>absurd (congrArg Tu h) e) id) λh=>(keep _).trans h) λc' q=>N c' ((keep _).symm.trans q)
  ·rw[if_neg hk]
   exact J (h.imp (λh=>(bJ.mp h).elim (λh=>absurd (beq_iff_eq.mpr (congrArg RW h).symm) hk) id) id) N
noncomputable def fz(scope sc:bc):bc:=relabel scope {(default:aS)with scope:=sc}
theorem K8{scope:bc}{env:aS}:relabel scope env=fz scope env.scope:=rfl
noncomputable def mB(sc:bc)(x:ae)(k:e6):e6:=if k=.free /\sc.names.lookup x=some .cell then .cell else k
theorem D0{scope sc:bc}(hk:sc.kind=.function)(x:ae):(fz scope sc).names.lookup x=(scope.names.lookup x).map (mB sc x):=by
 have one:∀p:ae×e6,(if(p.2==qy&&sc.kind==.function &&({(default:aS)with scope:=sc}:aS).kindOf p.1==some .cell)=true then(p.1,o9)else p)=(p.1,mB sc p.1 p.2):=λp=>by
  unfold mB;by_cases h:p.2=.free /\sc.names.lookup p.1=some .cell
  ·rw[if_pos h,if_pos]
   rw[h.1,hk];exact beq_iff_eq.mpr h.2
  ·rw[if_neg h,if_neg]
   rw[hk,gG,gG];exactλq=>h ⟨beq_iff_eq.mp q.1.1,beq_iff_eq.mp q.2⟩
 have key:∀l:List (ae×e6),(l.map λp=>if(p.2==qy&&sc.kind==.function &&({(default:aS)with scope:=sc}:aS).kindOf p.1==some .cell)=true then(p.1,o9)else p).lookup x=(l.lookup x).map (mB sc x):=λl=>by
  induction l with
  |nil=>rfl
  |cons p l J=>
   rw[bX,one,nC,nC,J];by_cases h:x=p.1
   ·rw[if_pos h,if_pos h,h];rfl
   ·rw[if_neg h,if_neg h]
 exact key scope.names
theorem LR{M:uK}{A:bg}{E:af->ah->Prop}{s:ah}{scope:bc}{globals:ak}{cl:List (ae×ak)}{qual:ae}{env:aS}{Q:aS->ah->Prop}
 (h:Q (newEnv scope s.heap.objs.size globals (cellsFrom (s.heap.objs.size+1) scope.names cl) qual none .none (some env) builtinsNs) {s with heap:=pushCells (s.heap.push {cls:=.type "dict",data:=.dict #[]}) scope.names}):
 wpAny M A (newFunctionEnv scope globals cl [] qual none .none (some env)) Q E s:=by
 simp only[newFunctionEnv,Option.isSome_some,if_true];refine ar (OF ?_);refine ar (wpAny_layCells _ (λname kind cells=>by cases J:kind==o9<;>simp[J]) _ _ _ _ ?_);rw[show({s with heap:=s.heap.push {cls:=.type "dict",data:=.dict #[]}}:ah).heap.objs.size =s.heap.objs.size+1 from m4 ..];exact ar (aU (aU h))
noncomputable def lM(scope sc:bc):Bool:=
 (scope.kind==.function &&!(scope.names.lookup ("due":ae)==some .local))&&(scope.names.all λp=>(scope.names.lookup p.1==some p.2)&&(p.2!=.free ||((sc.names.lookup p.1==some .cell ||sc.names.lookup p.1==some .free)&&!(p.1==("__classdict__":ae)))))
noncomputable def mJ(scope:bc)(x:ae):Prop:=scope.names.lookup x=some .local \/scope.names.lookup x=some .cell
inductive aV(C:Cfg)(scope:bc):List Nat->Prop
 |nil:aV C scope []
 |cons {k:Nat} {ks:List Nat} (x:ae):C.nm k=x->scope.names.lookup x=some .free ->aV C scope ks->aV C scope (k::ks)
theorem aV.mem{C:Cfg}{scope:bc}{ks:List Nat}(h:aV C scope ks){k:Nat}(m:k∈ks):scope.names.lookup (C.nm k)=some .free :=by
 induction h with
 |nil=>cases m
 |cons x J hl hs N=>
  rcases bJ.mp m with rfl|m
  ·rw[J];exact hl
  ·exact N m
noncomputable def aj.only(fv:List Nat)(F:aj):aj:=F.filter λp=>fv.contains p.1
theorem aj.DY{fv:List Nat}{F:aj}{k:Nat}{v:AV}(h:(F.only fv).lookup k=some v):F.lookup k=some v/\k∈fv:=by
 induction F with
 |nil=>exact nomatch h
 |cons p F N=>
  unfold aj.only at h;by_cases J:fv.contains p.1=true
  ·rw[uz (p:=λp:Nat×AV=>fv.contains p.1) J,eN]at h
   rw[eN];cases hk:k==p.1 with
   |true=>rw[hk]at h;exact⟨h,beq_iff_eq.mp hk▸Q6.mp J⟩
   |false=>rw[hk]at h;exact N h
  ·rw[xb (p:=λp:Nat×AV=>fv.contains p.1) J]at h
   obtain⟨h1,h2⟩:=N h;exact⟨by rw[eN,beq_false_of_ne λe:k=p.1=>J (Q6.mpr (e▸h2))];exact h1,h2⟩
section
variable{C:Cfg}{n:Nat}{sc:bc}
theorem tX{scope:bc}(h:lM scope sc=true):(scope.kind=.function /\scope.names.lookup ("due":ae)≠some .local)/\∀p∈scope.names,scope.names.lookup p.1=some p.2/\(p.2=.free ->(sc.names.lookup p.1=some .cell \/sc.names.lookup p.1=some .free)/\(p.1==("__classdict__":ae))=false):=by
 unfold lM at h;rw[gG]at h;refine⟨have z:=nK.mp h.1;⟨by simpa using z.1,by simpa using z.2⟩,λp J=>?_⟩;have:=w_.mp h.2 p J;rw[gG]at this;refine⟨by simpa using this.1,λhf=>?_⟩;have h2:=this.2;rw[hf]at h2;simp at h2;exact⟨h2.1,by simpa using h2.2⟩
theorem Ob{scope:bc}{ρ:aD}{st:St}{F:aj}{env:aS}{s:ah}{fv:List Nat}(N:a8 C sc ρ F env s.heap)(R:Rel C ρ st s.heap)(hc:lM scope sc=true)(iQ:aV C scope fv)
 (hcl:∀p∈scope.names,p.2=.free ->∃c,env.cells.lookup p.1=some c):
 let L:=s.heap.objs.size;let h':=pushCells (s.heap.push {cls:=.type "dict",data:=.dict #[]}) scope.names;let J:aS:={newEnv scope L env.globals (cellsFrom (L+1) scope.names (eY env scope.names [])) env.qual none .none (some env) builtinsNs with scope:=relabel scope env}
 a8 C (fz scope sc) ρ (F.only fv) J h'/\(∀b o,s.heap.get? b=some o->h'.get? b=some o)/\J.locals=L/\(∀a,l7 J (mJ scope) a->s.heap.get? a=none):=by
 intro L h' J;obtain⟨⟨hk,hdue⟩,hm⟩:=tX hc;have hsize:(s.heap.push {cls:=.type "dict",data:=.dict #[]}).objs.size =L+1:=m4 ..;have keep:∀b o,s.heap.get? b=some o->h'.get? b=some o:=λb o e=>RE _ _ b o (kG _ e);have ok:=Nv scope.names (s.heap.push {cls:=.type "dict",data:=.dict #[]}) (L+1) [] ⟨λ_ _ hm=>(nomatch hm),ND⟩ (by rw[hsize];exact a6 _);rw[hsize]at ok;have U:J.cells=cellsFrom (L+1) scope.names []++eY env scope.names []:=we _ _ _;have hsc:J.scope=fz scope sc:=by show relabel scope env=_;rw[K8,N.scope]
 have Y:∀x,J.kindOf x=(scope.names.lookup x).map (mB sc x):=λx=>by
  unfold jH;rw[hsc];exact D0 N.kind x
 have hrel:(fz scope sc).names.lookup ("due":ae)=some .local ->scope.names.lookup ("due":ae)=some .local :=λq=>by
  rw[D0 N.kind]at q;refine aG (vT q) λk e q=>?_;unfold mB at q;by_cases hk:k=.free /\sc.names.lookup ("due":ae)=some .cell
  ·rw[if_pos hk]at q;exact nomatch q
  ·rw[if_neg hk]at q;exact q▸e
 have kfree:∀x,J.kindOf x=some .free ->scope.names.lookup x=some .free :=λx q=>by
  rw[Y]at q;refine aG (vT q) λk e q=>?_;unfold mB at q;by_cases hk:k=.free /\sc.names.lookup x=some .cell
  ·rw[if_pos hk]at q;exact nomatch q
  ·rw[if_neg hk]at q;exact q▸e
 have envkind:∀x,env.kindOf x=sc.names.lookup x:=λx=>by unfold jH;rw[N.scope]
 have fresh:∀c,L<=c->s.heap.get? c=none:=λc hle=>by
  cases q:s.heap.get? c with
  |none=>rfl
  |some o=>exact absurd (j9 q) (iH.mpr hle)
 have look:∀x c,J.cells.lookup x=some c->((x,c)∈cellsFrom (L+1) scope.names []/\h'.IsCell c none/\L+1<=c/\scope.names.lookup x=some .cell)\/
  (env.cells.lookup x=some c/\(cellsFrom (L+1) scope.names []).lookup x=none):=λx c h=>by
  rw[U,rE]at h;cases q:(cellsFrom (L+1) scope.names []).lookup x with
  |some c'=>
   rw[q]at h;have m:=mem_of_lookup (q.trans h);have e:=ok.empty _ _ m;exact .inl ⟨m,e.1,e.2,(hm _ (DQ _ _ m)).1⟩
  |none=>
   rw[q]at h;exact .inr ⟨(zP _ h).elim id nofun,rfl⟩
 have notown:∀x,scope.names.lookup x=some .free ->(cellsFrom (L+1) scope.names []).lookup x=none:=λx hf=>by
  cases q:(cellsFrom (L+1) scope.names []).lookup x with
  |none=>rfl
  |some c=>
   have:=(hm _ (DQ _ _ (mem_of_lookup q))).1;rw[hf]at this;cases this
 have O:∀x,scope.names.lookup x=some .free ->∀c,env.cells.lookup x=some c->J.cells.lookup x=some c:=λx hf c S=>by
  rw[U,rE,notown x hf];exact DK S _ (.inl (lookup_mem hf)) λ_ q=>nomatch q
 have hNs:h'.Ns L λ_=>none:=(Z3 s.heap (.type "dict")).keeps (RE _ _);refine⟨⟨hsc,hk,N.globals,N.builtins,⟨_,hNs⟩,R.fh (fresh L (a6 _)),R.iB (fresh L (a6 _)),λk v q=>?_,λx q=>?_,λx y c hx hy=>?_,λx q=>?_,λx c q=>?_,λx q=>?_,λq=>absurd (hrel q) hdue⟩,keep,rfl,?_⟩
 ·obtain⟨q1,q2⟩:=aj.DY q
  have hf:=iQ.mem q2;obtain⟨hs,hcd⟩:=(hm _ (lookup_mem hf)).2 rfl;refine aG (N.vars k v q1) λV r hv=>?_;refine⟨V,r,.inr ?_⟩;rcases hv with⟨hl,_⟩|⟨hl,c,S,hn,hcell⟩
  ·rw[envkind]at hl;rw[hl]at hs;rcases hs with hs|hs<;>cases hs
  ·refine⟨?_,c,O _ hf c S,hn,IsCell.of hcell λo e=>keep _ _ e⟩
   rw[Y,hf];show some (mB sc _ _)=_\/some (mB sc _ _)=_;unfold mB;by_cases hq:qy=.free /\sc.names.lookup (C.nm k)=some .cell
   ·rw[if_pos hq];exact .inl rfl
   ·rw[if_neg hq];exact .inr rfl
 ·rw[Y]at q
  refine aG (vT q) λk hf q=>?_;unfold mB at q;by_cases hq:k=.free /\sc.names.lookup x=some .cell
  ·refine ku (N.own x ((envkind x).trans hq.2)) λc gw b d e f i=>?_
   refine bO (nY f) λo ho=>?_;exact⟨c,gw,O x (hq.1▸hf) c b,d,(λz=>nomatch (fresh L (a6 _)).symm.trans ((z▸rfl:s.heap.get? L=s.heap.get? c).trans ho)),IsCell.of f λo e=>keep _ _ e,i⟩
  ·rw[if_neg hq]at q
   refine bO (cellsFrom_some scope.names (L+1) (lookup_mem (q▸hf))) λc S=>?_;have e:=ok.empty _ _ (mem_of_lookup S);have hle:L<=c:=mW e.2;exact⟨c,none,by rw[U,rE,S];rfl,R.fh (fresh c hle),jh e.2,e.1,R.iB (fresh c hle)⟩
 ·rcases look x c hx with⟨m,e,le,_⟩|⟨m,_⟩
  ·rcases look y c hy with⟨m',e',le',_⟩|⟨m',_⟩
   ·exact Rl ok.apart m m'
   ·refine m_ (N.cells y c m') λ_ v o ho _=>?_
    rw[fresh c (mW le)]at ho;cases ho
  ·rcases look y c hy with⟨m',e',le',_⟩|⟨m',_⟩
   ·refine m_ (N.cells x c m) λ_ v o ho _=>?_
    rw[fresh c (mW le')]at ho;cases ho
   ·exact N.apart x y c m m'
 ·exact((hm _ (lookup_mem (kfree x q))).2 rfl).2
 ·rcases look x c q with⟨m,e,le,_⟩|⟨m,_⟩
  ·exact⟨R.fh (fresh c (mW le)),none,e⟩
  ·refine pL (N.cells x c m) λd v f=>?_
   exact⟨d,v,IsCell.of f λo e=>keep _ _ e⟩
 ·exact(hcl _ (lookup_mem (kfree x q)) rfl).imp λc S=>O x (kfree x q) c S
 ·rintro a (rfl|⟨x,hT,hx,ha⟩)
  ·exact fresh L (a6 _)
  ·rcases look x a ha with⟨m,e,le,_⟩|⟨m,hno⟩
   ·exact fresh a (mW le)
   ·exfalso
    rcases hT with hT|hT
    ·rw[Y,hT]at hx;exact nomatch hx
    ·refine bO (cellsFrom_some scope.names (L+1) (lookup_mem hT)) λc S=>?_
     rw[hno]at S;cases S
end
noncomputable def Jj(e:aJ)(depth:Nat)(target iter:aJ)(ifs:List aJ)(emit:dS Unit)(it acc:af)(env:aS):dS Hq:=do
 standAt iter.pos
 match<-pyNext it with
 |none=>pure (.done .next)
 |some v=>
  letOwnedTupleGo target it v
  assign target env v
  let mut ok:=true
  for c in ifs do
   if ok then ok <-isTrue c env (eval c env)
  if ok then
   emit
  again (.compLoop e depth it acc env)
structure tf(e:aJ)(depth:Nat)(target iter:aJ)(ifs:List aJ)(emit:aS->af->dS Unit):Prop where
 turn:∀it acc env,compTurn e depth it acc env=Jj e depth target iter ifs (emit env acc) it acc env
 under:∀(A:bg) it acc env,A.under (.compLoop e depth it acc env)=A
 den:∀prog w it acc env,(model prog w).den (.compLoop e depth it acc env)=(compTurn e depth it acc env).onRaise (λx=>do noteFrame x env;theTreesLotGoes x)
 Vn:∀(A:bg) it acc env,A.under (.compStart e depth it acc env)=A
 XP:∀prog w it acc env,(model prog w).den (.compStart e depth it acc env)=(compStart e depth it acc env).onRaise (λx=>do noteFrame x env;standAt theWindowsPlace)
 sync:((clausesOf e)[depth]?).elim false (·.is_async !=0)=false
noncomputable def vh(M:uK)(A:bg)(emit:dS Unit)(E:af->ah->Prop)(J:Nat->ah->Prop)(n:Nat)(ok:Bool)(s:ah):Prop:=
 if ok=true then wpAny M A emit (λ_ s5=>∃m,m<n/\J m s5) E s else∃m,m<n/\J m s
theorem Ko{prog:ft}{w:dB}{A:bg}{R:qt->ah->Prop}{s:ah}{e target iter:aJ}{depth:Nat}{ifs:List aJ}{emit:aS->af->dS Unit}{it acc:af}{env:aS}
 (ht:tf e depth target iter ifs emit)(I:Nat->ah->Prop)
 (turn:∀n s,I n s->wpAny (model prog w) A (pyNext it) (λr s₁=>r.elim (R (.ok .next) s₁) λv=>wpAny (model prog w) A (letOwnedTupleGo target it v) (λ_ J=>wpAny (model prog w) A (assign target env v) (λ_ N=>
  wpAny (model prog w) A (forIn ifs true λc r=>if r=true then do let ok <-isTrue c env (eval c env);pure (kD ok)else pure (kD r))
   (vh (model prog w) A (emit env acc) (notedBy (model prog w) A env λe s'=>R (.error e) s') I n) (notedBy (model prog w) A env λe s'=>R (.error e) s') N) (notedBy (model prog w) A env λe s'=>R (.error e) s') J) (notedBy (model prog w) A env λe s'=>R (.error e) s') s₁) (notedBy (model prog w) A env λe s'=>R (.error e) s') s)
 (n:Nat)(h:I n s):
 codeAny (model prog w) A (.compLoop e depth it acc env) R s:=by
 refine codeAny_loop rfl I (λn s hI=>?_) n h;rw[ht.under,ht.den];refine wpAny_noted ?_;rw[ht.turn];refine ar (qg (ar (e7 (turn n s hI) (λr s₁ h₁=>?_) λ_ _ h'=>h')));cases r with
 |none=>exact aU h₁
 |some v=>
  refine ar (e7 h₁ (λ_ J S=>ar (e7 S (λ_ N U=>ar (e7 U (λok s₃ O=>?_) λ_ _ h'=>h')) λ_ _ h'=>h')) λ_ _ h'=>h');cases ok with
  |false=>exact aU ⟨rfl,O⟩
  |true=>exact ar (e7 O (λ_ s₅ Y=>aU ⟨rfl,Y⟩) λ_ _ h'=>h')
theorem DL{prog:ft}{w:dB}{A:bg}{R:qt->ah->Prop}{s:ah}{e target iter:aJ}{depth:Nat}{ifs:List aJ}{emit:aS->af->dS Unit}{it acc:af}{env:aS}
 (ht:tf e depth target iter ifs emit)(h0:codeAny (model prog w) A (.compLoop e depth it acc env) R s)
 (h:wpAny (model prog w) A (pyIter it) (λgT s'=>codeAny (model prog w) A (.compLoop e depth gT acc env) R s') (notedBy (model prog w) A env λx s'=>R (.error x) s') s):
 codeAny (model prog w) A (.compStart e depth it acc env) R s:=by
 refine codeAny_of_tree ?_;rw[ht.Vn,ht.XP];refine wpAny_notedAt ?_;unfold compStart;rw[ht.sync];show wpAny _ _ (ask>>= _) _ _ s;refine ar (FI ?_);split
 ·exact aU ⟨rfl,h0⟩
 ·refine ar (nM ?_)
  have fin:wpAny (model prog w) A (do let __do_lift <-pyIter it;again (.compLoop e depth __do_lift acc env)) (λfin s'=>match fin with|.done f=>R (.ok f) s'|.again c'=>c'.quiet=true/\codeAny (model prog w) A c' R s') (notedBy (model prog w) A env λx s'=>R (.error x) s') s:=
   ar (e7 h (λgT s' h'=>aU ⟨rfl,h'⟩) λ_ _ x=>x)
  cases(clausesOf e)[depth]? with
  |none=>exact fin
  |some g=>exact ar (qg fin)
structure ni(C:Cfg)(n:Nat)(sc:bc)(ifs:List aJ)(f:aj->St->Option (Bool×St)):Prop where
 u:∀{A env F ρ st s Q E},bN n A->a8 C sc ρ F env s.heap->Rel C ρ st s.heap->Ok (f F st) (tH C ρ s Q)->
  wpAny (model C.prog C.w) A (forIn ifs true λc r=>if r=true then do let ok <-isTrue c env (eval c env);pure (kD ok)else pure (kD r)) Q E s
noncomputable def bw:aj->St->Option (Bool×St):=λ_ st=>some (true,st)
noncomputable abbrev jd:=List AV->aj->St->Option (List AV×aj×St)
noncomputable def jO(tg:b7)(ti:aj->St->Option (Bool×St))(em:jd)(k:Nat):It->jd:=BV (motive:=λ_=>It->jd) (λ_ _ _ _=>none)
 (λ_ again it acc F st=>if tg.fits it then(it.next st).bind λp=>p.1.elim (some (acc,F,p.2)) λq=>(tg.bind q.1 F p.2).bind λF1=>(ti F1 p.2).bind λt=>
  if t.1 then(em acc F1 t.2).bind λe=>again q.2 e.1 e.2.1 e.2.2 else again q.2 acc F1 t.2 else none) k
noncomputable def a_(fe:EM):jd:=λacc F st=>(fe F st).bind λe=>if acc.length<=sizeLine then some (acc++[e.1],F,e.2)else none
noncomputable def rg(fi:aj->St->Option (It×St))(tg:b7)(ti:aj->St->Option (Bool×St))(em:jd)(k:Nat):jd:=λacc F st=>(fi F st).bind λp=>jO tg ti em k p.1 acc F p.2
noncomputable abbrev oD:=aD->List AV->iL->Prop
noncomputable def oD.vW(B:oD):Prop:=∀{ρ aq acc o},ρ<+:aq->B ρ acc o->B aq acc o
noncomputable def vP:oD:=λρ acc o=>∃vs m,o={cls:=.type "list",data:=.seq (nO vs) m}/\bu ρ acc vs
theorem Ae:vP.vW:=λp h=>h.imp λvs h=>h.imp λm h=>⟨h.1,h.2.mono p⟩
noncomputable def pP(env:aS)(T:ae->Prop)(D a:ak):Prop:=a=D\/l7 env T a
structure zg(C:Cfg)(env:aS)(D:ak):Prop where
 base:C.base.get? D=none
 loc:D≠env.locals
 cell:∀x c,env.cells.lookup x=some c->c≠D
theorem zg.own{C:Cfg}{env:aS}{T:ae->Prop}{D:ak}(X:zg C env D):¬l7 env T D:=λh=>h.elim X.loc λh=>h.elim λx h=>X.cell x D h.2.2 rfl
section
variable(C:Cfg)(n:Nat)(dq:bc)(T:ae->Prop)(B:oD)
noncomputable def vd(env:aS)(D:ak)(ρ:aD)(s:ah)(Q:ah->Prop)(p:List AV×aj×St):Prop:=
 ∀aq s' o,Go (pP env T D) ρ s aq s'->a8 C dq aq p.2.1 env s'.heap->Rel C aq p.2.2 s'.heap->D∉aq->s'.heap.get? D=some o->B aq p.1 o->Q s'
structure qO(emit:aS->af->dS Unit)(em:jd):Prop where
 u:∀{A env F ρ st s Q E D acc o},bN n A->a8 C dq ρ F env s.heap->Rel C ρ st s.heap->zg C env D->D∉ρ->s.heap.get? D=some o->B ρ acc o->Ok (em acc F st) (vd C dq T B env D ρ s Q)->wpAny (model C.prog C.w) A (emit env (.ref D)) (λ_=>Q) E s
structure qB(A:bg)(target:aJ)(ifs:List aJ)(tg:b7)(ti:aj->St->Option (Bool×St))(emit:aS->af->dS Unit)(em:jd)(env:aS)(fp:List ak)(D:ak)(s₀:ah):Prop where
 hA:bN n A
 ht:bB C dq T target tg
 kj:ni C n dq ifs ti
 pO:qO C n dq T B emit em
 hB:B.vW
 pQ:∀a∈fp,s₀.heap.get? a=none
 hl:env.locals∉fp
 hc:∀x c,env.cells.lookup x=some c->c∉fp
 Dl:D∉fp
 hD:zg C env D
structure LoopAt(env:aS)(jm:aD)(s₀:ah)(fp:List ak)(I D:ak)(s:ah)(F:aj)(ρ:aD)(st:St)(it:It)(acc:List AV):Prop where
 go:Go (pP env T D) jm s₀ ρ s
 env:a8 C dq ρ F env s.heap
 rel:Rel C ρ st s.heap
 it:fO C n ρ s.heap fp I it
 lu:Hid C ρ s.heap fp
 out:D∉ρ
 acc:∃o,s.heap.get? D=some o/\B ρ acc o
noncomputable def uT(tg:b7)(ti:aj->St->Option (Bool×St))(em:jd)(env:aS)(jm:aD)(s₀:ah)(fp:List ak)(I D:ak)(Q:ah->Prop)(j:Nat)(s:ah):Prop:=
 ∃F ρ st it acc,LoopAt C n dq T B env jm s₀ fp I D s F ρ st it acc/\Ok (jO tg ti em j it acc F st) (vd C dq T B env D jm s₀ Q)
end
section
variable{C:Cfg}{n:Nat}{dq:bc}{T:ae->Prop}{B:oD}
theorem dE:ni C n dq [] bw:=⟨λhA N R h=>wpAny_tests_nil (h _ _ .refl R)⟩
theorem oZ{c:aJ}{f}(h:lh C n dq c f):ni C n dq [c] f:=⟨λhA N R q=>wpAny_tests_one (h.k hA N R q)⟩
theorem Go.wa{env:aS}{D:ak}{ρ J:aD}{s s1:ah}(g:Go No ρ s J s1):Go (pP env T D) ρ s J s1:=g.weak λ_ h=>h.elim
section
variable{A:bg}{e target iter:aJ}{depth:Nat}{ifs:List aJ}{tg:b7}{ti:aj->St->Option (Bool×St)}{emit:aS->af->dS Unit}{em:jd}{env:aS}{I D:ak}{fp:List ak}{jm:aD}{s₀:ah}{Q:ah->Prop}
theorem qB.off(X:qB C n dq T B A target ifs tg ti emit em env fp D s₀):∀a∈fp,¬pP env T D a:=λa m h=>h.elim (λz=>X.Dl (z▸m)) (dr.off X.hl X.hc a m)
theorem TC(X:qB C n dq T B A target ifs tg ti emit em env fp D s₀){j:Nat}{s:ah}{F:aj}{ρ:aD}{st:St}{it:It}{acc:List AV}{E:af->ah->Prop}{b:Bool}
 (Y:LoopAt C n dq T B env jm s₀ fp I D s F ρ st it acc)
 (h:Ok (if b then(em acc F st).bind λe=>jO tg ti em j it e.1 e.2.1 e.2.2 else jO tg ti em j it acc F st) (vd C dq T B env D jm s₀ Q)):
 vh (model C.prog C.w) A (emit env (.ref D)) E (uT C n dq T B tg ti em env jm s₀ fp I D Q) (j+1) b s:=by
 unfold vh;cases b with
 |false=>exact⟨j,iJ _,F,ρ,st,it,acc,Y,h⟩
 |true=>
  rw[if_pos rfl];exact Y.acc.elim λo q=>X.pO.u (Q:=λs5=>∃m,m<j+1/\uT C n dq T B tg ti em env jm s₀ fp I D Q m s5) X.hA Y.env Y.rel X.hD Y.out q.1 q.2 ((Ok.bind h).mono λe h J s6 o6 N U R6 O R S=>
   ⟨j,iJ _,e.2.1,J,e.2.2,it,e.1,⟨Y.go.trans N,U,R6,Y.it.go Y.lu N X.off,Y.lu.go N,O,o6,R,S⟩,h⟩)
theorem Nj(X:qB C n dq T B A target ifs tg ti emit em env fp D s₀){j:Nat}{s:ah}{F:aj}{ρ:aD}{st:St}{it:It}{acc:List AV}{E:af->ah->Prop}{item:Item}{V:af}
 (Y:LoopAt C n dq T B env jm s₀ fp I D s F ρ st it acc)(r:yy C ρ s.heap item V)
 (h:Ok ((tg.bind item F st).bind λF1=>(ti F1 st).bind λt=>if t.1 then(em acc F1 t.2).bind λe=>jO tg ti em j it e.1 e.2.1 e.2.2 else jO tg ti em j it acc F1 t.2) (vd C dq T B env D jm s₀ Q)):
 wpAny (model C.prog C.w) A (assign target env V) (λ_ O=>wpAny (model C.prog C.w) A (forIn ifs true λc r=>if r=true then do let ok <-isTrue c env (eval c env);pure (kD ok)else pure (kD r))
  (vh (model C.prog C.w) A (emit env (.ref D)) E (uT C n dq T B tg ti em env jm s₀ fp I D Q) (j+1)) E O) E s:=
 By X.hA X.ht Y.env Y.rel r (h.bind.mono λF3 h s4 R S R4=>X.kj.u X.hA S R4 (h.bind.mono λt h ρ5 s5 N R5=>Y.acc.elim λo q=>
  have U:=R.cI _ _ q.1 Y.out X.hD.own;have J:Go (pP env T D) ρ s ρ s4:=R.weak λ_ h=>.inr h
  TC X ⟨(Y.go.trans J).trans N.wa,S.go N,R5,(Y.it.go Y.lu J X.off).go (Y.lu.go J) N λ_ _ h=>h,(Y.lu.go J).go N,N.iZ U Y.out,o,N.cI _ _ U Y.out id,X.hB N.pre q.2⟩ h))
theorem Hz(X:qB C n dq T B A target ifs tg ti emit em env fp D s₀)(O:tf e depth target iter ifs emit)(k:Nat)
 {s:ah}{F:aj}{ρ:aD}{st:St}{it:It}{acc:List AV}{J:qt->ah->Prop}(Y:LoopAt C n dq T B env jm s₀ fp I D s F ρ st it acc)
 (h:Ok (jO tg ti em k it acc F st) (vd C dq T B env D jm s₀ (J (.ok .next)))):
 codeAny (model C.prog C.w) A (.compLoop e depth (.ref I) (.ref D) env) J s:=by
 refine Ko O (uT C n dq T B tg ti em env jm s₀ fp I D (J (.ok .next))) ?_ k ⟨F,ρ,st,it,acc,Y,h⟩;rintro j s2 ⟨F2,bA,bI,tN,acc2,Z,h2⟩;cases j with
 |zero=>exact dA h2
 |succ j=>
  obtain⟨N,h2⟩:=Ok.ite h2;refine e7 (HO (Q:=λr s3=>r.elim (J (.ok .next) s3) λv=>wpAny (model C.prog C.w) A (assign target env v) (λ_ R=>wpAny (model C.prog C.w) A (forIn ifs true λc r=>if r=true then do let ok <-isTrue c env (eval c env);pure (kD ok)else pure (kD r))
   (vh (model C.prog C.w) A (emit env (.ref D)) (notedBy (model C.prog C.w) A env λe s'=>J (.error e) s') (uT C n dq T B tg ti em env jm s₀ fp I D (J (.ok .next))) (j+1)) (notedBy (model C.prog C.w) A env λe s'=>J (.error e) s') R) (notedBy (model C.prog C.w) A env λe s'=>J (.error e) s') s3)
   X.hA Z.rel Z.it Z.lu (HA X.ht N) (Hi X.ht N) (h2.bind.mono λp h=>?_)) (λr s3 h=>?_) λ_ _ h=>h
  ·obtain⟨r,st3⟩:=p
   obtain⟨o,ho,hb⟩:=Z.acc;cases r with
   |none=>
    intro S s3 g3 U;exact h S s3 o (g3.after Z.go X.pQ) (Z.env.oI g3 X.hl X.hc) U (λm=>(g3.new D m).elim Z.out λq=>nomatch ho.symm.trans q) (g3.cI _ _ ho Z.out X.Dl) (X.hB g3.pre hb)
   |some q=>exactλV S s3 g3 U hI3 r3=>Nj X ⟨g3.l9.after Z.go X.pQ,Z.env.oI g3.l9 X.hl X.hc,U,hI3,Z.lu.go g3,g3.iZ ho Z.out,o,g3.cI _ _ ho Z.out X.Dl,X.hB g3.pre hb⟩ r3 h
  ·cases r with
   |none=>exact h
   |some v=>exact h
theorem U8{fi}(k:Nat)(hi:mK C n dq iter fi)(ht:bB C dq T target tg)(kj:ni C n dq ifs ti)(pO:qO C n dq T B emit em)(hB:B.vW)
 (J:tf e depth target iter ifs emit)(hs:∀env x,foldedSetIterable iter env x=pure x):
 qO C n dq T B (λenv acc=>do
  let x <-eval iter env
  standAt iter.pos
  let x <-foldedSetIterable iter env x;let _ <-runOwn (.compStart e depth (<-holding [x] (pyIter x)) acc env) env) (rg fi tg ti em k):=⟨λ{A env F ρ st s Q E D acc o} hA N R hD O ho hb h=>by
 refine ar (e7 (hi.u hA N R (h.bind.mono λp h I fp ρ1 s1 g1 R1 hI H1 hf S=>?_)) (λx s1 h1=>ar (qg (ar (ef (hs env x) (ar (mh (e7 h1 (λI s2 h2=>h2) λ_ _ x=>x))))))) λ_ _ x=>x);refine ar (wpAny_runOwn (h:=none) ?_);have X:qB C n dq T B A target ifs tg ti emit em env fp D s:=⟨hA,ht,kj,pO,hB,hf,(N.off hf).1,(N.off hf).2,(λm=>nomatch (hf D m).symm.trans ho),hD⟩;have L:codeAny (model C.prog C.w) A (.compLoop e depth (.ref I) (.ref D) env) (λr s'=>match r with|.ok f=>wpAny (model C.prog C.w) A (pure ()) (λ_=>Q) E s'|.error e=>cameBackBy (model C.prog C.w) A env E e s') s1:=
  Hz X J k ⟨g1.wa,N.go g1,R1,hI,H1,g1.iZ ho O,o,g1.cI _ _ ho O id,hB g1.pre hb⟩ (h.mono λq K aq s' o' g' N' R' U Y hb'=>aU (K aq s' o' g' N' R' U Y hb'))
 exact DL J L (S A s1 _ _ (λ_ _ e=>e) L)⟩
end
theorem HQ{elt:aJ}{fe:EM}(he:bR C n dq elt fe):qO C n dq T vP (λenv acc=>do let _ <-call (.builtin "list.append") [acc,<-eval elt env]) (a_ fe):=⟨λ{A env F ρ st s Q E D acc o} hA N R hD S ho hb h=>by
 refine ar (he.k hA N R (h.bind.mono λe h V J s1 g1 R1 r1=>?_));obtain⟨hlen,h⟩:=h.ite;refine ou hb λvs m zq2 rv=>?_;subst zq2;have zL:=rv.mono g1.pre;refine ar (Ry ⟨m,g1.cI _ _ ho S id⟩ (λh' O hs'=>aU ?_) (by rw[dI,zL.length];exact hlen));refine bO O λm' O=>?_;have kk:∀a o,a≠D->s1.heap.get? a=some o->h'.get? a=some o:=λa o ne e=>(hs'.2 a ne).trans e;have U:D∉J:=g1.iZ ho S;have Y:jc (·=D) J s1 J {s1 with heap:=h'}:=jc.keeps (t:=s1.toks) kk;have gX:Go (pP env T D) J s1 J {s1 with heap:=h'}:=⟨Y.pre,Y.new,λa o e m x=>Y.cI a o e m λz=>x (.inl z),λa o e=>by
  by_cases z:a=D
  ·exact⟨_,z▸O⟩
  ·exact Y.alive a o e z,rfl,rfl⟩
 exact h J _ _ (g1.wa.trans gX) ((N.go g1).oI Y (λz=>hD.loc z.symm) λx c q z=>hD.cell x c q z)
  (R1.lY (·=D) (λb o e m=>kk b o m e) (λa ha e=>U (e▸ha)) λa o e z=>nomatch (z▸hD.base:C.base.get? a=none).symm.trans e) U O ⟨vs++[V],m',by rw[Rd],zL.append (.cons r1 .nil)⟩⟩
end
section
variable{C:Cfg}{n:Nat}{sc:bc}
theorem xV{ρ aq:aD}{s t:ah}{X:ak->Prop}(g:Go X ρ s aq t){a:ak}(e:t.heap.get? a=none):s.heap.get? a=none:=by
 cases q:s.heap.get? a with
 |none=>rfl
 |some o=>exact(g.alive a o q).elim λo' J=>nomatch e.symm.trans J
noncomputable def CompPost(C:Cfg)(B:oD)(A:bg)(ρ:aD)(s:ah)(use:Option (af->dS Unit))(Q:af->ah->Prop)(E:af->ah->Prop)(p:List AV×aj×St):Prop:=
 ∀D L aq s' o,Go No ρ s aq s'->Rel C aq p.2.2 s'.heap->s'.heap.get? D=some o->B aq p.1 o->D∉aq->L∉aq->D≠L->s.heap.get? D=none->s.heap.get? L=none->(∃m,s'.heap.Ns L m)->compPost (model C.prog C.w) A E use Q (.ref D) L (.ok .next) s'
noncomputable def CE(C:Cfg)(B:oD)(J:dS af):Prop:=∀{A:bg}{s:ah}{ρ:aD}{Q:af->ah->Prop}{E:af->ah->Prop},(∀o:iL,o.isFreed=false->B ρ [] o->Q (.ref s.heap.objs.size) {s with heap:=s.heap.push o})->wpAny (model C.prog C.w) A J Q E s
theorem GX:CE C vP (newList []):=λh=>xK (h _ rfl ⟨[],0,rfl,.nil⟩) (by decide)
theorem Go.dead{X:ak->Prop}{ρ aq:aD}{s s':ah}(g:Go X ρ s aq s')(h:∀a,X a->s.heap.get? a=none):Go No ρ s aq s':=
 ⟨g.pre,g.new,λa o e n _=>g.cI a o e n λx=>(nomatch (h a x).symm.trans e),g.alive,g.os,g.gens⟩
theorem Ac{A:bg}{env:aS}{e target iter:aJ}{ifs:List aJ}{gs:List AP}{scope:bc}{ipos:bM}{tg:b7}{fi ti em}{emit:aS->af->dS Unit}{U:dS af}{B:oD}{fv:List Nat}{k:Nat}{F:aj}{ρ:aD}{st:St}{s:ah}
 {use:Option (af->dS Unit)}{Q:af->ah->Prop}{E:af->ah->Prop}
 (hA:bN n A)(N:a8 C sc ρ F env s.heap)(R:Rel C ρ st s.heap)(hcl':clausesOf e=⟨target,iter,ifs,0⟩::gs)(hturn:tf e 0 target iter ifs emit)(hnew:CE C B U)(hB:B.vW)
 (hi:mK C n sc iter fi)(ht:bB C (fz scope sc) (mJ scope) target tg)(kj:ni C n (fz scope sc) ifs ti)(pO:qO C n (fz scope sc) (mJ scope) B emit em)
 (hc:lM scope sc=true)(iQ:aV C scope fv)(hs:∀x,foldedSetIterable iter env x=pure x)
 (h:Ok ((fi F st).bind λp=>jO tg ti em k p.1 [] (F.only fv) p.2) (CompPost C B A ρ s use Q E)):
 wpAny (model C.prog C.w) A (comprehension e scope env ipos U false (eval iter env) use) Q E s:=by
 obtain⟨⟨hkind,_⟩,hm⟩:=tX hc;have S:∀x,env.kindOf x=sc.names.lookup x:=λx=>by unfold jH;rw[N.scope]
 have hcl:∀p∈scope.names,p.2=.free ->∃c,env.cells.lookup p.1=some c:=λp hp hf=>
  ((hm p hp).2 hf).1.elim (λq=>(N.own p.1 ((S _).trans q)).imp λc b=>b.elim λ_ b=>b.1) λq=>N.frees p.1 ((S _).trans q)
 refine wpAny_comprehension_free (g:=⟨target,iter,ifs,0⟩) (gs:=gs) hcl' hs (wd hcl) hkind (λp hp hl=>hl▸(hm p hp).1) ?_;refine hi.u hA N R (h.bind.mono λp h I fp ρ1 s1 g1 R1 hI H1 pQ hself=>?_);have N1:=N.go g1;refine hnew (ρ:=ρ1) λo ofr hb0=>?_;have hDn:=fQ s1.heap;let s2:ah:={s1 with heap:=s1.heap.push o};show wpAny _ _ (newFunctionEnv scope env.globals (eY env scope.names []) [] env.qual none .none (some env)) _ _ s2;have k2:∀b o,s1.heap.get? b=some o->s2.heap.get? b=some o:=dn _ _;have g2:Go No ρ1 s1 ρ1 s2:=Go.keeps (t:=s1.toks) k2;have R2:Rel C ρ1 p.2 s2.heap:=R1.keeps k2;have hD2:s2.heap.get? s1.heap.objs.size=some o:=dN _ ofr;obtain⟨N3,k3,hL,hown⟩:=Ob (N1.go g2) R2 hc iQ hcl;refine LR ?_;generalize hce:({newEnv scope s2.heap.objs.size env.globals (cellsFrom (s2.heap.objs.size+1) scope.names (eY env scope.names [])) env.qual none .none (some env) builtinsNs with scope:=relabel scope env}:aS)=J at*;rw[show(newEnv scope s2.heap.objs.size env.globals (cellsFrom (s2.heap.objs.size+1) scope.names (eY env scope.names [])) env.qual none .none (some env) builtinsNs).locals =J.locals by rw[<-hce]];let s3:ah:={s2 with heap:=pushCells (s2.heap.push {cls:=.type "dict",data:=.dict #[]}) scope.names};show codeAny _ _ _ _ s3;have g3:Go No ρ1 s2 ρ1 s3:=Go.keeps (t:=s2.toks) k3;have k13:∀b o,s1.heap.get? b=some o->s3.heap.get? b=some o:=λb o e=>k3 b o (k2 b o e);have g12:=g1.trans g2;have hfp2:∀a∈fp,s2.heap.get? a≠none:=λa m e=>(H1 a m).2.2.elim λo q=>nomatch e.symm.trans (k2 a o q);have O:s2.heap.get? J.locals=none:=hown _ (.inl rfl);have Y:∀x c,J.cells.lookup x=some c->s2.heap.get? c=none\/(env.cells.lookup x=some c):=λx c q=>by
  rw[<-hce]at q;have q':(cellsFrom (s2.heap.objs.size+1) scope.names (eY env scope.names [])).lookup x=some c:=q;rw[we,rE]at q';cases hq:(cellsFrom (s2.heap.objs.size+1) scope.names []).lookup x with
  |none=>rw[hq]at q';exact(zP _ q').elim .inr nofun
  |some c'=>
   rw[hq]at q';have ok:=Nv scope.names (s2.heap.push {cls:=.type "dict",data:=.dict #[]}) (s2.heap.objs.size+1) [] ⟨λ_ _ hm=>(nomatch hm),ND⟩ (bS (m4 _ _).symm);rw[show(s2.heap.push {cls:=.type "dict",data:=.dict #[]}).objs.size =s2.heap.objs.size+1 from m4 ..]at ok;have le:=(ok.empty _ _ (mem_of_lookup (hq.trans q'))).2;refine .inl ?_;cases q2:s2.heap.get? c with
   |none=>rfl
   |some o=>exact absurd (j9 q2) (iH.mpr (mW le))
 have hLD:s1.heap.objs.size≠J.locals:=λz=>nomatch (z▸O:s2.heap.get? s1.heap.objs.size=none).symm.trans hD2;have X:qB C n (fz scope sc) (mJ scope) B A target ifs tg ti emit em J fp s1.heap.objs.size s:=
  ⟨hA,ht,kj,pO,hB,pQ,λm=>hfp2 _ m O,λx c q m=>(Y x c q).elim (λz=>hfp2 _ m z) λz=>(N.off pQ).2 x c z m,(λm=>(H1 _ m).2.2.elim λo e=>nomatch hDn.symm.trans e),
   R1.iB hDn,hLD,λx c q z=>(Y x c q).elim (λe=>nomatch (z▸e:s2.heap.get? s1.heap.objs.size=none).symm.trans hD2) λe=>(N1.cells x c e).2.elim λ_ w=>w.elim λo w=>nomatch (z▸hDn:s1.heap.get? c=none).symm.trans w.1⟩
 have hX:∀a,pP J (mJ scope) s1.heap.objs.size a->s.heap.get? a=none:=λa h=>h.elim (λz=>z▸xV g1 hDn) λh=>xV g12 (hown a h);have L:codeAny (model C.prog C.w) A (.compLoop e 0 (.ref I) (.ref s1.heap.objs.size) J) (compPost (model C.prog C.w) A E use Q (.ref s1.heap.objs.size) J.locals) s3:=
  Hz X hturn k ⟨(g12.trans g3).wa,N3,R2.keeps k3,hI.of (jJ _) λa o _ e=>k13 a o e,(H1.go g2).go g3,R1.fh hDn,o,k3 _ _ hD2,hb0⟩
   (h.mono λq K aq s' o' g' N' R' hn' hD' hb'=>K _ _ aq s' o' (g'.dead hX) R' hD' hb' hn' N'.mG hLD (xV g1 hDn) (xV g12 O) N'.ns)
 exact DL hturn L (hself A s3 _ _ (λb o e=>k13 b o e) L)
theorem known{ρ aq:aD}{st:St}{s s':ah}{D:ak}{xs:List AV}{vs:List af}{X:ak->Prop}(g:Go X ρ s aq s')(hB:C.base.get? D=none)(R:Rel C aq st s'.heap)(hD:s'.heap.PlainList D vs.toArray)(O:bu aq xs vs)(J:D∉aq)(N:s.heap.get? D=none):
 Rel C (aq++[D]) (st++[.list xs]) s'.heap/\Go X ρ s (aq++[D]) s':=
 hD.elim λnD hD=>⟨R.alloc (λ_ _ e=>e) J hB ⟨_,hD⟩ ⟨vs,⟨nD,hD⟩,O.mono (j4 _ _)⟩,
  ⟨g.pre.trans (j4 _ _),λa m=>(eh.mp m).elim (g.new a) λq=>.inr (cx.mp q▸N),g.cI,g.alive,g.os,g.gens⟩⟩
noncomputable def bl(fv:List Nat)(fi:aj->St->Option (It×St))(tg:b7)(ti:aj->St->Option (Bool×St))(em:jd)(k:Nat):EM:=
 λF st=>(fi F st).bind λp=>(jO tg ti em k p.1 [] (F.only fv) p.2).map λr=>(.ref r.2.2.length,r.2.2++[.list r.1])
structure yr(C:Cfg)(n:Nat)(sc:bc)(elt target iter:aJ)(ifs:List aJ)(gs:List AP)(scope:bc)(pos:bM)(emit:aS->af->dS Unit)(fi:aj->St->Option (It×St))(tg:b7)(ti:aj->St->Option (Bool×St))(em:jd)(fv:List Nat):Prop where
 turn:tf (.ListComp elt (⟨target,iter,ifs,0⟩::gs) scope pos) 0 target iter ifs emit
 hi:mK C n sc iter fi
 ht:bB C (fz scope sc) (mJ scope) target tg
 kj:ni C n (fz scope sc) ifs ti
 pO:qO C n (fz scope sc) (mJ scope) vP emit em
 hc:lM scope sc=true
 iQ:aV C scope fv
 hs:∀env x,foldedSetIterable iter env x=pure x
theorem df{elt target iter:aJ}{ifs:List aJ}{scope:bc}{pos:bM}{tg:b7}{fi ti fe}(fv:List Nat)
 (hi:mK C n sc iter fi)(ht:bB C (fz scope sc) (mJ scope) target tg)(kj:ni C n (fz scope sc) ifs ti)(he:bR C n (fz scope sc) elt fe)
 (hc:lM scope sc=true)(iQ:aV C scope fv)(hs:∀env x,foldedSetIterable iter env x=pure x):
 yr C n sc elt target iter ifs [] scope pos (λenv acc=>do let _ <-call (.builtin "list.append") [acc,<-eval elt env]) fi tg ti (a_ fe) fv:=
 ⟨⟨λ_ _ _=>rfl,λ_ _ _ _=>rfl,λ_ _ _ _ _=>rfl,λ_ _ _ _=>rfl,λ_ _ _ _ _=>rfl,rfl⟩,hi,ht,kj,HQ he,hc,iQ,hs⟩
theorem PY{elt target iter N J:aJ}{ifs O:List aJ}{scope:bc}{pos:bM}{tg S:b7}{fi ti U Y fe}(fv:List Nat)(k:Nat)
 (hi:mK C n sc iter fi)(ht:bB C (fz scope sc) (mJ scope) target tg)(kj:ni C n (fz scope sc) ifs ti)
 (hi':mK C n (fz scope sc) J U)(ht':bB C (fz scope sc) (mJ scope) N S)(R:ni C n (fz scope sc) O Y)(he:bR C n (fz scope sc) elt fe)
 (hc:lM scope sc=true)(iQ:aV C scope fv)(hs:∀env x,foldedSetIterable iter env x=pure x)(hs':∀env x,foldedSetIterable J env x=pure x):
 yr C n sc elt target iter ifs [⟨N,J,O,0⟩] scope pos (λenv acc=>do
  let x <-eval J env
  standAt J.pos
  let x <-foldedSetIterable J env x;let _ <-runOwn (.compStart (.ListComp elt [⟨target,iter,ifs,0⟩,⟨N,J,O,0⟩] scope pos) 1 (<-holding [x] (pyIter x)) acc env) env) fi tg ti (rg U S Y (a_ fe) k) fv:=
 ⟨⟨λit acc env=>by unfold compTurn Jj;simp only[bind_assoc,pure_bind];rfl,λ_ _ _ _=>rfl,λ_ _ _ _ _=>rfl,λ_ _ _ _=>rfl,λ_ _ _ _ _=>rfl,rfl⟩,hi,ht,kj,
  U8 (B:=vP) (emit:=λenv acc=>do let _ <-call (.builtin "list.append") [acc,<-eval elt env]) k hi' ht' R (HQ he) Ae ⟨λ_ _ _=>rfl,λ_ _ _ _=>rfl,λ_ _ _ _ _=>rfl,λ_ _ _ _=>rfl,λ_ _ _ _ _=>rfl,rfl⟩ hs',hc,iQ,hs⟩
theorem dG{elt target iter:aJ}{ifs:List aJ}{gs:List AP}{scope:bc}{pos:bM}{emit}{tg:b7}{fi ti em}{fv:List Nat}(k:Nat)
 (X:yr C n sc elt target iter ifs gs scope pos emit fi tg ti em fv):
 bR C n sc (.ListComp elt (⟨target,iter,ifs,0⟩::gs) scope pos) (bl fv fi tg ti em k):=KE.s λ{A env F ρ st s Q E} hA N R h=>by
 rw[arm_eval_ListComp];refine Ac hA N R (gs:=gs) rfl X.turn GX Ae X.hi X.ht X.kj X.pO X.hc X.iQ (X.hs env) (Ok.bind' (h.bind.mono λp h=>h.map.mono λq h D L aq s' o' g' R' hD' hb' J O hDL S U Y=>?_));refine bO Y λm hm=>?_;refine ou hb' λvs nD zq2 rv'=>?_;subst zq2;refine⟨m,hm,λh' hs'=>?_⟩;have kk:∀a o,¬a=L->s'.heap.get? a=some o->h'.get? a=some o:=λa o ne e=>(hs'.2 a ne).trans e;have g2:Go No ρ s aq {s' with heap:=h'}:=(jc.keeps (t:=s'.toks) kk).after g' λa z=>z▸U;have R2:Rel C aq q.2.2 h':=R'.lY (·=L) (λb o e ne=>kk b o ne e) (λa ha z=>O (z▸ha)) λa o e z=>nomatch (z▸U:s.heap.get? a=none).symm.trans (R.keep _ _ e);obtain⟨R3,g3⟩:=known g2 (R.iB S) R2 ⟨nD,kk _ _ hDL hD'⟩ rv' J S;exact h _ _ _ g3 R3 (m7 R2)
theorem rm{τ:Nat}{x:ae}{p' J:bM}{elt target iter:aJ}{ifs:List aJ}{gs:List AP}{scope:bc}{pos:bM}{emit}{tg:b7}{fi ti em}{fv:List Nat}(j:Nat)(hx:C.nm j=x)(k:Nat)
 (X:yr C n sc elt target iter ifs gs scope pos emit fi tg ti em fv)(hl:sc.names.lookup x=some .local \/sc.names.lookup x=some .cell)
 (hsw:swapsWith (.ListComp elt (⟨target,iter,ifs,0⟩::gs) scope pos) (some (.Name x p')) J.line {(default:aS)with scope:=sc}=pure true):
 cB C n sc τ (.Assign [.Name x p'] (.ListComp elt (⟨target,iter,ifs,0⟩::gs) scope pos) J) (bj j (bl fv fi tg ti em k)):=KX.s λ{A env F ρ st s Q E} hA _ N R h=>by
 subst hx;rw[exec_Assign_Name_used (C.nm j) p' _ J (by rw[mR (env':={(default:aS)with scope:=sc}) N.scope];exact hsw)];refine ar (qg (ar ?_));show wpAny _ _ (do let _ <-comprehension (.ListComp elt (⟨target,iter,ifs,0⟩::gs) scope pos) scope env (firstIterPos (⟨target,iter,ifs,0⟩::gs) pos) (newList []) false (eval iter env) (some (assign (.Name (C.nm j) p') env))) _ _ s;refine ar (Ac hA N R (gs:=gs) rfl X.turn GX Ae X.hi X.ht X.kj X.pO X.hc X.iQ (X.hs env) (Ok.bind' (h.map.bind.mono λp h=>h.map.mono λq h D L aq s' o' g' R' hD' hb' Y hLρ' hDL hD0 O hNs'=>?_)));show wpAny _ _ (assign (.Name (C.nm j) p') env (.ref D)) _ _ s';refine ou hb' λvs nD zq2 rv'=>?_;subst zq2;obtain⟨R3,g3⟩:=known g' (R.iB hD0) R' ⟨nD,hD'⟩ rv' Y hD0;refine H3 (mS (T:=λ_=>True) trivial (N.go g3) R3 hl (v:=.ref q.2.2.length) (m7 R') λs4 g4 N4 R4=>?_);refine bO hNs' λm hm=>?_;have S:¬dr env L:=λz=>z.elim (λz=>N.ns.elim λM w=>(oy w).elim λo e=>nomatch (z▸O:s.heap.get? env.locals=none).symm.trans e) λz=>z.elim λx z=>(N.cells x L z.2.2).2.elim λv w=>(nY w).elim λo e=>nomatch O.symm.trans e;have U:L∉aq++[D]:=λq=>(eh.mp q).elim hLρ' λq=>hDL (cx.mp q).symm;refine⟨m,Ns.of hm λo e=>g4.cI _ _ e U S,λh' hs'=>?_⟩;have kk:∀a o,¬a=L->s4.heap.get? a=some o->h'.get? a=some o:=λa o ne e=>(hs'.2 a ne).trans e;have gE:jc (·=L) (aq++[D]) s4 (aq++[D]) {s4 with heap:=h'}:=jc.keeps (t:=s4.toks) kk;have R5:Rel C (aq++[D]) (q.2.2++[.list q.1]) h':=R4.lY (·=L) (λb o e ne=>kk b o ne e) (λa ha z=>U (z▸ha)) λa o e z=>nomatch (z▸O:s.heap.get? a=none).symm.trans (R.keep _ _ e);have N5:a8 C sc (aq++[D]) (F.put j (.ref q.2.2.length)) env h':=N4.oI gE (λz=>S (.inl z.symm)) λx c q z=>(N.cells x c q).2.elim λv w=>(nY w).elim λo e=>nomatch (z▸O:s.heap.get? c=none).symm.trans e;exact aU (aU (h _ _ _ (gE.after (g3.own.trans g4) λa z=>z▸O) N5 R5 rfl))
end
open PySem.W
noncomputable def eP(C:Cfg)(n:Nat)(f:af)(g:List AV->St->Option (AV×St)):Prop:=
 ∀A ρ st s avs vs v st' Q E,bN n A->Rel C ρ st s.heap->bu ρ avs vs->g avs st=some (v,st')->
  (∀V aq s',Go No ρ s aq s'->Rel C aq st' s'.heap->RelV aq v V->Q V s')->wpAny (model C.prog C.w) A (call f vs) Q E s
theorem eP.le{C:Cfg}{n m:Nat}{f:af}{g}(h:eP C n f g)(hm:n<=m):eP C m f g:=
 λA ρ st s avs vs v st' Q E hA=>h A ρ st s avs vs v st' Q E (hA.le hm)
noncomputable def dX(C:Cfg)(n:Nat)(f:af)(g:List AV->St->Option (AV×St)):Prop:=
 ∀A ρ st s avs vs v st'(Q:af->ah->Prop)(E:af->ah->Prop),bN n A->Rel C ρ st s.heap->bu ρ avs vs->g avs st=some (v,st')->
  (∀V aq s',Go No ρ s aq s'->Rel C aq st' s'.heap->RelV aq v V->Q V s')->codeAny (model C.prog C.w) A (.call f ⟨vs,[]⟩) (λr s'=>match r with|.ok (.ret v)=>Q v s'|.ok _=>False|.error e=>E e s') s
theorem dX.call{C:Cfg}{n:Nat}{f:af}{g}(h:dX C n f g):eP C n f g:=
 λA ρ st s avs vs v st' Q E hA R r e K=>rQ (h A ρ st s avs vs v st' Q E hA R r e K)
section
variable{C:Cfg}{n:Nat}{sc:bc}
noncomputable def ik(C:Cfg)(f:af):Prop:=∀h,(∀b o,C.base.get? b=some o->h.get? b=some o)->∃k,(k=Keeper.frame\/k=Keeper.machine\/k=Keeper.boundFrame)/\Looks (model C.prog C.w) h (keeperOf f) k
theorem cP{id:String}:ik C (.builtin id):=λh _=>⟨.machine,.inr (.inl rfl),Oz rfl⟩
theorem d4{T:String}:ik C (.type T):=λh _=>⟨.machine,.inr (.inl rfl),Oz rfl⟩
theorem gz{a:ak}(hk:keepIn C.K (.ref a)=true):ik C (.ref a):=λh J=>keeps_K hk h λa o e=>J _ _ (C.eX a o e)
noncomputable def ag:aj->St->Option (List AV×St):=λ_ st=>some ([],st)
noncomputable def ab(f:EM)(g:aj->St->Option (List AV×St)):aj->St->Option (List AV×St):=λF st=>(f F st).bind λp=>(g F p.2).map λq=>(p.1::q.1,q.2)
theorem aF:ip C n sc [] ag:=by
 refine⟨?_⟩;intro A env F ρ st s vs st' Q E pos hA N R h K;cases h
 exact Hj (K [] ρ s .refl R .nil)
noncomputable def isStar:aJ->Bool
 |.Starred ..=>true
 |_=>false
theorem pZ{e:aJ}{es:List aJ}{env:aS}(h:isStar e=false):starEach (e::es) env=(false,eval e env)::starEach es env:=by
 cases e<;>first|rfl|cases h
theorem au{e:aJ}{es:List aJ}{f g}(he:bR C n sc e f)(hs:ip C n sc es g)(O:isStar e=false):ip C n sc (e::es) (ab f g):=by
 refine⟨?_⟩;intro A env F ρ st s vs st' Q E pos hA N R h K;refine aG (vH h) λJ h1 h=>?_;obtain⟨v,s1⟩:=J;simp only[ji]at h;refine aG h λJ h2 U=>?_;obtain⟨ws,s2⟩:=J;cases U
 rw[pZ O];show wpAny _ _ (spliced ((false,eval e env)::backTo pos (starEach es env))) _ _ _;refine E4 (he.u A env F ρ st s v s1 _ E hA N R h1 λV S t1 g1 Y r1=>?_);refine hs.u A env F S s1 t1 ws _ _ E pos hA (N.go g1) Y h2 λVs bA t2 g2 R2 r2=>?_;exact K (V::Vs) bA t2 (g1.trans g2) R2 (.cons (r1.mono g2.pre) r2)
inductive Plain:List aJ->Prop
 |nil:Plain []
 |cons {e:aJ} {es:List aJ}:isStar e=false->Plain es->Plain (e::es)
theorem Plain.any{es:List aJ}(h:Plain es)(pos:bM)(env:aS):(backTo pos (starEach es env)).any (·.1)=false:=by
 induction h with
 |nil=>rfl
 |cons h1 h2 J=>
  rw[pZ h1];show(false||(backTo pos (starEach _ env)).any (·.1))=false;rw[J];rfl
theorem DS{A:bg}{E:af->ah->Prop}{s:ah}{f:af}{args:List aJ}{pos:bM}{env:aS}{Q:Args->ah->Prop}(J:Plain args)
 (h:wpAny (model C.prog C.w) A (spliced (backTo pos (starEach args env))) (λvs s'=>Q ⟨vs,[]⟩ s') E s):wpAny (model C.prog C.w) A (evalArgs f true (backTo pos (starEach args env)) []) Q E s:=by
 cases J with
 |nil=>
  have h0:wpAny (model C.prog C.w) A (spliced []) (λvs s'=>Q ⟨vs,[]⟩ s') E s:=h;show wpAny (model C.prog C.w) A (evalArgs f true [] []) Q E s;unfold evalArgs;show wpAny (model C.prog C.w) A (spliced []>>= _) Q E s;refine ar (e7 h0 (λvs s' h'=>?_) λ_ _ x=>x);refine ar (aU ?_);refine mh ?_;exact ar (aU (ar (aU (aU h'))))
 |cons h1 h2=>
  rw[pZ h1]at h ⊢;exact ZN h
theorem p0{A:bg}{E:af->ah->Prop}{s:ah}{f:af}{first:List af}{args:List aJ}{pos:bM}{env:aS}{F:aj}{ρ:aD}{st st1:St}{avs:List AV}{fa}{Q:af->ah->Prop}
 (hA:bN n A)(N:a8 C sc ρ F env s.heap)(R:Rel C ρ st s.heap)(J:Plain args)(hk:ik C f)(S:ip C n sc args fa)(h:fa F st=some (avs,st1))
 (K:∀vs aq s',Go No ρ s aq s'->Rel C aq st1 s'.heap->bu aq avs vs->wpAny (model C.prog C.w) A (call f (first++vs)) Q E s'):
 wpAny (model C.prog C.w) A (callWith pos f first (backTo pos (starEach args env)) []) Q E s:=by
 refine NO (P:=λh=>∀b o,C.base.get? b=some o->h.get? b=some o) (by rw[J.any];rfl) hk (DS J ?_);exact S.u A env F ρ st s avs st1 _ E pos hA N R h λvs aq s' g O U=>⟨O.keep,K vs aq s' g O U⟩
noncomputable def bK(g:List AV->St->Option (AV×St))(fa:aj->St->Option (List AV×St)):EM:=λF st=>(fa F st).bind λp=>g p.1 p.2
theorem dQ{x:ae}{p pos:bM}{args:List aJ}{f:af}{fa g}(hf:∀A env F ρ st s Q E,a8 C sc ρ F env s.heap->Rel C ρ st s.heap->Q f s->wpAny (model C.prog C.w) A (eval (.Name x p) env) Q E s)
 (O:Plain args)(hk:ik C f)(S:ip C n sc args fa)(hc:eP C n f g):bR C n sc (.Call (.Name x p) args [] pos) (bK g fa):=by
 refine⟨?_⟩;intro A env F ρ st s v st' Q E hA N R h K;refine aG (vH h) λJ h1 h=>?_;obtain⟨avs,s1⟩:=J;refine oU (hf A env F ρ st s _ E N R ?_);refine p0 hA N R O hk S h1 λvs aq s' U Y r'=>?_;exact hc A aq s1 s' avs vs v st' Q E hA Y r' h λV bA s2 g2 R2 r2=>K V bA s2 (U.trans g2) R2 r2
theorem jA{x:ae}{p:bM}{f:af}(hk:sc.names.lookup x=some .globalImplicit)(hg:C.mg x=some f)(hd:(x==("__debug__":ae))=false):
 ∀A env F ρ st s Q E,a8 C sc ρ F env s.heap->Rel C ρ st s.heap->Q f s->wpAny (model C.prog C.w) A (eval (.Name x p) env) Q E s:=by
 intro A env F ρ st s Q E N R S;refine sE ?_ hd;have J:env.scope.kind=.function :=by rw[N.scope];exact N.kind
 have O:env.kindOf x=some .globalImplicit :=by unfold jH;rw[N.scope];exact hk
 unfold loadName;simp only[Ce,J,O,Qj,AS,je,if_false];refine Zf (mg:=C.mg) ?_ hg S;rw[N.globals];exact C.wb.keeps R.keep
theorem b8{x:ae}{p:bM}{f:af}(hk:sc.names.lookup x=some .globalImplicit)(hg:C.mg x=none)(hb:C.mb x=some f)(hd:(x==("__debug__":ae))=false):
 ∀A env F ρ st s Q E,a8 C sc ρ F env s.heap->Rel C ρ st s.heap->Q f s->wpAny (model C.prog C.w) A (eval (.Name x p) env) Q E s:=by
 intro A env F ρ st s Q E N R S;refine sE ?_ hd;have J:env.scope.kind=.function :=by rw[N.scope];exact N.kind
 have O:env.kindOf x=some .globalImplicit :=by unfold jH;rw[N.scope];exact hk
 unfold loadName;simp only[Ce,J,O,Qj,AS,je,if_false];unfold loadGlobal;refine ar (OC (by rw[N.globals];exact C.wb.keeps R.keep) ?_);rw[hg];refine ar (OC (by rw[N.builtins];exact C.J6.keeps R.keep) ?_);rw[hb];exact aU S
theorem tY{x:ae}{p:bM}{f:af}{v:AV}(hf:∀A env F ρ st s Q E,a8 C sc ρ F env s.heap->Rel C ρ st s.heap->Q f s->wpAny (model C.prog C.w) A (eval (.Name x p) env) Q E s)
 (hv:∀ρ,RelV ρ v f):bR C n sc (.Name x p) (xk v):=by
 refine⟨?_⟩;intro A env F ρ st s w st' Q E hA N R h K;cases h
 exact hf A env F ρ st s Q E N R (K f ρ s .refl R (hv ρ))
theorem DZ{kd:ae->Option e6}{x:ae}:∀{binds:List (ae×af)}{m:ae->Option af},x∉binds.map (·.1)->bindL kd binds m x=m x
 |[],_,_=>rfl
 |(y,v)::r,m,h=>by
  rw[bX,bJ,not_or]at h;unfold bindL;rw[DZ h.2];split
  ·exact if_neg h.1
  ·rfl
theorem DW{kd:ae->Option e6}{x:ae}:∀{binds:List (ae×af)}{m:ae->Option af},x∉binds.map (·.1)->bindC kd binds m x=m x
 |[],_,_=>rfl
 |(y,v)::r,m,h=>by
  rw[bX,bJ,not_or]at h;unfold bindC;rw[DW h.2];split
  ·rfl
  ·exact if_neg h.1
theorem E0{kd:ae->Option e6}{x:ae}{v:af}(N:kd x=some .local):∀{binds:List (ae×af)}{m:ae->Option af},(binds.map (·.1)).Nodup ->(x,v)∈binds->bindL kd binds m x=some v
 |(y,w)::r,m,J,h=>by
  rw[bX,Ql]at J;unfold bindL;rcases bJ.mp h with h|h
  ·cases h;rw[DZ J.1,if_pos N];exact if_pos rfl
  ·exact E0 N J.2 h
theorem EU{kd:ae->Option e6}{x:ae}{v:af}(N:kd x≠some .local):∀{binds:List (ae×af)}{m:ae->Option af},(binds.map (·.1)).Nodup ->(x,v)∈binds->bindC kd binds m x=some v
 |(y,w)::r,m,J,h=>by
  rw[bX,Ql]at J;unfold bindC;rcases bJ.mp h with h|h
  ·cases h;rw[DW J.1,if_neg N];exact if_pos rfl
  ·exact EU N J.2 h
theorem H6{ρ:aD}{nm:Nat->ae}:∀{ks:List Nat}{avs:List AV}{vs:List af},bu ρ avs vs->∀{k:Nat}{v:AV},(ks.zip avs).lookup k=some v->∃V,(nm k,V)∈(ks.map nm).zip vs/\RelV ρ v V
 |[],_,_,_,_,_,h=>by cases h
 |j::ks,_,_,.nil,k,v,h=>by cases h
 |j::ks,_,_,.cons a b,k,v,h=>by
  rw[kC,eN]at h;split at h
  ·rename_i q
   cases h
   exact⟨_,by rw[beq_iff_eq.mp q];exact cj,a⟩
  ·refine aG (H6 (nm:=nm) b h) λV m r=>?_
   exact⟨V,cw _ m,r⟩
theorem HY{α β:Type}:∀{l:List α}{m:List β},l.length=m.length->(l.zip m).map (·.1)=l
 |[],[],_=>rfl
 |a::l,b::m,h=>by simp[HY (l:=l) (m:=m) (by simpa using h)]
noncomputable def bG(ks:List Nat)(f:SM)(avs:List AV)(st:St):Option (AV×St):=
 if ks.length=avs.length then(f (ks.zip avs) st).bind λp=>match p.1 with
  |.ret v=>some (v,p.2.2)
  |.next =>some (.none,p.2.2)
  |_=>none
 else none
theorem AK{fa:ak}{oc:af}{od:Option ak}{osl:Array (Option af)}{fd:nR}{body:List gJ}{ks:List Nat}{A:bg}{ρ:aD}{st:St}{s:ah}{avs:List AV}{vs:List af}{Rz:qt->ah->Prop}
 (hA:bN (n+1) A)(R:Rel C ρ st s.heap)(rv:bu ρ avs vs)(hlen:ks.length=avs.length)
 (ho:C.K.lookup fa=some ⟨oc,od,.func fd,osl⟩)(hcd:codeIn C.K fd.code fd.qualname=true)(hb:fd.body=.stmts body)(hcl:fd.closure=[])(hg:fd.globals=mainGlobals)(hbu:fd.builtins=builtinsNs)
 (vz:∀vs:List af,vs.length=ks.length->bindArgs fd ⟨vs,[]⟩=pure ((ks.map C.nm).zip vs))(hks:ks.Nodup)
 (Y:∀k∈ks,fd.scope.names.lookup (C.nm k)=some .local \/fd.scope.names.lookup (C.nm k)=some .cell)(hnf:∀p∈fd.scope.names,fd.scope.names.lookup p.1=some p.2/\p.2≠.free)
 (hdue:(fd.scope.names.lookup ("due":ae)==some .local)=false)(v8:fd.scope.isCoroutine=false)(vX:fd.scope.isGenerator=false)(hk:fd.scope.kind=.function)
 (hbody:∀env s1 E',(∀e s',wpAny (model C.prog C.w) (A.deeper env) (leaving env e) (λ_ s''=>Rz (.error e) s'') (λe' s''=>Rz (.error e') s'') s'->E' e s')->env=callEnvC fd s.heap.objs.size fa->a8 C fd.scope ρ (ks.zip avs) env s1.heap->Rel C ρ st s1.heap->Go No ρ s ρ s1->(∀a,dr env a->s.heap.get? a=none)->
  wpAny (model C.prog C.w) (A.deeper env) (execs body env) (λfl s'=>Rz (.ok (.ret (match fl with|.ret v=>v|_=>.none))) s') E' s1):
 codeAny (model C.prog C.w) A (.call (.ref fa) ⟨vs,[]⟩) Rz s:=by
 have hlv:vs.length=ks.length:=by rw[rv.length,hlen]
 have eX:C.K.In s.heap:=λa o e=>R.keep _ _ (C.eX a o e);have S:((ks.map C.nm).zip vs).map (·.1)=ks.map C.nm:=HY (by rw[aQ,hlv]);have hnd:(ks.map C.nm).Nodup :=by
  rw[List.Nodup,F_];exact hks.imp λne e=>ne (C.inj _ _ e)
 have memk:∀x∈(ks.map C.nm).zip vs,∃k∈ks,x.1=C.nm k:=λx hx=>by
  have:x.1∈((ks.map C.nm).zip vs).map (·.1):=List.mem_map_of_mem hx;rw[S]at this;refine aG (dz.mp this) λk hk' e=>?_;exact⟨k,hk',e.symm⟩
 refine codeAny_call_cells hA.cG (eX _ _ ho) rfl (C.nolimit.keeps R.keep) (codeRec_of eX hcd) hb (vz vs hlv) hcl (λx hx=>?_) (λs1 ic=>?_) v8 vX hk
 ·refine aG (memk x hx) λk hk' e=>?_
  rcases Y k hk' with q|q
  ·left;rw[e];exact q
  ·right
   rw[e];refine⟨q,?_⟩;refine bO (cellsFrom_some fd.scope.names (s.heap.objs.size+1) (lookup_mem q)) λc hc=>?_;rw[hc];rfl
 ·generalize N:callEnvC fd s.heap.objs.size fa=env at ic
  have eloc:env.locals=s.heap.objs.size:=by rw[<-N];rfl
  have dT:env.scope=fd.scope:=by rw[<-N];rfl
  have ecl:env.cells=cellsFrom (s.heap.objs.size+1) fd.scope.names []:=by rw[<-N];rfl
  have egl:env.globals=mainGlobals:=by rw[<-N];exact hg
  have ebu:env.builtins=builtinsNs:=by rw[<-N];exact hbu
  have U:∀x,env.kindOf x=fd.scope.names.lookup x:=λx=>by unfold jH;rw[dT]
  refine ou ic.done λh' tk hs1 keep=>?_;subst hs1;have dead:∀a,s.heap.objs.size<=a->s.heap.get? a=none:=λa le=>by
   cases q:s.heap.get? a with
   |none=>rfl
   |some o=>exact absurd (j9 q) (iH.mpr le)
  have g1:Go No ρ s ρ {s with heap:=h',toks:=tk}:=Go.keeps keep;have R1:Rel C ρ st h':=R.keeps keep;have J:∀x c,env.cells.lookup x=some c->s.heap.get? c=none/\c≠env.locals:=λx c q=>by
   have:=ic.above x c (mem_of_lookup q);rw[eloc]at this ⊢;exact⟨dead c (cq this),jh this⟩
  have O:s.heap.get? env.locals=none:=by rw[eloc];exact dead _ (a6 _)
  have N1:a8 C fd.scope ρ (ks.zip avs) env h':=by
   refine⟨dT,hk,egl,ebu,⟨_,ic.toInCall.ns⟩,R.fh O,R.iB O,λk x q=>?_,λx q=>?_,λx y c hx hy=>?_,λx q=>?_,λx c q=>?_,λx q=>?_,λq=>absurd (beq_iff_eq.mpr q) (by rw[hdue];exact d9)⟩
   ·refine aG (H6 (nm:=C.nm) rv q) λV m r=>?_
    refine aG (memk _ m) λk' hk' e'=>?_;have e'':k=k':=C.inj _ _ e';subst e'';refine⟨V,r,?_⟩;rcases Y k hk' with z|z
    ·exact .inl ⟨(U _).trans z,_,ic.toInCall.ns,E0 ((U _).trans z) (by rw[S];exact hnd) m⟩
    ·refine bO (cellsFrom_some fd.scope.names (s.heap.objs.size+1) (lookup_mem z)) λc hc=>?_
     rw[<-ecl]at hc;refine .inr ⟨.inl ((U _).trans z),c,hc,R.fh (J _ _ hc).1,?_⟩;have:=ic.cell _ _ hc;rw[EU (by rw[U,z];decide) (by rw[S];exact hnd) m]at this;exact this
   ·rw[U]at q
    refine bO (cellsFrom_some fd.scope.names (s.heap.objs.size+1) (lookup_mem q)) λc hc=>?_;rw[<-ecl]at hc;exact⟨c,_,hc,R.fh (J _ _ hc).1,(J _ _ hc).2,ic.cell _ _ hc,R.iB (J _ _ hc).1⟩
   ·exact Rl ic.apart (mem_of_lookup hx) (mem_of_lookup hy)
   ·rw[U]at q;exact absurd rfl (hnf _ (lookup_mem q)).2
   ·exact⟨R.fh (J _ _ q).1,_,ic.cell _ _ q⟩
   ·rw[U]at q;exact absurd rfl (hnf _ (lookup_mem q)).2
  have owndead:∀a,dr env a->s.heap.get? a=none:=by
   rintro a (rfl|⟨x,_,_,q⟩)
   ·exact O
   ·exact(J x a q).1
  exact hbody env {s with heap:=h',toks:=tk} _ (λe s' h=>N▸h) N.symm N1 R1 g1 owndead
theorem m6{fa:ak}{oc:af}{od:Option ak}{U:Array (Option af)}{fd:nR}{body:List gJ}{ks:List Nat}{f:SM}
 (ho:C.K.lookup fa=some ⟨oc,od,.func fd,U⟩)(hcd:codeIn C.K fd.code fd.qualname=true)(hb:fd.body=.stmts body)(Y:fd.closure=[])(hg:fd.globals=mainGlobals)(hbu:fd.builtins=builtinsNs)
 (vz:∀vs:List af,vs.length=ks.length->bindArgs fd ⟨vs,[]⟩=pure ((ks.map C.nm).zip vs))(hks:ks.Nodup)
 (J:∀k∈ks,fd.scope.names.lookup (C.nm k)=some .local \/fd.scope.names.lookup (C.nm k)=some .cell)(hnf:∀p∈fd.scope.names,fd.scope.names.lookup p.1=some p.2/\p.2≠.free)
 (N:gr C n fd.scope 0 body f)(O:(fd.scope.names.lookup ("due":ae)==some .local)=false)
 (v8:fd.scope.isCoroutine=false)(vX:fd.scope.isGenerator=false)(hk:fd.scope.kind=.function):
 dX C (n+1) (.ref fa) (bG ks f):=by
 intro A ρ st s avs vs v st' Q E hA R rv h K;unfold bG at h;split at h
 ·rename_i hlen
  refine aG (vH h) λzq0 h1 h=>?_;obtain⟨fl,F',bI⟩:=zq0;refine AK hA R rv hlen ho hcd hb Y hg hbu vz hks J hnf O v8 vX hk λenv s1 E' _ henv N1 R1 g1 own=>?_;refine N.u (A.deeper env) env (ks.zip avs) ρ st s1 fl F' bI _ _ (hA.deeper env) (cJ _) N1 R1 h1 λr bA s2 g2 N2 R2 S=>?_;have g:Go No ρ s bA s2:=g2.l9.after g1 own;cases fl with
  |ret x=>cases h;obtain⟨V,rfl,S⟩:=S;exact K V bA s2 g R2 S
  |next=>cases h;cases S;exact K .none bA s2 g R2 rfl
  |brk=>cases h
  |cont=>cases h
 ·cases h
end
noncomputable def iy(C:Cfg)(n:Nat)(t:af->af->dS af)(f:AV->AV->St->Option (AV×St)):Prop:=
 ∀A ρ st s a b J N Q E,bN n A->Rel C ρ st s.heap->RelV ρ a J->RelV ρ b N->Ok (f a b st) (Res C ρ s Q)->wpAny (model C.prog C.w) A (t J N) Q E s
section
variable{C:Cfg}{n:Nat}{t:af->af->dS af}{f g:AV->AV->St->Option (AV×St)}
theorem iy.ok(h:iy C n t f):d8 C n t f:=λA ρ st s a b J N _ _ Q E hA R O S e K=>h A ρ st s a b J N Q E hA R O S (Ok.of e K)
noncomputable def tK(f g:AV->AV->St->Option (AV×St))(a b:AV)(st:St):Option (AV×St):=(f a b st).or (g a b st)
theorem iy.or(h:iy C n t f)(k:iy C n t g):iy C n t (tK f g):=λA ρ st s a b J N Q E hA R O S e=>
 e.or.elim (h A ρ st s a b J N Q E hA R O S) (k A ρ st s a b J N Q E hA R O S)
end
section
variable(C:Cfg)(n:Nat)(sc:bc)
noncomputable def KC(f:af)(g:List AV->St->Option (AV×St)):Prop:=∀{A ρ st s avs vs Q E},bN n A->Rel C ρ st s.heap->bu ρ avs vs->Ok (g avs st) (Res C ρ s Q)->wpAny (model C.prog C.w) A (call f vs) Q E s
end
section
variable{C:Cfg}{n:Nat}{sc:bc}
noncomputable def zM(C:Cfg)(n:Nat)(f:af)(g:List AV->St->Option (AV×St)):Prop:=∀{A ρ st s avs vs}{Q:af->ah->Prop}{E:af->ah->Prop},bN n A->Rel C ρ st s.heap->bu ρ avs vs->Ok (g avs st) (Res C ρ s Q)->codeAny (model C.prog C.w) A (.call f ⟨vs,[]⟩) (λr s'=>match r with|.ok (.ret v)=>Q v s'|.ok _=>False|.error e=>E e s') s
theorem dX.k{f:af}{g}(h:dX C n f g):zM C n f g:=λhA R r o=>o.some λp e K=>h _ _ _ _ _ _ p.1 p.2 _ _ hA R r e K
theorem zM.s{f:af}{g}(h:zM C n f g):dX C n f g:=λ_ _ _ _ _ _ _ _ _ _ hA R r e K=>h hA R r (Ok.of e K)
theorem eP.k{f:af}{g}(h:eP C n f g):KC C n f g:=λhA R r o=>o.some λp e K=>h _ _ _ _ _ _ p.1 p.2 _ _ hA R r e K
theorem KC.s{f:af}{g}(h:KC C n f g):eP C n f g:=λ_ _ _ _ _ _ _ _ _ _ hA R r e K=>h hA R r (Ok.of e K)
end
end Mine
namespace Mine
theorem dx{a b A B N:Nat}(h1:a<=A)(h2:b<=B)(h:A+B<=N):a+b<=N:=aw (fV h1 h2) h
theorem dbl{a b N K:Nat}(h:a<=2*b)(hb:b<N)(k:2*N<=K):a<=K:=aw h (aw (h_ 2 (cq hb)) k)
theorem o_{a n k:Nat}(h:a<=n+1):a -(k+1)<=n:=Bw (aw h (fW (dg 1 k) n))
theorem Dz{a b c:Nat}(h:b<c+1 -a)(J:a<=c):a+b<=c:=fU (gH b a▸Nat.add_lt_of_lt_sub h)
theorem yG{n:Nat}(h:n<4):n=0\/n=1\/n=2\/n=3:=by lia
theorem yv{n:Nat}(h:n<3):n=0\/n=1\/n=2:=by lia
theorem C0{a b K:Nat}(h:¬a<K)(hb:b<=K):b<=a:=aw hb (fC h)
theorem CI{a b K:Nat}(h:a<K)(hb:K<=b):¬b<=a:=nJ (cK h hb)
theorem yz{a:Nat}(h:14<=a):a≠10/\a≠13:=⟨jh (cK (by decide) h),jh h⟩
theorem z8{a b N:Nat}(h:a+(b+1)<=N):a+1+b<=N:=hK a b 1▸h
theorem rL{a b N:Nat}(h:a+(b+1)<=N):a<N:=cK (oS (c8 a b)) h
theorem yJ{a b n m:Nat}(h1:a<=m)(h2:b<=m*n):a+b<=m*n+m:=gH a b▸fV h2 h1
theorem IV{u n:Nat}(h:u+20*(n+1)<9000):u+1+20*n<9000:=by lia
theorem C7{b d c:Nat}(h:b=d+c)(hc:1<=c):1<=b:=h▸aw hc (dg c d)
theorem yX{w b d c:Nat}(hw:w<=2*b+2)(hb:b=d+c)(hd:d<=3)(hc:c<=9):w<=26:=by lia
theorem YD{s t:Nat}(hs:s<=t):t -s<t+1 -s:=by rw[AA hs];exact iJ _
theorem J_{s t:Nat}(hs:s<=t)(q:¬s<t):t -s<1:=by rw[si (fC q)];exact Qg
theorem J9{s t:Nat}(q:s<t)(z:t -s<1):False:=jI _ (cK (PS q) (fU z))
theorem YM{s t k:Nat}(h:t -s=k+1):¬t<=s:=λq=>se k (h.symm.trans (si q))
theorem m1(n:Nat):(0<=(-1:Int)+(n+1)/\(-1:Int)+(n+1)<n+1)/\((-1:Int)+(n+1)).toNat =n:=by lia
theorem YS{c r d l k:Nat}(hc:c+r<l)(h:r=k+1+d):c+1+d<l:=by lia
theorem zL(n k:Nat):((n:Int) -1+-1*k).toNat =n -1 -k:=by lia
theorem Yt(i n:Nat):(-(i:Int)+n).toNat =n -i:=by lia
theorem Yw(n:Nat):(if(n:Int) -1>-1 then(n:Int) -1 - -1 - -1 -1 else 0).toNat =n:=by lia
theorem YF{j:Nat}(q:¬j<3):4 -min j 3=4 -min (j+1) 3:=by rw[ur (fC q),ur (oX (fC q))]
theorem Yv{j l:Nat}(e:l=4 -min j 3):1<=l/\l<=4:=e▸⟨NW (fW (j3 j 3) 1),iU ..⟩
theorem YN{j:Nat}(q:j<3):4 -min j 3 -1=4 -min (j+1) 3:=(congrArg (4 -· -1) (oW (cq q))).trans (congrArg (4 -·) (oW q)).symm
theorem Yn{u n a:Nat}(h1:u+20*n<9000)(h:a<=50):u+1+a<9900:=by lia
theorem k4{N k j:Nat}(h:N<=4*k+8)(J:j<=4):N+j<=4*(k+1)+8:=by lia
@[elab_as_elim] theorem XZ{P:Fin 3->Prop}(h0:P 0)(h1:P 1)(h2:P 2)(q:Fin 3):P q:=by
 obtain⟨v,h⟩:=q;rcases yv h with e|e|e
 ·subst e;exact h0
 ·subst e;exact h1
 ·subst e;exact h2
theorem vu{α:Type}{l:List α}{n:Nat}(h:l.length=n+1):∃a t,l=a::t/\t.length=n:=by
 cases l with
 |nil=>exact absurd h.symm (se n)
 |cons a t=>exact⟨a,t,rfl,uw h⟩
theorem JZ{α:Type}{l:List α}(h:l.length=1):∃a,l=[a]:=(vu h).elim λa q=>q.elim λt r=>⟨a,r.1.trans (congrArg _ (List.eq_nil_of_length_eq_zero r.2))⟩
theorem qY{α:Type}{l:List α}(h:l.length=3):∃a b c,l=[a,b,c]:=(vu h).elim λa q=>q.elim λt r=>(vu r.2).elim λb q=>q.elim λu v=>(JZ v.2).elim λc w=>⟨a,b,c,r.1.trans (congrArg _ (v.1.trans (congrArg _ w)))⟩
theorem JO{α:Type}{l:List α}(h:l.length=4):∃a b c d,l=[a,b,c,d]:=(vu h).elim λa q=>q.elim λt r=>(qY r.2).elim λb q=>q.elim λc q=>q.elim λd w=>⟨a,b,c,d,r.1.trans (congrArg _ w)⟩
theorem Yd{α:Type}{l:List α}(h:l.length=5):∃a b c d e,l=[a,b,c,d,e]:=(vu h).elim λa q=>q.elim λt r=>(JO r.2).elim λb q=>q.elim λc q=>q.elim λd q=>q.elim λe w=>⟨a,b,c,d,e,r.1.trans (congrArg _ w)⟩
@[elab_as_elim] theorem vG{P:Nat->Prop}(h0:P 0)(h1:P 1)(h2:P 2){p:Nat}(h:p<3):P p:=(yv h).elim (λe=>e▸h0) λe=>e.elim (λe=>e▸h1) λe=>e▸h2
@[elab_as_elim] theorem Xd{P:Nat->Prop}(h0:P 0)(h1:P 1)(h2:P 2)(h3:P 3)(J:P 4)(h5:P 5){p:Nat}(h:p<6):P p:=
 if q:p<3 then vG h0 h1 h2 q else by
  have:=vG (P:=λx=>P (x+3)) h3 J h5 (Nat.sub_lt_right_of_lt_add (fC q) h);rwa[qd (fC q)]at this
theorem uL{α:Type}(xs:List α)(x:α):(xs++[x])[xs.length]?=some x:=(jj (a6 xs.length)).trans (by rw[kH];rfl)
theorem Bx{α:Type}(xs:List α)(x:α):(xs++[x])[(xs++[x]).length -1]?=some x:=by
 rw[aP];exact uL xs x
theorem IK{α:Type}(xs:List α)(x y:α):(xs++[x]++[y])[xs.length]?=some x:=by
 rw[dm];exact(jj (a6 xs.length)).trans (by rw[kH];rfl)
theorem Tj{α:Type}(xs:List α)(x y:α):(xs++[x]++[y])[xs.length+1]?=some y:=by
 have:=uL (xs++[x]) y;rwa[aP]at this
theorem M7{α:Type}(xs:List α)(x y:α):(xs++[x]++[y])[(xs++[x]++[y]).length -2]?=some x:=by
 rw[aP,aP];exact IK xs x y
theorem Bv{α:Type}(xs:List α)(x:α):1<=(xs++[x]).length :=by rw[aP];exact dg 1 _
theorem MD{α:Type}(xs:List α)(x y:α):2<=(xs++[x]++[y]).length :=by rw[aP,aP];exact dg 2 _
open PySem PyProof.Rows PySem.W
section
variable{C:Cfg}{n:Nat}{sc:bc}
noncomputable def Dg(a b:AV)(st:St):Option (AV×St):=a.i?.bind λx=>b.i?.map λy=>(.int (x+y),st)
noncomputable def vY(a b:AV)(st:St):Option (AV×St):=a.s?.bind λx=>b.s?.bind λy=>if x.length+y.length<=sizeLine then some (.str (x++y),st)else none
noncomputable def JV(a b:AV)(st:St):Option (AV×St):=a.r?.bind λl=>b.r?.bind λm=>(bF st l).bind λxs=>(bF st m).bind λJ=>if xs.length+J.length<=sizeLine then some (.ref st.length,st++[.list (xs++J)])else none
noncomputable def aX:=tK Dg (tK vY JV)
theorem ro{ρ:aD}{st:St}{s:ah}{xs:List AV}{vs:List af}(R:Rel C ρ st s.heap)(r:bu ρ xs vs):
 Rel C (ρ++[s.heap.objs.size]) (st++[.list xs]) (s.heap.push {cls:=.type "list",data:=.seq vs.toArray})/\RelV (ρ++[s.heap.objs.size]) (.ref st.length) (.ref s.heap.objs.size)/\
  Go No ρ s (ρ++[s.heap.objs.size]) {s with heap:=s.heap.push {cls:=.type "list",data:=.seq vs.toArray}}:=
 ⟨R.push rfl ⟨vs,⟨0,dN _ rfl⟩,r.mono (j4 _ _)⟩,⟨_,by rw[<-R.len];exact uL ..,rfl⟩,Go.alloc (t:=s.toks) (dn _ _) (fQ _)⟩
theorem HL{t:af->af->dS af}(q:∀{A:bg}{s:ah}{x u y v}{Q:af->ah->Prop}{E:af->ah->Prop},Q (.int (x+y) s.toks) {s with toks:=s.toks+1}->wpAny (model C.prog C.w) A (t (.int x u) (.int y v)) Q E s):iy C n t Dg:=
 λA ρ st s a b O S Q E hA R J N h=>J.i h.bind λx t h=>N.i h.map λy u h=>q (h _ ρ _ (.toks _) R ⟨_,rfl⟩)
theorem IC{t:af->af->dS af}(q:∀{A:bg}{s:ah}{x y:ae}{u v}{Q:af->ah->Prop}{E:af->ah->Prop},(∀t' tk,Q (.str (x++y) t') {s with toks:=tk})->x.length+y.length<=sizeLine->wpAny (model C.prog C.w) A (t (.str x u) (.str y v)) Q E s):iy C n t vY:=
 λA ρ st s a b O S Q E hA R J N h=>J.s h.bind λx t h=>N.s h.bind λy u h=>q (λt' tk=>h.ite.2 _ ρ _ (.toks _) R ⟨_,rfl⟩) h.ite.1
theorem Tv:iy C n (binaryOp .Add) JV:=λA ρ st s a b va vb Q E hA R O S h=>O.r h.bind λl U Y h=>S.r h.bind λm lb hb h=>R.l Y h.bind λxs vs _ h1 J h=>R.l hb h.bind λys ws _ h2 N h=>by
 refine bO h1 λn1 h1=>?_;refine bO h2 λn2 h2=>?_;refine concat_meets ⟨_,h1,rfl⟩ ⟨_,h2,rfl⟩ noFill_list_add seq_list_add Y1 Y_ (ZM _ _) (list_addW U lb vs.toArray ws.toArray n1 n2 none none #[] #[] ?_) ⟨h1,h2,?_⟩
 ·rw[dI,dI,J.length,N.length];exact h.ite.1
 ·rw[O7]
  refine dc (ro (C:=C) (s:=s) R (J.append N)) λR' r' g'=>?_;exact h.ite.2 _ _ _ g' R' r'
theorem cR:d8 C n (binaryOp .Add) aX:=((HL add_int).or ((IC λh k=>add_str h k).or Tv)).ok
theorem uH{α:Type}{c:Prop}[Decidable c]{x y:α}(h:(if c then some x else none)=some y):c/\x=y:=
 Ok.ite (P:=(·=y)) (Ok.of h rfl)
noncomputable def nj(f:Int->Int->Option Int)(a b:AV)(st:St):Option (AV×St):=a.i?.bind λx=>b.i?.bind λy=>(f x y).map λz=>(.int z,st)
theorem o8{t:af->af->dS af}{f:Int->Int->Option Int}
 (h:∀(A:bg)(s:ah) x u y v z(Q:af->ah->Prop)(E:af->ah->Prop),f x y=some z->Q (.int z s.toks) {s with toks:=s.toks+1}->wpAny (model C.prog C.w) A (t (.int x u) (.int y v)) Q E s):d8 C n t (nj f):=by
 exact iy.ok λA ρ st s a b S U Q E hA R N O J=>N.i J.bind λx t J=>O.i J.bind λy u J=>J.map.some λz e J=>h A s x t y u z Q E e (J _ ρ _ (.toks _) R ⟨_,rfl⟩)
noncomputable def kl:=nj λx y=>some (x -y)
theorem Cq:d8 C n (binaryOp .Sub) kl:=o8 λA s x u y v z Q E h q=>sub_int (mn h▸q)
theorem T7:d8 C n (inplaceOp .Sub) kl:=o8 λA s x u y v z Q E h q=>isub_int (mn h▸q)
noncomputable def oMod:=nj λx y=>if y=0 then none else some (x.fmod y)
theorem jM:d8 C n (binaryOp .Mod) oMod:=o8 λA s x u y v z Q E h q=>by
 by_cases J:y=0
 ·rw[if_pos J]at h;exact nomatch h
 ·rw[if_neg J]at h;exact mod_int' J (mn h▸q)
noncomputable def oDiv:=nj λx y=>if y=0 then none else if y.natAbs<1073741824 then some (x.fdiv y)else none
theorem lI:d8 C n (binaryOp .FloorDiv) oDiv:=o8 λA s x u y v z Q E h q=>by
 by_cases J:y=0
 ·rw[if_pos J]at h;exact nomatch h
 ·rw[if_neg J]at h
  exact have h:=uH h;floordiv_int J (h.2▸q) (.inl (ZJ h.1))
noncomputable def jb:=nj λx y=>if 0<=y/\(fE x:Int)*y<=2^27 then some (x^y.toNat)else none
theorem u9:d8 C n (binaryOp .Pow) jb:=o8 λA s x u y v z Q E h q=>have h:=uH h;have J:=h.1;pow_int J.1 J.2 (h.2▸q)
noncomputable def nt:=nj λx y=>if 0<=y/\(fE x:Int)+y<=2^27 then some (x*2^y.toNat)else none
theorem HW:d8 C n (inplaceOp .LShift) nt:=o8 λA s x u y v z Q E h q=>have h:=uH h;have J:=h.1;ilshift_int J.1 J.2 (h.2▸q)
noncomputable def oz:=nj λx y=>some (gY x y)
theorem vf:d8 C n (binaryOp .BitAnd) oz:=o8 λA s x u y v z Q E h q=>and_int (mn h▸q)
noncomputable def zB:=nj λx y=>some (AG x y)
theorem UA:d8 C n (inplaceOp .BitOr) zB:=o8 λA s x u y v z Q E h q=>ior_int (mn h▸q)
noncomputable def gO:=tK Dg vY
theorem pf:d8 C n (inplaceOp .Add) gO:=((HL iadd_int).or (IC λh k=>iadd_str h k)).ok
noncomputable def vR(v:AV):Option aB:=AV.casesOn v (some .none) (λb=>some (.bool b)) (λi=>some (.int i)) (λs=>some (.str s)) (λ_=>none) λ_=>none
noncomputable def e_(st:St)(k:Nat):AV->Option aB:=BV vR (λ_ f v=>(vR v).or (v.r?.bind λl=>((bF st l).bind λxs=>(xs.mapM f).map .list).or ((eo st l).bind λxs=>(xs.mapM f).map .tuple))) k
theorem Bz{st:St}{l k:Nat}{xs:List AV}{ds:List aB}(h:st[l]?=some (.list xs))(e:xs.mapM (e_ st k)=some ds):e_ st (k+1) (.ref l)=some (.list ds):=by
 show((bF st l).bind _).or _=_;rw[dC h];show(lD _ (xs.mapM (e_ st k))).or _=_;rw[e];rfl
theorem Em{ρ:aD}{h:aO}{v:AV}{V:af}(r:RelV ρ v V){P:aB->Prop}(e:Ok (vR v) P):∃d,P d/\∃as,ud h V d as:=by
 cases v with
 |none=>cases r;exact⟨_,e,_,.none⟩
 |bool b=>cases r;exact⟨_,e,_,.bool b⟩
 |int i=>exact r.elim λt z=>z▸⟨_,e,_,.int i t⟩
 |str x=>exact r.elim λt z=>z▸⟨_,e,_,.str x t⟩
 |ref=>exact dA e
 |val=>exact dA e
theorem ER{ρ:aD}{h:aO}{f:AV->Option aB}(N:∀{v:AV}{V:af}{P:aB->Prop},RelV ρ v V->Ok (f v) P->∃d,P d/\∃as,ud h V d as){xs:List AV}{vs:List af}(O:bu ρ xs vs):
 ∀{P:List aB->Prop},Ok (xs.mapM f) P->∃ds,P ds/\∃as,ReadsAll h vs ds as:=by
 induction O with
 |nil=>exactλ{P} e=>⟨[],(show Ok (pure []) P from List.mapM_nil (m:=Option)▸e),_,.nil⟩
 |cons a b J=>
  intro P e;rw[sh]at e;refine vn (N a (Ok.bind e)) λd e as R=>?_;refine vn (J (Ok.bind e)) λds e bs S=>?_;exact⟨_,e,_,.cons R S⟩
theorem Wi{ρ:aD}{st:St}{h:aO}(R:Rel C ρ st h)(k:Nat):∀{v:AV}{V:af}{P:aB->Prop},RelV ρ v V->Ok (e_ st k v) P->∃d,P d/\∃as,ud h V d as:=by
 induction k with
 |zero=>exactλr e=>Em r e
 |succ k O=>
  intro v V P r e;refine(Ok.or e).elim (Em r) λe=>r.r e.bind λl U S e=>e.or.elim (λe=>R.l S e.bind λxs vs _ hl J e=>?_) λe=>R.t S e.bind λxs vs _ hl J e=>?_
  ·refine vn (ER O J e.map) λds e as N=>?_
   exact hl.elim λY hl=>⟨_,e,_,.list hl rfl rfl ((G5 (as:=vs)).symm ▸N)⟩
  ·obtain⟨ds,e,as,N⟩:=ER O J e.map
   exact⟨_,e,_,.tuple hl rfl rfl ((G5 (as:=vs)).symm ▸N)⟩
theorem rG{ρ:aD}{st:St}{h:aO}(R:Rel C ρ st h)(k:Nat){v:AV}{V:af}{d:aB}(r:RelV ρ v V)(e:e_ st k v=some d):∃as,ud h V d as:=
 (Wi R k (P:=(d=·)) r (Ok.of e rfl)).elim λ_ z=>z.1▸z.2
noncomputable def Cs(a b:AV)(st:St):Option Bool:=(e_ st 4 a).bind λda=>(e_ st 4 b).bind λdb=>if jE da&&jE db then some (c6 da db)else none
noncomputable def tv(a b:AV)(st:St):Option Bool:=(a.i?.bind λx=>b.i?.map λy=>x==y).or ((a.s?.bind λx=>b.s?.map λy=>x==y).or (Cs a b st))
noncomputable def oEq(a b:AV)(st:St):Option (AV×St):=(tv a b st).map λc=>(.bool c,st)
noncomputable def c5(a b:AV)(st:St):Option (AV×St):=(tv a b st).map λc=>(.bool (!c),st)
theorem bN.HU{A:bg}(r:bN n A):A.units+64<cLine:=by have:=r.units;show A.units+64<9900;exact cK (Nat.add_lt_add_right (bQ (c8 ..) this) 64) (by decide)
theorem HI{A:bg}{ρ:aD}{st:St}{s:ah}{a b:AV}{J N:af}{E:af->ah->Prop}(hA:bN n A)(R:Rel C ρ st s.heap)(O:RelV ρ a J)(S:RelV ρ b N){P:Bool->Prop}
 (h:Ok (tv a b st) P):(∀{Q:af->ah->Prop},(∀c,P c->Q (.bool c) s)->wpAny (model C.prog C.w) A (compareOp .Eq J N) Q E s)/\(∀{Q:af->ah->Prop},(∀c,P c->Q (.bool (!c)) s)->wpAny (model C.prog C.w) A (compareOp .NotEq J N) Q E s):=
 h.or.elim (λh=>O.i h.bind λx t h=>S.i h.map λy u h=>⟨λk=>eq_int (k _ h),λk=>ne_int (k _ h)⟩) λh=>h.or.elim (λh=>O.s h.bind λx t h=>S.s h.map λy u h=>⟨λk=>eq_str (k _ h),λk=>ne_str (k _ h)⟩) λh=>
 h.bind.some λda e1 h=>h.bind.some λdb e2 h=>by
  obtain⟨hs,h⟩:=h.ite;rw[gG]at hs;refine bO (rG R 4 O e1) λas U=>?_;obtain⟨bs,Y⟩:=rG R 4 S e2;exact⟨λk=>eq_dataH U Y hs.1 hs.2 hA.HU (k _ h),λk=>ne_dataH U Y hs.1 hs.2 hA.HU (k _ h)⟩
theorem iq:d8 C n (compareOp .Eq) oEq:=iy.ok λA ρ st s a b O S Q E hA R J N h=>(HI hA R J N h.map).1 λc k=>k _ ρ s .refl R rfl
theorem kT:d8 C n (compareOp .NotEq) c5:=iy.ok λA ρ st s a b O S Q E hA R J N h=>(HI hA R J N h.map).2 λc k=>k _ ρ s .refl R rfl
noncomputable def y4(f:Int->Int->Bool)(a b:AV)(st:St):Option (AV×St):=a.i?.bind λx=>b.i?.map λy=>(.bool (f x y),st)
theorem CH{t:af->af->dS af}{f:Int->Int->Bool}
 (h:∀(A:bg)(s:ah) x u y v(Q:af->ah->Prop)(E:af->ah->Prop),Q (.bool (f x y)) s->wpAny (model C.prog C.w) A (t (.int x u) (.int y v)) Q E s):d8 C n t (y4 f):=by
 exact iy.ok λA ρ st s a b S U Q E hA R N O J=>N.i J.bind λx t J=>O.i J.map λy u J=>h A s x t y u Q E (J _ ρ s .refl R rfl)
noncomputable def oLt:=y4 λx y=>decide (x<y)
noncomputable def l8:=y4 λx y=>decide (y<x)
noncomputable def zt:=y4 λx y=>decide (y<=x)
theorem yP:d8 C n (compareOp .Lt) oLt:=CH λA s x u y v Q E q=>lt_int q
theorem yS:d8 C n (compareOp .Gt) l8:=CH λA s x u y v Q E q=>gt_int q
theorem WR:d8 C n (compareOp .GtE) zt:=CH λA s x u y v Q E q=>ge_int q
noncomputable def sZ(a b:AV)(st:St):Option (AV×St):=a.b?.bind λx=>b.b?.map λy=>(.bool (!(x==y)),st)
theorem PU(x y:Bool):((Bc x==Bc y):Bool)=(x==y):=by cases x<;>cases y<;>decide
theorem RC:d8 C n (compareOp .IsNot) sZ:=iy.ok λA ρ st s a b O S Q E hA R J N h=>J.b h.bind λx h=>N.b h.map λy h=>wpAny_isNot_plain rfl (by rw[PU];exact h _ ρ s .refl R rfl)
noncomputable def Ds(a b:AV)(st:St):Option Bool:=b.r?.bind λl=>(bF st l).bind λxs=>(xs.mapM (e_ st 3)).bind λds=>(e_ st 3 a).bind λd=>if eA ds&&d.canLay0&&decide (dW ds<=50)then some (ds.any λy=>c6 y d)else none
noncomputable def vQ(a b:AV)(st:St):Option Bool:=(a.s?.bind λy=>b.s?.map λx=>!(Zg x y 0 x.length 1).isEmpty).or (Ds a b st)
noncomputable def ma(a b:AV)(st:St):Option (AV×St):=(vQ a b st).map λc=>(.bool c,st)
noncomputable def mC(a b:AV)(st:St):Option (AV×St):=(vQ a b st).map λc=>(.bool (!c),st)
theorem Ee{A:bg}{x y:Nat}(hA:bN n A)(h:decide (x<=50)=true):A.units+1+min x y<cLine:=by
 have:=hA.units;have:=of_decide_eq_true h;have:=uC x y;show _<9900;exact Yn (by assumption) (aw (uC ..) (of_decide_eq_true h))
theorem G6{A:bg}{ρ:aD}{st:St}{h:aO}{a b:AV}{J N:af}(hA:bN n A)(R:Rel C ρ st h)(O:RelV ρ a J)(S:RelV ρ b N){P:Bool->Prop}(q:Ok (Ds a b st) P){G:Prop}
 (k:∀ds d as bs,ud h N (.list ds) as->ud h J d bs->eA ds=true->d.canLay0=true->A.units+1+min (dW ds) d.depth<cLine->P (ds.any λy=>c6 y d)->G):G:=
 q.bind.some λl U q=>q.bind.some λxs ex q=>q.bind.some λds Y q=>q.bind.some λd e2 q=>by
  obtain⟨hs,q⟩:=q.ite;rw[gG,gG]at hs;refine bO (rG R 3 O e2) λbs Rb=>?_;have hb:b=.ref l:=by cases b<;>cases U;rfl
  have hl:e_ st 4 b=some (.list ds):=hb▸Bz (CP ex) Y;refine bO (rG R 4 S hl) λas Ra=>?_;exact k ds d as bs Ra Rb hs.1.1 hs.1.2 (Ee hA hs.2) q
theorem vC:d8 C n (compareOp .In) ma:=iy.ok λA ρ st s a b Y vb Q E hA R J N h=>h.map.or.elim (λh=>J.s h.bind λx t h=>N.s h.map λy u h=>in_str (h _ ρ s .refl R rfl))
 λh=>G6 hA R J N h λds d as bs O S h1 h2 U h=>SeqAt.in_list_reads O S h1 h2 U (h _ ρ s .refl R rfl)
theorem Fh:d8 C n (compareOp .NotIn) mC:=iy.ok λA ρ st s a b Y vb Q E hA R J N h=>h.map.or.elim (λh=>J.s h.bind λx t h=>N.s h.map λy u h=>notIn_str (h _ ρ s .refl R rfl))
 λh=>G6 hA R J N h λds d as bs O S h1 h2 U h=>SeqAt.notIn_list_reads O S h1 h2 U (h _ ρ s .refl R rfl)
end
section
variable{C:Cfg}{n:Nat}{sc:bc}
noncomputable def iw(a:AV)(st:St):Option Bool:=a.b?.or ((a.i?.map λi=>i !=0).or ((a.s?.bind λx=>if x.length<=sizeLine then some (x.length !=0)else none).or (a.r?.bind λl=>(bF st l).bind λxs=>if xs.length<=sizeLine then some (!xs.isEmpty)else none)))
theorem za{n:Nat}(h:n<=sizeLine):(n:Int)<2^63:=by rw[sizeLine_eq]at h;exact wK (lF.mpr h) (by decide)
theorem TM(n:Nat):((n:Int)!=0)=(n !=0):=by cases n<;>rfl
theorem qk:uP C n iw:=zJ.s λ{A ρ st s a S Q E} hA R J h=>h.or.elim (λh=>J.b h λx h=>IF (h s .refl R)) λh=>h.or.elim (λh=>J.i h.map λx t h=>truthy_int (h s .refl R)) λh=>h.or.elim
 (λh=>J.s h.bind λx t h=>P.truthy_str (uh.mpr (za h.ite.1)) (by rw[TM];exact h.ite.2 _ (.toks _) R))
 λh=>J.r h.bind λl U O h=>R.l O h.bind λxs vs _ hl N h=>wpAny_truthy_list (fB hl) (by rw[dI,N.length];exact za h.ite.1) (by
  rw[show(!vs.toArray.isEmpty)=!xs.isEmpty by cases N<;>rfl];exact h.ite.2 _ (.toks _) R)
noncomputable def i9(f:EM):EM:=λF st=>(f F st).bind λp=>p.1.i?.map λi=>(.int (-i),p.2)
theorem qI{e:aJ}{pos:bM}{f:EM}(he:bR C n sc e f):bR C n sc (.UnaryOp .USub e pos) (i9 f):=KE.s λhA N R h=>
 wpAny_UnaryOp (he.k hA N R (h.bind.mono λp h V J t1 g1 O S=>S.i h.map λx t h=>neg_int (h _ J _ (g1.trans (.toks _)) O ⟨_,rfl⟩)))
noncomputable def bC(fa:aj->St->Option (List AV×St)):EM:=λF st=>(fa F st).bind λp=>if p.1.length <=sizeLine then some (.ref p.2.length,p.2++[.list p.1])else none
theorem dk{es:List aJ}{pos:bM}{fa}(O:ip C n sc es fa):bR C n sc (.List es pos) (bC fa):=KE.s λhA N R h=>
 wpAny_List_spliced (O.k hA N R (h.bind.mono λp h Vs S t1 g1 U J=>⟨J.length.symm▸h.ite.1,
  have q:=ro (C:=C) (s:=t1) U J
  h.ite.2 _ _ _ (g1.trans q.2.2) q.1 q.2.1⟩))
structure aac(C:Cfg)(n:Nat)(sc:bc)(τ:Nat)(e:aJ)(f:EM):Prop where
 u:∀A env F ρ st s v st' Q E,bN n A->τ<=s.toks->a8 C sc ρ F env s.heap->Rel C ρ st s.heap->f F st=some (v,st')->
  (∀V aq s',Go No ρ s aq s'->Rel C aq st' s'.heap->RelV aq v V->Q V s')->wpAny (model C.prog C.w) A (eval e env) Q E s
structure uX(C:Cfg)(n:Nat)(sc:bc)(τ:Nat)(es:List aJ)(f:aj->St->Option (List AV×St)):Prop where
 u:∀A env F ρ st s vs st' Q E(pos:bM),bN n A->τ<=s.toks->a8 C sc ρ F env s.heap->Rel C ρ st s.heap->f F st=some (vs,st')->
  (∀Vs aq s',Go No ρ s aq s'->Rel C aq st' s'.heap->bu aq vs Vs->Q Vs s')->wpAny (model C.prog C.w) A (spliced (backTo pos (starEach es env))) Q E s
theorem ip.t{τ:Nat}{es:List aJ}{f}(h:ip C n sc es f):uX C n sc τ es f:=
 ⟨λA env F ρ st s vs st' Q E pos hA _ N R e K=>h.u A env F ρ st s vs st' Q E pos hA N R e K⟩
noncomputable def Yf(C:Cfg)(n:Nat)(sc:bc)(τ:Nat)(es:List aJ)(f:aj->St->Option (List AV×St)):Prop:=∀{A env F ρ st s Q E}{pos:bM},bN n A->τ<=s.toks->a8 C sc ρ F env s.heap->Rel C ρ st s.heap->Ok (f F st) (JR C ρ s Q)->wpAny (model C.prog C.w) A (spliced (backTo pos (starEach es env))) Q E s
theorem uX.k{τ:Nat}{es:List aJ}{f}(h:uX C n sc τ es f):Yf C n sc τ es f:=λhA ht N R o=>o.some λp e K=>h.u _ _ _ _ _ _ p.1 p.2 _ _ _ hA ht N R e K
noncomputable def v3(ks:List Nat)(fa:aj->St->Option (List AV×St)):SM:=λF st=>(fa F st).bind λp=>if p.1.length <=sizeLine then(F.oA ks p.1).map λF'=>(.next,F',p.2)else none
theorem DH{ts:List aJ}{v:aJ}{env env':aS}(h:env.scope=env'.scope):swappedStores ts v env=swappedStores ts v env':=by
 unfold swappedStores Ce jH;rw[h]
theorem DN{τ:Nat}{ts es:List aJ}{j S:Nat}{pt U pos:bM}{ks:List Nat}{fa}(Y:b_ C sc (λ_=>True) ts ks)(ha:uX C n sc τ es fa)
 (hw:swappedStores [.Tuple ts j pt] (.Tuple es S U) {(default:aS)with scope:=sc}=pure none):
 cB C n sc τ (.Assign [.Tuple ts j pt] (.Tuple es S U) pos) (v3 ks fa):=by
 exact KX.s λ{A env F ρ st s Q E} hA J N R h=>by
  refine NB (Tuple_ (ha.k hA J N R (h.bind.mono λp h Vs ρ1 t1 g1 R1 O=>?_))) rfl (by rw[DH (env':={(default:aS)with scope:=sc}) N.scope];exact hw);obtain⟨hs,h⟩:=h.ite;have q:=h.map;refine GS ?_ (O.length.symm▸hs);obtain⟨q1,q2⟩:=DJ Y env;refine Tz (x1:=j) hA.handled (p5 (dN _ rfl)) (by rw[q2,Fm q,<-O.length,dI]) q1 λh' hx=>?_;have kk:∀b o,t1.heap.get? b=some o->h'.get? b=some o:=λb o e=>zS hx b o (dn _ _ b o e);have g:=g1.trans (Go.keeps (t:=t1.toks) kk);exact E9 Y (N.go g) (R1.keeps kk) O (q.mono λF1 h s' g' N' R'=>h _ _ _ (g.own.trans g') N' R' rfl)
noncomputable def aj.C3(F:aj)(ks:List Nat)(vs:List AV):Option aj:=F.oA ks.reverse vs.reverse
theorem bindAll{A:bg}{env:aS}{Q:Unit->ah->Prop}{E:af->ah->Prop}{ks:List Nat}:(∀k∈ks,sc.names.lookup (C.nm k)=some .local \/sc.names.lookup (C.nm k)=some .cell)->∀{F:aj}{ρ:aD}{st:St}{s:ah}{vs:List AV}{Vs:List af},
 a8 C sc ρ F env s.heap->Rel C ρ st s.heap->bu ρ vs Vs->Ok (F.oA ks vs) (λF'=>∀s',Go (dr env) ρ s ρ s'->a8 C sc ρ F' env s'.heap->Rel C ρ st s'.heap->Q () s')->wpAny (model C.prog C.w) A (assignInOrder (ks.map λk=>bindName env (C.nm k)) Vs) Q E s:=by
 induction ks with
 |nil=>
  intro _ F ρ st s vs Vs N R r h;cases r with
  |nil=>exact aU (h s .refl N R)
  |cons=>exact dA h
 |cons k ks J=>
  intro hk F ρ st s vs Vs N R r h;cases r with
  |nil=>exact dA h
  |cons a b=>exact Tw (wpAny_bindName (mS (T:=λ_=>True) trivial N R (hk k cj) a λs1 g1 O S=>J (λk m=>hk k (cw _ m)) O S b (Ok.mono h λF' q s' U=>q s' (g1.trans U))))
theorem bu.reverse{ρ:aD}{xs:List AV}{vs:List af}(h:bu ρ xs vs):bu ρ xs.reverse vs.reverse:=by
 induction h with
 |nil=>exact .nil
 |cons a b J=>rw[A3,A3];exact J.append (.cons a .nil)
noncomputable def pG(ks:List Nat)(fa:aj->St->Option (List AV×St)):SM:=λF st=>(fa F st).bind λp=>if p.1.length <=sizeLine/\p.1.length =ks.length then(F.C3 ks p.1).map λF'=>(.next,F',p.2)else none
theorem zQ{τ:Nat}{ts es:List aJ}{j S:Nat}{pt U pos:bM}{ks:List Nat}{fa}(hk:∀k∈ks,sc.names.lookup (C.nm k)=some .local \/sc.names.lookup (C.nm k)=some .cell)(ha:uX C n sc τ es fa)
 (hw:swappedStores [.Tuple ts j pt] (.Tuple es S U) {(default:aS)with scope:=sc}=pure (some (ks.map C.nm))):
 cB C n sc τ (.Assign [.Tuple ts j pt] (.Tuple es S U) pos) (pG ks fa):=by
 exact KX.s λ{A env F ρ st s Q E} hA J N R h=>by
  rw[arm_exec_Assign];refine ar (qg (ar (ef (a:=false) rfl (ar (Tuple_ (ha.k hA J N R (h.bind.mono λp h Vs ρ1 t1 g1 R1 O=>?_)))))));obtain⟨hs,h⟩:=h.ite;refine GS (ar (ef (a:=some (ks.map C.nm)) (by rw[DH (env':={(default:aS)with scope:=sc}) N.scope];exact hw) (ar (nM (ar ?_))))) (O.length.symm▸hs.1);rw[show(ks.map C.nm).length =Vs.toArray.size by rw[aQ,<-hs.2,<-O.length,dI]];refine wpAny_unpackItems_tuple hA.handled (p5 (dN _ rfl)) λh' hx=>ar ?_;have Y:∀b o,t1.heap.get? b=some o->h'.get? b=some o:=λb o e=>zS hx b o (dn _ _ b o e);have g:=g1.trans (Go.keeps (t:=t1.toks) Y);rw[<-OJ,br];exact bindAll (λk m=>hk k (AM.mp m)) (N.go g) (R1.keeps Y) O.reverse (h.map.mono λF1 h s' g' N' R'=>aU (h _ _ _ (g.own.trans g') N' R' rfl))
end
section
variable{C:Cfg}{n:Nat}{sc:bc}
noncomputable def Got(C:Cfg)(A:bg)(o i:af)(Q:af->ah->Prop)(E:af->ah->Prop)(s:ah):Prop:=
 ∃T id,typeLookup (.type T) "__getitem__"=pure (some (.builtin id))/\s.TypeIs o T/\wpAny (model C.prog C.w) A (getItem o i) Q E s
theorem zR{A:bg}{env:aS}{value slice:aJ}{pos:bM}{Q:af->ah->Prop}{E:af->ah->Prop}{s:ah}(O:∀o i,∃vs,subscripted slice false o i=operate vs (getItem o i))
 (h:wpAny (model C.prog C.w) A (eval value env) (λo s1=>wpAny (model C.prog C.w) A (eval slice env) (λi s2=>Got C A o i Q E s2) E s1) E s):
 wpAny (model C.prog C.w) A (eval (.Subscript value slice pos) env) Q E s:=by
 rw[eval_Subscript];refine ar (e7 h (λo s₁ h₁=>ar (mh (e7 h₁ (λi R J=>ar (qg ?_)) λ_ _ x=>x))) λ_ _ x=>x);refine fH J λT id hl S hg=>?_;refine ar ?_;rw[getitemInPython_of_ne S.not_modules];refine ar (nT S hl ?_);refine bO (O o i) λvs hv=>?_;refine aU ?_;rw[hv];exact ar (wpAny_operating (e7 hg (λr U N=>ar (wpAny_letTemporaryGo (aU N))) λ_ _ x=>x))
noncomputable def fits63(k:Int):Bool:=decide (-(2^63)<=k)&&decide (k<2^63)
noncomputable def Jw(a:AV)(k:Int)(st:St):Option (AV×St):=a.s?.bind λx=>((seqIndex? k x.length).bind (x.cps[·]?)).map λc=>(.str ⟨#[c]⟩,st)
noncomputable def JJ(a:AV)(k:Int)(st:St):Option (AV×St):=a.r?.bind λl=>(bF st l).bind λxs=>(seqIndex? k xs.length).bind λj=>(xs[j]?).map (·,st)
noncomputable def WW(a:AV)(k:Int)(st:St):Option (AV×St):=a.r?.bind λl=>(eo st l).bind λxs=>(seqIndex? k xs.length).bind λj=>(xs[j]?).map (·,st)
noncomputable def kQ(a i:AV)(st:St):Option (AV×St):=i.i?.bind λk=>if fits63 k then(Jw a k st).or ((JJ a k st).or (WW a k st))else none
theorem MW{k:Int}(h:fits63 k=true):-(2^63)<=k/\k<2^63:=by
 unfold fits63 at h;rw[gG]at h;exact⟨of_decide_eq_true h.1,of_decide_eq_true h.2⟩
theorem Kr{A:bg}{l:ak}{items:Array af}{k:Int}{t:Tok}{j:Nat}{x:af}{Q:af->ah->Prop}{E:af->ah->Prop}{s:ah}(hl:s.heap.IsList l items)(hk:-(2^63)<=k/\k<2^63)
 (J:seqIndex? k items.size=some j)(N:items[j]?=some x)(h:Q x s):wpAny (model C.prog C.w) A (getItem (.ref l) (.int k t)) Q E s:=by
 unfold seqIndex? at J;by_cases h0:k<0
 ·rw[if_pos h0]at J
  obtain⟨hb,J⟩:=uH J;rw[gG]at hb;exact wpAny_getItem_list_neg hl h0 (by have:=of_decide_eq_true hb.1;exact Int.le_of_sub_nonneg ((Int.sub_neg k _).symm ▸of_decide_eq_true hb.1)) hk.1 (J▸N) h
 ·rw[if_neg h0]at J
  exact wpAny_getItem_list hl (ib.mp h0) hk.2 ((uH J).2▸N) h
theorem MX{A:bg}{ρ:aD}{st:St}{s:ah}{a i:AV}{va vi:af}{Q:af->ah->Prop}{E:af->ah->Prop}(R:Rel C ρ st s.heap)(N:RelV ρ a va)(ri:RelV ρ i vi)(h:Ok (kQ a i st) (Res C ρ s Q)):
 Got C A va vi Q E s:=ri.i h.bind λk u h=>by
 obtain⟨hf,h⟩:=h.ite;have hk:=MW hf;refine h.or.elim (λh=>N.s h.bind λx t h=>?_) λh=>h.or.elim (λh=>N.r h.bind λl la O h=>R.l O h.bind λxs vs _ hl J h=>h.bind.some λj S h=>h.map.some λx U h=>?_) λh=>N.r h.bind λl la O h=>R.t O h.bind λxs vs _ hl J h=>h.bind.some λj S h=>h.map.some λx U h=>?_
 ·exact h.map.some λc hc h=>⟨"str",_,QZ.lookup,qn _ _ _,P.getItem_str (by rw[Ht];exact⟨decide_eq_false (ib.mpr hk.1),decide_eq_false (uh.mpr hk.2)⟩) hc (h _ _ _ (.toks _) R ⟨_,rfl⟩)⟩
 ·refine aG (J.get U) λX Y rX=>?_
  exact⟨"list",_,Gw.lookup,hl.elim λ_ e=>⟨_,e,rfl⟩,Kr (fB hl) hk (by rw[dI,J.length];exact S) (nV Y) (h _ _ _ .refl R rX)⟩
 ·refine aG (J.get U) λX Y rX=>?_
  exact⟨"tuple",_,Zy.lookup,⟨_,hl,rfl⟩,getItem_tuple (p5 hl) hk.1 hk.2 (by rw[dI,J.length];exact S) (nV Y) (h _ _ _ .refl R rX)⟩
noncomputable def aH(f g:EM):EM:=ay kQ f g
theorem cu{value slice:aJ}{pos:bM}{f g:EM}(hv:bR C n sc value f)(hi:bR C n sc slice g)(J:∀o i,∃vs,subscripted slice false o i=operate vs (getItem o i)):
 bR C n sc (.Subscript value slice pos) (aH f g):=by
 exact KE.s λ{A env F ρ st s Q E} hA N R h=>zR J (hv.k hA N R (h.bind.mono λp h Va O t1 g1 S U=>hi.k hA (N.go g1) S (h.bind.mono λq h Vb bA t2 g2 Y r2=>MX Y (U.mono g2.pre) r2 (h.mono λr k=>k.step (g1.trans g2)))))
structure pM(C:Cfg)(n:Nat)(sc:bc)(e:Option aJ)(f:aj->St->Option (Option Int×St)):Prop where
 u:∀{A env F ρ st s Q E},bN n A->a8 C sc ρ F env s.heap->Rel C ρ st s.heap->Ok (f F st) (λp=>∀V aq s',Go No ρ s aq s'->Rel C aq p.2 s'.heap->xI V p.1->Q V s')->wpAny (model C.prog C.w) A (evalPart e env) Q E s
noncomputable def bb:aj->St->Option (Option Int×St):=λ_ st=>some (none,st)
noncomputable def bY(f:EM):aj->St->Option (Option Int×St):=λF st=>(f F st).bind λp=>p.1.i?.map λi=>(some i,p.2)
theorem dt:pM C n sc none bb:=⟨λhA N R h=>wpAny_evalPart_none (h _ _ _ .refl R .none)⟩
theorem eZ{e:aJ}{f:EM}(he:bR C n sc e f):pM C n sc (some e) (bY f):=⟨λhA N R h=>
 wpAny_evalPart_some (he.k hA N R (h.bind.mono λp h V J t1 g1 O S=>S.i h.map λx t h=>h _ J t1 g1 O (.int _ _)))⟩
noncomputable def pick{α:Type}(xs:List α)(lo hi st:Option Int):List α:=
 (sliceRange (sliceBounds lo hi st xs.length).1 (sliceBounds lo hi st xs.length).2.1 (sliceBounds lo hi st xs.length).2.2).filterMap (xs[·]?)
theorem bu.pick{ρ:aD}{xs:List AV}{vs:List af}(h:bu ρ xs vs)(lo hi st:Option Int):bu ρ (Mine.pick xs lo hi st) (Mine.pick vs lo hi st):=by
 unfold Mine.pick;rw[h.length];generalize sliceRange _ _ _=is;induction is with
 |nil=>exact .nil
 |cons i is J=>
  cases q:xs[i]? with
  |none=>rw[OW q,OW (uO.mpr (h.length.symm▸uO.mp q))];exact J
  |some x=>exact(h.get q).elim λX N=>by rw[NM q,NM N.1];exact .cons N.2 J
noncomputable def XU(a:AV)(lo hi step:Option Int)(st:St):Option (AV×St):=a.s?.bind λx=>if x.length<=sizeLine/\step=none then some (.str (iV x lo hi),st)else none
noncomputable def Yb(a:AV)(lo hi step:Option Int)(st:St):Option (AV×St):=a.r?.bind λl=>(bF st l).bind λxs=>if xs.length<=sizeLine/\step≠some 0 then some (.ref st.length,st++[.list (pick xs lo hi step)])else none
noncomputable def s_(a:AV)(lo hi step:Option Int)(st:St):Option (AV×St):=(XU a lo hi step st).or (Yb a lo hi step st)
noncomputable def cH(f:EM)(lo hi step:aj->St->Option (Option Int×St)):EM:=λF st=>(f F st).bind λp=>(lo F p.2).bind λa=>(hi F a.2).bind λb=>(step F b.2).bind λc=>s_ p.1 a.1 b.1 c.1 c.2
theorem EW{v:af}{i:Option Int}(h:xI v i):∃p:Option (Int×Tok),v=partValue p/\p.map (·.1)=i:=by
 cases h with
 |none=>exact⟨none,rfl,rfl⟩
 |int i t=>exact⟨some (i,t),rfl,rfl⟩
theorem Ef{ρ:aD}{st:St}{s:ah}{V1 V2 V3:af}(R:Rel C ρ st s.heap):(s.heap.push {cls:=.type "slice",data:=.fields #[V1,V2,V3]}).get? s.heap.objs.size=some {cls:=.type "slice",data:=.fields #[V1,V2,V3]}/\
 Go No ρ s ρ {s with heap:=s.heap.push {cls:=.type "slice",data:=.fields #[V1,V2,V3]}}/\Rel C ρ st (s.heap.push {cls:=.type "slice",data:=.fields #[V1,V2,V3]}):=
 have J:=dn s.heap {cls:=.type "slice",data:=.fields #[V1,V2,V3]}
 ⟨dN s.heap rfl,Go.keeps (t:=s.toks) J,R.keeps J⟩
theorem T3{A:bg}{ρ:aD}{st:St}{s:ah}{a:AV}{S V1 V2 V3:af}{i1 i2 N:Option Int}{sl:ak}{Q:af->ah->Prop}{E:af->ah->Prop}(R:Rel C ρ st s.heap)(U:RelV ρ a S)
 (hs:s.heap.get? sl=some {cls:=.type "slice",data:=.fields #[V1,V2,V3]})(p1:xI V1 i1)(p2:xI V2 i2)(Y:xI V3 N)(h:Ok (s_ a i1 i2 N st) (Res C ρ s Q)):Got C A S (.ref sl) Q E s:=by
 refine h.or.elim (λh=>U.s h.bind λx t h=>?_) λh=>U.r h.bind λl la ha h=>R.l ha h.bind λxs vs _ hl rv h=>?_
 ·obtain⟨⟨O,e0⟩,k⟩:=h.ite
  subst e0;refine aG (EW p1) λq1 J w1=>?_;subst J;refine aG (EW p2) λq2 J w2=>?_;subst J;cases Y
  refine⟨"str",_,QZ.lookup,qn _ _ _,wpAny_getItem_str_slice (l:=q1) (u:=q2) (st:=none) ⟨_,hs,rfl,rfl⟩ rfl ?_⟩;have e:sliceMade x t q1 q2 none=if((1:Int)==1&&(ZX i1 i2 1 x.length).length ==x.length)=true then Ri (.str x t)else Hw (iV x i1 i2):=by
   unfold sliceMade iV slicePicked;rw[w1,w2];simp only[Option.map_none,wL];split<;>rfl
  rw[e];split
  ·next hc=>exact(show iV x i1 i2=x from if_pos hc)▸k _ ρ _ .refl R ⟨_,rfl⟩
  ·exact⟨aw (Txt.slice_le x i1 i2) O,k _ ρ _ (.toks _) R ⟨_,rfl⟩⟩
 ·obtain⟨O,h⟩:=h.ite
  refine⟨"list",_,Gw.lookup,hl.elim λ_ e=>⟨_,e,rfl⟩,OY (fB hl) ⟨_,hs,rfl,rfl⟩ p1 p2 Y O.2 ?_ (by rw[dI,rv.length];exact O.1)⟩;rw[show slicePick vs.toArray i1 i2 N=(Mine.pick vs i1 i2 N).toArray by unfold slicePick Mine.pick;simp];refine dc (ro (C:=C) (s:=s) R (rv.pick i1 i2 N)) λR' r' g'=>?_;exact h _ _ _ g' R' r'
theorem gV{value:aJ}{lower upper step:Option aJ}{p pos:bM}{f:EM}{lo hi O}(hv:bR C n sc value f)(h1:pM C n sc lower lo)(h2:pM C n sc upper hi)(h3:pM C n sc step O)
 (J:∀o i,∃vs,subscripted (.Slice lower upper step p) false o i=operate vs (getItem o i)):
 bR C n sc (.Subscript value (.Slice lower upper step p) pos) (cH f lo hi O):=by
 exact KE.s λ{A env F ρ st s Q E} hA N R h=>zR J (hv.k hA N R (h.bind.mono λp h Va U t1 g1 Y r1=>Pf (h1.u hA (N.go g1) Y (h.bind.mono λa h V1 bA t2 g2 R2 p1=>h2.u hA (N.go (g1.trans g2)) R2 (h.bind.mono λb h V2 ρ3 t3 g3 R3 p2=>
  h3.u hA (N.go ((g1.trans g2).trans g3)) R3 (h.bind.mono λc h V3 ρ4 t4 S R4 p3=>have q:=Ef (C:=C) R4;T3 q.2.2 (((r1.mono g2.pre).mono g3.pre).mono S.pre) q.1 p1 p2 p3 (h.mono λr k=>k.step ((((g1.trans g2).trans g3).trans S).trans q.2.1))))))))
end
noncomputable def gM(C:Cfg)(name:ae)(f:af)(rs:AV->St->Option (List AV)):Prop:=
 ∀A ρ st s a J first Q E pl,Rel C ρ st s.heap->RelV ρ a J->rs a st=some first->
  (∀N s',Go No ρ s ρ s'->Rel C ρ st s'.heap->bu ρ first N->Q (f,N) s')->wpAny (model C.prog C.w) A (getMethod J name pl) Q E s
noncomputable def KR(C:Cfg)(name:ae)(f:af)(rs:AV->St->Option (List AV)):Prop:=
 ∀{A ρ st s a J Q E pl},Rel C ρ st s.heap->RelV ρ a J->Ok (rs a st) (λfirst=>∀N s',Go No ρ s ρ s'->Rel C ρ st s'.heap->bu ρ first N->Q (f,N) s')->wpAny (model C.prog C.w) A (getMethod J name pl) Q E s
theorem gM.k{C:Cfg}{name:ae}{f:af}{rs}(h:gM C name f rs):KR C name f rs:=λR r o=>o.some λp e K=>h _ _ _ _ _ _ p _ _ _ R r e K
theorem KR.s{C:Cfg}{name:ae}{f:af}{rs}(h:KR C name f rs):gM C name f rs:=λ_ _ _ _ _ _ _ _ _ _ R r e K=>h R r (Ok.of e K)
section
variable{C:Cfg}{n:Nat}{sc:bc}
noncomputable def bU(rs:AV->St->Option (List AV))(g:List AV->St->Option (AV×St))(J:EM)(fa:aj->St->Option (List AV×St)):EM:=
 λF st=>(J F st).bind λp=>(rs p.1 p.2).bind λfirst=>(fa F p.2).bind λq=>g (first++q.1) q.2
theorem Plain.YV{es:List aJ}(h:Plain es)(hl:es.length<29)(pos:bM)(env:aS):methodCallForm (es.length+([]:List Keyword).length) (backTo pos (starEach es env)) (backToKw pos (keywordEach [] env))=true:=by
 unfold methodCallForm;have h1:(backTo pos (starEach es env)).all (λx=>!x.1)=true:=by
  have:=h.any pos env;rw[List.all_eq_not_any_not];simp only[QV];rw[this];rfl
 have e:keywordEach [] env=[]:=rfl;rw[h1,e];exact decide_eq_true (show es.length<30 from rT hl)
theorem dP{o:aJ}{name:ae}{apos pos:bM}{args:List aJ}{f:af}{rs g S fa}(ho:bR C n sc o S)(hr:gM C name f rs)(U:Plain args)(hk:ik C f)(Y:ip C n sc args fa)(hc:eP C n f g)
 (J:∀env,attributeBase o name env (eval o env)=eval o env)(O:(apos.endLine==pos.line)=true)(hl:args.length<29):
 bR C n sc (.Call (.Attribute o name apos) args [] pos) (bU rs g S fa):=by
 exact KE.s λ{A env F ρ st s Q E} hA N R h=>by
  rw[arm_eval_Call,J];refine ar (ho.k hA N R (h.bind.mono λp h V ρ1 t1 g1 R1 r1=>ar (qg ?_)));unfold methodCall;rw[U.YV hl pos env];refine ar (mh (hr.k R1 r1 (h.bind.mono λfirst h Vf t2 g2 R2 r2=>ar (ef (by unfold methodCallPos;rw[O];rfl) ?_))));exact h.bind.some λq e h=>p0 hA (N.go (g1.trans g2)) R2 U hk Y e λvs ρ3 t3 g3 R3 r3=>hc.k hA R3 ((r2.mono g3.pre).append r3) (h.mono λr k=>k.step ((g1.trans g2).trans g3))
noncomputable def ek(a:AV)(st:St):Option (List AV):=a.r?.bind λl=>(bF st l).map λ_=>[a]
noncomputable def jr(a:AV)(_:St):Option (List AV):=a.s?.map λ_=>[a]
theorem nG{name:ae}{id:String}(slot:qw "list" name id)(J:typeOf (.builtin id)=pure (.type "method_descriptor")):gM C name (.builtin id) ek:=KR.s λR r h=>r.rr h.bind λl O N r h=>R.l N h.map λxs vs _ hl _ h=>hl.elim λ_ hl=>
 Ax (T:="list") ⟨_,hl,rfl⟩ ZA slot J (λa e=>by cases e;exact⟨_,hl,rfl⟩) (h _ _ .refl R (.cons r .nil))
theorem pn{name:ae}{id:String}(slot:qw "str" name id)(J:typeOf (.builtin id)=pure (.type "method_descriptor")):gM C name (.builtin id) jr:=KR.s λR r h=>r.ss h.map λx t r h=>
 Ax (T:="str") (qn _ _ _) Zv slot J nofun (h _ _ .refl R (.cons r .nil))
noncomputable def bAppend(avs:List AV)(st:St):Option (AV×St):=(a2 avs).bind λp=>p.1.r?.bind λl=>(bF st l).bind λxs=>if xs.length<=sizeLine then some (.none,st.set l (.list (xs++[p.2])))else none
theorem rI:eP C n (.builtin "list.append") bAppend:=KC.s λ{A ρ st s avs vs Q E} hA R Y h=>Y.a2 h.bind λa Va b V ra rb h=>ra.r h.bind λl U O h=>R.l O h.bind λxs ws _ hl J h=>by
 obtain⟨hs,h⟩:=h.ite;refine Ry hl (λh' N S=>?_) (by rw[dI,J.length];exact hs);have k:∀b x,b≠U->s.heap.get? b=some x->h'.get? b=some x:=λb x ne e=>(S.2 b ne).trans e;have alive:∃x,h'.get? U=some x:=N.elim λ_ e=>⟨_,e⟩;exact h _ ρ _ (Go.put (t:=s.toks) O k alive) (R.put O k alive ⟨ws++[V],Rd ..▸N,J.append (.cons rb .nil)⟩) rfl
end
section
variable{C:Cfg}{n:Nat}{sc:bc}
noncomputable def intsOf(xs:List AV):Option (List Int):=yg (some []) (λx _ r=>x.i?.bind λi=>r.map (i::·)) xs
theorem FC{ρ:aD}{xs:List AV}{vs:List af}(r:bu ρ xs vs):∀{P:List Int->Prop},Ok (intsOf xs) P->∃ps:List (Int×Tok),vs=ps.map (λp=>.int p.1 p.2)/\P (ps.map (·.1)):=by
 induction r with
 |nil=>exactλh=>⟨[],rfl,h⟩
 |@cons x v xs ws a b J=>exactλ{P} h=>a.i (M:=λV=>∃ps:List (Int×Tok),V::ws=ps.map (λp:Int×Tok=>bV p.1 p.2)/\P (ps.map λp:Int×Tok=>p.1)) (Ok.bind h) λx t h=>(J (Ok.map h)).elim λps e=>⟨(x,t)::ps,congrArg _ e.1,e.2⟩
noncomputable def iv(avs:List AV)(st:St):Option (AV×St):=(a1 avs).bind λa=>(a.s?.bind λx=>if x.length<=sizeLine then some (.int x.length,st)else none).or (a.r?.bind λl=>(bF st l).bind λxs=>if xs.length<=sizeLine then some (.int xs.length,st)else none)
theorem pC:eP C n (.builtin "len") iv:=KC.s λ{A ρ st s avs vs Q E} hA R N h=>N.a1 h.bind λa V r h=>h.or.elim
 (λh=>r.s h.bind λx t h=>P.len_str (uh.mpr (za h.ite.1)) (h.ite.2 _ ρ _ (.toks _) R ⟨_,rfl⟩))
 λh=>r.r h.bind λl S O h=>R.l O h.bind λxs ws _ hl J h=>by
  refine Y6 (fB hl) ?_ ?_<;>rw[dI,J.length]
  ·exact za h.ite.1
  ·exact h.ite.2 _ ρ _ (.toks _) R ⟨_,rfl⟩
noncomputable def fP(avs:List AV)(st:St):Option (AV×St):=(a1 avs).bind λa=>a.r?.bind λl=>(bF st l).bind λxs=>(intsOf xs).map λns=>(.int ns.sum,st)
theorem sQ:eP C n (.builtin "sum") fP:=KC.s λ{A ρ st s avs vs Q E} hA R S h=>S.a1 h.bind λa V r h=>r.r h.bind λl Y U h=>R.l U h.bind λxs ws _ hl N h=>by
 refine aG (FC N h.map) λps O h=>?_;subst O;have J:=fB hl;rw[show(ps.map λp=>bV p.1 p.2).toArray =intItems ps.toArray by unfold intItems;rw[OV]]at J;refine sum_intListG hA.handled J λh' tk t' k=>?_;rw[preSum_eq,show Bl ps.toArray.size (xG (λx=>x.fst) ps.toArray.toList)=ps.map (·.1)from kx (bS (aQ _))];exact h _ ρ _ (.keeps k) (R.keeps k) ⟨_,rfl⟩
noncomputable def vM(avs:List AV)(st:St):Option (AV×St):=(a1 avs).bind λa=>a.s?.bind λx=>if x.length=1 then some (.int (x.cps.getD 0 0:Nat),st)else none
theorem Ta:eP C n (.builtin "ord") vM:=KC.s λ{A ρ st s avs vs Q E} hA R J h=>J.a1 h.bind λa V r h=>r.s h.bind λx t h=>ord_of_one h.ite.1 (h.ite.2 _ ρ _ (.toks _) R ⟨_,rfl⟩)
noncomputable def tC(avs:List AV)(st:St):Option (AV×St):=(a1 avs).bind λa=>a.i?.bind λi=>if(decide (i<0)||decide (i>0x10FFFF))=false then some (.str ⟨#[i.toNat]⟩,st)else none
theorem Cr:eP C n (.builtin "chr") tC:=KC.s λ{A ρ st s avs vs Q E} hA R J h=>J.a1 h.bind λa V r h=>r.i h.bind λx t h=>P.chr_of_int h.ite.1 (h.ite.2 _ ρ _ (.toks _) R ⟨_,rfl⟩)
end
open PySem.SeqAt
section
variable{C:Cfg}{n:Nat}{sc:bc}
noncomputable def qX(avs:List AV)(st:St):Option (AV×St):=(a2 avs).bind λp=>p.1.r?.bind λl=>p.2.i?.bind λi=>(bF st l).bind λxs=>if xs.length<=sizeLine/\AL i=true then(seqIndex? i xs.length).bind λk=>(xs[k]?).map λv=>(v,st.set l (.list (xs.eraseIdx k)))else none
theorem K2{ρ:aD}{xs:List AV}{vs:List af}(h:bu ρ xs vs):∀k,bu ρ (xs.eraseIdx k) (vs.eraseIdx k):=by
 induction h with
 |nil=>exactλ_=>.nil
 |cons a b J=>exactλk=>Nat.casesOn k b λk=>.cons a (J k)
theorem FW{ρ:aD}{st:St}{s:ah}{l:Nat}{J:ak}{xs:List AV}{ws:List af}{m k:Nat}{t:Nat}(R:Rel C ρ st s.heap)(S:ρ[l]?=some J)
 (hl:s.heap.get? J=some {cls:=.type "list",dict:=none,data:=.seq ws.toArray m,slots:=#[]})(O:bu ρ xs ws):
 Rel C ρ (st.set l (.list (xs.eraseIdx k))) (s.heap.update J (hU λxs=>xs.eraseIdxIfInBounds k))/\Go No ρ s ρ {s with heap:=s.heap.update J (hU λxs=>xs.eraseIdxIfInBounds k),toks:=t}:=by
 have U:∀b x,b≠J->s.heap.get? b=some x->(s.heap.update J (hU λxs=>xs.eraseIdxIfInBounds k)).get? b=some x:=λb x ne e=>by
  rw[lA _ _ _ _ ne];exact e
 obtain⟨ep,N⟩:∃ep,(s.heap.update J (hU λxs=>xs.eraseIdxIfInBounds k)).get? J=some {cls:=.type "list",dict:=none,data:=.seq (ws.toArray.eraseIdxIfInBounds k) ep,slots:=#[]}:=
  ⟨_,r8 hl _⟩
 refine⟨R.put S U ⟨_,N⟩ ⟨ws.eraseIdx k,⟨ep,?_⟩,K2 O k⟩,Go.put S U ⟨_,N⟩⟩
 have:(ws.toArray.eraseIdxIfInBounds k)=(ws.eraseIdx k).toArray :=by simp
 rw[this]at N;exact N
theorem I6:eP C n (.builtin "list.pop") qX:=KC.s λ{A ρ st s avs vs Q E} hA R O h=>O.a2 h.bind λa Va b Vb S U h=>S.r h.bind λl Y N h=>U.i h.bind λi u h=>R.l N h.bind λxs ws _ hl J h=>by
 obtain⟨hs,h⟩:=h.ite;refine bO hl λm hl=>?_;refine h.bind.some λk hk h=>h.map.some λx hx h=>?_;refine aG (J.get hx) λX hX rX=>?_;obtain⟨R',g'⟩:=FW (t:=s.toks) (k:=k) R N hl J;exact qf Hh ⟨_,hl,rfl⟩ Zc (ZT _ _)
  (ZY Y ws.toArray m i u k X hs.2 (by rw[dI,J.length];exact hk) (nV hX) (by rw[dI,J.length];exact hs.1)) ⟨hl,h _ ρ _ g' R' rX⟩
noncomputable def bIndex(avs:List AV)(st:St):Option (AV×St):=(a2 avs).bind λp=>p.1.r?.bind λl=>(bF st l).bind λxs=>(xs.mapM (e_ st 3)).bind λds=>(e_ st 3 p.2).bind λd=>if eA ds&&d.canLay0&&decide (dW ds<=50)&&decide (ds.length<=sizeLine)then
 (ds.findIdx? λy=>c6 y d).map λ(j:Nat)=>(AV.int (j:Int),st)else none
theorem readsAll_get{h:aO}{vs:List af}{ds:List aB}{as:List ak}(r:ReadsAll h vs ds as):eA ds=true->vs.length=ds.length/\∀j(J:j<vs.length),∃d,ds[j]?=some d/\readOf h vs[j]=d:=by
 induction vs generalizing ds as with
 |nil=>cases r;exactλ_=>⟨rfl,λ_ J=>absurd J (gk _)⟩
 |cons v vs N=>
  cases r with
  |@cons _ _ d ds _ _ a b=>
   intro h;have h':d.canLay0=true/\eA ds=true:=nK.mp h;obtain⟨e,g⟩:=N b h'.2;refine⟨congrArg (·+1) e,λj J=>?_⟩;cases j with
   |zero=>exact⟨d,rfl,readOf_eq h'.1 a⟩
   |succ j=>exact g j (mZ J)
theorem OX:eP C n (.builtin "list.index") bIndex:=KC.s λ{A ρ st s avs vs Q E} hA R rv h=>rv.a2 h.bind λa Va b Vb ra rb h=>ra.rr h.bind λl la ha ra h=>R.l ha h.bind λxs ws ex hl rw' h=>h.bind.some λds e1 h=>h.bind.some λd e2 h=>by
 obtain⟨hs,h⟩:=h.ite;rw[gG,gG,gG]at hs;refine bO hl λm hl=>?_;refine h.map.some λj hj h=>?_;refine bO (rG R 3 rb e2) λbs Rb=>?_;refine bO (rG R 4 (v:=.ref l) (r:=⟨la,ha,rfl⟩) (Bz ex e1)) λas Ra=>?_;cases Ra with
 |list k1 k2 k3 k4=>
  rw[hl]at k1;cases k1
  cases k3
  obtain⟨J,gg⟩:=readsAll_get k4 hs.1.1.1;have hd:=of_decide_eq_true hs.2;refine aG (List.findIdx?_eq_some_iff_getElem.mp hj) λN O S=>?_;have U:ws.toArray.size=ds.length:=dI.trans J;refine qf PJ ⟨_,hl,rfl⟩ ZV (Y4 _ _)
   (Y2 la ws.toArray m none #[] _ (λy=>c6 (readOf s.heap y) d) j (U▸N) (by rw[sizeLine_eq]at hd;exact ui (m3.mpr (cK N hd)) (by decide)) ?_ λq hq Y=>?_) ⟨hl,items_eqAt (by simpa using k4) Rb hs.1.1.1 hs.1.1.2 (Ee hA hs.1.2),h _ ρ _ (.toks _) R ⟨_,rfl⟩⟩
  ·refine aG (gg j (J▸N)) λd' e' r=>?_
   exact(congrArg (c6 · d) (r.trans (fY.mp e').2.symm)).trans O
  ·refine aG (gg q (dI▸hq)) λd' e' r=>?_
   exact(congrArg (c6 · d) (r.trans (fY.mp e').2.symm)).trans (Bool.eq_false_iff.mpr (S q Y))
end
end Mine
namespace Mine
open PySem PyProof.Rows PySem.W PySem.Builtin.Str
section
variable{C:Cfg}{n:Nat}{sc:bc}
noncomputable def strsOf(xs:List AV):Option (List ae):=yg (some []) (λx _ r=>x.s?.bind λi=>r.map (i::·)) xs
theorem Q9{ρ:aD}{xs:List AV}{vs:List af}(r:bu ρ xs vs):∀{P:List ae->Prop},Ok (strsOf xs) P->∃ps:List (ae×Tok),vs=strValues ps/\P (ps.map (·.1)):=by
 induction r with
 |nil=>exactλh=>⟨[],rfl,h⟩
 |@cons x v xs ws a b J=>exactλ{P} h=>a.s (M:=λV=>∃ps:List (ae×Tok),V::ws=strValues ps/\P (ps.map λp:ae×Tok=>p.1)) (Ok.bind h) λx t h=>(J (Ok.map h)).elim λps e=>⟨(x,t)::ps,congrArg _ e.1,e.2⟩
theorem Lz{ρ:aD}:∀ps:List (ae×Tok),bu ρ ((ps.map (·.1)).map AV.str) (strValues ps):=by
 intro ps;induction ps with
 |nil=>
  exact .nil
 |cons J r N=>
  obtain⟨i,t⟩:=J;exact .cons ⟨t,rfl⟩ (N)
noncomputable def uS(avs:List AV)(st:St):Option (AV×St):=(a2 avs).bind λp=>p.1.s?.bind λx=>p.2.s?.map λy=>(.bool (xm x y),st)
theorem MJ:eP C n (.builtin "str.startswith") uS:=KC.s λ{A ρ st s avs vs Q E} hA R J h=>J.a2 h.bind λa S b U N O h=>N.s h.bind λx t h=>O.s h.map λy u h=>SC.startswith (h _ ρ _ .refl R rfl)
noncomputable def vl(avs:List AV)(st:St):Option (AV×St):=(a2 avs).bind λp=>p.1.s?.bind λx=>p.2.s?.map λy=>(.bool (xx x y),st)
theorem SH:eP C n (.builtin "str.endswith") vl:=KC.s λ{A ρ st s avs vs Q E} hA R J h=>J.a2 h.bind λa S b U N O h=>N.s h.bind λx t h=>O.s h.map λy u h=>SC.endswith (h _ ρ _ .refl R rfl)
noncomputable def tc(x y:ae)(i j:Int):Int:=match occurrences x y (fromIndex x.length i) (min (fromIndex x.length j) x.length) 1 with|k::_=>(k:Int)|[]=>-1
theorem KU(x y:ae)(i j:Int)(t u v z:Tok):Gives (Builtin.«str.find» ⟨[.str x t,.str y u,.int i v,.int j z],[]⟩) (.int (tc x y i j)):=by
 show Gives (match occurrences x y (fromIndex x.length i) (min (fromIndex x.length j) x.length) 1 with|k::_=>retInt k|[]=>(do rule "str.find.not-found";retInt (-1))) _;unfold tc;cases occurrences x y (fromIndex x.length i) (min (fromIndex x.length j) x.length) 1 with
 |nil=>exact .rule (.of_eq rfl)
 |cons k _=>exact .of_eq rfl
noncomputable def yM(avs:List AV)(st:St):Option (AV×St):=(a4 avs).bind λp=>p.1.s?.bind λx=>p.2.1.s?.bind λy=>p.2.2.1.i?.bind λi=>p.2.2.2.i?.map λj=>(.int (tc x y i j),st)
theorem SO:eP C n (.builtin "str.find") yM:=KC.s λ{A ρ st s avs vs Q E} hA R J h=>J.a4 h.bind λa S b U c Y d Vd N O rc rd h=>N.s h.bind λx t h=>O.s h.bind λy u h=>rc.i h.bind λi p h=>rd.i h.map λj q h=>
 Qf Qe (qn _ _ _) Z0 (ZF _ _ _ _) (KU _ _ _ _ t u p q) (h _ ρ _ (.toks _) R ⟨_,rfl⟩)
noncomputable def yn(avs:List AV)(st:St):Option (AV×St):=(a2 avs).bind λp=>p.1.s?.bind λx=>p.2.s?.bind λy=>if(y.length==0)=false/\x.length<=sizeLine/\(partsBetween x (occurrences x y 0 x.length (x.length+1)) y.length).length <=sizeLine then
 some (.ref st.length,st++[.list ((Bf x y).map AV.str)])else none
theorem NU:eP C n (.builtin "str.split") yn:=KC.s λ{A ρ st s avs vs Q E} hA R N h=>N.a2 h.bind λa Va b Vb O S h=>O.s h.bind λx t h=>S.s h.bind λy u h=>by
 obtain⟨⟨J,U,Y⟩,h⟩:=h.ite;have fin:∀(ps:List (ae×Tok))(tk:Nat),ps.map (·.1)=Bf x y->Q (.ref s.heap.objs.size) {s with heap:=s.heap.push {cls:=.type "list",data:=.seq (strValues ps).toArray },toks:=tk}:=by
  intro ps tk e;rw[<-e]at h;obtain⟨R',r',g'⟩:=ro R (Lz (ρ:=ρ) ps);exact h _ _ _ (g'.trans (.toks tk)) R' r'
 cases h1:(decide (x.length<y.length)||decide (strKind x<strKind y))
 ·cases hf:(occurrences x y 0 x.length (x.length+1)).isEmpty
  ·refine qf AQ (qn _ _ _) Gq (G4 _ _) (meets_str_split_sep x y t u h1 J hf U Y) ?_
   show Q _ {s with toks:=_,heap:=s.heap.push {cls:=.type "list",data:=.seq (strsFrom s.toks (partsBetween x (occurrences x y 0 x.length (x.length+1)) y.length)).toArray }};rw[strsFrom_eq];exact fin _ _ ((numbered_texts _ _).trans ((if_neg (ne_true_of_eq_false h1)).trans (if_neg (ne_true_of_eq_false hf))).symm)
  ·exact qf AQ (qn _ _ _) Gq (G4 _ _) (meets_str_split_not_found x y t u h1 J hf)
    (fin [(x,t)] s.toks ((if_neg (ne_true_of_eq_false h1)).trans (if_pos hf)).symm)
 ·exact qf AQ (qn _ _ _) Gq (G4 _ _) (meets_str_split_cannot_occur x y t u h1)
   (fin [(x,t)] s.toks (if_pos h1).symm)
noncomputable def qS(avs:List AV)(st:St):Option (AV×St):=(a2 avs).bind λp=>p.1.s?.bind λx=>p.2.r?.bind λl=>(bF st l).bind λxs=>(strsOf xs).bind λts=>if AZ x ts=true then some (.str (AB x ts),st)else none
theorem ya:eP C n (.builtin "str.join") qS:=KC.s λ{A ρ st s avs vs Q E} hA R N h=>N.a2 h.bind λa Y b Vb O S h=>O.s h.bind λx t h=>S.r h.bind λl la U h=>R.l U h.bind λxs ws _ hl J h=>by
 obtain⟨ps,rfl,h⟩:=Q9 J h.bind;exact SC.join (fB hl) rfl h.ite.1 λt' k=>h.ite.2 _ ρ _ (.toks k) R ⟨_,rfl⟩
noncomputable def oC(f g:EM):SM:=λF st=>(f F st).bind λp=>(g F p.2).bind λq=>p.1.r?.bind λl=>q.1.i?.bind λi=>(bF q.2 l).bind λxs=>if xs.length<=sizeLine/\AL i=true then(seqIndex? i xs.length).map λk=>(.next,F,q.2.set l (.list (xs.eraseIdx k)))else none
theorem ID{o i:aJ}{p pos:bM}{f g:EM}(ho:bR C n sc o f)(hi:bR C n sc i g):cB C n sc 0 (.Delete [.Subscript o i p] pos) (oC f g):=KX.s λ{A env F ρ st s Q E} hA _ N R h=>
 PySem.wpAny_Delete (PySem.wpAny_deleteEach_cons (PySem.wpAny_delete_Subscript (ho.k hA N R (h.bind.mono λp h Va Y t1 g1 R1 r1=>hi.k hA (N.go g1) R1 (h.bind.mono λq h Vb bA t2 g2 O r2=>(r1.mono g2.pre).r h.bind λl la S h=>r2.i h.bind λi u h=>O.l S h.bind λxs ws _ hl J h=>by
  obtain⟨hs,h⟩:=h.ite;refine bO hl λm hl=>?_;refine h.map.some λk hk h=>?_;obtain⟨R',U⟩:=FW (t:=t2.toks) (k:=k) O S hl J;exact P.delItem_list hl hs.2 (k:=k) (by rw[dI,J.length];exact hk) (PySem.wpAny_deleteEach_nil (h .next bA _ (((g1.trans g2).trans U).weak λ_ h=>h.elim) (N.go ((g1.trans g2).trans U)) R' rfl)) (by rw[dI,J.length];exact hs.1))))))
end
section
variable{C:Cfg}{n:Nat}{sc:bc}
theorem Go.back{X:ak->Prop}{ρ aq:aD}{s s':ah}(g:Go X ρ s aq s'){a:ak}(h:s'.heap.get? a=none):s.heap.get? a=none:=by
 cases q:s.heap.get? a with
 |none=>rfl
 |some o=>refine bO (g.alive a o q) λo' e=>?_;rw[h]at e;cases e
noncomputable def nr(a:AV)(st:St):Option It:=(a.s?.map λx=>.str x 0).or ((a.r?.bind λl=>(bF st l).map λ_=>.list l 0).or (a.r?.bind λl=>(eo st l).map λ_=>.tup l 0))
theorem fy{α:Type}{P:α->Prop}:∀x∈([]:List α),P x:=λ_ h=>absurd h a7
theorem dp{α:Type}{P:α->Prop}{a:α}{l:List α}(p:P a)(q:∀x∈l,P x):∀x∈a::l,P x:=bt.mpr ⟨p,q⟩
theorem len0{α:Type}{P:List α->Prop}(h:P []):∀l:List α,l.length=0->P l:=λl e=>Bk.mp e▸h
theorem qV{α:Type}{P:List α->Prop}(h:∀a,P [a]):∀l:List α,l.length=1->P l:=λl e=>by
 cases l with
 |nil=>exact nomatch e
 |cons a l=>exact len0 (P:=λl=>P (a::l)) (h a) l (uw e)
theorem tm{α:Type}{P:List α->Prop}(h:∀a b,P [a,b]):∀l:List α,l.length=2->P l:=λl e=>by
 cases l with
 |nil=>exact nomatch e
 |cons a l=>exact qV (P:=λl=>P (a::l)) (h a) l (uw e)
theorem j6(h:aO)(j:Nat):h.get? (h.objs.size+j)=none:=by
 cases q:h.get? (h.objs.size+j)with
 |none=>rfl
 |some o=>exact absurd (j9 q) (iH.mpr (c8 _ _))
theorem nu.step{ρ J:aD}{s s1:ah}{Q:af->ah->Prop}{p:It×St}(g:Go No ρ s J s1)(h:nu C n ρ s Q p):nu C n J s1 Q p:=
 λI fp aq s' N R hi O hf hs=>h I fp aq s' (g.trans N) R hi O (λa m=>g.back (hf a m)) hs
theorem nu.new{ρ:aD}{st:St}{s:ah}{h':aO}{t I:Nat}{fp:List ak}{it:It}{Q:af->ah->Prop}(R:Rel C ρ st s.heap)(h:nu C n ρ s Q (it,st))(k:∀b o,s.heap.get? b=some o->h'.get? b=some o)
 (hi:fO C n ρ h' fp I it)(hf:∀a∈fp,s.heap.get? a=none)(ho:∀a∈fp,∃o,h'.get? a=some o)(hs:Ct C h' I):Q (.ref I) {s with heap:=h',toks:=t}:=
 h I fp ρ {s with heap:=h',toks:=t} (.keeps k) (R.keeps k) hi (λa m=>⟨R.fh (hf a m),R.iB (hf a m),ho a m⟩) hf hs
theorem Th{A:bg}{ρ:aD}{st:St}{s:ah}{a:AV}{S:af}{Q:af->ah->Prop}{E:af->ah->Prop}(R:Rel C ρ st s.heap)(r:RelV ρ a S)(h:Ok (nr a st) λit=>nu C n ρ s Q (it,st)):
 wpAny (model C.prog C.w) A (pyIter S) Q E s:=by
 have one:∀{it:It}(o:iL),nu C n ρ s Q (it,st)->o.isFreed=false->fO C n ρ (s.heap.push o) [s.heap.objs.size] s.heap.objs.size it->Ct C (s.heap.push o) s.heap.objs.size->Q (.ref s.heap.objs.size) {s with heap:=s.heap.push o}:=λo h hf hi hs=>
  h.new (t:=s.toks) R (dn _ _) hi (dp (j6 s.heap 0) fy) (dp ⟨_,dN _ hf⟩ fy) hs
 refine h.or.elim (λh=>r.s h.map λx t h=>?_) λh=>h.or.elim (λh=>r.r h.bind λl J N h=>R.l N h.map λxs ws _ hl _ h=>?_) λh=>r.r h.bind λl J N h=>R.t N h.map λxs ws _ hl _ h=>?_
 ·cases O:x.cps.all (·<128)
  ·have ht:strIterType x="str_iterator":=by unfold strIterType;rw[O];rfl
   exact wpAny_pyIter_wide O (one _ h rfl ⟨rfl,t,_,dN _ rfl,by rw[ht],rfl⟩ λA s' Q E k q=>wpAny_pyIter_striter_wide (i:=0) (x:=x) (t:=t) ⟨_,k _ _ (dN _ rfl),rfl,rfl⟩ q)
  ·have ht:strIterType x="str_ascii_iterator":=by unfold strIterType;rw[O];rfl
   exact wpAny_pyIter_ascii O (one _ h rfl ⟨rfl,t,_,dN _ rfl,by rw[ht],rfl⟩ λA s' Q E k q=>wpAny_pyIter_striter_ascii (i:=0) (x:=x) (t:=t) ⟨_,k _ _ (dN _ rfl),rfl,rfl⟩ q)
 ·exact NA (fB hl) (one _ h rfl ⟨rfl,J,N,_,dN _ rfl,rfl,rfl⟩ λA s' Q E k q=>As (i:=0) (l:=J) ⟨_,k _ _ (dN _ rfl),rfl,rfl⟩ q)
 ·exact wpAny_pyIter_tuple (p5 hl) (one _ h rfl ⟨rfl,J,N,_,dN _ rfl,rfl,rfl⟩ λA s' Q E k q=>wpAny_pyIter_tupleiter (i:=0) (t:=J) ⟨_,k _ _ (dN _ rfl),rfl,rfl⟩ q)
noncomputable def bL(f:EM):aj->St->Option (It×St):=λF st=>(f F st).bind λp=>(nr p.1 p.2).map (·,p.2)
theorem d5{e:aJ}{f:EM}(he:bR C n sc e f):mK C n sc e (bL f):=⟨λhA N R h=>he.k hA N R (h.bind.mono λp h V J t1 g1 O S=>Th O S (h.map.mono λit k=>k.step g1))⟩
noncomputable def yN(C:Cfg)(n:Nat)(f:af)(g:List AV->St->Option (It×St)):Prop:=
 ∀{A ρ st s avs vs Q E},bN n A->Rel C ρ st s.heap->bu ρ avs vs->Ok (g avs st) (nu C n ρ s Q)->wpAny (model C.prog C.w) A (call f vs) (λx s1=>wpAny (model C.prog C.w) A (pyIter x) Q E s1) E s
noncomputable def bD(g:List AV->St->Option (It×St))(fa:aj->St->Option (List AV×St)):aj->St->Option (It×St):=λF st=>(fa F st).bind λp=>g p.1 p.2
theorem eG{x:ae}{p pos:bM}{args:List aJ}{f:af}{fa g}(hf:∀A env F ρ st s Q E,a8 C sc ρ F env s.heap->Rel C ρ st s.heap->Q f s->wpAny (model C.prog C.w) A (eval (.Name x p) env) Q E s)
 (J:Plain args)(hk:ik C f)(O:ip C n sc args fa)(hc:yN C n f g):mK C n sc (.Call (.Name x p) args [] pos) (bD g fa):=⟨λ{A env F ρ st s Q E} hA N R h=>
 oU (hf A env F ρ st s _ E N R (h.bind.some λp e h=>p0 hA N R J hk O e λvs aq s' S U Y=>hc hA U Y (h.mono λit k=>k.step S)))⟩
noncomputable def fZ(k:Int):Bool:=decide (-(2^62)<=k)&&decide (k<2^62)
theorem wI{k:Int}(h:fZ k=true):-(2^62)<=k/\k<2^62:=by
 unfold fZ at h;rw[gG]at h;exact⟨of_decide_eq_true h.1,of_decide_eq_true h.2⟩
noncomputable def B9(avs:List AV)(st:St):Option (It×St):=(a1 avs).bind λa=>a.i?.bind λk=>if fZ k then some (.range 0 (if 0<k then k else 0) 1,st)else none
noncomputable def x_(avs:List AV)(st:St):Option (It×St):=(a2 avs).bind λp=>p.1.i?.bind λa=>p.2.i?.bind λb=>if(fZ a&&fZ b)=true then some (.range a (if a<b then b -a else 0) 1,st)else none
noncomputable def cS(avs:List AV)(st:St):Option (It×St):=(B9 avs st).or (x_ avs st)
theorem G8{A:bg}{ρ:aD}{st:St}{s:ah}{r:ak}{a b:Int}{t u v:Tok}{Q:af->ah->Prop}{E:af->ah->Prop}(R:Rel C ρ st s.heap)(hr:IsRange s.heap r a b 1 t u v)(O:fZ a=true)(hb:fZ b=true)
 (h:nu C n ρ s Q (.range a (if a<b then b -a else 0) 1,st)):wpAny (model C.prog C.w) A (pyIter (.ref r)) Q E s:=by
 have J:=wI O;have N:=wI hb;refine wpAny_pyIter_range hr (small_one J.1 J.2 N.1 N.2) ?_;rw[Rm];exact h.new (t:=s.toks) R (dn _ _) ⟨rfl,dN _ rfl⟩ (dp (j6 s.heap 0) fy) (dp ⟨_,dN _ rfl⟩ fy) λA s' Q E k q=>wpAny_pyIter_rangeiter (k _ _ (dN _ rfl)) q
theorem jW:yN C n (.type "range") cS:=λ{A ρ st s avs vs Q E} hA R J h=>h.or.elim
 (λh=>J.a1 h.bind λa V r h=>r.i h.bind λx t h=>call_range_1 (G8 (n:=n) (s:={s with heap:=_,toks:=_}) (R.keeps (dn _ _)) (Fe _ _ _ _ _ _ _) (by decide) h.ite.1 (by rw[Int.sub_zero];exact h.ite.2.step (.keeps (dn _ _)))))
 λh=>J.a2 h.bind λa V b W N O h=>N.i h.bind λx t h=>O.i h.bind λy u h=>
 have hk:=nK.mp h.ite.1
 Nw (G8 (n:=n) (s:={s with heap:=_,toks:=_}) (R.keeps (dn _ _)) (Fe _ _ _ _ _ _ _) hk.1 hk.2 (h.ite.2.step (.keeps (dn _ _))))
noncomputable def lV(avs:List AV)(st:St):Option (It×St):=(a1 avs).bind λa=>a.r?.bind λl=>(bF st l).map λ_=>(.enum l 0,st)
theorem wZ:yN C n (.type "enumerate") lV:=λ{A ρ st s avs vs Q E} hA R S h=>S.a1 h.bind λa V r h=>r.r h.bind λl U N h=>R.l N h.map λxs ws _ hl _ h=>
 call_enumerate_list (fB hl) λh' J O Y k=>Pt J (h.new (t:=s.toks) (fp:=[s.heap.objs.size+1,s.heap.objs.size]) R k ⟨U,s.heap.objs.size,.none,rfl,Nat.succ_ne_self _,N,J,O⟩
  (dp (j6 _ 1) (dp (j6 _ 0) fy)) (dp ⟨_,J⟩ (dp (O.elim λo q=>⟨o,q.1⟩) fy)) λA s' Q E k q=>Pt (k _ _ J) q)
theorem m8{n i j:Nat}(h:i≠j):n+i≠n+j:=λe=>h (Oq e)
theorem Mu{n a b:Nat}(J:a<n)(hb:b<n):ZipApart (n+4) (n+2) (n+3) (n+0) (n+1) a b:=
 have u:∀{x:Nat}(i:Nat),x<n->x≠n+i:=λi h e=>absurd (cK h (c8 n i)) (e▸jI _)
 ⟨m8 nofun,m8 nofun,m8 nofun,m8 nofun,m8 nofun,m8 nofun,m8 nofun,m8 nofun,m8 nofun,m8 nofun,u 4 J,u 3 J,u 0 J,u 1 J,u 4 hb,u 3 hb,u 0 hb,u 1 hb⟩
theorem Ho{h:aO}{a:ak}{xs:Array af}(p:h.PlainList a xs):a<h.objs.size:=p.elim λ_ e=>j9 e
noncomputable def fM(avs:List AV)(st:St):Option (It×St):=(a2 avs).bind λp=>p.1.r?.bind λl=>p.2.r?.bind λm=>(bF st l).bind λ_=>(bF st m).map λ_=>(.zip l m 0,st)
theorem pg:yN C n (.type "zip") fM:=λ{A ρ st s avs vs Q E} hA R U h=>U.a2 h.bind λa V b W Y r2 h=>Y.r h.bind λl la S h=>r2.r h.bind λm mb hb h=>R.l S h.bind λxs ws _ hl _ h=>R.l hb h.map λys us _ hm _ h=>
 call_zip_2 (fB hl) (fB hm) λh' O J N h1 h2 _ k=>O8 O (h.new (t:=s.toks) (fp:=[s.heap.objs.size+4,s.heap.objs.size+2,s.heap.objs.size+3,s.heap.objs.size,s.heap.objs.size+1]) R k ⟨la,mb,_,_,_,_,_,_,rfl,S,hb,Mu (Ho hl) (Ho hm),O,J,N,h1,h2⟩
  (dp (j6 _ 4) (dp (j6 _ 2) (dp (j6 _ 3) (dp (j6 _ 0) (dp (j6 _ 1) fy))))) (dp ⟨_,O⟩ (dp ⟨_,J⟩ (dp ⟨_,N⟩ (dp (h1.elim λo q=>⟨o,q.1⟩) (dp (h2.elim λo q=>⟨o,q.1⟩) fy))))) λA s' Q E k q=>O8 (k _ _ O) q)
end
section
variable{C:Cfg}{n:Nat}{sc:bc}
structure pH(C:Cfg)(c:ak):Prop where
 Dn:findIn C.K (.ref c) "__getattribute__"=some (some (.builtin "object.__getattribute__"))
 zO:findIn C.K (.ref c) "__getattr__"=some none
 hd:hasDictIn C.K c=true
 hs:findIn C.K (.ref c) "__setattr__"=some (some (.builtin "object.__setattr__"))
 po:plainOver C.K c=true
theorem FO(j k:Nat)(t:Tok):Hs (.str (C.nm j) t) (C.nm k)=decide (k=j):=by
 show(C.nm j==C.nm k)=_;by_cases q:k=j
 ·rw[q,decide_eq_true rfl,beq_self_eq_true]
 ·rw[beq_eq_false_iff_ne.mpr λe=>q (C.inj _ _ e).symm,decide_eq_false q]
theorem En{ρ:aD}{k:Nat}{m:List (Nat×AV)}{es:List lH}(d:gc C ρ m es):
 (m.lookup k=none->es.find? (·.key.isStr (C.nm k))=none)/\(∀v,m.lookup k=some v->∃en,es.find? (·.key.isStr (C.nm k))=some en/\RelV ρ v en.val):=by
 induction d with
 |nil=>exact⟨λ_=>rfl,λ_ h=>absurd h (OU _).symm⟩
 |@cons j v0 m gx t V es r d J=>
  rw[eN,List.find?_cons];show(_->(match Hs (.str (C.nm j) t) (C.nm k)with|true=>some _|false=>_)=none)/\∀v,_->∃en,(match Hs (.str (C.nm j) t) (C.nm k)with|true=>some _|false=>_)=some en/\_;rw[FO,show(k==j)=decide (k=j)from rfl];cases decide (k=j)with
  |true=>exact⟨λh=>absurd h (OU _),λv h=>⟨_,rfl,mn h▸r⟩⟩
  |false=>exact J
theorem D4{ρ:aD}{m:List (Nat×AV)}{es:List lH}(d:gc C ρ m es):es.any (·.refKey)=false:=by
 induction d with
 |nil=>rfl
 |cons r d J=>exact J
theorem gc.length{ρ:aD}{m:List (Nat×AV)}{es:List lH}(d:gc C ρ m es):es.length=m.length:=by
 induction d with
 |nil=>rfl
 |cons r d J=>exact congrArg (·+1) J
noncomputable abbrev mq(es:List lH)(n:Nat):iL:={cls:=.type "dict",data:=.dict es.toArray n}
theorem K1{ρ:aD}{k j:Nat}{m:List (Nat×AV)}{es:List lH}{v:AV}(d:gc C ρ m es)(h:m.lookup k=some v):∃V,lookIn (C.nm k) (mq es j)=some (some V)/\RelV ρ v V:=by
 refine aG ((En d).2 v h) λen e r=>?_;refine⟨en.val,?_,r⟩;show(match es.find? (·.key.isStr (C.nm k))with|some e=>some (some e.val)|none=>_)=_;rw[e]
theorem D5{ρ:aD}{k j:Nat}{m:List (Nat×AV)}{es:List lH}(d:gc C ρ m es)(h:m.lookup k=none):lookIn (C.nm k) (mq es j)=some none:=by
 show(match es.find? (·.key.isStr (C.nm k))with|some e=>_|none=>if es.any (·.refKey)then none else some none)=_;rw[(En d).1 h,D4 d];rfl
theorem Rel.inst{ρ:aD}{st:St}{h:aO}(R:Rel C ρ st h){l d:Nat}{c:ak}{m:List (Nat×AV)}{a:ak}(e:st[l]?=some (.inst c d))(N:st[d]?=some (.dict m))(O:ρ[l]?=some a):
 ∃da es j,ρ[d]?=some da/\h.get? da=some (mq es j)/\gc C ρ m es/\InstAt h a (instObj c da) c (some (mq es j)):=by
 refine aG (R.at e O) λda hd ho=>?_;obtain⟨es,j,J,D⟩:=R.at N hd;exact⟨da,es,j,hd,J,D,ho,rfl,rfl,J⟩
theorem Rel.eX{ρ:aD}{st:St}{h:aO}(R:Rel C ρ st h):C.K.In h:=λa o e=>R.keep _ _ (C.eX a o e)
noncomputable def AO.JH(o:AO):Option (ak×Nat):=AO.casesOn o aL (λ_=>aL) (λ_=>aL) (λ_=>aL) (λc d=>jG (c,d)) (λ_=>aL) (λ_=>aL) (λ_ _=>aL) (λ_ _=>aL) (λ_ _=>aL) (λ_=>aL) λ_=>aL
noncomputable def AO.Jn(o:AO):Option (List (Nat×AV)):=AO.casesOn o aL (λ_=>aL) (λ_=>aL) jG (λ_ _=>aL) (λ_=>aL) (λ_=>aL) (λ_ _=>aL) (λ_ _=>aL) (λ_ _=>aL) (λ_=>aL) λ_=>aL
theorem S3{o:AO}{p:ak×Nat}(h:o.JH=some p):o=.inst p.1 p.2:=by cases o<;>cases h;rfl
theorem SQ{o:AO}{m:List (Nat×AV)}(h:o.Jn=some m):o=.dict m:=by cases o<;>cases h;rfl
noncomputable def yL(a:AV)(st:St):Option (ak×Nat×List (Nat×AV)):=a.r?.bind λl=>(st[l]?).bind λo=>o.JH.bind λp=>(st[p.2]?).bind λq=>q.Jn.map λm=>(p.1,p.2,m)
theorem E2{st:St}{l d:Nat}{c:ak}{m:List (Nat×AV)}(h:st[l]?=some (.inst c d))(k:st[d]?=some (.dict m)):yL (.ref l) st=some (c,d,m):=by
 show(st[l]?).bind _=_;rw[h];show(st[d]?).bind _=_;rw[k];rfl
@[elab_as_elim] theorem Rel.yQ{ρ:aD}{st:St}{h:aO}{a:AV}{V:af}(r:RelV ρ a V)(R:Rel C ρ st h){P:ak×Nat×List (Nat×AV)->Prop}(q:Ok (yL a st) P){M:af->Prop}
 (k:∀J c d m da es j,RelV ρ a (.ref J)->ρ[d]?=some da->h.get? da=some (mq es j)->gc C ρ m es->InstAt h J (instObj c da) c (some (mq es j))->P (c,d,m)->M (.ref J)):M V:=
 r.rr q.bind λl J N r q=>q.bind.some λo e q=>q.bind.some λp O q=>q.bind.some λY S q=>q.map.some λm U q=>
  (R.inst (l:=l) (c:=p.1) (d:=p.2) (e.trans (congrArg some (S3 O))) (S.trans (congrArg some (SQ U))) N).elim λda h=>h.elim λes h=>h.elim λj h=>k J p.1 p.2 m da es j r h.1 h.2.1 h.2.2.1 h.2.2.2 q
noncomputable def jk(a:AV)(k:Nat)(st:St):Option (ak×Option AV):=(yL a st).map λp=>(p.1,p.2.2.lookup k)
theorem uR{st:St}{l d k:Nat}{c:ak}{m:List (Nat×AV)}(h:st[l]?=some (.inst c d))(q:st[d]?=some (.dict m)):jk (.ref l) k st=some (c,m.lookup k):=by
 unfold jk;rw[E2 h q];rfl
noncomputable def handed(a:AV):Bool:=AV.casesOn a true (λ_=>true) (λ_=>true) (λ_=>true) (λ_=>true) handedIn
theorem MP{ρ:aD}{a:AV}{V:af}(r:RelV ρ a V)(h:handed a=true):handedIn V=true:=by
 cases a with
 |none=>cases r;rfl
 |bool=>cases r;rfl
 |int=>exact r.elim λ_ e=>e▸rfl
 |str=>exact r.elim λ_ e=>e▸rfl
 |ref=>exact r.elim λ_ e=>e.2▸rfl
 |val=>cases r;exact h
noncomputable def jq(c:ak)(k:Nat)(f:EM):EM:=λF st=>(f F st).bind λp=>(jk p.1 k p.2).bind λq=>q.2.bind λv=>if q.1=c/\handed v=true then some (v,p.2)else none
theorem Fp{A:bg}{ρ:aD}{st:St}{s:ah}{c:ak}{k:Nat}{a:AV}{J:af}{Q:af->ah->Prop}{E:af->ah->Prop}(H:pH C c)(hf:findIn C.K (.ref c) (C.nm k)=some none)
 (R:Rel C ρ st s.heap)(O:RelV ρ a J){P:AV->Prop}(h:Ok (jk a k st) λq=>Ok q.2 λv=>(q.1=c/\handed v=true)/\P v)(K:∀v V s',Go No ρ s ρ s'->Rel C ρ st s'.heap->RelV ρ v V->P v->Q V s'):
 wpAny (model C.prog C.w) A (getAttr J (C.nm k) true) Q E s:=Rel.yQ O R h.map λxa c' d m da es j _ hd S D I h=>h.some λv hv h=>by
 obtain⟨⟨e,U⟩,p⟩:=h;subst e;obtain⟨V,Y,N⟩:=K1 (j:=j) D hv;exact get_value R.eX I H.Dn (findObj_own H.hd hf rfl Y) (MP N U) (K v V _ (.toks _) R N p)
theorem qb{x:ae}{np pos:bM}{c:ak}{name:ae}{f:EM}(k:Nat)(hk:C.nm k=name)(H:pH C c)(hf:findIn C.K (.ref c) (C.nm k)=some none)(he:bR C n sc (.Name x np) f):
 bR C n sc (.Attribute (.Name x np) name pos) (jq c k f):=KE.s λhA N R h=>by
 subst hk;exact Pp (he.k hA N R (h.bind.mono λp h Va J t1 g1 O S=>Fp H hf O S (h.bind.mono λq h=>h.bind.mono λv h=>h.ite) λv V s' U Y r' h=>h _ J s' (g1.trans U) Y r'))
noncomputable def sO(c f:ak)(k:Nat)(fe:EM):EM:=λF st=>(fe F st).bind λp=>(jk p.1 k p.2).bind λq=>if q.1=c/\q.2.isNone =true then some (.ref p.2.length,p.2++[.bound (.ref f) p.1])else none
theorem MY{x:ae}{np pos:bM}{c fa:ak}{name:ae}{f:EM}(k:Nat)(hk:C.nm k=name)(H:pH C c)(hf:findIn C.K (.ref c) (C.nm k)=some (some (.ref fa)))(O:isFn C.K (.ref fa)=true)
 (S:specialIn C.K (.ref fa) "__get__"=some (some (.builtin "function.__get__")))(ht:takesIn C.K (.ref fa)=some false)(hc:copiedNames.contains (C.nm k)=false)(he:bR C n sc (.Name x np) f):
 bR C n sc (.Attribute (.Name x np) name pos) (sO c fa k f):=KE.s λhA N R h=>by
 subst hk;refine Pp (he.k hA N R (h.bind.mono λp h Va U t1 g1 J Y=>Rel.yQ Y J h.bind.map λxa c' d m da es j r hd hdd D I h=>?_));obtain⟨⟨e,hh⟩,w⟩:=h.ite;subst e;refine get_bind J.eX I H.Dn (findObj_fn H.hd hf S ht hc (D5 D (Ox.mp hh))) H.zO (rQ (fn_get (s:={t1 with toks:=t1.toks+1}) J.eX (beq_iff_eq.mp O) ?_));show wpAny _ _ (handedOut _) _ _ _;rw[handedOut_of rfl];exact aU (w (.ref t1.heap.objs.size) (U++[t1.heap.objs.size]) _ (g1.trans (Go.alloc (t:=t1.toks+1) (dn _ _) (fQ _))) (J.push rfl ⟨.ref xa,dN _ rfl,r.mono (j4 _ _)⟩) (m7 J))
noncomputable def f_(c:ak)(k:Nat)(a:AV)(st:St):Option (List AV):=(jk a k st).bind λq=>if q.1=c/\q.2.isNone =true then some [a]else none
theorem mU{c fa:ak}{name:ae}(k:Nat)(hk:C.nm k=name)(H:pH C c)(hf:findIn C.K (.ref c) (C.nm k)=some (some (.ref fa)))(J:typeIn C.K (.ref fa)=some (.type "function")):gM C name (.ref fa) (f_ c k):=KR.s λR r h=>by
 subst hk;refine Rel.yQ r R h.bind.map λN c' d m da es j r hd O D I h=>?_;obtain⟨⟨e,S⟩,w⟩:=h.ite;subst e;exact method_fn R.eX I H.Dn H.zO hf J (by(show lD _ (lookIn (C.nm k) (mq es j))=_;rw[D5 (j:=j) D (Ox.mp S)];rfl)) (w [.ref N] _ .refl R (.cons r .nil))
theorem K7{ρ:aD}{k:Nat}{v:AV}{V:af}{gx:Int}{t:Tok}{f:Option lH->lH}(f1:∀e,f (some e)={e with val:=V})(f2:f none=⟨gx,.str (C.nm k) t,V⟩)(r:RelV ρ v V){m:List (Nat×AV)}{es:List lH}(d:gc C ρ m es):
 gc C ρ (aj.put m k v) (nsPutIn (C.nm k).cps.size (C.nm k).cps.toList f es).1:=by
 induction d with
 |nil=>unfold nsPutIn;rw[f2];exact .cons r .nil
 |@cons j v0 m h0 t0 O es J d N=>
  unfold aj.put nsPutIn;rw[Value.isStrByCps_eq,FO];by_cases q:k=j
  ·subst q
   rw[if_pos rfl,decide_eq_true rfl,if_pos rfl,f1];exact .cons r d
  ·rw[if_neg q,decide_eq_false q,if_neg d9]
   exact .cons J N
theorem Ua(m:aj)(k:Nat)(v:AV):(aj.put m k v).length <=m.length+1:=by
 induction m with
 |nil=>exact a6 _
 |cons p r J=>
  unfold aj.put;split
  ·simp
  ·simp;exact J
noncomputable def setOf(c:ak)(a:AV)(k:Nat)(v:AV)(st:St):Option St:=(yL a st).bind λp=>if p.1=c/\p.2.2.length <=1000 then some (st.set p.2.1 (.dict (aj.put p.2.2 k v)))else none
theorem IM{st:St}{l d k:Nat}{c:ak}{m:List (Nat×AV)}{v:AV}(h:st[l]?=some (.inst c d))(q:st[d]?=some (.dict m))(hm:m.length<=1000):setOf c (.ref l) k v st=some (st.set d (.dict (aj.put m k v))):=by
 unfold setOf;rw[E2 h q];exact if_pos ⟨rfl,hm⟩
theorem Gj{A:bg}{ρ:aD}{st:St}{s:ah}{c:ak}{k:Nat}{a v:AV}{va V:af}{Q:Unit->ah->Prop}{E:af->ah->Prop}(H:pH C c)(ht:takerIn C.K c (C.nm k)=some none)
 (R:Rel C ρ st s.heap)(ra:RelV ρ a va)(rv:RelV ρ v V){P:St->Prop}(h:Ok (setOf c a k v st) P)(K:∀st' s',Go No ρ s ρ s'->Rel C ρ st' s'.heap->P st'->Q () s'):
 wpAny (model C.prog C.w) A (setAttr va (C.nm k) V) Q E s:=Rel.yQ ra R h.bind λxa c' d m da es j _ hd O D I h=>by
 obtain⟨⟨e,hm⟩,w⟩:=h.ite;subst e;refine set_plain R.eX I H.hs ?_;refine osa_open (s:={s with toks:=s.toks+1}) R.eX I H.po ht λb=>?_;have X:C.K.In ({s with toks:=s.toks+1}:ah).heap :=R.eX;refine aG (any_some (show(clsIn C.K c').any (·.hasDict)=true from H.hd)) λcd Y hd'=>?_;obtain⟨hx,_,_,_⟩:=I;refine ar (aU (ar (ar (rN hx (ar ((looks_clsIn X Y).here ?_))))));rw[hd'];refine aU (a:=some da) (ar (aU (ar ?_)));unfold nsSet;refine ar (ar (FI (aU (ar (BE (ar (rN O ?_)))))));dsimp only;have cond:(!es.toArray.any (·.key.isStr (C.nm k))&&es.toArray.any (·.refKey))=false:=by
  rw[<-Qc,<-Qc]
  have:es.toArray.toList=es:=by simp
  rw[this,D4 D,Gi]
 rw[Qr,cond];obtain⟨J,S,N,P⟩:∃J S,ug (C.nm k) (GZ C.w.params (C.nm k)) (.str (C.nm k) (s.toks+1)) V (mq es j)=mq J S/\gc C ρ (aj.put m k v) J:=by
  unfold ug mq;simp only[G5];generalize hq:nsPutIn _ _ _ es=p;have P:gc C ρ (aj.put m k v) p.1:=by
   rw[<-hq];exact K7 (λ_=>rfl) rfl rv D
  obtain⟨J,b'⟩:=p;cases b' with
  |true=>exact⟨_,_,rfl,P⟩
  |false=>exact⟨_,_,rfl,P⟩
 have Pl:=P.length;have hpl:=Ua m k v;have U:(s.heap.update da (ug (C.nm k) (GZ C.w.params (C.nm k)) (.str (C.nm k) (s.toks+1)) V)).get? da=some (mq J S):=by
  rw[qo _ O (by rw[N];rfl),N]
 refine QE O ?_;refine ar (Qo U (ON (by rw[dI,sizeLine_eq];exact aw (bS Pl) (aw hpl (aw (fj hm) (by decide))))) ?_);have kk:∀b x,b≠da->s.heap.get? b=some x->(s.heap.update da (ug (C.nm k) (GZ C.w.params (C.nm k)) (.str (C.nm k) (s.toks+1)) V)).get? b=some x:=λb x ne e=>by
  rw[lA _ _ _ _ ne];exact e
 exact aU (K (st.set d (.dict (aj.put m k v))) _ (Go.put hd kk ⟨_,U⟩) (R.put hd kk ⟨_,U⟩ ⟨J,S,U,P⟩) w)
end
section
variable{C:Cfg}{n:Nat}{sc:bc}{τ:Nat}
noncomputable def kP(c:ak)(k:Nat)(J f:EM):SM:=λF st=>(f F st).bind λp=>(J F p.2).bind λq=>(setOf c q.1 k p.1 q.2).map λst'=>(.next,F,st')
theorem wm{o:aJ}{name:ae}{p' pos:bM}{e:aJ}{c:ak}{J f:EM}(k:Nat)(hk:C.nm k=name)(H:pH C c)(ht:takerIn C.K c (C.nm k)=some none)(ho:bR C n sc o J)(he:bR C n sc e f)
 (hs:swapsWith e (some (.Attribute o name p')) pos.line {(default:aS)with scope:=sc}=pure false):
 cB C n sc τ (.Assign [.Attribute o name p'] e pos) (kP c k J f):=by
 exact KX.s λ{A env F ρ st s Q E} hA S N R h=>by
  subst hk;exact Ol (he.k hA N R (h.bind.mono λp h V U t1 g1 Y r1=>ho.k hA (N.go g1) Y (h.bind.mono λq h Va bA t2 g2 R2 r2=>Gj H ht R2 r2 (r1.mono g2.pre) h.map λst' s' O R' h=>h _ bA s' ((g1.trans g2).trans O).own (N.go ((g1.trans g2).trans O)) R' rfl)))
   (by rw[mR (env':={(default:aS)with scope:=sc}) N.scope];exact hs)
noncomputable def xv(c:ak)(k:Nat)(op:AV->AV->St->Option (AV×St))(J f:EM):SM:=λF st=>(J F st).bind λp=>(jk p.1 k p.2).bind λq=>q.2.bind λx=>if q.1=c/\handed x=true then(f F p.2).bind λq=>(op x q.1 q.2).bind λr=>(setOf c p.1 k r.1 r.2).map λst'=>(.next,F,st')else none
theorem KZ{o:aJ}{name:ae}{p' pos:bM}{op:HM}{e:aJ}{c:ak}{S f:EM}{U}(k:Nat)(hk:C.nm k=name)(H:pH C c)(hf:findIn C.K (.ref c) (C.nm k)=some none)(ht:takerIn C.K c (C.nm k)=some none)
 (ho:bR C n sc o S)(he:bR C n sc e f)(J:d8 C n (inplaceOp op) U):
 cB C n sc τ (.AugAssign (.Attribute o name p') op e pos) (xv c k U S f):=by
 exact KX.s λ{A env F ρ st s Q E} hA htk N R h=>by
  subst hk;exact wpAny_AugAssign_AttributeAny (ho.k hA N R (h.bind.mono λp h Va ρ1 t1 g1 R1 r1=>Fp H hf R1 r1 (h.bind.mono λq h=>h.bind.mono λx h=>h.ite) λx X t2 g2 R2 rx h=>he.k hA (N.go (g1.trans g2)) R2 (h.bind.mono λq h V ρ3 t3 g3 R3 rv=>J.k hA R3 (rx.mono g3.pre) rv (h.bind.mono λr h Y O t4 g4 R4 ry=>
   Gj H ht R4 ((r1.mono g3.pre).mono g4.pre) ry h.map λst' s' g' R' h=>have g:=(((g1.trans g2).trans g3).trans g4).trans g';h _ O s' g.own (N.go g) R' rfl))))
noncomputable def x8(t:aj->St->Option (Bool×St)):SM:=λF st=>(t F st).bind λp=>if p.1 then some (.next,F,p.2)else none
theorem La{e:aJ}{msg:Option aJ}{pos:bM}{t}(he:lh C n sc e t):cB C n sc τ (.Assert e msg pos) (x8 t):=by
 exact KX.s λ{A env F ρ st s Q E} hA O N R h=>wpAny_Assert_holds (he.k hA N R (h.bind.mono λp h J t1 g1 S=>⟨h.ite.1,h.ite.2 _ J t1 g1.own (N.go g1) S rfl⟩))
theorem bN.under{A:bg}(r:bN (n+1) A){c:ak}(l:List af):bN n (A.under (.builtin "type.__call__" ⟨.ref c::l,[]⟩)):=by
 have h1:(Bu "type.__call__" ⟨.ref c::l,[]⟩).weight =1:=by rfl
 have h2:(Bu "type.__call__" ⟨.ref c::l,[]⟩).cUnits =1:=by rfl
 refine⟨?_,?_,r.handled⟩
 ·have:=r.depth;show A.depth+(Bu "type.__call__" ⟨.ref c::l,[]⟩).weight +n<900;rw[h1];exact(hK ..)▸this
 ·have:=r.units;show A.units+(Bu "type.__call__" ⟨.ref c::l,[]⟩).cUnits +20*n<9000;rw[h2];exact IV this
noncomputable def AV.JK(a:AV):Option Unit:=AV.casesOn a (jG ()) (λ_=>aL) (λ_=>aL) (λ_=>aL) (λ_=>aL) λ_=>aL
theorem RelV.none{ρ:aD}{a:AV}{V:af}(r:RelV ρ a V){P:Unit->Prop}(h:Ok a.JK P){G:Prop}(k:V=.none ->P ()->G):G:=by
 cases a with
 |none=>exact k r h
 |_=>exact dA h
noncomputable def yI(c:ak)(g:List AV->St->Option (AV×St))(avs:List AV)(st:St):Option (AV×St):=
 (g (.ref (st.length+1)::avs) (st++[.dict []]++[.inst c st.length])).bind λp=>p.1.JK.map λ_=>(.ref (st.length+1),p.2)
theorem Ma{c S:ak}{g}(hm:makesIn C.K c=true)(hi:findIn C.K (.ref c) "__init__"=some (some (.ref S)))(hf:typeIn C.K (.ref S)=some (.type "function"))(hg:dX C n (.ref S) g):dX C (n+1) (.ref c) (yI c g):=by
 refine zM.s λ{A ρ st s avs vs Q E} hA R rv h=>?_;obtain⟨J,O,d,t,os⟩:=s;have X:=R.eX;refine make_core (makes_of X hm) (looks_findIn X hi) (λself=>bind_fn X self hf) (.inl rfl) ?_;have R1:Rel C (ρ++[J.objs.size]) (st++[.dict []]) (J.push emptyDict):=R.push rfl ⟨[],0,dN _ rfl,.nil⟩;have U:(J.push emptyDict).objs.size =J.objs.size+1:=m4 ..;have R2:Rel C (ρ++[J.objs.size]++[(J.push emptyDict).objs.size]) (st++[.dict []]++[.inst c st.length]) ((J.push emptyDict).push (instObj c J.objs.size)):=
  R1.push rfl ⟨J.objs.size,gK (j4 _ _) (by rw[<-R.len,jj (a6 _),kH];rfl),dN _ rfl⟩
 have g2:Go No ρ (⟨J,O,d,t,os⟩:ah) (ρ++[J.objs.size]++[(J.push emptyDict).objs.size]) ⟨(J.push emptyDict).push (instObj c J.objs.size),O,d,t,os⟩:=
  (Go.alloc (s:=⟨J,O,d,t,os⟩) (t:=t) (dn _ _) (fQ _)).trans (Go.alloc (s:=⟨J.push emptyDict,O,d,t,os⟩) (t:=t) (dn _ _) (fQ _))
 have N:RelV (ρ++[J.objs.size]++[(J.push emptyDict).objs.size]) (.ref (st.length+1)) (.ref (J.push emptyDict).objs.size):=by
  rw[show st.length+1=(st++[AO.dict []]).length by rw[aP];rfl];exact m7 R1
 rw[U]at R2 g2 N;exact hg.k (Q:=λv s'=>v=.none /\Q (.ref (J.objs.size+1)) s') (hA.under _) R2 (.cons N (rv.mono g2.pre)) (h.bind.mono λp h V Y s3 g3 R3 r3=>r3.none h.map λe h=>⟨e,h _ Y s3 (g2.trans g3) R3 (N.mono g3.pre)⟩)
end
theorem FK:Q5.lookup (QC ['r','o','t','a','r','e','t','i','_','e','l','b','a','l','l','a','c'].reverse)=some Zw:=by kernel_rfl
theorem zT:qw "callable_iterator" "__next__" "callable_iterator.__next__":=
 .of (owner:="callable_iterator") (n:="__next__") (by rw[me,mi];kernel_rfl) (by decide+kernel) (by decide+kernel) (by decide+kernel)
  (by first|exact .inl (by decide+kernel)|exact .inr (by decide+kernel)) (by rw[rP];kernel_rfl)
theorem Kn:entryFor table "callable_iterator.__next__"=some Builtin.«callable_iterator.__next__»:=BC (by kernel_rfl)
theorem KH(a:af):argsOk "callable_iterator.__next__" ⟨[a],[]⟩:=by
 unfold argsOk;rw[Hn (id:="callable_iterator.__next__") (n:=['_','_','t','x','e','n','_','_']) (o:=['r','o','t','a','r','e','t','i','_','e','l','b','a','l','l','a','c']) (by kernel_rfl) FK];kernel_rfl
theorem Kc:∃i,typeLookup (.type "method") "__call__"=pure (some (Nq i)):=⟨"method.__call__",by rw[me,mi];kernel_rfl⟩
theorem Lb(a b:af):argsOk "iter" ⟨[a,b],[]⟩:=by unfold argsOk;kernel_rfl
theorem L6{prog:ft}{w:dB}{A:bg}{α:Type}{Q:α->ah->Prop}{E:af->ah->Prop}{s:ah}(J:A.handled=none)
 (h:∀h' e,(∀b o,s.heap.get? b=some o->h'.get? b=some o)->(∃o,h'.get? e=some o/\o.cls=.type "StopIteration")->E (.ref e) {s with heap:=h'}):wpAny (model prog w) A (newExc (.type "StopIteration") []>>= λe=>raiseNew e:dS α) Q E s:=by
 refine ar ?_;unfold newExc newTuple;refine ar (qc ?_ (by size_fits));refine ar (m:=firstArgMember _ _) (ef (a:=g_) (by first|rfl|(simp only[firstArgMember];rfl)) ?_);refine qc ?_ (by size_fits);unfold raiseNew;refine ar (FQ ?_);rw[J];refine ar (aU (Ha ?_));exact h _ _ (λb o e=>kG _ (kG _ e)) ⟨_,qF _ rfl,rfl⟩
theorem Kh(f:af)(l:List af):callBorrowed f l=(call f l).keep [borrowed]:=by
 unfold callBorrowed PySem.call;show O0 _ _ _ _ _=O0 _ _ _ _ _;congr 1
 funext r
 rcases r with e|(v|_|_|_)<;>rfl
theorem Kd{M:uK}{A:bg}{f:af}{l:List af}{Q:af->ah->Prop}{E:af->ah->Prop}{s:ah}(h:wpAny M A (call f l) Q E s):wpAny M A (callBorrowed f l) Q E s:=by
 rw[Kh];intro N p J;rw[Sem.wp_keep];exact h N p J
section
variable{C:Cfg}{n:Nat}{sc:bc}
theorem Rel.o{ρ:aD}{st:St}{h:aO}(R:Rel C ρ st h){l:Nat}{J:ak}(N:ρ[l]?=some J){P:AO->Prop}(q:Ok (st[l]?) P){G:Prop}(k:∀o,km C ρ h J o->P o->G):G:=q.some λo e p=>k o (R.at e N) p
noncomputable def AO.bound?(o:AO):Option (af×AV):=AO.casesOn o aL (λ_=>aL) (λ_=>aL) (λ_=>aL) (λ_ _=>aL) (λ_=>aL) (λ_=>aL) (λf x=>jG (f,x)) (λ_ _=>aL) (λ_ _=>aL) (λ_=>aL) λ_=>aL
noncomputable def AO.yY(o:AO):Option (Nat×AV):=AO.casesOn o aL (λ_=>aL) (λ_=>aL) (λ_=>aL) (λ_ _=>aL) (λ_=>aL) (λ_=>aL) (λ_ _=>aL) (λf x=>jG (f,x)) (λ_ _=>aL) (λ_=>aL) λ_=>aL
noncomputable def AO.De(o:AO):Option (Nat×Nat):=AO.casesOn o aL (λ_=>aL) (λ_=>aL) (λ_=>aL) (λ_ _=>aL) (λ_=>aL) (λ_=>aL) (λ_ _=>aL) (λ_ _=>aL) (λl i=>jG (l,i)) (λ_=>aL) λ_=>aL
section
variable{ρ:aD}{h:aO}{a:ak}{o:AO}(c:km C ρ h a o){G:Prop}
include c
theorem z6{P:af×AV->Prop}(q:Ok o.bound? P)(k:∀f x V,h.get? a=some {cls:=.type "method",data:=.fields #[f,V]}->RelV ρ x V->P (f,x)->G):G:=by
 cases o with
 |bound f x=>exact c.elim λV c=>k f x V c.1 c.2 q
 |_=>exact dA q
theorem Ab{P:Nat×AV->Prop}(q:Ok o.yY P)(k:∀f x fa V,ρ[f]?=some fa->h.get? a=some {cls:=.type "callable_iterator",data:=.fields #[.ref fa,V,.bool false]}->RelV ρ x V->P (f,x)->G):G:=by
 cases o with
 |nQ f x=>exact c.elim λfa c=>c.elim λV c=>k f x fa V c.1 c.2.1 c.2.2 q
 |_=>exact dA q
theorem E1{P:Nat×Nat->Prop}(q:Ok o.De P)(k:∀l i J,ρ[l]?=some J->h.IsListIter a J i->P (l,i)->G):G:=by
 cases o with
 |c_ l i=>exact c.elim λJ c=>k l i J c.1 c.2 q
 |_=>exact dA q
end
noncomputable def Xi(avs:List AV)(st:St):Option (AV×St):=(a1 avs).bind λa=>a.r?.bind λl=>(bF st l).map λ_=>(.ref st.length,st++[.c_ l 0])
noncomputable def Xm(avs:List AV)(st:St):Option (AV×St):=(a2 avs).bind λp=>p.1.r?.bind λb=>p.2.s?.bind λx=>(st[b]?).bind λo=>o.bound?.map λ_=>(.ref st.length,st++[.nQ b (.str x)])
noncomputable def qQ(avs:List AV)(st:St):Option (AV×St):=(Xi avs st).or (Xm avs st)
theorem HT:eP C n (.builtin "iter") qQ:=KC.s λ{A ρ st s avs vs Q E} hA R S h=>h.or.elim
 (λh=>S.a1 h.bind λa V r h=>r.r h.bind λl J N h=>R.l N h.map λxs ws _ hl _ h=>by
  refine A4 (by decide+kernel) (by decide+kernel) RJ (kdk_args_iter _) ?_;unfold Builtin.«iter»;refine ar (m:=someArgs "iter" 1 2 _) (ef (a:=[eH J]) (by first|rfl|kernel_rfl) ?_);show wpAny _ _ (pyIter (.ref J)>>= _) _ _ _;exact ar (NA (fB hl) (aU ⟨_,rfl,h _ (ρ++[s.heap.objs.size]) _ (Go.alloc (t:=s.toks) (dn _ _) (fQ _)) (R.push rfl ⟨J,gK (j4 _ _) N,_,dN _ rfl,rfl,rfl⟩) (m7 R)⟩)))
 λh=>S.a2 h.bind λa V b W U Y h=>U.r h.bind λl J N h=>Y.s h.bind λx t h=>R.o N h.bind λo c h=>z6 c h.map λf self SV ho rV h=>by
  refine bO Kc λi hi=>?_;refine A4 (by decide+kernel) (by decide+kernel) RJ (Lb _ _) ?_;unfold Builtin.«iter»;refine ar (m:=someArgs "iter" 1 2 _) (ef (a:=[eH J,.str _ t]) (by first|rfl|kernel_rfl) ?_);dsimp only;refine ar (nT (name:=dy "__call__") (T:="method") ⟨_,ho,rfl⟩ hi ?_);refine FV (λO=>absurd O (by simp)) (λ_=>ar (nM (ar (qc (aU ⟨_,rfl,?_⟩) (by size_fits)))));exact h _ (ρ++[s.heap.objs.size]) _ (Go.alloc (t:=s.toks) (dn _ _) (fQ _)) (R.push rfl ⟨J,.str _ t,gK (j4 _ _) N,dN _ rfl,⟨t,rfl⟩⟩) (m7 R)
noncomputable def mI(avs:List AV)(st:St):Option (AV×St):=(a1 avs).bind λa=>a.r?.bind λk=>(st[k]?).bind λo=>o.De.bind λp=>(bF st p.1).bind λxs=>(xs[p.2]?).map λv=>(v,st.set k (.c_ p.1 (p.2+1)))
theorem Ca:eP C n (.builtin "next") mI:=KC.s λ{A ρ st s avs vs Q E} hA R rv h=>rv.a1 h.bind λa V r h=>r.r h.bind λk J hk h=>R.o hk h.bind λo c h=>E1 c h.bind λl i N hl hit h=>R.l hl h.bind λxs ws _ hw O h=>h.map.some λx hx h=>by
 refine aG (O.get hx) λX hX rX=>?_;refine di (id hit) λo ho hc hd=>?_;refine A4 (by decide+kernel) (by decide+kernel) Qy (Q2 _) ?_;unfold Builtin.«next»;refine ar (m:=someArgs "next" 1 2 _) (ef (a:=[eH J]) (by first|rfl|kernel_rfl) ?_);dsimp only;refine ar (nT (name:=dy "__next__") hit.typeIs qa.lookup (FV (λS=>absurd S (by simp)) (λ_=>?_)));obtain⟨m,U⟩:=hw;refine ar (xt (name:=dy "__next__") hit.typeIs qa
  (p_ qa hit.typeIs GL ?_ (Fc _)))
 show wpAny _ _ (field (.ref J) 0>>= _) _ _ s;refine ar (jf ho hd (x:=.ref N) rfl ?_);show wpAny _ _ (if(eH N==g_)=true then _ else _) _ _ s;rw[if_neg (show¬((eH N==g_)=true)from d9)];refine ar (jf ho hd (x:=.int i 0) rfl (ar (xC U rfl ?_)));have Y:ws.toArray[i]?=some X:=nV hX;simp only[xf,Y];have kk:∀b x,b≠J->s.heap.get? b=some x->(s.heap.update J (sd (·.setIfInBounds 1 (rawInt ((i:Int)+1))))).get? b=some x:=λb x ne e=>(lA _ _ _ _ ne).trans e;have hn:(s.heap.update J (sd (·.setIfInBounds 1 (rawInt ((i:Int)+1))))).IsListIter J N (i+1):=
  ⟨_,qo _ ho (wV (r6 hd _)),(GY ..).trans hc,by rw[r6 hd];simp[rawInt]⟩
 have al:∃x,(s.heap.update J (sd (·.setIfInBounds 1 (rawInt ((i:Int)+1))))).get? J=some x:=hn.elim λo e=>⟨o,e.1⟩;exact ar (uB ho hd (by simp) (aU ⟨X,rfl,aU ⟨_,rfl,h X ρ _ (Go.put (t:=s.toks) hk kk al) (R.put hk kk al ⟨N,hl,hn⟩) rX⟩⟩))
theorem bN.in1{A:bg}(r:bN (n+1) A):bN n A.in1:=
 ⟨by have:=r.depth;show A.depth+n<900;exact du (iJ _) this,by have:=r.units;show A.units+1+20*n<9000;exact IV this,r.handled⟩
noncomputable def qP(k:Nat)(st:St)(x r:ae):Option AV×St:=if x=r then(none,st.set k .gP)else(some (.str r),st)
noncomputable def ng(fa:ak)(g:List AV->St->Option (AV×St))(k:Nat)(st:St):Option (Option AV×St):=(st[k]?).bind λo=>o.yY.bind λc=>c.2.s?.bind λx=>(st[c.1]?).bind λo'=>o'.bound?.bind λd=>if d.1=.ref fa then
 (g [d.2] st).bind λp=>p.1.s?.bind λr=>(p.2[k]?).bind λN=>N.yY.bind λJ=>J.2.s?.bind λx1=>(p.2[J.1]?).bind λO=>O.bound?.bind λR=>if x1=x/\R.1=.ref fa then some (qP k p.2 x r)else none
 else none
theorem DO{A:bg}{s:ah}{b fa:ak}{V:af}{oc:af}{N:Option ak}{J:Array (Option af)}{fd:nR}{Q:Bool->ah->Prop}{E:af->ah->Prop}
 (hb:s.heap.get? b=some {cls:=.type "method",data:=.fields #[.ref fa,V]})(hf:s.heap.get? fa=some ⟨oc,N,.func fd,J⟩)(h:Q true s):wpAny (model C.prog C.w) A (borrowsExactly (.ref b)) Q E s:=by
 unfold borrowsExactly;refine ar (E3 hb ?_);show wpAny _ _ (if(RA "method"==RA "method")=true then _ else _) _ _ _;rw[if_pos (by simp)];show wpAny _ _ (load fa>>= _) _ _ _;refine ar (E3 hf ?_);exact aU h
theorem z_{fa:ak}{oc:af}{od:Option ak}{U:Array (Option af)}{fd:nR}{g}(ho:C.K.lookup fa=some ⟨oc,od,.func fd,U⟩)(hg:dX C n (.ref fa) g)(k:Nat):Cw C (n+1) k (ng fa g k):=by
 intro A ρ st s a Q E hA R hk h;refine R.o hk h.bind λo c h=>Ab c h.bind λb y ba V hba N rV h=>rV.s h.bind λx t h=>R.o hba h.bind λo c h=>z6 c h.bind λf self SV Y rS h=>?_;obtain⟨hf,h⟩:=h.ite;have hf:f=.ref fa:=hf;subst hf;unfold pyNext;refine ar (xP (xt (name:=dy "__next__") ⟨_,N,rfl⟩ zT
  (p_ zT ⟨_,N,rfl⟩ Kn ?_ (KH _))))
 show wpAny _ _ (field (.ref a) 2>>= _) _ _ _;refine ar (jf N rfl (x:=.bool false) rfl ?_);rw[if_neg (by simp)];refine ar (jf N rfl (x:=.ref ba) rfl (ar (xP ?_)));unfold callOutOfASlot;refine ar (DO Y (R.eX _ _ ho) ?_);rw[if_pos rfl];refine Kd (rQ (ks_codeAny_call_bound Y (hg.k hA.in1 R (.cons rS .nil) (h.bind.mono λp h W bA s2 g2 R2 r2=>r2.s h.bind λr tw h=>?_))));have S:=gK g2.pre hk;refine R2.o S h.bind λo c h=>Ab c h.bind λb y ba2 V hba2 J rV h=>rV.sx h.bind λx1 t2 eV h=>R2.o hba2 h.bind λo c h=>z6 c h.bind λf self SV hbo2 rS h=>?_;obtain⟨⟨e1,hf⟩,w⟩:=h.ite;have hf:f=.ref fa:=hf;subst hf;subst eV;have hfa2:s2.heap.get? fa=some ⟨oc,od,.func fd,U⟩:=R2.eX _ _ ho;refine ar (jf J rfl (x:=.bool false) rfl ?_);rw[if_neg (by simp)];refine ar (jf J rfl (x:=.str _ t2) rfl (ar (mh (wpAny_eqBool_str ?_))));rw[e1];have h:∀V aq s',Go No ρ s aq s'->Rel C aq (qP k p.2 x r).2 s'.heap->JC aq (qP k p.2 x r).1 V->Q V s':=w;unfold qP at h;by_cases O:x=r
 ·rw[if_pos O]at h
  rw[decide_eq_true O];refine ar (nM (ar (ar (jf J rfl (x:=.ref ba2) rfl (ar ?_)))));unfold slotLetsGo;refine ar (DO hbo2 hfa2 ?_);rw[if_pos rfl];refine aU (ar (Fw J (by simp) λg3 hc3 k3=>ar (Fw hc3 (by simp) λg4 hc4 k4=>Fw hc4 (by simp) λg5 hc5 k5=>?_)));show wpAny _ _ (newExc (.type "StopIteration") []>>= λe=>raiseNew e) _ _ _;refine L6 hA.handled λh' e k6 he=>he.elim λoe he=>ar (PT (T:="StopIteration") (b:=true) ⟨_,he.1,he.2⟩ GJ ?_);have kk:∀b x,b≠a->s2.heap.get? b=some x->h'.get? b=some x:=λb x ne e=>k6 _ _ ((k5.2 _ ne).trans ((k4.2 _ ne).trans ((k3.2 _ ne).trans e)));exact aU (h _ bA _ (g2.trans (Go.put (t:=s2.toks) S kk ⟨_,k6 _ _ hc5⟩)) (R2.put S kk ⟨_,k6 _ _ hc5⟩ trivial) rfl)
 ·rw[if_neg O]at h
  rw[decide_eq_false O];exact aU ⟨_,rfl,aU (h _ bA s2 g2 R2 ⟨_,rfl,tw,rfl⟩)⟩
end
section
variable{C:Cfg}{n:Nat}{sc:bc}
noncomputable def px(x:ae)(k:Int):ae:=⟨(bZ k.toNat x.cps.toList).flatten.toArray⟩
noncomputable def TY(xs:List AV)(k:Int):List AV:=(bZ k.toNat xs).flatten
noncomputable def XT(a b:AV)(st:St):Option (AV×St):=a.i?.bind λx=>b.i?.bind λy=>if(decide (fE x>shortFactorBits)&&decide (fE y>shortFactorBits)&&GV (fE x+fE y))=false then some (.int (x*y),st)else none
noncomputable def zm(a b:AV)(st:St):Option (AV×St):=a.s?.bind λx=>b.i?.bind λk=>if x.length*k.toNat<=1000000/\x.length<=1000000/\-(2^62)<=k/\k<2^62 then some (.str (px x k),st)else none
noncomputable def mulL(a b:AV)(st:St):Option (AV×St):=a.r?.bind λl=>b.i?.bind λk=>(bF st l).bind λxs=>if xs.length*k.toNat<=1000000/\-(2^62)<=k/\k<2^62 then some (.ref st.length,st++[.list (TY xs k)])else none
noncomputable def cU:=tK XT (tK zm mulL)
theorem foldl_flatten{α:Type}(l:List (Array α)):∀a:Array α,l.foldl (·++·) a=a++(l.map (·.toList)).flatten.toArray :=by
 induction l with
 |nil=>exactλa=>Ow.symm
 |cons x l J=>exactλa=>(J _).trans (by rw[bX,gI,<-O7,Array.toArray_toList,Array.append_assoc])
theorem E7{α:Type}(n:Nat)(x:Array α):(bZ n x).foldl (·++·) #[]=(bZ n x.toList).flatten.toArray :=by
 rw[foldl_flatten,FH,Array.empty_append]
theorem Mn{ρ:aD}{xs:List AV}{vs:List af}(h:bu ρ xs vs)(k:Nat):bu ρ (bZ k xs).flatten (bZ k vs).flatten :=by
 induction k with
 |zero=>exact .nil
 |succ k J=>exact h.append J
theorem SN{α:Type}(n:Nat)(l:List α):(bZ n l).flatten.length =l.length*n:=by
 rw[OH,FH,List.sum_replicate_nat,QB]
theorem K5{x:ae}{k:Int}{t:Tok}{s:ah}{Q:af->ah->Prop}(h1:x.length*k.toNat<=1000000)(fin:∀t' tk,Q (.str (px x k) t') {s with toks:=tk}):
 (if k<1 then Hw Pn else if(k==1||x.length==0)=true then Ri (.str x t)else Hw ⟨(bZ k.toNat x.cps).foldl (·++·) #[]⟩).post Q s:=by
 by_cases hk:k<1
 ·rw[if_pos hk]
  have e:px x k=Pn:=by unfold px;rw[show k.toNat=0 by exact NT (Pb (b:=0) hk)];rfl
  exact⟨by decide,e▸fin _ _⟩
 ·rw[if_neg hk]
  by_cases hc:(k==1||x.length==0)=true
  ·rw[if_pos hc]
   have e:px x k=x:=by
    obtain⟨x⟩:=x;rw[oY]at hc;rcases hc with hc|hc
    ·unfold px;rw[beq_iff_eq.mp hc];simp
    ·rw[Array.eq_empty_of_size_eq_zero (beq_iff_eq.mp hc:x.size=0)];unfold px;simp
   exact e▸fin t s.toks
  ·rw[if_neg hc,E7]
   exact⟨by rw[sizeLine_eq];show(QR _).toArray.size <=_;rw[dI,SN];exact aw h1 (by decide),fin _ _⟩
theorem SE:iy C n (binaryOp .Mult) zm:=λA ρ st s a b S U Q E hA R N O h=>N.s h.bind λx t h=>O.i h.bind λk u h=>by
 obtain⟨⟨h1,Y,h2,h3⟩,h⟩:=h.ite;refine P.mul_str (by rw[Ht];exact⟨decide_eq_false (by exact ib.mpr (qu (by decide) h2)),decide_eq_false (by exact uh.mpr (ui h3 (by decide)))⟩) ?_ (λ_ _=>decide_eq_false (by rw[sizeLine_eq];exact qm (aw h1 (by decide)))) (K5 h1 λt' tk=>h _ ρ _ (.toks _) R ⟨_,rfl⟩);intro hk hx zO;have:=Int.lt_mul_of_ediv_lt (by exact ib.mp hk:0<k) zO;have J:((x.length*k.toNat:Nat):Int)<=1000000:=lF.mpr h1;rw[QY,GI (by exact qu (by decide) (ib.mp hk))]at J;exact absurd (Int.lt_of_lt_of_le this J) (by decide)
theorem Sa:iy C n (binaryOp .Mult) mulL:=λA ρ st s a b va vb Q E hA R S Y h=>S.r h.bind λl O ha h=>Y.i h.bind λk u h=>R.l ha h.bind λxs ws _ hl J h=>by
 obtain⟨⟨h1,h2,h3⟩,h⟩:=h.ite;refine bO hl λm hl=>?_;refine dc (ro R (Mn J k.toNat)) λR' r' g'=>?_;have N:ws.toArray.size=xs.length:=dI.trans J.length;refine wpAny_binaryOp_repeat_ref (T:="list") (U:="int") (by decide) ⟨_,hl,rfl⟩ (λs'=>QM s' k u) noFill_list_mul Ze Oe repeat_list ZD.lookup
  (qf Oe (QM s k u) ZW (Zd _ _) (int___rmul___int_list k u O ws.toArray m)
   ⟨hl,rfl,⟨_,hl,rfl⟩,qf Zk ⟨_,hl,rfl⟩ Zq (Y5 _ _)
    (Z4 O ws.toArray m k u (by simp[AL];exact⟨qu (by decide) h2,ui h3 (by decide)⟩) (by rw[N];exact qm (aw h1 (by decide))) (by rw[N];simp[ZU,sizeLine];exact j0 h1))
    ⟨hl,?_⟩⟩)
 have ea:Fy (λx1 x2=>x1++x2) #[] (bZ (if ws.toArray.isEmpty=true then 0 else k.toNat) ws.toArray)=(bZ k.toNat ws).flatten.toArray :=by
  rw[E7];cases ws with
  |nil=>simp
  |cons=>rfl
 rw[ea];exact h _ _ _ g' R' r'
theorem kM:d8 C n (binaryOp .Mult) cU:=(iy.or (λA ρ st s a b O S Q E hA R J N h=>J.i h.bind λx t h=>N.i h.bind λy u h=>mul_int (h.ite.2 _ ρ _ (.toks _) R ⟨_,rfl⟩) (λe=>d9 (h.ite.1.symm.trans e))) (SE.or Sa)).ok
end
end Mine
namespace Mine
open PySem PyProof.Rows PySem.W
section
variable{C:Cfg}{n:Nat}
end
structure Fx(Kf:o5)(base:aO)(mg mb:ae->Option af):Prop where
 eX:Kf.In base
 g:base.Ns mainGlobals mg
 b:base.Ns builtinsNs mb
 nolimit:base.NoLimit
 boot:∀x:ae,x≠"__name__"->mb x=bootBuiltins x
noncomputable def y9(names:List ae)(i:Nat):ae:=match names[i]? with
 |some x=>x
 |none=>⟨#[2000000+i]⟩
structure yd(names:List ae):Prop where
 nodup:names.Nodup
 small:∀x∈names,∀j,x≠⟨#[2000000+j]⟩
theorem PG{names:List ae}(h:yd names):∀i j,y9 names i=y9 names j->i=j:=by
 intro i j e;unfold y9 at e;cases hi:names[i]? with
 |none=>
  rw[hi]at e;cases J:names[j]? with
  |none=>
   rw[J]at e
   have:(#[2000000+i]:Array Nat)=#[2000000+j]:=congrArg Str.cps e;simp at this;exact this
  |some y=>rw[J]at e;exact absurd e.symm (h.small y (j8 J) i)
 |some x=>
  rw[hi]at e;cases J:names[j]? with
  |none=>rw[J]at e;exact absurd e (h.small x (j8 hi) j)
  |some y=>
   rw[J]at e;dsimp only at e;subst e;refine bO (fY.mp hi) λh1 N=>?_;refine bO (fY.mp J) λh2 O=>?_;have key:=RS.mp h.nodup;rcases Ts i j with q|q|q
   ·exact absurd (N.trans O.symm) (key i j h1 h2 q)
   ·exact q
   ·exact absurd (O.trans N.symm) (key j i h2 h1 q)
theorem Lp{names:List ae}(h1:names.Nodup)(h2:(names.all λx=>x.cps.all (·<2000000))=true):yd names:=
 ⟨h1,λx J j e=>by
  have:=w_.mp h2 x J;subst e;simp at this;exact absurd this (qm (c8 ..))⟩
noncomputable def cfgOf(prog:ft)(w:dB)(Kf:o5)(base:aO)(mg mb:ae->Option af)(names:List ae)(pins:List (Nat×ak))(code:af)(qual:ae)(J:yd names)(F:Fx Kf base mg mb):Cfg:=
 {prog,w,base,nm:=y9 names,inj:=PG J,mg,mb,wb:=F.g,J6:=F.b,nolimit:=F.nolimit,pins,K:=Kf,eX:=F.eX,code,qual}
theorem Fx.bE{Kf:o5}{base:aO}{mg mb:ae->Option af}(F:Fx Kf base mg mb){x:ae}{r:Option af}(e:nsIn Kf mainGlobals x=some r):mg x=r:=by
 refine jZ F.g λo es ep ho hd _ hf=>?_;unfold nsIn at e;split at e
 ·rename_i c d J N sl q
  have:=F.eX _ _ q;rw[ho]at this;cases this
  cases hd
  rw[<-hf];unfold nsFind findBy;rw[<-Array.find?_toList];split at e
  ·rename_i en he
   cases e
   rw[he];rfl
  ·rename_i he
   split at e
   ·cases e
   ·cases e
    rw[he];rfl
 ·cases e
theorem Fx.cg{Kf:o5}{base:aO}{mg mb:ae->Option af}(F:Fx Kf base mg mb){x:ae}{r:Option af}(J:x≠"__name__")(e:bootBuiltins x=r):mb x=r:=(F.boot x J).trans e
noncomputable def bT(K:o5)(a:ak):List gJ:=match K.lookup a with
 |some ⟨_,_,.func fd,_⟩=>(match fd.body with|.stmts b=>b|_=>[])
 |_=>[]
noncomputable def bH(K:o5)(a:ak):bc:=match K.lookup a with
 |some ⟨_,_,.func fd,_⟩=>fd.scope
 |_=>default
noncomputable def iY(K:o5)(a:ak):nR:=match K.lookup a with
 |some ⟨_,_,.func fd,_⟩=>fd
 |_=>default
theorem lX{l:List (ae×e6)}(h:(l.all λp=>(l.lookup p.1==some p.2)&&p.2!=.free)=true):∀p∈l,l.lookup p.1=some p.2/\p.2≠.free :=λp m=>by
 have:=w_.mp h p m;rw[gG]at this;exact⟨beq_iff_eq.mp this.1,bne_iff_ne.mp this.2⟩
section
variable{C:Cfg}{n:Nat}{sc:bc}
noncomputable def AV.v?(a:AV):Option af:=AV.casesOn a aL (λ_=>aL) (λ_=>aL) (λ_=>aL) (λ_=>aL) jG
theorem RelV.v{ρ:aD}{a:AV}{V:af}(r:RelV ρ a V){P:af->Prop}(h:Ok a.v? P):P V:=by
 cases a with
 |val x=>exact r▸h
 |_=>exact dA h
noncomputable def JX(D:ak)(xs:List AV)(v:AV)(lo hi step:Option Int)(st:St):Option (AV×St):=v.v?.bind λw=>if w=.ref D/\xs.length<=sizeLine/\step≠some 0 then some (.ref st.length,st++[.list (pick xs lo hi step)])else none
noncomputable def yh(D:ak)(xs:List AV)(f:EM)(lo hi step:aj->St->Option (Option Int×St)):EM:=λF st=>(f F st).bind λp=>(lo F p.2).bind λa=>(hi F a.2).bind λb=>(step F b.2).bind λc=>JX D xs p.1 a.1 b.1 c.1 c.2
theorem LA{D:ak}{xs:List AV}{vs:List af}{value:aJ}{lower upper step:Option aJ}{p pos:bM}{f:EM}{lo hi Y}(hD:C.base.IsList D vs.toArray)(hx:∀ρ,bu ρ xs vs)
 (hv:bR C n sc value f)(h1:pM C n sc lower lo)(h2:pM C n sc upper hi)(h3:pM C n sc step Y)
 (O:∀o i,∃vs,subscripted (.Slice lower upper step p) false o i=operate vs (getItem o i)):
 bR C n sc (.Subscript value (.Slice lower upper step p) pos) (yh D xs f lo hi Y):=by
 exact KE.s λ{A env F ρ st s Q E} hA N R h=>zR O (hv.k hA N R (h.bind.mono λp h Va ρ1 t1 g1 R1 r1=>Pf (h1.u hA (N.go g1) R1 (h.bind.mono λa h V1 bA t2 g2 R2 p1=>h2.u hA (N.go (g1.trans g2)) R2 (h.bind.mono λb h V2 ρ3 t3 g3 R3 p2=>
  h3.u hA (N.go ((g1.trans g2).trans g3)) R3 (h.bind.mono λc h V3 J t4 g4 R4 p3=>by
   refine dc (Ef (C:=C) (V1:=V1) (V2:=V2) (V3:=V3) R4) λe5 g5 R5=>?_;obtain⟨hs,h⟩:=(r1.v h.bind).ite;refine dc hs λe0 S U=>?_;refine di hD λo e hc hl=>?_;have e:=R5.keep _ _ e;rw[e0];refine⟨"list",_,Gw.lookup,⟨o,e,hc⟩,OY ⟨o,e,hc,hl⟩ ⟨_,e5,rfl,rfl⟩ p1 p2 p3 U ?_ (by rw[dI,(hx J).length];exact S)⟩;rw[show slicePick vs.toArray a.1 b.1 c.1=(Mine.pick vs a.1 b.1 c.1).toArray by unfold slicePick Mine.pick;simp];refine dc (ro (C:=C) (s:={t4 with heap:=t4.heap.push {cls:=.type "slice",data:=.fields #[V1,V2,V3]}}) R5 ((hx J).pick a.1 b.1 c.1)) λR' r' g'=>?_;exact h _ _ _ (((((g1.trans g2).trans g3).trans g4).trans g5).trans g') R' r'))))))
noncomputable def tE(nx:Nat->St->Option (Option AV×St))(f:EM):aj->St->Option (It×St):=λF st=>(f F st).bind λp=>p.1.r?.bind λk=>(p.2[k]?).bind λo=>(o.De.map λ_=>(.gen k (nx k),p.2)).or (o.yY.map λ_=>(.gen k (nx k),p.2))
theorem DV:qw "callable_iterator" "__iter__" "callable_iterator.__iter__":=
 .of (owner:="callable_iterator") (n:="__iter__") (by rw[me,mi];kernel_rfl) (by decide+kernel) (by decide+kernel) (by decide+kernel)
  (by first|exact .inl (by decide+kernel)|exact .inr (by decide+kernel)) (by rw[rP];kernel_rfl)
theorem Ks:entryFor table "callable_iterator.__iter__"=some Builtin.«dict_keyiterator.__iter__»:=
 entryFor_alias (id':="dict_keyiterator.__iter__") (by kernel_rfl) (by first|rfl|decide+kernel|(unfold String.splitOn;simp+decide [String.splitOnAux])) (by decide+kernel) (by kernel_rfl)
theorem KD(a:af):argsOk "callable_iterator.__iter__" ⟨[a],[]⟩:=by
 unfold argsOk;rw[Hn (id:="callable_iterator.__iter__") (n:=['_','_','r','e','t','i','_','_']) (o:=['r','o','t','a','r','e','t','i','_','e','l','b','a','l','l','a','c']) (by kernel_rfl) FK];kernel_rfl
theorem EB{A:bg}{s:ah}{a:ak}{N:Array af}{Q:af->ah->Prop}{E:af->ah->Prop}(h:s.heap.get? a=some {cls:=.type "callable_iterator",data:=.fields N})(O:Q (.ref a) s):
 wpAny (model C.prog C.w) A (pyIter (.ref a)) Q E s:=by
 have J:s.TypeIs (.ref a) "callable_iterator":=⟨_,h,rfl⟩;refine wpAny_pyIter_slot J DV (p_ DV J Ks ?_ (KD _));show wpAny _ _ (ret (.ref a)) _ _ s;exact aU ⟨_,rfl,"callable_iterator",_,J,zT.lookup,O⟩
theorem Bs{e:aJ}{f:EM}{nx:Nat->St->Option (Option AV×St)}(J:∀k,Cw C n k (nx k))(he:bR C n sc e f):mK C n sc e (tE nx f):=by
 exact⟨λhA N R h=>he.k hA N R (h.bind.mono λp h V O t1 g1 S r1=>r1.r h.bind λk Y hk h=>S.o hk h.bind λo c h=>h.or.elim
  (λh=>E1 c h.map λl i la hl hit h=>As hit (h Y [] O t1 g1 S ⟨rfl,hk,J k⟩ fy fy λA s' Q E U q=>As (hit.elim λo e=>⟨o,U _ _ e.1,e.2⟩) q))
  λh=>Ab c h.map λf x fa V hf ho r h=>EB ho (h Y [] O t1 g1 S ⟨rfl,hk,J k⟩ fy fy λA s' Q E U q=>EB (U _ _ ho) q))⟩
end
open Builtin.ObjectAttr
theorem D3:qw "function" "__setattr__" "object.__setattr__":=
 .of (owner:="object") (n:="__setattr__") (by rw[me,mi];kernel_rfl) (by decide+kernel) (by decide+kernel) (by decide+kernel)
  (by first|exact .inl (by decide+kernel)|exact .inr (by decide+kernel)) (by rw[rP];kernel_rfl)
theorem BO:typeLookup (.type "function") ("read":ae)=pure none:=by rw[me,mi];kernel_rfl
theorem UY:mroOf (.type "function")=pure [.type "function",.type "object"]:=by rw[mroOf_type];kernel_rfl
theorem Lw:typeHasDict (.type "function")=true:=by decide+kernel
theorem M0(self:af):refuseLoop self "__setattr__" [.type "function",.type "object"]=pure ():=by kernel_rfl
section
variable{prog:ft}{w:dB}{A:bg}{E:af->ah->Prop}{s:ah}
theorem UZ{f:ak}{fd:nR}{v:af}{Q:Unit->ah->Prop}(ho:s.heap.get? f=some {cls:=.type "function",data:=.func fd})
 (K:∀h' tk t gx ep,h'.get? f=some {cls:=.type "function",dict:=some s.heap.objs.size,data:=.func fd}->
  h'.get? s.heap.objs.size=some {cls:=.type "dict",data:=.dict #[⟨gx,.str "read" t,v⟩] ep}->(∀b o,b≠f->s.heap.get? b=some o->h'.get? b=some o)->Q () {s with heap:=h',toks:=tk}):
 wpAny (model prog w) A (setAttr (.ref f) "read" v) Q E s:=by
 have S:=ZO;have hT:s.TypeIs (.ref f) "function":=⟨_,ho,rfl⟩;refine ar (BE ?_);refine ar (xt (name:=dy "__setattr__") (T:="function") ⟨_,ho,rfl⟩ D3
  (p_ D3 ⟨_,ho,rfl⟩ S.entry ?_ (S.args _ _ _)))
 rw[osa_eq,refuse_eq];refine ar (ar (xM (T:="function") ⟨_,ho,rfl⟩ (ar (ef UY ?_))));refine ef (M0 _) ?_;refine ar (xM (T:="function") ⟨_,ho,rfl⟩ (ar (ef BO (ar ?_))));refine aU ?_;dsimp only;show wpAny _ _ (storeInOwnDict (.ref f) (.type "function") (.str "read" s.toks) "read" v false) _ _ _;unfold storeInOwnDict;refine ar (m:=ownStreamTells _ _) (ef (a:=()) (by kernel_rfl) ?_);rw[if_neg (by simp)];refine ar ?_;show wpAny _ _ (instanceDict f true) _ _ _;unfold instanceDict;refine ar (rN ho ?_);dsimp only;rw[if_neg (by rw[Lw];decide)];refine ar (OF ?_);have O:(s.heap.push {cls:=.type "dict",data:=.dict #[]}).get? f=some {cls:=.type "function",data:=.func fd}:=kG _ ho;refine ar (wpAny_update O ?_);generalize N:(s.heap.push {cls:=.type "dict",data:=.dict #[]}).update f (λo=>{o with dict:=some s.heap.objs.size})=h1;have R:s.heap.objs.size≠f:=λe=>by rw[<-e,fQ]at ho;cases ho
 have Y:h1.get? f=some {cls:=.type "function",dict:=some s.heap.objs.size,data:=.func fd}:=by rw[<-N,qo _ O rfl]
 have D:h1.get? s.heap.objs.size=some {cls:=.type "dict",data:=.dict #[]}:=by rw[<-N,lA _ _ _ _ R];exact dN _ rfl
 have kk:∀b o,b≠f->s.heap.get? b=some o->h1.get? b=some o:=λb o ne e=>by rw[<-N,lA _ _ _ _ ne];exact dn _ _ _ _ e
 refine ef (a:=some s.heap.objs.size) (by rfl) ?_;dsimp only;unfold storeInDict;refine ar (m:=newKeyGuard _ _ _) (ef (a:=()) (by rfl) ?_);refine ar ?_;unfold nsSet;refine ar (ar (FI (aU (ar (BE (ar (rN D ?_)))))));dsimp only;rw[Qr];rw[if_neg (by simp)];generalize hk:(if(dy "read").cps.isEmpty =true then(0:Int)else reduceHash ((model prog w).w.params.strHash (dy "read").cps))=gx;have J:∃ep,ug ("read":ae) gx (.str "read" (s.toks+1)) v {cls:=.type "dict",data:=.dict #[]}={cls:=.type "dict",data:=.dict #[⟨gx,.str "read" (s.toks+1),v⟩] ep}:=⟨1,rfl⟩;refine bO J λep J=>?_;have U:(h1.update s.heap.objs.size (ug ("read":ae) gx (.str "read" (s.toks+1)) v)).get? s.heap.objs.size=some {cls:=.type "dict",data:=.dict #[⟨gx,.str "read" (s.toks+1),v⟩] ep}:=by
  rw[qo _ D (by rw[J];rfl),J]
 refine QE D ?_;refine ar (Qo U (ON (by rw[sizeLine_eq];simp)) ?_);refine aU ⟨_,rfl,?_⟩;refine aU ?_;refine K _ _ _ gx ep ?_ U λb o ne e=>?_
 ·rw[lA _ _ _ _ R.symm];exact Y
 ·rw[lA _ _ _ _ (λq=>by rw[q,fQ]at e;cases e)];exact kk b o ne e
end
end Mine
namespace Mine
open PySem PyProof.Rows PySem.W
section
variable{C:Cfg}{n:Nat}
theorem Ba{sc:bc}{P:ak}{ρ:aD}{st:St}{F:aj}{env:aS}{s:ah}{h':aO}{tk:Nat}(R:Rel C ρ st s.heap)(N:a8 C sc ρ F env s.heap)(J:P∉ρ)(hB:C.base.get? P=none)
 (hL:env.locals≠P)(O:∀x c,env.cells.lookup x=some c->c≠P)(k:∀b o,b≠P->s.heap.get? b=some o->h'.get? b=some o)(al:∃o,h'.get? P=some o):
 Rel C ρ st h'/\a8 C sc ρ F env h'/\Go (·=P) ρ s ρ {s with heap:=h',toks:=tk}:=by
 refine⟨R.lY (·=P) (λb o e ne=>k b o ne e) (λa m e=>J (e▸m)) (λa o e z=>by rw[z,hB]at e;cases e),N.step (jJ _) λa o e n h=>⟨k a o ?_ e,n⟩,⟨jJ _,λ_ h=>.inl h,λa o e _ ne=>k a o ne e,λa o e=>?_,rfl,rfl⟩⟩
 ·rcases h with rfl|⟨x,h⟩
  ·exact hL
  ·exact O x a h
 ·by_cases q:a=P
  ·subst q;exact al
  ·exact⟨o,k a o q e⟩
structure RG(C:Cfg)(ρ:aD)(st:St)(s s':ah)(x:ae)(lp rA sA:ak)(params:ql)(body:List gJ)(scope:bc):Prop where
 go:Go (·=106) ρ s (ρ++[lp]) s'
 rel:Rel C (ρ++[lp]) (st++[.list [.int 0]]) s'.heap
 read:∃cp ct c' dZ doc pm t,s'.heap.get? rA=some (fnMade "read" "_law_stream.<locals>.read" params body scope [("text",ct),("places",cp)] doc pm c' dZ)/\s'.heap.CodeRec (.ref c') "_law_stream.<locals>.read"/\
  s'.heap.IsCell cp (some (.ref lp))/\s'.heap.IsCell ct (some (.str x t))/\cp∉ρ++[lp]/\ct∉ρ++[lp]/\c'∉ρ++[lp]/\cp≠ct/\s.heap.get? cp=none/\s.heap.get? ct=none/\s.heap.get? c'=none
 stream:∃da fd gx t ep,s'.heap.get? sA=some {cls:=.type "function",dict:=some da,data:=.func fd}/\s'.heap.get? da=some {cls:=.type "dict",data:=.dict #[⟨gx,.str "read" t,.ref rA⟩] ep}/\da∉ρ++[lp]/\s.heap.get? da=none
 Yi:rA∉ρ++[lp]
 XF:s.heap.get? rA=none
 X4:s.heap.get? sA=none
 Ye:sA∉ρ++[lp]
 tab:∃ps,s'.heap.get? 106=some (tabObj ps)
end
structure s8(C:Cfg)(n:Nat)(sc:bc)(τ zo:Nat)(pre:List gJ)(f:SM):Prop where
 u:∀A env F ρ st s F' st' rest Q E,bN n A->τ<=s.toks->a8 C sc ρ F env s.heap->Rel C ρ st s.heap->f F st=some (.next,F',st')->
  (∀aq s',Go (dr env) ρ s aq s'->a8 C sc aq F' env s'.heap->Rel C aq st' s'.heap->zo<=s'.toks->wpAny (model C.prog C.w) A (execs rest env) Q E s')->wpAny (model C.prog C.w) A (execs (pre++rest) env) Q E s
section
variable{C:Cfg}{n:Nat}{sc:bc}{τ zo:Nat}
theorem B_:s8 C n sc τ τ [] aC:=by
 refine⟨?_⟩;intro A env F ρ st s F' st' rest Q E hA ht N R h K;cases h
 exact K ρ s .refl N R ht
theorem fk{x:gJ}{xs:List gJ}{f g:SM}(U:cB C n sc τ x f)(hs:s8 C n sc τ zo xs g):s8 C n sc τ zo (x::xs) (ao f g):=by
 refine⟨?_⟩;intro A env F ρ st s F' st' rest Q E hA ht N R h K;obtain⟨⟨J,F1,s1⟩,h1,h⟩:=vH h;cases J with
 |next=>
  refine kE (wt ht (U.u A env F ρ st s .next F1 s1 _ E hA ht N R h1 λr O t1 g1 Y R1 r1 S=>?_));cases r1
  exact hs.u A env F1 O s1 t1 F' st' rest Q E hA S Y R1 h λaq s' g' N' R' t'=>K aq s' (g1.trans g') N' R' t'
 |brk=>cases h
 |cont=>cases h
 |ret v=>cases h
end
open PySem.Sre PySem.Sre.M
theorem tV{m:M}(h:m.outcome.isSome=true):∀n,runFor n m=m:=by
 intro n;induction n with
 |zero=>
  exact rfl
 |succ n J=>
  unfold runFor;rw[if_pos h]
theorem dj{m:M}(h:m.outcome.isSome=false)(n:Nat):runFor (n+1) m=runFor n m.step:=by
 show(if m.outcome.isSome=true then m else runFor n m.step)=_;rw[if_neg (by rw[h];decide)]
theorem Ea(a b:Nat)(m:M):runFor (a+b) m=runFor b (runFor a m):=by
 induction a generalizing m with
 |zero=>rw[hH];rfl
 |succ a J=>
  cases h:m.outcome.isSome with
  |true=>rw[tV h,tV h,tV h]
  |false=>rw[show a+1+b=(a+b)+1 by exact hK ..,dj h,dj h,J]
section
variable{prog:ft}{w:dB}{A:bg}{E:af->ah->Prop}{s:ah}
theorem drive{Q:M->ah->Prop}{m':M}(ho:m'.outcome.isSome=true)(R:Q m' s):∀(T N:Nat)(m:M),N<4*T->runFor N m=m'->wpAny (model prog w) A (Ft T m) Q E s:=by
 intro T;induction T with
 |zero=>
  intro N m J hr;exact absurd J (gk _)
 |succ T S=>
  intro N m J hr;unfold Ft;show wpAny _ _ (if(runFor 4 m).outcome.isSome =true then pure (runFor 4 m)else do rule "sre.turn";Ft T (runFor 4 m)) _ _ _;by_cases O:N<=4
  ·have e:runFor 4 m=m':=by
    rw[show 4=N+(4 -N) by exact(qi O).symm,Ea,hr,tV ho]
   rw[e,if_pos ho];exact aU R
  ·have e:runFor (N -4) (runFor 4 m)=m':=by rw[<-Ea,show 4+(N -4)=N by exact qi (cq (ux O)),hr]
   split
   ·rename_i h5
    rw[tV h5]at e;rw[e];exact aU R
   ·exact ar (nM (S (N -4) _ (by exact Nat.sub_lt_left_of_lt_add (cq (ux O)) (cK J (bS (gH (4*T) 4)))) e))
end
noncomputable def ov:Array Nat:=#[14,4,0,1,1,6,1,16,46,1]
noncomputable def A1(text:Array Nat)(s:Nat)(first J:Bool)(seen:eJ):M:=
 {code:=ov,text,lim:=text.size,start:=s,lastStart:=text.size,mustAdvance:=J,pc:=5,pos:=s,handed:=s,outermost:=first,marks:=#[],
  frames:=[{wait:=.nextStart,pc:=5,pos:=s,outermost:=first}],weight:=1,seen}
noncomputable def oq(text:Array Nat)(s:Nat):Bool:=s==0||text.getD (s -1) 0==10
theorem uU(text:Array Nat)(s:Nat)(first J:Bool)(seen:eJ):(A1 text s first J seen).step =
 (if oq text s=true then{A1 text s first J ((seen.add 6).add 44)with pc:=7}else{A1 text s first J ((seen.add 6).add 44)with answer:=some false}):=by
 show(let m:={A1 text s first J seen with seen:=seen.add 6};let m:={m with seen:=m.seen.add (43+1)};if oq text s=true then{m with pc:=7}else m.say false)=_;rfl
theorem AN(text:Array Nat)(s:Nat)(first J:Bool)(seen:eJ):({A1 text s first J seen with pc:=7}:M).step =
 (if s<text.size/\text.getD s 0=46 then{A1 text s first J (seen.add 16)with pc:=9,pos:=s+1}else{A1 text s first J (seen.add 16)with pc:=7,answer:=some false}):=by
 by_cases h1:s<text.size
 ·by_cases h2:text.getD s 0=46
  ·rw[if_pos ⟨h1,h2⟩]
   show(if s>=text.size then _ else _:M)=_;rw[if_neg (jX.mpr h1)];show(match(iG (text.getD s 0==46,seen.add 16):Except String (Bool×eJ))with|.error why=>_|.ok (false,seen)=>_|.ok (true,seen)=>_:M)=_;rw[h2];rfl
  ·rw[if_neg (λh=>h2 h.2)]
   show(if s>=text.size then _ else _:M)=_;rw[if_neg (jX.mpr h1)];show(match(iG (text.getD s 0==46,seen.add 16):Except String (Bool×eJ))with|.error why=>_|.ok (false,seen)=>_|.ok (true,seen)=>_:M)=_;rw[beq_eq_false_iff_ne.mpr h2];rfl
 ·rw[if_neg (λh=>h1 h.1)]
  show(if s>=text.size then _ else _:M)=_;rw[if_pos (iH.mp h1)];rfl
theorem QF(text:Array Nat)(s:Nat)(first J:Bool)(seen:eJ):({A1 text s first J seen with pc:=9,pos:=s+1}:M).step =
 {A1 text s first J (seen.add 1)with pc:=9,pos:=s+1,handed:=s+1,answer:=some true}:=by
 show(if(first&&((false&&(s+1)!=text.size)||(J&&(s+1)==s)))=true then _ else _:M)=_
 have:((s+1)==s)=false:=by simp
 rw[this];simp;rfl
theorem WH(text:Array Nat)(s:Nat)(first J:Bool)(seen:eJ)(pc:Nat):(runFor 2 ({A1 text s first J seen with pc:=pc,pos:=s+1,handed:=s+1,answer:=some true}:M))=
 {A1 text s first J seen with handed:=s+1,frames:=[],weight:=0,answer:=some true,outcome:=some .matched }:=by
 rfl
theorem Iz(text:Array Nat)(s:Nat)(first J:Bool)(seen:eJ)(pc:Nat)(hs:s<text.size):({A1 text s first J seen with pc:=pc,answer:=some false}:M).step =A1 text (s+1) false false seen:=by
 show(if s<text.size then _ else _:M)=_;rw[if_pos hs];rfl
theorem IL(text:Array Nat)(s:Nat)(first J:Bool)(seen:eJ)(pc:Nat)(hs:¬s<text.size):∃m:M,runFor 2 ({A1 text s first J seen with pc:=pc,answer:=some false}:M)=m/\m.outcome=some .failed :=by
 refine⟨_,rfl,?_⟩;show M.outcome (runFor 1 (if s<text.size then _ else _:M))=_;rw[if_neg hs];rfl
noncomputable def lg(text:Array Nat)(s:Nat):Bool:=oq text s&&decide (s<text.size)&&text.getD s 0==46
noncomputable def nU(text:Array Nat):Nat->Nat->Option Nat
 |0,_=>none
 |k+1,s=>if lg text s=true then some s else nU text k (s+1)
theorem EI(t:Array Nat)(k s:Nat):nU t (k+1) s=if lg t s=true then some s else nU t k (s+1):=rfl
theorem Yh(text:Array Nat):∀k s,text.size -s=k->s<=text.size->∀first J seen,∃N m,N<=4*k+8/\runFor N (A1 text s first J seen)=m/\
 (match nU text k s with|some e=>m.outcome=some .matched /\m.start=e/\m.handed=e+1|none=>m.outcome=some .failed):=by
 intro k;induction k with
 |zero=>
  intro s hk hs first J seen;have R:¬s<text.size:=by exact qm (xO hk)
  show∃N m,N<=8/\runFor N (A1 text s first J seen)=m/\m.outcome=some .failed;cases hl:oq text s with
  |false=>
   refine aG (IL text s first J ((seen.add 6).add 44) 5 R) λm hm ho=>?_;refine⟨3,m,by exact dg ..,?_,ho⟩;rw[show(3:Nat)=2+1 from rfl,dj rfl,uU,if_neg (by rw[hl];decide)];exact hm
  |true=>
   refine aG (IL text s first J (((seen.add 6).add 44).add 16) 7 R) λm hm ho=>?_;refine⟨4,m,by exact dg ..,?_,ho⟩;rw[show(4:Nat)=2+1+1 from rfl,dj rfl,uU,if_pos hl,dj rfl,AN,if_neg (λh=>R h.1)];exact hm
 |succ k S=>
  intro s hk hs first J seen;have O:s<text.size:=by exact G9 hk
  rw[EI];cases hl:oq text s with
  |false=>
   have hd:lg text s=false:=by unfold lg;rw[hl];rfl
   rw[hd,if_neg (by decide)];refine fH (S (s+1) (by exact congrArg qj hk) (by exact cK (iJ _) O) false false ((seen.add 6).add 44)) λN m h1 h2 h3=>?_;refine⟨N+1+1,m,by exact k4 (j:=2) h1 (by decide),?_,h3⟩;rw[dj rfl,uU,if_neg (by rw[hl];decide),dj rfl];have:=Iz text s first J ((seen.add 6).add 44) 5 O;exact(congrArg (runFor N) this).trans h2
  |true=>
   by_cases hc:text.getD s 0=46
   ·have hd:lg text s=true:=by unfold lg;rw[hl,decide_eq_true O,beq_iff_eq.mpr hc];rfl
    rw[hd,if_pos rfl];refine⟨5,_,by exact dg ..,rfl,?_⟩;rw[show(5:Nat)=2+1+1+1 from rfl,dj rfl,uU,if_pos hl,dj rfl,AN,if_pos ⟨O,hc⟩,dj rfl,QF,WH];exact⟨rfl,rfl,rfl⟩
   ·have hd:lg text s=false:=by unfold lg;rw[beq_eq_false_iff_ne.mpr hc,Gi]
    rw[hd,if_neg (by decide)];refine fH (S (s+1) (by exact congrArg qj hk) (by exact cK (iJ _) O) false false (((seen.add 6).add 44).add 16)) λN m h1 h2 h3=>?_;refine⟨N+1+1+1,m,by exact k4 (j:=3) h1 (by decide),?_,h3⟩;rw[dj rfl,uU,if_pos hl,dj rfl,AN,if_neg (λh=>hc h.2),dj rfl];have:=Iz text s first J (((seen.add 6).add 44).add 16) 7 O;exact(congrArg (runFor N) this).trans h2
noncomputable def ke:Array Nat:=#[14,9,4,1,2,16,10,16,13,0,7,7,16,13,16,10,15,18,5,16,10,15,13,11,16,13,5,5,0,16,10,1,15,2,0,1]
noncomputable def B2(text:Array Nat)(s:Nat)(frames:List wY)(weight pc pos handed:Nat)(outer:Bool)(answer:Option Bool)(seen:eJ):M:=
 {code:=ke,text,lim:=text.size,start:=s,lastStart:=text.size,pc,pos,handed,outermost:=outer,marks:=#[],frames,weight,answer,seen}
noncomputable def kL(s:Nat)(first:Bool):wY:={wait:=.nextStart,pc:=10,pos:=s,outermost:=first}
noncomputable def m9(s pc:Nat)(first:Bool):wY:={wait:=.nextBranch,pc:=pc,pos:=s,outermost:=first}
noncomputable def JI(pos:Nat)(first:Bool):wY:={wait:=.lookNot,pc:=26,pos:=pos,outermost:=first}
section
variable(text:Array Nat)(s:Nat)(frames:List wY)(weight pos handed:Nat)(outer:Bool)(seen:eJ)
theorem CY:(B2 text s frames weight 12 pos handed outer none seen).step =
 (if pos<text.size/\text.getD pos 0=13 then B2 text s frames weight 14 (pos+1) handed outer none (seen.add 16)else B2 text s frames weight 12 pos handed outer (some false) (seen.add 16)):=by
 by_cases h1:pos<text.size
 ·by_cases h2:text.getD pos 0=13
  ·rw[if_pos ⟨h1,h2⟩]
   show(if pos>=text.size then _ else _:M)=_;rw[if_neg (jX.mpr h1)];show(match(iG (text.getD pos 0==13,seen.add 16):Except String (Bool×eJ))with|.error why=>_|.ok (false,seen)=>_|.ok (true,seen)=>_:M)=_;rw[h2];rfl
  ·rw[if_neg (λh=>h2 h.2)]
   show(if pos>=text.size then _ else _:M)=_;rw[if_neg (jX.mpr h1)];show(match(iG (text.getD pos 0==13,seen.add 16):Except String (Bool×eJ))with|.error why=>_|.ok (false,seen)=>_|.ok (true,seen)=>_:M)=_;rw[beq_eq_false_iff_ne.mpr h2];rfl
 ·rw[if_neg (λh=>h1 h.1)]
  show(if pos>=text.size then _ else _:M)=_;rw[if_pos (iH.mp h1)];rfl
theorem JM:(B2 text s frames weight 14 pos handed outer none seen).step =
 (if pos<text.size/\text.getD pos 0=10 then B2 text s frames weight 16 (pos+1) handed outer none (seen.add 16)else B2 text s frames weight 14 pos handed outer (some false) (seen.add 16)):=by
 by_cases h1:pos<text.size
 ·by_cases h2:text.getD pos 0=10
  ·rw[if_pos ⟨h1,h2⟩]
   show(if pos>=text.size then _ else _:M)=_;rw[if_neg (jX.mpr h1)];show(match(iG (text.getD pos 0==10,seen.add 16):Except String (Bool×eJ))with|.error why=>_|.ok (false,seen)=>_|.ok (true,seen)=>_:M)=_;rw[h2];rfl
  ·rw[if_neg (λh=>h2 h.2)]
   show(if pos>=text.size then _ else _:M)=_;rw[if_neg (jX.mpr h1)];show(match(iG (text.getD pos 0==10,seen.add 16):Except String (Bool×eJ))with|.error why=>_|.ok (false,seen)=>_|.ok (true,seen)=>_:M)=_;rw[beq_eq_false_iff_ne.mpr h2];rfl
 ·rw[if_neg (λh=>h1 h.1)]
  show(if pos>=text.size then _ else _:M)=_;rw[if_pos (iH.mp h1)];rfl
theorem JE:(B2 text s frames weight 19 pos handed outer none seen).step =
 (if pos<text.size/\text.getD pos 0=10 then B2 text s frames weight 21 (pos+1) handed outer none (seen.add 16)else B2 text s frames weight 19 pos handed outer (some false) (seen.add 16)):=by
 by_cases h1:pos<text.size
 ·by_cases h2:text.getD pos 0=10
  ·rw[if_pos ⟨h1,h2⟩]
   show(if pos>=text.size then _ else _:M)=_;rw[if_neg (jX.mpr h1)];show(match(iG (text.getD pos 0==10,seen.add 16):Except String (Bool×eJ))with|.error why=>_|.ok (false,seen)=>_|.ok (true,seen)=>_:M)=_;rw[h2];rfl
  ·rw[if_neg (λh=>h2 h.2)]
   show(if pos>=text.size then _ else _:M)=_;rw[if_neg (jX.mpr h1)];show(match(iG (text.getD pos 0==10,seen.add 16):Except String (Bool×eJ))with|.error why=>_|.ok (false,seen)=>_|.ok (true,seen)=>_:M)=_;rw[beq_eq_false_iff_ne.mpr h2];rfl
 ·rw[if_neg (λh=>h1 h.1)]
  show(if pos>=text.size then _ else _:M)=_;rw[if_pos (iH.mp h1)];rfl
theorem WY:(B2 text s frames weight 24 pos handed outer none seen).step =
 (if pos<text.size/\text.getD pos 0=13 then B2 text s frames weight 26 (pos+1) handed outer none (seen.add 16)else B2 text s frames weight 24 pos handed outer (some false) (seen.add 16)):=by
 by_cases h1:pos<text.size
 ·by_cases h2:text.getD pos 0=13
  ·rw[if_pos ⟨h1,h2⟩]
   show(if pos>=text.size then _ else _:M)=_;rw[if_neg (jX.mpr h1)];show(match(iG (text.getD pos 0==13,seen.add 16):Except String (Bool×eJ))with|.error why=>_|.ok (false,seen)=>_|.ok (true,seen)=>_:M)=_;rw[h2];rfl
  ·rw[if_neg (λh=>h2 h.2)]
   show(if pos>=text.size then _ else _:M)=_;rw[if_neg (jX.mpr h1)];show(match(iG (text.getD pos 0==13,seen.add 16):Except String (Bool×eJ))with|.error why=>_|.ok (false,seen)=>_|.ok (true,seen)=>_:M)=_;rw[beq_eq_false_iff_ne.mpr h2];rfl
 ·rw[if_neg (λh=>h1 h.1)]
  show(if pos>=text.size then _ else _:M)=_;rw[if_pos (iH.mp h1)];rfl
theorem Xn:(B2 text s frames weight 29 pos handed outer none seen).step =
 (if pos<text.size/\text.getD pos 0=10 then B2 text s frames weight 31 (pos+1) handed outer none (seen.add 16)else B2 text s frames weight 29 pos handed outer (some false) (seen.add 16)):=by
 by_cases h1:pos<text.size
 ·by_cases h2:text.getD pos 0=10
  ·rw[if_pos ⟨h1,h2⟩]
   show(if pos>=text.size then _ else _:M)=_;rw[if_neg (jX.mpr h1)];show(match(iG (text.getD pos 0==10,seen.add 16):Except String (Bool×eJ))with|.error why=>_|.ok (false,seen)=>_|.ok (true,seen)=>_:M)=_;rw[h2];rfl
  ·rw[if_neg (λh=>h2 h.2)]
   show(if pos>=text.size then _ else _:M)=_;rw[if_neg (jX.mpr h1)];show(match(iG (text.getD pos 0==10,seen.add 16):Except String (Bool×eJ))with|.error why=>_|.ok (false,seen)=>_|.ok (true,seen)=>_:M)=_;rw[beq_eq_false_iff_ne.mpr h2];rfl
 ·rw[if_neg (λh=>h1 h.1)]
  show(if pos>=text.size then _ else _:M)=_;rw[if_pos (iH.mp h1)];rfl
theorem VR:(B2 text s frames weight 16 pos handed outer none seen).step =B2 text s frames weight 35 pos handed outer none (seen.add 15):=by rfl
theorem Wb:(B2 text s frames weight 21 pos handed outer none seen).step =B2 text s frames weight 35 pos handed outer none (seen.add 15):=by rfl
theorem VC:(B2 text s frames weight 32 pos handed outer none seen).step =B2 text s frames weight 35 pos handed outer none (seen.add 15):=by rfl
theorem CF:(B2 text s frames weight 35 pos handed outer none seen).step =B2 text s frames weight 35 pos pos outer (some true) (seen.add 1):=by
 show(if(outer&&((false&&pos !=text.size)||(false&&pos==s)))=true then _ else _:M)=_;simp;rfl
theorem A_(first:Bool):(B2 text s [kL s first] 1 10 s s first none seen).step =B2 text s [m9 s 11 first,kL s first] 2 12 s s first none (seen.add 7):=by rfl
theorem Jd(first:Bool)(p h:Nat)(o:Bool)(pc:Nat):(B2 text s [m9 s 11 first,kL s first] 2 pc p h o (some false) seen).step =B2 text s [m9 s 18 first,kL s first] 2 19 s s first none seen:=by rfl
theorem VQ(first:Bool)(p h:Nat)(o:Bool)(pc:Nat):(B2 text s [m9 s 18 first,kL s first] 2 pc p h o (some false) seen).step =B2 text s [m9 s 23 first,kL s first] 2 24 s s first none seen:=by rfl
theorem UR(first:Bool)(p:Nat):(B2 text s [m9 s 23 first,kL s first] 2 26 p handed first none seen).step =B2 text s [JI p first,m9 s 23 first,kL s first] 3 29 p p false none (seen.add 5):=by rfl
theorem Vq(first:Bool)(p q h:Nat)(pc:Nat):(B2 text s [JI p first,m9 s 23 first,kL s first] 3 pc q h false (some false) seen).step =B2 text s [m9 s 23 first,kL s first] 2 32 p h first none seen:=by rfl
theorem C1(first:Bool)(b p h pc:Nat)(o:Bool):∃m,runFor 3 (B2 text s [m9 s b first,kL s first] 2 pc p h o (some true) seen)=m/\m.outcome=some .matched /\m.start=s/\m.handed=h:=⟨_,rfl,rfl,rfl,rfl⟩
end
noncomputable def mM(text:Array Nat)(s:Nat):Bool:=decide (s<text.size)&&(text.getD s 0==10||text.getD s 0==13)
noncomputable def kZ(text:Array Nat)(s:Nat):Nat:=if text.getD s 0=13/\s+1<text.size/\text.getD (s+1) 0=10 then s+2 else s+1
noncomputable def mA(text:Array Nat):Nat->Nat->Option Nat
 |0,_=>none
 |k+1,s=>if mM text s=true then some s else mA text k (s+1)
theorem Aj(t:Array Nat)(k s:Nat):mA t (k+1) s=if mM t s=true then some s else mA t k (s+1):=rfl
theorem X6(text:Array Nat)(s:Nat)(h:mM text s=true)(first:Bool)(seen:eJ):∃N m,N<=20/\runFor N (B2 text s [kL s first] 1 10 s s first none seen)=m/\m.outcome=some .matched /\m.start=s/\m.handed=kZ text s:=by
 unfold mM at h;rw[gG,oY]at h;obtain⟨hs,hc⟩:=h;have hs:=of_decide_eq_true hs;by_cases J:text.getD s 0=13
 ·by_cases O:s+1<text.size/\text.getD (s+1) 0=10
  ·have e:kZ text s=s+2:=if_pos ⟨J,O.1,O.2⟩
   refine jl (C1 text s ((((((seen.add 7).add 16).add 16).add 15).add 1)) first 11 (s+1+1) (s+1+1) 35 first) λm hm h1 h2 h3=>?_;refine⟨3+1+1+1+1+1,m,by exact dg ..,?_,h1,h2,by rw[h3,e]⟩;rw[dj rfl,A_,dj rfl,CY,if_pos ⟨hs,J⟩,dj rfl,JM,if_pos O,dj rfl,VR,dj rfl,CF];exact hm
  ·have e:kZ text s=s+1:=if_neg (λz=>O z.2)
   have R:¬text.getD s 0=10:=by rw[J];decide
   refine jl (C1 text s (((((((((seen.add 7).add 16).add 16).add 16).add 16).add 5).add 16).add 15).add 1) first 23 (s+1) (s+1) 35 first) λm hm h1 h2 h3=>?_;refine⟨3+1+1+1+1+1+1+1+1+1+1+1+1,m,by exact oS (dg ..),?_,h1,h2,by rw[h3,e]⟩;rw[dj rfl,A_,dj rfl,CY,if_pos ⟨hs,J⟩,dj rfl,JM,if_neg O,dj rfl,Jd,dj rfl,JE,if_neg (λz=>R z.2),dj rfl,VQ,
    dj rfl,WY,if_pos ⟨hs,J⟩,dj rfl,UR,dj rfl,Xn,if_neg O,dj rfl,Vq,dj rfl,VC,dj rfl,CF]
   exact hm
 ·have O:text.getD s 0=10:=by
   rcases hc with hc|hc
   ·exact beq_iff_eq.mp hc
   ·exact absurd (beq_iff_eq.mp hc) J
  have e:kZ text s=s+1:=if_neg (λz=>J z.1);refine jl (C1 text s (((((seen.add 7).add 16).add 16).add 15).add 1) first 18 (s+1) (s+1) 35 first) λm hm h1 h2 h3=>?_;refine⟨3+1+1+1+1+1+1,m,by exact dg ..,?_,h1,h2,by rw[h3,e]⟩;rw[dj rfl,A_,dj rfl,CY,if_neg (λz=>J z.2),dj rfl,Jd,dj rfl,JE,if_pos ⟨hs,O⟩,dj rfl,Wb,dj rfl,CF];exact hm
theorem Uu(c:Nat)(seen:eJ):∃J,inSet ke c ke.size 5 true seen=.ok (c==10||c==13,J):=by
 show∃J,(if(c==10)=true then iG (true,seen.add 16)else(if(c==13)=true then iG (true,(seen.add 16).add 16)else iG (false,((seen.add 16).add 16).add 0)):Except String (Bool×eJ))=_;cases c==10<;>cases c==13<;>exact⟨_,rfl⟩
theorem Mq(text:Array Nat)(m:M)(hc:m.code=ke)(ht:m.text=text)(hl:m.lim=text.size):∀k s fuel seen,text.size -s=k->k<fuel->∃J,admitted m fuel s seen=.ok (mA text k s,J):=by
 intro k;induction k with
 |zero=>
  intro s fuel seen hk hf;cases fuel with
  |zero=>exact absurd hf (jI _)
  |succ fuel=>
   refine⟨seen,?_⟩;unfold admitted;rw[if_pos (by rw[hl];exact xO hk)];rfl
 |succ k N=>
  intro s fuel seen hk hf;cases fuel with
  |zero=>exact absurd hf (gk _)
  |succ fuel=>
   unfold admitted;rw[Aj];rw[if_neg (by rw[hl];exact YM hk),hc,ht];refine bO (Uu (text.getD s 0) seen) λJ e=>?_;rw[e];have hs:s<text.size:=by exact G9 hk
   have O:mM text s=(text.getD s 0==10||text.getD s 0==13):=by unfold mM;rw[decide_eq_true hs,Bq]
   rw[O];cases text.getD s 0==10||text.getD s 0==13 with
   |true=>exact⟨J,rfl⟩
   |false=>exact N (s+1) fuel J (by exact congrArg qj hk) (by exact Bw hf)
theorem EF(text:Array Nat):∀k s e,mA text k s=some e->mM text e=true:=by
 intro k;induction k with
 |zero=>
  intro _ _ h;cases h
 |succ k J=>
  intro s e h;rw[Aj]at h;split at h
  ·rename_i q;cases h;exact q
  ·exact J (s+1) e h
noncomputable def qT:eJ:=({}:eJ).add 14
theorem L4(text:Array Nat)(s:Nat)(J:Bool):∃m0:M,m0.outcome=none/\m0.frames=[]/\forSearch ov text 0 s text.size J=(if(decide (s>text.size)||decide (text.size -s<1))=true then m0.say false else A1 text s true J qT):=
 ⟨{code:=ov,text,lim:=text.size,start:=s,pc:=5,pos:=s,handed:=s,marks:=#[],mustAdvance:=J,seen:=qT},rfl,rfl,rfl⟩
theorem LW(text:Array Nat)(s:Nat):∃m0 m1:M,m0.outcome=none/\m0.frames=[]/\m1.code=ke/\m1.text=text/\m1.lim=text.size/\
 forSearch ke text 0 s text.size false=(if(decide (s>text.size)||decide (text.size -s<1))=true then m0.say false else match admitted m1 (text.size+1 -s) s qT with
  |.ok (some s',sn)=>B2 text s' [kL s' true] 1 10 s' s' true none sn
  |.ok (none,sn)=>({m1 with seen:=sn}:M).say false
  |.error why=>m1.stick why)/\m1.outcome=none/\m1.frames=[]:=
 ⟨{code:=ke,text,lim:=text.size,start:=s,pc:=10,pos:=s,handed:=s,marks:=#[],seen:=qT},
  {code:=ke,text,lim:=text.size,start:=s,lastStart:=text.size,pc:=10,pos:=s,handed:=s,marks:=#[],seen:=qT},rfl,rfl,rfl,rfl,rfl,rfl,rfl,rfl⟩
theorem Ad{m:M}(h1:m.outcome=none)(h2:m.frames=[]):(runFor 1 (m.say false)).outcome =some .failed :=by
 have:(m.say false).outcome.isSome =false:=by show m.outcome.isSome=false;rw[h1];rfl
 rw[dj this 0];show((m.say false).step).outcome =_;unfold M.step;rw[if_neg (by rw[this];decide)];show M.outcome (match some false,m.frames with|some yes,[]=>_|some yes,f::rest=>_|none,_=>_)=_;rw[h2];rfl
theorem Tq(text:Array Nat)(s:Nat)(hs:s<=text.size)(J:Bool):∃N m,N<=4*text.size+8/\runFor N (forSearch ov text 0 s text.size J)=m/\
 (match nU text (text.size -s) s with|some e=>m.outcome=some .matched /\m.start=e/\m.handed=e+1|none=>m.outcome=some .failed):=by
 refine di (L4 text s J) λm0 h1 h2 h3=>?_;rw[h3];by_cases q:s<text.size
 ·rw[if_neg (by rw[oY];rintro(z|z)<;>(have:=of_decide_eq_true z;(first|exact J9 q (of_decide_eq_true z)|exact absurd q (NG (of_decide_eq_true z)))))]
  refine fH (Yh text (text.size -s) s rfl hs true J qT) λN m a b c=>?_;exact⟨N,m,by exact aw a (iR (h_ 4 (iU ..)) 8),b,c⟩
 ·rw[if_pos (by rw[oY];right;exact decide_eq_true (by exact J_ hs q))]
  refine⟨1,_,by exact uk _,rfl,?_⟩
  have:text.size -s=0:=by exact si (fC q)
  rw[this];exact Ad h1 h2
theorem RN(text:Array Nat)(s:Nat)(hs:s<=text.size):∃N m,N<=20/\runFor N (forSearch ke text 0 s text.size false)=m/\
 (match mA text (text.size -s) s with|some e=>m.outcome=some .matched /\m.start=e/\m.handed=kZ text e|none=>m.outcome=some .failed):=by
 refine Af (LW text s) λm0 m1 h1 h2 R S U O=>?_;obtain⟨h3,Y,h5⟩:=O;rw[h3];by_cases q:s<text.size
 ·rw[if_neg (by rw[oY];rintro(z|z)<;>(have:=of_decide_eq_true z;(first|exact J9 q (of_decide_eq_true z)|exact absurd q (NG (of_decide_eq_true z)))))]
  refine bO (Mq text m1 R S U (text.size -s) s (text.size+1 -s) qT rfl (by exact YD hs)) λJ e=>?_;rw[e];cases hf:mA text (text.size -s) s with
  |none=>exact⟨1,_,by exact dg ..,rfl,Ad (m:={m1 with seen:=J}) Y h5⟩
  |some e=>
   refine fH (X6 text e (EF text _ _ _ hf) true J) λN m a b c=>?_;exact⟨N,m,a,b,c⟩
 ·rw[if_pos (by rw[oY];right;exact decide_eq_true (by exact J_ hs q))]
  refine⟨1,_,by exact dg ..,rfl,?_⟩
  have:text.size -s=0:=by exact si (fC q)
  rw[this];exact Ad h1 h2
section
variable{prog:ft}{w:dB}{A:bg}{E:af->ah->Prop}{s:ah}
structure kc(h:aO)(p c:ak)(code:Array Nat):Prop where
 pat:∃a0 f0 t t',h.get? p=some {cls:=.type "re.Pattern",data:=.fields #[a0,f0,.int 0 t,.none,.none,.ref c,.int 0 t']}
 code:h.get? c=some {cls:=.type "tuple",data:=.seq (code.map λ(n:Nat)=>bV (n:Int) 0)}
theorem kc.keeps{h h':aO}{p c:ak}{code:Array Nat}(P:kc h p c code)(k:∀b o,h.get? b=some o->h'.get? b=some o):kc h' p c code:=
 ⟨P.pat.imp λa q=>q.imp λb q=>q.imp λt q=>q.imp λt'=>k _ _,k _ _ P.code⟩
noncomputable def target(p:ak)(x:ae)(t:Tok)(code:Array Nat):Nt:=
 {pattern:=.ref p,string:=.str x t,code:=code,text:=x.cps,kind:=0,groups:=0,pos:=0,lim:=x.cps.size}
theorem DR{p c:ak}{code:Array Nat}{x:ae}{t:Tok}{Q:Nt->ah->Prop}(P:kc s.heap p c code)(h:Q (target p x t code) s):
 wpAny (model prog w) A (PA (.ref p) (.str x t)) Q E s:=by
 refine nc P.pat λa0 f0 t1 N J=>?_;unfold PA;refine ar (wpAny_fieldsOf J rfl ?_);refine ar (m:=Zh _) (ef (a:=(x.cps,0)) (by rfl) ?_);dsimp only;rw[if_neg (λh=>absurd ((nK.mp h).2) (by decide))];show wpAny _ _ (if((0:Nat)==1&&(0:Nat)==0)=true then _ else _) _ _ _;rw[if_neg (by decide)];refine ar (m:=ZE _ _) (ef (a:=()) (by rfl) ?_);show wpAny _ _ (Pg (.ref c)>>= _) _ _ _;refine ar ?_;unfold Pg;refine ar (xC P.code rfl (aU (aU ?_)));have e:(((some (code.map λ(n:Nat)=>bV (n:Int) 0)).getD #[]).map Nn).map (·.toNat)=code:=by
  simp only[Hx,Array.map_map];apply OS;simp[Nn,A7]
 rw[e];exact h
theorem LQ(seen:eJ)(names:Array String){Q:PUnit->ah->Prop}(h:Q ⟨⟩ s):∀l:List Nat,
 wpAny (model prog w) A (forIn l wM λi r=>(if seen.has i=true then do rule (names.getD i "");pure (kD wM)else pure (kD wM))) Q E s:=by
 intro l;induction l with
 |nil=>
  rw[PI];exact aU h
 |cons i l J=>
  rw[B6];refine ar ?_;split
  ·exact ar (nM (aU (J)))
  ·exact aU (J)
theorem KW{m m':M}{N:Nat}{Q:Option M->ah->Prop}(J:N<4*2^64)(hr:runFor N m=m')(ho:m'.outcome=some .matched \/m'.outcome=some .failed)
 (h:Q (match m'.outcome with|some .matched =>some m'|_=>none) s):wpAny (model prog w) A (PO m) Q E s:=by
 unfold PO;refine ar (drive (m':=m') (by rcases ho with e|e<;>rw[e]<;>rfl) ?_ (2^64) N m J hr);refine ar ?_;refine LQ m'.seen Sre.names ?_ _;rcases ho with e|e
 ·rw[e]at h ⊢;exact aU h
 ·rw[e]at h ⊢;exact aU h
end
open PySem.Builtin.Str (glued tooLong)
noncomputable def lN(text J:List Nat)(fnd:Nat->Option (Nat×Nat)):Nat->Nat->List Nat
 |0,_=>[]
 |k+1,s=>match fnd s with
  |some (e,h)=>(text.drop s).take (e -s)++J++lN text J fnd k h
  |none=>text.drop s
theorem wg:plainId "re.Pattern.sub.loop"=true:=by decide+kernel
theorem DM:entryFor table "re.Pattern.sub.loop"=some Builtin.«re.Pattern.sub.loop»:=entryFor_of_fast (by kernel_rfl)
noncomputable def textOf(ps:List (ae×Tok)):List Nat:=(ps.map λp=>p.1.cps.toList).flatten
section
variable{prog:ft}{w:dB}{A:bg}{E:af->ah->Prop}
theorem zY{L:ak}{ps:List (ae×Tok)}{ep:Nat}{y:ae}{ty:Tok}{s:ah}{Q:Unit->ah->Prop}(hL:s.heap.get? L=some {cls:=.type "list",dict:=none,data:=.seq (strValues ps).toArray ep,slots:=#[]})(J:ps.length<=300000)
 (K:∀h' N,h'.get? L=some {cls:=.type "list",dict:=none,data:=.seq (strValues (ps++[(y,ty)])).toArray N,slots:=#[]}->(∀b o,b≠L->s.heap.get? b=some o->h'.get? b=some o)->Q () {s with heap:=h'}):
 wpAny (model prog w) A (updateSeq L λxs=>xs.push (.str y ty)) Q E s:=by
 have hlen:(strValues ps).length =ps.length:=aQ ..;refine wpAny_updateSeq hL rfl ?_ (by rw[sizeLine_eq];simp[hlen];exact aw J (dg ..)) (by rw[sizeLine_eq];simp[hlen];exact aw J (dg ..));have e:=r8 hL (λxs=>xs.push (.str y ty));have O:(strValues ps).toArray.push (.str y ty)=(strValues (ps++[(y,ty)])).toArray :=by simp[strValues]
 rw[O]at e;exact K _ _ e λb o ne h=>by rw[lA _ _ _ _ ne];exact h
theorem wq(ps:List (ae×Tok))(y:ae)(ty:Tok):textOf (ps++[(y,ty)])=textOf ps++y.cps.toList:=by simp[textOf]
theorem Lu:∀texts:List ae,AB ⟨#[]⟩ texts=⟨((texts.map λx=>x.cps.toList).flatten).toArray⟩:=by
 intro texts;show glued ⟨#[]⟩ texts=_;rw[Zo];induction texts with
 |nil=>rfl
 |cons x r J=>
  cases r with
  |nil=>
   obtain⟨c⟩:=x;simp[Nu]
  |cons y r=>
   show x++(⟨#[]⟩:ae)++Nu ⟨#[]⟩ (y::r)=_;rw[J];have key:∀(a b:Array Nat),((⟨a⟩:ae)++(⟨#[]⟩:ae)++(⟨b⟩:ae))=⟨a++b⟩:=λa b=>by
    show(⟨(a++#[])++b⟩:ae)=_;rw[Ow]
   obtain⟨c⟩:=x;rw[key];simp
theorem L5:∀(texts:List ae)(n:Nat),texts.toArray.foldl (·+·.length +(⟨#[]⟩:ae).length) n=n+((texts.map λx=>x.cps.toList).flatten).length :=by
 intro texts n;rw[<-Array.foldl_toList];show texts.foldl _ n=_;revert n;induction texts with
 |nil=>intro n;rfl
 |cons x r J=>
  intro n;rw[mV,J];have h0:(⟨#[]⟩:ae).length =0:=rfl;have N:x.length=x.cps.toList.length:=by simp;rfl
  rw[h0,N,bX,gI,aP];exact nN n x.cps.toList.length _
theorem IE{L:ak}{ps:List (ae×Tok)}{ep:Nat}{s:ah}{x:Array Nat}{Q:af->ah->Prop}(hL:s.heap.get? L=some {cls:=.type "list",dict:=none,data:=.seq (strValues ps).toArray ep,slots:=#[]})
 (N:(textOf ps).length <=8000000)(K:∀tk t',Q (.str ⟨(textOf ps).toArray⟩ t') {s with toks:=tk}){nn:Int}:
 wpAny (model prog w) A.in1 (do
  let J <-mkStr ⟨x.extract 0 0⟩;let items <-seqItems? (.ref L)
  if(items.getD #[]).isEmpty =true then do
   let text <-pure J
   if false=true then do
    let t <-holding [text] do
     let k <-mkInt nn
     newTuple [text,k]
    ret t
   else ret text
  else do
   let text <-call (.builtin (if(0==0)=true then"str.join" else"bytes.join")) [J,.ref L]
   if false=true then do
    let t <-holding [text] do
     let k <-mkInt nn
     newTuple [text,k]
    ret t
   else ret text)
  (λfin s'=>match fin with|.done f=>(match(iG f:qt)with|.ok (.ret v)=>Q v s'|.ok _=>False|.error e=>E e s')|.again c'=>c'.quiet=true/\codeAny (model prog w) A c' (λr s'=>match r with|.ok (.ret v)=>Q v s'|.ok _=>False|.error e=>E e s') s')
  E s:=by
 have R:x.extract 0 0=#[]:=by simp
 rw[R];refine ar (GD ?_ (by show(0:Nat)<=_;exact cJ _));refine ar (xC hL rfl ?_);cases ps with
 |nil=>
  rw[if_pos (by rfl)];refine ar (aU ?_);rw[if_neg (by decide)];exact aU (K (s.toks+1) s.toks)
 |cons q r=>
  rw[if_neg (by simp[strValues])];refine ar ?_;show wpAny _ _ (call (.builtin "str.join") [.str ⟨#[]⟩ s.toks,.ref L]) _ _ _;have O:(((q::r).map (·.1)).map λx:ae=>x.cps.toList).flatten =textOf (q::r):=by simp[textOf,A7]
  refine SC.join (l:=q::r) ⟨_,hL,rfl,_,rfl⟩ rfl ?_ λt' tk=>?_
  ·unfold AZ
   rw[L5,O];unfold tooLong;rw[sizeLine_eq];simp;exact aw N (dg ..)
  ·rw[Lu,O]
   rw[if_neg (by decide)];exact aU (K tk t')
theorem Q3{a e h:Nat}(b1:a<=e)(b2:e<h):20*a+(e -a)+10<=20*h:=
 aw (fV (fW (Nat.le_mul_of_pos_left (e -a) (by decide:0<20)) (20*a)) (by decide:10<=20)) (by rw[<-Nat.mul_add,qi b1];exact h_ 20 b2)
theorem T9{p c:ak}{code:Array Nat}{x r:ae}{t tr:Tok}{fnd:Nat->Option (Nat×Nat)}{L:ak}{Q:af->ah->Prop}
 (hfnd:∀a,a<=x.cps.size->(∀e h,fnd a=some (e,h)->a<=e/\e<h/\h<=x.cps.size)/\∃N m,N<4*2^64/\runFor N (forSearch code x.cps 0 a x.cps.size false)=m/\
  (match fnd a with|some (e,h)=>m.outcome=some .matched /\m.start=e/\m.handed=h|none=>m.outcome=some .failed))
 (J:x.cps.size<=100000)(hr:r.cps.size<=10):
 ∀(k:Nat)(a:Nat)(nn:Int)(ps:List (ae×Tok))(ep:Nat)(s:ah),x.cps.size -a<k->a<=x.cps.size->ps.length<=2*a->(textOf ps).length <=20*a->kc s.heap p c code->p≠L->c≠L->
  s.heap.get? L=some {cls:=.type "list",dict:=none,data:=.seq (strValues ps).toArray ep,slots:=#[]}->
  (∀h' tk t',(∀b o,b≠L->s.heap.get? b=some o->h'.get? b=some o)->Q (.str ⟨(textOf ps++lN x.cps.toList r.cps.toList fnd k a).toArray⟩ t') {s with heap:=h',toks:=tk})->
  wpAny (model prog w) A.in1 (Builtin.«re.Pattern.sub.loop» ⟨[.ref p,.str x t,.str r tr,rawInt 0,rawInt 0,rawInt nn,rawInt a,rawInt a,.bool false,.ref L,.bool false],[]⟩)
   (λfin s'=>match fin with|.done f=>(match(iG f:qt)with|.ok (.ret v)=>Q v s'|.ok _=>False|.error e=>E e s')|.again c'=>c'.quiet=true/\codeAny (model prog w) A c' (λr s'=>match r with|.ok (.ret v)=>Q v s'|.ok _=>False|.error e=>E e s') s')
   E s:=by
 intro k;induction k with
 |zero=>intro a nn ps ep s h1;exact absurd h1 (gk _)
 |succ k ih=>
  intro a nn ps ep s hk ha hpl htl P hpL hcL hL K;have hps:ps.length<=200000:=aw hpl (h_ 2 (aw ha J));have htp:(textOf ps).length <=2000000:=aw htl (h_ 20 (aw ha J));refine m_ (hfnd a ha) λhb N m hN zq4=>?_;obtain⟨hrun,hm⟩:=zq4;unfold Builtin.«re.Pattern.sub.loop»;refine ar (DR P ?_);refine ar ?_;rw[if_neg (by simp)];simp only[xf];refine ef (a:=()) (by rfl) ?_;unfold Zs;refine ar ?_;refine KW (m:=forSearch code x.cps 0 a x.cps.size false) hN hrun (by
   cases hf:fnd a with
   |none=>rw[hf]at hm;exact .inr hm
   |some q=>rw[hf]at hm;exact .inl hm.1) ?_
  cases hf:fnd a with
  |none=>
   rw[hf]at hm;rw[hm];dsimp only;have R:lN x.cps.toList r.cps.toList fnd (k+1) a=x.cps.toList.drop a:=by
    show(match fnd a with|some (e,h)=>_|none=>_)=_;rw[hf]
   by_cases hal:a<x.cps.size
   ·rw[if_pos (show a<(target p x t code).lim from hal)]
    refine ar ?_;show wpAny _ _ (mkStr ⟨x.cps.extract a x.cps.size⟩) _ _ _;refine GD ?_ (by show(x.cps.extract a x.cps.size).size <=_;rw[O5];exact aw (iU ..) (aw (uC ..) (aw J (by decide))));refine ar (zY hL (aw hps (by decide)) λh' Y S U=>?_);have e1:textOf (ps++[(⟨x.cps.extract a x.cps.size⟩,s.toks)])=textOf ps++lN x.cps.toList r.cps.toList fnd (k+1) a:=by
     rw[wq,R];simp[HB,kx]
    refine IE (x:=x.cps) (nn:=nn) (s:={s with heap:=h',toks:=s.toks+1}) S ?_ λtk t'=>?_
    ·have hx:x.cps.toList.length=x.cps.size:=uy
     rw[e1,R,aP,ez,hx];exact aw (fV htp (aw (iU ..) J)) (by decide)
    ·rw[e1];exact K h' tk t' U
   ·rw[if_neg (show¬a<(target p x t code).lim from hal)]
    have e1:textOf ps=textOf ps++lN x.cps.toList r.cps.toList fnd (k+1) a:=by
     rw[R,mj (by exact fC hal),gj]
    refine IE (x:=x.cps) (nn:=nn) hL (aw htp (by decide)) λtk t'=>?_;rw[e1];exact K s.heap tk t' λ_ _ _ q=>q
  |some q=>
   obtain⟨e,h⟩:=q;rw[hf]at hm;refine dc hm λhm1 hm2 hm3=>?_;refine dc (hb e h hf) λb1 b2 b3=>?_;have hah:=bQ b1 b2;rw[hm1];dsimp only;rw[hm2,hm3];have next:∀(O:List (ae×Tok))(ep':Nat)(s':ah),O.length<=ps.length+1->textOf O=textOf ps++(x.cps.toList.drop a).take (e -a)->(∀b o,b≠L->s.heap.get? b=some o->s'.heap.get? b=some o)->s'.gens=s.gens->s'.drawn=s.drawn->s'.os=s.os->
    s'.heap.get? L=some {cls:=.type "list",dict:=none,data:=.seq (strValues O).toArray ep',slots:=#[]}->
    wpAny (model prog w) A.in1 (do
     updateSeq L λxs=>xs.push (.str r tr)
     again (.builtin "re.Pattern.sub.loop" ⟨[.ref p,.str x t,.str r tr,rawInt 0,rawInt 0,rawInt (nn+1),rawInt h,rawInt h,.bool (h==e),.ref L,.bool false],[]⟩))
     (λfin s'=>match fin with|.done f=>(match(iG f:qt)with|.ok (.ret v)=>Q v s'|.ok _=>False|.error e=>E e s')|.again c'=>c'.quiet=true/\codeAny (model prog w) A c' (λr s'=>match r with|.ok (.ret v)=>Q v s'|.ok _=>False|.error e=>E e s') s')
     E s':=by
    intro O ep' s' hl ht kk hg hd ho hL';refine ar (zY hL' (aw hl (aw (fj hps) (by decide))) λh' Y S U=>?_);refine aU ⟨Q8 wg _,xq DM ?_⟩;rw[Pk wg _];have he:(h==e)=false:=beq_eq_false_iff_ne.mpr (by exact jh b2);rw[he];have k2:∀b o,b≠L->s.heap.get? b=some o->h'.get? b=some o:=λb o ne q=>U b o ne (kk b o ne q);refine nc P.pat λa0 f0 t1 t2 hp=>?_;have P':kc h' p c code:=⟨⟨a0,f0,t1,t2,k2 _ _ hpL hp⟩,k2 _ _ hcL P.code⟩;refine ih h (nn+1) (O++[(r,tr)]) Y {s' with heap:=h'} (cK (Nat.sub_lt_sub_left (cK hah b3) hah) (fU hk)) b3 (by rw[aP];exact aw (fj (aw hl (fj hpl))) (h_ 2 hah)) ?_ P' hpL hcL S λh'' tk t' k3=>?_
    ·rw[wq,ht]
     simp only[aP,iE,ez,uy];exact aw (fV (fV htl (uC ..)) hr) (Q3 b1 b2)
    ·have:=K h'' tk t' λb o ne q=>k3 b o ne (k2 b o ne q)
     have e1:textOf (O++[(r,tr)])++lN x.cps.toList r.cps.toList fnd k h=textOf ps++lN x.cps.toList r.cps.toList fnd (k+1) a:=by
      rw[wq,ht];show _=textOf ps++(match fnd a with|some (e,h)=>_|none=>_);rw[hf];simp[dm]
     rw[e1];have e2:({s' with heap:=h'',toks:=tk}:ah)={s with heap:=h'',toks:=tk}:=by
      obtain⟨_,_,_,_,_⟩:=s';obtain⟨_,_,_,_,_⟩:=s;dsimp only at hg hd ho ⊢;subst hg hd ho;rfl
     show Q _ {s' with heap:=h'',toks:=tk};rw[e2];exact this
   by_cases hae:a<e
   ·rw[if_pos hae]
    refine ar ?_;show wpAny _ _ (mkStr ⟨x.cps.extract a e⟩) _ _ _;refine GD ?_ (by show(x.cps.extract a e).size <=_;rw[O5];exact aw (iU ..) (aw (j3 ..) (aw J (by decide))));refine ar (zY hL (aw hps (by decide)) λh' Y S U=>?_);rw[if_pos (by rfl)];refine ar (aU ?_);rw[if_pos (by rfl)];refine next (ps++[(⟨x.cps.extract a e⟩,s.toks)]) Y {s with heap:=h',toks:=s.toks+1} (by simp) ?_ U rfl rfl rfl S;rw[wq];simp[HB]
   ·rw[if_neg hae]
    rw[if_pos (by rfl)];refine ar (aU ?_);rw[if_pos (by rfl)];refine next ps ep s (oR _) ?_ (λ_ _ _ q=>q) rfl rfl rfl hL
    have:e -a=0:=si (fC hae);rw[this];simp
end
end Mine
namespace Mine
open PySem PyProof.Rows PySem.W PySem.Sre PySem.Sre.M
theorem ME:Q5.lookup (QC ['n','r','e','t','t','a','P','.','e','r'].reverse)=some Z5:=by kernel_rfl
theorem A8:qw "re.Pattern" "sub" "re.Pattern.sub":=
 .of (owner:="re.Pattern") (n:="sub") (by rw[me,mi];kernel_rfl) (by decide+kernel) (by decide+kernel) (by decide+kernel)
  (by first|exact .inl (by decide+kernel)|exact .inr (by decide+kernel)) (by rw[rP];kernel_rfl)
theorem RD:typeOf (.builtin "re.Pattern.sub")=pure (.type "method_descriptor"):=by show builtinType _=_;rw[builtinType_eq_fast];kernel_rfl
theorem entry_sub:entryFor table "re.Pattern.sub"=some Builtin.«re.Pattern.sub»:=BC (by kernel_rfl)
theorem Oo(a b c:af):argsOk "re.Pattern.sub" ⟨[a,b,c],[]⟩:=by
 unfold argsOk;rw[Hn (id:="re.Pattern.sub") (n:=['b','u','s']) (o:=['n','r','e','t','t','a','P','.','e','r']) (by kernel_rfl) ME];kernel_rfl
theorem L3:typeLookup (.type "str") "__call__"=pure none:=by rw[me,mi];kernel_rfl
section
variable{prog:ft}{w:dB}{A:bg}{E:af->ah->Prop}
theorem My(a b:af):OI "re.Pattern.sub" "sub" ["repl","string","count"] 2 [a,b] []=pure [some a,some b,none]:=by rfl
theorem FZ{p c:ak}{code:Array Nat}{x r:ae}{t tr:Tok}{fnd:Nat->Option (Nat×Nat)}{s:ah}{Q:af->ah->Prop}(P:kc s.heap p c code)
 (R:∀a,a<=x.cps.size->(∀e h,fnd a=some (e,h)->a<=e/\e<h/\h<=x.cps.size)/\∃N m,N<4*2^64/\runFor N (forSearch code x.cps 0 a x.cps.size false)=m/\
  (match fnd a with|some (e,h)=>m.outcome=some .matched /\m.start=e/\m.handed=h|none=>m.outcome=some .failed))
 (J:x.cps.size<=100000)(hr:r.cps.size<=10)(S:r.cps.contains 92=false)
 (K:∀h' tk t',(∀b o,s.heap.get? b=some o->h'.get? b=some o)->Q (.str ⟨(lN x.cps.toList r.cps.toList fnd (x.cps.size+1) 0).toArray⟩ t') {s with heap:=h',toks:=tk}):
 wpAny (model prog w) A (call (.builtin "re.Pattern.sub") [.ref p,.str r tr,.str x t]) Q E s:=by
 refine nc (id P.pat) λa0 f0 t1 t2 U=>?_;have hc:=P.code;refine rQ (codeAny_call_builtin A8.plain entry_sub (A8.check _ _ _ _ _ _ _ _ ⟨_,U,rfl⟩ (Oo _ _ _) ?_));show wpAny _ _ (NV "re.Pattern.sub" "sub" false ⟨[.ref p,.str r tr,.str x t],[]⟩) _ _ _;unfold NV;refine ar (m:=OI _ _ _ _ _ _) (ef (My _ _) ?_);dsimp only;refine ar (aU ?_);refine ar (nT (qn _ _ _) L3 ?_);rw[if_neg (by simp)];refine ar (m:=asStr? _) (ef (a:=some r) (by rfl) ?_);dsimp only;refine ar (aU ?_);rw[if_neg (by simp),S];rw[if_pos (by rfl)];refine ar (aU ?_);refine ar (mh (DR P ?_));dsimp only;rw[if_neg (by simp)];refine ar (xK ?_ (by simp));refine aU ⟨Q8 wg _,xq DM ?_⟩;rw[Pk wg _];have Y:=dn s.heap {cls:=.type "list",data:=.seq ([]:List af).toArray };have O:∀b o,s.heap.get? b=some o->b≠s.heap.objs.size:=λb o e z=>by rw[z,fQ]at e;cases e
 have:=T9 (prog:=prog) (w:=w) (A:=A) (E:=E) (t:=t) (tr:=tr) (L:=s.heap.objs.size) (Q:=Q) R J hr (x.cps.size+1) 0 0 [] 0
  {s with heap:=s.heap.push {cls:=.type "list",data:=.seq ([]:List af).toArray }} (by exact a6 _) (cJ _) (cJ _) (cJ _) (P.keeps Y) (O _ _ U) (O _ _ hc) (dN _ rfl)
  λh' tk t' k2=>K h' tk t' λb o e=>k2 b o (O b o e) (Y b o e)
 exact this
end
noncomputable def c9:Bool->List Nat->List Nat
 |_,[]=>[]
 |b,c::r=>if(b&&c==46)=true then 46::46::c9 false r else c::c9 (c==10) r
theorem t9(b:Bool)(c:Nat)(r:List Nat):c9 b (c::r)=if(b&&c==46)=true then 46::46::c9 false r else c::c9 (c==10) r:=rfl
noncomputable def dY:List Nat->List Nat
 |[]=>[]
 |[c]=>if(c==10||c==13)=true then[13,10]else[c]
 |c::d::r=>if(c==13&&d==10)=true then 13::10::dY r else if(c==10||c==13)=true then 13::10::dY (d::r)else c::dY (d::r)
noncomputable def jT(text:Array Nat)(s:Nat):Option (Nat×Nat):=(nU text (text.size -s) s).map λe=>(e,e+1)
noncomputable def jP(text:Array Nat)(s:Nat):Option (Nat×Nat):=(mA text (text.size -s) s).map λe=>(e,kZ text e)
theorem Ej(text:Array Nat):∀k s e,nU text k s=some e->lg text e=true/\s<=e:=by
 intro k;induction k with
 |zero=>
  intro _ _ h;cases h
 |succ k J=>
  intro s e h;rw[EI]at h;split at h
  ·rename_i q;cases h;exact⟨q,a6 _⟩
  ·have:=J (s+1) e h
   exact⟨this.1,by exact cq this.2⟩
theorem EG(text:Array Nat):∀k s e,mA text k s=some e->s<=e:=by
 intro k;induction k with
 |zero=>
  intro _ _ h;cases h
 |succ k J=>
  intro s e h;rw[Aj]at h;split at h
  ·cases h;exact a6 _
  ·have:=J (s+1) e h;exact cq this
theorem ub(l:List Nat)(s:Nat)(h:s<l.length):l.drop s=(l.toArray.getD s 0)::l.drop (s+1):=by
 rw[BB h];congr 1
 simp[Array.getD,h]
theorem Rx(text:List Nat):∀k s f,text.length -s=k->s<=text.length->k<f->lN text [46,46] (jT text.toArray) f s=c9 (oq text.toArray s) (text.drop s):=by
 intro k;induction k with
 |zero=>
  intro s f hk hs hf;cases f with
  |zero=>exact absurd hf (jI _)
  |succ f=>
   have e:jT text.toArray s=none:=by unfold jT;rw[dI,hk];rfl
   have d:text.drop s=[]:=mj (xO hk);show(match jT text.toArray s with|some (e,h)=>_|none=>_)=_;rw[e,d];rfl
 |succ k ih=>
  intro s f hk hs hf;cases f with
  |zero=>exact absurd hf (gk _)
  |succ f=>
   have N:s<text.length:=G9 hk;have hd:=ub text s N;have J:oq text.toArray (s+1)=(text.toArray.getD s 0==10):=by
    unfold oq;rw[show((s+1==0):Bool)=false by simp,OP,Of]
   have O:lg text.toArray s=(oq text.toArray s&&text.toArray.getD s 0==46):=by
    unfold lg;rw[dI,decide_eq_true N,Bool.and_true]
   show(match jT text.toArray s with|some (e,h)=>_|none=>_)=_;rw[hd];by_cases q:lg text.toArray s=true
   ·have e:jT text.toArray s=some (s,s+1):=by
     unfold jT;rw[dI,hk];exact congrArg (lD _) (if_pos q)
    rw[e];dsimp only;rw[ih (s+1) f (congrArg qj hk) (by exact N) (by exact fU hf),J];rw[O]at q;have S:text.toArray.getD s 0=46:=by rw[gG]at q;exact beq_iff_eq.mp q.2
    rw[t9,if_pos q,S];simp
   ·have e:jT text.toArray s=jT text.toArray (s+1):=by
     unfold jT;rw[dI,hk,show text.length -(s+1)=k from congrArg qj hk];show(if lg text.toArray s=true then some s else _).map _=_;rw[if_neg q]
    have R:=ih (s+1) (f+1) (congrArg qj hk) (by exact N) (by exact cq hf);rw[J]at R;rw[t9,<-O,if_neg q,<-R,e];show _=_::(match jT text.toArray (s+1)with|some (e,h)=>_|none=>_);cases he:jT text.toArray (s+1)with
    |none=>rfl
    |some p=>
     obtain⟨U,h1⟩:=p
     have:s+1<=U:=by
      unfold jT at he;simp only[ji]at he;refine aG he λe2 Y q2=>?_;cases q2
      exact(Ej _ _ _ _ Y).2
     dsimp only;rw[show U -s=(U -(s+1))+1 from(RI (FR this)).symm,Qd];simp
theorem GN:dY []=[]:=rfl
theorem Qm(b:Bool):c9 b []=[]:=rfl
theorem wO(c:Nat):dY [c]=if(c==10||c==13)=true then[13,10]else[c]:=rfl
theorem sa(c d:Nat)(r:List Nat):dY (c::d::r)=if(c==13&&d==10)=true then 13::10::dY r else if(c==10||c==13)=true then 13::10::dY (d::r)else c::dY (d::r):=rfl
theorem RK(text:List Nat):∀k s f,text.length -s=k->s<=text.length->k<f->lN text [13,10] (jP text.toArray) f s=dY (text.drop s):=by
 intro k;induction k using Nat.strongRecOn with
 |ind k Y=>
  intro s f hk hs hf;cases f with
  |zero=>exact absurd hf (gk _)
  |succ f=>
   by_cases N:s<text.length
   ·have hd:=ub text s N
    have R:mM text.toArray s=(text.toArray.getD s 0==10||text.toArray.getD s 0==13):=by
     unfold mM;rw[dI,decide_eq_true N,Bq]
    show(match jP text.toArray s with|some (e,h)=>_|none=>_)=_;have S:text.length -(s+1)<k:=hk▸Nat.sub_succ_lt_self _ _ N;have d2:text.length -(s+2)<k:=bQ (Nat.pred_le _) S;have hf:=fU hf;refine bO (Nat.exists_eq_succ_of_ne_zero (FR N)) λk' O=>?_;by_cases q:mM text.toArray s=true
    ·have e:jP text.toArray s=some (s,kZ text.toArray s):=by
      unfold jP;rw[dI,O];exact congrArg (lD _) (if_pos q)
     rw[e];dsimp only;rw[R]at q;by_cases two:text.toArray.getD s 0=13/\s+1<text.length/\text.toArray.getD (s+1) 0=10
     ·have U:kZ text.toArray s=s+2:=by unfold kZ;rw[dI,if_pos two]
      have hd2:=ub text (s+1) two.2.1;rw[U,Y _ d2 (s+2) f rfl (by exact two.2.1) (cK d2 hf),hd,hd2,sa,two.1,two.2.2];simp
     ·have U:kZ text.toArray s=s+1:=by unfold kZ;rw[dI,if_neg two]
      rw[U,Y _ S (s+1) f rfl (by exact N) (cK S hf),hd];by_cases J:s+1<text.length
      ·have hd2:=ub text (s+1) J
       rw[hd2,sa,if_neg,if_pos q]
       ·simp
       ·intro z
        rw[gG]at z;exact two ⟨beq_iff_eq.mp z.1,J,beq_iff_eq.mp z.2⟩
      ·have:text.drop (s+1)=[]:=mj (by exact fC J)
       rw[this,wO,if_pos q];rw[kH];rfl
    ·have e:jP text.toArray s=jP text.toArray (s+1):=by
      unfold jP;rw[dI,O,show text.length -(s+1)=k' from congrArg qj O];show(if mM text.toArray s=true then some s else _).map _=_;rw[if_neg q]
     have ihs:=Y _ S (s+1) (f+1) rfl (by exact N) (rT (cK S hf));rw[R]at q;have rhs:dY (text.drop s)=text.toArray.getD s 0::dY (text.drop (s+1)):=by
      rw[hd];by_cases J:s+1<text.length
      ·have hd2:=ub text (s+1) J
       rw[hd2,sa,if_neg,if_neg q];intro z;rw[gG]at z;exact q (by rw[z.1,Bool.or_true])
      ·have:text.drop (s+1)=[]:=mj (by exact fC J)
       rw[this,wO,if_neg q];rfl
     rw[rhs,<-ihs,e];show _=_::(match jP text.toArray (s+1)with|some (e,h)=>_|none=>_);cases he:jP text.toArray (s+1)with
     |none=>exact hd
     |some p=>
      obtain⟨e1,h1⟩:=p
      have:s+1<=e1:=by
       unfold jP at he;simp only[ji]at he;refine aG he λU he2 q2=>?_;cases q2
       exact EG _ _ _ _ he2
      dsimp only;rw[hd,show e1 -s=(e1 -(s+1))+1 from(RI (FR this)).symm,Qd];simp
   ·have e:jP text.toArray s=none:=by unfold jP;rw[dI,si (fC N)];rfl
    have d:text.drop s=[]:=mj (by exact fC N);show(match jP text.toArray s with|some (e,h)=>_|none=>_)=_;rw[e,d];rfl
noncomputable def vZ(avs:List AV)(st:St):Option (AV×St):=(a3 avs).bind λp=>p.1.v?.bind λw=>p.2.1.s?.bind λr=>p.2.2.s?.bind λx=>
 if x.cps.size<=100000 then(if w=.ref 92/\r.cps=#[46,46]then some (.str ⟨(c9 true x.cps.toList).toArray⟩,st)else none).or (if w=.ref 97/\r.cps=#[13,10]then some (.str ⟨(dY x.cps.toList).toArray⟩,st)else none)else none
section
variable{C:Cfg}{n:Nat}
theorem Ia(P1:kc C.base 92 91 ov)(P2:kc C.base 97 96 ke):eP C n (.builtin "re.Pattern.sub") vZ:=KC.s λ{A ρ st s avs vs Q E} hA R rv h=>rv.a3 h.bind λa V b W c X ra rb rc h=>by
 have h:=ra.v h.bind;refine rb.s h.bind λr tr h=>rc.s h.bind λx t h=>?_;obtain⟨hs,h⟩:=h.ite;rcases h.or with h|h
 ·obtain⟨⟨rfl,hr⟩,S⟩:=h.ite
  refine FZ (P1.keeps R.keep) (fnd:=jT x.cps) (λa U=>⟨λe h q=>?_,?_⟩) hs (by rw[hr];decide) (by rw[hr];decide+kernel) λh' tk t' J=>?_
  ·refine aG (ji.mp q) λe2 O Y=>?_
   cases Y
   have this:=Ej _ _ _ _ O;exact⟨this.2,iJ _,of_decide_eq_true (nK.mp (nK.mp this.1).1).2⟩
  ·refine fH (Tq x.cps a U false) λN m a1 a2 a3=>?_
   refine⟨N,m,bQ (aw a1 (iR (h_ 4 hs) 8)) (by decide),a2,?_⟩;show match(nU x.cps (x.cps.size -a) a).map λe=>(e,e+1)with|some (e,h)=>m.outcome=some .matched /\m.start=e/\m.handed=h|none=>m.outcome=some .failed
   cases hf:nU x.cps (x.cps.size -a) a with
   |none=>rw[hf]at a3;exact a3
   |some e=>rw[hf]at a3;exact a3
  ·have e:lN x.cps.toList r.cps.toList (jT x.cps) (x.cps.size+1) 0=c9 true x.cps.toList:=by
    rw[hr];exact Rx x.cps.toList x.cps.size 0 (x.cps.size+1) uy (cJ _) (a6 _)
   rw[e];exact S _ ρ _ (.keeps J) (R.keeps J) ⟨_,rfl⟩
 ·obtain⟨⟨rfl,hr⟩,S⟩:=h.ite
  refine FZ (P2.keeps R.keep) (fnd:=jP x.cps) (λa U=>⟨λe h q=>?_,?_⟩) hs (by rw[hr];decide) (by rw[hr];decide+kernel) λh' tk t' J=>?_
  ·refine aG (ji.mp q) λe2 O Y=>?_
   cases Y
   have h3:=of_decide_eq_true (nK.mp (EF _ _ _ _ O)).1;refine⟨EG _ _ _ _ O,?_⟩;unfold kZ;by_cases z:x.cps.getD e 0=13/\e+1<x.cps.size/\x.cps.getD (e+1) 0=10
   ·rw[if_pos z];exact⟨oR _,z.2.1⟩
   ·rw[if_neg z];exact⟨a6 _,h3⟩
  ·obtain⟨N,m,a1,a2,a3⟩:=RN x.cps a U
   refine⟨N,m,bQ a1 (by decide),a2,?_⟩;show match(mA x.cps (x.cps.size -a) a).map λe=>(e,kZ x.cps e)with|some (e,h)=>m.outcome=some .matched /\m.start=e/\m.handed=h|none=>m.outcome=some .failed
   cases hf:mA x.cps (x.cps.size -a) a with
   |none=>rw[hf]at a3;exact a3
   |some e=>rw[hf]at a3;exact a3
  ·have e:lN x.cps.toList r.cps.toList (jP x.cps) (x.cps.size+1) 0=dY x.cps.toList:=by
    rw[hr];exact RK x.cps.toList x.cps.size 0 (x.cps.size+1) uy (cJ _) (a6 _)
   rw[e];exact S _ ρ _ (.keeps J) (R.keeps J) ⟨_,rfl⟩
noncomputable def vw(a:AV)(_:St):Option (List AV):=a.v?.bind λw=>if w=.ref 92\/w=.ref 97 then some [a]else none
theorem Kk:PlainAttrs "re.Pattern":=
 ⟨⟨"object.__getattribute__",by rw[me,mi];kernel_rfl,by decide+kernel⟩,by rw[me,mi];kernel_rfl⟩
theorem Ij(N:kc C.base 92 91 ov)(O:kc C.base 97 96 ke):gM C "sub" (.builtin "re.Pattern.sub") vw:=KR.s λ{A ρ st s a J Q E pl} R r h=>by
 obtain⟨S,h⟩:=(r.v h.bind).ite;have key:∀p,(∃c code,kc C.base p c code)->J=.ref p->wpAny (model C.prog C.w) A (getMethod J "sub" pl) Q E s:=λp P e=>by
  subst e;refine mN P λc code P=>?_;refine nc P.pat λa b t t' e=>?_;exact Ax (T:="re.Pattern") ⟨_,R.keep _ _ e,rfl⟩ Kk A8 RD (λa q=>by cases q;exact⟨_,R.keep _ _ e,rfl⟩) (h _ _ .refl R (.cons r .nil))
 exact S.elim (key _ ⟨_,_,N⟩) (key _ ⟨_,_,O⟩)
end
end Mine
namespace Mine
open PySem PyProof.Rows PySem.W PySem.Builtin PySem.Builtin.Str
noncomputable def T(l:List Nat):ae:=⟨l.toArray⟩
theorem tg{α:Type}(st ex:List α)(k:Nat):(st++ex)[st.length+k]?=ex[k]?:=by rw[jj (c8 ..),A0]
theorem zv{α:Type}(st ex:List α):(st++ex)[st.length]?=ex[0]?:=tg st ex 0
theorem Xq(a b:List Nat):T a++T b=T (a++b):=by
 show Ou _ _=_;simp[Ou,T]
theorem eQ(a:List Nat):(T a).length =a.length:=by simp[T,Str.length]
theorem vv(a:List Nat):(T a).cps =a.toArray:=rfl
theorem Jl{a b:List Nat}:T a=T b↔a=b:=by simp[T]
theorem CU{a b:List Nat}:(T a==T b)=(a==b):=by
 by_cases h:a=b
 ·subst h;simp
 ·rw[beq_false_of_ne h,beq_false_of_ne (λe=>h (Jl.mp e))]
theorem lU:dy ""=T []:=by decide+kernel
theorem Jr:dy "."=T [46]:=by decide+kernel
theorem pA:dy "..."=T [46,46,46]:=by decide+kernel
theorem XR:dy ".."=T [46,46]:=by decide+kernel
theorem v5:dy "\""=T [34]:=by decide+kernel
theorem pS:dy "\\"=T [92]:=by decide+kernel
theorem XK:dy "\"\\"=T [34,92]:=by decide+kernel
theorem XI:dy "\\ "=T [92,32]:=by decide+kernel
theorem Dy:dy "\x0a"=T [10]:=by decide+kernel
theorem XB:dy "\x09\x0d"=T [9,13]:=by decide+kernel
theorem W9:dy " \x0d\x0a"=T [32,13,10]:=by decide+kernel
theorem X_:dy "\r\n"=T [13,10]:=by decide+kernel
theorem VH:dy ".\x0a\"\""=T [46,10,34,34]:=by decide+kernel
theorem XD:dy "z "=T [122,32]:=by decide+kernel
theorem XQ:dy "z\x09"=T [122,9]:=by decide+kernel
theorem Yc:dy "\"z\""=T [34,122,34]:=by decide+kernel
theorem X7:dy "\x0a\x09\x0d "=T [10,9,13,32]:=by decide+kernel
theorem sizeLine_eq:sizeLine=16777216:=rfl
theorem PN(x:List Nat)(k:Int):px (T x) k=T (bZ k.toNat x).flatten :=rfl
theorem KL(c n:Nat):(bZ n [c]).flatten =bZ n c:=by
 induction n with
 |zero=>rfl
 |succ n J=>simp[sf,J]
theorem LF:∀(ts:List (List Nat))(acc:Array Nat),(ts.map T).foldl (λacc p=>acc++(T []).cps ++p.cps) acc=(acc.toList++ts.flatten).toArray :=by
 intro ts;induction ts with
 |nil=>
  intro acc;simp
 |cons t ts J=>
  intro acc;rw[bX,mV,J];simp[T]
theorem U4(ts:List (List Nat)):AB (T []) (ts.map T)=T ts.flatten:=by
 unfold AB glued;cases ts with
 |nil=>rfl
 |cons t ts=>
  simp only[bX,List.drop_succ_cons,An,List.headD_cons];rw[LF];simp[T]
theorem QA(ts:List (List Nat)):strsOf (ts.map λt=>.str (T t))=some (ts.map T):=by
 induction ts with
 |nil=>rfl
 |cons t ts J=>exact congrArg (lD (T t::·)) J
theorem MU(s:ae):∀(ts:List ae)(n:Nat),ts.foldl (λa t=>a+t.length+s.length) n=n+(ts.map λt=>t.length+s.length).sum :=by
 intro ts;induction ts with
 |nil=>
  intro n;simp
 |cons t ts J=>
  intro n;rw[mV,J];simp;exact(congrArg (·+_) (nN ..)).trans (nN ..)
theorem QW(ts:List (List Nat))(h:ts.flatten.length<=16777216):AZ (T []) (ts.map T)=true:=by
 unfold AZ;have e:(ts.map T).toArray.foldl (λa t=>a+t.length+(T []).length) 0=ts.flatten.length:=by
  rw[List.foldl_toArray,MU];simp[eQ,OH,A7]
 rw[e];have q:tooLong ts.flatten.length=false:=decide_eq_false (by exact qm h);rw[q];rfl
theorem X9(c:Nat)(x:List Nat):(!(occurrences (T x) (T [c]) 0 (T x).length 1).isEmpty)=decide (c∈x):=
 Zx (T x) c
theorem DT(x y:List Nat):xm (T x) (T y)=decide (x.take y.length=y/\y.length<=x.length):=by
 unfold xm subAt;simp only[eQ,vv,hH];rw[Bool.and_comm];by_cases h:y.length<=x.length
 ·by_cases q:x.take y.length=y
  ·simp[h,q]
  ·simp[h,q]
 ·simp[h]
theorem Ep(x y:List Nat):xx (T x) (T y)=decide (y.length<=x.length/\x.drop (x.length -y.length)=y):=by
 unfold xx subAt;simp only[eQ,vv,hH];by_cases h:y.length<=x.length
 ·have e:x.length -y.length+y.length=x.length:=by exact qd h
  rw[e];have J:(x.toArray.extract (x.length -y.length) x.length)=(x.drop (x.length -y.length)).toArray :=by
   simp;rw[kx (by simp)]
  rw[J,qv];simp[h]
 ·simp[h]
theorem BL(x y:List Nat)(i:Nat):subAt (T x) (T y) i=decide ((x.drop i).take y.length=y):=by
 unfold subAt;simp only[eQ,vv];rw[qv,decide_eq_true_iff,beq_iff_eq];simp[HB]
theorem rU(k L:Nat):max 0 (min (k:Int) (L:Int))=((min k L:Nat):Int):=(Nat.le_total k L).elim (λh=>by rw[oW h,Int.min_eq_left (lF.mpr h)];exact Qw (eu _)) λh=>by rw[ur h,Int.min_eq_right (lF.mpr h)];exact Qw (eu _)
theorem ze(i j L:Nat):strSliceIndices (some (i:Int)) (some (j:Int)) 1 L=sliceRange ((min i L:Nat):Int) ((min j L:Nat):Int) 1:=by
 have c:∀k:Nat,max 0 (min (if(k:Int)<0 then(k:Int)+L else k) (L:Int))=((min k L:Nat):Int):=λk=>by
  rw[if_neg (ib.mpr (eu _))];exact rU k L
 exact congr (congrArg sliceRange (c i)) (c j)▸rfl
theorem xY(x:List Nat)(i j:Nat)(J:i<=j):iV (T x) (some (i:Int)) (some (j:Int))=T ((x.drop i).take (j -i)):=by
 have e:iV (T x) (some (i:Int)) (some (j:Int))=QJ (T x) (some ((min i x.length:Nat):Int)) (some ((min j x.length:Nat):Int)):=by
  have q:strSliceIndices (some (i:Int)) (some (j:Int)) 1 (T x).length =strSliceIndices (some ((min i x.length:Nat):Int)) (some ((min j x.length:Nat):Int)) 1 (T x).length :=by
   rw[eQ,ze,ze,FF,xE,FF,xE]
  unfold iV QJ;rw[q]
 rw[e,ZQ (a:=min i x.length) (b:=min j x.length) _ (Nat.le_min.mpr ⟨aw (uC ..) J,j3 ..⟩) (j3 ..)];refine congrArg T ?_;show(x.drop (min i x.length)).take (min j x.length -min i x.length)=_;by_cases h:i<=x.length
 ·rw[oW h,List.take_eq_take_iff,ez,OE,OE,FF,xE]
 ·rw[ur (um h),List.drop_length,mj (um h),Ap,Ap]
noncomputable def js(s sub:ae)(hi cG:Nat):Nat->Nat->Nat->Nat->List Nat
 |0,_,_,_=>[]
 |m+1,i,cnt,free=>if((cnt<cG/\free<=i)/\i+sub.length<=hi)/\subAt s sub i=true then i::js s sub hi cG m (i+1) (cnt+1) (i+sub.length)else js s sub hi cG m (i+1) cnt free
theorem UM(s sub:ae)(hi cG i cnt free:Nat):js s sub hi cG 0 i cnt free=[]:=rfl
theorem nh(s sub:ae)(hi cG m i cnt free:Nat):js s sub hi cG (m+1) i cnt free=if((cnt<cG/\free<=i)/\i+sub.length<=hi)/\subAt s sub i=true then i::js s sub hi cG m (i+1) (cnt+1) (i+sub.length)else js s sub hi cG m (i+1) cnt free:=rfl
theorem Qq(s sub:ae)(hi cG:Nat):∀(m i:Nat)(st:Array Nat×Nat),(forIn (uq i m) st (Hv s sub hi cG)).run.fst.toList =st.1.toList ++js s sub hi cG m i st.1.size st.2:=by
 intro m;induction m with
 |zero=>
  intro i st;simp[UM]
 |succ m J=>
  intro i st;rw[Hd,B6];by_cases h:((st.1.size <cG/\st.2<=i)/\i+sub.length<=hi)/\subAt s sub i=true
  ·have e:Hv s sub hi cG i st=pure (kD (st.1.push i,i+sub.length)):=if_pos h
   rw[e,nh,if_pos h];refine(J (i+1) _).trans ?_;simp
  ·have e:Hv s sub hi cG i st=pure (kD (st.1,st.2)):=if_neg h
   rw[e,nh,if_neg h];exact J (i+1) _
theorem OM(s sub:ae)(lo hi cG:Nat):occurrences s sub lo hi cG=js s sub hi cG (hi+1 -lo) lo 0 lo:=by
 rw[Y3,Qq];simp
theorem MS(s sub:ae)(hi cG:Nat):∀(m i cnt free:Nat),cG<=cnt->js s sub hi cG m i cnt free=[]:=by
 intro m;induction m with
 |zero=>
  intro _ _ _ _;exact rfl
 |succ m J=>
  intro i cnt free h;rw[nh];rw[if_neg (λq=>by have:=q.1.1.1;exact absurd q.1.1.1 (qm h)),J _ _ _ h]
theorem Av(s sub:ae)(hi cG:Nat):∀(m i cnt free:Nat),hi<i+sub.length->js s sub hi cG m i cnt free=[]:=by
 intro m;induction m with
 |zero=>
  intro _ _ _ _;exact rfl
 |succ m J=>
  intro i cnt free h;rw[nh];rw[if_neg (λq=>by have:=q.1.2;exact absurd q.1.2 (nJ h)),J _ _ _ (by exact cK h (iR (oR i) _))]
theorem S7(s sub:ae)(hi cG:Nat):∀(k m i cnt free:Nat),i+k<=free->js s sub hi cG (m+k) i cnt free=js s sub hi cG m (i+k) cnt free:=by
 intro k;induction k with
 |zero=>
  intro m i cnt free _;exact rfl
 |succ k J=>
  intro m i cnt free h;show js s sub hi cG (m+k+1) i cnt free=_;rw[nh,if_neg (λq=>by have:=q.1.1.2;exact absurd (aw h q.1.1.2) (nJ (Ay (uk k)))),J m _ _ _ (by exact(hK ..)▸h)];rw[show i+1+k=i+(k+1) by exact hK ..]
theorem M2(s sub:ae)(hi cG:Nat):∀(m i cnt free J:Nat),free<=i->J<=i->js s sub hi cG m i cnt free=js s sub hi cG m i cnt J:=by
 intro m;induction m with
 |zero=>
  intro _ _ _ _ _ _;exact rfl
 |succ m N=>
  intro i cnt free J h h';rw[nh,nh];by_cases c:((cnt<cG/\free<=i)/\i+sub.length<=hi)/\subAt s sub i=true
  ·rw[if_pos c,if_pos ⟨⟨⟨c.1.1.1,h'⟩,c.1.2⟩,c.2⟩]
  ·rw[if_neg c,if_neg (λq=>c ⟨⟨⟨q.1.1.1,h⟩,q.1.2⟩,q.2⟩)]
   exact N _ _ _ _ (by exact oX h) (by exact oX h')
noncomputable def iu(x y:List Nat)(hi cG cnt i:Nat):List Nat:=js (T x) (T y) hi cG (hi+1 -i) i cnt i
theorem yV(x y:List Nat)(lo hi cG:Nat):occurrences (T x) (T y) lo hi cG=iu x y hi cG 0 lo:=OM ..
theorem GK{x y:List Nat}{hi cG cnt i:Nat}(N:1<=y.length)(hc:cnt<cG)(J:i+y.length<=hi)(h:(x.drop i).take y.length=y):
 iu x y hi cG cnt i=i::iu x y hi cG (cnt+1) (i+y.length):=by
 unfold iu;have e:hi+1 -i=(hi+1 -(i+y.length)+(y.length -1))+1:=by
  rw[nN,qd N,<-Nat.sub_sub,qd (Nat.le_sub_of_add_le' (oX J))]
 rw[e];rw[nh];rw[if_pos ⟨⟨⟨hc,a6 _⟩,by rw[eQ];exact J⟩,by rw[BL];exact decide_eq_true h⟩,eQ,S7 _ _ _ _ _ _ _ _ _ (by exact bS ((nN ..).trans (congrArg (i+·) (qi N))))];congr 2;exact(nN ..).trans (congrArg (i+·) (qi N))
theorem Ag{x y:List Nat}{hi cG cnt i:Nat}(h:¬(i+y.length<=hi/\(x.drop i).take y.length=y)):iu x y hi cG cnt i=iu x y hi cG cnt (i+1):=by
 unfold iu;by_cases q:i+y.length<=hi
 ·have e:hi+1 -i=(hi+1 -(i+1))+1:=by rw[Nat.add_sub_add_right];exact AA (aw (c8 ..) q)
  rw[e];rw[nh];rw[if_neg (λc=>h ⟨q,by have:=c.2;rw[BL]at this;exact of_decide_eq_true this⟩)];exact M2 _ _ _ _ _ _ _ _ _ (by exact c8 ..) (by exact a6 _)
 ·rw[Av _ _ _ _ _ _ _ _ (by exact ux q),Av _ _ _ _ _ _ _ _ (by rw[eQ];exact cK (ux q) (iR (oR i) _))]
theorem Au{x y:List Nat}{hi cG cnt i:Nat}(h:hi<i+y.length):iu x y hi cG cnt i=[]:=Av _ _ _ _ _ _ _ _ (by rw[eQ];exact h)
theorem NC{x y:List Nat}{hi i:Nat}(J:i+y.length<=hi)(h:(x.drop i).take y.length=y):iu x y hi 1 0 i=[i]:=by
 unfold iu;have e:hi+1 -i=(hi -i)+1:=AA (aw (c8 ..) J);rw[e];rw[nh];rw[if_pos ⟨⟨⟨by exact a6 _,a6 _⟩,by rw[eQ];exact J⟩,by rw[BL];exact decide_eq_true h⟩,MS _ _ _ _ _ _ _ _ (a6 _)]
end Mine
namespace Mine
open PySem PyProof.Rows PySem.W
section
variable{prog:ft}{w:dB}{A:bg}{E:af->ah->Prop}{s:ah}
theorem KS{b:Bool}{Q:Int->ah->Prop}(h:Q (hashInt (if b then 1 else 0)) {s with toks:=s.toks+1}):
 wpAny (model prog w) A (pyHash (.bool b)) Q E s:=by
 have hr:=rawHash_range (if b then 1 else 0);unfold pyHash;refine ar ?_;rw[cRoomFor,if_neg (show¬[Bc b].any Value.onHeap=true from d9)];refine aU ?_;refine ar (nT (uv s b) F.slot_bool_hash.lookup ?_);show wpAny _ _ (if(some (Nq "int.__hash__")==some g_)=true then _ else _) Q E s;rw[if_neg (by rw[beq_builtin_none];exact d9)];refine ar (nT (uv s b) F.slot_bool_hash.lookup ?_);show wpAny _ _ (callSpecialIfBoundUnlessNone? (.bool b) "__hash__" _>>= _) Q E s;refine ar (wpAny_callSpecialIfBoundUnlessNone?_slot (uv s b) F.slot_bool_hash
  (p_ F.slot_bool_hash (uv s b) entry_int_hash
   (show wpAny _ _ (do ret (<-mkInt (rawHash (if b then 1 else 0)))) _ _ s from wpAny_ret_mkInt ?_) (args_int_hash _)))
 show wpAny _ _ (if(decide (-(2:Int)^63<=rawHash (if b then 1 else 0))&&decide (rawHash (if b then 1 else 0)<2^63))=true then _ else _) Q E _;rw[if_pos (by rw[decide_eq_true hr.1,decide_eq_true hr.2];rfl)];exact aU h
end
noncomputable def Bj(prog:ft)(w:dB):KeyKind prog w Bool where
 is k v:=v==.bool k
 hash k:=hashInt (if k then 1 else 0)
 inj v a b h1 h2:=Zn ((eq_of_beq h1).symm.trans (eq_of_beq h2))
 byValue k v h:=by rw[eq_of_beq h];rfl
 pyHash hv h:=by rw[eq_of_beq hv];exact KS h
 eqBool {A E s a b u v Q} J hv h:=by
  rw[eq_of_beq J,eq_of_beq hv];exact Q7 a b _ _ _ _ (show Q (a==b) s from(show(a==b)=decide (a=b) by cases a<;>cases b<;>rfl)▸h)
 «strs» k x t v h:=nomatch (eq_of_beq h)
noncomputable def Di(C:Cfg):oD:=λ_ acc o=>∃bs:List Bool,acc=bs.map AV.bool/\o.SetObjOf (Bj C.prog C.w) (λk=>bs.contains k) bs.length
theorem L7{C:Cfg}:(Di C).vW :=λ_ h=>h
noncomputable def nA(fe:EM):jd:=λacc F st=>(fe F st).bind λe=>e.1.b?.bind λb=>if acc.length<=2 then some (if acc.any (λa=>a.b?==some b)then acc else acc++[.bool b],F,e.2)else none
section
variable{C:Cfg}{n:Nat}{sc:bc}{T:ae->Prop}
theorem has_bool(bs:List Bool)(b:Bool):(bs.map AV.bool).any (λa=>a.b?==some b)=bs.contains b:=by
 induction bs with
 |nil=>rfl
 |cons x bs J=>exact(congrArg ((some x==some b)||·) J).trans (by cases x<;>cases b<;>rfl)
theorem Ui:CE C (Di C) (newSet (.type "set")):=λh=>wpAny_newSet_of (knd:=Bj C.prog C.w) λled _=>h _ rfl ⟨[],rfl,setObjOf_fresh led⟩
theorem Us{elt:aJ}{fe:EM}(he:bR C n sc elt fe):qO C n sc T (Di C) (λenv acc=>do let v <-eval elt env;standAt elt.pos;let _ <-call (.builtin "set.add") [acc,v]) (nA fe):=⟨λ{A env F ρ st s Q E D acc o} hA N R hD O ho hb h=>by
 refine ar (he.k hA N R (h.bind.mono λe h V J s1 g1 R1 r1=>r1.b h.bind λb h=>ar (qg ?_)));obtain⟨hlen,h⟩:=h.ite;refine aG hb λbs zq1 hs=>?_;subst zq1;rw[aQ]at hlen;have S:bs.length+1<scanBound:=bQ (fj hlen) (by decide);refine ar (call_set_add (knd:=Bj C.prog C.w) (k:=b) (beq_self_eq_true _) rfl (hs.setOf (g1.cI _ _ ho O id) (Bt S)) S λh' hs' hS'=>aU ?_);obtain⟨o',U,hO⟩:=hS'.objOf;have kk:∀a o,a≠D->s1.heap.get? a=some o->h'.get? a=some o:=λa o ne e=>(hs'.2 a ne).trans e;have Y:D∉J:=g1.iZ ho O;have gE:jc (·=D) J s1 J {s1 with heap:=h',toks:=s1.toks+1}:=jc.keeps (t:=s1.toks+1) kk;have gX:Go (pP env T D) J s1 J {s1 with heap:=h',toks:=s1.toks+1}:=⟨gE.pre,gE.new,λa o e m x=>gE.cI a o e m λz=>x (.inl z),λa o e=>by
  by_cases z:a=D
  ·exact⟨_,z▸U⟩
  ·exact gE.alive a o e z,rfl,rfl⟩
 refine h J _ _ (g1.wa.trans gX) ((N.go g1).oI gE (λz=>hD.loc z.symm) λx c q z=>hD.cell x c q z)
  (R1.lY (·=D) (λb o e m=>kk b o m e) (λa ha e=>Y (e▸ha)) λa o e z=>nomatch (z▸hD.base:C.base.get? a=none).symm.trans e) Y U ?_
 rw[has_bool];cases q:bs.contains b with
 |true=>
  refine⟨bs,rfl,?_⟩;rw[if_pos q]at hO;rwa[show(λk'=>bs.contains k'||decide (k'=b))=λk=>bs.contains k from funext λk=>by
   by_cases z:k=b
   ·rw[z,q];rfl
   ·rw[decide_eq_false z,O2]]at hO
 |false=>
  refine⟨bs++[b],(if_neg (t:=bs.map AV.bool) d9).trans (show bs.map AV.bool++[.bool b]=_ from(dF (f:=AV.bool) (l₁:=bs) (l₂:=[b])).symm),?_⟩;rw[if_neg (by rw[q];exact d9)]at hO;rw[aP];rwa[show(λk'=>bs.contains k'||decide (k'=b))=λk=>(bs++[b]).contains k from funext λk=>by
   simp only[List.contains_eq_mem,eh,cx,Bool.decide_or]]at hO⟩
theorem call_one{A:bg}{E:af->ah->Prop}{s:ah}{f:af}{e:aJ}{pos:bM}{env:aS}{Q:af->ah->Prop}(J:isStar e=false)(hk:ik C f)
 (h:wpAny (model C.prog C.w) A (eval e env) (λV s1=>(∀b o,C.base.get? b=some o->s1.heap.get? b=some o)/\wpAny (model C.prog C.w) A (call f [V]) Q E s1) E s):
 wpAny (model C.prog C.w) A (callWith pos f [] (backTo pos (starEach [e] env)) []) Q E s:=by
 have N:Plain [e]:=.cons J .nil;refine NO (P:=λh=>∀b o,C.base.get? b=some o->h.get? b=some o) (by rw[N.any];rfl) hk (DS N ?_);rw[pZ J];exact E4 (e7 h (λV s1 q=>Hj q) λ_ _ x=>x)
noncomputable def ta(fv:List Nat)(fi:aj->St->Option (It×St))(tg:b7)(ti:aj->St->Option (Bool×St))(em:jd)(k:Nat):EM:=
 λF st=>(fi F st).bind λp=>(jO tg ti em k p.1 [] (F.only fv) p.2).bind λr=>if r.1.length <=3 then some (.int r.1.length,r.2.2)else none
theorem Q0{x:ae}{p pos':bM}{elt target iter:aJ}{ifs:List aJ}{scope:bc}{pos:bM}{tg:b7}{fi ti fe}{fv:List Nat}(k:Nat)
 (hf:∀A env F ρ st s Q E,a8 C sc ρ F env s.heap->Rel C ρ st s.heap->Q (.builtin "len") s->wpAny (model C.prog C.w) A (eval (.Name x p) env) Q E s)
 (hi:mK C n sc iter fi)(ht:bB C (fz scope sc) (mJ scope) target tg)(kj:ni C n (fz scope sc) ifs ti)(he:bR C n (fz scope sc) elt fe)
 (hc:lM scope sc=true)(iQ:aV C scope fv)(hs:∀env x,foldedSetIterable iter env x=pure x):
 bR C n sc (.Call (.Name x p) [.SetComp elt [⟨target,iter,ifs,0⟩] scope pos] [] pos') (ta fv fi tg ti (nA fe) k):=KE.s λ{A env F ρ st s Q E} hA N R h=>by
 refine oU (hf A env F ρ st s _ E N R (call_one rfl cP ?_));rw[arm_eval_SetComp];refine Ac hA N R (gs:=[]) rfl ⟨λ_ _ _=>rfl,λ_ _ _ _=>rfl,λ_ _ _ _ _=>rfl,λ_ _ _ _=>rfl,λ_ _ _ _ _=>rfl,rfl⟩ Ui L7 hi ht kj (Us he) hc iQ (hs env)
  (Ok.bind' (h.bind.mono λp h=>h.bind.mono λq h D L aq s' o' g' R' Y hb' hDρ' J hDL hD0 O S=>?_))
 refine bO S λm hm=>?_;refine aG hb' λbs e1 hO=>?_;obtain⟨hlen,h⟩:=h.ite;refine⟨m,hm,λh' hs'=>?_⟩;have kk:∀a o,¬a=L->s'.heap.get? a=some o->h'.get? a=some o:=λa o ne e=>(hs'.2 a ne).trans e;have g2:Go No ρ s aq {s' with heap:=h'}:=(jc.keeps (t:=s'.toks) kk).after g' λa z=>z▸O;have R2:Rel C aq q.2.2 h':=R'.lY (·=L) (λb o e ne=>kk b o ne e) (λa ha z=>J (z▸ha)) λa o e z=>nomatch (z▸O:s.heap.get? a=none).symm.trans (R.keep _ _ e);refine⟨R2.keep,?_⟩;refine pL hO λhex es zq2=>?_;obtain⟨ep,t,hd,_,_,hz,hf⟩:=zq2;have U:es.size=q.1.length :=by rw[hz,e1,aQ]
 refine call_len_set (kk _ _ hDL Y) hex hd hf (by rw[U];exact wK (lF.mpr hlen) (by decide)) ?_;rw[U];exact h _ _ _ (g2.trans (.toks _)) R2 ⟨_,rfl⟩
end
open PySem.Builtin
section
variable{C:Cfg}{n:Nat}{sc:bc}
theorem Kw{ρ:aD}{st:St}{s:ah}{xs:List AV}{vs:List af}(R:Rel C ρ st s.heap)(r:bu ρ xs vs):
 Rel C (ρ++[s.heap.objs.size]) (st++[.tup xs]) (s.heap.push {cls:=.type "tuple",data:=.seq vs.toArray})/\RelV (ρ++[s.heap.objs.size]) (.ref st.length) (.ref s.heap.objs.size)/\
  Go No ρ s (ρ++[s.heap.objs.size]) {s with heap:=s.heap.push {cls:=.type "tuple",data:=.seq vs.toArray}}:=
 ⟨R.push rfl ⟨vs,dN _ rfl,r.mono (j4 _ _)⟩,m7 R,Go.alloc (t:=s.toks) (dn _ _) (fQ _)⟩
noncomputable def de(fa:aj->St->Option (List AV×St)):EM:=λF st=>(fa F st).bind λp=>if p.1.length <=sizeLine then some (.ref p.2.length,p.2++[.tup p.1])else none
theorem gm{es:List aJ}{k:Nat}{pos:bM}{fa}(O:ip C n sc es fa):bR C n sc (.Tuple es k pos) (de fa):=KE.s λhA N R h=>
 wpAny_Tuple_spliced (O.k hA N R (h.bind.mono λp h Vs S t1 g1 U J=>⟨J.length.symm▸h.ite.1,
  have q:=Kw (C:=C) (s:=t1) U J
  h.ite.2 _ _ _ (g1.trans q.2.2) q.1 q.2.1⟩))
noncomputable def nq(f g:aj->St->Option (Bool×St)):aj->St->Option (Bool×St):=λF st=>(f F st).bind λp=>if p.1 then g F p.2 else some (false,p.2)
theorem D8:qR C n sc .And [] (λ_ st=>some (true,st)):=⟨λhA N R h=>wpAny_allTrue_And_nil (h _ _ .refl R)⟩
theorem wh{x:aJ}{es:List aJ}{f g}(h:lh C n sc x f)(hs:qR C n sc .And es g):qR C n sc .And (x::es) (nq f g):=⟨λhA N R q=>
 wpAny_allTrue_And_cons (h.k hA N R (q.bind.mono λp q J t1 g1 O=>by
  obtain⟨b,s1⟩:=p;cases b with
  |true=>exact hs.u hA (N.go g1) O (Ok.mono q λr k=>k.step g1)
  |false=>exact q J t1 g1 O))⟩
noncomputable def Cf(ks:List Nat)(f:EM):SM:=λF st=>(f F st).bind λp=>((b7.names ks).bind (.one p.1) F p.2).map λF'=>(.next,F',p.2)
theorem LU{τ:Nat}{ts:List aJ}{j:Nat}{pt pos:bM}{value:aJ}{ks:List Nat}{f:EM}(J:b_ C sc (λ_=>True) ts ks)(he:bR C n sc value f)
 (hs:∀env,swapsWithSole [.Tuple ts j pt] value pos.line env=pure false)(hw:∀env,swappedStores [.Tuple ts j pt] value env=pure none):cB C n sc τ (.Assign [.Tuple ts j pt] value pos) (Cf ks f):=KX.s λ{A env F ρ st s Q E} hA O N R h=>
 NB (he.k hA N R (h.bind.mono λp h V S t1 g1 U Y=>
  By (item:=.one p.1) hA (bB.names J) (N.go g1) U Y (h.map.mono λF' h s' g' N' R'=>h _ _ _ (g1.own.trans g') N' R' rfl))) (hs env) (hw env)
noncomputable def yE(avs:List AV)(st:St):Option (AV×St):=(a1 avs).bind λa=>a.r?.bind λl=>(eo st l).bind λxs=>if xs.length<=sizeLine then some (.ref st.length,st++[.list xs])else none
theorem Nr:eP C n (.type "list") yE:=KC.s λ{A ρ st s avs vs Q E} hA R N h=>N.a1 h.bind λa Y O h=>O.r h.bind λl S U h=>R.t U h.bind λxs ws _ hl J h=>by
 obtain⟨hs,h⟩:=h.ite;refine call_list_seq S (.inr rfl) hl rfl rfl (λh' c' k e=>?_) (by rw[dI,J.length];exact hs);exact h _ _ _ (Go.alloc (t:=s.toks) k (fQ _)) (R.alloc k (R.fh (fQ _)) (R.iB (fQ _)) ⟨_,e⟩ ⟨ws,⟨c',e⟩,J.mono (j4 _ _)⟩) (m7 R)
noncomputable def u_(a:Int)(k:Nat):List AV:=(cF k).map λ(i:Nat)=>.int (a+(i:Int))
theorem Rt{ρ:aD}{f:Nat->AV}:∀{n:Nat}{vs:List af},vs.length=n->(∀i v,vs[i]?=some v->RelV ρ (f i) v)->bu ρ ((cF n).map f) vs:=by
 intro n vs;induction vs generalizing n f with
 |nil=>exactλe _=>e▸.nil
 |cons v vs J=>
  intro e h;subst e;rw[dH,Pw,bX,br];exact .cons (h 0 v rfl) (J (f:=f∘sG) rfl λi w q=>h (i+1) w q)
noncomputable def xS(fa:aj->St->Option (List AV×St)):EM:=λF st=>(fa F st).bind λp=>(a2 p.1).bind λq=>q.1.i?.bind λa=>q.2.i?.bind λb=>if(fZ a&&fZ b&&decide (b -a<=16777216))=true then some (.ref p.2.length,p.2++[.list (u_ a (b -a).toNat)])else none
theorem LC{x y:ae}{p1 p2 pos pos':bM}{args:List aJ}{fa}
 (hx:∀A env F ρ st s Q E,a8 C sc ρ F env s.heap->Rel C ρ st s.heap->Q (.type "list") s->wpAny (model C.prog C.w) A (eval (.Name x p1) env) Q E s)
 (hy:∀A env F ρ st s Q E,a8 C sc ρ F env s.heap->Rel C ρ st s.heap->Q (.type "range") s->wpAny (model C.prog C.w) A (eval (.Name y p2) env) Q E s)
 (hp:Plain args)(ha:ip C n sc args fa):bR C n sc (.Call (.Name x p1) [.Call (.Name y p2) args [] pos'] [] pos) (xS fa):=KE.s λ{A env F ρ st s Q E} hA N R h=>by
 refine oU (hx A env F ρ st s _ E N R (call_one rfl d4 ?_));refine oU (hy A env F ρ st s _ E N R (h.bind.some λp e h=>p0 hA N R hp d4 ha e λvs ρ1 s1 g1 J r1=>?_));refine r1.a2 h.bind λa Va b Vb ra rb h=>ra.i h.bind λi t h=>rb.i h.bind λj u h=>?_;obtain⟨hc,h⟩:=h.ite;rw[gG,gG]at hc;have hi:=wI hc.1.1;have S:=wI hc.1.2;have hl:=of_decide_eq_true hc.2;have U:=dn s1.heap {cls:=.type "range",data:=.fields #[.int i t,.int j u,.int 1 s1.toks]};refine Nw ⟨λb o e=>U b o (J.keep b o e),?_⟩;refine call_list_range (n:=(j -i).toNat) hA.handled (Fe _ _ _ _ _ _ _) (small_one hi.1 hi.2 S.1 S.2) (by rw[Rm];split<;>(first|exact(GI (Int.sub_nonneg_of_le (OO (by assumption)))).symm |exact(congrArg Nat.cast (NT (Int.sub_nonpos_of_le (ib.mp (by assumption))))).symm)) (by exact Hr.mpr (of_decide_eq_true hc.2)) λh' tk acc c k e hi=>?_;have Y:∀b o,s1.heap.get? b=some o->h'.get? b=some o:=λb o e=>k b o (U b o e);have O:s1.heap.get? (s1.heap.push {cls:=.type "range",data:=.fields #[.int i t,.int j u,.int 1 s1.toks]}).objs.size =none:=by rw[m4];exact j6 _ 1
 refine h _ _ _ (g1.trans (Go.alloc (t:=tk) Y O)) (J.alloc Y (J.fh O) (J.iB O) ⟨_,e⟩ ⟨acc.toList,⟨c,e⟩,Rt (uy.trans hi.1) λi v q=>?_⟩) (m7 J);obtain⟨t,r⟩:=hi.2 i v (by rw[<-Array.getElem?_toList];exact q);exact⟨t,r.trans (by rw[Int.mul_one])⟩
theorem Sk{name:ae}{id:String}(slot:qw "tuple" name id)(J:typeOf (.builtin id)=pure (.type "method_descriptor")):gM C name (.builtin id) λa st=>a.r?.bind λl=>(eo st l).map λ_=>[a]:=KR.s λR r h=>r.rr h.bind λl O N r h=>R.t N h.map λxs vs _ hl _ h=>
 Ax (T:="tuple") ⟨_,hl,rfl⟩ Zm slot J (λa e=>by cases e;exact⟨_,hl,rfl⟩) (h _ _ .refl R (.cons r .nil))
theorem eq_int{prog:ft}{w:dB}{A:bg}{s:ah}{x y:Int}{t u:Tok}{Q:Bool->ah->Prop}{E:af->ah->Prop}{r:Bool}(e:decide (x=y)=r)(h:Q r s):wpAny (model prog w) A (eqBool (.int x t) (.int y u)) Q E s:=
 Zt x t y u _ _ _ _ ((show(x==y)=r from e▸(qv.mpr (beq_iff_eq.trans (decide_eq_true_iff).symm)))▸h)
noncomputable def vV(k x y z:Int):Option Nat:=if x=k then some 0 else if y=k then some 1 else if z=k then some 2 else none
noncomputable def uJ(avs:List AV)(st:St):Option (AV×St):=(a2 avs).bind λp=>p.1.r?.bind λl=>(eo st l).bind λxs=>(a3 xs).bind λq=>q.1.i?.bind λx=>q.2.1.i?.bind λy=>q.2.2.i?.bind λz=>p.2.i?.bind λk=>(vV k x y z).map λ(j:Nat)=>(AV.int (j:Int),st)
theorem Ky{a:ak}{x y z k:Int}{t u v o:Tok}{j:Nat}(e:vV k x y z=some j):Meets (Builtin.«tuple.index» ⟨[.ref a,.int k o],[]⟩)
 (λA R s=>s.heap.get? a=some {cls:=.type "tuple",data:=.seq #[.int x t,.int y u,.int z v]}/\R (.ok (.ret (.int (j:Int) s.toks))) {s with toks:=s.toks+1}):=by
 intro prog w A R s h;obtain⟨N,g,d,tk,os⟩:=s;obtain⟨hl,h⟩:=h;unfold Builtin.«tuple.index»;simp only[ZP];refine ar (ef rfl ?_);refine ar ?_;unfold Z1
 wp_walk using wpAny_loadPart' hl
 rw[show uq 0 ([:Min.min #[bV x t,bV y u,bV z v].size #[bV x t,bV y u,bV z v].size]:ZH).size =[0,1,2]from by
  rw[show#[bV x t,bV y u,bV z v].size =3 from rfl];decide]
 rw[wU];refine ar (ar (eq_int rfl ?_));unfold vV at e;by_cases J:x=k
 ·rw[if_pos J]at e
  cases e
  rw[decide_eq_true J];exact ar (ar (GH (aU (aU (aU (aU h))))))
 rw[decide_eq_false J];rw[if_neg J]at e;refine aU ?_;show wpAny _ _ (wU _ _ _ _ _) _ _ _;rw[wU];refine ar (ar (eq_int rfl ?_));by_cases J:y=k
 ·rw[if_pos J]at e
  cases e
  rw[decide_eq_true J];exact ar (ar (GH (aU (aU (aU (aU h))))))
 rw[decide_eq_false J];rw[if_neg J]at e;refine aU ?_;show wpAny _ _ (wU _ _ _ _ _) _ _ _;rw[wU];refine ar (ar (eq_int rfl ?_));by_cases J:z=k
 ·rw[if_pos J]at e
  cases e
  rw[decide_eq_true J];exact ar (ar (GH (aU (aU (aU (aU h))))))
 rw[if_neg J]at e;cases e
theorem Ml:eP C n (.builtin "tuple.index") uJ:=KC.s λ{A ρ st s avs vs Q E} hA R N h=>N.a2 h.bind λa Va b Vb O S h=>O.r h.bind λl la U h=>R.t U h.bind λxs ws _ hl J h=>by
 revert hl;refine J.a3 h.bind λx X y Y z Z rx ry rz h=>rx.i h.bind λx t h=>ry.i h.bind λy u h=>rz.i h.bind λz v h=>S.i h.bind λk o h=>h.map.some λj e h hl=>?_;exact qf Rp ⟨_,hl,rfl⟩ Za (Zl _ _) (Ky e) ⟨hl,h _ ρ _ (.toks _) R ⟨_,rfl⟩⟩
end
end Mine
namespace Mine
open PySem PyProof.Rows PySem.W
noncomputable abbrev JB(qual:ae)(params:ql)(body:aJ)(scope:bc)(clos:List (ae×ak))(pm:af)(c':ak)(dZ:af):nR:=Hg "<lambda>" qual params body scope clos pm (.ref c') dZ
noncomputable abbrev yl(qual:ae)(params:ql)(body:aJ)(scope:bc)(clos:List (ae×ak))(pm:af)(c':ak)(dZ:af):iL:={cls:=.type "function",data:=.func (JB qual params body scope clos pm c' dZ)}
noncomputable def sV(kp:Nat)(fv:List Nat)(fe:EM)(F:aj)(x:AV)(st:St):Option (AV×St):=fe ((kp,x)::F.only fv) st
section
variable{C:Cfg}{n:Nat}{sc:bc}
theorem D7{scope:bc}{ρ:aD}{F:aj}{env:aS}{h:aO}(N:a8 C sc ρ F env h)(hc:lM scope sc=true):∀p∈scope.names,p.2=.free ->∃c,env.cells.lookup p.1=some c:=λp m hf=>by
 have J:∀x,env.kindOf x=sc.names.lookup x:=λx=>by unfold jH;rw[N.scope]
 rcases(((tX hc).2 p m).2 hf).1 with q|q
 ·exact(N.own p.1 ((J _).trans q)).elim λc e=>e.elim λ_ e=>⟨c,e.1⟩
 ·exact N.frees p.1 ((J _).trans q)
theorem To{scope:bc}{ρ:aD}{st:St}{F:aj}{env env':aS}{s:ah}{fv:List Nat}{kp:Nat}{x:AV}{V:af}{h₀:aO}(N:a8 C sc ρ F env s.heap)(R:Rel C ρ st s.heap)(hc:lM scope sc=true)(iQ:aV C scope fv)
 (zG:∀p∈scope.names,p.2≠.cell)(pU:scope.names.lookup (C.nm kp)=some .local)(dT:env'.scope=scope)(eg:env'.globals=mainGlobals)(eb:env'.builtins=builtinsNs)(el:env'.locals=s.heap.objs.size)(ec:env'.cells=eY env scope.names [])
 (Y:h₀.Ns env'.locals λy=>[(C.nm kp,V)].lookup y)(keep:∀b o,s.heap.get? b=some o->h₀.get? b=some o)(r:RelV ρ x V):
 a8 C scope ρ ((kp,x)::F.only fv) env' h₀/\∀a,dr env' a->s.heap.get? a=none:=by
 obtain⟨⟨hk,hdue⟩,hm⟩:=tX hc;have O:∀y,env'.kindOf y=scope.names.lookup y:=λy=>by unfold jH;rw[dT]
 have dead:s.heap.get? env'.locals=none:=by rw[el];exact fQ _
 have look:∀y c,env'.cells.lookup y=some c->env.cells.lookup y=some c:=λy c q=>(zP (acc:=[]) _ (ec▸q)).elim id λz=>nomatch z;have J:∀y,env'.kindOf y≠some .cell :=λy q=>zG _ (lookup_mem ((O y).symm.trans q)) rfl;have cellAt:∀y c,env.cells.lookup y=some c->c∉ρ/\∃v,h₀.IsCell c v:=λy c q=>⟨(N.cells y c q).1,(N.cells y c q).2.imp λv z=>IsCell.of z λo e=>keep _ _ e⟩;have free:∀y,scope.names.lookup y=some .free ->∃c,env.cells.lookup y=some c/\env'.cells.lookup y=some c:=λy q=>
  (D7 N hc _ (lookup_mem q) rfl).imp λc e=>⟨e,ec▸DK e _ (.inl (lookup_mem q)) (λc'(z:([]:List (ae×ak)).lookup y=some c')=>nomatch z)⟩
 refine⟨⟨dT,hk,eg,eb,⟨_,Y⟩,R.fh dead,R.iB dead,λk v q=>?_,λy q=>absurd q (J y),λy z c hy hz=>N.apart _ _ _ (look _ _ hy) (look _ _ hz),λy q=>((hm _ (lookup_mem ((O y).symm.trans q))).2 rfl).2,λy c q=>cellAt y c (look y c q),
  λy q=>(free y ((O y).symm.trans q)).imp λc e=>e.2,λq=>absurd q hdue⟩,λa h=>h.elim (λz=>z▸dead) λz=>z.elim λy z=>absurd z.2.1 (J y)⟩
 rw[eN]at q;cases U:k==kp with
 |true=>
  rw[U]at q;cases q
  have e:=beq_iff_eq.mp U;refine⟨V,r,.inl ⟨(O _).trans (e▸pU),_,Y,?_⟩⟩;rw[e];show(match C.nm kp==C.nm kp with|true=>some V|false=>_)=_;rw[beq_self_eq_true]
 |false=>
  rw[U]at q;obtain⟨q1,q2⟩:=aj.DY q;have hf:=iQ.mem q2;refine aG (free _ hf) λc hc1 hc2=>?_;obtain⟨W,rW,hv⟩:=N.vars k v q1;have S:env.kindOf (C.nm k)=sc.names.lookup (C.nm k):=by unfold jH;rw[N.scope]
  have hs:=((hm _ (lookup_mem hf)).2 rfl).1;refine⟨W,rW,.inr ⟨.inr ((O _).trans hf),c,hc2,?_⟩⟩;rcases hv with⟨hl,_⟩|⟨_,c',e',z⟩
  ·rw[S]at hl;rw[hl]at hs;rcases hs with hs|hs<;>cases hs
  ·rw[hc1]at e';cases e'
   exact⟨z.1,IsCell.of z.2 λo e=>keep _ _ e⟩
structure Jo(C:Cfg)(n:Nat)(sc:bc)(params:ql)(body:aJ)(scope:bc)(kp:Nat)(fv:List Nat)(fe:EM):Prop where
 he:bR C n scope body fe
 hc:lM scope sc=true
 iQ:aV C scope fv
 zG:∀p∈scope.names,p.2≠.cell
 pU:scope.names.lookup (C.nm kp)=some .local
 vz:∀qual clos pm c' dZ V,bindArgs (JB qual params body scope clos pm c' dZ) ⟨[V],[]⟩=pure [(C.nm kp,V)]
 v8:scope.isCoroutine=false
 vX:scope.isGenerator=false
theorem Rg{params:ql}{body:aJ}{scope:bc}{kp:Nat}{fv:List Nat}{fe:EM}(X:Jo C n sc params body scope kp fv fe){A:bg}{env:aS}{F:aj}{ρ:aD}{st:St}{s:ah}{Q:af->ah->Prop}{E:af->ah->Prop}
 {U c':ak}{qual:ae}{pm dZ V:af}{x:AV}(hA:bN (n+1) A)(N:a8 C sc ρ F env s.heap)(R:Rel C ρ st s.heap)(hf:s.heap.get? U=some (yl qual params body scope (eY env scope.names []) pm c' dZ))(O:s.heap.CodeRec (.ref c') qual)
 (r:RelV ρ x V)(h:Ok (sV kp fv fe F x st) (Res C ρ s Q)):wpAny (model C.prog C.w) A (call (.ref U) [V]) Q E s:=by
 refine rQ (kla_callFunE hA.cG hf rfl X.v8 X.vX rfl O ?_);rw[X.vz];refine aU (wpAny_newFunctionEnv X.zG (λy m=>by cases m with|head=>exact X.pU|tail _ m=>cases m) (λh₀ Y S=>⟨(C.nolimit.keeps R.keep).fresh _ S,?_⟩) (tX X.hc).1.1);have kk:∀b o,s.heap.get? b=some o->h₀.get? b=some o:=λb o e=>S.extBut b o (rZ (j9 e)) (kG _ e);show codeAny _ _ (.expr body (envX qual scope s.heap.objs.size U (.ref c') (eY env scope.names []))) _ _;generalize J:envX qual scope s.heap.objs.size U (.ref c') (eY env scope.names [])=env';obtain⟨N1,own⟩:=To (env':=env') (h₀:=h₀) N R X.hc X.iQ X.zG X.pU (by rw[<-J]) (by rw[<-J]) (by rw[<-J]) (by rw[<-J]) (by rw[<-J]) (by rw[<-J];exact Y) kk r;have g:Go No ρ s ρ {s with heap:=h₀,toks:=s.toks+1}:=.keeps kk;exact kla_codeExpr (X.he.k (hA.deeper env') N1 (R.keeps kk) (h.mono λp k V' aq s' g' R' r'=>k V' aq s' (g.trans g') R' r'))
end
noncomputable def AO.JQ(o:AO):Option (List ((Nat×Nat)×Nat)):=AO.casesOn o aL (λ_=>aL) (λ_=>aL) (λ_=>aL) (λ_ _=>aL) (λ_=>aL) (λ_=>aL) (λ_ _=>aL) (λ_ _=>aL) (λ_ _=>aL) jG λ_=>aL
noncomputable def AO.code?(o:AO):Option ae:=AO.casesOn o aL (λ_=>aL) (λ_=>aL) (λ_=>aL) (λ_ _=>aL) (λ_=>aL) (λ_=>aL) (λ_ _=>aL) (λ_ _=>aL) (λ_ _=>aL) (λ_=>aL) jG
noncomputable def codeAt(st:St)(l:Nat)(q:ae):Option Unit:=(st[l]?).bind λo=>o.code?.bind λJ=>if J=q then some ()else none
noncomputable def vB(t ln co:Nat)(q:ae)(st:St):Option (Nat×St):=
 (st[t]?).bind λo=>o.JQ.bind λes=>(es.lookup (ln,co)).elim (some (st.length,st.set t (.tab (es++[((ln,co),st.length)]))++[.code q])) λl=>some (l,st)
theorem Km{pos:bM}{a b:Int}{c:af}:∀{l:List af},B4 l->codeAmong pos (l++[rawInt a,rawInt b,c])=(codeAmong pos l).or (if a=pos.line/\b=pos.col then some c else none):=λ{l} h=>by
 fun_induction B4 l with
 |case1=>
  show(if(a==pos.line&&b==pos.col)=true then some c else codeAmong pos [])=_;by_cases q:a=pos.line/\b=pos.col
  ·rw[if_pos q,if_pos (by rw[beq_iff_eq.mpr q.1,beq_iff_eq.mpr q.2];rfl)];rfl
  ·rw[if_neg q,if_neg (by rw[gG,beq_iff_eq,beq_iff_eq];exact q)];rfl
 |case2 J t b' u x rest N=>
  show(if(J==pos.line&&b'==pos.col)=true then some x else codeAmong pos (rest++_))=(if(J==pos.line&&b'==pos.col)=true then some x else codeAmong pos rest).or _;rw[N h];by_cases q:(J==(pos.line:Int)&&b'==(pos.col:Int))=true
  ·rw[if_pos q,if_pos q];rfl
  ·rw[if_neg q,if_neg q]
 |case3 l h1 h2=>exact h.elim
theorem O9{α β:Type}[BEq α](x:α)(l m:List (α×β)):(l++m).lookup x=(l.lookup x).or (m.lookup x):=by
 induction l with
 |nil=>rfl
 |cons p l J=>
  rw[eM,eN,eN,J];cases x==p.1<;>rfl
structure TabAt(C:Cfg)(t:Nat)(P cc:ak):Prop where
 code:C.code=.ref cc
 pin:(t,P)∈C.pins
 hd:uu C.base cc P
 bm:C.base.BuiltinsAt C.mg P
 ne:mainGlobals≠P
section
variable{C:Cfg}{n:Nat}{sc:bc}
theorem LP{ρ:aD}{st:St}{h:aO}{l:Nat}{q:ae}{c:ak}(R:Rel C ρ st h)(hc:ρ[l]?=some c){P:Unit->Prop}(e:Ok (codeAt st l q) P):h.CodeRec (.ref c) q/\P ():=
 R.o hc e.bind λo k e=>by
  cases o with
  |code J=>
   have z:=(show Ok (if J=q then some ()else none) P from e).ite;exact⟨k.elim λoc k=>k.elim λvs k=>k.elim λt k=>⟨c,oc,vs,t,rfl,k.1,k.2.1,z.1▸k.2.2⟩,z.2⟩
  |_=>exact dA e
theorem Ws{ρ:aD}{st:St}{h:aO}{t:Nat}{P:ak}(R:Rel C ρ st h)(O:ρ[t]?=some P){G:Prop}{f:List ((Nat×Nat)×Nat)->Option (Nat×St)}{K:Nat×St->Prop}
 (e:Ok ((st[t]?).bind λo=>o.JQ.bind f) K)(k:∀es ps,st[t]?=some (.tab es)->h.get? P=some (tabObj ps)->B4 ps.toList->(∀pos:bM,qL ρ (codeAmong pos ps.toList) (es.lookup (pos.line,pos.col)))->Ok (f es) K->G):G:=by
 refine aG e.bind.get λo J N=>?_;cases o with
 |tab es=>exact(R.at J O).elim λps q=>k es ps J q.1 q.2.1 q.2.2 N
 |_=>exact dA N
theorem N_{t:Nat}{P cc:ak}(T:TabAt C t P cc)(hsc:sc.names.lookup ("due":ae)=some .local){params:ql}{body:aJ}{scope:bc}{pos:bM}(hdef:∀env,defaultsOf params env=([],[]))(hc:lM scope sc=true)
 {A:bg}{env:aS}{F:aj}{ρ:aD}{st:St}{s:ah}{Q:af->ah->Prop}{E:af->ah->Prop}(N:a8 C sc ρ F env s.heap)(R:Rel C ρ st s.heap)
 (h:Ok (vB t pos.line pos.col (C.qual++"<lambda>") st) λp=>∀fq c' pm dZ aq s',Go No ρ s aq s'->Rel C aq p.2 s'.heap->aq[p.1]?=some c'->s.heap.get? fq=none->fq∉aq->
  s'.heap.get? fq=some (yl (C.qual++"<lambda>") params body scope (eY env scope.names []) pm c' dZ)->Q (.ref fq) s'):
 wpAny (model C.prog C.w) A (eval (.Lambda params body scope pos) env) Q E s:=by
 have hP:ρ[t]?=some P:=R.pin _ T.pin;have here:=N.here hsc;refine kla_eval (hdef env) ?_;rw[here.2];refine Ws R hP h λes ps he hps ht O h=>?_;have hcl:=wd (D7 N hc);have hx:=O pos;cases q:es.lookup (pos.line,pos.col)with
 |some l=>
  rw[q]at hx h;refine aG hx λc hcρ Y=>?_;refine kla_makeFunctionHit (mg:=C.mg) hcl N.globals (C.wb.keeps R.keep) (here.1.trans T.code) (T.hd.keeps R.keep) hps ht Y (T.bm.keeps R.keep) λdZ h' tk k sz=>?_;have kk:∀b o,s.heap.get? b=some o->(h'.push (yl (C.qual++"<lambda>") params body scope (eY env scope.names []) ((C.mg "__name__").getD .none) c dZ)).get? b=some o:=λb o e=>dn _ _ _ _ (k b o e);have hn:s.heap.get? h'.objs.size=none:=by
   cases z:s.heap.get? h'.objs.size with
   |none=>rfl
   |some o=>exact absurd (j9 z) (iH.mpr sz)
  exact h h'.objs.size c _ dZ ρ {s with heap:=_,toks:=tk} (.keeps kk) (R.keeps kk) hcρ hn (R.fh hn) (dN _ rfl)
 |none=>
  rw[q]at hx h;refine OA (mg:=C.mg) hcl N.globals (C.wb.keeps R.keep) (here.1.trans T.code) (T.hd.keeps R.keep) hps ht hx T.ne (T.bm.keeps R.keep) λc' dZ h' tk hxx hge hlt hrec htab=>?_;refine p8 hrec λc₂ oc vs tq e2 hoc hd hv=>?_;cases e2
  have kk:∀b o,b≠P->s.heap.get? b=some o->(h'.push (Hf "<lambda>" (C.qual++"<lambda>") params body scope (eY env scope.names []) ((C.mg "__name__").getD .none) c' dZ)).get? b=some o:=λb o ne e=>dn _ _ _ _ (hxx b o ne e);have old:∀a,s.heap.objs.size<=a->s.heap.get? a=none:=λa le=>by
   cases z:s.heap.get? a with
   |none=>rfl
   |some o=>exact absurd (j9 z) (iH.mpr le)
  have hcn:=old c' hge;have hfn:=old _ (cq (bQ hge hlt));have J:=dn h' (Hf "<lambda>" (C.qual++"<lambda>") params body scope (eY env scope.names []) ((C.mg "__name__").getD .none) c' dZ) _ _ htab;have S:=dn h' (Hf "<lambda>" (C.qual++"<lambda>") params body scope (eY env scope.names []) ((C.mg "__name__").getD .none) c' dZ) _ _ hoc;have R1:=R.put (o':=.gP) hP kk ⟨_,J⟩ trivial;have R2:=R1.alloc (o:=.code (C.qual++"<lambda>")) (λ_ _ e=>e) (R.fh hcn) (R.iB hcn) ⟨_,S⟩ ⟨oc,vs,tq,S,hd,hv⟩;have U:(ρ++[c'])[st.length]?=some c':=by rw[<-R.len];exact Kg
  have hP':(ρ++[c'])[t]?=some P:=gK (j4 _ _) hP;have htl:t<st.length:=(fY.mp he).1;have R3:=R2.put (o':=.tab (es++[((pos.line,pos.col),st.length)])) hP' (λb x _ e=>e) ⟨_,J⟩ ⟨_,J,by
   rw[QP];exact TriplesOk_snoc _ _ _ _ ht,λpos'=>by
   rw[QP];show qL _ (codeAmong pos' (ps.toList++[rawInt pos.line,rawInt pos.col,.ref c'])) _;rw[Km ht,O9];have z:=O pos';cases q':es.lookup (pos'.line,pos'.col)with
   |some l=>
    rw[q']at z;refine aG z λc z1 z2=>?_;rw[z2];exact⟨c,gK (j4 _ _) z1,rfl⟩
   |none=>
    rw[q']at z;rw[show codeAmong pos' ps.toList=none from z];show qL _ (if _ then _ else none) (fG (pos'.line,pos'.col) [((pos.line,pos.col),st.length)]);rw[eN];by_cases w:(pos.line:Int)=pos'.line/\(pos.col:Int)=pos'.col
    ·rw[if_pos w,show((pos'.line,pos'.col)==(pos.line,pos.col))=true from beq_iff_eq.mpr (by rw[Pm w.1,Pm w.2])]
     exact⟨c',U,rfl⟩
    ·rw[if_neg w,show((pos'.line,pos'.col)==(pos.line,pos.col))=false from beq_false_of_ne λz=>w ⟨congrArg (Rq ·.1) z.symm,congrArg (Rq ·.2) z.symm⟩]
     rfl⟩
  rw[List.set_append_left _ _ (by rw[xh];exact htl),BD]at R3;refine h h'.objs.size c' _ dZ (ρ++[c']) {s with heap:=_,toks:=tk} ⟨j4 _ _,λb m=>(eh.mp m).imp_right λ(z:b∈[c'])=>(congrArg s.heap.get? (cx.mp z)).trans hcn,λb o e n _=>kk b o (λz=>n (z▸j8 hP)) e,λb o e=>?_,rfl,rfl⟩ R3 U hfn (λm=>(eh.mp m).elim (R.fh hfn) λz=>absurd (cx.mp z) (jh hlt)) (dN _ rfl);by_cases z:b=P
  ·exact z▸⟨_,J⟩
  ·exact⟨o,kk b o z e⟩
end
noncomputable def mH{α:Type}(lt:Nat->Nat->Option Bool)(t:KasT α):Option α:=KasT.rec (motive:=λ_=>Option α) some (λi j _ again=>(lt i j).bind again) t
theorem SY{α:Type}{cmp:Nat->Nat->(Bool->ah->Prop)->ah->Prop}{lt:Nat->Nat->Option Bool}{s:ah}(h:∀i j K,Ok (lt i j) (λb=>K b s)->cmp i j K s){Q:α->ah->Prop}(t:KasT α):Ok (mH lt t) (λa=>Q a s)->t.kasWp cmp Q s:=by
 induction t with
 |ret a=>exact id
 |ask i j k J=>exactλq=>h i j _ (Ok.mono (Ok.bind (f:=λb=>mH lt (k b)) q) λb q=>J b q)
noncomputable def th(J:AV->St->Option (AV×St))(xs:List AV):St->Option (List AV×St):=yg (motive:=λ_=>St->Option (List AV×St)) (λst=>some ([],st)) (λx _ again st=>(J x st).bind λp=>(again p.2).map λq=>(p.1::q.1,q.2)) xs
section
variable{C:Cfg}{n:Nat}{sc:bc}
noncomputable abbrev oH(C:Cfg){α:Type}(A:bg)(t:dS α)(Q:α->ah->Prop)(E:af->ah->Prop)(s:ah):Prop:=wpAny (model C.prog C.w) A t Q E s
noncomputable abbrev jn(vs:List af)(e:Nat):iL:=seqObj "list" (nO vs) e
theorem Qv{A:bg}{E:af->ah->Prop}{f:af}{kS:ak}{J:aD->ah->Prop}{kf:AV->St->Option (AV×St)}{body:af->PUnit->dS (ForInStep PUnit)}
 (hJ:∀ρ s aq s',Go (·=kS) ρ s aq s'->J ρ s->J aq s')(hB:C.base.get? kS=none)
 (hf:∀{ρ st s x V Q},J ρ s->Rel C ρ st s.heap->RelV ρ x V->Ok (kf x st) (Res C ρ s Q)->oH C A (call f [V]) Q (λ_ _=>False) s)
 (hb:∀(x:af)(ks:List af)(e:Nat)(s:ah)(K:ah->Prop),s.heap.get? kS=some (jn ks e)->ks.length<64->oH C A (call f [x]) (λk s'=>s'.heap.get? kS=some (jn ks e)/\∀h' c,TK kS s'.heap h'->h'.get? kS=some (jn (ks++[k]) c)->K {s' with heap:=h'}) (λ_ _=>False) s->
  oH C A (body x ⟨⟩) (λr s'=>r=.yield ⟨⟩/\K s') E s){Q:PUnit->ah->Prop}{xs:List AV}{vs:List af}{ρ:aD}(r:bu ρ xs vs):
 ∀{aq st s ks kvs e},ρ<+:aq->J aq s->Rel C aq st s.heap->kS∉aq->s.heap.get? kS=some (jn ks e)->bu aq kvs ks->ks.length+vs.length<64->
 Ok (th kf xs st) (λp=>∀O U bA s2,Go (·=kS) aq s bA s2->Rel C bA p.2 s2.heap->bu bA (kvs++p.1) O->s2.heap.get? kS=some (jn O U)->Q ⟨⟩ s2)->oH C A (forIn vs wM body) Q E s:=by
 induction r with
 |nil=>
  intro aq st s ks kvs e _ _ R _ hk Y _ h;rw[PI];exact aU (h ks e aq s .refl R (by rw[gj];exact Y) hk)
 |@cons x V xs vs rx _ ih=>
  intro aq st s ks kvs e hp hj R hn hk Y hl h;rw[B6];rw[dH]at hl;refine ar (e7 (hb V ks e s (λs'=>oH C A (forIn vs wM body) Q E s') hk (by exact bQ (c8 ..) hl) (hf hj R (rx.mono hp) (h.bind.mono λp h K N s1 g1 R1 r1=>?_))) (λq s' z=>?_) λ_ _ x=>x)
  ·refine⟨g1.cI _ _ hk hn id,λh' c hs hc=>?_⟩
   have kk:∀b o,b≠kS->s1.heap.get? b=some o->h'.get? b=some o:=λb o ne e=>(hs.2 b ne).trans e;have g2:Go (·=kS) N s1 N {s1 with heap:=h'}:=⟨jJ _,λ_ z=>.inl z,λb o e _ ne=>kk b o ne e,λb o e=>by
    by_cases z:b=kS
    ·exact z▸⟨_,hc⟩
    ·exact⟨o,kk b o z e⟩,rfl,rfl⟩
   have g:Go (·=kS) aq s N {s1 with heap:=h'}:=(g1.weak λ_ z=>z.elim).trans g2;have S:kS∉N:=g1.iZ hk hn;have R2:Rel C N p.2 h':=R1.lY (·=kS) (λb o e ne=>kk b o ne e) (λa m z=>S (z▸m)) λa o e z=>nomatch (z▸hB:C.base.get? a=none).symm.trans e;refine ih (hp.trans g1.pre) (hJ _ _ _ _ g hj) R2 S hc ((Y.mono g1.pre).append (.cons r1 .nil)) (by rw[aP,gZ];exact bQ (bS (hK ..)) hl) (h.map.mono λq h O U bA s2 g' R' r' hk'=>?_);rw[dm]at r';exact h O U bA s2 (g.trans g') R' r' hk'
  ·obtain⟨rfl,z⟩:=z
   exact z
theorem VS{A:bg}{E:af->ah->Prop}{s:ah}{D kS:ak}{ks out:List af}{e e1:Nat}{J:SortSt}{P:Hq->ah->Prop}(O:(arrOf J).map (·.2)=nO out)(hz:out.length<64)(R:ks.length<64)(hf:failedOf J=none)
 (hk:s.heap.get? kS=some (jn ks e))(hD:s.heap.get? D=some (jn [] e1))(ne:D≠kS)(h:∀h' c,(∀b o,b≠D->b≠kS->s.heap.get? b=some o->h'.get? b=some o)->h'.get? D=some (jn out c)->(∃o,h'.get? kS=some o)->P (.done (.ret .none)) {s with heap:=h'}):
 oH C A (ksk_tail D false e1 (.ref kS) J) P E s:=by
 have s1:=Al s.heap kS (hU λ_=>(#[]:Array af));have N:=(s1.2 D ne).trans hD;obtain⟨ck,S⟩:∃ck,(s.heap.update kS (hU λ_=>(#[]:Array af))).get? kS=some (seqObj "list" #[] ck):=⟨_,r8 hk λ_=>#[]⟩;have s2:=Al (s.heap.update kS (hU λ_=>(#[]:Array af))) D (hU λ_=>nO out);obtain⟨U,Y⟩:∃U,((s.heap.update kS (hU λ_=>(#[]:Array af))).update D (hU λ_=>nO out)).get? D=some (jn out U):=⟨_,r8 N λ_=>nO out⟩;unfold ksk_tail;rw[O];refine ar (wR hk rfl ?_ (by exact aw (fU R) (by decide)) (cJ _));refine ar (wpAny_letGo ?_);refine ar (Nl N rfl ?_);refine ar (wR N rfl ?_ (cJ _) (by exact aw (fU hz) (by decide)));rw[hf];simp only[bne_self_eq_false,je,if_false];exact aU (h _ U (λb o n1 n2 e=>(s2.2 b n1).trans ((s1.2 b n2).trans e)) Y ⟨_,(s2.2 kS ne.symm).trans S⟩)
noncomputable def zj(C:Cfg)(cmp:List AV->St->Option (Nat->Nat->Option Bool)):Prop:=∀{A ρ st s kvs ks}{P:(Nat->Nat->Option Bool)->Prop},A.units<cLine->Rel C ρ st s.heap->bu ρ kvs ks->2<=ks.length->Ok (cmp kvs st) P->
 ∃J lt,P lt/\(∀{Q:SortKind->ah->Prop},Q J s->oH C A (keyKind' (nO ks)) Q (λ_ _=>False) s)/\∀i j K,Ok (lt i j) (λb=>K b s)->FE C.prog C.w A J ks i j K s
theorem VF{ρ:aD}{kvs:List AV}{ks:List af}(r:bu ρ kvs ks):∀{P:List Bool->Prop},Ok (kvs.mapM AV.b?) P->∃bs,ks=bs.map Bc/\P bs:=by
 induction r with
 |nil=>exactλh=>⟨[],rfl,h⟩
 |cons a b N=>
  intro P h;rw[sh]at h;refine a.b (Ok.bind h) λx h=>?_;refine aG (N (Ok.bind h)) λbs J h=>?_;subst J;exact⟨x::bs,rfl,h⟩
theorem getD_map{α β:Type}{f:α->β}{l:List α}{i:Nat}{d:β}{a:α}(h:l[i]?=some a):(l.map f).getD i d=f a:=by
 rw[jg,dO,h];rfl
theorem IX(p q:Bool):decide (b2i p<b2i q)=(!p&&q):=by cases p<;>cases q<;>rfl
theorem Ek{prog:ft}{w:dB}{A:bg}{E:af->ah->Prop}{s:ah}{p q:Bool}{Q:Bool->ah->Prop}(h:Q (!p&&q) s):wpAny (model prog w) A (oneLt' true (.bool p) (.bool q)) Q E s:=by
 rw[oneLt'_eq];simp only[if_true];refine ar (wpAny_cRoomFor_byValue rfl ?_);refine ar (wpAny_callSpecialIfBound?_slot (uv s p) F.slot_bool_lt (Qf F.slot_bool_lt (uv s p) F.entry_int_lt (F.args_int_lt_2 _ _) (gives_int_lt_bools p q) ?_));show wpAny _ _ (truthOfDropped (.bool (decide (b2i p<b2i q)))) _ _ _;rw[IX];exact IF h
noncomputable def tp(kvs:List AV)(_:St):Option (Nat->Nat->Option Bool):=(kvs.mapM AV.b?).map λbs i j=>(bs[i]?).bind λx=>(bs[j]?).map λy=>!x&&y
theorem TX:zj C tp:=λ{A ρ st s kvs ks P} Y R r h2 h=>by
 refine aG (VF r h.map) λbs J h=>?_;subst J;refine⟨_,_,h,λO=>kas_kind (T:=.type "bool") h2 (λv m=>?_) rfl rfl O,λi j K h=>?_⟩
 ·refine aG (dz.mp m) λb _ N=>?_;subst N
  exact .now
 ·refine h.bind.some λx S h=>h.map.some λy U h=>?_
  unfold FE;rw[getD_map S,getD_map U,keyLt'_oneType];exact Ek h
noncomputable abbrev T4:=Bool×Bool×Bool×Int
noncomputable def y_(st:St)(a:AV):Option T4:=a.r?.bind λl=>(eo st l).bind λxs=>(a4 xs).bind λq=>q.1.b?.bind λx=>q.2.1.b?.bind λy=>q.2.2.1.b?.bind λz=>q.2.2.2.i?.map λi=>(x,y,z,i)
noncomputable def Dk(k J:T4):Bool:=if k.1=J.1 then(if k.2.1=J.2.1 then(if k.2.2.1=J.2.2.1 then decide (k.2.2.2<J.2.2.2)else !k.2.2.1&&J.2.2.1)else !k.2.1&&J.2.1)else !k.1&&J.1
noncomputable def tA(kvs:List AV)(st:St):Option (Nat->Nat->Option Bool):=(kvs.mapM (y_ st)).map λts i j=>(ts[i]?).bind λx=>(ts[j]?).map λy=>Dk x y
noncomputable def XO(h:aO)(V:af)(k:T4):Prop:=∃a t,V=.ref a/\h.get? a=some {cls:=.type "tuple",data:=.seq #[.bool k.1,.bool k.2.1,.bool k.2.2.1,.int k.2.2.2 t]}
theorem WB{ρ:aD}{st:St}{h:aO}(R:Rel C ρ st h){kvs:List AV}{ks:List af}(r:bu ρ kvs ks):∀{P:List T4->Prop},Ok (kvs.mapM (y_ st)) P->∃ts,(ks.length=ts.length/\KatTups h ks (ts.map λk=>.bool k.1)/\∀(i:Nat)(k:T4),ts[i]?=some k->∃V,ks[i]?=some V/\XO h V k)/\P ts:=by
 induction r with
 |nil=>exactλh=>⟨[],⟨rfl,trivial,λi k e=>nomatch e⟩,h⟩
 |cons a b N=>
  intro P q;rw[sh]at q;refine a.r (Ok.bind (Ok.bind q)) λl O hl q=>R.t hl q.bind λxs ws _ ht S q=>?_;revert ht;refine S.a4 q.bind λx X y Y z Z i I U ry rz ri q=>U.b q.bind λx q=>ry.b q.bind λy q=>rz.b q.bind λz q=>ri.i q.map λi t q ht=>?_;refine aG (N (Ok.bind q)) λts J q=>?_;obtain⟨e1,e2,e3⟩:=J;refine⟨(x,y,z,i)::ts,⟨congrArg (·+1) e1,ZL ht rfl rfl rfl e2,λj k e=>?_⟩,q⟩;cases j with
  |zero=>cases e;exact⟨_,rfl,O,t,rfl,ht⟩
  |succ j=>exact e3 j k e
theorem AD{A:bg}{s:ah}{x y:Bool}{r:List (af×af)}{i:Nat}{Q:Bool->ah->Prop}{fin:Bool}(h1:x=y->KatLex C.prog C.w A true fin Q r (i+1) s)(h2:x≠y->Q (!x&&y) s):KatLex C.prog C.w A true fin Q ((.bool x,.bool y)::r) i s:=by
 refine kat_cons (Q7 x y _ _ _ _ ?_);by_cases e:x=y
 ·rw[show(x==y)=true from beq_iff_eq.mpr e];exact kat_yes (h1 e)
 ·rw[show(x==y)=false from beq_false_of_ne e]
  refine kat_no ?_;cases hi:i==0 with
  |true=>exact Ek (h2 e)
  |false=>exact kat_one _ _ (lt_bool (by rw[IX];exact h2 e))
theorem S8:zj C tA:=λ{A ρ st s kvs ks P} hu R r h2 h=>by
 refine aG (WB R r h.map) λts N h=>?_;obtain⟨U,Y,S⟩:=N;refine⟨_,_,h,λhq=>kat_kind (T:=.type "bool") Y (by rw[aQ,<-U];exact cK (by decide) h2) (λv m=>?_) rfl hq,λi j K h=>?_⟩
 ·refine aG (dz.mp m) λb _ O=>?_;subst O
  exact .now
 ·refine h.bind.some λx hx h=>h.map.some λy hy h=>?_
  refine vn (S i x hx) λV hV a J=>?_;obtain⟨t,rfl,ha⟩:=J;refine vn (S j y hy) λW hW b J=>?_;obtain⟨u,rfl,hb⟩:=J;unfold FE;rw[jg,hV,jg,hW];refine kat_lt ha rfl hb rfl ?_;unfold Dk at h;refine AD (λe=>?_) λe=>by rw[if_neg e]at h;exact h
  rw[if_pos e]at h;refine AD (λe=>?_) λe=>by rw[if_neg e]at h;exact h
  rw[if_pos e]at h;refine AD (λe=>?_) λe=>by rw[if_neg e]at h;exact h
  rw[if_pos e]at h;refine kat_cons (eq_int rfl ?_);by_cases e:x.2.2.2=y.2.2.2
  ·rw[decide_eq_true e]
   rw[decide_eq_false (by rw[e];exact Int.lt_irrefl _)]at h;exact kat_yes h
  ·rw[decide_eq_false e]
   exact kat_no (kat_one _ _ (lt_int h))
end
noncomputable def C5(cmp:List AV->St->Option (Nat->Nat->Option Bool))(J:AV->St->Option (AV×St))(xs:List AV)(st:St):Option (AV×St):=
 (th J xs st).bind λp=>(cmp p.1 p.2).bind λlt=>(mH lt (oV xs.length)).map λa=>(.ref p.2.length,p.2++[.list (a.toList.map λi=>xs.getD i .none)])
section
variable{C:Cfg}{n:Nat}{sc:bc}
theorem K3{prog:ft}{w:dB}{A:bg}{E:af->ah->Prop}{s:ah}{l:ak}{o:iL}{T:String}{m:Nat}{vs:List af}{Q:List af->ah->Prop}(O:T="list"\/T="tuple")(ho:s.heap.get? l=some o)(hc:o.cls=.type T)(hd:o.data=.seq vs.toArray m)
 (h:Q vs {s with heap:=(s.heap.push (seqObj "list" #[] 0)).update s.heap.objs.size (hU (·++vs.toArray))})(N:vs.length<=sizeLine):wpAny (model prog w) A (collect (.ref l)) Q E s:=by
 unfold collect;refine ar (OQ (xq entry_proto_collect' ?_));show wpAny _ _ (do again (.builtin "list.__iadd__" ⟨[<-newList [],.ref l],[]⟩)) _ _ s;refine ar (xK (aU ⟨Code.quiet_builtin _ (by decide+kernel),xq entry_list_iadd' ?_⟩));show wpAny _ _ (OZ (.ref s.heap.objs.size) (.ref l) (.ref s.heap.objs.size)) _ _ {s with heap:=s.heap.push (seqObj "list" #[] 0)};unfold OZ;have J:(s.heap.push (seqObj "list" #[] 0)).get? l=some o:=kG _ ho;refine ar (xM (T:=T) ⟨o,J,hc⟩ ?_);rw[if_pos (by rcases O with rfl|rfl<;>simp)];refine ar (A6 J hd ?_);refine ar (A6 (xs:=#[]) (n:=0) (qF _ rfl) rfl ?_);rw[if_neg (by simp)];refine ar (wR (xs:=#[]) (n:=0) (qF _ rfl) rfl ?_ (cJ _) (by show(#[]++vs.toArray).size <=sizeLine+1;simp only[QH,dI,nI];exact aw (bS (hH _)) (oX N)));refine aU ?_;show wpAny (model prog w) A (do
  let o <-load s.heap.objs.size
  match o.data with
  |.seq xs _=>pure xs.toList
  |_=>unsupported "internal:collect") Q E {s with heap:=(s.heap.push (seqObj "list" #[] 0)).update s.heap.objs.size (hU (·++vs.toArray))}
 refine ar (E3 (r8 (qF _ rfl) _) ?_);show wpAny _ _ (pure ((#[]:Array af)++vs.toArray).toList) Q E _;rw[show((#[]:Array af)++vs.toArray).toList =vs by simp];exact aU h
theorem Ok.map'{α β:Type}{x:Option β}{f:β->α}{P:α->Prop}(h:Ok x λa=>P (f a)):Ok (x.map f) P:=by
 cases x with
 |none=>exact h
 |some a=>exact h
theorem Mk{J:AV->St->Option (AV×St)}{xs:List AV}:∀{st:St}{P:List AV×St->Prop},Ok (th J xs st) P->Ok (th J xs st) λp=>P p/\p.1.length =xs.length:=by
 induction xs with
 |nil=>exactλh=>⟨h,rfl⟩
 |cons x xs N=>exactλ{st P} h=>Ok.bind' ((Ok.bind h).mono λp h=>Ok.map' (Ok.mono (N (Ok.map h)) λq h=>⟨h.1,congrArg (·+1) h.2⟩))
theorem Ll{ρ:aD}{xs:List AV}{vs:List af}(r:bu ρ xs vs)(is:List Nat):bu ρ (is.map λi=>xs.getD i .none) (is.map λi=>vs.getD i .none):=by
 induction is with
 |nil=>exact .nil
 |cons i is J=>
  refine .cons ?_ J;show RelV ρ (xs.getD i .none) (vs.getD i .none);rw[jg,jg];cases q:xs[i]? with
  |none=>rw[uO.mpr (r.length.symm▸uO.mp q)];rfl
  |some x=>refine aG (r.get q) λV N O=>?_;rw[N];exact O
theorem Ur{A:bg}{E:af->ah->Prop}{s:ah}{ρ:aD}{st:St}{D:ak}{f:af}{m:Nat}{xs:List AV}{vs:List af}{P:Hq->ah->Prop}{cmp}{kf:AV->St->Option (AV×St)}(J:aD->ah->Prop)(hu:A.units<cLine)
 (R:Rel C ρ st s.heap)(rv:bu ρ xs vs)(h2:2<=vs.length)(S:vs.length<64)(hD:s.heap.get? D=some (jn vs m))(O:D∉ρ)(hDB:C.base.get? D=none)
 (hJ:∀X aq s' ρ'' Y,(∀a,X a->a=D\/s.heap.get? a=none)->Go X aq s' ρ'' Y->J aq s'->J ρ'' Y)(hJ0:J ρ s)(hcmp:zj C cmp)
 (hf:∀{ρ st s x V Q},J ρ s->Rel C ρ st s.heap->RelV ρ x V->Ok (kf x st) (Res C ρ s Q)->oH C A (call f [V]) Q (λ_ _=>False) s)
 (h:Ok ((th kf xs st).bind λp=>(cmp p.1 p.2).bind λlt=>(mH lt (oV xs.length)).map λa=>(a.toList,p.2)) λq=>∀c aq s',Go (·=D) ρ s aq s'->Rel C aq q.2 s'.heap->D∉aq->
  s'.heap.get? D=some (jn (q.1.map λi=>vs.getD i .none) c)->P (.done (.ret .none)) s'):oH C A (ksk_tree D f false) P E s:=by
 have s1:=Al s.heap D (hU λ_=>(#[]:Array af));obtain⟨e1,ho1⟩:∃e1,(s.heap.update D (hU λ_=>(#[]:Array af))).get? D=some (seqObj "list" #[] e1):=⟨_,r8 hD λ_=>#[]⟩;unfold ksk_tree;refine ar (A6 hD rfl ?_);refine ar (wR hD rfl ?_ (by exact aw (fU S) (by decide)) (cJ _));refine ar (Nl ho1 rfl ?_);refine ar (GS ?_ (by show vs.length<=_;rw[sizeLine_eq];exact aw (fU S) (by decide)));refine ar (xK ?_ (cJ _));refine mh ?_;unfold ksk_rest;refine ar (nM ?_);rw[List.forIn_toArray];generalize hkS:((s.heap.update D (hU λ_=>(#[]:Array af))).push {cls:=.type "tuple",data:=.seq vs.toArray.toList.toArray}).objs.size =kS;generalize hh3:((s.heap.update D (hU λ_=>(#[]:Array af))).push {cls:=.type "tuple",data:=.seq vs.toArray.toList.toArray}).push {cls:=.type "list",data:=.seq ([]:List af).toArray }=h3;have k3:∀b o,b≠D->s.heap.get? b=some o->h3.get? b=some o:=λb o ne e=>hh3▸dn _ _ _ _ (dn _ _ _ _ ((s1.2 b ne).trans e));have hD3:h3.get? D=some (jn [] e1):=hh3▸dn _ _ _ _ (dn _ _ _ _ ho1);have hk3:h3.get? kS=some (jn [] 0):=by rw[<-hh3,<-hkS];exact dN _ rfl
 have U:s.heap.get? kS=none:=by
  rw[<-hkS,m4,Pu];exact j6 _ 1
 have hkD:kS≠D:=λz=>nomatch (z▸U:s.heap.get? D=none).symm.trans hD;have g3:Go (·=D) ρ s ρ {s with heap:=h3}:=⟨jJ _,λ_ z=>.inl z,λb o e _ ne=>k3 b o ne e,λb o e=>by
  by_cases z:b=D
  ·exact z▸⟨_,hD3⟩
  ·exact⟨o,k3 b o z e⟩,rfl,rfl⟩
 have R3:Rel C ρ st h3:=R.lY (·=D) (λb o e ne=>k3 b o ne e) (λa m z=>O (z▸m)) λa o e z=>nomatch (z▸hDB:C.base.get? a=none).symm.trans e;have kB:=R.iB U;refine ar (Qv (C:=C) (kS:=kS) (J:=λaq s'=>J aq s'/\D∉aq/\s'.heap.get? D=some (jn [] e1)) (s:={s with heap:=h3}) (kvs:=[]) (λρ1 t1 bA t2 g j=>⟨hJ (·=kS) _ _ _ _ (λa z=>.inr ((congrArg s.heap.get? z).trans U)) g j.1,g.iZ j.2.2 j.2.1,g.cI _ _ j.2.2 j.2.1 hkD.symm⟩) kB (λj=>hf j.1)
  (λx ks e s' K hk hl hx=>?_) rv (jJ _) ⟨hJ (·=D) _ _ _ _ (λa z=>.inl z) g3 hJ0,O,hD3⟩ R3 (R.fh U) hk3 .nil (by simpa using S) ((Mk h.bind).mono λp hpl ks' e' bA s2 g2 R2 r2 hk2=>?_))
 ·refine ar (xP (e7 hx (λk Y hk=>?_) λ_ _ z=>z.elim))
  have sb:=Al Y.heap kS (hU (·.push k));have ea:(nO ks).push k=nO (ks++[k]):=by simp
  obtain⟨c2,hc2⟩:∃c2,(Y.heap.update kS (hU (·.push k))).get? kS=some (jn (ks++[k]) c2):=⟨_,(r8 hk.1 (·.push k)).trans (congrArg (λx=>some (seqObj "list" x _)) ea)⟩;refine ar (wR hk.1 rfl ?_ (by exact aw (fU hl) (by decide)) (aw (bS (Array.size_push ..)) (by exact cK hl (dg ..))));exact aU ⟨rfl,hk.2 _ c2 sb hc2⟩
 ·refine ar (A6 hk2 rfl ?_)
  obtain⟨h,hpl⟩:=hpl;have hl:ks'.length=vs.length:=by rw[r2.length,d_,hpl,rv.length]
  have r2:bu bA p.1 ks':=r2;refine fH (hcmp hu R2 r2 (hl.symm▸h2) h.bind) λκ lt h hkind hask=>?_;have hn2:¬vs.toArray.size<2:=by exact qm h2
  unfold ksk_end;dsimp only;rw[if_neg d9,if_neg hn2,if_neg hn2];refine ar (e7 (hkind (Q:=λκ' s'=>κ'=κ/\s'=s2) ⟨rfl,rfl⟩) (λκ' s' e=>?_) λ_ _ z=>z.elim);rw[e.1,e.2];have N:∀a o,s.heap.get? a=some o->a≠kS:=λa o e z=>nomatch (z▸U:s.heap.get? a=none).symm.trans e;have g:Go (·=D) ρ s bA s2:=⟨g2.pre,λa m=>(g2.new a m).imp_right λz=>g3.back z,λa o e n ne=>g2.cI a o (k3 a o ne e) n (N a o e),λa o e=>(g3.alive a o e).elim λo' e'=>g2.alive a o' e',g2.os,g2.gens⟩;have hD2:=g2.cI _ _ hD3 O hkD.symm;have hDρ2:D∉bA:=g2.iZ hD3 O;have hkρ2:kS∉bA:=g2.iZ hk3 (R.fh U);rw[<-rv.length]at h;refine ar (e7 (kat_run (G:=λp s'=>s'=s2/\mH lt (oV vs.length)=some p) (Q:=λst' s'=>∃p':Array Nat,p'.size=vs.length/\arrOf st'=p'.map (kas_item ((nO ks').zip vs.toArray))/\failedOf st'=none/\s'=s2/\mH lt (oV vs.length)=some p') hl h2 S
   (λp' st' s' a1 a2 a3 a4=>⟨p',a1,a2,a3,a4.1,a4.2⟩) (SY hask _ (h.map.some λa ea _=>Ok.of ea ⟨rfl,ea⟩))) ?_ λ_ _ z=>z)
  rintro⟨⟨⟩,st'⟩ s' ⟨p',hp,har,hfl,es,ea⟩;rw[es];refine VS (C:=C) (kat_snds hl har) (by rw[aQ,uy,hp];exact S) (by exact bQ (bS hl) S) hfl hk2 hD2 hkD.symm λh' c kk hD' hS'=>?_;rw[ea]at h;refine h c bA {s2 with heap:=h'} ⟨g.pre,g.new,λa o e n ne=>kk a o ne (N a o e) (g.cI a o e n ne),λa o e=>?_,g.os,g.gens⟩ (R2.lY (λa=>a=D\/a=kS) (λb o e ne=>kk b o (λz=>ne (.inl z)) (λz=>ne (.inr z)) e) (λa m z=>z.elim (λz=>hDρ2 (z▸m)) λz=>hkρ2 (z▸m)) λa o e z=>z.elim (λz=>nomatch (z▸hDB:C.base.get? a=none).symm.trans e) λz=>nomatch (z▸kB:C.base.get? a=none).symm.trans e) hDρ2 hD';by_cases z:a=D
  ·exact z▸⟨_,hD'⟩
  ·obtain⟨o',e'⟩:=g.alive a o e
   exact⟨o',kk a o' z (N a o e) e'⟩
noncomputable def C2(a:AV)(st:St):Option (List AV):=a.r?.bind λl=>(bF st l).or (eo st l)
noncomputable def sX(cmp:List AV->St->Option (Nat->Nat->Option Bool))(t ln co:Nat)(q:ae)(kp:Nat)(fv:List Nat)(fe fa:EM):EM:=λF st=>
 (fa F st).bind λp=>(vB t ln co q p.2).bind λm=>(C2 p.1 m.2).bind λxs=>if 2<=xs.length/\xs.length<64 then C5 cmp (λx st=>(codeAt st m.1 q).bind λ_=>sV kp fv fe F x st) xs m.2 else none
theorem EK{x:ae}{p pos S:bM}{arg:aJ}{fa:EM}{cmp}(hx:∀A env F ρ st s Q E,a8 C sc ρ F env s.heap->Rel C ρ st s.heap->Q (.builtin "sorted") s->wpAny (model C.prog C.w) A (eval (.Name x p) env) Q E s)
 (U:isStar arg=false)(ha:bR C (n+3) sc arg fa)(hcmp:zj C cmp){t:Nat}{P cc:ak}(T:TabAt C t P cc)(hsc:sc.names.lookup ("due":ae)=some .local){params:ql}{body:aJ}{scope:bc}{O:bM}(hdef:∀env,defaultsOf params env=([],[]))
 {kp:Nat}{fv:List Nat}{fe:EM}(X:Jo C n sc params body scope kp fv fe):
 bR C (n+3) sc (.Call (.Name x p) [arg] [⟨some "key",.Lambda params body scope O,S⟩] pos) (sX cmp t O.line O.col (C.qual++"<lambda>") kp fv fe fa):=KE.s λ{A env F ρ st s Q E} hA N R h=>by
 show wpAny _ _ (do callWith pos (<-eval (.Name x p) env) [] (backTo pos (starEach [arg] env)) (backToKw pos (keywordEach [⟨some "key",.Lambda params body scope O,S⟩] env))) Q E s;refine ar (hx A env F ρ st s _ E N R (callWith_kw ?_ (by rw[pZ U];rfl) (by rw[pZ U];rfl) rfl rfl));rw[pZ U];refine E4 (ha.k hA N R (h.bind.mono λa h V ρ1 s1 g1 R1 r1=>Hj (kws_cons (N_ T hsc hdef X.hc (N.go g1) R1 (h.bind.mono λm h fq c' pm dZ bA s2 g2 R2 hc' hn hfρ hf=>kws_nil ?_)))));show wpAny _ _ (call (.builtin "sorted") [V] [(dy "key",.ref fq)]) Q E s2;have N2:=(N.go g1).go g2;have r2:=r1.mono g2.pre;have gg:=g1.trans g2;have seq:Ok (C2 a.1 m.2) (λxs=>Ok (if 2<=xs.length/\xs.length<64 then C5 cmp (λx st=>(codeAt st m.1 (C.qual++"<lambda>")).bind λ_=>sV kp fv fe F x st) xs m.2 else none) (Res C ρ s Q)):=h.bind
 have:∃la xs vs o T' md,V=.ref la/\bu bA xs vs/\(T'="list"\/T'="tuple")/\s2.heap.get? la=some o/\o.cls=.type T'/\o.data=.seq vs.toArray md/\Ok (if 2<=xs.length/\xs.length<64 then C5 cmp (λx st=>(codeAt st m.1 (C.qual++"<lambda>")).bind λ_=>sV kp fv fe F x st) xs m.2 else none) (Res C ρ s Q):=
  r2.r seq.bind λl la hl h=>h.or.elim (λh=>R2.l hl h λxs vs _ hl rv h=>hl.elim λmd hl=>⟨la,xs,vs,_,"list",md,rfl,rv,.inl rfl,hl,rfl,rfl,h⟩) λh=>R2.t hl h λxs vs _ hl rv h=>⟨la,xs,vs,_,"tuple",_,rfl,rv,.inr rfl,hl,rfl,rfl,h⟩
 refine nc this λla xs vs o zq4=>?_;refine Af zq4 λT' md zq2 rv hT ho hcls zq7=>?_;subst zq2;obtain⟨hd,h⟩:=zq7;obtain⟨hl,h⟩:=h.ite;rw[<-rv.length]at hl;refine call_function_entry_kw kind_sorted plain_sorted entry_sorted (ksk_s1 _ _) ?_;unfold Builtin.«sorted»;refine ar (m:=checkCount "sorted" 1 1 _) (aU ?_);refine ar (K3 hT ho hcls hd ?_ (by exact cq (cK hl.2 (by decide))));refine ar (xK ?_ (by exact cq (cK hl.2 (by decide))));generalize hD:((s2.heap.push (seqObj "list" #[] 0)).update s2.heap.objs.size (hU (·++vs.toArray))).objs.size =D;generalize hh3:((s2.heap.push (seqObj "list" #[] 0)).update s2.heap.objs.size (hU (·++vs.toArray))).push {cls:=.type "list",data:=.seq vs.toArray}=h3;have k3:∀b o,s2.heap.get? b=some o->h3.get? b=some o:=λb o e=>by
  rw[<-hh3];refine dn _ _ _ _ ?_;rw[lA _ _ _ _ (rZ (j9 e))];exact dn _ _ _ _ e
 have hD3:h3.get? D=some (jn vs 0):=by rw[<-hh3,<-hD];exact dN _ rfl
 have J:s2.heap.get? D=none:=by rw[<-hD,Pu,m4];exact j6 _ 1
 have g3:Go No bA s2 bA {s2 with heap:=h3}:=.keeps k3;have hlocD:env.locals≠D:=λz=>N2.ns.elim λM w=>(oy w).elim λo e=>nomatch (z▸e:s2.heap.get? D=some o).symm.trans J;have hcelD:∀y c,env.cells.lookup y=some c->c≠D:=λy c q z=>(N2.cells y c q).2.elim λv w=>(nY w).elim λo e=>nomatch (z▸e:s2.heap.get? D=some o).symm.trans J;refine ar (mh (wpAny_call_entry_kw slot_list_sort ⟨_,hD3,rfl⟩ entry_list_sort ?_ (ksk_l1 _ _)));show wpAny (model C.prog C.w) A.in1.in1 (Builtin.«list.sort» ⟨[.ref D],[(dy "key",.ref fq)]⟩) _ _ _;rw[ksk_t1];have hA2:bN (n+1) A.in1.in1:=(hA.in1).in1;refine Ur (C:=C) (s:={s2 with heap:=h3}) (λaq s'=>a8 C sc aq F env s'.heap/\fq∉aq/\s'.heap.get? fq=some (yl (C.qual++"<lambda>") params body scope (eY env scope.names []) pm c' dZ)/\aq[m.1]?=some c') hA2.W0
  (R2.keeps k3) rv hl.1 hl.2 hD3 (R2.fh J) (R2.iB J) (λY aq s' ρ'' s'' hY g j=>⟨j.1.oI g.l9 (λz=>?_) λy c q z=>?_,g.iZ j.2.2.1 j.2.1,g.cI _ _ j.2.2.1 j.2.1 λz=>?_,gK g.pre j.2.2.2⟩) ⟨N2.go g3,hfρ,k3 _ _ hf,hc'⟩ hcmp
  (λ{aq st' s' x V Q} j R' r' h'=>h'.bind.some λ_ e h'=>Rg X hA2 j.1 R' j.2.2.1 (LP (P:=λ_=>True) R' j.2.2.2 (Ok.of e trivial)).1 r' h') (Ok.bind' (h.bind.mono λp h=>Ok.bind' (h.bind.mono λlt h=>Ok.map' (h.map.mono λa h c aq s' g' R' hDρ' hD'=>⟨.none,rfl,?_⟩))))
 ·exact(hY _ z).elim hlocD λz=>N2.ns.elim λM w=>(oy w).elim λo e=>nomatch (k3 _ _ e).symm.trans z
 ·exact(hY _ z).elim (hcelD y c q) λz=>(N2.cells y c q).2.elim λv w=>(nY w).elim λo e=>nomatch (k3 _ _ e).symm.trans z
 ·exact(hY _ z).elim (λz=>nomatch hf.symm.trans ((congrArg s2.heap.get? z).trans J)) λz=>nomatch (k3 _ _ hf).symm.trans z
 ·have hD0:s.heap.get? D=none:=gg.back J
  have gD:Go No ρ s aq s':=((gg.weak (Y:=(·=D)) λ_ z=>z.elim).trans ((g3.weak λ_ z=>z.elim).trans g')).dead λa z=>(congrArg s.heap.get? z).trans hD0;obtain⟨R4,g4⟩:=known gD (R2.iB J) R' ⟨c,hD'⟩ (Ll (rv.mono g'.pre) a.toList) hDρ' hD0;exact aU ⟨_,rfl,h _ _ _ g4 R4 (m7 R')⟩
end
noncomputable def Dc(h:aO)(e:ak)(tb:af):Prop:=∃J vs,h.get? e=some J/\J.cls=.type "StopIteration"/\J.data=.fields vs/\vs[1]?=some tb/\vs[2]?=some .none
noncomputable def Yq(h:aO)(T:ak)(fl:af):Prop:=∃J ts,h.get? T=some J/\J.data=.fields ts/\ts[3]?=some fl
structure tL(hr:aO)(fr:List ak)(h:aO)(e:ak)(tb:af):Prop where
 en:hr.get? e=none
 ex:Dc h e tb
 kp:∀b o,hr.get? b=some o->(b∉fr->h.get? b=some o)/\∃sl,h.get? b=some {o with slots:=sl}
structure Flt(hr:aO)(fr:List ak)(h:aO)(e T:ak)(fl:af):Prop where
 ly:tL hr fr h e (.ref T)
 tn:hr.get? T=none
 ne:T≠e
 tb:Yq h T fl
section
variable{M:uK}{A:bg}{E:af->ah->Prop}{s:ah}{hr base:aO}{fr:List ak}{env:aS}{outer:List aS}{L e T:ak}{Q:Unit->ah->Prop}
theorem tL.frames{h:aO}{tb:af}(x:tL hr fr h e tb){l:List aS}(hl:hr.FunFrames base l):h.FunFrames base l:=
 hl.of_keeps λb o e _=>(x.kp b o e).2.elim λ_ z=>⟨_,z,rfl⟩
theorem GU{head:af}{N:Bool}{tb:af}(hfr:A.frames=some (env::outer))(hl:hr.FunFrames base (env::outer))(hf:env.frame=some L)(hsub:∀b∈(env::outer).filterMap (·.frame),b∈fr)(x:tL hr fr s.heap e tb)
 (h:∀h' T,Flt hr fr h' e T (rawInt L)->Q () {s with heap:=h'}):
 wpAny M A (do let a <-frameOf env;let pl <-entryPlaceOf L N;let b <-Qh head a .none (rawInt L) .none pl;setField (.ref e) 1 b) Q E s:=by
 refine ku x.ex λoe vs he hc hd h1 h2=>?_;have hl':=x.frames hl;have hene:e∉(env::outer).filterMap (·.frame):=λhm=>by
  refine tj (hl'.mem hm) λ_ o ho hnf=>?_;rw[he]at ho;cases ho;exact hnf vs hd
 refine ar (wpAny_frameOf_fun hfr hl' hf λh₁ J=>?_);refine ar (wpAny_entryPlaceOf λpl hpl=>?_);unfold Qh newFields;refine ar (qc ?_ (hpl.sizeOk5 _ _ _ _ _));have O:h₁.get? e=some oe:=(J.2.1 e hene).trans he;have R:=kG (h:=h₁) {cls:=.type "traceback",dict:=none,data:=.fields ([head,.ref L,.none,rawInt L,.none]++(if pl.isEmpty then bZ 6 g_ else pl)).toArray } O;have hsz:1<vs.size:=(PB.mp h1).1;refine uB R hd hsz (h _ h₁.objs.size ?_);have hTe:h₁.objs.size≠e:=jh (j9 O);have S:=r6 hd (·.setIfInBounds 1 (eH h₁.objs.size));have Y:=(HF (h₁.push {cls:=.type "traceback",dict:=none,data:=.fields ([head,.ref L,.none,rawInt L,.none]++(if pl.isEmpty then bZ 6 g_ else pl)).toArray })
  (sd (·.setIfInBounds 1 (eH h₁.objs.size))) (Ne.symm hTe)).trans (qF h₁ rfl)
 have keep:∀b o,b≠e->h₁.get? b=some o->((h₁.push {cls:=.type "traceback",dict:=none,data:=.fields ([head,.ref L,.none,rawInt L,.none]++(if pl.isEmpty then bZ 6 g_ else pl)).toArray }).update e (sd (·.setIfInBounds 1 (eH h₁.objs.size)))).get? b=some o:=
  λb o hbe hb=>(HF _ _ (Ne.symm hbe)).trans (kG _ hb)
 have U:∀b o,hr.get? b=some o->b≠e:=λb o q z=>nomatch (z▸x.en:hr.get? b=none).symm.trans q;refine⟨⟨x.en,⟨_,_,qo _ R (wV S),(GY _ _).trans hc,S,by simp[hsz],by rw[Array.getElem?_setIfInBounds_ne (by decide)];exact h2⟩,λb o q=>?_⟩,?_,hTe,⟨_,_,Y,rfl,by first|(simp;done)|(rcases hpl with rfl|⟨_,_,_,_,_,_,_,rfl⟩<;>simp)⟩⟩
 ·refine pL (x.kp b o q) λk1 sl k2=>?_
  refine bO (J.2.2 b _ k2) λsl' k3=>?_;exact⟨λn=>keep b o (U b o q) ((J.2.1 b λm=>n (hsub b m)).trans (k1 n)),sl',keep b _ (U b o q) k3⟩
 ·cases q:hr.get? h₁.objs.size with
  |none=>rfl
  |some o=>refine pL (x.kp _ o q) λ_ sl k2=>?_;exact absurd (j9 k2) (by rw[J.1];exact jI _)
theorem Wx(N:A.frames=some (env::outer))(hl:hr.FunFrames base (env::outer))(hf:env.frame=some L)(J:∀b∈(env::outer).filterMap (·.frame),b∈fr)(x:tL hr fr s.heap e .none)
 (h:∀h' T,Flt hr fr h' e T (rawInt L)->Q () {s with heap:=h'}):wpAny M A (noteFrame (.ref e) env) Q E s:=by
 refine ku x.ex λO vs he hc hd h1 h2=>?_;unfold noteFrame;simp only[hf];refine ar (jf he hd h1 ?_);rw[if_neg (by decide)];exact GU N hl hf J x h
theorem HX{fl N:af}(x:Flt hr fr s.heap e T fl)(h:∀h',Flt hr fr h' e T N->Q () {s with heap:=h'}):wpAny M A (setField (.ref T) 3 N) Q E s:=by
 refine fH x.tb λoT ts S O h3=>?_;have R:=(PB.mp h3).1;have other:∀b,b≠T->(s.heap.update T (sd (·.setIfInBounds 3 N))).get? b=s.heap.get? b:=λb hb=>HF _ _ (Ne.symm hb);have J:∀b o,hr.get? b=some o->b≠T:=λb o q z=>nomatch (z▸x.tn:hr.get? b=none).symm.trans q;refine uB S O R (h _ ⟨⟨x.ly.en,?_,λb o q=>?_⟩,x.tn,x.ne,⟨_,_,qo _ S (wV (r6 O _)),r6 O _,by simp[R]⟩⟩)
 ·refine ou x.ly.ex λU vs he r=>?_
  exact⟨U,vs,(other e x.ne.symm).trans he,r⟩
 ·refine pL (x.ly.kp b o q) λY sl k2=>?_
  exact⟨λn=>(other b (J b o q)).trans (Y n),sl,(other b (J b o q)).trans k2⟩
theorem ym{fl:af}{f:Option ak}(x:Flt hr fr s.heap e T fl)(h:∀h',Flt hr fr h' e T (f.elim .none λf=>rawInt f)->Q () {s with heap:=h'}):wpAny M A (setFlight (.ref e) f) Q E s:=by
 refine ku x.ly.ex λJ vs he hc hd h1 h2=>?_;unfold setFlight;refine ar (jf he hd h1 ?_);rw[if_pos (show(eH T !=g_)=true from by simp)];exact HX x h
theorem Qt(hf:env.frame=some L)(x:Flt hr fr s.heap e T (rawInt L))(h:Q () s):wpAny M A (noteFrame (.ref e) env) Q E s:=by
 refine ku x.ly.ex λO vs he hc hd h1 h2=>?_;refine fH x.tb λR ts N J h3=>?_;exact wpAny_noteFrame_inFlight hf he hd h1 N J h3 h
theorem Uc(N:A.frames=some (env::outer))(hl:hr.FunFrames base (env::outer))(hf:env.frame=some L)(J:∀b∈(env::outer).filterMap (·.frame),b∈fr)(x:Flt hr fr s.heap e T .none)
 (h:∀h' T,Flt hr fr h' e T (rawInt L)->Q () {s with heap:=h'}):wpAny M A (noteFrame (.ref e) env) Q E s:=by
 refine ku x.ly.ex λU vs he hc hd h1 h2=>?_;refine fH x.tb λY ts R O h3=>?_;unfold noteFrame;simp only[hf];refine ar (jf he hd h1 ?_);rw[if_pos (show(eH T !=g_)=true from by simp)];refine ar (jf R O h3 ?_);rw[if_neg (show¬((g_==rawInt L)=true)from by simp[rawInt])];exact ar (HX x λh' S=>GU N hl hf J S.ly h)
theorem PH(hf:env.frame=some L)(x:Flt hr fr s.heap e T (rawInt L))(h:∀h',Flt hr fr h' e T .none ->Q () {s with heap:=h'}):wpAny M A (leaving env (.ref e)) Q E s:=
 ar (Qt hf x (ym x h))
theorem Tp{K:af->ah->Prop}{fl:af}(hf:env.frame=some L)(x:Flt hr fr s.heap e T fl)(h:∀h',Flt hr fr h' e T (rawInt L)->K (.ref e) {s with heap:=h'}):cameBackBy M A env K (.ref e) s:=by
 refine ku x.ly.ex λJ vs he hc hd h1 h2=>?_;unfold cameBackBy;refine ar (jf he hd h1 ?_);rw[if_neg (show¬((eH T==g_)=true)from by simp)];rw[hf];exact ym x h
end
theorem Lv{prog:ft}{w:dB}{A:bg}{α:Type}{Q:α->ah->Prop}{E:af->ah->Prop}{s:ah}(J:A.handled=none)
 (h:∀h' e,(∀b o,s.heap.get? b=some o->h'.get? b=some o)->s.heap.get? e=none->Dc h' e .none ->E (.ref e) {s with heap:=h'}):wpAny (model prog w) A (newExc (.type "StopIteration") []>>= λe=>raiseNew e:dS α) Q E s:=by
 refine ar ?_;unfold newExc newTuple;refine ar (qc ?_ (by size_fits));refine ar (m:=firstArgMember _ _) (ef (a:=g_) (by first|rfl|(simp only[firstArgMember];rfl)) ?_);refine qc ?_ (by size_fits);unfold raiseNew;refine ar (FQ ?_);rw[J];refine ar (aU (Ha ?_));exact h _ _ (λb o e=>kG _ (kG _ e)) (by rw[m4];exact j6 _ 1) ⟨_,_,qF _ rfl,rfl,rfl,rfl,rfl⟩
theorem next_end{prog:ft}{w:dB}{A:bg}{it l:ak}{i:Nat}{items:Array af}{Q:af->ah->Prop}{E:af->ah->Prop}{s:ah}(S:A.handled=none)
 (hit:s.heap.IsListIter it l i)(hl:s.heap.IsList l items)(U:items[i]?=none)
 (Y:∀(hm h':aO)(e:ak),(∀b o,b≠it->s.heap.get? b=some o->hm.get? b=some o)->(∃o,hm.get? it=some o)->(∀b o,hm.get? b=some o->h'.get? b=some o)->hm.get? e=none->Dc h' e .none ->E (.ref e) {s with heap:=h'}):wpAny (model prog w) A (call (.builtin "next") [.ref it]) Q E s:=by
 refine di (id hit) λo ho hc hd=>?_;refine di hl λol J _ N=>?_;obtain⟨nl,O⟩:=N;refine A4 (by decide+kernel) (by decide+kernel) Qy (Q2 _) ?_;unfold Builtin.«next»;refine ar (m:=someArgs "next" 1 2 _) (ef (a:=[eH it]) (by first|rfl|kernel_rfl) ?_);dsimp only;refine ar (nT (name:=dy "__next__") hit.typeIs qa.lookup (FV (λR=>absurd R (by simp)) (λ_=>?_)));refine ar (xt (name:=dy "__next__") hit.typeIs qa (p_ qa hit.typeIs GL ?_ (Fc _)));show wpAny _ _ (field (.ref it) 0>>= _) _ _ s;refine ar (jf ho hd (x:=.ref l) rfl ?_);show wpAny _ _ (if(eH l==g_)=true then _ else _) _ _ s;rw[if_neg (show¬((eH l==g_)=true)from d9)];show wpAny _ _ (field (.ref it) 1>>= _) _ _ s;refine ar (jf ho hd (x:=.int i 0) rfl ?_);show wpAny _ _ (seqItems? (.ref l)>>= _) _ _ s;refine ar (xC J O ?_);simp only[xf,U];refine ar (nM (ar (uB ho hd (by simp) ?_)));show wpAny _ _ (newExc (.type "StopIteration") []>>= λe=>raiseNew e) _ _ _;have hi:=qo (sd (·.setIfInBounds 0 g_)) ho (wV (r6 hd _));exact Lv S λh' e k hn he=>Y _ h' e (λb o ne e=>(lA _ _ _ _ ne).trans e) ⟨_,hi⟩ k hn he
noncomputable def uQ(h:aO)(x:ak):Prop:=∃o vs,h.get? x=some o/\o.data=.fields vs/\vs[2]?=some .none
theorem Ku:entryFor table "proto.unchain"=some Builtin.«proto.unchain»:=BC (by kernel_rfl)
theorem KJ{prog:ft}{w:dB}{A:bg}{α:Type}{Q:α->ah->Prop}{E:af->ah->Prop}{s:ah}{x:ak}(Y:A.handled=some (.ref x))(hx:uQ s.heap x)
 (h:∀h' e,(∀b o,s.heap.get? b=some o->h'.get? b=some o)->(∃o,h'.get? e=some o/\o.cls=.type "StopIteration")->E (.ref e) {s with heap:=h'}):wpAny (model prog w) A (newExc (.type "StopIteration") []>>= λe=>raiseNew e:dS α) Q E s:=by
 refine ar ?_;unfold newExc newTuple;refine ar (qc ?_ (by size_fits));refine ar (m:=firstArgMember _ _) (ef (a:=g_) (by first|rfl|(simp only[firstArgMember];rfl)) ?_);refine qc ?_ (by size_fits);unfold raiseNew;refine ar (FQ ?_);rw[Y];refine fH hx λo vs ho hd h2=>?_;have R:∀b o',s.heap.get? b=some o'->((s.heap.push {cls:=.type "tuple",data:=.seq ([]:List af).toArray }).push {cls:=.type "StopIteration",data:=.fields (#[.ref s.heap.objs.size,.none,.none,.none,.bool false,.none]++ownMembersOf (.type "StopIteration") [])}).get? b=some o':=λb o' e=>kG _ (kG _ e);generalize S:((s.heap.push {cls:=.type "tuple",data:=.seq ([]:List af).toArray }).push {cls:=.type "StopIteration",data:=.fields (#[.ref s.heap.objs.size,.none,.none,.none,.bool false,.none]++ownMembersOf (.type "StopIteration") [])})=N at R;generalize U:(s.heap.push {cls:=.type "tuple",data:=.seq ([]:List af).toArray }).objs.size =J;have he:N.get? J=some {cls:=.type "StopIteration",data:=.fields (#[.ref s.heap.objs.size,.none,.none,.none,.bool false,.none]++ownMembersOf (.type "StopIteration") [])}:=by rw[<-S,<-U];exact qF _ rfl
 have O:s.heap.get? J=none:=by rw[<-U,m4];exact j6 _ 1
 have ne:x≠J:=λz=>nomatch (z▸ho:s.heap.get? J=some o).symm.trans O;show wpAny _ _ (if(eH x !=eH J)=true then _ else _) Q E {s with heap:=N};rw[if_pos (show(eH x !=eH J)=true by simp[ne])];refine ar (mh (OQ (xq Ku ?_)));show wpAny _ _ (field (.ref x) 2>>= _) _ _ _;refine ar (jf (R _ _ ho) hd h2 ?_);rw[if_pos (show(g_==g_)=true from rfl)];refine aU ?_;refine ar (uB he rfl (by rw[QH];exact cK (by decide:2<6) (c8 _ _)) (Ha ?_));refine h _ J (λb o' e=>(lA _ _ _ _ λz=>nomatch e.symm.trans ((congrArg s.heap.get? z).trans O)).trans (R b o' e)) ⟨_,qo _ he (wV (r6 rfl _)),GY _ _⟩
theorem Kq{prog:ft}{w:dB}{A:bg}{it l x:ak}{i:Nat}{items:Array af}{Q:Option af->ah->Prop}{E:af->ah->Prop}{s:ah}(hh:A.handled=some (.ref x))(hx:uQ s.heap x)(J:x≠it)
 (hit:s.heap.IsListIter it l i)(hl:s.heap.IsList l items)(hx:items[i]?=none)
 (hQ:∀h',(∀b o,b≠it->s.heap.get? b=some o->h'.get? b=some o)->Q none {s with heap:=h'}):wpAny (model prog w) A (pyNext (.ref it)) Q E s:=by
 refine di (id hit) λo ho hc hd=>?_;refine di hl λol N _ O=>?_;obtain⟨nl,R⟩:=O;unfold pyNext;refine ar (xP (xt (name:=dy "__next__") hit.typeIs qa
  (p_ qa hit.typeIs GL ?_ (Fc _))))
 show wpAny _ _ (field (.ref it) 0>>= _) _ _ s;refine ar (jf ho hd (x:=.ref l) rfl ?_);show wpAny _ _ (if(eH l==g_)=true then _ else _) _ _ s;rw[if_neg (show¬((eH l==g_)=true)from d9)];show wpAny _ _ (field (.ref it) 1>>= _) _ _ s;refine ar (jf ho hd (x:=.int i 0) rfl ?_);show wpAny _ _ (seqItems? (.ref l)>>= _) _ _ s;refine ar (xC N R ?_);simp only[xf,hx];refine ar (nM (ar (uB ho hd (by simp) ?_)));show wpAny _ _ (newExc (.type "StopIteration") []>>= λe=>raiseNew e) _ _ _;refine KJ (x:=x) hh (by rename_i S _;refine ou S λox vx e1 e2=>?_;exact⟨ox,vx,(lA _ _ _ _ J).trans e1,e2⟩) λh' e k he=>?_;refine aG he λoe U Y=>?_;refine ar (PT (T:="StopIteration") (b:=true) ⟨_,U,Y⟩ GJ ?_);exact aU (hQ _ λb o ne e=>k b o ((lA _ _ _ _ ne).trans e))
theorem KI{prog:ft}{w:dB}{A:bg}{x:ak}(hh:A.handled=some (.ref x))(I N:ak)(S:N≠I)(Y:x≠I)(items:Array af):
 Walks prog w A I [I,N,x] [I] items.size (λi v=>items[i]?=some v) (λi h=>h.IsListIter I N i/\h.IsList N items/\uQ h x)where
 sub:=λb hb=>by simp at hb;simp[hb]
 frame:=λ_ _ _ st hk=>⟨st.1.at λo e=>hk I (by simp) o e,st.2.1.at λo e=>hk N (by simp) o e,st.2.2.imp λo z=>z.imp λvs z=>⟨hk x (by simp) o z.1,z.2⟩⟩
 item:=λi s Q E hi st O=>by
  refine RQ st.1 st.2.1 (x:=items[i]) (by simp[hi]) λh' R J=>?_;exact O _ h' s.toks (by simp[hi]) ⟨R,st.2.1.extBut J.extBut S,st.2.2.imp λo z=>z.imp λvs z=>⟨J.extBut x o Y z.1,z.2⟩⟩ λb o hb e=>J.extBut b o (λh=>hb (by simp[h])) e
 done:=λs Q E st O=>Kq hh st.2.2 Y st.1 st.2.1 (by simp) λh' U=>O h' s.toks λb o hb e=>U b o (λh=>hb (by simp[h])) e
 self:=λ_ _ _ _ st O=>As st.1 O
theorem Xg{prog:ft}{w:dB}{A:bg}{E:af->ah->Prop}{s:ah}{l x:ak}{xs:Array (Int×Tok)}{Q:af->ah->Prop}(S:A.handled=some (.ref x))(O:uQ s.heap x)(hl:s.heap.IsList l (intItems xs))
 (h:∀h' tk t',(∀b o,s.heap.get? b=some o->h'.get? b=some o)->Q (.int (preSum (numAt xs) xs.size) t') {s with heap:=h',toks:=tk}):
 wpAny (model prog w) A (call (.builtin "sum") [.ref l]) Q E s:=by
 have J:x<s.heap.objs.size:=O.elim λo z=>z.elim λvs z=>j9 z.1;refine call_sum_walkG (iter_intList hl λR e st pQ N=>?_);subst e;refine⟨_,_,_,_,_,_,numAt xs,rfl,KI (A:=A.in1) (x:=x) S _ l N (rZ J) (intItems xs),⟨st.1,st.2,O.imp λo z=>z.imp λvs z=>⟨kG _ z.1,z.2⟩⟩,λb m=>?_,(λ_ _=>intItems_at),λh' tk t' hk=>?_⟩
 ·rcases bJ.mp m with rfl|m
  ·exact pQ _ (by simp)
  ·rcases bJ.mp m with rfl|m
   ·exact pQ _ (by simp)
   ·rw[cx.mp m]
    show x<(s.heap.push _).objs.size;rw[m4];exact rT J
 ·have:=h h' tk t' (old_kept hk)
  simpa[intItems]using this
end Mine
open PySem PySem.W PyProof.Rows
namespace Mine
open_top hd01 for PySem.Challenge.rw_ux0006_01.row
theorem ws:ZI.wellSaid=true:=by decide+kernel
open PySem PyProof.Rows PySem.W
noncomputable def HV:List ae:=[("text":ae),("places":ae),("read":ae),("stream":ae),("size":ae),("iterator":ae),("val":ae),("b":ae),("want":ae),("got":ae),("ws":ae),("w":ae),("startpos":ae),("endpos":ae),("word":ae),("kind":ae),("signs":ae),("sign":ae),("number":ae),("form":ae),("more":ae),("parts":ae),("part":ae),("octet":ae),("k":ae),("name":ae),("place":ae),("self":ae),("fp":ae),("pushback":ae),("whitespace":ae),("instream":ae),("lineno":ae),("token":ae),("ch":ae),("_read_char":ae),("fiter":ae),("data":ae),("script":ae),("push_token":ae),("get_token":ae),("sent":ae),("_":ae),("own":ae),("weights":ae),("n":ae),("words":ae),("dots":ae),("cores":ae),("two":ae),("one":ae),("base":ae),("x":ae),("lexer":ae),("octets":ae),("orders":ae),("order":ae),("steps":ae),("due":ae),("taken":ae),("wants":ae),("calls":ae),("after":ae),("row":ae),("lines":ae),("line":ae),("names":ae),("call":ae),("led":ae),("shares":ae),("share":ae),("total":ae),("to":ae),("weight":ae),("a":ae),("c":ae),("old":ae),("traces":ae),("counts":ae),("count":ae),("first":ae),("powers":ae),("trace":ae),("product":ae),("up":ae),("low":ae)]
theorem LO:yd HV:=Lp (by decide+kernel) (by decide+kernel)
noncomputable abbrev aI(w:dB)(base:aO)(mg mb:ae->Option af)(pins:List (Nat×ak))(H:Fx (hd01.heap_1 w.params) base mg mb):Cfg:=
 cfgOf ml.row.prog w (hd01.heap_1 w.params) base mg mb HV pins (.ref 130) "law.<locals>." LO H
noncomputable def vA(a:AV)(st:St):Option (List AV):=a.r?.bind λl=>(eo st l).map λ_=>[a]
section
variable{w:dB}{base:aO}{mg mb:ae->Option af}{pins:List (Nat×ak)}(H:Fx (hd01.heap_1 w.params) base mg mb)
noncomputable def pY:SM:=(ao (bj 7 (bK mI (ab (aa 5) ag)))
 (ao (bj 6 (ay oz (aa 7) (xk (.int 63))))
 (ao (lL (kn iw (ay oz (aa 7) (xk (.int 64)))) (ao (eS 6 nt (xk (.int 6)))
 (ao (bj 7 (bK mI (ab (aa 5) ag)))
 (ao (eS 6 zB (ay oz (aa 7) (xk (.int 63))))
 aC))) 400)
 (ao (cy (aa 6))
 aC))))
theorem Ki{n:Nat}:gr (aI w base mg mb pins H) n (bH (hd01.heap_1 w.params) 80) 0 (bT (hd01.heap_1 w.params) 80) pY:=
 (aK (cY 7 rfl (dQ (b8 rfl (H.bE rfl) (H.cg (by decide) rfl) (by decide)) (Plain.cons rfl Plain.nil) cP (au (ai 5 rfl (by decide)) aF rfl) Ca) (.inl rfl) rfl)
 (aK (cY 6 rfl (aY (ai 7 rfl (by decide)) aA vf) (.inl rfl) rfl)
 (aK (EJ 400 (qh (by intro _;rfl) (aY (ai 7 rfl (by decide)) aA vf) qk) (aK (mx 6 rfl aA HW (.inl rfl))
 (aK (cY 7 rfl (dQ (b8 rfl (H.bE rfl) (H.cg (by decide) rfl) (by decide)) (Plain.cons rfl Plain.nil) cP (au (ai 5 rfl (by decide)) aF rfl) Ca) (.inl rfl) rfl)
 (aK (mx 6 rfl (aY (ai 7 rfl (by decide)) aA vf) UA (.inl rfl))
 bp))))
 (aK (eC (ai 6 rfl (by decide)))
 bp))))
theorem Kj{n:Nat}:dX (aI w base mg mb pins H) (n+1) (.ref 80) (bG [5] pY):=
 m6 (fd:=iY (hd01.heap_1 w.params) 80) rfl rfl rfl rfl rfl rfl
  (qV λa0=>by rfl) (by decide) (dp (.inl rfl) (fy)) (lX rfl) (Ki H) rfl rfl rfl rfl
noncomputable def lz:SM:=(ao (cn (aT mC (xk (.str "...")) (aa 8)) (ao (cy (ay oEq (aa 8) (aa 9)))
 aC) aC)
 (ao (bj 10 (bU jr yn (aa 8) (ab (xk (.str "...")) ag)))
 (ao (x8 (aT zt (bK iv (ab (aa 10) ag)) (xk (.int 2))))
 (ao (pG [12,13] (ab (xk (.int 0)) (ab (bK iv (ab (aa 9) ag)) ag)))
 (ao (bj 11 (aH (aa 10) (xk (.int 0))))
 (ao (cn (kn iw (aa 11)) (ao (cn (kn iw (bU jr uS (aa 9) (ab (aa 11) ag))) (ao (bj 12 (bK iv (ab (aa 11) ag)))
 (ao (oC (aa 10) (xk (.int 0)))
 aC)) (ao (cy (xk (.bool false)))
 aC))
 aC) aC)
 (ao (bj 11 (aH (aa 10) (i9 (xk (.int 1)))))
 (ao (cn (kn iw (aa 11)) (ao (cn (kn iw (bU jr vl (aa 9) (ab (aa 11) ag))) (ao (eS 13 kl (bK iv (ab (aa 11) ag)))
 (ao (oC (aa 10) (i9 (xk (.int 1))))
 aC)) (ao (cy (xk (.bool false)))
 aC))
 aC) aC)
 (ao (cn (aT l8 (aa 12) (aa 13)) (ao (cy (xk (.bool false)))
 aC) aC)
 (ao (λF st=>((bL (aa 10)) F st).bind λp=>cA (.name 11) (ao (bj 12 (bU jr yM (aa 9) (ab (aa 11) (ab (aa 12) (ab (aa 13) ag)))))
 (ao (cn (aT oLt (aa 12) (xk (.int 0))) (ao (cy (xk (.bool false)))
 aC) aC)
 (ao (eS 12 gO (bK iv (ab (aa 11) ag)))
 aC))) 400 p.1 F p.2)
 (ao (cy (xk (.bool true)))
 aC)))))))))))
theorem Ke{n:Nat}:gr (aI w base mg mb pins H) n (bH (hd01.heap_1 w.params) 87) 0 (bT (hd01.heap_1 w.params) 87) lz:=
 (aK (eO (cQ (tY (jA rfl (H.bE rfl) (by decide)) (λ_=>⟨_,by rfl⟩)) (ai 8 rfl (by decide)) Fh (by with_unfolding_all rfl)) (aK (eC (BU (ai 8 rfl (by decide)) (ai 9 rfl (by decide)) iq (by with_unfolding_all rfl)))
 bp) bp)
 (aK (cY 10 rfl (dP (ai 8 rfl (by decide)) (pn AQ ZZ) (Plain.cons rfl Plain.nil) cP (au (tY (jA rfl (H.bE rfl) (by decide)) (λ_=>⟨_,by rfl⟩)) aF rfl) NU (by intro _;rfl) rfl (by decide)) (.inl rfl) rfl)
 (aK (La (cQ (dQ (b8 rfl (H.bE rfl) (H.cg (by decide) rfl) (by decide)) (Plain.cons rfl Plain.nil) cP (au (ai 10 rfl (by decide)) aF rfl) pC) aA WR (by with_unfolding_all rfl)))
 (aK (zQ (by intro k hk;simp only[bJ,a7,or_false]at hk;rcases hk with rfl|rfl<;>first|exact .inl rfl|exact .inr rfl) (ip.t (au aA (au (dQ (b8 rfl (H.bE rfl) (H.cg (by decide) rfl) (by decide)) (Plain.cons rfl Plain.nil) cP (au (ai 9 rfl (by decide)) aF rfl) pC) aF rfl) rfl)) rfl)
 (aK (cY 11 rfl (cu (ai 10 rfl (by decide)) aA (by intro _ _;exact⟨_,rfl⟩)) (.inl rfl) rfl)
 (aK (eO (qh (by intro _;rfl) (ai 11 rfl (by decide)) qk) (aK (eO (qh (by intro _;rfl) (dP (ai 9 rfl (by decide)) (pn Zr ZG) (Plain.cons rfl Plain.nil) cP (au (ai 11 rfl (by decide)) aF rfl) MJ (by intro _;rfl) rfl (by decide)) qk) (aK (cY 12 rfl (dQ (b8 rfl (H.bE rfl) (H.cg (by decide) rfl) (by decide)) (Plain.cons rfl Plain.nil) cP (au (ai 11 rfl (by decide)) aF rfl) pC) (.inl rfl) rfl)
 (aK (ID (ai 10 rfl (by decide)) aA)
 bp)) (aK (eC kv)
 bp))
 bp) bp)
 (aK (cY 11 rfl (cu (ai 10 rfl (by decide)) (qI aA) (by intro _ _;exact⟨_,rfl⟩)) (.inl rfl) rfl)
 (aK (eO (qh (by intro _;rfl) (ai 11 rfl (by decide)) qk) (aK (eO (qh (by intro _;rfl) (dP (ai 9 rfl (by decide)) (pn Zb Zj) (Plain.cons rfl Plain.nil) cP (au (ai 11 rfl (by decide)) aF rfl) SH (by intro _;rfl) rfl (by decide)) qk) (aK (mx 13 rfl (dQ (b8 rfl (H.bE rfl) (H.cg (by decide) rfl) (by decide)) (Plain.cons rfl Plain.nil) cP (au (ai 11 rfl (by decide)) aF rfl) pC) T7 (.inl rfl))
 (aK (ID (ai 10 rfl (by decide)) (qI aA))
 bp)) (aK (eC kv)
 bp))
 bp) bp)
 (aK (eO (cQ (ai 12 rfl (by decide)) (ai 13 rfl (by decide)) yS (by with_unfolding_all rfl)) (aK (eC kv)
 bp) bp)
 (aK (iX 400 (d5 (ai 10 rfl (by decide))) (bB.name rfl ⟨trivial,.inl rfl⟩) (aK (cY 12 rfl (dP (ai 9 rfl (by decide)) (pn Qe Y8) (Plain.cons rfl (Plain.cons rfl (Plain.cons rfl Plain.nil))) cP (au (ai 11 rfl (by decide)) (au (ai 12 rfl (by decide)) (au (ai 13 rfl (by decide)) aF rfl) rfl) rfl) SO (by intro _;rfl) rfl (by decide)) (.inl rfl) rfl)
 (aK (eO (cQ (ai 12 rfl (by decide)) aA yP (by with_unfolding_all rfl)) (aK (eC kv)
 bp) bp)
 (aK (mx 12 rfl (dQ (b8 rfl (H.bE rfl) (H.cg (by decide) rfl) (by decide)) (Plain.cons rfl Plain.nil) cP (au (ai 11 rfl (by decide)) aF rfl) pC) pf (.inl rfl))
 bp))) (by intro _ _;rfl))
 (aK (eC kv)
 bp)))))))))))
theorem DI{n:Nat}:dX (aI w base mg mb pins H) (n+1) (.ref 87) (bG [8,9] lz):=
 m6 (fd:=iY (hd01.heap_1 w.params) 87) rfl rfl rfl rfl rfl rfl
  (tm λa0 a1=>by rfl) (by decide) (dp (.inl rfl) (dp (.inl rfl) (fy))) (lX rfl) (Ke H) rfl rfl rfl rfl
noncomputable def tT:SM:=(ao (cn (aT oEq (aa 15) (xk (.int 1))) (ao (cy (ay aX (ay aX (xk (.str ("\"":ae))) (bU jr qS (xk (.str ("":ae))) (ab (bl [] (bL (aa 14)) (.name 17) bw (a_ (gf (aT ma (aa 17) (xk (.str ("\"\\":ae)))) (ay aX (xk (.str ("\\":ae))) (aa 17)) (aa 17))) 400) ag))) (xk (.str ("\"":ae)))))
 aC) aC)
 (ao (bj 16 (bl [] (bL (aa 14)) (.name 17) bw (a_ (gf (aT ma (aa 17) (xk (.str ("\\ ":ae)))) (ay aX (xk (.str ("\\":ae))) (aa 17)) (aa 17))) 400))
 (ao (cy (ay aX (gf (ix (aT oEq (aa 15) (xk (.int 2))) (ix (aT oEq (aH (aa 14) (xk (.int 0))) (xk (.str ("\"":ae)))) (λ_ st=>some (false,st)))) (ay aX (xk (.str ("\\":ae))) (aH (aa 14) (xk (.int 0)))) (aH (aa 16) (xk (.int 0)))) (bU jr qS (xk (.str ("":ae))) (ab (cH (aa 16) (bY (xk (.int 1))) bb bb) ag))))
 aC)))
theorem Kv{n:Nat}:gr (aI w base mg mb pins H) n (bH (hd01.heap_1 w.params) 116) 0 (bT (hd01.heap_1 w.params) 116) tT:=
 (aK (eO (cQ (ai 15 rfl (by decide)) aA iq (by with_unfolding_all rfl)) (aK (eC (aY (aY cz (dP cz (pn BA Aw) (Plain.cons rfl Plain.nil) cP (au (dG 400 (df [] (d5 (ai 14 rfl (by decide))) (bB.name rfl ⟨.inl rfl,.inl rfl⟩) dE (nZ (cQ (ai 17 rfl (by decide)) cz vC (by with_unfolding_all rfl)) (aY cz (ai 17 rfl (by decide)) cR) (ai 17 rfl (by decide))) rfl aV.nil (by intro _ _;rfl))) aF rfl) ya (by intro _;rfl) rfl (by decide)) cR) cz cR))
 bp) bp)
 (aK (rm 16 rfl 400 (df [] (d5 (ai 14 rfl (by decide))) (bB.name rfl ⟨.inl rfl,.inl rfl⟩) dE (nZ (cQ (ai 17 rfl (by decide)) cz vC (by with_unfolding_all rfl)) (aY cz (ai 17 rfl (by decide)) cR) (ai 17 rfl (by decide))) rfl aV.nil (by intro _ _;rfl)) (.inl rfl) rfl)
 (aK (eC (aY (nZ (rJ (oN (cQ (ai 15 rfl (by decide)) aA iq (by with_unfolding_all rfl)) (oN (cQ (cu (ai 14 rfl (by decide)) aA (by intro _ _;exact⟨_,rfl⟩)) cz iq (by with_unfolding_all rfl)) wu))) (aY cz (cu (ai 14 rfl (by decide)) aA (by intro _ _;exact⟨_,rfl⟩)) cR) (cu (ai 16 rfl (by decide)) aA (by intro _ _;exact⟨_,rfl⟩))) (dP cz (pn BA Aw) (Plain.cons rfl Plain.nil) cP (au (gV (ai 16 rfl (by decide)) (eZ aA) dt dt (by intro _ _;exact⟨_,rfl⟩)) aF rfl) ya (by intro _;rfl) rfl (by decide)) cR))
 bp)))
theorem Kl{n:Nat}:dX (aI w base mg mb pins H) (n+1) (.ref 116) (bG [14,15] tT):=
 m6 (fd:=iY (hd01.heap_1 w.params) 116) rfl rfl rfl rfl rfl rfl
  (tm λa0 a1=>by rfl) (by decide) (dp (.inl rfl) (dp (.inl rfl) (fy))) (lX rfl) (Kv H) rfl rfl rfl rfl
noncomputable def wj:SM:=(ao (v3 [20,21] (ab (ay aX (xk (.int 64)) (ay cU (ay oDiv (aa 19) (xk (.int 2))) (xk (.int 128)))) (ab (bl [18] (bD cS (ab (xk (.int 4)) ag)) (.name 24) (ix (aT oEq (aa 24) (xk (.int 0))) (ix (aT l8 (ay oDiv (aa 18) (ay jb (xk (.int 64)) (aa 24))) (xk (.int 0))) (λ_ st=>some (false,st)))) (a_ (ay oMod (ay oDiv (aa 18) (ay jb (xk (.int 64)) (aa 24))) (xk (.int 64)))) 400) ag)))
 (ao (cy (bU jr qS (xk (.str ("":ae))) (ab (bl [] (bL (ay aX (ay aX (ay cU (bC (ab (aa 20) ag)) (ay oMod (aa 19) (xk (.int 2)))) (cH (bl [20] (bL (cH (aa 21) (bY (xk (.int 1))) bb bb)) (.name 22) bw (a_ (ay aX (aa 20) (aa 22))) 400) bb bb (bY (i9 (xk (.int 1)))))) (bC (ab (ay aX (xk (.int 128)) (aH (aa 21) (xk (.int 0)))) ag)))) (.name 23) bw (a_ (bK tC (ab (aa 23) ag))) 400) ag)))
 aC))
theorem KG{n:Nat}:gr (aI w base mg mb pins H) n (bH (hd01.heap_1 w.params) 121) 0 (bT (hd01.heap_1 w.params) 121) wj:=
 (aK (DN (b_.cons rfl ⟨trivial,.inr rfl⟩ (b_.cons rfl ⟨trivial,.inl rfl⟩ b_.nil)) (ip.t (au (aY aA (aY (aY (ai 19 rfl (by decide)) aA lI) aA kM) cR) (au (dG 400 (df [18] (eG (b8 rfl (H.bE rfl) (H.cg (by decide) rfl) (by decide)) (Plain.cons rfl Plain.nil) d4 (au aA aF rfl) jW) (bB.name rfl ⟨.inl rfl,.inl rfl⟩) (oZ (rJ (oN (cQ (ai 24 rfl (by decide)) aA iq (by with_unfolding_all rfl)) (oN (cQ (aY (ai 18 rfl (by decide)) (aY aA (ai 24 rfl (by decide)) u9) lI) aA yS (by with_unfolding_all rfl)) wu)))) (aY (aY (ai 18 rfl (by decide)) (aY aA (ai 24 rfl (by decide)) u9) lI) aA jM) rfl (aV.cons _ rfl rfl aV.nil) (by intro _ _;rfl))) aF rfl) rfl)) rfl)
 (aK (eC (dP cz (pn BA Aw) (Plain.cons rfl Plain.nil) cP (au (dG 400 (df [] (d5 (aY (aY (aY (dk (au (ai 20 rfl (by decide)) aF rfl)) (aY (ai 19 rfl (by decide)) aA jM) kM) (gV (dG 400 (df [20] (d5 (gV (ai 21 rfl (by decide)) (eZ aA) dt dt (by intro _ _;exact⟨_,rfl⟩))) (bB.name rfl ⟨.inl rfl,.inl rfl⟩) dE (aY (ai 20 rfl (by decide)) (ai 22 rfl (by decide)) cR) rfl (aV.cons _ rfl rfl aV.nil) (by intro _ _;rfl))) dt dt (eZ (qI aA)) (by intro _ _;exact⟨_,rfl⟩)) cR) (dk (au (aY aA (cu (ai 21 rfl (by decide)) aA (by intro _ _;exact⟨_,rfl⟩)) cR) aF rfl)) cR)) (bB.name rfl ⟨.inl rfl,.inl rfl⟩) dE (dQ (b8 rfl (H.bE rfl) (H.cg (by decide) rfl) (by decide)) (Plain.cons rfl Plain.nil) cP (au (ai 23 rfl (by decide)) aF rfl) Cr) rfl aV.nil (by intro _ _;rfl))) aF rfl) ya (by intro _;rfl) rfl (by decide)))
 bp))
theorem KA{n:Nat}:dX (aI w base mg mb pins H) (n+1) (.ref 121) (bG [18,19] wj):=
 m6 (fd:=iY (hd01.heap_1 w.params) 121) rfl rfl rfl rfl rfl rfl
  (tm λa0 a1=>by rfl) (by decide) (dp (.inr rfl) (dp (.inl rfl) (fy))) (lX rfl) (KG H) rfl rfl rfl rfl
noncomputable def tU:SM:=(ao (bj 1 (bC (ab (xk (.int 0)) ag)))
 (ao (lL (nq (aT c5 (aa 8) (xk (.str ("":ae)))) (nq (aT c5 (aa 1) (bC ag)) (λ_ st=>some (true,st)))) (ao (cn (aT oEq (cH (aa 8) bb (bY (xk (.int 3))) bb) (xk (.str ("...":ae)))) (ao (bj 1 (xS (ab (aH (aa 1) (xk (.int 0))) (ab (ay aX (bK iv (ab (aa 25) ag)) (xk (.int 1))) ag))))
 (ao (bj 8 (cH (aa 8) (bY (xk (.int 3))) bb bb))
 aC)) (ao (bj 1 (bl [25,8] (bL (aa 1)) (.name 26) (aT oEq (cH (aa 25) (bY (aa 26)) (bY (ay aX (aa 26) (xk (.int 1)))) bb) (aH (aa 8) (xk (.int 0)))) (a_ (ay aX (aa 26) (xk (.int 1)))) 400))
 (ao (bj 8 (cH (aa 8) (bY (xk (.int 1))) bb bb))
 aC)))
 aC) 400)
 (ao (cy (ay ma (bK iv (ab (aa 25) ag)) (aa 1)))
 aC)))
theorem K0{n:Nat}:gr (aI w base mg mb pins H) n (bH (hd01.heap_1 w.params) 126) 0 (bT (hd01.heap_1 w.params) 126) tU:=
 (aK (cY 1 rfl (dk (au aA aF rfl)) (.inl rfl) rfl)
 (aK (EJ 400 (rJ (wh (cQ (ai 8 rfl (by decide)) cz kT (by with_unfolding_all rfl)) (wh (cQ (ai 1 rfl (by decide)) (dk aF) kT (by with_unfolding_all rfl)) D8))) (aK (eO (cQ (gV (ai 8 rfl (by decide)) dt (eZ aA) dt (by intro _ _;exact⟨_,rfl⟩)) cz iq (by with_unfolding_all rfl)) (aK (cY 1 rfl (LC (b8 rfl (H.bE rfl) (H.cg (by decide) rfl) (by decide)) (b8 rfl (H.bE rfl) (H.cg (by decide) rfl) (by decide)) (Plain.cons rfl (Plain.cons rfl Plain.nil)) (au (cu (ai 1 rfl (by decide)) aA (by intro _ _;exact⟨_,rfl⟩)) (au (aY (dQ (b8 rfl (H.bE rfl) (H.cg (by decide) rfl) (by decide)) (Plain.cons rfl Plain.nil) cP (au (ai 25 rfl (by decide)) aF rfl) pC) aA cR) aF rfl) rfl)) (.inl rfl) rfl)
 (aK (cY 8 rfl (gV (ai 8 rfl (by decide)) (eZ aA) dt dt (by intro _ _;exact⟨_,rfl⟩)) (.inr rfl) rfl)
 bp)) (aK (rm 1 rfl 400 (df [25,8] (d5 (ai 1 rfl (by decide))) (bB.name rfl ⟨.inl rfl,.inl rfl⟩) (oZ (cQ (gV (ai 25 rfl (by decide)) (eZ (ai 26 rfl (by decide))) (eZ (aY (ai 26 rfl (by decide)) aA cR)) dt (by intro _ _;exact⟨_,rfl⟩)) (cu (ai 8 rfl (by decide)) aA (by intro _ _;exact⟨_,rfl⟩)) iq (by with_unfolding_all rfl))) (aY (ai 26 rfl (by decide)) aA cR) rfl (aV.cons _ rfl rfl (aV.cons _ rfl rfl aV.nil)) (by intro _ _;rfl)) (.inl rfl) rfl)
 (aK (cY 8 rfl (gV (ai 8 rfl (by decide)) (eZ aA) dt dt (by intro _ _;exact⟨_,rfl⟩)) (.inr rfl) rfl)
 bp)))
 bp))
 (aK (eC (BU (dQ (b8 rfl (H.bE rfl) (H.cg (by decide) rfl) (by decide)) (Plain.cons rfl Plain.nil) cP (au (ai 25 rfl (by decide)) aF rfl) pC) (ai 1 rfl (by decide)) vC (by with_unfolding_all rfl)))
 bp)))
theorem KY{n:Nat}:dX (aI w base mg mb pins H) (n+1) (.ref 126) (bG [8,25] tU):=
 m6 (fd:=iY (hd01.heap_1 w.params) 126) rfl rfl rfl rfl rfl rfl
  (tm λa0 a1=>by rfl) (by decide) (dp (.inr rfl) (dp (.inr rfl) (fy))) (lX rfl) (K0 H) rfl rfl rfl rfl
theorem fL:pH (aI w base mg mb pins H) 69:=⟨by rfl,by rfl,by rfl,by rfl,by rfl⟩
noncomputable def ua:SM:=(ao (kP 69 32 (aa 27) (xk (.int 1)))
 (ao (kP 69 31 (aa 27) (aa 28))
 (ao (kP 69 30 (aa 27) (xk (.str ("\x0a\x09\x0d ":ae))))
 (ao (kP 69 29 (aa 27) (bC ag))
 aC))))
theorem M1{n:Nat}:gr (aI w base mg mb pins H) n (bH (hd01.heap_1 w.params) 45) 0 (bT (hd01.heap_1 w.params) 45) ua:=
 (aK (wm 32 rfl (fL H) rfl (ai 27 rfl (by decide)) aA rfl)
 (aK (wm 31 rfl (fL H) rfl (ai 27 rfl (by decide)) (ai 28 rfl (by decide)) rfl)
 (aK (wm 30 rfl (fL H) rfl (ai 27 rfl (by decide)) cz rfl)
 (aK (wm 29 rfl (fL H) rfl (ai 27 rfl (by decide)) (dk aF) rfl)
 bp))))
theorem Mo{n:Nat}:dX (aI w base mg mb pins H) (n+1) (.ref 45) (bG [27,28] ua):=
 m6 (fd:=iY (hd01.heap_1 w.params) 45) rfl rfl rfl rfl rfl rfl
  (tm λa0 a1=>by rfl) (by decide) (dp (.inl rfl) (dp (.inl rfl) (fy))) (lX rfl) (M1 H) rfl rfl rfl rfl
noncomputable def p4:SM:=(ao (gN (bU ek bAppend (jq 69 29 (aa 27)) (ab (aa 33) ag)))
 aC)
theorem KP{n:Nat}:gr (aI w base mg mb pins H) n (bH (hd01.heap_1 w.params) 66) 0 (bT (hd01.heap_1 w.params) 66) p4:=
 (aK (o7 (dP (qb 29 rfl (fL H) rfl (ai 27 rfl (by decide))) (nG uG uE) (Plain.cons rfl Plain.nil) cP (au (ai 33 rfl (by decide)) aF rfl) rI (by intro _;rfl) rfl (by decide)) rfl)
 bp)
theorem D2{n:Nat}:dX (aI w base mg mb pins H) (n+1) (.ref 66) (bG [27,33] p4):=
 m6 (fd:=iY (hd01.heap_1 w.params) 66) rfl rfl rfl rfl rfl rfl
  (tm λa0 a1=>by rfl) (by decide) (dp (.inl rfl) (dp (.inl rfl) (fy))) (lX rfl) (KP H) rfl rfl rfl rfl
noncomputable def mc(bq:AV->St->Option (List AV))(J:List AV->St->Option (AV×St)):SM:=(ao (bj 34 (bU bq J (jq 69 31 (aa 27)) (ab (xk (.int 1)) ag)))
 (ao (cn (aT oEq (aa 34) (xk (.str ("\x0a":ae)))) (ao (xv 69 32 gO (aa 27) (xk (.int 1)))
 aC) aC)
 (ao (cy (aa 34))
 aC)))
theorem KV{rA:ak}{bq:AV->St->Option (List AV)}{R:List AV->St->Option (AV×St)}(N:gM (aI w base mg mb pins H) "read" (.ref rA) bq)(J:ik (aI w base mg mb pins H) (.ref rA))(O:dX (aI w base mg mb pins H) 1 (.ref rA) R):gr (aI w base mg mb pins H) 1 (bH (hd01.heap_1 w.params) 52) 0 (bT (hd01.heap_1 w.params) 52) (mc bq R):=
 (aK (cY 34 rfl (dP (qb 31 rfl (fL H) rfl (ai 27 rfl (by decide))) N (Plain.cons rfl Plain.nil) J (au aA aF rfl) (O.call) (by intro _;rfl) rfl (by decide)) (.inl rfl) rfl)
 (aK (eO (cQ (ai 34 rfl (by decide)) cz iq (by with_unfolding_all rfl)) (aK (KZ 32 rfl (fL H) rfl rfl (ai 27 rfl (by decide)) aA pf)
 bp) bp)
 (aK (eC (ai 34 rfl (by decide)))
 bp)))
theorem rC{rA:ak}{bq:AV->St->Option (List AV)}{R:List AV->St->Option (AV×St)}(N:gM (aI w base mg mb pins H) "read" (.ref rA) bq)(J:ik (aI w base mg mb pins H) (.ref rA))(O:dX (aI w base mg mb pins H) 1 (.ref rA) R):dX (aI w base mg mb pins H) (1+1) (.ref 52) (bG [27] (mc bq R)):=
 m6 (fd:=iY (hd01.heap_1 w.params) 52) rfl rfl rfl rfl rfl rfl
  (qV λa0=>by rfl) (by decide) (dp (.inl rfl) (fy)) (lX rfl) (KV H N J O) rfl rfl rfl rfl
noncomputable def oO(bq:AV->St->Option (List AV))(J:List AV->St->Option (AV×St)):SM:=(ao (cn (kn iw (jq 69 29 (aa 27))) (ao (cy (bU ek qX (jq 69 29 (aa 27)) (ab (xk (.int 0)) ag)))
 aC) aC)
 (ao (bj 33 (xk (.str ("":ae))))
 (ao (bj 36 (bK qQ (ab (sO 69 52 35 (aa 27)) (ab (xk (.str ("":ae))) ag))))
 (ao (λF st=>((tE (ng 52 (bG [27] (mc bq J))) (aa 36)) F st).bind λp=>cA (.name 34) (ao (cn (aT ma (aa 34) (jq 69 30 (aa 27))) (ao yW
 aC) aC)
 (ao (cn (aT oEq (aa 34) (xk (.str ("\"":ae)))) (ao (λF st=>((tE (ng 52 (bG [27] (mc bq J))) (aa 36)) F st).bind λp=>cA (.name 34) (ao (cn (aT oEq (aa 34) (xk (.str ("\"":ae)))) (ao (cy (aa 33))
 aC) (ao (cn (aT oEq (aa 34) (xk (.str ("\\":ae)))) (ao (bj 34 (bU (f_ 69 35) (bG [27] (mc bq J)) (aa 27) ag))
 aC) aC)
 aC))
 (ao (eS 33 gO (aa 34))
 aC)) 400 p.1 F p.2)
 aC) (ao (cn (aT oEq (aa 34) (xk (.str ("\\":ae)))) (ao (bj 34 (bU (f_ 69 35) (bG [27] (mc bq J)) (aa 27) ag))
 aC) aC)
 (ao (eS 33 gO (aa 34))
 (ao (λF st=>((tE (ng 52 (bG [27] (mc bq J))) (aa 36)) F st).bind λp=>cA (.name 34) (ao (cn (aT ma (aa 34) (jq 69 30 (aa 27))) (ao (cy (aa 33))
 aC) (ao (cn (aT oEq (aa 34) (xk (.str ("\\":ae)))) (ao (bj 34 (bU (f_ 69 35) (bG [27] (mc bq J)) (aa 27) ag))
 aC) aC)
 aC))
 (ao (eS 33 gO (aa 34))
 aC)) 400 p.1 F p.2)
 aC))))
 aC)) 400 p.1 F p.2)
 (ao (cy (aa 33))
 aC)))))
theorem LX{rA:ak}{bq:AV->St->Option (List AV)}{R:List AV->St->Option (AV×St)}(N:gM (aI w base mg mb pins H) "read" (.ref rA) bq)(J:ik (aI w base mg mb pins H) (.ref rA))(O:dX (aI w base mg mb pins H) 1 (.ref rA) R):gr (aI w base mg mb pins H) 3 (bH (hd01.heap_1 w.params) 59) 0 (bT (hd01.heap_1 w.params) 59) (oO bq R):=
 (aK (eO (qh (by intro _;rfl) (qb 29 rfl (fL H) rfl (ai 27 rfl (by decide))) qk) (aK (eC (dP (qb 29 rfl (fL H) rfl (ai 27 rfl (by decide))) (nG Hh QT) (Plain.cons rfl Plain.nil) cP (au aA aF rfl) I6 (by intro _;rfl) rfl (by decide)))
 bp) bp)
 (aK (cY 33 rfl cz (.inl rfl) rfl)
 (aK (cY 36 rfl (dQ (b8 rfl (H.bE rfl) (H.cg (by decide) rfl) (by decide)) (Plain.cons rfl (Plain.cons rfl Plain.nil)) cP (au (MY 35 rfl (fL H) rfl rfl rfl rfl rfl (ai 27 rfl (by decide))) (au cz aF rfl) rfl) HT) (.inl rfl) rfl)
 (aK (iX 400 (Bs (λk=>z_ rfl (rC H N J O) k) (ai 36 rfl (by decide))) (bB.name rfl ⟨trivial,.inl rfl⟩) (aK (eO (cQ (ai 34 rfl (by decide)) (qb 30 rfl (fL H) rfl (ai 27 rfl (by decide))) vC (by with_unfolding_all rfl)) (aK Rv
 bp) bp)
 (aK (eO (cQ (ai 34 rfl (by decide)) cz iq (by with_unfolding_all rfl)) (aK (iX 400 (Bs (λk=>z_ rfl (rC H N J O) k) (ai 36 rfl (by decide))) (bB.name rfl ⟨trivial,.inl rfl⟩) (aK (eO (cQ (ai 34 rfl (by decide)) cz iq (by with_unfolding_all rfl)) (aK (eC (ai 33 rfl (by decide)))
 bp) (aK (eO (cQ (ai 34 rfl (by decide)) cz iq (by with_unfolding_all rfl)) (aK (cY 34 rfl (dP (ai 27 rfl (by decide)) (mU 35 rfl (fL H) rfl rfl) Plain.nil (gz rfl) aF ((rC H N J O).call.le (by decide)) (by intro _;rfl) rfl (by decide)) (.inl rfl) rfl)
 bp) bp)
 bp))
 (aK (mx 33 rfl (ai 34 rfl (by decide)) pf (.inl rfl))
 bp)) (by intro _ _;rfl))
 bp) (aK (eO (cQ (ai 34 rfl (by decide)) cz iq (by with_unfolding_all rfl)) (aK (cY 34 rfl (dP (ai 27 rfl (by decide)) (mU 35 rfl (fL H) rfl rfl) Plain.nil (gz rfl) aF ((rC H N J O).call.le (by decide)) (by intro _;rfl) rfl (by decide)) (.inl rfl) rfl)
 bp) bp)
 (aK (mx 33 rfl (ai 34 rfl (by decide)) pf (.inl rfl))
 (aK (iX 400 (Bs (λk=>z_ rfl (rC H N J O) k) (ai 36 rfl (by decide))) (bB.name rfl ⟨trivial,.inl rfl⟩) (aK (eO (cQ (ai 34 rfl (by decide)) (qb 30 rfl (fL H) rfl (ai 27 rfl (by decide))) vC (by with_unfolding_all rfl)) (aK (eC (ai 33 rfl (by decide)))
 bp) (aK (eO (cQ (ai 34 rfl (by decide)) cz iq (by with_unfolding_all rfl)) (aK (cY 34 rfl (dP (ai 27 rfl (by decide)) (mU 35 rfl (fL H) rfl rfl) Plain.nil (gz rfl) aF ((rC H N J O).call.le (by decide)) (by intro _;rfl) rfl (by decide)) (.inl rfl) rfl)
 bp) bp)
 bp))
 (aK (mx 33 rfl (ai 34 rfl (by decide)) pf (.inl rfl))
 bp)) (by intro _ _;rfl))
 bp))))
 bp)) (by intro _ _;rfl))
 (aK (eC (ai 33 rfl (by decide)))
 bp)))))
theorem tZ{rA:ak}{bq:AV->St->Option (List AV)}{R:List AV->St->Option (AV×St)}(N:gM (aI w base mg mb pins H) "read" (.ref rA) bq)(J:ik (aI w base mg mb pins H) (.ref rA))(O:dX (aI w base mg mb pins H) 1 (.ref rA) R):dX (aI w base mg mb pins H) (3+1) (.ref 59) (bG [27] (oO bq R)):=
 m6 (fd:=iY (hd01.heap_1 w.params) 59) rfl rfl rfl rfl rfl rfl
  (qV λa0=>by rfl) (by decide) (dp (.inl rfl) (fy)) (lX rfl) (LX H N J O) rfl rfl rfl rfl
end
section
variable{w:dB}{base:aO}{mg mb:ae->Option af}{pins:List (Nat×ak)}(H:Fx (hd01.heap_1 w.params) base mg mb)
theorem zi(H:Fx (hd01.heap_1 w.params) base mg mb):kc base 92 91 ov:=⟨⟨_,_,_,_,H.eX 92 _ (by rfl)⟩,H.eX 91 _ (by rw[show(ov.map λ(n:Nat)=>bV (n:Int) 0)=#[bV 14 0,bV 4 0,bV 0 0,bV 1 0,bV 1 0,bV 6 0,bV 1 0,bV 16 0,bV 46 0,bV 1 0]from by simp[ov]];rfl)⟩
theorem y6(H:Fx (hd01.heap_1 w.params) base mg mb):kc base 97 96 ke:=⟨⟨_,_,_,_,H.eX 97 _ (by rfl)⟩,H.eX 96 _ (by rw[show(ke.map λ(n:Nat)=>bV (n:Int) 0)=#[bV 14 0,bV 9 0,bV 4 0,bV 1 0,bV 2 0,bV 16 0,bV 10 0,bV 16 0,bV 13 0,bV 0 0,bV 7 0,bV 7 0,bV 16 0,bV 13 0,bV 16 0,bV 10 0,bV 15 0,bV 18 0,bV 5 0,bV 16 0,bV 10 0,bV 15 0,bV 13 0,bV 11 0,bV 16 0,bV 13 0,bV 5 0,bV 5 0,bV 0 0,bV 16 0,bV 10 0,bV 1 0,bV 15 0,bV 2 0,bV 0 0,bV 1 0]from by simp[ke]];rfl)⟩
noncomputable def p6:SM:=(ao (cy (bU vw vZ (xk (.val (.ref 92))) (ab (xk (.str ("..":ae))) (ab (bU vw vZ (xk (.val (.ref 97))) (ab (xk (.str "\r\n")) (ab (aa 37) ag))) ag))))
 aC)
theorem LN{n:Nat}:gr (aI w base mg mb pins H) n (bH (hd01.heap_1 w.params) 104) 0 (bT (hd01.heap_1 w.params) 104) p6:=
 (aK (eC (dP (tY (jA (by rfl) (H.bE (by rfl)) (by decide)) (λ_=>rfl)) (Ij (zi H) (y6 H)) (Plain.cons rfl (Plain.cons rfl Plain.nil)) cP (au cz (au (dP (tY (jA (by rfl) (H.bE (by rfl)) (by decide)) (λ_=>rfl)) (Ij (zi H) (y6 H)) (Plain.cons rfl (Plain.cons rfl Plain.nil)) cP (au (tY (jA (by rfl) (H.bE (by rfl)) (by decide)) (λ_=>⟨_,by rfl⟩)) (au (ai 37 (by rfl) (by decide)) aF (by rfl)) (by rfl)) (Ia (zi H) (y6 H)) (by intro _;rfl) (by rfl) (by decide)) aF (by rfl)) (by rfl)) (Ia (zi H) (y6 H)) (by intro _;rfl) (by rfl) (by decide)))
 bp)
theorem Lo{n:Nat}:dX (aI w base mg mb pins H) (n+1) (.ref 104) (bG [37] p6):=
 m6 (fd:=iY (hd01.heap_1 w.params) 104) (by rfl) (by rfl) (by rfl) (by rfl) (by rfl) (by rfl)
  (qV λa0=>by rfl) (by decide) (dp (by first|exact .inl rfl|exact .inr rfl) (fy)) (lX (by rfl)) (LN H) (by rfl) (by rfl) (by rfl) (by rfl)
end
section
variable{w:dB}{base:aO}{mg mb:ae->Option af}{pins:List (Nat×ak)}(H:Fx (hd01.heap_1 w.params) base mg mb)
noncomputable def rF(P:Bg):ql:=match(bT (hd01.heap_1 P) 111)[1]? with|some (Gr _ p _ _ _ _ _ _ _ _)=>p|_=>default
noncomputable def readBody(P:Bg):List gJ:=match(bT (hd01.heap_1 P) 111)[1]? with|some (Gr _ _ b _ _ _ _ _ _ _)=>b|_=>[]
noncomputable def jB(P:Bg):bc:=match(bT (hd01.heap_1 P) 111)[1]? with|some (Gr _ _ _ _ _ _ s _ _ _)=>s|_=>default
theorem Lc{P:Bg}{env:aS}{ct cp:ak}(h1:env.cells.lookup ("places":ae)=some cp)(h2:env.cells.lookup ("text":ae)=some ct):closureFor (jB P) env=pure [(("text":ae),ct),(("places":ae),cp)]:=by
 have:closureFor (jB P) env=pure (eY env (jB P).names []):=by
  refine wd λp J hf=>?_
  have:p∈([("size",.local),("places",.free),("text",.free)]:List (ae×e6)):=J;simp only[bJ,a7,or_false]at this;rcases this with rfl|rfl|rfl
  ·cases hf
  ·exact⟨cp,h1⟩
  ·exact⟨ct,h2⟩
 rw[this];show pure ((env.cells.lookup ("text":ae)).elim ((env.cells.lookup ("places":ae)).elim [] λc=>[(("places":ae),c)]) λc=>(("text":ae),c)::(env.cells.lookup ("places":ae)).elim [] λc=>[(("places":ae),c)])=_;rw[h1,h2];rfl
theorem KO{A:bg}{ρ:aD}{st:St}{s:ah}{x:ae}{t:Tok}{Q:af->ah->Prop}{E:af->ah->Prop}(hA:bN 3 A)(R:Rel (aI w base mg mb pins H) ρ st s.heap)
 (hT:s.heap.get? 106=some (tabObj #[]))(hTρ:106∉ρ)(hTB:base.get? 106=none)(hcd:uu base 110 106)(hbm:base.BuiltinsAt mg 106)
 (K:∀lp rA sA s',RG (aI w base mg mb pins H) ρ st s s' x lp rA sA (rF w.params) (readBody w.params) (jB w.params)->Q (.ref sA) s'):
 wpAny (model ml.row.prog w) A (call (.ref 111) [.str x t]) Q E s:=by
 refine rQ (AK (C:=aI w base mg mb pins H) (n:=2) (fd:=iY (hd01.heap_1 w.params) 111) (body:=bT (hd01.heap_1 w.params) 111) (ks:=[0]) (avs:=[.str x]) hA R (.cons ⟨t,rfl⟩ .nil) rfl (by rfl) (by rfl) (by rfl) (by rfl) (by rfl) (by rfl)
  (qV λa0=>by rfl) (by decide)
  (dp (by first|exact .inl rfl|exact .inr rfl) (fy)) (lX (by rfl)) (by rfl) (by rfl) (by rfl) (by rfl) λenv s1 E' _ henv N1 R1 g1 own=>?_)
 have hA2:bN 2 (A.deeper env):=hA.deeper env;have hmg:mainGlobals≠106:=by decide
 have hcode:env.code=.ref 110:=by rw[henv];rfl
 have hglob:env.globals=mainGlobals:=N1.globals;have hL:env.locals≠106:=λe=>by have:=own _ (.inl e.symm);rw[hT]at this;cases this
 have hC:∀y c,env.cells.lookup y=some c->env.kindOf y=some .cell ->c≠106:=λy c q k e=>by have:=own c (.inr ⟨y,trivial,k,q⟩);rw[e,hT]at this;cases this
 have S:∀y c,env.cells.lookup y=some c->c≠106:=λy c q=>by
  refine ou ((N1.cells y c q).2) λv0 o ho hd=>?_;intro e;subst e;have:=g1.cI _ _ hT hTρ id;rw[this]at ho;cases ho
  cases hd
 have hT1:s1.heap.get? 106=some (tabObj #[]):=g1.cI _ _ hT hTρ id;have w1:=cY (C:=aI w base mg mb pins H) (n:=2) (τ:=0) (sc:=(iY (hd01.heap_1 w.params) 111).scope) (x:="places") (p':=⟨93,4,93,10⟩) (pos:=⟨93,4,93,16⟩) 1 (by rfl)
  (dk (pos:=⟨93,13,93,16⟩) (au (aA (i:=0) (k:=0) (pos:=⟨93,14,93,15⟩)) aF (by rfl))) (by first|exact .inl rfl|exact .inr rfl) (by rfl)
 refine kE (w1.u (A.deeper env) env _ ρ st s1 .next [(0,.str x),(1,.ref st.length)] (st++[.list [.int 0]]) _ _ hA2 (cJ _) N1 R1 rfl λr bA s2 g2 N2 R2 r2=>?_);cases r2
 dsimp only;have ownP:∀a,a=106->¬dr env a:=by
  rintro a rfl (e|⟨y,_,_,q⟩)
  ·exact hL e.symm
  ·exact S y _ q rfl
 have hTρ1:(106:ak)∉bA:=g2.iZ hT1 hTρ;have hT2:s2.heap.get? 106=some (tabObj #[]):=g2.cI _ _ hT1 hTρ (ownP _ rfl);refine aG (R2.addr (l:=st.length) (o:=.list [.int 0]) (by simp)) λlp hlp hlpl=>?_;have pU:env.kindOf ("places":ae)=some .cell :=by unfold jH;rw[N2.scope];rfl
 have hkt:env.kindOf ("text":ae)=some .cell :=by unfold jH;rw[N2.scope];rfl
 refine fH (N2.own _ pU) λcp vp hcp hcpρ _=>?_;refine fH (N2.own _ hkt) λct vt hct hctρ _=>?_;refine kE (nestDef_K rfl rfl (by rfl) ?_);refine makeFunction_K (c:=110) (P:=106) (ps:=#[]) (mg:=mg) (Lc (P:=w.params) hcp hct) hglob (H.g.keeps R2.keep) hcode (hcd.keeps R2.keep) hT2 trivial (by rfl) hmg (hbm.keeps R2.keep) λc' dZ doc h' tk hx hge hlt hrec htab=>?_;obtain⟨Y,hfn⟩:∃Y,Y=fnMade "read" (qualnameIn env "read" "read") (rF w.params) (readBody w.params) (jB w.params) [("text",ct),("places",cp)] doc ((mg "__name__").getD .none) c' dZ:=⟨_,rfl⟩;have goalS:∀(X:iL),X=Y->fnMade "read" (qualnameIn env "read" "read") (rF w.params) (readBody w.params) (jB w.params) [("text",ct),("places",cp)] doc ((mg "__name__").getD .none) c' dZ=X:=λX e=>by rw[e,hfn]
 refine(show wpAny (model ml.row.prog w) (A.deeper env) (storeName env "read" (.ref h'.objs.size)) _ E' {s2 with heap:=h'.push (fnMade "read" (qualnameIn env "read" "read") (rF w.params) (readBody w.params) (jB w.params) [("text",ct),("places",cp)] doc ((mg "__name__").getD .none) c' dZ),toks:=tk}from ?_);rw[goalS Y rfl];have kk3:∀b o,b≠106->s2.heap.get? b=some o->(h'.push Y).get? b=some o:=λb o ne e=>dn _ _ _ _ (hx b o ne e);have hT3:(h'.push Y).get? 106=some (tabObj #[rawInt 95,rawInt 4,.ref c']):=dn _ _ _ _ htab;refine dc (Ba (tk:=tk) R2 N2 hTρ1 hTB hL S kk3 ⟨_,hT3⟩) λR3 N3 g3=>?_;have hsz:s2.heap.objs.size<=h'.objs.size:=cq (bQ hge hlt);have hfnn:Y.isFreed=false:=by rw[hfn];rfl
 have hfr:(h'.push Y).get? h'.objs.size=some Y:=dN _ hfnn;have J:∀a,s2.heap.objs.size<=a->s2.heap.get? a=none:=λa le=>by
  cases q:s2.heap.get? a with
  |none=>rfl
  |some o=>exact absurd (j9 q) (iH.mpr le)
 have hrρ:h'.objs.size∉bA:=R2.fh (J _ hsz);have hcρ:c'∉bA:=R2.fh (J _ hge);refine mS (C:=aI w base mg mb pins H) (sc:=(iY (hd01.heap_1 w.params) 111).scope) (k:=2) (v:=.val (.ref h'.objs.size)) (T:=λ_=>True) trivial N3 R3 (.inl (by rfl)) rfl λs4 g4 N4 R4=>?_;have own2:∀a,dr env a->s.heap.get? a=none:=own;have hT4:s4.heap.get? 106=some (tabObj #[rawInt 95,rawInt 4,.ref c']):=g4.cI _ _ hT3 hTρ1 (ownP _ rfl);have U:∀a,s2.heap.get? a=none->¬dr env a:=by
  rintro a e (rfl|⟨y,_,_,q⟩)
  ·refine bO N2.ns λM hM=>?_
   refine bO (oy hM) λo ho=>?_;rw[e]at ho;cases ho
  ·refine m_ (N2.cells y a q) λ_ v0 o ho _=>?_
   rw[e]at ho;cases ho
 have hf4:s4.heap.get? h'.objs.size=some Y:=g4.cI _ _ hfr hrρ (U _ (J _ hsz));have hcode4:∀o,h'.get? c'=some o->s4.heap.get? c'=some o:=λo e=>g4.cI _ _ (dn _ _ _ _ e) hcρ (U _ (J _ hge));refine kE (x9 ?_ (by rw[mR (env':={(default:aS)with scope:=(iY (hd01.heap_1 w.params) 111).scope }) N4.scope];rfl));rw[arm_eval_Lambda];refine ar (aU ?_);refine ar (mh (aU ?_));refine OA (c:=110) (P:=106) (ps:=#[rawInt 95,rawInt 4,.ref c']) (mg:=mg) (clos:=[]) (by rw[wd (λp hp=>absurd hp (by simp))];rfl) hglob (H.g.keeps R4.keep) hcode (hcd.keeps R4.keep) hT4 trivial (by rfl) hmg (hbm.keeps R4.keep) λc2 ctv2 h5 tk5 hx5 hge5 hlt5 hrec5 htab5=>?_;obtain⟨fdL,hfdL⟩:∃fd:nR,fd=Hg "<lambda>" (env.qual++"<lambda>") {posonlyargs:=[],args:=[],vararg:=none,kwonlyargs:=[],kw_defaults:=[],kwarg:=none,defaults:=[]} (NR Rr 0 ⟨98,21,98,25⟩) {kind:=PE,names:=[],isGenerator:=false,isCoroutine:=false} [] ((mg "__name__").getD .none) (.ref c2) ctv2:=⟨_,rfl⟩;refine(show wpAny (model ml.row.prog w) (A.deeper env) (storeName env "stream" (.ref h5.objs.size)) _ E' {s4 with heap:=h5.push {cls:=.type "function",data:=.func (Hg "<lambda>" (env.qual++"<lambda>") {posonlyargs:=[],args:=[],vararg:=none,kwonlyargs:=[],kw_defaults:=[],kwarg:=none,defaults:=[]} (NR Rr 0 ⟨98,21,98,25⟩) {kind:=PE,names:=[],isGenerator:=false,isCoroutine:=false} [] ((mg "__name__").getD .none) (.ref c2) ctv2)},toks:=tk5}from ?_);rw[<-hfdL];have kk5:∀b o,b≠106->s4.heap.get? b=some o->(h5.push {cls:=.type "function",data:=.func fdL}).get? b=some o:=λb o ne e=>dn _ _ _ _ (hx5 b o ne e);have hT5:∃ps,(h5.push {cls:=.type "function",data:=.func fdL}).get? 106=some (tabObj ps):=⟨_,dn _ _ _ _ htab5⟩;refine bO hT5 λps5 hT5=>?_;refine dc (Ba (tk:=tk5) R4 N4 hTρ1 hTB hL S kk5 ⟨_,hT5⟩) λR5 N5 g5=>?_;have O:s4.heap.objs.size<=h5.objs.size:=cq (bQ hge5 hlt5);have hfs:(h5.push {cls:=.type "function",data:=.func fdL}).get? h5.objs.size=some {cls:=.type "function",data:=.func fdL}:=dN _ rfl;have N:∀a,s4.heap.objs.size<=a->s4.heap.get? a=none:=λa le=>by
  cases q:s4.heap.get? a with
  |none=>rfl
  |some o=>exact absurd (j9 q) (iH.mpr le)
 have hsρ:h5.objs.size∉bA:=R4.fh (N _ O);have notOwn4:∀a,s4.heap.get? a=none->¬dr env a:=by
  rintro a e (rfl|⟨y,_,_,q⟩)
  ·refine bO N4.ns λM hM=>?_
   refine bO (oy hM) λo ho=>?_;rw[e]at ho;cases ho
  ·refine m_ (N4.cells y a q) λ_ v0 o ho _=>?_
   rw[e]at ho;cases ho
 refine mS (C:=aI w base mg mb pins H) (sc:=(iY (hd01.heap_1 w.params) 111).scope) (k:=3) (v:=.val (.ref h5.objs.size)) (T:=λ_=>True) trivial N5 R5 (.inl (by rfl)) rfl λs6 g6 N6 R6=>?_;have hf6:s6.heap.get? h5.objs.size=some {cls:=.type "function",data:=.func fdL}:=g6.cI _ _ hfs hsρ (notOwn4 _ (N _ O));refine kE (Ol ?_ (by rw[mR (env':={(default:aS)with scope:=(iY (hd01.heap_1 w.params) 111).scope }) N6.scope];rfl));refine sE (rB (C:=aI w base mg mb pins H) (k:=2) N6 rfl λV2 r2=>?_) (by decide);cases r2
 refine sE (rB (C:=aI w base mg mb pins H) (k:=3) N6 rfl λV3 r3=>?_) (by decide);cases r3
 refine UZ hf6 λh7 tk7 t7 gx ep hs7 hd7 kk7=>?_;dsimp only;have hPB:base.get? h5.objs.size=none:=R4.iB (N _ O);have hLP:env.locals≠h5.objs.size:=λe=>notOwn4 _ (N _ O) (.inl e.symm);have hCP:∀y c,env.cells.lookup y=some c->c≠h5.objs.size:=λy c q e=>by
  refine m_ (N4.cells y c q) λ_ v0 o ho _=>?_;rw[e,N _ O]at ho;cases ho
 refine dc (Ba (tk:=tk7) R6 N6 hsρ hPB hLP hCP kk7 ⟨_,hs7⟩) λR7 N7 g7=>?_;refine kE (SR (sE (rB (C:=aI w base mg mb pins H) (k:=3) N7 rfl λV4 r4=>?_) (by decide)));cases r4
 dsimp only;have hρ2:bA=ρ++[lp]:=by
  refine bO g2.pre λτ e=>?_;have l1:=R2.len;have l0:=R.len;rw[<-e,aP,aP,l0,gZ]at l1;have l2:τ.length=1:=by exact Oq l1
  refine bO (JZ l2) λq zq=>?_;subst zq
  ·rw[<-e,<-l0]at hlp
   simp at hlp;rw[<-e,hlp]
 have X1:∀a,(a=106\/dr env a\/a=h5.objs.size)->s.heap.get? a≠none->a=106:=by
  rintro a (h|h|h) hn
  ·exact h
  ·exact absurd (own a h) hn
  ·have go4:Go (λa=>a=106\/dr env a\/a=h5.objs.size) ρ s bA s4:=
    (((g1.weak λ_ h=>h.elim).trans (g2.weak λ_ h=>.inr (.inl h))).trans (g3.weak λ_ h=>.inl h)).trans (g4.weak λ_ h=>.inr (.inl h))
   exact absurd (go4.back (by rw[h];exact N _ O)) hn
 have gAll:Go (λa=>a=106\/dr env a\/a=h5.objs.size) ρ s bA {s6 with heap:=h7,toks:=tk7}:=
  ((((((g1.weak λ_ h=>h.elim).trans (g2.weak λ_ h=>.inr (.inl h))).trans (g3.weak λ_ h=>.inl h)).trans (g4.weak λ_ h=>.inr (.inl h))).trans (g5.weak λ_ h=>.inl h)).trans (g6.weak λ_ h=>.inr (.inl h))).trans (g7.weak λ_ h=>.inr (.inr h))
 have stay:∀a o,a∉bA->a≠106->a≠h5.objs.size->¬dr env a->s4.heap.get? a=some o->h7.get? a=some o:=λa o n1 n2 n3 n4 e=>
  kk7 a o n3 (g6.cI a o (kk5 a o n2 e) n1 n4)
 have hne45:h'.objs.size≠h5.objs.size:=λe=>by rw[e,N _ O]at hf4;cases hf4
 have n106r:h'.objs.size≠106:=λe=>by rw[<-e,J _ hsz]at hT2;cases hT2
 have n106c:c'≠106:=λe=>by rw[<-e,J _ hge]at hT2;cases hT2
 have hcpO:∀y a,env.cells.lookup y=some a->a∉bA/\a≠106:=λy a q=>⟨(N2.cells y a q).1,S y a q⟩;have cellp:=N7.vars 1 (.ref st.length) rfl;have cellt:=N7.vars 0 (.str x) rfl;refine aG cellp λVp rp hp7=>?_;refine aG cellt λVt rt ht7=>?_;have hp7:h7.IsCell cp (some (.ref lp)):=by
  refine aG rp λa ha zq2=>?_;subst zq2;rw[hlp]at ha;cases ha
  rcases hp7 with⟨q,_⟩|⟨_,c,hc,_,hv⟩
  ·have q':env.kindOf ("places":ae)=some .local :=q
   rw[pU]at q';cases q'
  ·have hc':env.cells.lookup ("places":ae)=some c:=hc
   rw[hcp]at hc';cases hc';exact hv
 have ht7:∃t7,h7.IsCell ct (some (.str x t7)):=by
  refine bO rt λt7 zq1=>?_;subst zq1;rcases ht7 with⟨q,_⟩|⟨_,c,hc,_,hv⟩
  ·have q':env.kindOf ("text":ae)=some .local :=q
   rw[hkt]at q';cases q'
  ·have hc':env.cells.lookup ("text":ae)=some c:=hc
   rw[hct]at hc';cases hc';exact⟨t7,hv⟩
 refine bO ht7 λt7' ht7=>?_;have hqual:qualnameIn env "read" "read"=("_law_stream.<locals>.read":ae):=by rw[henv];rfl
 have hrec7:h7.CodeRec (.ref c') "_law_stream.<locals>.read":=by
  rw[hqual]at hrec;refine p8 hrec λc oc vs tt e1 e2 e3 e4=>?_;cases e1
  have a4:=hcode4 _ e2;exact⟨c',oc,vs,tt,rfl,stay c' _ hcρ n106c (λe=>by rw[e,N _ O]at a4;cases a4) (U _ (J _ hge)) a4,e3,e4⟩
 have hread7:h7.get? h'.objs.size=some Y:=stay _ _ hrρ n106r hne45 (U _ (J _ hsz)) hf4;have hdρ:s6.heap.objs.size∉bA:=R6.fh (fQ _);have htab7:∃ps,h7.get? 106=some (tabObj ps):=⟨ps5,kk7 _ _ (λe=>by
  have:s4.heap.get? h5.objs.size=none:=N _ O;rw[<-e,hT4]at this;cases this) (g6.cI _ _ hT5 hTρ1 (ownP _ rfl))⟩
 have go2:Go (λa=>a=106\/dr env a\/a=h5.objs.size) ρ s bA s2:=(g1.weak λ_ h=>h.elim).trans (g2.weak λ_ h=>.inr (.inl h));have go4:Go (λa=>a=106\/dr env a\/a=h5.objs.size) ρ s bA s4:=(go2.trans (g3.weak λ_ h=>.inl h)).trans (g4.weak λ_ h=>.inr (.inl h));have go6:Go (λa=>a=106\/dr env a\/a=h5.objs.size) ρ s bA s6:=(go4.trans (g5.weak λ_ h=>.inl h)).trans (g6.weak λ_ h=>.inr (.inl h));have frc:=go2.back (J _ hge);have frr:=go2.back (J _ hsz);have frs:=go4.back (N _ O);have frd:=go6.back (fQ s6.heap);have frcp:=own cp (.inr ⟨_,trivial,pU,hcp⟩);have frct:=own ct (.inr ⟨_,trivial,hkt,hct⟩);have hpt:cp≠ct:=λe=>by
  have:=N2.apart _ _ _ hcp (by rw[e];exact hct);exact absurd this (by decide)
 rw[hρ2]at gAll R7 hrρ hcρ hsρ hdρ hcpO;rw[hfn,hqual]at hread7;refine K lp h'.objs.size h5.objs.size _ ⟨⟨gAll.pre,gAll.new,λa o e n ne=>gAll.cI a o e n λz=>ne (X1 a z (by rw[e];simp)),gAll.alive,gAll.os,gAll.gens⟩,R7,⟨cp,ct,c',dZ,doc,_,t7',hread7,hrec7,hp7,ht7,(hcpO _ _ hcp).1,(hcpO _ _ hct).1,hcρ,hpt,frcp,frct,frc⟩,
  ⟨_,fdL,gx,t7,ep,hs7,hd7,hdρ,frd⟩,hrρ,frr,frs,hsρ,htab7⟩
end
noncomputable def CX(p:ak->Bool)(h:aO):aO:={h with objs:=h.objs.mapIdx λa o=>if p a then o else{cls:=.none,data:=.freed }}
theorem Am(p:ak->Bool)(h:aO)(a:ak):(CX p h).get? a=if p a=true then h.get? a else none:=by
 unfold CX Heap.get?;simp only[Array.getElem?_mapIdx];cases h.objs[a]? with
 |none=>simp
 |some o=>
  cases q:p a with
  |true=>simp[q]
  |false=>simp[q]
noncomputable def fK(base h:aO)(extra:List ak):aO:=CX (λa=>(base.get? a).isSome ||extra.contains a) h
section
variable{base h:aO}{extra:List ak}
theorem Hl{a:ak}{o:iL}(e:(fK base h extra).get? a=some o):h.get? a=some o/\((base.get? a).isSome =true\/a∈extra):=by
 unfold fK at e;rw[Am]at e;split at e
 ·rename_i q
  rw[oY]at q;refine⟨e,q.imp id λz=>?_⟩;simpa using z
 ·cases e
theorem Ah{a:ak}{o:iL}(k:∀b o,base.get? b=some o->h.get? b=some o)(e:base.get? a=some o):(fK base h extra).get? a=some o:=by
 unfold fK;rw[Am,if_pos (by rw[e];rfl)];exact k a o e
theorem Mh{a:ak}{o:iL}(m:a∈extra)(e:h.get? a=some o):(fK base h extra).get? a=some o:=by
 unfold fK;rw[Am,if_pos (by rw[oY];right;simpa using m)];exact e
theorem z7{a:ak}(e:base.get? a=none)(m:a∉extra):(fK base h extra).get? a=none:=by
 cases q:(fK base h extra).get? a with
 |none=>rfl
 |some o=>
  rcases(Hl q).2 with z|z
  ·rw[e]at z;cases z
  ·exact absurd z m
theorem Fx.fK{Kf:o5}{mg mb:ae->Option af}(F:Fx Kf base mg mb)(k:∀b o,base.get? b=some o->h.get? b=some o):Fx Kf (Mine.fK base h extra) mg mb:=
 have J:∀b o,base.get? b=some o->(Mine.fK base h extra).get? b=some o:=λb o e=>Ah k e
 ⟨λa o e=>J _ _ (F.eX a o e),F.g.keeps J,F.b.keeps J,F.nolimit.keeps J,F.boot⟩
theorem gc.cfg{C C':Cfg}(e:C.nm=C'.nm){ρ:aD}{m:List (Nat×AV)}{es:List lH}(r:gc C ρ m es):gc C' ρ m es:=by
 induction r with
 |nil=>exact .nil
 |cons a b J=>rw[e];exact .cons a J
theorem km.cfg{C C':Cfg}(e:C.nm=C'.nm){ρ:aD}{h:aO}{a:ak}{o:AO}(x:km C ρ h a o):km C' ρ h a o:=by
 cases o with
 |dict _=>exact x.imp λes q=>q.imp λn q=>⟨q.1,q.2.cfg e⟩
 |_=>exact x
theorem Rel.rebase{C C':Cfg}(e:C.nm=C'.nm){ρ:aD}{st:St}(R:Rel C ρ st h)(hb:C'.base=Mine.fK C.base h extra)(J:∀a∈extra,a∉ρ)(N:∀p∈C'.pins,ρ[p.1]?=some p.2):Rel C' ρ st h:=
 ⟨R.len,R.nodup,λa m=>by rw[hb];exact z7 (R.out a m) λz=>J a z m,R.live,λb o q=>(Hl (by rw[<-hb];exact q)).1,λl o a q z=>(R.objs l o a q z).cfg e,N⟩
theorem a8.rebase{C C':Cfg}(e:C.nm=C'.nm)(J:C.code=C'.code/\C.qual=C'.qual){sc:bc}{ρ:aD}{F:aj}{env:aS}(N:a8 C sc ρ F env h)(hb:C'.base=Mine.fK C.base h extra)(hL:env.locals∉extra)(O:∀x c,env.cells.lookup x=some c->c∉extra):a8 C' sc ρ F env h:=by
 refine⟨N.scope,N.kind,N.globals,N.builtins,N.ns,N.mG,by rw[hb];exact z7 N.om hL,λk v q=>?_,λx q=>?_,N.apart,N.vo,N.cells,N.frees,λh=>⟨(N.here h).1.trans J.1,(N.here h).2.trans J.2⟩⟩
 ·have:=N.vars k v q
  rw[e]at this;exact this
 ·refine ku (N.own x q) λc v0 a b d f i=>?_
  exact⟨c,v0,a,b,d,f,by rw[hb];exact z7 i (O x c a)⟩
end
noncomputable def C4:SM:=(ao (gN (bU ek bAppend (aa 1) (ab (ay aX (aH (aa 1) (i9 (xk (.int 1)))) (aa 4)) ag)))
 (ao (cy (cH (aa 0) (bY (aH (aa 1) (i9 (xk (.int 2))))) (bY (aH (aa 1) (i9 (xk (.int 1))))) bb))
 aC))
theorem WO{w:dB}{base:aO}{mg mb:ae->Option af}{pins:List (Nat×ak)}(H:Fx (hd01.heap_1 w.params) base mg mb){n:Nat}:gr (aI w base mg mb pins H) n (jB w.params) 0 (readBody w.params) C4:=
 (aK (o7 (dP (ai 1 (by rfl) (by decide)) (nG uG uE) (Plain.cons rfl Plain.nil) cP (au (aY (cu (ai 1 (by rfl) (by decide)) (qI aA) (by intro _ _;exact⟨_,rfl⟩)) (ai 4 (by rfl) (by decide)) cR) aF (by rfl)) rI (by intro _;rfl) (by rfl) (by decide)) (by rfl))
 (aK (eC (gV (ai 0 (by rfl) (by decide)) (eZ (cu (ai 1 (by rfl) (by decide)) (qI aA) (by intro _ _;exact⟨_,rfl⟩))) (eZ (cu (ai 1 (by rfl) (by decide)) (qI aA) (by intro _ _;exact⟨_,rfl⟩))) dt (by intro _ _;exact⟨_,rfl⟩)))
 bp))
noncomputable def fw(x:ae)(k:Nat)(avs:List AV)(st:St):Option (AV×St):=match avs with
 |[v]=>(C4 [(4,v),(0,.str x),(1,.ref k)] st).bind λp=>match p.1 with
  |.ret v=>some (v,p.2.2)
  |_=>none
 |_=>none
theorem H0{k:Nat}{v:AV}:∀{l:List (Nat×AV)},l.lookup k=some v->(k,v)∈l
 |[],h=>by cases h
 |(j,x)::r,h=>by
  rw[eN]at h;split at h
  ·rename_i z;cases h;rw[beq_iff_eq.mp z];exact cj
  ·exact cw _ (H0 h)
section
variable{w:dB}{base:aO}{mg mb:ae->Option af}{pins:List (Nat×ak)}(H:Fx (hd01.heap_1 w.params) base mg mb)
theorem MO{n:Nat}{k:Nat}{lp rA cp ct c':ak}{dZ doc pm:af}{x:ae}{t:Tok}
 (ho:base.get? rA=some (fnMade "read" "_law_stream.<locals>.read" (rF w.params) (readBody w.params) (jB w.params) [("text",ct),("places",cp)] doc pm c' dZ))(hrec:base.CodeRec (.ref c') "_law_stream.<locals>.read")
 (hcp:base.IsCell cp (some (.ref lp)))(hct:base.IsCell ct (some (.str x t)))(hne:cp≠ct)(hpin:(k,lp)∈pins):
 dX (aI w base mg mb pins H) (n+1) (.ref rA) (fw x k):=by
 intro A ρ st s avs vs v st' Q E hA R rv h K;unfold fw at h;split at h
 ·rename_i v0
  refine aG (vH h) λzq0 h1 h=>?_;obtain⟨fl,F',bI⟩:=zq0;cases rv with
  |cons ra rb=>
   cases rb
   rename_i V0;have keep:=R.keep;have hlp:ρ[k]?=some lp:=R.pin (k,lp) hpin;have hrec':s.heap.CodeRec (.ref c') "_law_stream.<locals>.read":=by
    refine p8 hrec λc oc vs tt e1 e2 e3 e4=>?_;exact⟨c,oc,vs,tt,e1,keep _ _ e2,e3,e4⟩
   refine codeAny_call_def (fd:=fnX "read" "_law_stream.<locals>.read" (rF w.params) (readBody w.params) (jB w.params) [("text",ct),("places",cp)] .none .none doc pm none (.ref c') dZ) (body:=readBody w.params) (binds:=[("size",V0)])
    hA.cG (keep _ _ ho) rfl (H.nolimit.keeps keep) hrec' rfl (.of_eq (by rfl)) (by intro y hy hc;have:y∈([("size",.local),("places",.free),("text",.free)]:List (ae×e6)):=hy;simp only[bJ,a7,or_false]at this;rcases this with rfl|rfl|rfl<;>cases hc)
    (by intro y hy;simp only[bJ,a7,or_false]at hy;subst hy;rfl) (λh₀ hns kk=>?_) (by rfl) (by rfl) (by rfl)
   generalize N:callEnv _ s.heap.objs.size rA=env;have dT:env.scope=jB w.params:=by rw[<-N];rfl
   have S:env.locals=s.heap.objs.size:=by rw[<-N];rfl
   have U:env.cells=[(("text":ae),ct),(("places":ae),cp)]:=by rw[<-N];rfl
   have egl:env.globals=mainGlobals:=by rw[<-N];rfl
   have ebu:env.builtins=builtinsNs:=by rw[<-N];rfl
   have J:s.heap.get? env.locals=none:=by rw[S];exact fQ _
   have g1:Go No ρ s ρ {s with heap:=h₀,toks:=s.toks+1}:=Go.keeps kk;have R1:Rel (aI w base mg mb pins H) ρ st h₀:=R.keeps kk;refine aG hcp λop hop hdp=>?_;refine aG hct λot hot hdt=>?_;have cpρ:cp∉ρ:=λm=>by have:base.get? cp=none:=R.out cp m;rw[hop]at this;cases this
   have ctρ:ct∉ρ:=λm=>by have:base.get? ct=none:=R.out ct m;rw[hot]at this;cases this
   have hp0:h₀.IsCell cp (some (.ref lp)):=⟨op,kk _ _ (keep _ _ hop),hdp⟩;have ht0:h₀.IsCell ct (some (.str x t)):=⟨ot,kk _ _ (keep _ _ hot),hdt⟩;have O:∀y,env.kindOf y=(jB w.params).names.lookup y:=λy=>by unfold jH;rw[dT]
   have cellOf:∀y c,env.cells.lookup y=some c->(y="text"/\c=ct)\/(y="places"/\c=cp):=λy c q=>by
    rw[U,eN,eN]at q;split at q
    ·rename_i z;cases q;exact .inl ⟨beq_iff_eq.mp z,rfl⟩
    ·split at q
     ·rename_i z;cases q;exact .inr ⟨beq_iff_eq.mp z,rfl⟩
     ·cases q
   have kinds:∀y q,(jB w.params).names.lookup y=some q->(y="size"/\q=.local)\/(y="places"/\q=.free)\/(y="text"/\q=.free):=λy q e=>by
    have e':([("size",.local),("places",.free),("text",.free)]:List (ae×e6)).lookup y=some q:=e;have m:=lookup_mem e';simp only[bJ,a7,or_false,NK]at m;exact m
   have N1:a8 (aI w base mg mb pins H) (jB w.params) ρ [(4,v0),(0,.str x),(1,.ref k)] env h₀:=by
    refine⟨dT,rfl,egl,ebu,⟨_,by rw[S];exact hns⟩,R.fh J,R.iB J,λj v q=>?_,λy q=>?_,λy z c hy hz=>?_,λy q=>?_,λy c q=>?_,λy q=>?_,λq=>absurd (beq_iff_eq.mpr q) (by rw[show((jB w.params).names.lookup ("due":ae)==some .local)=false from by rfl];exact d9)⟩
    ·have q':=H0 q
     simp only[bJ,a7,or_false,NK]at q';rcases q' with⟨rfl,rfl⟩|⟨rfl,rfl⟩|⟨rfl,rfl⟩
     ·exact⟨V0,ra,.inl ⟨by rw[O];rfl,_,by rw[S];exact hns,by rfl⟩⟩
     ·exact⟨.str x t,⟨t,rfl⟩,.inr ⟨.inr (by rw[O];rfl),ct,by rw[U];rfl,ctρ,ht0⟩⟩
     ·exact⟨.ref lp,⟨lp,hlp,rfl⟩,.inr ⟨.inr (by rw[O];rfl),cp,by rw[U];rfl,cpρ,hp0⟩⟩
    ·rw[O]at q
     rcases kinds _ _ q with⟨_,z⟩|⟨_,z⟩|⟨_,z⟩<;>cases z
    ·rcases cellOf _ _ hy with⟨rfl,rfl⟩|⟨rfl,rfl⟩<;>rcases cellOf _ _ hz with⟨rfl,z⟩|⟨rfl,z⟩
     ·rfl
     ·exact absurd z.symm hne
     ·exact absurd z hne
     ·rfl
    ·rw[O]at q
     rcases kinds _ _ q with⟨rfl,z⟩|⟨rfl,z⟩|⟨rfl,z⟩
     ·cases z
     ·decide
     ·decide
    ·rcases cellOf _ _ q with⟨rfl,rfl⟩|⟨rfl,rfl⟩
     ·exact⟨ctρ,_,ht0⟩
     ·exact⟨cpρ,_,hp0⟩
    ·rw[O]at q
     rcases kinds _ _ q with⟨rfl,z⟩|⟨rfl,z⟩|⟨rfl,z⟩
     ·cases z
     ·exact⟨cp,by rw[U];rfl⟩
     ·exact⟨ct,by rw[U];rfl⟩
   have Y:∀a,dr env a->s.heap.get? a=none:=by
    rintro a (rfl|⟨y,_,z,q⟩)
    ·exact J
    ·rw[O]at z
     rcases kinds _ _ z with⟨_,e⟩|⟨_,e⟩|⟨_,e⟩<;>cases e
   refine e7 ((WO H (n:=n)).u (A.deeper env) env [(4,v0),(0,.str x),(1,.ref k)] ρ st {s with heap:=h₀,toks:=s.toks+1} fl F' bI (λf s'=>(match(iG (.ret (match f with|.ret v=>v|_=>.none)):qt)with|.ok (.ret v)=>Q v s'|.ok _=>False|.error e=>E e s')) _ (hA.deeper env) (cJ _) N1 R1 h1 λr bA s2 g2 N2 R2 r2=>?_) (λ_ _ q=>q) λ_ _ q=>q;have g:Go No ρ s bA s2:=g2.l9.after g1 Y;dsimp only at h;cases fl with
   |ret x=>cases h;obtain⟨V,rfl,r2⟩:=r2;exact K V bA s2 g R2 r2
   |next=>cases h
   |brk=>cases h
   |cont=>cases h
 ·cases h
end
open Builtin.ObjectAttr
theorem JA:typeLookup (.type "function") ("__getattribute__":ae)=pure (some (.builtin "object.__getattribute__")):=by rw[me,mi];kernel_rfl
theorem UH:typeLookup (.type "function") ("__getattr__":ae)=pure none:=by rw[me,mi];kernel_rfl
theorem Es:qw "function" "__getattribute__" "object.__getattribute__":=
 .of (owner:="object") (n:="__getattribute__") (by rw[me,mi];kernel_rfl) (by decide+kernel) (by decide+kernel) (by decide+kernel)
  (by first|exact .inl (by decide+kernel)|exact .inr (by decide+kernel)) (by rw[rP];kernel_rfl)
theorem Mm:entryFor table "object.__getattribute__"=some Builtin.«object.__getattribute__»:=BC (by kernel_rfl)
theorem Qx(a b:af):argsOk "object.__getattribute__" ⟨[a,b],[]⟩:=by unfold argsOk;kernel_rfl
section
variable{prog:ft}{w:dB}{A:bg}{E:af->ah->Prop}{s:ah}
theorem V6{f da r:ak}{fd:nR}{gx:Int}{t:Tok}{ep:Nat}{expr:Bool}{Q:af->ah->Prop}(ho:s.heap.get? f=some {cls:=.type "function",dict:=some da,data:=.func fd})
 (hd:s.heap.get? da=some {cls:=.type "dict",data:=.dict #[⟨gx,.str "read" t,.ref r⟩] ep})(K:Q (.ref r) {s with toks:=s.toks+1}):
 wpAny (model prog w) A (getAttr (.ref f) "read" expr) Q E s:=by
 unfold getAttr getAttrBy;refine ar (BE (mh (ar (xM (T:="function") ⟨_,ho,rfl⟩ (ar (ef JA ?_))))));show wpAny _ _ (getAttrByItsOwn (.ref f) (.str "read" s.toks) (.type "function") (.builtin "object.__getattribute__") true expr) _ _ _;unfold getAttrByItsOwn hookBefore callGetattribute boundAndCalled;refine ar (ef (show(if onTheHeap (.type "function")then typeLookup (.type "function") "__getattr__" else pure none)=pure none from rfl) ?_);refine ar (xP (mh ?_));rw[if_neg (by cases expr<;>decide)];refine ar (ef (Es.bind _) ?_);refine p_ Es ⟨_,ho,rfl⟩ Mm ?_ (Qx _ _);refine ar (m:=slotArgs _ _ _) (ef (a:=(eH f,[Value.str "read" s.toks])) (by rfl) ?_);dsimp only;refine ar (aU (ar (xM (T:="function") ⟨_,ho,rfl⟩ (ar ?_))));unfold find;refine ar (ef BO (ar (aU (ar (aU ?_)))));show wpAny _ _ (ownThenClass _ _ _ _) _ _ _;unfold ownThenClass;refine ar ?_;refine ar (ar (rN ho ?_));show wpAny _ _ (instanceDict f false) _ _ _;unfold instanceDict;refine ar (rN ho ?_);refine aU ?_;show wpAny _ _ (loadPart da _>>= _) _ _ _;refine ar (rN hd ?_);rw[nsLook_of (r:=some (.ref r)) (by rfl)];refine aU ?_;refine ar (nM (aU ?_));refine aU ⟨_,rfl,?_⟩;refine ef (a:=eH r) (by rfl) ?_;exact K
end
noncomputable def bq(sA:ak)(a:AV)(_:St):Option (List AV):=match a with
 |.val (.ref p)=>if p=sA then some []else none
 |_=>none
theorem LZ{C:Cfg}{sA da rA:ak}{fd:nR}{gx:Int}{t:Tok}{ep:Nat}(hs:C.base.get? sA=some {cls:=.type "function",dict:=some da,data:=.func fd})
 (hd:C.base.get? da=some {cls:=.type "dict",data:=.dict #[⟨gx,.str "read" t,.ref rA⟩] ep}):gM C "read" (.ref rA) (bq sA):=by
 intro A ρ st s a O first Q E pl R r h K;unfold bq at h;split at h
 ·rename_i p
  split at h
  ·rename_i N
   cases h
   cases r
   subst N;have ho:=R.keep _ _ hs;have J:s.TypeIs (.ref p) "function":=⟨_,ho,rfl⟩;unfold getMethod;refine ar (nT J JA ?_);show wpAny _ _ (if(ZK "object.__getattribute__"!="object.__getattribute__")=true then _ else _) _ _ _;rw[if_neg (by decide+kernel)];refine ar (nT J UH ?_);rw[if_neg (by simp)];refine ar (nT J BO ?_);dsimp only;refine ar (V6 ho (R.keep _ _ hd) (aU ?_));exact K [] _ (.toks _) R .nil
  ·cases h
 ·cases h
end Mine
namespace Mine
open PySem PyProof.Rows PySem.W
mutual
inductive RV(W:List Nat)(st:St):AV->aB->Prop
 |int (i:Int):RV W st (.int i) (.int i)
 |bool (b:Bool):RV W st (.bool b) (.bool b)
 |str (x:ae):RV W st (.str x) (.str x)
 |list {l:Nat} {xs:List AV} {ds:List aB}:l∉W->st[l]?=some (.list xs)->aR W st xs ds->RV W st (.ref l) (.list ds)
 |tup {l:Nat} {xs:List AV} {ds:List aB}:l∉W->st[l]?=some (.tup xs)->aR W st xs ds->RV W st (.ref l) (.tuple ds)
inductive aR(W:List Nat)(st:St):List AV->List aB->Prop
 |nil:aR W st [] []
 |cons {x:AV} {d:aB} {xs:List AV} {ds:List aB}:RV W st x d->aR W st xs ds->aR W st (x::xs) (d::ds)
end
noncomputable def Kp(W W':List Nat)(st st':St):Prop:=∀l,l<st.length->l∉W->l∉W'/\st'[l]?=st[l]?
theorem gn{st:St}{l:Nat}{o:AO}(h:st[l]?=some o):l<st.length:=(fY.mp h).1
theorem RV.to{W W':List Nat}{st st':St}(k:Kp W W' st st'){v:AV}{d:aB}(h:RV W st v d):RV W' st' v d:=
 RV.rec (motive_1:=λv d _=>RV W' st' v d) (motive_2:=λxs ds _=>aR W' st' xs ds) .int .bool .str
  (λn e _ r=>have q:=k _ (gn e) n;.list q.1 (q.2.trans e) r) (λn e _ r=>have q:=k _ (gn e) n;.tup q.1 (q.2.trans e) r) .nil (λ_ _ a b=>.cons a b) h
theorem aR.to{W W':List Nat}{st st':St}(k:Kp W W' st st'){xs:List AV}{ds:List aB}(h:aR W st xs ds):aR W' st' xs ds:=
 aR.rec (motive_1:=λv d _=>RV W' st' v d) (motive_2:=λxs ds _=>aR W' st' xs ds) .int .bool .str
  (λn e _ r=>have q:=k _ (gn e) n;.list q.1 (q.2.trans e) r) (λn e _ r=>have q:=k _ (gn e) n;.tup q.1 (q.2.trans e) r) .nil (λ_ _ a b=>.cons a b) h
structure aN(W:List Nat)(st st':St):Prop where
 len:st.length<=st'.length
 at':∀l,l<st.length->l∉W->st'[l]?=st[l]?
theorem aN.rfl'{W:List Nat}{st:St}:aN W st st:=⟨a6 _,λ_ _ _=>rfl⟩
theorem aN.trans{W:List Nat}{a b c:St}(h:aN W a b)(g:aN W b c):aN W a c:=⟨aw h.len g.len,λl q n=>(g.at' l (cK q h.len) n).trans (h.at' l q n)⟩
theorem aN.any{W:List Nat}{a b:St}(h:aN [] a b):aN W a b:=⟨h.len,λl q _=>h.at' l q a7⟩
theorem aN.app{W:List Nat}{st:St}(ex:List AO):aN W st (st++ex):=⟨by rw[aP];exact c8 ..,λl q _=>pv q⟩
theorem aN.kp{W:List Nat}{a b:St}(h:aN W a b):Kp W W a b:=λl q n=>⟨n,h.at' l q n⟩
theorem aN.get{a b:St}(h:aN [] a b){l:Nat}{o:AO}(e:a[l]?=some o):b[l]?=some o:=(h.at' l (gn e) a7).trans e
theorem aN.cW{W:List Nat}{a b:St}(h:aN W a b){l:Nat}{o:AO}(n:l∉W)(e:a[l]?=some o):b[l]?=some o:=(h.at' l (gn e) n).trans e
theorem RV.keep{W:List Nat}{a b:St}(k:aN W a b){v:AV}{d:aB}(h:RV W a v d):RV W b v d:=h.to k.kp
theorem aR.keep{W:List Nat}{a b:St}(k:aN W a b){xs:List AV}{ds:List aB}(h:aR W a xs ds):aR W b xs ds:=h.to k.kp
inductive Vl where
 |d (d:aB)
 |v (v:AV)
noncomputable abbrev Gm:=Nat->Option Vl
noncomputable def Sat(W:List Nat)(st:St)(x:AV)(p:Vl):Prop:=Vl.casesOn p (λd=>RV W st x d) λv=>x=v
theorem Sat.keep{W:List Nat}{a b:St}(k:aN W a b){x:AV}{p:Vl}(h:Sat W a x p):Sat W b x p:=by
 cases p with
 |d d=>exact RV.keep k h
 |v v=>exact h
noncomputable def Gm.put(G:Gm)(k:Nat)(p:Vl):Gm:=λj=>if j=k then some p else G j
noncomputable def Gm.only(fv:List Nat)(G:Gm):Gm:=λj=>if fv.contains j=true then G j else none
noncomputable def Bd(W:List Nat)(st:St):Prop:=∀w∈W,w<st.length
structure GR(W:List Nat)(G:Gm)(F:aj)(st:St):Prop where
 bd:Bd W st
 at':∀k p,G k=some p->Ok (F.lookup k) λx=>Sat W st x p
theorem Bd.keep{W V:List Nat}{a b:St}(k:aN V a b)(h:Bd W a):Bd W b:=λw m=>cK (h w m) k.len
section
variable{W:List Nat}{G:Gm}{F:aj}{st st':St}
theorem GR.keep(h:GR W G F st)(k:aN W st st'):GR W G F st':=⟨h.bd.keep k,λj p e=>(h.at' j p e).mono λx s=>s.keep k⟩
theorem GR.cZ(h:GR W G F st)(k:aN [] st st'):GR W G F st':=h.keep k.any
theorem GR.put(h:GR W G F st){k:Nat}{x:AV}{p:Vl}(s:Sat W st x p):GR W (G.put k p) (F.put k x) st:=⟨h.bd,λj q e=>by
 rw[aj.wx];by_cases z:j=k
 ·rw[if_pos z];rw[Gm.put,if_pos z]at e;cases e;exact s
 ·rw[if_neg z];rw[Gm.put,if_neg z]at e;exact h.at' j q e⟩
theorem Kz{fv:List Nat}{k:Nat}{v:AV}(hk:fv.contains k=true){F:aj}(h:F.lookup k=some v):(F.only fv).lookup k=some v:=by
 induction F with
 |nil=>exact h
 |cons p F N=>
  rw[eN]at h;unfold aj.only;by_cases z:k=p.1
  ·have J:(k==p.1)=true:=beq_iff_eq.mpr z
   rw[J]at h;rw[uz (p:=λp:Nat×AV=>fv.contains p.1) (z▸hk),eN,J];exact h
  ·have J:(k==p.1)=false:=beq_false_of_ne z
   rw[J]at h;by_cases q:fv.contains p.1=true
   ·rw[uz (p:=λp:Nat×AV=>fv.contains p.1) q,eN,J];exact N h
   ·rw[xb (p:=λp:Nat×AV=>fv.contains p.1) q];exact N h
theorem GR.only(h:GR W G F st)(fv:List Nat):GR W (G.only fv) (F.only fv) st:=⟨h.bd,λj q e=>by
 by_cases z:fv.contains j=true
 ·rw[Gm.only,if_pos z]at e
  refine aG ((h.at' j q e).get) λx J s=>?_;exact Ok.of (Kz z J) s
 ·rw[Gm.only,if_neg z]at e;cases e⟩
theorem RV.i'{v:AV}{i:Int}(h:RV W st v (.int i)):v=.int i:=by cases h;rfl
theorem RV.b'{v:AV}{b:Bool}(h:RV W st v (.bool b)):v=.bool b:=by cases h;rfl
theorem RV.s'{v:AV}{x:ae}(h:RV W st v (.str x)):v=.str x:=by cases h;rfl
theorem RV.l'{v:AV}{ds:List aB}(h:RV W st v (.list ds)):∃l xs,v=.ref l/\l∉W/\st[l]?=some (.list xs)/\aR W st xs ds:=by
 cases h with
 |list a b c=>exact⟨_,_,rfl,a,b,c⟩
theorem RV.t'{v:AV}{ds:List aB}(h:RV W st v (.tuple ds)):∃l xs,v=.ref l/\l∉W/\st[l]?=some (.tup xs)/\aR W st xs ds:=by
 cases h with
 |tup a b c=>exact⟨_,_,rfl,a,b,c⟩
theorem aR.len{xs:List AV}{ds:List aB}(h:aR W st xs ds):xs.length=ds.length:=
 aR.rec (motive_1:=λ_ _ _=>True) (motive_2:=λxs ds _=>xs.length=ds.length) (λ_=>trivial) (λ_=>trivial) (λ_=>trivial) (λ_ _ _ _=>trivial) (λ_ _ _ _=>trivial) rfl (λ_ _ _ b=>congrArg sG b) h
theorem aR.get{xs:List AV}{ds:List aB}(h:aR W st xs ds):∀{i:Nat}{d:aB},ds[i]?=some d->∃x,xs[i]?=some x/\RV W st x d:=by
 induction xs generalizing ds with
 |nil=>cases h;intro i d e;cases e
 |cons y N J=>
  cases h with
  |cons a b=>
   intro i d e;cases i with
   |zero=>cases e;exact⟨_,rfl,a⟩
   |succ i=>exact J b e
theorem aR.app{xs J:List AV}{ds es:List aB}(h:aR W st xs ds)(g:aR W st J es):aR W st (xs++J) (ds++es):=by
 induction xs generalizing ds with
 |nil=>cases h;exact g
 |cons y N O=>
  cases h with
  |cons a b=>exact .cons a (O b)
theorem Sd{st:St}{l k:Nat}{xs:List AV}{ds:List aB}(h:st[l]?=some (.tup xs))(e:xs.mapM (e_ st k)=some ds):e_ st (k+1) (.ref l)=some (.tuple ds):=by
 show(none:Option aB).or (((bF st l).bind _).or ((eo st l).bind _))=_;rw[kO h,show bF st l=none by unfold bF;rw[h];rfl];show(none:Option aB).or ((none:Option aB).or ((xs.mapM (e_ st k)).map .tuple))=_;rw[e];rfl
theorem RV.rd{v:AV}{d:aB}(h:RV W st v d):∀k,d.depth<=k->e_ st k v=some d:=by
 have J:∀k(v:AV)(d:aB),vR v=some d->e_ st k v=some d:=λk v d e=>by
  cases k with
  |zero=>exact e
  |succ k=>show(vR v).or _=_;rw[e];rfl
 refine RV.rec (motive_1:=λv d _=>∀k,d.depth<=k->e_ st k v=some d) (motive_2:=λxs ds _=>∀k,dW ds<=k->xs.mapM (e_ st k)=some ds) (λi k _=>J k _ _ rfl) (λi k _=>J k _ _ rfl) (λi k _=>J k _ _ rfl) ?_ ?_ (λk _=>rfl) ?_ h
 ·intro l xs ds _ e _ N k hk
  cases k with
  |zero=>rw[iF]at hk;exact absurd hk (PV _)
  |succ k=>
   rw[iF]at hk;exact Bz e (N k (AJ hk))
 ·intro l xs ds _ e _ N k hk
  cases k with
  |zero=>rw[iF]at hk;exact absurd hk (PV _)
  |succ k=>
   rw[iF]at hk;exact Sd e (N k (AJ hk))
 ·intro x d xs ds _ _ a b k hk
  rw[dW]at hk;rw[sh,a k (aw (PM ..) hk),b k (aw (NI ..) hk)];rfl
theorem aR.rd{xs:List AV}{ds:List aB}(h:aR W st xs ds)(k:Nat)(hk:dW ds<=k):xs.mapM (e_ st k)=some ds:=by
 induction xs generalizing ds with
 |nil=>cases h;rfl
 |cons y N J=>
  cases h with
  |cons a b=>
   rw[dW]at hk;rw[sh,a.rd k (aw (PM ..) hk),J b (aw (NI ..) hk)];rfl
end
end Mine
namespace Mine
open PySem PyProof.Rows PySem.W
section
variable(W:List Nat)(G:Gm)
noncomputable def Ev(f:EM)(p:Vl):Prop:=∀(F:aj)(st:St),GR W G F st->Ok (f F st) λq=>aN [] st q.2/\Sat W q.2 q.1 p
noncomputable abbrev bh(f:EM)(d:aB):Prop:=Ev W G f (.d d)
noncomputable def fb(t:aj->St->Option (Bool×St))(b:Bool):Prop:=∀(F:aj)(st:St),GR W G F st->Ok (t F st) λq=>q.1=b/\aN [] st q.2
noncomputable def jv(fa:aj->St->Option (List AV×St))(ds:List aB):Prop:=∀(F:aj)(st:St),GR W G F st->Ok (fa F st) λq=>aN [] st q.2/\aR W q.2 q.1 ds
noncomputable def pT(fp:aj->St->Option (Option Int×St))(i:Option Int):Prop:=∀(F:aj)(st:St),GR W G F st->Ok (fp F st) λq=>q.1=i/\aN [] st q.2
noncomputable def cO(o:AV->AV->St->Option (AV×St))(a b r:aB):Prop:=∀(st:St)(x y:AV),Bd W st->RV W st x a->RV W st y b->Ok (o x y st) λc=>aN [] st c.2/\RV W c.2 c.1 r
noncomputable def iz(g:List AV->St->Option (AV×St))(ds:List aB)(r:aB):Prop:=∀(st:St)(xs:List AV),Bd W st->aR W st xs ds->Ok (g xs st) λc=>aN [] st c.2/\RV W c.2 c.1 r
noncomputable def zA(rs:AV->St->Option (List AV))(d:aB):Prop:=∀(st:St)(x:AV),RV W st x d->Ok (rs x st) λc=>c=[x]
end
theorem Ok.fJ{α β:Type}{P:α->Prop}{x:Option β}{f:β->α}(h:Ok x λa=>P (f a)):Ok (x.map f) P:=by
 cases x with
 |none=>exact h
 |some a=>exact h
section
variable{W:List Nat}{G:Gm}
theorem az{k:Nat}{p:Vl}(h:G k=some p):Ev W G (aa k) p:=λ_ _ g=>Ok.fJ ((g.at' k p h).mono λx s=>⟨.rfl',s⟩)
theorem gL(i:Int):bh W G (xk (.int i)) (.int i):=λ_ _ g=>⟨.rfl',.int i⟩
theorem WD(x:ae):bh W G (xk (.str x)) (.str x):=λ_ _ g=>⟨.rfl',.str x⟩
theorem aM{o:AV->AV->St->Option (AV×St)}{f g:EM}{a b r:aB}(hf:bh W G f a)(hg:bh W G g b)(ho:cO W o a b r):bh W G (ay o f g) r:=λ_ _ O=>
 Ok.bind' ((hf _ _ O).mono λp J=>Ok.bind' ((hg _ _ (O.cZ J.1)).mono λq N=>(ho _ _ _ (O.bd.keep (J.1.trans N.1)) (RV.keep N.1.any J.2) N.2).mono λc hc=>⟨(J.1.trans N.1).trans hc.1,hc.2⟩))
theorem d6{o:AV->AV->St->Option (AV×St)}{f g:EM}{a b:aB}{r:Bool}(hf:bh W G f a)(hg:bh W G g b)(ho:cO W o a b (.bool r)):fb W G (aT o f g) r:=λ_ _ J=>
 Ok.bind' ((aM hf hg ho _ _ J).mono λc hc=>by
  obtain⟨x,s⟩:=c;cases(show RV W s x (.bool r)from hc.2).b'
  exact⟨rfl,hc.1⟩)
theorem BQ:fb W G bw true:=λ_ _ g=>⟨rfl,.rfl'⟩
theorem uD{b:Bool}:fb W G (λ_ st=>some (b,st)) b:=λ_ _ g=>⟨rfl,.rfl'⟩
theorem yb{s t:aj->St->Option (Bool×St)}{a b:Bool}(hs:fb W G s a)(ht:a=true->fb W G t b):fb W G (nq s t) (a&&b):=λ_ _ N=>Ok.bind' ((hs _ _ N).mono λq J=>by
 obtain⟨c,u⟩:=q;obtain⟨rfl,k⟩:=J;cases c with
 |true=>exact(ht rfl _ _ (N.cZ k)).mono λq J=>⟨J.1,k.trans J.2⟩
 |false=>exact⟨rfl,k⟩)
theorem sU{s t:aj->St->Option (Bool×St)}{a b:Bool}(hs:fb W G s a)(ht:a=false->fb W G t b):fb W G (ix s t) (a||b):=λ_ _ N=>Ok.bind' ((hs _ _ N).mono λq J=>by
 obtain⟨c,u⟩:=q;obtain⟨rfl,k⟩:=J;cases c with
 |true=>exact⟨rfl,k⟩
 |false=>exact(ht rfl _ _ (N.cZ k)).mono λq J=>⟨J.1,k.trans J.2⟩)
theorem qJ{t:aj->St->Option (Bool×St)}{f g:EM}{b:Bool}{p:Vl}(ht:fb W G t b)(h1:b=true->Ev W G f p)(h2:b=false->Ev W G g p):Ev W G (gf t f g) p:=λ_ _ N=>Ok.bind' ((ht _ _ N).mono λq J=>by
 obtain⟨c,u⟩:=q;obtain⟨rfl,k⟩:=J;cases c with
 |true=>exact(h1 rfl _ _ (N.cZ k)).mono λq J=>⟨k.trans J.1,J.2⟩
 |false=>exact(h2 rfl _ _ (N.cZ k)).mono λq J=>⟨k.trans J.1,J.2⟩)
theorem IT{f:EM}{i:Int}(hf:bh W G f (.int i)):bh W G (i9 f) (.int (-i)):=λ_ _ J=>Ok.bind' ((hf _ _ J).mono λq N=>by
 obtain⟨c,u⟩:=q;obtain⟨k,s⟩:=N;cases(show RV W u c (.int i)from s).i'
 exact⟨k,.int _⟩)
theorem be:jv W G ag []:=λ_ _ g=>⟨.rfl',.nil⟩
theorem aE{f:EM}{fa}{d:aB}{ds:List aB}(hf:bh W G f d)(R:jv W G fa ds):jv W G (ab f fa) (d::ds):=λ_ _ O=>
 Ok.bind' ((hf _ _ O).mono λp J=>Ok.fJ ((R _ _ (O.cZ J.1)).mono λq N=>⟨J.1.trans N.1,.cons (RV.keep N.1.any J.2) N.2⟩))
theorem I5{st:St}(h:Bd W st):st.length∉W:=λm=>jI _ (h _ m)
theorem nf{st:St}{o:AO}:(st++[o])[st.length]?=some o:=uL ..
theorem j_{st:St}{xs:List AV}{ds:List aB}(h:Bd W st)(r:aR W st xs ds):RV W (st++[.list xs]) (.ref st.length) (.list ds):=.list (I5 h) nf (aR.keep (.app _) r)
theorem VO{st:St}{xs:List AV}{ds:List aB}(h:Bd W st)(r:aR W st xs ds):RV W (st++[.tup xs]) (.ref st.length) (.tuple ds):=.tup (I5 h) nf (aR.keep (.app _) r)
theorem e8{fa}{ds:List aB}(O:jv W G fa ds)(hl:ds.length<=16777216):bh W G (bC fa) (.list ds):=λ_ _ N=>Ok.bind' ((O _ _ N).mono λq J=>
 Ok.of (if_pos (by rw[J.2.len];exact hl)) ⟨J.1.trans (.app _),j_ (N.bd.keep J.1) J.2⟩)
theorem oj{fa}{ds:List aB}(O:jv W G fa ds)(hl:ds.length<=16777216):bh W G (de fa) (.tuple ds):=λ_ _ N=>Ok.bind' ((O _ _ N).mono λq J=>
 Ok.of (if_pos (by rw[J.2.len];exact hl)) ⟨J.1.trans (.app _),VO (N.bd.keep J.1) J.2⟩)
theorem ia{g:List AV->St->Option (AV×St)}{fa}{ds:List aB}{r:aB}(O:jv W G fa ds)(hg:iz W g ds r):bh W G (bK g fa) r:=λ_ _ N=>Ok.bind' ((O _ _ N).mono λq J=>
 (hg _ _ (N.bd.keep J.1) J.2).mono λc hc=>⟨J.1.trans hc.1,hc.2⟩)
theorem sr{rs}{g:List AV->St->Option (AV×St)}{R:EM}{fa}{d:aB}{ds:List aB}{r:aB}(ho:bh W G R d)(hr:zA W rs d)(S:jv W G fa ds)(hg:iz W g (d::ds) r):bh W G (bU rs g R fa) r:=λ_ _ O=>
 Ok.bind' ((ho _ _ O).mono λp J=>Ok.bind' ((hr _ _ J.2).mono λc hc=>Ok.bind' ((S _ _ (O.cZ J.1)).mono λq N=>by
  subst hc;exact(hg _ _ (O.bd.keep (J.1.trans N.1)) (.cons (RV.keep N.1.any J.2) N.2)).mono λc hc=>⟨(J.1.trans N.1).trans hc.1,hc.2⟩)))
theorem dR:pT W G bb none:=λ_ _ g=>⟨rfl,.rfl'⟩
theorem fT{f:EM}{i:Int}(hf:bh W G f (.int i)):pT W G (bY f) (some i):=λ_ _ J=>Ok.bind' ((hf _ _ J).mono λq N=>by
 obtain⟨c,u⟩:=q;obtain⟨k,s⟩:=N;cases(show RV W u c (.int i)from s).i'
 exact⟨rfl,k⟩)
noncomputable def q8(W:List Nat)(a:aB)(i j k:Option Int)(r:aB):Prop:=∀(st:St)(x:AV),Bd W st->RV W st x a->Ok (s_ x i j k st) λc=>aN [] st c.2/\RV W c.2 c.1 r
theorem iT{f:EM}{lo hi U}{a r:aB}{i j k:Option Int}(hf:bh W G f a)(h1:pT W G lo i)(h2:pT W G hi j)(h3:pT W G U k)(hs:q8 W a i j k r):bh W G (cH f lo hi U) r:=λ_ _ N=>
 Ok.bind' ((hf _ _ N).mono λp J=>Ok.bind' ((h1 _ _ (N.cZ J.1)).mono λq O=>Ok.bind' ((h2 _ _ (N.cZ (J.1.trans O.2))).mono λu R=>Ok.bind' ((h3 _ _ (N.cZ ((J.1.trans O.2).trans R.2))).mono λv hv=>by
  have S:=(O.2.trans R.2).trans hv.2;rw[O.1,R.1,hv.1];exact(hs _ _ (N.bd.keep (J.1.trans S)) (RV.keep S.any J.2)).mono λc hc=>⟨(J.1.trans S).trans hc.1,hc.2⟩))))
end
inductive Ai where
 |one (d:aB)
 |two (a b:aB)
inductive qW(W:List Nat)(st:St):Item->Ai->Prop
 |one {v:AV} {d:aB}:RV W st v d->qW W st (.one v) (.one d)
 |two {v w:AV} {a b:aB}:RV W st v a->RV W st w b->qW W st (.two v w) (.two a b)
noncomputable def Yl(W:List Nat)(tg:b7):List Ai->St->It->Prop
 |[],st,it=>tg.fits it=true/\∀st',aN W st st'->it.next st'=some (none,st')
 |a::as,st,it=>tg.fits it=true/\∀st',aN W st st'->∃item gT,it.next st'=some (some (item,gT),st')/\qW W st' item a/\Yl W tg as st' gT
theorem Yl.keep{W:List Nat}{tg:b7}{as:List Ai}{st st1:St}{it:It}(h:Yl W tg as st it)(k:aN W st st1):Yl W tg as st1 it:=by
 cases as with
 |nil=>exact⟨h.1,λst' J=>h.2 st' (k.trans J)⟩
 |cons a as=>exact⟨h.1,λst' J=>h.2 st' (k.trans J)⟩
theorem Iw{W:List Nat}{tg:b7}{l:Nat}(hf:tg.fits (.list 0 0)=true)(hl:l∉W){xs:List AV}:∀{J:List AV}{ds:List aB}{i:Nat}{st:St},st[l]?=some (.list xs)->xs.drop i=J->aR W st J ds->Yl W tg (ds.map .one) st (.list l i):=by
 intro J;induction J with
 |nil=>
  intro ds i st e hd r;cases r
  refine⟨hf,λst' k=>?_⟩;show(bF st' l).map _=_;rw[dC (k.cW hl e),bz,o4 (by simpa using hd)];rfl
 |cons y J N=>
  intro ds i st e hd r;cases r with
  |cons a b=>
   have hi:xs[i]?=some y:=by rw[<-lE,hd];rfl
   refine⟨hf,λst' k=>⟨.one y,.list l (i+1),?_,.one (RV.keep k a),N (k.cW hl e) (by rw[<-mf,hd];rfl) (aR.keep k b)⟩⟩;show(bF st' l).map _=_;rw[dC (k.cW hl e),bz,hi];rfl
theorem VP{W:List Nat}{j l:Nat}(hl:l∉W){xs:List AV}:∀{J:List AV}{ds:List aB}{i:Nat}{st:St},st[l]?=some (.tup xs)->xs.drop i=J->aR W st J ds->Yl W (.name j) (ds.map .one) st (.tup l i):=by
 intro J;induction J with
 |nil=>
  intro ds i st e hd r;cases r
  refine⟨rfl,λst' k=>?_⟩;show(eo st' l).map _=_;rw[kO (k.cW hl e),bz,o4 (by simpa using hd)];rfl
 |cons y J N=>
  intro ds i st e hd r;cases r with
  |cons a b=>
   have hi:xs[i]?=some y:=by rw[<-lE,hd];rfl
   refine⟨rfl,λst' k=>⟨.one y,.tup l (i+1),?_,.one (RV.keep k a),N (k.cW hl e) (by rw[<-mf,hd];rfl) (aR.keep k b)⟩⟩;show(eo st' l).map _=_;rw[kO (k.cW hl e),bz,hi];rfl
theorem II{W:List Nat}{k:Nat}{x:List Nat}:∀{J:List Nat}{i:Nat}{st:St},x.drop i=J->Yl W (.name k) (J.map λc=>.one (.str (T [c]))) st (.str (T x) i):=by
 intro J;have nx:∀(i:Nat)(st:St),(It.str (T x) i).next st=some ((x[i]?).map λc=>(.one (.str (T [c])),.str (T x) (i+1)),st):=λi st=>by
  show some (lD _ (T x).cps[i]?,st)=_;rw[vv,BW];rfl
 induction J with
 |nil=>
  intro i st hd;exact⟨rfl,λst' _=>by rw[nx,o4 (by simpa using hd)];rfl⟩
 |cons y J N=>
  intro i st hd;have hi:x[i]?=some y:=by rw[<-lE,hd];rfl
  exact⟨rfl,λst' _=>⟨_,_,by rw[nx,hi];rfl,.one (.str _),N (by rw[<-mf,hd];rfl)⟩⟩
theorem GF{W:List Nat}{k:Nat}:∀(n:Nat)(a:Int)(st:St),Yl W (.name k) ((cF n).map λ(j:Nat)=>.one (.int (a+(j:Int)))) st (.range a n 1):=by
 intro n;induction n with
 |zero=>intro a st;exact⟨rfl,λst' _=>rfl⟩
 |succ n J=>
  intro a st;rw[Pw];refine⟨rfl,λst' _=>⟨.one (.int a),.range (a+1) n 1,?_,?_,?_⟩⟩
  ·show some (if _ then _ else _,st')=_
   rw[if_pos (by exact Int.natCast_pos.mpr (uk n)),show((n+1:Nat):Int) -1=(n:Int) by exact Int.add_sub_cancel (n:Int) 1]
  ·show qW W st' (.one (.int a)) (.one (.int (a+(0:Int))))
   rw[xw];exact .one (.int _)
  ·have:=J (a+1) st'
   rw[br];rw[show((λj:Nat=>Ai.one (.int (a+(j:Int))))∘sG)=λj:Nat=>Ai.one (.int (a+1+(j:Int)))from funext λj=>by
    show Ai.one _=Ai.one _;congr 2
    simp;exact((Ny ..).symm.trans (Q_ ..))]
   exact this
theorem TZ{W:List Nat}{ks:List Nat}{l:Nat}(hl:l∉W){xs:List AV}:∀{J:List AV}{ds:List aB}{i:Nat}{st:St},st[l]?=some (.list xs)->xs.drop i=J->aR W st J ds->Yl W (.names ks) ((ds.zipIdx i).map λp=>.two (.int (p.2:Nat)) p.1) st (.enum l i):=by
 intro J;induction J with
 |nil=>
  intro ds i st e hd r;cases r
  refine⟨rfl,λst' k=>?_⟩;show(bF st' l).map _=_;rw[dC (k.cW hl e),bz,o4 (by simpa using hd)];rfl
 |cons y J N=>
  intro ds i st e hd r;cases r with
  |cons a b=>
   have hi:xs[i]?=some y:=by rw[<-lE,hd];rfl
   refine⟨rfl,λst' k=>⟨.two (.int i) y,.enum l (i+1),?_,.two (.int _) (RV.keep k a),N (k.cW hl e) (by rw[<-mf,hd];rfl) (aR.keep k b)⟩⟩;show(bF st' l).map _=_;rw[dC (k.cW hl e),bz,hi];rfl
theorem UO{W:List Nat}{ks:List Nat}{l m:Nat}(hl:l∉W)(hm:m∉W){xs N:List AV}:∀{us vs:List AV}{ds es:List aB}{i:Nat}{st:St},st[l]?=some (.list xs)->st[m]?=some (.list N)->xs.drop i=us->N.drop i=vs->aR W st us ds->aR W st vs es->
 Yl W (.names ks) ((ds.zip es).map λp=>.two p.1 p.2) st (.zip l m i):=by
 have nx:∀(i:Nat)(st:St),st[l]?=some (.list xs)->st[m]?=some (.list N)->(It.zip l m i).next st=some ((xs[i]?).bind λv=>(N[i]?).map λw=>(.two v w,.zip l m (i+1)),st):=λi st e f=>by
  show(bF st l).bind _=_;rw[dC e];show(bF st m).map _=_;rw[dC f];rfl
 intro us;induction us with
 |nil=>
  intro vs ds es i st e f hd J r R;cases r
  exact⟨rfl,λst' k=>by rw[nx i st' (k.cW hl e) (k.cW hm f),o4 (by simpa using hd)];rfl⟩
 |cons u us S=>
  intro vs ds es i st e f hd J r R;have hi:xs[i]?=some u:=by rw[<-lE,hd];rfl
  cases R with
  |nil=>
   cases r with
   |cons a b=>exact⟨rfl,λst' k=>by rw[nx i st' (k.cW hl e) (k.cW hm f),hi,o4 (by simpa using J)];rfl⟩
  |cons U b'=>
   rename_i v Y vs es;have O:N[i]?=some v:=by rw[<-lE,J];rfl
   cases r with
   |cons a b=>
    exact⟨rfl,λst' k=>⟨.two u v,.zip l m (i+1),by rw[nx i st' (k.cW hl e) (k.cW hm f),hi,O];rfl,.two (RV.keep k a) (RV.keep k U),S (k.cW hl e) (k.cW hm f) (by rw[<-mf,hd];rfl) (by rw[<-mf,J];rfl) (aR.keep k b) (aR.keep k b')⟩⟩
theorem range_any(k:Int)(st:St)(h:fZ k=true):B9 [.int k] st=some (.range 0 (if 0<k then k else 0) 1,st):=if_pos h
theorem zU(n:Nat)(h:n<=16777216):fZ (n:Int)=true:=by
 unfold fZ;rw[nK];exact⟨decide_eq_true (by exact eu _),decide_eq_true (by exact wK (lF.mpr h) (by decide))⟩
theorem Pj(n:Nat)(st:St)(h:n<=16777216):cS [.int n] st=some (.range 0 n 1,st):=by
 refine(congrArg (λz=>Option.or z (x_ [.int n] st)) (range_any n st (zU n h))).trans ?_;by_cases h0:0<(n:Int)
 ·exact congrArg (λz:Int=>some (It.range 0 z 1,st)) (if_pos h0)
 ·exact congrArg (λz:Int=>some (It.range 0 z 1,st)) ((if_neg h0).trans (by exact Int.le_antisymm (eu _) (ib.mp h0)))
noncomputable def fc(W:List Nat)(G:Gm)(tg:b7)(fi:aj->St->Option (It×St))(as:List Ai):Prop:=∀(F:aj)(st:St),GR W G F st->Ok (fi F st) λq=>aN [] st q.2/\Yl W tg as q.2 q.1
section
variable{W:List Nat}{G:Gm}
theorem iC{tg:b7}{f:EM}{ds:List aB}(hf:bh W G f (.list ds))(ht:tg.fits (.list 0 0)=true):fc W G tg (bL f) (ds.map .one):=λ_ _ O=>Ok.bind' ((hf _ _ O).mono λp N=>by
 obtain⟨v,st⟩:=p;refine fF ((show RV W st v (.list ds)from N.2).l') λl xs J n e r=>?_;subst J;exact Ok.fJ (Ok.of (show nr (.ref l) st=some (.list l 0) by
  show((bF st l).map _).or _=_;rw[dC e];rfl) ⟨N.1,Iw ht n e rfl r⟩))
theorem HH{k:Nat}{f:EM}{ds:List aB}(hf:bh W G f (.tuple ds)):fc W G (.name k) (bL f) (ds.map .one):=λ_ _ N=>Ok.bind' ((hf _ _ N).mono λp J=>by
 obtain⟨v,st⟩:=p;obtain⟨l,xs,rfl,n,e,r⟩:=(show RV W st v (.tuple ds)from J.2).t';exact Ok.fJ (Ok.of (show nr (.ref l) st=some (.tup l 0) by
  show((bF st l).map _).or ((eo st l).map _)=_;rw[kO e,show bF st l=none by unfold bF;rw[e];rfl];rfl) ⟨J.1,VP n e rfl r⟩))
theorem TS{k:Nat}{f:EM}{x:List Nat}(hf:bh W G f (.str (T x))):fc W G (.name k) (bL f) (x.map λc=>.one (.str (T [c]))):=λ_ _ N=>Ok.bind' ((hf _ _ N).mono λp J=>by
 obtain⟨v,st⟩:=p;cases(show RV W st v (.str (T x))from J.2).s'
 exact Ok.fJ (Ok.of (show nr (.str (T x)) st=some (.str (T x) 0)from rfl) ⟨J.1,II rfl⟩))
theorem oP{k:Nat}{fa}{n:Nat}(J:jv W G fa [.int (n:Nat)])(N:n<=16777216):fc W G (.name k) (bD cS fa) ((cF n).map λ(j:Nat)=>.one (.int (j:Int))):=λ_ _ O=>Ok.bind' ((J _ _ O).mono λp R=>by
 obtain⟨xs,st⟩:=p;obtain⟨S,r⟩:=R;cases r with
 |cons a b=>
  cases a.i'
  cases b
  have:=GF (W:=W) (k:=k) n 0 st;rw[show(λj:Nat=>Ai.one (.int (0+(j:Int))))=λj:Nat=>Ai.one (.int (j:Int))from funext λj=>by rw[HC]]at this;have e:=Pj n st N;show Ok (cS [.int (n:Nat)] st) _;generalize cS [.int (n:Nat)] st=z at e ⊢;exact Ok.of e ⟨S,this⟩)
theorem xr{ks:List Nat}{fa}{ds:List aB}(J:jv W G fa [.list ds]):fc W G (.names ks) (bD lV fa) ((ds.zipIdx 0).map λp=>.two (.int (p.2:Nat)) p.1):=λ_ _ N=>Ok.bind' ((J _ _ N).mono λp O=>by
 obtain⟨xs,st⟩:=p;obtain⟨R,r⟩:=O;cases r with
 |cons a b=>
  obtain⟨l,S,rfl,n,e,r⟩:=a.l';cases b
  exact Ok.of (show lV [.ref l] st=some (.enum l 0,st) by
   show(bF st l).map _=_;rw[dC e];rfl) ⟨R,TZ n e rfl r⟩)
theorem pj{ks:List Nat}{fa}{ds es:List aB}(O:jv W G fa [.list ds,.list es]):fc W G (.names ks) (bD fM fa) ((ds.zip es).map λp=>.two p.1 p.2):=λ_ _ R=>Ok.bind' ((O _ _ R).mono λp S=>by
 obtain⟨xs,st⟩:=p;obtain⟨U,r⟩:=S;cases r with
 |cons a b=>
  refine fF a.l' λl ys J n e r=>?_;subst J;cases b with
  |cons a b=>
   refine fF a.l' λm zs J Y N r'=>?_;subst J;cases b
   exact Ok.of (show fM [.ref l,.ref m] st=some (.zip l m 0,st) by
    show(bF st l).bind _=_;rw[dC e];show(bF st m).map _=_;rw[dC N];rfl) ⟨U,UO n Y e N rfl rfl r r'⟩)
end
inductive gS:b7->Ai->Gm->Gm->Prop
 |one {k:Nat} {d:aB} {G:Gm}:G k=none->gS (.name k) (.one d) G (G.put k (.d d))
 |two {j k:Nat} {a b:aB} {G:Gm}:G j=none->G k=none->gS (.names [j,k]) (.two a b) G ((G.put j (.d a)).put k (.d b))
 |JU {j k:Nat} {a b:aB} {G:Gm}:G j=none->G k=none->gS (.names [j,k]) (.one (.tuple [a,b])) G ((G.put j (.d a)).put k (.d b))
 |vJ {i j k:Nat} {a b c:aB} {G:Gm}:G i=none->G j=none->G k=none->gS (.names [i,j,k]) (.one (.tuple [a,b,c])) G (((G.put i (.d a)).put j (.d b)).put k (.d c))
theorem Gm.CD{G:Gm}{k j:Nat}{p q:Vl}(h:G k=none)(e:G j=some q):G.put k p j=some q:=by
 rw[Gm.put,if_neg (λz=>by rw[z,h]at e;cases e)];exact e
theorem GR.le{W:List Nat}{G G':Gm}{F:aj}{st:St}(h:GR W G' F st)(le:∀j q,G j=some q->G' j=some q):GR W G F st:=⟨h.bd,λj q e=>h.at' j q (le j q e)⟩
theorem Gm.xX{G:Gm}{i k j:Nat}{p r q:Vl}(hi:G i=none)(hk:G k=none)(e:G j=some q):(G.put i p).put k r j=some q:=by
 rw[Gm.put,if_neg (λz=>by rw[z,hk]at e;cases e)];exact Gm.CD hi e
theorem gS.le{tg:b7}{a:Ai}{G G':Gm}(h:gS tg a G G'):∀j q,G j=some q->G' j=some q:=by
 cases h with
 |one h=>exactλj q e=>Gm.CD h e
 |two h1 h2=>exactλj q e=>Gm.xX h1 h2 e
 |JU h1 h2=>exactλj q e=>Gm.xX h1 h2 e
 |vJ h1 h2 h3=>exactλj q e=>by rw[Gm.put,if_neg (λz=>by rw[z,h3]at e;cases e)];exact Gm.xX h1 h2 e
theorem gS.ok{W:List Nat}{tg:b7}{a:Ai}{G G':Gm}(h:gS tg a G G'){F:aj}{st:St}{item:Item}(s:qW W st item a)(g:GR W G F st):Ok (tg.bind item F st) λF1=>GR W G' F1 st:=by
 cases h with
 |one h=>
  cases s with
  |one r=>exact g.put (p:=.d _) r
 |two h1 h2=>
  cases s with
  |two r O=>exact(g.put (p:=.d _) r).put (p:=.d _) O
 |JU h1 h2=>
  cases s with
  |one r=>
   obtain⟨l,xs,rfl,n,e,r⟩:=r.t';show Ok ((eo st l).bind _) _;rw[kO e];cases r with
   |cons a b=>
    cases b with
    |cons J b=>
     cases b
     exact(g.put (p:=.d _) a).put (p:=.d _) J
 |vJ h1 h2 h3=>
  cases s with
  |one r=>
   obtain⟨l,xs,rfl,n,e,r⟩:=r.t';show Ok ((eo st l).bind _) _;rw[kO e];cases r with
   |cons a b=>
    cases b with
    |cons J b=>
     cases b with
     |cons N b=>
      cases b
      exact((g.put (p:=.d _) a).put (p:=.d _) J).put (p:=.d _) N
noncomputable def zI(W:List Nat)(G:Gm)(em:jd)(m:Nat)(φ:List aB->List aB):Prop:=∀(acc:List AV)(ad:List aB)(F:aj)(st:St),GR W G F st->aR W st acc ad->ad.length+m<=16777216->
 Ok (em acc F st) λq=>aN [] st q.2.2/\aR W q.2.2 q.1 (φ ad)/\(φ ad).length <=ad.length+m/\GR W G q.2.1 q.2.2
noncomputable def nk{β:Type}(t:β->Bool)(φ:β->List aB->List aB)(bs:List β)(ad:List aB):List aB:=bs.foldl (λad b=>if t b=true then φ b ad else ad) ad
theorem yR{W:List Nat}{G:Gm}{β:Type}{tg:b7}{ti}{em:jd}{m:Nat}{mk:β->Ai}{t:β->Bool}{φ:β->List aB->List aB}:∀{bs:List β}(hb:∀b∈bs,∃G',gS tg (mk b) G G'/\fb W G' ti (t b)/\(t b=true->zI W G' em m (φ b)))
 {fuel:Nat}{it:It}{acc:List AV}{ad:List aB}{F:aj}{st:St},bs.length<fuel->Yl W tg (bs.map mk) st it->GR W G F st->aR W st acc ad->ad.length+m*bs.length<=16777216->
 Ok (jO tg ti em fuel it acc F st) λq=>aN [] st q.2.2/\aR W q.2.2 q.1 (nk t φ bs ad)/\GR W G q.2.1 q.2.2/\(nk t φ bs ad).length <=ad.length+m*bs.length:=by
 intro bs;induction bs with
 |nil=>
  intro hb fuel it acc ad F st hf Y g r hl;cases fuel with
  |zero=>exact absurd hf (gk _)
  |succ fuel=>
   show Ok (if tg.fits it=true then(it.next st).bind _ else none) _;rw[if_pos Y.1,Y.2 st .rfl'];exact⟨.rfl',r,g,c8 ..⟩
 |cons b bs U=>
  intro hb fuel it acc ad F st hf Y g r hl;cases fuel with
  |zero=>exact absurd hf (gk _)
  |succ fuel=>
   refine fH (Y.2 st .rfl') λitem gT hn hs Y'=>?_;refine di (hb b (cj ..)) λG' hB hT hE=>?_;have O:=λx hx=>hb x (cw _ hx);have hm:m*(b::bs).length =m*bs.length+m:=by rw[dH,uj]
   rw[hm]at hl ⊢;show Ok (if tg.fits it=true then(it.next st).bind _ else none) _;rw[if_pos Y.1,hn];show Ok ((tg.bind item F st).bind _) _;refine Ok.bind' ((hB.ok hs g).mono λF1 g1=>Ok.bind' ((hT _ _ g1).mono λu hu=>?_));let c:=u.1;let s1:=u.2;let hc:=hu.1;let N:=hu.2;have hc:c=t b:=hc;have N:aN [] st s1:=N;show Ok (if c=true then(em acc F1 s1).bind _ else jO tg ti em fuel gT acc F1 s1) _;rw[hc];have R:=g1.cZ N;have r1:=aR.keep N.any r;cases S:t b with
   |true=>
    rw[if_pos rfl];refine Ok.bind' ((hE S _ _ _ _ R r1 (by exact aw (fW (dg ..) _) hl)).mono λe he=>?_);have:=U O (mZ hf) ((Y'.keep N.any).keep he.1.any) (he.2.2.2.le hB.le) he.2.1 (by have:=he.2.2.1;exact aw (aw (iR he.2.2.1 _) (bS ((nN ..).trans (congrArg _ (gH ..))))) hl);refine this.mono λq J=>⟨(N.trans he.1).trans J.1,?_,J.2.2.1,?_⟩
    ·unfold nk;rw[mV,S];exact J.2.1
    ·have h1:=J.2.2.2
     have h2:=he.2.2.1;unfold nk at h1 ⊢;rw[mV,S];show(Fy _ (φ b ad) bs).length <=_;exact aw h1 (aw (iR he.2.2.1 _) (bS ((nN ..).trans (congrArg _ (gH ..)))))
   |false=>
    rw[if_neg d9];have:=U O (mZ hf) (Y'.keep N.any) (R.le hB.le) r1 (by exact aw (fW (c8 ..) _) hl);refine this.mono λq J=>⟨N.trans J.1,?_,J.2.2.1,?_⟩
    ·unfold nk;rw[mV,S];exact J.2.1
    ·have h1:=J.2.2.2
     unfold nk at h1 ⊢;rw[mV,S];show(Fy _ ad bs).length <=_;exact aw h1 (fW (c8 ..) _)
section
variable{W:List Nat}{G:Gm}{β:Type}{fv:List Nat}{fi:aj->St->Option (It×St)}{tg:b7}{ti:aj->St->Option (Bool×St)}{t:β->Bool}{h:β->aB}{bs:List β}{mk:β->Ai}{fe:EM}
theorem Cu{d:aB}(he:bh W G fe d):zI W G (a_ fe) 1 (λad=>ad++[d]):=λacc ad F st g r hl=>Ok.bind' ((he _ _ g).mono λe h=>by
 show Ok (if acc.length<=sizeLine then _ else none) _;have J:acc.length<=sizeLine:=by rw[r.len,sizeLine_eq];exact mW hl
 rw[if_pos J];exact⟨h.1,(aR.keep h.1.any r).app (.cons h.2 .nil),by rw[aP];exact a6 _,g.cZ h.1⟩)
theorem zW(ad:List aB):nk t (λb ad=>ad++[h b]) bs ad=ad++(bs.filter t).map h:=by
 unfold nk;induction bs generalizing ad with
 |nil=>simp
 |cons b bs J=>
  rw[mV,J];cases q:t b with
  |true=>rw[if_pos rfl,uz q,bX,dm];rfl
  |false=>rw[if_neg d9,xb (by rw[q];exact d9)]
theorem pa(hi:fc W G tg fi (bs.map mk))(hl:bs.length<400)(hb:∀b∈bs,∃G',gS tg (mk b) (G.only fv) G'/\fb W G' ti (t b)/\(t b=true->bh W G' fe (h b))):bh W G (bl fv fi tg ti (a_ fe) 400) (.list ((bs.filter t).map h)):=λ_ _ O=>
 Ok.bind' ((hi _ _ O).mono λp J=>Ok.fJ ((yR (m:=1) (φ:=λb ad=>ad++[h b]) (λb m=>(hb b m).imp λG' q=>⟨q.1,q.2.1,λe=>Cu (q.2.2 e)⟩) hl J.2 ((O.cZ J.1).only fv) .nil (by rw[nI,hH,Bb];exact cq (du hl (by decide)))).mono λq N=>
  ⟨(J.1.trans N.1).trans (.app _),j_ N.2.2.1.bd (by have:=N.2.1;rwa[zW,d_]at this)⟩))
theorem fD(hi:fc W G tg fi (bs.map mk))(hl:bs.length<400)(hb:∀b∈bs,∃G',gS tg (mk b) (G.only fv) G'/\bh W G' fe (h b)):bh W G (bl fv fi tg bw (a_ fe) 400) (.list (bs.map h)):=λ_ _ N=>
 ((pa (t:=λ_=>true) (ti:=bw) hi hl λb m=>(hb b m).imp λG' q=>⟨q.1,BQ,λ_=>q.2⟩) _ _ N).mono λq J=>by
  rw[Nx.mpr λ_ _=>rfl]at J;exact J
end
open PySem.Builtin PySem.Builtin.Str
theorem get_set(st:St)(l:Nat)(o:AO)(i:Nat):(st.set l o)[i]?=if i=l then(if l<st.length then some o else none)else st[i]?:=by
 rw[R0];by_cases h:l=i
 ·subst h;simp
 ·rw[if_neg h,if_neg (λe=>h e.symm)]
theorem mT{st:St}{i:Nat}{o:AO}(h:st[i]?=some o):i<st.length:=(fY.mp h).1
theorem D9(g:aj->St->Option (Fl×aj×St))(F:aj)(st:St):after g (.next,F,st)=g F st:=rfl
theorem xJ(t:aj->St->Option (Bool×St))(b:SM)(k:Nat)(F:aj)(st:St):lL t b (k+1) F st=(t F st).bind λp=>if p.1 then(b F p.2).bind (after (lL t b k))else some (.next,F,p.2):=rfl
section
variable{tg:b7}{fuel:Nat}{it gT:It}{F F1 F2:aj}{st st1 bI:St}{v:Item}(h1:tg.fits it=true)
include h1
theorem nE{b:SM}(h2:it.next st=some (some (v,gT),st1))(h3:tg.bind v F st1=some F1):cA tg b (fuel+1) it F st=(b F1 st1).bind (after (cA tg b fuel gT)):=by
 show(if tg.fits it=true then(it.next st).bind _ else _)=_;rw[if_pos h1,h2];show(tg.bind v F st1).bind _=_;rw[h3];rfl
theorem wH{b:SM}(h2:it.next st=some (none,st1)):cA tg b (fuel+1) it F st=some (.next,F,st1):=by
 show(if tg.fits it=true then(it.next st).bind _ else _)=_;rw[if_pos h1,h2];rfl
theorem QG{b:SM}{r:AV}(h2:it.next st=some (some (v,gT),st1))(h3:tg.bind v F st1=some F1)(hb:b F1 st1=some (.ret r,F2,bI)):cA tg b (fuel+1) it F st=some (.ret r,F2,bI):=by
 rw[nE h1 h2 h3,hb];rfl
end
@[simp] theorem bP(k:Nat)(F:aj)(st:St):aa k F st=(F.lookup k).map (·,st):=rfl
@[simp] theorem cT(v:AV)(F:aj)(st:St):xk v F st=some (v,st):=rfl
@[simp] theorem d7(o)(f g:EM)(F:aj)(st:St):ay o f g F st=(f F st).bind λp=>(g F p.2).bind λq=>o p.1 q.1 q.2:=rfl
@[simp] theorem iM(o)(f g:EM)(F:aj)(st:St):aT o f g F st=(ay o f g F st).bind λp=>p.1.b?.map λb=>(b,p.2):=rfl
@[simp] theorem iK(b:Bool):(AV.bool b).b? =some b:=rfl
@[simp] theorem mE(i:Int):(AV.int i).i? =some i:=rfl
@[simp] theorem lK(t)(f:EM)(F:aj)(st:St):kn t f F st=(f F st).bind λp=>(t p.1 p.2).map (·,p.2):=rfl
@[simp] theorem Xw(f g)(F:aj)(st:St):ix f g F st=(f F st).bind λp=>if p.1 then some (true,p.2)else g F p.2:=rfl
@[simp] theorem UN(t)(f g:EM)(F:aj)(st:St):gf t f g F st=(t F st).bind λp=>if p.1 then f F p.2 else g F p.2:=rfl
@[simp] theorem gF(k)(f:EM)(F:aj)(st:St):bj k f F st=(f F st).map λp=>(.next,F.put k p.1,p.2):=rfl
@[simp] theorem jK(f:EM)(F:aj)(st:St):cy f F st=(f F st).map λp=>(.ret p.1,F,p.2):=rfl
@[simp] theorem BH(f:EM)(F:aj)(st:St):gN f F st=(f F st).map λp=>(.next,F,p.2):=rfl
@[simp] theorem Sv(F:aj)(st:St):yW F st=some (.cont,F,st):=rfl
@[simp] theorem ig(F:aj)(st:St):aC F st=some (.next,F,st):=rfl
@[simp] theorem eR(t)(f g:SM)(F:aj)(st:St):cn t f g F st=(t F st).bind λp=>if p.1 then f F p.2 else g F p.2:=rfl
theorem cM(f g:SM)(F:aj)(st:St):ao f g F st=(f F st).bind λp=>match p.1 with|.next =>g p.2.1 p.2.2|fl=>some (fl,p.2.1,p.2.2):=rfl
@[simp] theorem pB(k)(o)(f:EM)(F:aj)(st:St):eS k o f F st=(F.lookup k).bind λx=>(f F st).bind λp=>(o x p.1 p.2).map λq=>(.next,F.put k q.1,q.2):=rfl
@[simp] theorem dJ(F:aj)(st:St):ag F st=some ([],st):=rfl
@[simp] theorem eK(f:EM)(g)(F:aj)(st:St):ab f g F st=(f F st).bind λp=>(g F p.2).map λq=>(p.1::q.1,q.2):=rfl
@[simp] theorem j5(g)(fa)(F:aj)(st:St):bK g fa F st=(fa F st).bind λp=>g p.1 p.2:=rfl
@[simp] theorem iI(rs g J fa)(F:aj)(st:St):bU rs g J fa F st=(J F st).bind λp=>(rs p.1 p.2).bind λfirst=>(fa F p.2).bind λq=>g (first++q.1) q.2:=rfl
@[simp] theorem CO(f g:EM)(F:aj)(st:St):aH f g F st=ay kQ f g F st:=rfl
@[simp] theorem Cm(f:EM)(F:aj)(st:St):i9 f F st=(f F st).bind λp=>p.1.i?.map λi=>(.int (-i),p.2):=rfl
@[simp] theorem xQ(fa)(F:aj)(st:St):bC fa F st=(fa F st).bind λp=>if p.1.length <=sizeLine then some (.ref p.2.length,p.2++[.list p.1])else none:=rfl
@[simp] theorem RP(F:aj)(st:St):bb F st=some (none,st):=rfl
@[simp] theorem Ud(f:EM)(F:aj)(st:St):bY f F st=(f F st).bind λp=>p.1.i?.map λi=>(some i,p.2):=rfl
@[simp] theorem RF(f:EM)(lo hi step)(F:aj)(st:St):cH f lo hi step F st=(f F st).bind λp=>(lo F p.2).bind λa=>(hi F a.2).bind λb=>(step F b.2).bind λc=>s_ p.1 a.1 b.1 c.1 c.2:=rfl
@[simp] theorem I3(f:EM)(F:aj)(st:St):bL f F st=(f F st).bind λp=>(nr p.1 p.2).map (·,p.2):=rfl
@[simp] theorem Z7(g)(fa)(F:aj)(st:St):bD g fa F st=(fa F st).bind λp=>g p.1 p.2:=rfl
@[simp] theorem aaa(F:aj)(st:St):bw F st=some (true,st):=rfl
@[simp] theorem Z_(ks)(fa)(F:aj)(st:St):v3 ks fa F st=(fa F st).bind λp=>if p.1.length <=sizeLine then(F.oA ks p.1).map λF'=>(.next,F',p.2)else none:=rfl
@[simp] theorem H7(ks)(fa)(F:aj)(st:St):pG ks fa F st=(fa F st).bind λp=>if p.1.length <=sizeLine/\p.1.length =ks.length then(F.C3 ks p.1).map λF'=>(.next,F',p.2)else none:=rfl
@[simp] theorem qE(x:ae)(st:St):jr (.str x) st=some [.str x]:=rfl
theorem so(ks f avs st)(h:ks.length=avs.length):bG ks f avs st=(f (ks.zip avs) st).bind λp=>match p.1 with
 |.ret v=>some (v,p.2.2)
 |.next =>some (.none,p.2.2)
 |_=>none:=by
 unfold bG;rw[if_pos h];all_goals rfl
@[simp] theorem ML(x y:Int)(st:St):aX (.int x) (.int y) st=some (.int (x+y),st):=rfl
@[simp] theorem El(x y:Int)(st:St):gO (.int x) (.int y) st=some (.int (x+y),st):=rfl
theorem I4(x y:List Nat)(st:St)(h:x.length+y.length<=16777216):vY (.str (T x)) (.str (T y)) st=some (.str (T (x++y)),st):=by
 show(if(T x).length +(T y).length <=sizeLine then _ else _)=_;rw[eQ,eQ,if_pos (show _<=sizeLine from h),Xq]
theorem L9(x y:List Nat)(st:St)(h:x.length+y.length<=16777216):aX (.str (T x)) (.str (T y)) st=some (.str (T (x++y)),st):=by
 show(vY _ _ st).or _=_;rw[I4 x y st h];rfl
theorem zZ(x y:List Nat)(st:St)(h:x.length+y.length<=16777216):gO (.str (T x)) (.str (T y)) st=some (.str (T (x++y)),st):=I4 x y st h
@[simp] theorem Mz(x y:Int)(st:St):kl (.int x) (.int y) st=some (.int (x -y),st):=rfl
theorem ES(x y:Int)(st:St)(h:y≠0):oMod (.int x) (.int y) st=some (.int (x.fmod y),st):=by
 show lD _ (if y=0 then none else _)=_;rw[if_neg h];rfl
theorem L_(x y:Int)(st:St)(h:y≠0)(h2:y.natAbs<1073741824):oDiv (.int x) (.int y) st=some (.int (x.fdiv y),st):=by
 show lD _ (if y=0 then none else if y.natAbs<1073741824 then _ else _)=_;rw[if_neg h,if_pos h2];rfl
@[simp] theorem Zu(x y:Int)(st:St):oEq (.int x) (.int y) st=some (.bool (x==y),st):=rfl
@[simp] theorem nH(x y:List Nat)(st:St):oEq (.str (T x)) (.str (T y)) st=some (.bool (x==y),st):=by
 show some (AV.bool (T x==T y),st)=_;rw[CU]
@[simp] theorem AH(x y:Int)(st:St):oLt (.int x) (.int y) st=some (.bool (decide (x<y)),st):=rfl
@[simp] theorem AU(x y:Int)(st:St):l8 (.int x) (.int y) st=some (.bool (decide (y<x)),st):=rfl
@[simp] theorem Rj(x y:Int)(st:St):zt (.int x) (.int y) st=some (.bool (decide (y<=x)),st):=rfl
@[simp] theorem Fg(c:Nat)(x:List Nat)(st:St):ma (.str (T [c])) (.str (T x)) st=some (.bool (decide (c∈x)),st):=by
 show some (AV.bool (!(occurrences (T x) (T [c]) 0 (T x).length 1).isEmpty),st)=_;rw[X9]
theorem Nb(x:List Nat)(k:Int)(st:St)(h:x.length*k.toNat<=1000000)(h2:x.length<=1000000)(h3:-(2^62)<=k)(J:k<2^62):
 cU (.str (T x)) (.int k) st=some (.str (T (bZ k.toNat x).flatten),st):=by
 have e:zm (.str (T x)) (.int k) st=some (.str (T (bZ k.toNat x).flatten),st):=by
  show(if(T x).length *k.toNat<=1000000/\(T x).length <=1000000/\-(2^62)<=k/\k<2^62 then _ else _)=_;rw[eQ,if_pos ⟨h,h2,h3,J⟩,PN]
 show(zm _ _ st).or _=_;rw[e];rfl
theorem Mc(c:Nat)(n:Nat)(st:St)(h:n<=1000000):cU (.str (T [c])) (.int n) st=some (.str (T (bZ n c)),st):=by
 rw[Nb [c] n st (by simp;exact j0 h) (by simp) (by exact eu _) (by exact wK (lF.mpr h) (by decide))];simp[KL]
theorem Hc{i:Nat}(h:i<2^62):fits63 (i:Int)=true:=by
 unfold fits63;rw[nK];exact⟨decide_eq_true (by exact eu _),decide_eq_true (by exact ui (m3.mpr h) (by decide))⟩
theorem P9{i:Nat}(h:i<2^62):fits63 (-(i:Int))=true:=by
 unfold fits63;rw[nK];exact⟨decide_eq_true (by exact Nz (OO (ui (m3.mpr h) (by decide)))),decide_eq_true (by exact wK (FN (eu _)) (by decide))⟩
theorem Lm(x:List Nat)(i:Nat)(c:Nat)(st:St)(h:x[i]?=some c)(hs:i<2^62):kQ (.str (T x)) (.int i) st=some (.str (T [c]),st):=by
 have q:seqIndex? (i:Int) (T x).length =some i:=Ff (eu _) (by rw[eQ];exact m3.mpr (fY.mp h).1);have e:Jw (.str (T x)) (i:Int) st=some (.str (T [c]),st):=by
  show((seqIndex? i (T x).length).bind ((T x).cps[·]?)).map _=_;rw[q];show((T x).cps[i]?).map _=_;rw[vv,BW,h];rfl
 unfold kQ;rw[mE,bo,if_pos (Hc hs),e];rfl
theorem FX(xs:List AV)(l:Nat)(k:Int)(j:Nat)(v:AV)(st:St)(hl:st[l]?=some (.list xs))(hk:seqIndex? k xs.length=some j)(h:xs[j]?=some v)(hf:fits63 k=true):kQ (.ref l) (.int k) st=some (v,st):=by
 have e:JJ (.ref l) k st=some (v,st):=by
  show(bF st l).bind _=_;rw[dC hl,bo,hk,bo,h];rfl
 unfold kQ;rw[mE,bo,if_pos hf,e];rfl
theorem D1(xs:List AV)(l:Nat)(i:Nat)(v:AV)(st:St)(hl:st[l]?=some (.list xs))(h:xs[i]?=some v)(hs:i<2^62):kQ (.ref l) (.int i) st=some (v,st):=
 FX xs l i i v st hl (Ff (eu _) (m3.mpr (fY.mp h).1)) h (Hc hs)
theorem tW(xs:List AV)(l:Nat)(i:Nat)(v:AV)(st:St)(hl:st[l]?=some (.list xs))(h:xs[xs.length -i]?=some v)(h0:1<=i)(h1:i<=xs.length)(hs:i<2^62):kQ (.ref l) (.int (-(i:Int))) st=some (v,st):=by
 have e:seqIndex? (-(i:Int)) xs.length=some (xs.length -i):=(seqIndex_neg (by exact Int.neg_neg_of_pos (m3.mpr h0)) (by exact Nz (lF.mpr h1))).trans (congrArg some (by exact Yt ..));exact FX xs l _ _ v st hl e h (P9 hs)
theorem Vh(ts:List (List Nat))(l:Nat)(st:St)(hl:st[l]?=some (.list (ts.map λt=>.str (T t))))(h:ts.flatten.length<=16777216):qS [.str (T []),.ref l] st=some (.str (T ts.flatten),st):=by
 show(bF st l).bind _=_;rw[dC hl,bo,QA,bo,if_pos (QW ts h),U4]
theorem uc(x:List Nat)(st:St)(h:x.length<=16777216):iv [.str (T x)] st=some (.int x.length,st):=by
 show(if(T x).length <=sizeLine then _ else _:Option _).or _=_;rw[eQ,if_pos (show _<=sizeLine from h)];rfl
theorem Eg(xs:List AV)(l:Nat)(st:St)(hl:st[l]?=some (.list xs))(h:xs.length<=16777216):iv [.ref l] st=some (.int xs.length,st):=by
 show(bF st l).bind _=_;rw[dC hl];exact if_pos h
theorem rM(xs:List AV)(l:Nat)(v:AV)(st:St)(hl:st[l]?=some (.list xs))(h:xs.length<=16777216):bAppend [.ref l,v] st=some (.none,st.set l (.list (xs++[v]))):=by
 show(bF st l).bind _=_;rw[dC hl];exact if_pos h
theorem nF(xs:List AV)(l:Nat)(st:St)(hl:st[l]?=some (.list xs)):ek (.ref l) st=some [.ref l]:=by
 show(bF st l).map _=_;rw[dC hl];rfl
@[simp] theorem Y0(x:ae)(st:St):nr (.str x) st=some (.str x 0):=rfl
theorem xc(x:List Nat)(st:St)(h:x.length<=16777216):iw (.str (T x)) st=some (x.length !=0):=by
 show(if(T x).length <=sizeLine then _ else _:Option _).or _=_;rw[eQ,if_pos (show _<=sizeLine from h)];rfl
@[simp] theorem wA(b:Bool)(st:St):iw (.bool b) st=some b:=rfl
@[simp] theorem wJ(i:Int)(st:St):iw (.int i) st=some (i !=0):=rfl
theorem cX(F:aj)(k:Nat)(v:AV):(F.put k v).lookup k=some v:=by rw[aj.wx];simp
theorem bW(F:aj)(k:Nat)(v:AV)(j:Nat)(h:j≠k):(F.put k v).lookup j=F.lookup j:=by rw[aj.wx,if_neg h]
theorem GG{α:Type}:∀(m a:Nat)(xs:List α),((cF m).map (a+·)).filterMap (xs[·]?)=(xs.drop a).take m:=by
 intro m;induction m with
 |zero=>
  intro a xs;simp
 |succ m J=>
  intro a xs;rw[G3,dF,List.filterMap_append,J a xs,nL];congr 1
  rw[Rh,List.map_singleton,xj];cases xs[a+m]?<;>rfl
theorem Bn{α:Type}(xs:List α)(lo hi:Option Int)(a b:Nat)(h:sliceBounds lo hi none xs.length=((a:Int),(b:Int),1)):pick xs lo hi none=(xs.drop a).take (b -a):=by
 unfold pick;rw[h];show(sliceRange (a:Int) (b:Int) 1).filterMap _=_;rw[sliceRange_one,GG]
theorem pick_from{α:Type}(xs:List α)(i:Nat):pick xs (some (i:Int)) none none=xs.drop i:=by
 rw[Bn xs _ _ (min i xs.length) xs.length]
 ·by_cases h:i<=xs.length
  ·rw[oW h,kx (by simp)]
  ·rw[ur (by exact um h),mj (by exact um h:xs.length<=i)];simp
 ·have J:¬((i:Int)<0):=by exact ib.mpr (eu _)
  simp only[sliceBounds,wL,show(1:Int)>0 by decide,if_true,J,if_false];rw[rU]
theorem Tt{α:Type}(xs:List α)(i:Nat):pick xs none (some (i:Int)) none=xs.take i:=by
 rw[Bn xs _ _ 0 (min i xs.length)]
 ·by_cases h:i<=xs.length
  ·rw[oW h];simp
  ·rw[ur (by exact um h),kx (by exact um h:xs.length<=i)];simp
 ·have J:¬((i:Int)<0):=by exact ib.mpr (eu _)
  simp only[sliceBounds,wL,show(1:Int)>0 by decide,if_true,J,if_false];rw[rU];rfl
theorem PF{α β:Type}(f:α->β)(xs:List α)(lo hi st:Option Int):pick (xs.map f) lo hi st=(pick xs lo hi st).map f:=by
 unfold pick;rw[aQ,List.map_filterMap];congr 1
 funext i
 simp
theorem Kx(xs:List AV)(l:Nat)(lo hi eF:Option Int)(st:St)(hl:st[l]?=some (.list xs))(h:xs.length<=16777216)(h0:eF≠some 0):
 s_ (.ref l) lo hi eF st=some (.ref st.length,st++[.list (pick xs lo hi eF)]):=by
 show(bF st l).bind _=_;rw[dC hl];exact if_pos ⟨h,h0⟩
theorem NN(a b:Nat):(a:Int).fdiv (b:Int)=((a/b:Nat):Int):=by
 rw[Int.fdiv_eq_ediv_of_nonneg _ (by exact eu _)];rfl
theorem Oy(a b:Nat):(a:Int).fmod (b:Int)=((a%b:Nat):Int):=by
 rw[Int.fmod_eq_emod_of_nonneg _ (by exact eu _)];rfl
theorem U9(a b:Nat)(st:St)(h:b≠0)(h2:b<1073741824):oDiv (.int a) (.int b) st=some (.int ((a/b:Nat):Int),st):=by
 rw[L_ _ _ _ (by exact PQ.mpr h) (by simpa using h2),NN]
theorem Jh(a b:Nat)(st:St)(h:b≠0):oMod (.int a) (.int b) st=some (.int ((a%b:Nat):Int),st):=by
 rw[ES _ _ _ (by exact PQ.mpr h),Oy]
theorem FT{α β:Type}{f g:α->Option β}:∀{l:List α},(∀x∈l,f x=g x)->l.filterMap f=l.filterMap g
 |[],_=>rfl
 |x::l,h=>by rw[xj,xj,h x (cj ..),FT λy J=>h y (cw _ J)]
theorem Sh(n:Nat):(if(n:Int) -1>-1 then(n:Int) -1 - -1 - -1 -1 else 0).toNat =n:=by exact Yw _
theorem Tc(n k:Nat):((n:Int) -1+-1*(k:Int)).toNat =n -1 -k:=by exact zL ..
theorem NJ{α:Type}(xs:List α):pick xs none none (some (-1))=xs.reverse:=by
 have h1:sliceBounds none none (some (-1)) xs.length=((xs.length:Int) -1,-1,-1):=by
  simp only[sliceBounds,Hx,show¬((-1:Int)>0) by decide,if_false]
 unfold pick;rw[h1];unfold sliceRange;simp only[show¬((-1:Int)>0) by decide,if_false];have h2:(if(xs.length:Int) -1>-1 then((xs.length:Int) -1 - -1 - -1 -1)/ - -1 else 0).toNat =xs.length:=by
  rw[show(- -1:Int)=1 from rfl,Int.ediv_one];exact Sh _
 rw[h2,List.filterMap_map];have h3:xs.reverse=(cF xs.length).filterMap (xs.reverse[·]?):=by
  have:=GG xs.length 0 xs.reverse;simp at this;rw[this,kx (by simp)]
 rw[h3];refine FT λk hk=>?_;rw[m5]at hk;rw[List.getElem?_reverse hk];show xs[((xs.length:Int) -1+-1*(k:Int)).toNat]?=_;rw[Tc]
theorem W5(c:Nat)(st:St)(h:c<1114112):tC [.int c] st=some (.str (T [c]),st):=by
 show(if(decide ((c:Int)<0)||decide ((c:Int)>0x10FFFF))=false then some (AV.str ⟨#[(c:Int).toNat]⟩,st)else none)=_;rw[if_pos (by rw[Ht];exact⟨decide_eq_false (by exact ib.mpr (eu _)),decide_eq_false (by exact ib.mpr (lF.mpr (fU h)))⟩)];rfl
theorem K_(xs:List AV)(l n:Nat)(st:St)(hl:st[l]?=some (.list xs))(h:xs.length*n<=1000000)(h2:n<1000000):cU (.ref l) (.int n) st=some (.ref st.length,st++[.list (bZ n xs).flatten]):=by
 show(bF st l).bind _=_;rw[dC hl];exact if_pos ⟨h,by exact eu _,by exact ui (m3.mpr h2) (by decide)⟩
theorem Ly(xs J:List AV)(l m:Nat)(st:St)(hl:st[l]?=some (.list xs))(hm:st[m]?=some (.list J))(h:xs.length+J.length<=16777216):aX (.ref l) (.ref m) st=some (.ref st.length,st++[.list (xs++J)]):=by
 show(bF st l).bind _=_;rw[dC hl];show(bF st m).bind _=_;rw[dC hm];exact if_pos h
theorem sC(c k)(f:EM)(F:aj)(st:St):jq c k f F st=(f F st).bind λp=>(jk p.1 k p.2).bind λq=>q.2.bind λv=>if q.1=c/\handed v=true then some (v,p.2)else none:=rfl
theorem Hu{st:St}{l:Nat}{xs:List AV}(h:st[l]?=some (.list xs))(J:xs.length<=16777216):iw (.ref l) st=some (!xs.isEmpty):=by
 show(bF st l).bind _=_;rw[dC h];exact if_pos (by rw[sizeLine_eq];exact J)
theorem t_{c k:Nat}{a:AV}{st:St}(h:jk a k st=some (c,none)):f_ c k a st=some [a]:=by
 unfold f_;rw[h];exact if_pos ⟨rfl,rfl⟩
theorem Mj{c f k:Nat}{fe:EM}{F:aj}{st st':St}{a:AV}(e:fe F st=some (a,st'))(h:jk a k st'=some (c,none)):sO c f k fe F st=some (.ref st'.length,st'++[.bound (.ref f) a]):=by
 unfold sO;rw[e];refine Eq.trans (b:=(jk a k st').bind _) rfl ?_;rw[h];exact if_pos ⟨rfl,rfl⟩
noncomputable abbrev sD(x:List Nat):aB:=.str (T x)
noncomputable abbrev nD(n:Nat):aB:=.int (n:Int)
section
variable{W:List Nat}
theorem lj{o:AV->AV->St->Option (AV×St)}{a b:Int}{r:AV}{d:aB}(h:∀st:St,o (.int a) (.int b) st=some (r,st))(hr:∀st,RV W st r d):cO W o (.int a) (.int b) d:=λ_ _ _ bd J N=>by
 cases J.i';cases N.i'
 exact Ok.of (h _) ⟨.rfl',hr _⟩
theorem vI{o:AV->AV->St->Option (AV×St)}{a b:List Nat}{r:AV}{d:aB}(h:∀st:St,o (.str (T a)) (.str (T b)) st=some (r,st))(hr:∀st,RV W st r d):cO W o (sD a) (sD b) d:=λ_ _ _ bd J N=>by
 cases J.s';cases N.s'
 exact Ok.of (h _) ⟨.rfl',hr _⟩
theorem yx(a b:Int):cO W aX (.int a) (.int b) (.int (a+b)):=lj (λst=>rfl) λst=>.int _
theorem mv(a b:Nat):cO W aX (nD a) (nD b) (nD (a+b)):=yx a b
theorem Cz(a b:Int):cO W kl (.int a) (.int b) (.int (a -b)):=lj (λst=>rfl) λst=>.int _
theorem iW(a b:List Nat)(h:a.length+b.length<=16777216):cO W aX (sD a) (sD b) (sD (a++b)):=vI (λst=>L9 a b st h) λst=>.str _
theorem A5(a b:List Nat)(h:a.length+b.length<=16777216):cO W gO (sD a) (sD b) (sD (a++b)):=vI (λst=>zZ a b st h) λst=>.str _
theorem kI(a b:Nat)(h:b≠0):cO W oMod (nD a) (nD b) (nD (a%b)):=lj (λst=>Jh a b st h) λst=>.int _
theorem VG(a b:Int)(h:b≠0):cO W oMod (.int a) (.int b) (.int (a.fmod b)):=lj (λst=>ES a b st h) λst=>.int _
theorem lG(a b:Nat)(h:b≠0)(h2:b<1073741824):cO W oDiv (nD a) (nD b) (nD (a/b)):=lj (λst=>U9 a b st h h2) λst=>.int _
theorem pz(a b:Int):cO W oEq (.int a) (.int b) (.bool (a==b)):=lj (λst=>rfl) λst=>.bool _
theorem Wh(a b:Int):cO W c5 (.int a) (.int b) (.bool (!(a==b))):=lj (λst=>rfl) λst=>.bool _
theorem CA(a b:List Nat):cO W oEq (sD a) (sD b) (.bool (a==b)):=vI (λst=>nH a b st) λst=>.bool _
theorem Cx(a b:List Nat):cO W c5 (sD a) (sD b) (.bool (!(a==b))):=vI (λst=>by
 show some (AV.bool (!(T a==T b)),st)=_;rw[CU]) λst=>.bool _
theorem JD(a b:Int):cO W oLt (.int a) (.int b) (.bool (decide (a<b))):=lj (λst=>rfl) λst=>.bool _
theorem CW(a b:Int):cO W l8 (.int a) (.int b) (.bool (decide (b<a))):=lj (λst=>rfl) λst=>.bool _
theorem Py(a b:Bool):cO W sZ (.bool a) (.bool b) (.bool (!(a==b))):=λ_ _ _ bd J N=>by
 cases J.b';cases N.b'
 exact Ok.of (show sZ (.bool a) (.bool b) _=some (.bool (!(a==b)),_)from rfl) ⟨.rfl',.bool _⟩
theorem BM(c:Nat)(n:Nat)(h:n<=1000000):cO W cU (sD [c]) (nD n) (sD (bZ n c)):=λ_ _ _ bd J N=>by
 cases J.s';cases N.i'
 exact Ok.of (Mc c n _ h) ⟨.rfl',.str _⟩
theorem Sf(a b:Int)(h:(decide (fE a>shortFactorBits)&&decide (fE b>shortFactorBits)&&GV (fE a+fE b))=false):cO W cU (.int a) (.int b) (.int (a*b)):=lj (λst=>by
 show(if(decide (fE a>shortFactorBits)&&decide (fE b>shortFactorBits)&&GV (fE a+fE b))=false then some (AV.int (a*b),st)else none).or _=_;rw[if_pos h];rfl) λst=>.int _
theorem bits_le{x:Int}(h:x.natAbs<18446744073709551616):fE x<=64:=by
 unfold fE;split
 ·exact cJ _
 ·rename_i J
  have h0:x.natAbs≠0:=λe=>J (beq_iff_eq.mpr (Int.natAbs_eq_zero.mp e));exact(OL h0).mpr h
theorem oh(a b:Int)(h:a.natAbs<18446744073709551616):cO W cU (.int a) (.int b) (.int (a*b)):=Sf a b (by rw[show decide (fE a>shortFactorBits)=false from decide_eq_false (iH.mpr (bits_le h))];rfl)
theorem Uh(a b:Nat)(h:a<18446744073709551616):cO W cU (nD a) (nD b) (nD (a*b)):=oh a b h
theorem Vk(c:Nat)(x:List Nat):cO W ma (sD [c]) (sD x) (.bool (decide (c∈x))):=vI (λst=>Fg c x st) λst=>.bool _
theorem n5{ds es:List aB}(h:ds.length+es.length<=16777216):cO W aX (.list ds) (.list es) (.list (ds++es)):=λ_ _ _ bd O R=>by
 refine fF O.l' λl xs J n e r=>?_;subst J;refine fF R.l' λm S J Y U N=>?_;subst J;exact Ok.of (Ly xs S l m _ e U (by rw[r.len,N.len];exact h)) ⟨.app _,j_ bd (r.app N)⟩
theorem aR.rep{st:St}{xs:List AV}{ds:List aB}(r:aR W st xs ds):∀n,aR W st (bZ n xs).flatten (bZ n ds).flatten :=by
 intro n;induction n with
 |zero=>
  exact .nil
 |succ n J=>
  rw[sf,sf,gI,gI];exact r.app J
theorem So{ds:List aB}(n:Nat)(h:ds.length*n<=1000000)(h2:n<1000000):cO W cU (.list ds) (nD n) (.list (bZ n ds).flatten):=λ_ _ _ bd N O=>by
 refine fF N.l' λl xs J nn e r=>?_;subst J;cases O.i'
 exact Ok.of (K_ xs l n _ e (by rw[r.len];exact h) h2) ⟨.app _,j_ bd (r.rep n)⟩
theorem CR{o:AV->AV->St->Option (AV×St)}{a b r:aB}(h:∀st x y,Bd W st->RV W st x a->RV W st y b->∃v,o x y st=some (v,st)/\RV W st v r):cO W o a b r:=λ_ _ _ bd J N=>(h _ _ _ bd J N).elim λv q=>Ok.of q.1 ⟨.rfl',q.2⟩
theorem ei{ds:List aB}{d:aB}(i:Nat)(h:ds[i]?=some d)(hs:i<2^62):cO W kQ (.list ds) (nD i) d:=CR λst x y bd N O=>by
 refine fF N.l' λl xs J n e r=>?_;subst J;cases O.i'
 refine aG (r.get h) λx R S=>?_;exact⟨x,D1 xs l i x _ e R hs,S⟩
theorem TQ{ds:List aB}{d:aB}(i:Nat)(h:ds[ds.length -i]?=some d)(h0:1<=i)(h1:i<=ds.length)(hs:i<2^62):cO W kQ (.list ds) (.int (-(i:Int))) d:=CR λst x y bd N O=>by
 refine fF N.l' λl xs J n e r=>?_;subst J;cases O.i'
 rw[<-r.len]at h h1;refine aG (r.get h) λx R S=>?_;exact⟨x,tW xs l i x _ e R h0 h1 hs,S⟩
theorem FA{x:List Nat}{c:Nat}(i:Nat)(h:x[i]?=some c)(hs:i<2^62):cO W kQ (sD x) (nD i) (sD [c]):=CR λst _ y bd J N=>by
 cases J.s';cases N.i'
 exact⟨_,Lm x i c _ h hs,.str _⟩
theorem CL{a b:aB}(O:a.depth<=4/\b.depth<=4)(hs:jE a=true/\jE b=true)(ht:(∃ds,a=.list ds)\/∃ds,a=.tuple ds):cO W oEq a b (.bool (c6 a b)):=λst x y bd J R=>by
 refine Ok.of (a:=(.bool (c6 a b),st)) ?_ ⟨.rfl',.bool _⟩;show(tv x y st).map _=_;have S:∃l,x=.ref l:=by
  rcases ht with⟨ds,rfl⟩|⟨ds,rfl⟩
  ·exact J.l'.imp λl q=>q.elim λ_ q=>q.1
  ·exact J.t'.imp λl q=>q.elim λ_ q=>q.1
 refine bO S λl N=>?_;subst N;rw[show tv (.ref l) y st=some (c6 a b) by
  show Cs _ _ _=_;unfold Cs;rw[J.rd 4 O.1];show(e_ st 4 y).bind _=_;rw[R.rd 4 O.2];exact if_pos (by rw[hs.1,hs.2];rfl)]
 rfl
theorem yp{a b:aB}(N:a.depth<=4/\b.depth<=4)(hs:jE a=true/\jE b=true)(ht:(∃ds,a=.list ds)\/∃ds,a=.tuple ds):cO W c5 a b (.bool (!c6 a b)):=λst x y bd O R=>by
 have h:=CL N hs ht _ _ _ bd O R;refine di h.get λJ e k r=>?_;obtain⟨v,s⟩:=J;refine aG (vT e) λc S U=>?_;cases U
 have:=r.b';cases this
 exact Ok.of (show c5 x y st=some (.bool (!c6 a b),st) by show(tv x y st).map _=_;rw[S];rfl) ⟨.rfl',.bool _⟩
theorem I_{d:aB}{ds:List aB}(J:d.depth<=3/\dW ds<=3)(hs:eA ds=true/\d.canLay0=true)(S:∀st x,RV W st x d->x.s?.bind (λy=>AV.s? (.ref 0)|>.map λz=>true)=none):cO W ma d (.list ds) (.bool (ds.any λy=>c6 y d)):=λst x y bd O R=>by
 refine fF R.l' λl xs N n e r=>?_;subst N;refine Ok.of (a:=(.bool (ds.any λy=>c6 y d),st)) ?_ ⟨.rfl',.bool _⟩;show(vQ x (.ref l) st).map _=_;rw[show vQ x (.ref l) st=some (ds.any λy=>c6 y d) by
  show(x.s?.bind λy=>none).or (Ds x (.ref l) st)=_;rw[show(x.s?.bind λy=>(none:Option Bool))=none by cases x.s?<;>rfl];show(bF st l).bind _=_;rw[dC e];show(xs.mapM (e_ st 3)).bind _=_;rw[r.rd 3 J.2];show(e_ st 3 x).bind _=_;rw[O.rd 3 J.1];exact if_pos (by rw[hs.1,hs.2,decide_eq_true (aw J.2 (by decide))];rfl)]
 rfl
theorem Nh{d:aB}{ds:List aB}(N:d.depth<=3/\dW ds<=3)(hs:eA ds=true/\d.canLay0=true):cO W mC d (.list ds) (.bool (!ds.any λy=>c6 y d)):=λst x y bd O R=>by
 have h:=I_ N hs (λ_ x _=>by cases x.s?<;>rfl) _ _ _ bd O R;refine di h.get λJ e k r=>?_;obtain⟨v,s⟩:=J;refine aG (vT e) λc S U=>?_;cases U
 have:=r.b';cases this
 exact Ok.of (show mC x y st=some (.bool (!ds.any λy=>c6 y d),st) by show(vQ x y st).map _=_;rw[S];rfl) ⟨.rfl',.bool _⟩
theorem yo{x:ae}:zA W jr (.str x):=λ_ _ r=>by cases r.s';exact Ok.of (qE x _) rfl
theorem T8{ds:List aB}:zA W ek (.list ds):=λ_ _ r=>by
 refine fF r.l' λl xs J n e r=>?_;subst J;exact Ok.of (nF xs l _ e) rfl
theorem UC{ds:List aB}:zA W vA (.tuple ds):=λst x r=>by
 refine fF r.t' λl xs J n e r=>?_;subst J;exact Ok.of (show vA (.ref l) st=some [.ref l] by
  show(eo st l).map _=_;rw[kO e];rfl) rfl
theorem tu{g:List AV->St->Option (AV×St)}{d r:aB}(h:∀st x,Bd W st->RV W st x d->Ok (g [x] st) λc=>aN [] st c.2/\RV W c.2 c.1 r):iz W g [d] r:=λ_ _ bd rs=>by
 cases rs with
 |cons a b=>cases b;exact h _ _ bd a
theorem y7{g:List AV->St->Option (AV×St)}{d e r:aB}(h:∀st x y,Bd W st->RV W st x d->RV W st y e->Ok (g [x,y] st) λc=>aN [] st c.2/\RV W c.2 c.1 r):iz W g [d,e] r:=λ_ _ bd rs=>by
 cases rs with
 |cons a b=>
  cases b with
  |cons J b=>cases b;exact h _ _ _ bd a J
theorem HR(x:List Nat)(h:x.length<=16777216):iz W iv [sD x] (nD x.length):=tu λ_ _ bd r=>by cases r.s';exact Ok.of (uc x _ h) ⟨.rfl',.int _⟩
theorem aR.ints{st:St}:∀{ns:List Int}{xs:List AV},aR W st xs (ns.map .int)->xs=ns.map .int
 |[],_,h=>by cases h;rfl
 |n::ns,_,h=>by
  cases h with
  |cons a b=>rw[a.i',b.ints];rfl
theorem aR.strs{st:St}:∀{ts:List (List Nat)}{xs:List AV},aR W st xs (ts.map sD)->xs=ts.map λt=>.str (T t)
 |[],_,h=>by cases h;rfl
 |n::ns,_,h=>by
  cases h with
  |cons a b=>rw[a.s',b.strs];rfl
theorem L0(l:List Int):intsOf (l.map .int)=some l:=by
 induction l with
 |nil=>rfl
 |cons a l J=>
  show(some a).bind (λi=>(intsOf (l.map .int)).map (i::·))=_;rw[J];rfl
theorem sR{ns:List Int}:iz W fP [.list (ns.map .int)] (.int ns.sum):=tu λst x bd r=>by
 obtain⟨l,xs,rfl,n,e,r⟩:=r.l';rw[r.ints]at e;refine Ok.of (a:=(.int ns.sum,st)) ?_ ⟨.rfl',.int _⟩;show(bF st l).bind _=_;rw[dC e];show(intsOf (ns.map .int)).map _=_;rw[L0];rfl
theorem Vz(c:Nat):iz W vM [sD [c]] (nD c):=tu λst x bd r=>by
 cases r.s'
 refine Ok.of (a:=(.int (c:Nat),st)) ?_ ⟨.rfl',.int _⟩;show(if(T [c]).length =1 then some (AV.int ((T [c]).cps.getD 0 0:Nat),st)else none)=_;exact if_pos rfl
theorem Ck(c:Nat)(h:c<1114112):iz W tC [nD c] (sD [c]):=tu λ_ _ bd r=>by cases r.i';exact Ok.of (W5 c _ h) ⟨.rfl',.str _⟩
theorem yf{ts:List (List Nat)}(h:ts.flatten.length<=16777216):iz W qS [sD [],.list (ts.map sD)] (sD ts.flatten):=y7 λ_ _ _ bd r N=>by
 cases r.s'
 refine fF N.l' λl xs J n e q=>?_;subst J;rw[q.strs]at e;exact Ok.of (Vh ts l _ e h) ⟨.rfl',.str _⟩
theorem RH{ds:List aB}(h:ds.length<=16777216):iz W yE [.tuple ds] (.list ds):=tu λst x bd r=>by
 obtain⟨l,xs,rfl,n,e,r⟩:=r.t';refine Ok.of (a:=(.ref st.length,st++[.list xs])) ?_ ⟨.app _,j_ bd r⟩;show(eo st l).bind _=_;rw[kO e];exact if_pos (by rw[r.len];exact h)
theorem aR.drop'{st:St}{xs:List AV}{ds:List aB}(h:aR W st xs ds):∀n,aR W st (xs.drop n) (ds.drop n):=by
 induction xs generalizing ds with
 |nil=>cases h;intro n;rw[NH,NH];exact .nil
 |cons y N J=>
  intro n;cases h with
  |cons a b=>
   cases n with
   |zero=>exact .cons a b
   |succ n=>exact J b n
theorem aR.take'{st:St}{xs:List AV}{ds:List aB}(h:aR W st xs ds):∀n,aR W st (xs.take n) (ds.take n):=by
 induction xs generalizing ds with
 |nil=>cases h;intro n;rw[Ap,Ap];exact .nil
 |cons y N J=>
  intro n;cases h with
  |cons a b=>
   cases n with
   |zero=>exact .nil
   |succ n=>exact .cons a (J b n)
theorem aR.rev{st:St}{xs:List AV}{ds:List aB}(h:aR W st xs ds):aR W st xs.reverse ds.reverse:=by
 induction xs generalizing ds with
 |nil=>cases h;exact .nil
 |cons y N J=>
  cases h with
  |cons a b=>rw[A3,A3];exact(J b).app (.cons a .nil)
theorem zb{ds es:List aB}{i j k:Option Int}(h:ds.length<=16777216)(hk:k≠some 0)(J:∀{st xs},aR W st xs ds->aR W st (pick xs i j k) es):q8 W (.list ds) i j k (.list es):=λst x bd r=>by
 obtain⟨l,xs,rfl,n,e,r⟩:=r.l';exact Ok.of (Kx xs l i j k st e (by rw[r.len];exact h) hk) ⟨.app _,j_ bd (J r)⟩
theorem yU{ds:List aB}(n:Nat)(h:ds.length<=16777216):q8 W (.list ds) none (some (n:Int)) none (.list (ds.take n)):=zb h (by decide) λr=>by rw[Tt];exact r.take' n
theorem qG{ds:List aB}(n:Nat)(h:ds.length<=16777216):q8 W (.list ds) (some (n:Int)) none none (.list (ds.drop n)):=zb h (by decide) λr=>by rw[pick_from];exact r.drop' n
theorem UW{ds:List aB}(h:ds.length<=16777216):q8 W (.list ds) none none (some (-1)) (.list ds.reverse):=zb h (by decide) λr=>by rw[NJ];exact r.rev
end
end Mine
namespace Mine
open PySem PyProof.Rows PySem.W
inductive Out where
 |next (G:Gm)
 |cont (G:Gm)
 |ret (d:aB)
noncomputable def XJ(W:List Nat)(o:Out)(q:Fl×aj×St):Prop:=Out.casesOn o (λG=>q.1=.next /\GR W G q.2.1 q.2.2) (λG=>q.1=.cont /\GR W G q.2.1 q.2.2) λd=>∃v,q.1=.ret v/\RV W q.2.2 v d
noncomputable def Sg(W:List Nat)(G:Gm)(f:SM)(o:Out):Prop:=∀(F:aj)(st:St),GR W G F st->Ok (f F st) λq=>aN [] st q.2.2/\XJ W o q
section
variable{W:List Nat}{G G1 G2:Gm}{o:Out}
theorem fR{k:Nat}{f:EM}{p:Vl}(h:Ev W G f p):Sg W G (bj k f) (.next (G.put k p)):=λ_ _ N=>Ok.fJ ((h _ _ N).mono λq J=>⟨J.1,rfl,(N.cZ J.1).put J.2⟩)
theorem CM{k:Nat}{op:AV->AV->St->Option (AV×St)}{f:EM}{a b r:aB}(hk:G k=some (.d a))(h:bh W G f b)(ho:cO W op a b r):Sg W G (eS k op f) (.next (G.put k (.d r))):=λ_ _ N=>
 Ok.bind' ((N.at' k _ hk).mono λx O=>Ok.bind' ((h _ _ N).mono λq J=>Ok.fJ ((ho _ _ _ (N.bd.keep J.1) (RV.keep J.1.any O) J.2).mono λc hc=>⟨J.1.trans hc.1,rfl,((N.cZ J.1).cZ hc.1).put (p:=.d r) hc.2⟩)))
theorem uZ{f:EM}{d:aB}(h:bh W G f d):Sg W G (cy f) (.ret d):=λ_ _ N=>Ok.fJ ((h _ _ N).mono λq J=>⟨J.1,_,rfl,J.2⟩)
theorem Cn:Sg W G aC (.next G):=λ_ _ J=>⟨.rfl',rfl,J⟩
theorem oi{f g:SM}(h:Sg W G f (.next G1))(h2:Sg W G1 g o):Sg W G (ao f g) o:=λ_ _ O=>Ok.bind' ((h _ _ O).mono λq J=>by
 obtain⟨fl,F,st⟩:=q;refine dc J λk N g1=>?_;subst N;exact(h2 _ _ g1).mono λq J=>⟨k.trans J.1,J.2⟩)
theorem AR{f g:SM}{d:aB}(h:Sg W G f (.ret d)):Sg W G (ao f g) (.ret d):=λ_ _ J=>Ok.bind' ((h _ _ J).mono λq N=>by
 obtain⟨fl,F,st⟩:=q;obtain⟨k,v,rfl,r⟩:=N;exact⟨k,v,rfl,r⟩)
theorem mz{f:SM}(h:Sg W G f o):Sg W G (ao f aC) o:=λ_ _ N=>Ok.bind' ((h _ _ N).mono λq J=>by
 obtain⟨fl,F,st⟩:=q;cases fl with
 |next=>exact J
 |brk=>exact J
 |cont=>exact J
 |ret v=>exact J)
theorem te{t:aj->St->Option (Bool×St)}{f g:SM}{b:Bool}(ht:fb W G t b)(h1:b=true->Sg W G f o)(h2:b=false->Sg W G g o):Sg W G (cn t f g) o:=λ_ _ N=>Ok.bind' ((ht _ _ N).mono λq J=>by
 obtain⟨c,u⟩:=q;obtain⟨rfl,k⟩:=J;cases c with
 |true=>exact(h1 rfl _ _ (N.cZ k)).mono λq J=>⟨k.trans J.1,J.2⟩
 |false=>exact(h2 rfl _ _ (N.cZ k)).mono λq J=>⟨k.trans J.1,J.2⟩)
theorem S9{j k:Nat}{fa}{a b:aB}(O:jv W G fa [a,b]):Sg W G (pG [j,k] fa) (.next ((G.put k (.d b)).put j (.d a))):=λ_ _ J=>Ok.bind' ((O _ _ J).mono λq R=>by
 obtain⟨xs,st⟩:=q;obtain⟨N,r⟩:=R;cases r with
 |cons S r=>
  cases r with
  |cons U r=>
   cases r
   exact⟨N,rfl,((J.cZ N).put (p:=.d b) U).put (p:=.d a) S⟩)
theorem FL{j k:Nat}{fa}{a b:aB}(O:jv W G fa [a,b]):Sg W G (v3 [j,k] fa) (.next ((G.put j (.d a)).put k (.d b))):=λ_ _ J=>Ok.bind' ((O _ _ J).mono λq R=>by
 obtain⟨xs,st⟩:=q;obtain⟨N,r⟩:=R;cases r with
 |cons S r=>
  cases r with
  |cons U r=>
   cases r
   exact⟨N,rfl,((J.cZ N).put (p:=.d a) S).put (p:=.d b) U⟩)
theorem Lf{j k:Nat}{f:EM}{a b:aB}(h:bh W G f (.tuple [a,b])):Sg W G (Cf [j,k] f) (.next ((G.put j (.d a)).put k (.d b))):=λ_ _ J=>Ok.bind' ((h _ _ J).mono λq O=>by
 obtain⟨v,st⟩:=q;obtain⟨N,r⟩:=O;obtain⟨l,xs,rfl,n,e,r⟩:=(show RV W st v (.tuple [a,b])from r).t';refine Ok.fJ ?_;show Ok ((eo st l).bind _) _;rw[kO e];cases r with
 |cons R r=>
  cases r with
  |cons S r=>
   cases r
   exact⟨N,rfl,((J.cZ N).put (p:=.d a) R).put (p:=.d b) S⟩)
theorem Ir{t:aj->St->Option (Bool×St)}{b:SM}{n:Nat}(ht:fb W G t true)(hb:Sg W G b (.next G1))(h:Sg W G1 (lL t b n) o):Sg W G (lL t b (n+1)) o:=λ_ _ N=>Ok.bind' ((ht _ _ N).mono λq J=>by
 obtain⟨c,u⟩:=q;obtain⟨rfl,k⟩:=J;refine Ok.bind' ((hb _ _ (N.cZ k)).mono λq J=>?_);obtain⟨fl,F,st⟩:=q;obtain⟨O,rfl,g1⟩:=J;exact(h _ _ g1).mono λq J=>⟨(k.trans O).trans J.1,J.2⟩)
theorem TJ{t:aj->St->Option (Bool×St)}{b:SM}{n:Nat}(ht:fb W G t false):Sg W G (lL t b (n+1)) (.next G):=λ_ _ J=>Ok.bind' ((ht _ _ J).mono λq N=>by
 obtain⟨c,u⟩:=q;obtain⟨rfl,k⟩:=N;exact⟨k,rfl,J.cZ k⟩)
end
inductive pX:b7->Ai->Gm->Gm->Prop
 |one {k:Nat} {d:aB} {G:Gm}:pX (.name k) (.one d) G (G.put k (.d d))
 |two {j k:Nat} {a b:aB} {G:Gm}:pX (.names [j,k]) (.two a b) G ((G.put j (.d a)).put k (.d b))
 |vJ {i j k:Nat} {a b c:aB} {G:Gm}:pX (.names [i,j,k]) (.one (.tuple [a,b,c])) G (((G.put i (.d a)).put j (.d b)).put k (.d c))
theorem pX.ok{W:List Nat}{tg:b7}{a:Ai}{G G':Gm}(h:pX tg a G G'){F:aj}{st:St}{item:Item}(s:qW W st item a)(g:GR W G F st):Ok (tg.bind item F st) λF1=>GR W G' F1 st:=by
 cases h with
 |one=>
  cases s with
  |one r=>exact g.put (p:=.d _) r
 |two=>
  cases s with
  |two r N=>exact(g.put (p:=.d _) r).put (p:=.d _) N
 |vJ=>
  cases s with
  |one r=>
   obtain⟨l,xs,rfl,n,e,r⟩:=r.t';show Ok ((eo st l).bind _) _;rw[kO e];cases r with
   |cons a b=>
    cases b with
    |cons O b=>
     cases b with
     |cons J b=>
      cases b
      exact((g.put (p:=.d _) a).put (p:=.d _) O).put (p:=.d _) J
section
variable{W:List Nat}
theorem I0{tg:b7}{b:SM}{P:Fl×aj×St->Prop}(I:List Ai->aj->St->Prop):
 ∀(as:List Ai)(n:Nat){it:It}{F:aj}{st:St},as.length<n->Yl W tg as st it->I as F st->
 (∀a as F st,I (a::as) F st->∀item,qW W st item a->Ok (tg.bind item F st) λF1=>Ok (b F1 st) λq=>(q.1=.next \/q.1=.cont)/\aN W st q.2.2/\I as q.2.1 q.2.2)->
 (∀F st,I [] F st->P (.next,F,st))->Ok (cA tg b n it F st) P:=by
 intro as;induction as with
 |nil=>
  intro n it F st J Y h hs hf;cases n with
  |zero=>exact absurd J (gk _)
  |succ n=>
   rw[wH Y.1 (Y.2 st .rfl')];exact hf F st h
 |cons a as N=>
  intro n it F st J Y h hs hf;cases n with
  |zero=>exact absurd J (gk _)
  |succ n=>
   refine fH (Y.2 st .rfl') λitem gT e s O=>?_;refine aG ((hs a as F st h item s).get) λF1 R h1=>?_;rw[nE Y.1 e R];refine Ok.bind' (h1.mono λq S=>?_);obtain⟨fl,F2,bI⟩:=q;obtain⟨z,k,hI⟩:=S;rcases z with z|z
   ·cases(show fl=.next from z)
    exact N n (mZ J) (O.keep k) hI hs hf
   ·cases(show fl=.cont from z)
    exact N n (mZ J) (O.keep k) hI hs hf
theorem yH{G:Gm}{tg:b7}{fi}{b:SM}{as:List Ai}(J:List Ai->Gm)(hi:fc W G tg fi as)(h0:J as=G)(hl:as.length<400)(hs:∀a r,a::r<:+ as->∃G1,pX tg a (J (a::r)) G1/\Sg W G1 b (.next (J r))):
 Sg W G (λF st=>(fi F st).bind λp=>cA tg b 400 p.1 F p.2) (.next (J [])):=λF st O=>Ok.bind' ((hi _ _ O).mono λp R=>by
 let it:=p.1;let st1:=p.2;let S:=R.1;let Y:=R.2;refine I0 (W:=W) (λr F st'=>r<:+ as/\aN [] st st'/\GR W (J r) F st') as 400 hl Y ⟨List.suffix_refl _,S,h0▸O.cZ S⟩ (λa r F st' h item s=>?_) λF st' h=>⟨h.2.1,rfl,h.2.2⟩;refine dc h λhr k g=>?_;refine aG (hs a r hr) λG1 hB U=>?_;refine(hB.ok s g).mono λF1 g1=>(U _ _ g1).mono λq N=>⟨.inl N.2.1,N.1.any,(List.suffix_cons ..).trans hr,k.trans N.1,N.2.2⟩)
noncomputable def Gz:List Nat->List aB->Gm
 |k::ks,d::ds=>λj=>if j=k then some (.d d)else Gz ks ds j
 |_,_=>λ_=>none
theorem JL{st:St}(bd:Bd W st):∀{ks:List Nat}{xs:List AV}{ds:List aB},aR W st xs ds->ks.length=ds.length->GR W (Gz ks ds) (ks.zip xs) st
 |[],_,_,h,e=>⟨bd,λj p q=>by cases q⟩
 |k::ks,_,[],h,e=>by cases e
 |k::ks,_,d::ds,h,e=>by
  cases h with
  |cons a b=>
   have J:=JL bd b (uw e);refine⟨bd,λj p q=>?_⟩;rw[kC,eN];replace q:(if j=k then some (.d d)else Gz ks ds j)=some p:=q;by_cases z:j=k
   ·rw[if_pos z]at q
    cases q
    rw[beq_iff_eq.mpr z];exact a
   ·rw[if_neg z]at q
    rw[beq_false_of_ne z];exact J.at' j p q
theorem Cy{ks:List Nat}{f:SM}{ds:List aB}{d:aB}(hk:ks.length=ds.length)(h:Sg W (Gz ks ds) f (.ret d)):iz W (bG ks f) ds d:=λst xs bd r=>by
 rw[so _ _ _ _ (by rw[hk,r.len])];refine Ok.bind' ((h _ _ (JL bd r hk)).mono λq N=>?_);obtain⟨fl,F,st⟩:=q;refine tj N λk v J r=>?_;subst J;exact⟨k,r⟩
end
open PySem.Builtin PySem.Builtin.Str
section
variable{W:List Nat}{G:Gm}
theorem dh{s:ae}{x:List Nat}(h:s=T x):bh W G (xk (.str s)) (sD x):=h▸WD _
theorem aW(n:Nat):bh W G (xk (.int (n:Int))) (nD n):=gL _
noncomputable def dT(set:List Nat)(c:Nat):List Nat:=if c∈set then[92,c]else[c]
noncomputable def jy(x:List Nat)(kind:Nat):List Nat:=
 if kind=1 then[34]++(x.map (dT [34,92])).flatten ++[34]
 else(if kind=2\/x.headD 0=34 then[92,x.headD 0]else dT [92,32] (x.headD 0))++((x.drop 1).map (dT [92,32])).flatten
theorem B5(set:List Nat)(c:Nat):(dT set c).length <=2:=by unfold dT;split;exact a6 2;exact oR 1
theorem wW(set:List Nat)(x:List Nat):(x.map (dT set)).flatten.length <=2*x.length:=by
 induction x with
 |nil=>exact a6 _
 |cons c x J=>
  have:=B5 set c;rw[bX,gI,aP,dH];exact aw (fV this J) (bS (gH ..))
theorem Hp{set x:List Nat}{lit:ae}(J:lit=T set)(N:x.length<400)(O:G 14=some (.d (sD x))):
 bh W G (bl [] (bL (aa 14)) (.name 17) bw (a_ (gf (aT ma (aa 17) (xk (.str lit))) (ay aX (xk (.str ("\\":ae))) (aa 17)) (aa 17))) 400) (.list ((x.map (dT set)).map sD)):=by
 rw[br];refine fD (mk:=λc=>.one (.str (T [c]))) (h:=sD∘dT set) (TS (az O)) N λc hc=>⟨_,.one rfl,?_⟩;refine qJ (d6 (az rfl) (dh J) (Vk c set)) (λh=>?_) λh=>?_
 ·rw[OG,dT,if_pos (of_decide_eq_true h)]
  exact aM (dh pS) (az rfl) (iW [92] [c] (show 2<=16777216 by decide))
 ·rw[OG,dT,if_neg (of_decide_eq_false h)]
  exact az rfl
theorem Ln{x:List Nat}{kind:Nat}(J:1<=x.length/\x.length<400):iz W (bG [14,15] tT) [sD x,nD kind] (sD (jy x kind)):=by
 have cast:∀b:Nat,(((kind:Nat):Int)==((b:Nat):Int))=decide (kind=b):=λb=>qv.mpr (by rw[beq_iff_eq,decide_eq_true_iff];exact OB);have l1:=wW [34,92] x;refine Cy (ks:=[14,15]) (ds:=[sD x,nD kind]) rfl ?_;by_cases hk:kind=1
 ·refine AR (te (d6 (az rfl) (aW 1) (pz _ _)) (λ_=>AR (uZ ?_)) λh=>by rw[cast 1,decide_eq_true hk]at h;cases h)
  rw[jy,if_pos hk];exact aM (aM (dh v5) (sr (dh lU) yo (aE (Hp XK J.2 rfl) be) (yf (by exact dbl l1 J.2 (by decide)))) (iW _ _ (by exact dx (a6 1) (dbl l1 J.2 (a6 _)) (by decide)))) (dh v5) (iW _ _ (by rw[aP,gZ];exact dx (dx (a6 1) (dbl l1 J.2 (a6 _)) (a6 _)) (a6 1) (by decide)))
 ·refine oi (te (o:=.next _) (d6 (az rfl) (aW 1) (pz _ _)) (λh=>by rw[cast 1,decide_eq_false hk]at h;cases h) λ_=>Cn) ?_
  refine oi (fR (Hp XI J.2 rfl)) (mz (uZ ?_));rw[jy,if_neg hk];cases x with
  |nil=>exact absurd J.1 (by decide)
  |cons c r=>
   have l2:=wW [92,32] r;have hl:r.length<400:=Bt J.2;have it:∀G:Gm,G 14=some (.d (sD (c::r)))->bh W G (aH (aa 14) (xk (.int 0))) (sD [c]):=λG h=>aM (az h) (aW 0) (FA (x:=c::r) 0 rfl (by decide));have hd:(c::r).headD 0=c:=rfl;rw[hd];refine aM (a:=sD (if kind=2\/c=34 then[92,c]else dT [92,32] c)) (b:=sD (r.map (dT [92,32])).flatten) (qJ (b:=decide (kind=2)||(([c]:List Nat)==[34]||false)) (sU (d6 (az rfl) (aW 2) (cast 2▸pz _ _)) λ_=>sU (d6 (it _ rfl) (dh v5) (CA _ _)) λ_=>uD) (λh=>?_) λh=>?_) (sr (dh lU) yo (aE (iT (az rfl) (fT (aW 1)) dR dR (qG 1 (by rw[aQ,aQ];exact aw (cq J.2) (by decide)))) be) (yf (ts:=r.map (dT [92,32])) (by exact dbl l2 hl (by decide)))) (iW _ _ ?_)
   ·have:kind=2\/c=34:=by simpa using h
    rw[if_pos this];exact aM (dh pS) (it _ rfl) (iW [92] [c] (show 2<=16777216 by decide))
   ·have:¬(kind=2\/c=34):=by
     intro z
     have:(decide (kind=2)||(([c]:List Nat)==[34]||false))=true:=by simpa using z
     rw[this]at h;cases h
    rw[if_neg this];exact aM (az rfl) (aW 0) (ei (ds:=((c::r).map (dT [92,32])).map sD) 0 rfl (by decide))
   ·have:=B5 [92,32] c
    split
    ·rw[dH,gZ];exact dx (a6 2) (dbl l2 hl (a6 _)) (by decide)
    ·exact dx this (dbl l2 hl (a6 _)) (by decide)
end
noncomputable def dig(N:Nat):List Nat:=if N<64 then[]else if N<4096 then[N/64]else if N<262144 then[N/64%64,N/4096]else[N/64%64,N/4096%64,N/262144]
noncomputable def more(f:Nat):Nat:=64+f/2*128
noncomputable def dD(N f:Nat):List Nat:=bZ (f%2) (more f)++((dig N).map (more f+·)).reverse ++[128+N%64]
theorem Cp{N:Nat}(h:N<16777216):∀d∈dig N,d<64:=by
 intro d hd;unfold dig at hd;split at hd
 ·simp at hd
 ·split at hd
  ·simp at hd;exact hd▸rO ‹N<4096›
  ·have m:=λx=>cE x (y:=64) (by decide)
   split at hd
   ·simp at hd;exact hd.elim (λe=>e▸m _) λe=>e▸rO ‹N<262144›
   ·simp at hd;exact hd.elim (λe=>e▸m _) λe=>e.elim (λe=>e▸m _) λe=>e▸rO h
theorem BF(N:Nat):(dig N).length <=3:=by unfold dig;split<;>(try split)<;>(try split)<;>simp
theorem Xy(j:Nat)(h:j<4)(st:St):jb (.int 64) (.int j) st=some (.int ((64^j:Nat):Int),st):=by
 have:j=0\/j=1\/j=2\/j=3:=by exact yG h
 rcases this with rfl|rfl|rfl|rfl<;>rfl
theorem vD:∀m∈[64,192,128],∀d:Nat,d<64->gY ((m+d:Nat):Int) 63=(d:Nat):=by decide+kernel
theorem CT:∀m∈[64,192],∀d:Nat,d<64->gY ((m+d:Nat):Int) 64=64:=by decide+kernel
theorem I7:∀d:Nat,d<64->gY ((128+d:Nat):Int) 64=0:=by decide+kernel
theorem EP(a b:Nat):AG (a:Int) (b:Int)=((a||| b:Nat):Int):=by
 unfold AG gY;have J:¬(0<=rY (a:Int)):=by unfold rY;exact uh.mpr (NL (FN (eu _)))
 have hb:¬(0<=rY (b:Int)):=by unfold rY;exact uh.mpr (NL (FN (eu _)))
 have na:∀i:Int,rY (rY i)=i:=by intro i;unfold rY;lia
 simp[J,hb,na]
theorem FP(a d:Nat)(h:d<64):a*64||| d=a*64+d:=by
 have:=Nat.shiftLeft_add_eq_or_of_lt (i:=6) h a;rw[Nat.shiftLeft_eq]at this;exact this.symm
theorem CZ(v:Nat)(st:St)(h:v<=16777216):nt (.int v) (.int 6) st=some (.int ((v*64:Nat):Int),st):=by
 unfold nt nj;rw[mE,bo,mE,bo];show lD _ (if(0:Int)<=6/\(fE (v:Int):Int)+6<=2^27 then _ else none)=_;have hb:fE (v:Int)<=64:=by
  unfold fE;split
  ·exact cJ _
  ·rename_i h0
   have:v≠0:=by intro e;subst e;simp at h0
   have J:v<2^25:=by exact bQ h (by decide)
   have:=(OL this (k:=25)).mpr J;simp;exact cq (cK this (by decide))
 rw[if_pos ⟨by decide,by exact qu (Bp (lF.mpr hb) 6) (by decide)⟩];simp
theorem yw(st:St)(it l i:Nat)(xs:List AV)(v:AV)(hl:st[l]?=some (.list xs))(hi:st[it]?=some (.c_ l i))(hv:xs[i]?=some v):mI [.ref it] st=some (v,st.set it (.c_ l (i+1))):=by
 show(st[it]?).bind _=_;rw[hi];show(bF st l).bind _=_;rw[dC hl];show(xs[i]?).map _=_;rw[hv];rfl
noncomputable def ja(ds:List Nat)(v:Nat):Nat:=ds.foldl (λv d=>v*64+d) v
theorem Ii:∀(ds:List Nat)(v:Nat),v<=ja ds v:=by
 intro ds;induction ds with
 |nil=>
  intro v;exact a6 _
 |cons d ds J=>
  intro v;have:=J (v*64+d);show v<=ja ds (v*64+d);exact aw (aw (Nat.le_mul_of_pos_right v (by decide)) (c8 _ d)) this
theorem pq(x y:Int)(st:St):oz (.int x) (.int y) st=some (.int (gY x y),st):=rfl
theorem Jy(x y:Int)(st:St):zB (.int x) (.int y) st=some (.int (AG x y),st):=rfl
theorem OK(m:Nat)(hm:m∈[64,192])(it l:Nat)(xs rest:List AV)(J:Nat)(O:J<64):∀(hs:List Nat)(fuel i v c:Nat)(F:aj)(st:St),hs.length+2<=fuel->ja (hs++[J]) v<=16777216->c<64->(∀d∈hs,d<64)->
 it≠l->st[l]?=some (.list xs)->st[it]?=some (.c_ l i)->xs.drop i=((hs.map (m+·))++[128+J]).map (λb:Nat=>AV.int b)++rest->F.lookup 5=some (.ref it)->F.lookup 7=some (.int (m+c:Nat))->F.lookup 6=some (.int v)->
 ∃F',lL (kn iw (ay oz (aa 7) (xk (.int 64)))) (ao (eS 6 nt (xk (.int 6))) (ao (bj 7 (bK mI (ab (aa 5) ag))) (ao (eS 6 zB (ay oz (aa 7) (xk (.int 63)))) aC))) fuel F st=
  some (.next,F',st.set it (.c_ l (i+hs.length+1)))/\F'.lookup 6=some (.int (ja (hs++[J]) v:Nat)):=by
 intro hs;induction hs with
 |nil=>
  intro fuel i v c F st hf hv hc hd R hl hi hx h5 h7 h6;obtain⟨k,rfl⟩:∃k,fuel=k+2:=⟨fuel -2,by exact(qd hf).symm⟩;have S:xs[i]?=some (.int ((128+J:Nat):Int)):=by rw[<-lE,hx];rfl
  have hn:=yw st it l i xs _ hl hi S;have U:=CZ v st (by have:=Ii ([]++[J]) v;exact aw this hv);have q1:∀(F:aj)(b:AV),((F.put 6 b).put 7 (.int ((128+J:Nat):Int))).lookup 6=some b:=λF b=>by rw[bW _ _ _ _ (by decide),cX]
  refine⟨((F.put 6 (.int ((v*64:Nat):Int))).put 7 (.int ((128+J:Nat):Int))).put 6 (.int ((v*64+J:Nat):Int)),?_,?_⟩
  ·rw[xJ]
   simp(implicitDefEqProofs:=false)only[lK,d7,bP,cT,h7,bz,bo,pq,CT m hm c hc,wJ];rw[if_pos (by decide)];simp(implicitDefEqProofs:=false)only[cM,pB,cT,h6,U,bz,bo,gF,j5,eK,bP,dJ,bW _ 6 _ 5 (by decide),h5,hn,q1,cX,d7,pq,vD 128 (by decide) J O,Jy,EP,FP v J O,ig,D9];rw[xJ];have q2:(((F.put 6 (.int ((v*64:Nat):Int))).put 7 (.int ((128+J:Nat):Int))).put 6 (.int ((v*64+J:Nat):Int))).lookup 7=some (.int ((128+J:Nat):Int)):=by rw[bW _ _ _ _ (by decide),cX]
   simp(implicitDefEqProofs:=false)only[lK,d7,bP,cT,q2,bz,bo,pq,I7 J O,wJ];rw[if_neg (by decide)];rfl
  ·rw[cX];rfl
 |cons h hs ih=>
  intro fuel i v c F st hf hv hc hd R hl hi hx h5 h7 h6;obtain⟨k,rfl⟩:∃k,fuel=k+1:=⟨fuel -1,by simp at hf;exact(Nat.succ_pred_eq_of_pos (cK (uk _) hf)).symm⟩;have N:h<64:=hd h (cj ..);have S:xs[i]?=some (.int ((m+h:Nat):Int)):=by rw[<-lE,hx];rfl
  have hn:=yw st it l i xs _ hl hi S;have U:=CZ v st (by have:=Ii (h::hs++[J]) v;exact aw this hv);have Y:gY ((m+h:Nat):Int) 63=(h:Nat):=vD m (by exact(Aq [128] hm:m∈[64,192]++[128])) h N;have q1:∀(F:aj)(b:AV),((F.put 6 b).put 7 (.int ((m+h:Nat):Int))).lookup 6=some b:=λF b=>by rw[bW _ _ _ _ (by decide),cX]
  have hil:it<st.length:=mT hi;obtain⟨F',h1,h2⟩:=ih k (i+1) (v*64+h) h (((F.put 6 (.int ((v*64:Nat):Int))).put 7 (.int ((m+h:Nat):Int))).put 6 (.int ((v*64+h:Nat):Int))) (st.set it (.c_ l (i+1))) (by exact fU hf)
   (by exact hv) N (λd hd'=>hd d (cw _ hd')) R
   (by rw[get_set,if_neg (λe=>R e.symm)];exact hl) (by rw[get_set,if_pos rfl,if_pos hil]) (by rw[<-mf,hx];simp)
   (by rw[bW _ _ _ _ (by decide),bW _ _ _ _ (by decide),bW _ _ _ _ (by decide)];exact h5)
   (by rw[bW _ _ _ _ (by decide),cX]) (by rw[cX])
  refine⟨F',?_,h2⟩;rw[xJ];simp(implicitDefEqProofs:=false)only[lK,d7,bP,cT,h7,bz,bo,pq,CT m hm c hc,wJ];rw[if_pos (by decide)];simp(implicitDefEqProofs:=false)only[cM,pB,cT,h6,U,bz,bo,gF,j5,eK,bP,dJ,bW _ 6 _ 5 (by decide),h5,hn,q1,cX,d7,pq,Y,Jy,EP,FP v h N,ig,D9];rw[h1,BD,show i+1+hs.length+1=i+(h::hs).length +1 by simp;exact hK ..]
theorem G7(N:Nat)(h:N<16777216):ja ((dig N).reverse ++[N%64]) 0=N:=by
 have e:=λM=>QN M 64;have J:N/64/64=N/4096:=Qn ..;have O:N/4096/64=N/262144:=Qn ..;unfold dig;by_cases h1:N<64
 ·simp[h1,ja]
 ·by_cases h2:N<4096
  ·simp[h1,h2,ja];exact QN ..
  ·by_cases h3:N<262144
   ·simp[h1,h2,h3,ja];rw[<-J,e,e]
   ·simp[h1,h2,h3,ja];rw[<-O,e,<-J,e,e]
section
variable{W:List Nat}{G:Gm}
theorem cast_eq(a b:Nat):(((a:Nat):Int)==((b:Nat):Int))=decide (a=b):=qv.mpr (by rw[beq_iff_eq,decide_eq_true_iff];exact OB)
theorem uV(a b:Nat):decide (((a:Nat):Int)<((b:Nat):Int))=decide (a<b):=decide_eq_decide.mpr m3
noncomputable def e9(N:Nat):List Nat:=((cF 4).filter λk=>decide (k=0)||(decide (0<N/64^k)||false)).map λk=>N/64^k%64
theorem t8{N:Nat}(h:N<16777216):e9 N=N%64::dig N:=by
 have r:cF 4=[0,1,2,3]:=rfl;have c:∀d,0<d->decide (0<N/d)=decide (d<=N):=λd hd=>decide_eq_decide.mpr (Nat.div_pos_iff.trans ⟨λq=>q.2,λq=>⟨hd,q⟩⟩);unfold e9 dig;rw[r];simp only[List.filter_cons,List.filter_nil,Nat.pow_zero,Nat.reducePow,c 64 (by decide),c 4096 (by decide),c 262144 (by decide),O2,decide_true,Bool.true_or,if_true,Nat.div_one,show decide (1=0)=false from rfl,show decide (2=0)=false from rfl,show decide (3=0)=false from rfl,OP,decide_eq_true_eq];by_cases h1:N<64
 ·rw[if_neg (by exact nJ h1),if_neg (by exact CI h1 (by decide)),if_neg (by exact CI h1 (by decide)),if_pos h1];simp
 ·by_cases h2:N<4096
  ·rw[if_pos (by exact fC (λq=>h1 q)),if_neg (by exact nJ h2),if_neg (by exact CI h2 (by decide)),if_neg h1,if_pos h2];simp;exact rO h2
  ·by_cases h3:N<262144
   ·rw[if_pos (by exact C0 h2 (by decide)),if_pos (by exact fC (λq=>h2 q)),if_neg (by exact nJ h3),if_neg h1,if_neg h2,if_pos h3];simp;exact rO h3
   ·rw[if_pos (by exact C0 h3 (by decide)),if_pos (by exact C0 h3 (by decide)),if_pos (by exact fC (λq=>h3 q)),if_neg h1,if_neg h2,if_neg h3];simp;exact rO h
theorem Fv(j:Nat)(h:j<4):cO W jb (nD 64) (nD j) (nD (64^j)):=lj (λst=>Xy j h st) λst=>.int _
theorem xu(j:Nat)(h:j<4):64^j≠0/\64^j<1073741824:=by
 have:j=0\/j=1\/j=2\/j=3:=by exact yG h
 rcases this with rfl|rfl|rfl|rfl<;>decide
theorem RX{N:Nat}(h:N<16777216)(f:Nat):dD N f=bZ (f%2) (more f)++(((e9 N).drop 1).map (more f+·)).reverse ++[128+(e9 N).headD 0]:=by rw[t8 h];rfl
theorem FU(l:List Nat):(l.map λc=>[c]).flatten =l:=by
 induction l with
 |nil=>rfl
 |cons a l J=>rw[bX,gI,J];rfl
theorem O4{α:Type}(n:Nat)(x:α):(bZ n [x]).flatten =bZ n x:=by
 induction n with
 |zero=>rfl
 |succ n J=>rw[sf,gI,J,sf];rfl
theorem Nc{N f:Nat}(h:N<16777216)(hf:f<4):iz W (bG [18,19] wj) [nD N,nD f] (sD (dD N f)):=by
 have hl:(dig N).length <=3:=BF N;have hd:=Cp h;have hm:more f<=192:=by unfold more;exact dx (a6 64) (Ro 128 (fU (rO (show f<2*2 from hf)))) (by decide)
 refine Cy (ks:=[18,19]) (ds:=[nD N,nD f]) rfl ?_;refine oi (FL (a:=nD (more f)) (b:=.list ((e9 N).map nD)) (aE (aM (aW 64) (aM (aM (az rfl) (aW 2) (lG _ _ (by decide) (by decide))) (aW 128) (Uh (f/2) 128 (by exact bQ (Nat.div_le_self f 2) (du hf (by decide))))) (mv _ _)) (aE ?_ be))) (mz (uZ ?_))
 ·unfold e9
  rw[br];refine pa (mk:=λj:Nat=>.one (.int (j:Int))) (h:=nD∘λk=>N/64^k%64) (oP (n:=4) (aE (aW 4) be) (by decide)) (by decide) λj O=>⟨_,.one rfl,?_,λ_=>?_⟩
  ·have O:=m5.mp O
   exact sU (cast_eq j 0▸d6 (az rfl) (aW 0) (pz _ _)) λ_=>sU (uV 0 (N/64^j)▸d6 (aM (az rfl) (aM (aW 64) (az rfl) (Fv j O)) (lG _ _ (xu j O).1 (xu j O).2)) (aW 0) (CW _ _)) λ_=>uD
  ·have O:=m5.mp O
   exact aM (aM (az rfl) (aM (aW 64) (az rfl) (Fv j O)) (lG _ _ (xu j O).1 (xu j O).2)) (aW 64) (kI _ _ (by decide))
 ·rw[RX h,<-FU (bZ (f%2) (more f)++_++_)]
  have U:(e9 N).length <=4:=by rw[t8 h];exact fj hl
  have hp1:(e9 N)=(e9 N).headD 0::(e9 N).drop 1:=by rw[t8 h];rfl
  have J:((e9 N).drop 1).length <=3:=by exact fU U
  have hb:∀c∈bZ (f%2) (more f)++(((e9 N).drop 1).map (more f+·)).reverse ++[128+(e9 N).headD 0],c<1114112:=by
   intro c hc;rw[eh,eh,AM,cx]at hc;rcases hc with(hc|hc)|hc
   ·rw[(o3.mp hc).2];exact bQ hm (by decide)
   ·refine aG (dz.mp hc) λd R S=>?_;subst S
    rw[t8 h]at R;have:=hd d R;exact aw (fV hm this) (by decide)
   ·rw[hc,t8 h]
    have:N%64<64:=cE _ (by decide);show 128+N%64<_;exact aw (fW this _) (by decide)
  have hlen:(bZ (f%2) (more f)++(((e9 N).drop 1).map (more f+·)).reverse ++[128+(e9 N).headD 0]).length <=5:=by
   rw[aP,aP,jD,xH,aQ,gZ]
   have:f%2<2:=cE _ (by decide);exact dx (dx (fU (cE f (by decide))) J (a6 _)) (a6 1) (by decide)
  refine sr (dh lU) yo (aE (d:=.list ((_:List (List Nat)).map sD)) ?_ be) (yf (by rw[FU];exact aw hlen (by decide)));rw[br];refine fD (mk:=λc:Nat=>.one (nD c)) (h:=sD∘λc=>[c]) (bs:=bZ (f%2) (more f)++(((e9 N).drop 1).map (more f+·)).reverse ++[128+(e9 N).headD 0]) ?_ (by exact bQ hlen (by decide)) λc hc=>⟨_,.one rfl,ia (aE (az rfl) be) (Ck c (hb c hc))⟩;have:=iC (W:=W) (G:=((Gz [18,19] [nD N,nD f]).put 20 (.d (nD (more f)))).put 21 (.d (.list ((e9 N).map nD)))) (tg:=.name 23) (ds:=(bZ (f%2) (more f)++(((e9 N).drop 1).map (more f+·)).reverse ++[128+(e9 N).headD 0]).map nD) (f:=ay aX (ay aX (ay cU (bC (ab (aa 20) ag)) (ay oMod (aa 19) (xk (.int 2)))) (cH (bl [20] (bL (cH (aa 21) (bY (xk (.int 1))) bb bb)) (.name 22) bw (a_ (ay aX (aa 20) (aa 22))) 400) bb bb (bY (i9 (xk (.int 1)))))) (bC (ab (ay aX (xk (.int 128)) (aH (aa 21) (xk (.int 0)))) ag))) ?_ rfl
  ·rwa[br]at this
  ·rw[dF,dF,OJ]
   refine aM (aM ?_ ?_ (n5 ?_)) (e8 (aE (aM (aW 128) (aM (az rfl) (aW 0) (ei (ds:=(e9 N).map nD) 0 (by rw[hp1];rfl) (by decide))) (mv _ _)) be) (show 1<=16777216 by decide)) (n5 ?_)
   ·have:=So (W:=W) (ds:=[nD (more f)]) (f%2) (by exact aw (h_ 1 (cq (cE f (by decide)))) (by decide)) (by exact cK (cE _ (by decide)) (by decide))
    rw[O4,<-FH]at this;exact aM (e8 (aE (az rfl) be) (show 1<=16777216 by decide)) (aM (az rfl) (aW 2) (kI _ _ (by decide))) this
   ·refine iT (a:=.list ((((e9 N).drop 1).map (more f+·)).map nD)) ?_ dR dR (fT (IT (aW 1))) (UW (by rw[aQ,aQ];exact aw J (by decide)))
    rw[br];refine fD (mk:=λc:Nat=>.one (nD c)) (h:=nD∘(more f+·)) (bs:=(e9 N).drop 1) ?_ (by exact bQ J (by decide)) λc hc=>⟨_,.one rfl,aM (az rfl) (az rfl) (mv _ _)⟩;have:=iC (W:=W) (G:=((Gz [18,19] [nD N,nD f]).put 20 (.d (nD (more f)))).put 21 (.d (.list ((e9 N).map nD)))) (tg:=.name 22) (ds:=((e9 N).map nD).drop 1) (iT (az (k:=21) rfl) (fT (aW 1)) dR dR (qG 1 (by rw[aQ];exact aw U (by decide)))) rfl;rwa[<-r_,br]at this
   ·rw[aQ,xH,aQ,aQ,jD]
    have:f%2<2:=cE _ (by decide);exact dx (fU (cE f (by decide))) J (by decide)
   ·rw[aP,aQ,xH,aQ,aQ,jD]
    have:f%2<2:=cE _ (by decide);show _+1<=_;exact dx (dx (fU (cE f (by decide))) J (a6 _)) (a6 1) (by decide)
end
theorem JN(k L:Nat):max 0 (min (if(k:Int)<0 then(k:Int)+L else k) (L:Int))=((min k L:Nat):Int):=by
 rw[if_neg (ib.mpr (eu _))];exact rU k L
theorem Pc(x:List Nat)(j:Nat):iV (T x) none (some (j:Int))=T (x.take j):=by
 have q:strSliceIndices none (some (j:Int)) 1 (T x).length =strSliceIndices (some ((0:Nat):Int)) (some (j:Int)) 1 (T x).length :=by
  rw[ze,Nat.zero_min];exact congrArg (sliceRange 0 · 1) (JN j _)
 have e:iV (T x) none (some (j:Int))=iV (T x) (some ((0:Nat):Int)) (some (j:Int)):=by
  unfold iV;rw[q]
 rw[e,xY _ _ _ (cJ _)];rfl
theorem Eu(x:List Nat)(i:Nat)(h:i<=x.length):iV (T x) (some (i:Int)) none=T (x.drop i):=by
 have q:strSliceIndices (some (i:Int)) none 1 (T x).length =strSliceIndices (some (i:Int)) (some (x.length:Int)) 1 (T x).length :=by
  rw[eQ,ze,xE];exact congrArg (sliceRange · (x.length:Int) 1) (JN i _)
 have e:iV (T x) (some (i:Int)) none=iV (T x) (some (i:Int)) (some (x.length:Int)):=by
  unfold iV;rw[q]
 rw[e,xY _ _ _ h,kx (by rw[ez];exact a6 _)]
section
variable{W:List Nat}{G:Gm}
theorem yD{x:List Nat}{lo hi:Option Int}{y:List Nat}(hl:x.length<=16777216)(h:iV (T x) lo hi=T y):q8 W (sD x) lo hi none (sD y):=λst v bd r=>by
 cases r.s'
 refine Ok.of (a:=(.str (T y),st)) ?_ ⟨.rfl',.str _⟩;show(if(T x).length <=sizeLine/\(none:Option Int)=none then some (AV.str (iV (T x) lo hi),st)else none).or _=_;rw[eQ,if_pos ⟨show _<=sizeLine from hl,rfl⟩,h];rfl
theorem lay_ints:∀l:List Nat,eA (l.map nD)=true:=by
 intro l;induction l with
 |nil=>
  rw[fS,eA]
 |cons a l J=>
  rw[bX,eA,ky,J];rfl
theorem Bo:∀l:List Nat,dW (l.map nD)=0:=by
 intro l;induction l with
 |nil=>
  rw[fS,dW]
 |cons a l J=>
  rw[bX,dW,iF,J];rfl
theorem shaped_ints(l:List Nat):jE (.list (l.map nD))=true/\(fm (l.map nD)).depth <=4:=by
 have h:(fm (l.map nD)).depth =1:=by rw[iF,Bo]
 refine⟨?_,by rw[h];decide⟩;unfold jE;rw[ky,lay_ints,h];rfl
theorem TR(l:List Nat):c6 (.list (l.map nD)) (.list [])=l.isEmpty:=by
 cases l with
 |nil=>rw[fS,c6,jY];rfl
 |cons a l=>rw[bX,c6,jY];rfl
theorem any_ints(l:List Nat)(n:Nat):((l.map nD).any λy=>c6 y (nD n))=decide (n∈l):=by
 induction l with
 |nil=>rfl
 |cons a l J=>
  rw[bX,List.any_cons,J,c6,cast_eq,qv,oY,decide_eq_true_iff,decide_eq_true_iff,decide_eq_true_iff,bJ];exact or_congr_left ⟨Eq.symm,Eq.symm⟩
noncomputable def pV(name:List Nat):Nat->List Nat->List Nat->List Nat
 |0,_,ps=>ps
 |n+1,w,ps=>if w=[]\/ps=[]then ps else if w.take 3=[46,46,46]then pV name n (w.drop 3) ((cF (name.length+1 -ps.headD 0)).map (ps.headD 0+·))
  else pV name n (w.drop 1) ((ps.filter λp=>((name.drop p).take 1)==w.take 1).map (·+1))
theorem yK(name:List Nat)(n:Nat)(w ps:List Nat):pV name (n+1) w ps=if w=[]\/ps=[]then ps else if w.take 3=[46,46,46]then pV name n (w.drop 3) ((cF (name.length+1 -ps.headD 0)).map (ps.headD 0+·))
 else pV name n (w.drop 1) ((ps.filter λp=>((name.drop p).take 1)==w.take 1).map (·+1)):=rfl
noncomputable def jU(want name:List Nat):Bool:=decide (name.length∈pV name want.length want [0])
noncomputable def J3(xs:List AV)(st:St):Option (AV×St):=(a2 xs).bind λq=>q.1.i?.bind λa=>q.2.i?.bind λb=>if(fZ a&&fZ b&&decide (b -a<=16777216))=true then some (AV.ref st.length,st++[.list (u_ a (b -a).toNat)])else none
theorem WX(a b:Int)(st:St)(h:(fZ a&&fZ b&&decide (b -a<=16777216))=true):J3 [.int a,.int b] st=some (AV.ref st.length,st++[.list (u_ a (b -a).toNat)]):=if_pos h
theorem MM{fa}{a b:Nat}(O:jv W G fa [nD a,nD b])(hb:a<=b/\b<=16777216):bh W G (xS fa) (.list (((cF (b -a)).map (a+·)).map nD)):=λ_ _ J=>Ok.bind' ((O _ _ J).mono λq R=>by
 obtain⟨xs,st⟩:=q;obtain⟨N,r⟩:=R;cases r with
 |cons S r=>
  cases r with
  |cons U r=>
   cases r
   cases S.i'
   cases U.i'
   have h1:(fZ (a:Int)&&fZ (b:Int)&&decide ((b:Int) -(a:Int)<=16777216))=true:=by
    rw[zU a (aw hb.1 hb.2),zU b hb.2];exact decide_eq_true (by exact qu (Q1 _ (eu _)) (lF.mpr hb.2))
   show Ok (J3 [AV.int (a:Int),.int (b:Int)] st) _;rw[WX a b st h1];refine⟨N.trans (.app _),j_ (J.bd.keep N) ?_⟩;rw[show((b:Int) -(a:Int)).toNat =b -a by exact Int.toNat_sub b a,show u_ (a:Int) (b -a)=((cF (b -a)).map (a+·)).map λn:Nat=>.int (n:Int) by unfold u_;rw[br];rfl];generalize (cF (b -a)).map (a+·)=l;induction l with
   |nil=>exact .nil
   |cons c l Y=>exact .cons (.int _) Y)
noncomputable def yk:aj->St->Option (Bool×St):=(nq (aT c5 (aa 8) (xk (.str ("":ae)))) (nq (aT c5 (aa 1) (bC ag)) (λ_ st=>some (true,st))))
noncomputable def IH:SM:=(ao (cn (aT oEq (cH (aa 8) bb (bY (xk (.int 3))) bb) (xk (.str ("...":ae)))) (ao (bj 1 (xS (ab (aH (aa 1) (xk (.int 0))) (ab (ay aX (bK iv (ab (aa 25) ag)) (xk (.int 1))) ag))))
 (ao (bj 8 (cH (aa 8) (bY (xk (.int 3))) bb bb))
 aC)) (ao (bj 1 (bl [25,8] (bL (aa 1)) (.name 26) (aT oEq (cH (aa 25) (bY (aa 26)) (bY (ay aX (aa 26) (xk (.int 1)))) bb) (aH (aa 8) (xk (.int 0)))) (a_ (ay aX (aa 26) (xk (.int 1)))) 400))
 (ao (bj 8 (cH (aa 8) (bY (xk (.int 1))) bb bb))
 aC)))
 aC)
theorem LG{name:List Nat}(hn:name.length<300)(m:Nat):∀(n:Nat)(w ps:List Nat)(G:Gm),w.length<=n->n<=300->(∀p∈ps,p<=name.length)->ps.length<400->G 8=some (.d (sD w))->G 25=some (.d (sD name))->G 1=some (.d (.list (ps.map nD)))->
 ∃G' O,Sg W G (lL yk IH (n+m+1)) (.next G')/\G' 25=some (.d (sD name))/\G' 1=some (.d (.list (O.map nD)))/\O=pV name n w ps:=by
 have ht:∀(w ps:List Nat)(G:Gm),w.length<=300->G 8=some (.d (sD w))->G 1=some (.d (.list (ps.map nD)))->fb W G yk (!(w==[])&&(!ps.isEmpty&&true)):=λw ps G hw S h1=>by
  refine yb (d6 (az S) (dh lU) (Cx _ _)) λ_=>yb (d6 (az h1) (e8 (ds:=[]) be (by decide)) ?_) λ_=>uD;have:=yp (W:=W) (a:=.list (ps.map nD)) (b:=.list []) ⟨(shaped_ints ps).2,(shaped_ints []).2⟩ ⟨(shaped_ints ps).1,(shaped_ints []).1⟩ (.inl ⟨_,rfl⟩);rwa[TR]at this
 have U:∀(n:Nat)(w ps:List Nat)(G:Gm),w.length<=300->w=[]\/ps=[]->G 8=some (.d (sD w))->G 1=some (.d (.list (ps.map nD)))->Sg W G (lL yk IH (n+1)) (.next G):=λn w ps G hw h S h1=>by
  refine TJ ?_;have:=ht w ps G hw S h1;rwa[show(!(w==[])&&(!ps.isEmpty&&true))=false by
   rcases h with rfl|rfl
   ·rfl
   ·rw[List.isEmpty_nil,Bool.not_true,AS,Gi]]at this
 intro n;induction n with
 |zero=>
  intro w ps G hw R hps hl S J h1;have hw0:w=[]:=Bk.mp (Gk.mp hw);exact⟨G,ps,U (0+m) w ps G (aw hw R) (.inl hw0) S h1,J,h1,rfl⟩
 |succ n ih=>
  intro w ps G hw R hps hl S J h1;rw[show n+1+m+1=n+m+1+1 by exact congrArg sG (hK n 1 m)];by_cases hs:w=[]\/ps=[]
  ·exact⟨G,ps,U (n+m+1) w ps G (aw hw R) hs S h1,J,h1,by rw[yK,if_pos hs]⟩
  ·have Y:w.length<=300:=aw hw R
   have hsz:w.length<=16777216:=aw Y (by decide);have hnz:name.length<=16777216:=aw (cq hn) (by decide);have hne:w≠[]/\ps≠[]:=⟨λe=>hs (.inl e),λe=>hs (.inr e)⟩;have hT:fb W G yk true:=by
    have:=ht w ps G Y S h1;rwa[show(!(w==[])&&(!ps.isEmpty&&true))=true by
     rw[beq_eq_false_iff_ne.mpr hne.1,show ps.isEmpty=false by cases ps with
      |nil=>exact absurd rfl hne.2
      |cons=>rfl];rfl]at this
   have c3:fb W G (aT oEq (cH (aa 8) bb (bY (xk (.int 3))) bb) (xk (.str ("...":ae)))) (w.take 3==[46,46,46]):=
    d6 (iT (az S) dR (fT (aW 3)) dR (yD hsz (Pc w 3))) (dh pA) (CA _ _)
   by_cases hd:w.take 3=[46,46,46]
   ·have hw3:3<=w.length:=by
     have:=congrArg mX hd;rw[iE]at this
     have:min 3 w.length=3:=this;exact aw (bS this.symm) (j3 ..)
    refine mN (rR hne.2) λp r N=>?_;subst N;have hp:p<=name.length:=hps p (cj ..);obtain⟨G',O,e1,e2,e3,e4⟩:=ih (w.drop 3) ((cF (name.length+1 -p)).map (p+·)) ((G.put 1 (.d (.list (((cF (name.length+1 -p)).map (p+·)).map nD)))).put 8 (.d (sD (w.drop 3)))) (by rw[ez];exact o_ hw) (by exact aw (oR _) R)
     (λq hq=>by refine aG (dz.mp hq) λj hj N=>?_;subst N;have:=m5.mp hj;exact Dz this hp) (by rw[aQ,eI];exact bQ (iU ..) (du (Nat.succ_lt_succ hn) (by decide))) rfl J rfl
    refine⟨G',O,Ir hT (mz (te c3 (λ_=>oi (fR (p:=.d _) (MM (aE (aM (az h1) (aW 0) (ei (ds:=(p::r).map nD) 0 rfl (by decide))) (aE (aM (ia (aE (az J) be) (HR _ hnz)) (aW 1) (mv _ _)) be)) ⟨oX hp,by exact Qa _ hn⟩)) (mz (fR (p:=.d _) (iT (az S) (fT (aW 3)) dR dR (yD hsz (Eu w 3 hw3)))))) λh=>by rw[hd]at h;cases h)) e1,e2,e3,?_⟩;rw[e4,yK,if_neg hs,if_pos hd];rfl
   ·refine mN (rR hne.1) λc w' N=>?_;subst N
    obtain⟨G',O,e1,e2,e3,e4⟩:=ih ((c::w').drop 1) ((ps.filter λp=>((name.drop p).take 1)==(c::w').take 1).map (·+1)) ((G.put 1 (.d (.list (((ps.filter λp=>((name.drop p).take 1)==(c::w').take 1).map (·+1)).map nD)))).put 8 (.d (sD ((c::w').drop 1)))) (by exact NW hw) (by exact aw (oR _) R)
     (λq hq=>by
      refine aG (dz.mp hq) λj hj N=>?_;subst N;have hj:=(ue.mp hj).2;by_cases z:j<name.length
      ·exact z
      ·rw[mj (fC z)]at hj;cases hj) (by rw[aQ];exact bQ (List.length_filter_le ..) hl) rfl J rfl
    have hcomp:bh W G (bl [25,8] (bL (aa 1)) (.name 26) (aT oEq (cH (aa 25) (bY (aa 26)) (bY (ay aX (aa 26) (xk (.int 1)))) bb) (aH (aa 8) (xk (.int 0)))) (a_ (ay aX (aa 26) (xk (.int 1)))) 400) (.list (((ps.filter λp=>((name.drop p).take 1)==(c::w').take 1).map (·+1)).map nD)):=by
     rw[br];refine pa (mk:=λp:Nat=>.one (nD p)) (h:=nD∘(·+1)) ?_ hl λp hp=>⟨_,.one rfl,?_,λ_=>aM (az rfl) (aW 1) (mv _ _)⟩
     ·have:=iC (W:=W) (tg:=.name 26) (az h1) rfl
      rwa[br]at this
     ·refine d6 (iT (az (show(G.only [25,8]).put 26 _ 25=_ from J)) (fT (az rfl)) (fT (aM (az rfl) (aW 1) (mv _ _))) dR (yD hnz (xY name p (p+1) (oR _)))) (aM (az (show(G.only [25,8]).put 26 _ 8=_ from S)) (aW 0) (FA (x:=c::w') (c:=c) 0 rfl (by decide))) ?_
      rw[show p+1 -p=1 by exact A0 ..];exact CA _ _
    refine⟨G',O,Ir hT (mz (te c3 (λh=>absurd (beq_iff_eq.mp h) hd) λ_=>oi (fR (p:=.d _) hcomp) (mz (fR (p:=.d _) (iT (az S) (fT (aW 1)) dR dR (yD hsz (Eu (c::w') 1 (fj (cJ _))))))))) e1,e2,e3,?_⟩;rw[e4,yK,if_neg hs,if_neg hd]
theorem Nk{want name:List Nat}(N:name.length<300)(hw:want.length<=300):iz W (bG [8,25] tU) [sD want,sD name] (.bool (jU want name)):=by
 refine Cy (ks:=[8,25]) (ds:=[sD want,sD name]) rfl ?_;refine fF (LG (W:=W) N (399 -want.length) want.length want [0] ((Gz [8,25] [sD want,sD name]).put 1 (.d (.list ([0].map nD)))) (a6 _) hw (λp R=>by rw[cx.mp R];exact cJ _) (by decide) rfl rfl rfl) λG' J O S U Y=>?_;rw[show want.length+(399 -want.length)+1=400 by exact congrArg sG (qi (aw hw (by decide)))]at O;refine oi (fR (p:=.d (.list ([0].map nD))) (e8 (aE (aW 0) be) (by decide))) (oi O (mz (uZ ?_)));refine aM (ia (aE (az S) be) (HR _ (aw (cq N) (by decide)))) (az U) ?_;have:=I_ (W:=W) (d:=nD name.length) (ds:=J.map nD) ⟨by rw[iF];decide,by rw[Bo];decide⟩ ⟨lay_ints _,by rw[ky]⟩ (λ_ x _=>by cases x.s?<;>rfl);rw[any_ints]at this;rw[jU,<-Y];exact this
end
section
variable(g:List Nat)
noncomputable def At(p:Nat)(s:List Nat):Prop:=p+s.length<=g.length/\(g.drop p).take s.length=s
theorem Jc{p:Nat}(h:p<=g.length):At g p []:=⟨h,rfl⟩
theorem Sm{p:Nat}{s:List Nat}{c:Nat}:At g p (s++[c])↔At g p s/\g[p+s.length]?=some c:=by
 unfold At;rw[aP,gZ,nL,Rh];constructor
 ·intro⟨h1,h2⟩
  have J:p+s.length<g.length:=h1;rw[kF J]at h2 ⊢;have:=List.append_inj' h2 rfl;exact⟨⟨cq J,this.1⟩,congrArg some (nS this.2).1⟩
 ·intro⟨⟨h1,h2⟩,h3⟩
  exact⟨(fY.mp h3).1,by rw[h3,h2];rfl⟩
noncomputable def Mi:Nat->List Nat->Nat->Prop
 |0,_,p=>p=g.length
 |n+1,r,p=>if r.take 3=[46,46,46]then∃k,p<=k/\k<=g.length/\Mi n (r.drop 3) k else if r=[]then p=g.length else g[p]?=r.head?/\Mi n (r.drop 1) (p+1)
theorem qZ(n:Nat)(r:List Nat)(p:Nat):Mi g (n+1) r p=(if r.take 3=[46,46,46]then∃k,p<=k/\k<=g.length/\Mi g n (r.drop 3) k else if r=[]then p=g.length else g[p]?=r.head?/\Mi g n (r.drop 1) (p+1)):=rfl
noncomputable def jQ:Nat->List Nat->List Nat->List (List Nat)
 |0,acc,_=>[acc]
 |n+1,acc,r=>if r.take 3=[46,46,46]then acc::jQ n [] (r.drop 3)else if r=[]then[acc]else jQ n (acc++r.take 1) (r.drop 1)
theorem yA(acc r:List Nat):jQ 0 acc r=[acc]:=rfl
theorem qN(n:Nat)(acc r:List Nat):jQ (n+1) acc r=(if r.take 3=[46,46,46]then acc::jQ n [] (r.drop 3)else if r=[]then[acc]else jQ n (acc++r.take 1) (r.drop 1)):=rfl
noncomputable def l5:List (List Nat)->Nat->Prop
 |[],_=>False
 |s::t,p=>At g p s/\((t=[]/\p+s.length=g.length)\/∃k,p+s.length<=k/\k<=g.length/\l5 t k)
theorem pE(s:List Nat)(t:List (List Nat))(p:Nat):l5 g (s::t) p=(At g p s/\((t=[]/\p+s.length=g.length)\/∃k,p+s.length<=k/\k<=g.length/\l5 g t k)):=rfl
theorem HS:∀n acc r,jQ n acc r≠[]:=by
 intro n;induction n with
 |zero=>
  intro _ _;exact qx _ _
 |succ n J=>
  intro acc r;rw[qN];split
  ·exact qx _ _
  ·split
   ·exact qx _ _
   ·exact J _ _
theorem take1{r:List Nat}(h:r≠[]):∃c,r.take 1=[c]/\r.head?=some c:=by
 cases r with
 |nil=>exact absurd rfl h
 |cons c r=>exact⟨c,rfl,rfl⟩
theorem Vy:∀(n:Nat)(acc r:List Nat)(p:Nat),r.length<=n->(l5 g (jQ n acc r) p↔At g p acc/\Mi g n r (p+acc.length)):=by
 intro n;have one:∀(acc:List Nat)(p:Nat),l5 g [acc] p↔At g p acc/\p+acc.length=g.length:=λacc p=>by
  rw[pE];refine and_congr_right λ_=>⟨λh=>h.elim (λh=>h.2) λ⟨k,_,_,h⟩=>dA h,λh=>.inl ⟨rfl,h⟩⟩
 induction n with
 |zero=>intro acc r p h;exact one acc p
 |succ n J=>
  intro acc r p h;rw[qN,qZ];by_cases h1:r.take 3=[46,46,46]
  ·rw[if_pos h1,if_pos h1]
   have hl:(r.drop 3).length <=n:=by rw[ez];exact o_ h
   rw[pE];refine and_congr_right λ_=>⟨λh=>?_,λ⟨k,a,b,c⟩=>.inr ⟨k,a,b,(J [] _ k hl).mpr ⟨Jc g b,c⟩⟩⟩;rcases h with⟨h,_⟩|⟨k,a,b,c⟩
   ·exact absurd h (HS n _ _)
   ·exact⟨k,a,b,((J [] _ k hl).mp c).2⟩
  ·rw[if_neg h1,if_neg h1]
   by_cases h2:r=[]
   ·rw[if_pos h2,if_pos h2];exact one acc p
   ·rw[if_neg h2,if_neg h2]
    refine aG (take1 h2) λc N O=>?_;have hl:(r.drop 1).length <=n:=by rw[ez];have:=Fs.mpr h2;exact Bw h
    rw[N,J (acc++[c]) _ p hl,Sm,O,aP,gZ,<-nN,and_assoc]
theorem W_:∀(n:Nat)(w ps:List Nat),w.length<=n->(∀p∈ps,p<=g.length)->ps.Pairwise (·<=·)->(g.length∈pV g n w ps↔∃p∈ps,Mi g n w p):=by
 intro n;induction n with
 |zero=>
  intro w ps hw Y hs;exact⟨λh=>⟨_,h,rfl⟩,λ⟨p,h,e⟩=>by rw[<-show p=g.length from e];exact h⟩
 |succ n ih=>
  intro w ps hw Y hs;rw[yK];by_cases h0:w=[]\/ps=[]
  ·rw[if_pos h0]
   rcases h0 with rfl|rfl
   ·exact⟨λh=>⟨_,h,by rw[qZ,if_neg (by decide),if_pos rfl]⟩,λ⟨p,h,e⟩=>by rw[qZ,if_neg (by decide),if_pos rfl]at e;rw[<-e];exact h⟩
   ·exact⟨λh=>(a7 h).elim,λ⟨p,h,e⟩=>(a7 h).elim⟩
  ·have N:w≠[]/\ps≠[]:=⟨λe=>h0 (.inl e),λe=>h0 (.inr e)⟩
   rw[if_neg h0];by_cases h1:w.take 3=[46,46,46]
   ·rw[if_pos h1]
    refine mN (rR N.2) λa r J=>?_;subst J;have ha:a<=g.length:=Y a (cj ..);rw[show(a::r).headD 0=a from rfl,ih (w.drop 3) _ (by rw[ez];exact o_ hw) (λq R=>by refine aG (dz.mp R) λj O J=>?_;subst J;have:=m5.mp O;exact Dz this ha)
     (F_.mpr (List.pairwise_lt_range.imp λh=>fW (cq h) _))]
    constructor
    ·intro⟨q,R,e⟩
     refine aG (dz.mp R) λj O J=>?_;subst J;have:=m5.mp O;exact⟨a,cj ..,by rw[qZ,if_pos h1];exact⟨a+j,c8 ..,by exact Dz this ha,e⟩⟩
    ·intro⟨p,S,e⟩
     rw[qZ,if_pos h1]at e;refine di e λk k1 k2 e=>?_;have U:a<=p:=by
      rcases bJ.mp S with rfl|m
      ·exact a6 _
      ·exact(Gn.mp hs).1 p m
     exact⟨k,dz.mpr ⟨k -a,m5.mpr (by exact Nat.sub_lt_sub_right (aw U k1) (oS k2)),by exact qi (aw U k1)⟩,e⟩
   ·rw[if_neg h1]
    refine aG (take1 N.1) λc e1 e2=>?_;have fl:∀p,((g.drop p).take 1==w.take 1)=true↔g[p]?=some c:=λp=>by
     rw[beq_iff_eq,e1,<-lE];cases g.drop p with
     |nil=>exact⟨nofun,nofun⟩
     |cons x y=>exact⟨λh=>congrArg some (nS h).1,λh=>by rw[mn h];rfl⟩
    rw[ih (w.drop 1) _ (by rw[ez];have:=Fs.mpr N.1;exact Bw hw) (λq R=>by
     refine aG (dz.mp R) λj O J=>?_;subst J;exact(fY.mp ((fl j).mp (ue.mp O).2)).1)
     (F_.mpr ((hs.filter _).imp λh=>fj h))]
    constructor
    ·intro⟨q,R,e⟩
     refine aG (dz.mp R) λj O J=>?_;subst J;have O:=ue.mp O;exact⟨j,O.1,by rw[qZ,if_neg h1,if_neg N.1];exact⟨by rw[e2];exact(fl j).mp O.2,e⟩⟩
    ·intro⟨p,S,e⟩
     rw[qZ,if_neg h1,if_neg N.1]at e;exact⟨p+1,dz.mpr ⟨p,ue.mpr ⟨S,(fl p).mpr (by rw[<-e2];exact e.1)⟩,rfl⟩,e.2⟩
noncomputable def ju(w:List Nat):List (List Nat):=jQ w.length [] w
theorem Wm(w:List Nat):jU w g=true↔l5 g (ju w) 0:=by
 unfold jU;rw[decide_eq_true_iff,W_ g w.length w [0] (a6 _) (λp J=>by rw[cx.mp J];exact cJ _) (List.pairwise_singleton ..),ju,Vy g _ _ _ _ (a6 _)];exact⟨λ⟨p,J,e⟩=>⟨Jc g (cJ _),by rw[cx.mp J]at e;exact e⟩,λh=>⟨0,cx.mpr rfl,h.2⟩⟩
noncomputable def Gp(q:Nat):List (List Nat)->Nat->Prop
 |[],_=>True
 |w::ws,p=>∃k,p<=k/\k+w.length<=q/\(g.drop k).take w.length=w/\Gp q ws (k+w.length)
theorem JG{q:Nat}:∀{ws:List (List Nat)}{p p':Nat},p<=p'->Gp g q ws p'->Gp g q ws p
 |[],_,_,_,_=>trivial
 |_::_,_,_,h,⟨k,a,b⟩=>⟨k,aw h a,b⟩
theorem Jf(sm:List Nat):∀(J:List (List Nat))(p:Nat),(∃k,p<=k/\k<=g.length/\l5 g (J++[sm]) k)↔At g (g.length -sm.length) sm/\p<=g.length -sm.length/\sm.length<=g.length/\Gp g (g.length -sm.length) J p:=by
 intro J;induction J with
 |nil=>
  intro p;constructor
  ·intro⟨k,a,b,c⟩
   rw[d_]at c;rw[pE]at c;obtain⟨N,O⟩:=c;have e:k+sm.length=g.length:=O.elim (λh=>h.2) λ⟨_,_,_,h⟩=>dA h;rw[show g.length -sm.length=k by exact sg e.symm];exact⟨N,a,by exact aw (dg ..) (bS e),trivial⟩
  ·intro⟨a,b,c,_⟩
   refine⟨_,b,iU ..,?_⟩;rw[d_];rw[pE];exact⟨a,.inl ⟨rfl,by exact qd c⟩⟩
 |cons m J S=>
  intro p;constructor
  ·intro⟨k,a,b,c⟩
   rw[eM]at c;rw[pE]at c;obtain⟨N,O⟩:=c;have h:∃R,k+m.length<=R/\R<=g.length/\l5 g (J++[sm]) R:=O.elim (λh=>absurd h.1 (by simp)) id;refine yT ((S _).mp h) λh1 h2 h3 U=>?_;exact⟨h1,by exact aw a (aw (c8 ..) h2),h3,k,a,h2,N.2,U⟩
  ·intro⟨h1,h2,h3,k,a,b,c,d⟩
   refine⟨k,a,by exact aw (c8 k _) (aw b (iU ..)),?_⟩;rw[eM];rw[pE];exact⟨⟨by exact aw b (iU ..),c⟩,.inr ((S _).mpr ⟨h1,b,h3,d⟩)⟩
theorem Od(s0 sm:List Nat)(J:List (List Nat)):l5 g (s0::(J++[sm])) 0↔At g 0 s0/\At g (g.length -sm.length) sm/\s0.length<=g.length -sm.length/\sm.length<=g.length/\Gp g (g.length -sm.length) J s0.length:=by
 rw[pE];rw[hH];refine and_congr_right λ_=>⟨λh=>(Jf g sm J _).mp (h.elim (λh=>absurd h.1 (by simp)) id),λh=>.inr ((Jf g sm J _).mpr h)⟩
theorem DX{q:Nat}{ws:List (List Nat)}{p:Nat}(h:p<=q):Gp g q ([]::ws) p↔Gp g q ws p:=
 ⟨λ⟨k,a,_,_,d⟩=>JG g a d,λd=>⟨p,a6 _,h,rfl,d⟩⟩
theorem BG{q:Nat}:∀{ws:List (List Nat)}{p:Nat},p<=q->(Gp g q (ws++[[]]) p↔Gp g q ws p)
 |[],p,h=>DX g h
 |w::ws,p,h=>⟨λ⟨k,a,b,c,d⟩=>⟨k,a,b,c,(BG b).mp d⟩,λ⟨k,a,b,c,d⟩=>⟨k,a,b,c,(BG b).mpr d⟩⟩
end
noncomputable def bx(ws:List (List Nat)):List AV:=ws.map λw=>.str (T w)
theorem Io{st:St}{l i:Nat}{xs:List AV}(h:st[l]?=some (.list xs)){x}(e:xs[i]?=x):(It.list l i).next st=some (x.map λv=>(.one v,.list l (i+1)),st):=by
 show(bF st l).map _=_;rw[dC h,bz,e]
theorem Lk(x:ae):1<=Gu x:=by unfold Gu;split<;>(try split)<;>decide
theorem Na:Gu (T [46,46,46])=1:=by decide+kernel
theorem FY(x:List Nat)(i j:Nat):strSub (T x) i j=T ((x.drop i).take (j -i)):=by
 unfold strSub T;congr 1
 apply OS;simp
theorem Hm{pre acc r:List Nat}(h:r.take 3=[46,46,46]):(pre++acc++r).drop (pre.length+acc.length)=r/\pre.length+acc.length+3<=(pre++acc++r).length /\(((pre++acc++r).drop (pre.length+acc.length)).take [46,46,46].length =[46,46,46]):=by
 have e:(pre++acc++r).drop (pre.length+acc.length)=r:=by rw[<-aP,Ao]
 have J:3<=r.length:=by
  have:=congrArg mX h;rw[iE]at this
  have:min 3 r.length=3:=this;exact aw (bS this.symm) (j3 ..)
 exact⟨e,by rw[aP,aP];exact fW J _,by rw[e];exact h⟩
theorem XS(x:ae)(w a:Nat):xg x w a []=[strSub x a x.length]:=rfl
theorem X5(x:ae)(w a c:Nat)(r:List Nat):xg x w a (c::r)=strSub x a c::xg x w (c+w) r:=rfl
theorem TU:∀(n:Nat)(acc r pre:List Nat)(lim cnt:Nat),r.length<=n->cnt+r.length<lim->
 xg (T (pre++acc++r)) 3 pre.length (iu (pre++acc++r) [46,46,46] (pre++acc++r).length lim cnt (pre.length+acc.length))=(jQ n acc r).map T:=by
 intro n;have last:∀(acc pre:List Nat)(lim cnt:Nat),xg (T (pre++acc++[])) 3 pre.length (iu (pre++acc++[]) [46,46,46] (pre++acc++[]).length lim cnt (pre.length+acc.length))=[T acc]:=λacc pre lim cnt=>by
  rw[gj,Au (by rw[aP];exact Ay (by decide))];rw[XS,eQ];rw[FY];simp
 induction n with
 |zero=>
  intro acc r pre lim cnt h hc;rw[Bk.mp (Gk.mp h),yA];exact last acc pre lim cnt
 |succ n J=>
  intro acc r pre lim cnt h hc;rw[qN];by_cases h1:r.take 3=[46,46,46]
  ·refine dc (Hm (pre:=pre) (acc:=acc) h1) λe O R=>?_
   have hr:r=[46,46,46]++r.drop 3:=by rw[<-h1,Bh]
   have S:r.length=3+(r.drop 3).length :=(congrArg mX hr).trans aP;have J:=J [] (r.drop 3) (pre++acc++[46,46,46]) lim (cnt+1) (by rw[ez];exact o_ h) (by exact YS hc S);rw[if_pos h1,GK (by decide) (by exact cK (oS (c8 ..)) hc) O R];rw[X5];rw[gj,dm (pre++acc) [46,46,46] (r.drop 3),<-hr]at J;rw[show pre.length+acc.length+[46,46,46].length =(pre++acc++[46,46,46]).length +([]:List Nat).length by rw[aP,aP];rfl,show pre.length+acc.length+3=(pre++acc++[46,46,46]).length by rw[aP,aP];rfl,J,bX,FY];congr 2
   simp
  ·rw[if_neg h1]
   by_cases h2:r=[]
   ·rw[if_pos h2,h2];exact last acc pre lim cnt
   ·rw[if_neg h2]
    refine aG (take1 h2) λc N _=>?_;have hr:r=[c]++r.drop 1:=by rw[<-N,Bh]
    have l1:r.length=1+(r.drop 1).length :=(congrArg mX hr).trans aP;have e:(pre++acc++r).drop (pre.length+acc.length)=r:=by rw[<-aP,Ao]
    have J:=J (acc++[c]) (r.drop 1) pre lim cnt (by rw[ez];exact o_ h) (by exact bQ (fW (aw (dg ..) (bS l1.symm)) _) hc);rw[Ag (by rw[e];exactλz=>h1 z.2),N,<-J,show pre++(acc++[c])++r.drop 1=pre++acc++r by rw[<-dm,dm,<-hr],show pre.length+(acc++[c]).length =pre.length+acc.length+1 by rw[aP];rfl]
theorem BS:∀(n:Nat)(acc r pre:List Nat)(lim:Nat),r.length<=n->1<=lim->(iu (pre++r) [46,46,46] (pre++r).length lim 0 pre.length=[]/\jQ n acc r=[acc++r])\/((iu (pre++r) [46,46,46] (pre++r).length lim 0 pre.length).isEmpty =false/\∃a b t,jQ n acc r=a::b::t):=by
 intro n;have last:∀(pre:List Nat)(lim:Nat),iu pre [46,46,46] pre.length lim 0 pre.length=[]:=λpre lim=>Au (Ay (by decide));induction n with
 |zero=>
  intro acc r pre lim h hl;left
  rw[Bk.mp (Gk.mp h),yA,gj,gj];exact⟨last pre lim,rfl⟩
 |succ n J=>
  intro acc r pre lim h hl;rw[qN];by_cases h1:r.take 3=[46,46,46]
  ·right
   refine dc (Hm (pre:=pre) (acc:=[]) h1) λe N O=>?_;simp only[gj,nI,Fb]at e N O;rw[if_pos h1,GK (by decide) hl N O];refine⟨rfl,?_⟩;refine mN (rR (HS n [] (r.drop 3))) λb t e=>?_;exact⟨acc,b,t,by rw[e]⟩
  ·rw[if_neg h1]
   by_cases h2:r=[]
   ·left
    rw[if_pos h2,h2,gj,gj];exact⟨last pre lim,rfl⟩
   ·rw[if_neg h2]
    refine aG (take1 h2) λc R _=>?_;have hr:r=[c]++r.drop 1:=by rw[<-R,Bh]
    have l1:r.length=1+(r.drop 1).length :=(congrArg mX hr).trans aP;have J:=J (acc++[c]) (r.drop 1) (pre++[c]) lim (by rw[ez];exact o_ h) hl;rw[dm,dm acc,<-hr,show(pre++[c]).length =pre.length+1 from aP]at J;rw[Ag (by rw[Ao];exactλz=>h1 z.2),R];exact J
theorem A2(w:List Nat):(ju w).length <=w.length+1:=by
 have:∀n acc r,(jQ n acc r).length <=n+1:=by
  intro n;induction n with
  |zero=>intro acc r;exact a6 _
  |succ n J=>
   intro acc r;rw[qN];split
   ·rw[dH];exact fj (J _ _)
   ·split
    ·exact fj (cJ _)
    ·exact oX (J _ _)
 exact this _ _ _
theorem Mx:∀(n:Nat)(acc r:List Nat),r.length<=n->∀s∈jQ n acc r,s.length<=acc.length+r.length:=by
 intro n;induction n with
 |zero=>intro acc r h s hs;rw[yA]at hs;rw[cx.mp hs];exact c8 ..
 |succ n J=>
  intro acc r h s hs;rw[qN]at hs;split at hs
  ·rcases bJ.mp hs with rfl|hs
   ·exact c8 ..
   ·have:=J [] (r.drop 3) (by rw[ez];exact o_ h) s hs
    rw[ez]at this;exact aw this (by exact aw (bS (hH _)) (aw (iU ..) (dg ..)))
  ·split at hs
   ·rw[cx.mp hs];exact c8 ..
   ·rename_i h2
    have N:=Fs.mpr h2;have:=J (acc++r.take 1) (r.drop 1) (by rw[ez];exact o_ h) s hs;rw[aP,iE,ez]at this;exact aw this (aw (bS (nN ..)) (fW (aw (iR (uC ..) _) (bS (qi N))) _))
theorem M5(w:List Nat)(st:St)(hw:w.length<=10000)(h:∃a b t,ju w=a::b::t):yn [.str (T w),.str (T [46,46,46])] st=some (.ref st.length,st++[.list (bx (ju w))]):=by
 have hlen:=A2 w;have ho:=(BS w.length [] w [] (w.length+1) (a6 _) (fj (cJ _))).resolve_left (λz=>by
  refine lT h λa b t e=>?_;rw[ju,z.2]at e;cases e)
 have J:partsBetween (T w) (occurrences (T w) (T [46,46,46]) 0 (T w).length ((T w).length +1)) (T [46,46,46]).length =(ju w).map T:=by
  rw[Zz,eQ,eQ,yV];exact TU w.length [] w [] (w.length+1) 0 (a6 _) (by exact oS (bS (hH _)))
 have O:(occurrences (T w) (T [46,46,46]) 0 (T w).length ((T w).length +1)).isEmpty =false:=by rw[yV,eQ];exact ho.1
 have N:Bf (T w) (T [46,46,46])=(ju w).map T:=by
  have h3:3<=w.length:=by
   refine lT h λa b t e=>?_;by_cases q:3<=w.length
   ·exact q
   ·exfalso
    have:∀n acc r,r.length<3->(jQ n acc r).length =1:=by
     intro n;induction n with
     |zero=>intro acc r _;rw[yA];rfl
     |succ n R=>
      intro acc r hr;rw[qN,if_neg (λz=>by have:=congrArg mX z;rw[iE]at this;have:min 3 r.length=3:=this;exact absurd (aw (bS this.symm) (j3 ..)) (nJ hr))];split
      ·rfl
      ·exact R _ _ (by rw[ez];exact bQ (iU ..) hr)
    have z:=this w.length [] w (by exact Nat.lt_of_not_ge q);rw[ju]at e;rw[e]at z;exact absurd z (by exactλh=>se _ (uw h))
  unfold Bf;rw[if_neg,if_neg (by rw[O];exact d9),J];rw[Na];have h1:=Lk (T w);simp[eQ];exact⟨h3,jh h1⟩
 show(if(_==0)=false/\_/\_ then _ else none:Option _)=_;rw[if_pos,N,br]
 ·rfl
 ·refine⟨rfl,by exact aw hw (dg ..),?_⟩
  rw[J,aQ,sizeLine_eq];exact aw hlen (aw (fj hw) (by decide))
theorem OT(G w:List Nat)(p q:Nat)(J:q<=G.length):tc (T G) (T w) (p:Int) (q:Int)=match iu G w q 1 0 p with|k::_=>(k:Int)|[]=>-1:=by
 unfold tc;have f1:fromIndex (T G).length (p:Int)=p:=by
  unfold fromIndex
  have:¬((p:Int)<0):=by exact ib.mpr (eu _)
  rw[if_neg this];exact rfl
 have f2:min (fromIndex (T G).length (q:Int)) (T G).length =q:=by
  have:fromIndex (T G).length (q:Int)=q:=by
   unfold fromIndex
   have:¬((q:Int)<0):=by exact ib.mpr (eu _)
   rw[if_neg this];exact rfl
  rw[this,eQ];exact oW J
 rw[f1,f2,yV];all_goals rfl
noncomputable def su:SM:=(ao (bj 12 (bU jr yM (aa 9) (ab (aa 11) (ab (aa 12) (ab (aa 13) ag)))))
 (ao (cn (aT oLt (aa 12) (xk (.int 0))) (ao (cy (xk (.bool false)))
 aC) aC)
 (ao (eS 12 gO (bK iv (ab (aa 11) ag)))
 aC)))
theorem Se(F:aj)(st:St)(G w:List Nat)(p q:Nat)(R:F.lookup 9=some (.str (T G)))(J:F.lookup 11=some (.str (T w)))(N:F.lookup 12=some (.int p))(O:F.lookup 13=some (.int q)):
 bU jr yM (aa 9) (ab (aa 11) (ab (aa 12) (ab (aa 13) ag))) F st=some (.int (tc (T G) (T w) p q),st):=by
 simp only[iI,bP,R,J,N,O,eK,dJ,bz,bo,qE,eM,d_];rfl
theorem occ_first(G w:List Nat)(q:Nat):∀(n p:Nat),q+1 -p=n->(∃k,iu G w q 1 0 p=[k]/\p<=k/\k+w.length<=q/\(G.drop k).take w.length=w/\∀j,p<=j->j<k->¬(j+w.length<=q/\(G.drop j).take w.length=w))\/
 (iu G w q 1 0 p=[]/\∀j,p<=j->¬(j+w.length<=q/\(G.drop j).take w.length=w)):=by
 intro n;induction n with
 |zero=>
  intro p h;exact .inr ⟨Au (by exact cK (xO h) (c8 ..)),λj h1 h2=>by exact absurd (aw h1 (aw (c8 ..) h2.1)) (nJ (xO h))⟩
 |succ n J=>
  intro p h;by_cases hm:p+w.length<=q/\(G.drop p).take w.length=w
  ·exact .inl ⟨p,NC hm.1 hm.2,a6 _,hm.1,hm.2,λj h1 h2=>absurd h1 (jX.mpr h2)⟩
  ·rw[Ag hm]
   have up:∀j,p<=j->p+1<=j\/j=p:=λj h=>by exact(Nat.lt_or_eq_of_le h).imp id Eq.symm
   rcases J (p+1) (by exact congrArg qj h)with⟨k,a,b,c,d,e⟩|⟨a,b⟩
   ·exact .inl ⟨k,a,mW b,c,d,λj h1 h2=>(up j h1).elim (λz=>e j z h2) λz=>z▸hm⟩
   ·exact .inr ⟨a,λj h1=>(up j h1).elim (λz=>b j z) λz=>z▸hm⟩
theorem NP(G:List Nat)(hGl:G.length<=10000)(q:Nat)(hq:q<=G.length)(l:Nat)(xs:List (List Nat))(st:St)(hl:st[l]?=some (.list (bx xs))):∀(J:List (List Nat))(i fuel p:Nat)(F:aj),xs.drop i=J->J.length<fuel->(∀s∈J,s.length<=10000)->
 F.lookup 9=some (.str (T G))->F.lookup 12=some (.int p)->F.lookup 13=some (.int q)->p<=q->
 ∃F' fl,cA (.name 11) su fuel (.list l i) F st=some (fl,F',st)/\((Gp G q J p/\fl=.next)\/(¬Gp G q J p/\fl=.ret (.bool false))):=by
 intro J;induction J with
 |nil=>
  intro i fuel p F O hf _ _ _ _ _;cases fuel with
  |zero=>exact absurd hf (gk _)
  |succ fuel=>
   refine⟨F,.next,wH rfl ?_,.inl ⟨trivial,rfl⟩⟩;exact Io hl (o4 (by unfold bx;rw[aQ];simpa using O))
 |cons w J ih=>
  intro i fuel p F O hf hs h9 R S hp;cases fuel with
  |zero=>exact absurd hf (gk _)
  |succ fuel=>
   have hi:xs[i]?=some w:=by rw[<-lE,O];rfl
   have hn:=Io hl (i:=i) (x:=some (.str (T w))) (by unfold bx;rw[dO,hi];rfl);have hwl:w.length<=10000:=hs w (cj ..);have g9:(F.put 11 (.str (T w))).lookup 9=some (.str (T G)):=by rw[bW _ _ _ _ (by decide)];exact h9
   have U:(F.put 11 (.str (T w))).lookup 12=some (.int p):=by rw[bW _ _ _ _ (by decide)];exact R
   have N:(F.put 11 (.str (T w))).lookup 13=some (.int q):=by rw[bW _ _ _ _ (by decide)];exact S
   have Y:(F.put 11 (.str (T w))).lookup 11=some (.str (T w)):=cX ..;have fe:=Se (F.put 11 (.str (T w))) st G w p q g9 Y U N;rw[OT G w p q hq]at fe;have hle:=λst=>uc w st (aw hwl (by decide));rw[nE rfl hn rfl];rcases occ_first G w q _ p rfl with⟨k,a,b,c,d,e⟩|⟨a,b⟩
   ·rw[a]at fe
    have k0:¬((k:Int)<0):=by exact ib.mpr (eu _)
    have b1:su (F.put 11 (.str (T w))) st=some (.next,((F.put 11 (.str (T w))).put 12 (.int (k:Int))).put 12 (.int ((k+w.length:Nat):Int)),st):=by
     unfold su;simp only[cM,gF,fe,bz,bo,eR,iM,iK,d7,bP,cX,cT,AH,decide_eq_true_eq,k0,if_false,ig,pB,j5,eK,dJ,bW _ 12 _ 11 (by decide),hle,El];rfl
    rw[b1];obtain⟨F',fl,e1,e2⟩:=ih (i+1) fuel (k+w.length) (((F.put 11 (.str (T w))).put 12 (.int (k:Int))).put 12 (.int ((k+w.length:Nat):Int))) (by rw[<-mf,O];rfl) (mZ hf) (λs m=>hs s (cw _ m))
     (by rw[bW _ _ _ _ (by decide),bW _ _ _ _ (by decide)];exact g9) (cX ..) (by rw[bW _ _ _ _ (by decide),bW _ _ _ _ (by decide)];exact N) c
    have iff:Gp G q (w::J) p↔Gp G q J (k+w.length):=⟨λ⟨k',a',b',c',d'⟩=>JG G (iR (fC λz=>e k' a' z ⟨b',c'⟩) _) d',λh=>⟨k,b,c,d,h⟩⟩;exact⟨F',fl,e1,by rw[iff];exact e2⟩
   ·rw[a]at fe
    have b1:su (F.put 11 (.str (T w))) st=some (.ret (.bool false),(F.put 11 (.str (T w))).put 12 (.int (-1)),st):=by
     unfold su;simp only[cM,gF,fe,bz,bo,eR,iM,iK,d7,bP,cX,cT,AH,decide_eq_true_eq,show((-1:Int)<0) by decide,if_true,jK]
    rw[b1];exact⟨_,_,rfl,.inr ⟨λ⟨k,h1,h2,h3,_⟩=>b k h1 ⟨h2,h3⟩,rfl⟩⟩
noncomputable def sy:SM:=(ao (cn (aT l8 (aa 12) (aa 13)) (ao (cy (xk (.bool false)))
 aC) aC)
 (ao (λF st=>((bL (aa 10)) F st).bind λp=>cA (.name 11) su 400 p.1 F p.2)
 (ao (cy (xk (.bool true)))
 aC)))
theorem O6(G:List Nat)(hGl:G.length<=10000)(p q l:Nat)(hq:q<=G.length)(O:List (List Nat))(F:aj)(st:St)(hl:st[l]?=some (.list (bx O)))(hn:O.length<400)(hy:∀s∈O,s.length<=10000)
 (h9:F.lookup 9=some (.str (T G)))(R:F.lookup 10=some (.ref l))(J:F.lookup 12=some (.int p))(N:F.lookup 13=some (.int q)):
 ∃F' b,sy F st=some (.ret (.bool b),F',st)/\(b=true↔p<=q/\Gp G q O p):=by
 have S:nr (.ref l) st=some (.list l 0):=by
  show((bF st l).map _).or _=_;rw[dC hl];rfl
 by_cases U:p<=q
 ·refine ou (NP G hGl q hq l O st hl O 0 400 p F rfl hn hy h9 J N U) λF' fl h c=>?_
  have Y:¬((q:Int)<(p:Int)):=by exact ib.mpr (lF.mpr U)
  rcases c with⟨c,rfl⟩|⟨c,rfl⟩
  ·refine⟨F',true,?_,λ_=>⟨U,c⟩,λ_=>rfl⟩
   simp only[sy,cM,eR,iM,iK,d7,bP,J,N,bz,bo,AU,decide_eq_true_eq,Y,if_false,ig,I3,R,S,h,jK,cT]
  ·refine⟨F',false,?_,λz=>(d9 z).elim,λz=>absurd z.2 c⟩
   simp only[sy,cM,eR,iM,iK,d7,bP,J,N,bz,bo,AU,decide_eq_true_eq,Y,if_false,ig,I3,R,S,h,jK,cT]
 ·have Y:((q:Int)<(p:Int)):=by exact m3.mpr (ux U)
  refine⟨F,false,?_,λz=>(d9 z).elim,λz=>absurd z.1 U⟩;simp only[sy,cM,eR,iM,iK,d7,bP,J,N,bz,bo,AU,decide_eq_true_eq,Y,if_true,jK,cT]
theorem IA(s0:St)(o o':AO):(s0++[o]).set s0.length o'=s0++[o']:=by
 rw[QD _ _ (a6 _)];simp
theorem Ti(s0:St)(o:AO):(s0++[o])[s0.length]?=some o:=uL ..
noncomputable def oJ:SM:=(cn (kn iw (aa 11)) (ao (cn (kn iw (bU jr uS (aa 9) (ab (aa 11) ag))) (ao (bj 12 (bK iv (ab (aa 11) ag)))
 (ao (oC (aa 10) (xk (.int 0)))
 aC)) (ao (cy (xk (.bool false)))
 aC))
 aC) aC)
noncomputable def rh:SM:=(cn (kn iw (aa 11)) (ao (cn (kn iw (bU jr vl (aa 9) (ab (aa 11) ag))) (ao (eS 13 kl (bK iv (ab (aa 11) ag)))
 (ao (oC (aa 10) (i9 (xk (.int 1))))
 aC)) (ao (cy (xk (.bool false)))
 aC))
 aC) aC)
@[simp] theorem Jm(l:Nat):(AV.ref l).r? =some l:=rfl
theorem Il(s0:St)(xs:List AV):bF (s0++[.list xs]) s0.length=some xs:=dC (Ti ..)
theorem M4(F:aj)(s0:St)(x:AV)(xs:List AV)(J:F.lookup 10=some (.ref s0.length))(h:(x::xs).length <=16777216):oC (aa 10) (xk (.int 0)) F (s0++[.list (x::xs)])=some (.next,F,s0++[.list xs]):=by
 unfold oC;simp only[bP,J,cT,bz,bo,Jm,mE,Il];rw[if_pos ⟨show _<=sizeLine from h,by decide⟩];have q:seqIndex? 0 (x::xs).length =some 0:=by unfold seqIndex?;simp
 rw[q];simp only[bz,IA];rfl
theorem Pr(F:aj)(s0:St)(x:AV)(xs:List AV)(J:F.lookup 10=some (.ref s0.length))(h:(xs++[x]).length <=16777216):oC (aa 10) (i9 (xk (.int 1))) F (s0++[.list (xs++[x])])=some (.next,F,s0++[.list xs]):=by
 unfold oC;simp only[bP,J,cT,Cm,mE,bz,bo,Jm,Il];rw[if_pos ⟨show _<=sizeLine from h,by decide⟩];have q:seqIndex? (-1) (xs++[x]).length =some xs.length:=by unfold seqIndex?;simp;exact m1 _
 rw[q];simp only[bz,IA];rw[List.eraseIdx_append_of_length_le (a6 _)];simp
theorem VE(G P:List Nat)(R:List (List Nat))(F:aj)(s0:St)(hP:P.length<=10000)(hR:R.length<=10000)(U:F.lookup 9=some (.str (T G)))(N:F.lookup 10=some (.ref s0.length))(O:F.lookup 11=some (.str (T P)))(Y:F.lookup 12=some (.int 0))(e:Int)(S:F.lookup 13=some (.int e))
 (hok:G.take P.length=P/\P.length<=G.length):
 ∃F',oJ F (s0++[.list (bx (P::R))])=some (.next,F',s0++[.list (bx ((if P=[]then[[]]else[])++R))])/\F'.lookup 12=some (.int (P.length:Nat))/\F'.lookup 9=some (.str (T G))/\F'.lookup 10=some (.ref s0.length)/\F'.lookup 13=some (.int e):=by
 have ht:=λst=>xc P st (by exact aw hP (dg ..));cases J:P with
 |nil=>
  subst J;refine⟨F,?_,Y,U,N,S⟩;simp only[oJ,eR,lK,bP,O,bz,bo,ht];rfl
 |cons c P'=>
  rw[<-J];have hne:P≠[]:=by rw[J];simp
  have hl0:(P.length !=0)=true:=by rw[J];simp
  refine⟨F.put 12 (.int (P.length:Nat)),?_,cX ..,by rw[bW _ _ _ _ (by decide)];exact U,by rw[bW _ _ _ _ (by decide)];exact N,by rw[bW _ _ _ _ (by decide)];exact S⟩;have hs:∀st,uS [.str (T G),.str (T P)] st=some (.bool true,st):=λst=>by
   show some (AV.bool (xm (T G) (T P)),st)=_;rw[DT,decide_eq_true hok]
  have hl:=λst=>uc P st (by exact aw hP (dg ..));have hd:=M4 (F.put 12 (.int (P.length:Nat))) s0 (.str (T P)) (bx R) (by rw[bW _ _ _ _ (by decide)];exact N) (by simp[bx];exact aw hR (dg ..));have htx:bx (P::R)=.str (T P)::bx R:=rfl;simp only[oJ,eR,lK,bP,O,U,bz,bo,ht,hl0,if_true,cM,iI,qE,eK,dJ,eM,d_,hs,wA,gF,j5,hl,htx,hd,ig,if_neg hne]
theorem Vj(G P:List Nat)(R:List (List Nat))(F:aj)(s0:St)(S:P.length<=10000)(U:F.lookup 9=some (.str (T G)))(N:F.lookup 11=some (.str (T P)))(J:¬(G.take P.length=P/\P.length<=G.length)):
 oJ F (s0++[.list (bx (P::R))])=some (.ret (.bool false),F,s0++[.list (bx (P::R))]):=by
 have ht:=λst=>xc P st (by exact aw S (dg ..));have O:(P.length !=0)=true:=by
  cases P with
  |nil=>exact absurd ⟨by simp,by simp⟩ J
  |cons _ _=>simp
 have hs:∀st,uS [.str (T G),.str (T P)] st=some (.bool false,st):=λst=>by
  show some (AV.bool (xm (T G) (T P)),st)=_;rw[DT,decide_eq_false J]
 simp only[oJ,eR,lK,bP,N,U,bz,bo,ht,O,if_true,cM,iI,qE,eK,dJ,eM,d_,hs,wA,jK,cT];rfl
theorem Wq(G L:List Nat)(R:List (List Nat))(F:aj)(s0:St)(hL:L.length<=10000)(hR:R.length<=10000)(h9:F.lookup 9=some (.str (T G)))(N:F.lookup 10=some (.ref s0.length))(O:F.lookup 11=some (.str (T L)))(b:Int)(S:F.lookup 12=some (.int b))(U:F.lookup 13=some (.int (G.length:Nat)))
 (Y:L.length<=G.length/\G.drop (G.length -L.length)=L):
 ∃F',rh F (s0++[.list (bx (R++[L]))])=some (.next,F',s0++[.list (bx (R++(if L=[]then[[]]else[])))])/\F'.lookup 13=some (.int ((G.length -L.length:Nat):Int))/\F'.lookup 9=some (.str (T G))/\F'.lookup 10=some (.ref s0.length)/\F'.lookup 12=some (.int b):=by
 have ht:=λst=>xc L st (by exact aw hL (dg ..));cases J:L with
 |nil=>
  subst J;refine⟨F,?_,by simpa using U,h9,N,S⟩;simp only[rh,eR,lK,bP,O,bz,bo,ht];rfl
 |cons c L'=>
  rw[<-J];have hne:L≠[]:=by rw[J];simp
  have hl0:(L.length !=0)=true:=by rw[J];simp
  refine⟨F.put 13 (.int ((G.length -L.length:Nat):Int)),?_,cX ..,by rw[bW _ _ _ _ (by decide)];exact h9,by rw[bW _ _ _ _ (by decide)];exact N,by rw[bW _ _ _ _ (by decide)];exact S⟩;have hs:∀st,vl [.str (T G),.str (T L)] st=some (.bool true,st):=λst=>by
   show some (AV.bool (xx (T G) (T L)),st)=_;rw[Ep,decide_eq_true Y]
  have hl:=λst=>uc L st (by exact aw hL (dg ..));have hd:=Pr (F.put 13 (.int ((G.length -L.length:Nat):Int))) s0 (.str (T L)) (bx R) (by rw[bW _ _ _ _ (by decide)];exact N) (by simp[bx];exact aw hR (dg ..));have htx:bx (R++[L])=bx R++[.str (T L)]:=by simp[bx]
  have hsub:(AV.int ((G.length:Int) -(L.length:Int)))=.int ((G.length -L.length:Nat):Int):=by congr 1;exact(Int.ofNat_sub Y.1).symm
  simp only[rh,eR,lK,bP,O,h9,U,bz,bo,ht,hl0,if_true,cM,iI,qE,eK,dJ,eM,d_,hs,wA,pB,j5,hl,Mz,hsub,htx,hd,ig,if_neg hne,gj]
theorem WI(G L:List Nat)(R:List (List Nat))(F:aj)(s0:St)(hL:L.length<=10000)(S:F.lookup 9=some (.str (T G)))(N:F.lookup 11=some (.str (T L)))(J:¬(L.length<=G.length/\G.drop (G.length -L.length)=L)):
 rh F (s0++[.list (bx (R++[L]))])=some (.ret (.bool false),F,s0++[.list (bx (R++[L]))]):=by
 have ht:=λst=>xc L st (by exact aw hL (dg ..));have O:(L.length !=0)=true:=by
  cases L with
  |nil=>exact absurd ⟨by simp,by simp⟩ J
  |cons _ _=>simp
 have hs:∀st,vl [.str (T G),.str (T L)] st=some (.bool false,st):=λst=>by
  show some (AV.bool (xx (T G) (T L)),st)=_;rw[Ep,decide_eq_false J]
 simp only[rh,eR,lK,bP,N,S,bz,bo,ht,O,if_true,cM,iI,qE,eK,dJ,eM,d_,hs,wA,jK,cT];rfl
theorem EC(x:List Nat)(st:St):mC (.str (T [46,46,46])) (.str (T x)) st=some (.bool (iu x [46,46,46] x.length 1 0 0).isEmpty,st):=by
 show some (AV.bool (!(!(occurrences (T x) (T [46,46,46]) 0 (T x).length 1).isEmpty)),st)=_;rw[yV,eQ,QV]
theorem Ut(g w:List Nat):l5 g [w] 0↔w=g:=by
 rw[pE];unfold At;rw[hH,An];constructor
 ·intro⟨⟨a,b⟩,c⟩
  have:w.length=g.length:=c.elim (λh=>h.2) λ⟨_,_,_,h⟩=>dA h;rw[this,uo]at b;exact b.symm
 ·rintro rfl
  exact⟨⟨a6 _,uo⟩,.inl ⟨rfl,rfl⟩⟩
theorem rK{ks:List Nat}{f:SM}{avs:List AV}{st st':St}{v:AV}{F':aj}(h:ks.length=avs.length)(e:f (ks.zip avs) st=some (.ret v,F',st')):bG ks f avs st=some (v,st'):=by
 rw[so _ _ _ _ h,e];rfl
noncomputable def vg:SM:=ao (bj 11 (aH (aa 10) (i9 (xk (.int 1))))) (ao rh sy)
noncomputable def uY:SM:=(ao (cn (aT mC (xk (.str "...")) (aa 8)) (ao (cy (ay oEq (aa 8) (aa 9)))
 aC) aC)
 (ao (bj 10 (bU jr yn (aa 8) (ab (xk (.str "...")) ag)))
 (ao (x8 (aT zt (bK iv (ab (aa 10) ag)) (xk (.int 2))))
 (ao (pG [12,13] (ab (xk (.int 0)) (ab (bK iv (ab (aa 9) ag)) ag)))
 (ao (bj 11 (aH (aa 10) (xk (.int 0))))
 (ao oJ vg))))))
theorem WA:lz=uY:=rfl
theorem MA(w g s0 sm:List Nat)(J:List (List Nat))(hw:w.length<=10000)(hg:g.length<=10000)(hs:ju w=s0::(J++[sm]))(st:St):
 uY [(8,.str (T w)),(9,.str (T g))] st=ao oJ vg [(8,.str (T w)),(9,.str (T g)),(10,.ref st.length),(13,.int (g.length:Nat)),(12,.int 0),(11,.str (T s0))] (st++[.list (bx (s0::(J++[sm])))]):=by
 have h8:fG 8 [(8,AV.str (T w)),(9,AV.str (T g))]=some (.str (T w)):=rfl;have h9:fG 9 [(8,AV.str (T w)),(9,AV.str (T g))]=some (.str (T g)):=rfl;have N:∃a b t,ju w=a::b::t:=by
  rw[hs];refine mN (rR (show J++[sm]≠[] by simp)) λb t e=>?_;exact⟨s0,b,t,by rw[e]⟩
 have O:=M5 w st hw N;have R:=A2 w;rw[hs]at O R;have U:mC (.str (T [46,46,46])) (.str (T w)) st=some (.bool false,st):=by
  have:=(BS w.length [] w [] 1 (a6 _) (a6 _)).resolve_left (λz=>by
   refine lT N λa b t e=>?_;rw[ju,z.2]at e;cases e)
  rw[EC];exact congrArg (λb=>some (AV.bool b,st)) this.1
 have hlen:=Eg (bx (s0::(J++[sm]))) st.length (st++[.list (bx (s0::(J++[sm])))]) (zv ..) (by unfold bx;rw[aQ];exact aw R (aw (fj hw) (by decide)));have Y:((2:Int)<=((bx (s0::(J++[sm]))).length :Nat)):=by simp[bx];exact Bp (Bp (eu _) 1) 1
 have hlg:=λst'=>uc g st' (aw hg (by decide));have hit:=D1 (bx (s0::(J++[sm]))) st.length 0 (.str (T s0)) (st++[.list (bx (s0::(J++[sm])))]) (zv ..) rfl (by decide);rw[show((0:Nat):Int)=0 from rfl]at hit;unfold uY;rw[cM];simp only[eR,iM,iK,d7,cT,bP,h8,h9,bz,bo,pA,U,je,if_false,ig];rw[cM];simp only[gF,iI,bP,h8,bz,bo,qE,eK,cT,pA,dJ,eM,d_,O];rw[cM];have q10:(aj.put [(8,AV.str (T w)),(9,.str (T g))] 10 (.ref st.length)).lookup 10=some (.ref st.length):=rfl;have q9:(aj.put [(8,AV.str (T w)),(9,.str (T g))] 10 (.ref st.length)).lookup 9=some (.str (T g)):=rfl;simp only[x8,iM,iK,d7,j5,eK,bP,q10,dJ,bz,bo,hlen,cT,Rj,decide_eq_true_eq];rw[if_pos Y];simp only[bo];rw[cM];simp only[H7,eK,cT,j5,bP,q9,dJ,bz,bo,hlg];rw[if_pos ⟨by rw[sizeLine_eq];simp,rfl⟩];have qp:(aj.put [(8,AV.str (T w)),(9,.str (T g))] 10 (.ref st.length)).C3 [12,13] [.int 0,.int (g.length:Nat)]=some [(8,.str (T w)),(9,.str (T g)),(10,.ref st.length),(13,.int (g.length:Nat)),(12,.int 0)]:=rfl;simp only[qp,bz,bo];rw[cM];have S:fG 10 [(8,AV.str (T w)),(9,.str (T g)),(10,.ref st.length),(13,.int (g.length:Nat)),(12,.int 0)]=some (.ref st.length):=rfl;simp only[gF,CO,d7,bP,S,cT,bz,bo,hit];rfl
theorem Oh(w g s0 sm:List Nat)(J:List (List Nat))(S:s0.length<=10000)(U:sm.length<=10000)(hm:∀s∈J,s.length<=10000)(hn:J.length<=300)(hg:g.length<=10000)(st:St):
 ∃F' b X,ao oJ vg [(8,.str (T w)),(9,.str (T g)),(10,.ref st.length),(13,.int (g.length:Nat)),(12,.int 0),(11,.str (T s0))] (st++[.list (bx (s0::(J++[sm])))])=some (.ret (.bool b),F',st++[X])/\(b=true↔l5 g (s0::(J++[sm])) 0):=by
 have at0:At g 0 s0↔g.take s0.length=s0/\s0.length<=g.length:=by
  unfold At;rw[hH,An];exact and_comm
 have Y:sm.length<=g.length->(At g (g.length -sm.length) sm↔g.drop (g.length -sm.length)=sm):=λh=>by
  unfold At;rw[kx (by exact bS (ez.trans (Nat.sub_sub_self h)))];exact⟨λz=>z.2,λz=>⟨by exact bS (qd h),z⟩⟩
 rw[Od,at0];by_cases c0:g.take s0.length=s0/\s0.length<=g.length
 ·refine Ip (VE g s0 (J++[sm]) [(8,.str (T w)),(9,.str (T g)),(10,.ref st.length),(13,.int (g.length:Nat)),(12,.int 0),(11,.str (T s0))] st S (by rw[aP,gZ];exact aw (fj hn) (by decide)) rfl rfl rfl rfl g.length rfl c0) λF1 e1 a12 a9 a10 a13=>?_
  obtain⟨R,hR⟩:∃R,R=(if s0=[]then[[]]else[])++J:=⟨_,rfl⟩;have N:R.length<=301:=by rw[hR,aP];split<;>simp<;>(first|exact aw hn (by decide)|exact aw (bS (gH ..)) (fj hn))
  rw[<-dm,<-hR]at e1;have hit:=tW (bx (R++[sm])) st.length 1 (.str (T sm)) (st++[.list (bx (R++[sm]))]) (zv ..) (by unfold bx;rw[dF];exact Bx ..) (by decide) (by unfold bx;rw[aQ];exact Bv ..) (by decide);rw[show-((1:Nat):Int)=-1 from rfl]at hit;have e2:ao oJ vg [(8,.str (T w)),(9,.str (T g)),(10,.ref st.length),(13,.int (g.length:Nat)),(12,.int 0),(11,.str (T s0))] (st++[.list (bx (s0::(J++[sm])))])=ao rh sy (F1.put 11 (.str (T sm))) (st++[.list (bx (R++[sm]))]):=by
   rw[cM,e1];simp only[bo];unfold vg;rw[cM];simp only[gF,CO,d7,bP,a10,cT,Cm,mE,bz,bo,hit]
  rw[e2];have g9:(F1.put 11 (.str (T sm))).lookup 9=some (.str (T g)):=by rw[bW _ _ _ _ (by decide)];exact a9
  have g10:(F1.put 11 (.str (T sm))).lookup 10=some (.ref st.length):=by rw[bW _ _ _ _ (by decide)];exact a10
  have g12:(F1.put 11 (.str (T sm))).lookup 12=some (.int (s0.length:Nat)):=by rw[bW _ _ _ _ (by decide)];exact a12
  have g13:(F1.put 11 (.str (T sm))).lookup 13=some (.int (g.length:Nat)):=by rw[bW _ _ _ _ (by decide)];exact a13
  by_cases O:sm.length<=g.length/\g.drop (g.length -sm.length)=sm
  ·refine Ip (Wq g sm R (F1.put 11 (.str (T sm))) st U (by exact j0 N) g9 g10 (cX ..) (s0.length:Nat) g12 g13 O) λF2 e3 b13 b9 b10 b12=>?_
   obtain⟨F3,b,e4,e5⟩:=O6 g hg s0.length (g.length -sm.length) st.length (iU ..) (R++(if sm=[]then[[]]else[])) F2 (st++[.list (bx (R++(if sm=[]then[[]]else[])))]) (zv ..) (by rw[aP];split<;>simp<;>(first|exact bQ N (by decide)|exact bQ (fj N) (by decide)))
    (λs m=>by
     rw[hR,eh,eh]at m;rcases m with(m|m)|m
     ·split at m
      ·rw[cx.mp m];exact cJ _
      ·exact(a7 m).elim
     ·exact hm s m
     ·split at m
      ·rw[cx.mp m];exact cJ _
      ·exact(a7 m).elim) b9 b10 b12 b13
   refine⟨F3,b,_,by rw[cM,e3];exact e4,e5.trans ?_⟩;rw[Y O.1];have gp:s0.length<=g.length -sm.length->(Gp g (g.length -sm.length) (R++(if sm=[]then[[]]else[])) s0.length↔Gp g (g.length -sm.length) J s0.length):=λh=>by
    have k1:Gp g (g.length -sm.length) (R++(if sm=[]then[[]]else[])) s0.length↔Gp g (g.length -sm.length) R s0.length:=by
     split
     ·exact BG g h
     ·rw[gj]
    rw[k1,hR];split
    ·exact DX g h
    ·rw[d_]
   exact⟨λz=>⟨c0,O.2,z.1,O.1,(gp z.1).mp z.2⟩,λz=>⟨z.2.2.1,(gp z.2.2.1).mpr z.2.2.2.2⟩⟩
  ·refine⟨F1.put 11 (.str (T sm)),false,_,by rw[cM,WI g sm R _ st U g9 (cX ..) O];rfl,λz=>(d9 z).elim,λz=>absurd ⟨z.2.2.2.1,(Y z.2.2.2.1).mp z.2.1⟩ O⟩
 ·exact⟨_,false,_,by rw[cM,Vj g s0 (J++[sm]) _ st S rfl rfl c0];rfl,λz=>(d9 z).elim,λz=>absurd z.1 c0⟩
theorem Vw{W:List Nat}{want name:List Nat}(hw:want.length<=299)(O:name.length<=299):iz W (bG [8,9] lz) [sD want,sD name] (.bool (jU want name)):=y7 λst x y bd R S=>by
 cases R.s'
 cases S.s'
 have hb:∀b:Bool,(b=true↔l5 name (ju want) 0)->b=jU want name:=λb h=>qv.mpr (h.trans (Wm name want).symm);rw[WA];rcases BS want.length [] want [] 1 (a6 _) (a6 _)with⟨h1,h2⟩|⟨h1,a,b,t,h2⟩
 ·have e:uY ([8,9].zip [.str (T want),.str (T name)]) st=some (.ret (.bool (want==name)),[(8,.str (T want)),(9,.str (T name))],st):=by
   have U:fG 8 [(8,AV.str (T want)),(9,AV.str (T name))]=some (.str (T want)):=rfl;have Y:fG 9 [(8,AV.str (T want)),(9,AV.str (T name))]=some (.str (T name)):=rfl;have N:mC (.str (T [46,46,46])) (.str (T want)) st=some (.bool true,st):=by
    rw[EC];exact congrArg (λl:List Nat=>some (AV.bool l.isEmpty,st)) h1
   simp only[uY,cM,eR,iM,iK,d7,cT,bP,kC,mY,U,Y,bz,bo,pA,N,if_true,jK,nH]
  rw[rK rfl e];refine⟨.rfl',?_⟩;rw[hb (want==name) (by rw[ju,h2,d_,Ut,beq_iff_eq])];exact .bool _
 ·have J:ju want=a::((b::t).dropLast ++[(b::t).getLast (qx _ _)]):=by rw[List.dropLast_concat_getLast];exact h2
  have short:∀s∈ju want,s.length<=10000:=λs m=>aw (Mx _ _ _ (a6 _) s m) (by exact aw (fW hw _) (by decide));have hl:=A2 want;rw[J]at short hl;obtain⟨F',r,X,e1,e2⟩:=Oh want name a ((b::t).getLast (qx _ _)) (b::t).dropLast (short _ (cj ..)) (short _ (cw _ (List.mem_append_right _ (cx.mpr rfl)))) (λs m=>short s (cw _ (Aq _ m)))
   (by rw[dH,aP]at hl;exact aw (c8 ..) (aw (AJ hl) (aw hw (by decide)))) (by exact j0 O) st
  rw[rK (ks:=[8,9]) (avs:=[.str (T want),.str (T name)]) rfl ((MA want name a _ _ (by exact j0 hw) (by exact j0 O) J st).trans e1)];refine⟨.app _,?_⟩;rw[hb r (by rw[J];exact e2)];exact .bool _
noncomputable def LD(sA:ak)(ln:Nat)(pb:Nat):List (Nat×AV):=[(32,.int ln),(31,.val (.ref sA)),(30,.str (T [10,9,13,32])),(29,.ref pb)]
structure Pl where
 sA:ak
 X:List Nat
 k:Nat
 d:Nat
 lx:Nat
 pb:Nat
 kd:k≠d
 YL:k≠lx
 Yu:d≠lx
 pk:pb≠k
 pd:pb≠d
variable(Z:Pl)
structure Lx(st:St)(p:Nat)(ln:Nat):Prop where
 inst:st[Z.lx]?=some (.inst 69 Z.d)
 dict:st[Z.d]?=some (.dict (LD Z.sA ln Z.pb))
 pl:∃ps:List Int,ps.length<=p/\st[Z.k]?=some (.list (ps.map .int ++[.int p]))
noncomputable def iP(st st':St):Prop:=st'.length=st.length/\∀i,i≠Z.k->i≠Z.d->st'[i]?=st[i]?
variable{Z}
theorem iP.trans{a b c:St}(h:iP Z a b)(g:iP Z b c):iP Z a c:=⟨g.1.trans h.1,λi h1 h2=>(g.2 i h1 h2).trans (h.2 i h1 h2)⟩
theorem Jz{st:St}{p ln n:Nat}(L:Lx Z st p ln)(hp:p<=100000)(hX:Z.X.length<=10000):
 ∃st',fw (T Z.X) Z.k [.int n] st=some (.str (T ((Z.X.drop p).take n)),st')/\Lx Z st' (p+n) ln/\iP Z st st'\/n=0:=by
 by_cases hn:n=0
 ·exact⟨st,.inr hn⟩
 refine aG L.pl λps N hk=>?_;have O:=mT hk;have R:fG 1 [(4,AV.int n),(0,.str (T Z.X)),(1,.ref Z.k)]=some (.ref Z.k):=rfl;have S:fG 0 [(4,AV.int n),(0,.str (T Z.X)),(1,.ref Z.k)]=some (.str (T Z.X)):=rfl;have U:fG 4 [(4,AV.int n),(0,.str (T Z.X)),(1,.ref Z.k)]=some (.int n):=rfl;have i1:=tW (ps.map .int ++[.int p]) Z.k 1 (.int p) st hk (Bx ..) (by decide) (Bv ..) (by decide);have ap:=rM (ps.map .int ++[.int p]) Z.k (.int ((p+n:Nat):Int)) st hk (by simp;exact aw N (aw hp (by decide)));let st':=st.set Z.k (.list (ps.map .int ++[.int p]++[.int ((p+n:Nat):Int)]));have J:st'[Z.k]?=some (.list (ps.map .int ++[.int p]++[.int ((p+n:Nat):Int)])):=by rw[get_set,if_pos rfl,if_pos O]
 have j2:=tW (ps.map .int ++[.int p]++[.int ((p+n:Nat):Int)]) Z.k 2 (.int p) st' J (M7 ..) (by decide) (MD ..) (by decide);have j1:=tW (ps.map .int ++[.int p]++[.int ((p+n:Nat):Int)]) Z.k 1 (.int ((p+n:Nat):Int)) st' J (Bx ..) (by decide) (Bv ..) (by decide);rw[show-((1:Nat):Int)=-1 from rfl]at i1 j1;rw[show-((2:Nat):Int)=-2 from rfl]at j2;have hs:s_ (.str (T Z.X)) (some (p:Int)) (some ((p+n:Nat):Int)) none st'=some (.str (T ((Z.X.drop p).take n)),st'):=by
  show(if(T Z.X).length <=sizeLine/\(none:Option Int)=none then some (AV.str (iV (T Z.X) (some (p:Int)) (some ((p+n:Nat):Int))),st')else none).or _=_;rw[eQ,if_pos ⟨by exact aw hX (dg ..),rfl⟩,xY _ _ _ (by exact c8 ..),show p+n -p=n by exact A0 ..];rfl
 have Y:(p:Int)+(n:Int)=((p+n:Nat):Int):=by exact rfl
 refine⟨st',.inl ⟨?_,⟨?_,?_,ps++[(p:Int)],by rw[aP];exact fV N (Nat.pos_of_ne_zero hn),?_⟩,by simp[st'],λi h1 h2=>by rw[get_set,if_neg h1]⟩⟩
 ·unfold fw
  simp only[C4,cM,BH,iI,bP,R,bz,bo,nF _ _ _ hk,eK,d7,CO,Cm,mE,cT,i1,U,ML,Y,dJ,eM,d_,ap,jK,RF,S,Ud,mE,show st.set Z.k (.list (ps.map .int ++[.int p]++[.int ((p+n:Nat):Int)]))=st' from rfl,j2,j1,RP,hs]
 ·rw[get_set,if_neg (λe=>Z.YL e.symm)];exact L.inst
 ·rw[get_set,if_neg (λe=>Z.kd e.symm)];exact L.dict
 ·rw[J];simp
theorem Ul{st:St}{p ln:Nat}(L:Lx Z st p ln):jk (.ref Z.lx) 31 st=some (69,some (.val (.ref Z.sA))):=uR L.inst L.dict
theorem Ji{st:St}{p ln:Nat}(L:Lx Z st p ln):jk (.ref Z.lx) 32 st=some (69,some (.int ln)):=uR L.inst L.dict
theorem Up{st:St}{p ln:Nat}(L:Lx Z st p ln):jk (.ref Z.lx) 30 st=some (69,some (.str (T [10,9,13,32]))):=uR L.inst L.dict
theorem CJ{st:St}{p ln:Nat}(L:Lx Z st p ln):jk (.ref Z.lx) 29 st=some (69,some (.ref Z.pb)):=uR L.inst L.dict
theorem sT{st:St}{p ln:Nat}(L:Lx Z st p ln)(k:Nat)(h:k≠32/\k≠31/\k≠30/\k≠29):jk (.ref Z.lx) k st=some (69,none):=by
 rw[uR L.inst L.dict,LD];have h1:(k==32)=false:=by simpa using h.1
 have h2:(k==31)=false:=by simpa using h.2.1
 have h3:(k==30)=false:=by simpa using h.2.2.1
 have J:(k==29)=false:=by simpa using h.2.2.2
 simp[fG,h1,h2,h3,J]
noncomputable def rc(Z:Pl):SM:=mc (bq Z.sA) (fw (T Z.X) Z.k)
noncomputable def pW(l:List Nat):Nat:=if l=[10]then 1 else 0
theorem yO{st:St}{p ln:Nat}(L:Lx Z st p ln)(hp:p<=100000)(hX:Z.X.length<=10000):
 ∃st',bG [27] (rc Z) [.ref Z.lx] st=some (.str (T ((Z.X.drop p).take 1)),st')/\Lx Z st' (p+1) (ln+pW ((Z.X.drop p).take 1))/\iP Z st st':=by
 refine bO (Jz (n:=1) L hp hX) λst1 h=>?_;refine dc (h.resolve_right (by decide)) λh1 O S1=>?_;rw[show((1:Nat):Int)=1 from rfl]at h1;have hF:fG 27 [(27,AV.ref Z.lx)]=some (.ref Z.lx):=rfl;have hrs:bq Z.sA (.val (.ref Z.sA)) st=some []:=by unfold bq;simp
 rw[so _ _ _ _ rfl];generalize (Z.X.drop p).take 1=c at*;have S:(aj.put [(27,AV.ref Z.lx)] 34 (.str (T c))).lookup 27=some (.ref Z.lx):=rfl;have J:(aj.put [(27,AV.ref Z.lx)] 34 (.str (T c))).lookup 34=some (.str (T c)):=rfl;have N:bj 34 (bU (bq Z.sA) (fw (T Z.X) Z.k) (jq 69 31 (aa 27)) (ab (xk (.int 1)) ag)) [(27,AV.ref Z.lx)] st=some (.next,aj.put [(27,AV.ref Z.lx)] 34 (.str (T c)),st1):=by
  have hh:handed (.val (.ref Z.sA))=true:=rfl;simp only[gF,iI,sC,bP,hF,bz,bo,Ul L,hh,and_self,if_true,hrs,eK,cT,dJ,d_,h1]
 by_cases hc:c=[10]
 ·let bI:=st1.set Z.d (.dict (LD Z.sA (ln+1) Z.pb))
  have hdl:=mT O.dict;have U:setOf 69 (.ref Z.lx) 32 (.int ((ln:Int)+1)) st1=some bI:=IM O.inst O.dict (by show 4<=1000;decide);have Y:xv 69 32 gO (aa 27) (xk (.int 1)) (aj.put [(27,AV.ref Z.lx)] 34 (.str (T c))) st1=some (.next,aj.put [(27,AV.ref Z.lx)] 34 (.str (T c)),bI):=by
   unfold xv;have hh:handed (.int ln)=true:=rfl;simp only[bP,S,bz,bo,Ji O,hh,and_self,if_true,cT,El,U]
  refine⟨bI,?_,?_,?_⟩
  ·have R:(c==[10])=true:=by simp[hc]
   simp only[rc,mc,cM,kC,mY,N,bo,eR,iM,iK,d7,bP,J,bz,cT,Dy,nH,R,if_true,Y,ig,jK]
  ·rw[hc]
   refine⟨?_,?_,?_⟩
   ·rw[get_set,if_neg (λe=>Z.Yu e.symm)];exact O.inst
   ·rw[get_set,if_pos rfl,if_pos hdl];rfl
   ·refine aG O.pl λps a b=>?_
    exact⟨ps,a,by rw[get_set,if_neg Z.kd];exact b⟩
  ·exact S1.trans ⟨by simp[bI],λi h1 h2=>by rw[get_set,if_neg h2]⟩
 ·have R:(c==[10])=false:=by simpa using hc
  refine⟨st1,?_,?_,S1⟩
  ·simp only[rc,mc,cM,kC,mY,N,bo,eR,iM,iK,d7,bP,J,bz,cT,Dy,nH,R,je,if_false,ig,jK]
  ·rw[show pW c=0 from if_neg hc];exact O
end Mine
namespace Mine
open PySem PyProof.Rows PySem.W PySem.Builtin PySem.Builtin.Str
variable{Z:Pl}
structure Fi(Z:Pl)(u:St)(b c:Nat):Prop where
 wc:u[b]?=some (.bound (.ref 52) (.ref Z.lx))
 tR:u[c]?=some (.nQ b (.str (T [])))
 bk:b≠Z.k
 bd:b≠Z.d
 ck:c≠Z.k
 cd:c≠Z.d
theorem Fi.same{u J:St}{b c:Nat}(h:Fi Z u b c)(s:iP Z u J):Fi Z J b c:=
 ⟨(s.2 b h.bk h.bd).trans h.wc,(s.2 c h.ck h.cd).trans h.tR,h.bk,h.bd,h.ck,h.cd⟩
noncomputable def nx(Z:Pl):Nat->St->Option (Option AV×St):=ng 52 (bG [27] (rc Z))
theorem Ez{u J:St}{b c fa:Nat}{g:List AV->St->Option (AV×St)}{V:AV}{x r:ae}(i1:u[c]?=some (.nQ b (.str x)))(b1:u[b]?=some (.bound (.ref fa) V))(h:g [V] u=some (.str r,J))
 (i2:J[c]?=some (.nQ b (.str x)))(b2:J[b]?=some (.bound (.ref fa) V)):ng fa g c u=some (qP c J x r):=by
 unfold ng;rw[i1];show(u[b]?).bind _=_;rw[b1];refine(if_pos rfl).trans ?_;rw[h];show(J[c]?).bind _=_;rw[i2];show(J[b]?).bind _=_;rw[b2];exact if_pos ⟨rfl,rfl⟩
theorem qA{u:St}{p ln b c ch:Nat}{r:List Nat}(L:Lx Z u p ln)(I:Fi Z u b c)(N:p<=100000)(O:Z.X.length<=10000)(h:Z.X.drop p=ch::r):
 ∃J,(It.gen c (nx Z c)).next u=some (some (.one (.str (T [ch])),.gen c (nx Z c)),J)/\Lx Z J (p+1) (ln+pW [ch])/\iP Z u J:=by
 refine di (yO L N O) λJ h1 h2 h3=>?_;rw[h]at h1 h2;have I':=I.same h3;refine⟨J,?_,h2,h3⟩;show((ng 52 (bG [27] (rc Z)) c u).map _)=_;rw[Ez I.tR I.wc h1 I'.tR I'.wc,qP,if_neg (by simp[Jl])];rfl
theorem T_{u:St}{p ln b c:Nat}(L:Lx Z u p ln)(I:Fi Z u b c)(N:p<=100000)(O:Z.X.length<=10000)(h:Z.X.drop p=[]):
 ∃J,(It.gen c (nx Z c)).next u=some (none,J.set c .gP)/\Lx Z J (p+1) ln/\iP Z u J:=by
 refine di (yO L N O) λJ h1 h2 h3=>?_;rw[h]at h1 h2;have I':=I.same h3;refine⟨J,?_,h2,h3⟩;show((ng 52 (bG [27] (rc Z)) c u).map _)=_;rw[Ez I.tR I.wc h1 I'.tR I'.wc,qP,if_pos (show T []=T (Bl 1 [])from rfl)];rfl
noncomputable def gd(its:List (Bool×Nat)):List Nat:=(its.map λp=>if p.1 then[92,p.2]else[p.2]).flatten
noncomputable def gi(its:List (Bool×Nat)):List Nat:=its.map (·.2)
theorem p7(p:Bool×Nat)(its):gd (p::its)=(if p.1 then[92,p.2]else[p.2])++gd its:=rfl
theorem HE(p:Bool×Nat)(its):gi (p::its)=p.2::gi its:=rfl
noncomputable def pK(Z:Pl):SM:=(ao (cn (aT oEq (aa 34) (xk (.str ("\\":ae)))) (ao (bj 34 (bU (f_ 69 35) (bG [27] (rc Z)) (aa 27) ag))
 aC) aC)
 aC)
noncomputable def DG(Z:Pl):SM:=(ao (cn (aT oEq (aa 34) (xk (.str ("\"":ae)))) (ao (cy (aa 33))
 aC) (pK Z))
 (ao (eS 33 gO (aa 34))
 aC))
noncomputable def Dr(Z:Pl):SM:=(ao (cn (aT ma (aa 34) (jq 69 30 (aa 27))) (ao (cy (aa 33))
 aC) (pK Z))
 (ao (eS 33 gO (aa 34))
 aC))
theorem HN{u:St}{p ln:Nat}{F:aj}{ch:Nat}(L:Lx Z u p ln)(S:p<=100000)(U:Z.X.length<=10000)(O:F.lookup 27=some (.ref Z.lx))(J:F.lookup 34=some (.str (T [ch]))):
 (ch≠92->pK Z F u=some (.next,F,u))/\(ch=92->∀e r,Z.X.drop p=e::r->∃N,pK Z F u=some (.next,F.put 34 (.str (T [e])),N)/\Lx Z N (p+1) (ln+pW [e])/\iP Z u N):=by
 constructor
 ·intro h
  have hb:(([ch]:List Nat)==[92])=false:=by simpa using h
  simp only[pK,cM,eR,iM,iK,d7,bP,J,bz,bo,cT,pS,nH,hb,je,if_false,ig]
 ·intro h e r hr
  refine di (yO L S U) λN h1 h2 h3=>?_;rw[hr]at h1 h2;have hb:(([ch]:List Nat)==[92])=true:=by simpa using h
  have R:f_ 69 35 (.ref Z.lx) u=some [.ref Z.lx]:=t_ (sT L 35 (by decide));refine⟨N,?_,h2,h3⟩;simp only[pK,cM,eR,iM,iK,d7,bP,J,O,bz,bo,cT,pS,nH,hb,if_true,gF,iI,R,dJ,gj,h1,ig];rfl
theorem drop_tail{X:List Nat}{p ch:Nat}{r:List Nat}(h:X.drop p=ch::r):X.drop (p+1)=r/\p<X.length:=by
 refine⟨by rw[<-mf,h];rfl,?_⟩;by_cases q:p<X.length
 ·exact q
 ·rw[mj (by exact fC q)]at h;cases h
theorem og{c:Nat}(h:c≠10):pW [c]=0:=if_neg (by simpa using h)
theorem SP{u:St}{p ln b c:Nat}{F:aj}{tok:List Nat}(it:Bool×Nat)(r:List Nat)(body:SM)(T1:aj->St->Option (Bool×St))(R1:SM)
 (N:body=ao (cn T1 R1 (pK Z)) (ao (eS 33 gO (aa 34)) aC))
 (hT:∀F u p ln ch,Lx Z u p ln->F.lookup 27=some (.ref Z.lx)->F.lookup 34=some (.str (T [ch]))->(ch=92\/(ch=it.2/\it.1=false))->T1 F u=some (false,u))
 (L:Lx Z u p ln)(I:Fi Z u b c)(O:Z.X.length<=10000)(h27:F.lookup 27=some (.ref Z.lx))(h33:F.lookup 33=some (.str (T tok)))(Y:tok.length<=1000)(h10:it.2≠10)(h92:it.1=false->it.2≠92)
 (h:Z.X.drop p=(if it.1 then[92,it.2]else[it.2])++r):
 ∃ch u1 F2 u2,(It.gen c (nx Z c)).next u=some (some (.one (.str (T [ch])),.gen c (nx Z c)),u1)/\body (F.put 34 (.str (T [ch]))) u1=some (.next,F2,u2)/\F2.lookup 33=some (.str (T (tok++[it.2])))/\F2.lookup 27=some (.ref Z.lx)/\F2.lookup 36=F.lookup 36/\
  Lx Z u2 (p+(if it.1 then[92,it.2]else[it.2]).length) ln/\iP Z u u2/\Z.X.drop (p+(if it.1 then[92,it.2]else[it.2]).length)=r:=by
 have J:∀v,(F.put 34 v).lookup 27=some (.ref Z.lx):=λv=>by rw[bW _ _ _ _ (by decide)];exact h27
 have g33:∀v,(F.put 34 v).lookup 33=some (.str (T tok)):=λv=>by rw[bW _ _ _ _ (by decide)];exact h33
 have R:=λst=>zZ tok [it.2] st (by exact bQ Y (by decide));obtain⟨e,ch⟩:=it;cases e with
 |false=>
  simp only[je,if_false]at h ⊢;have ht:=drop_tail h;refine di (qA L I (by exact cq (cK ht.2 (aw O (by decide)))) O h) λu1 n1 S S1=>?_;rw[og h10]at S;have hb:=(HN (F:=F.put 34 (.str (T [ch]))) S (by exact aw ht.2 (aw O (by decide))) O (J _) (cX ..)).1 (h92 rfl);refine⟨ch,u1,(F.put 34 (.str (T [ch]))).put 33 (.str (T (tok++[ch]))),u1,n1,?_,cX ..,by rw[bW _ _ _ _ (by decide)];exact J _,by rw[bW _ _ _ _ (by decide),bW _ _ _ _ (by decide)],S,S1,ht.1⟩;subst N;simp only[cM,eR,hT (F.put 34 (.str (T [ch]))) u1 _ _ ch S (J _) (cX ..) (.inr ⟨rfl,rfl⟩),bo,je,if_false,hb,pB,g33,bP,cX,bz,R,ig]
 |true=>
  simp only[if_true]at h ⊢;have ht:=drop_tail h;have U:=drop_tail ht.1;refine di (qA L I (by exact aw (cq (Bt (cK U.2 O))) (by decide)) O h) λu1 n1 S S1=>?_;rw[og (by decide)]at S;refine di ((HN (F:=F.put 34 (.str (T [92]))) S (by exact cq (cK U.2 (aw O (by decide)))) O (J _) (cX ..)).2 rfl ch r ht.1) λu2 hb L2 S2=>?_;rw[og h10]at L2;refine⟨92,u1,((F.put 34 (.str (T [92]))).put 34 (.str (T [ch]))).put 33 (.str (T (tok++[ch]))),u2,n1,?_,cX ..,?_,?_,L2,S1.trans S2,U.1⟩
  ·subst N
   have q33:((F.put 34 (.str (T [92]))).put 34 (.str (T [ch]))).lookup 33=some (.str (T tok)):=by rw[bW _ _ _ _ (by decide)];exact g33 _
   simp only[cM,eR,hT (F.put 34 (.str (T [92]))) u1 _ _ 92 S (J _) (cX ..) (.inl rfl),bo,je,if_false,hb,pB,q33,bP,cX,bz,R,ig]
  ·rw[bW _ _ _ _ (by decide),bW _ _ _ _ (by decide)];exact J _
  ·rw[bW _ _ _ _ (by decide),bW _ _ _ _ (by decide),bW _ _ _ _ (by decide)]
theorem BR{b c:Nat}(body:SM)(S:aj->St->Option (Bool×St))(J:body=ao (cn S (ao (cy (aa 33)) aC) (pK Z)) (ao (eS 33 gO (aa 34)) aC))(good:Nat->Prop)(fin:Nat)(N:fin≠10)(hX:Z.X.length<=10000)
 (hT:∀F u p ln ch,Lx Z u p ln->F.lookup 27=some (.ref Z.lx)->F.lookup 34=some (.str (T [ch]))->(ch=92\/good ch)->S F u=some (false,u))
 (U:∀F u p ln,Lx Z u p ln->F.lookup 27=some (.ref Z.lx)->F.lookup 34=some (.str (T [fin]))->S F u=some (true,u)):
 ∀(its:List (Bool×Nat))(fuel p ln:Nat)(u:St)(F:aj)(tok rest:List Nat),its.length<fuel->Lx Z u p ln->Fi Z u b c->F.lookup 27=some (.ref Z.lx)->F.lookup 33=some (.str (T tok))->tok.length+its.length<=1000->
  (∀it∈its,it.2≠10/\(it.1=false->it.2≠92/\good it.2))->Z.X.drop p=gd its++fin::rest->
  ∃F' Y p',cA (.name 34) body fuel (.gen c (nx Z c)) F u=some (.ret (.str (T (tok++gi its))),F',Y)/\Lx Z Y p' ln/\iP Z u Y/\Z.X.drop p'=rest
 |its,0,p,ln,u,F,tok,rest,h,_,_,_,_,_,_,_=>absurd h (gk _)
 |[],fuel+1,p,ln,u,F,tok,rest,_,L,I,O,R,_,_,h=>by
  have ht:=drop_tail (h:Z.X.drop p=fin::rest);refine di (qA L I (by exact cq (cK ht.2 (aw hX (by decide)))) hX (h:Z.X.drop p=fin::rest)) λu1 n1 L1 S1=>?_;rw[og N]at L1;refine⟨F.put 34 (.str (T [fin])),u1,p+1,?_,L1,S1,ht.1⟩;have g33:(F.put 34 (.str (T [fin]))).lookup 33=some (.str (T tok)):=by rw[bW _ _ _ _ (by decide)];exact R
  have hb:body (F.put 34 (.str (T [fin]))) u1=some (.ret (.str (T tok)),F.put 34 (.str (T [fin])),u1):=by
   subst J;simp only[cM,eR,U (F.put 34 (.str (T [fin]))) u1 _ _ L1 (by rw[bW _ _ _ _ (by decide)];exact O) (cX ..),bo,if_true,jK,bP,g33,bz]
  rw[QG rfl n1 rfl hb];simp[gi]
 |it::its,fuel+1,p,ln,u,F,tok,rest,hf,L,I,O,R,hl,hg,h=>by
  have hit:=hg it (cj ..);rw[p7,dm]at h;refine p8 (SP it _ body S _ J (λF u p ln ch L a b c=>hT F u p ln ch L a b (c.imp id λq=>by rw[q.1];exact(hit.2 q.2).2)) L I hX O R (by exact cq (bQ (c8 ..) hl)) hit.1 (λq=>(hit.2 q).1) h) λch u1 F2 u2 n1 hb q5 zq7=>?_;refine yF zq7 λoK _ L2 S2 hr=>?_;refine jZ (BR body S J good fin N hX hT U its fuel _ ln u2 F2 (tok++[it.2]) rest (by exact fU hf) L2 (I.same S2) oK q5 (by simp at hl ⊢;exact(hK ..)▸hl) (λx hx=>hg x (cw _ hx)) hr) λF' Y p' e1 e2 e3 e4=>?_;refine⟨F',Y,p',?_,e2,S2.trans e3,e4⟩;refine(nE rfl n1 rfl).trans ?_;rw[hb];refine e1.trans ?_;rw[HE,dm];rfl
end Mine
namespace Mine
open PySem PyProof.Rows PySem.W PySem.Builtin PySem.Builtin.Str
variable{Z:Pl}
noncomputable def gU:List Nat:=[10,9,13,32]
noncomputable def zu:aj->St->Option (Bool×St):=aT ma (aa 34) (jq 69 30 (aa 27))
noncomputable def tQ:aj->St->Option (Bool×St):=aT oEq (aa 34) (xk (.str ("\"":ae)))
theorem sL{F:aj}{u:St}{p ln ch:Nat}(L:Lx Z u p ln)(J:F.lookup 27=some (.ref Z.lx))(N:F.lookup 34=some (.str (T [ch]))):zu F u=some (decide (ch∈gU),u):=by
 have O:handed (.str (T [10,9,13,32]))=true:=rfl;simp only[zu,iM,iK,d7,bP,N,bz,bo,sC,J,Up L,O,and_self,if_true,Fg];rfl
theorem vr{F:aj}{u:St}{ch:Nat}(J:F.lookup 34=some (.str (T [ch]))):tQ F u=some (([ch]:List Nat)==[34],u):=by
 simp only[tQ,iM,iK,d7,bP,J,bz,bo,cT,v5,nH]
noncomputable def tP(Z:Pl)(body:SM):SM:=λF st=>((tE (ng 52 (bG [27] (rc Z))) (aa 36)) F st).bind λp=>cA (.name 34) body 400 p.1 F p.2
theorem vc{F:aj}{u:St}{b c:Nat}(body:SM)(I:Fi Z u b c)(J:F.lookup 36=some (.ref c)):tP Z body F u=cA (.name 34) body 400 (.gen c (nx Z c)) F u:=by
 unfold tP tE;rw[show aa 36 F u=some (.ref c,u)from by rw[bP,J];rfl];show((u[c]?).bind _).bind _=_;rw[I.tR];rfl
noncomputable def nz(Z:Pl):SM:=(ao (cn zu (ao yW
 aC) aC)
 (ao (cn tQ (ao (tP Z (DG Z))
 aC) (ao (cn (aT oEq (aa 34) (xk (.str ("\\":ae)))) (ao (bj 34 (bU (f_ 69 35) (bG [27] (rc Z)) (aa 27) ag))
 aC) aC)
 (ao (eS 33 gO (aa 34))
 (ao (tP Z (Dr Z))
 aC))))
 aC))
theorem Pd{b c:Nat}(R:Z.X.length<=10000)(its:List (Bool×Nat))(p ln:Nat)(u:St)(F:aj)(tok rest:List Nat)(hl:its.length<400)(L:Lx Z u p ln)(I:Fi Z u b c)(J:F.lookup 27=some (.ref Z.lx))(N:F.lookup 33=some (.str (T tok)))(ht:tok.length+its.length<=1000)
 (hg:∀it∈its,it.2≠10/\(it.1=false->it.2≠92/\it.2≠34))(h:Z.X.drop p=gd its++34::rest):
 ∃F' O p',cA (.name 34) (DG Z) 400 (.gen c (nx Z c)) F u=some (.ret (.str (T (tok++gi its))),F',O)/\Lx Z O p' ln/\iP Z u O/\Z.X.drop p'=rest:=
 BR (DG Z) tQ rfl (λch=>ch≠34) 34 (by decide) R
  (λF u p ln ch L a b c=>by rw[vr b];rcases c with rfl|c<;>simp;exact c)
  (λF u p ln L a b=>by rw[vr b];rfl) its 400 p ln u F tok rest hl L I J N ht hg h
theorem He{b c:Nat}(R:Z.X.length<=10000)(fin:Nat)(hf:fin=9\/fin=13\/fin=32)(its:List (Bool×Nat))(p ln:Nat)(u:St)(F:aj)(tok rest:List Nat)(hl:its.length<400)(L:Lx Z u p ln)(I:Fi Z u b c)(J:F.lookup 27=some (.ref Z.lx))(N:F.lookup 33=some (.str (T tok)))(ht:tok.length+its.length<=1000)
 (hg:∀it∈its,it.2≠10/\(it.1=false->it.2≠92/\it.2∉gU))(h:Z.X.drop p=gd its++fin::rest):
 ∃F' O p',cA (.name 34) (Dr Z) 400 (.gen c (nx Z c)) F u=some (.ret (.str (T (tok++gi its))),F',O)/\Lx Z O p' ln/\iP Z u O/\Z.X.drop p'=rest:=
 BR (Dr Z) zu rfl (λch=>ch∉gU) fin (by exactλe=>absurd (e▸hf) (by decide)) R
  (λF u p ln ch L a b c=>by rw[sL L a b];rcases c with rfl|c<;>simp[gU];simpa[gU]using c)
  (λF u p ln L a b=>by rw[sL L a b];rcases hf with rfl|rfl|rfl<;>rfl) its 400 p ln u F tok rest hl L I J N ht hg h
noncomputable def Form(its:List (Bool×Nat))(txt:List Nat):Prop:=
 (txt=34::(gd its++[34])/\∀it∈its,it.2≠10/\(it.1=false->it.2≠92/\it.2≠34))\/
 (∃fin,txt=gd its++[fin]/\(fin=9\/fin=13\/fin=32)/\(∀it∈its,it.2≠10/\(it.1=false->it.2≠92/\it.2∉gU))/\∃i is,its=i::is/\(i.1=false->i.2≠34))
theorem Lj{b c:Nat}(R:Z.X.length<=10000)(its:List (Bool×Nat))(txt:List Nat)(hF:Form its txt)(hl:its.length<300)(fuel p ln:Nat)(u:St)(F:aj)(rest:List Nat)(L:Lx Z u p ln)(I:Fi Z u b c)
 (h27:F.lookup 27=some (.ref Z.lx))(h33:F.lookup 33=some (.str (T [])))(h36:F.lookup 36=some (.ref c))(h:Z.X.drop p=txt++rest):
 ∃F' S p',cA (.name 34) (nz Z) (fuel+1) (.gen c (nx Z c)) F u=some (.ret (.str (T (gi its))),F',S)/\Lx Z S p' ln/\iP Z u S/\Z.X.drop p'=rest:=by
 have N:∀v,(F.put 34 v).lookup 27=some (.ref Z.lx):=λv=>by rw[bW _ _ _ _ (by decide)];exact h27
 have g33:∀v,(F.put 34 v).lookup 33=some (.str (T [])):=λv=>by rw[bW _ _ _ _ (by decide)];exact h33
 have g39:∀v,(F.put 34 v).lookup 36=some (.ref c):=λv=>by rw[bW _ _ _ _ (by decide)];exact h36
 rcases hF with⟨rfl,hg⟩|⟨fin,rfl,hf,hg,i,is,rfl,hi⟩
 ·have h':Z.X.drop p=34::(gd its++34::rest):=by rw[h];simp
  have ht:=drop_tail h';refine di (qA L I (by exact cq (cK ht.2 (aw R (by decide)))) R h') λu1 n1 O U=>?_;rw[og (by decide)]at O;refine jZ (Pd R its (p+1) ln u1 (F.put 34 (.str (T [34]))) [] rest (by exact aw hl (dg ..)) O (I.same U) (N _) (g33 _) (by simp;exact aw (fU hl) (by decide)) hg ht.1) λF' S p' e1 e2 e3 e4=>?_;refine⟨F',S,p',?_,e2,U.trans e3,e4⟩;rw[nE rfl n1 rfl];have t1:=sL O (N (.str (T [34]))) (cX ..);have Y:=vr (F:=F.put 34 (.str (T [34]))) (u:=u1) (ch:=34) (cX ..);rw[show decide (34∈gU)=false from rfl]at t1;rw[show(([34]:List Nat)==[34])=true from rfl]at Y;simp only[nz,cM,eR,t1,bo,je,if_false,ig,Y,if_true,vc _ (I.same U) (g39 _),e1];rfl
 ·have hit:=hg i (cj ..)
  have h':Z.X.drop p=(if i.1 then[92,i.2]else[i.2])++(gd is++fin::rest):=by rw[h,p7];simp
  obtain⟨ie,J⟩:=i;have hadd:=λst=>zZ [] [J] st (by simp);cases ie with
  |false=>
   simp only[je,if_false]at h';have ht:=drop_tail h';have q:=hit.2 rfl;refine di (qA L I (by exact cq (cK ht.2 (aw R (by decide)))) R h') λu1 n1 O U=>?_;rw[og hit.1]at O;have t1:=sL O (N (.str (T [J]))) (cX ..);have Y:=vr (F:=F.put 34 (.str (T [J]))) (u:=u1) (ch:=J) (cX ..);rw[decide_eq_false q.2]at t1;rw[show(([J]:List Nat)==[34])=false by simpa using hi rfl]at Y;have hb:(([J]:List Nat)==[92])=false:=by simpa using q.1
   refine jZ (He R fin hf is (p+1) ln u1 ((F.put 34 (.str (T [J]))).put 33 (.str (T [J]))) [J] rest (by exact cq (cK hl (by decide))) O (I.same U) (by rw[bW _ _ _ _ (by decide)];exact N _) (cX ..) (by exact aw (bS (gH ..)) (cq (du hl (by decide)))) (λx hx=>hg x (cw _ hx)) ht.1) λF' S p' e1 e2 e3 e4=>?_;refine⟨F',S,p',?_,e2,U.trans e3,e4⟩;rw[nE rfl n1 rfl];have q36:((F.put 34 (.str (T [J]))).put 33 (.str (T [J]))).lookup 36=some (.ref c):=by rw[bW _ _ _ _ (by decide)];exact g39 _
   simp only[nz,cM,eR,t1,bo,je,if_false,ig,Y,iM,iK,d7,bP,cX,bz,cT,pS,nH,hb,pB,g33,hadd,d_,vc _ (I.same U) q36,e1];rfl
  |true=>
   simp only[if_true]at h';have ht:=drop_tail h';have ht2:=drop_tail ht.1;refine di (qA L I (by exact aw (cq (Bt (cK ht2.2 R))) (by decide)) R h') λu1 n1 O U=>?_;rw[og (by decide)]at O;have t1:=sL O (N (.str (T [92]))) (cX ..);have Y:=vr (F:=F.put 34 (.str (T [92]))) (u:=u1) (ch:=92) (cX ..);rw[show decide (92∈gU)=false from rfl]at t1;rw[show(([92]:List Nat)==[34])=false from rfl]at Y;refine di (yO O (by exact cq (cK ht2.2 (aw R (by decide)))) R) λu2 hr1 L2 S2=>?_;rw[ht.1]at hr1 L2;have hr1':bG [27] (rc Z) [.ref Z.lx] u1=some (.str (T [J]),u2):=hr1;have L2':Lx Z u2 (p+1+1) ln:=by have:pW (Bl 1 ([J].append (gd is++fin::rest)))=0:=og hit.1;rw[this]at L2;exact L2
   have hrs:f_ 69 35 (.ref Z.lx) u1=some [.ref Z.lx]:=t_ (sT O 35 (by decide));have S12:=U.trans S2;have q33:((F.put 34 (.str (T [92]))).put 34 (.str (T [J]))).lookup 33=some (.str (T [])):=by rw[bW _ _ _ _ (by decide)];exact g33 _
   refine jZ (He R fin hf is (p+1+1) ln u2 (((F.put 34 (.str (T [92]))).put 34 (.str (T [J]))).put 33 (.str (T [J]))) [J] rest (by exact cq (cK hl (by decide))) L2' (I.same S12) (by rw[bW _ _ _ _ (by decide),bW _ _ _ _ (by decide)];exact N _) (cX ..) (by exact aw (bS (gH ..)) (cq (du hl (by decide)))) (λx hx=>hg x (cw _ hx)) ht2.1) λF' S p' e1 e2 e3 e4=>?_;refine⟨F',S,p',?_,e2,S12.trans e3,e4⟩;rw[nE rfl n1 rfl];have q36:(((F.put 34 (.str (T [92]))).put 34 (.str (T [J]))).put 33 (.str (T [J]))).lookup 36=some (.ref c):=by rw[bW _ _ _ _ (by decide),bW _ _ _ _ (by decide)];exact g39 _
   simp only[nz,cM,eR,t1,bo,je,if_false,ig,Y,iM,iK,d7,bP,cX,bz,cT,pS,nH,show(([92]:List Nat)==[92])=true from rfl,if_true,gF,iI,N,hrs,dJ,gj,hr1',pB,q33,hadd,d_,vc _ (I.same S12) q36,e1];rfl
theorem E_{b c:Nat}(S:Z.X.length<=10000)(its:List (Bool×Nat))(txt:List Nat)(U:Form its txt)(hl:its.length<300):∀(w:List Nat)(fuel p ln:Nat)(u:St)(F:aj)(rest:List Nat),w.length<fuel->(∀x∈w,x∈gU)->Lx Z u p ln->Fi Z u b c->
 F.lookup 27=some (.ref Z.lx)->F.lookup 33=some (.str (T []))->F.lookup 36=some (.ref c)->Z.X.drop p=w++(txt++rest)->
 ∃F' R p',cA (.name 34) (nz Z) fuel (.gen c (nx Z c)) F u=some (.ret (.str (T (gi its))),F',R)/\Lx Z R p' (ln+w.count 10)/\iP Z u R/\Z.X.drop p'=rest
 |w,0,p,ln,u,F,rest,h,_,_,_,_,_,_,_=>absurd h (gk _)
 |[],fuel+1,p,ln,u,F,rest,_,_,L,I,J,N,O,h=>Lj S its txt U hl fuel p ln u F rest L I J N O h
 |x::w,fuel+1,p,ln,u,F,rest,hf,hw,L,I,J,N,O,h=>by
  have hx:=hw x (cj ..);have h':Z.X.drop p=x::(w++(txt++rest)):=h;have ht:=drop_tail h';refine di (qA L I (by exact cq (cK ht.2 (aw S (by decide)))) S h') λu1 n1 Y S1=>?_;have t1:=sL Y (show(F.put 34 (.str (T [x]))).lookup 27=some (.ref Z.lx) by rw[bW _ _ _ _ (by decide)];exact J) (cX ..);rw[decide_eq_true hx]at t1;obtain⟨F',R,p',e1,e2,e3,e4⟩:=E_ S its txt U hl w fuel (p+1) _ u1 (F.put 34 (.str (T [x]))) rest (by exact fU hf) (λy hy=>hw y (cw _ hy)) Y (I.same S1)
   (by rw[bW _ _ _ _ (by decide)];exact J) (by rw[bW _ _ _ _ (by decide)];exact N) (by rw[bW _ _ _ _ (by decide)];exact O) ht.1
  have hc:ln+pW [x]+w.count 10=ln+(x::w).count 10:=by
   by_cases q:x=10
   ·subst q;rw[List.count_cons_self,show pW [10]=1 from rfl];exact hK ..
   ·rw[og q,List.count_cons_of_ne q];exact rfl
  rw[hc]at e2;refine⟨F',R,p',?_,e2,S1.trans e3,e4⟩;rw[nE rfl n1 rfl];have hb:nz Z (F.put 34 (.str (T [x]))) u1=some (.cont,F.put 34 (.str (T [x])),u1):=by
   simp only[nz,cM,eR,t1,bo,if_true,Sv]
  rw[hb];exact e1
noncomputable def gt(Z:Pl):SM:=oO (bq Z.sA) (fw (T Z.X) Z.k)
theorem Ju:gt Z=(ao (cn (kn iw (jq 69 29 (aa 27))) (ao (cy (bU ek qX (jq 69 29 (aa 27)) (ab (xk (.int 0)) ag)))
 aC) aC)
 (ao (bj 33 (xk (.str ("":ae))))
 (ao (bj 36 (bK qQ (ab (sO 69 52 35 (aa 27)) (ab (xk (.str ("":ae))) ag))))
 (ao (tP Z (nz Z))
 (ao (cy (aa 33))
 aC))))):=rfl
noncomputable def F0(Z:Pl)(n:Nat):aj:=[(27,.ref Z.lx),(33,.str (T [])),(36,.ref (n+1))]
noncomputable def U0(Z:Pl)(st:St):St:=st++[.bound (.ref 52) (.ref Z.lx)]++[.nQ st.length (.str (T []))]
theorem Fn{st:St}{p ln:Nat}(L:Lx Z st p ln)(N:st[Z.pb]?=some (.list [])):gt Z [(27,.ref Z.lx)] st=(tP Z (nz Z) (F0 Z st.length) (U0 Z st)).bind λp=>match p.1 with
 |.next =>ao (cy (aa 33)) aC p.2.1 p.2.2
 |fl=>some (fl,p.2.1,p.2.2):=by
 have O:fG 27 [(27,AV.ref Z.lx)]=some (.ref Z.lx):=rfl;have S:handed (.ref Z.pb)=true:=rfl;have R:iw (.ref Z.pb) st=some false:=Hu N (cJ _);rw[Ju,cM];simp only[eR,lK,sC,bP,O,bz,bo,CJ L,S,and_self,if_true,R,je,if_false,ig];rw[cM];simp only[gF,cT,bz,bo,lU];rw[cM];have J:(aj.put [(27,AV.ref Z.lx)] 33 (.str (T []))).lookup 27=some (.ref Z.lx):=rfl;have hb:sO 69 52 35 (aa 27) (aj.put [(27,AV.ref Z.lx)] 33 (.str (T []))) st=some (.ref st.length,st++[.bound (.ref 52) (.ref Z.lx)]):=Mj (by rw[bP,J];rfl) (sT L 35 (by decide));have hi:qQ [.ref st.length,.str (T [])] (st++[.bound (.ref 52) (.ref Z.lx)])=some (.ref (st.length+1),st++[.bound (.ref 52) (.ref Z.lx)]++[.nQ st.length (.str (T []))]):=by
  show((st++[AO.bound (.ref 52) (.ref Z.lx)])[st.length]?).bind _=_;rw[List.getElem?_concat_length];show some (AV.ref (st++[AO.bound (.ref 52) (.ref Z.lx)]).length,_)=_;rw[aP];rfl
 simp only[gF,j5,eK,hb,cT,dJ,bz,bo,hi];rw[cM];rfl
theorem Ka{st:St}{p ln:Nat}(L:Lx Z st p ln):Lx Z (U0 Z st) p ln:=by
 refine aG L.pl λps a b=>?_;have g:∀i o,st[i]?=some o->(U0 Z st)[i]?=some o:=λi o h=>by
  unfold U0;rw[dm,pv (mT h)];exact h
 exact⟨g _ _ L.inst,g _ _ L.dict,ps,a,g _ _ b⟩
theorem zK{st:St}{p ln:Nat}(L:Lx Z st p ln):Fi Z (U0 Z st) st.length (st.length+1):=by
 have h1:=mT L.dict;have h2:Z.k<st.length:=by refine aG L.pl λps a b=>?_;exact mT b
 exact⟨IK ..,Tj ..,by exact jh h2,by exact jh h1,by exact jh (rT h2),by exact jh (rT h1)⟩
theorem JF{st u:St}(h:iP Z (U0 Z st) u):aN [Z.k,Z.d] st u:=by
 have J:(U0 Z st).length =st.length+2:=by unfold U0;rw[aP,aP];rfl
 refine⟨by rw[h.1,J];exact c8 ..,λi hi n=>?_⟩;rw[bJ,cx,not_or]at n;rw[h.2 i n.1 n.2];unfold U0;rw[dm,pv hi]
theorem S_{st:St}{p ln:Nat}(L:Lx Z st p ln)(J:st[Z.pb]?=some (.list []))(O:Z.X.length<=10000)(its:List (Bool×Nat))(txt w rest:List Nat)(R:Form its txt)(hl:its.length<300)(hwl:w.length<400)(N:∀x∈w,x∈gU)(h:Z.X.drop p=w++(txt++rest)):
 ∃st' p',bG [27] (gt Z) [.ref Z.lx] st=some (.str (T (gi its)),st')/\Lx Z st' p' (ln+w.count 10)/\aN [Z.k,Z.d] st st'/\Z.X.drop p'=rest:=by
 refine jZ (E_ O its txt R hl w 400 p ln (U0 Z st) (F0 Z st.length) rest hwl N (Ka L) (zK L) rfl rfl rfl h) λF' S p' U Y e3 e4=>?_;refine⟨S,p',?_,Y,JF e3,e4⟩;refine rK (F':=F') rfl ?_;simp only[kC,mY];rw[Fn L J,vc _ (zK L) rfl,U];rfl
theorem Wc{st:St}{p ln:Nat}(L:Lx Z st p ln)(N:st[Z.pb]?=some (.list []))(U:Z.X.length<=10000)(Y:p<=100000)(h:Z.X.drop p=[]):
 ∃st',bG [27] (gt Z) [.ref Z.lx] st=some (.str (T []),st')/\Lx Z st' (p+1) ln/\aN [Z.k,Z.d] st st':=by
 refine di (T_ (Ka L) (zK L) Y U h) λJ n1 O S1=>?_;have h1:=mT L.dict;have h2:Z.k<st.length:=by refine aG L.pl λps a b=>?_;exact mT b
 have h3:=mT L.inst;have gs:∀i,i<st.length->(J.set (st.length+1) .gP)[i]?=J[i]?:=λi hi=>by rw[get_set,if_neg (by exact rZ (Qb _ hi))]
 have L2:Lx Z (J.set (st.length+1) .gP) (p+1) ln:=by
  refine aG O.pl λps a b=>?_;exact⟨by rw[gs _ h3];exact O.inst,by rw[gs _ h1];exact O.dict,ps,a,by rw[gs _ h2];exact b⟩
 have S:=JF S1;refine⟨J.set (st.length+1) .gP,?_,L2,by rw[xh];exact S.len,λi hi n=>by rw[gs i hi];exact S.at' i hi n⟩;have hs:cA (.name 34) (nz Z) 400 (.gen (st.length+1) (nx Z (st.length+1))) (F0 Z st.length) (U0 Z st)=some (.next,F0 Z st.length,J.set (st.length+1) .gP):=by
  exact wH (fuel:=399) rfl n1
 have R:fG 33 (F0 Z st.length)=some (.str (T [])):=rfl;refine rK (F':=F0 Z st.length) rfl ?_;simp only[kC,mY];rw[Fn L N,vc _ (zK L) rfl,hs];simp only[bo,cM,jK,bP,R,bz]
theorem Ve{st:St}{p ln:Nat}(L:Lx Z st p ln)(q:AV)(N:List AV)(J:st[Z.pb]?=some (.list (q::N)))(O:N.length<=10000):
 bG [27] (gt Z) [.ref Z.lx] st=some (q,st.set Z.pb (.list N)):=by
 refine rK (F':=[(27,.ref Z.lx)]) rfl ?_;have S:fG 27 [(27,AV.ref Z.lx)]=some (.ref Z.lx):=rfl;have Y:handed (.ref Z.pb)=true:=rfl;have U:iw (.ref Z.pb) st=some true:=Hu J (by exact bQ O (by decide));have R:qX [.ref Z.pb,.int 0] st=some (q,st.set Z.pb (.list N)):=by
  show(bF st Z.pb).bind _=_;rw[dC J];refine(if_pos ⟨by exact bQ O (by decide),by decide⟩).trans ?_;have e:seqIndex? 0 (q::N).length =some 0:=by unfold seqIndex?;simp
  rw[e];rfl
 rw[Ju,cM];simp only[kC,mY,eR,lK,sC,bP,S,bz,bo,CJ L,Y,and_self,if_true,U,cM,jK,iI,nF _ _ _ J,eK,cT,dJ,eM,d_,R]
theorem TN{st:St}{p ln:Nat}(L:Lx Z st p ln)(v:AV)(N:List AV)(J:st[Z.pb]?=some (.list N))(O:N.length<=10000):
 bG [27,33] p4 [.ref Z.lx,v] st=some (.none,st.set Z.pb (.list (N++[v]))):=by
 rw[so _ _ _ _ rfl];have R:fG 27 [(27,AV.ref Z.lx),(33,v)]=some (.ref Z.lx):=rfl;have S:fG 33 [(27,AV.ref Z.lx),(33,v)]=some v:=rfl;have U:handed (.ref Z.pb)=true:=rfl;have Y:=rM N Z.pb v st J (by exact aw O (dg ..));simp only[p4,cM,kC,mY,BH,iI,sC,bP,R,S,bz,bo,CJ L,U,and_self,if_true,nF _ _ _ J,eK,dJ,eM,d_,Y,ig]
end Mine
namespace Mine
open PySem PyProof.Rows PySem.W PySem.Builtin PySem.Builtin.Str
noncomputable def jt(l:List Nat):Prop:=10∉l/\13∉l
noncomputable def lift:List Nat->List Nat
 |46::r=>46::46::r
 |l=>l
theorem Md(c:Nat)(r:List Nat)(h1:c≠10)(h2:c≠13):dY (c::r)=c::dY r:=by
 cases r with
 |nil=>simp[wO,GN,h1,h2]
 |cons d r=>simp[sa,h1,h2]
theorem Ed:∀(w t:List Nat),jt w->dY (w++t)=w++dY t:=by
 intro w;induction w with
 |nil=>
  intro t _;exact rfl
 |cons c w J=>
  intro t h;have h1:c≠10:=λe=>h.1 (by simp[e]);have h2:c≠13:=λe=>h.2 (by simp[e]);rw[eM,Md _ _ h1 h2,J t ⟨λm=>h.1 (cw _ m),λm=>h.2 (cw _ m)⟩];rfl
theorem Ue(t:List Nat):dY (10::t)=13::10::dY t:=by
 cases t with
 |nil=>rfl
 |cons d r=>rfl
theorem MN(t:List Nat):dY (13::10::t)=13::10::dY t:=rfl
theorem Ub(t:List Nat)(h:t.head?≠some 10):dY (13::t)=13::10::dY t:=by
 cases t with
 |nil=>rfl
 |cons d r=>
  have:d≠10:=λe=>h (by simp[e]);simp[sa,this]
noncomputable def sY(p:List Nat×List Nat):Prop:=jt p.1/\p.1≠[]/\(p.2=[10]\/p.2=[13]\/p.2=[13,10])
noncomputable def lines(ls:List (List Nat×List Nat)):List Nat:=(ls.map λp=>p.1++p.2).flatten
noncomputable def fX(bs:List (List Nat)):List Nat:=(bs.map λb=>b++[13,10]).flatten
theorem Lr(tail:List Nat)(ht:jt tail):∀ls,(∀p∈ls,sY p)->(lines ls++tail).head? ≠some 10:=by
 intro ls;induction ls with
 |nil=>
  intro _;intro h
  have:10∈tail:=List.mem_of_mem_head? (by simpa[lines]using h);exact ht.1 this
 |cons N ls O=>
  obtain⟨b,n⟩:=N;intro h;have hb:=h _ (cj ..);intro e;cases J:b with
  |nil=>exact hb.2.1 J
  |cons c r=>
   rw[J]at e hb;simp[lines]at e;exact hb.1.1 (by simp[e])
theorem LM(tail:List Nat)(ht:jt tail):∀ls,(∀p∈ls,sY p)->dY (lines ls++tail)=fX (ls.map (·.1))++tail:=by
 intro ls;induction ls with
 |nil=>
  intro _;show dY tail=tail;have:=Ed tail [] ht;simpa[GN]using this
 |cons R ls J=>
  obtain⟨b,n⟩:=R;intro h;have hb:=h _ (cj ..);have N:=J λp O=>h p (cw _ O);have S:=Lr tail ht ls λp O=>h p (cw _ O);have e:lines ((b,n)::ls)++tail=b++(n++(lines ls++tail)):=by simp[lines]
  rw[e,Ed _ _ hb.1];have U:fX (xG (·.1) ((b,n)::ls))++tail=b++(13::10::(fX (xG (·.1) ls)++tail)):=by simp[fX]
  rw[U];rcases hb.2.2 with q|q|q<;>simp only[]at q<;>subst q
  ·rw[eM,d_,Ue,N]
  ·rw[eM,d_,Ub _ S,N]
  ·rw[eM,eM,d_,MN,N]
theorem LB:∀(w t:List Nat),10∉w->c9 false (w++t)=w++c9 false t:=by
 intro w;induction w with
 |nil=>
  intro t _;exact rfl
 |cons c w J=>
  intro t h;have h1:(c==10)=false:=by simpa usingλe=>h (by simp[e])
  rw[eM,t9];simp only[AS,je,if_false,h1];rw[J t λm=>h (cw _ m)];rfl
theorem Ei(w t:List Nat)(h:10∉w)(hw:w≠[]):c9 true (w++t)=lift w++c9 false t:=by
 cases w with
 |nil=>exact absurd rfl hw
 |cons c w=>
  have hc:=LB w t λm=>h (cw _ m);by_cases q:c=46
  ·subst q
   rw[eM,t9];simp only[Bq,beq_self_eq_true,if_true,hc];rfl
  ·have h1:(c==10)=false:=by simpa usingλe=>h (by simp[e])
   have h2:(c==46)=false:=by simpa using q
   rw[eM,t9];simp only[Bq,h2,je,if_false,h1,hc];unfold lift;split
   ·rename_i r e
    simp at e;exact absurd e.1 q
   ·rfl
theorem K9(tail:List Nat)(ht:jt tail)(J:tail≠[]):∀bs:List (List Nat),(∀b∈bs,jt b/\b≠[])->c9 true (fX bs++tail)=fX (bs.map lift)++lift tail:=by
 intro bs;induction bs with
 |nil=>
  intro _;have:=Ei tail [] ht.1 J;simpa[fX,Qm]using this
 |cons b bs N=>
  intro h;have hb:=h _ (cj ..);have O:=N λp R=>h p (cw _ R);have e:fX (b::bs)++tail=b++(13::10::(fX bs++tail)):=by simp[fX]
  rw[e,Ei _ _ hb.1.1 hb.2];have S:c9 false (13::10::(fX bs++tail))=13::10::c9 true (fX bs++tail):=rfl;rw[S,O];simp[fX]
theorem Nf{b:List Nat}(h:jt b/\b≠[]):jt (lift b)/\lift b≠[]:=by
 unfold lift;split
 ·rename_i r
  refine⟨⟨λm=>h.1.1 ?_,λm=>h.1.2 ?_⟩,by simp⟩
  ·simp at m ⊢;exact m
  ·simp at m ⊢;exact m
 ·exact h
noncomputable def fu(j:Nat)(b:List Nat):List Nat:=match b with
 |46::r=>bZ j 46++46::r
 |l=>l
theorem Et(b:List Nat):fu 0 b=b:=by
 unfold fu;split<;>rfl
noncomputable def pR(x:List Nat):List Nat:=c9 true (dY x)
theorem AE:∀x:List Nat,(dY x).length <=2*x.length
 |[]=>cJ _
 |[c]=>by rw[wO];split<;>simp
 |c::d::r=>by
  have h1:=AE r;have h2:=AE (d::r);rw[sa];split
  ·simp;exact aw (iR h1 2) (c8 _ 2)
  ·split<;>simp at*<;>(first|exact iR h2 2|exact oX (iR h2 1))
theorem KN(x:List Nat)(st:St)(R:x.length<=50000):bG [37] p6 [.str (T x)] st=some (.str (T (pR x)),st):=by
 refine rK (F':=[(37,.str (T x))]) rfl ?_;have h1:vZ [.val (.ref 97),.str (T [13,10]),.str (T x)] st=some (.str (T (dY x)),st):=by
  refine(if_pos (aw R (dg ..))).trans ?_;rw[if_neg (λq=>absurd q.2 (by decide)),if_pos ⟨rfl,rfl⟩];rfl
 have h2:vZ [.val (.ref 92),.str (T [46,46]),.str (T (dY x))] st=some (.str (T (pR x)),st):=by
  refine(if_pos (aw (AE x) (h_ 2 R))).trans ?_;rw[if_pos ⟨rfl,rfl⟩];rfl
 have J:fG 37 [(37,AV.str (T x))]=some (.str (T x)):=rfl;have N:vw (.val (.ref 92)) st=some [.val (.ref 92)]:=if_pos (c:=eH 92=.ref 92\/eH 92=.ref 97) (e:=none) (.inl rfl);have O:vw (.val (.ref 97)) st=some [.val (.ref 97)]:=if_pos (c:=eH 97=.ref 92\/eH 97=.ref 97) (e:=none) (.inr rfl);simp only[p6,cM,jK,iI,cT,N,O,eK,dJ,bP,kC,mY,J,bz,bo,eM,d_,X_,XR,h1,h2,gj]
theorem NS{W:List Nat}{x:List Nat}(J:x.length<=50000):iz W (bG [37] p6) [sD x] (sD (pR x)):=tu λst v bd r=>by
 cases r.s'
 rw[KN x st J];exact⟨.rfl',.str _⟩
theorem EH(tail:List Nat)(ht:jt tail)(J:tail≠[])(N:lift tail=tail)(ls)(h:∀p∈ls,sY p):pR (lines ls++tail)=fX ((ls.map (·.1)).map lift)++tail:=by
 unfold pR;rw[LM tail ht ls h,K9 tail ht J,N];intro b hb;refine aG (dz.mp hb) λp R O=>?_;subst O;exact⟨(h p R).1,(h p R).2.1⟩
theorem LS(tail:List Nat)(ht:jt tail)(J:tail≠[])(N:lift tail=tail)(bs:List (List Nat))(h:∀b∈bs,jt b/\b≠[]):pR (fX bs++tail)=fX (bs.map lift)++tail:=by
 have e:fX bs=lines (bs.map λb=>(b,[13,10])):=by
  unfold fX lines;rw[br];rfl
 rw[e,EH tail ht J N]
 ·simp[br,A7]
 ·intro p R
  refine aG (dz.mp R) λb hb O=>?_;subst O;exact⟨(h b hb).1,(h b hb).2,.inr (.inr rfl)⟩
end Mine
namespace Mine
open PySem PyProof.Rows PySem.W
section
variable{w:dB}{base:aO}{mg mb:ae->Option af}{pins:List (Nat×ak)}(H:Fx (hd01.heap_1 w.params) base mg mb)
noncomputable def f0(D:ak)(xs:List AV):SM:=(bj 43 (bl [38] (bD lV (ab (bC (ab (xk (.int 17)) (ab (xk (.int 256)) (ab (xk (.int 433)) (ab (xk (.int 1745)) (ab (xk (.int 40621)) (ab (xk (.int 3436)) (ab (xk (.int 133)) ag)))))))) ag)) (.names [24,51]) bw (a_ (ay aX (aa 51) (bK fP (ab (bl [] (bL (yh D xs (aa 38) (bY (aa 24)) (bY (xk (.int 60))) (bY (xk (.int 7))))) (.name 52) bw (a_ (ay oMod (aa 52) (ay jb (xk (.int 10)) (xk (.int 6))))) 400) ag)))) 400))
theorem w0{D:ak}{xs:List AV}{vs:List af}(hD:base.IsList D vs.toArray)(J:∀ρ,bu ρ xs vs):cB (aI w base mg mb pins H) 9 (bH (hd01.heap_1 w.params) 131) 0 (((bT (hd01.heap_1 w.params) 131)[0]?).getD default) (f0 D xs):=
 (cY 43 (by rfl) (dG 400 (df [38] (eG (b8 (by rfl) (H.bE (by rfl)) (H.cg (by decide) (by rfl)) (by decide)) (Plain.cons rfl Plain.nil) d4 (au (dk (au aA (au aA (au aA (au aA (au aA (au aA (au aA aF (by rfl)) (by rfl)) (by rfl)) (by rfl)) (by rfl)) (by rfl)) (by rfl))) aF (by rfl)) wZ) (bB.names (b_.cons (by rfl) ⟨.inl rfl,.inl rfl⟩ (b_.cons (by rfl) ⟨.inl rfl,.inl rfl⟩ b_.nil))) dE (aY (ai 51 (by rfl) (by decide)) (dQ (b8 (by rfl) (H.bE (by rfl)) (H.cg (by decide) (by rfl)) (by decide)) (Plain.cons rfl Plain.nil) cP (au (dG 400 (df [] (d5 (LA hD J (ai 38 (by rfl) (by decide)) (eZ (ai 24 (by rfl) (by decide))) (eZ aA) (eZ aA) (by intro _ _;exact⟨_,rfl⟩))) (bB.name (by rfl) ⟨.inl rfl,.inl rfl⟩) dE (aY (ai 52 (by rfl) (by decide)) (aY aA aA u9) jM) (by rfl) aV.nil (by intro _ _;rfl))) aF (by rfl)) sQ) cR) (by rfl) (aV.cons _ (by rfl) (by rfl) aV.nil) (by intro _ _;rfl))) (.inr rfl) (by rfl))
noncomputable def f1:SM:=(bj 41 (ay aX (xk (.int 1)) (ay oMod (aH (aa 43) (xk (.int 6))) (xk (.int 3)))))
theorem w1:cB (aI w base mg mb pins H) 9 (bH (hd01.heap_1 w.params) 131) 0 (((bT (hd01.heap_1 w.params) 131)[1]?).getD default) f1:=
 (cY 41 (by rfl) (aY aA (aY (cu (ai 43 (by rfl) (by decide)) aA (by intro _ _;exact⟨_,rfl⟩)) aA jM) cR) (.inl rfl) (by rfl))
noncomputable def f2:SM:=(Cf [50,49] (aH (bC (ab (de (ab (xk (.str ("a":ae))) (ab (xk (.str ("b":ae))) ag))) (ab (de (ab (xk (.str ("\"":ae))) (ab (xk (.str ("\\":ae))) ag))) (ab (de (ab (xk (.str (" ":ae))) (ab (bK tC (ab (xk (.int 12)) ag)) ag))) (ab (de (ab (xk (.str ("\\":ae))) (ab (xk (.str ("#":ae))) ag))) ag))))) (ay oMod (ay oDiv (aH (aa 43) (xk (.int 6))) (xk (.int 3))) (xk (.int 4)))))
theorem w2:cB (aI w base mg mb pins H) 9 (bH (hd01.heap_1 w.params) 131) 0 (((bT (hd01.heap_1 w.params) 131)[2]?).getD default) f2:=
 (LU (b_.cons (by rfl) ⟨trivial,.inl rfl⟩ (b_.cons (by rfl) ⟨trivial,.inl rfl⟩ b_.nil)) (cu (dk (au (gm (au cz (au cz aF (by rfl)) (by rfl))) (au (gm (au cz (au cz aF (by rfl)) (by rfl))) (au (gm (au cz (au (dQ (b8 (by rfl) (H.bE (by rfl)) (H.cg (by decide) (by rfl)) (by decide)) (Plain.cons rfl Plain.nil) cP (au aA aF (by rfl)) Cr) aF (by rfl)) (by rfl))) (au (gm (au cz (au cz aF (by rfl)) (by rfl))) aF (by rfl)) (by rfl)) (by rfl)) (by rfl))) (aY (aY (cu (ai 43 (by rfl) (by decide)) aA (by intro _ _;exact⟨_,rfl⟩)) aA lI) aA jM) (by intro _ _;exact⟨_,rfl⟩)) (by intro _;rfl) (by intro _;rfl))
noncomputable def f3:SM:=(bj 48 (bC (ab (ay aX (aa 50) (aa 50)) (ab (ay aX (aa 50) (aa 49)) (ab (ay aX (aa 49) (aa 50)) (ab (ay aX (aa 49) (aa 49)) ag))))))
theorem w3:cB (aI w base mg mb pins H) 9 (bH (hd01.heap_1 w.params) 131) 0 (((bT (hd01.heap_1 w.params) 131)[3]?).getD default) f3:=
 (cY 48 (by rfl) (dk (au (aY (ai 50 (by rfl) (by decide)) (ai 50 (by rfl) (by decide)) cR) (au (aY (ai 50 (by rfl) (by decide)) (ai 49 (by rfl) (by decide)) cR) (au (aY (ai 49 (by rfl) (by decide)) (ai 50 (by rfl) (by decide)) cR) (au (aY (ai 49 (by rfl) (by decide)) (ai 49 (by rfl) (by decide)) cR) aF (by rfl)) (by rfl)) (by rfl)) (by rfl))) (.inl rfl) (by rfl))
noncomputable def f4:SM:=(pG [0,46] (ab (xk (.str ("":ae))) (ab (bC ag) ag)))
theorem w4:cB (aI w base mg mb pins H) 9 (bH (hd01.heap_1 w.params) 131) 0 (((bT (hd01.heap_1 w.params) 131)[4]?).getD default) f4:=
 (zQ (by intro k hk;simp only[bJ,a7,or_false]at hk;rcases hk with rfl|rfl<;>first|exact .inl rfl|exact .inr rfl) (ip.t (au cz (au (dk aF) aF (by rfl)) (by rfl))) (by rfl))
noncomputable def f5:SM:=(λF st=>((bD lV (ab (cH (aa 43) bb (bY (xk (.int 6))) bb) ag)) F st).bind λp=>cA (.names [24,45]) (ao (bj 14 (gf (aT oLt (aa 24) (xk (.int 3))) (bU ek qX (aa 48) (ab (ay oMod (aa 45) (bK iv (ab (aa 48) ag))) ag)) (ay aX (aH (bC (ab (aa 50) (ab (aa 49) (ab (ay aX (aa 50) (aa 49)) (ab (ay aX (aa 49) (aa 50)) ag))))) (ay oMod (aa 45) (xk (.int 4)))) (aH (bC (ab (xk (.str ("":ae))) (ab (xk (.str ("...":ae))) (ab (ay aX (xk (.str ("...":ae))) (aa 49)) (ab (ay aX (ay aX (xk (.str ("...":ae))) (aa 49)) (xk (.str ("...":ae)))) ag))))) (ay oMod (ay oDiv (aa 45) (xk (.int 4))) (xk (.int 4)))))))
 (ao (pG [47,15] (ab (aH (bC (ab (xk (.int 0)) (ab (xk (.int 1)) (ab (gf (aT oLt (aa 24) (xk (.int 3))) (xk (.int 0)) (xk (.int 3))) (ab (gf (aT oLt (aa 24) (xk (.int 3))) (xk (.int 2)) (xk (.int 3))) ag))))) (ay oMod (ay oDiv (aa 45) (xk (.int 16))) (xk (.int 4)))) (ab (ay oMod (ay oDiv (aa 45) (xk (.int 64))) (xk (.int 3))) ag)))
 (ao (eS 0 gO (ay aX (bK (bG [14,15] tT) (ab (ay aX (ay cU (xk (.str (".":ae))) (aa 47)) (aa 14)) (ab (aa 15) ag))) (aH (bC (ab (xk (.str ("\x0a":ae))) (ab (xk (.str ("\x09\x0d":ae))) (ab (xk (.str (" \x0d\x0a":ae))) ag)))) (ay oMod (ay oDiv (aa 45) (xk (.int 192))) (xk (.int 3))))))
 (ao (gN (bU ek bAppend (aa 46) (ab (ay aX (ay cU (xk (.str (".":ae))) (gf (nq (aT l8 (aa 47) (xk (.int 0))) (nq (aT oEq (aa 15) (xk (.int 0))) (λ_ st=>some (true,st)))) (ay aX (aa 47) (aa 41)) (aa 47))) (aa 14)) ag)))
 aC)))) 400 p.1 F p.2)
theorem w5:cB (aI w base mg mb pins H) 9 (bH (hd01.heap_1 w.params) 131) 0 (((bT (hd01.heap_1 w.params) 131)[5]?).getD default) f5:=
 (iX 400 (eG (b8 (by rfl) (H.bE (by rfl)) (H.cg (by decide) (by rfl)) (by decide)) (Plain.cons rfl Plain.nil) d4 (au (gV (ai 43 (by rfl) (by decide)) dt (eZ aA) dt (by intro _ _;exact⟨_,rfl⟩)) aF (by rfl)) wZ) (bB.names (b_.cons (by rfl) ⟨trivial,.inl rfl⟩ (b_.cons (by rfl) ⟨trivial,.inl rfl⟩ b_.nil))) (aK (cY 14 (by rfl) (nZ (cQ (ai 24 (by rfl) (by decide)) aA yP (by with_unfolding_all rfl)) (dP (ai 48 (by rfl) (by decide)) (nG Hh QT) (Plain.cons rfl Plain.nil) cP (au (aY (ai 45 (by rfl) (by decide)) (dQ (b8 (by rfl) (H.bE (by rfl)) (H.cg (by decide) (by rfl)) (by decide)) (Plain.cons rfl Plain.nil) cP (au (ai 48 (by rfl) (by decide)) aF (by rfl)) pC) jM) aF (by rfl)) I6 (by intro _;rfl) (by rfl) (by decide)) (aY (cu (dk (au (ai 50 (by rfl) (by decide)) (au (ai 49 (by rfl) (by decide)) (au (aY (ai 50 (by rfl) (by decide)) (ai 49 (by rfl) (by decide)) cR) (au (aY (ai 49 (by rfl) (by decide)) (ai 50 (by rfl) (by decide)) cR) aF (by rfl)) (by rfl)) (by rfl)) (by rfl))) (aY (ai 45 (by rfl) (by decide)) aA jM) (by intro _ _;exact⟨_,rfl⟩)) (cu (dk (au cz (au cz (au (aY cz (ai 49 (by rfl) (by decide)) cR) (au (aY (aY cz (ai 49 (by rfl) (by decide)) cR) cz cR) aF (by rfl)) (by rfl)) (by rfl)) (by rfl))) (aY (aY (ai 45 (by rfl) (by decide)) aA lI) aA jM) (by intro _ _;exact⟨_,rfl⟩)) cR)) (.inl rfl) (by rfl))
 (aK (zQ (by intro k hk;simp only[bJ,a7,or_false]at hk;rcases hk with rfl|rfl<;>first|exact .inl rfl|exact .inr rfl) (ip.t (au (cu (dk (au aA (au aA (au (nZ (cQ (ai 24 (by rfl) (by decide)) aA yP (by with_unfolding_all rfl)) aA aA) (au (nZ (cQ (ai 24 (by rfl) (by decide)) aA yP (by with_unfolding_all rfl)) aA aA) aF (by rfl)) (by rfl)) (by rfl)) (by rfl))) (aY (aY (ai 45 (by rfl) (by decide)) aA lI) aA jM) (by intro _ _;exact⟨_,rfl⟩)) (au (aY (aY (ai 45 (by rfl) (by decide)) aA lI) aA jM) aF (by rfl)) (by rfl))) (by rfl))
 (aK (mx 0 (by rfl) (aY (dQ (jA (by rfl) (H.bE (by rfl)) (by decide)) (Plain.cons rfl (Plain.cons rfl Plain.nil)) (gz (by rfl)) (au (aY (aY cz (ai 47 (by rfl) (by decide)) kM) (ai 14 (by rfl) (by decide)) cR) (au (ai 15 (by rfl) (by decide)) aF (by rfl)) (by rfl)) ((Kl (n:=1) H).call.le (by decide))) (cu (dk (au cz (au cz (au cz aF (by rfl)) (by rfl)) (by rfl))) (aY (aY (ai 45 (by rfl) (by decide)) aA lI) aA jM) (by intro _ _;exact⟨_,rfl⟩)) cR) pf (.inl rfl))
 (aK (o7 (dP (ai 46 (by rfl) (by decide)) (nG uG uE) (Plain.cons rfl Plain.nil) cP (au (aY (aY cz (nZ (rJ (wh (cQ (ai 47 (by rfl) (by decide)) aA yS (by with_unfolding_all rfl)) (wh (cQ (ai 15 (by rfl) (by decide)) aA iq (by with_unfolding_all rfl)) D8))) (aY (ai 47 (by rfl) (by decide)) (ai 41 (by rfl) (by decide)) cR) (ai 47 (by rfl) (by decide))) kM) (ai 14 (by rfl) (by decide)) cR) aF (by rfl)) rI (by intro _;rfl) (by rfl) (by decide)) (by rfl))
 bp)))) (by intro _ _;rfl))
noncomputable def f6:SM:=(bj 44 (bl [] (bL (cH (aa 43) (bY (xk (.int 3))) (bY (xk (.int 6))) bb)) (.name 45) bw (a_ (ay oMod (ay oDiv (aa 45) (xk (.int 576))) (xk (.int 500)))) 400))
theorem w6:cB (aI w base mg mb pins H) 9 (bH (hd01.heap_1 w.params) 131) 0 (((bT (hd01.heap_1 w.params) 131)[6]?).getD default) f6:=
 (cY 44 (by rfl) (dG 400 (df [] (d5 (gV (ai 43 (by rfl) (by decide)) (eZ aA) (eZ aA) dt (by intro _ _;exact⟨_,rfl⟩))) (bB.name (by rfl) ⟨.inl rfl,.inl rfl⟩) dE (aY (aY (ai 45 (by rfl) (by decide)) aA lI) aA jM) (by rfl) aV.nil (by intro _ _;rfl))) (.inr rfl) (by rfl))
noncomputable def f7:SM:=(eS 0 gO (ay aX (xk (.str (".\x0a\"\"":ae))) (aH (bC (ab (xk (.str ("z ":ae))) (ab (xk (.str ("z\x09":ae))) (ab (xk (.str ("\"z\"":ae))) ag)))) (ay oMod (ay oDiv (aH (aa 43) (xk (.int 6))) (xk (.int 48))) (xk (.int 3))))))
theorem w7:cB (aI w base mg mb pins H) 9 (bH (hd01.heap_1 w.params) 131) 0 (((bT (hd01.heap_1 w.params) 131)[7]?).getD default) f7:=
 (mx 0 (by rfl) (aY cz (cu (dk (au cz (au cz (au cz aF (by rfl)) (by rfl)) (by rfl))) (aY (aY (cu (ai 43 (by rfl) (by decide)) aA (by intro _ _;exact⟨_,rfl⟩)) aA lI) aA jM) (by intro _ _;exact⟨_,rfl⟩)) cR) pf (.inl rfl))
noncomputable def f8:SM:=(eS 0 gO (ay aX (bU jr qS (xk (.str ("":ae))) (ab (bl [43] (bL (ay aX (cH (aa 43) (bY (xk (.int 6))) bb bb) (aa 44))) (.name 18) bw (a_ (bK (bG [18,19] wj) (ab (aa 18) (ab (ay oMod (ay oDiv (aH (aa 43) (xk (.int 6))) (xk (.int 12))) (xk (.int 4))) ag)))) 400) ag)) (bK tC (ab (ay aX (xk (.int 64)) (ay oMod (ay oDiv (aH (aa 43) (xk (.int 6))) (xk (.int 144))) (xk (.int 64)))) ag))))
theorem w8:cB (aI w base mg mb pins H) 9 (bH (hd01.heap_1 w.params) 131) 0 (((bT (hd01.heap_1 w.params) 131)[8]?).getD default) f8:=
 (mx 0 (by rfl) (aY (dP cz (pn BA Aw) (Plain.cons rfl Plain.nil) cP (au (dG 400 (df [43] (d5 (aY (gV (ai 43 (by rfl) (by decide)) (eZ aA) dt dt (by intro _ _;exact⟨_,rfl⟩)) (ai 44 (by rfl) (by decide)) cR)) (bB.name (by rfl) ⟨.inl rfl,.inl rfl⟩) dE (dQ (jA (by rfl) (H.bE (by rfl)) (by decide)) (Plain.cons rfl (Plain.cons rfl Plain.nil)) (gz (by rfl)) (au (ai 18 (by rfl) (by decide)) (au (aY (aY (cu (ai 43 (by rfl) (by decide)) aA (by intro _ _;exact⟨_,rfl⟩)) aA lI) aA jM) aF (by rfl)) (by rfl)) ((KA (n:=1) H).call.le (by decide))) (by rfl) (aV.cons _ (by rfl) (by rfl) aV.nil) (by intro _ _;rfl))) aF (by rfl)) ya (by intro _;rfl) (by rfl) (by decide)) (dQ (b8 (by rfl) (H.bE (by rfl)) (H.cg (by decide) (by rfl)) (by decide)) (Plain.cons rfl Plain.nil) cP (au (aY aA (aY (aY (cu (ai 43 (by rfl) (by decide)) aA (by intro _ _;exact⟨_,rfl⟩)) aA lI) aA jM) cR) aF (by rfl)) Cr) cR) pf (.inl rfl))
noncomputable def f9:SM:=(λF st=>((bD cS (ab (aa 41) ag)) F st).bind λp=>cA (.name 42) (ao (bj 0 (bK (bG [37] p6) (ab (aa 0) ag)))
 aC) 400 p.1 F p.2)
theorem w9:cB (aI w base mg mb pins H) 9 (bH (hd01.heap_1 w.params) 131) 0 (((bT (hd01.heap_1 w.params) 131)[9]?).getD default) f9:=
 (iX 400 (eG (b8 (by rfl) (H.bE (by rfl)) (H.cg (by decide) (by rfl)) (by decide)) (Plain.cons rfl Plain.nil) d4 (au (ai 41 (by rfl) (by decide)) aF (by rfl)) jW) (bB.name (by rfl) ⟨trivial,.inl rfl⟩) (aK (cY 0 (by rfl) (dQ (jA (by rfl) (H.bE (by rfl)) (by decide)) (Plain.cons rfl Plain.nil) (gz (by rfl)) (au (ai 0 (by rfl) (by decide)) aF (by rfl)) ((Lo (n:=1) H).call.le (by decide))) (.inl rfl) (by rfl))
 bp) (by intro _ _;rfl))
noncomputable def tz(D:ak)(xs:List AV):SM:=(ao (f0 D xs)
 (ao f1
 (ao f2
 (ao f3
 (ao f4
 (ao f5
 (ao f6
 (ao f7
 (ao f8
 (ao f9
 aC))))))))))
theorem W2{D:ak}{xs:List AV}{vs:List af}(hD:base.IsList D vs.toArray)(J:∀ρ,bu ρ xs vs):s8 (aI w base mg mb pins H) 9 (bH (hd01.heap_1 w.params) 131) 0 0 ((bT (hd01.heap_1 w.params) 131).take 10) (tz D xs):=
 (fk (w0 H hD J)
 (fk (w1 H)
 (fk (w2 H)
 (fk (w3 H)
 (fk (w4 H)
 (fk (w5 H)
 (fk (w6 H)
 (fk (w7 H)
 (fk (w8 H)
 (fk (w9 H)
 B_))))))))))
end
section
variable{w:dB}{base:aO}{mg mb:ae->Option af}{pins:List (Nat×ak)}(H:Fx (hd01.heap_1 w.params) base mg mb)
noncomputable def zC:SM:=(bj 53 (bK (yI 69 (bG [27,28] ua)) (ab (aa 3) ag)))
theorem YU:cB (aI w base mg mb pins H) 9 (bH (hd01.heap_1 w.params) 131) 0 (((bT (hd01.heap_1 w.params) 131)[11]?).getD default) zC:=
 (cY 53 (by rfl) (dQ (jA (by rfl) (H.bE (by rfl)) (by decide)) (Plain.cons rfl Plain.nil) (gz (by rfl)) (au (ai 3 (by rfl) (by decide)) aF (by rfl)) ((Ma (n:=2) (by rfl) (by rfl) (by rfl) (Mo (n:=1) H)).call.le (by decide))) (.inr rfl) (by rfl))
noncomputable def zD(bq:AV->St->Option (List AV))(J:List AV->St->Option (AV×St)):SM:=(cn (aT c5 (bl [53] (bL (aa 46)) (.name 42) bw (a_ (bU (f_ 69 40) (bG [27] (oO bq J)) (aa 53) ag)) 400) (aa 46)) (ao (cy (xk (.bool false)))
 aC) aC)
theorem YA{rA:ak}{bq:AV->St->Option (List AV)}{R:List AV->St->Option (AV×St)}(N:gM (aI w base mg mb pins H) "read" (.ref rA) bq)(J:ik (aI w base mg mb pins H) (.ref rA))(O:dX (aI w base mg mb pins H) 1 (.ref rA) R):cB (aI w base mg mb pins H) 9 (bH (hd01.heap_1 w.params) 131) 0 (((bT (hd01.heap_1 w.params) 131)[12]?).getD default) (zD bq R):=
 (eO (cQ (dG 400 (df [53] (d5 (ai 46 (by rfl) (by decide))) (bB.name (by rfl) ⟨.inl rfl,.inl rfl⟩) dE (dP (ai 53 (by rfl) (by decide)) (mU 40 (by rfl) (fL H) (by rfl) (by rfl)) Plain.nil (gz (by rfl)) aF ((tZ H N J O).call.le (by decide)) (by intro _;rfl) (by rfl) (by decide)) (by rfl) (aV.cons _ (by rfl) (by rfl) aV.nil) (by intro _ _;rfl))) (ai 46 (by rfl) (by decide)) kT (by with_unfolding_all rfl)) (aK (eC kv)
 bp) bp)
noncomputable def Dw:SM:=(v3 [66,60] (ab (cH (aa 46) bb (bY (xk (.int 3))) bb) (ab (cH (aa 46) (bY (xk (.int 3))) bb bb) ag)))
theorem Yr:cB (aI w base mg mb pins H) 9 (bH (hd01.heap_1 w.params) 131) 0 (((bT (hd01.heap_1 w.params) 131)[13]?).getD default) Dw:=
 (DN (b_.cons (by rfl) ⟨trivial,.inr rfl⟩ (b_.cons (by rfl) ⟨trivial,.inl rfl⟩ b_.nil)) (ip.t (au (gV (ai 46 (by rfl) (by decide)) dt (eZ aA) dt (by intro _ _;exact⟨_,rfl⟩)) (au (gV (ai 46 (by rfl) (by decide)) (eZ aA) dt dt (by intro _ _;exact⟨_,rfl⟩)) aF (by rfl)) (by rfl))) (by rfl))
noncomputable def DD:SM:=(bj 59 (bl [66] (bL (aa 60)) (.name 8) bw (a_ (bl [8] (bL (aa 66)) (.name 25) bw (a_ (bK (bG [8,25] tU) (ab (aa 8) (ab (aa 25) ag)))) 400)) 400))
theorem Yk:cB (aI w base mg mb pins H) 9 (bH (hd01.heap_1 w.params) 131) 0 (((bT (hd01.heap_1 w.params) 131)[14]?).getD default) DD:=
 (cY 59 (by rfl) (dG 400 (df [66] (d5 (ai 60 (by rfl) (by decide))) (bB.name (by rfl) ⟨.inr rfl,.inr rfl⟩) dE (dG 400 (df [8] (d5 (ai 66 (by rfl) (by decide))) (bB.name (by rfl) ⟨.inl rfl,.inl rfl⟩) dE (dQ (jA (by rfl) (H.bE (by rfl)) (by decide)) (Plain.cons rfl (Plain.cons rfl Plain.nil)) (gz (by rfl)) (au (ai 8 (by rfl) (by decide)) (au (ai 25 (by rfl) (by decide)) aF (by rfl)) (by rfl)) ((KY (n:=1) H).call.le (by decide))) (by rfl) (aV.cons _ (by rfl) (by rfl) aV.nil) (by intro _ _;rfl))) (by rfl) (aV.cons _ (by rfl) (by rfl) aV.nil) (by intro _ _;rfl))) (.inr rfl) (by rfl))
noncomputable def Dv:SM:=(bj 55 (bC (ab (de (ab (xk (.int 0)) (ab (xk (.int 1)) (ab (xk (.int 2)) ag)))) (ab (de (ab (xk (.int 0)) (ab (xk (.int 2)) (ab (xk (.int 1)) ag)))) (ab (de (ab (xk (.int 1)) (ab (xk (.int 0)) (ab (xk (.int 2)) ag)))) (ab (de (ab (xk (.int 1)) (ab (xk (.int 2)) (ab (xk (.int 0)) ag)))) (ab (de (ab (xk (.int 2)) (ab (xk (.int 0)) (ab (xk (.int 1)) ag)))) (ab (de (ab (xk (.int 2)) (ab (xk (.int 1)) (ab (xk (.int 0)) ag)))) ag))))))))
theorem YR:cB (aI w base mg mb pins H) 9 (bH (hd01.heap_1 w.params) 131) 0 (((bT (hd01.heap_1 w.params) 131)[15]?).getD default) Dv:=
 (cY 55 (by rfl) (dk (au (gm (au aA (au aA (au aA aF (by rfl)) (by rfl)) (by rfl))) (au (gm (au aA (au aA (au aA aF (by rfl)) (by rfl)) (by rfl))) (au (gm (au aA (au aA (au aA aF (by rfl)) (by rfl)) (by rfl))) (au (gm (au aA (au aA (au aA aF (by rfl)) (by rfl)) (by rfl))) (au (gm (au aA (au aA (au aA aF (by rfl)) (by rfl)) (by rfl))) (au (gm (au aA (au aA (au aA aF (by rfl)) (by rfl)) (by rfl))) aF (by rfl)) (by rfl)) (by rfl)) (by rfl)) (by rfl)) (by rfl))) (.inl rfl) (by rfl))
noncomputable def DA:SM:=(bj 64 (bl [66] (bL (aa 55)) (.name 56) bw (a_ (bl [66] (bL (aa 56)) (.name 26) bw (a_ (aH (aa 66) (aa 26))) 400)) 400))
theorem YX:cB (aI w base mg mb pins H) 9 (bH (hd01.heap_1 w.params) 131) 0 (((bT (hd01.heap_1 w.params) 131)[16]?).getD default) DA:=
 (cY 64 (by rfl) (dG 400 (df [66] (d5 (ai 55 (by rfl) (by decide))) (bB.name (by rfl) ⟨.inl rfl,.inl rfl⟩) dE (dG 400 (df [66] (d5 (ai 56 (by rfl) (by decide))) (bB.name (by rfl) ⟨.inl rfl,.inl rfl⟩) dE (cu (ai 66 (by rfl) (by decide)) (ai 26 (by rfl) (by decide)) (by intro _ _;exact⟨_,rfl⟩)) (by rfl) (aV.cons _ (by rfl) (by rfl) aV.nil) (by intro _ _;rfl))) (by rfl) (aV.cons _ (by rfl) (by rfl) aV.nil) (by intro _ _;rfl))) (.inr rfl) (by rfl))
noncomputable def zy:SM:=(bj 57 (bC ag))
theorem YW:cB (aI w base mg mb pins H) 9 (bH (hd01.heap_1 w.params) 131) 0 (((bT (hd01.heap_1 w.params) 131)[17]?).getD default) zy:=
 (cY 57 (by rfl) (dk aF) (.inr rfl) (by rfl))
noncomputable def zx(bq:AV->St->Option (List AV))(J:List AV->St->Option (AV×St)):SM:=(λF st=>((bD fM (ab (aa 60) (ab (aa 59) ag))) F st).bind λp=>cA (.names [8,61]) (ao (cn (aT c5 (bl [8] (bD fM (ab (aa 66) (ab (aa 61) ag))) (.names [25,67]) (aT sZ (bK (bG [8,9] lz) (ab (aa 8) (ab (aa 25) ag))) (aa 67)) (a_ (aa 25)) 400) (bC ag)) (ao (cy (xk (.bool false)))
 aC) aC)
 (ao (λF st=>((bL (aa 64)) F st).bind λp=>cA (.name 65) (ao (λF st=>((bL (ay aX (aa 65) (bC (ab (xk (.str ("":ae))) ag)))) F st).bind λp=>cA (.name 14) (ao (gN (bU (f_ 69 39) (bG [27,33] p4) (aa 53) (ab (aa 14) ag)))
 aC) 400 p.1 F p.2)
 aC) 400 p.1 F p.2)
 (ao (λF st=>((bL (aa 64)) F st).bind λp=>cA (.name 42) (ao (bj 9 (bl [53] (bD cS (ab (xk (.int 4)) ag)) (.name 42) bw (a_ (bU (f_ 69 40) (bG [27] (oO bq J)) (aa 53) ag)) 400))
 (ao (λF st=>((bL (ay aX (sX tp 0 152 44 ("law.<locals>.<lambda>":ae) 14 [8] (bK (bG [8,9] lz) (ab (aa 8) (ab (aa 14) ag))) (cH (aa 9) bb (bY (xk (.int 3))) bb)) (cH (aa 9) (bY (xk (.int 3))) bb bb))) F st).bind λp=>cA (.name 14) (ao (gN (bU (f_ 69 39) (bG [27,33] p4) (aa 53) (ab (aa 14) ag)))
 aC) 400 p.1 F p.2)
 aC)) 400 p.1 F p.2)
 (ao (bj 62 (bl [53] (bL (aa 64)) (.name 42) bw (a_ (bl [53] (bD cS (ab (xk (.int 4)) ag)) (.name 42) bw (a_ (bU (f_ 69 40) (bG [27] (oO bq J)) (aa 53) ag)) 400)) 400))
 (ao (cn (aT c5 (bl [64] (bL (aa 62)) (.name 63) (ix (aT mC (cH (aa 63) bb (bY (xk (.int 3))) bb) (aa 64)) (ix (aT c5 (aH (aa 63) (xk (.int 3))) (xk (.str ("":ae)))) (λ_ st=>some (false,st)))) (a_ (aa 63)) 400) (bC ag)) (ao (cy (xk (.bool false)))
 aC) aC)
 (ao (gN (bU ek bAppend (aa 57) (ab (bl [64] (bL (aa 62)) (.name 63) bw (a_ (bU ek bIndex (aa 64) (ab (cH (aa 63) bb (bY (xk (.int 3))) bb) ag))) 400) ag)))
 aC)))))) 400 p.1 F p.2)
theorem Yy{rA:ak}{bq:AV->St->Option (List AV)}{R:List AV->St->Option (AV×St)}(N:gM (aI w base mg mb pins H) "read" (.ref rA) bq)(J:ik (aI w base mg mb pins H) (.ref rA))(O:dX (aI w base mg mb pins H) 1 (.ref rA) R)(S:TabAt (aI w base mg mb pins H) 0 128 130):cB (aI w base mg mb pins H) 9 (bH (hd01.heap_1 w.params) 131) 0 (((bT (hd01.heap_1 w.params) 131)[18]?).getD default) (zx bq R):=
 (iX 400 (eG (b8 (by rfl) (H.bE (by rfl)) (H.cg (by decide) (by rfl)) (by decide)) (Plain.cons rfl (Plain.cons rfl Plain.nil)) d4 (au (ai 60 (by rfl) (by decide)) (au (ai 59 (by rfl) (by decide)) aF (by rfl)) (by rfl)) pg) (bB.names (b_.cons (by rfl) ⟨trivial,.inr rfl⟩ (b_.cons (by rfl) ⟨trivial,.inl rfl⟩ b_.nil))) (aK (eO (cQ (dG 400 (df [8] (eG (b8 (by rfl) (H.bE (by rfl)) (H.cg (by decide) (by rfl)) (by decide)) (Plain.cons rfl (Plain.cons rfl Plain.nil)) d4 (au (ai 66 (by rfl) (by decide)) (au (ai 61 (by rfl) (by decide)) aF (by rfl)) (by rfl)) pg) (bB.names (b_.cons (by rfl) ⟨.inl rfl,.inl rfl⟩ (b_.cons (by rfl) ⟨.inl rfl,.inl rfl⟩ b_.nil))) (oZ (cQ (dQ (jA (by rfl) (H.bE (by rfl)) (by decide)) (Plain.cons rfl (Plain.cons rfl Plain.nil)) (gz (by rfl)) (au (ai 8 (by rfl) (by decide)) (au (ai 25 (by rfl) (by decide)) aF (by rfl)) (by rfl)) ((DI (n:=1) H).call.le (by decide))) (ai 67 (by rfl) (by decide)) RC (by with_unfolding_all rfl))) (ai 25 (by rfl) (by decide)) (by rfl) (aV.cons _ (by rfl) (by rfl) aV.nil) (by intro _ _;rfl))) (dk aF) kT (by with_unfolding_all rfl)) (aK (eC kv)
 bp) bp)
 (aK (iX 400 (d5 (ai 64 (by rfl) (by decide))) (bB.name (by rfl) ⟨trivial,.inl rfl⟩) (aK (iX 400 (d5 (aY (ai 65 (by rfl) (by decide)) (dk (au cz aF (by rfl))) cR)) (bB.name (by rfl) ⟨trivial,.inl rfl⟩) (aK (o7 (dP (ai 53 (by rfl) (by decide)) (mU 39 (by rfl) (fL H) (by rfl) (by rfl)) (Plain.cons rfl Plain.nil) (gz (by rfl)) (au (ai 14 (by rfl) (by decide)) aF (by rfl)) ((D2 (n:=1) H).call.le (by decide)) (by intro _;rfl) (by rfl) (by decide)) (by rfl))
 bp) (by intro _ _;rfl))
 bp) (by intro _ _;rfl))
 (aK (iX 400 (d5 (ai 64 (by rfl) (by decide))) (bB.name (by rfl) ⟨trivial,.inl rfl⟩) (aK (rm 9 (by rfl) 400 (df [53] (eG (b8 (by rfl) (H.bE (by rfl)) (H.cg (by decide) (by rfl)) (by decide)) (Plain.cons rfl Plain.nil) d4 (au aA aF (by rfl)) jW) (bB.name (by rfl) ⟨.inl rfl,.inl rfl⟩) dE (dP (ai 53 (by rfl) (by decide)) (mU 40 (by rfl) (fL H) (by rfl) (by rfl)) Plain.nil (gz (by rfl)) aF ((tZ H N J O).call.le (by decide)) (by intro _;rfl) (by rfl) (by decide)) (by rfl) (aV.cons _ (by rfl) (by rfl) aV.nil) (by intro _ _;rfl)) (.inl rfl) (by rfl))
 (aK (iX 400 (d5 (aY (EK (b8 (by rfl) (H.bE (by rfl)) (H.cg (by decide) (by rfl)) (by decide)) (by rfl) (gV (ai 9 (by rfl) (by decide)) dt (eZ aA) dt (by intro _ _;exact⟨_,rfl⟩)) TX S (by rfl) (by intro _;rfl) ⟨(dQ (jA (by rfl) (H.bE (by rfl)) (by decide)) (Plain.cons rfl (Plain.cons rfl Plain.nil)) (gz (by rfl)) (au (ai 8 (by rfl) (by decide)) (au (ai 14 (by rfl) (by decide)) aF (by rfl)) (by rfl)) ((DI (n:=1) H).call.le (by decide))),(by rfl),(aV.cons _ (by rfl) (by rfl) aV.nil),(by decide),(by rfl),(by intros;rfl),(by rfl),(by rfl)⟩) (gV (ai 9 (by rfl) (by decide)) (eZ aA) dt dt (by intro _ _;exact⟨_,rfl⟩)) cR)) (bB.name (by rfl) ⟨trivial,.inl rfl⟩) (aK (o7 (dP (ai 53 (by rfl) (by decide)) (mU 39 (by rfl) (fL H) (by rfl) (by rfl)) (Plain.cons rfl Plain.nil) (gz (by rfl)) (au (ai 14 (by rfl) (by decide)) aF (by rfl)) ((D2 (n:=1) H).call.le (by decide)) (by intro _;rfl) (by rfl) (by decide)) (by rfl))
 bp) (by intro _ _;rfl))
 bp)) (by intro _ _;rfl))
 (aK (rm 62 (by rfl) 400 (df [53] (d5 (ai 64 (by rfl) (by decide))) (bB.name (by rfl) ⟨.inl rfl,.inl rfl⟩) dE (dG 400 (df [53] (eG (b8 (by rfl) (H.bE (by rfl)) (H.cg (by decide) (by rfl)) (by decide)) (Plain.cons rfl Plain.nil) d4 (au aA aF (by rfl)) jW) (bB.name (by rfl) ⟨.inl rfl,.inl rfl⟩) dE (dP (ai 53 (by rfl) (by decide)) (mU 40 (by rfl) (fL H) (by rfl) (by rfl)) Plain.nil (gz (by rfl)) aF ((tZ H N J O).call.le (by decide)) (by intro _;rfl) (by rfl) (by decide)) (by rfl) (aV.cons _ (by rfl) (by rfl) aV.nil) (by intro _ _;rfl))) (by rfl) (aV.cons _ (by rfl) (by rfl) aV.nil) (by intro _ _;rfl)) (.inl rfl) (by rfl))
 (aK (eO (cQ (dG 400 (df [64] (d5 (ai 62 (by rfl) (by decide))) (bB.name (by rfl) ⟨.inl rfl,.inl rfl⟩) (oZ (rJ (oN (cQ (gV (ai 63 (by rfl) (by decide)) dt (eZ aA) dt (by intro _ _;exact⟨_,rfl⟩)) (ai 64 (by rfl) (by decide)) Fh (by with_unfolding_all rfl)) (oN (cQ (cu (ai 63 (by rfl) (by decide)) aA (by intro _ _;exact⟨_,rfl⟩)) cz kT (by with_unfolding_all rfl)) wu)))) (ai 63 (by rfl) (by decide)) (by rfl) (aV.cons _ (by rfl) (by rfl) aV.nil) (by intro _ _;rfl))) (dk aF) kT (by with_unfolding_all rfl)) (aK (eC kv)
 bp) bp)
 (aK (o7 (dP (ai 57 (by rfl) (by decide)) (nG uG uE) (Plain.cons rfl Plain.nil) cP (au (dG 400 (df [64] (d5 (ai 62 (by rfl) (by decide))) (bB.name (by rfl) ⟨.inl rfl,.inl rfl⟩) dE (dP (ai 64 (by rfl) (by decide)) (nG PJ Y9) (Plain.cons rfl Plain.nil) cP (au (gV (ai 63 (by rfl) (by decide)) dt (eZ aA) dt (by intro _ _;exact⟨_,rfl⟩)) aF (by rfl)) OX (by intro _;rfl) (by rfl) (by decide)) (by rfl) (aV.cons _ (by rfl) (by rfl) aV.nil) (by intro _ _;rfl))) aF (by rfl)) rI (by intro _;rfl) (by rfl) (by decide)) (by rfl))
 bp)))))) (by intro _ _;rfl))
noncomputable def zz:SM:=(λF st=>((bD lV (ab (aa 55) ag)) F st).bind λp=>cA (.names [24,56]) (ao (bj 58 (sX tA 0 159 32 ("law.<locals>.<lambda>":ae) 26 [59,56] (de (ab (aH (aH (aa 59) (xk (.int 2))) (aa 26)) (ab (aH (aH (aa 59) (xk (.int 1))) (aa 26)) (ab (aH (aH (aa 59) (xk (.int 0))) (aa 26)) (ab (bU vA uJ (aa 56) (ab (aa 26) ag)) ag))))) (aa 56)))
 (ao (cn (aT c5 (bK yE (ab (aH (aa 55) (aH (aH (aa 57) (xk (.int 2))) (aH (aH (aa 57) (xk (.int 1))) (aH (aH (aa 57) (xk (.int 0))) (aa 24))))) ag)) (aa 58)) (ao (cy (xk (.bool false)))
 aC) aC)
 aC)) 400 p.1 F p.2)
theorem Yx(J:TabAt (aI w base mg mb pins H) 0 128 130):cB (aI w base mg mb pins H) 9 (bH (hd01.heap_1 w.params) 131) 0 (((bT (hd01.heap_1 w.params) 131)[19]?).getD default) zz:=
 (iX 400 (eG (b8 (by rfl) (H.bE (by rfl)) (H.cg (by decide) (by rfl)) (by decide)) (Plain.cons rfl Plain.nil) d4 (au (ai 55 (by rfl) (by decide)) aF (by rfl)) wZ) (bB.names (b_.cons (by rfl) ⟨trivial,.inl rfl⟩ (b_.cons (by rfl) ⟨trivial,.inr rfl⟩ b_.nil))) (aK (cY 58 (by rfl) (EK (b8 (by rfl) (H.bE (by rfl)) (H.cg (by decide) (by rfl)) (by decide)) (by rfl) (ai 56 (by rfl) (by decide)) S8 J (by rfl) (by intro _;rfl) ⟨(gm (au (cu (cu (ai 59 (by rfl) (by decide)) aA (by intro _ _;exact⟨_,rfl⟩)) (ai 26 (by rfl) (by decide)) (by intro _ _;exact⟨_,rfl⟩)) (au (cu (cu (ai 59 (by rfl) (by decide)) aA (by intro _ _;exact⟨_,rfl⟩)) (ai 26 (by rfl) (by decide)) (by intro _ _;exact⟨_,rfl⟩)) (au (cu (cu (ai 59 (by rfl) (by decide)) aA (by intro _ _;exact⟨_,rfl⟩)) (ai 26 (by rfl) (by decide)) (by intro _ _;exact⟨_,rfl⟩)) (au (dP (ai 56 (by rfl) (by decide)) (Sk Rp ZC) (Plain.cons rfl Plain.nil) cP (au (ai 26 (by rfl) (by decide)) aF (by rfl)) Ml (by intro _;rfl) (by rfl) (by decide)) aF (by rfl)) (by rfl)) (by rfl)) (by rfl))),(by rfl),(aV.cons _ (by rfl) (by rfl) (aV.cons _ (by rfl) (by rfl) aV.nil)),(by decide),(by rfl),(by intros;rfl),(by rfl),(by rfl)⟩) (.inl rfl) (by rfl))
 (aK (eO (cQ (dQ (b8 (by rfl) (H.bE (by rfl)) (H.cg (by decide) (by rfl)) (by decide)) (Plain.cons rfl Plain.nil) d4 (au (cu (ai 55 (by rfl) (by decide)) (cu (cu (ai 57 (by rfl) (by decide)) aA (by intro _ _;exact⟨_,rfl⟩)) (cu (cu (ai 57 (by rfl) (by decide)) aA (by intro _ _;exact⟨_,rfl⟩)) (cu (cu (ai 57 (by rfl) (by decide)) aA (by intro _ _;exact⟨_,rfl⟩)) (ai 24 (by rfl) (by decide)) (by intro _ _;exact⟨_,rfl⟩)) (by intro _ _;exact⟨_,rfl⟩)) (by intro _ _;exact⟨_,rfl⟩)) (by intro _ _;exact⟨_,rfl⟩)) aF (by rfl)) Nr) (ai 58 (by rfl) (by decide)) kT (by with_unfolding_all rfl)) (aK (eC kv)
 bp) bp)
 bp)) (by intro _ _;rfl))
noncomputable def zF(bq:AV->St->Option (List AV))(J:List AV->St->Option (AV×St)):SM:=(cn (aT c5 (ay aX (bl [53] (bD cS (ab (xk (.int 3)) ag)) (.name 42) bw (a_ (bU (f_ 69 40) (bG [27] (oO bq J)) (aa 53) ag)) 400) (bC (ab (jq 69 32 (aa 53)) ag))) (bC (ab (ay cU (xk (.str (".":ae))) (ay aX (xk (.int 1)) (aa 41))) (ab (xk (.str ("":ae))) (ab (xk (.str ("z":ae))) (ab (xk (.int 8)) ag)))))) (ao (cy (xk (.bool false)))
 aC) aC)
theorem Yo{rA:ak}{bq:AV->St->Option (List AV)}{R:List AV->St->Option (AV×St)}(N:gM (aI w base mg mb pins H) "read" (.ref rA) bq)(J:ik (aI w base mg mb pins H) (.ref rA))(O:dX (aI w base mg mb pins H) 1 (.ref rA) R):cB (aI w base mg mb pins H) 9 (bH (hd01.heap_1 w.params) 131) 0 (((bT (hd01.heap_1 w.params) 131)[20]?).getD default) (zF bq R):=
 (eO (cQ (aY (dG 400 (df [53] (eG (b8 (by rfl) (H.bE (by rfl)) (H.cg (by decide) (by rfl)) (by decide)) (Plain.cons rfl Plain.nil) d4 (au aA aF (by rfl)) jW) (bB.name (by rfl) ⟨.inl rfl,.inl rfl⟩) dE (dP (ai 53 (by rfl) (by decide)) (mU 40 (by rfl) (fL H) (by rfl) (by rfl)) Plain.nil (gz (by rfl)) aF ((tZ H N J O).call.le (by decide)) (by intro _;rfl) (by rfl) (by decide)) (by rfl) (aV.cons _ (by rfl) (by rfl) aV.nil) (by intro _ _;rfl))) (dk (au (qb 32 (by rfl) (fL H) (by rfl) (ai 53 (by rfl) (by decide))) aF (by rfl))) cR) (dk (au (aY cz (aY aA (ai 41 (by rfl) (by decide)) cR) kM) (au cz (au cz (au aA aF (by rfl)) (by rfl)) (by rfl)) (by rfl))) kT (by with_unfolding_all rfl)) (aK (eC kv)
 bp) bp)
noncomputable def zw(bq:AV->St->Option (List AV))(J:List AV->St->Option (AV×St)):SM:=(bj 54 (bK qQ (ab (bl [] (bL (bU bq J (aa 3) (ab (xk (.int 99)) ag))) (.name 17) bw (a_ (bK vM (ab (aa 17) ag))) 400) ag)))
theorem YQ{rA:ak}{bq:AV->St->Option (List AV)}{R:List AV->St->Option (AV×St)}(N:gM (aI w base mg mb pins H) "read" (.ref rA) bq)(J:ik (aI w base mg mb pins H) (.ref rA))(O:dX (aI w base mg mb pins H) 1 (.ref rA) R):cB (aI w base mg mb pins H) 9 (bH (hd01.heap_1 w.params) 131) 0 (((bT (hd01.heap_1 w.params) 131)[21]?).getD default) (zw bq R):=
 (cY 54 (by rfl) (dQ (b8 (by rfl) (H.bE (by rfl)) (H.cg (by decide) (by rfl)) (by decide)) (Plain.cons rfl Plain.nil) cP (au (dG 400 (df [] (d5 (dP (ai 3 (by rfl) (by decide)) N (Plain.cons rfl Plain.nil) J (au aA aF (by rfl)) (O.call.le (by decide)) (by intro _;rfl) (by rfl) (by decide))) (bB.name (by rfl) ⟨.inl rfl,.inl rfl⟩) dE (dQ (b8 (by rfl) (H.bE (by rfl)) (H.cg (by decide) (by rfl)) (by decide)) (Plain.cons rfl Plain.nil) cP (au (ai 17 (by rfl) (by decide)) aF (by rfl)) Ta) (by rfl) aV.nil (by intro _ _;rfl))) aF (by rfl)) HT) (.inr rfl) (by rfl))
noncomputable def zr(bq:AV->St->Option (List AV))(J:List AV->St->Option (AV×St)):SM:=(cn (ix (aT c5 (bl [54] (bD cS (ab (xk (.int 4)) ag)) (.name 42) bw (a_ (bK (bG [5] pY) (ab (aa 54) ag))) 400) (ay aX (cH (aa 43) (bY (xk (.int 6))) bb bb) (aa 44))) (ix (aT c5 (bU (f_ 69 40) (bG [27] (oO bq J)) (aa 53) ag) (xk (.str ("":ae)))) (λ_ st=>some (false,st)))) (ao (cy (xk (.bool false)))
 aC) aC)
theorem YC{rA:ak}{bq:AV->St->Option (List AV)}{R:List AV->St->Option (AV×St)}(N:gM (aI w base mg mb pins H) "read" (.ref rA) bq)(J:ik (aI w base mg mb pins H) (.ref rA))(O:dX (aI w base mg mb pins H) 1 (.ref rA) R):cB (aI w base mg mb pins H) 9 (bH (hd01.heap_1 w.params) 131) 0 (((bT (hd01.heap_1 w.params) 131)[22]?).getD default) (zr bq R):=
 (eO (rJ (oN (cQ (dG 400 (df [54] (eG (b8 (by rfl) (H.bE (by rfl)) (H.cg (by decide) (by rfl)) (by decide)) (Plain.cons rfl Plain.nil) d4 (au aA aF (by rfl)) jW) (bB.name (by rfl) ⟨.inl rfl,.inl rfl⟩) dE (dQ (jA (by rfl) (H.bE (by rfl)) (by decide)) (Plain.cons rfl Plain.nil) (gz (by rfl)) (au (ai 54 (by rfl) (by decide)) aF (by rfl)) ((Kj (n:=1) H).call.le (by decide))) (by rfl) (aV.cons _ (by rfl) (by rfl) aV.nil) (by intro _ _;rfl))) (aY (gV (ai 43 (by rfl) (by decide)) (eZ aA) dt dt (by intro _ _;exact⟨_,rfl⟩)) (ai 44 (by rfl) (by decide)) cR) kT (by with_unfolding_all rfl)) (oN (cQ (dP (ai 53 (by rfl) (by decide)) (mU 40 (by rfl) (fL H) (by rfl) (by rfl)) Plain.nil (gz (by rfl)) aF ((tZ H N J O).call.le (by decide)) (by intro _;rfl) (by rfl) (by decide)) cz kT (by with_unfolding_all rfl)) wu))) (aK (eC kv)
 bp) bp)
noncomputable def q3(bq:AV->St->Option (List AV))(J:List AV->St->Option (AV×St)):SM:=(ao zC
 (ao (zD bq J)
 (ao Dw
 (ao DD
 (ao Dv
 (ao DA
 (ao zy
 (ao (zx bq J)
 (ao zz
 (ao (zF bq J)
 (ao (zw bq J)
 (ao (zr bq J)
 aC))))))))))))
theorem Xv{rA:ak}{bq:AV->St->Option (List AV)}{R:List AV->St->Option (AV×St)}(N:gM (aI w base mg mb pins H) "read" (.ref rA) bq)(J:ik (aI w base mg mb pins H) (.ref rA))(O:dX (aI w base mg mb pins H) 1 (.ref rA) R)(S:TabAt (aI w base mg mb pins H) 0 128 130):s8 (aI w base mg mb pins H) 9 (bH (hd01.heap_1 w.params) 131) 0 0 (((bT (hd01.heap_1 w.params) 131).drop 11).take 12) (q3 bq R):=
 (fk (YU H)
 (fk (YA H N J O)
 (fk (Yr H)
 (fk (Yk H)
 (fk (YR H)
 (fk (YX H)
 (fk (YW H)
 (fk (Yy H N J O S)
 (fk (Yx H S)
 (fk (Yo H N J O)
 (fk (YQ H N J O)
 (fk (YC H N J O)
 B_))))))))))))
end
section
variable{w:dB}{base:aO}{mg mb:ae->Option af}{pins:List (Nat×ak)}(H:Fx (hd01.heap_1 w.params) base mg mb)
noncomputable def tJ:SM:=(bj 78 (bC ag))
theorem YK:cB (aI w base mg mb pins H) 9 (bH (hd01.heap_1 w.params) 131) 0 (((bT (hd01.heap_1 w.params) 131)[24]?).getD default) tJ:=
 (cY 78 rfl (dk aF) (.inr rfl) rfl)
noncomputable def q6:SM:=(λF st=>((bL (bC (ab (bC (ab (de (ab (xk (.int 0)) (ab (xk (.int 1)) (ab (xk (.int 2)) ag)))) ag)) (ab (bC (ab (de (ab (xk (.int 0)) ag)) (ab (de (ab (xk (.int 1)) (ab (xk (.int 2)) ag))) ag))) (ab (bC (ab (de (ab (xk (.int 1)) ag)) (ab (de (ab (xk (.int 0)) (ab (xk (.int 2)) ag))) ag))) (ab (bC (ab (de (ab (xk (.int 2)) ag)) (ab (de (ab (xk (.int 0)) (ab (xk (.int 1)) ag))) ag))) (ab (bC (ab (de (ab (xk (.int 0)) ag)) (ab (de (ab (xk (.int 1)) ag)) (ab (de (ab (xk (.int 2)) ag)) ag)))) ag))))))) F st).bind λp=>cA (.name 21) (ao (gN (bU ek bAppend (aa 78) (ab (bK fP (ab (bl [21] (bD fM (ab (aa 44) (ab (aa 59) ag))) (.names [73,61]) (aT oEq (bl [61] (bL (aa 21)) (.name 22) (aT l8 (ta [61] (bL (aa 22)) (.name 26) bw (nA (aH (aa 61) (aa 26))) 400) (xk (.int 1))) (a_ (aa 22)) 400) (bC ag)) (a_ (aa 73)) 400) ag)) ag)))
 aC) 400 p.1 F p.2)
theorem YE:cB (aI w base mg mb pins H) 9 (bH (hd01.heap_1 w.params) 131) 0 (((bT (hd01.heap_1 w.params) 131)[25]?).getD default) q6:=
 (iX 400 (d5 (dk (au (dk (au (gm (au aA (au aA (au aA aF rfl) rfl) rfl)) aF rfl)) (au (dk (au (gm (au aA aF rfl)) (au (gm (au aA (au aA aF rfl) rfl)) aF rfl) rfl)) (au (dk (au (gm (au aA aF rfl)) (au (gm (au aA (au aA aF rfl) rfl)) aF rfl) rfl)) (au (dk (au (gm (au aA aF rfl)) (au (gm (au aA (au aA aF rfl) rfl)) aF rfl) rfl)) (au (dk (au (gm (au aA aF rfl)) (au (gm (au aA aF rfl)) (au (gm (au aA aF rfl)) aF rfl) rfl) rfl)) aF rfl) rfl) rfl) rfl) rfl))) (bB.name rfl ⟨trivial,.inr rfl⟩) (aK (o7 (dP (ai 78 rfl (by decide)) (nG uG uE) (Plain.cons rfl Plain.nil) cP (au (dQ (b8 rfl (H.bE rfl) (H.cg (by decide) rfl) (by decide)) (Plain.cons rfl Plain.nil) cP (au (dG 400 (df [21] (eG (b8 rfl (H.bE rfl) (H.cg (by decide) rfl) (by decide)) (Plain.cons rfl (Plain.cons rfl Plain.nil)) d4 (au (ai 44 rfl (by decide)) (au (ai 59 rfl (by decide)) aF rfl) rfl) pg) (bB.names (b_.cons rfl ⟨.inl rfl,.inl rfl⟩ (b_.cons rfl ⟨.inr rfl,.inr rfl⟩ b_.nil))) (oZ (cQ (dG 400 (df [61] (d5 (ai 21 rfl (by decide))) (bB.name rfl ⟨.inl rfl,.inl rfl⟩) (oZ (cQ (Q0 400 (b8 rfl (H.bE rfl) (H.cg (by decide) rfl) (by decide)) (d5 (ai 22 rfl (by decide))) (bB.name rfl ⟨.inl rfl,.inl rfl⟩) dE (cu (ai 61 rfl (by decide)) (ai 26 rfl (by decide)) (by intro _ _;exact⟨_,rfl⟩)) rfl (aV.cons _ rfl rfl aV.nil) (by intro _ _;rfl)) aA yS (by with_unfolding_all rfl))) (ai 22 rfl (by decide)) rfl (aV.cons _ rfl rfl aV.nil) (by intro _ _;rfl))) (dk aF) iq (by with_unfolding_all rfl))) (ai 73 rfl (by decide)) rfl (aV.cons _ rfl rfl aV.nil) (by intro _ _;rfl))) aF rfl) sQ) aF rfl) rI (by intro _;rfl) rfl (by decide)) rfl)
 bp) (by intro _ _;rfl))
noncomputable def tI:SM:=(bj 83 (bC (ab (xk (.int 1)) ag)))
theorem YO:cB (aI w base mg mb pins H) 9 (bH (hd01.heap_1 w.params) 131) 0 (((bT (hd01.heap_1 w.params) 131)[26]?).getD default) tI:=
 (cY 83 rfl (dk (au aA aF rfl)) (.inr rfl) rfl)
noncomputable def oK:SM:=(λF st=>((bL (aa 78)) F st).bind λp=>cA (.name 79) (ao (bj 83 (bl [79] (bD fM (ab (ay aX (bC (ab (xk (.int 0)) ag)) (aa 83)) (ab (ay aX (aa 83) (bC (ab (xk (.int 0)) ag))) ag))) (.names [84,85]) bw (a_ (ay kl (aa 84) (ay cU (aa 79) (aa 85)))) 400))
 aC) 400 p.1 F p.2)
theorem YP:cB (aI w base mg mb pins H) 9 (bH (hd01.heap_1 w.params) 131) 0 (((bT (hd01.heap_1 w.params) 131)[27]?).getD default) oK:=
 (iX 400 (d5 (ai 78 rfl (by decide))) (bB.name rfl ⟨trivial,.inr rfl⟩) (aK (cY 83 rfl (dG 400 (df [79] (eG (b8 rfl (H.bE rfl) (H.cg (by decide) rfl) (by decide)) (Plain.cons rfl (Plain.cons rfl Plain.nil)) d4 (au (aY (dk (au aA aF rfl)) (ai 83 rfl (by decide)) cR) (au (aY (ai 83 rfl (by decide)) (dk (au aA aF rfl)) cR) aF rfl) rfl) pg) (bB.names (b_.cons rfl ⟨.inl rfl,.inl rfl⟩ (b_.cons rfl ⟨.inl rfl,.inl rfl⟩ b_.nil))) dE (aY (ai 84 rfl (by decide)) (aY (ai 79 rfl (by decide)) (ai 85 rfl (by decide)) kM) Cq) rfl (aV.cons _ rfl rfl aV.nil) (by intro _ _;rfl))) (.inr rfl) rfl)
 bp) (by intro _ _;rfl))
noncomputable def tO:SM:=(bj 77 (bC (ab (xk (.int 0)) (ab (xk (.int 0)) (ab (xk (.int 0)) (ab (xk (.int 0)) ag))))))
theorem YB:cB (aI w base mg mb pins H) 9 (bH (hd01.heap_1 w.params) 131) 0 (((bT (hd01.heap_1 w.params) 131)[28]?).getD default) tO:=
 (cY 77 rfl (dk (au aA (au aA (au aA (au aA aF rfl) rfl) rfl) rfl)) (.inl rfl) rfl)
noncomputable def rl:SM:=(λF st=>((bD cS (ab (xk (.int 6)) ag)) F st).bind λp=>cA (.name 80) (ao (bj 81 (bC (ab (bl [80] (bD cS (ab (xk (.int 6)) ag)) (.name 24) bw (a_ (gf (aT oEq (aa 24) (aa 80)) (xk (.int 1)) (xk (.int 0)))) 400) ag)))
 (ao (λF st=>((bD cS (ab (xk (.int 5)) ag)) F st).bind λp=>cA (.name 42) (ao (gN (bU ek bAppend (aa 81) (ab (bl [44,57,81] (bD cS (ab (xk (.int 6)) ag)) (.name 24) bw (a_ (bK fP (ab (bl [81,24] (bD fM (ab (aa 44) (ab (aa 57) ag))) (.names [73,63]) bw (a_ (ay cU (aa 73) (aH (aH (aa 81) (i9 (xk (.int 1)))) (aH (aa 63) (aa 24))))) 400) ag))) 400) ag)))
 aC) 400 p.1 F p.2)
 (ao (cn (aT c5 (bl [83,81] (bD cS (ab (xk (.int 6)) ag)) (.name 24) (aT c5 (bK fP (ab (bl [24] (bD fM (ab (aa 83) (ab (aa 81) ag))) (.names [75,65]) bw (a_ (ay cU (aa 75) (aH (aa 65) (aa 24)))) 400) ag)) (xk (.int 0))) (a_ (aa 24)) 400) (bC ag)) (ao (cy (xk (.bool false)))
 aC) aC)
 (ao (bj 77 (bl [80] (bD fM (ab (aa 77) (ab (cH (aa 81) (bY (xk (.int 1))) bb bb) ag))) (.names [82,65]) bw (a_ (ay aX (aa 82) (aH (aa 65) (aa 80)))) 400))
 aC)))) 400 p.1 F p.2)
theorem YG:cB (aI w base mg mb pins H) 9 (bH (hd01.heap_1 w.params) 131) 0 (((bT (hd01.heap_1 w.params) 131)[29]?).getD default) rl:=
 (iX 400 (eG (b8 rfl (H.bE rfl) (H.cg (by decide) rfl) (by decide)) (Plain.cons rfl Plain.nil) d4 (au aA aF rfl) jW) (bB.name rfl ⟨trivial,.inr rfl⟩) (aK (cY 81 rfl (dk (au (dG 400 (df [80] (eG (b8 rfl (H.bE rfl) (H.cg (by decide) rfl) (by decide)) (Plain.cons rfl Plain.nil) d4 (au aA aF rfl) jW) (bB.name rfl ⟨.inl rfl,.inl rfl⟩) dE (nZ (cQ (ai 24 rfl (by decide)) (ai 80 rfl (by decide)) iq (by with_unfolding_all rfl)) aA aA) rfl (aV.cons _ rfl rfl aV.nil) (by intro _ _;rfl))) aF rfl)) (.inr rfl) rfl)
 (aK (iX 400 (eG (b8 rfl (H.bE rfl) (H.cg (by decide) rfl) (by decide)) (Plain.cons rfl Plain.nil) d4 (au aA aF rfl) jW) (bB.name rfl ⟨trivial,.inl rfl⟩) (aK (o7 (dP (ai 81 rfl (by decide)) (nG uG uE) (Plain.cons rfl Plain.nil) cP (au (dG 400 (df [44,57,81] (eG (b8 rfl (H.bE rfl) (H.cg (by decide) rfl) (by decide)) (Plain.cons rfl Plain.nil) d4 (au aA aF rfl) jW) (bB.name rfl ⟨.inr rfl,.inr rfl⟩) dE (dQ (b8 rfl (H.bE rfl) (H.cg (by decide) rfl) (by decide)) (Plain.cons rfl Plain.nil) cP (au (dG 400 (df [81,24] (eG (b8 rfl (H.bE rfl) (H.cg (by decide) rfl) (by decide)) (Plain.cons rfl (Plain.cons rfl Plain.nil)) d4 (au (ai 44 rfl (by decide)) (au (ai 57 rfl (by decide)) aF rfl) rfl) pg) (bB.names (b_.cons rfl ⟨.inl rfl,.inl rfl⟩ (b_.cons rfl ⟨.inl rfl,.inl rfl⟩ b_.nil))) dE (aY (ai 73 rfl (by decide)) (cu (cu (ai 81 rfl (by decide)) (qI aA) (by intro _ _;exact⟨_,rfl⟩)) (cu (ai 63 rfl (by decide)) (ai 24 rfl (by decide)) (by intro _ _;exact⟨_,rfl⟩)) (by intro _ _;exact⟨_,rfl⟩)) kM) rfl (aV.cons _ rfl rfl (aV.cons _ rfl rfl aV.nil)) (by intro _ _;rfl))) aF rfl) sQ) rfl (aV.cons _ rfl rfl (aV.cons _ rfl rfl (aV.cons _ rfl rfl aV.nil))) (by intro _ _;rfl))) aF rfl) rI (by intro _;rfl) rfl (by decide)) rfl)
 bp) (by intro _ _;rfl))
 (aK (eO (cQ (dG 400 (df [83,81] (eG (b8 rfl (H.bE rfl) (H.cg (by decide) rfl) (by decide)) (Plain.cons rfl Plain.nil) d4 (au aA aF rfl) jW) (bB.name rfl ⟨.inr rfl,.inr rfl⟩) (oZ (cQ (dQ (b8 rfl (H.bE rfl) (H.cg (by decide) rfl) (by decide)) (Plain.cons rfl Plain.nil) cP (au (dG 400 (df [24] (eG (b8 rfl (H.bE rfl) (H.cg (by decide) rfl) (by decide)) (Plain.cons rfl (Plain.cons rfl Plain.nil)) d4 (au (ai 83 rfl (by decide)) (au (ai 81 rfl (by decide)) aF rfl) rfl) pg) (bB.names (b_.cons rfl ⟨.inl rfl,.inl rfl⟩ (b_.cons rfl ⟨.inl rfl,.inl rfl⟩ b_.nil))) dE (aY (ai 75 rfl (by decide)) (cu (ai 65 rfl (by decide)) (ai 24 rfl (by decide)) (by intro _ _;exact⟨_,rfl⟩)) kM) rfl (aV.cons _ rfl rfl aV.nil) (by intro _ _;rfl))) aF rfl) sQ) aA kT (by with_unfolding_all rfl))) (ai 24 rfl (by decide)) rfl (aV.cons _ rfl rfl (aV.cons _ rfl rfl aV.nil)) (by intro _ _;rfl))) (dk aF) kT (by with_unfolding_all rfl)) (aK (eC kv)
 bp) bp)
 (aK (rm 77 rfl 400 (df [80] (eG (b8 rfl (H.bE rfl) (H.cg (by decide) rfl) (by decide)) (Plain.cons rfl (Plain.cons rfl Plain.nil)) d4 (au (ai 77 rfl (by decide)) (au (gV (ai 81 rfl (by decide)) (eZ aA) dt dt (by intro _ _;exact⟨_,rfl⟩)) aF rfl) rfl) pg) (bB.names (b_.cons rfl ⟨.inl rfl,.inl rfl⟩ (b_.cons rfl ⟨.inl rfl,.inl rfl⟩ b_.nil))) dE (aY (ai 82 rfl (by decide)) (cu (ai 65 rfl (by decide)) (ai 80 rfl (by decide)) (by intro _ _;exact⟨_,rfl⟩)) cR) rfl (aV.cons _ rfl rfl aV.nil) (by intro _ _;rfl)) (.inl rfl) rfl)
 bp)))) (by intro _ _;rfl))
noncomputable def q_:SM:=(cn (aT c5 (aa 77) (bl [78] (bD cS (ab (xk (.int 1)) (ab (xk (.int 5)) ag))) (.name 24) bw (a_ (ay aX (ay jb (aH (aa 78) (xk (.int 0))) (aa 24)) (bK fP (ab (bl [24] (bL (aa 78)) (.name 79) bw (a_ (ay jb (aa 79) (aa 24))) 400) ag)))) 400)) (ao (cy (xk (.bool false)))
 aC) aC)
theorem YY:cB (aI w base mg mb pins H) 9 (bH (hd01.heap_1 w.params) 131) 0 (((bT (hd01.heap_1 w.params) 131)[30]?).getD default) q_:=
 (eO (cQ (ai 77 rfl (by decide)) (dG 400 (df [78] (eG (b8 rfl (H.bE rfl) (H.cg (by decide) rfl) (by decide)) (Plain.cons rfl (Plain.cons rfl Plain.nil)) d4 (au aA (au aA aF rfl) rfl) jW) (bB.name rfl ⟨.inr rfl,.inr rfl⟩) dE (aY (aY (cu (ai 78 rfl (by decide)) aA (by intro _ _;exact⟨_,rfl⟩)) (ai 24 rfl (by decide)) u9) (dQ (b8 rfl (H.bE rfl) (H.cg (by decide) rfl) (by decide)) (Plain.cons rfl Plain.nil) cP (au (dG 400 (df [24] (d5 (ai 78 rfl (by decide))) (bB.name rfl ⟨.inl rfl,.inl rfl⟩) dE (aY (ai 79 rfl (by decide)) (ai 24 rfl (by decide)) u9) rfl (aV.cons _ rfl rfl aV.nil) (by intro _ _;rfl))) aF rfl) sQ) cR) rfl (aV.cons _ rfl rfl aV.nil) (by intro _ _;rfl))) kT (by with_unfolding_all rfl)) (aK (eC kv)
 bp) bp)
noncomputable def tS:SM:=(bj 69 (bC (ab (xk (.int 0)) (ab (xk (.int 0)) (ab (xk (.int 0)) (ab (xk (.int 0)) (ab (xk (.int 0)) (ab (xk (.int 0)) ag))))))))
theorem Yj:cB (aI w base mg mb pins H) 9 (bH (hd01.heap_1 w.params) 131) 0 (((bT (hd01.heap_1 w.params) 131)[31]?).getD default) tS:=
 (cY 69 rfl (dk (au aA (au aA (au aA (au aA (au aA (au aA aF rfl) rfl) rfl) rfl) rfl) rfl)) (.inr rfl) rfl)
noncomputable def rf:SM:=(λF st=>((bL (aa 55)) F st).bind λp=>cA (.names [74,7,75]) (ao (bj 70 (ay cU (ay cU (ay cU (aH (aa 44) (aa 74)) (aH (aa 44) (aa 7))) (ay kl (aa 71) (aH (aa 44) (aa 7)))) (ay kl (aa 71) (aH (aa 44) (aa 75)))))
 (ao (bj 69 (bl [57,74,7,75,70] (bD lV (ab (aa 69) ag)) (.names [24,76]) bw (a_ (gf (aT oEq (aa 24) (aH (aH (aa 57) (aa 74)) (aH (aH (aa 57) (aa 7)) (aH (aH (aa 57) (aa 75)) (xk (.int 0)))))) (ay aX (aa 76) (aa 70)) (aa 76))) 400))
 aC)) 400 p.1 F p.2)
theorem YZ:cB (aI w base mg mb pins H) 9 (bH (hd01.heap_1 w.params) 131) 0 (((bT (hd01.heap_1 w.params) 131)[32]?).getD default) rf:=
 (iX 400 (d5 (ai 55 rfl (by decide))) (bB.names (b_.cons rfl ⟨trivial,.inr rfl⟩ (b_.cons rfl ⟨trivial,.inr rfl⟩ (b_.cons rfl ⟨trivial,.inr rfl⟩ b_.nil)))) (aK (cY 70 rfl (aY (aY (aY (cu (ai 44 rfl (by decide)) (ai 74 rfl (by decide)) (by intro _ _;exact⟨_,rfl⟩)) (cu (ai 44 rfl (by decide)) (ai 7 rfl (by decide)) (by intro _ _;exact⟨_,rfl⟩)) kM) (aY (ai 71 rfl (by decide)) (cu (ai 44 rfl (by decide)) (ai 7 rfl (by decide)) (by intro _ _;exact⟨_,rfl⟩)) Cq) kM) (aY (ai 71 rfl (by decide)) (cu (ai 44 rfl (by decide)) (ai 75 rfl (by decide)) (by intro _ _;exact⟨_,rfl⟩)) Cq) kM) (.inr rfl) rfl)
 (aK (cY 69 rfl (dG 400 (df [57,74,7,75,70] (eG (b8 rfl (H.bE rfl) (H.cg (by decide) rfl) (by decide)) (Plain.cons rfl Plain.nil) d4 (au (ai 69 rfl (by decide)) aF rfl) wZ) (bB.names (b_.cons rfl ⟨.inl rfl,.inl rfl⟩ (b_.cons rfl ⟨.inl rfl,.inl rfl⟩ b_.nil))) dE (nZ (cQ (ai 24 rfl (by decide)) (cu (cu (ai 57 rfl (by decide)) (ai 74 rfl (by decide)) (by intro _ _;exact⟨_,rfl⟩)) (cu (cu (ai 57 rfl (by decide)) (ai 7 rfl (by decide)) (by intro _ _;exact⟨_,rfl⟩)) (cu (cu (ai 57 rfl (by decide)) (ai 75 rfl (by decide)) (by intro _ _;exact⟨_,rfl⟩)) aA (by intro _ _;exact⟨_,rfl⟩)) (by intro _ _;exact⟨_,rfl⟩)) (by intro _ _;exact⟨_,rfl⟩)) iq (by with_unfolding_all rfl)) (aY (ai 76 rfl (by decide)) (ai 70 rfl (by decide)) cR) (ai 76 rfl (by decide))) rfl (aV.cons _ rfl rfl (aV.cons _ rfl rfl (aV.cons _ rfl rfl (aV.cons _ rfl rfl (aV.cons _ rfl rfl aV.nil))))) (by intro _ _;rfl))) (.inr rfl) rfl)
 bp)) (by intro _ _;rfl))
noncomputable def q5:SM:=(bj 68 (bl [44,57,69] (bD cS (ab (xk (.int 6)) ag)) (.name 72) bw (a_ (bK fP (ab (bl [69,72] (bD fM (ab (aa 44) (ab (aa 57) ag))) (.names [73,63]) bw (rg (bD cS (ab (xk (.int 6)) ag)) (.name 24) (aT oEq (aH (aa 63) (aa 24)) (aa 72)) (a_ (ay cU (aa 73) (aH (aa 69) (aa 24)))) 400) 400) ag))) 400))
theorem Yp:cB (aI w base mg mb pins H) 9 (bH (hd01.heap_1 w.params) 131) 0 (((bT (hd01.heap_1 w.params) 131)[33]?).getD default) q5:=
 (rm 68 rfl 400 (df [44,57,69] (eG (b8 rfl (H.bE rfl) (H.cg (by decide) rfl) (by decide)) (Plain.cons rfl Plain.nil) d4 (au aA aF rfl) jW) (bB.name rfl ⟨.inr rfl,.inr rfl⟩) dE (dQ (b8 rfl (H.bE rfl) (H.cg (by decide) rfl) (by decide)) (Plain.cons rfl Plain.nil) cP (au (dG 400 (PY [69,72] 400 (eG (b8 rfl (H.bE rfl) (H.cg (by decide) rfl) (by decide)) (Plain.cons rfl (Plain.cons rfl Plain.nil)) d4 (au (ai 44 rfl (by decide)) (au (ai 57 rfl (by decide)) aF rfl) rfl) pg) (bB.names (b_.cons rfl ⟨.inl rfl,.inl rfl⟩ (b_.cons rfl ⟨.inl rfl,.inl rfl⟩ b_.nil))) dE (eG (b8 rfl (H.bE rfl) (H.cg (by decide) rfl) (by decide)) (Plain.cons rfl Plain.nil) d4 (au aA aF rfl) jW) (bB.name rfl ⟨.inl rfl,.inl rfl⟩) (oZ (cQ (cu (ai 63 rfl (by decide)) (ai 24 rfl (by decide)) (by intro _ _;exact⟨_,rfl⟩)) (ai 72 rfl (by decide)) iq (by with_unfolding_all rfl))) (aY (ai 73 rfl (by decide)) (cu (ai 69 rfl (by decide)) (ai 24 rfl (by decide)) (by intro _ _;exact⟨_,rfl⟩)) kM) rfl (aV.cons _ rfl rfl (aV.cons _ rfl rfl aV.nil)) (by intro _ _;rfl) (by intro _ _;rfl))) aF rfl) sQ) rfl (aV.cons _ rfl rfl (aV.cons _ rfl rfl (aV.cons _ rfl rfl aV.nil))) (by intro _ _;rfl)) (.inl rfl) rfl)
noncomputable def rj:SM:=(cy (ay oEq (aa 68) (bl [71] (bL (aa 69)) (.name 70) bw (a_ (ay cU (aa 71) (aa 70))) 400)))
theorem Ys:cB (aI w base mg mb pins H) 9 (bH (hd01.heap_1 w.params) 131) 0 (((bT (hd01.heap_1 w.params) 131)[34]?).getD default) rj:=
 (eC (BU (ai 68 rfl (by decide)) (dG 400 (df [71] (d5 (ai 69 rfl (by decide))) (bB.name rfl ⟨.inl rfl,.inl rfl⟩) dE (aY (ai 71 rfl (by decide)) (ai 70 rfl (by decide)) kM) rfl (aV.cons _ rfl rfl aV.nil) (by intro _ _;rfl))) iq (by with_unfolding_all rfl)))
noncomputable def y8:SM:=(ao tJ
 (ao q6
 (ao tI
 (ao oK
 (ao tO
 (ao rl
 (ao q_
 (ao tS
 (ao rf
 (ao q5
 (ao rj
 aC)))))))))))
theorem Xh:gr (aI w base mg mb pins H) 9 (bH (hd01.heap_1 w.params) 131) 0 ((bT (hd01.heap_1 w.params) 131).drop 24) y8:=
 (aK (YK H)
 (aK (YE H)
 (aK (YO H)
 (aK (YP H)
 (aK (YB H)
 (aK (YG H)
 (aK (YY H)
 (aK (Yj H)
 (aK (YZ H)
 (aK (Yp H)
 (aK (Ys H)
 bp)))))))))))
end
theorem Sp(st:St)(it l i:Nat)(xs:List AV)(v:AV)(hl:st[l]?=some (.list xs))(hi:st[it]?=some (.c_ l i))(hv:xs[i]?=some v):mI [.ref it] st=some (v,st.set it (.c_ l (i+1))):=by
 show(st[it]?).bind _=_;rw[hi];show(bF st l).bind _=_;rw[dC hl];show(xs[i]?).map _=_;rw[hv];rfl
theorem Wn{o:AV->AV->St->Option (AV×St)}{F:aj}{st:St}{k:Nat}{x v y:AV}(J:F.lookup k=some x)(hs:o x v st=some (y,st)):eS k o (xk v) F st=some (.next,F.put k y,st):=by
 unfold eS;rw[J];show(o x v st).map _=_;rw[hs];rfl
section
variable{w:dB}{base:aO}{mg mb:ae->Option af}{pins:List (Nat×ak)}(H:Fx (hd01.heap_1 w.params) base mg mb)
theorem Li{n:Nat}:s8 (aI w base mg mb pins H) n (bH (hd01.heap_1 w.params) 80) 0 0 ((bT (hd01.heap_1 w.params) 80).take 2) (ao (bj 7 (bK mI (ab (aa 5) ag))) (ao (bj 6 (ay oz (aa 7) (xk (.int 63)))) aC)):=
 (fk (cY 7 rfl (dQ (b8 rfl (H.bE rfl) (H.cg (by decide) rfl) (by decide)) (Plain.cons rfl Plain.nil) cP (au (ai 5 rfl (by decide)) aF rfl) Ca) (.inl rfl) rfl)
 (fk (cY 6 rfl (aY (ai 7 rfl (by decide)) aA vf) (.inl rfl) rfl) B_))
noncomputable def Xc(b:List gJ):gJ:=match b[2]? with|some (Stmt.While _ (x::_) _ _)=>x|_=>default
theorem K6{A:bg}{outer:List aS}{ρ:aD}{st:St}{s:ah}{oc l i:Nat}{oa:ak}{xs:List AV}{b v2:Int}{Q:af->ah->Prop}{E:af->ah->Prop}
 (hA:bN 2 A)(hfr:A.frames=some outer)(hfs:∀aq s',Go No ρ s aq s'->s'.heap.FunFrames base outer)
 (R:Rel (aI w base mg mb pins H) ρ st s.heap)(ho:st[oc]?=some (.c_ l i))(hl:st[l]?=some (.list xs))(h0:xs[i]?=some (.int b))(h1:xs[i+1]?=none)
 (hb:gY b 64≠0)(hs:∀st':St,nt (.int (gY b 63)) (.int 6) st'=some (.int v2,st'))(ha:ρ[oc]?=some oa)
 (K:∀L aq s2 h' e T,Go No ρ s aq s2->Rel (aI w base mg mb pins H) aq (st.set oc .gP) s2.heap->L∉aq->base.get? L=none->s.heap.get? L=none->
  Flt s2.heap (L::outer.filterMap (·.frame)) h' e T .none ->E (.ref e) {s2 with heap:=h'}):
 wpAny (model ml.row.prog w) A (call (.ref 80) [.ref oa]) Q E s:=by
 have hoc:oc≠l:=λz=>by rw[z,hl]at ho;cases ho
 refine rQ (AK (C:=aI w base mg mb pins H) (n:=1) (fd:=iY (hd01.heap_1 w.params) 80) (body:=bT (hd01.heap_1 w.params) 80) (ks:=[5]) (avs:=[.ref oc]) hA R (.cons ⟨oa,ha,rfl⟩ .nil) rfl rfl rfl rfl rfl rfl rfl
  (qV λa0=>by rfl) (by decide)
  (dp (.inl rfl) (fy)) (lX rfl) rfl rfl rfl rfl λenv s1 E' hE U N1 R1 g1 own=>?_)
 have J:bN 1 (A.deeper env):=hA.deeper env;have Y:(A.deeper env).frames =some (env::outer):=Around.frames_deeper hfr;have N:env.frame=some env.locals:=by rw[U];rfl
 have hsk:env.scope.kind≠.module :=by rw[N1.scope,N1.kind];decide
 have e1:(ao (bj 7 (bK mI (ab (aa 5) ag))) (ao (bj 6 (ay oz (aa 7) (xk (.int 63)))) aC)) [(5,.ref oc)] st=some (.next,[(5,.ref oc),(7,.int b),(6,.int (gY b 63))],st.set oc (.c_ l (i+1))):=by
  show(bj 7 (bK mI (ab (aa 5) ag)) [(5,.ref oc)] st).bind _=_;rw[show bj 7 (bK mI (ab (aa 5) ag)) [(5,.ref oc)] st=(mI [.ref oc] st).map λp=>(.next,[(5,.ref oc),(7,p.1)],p.2)from rfl,Sp st oc l i xs _ hl ho h0];rfl
 show wpAny (model ml.row.prog w) (A.deeper env) (execs ((bT (hd01.heap_1 w.params) 80).take 2++(bT (hd01.heap_1 w.params) 80).drop 2) env) _ E' s1;refine(Li H (n:=1)).u (A.deeper env) env _ ρ st s1 _ _ _ _ _ J (cJ _) N1 R1 e1 λbA s2 g2 N2 R2 _=>?_;have go2:Go No ρ s bA s2:=g2.l9.after g1 own;refine kE (S0 (Sj (λj s'=>j=1/\s'=s2) ?_ 1 ⟨rfl,rfl⟩));rintro j s' ⟨rfl,rfl⟩;refine(qh (C:=aI w base mg mb pins H) (n:=1) (sc:=bH (hd01.heap_1 w.params) 80) (by intro _;rfl) (aY (ai 7 (by rfl) (by decide)) (aA (i:=64)) vf) qk).k J N2 R2 ?_;refine Ok.of (a:=(true,st.set oc (.c_ l (i+1)))) (by
  show some (gY b 64!=0,st.set oc (.c_ l (i+1)))=_;rw[bne_iff_ne.mpr hb]) λρ3 s3 g3 R3=>?_
 show wpAny _ _ (execs _ env) _ _ s3;have N3:=N2.go g3;have w5:cB (aI w base mg mb pins H) 1 (bH (hd01.heap_1 w.params) 80) 0 (Xc (bT (hd01.heap_1 w.params) 80)) (eS 6 nt (xk (.int 6))):=mx 6 rfl (aA (i:=6)) HW (.inl rfl);refine kE (w5.u (A.deeper env) env [(5,.ref oc),(7,.int b),(6,.int (gY b 63))] ρ3 (st.set oc (.c_ l (i+1))) s3 .next (aj.put [(5,.ref oc),(7,.int b),(6,.int (gY b 63))] 6 (.int v2)) (st.set oc (.c_ l (i+1))) _ _ J (cJ _) N3 R3 (Wn rfl (hs _)) λr ρ4 s4 g4 N4 R4 r4=>?_);cases r4
 have go4:Go No ρ s ρ4 s4:=((g2.trans (g3.own.trans g4)).l9).after g1 own;refine kE (x9 ?_ (by rw[mR (env':={(default:aS)with scope:=bH (hd01.heap_1 w.params) 80}) N4.scope];rfl));refine oU (b8 (C:=aI w base mg mb pins H) (sc:=bH (hd01.heap_1 w.params) 80) (x:="next") (f:=.builtin "next") rfl (H.bE rfl) (H.cg (by decide) rfl) (by decide) (A.deeper env) env _ ρ4 _ s4 _ _ N4 R4 ?_);refine p0 (C:=aI w base mg mb pins H) (n:=1) (sc:=bH (hd01.heap_1 w.params) 80) (avs:=[.ref oc]) (st1:=st.set oc (.c_ l (i+1))) (fa:=ab (aa 5) ag) J N4 R4 (.cons rfl .nil) cP (au (ai 5 rfl (by decide)) aF rfl) rfl λvs' O s5 g5 R5 r5=>?_;cases r5 with
 |cons r0 rn=>
  cases rn
  refine aG r0 λob S zq2=>?_;subst zq2;have N5:=N4.go g5;have go5:Go No ρ s O s5:=((g2.trans (g3.own.trans (g4.trans g5.own))).l9).after g1 own;have hli:(st.set oc (.c_ l (i+1)))[oc]?=some (.c_ l (i+1)):=by rw[List.getElem?_set_self (fY.mp ho).1]
  have hll:(st.set oc (.c_ l (i+1)))[l]?=some (.list xs):=by rw[Po hoc];exact hl
  refine aG (R5.at hli S) λla hla hit=>?_;refine aG (R5.list hll hla) λvs hpl rvs=>?_;refine next_end J.handled hit (fB hpl) (ru rvs h1) λhm h' e k al ks en ex=>?_;have R6:Rel (aI w base mg mb pins H) O (st.set oc .gP) hm:=by
   have:=R5.put (h':=hm) S (λb x ne e=>k b x ne e) al (o':=.gP) trivial;rwa[BD]at this
  have go6:Go No ρ s O {s5 with heap:=hm}:=go5.trans (Go.put (t:=s5.toks) S (λb x ne e=>k b x ne e) al);have hLn:env.locals≠ob:=λz=>N5.mG (z▸j8 S);have ff:hm.FunFrames base (env::outer):=by
   refine⟨hsk,?_,hfs _ _ go6⟩;refine Cg N5.ns λM o es ep e1 zq5=>?_;obtain⟨e2,_⟩:=zq5;exact⟨env.locals,o,N,N5.om,k _ _ hLn e1,λvs z=>by rw[e2]at z;cases z⟩
  have hfm:(env::outer).filterMap (·.frame)=env.locals::outer.filterMap (·.frame):=by rw[xj,N]
  have x0:tL hm (env.locals::outer.filterMap (·.frame)) h' e .none :=⟨en,ex,λb o q=>⟨λ_=>ks b o q,o.slots,ks b o q⟩⟩;have hsub:∀b∈(env::outer).filterMap (·.frame),b∈env.locals::outer.filterMap (·.frame):=λb m=>hfm▸m;refine Wx (s:={s5 with heap:=h'}) Y ff N hsub x0 λh2 T2 x2=>?_;refine Tp (s:={s5 with heap:=h2}) N x2 λh3 x3=>?_;refine hE _ _ (PH (s:={s5 with heap:=h3}) N x3 λh4 x4=>?_);exact K env.locals O {s5 with heap:=hm} h4 e T2 go6 R6 N5.mG N5.om (own _ (.inl rfl)) x4
end
theorem B8{h h':aO}{c:ak}{v}(n:h.IsCell c v)(k:∀b o,h.get? b=some o->∃sl,h'.get? b=some {o with slots:=sl}):h'.IsCell c v:=n.elim λo q=>(k _ _ q.1).elim λsl e=>⟨_,e,q.2⟩
theorem Jk{h h':aO}{c:ak}{M}(n:h.Ns c M)(k:∀b o,h.get? b=some o->∃sl,h'.get? b=some {o with slots:=sl}):h'.Ns c M:=n.elim λo q=>q.elim λes q=>q.elim λep q=>(k _ _ q.1).elim λsl e=>⟨_,es,ep,e,q.2⟩
theorem a8.slots{C:Cfg}{sc:bc}{ρ:aD}{F:aj}{env:aS}{h h':aO}(N:a8 C sc ρ F env h)(k:∀b o,h.get? b=some o->∃sl,h'.get? b=some {o with slots:=sl}):a8 C sc ρ F env h':=
 ⟨N.scope,N.kind,N.globals,N.builtins,N.ns.imp λM n=>Jk n k,N.mG,N.om,λj v q=>(N.vars j v q).imp λV p=>p.imp_right λhv=>hv.imp (λp=>p.imp_right λe=>e.imp λM e=>⟨Jk e.1 k,e.2⟩) λp=>p.imp_right λe=>e.imp λc e=>⟨e.1,e.2.1,B8 e.2.2 k⟩,
  λx q=>(N.own x q).imp λc e=>e.imp λv e=>⟨e.1,e.2.1,e.2.2.1,B8 e.2.2.2.1 k,e.2.2.2.2⟩,N.apart,N.vo,λx c q=>(N.cells x c q).imp_right λf=>f.imp λv f=>B8 f k,N.frees,N.here⟩
theorem K4(l:List Int):intsOf (l.map .int)=some l:=by
 induction l with
 |nil=>rfl
 |cons a l J=>
  show(some a).bind (λi=>(intsOf (l.map .int)).map (i::·))=_;rw[J];rfl
section
variable{w:dB}{base:aO}{mg mb:ae->Option af}{pins:List (Nat×ak)}(H:Fx (hd01.heap_1 w.params) base mg mb)
theorem NY{A:bg}{env:aS}{F:aj}{ρ:aD}{st:St}{s:ah}{oc l i wl:Nat}{xs:List AV}{b v2:Int}{ws:List Int}{rest:List gJ}{Q:jF->ah->Prop}{E:af->ah->Prop}
 (hA:bN 9 A)(U:A.frames=some [env])(O:env.frame=some env.locals)
 (N:a8 (aI w base mg mb pins H) (bH (hd01.heap_1 w.params) 131) ρ F env s.heap)(R:Rel (aI w base mg mb pins H) ρ st s.heap)
 (h54:F.lookup 54=some (.ref oc))(h44:F.lookup 44=some (.ref wl))(hw:st[wl]?=some (.list (ws.map .int)))
 (ho:st[oc]?=some (.c_ l i))(hl:st[l]?=some (.list xs))(h0:xs[i]?=some (.int b))(h1:xs[i+1]?=none)
 (hb:gY b 64≠0)(hs:∀st':St,nt (.int (gY b 63)) (.int 6) st'=some (.int v2,st'))
 (K:∀aq s',Rel (aI w base mg mb pins H) aq (st.set oc .gP) s'.heap->a8 (aI w base mg mb pins H) (bH (hd01.heap_1 w.params) 131) aq (F.put 71 (.int ws.sum)) env s'.heap->s'.os=s.os->s'.gens=s.gens->
  (∀a o,s.heap.get? a=some o->a∉ρ->¬dr env a->s'.heap.get? a=some o/\a∉aq)->wpAny (model ml.row.prog w) A (execs rest env) Q E s'):
 wpAny (model ml.row.prog w) A (execs (((bT (hd01.heap_1 w.params) 131)[23]?).getD default::rest) env) Q E s:=by
 have hsk:env.scope.kind≠.module :=by rw[N.scope,N.kind];decide
 have ff:∀{aq s'},Go No ρ s aq s'->s'.heap.FunFrames base [env]:=λ{aq s'} g=>by
  have N':=N.go g;refine Cg N'.ns λM o es ep e1 zq5=>?_;obtain⟨e2,_⟩:=zq5;exact⟨hsk,⟨env.locals,o,O,N'.om,e1,λvs z=>by rw[e2]at z;cases z⟩,trivial⟩
 have Y:([env]:List aS).filterMap (·.frame)=[env.locals]:=by rw[xj,O];rfl
 refine kE (wpAny_Try_except ?_);refine kE (R8 ?_ (by unfold interactive;rw[N.scope,N.kind];rfl) (by rw[mR (env':={(default:aS)with scope:=bH (hd01.heap_1 w.params) 131}) N.scope];rfl));refine oU (jA (C:=aI w base mg mb pins H) (sc:=bH (hd01.heap_1 w.params) 131) (x:="_parse_varint") (f:=.ref 80) rfl (H.bE rfl) (by decide) A env F ρ st s _ _ N R ?_);refine p0 (C:=aI w base mg mb pins H) (n:=9) (sc:=bH (hd01.heap_1 w.params) 131) (avs:=[.ref oc]) (st1:=st) (fa:=ab (aa 54) ag) hA N R (.cons rfl .nil) (gz rfl) (au (ai 54 rfl (by decide)) aF rfl) (by
  show((F.lookup 54).map λx=>(x,st)).bind _=_;rw[h54];rfl) λvs' ρ1 s1 g1 R1 r1=>?_
 cases r1 with
 |cons r0 rn=>
  cases rn
  refine aG r0 λoa hoa S=>?_;subst S;refine K6 H (hA.le (by decide)) U (λaq s' g=>ff (g1.trans g)) R1 ho hl h0 h1 hb hs hoa λL bA s2 h' e T g2 R2 hLρ hLb hLs x=>?_;have J:=g1.trans g2;have N2:=N.go J;rw[Y]at x;have hsub:∀b∈([env]:List aS).filterMap (·.frame),b∈[L,env.locals]:=λb m=>by rw[Y]at m;exact cw _ m
  have nfr:∀a∈bA,a∉[L,env.locals]:=λa m z=>by
   simp only[bJ,a7,or_false]at z;rcases z with rfl|rfl
   ·exact hLρ m
   ·exact N2.mG m
  have bfr:∀a o,base.get? a=some o->a∉[L,env.locals]:=λa o q z=>by
   simp only[bJ,a7,or_false]at z;rcases z with rfl|rfl
   ·rw[hLb]at q;cases q
   ·have:=N2.om;rw[show base.get? env.locals=none from this]at q;cases q
  have fin:∀{hh:aO}{T':ak}{fl:af},Flt s2.heap [L,env.locals] hh e T' fl->Rel (aI w base mg mb pins H) bA (st.set oc .gP) hh/\a8 (aI w base mg mb pins H) (bH (hd01.heap_1 w.params) 131) bA F env hh:=λy=>
   ⟨R2.lY (·∈[L,env.locals]) (λb o q n=>(y.ly.kp b o q).1 n) nfr bfr,N2.slots λb o q=>(y.ly.kp b o q).2⟩
  refine Uc (s:={s2 with heap:=h'}) U (ff J) O hsub x λh5 T5 x5=>?_;refine ym (s:={s2 with heap:=h5}) (f:=none) x5 λh6 x6=>?_;obtain⟨R6,N6⟩:=fin x6;have ty6:∃o,h6.get? e=some o/\o.cls=.type "StopIteration":=x6.ly.ex.imp λoe q=>q.elim λvs q=>⟨q.1,q.2.1⟩;refine wpAny_handleBy_builtin (X:="StopIteration") (T:="StopIteration") (b:=true) (by rw[rP];kernel_rfl) (by rw[rP];kernel_rfl) GJ ?_;refine b8 (C:=aI w base mg mb pins H) (sc:=bH (hd01.heap_1 w.params) 131) (x:="StopIteration") (f:=.type "StopIteration") rfl (H.bE rfl) (H.cg (by decide) rfl) (by decide) _ env F bA _ {s2 with heap:=h6} _ _ N6 R6 ⟨rfl,ty6,?_⟩;show wpAny _ _ (setFlight (.ref e) none) _ _ _;refine ym (s:={s2 with heap:=h6}) (f:=none) x6 λh7 x7=>?_;obtain⟨R7,N7⟩:=fin x7;refine kE (x9 ?_ (by rw[mR (env':={(default:aS)with scope:=bH (hd01.heap_1 w.params) 131}) N7.scope];rfl));refine oU (b8 (C:=aI w base mg mb pins H) (sc:=bH (hd01.heap_1 w.params) 131) (x:="sum") (f:=.builtin "sum") rfl (H.bE rfl) (H.cg (by decide) rfl) (by decide) _ env F bA _ {s2 with heap:=h7} _ _ N7 R7 ?_);refine call_one (C:=aI w base mg mb pins H) rfl cP (sE (rB (C:=aI w base mg mb pins H) (k:=44) N7 h44 λV r=>⟨R7.keep,?_⟩) (by decide));refine aG r λla hla S=>?_;subst S;have hwl:(st.set oc .gP)[wl]?=some (.list (ws.map .int)):=by
   rw[Po (λz=>by rw[z,hw]at ho;cases ho)];exact hw
  refine aG (R7.list hwl hla) λvs hpl rv=>?_;refine aG (FC rv (Ok.of (P:=λz=>z=ws) (K4 ws) rfl)) λps zq1 hps=>?_;subst zq1;have hl':=fB hpl;rw[show(ps.map λp=>bV p.1 p.2).toArray =intItems ps.toArray by unfold intItems;rw[OV]]at hl';have ctx:uQ h7 e:=x7.ly.ex.imp λoe q=>q.imp λvs q=>⟨q.1,q.2.2.1,q.2.2.2.2⟩;refine Xg (A:=A.mark (some (.ref e))) (x:=e) rfl ctx hl' λh8 tk t' k8=>?_;rw[preSum_eq,show Bl ps.toArray.size (xG (λx=>x.fst) ps.toArray.toList)=ps.map (·.1)from kx (bS (aQ _)),hps];have g8:Go No bA {s2 with heap:=h7} bA {s2 with heap:=h8,toks:=tk}:=.keeps k8;refine mS (C:=aI w base mg mb pins H) (k:=71) (v:=.int ws.sum) (T:=λ_=>True) trivial (N7.go g8) (R7.keeps k8) (.inr rfl) ⟨_,rfl⟩ λs9 g9 N9 R9=>?_;refine Cj ?_;refine K bA s9 R9 N9 (g9.os.trans J.os) (g9.gens.trans J.gens) λa o q hn ho'=>?_;have q2:=J.cI a o q hn id;have hn2:=J.iZ q hn;have q7:=(x7.ly.kp a o q2).1 λz=>by
   simp only[bJ,a7,or_false]at z;rcases z with rfl|rfl
   ·rw[g1.cI a o q hn id]at hLs;cases hLs
   ·exact ho' (.inl rfl)
  exact⟨g9.cI a o (k8 a o q7) hn2 ho',hn2⟩
end
section
variable{w:dB}{base:aO}{mg mb:ae->Option af}(H:Fx (hd01.heap_1 w.params) base mg mb)
theorem RL{A:bg}{env:aS}{D:ak}{xs:List AV}{vs:List af}{s:ah}{Q:jF->ah->Prop}{E:af->ah->Prop}{F1:aj}{st1:St}{text:ae}
 (hA:bN 9 A)(hfr:A.frames=some [env])(hef:env.frame=some env.locals)(N:a8 (aI w base mg mb [(0,128)] H) (bH (hd01.heap_1 w.params) 131) [128] [(38,.val (.ref D))] env s.heap)(R:Rel (aI w base mg mb [(0,128)] H) [128] [.tab []] s.heap)
 (hT:s.heap.get? 106=some (tabObj #[]))(hTB:base.get? 106=none)(hcd:uu base 110 106)(hbm:base.BuiltinsAt mg 106)(hcd2:uu base 130 128)(hbm2:base.BuiltinsAt mg 128)(hD:base.IsList D vs.toArray)(hx:∀ρ,bu ρ xs vs)
 (hTL:env.locals≠106)(hTC:∀y c,env.cells.lookup y=some c->c≠106)
 (hA1:tz D xs [(38,.val (.ref D))] [.tab []]=some (.next,F1,st1))(htext:F1.lookup 0=some (.str text))
 (hB1:∀sA:ak,∃(F2:aj)(bI:St)(oc l i wl:Nat)(ys:List AV)(b v2:Int)(ws:List Int)(F3:aj)(st3:St),q3 (bq sA) (fw text st1.length) (F1.put 3 (.val (.ref sA))) (st1++[.list [.int 0]])=some (.next,F2,bI)/\
  F2.lookup 54=some (.ref oc)/\F2.lookup 44=some (.ref wl)/\bI[wl]?=some (.list (ws.map .int))/\bI[oc]?=some (.c_ l i)/\bI[l]?=some (.list ys)/\ys[i]?=some (.int b)/\ys[i+1]?=none/\
  gY b 64≠0/\(∀st':St,nt (.int (gY b 63)) (.int 6) st'=some (.int v2,st'))/\
  y8 (F2.put 71 (.int ws.sum)) (bI.set oc .gP)=some (.ret (.bool true),F3,st3)/\∃es,st3[0]?=some (.tab es))
 (K:∀s',(∀b o,base.get? b=some o->s'.heap.get? b=some o)->s'.os=s.os->s'.gens=s.gens->(∃ps,s'.heap.get? 106=some (tabObj ps))->(∃ps,s'.heap.get? 128=some (tabObj ps))->Q (.ret (.bool true)) s'):
 wpAny (model ml.row.prog w) A (execs (bT (hd01.heap_1 w.params) 131) env) Q E s:=by
 show wpAny (model ml.row.prog w) A (execs ((bT (hd01.heap_1 w.params) 131).take 10++(bT (hd01.heap_1 w.params) 131).drop 10) env) Q E s;have J:∀a,a=106->¬dr env a:=by
  rintro a rfl (e|⟨y,_,_,q⟩)
  ·exact hTL e.symm
  ·exact hTC y _ q rfl
 refine(W2 H hD hx).u A env _ [128] [.tab []] s F1 st1 _ Q E hA (cJ _) N R hA1 λρ1 s1 g1 N1 R1 ht1=>?_;have hT1:s1.heap.get? 106=some (tabObj #[]):=g1.cI _ _ hT (by simp) (J _ rfl);have hTρ:106∉ρ1:=g1.iZ hT (by simp);refine kE (wt ht1 (x9 ?_ (by rw[mR (env':={(default:aS)with scope:=bH (hd01.heap_1 w.params) 131}) N1.scope];rfl)));refine oU (jA (C:=aI w base mg mb [(0,128)] H) (sc:=bH (hd01.heap_1 w.params) 131) (x:="_law_stream") (f:=.ref 111) (by rfl) (H.bE (by rfl)) (by decide) A env F1 ρ1 st1 s1 _ _ N1 R1 ?_);refine p0 (C:=aI w base mg mb [(0,128)] H) (n:=9) (sc:=bH (hd01.heap_1 w.params) 131) (avs:=[.str text]) (st1:=st1) (fa:=ab (aa 0) ag) hA N1 R1 (.cons rfl .nil) (gz (by rfl)) (au (ai 0 (by rfl) (by decide)) aF (by rfl)) (by simp[ab,aa,htext,ag]) λvs' aq s' g' R' r'=>?_;cases r' with
 |cons r0 rn=>
  cases rn
  refine bO r0 λt0 zq1=>?_;subst zq1;have hT':s'.heap.get? 106=some (tabObj #[]):=g'.cI _ _ hT1 hTρ id;have Y:106∉aq:=g'.iZ hT1 hTρ;refine KO H (hA.le (by decide)) R' hT' Y hTB hcd hbm λlp rA sA s2 U=>?_;refine nc U.read λcp ct c' dZ zq4=>?_;refine jZ zq4 λdoc pm tx hr0 hrec0 hp0 zq6=>?_;obtain⟨ht0,ncp,nct,nc',hpt,fcp,fct,fc'⟩:=zq6;refine nc U.stream λda fdS gx td zq4=>?_;refine jl zq4 λep hs0 hd0 nda fda=>?_;have N':=N1.go g';have N2:a8 (aI w base mg mb [(0,128)] H) (bH (hd01.heap_1 w.params) 131) (aq++[lp]) F1 env s2.heap:=N'.oI U.go.l9 hTL hTC;refine mS (C:=aI w base mg mb [(0,128)] H) (sc:=bH (hd01.heap_1 w.params) 131) (k:=3) (v:=.val (.ref sA)) (T:=λ_=>True) trivial N2 U.rel (by first|exact .inl rfl|exact .inr rfl) rfl λs3 g3 N3 R3=>?_;have notOwn':∀a,s'.heap.get? a=none->¬dr env a:=by
   rintro a e (rfl|⟨y,_,_,q⟩)
   ·refine bO N'.ns λM hM=>?_
    refine bO (oy hM) λo ho=>?_;rw[e]at ho;cases ho
   ·refine m_ (N'.cells y a q) λ_ v0 o ho _=>?_
    rw[e]at ho;cases ho
  have at3:∀a o,a∉aq++[lp]->s'.heap.get? a=none->s2.heap.get? a=some o->s3.heap.get? a=some o:=λa o n1 n2 e=>g3.cI a o e n1 (notOwn' a n2);have S:∀a,s'.heap.get? a=none->env.locals≠a/\∀y c,env.cells.lookup y=some c->c≠a:=λa e=>by
   refine⟨λz=>?_,λy c q z=>?_⟩
   ·refine bO N'.ns λM hM=>?_
    refine bO (oy hM) λo ho=>?_;rw[z,e]at ho;cases ho
   ·refine m_ (N'.cells y c q) λ_ v0 o ho _=>?_
    rw[z,e]at ho;cases ho
  have fresh:∀a∈[rA,sA,da,cp,ct,c'],s'.heap.get? a=none:=by
   intro a m;simp only[bJ,a7,or_false]at m;have e1:=U.XF;have e2:=U.X4;rcases m with rfl|rfl|rfl|rfl|rfl|rfl<;>assumption
  have nots:∀a∈[rA,sA,da,cp,ct,c'],a∉aq++[lp]:=by
   intro a m;have e1:=U.Yi;have e2:=U.Ye;simp only[bJ,a7,or_false]at m;rcases m with rfl|rfl|rfl|rfl|rfl|rfl<;>assumption
  have H2:=H.fK (h:=s3.heap) (extra:=[rA,sA,da,cp,ct,c']) R3.keep;have O:∀a∈[rA,sA,da,cp,ct,c'],∀o,s2.heap.get? a=some o->(fK base s3.heap [rA,sA,da,cp,ct,c']).get? a=some o:=λa m o e=>Mh m (at3 a o (nots a m) (fresh a m) e);have len':aq.length=st1.length:=R'.len;have R4:Rel (aI w (fK base s3.heap [rA,sA,da,cp,ct,c']) mg mb [(st1.length,lp),(0,128)] H2) (aq++[lp]) (st1++[.list [.int 0]]) s3.heap:=
   Rel.rebase (C:=aI w base mg mb [(0,128)] H) (C':=aI w (fK base s3.heap [rA,sA,da,cp,ct,c']) mg mb [(st1.length,lp),(0,128)] H2) (extra:=[rA,sA,da,cp,ct,c']) rfl R3 rfl nots λp hp=>by
    have hp':p∈[(st1.length,lp),(0,128)]:=hp;rcases bJ.mp hp' with e|hp'
    ·subst e
     show(aq++[lp])[st1.length]?=some lp;rw[<-len'];simp
    ·rw[cx]at hp'
     subst hp';exact R3.pin (0,128) (.head _)
  have N4:a8 (aI w (fK base s3.heap [rA,sA,da,cp,ct,c']) mg mb [(st1.length,lp),(0,128)] H2) (bH (hd01.heap_1 w.params) 131) (aq++[lp]) (F1.put 3 (.val (.ref sA))) env s3.heap:=
   a8.rebase (C:=aI w base mg mb [(0,128)] H) (C':=aI w (fK base s3.heap [rA,sA,da,cp,ct,c']) mg mb [(st1.length,lp),(0,128)] H2) (extra:=[rA,sA,da,cp,ct,c']) rfl ⟨rfl,rfl⟩ N3 rfl (λm=>(S _ (fresh _ m)).1 rfl) λy c q m=>(S _ (fresh _ m)).2 y c q rfl
  have okR:=MO (n:=0) (k:=st1.length) (lp:=lp) (x:=text) (pins:=[(st1.length,lp),(0,128)]) H2 (O rA (by simp) _ hr0) (by
   refine p8 hrec0 λc oc vs tt e1 e2 e3 e4=>?_;cases e1
   exact⟨c',oc,vs,tt,rfl,O c' (by simp) _ e2,e3,e4⟩) (hp0.imp λo q=>⟨O cp (by simp) _ q.1,q.2⟩) (ht0.imp λo q=>⟨O ct (by simp) _ q.1,q.2⟩) hpt (.head _)
  have hres:=LZ (C:=aI w (fK base s3.heap [rA,sA,da,cp,ct,c']) mg mb [(st1.length,lp),(0,128)] H2) (O sA (by simp) _ hs0) (O da (by simp) _ hd0);have hkeep:ik (aI w (fK base s3.heap [rA,sA,da,cp,ct,c']) mg mb [(st1.length,lp),(0,128)] H2) (.ref rA):=λh k=>keeps_F h ⟨_,_,_,_,k _ _ (O rA (by simp) _ hr0)⟩;have TA:TabAt (aI w (fK base s3.heap [rA,sA,da,cp,ct,c']) mg mb [(st1.length,lp),(0,128)] H2) 0 128 130:=by
   have kk:∀b o,base.get? b=some o->(fK base s3.heap [rA,sA,da,cp,ct,c']).get? b=some o:=λb o e=>Ah R3.keep e;exact⟨rfl,.tail _ (.head _),hcd2.keeps kk,hbm2.keeps kk,by decide⟩
  refine z5 (hB1 sA) λF2 bI oc l i wl ys b zq8=>?_;refine p8 zq8 λv2 ws F3 st3 hB h54 h44 zq7=>?_;obtain⟨hw,ho,hl,h0,h1,hb,hs,hC,es,hes⟩:=zq7;intro ht3;show wpAny (model ml.row.prog w) A (execs (((bT (hd01.heap_1 w.params) 131).drop 11).take 12++(bT (hd01.heap_1 w.params) 131).drop 23) env) Q E s3;refine(Xv H2 hres hkeep okR TA).u A env _ _ _ s3 _ _ _ _ _ hA (cJ _) N4 R4 hB λρ5 s5 g5 N5 R5 ht5=>?_;refine NY H2 hA hfr hef N5 R5 h54 h44 hw ho hl h0 h1 hb hs λρ6 s6 R6 N6 os6 gens6 fr6=>?_;refine(Xh H2).u A env _ _ _ s6 _ _ _ _ _ hA (cJ _) N6 R6 hC λr ρ7 s7 g7 N7 R7 r7=>?_;obtain⟨V7,rfl,r7⟩:=r7;cases r7
  obtain⟨ps,htab⟩:=U.tab;have hn2:106∉aq++[lp]:=λm=>by
   rcases U.go.new 106 m with z|z
   ·exact Y z
   ·rw[hT']at z;cases z
  have t3:=g3.cI _ _ htab hn2 (J _ rfl);have t5:=g5.cI _ _ t3 hn2 (J _ rfl);have hn5:=g5.iZ t3 hn2;obtain⟨t6,hn6⟩:=fr6 _ _ t5 hn5 (J _ rfl);have t7:=g7.cI _ _ t6 hn6 (J _ rfl);refine K s7 (λb o e=>R7.keep _ _ (Ah R3.keep e)) ?_ ?_ ⟨ps,t7⟩ ?_
  ·rw[g7.os,os6,g5.os,g3.os,U.go.os,g'.os,g1.os]
  ·rw[g7.gens,gens6,g5.gens,g3.gens,U.go.gens,g'.gens,g1.gens]
  ·exact(R7.at hes (R7.pin (0,128) (.tail _ (.head _)))).imp λps q=>q.1
end
theorem my{α β:Type}[BEq α][LawfulBEq α]:∀{l:List (α×β)}{x:α}{v:β},l.lookup x=some v->(x,v)∈l
 |[],_,_,h=>by cases h
 |(y,w)::l,x,v,h=>by
  rw[eN]at h;cases q:x==y with
  |true=>rw[q]at h;cases h;rw[eq_of_beq q];exact cj ..
  |false=>rw[q]at h;exact cw _ (my h)
theorem EX:∀(names:List (ae×e6))(n:Nat)(acc:List (ae×ak)),(∀p∈acc,p.2<n)->acc.Pairwise (λx y=>x.2≠y.2)->
 (cellsFrom n names acc).Pairwise (λx y=>x.2≠y.2)/\∀p∈cellsFrom n names acc,p∈acc\/n<=p.2:=by
 intro names;induction names with
 |nil=>
  intro n acc h J;exact⟨J,λp J=>.inl J⟩
 |cons S r R=>
  obtain⟨name,kind⟩:=S;intro n acc h J;unfold cellsFrom;split
  ·have N:∀p∈(name,n)::acc,p.2<n+1:=λp hm=>by
    rcases bJ.mp hm with rfl|hm
    ·exact iJ _
    ·exact rT (h p hm)
   have O:((name,n)::acc).Pairwise (λx y=>x.2≠y.2):=by
    rw[Gn];exact⟨λp hm e=>absurd (h p hm) (by rw[<-show n=p.2 from e];exact jI n),J⟩
   obtain⟨a,b⟩:=R (n+1) ((name,n)::acc) N O;refine⟨a,λp hm=>?_⟩;rcases b p hm with q|q
   ·rcases bJ.mp q with rfl|q
    ·exact .inr (a6 _)
    ·exact .inl q
   ·exact .inr (mW q)
  ·exact R n acc h J
theorem Kt{l:List (ae×ak)}(h:l.Pairwise λx y=>x.2≠y.2){x y:ae}{c:ak}(R:(x,c)∈l)(S:(y,c)∈l):x=y:=by
 induction l with
 |nil=>cases R
 |cons p l U=>
  rw[Gn]at h;rcases bJ.mp R with ex|N
  ·rcases bJ.mp S with O|J
   ·rw[<-O]at ex;cases ex;rfl
   ·exact(h.1 _ J (by rw[<-ex])).elim
  ·rcases bJ.mp S with O|J
   ·exact(h.1 _ N (by rw[<-O])).elim
   ·exact U h.2 N J
theorem Ni{C:Cfg}{name:ae}{sc:bc}{base h:aO}{L fa:ak}{cd:af}{m cm:ae->Option af}{cells news:List (ak×iL)}{k:Nat}{V:af}{P:ak}
 (hb:C.base=base)(hk:sc.kind=.function)(F:Rc base L h m)(N:News base L h (cells++news))(X:CellsAre cm (cellsFrom (L+1) sc.names []) cells)(hP:P<L)
 (hnf:∀x,sc.names.lookup x≠some .free)(hc:sc.names.lookup (C.nm k)=some .cell)(hv:cm (C.nm k)=some V)(Y:cd=C.code)(hq:(envOfC name sc L fa cd).qual =C.qual):
 a8 C sc [P] [(k,.val V)] (envOfC name sc L fa cd) h:=by
 have G:=EX sc.names (L+1) [] (by simp) .nil;have U:∀n c,(n,c)∈cellsFrom (L+1) sc.names []->L<c:=λn c hm=>by
  rcases G.2 _ hm with q|q
  ·cases q
  ·exact q
 have N':News base L h ([]++cells):=λp hp=>N p (Aq _ (by simpa using hp));have K:=Cl.of_news N' X G.1 U;have R:∀c,L<=c->C.base.get? c=none:=λc hc=>by rw[hb];exact Heap.get?_none_of_le (aw F.above hc)
 have look:∀x,sc.names.lookup x=some .cell ->∃c,(cellsFrom (L+1) sc.names []).lookup x=some c:=λx O=>cellsFrom_some sc.names (L+1) (my O);have nP:∀c,L<=c->c∉[P]:=λc hc m=>by rw[cx]at m;rw[m]at hc;exact absurd hP (iH.mpr hc)
 refine⟨rfl,hk,rfl,rfl,⟨m,F.ns⟩,nP L (a6 _),R L (a6 _),?_,?_,?_,?_,?_,?_,λ_=>⟨Y,hq⟩⟩
 ·intro j v hj
  have:j=k/\v=.val V:=by
   rw[eN]at hj;cases q:j==k with
   |true=>rw[q]at hj;cases hj;exact⟨eq_of_beq q,rfl⟩
   |false=>rw[q]at hj;cases hj
  obtain⟨rfl,rfl⟩:=this;refine bO (look _ hc) λc J=>?_;have S:=K.cell _ _ J;rw[hv]at S;exact⟨V,rfl,.inr ⟨.inl hc,c,J,nP c (cq (U _ _ (my J))),S⟩⟩
 ·intro x O
  refine bO (look x O) λc J=>?_;have hlt:=U _ _ (my J);exact⟨c,_,J,nP c (cq hlt),jh hlt,K.cell _ _ J,R c (cq hlt)⟩
 ·intro x y c O hy
  exact Kt G.1 (my O) (my hy)
 ·intro x O;exact absurd O (hnf x)
 ·intro x c O
  exact⟨nP c (cq (U _ _ (my O))),_,K.cell _ _ O⟩
 ·intro x O;exact absurd O (hnf x)
theorem Nd{l:List (ae×e6)}(h:(l.all λp=>p.2!=.free)=true):∀x,l.lookup x≠some .free :=λx e=>by
 have:=w_.mp h _ (my e);simp at this
theorem Si{C:Cfg}{base h:aO}{P:ak}(hb:C.base=base)(N:C.pins=[(0,P)])(k:∀b o,base.get? b=some o->h.get? b=some o)(O:base.get? P=none)(J:h.get? P=some (tabObj #[])):Rel C [P] [.tab []] h:=by
 refine⟨rfl,by simp,?_,?_,λb o e=>k b o (by rw[<-hb];exact e),?_,by rw[N];simp⟩
 ·intro a m;rw[cx.mp m,hb];exact O
 ·intro a m;rw[cx.mp m];exact⟨_,J⟩
 ·intro l o a e q
  cases l with
  |zero=>
   cases e;cases q
   exact⟨#[],J,trivial,λpos=>rfl⟩
  |succ l=>simp at e
noncomputable def lZ(ns:List Int):List AV:=ns.map .int
theorem Lq(ns:List Int):∀{vs:List af},IntsAre vs ns->∀ρ,bu ρ (lZ ns) vs:=by
 induction ns with
 |nil=>
  intro vs h ρ;cases h
  exact .nil
 |cons n ns J=>
  intro vs h ρ;cases h with
  |cons a=>exact .cons ⟨_,rfl⟩ (J (by assumption) ρ)
theorem Xu{Kf:o5}{base:aO}{p:ft}{loose:List ae}{J:Fq->Option af}{mg mb:ae->Option af}(X:Kf.In base)(T:Top p loose J mg mb base):Fx Kf base mg mb:=⟨X,T.g,T.b,T.nolimit,T.builtins⟩
theorem DP{p:ft}{loose:List ae}{J:Fq->Option af}{mg mb:ae->Option af}{base:aO}{P:ak}(T:Top p loose J mg mb base)(O:base.get? P=none):base.BuiltinsAt mg P:=by
 refine Af T.bmain λbm R b1 b2 b3 b4 S N=>?_;refine⟨bm,R,b1,b2,?_,?_,b3,b4,S,N⟩
 ·intro e
  subst e;refine Ib T.g λo es ep ho hd _=>?_;rw[b3]at ho;cases ho
  rw[N]at hd;cases hd
 ·intro e
  subst e;rw[O]at b3;cases b3
noncomputable def H9:Prop:=∀(D:ak)(ns:List Int),ns.length<=63->∃(F1:aj)(st1:St)(text:ae),tz D (lZ ns) [(38,.val (.ref D))] [.tab []]=some (.next,F1,st1)/\F1.lookup 0=some (.str text)/\
 ∀sA:ak,∃(F2:aj)(bI:St)(oc l i wl:Nat)(N:List AV)(b v2:Int)(ws:List Int)(O:aj)(J:St),q3 (bq sA) (fw text st1.length) (F1.put 3 (.val (.ref sA))) (st1++[.list [.int 0]])=some (.next,F2,bI)/\
  F2.lookup 54=some (.ref oc)/\F2.lookup 44=some (.ref wl)/\bI[wl]?=some (.list (ws.map .int))/\bI[oc]?=some (.c_ l i)/\bI[l]?=some (.list N)/\N[i]?=some (.int b)/\N[i+1]?=none/\
  gY b 64≠0/\(∀st':St,nt (.int (gY b 63)) (.int 6) st'=some (.int v2,st'))/\
  y8 (F2.put 71 (.int ws.sum)) (bI.set oc .gP)=some (.ret (.bool true),O,J)/\∃es,J[0]?=some (.tab es)
theorem law_end(PL:H9){w:dB}{base:aO}{p:ft}{loose:List ae}{S:Fq->Option af}{mg mb:ae->Option af}{L fa:ak}{cd:af}{m cm:ae->Option af}{cells:List (ak×iL)}{D:ak}{vs:List af}{ns:List Int}{name:ae}{body:List gJ}{sc:bc}{A:bg}{Q:jF->ah->Prop}{E:af->ah->Prop}{s:ah}
 (X:(hd01.heap_1 w.params).In base)(T':Top p loose S mg mb base)(F:Rc base L s.heap m)(N:News base L s.heap (cells++[(106,tabObj #[]),(128,tabObj #[])]))(XC:CellsAre cm (cellsFrom (L+1) sc.names []) cells)
 (J:body=bT (hd01.heap_1 w.params) 131)(hsc:sc=bH (hd01.heap_1 w.params) 131)(hv:cm ("script":ae)=some (.ref D))(hD:base.IsList D vs.toArray)(hI:IntsAre vs ns)(hl:ns.length<=63)(hcd:uu base 110 106)(U:uu base 130 128)(hA:bN 9 A)(hL:106<L/\128<L)
 (hn:name=("law":ae))(hc:cd=.ref 130)(hfr:A.frames=some [envOfC name sc L fa cd])
 (K:∀s',(∀b o,base.get? b=some o->s'.heap.get? b=some o)->s'.os=s.os->s'.gens=s.gens->(∃ps,s'.heap.get? 106=some (tabObj ps))->(∃ps,s'.heap.get? 128=some (tabObj ps))->Q (.ret (.bool true)) s'):
 wpAny (model ml.row.prog w) A (execs body (envOfC name sc L fa cd)) Q E s:=by
 subst J;subst hsc;subst hn;subst hc;have Y:(106,tabObj #[])∈cells++[((106:ak),tabObj #[]),(128,tabObj #[])]:=by simp
 have O:(128,tabObj #[])∈cells++[((106:ak),tabObj #[]),(128,tabObj #[])]:=by simp
 have hT:=N.get Y;have hTB:=N.fresh Y;let H:Fx (hd01.heap_1 w.params) base mg mb:=Xu X T';have hnm:(aI w base mg mb [(0,128)] H).nm 38=("script":ae):=by rfl
 have EN:=Ni (C:=aI w base mg mb [(0,128)] H) (name:="law") (fa:=fa) (cd:=.ref 130) (k:=38) (V:=.ref D) (P:=128) rfl (by rfl) F N XC hL.2 (Nd (by rfl)) (by rfl) (by rw[hnm];exact hv) rfl (by rfl);have R:Rel (aI w base mg mb [(0,128)] H) [128] [.tab []] s.heap:=Si rfl rfl F.keep (N.fresh O) (N.get O);refine Ib (PL D ns hl) λF1 st1 text e1 q0 hB=>?_;have G:=EX (bH (hd01.heap_1 w.params) 131).names (L+1) [] (by simp) .nil;exact RL H hA hfr rfl EN R hT hTB hcd (DP T' hTB) U (DP T' (N.fresh O)) hD (λρ=>Lq ns hI ρ) (λe=>by have e':L=106:=e;rw[e']at hL;exact jI _ hL.1)
  (λy c hc e=>by
   rcases G.2 _ (my hc)with q|q
   ·cases q
   ·have h1:106<c:=cK (rT hL.1) q
    rw[e]at h1;exact jI _ h1)
  e1 q0 hB K
open PySem.Builtin PySem.Builtin.Str
theorem XM{lo hi:Int}(h:0<=lo)(k:hi<=60):((hi -lo+7 -1)/7).toNat <=9:=Hr.mpr (qu (Int.ediv_le_ediv (by decide) (Int.sub_le_sub_right (Bp (qu (Q1 hi h) k) 7) 1)) (by decide))
theorem EL(ns:List Int)(j:Nat):(pick ns (some (j:Int)) (some 60) (some 7)).length <=9:=by
 unfold pick;refine aw (List.length_filterMap_le _ _) ?_;have J:¬((j:Int)<0):=by exact ib.mpr (eu _)
 simp only[sliceBounds,wL,Hx,show(7:Int)>0 by decide,if_true,J,if_false,show¬((60:Int)<0) by decide];unfold sliceRange;simp only[show(7:Int)>0 by decide,if_true,aQ,eI];split
 ·exact XM (Int.le_max_left ..) (Int.max_le.mpr ⟨by decide,Int.min_le_left ..⟩)
 ·exact cJ _
noncomputable def vq(ns:List Int)(k:Nat):Nat:=((pick ns (some (k:Int)) (some 60) (some 7)).map λx=>(x.fmod 1000000).toNat).sum
theorem sum_nat:∀l:List Int,(l.map λx=>x.fmod 1000000).sum =(((l.map λx=>(x.fmod 1000000).toNat).sum :Nat):Int)
 |[]=>rfl
 |x::l=>by
  have:0<=x.fmod 1000000:=PW _ (by decide);rw[bX,bX,r9,r9,sum_nat l,Int.natCast_add,GI this]
theorem IQ:∀l:List Int,(l.map λx=>(x.fmod 1000000).toNat).sum <=999999*l.length
 |[]=>a6 _
 |x::l=>by
  have h1:x.fmod 1000000<1000000:=Int.fmod_lt_of_pos _ (by decide);have h2:0<=x.fmod 1000000:=PW _ (by decide);have:=IQ l;rw[bX,r9,dH];exact aw (fV (Hr.mpr (Pb h1)) this) (bS (gH ..))
theorem Rk(ns:List Int)(k:Nat):vq ns k<=8999991:=aw (IQ _) (by have:=EL ns k;exact aw (h_ _ this) (by decide))
noncomputable def gv(ns:List Int):List Nat:=([17,256,433,1745,40621,3436,133].zipIdx 0).map λp=>p.1+vq ns p.2
section
variable{W:List Nat}{G:Gm}
theorem Hy{st:St}:∀ns:List Int,aR W st (ns.map .int) (ns.map .int)
 |[]=>.nil
 |n::ns=>.cons (.int n) (Hy ns)
theorem MH{D:ak}{ns:List Int}{f:EM}{lo hi U}{i j k:Option Int}(hf:Ev W G f (.v (.val (.ref D))))(h1:pT W G lo i)(h2:pT W G hi j)(h3:pT W G U k)(hk:k≠some 0)(hl:ns.length<=16777216):
 bh W G (yh D (lZ ns) f lo hi U) (.list ((pick ns i j k).map .int)):=λ_ _ J=>
 Ok.bind' ((hf _ _ J).mono λp N=>Ok.bind' ((h1 _ _ (J.cZ N.1)).mono λq O=>Ok.bind' ((h2 _ _ (J.cZ (N.1.trans O.2))).mono λu R=>Ok.bind' ((h3 _ _ (J.cZ ((N.1.trans O.2).trans R.2))).mono λv hv=>by
  obtain⟨x,S⟩:=p;have Y:aN [] S v.2:=(O.2.trans R.2).trans hv.2;rw[O.1,R.1,hv.1];obtain⟨hp1,hx⟩:=N;cases(show x=.val (.ref D)from hx)
  have e:JX D (lZ ns) (.val (.ref D)) i j k v.2=some (.ref v.2.length,v.2++[.list (pick (lZ ns) i j k)]):=if_pos (c:=eH D=.ref D/\(lZ ns).length <=sizeLine/\k≠some 0) ⟨rfl,by unfold lZ;rw[aQ];exact hl,hk⟩;refine Ok.of e ⟨(hp1.trans Y).trans (.app _),j_ (J.bd.keep (hp1.trans Y)) ?_⟩;unfold lZ;rw[PF];exact Hy _))))
theorem MC:cO W jb (.int 10) (.int 6) (.int 1000000):=lj (λst=>rfl) λst=>.int _
theorem Uw{D:ak}{ns:List Int}(N:ns.length<=63)(J:G 38=some (.v (.val (.ref D)))):
 bh W G (bl [38] (bD lV (ab (bC (ab (xk (.int 17)) (ab (xk (.int 256)) (ab (xk (.int 433)) (ab (xk (.int 1745)) (ab (xk (.int 40621)) (ab (xk (.int 3436)) (ab (xk (.int 133)) ag)))))))) ag)) (.names [24,51]) bw (a_ (ay aX (aa 51) (bK fP (ab (bl [] (bL (yh D (lZ ns) (aa 38) (bY (aa 24)) (bY (xk (.int 60))) (bY (xk (.int 7))))) (.name 52) bw (a_ (ay oMod (aa 52) (ay jb (xk (.int 10)) (xk (.int 6))))) 400) ag)))) 400) (.list ((gv ns).map nD)):=by
 unfold gv;rw[br];refine fD (bs:=[17,256,433,1745,40621,3436,133].zipIdx 0) (mk:=λp:Nat×Nat=>.two (nD p.2) (nD p.1)) (h:=nD∘λp:Nat×Nat=>p.1+vq ns p.2) ?_ (by decide) λp O=>⟨_,.two rfl rfl,?_⟩
 ·exact xr (ds:=[17,256,433,1745,40621,3436,133].map nD) (aE (e8 (aE (aW 17) (aE (aW 256) (aE (aW 433) (aE (aW 1745) (aE (aW 40621) (aE (aW 3436) (aE (aW 133) be))))))) (by decide)) be)
 ·refine aM (az rfl) (ia (aE (d:=.list (((pick ns (some (p.2:Int)) (some 60) (some 7)).map λx=>x.fmod 1000000).map .int)) ?_ be) (r:=nD (vq ns p.2)) ?_) (mv _ _)
  ·rw[br]
   refine fD (bs:=pick ns (some (p.2:Int)) (some 60) (some 7)) (mk:=λx:Int=>.one (.int x)) (h:=iS∘λx:Int=>x.fmod 1000000) ?_ (bQ (EL ns p.2) (by decide)) λx R=>⟨_,.one rfl,aM (az rfl) (aM (gL 10) (gL 6) MC) (VG _ _ (by decide))⟩;have:=iC (W:=W) (tg:=.name 52) (MH (G:=((G.only [38]).put 24 (.d (nD p.2))).put 51 (.d (nD p.1))) (ns:=ns) (az (k:=38) J) (fT (az (k:=24) rfl)) (fT (gL 60)) (fT (gL 7)) (by decide) (aw N (by decide))) rfl;rwa[br]at this
  ·have:=sR (W:=W) (ns:=(pick ns (some (p.2:Int)) (some 60) (some 7)).map λx=>x.fmod 1000000)
   rw[sum_nat]at this;exact this
end
structure Rw where
 core:List Nat
 n:Nat
 k:Nat
noncomputable def dl(k:Nat):List Nat:=[0,1,if k<3 then 0 else 3,if k<3 then 2 else 3]
noncomputable def Rw.c9(r:Rw):Nat:=(dl r.k).getD (r.n/16%4) 0
noncomputable def Rw.kind(r:Rw):Nat:=r.n/64%3
noncomputable def vm:List (List Nat):=[[10],[9,13],[32,13,10]]
noncomputable def Rw.fin(r:Rw):List Nat:=vm.getD (r.n/192%3) []
noncomputable def Rw.body(r:Rw):List Nat:=bZ r.c9 46++r.core
noncomputable def Rw.txt(r:Rw):List Nat:=jy r.body r.kind++r.fin
noncomputable def Rw.up(cC:Nat)(r:Rw):Nat:=if 0<r.c9/\r.kind=0 then r.c9+cC else r.c9
noncomputable def Rw.word(cC:Nat)(r:Rw):List Nat:=bZ (r.up cC) 46++r.core
noncomputable def gq(a b:Nat):List (List Nat):=[[a,a],[a,b],[b,a],[b,b]]
noncomputable def kY(a b:Nat):List (List Nat):=[[a],[b],[a,b],[b,a]]
noncomputable def kN(b:Nat):List (List Nat):=[[],[46,46,46],[46,46,46,b],[46,46,46,b,46,46,46]]
noncomputable def kr(a b n:Nat):List Nat:=(kY a b).getD (n%4) []++(kN b).getD (n/4%4) []
noncomputable abbrev Ms:=List (List Nat)×List Rw
noncomputable def ko(m:Ms)(p:Nat×Nat):List (List Nat):=if p.2<3 then m.1.eraseIdx (p.1%m.1.length)else m.1
noncomputable def dK(a b:Nat)(m:Ms)(p:Nat×Nat):Rw:=⟨if p.2<3 then m.1.getD (p.1%m.1.length) []else kr a b p.1,p.1,p.2⟩
noncomputable def qU(a b:Nat)(m:Ms)(p:Nat×Nat):Ms:=(ko m p,m.2++[dK a b m p])
theorem getD_at{α β:Type}{f:α->β}{l:List α}{i:Nat}{d:α}(h:i<l.length):(l.map f)[i]?=some (f (l.getD i d)):=by
 rw[dO,kF h,jg,kF h];rfl
theorem ET{α β:Type}(f:α->β):∀(l:List α)(i:Nat),(l.map f).eraseIdx i=(l.eraseIdx i).map f
 |[],_=>rfl
 |a::l,0=>rfl
 |a::l,i+1=>congrArg (f a::·) (ET f l i)
theorem getD_mem{α:Type}{l:List α}{i:Nat}{d:α}(h:i<l.length):l.getD i d∈l:=by
 rw[jg,kF h];exact AI h
theorem Rw.sH(r:Rw):r.c9<=3:=by
 have h:r.n/16%4<4:=cE _ (by decide);have:=getD_mem (l:=dl r.k) (i:=r.n/16%4) (d:=0) h;have all:∀d∈dl r.k,d<=3:=λd m=>by
  unfold dl at m;simp only[bJ,a7,or_false]at m;rcases m with rfl|rfl|rfl|rfl
  ·decide
  ·decide
  ·split<;>decide
  ·split<;>decide
 exact all _ this
theorem Rw.H8(r:Rw):r.fin.length<=3:=by
 have:=getD_mem (l:=vm) (i:=r.n/192%3) (d:=[]) (cE _ (by decide));have all:∀d∈vm,d.length<=3:=by decide
 exact all _ this
theorem DU(a b n:Nat):1<=(kr a b n).length /\(kr a b n).length <=9:=by
 have h1:=getD_mem (l:=kY a b) (i:=n%4) (d:=[]) (cE _ (by decide));have h2:=getD_mem (l:=kN b) (i:=n/4%4) (d:=[]) (cE _ (by decide));have a1:∀d∈kY a b,1<=d.length/\d.length<=2:=λd m=>by
  unfold kY at m;simp only[bJ,a7,or_false]at m;rcases m with rfl|rfl|rfl|rfl<;>exact⟨Gy rfl,Gy rfl⟩
 have a2:∀d∈kN b,d.length<=7:=λd m=>by
  unfold kN at m;simp only[bJ,a7,or_false]at m;rcases m with rfl|rfl|rfl|rfl<;>exact Gy rfl
 unfold kr;rw[aP];have:=a1 _ h1;have:=a2 _ h2;lia
section
variable{W:List Nat}{G:Gm}
noncomputable def b1:SM:=(bj 14 (gf (aT oLt (aa 24) (xk (.int 3))) (bU ek qX (aa 48) (ab (ay oMod (aa 45) (bK iv (ab (aa 48) ag))) ag)) (ay aX (aH (bC (ab (aa 50) (ab (aa 49) (ab (ay aX (aa 50) (aa 49)) (ab (ay aX (aa 49) (aa 50)) ag))))) (ay oMod (aa 45) (xk (.int 4)))) (aH (bC (ab (xk (.str ("":ae))) (ab (xk (.str ("...":ae))) (ab (ay aX (xk (.str ("...":ae))) (aa 49)) (ab (ay aX (ay aX (xk (.str ("...":ae))) (aa 49)) (xk (.str ("...":ae)))) ag))))) (ay oMod (ay oDiv (aa 45) (xk (.int 4))) (xk (.int 4)))))))
noncomputable def b2:SM:=(pG [47,15] (ab (aH (bC (ab (xk (.int 0)) (ab (xk (.int 1)) (ab (gf (aT oLt (aa 24) (xk (.int 3))) (xk (.int 0)) (xk (.int 3))) (ab (gf (aT oLt (aa 24) (xk (.int 3))) (xk (.int 2)) (xk (.int 3))) ag))))) (ay oMod (ay oDiv (aa 45) (xk (.int 16))) (xk (.int 4)))) (ab (ay oMod (ay oDiv (aa 45) (xk (.int 64))) (xk (.int 3))) ag)))
noncomputable def b3:SM:=(eS 0 gO (ay aX (bK (bG [14,15] tT) (ab (ay aX (ay cU (xk (.str (".":ae))) (aa 47)) (aa 14)) (ab (aa 15) ag))) (aH (bC (ab (xk (.str ("\x0a":ae))) (ab (xk (.str ("\x09\x0d":ae))) (ab (xk (.str (" \x0d\x0a":ae))) ag)))) (ay oMod (ay oDiv (aa 45) (xk (.int 192))) (xk (.int 3))))))
noncomputable def J4:EM:=(ay aX (ay cU (xk (.str (".":ae))) (gf (nq (aT l8 (aa 47) (xk (.int 0))) (nq (aT oEq (aa 15) (xk (.int 0))) (λ_ st=>some (true,st)))) (ay aX (aa 47) (aa 41)) (aa 47))) (aa 14))
noncomputable def b4:SM:=(gN (bU ek bAppend (aa 46) (ab J4 ag)))
noncomputable def zh:SM:=(ao b1 (ao b2 (ao b3 (ao b4 aC))))
theorem Xa:f5=(λF st=>((bD lV (ab (cH (aa 43) bb (bY (xk (.int 6))) bb) ag)) F st).bind λp=>cA (.names [24,45]) zh 400 p.1 F p.2):=rfl
theorem WQ{r:Rw}(N:G 24=some (.d (nD r.k)))(J:G 45=some (.d (nD r.n))):Sg W G b2 (.next ((G.put 15 (.d (nD r.kind))).put 47 (.d (nD r.c9)))):=by
 have lt:fb W G (aT oLt (aa 24) (xk (.int 3))) (decide (r.k<3)):=uV r.k 3▸d6 (az N) (aW 3) (JD _ _);have ite:∀x y:Nat,bh W G (gf (aT oLt (aa 24) (xk (.int 3))) (xk (.int x)) (xk (.int y))) (nD (if r.k<3 then x else y)):=λx y=>qJ lt (λh=>by rw[if_pos (of_decide_eq_true h)];exact aW x) λh=>by rw[if_neg (of_decide_eq_false h)];exact aW y
 exact S9 (aE (aM (e8 (ds:=(dl r.k).map nD) (aE (aW 0) (aE (aW 1) (aE (ite 0 3) (aE (ite 2 3) be)))) (show 4<=16777216 by decide)) (aM (aM (az J) (aW 16) (lG _ _ (by decide) (by decide))) (aW 4) (kI _ _ (by decide))) (ei _ (getD_at (cE _ (by decide))) (du (cE _ (by decide)) (by decide))))
  (aE (aM (aM (az J) (aW 64) (lG _ _ (by decide) (by decide))) (aW 3) (kI _ _ (by decide))) be))
theorem BX(x:List Nat)(k:Nat)(h:1<=x.length):(jy x k).length <=2*x.length+2:=by
 have l1:=wW [34,92] x;have l2:=wW [92,32] (x.drop 1);rw[ez]at l2;have J:=B5 [92,32] (x.headD 0);unfold jy;split
 ·rw[aP,aP,gZ];exact fj (aw (bS (gH ..)) (fj l1))
 ·rw[aP]
  split
  ·rw[dH,gZ];exact aw (fW (aw l2 (h_ 2 (iU ..))) 2) (bS (gH ..))
  ·exact aw (fV J (aw l2 (h_ 2 (iU ..)))) (bS (gH ..))
theorem Xe{r:Rw}{txt:List Nat}(hc:1<=r.core.length/\r.core.length<=9)(ht:txt.length<=10000)(h0:G 0=some (.d (sD txt)))(N:G 14=some (.d (sD r.core)))(O:G 15=some (.d (nD r.kind)))(R:G 47=some (.d (nD r.c9)))(S:G 45=some (.d (nD r.n))):
 Sg W G b3 (.next (G.put 0 (.d (sD (txt++r.txt))))):=by
 have hd:=r.sH;have J:r.body.length=r.c9+r.core.length:=by unfold Rw.body;rw[aP,jD]
 have hw:=BX r.body r.kind (by exact C7 J hc.1);have hf:=r.H8;refine CM h0 (aM (b:=sD r.fin) (ia (aE (aM (aM (dh Jr) (az R) (BM 46 r.c9 (by exact j0 hd))) (az N) (iW _ _ (by rw[jD];exact dx hd hc.2 (by decide)))) (aE (az O) be)) (Ln (by rw[aP,jD];exact⟨aw hc.1 (dg ..),bQ (fV hd hc.2) (by decide)⟩))) ?_ (iW _ _ (by show(jy r.body r.kind).length +_<=_;exact dx (yX hw J hd hc.2) hf (by decide)))) (A5 txt r.txt (by unfold Rw.txt;rw[aP];exact dx ht (dx (yX hw J hd hc.2) hf (a6 _)) (by decide)));exact aM (e8 (ds:=vm.map sD) (aE (dh Dy) (aE (dh XB) (aE (dh W9) be))) (show 3<=16777216 by decide)) (aM (aM (az S) (aW 192) (lG _ _ (by decide) (by decide))) (aW 3) (kI _ _ (by decide))) (ei _ (getD_at (cE _ (by decide))) (du (cE _ (by decide)) (by decide)))
theorem Ww{r:Rw}{cC:Nat}(hs:cC<=3)(hc:r.core.length<=9)(N:G 14=some (.d (sD r.core)))(O:G 15=some (.d (nD r.kind)))(J:G 47=some (.d (nD r.c9)))(R:G 41=some (.d (nD cC))):bh W G J4 (sD (r.word cC)):=by
 have hd:=r.sH;have S:r.up cC<=6:=by unfold Rw.up;split<;>(first|exact aw hd (by decide)|exact fV hd hs)
 refine aM (aM (dh Jr) (b:=nD (r.up cC)) (qJ (b:=decide (0<r.c9)&&(decide (r.kind=0)&&true)) (yb (uV 0 r.c9▸d6 (az J) (aW 0) (CW _ _)) λ_=>yb (cast_eq r.kind 0▸d6 (az O) (aW 0) (pz _ _)) λ_=>uD) (λh=>?_) λh=>?_) (BM 46 _ (by exact j0 S))) (az N) (iW _ _ (by rw[jD];exact dx S hc (by decide)))
 ·have:0<r.c9/\r.kind=0:=by simpa using h
  rw[Rw.up,if_pos this];exact aM (az J) (az R) (mv _ _)
 ·have:¬(0<r.c9/\r.kind=0):=λz=>by
   have:(decide (0<r.c9)&&(decide (r.kind=0)&&true))=true:=by simpa using z
   rw[this]at h;cases h
  rw[Rw.up,if_neg this];exact az J
theorem RZ{a b n k:Nat}(hk:¬k<3)(R:G 24=some (.d (nD k)))(O:G 45=some (.d (nD n)))(N:G 50=some (.d (sD [a])))(J:G 49=some (.d (sD [b]))):Sg W G b1 (.next (G.put 14 (.d (sD (kr a b n))))):=by
 have lt:fb W G (aT oLt (aa 24) (xk (.int 3))) (decide (k<3)):=uV k 3▸d6 (az R) (aW 3) (JD _ _);have hl:=DU a b n;refine fR (qJ lt (λh=>absurd (of_decide_eq_true h) hk) λ_=>aM (a:=sD ((kY a b).getD (n%4) [])) (b:=sD ((kN b).getD (n/4%4) [])) ?_ ?_ (iW _ _ (by have:=hl.2;unfold kr at this;rw[aP]at this;exact j0 this)))
 ·exact aM (e8 (ds:=(kY a b).map sD) (aE (az N) (aE (az J) (aE (aM (az N) (az J) (iW [a] [b] (show 2<=16777216 by decide))) (aE (aM (az J) (az N) (iW [b] [a] (show 2<=16777216 by decide))) be)))) (show 4<=16777216 by decide)) (aM (az O) (aW 4) (kI _ _ (by decide))) (ei _ (getD_at (cE _ (by decide))) (du (cE _ (by decide)) (by decide)))
 ·exact aM (e8 (ds:=(kN b).map sD) (aE (dh lU) (aE (dh pA) (aE (aM (dh pA) (az J) (iW [46,46,46] [b] (show 4<=16777216 by decide))) (aE (aM (aM (dh pA) (az J) (iW [46,46,46] [b] (show 4<=16777216 by decide))) (dh pA) (iW [46,46,46,b] [46,46,46] (show 7<=16777216 by decide))) be)))) (show 4<=16777216 by decide)) (aM (aM (az O) (aW 4) (lG _ _ (by decide) (by decide))) (aW 4) (kI _ _ (by decide))) (ei _ (getD_at (cE _ (by decide))) (du (cE _ (by decide)) (by decide)))
theorem GR.int{F:aj}{st:St}(g:GR W G F st){k:Nat}{i:Int}(h:G k=some (.d (.int i))):F.lookup k=some (.int i):=by
 refine aG ((g.at' k _ h).get) λx e s=>?_;rw[e,(show RV W st x (.int i)from s).i']
theorem GR.av{F:aj}{st:St}(g:GR W G F st){k:Nat}{v:AV}(h:G k=some (.v v)):F.lookup k=some v:=by
 refine aG ((g.at' k _ h).get) λx e s=>?_;rw[e];exact congrArg some (show x=v from s)
theorem U1{F:aj}{st:St}{n k lc:Nat}{cs:List (List Nat)}(g:GR W G F st)(hk:k<3)(hc:1<=cs.length/\cs.length<=4)(R:G 24=some (.d (nD k)))(S:G 45=some (.d (nD n)))(U:G 48=some (.v (.ref lc)))(hl:st[lc]?=some (.list (bx cs))):
 b1 F st=some (.next,F.put 14 (.str (T (cs.getD (n%cs.length) []))),st.set lc (.list (bx (cs.eraseIdx (n%cs.length))))):=by
 have Y:=g.int R;have l45:=g.int S;have l48:=g.av U;have hi:n%cs.length<cs.length:=cE _ hc.1;have J:(bx cs).length =cs.length:=by unfold bx;rw[aQ]
 have hlen:=Eg (bx cs) lc st hl (by exact aw (bS J) (aw hc.2 (by decide)));rw[J]at hlen;have N:=Jh n cs.length st (jh hc.1);have k3:((k:Int)<3):=by exact m3.mpr hk
 have O:qX [.ref lc,.int ((n%cs.length:Nat):Int)] st=some (.str (T (cs.getD (n%cs.length) [])),st.set lc (.list (bx (cs.eraseIdx (n%cs.length))))):=by
  have fit:AL ((n%cs.length:Nat):Int)=true:=by
   have:n%cs.length<4:=cK hi hc.2;have c:n%cs.length=0\/n%cs.length=1\/n%cs.length=2\/n%cs.length=3:=by exact yG this
   rcases c with c|c|c|c<;>rw[c]<;>decide
  show(bF st lc).bind _=_;rw[dC hl];refine(if_pos ⟨by exact aw (bS J) (aw hc.2 (by decide)),fit⟩).trans ?_;rw[Ff (eu _) (m3.mpr (by rw[J];exact hi))];show((bx cs)[((n%cs.length:Nat):Int).toNat]?).map _=_;rw[xf];unfold bx;rw[getD_at (d:=[]) hi,ET];rfl
 unfold b1;simp only[gF,UN,iM,iK,d7,bP,Y,cT,bz,bo,AH,k3,decide_true,if_true,iI,l48,nF _ _ _ hl,eK,l45,j5,dJ,hlen,N,eM,d_,O]
end
noncomputable abbrev Gl(l:List (Nat×Vl)):Gm:=λj=>l.lookup j
section
variable{W:List Nat}{G:Gm}{F:aj}{st st':St}
theorem GR.to{l:List (Nat×Vl)}(h:GR W G F st)(hl:∀p∈l,G p.1=some p.2):GR W (Gl l) F st:=h.le λj q e=>hl (j,q) (my e)
theorem lC{l:Nat}{o:AO}(h:l∈W):aN W st (st.set l o):=⟨by rw[xh];exact a6 _,λi hi n=>by rw[get_set,if_neg (λz:i=l=>n (z.symm▸h))]⟩
theorem aN.sub{W V:List Nat}{a b:St}(h:aN V a b)(s:∀x∈V,x∈W):aN W a b:=⟨h.len,λl q n=>h.at' l q λm=>n (s l m)⟩
theorem GR.grow(h:GR W G F st)(k:aN W st st'){l:Nat}(h1:st.length<=l)(h2:l<st'.length):GR (l::W) G F st':=by
 have kp:Kp W (l::W) st st':=λi hi n=>⟨λm=>(bJ.mp m).elim (λz=>absurd hi (by rw[z];exact iH.mpr h1)) n,k.at' i hi n⟩;refine⟨λw m=>(bJ.mp m).elim (λz=>z▸h2) λm=>cK (h.bd w m) k.len,λj p e=>(h.at' j p e).mono λx s=>?_⟩;cases p with
 |d d=>exact RV.to kp s
 |v v=>exact s
theorem Ie{fa}{k:Nat}{ds:List aB}(g:GR W G F st)(N:jv W G fa ds)(hl:ds.length<=16777216):∃st1 xs,bj k (bC fa) F st=some (.next,F.put k (.ref st1.length),st1++[.list xs])/\aN [] st st1/\aR W st1 xs ds:=by
 refine di ((N F st g).get) λJ e O r=>?_;obtain⟨xs,st1⟩:=J;refine⟨st1,xs,?_,O,r⟩;show((fa F st).bind _).map _=_;rw[e];show(if xs.length<=sizeLine then some (AV.ref st1.length,st1++[AO.list xs])else none).map _=_;rw[if_pos (by rw[r.len];exact hl)];rfl
noncomputable abbrev GA(lc lw cC a b:Nat)(J:aB)(txt:List Nat):List (Nat×Vl):=[(43,.d J),(0,.d (sD txt)),(41,.d (nD cC)),(50,.d (sD [a])),(49,.d (sD [b])),(48,.v (.ref lc)),(46,.v (.ref lw))]
theorem Xo{V:List Nat}{a b n k lc:Nat}{m:Ms}(g:GR W G F st)(J:lc∈V)(hV:∀x∈V,x∈W)(hc:k<3->1<=m.1.length /\m.1.length <=4)(N:G 24=some (.d (nD k)))(O:G 45=some (.d (nD n)))(S:G 48=some (.v (.ref lc)))(U:G 50=some (.d (sD [a])))(Y:G 49=some (.d (sD [b])))(hl:st[lc]?=some (.list (bx m.1))):
 Ok (b1 F st) λq=>q.1=.next /\aN V st q.2.2/\GR W (G.put 14 (.d (sD (dK a b m (n,k)).core))) q.2.1 q.2.2/\q.2.2[lc]?=some (.list (bx (ko m (n,k))))/\(∀l,l<st.length->l≠lc->q.2.2[l]?=st[l]?):=by
 by_cases hk:k<3
 ·rw[U1 g hk (hc hk) N O S hl]
  have e1:(dK a b m (n,k)).core =m.1.getD (n%m.1.length) []:=if_pos hk;have e2:ko m (n,k)=m.1.eraseIdx (n%m.1.length):=if_pos hk;rw[e1,e2];exact⟨rfl,lC J,(g.keep (lC (hV _ J))).put (p:=.d _) (.str _),by rw[get_set,if_pos rfl,if_pos (gn hl)],λl _ n=>by rw[get_set,if_neg n]⟩
 ·have e1:(dK a b m (n,k)).core =kr a b n:=if_neg hk
  have e2:ko m (n,k)=m.1:=if_neg hk;rw[e1,e2];exact(RZ hk N O U Y F st g).mono λq R=>⟨R.2.1,R.1.any,R.2.2,R.1.get hl,λl hl' _=>R.1.at' l hl' a7⟩
theorem UP{V:List Nat}{ow:aB}{a b n k lc lw cC:Nat}{m:Ms}{txt:List Nat}{ws:List (List Nat)}(S:lc∈V/\lw∈V/\lc≠lw)(hV:∀x∈V,x∈W)(hs:cC<=3)(hc:k<3->1<=m.1.length /\m.1.length <=4)(hr:1<=(dK a b m (n,k)).core.length /\(dK a b m (n,k)).core.length <=9)(ht:txt.length<=10000)(hws:ws.length<=1000)
 (g:GR W (((Gl (GA lc lw cC a b ow txt)).put 24 (.d (nD k))).put 45 (.d (nD n))) F st)(hl:st[lc]?=some (.list (bx m.1)))(U:st[lw]?=some (.list (bx ws))):
 Ok (zh F st) λq=>q.1=.next /\aN V st q.2.2/\GR W (Gl (GA lc lw cC a b ow (txt++(dK a b m (n,k)).txt))) q.2.1 q.2.2/\q.2.2[lc]?=some (.list (bx (ko m (n,k))))/\q.2.2[lw]?=some (.list (bx (ws++[(dK a b m (n,k)).word cC]))):=by
 unfold zh;refine Ok.bind' ((Xo (a:=a) (b:=b) g S.1 hV hc rfl rfl rfl rfl rfl hl).mono λq N=>?_);obtain⟨fl,F1,st1⟩:=q;refine yF N λz k1 g1 c1 o1=>?_;cases(show fl=.next from z)
 have Y:st1[lw]?=some (.list (bx ws)):=(o1 lw (gn U) (λe=>S.2.2 e.symm)).trans U;refine Ok.bind' ((WQ (r:=dK a b m (n,k)) rfl rfl F1 st1 g1).mono λq N=>?_);obtain⟨fl,F2,bI⟩:=q;refine dc N λk2 z g2=>?_;cases(show fl=.next from z)
 refine Ok.bind' ((Xe (r:=dK a b m (n,k)) hr ht rfl rfl rfl rfl rfl F2 bI g2).mono λq N=>?_);obtain⟨fl,F3,O⟩:=q;refine dc N λk3 z g3=>?_;cases(show fl=.next from z)
 have lw3:O[lw]?=some (.list (bx ws)):=(k2.trans k3).get Y;have l46:=g3.av (k:=46) (v:=.ref lw) rfl;have he:Ok (b4 F3 O) λq=>q.1=.next /\q.2.1=F3/\∃J,aN [] O J/\q.2.2=J.set lw (.list (bx (ws++[(dK a b m (n,k)).word cC]))):=by
  refine Ok.fJ (Ok.bind' (Ok.of (a:=(.ref lw,O)) (by rw[bP,l46];rfl) (Ok.bind' (Ok.of (nF _ _ _ lw3) (Ok.bind' (Ok.bind' ((Ww (r:=dK a b m (n,k)) hs hr.2 rfl rfl rfl rfl F3 O g3).mono λq N=>?_)))))));obtain⟨x,J⟩:=q;cases(show RV W J x (sD ((dK a b m (n,k)).word cC))from N.2).s'
  have ap:=rM (bx ws) lw (.str (T ((dK a b m (n,k)).word cC))) J (N.1.get lw3) (by unfold bx;rw[aQ];exact j0 hws);show Ok (bAppend [.ref lw,.str (T ((dK a b m (n,k)).word cC))] J) _;rw[ap];refine⟨rfl,rfl,J,N.1,?_⟩;show J.set lw _=_;unfold bx;rw[dF];rfl
 refine Ok.bind' (he.mono λq N=>?_);obtain⟨fl,F4,J⟩:=q;refine Wu N λz z2 R k5 zq4=>?_;subst zq4;cases(show fl=.next from z)
 cases(show F4=F3 from z2)
 have kk:aN [] st1 R:=(k2.trans k3).trans k5;refine⟨rfl,(k1.trans kk.any).trans (lC S.2.1),((g3.cZ k5).keep (lC (hV _ S.2.1))).to (l:=GA lc lw cC a b ow (txt++(dK a b m (n,k)).txt)) ?_,?_,?_⟩
 ·exact bt.mpr ⟨rfl,bt.mpr ⟨rfl,bt.mpr ⟨rfl,bt.mpr ⟨rfl,bt.mpr ⟨rfl,bt.mpr ⟨rfl,bt.mpr ⟨rfl,λ_ h=>absurd h a7⟩⟩⟩⟩⟩⟩⟩
 ·show(R.set lw _)[lc]?=_
  rw[get_set,if_neg S.2.2];exact kk.get c1
 ·show(R.set lw _)[lw]?=_
  rw[get_set,if_pos rfl,if_pos (gn (kk.get Y))]
end
structure Good(j:Nat)(m:Ms):Prop where
 len:m.1.length =4 -min j 3
 two:∀c∈m.1,c.length=2
 rows:m.2.length =j
 core:∀r∈m.2,1<=r.core.length/\r.core.length<=9
theorem wF{a b j n:Nat}{m:Ms}(h:Good j m)(N:j<6):Good (j+1) (qU a b m (n,j))/\(j<3->1<=m.1.length /\m.1.length <=4)/\(1<=(dK a b m (n,j)).core.length /\(dK a b m (n,j)).core.length <=9):=by
 have hl:j<3->1<=m.1.length /\m.1.length <=4:=λq=>by exact Yv h.len
 have hr:1<=(dK a b m (n,j)).core.length /\(dK a b m (n,j)).core.length <=9:=by
  by_cases q:j<3
  ·have e:(dK a b m (n,j)).core =m.1.getD (n%m.1.length) []:=if_pos q
   rw[e,h.two _ (getD_mem (cE _ (hl q).1))];decide
  ·have e:(dK a b m (n,j)).core =kr a b n:=if_neg q
   rw[e];exact DU a b n
 refine⟨⟨?_,?_,by show(m.2++[_]).length =_;rw[aP,h.rows];rfl,λr J=>?_⟩,hl,hr⟩
 ·show(ko m (n,j)).length =_
  unfold ko;by_cases q:j<3
  ·rw[if_pos q,List.length_eraseIdx,if_pos (cE _ (hl q).1),h.len];exact YN q
  ·rw[if_neg q,h.len];exact YF q
 ·intro c hc
  replace hc:c∈ko m (n,j):=hc;unfold ko at hc;split at hc
  ·exact h.two c (Og hc)
  ·exact h.two c hc
 ·rcases eh.mp (show r∈m.2++[dK a b m (n,j)]from J)with z|z
  ·exact h.core r z
  ·rw[cx.mp z];exact hr
theorem Sq{r:Rw}(h:1<=r.core.length/\r.core.length<=9):r.txt.length<=30:=by
 have hd:=r.sH;have J:r.body.length=r.c9+r.core.length:=by unfold Rw.body;rw[aP,jD]
 have hw:=BX r.body r.kind (by exact C7 J h.1);have hf:=r.H8;unfold Rw.txt;rw[aP];exact dx (yX hw J hd h.2) hf (by decide)
noncomputable def i_(rows:List Rw):List Nat:=(rows.map Rw.txt).flatten
noncomputable def rwords(cC:Nat)(rows:List Rw):List (List Nat):=rows.map (Rw.word cC)
theorem AY:∀{rows:List Rw},(∀r∈rows,1<=r.core.length/\r.core.length<=9)->(i_ rows).length <=30*rows.length
 |[],_=>a6 _
 |r::rs,h=>by
  have h1:=Sq (h r (cj ..));have h2:=AY λx J=>h x (cw _ J);unfold i_ at*;rw[bX,gI,aP,dH];exact yJ h1 h2
noncomputable def nv(a b:Nat):List Nat->Nat->Ms->Ms
 |[],_,m=>m
 |n::ns,j,m=>nv a b ns (j+1) (qU a b m (n,j))
theorem Mw{W V:List Nat}{S:aB}{a b cC lc lw:Nat}(hW:lc∈V/\lw∈V/\lc≠lw)(hV:∀x∈V,x∈W)(hs:cC<=3):∀(ns:List Nat)(j fuel:Nat)(m:Ms)(it:It)(F:aj)(st:St),j+ns.length<=6->ns.length<fuel->Good j m->
 Yl W (.names [24,45]) (((ns.map nD).zipIdx j).map λp=>.two (.int (p.2:Nat)) p.1) st it->GR W (Gl (GA lc lw cC a b S (i_ m.2))) F st->st[lc]?=some (.list (bx m.1))->st[lw]?=some (.list (bx (rwords cC m.2)))->
 Ok (cA (.names [24,45]) zh fuel it F st) λq=>q.1=.next /\aN V st q.2.2/\GR W (Gl (GA lc lw cC a b S (i_ (nv a b ns j m).2))) q.2.1 q.2.2/\q.2.2[lw]?=some (.list (bx (rwords cC (nv a b ns j m).2)))/\Good (j+ns.length) (nv a b ns j m):=by
 intro ns;induction ns with
 |nil=>
  intro j fuel m it F st O hf hg Y g hl J;cases fuel with
  |zero=>exact absurd hf (gk _)
  |succ fuel=>
   rw[wH Y.1 (Y.2 st .rfl')];exact⟨rfl,.rfl',g,J,hg⟩
 |cons n ns ih=>
  intro j fuel m it F st O hf hg Y g hl J;rw[dH]at O;cases fuel with
  |zero=>exact absurd hf (gk _)
  |succ fuel=>
   refine fH (Y.2 st .rfl') λitem gT e s Y'=>?_;refine aG (((pX.two (j:=24) (k:=45) (G:=Gl (GA lc lw cC a b S (i_ m.2)))).ok s g).get) λF1 e1 g1=>?_;refine dc (wF (a:=a) (b:=b) (n:=n) hg (by exact cK (oS (c8 ..)) O)) λgs hc hr=>?_;have R:=AY hg.core;rw[hg.rows]at R;rw[nE Y.1 e e1];refine Ok.bind' ((UP (m:=m) (n:=n) (k:=j) (txt:=i_ m.2) (ws:=rwords cC m.2) hW hV hs hc hr (by exact aw R (aw (h_ 30 (cq (rL O))) (by decide))) (by unfold rwords;rw[aQ,hg.rows];exact aw (aw (c8 ..) O) (by decide)) g1 hl J).mono λq N=>?_);obtain⟨fl,F2,bI⟩:=q;refine yF N λz k g2 l2 U=>?_;cases(show fl=.next from z)
   have eT:i_ (qU a b m (n,j)).2=i_ m.2++(dK a b m (n,j)).txt :=by
    show i_ (m.2++[dK a b m (n,j)])=_;unfold i_;rw[dF,qe];simp
   have eW:rwords cC (qU a b m (n,j)).2=rwords cC m.2++[(dK a b m (n,j)).word cC]:=by
    show rwords cC (m.2++[dK a b m (n,j)])=_;unfold rwords;rw[dF];rfl
   refine(ih (j+1) fuel (qU a b m (n,j)) gT F2 bI (by exact(hK ..)▸O) (mZ hf) gs (Y'.keep (k.sub hV)) (by rw[eT];exact g2) l2 (by rw[eW];exact U)).mono λq N=>⟨N.1,k.trans N.2.1,N.2.2.1,N.2.2.2.1,?_⟩;rw[dH,show j+(ns.length+1)=j+1+ns.length by exact(Nat.succ_add ..).symm];exact N.2.2.2.2
noncomputable def Cl(l:List Nat):Prop:=∀c∈l,c≠10/\c≠13
theorem Cl.no{l:List Nat}(h:Cl l):jt l:=⟨λm=>(h _ m).1 rfl,λm=>(h _ m).2 rfl⟩
theorem Cl.app{a b:List Nat}(h:Cl a)(g:Cl b):Cl (a++b):=λc m=>(eh.mp m).elim (h c) (g c)
theorem Cl.cons{c:Nat}{l:List Nat}(h:c≠10/\c≠13)(g:Cl l):Cl (c::l):=bt.mpr ⟨h,g⟩
theorem Cl.nil:Cl []:=λ_ m=>absurd m a7
theorem Cl.rep{c:Nat}(h:c≠10/\c≠13)(n:Nat):Cl (bZ n c):=λ_ m=>(o3.mp m).2▸h
theorem Cl.dT{set:List Nat}{c:Nat}(h:c≠10/\c≠13):Cl (dT set c):=by
 unfold Mine.dT;split
 ·exact .cons (by decide) (.cons h .nil)
 ·exact .cons h .nil
theorem Cl.Df{set:List Nat}:∀{l:List Nat},Cl l->Cl (l.map (Mine.dT set)).flatten
 |[],_=>.nil
 |c::l,h=>by
  rw[bX,gI];exact(Cl.dT (h c (cj ..))).app (Cl.Df λd m=>h d (cw _ m))
theorem Cl.wr{x:List Nat}{k:Nat}(N:x≠[])(h:Cl x):Cl (jy x k):=by
 refine mN (rR N) λc r J=>?_;subst J;have hc:=h c (cj ..);have hr:Cl r:=λd m=>h d (cw _ m);unfold jy;split
 ·exact(Cl.app (.cons (by decide) .nil) (Cl.Df h)).app (.cons (by decide) .nil)
 ·refine Cl.app ?_ (Cl.Df hr)
  split
  ·exact .cons (by decide) (.cons hc .nil)
  ·exact Cl.dT hc
theorem XA(x:List Nat)(k:Nat):jy x k≠[]:=by
 unfold jy;split
 ·simp
 ·split
  ·simp
  ·unfold dT;split<;>simp
theorem zV(j:Nat)(b:List Nat):lift (fu j b)=fu (j+1) b:=by
 unfold fu;split
 ·rename_i r
  cases j with
  |zero=>rfl
  |succ j=>simp only[sf,eM];rfl
 ·rename_i h
  unfold lift;split
  ·rename_i r;exact absurd rfl (h r)
  ·rfl
theorem Ld{b:List Nat}(h:jt b/\b≠[])(j:Nat):jt (fu j b)/\fu j b≠[]:=by
 induction j with
 |zero=>rw[Et];exact h
 |succ j J=>rw[<-zV];exact Nf J
theorem M_(j:Nat)(b:List Nat):(fu j b).length <=j+b.length:=by unfold fu;split<;>simp
section
variable(ls:List (List Nat×List Nat))(tail:List Nat)
noncomputable def lW(j:Nat):List Nat:=if j=0 then lines ls++tail else fX ((ls.map (·.1)).map (fu j))++tail
theorem UB(hl:∀p∈ls,sY p)(ht:jt tail/\tail≠[]/\lift tail=tail)(j:Nat):pR (lW ls tail j)=lW ls tail (j+1):=by
 unfold lW;rw[if_neg (se j)];by_cases h:j=0
 ·rw[if_pos h,EH tail ht.1 ht.2.1 ht.2.2 ls hl,h,show lift=fu (0+1)from funext λb=>by rw[<-zV,Et]]
 ·rw[if_neg h,LS tail ht.1 ht.2.1 ht.2.2,br,show lift∘fu j=fu (j+1)from funext λb=>zV j b]
  intro b hb;refine aG (dz.mp hb) λc hc J=>?_;subst J;refine aG (dz.mp hc) λp N J=>?_;subst J;exact Ld ⟨(hl p N).1,(hl p N).2.1⟩ j
theorem LH:∀(bs:List (List Nat))(m:Nat),(∀b∈bs,b.length<=m)->(fX bs).length <=(m+2)*bs.length:=by
 intro bs;induction bs with
 |nil=>
  intro _ _;exact a6 _
 |cons b bs J=>
  intro m h;have h1:=h b (cj ..);have h2:=J m λx N=>h x (cw _ N);unfold fX at*;rw[bX,gI,aP,aP,show(b::bs).length =bs.length+1 from rfl,uj,show[13,10].length =2 from rfl];exact yJ (iR h1 2) h2
theorem Mp:∀(ls:List (List Nat×List Nat))(m:Nat),(∀p∈ls,p.1.length <=m/\p.2.length <=2)->(lines ls).length <=(m+2)*ls.length:=by
 intro ls;induction ls with
 |nil=>
  intro _ _;exact a6 _
 |cons p ls J=>
  intro m h;have h1:=h p (cj ..);have h2:=J m λx N=>h x (cw _ N);unfold lines at*;rw[bX,gI,aP,aP,show(p::ls).length =ls.length+1 from rfl,uj];exact yJ (fV h1.1 h1.2) h2
theorem Mf{m:Nat}(h:∀p∈ls,p.1.length <=m/\p.2.length <=2)(j:Nat):(lW ls tail j).length <=(j+m+2)*ls.length+tail.length:=by
 unfold lW;split
 ·rename_i e
  have:=Mp ls m h;rw[aP,e,hH];exact iR this _
 ·rw[aP]
  have:=LH ((ls.map (·.1)).map (fu j)) (j+m) (λb hb=>by
   refine aG (dz.mp hb) λc hc J=>?_;subst J;refine aG (dz.mp hc) λp N J=>?_;subst J;have:=M_ j p.1;have:=(h p N).1;exact aw (by assumption) (fW (by assumption) j))
  rw[aQ,aQ]at this;exact iR this _
end
noncomputable def kb:List (List Nat):=[[],[9],[32]]
noncomputable def tD:List (List Nat):=[[10],[13],[13,10]]
noncomputable def Rw.line(r:Rw):List Nat:=jy r.body r.kind++kb.getD (r.n/192%3) []
noncomputable def Rw.nl(r:Rw):List Nat:=tD.getD (r.n/192%3) []
theorem three{P:Nat->Prop}(i:Nat)(h0:P 0)(h1:P 1)(h2:P 2):P (i%3):=by
 have h:i%3<3:=cE _ (by decide);have c:i%3=0\/i%3=1\/i%3=2:=by exact yv h
 rcases c with c|c|c<;>rw[c]<;>assumption
theorem Rw.NX(r:Rw):r.txt=r.line++r.nl:=by
 unfold Rw.txt Rw.line Rw.nl Rw.fin;rw[dm];exact congrArg _ (three (P:=λi=>vm.getD i []=kb.getD i []++tD.getD i []) (r.n/192) rfl rfl rfl)
theorem Rw.RR(r:Rw)(h:1<=r.core.length):r.body≠[]:=λe=>by
 have:=congrArg mX e;unfold Rw.body at this;rw[aP,nI]at this;exact absurd h (nJ (bQ (aw (dg ..) (bS this)) Qg))
theorem Rw.xU(r:Rw)(h:1<=r.core.length/\r.core.length<=9)(hc:Cl r.core):sY (r.line,r.nl)/\r.line.length<=27/\r.nl.length<=2:=by
 have hb:Cl r.body:=(Cl.rep (by decide) _).app hc;have hd:=r.sH;have J:r.body.length=r.c9+r.core.length:=by unfold Rw.body;rw[aP,jD]
 have hw:=BX r.body r.kind (by exact C7 J h.1);have N:Cl (kb.getD (r.n/192%3) [])/\(kb.getD (r.n/192%3) []).length <=1:=three (P:=λi=>Cl (kb.getD i [])/\(kb.getD i []).length <=1) _ ⟨.nil,cJ _⟩ ⟨.cons (by decide) .nil,a6 _⟩ ⟨.cons (by decide) .nil,a6 _⟩;refine⟨⟨((Cl.wr (r.RR h.1) hb).app N.1).no,λe=>XA r.body r.kind (wX.mp e).1,?_⟩,?_,?_⟩
 ·exact three (P:=λi=>tD.getD i []=[10]\/tD.getD i []=[13]\/tD.getD i []=[13,10]) _ (.inl rfl) (.inr (.inl rfl)) (.inr (.inr rfl))
 ·unfold Rw.line
  rw[aP];have:=N.2;exact dx (yX hw J hd h.2) N.2 (by decide)
 ·exact three (P:=λi=>(tD.getD i []).length <=2) _ (by decide) (by decide) (by decide)
noncomputable def l4(rows:List Rw):List (List Nat×List Nat):=rows.map (λr=>(r.line,r.nl))++[([46],[10])]
theorem LL(rows:List Rw):lines (l4 rows)=i_ rows++[46,10]:=by
 unfold lines l4 i_;rw[dF,qe,br];refine congr (congrArg _ (congrArg QR (xe λr _=>(r.NX).symm))) rfl
theorem HP{rows:List Rw}(h:∀r∈rows,(1<=r.core.length/\r.core.length<=9)/\Cl r.core):∀p∈l4 rows,sY p/\p.1.length <=27/\p.2.length <=2:=λp N=>by
 rcases eh.mp N with m|m
 ·refine aG (dz.mp m) λr hr J=>?_;subst J
  exact r.xU (h r hr).1 (h r hr).2
 ·rw[cx.mp m]
  exact⟨⟨(Cl.cons (by decide) .nil :Cl [46]).no,qx _ _,.inl rfl⟩,by decide,by decide⟩
section
variable(ns:List Int)
noncomputable abbrev jx:aB:=.list ((gv ns).map nD)
noncomputable def o6:Nat:=(gv ns).getD 6 0
noncomputable def fx:Nat:=1+o6 ns%3
noncomputable def qM:List (Nat×Nat):=[(97,98),(34,92),(32,12),(92,35)]
noncomputable def cv:Nat×Nat:=qM.getD (o6 ns/3%4) (0,0)
noncomputable def eE:List Rw:=(nv (cv ns).1 (cv ns).2 ((gv ns).take 6) 0 (gq (cv ns).1 (cv ns).2,[])).2
noncomputable def fN:List Nat:=(((gv ns).drop 3).take 3).map λn=>n/576%500
noncomputable def v9:List (List Nat):=[[122,32],[122,9],[34,122,34]]
noncomputable def zN:List Nat:=v9.getD (o6 ns/48%3) []
noncomputable def lQ:Nat:=o6 ns/12%4
noncomputable def k_:Nat:=64+o6 ns/144%64
noncomputable def iO:List Nat:=(gv ns).drop 6++fN ns
noncomputable def lP:List Nat:=((iO ns).map λn=>dD n (lQ ns)).flatten ++[k_ ns]
noncomputable def ir:List Nat:=[34,34]++zN ns++lP ns
noncomputable def kh:List Nat:=lW (l4 (eE ns)) (ir ns) (fx ns)
noncomputable def iN:List (List Nat):=rwords (fx ns) (eE ns)
end
theorem j7(ns:List Int):(gv ns).length =7:=by unfold gv;rw[aQ,List.length_zipIdx];rfl
theorem UD(ns:List Int):∀n∈gv ns,n<16777216:=λn N=>by
 refine aG (dz.mp N) λp O J=>?_;subst J;have:=Rk ns p.2;have all:∀p∈([17,256,433,1745,40621,3436,133].zipIdx 0:List (Nat×Nat)),p.1<=40621:=by decide
 have:=all p O;exact bQ (fV (by assumption:p.1<=40621) (by assumption:vq ns p.2<=8999991)) (by decide)
theorem BJ(ns:List Int):∀n∈iO ns,n<16777216:=λn N=>by
 rcases eh.mp N with m|m
 ·exact UD ns n (A9 m)
 ·refine aG (dz.mp m) λk _ J=>?_;subst J
  have:k/576%500<500:=cE _ (by decide);exact du this (by decide)
theorem Su{N:Nat}(h:N<16777216)(f:Nat)(hf:f<4):Cl (dD N f)/\(dD N f).length <=5:=by
 have hd:=Cp h;have hl:=BF N;have hm:64<=more f:=by unfold more;exact c8 ..
 unfold dD;refine⟨λc hc=>?_,?_⟩
 ·rw[eh,eh,AM,cx]at hc
  rcases hc with(hc|hc)|hc
  ·rw[(o3.mp hc).2];exact yz (aw (by decide) hm)
  ·refine aG (dz.mp hc) λd _ J=>?_;subst J;exact yz (aw (aw (by decide) hm) (c8 ..))
  ·exact yz (hc▸aw (by decide) (c8 128 _))
 ·rw[aP,aP,jD,xH,aQ,gZ]
  have:f%2<2:=cE _ (by decide);exact dx (dx (fU this) hl (a6 _)) (a6 1) (by decide)
theorem Cl.flat:∀{l:List (List Nat)},(∀x∈l,Cl x)->Cl l.flatten
 |[],_=>.nil
 |x::l,h=>by rw[gI];exact(h x (cj ..)).app (Cl.flat λy m=>h y (cw _ m))
theorem Fj:∀{l:List (List Nat)}{m:Nat},(∀x∈l,x.length<=m)->l.flatten.length<=m*l.length
 |[],_,_=>cJ _
 |x::l,m,h=>by
  have h1:=h x (cj ..);have h2:=Fj λy J=>h y (cw _ J);rw[gI,aP,show(x::l).length =l.length+1 from rfl,uj];exact yJ h1 h2
theorem xo(ns:List Int):(iO ns).length =4:=by
 unfold iO fN;rw[aP,aQ,iE,ez,ez,j7];rfl
theorem BK(ns:List Int):(fN ns).length =3:=by
 unfold fN;rw[aQ,iE,ez,j7];rfl
theorem Cd(ns:List Int):lQ ns<4:=cE _ (by decide)
theorem B7(ns:List Int):Cl (lP ns)/\(lP ns).length <=21/\((iO ns).map λn=>dD n (lQ ns)).flatten.length <=20:=by
 have h:∀x∈(iO ns).map λn=>dD n (lQ ns),Cl x/\x.length<=5:=λx J=>by
  refine aG (dz.mp J) λn O N=>?_;subst N;exact Su (BJ ns n O) _ (Cd ns)
 have hl:=Fj λx J=>(h x J).2;rw[aQ,xo]at hl;unfold lP;refine⟨(Cl.flat λx J=>(h x J).1).app (.cons ?_ .nil),?_,hl⟩
 ·unfold k_;exact yz (aw (by decide) (c8 64 _))
 ·rw[aP,gZ];exact fj hl
theorem Dd(ns:List Int):Cl (zN ns)/\(zN ns).length <=3:=three (P:=λi=>Cl (v9.getD i [])/\(v9.getD i []).length <=3) _ ⟨.cons (by decide) (.cons (by decide) .nil),by decide⟩ ⟨.cons (by decide) (.cons (by decide) .nil),by decide⟩ ⟨.cons (by decide) (.cons (by decide) (.cons (by decide) .nil)),by decide⟩
theorem H4(ns:List Int):(jt (ir ns)/\ir ns≠[]/\lift (ir ns)=ir ns)/\(ir ns).length <=26:=by
 have J:=Dd ns;have ht:=B7 ns;refine⟨⟨?_,?_,rfl⟩,?_⟩
 ·exact(((Cl.cons (by decide) (.cons (by decide) .nil):Cl [34,34]).app J.1).app ht.1).no
 ·exact qx _ _
 ·unfold ir
  rw[aP,aP,show[34,34].length =2 from rfl];exact dx (dx (a6 2) J.2 (a6 _)) ht.2.1 (by decide)
theorem SU(ns:List Int):(cv ns).1≠10/\(cv ns).1≠13/\(cv ns).2≠10/\(cv ns).2≠13:=by
 have all:∀p∈qM,p.1≠10/\p.1≠13/\p.2≠10/\p.2≠13:=by decide
 exact all _ (getD_mem (cE _ (by decide)))
theorem wy{a b:Nat}{P:List Nat->Prop}(hw:∀n,P (kr a b n))(h0:P []):∀(l:List Nat)(j:Nat)(m:Ms),(∀c∈m.1,P c)->(∀r∈m.2,P r.core)->∀r∈(nv a b l j m).2,P r.core
 |[],_,_,_,h=>h
 |n::l,j,m,hc,h=>by
  refine wy hw h0 l (j+1) (qU a b m (n,j)) (λc m'=>?_) λr m'=>?_
  ·replace m':c∈ko m (n,j):=m'
   unfold ko at m';split at m'
   ·exact hc c (Og m')
   ·exact hc c m'
  ·rcases eh.mp (show r∈m.2++[dK a b m (n,j)]from m')with z|z
   ·exact h r z
   ·rw[cx.mp z]
    show P (if j<3 then m.1.getD (n%m.1.length) []else kr a b n);split
    ·by_cases q:n%m.1.length <m.1.length
     ·exact hc _ (getD_mem q)
     ·rw[jg,o4 (fC q)];exact h0
    ·exact hw n
theorem SJ(ns:List Int):∀r∈eE ns,Cl r.core:=by
 refine yT (SU ns) λa1 a2 b1 b2=>?_;generalize O:cv ns=p at a1 a2 b1 b2;obtain⟨a,b⟩:=p;have ca:∀{l:List Nat},Cl l->Cl (a::l):=λh=>.cons ⟨a1,a2⟩ h;have N:∀{l:List Nat},Cl l->Cl (b::l):=λh=>.cons ⟨b1,b2⟩ h;have J:∀{l:List Nat},Cl l->Cl (46::l):=λh=>.cons (by decide) h;unfold eE;rw[O];refine wy (λn=>?_) .nil _ _ _ (λc m=>?_) λr m=>absurd m a7
 ·unfold kr
  refine Cl.app ?_ ?_
  ·have all:∀x∈kY a b,Cl x:=λx m=>by
    unfold kY at m;simp only[bJ,a7,or_false]at m;rcases m with rfl|rfl|rfl|rfl
    ·exact ca .nil
    ·exact N .nil
    ·exact ca (N .nil)
    ·exact N (ca .nil)
   exact all _ (getD_mem (cE _ (by decide)))
  ·have all:∀x∈kN b,Cl x:=λx m=>by
    unfold kN at m;simp only[bJ,a7,or_false]at m;rcases m with rfl|rfl|rfl|rfl
    ·exact .nil
    ·exact J (J (J .nil))
    ·exact J (J (J (N .nil)))
    ·exact J (J (J (N (J (J (J .nil))))))
   exact all _ (getD_mem (cE _ (by decide)))
 ·replace m:c∈gq a b:=m
  unfold gq at m;simp only[bJ,a7,or_false]at m;rcases m with rfl|rfl|rfl|rfl
  ·exact ca (ca .nil)
  ·exact ca (N .nil)
  ·exact N (ca .nil)
  ·exact N (N .nil)
section
variable{W:List Nat}{G:Gm}{F:aj}{st:St}
theorem GR.shrink{W':List Nat}(h:GR W G F st)(hs:∀x∈W',x∈W):GR W' G F st:=⟨λw m=>h.bd w (hs w m),λj p e=>(h.at' j p e).mono λx s=>by
 cases p with
 |d d=>exact RV.to (λl _ n=>⟨λm=>n (hs l m),rfl⟩) s
 |v v=>exact s⟩
theorem GR.vK(h:GR W G F st){k:Nat}{x:AV}{p:Vl}(e:F.lookup k=some x)(s:Sat W st x p):GR W (G.put k p) F st:=⟨h.bd,λj q J=>by
 by_cases z:j=k
 ·rw[Gm.put,if_pos z]at J
  cases J
  rw[z];exact Ok.of e s
 ·rw[Gm.put,if_neg z]at J;exact h.at' j q J⟩
theorem Sg.to{f:SM}{G':Gm}{l:List (Nat×Vl)}(h:Sg W G f (.next G'))(hl:∀p∈l,G' p.1=some p.2):Sg W G f (.next (Gl l)):=λF st g=>(h F st g).mono λq J=>⟨J.1,J.2.1,GR.to J.2.2 hl⟩
theorem Nm{α:Type}(xs:List α)(i j:Nat)(h:i<=j/\j<=xs.length):pick xs (some (i:Int)) (some (j:Int)) none=(xs.drop i).take (j -i):=by
 rw[Bn xs _ _ i j];have J:∀k:Nat,¬((k:Int)<0):=λk=>ib.mpr (eu _);simp only[sliceBounds,wL,show(1:Int)>0 by decide,if_true,J,if_false];rw[rU,rU,oW (aw h.1 h.2),oW h.2]
theorem Wa{ds:List aB}(i j:Nat)(J:i<=j/\j<=ds.length)(h:ds.length<=16777216):q8 W (.list ds) (some (i:Int)) (some (j:Int)) none (.list ((ds.drop i).take (j -i))):=zb h (by decide) λ{st xs} r=>by
 rw[Nm xs i j ⟨J.1,by rw[r.len];exact J.2⟩];exact(r.drop' i).take' (j -i)
theorem Ih{st:St}:∀ts:List (List Nat),aR W st (bx ts) (ts.map sD)
 |[]=>.nil
 |t::ts=>.cons (.str _) (Ih ts)
theorem Ss{xs:List AV}{ts:List (List Nat)}(r:aR W st xs (ts.map sD)):xs=bx ts:=r.strs
end
noncomputable abbrev pN(ns:List Int):List (Nat×Vl):=[(0,.d (sD (kh ns))),(43,.d (jx ns)),(41,.d (nD (fx ns))),(44,.d (.list ((fN ns).map nD))),(46,.d (.list ((iN ns).map sD)))]
noncomputable abbrev GM(ns:List Int)(txt:List Nat):List (Nat×Vl):=[(0,.d (sD txt)),(43,.d (jx ns)),(41,.d (nD (fx ns))),(44,.d (.list ((fN ns).map nD))),(46,.d (.list ((iN ns).map sD)))]
section
variable{W:List Nat}{G:Gm}(ns:List Int)
theorem ve{G:Gm}(h:G 43=some (.d (jx ns))):bh W G (aH (aa 43) (xk (.int 6))) (nD (o6 ns)):=aM (az h) (aW 6) (ei (ds:=(gv ns).map nD) 6 (getD_at (by rw[j7];decide)) (by decide))
theorem Xk(h:G 43=some (.d (jx ns))):Sg W G f1 (.next (G.put 41 (.d (nD (fx ns))))):=
 fR (aM (aW 1) (aM (ve ns h) (aW 3) (kI _ _ (by decide))) (mv _ _))
theorem Xt(h:G 43=some (.d (jx ns))):Sg W G f2 (.next ((G.put 50 (.d (sD [(cv ns).1]))).put 49 (.d (sD [(cv ns).2])))):=by
 refine Lf (aM (e8 (ds:=qM.map λp=>.tuple [sD [p.1],sD [p.2]]) (aE (oj (aE (dh (show dy "a"=T [97] by decide+kernel)) (aE (dh (show dy "b"=T [98] by decide+kernel)) be)) (show 2<=16777216 by decide)) (aE (oj (aE (dh v5) (aE (dh pS) be)) (show 2<=16777216 by decide))
  (aE (oj (aE (dh (show dy " "=T [32] by decide+kernel)) (aE (ia (aE (aW 12) be) (Ck 12 (by decide))) be)) (show 2<=16777216 by decide)) (aE (oj (aE (dh pS) (aE (dh (show dy "#"=T [35] by decide+kernel)) be)) (show 2<=16777216 by decide)) be)))) (show 4<=16777216 by decide))
  (aM (aM (ve ns h) (aW 3) (lG _ _ (by decide) (by decide))) (aW 4) (kI _ _ (by decide))) (ei (ds:=qM.map λp=>.tuple [sD [p.1],sD [p.2]]) _ (getD_at (d:=(0,0)) (cE _ (by decide))) (du (cE _ (by decide)) (by decide))))
theorem Np{a b:Nat}(J:G 50=some (.d (sD [a])))(N:G 49=some (.d (sD [b]))):jv W G (ab (ay aX (aa 50) (aa 50)) (ab (ay aX (aa 50) (aa 49)) (ab (ay aX (aa 49) (aa 50)) (ab (ay aX (aa 49) (aa 49)) ag)))) ((gq a b).map sD):=
 have op:∀x y:Nat,cO W aX (sD [x]) (sD [y]) (sD [x,y]):=λx y=>iW [x] [y] (show 2<=16777216 by decide)
 aE (aM (az J) (az J) (op a a)) (aE (aM (az J) (az N) (op a b)) (aE (aM (az N) (az J) (op b a)) (aE (aM (az N) (az N) (op b b)) be)))
theorem WT(h:G 43=some (.d (jx ns))):Sg W G f6 (.next (G.put 44 (.d (.list ((fN ns).map nD))))):=by
 refine fR ?_;unfold fN;rw[br];refine fD (bs:=((gv ns).drop 3).take 3) (mk:=λn:Nat=>.one (nD n)) (h:=nD∘λn=>n/576%500) ?_ (by rw[iE,ez,j7];decide) λn J=>⟨_,.one rfl,aM (aM (az rfl) (aW 576) (lG _ _ (by decide) (by decide))) (aW 500) (kI _ _ (by decide))⟩;have:=iC (W:=W) (tg:=.name 45) (iT (az (k:=43) h) (fT (aW 3)) (fT (aW 6)) dR (Wa 3 6 ⟨by decide,by rw[aQ,j7];decide⟩ (by rw[aQ,j7];decide))) rfl;rwa[<-r_,<-wN,br]at this
theorem W1{txt:List Nat}(ht:txt.length<=1000)(h:G 43=some (.d (jx ns)))(h0:G 0=some (.d (sD txt))):Sg W G f7 (.next (G.put 0 (.d (sD (txt++([46,10,34,34]++zN ns)))))):=by
 have J:=(Dd ns).2;refine CM h0 (aM (b:=sD (zN ns)) (dh VH) ?_ (iW _ _ (by show 4+_<=_;exact dx (a6 4) J (by decide)))) (A5 _ _ (by rw[aP,show[46,10,34,34].length =4 from rfl];exact dx ht (dx (a6 4) J (a6 _)) (by decide)));exact aM (e8 (ds:=v9.map sD) (aE (dh XD) (aE (dh XQ) (aE (dh Yc) be))) (show 3<=16777216 by decide)) (aM (aM (ve ns h) (aW 48) (lG _ _ (by decide) (by decide))) (aW 3) (kI _ _ (by decide))) (ei _ (getD_at (cE _ (by decide))) (du (cE _ (by decide)) (by decide)))
theorem WL{txt:List Nat}(ht:txt.length<=1000)(h:G 43=some (.d (jx ns)))(N:G 44=some (.d (.list ((fN ns).map nD))))(h0:G 0=some (.d (sD txt))):Sg W G f8 (.next (G.put 0 (.d (sD (txt++lP ns))))):=by
 have J:=B7 ns;refine CM h0 (aM (a:=sD ((iO ns).map λn=>dD n (lQ ns)).flatten) (b:=sD [k_ ns]) (sr (dh lU) yo (aE (d:=.list (((iO ns).map λn=>dD n (lQ ns)).map sD)) ?_ be) (yf (by exact aw J.2.2 (by decide)))) ?_ (iW _ _ (by exact dx J.2.2 (a6 1) (by decide)))) (A5 txt (lP ns) (by exact dx ht J.2.1 (by decide)))
 ·rw[br]
  refine fD (bs:=iO ns) (mk:=λn:Nat=>.one (nD n)) (h:=sD∘λn=>dD n (lQ ns)) ?_ (by rw[xo];decide) λn O=>⟨_,.one rfl,ia (aE (az rfl) (aE (aM (aM (ve ns (show(G.only [43]).put 18 _ 43=_ from h)) (aW 12) (lG _ _ (by decide) (by decide))) (aW 4) (kI _ _ (by decide))) be)) (Nc (BJ ns n O) (Cd ns))⟩;have:=iC (W:=W) (G:=G) (tg:=.name 18) (f:=ay aX (cH (aa 43) (bY (xk (.int 6))) bb bb) (aa 44)) (ds:=(iO ns).map nD) (by
   unfold iO;rw[dF];refine aM (iT (az h) (fT (aW 6)) dR dR ?_) (az N) (n5 (by rw[aQ,aQ,ez,j7,BK];decide));have:=qG (W:=W) (ds:=(gv ns).map nD) 6 (by rw[aQ,j7];decide);rwa[<-r_]at this) rfl
  rwa[br]at this
 ·exact ia (aE (aM (aW 64) (aM (aM (ve ns h) (aW 144) (lG _ _ (by decide) (by decide))) (aW 64) (kI _ _ (by decide))) (mv _ _)) be) (Ck (k_ ns) (by unfold k_;exact cK (QS (cE _ (by decide)) 64) (by decide)))
theorem WU{txt:List Nat}{n:Nat}(N:n<=3)(J:Nat->List Nat)(h0:J 0=txt)(R:∀j,pR (J j)=J (j+1))(hl:∀j,j<=3->(J j).length <=50000)(hs:n=fx ns):Sg W (Gl (GM ns txt)) f9 (.next (Gl (GM ns (J n)))):=by
 have hi:fc W (Gl (GM ns txt)) (.name 42) (bD cS (ab (aa 41) ag)) ((cF n).map λ(j:Nat)=>.one (.int (j:Int))):=oP (n:=n) (aE (az (by rw[hs];rfl)) be) (by exact aw N (by decide));have hlen:((cF n).map λ(j:Nat)=>Ai.one (.int (j:Int))).length =n:=by rw[aQ,eI]
 have:=yH (W:=W) (G:=Gl (GM ns txt)) (tg:=.name 42) (b:=ao (bj 0 (bK (bG [37] p6) (ab (aa 0) ag))) aC) (λr=>Gl (GM ns (J (n -r.length)))) hi (by rw[hlen,kH,h0]) (by rw[hlen];exact bQ N (by decide)) λa r hr=>by
  have hle:=hr.length_le;rw[hlen,dH]at hle;obtain⟨j,rfl⟩:∃j:Nat,a=.one (.int (j:Int)):=by
   have:=hr.subset (cj (a:=a) (l:=r));refine aG (dz.mp this) λj _ O=>?_;subst O;exact⟨j,rfl⟩
  refine⟨_,.one,Sg.to (G':=((Gl (GM ns (J (n -(Ai.one (.int (j:Int))::r).length)))).put 42 (.d (.int (j:Int)))).put 0 (.d (sD (J (n -r.length))))) (mz (fR (p:=.d _) (ia (aE (az rfl) be) ?_))) ?_⟩
  ·rw[show n -r.length=n -(Ai.one (.int (j:Int))::r).length +1 by exact(qd (PS hle)).symm,<-R]
   exact NS (hl _ (aw (iU ..) N))
  ·exact bt.mpr ⟨rfl,bt.mpr ⟨rfl,bt.mpr ⟨rfl,bt.mpr ⟨rfl,bt.mpr ⟨rfl,λ_ h=>absurd h a7⟩⟩⟩⟩⟩
 exact this
end
theorem qH(ns:List Int):fx ns<=3:=by unfold fx;have:o6 ns%3<3:=cE _ (by decide);exact aw (bS (gH ..)) this
theorem good0(a b:Nat):Good 0 (gq a b,[]):=⟨rfl,λc m=>by
 replace m:c∈gq a b:=m;unfold gq at m;simp only[bJ,a7,or_false]at m;rcases m with rfl|rfl|rfl|rfl<;>rfl,rfl,λ_ m=>absurd m a7⟩
theorem W3(F:aj)(st:St):f4 F st=some (.next,(F.put 46 (.ref st.length)).put 0 (.str (T [])),st++[.list []]):=by
 unfold f4;simp only[H7,eK,cT,lU,xQ,dJ,bz,bo];rw[if_pos (show([]:List AV).length <=sizeLine from cJ _)];simp only[bz,bo];rw[if_pos ⟨show 2<=sizeLine by rw[sizeLine_eq];decide,rfl⟩];rfl
theorem sq{f g:SM}{F:aj}{st:St}{P:Fl×aj×St->Prop}(h:Ok (f F st) λq=>q.1=.next /\Ok (g q.2.1 q.2.2) P):Ok (ao f g F st) P:=Ok.bind' (h.mono λq J=>by
 obtain⟨fl,F1,st1⟩:=q;obtain⟨z,h⟩:=J;cases(show fl=.next from z)
 exact h)
theorem jV{W:List Nat}{G G':Gm}{f N:SM}(h:Sg W G f (.next G')){F:aj}{st:St}(g:GR W G F st){P:Fl×aj×St->Prop}(k:∀F' st',aN [] st st'->GR W G' F' st'->Ok (N F' st') P):Ok (ao f N F st) P:=
 sq ((h F st g).mono λq J=>⟨J.2.1,k _ _ J.1 J.2.2⟩)
theorem EV(ns:List Int):Good 6 (nv (cv ns).1 (cv ns).2 ((gv ns).take 6) 0 (gq (cv ns).1 (cv ns).2,[])):=by
 have:∀(l:List Nat)(j:Nat)(m:Ms),j+l.length<=6->Good j m->Good (j+l.length) (nv (cv ns).1 (cv ns).2 l j m):=by
  intro l;induction l with
  |nil=>intro j m _ h;exact h
  |cons n l O=>
   intro j m J h;rw[dH]at J ⊢;rw[show j+(l.length+1)=j+1+l.length by exact hK j l.length 1];exact O (j+1) _ (by exact z8 J) (wF h (by exact rL J)).1
 have N:((gv ns).take 6).length =6:=by rw[iE,j7];rfl
 have:=this ((gv ns).take 6) 0 _ (by rw[N];decide) (good0 (cv ns).1 (cv ns).2);rwa[N]at this
theorem qD(ns:List Int):(eE ns).length =6/\∀r∈eE ns,(1<=r.core.length/\r.core.length<=9)/\Cl r.core:=⟨(EV ns).rows,λr m=>⟨(EV ns).core r m,SJ ns r m⟩⟩
theorem text_len(ns:List Int){j:Nat}(J:j<=3):(lW (l4 (eE ns)) (ir ns) j).length <=400:=by
 obtain⟨N,hr⟩:=qD ns;have:=Mf (l4 (eE ns)) (ir ns) (m:=27) (λp O=>(HP hr p O).2) j;have ht:=(H4 ns).2;have hl:(l4 (eE ns)).length =7:=by unfold l4;rw[aP,aQ,N];rfl
 rw[hl]at this;exact aw this (dx (Ro 7 (iR (iR J 27) 2)) ht (by decide))
theorem R_(D:ak)(ns:List Int)(hn:ns.length<=63):∃F1 st1,tz D (lZ ns) [(38,.val (.ref D))] [.tab []]=some (.next,F1,st1)/\st1[0]?=some (.tab [])/\GR [0] (Gl (pN ns)) F1 st1:=by
 have g0:GR [0] (Gl [(38,.v (.val (.ref D)))]) [(38,.val (.ref D))] [.tab []]:=by
  refine⟨λw m=>by rw[cx.mp m];decide,λj p e=>?_⟩;by_cases z:j=38
  ·rw[z]at e ⊢;cases e;exact rfl
  ·rw[Gl,eN,beq_false_of_ne z]at e;cases e
 have main:Ok (tz D (lZ ns) [(38,.val (.ref D))] [.tab []]) λq=>q.1=.next /\q.2.2[0]?=some (.tab [])/\GR [0] (Gl (pN ns)) q.2.1 q.2.2:=by
  obtain⟨h6,hr⟩:=qD ns;have hs:=qH ns;unfold tz;have h0:Sg [0] (Gl [(38,.v (.val (.ref D)))]) (f0 D (lZ ns)) (.next ((Gl [(38,.v (.val (.ref D)))]).put 43 (.d (jx ns)))):=fR (Uw hn rfl);refine jV h0 g0 λF1 st1 k1 g1=>?_;refine jV (Xk ns rfl) g1 λF2 bI k2 g2=>?_;refine jV (Xt ns rfl) g2 λF3 st3 k3 g3=>?_;refine fH (Ie (k:=48) g3 (Np (a:=(cv ns).1) (b:=(cv ns).2) rfl rfl) (show 4<=16777216 by decide)) λN xs e4 k4 r4=>?_;have hx:=Ss r4;subst hx;refine sq (Ok.of e4 ⟨rfl,?_⟩);have k5:aN [] st3 (N++[.list (bx (gq (cv ns).1 (cv ns).2))]):=k4.trans (.app _);have g5:=(g3.grow k5.any k4.len (by rw[aP];exact iJ _)).put (k:=48) (x:=.ref N.length) (p:=.v (.ref N.length)) rfl;have S:(N++[AO.list (bx (gq (cv ns).1 (cv ns).2))])[N.length]?=some (.list (bx (gq (cv ns).1 (cv ns).2))):=nf;generalize hst5:N++[AO.list (bx (gq (cv ns).1 (cv ns).2))]=J at k5 g5 S;refine sq (Ok.of (W3 _ _) ⟨rfl,?_⟩);have g6:=(((g5.grow (l:=J.length) (aN.app [.list []]) (a6 _) (by rw[aP];exact iJ _)).put (k:=46) (x:=.ref J.length) (p:=.v (.ref J.length)) rfl).put (k:=0) (x:=.str (T [])) (p:=.d (sD [])) (.str _)).to (l:=GA N.length J.length (fx ns) (cv ns).1 (cv ns).2 (jx ns) (i_ []))
   (bt.mpr ⟨rfl,bt.mpr ⟨rfl,bt.mpr ⟨rfl,bt.mpr ⟨rfl,bt.mpr ⟨rfl,bt.mpr ⟨rfl,bt.mpr ⟨rfl,λ_ h=>absurd h a7⟩⟩⟩⟩⟩⟩⟩)
  have U:N.length<J.length:=gn S;have k6:aN [] [.tab []] (J++[.list []]):=(((k1.trans k2).trans k3).trans k5).trans (.app _);have lc6:(J++[AO.list []])[N.length]?=some (.list (bx (gq (cv ns).1 (cv ns).2))):=(pv U).trans S;have lw6:(J++[AO.list []])[J.length]?=some (.list (bx (rwords (fx ns) []))):=nf;generalize J++[AO.list []]=st6 at g6 k6 lc6 lw6;generalize N.length=lc at*;generalize J.length=lw at*;have R:lw≠0:=jh (bQ (cJ _) U);have hlc0:lc≠0:=λz=>by have:=k6.get (show([AO.tab []]:St)[0]?=some (.tab [])from rfl);rw[<-z,lc6]at this;cases this
  have hi:fc [lw,lc,0] (Gl (GA lc lw (fx ns) (cv ns).1 (cv ns).2 (jx ns) (i_ []))) (.names [24,45]) (bD lV (ab (cH (aa 43) bb (bY (xk (.int 6))) bb) ag)) (((((gv ns).take 6).map nD).zipIdx 0).map λp=>.two (.int (p.2:Nat)) p.1):=by
   rw[wN];exact xr (aE (iT (az (k:=43) rfl) dR (fT (aW 6)) dR (yU 6 (by rw[aQ,j7];decide))) be)
  refine sq ?_;rw[Xa];refine Ok.bind' ((hi _ _ g6).mono λq hq=>?_);obtain⟨it,st7⟩:=q;obtain⟨k7,Y⟩:=hq;have t6:((gv ns).take 6).length =6:=by rw[iE,j7];rfl
  refine(Mw (V:=[lc,lw]) ⟨cj ..,cw _ (cj ..),rZ U⟩ (λx m=>by
   simp only[bJ,a7,or_false]at m ⊢;rcases m with rfl|rfl
   ·exact .inr (.inl rfl)
   ·exact .inl rfl) hs ((gv ns).take 6) 0 400 (gq (cv ns).1 (cv ns).2,[]) it _ st7 (by rw[t6];decide) (by rw[t6];decide) (good0 _ _) Y (g6.cZ k7) (k7.get lc6) (k7.get lw6)).mono λq hq=>?_
  obtain⟨fl,F8,O⟩:=q;refine yF hq λz k8 g8 lw8 _=>?_;refine⟨z,?_⟩;have k8':aN [lc,lw] [.tab []] O:=(k6.trans k7).any.trans k8;have tab8:O[0]?=some (.tab []):=k8'.cW (λm=>by simp only[bJ,a7,or_false]at m;rcases m with m|m;exact hlc0 m.symm;exact R m.symm) (show([AO.tab []]:St)[0]?=some (.tab [])from rfl);replace g8:GR [lw,lc,0] (Gl (GA lc lw (fx ns) (cv ns).1 (cv ns).2 (jx ns) (i_ (eE ns)))) F8 O:=g8;replace lw8:O[lw]?=some (.list (bx (iN ns))):=lw8;have a46:=g8.av (k:=46) (v:=.ref lw) rfl;have g9:=((g8.shrink (W':=[0]) λx m=>by rw[cx.mp m];exact cw _ (cw _ (cj ..))).vK (k:=46) (p:=.d (.list ((iN ns).map sD))) a46 (.list (λm=>R (cx.mp m)) lw8 (Ih _)));have hrl:=AY λr m=>(hr r m).1;rw[h6]at hrl;have hz:=(Dd ns).2;have hl7:(i_ (eE ns)++([46,10,34,34]++zN ns)).length <=1000:=by rw[aP,aP,show[46,10,34,34].length =4 from rfl];exact dx hrl (dx (a6 4) hz (a6 _)) (by decide)
  refine jV (WT ns rfl) g9 λF10 st10 k10 g10=>?_;refine jV (W1 ns (by exact aw hrl (by decide)) rfl rfl) g10 λF11 st11 k11 g11=>?_;refine jV (WL ns hl7 rfl rfl rfl) g11 λF12 st12 k12 g12=>?_;have et:i_ (eE ns)++([46,10,34,34]++zN ns)++lP ns=lW (l4 (eE ns)) (ir ns) 0:=by
   unfold lW ir;rw[if_pos rfl,LL];simp only[dm];rfl
  rw[et]at g12;have g13:=g12.to (l:=GM ns (lW (l4 (eE ns)) (ir ns) 0)) (bt.mpr ⟨rfl,bt.mpr ⟨rfl,bt.mpr ⟨rfl,bt.mpr ⟨rfl,bt.mpr ⟨rfl,λ_ h=>absurd h a7⟩⟩⟩⟩⟩);refine jV (WU ns hs (lW (l4 (eE ns)) (ir ns)) rfl (UB _ _ (λp hp=>(HP hr p hp).1) (H4 ns).1) (λj hj=>aw (text_len ns hj) (by decide)) rfl) g13 λF14 st14 k14 g14=>?_;exact⟨rfl,(((k10.trans k11).trans k12).trans k14).get tab8,g14.to (l:=pN ns) (bt.mpr ⟨rfl,bt.mpr ⟨rfl,bt.mpr ⟨rfl,bt.mpr ⟨rfl,bt.mpr ⟨rfl,λ_ h=>absurd h a7⟩⟩⟩⟩⟩)⟩
 refine jl main.get λzq0 e z t g=>?_;obtain⟨fl,F1,st1⟩:=zq0;cases(show fl=.next from z)
 exact⟨F1,st1,e,t,g⟩
noncomputable def d3(W V:List Nat)(G:Gm)(I I':St->Prop)(f:EM)(d:aB):Prop:=∀(F:aj)(st:St),GR W G F st->I st->Ok (f F st) λq=>aN V st q.2/\RV W q.2 q.1 d/\I' q.2
noncomputable def gQ(I:St->Prop):Prop:=∀{a b:St},aN [] a b->I a->I b
section
variable{W V:List Nat}{G:Gm}{I I1 I2:St->Prop}
theorem uW{f:EM}{d:aB}(h:bh W G f d)(s:gQ I):d3 W V G I I f d:=λF st g i=>(h F st g).mono λq J=>⟨J.1.any,J.2,s J.1 i⟩
theorem yC{o:AV->AV->St->Option (AV×St)}{f g:EM}{a b r:aB}(R:∀x∈V,x∈W)(s:gQ I2)(hf:d3 W V G I I1 f a)(hg:d3 W V G I1 I2 g b)(ho:cO W o a b r):d3 W V G I I2 (ay o f g) r:=λF st O i=>
 Ok.bind' ((hf F st O i).mono λp J=>Ok.bind' ((hg F p.2 (O.keep (J.1.sub R)) J.2.2).mono λq N=>(ho _ _ _ (O.bd.keep (J.1.trans N.1)) (RV.keep (N.1.sub R) J.2.1) N.2.1).mono λc hc=>⟨(J.1.trans N.1).trans hc.1.any,hc.2,s hc.1 N.2.2⟩))
end
structure Ls where
 q:List (List Nat)
 r:List Nat
 ln:Nat
noncomputable def LI(Z:Pl)(s:Ls)(st:St):Prop:=∃p,p<=20000/\Lx Z st p s.ln/\Z.X.drop p=s.r/\st[Z.pb]?=some (.list (bx s.q))
noncomputable abbrev LV(Z:Pl):List Nat:=[Z.k,Z.d,Z.pb]
theorem Dp(Z:Pl):Z.d∈LV Z:=.tail _ (.head _)
theorem DC(Z:Pl):Z.k∈LV Z:=.head _
theorem Dx(Z:Pl):Z.pb∈LV Z:=.tail _ (.tail _ (.head _))
theorem yq(Z:Pl)(s:Ls):gQ (LI Z s):=λk ⟨p,a,b,c,d⟩=>⟨p,a,⟨k.get b.inst,k.get b.dict,b.pl.imp λps h=>⟨h.1,k.get h.2⟩⟩,c,k.get d⟩
noncomputable def Tok(Z:Pl)(s:Ls)(t:List Nat)(s':Ls):Prop:=∀st,LI Z s st->∃st',bG [27] (gt Z) [.ref Z.lx] st=some (.str (T t),st')/\LI Z s' st'/\aN (LV Z) st st'
theorem RU{Z:Pl}{t:List Nat}{q:List (List Nat)}{r:List Nat}{ln:Nat}(h:q.length<=10000)(hl:Z.pb≠Z.lx):Tok Z ⟨t::q,r,ln⟩ t ⟨q,r,ln⟩:=λst ⟨p,a,b,c,d⟩=>by
 have e:=Ve b (.str (T t)) (bx q) d (by unfold bx;rw[aQ];exact h);refine⟨_,e,⟨p,a,⟨?_,?_,?_⟩,c,?_⟩,lC (cw _ (cw _ (cj ..)))⟩
 ·rw[get_set,if_neg (λz=>hl z.symm)];exact b.inst
 ·rw[get_set,if_neg (λz=>Z.pd z.symm)];exact b.dict
 ·exact b.pl.imp λps h=>⟨h.1,by rw[get_set,if_neg (λz=>Z.pk z.symm)];exact h.2⟩
 ·rw[get_set,if_pos rfl,if_pos (gn d)]
theorem xd{Z:Pl}{its:List (Bool×Nat)}{txt w rest:List Nat}{ln:Nat}(N:Z.X.length<=10000)(O:Form its txt)(hl:its.length<300)(hwl:w.length<400)(J:∀x∈w,x∈gU)(hr:rest≠[]):Tok Z ⟨[],w++(txt++rest),ln⟩ (gi its) ⟨[],rest,ln+w.count 10⟩:=λst ⟨p,a,b,c,d⟩=>by
 refine fF (S_ b d N its txt w rest O hl hwl J c) λst' p' e L k hd=>?_;have R:p'<=20000:=by
  by_cases q:p'<=20000
  ·exact q
  ·exact absurd (by rw[<-hd,mj (by exact aw N (aw (by decide) (cq (ux q))))]) hr
 exact⟨st',e,⟨p',R,L,hd,k.cW (by simp[Z.pk,Z.pd]) d⟩,k.sub λx m=>by
  rcases bJ.mp m with m|m
  ·rw[m];exact cj ..
  ·rw[cx.mp m];exact cw _ (cj ..)⟩
theorem TH{Z:Pl}{ln:Nat}(J:Z.X.length<=10000):∀st,(∃p,p<=20000/\Lx Z st p ln/\Z.X.drop p=[]/\st[Z.pb]?=some (.list []))->∃st',bG [27] (gt Z) [.ref Z.lx] st=some (.str (T []),st')/\aN (LV Z) st st':=λst ⟨p,a,b,c,d⟩=>by
 refine di (Wc b d J (by exact j0 a) c) λst' e L k=>?_;exact⟨st',e,k.sub λx m=>by
  rcases bJ.mp m with m|m
  ·rw[m];exact cj ..
  ·rw[cx.mp m];exact cw _ (cj ..)⟩
inductive mL(Z:Pl):Ls->List (List Nat)->Ls->Prop
 |nil {s:Ls}:mL Z s [] s
 |cons {s s1 s2:Ls} {t:List Nat} {ts:List (List Nat)}:Tok Z s t s1->mL Z s1 ts s2->mL Z s (t::ts) s2
noncomputable def ki(Z:Pl):EM:=bU (f_ 69 40) (bG [27] (gt Z)) (aa 53) ag
section
variable{W:List Nat}{G:Gm}{Z:Pl}
theorem V_{s s':Ls}{t:List Nat}(h:Tok Z s t s')(J:G 53=some (.v (.ref Z.lx))):d3 W (LV Z) G (LI Z s) (LI Z s') (ki Z) (sD t):=λF st g i=>by
 refine di (h st i) λst' e i' k=>?_;refine di i λp _ L _=>?_;have N:f_ 69 40 (.ref Z.lx) st=some [.ref Z.lx]:=t_ (sT L 40 (by decide));refine Ok.of (a:=(.str (T t),st')) ?_ ⟨k,.str _,i'⟩;unfold ki;simp only[iI,bP,g.av J,bz,bo,N,dJ,gj,e]
theorem MF(U:∀x∈LV Z,x∈W)(O:G 53=some (.v (.ref Z.lx)))(J:G 42=none):∀{as:List aB}{ts:List (List Nat)}{s s':Ls}{fuel:Nat}{it:It}{acc:List AV}{ad:List aB}{F:aj}{st:St},as.length=ts.length->as.length<fuel->ad.length+as.length<=10000->mL Z s ts s'->Yl W (.name 42) (as.map .one) st it->GR W G F st->aR W st acc ad->LI Z s st->
 Ok (jO (.name 42) bw (a_ (ki Z)) fuel it acc F st) λq=>aN (LV Z) st q.2.2/\aR W q.2.2 q.1 (ad++ts.map sD)/\LI Z s' q.2.2:=by
 intro as;induction as with
 |nil=>
  intro ts s s' fuel it acc ad F st he hf N ht Y g r i;cases ht with
  |nil=>
   cases fuel with
   |zero=>exact absurd hf (gk _)
   |succ fuel=>
    show Ok (if(b7.name 42).fits it=true then(it.next st).bind _ else none) _;rw[if_pos Y.1,Y.2 st .rfl'];exact⟨.rfl',by rw[fS,gj];exact r,i⟩
  |cons=>cases he
 |cons a as ih=>
  intro ts s s' fuel it acc ad F st he hf N ht Y g r i;cases ht with
  |nil=>cases he
  |cons h1 h2=>
   rename_i s1 t ts;cases fuel with
   |zero=>exact absurd hf (gk _)
   |succ fuel=>
    refine fH (Y.2 st .rfl') λitem gT hn hs Y'=>?_;rw[dH]at N hf;show Ok (if(b7.name 42).fits it=true then(it.next st).bind _ else none) _;rw[if_pos Y.1,hn];show Ok (((b7.name 42).bind item F st).bind _) _;refine Ok.bind' (((gS.one (G:=G) J).ok hs g).mono λF1 g1=>?_);have g2:=g1.le (gS.one (k:=42) (d:=a) J).le;show Ok ((a_ (ki Z) acc F1 st).bind _) _;refine Ok.bind' (Ok.bind' ((V_ h1 O F1 st g2 i).mono λe h=>?_));show Ok (if acc.length<=sizeLine then some (acc++[e.1],F1,e.2)else none) _;rw[if_pos (by rw[r.len,sizeLine_eq];exact aw (cq (rL N)) (by decide))];refine dc h λk re i1=>?_;have R:aN W st e.2:=k.sub U;refine(ih (fuel:=fuel) (it:=gT) (acc:=acc++[e.1]) (ad:=ad++[sD t]) (F:=F1) (st:=e.2) (uw he) (mZ hf) (by rw[aP,gZ];exact z8 N) h2 (Y'.keep R) (g2.keep R) ((aR.keep R r).app (.cons re .nil)) i1).mono λq S=>⟨k.trans S.1,?_,S.2.2⟩;have:=S.2.1;rwa[dm]at this
theorem xy{fv:List Nat}{fi}{as:List aB}{ts:List (List Nat)}{s s':Ls}(U:∀x∈LV Z,x∈W)(O:G 53=some (.v (.ref Z.lx)))(iQ:fv.contains 53=true)(R:fv.contains 42=false)(hi:fc W G (.name 42) fi (as.map .one))(he:as.length=ts.length)(hl:as.length<400)(ht:mL Z s ts s'):
 d3 W (LV Z) G (LI Z s) (LI Z s') (bl fv fi (.name 42) bw (a_ (ki Z)) 400) (.list (ts.map sD)):=λF st S i=>
 Ok.bind' ((hi F st S).mono λp J=>Ok.fJ ((MF (G:=G.only fv) U (by rw[Gm.only,if_pos iQ];exact O) (by rw[Gm.only,R];rfl) he hl (by exact aw (bS (hH _)) (cq (du hl (by decide)))) ht J.2 ((S.cZ J.1).only fv) .nil (yq Z s J.1 i)).mono λq N=>
  ⟨(J.1.any.trans N.1).trans (.app _),j_ (S.bd.keep (J.1.any.trans N.1)) N.2.1,yq Z s' (.app _) N.2.2⟩))
end
theorem xB:∀{l:List (List Nat)},(∀t∈l,qr (T t)=true)->eA (l.map sD)=true
 |[],_=>by rw[fS,eA]
 |a::l,h=>by rw[bX,eA,ky,h a (cj ..),xB λt m=>h t (cw _ m)];rfl
theorem Ar:∀l:List (List Nat),dW (l.map sD)=0:=by
 intro l;induction l with
 |nil=>
  rw[fS,dW]
 |cons a l J=>
  rw[bX,dW,iF,J];rfl
theorem wk{l:List (List Nat)}(h:∀t∈l,qr (T t)=true):jE (.list (l.map sD))=true/\(fm (l.map sD)).depth <=4:=by
 have e:(fm (l.map sD)).depth =1:=by rw[iF,Ar]
 refine⟨?_,by rw[e];decide⟩;unfold jE;rw[ky,xB h,e];rfl
theorem Bi:∀a b:List (List Nat),jY (a.map sD) (b.map sD)=(a==b)
 |[],[]=>by rw[fS,jY];rfl
 |[],b::bs=>by rw[fS,bX,jY];rfl
 |a::as,[]=>by rw[fS,bX,jY];rfl
 |a::as,b::bs=>by
  rw[bX,bX,jY,c6,CU,Bi as bs];rfl
theorem ye{W:List Nat}{a:List (List Nat)}(h:∀t∈a,qr (T t)=true):cO W c5 (.list (a.map sD)) (.list (a.map sD)) (.bool false):=by
 have:=yp (W:=W) (a:=.list (a.map sD)) (b:=.list (a.map sD)) ⟨(wk h).2,(wk h).2⟩ ⟨(wk h).1,(wk h).1⟩ (.inl ⟨_,rfl⟩);rwa[c6,Bi,beq_self_eq_true]at this
theorem Pa(a b:List (Bool×Nat)):gd (a++b)=gd a++gd b:=by unfold gd;rw[dF,qe]
theorem RO(a b:List (Bool×Nat)):gi (a++b)=gi a++gi b:=by unfold gi;rw[dF]
theorem EE(n:Nat):gd (bZ n (false,46))=bZ n 46:=by
 induction n with
 |zero=>rfl
 |succ n J=>rw[sf,p7,J];rfl
theorem Gv(n:Nat):gi (bZ n (false,46))=bZ n 46:=by unfold gi;simp
noncomputable def jw(set:List Nat)(x:List Nat):List (Bool×Nat):=x.map λc=>(decide (c∈set),c)
theorem Az(set:List Nat):∀x:List Nat,gd (jw set x)=(x.map (dT set)).flatten :=by
 intro x;induction x with
 |nil=>
  exact rfl
 |cons c x J=>
  unfold jw;rw[bX,p7,bX,gI];refine congr (congrArg _ ?_) (J);unfold dT;by_cases h:c∈set
  ·rw[if_pos h];exact if_pos (decide_eq_true h)
  ·rw[if_neg h];exact if_neg (λe=>h (of_decide_eq_true e))
theorem HG(set:List Nat)(x:List Nat):gi (jw set x)=x:=by
 unfold gi jw;rw[br];exact List.map_id x
noncomputable def lq(c:Nat):Prop:=c≠10/\c≠9/\c≠13
noncomputable def CG(its:List (Bool×Nat)):Prop:=∀it∈its,it.2≠10/\(it.1=false->it.2≠92/\it.2∉gU)
theorem Iy{c:Nat}(h:lq c)(tM:c≠32):c∉gU:=λm=>by
 unfold gU at m;simp only[bJ,a7,or_false]at m;rcases m with m|m|m|m
 ·exact h.1 m
 ·exact h.2.1 m
 ·exact h.2.2 m
 ·exact tM m
theorem Pe{x:List Nat}(h:∀c∈x,lq c):CG (jw [92,32] x):=λit m=>by
 refine aG (dz.mp m) λc hc J=>?_;subst J;have:=h c hc;refine⟨this.1,λe=>?_⟩;have N:c∉[92,32]:=of_decide_eq_false e;simp only[bJ,a7,or_false,not_or]at N;exact⟨N.1,Iy this N.2⟩
theorem Ex{its:List (Bool×Nat)}(h:CG its)(J:∃i is,its=i::is/\(i.1=false->i.2≠34))(j:Nat):∃txt lo,Form its txt/\(gd its++kb.getD (j%3) [])++[13,10]=txt++lo/\(∀x∈lo,x∈gU)/\lo.count 10=1/\lo.length<=3:=
 three (P:=λi=>∃txt lo,Form its txt/\(gd its++kb.getD i [])++[13,10]=txt++lo/\(∀x∈lo,x∈gU)/\lo.count 10=1/\lo.length<=3) j
  ⟨_,[10],.inr ⟨13,rfl,.inr (.inl rfl),h,J⟩,by rw[dm,dm];rfl,by decide,by decide,by decide⟩
  ⟨_,[13,10],.inr ⟨9,rfl,.inl rfl,h,J⟩,by rw[dm,dm];rfl,by decide,by decide,by decide⟩
  ⟨_,[13,10],.inr ⟨32,rfl,.inr (.inr rfl),h,J⟩,by rw[dm,dm];rfl,by decide,by decide,by decide⟩
noncomputable def Co(x:List Nat):Prop:=x≠[]/\x.headD 0≠46/\∀c∈x,lq c
theorem Fu{j:Nat}{b:List Nat}(h:b.headD 0≠46):fu j b=b:=by
 unfold fu;split
 ·rename_i r;exact absurd rfl h
 ·rfl
theorem EA(j:Nat)(r:List Nat):fu j (46::r)=bZ j 46++46::r:=rfl
theorem Ey{a b:List Nat}(h:a≠[]):(a++b).headD 0=a.headD 0:=by
 cases a with
 |nil=>exact absurd rfl h
 |cons x a=>rfl
theorem mo:lq 46:=⟨by decide,by decide,by decide⟩
theorem Oc(r:Rw)(hc:Co r.core)(hl:r.core.length<=9)(cC:Nat)(hs:cC<=3):∃its txt lo,Form its txt/\fu cC r.line++[13,10]=txt++lo/\gi its=r.word cC/\(∀x∈lo,x∈gU)/\lo.count 10=1/\its.length<300/\lo.length<=3:=by
 have hd:=r.sH;have hb:∀c∈r.body,lq c:=λc m=>by
  rcases eh.mp m with m|m
  ·rw[(o3.mp m).2];exact mo
  ·exact hc.2.2 c m
 have O:r.body.length<=12:=by unfold Rw.body;rw[aP,jD];exact fV hd hl
 by_cases k1:r.kind=1
 ·have e0:jy r.body r.kind=34::(gd (jw [34,92] r.body)++[34]):=by
   rw[Az];unfold jy;rw[if_pos k1];rfl
  have hw:r.word cC=r.body:=by
   unfold Rw.word Rw.up Rw.body;rw[if_neg (λz=>by rw[k1]at z;cases z.2)]
  refine⟨jw [34,92] r.body,_,kb.getD (r.n/192%3) []++[13,10],.inl ⟨rfl,λit m=>?_⟩,?_,(HG _ _).trans hw.symm,?_,?_,?_,?_⟩
  ·refine aG (dz.mp m) λc hc' zq2=>?_;subst zq2
   refine⟨(hb c hc').1,λe=>?_⟩;have R:c∉[34,92]:=of_decide_eq_false e;simp only[bJ,a7,or_false,not_or]at R;exact⟨R.2,R.1⟩
  ·unfold Rw.line
   rw[e0,Fu (by show(34:Nat)≠46;decide),dm]
  ·exact three (P:=λi=>∀x∈kb.getD i []++[13,10],x∈gU) _ (by decide) (by decide) (by decide)
  ·exact three (P:=λi=>(kb.getD i []++[13,10]).count 10=1) _ (by decide) (by decide) (by decide)
  ·unfold jw;rw[aQ];exact bQ O (by decide)
  ·exact three (P:=λi=>(kb.getD i []++[13,10]).length <=3) _ (by decide) (by decide) (by decide)
 ·
  refine mN (rR (l:=r.body) (λe=>hc.1 (wX.mp e).2)) λc x U=>?_;have S:∀d∈c::x,lq d:=U▸hb;have key:∃t:Bool,jy r.body r.kind=gd ((t,c)::jw [92,32] x)/\(t=false->c≠34/\c≠92/\c≠32)/\(c=46->r.kind≠2->t=false)/\(r.kind=2->t=true):=by
   unfold jy;rw[if_neg k1,U];by_cases q:r.kind=2\/c=34
   ·refine⟨true,?_,λe=>absurd e (by decide),λe n=>absurd q (by rw[e];exactλz=>z.elim n (by decide)),λ_=>rfl⟩
    rw[if_pos (show r.kind=2\/(c::x).headD 0=34 from q),p7,Az];rfl
   ·refine⟨decide (c∈[92,32]),?_,λe=>?_,λe n=>by rw[e];decide,λe=>absurd (.inl e) q⟩
    ·rw[if_neg (show¬(r.kind=2\/(c::x).headD 0=34)from q)]
     exact(Az [92,32] (c::x)).symm
    ·have R:c∉[92,32]:=of_decide_eq_false e
     simp only[bJ,a7,or_false,not_or]at R;exact⟨λz=>q (.inr z),R.1,R.2⟩
  refine jl key λt e0 ht Y ht2=>?_;have N:CG ((t,c)::jw [92,32] x):=bt.mpr ⟨⟨(S c (cj ..)).1,λe=>⟨(ht e).2.1,Iy (S c (cj ..)) (ht e).2.2⟩⟩,Pe λd m=>S d (cw _ m)⟩;have hch:gi ((t,c)::jw [92,32] x)=r.body:=by rw[HE,HG,U]
  have hxl:x.length<=11:=by rw[U]at O;exact AJ O
  by_cases J:0<r.c9/\r.kind=0
  ·have h46:c=46:=by
    have:=congrArg (λl:List Nat=>l.headD 0) U;unfold Rw.body at this;rw[Ey (λe=>by have:=congrArg mX e;rw[jD,nI]at this;exact absurd this (jh J.1))]at this;obtain⟨m,hm⟩:∃m,r.c9=m+1:=⟨r.c9 -1,by exact AA J.1⟩;rw[hm]at this;exact this.symm
   have htf:t=false:=Y h46 (by rw[J.2];decide);subst h46;subst htf;obtain⟨txt,lo,a1,a2,a3,a4,a5⟩:=Ex (its:=bZ cC (false,46)++((false,46)::jw [92,32] x)) (λit m=>by
    rcases eh.mp m with m|m
    ·rw[(o3.mp m).2];exact⟨by decide,λ_=>⟨by decide,by decide⟩⟩
    ·exact N it m) (by
     cases cC with
     |zero=>exact⟨_,_,rfl,λ_=>by decide⟩
     |succ s=>exact⟨(false,46),_,rfl,λ_=>by decide⟩) (r.n/192)
   refine⟨_,txt,lo,a1,?_,?_,a3,a4,?_,a5⟩
   ·rw[<-a2]
    refine congrArg (·++[13,10]) ?_;unfold Rw.line;rw[e0,Pa,EE,p7];show fu cC (46::(gd (jw [92,32] x)++kb.getD (r.n/192%3) []))=bZ cC 46++(46::gd (jw [92,32] x))++kb.getD (r.n/192%3) [];rw[EA,dm];rfl
   ·rw[RO,Gv,hch]
    unfold Rw.word Rw.up Rw.body;rw[if_pos J,<-dm,List.replicate_append_replicate,gH]
   ·unfold jw
    rw[aP,jD,dH,aQ];exact bQ (fV hs (fj hxl)) (by decide)
  ·refine ku (Ex N ⟨_,_,rfl,λe=>(ht e).1⟩ (r.n/192)) λtxt lo a1 a2 a3 a4 a5=>?_
   refine⟨_,txt,lo,a1,?_,?_,a3,a4,?_,a5⟩
   ·rw[<-a2]
    refine congrArg (·++[13,10]) ?_;unfold Rw.line;rw[e0,p7];refine Fu ?_;cases t with
    |true=>show(92:Nat)≠46;decide
    |false=>
     show c≠46;intro e;by_cases hd0:0<r.c9
     ·have hk0:r.kind≠0:=λz=>J ⟨hd0,z⟩
      have:r.kind<3:=cE _ (by decide)
      have:r.kind=2:=by exact(yv this).elim (λe=>absurd e hk0) λq=>q.elim (λe=>absurd e k1) id
      exact absurd (ht2 this) (by decide)
     ·have hz:r.c9=0:=by exact si (fC hd0)
      have:=congrArg (λl:List Nat=>l.headD 0) U;unfold Rw.body at this;rw[hz,List.replicate_zero,d_]at this;exact hc.2.1 (this.trans e)
   ·rw[hch]
    unfold Rw.word Rw.up Rw.body;rw[if_neg J]
   ·unfold jw
    rw[dH,aQ];exact bQ (fj hxl) (by decide)
theorem yB{f g:SM}{F F1:aj}{st st1:St}(h:f F st=some (.next,F1,st1)):ao f g F st=g F1 st1:=by
 rw[cM,h];rfl
theorem TL(sA:ak)(st:St)(n:Nat)(hl:st.length=n):yI 69 (bG [27,28] ua) [.val (.ref sA)] st=some (.ref (n+1),st++[.dict (LD sA 1 (n+2)),.inst 69 n,.list []]):=by
 have N:fG 27 [(27,AV.ref (n+1)),(28,AV.val (.ref sA))]=some (.ref (n+1)):=rfl;have O:fG 28 [(27,AV.ref (n+1)),(28,AV.val (.ref sA))]=some (.val (.ref sA)):=rfl;have J:∀(m:List (Nat×AV))(k:Nat)(v:AV)(ex:St),m.length<=10->setOf 69 (.ref (n+1)) k v (st++.dict m::.inst 69 n::ex)=some (st++.dict (aj.put m k v)::.inst 69 n::ex):=by
  intro m k v ex hm;have g1:(st++AO.dict m::AO.inst 69 n::ex)[n+1]?=some (.inst 69 n):=by
   rw[jj (by rw[hl];exact oR _),hl,A0];rfl
  have g2:(st++AO.dict m::AO.inst 69 n::ex)[n]?=some (.dict m):=by
   rw[jj (by exact bS hl),hl,kH];rfl
  rw[IM g1 g2 (by exact aw hm (dg ..)),QD _ _ (by exact bS hl),hl,kH];rfl
 have R:st++[.dict []]++[.inst 69 st.length]=st++AO.dict []::AO.inst 69 n::[]:=by rw[hl];simp
 unfold yI;rw[R,hl,so _ _ _ _ rfl];have s1:kP 69 32 (aa 27) (xk (.int 1)) [(27,AV.ref (n+1)),(28,AV.val (.ref sA))] (st++AO.dict []::AO.inst 69 n::[])=some (.next,[(27,AV.ref (n+1)),(28,AV.val (.ref sA))],st++AO.dict [(32,.int 1)]::AO.inst 69 n::[]):=by
  unfold kP;simp only[cT,bP,N,bo,bz,J _ _ _ _ (by decide:([]:List (Nat×AV)).length <=10)];rfl
 have s2:kP 69 31 (aa 27) (aa 28) [(27,AV.ref (n+1)),(28,AV.val (.ref sA))] (st++AO.dict [(32,.int 1)]::AO.inst 69 n::[])=some (.next,[(27,AV.ref (n+1)),(28,AV.val (.ref sA))],st++AO.dict [(32,.int 1),(31,.val (.ref sA))]::AO.inst 69 n::[]):=by
  unfold kP;simp only[cT,bP,N,O,bo,bz];rw[J _ _ _ _ (by simp)];rfl
 have s3:kP 69 30 (aa 27) (xk (.str ("\x0a\x09\x0d ":ae))) [(27,AV.ref (n+1)),(28,AV.val (.ref sA))] (st++AO.dict [(32,.int 1),(31,.val (.ref sA))]::AO.inst 69 n::[])=some (.next,[(27,AV.ref (n+1)),(28,AV.val (.ref sA))],st++AO.dict [(32,.int 1),(31,.val (.ref sA)),(30,.str (T [10,9,13,32]))]::AO.inst 69 n::[]):=by
  unfold kP;simp only[cT,bP,N,X7,bo,bz];rw[J _ _ _ _ (by simp)];rfl
 have s4:kP 69 29 (aa 27) (bC ag) [(27,AV.ref (n+1)),(28,AV.val (.ref sA))] (st++AO.dict [(32,.int 1),(31,.val (.ref sA)),(30,.str (T [10,9,13,32]))]::AO.inst 69 n::[])=some (.next,[(27,AV.ref (n+1)),(28,AV.val (.ref sA))],st++AO.dict (LD sA 1 (n+2))::AO.inst 69 n::[.list []]):=by
  unfold kP;simp only[xQ,dJ,bP,N,bo,bz];rw[if_pos (by rw[sizeLine_eq];simp)];simp only[bo];have e:(st++AO.dict [(32,.int 1),(31,.val (.ref sA)),(30,.str (T [10,9,13,32]))]::AO.inst 69 n::[])++[AO.list []]=st++AO.dict [(32,.int 1),(31,.val (.ref sA)),(30,.str (T [10,9,13,32]))]::AO.inst 69 n::[AO.list []]:=by simp
  have hlen:(st++AO.dict [(32,.int 1),(31,.val (.ref sA)),(30,.str (T [10,9,13,32]))]::AO.inst 69 n::[]).length =n+2:=by simp[hl]
  rw[e,J _ _ _ _ (by simp),hlen];rfl
 simp only[ua,kC,mY];rw[yB s1,yB s2,yB s3,yB s4];rfl
noncomputable def Dj(sA:ak)(X:List Nat)(k:Nat):Pl:=⟨sA,X,k,k+1,k+2,k+3,by lia,by lia,by lia,by lia,by lia⟩
theorem Um(sA:ak)(X:List Nat)(k:Nat){F:aj}{st:St}(hl:st.length=k+1)(hk:st[k]?=some (.list [.int 0]))(h3:F.lookup 3=some (.val (.ref sA))):
 ∃st',zC F st=some (.next,F.put 53 (.ref (k+2)),st')/\LI (Dj sA X k) ⟨[],X,1⟩ st'/\aN [] st st'/\st'.length=k+4:=by
 refine⟨st++[.dict (LD sA 1 (k+3)),.inst 69 (k+1),.list []],?_,⟨0,cJ _,⟨?_,?_,[],cJ _,?_⟩,rfl,?_⟩,.app _,by rw[aP,hl];rfl⟩
 ·unfold zC
  simp only[gF,j5,eK,bP,h3,dJ,bz,bo];rw[TL sA st (k+1) hl];rfl
 ·show(st++[AO.dict (LD sA 1 (k+3)),.inst 69 (k+1),.list []])[k+2]?=_
  rw[jj (by exact aw (bS hl) (fW (by decide) k)),hl,show k+2 -(k+1)=1 by exact Oa k 2 1];rfl
 ·show(st++[AO.dict (LD sA 1 (k+3)),.inst 69 (k+1),.list []])[k+1]?=_
  rw[jj (by exact bS hl),hl,kH];rfl
 ·show(st++[AO.dict (LD sA 1 (k+3)),.inst 69 (k+1),.list []])[k]?=_
  rw[pv (by exact bS hl.symm),hk];rfl
 ·show(st++[AO.dict (LD sA 1 (k+3)),.inst 69 (k+1),.list []])[k+3]?=_
  rw[jj (by exact aw (bS hl) (fW (by decide) k)),hl,show k+3 -(k+1)=2 by exact Oa k 3 1];rfl
theorem Mg{Z:Pl}(R:Z.X.length<=10000){cC:Nat}(hs:cC<=3):∀(rows:List Rw)(lo rest:List Nat)(ln:Nat),(∀r∈rows,Co r.core/\r.core.length<=9)->(∀x∈lo,x∈gU)->lo.length<=3->rest≠[]->
 ∃J N,mL Z ⟨[],lo++((rows.map λr=>fu cC r.line++[13,10]).flatten ++rest),ln⟩ (rows.map (Rw.word cC)) ⟨[],J++rest,N⟩/\(∀x∈J,x∈gU)/\J.length<=3/\N+J.count 10=ln+lo.count 10+rows.length:=by
 intro rows;induction rows with
 |nil=>intro lo rest ln _ h1 h2 _;exact⟨lo,ln,.nil,h1,h2,rfl⟩
 |cons r rows S=>
  intro lo rest ln hr h1 h2 h3;obtain⟨hc,hl⟩:=hr r (cj ..);refine jZ (Oc r hc hl cC hs) λits txt l1 a b c O=>?_;refine yT O λd e f g=>?_;obtain⟨J,N,U,g1,g2,g3⟩:=S l1 rest (ln+lo.count 10) (λx m=>hr x (cw _ m)) d g h3;refine⟨J,N,?_,g1,g2,by rw[g3,e,dH];lia⟩;have Y:lo++(((r::rows).map λr=>fu cC r.line++[13,10]).flatten ++rest)=lo++(txt++(l1++((rows.map λr=>fu cC r.line++[13,10]).flatten ++rest))):=by
   rw[bX,gI,b];simp only[dm]
  rw[Y,bX,<-c];exact .cons (xd R a f (by exact bQ h2 (by decide)) h1 (by intro z;have:=(wX.mp z).1;rw[this]at e;cases e)) U
theorem UE(ns:List Int):∃its,Form its (zN ns)/\gi its=[122]/\its.length=1:=
 three (P:=λi=>∃its,Form its (v9.getD i [])/\gi its=[122]/\its.length=1) _
  ⟨[(false,122)],.inr ⟨32,rfl,.inr (.inr rfl),by decide,_,_,rfl,λ_=>by decide⟩,rfl,rfl⟩
  ⟨[(false,122)],.inr ⟨9,rfl,.inl rfl,by decide,_,_,rfl,λ_=>by decide⟩,rfl,rfl⟩
  ⟨[(false,122)],.inl ⟨rfl,by decide⟩,rfl,rfl⟩
theorem MR(n:Nat):Form (bZ (n+1) (false,46)) (bZ (n+1) 46++[13]):=by
 refine .inr ⟨13,by rw[EE],.inr (.inl rfl),λit m=>?_,(false,46),bZ n (false,46),rfl,λ_=>by decide⟩;rw[(o3.mp m).2];exact⟨by decide,λ_=>⟨by decide,by decide⟩⟩
theorem Cb(ns:List Int):lP ns≠[]:=λe=>absurd (wX.mp e).2 (qx _ _)
theorem TB(ns:List Int):(lq (cv ns).1/\(cv ns).1≠46)/\lq (cv ns).2/\(cv ns).2≠46:=by
 have all:∀p∈qM,((p.1≠10/\p.1≠9/\p.1≠13)/\p.1≠46)/\(p.2≠10/\p.2≠9/\p.2≠13)/\p.2≠46:=by decide
 exact all _ (getD_mem (cE _ (by decide)))
noncomputable def Du(x:List Nat):Prop:=x.headD 0≠46/\∀c∈x,lq c
theorem BN(ns:List Int):∀r∈eE ns,Co r.core/\r.core.length<=9:=λr m=>by
 obtain⟨O,hr⟩:=qD ns;obtain⟨⟨a1,a2⟩,b1,b2⟩:=TB ns;have h0:Du r.core:=by
  revert r;unfold eE;generalize cv ns=p at a1 a2 b1 b2;obtain⟨a,b⟩:=p;refine wy (P:=Du) (λn=>?_) ⟨by decide,λ_ m=>absurd m a7⟩ _ _ _ (λc m=>?_) λr m=>absurd m a7
  ·have J:∀x∈kY a b,x≠[]/\x.headD 0≠46/\∀c∈x,lq c:=λx m=>by
    unfold kY at m;simp only[bJ,a7,or_false]at m;rcases m with rfl|rfl|rfl|rfl
    ·exact⟨by simp,a2,bt.mpr ⟨a1,λ_ m=>absurd m a7⟩⟩
    ·exact⟨by simp,b2,bt.mpr ⟨b1,λ_ m=>absurd m a7⟩⟩
    ·exact⟨by simp,a2,bt.mpr ⟨a1,bt.mpr ⟨b1,λ_ m=>absurd m a7⟩⟩⟩
    ·exact⟨by simp,b2,bt.mpr ⟨b1,bt.mpr ⟨a1,λ_ m=>absurd m a7⟩⟩⟩
   have N:∀x∈kN b,∀c∈x,lq c:=λx m c hc=>by
    unfold kN at m;simp only[bJ,a7,or_false]at m;rcases m with rfl|rfl|rfl|rfl<;>simp only[bJ,a7,or_false]at hc
    ·rcases hc with rfl|rfl|rfl<;>exact mo
    ·rcases hc with rfl|rfl|rfl|rfl
     ·exact mo
     ·exact mo
     ·exact mo
     ·exact b1
    ·rcases hc with rfl|rfl|rfl|rfl|rfl|rfl|rfl
     ·exact mo
     ·exact mo
     ·exact mo
     ·exact b1
     ·exact mo
     ·exact mo
     ·exact mo
   have g1:=J _ (getD_mem (l:=kY a b) (i:=n%4) (d:=[]) (cE _ (by decide)));have g2:=N _ (getD_mem (l:=kN b) (i:=n/4%4) (d:=[]) (cE _ (by decide)));unfold kr;exact⟨by rw[Ey g1.1];exact g1.2.1,λc m=>(eh.mp m).elim (g1.2.2 c) (g2 c)⟩
  ·replace m:c∈gq a b:=m
   unfold gq at m;simp only[bJ,a7,or_false]at m;have two:∀{x y:Nat},lq x->x≠46->lq y->Du [x,y]:=λh1 h2 h3=>⟨h2,bt.mpr ⟨h1,bt.mpr ⟨h3,λ_ m=>absurd m a7⟩⟩⟩;rcases m with rfl|rfl|rfl|rfl
   ·exact two a1 a2 a1
   ·exact two a1 a2 b1
   ·exact two b1 b2 a1
   ·exact two b1 b2 b1
 have:=(hr r m).1;exact⟨⟨λe=>by rw[e]at this;exact absurd this.1 (by decide),h0⟩,this.2⟩
theorem KQ(ns:List Int){Z:Pl}(O:Z.X=kh ns):∃s1,mL Z ⟨[],kh ns,1⟩ (iN ns) s1/\s1.q=[]/\mL Z s1 [bZ (1+fx ns) 46,[],[122]] ⟨[],lP ns,8⟩:=by
 have N:Z.X.length<=10000:=by
  rw[O];exact aw (text_len ns (qH ns)) (by decide)
 obtain⟨R,hr⟩:=qD ns;have S:kh ns=[]++(((eE ns).map λr=>fu (fx ns) r.line++[13,10]).flatten ++((bZ (1+fx ns) 46++[13])++([10]++ir ns))):=by
  unfold kh lW;rw[if_neg (by unfold fx;exact jh (Qb _ (by decide)))];unfold l4 fX;simp only[dF,br,qe,dm,d_];refine congrArg _ ?_;show(fu (fx ns) [46]++[13,10])++[]++ir ns=_;rw[EA,gj,gH 1,List.replicate_succ'];simp only[dm];rfl
 refine fF (Mg N (qH ns) (eE ns) [] ((bZ (1+fx ns) 46++[13])++([10]++ir ns)) 1 (BN ns) (λ_ m=>absurd m a7) (cJ _) (by simp)) λlo ln U a b c=>?_;rw[R]at c;have Y:ln+lo.count 10=7:=c;have J:=MR (fx ns);rw[gH (fx ns) 1]at J;refine di (UE ns) λits zf zc zl=>?_;have t1:=xd (w:=lo) (rest:=[10]++ir ns) (ln:=ln) N J (by rw[jD];have:=qH ns;exact bQ (fW this 1) (by decide)) (by exact bQ b (by decide)) a (by simp);rw[Y,Gv]at t1;have t2:=xd (Z:=Z) (its:=[]) (txt:=[34,34]) (w:=[10]) (rest:=zN ns++lP ns) (ln:=7) N (.inl ⟨rfl,λ_ m=>absurd m a7⟩) (by decide) (by decide) (by decide) (λe=>Cb ns (wX.mp e).2);have t3:=xd (Z:=Z) (w:=[]) (rest:=lP ns) (ln:=8) N zf (by exact bQ (bS zl) (by decide)) (by decide) (λ_ m=>absurd m a7) (Cb ns);rw[zc]at t3;refine⟨_,by rw[S];exact U,rfl,.cons t1 (.cons ?_ (.cons t3 .nil))⟩;have e2:[10]++ir ns=[10]++([34,34]++(zN ns++lP ns)):=by unfold ir;simp only[dm]
 rw[e2];exact t2
noncomputable def il(ns:List Int):List (List Nat):=(iN ns).take 3
noncomputable def gb(ns:List Int):List (List Nat):=(iN ns).drop 3
noncomputable def cV(ns:List Int)(w:List Nat):List Bool:=(il ns).map λn=>jU w n
noncomputable abbrev sS(ns:List Int)(w:List Nat):aB:=.list ((cV ns w).map .bool)
noncomputable abbrev vk(ns:List Int):aB:=.list ((gb ns).map (sS ns))
noncomputable def aZ:List (List Nat):=[[0,1,2],[0,2,1],[1,0,2],[1,2,0],[2,0,1],[2,1,0]]
noncomputable abbrev oB:aB:=.list (aZ.map λo=>.tuple (o.map nD))
noncomputable def dw(ns:List Int)(o:List Nat):List (List Nat):=o.map λp=>(il ns).getD p []
noncomputable abbrev lO(ns:List Int):aB:=.list (aZ.map λo=>.list ((dw ns o).map sD))
theorem wz(ns:List Int):(iN ns).length =6:=by
 unfold iN rwords;rw[aQ,(qD ns).1]
theorem rH(ns:List Int):(il ns).length =3:=by unfold il;rw[iE,wz];rfl
theorem wB(ns:List Int):(gb ns).length =3:=by unfold gb;rw[ez,wz]
theorem wQ(ns:List Int):∀w∈iN ns,w.length<=20:=λw m=>by
 refine aG (dz.mp m) λr hr J=>?_;subst J;have h:=((qD ns).2 r hr).1;have hd:=r.sH;have hs:=qH ns;unfold Rw.word;rw[aP,jD]
 have:r.up (fx ns)<=6:=by unfold Rw.up;split<;>(first|exact aw hd (by decide)|exact fV hd hs)
 exact aw (fV this h.2) (by decide)
theorem name_mem(ns:List Int){w:List Nat}(h:w∈il ns):w∈iN ns:=Fo h
theorem Hb(ns:List Int){w:List Nat}(h:w∈gb ns):w∈iN ns:=A9 h
section
variable{W:List Nat}{G:Gm}(ns:List Int)
theorem UT(h:G 46=some (.d (.list ((iN ns).map sD)))):Sg W G Dw (.next ((G.put 66 (.d (.list ((il ns).map sD)))).put 60 (.d (.list ((gb ns).map sD))))):=by
 have hl:((iN ns).map sD).length <=16777216:=by rw[aQ,wz];decide
 have h1:=yU (W:=W) 3 hl;have h2:=qG (W:=W) 3 hl;rw[<-wN]at h1;rw[<-r_]at h2;exact FL (aE (iT (az h) dR (fT (aW 3)) dR h1) (aE (iT (az h) (fT (aW 3)) dR dR h2) be))
theorem UK(J:G 66=some (.d (.list ((il ns).map sD))))(h0:G 60=some (.d (.list ((gb ns).map sD)))):Sg W G DD (.next (G.put 59 (.d (vk ns)))):=by
 refine fR (p:=.d _) (fD (bs:=gb ns) (mk:=λw=>.one (sD w)) (h:=sS ns) ?_ (by rw[wB];decide) λw hw=>⟨_,.one rfl,?_⟩)
 ·have:=iC (W:=W) (tg:=.name 8) (az h0) rfl
  rwa[br]at this
 ·have hi:=iC (W:=W) (G:=(G.only [66]).put 8 (.d (sD w))) (tg:=.name 25) (az (k:=66) (show(if 66=8 then _ else _)=_ from J)) rfl
  rw[br]at hi;have:=fD (fv:=[8]) (h:=Be∘λn=>jU w n) (fe:=bK (bG [8,25] tU) (ab (aa 8) (ab (aa 25) ag))) hi (by rw[rH];decide) λn N=>⟨_,.one rfl,ia (aE (az rfl) (aE (az rfl) be)) (Nk (want:=w) (name:=n) (bQ (wQ ns n (name_mem ns N)) (by decide)) (aw (wQ ns w (Hb ns hw)) (by decide)))⟩;rw[<-br]at this;exact this
theorem VV:Sg W G Dv (.next (G.put 55 (.d oB))):=by
 have t:∀a b c:Nat,bh W G (de (ab (xk (.int a)) (ab (xk (.int b)) (ab (xk (.int c)) ag)))) (.tuple ([a,b,c].map nD)):=λa b c=>oj (aE (aW a) (aE (aW b) (aE (aW c) be))) (show 3<=16777216 by decide);exact fR (p:=.d _) (e8 (aE (t 0 1 2) (aE (t 0 2 1) (aE (t 1 0 2) (aE (t 1 2 0) (aE (t 2 0 1) (aE (t 2 1 0) be)))))) (show 6<=16777216 by decide))
theorem pF:∀o∈aZ,∀p∈o,p<3:=by decide
theorem sJ:∀o∈aZ,o.length=3:=by decide
theorem Uy(N:G 66=some (.d (.list ((il ns).map sD))))(h5:G 55=some (.d oB)):Sg W G DA (.next (G.put 64 (.d (lO ns)))):=by
 refine fR (p:=.d _) (fD (bs:=aZ) (mk:=λo=>.one (.tuple (o.map nD))) (h:=λo=>.list ((dw ns o).map sD)) ?_ (show 6<400 by decide) λo ho=>⟨_,.one rfl,?_⟩)
 ·have:=iC (W:=W) (tg:=.name 56) (az h5) rfl
  rwa[br]at this
 ·have hi:=HH (W:=W) (G:=(G.only [66]).put 56 (.d (.tuple (o.map nD)))) (k:=26) (az (k:=56) rfl)
  rw[br]at hi;have:=fD (fv:=[66]) (h:=sD∘λp=>(il ns).getD p []) (fe:=aH (aa 66) (aa 26)) hi (by rw[sJ o ho];decide) λp J=>⟨_,.one rfl,aM (az (show(((G.only [66]).put 56 _).only [66]).put 26 _ 66=some (.d (.list ((il ns).map sD)))from N)) (az rfl) (ei p (getD_at (by rw[rH];exact pF o ho p J)) (du (pF o ho p J) (by decide)))⟩;rw[<-br]at this;exact this
end
theorem Vx(F:aj)(st:St):zy F st=some (.next,F.put 57 (.ref st.length),st++[.list []]):=by
 unfold zy;simp only[gF,xQ,dJ,bz,bo];rw[if_pos (show([]:List AV).length <=sizeLine from cJ _)];rfl
noncomputable def dM(W:List Nat)(G:Gm)(I I':St->Prop)(f:SM)(G':Gm):Prop:=∀(F:aj)(st:St),GR W G F st->I st->Ok (f F st) λq=>q.1=.next /\aN W st q.2.2/\GR W G' q.2.1 q.2.2/\I' q.2.2
noncomputable def vU(W:List Nat)(G:Gm)(I I':St->Prop)(tg:b7)(fi:aj->St->Option (It×St))(as:List Ai):Prop:=∀(F:aj)(st:St),GR W G F st->I st->Ok (fi F st) λq=>aN W st q.2/\Yl W tg as q.2 q.1/\I' q.2
section
variable{W:List Nat}{G G1 G2:Gm}{I I1 I2:St->Prop}
theorem yt{f:SM}(h:Sg W G f (.next G1))(s:gQ I):dM W G I I f G1:=λF st g i=>(h F st g).mono λq J=>⟨J.2.1,J.1.any,J.2.2,s J.1 i⟩
theorem ph{f g:SM}(hf:dM W G I I1 f G1)(hg:dM W G1 I1 I2 g G2):dM W G I I2 (ao f g) G2:=λF st O i=>sq ((hf F st O i).mono λq J=>⟨J.1,(hg _ _ J.2.2.1 J.2.2.2).mono λp N=>⟨N.1,J.2.1.trans N.2.1,N.2.2⟩⟩)
theorem SX:dM W G I I aC G:=λF st g i=>⟨rfl,.rfl',g,i⟩
theorem qz{f:SM}(hf:dM W G I I1 f G1):dM W G I I1 (ao f aC) G1:=ph hf SX
theorem z4{k:Nat}{f:EM}{d:aB}(h:d3 W W G I I1 f d):dM W G I I1 (bj k f) (G.put k (.d d)):=λF st g i=>Ok.fJ ((h F st g i).mono λq J=>⟨rfl,J.1,(g.keep J.1).put (p:=.d d) J.2.1,J.2.2⟩)
theorem yj{f:SM}(h:dM W G I I1 f G1)(le:∀j q,G2 j=some q->G1 j=some q):dM W G I I1 f G2:=λF st g i=>(h F st g i).mono λq J=>⟨J.1,J.2.1,J.2.2.1.le le,J.2.2.2⟩
theorem p9{f:SM}{k:Nat}{p:Vl}(h:dM W G1 I I1 f (G.put k p))(n:G k=none):dM W G1 I I1 f G:=yj h λj q e=>Gm.CD n e
theorem mu{f N:SM}(h:dM W G I I1 f G1){F:aj}{st:St}(g:GR W G F st)(i:I st){P:Fl×aj×St->Prop}(k:∀F' st',aN W st st'->GR W G1 F' st'->I1 st'->Ok (N F' st') P):Ok (ao f N F st) P:=
 sq ((h F st g i).mono λq J=>⟨J.1,k _ _ J.2.1 J.2.2.1 J.2.2.2⟩)
theorem AF{t:aj->St->Option (Bool×St)}{x:SM}(ht:fb W G t false)(s:gQ I):dM W G I I (cn t x aC) G:=λF st g i=>Ok.bind' ((ht F st g).mono λq J=>by
 obtain⟨b,st'⟩:=q;obtain⟨z,k⟩:=J;cases(show b=false from z)
 exact⟨rfl,k.any,g.cZ k,s k i⟩)
theorem EY{f g:EM}{a b:aB}{x:SM}(s:gQ I2)(hf:d3 W W G I I1 f a)(hg:d3 W W G I1 I2 g b)(ho:cO W c5 a b (.bool false)):dM W G I I2 (cn (aT c5 f g) x aC) G:=λF st J i=>Ok.bind' (Ok.bind' ((yC (λ_ m=>m) s hf hg ho F st J i).mono λq O=>by
 obtain⟨v,st'⟩:=q;refine dc O λN r i'=>?_;cases(show RV W st' v (.bool false)from r).b'
 exact⟨rfl,N,J.keep N,i'⟩))
theorem sk{tg:b7}{fi}{as:List Ai}(h:fc W G tg fi as)(s:gQ I):vU W G I I tg fi as:=λF st g i=>(h F st g).mono λq J=>⟨J.1.any,J.2,s J.1 i⟩
theorem MI{k:Nat}{f:EM}{ds:List aB}(hf:d3 W W G I I1 f (.list ds)):vU W G I I1 (.name k) (bL f) (ds.map .one):=λF st O i=>Ok.bind' ((hf F st O i).mono λp J=>by
 obtain⟨v,st⟩:=p;refine fF ((show RV W st v (.list ds)from J.2.1).l') λl xs N n e r=>?_;subst N;exact Ok.fJ (Ok.of (show nr (.ref l) st=some (.list l 0) by
  show((bF st l).map _).or _=_;rw[dC e];rfl) ⟨J.1,Iw rfl n e rfl r,J.2.2⟩))
theorem qC{tg:b7}{fi}{b:SM}{as:List Ai}(Is:Nat->St->Prop)(hi:vU W G I (Is 0) tg fi as)(hl:as.length<400)(hs:∀j a,as[j]?=some a->∃G1,pX tg a G G1/\dM W G1 (Is j) (Is (j+1)) b G):
 dM W G I (Is as.length) (λF st=>(fi F st).bind λp=>cA tg b 400 p.1 F p.2) G:=λF st U i=>Ok.bind' ((hi _ _ U i).mono λp hp=>by
 obtain⟨it,st1⟩:=p;refine dc hp λk1 Y i1=>?_;refine I0 (W:=W) (λr F st'=>(∃j,as.drop j=r/\j+r.length=as.length/\Is j st')/\aN W st st'/\GR W G F st') as 400 hl Y ⟨⟨0,rfl,hH _,i1⟩,k1,U.keep k1⟩ (λa r F st' h item s=>?_) λF st' h=>?_
 ·refine dc h λJ k g=>?_;refine di J λj R O S=>?_
  have ha:as[j]?=some a:=by rw[<-lE,R];rfl
  refine aG (hs j a ha) λG1 hB hS=>?_;refine(hB.ok s g).mono λF1 g1=>(hS _ _ g1 S).mono λq N=>⟨.inl N.1,N.2.1,⟨j+1,by rw[<-mf,R];rfl,by exact(hK ..).trans O,N.2.2.2⟩,k.trans N.2.1,N.2.2.1⟩
 ·refine dc h λJ k g=>?_;refine di J λj R O S=>?_
  rw[nI,Fb]at O;exact⟨rfl,k,g,O▸S⟩)
theorem PC{k:Nat}{fe:EM}(hk:G k=none)(Is:Nat->St->Prop)(ds:Nat->aB)(n:Nat)(R:∀j,j<n->d3 W W G (Is j) (Is (j+1)) fe (ds j)):∀(as:List aB)(j:Nat){fuel:Nat}{it:It}{acc:List AV}{ad:List aB}{F:aj}{st:St},j+as.length=n->as.length<fuel->ad.length+as.length<=10000->
 Yl W (.name k) (as.map .one) st it->GR W G F st->aR W st acc ad->Is j st->
 Ok (jO (.name k) bw (a_ fe) fuel it acc F st) λq=>aN W st q.2.2/\aR W q.2.2 q.1 (ad++(uq j as.length).map ds)/\Is n q.2.2:=by
 intro as;induction as with
 |nil=>
  intro j fuel it acc ad F st J hf N Y g r i;cases fuel with
  |zero=>exact absurd hf (gk _)
  |succ fuel=>
   show Ok (if(b7.name k).fits it=true then(it.next st).bind _ else none) _;rw[if_pos Y.1,Y.2 st .rfl'];rw[nI,Fb]at J;exact⟨.rfl',by rw[nI];show aR W st acc (ad++[]);rw[gj];exact r,J▸i⟩
 |cons a as U=>
  intro j fuel it acc ad F st J hf N Y g r i;cases fuel with
  |zero=>exact absurd hf (gk _)
  |succ fuel=>
   refine fH (Y.2 st .rfl') λitem gT hn hs Y'=>?_;rw[dH]at N hf J;show Ok (if(b7.name k).fits it=true then(it.next st).bind _ else none) _;rw[if_pos Y.1,hn];show Ok (((b7.name k).bind item F st).bind _) _;refine Ok.bind' (((gS.one (G:=G) hk).ok hs g).mono λF1 g1=>?_);have g2:=g1.le (gS.one (k:=k) (d:=a) hk).le;show Ok ((a_ fe acc F1 st).bind _) _;refine Ok.bind' (Ok.bind' ((R j (by exact rL (bS J)) F1 st g2 i).mono λe h=>?_));show Ok (if acc.length<=sizeLine then some (acc++[e.1],F1,e.2)else none) _;rw[if_pos (by rw[r.len,sizeLine_eq];exact aw (cq (rL N)) (by decide))];refine dc h λO re i1=>?_;refine(U (j+1) (fuel:=fuel) (it:=gT) (acc:=acc++[e.1]) (ad:=ad++[ds j]) (F:=F1) (st:=e.2) (by exact(hK ..).trans J) (mZ hf) (by rw[aP,gZ];exact z8 N) (Y'.keep O) (g2.keep O) ((aR.keep O r).app (.cons re .nil)) i1).mono λq S=>⟨O.trans S.1,?_,S.2.2⟩;have:=S.2.1;rw[dm]at this;rw[dH,Hd,bX];exact this
end
theorem HK{W:List Nat}{G:Gm}{fv:List Nat}{fi}{k:Nat}{fe:EM}{as:List aB}(Is:Nat->St->Prop)(ds:Nat->aB)(hi:fc W G (.name k) fi (as.map .one))(hl:as.length<400)(hk:(G.only fv) k=none)(s0:gQ (Is 0))(s1:gQ (Is as.length))(h:∀j,j<as.length->d3 W W (G.only fv) (Is j) (Is (j+1)) fe (ds j)):
 d3 W W G (Is 0) (Is as.length) (bl fv fi (.name k) bw (a_ fe) 400) (.list ((uq 0 as.length).map ds)):=λF st O i=>
 Ok.bind' ((hi F st O).mono λp J=>Ok.fJ ((PC hk Is ds as.length h as 0 (hH _) hl (by exact aw (bS (hH _)) (cq (du hl (by decide)))) J.2 ((O.cZ J.1).only fv) .nil (s0 J.1 i)).mono λq N=>
  ⟨(J.1.any.trans N.1).trans (.app _),j_ (O.bd.keep (J.1.any.trans N.1)) N.2.1,s1 (.app _) N.2.2⟩))
noncomputable def cf(bs:List Bool)(i:Nat):Bool:=bs.getD i false
noncomputable def eF(f:Nat->Bool)(l:List Nat):List Nat:=l.filter (λi=>!f i)++l.filter f
noncomputable def ltB(bs:List Bool):Nat->Nat->Option Bool:=λi j=>(bs[i]?).bind λx=>(bs[j]?).map λy=>!x&&y
theorem Yg(x y z:Bool):(mH (ltB [x,y,z]) (oV 3)).map E8=some (eF (cf [x,y,z]) [0,1,2]):=by
 cases x<;>cases y<;>cases z<;>rfl
noncomputable def DF(ts:List T4):Nat->Nat->Option Bool:=λi j=>(ts[i]?).bind λx=>(ts[j]?).map λy=>Dk x y
theorem XX:∀x0 J z0 x1 N O R S U:Bool,(mH (DF [(x0,J,z0,0),(x1,N,O,1),(R,S,U,2)]) (oV 3)).map E8=some (eF (cf [x0,x1,R]) (eF (cf [J,N,S]) (eF (cf [z0,O,U]) [0,1,2]))):=by
 decide+kernel
noncomputable abbrev QL:ae:="law.<locals>.<lambda>"
noncomputable def TI(st:St):Prop:=∃es,st[0]?=some (.tab es)/\∀p∈es,st[p.2]?=some (.code QL)
theorem IU:gQ TI:=λk ⟨es,a,b⟩=>⟨es,k.get a,λp m=>k.get (b p m)⟩
theorem xR{V:List Nat}{st st':St}(k:aN V st st')(h0:0∉V)(hv:∀v∈V,st[v]?≠some (.code QL))(h:TI st):TI st':=by
 refine aG h λes a b=>?_;exact⟨es,k.cW h0 a,λp m=>k.cW (λn=>hv _ n (b p m)) (b p m)⟩
theorem Vu(ln co:Nat){st:St}(h:TI st):Ok (vB 0 ln co QL st) λm=>aN [0] st m.2/\TI m.2/\m.2[m.1]?=some (.code QL):=by
 refine aG h λes a b=>?_;have e:vB 0 ln co QL st=(es.lookup (ln,co)).elim (some (st.length,st.set 0 (.tab (es++[((ln,co),st.length)]))++[.code QL])) λl=>some (l,st):=by
  unfold vB;rw[a];rfl
 rw[e];cases q:es.lookup (ln,co)with
 |some l=>exact⟨.rfl',⟨es,a,b⟩,b _ (my q)⟩
 |none=>
  have J:=gn a;have N:aN [0] st (st.set 0 (.tab (es++[((ln,co),st.length)]))++[.code QL]):=(lC (cj ..)).trans (.app _);have O:(st.set 0 (.tab (es++[((ln,co),st.length)]))++[AO.code QL])[st.length]?=some (.code QL):=by
   have:=nf (st:=st.set 0 (.tab (es++[((ln,co),st.length)]))) (o:=.code QL);rwa[xh]at this
  refine⟨N,⟨es++[((ln,co),st.length)],?_,λp m=>?_⟩,O⟩
  ·rw[pv (by rw[xh];exact J),get_set,if_pos rfl,if_pos J]
  ·rcases eh.mp m with m|m
   ·refine N.cW (λz=>?_) (b p m)
    have R:p.2=0:=cx.mp z;have:=b p m;rw[R,a]at this;cases this
   ·rw[cx.mp m];exact O
theorem GR.cons{W:List Nat}{G:Gm}{F:aj}{st:St}(h:GR W G F st){k:Nat}{x:AV}{p:Vl}(s:Sat W st x p):GR W (G.put k p) ((k,x)::F) st:=⟨h.bd,λj q e=>by
 rw[eN];by_cases z:j=k
 ·rw[beq_iff_eq.mpr z];rw[Gm.put,if_pos z]at e;cases e;exact s
 ·rw[beq_false_of_ne z];rw[Gm.put,if_neg z]at e;exact h.at' j q e⟩
theorem O1{W:List Nat}{st:St}{xs:List AV}{ds:List aB}(r:aR W st xs ds):∀(is:List Nat),(∀i∈is,i<ds.length)->aR W st (is.map λi=>xs.getD i .none) (is.map λi=>ds.getD i (.int 0)):=by
 intro is;induction is with
 |nil=>
  intro _;exact .nil
 |cons i is J=>
  intro h;have hi:=h i (cj ..);refine aG (r.get (kF hi)) λx e N=>?_;refine .cons ?_ (J λj m=>h j (cw _ m));show RV W st (xs.getD i .none) (ds.getD i (.int 0));rw[jg,e,jg,kF hi];exact N
section
variable{W:List Nat}{G:Gm}{kp:Nat}{fv:List Nat}{fe fa:EM}{β:Type}{mk key:β->aB}
theorem Tb{m:Nat}{F:aj}:∀{ds:List β}{xs:List AV}{st:St},(∀d∈ds,bh W ((G.only fv).put kp (.d (mk d))) fe (key d))->aR W st xs (ds.map mk)->st[m]?=some (.code QL)->GR W G F st->
 Ok (th (λx st=>(codeAt st m QL).bind λ_=>sV kp fv fe F x st) xs st) λq=>aN [] st q.2/\aR W q.2 q.1 (ds.map key):=by
 intro ds;induction ds with
 |nil=>
  intro xs st _ r _ _;cases r
  exact⟨.rfl',.nil⟩
 |cons d ds O=>
  intro xs st hk r hm g;cases r with
  |cons a b=>
   rename_i x xs;show Ok (((codeAt st m QL).bind λ_=>sV kp fv fe F x st).bind _) _;have hc:codeAt st m QL=some ():=by
    unfold codeAt;rw[hm];show(if QL=QL then some ()else none)=some ();exact if_pos rfl
   rw[hc];refine Ok.bind' ((hk d (cj ..) _ _ ((g.only fv).cons (p:=.d (mk d)) a)).mono λp J=>?_);exact Ok.fJ ((O (λd m=>hk d (cw _ m)) (aR.keep J.1.any b) (J.1.get hm) (g.cZ J.1)).mono λq N=>⟨J.1.trans N.1,.cons (RV.keep N.1.any J.2) N.2⟩)
theorem E6{cmp:List AV->St->Option (Nat->Nat->Option Bool)}{ln co:Nat}{bs:List β}{lt:Nat->Nat->Option Bool}{is:List Nat}{I:St->Prop}(h0:0∈W)(Y:gQ I)(hI:∀a b,aN [0] a b->TI b->I a->I b)(hT:∀a,I a->TI a)
 (O:bh W G fa (.list (bs.map mk))\/bh W G fa (.tuple (bs.map mk)))(hk:∀d∈bs,bh W ((G.only fv).put kp (.d (mk d))) fe (key d))(hl:2<=bs.length/\bs.length<64)(hc:∀(st:St)(kvs:List AV),aR W st kvs (bs.map key)->cmp kvs st=some lt)(hs:(mH lt (oV bs.length)).map E8=some is)(hi:∀i∈is,i<bs.length):
 d3 W W G I I (sX cmp 0 ln co QL kp fv fe fa) (.list (is.map λi=>(bs.map mk).getD i (.int 0))):=λF st g i=>by
 have hfa:Ok (fa F st) λp=>aN [] st p.2/\∃l xs,p.1=.ref l/\(p.2[l]?=some (.list xs)\/p.2[l]?=some (.tup xs))/\l∉W/\aR W p.2 xs (bs.map mk):=by
  rcases O with O|O
  ·exact(O F st g).mono λp N=>by
    refine fF ((show RV W p.2 p.1 (.list (bs.map mk))from N.2).l') λl xs e n q r=>?_;exact⟨N.1,l,xs,e,.inl q,n,r⟩
  ·exact(O F st g).mono λp N=>by
    refine fF ((show RV W p.2 p.1 (.tuple (bs.map mk))from N.2).t') λl xs e n q r=>?_;exact⟨N.1,l,xs,e,.inr q,n,r⟩
 refine Ok.bind' (hfa.mono λp N=>?_);obtain⟨a,st1⟩:=p;refine m_ N λk1 l xs ea zq4=>?_;refine dc zq4 λR hn r=>?_;cases(show a=.ref l from ea)
 have i1:=Y k1 i;refine Ok.bind' ((Vu ln co (hT _ i1)).mono λm hm=>?_);obtain⟨c,bI⟩:=m;refine dc hm λk2 t2 c2=>?_;have S:aN W st1 bI:=k2.sub λx m=>by rw[cx.mp m];exact h0
 have i2:=hI _ _ k2 t2 i1;have r2:=aR.keep S r;have hsq:C2 (.ref l) bI=some xs:=by
  show(bF bI l).or (eo bI l)=some xs;rcases R with R|R
  ·rw[dC (S.cW hn R)];rfl
  ·have:=S.cW hn R
   rw[kO this,show bF bI l=none by unfold bF;rw[this];rfl];rfl
 rw[hsq];show Ok (if 2<=xs.length/\xs.length<64 then _ else none) _;rw[if_pos (by rw[r.len,aQ];exact hl)];have g2:=(g.cZ k1).keep S;refine Ok.bind' ((Tb hk r2 c2 g2).mono λq U=>?_);obtain⟨kvs,J⟩:=q;rw[hc J kvs U.2,r.len,aQ];show Ok ((mH lt (oV bs.length)).map _) _;cases hr:mH lt (oV bs.length)with
 |none=>rw[hr]at hs;cases hs
 |some arr=>
  rw[hr]at hs;have e:arr.toList=is:=mn hs;have kk:aN W st J:=(k1.any.trans S).trans U.1.any;refine⟨kk.trans (.app _),?_,Y (.app _) (Y U.1 i2)⟩;show RV W (J++[.list (arr.toList.map λi=>xs.getD i .none)]) (.ref J.length) _;rw[e];exact j_ (g.bd.keep kk) (O1 (aR.keep U.1.any r2) is λi m=>by rw[aQ];exact hi i m)
end
theorem Im{W:List Nat}{st:St}:∀{bs:List Bool}{kvs:List AV},aR W st kvs (bs.map .bool)->kvs.mapM AV.b?=some bs
 |[],kvs,r=>by cases r;rfl
 |b::bs,kvs,r=>by
  cases r with
  |cons x y=>
   cases x.b'
   rw[sh,Im y];rfl
theorem Sy{W:List Nat}{st:St}{bs:List Bool}{kvs:List AV}(r:aR W st kvs (bs.map .bool)):tp kvs st=some (ltB bs):=by
 unfold tp;rw[Im r];rfl
noncomputable def J7(t:T4):aB:=.tuple [.bool t.1,.bool t.2.1,.bool t.2.2.1,.int t.2.2.2]
theorem H_{W:List Nat}{st:St}:∀{ts:List T4}{kvs:List AV},aR W st kvs (ts.map J7)->kvs.mapM (y_ st)=some ts
 |[],kvs,r=>by cases r;rfl
 |t::ts,kvs,r=>by
  cases r with
  |cons x y=>
   refine fF ((show RV W st _ (.tuple [.bool t.1,.bool t.2.1,.bool t.2.2.1,.int t.2.2.2])from x).t') λl xs J n e r=>?_;subst J
   have:y_ st (.ref l)=some t:=by
    show(eo st l).bind _=_;rw[kO e];cases r with
    |cons a r=>
     cases a.b'
     cases r with
     |cons a r=>
      cases a.b'
      cases r with
      |cons a r=>
       cases a.b'
       cases r with
       |cons a r=>
        cases a.i'
        cases r
        rfl
   rw[sh,this,H_ y];rfl
theorem Tf{W:List Nat}{st:St}{ts:List T4}{kvs:List AV}(r:aR W st kvs (ts.map J7)):tA kvs st=some (DF ts):=by
 unfold tA;rw[H_ r];rfl
noncomputable abbrev WZ(Z:Pl)(ls:Nat):List Nat:=[ls,Z.pb,Z.d,Z.k,0]
structure PZ(Z:Pl)(ls:Nat):Prop where
 l1:ls∉LV Z
 l0:ls≠0
 lx:Z.lx≠ls
 z0:0∉LV Z
 x0:Z.lx≠0
 xp:Z.pb≠Z.lx
 xl:Z.X.length<=10000
structure BI(Z:Pl)(ls:Nat)(s:Ls)(sv:List aB)(st:St):Prop where
 li:LI Z s st
 ti:TI st
 ss:∃xs,st[ls]?=some (.list xs)/\aR (WZ Z ls) st xs sv
section
variable{Z:Pl}{ls:Nat}{s s':Ls}{sv:List aB}
theorem sN:∀x∈LV Z,x∈WZ Z ls:=λx m=>by
 simp only[bJ,a7,or_false]at m ⊢;rcases m with m|m|m
 ·exact .inr (.inr (.inr (.inl m)))
 ·exact .inr (.inr (.inl m))
 ·exact .inr (.inl m)
theorem lJ:gQ (BI Z ls s sv):=λk h=>⟨yq Z s k h.li,IU k h.ti,h.ss.imp λxs q=>⟨k.get q.1,aR.keep k.any q.2⟩⟩
theorem IJ{st st':St}(J:PZ Z ls)(h:BI Z ls s sv st)(k:aN (LV Z) st st')(l:LI Z s' st'):BI Z ls s' sv st':=by
 refine jl h.li λp _ L _ hb=>?_;refine aG L.pl λps _ hk=>?_;refine⟨l,xR k J.z0 (λv m=>?_) h.ti,h.ss.imp λxs q=>⟨k.cW J.l1 q.1,aR.keep (k.sub sN) q.2⟩⟩;simp only[bJ,a7,or_false]at m;rcases m with rfl|rfl|rfl
 ·rw[hk];exactλe=>nomatch e
 ·rw[L.dict];exactλe=>nomatch e
 ·rw[hb];exactλe=>nomatch e
theorem Vv{st st':St}(J:PZ Z ls)(h:BI Z ls s sv st)(k:aN [0] st st')(t:TI st'):BI Z ls s sv st':=by
 refine jl h.li λp a L c hb=>?_;have n:∀x∈LV Z,x∉[0]:=λx m z=>J.z0 (cx.mp z▸m);refine⟨⟨p,a,⟨k.cW (λz=>J.x0 (cx.mp z)) L.inst,k.cW (n _ (Dp Z)) L.dict,L.pl.imp λps q=>⟨q.1,k.cW (n _ (DC Z)) q.2⟩⟩,c,k.cW (n _ (Dx Z)) hb⟩,t,h.ss.imp λxs q=>⟨k.cW (λz=>J.l0 (cx.mp z)) q.1,aR.keep (k.sub λx m=>by rw[cx.mp m];simp) q.2⟩⟩
theorem Js{G:Gm}{f:EM}{d:aB}(N:PZ Z ls)(h:d3 (WZ Z ls) (LV Z) G (LI Z s) (LI Z s') f d):d3 (WZ Z ls) (WZ Z ls) G (BI Z ls s sv) (BI Z ls s' sv) f d:=λF st g i=>(h F st g i.li).mono λq J=>⟨J.1.sub sN,J.2.1,IJ N i J.1 J.2.2⟩
noncomputable def pushS:SM:=(gN (bU (f_ 69 39) (bG [27,33] p4) (aa 53) (ab (aa 14) ag)))
theorem NQ{G:Gm}{q:List (List Nat)}{r w:List Nat}{ln:Nat}(R:PZ Z ls)(J:G 53=some (.v (.ref Z.lx)))(N:G 14=some (.d (sD w)))(S:q.length<=10000):dM (WZ Z ls) G (BI Z ls ⟨q,r,ln⟩ sv) (BI Z ls ⟨q++[w],r,ln⟩ sv) pushS G:=λF st g i=>by
 refine jl i.li λp a L c hb=>?_;have O:f_ 69 39 (.ref Z.lx) st=some [.ref Z.lx]:=t_ (sT L 39 (by decide));refine aG ((g.at' 14 _ N).get) λx ex sx=>?_;cases(show RV (WZ Z ls) st x (sD w)from sx).s'
 have e:=TN L (.str (T w)) (bx q) hb (by unfold bx;rw[aQ];exact S);have k:aN (LV Z) st (st.set Z.pb (.list (bx q++[.str (T w)]))):=lC (by simp);refine Ok.of (a:=(.next,F,st.set Z.pb (.list (bx q++[.str (T w)])))) ?_ ⟨rfl,k.sub sN,g.keep (k.sub sN),IJ R i k ⟨p,a,⟨?_,?_,?_⟩,c,?_⟩⟩
 ·unfold pushS
  simp only[BH,iI,bP,g.av J,ex,bz,bo,O,eK,dJ,eM,d_,e]
 ·rw[get_set,if_neg (λz=>R.xp z.symm)];exact L.inst
 ·rw[get_set,if_neg (λz=>Z.pd z.symm)];exact L.dict
 ·exact L.pl.imp λps h=>⟨h.1,by rw[get_set,if_neg (λz=>Z.pk z.symm)];exact h.2⟩
 ·rw[get_set,if_pos rfl,if_pos (gn hb)]
  unfold bx;rw[dF];rfl
theorem z9(J:PZ Z ls)(q:List (List Nat))(r:List Nat)(ln:Nat):∀ts:List (List Nat),(ts++q).length <=10000->mL Z ⟨ts++q,r,ln⟩ ts ⟨q,r,ln⟩
 |[],_=>.nil
 |t::ts,h=>.cons (RU (t:=t) (q:=ts++q) (mW h) J.xp) (z9 J q r ln ts (mW h))
theorem Ec{G:Gm}{I:St->Prop}{f:EM}{ws q:List (List Nat)}{r:List Nat}{ln:Nat}(S:PZ Z ls)(J:G 53=some (.v (.ref Z.lx)))(N:G 14=none)(hf:d3 (WZ Z ls) (WZ Z ls) G I (BI Z ls ⟨q,r,ln⟩ sv) f (.list (ws.map sD)))(hl:(q++ws).length <400):
 dM (WZ Z ls) G I (BI Z ls ⟨q++ws,r,ln⟩ sv) (λF st=>((bL f) F st).bind λp=>cA (.name 14) (ao pushS aC) 400 p.1 F p.2) G:=by
 rw[aP]at hl;have:=qC (W:=WZ Z ls) (G:=G) (I:=I) (tg:=.name 14) (fi:=bL f) (b:=ao pushS aC) (as:=(ws.map sD).map .one) (λj=>BI Z ls ⟨q++ws.take j,r,ln⟩ sv) (by rw[FG,gj];exact MI hf) (by rw[aQ,aQ];exact bQ (dg ..) hl) λj a R=>by
  rw[br,dO]at R;refine aG (ji.mp R) λw hw O=>?_;subst O;have U:=(fY.mp hw).1;refine⟨_,.one,qz (p9 (k:=14) (p:=.d (sD w)) ?_ N)⟩;have e:ws.take (j+1)=ws.take j++[w]:=by rw[nL,hw];rfl
  rw[e,<-dm];exact yj (NQ S (by rw[Gm.put,if_neg (by decide)];exact J) (by rw[Gm.put,if_pos rfl]) (by rw[aP,iE];exact aw (fW (j3 ..) _) (cq (du hl (by decide))))) λ_ _ e=>e
 rw[aQ,aQ,uo]at this;exact this
end
theorem Eo:∀{a b:Nat}{x y:List Nat},x.headD 0≠46->y.headD 0≠46->bZ a 46++x=bZ b 46++y->x=y
 |0,0,_,_,_,_,e=>e
 |0,b+1,x,y,J,_,e=>by
  have:=congrArg (λl:List Nat=>l.headD 0) e;exact absurd this J
 |a+1,0,x,y,_,N,e=>by
  have:=congrArg (λl:List Nat=>l.headD 0) e;exact absurd this.symm N
 |a+1,b+1,x,y,J,N,e=>Eo (a:=a) (b:=b) J N (nS e).2
theorem Er{α:Type}:∀{l:List α}{i:Nat}(h:i<l.length),(l[i]::l.eraseIdx i).Perm l
 |a::l,0,_=>.refl _
 |a::l,i+1,h=>(Y7 _ _ _).trans (.cons a (Er (mZ h)))
noncomputable def Dm(m:Ms):Prop:=((m.2.take 3).map Rw.core++m.1).Nodup
theorem RT{a b j n:Nat}{m:Ms}(g:Good j m)(O:j<6)(h:Dm m):Dm (qU a b m (n,j)):=by
 unfold Dm at h ⊢;show(((m.2++[dK a b m (n,j)]).take 3).map Rw.core++ko m (n,j)).Nodup;by_cases q:j<3
 ·have hl:=(wF (a:=a) (b:=b) (n:=n) g O).2.1 q
  have hi:n%m.1.length <m.1.length :=cE _ hl.1;have J:(m.2++[dK a b m (n,j)]).take 3=m.2++[dK a b m (n,j)]:=kx (by rw[aP,gZ,g.rows];exact q);have R:m.2.take 3=m.2:=kx (by rw[g.rows];exact cq q);have N:ko m (n,j)=m.1.eraseIdx (n%m.1.length):=if_pos q;have S:(dK a b m (n,j)).core =m.1[n%m.1.length]:=by
   show(if j<3 then _ else _)=_;rw[if_pos q,jg,kF hi];rfl
  rw[J,N,dF,bX,fS,S,dm];rw[R]at h;exact(ZR (ZS _ (Er hi))).mpr h
 ·have J:(m.2++[dK a b m (n,j)]).take 3=m.2.take 3:=Rn (by rw[g.rows];exact fC q)
  have N:ko m (n,j)=m.1:=if_neg q;rw[J,N];exact h
theorem TF(ns:List Int):(cv ns).1≠(cv ns).2:=by
 have all:∀p∈qM,p.1≠p.2:=by decide
 exact all _ (getD_mem (cE _ (by decide)))
theorem SD(ns:List Int):Dm (nv (cv ns).1 (cv ns).2 ((gv ns).take 6) 0 (gq (cv ns).1 (cv ns).2,[])):=by
 have:∀(l:List Nat)(j:Nat)(m:Ms),j+l.length<=6->Good j m->Dm m->Dm (nv (cv ns).1 (cv ns).2 l j m):=by
  intro l;induction l with
  |nil=>intro j m _ _ h;exact h
  |cons n l R=>
   intro j m N g h;rw[dH]at N;exact R (j+1) _ (by exact(hK ..)▸N) (wF g (by exact cK (oS (c8 ..)) N)).1 (RT g (by exact cK (oS (c8 ..)) N) h)
 refine this _ 0 _ (by rw[iE,j7];decide) (good0 _ _) ?_;have J:=TF ns;generalize cv ns=p at J;obtain⟨a,b⟩:=p;show(gq a b).Nodup;have J:a≠b:=J;have O:b≠a:=λe=>J e.symm;unfold gq;simp[J,O]
noncomputable def mO(ns:List Int)(p:Nat):List Nat:=(il ns).getD p []
theorem Pz(ns:List Int){p q:Nat}(N:p<3)(hq:q<3)(h:mO ns p=mO ns q):p=q:=by
 have hD:=SD ns;obtain⟨U,hr⟩:=qD ns;have hN:((eE ns).take 3).map Rw.core|>.Nodup:=(S6.mp hD).1;have hl:(((eE ns).take 3).map Rw.core).length =3:=by rw[aQ,iE,U];rfl
 have row:∀{p},p<3->∃r∈eE ns,mO ns p=r.word (fx ns)/\(((eE ns).take 3).map Rw.core)[p]?=some r.core:=λ{p} N=>by
  have J:p<(eE ns).length :=by exact U▸aw N (by decide)
  refine⟨(eE ns)[p],AI J,?_,?_⟩
  ·unfold mO il iN rwords
   rw[jg,Ov,if_pos N,dO,kF J];rfl
  ·rw[dO,Ov,if_pos N,kF J];rfl
 refine di (row N) λr mr er cr=>?_;refine di (row hq) λY O R S=>?_;have ec:r.core=Y.core:=by
  rw[er,R]at h;unfold Rw.word at h;exact Eo (BN ns r mr).1.2.1 (BN ns Y O).1.2.1 h
 rw[ec,<-S]at cr;exact(List.getElem?_inj (by rw[hl];exact N) hN).mp cr
theorem XN(t:Nat->Bool)(a b c:Nat){α:Type}(x:Nat->α)(d:α):(eF (cf [t a,t b,t c]) [0,1,2]).map (λi=>[x a,x b,x c].getD i d)=(eF t [a,b,c]).map x:=by
 have e:∀(f:Nat->Bool),[a,b,c].filter f=cond (f a) (a::cond (f b) (b::cond (f c) [c] []) (cond (f c) [c] [])) (cond (f b) (b::cond (f c) [c] []) (cond (f c) [c] [])):=λf=>rfl;unfold eF;rw[e,e];cases t a<;>cases t b<;>cases t c<;>rfl
theorem VT{t:Nat->Bool}{o:List Nat}(h:∀p∈o,p<3):∀p∈eF t o,p<3:=λp m=>by
 rcases eh.mp m with m|m
 ·exact h p ((ue.mp m).1)
 ·exact h p ((ue.mp m).1)
noncomputable def c4(bs:List Bool)(o:List Nat):List Nat:=eF (cf bs) o
theorem yi:∀x y z:Bool,∀o∈aZ,c4 [x,y,z] o∈aZ:=by decide
noncomputable def zH(o:List Nat):Nat:=aZ.findIdx (·==o)
noncomputable def kX(bs:List Bool):List Nat:=aZ.map λo=>zH (c4 bs o)
noncomputable def cN(ns:List Int)(o:List Nat):List (List Nat):=dw ns o++[[]]
theorem Tx(ns:List Int)(o:List Nat):dw ns o=o.map (mO ns):=rfl
theorem E5(ns:List Int):∀{o o':List Nat},(∀p∈o,p<3)->(∀p∈o',p<3)->dw ns o=dw ns o'->o=o'
 |[],[],_,_,_=>rfl
 |[],_::_,_,_,h=>nomatch h
 |_::_,[],_,_,h=>nomatch h
 |p::o,q::o',J,N,h=>by
  have:=nS (show mO ns p::dw ns o=mO ns q::dw ns o' from h);rw[Pz ns (J p (cj ..)) (N q (cj ..)) this.1,E5 ns (λx m=>J x (cw _ m)) (λx m=>N x (cw _ m)) this.2]
theorem uN(ns:List Int)(w:List Nat):∃x y z,cV ns w=[x,y,z]/\∀p,p<3->cf (cV ns w) p=jU w (mO ns p):=by
 have hl:(cV ns w).length =3:=by unfold cV;rw[aQ,rH]
 refine⟨cf (cV ns w) 0,cf (cV ns w) 1,cf (cV ns w) 2,?_,λp J=>?_⟩
 ·refine lT (qY hl) λx y z e=>?_
  rw[e];rfl
 ·unfold cf cV mO
  rw[jg,dO,jg,kF (by rw[rH];exact J)];rfl
theorem mw(ns:List Int)(w:List Nat):∀o∈aZ,c4 (cV ns w) o∈aZ:=by
 refine sP (uN ns w) λx y z e _=>?_;rw[e];exact yi x y z
theorem jC(ns:List Int){o:List Nat}(h:o∈aZ):(dw ns o).length =3:=by unfold dw;rw[aQ];exact sJ o h
theorem G0(ns:List Int){o:List Nat}(h:o∈aZ){n:List Nat}(m:n∈dw ns o):n∈il ns:=by
 refine aG (dz.mp m) λp N J=>?_;subst J;exact getD_mem (by rw[rH];exact pF o h p N)
theorem Ew(ns:List Int){o:List Nat}(h:o∈aZ):(cN ns o).take 3=dw ns o:=by unfold cN;rw[Rn (bS (jC ns h).symm),kx (bS (jC ns h))]
theorem Me(ns:List Int){o:List Nat}(h:o∈aZ):(cN ns o).drop 3=[[]]:=by
 have:=List.drop_left' (l₁:=dw ns o) (l₂:=[[]]) (jC ns h);exact this
theorem wG(ns:List Int):∀l:List (List Nat),(∀o∈l,o∈aZ)->((l.map (cN ns)).flatten).length =4*l.length:=by
 intro l;induction l with
 |nil=>
  intro _;exact rfl
 |cons o l J=>
  intro h;rw[bX,gI,aP,J λx m=>h x (cw _ m)];unfold cN;rw[aP,jC ns (h o (cj ..)),gZ,dH];exact gH ..
theorem Jb{x:List Nat}(h:∀c∈x,c<1114112):qr (T x)=true:=by
 unfold qr T;rw[show({cps:=x.toArray}:ae).cps =x.toArray from rfl,List.all_toArray,w_];exactλc m=>decide_eq_true (h c m)
section
variable{W:List Nat}{G:Gm}
theorem Oj{ds:List aB}{d:aB}{j:Nat}(hd:dW ds<=3/\d.depth<=3)(hs:eA ds=true/\d.canLay0=true)(hl:ds.length<=16777216)(J:(ds.findIdx? λy=>c6 y d)=some j):iz W bIndex [.list ds,d] (nD j):=y7 λst x y bd N O=>by
 obtain⟨l,xs,rfl,n,e,r⟩:=N.l';refine Ok.of (a:=(.int (j:Int),st)) ?_ ⟨.rfl',.int _⟩;show(bF st l).bind _=_;rw[dC e];show(xs.mapM (e_ st 3)).bind _=_;rw[r.rd 3 hd.1];show(e_ st 3 y).bind _=_;rw[O.rd 3 hd.2];show(if eA ds&&d.canLay0&&decide (dW ds<=50)&&decide (ds.length<=sizeLine)then(ds.findIdx? λy=>c6 y d).map λ(j:Nat)=>(AV.int (j:Int),st)else none)=_;rw[if_pos (by rw[hs.1,hs.2,decide_eq_true (aw hd.1 (by decide)),decide_eq_true (by rw[sizeLine_eq];exact hl)];rfl),J];rfl
end
theorem EO:∀{l:List (List (List Nat))},(∀t∈l,∀x∈t,qr (T x)=true)->eA (l.map λt=>.list (t.map sD))=true
 |[],_=>by rw[fS,eA]
 |a::l,h=>by rw[bX,eA,ky,xB (h a (cj ..)),EO λt m=>h t (cw _ m)];rfl
theorem Mr:∀l:List (List (List Nat)),dW (l.map λt=>.list (t.map sD))<=1:=by
 intro l;induction l with
 |nil=>
  rw[fS,dW];decide
 |cons a l J=>
  rw[bX,dW,iF,Ar];exact Ru.mpr ⟨a6 _,J⟩
theorem FJ(t:List (List Nat)):(fm (t.map sD)).depth =1:=by rw[iF,Ar]
theorem HD(a b:List (List Nat)):c6 (.list (a.map sD)) (.list (b.map sD))=(a==b):=by rw[c6,Bi]
theorem QU{α β:Type}(f:α->β)(p:β->Bool):∀l:List α,(l.map f).findIdx? p=l.findIdx? (p∘f):=by
 intro l;induction l with
 |nil=>
  exact rfl
 |cons a l J=>
  rw[bX,xW,xW,J];rfl
theorem Eh{α:Type}{p q:α->Bool}:∀{l:List α},(∀a∈l,p a=q a)->l.findIdx? p=l.findIdx? q
 |[],_=>rfl
 |a::l,h=>by rw[xW,xW,h a (cj ..),Eh λx m=>h x (cw _ m)]
theorem Sz(ns:List Int):(cv ns).1<128/\(cv ns).2<128:=by
 have all:∀p∈qM,p.1<128/\p.2<128:=by decide
 exact all _ (getD_mem (cE _ (by decide)))
theorem Uj(ns:List Int):∀r∈eE ns,∀c∈r.core,c<128:=by
 obtain⟨a1,b1⟩:=Sz ns;unfold eE;generalize cv ns=p at a1 b1;obtain⟨a,b⟩:=p;have a1:a<128:=a1;have b1:b<128:=b1;have cons:∀{x:Nat}{l:List Nat},x<128->(∀c∈l,c<128)->∀c∈x::l,c<128:=λh g=>bt.mpr ⟨h,g⟩;have nil:∀c∈([]:List Nat),c<128:=λ_ m=>absurd m a7;have d:(46:Nat)<128:=by decide
 refine wy (P:=λx=>∀c∈x,c<128) (λn=>?_) nil _ _ _ (λc m=>?_) λr m=>absurd m a7
 ·unfold kr
  have all:∀x∈kY a b,∀c∈x,c<128:=λx m=>by
   unfold kY at m;simp only[bJ,a7,or_false]at m;rcases m with rfl|rfl|rfl|rfl
   ·exact cons a1 nil
   ·exact cons b1 nil
   ·exact cons a1 (cons b1 nil)
   ·exact cons b1 (cons a1 nil)
  have all2:∀x∈kN b,∀c∈x,c<128:=λx m=>by
   unfold kN at m;simp only[bJ,a7,or_false]at m;rcases m with rfl|rfl|rfl|rfl
   ·exact nil
   ·exact cons d (cons d (cons d nil))
   ·exact cons d (cons d (cons d (cons b1 nil)))
   ·exact cons d (cons d (cons d (cons b1 (cons d (cons d (cons d nil))))))
  exactλc m=>(eh.mp m).elim (all _ (getD_mem (show n%4<4 from cE _ (by decide))) c) (all2 _ (getD_mem (show n/4%4<4 from cE _ (by decide))) c)
 ·replace m:c∈gq a b:=m
  unfold gq at m;simp only[bJ,a7,or_false]at m;rcases m with rfl|rfl|rfl|rfl
  ·exact cons a1 (cons a1 nil)
  ·exact cons a1 (cons b1 nil)
  ·exact cons b1 (cons a1 nil)
  ·exact cons b1 (cons b1 nil)
theorem Iu(ns:List Int):∀w∈iN ns,qr (T w)=true:=λw m=>by
 refine aG (dz.mp m) λr hr J=>?_;subst J;refine Jb λc hc=>?_;unfold Rw.word at hc;rcases eh.mp hc with hc|hc
 ·rw[(o3.mp hc).2];decide
 ·exact du (Uj ns r hr c hc) (by decide)
theorem xU(ns:List Int){o:List Nat}(h:o∈aZ):∀x∈dw ns o,qr (T x)=true:=λx m=>Iu ns x (name_mem ns (G0 ns h m))
noncomputable def J2:aj->St->Option (Bool×St):=(aT c5 (bl [8] (bD fM (ab (aa 66) (ab (aa 61) ag))) (.names [25,67]) (aT sZ (bK (bG [8,9] lz) (ab (aa 8) (ab (aa 25) ag))) (aa 67)) (a_ (aa 25)) 400) (bC ag))
noncomputable def C8:EM:=(sX tp 0 152 44 ("law.<locals>.<lambda>":ae) 14 [8] (bK (bG [8,9] lz) (ab (aa 8) (ab (aa 14) ag))) (cH (aa 9) bb (bY (xk (.int 3))) bb))
noncomputable def Dh(Z:Pl):EM:=(bl [53] (bD cS (ab (xk (.int 4)) ag)) (.name 42) bw (a_ (ki Z)) 400)
noncomputable def h1:SM:=(λF st=>((bL (aa 64)) F st).bind λp=>cA (.name 65) (ao (λF st=>((bL (ay aX (aa 65) (bC (ab (xk (.str ("":ae))) ag)))) F st).bind λp=>cA (.name 14) (ao pushS aC) 400 p.1 F p.2)
 aC) 400 p.1 F p.2)
noncomputable def h2(Z:Pl):SM:=(λF st=>((bL (aa 64)) F st).bind λp=>cA (.name 42) (ao (bj 9 (Dh Z))
 (ao (λF st=>((bL (ay aX C8 (cH (aa 9) (bY (xk (.int 3))) bb bb))) F st).bind λp=>cA (.name 14) (ao pushS aC) 400 p.1 F p.2)
 aC)) 400 p.1 F p.2)
noncomputable def h3(Z:Pl):SM:=(bj 62 (bl [53] (bL (aa 64)) (.name 42) bw (a_ (Dh Z)) 400))
noncomputable def J1:aj->St->Option (Bool×St):=(aT c5 (bl [64] (bL (aa 62)) (.name 63) (ix (aT mC (cH (aa 63) bb (bY (xk (.int 3))) bb) (aa 64)) (ix (aT c5 (aH (aa 63) (xk (.int 3))) (xk (.str ("":ae)))) (λ_ st=>some (false,st)))) (a_ (aa 63)) 400) (bC ag))
noncomputable def y5:EM:=(bl [64] (bL (aa 62)) (.name 63) bw (a_ (bU ek bIndex (aa 64) (ab (cH (aa 63) bb (bY (xk (.int 3))) bb) ag))) 400)
noncomputable def h5:SM:=(gN (bU ek bAppend (aa 57) (ab y5 ag)))
noncomputable def DB(Z:Pl):SM:=(ao (cn J2 (ao (cy (xk (.bool false))) aC) aC) (ao h1 (ao (h2 Z) (ao (h3 Z) (ao (cn J1 (ao (cy (xk (.bool false))) aC) aC) (ao h5 aC))))))
theorem UL(Z:Pl):zx (bq Z.sA) (fw (T Z.X) Z.k)=λF st=>((bD fM (ab (aa 60) (ab (aa 59) ag))) F st).bind λp=>cA (.names [8,61]) (DB Z) 400 p.1 F p.2:=rfl
section
variable{Z:Pl}{ls:Nat}{sv:List aB}{G:Gm}{r:List Nat}{ln:Nat}(ns:List Int){w:List Nat}
theorem Jv(hw:w∈gb ns){n:List Nat}(J:n∈il ns){W:List Nat}:iz W (bG [8,9] lz) [sD w,sD n] (.bool (jU w n)):=Vw (aw (wQ ns w (Hb ns hw)) (by decide)) (aw (wQ ns n (name_mem ns J)) (by decide))
theorem M9(w:List Nat):(cV ns w).map Be=(il ns).map λn=>.bool (jU w n):=by unfold cV;rw[br];rfl
theorem WK{W:List Nat}(hw:w∈gb ns)(J:G 66=some (.d (.list ((il ns).map sD))))(R:G 8=some (.d (sD w)))(N:G 61=some (.d (sS ns w))):fb W G J2 false:=by
 have O:=pj (W:=W) (G:=G) (ks:=[25,67]) (fa:=ab (aa 66) (ab (aa 61) ag)) (aE (az J) (aE (az N) be));rw[M9,xi,br]at O;have hc:=pa (fv:=[8]) (t:=λ_:List Nat=>false) (h:=sD) (ti:=aT sZ (bK (bG [8,9] lz) (ab (aa 8) (ab (aa 25) ag))) (aa 67)) (fe:=aa 25) O (by rw[rH];decide) λn S=>⟨_,.two rfl rfl,by
  have:=d6 (W:=W) (G:=((G.only [8]).put 25 (.d (sD n))).put 67 (.d (.bool (jU w n)))) (ia (g:=bG [8,9] lz) (aE (az (k:=8) (show G 8=_ from R)) (aE (az (k:=25) rfl) be)) (Jv ns hw S)) (az (k:=67) rfl) (Py (jU w n) (jU w n));rwa[beq_self_eq_true]at this,λe=>absurd e (by decide)⟩
 rw[Fk.mpr λ_ _=>d9]at hc;exact d6 hc (e8 be (cJ _)) (ye (a:=[]) λ_ m=>absurd m a7)
theorem AW{W:List Nat}{k:Nat}(J:G 64=some (.d (lO ns))):fc W G (.name k) (bL (aa 64)) ((aZ.map λo=>fm ((dw ns o).map sD)).map .one):=iC (az J) rfl
theorem Xr(Y:PZ Z ls)(J:G 64=some (.d (lO ns)))(N:G 53=some (.v (.ref Z.lx)))(O:G 65=none)(R:G 14=none):dM (WZ Z ls) G (BI Z ls ⟨[],r,ln⟩ sv) (BI Z ls ⟨(aZ.map (cN ns)).flatten,r,ln⟩ sv) h1 G:=by
 refine qC (as:=(aZ.map λo=>fm ((dw ns o).map sD)).map .one) (λj=>BI Z ls ⟨((aZ.take j).map (cN ns)).flatten,r,ln⟩ sv) (sk (AW ns J) lJ) (show 6<400 by decide) λj a U=>?_;rw[br,dO]at U;refine aG (ji.mp U) λo ho S=>?_;subst S;have hm:=j8 ho;have e:((aZ.take (j+1)).map (cN ns)).flatten =((aZ.take j).map (cN ns)).flatten ++cN ns o:=by rw[nL,ho,dF,qe];simp
 refine⟨_,.one,qz (p9 (k:=65) (p:=.d (.list ((dw ns o).map sD))) ?_ O)⟩;rw[e];refine Ec (I:=BI Z ls ⟨((aZ.take j).map (cN ns)).flatten,r,ln⟩ sv) (ws:=cN ns o) Y (by rw[Gm.put,if_neg (by decide)];exact N) (by rw[Gm.put,if_neg (by decide)];exact R) (uW ?_ lJ) ?_
 ·have:=aM (W:=WZ Z ls) (G:=G.put 65 (.d (.list ((dw ns o).map sD)))) (az (k:=65) rfl) (e8 (ds:=[sD []]) (aE (dh lU) be) (show 1<=16777216 by decide)) (n5 (by rw[aQ,jC ns hm];decide))
  unfold cN;rw[dF];exact this
 ·have:=wG ns (aZ.take (j+1)) λx m=>Fo m
  rw[<-e,this,iE]
  have:min (j+1) aZ.length<=6:=j3 ..;exact bQ (h_ 4 this) (by decide)
theorem T6(O:PZ Z ls)(J:G 53=some (.v (.ref Z.lx)))(R:G 42=none){l:List (List Nat)}(hl:l.length=4){q:List (List Nat)}(S:(l++q).length <=10000):d3 (WZ Z ls) (WZ Z ls) G (BI Z ls ⟨l++q,r,ln⟩ sv) (BI Z ls ⟨q,r,ln⟩ sv) (Dh Z) (.list (l.map sD)):=by
 have hi:=oP (W:=WZ Z ls) (G:=G) (k:=42) (fa:=ab (xk (.int 4)) ag) (n:=4) (aE (aW 4) be) (by decide);have N:fc (WZ Z ls) G (.name 42) (bD cS (ab (xk (.int 4)) ag)) (((cF 4).map λj:Nat=>iS (j:Int)).map .one):=by rw[br];exact hi
 exact Js O (xy (Z:=Z) sN J rfl rfl N (by rw[aQ,eI,hl]) (by rw[aQ,eI];decide) (z9 O q r ln l S))
theorem UG(R:PZ Z ls){I:Ls}(hw:w∈gb ns){o:List Nat}(ho:o∈aZ)(S:G 8=some (.d (sD w)))(U:G 9=some (.d (.list ((cN ns o).map sD)))):d3 (WZ Z ls) (WZ Z ls) G (BI Z ls I sv) (BI Z ls I sv) C8 (.list ((dw ns (c4 (cV ns w) o)).map sD)):=by
 have N:bh (WZ Z ls) G (cH (aa 9) bb (bY (xk (.int 3))) bb) (.list ((dw ns o).map sD)):=by
  have hl:(cN ns o).length =4:=by unfold cN;rw[aP,jC ns ho];rfl
  have:=iT (W:=WZ Z ls) (az U) dR (fT (aW 3)) dR (yU 3 (by rw[aQ,hl];decide));rwa[<-wN,Ew ns ho]at this
 have J:=pF o ho;refine sP (uN ns w) λx y z ec hb=>?_;refine lT (qY (sJ o ho)) λa b c e=>?_;subst e
 ·skip
  have Y:=hb a (J a (by simp));have O:=hb b (J b (by simp));have hc:=hb c (J c (by simp));have key:=E6 (W:=WZ Z ls) (G:=G) (kp:=14) (fv:=[8]) (fe:=bK (bG [8,9] lz) (ab (aa 8) (ab (aa 14) ag))) (fa:=cH (aa 9) bb (bY (xk (.int 3))) bb) (mk:=sD) (key:=λn=>.bool (jU w n)) (cmp:=tp) (ln:=152) (co:=44) (bs:=dw ns [a,b,c]) (lt:=ltB [cf (cV ns w) a,cf (cV ns w) b,cf (cV ns w) c]) (is:=eF (cf [cf (cV ns w) a,cf (cV ns w) b,cf (cV ns w) c]) [0,1,2]) (I:=BI Z ls I sv) (by simp) lJ (λ_ _ k t i=>Vv R i k t) (λ_ i=>i.ti) (.inl N)
   (λn hn=>ia (aE (az (show G 8=_ from S)) (aE (az rfl) be)) (Jv ns hw (G0 ns ho hn))) (by rw[jC ns ho];decide) (λst kvs rv=>Sy (by
    rw[Y,O,hc];exact rv)) (by rw[jC ns ho];exact Yg _ _ _) (λi m=>by rw[jC ns ho];exact VT (by decide) i m)
  have e:=XN (cf (cV ns w)) a b c (λp=>sD (mO ns p)) (iS 0);have e2:(dw ns (c4 (cV ns w) [a,b,c])).map sD=(eF (cf (cV ns w)) [a,b,c]).map λp=>sD (mO ns p):=by rw[Tx,br];rfl
  rw[e2,<-e];exact key
theorem Xf(U:PZ Z ls)(hw:w∈gb ns)(Y:G 64=some (.d (lO ns)))(R:G 53=some (.v (.ref Z.lx)))(h8:G 8=some (.d (sD w)))(n42:G 42=none)(n9:G 9=none)(n14:G 14=none):
 dM (WZ Z ls) G (BI Z ls ⟨(aZ.map (cN ns)).flatten,r,ln⟩ sv) (BI Z ls ⟨(aZ.map λo=>cN ns (c4 (cV ns w) o)).flatten,r,ln⟩ sv) (h2 Z) G:=by
 have J:=mw ns w;have h0:BI Z ls ⟨(aZ.map (cN ns)).flatten,r,ln⟩ sv=BI Z ls ⟨((aZ.drop 0).map (cN ns)).flatten ++(((aZ.take 0).map λo=>c4 (cV ns w) o).map (cN ns)).flatten,r,ln⟩ sv:=by
  rw[FG,fS,fS,List.flatten_nil,gj,An]
 have h6:BI Z ls ⟨(aZ.map λo=>cN ns (c4 (cV ns w) o)).flatten,r,ln⟩ sv=BI Z ls ⟨((aZ.drop 6).map (cN ns)).flatten ++(((aZ.take 6).map λo=>c4 (cV ns w) o).map (cN ns)).flatten,r,ln⟩ sv:=by
  rw[br];rfl
 rw[h0,h6];refine qC (as:=(aZ.map λo=>fm ((dw ns o).map sD)).map .one) (λj=>BI Z ls ⟨((aZ.drop j).map (cN ns)).flatten ++(((aZ.take j).map λo=>c4 (cV ns w) o).map (cN ns)).flatten,r,ln⟩ sv) (sk (AW ns Y) lJ) (show 6<400 by decide) λj a ha=>?_;rw[br,dO]at ha;refine aG (ji.mp ha) λo ho N=>?_;subst N;have hm:=j8 ho;have hj:j<6:=(fY.mp ho).1;have e0:aZ.drop j=o::aZ.drop (j+1):=by
  refine bO (fY.mp ho) λhj' e=>?_;rw[BB hj',e]
 have e1:(((aZ.take (j+1)).map λo=>c4 (cV ns w) o).map (cN ns)).flatten =(((aZ.take j).map λo=>c4 (cV ns w) o).map (cN ns)).flatten ++cN ns (c4 (cV ns w) o):=by rw[nL,ho,dF,dF,qe];simp
 have l1:=wG ns (aZ.drop (j+1)) λx m=>A9 m;have l2:=wG ns ((aZ.take (j+1)).map λo=>c4 (cV ns w) o) λx m=>by
  refine aG (dz.mp m) λy hy N=>?_;subst N;exact J y (Fo hy)
 rw[aQ,iE]at l2;rw[ez]at l1;rw[e1]at l2 ⊢;rw[e0,bX,gI,dm];have l6:aZ.length=6:=rfl;rw[l6]at l1 l2;generalize ((aZ.drop (j+1)).map (cN ns)).flatten =D at l1 ⊢;generalize (((aZ.take j).map λo=>c4 (cV ns w) o).map (cN ns)).flatten =P at l2 ⊢;rw[aP]at l2;have O:(cN ns o).length =4:=by unfold cN;rw[aP,jC ns hm];rfl
 have hl5:(cN ns (c4 (cV ns w) o)).length =4:=by unfold cN;rw[aP,jC ns (J o hm)];rfl
 let G1:=G.put 42 (.d (.list ((dw ns o).map sD)));refine⟨G1,.one,p9 (k:=42) (p:=.d (.list ((dw ns o).map sD))) (G:=G) ?_ n42⟩;have hg:∀(G':Gm),G' 53=some (.v (.ref Z.lx))->d3 (WZ Z ls) (WZ Z ls) G' (BI Z ls ⟨cN ns o++(D++P),r,ln⟩ sv) (BI Z ls ⟨D++P,r,ln⟩ sv) (bl [53] (bD cS (ab (xk (.int 4)) ag)) (.name 42) bw (a_ (ki Z)) 400) (.list ((cN ns o).map sD)):=λG' h=>by
  have hi:=oP (W:=WZ Z ls) (G:=G') (k:=42) (fa:=ab (xk (.int 4)) ag) (n:=4) (aE (aW 4) be) (by decide);have hi':fc (WZ Z ls) G' (.name 42) (bD cS (ab (xk (.int 4)) ag)) (((cF 4).map λj:Nat=>iS (j:Int)).map .one):=by rw[br];exact hi
  exact Js U (xy (Z:=Z) sN h rfl rfl hi' (by rw[aQ,eI,O]) (by rw[aQ,eI];decide) (z9 U (D++P) r ln (cN ns o) (by rw[aP,aP,O];exact dx (a6 4) (fV (aw (bS l1) (h_ 4 (iU ..))) (aw (c8 ..) (aw (bS l2) (h_ 4 (j3 ..))))) (by decide))))
 refine ph (z4 (k:=9) (hg G1 R)) (qz ?_);refine p9 (k:=9) (p:=.d (.list ((cN ns o).map sD))) ?_ (show(if 9=42 then _ else G 9)=none from n9);have S:=Ec (G:=G1.put 9 (.d (.list ((cN ns o).map sD)))) (I:=BI Z ls ⟨D++P,r,ln⟩ sv) (f:=ay aX C8 (cH (aa 9) (bY (xk (.int 3))) bb bb)) (ws:=cN ns (c4 (cV ns w) o)) (q:=D++P) (r:=r) (ln:=ln) (sv:=sv) U R n14 ?_ (by rw[aP,aP,hl5];exact bQ (iR (fV (aw (bS l1) (h_ 4 (iU ..))) (aw (c8 ..) (aw (bS l2) (h_ 4 (j3 ..))))) 4) (by decide))
 ·rw[dm]at S
  exact S
 ·have hsl:bh (WZ Z ls) (G1.put 9 (.d (.list ((cN ns o).map sD)))) (cH (aa 9) (bY (xk (.int 3))) bb bb) (.list ([[]].map sD)):=by
   have:=iT (W:=WZ Z ls) (G:=G1.put 9 (.d (.list ((cN ns o).map sD)))) (az (k:=9) rfl) (fT (aW 3)) dR dR (qG 3 (by rw[aQ,O];decide));rwa[<-r_,Me ns hm]at this
  have:=yC (V:=WZ Z ls) (λ_ m=>m) lJ (UG ns (G:=G1.put 9 (.d (.list ((cN ns o).map sD)))) (I:=⟨D++P,r,ln⟩) (sv:=sv) U hw hm h8 rfl) (uW hsl lJ) (n5 (by rw[aQ,jC ns (J o hm)];decide));rw[<-dF]at this;exact this
end
noncomputable def jR(ns:List Int)(w:List Nat)(o:List Nat):List (List Nat):=cN ns (c4 (cV ns w) o)
noncomputable abbrev nd(ns:List Int)(w:List Nat):aB:=.list (aZ.map λo=>.list ((jR ns w o).map sD))
noncomputable abbrev mD(ns:List Int)(w:List Nat):aB:=.list ((kX (cV ns w)).map nD)
theorem QI:∀o∈aZ,aZ.findIdx? (·==o)=some (zH o):=by decide
section
variable{Z:Pl}{ls:Nat}{sv:List aB}{G:Gm}{r:List Nat}{ln:Nat}(ns:List Int){w:List Nat}
theorem Br{o:List Nat}(h:o∈aZ):(jR ns w o).length =4:=by
 unfold jR cN;rw[aP,jC ns (mw ns w o h)];rfl
theorem W7(S:PZ Z ls)(N:G 64=some (.d (lO ns)))(O:G 53=some (.v (.ref Z.lx))):dM (WZ Z ls) G (BI Z ls ⟨(aZ.map (jR ns w)).flatten,r,ln⟩ sv) (BI Z ls ⟨[],r,ln⟩ sv) (h3 Z) (G.put 62 (.d (nd ns w))):=by
 refine z4 ?_;refine HK (W:=WZ Z ls) (as:=aZ.map λo=>fm ((dw ns o).map sD)) (λj=>BI Z ls ⟨((aZ.drop j).map (jR ns w)).flatten,r,ln⟩ sv) (λj=>.list ((jR ns w (aZ.getD j [])).map sD)) (AW ns N) (show 6<400 by decide) rfl lJ lJ λj J=>?_;have J:j<aZ.length:=by rw[aQ]at J;exact J
 have ho:aZ.getD j []=aZ[j]:=by rw[jg,kF J];rfl
 rw[BB J,bX,gI,ho];have hm:=AI J;have l1:=wG ns ((aZ.drop (j+1)).map (c4 (cV ns w))) λx m=>by
  refine aG (dz.mp m) λy U R=>?_;subst R;exact mw ns w y (A9 U)
 rw[br,aQ,ez]at l1;refine T6 (G:=G.only [53]) S (show G 53=_ from O) rfl (Br ns hm) ?_;rw[aP,Br ns hm];have Y:aZ.length=6:=rfl;have l2:((aZ.drop (j+1)).map (jR ns w)).flatten.length =4*(aZ.length -(j+1)):=l1;rw[l2,Y];exact dx (a6 4) (h_ 4 (iU ..)) (by decide)
theorem EZ{W:List Nat}{G:Gm}{o:List Nat}(ho:o∈aZ)(h:G 63=some (.d (.list ((jR ns w o).map sD)))):bh W G (cH (aa 63) bb (bY (xk (.int 3))) bb) (.list ((dw ns (c4 (cV ns w) o)).map sD)):=by
 have:=iT (W:=W) (az h) dR (fT (aW 3)) dR (yU 3 (by rw[aQ,Br ns ho];decide));rwa[<-wN,show(jR ns w o).take 3=dw ns (c4 (cV ns w) o)from Ew ns (mw ns w o ho)]at this
theorem GP{W:List Nat}(J:G 62=some (.d (nd ns w))):fc W G (.name 63) (bL (aa 62)) (aZ.map λo=>.one (.list ((jR ns w o).map sD))):=by
 have:=iC (W:=W) (tg:=.name 63) (az J) rfl;rwa[br]at this
theorem wo:eA (aZ.map λo=>fm ((dw ns o).map sD))=true/\dW (aZ.map λo=>fm ((dw ns o).map sD))<=1:=by
 have e:(aZ.map λo=>fm ((dw ns o).map sD))=(aZ.map (dw ns)).map λt=>.list (t.map sD):=by rw[br];rfl
 rw[e];exact⟨EO λt m=>by
  refine aG (dz.mp m) λo ho J=>?_;subst J;exact xU ns ho,Mr _⟩
theorem Eb{o:List Nat}(h:o∈aZ):(fm ((dw ns o).map sD)).canLay0 =true:=by rw[ky,xB (xU ns h)]
theorem VX{W:List Nat}(J:G 64=some (.d (lO ns)))(N:G 62=some (.d (nd ns w))):fb W G J1 false:=by
 have hc:=pa (W:=W) (G:=G) (fv:=[64]) (t:=λ_:List Nat=>false) (h:=λo=>.list ((jR ns w o).map sD)) (ti:=(ix (aT mC (cH (aa 63) bb (bY (xk (.int 3))) bb) (aa 64)) (ix (aT c5 (aH (aa 63) (xk (.int 3))) (xk (.str ("":ae)))) (λ_ st=>some (false,st))))) (fe:=aa 63) (GP ns N) (show 6<400 by decide) λo ho=>⟨_,.one rfl,by
  have h1:=d6 (W:=W) (G:=(G.only [64]).put 63 (.d (.list ((jR ns w o).map sD)))) (EZ ns ho rfl) (az (k:=64) (show G 64=_ from J)) (Nh ⟨by rw[FJ];decide,aw (wo ns).2 (by decide)⟩ ⟨(wo ns).1,Eb ns (mw ns w o ho)⟩);have a1:((aZ.map λo=>fm ((dw ns o).map sD)).any λy=>c6 y (.list ((dw ns (c4 (cV ns w) o)).map sD)))=true:=by
   rw[Qz,List.any_eq_true];exact⟨_,mw ns w o ho,by rw[PX,HD,beq_self_eq_true]⟩
  rw[a1]at h1;have O:((jR ns w o).map sD)[3]?=some (sD []):=by
   unfold jR cN;rw[dO,jj (by rw[jC ns (mw ns w o ho)];decide),jC ns (mw ns w o ho)];rfl
  have h2:=d6 (W:=W) (G:=(G.only [64]).put 63 (.d (.list ((jR ns w o).map sD)))) (aM (az (k:=63) rfl) (aW 3) (ei 3 O (by decide))) (dh lU) (Cx [] []);exact sU h1 λ_=>sU h2 λ_=>uD,λe=>absurd e (by decide)⟩
 rw[Fk.mpr λ_ _=>d9]at hc;exact d6 hc (e8 be (cJ _)) (ye (a:=[]) λ_ m=>absurd m a7)
theorem We{W:List Nat}(J:G 64=some (.d (lO ns)))(N:G 62=some (.d (nd ns w))):bh W G y5 (mD ns w):=by
 have hc:=fD (W:=W) (G:=G) (fv:=[64]) (h:=λo=>nD (zH (c4 (cV ns w) o))) (fe:=bU ek bIndex (aa 64) (ab (cH (aa 63) bb (bY (xk (.int 3))) bb) ag)) (GP ns (w:=w) N) (show 6<400 by decide) λo ho=>⟨_,.one rfl,?_⟩
 ·show bh W G y5 (.list ((aZ.map λo=>zH (c4 (cV ns w) o)).map nD))
  rw[br];exact hc
 ·refine sr (az (k:=64) (show G 64=_ from J)) T8 (aE (EZ ns ho rfl) be) (Oj ⟨aw (wo ns).2 (by decide),by rw[FJ];decide⟩ ⟨(wo ns).1,Eb ns (mw ns w o ho)⟩ (by rw[aQ];decide) ?_)
  rw[QU,<-QI _ (mw ns w o ho)];refine Eh λo' O=>?_;rw[PX,HD];refine qv.mpr ⟨λh=>?_,λh=>?_⟩
  ·rw[E5 ns (pF o' O) (pF _ (mw ns w o ho)) (eq_of_beq h)];exact beq_self_eq_true _
  ·rw[eq_of_beq h];exact beq_self_eq_true _
theorem Xp(S:PZ Z ls){s:Ls}(hl:sv.length<=100)(U:G 57=some (.v (.ref ls)))(Y:G 64=some (.d (lO ns)))(h62:G 62=some (.d (nd ns w))):dM (WZ Z ls) G (BI Z ls s sv) (BI Z ls s (sv++[mD ns w])) h5 G:=λF st g i=>by
 refine aG i.ss λxs hx _=>?_;refine Ok.fJ (Ok.bind' ?_);rw[show aa 57 F st=some (.ref ls,st) by rw[bP,g.av U];rfl];show Ok ((ek (.ref ls) st).bind _) _;rw[nF _ _ _ hx];show Ok ((ab y5 ag F st).bind _) _;refine Ok.bind' (Ok.bind' ((We (W:=WZ Z ls) ns Y h62 F st g).mono λq hq=>?_));obtain⟨v,st1⟩:=q;have k1:aN [] st st1:=hq.1;have i1:=lJ k1 i;refine aG i1.ss λJ N R=>?_;show Ok (bAppend [.ref ls,v] st1) _;rw[rM J ls v st1 N (by rw[R.len];exact aw hl (by decide))];have O:aN [ls] st1 (st1.set ls (.list (J++[v]))):=lC (cj ..);have kW:aN (WZ Z ls) st1 (st1.set ls (.list (J++[v]))):=O.sub λx m=>by rw[cx.mp m];simp
 have n:∀x∈LV Z,x∉[ls]:=λx m z=>S.l1 (cx.mp z▸m);refine⟨rfl,k1.any.trans kW,(g.cZ k1).keep kW,?_,?_,J++[v],?_,?_⟩
 ·refine jl i1.li λp a L c hb=>?_
  exact⟨p,a,⟨O.cW (λz=>S.lx (cx.mp z)) L.inst,O.cW (n _ (Dp Z)) L.dict,L.pl.imp λps q=>⟨q.1,O.cW (n _ (DC Z)) q.2⟩⟩,c,O.cW (n _ (Dx Z)) hb⟩
 ·exact xR O (λz=>S.l0 (cx.mp z).symm) (λv m=>by rw[cx.mp m,N];exactλe=>nomatch e) i1.ti
 ·rw[get_set,if_pos rfl,if_pos (gn N)]
 ·exact aR.keep kW (R.app (.cons hq.2 .nil))
theorem U3(U:PZ Z ls)(hw:w∈gb ns)(hl:sv.length<=100)(Y:G 66=some (.d (.list ((il ns).map sD))))(h57:G 57=some (.v (.ref ls)))(J:G 64=some (.d (lO ns)))(N:G 53=some (.v (.ref Z.lx)))(h8:G 8=some (.d (sD w)))(h61:G 61=some (.d (sS ns w)))(n65:G 65=none)(O:G 14=none)(n42:G 42=none)(n9:G 9=none)(n62:G 62=none):
 dM (WZ Z ls) G (BI Z ls ⟨[],r,ln⟩ sv) (BI Z ls ⟨[],r,ln⟩ (sv++[mD ns w])) (DB Z) G:=by
 refine ph (AF (WK ns hw Y h8 h61) lJ) (ph (Xr ns U J N n65 O) (ph (Xf ns U hw J N h8 n42 n9 O) (ph (W7 ns (w:=w) U J N) ?_)));have R:(G.put 62 (.d (nd ns w))) 64=some (.d (lO ns)):=by rw[Gm.put,if_neg (by decide)];exact J
 have p57:(G.put 62 (.d (nd ns w))) 57=some (.v (.ref ls)):=by rw[Gm.put,if_neg (by decide)];exact h57
 have S:(G.put 62 (.d (nd ns w))) 62=some (.d (nd ns w)):=by rw[Gm.put,if_pos rfl]
 exact p9 (k:=62) (p:=.d (nd ns w)) (ph (AF (VX ns R S) lJ) (qz (Xp ns U hl p57 R S))) n62
theorem Wv(hp:PZ Z ls)(J:G 60=some (.d (.list ((gb ns).map sD))))(N:G 59=some (.d (vk ns)))(O:G 66=some (.d (.list ((il ns).map sD))))(R:G 57=some (.v (.ref ls)))(S:G 64=some (.d (lO ns)))(U:G 53=some (.v (.ref Z.lx)))(n8:G 8=none)(Y:G 61=none)(n65:G 65=none)(n14:G 14=none)(n42:G 42=none)(n9:G 9=none)(n62:G 62=none):
 dM (WZ Z ls) G (BI Z ls ⟨[],r,ln⟩ []) (BI Z ls ⟨[],r,ln⟩ ((gb ns).map (mD ns))) (zx (bq Z.sA) (fw (T Z.X) Z.k)) G:=by
 have hz:=pj (W:=WZ Z ls) (G:=G) (ks:=[8,61]) (fa:=ab (aa 60) (ab (aa 59) ag)) (aE (az J) (aE (az N) be));rw[xi,br]at hz;rw[UL];have key:=qC (W:=WZ Z ls) (G:=G) (b:=DB Z) (λj=>BI Z ls ⟨[],r,ln⟩ (((gb ns).take j).map (mD ns))) (sk hz lJ) (by rw[aQ,wB];decide) λj a ha=>by
  rw[dO]at ha;refine aG (ji.mp ha) λw hw zq2=>?_;subst zq2;have hm:=j8 hw;refine⟨(G.put 8 (.d (sD w))).put 61 (.d (sS ns w)),.two,?_⟩;have e:((gb ns).take (j+1)).map (mD ns)=((gb ns).take j).map (mD ns)++[mD ns w]:=by rw[nL,hw,dF];rfl
  rw[e];have:=U3 (Z:=Z) (r:=r) (ln:=ln) (sv:=((gb ns).take j).map (mD ns)) (G:=(G.put 8 (.d (sD w))).put 61 (.d (sS ns w))) ns hp hm (by rw[aQ,iE,wB];exact aw (j3 ..) (by decide)) O R S U rfl rfl n65 n14 n42 n9 n62;exact yj this λi q e=>Gm.xX n8 Y e
 rw[aQ,uo]at key;exact key
end
theorem O3:∀l:List Int,eA (l.map .int)=true:=by
 intro l;induction l with
 |nil=>
  rw[fS,eA]
 |cons a l J=>
  rw[bX,eA,ky,J];rfl
theorem QX:∀l:List Int,dW (l.map .int)=0:=by
 intro l;induction l with
 |nil=>
  rw[fS,dW]
 |cons a l J=>
  rw[bX,dW,iF,J];rfl
theorem oM(l:List Int):jE (.list (l.map .int))=true/\(fm (l.map .int)).depth <=4:=by
 have e:(fm (l.map .int)).depth =1:=by rw[iF,QX]
 refine⟨?_,by rw[e];decide⟩;unfold jE;rw[ky,O3 l,e];rfl
theorem GO:∀a:List Int,jY (a.map .int) (a.map .int)=true:=by
 intro a;induction a with
 |nil=>
  rw[fS,jY]
 |cons a l J=>
  rw[bX,jY,c6,J,beq_self_eq_true];rfl
section
variable{W:List Nat}
theorem HJ(a:List Int):cO W c5 (.list (a.map .int)) (.list (a.map .int)) (.bool false):=by
 have:=yp (W:=W) (a:=.list (a.map .int)) (b:=.list (a.map .int)) ⟨(oM a).2,(oM a).2⟩ ⟨(oM a).1,(oM a).1⟩ (.inl ⟨_,rfl⟩);rwa[c6,GO]at this
theorem S4(a:List Int):cO W oEq (.list (a.map .int)) (.list (a.map .int)) (.bool true):=by
 have:=CL (W:=W) (a:=.list (a.map .int)) (b:=.list (a.map .int)) ⟨(oM a).2,(oM a).2⟩ ⟨(oM a).1,(oM a).1⟩ (.inl ⟨_,rfl⟩);rwa[c6,GO]at this
theorem wC(l:List Nat):l.map nD=(l.map λn:Nat=>(n:Int)).map .int :=by rw[br];rfl
theorem Iq(a:List Nat):cO W c5 (.list (a.map nD)) (.list (a.map nD)) (.bool false):=by rw[wC];exact HJ _
theorem Mv:∀o∈aZ,∀p,p<3->iz W uJ [.tuple (o.map nD),nD p] (nD (o.findIdx (·==p))):=λo ho p J=>y7 λst x y bd R S=>by
 refine fF R.t' λl xs N n e r=>?_;subst N;cases S.i'
 have U:xs=o.map λn:Nat=>AV.int (n:Int):=by
  rw[wC]at r;rw[r.ints,br];rfl
 subst U;refine Ok.of (a:=(.int ((o.findIdx (·==p):Nat):Int),st)) ?_ ⟨.rfl',.int _⟩;show(eo st l).bind _=_;rw[kO e];have all:∀o∈aZ,∃a b c:Nat,o=[a,b,c]/\∀p:Nat,p<3->vV (p:Int) a b c=some (o.findIdx (·==p)):=λo ho=>by
  simp only[aZ,bJ,a7,or_false]at ho;have Y:∀{P:Nat->Prop},P 0->P 1->P 2->∀p,p<3->P p:=λh0 h1 h2 p J=>vG h0 h1 h2 J;rcases ho with rfl|rfl|rfl|rfl|rfl|rfl<;>exact⟨_,_,_,rfl,Y rfl rfl rfl⟩
 refine sP (all o ho) λa b c O hi=>?_;subst O;show(vV (p:Int) a b c).map (λ(j:Nat)=>(AV.int (j:Int),st))=_;rw[hi p J];rfl
end
noncomputable def qK(bs:List Bool)(k:Nat):Nat:=(kX bs).getD k 0
theorem MZ:∀x0 J z0 x1 N O R S U:Bool,∀k:Fin 6,aZ[qK [R,S,U] (qK [x1,N,O] (qK [x0,J,z0] k.val))]?=some (c4 [R,S,U] (c4 [x1,N,O] (c4 [x0,J,z0] (aZ.getD k.val [])))):=by decide+kernel
theorem n_:∀x y z:Bool,∀k:Fin 6,(kX [x,y,z])[k.val]?=some (qK [x,y,z] k.val)/\qK [x,y,z] k.val<6:=by decide+kernel
theorem SI:∀x0 J z0 x1 N O R S U:Bool,∀o∈aZ,(eF (cf (o.map (cf [R,S,U]))) (eF (cf (o.map (cf [x1,N,O]))) (eF (cf (o.map (cf [x0,J,z0]))) [0,1,2]))).map (λi=>o.getD i 0)=c4 [R,S,U] (c4 [x1,N,O] (c4 [x0,J,z0] o)):=by decide+kernel
theorem I9:∀x0 J z0 x1 N O R S U:Bool,∀i∈eF (cf [R,S,U]) (eF (cf [x1,N,O]) (eF (cf [x0,J,z0]) [0,1,2])),i<3:=by decide+kernel
noncomputable def kK(ns:List Int):List (List Bool):=(gb ns).map (cV ns)
noncomputable abbrev l_(cs:List (List Bool)):aB:=.list (cs.map λc=>.list (c.map .bool))
noncomputable abbrev mP(cs:List (List Bool)):aB:=.list (cs.map λc=>.list ((kX c).map nD))
theorem Rf(ns:List Int):vk ns=l_ (kK ns):=by unfold kK;rw[l_,br];rfl
theorem NZ(ns:List Int):fm ((gb ns).map (mD ns))=mP (kK ns):=by unfold kK;rw[mP,br];rfl
noncomputable abbrev C9:=Bool×Bool×Bool
noncomputable def cL(c:C9):List Bool:=[c.1,c.2.1,c.2.2]
theorem IB(ns:List Int):∃a b c:C9,kK ns=[cL a,cL b,cL c]:=by
 have h:=wB ns;unfold kK;refine lT (qY h) λu v w e=>?_;rw[e]
 ·refine sP (uN ns u) λx0 J z0 N _=>?_
  refine sP (uN ns v) λx1 O R S _=>?_;refine sP (uN ns w) λU Y z2 e2 _=>?_;exact⟨(x0,J,z0),(x1,O,R),(U,Y,z2),by rw[bX,bX,bX,N,S,e2];rfl⟩
theorem I8(c:C9){p:Nat}(J:p<3):((cL c).map Be)[p]?=some (.bool (cf (cL c) p)):=vG (P:=λp=>((cL c).map Be)[p]?=some (.bool (cf (cL c) p))) rfl rfl rfl J
noncomputable def JW:EM:=(sX tA 0 159 32 ("law.<locals>.<lambda>":ae) 26 [59,56] (de (ab (aH (aH (aa 59) (xk (.int 2))) (aa 26)) (ab (aH (aH (aa 59) (xk (.int 1))) (aa 26)) (ab (aH (aH (aa 59) (xk (.int 0))) (aa 26)) (ab (bU vA uJ (aa 56) (ab (aa 26) ag)) ag))))) (aa 56))
noncomputable def JT:EM:=(bK yE (ab (aH (aa 55) (aH (aH (aa 57) (xk (.int 2))) (aH (aH (aa 57) (xk (.int 1))) (aH (aH (aa 57) (xk (.int 0))) (aa 24))))) ag))
noncomputable def J0:SM:=(ao (bj 58 JW) (ao (cn (aT c5 JT (aa 58)) (ao (cy (xk (.bool false))) aC) aC) aC))
theorem VZ:zz=λF st=>((bD lV (ab (aa 55) ag)) F st).bind λp=>cA (.names [24,56]) J0 400 p.1 F p.2:=rfl
section
variable{W:List Nat}{G:Gm}{I:St->Prop}{a b c:C9}
theorem CC{c:C9}{l:List C9}{j p:Nat}{k:Nat}(S:l[j]?=some c)(R:p<3)(J:j<3)(N:G 59=some (.d (l_ (l.map cL))))(O:G 26=some (.d (nD p))):bh W G (aH (aH (aa 59) (xk (.int (j:Nat)))) (aa 26)) (.bool (cf (cL c) p)):=
 aM (aM (az N) (aW j) (ei j (by rw[br,dO,S];rfl) (du J (by decide)))) (az O) (ei p (I8 c R) (du R (by decide)))
theorem U_(h0:0∈W)(sI:gQ I)(hI:∀a b,aN [0] a b->TI b->I a->I b)(hT:∀a,I a->TI a){o:List Nat}(ho:o∈aZ)(S:G 59=some (.d (l_ ([a,b,c].map cL))))(O:G 56=some (.d (.tuple (o.map nD)))):
 d3 W W G I I JW (.list ((c4 (cL c) (c4 (cL b) (c4 (cL a) o))).map nD)):=by
 have N:=pF o ho;have U:=sJ o ho;obtain⟨p,q,r,rfl⟩:=qY U;have hlen:([p,q,r]:List Nat).length =3:=rfl;have e:=SI a.1 a.2.1 a.2.2 b.1 b.2.1 b.2.2 c.1 c.2.1 c.2.2 [p,q,r] ho;have key:=E6 (W:=W) (G:=G) (kp:=26) (fv:=[59,56]) (fe:=de (ab (aH (aH (aa 59) (xk (.int 2))) (aa 26)) (ab (aH (aH (aa 59) (xk (.int 1))) (aa 26)) (ab (aH (aH (aa 59) (xk (.int 0))) (aa 26)) (ab (bU vA uJ (aa 56) (ab (aa 26) ag)) ag))))) (fa:=aa 56) (mk:=nD) (key:=λn:Nat=>.tuple [.bool (cf (cL c) n),.bool (cf (cL b) n),.bool (cf (cL a) n),nD ([p,q,r].findIdx (·==n))]) (cmp:=tA) (ln:=159) (co:=32) (bs:=[p,q,r])
  (lt:=DF [(cf (cL c) p,cf (cL b) p,cf (cL a) p,0),(cf (cL c) q,cf (cL b) q,cf (cL a) q,1),(cf (cL c) r,cf (cL b) r,cf (cL a) r,2)]) (is:=eF (cf ([p,q,r].map (cf (cL c)))) (eF (cf ([p,q,r].map (cf (cL b)))) (eF (cf ([p,q,r].map (cf (cL a)))) [0,1,2]))) (I:=I) h0 sI hI hT (.inr (az O))
  (λn R=>by
   have J:((G.only [59,56]).put 26 (.d (nD n))) 59=some (.d (l_ ([a,b,c].map cL))):=S;exact oj (aE (CC (k:=0) (l:=[a,b,c]) (j:=2) rfl (N n R) (by decide) J rfl) (aE (CC (k:=0) (l:=[a,b,c]) (j:=1) rfl (N n R) (by decide) J rfl) (aE (CC (k:=0) (l:=[a,b,c]) (j:=0) rfl (N n R) (by decide) J rfl) (aE (sr (az (show G 56=_ from O)) UC (aE (az rfl) be) (Mv _ ho n (N n R))) be)))) (show 4<=16777216 by decide))
  (show 2<=3/\3<64 by decide) (λst kvs rv=>Tf (W:=W) (st:=st) (by
   have all:∀o∈aZ,o.map (λn=>o.findIdx (·==n))=[0,1,2]:=by decide
   have Y:=all _ ho;have e0:[p,q,r].findIdx (·==p)=0:=(nS Y).1;have e1:[p,q,r].findIdx (·==q)=1:=(nS (nS Y).2).1;have e2:[p,q,r].findIdx (·==r)=2:=(nS (nS (nS Y).2).2).1;rw[bX,bX,bX,e0,e1,e2]at rv;exact rv)) (XX _ _ _ _ _ _ _ _ _) (λi m=>I9 _ _ _ _ _ _ _ _ _ i m)
 have e2:(c4 (cL c) (c4 (cL b) (c4 (cL a) [p,q,r]))).map nD=(eF (cf ([p,q,r].map (cf (cL c)))) (eF (cf ([p,q,r].map (cf (cL b)))) (eF (cf ([p,q,r].map (cf (cL a)))) [0,1,2]))).map λi=>([p,q,r].map nD).getD i (.int 0):=by
  refine(congrArg (xG nD) e.symm).trans ?_;rw[br];refine xe λi m=>?_;have hi:i<3:=I9 _ _ _ _ _ _ _ _ _ i m;clear m;exact vG rfl rfl rfl hi
 rw[e2];exact key
theorem BP{c:C9}{l:List C9}{j:Nat}{fe:EM}{k:Fin 6}(O:l[j]?=some c)(J:j<3)(N:G 57=some (.d (mP (l.map cL))))(he:bh W G fe (nD k.val)):bh W G (aH (aH (aa 57) (xk (.int (j:Nat)))) fe) (nD (qK (cL c) k.val)):=
 aM (aM (az N) (aW j) (ei j (by rw[br,dO,O];rfl) (du J (by decide)))) he (ei k.val (by rw[dO];exact congrArg (lD nD) (n_ c.1 c.2.1 c.2.2 k).1) (du k.isLt (by decide)))
theorem Uq(h0:0∈W)(U:gQ I)(hI:∀a b,aN [0] a b->TI b->I a->I b)(hT:∀a,I a->TI a)(R:G 55=some (.d oB))(Y:G 59=some (.d (l_ ([a,b,c].map cL))))(N:G 57=some (.d (mP ([a,b,c].map cL))))(n24:G 24=none)(n56:G 56=none)(n58:G 58=none):dM W G I I zz G:=by
 have hi:=xr (W:=W) (G:=G) (ks:=[24,56]) (fa:=ab (aa 55) ag) (aE (az R) be);rw[VZ];refine qC (W:=W) (G:=G) (I:=I) (b:=J0) (λ_=>I) (sk hi U) (show 6<400 by decide) λj x hx=>?_;rw[dO,List.getElem?_zipIdx,dO]at hx;refine aG (ji.mp hx) λy hy J=>?_;subst J;refine aG (ji.mp hy) λz hz J=>?_;subst J;refine aG (ji.mp hz) λo ho J=>?_;subst J;have hm:=j8 ho;have O:j<6:=(fY.mp ho).1;rw[hH];refine⟨(G.put 24 (.d (nD j))).put 56 (.d (.tuple (o.map nD))),.two,?_⟩;have s1:=z4 (k:=58) (U_ (W:=W) (G:=(G.put 24 (.d (nD j))).put 56 (.d (.tuple (o.map nD)))) (a:=a) (b:=b) (c:=c) h0 U hI hT hm Y rfl);have hod:aZ.getD j []=o:=by rw[jg,ho];rfl
 have S:=MZ a.1 a.2.1 a.2.2 b.1 b.2.1 b.2.2 c.1 c.2.1 c.2.2 ⟨j,O⟩;rw[show aZ.getD (⟨j,O⟩:Fin 6).val []=o from hod]at S;let G1:=((G.put 24 (.d (nD j))).put 56 (.d (.tuple (o.map nD)))).put 58 (.d (.list ((c4 (cL c) (c4 (cL b) (c4 (cL a) o))).map nD)));have hg:bh W G1 JT (.list ((c4 (cL c) (c4 (cL b) (c4 (cL a) o))).map nD)):=by
  have k0:=BP (W:=W) (G:=G1) (l:=[a,b,c]) (j:=0) (c:=a) (fe:=aa 24) (k:=⟨j,O⟩) rfl (by decide) N (az rfl);have k1:=BP (W:=W) (G:=G1) (l:=[a,b,c]) (j:=1) (c:=b) (k:=⟨_,(n_ a.1 a.2.1 a.2.2 ⟨j,O⟩).2⟩) rfl (by decide) N k0;have k2:=BP (W:=W) (G:=G1) (l:=[a,b,c]) (j:=2) (c:=c) (k:=⟨_,(n_ b.1 b.2.1 b.2.2 ⟨_,(n_ a.1 a.2.1 a.2.2 ⟨j,O⟩).2⟩).2⟩) rfl (by decide) N k1;have l3:=(n_ c.1 c.2.1 c.2.2 ⟨_,(n_ b.1 b.2.1 b.2.2 ⟨_,(n_ a.1 a.2.1 a.2.2 ⟨j,O⟩).2⟩).2⟩).2;exact ia (aE (aM (az (k:=55) (show G 55=_ from R)) k2 (ei _ (by rw[dO];exact congrArg (lD _) S) (du l3 (by decide)))) be) (RH (by
   have e1:=yi a.1 a.2.1 a.2.2 o hm;have e2:=yi b.1 b.2.1 b.2.2 _ e1;have e3:=yi c.1 c.2.1 c.2.2 _ e2;rw[aQ];exact aw (bS (sJ _ e3)) (by decide)))
 have s2:=qz (AF (I:=I) (G:=G1) (x:=ao (cy (xk (.bool false))) aC) (d6 hg (az (k:=58) rfl) (Iq _)) U);exact yj (ph s1 s2) λi q e=>by
  show G1 i=some q;show(if i=58 then _ else(if i=56 then _ else(if i=24 then _ else G i)))=some q;rw[if_neg (λz=>by rw[z,n58]at e;cases e),if_neg (λz=>by rw[z,n56]at e;cases e),if_neg (λz=>by rw[z,n24]at e;cases e)];exact e
end
theorem MB(N f:Nat)(h:N<16777216)(hf:f<4)(it l i:Nat)(xs rest:List AV)(st:St)(U:it≠l)(hl:st[l]?=some (.list xs))(hi:st[it]?=some (.c_ l i))(hx:xs.drop i=((dD N f).map λb:Nat=>AV.int b)++rest):
 bG [5] pY [.ref it] st=some (.int N,st.set it (.c_ l (i+(dD N f).length))):=by
 have hil:it<st.length:=mT hi;rw[so _ _ _ _ rfl];have Y:more f∈[64,192]:=by
  have:f=0\/f=1\/f=2\/f=3:=by exact yG hf
  rcases this with rfl|rfl|rfl|rfl<;>decide
 have hF:fG 5 [(5,AV.ref it)]=some (.ref it):=rfl;have hb:dD N f=((bZ (f%2) 0++(dig N).reverse).map (more f+·))++[128+N%64]:=by
  unfold dD;simp
 have hdl:=BF N;have hlt:=Cp h;have hN:ja ((bZ (f%2) 0++(dig N).reverse)++[N%64]) 0=N:=by
  have:f%2=0\/f%2=1:=by exact Nat.mod_two_eq_zero_or_one f
  rcases this with e|e
  ·rw[e];simpa using G7 N h
  ·rw[e]
   have:=G7 N h;simpa[ja]using this
 have hds:∀d∈bZ (f%2) 0++(dig N).reverse,d<64:=by
  intro d hd;rcases eh.mp hd with hd|hd
  ·have:=(o3.mp hd).2;exact bQ (bS this) (by decide)
  ·exact hlt d (AM.mp hd)
 have hdn:(bZ (f%2) 0++(dig N).reverse).length <=4:=by rw[aP,jD,xH];exact dx (fU (cE f (by decide))) hdl (by decide)
 generalize bZ (f%2) 0++(dig N).reverse =ds at*;rw[hb]at hx ⊢;generalize hd0:N%64=O at*;have J:O<64:=by exact hd0▸cE _ (by decide)
 cases ds with
 |nil=>
  have R:xs[i]?=some (.int ((128+O:Nat):Int)):=by rw[<-lE,hx];rfl
  have hn:=yw st it l i _ (.int ((128+O:Nat):Int)) hl hi R;have S:O=N:=by simpa[ja]using hN
  simp(implicitDefEqProofs:=false)only[pY,cM,gF,j5,eK,bP,dJ,kC,mY,hF,bz,bo,hn,cX,d7,cT,pq,vD 128 (by decide) O J];rw[xJ];simp(implicitDefEqProofs:=false)only[lK,d7,bP,cT,bW _ 6 _ 7 (by decide),cX,bz,bo,pq,I7 O J,wJ];rw[if_neg (by decide)];simp[cM,cX,S]
 |cons e es=>
  have he:e<64:=hds e (cj ..);have R:xs[i]?=some (.int ((more f+e:Nat):Int)):=by rw[<-lE,hx];rfl
  have hn:=yw st it l i _ (.int ((more f+e:Nat):Int)) hl hi R;have hm63:gY ((more f+e:Nat):Int) 63=(e:Nat):=vD (more f) (by exact(Aq [128] Y:more f∈[64,192]++[128])) e he;obtain⟨F',h1,h2⟩:=OK (more f) Y it l xs rest O J es 400 (i+1) e e (aj.put (aj.put [(5,AV.ref it)] 7 (.int ((more f+e:Nat):Int))) 6 (.int (e:Nat))) (st.set it (.c_ l (i+1))) (by exact bQ hdn (by decide))
   (by have:=hN;simp only[eM,ja,mV,OD,hH]at this;unfold ja;rw[this];exact cq h) he (λd hd=>hds d (cw _ hd)) U
   (by rw[get_set,if_neg (λe=>U e.symm)];exact hl) (by rw[get_set,if_pos rfl,if_pos hil]) (by rw[<-mf,hx];simp)
   (by rw[bW _ _ _ _ (by decide),bW _ _ _ _ (by decide)];rfl)
   (by rw[bW _ _ _ _ (by decide),cX]) (by rw[cX])
  have S:ja (es++[O]) e=N:=by
   have:=hN;simp only[eM,ja,mV,OD,hH]at this;unfold ja;exact this
  simp(implicitDefEqProofs:=false)only[pY,cM,gF,j5,eK,bP,dJ,kC,mY,hF,bz,bo,hn,cX,d7,cT,pq,hm63,h1,BD,jK,h2,S];rw[show i+1+es.length+1=i+((e::es).map (more f+·)++[128+O]).length by rw[aP,aQ];exact congrArg sG (hK i 1 es.length)]
noncomputable def LT(Z:Pl)(s:Ls)(st:St):Prop:=LI Z s st/\TI st
theorem jL{Z:Pl}{s:Ls}:gQ (LT Z s):=λk h=>⟨yq Z s k h.1,IU k h.2⟩
theorem HZ{Z:Pl}{s:Ls}{st:St}(h:LI Z s st):∀v∈LV Z,st[v]?≠some (.code QL):=λv m=>by
 refine jl h λp _ L _ hb=>?_;refine aG L.pl λps _ hk=>?_;simp only[bJ,a7,or_false]at m;rcases m with rfl|rfl|rfl
 ·rw[hk];exactλe=>nomatch e
 ·rw[L.dict];exactλe=>nomatch e
 ·rw[hb];exactλe=>nomatch e
structure oE(Z:Pl)(W:List Nat):Prop where
 z0:0∉LV Z
 x0:Z.lx≠0
 xp:Z.pb≠Z.lx
 xl:Z.X.length<=10000
 sub:∀x∈LV Z,x∈W
section
variable{W:List Nat}{G:Gm}{Z:Pl}{s s':Ls}{I I1:St->Prop}
theorem CV{f:EM}{d:aB}(N:oE Z W)(h:d3 W (LV Z) G (LI Z s) (LI Z s') f d):d3 W W G (LT Z s) (LT Z s') f d:=λF st g i=>(h F st g i.1).mono λq J=>⟨J.1.sub N.sub,J.2.1,J.2.2,xR J.1 N.z0 (HZ i.1) i.2⟩
theorem WE(J:oE Z W){a b:St}(k:aN [0] a b)(t:TI b)(h:LT Z s a):LT Z s b:=by
 refine jl h.1 λp c L d hb=>?_;have n:∀x∈LV Z,x∉[0]:=λx m z=>J.z0 (cx.mp z▸m);exact⟨⟨p,c,⟨k.cW (λz=>J.x0 (cx.mp z)) L.inst,k.cW (n _ (Dp Z)) L.dict,L.pl.imp λps q=>⟨q.1,k.cW (n _ (DC Z)) q.2⟩⟩,d,k.cW (n _ (Dx Z)) hb⟩,t⟩
theorem M8(J:G 53=some (.v (.ref Z.lx))):d3 W W G (LT Z s) (LT Z s) (jq 69 32 (aa 53)) (nD s.ln):=λF st g i=>by
 refine di i.1 λp _ L _=>?_;refine Ok.of (a:=(.int (s.ln:Int),st)) ?_ ⟨.rfl',.int _,i⟩;have N:handed (.int (s.ln:Int))=true:=rfl;simp only[sC,bP,g.av J,bz,bo,Ji L,N,and_self,if_true]
theorem PD{f:EM}{d:aB}(s1:gQ I1)(hf:d3 W W G I I1 f d):d3 W W G I I1 (bC (ab f ag)) (.list [d]):=λF st g i=>by
 refine Ok.bind' (Ok.bind' ((hf F st g i).mono λq J=>Ok.fJ (Ok.of (show ag F q.2=some ([],q.2)from rfl) ?_)));show Ok (if[q.1].length <=sizeLine then some (AV.ref q.2.length,q.2++[.list [q.1]])else none) _;rw[if_pos (by rw[sizeLine_eq];show 1<=_;decide)];exact⟨J.1.trans (.app _),j_ (g.bd.keep J.1) (.cons J.2.1 .nil),s1 (.app _) J.2.2⟩
theorem Ot{fv:List Nat}{fi}{tg:b7}{β:Type}{bs:List β}{mk:β->Ai}{h:β->aB}{fe:EM}(s1:gQ I1)(hi:vU W G I I1 tg fi (bs.map mk))(hl:bs.length<400)(hb:∀b∈bs,∃G',gS tg (mk b) (G.only fv) G'/\bh W G' fe (h b)):d3 W W G I I1 (bl fv fi tg bw (a_ fe) 400) (.list (bs.map h)):=λF st O i=>
 Ok.bind' ((hi F st O i).mono λp J=>Ok.fJ ((yR (m:=1) (t:=λ_=>true) (φ:=λb ad=>ad++[h b]) (λb m=>(hb b m).imp λG' q=>⟨q.1,BQ,λ_=>Cu q.2⟩) hl J.2.1 ((O.keep J.1).only fv) .nil (by rw[nI,hH,Bb];exact cq (du hl (by decide)))).mono λq N=>
  ⟨(J.1.trans N.1.any).trans (.app _),j_ N.2.2.1.bd (by
   have:=N.2.1;rw[zW,d_,Nx.mpr λ_ _=>rfl]at this;exact this),s1 (.app _) (s1 N.1 J.2.2)⟩))
theorem RB{k:Nat}{f:EM}{x:List Nat}(hf:d3 W W G I I1 f (.str (T x))):vU W G I I1 (.name k) (bL f) (x.map λc=>.one (.str (T [c]))):=λF st N i=>Ok.bind' ((hf F st N i).mono λp J=>by
 obtain⟨v,st⟩:=p;cases(show RV W st v (.str (T x))from J.2.1).s'
 exact Ok.fJ (Ok.of (show nr (.str (T x)) st=some (.str (T x) 0)from rfl) ⟨J.1,II rfl,J.2.2⟩))
end
theorem TP{W:List Nat}{l:List aB}(h:∀d∈l,d.canLay0=true/\d.depth=0/\c6 d d=true):cO W c5 (.list l) (.list l) (.bool false):=by
 have h1:∀{l:List aB},(∀d∈l,d.canLay0=true/\d.depth=0/\c6 d d=true)->eA l=true/\dW l=0/\jY l l=true:=by
  intro l;induction l with
  |nil=>intro _;exact⟨by rw[eA],by rw[dW],by rw[jY]⟩
  |cons d l J=>
   intro h;refine dc (h d (cj ..)) λa b c=>?_;refine dc (J λx m=>h x (cw _ m)) λN b' c'=>?_;exact⟨by rw[eA,a,N];rfl,by rw[dW,b,b'];rfl,by rw[jY,c,c'];rfl⟩
 refine dc (h1 h) λa b c=>?_;have e:(fm l).depth =1:=by rw[iF,b]
 have s:jE (.list l)=true:=by
  unfold jE;rw[ky,a,e];rfl
 have:=yp (W:=W) (a:=.list l) (b:=.list l) ⟨by rw[e];decide,by rw[e];decide⟩ ⟨s,s⟩ (.inl ⟨_,rfl⟩);rwa[c6,c]at this
theorem CN{x:List Nat}(h:∀c∈x,c<1114112):(sD x).canLay0 =true/\(sD x).depth =0/\c6 (sD x) (sD x)=true:=⟨by rw[ky];exact Jb h,by rw[iF],by rw[c6,beq_self_eq_true]⟩
theorem US(n:Nat):(nD n).canLay0 =true/\(nD n).depth =0/\c6 (nD n) (nD n)=true:=⟨by rw[ky],by rw[iF],by rw[c6,beq_self_eq_true]⟩
noncomputable def XH(Z:Pl):EM:=(bl [53] (bD cS (ab (xk (.int 3)) ag)) (.name 42) bw (a_ (ki Z)) 400)
theorem V5(Z:Pl):zF (bq Z.sA) (fw (T Z.X) Z.k)=(cn (aT c5 (ay aX (XH Z) (bC (ab (jq 69 32 (aa 53)) ag))) (bC (ab (ay cU (xk (.str (".":ae))) (ay aX (xk (.int 1)) (aa 41))) (ab (xk (.str ("":ae))) (ab (xk (.str ("z":ae))) (ab (xk (.int 8)) ag)))))) (ao (cy (xk (.bool false))) aC) aC):=rfl
theorem Vi{W:List Nat}{G:Gm}{Z:Pl}{s1:Ls}{os:List Nat}{n:Nat}(S:oE Z W)(U:n<=10)(J:G 53=some (.v (.ref Z.lx)))(N:G 41=some (.d (nD n)))(ht:mL Z s1 [bZ (1+n) 46,[],[122]] ⟨[],os,8⟩):dM W G (LT Z s1) (LT Z ⟨[],os,8⟩) (zF (bq Z.sA) (fw (T Z.X) Z.k)) G:=by
 rw[V5];have hi:=oP (W:=W) (G:=G) (k:=42) (fa:=ab (xk (.int 3)) ag) (n:=3) (aE (aW 3) be) (by decide);have O:fc W G (.name 42) (bD cS (ab (xk (.int 3)) ag)) (((cF 3).map λj:Nat=>iS (j:Int)).map .one):=by rw[br];exact hi
 have g3:=CV S (xy (Z:=Z) (fv:=[53]) S.sub J rfl rfl O (by rw[aQ,eI];rfl) (by rw[aQ,eI];decide) ht);have Y:=PD (jL (Z:=Z) (s:=⟨[],os,8⟩)) (M8 (W:=W) (G:=G) (Z:=Z) (s:=⟨[],os,8⟩) J);have ga:=yC (V:=W) (λ_ m=>m) jL g3 Y (n5 (W:=W) (show 3+1<=16777216 by decide));refine EY (b:=.list [sD (bZ (1+n) 46),sD [],sD [122],nD 8]) jL ga (uW (e8 (aE (aM (dh (show dy "."=T [46] by decide+kernel)) (aM (aW 1) (az N) (mv _ _)) (BM 46 (1+n) (by exact aw (fW U _) (by decide)))) (aE (dh lU) (aE (dh (show dy "z"=T [122] by decide+kernel)) (aE (aW 8) be)))) (show 4<=16777216 by decide)) jL) (TP ?_);have R:∀c∈bZ (1+n) 46,c<1114112:=λc m=>by rw[(o3.mp m).2];decide
 exact bt.mpr ⟨CN R,bt.mpr ⟨CN (by decide),bt.mpr ⟨CN (by decide),bt.mpr ⟨US 8,λ_ m=>absurd m a7⟩⟩⟩⟩
theorem M3{Z:Pl}{st st':St}(h:iP Z st st'):aN (LV Z) st st':=⟨bS h.1.symm,λl _ n=>h.2 l (λz=>n (by rw[z];simp)) (λz=>n (by rw[z];simp))⟩
theorem LJ{st:St}{l:Nat}{xs:List AV}(h:st[l]?=some (.list xs)):qQ [.ref l] st=some (.ref st.length,st++[.c_ l 0]):=by
 show((bF st l).map _).or _=_;rw[dC h];rfl
noncomputable abbrev lR(os:List Nat):List AV:=os.map λb:Nat=>AV.int (b:Int)
section
variable{W:List Nat}{G:Gm}{Z:Pl}{os:List Nat}{ln:Nat}
theorem SK(J:oE Z W)(ho:os.length<=90)(N:os≠[])(h3:G 3=some (.v (.val (.ref Z.sA)))):d3 W W G (LT Z ⟨[],os,ln⟩) (LT Z ⟨[],[],ln⟩) (bU (bq Z.sA) (fw (T Z.X) Z.k) (aa 3) (ab (xk (.int 99)) ag)) (sD os):=
 CV J λF st g i=>by
  refine jl i λp a L c hb=>?_;have c:Z.X.drop p=os:=c;refine bO (Jz (n:=99) L (by exact j0 a) J.xl) λst1 hr=>?_;refine dc (hr.resolve_right (by decide)) λO Y U=>?_;rw[c,kx (by exact j0 ho)]at O;have R:bq Z.sA (.val (.ref Z.sA)) st=some []:=by unfold bq;simp
  have S:p<Z.X.length:=by
   by_cases q:p<Z.X.length
   ·exact q
   ·exact absurd (by rw[<-c,mj (fC q)]) N
  have hx:=J.xl;refine Ok.of (a:=(.str (T os),st1)) ?_ ⟨M3 U,.str _,p+99,by exact aw (iR (cq (cK S hx)) 99) (by decide),Y,?_,?_⟩
  ·rw[show((99:Nat):Int)=99 from rfl]at O
   simp only[iI,bP,g.av h3,bz,bo,R,eK,cT,dJ,d_,O]
  ·rw[<-mf,c,mj (by exact j0 ho)]
  ·exact(U.2 Z.pb Z.pk Z.pd).trans hb
noncomputable def JY(Z:Pl):EM:=(bl [] (bL (bU (bq Z.sA) (fw (T Z.X) Z.k) (aa 3) (ab (xk (.int 99)) ag))) (.name 17) bw (a_ (bK vM (ab (aa 17) ag))) 400)
theorem V8(Z:Pl):zw (bq Z.sA) (fw (T Z.X) Z.k)=(bj 54 (bK qQ (ab (JY Z) ag))):=rfl
theorem Wj(S:oE Z W)(ho:os.length<=90)(J:os≠[])(h3:G 3=some (.v (.val (.ref Z.sA)))){F:aj}{st:St}(g:GR W G F st)(i:LT Z ⟨[],os,ln⟩ st):
 ∃l oc st',zw (bq Z.sA) (fw (T Z.X) Z.k) F st=some (.next,F.put 54 (.ref oc),st')/\aN W st st'/\LT Z ⟨[],[],ln⟩ st'/\st'[l]?=some (.list (lR os))/\st'[oc]?=some (.c_ l 0)/\l∉W/\st.length<=oc:=by
 have hc:=Ot (W:=W) (G:=G) (fv:=[]) (h:=nD) (fe:=bK vM (ab (aa 17) ag)) (jL (Z:=Z) (s:=⟨[],[],ln⟩)) (RB (k:=17) (SK (os:=os) (ln:=ln) S ho J h3)) (bQ ho (by decide)) λc _=>⟨_,.one rfl,ia (aE (az rfl) be) (Vz c)⟩;refine jl ((hc F st g i).get) λN e k r i'=>?_;obtain⟨v,st1⟩:=N;have k:aN W st st1:=k;refine fF ((show RV W st1 v (.list (os.map nD))from r).l') λl xs O n hl R=>?_;subst O;have U:xs=lR os:=by
  rw[wC]at R;rw[R.ints,br];rfl
 subst U;refine⟨l,st1.length,st1++[.c_ l 0],?_,k.trans (.app _),jL (.app _) i',(aN.app (W:=[]) _).get hl,nf,n,k.len⟩;rw[V8];have Y:JY Z F st=some (.ref l,st1):=e;simp only[gF,j5,eK,Y,dJ,bz,bo,LJ hl]
end
theorem Vo{Z:Pl}{s:Ls}{st st':St}{oc l i:Nat}(k:aN [oc] st st')(h:st[oc]?=some (.c_ l i))(t:LT Z s st):LT Z s st':=by
 have n:∀{x:Nat}{o:AO},st[x]?=some o->(∀l i,o≠.c_ l i)->st'[x]?=some o:=λ{x o} e ne=>k.cW (λz=>by
  rw[cx.mp z,h]at e;exact ne _ _ (mn e).symm) e
 refine tj t λJ es a b=>?_;obtain⟨p,c,L,d,hb⟩:=J;exact⟨⟨p,c,⟨n L.inst nofun,n L.dict nofun,L.pl.imp λps q=>⟨q.1,n q.2 nofun⟩⟩,d,n hb nofun⟩,es,n a nofun,λp m=>n (b p m) nofun⟩
noncomputable def pos(f:Nat)(ns:List Nat)(j:Nat):Nat:=(((ns.take j).map λn=>dD n f).flatten).length
theorem QO{f:Nat}{ns:List Nat}{j n:Nat}(h:ns[j]?=some n)(last:Nat):pos f ns (j+1)=pos f ns j+(dD n f).length /\∃rest,(lR ((ns.map λn=>dD n f).flatten ++[last])).drop (pos f ns j)=lR (dD n f)++rest:=by
 refine bO (fY.mp h) λJ e=>?_;have N:ns=ns.take j++n::ns.drop (j+1):=by
  have:=(Bh j ns).symm;rwa[BB J,e]at this
 constructor
 ·unfold pos
  rw[nL,h,dF,qe,aP];simp
 ·refine⟨lR (((ns.drop (j+1)).map λn=>dD n f).flatten ++[last]),?_⟩
  have O:(ns.map λn=>dD n f).flatten ++[last]=((ns.take j).map λn=>dD n f).flatten ++(dD n f++(((ns.drop (j+1)).map λn=>dD n f).flatten ++[last])):=by
   conv=>lhs;rw[N]
   rw[dF,bX,qe,gI];simp only[dm]
  unfold pos;rw[<-r_,O,Ao,dF]
noncomputable def vE:EM:=bK (bG [5] pY) (ab (aa 54) ag)
section
variable{W:List Nat}{G:Gm}{Z:Pl}{s:Ls}{oc l f last:Nat}{ns:List Nat}
noncomputable def VI(Z:Pl)(s:Ls)(oc l f last:Nat)(ns:List Nat)(j:Nat)(st:St):Prop:=LT Z s st/\st[l]?=some (.list (lR ((ns.map λn=>dD n f).flatten ++[last])))/\st[oc]?=some (.c_ l (pos f ns j))
theorem yu{j:Nat}:gQ (VI Z s oc l f last ns j):=λk h=>⟨jL k h.1,k.get h.2.1,k.get h.2.2⟩
theorem M6(N:oc∈W)(hf:f<4)(O:G 54=some (.v (.ref oc))){j n:Nat}(R:n<16777216)(S:ns[j]?=some n):d3 W W G (VI Z s oc l f last ns j) (VI Z s oc l f last ns (j+1)) vE (nD n):=λF st g i=>by
 refine dc i λt hl ho=>?_;refine pL (QO (f:=f) S last) λp1 rest p2=>?_;have J:oc≠l:=λz=>by rw[z,hl]at ho;cases ho
 have e:=MB n f R hf oc l _ _ rest st J hl ho p2;have k:aN [oc] st (st.set oc (.c_ l (pos f ns j+(dD n f).length))):=lC (cj ..);refine Ok.of (a:=(.int n,st.set oc (.c_ l (pos f ns j+(dD n f).length)))) ?_ ⟨k.sub λx m=>by rw[cx.mp m];exact N,.int _,Vo k ho t,k.cW (λz=>J (cx.mp z).symm) hl,?_⟩
 ·unfold vE
  simp only[j5,eK,bP,g.av O,dJ,bz,bo,e]
 ·rw[get_set,if_pos rfl,if_pos (gn ho),p1]
theorem Ux(Z:Pl):zr (bq Z.sA) (fw (T Z.X) Z.k)=(cn (ix (aT c5 (bl [54] (bD cS (ab (xk (.int 4)) ag)) (.name 42) bw (a_ vE) 400) (ay aX (cH (aa 43) (bY (xk (.int 6))) bb bb) (aa 44))) (ix (aT c5 (ki Z) (xk (.str ("":ae)))) (λ_ st=>some (false,st)))) (ao (cy (xk (.bool false))) aC) aC):=rfl
theorem WC(Y:oE Z W)(hoc:oc∈W)(hf:f<4)(J:oc∉LV Z)(hl2:l∉LV Z)(h54:G 54=some (.v (.ref oc)))(h53:G 53=some (.v (.ref Z.lx)))(hns:∀n∈ns,n<16777216)(h4:ns.length=4)(hs:s.q=[]/\s.r=[])(N:bh W G (ay aX (cH (aa 43) (bY (xk (.int 6))) bb bb) (aa 44)) (.list (ns.map nD))):
 dM W G (VI Z s oc l f last ns 0) (λst=>TI st/\st[l]?=some (.list (lR ((ns.map λn=>dD n f).flatten ++[last])))/\st[oc]?=some (.c_ l (pos f ns 4))) (zr (bq Z.sA) (fw (T Z.X) Z.k)) G:=λF st g i=>by
 have hi:=oP (W:=W) (G:=G) (k:=42) (fa:=ab (xk (.int 4)) ag) (n:=4) (aE (aW 4) be) (by decide);have hi':fc W G (.name 42) (bD cS (ab (xk (.int 4)) ag)) (((cF 4).map λj:Nat=>iS (j:Int)).map .one):=by rw[br];exact hi
 have hc:=HK (fv:=[54]) (fe:=vE) (VI Z s oc l f last ns) (λj=>nD (ns.getD j 0)) hi' (show 4<400 by decide) rfl yu yu λj O=>by
  have O:j<ns.length:=by rw[aQ,eI]at O;rw[h4];exact O
  have ej:ns[j]?=some ns[j]:=kF O;have e0:ns.getD j 0=ns[j]:=by rw[jg,ej];rfl
  rw[e0];exact M6 (G:=G.only [54]) hoc hf h54 (hns _ (AI O)) ej
 have el:(uq 0 (((cF 4).map λj:Nat=>iS (j:Int))).length).map (λj=>nD (ns.getD j 0))=ns.map nD:=by
  refine nc (JO h4) λa b c d e=>?_;rw[e];rfl
 rw[el]at hc;have hA:=yC (V:=W) (λ_ m=>m) yu hc (uW N yu) (Iq ns);rw[Ux];refine Ok.bind' (Ok.bind' (Ok.bind' ((hA F st g i).mono λq hq=>?_)));obtain⟨v,st1⟩:=q;refine dc hq λS r1 i1=>?_;have S:aN W st st1:=S;cases(show RV W st1 v (.bool false)from r1).b'
 show Ok (ix (aT c5 (ki Z) (xk (.str ("":ae)))) (λ_ st=>some (false,st)) F st1) _;refine dc i1 λzq0 hl ho=>?_;obtain⟨li,t⟩:=zq0;refine jl li λp a L c hb=>?_;obtain⟨bI,e2,U⟩:=TH (ln:=s.ln) Y.xl st1 ⟨p,a,L,by rw[c];exact hs.2,by rw[hb,hs.1];rfl⟩;have g1:=g.keep S;have hrs:f_ 69 40 (.ref Z.lx) st1=some [.ref Z.lx]:=t_ (sT L 40 (by decide));have eg:ki Z F st1=some (.str (T []),bI):=by
  unfold ki;simp only[iI,bP,g1.av h53,bz,bo,hrs,dJ,gj,e2]
 have et:ix (aT c5 (ki Z) (xk (.str ("":ae)))) (λ_ st=>some (false,st)) F st1=some (false,bI):=by
  have en:c5 (.str (T [])) (.str (T [])) bI=some (.bool false,bI):=by
   refine di ((Cx (W:=[]) [] [] bI _ _ (λ_ m=>absurd m a7) (.str _) (.str _)).get) λq eq kq rq=>?_;rfl
  simp only[Xw,iM,iK,d7,eg,cT,lU,bz,bo,en,je,if_false]
 rw[et];have R:aN W st1 bI:=U.sub Y.sub;refine⟨rfl,S.trans R,g1.keep R,xR U Y.z0 (HZ ⟨p,a,L,c,hb⟩) t,U.cW hl2 hl,U.cW J ho⟩
end
theorem GR.kp{W W':List Nat}{G:Gm}{F:aj}{st st':St}(h:GR W G F st)(k:Kp W W' st st')(b:Bd W' st'):GR W' G F st':=⟨b,λj p e=>(h.at' j p e).mono λx s=>by
 cases p with
 |d d=>exact RV.to k s
 |v v=>exact s⟩
noncomputable abbrev GB(ns:List Int)(lx:Nat)(sA:ak):List (Nat×Vl):=[(43,.d (jx ns)),(41,.d (nD (fx ns))),(44,.d (.list ((fN ns).map nD))),(53,.v (.ref lx)),(3,.v (.val (.ref sA))),(66,.d (.list ((il ns).map sD))),(60,.d (.list ((gb ns).map sD))),(59,.d (vk ns)),(55,.d oB),(64,.d (lO ns))]
noncomputable abbrev GC(ns:List Int)(lx:Nat)(sA:ak)(oc:Nat):List (Nat×Vl):=[(43,.d (jx ns)),(44,.d (.list ((fN ns).map nD))),(59,.d (l_ (kK ns))),(57,.d (mP (kK ns))),(55,.d oB),(53,.v (.ref lx)),(54,.v (.ref oc))]
theorem VU(Z:Pl):zD (bq Z.sA) (fw (T Z.X) Z.k)=(cn (aT c5 (bl [53] (bL (aa 46)) (.name 42) bw (a_ (ki Z)) 400) (aa 46)) (ao (cy (xk (.bool false))) aC) aC):=rfl
theorem WG{W:List Nat}{G:Gm}{Z:Pl}{s s1:Ls}(ns:List Int)(O:oE Z W)(N:G 53=some (.v (.ref Z.lx)))(J:G 46=some (.d (.list ((iN ns).map sD))))(ht:mL Z s (iN ns) s1):dM W G (LT Z s) (LT Z s1) (zD (bq Z.sA) (fw (T Z.X) Z.k)) G:=by
 rw[VU];exact EY jL (CV O (xy (Z:=Z) (fv:=[53]) O.sub N rfl rfl (iC (az J) rfl) (by rw[aQ]) (by rw[aQ,wz];decide) ht)) (uW (az J) jL) (ye (Iu ns))
theorem Sw{W:List Nat}{G:Gm}(ns:List Int)(h:G 43=some (.d (jx ns)))(J:G 44=some (.d (.list ((fN ns).map nD)))):bh W G (ay aX (cH (aa 43) (bY (xk (.int 6))) bb bb) (aa 44)) (.list ((iO ns).map nD)):=by
 unfold iO;rw[dF];refine aM (iT (az h) (fT (aW 6)) dR dR ?_) (az J) (n5 (by rw[aQ,aQ,ez,j7,BK];decide));have:=qG (W:=W) (ds:=(gv ns).map nD) 6 (by rw[aQ,j7];decide);rwa[<-r_]at this
theorem Td(f:Nat)(ns:List Nat)(h:ns.length=4)(last:Nat):(lR ((ns.map λn=>dD n f).flatten ++[last]))[pos f ns 4]?=some (.int last)/\(lR ((ns.map λn=>dD n f).flatten ++[last]))[pos f ns 4+1]?=none:=by
 have e:pos f ns 4=((ns.map λn=>dD n f).flatten).length :=by unfold pos;rw[kx (bS h)]
 rw[e];constructor
 ·rw[dO,jj (a6 _),kH];rfl
 ·rw[dO,o4 (by rw[aP];exact a6 _)];rfl
theorem Tn(ns:List Int)(sA:ak){F1:aj}{st1:St}(g:GR [0] (Gl (pN ns)) F1 st1)(h0:st1[0]?=some (.tab [])):
 Ok (q3 (bq sA) (fw (T (kh ns)) st1.length) (F1.put 3 (.val (.ref sA))) (st1++[.list [.int 0]])) λq=>q.1=.next /\∃oc l i W,oc∈W/\GR W (Gl (GC ns (st1.length+2) sA oc)) q.2.1 q.2.2/\TI q.2.2/\q.2.2[l]?=some (.list (lR ((((iO ns).map λn=>dD n (lQ ns)).flatten)++[k_ ns])))/\q.2.2[oc]?=some (.c_ l i)/\
  (lR ((((iO ns).map λn=>dD n (lQ ns)).flatten)++[k_ ns]))[i]?=some (.int (k_ ns))/\(lR ((((iO ns).map λn=>dD n (lQ ns)).flatten)++[k_ ns]))[i+1]?=none:=by
 have hk0:st1.length≠0:=λz=>by
  have:=gn h0;rw[z]at this;exact jI _ this
 generalize hk:st1.length=k at hk0;refine di (KQ ns (Z:=Dj sA (kh ns) k) rfl) λs1 T1 q1 T2=>?_;generalize hZ:Dj sA (kh ns) k=Z at T1 T2;have zk:Z.k=k:=by rw[<-hZ];rfl
 have zd:Z.d=k+1:=by rw[<-hZ];rfl
 have zl:Z.lx=k+2:=by rw[<-hZ];rfl
 have zp:Z.pb=k+3:=by rw[<-hZ];rfl
 have zs:Z.sA=sA:=by rw[<-hZ];rfl
 have zX:Z.X=kh ns:=by rw[<-hZ];rfl
 have hX:Z.X.length<=10000:=by rw[zX];exact aw (text_len ns (qH ns)) (by decide)
 have hlv:∀{x:Nat},x∈LV Z↔x=k\/x=k+1\/x=k+3:=λ{x}=>by
  simp only[LV,zk,zd,zp,bJ,a7,or_false]
 let J:List Nat:=[Z.pb,Z.d,Z.k,0];have N:oE Z J:=⟨λm=>by have:=hlv.mp m;exact this.elim (λe=>hk0 e.symm) λe=>e.elim (λe=>se _ e.symm) λe=>se _ e.symm,by rw[zl];exact se _,by rw[zl,zp];lia,hX,λx m=>by
  simp only[LV,J,bJ,a7,or_false]at m ⊢;rcases m with m|m|m
  ·exact .inr (.inr (.inl m))
  ·exact .inr (.inl m)
  ·exact .inl m⟩
 rw[show q3 (bq sA) (fw (T (kh ns)) k)=q3 (bq Z.sA) (fw (T Z.X) Z.k) by rw[zs,zX,zk]];unfold q3;have hlA:(st1++[AO.list [.int 0]]).length =k+1:=by rw[aP,hk];rfl
 have hkA:(st1++[AO.list [.int 0]])[k]?=some (.list [.int 0]):=hk▸nf;have h0A:(st1++[AO.list [.int 0]])[0]?=some (.tab []):=(aN.app (W:=[]) [AO.list [.int 0]]).get h0;have gA:GR [0] ((Gl (pN ns)).put 3 (.v (.val (.ref sA)))) (F1.put 3 (.val (.ref sA))) (st1++[.list [.int 0]]):=(g.cZ (.app _)).put (p:=.v _) rfl;refine jl (Um sA (kh ns) k hlA hkA (gA.av (k:=3) (v:=.val (.ref sA)) rfl)) λstB eB liB kB lB=>?_;rw[hZ]at liB;refine sq (Ok.of eB ⟨rfl,?_⟩);have gB:GR J (((Gl (pN ns)).put 3 (.v (.val (.ref sA)))).put 53 (.v (.ref (k+2)))) ((F1.put 3 (.val (.ref sA))).put 53 (.ref (k+2))) stB:=by
  have g1:GR [k,0] ((Gl (pN ns)).put 3 (.v (.val (.ref sA)))) (F1.put 3 (.val (.ref sA))) (st1++[.list [.int 0]]):=(g.grow (aN.app _) (bS hk) (by rw[hlA];exact iJ _)).put (p:=.v _) rfl;refine(g1.kp (W':=J) (λl hl n=>⟨λm=>?_,kB.at' l hl a7⟩) λw m=>?_).put (p:=.v _) rfl
  ·rw[hlA]at hl
   simp only[J,zp,zd,zk,bJ,a7,or_false]at m n;rcases m with m|m|m|m
   ·exact absurd (bQ (bS m.symm) hl) (qm (fW (by decide) k))
   ·exact absurd m (rZ hl)
   ·exact n (.inl m)
   ·exact n (.inr m)
  ·rw[lB]
   simp only[J,zp,zd,zk,bJ,a7,or_false]at m;exact m.elim (λe=>oS (bS e)) λm=>m.elim (λe=>bQ (bS e) (QS (by decide) k)) λm=>m.elim (λe=>bQ (bS e) (Ay (by decide))) λe=>bQ (bS e) (uk _)
 have tB:TI stB:=⟨[],kB.get h0A,λ_ m=>absurd m a7⟩;have S:∀G':Gm,G' 53=some (.v (.ref (k+2)))->G' 53=some (.v (.ref Z.lx)):=λG' e=>by rw[zl];exact e
 refine mu (WG (G:=((Gl (pN ns)).put 3 (.v (.val (.ref sA)))).put 53 (.v (.ref (k+2)))) ns N (S _ rfl) rfl T1) gB ⟨liB,tB⟩ λF2 bI k2 g2 i2=>?_;refine mu (yt (UT ns rfl) jL) g2 i2 λF3 st3 k3 g3 i3=>?_;refine mu (yt (UK ns rfl rfl) jL) g3 i3 λF4 st4 k4 g4 i4=>?_;refine mu (yt VV jL) g4 i4 λF5 st5 k5 g5 i5=>?_;refine mu (yt (Uy ns rfl rfl) jL) g5 i5 λF6 U k6 g6 i6=>?_;have g6':=g6.to (l:=GB ns (k+2) sA) (bt.mpr ⟨rfl,bt.mpr ⟨rfl,bt.mpr ⟨rfl,bt.mpr ⟨rfl,bt.mpr ⟨rfl,bt.mpr ⟨rfl,bt.mpr ⟨rfl,bt.mpr ⟨rfl,bt.mpr ⟨rfl,bt.mpr ⟨rfl,λ_ h=>absurd h a7⟩⟩⟩⟩⟩⟩⟩⟩⟩⟩);refine sq (Ok.of (Vx F6 U) ⟨rfl,?_⟩);generalize O:U.length=ls;have bd6:=g6.bd;have n6:∀x∈J,x<ls:=λx m=>O▸bd6 x m;have lx6:Z.lx<ls:=by
  refine di i6.1 λp _ L _=>?_;rw[<-O];exact gn L.inst
 have hpz:PZ Z ls:=⟨λm=>absurd (n6 ls (N.sub _ m)) (jI _),λz=>absurd (n6 0 (by simp[J])) (by rw[z];exact jI _),rZ lx6,N.z0,N.x0,N.xp,N.xl⟩;have g7:GR (WZ Z ls) (Gl ((57,.v (.ref ls))::GB ns (k+2) sA)) (F6.put 57 (.ref ls)) (U++[.list []]):=by
  have:=(g6'.grow (l:=ls) (aN.app [AO.list []]) (bS O) (by rw[aP,O];exact iJ _)).put (k:=57) (x:=.ref ls) (p:=.v (.ref ls)) rfl;exact this.le λj q e=>by
   rw[Gl,eN]at e;unfold Gm.put;by_cases z:j=57
   ·rw[if_pos z]
    rw[beq_iff_eq.mpr z]at e;exact e
   ·rw[if_neg z]
    rw[beq_false_of_ne z]at e;exact e
 have i7':=jL (aN.app [AO.list []]) i6;have i7:BI Z ls s1 [] (U++[.list []]):=⟨i7'.1,i7'.2,[],O▸nf,.nil⟩;obtain⟨qq,rr,ll⟩:=s1;cases(show qq=[]from q1)
 have f18':=Wv (Z:=Z) (ls:=ls) (r:=rr) (ln:=ll) (G:=Gl ((57,.v (.ref ls))::GB ns (k+2) sA)) ns hpz rfl rfl rfl rfl rfl (S _ rfl) rfl rfl rfl rfl rfl rfl rfl;refine mu f18' g7 i7 λF8 R k8 g8 i8=>?_;refine lT (IB ns) λa b c e3=>?_;have Y:kK ns=[a,b,c].map cL:=e3;have g9:GR J (Gl [(43,.d (jx ns)),(41,.d (nD (fx ns))),(44,.d (.list ((fN ns).map nD))),(53,.v (.ref (k+2))),(3,.v (.val (.ref sA))),(59,.d (l_ ([a,b,c].map cL))),(55,.d oB),(57,.d (mP ([a,b,c].map cL)))]) F8 R:=by
  have a57:=g8.av (k:=57) (v:=.ref ls) rfl;refine aG i8.ss λxs hx rx=>?_;have rx4:aR J R xs ((gb ns).map (mD ns)):=aR.to (W:=WZ Z ls) (W':=J) (st:=R) (st':=R) (λl _ n=>⟨λm=>n (cw _ m),rfl⟩) rx;have r57:RV J R (.ref ls) (mP ([a,b,c].map cL)):=by
   rw[<-Y,<-NZ];exact .list (λm=>absurd (n6 ls m) (jI _)) hx rx4
  have e59:(.d (vk ns):Vl)=.d (l_ ([a,b,c].map cL)):=by rw[Rf,Y]
  refine((g8.shrink (W':=J) λx m=>cw _ m).vK (k:=57) (p:=.d (mP ([a,b,c].map cL))) a57 r57).to ?_;exact bt.mpr ⟨rfl,bt.mpr ⟨rfl,bt.mpr ⟨rfl,bt.mpr ⟨rfl,bt.mpr ⟨rfl,bt.mpr ⟨congrArg some e59,bt.mpr ⟨rfl,bt.mpr ⟨rfl,λ_ h=>absurd h a7⟩⟩⟩⟩⟩⟩⟩⟩
 refine mu (Uq (W:=J) (I:=LT Z ⟨[],rr,ll⟩) (a:=a) (b:=b) (c:=c) (by simp[J]) jL (λ_ _ k t i=>WE N k t i) (λ_ i=>i.2) rfl rfl rfl rfl rfl rfl) g9 ⟨i8.li,i8.ti⟩ λF10 st10 k10 g10 i10=>?_;refine mu (Vi N (aw (qH ns) (by decide)) (S _ rfl) rfl T2) g10 i10 λF11 st11 k11 g11 i11=>?_;have htl:=(B7 ns).2.1;obtain⟨l,oc,st12,e12,k12,i12,hl12,ho12,nl,hoc⟩:=Wj N (by exact j0 htl) (Cb ns) (show Gl _ 3=some (.v (.val (.ref Z.sA))) by rw[zs];rfl) g11 i11;refine sq (Ok.of e12 ⟨rfl,?_⟩);have g12:=(g11.grow (l:=oc) k12 hoc (gn ho12)).put (k:=54) (x:=.ref oc) (p:=.v (.ref oc)) rfl;have hp5:oE Z (oc::J):=⟨N.z0,N.x0,N.xp,N.xl,λx m=>cw _ (N.sub x m)⟩;have hocl:oc∉LV Z:=λm=>by
  have:=g11.bd oc (N.sub _ m);exact absurd hoc (jX.mpr this)
 have hll:l∉LV Z:=λm=>nl (N.sub _ m);refine mu (WC (oc:=oc) (l:=l) (last:=k_ ns) hp5 (cj ..) (Cd ns) hocl hll rfl (S _ rfl) (BJ ns) (xo ns) ⟨rfl,rfl⟩ (Sw ns rfl rfl)) g12 ⟨i12,hl12,by rw[ho12];rfl⟩ λF13 st13 k13 g13 i13=>?_;refine dc i13 λt13 hl13 ho13=>?_;obtain⟨p1,p2⟩:=Td (lQ ns) (iO ns) (xo ns) (k_ ns);refine⟨rfl,oc,l,pos (lQ ns) (iO ns) 4,oc::J,cj ..,?_,t13,hl13,ho13,p1,p2⟩;have e59:(.d (l_ ([a,b,c].map cL)):Vl)=.d (l_ (kK ns)):=by rw[Y]
 have e57:(.d (mP ([a,b,c].map cL)):Vl)=.d (mP (kK ns)):=by rw[Y]
 exact g13.to (bt.mpr ⟨rfl,bt.mpr ⟨rfl,bt.mpr ⟨congrArg some e59,bt.mpr ⟨congrArg some e57,bt.mpr ⟨rfl,bt.mpr ⟨rfl,bt.mpr ⟨rfl,λ_ h=>absurd h a7⟩⟩⟩⟩⟩⟩⟩)
end Mine
namespace Mine
noncomputable def sF(c:C9)(k:Nat):Nat:=qK (cL c) k
noncomputable abbrev Wt:=List (Int×C9)
noncomputable def mF(w:Wt)(f:Nat->Int)(k:Nat):Int:=(w.map λp=>p.1*f (sF p.2 k)).sum
noncomputable def oG(w:Wt)(c:Int)(f:Nat->Int)(k:Nat):Int:=mF w f k -c*f k
noncomputable def cnt(w:Wt)(P:C9->Bool):Int:=(w.map λp=>if P p.2 then p.1 else 0).sum
noncomputable def cst(c:C9):Bool:=c.1==c.2.1&&c.2.1==c.2.2
noncomputable def u0(c:C9):Bool:=c.2.1==c.2.2
noncomputable def u1(c:C9):Bool:=c.1==c.2.2
noncomputable def u2(c:C9):Bool:=c.1==c.2.1
noncomputable def xT:Nat->List Int
 |0=>[1,0,1,1,0,0]
 |1=>[1,1,1,0,0,0]
 |_=>[1,1,0,0,1,0]
noncomputable def xF(Q k:Nat):Int:=(xT Q).getD k 0
noncomputable def uF:Nat->C9->Bool
 |0=>u0
 |1=>u1
 |_=>u2
theorem nX(p:Int×C9)(w:Wt)(f:Nat->Int)(k:Nat):mF (p::w) f k=p.1*f (sF p.2 k)+mF w f k:=rfl
theorem cnt_cons(p:Int×C9)(w:Wt)(P:C9->Bool):cnt (p::w) P=(if P p.2 then p.1 else 0)+cnt w P:=rfl
theorem lS(c:C9){k:Nat}(h:k<6):sF c k<6:=(n_ c.1 c.2.1 c.2.2 ⟨k,h⟩).2
theorem GQ{w:Wt}{f g:Nat->Int}(h:∀k,k<6->f k=g k){k:Nat}(hk:k<6):mF w f k=mF w g k:=by
 induction w with
 |nil=>rfl
 |cons p w J=>rw[nX,nX,J,h _ (lS p.2 hk)]
theorem vj(w:Wt)(a:Int)(f g:Nat->Int)(k:Nat):mF w (λk=>a*f k+g k) k=a*mF w f k+mF w g k:=by
 induction w with
 |nil=>show(0:Int)=a*0+0;grind
 |cons p w J=>rw[nX,nX,nX,J];grind
noncomputable def eD(c:Int)(P:List Int):List Int:=G_ (λup low=>up -c*low) (0::P) (P++[0])
noncomputable def fA(w:Wt):List Int->(Nat->Int)->Nat->Int
 |[],_,_=>0
 |p::P,f,k=>p*f k+fA w P (mF w f) k
theorem WM(w:Wt):∀(P:List Int)(f:Nat->Int)(k:Nat),fA w P (mF w f) k=mF w (fA w P f) k:=by
 intro P;induction P with
 |nil=>
  intro f k;show(0:Int)=mF w (λ_=>0) k;have:=vj w 0 (λ_=>0) (λ_=>0) k;have e:∀w:Wt,mF w (λ_=>0) k=0:=by
   intro w;induction w with
   |nil=>rfl
   |cons p w J=>rw[nX,J];grind
  rw[e]
 |cons p P J=>
  intro f k;show p*mF w f k+fA w P (mF w (mF w f)) k=mF w (λk=>p*f k+fA w P (mF w f) k) k;rw[vj,J (mF w f) k]
theorem OR(w:Wt)(c:Int):∀(P:List Int)(u:Int)(f:Nat->Int)(k:Nat),fA w (G_ (λup low=>up -c*low) (u::P) (P++[0])) f k=u*f k+fA w P (mF w f) k -c*fA w P f k:=by
 intro P;induction P with
 |nil=>
  intro u f k;show(u -c*0)*f k+0=u*f k+0 -c*0;grind
 |cons p P J=>
  intro u f k;show(u -c*p)*f k+fA w (G_ (λup low=>up -c*low) (p::P) (P++[0])) (mF w f) k=u*f k+(p*mF w f k+fA w P (mF w (mF w f)) k) -c*(p*f k+fA w P (mF w f) k);rw[J p (mF w f) k];grind
theorem C6(w:Wt)(c:Int)(P:List Int)(f:Nat->Int)(k:Nat):fA w (eD c P) f k=oG w c (fA w P f) k:=by
 unfold eD oG;rw[OR,WM];grind
theorem VN:∀Q:Fin 3,∀x y z:Bool,∀k:Fin 6,uF Q.val (x,y,z)=true->xF Q.val (sF (x,y,z) k.val)=xF Q.val k.val:=by decide+kernel
theorem W8:∀Q:Fin 3,∀x y z:Bool,∀k:Fin 6,uF Q.val (x,y,z)=false->xF Q.val (sF (x,y,z) k.val)=xF Q.val (sF (x,y,z) 0):=by decide+kernel
theorem WS:∀x y z:Bool,∀k:Fin 6,cst (x,y,z)=true->sF (x,y,z) k.val=k.val:=by decide+kernel
theorem VM:∀x y z:Bool,cst (x,y,z)=false->∃Q:Fin 3,∀k:Fin 6,(xF Q.val k.val=1/\sF (x,y,z) k.val=sF (x,y,z) 0)\/(xF Q.val k.val=0/\sF (x,y,z) k.val=sF (x,y,z) 5):=by decide+kernel
noncomputable def oF(w:Wt)(Q:Nat):Int:=(w.map λp=>if uF Q p.2 then 0 else p.1*xF Q (sF p.2 0)).sum
theorem DE(w:Wt)(Q:Fin 3){k:Nat}(hk:k<6):mF w (xF Q.val) k=cnt w (uF Q.val)*xF Q.val k+oF w Q.val:=by
 induction w with
 |nil=>show(0:Int)=0*_+0;grind
 |cons p w J=>
  rw[nX,cnt_cons,J,show oF (p::w) Q.val=(if uF Q.val p.2 then 0 else p.1*xF Q.val (sF p.2 0))+oF w Q.val from rfl];cases h:uF Q.val p.2 with
  |true=>rw[if_pos rfl,if_pos rfl,VN Q p.2.1 p.2.2.1 p.2.2.2 ⟨k,hk⟩ h];grind
  |false=>rw[if_neg d9,if_neg d9,W8 Q p.2.1 p.2.2.1 p.2.2.2 ⟨k,hk⟩ h];grind
noncomputable def mQ(a J b1 b2:Int)(k:Nat):Int:=J*xF 0 k+(b1*xF 1 k+(b2*xF 2 k+a))
theorem Ik(w:Wt)(a:Int)(k:Nat):mF w (λ_=>a) k=cnt w (λ_=>true)*a:=by
 induction w with
 |nil=>show(0:Int)=0*a;grind
 |cons p w J=>rw[nX,J,cnt_cons,if_pos rfl];grind
theorem WN(w:Wt)(c a J b1 b2:Int){f:Nat->Int}(h:∀k,k<6->f k=mQ a J b1 b2 k):∃N,∀k,k<6->oG w c f k=mQ N (J*(cnt w u0 -c)) (b1*(cnt w u1 -c)) (b2*(cnt w u2 -c)) k:=by
 refine⟨a*(cnt w (λ_=>true) -c)+J*oF w 0+b1*oF w 1+b2*oF w 2,λk hk=>?_⟩;unfold oG;rw[GQ h hk,h k hk];unfold mQ;rw[vj,vj,vj,Ik,show mF w (xF 0) k=_ from DE w 0 hk,show mF w (xF 1) k=_ from DE w 1 hk,show mF w (xF 2) k=_ from DE w 2 hk];show J*(cnt w u0*xF 0 k+oF w 0)+(b1*(cnt w u1*xF 1 k+oF w 1)+(b2*(cnt w u2*xF 2 k+oF w 2)+cnt w (λ_=>true)*a)) -c*(J*xF 0 k+(b1*xF 1 k+(b2*xF 2 k+a)))=_;grind
theorem Ci(w:Wt)(c a J b1 b2:Int){P:List Int}{f:Nat->Int}(h:∀k,k<6->fA w P f k=mQ a J b1 b2 k):∃N,∀k,k<6->fA w (eD c P) f k=mQ N (J*(cnt w u0 -c)) (b1*(cnt w u1 -c)) (b2*(cnt w u2 -c)) k:=(WN w c a J b1 b2 h).imp λN q k hk=>(C6 ..).trans (q k hk)
theorem Qs(w:Wt)(f:Nat->Int):∃a N b1 b2,∀k,k<6->oG w (cnt w cst) f k=mQ a N b1 b2 k:=by
 induction w with
 |nil=>exact⟨0,0,0,0,λk _=>by show(0:Int) -0*f k=0*_+(0*_+(0*_+0));grind⟩
 |cons p w O=>
  refine nc O λa N b1 b2 h=>?_;have e:∀k,oG (p::w) (cnt (p::w) cst) f k=p.1*f (sF p.2 k) -(if cst p.2 then p.1 else 0)*f k+oG w (cnt w cst) f k:=λk=>by
   unfold oG;rw[nX,cnt_cons];grind
  cases hc:cst p.2 with
  |true=>
   refine⟨a,N,b1,b2,λk hk=>?_⟩;rw[e,h k hk,if_pos hc,WS p.2.1 p.2.2.1 p.2.2.2 ⟨k,hk⟩ hc];show p.1*f k -p.1*f k+_=_;grind
  |false=>
   refine bO (VM p.2.1 p.2.2.1 p.2.2.2 hc) λQ R=>?_;have key:∀k,k<6->f (sF p.2 k)=(f (sF p.2 0) -f (sF p.2 5))*xF Q.val k+f (sF p.2 5):=λk hk=>by
    rcases R ⟨k,hk⟩with⟨h1,h2⟩|⟨h1,h2⟩
    ·rw[show sF p.2 k=sF p.2 0 from h2,show xF Q.val k=1 from h1];grind
    ·rw[show sF p.2 k=sF p.2 5 from h2,show xF Q.val k=0 from h1];grind
   have J:¬cst p.2=true:=by rw[hc];exact d9
   revert key;refine XZ (λkey=>?_) (λkey=>?_) (λkey=>?_) Q
   ·exact⟨a+p.1*f (sF p.2 5),N+p.1*(f (sF p.2 0) -f (sF p.2 5)),b1,b2,λk hk=>by rw[e,h k hk,if_neg J,key k hk];unfold mQ;show _*(_*xF 0 k+_) -_+_=_;grind⟩
   ·exact⟨a+p.1*f (sF p.2 5),N,b1+p.1*(f (sF p.2 0) -f (sF p.2 5)),b2,λk hk=>by rw[e,h k hk,if_neg J,key k hk];unfold mQ;show _*(_*xF 1 k+_) -_+_=_;grind⟩
   ·exact⟨a+p.1*f (sF p.2 5),N,b1,b2+p.1*(f (sF p.2 0) -f (sF p.2 5)),λk hk=>by rw[e,h k hk,if_neg J,key k hk];unfold mQ;show _*(_*xF 2 k+_) -_+_=_;grind⟩
noncomputable def gu(w:Wt):List Int:=[cnt w cst,cnt w u0,cnt w u1,cnt w u2,cnt w λ_=>true]
noncomputable def Xz(w:Wt):List Int:=(gu w).foldl (λP c=>eD c P) [1]
theorem SS(w:Wt)(f:Nat->Int){k:Nat}(hk:k<6):fA w (Xz w) f k=0:=by
 show fA w (eD _ (eD _ (eD _ (eD _ (eD _ [1]))))) f k=0;refine nc (Qs w (fA w [1] f)) λa O b1 b2 h0=>?_;have N:∀k,k<6->fA w (eD (cnt w cst) [1]) f k=mQ a O b1 b2 k:=λk hk=>by rw[C6];exact h0 k hk
 refine bO (Ci w (cnt w u0) a O b1 b2 N) λa1 h1=>?_;refine bO (Ci w (cnt w u1) _ _ _ _ h1) λa2 h2=>?_;refine bO (Ci w (cnt w u2) _ _ _ _ h2) λa3 h3=>?_;have J:∀k,k<6->fA w (eD (cnt w u2) (eD (cnt w u1) (eD (cnt w u0) (eD (cnt w cst) [1])))) f k=a3:=λk hk=>by
  rw[h3 k hk];unfold mQ;grind
 rw[C6];unfold oG;rw[GQ (g:=λ_=>a3) J hk,Ik,J k hk];exact Int.sub_self _
noncomputable def tb:Bool->Bool->Bool->List Nat
 |false,false,false=>[0,1,2,3,4,5]
 |true,true,true=>[0,1,2,3,4,5]
 |true,false,false=>[3,5,3,3,5,5]
 |false,true,false=>[1,1,1,4,4,4]
 |false,false,true=>[0,0,2,2,0,2]
 |false,true,true=>[0,1,0,0,1,1]
 |true,false,true=>[2,2,2,3,3,3]
 |true,true,false=>[4,4,5,5,4,5]
theorem Xl:∀x y z:Bool,kX [x,y,z]=tb x y z:=by decide+kernel
noncomputable def tF(c:C9)(k:Nat):Nat:=(tb c.1 c.2.1 c.2.2).getD k 0
theorem jo(c:C9):sF c=tF c:=funext λk=>by
 show(kX [c.1,c.2.1,c.2.2]).getD k 0=(tb c.1 c.2.1 c.2.2).getD k 0;rw[Xl]
noncomputable def sm(f:Nat->Int):Int:=((cF 6).map f).sum
theorem yZ(f:Nat->Int):sm f=f 0+(f 1+(f 2+(f 3+(f 4+(f 5+0))))):=rfl
theorem IY(a:Int)(f g:Nat->Int):sm (λk=>a*f k+g k)=a*sm f+sm g:=by
 rw[yZ,yZ,yZ];grind
noncomputable def sW:List C9->Nat->Nat
 |[],k=>k
 |c::l,k=>sF c (sW l k)
noncomputable def pw(w:Wt)(first:Nat):Nat->Nat->Int
 |0,k=>if k=first then 1 else 0
 |m+1,k=>mF w (pw w first m) k
noncomputable def dU(P:C9->Bool)(l:List C9):Int:=if l.all P then 1 else 0
theorem xD(P:C9->Bool)(c:C9)(l:List C9):dU P (c::l)=if P c then dU P l else 0:=by
 unfold dU;rw[List.all_cons];cases P c<;>rfl
noncomputable def Dt(w:Wt)(m:Nat)(l:List C9):Int:=sm λfirst=>pw w first m (sW l first)
noncomputable def fix(s:Nat->Nat):Int:=sm λk=>if s k=k then 1 else 0
noncomputable def tG(l:List C9):Int:=1+dU u0 l+dU u1 l+dU u2 l+2*dU cst l
theorem XE:∀x y z:Bool,fix (tF (x,y,z))=tG [(x,y,z)]:=by decide+kernel
theorem XW:∀x y z x1 J N:Bool,fix (λk=>tF (x,y,z) (tF (x1,J,N) k))=tG [(x,y,z),(x1,J,N)]:=by decide+kernel
theorem Ya:∀x y z x1 J N O R S:Bool,fix (λk=>tF (x,y,z) (tF (x1,J,N) (tF (O,R,S) k)))=tG [(x,y,z),(x1,J,N),(O,R,S)]:=by decide+kernel
theorem X8:∀x y z x1 J N O R S U Y z3:Bool,fix (λk=>tF (x,y,z) (tF (x1,J,N) (tF (O,R,S) (tF (U,Y,z3) k))))=tG [(x,y,z),(x1,J,N),(O,R,S),(U,Y,z3)]:=by decide+kernel
theorem Sl(w:Wt)(l:List C9)(h1:1<=l.length)(J:l.length<=4):Dt w 0 l=tG l:=by
 cases l with
 |nil=>exact absurd h1 (by decide)
 |cons a l=>
  cases l with
  |nil=>
   refine Eq.trans ?_ (XE a.1 a.2.1 a.2.2);show fix (sF (a.1,a.2.1,a.2.2))=_;rw[jo]
  |cons b l=>
   cases l with
   |nil=>
    refine Eq.trans ?_ (XW a.1 a.2.1 a.2.2 b.1 b.2.1 b.2.2);show fix (λk=>sF (a.1,a.2.1,a.2.2) (sF (b.1,b.2.1,b.2.2) k))=_;rw[jo,jo]
   |cons c l=>
    cases l with
    |nil=>
     refine Eq.trans ?_ (Ya a.1 a.2.1 a.2.2 b.1 b.2.1 b.2.2 c.1 c.2.1 c.2.2);show fix (λk=>sF (a.1,a.2.1,a.2.2) (sF (b.1,b.2.1,b.2.2) (sF (c.1,c.2.1,c.2.2) k)))=_;rw[jo,jo,jo]
    |cons d l=>
     cases l with
     |nil=>
      refine Eq.trans ?_ (X8 a.1 a.2.1 a.2.2 b.1 b.2.1 b.2.2 c.1 c.2.1 c.2.2 d.1 d.2.1 d.2.2);show fix (λk=>sF (a.1,a.2.1,a.2.2) (sF (b.1,b.2.1,b.2.2) (sF (c.1,c.2.1,c.2.2) (sF (d.1,d.2.1,d.2.2) k))))=_;rw[jo,jo,jo,jo]
     |cons e l=>exact absurd J (nJ (dg 5 _))
theorem Ug(F:C9->Nat->Int):∀w:Wt,sm (λk=>(w.map λp=>p.1*F p.2 k).sum)=(w.map λp=>p.1*sm (F p.2)).sum :=by
 intro w;induction w with
 |nil=>
  exact rfl
 |cons p w J=>
  show sm (λk=>p.1*F p.2 k+(w.map λp=>p.1*F p.2 k).sum)=p.1*sm (F p.2)+(w.map λp=>p.1*sm (F p.2)).sum;rw[IY,J]
theorem RY(w:Wt)(m:Nat)(l:List C9):Dt w (m+1) l=(w.map λp=>p.1*Dt w m (p.2::l)).sum :=Ug (λc first=>pw w first m (sF c (sW l first))) w
theorem RM(l:List C9)(A J N B2 O:Int):∀w:Wt,(w.map λp=>p.1*(A+dU u0 (p.2::l)*J+dU u1 (p.2::l)*N+dU u2 (p.2::l)*B2+2*(dU cst (p.2::l)*O))).sum =cnt w (λ_=>true)*A+dU u0 l*(cnt w u0*J)+dU u1 l*(cnt w u1*N)+dU u2 l*(cnt w u2*B2)+2*(dU cst l*(cnt w cst*O)):=by
 intro w;induction w with
 |nil=>
  show(0:Int)=0*A+dU u0 l*(0*J)+dU u1 l*(0*N)+dU u2 l*(0*B2)+2*(dU cst l*(0*O));grind
 |cons p w R=>
  rw[bX,r9,R,cnt_cons,cnt_cons,cnt_cons,cnt_cons,cnt_cons,xD,xD,xD,xD,if_pos rfl];have e:∀(b:Bool)(x y:Int),(if b=true then x else 0)=(if b=true then 1 else 0)*x:=λb x y=>by cases b<;>simp
  rw[e (u0 p.2) (dU u0 l) 0,e (u1 p.2) (dU u1 l) 0,e (u2 p.2) (dU u2 l) 0,e (cst p.2) (dU cst l) 0,e (u0 p.2) p.1 0,e (u1 p.2) p.1 0,e (u2 p.2) p.1 0,e (cst p.2) p.1 0];generalize (if u0 p.2=true then(1:Int)else 0)=S;generalize (if u1 p.2=true then(1:Int)else 0)=i1;generalize (if u2 p.2=true then(1:Int)else 0)=i2;generalize (if cst p.2=true then(1:Int)else 0)=U;grind
theorem Xs(w:Wt):∀(m:Nat)(l:List C9),1<=l.length+m->l.length+m<=4->Dt w m l=cnt w (λ_=>true)^m+dU u0 l*cnt w u0^m+dU u1 l*cnt w u1^m+dU u2 l*cnt w u2^m+2*(dU cst l*cnt w cst^m):=by
 intro m;induction m with
 |zero=>
  intro l h1 h2;rw[Sl w l h1 h2];unfold tG;simp only[Int.pow_zero];grind
 |succ m J=>
  intro l h1 h2;rw[RY,xe (g:=λp:Int×C9=>p.1*(cnt w (λ_=>true)^m+dU u0 (p.2::l)*cnt w u0^m+dU u1 (p.2::l)*cnt w u1^m+dU u2 (p.2::l)*cnt w u2^m+2*(dU cst (p.2::l)*cnt w cst^m))) λp _=>by rw[J (p.2::l) (by rw[dH];lia) (by rw[dH];lia)],RM];rw[xn,xn,xn,xn,xn];grind
theorem P_(w:Wt)(m:Nat)(h1:1<=m)(h2:m<=4):sm (λfirst=>pw w first m first)=cnt w cst^m+((gu w).map λc=>c^m).sum :=by
 have:=Xs w m [] (by exact Qa _ h1) (by exact fW h2 _);refine this.trans ?_;show cnt w (λ_=>true)^m+1*cnt w u0^m+1*cnt w u1^m+1*cnt w u2^m+2*(1*cnt w cst^m)=cnt w cst^m+(cnt w cst^m+(cnt w u0^m+(cnt w u1^m+(cnt w u2^m+(cnt w (λ_=>true)^m+0)))));grind
noncomputable abbrev Vg:=List (Nat×Int)
noncomputable def fg(L:Vg)(k:Nat):Int:=(L.map λq=>if k=q.1 then q.2 else 0).sum
noncomputable def pull(s:Nat->Nat)(to:Nat)(L:Vg):Int:=(L.map λq=>if s q.1=to then q.2 else 0).sum
theorem Om(q:Nat×Int)(L:Vg)(k:Nat):fg (q::L) k=(if k=q.1 then q.2 else 0)+fg L k:=rfl
theorem MG(s:Nat->Nat)(to:Nat)(q:Nat×Int)(L:Vg):pull s to (q::L)=(if s q.1=to then q.2 else 0)+pull s to L:=rfl
theorem Te(s:Nat->Nat)(to:Nat)(x:Int):∀L:Vg,(∀q∈L,q.1<6)->sm (λk=>if s k=to then x*fg L k else 0)=x*pull s to L:=by
 intro L;induction L with
 |nil=>
  intro _;have e:(λk=>if s k=to then x*fg [] k else 0)=λ_=>(0:Int):=funext λk=>by
   show(if s k=to then x*0 else 0)=(0:Int);rw[N8,ite_self]
  rw[e];show(0:Int)=x*0;rw[N8]
 |cons q L N=>
  intro h;have e:(λk=>if s k=to then x*fg (q::L) k else 0)=λk=>1*(if s k=to then(if k=q.1 then x*q.2 else 0)else 0)+(if s k=to then x*fg L k else 0):=funext λk=>by
   rw[Om];by_cases h1:s k=to
   ·rw[if_pos h1,if_pos h1,if_pos h1]
    by_cases h2:k=q.1
    ·rw[if_pos h2,if_pos h2];grind
    ·rw[if_neg h2,if_neg h2];grind
   ·rw[if_neg h1,if_neg h1,if_neg h1];rfl
  rw[e,IY,N λy m=>h y (cw _ m),MG];have J:=h q (cj ..);obtain⟨v,g⟩:=q;have J:v<6:=J;have key:sm (λk=>if s k=to then(if k=v then x*g else 0)else 0)=if s v=to then x*g else 0:=by
   rw[yZ];exact Xd (by simp) (by simp) (by simp) (by simp) (by simp) (by simp) J
  rw[key];show 1*(if s v=to then x*g else 0)+_=x*((if s v=to then g else 0)+_);by_cases h1:s v=to
  ·rw[if_pos h1,if_pos h1];grind
  ·rw[if_neg h1,if_neg h1];grind
theorem W6:∀x y z x1 J N O R S:Bool,∀k:Fin 6,tF (x,y,z) (tF (x1,J,N) (tF (O,R,S) (tF (x,y,z) k.val)))=tF (x,y,z) (tF (x1,J,N) (tF (O,R,S) k.val)):=by decide+kernel
theorem Xj:∀x y z x1 J N:Bool,∀k:Fin 6,tF (x,y,z) (tF (x1,J,N) (tF (x,y,z) k.val))=tF (x,y,z) (tF (x1,J,N) k.val):=by decide+kernel
theorem Xx:∀x y z:Bool,∀k:Fin 6,tF (x,y,z) (tF (x,y,z) k.val)=tF (x,y,z) k.val:=by decide+kernel
theorem Yz(a:C9){k:Nat}(h:k<6):sF a (sF a k)=sF a k:=by rw[jo];exact Xx a.1 a.2.1 a.2.2 ⟨k,h⟩
theorem YI(a b:C9){k:Nat}(h:k<6):sF a (sF b (sF a k))=sF a (sF b k):=by rw[jo,jo];exact Xj a.1 a.2.1 a.2.2 b.1 b.2.1 b.2.2 ⟨k,h⟩
theorem YT(a b c:C9){k:Nat}(h:k<6):sF a (sF b (sF c (sF a k)))=sF a (sF b (sF c k)):=by rw[jo,jo,jo];exact W6 a.1 a.2.1 a.2.2 b.1 b.2.1 b.2.2 c.1 c.2.1 c.2.2 ⟨k,h⟩
noncomputable def gy(x y z T:Int):Int:=x*y*(T -y)*(T -z)
noncomputable def vF(a b c:C9):Nat:=sF a (sF b (sF c 0))
theorem Xb(a b c:C9):vF a b c<6:=lS a (lS b (lS c (by decide)))
noncomputable def tl(a b c:C9)(x y z T:Int):Vg:=[(vF a b c,gy x y z T),(vF a c b,gy x z y T),(vF b a c,gy y x z T),(vF b c a,gy y z x T),(vF c a b,gy z x y T),(vF c b a,gy z y x T)]
theorem VY(a b c:C9)(x y z:Int)(to:Nat):x*pull (sF a) to (tl a b c x y z (x+y+z))+y*pull (sF b) to (tl a b c x y z (x+y+z))+z*pull (sF c) to (tl a b c x y z (x+y+z))=(x+y+z)*fg (tl a b c x y z (x+y+z)) to:=by
 have a1:∀p q r:C9,sF p (vF p q r)=vF p q r:=λp q r=>Yz p (lS q (lS r (by decide)));have a2:∀p q r:C9,sF q (vF p q r)=vF q p r:=λp q r=>YI q p (lS r (by decide));have a3:∀p q r:C9,sF r (vF p q r)=vF r p q:=λp q r=>YT r p q (by decide);unfold pull fg tl;simp only[bX,fS,r9,List.sum_nil,a1,a2,a3];have e:∀(v:Nat)(g:Int),(if to=v then g else 0)=(if v=to then(1:Int)else 0)*g:=λv g=>by
  by_cases h:v=to
  ·rw[if_pos h,if_pos h.symm,PR]
  ·rw[if_neg h,if_neg (λq=>h q.symm),Ph]
 have U:∀(v:Nat)(g:Int),(if v=to then g else 0)=(if v=to then(1:Int)else 0)*g:=λv g=>by
  by_cases h:v=to
  ·rw[if_pos h,if_pos h,PR]
  ·rw[if_neg h,if_neg h,Ph]
 simp only[e];simp only[U _ (gy _ _ _ _)];generalize (if vF a b c=to then(1:Int)else 0)=i1;generalize (if vF a c b=to then(1:Int)else 0)=i2;generalize (if vF b a c=to then(1:Int)else 0)=i3;generalize (if vF b c a=to then(1:Int)else 0)=i4;generalize (if vF c a b=to then(1:Int)else 0)=i5;generalize (if vF c b a=to then(1:Int)else 0)=i6;have k:∀p q r:Int,p*(gy p q r (p+q+r)+gy q p r (p+q+r)+gy q r p (p+q+r))=(p+q+r)*gy p q r (p+q+r):=λp q r=>by unfold gy;grind
 have Y:=k x y z;have J:=k x z y;have N:=k y x z;have k4:=k y z x;have O:=k z x y;have R:=k z y x;rw[show x+z+y=x+y+z by exact Q_ ..]at J;rw[show y+x+z=x+y+z by lia]at N;rw[show y+z+x=x+y+z by lia]at k4;rw[show z+x+y=x+y+z by lia]at O;rw[show z+y+x=x+y+z by lia]at R;generalize gy x y z (x+y+z)=g1 at*;generalize gy x z y (x+y+z)=g2 at*;generalize gy y x z (x+y+z)=g3 at*;generalize gy y z x (x+y+z)=g4 at*;generalize gy z x y (x+y+z)=g5 at*;generalize gy z y x (x+y+z)=g6 at*;generalize x+y+z=S at*;refine Eq.trans (b:=i1*(x*(g1+g3+g4))+i2*(x*(g2+g5+g6))+i3*(y*(g3+g1+g2))+i4*(y*(g4+g6+g5))+i5*(z*(g5+g2+g1))+i6*(z*(g6+g4+g3))) ?_ ?_
 ·clear k Y J N k4 O R e U a1 a2 a3
  grind
 ·rw[Y,J,N,k4,O,R]
  clear k Y J N k4 O R e U a1 a2 a3;grind
open PySem PyProof.Rows PySem.W PySem.Builtin PySem.Builtin.Str
noncomputable abbrev wD(w:Wt):aB:=.list (w.map λp=>.int p.1)
noncomputable abbrev cD(w:Wt):aB:=.list (w.map λp=>.list ((cL p.2).map .bool))
noncomputable abbrev rD(w:Wt):aB:=.list (w.map λp=>.list ((kX (cL p.2)).map nD))
noncomputable abbrev iD(l:List Int):aB:=.list (l.map .int)
noncomputable def dd(d:List Bool)(b:Bool):List Bool:=if d.contains b then d else d++[b]
noncomputable def S5:List (List Bool):=[[],[true],[false],[true,false],[false,true]]
theorem CS:∀d∈S5,∀b:Bool,dd d b∈S5/\d.length<=2:=by decide
noncomputable def vy(bs:List Bool)(l:List Nat):List Bool:=l.foldl (λd p=>dd d (cf bs p)) []
theorem VL{W:List Nat}{G:Gm}{fe:EM}{b:Bool}(he:bh W G fe (.bool b)){d:List Bool}(hd:d∈S5){F:aj}{st:St}(g:GR W G F st):Ok (nA fe (d.map .bool) F st) λq=>q.1=(dd d b).map .bool /\aN [] st q.2.2/\GR W G q.2.1 q.2.2:=Ok.bind' ((he F st g).mono λq J=>by
 obtain⟨v,st'⟩:=q;cases(show RV W st' v (.bool b)from J.2).b'
 show Ok (if(d.map AV.bool).length <=2 then some (if(d.map AV.bool).any (λa=>a.b?==some b)then d.map AV.bool else d.map AV.bool++[.bool b],F,st')else none) _;rw[if_pos (by rw[aQ];exact(CS d hd b).2)];refine⟨?_,J.1,g.cZ J.1⟩;have e:((d.map AV.bool).any λa=>a.b?==some b)=d.contains b:=by
  rw[Qz];induction d with
  |nil=>rfl
  |cons x d N=>
   clear N;simp only[S5,bJ,Zp,a7,or_false,reduceCtorEq,false_or]at hd;rcases hd with⟨rfl,rfl⟩|⟨rfl,rfl⟩|⟨rfl,rfl⟩|⟨rfl,rfl⟩<;>cases b<;>rfl
 rw[e];unfold dd;cases d.contains b with
 |true=>rfl
 |false=>show d.map AV.bool++[.bool b]=(d++[b]).map AV.bool;rw[dF];rfl)
theorem L8{W:List Nat}{G:Gm}{k:Nat}{fe:EM}(bit:Nat->Bool):∀(l:List Nat){fuel:Nat}{it:It}{d:List Bool}{F:aj}{st:St},(∀p∈l,bh W (G.put k (.d (nD p))) fe (.bool (bit p)))->G k=none->l.length<fuel->d∈S5->Yl W (.name k) ((l.map nD).map .one) st it->GR W G F st->
 Ok (jO (.name k) bw (nA fe) fuel it (d.map .bool) F st) λq=>q.1=(l.foldl (λd p=>dd d (bit p)) d).map .bool /\l.foldl (λd p=>dd d (bit p)) d∈S5/\aN [] st q.2.2:=by
 intro l;induction l with
 |nil=>
  intro fuel it d F st hb hk hf hd Y g;cases fuel with
  |zero=>exact absurd hf (gk _)
  |succ fuel=>
   show Ok (if(b7.name k).fits it=true then(it.next st).bind _ else none) _;rw[if_pos Y.1,Y.2 st .rfl'];exact⟨rfl,hd,.rfl'⟩
 |cons p l O=>
  intro fuel it d F st hb hk hf hd Y g;cases fuel with
  |zero=>exact absurd hf (gk _)
  |succ fuel=>
   refine fH (Y.2 st .rfl') λitem gT R hs S=>?_;show Ok (if(b7.name k).fits it=true then(it.next st).bind _ else none) _;rw[if_pos Y.1,R];show Ok (((b7.name k).bind item F st).bind _) _;refine Ok.bind' (((gS.one (G:=G) hk).ok hs g).mono λF1 g1=>?_);show Ok ((nA fe (d.map .bool) F1 st).bind _) _;refine Ok.bind' ((VL (hb p (cj ..)) hd g1).mono λq J=>?_);obtain⟨acc,F2,bI⟩:=q;refine dc J λe N g2=>?_;cases(show acc=(dd d (bit p)).map .bool from e)
   refine(O (fuel:=fuel) (it:=gT) (F:=F2) (st:=bI) (λx m=>hb x (cw _ m)) hk (mZ hf) (CS d hd (bit p)).1 (S.keep N.any) (g2.le (gS.one hk).le)).mono λq J=>⟨J.1,J.2.1,aN.trans N J.2.2⟩
theorem TV{W:List Nat}{G:Gm}{fv:List Nat}{f fe:EM}{k:Nat}{l:List Nat}(bit:Nat->Bool)(hf:bh W G f (.tuple (l.map nD)))(hk:(G.only fv) k=none)(hl:l.length<400)(hb:∀p∈l,bh W ((G.only fv).put k (.d (nD p))) fe (.bool (bit p))):
 bh W G (ta fv (bL f) (.name k) bw (nA fe) 400) (nD (l.foldl (λd p=>dd d (bit p)) []).length):=λF st g=>by
 refine Ok.bind' ((HH (W:=W) (k:=k) hf F st g).mono λp J=>Ok.bind' ((L8 (G:=G.only fv) bit l (d:=[]) hb hk hl (by decide) J.2 ((g.cZ J.1).only fv)).mono λq N=>?_));obtain⟨acc,F2,bI⟩:=q;refine dc N λe h5 O=>?_;cases(show acc=_ from e)
 show Ok (if((l.foldl (λd p=>dd d (bit p)) []).map AV.bool).length <=3 then some (AV.int ((l.foldl (λd p=>dd d (bit p)) []).map AV.bool).length,bI)else none) _;rw[aQ,if_pos (by have:=(CS _ h5 true).2;exact oX this)];exact⟨aN.trans J.1 O,.int _⟩
noncomputable def kg:List (List (List Nat)):=[[[0,1,2]],[[0],[1,2]],[[1],[0,2]],[[2],[0,1]],[[0],[1],[2]]]
noncomputable def gh(ps:List (List Nat))(c:C9):Bool:=(ps.filter λp=>decide (1<(vy (cL c) p).length)).isEmpty
theorem UU:∀x y z:Bool,gh [[0,1,2]] (x,y,z)=cst (x,y,z)/\gh [[0],[1,2]] (x,y,z)=u0 (x,y,z)/\gh [[1],[0,2]] (x,y,z)=u1 (x,y,z)/\gh [[2],[0,1]] (x,y,z)=u2 (x,y,z)/\gh [[0],[1],[2]] (x,y,z)=true:=by decide
theorem Ng(w:Wt):kg.map (λps=>cnt w (gh ps))=gu w:=by
 have h:∀c:C9,_:=λc=>UU c.1 c.2.1 c.2.2;show[cnt w (gh [[0,1,2]]),cnt w (gh [[0],[1,2]]),cnt w (gh [[1],[0,2]]),cnt w (gh [[2],[0,1]]),cnt w (gh [[0],[1],[2]])]=_;rw[show gh [[0,1,2]]=cst from funext λc=>(h c).1,show gh [[0],[1,2]]=u0 from funext λc=>(h c).2.1,show gh [[1],[0,2]]=u1 from funext λc=>(h c).2.2.1,show gh [[2],[0,1]]=u2 from funext λc=>(h c).2.2.2.1,show gh [[0],[1],[2]]=λ_=>true from funext λc=>(h c).2.2.2.2];rfl
theorem sum_filter(w:Wt)(P:C9->Bool):((w.filter λp=>P p.2).map λp=>p.1).sum =cnt w P:=by
 induction w with
 |nil=>rfl
 |cons p w J=>
  rw[cnt_cons,<-J];cases h:P p.2 with
  |true=>rw[uz (by exact h),if_pos rfl];rfl
  |false=>rw[xb (by rw[h];exact d9),if_neg d9];exact(HC _).symm
noncomputable def vN:EM:=(bK fP (ab (bl [21] (bD fM (ab (aa 44) (ab (aa 59) ag))) (.names [73,61]) (aT oEq (bl [61] (bL (aa 21)) (.name 22) (aT l8 (ta [61] (bL (aa 22)) (.name 26) bw (nA (aH (aa 61) (aa 26))) 400) (xk (.int 1))) (a_ (aa 22)) 400) (bC ag)) (a_ (aa 73)) 400) ag))
theorem BZ:∀ps∈kg,∀p∈ps,(∀i∈p,i<3)/\p.length<400:=by decide
theorem D6:∀l:List (List Nat),jE (.list (l.map λp=>.tuple (p.map nD)))=true/\(fm (l.map λp=>.tuple (p.map nD))).depth <=4:=λl=>by
 have h:∀l:List (List Nat),eA (l.map λp=>xN (p.map nD))=true/\dW (l.map λp=>xN (p.map nD))<=1:=by
  intro l;induction l with
  |nil=>exact⟨by rw[fS,eA],by rw[fS,dW];decide⟩
  |cons a l J=>exact⟨by rw[bX,eA,ky,lay_ints,J.1];rfl,by rw[bX,dW,iF,Bo];exact Ru.mpr ⟨a6 _,J.2⟩⟩
 have d:(fm (l.map λp=>.tuple (p.map nD))).depth <=2:=by rw[iF];exact fj (h l).2
 refine⟨?_,aw d (by decide)⟩;unfold jE;rw[ky,(h l).1,decide_eq_true (by exact aw d (by decide))];rfl
theorem U2{W:List Nat}{G:Gm}{w:Wt}(hw:w.length<400){ps:List (List Nat)}(J:ps∈kg)(N:G 44=some (.d (wD w)))(O:G 59=some (.d (cD w)))(R:G 21=some (.d (.list (ps.map λp=>.tuple (p.map nD))))):bh W G vN (.int (cnt w (gh ps))):=by
 have U:=pj (W:=W) (G:=G) (ks:=[73,61]) (fa:=ab (aa 44) (ab (aa 59) ag)) (aE (az N) (aE (az O) be));rw[xi,br]at U;have hc:=pa (W:=W) (G:=G) (fv:=[21]) (t:=λp:Int×C9=>gh ps p.2) (h:=λp=>.int p.1) (fe:=aa 73) (ti:=(aT oEq (bl [61] (bL (aa 21)) (.name 22) (aT l8 (ta [61] (bL (aa 22)) (.name 26) bw (nA (aH (aa 61) (aa 26))) 400) (xk (.int 1))) (a_ (aa 22)) 400) (bC ag))) U hw λp Y=>⟨_,.two rfl rfl,?_,λ_=>az rfl⟩
 ·have:=ia (g:=fP) (aE hc be) (by
   have:=sR (W:=W) (ns:=(w.filter λp=>gh ps p.2).map λp=>p.1);rwa[br]at this)
  rwa[sum_filter]at this
 ·let G1:=((G.only [21]).put 73 (.d (.int p.1))).put 61 (.d (.list ((cL p.2).map .bool)))
  have hi:=iC (W:=W) (G:=G1) (tg:=.name 22) (az (k:=21) (show G 21=_ from R)) rfl;rw[br]at hi;have h2:=pa (W:=W) (G:=G1) (fv:=[61]) (t:=λq:List Nat=>decide (1<(vy (cL p.2) q).length)) (h:=λq=>.tuple (q.map nD)) (fe:=aa 22) (ti:=(aT l8 (ta [61] (bL (aa 22)) (.name 26) bw (nA (aH (aa 61) (aa 26))) 400) (xk (.int 1)))) hi (by
   have all:∀ps∈kg,ps.length<400:=by decide
   exact all ps J) λq S=>⟨_,.one rfl,by
   rw[<-uV 1 (vy (cL p.2) q).length];exact d6 (TV (W:=W) (G:=(G1.only [61]).put 22 (.d (.tuple (q.map nD)))) (fv:=[61]) (fe:=aH (aa 61) (aa 26)) (k:=26) (cf (cL p.2)) (az rfl) rfl (BZ ps J q S).2 λi hi=>aM (az (k:=61) rfl) (az rfl) (ei i (I8 p.2 ((BZ ps J q S).1 i hi)) (du ((BZ ps J q S).1 i hi) (by decide)))) (aW 1) (CW _ _),λ_=>az rfl⟩
  have h3:=d6 h2 (e8 be (cJ _)) (CL (W:=W) ⟨(D6 _).2,by rw[iF,dW];decide⟩ ⟨(D6 _).1,by decide⟩ (.inl ⟨_,rfl⟩));have e:c6 (.list ((ps.filter λq=>decide (1<(vy (cL p.2) q).length)).map λq=>.tuple (q.map nD))) (.list [])=gh ps p.2:=by
   unfold gh;cases(ps.filter λq=>decide (1<(vy (cL p.2) q).length))with
   |nil=>rw[fS,c6,jY];rfl
   |cons a l=>rw[bX,c6,jY];rfl
  rw[e]at h3;exact h3
noncomputable def IG:EM:=(bC (ab (bC (ab (de (ab (xk (.int 0)) (ab (xk (.int 1)) (ab (xk (.int 2)) ag)))) ag)) (ab (bC (ab (de (ab (xk (.int 0)) ag)) (ab (de (ab (xk (.int 1)) (ab (xk (.int 2)) ag))) ag))) (ab (bC (ab (de (ab (xk (.int 1)) ag)) (ab (de (ab (xk (.int 0)) (ab (xk (.int 2)) ag))) ag))) (ab (bC (ab (de (ab (xk (.int 2)) ag)) (ab (de (ab (xk (.int 0)) (ab (xk (.int 1)) ag))) ag))) (ab (bC (ab (de (ab (xk (.int 0)) ag)) (ab (de (ab (xk (.int 1)) ag)) (ab (de (ab (xk (.int 2)) ag)) ag)))) ag))))))
theorem WJ:q6=λF st=>((bL IG) F st).bind λp=>cA (.name 21) (ao (gN (bU ek bAppend (aa 78) (ab vN ag))) aC) 400 p.1 F p.2:=rfl
theorem Wg(F:aj)(st:St):tJ F st=some (.next,F.put 78 (.ref st.length),st++[.list []]):=by
 unfold tJ;simp only[gF,xQ,dJ,bz,bo];rw[if_pos (show([]:List AV).length <=sizeLine from cJ _)];rfl
structure J8(W:List Nat)(G:Gm)(I I':St->Prop)(f:SM)(G':Gm):Prop where
 u:dM W G I I' f G'
noncomputable def pI(w:Wt)(ps:List (List Nat)):Int:=cnt w (gh ps)
section
variable{W:List Nat}{G:Gm}{w:Wt}
theorem Qu:bh W G IG (.list (kg.map λps=>.list (ps.map λp=>.tuple (p.map nD)))):=by
 have t1:∀a:Nat,bh W G (de (ab (xk (.int a)) ag)) (.tuple ([a].map nD)):=λa=>oj (aE (aW a) be) (show 1<=16777216 by decide);have J:∀a b:Nat,bh W G (de (ab (xk (.int a)) (ab (xk (.int b)) ag))) (.tuple ([a,b].map nD)):=λa b=>oj (aE (aW a) (aE (aW b) be)) (show 2<=16777216 by decide);have t3:∀a b c:Nat,bh W G (de (ab (xk (.int a)) (ab (xk (.int b)) (ab (xk (.int c)) ag)))) (.tuple ([a,b,c].map nD)):=λa b c=>oj (aE (aW a) (aE (aW b) (aE (aW c) be))) (show 3<=16777216 by decide);exact e8 (aE (e8 (aE (t3 0 1 2) be) (show 1<=16777216 by decide)) (aE (e8 (aE (t1 0) (aE (J 1 2) be)) (show 2<=16777216 by decide)) (aE (e8 (aE (t1 1) (aE (J 0 2) be)) (show 2<=16777216 by decide)) (aE (e8 (aE (t1 2) (aE (J 0 1) be)) (show 2<=16777216 by decide)) (aE (e8 (aE (t1 0) (aE (t1 1) (aE (t1 2) be))) (show 3<=16777216 by decide)) be))))) (show 5<=16777216 by decide)
theorem Lh{k lc:Nat}{fe:EM}{xs:List Int}{x:Int}(hk:G k=some (.v (.ref lc)))(N:lc∈W)(hl:xs.length<=1000)(he:bh W G fe (.int x)):dM W G (λst=>st[lc]?=some (.list (xs.map .int))) (λst=>st[lc]?=some (.list ((xs++[x]).map .int))) (gN (bU ek bAppend (aa k) (ab fe ag))) G:=λF st g i=>by
 refine Ok.fJ (Ok.bind' ?_);rw[show aa k F st=some (.ref lc,st) by rw[bP,g.av hk];rfl];show Ok ((ek (.ref lc) st).bind _) _;rw[nF _ _ _ i];show Ok ((ab fe ag F st).bind _) _;refine Ok.bind' (Ok.bind' ((he F st g).mono λq R=>?_));obtain⟨v,st1⟩:=q;have O:aN [] st st1:=R.1;cases(show RV W st1 v (.int x)from R.2).i'
 have J:=O.get i;show Ok (bAppend [.ref lc,.int x] st1) _;rw[rM (xs.map .int) lc (.int x) st1 J (by rw[aQ];exact aw hl (by decide))];have S:aN W st1 (st1.set lc (.list (xs.map .int ++[.int x]))):=lC N;refine⟨rfl,O.any.trans S,(g.cZ O).keep S,?_⟩;show(st1.set lc _)[lc]?=_;rw[get_set,if_pos rfl,if_pos (gn J),dF];rfl
theorem TG{lc:Nat}{fe:EM}(N:bh W G fe (.list (kg.map λps=>.list (ps.map λp=>.tuple (p.map nD)))))(O:lc∈W)(hw:w.length<400)(R:G 78=some (.v (.ref lc)))(S:G 44=some (.d (wD w)))(U:G 59=some (.d (cD w)))(Y:G 21=none):dM W G (λst=>st[lc]?=some (.list [])) (λst=>st[lc]?=some (.list ((gu w).map .int))) (λF st=>((bL fe) F st).bind λp=>cA (.name 21) (ao (gN (bU ek bAppend (aa 78) (ab vN ag))) aC) 400 p.1 F p.2) G:=by
 rw[<-show kg.map (pI w)=gu w from Ng w];have hi:=iC (W:=W) (G:=G) (tg:=.name 21) N rfl;have stb:∀o:AO,gQ λst=>st[lc]?=some o:=λo a b k e=>k.get e;have key:=qC (W:=W) (G:=G) (tg:=.name 21) (fi:=bL fe) (as:=(kg.map λps=>fm (ps.map λp=>.tuple (p.map nD))).map .one) (I:=λst=>st[lc]?=some (.list [])) (b:=ao (gN (bU ek bAppend (aa 78) (ab vN ag))) aC) (λj st=>st[lc]?=some (.list (((kg.take j).map (pI w)).map .int))) (by rw[FG,fS,fS];exact sk hi (stb (.list []))) (by rw[aQ,aQ];exact(show 5<400 by decide)) λj a ha=>?_
 ·rw[aQ,aQ,uo]at key
  exact key
 rw[br,dO]at ha;refine aG (ji.mp ha) λps J zq2=>?_;subst zq2;have hm:=j8 J;refine⟨_,.one,qz (p9 (k:=21) (p:=.d (.list (ps.map λp=>.tuple (p.map nD)))) ?_ Y)⟩;have e:(kg.take (j+1)).map (pI w)=(kg.take j).map (pI w)++[pI w ps]:=by rw[nL,J,dF];rfl
 rw[e];have p:∀{i:Nat}{v:Vl},i≠21->G i=some v->(G.put 21 (.d (.list (ps.map λp=>.tuple (p.map nD))))) i=some v:=λh e=>by rw[Gm.put,if_neg h];exact e
 have hlen:((kg.take j).map (pI w)).length <=1000:=by
  have h5:kg.length=5:=rfl;rw[aQ,iE,h5];exact aw (j3 ..) (by decide)
 exact Lh (k:=78) (lc:=lc) (xs:=(kg.take j).map (pI w)) (x:=pI w ps) (fe:=vN) (p (by decide) R) O hlen (U2 hw hm (p (by decide) S) (p (by decide) U) (by rw[Gm.put,if_pos rfl]))
theorem V9{lc:Nat}(J:lc∈W)(hw:w.length<400)(N:G 78=some (.v (.ref lc)))(O:G 44=some (.d (wD w)))(R:G 59=some (.d (cD w)))(S:G 21=none):J8 W G (λst=>st[lc]?=some (.list [])) (λst=>st[lc]?=some (.list ((gu w).map .int))) q6 G:=by
 rw[WJ];exact⟨TG Qu J hw N O R S⟩
theorem yc{l:List Int}{fa}(h:jv W G fa (l.map .int))(hl:l.length<=16777216):bh W G (bC fa) (iD l):=e8 h (by rw[aQ];exact hl)
theorem Wr:Sg W G tI (.next (G.put 83 (.d (iD [1])))):=fR (yc (l:=[1]) (aE (gL 1) be) (show 1<=16777216 by decide))
theorem VW:Sg W G tO (.next (G.put 77 (.d (iD [0,0,0,0])))):=fR (yc (l:=[0,0,0,0]) (aE (gL 0) (aE (gL 0) (aE (gL 0) (aE (gL 0) be)))) (show 4<=16777216 by decide))
theorem U6:Sg W G tS (.next (G.put 69 (.d (iD [0,0,0,0,0,0])))):=fR (yc (l:=[0,0,0,0,0,0]) (aE (gL 0) (aE (gL 0) (aE (gL 0) (aE (gL 0) (aE (gL 0) (aE (gL 0) be)))))) (show 6<=16777216 by decide))
theorem Aa(c:Int)(P:List Int):eD c P=((0::P).zip (P++[0])).map λq=>q.1 -c*q.2:=by
 unfold eD;rw[List.map_zip_eq_zipWith];rfl
theorem Sn{c:Int}{P:List Int}(hc:c.natAbs<18446744073709551616)(N:P.length<300)(J:G 83=some (.d (iD P)))(O:G 79=some (.d (.int c))):bh W G (bl [79] (bD fM (ab (ay aX (bC (ab (xk (.int 0)) ag)) (aa 83)) (ab (ay aX (aa 83) (bC (ab (xk (.int 0)) ag))) ag))) (.names [84,85]) bw (a_ (ay kl (aa 84) (ay cU (aa 79) (aa 85)))) 400) (iD (eD c P)):=by
 have R:bh W G (bC (ab (xk (.int 0)) ag)) (iD [0]):=yc (l:=[0]) (aE (gL 0) be) (show 1<=16777216 by decide);have S:=pj (W:=W) (G:=G) (ks:=[84,85]) (fa:=ab (ay aX (bC (ab (xk (.int 0)) ag)) (aa 83)) (ab (ay aX (aa 83) (bC (ab (xk (.int 0)) ag))) ag)) (aE (aM R (az J) (n5 (by rw[aQ,aQ,gZ];exact dx (a6 1) (cq N) (by decide)))) (aE (aM (az J) R (n5 (by rw[aQ,aQ,gZ];exact dx (cq N) (a6 1) (by decide)))) be));rw[<-dF,<-dF,Qi,br]at S;have:=fD (W:=W) (G:=G) (fv:=[79]) (h:=λq:Int×Int=>.int (q.1 -c*q.2)) (fe:=ay kl (aa 84) (ay cU (aa 79) (aa 85))) S (by rw[Fd];exact bQ (j3 ..) (by rw[aP];exact bQ (fj (cq N)) (by decide))) λq U=>⟨_,.two rfl rfl,aM (az rfl) (aM (az (k:=79) (show G 79=_ from O)) (az rfl) (oh c q.2 hc)) (Cz _ _)⟩;rw[Aa,iD,br];exact this
end
theorem Sg.le{W:List Nat}{G G1 G2:Gm}{f:SM}(h:Sg W G f (.next G1))(le:∀j q,G2 j=some q->G1 j=some q):Sg W G f (.next G2):=λF st g=>(h F st g).mono λq J=>⟨J.1,J.2.1,GR.le J.2.2 le⟩
theorem Mb(c:Int)(P:List Int):(eD c P).length =P.length+1:=by
 rw[Aa,aQ,Fd,aP,dH,gZ,xE]
noncomputable def jN(cs:List Int):List Int:=cs.foldl (λP c=>eD c P) [1]
theorem Le(cs:List Int)(c:Int):jN (cs++[c])=eD c (jN cs):=by unfold jN;rw[List.foldl_append];rfl
theorem ED(cs:List Int):(jN cs).length =cs.length+1:=by
 have:∀(cs P:List Int),(cs.foldl (λP c=>eD c P) P).length =P.length+cs.length:=by
  intro cs;induction cs with
  |nil=>intro P;rfl
  |cons c cs J=>intro P;rw[mV,J,Mb,dH];exact hK ..
 unfold jN;rw[this,gZ,gH]
noncomputable def Jt:EM:=(bl [79] (bD fM (ab (ay aX (bC (ab (xk (.int 0)) ag)) (aa 83)) (ab (ay aX (aa 83) (bC (ab (xk (.int 0)) ag))) ag))) (.names [84,85]) bw (a_ (ay kl (aa 84) (ay cU (aa 79) (aa 85)))) 400)
theorem Vm:oK=(λF st=>((bL (aa 78)) F st).bind λp=>cA (.name 79) (ao (bj 83 Jt) aC) 400 p.1 F p.2):=rfl
section
variable{W:List Nat}{G:Gm}{w:Wt}
theorem UQ{cs:List Int}(hl:cs.length<=100)(hc:∀c∈cs,c.natAbs<18446744073709551616)(R:G 78=some (.d (iD cs)))(S:G 79=none):Sg W (G.put 83 (.d (iD [1]))) oK (.next (G.put 83 (.d (iD (jN cs))))):=by
 rw[Vm];have hi:=iC (W:=W) (G:=G.put 83 (.d (iD [1]))) (tg:=.name 79) (az (k:=78) (show(G.put 83 (.d (iD [1]))) 78=some (.d (iD cs)) by rw[Gm.put,if_neg (by decide)];exact R)) rfl;rw[br]at hi;have hlen:(cs.map (Ai.one∘iS)).length =cs.length:=aQ _;have key:=yH (W:=W) (G:=G.put 83 (.d (iD [1]))) (tg:=.name 79) (b:=ao (bj 83 Jt) aC) (λr=>G.put 83 (.d (iD (jN (cs.take (cs.length -r.length)))))) hi (by rw[hlen,kH];rfl) (by rw[hlen];exact bQ hl (by decide)) λa r hr=>by
  refine bO hr λt ht=>?_;have J:=congrArg mX ht;rw[aP,dH,hlen]at J;have Y:(cs.map (Ai.one∘iS))[t.length]?=some a:=by rw[<-ht,jj (a6 _),kH];rfl
  rw[dO]at Y;refine aG (ji.mp Y) λc O U=>?_;subst U;have e1:cs.length -((Ai.one∘iS) c::r).length =t.length:=by rw[dH];exact sg J.symm
  have e2:cs.length -r.length=t.length+1:=by exact sg (J.symm.trans (hK t.length r.length 1))
  refine⟨_,.one,?_⟩;rw[e1,e2,nL,O];show Sg W _ _ (.next (G.put 83 (.d (iD (jN (cs.take t.length++[c]))))));rw[Le];have hP:(jN (cs.take t.length)).length <300:=by rw[ED,iE];have:=j3 t.length cs.length;exact bQ (fj (aw this hl)) (by decide)
  refine Sg.le (mz (fR (Sn (hc c (j8 O)) hP (by rw[Gm.put,if_neg (by decide),Gm.put,if_pos rfl]) (by rw[Gm.put,if_pos rfl])))) λi q e=>?_;unfold Gm.put at e ⊢;by_cases N:i=83
  ·rw[if_pos N]at e ⊢;exact e
  ·rw[if_neg N]at e ⊢
   rw[if_neg (λz=>by rw[z,S]at e;cases e),if_neg N];exact e
 have e0:cs.length -([]:List Ai).length =cs.length:=Nat.sub_zero _;rw[e0,uo]at key;exact key
noncomputable abbrev pD(w:Wt)(first i:Nat):aB:=iD ((cF 6).map (pw w first i))
noncomputable abbrev ny(w:Wt)(first n:Nat):aB:=.list ((cF n).map (pD w first))
noncomputable def JS:EM:=(bl [80] (bD cS (ab (xk (.int 6)) ag)) (.name 24) bw (a_ (gf (aT oEq (aa 24) (aa 80)) (xk (.int 1)) (xk (.int 0)))) 400)
noncomputable def vL:EM:=(bl [44,57,81] (bD cS (ab (xk (.int 6)) ag)) (.name 24) bw (a_ (bK fP (ab (bl [81,24] (bD fM (ab (aa 44) (ab (aa 57) ag))) (.names [73,63]) bw (a_ (ay cU (aa 73) (aH (aH (aa 81) (i9 (xk (.int 1)))) (aH (aa 63) (aa 24))))) 400) ag))) 400)
noncomputable def Dq:aj->St->Option (Bool×St):=(aT c5 (bl [83,81] (bD cS (ab (xk (.int 6)) ag)) (.name 24) (aT c5 (bK fP (ab (bl [24] (bD fM (ab (aa 83) (ab (aa 81) ag))) (.names [75,65]) bw (a_ (ay cU (aa 75) (aH (aa 65) (aa 24)))) 400) ag)) (xk (.int 0))) (a_ (aa 24)) 400) (bC ag))
noncomputable def J5:EM:=(bl [80] (bD fM (ab (aa 77) (ab (cH (aa 81) (bY (xk (.int 1))) bb bb) ag))) (.names [82,65]) bw (a_ (ay aX (aa 82) (aH (aa 65) (aa 80)))) 400)
noncomputable def v_:SM:=(ao (bj 81 (bC (ab JS ag)))
 (ao (λF st=>((bD cS (ab (xk (.int 5)) ag)) F st).bind λp=>cA (.name 42) (ao (gN (bU ek bAppend (aa 81) (ab vL ag))) aC) 400 p.1 F p.2)
 (ao (cn Dq (ao (cy (xk (.bool false))) aC) aC)
 (ao (bj 77 J5) aC))))
theorem Wy:rl=λF st=>((bD cS (ab (xk (.int 6)) ag)) F st).bind λp=>cA (.name 80) v_ 400 p.1 F p.2:=rfl
theorem sM{k:Nat}:fc W G (.name k) (bD cS (ab (xk (.int 6)) ag)) ((cF 6).map λj:Nat=>.one (nD j)):=by
 have:=oP (W:=W) (G:=G) (k:=k) (fa:=ab (xk (.int 6)) ag) (n:=6) (aE (aW 6) be) (by decide);exact this
theorem UI{k:Nat}:fc W G (.name k) (bD cS (ab (xk (.int 5)) ag)) ((cF 5).map λj:Nat=>.one (nD j)):=by
 have:=oP (W:=W) (G:=G) (k:=k) (fa:=ab (xk (.int 5)) ag) (n:=5) (aE (aW 5) be) (by decide);exact this
theorem Wo{first:Nat}(J:G 80=some (.d (nD first))):bh W G JS (pD w first 0):=by
 have:=fD (W:=W) (G:=G) (fv:=[80]) (h:=λj:Nat=>.int (if j=first then 1 else 0)) (fe:=gf (aT oEq (aa 24) (aa 80)) (xk (.int 1)) (xk (.int 0))) sM (by rw[eI];decide) λj _=>⟨_,.one rfl,qJ (cast_eq j first▸d6 (G:=(G.only [80]).put 24 (.d (nD j))) (az (k:=24) rfl) (az (k:=80) (show G 80=_ from J)) (pz _ _)) (λh=>by rw[if_pos (of_decide_eq_true h)];exact gL 1) λh=>by rw[if_neg (of_decide_eq_false h)];exact gL 0⟩;rw[pD,iD,br];exact this
theorem BY(first i:Nat){k:Nat}(hk:k<6):((((cF 6).map (pw w first i)).map iS)[k]?)=some (.int (pw w first i k)):=by
 rw[dO,dO,uA hk];rfl
theorem AX(c:C9){k:Nat}(hk:k<6):((kX (cL c)).map nD)[k]?=some (nD (sF c k)):=by
 rw[dO];exact congrArg (lD nD) (n_ c.1 c.2.1 c.2.2 ⟨k,hk⟩).1
theorem Wz{first i:Nat}(hw:w.length<400)(hb:∀p∈w,p.1.natAbs <18446744073709551616)(Y:i<=10)(O:G 44=some (.d (wD w)))(R:G 57=some (.d (rD w)))(S:G 81=some (.d (ny w first (i+1)))):bh W G vL (pD w first (i+1)):=by
 have:=fD (W:=W) (G:=G) (fv:=[44,57,81]) (h:=λk:Nat=>.int (pw w first (i+1) k)) (fe:=(bK fP (ab (bl [81,24] (bD fM (ab (aa 44) (ab (aa 57) ag))) (.names [73,63]) bw (a_ (ay cU (aa 73) (aH (aH (aa 81) (i9 (xk (.int 1)))) (aH (aa 63) (aa 24))))) 400) ag))) (sM (k:=24)) (by rw[eI];decide) λk hk=>⟨_,.one rfl,?_⟩
 ·rw[pD,iD,br]
  exact this
 ·have J:k<6:=m5.mp hk
  let G1:=(G.only [44,57,81]).put 24 (.d (nD k));have U:=pj (W:=W) (G:=G1) (ks:=[73,63]) (fa:=ab (aa 44) (ab (aa 57) ag)) (aE (az (k:=44) (show G 44=_ from O)) (aE (az (k:=57) (show G 57=_ from R)) be));rw[xi,br]at U;have N:cO W kQ (ny w first (i+1)) (.int (-((1:Nat):Int))) (pD w first i):=TQ 1 (by rw[aQ,eI,Of,dO,uA (iJ i)];rfl) (a6 1) (by rw[aQ,eI];exact dg 1 i) (by decide);have hc:=fD (W:=W) (G:=G1) (fv:=[81,24]) (h:=λp:Int×C9=>.int (p.1*pw w first i (sF p.2 k))) (fe:=(ay cU (aa 73) (aH (aH (aa 81) (i9 (xk (.int 1)))) (aH (aa 63) (aa 24))))) U hw λp hp=>⟨_,.two rfl rfl,aM (az rfl) (aM (aM (az (k:=81) (show G 81=_ from S)) (IT (aW 1)) N) (aM (az rfl) (az (k:=24) rfl) (ei k (AX p.2 J) (du J (by decide)))) (ei _ (BY first i (lS p.2 J)) (du (lS p.2 J) (by decide)))) (oh _ _ (hb p hp))⟩;have:=ia (g:=fP) (aE hc be) (by
   have:=sR (W:=W) (ns:=w.map λp=>p.1*pw w first i (sF p.2 k));rwa[br]at this)
  exact this
end
theorem Uv(w:Wt)(first k:Nat):∀(P:List Int)(i:Nat),fA w P (pw w first i) k=((P.zip (uq i P.length)).map λq=>q.1*pw w first q.2 k).sum :=by
 intro P;induction P with
 |nil=>
  intro i;exact rfl
 |cons p P J=>
  intro i;rw[dH,Hd,kC,bX,r9,<-J (i+1)];rfl
theorem Iv{W:List Nat}{st:St}:∀l:List Int,aR W st (l.map .int) (l.map .int):=by
 intro l;induction l with
 |nil=>
  exact .nil
 |cons x l J=>
  exact .cons (.int x) (J)
section
variable{W:List Nat}{G:Gm}{w:Wt}
theorem Uo{first:Nat}{P:List Int}(U:P.length=6)(hb:∀c∈P,c.natAbs<18446744073709551616)(Y:∀k,k<6->fA w P (pw w first 0) k=0)(R:G 83=some (.d (iD P)))(S:G 81=some (.d (ny w first 6))):fb W G Dq false:=by
 have hc:=pa (W:=W) (G:=G) (fv:=[83,81]) (t:=λ_:Nat=>false) (h:=nD) (fe:=aa 24) (ti:=(aT c5 (bK fP (ab (bl [24] (bD fM (ab (aa 83) (ab (aa 81) ag))) (.names [75,65]) bw (a_ (ay cU (aa 75) (aH (aa 65) (aa 24)))) 400) ag)) (xk (.int 0)))) (sM (k:=24)) (by rw[eI];decide) λk hk=>⟨_,.one rfl,?_,λe=>absurd e (by decide)⟩
 ·rw[Fk.mpr λ_ _=>d9]at hc
  exact d6 hc (e8 be (cJ _)) (ye (a:=[]) λ_ m=>absurd m a7)
 ·have N:k<6:=m5.mp hk
  let G1:=(G.only [83,81]).put 24 (.d (nD k));have O:=pj (W:=W) (G:=G1) (ks:=[75,65]) (fa:=ab (aa 83) (ab (aa 81) ag)) (aE (az (k:=83) (show G 83=_ from R)) (aE (az (k:=81) (show G 81=_ from S)) be));rw[Qi,br]at O;have hs:=fD (W:=W) (G:=G1) (fv:=[24]) (h:=λq:Int×Nat=>.int (q.1*pw w first q.2 k)) (fe:=(ay cU (aa 75) (aH (aa 65) (aa 24)))) O (by rw[Fd,U,eI];decide) λq hq=>⟨_,.two rfl rfl,aM (az rfl) (aM (az rfl) (az (k:=24) rfl) (ei k (BY first q.2 N) (du N (by decide)))) (oh _ _ (hb q.1 (PK hq).1))⟩;have J:=ia (g:=fP) (aE hs be) (by
   have:=sR (W:=W) (ns:=(P.zip (cF 6)).map λq=>q.1*pw w first q.2 k);rwa[br]at this)
  have e0:((P.zip (cF 6)).map λq=>q.1*pw w first q.2 k).sum =0:=by
   have:=Uv w first k P 0;rw[U,<-List.range_eq_range',Y k N]at this;exact this.symm
  rw[e0]at J;exact d6 J (gL 0) (Wh 0 0)
noncomputable def nB(w:Wt)(j m:Nat):Int:=((cF j).map λf=>pw w f m f).sum
theorem Sr(w:Wt)(j m:Nat):nB w (j+1) m=nB w j m+pw w j m j:=by
 unfold nB;rw[G3,dF,FD];show _+(pw w j m j+0)=_;rw[xw]
noncomputable abbrev jz(w:Wt)(j:Nat):aB:=iD ([1,2,3,4].map (nB w j))
theorem Un{first:Nat}(hf:first<6)(J:G 77=some (.d (jz w first)))(N:G 81=some (.d (ny w first 6)))(O:G 80=some (.d (nD first))):bh W G J5 (jz w (first+1)):=by
 have R:=pj (W:=W) (G:=G) (ks:=[82,65]) (fa:=ab (aa 77) (ab (cH (aa 81) (bY (xk (.int 1))) bb bb) ag)) (aE (az J) (aE (iT (az N) (fT (aW 1)) dR dR (qG 1 (by rw[aQ,eI];decide))) be));have e:((([1,2,3,4].map (nB w first)).map iS).zip (((cF 6).map (pD w first)).drop 1)).map (λp=>Ai.two p.1 p.2)=[1,2,3,4].map λm=>.two (.int (nB w first m)) (pD w first m):=rfl;rw[e]at R;have:=fD (W:=W) (G:=G) (fv:=[80]) (h:=λm:Nat=>.int (nB w (first+1) m)) (fe:=(ay aX (aa 82) (aH (aa 65) (aa 80)))) R (show 4<400 by decide) λm hm=>⟨_,.two rfl rfl,by
  rw[Sr];exact aM (az rfl) (aM (az rfl) (az (k:=80) (show G 80=_ from O)) (ei first (BY first m hf) (du hf (by decide)))) (yx _ _)⟩
 rw[jz,iD,br];exact this
noncomputable def IP(w:Wt)(first lp j:Nat)(st:St):Prop:=∃xs,st[lp]?=some (.list xs)/\aR [lp] st xs ((cF (j+1)).map (pD w first))
theorem SG{first lp j:Nat}(hw:w.length<400)(hb:∀p∈w,p.1.natAbs <18446744073709551616)(hj:j<=10)(U:G 44=some (.d (wD w)))(Y:G 57=some (.d (rD w)))(O:G 81=some (.v (.ref lp))):dM [lp] G (IP w first lp j) (IP w first lp (j+1)) (gN (bU ek bAppend (aa 81) (ab vL ag))) G:=λF st g i=>by
 refine aG i λxs hx R=>?_;refine Ok.fJ (Ok.bind' ?_);rw[show aa 81 F st=some (.ref lp,st) by rw[bP,g.av O];rfl];show Ok ((ek (.ref lp) st).bind _) _;rw[nF _ _ _ hx];show Ok ((ab vL ag F st).bind _) _;have rx0:aR [] st xs ((cF (j+1)).map (pD w first)):=aR.to (W:=[lp]) (λl _ _=>⟨a7,rfl⟩) R;have g0:GR [] (G.put 81 (.d (ny w first (j+1)))) F st:=(g.shrink (W':=[]) λ_ m=>absurd m a7).vK (g.av O) (.list a7 hx rx0);refine Ok.bind' (Ok.bind' ((Wz (W:=[]) (first:=first) (i:=j) hw hb hj (by rw[Gm.put,if_neg (by decide)];exact U) (by rw[Gm.put,if_neg (by decide)];exact Y) (by rw[Gm.put,if_pos rfl]) F st g0).mono λq hq=>?_));obtain⟨v,st1⟩:=q;have S:aN [] st st1:=hq.1;refine fF ((show RV [] st1 v (pD w first (j+1))from hq.2).l') λl' ys J _ hy ry=>?_;subst J;have ey:=ry.ints;have N:=S.get hx;have hne:l'≠lp:=λz=>by
  rw[z,N]at hy;cases hy
  refine aG (R.get (i:=0) (d:=pD w first 0) (by rw[dO,uA (uk j)];rfl)) λx ex rxx=>?_;refine ou rxx.l' λl2 xs2 J _=>?_;subst J;rw[ey,dO]at ex;refine aG (ji.mp ex) λ_ _ h=>?_;cases h
 show Ok (bAppend [.ref lp,.ref l'] st1) _;rw[rM xs lp (.ref l') st1 N (by rw[R.len,aQ,eI];exact aw (fj hj) (by decide))];have kW:aN [lp] st1 (st1.set lp (.list (xs++[.ref l']))):=lC (cj ..);refine⟨rfl,S.any.trans kW,(g.cZ S).keep kW,xs++[.ref l'],?_,?_⟩
 ·show(st1.set lp _)[lp]?=_
  rw[get_set,if_pos rfl,if_pos (gn N)]
 ·rw[G3,dF]
  have rv:RV [lp] st1 (.ref l') (pD w first (j+1)):=.list (λm=>hne (cx.mp m)) hy (by rw[ey];exact Iv _);exact aR.keep kW ((aR.keep S.any R).app (.cons rv .nil))
theorem UJ{first:Nat}{P:List Int}(hf:first<6)(hw:w.length<400)(hb:∀p∈w,p.1.natAbs <18446744073709551616)(hP:P.length=6)(U:∀c∈P,c.natAbs<18446744073709551616)(hz:∀k,k<6->fA w P (pw w first 0) k=0)
 (Y:G 44=some (.d (wD w)))(h57:G 57=some (.d (rD w)))(h83:G 83=some (.d (iD P)))(h77:G 77=some (.d (jz w first)))(R:G 80=some (.d (nD first)))(n42:G 42=none)(n81:G 81=none):Sg [] G v_ (.next (G.put 77 (.d (jz w (first+1))))):=λF st g=>by
 refine fH (Ie (k:=81) g (aE (Wo (w:=w) R) be) (show 1<=16777216 by decide)) λst1 xs e k1 r1=>?_;generalize J:st1.length=lp at e;have N:st.length<=lp:=J▸k1.len;refine sq (Ok.of e ⟨rfl,?_⟩);have S:aN [] st (st1++[.list xs]):=k1.trans (.app _);have gA:GR [lp] (G.put 81 (.v (.ref lp))) (F.put 81 (.ref lp)) (st1++[.list xs]):=(g.grow (l:=lp) S N (by rw[aP,J];exact iJ _)).put (p:=.v _) rfl;have xA:(st1++[AO.list xs])[lp]?=some (.list xs):=J▸nf;have iA:IP w first lp 0 (st1++[.list xs]):=⟨xs,xA,aR.keep (.app _) (aR.to (W:=[]) (W':=[lp]) (st:=st1) (st':=st1) (λl hl _=>⟨λm=>by rw[cx.mp m,J]at hl;exact absurd hl (jI _),rfl⟩) r1)⟩;have stb:∀j,gQ (IP w first lp j):=λj a b k h=>h.imp λxs q=>⟨k.get q.1,aR.keep k.any q.2⟩;have O:=qC (W:=[lp]) (G:=G.put 81 (.v (.ref lp))) (I:=IP w first lp 0) (tg:=.name 42) (fi:=bD cS (ab (xk (.int 5)) ag)) (b:=ao (gN (bU ek bAppend (aa 81) (ab vL ag))) aC) (as:=(cF 5).map λj:Nat=>.one (nD j)) (λj=>IP w first lp j) (sk UI (stb 0)) (by rw[aQ,eI];decide) λj a ha=>by
  have hj:j<5:=by
   have:=(fY.mp ha).1;rw[aQ,eI]at this;exact this
  rw[dO,uA hj]at ha;cases ha
  refine⟨_,.one,qz (p9 (k:=42) (p:=.d (nD j)) (SG (w:=w) hw hb (by exact aw (fU hj) (by decide)) ?_ ?_ ?_) (show(if 42=81 then _ else G 42)=none from n42))⟩
  ·exact Y
  ·exact h57
  ·rfl
 rw[aQ,eI]at O;refine mu O gA iA λF2 bI k2 g2 i2=>?_;refine aG i2 λys hy ry=>?_;have a81:=g2.av (k:=81) (v:=.ref lp) rfl;have g3:GR [] (G.put 81 (.d (ny w first 6))) F2 bI:=by
  have:=(g2.shrink (W':=[]) λ_ m=>absurd m a7).vK (k:=81) (p:=.d (ny w first 6)) a81 (.list a7 hy (aR.to (W:=[lp]) (λl _ _=>⟨a7,rfl⟩) ry));exact this.le λj q e=>by
   unfold Gm.put at e ⊢;by_cases z:j=81
   ·rw[if_pos z]at e ⊢;exact e
   ·rw[if_neg z]at e ⊢;rw[if_neg z];exact e
 have kB:aN [] st bI:=⟨aw S.len k2.len,λl hl _=>(k2.at' l (cK hl S.len) (λm=>by rw[cx.mp m]at hl;exact absurd N (jX.mpr hl))).trans (S.at' l hl a7)⟩;have p:∀{i:Nat}{v:Vl},i≠81->G i=some v->(G.put 81 (.d (ny w first 6))) i=some v:=λh e=>by rw[Gm.put,if_neg h];exact e
 have s1:Sg [] (G.put 81 (.d (ny w first 6))) (cn Dq (ao (cy (xk (.bool false))) aC) aC) (.next (G.put 81 (.d (ny w first 6)))):=te (Uo hP U hz (p (by decide) h83) (by rw[Gm.put,if_pos rfl])) (λh=>absurd h (by decide)) λ_=>Cn;have s2:=oi s1 (mz (fR (k:=77) (p:=.d (jz w (first+1))) (Un (W:=[]) hf (p (by decide) h77) (by rw[Gm.put,if_pos rfl]) (p (by decide) R))));refine(s2 F2 bI g3).mono λq hq=>⟨kB.trans hq.1,hq.2.1,GR.le hq.2.2 λj v e=>?_⟩;unfold Gm.put at e ⊢;by_cases z:j=77
 ·rw[if_pos z]at e ⊢;exact e
 ·rw[if_neg z]at e ⊢
  rw[if_neg (λy=>by rw[y,n81]at e;cases e)];exact e
end
section
variable{G:Gm}{w:Wt}
theorem VK{P:List Int}(hw:w.length<400)(hb:∀p∈w,p.1.natAbs <18446744073709551616)(hP:P.length=6)(O:∀c∈P,c.natAbs<18446744073709551616)(hz:∀first k,k<6->fA w P (pw w first 0) k=0)
 (R:G 44=some (.d (wD w)))(S:G 57=some (.d (rD w)))(U:G 83=some (.d (iD P)))(Y:G 80=none)(n42:G 42=none)(n81:G 81=none):Sg [] (G.put 77 (.d (jz w 0))) rl (.next (G.put 77 (.d (jz w 6)))):=by
 rw[Wy];have hlen:((cF 6).map λj:Nat=>Ai.one (nD j)).length =6:=by rw[aQ,eI]
 have key:=yH (W:=[]) (G:=G.put 77 (.d (jz w 0))) (tg:=.name 80) (fi:=bD cS (ab (xk (.int 6)) ag)) (b:=v_) (as:=(cF 6).map λj:Nat=>.one (nD j)) (λr=>G.put 77 (.d (jz w (6 -r.length)))) sM (by rw[hlen]) (by rw[hlen];decide) λa r hr=>by
  obtain⟨t,ht⟩:=hr;have J:=congrArg mX ht;rw[aP,dH,hlen]at J;have hj:((cF 6).map λj:Nat=>Ai.one (nD j))[t.length]?=some a:=by rw[<-ht,jj (a6 _),kH];rfl
  have N:t.length<6:=by exact rL (bS J)
  rw[dO,uA N]at hj;cases hj
  have e1:6 -(Ai.one (nD t.length)::r).length =t.length:=by rw[dH];exact sg J.symm
  have e2:6 -r.length=t.length+1:=by exact sg (J.symm.trans (hK t.length r.length 1))
  refine⟨_,.one,?_⟩;rw[e1,e2];have p:∀{i:Nat}{v:Option Vl},i≠77->i≠80->G i=v->((G.put 77 (.d (jz w t.length))).put 80 (.d (nD t.length))) i=v:=λh h' e=>by rw[Gm.put,if_neg h',Gm.put,if_neg h];exact e
  refine Sg.le (UJ (G:=(G.put 77 (.d (jz w t.length))).put 80 (.d (nD t.length))) (first:=t.length) N hw hb hP O (hz t.length) (p (by decide) (by decide) R) (p (by decide) (by decide) S) (p (by decide) (by decide) U) ?_ ?_ (p (by decide) (by decide) n42) (p (by decide) (by decide) n81)) λi q e=>?_
  ·rw[Gm.put,if_neg (by decide),Gm.put,if_pos rfl]
  ·rw[Gm.put,if_pos rfl]
  ·unfold Gm.put at e ⊢
   by_cases z:i=77
   ·rw[if_pos z]at e ⊢;exact e
   ·rw[if_neg z]at e ⊢
    rw[if_neg (λy=>by rw[y,Y]at e;cases e),if_neg z];exact e
 exact key
end
section
variable{W:List Nat}{G:Gm}{w:Wt}
theorem IW{x:Int}{m:Nat}(J:x.natAbs<18446744073709551616)(hm:m<=4):cO W jb (.int x) (nD m) (.int (x^m)):=lj (λst=>by
 unfold jb nj;rw[mE,bo,mE,bo];show lD _ (if(0:Int)<=(m:Int)/\(fE x:Int)*(m:Int)<=2^27 then _ else none)=_;have hb:=bits_le J;have hmul:fE x*m<=64*4:=Bm hb hm;have hi:(fE x:Int)*(m:Int)<=256:=by
  have:((fE x*m:Nat):Int)<=((64*4:Nat):Int):=lF.mpr hmul;rwa[QY]at this
 rw[if_pos ⟨eu m,qu hi (by decide)⟩];rfl) λst=>.int _
theorem Uk{k:Nat}:fc W G (.name k) (bD cS (ab (xk (.int 1)) (ab (xk (.int 5)) ag))) ([1,2,3,4].map λm:Nat=>.one (nD m)):=λF st g=>by
 have e:cS [.int 1,.int 5] st=some (.range 1 4 1,st):=by
  have h:x_ [.int 1,.int 5] st=some (.range 1 (if(1:Int)<5 then 5 -1 else 0) 1,st):=by
   show(if(fZ 1&&fZ 5)=true then some (It.range 1 (if(1:Int)<5 then 5 -1 else 0) 1,st)else none)=_;exact if_pos (show(fZ 1&&fZ 5)=true by decide)
  show(B9 [.int 1,.int 5] st).or (x_ [.int 1,.int 5] st)=_;rw[h];rfl
 have y:=GF (W:=W) (k:=k) 4 1 st;have J:((cF 4).map λj:Nat=>Ai.one (.int (1+(j:Int))))=[1,2,3,4].map λm:Nat=>.one (nD m):=rfl;rw[J]at y;exact Ok.of (show bD cS (ab (xk (.int 1)) (ab (xk (.int 5)) ag)) F st=some (.range 1 4 1,st)from e) ⟨.rfl',y⟩
theorem Vr:q_=(cn (aT c5 (aa 77) (bl [78] (bD cS (ab (xk (.int 1)) (ab (xk (.int 5)) ag))) (.name 24) bw (a_ (ay aX (ay jb (aH (aa 78) (xk (.int 0))) (aa 24)) (bK fP (ab (bl [24] (bL (aa 78)) (.name 79) bw (a_ (ay jb (aa 79) (aa 24))) 400) ag)))) 400)) (ao (cy (xk (.bool false))) aC) aC):=rfl
theorem Wk{cs:List Int}{c0:Int}(h0:cs[0]?=some c0)(hl:cs.length<400)(hc:∀c∈cs,c.natAbs<18446744073709551616)(ht:∀m∈[1,2,3,4],nB w 6 m=c0^m+(cs.map λc=>c^m).sum)(S:G 77=some (.d (jz w 6)))(U:G 78=some (.d (iD cs))):Sg W G q_ (.next G):=by
 rw[Vr];have J:=fD (W:=W) (G:=G) (fv:=[78]) (h:=λm:Nat=>.int (nB w 6 m)) (fe:=(ay aX (ay jb (aH (aa 78) (xk (.int 0))) (aa 24)) (bK fP (ab (bl [24] (bL (aa 78)) (.name 79) bw (a_ (ay jb (aa 79) (aa 24))) 400) ag)))) (Uk (k:=24)) (show 4<400 by decide) λm hm=>⟨_,.one rfl,?_⟩
 ·have e:(fm ([1,2,3,4].map λm:Nat=>.int (nB w 6 m)))=jz w 6:=rfl
  rw[e]at J;exact te (b:=false) (d6 (az S) J (HJ _)) (λh=>absurd h (by decide)) λ_=>Cn
 ·have N:m<=4:=by
   have all:∀m∈[1,2,3,4],m<=4:=by decide
   exact all m hm
  rw[ht m hm];have O:((G.only [78]).put 24 (.d (nD m))) 78=some (.d (iD cs)):=U;have hi:=iC (W:=W) (G:=(G.only [78]).put 24 (.d (nD m))) (tg:=.name 79) (az O) rfl;rw[br]at hi;have hs:=fD (W:=W) (G:=(G.only [78]).put 24 (.d (nD m))) (fv:=[24]) (h:=λc:Int=>.int (c^m)) (fe:=ay jb (aa 79) (aa 24)) hi hl λc Y=>⟨_,.one rfl,aM (az rfl) (az (k:=24) rfl) (IW (hc c Y) N)⟩;have R:=ia (g:=fP) (aE hs be) (by
   have:=sR (W:=W) (ns:=cs.map λc=>c^m);rwa[br]at this)
  exact aM (aM (aM (az O) (aW 0) (ei 0 (by rw[dO,h0];rfl) (by decide))) (az rfl) (IW (hc c0 (j8 h0)) N)) R (yx _ _)
end
section
variable{W:List Nat}{G:Gm}{w:Wt}
noncomputable def gW(w:Wt)(i:Nat):Int:=(w.getD i (0,(false,false,false))).1
noncomputable def gC(w:Wt)(i:Nat):C9:=(w.getD i (0,(false,false,false))).2
theorem Wd{i:Nat}(h:i<w.length):(w.map λp=>iS p.1)[i]?=some (.int (gW w i)):=getD_at (f:=λp:Int×C9=>iS p.1) (d:=(0,(false,false,false))) h
theorem U7{i:Nat}(h:i<w.length):(w.map λp=>fm ((kX (cL p.2)).map nD))[i]?=some (.list ((kX (cL (gC w i))).map nD)):=getD_at (f:=λp:Int×C9=>fm ((kX (cL p.2)).map nD)) (d:=(0,(false,false,false))) h
noncomputable abbrev lr(L:Vg):aB:=iD ((cF 6).map (fg L))
theorem Fz(L:Vg)(q:Nat×Int)(k:Nat):fg (L++[q]) k=fg L k+if k=q.1 then q.2 else 0:=by
 unfold fg;rw[dF,FD];show _+((if k=q.1 then q.2 else 0)+0)=_;rw[xw]
noncomputable def Je:EM:=(ay cU (ay cU (ay cU (aH (aa 44) (aa 74)) (aH (aa 44) (aa 7))) (ay kl (aa 71) (aH (aa 44) (aa 7)))) (ay kl (aa 71) (aH (aa 44) (aa 75))))
noncomputable def Kb:EM:=(bl [57,74,7,75,70] (bD lV (ab (aa 69) ag)) (.names [24,76]) bw (a_ (gf (aT oEq (aa 24) (aH (aH (aa 57) (aa 74)) (aH (aH (aa 57) (aa 7)) (aH (aH (aa 57) (aa 75)) (xk (.int 0)))))) (ay aX (aa 76) (aa 70)) (aa 76))) 400)
noncomputable def tM:SM:=(ao (bj 70 Je) (ao (bj 69 Kb) aC))
theorem U5:rf=λF st=>((bL (aa 55)) F st).bind λp=>cA (.names [74,7,75]) tM 400 p.1 F p.2:=rfl
theorem Qp{p q r:Nat}{T:Int}(hw:w.length=3)(hb:∀i,i<3->(gW w i).natAbs <=500)(hT:T.natAbs<=1500)(U:p<3)(N:q<3)(hr:r<3)(O:G 44=some (.d (wD w)))(J:G 71=some (.d (.int T)))(R:G 74=some (.d (nD p)))(Y:G 7=some (.d (nD q)))(S:G 75=some (.d (nD r))):bh W G Je (.int (gy (gW w p) (gW w q) (gW w r) T)):=by
 have it:∀{k i:Nat},i<3->G k=some (.d (nD i))->bh W G (aH (aa 44) (aa k)) (.int (gW w i)):=λhi hk=>aM (az O) (az hk) (ei _ (Wd (by rw[hw];exact hi)) (du hi (by decide)));have b1:=hb p U;have b2:=hb q N;have b3:(gW w p*gW w q).natAbs <=500*500:=by rw[Hk];exact Bm b1 b2
 have b4:(T -gW w q).natAbs <=2000:=by exact aw (Int.natAbs_sub_le ..) (fV hT b2)
 have b5:(gW w p*gW w q*(T -gW w q)).natAbs <=500*500*2000:=by rw[Hk];exact Bm b3 b4
 exact aM (aM (aM (it U R) (it N Y) (oh _ _ (bQ b1 (by decide)))) (aM (az J) (it N Y) (Cz _ _)) (oh _ _ (bQ b3 (by decide)))) (aM (az J) (it hr S) (Cz _ _)) (oh _ _ (bQ b5 (by decide)))
theorem CQ{fe fi:EM}{i k:Nat}(hi:i<w.length)(J:i<3)(hk:k<6)(N:G 57=some (.d (rD w)))(hf:bh W G fi (nD i))(he:bh W G fe (nD k)):bh W G (aH (aH (aa 57) fi) fe) (nD (sF (gC w i) k)):=
 aM (aM (az N) hf (ei i (U7 hi) (du J (by decide)))) he (ei k (AX _ hk) (du hk (by decide)))
theorem VJ{p q r:Nat}{L:Vg}{g:Int}(hw:w.length=3)(Y:p<3)(hq:q<3)(hr:r<3)(N:G 57=some (.d (rD w)))(O:G 74=some (.d (nD p)))(h7:G 7=some (.d (nD q)))(R:G 75=some (.d (nD r)))(S:G 70=some (.d (.int g)))(U:G 69=some (.d (lr L))):bh W G Kb (lr (L++[(vF (gC w p) (gC w q) (gC w r),g)])):=by
 have hi:=xr (W:=W) (G:=G) (ks:=[24,76]) (fa:=ab (aa 69) ag) (aE (az U) be);have e:((((cF 6).map (fg L)).map iS).zipIdx 0).map (λp=>Ai.two (.int (p.2:Nat)) p.1)=(cF 6).map λk:Nat=>.two (nD k) (.int (fg L k)):=rfl;rw[e]at hi;have hc:=fD (W:=W) (G:=G) (fv:=[57,74,7,75,70]) (h:=λk:Nat=>.int (fg (L++[(vF (gC w p) (gC w q) (gC w r),g)]) k)) (fe:=(gf (aT oEq (aa 24) (aH (aH (aa 57) (aa 74)) (aH (aH (aa 57) (aa 7)) (aH (aH (aa 57) (aa 75)) (xk (.int 0)))))) (ay aX (aa 76) (aa 70)) (aa 76))) hi (by rw[eI];decide) λk hk=>⟨_,.two rfl rfl,?_⟩
 ·rw[lr,iD,br]
  exact hc
 ·let G1:=((G.only [57,74,7,75,70]).put 24 (.d (nD k))).put 76 (.d (.int (fg L k)))
  have J:G1 57=some (.d (rD w)):=N;have k0:=CQ (W:=W) (G:=G1) (fe:=xk (.int 0)) (fi:=aa 75) (k:=0) (by rw[hw];exact hr) hr (by decide) J (az (show G1 75=_ from R)) (aW 0);have k1:=CQ (W:=W) (G:=G1) (fi:=aa 7) (by rw[hw];exact hq) hq (lS _ (by decide)) J (az (show G1 7=_ from h7)) k0;have k2:=CQ (W:=W) (G:=G1) (fi:=aa 74) (by rw[hw];exact Y) Y (lS _ (lS _ (by decide))) J (az (show G1 74=_ from O)) k1;refine qJ (b:=decide (k=vF (gC w p) (gC w q) (gC w r))) (cast_eq k (vF (gC w p) (gC w q) (gC w r))▸d6 (G:=G1) (az (k:=24) rfl) k2 (pz _ _)) (λh=>?_) λh=>?_
  ·rw[Fz,if_pos (of_decide_eq_true h)]
   exact aM (az rfl) (az (show G1 70=_ from S)) (yx _ _)
  ·rw[Fz,if_neg (of_decide_eq_false h),xw]
   exact az rfl
noncomputable def jS(w:Wt)(T:Int)(o:List Nat):Nat×Int:=(vF (gC w (o.getD 0 0)) (gC w (o.getD 1 0)) (gC w (o.getD 2 0)),gy (gW w (o.getD 0 0)) (gW w (o.getD 1 0)) (gW w (o.getD 2 0)) T)
theorem Wf{T:Int}(hw:w.length=3)(hb:∀i,i<3->(gW w i).natAbs <=500)(hT:T.natAbs<=1500)(Y:G 55=some (.d oB))(h44:G 44=some (.d (wD w)))(h57:G 57=some (.d (rD w)))(h71:G 71=some (.d (.int T)))(n74:G 74=none)(n7:G 7=none)(n75:G 75=none)(n70:G 70=none):Sg W (G.put 69 (.d (lr []))) rf (.next (G.put 69 (.d (lr (aZ.map (jS w T)))))):=by
 rw[U5];have hi:=iC (W:=W) (G:=G.put 69 (.d (lr []))) (tg:=.names [74,7,75]) (az (k:=55) (show(G.put 69 (.d (lr []))) 55=some (.d oB) by rw[Gm.put,if_neg (by decide)];exact Y)) rfl;rw[br]at hi;have hlen:(aZ.map (Ai.one∘λo=>xN (o.map nD))).length =6:=rfl;have key:=yH (W:=W) (G:=G.put 69 (.d (lr []))) (tg:=.names [74,7,75]) (b:=tM) (λr=>G.put 69 (.d (lr ((aZ.take (6 -r.length)).map (jS w T))))) hi (by rw[hlen];rfl) (by rw[hlen];decide) λa rr hr=>by
  refine bO hr λt ht=>?_;have O:=congrArg mX ht;rw[aP,dH,hlen]at O;have hj:(aZ.map (Ai.one∘λo=>xN (o.map nD)))[t.length]?=some a:=by rw[<-ht,jj (a6 _),kH];rfl
  rw[dO]at hj;refine aG (ji.mp hj) λo ho zq2=>?_;subst zq2;have hm:=j8 ho;have N:=pF o hm;have e1:6 -((Ai.one∘λo=>xN (o.map nD)) o::rr).length =t.length:=by rw[dH];exact sg O.symm
  have e2:6 -rr.length=t.length+1:=by exact sg (O.symm.trans (hK t.length rr.length 1))
  rw[e1,e2,nL,ho];have e3:(aZ.take t.length++(some o).toList).map (jS w T)=(aZ.take t.length).map (jS w T)++[jS w T o]:=by rw[dF];rfl
  rw[e3];generalize (aZ.take t.length).map (jS w T)=L;refine lT (qY (sJ o hm)) λp q r zq3=>?_;subst zq3;have hp:=N p (by simp);have hq:=N q (by simp);have hr:=N r (by simp);refine⟨_,.vJ,?_⟩;generalize J:(((G.put 69 (.d (lr L))).put 74 (.d (nD p))).put 7 (.d (nD q))).put 75 (.d (nD r))=G1;have P:∀{i:Nat}{v:Vl},i≠69->i≠74->i≠7->i≠75->G i=some v->G1 i=some v:=λa b c d e=>by
   rw[<-J,Gm.put,if_neg d,Gm.put,if_neg c,Gm.put,if_neg b,Gm.put,if_neg a];exact e
  have R:G1 74=some (.d (nD p)):=by rw[<-J];rfl
  have q7:G1 7=some (.d (nD q)):=by rw[<-J];rfl
  have S:G1 75=some (.d (nD r)):=by rw[<-J];rfl
  have q69:G1 69=some (.d (lr L)):=by rw[<-J];rfl
  have s1:=fR (k:=70) (p:=.d _) (Qp (W:=W) hw hb hT hp hq hr (P (by decide) (by decide) (by decide) (by decide) h44) (P (by decide) (by decide) (by decide) (by decide) h71) R q7 S);have U:∀{i:Nat}{v x:Vl},i≠70->G1 i=some v->(G1.put 70 x) i=some v:=λa e=>by rw[Gm.put,if_neg a];exact e
  have s2:=fR (k:=69) (p:=.d _) (VJ (W:=W) (G:=G1.put 70 (.d (.int (gy (gW w p) (gW w q) (gW w r) T)))) (L:=L) hw hp hq hr (U (by decide) (P (by decide) (by decide) (by decide) (by decide) h57)) (U (by decide) R) (U (by decide) q7) (U (by decide) S) (by rw[Gm.put,if_pos rfl]) (U (by decide) q69));refine Sg.le (oi s1 (mz s2)) λi v e=>?_;rw[<-J];unfold Gm.put at e ⊢;by_cases z:i=69
  ·rw[if_pos z]at e ⊢;exact e
  ·rw[if_neg z]at e ⊢
   rw[if_neg (λy=>by rw[y,n70]at e;cases e),if_neg (λy=>by rw[y,n75]at e;cases e),if_neg (λy=>by rw[y,n7]at e;cases e),if_neg (λy=>by rw[y,n74]at e;cases e),if_neg z];exact e
 exact key
end
section
variable{W:List Nat}{G:Gm}{β:Type}{fv:List Nat}{fi:aj->St->Option (It×St)}{tg:b7}{ti:aj->St->Option (Bool×St)}{t:β->Bool}{h:β->aB}{bs:List β}{mk:β->Ai}{fe:EM}
theorem Wp(hi:fc W G tg fi (bs.map mk))(hl:bs.length<400)(hb:∀b∈bs,∃G',gS tg (mk b) G G'/\fb W G' ti (t b)/\(t b=true->bh W G' fe (h b))):zI W G (rg fi tg ti (a_ fe) 400) bs.length (λad=>ad++(bs.filter t).map h):=λacc ad F st g r hlen=>
 Ok.bind' ((hi F st g).mono λp J=>(yR (m:=1) (φ:=λb ad=>ad++[h b]) (λb m=>(hb b m).imp λG' q=>⟨q.1,q.2.1,λe=>Cu (q.2.2 e)⟩) hl J.2 (g.cZ J.1) (aR.keep J.1.any r) (by rw[Bb];exact hlen)).mono λq O=>by
  refine yT O λk N R hle=>?_;rw[zW]at N hle;rw[Bb]at hle;exact⟨aN.trans J.1 k,N,hle,R⟩)
theorem Lg(φ:β->List aB):∀(bs:List β)(ad:List aB),nk (λ_=>true) (λb ad=>ad++φ b) bs ad=ad++(bs.map φ).flatten :=by
 intro bs;induction bs with
 |nil=>
  intro ad;show ad=ad++[];rw[gj]
 |cons b bs J=>
  intro ad;show nk (λ_=>true) (λb ad=>ad++φ b) bs (ad++φ b)=_;rw[J,bX,gI,dm]
theorem Q4{em:jd}{m:Nat}{φ:β->List aB}(hi:fc W G tg fi (bs.map mk))(hl:bs.length<400)(hm:m*bs.length<=16777216)(hb:∀b∈bs,∃G',gS tg (mk b) (G.only fv) G'/\zI W G' em m (λad=>ad++φ b)):bh W G (bl fv fi tg bw em 400) (.list (bs.map φ).flatten):=λF st O=>
 Ok.bind' ((hi F st O).mono λp J=>Ok.fJ ((yR (m:=m) (t:=λ_=>true) (φ:=λb ad=>ad++φ b) (λb R=>(hb b R).imp λG' q=>⟨q.1,BQ,λ_=>q.2⟩) hl J.2 ((O.cZ J.1).only fv) .nil (by rw[nI,hH];exact hm)).mono λq N=>
  ⟨(aN.trans J.1 N.1).trans (.app _),j_ N.2.2.1.bd (by have:=N.2.1;rwa[Lg,d_]at this)⟩))
end
section
variable{W:List Nat}{G:Gm}{w:Wt}
noncomputable def XY:EM:=(bl [44,57,69] (bD cS (ab (xk (.int 6)) ag)) (.name 72) bw (a_ (bK fP (ab (bl [69,72] (bD fM (ab (aa 44) (ab (aa 57) ag))) (.names [73,63]) bw (rg (bD cS (ab (xk (.int 6)) ag)) (.name 24) (aT oEq (aH (aa 63) (aa 24)) (aa 72)) (a_ (ay cU (aa 73) (aH (aa 69) (aa 24)))) 400) 400) ag))) 400)
theorem MQ(s:Nat->Nat)(to:Nat)(g:Nat->Int):(((cF 6).filter λk=>decide (s k=to)).map g).sum =sm λk=>if s k=to then g k else 0:=by
 have:∀l:List Nat,((l.filter λk=>decide (s k=to)).map g).sum =(l.map λk=>if s k=to then g k else 0).sum :=by
  intro l;induction l with
  |nil=>rfl
  |cons k l J=>
   rw[bX,r9,<-J];by_cases h:s k=to
   ·rw[uz (by exact decide_eq_true h),if_pos h];rfl
   ·rw[xb (by rw[decide_eq_false h];exact d9),if_neg h,HC]
 exact this _
theorem Pq:∀l:List (List Int),l.flatten.sum=(l.map QK).sum :=by
 intro l;induction l with
 |nil=>
  exact rfl
 |cons a l J=>
  rw[gI,FD,J];rfl
noncomputable def q4(w:Wt)(L:Vg)(to:Nat):Int:=(w.map λp=>p.1*pull (sF p.2) to L).sum
theorem Wl{L:Vg}(hw:w.length=3)(hb:∀p∈w,p.1.natAbs <18446744073709551616)(hL:∀q∈L,q.1<6)(R:G 44=some (.d (wD w)))(S:G 57=some (.d (rD w)))(U:G 69=some (.d (lr L))):bh W G XY (iD ((cF 6).map (q4 w L))):=by
 have hc:=fD (W:=W) (G:=G) (fv:=[44,57,69]) (h:=λto:Nat=>.int (q4 w L to)) (fe:=(bK fP (ab (bl [69,72] (bD fM (ab (aa 44) (ab (aa 57) ag))) (.names [73,63]) bw (rg (bD cS (ab (xk (.int 6)) ag)) (.name 24) (aT oEq (aH (aa 63) (aa 24)) (aa 72)) (a_ (ay cU (aa 73) (aH (aa 69) (aa 24)))) 400) 400) ag))) (sM (k:=72)) (by rw[eI];decide) λto _=>⟨_,.one rfl,?_⟩
 ·rw[iD,br]
  exact hc
 ·let G1:=(G.only [44,57,69]).put 72 (.d (nD to))
  have Y:=pj (W:=W) (G:=G1) (ks:=[73,63]) (fa:=ab (aa 44) (ab (aa 57) ag)) (aE (az (k:=44) (show G 44=_ from R)) (aE (az (k:=57) (show G 57=_ from S)) be));rw[xi,br]at Y;have O:=Q4 (W:=W) (G:=G1) (fv:=[69,72]) (em:=(rg (bD cS (ab (xk (.int 6)) ag)) (.name 24) (aT oEq (aH (aa 63) (aa 24)) (aa 72)) (a_ (ay cU (aa 73) (aH (aa 69) (aa 24)))) 400)) (m:=6) (φ:=λp:Int×C9=>(((cF 6).filter λk=>decide (sF p.2 k=to)).map λk=>p.1*fg L k).map iS) Y (by rw[hw];decide) (by rw[hw];decide) λp hp=>⟨_,.two rfl rfl,by
   have:=Wp (W:=W) (G:=((G1.only [69,72]).put 73 (.d (.int p.1))).put 63 (.d (.list ((kX (cL p.2)).map nD)))) (t:=λk=>decide (sF p.2 k=to)) (h:=λk=>.int (p.1*fg L k)) (fe:=(ay cU (aa 73) (aH (aa 69) (aa 24)))) (ti:=(aT oEq (aH (aa 63) (aa 24)) (aa 72))) (sM (k:=24)) (by rw[eI];decide) λk hk=>⟨_,.one rfl,by
    have J:k<6:=m5.mp hk;have h1:=d6 (W:=W) (G:=(((G1.only [69,72]).put 73 (.d (.int p.1))).put 63 (.d (.list ((kX (cL p.2)).map nD)))).put 24 (.d (nD k))) (aM (az (k:=63) rfl) (az (k:=24) rfl) (ei k (AX p.2 J) (du J (by decide)))) (az (k:=72) rfl) (pz _ _);rwa[cast_eq]at h1,λ_=>by
    have J:k<6:=m5.mp hk;exact aM (az rfl) (aM (az (k:=69) (show G 69=_ from U)) (az (k:=24) rfl) (ei k (by rw[dO,dO,uA J];rfl) (du J (by decide)))) (oh _ _ (hb p hp))⟩
   rw[eI]at this;rw[br];exact this⟩
  have e1:((w.map λp:Int×C9=>(((cF 6).filter λk=>decide (sF p.2 k=to)).map λk=>p.1*fg L k).map iS).flatten)=((w.map λp:Int×C9=>((cF 6).filter λk=>decide (sF p.2 k=to)).map λk=>p.1*fg L k).flatten).map iS:=by
   rw[List.map_flatten,br];rfl
  rw[e1]at O;have N:=ia (g:=fP) (aE O be) sR;have e2:((w.map λp:Int×C9=>((cF 6).filter λk=>decide (sF p.2 k=to)).map λk=>p.1*fg L k).flatten).sum =q4 w L to:=by
   rw[Pq,br];unfold q4;refine congrArg QK (xe λp _=>?_);show(((cF 6).filter λk=>decide (sF p.2 k=to)).map λk=>p.1*fg L k).sum =_;rw[MQ,Te _ _ _ L hL]
  rw[e2]at N;exact N
theorem VD:rj=(cy (ay oEq (aa 68) (bl [71] (bL (aa 69)) (.name 70) bw (a_ (ay cU (aa 71) (aa 70))) 400))):=rfl
theorem UX{T:Int}{l:List Int}(hl:l.length<400)(R:T.natAbs<=1500)(J:G 71=some (.d (.int T)))(N:G 69=some (.d (iD l)))(O:G 68=some (.d (iD (l.map λx=>T*x)))):Sg W G rj (.ret (.bool true)):=by
 rw[VD];have hi:=iC (W:=W) (G:=G) (tg:=.name 70) (az N) rfl;rw[br]at hi;have hc:=fD (W:=W) (G:=G) (fv:=[71]) (h:=λx:Int=>.int (T*x)) (fe:=(ay cU (aa 71) (aa 70))) hi hl λx _=>⟨_,.one rfl,aM (az (k:=71) (show G 71=_ from J)) (az rfl) (oh _ _ (bQ R (by decide)))⟩;have e:(fm (l.map λx:Int=>.int (T*x)))=iD (l.map λx=>T*x):=by rw[iD,br];rfl
 rw[e]at hc;exact uZ (aM (az O) hc (S4 _))
end
theorem Ja{a b:Int}{m n:Nat}(h:a.natAbs<=m)(g:b.natAbs<=n):(a+b).natAbs <=m+n:=aw (Int.natAbs_add_le ..) (fV h g)
theorem IS{P:C9->Bool}:∀{w:Wt},(∀p∈w,p.1.natAbs <=500)->(cnt w P).natAbs <=500*w.length
 |[],_=>a6 _
 |p::w,h=>by
  have h1:=h p (cj ..);have h2:=IS (P:=P) λq m=>h q (cw _ m);rw[cnt_cons,dH,uj,gH];refine Ja ?_ h2;split
  ·exact h1
  ·exact cJ _
theorem uI{c:Int}{P:List Int}{B:Nat}(hc:c.natAbs<=1500)(h:∀x∈P,x.natAbs<=B):∀x∈eD c P,x.natAbs<=B*1501:=λx m=>by
 rw[Aa]at m;refine aG (dz.mp m) λq N J=>?_;subst J;obtain⟨m1,O⟩:=PK N;have h1:q.1.natAbs <=B:=by
  rcases bJ.mp m1 with e|e
  ·rw[e];exact cJ _
  ·exact h _ e
 have h2:q.2.natAbs <=B:=by
  rcases eh.mp O with e|e
  ·exact h _ e
  ·rw[cx.mp e];exact cJ _
 have h3:(-(c*q.2)).natAbs <=B*1500:=by rw[Int.natAbs_neg,Hk,QB B];exact Bm hc h2
 rw[uj,gH];exact Ja h1 h3
theorem SW{cs:List Int}(h5:cs.length=5)(hc:∀c∈cs,c.natAbs<=1500):∀x∈jN cs,x.natAbs<18446744073709551616:=by
 obtain⟨a,b,c,d,e,rfl⟩:=Yd h5;have h0:∀x∈([1]:List Int),x.natAbs<=1:=by decide
 have h1:=uI (hc a (by simp)) h0;have h2:=uI (hc b (by simp)) h1;have h3:=uI (hc c (by simp)) h2;have J:=uI (hc d (by simp)) h3;have h5:=uI (hc e (by simp)) J;have hB:1*1501*1501*1501*1501*1501<18446744073709551616:=by decide
 intro x m;have m:x∈eD e (eD d (eD c (eD b (eD a [1])))):=m;exact bQ (h5 x m) hB
noncomputable abbrev GW(w:Wt)(T:Int):List (Nat×Vl):=[(44,.d (wD w)),(59,.d (cD w)),(57,.d (rD w)),(55,.d oB),(71,.d (.int T))]
theorem Tr{F:aj}{st:St}{J:SM}{P:Fl×aj×St->Prop}(k:∀lc,st.length=lc->Ok (J (F.put 78 (.ref lc)) (st++[.list []])) P):Ok (ao tJ J F st) P:=sq (Ok.of (Wg F st) ⟨rfl,k _ rfl⟩)
structure zE{α:Type}(x:Option α)(P:α->Prop):Prop where
 u:Ok x P
theorem zE.get{α:Type}{x:Option α}{P:α->Prop}(h:zE x P):∃q,x=some q/\P q:=h.u.get
theorem WV{q6 tI oK tO rl q_ tS rf q5 rj:SM}{B:List (Nat×Vl)}{cl:List Int}{Ga Gb Gc Gd Ge Gf Gg Gh:Gm}{F:aj}{st:St}(g:GR [] (Gl B) F st)(h0:∃es,st[0]?=some (.tab es))
 (R:∀lc,J8 [lc] ((Gl B).put 78 (.v (.ref lc))) (λst=>st[lc]?=some (.list [])) (λst=>st[lc]?=some (.list (cl.map .int))) q6 ((Gl B).put 78 (.v (.ref lc))))(S:Sg [] (Gl ((78,.d (iD cl))::B)) tI (.next Ga))(U:Sg [] Ga oK (.next Gb))(Y:Sg [] Gb tO (.next Gc))(v_:Sg [] Gc rl (.next Gd))(h30:Sg [] Gd q_ (.next Ge))(h31:Sg [] Ge tS (.next Gf))(tM:Sg [] Gf rf (.next Gg))(h33:Sg [] Gg q5 (.next Gh))(h34:Sg [] Gh rj (.ret (.bool true))):
 zE (ao tJ (ao q6 (ao tI (ao oK (ao tO (ao rl (ao q_ (ao tS (ao rf (ao q5 (ao rj aC)))))))))) F st) λq=>q.1=.ret (.bool true)/\∃es,q.2.2[0]?=some (.tab es):=⟨by
 refine bO h0 λes h0=>?_;refine Tr λlc J=>?_;have N:lc≠0:=λq=>by
  have:=gn h0;rw[J,q]at this;exact jI _ this
 have g1:GR [lc] ((Gl B).put 78 (.v (.ref lc))) (F.put 78 (.ref lc)) (st++[.list []]):=(g.grow (l:=lc) (aN.app _) (bS J) (by rw[aP,J];exact iJ _)).put (p:=.v _) rfl;refine mu (R lc).u g1 (J▸nf) λF2 bI k2 g2 l2=>?_;have z2:=k2.cW (λm=>N (cx.mp m).symm) ((aN.app (W:=[]) _).get h0);have g3:GR [] (Gl ((78,.d (iD cl))::B)) F2 bI:=((g2.shrink (W':=[]) λ_ m=>absurd m a7).vK (k:=78) (p:=.d (iD cl)) (g2.av (k:=78) (v:=.ref lc) (by rw[Gm.put,if_pos rfl])) (.list a7 l2 (Iv _))).le λj q e=>by
  rw[Gl,eN]at e;unfold Gm.put;by_cases z:j=78
  ·rw[if_pos z]
   rw[beq_iff_eq.mpr z]at e;exact e
  ·rw[if_neg z,if_neg z]
   rw[beq_false_of_ne z]at e;exact e
 refine jV S g3 λF4 st4 k4 g4=>jV U g4 λF5 st5 k5 g5=>jV Y g5 λF6 st6 k6 g6=>jV v_ g6 λF7 st7 k7 g7=>jV h30 g7 λF8 st8 k8 g8=>jV h31 g8 λF9 st9 k9 g9=>jV tM g9 λF10 st10 k10 g10=>jV h33 g10 λF11 O k11 g11=>(AR (g:=aC) h34 F11 O g11).mono λq hq=>?_;refine tj hq λkq v ev rv=>?_;rw[ev,rv.b'];exact⟨rfl,es,kq.get (k11.get (k10.get (k9.get (k8.get (k7.get (k6.get (k5.get (k4.get z2))))))))⟩⟩
theorem Sx{w:Wt}{x y z:Int}{a b c:C9}(ew:w=[(x,a),(y,b),(z,c)])(hb:∀p∈w,p.1.natAbs <=500){F:aj}{st:St}(g:GR [] (Gl (GW w (x+y+z))) F st)(h0:∃es,st[0]?=some (.tab es)):
 zE (y8 F st) λq=>q.1=.ret (.bool true)/\∃es,q.2.2[0]?=some (.tab es):=by
 have hw:w.length=3:=by rw[ew];rfl
 have N:∀p∈w,p.1.natAbs <18446744073709551616:=λp m=>bQ (hb p m) (by decide);have hT:cnt w (λ_=>true)=x+y+z:=by rw[ew];show x+(y+(z+0))=_;lia
 have S:∀P:C9->Bool,(cnt w P).natAbs <=1500:=λP=>by have:=IS (P:=P) hb;rw[hw]at this;exact this
 have U:∀v∈gu w,v.natAbs<=1500:=λv m=>by
  unfold gu at m;simp only[bJ,a7,or_false]at m;rcases m with rfl|rfl|rfl|rfl|rfl<;>exact S _
 have O:∀v∈gu w,v.natAbs<18446744073709551616:=λv m=>bQ (U v m) (by decide);have Y:(x+y+z).natAbs <=1500:=hT▸S _;have J:(gu w).length =5:=rfl;have hgw:∀i,i<3->(gW w i).natAbs <=500:=λi hi=>by
  unfold gW;exact hb _ (getD_mem (by rw[hw];exact hi))
 have eL:aZ.map (jS w (x+y+z))=tl a b c x y z (x+y+z):=by rw[ew];rfl
 have hL6:∀q∈aZ.map (jS w (x+y+z)),q.1<6:=λq m=>by
  refine aG (dz.mp m) λo _ zq2=>?_;subst zq2;exact Xb _ _ _
 have eled:(cF 6).map (q4 w (aZ.map (jS w (x+y+z))))=((cF 6).map (fg (aZ.map (jS w (x+y+z))))).map λv=>(x+y+z)*v:=by
  rw[br];refine xe λto _=>?_;show q4 w (aZ.map (jS w (x+y+z))) to=(x+y+z)*fg (aZ.map (jS w (x+y+z))) to;rw[eL,<-VY a b c x y z to];unfold q4;rw[ew];show x*pull (sF a) to _+(y*pull (sF b) to _+(z*pull (sF c) to _+0))=_;rw[xw];exact(Ny ..).symm
 have R:∀m∈[1,2,3,4],1<=m/\m<=4:=by decide
 have hP6:(jN (gu w)).length =6:=by rw[ED,J]
 have e33:=fR (W:=[]) (k:=68) (p:=.d _) (Wl (W:=[]) (G:=(((Gl ((78,.d (iD (gu w)))::GW w (x+y+z))).put 83 (.d (iD (jN (gu w))))).put 77 (.d (jz w 6))).put 69 (.d (lr (aZ.map (jS w (x+y+z)))))) (w:=w) (L:=aZ.map (jS w (x+y+z))) hw N hL6 rfl rfl rfl);rw[eled]at e33;exact WV (cl:=gu w) g h0 (λlc=>V9 (w:=w) (lc:=lc) (cj ..) (by rw[hw];decide) rfl rfl rfl rfl) Wr (UQ (cs:=gu w) (by rw[J];decide) O rfl rfl) VW
  (VK (G:=(Gl ((78,.d (iD (gu w)))::GW w (x+y+z))).put 83 (.d (iD (jN (gu w))))) (w:=w) (P:=jN (gu w)) (by rw[hw];decide) N hP6 (SW J U) (λfirst k hk=>SS w (pw w first 0) hk) rfl rfl rfl rfl rfl rfl)
  (Wk (w:=w) (cs:=gu w) (c0:=cnt w cst) rfl (by rw[J];decide) O (λm hm=>P_ w m (R m hm).1 (R m hm).2) rfl rfl) U6
  (Wf (W:=[]) (G:=((Gl ((78,.d (iD (gu w)))::GW w (x+y+z))).put 83 (.d (iD (jN (gu w))))).put 77 (.d (jz w 6))) (w:=w) (T:=x+y+z) hw hgw Y rfl rfl rfl rfl rfl rfl rfl rfl) e33
  (UX (W:=[]) (l:=(cF 6).map (fg (aZ.map (jS w (x+y+z))))) (T:=x+y+z) (by rw[aQ,eI];decide) Y rfl rfl rfl)
theorem plain01:H9:=λD ns hn=>by
 refine fH (R_ D ns hn) λF1 st1 e1 t0 g1=>?_;refine⟨F1,st1,T (kh ns),e1,?_,λsA=>?_⟩
 ·refine aG ((g1.at' 0 (.d (sD (kh ns))) rfl).get) λx ex sx=>?_
  rw[ex,(show RV [0] st1 x (sD (kh ns))from sx).s']
 ·refine di ((Tn ns sA g1 t0).get) λzq0 e2 z zq3=>?_;obtain⟨fl,F2,bI⟩:=zq0;refine p8 zq3 λoc l i W hoc g2 t2 zq7=>?_;obtain⟨hl,ho,p1,p2⟩:=zq7
  cases(show fl=.next from z)
  have g2:GR W (Gl (GC ns (st1.length+2) sA oc)) F2 bI:=g2;have a54:=g2.av (k:=54) (v:=.ref oc) rfl;refine aG ((g2.at' 44 (.d (.list ((fN ns).map nD))) rfl).get) λx44 Y sx44=>?_;refine fF ((show RV W bI x44 (.list ((fN ns).map nD))from sx44).l') λwl xs S nW hwl rx=>?_;subst S;rw[wC]at rx;have ex:=rx.ints;subst ex;refine lT (IB ns) λa b c ec=>?_;have U:∀n∈fN ns,n<500:=λn m=>by
   refine aG (dz.mp m) λk _ S=>?_;subst S;exact cE _ (by decide)
  refine lT (qY (BK ns)) λJ N O ew=>?_;have esum:((fN ns).map λn:Nat=>(n:Int)).sum =(J:Int)+N+O:=by
   rw[ew];show(J:Int)+((N:Int)+((O:Int)+0))=_;lia
  have kJ:aN W bI (bI.set oc .gP):=lC hoc;have hx:k_ ns=64+o6 ns/144%64:=rfl;have R:o6 ns/144%64<64:=cE _ (by decide);have gC:GR [] (Gl (GW [((J:Int),a),((N:Int),b),((O:Int),c)] ((J:Int)+N+O))) (F2.put 71 (.int ((fN ns).map λn:Nat=>(n:Int)).sum)) (bI.set oc .gP):=by
   have e44:(.d (.list ((fN ns).map nD)):Vl)=.d (wD [((J:Int),a),((N:Int),b),((O:Int),c)]):=by rw[ew];rfl
   have e59:(.d (l_ (kK ns)):Vl)=.d (cD [((J:Int),a),((N:Int),b),((O:Int),c)]):=by rw[ec];rfl
   have e57:(.d (mP (kK ns)):Vl)=.d (rD [((J:Int),a),((N:Int),b),((O:Int),c)]):=by rw[ec];rfl
   have e71:(.d (.int ((fN ns).map λn:Nat=>(n:Int)).sum):Vl)=.d (.int ((J:Int)+N+O)):=by rw[esum]
   have:=((g2.keep kJ).shrink (W':=[]) λ_ m=>absurd m a7).put (k:=71) (x:=.int ((fN ns).map λn:Nat=>(n:Int)).sum) (p:=.d (.int ((fN ns).map λn:Nat=>(n:Int)).sum)) (.int _);exact this.to (bt.mpr ⟨congrArg some e44,bt.mpr ⟨congrArg some e59,bt.mpr ⟨congrArg some e57,bt.mpr ⟨rfl,bt.mpr ⟨congrArg some e71,λ_ h=>absurd h a7⟩⟩⟩⟩⟩)
  have hJ0:∃es,(bI.set oc .gP)[0]?=some (.tab es):=by
   refine aG t2 λes h0 _=>?_;refine⟨es,?_⟩;rw[get_set,if_neg (λq=>?_)]
   ·exact h0
   ·have ho':bI[oc]?=some (.c_ l i):=ho
    rw[<-q,h0]at ho';cases ho'
  obtain⟨⟨fl3,F3,st3⟩,e3,z3,hes⟩:=(Sx (w:=[((J:Int),a),((N:Int),b),((O:Int),c)]) rfl (λp m=>by
   have h0:=U J (by rw[ew];simp);have h1:=U N (by rw[ew];simp);have h2:=U O (by rw[ew];simp);simp only[bJ,a7,or_false]at m;rcases m with rfl|rfl|rfl
   ·show(J:Int).natAbs <=500;exact cq h0
   ·show(N:Int).natAbs <=500;exact cq h1
   ·show(O:Int).natAbs <=500;exact cq h2) gC hJ0).get
  cases(show fl3=.ret (.bool true)from z3)
  refine⟨F2,bI,oc,l,i,wl,_,(k_ ns:Int),((o6 ns/144%64*64:Nat):Int),(fN ns).map λn:Nat=>(n:Int),F3,st3,e2,a54,Y,hwl,ho,hl,p1,p2,?_,λst'=>?_,e3,hes⟩
  ·rw[hx,CT 64 (by decide) _ R];decide
  ·rw[hx,vD 64 (by decide) _ R]
   exact CZ _ st' (by exact aw (cq (cE _ (by decide))) (by decide))
end Mine
open PySem PySem.W PyProof.Rows
set_option maxHeartbeats 8000000 in
theorem PySem.Challenge.cw_ux0006_01_holds : PySem.Challenge.rw_ux0006_01.Holds :=
 ⟨Mine.ws, Mine.hd01 (by
 k_fill
 intro w s₀ s₁ mg mb G Y fa o pm cd doc dV kV ho hd hcd hD hmg hg args vals as hpre hlay hrd hwl hlo;have KX := km_in_of Y
 km_tabs Y
 have X := (Ground.X G).1;have V := (Ground.X G).2;refine Ground.open G ?_;intro T B D TE TW;try (refine guard_noD D (by decide +kernel) ?_; clear D)
 km_lay T hmg ho hd cd
 clear hmg
 wrow_args hpre hlay hrd hwl hlo
 first | refine callC_kw (enter_call ?_) | refine enter_call ?_
 w_top on
 kn_posts
 have he := Dflts.none hD rfl;subst he;have he := Dflts.noKw hD;subst he;refine call_cellsN (by decide) ho (fd_plain hd) (Top.nolimit T) hcd rfl (kinds_of (by kinds_ok)) (by decide) fun h₁ tk₁ cells F N0 X0 => ?_;clear hd
 kn_ghosts F T
 rename Frag.In _ _ => X'
 rename Top _ _ _ _ _ (ghostOf _ _) => T'
 rename PyProof.Rows.Fr _ _ _ _ => F'
 rename News (ghostOf _ _) _ _ _ => N'
 rename IntsAre _ _ => hI
 rename CodeHd _ (110, 106).1 _ => hc1
 rename (106 : Addr) < _ ∧ _ => hL
 refine Mine.law_end Mine.plain01 X' T' F' N' X0 (by kernel_rfl) (by kernel_rfl) ?hv lifted hI ?hl hc1 codeHd ?hA hL rfl rfl rfl ?K
 case hv => rfl
 case hl => lia
 case hA => exact ⟨(by show 301 + 1 + 9 < 900; decide), (by show 4 + 3 + 20 * 9 < 9000; decide), rfl⟩
 case K =>
  rintro s' hk hos hgn ⟨p1, hp1⟩ ⟨p2, hp2⟩;refine ⟨⟨.inl ⟨.bool true, .bool true, [], rfl, fun _ => rfl, by constructor, by wrow_post, fun _ => ⟨.nil, nofun⟩⟩, hk, hos, hgn.trans hg⟩, ⟨p1, hp1⟩, ⟨p2, hp2⟩, trivial⟩)⟩

