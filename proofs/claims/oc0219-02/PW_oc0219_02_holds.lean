import PyProof.Rows.All
import Wide.All
import OpenK.AllK
import Wide.FinOn
import PyProof.DictCompW
import KE.KLam
import KE.KSortTup
import KE.LcSums
import PyProof.ZipIter
import PyProof.Draws
import PyProof.Rows.ZipGen
import PyProof.DictItems
import PyProof.WalksU
import PyProof.StrWalks
import PyProof.Rows.CatFin
import PyProof.StrLawsIn
import PyProof.StrCalls2
import KE.KDictSum
import KE.KEqDict
import PyProof.NeData
import PyProof.RaisesStr
import PyProof.CollectWalk
import PyProof.Rows.SetFrom
import PyProof.DictWalks
import PyProof.SetRoads
import PySem.Challenge.RW_oc0219_02
set_option tactic.hygienic false
set_option genSizeOf false
set_option genInjectivity false
set_option genCtorIdx false
set_option backward.match.sparseCases false
set_option compiler.extract_closed false
open Option renaming some->AN,none->Wm,isSome_iff_exists->Yk,map_eq_some_iff->F0,map_some->YU,map_eq_none_iff->ajN,none->Zl,isSome_map->als,bind->anq
open List renaming length_map->Wl,map_map->Wu,mem_map->MU,append_assoc->MW,mem_cons->JU,mem_singleton->MX,map_append->C5,getD_eq_getElem?_getD->WE,range->WG,mem_append->M3,mem_append_left->Df,map_congr_left->WL,nodup_append->M9,contains_iff_mem->Na,mem_filter->rt,length_append->Nc,map_cons->WW,not_mem_nil->rH,pairwise_cons->Nj,length_cons->Xf,nodup_cons->Xh,replicate->td,pairwise_map->Xl,find?_cons->lS,append_nil->Kg,lookup_cons->Xm,getElem?_eq_none_iff->Gu,nodup_nil->Nq,getElem_of_mem->Xq,mem_append_right->Ko,mem_range->wN,all_eq_true->Xy,filter_cons->XB,eq_nil_iff_forall_not_mem->c6,getElem?_range->DD,length->XG,length_filter_le->XH,find?_eq_none->NQ,filter_append->XM,length_eq_zero_iff->A2,getElem_map->GG,take_add_one->u7,length_range->wU,filter_eq_nil_iff->XV,filterMap_cons->N5,drop_eq_getElem_cons->N8,any_eq_true->X1,pairwise_append->L1,eq_nil_of_length_eq_zero->yB,take_length->X9,lookup_append->GU,perm_ext_iff_of_nodup->A6,size_toArray->Yd,ext_getElem?->Yi,getElem_mem->GY,take_of_length_le->b0,drop_eq_nil_of_le->Yr,getElem?_eq_none->YA,isPrefixOf_iff_prefix->agM,mem_of_mem_tail->YJ,getElem_inj->D4,drop_length->w5,getElem?_zip_eq_some->agX,forIn_cons->YT,nil_append->w7,range_succ->G5,length_set->Ov,getElem?_inj->Y1,any_map->K0,dropWhile_sublist->ahC,take_sublist->Y6,set_append_right->ahH,cons_lt_cons_iff->ahJ,map_fst_zip->Za,length_take->Zb,getElem?_zipIdx->ahV,getLast?_eq_some_getLast->ahY,map_eq_cons_iff->ahZ,take_append_of_le_length->ah0,countP_eq_length_filter->ah3,filter_eq_self->ah8,dropWhile_cons->aia,idxOf_lt_length_of_mem->aig,getElem?_append_right->aiq,filterMap_map->aiA,getElem_range->aiI,getElem?_take->aiJ,getElem?_eq_some_iff->aiK,getElem?_append_left->aiL,pairwise_iff_getElem->aiR,getLastD_eq_getLast?->aiS,mem_of_find?_eq_some->aiT,getElem?_map->aiV,lookup->vj,find?_append->ai0,foldl_append->ai1,map_reverse->aji,pairwise_mergeSort->ajk,nodup_range->ajr,mem_reverse->ajs,getElem?_set_self->ajt,range_succ_eq_map->ajM,length_nil->ajO,foldl_cons->ajR,take_append_drop->ajX,getElem?_reverse->ajY,length_singleton->aj0,getElem?_set_ne->aj3,forIn_nil->akf,mem_of_mem_drop->akl,mergeSort_perm->aku,filter_sublist->akD,length_pos_iff->akE,all_cons->akK,mem_filterMap->akW,zip_cons_cons->akY,zipIdx_append->akZ,getElem_idxOf->ak1,ne_nil_of_mem->ak3,any_eq_false->ald,filter_congr->alm,mem_zipIdx'->alF,countP_cons->alG,zipIdx_cons->alH,not_lt->alX,map_id->al2,reverseAux->al3,zipIdx_nil->al5,find?_some->al9,drop_zero->ams,take_nil->amD,drop_nil->amE,sum_cons->amK,map_take->amO,map_nil->am3,any->anX
open Bool renaming true->Wn,false->Wp,and_eq_true_iff->yi,and_false->WT,not_eq_true'->Xs,eq_iff_iff->yz,or_eq_false_iff->hV,false_eq_true->Ow,xor_false->Y5,not_eq_true->Y9,or_eq_true->K2,and_true->K7,and_eq_true->ajc,and_eq_false_imp->ajV,or_eq_true_iff->akA,xor_self->akO,or_false->amG,xor_comm->amL
open PySem renaming sizeLine->Wo,Shared->Gb,Addr->Wr,Value->Ws,wpAny_holding->pa,starEach->M4,Around->M5,wpAny->Dk,wpAny_field->Nb,wpAny_newObj_type->yq,backTo->W3,mem_of_lookup->Xd,builtinsNs->Xe,Heap->Xi,keywordEach->Xk,wpAny_standAt->yr,mainGlobals->te,cellsFrom->Gs,Expr->Nn,Program->AZ,compareOp->Xp,rawInt->A1,wpAny_call_entry->yw,wpAny_rule->XD,plainExc_IndexError->XE,foldedSetIterable->XF,wpAny_operating->XK,codeAny_mono->NL,wpAny_of_eq->NT,wpAny_callSpecial?_slot->XQ,attributeBase->XR,Shared->XS,backToKw->DN,wpAny_specialOf->X0,sysModules->wW,getItem->X2,World->X3,wpAny_letTemporaryGo->A4,wpAny_setField->ox,pushCells_keeps->Oc,callWith_type->GR,assignEach->yD,Builtin->Ye,codeAny_call_builtin->Yh,wpAny_Call_method_lateS->Yo,firstArgMember->ti,wpAny_seqItems->A8,wpAny_setField_rec->Yq,NameKind->Yu,letOwnedTupleGo->Yv,wpAny_execs_nil->Yw,codeAny_builtin->Yx,swapsWithSole->Yy,swappedStores->qA,Scope->YB,Keyword->YC,letTemporaryGo->YG,pushCells->YO,wpAny_isInstance->Oq,FuncData->w6,callWith->YS,wpAny_release->nA,wpAny_attempt->Ba,codeAny->G4,wpAny_call->KY,call_meets->hJ,typeLookup->Oy,IsPair->YV,isSubtype->YY,sliceBounds->YZ,binaryOp->Y2,newFunctionEnv->D7,wpAny_pyIter_list->Y3,inplaceOp->Y7,seqIndex?->Y8,methodCallPos->K1,wpAny->G8,standAt->yH,valueAt->Ze,call_meetsIn->tq,wpAny_typeOf->Bc,DictEntry->OJ,scanBound->OK,codeAmong->Ha,storeName->Bd,recursionLimit->Be,aRefKeyMayBeTheNameByArray->ais,wpAny_newTuple->tu,isSubtype_stop->Hb,wpAny_pyIter_ascii->aiC,typeIs_str->yM,Value->K4,unpackItems->Zg,wpAny_throw->tv,wpAny_getItem_list_slice->ai5,wpAny_handled->Zh,Arguments->OP,markedBehindIn_of_false->ajf,wpAny_updatePart->ajg,wpAny_unpackItems_tuple->ajh,entryFor_of_tree->ajm,aRefKeyMayBeTheName_eq->aju,wpAny_load->OR,newEnv->Zj,cellsFrom_ok->La,pyNext->yQ,wpAny_runOwn->Bf,wpAny_pyNext_list_item->ajC,codeAny_compStart_dict->ajF,wpAny_handleBy_builtin->ajH,argsOk->Zk,codeAny_call_function->ajT,wpAny_pyNext_list_end->ajU,exec_Assign_Name_used->ajW,cStatics->El,wpAny_loadPart->aj6,bindArgs->OY,wpAny_layCells->aj8,methodCallForm->aj9,entryFor->Hf,wpAny_runValue->akc,wpAny_updateSeq_pair->akg,KeyKind->Ep,getAttr->Lg,aRefKeyMayBeTheName->akr,codeAny_forLoop_any->aks,wpAny_setItem_pairs->akt,list_getitem_lookup->akv,wpAny_dictSet_pairs->akw,any_of_findIdx_some->aky,wpAny_pyIter_values->akB,assignInOrder->akG,arm_eval_Call->akI,plainId_quiet->akJ,wpAny_onRaise->akL,markedEach->vl,reduceHash->Er,wpAny_List_spliced->akR,pyIter->Hh,wpAny_pyIter_range->akT,closureFor->vm,Around->ak5,wpAny_mkText->ak6,wpAny_update->ak7,bindName->yT,assignStores->ak9,wpAny_truthy_list->ala,notedBy->Bk,codeAny_whileLoop->ale,wpAny_pyIter_dict->alg,wpAny_pyIter_slot->alh,meets_dict_values->alk,slot_list_setitem->alt,TriplesOk->O5,wpAny_askSetting->alv,wpAny_Dict_empty->alx,wpAny_getItem_of->aly,wpAny_Try_except->alB,wpAny_pyIter_zip->alJ,Model->alS,cLine->O7,wpAny_alloc->alU,evalThenUse->alV,wpAny_Slice->alY,IsZip->O8,wpAny_letGo->al1,codeAny_of_tree->al4,fillsNumberSlot->al7,wpAny_loadPart'->al8,isTrue->O9,evalEach->Pb,markedBehindIn->amh,Stmt->Pc,methodCall->aml,checkBoundCall->amp,entryFor_alias->amq,sliceRange->amr,isSubtype_type->amy,behindInMarks->amB,Sem->amR,assignAll->amS,swapsWith->amT,slicePick->amU,noteFrame->amV,KeysOf->Bo,callEnvC->anm,evalArgs->ann,newTuple->anr,GenState->ans,ZipApart->ant
open PySem.Heap renaming get?_push_of_some->Wq,lt_size->M7,get?_push_size->Gl,size_push->No,SameBut->Nw,get?_update_ne->DV,get?_update_other->ajG,get?_update_self->ajS,NewExc->Zm,ExtBut->Bi
open PySem.Value renaming ref->Wt,type->uP,none->J3,builtin->Dr,int->Y0,bool->yL,isStrOf_shape->akx,isStrOf->akH,isInt_shape->alj,isInt->anp,str->anQ
open PySem.Str renaming ofString->Ww,length_append->Ob,length->cv,append_empty->OE,empty_append->ajq,append_assoc->alR,cps_append->amw,empty->anS
open Nat renaming lt_succ_of_le->C3,le_of_eq->WH,le_of_lt_succ->Dc,lt_of_le_of_ne->Gg,le_add_right->Gh,add_le_add_left->WK,le_add_left->WO,add_le_add_right->WQ,le_of_ble_eq_true->J4,ne_of_lt->WU,lt_succ_self->W0,lt_succ_of_lt->Ni,le_succ_of_le->Xj,zero_le->Dv,ne_of_gt->Nv,lt_of_succ_lt->u5,le_of_lt->Xw,add_lt_add_left->ND,le_trans->XI,lt_trans->XJ,not_lt->DF,add_le_add->XT,succ->GH,sub_lt_sub_left->N0,le_antisymm->XY,le_succ->N6,add_right_comm->wV,lt_irrefl->KO,succ_add->yA,mul_le_mul_left->GQ,lt_of_add_right_lt->wY,add_comm->X7,succ_ne_zero->Yn,add_lt_add_of_lt_of_le->agB,not_le->YF,add_lt_add_of_le_of_lt->agD,add_lt_add_right->YI,succ_le_succ->YM,min_le_right->YR,succ_add_eq_add_succ->agZ,add_assoc->KW,mod_lt->YW,add_sub_cancel_left->ahp,succ_le_of_lt->OA,zero_lt_of_lt->Y4,le_of_succ_le_succ->ahA,sub_eq_zero_of_le->ahF,sub_sub_self->Zc,sub_le->Zd,sub_le_sub_left->ah5,lt_of_le_of_lt->aio,lt_of_lt_of_le->aip,pos_of_ne_zero->aiE,le_of_succ_le->aiY,lt_trichotomy->ai2,succ_ne_self->ajl,lt_add_of_pos_right->ajn,zero_add->OT,sub_self->Hd,le_of_add_right_le->ajK,eq_zero_of_le_zero->ajL,min_le_left->ajQ,add_lt_of_lt_sub'->aj1,add_lt_add->akh,not_succ_le_self->aki,add_sub_of_le->alo,succ_lt_succ->alE,lt_of_not_le->alK,sub_lt_of_lt->alM,le_of_not_lt->alO,succ_sub->amZ,lt_or_ge->am0
open PySem.F renaming plainAttrs_list->M1,slot_list_append->Gk,type_list_append->Dq,slot_list_pop->sy,called_set->NR,plainAttrs_dict->X4,type_list_pop->A7,slot_dict_getitem->wZ,slot_dict_values->Yl,slot_list_extend->Ym,slot_str_index->Ys,plainAttrs_str->Yt,slot_str_ascii_iterator_next->agY,type_str_index->ahD,slot_dict_get->ahG,slot_dict_itemiterator_iter->ahW,slot_zip_next->D9,args_list_append_2->aiv,args_dict_values_1->aiB,entry_list_append->aiM,slot_list_getitem->aiN,entry_dict_values->aiP,slot_dict_delitem->aiQ,type_dict_values->ai7,slot_str_getitem->ai9,type_list_extend->aja,slot_list_clear->ajj,slot_dict_items->ajo,entry_list_pop->ajD,slot_list_iter->ajI,type_dict_get->ajZ,slot_int_rmul->aj2,args_zip_next_1->aln,entry_zip_next->alI
open Int renaming toNat_natCast->Gf,ofNat_lt->Gj,natCast_nonneg->Gm,ofNat_le->NA,le_trans->Yg,le_refl->G9,toNat_of_nonneg->ah7,sub_le_sub_left->ah9,toNat->Zf,lt_of_le_of_lt->aiD,fdiv_eq_ediv_of_nonneg->aiG,fmod_eq_emod_of_nonneg->aiH,sub_nonneg->akj,toNat_sub->akF,ofNat_sub->akN,self_le_toNat->alp,le_of_eq->alq,ofNat_inj->amI,lt_trans->am8,sub_zero->ana,sub_sub->ane,not_lt->anF
open Option.some renaming inj->WM,injEq->anM
open PySem.Obj renaming mapFields->J1,isFreed_of_fields->WR,data_mapFields->AX,cls_mapFields->YD,putNameByArray->Ox,putName->YX,putName_eq->xa,mapSeq->OM
open Nat.le renaming refl->J5,step->YE
open PySem.Heap.SameBut renaming update->AU,refl->anO
open PySem.Builtin.Range renaming rangeSize->u0,small->ah6,rangeFitsLong->aid
open PySem.Builtin.Str renaming occurrences->u3,tooLong->anD,glued->anN
open Int.ofNat renaming inj->WS
open Ne renaming symm->Gy
open PySem.NameKind renaming free->Nz,cell->Yj
open PyProof renaming noPylong_small->GK
open ForInStep renaming yield->N7
open Classical renaming byContradiction->KN
open PySem.Challenge renaming pw_oc0219_02->GP,rw_oc0219_02->DR,pw_oc0219_02->am6
open PySem.Calls renaming callWith_builtin->X8,Name_function_global->agE,callWith_function->ahm,call_function_entry->aiO,loadGlobal_global->aje
open Array renaming getElem?_eq_getElem->Yc,getElem?_eq_some_iff->agI,getElem?_toList->ahI,eraseIdxIfInBounds->ai4,replicate->ajP,mem_toList_iff->akk,toList_append->akz,all_eq_true'->ak2,size->amx
open PySem.W renaming Frag->DW,findIn->Yp,cellsFrom_some->ahv,methodObj->OL,looks_field->Le,typeIn->Li,tabObj->O6,any_some->Ez,kdk_entry_iter->amo,plainOver->amW,specialIn->amX,findObj->z5,makesIn->t0
open List.Pairwise renaming nil->On,imp_of_mem->amP,imp->anP
open PySem.Env renaming kindOf->A9
open PUnit renaming unit->hC
open PySem.Builtin.List renaming listFitsIndex->agJ,listTooLong->ag7,listExtendWith->aih,listLengthHint->amd,listSubscript?->ame,listSameRef->amM
open Prod.mk renaming inj->G2
open PySem.Data renaming fields->YK,dict->yR,cls->yV
open Function renaming comp->Ot
open PySem.Builtin.SmallTypes renaming ownedTupleIsFree->ag6,ownedTupleHandOut->akC,ownedTupleFields->akM,stopIteration->ali,newRecord->al6,newClass->amc,iterAll->amt
open PySem.AutoListH renaming list_append_list_val_0->ahx
open PyProof.Rows renaming slot_str_getitem->OF,getItem_str->ai8,firstMet->OQ,step_dedup->yS,entry_str_getitem->alr,args_str_getitem->alP,SetOf_congr->alZ,setObjOf_fresh->amb,pow_int_small->ami,floordiv_int->amA,SetOf_congr->amH,truthy_int->amY,IntsAre->Zv,len_tuple->am7,notIn_str->am9,iadd_str->anb,StrsAre->anf,add_int->ang,sub_int->anh,mul_int->ani,mod_int->anj,neg_int->ank,add_str->anl,eq_int->anu,lt_int->anv,eq_str->anw,ne_str->anx,lt_str->anz,in_str->anA,ne_int->anC
open PySem.Builtin renaming divisionGoesByPylong->ah1
open PySem.ScopeKind renaming function->aiw
open PySem.Value.ref renaming inj->K6
open Nat.succ renaming inj->Zi
open List.Perm renaming refl->akm,nil_eq->alz,map->amQ,append_left->anc,cons_inv->anE,filter->anT,trans->anW
open PySem.OldK renaming staticOf_congr->akq
open PySem.Heap.IsSliceOf renaming new->akU
open PySem.Code renaming quiet_builtin->akX
open PySem.SeqAt renaming EqAt->Zr
open PySem.SeqAt.RcNeAt renaming lists_lengths->alb,lists_lengths->amv,lists->amC,lists->anI
open PySem.W.KF renaming slot_mset->alf
open PySem.DictEntry renaming refKey->alw
open PySem.Walks renaming dictValues->alD,dictKeys->amn,range->ano
open PySem.SeqAt.RcAt renaming lists->alL,lists_lengths->amJ
open PySem.IntMulOk renaming of_left->alN
open List.Nodup renaming length_le_of_subset->alQ
open PySem.IsRange renaming new->alW
open PySem.Builtin.Frozenset renaming updateFrom->ama
open PySem.Manifest renaming find?->amm
open PySem.Txt renaming join->Zs
open List.cons renaming inj->amF
open PySem.Shared renaming TypeIs->amN
open PySem.StrLaws renaming picks->anB
open PySem.SeqAt.EqAt renaming int_int->anG,str_str->anH,of_refs->anJ,same->anV
open PySem.AutoIntOps renaming iadd_0->anK,isub_0->anL
open PySem.Heap.IsList renaming push->anR
open List.Sublist renaming map->anU
open PySem.W.Looks renaming ld->anY
open PySem.Value.int renaming inj->anZ
open PySem.Value.str renaming inj->an0
open Decidable renaming em->an1
namespace Mine.Internal
theorem Z {α:Sort _}{a:α}:a=a:=rfl
theorem ag {α β:Type}{M:alS}{A:ak5}{E:K4->XS->Prop}{s:XS}{m:amR α}{f:α->amR β}{Q:β->XS->Prop}(h:G8 M A m (λa s'=>G8 M A (f a) Q E s') E s):G8 M A (m >>= f) Q E s:=PySem.wpAny_bind h
theorem aX {α:Type}{M:alS}{A:ak5}{E:K4->XS->Prop}{s:XS}{a:α}{Q:α->XS->Prop}(h:Q a s):G8 M A (pure a) Q E s:=PySem.wpAny_pure h
theorem aS {α:Type}{M:alS}{A:ak5}{E:K4->XS->Prop}{s:XS}{t:amR α}{P Q:α->XS->Prop}{E':K4->XS->Prop}(h:G8 M A t P E s)(k:∀(a:α)(s:XS),P a s->Q a s)(l:∀(e:K4)(s:XS),E e s->E' e s):G8 M A t Q E' s:=PySem.wpAny_mono h k l
theorem ar {α:Sort _}{a b:α}(h:a=b):b=a:=h.symm
theorem aM {α:Sort _}{a b c:α}(h:a=b)(k:b=c):a=c:=h.trans k
theorem bP (n:Nat):n<=n:=Nat.le_refl n
theorem bz {a b c:Prop}(h:a\/b)(f:a->c)(g:b->c):c:=h.elim f g
@[elab_as_elim] theorem aa {α:Sort _}{a b:α}{p:α->Prop}(h:a=b)(k:p b):p a:=h▸k
@[elab_as_elim] theorem az {α:Sort _}{a b:α}{p:α->Prop}(h:b=a)(k:p b):p a:=h▸k
@[elab_as_elim] theorem bb {a b:Prop}{p:Prop->Prop}(h:a↔b)(k:p b):p a:=propext h▸k
end Mine.Internal
set_option linter.all false
namespace Mine.Internal
open PySem
theorem XZ {p0 p1:Prop}{G:Prop}(h:p0/\p1)(k:p0->p1->G):G:=by obtain ⟨h0,h1⟩:=h;exact k h0 h1
theorem RR {p0 p1 p2:Prop}{G:Prop}(h:p0/\p1/\p2)(k:p0->p1->p2->G):G:=by obtain ⟨h0,h1,h2⟩:=h;exact k h0 h1 h2
theorem CC {p0 p1 p2 p3:Prop}{G:Prop}(h:p0/\p1/\p2/\p3)(k:p0->p1->p2->p3->G):G:=by obtain ⟨h0,h1,h2,h3⟩:=h;exact k h0 h1 h2 h3
theorem FP {p0 p1 p2 p3 p4 p5:Prop}{G:Prop}(h:p0/\p1/\p2/\p3/\p4/\p5)(k:p0->p1->p2->p3->p4->p5->G):G:=by obtain ⟨h0,h1,h2,h3,h4,h5⟩:=h;exact k h0 h1 h2 h3 h4 h5
theorem FO {p0 p1 p2 p3 p4 p5 p6:Prop}{G:Prop}(h:p0/\p1/\p2/\p3/\p4/\p5/\p6)(k:p0->p1->p2->p3->p4->p5->p6->G):G:=by obtain ⟨h0,h1,h2,h3,h4,h5,h6⟩:=h;exact k h0 h1 h2 h3 h4 h5 h6
theorem Ml {cZ:Sort _}{p0:cZ->Prop}{G:Prop}(h:∃x0,p0 x0)(k:∀x0,p0 x0->G):G:=by obtain ⟨x0,h0⟩:=h;exact k x0 h0
theorem Va {cZ:Sort _}{p0 p1:cZ->Prop}{G:Prop}(h:∃x0,p0 x0/\p1 x0)(k:∀x0,p0 x0->p1 x0->G):G:=by obtain ⟨x0,h0,h1⟩:=h;exact k x0 h0 h1
theorem N1 {cZ:Sort _}{p0 p1 p2:cZ->Prop}{G:Prop}(h:∃x0,p0 x0/\p1 x0/\p2 x0)(k:∀x0,p0 x0->p1 x0->p2 x0->G):G:=by obtain ⟨x0,h0,h1,h2⟩:=h;exact k x0 h0 h1 h2
theorem Cg {cZ:Sort _}{p0 p1 p2 p3:cZ->Prop}{G:Prop}(h:∃x0,p0 x0/\p1 x0/\p2 x0/\p3 x0)(k:∀x0,p0 x0->p1 x0->p2 x0->p3 x0->G):G:=by obtain ⟨x0,h0,h1,h2,h3⟩:=h;exact k x0 h0 h1 h2 h3
theorem Wj {cZ:Sort _}{p0 p1 p2 p3 p4:cZ->Prop}{G:Prop}(h:∃x0,p0 x0/\p1 x0/\p2 x0/\p3 x0/\p4 x0)(k:∀x0,p0 x0->p1 x0->p2 x0->p3 x0->p4 x0->G):G:=by obtain ⟨x0,h0,h1,h2,h3,h4⟩:=h;exact k x0 h0 h1 h2 h3 h4
theorem CB {cZ eD:Sort _}{p0:cZ->eD->Prop}{G:Prop}(h:∃x0 x1,p0 x0 x1)(k:∀x0 x1,p0 x0 x1->G):G:=by obtain ⟨x0,x1,h0⟩:=h;exact k x0 x1 h0
theorem FL {cZ eD:Sort _}{p0 p1:cZ->eD->Prop}{G:Prop}(h:∃x0 x1,p0 x0 x1/\p1 x0 x1)(k:∀x0 x1,p0 x0 x1->p1 x0 x1->G):G:=by obtain ⟨x0,x1,h0,h1⟩:=h;exact k x0 x1 h0 h1
theorem dr {cZ eD:Sort _}{p0 p1 p2:cZ->eD->Prop}{G:Prop}(h:∃x0 x1,p0 x0 x1/\p1 x0 x1/\p2 x0 x1)(k:∀x0 x1,p0 x0 x1->p1 x0 x1->p2 x0 x1->G):G:=by obtain ⟨x0,x1,h0,h1,h2⟩:=h;exact k x0 x1 h0 h1 h2
theorem Cc {cZ eD:Sort _}{p0 p1 p2 p3:cZ->eD->Prop}{G:Prop}(h:∃x0 x1,p0 x0 x1/\p1 x0 x1/\p2 x0 x1/\p3 x0 x1)(k:∀x0 x1,p0 x0 x1->p1 x0 x1->p2 x0 x1->p3 x0 x1->G):G:=by obtain ⟨x0,x1,h0,h1,h2,h3⟩:=h;exact k x0 x1 h0 h1 h2 h3
theorem CA {cZ eD:Sort _}{p0 p1 p2 p3 p4:cZ->eD->Prop}{G:Prop}(h:∃x0 x1,p0 x0 x1/\p1 x0 x1/\p2 x0 x1/\p3 x0 x1/\p4 x0 x1)(k:∀x0 x1,p0 x0 x1->p1 x0 x1->p2 x0 x1->p3 x0 x1->p4 x0 x1->G):G:=by obtain ⟨x0,x1,h0,h1,h2,h3,h4⟩:=h;exact k x0 x1 h0 h1 h2 h3 h4
theorem MK {cZ eD:Sort _}{p0 p1 p2 p3 p4 p5:cZ->eD->Prop}{G:Prop}(h:∃x0 x1,p0 x0 x1/\p1 x0 x1/\p2 x0 x1/\p3 x0 x1/\p4 x0 x1/\p5 x0 x1)(k:∀x0 x1,p0 x0 x1->p1 x0 x1->p2 x0 x1->p3 x0 x1->p4 x0 x1->p5 x0 x1->G):G:=by obtain ⟨x0,x1,h0,h1,h2,h3,h4,h5⟩:=h;exact k x0 x1 h0 h1 h2 h3 h4 h5
theorem VY {cZ eD kr:Sort _}{p0:cZ->eD->kr->Prop}{G:Prop}(h:∃x0 x1 x2,p0 x0 x1 x2)(k:∀x0 x1 x2,p0 x0 x1 x2->G):G:=by obtain ⟨x0,x1,x2,h0⟩:=h;exact k x0 x1 x2 h0
theorem VN {cZ eD kr:Sort _}{p0 p1:cZ->eD->kr->Prop}{G:Prop}(h:∃x0 x1 x2,p0 x0 x1 x2/\p1 x0 x1 x2)(k:∀x0 x1 x2,p0 x0 x1 x2->p1 x0 x1 x2->G):G:=by obtain ⟨x0,x1,x2,h0,h1⟩:=h;exact k x0 x1 x2 h0 h1
theorem FN {cZ eD kr:Sort _}{p0 p1 p2:cZ->eD->kr->Prop}{G:Prop}(h:∃x0 x1 x2,p0 x0 x1 x2/\p1 x0 x1 x2/\p2 x0 x1 x2)(k:∀x0 x1 x2,p0 x0 x1 x2->p1 x0 x1 x2->p2 x0 x1 x2->G):G:=by obtain ⟨x0,x1,x2,h0,h1,h2⟩:=h;exact k x0 x1 x2 h0 h1 h2
theorem Cv {cZ eD kr:Sort _}{p0 p1 p2 p3:cZ->eD->kr->Prop}{G:Prop}(h:∃x0 x1 x2,p0 x0 x1 x2/\p1 x0 x1 x2/\p2 x0 x1 x2/\p3 x0 x1 x2)(k:∀x0 x1 x2,p0 x0 x1 x2->p1 x0 x1 x2->p2 x0 x1 x2->p3 x0 x1 x2->G):G:=by obtain ⟨x0,x1,x2,h0,h1,h2,h3⟩:=h;exact k x0 x1 x2 h0 h1 h2 h3
theorem Wa {cZ eD kr:Sort _}{p0 p1 p2 p3 p4:cZ->eD->kr->Prop}{G:Prop}(h:∃x0 x1 x2,p0 x0 x1 x2/\p1 x0 x1 x2/\p2 x0 x1 x2/\p3 x0 x1 x2/\p4 x0 x1 x2)(k:∀x0 x1 x2,p0 x0 x1 x2->p1 x0 x1 x2->p2 x0 x1 x2->p3 x0 x1 x2->p4 x0 x1 x2->G):G:=by obtain ⟨x0,x1,x2,h0,h1,h2,h3,h4⟩:=h;exact k x0 x1 x2 h0 h1 h2 h3 h4
theorem MJ {cZ eD kr FK:Sort _}{p0:cZ->eD->kr->FK->Prop}{G:Prop}(h:∃x0 x1 x2 x3,p0 x0 x1 x2 x3)(k:∀x0 x1 x2 x3,p0 x0 x1 x2 x3->G):G:=by obtain ⟨x0,x1,x2,x3,h0⟩:=h;exact k x0 x1 x2 x3 h0
theorem Wi {cZ eD kr FK:Sort _}{p0 p1:cZ->eD->kr->FK->Prop}{G:Prop}(h:∃x0 x1 x2 x3,p0 x0 x1 x2 x3/\p1 x0 x1 x2 x3)(k:∀x0 x1 x2 x3,p0 x0 x1 x2 x3->p1 x0 x1 x2 x3->G):G:=by obtain ⟨x0,x1,x2,x3,h0,h1⟩:=h;exact k x0 x1 x2 x3 h0 h1
theorem VO {cZ eD kr FK:Sort _}{p0 p1 p2:cZ->eD->kr->FK->Prop}{G:Prop}(h:∃x0 x1 x2 x3,p0 x0 x1 x2 x3/\p1 x0 x1 x2 x3/\p2 x0 x1 x2 x3)(k:∀x0 x1 x2 x3,p0 x0 x1 x2 x3->p1 x0 x1 x2 x3->p2 x0 x1 x2 x3->G):G:=by obtain ⟨x0,x1,x2,x3,h0,h1,h2⟩:=h;exact k x0 x1 x2 x3 h0 h1 h2
theorem Wh {cZ eD kr FK:Sort _}{p0 p1 p2 p3:cZ->eD->kr->FK->Prop}{G:Prop}(h:∃x0 x1 x2 x3,p0 x0 x1 x2 x3/\p1 x0 x1 x2 x3/\p2 x0 x1 x2 x3/\p3 x0 x1 x2 x3)(k:∀x0 x1 x2 x3,p0 x0 x1 x2 x3->p1 x0 x1 x2 x3->p2 x0 x1 x2 x3->p3 x0 x1 x2 x3->G):G:=by obtain ⟨x0,x1,x2,x3,h0,h1,h2,h3⟩:=h;exact k x0 x1 x2 x3 h0 h1 h2 h3
theorem Wg {cZ eD kr FK α4 α5 α6:Sort _}{p0:cZ->eD->kr->FK->α4->α5->α6->Prop}{G:Prop}(h:∃x0 x1 x2 x3 x4 x5 x6,p0 x0 x1 x2 x3 x4 x5 x6)(k:∀x0 x1 x2 x3 x4 x5 x6,p0 x0 x1 x2 x3 x4 x5 x6->G):G:=by obtain ⟨x0,x1,x2,x3,x4,x5,x6,h0⟩:=h;exact k x0 x1 x2 x3 x4 x5 x6 h0
theorem bM {α:Type _}{a:α}{G:Prop}(h:Wm=AN a):G:=nomatch h
theorem lj {α:Type _}{a:α}{G:Prop}(h:AN a=Wm):G:=nomatch h
theorem Cb {G:Prop}(h:Wp=Wn):G:=nomatch h
theorem abK {G:Prop}(h:Wn=Wp):G:=nomatch h
theorem bA {α:Type _}{i:Nat}{a:α}{l:List α}(h:l[i]?=AN a):∃h:i<l.length,l[i]=a:=aiK.mp h
theorem bN {α:Type _}{a b:α}(h:a∈[b]):a=b:=MX.mp h
theorem bc {α:Type _}{l:List α}{i j:Nat}(h:i≠j){a:α}:(l.set i a)[j]?=l[j]?:=aj3 h
theorem cC {h:Xi}{a:Wr}{o':Obj}(o:Obj)(k:h.get? a=AN o'):(h.push o).get? a=AN o':=Wq o k
theorem cH {α:Type _}{a:α}{s t:List α}(h:a∈s++t):a∈s\/a∈t:=M3.mp h
theorem fz {α:Type _}{a:α}{s t:List α}(h:a∈s\/a∈t):a∈s++t:=M3.mpr h
theorem bO {α:Type _}{l:List α}{i:Nat}{a:α}(h:l[i]?=AN a):a∈l:=List.mem_of_getElem? h
theorem cm {α:Type _}{l:List α}{i:Nat}(h:i<l.length):l[i]?=AN l[i]:=List.getElem?_eq_getElem h
theorem bJ {n m k:Nat}(h:n<=m)(q:m<=k):n<=k:=XI h q
theorem dg {n m k:Nat}(h:n<=m)(q:m<k):n<k:=aio h q
theorem cV {n m k:Nat}(h:n<m)(q:m<=k):n<k:=aip h q
theorem cD {n m:Nat}(h:n<m):n<=m:=Xw h
theorem cI {a b:Nat}(h:a<b):a≠b:=WU h
theorem dH {a b:Nat}(h:b<a):a≠b:=Nv h
theorem cA (n k:Nat):n<=n+k:=Gh n k
theorem dB (h:Xi){o:Obj}(k:o.isFreed=Wp):(h.push o).get? h.objs.size=AN o:=Gl h k
theorem eO {α:Type _}{b:α}{l:List α}{a:α}(h:a∈b::l):a=b\/a∈l:=JU.mp h
theorem bV {α:Type _}{β:Type _}{f:α->β}{l:List α}{i:Nat}:(l.map f)[i]?=l[i]?.map f:=aiV
theorem Mz {α:Type _}{l:List α}{i:Nat}{a:α}:l.getD i a=l[i]?.getD a:=WE
theorem fb {α:Type _}{s t:List α}{i:Nat}(h:i<s.length):(s++t)[i]?=s[i]?:=aiL h
theorem ij {α:Type _}{s t:List α}{i:Nat}(h:s.length<=i):(s++t)[i]?=t[i-s.length]?:=aiq h
theorem gM {α:Type _}{β:Type _}{b:β}{f:α->β}{l:List α}(h:b∈l.map f):∃a,a∈l/\f a=b:=MU.mp h
theorem fV {α:Type _}{β:Type _}{b:β}{f:α->β}{l:List α}(h:∃a,a∈l/\f a=b):b∈l.map f:=MU.mpr h
theorem qY {α:Type _}{β:Type _}{as:List α}(f:α->β):(as.map f).length=as.length:=Wl f
theorem lC {n m:Nat}(h:n<=m)(k:Nat):k+n<=k+m:=WK h k
theorem iB {n m:Nat}(h:n<m)(k:Nat):k+n<k+m:=ND h k
theorem bf {α:Type _}{a b:α}(h:AN a=AN b):a=b:=WM h
theorem gf {h:Xi}{a:Wr}(k:h.objs.size<=a):h.get? a=Wm:=Heap.get?_none_of_le k
theorem lD {h:Xi}{a:Wr}{o:Obj}(f:Obj->Obj)(k:h.get? a=AN o)(q:(f o).isFreed=Wp):(h.update a f).get? a=AN (f o):=ajS f k q
theorem gW {α:Type _}{β:Type _}{b:β}{x:Option α}{f:α->β}(h:x.map f=AN b):∃a,x=AN a/\f a=b:=F0.mp h
theorem iN {α:Type _}{l:List α}{i:Nat}{a:α}(h:i<l.length):(l.set i a)[i]?=AN a:=ajt h
theorem mQ:(Wp=Wn)=False:=Ow
theorem fA (a b:Bool):((a&&b)=Wn)=(a=Wn/\b=Wn):=ajc a b
theorem jP (h:Xi)(o:Obj):(h.push o).objs.size=h.objs.size+1:=No h o
@[elab_as_elim] theorem rE {α:Sort _}{a:α}{m:α->Prop}{b:α}(h:b=a)(k:m a):m b:=h▸k
end Mine.Internal
set_option Elab.async false
set_option maxRecDepth 100000
namespace Mine.Internal
section
variable {a b c d e f g:Nat}
theorem dh {a b c:Nat}(h:a<b)(k:b.ble c=Wn):a<c:=cV h (J4 k)
theorem il {a b c:Nat}(h:a<b)(k:b.ble c=Wn):a<=c:=cD (dh h k)
theorem s6 {a b c:Nat}(h:a<=b)(k:b.ble c=Wn):a<=c:=bJ h (J4 k)
theorem jy {a b c:Nat}(h:a<=b)(k:b.succ.ble c=Wn):a<c:=dg h (J4 k)
theorem pA:a<b->a<=b:=λx=>cD x
theorem acM:a+1<=b->a<=b:=λx=>cD x
theorem Cm:a<=a+1:=cA a 1
theorem x9:0<=(↑a:Int):=by simp +arith
theorem ya:a<a+1:=bP a.succ
theorem abL:a<b->b<c->a<c:=λx y=>XJ x y
theorem ku:a≠a+1:=cI J5
theorem ky:a<=a:=bP a
theorem mz:a<b->a+1<=b:=λx=>x
theorem nO:¬a<b->b<=a:=λx=>DF.mp x
theorem qG:a<1000->a<=16777216:=λh=>il h Z
theorem qH:a<=b->b+1-(a+1)<b+1-a:=λh=>N0 (C3 h) (W0 a)
theorem nP:1<1000:=by decide
theorem nQ:a+1≠a:=dH J5
theorem nR:a+2≠a:=dH (cD J5)
theorem nS:a+2≠a+1:=dH J5
theorem nT:a<1000->(↑a:Int)<2 ^ 63:=λh=>Gj.mpr (dh h Z)
theorem nU:a<1000->a<2 ^ 62:=λh=>dh h Z
theorem nV:a+3<b->a<b:=λx=>wY x
theorem qI:a<2 ^ 63->(↑a:Int)<9223372036854775808:=λx=>Gj.mpr x
theorem qJ:a≠a+2:=cI (cD J5)
theorem qK:a<=a+2:=cA a 2
theorem qL:a+2<b->a+3<=b:=λx=>x
theorem qM:a+3<=b->a≠b:=λh=>cI (bJ (lC (by decide:1<=3) a) h)
theorem qN:a<1000->b<=a->(↑b:Int)<2 ^ 63:=λh k=>Gj.mpr (dh (dg k h) Z)
theorem abM:a<=b->a<=b+1:=λx=>YE x
theorem qO:a+(b+1)<c->a+1+b<c:=λh=>agZ a b▸h
theorem uq:a+20*b<c->d<=b->a+20*d<c:=λh k=>dg (lC (GQ 20 k) a) h
theorem ur:a+b<c->d<=b->a+d<c:=λh k=>dg (lC k a) h
theorem zx:a+1=a+1-0:=rfl
theorem uu:a+1≠a+2:=cI J5
theorem uv:a+2+1<=a+3:=bP (a+2+1)
theorem uw:a+3≠a:=dH (C3 (cA a 2))
theorem ux:a+3≠a+1:=dH (cD J5)
theorem uy:a<1000->a<9223372036854775808:=λh=>dh h Z
theorem zy:a<=1000->a<=16777216:=λh=>s6 h Z
theorem uz:a<=a+3:=cA a 3
theorem uA:a+1=b->a<b:=λx=>x▸OA J5
theorem uB:a+4<=b->b≠a:=λh=>dH (bJ (lC (by decide:1<=4) a) h)
theorem uC:a+4<=b->b≠a+1:=λh=>dH (bJ (lC (by decide:2<=4) a) h)
theorem abN:a<64->b=a->b<64:=λh k=>k▸h
theorem uD:a<b+1->¬a<b->a=b:=λx y=>Nat.eq_of_lt_succ_of_not_lt x y
theorem zB:a<=b->b<=a->a=b:=λx y=>XY x y
theorem qP:a<=b->¬a<b->a=b:=λh k=>XY h (DF.mp k)
theorem uE:a+(b+1)<c->a<c:=λx=>wY x
theorem uF:a+1<=b/\c<=b->b<900->a<=16777215:=λh k=>il (XJ h.1 k) Z
theorem uG:a+20*(b+1)<c->a+3+20*b<c:=λh=>dg (bJ (WH (wV a 3 (20*b))) (lC (by decide:3<=20) (a+20*b))) h
theorem uH:a+20*b<c->a<c:=λx=>wY x
theorem uI:a+b+c<1000->a+(c+b)<1000:=λh=>X7 b c▸KW a b c▸h
theorem uJ:a+b+c<1000->c+b<=2 ^ 24:=λh=>il (dg (X7 b c▸KW a b c▸WO ..) h) Z
theorem uK:a<900->b<=a/\c<=a->b<=16777216:=λh k=>il (dg k.1 h) Z
theorem vX:a+1<=b->b-a=b-(a+1)+1:=λh=>(Nat.succ_sub_succ b a).symm.trans (amZ h)
theorem vY:a+3<=b->b+1≠a:=λh=>dH (C3 (bJ (cA a 3) h))
theorem vZ:a+3<=b->b+1≠a+1:=λh=>dH (YM (bJ (lC (by decide:1<=3) a) h))
theorem v3:a+3<=b->b≠a:=λh=>dH (bJ (lC (by decide:1<=3) a) h)
theorem v5:a+4<=b->a+1≠b:=λh=>cI (bJ (lC (by decide:2<=4) a) h)
theorem v7:a+4<=b->a≠b:=λh=>cI (bJ (lC (by decide:1<=4) a) h)
theorem v8:a+b+c<1000->a<1000:=λh=>dg (bJ (cA a b) (cA ..)) h
theorem v9:a+b+c<1000->d<=1->c+d<=2 ^ 24:=λh k=>il (agB (dg (WO c (a+b)) h) k) Z
theorem abO:a<=b+1->c<=a+d->c<=b+(d+1):=λh k=>bJ k (agZ b d▸WQ h d)
theorem wa:a+b+c<1000->d+e<=a->d+(c+e)<1000:=λh k=>by have:=WQ k c;rw [wV,KW] at this;exact dg (bJ this (WQ (cA a b) c)) h
theorem abP:0<1000:=by decide
theorem abQ:2<1000:=by decide
theorem abR {a:Int}:¬a=1->¬a-1=0:=by lia
theorem abS:a=0->0=(↑a:Int):=λx=>ar x▸Z
theorem abT:a=6->1<a:=λh=>h▸(by decide:1<6)
theorem abU:¬(↑a:Int)-1 > -1->Zf 0=a:= λh=>(Nat.eq_zero_of_not_pos λk=>h (Int.lt_of_lt_of_le (by decide:(-1:Int)<0) (Int.sub_nonneg_of_le (NA.mpr k)))).symm
theorem abV:((↑a:Int)-1+-1*(↑b:Int)).toNat=a-1-b:=by refine aa (Int.neg_one_mul _) (az Int.sub_eq_add_neg ?_);rw [ane,Nat.sub_sub];exact akF a (1+b)
theorem abW:a+3<b->a+1≠b:=λh=>cI (dg (lC (by decide:1<=3) a) h)
theorem abX:a+3<=b->a≠b+2:=λh=>cI (cV (cV (iB (by decide:0<3) a) h) (cA ..))
theorem abZ:a+3<=b->b+2≠a+1:=λh=>dH (cV (iB (by decide:1<3) a) (bJ h (cA ..)))
theorem ab0:a+3<=b\/b+3<=a->a+1≠b:=λh e=>h.elim (λh=>cI (cV (iB (by decide:1<3) a) h) e) λh=>dH (cV (iB (by decide:0<3) b) (Xj h)) e
theorem ab1:a+3<=b\/b+3<=a->a+1≠b+1:=λh e=>h.elim (λh=>cI (cV (iB (by decide:1<3) a) (Xj h)) e) λh=>dH (cV (iB (by decide:1<3) b) (Xj h)) e
theorem ab2:a+3<=b\/b+3<=a->a+1≠b+2:=λh e=>h.elim (λh=>cI (cV (iB (by decide:1<3) a) (bJ h (cA b 2))) e) λh=>dH (cV (iB (by decide:2<3) b) (Xj h)) e
theorem ab3:a+3<=b\/b+3<=a->a+2≠b:=λh e=>h.elim (λh=>cI (cV (iB (by decide:2<3) a) h) e) λh=>dH (cV (iB (by decide:0<3) b) (bJ h (cA a 2))) e
theorem ab4:a+3<=b\/b+3<=a->a+2≠b+1:=λh e=>h.elim (λh=>cI (cV (iB (by decide:2<3) a) (Xj h)) e) λh=>dH (cV (iB (by decide:1<3) b) (bJ h (cA a 2))) e
theorem ab5:a+3<=b\/b+3<=a->a+2≠b+2:=λh e=>h.elim (λh=>cI (cV (iB (by decide:2<3) a) (bJ h (cA b 2))) e) λh=>dH (cV (iB (by decide:2<3) b) (bJ h (cA a 2))) e
theorem ab6:a+20*(b+1)<c->a+1+20*b<c:=λh=>dg (bJ (WH (wV a 1 (20*b))) (lC (by decide:1<=20) (a+20*b))) h
theorem ab7:a<b->a=c+1\/a=c+2->b<=c->False:=λh k l=>YF.mpr (cV h l) (k.elim (λe=>e▸N6 c) λe=>e▸cA c 2)
theorem ab8:a=b\/a=b+1\/a=b+2->c<=b->c<=a:=λh k=>bJ k (h.elim (λe=>WH e.symm) λh=>h.elim (λe=>e▸cA ..) λe=>e▸cA ..)
theorem ab9:a+(2+b)=c->a+(d+(1+(b-0)))<=c+d:= λh=>h▸XI (WH ((Nat.add_left_comm a d (1+b)).trans (X7 d _))) (WQ (WK (WQ (by decide) b) a) d)
theorem aca:a+1<=b->c+20*b<d->c+1+20*a<d:=λh k=>dg (bJ (bJ (WH (wV c 1 (20*a))) (lC (by decide:1<=20) (c+20*a))) (lC (GQ 20 h) c)) k
theorem acb:a+1<=b->c+1<=d->e-a+(f-c)<=g+1->e-b+(f-d)<=g:=λh k l=>(am0 a e).elim (λx=>Dc (cV (agB (N0 x h) (ah5 (cD k) f)) l)) λx=>(am0 c f).elim (λy=>Dc (cV (agD (ah5 (cD h) e) (N0 y k)) l)) λy=>bJ (XT (WH (ahF (bJ x (cD h)))) (WH (ahF (bJ y (cD k))))) (Dv g)
end
end Mine.Internal
namespace Mine.Internal
theorem aV {p0:Prop}{p1:Prop}{p2:Prop}(h0:p0)(h1:p1)(h2:p2):p0/\p1/\p2:=⟨h0,h1,h2⟩
theorem jr {p0:Prop}{p1:Prop}{p2:Prop}{p3:Prop}(h0:p0)(h1:p1)(h2:p2)(h3:p3):p0/\p1/\p2/\p3:=⟨h0,h1,h2,h3⟩
theorem pB {p0:Prop}{p1:Prop}{p2:Prop}{p3:Prop}{p4:Prop}(h0:p0)(h1:p1)(h2:p2)(h3:p3)(h4:p4):p0/\p1/\p2/\p3/\p4:=⟨h0,h1,h2,h3,h4⟩
theorem nX {p0:Prop}{p1:Prop}{p2:Prop}{p3:Prop}{p4:Prop}{p5:Prop}(h0:p0)(h1:p1)(h2:p2)(h3:p3)(h4:p4)(h5:p5):p0/\p1/\p2/\p3/\p4/\p5:=⟨h0,h1,h2,h3,h4,h5⟩
theorem nc {p0:Prop}{p1:Prop}{p2:Prop}{p3:Prop}{p4:Prop}{p5:Prop}{p6:Prop}{p7:Prop}{p8:Prop}(h0:p0)(h1:p1)(h2:p2)(h3:p3)(h4:p4)(h5:p5)(h6:p6)(h7:p7)(h8:p8):p0/\p1/\p2/\p3/\p4/\p5/\p6/\p7/\p8:=⟨h0,h1,h2,h3,h4,h5,h6,h7,h8⟩
theorem ee {p0:Prop}{p1:Prop}{p2:Prop}{p3:α->Prop}(h0:p0)(h1:p1)(h2:p2)(x0:α)(h3:p3 x0):p0/\p1/\p2/\∃x0,p3 x0:=⟨h0,h1,h2,x0,h3⟩
theorem nY {p0:Prop}{p1:Prop}{p2:α->Prop}(h0:p0)(h1:p1)(x0:α)(h2:p2 x0):p0/\p1/\∃x0,p2 x0:=⟨h0,h1,x0,h2⟩
theorem mA {p0:Prop}{p1:Prop}{p2:α->Prop}{p3:α->Prop}{p4:α->Prop}(h0:p0)(h1:p1)(x0:α)(h2:p2 x0)(h3:p3 x0)(h4:p4 x0):p0/\p1/\∃x0,p2 x0/\p3 x0/\p4 x0:=⟨h0,h1,x0,h2,h3,h4⟩
theorem wb {p0:Prop}{p1:α->Prop}(h0:p0)(x0:α)(h1:p1 x0):p0/\∃x0,p1 x0:=⟨h0,x0,h1⟩
theorem qZ {p0:Prop}{p1:α->Prop}{p2:α->Prop}(h0:p0)(x0:α)(h1:p1 x0)(h2:p2 x0):p0/\∃x0,p1 x0/\p2 x0:=⟨h0,x0,h1,h2⟩
theorem CE {p0:Prop}{p1:α->Prop}{p2:α->Prop}{p3:α->Prop}(h0:p0)(x0:α)(h1:p1 x0)(h2:p2 x0)(h3:p3 x0):p0/\∃x0,p1 x0/\p2 x0/\p3 x0:=⟨h0,x0,h1,h2,h3⟩
theorem cj {p0:α->Prop}(x0:α)(h0:p0 x0):∃x0,p0 x0:=⟨x0,h0⟩
theorem af {p0:α->Prop}{p1:α->Prop}(x0:α)(h0:p0 x0)(h1:p1 x0):∃x0,p0 x0/\p1 x0:=⟨x0,h0,h1⟩
theorem aU {p0:α->Prop}{p1:α->Prop}{p2:α->Prop}(x0:α)(h0:p0 x0)(h1:p1 x0)(h2:p2 x0):∃x0,p0 x0/\p1 x0/\p2 x0:=⟨x0,h0,h1,h2⟩
theorem kz {p0:α->Prop}{p1:α->Prop}{p2:α->Prop}{p3:α->Prop}(x0:α)(h0:p0 x0)(h1:p1 x0)(h2:p2 x0)(h3:p3 x0):∃x0,p0 x0/\p1 x0/\p2 x0/\p3 x0:=⟨x0,h0,h1,h2,h3⟩
theorem di {p0:α->Prop}{p1:α->Prop}{p2:α->β->Prop}(x0:α)(h0:p0 x0)(h1:p1 x0)(x1:β)(h2:p2 x0 x1):∃x0,p0 x0/\p1 x0/\∃x1,p2 x0 x1:=⟨x0,h0,h1,x1,h2⟩
theorem nZ {p0:α->Prop}{p1:α->β->Prop}{p2:α->β->Prop}{p3:α->β->Prop}{p4:α->β->Prop}(x0:α)(h0:p0 x0)(x1:β)(h1:p1 x0 x1)(h2:p2 x0 x1)(h3:p3 x0 x1)(h4:p4 x0 x1):∃x0,p0 x0/\∃x1,p1 x0 x1/\p2 x0 x1/\p3 x0 x1/\p4 x0 x1:=⟨x0,h0,x1,h1,h2,h3,h4⟩
theorem mB {p0:α->Prop}{p1:α->β->γ->δ->Prop}{p2:α->β->γ->δ->Prop}{p3:α->β->γ->δ->Prop}(x0:α)(h0:p0 x0)(x1:β)(x2:γ)(x3:δ)(h1:p1 x0 x1 x2 x3)(h2:p2 x0 x1 x2 x3)(h3:p3 x0 x1 x2 x3):∃x0,p0 x0/\∃x1 x2 x3,p1 x0 x1 x2 x3/\p2 x0 x1 x2 x3/\p3 x0 x1 x2 x3:=⟨x0,h0,x1,x2,x3,h1,h2,h3⟩
theorem lE {p0:α->Prop}{p1:α->β->γ->δ->ε->Prop}{p2:α->β->γ->δ->ε->Prop}{p3:α->β->γ->δ->ε->Prop}{p4:α->β->γ->δ->ε->Prop}{p5:α->β->γ->δ->ε->Prop}{p6:α->β->γ->δ->ε->Prop}{p7:α->β->γ->δ->ε->Prop}(x0:α)(h0:p0 x0)(x1:β)(x2:γ)(x3:δ)(x4:ε)(h1:p1 x0 x1 x2 x3 x4)(h2:p2 x0 x1 x2 x3 x4)(h3:p3 x0 x1 x2 x3 x4)(h4:p4 x0 x1 x2 x3 x4)(h5:p5 x0 x1 x2 x3 x4)(h6:p6 x0 x1 x2 x3 x4)(h7:p7 x0 x1 x2 x3 x4):∃x0,p0 x0/\∃x1 x2 x3 x4,p1 x0 x1 x2 x3 x4/\p2 x0 x1 x2 x3 x4/\p3 x0 x1 x2 x3 x4/\p4 x0 x1 x2 x3 x4/\p5 x0 x1 x2 x3 x4/\p6 x0 x1 x2 x3 x4/\p7 x0 x1 x2 x3 x4:=⟨x0,h0,x1,x2,x3,x4,h1,h2,h3,h4,h5,h6,h7⟩
theorem n4 {p0:α->β->Prop}(x0:α)(x1:β)(h0:p0 x0 x1):∃x0 x1,p0 x0 x1:=⟨x0,x1,h0⟩
theorem d8 {p0:α->β->Prop}{p1:α->β->Prop}(x0:α)(x1:β)(h0:p0 x0 x1)(h1:p1 x0 x1):∃x0 x1,p0 x0 x1/\p1 x0 x1:=⟨x0,x1,h0,h1⟩
theorem bW {p0:α->β->Prop}{p1:α->β->Prop}{p2:α->β->Prop}(x0:α)(x1:β)(h0:p0 x0 x1)(h1:p1 x0 x1)(h2:p2 x0 x1):∃x0 x1,p0 x0 x1/\p1 x0 x1/\p2 x0 x1:=⟨x0,x1,h0,h1,h2⟩
theorem kA {p0:α->β->Prop}{p1:α->β->Prop}{p2:α->β->Prop}{p3:α->β->Prop}(x0:α)(x1:β)(h0:p0 x0 x1)(h1:p1 x0 x1)(h2:p2 x0 x1)(h3:p3 x0 x1):∃x0 x1,p0 x0 x1/\p1 x0 x1/\p2 x0 x1/\p3 x0 x1:=⟨x0,x1,h0,h1,h2,h3⟩
theorem lF {p0:α->β->γ->Prop}{p1:α->β->γ->Prop}(x0:α)(x1:β)(x2:γ)(h0:p0 x0 x1 x2)(h1:p1 x0 x1 x2):∃x0 x1 x2,p0 x0 x1 x2/\p1 x0 x1 x2:=⟨x0,x1,x2,h0,h1⟩
theorem fK {p0:α->β->γ->Prop}{p1:α->β->γ->Prop}{p2:α->β->γ->Prop}(x0:α)(x1:β)(x2:γ)(h0:p0 x0 x1 x2)(h1:p1 x0 x1 x2)(h2:p2 x0 x1 x2):∃x0 x1 x2,p0 x0 x1 x2/\p1 x0 x1 x2/\p2 x0 x1 x2:=⟨x0,x1,x2,h0,h1,h2⟩
theorem ip {p0:α->β->γ->Prop}{p1:α->β->γ->Prop}{p2:α->β->γ->Prop}{p3:α->β->γ->Prop}(x0:α)(x1:β)(x2:γ)(h0:p0 x0 x1 x2)(h1:p1 x0 x1 x2)(h2:p2 x0 x1 x2)(h3:p3 x0 x1 x2):∃x0 x1 x2,p0 x0 x1 x2/\p1 x0 x1 x2/\p2 x0 x1 x2/\p3 x0 x1 x2:=⟨x0,x1,x2,h0,h1,h2,h3⟩
theorem jQ {p0:α->β->γ->Prop}{p1:α->β->γ->Prop}{p2:α->β->γ->Prop}{p3:α->β->γ->Prop}{p4:α->β->γ->Prop}(x0:α)(x1:β)(x2:γ)(h0:p0 x0 x1 x2)(h1:p1 x0 x1 x2)(h2:p2 x0 x1 x2)(h3:p3 x0 x1 x2)(h4:p4 x0 x1 x2):∃x0 x1 x2,p0 x0 x1 x2/\p1 x0 x1 x2/\p2 x0 x1 x2/\p3 x0 x1 x2/\p4 x0 x1 x2:=⟨x0,x1,x2,h0,h1,h2,h3,h4⟩
theorem i5 {p0:α->β->γ->Prop}{p1:α->β->γ->Prop}{p2:α->β->γ->Prop}{p3:α->β->γ->Prop}{p4:α->β->γ->Prop}{p5:α->β->γ->Prop}(x0:α)(x1:β)(x2:γ)(h0:p0 x0 x1 x2)(h1:p1 x0 x1 x2)(h2:p2 x0 x1 x2)(h3:p3 x0 x1 x2)(h4:p4 x0 x1 x2)(h5:p5 x0 x1 x2):∃x0 x1 x2,p0 x0 x1 x2/\p1 x0 x1 x2/\p2 x0 x1 x2/\p3 x0 x1 x2/\p4 x0 x1 x2/\p5 x0 x1 x2:=⟨x0,x1,x2,h0,h1,h2,h3,h4,h5⟩
theorem jR {p0:α->β->γ->δ->Prop}{p1:α->β->γ->δ->Prop}{p2:α->β->γ->δ->Prop}{p3:α->β->γ->δ->Prop}(x0:α)(x1:β)(x2:γ)(x3:δ)(h0:p0 x0 x1 x2 x3)(h1:p1 x0 x1 x2 x3)(h2:p2 x0 x1 x2 x3)(h3:p3 x0 x1 x2 x3):∃x0 x1 x2 x3,p0 x0 x1 x2 x3/\p1 x0 x1 x2 x3/\p2 x0 x1 x2 x3/\p3 x0 x1 x2 x3:=⟨x0,x1,x2,x3,h0,h1,h2,h3⟩
theorem kB {p0:α->β->γ->δ->Prop}{p1:α->β->γ->δ->Prop}{p2:α->β->γ->δ->Prop}{p3:α->β->γ->δ->Prop}{p4:α->β->γ->δ->Prop}{p5:α->β->γ->δ->Prop}{p6:α->β->γ->δ->Prop}(x0:α)(x1:β)(x2:γ)(x3:δ)(h0:p0 x0 x1 x2 x3)(h1:p1 x0 x1 x2 x3)(h2:p2 x0 x1 x2 x3)(h3:p3 x0 x1 x2 x3)(h4:p4 x0 x1 x2 x3)(h5:p5 x0 x1 x2 x3)(h6:p6 x0 x1 x2 x3):∃x0 x1 x2 x3,p0 x0 x1 x2 x3/\p1 x0 x1 x2 x3/\p2 x0 x1 x2 x3/\p3 x0 x1 x2 x3/\p4 x0 x1 x2 x3/\p5 x0 x1 x2 x3/\p6 x0 x1 x2 x3:=⟨x0,x1,x2,x3,h0,h1,h2,h3,h4,h5,h6⟩
theorem wc {p0:Prop}{p1:Prop}{p2:Prop}{p3:Prop}{p4:Prop}{p5:Prop}{p6:Prop}(h0:p0)(h1:p1)(h2:p2)(h3:p3)(h4:p4)(h5:p5)(h6:p6):p0/\p1/\p2/\p3/\p4/\p5/\p6:=⟨h0,h1,h2,h3,h4,h5,h6⟩
theorem lG {p0:Prop}{p1:Prop}{p2:Prop}{p3:Prop}{p4:Prop}{p5:Prop}{p6:Prop}{p7:Prop}{p8:Prop}{p9:Prop}{FM:Prop}{p11:Prop}{At:Prop}(h0:p0)(h1:p1)(h2:p2)(h3:p3)(h4:p4)(h5:p5)(h6:p6)(h7:p7)(h8:p8)(h9:p9)(H8:FM)(Jt:p11)(H9:At):p0/\p1/\p2/\p3/\p4/\p5/\p6/\p7/\p8/\p9/\FM/\p11/\At:=⟨h0,h1,h2,h3,h4,h5,h6,h7,h8,h9,H8,Jt,H9⟩
theorem acd {cZ:Sort _}{p0:Prop}{p1:cZ->Prop}{p2:cZ->Prop}{p3:cZ->Prop}{p4:cZ->Prop}(h0:p0)(x0:cZ)(h1:p1 x0)(h2:p2 x0)(h3:p3 x0)(h4:p4 x0):p0/\(∃x0,p1 x0/\p2 x0/\p3 x0/\p4 x0):=⟨h0,x0,h1,h2,h3,h4⟩
theorem ace {cZ:Sort _}{p0:cZ->Prop}{p1:cZ->Prop}{p2:cZ->Prop}{p3:cZ->Prop}{p4:cZ->Prop}(x0:cZ)(h0:p0 x0)(h1:p1 x0)(h2:p2 x0)(h3:p3 x0)(h4:p4 x0):∃x0,p0 x0/\p1 x0/\p2 x0/\p3 x0/\p4 x0:=⟨x0,h0,h1,h2,h3,h4⟩
theorem rg {cZ eD:Sort _}{p0:cZ->eD->Prop}{p1:cZ->eD->Prop}{p2:cZ->eD->Prop}{p3:cZ->eD->Prop}{p4:cZ->eD->Prop}(x0:cZ)(x1:eD)(h0:p0 x0 x1)(h1:p1 x0 x1)(h2:p2 x0 x1)(h3:p3 x0 x1)(h4:p4 x0 x1):∃x0,∃x1,p0 x0 x1/\p1 x0 x1/\p2 x0 x1/\p3 x0 x1/\p4 x0 x1:=⟨x0,x1,h0,h1,h2,h3,h4⟩
theorem mC {cZ eD:Sort _}{p0:cZ->eD->Prop}{p1:cZ->eD->Prop}{p2:cZ->eD->Prop}{p3:cZ->eD->Prop}{p4:cZ->eD->Prop}{p5:cZ->eD->Prop}(x0:cZ)(x1:eD)(h0:p0 x0 x1)(h1:p1 x0 x1)(h2:p2 x0 x1)(h3:p3 x0 x1)(h4:p4 x0 x1)(h5:p5 x0 x1):∃x0,∃x1,p0 x0 x1/\p1 x0 x1/\p2 x0 x1/\p3 x0 x1/\p4 x0 x1/\p5 x0 x1:=⟨x0,x1,h0,h1,h2,h3,h4,h5⟩
theorem we {cZ eD:Sort _}{p0:Prop}{p1:Prop}{p2:cZ->eD->Prop}{p3:cZ->eD->Prop}{p4:cZ->eD->Prop}(h0:p0)(h1:p1)(x0:cZ)(x1:eD)(h2:p2 x0 x1)(h3:p3 x0 x1)(h4:p4 x0 x1):p0/\p1/\(∃x0,∃x1,p2 x0 x1/\p3 x0 x1/\p4 x0 x1):=⟨h0,h1,x0,x1,h2,h3,h4⟩
theorem acf {cZ eD:Sort _}{p0:Prop}{p1:cZ->eD->Prop}{p2:cZ->eD->Prop}{p3:cZ->eD->Prop}(h0:p0)(x0:cZ)(x1:eD)(h1:p1 x0 x1)(h2:p2 x0 x1)(h3:p3 x0 x1):p0/\(∃x0,∃x1,p1 x0 x1/\p2 x0 x1/\p3 x0 x1):=⟨h0,x0,x1,h1,h2,h3⟩
theorem wg {cZ eD kr:Sort _}{p0:cZ->Prop}{p1:cZ->eD->kr->Prop}{p2:cZ->eD->kr->Prop}{p3:cZ->eD->kr->Prop}(x0:cZ)(h0:p0 x0)(x1:eD)(x2:kr)(h1:p1 x0 x1 x2)(h2:p2 x0 x1 x2)(h3:p3 x0 x1 x2):∃x0,p0 x0/\(∃x1,∃x2,p1 x0 x1 x2/\p2 x0 x1 x2/\p3 x0 x1 x2):=⟨x0,h0,x1,x2,h1,h2,h3⟩
theorem mD {cZ eD kr:Sort _}{p0:cZ->Prop}{p1:cZ->eD->kr->Prop}{p2:cZ->eD->kr->Prop}{p3:cZ->eD->kr->Prop}{p4:cZ->eD->kr->Prop}(x0:cZ)(h0:p0 x0)(x1:eD)(x2:kr)(h1:p1 x0 x1 x2)(h2:p2 x0 x1 x2)(h3:p3 x0 x1 x2)(h4:p4 x0 x1 x2):∃x0,p0 x0/\(∃x1,∃x2,p1 x0 x1 x2/\p2 x0 x1 x2/\p3 x0 x1 x2/\p4 x0 x1 x2):=⟨x0,h0,x1,x2,h1,h2,h3,h4⟩
theorem qe {cZ eD kr:Sort _}{p0:cZ->eD->kr->Prop}{p1:cZ->eD->kr->Prop}{p2:cZ->eD->kr->Prop}{p3:cZ->eD->kr->Prop}{p4:cZ->eD->kr->Prop}{p5:cZ->eD->kr->Prop}{p6:cZ->eD->kr->Prop}(x0:cZ)(x1:eD)(x2:kr)(h0:p0 x0 x1 x2)(h1:p1 x0 x1 x2)(h2:p2 x0 x1 x2)(h3:p3 x0 x1 x2)(h4:p4 x0 x1 x2)(h5:p5 x0 x1 x2)(h6:p6 x0 x1 x2):∃x0,∃x1,∃x2,p0 x0 x1 x2/\p1 x0 x1 x2/\p2 x0 x1 x2/\p3 x0 x1 x2/\p4 x0 x1 x2/\p5 x0 x1 x2/\p6 x0 x1 x2:=⟨x0,x1,x2,h0,h1,h2,h3,h4,h5,h6⟩
end Mine.Internal
namespace Mine.Internal
open PySem
inductive AV where
 | none
 | bool (b:Bool)
 | int (i:Int)
 | str (x:Str)
 | tup (xs:List AV)
 | lst (xs:List AV)
 | kC (kvs:List (Str×AV))
 | dQ (kvs:List (Int×AV))
 | ref (k:Nat)
 | raw (v:Ws)
 | bm (cls:String) (f:Ws) (self:AV)
 | fn (site:Nat) (Ju:List (Str×AV))
 deriving Inhabited
noncomputable def AV.ctorIdx (x:AV):Nat:=AV.casesOn x 0 (λJ=>1) (λJ=>2) (λJ=>3) (λJ=>4) (λJ=>5) (λJ=>6) (λJ=>7) (λJ=>8) (λJ=>9) (λJ J J=>10) (λJ J=>11)
noncomputable abbrev G:=Wr->Option Obj
noncomputable def bu (vs:List Ws)(n:Nat):Obj:={cls:=.type "list",dict:=Zl,data:=.seq vs.toArray n,slots:=#[]}
noncomputable def kD (vs:List Ws):Obj:={cls:=.type "tuple",dict:=Zl,data:=.seq vs.toArray 0,slots:=#[]}
noncomputable def a9 (es:Array OJ)(n:Nat):Obj:={cls:=.type "dict",dict:=Zl,data:=.dict es n,slots:=#[]}
def FR (g:G)(a:Wr)(vs:List Ws):Prop:=∃n,g a=AN (bu vs n)
def TAt (g:G)(a:Wr)(vs:List Ws):Prop:=g a=AN (kD vs)
section
variable {prog:AZ}{w:X3}
inductive lH {K:Type} [DecidableEq K] (knd:Ep prog w K)(g:G)(a:Wr)(kvs:List (K×Ws)):Prop
 | mk (es:Array OJ) (n:Nat) (h1:g a=AN (a9 es n)) (h2:Bo knd es/\Pairs knd es.toList kvs/\(kvs.map (·.1)).Nodup/\(a==wW)=Wp)
noncomputable abbrev sk (prog:AZ)(w:X3):=_root_.PySem.strKind prog w
noncomputable abbrev ik (prog:AZ)(w:X3):=_root_.PySem.intKind prog w
end
noncomputable def CF (w:X3):Bool:=w.params.followText "set-order"
inductive acg (prog:AZ)(w:X3)(h:Xi)(a:Wr)(L:List Str):Prop
 | mk (o:Obj) (es:Array (Int×Ws)) (ep:Nat) (t:SetTable) (h1:h.get? a=AN o) (h2:o.ExactSet/\o.data=.set es ep t/\ElemsOf (sk prog w) es.toList/\anf (es.toList.map (·.2)) L/\L.Nodup/\es.size<OK/\t.fits es.size=Wn/\t.led=(!CF w)/\(L≠[]->t.plain=Wp))
structure mR where
 name:Str
 qual:Str
 params:OP
 body:FuncBody
 scope:YB
inductive yb (g:G)(code:Ws)(q:Str):Prop
 | mk (cc:Wr) (oc:Obj) (vs:Array Ws) (t:Tok) (h1:code=.ref cc) (h2:g cc=AN oc) (h3:oc.data=.fields vs/\vs[1]?=AN (.str q t))
inductive CG (h:Xi)(code:Ws)(q:Str):Prop
 | mk (cc:Wr) (oc:Obj) (vs:Array Ws) (t:Tok) (h1:code=.ref cc) (h2:h.get? cc=AN oc) (h0:oc.cls≠.none) (h3:oc.data=.fields vs) (h4:vs[1]?=AN (.str q t))
structure yc (F:G)(cl:List (Str×Wr))(rs:List (Str×Ws)):Prop where
 has:∀x r,(x,r)∈rs->∃a oc,cl.lookup x=AN a/\F a=AN oc/\oc.data=.cell (AN r)
 all:∀x a,cl.lookup x=AN a->∃oc v,F a=AN oc/\oc.cls=.type "cell"/\oc.data=.cell (AN v)
 apart:∀x y a,cl.lookup x=AN a->cl.lookup y=AN a->x=y
theorem yc.mono (z:yc F cl rs)(hs:∀b o,F b=AN o->F' b=AN o):yc F' cl rs:=
 ⟨λx r m=>dr (z.has x r m) λa oc e1 e2 e3=>(bW a oc e1 (hs _ _ e2) e3),λx a e=>FL (z.all x a e) λoc v e1 e2=>(d8 oc v (hs _ _ e1) e2),z.apart⟩
inductive MA (aH:Nat->mR)(F:G)(site:Nat)(a:Wr)(rs:List (Str×Ws)):Prop
 | mk (o:Obj) (fd:w6) (h0:F a=AN o) (c1:o.cls=.type "function") (c2:o.dict=Zl) (c3:o.data=.func fd)
  (e1:fd.name=(aH site).name) (e2:fd.qualname=(aH site).qual) (e3:fd.params=(aH site).params) (e4:fd.body=(aH site).body) (e5:fd.scope=(aH site).scope)
  (e6:fd.globals=te) (e7:fd.builtins=Xe) (e8:fd.defaults=.none) (e9:fd.kwdefaults=.none)
  (hc:yb F fd.code fd.qualname) (fq:yc F fd.closure rs)
theorem MA.sub (z:MA aH F site a rs)(hs:∀b o,F b=AN o->F' b=AN o):MA aH F' site a rs:=by obtain ⟨o,fd,h0,c1,c2,c3,e1,e2,e3,e4,e5,e6,e7,e8,e9,⟨cc,oc,vs,t,a1,a2,a3⟩,fq⟩:=z;exact ⟨o,fd,hs _ _ h0,c1,c2,c3,e1,e2,e3,e4,e5,e6,e7,e8,e9,⟨cc,oc,vs,t,a1,hs _ _ a2,a3⟩,fq.mono hs⟩
mutual
inductive cW (prog:AZ)(w:X3)(aH:Nat->mR)(F:G)(bs:List Wr):AV->Ws->Prop
 | none:cW prog w aH F bs .none .none
 | bool (b:Bool):cW prog w aH F bs (.bool b) (.bool b)
 | int (i:Int) (t:Tok):cW prog w aH F bs (.int i) (.int i t)
 | str (x:Str) (t:Tok):cW prog w aH F bs (.str x) (.str x t)
 | tup {xs:List AV} {a:Wr} {vs:List Ws}:TAt F a vs->bh prog w aH F bs xs vs->cW prog w aH F bs (.tup xs) (.ref a)
 | lst {xs:List AV} {a:Wr} {vs:List Ws}:FR F a vs->bh prog w aH F bs xs vs->cW prog w aH F bs (.lst xs) (.ref a)
 | kC {kvs:List (Str×AV)} {a:Wr} {rs:List (Str×Ws)}:lH (sk prog w) F a rs->bE prog w aH F bs kvs rs->cW prog w aH F bs (.kC kvs) (.ref a)
 | dQ {kvs:List (Int×AV)} {a:Wr} {rs:List (Int×Ws)}:lH (ik prog w) F a rs->bL prog w aH F bs kvs rs->cW prog w aH F bs (.dQ kvs) (.ref a)
 | ref {k:Nat} {a:Wr}:bs[k]?=AN a->cW prog w aH F bs (.ref k) (.ref a)
 | raw (v:Ws):cW prog w aH F bs (.raw v) v
 | bm {cls:String} {f:Ws} {self:AV} {a:Wr} {r:Ws}:F a=AN {cls:=.type cls,data:=.fields #[f,r]}->cW prog w aH F bs self r->cW prog w aH F bs (.bm cls f self) (.ref a)
 | fn {site:Nat} {Ju:List (Str×AV)} {a:Wr} {rs:List (Str×Ws)}:MA aH F site a rs->bE prog w aH F bs Ju rs->cW prog w aH F bs (.fn site Ju) (.ref a)
inductive bh (prog:AZ)(w:X3)(aH:Nat->mR)(F:G)(bs:List Wr):List AV->List Ws->Prop
 | nil:bh prog w aH F bs [] []
 | cons {x:AV} {v:Ws} {xs:List AV} {vs:List Ws}:cW prog w aH F bs x v->bh prog w aH F bs xs vs->bh prog w aH F bs (x::xs) (v::vs)
inductive bE (prog:AZ)(w:X3)(aH:Nat->mR)(F:G)(bs:List Wr):List (Str×AV)->List (Str×Ws)->Prop
 | nil:bE prog w aH F bs [] []
 | cons {n:Str} {x:AV} {v:Ws} {xs:List (Str×AV)} {vs:List (Str×Ws)}:cW prog w aH F bs x v->bE prog w aH F bs xs vs->bE prog w aH F bs ((n,x)::xs) ((n,v)::vs)
inductive bL (prog:AZ)(w:X3)(aH:Nat->mR)(F:G)(bs:List Wr):List (Int×AV)->List (Int×Ws)->Prop
 | nil:bL prog w aH F bs [] []
 | cons {n:Int} {x:AV} {v:Ws} {xs:List (Int×AV)} {vs:List (Int×Ws)}:cW prog w aH F bs x v->bL prog w aH F bs xs vs->bL prog w aH F bs ((n,x)::xs) ((n,v)::vs)
end
section
variable {prog:AZ}{w:X3}{aH:Nat->mR}{F F':G}{bs nb:List Wr}
theorem FR.sub (h:FR g a vs)(hs:∀b o,g b=AN o->g' b=AN o):FR g' a vs:=
 Ml h λn e=>(cj n (hs _ _ e))
theorem lH.sub {K:Type}[DecidableEq K]{knd:Ep prog w K}{g g':G}{a:Wr}{kvs:List (K×Ws)}(h:lH knd g a kvs)(hs:∀b o,g b=AN o->g' b=AN o):lH knd g' a kvs:=
 let ⟨es,n,e,r⟩:=h;⟨es,n,hs _ _ e,r⟩
abbrev ach (prog:AZ)(w:X3)(aH:Nat->mR)(F:G)(bs:List Wr)(v:AV)(r:Ws):Prop:=match v with
 | .none=>r=.none
 | .bool b=>r=.bool b
 | .int i=>∃t,r=.int i t
 | .str x=>∃t,r=.str x t
 | .raw u=>r=u
 | .ref k=>∃a,r=.ref a/\bs[k]?=AN a
 | .tup xs=>∃a vs,r=.ref a/\TAt F a vs/\bh prog w aH F bs xs vs
 | .lst xs=>∃a vs,r=.ref a/\FR F a vs/\bh prog w aH F bs xs vs
 | .kC kvs=>∃a rs,r=.ref a/\lH (sk prog w) F a rs/\bE prog w aH F bs kvs rs
 | .dQ kvs=>∃a rs,r=.ref a/\lH (ik prog w) F a rs/\bL prog w aH F bs kvs rs
 | .bm cls f self=>∃a q,r=.ref a/\F a=AN {cls:=.type cls,data:=.fields #[f,q]}/\cW prog w aH F bs self q
 | .fn site Ju=>∃a rs,r=.ref a/\MA aH F site a rs/\bE prog w aH F bs Ju rs
theorem cW.inv (h:cW prog w aH F bs v r):ach prog w aH F bs v r:=by
 cases h with
 | none=>rfl
 | bool=>rfl
 | int=>exact (cj _ Z)
 | str=>exact (cj _ Z)
 | raw=>rfl
 | ref e=>exact (af _ Z e)
 | _=>exact (bW _ _ Z (‹_›) (‹_›))
abbrev aci (prog:AZ)(w:X3)(aH:Nat->mR)(F:G)(bs:List Wr)(l:List AV)(r:List Ws):Prop:=match l with
 | []=>r=[]
 | x::xs=>∃v vs,r=v::vs/\cW prog w aH F bs x v/\bh prog w aH F bs xs vs
theorem bh.inv (h:bh prog w aH F bs l r):aci prog w aH F bs l r:=by
 cases h with
 | nil=>rfl
 | cons=>exact (bW _ _ Z (‹_›) (‹_›))
abbrev acj (prog:AZ)(w:X3)(aH:Nat->mR)(F:G)(bs:List Wr)(l:List (Str×AV))(r:List (Str×Ws)):Prop:=match l with
 | []=>r=[]
 | p::xs=>∃v vs,r=(p.1,v)::vs/\cW prog w aH F bs p.2 v/\bE prog w aH F bs xs vs
theorem bE.inv (h:bE prog w aH F bs l r):acj prog w aH F bs l r:=by
 cases h with
 | nil=>rfl
 | cons=>exact (bW _ _ Z (‹_›) (‹_›))
abbrev ack (prog:AZ)(w:X3)(aH:Nat->mR)(F:G)(bs:List Wr)(l:List (Int×AV))(r:List (Int×Ws)):Prop:=match l with
 | []=>r=[]
 | p::xs=>∃v vs,r=(p.1,v)::vs/\cW prog w aH F bs p.2 v/\bL prog w aH F bs xs vs
theorem bL.inv (h:bL prog w aH F bs l r):ack prog w aH F bs l r:=by
 cases h with
 | nil=>rfl
 | cons=>exact (bW _ _ Z (‹_›) (‹_›))
end
mutual
noncomputable def AV.under (n:Nat):AV->Bool
 | .none=>Wn
 | .bool _=>Wn
 | .int _=>Wn
 | .str _=>Wn
 | .tup xs=>AV.bX n xs
 | .lst xs=>AV.bX n xs
 | .kC kvs=>AV.kE n kvs
 | .dQ kvs=>AV.lI n kvs
 | .ref k=>decide (k<n)
 | .raw _=>Wn
 | .bm _ _ s=>s.under n
 | .fn _ Ju=>AV.kE n Ju
noncomputable def AV.bX (n:Nat):List AV->Bool
 | []=>Wn
 | x::xs=>x.under n&&AV.bX n xs
noncomputable def AV.kE (n:Nat):List (Str×AV)->Bool
 | []=>Wn
 | (_,x)::xs=>x.under n&&AV.kE n xs
noncomputable def AV.lI (n:Nat):List (Int×AV)->Bool
 | []=>Wn
 | (_,x)::xs=>x.under n&&AV.lI n xs
end
@[simp] theorem uvN {n:Nat}:AV.under n .none=Wn:=rfl
@[simp] theorem uvB {n:Nat}{b:Bool}:AV.under n (.bool b)=Wn:=rfl
@[simp] theorem uvI {n:Nat}{i:Int}:AV.under n (.int i)=Wn:=rfl
@[simp] theorem uvS {n:Nat}{x:Str}:AV.under n (.str x)=Wn:=rfl
@[simp] theorem uvT {n:Nat}{xs:List AV}:AV.under n (.tup xs)=AV.bX n xs:=rfl
@[simp] theorem FH {n:Nat}{xs:List AV}:AV.under n (.lst xs)=AV.bX n xs:=rfl
@[simp] theorem uvD {n:Nat}{xs:List (Str×AV)}:AV.under n (.kC xs)=AV.kE n xs:=rfl
@[simp] theorem aa5 {n:Nat}{xs:List (Int×AV)}:AV.under n (.dQ xs)=AV.lI n xs:=rfl
@[simp] theorem uvR {n k:Nat}:AV.under n (.ref k)=decide (k<n):=rfl
@[simp] theorem uvn {n:Nat}:AV.bX n []=Wn:=rfl
@[simp] theorem uvc {n:Nat}{x:AV}{xs:List AV}:AV.bX n (x::xs)=(x.under n&&AV.bX n xs):=rfl
theorem iC (u:g\/(a&&b)=Wn):(g\/a=Wn)/\(g\/b=Wn):=
 u.elim (λq=>⟨.inl q,.inl q⟩) λq=>⟨.inr (yi.mp q).1,.inr (yi.mp q).2⟩
section
variable {prog:AZ}{w:X3}{aH:Nat->mR}{F F':G}{bs aK nb:List Wr}{g:Prop}{n:Nat}
theorem cW.lift (hs:∀b o,F b=AN o->F' b=AN o)(hb:∀k a,bs[k]?=AN a->(g\/k<n)->aK[k]?=AN a)(h:cW prog w aH F bs x v):(g\/x.under n=Wn)->cW prog w aH F' aK x v:=
 cW.rec (motive_1:=λx v J=>(g\/x.under n=Wn)->cW prog w aH F' aK x v) (motive_2:=λx v J=>(g\/AV.bX n x=Wn)->bh prog w aH F' aK x v)
  (motive_3:=λx v J=>(g\/AV.kE n x=Wn)->bE prog w aH F' aK x v) (motive_4:=λx v J=>(g\/AV.lI n x=Wn)->bL prog w aH F' aK x v)
  (λJ=>.none) (λb J=>.bool b) (λi t J=>.int i t) (λx t J=>.str x t) (λh J ih u=>.tup (hs _ _ h) (ih u)) (λh J ih u=>.lst (h.sub hs) (ih u))
  (λh J ih u=>.kC (h.sub hs) (ih u)) (λh J ih u=>.dQ (h.sub hs) (ih u)) (λh u=>.ref (hb _ _ h (u.imp_right of_decide_eq_true))) (λv J=>.raw v)
  (λh J ih u=>.bm (hs _ _ h) (ih u)) (λh J ih u=>.fn (h.sub hs) (ih u))
  (λJ=>.nil) (λJ J i1 i2 u=>.cons (i1 (iC u).1) (i2 (iC u).2))
  (λJ=>.nil) (λJ J i1 i2 u=>.cons (i1 (iC u).1) (i2 (iC u).2))
  (λJ=>.nil) (λJ J i1 i2 u=>.cons (i1 (iC u).1) (i2 (iC u).2)) h
theorem bh.lift (hs:∀b o,F b=AN o->F' b=AN o)(hb:∀k a,bs[k]?=AN a->(g\/k<n)->aK[k]?=AN a)(h:bh prog w aH F bs x v)(u:g\/AV.bX n x=Wn):bh prog w aH F' aK x v:=by
 induction x generalizing v with
 | nil=>refine rE h.inv ?_;exact .nil
 | cons x xs ih=>refine dr h.inv λJ J o5 h1 h2=>?_;refine rE o5 ?_;exact .cons (h1.lift hs hb (iC u).1) (ih h2 (iC u).2)
theorem bE.lift (hs:∀b o,F b=AN o->F' b=AN o)(hb:∀k a,bs[k]?=AN a->(g\/k<n)->aK[k]?=AN a)(h:bE prog w aH F bs x v)(u:g\/AV.kE n x=Wn):bE prog w aH F' aK x v:=by
 induction x generalizing v with
 | nil=>refine rE h.inv ?_;exact .nil
 | cons x xs ih=>refine dr h.inv λJ J o4 h1 h2=>?_;refine rE o4 ?_;exact .cons (h1.lift hs hb (iC u).1) (ih h2 (iC u).2)
theorem bL.lift (hs:∀b o,F b=AN o->F' b=AN o)(hb:∀k a,bs[k]?=AN a->(g\/k<n)->aK[k]?=AN a)(h:bL prog w aH F bs x v)(u:g\/AV.lI n x=Wn):bL prog w aH F' aK x v:=by
 induction x generalizing v with
 | nil=>refine rE h.inv ?_;exact .nil
 | cons x xs ih=>refine dr h.inv λJ J o4 h1 h2=>?_;refine rE o4 ?_;exact .cons (h1.lift hs hb (iC u).1) (ih h2 (iC u).2)
theorem n5 {l r:List Wr}(k:Nat)(a:Wr)(h:l[k]?=AN a)(_:True\/k<0):(l++r)[k]?=AN a:=by refine rE (fb (bA h).1) ?_;exact h
theorem cW.mono (hs:∀b o,F b=AN o->F' b=AN o)(h:cW prog w aH F bs x v):cW prog w aH F' (bs++nb) x v:=h.lift hs n5 (.inl trivial)
theorem bh.mono (hs:∀b o,F b=AN o->F' b=AN o)(h:bh prog w aH F bs x v):bh prog w aH F' (bs++nb) x v:=h.lift hs n5 (.inl trivial)
theorem bE.mono (hs:∀b o,F b=AN o->F' b=AN o)(h:bE prog w aH F bs x v):bE prog w aH F' (bs++nb) x v:=h.lift hs n5 (.inl trivial)
theorem bL.mono (hs:∀b o,F b=AN o->F' b=AN o)(h:bL prog w aH F bs x v):bL prog w aH F' (bs++nb) x v:=h.lift hs n5 (.inl trivial)
theorem bh.length (h:bh prog w aH F bs xs vs):vs.length=xs.length:=by
 induction xs generalizing vs with
 | nil=>refine rE h.inv ?_;rfl
 | cons x xs ih=>refine dr h.inv λJ J o3 J h2=>?_;refine rE o3 ?_;exact congrArg GH (ih h2)
theorem bh.get (h:bh prog w aH F bs xs vs){i:Nat}(hx:xs[i]?=AN x):∃v,vs[i]?=AN v/\cW prog w aH F bs x v:=by
 induction xs generalizing vs i with
 | nil=>exact bM hx
 | cons y ys ih=>
   refine dr h.inv λv us o2 h1 h2=>?_;refine rE o2 ?_;cases i with
   | zero=>refine (bf hx)▸?_;exact (af _ Z h1)
   | succ i=>exact ih h2 hx
theorem bh.append (h:bh prog w aH F bs xs vs)(h':bh prog w aH F bs ys us):bh prog w aH F bs (xs++ys) (vs++us):=by
 induction xs generalizing vs with
 | nil=>refine rE h.inv ?_;exact h'
 | cons y ys ih=>refine dr h.inv λJ J o1 h1 h2=>?_;refine rE o1 ?_;exact .cons h1 (ih h2)
theorem bh.get_none (h:bh prog w aH F bs xs vs){i:Nat}(hx:xs[i]?=Wm):vs[i]?=Wm:=by rw [Gu] at hx ⊢;rw [h.length];exact hx
end
set_option genInjectivity true in
inductive AO where
 | gone
 | list (xs:List AV)
 | aN (kvs:List (Str×AV))
 | bB (kvs:List (Int×AV))
 | sset (S:List Str)
 | inst (c:Wr) (d:Nat)
 | slots (c:Wr) (d:Nat) (vs:List (Option AV))
 | iq (l:AV) (i:Nat)
 | exc (e:Wr) (ob:Obj)
 | fB (f:Option (AV×AV))
 | uset (S:List Str)
 | iD (S:List Int)
 deriving Inhabited
noncomputable def AO.ctorIdx (x:AO):Nat:=AO.casesOn x 0 (λJ=>1) (λJ=>2) (λJ=>3) (λJ=>4) (λJ J=>5) (λJ J J=>6) (λJ J=>7) (λJ J=>8) (λJ=>9) (λJ=>10) (λJ=>11)
structure AS where
 loc:List (Nat×AV)
 heap:List AO
structure aZ where
 prog:AZ
 w:X3
 aH:Nat->mR
 h₀:Xi
 MC:OsState
 /-- VL tables in aaQ VL code objects of inner acn are kept,and VL full names of aaR acn by aaS place in VL text -/
 tab:Wr->Option (Pos->Str)
section
variable (c:aZ)
abbrev aZ.V (F:G)(bs:List Wr):AV->Ws->Prop:=cW c.prog c.w c.aH F bs
abbrev aZ.Vs (F:G)(bs:List Wr):List AV->List Ws->Prop:=bh c.prog c.w c.aH F bs
abbrev aZ.IV (F:G)(bs:List Wr):List (Int×AV)->List (Int×Ws)->Prop:=bL c.prog c.w c.aH F bs
abbrev aZ.SV (F:G)(bs:List Wr):List (Str×AV)->List (Str×Ws)->Prop:=bE c.prog c.w c.aH F bs
inductive qf (F:G)(bs:List Wr):List (Option AV)->List (Option Ws)->Prop
 | nil:qf F bs [] []
 | no {xs vs}:qf F bs xs vs->qf F bs (.none::xs) (.none::vs)
 | yes {x v xs vs}:c.V F bs x v->qf F bs xs vs->qf F bs (.some x::xs) (.some v::vs)
def CH (F:G)(g:Wr):Prop:=∃og vg,F g=AN og/\og.data=.fields vg/\vg[2]?=AN .none
def AJ (F:G)(vs:Array Ws):Prop:=vs[2]?=AN .none\/∃g,vs[2]?=AN (.ref g)/\CH F g
theorem CH.mono {F F':G}{g:Wr}(h:∀b o,F b=AN o->F' b=AN o)(x:CH F g):CH F' g:=by obtain ⟨og,vg,h1,h2,h3⟩:=x;exact ⟨og,vg,h _ _ h1,h2,h3⟩
theorem AJ.mono {F F':G}{vs:Array Ws}(h:∀b o,F b=AN o->F' b=AN o)(x:AJ F vs):AJ F' vs:=by
 rcases x with q | ⟨g,q1,q2⟩
 . exact .inl q
 . exact .inr ⟨g,q1,q2.mono h⟩
def gg (F:G)(bs:List Wr)(h:Xi)(a:Wr):AO->Prop
 | .gone=>True
 | .list xs=>∃vs,FR h.get? a vs/\c.Vs F bs xs vs
 | .aN kvs=>∃rs,lH (sk c.prog c.w) h.get? a rs/\c.SV F bs kvs rs
 | .bB kvs=>∃rs,lH (ik c.prog c.w) h.get? a rs/\c.IV F bs kvs rs
 | .sset S=>∃L,acg c.prog c.w h a L/\L.Perm S
 | .uset S=>h.SetOf (sk c.prog c.w) a (λk=>decide (k∈S)) S.length
 | .iD S=>h.SetOf (ik c.prog c.w) a (λk=>decide (k∈S)) S.length
 | .inst cl d=>∃da,bs[d]?=AN da/\h.get? a=AN {cls:=.ref cl,dict:=AN da,data:=.plain,slots:=#[]}
 | .slots cl d vs=>∃da rs,bs[d]?=AN da/\qf c F bs vs rs/\h.get? a=AN {cls:=.ref cl,dict:=AN da,data:=.plain,slots:=rs.toArray}
 | .iq l i=>∃la,c.V F bs l (.ref la)/\h.get? a=AN {cls:=.type "list_iterator",data:=.fields #[.ref la,.int i 0]}
 | .exc e ob=>a=e/\∃vs,h.get? a=AN ob/\ob.cls≠.none/\ob.cls≠.type "frame"/\ob.data=.fields vs/\AJ F vs
 | .fB Wm=>∃x y,h.get? a=AN {cls:=.type "callable_iterator",data:=.fields #[x,y,.bool Wn]}
 | .fB (AN (f,v))=>∃x y,c.V F bs f x/\c.V F bs v y/\h.get? a=AN {cls:=.type "callable_iterator",data:=.fields #[x,y,.bool Wp]}
structure iO (F:G)(h:Xi):Prop extends OldK c.h₀ h where
 tabs:∀P q,c.tab P=AN q->F P=Wm/\(∃o,c.h₀.get? P=AN o)/\∃ps,h.get? P=AN {cls:=.none,data:=.fields ps}/\O5 ps.toList/\
  ∀pos v,Ha pos ps.toList=AN v->∃a o vs t,v=.ref a/\F a=AN o/\o.data=.fields vs/\vs[1]?=AN (.str (q pos) t)
structure Wd (F:G)(bs:List Wr)(H:List AO)(s:Gb):Prop where
 sub:∀b o,F b=AN o->s.heap.get? b=AN o
 base:∀b o,c.h₀.get? b=AN o->(o.cls≠.none\/b=El)->F b=AN o
 old:iO c F s.heap
 len:bs.length=H.length
 nodup:bs.Nodup
 obj:∀(k:Nat) (a:Wr) (o:AO),bs[k]?=AN a->H[k]?=AN o->gg c F bs s.heap a o/\(o≠.gone->F a=Wm)
 there:∀a∈bs,∃o,s.heap.get? a=AN o
 os:s.os=c.MC
 gens:s.gens=#[]
 kept:∀a∈bs,∀o,F a=AN o->o.cls≠.type "cell"
end
def jo (o o':Obj):Prop:=o'=o\/(o.cls=.type "frame"/\o'.cls=o.cls/\o'.dict=o.dict/\o'.data=o.data)
theorem jo.refl (o:Obj):jo o o:=.inl Z
theorem jo.trans (x:jo a b)(y:jo b d):jo a d:=by
 (refine bz x (λAz=>?_) (λFS=>?_);clear x;obtain rfl:=Az;rotate_left;refine CC FS λh1 h2 h3 h4=>?_;clear FS;rotate_right)
 . exact y
 . (refine bz y (λJv=>?_) (λFT=>?_);clear y;obtain rfl:=Jv;rotate_left;refine CC FT λk1 k2 k3 k4=>?_;rotate_right)
   . exact .inr (jr h1 h2 h3 h4)
   . exact .inr (jr h1 (k2.trans h2) (k3.trans h3) (k4.trans h4))
theorem jo.data (x:jo a b):b.data=a.data  :=by
 (refine bz x (λJw=>?_) (λJx=>?_);clear x;obtain rfl:=Jw;rotate_left;refine CC Jx λJ J J h=>?_;rotate_right)
 . rfl
 . exact h
theorem jo.cls (x:jo a b):b.cls=a.cls  :=by
 (refine bz x (λJy=>?_) (λFU=>?_);clear x;obtain rfl:=Jy;rotate_left;refine CC FU λJ h J J=>?_;rotate_right)
 . rfl
 . exact h
theorem jo.rh (x:jo a b)(h:a.cls≠.type "frame"):b=a  :=by
 rcases x with rfl | ⟨k,_⟩
 . rfl
 . exact absurd k h
structure Step (own:List Wr)(F:G)(bs:List Wr)(h:Xi)(F':G)(aK:List Wr)(h':Xi):Prop where
 sub:∀b o,F b=AN o->F' b=AN o
 ext:∃nb,aK=bs++nb/\∀a∈nb,h.get? a=Wm
 mono:∀b o,h.get? b=AN o->∃o',h'.get? b=AN o'
 eP:∀b o,h.get? b=AN o->b∉own->b∉bs->o.cls≠.none->∃o',h'.get? b=AN o'/\jo o o'
 jS:∀b o,F' b=AN o->F b=Wm->h.get? b=Wm\/b∈bs
theorem Step.refl (own:List Wr)(F:G)(bs:List Wr)(h:Xi):Step own F bs h F bs h:=
 ⟨λJ J e=>e,(af [] (by simp) (by simp)),λb o e=>(cj o e),λb o e J J J=>(af o e (.refl o)),λb o e n=>by lia⟩
theorem Step.trans (x:Step own F bs h F₁ bs₁ h₁)(y:Step own F₁ bs₁ h₁ aP aB im):Step own F bs h aP aB im:=by
 refine Va x.ext λnb aco hn=>?_;obtain rfl:=aco;refine Va y.ext λvR acq ii=>?_;refine rE acq ?_;have new:∀a∈vR,h.get? a=Wm:=λa ha=>by
  cases e:h.get? a with
  | none=>rfl
  | some o=>refine Ml (x.mono _ _ e) λo' e'=>?_;exact bM (aM (ar (ii a ha)) e')
 have F3:∀b o,h.get? b=AN o->b∉bs->b∉bs++nb:=λb o e n m=>by
  (refine bz (cH m) (λm=>?_) (λm=>?_))
  . exact n m
  . exact bM (aM (ar (hn b m)) e)
 refine ⟨λb o e=>y.sub _ _ (x.sub _ _ e),(af (nb++vR) (by simp) (λa ha=>(cH ha).elim (hn a) (new a))),λb o e=>?_,λb o e n1 n2 n3=>?_,λb o e n=>?_⟩
 . refine Ml (x.mono _ _ e) λo' e'=>?_;exact y.mono _ _ e'
 . refine Va (x.eP b o e n1 n2 n3) λo' e' s1=>Va (y.eP b o' e' n1 (F3 b o e n2) (by refine rE s1.cls ?_;exact n3)) λFV Cd s2=>?_;exact (af FV Cd (s1.trans s2))
 . cases e1:F₁ b with
   | some o1=>exact x.jS b o1 e1 n
   | none=>
     (refine bz (y.jS b o e e1) (λz=>?_) (λz=>?_))
     . left;cases e2:h.get? b with
       | none=>rfl
       | some o2=>refine Ml (x.mono _ _ e2) λo3 e3=>?_;exact bM (aM (ar z) e3)
     . (refine bz (cH z) (λz=>?_) (λz=>?_))
       . exact .inr z
       . exact .inl (hn b z)
theorem Step.widen (x:Step own F bs h F' aK h')(ho:∀a∈own,a∈ds\/h.get? a=Wm):Step ds F bs h F' aK h':=
 ⟨x.sub,x.ext,x.mono,λb o e n1 n2 n3=>x.eP b o e (λm=>(ho b m).elim n1 λz=>by lia) n2 n3,x.jS⟩
theorem Step.fresh (x:Step own F bs h F' aK h'):∃nb,aK=bs++nb:=Va x.ext λnb e J=>(cj nb e)
section
variable {c:aZ}{own:List Wr}{F F':G}{bs aK:List Wr}{h h':Xi}
theorem Step.V (x:Step own F bs h F' aK h')(hv:c.V F bs a v):c.V F' aK a v:=by refine Va x.ext λnb FW J=>?_;refine rE FW ?_;exact cW.mono x.sub hv
theorem Step.Vs (x:Step own F bs h F' aK h')(hv:c.Vs F bs a v):c.Vs F' aK a v:=by refine Va x.ext λnb Jz J=>?_;refine rE Jz ?_;exact bh.mono x.sub hv
end
structure Cx where
 env:Env
 own:List Wr
 frames:List Env
 handled:Option Ws
 n:Nat
 vars:List Str
inductive acr (h:Xi)(e:Env):Prop
 | mk (L:Wr) (o:Obj) (h1:e.frame=AN L) (h2:h.get? L=AN o) (h3:o.cls=.type "frame"/\∀vs,o.data≠.fields vs)
structure ib (h:Xi)(e:Env):Prop where
 kind:e.scope.kind≠.module
 at_:acr h e
structure lp (C:Cx)(A:M5):Prop where
 handled:A.handled=C.handled
 depth:A.depth+C.n<Be
 units:A.units+20*C.n<O7
 frames:A.frames=AN C.frames
inductive Ia (c:aZ)(env:Env)(F:G)(bs:List Wr)(h:Xi)(x:Str)(v:AV):Prop
 | mk (a:Wr) (o:Obj) (r:Ws) (h1:env.cells.lookup x=AN a) (h2:h.get? a=AN o) (h3:o.data=.cell (AN r)/\c.V F bs v r)
inductive acs (h:Xi)(a:Wr):Prop
 | mk (o:Obj) (h1:h.get? a=AN o) (h2:o.cls=.type "cell"/\∃v,o.data=.cell v)
inductive lJ (c:aZ)(env:Env)(F:G)(bs:List Wr)(h:Xi)(m:Str->Option Ws)(x:Str)(v:AV):Prop
 | loc (hk:env.kindOf x=AN .local) (r:Ws) (h1:m x=AN r) (h2:c.V F bs v r)
 | cell (hk:env.kindOf x=AN .cell\/env.kindOf x=AN .free) (w:Ia c env F bs h x v)
def jz (c:aZ)(C:Cx)(F:G)(bs:List Wr)(h:Xi)(m:Str->Option Ws)(i:Nat)(v:AV):Prop:=∃x,C.vars[i]?=AN x/\lJ c C.env F bs h m x v
def s9 (C:Cx)(F:G):Prop:=C.env.func≠Wm->∀x a,C.env.cells.lookup x=AN a->a∈C.own\/∃o r,F a=AN o/\o.data=.cell (AN r)
theorem s9.mono (z:s9 C F)(hs:∀b o,F b=AN o->F' b=AN o):s9 C F':=λh x a e=>(z h x a e).imp id λacw=>FL acw λo r e1 e2=>(d8 o r (hs _ _ e1) e2)
structure St (c:aZ)(C:Cx)(F:G)(bs:List Wr)(S:AS)(s:Gb):Prop where
 wd:Wd c F bs S.heap s
 locs:∃m,s.heap.Ns C.env.locals m/\∀i v,S.loc.lookup i=AN v->jz c C F bs s.heap m i v
 ir:∃o,s.heap.get? C.env.locals=AN o/\o.cls≠.none
 cU:C.env.locals∈C.own
 own:∀a∈C.own,F a=Wm/\a∉bs/\∃o,s.heap.get? a=AN o
 cells:∀x a,C.env.cells.lookup x=AN a->a∉bs/\a≠C.env.locals/\acs s.heap a
 apart:∀x y a,C.env.cells.lookup x=AN a->C.env.cells.lookup y=AN a->x=y
 frames:∀e∈C.frames,ib s.heap e/\∀L,e.frame=AN L->F L=Wm/\L∉bs
 glob:C.env.globals=te
 blt:C.env.builtins=Xe
 kind:C.env.scope.kind=.function
 qg:C.vars.Nodup
 iu:s9 C F
section
variable {c:aZ}{C:Cx}{F F':G}{bs nb:List Wr}{S:AS}{s s':Gb}{h h':Xi}{a:Wr}{o:AO}
theorem qf.mono (hs:∀b o,F b=AN o->F' b=AN o)(h:qf c F bs x v):qf c F' (bs++nb) x v:=by
 induction h with
 | nil=>exact .nil
 | no _ ih=>exact .no ih
 | yes hv _ ih=>exact .yes (cW.mono hs hv) ih
theorem gg.at (x:gg c F bs h a o)(e:∀ob,h.get? a=AN ob->h'.get? a=AN ob):gg c F bs h' a o:=by
 cases o with
 | gone=>trivial
 | list xs=>refine Va x λvs o9 h2=>?_;clear x;refine Ml o9 λn h1=>?_;clear o9;exact (af vs (cj n (e _ h1)) h2)
 | aN kvs=>refine Va x λrs o8 h2=>?_;clear x;obtain ⟨es,n,h1,r⟩:=o8;exact (af rs ⟨es,n,e _ h1,r⟩ h2)
 | bB kvs=>refine Va x λrs o8 h2=>?_;clear x;obtain ⟨es,n,h1,r⟩:=o8;exact (af rs ⟨es,n,e _ h1,r⟩ h2)
 | sset S=>refine Va x λL o7 r'=>?_;clear x;obtain ⟨ob,es,ep,t,h1,r⟩:=o7;exact (af L ⟨ob,es,ep,t,e _ h1,r⟩ r')
 | uset S=>refine Wi x λob es ep t h1 r=>?_;exact ⟨ob,es,ep,t,(e _ h1),r⟩
 | iD S=>refine Wi x λob es ep t h1 r=>?_;exact ⟨ob,es,ep,t,(e _ h1),r⟩
 | inst cl d=>refine Va x λda h1 h2=>?_;exact (af da h1 (e _ h2))
 | slots cl d vs=>refine dr x λda rs h0 h1 h2=>?_;exact (bW da rs h0 h1 (e _ h2))
 | iq l i=>refine Va x λla h1 h2=>?_;exact (af la h1 (e _ h2))
 | exc ex ob=>obtain ⟨h0,vs,h1,r⟩:=x;exact (qZ h0 vs (e _ h1) r)
 | fB f=>
   cases f with
   | none=>refine CB x λu v h1=>?_;exact (n4 u v (e _ h1))
   | some f=>refine dr x λu v h1 h2 h3=>?_;exact (bW u v h1 h2 (e _ h3))
theorem gg.mono (hs:∀b o,F b=AN o->F' b=AN o)(x:gg c F bs h a o):gg c F' (bs++nb) h a o:=by
 cases o with
 | gone=>trivial
 | list xs=>refine Va x λvs h1 h2=>?_;exact (af vs h1 (bh.mono hs h2))
 | aN kvs=>refine Va x λrs h1 h2=>?_;exact (af rs h1 (bE.mono hs h2))
 | bB kvs=>refine Va x λrs h1 h2=>?_;exact (af rs h1 (bL.mono hs h2))
 | sset S=>exact x
 | uset S=>exact x
 | iD S=>exact x
 | inst cl d=>refine Va x λda h1 h2=>?_;exact (af da (by refine aa (fb (bA h1).1) ?_;exact h1) h2)
 | slots cl d vs=>refine dr x λda rs h0 h1 h2=>?_;exact (bW da rs (by refine aa (fb (bA h0).1) ?_;exact h0) (h1.mono hs) h2)
 | iq l i=>refine Va x λla h1 h2=>?_;exact (af la (cW.mono hs h1) h2)
 | exc ex ob=>obtain ⟨h0,vs,h1,h2,h3,h4,h5⟩:=x;exact ⟨h0,vs,h1,h2,h3,h4,h5.mono hs⟩
 | fB f=>
   cases f with
   | none=>exact x
   | some f=>refine dr x λu v h1 h2 h3=>?_;exact (bW u v (cW.mono hs h1) (cW.mono hs h2) h3)
theorem lJ.mono (hs:∀b o,F b=AN o->F' b=AN o)(z:lJ c env F bs h m x v):lJ c env F' (bs++nb) h m x v:=by
 cases z with
 | loc hk r h1 h2=>exact .loc hk r h1 (cW.mono hs h2)
 | cell hk w=>obtain ⟨a,o,r,h1,h2,h3,h4⟩:=w;exact .cell hk ⟨a,o,r,h1,h2,h3,cW.mono hs h4⟩
theorem lJ.heap (z:lJ c env F bs h m x v)(e:∀a o,env.cells.lookup x=AN a->h.get? a=AN o->∃o',h'.get? a=AN o'/\o'.data=o.data):lJ c env F bs h' m x v:=by
 cases z with
 | loc hk r h1 h2=>exact .loc hk r h1 h2
 | cell hk w=>obtain ⟨a,o,r,h1,h2,h3,h4⟩:=w;refine Va (e a o h1 h2) λo' e1 e2=>?_;exact .cell hk ⟨a,o',r,h1,e1,e2.trans h3,h4⟩
theorem jz.mono (hs:∀b o,F b=AN o->F' b=AN o)(z:jz c C F bs h m i v):jz c C F' (bs++nb) h m i v:=
 Va z λx e l=>(af x e (lJ.mono hs l))
theorem jz.heap (z:jz c C F bs h m i v)(e:∀x a o,C.env.cells.lookup x=AN a->h.get? a=AN o->∃o',h'.get? a=AN o'/\o'.data=o.data):jz c C F bs h' m i v:=
 Va z λx e' l=>(af x e' (l.heap (e x)))
theorem iO.step_keeps (x:iO c F h)(k:∀b o,h.get? b=AN o->h'.get? b=AN o):iO c F h':=
 ⟨x.toOldK.step_keeps k,λP q e=>let ⟨h1,h2,ps,h3,h4⟩:=x.tabs P q e;⟨h1,h2,ps,(k _ _ h3),h4⟩⟩
structure a7 (c:aZ)(F:G)(bs:List Wr)(s s':Gb):Prop where
 keep:∀b o,s.heap.get? b=AN o->s'.heap.get? b=AN o
 os:s'.os=s.os
 gens:s'.gens=s.gens
theorem Wd.keep (x:Wd c F bs S.heap s)(m:a7 c F bs s s'):Wd c F bs S.heap s':=
 ⟨λb o e=>m.keep _ _ (x.sub b o e),x.base,x.old.step_keeps m.keep,x.len,x.nodup,λk a o e1 e2=>⟨(x.obj k a o e1 e2).1.at λob e=>m.keep _ _ e,(x.obj k a o e1 e2).2⟩,
  λa ha=>Ml (x.there a ha) λo e=>(cj o (m.keep _ _ e)),m.os.trans x.os,m.gens.trans x.gens,x.kept⟩
theorem ib.keep (x:ib h e)(k:∀b o,h.get? b=AN o->o.cls=.type "frame"->∃o',h'.get? b=AN o'/\jo o o'):ib h' e:=by obtain ⟨hk,L,o,h1,h2,h3,h4⟩:=x;refine Va (k L o h2 h3) λo' e1 e2=>?_;exact ⟨hk,L,o',h1,e1,e2.cls.trans h3,λvs=>by refine aa e2.data ?_;exact h4 vs⟩
theorem St.keep (x:St c C F bs S s)(m:a7 c F bs s s'):St c C F bs S s':=by
 refine Va x.locs λmm hn hl=>?_;refine ⟨x.wd.keep m,(af mm (hn.keeps m.keep) (λy v e=>(hl y v e).heap λJ a o J h2=>(af o (m.keep _ _ h2) Z))),?_,x.cU,λb hb=>(let ⟨h1,h2,o,h3⟩:=x.own b hb;(nY h1 h2 o (m.keep _ _ h3))),λy a e=>?_,x.apart,λe he=>⟨(x.frames e he).1.keep λb o e J=>(af o (m.keep _ _ e) (.refl o)),(x.frames e he).2⟩,x.glob,x.blt,x.kind,x.qg,x.iu⟩
 . refine Va x.ir λo e n=>?_;exact (af o (m.keep _ _ e) n)
 . obtain ⟨h1,h2,o,h3,h4,h5⟩:=x.cells y a e;exact (aV h1 h2 ⟨o,m.keep _ _ h3,h4,h5⟩)
theorem Step.keep (m:a7 c F bs s s'):Step own F bs s.heap F bs s'.heap:=
 ⟨λJ J e=>e,(af [] (by simp) (by simp)),λb o e=>(cj o (m.keep _ _ e)),λb o e J J J=>(af o (m.keep _ _ e) (.refl o)),λb o e n=>by lia⟩
noncomputable def plus (F:G)(a:Wr)(o:Obj):G:=λb=>if b=a then AN o else F b
theorem aY (hn:F a=Wm):∀b o,F b=AN o->plus F a ob b=AN o:=λb o e=>by delta plus;refine aa (if_neg λq=>by subst q;rw [hn] at e;cases e) ?_;exact e
theorem bU:plus F a ob a=AN ob:=by unfold plus;exact aa (if_pos Z) Z
theorem iO.plus {c:aZ}{F:G}{h:Xi}{a:Wr}{ob:Obj}(x:iO c F h)(hF:F a=Wm)(eQ:∀P q,c.tab P=AN q->P≠a):iO c (plus F a ob) h:=
 ⟨x.toOldK,λP q e=>let ⟨h1,h2,ps,h3,h4,h5⟩:=x.tabs P q e
  (mA (by delta Mine.Internal.plus;refine aa (if_neg (eQ P q e)) ?_;exact h1) h2 ps h3 h4 (λpos v ev=>VO (h5 pos v ev) λb o vs t e1 e2 e3=>⟨b,o,vs,t,e1,(aY hF _ _ e2),e3⟩))⟩
theorem iO.JB (x:iO c F h)(hn:h.get? a=Wm):∀P q,c.tab P=AN q->P≠a:=λP q e z=>by obtain ⟨_,_,ps,h3,_⟩:=x.tabs P q e;rw [z,hn] at h3;cases h3
theorem iO.yd (x:iO c F h)(ha:h.get? a=AN ob)(hc:ob.cls≠.none):∀P q,c.tab P=AN q->P≠a:=λP q e z=>by obtain ⟨_,_,ps,h3,_⟩:=x.tabs P q e;rw [z,ha] at h3;clear ha;cases h3;exact hc Z
set_option tactic.hygienic true in
theorem Wd.jS (x:Wd c F bs S.heap s)(m:a7 c F bs s s')(hn:s.heap.get? a=Wm)(ha:s'.heap.get? a=AN ob):Wd c (plus F a ob) bs S.heap s':=by
 have hF:F a=Wm:=by
  cases e:F a with
  | none=>rfl
  | some o=>exact lj (aM (ar (x.sub _ _ e)) hn)
 have y:=x.keep m;refine ⟨λb o e=>?_,λb o e q=>aY hF _ _ (x.base b o e q),y.old.plus hF (x.old.JB hn),y.len,y.nodup,λk b o e1 e2=>⟨?_,λq=>?_⟩,y.there,y.os,y.gens,λb hb o e=>?_⟩
 . unfold plus at e
   split at e
   . rename_i q;clear hF hn;refine rE q ?_;cases e;exact ha
   . exact y.sub _ _ e
 . obtain this:=gg.mono (nb:=[]) (aY (ob:=ob) hF) (y.obj k b o e1 e2).1;simpa using this
 . delta plus
   split
   . rename_i q;clear ha hF;subst q;refine Ml (x.there b (bO e1)) λo' e'=>?_;exact bM (aM (ar hn) e')
   . exact (y.obj k b o e1 e2).2 q
 . unfold plus at e
   split at e
   . rename_i q;clear ha hF;subst q;refine Ml (x.there b hb) λo' e'=>?_;exact bM (aM (ar hn) e')
   . exact y.kept b hb o e
set_option tactic.hygienic true in
theorem St.jS (x:St c C F bs S s)(m:a7 c F bs s s')(hn:s.heap.get? a=Wm)(ha:s'.heap.get? a=AN ob):St c C (plus F a ob) bs S s':=by
 have hF:F a=Wm:=by
  cases e:F a with
  | none=>rfl
  | some o=>exact lj (aM (ar (x.wd.sub _ _ e)) hn)
 have y:=x.keep m;refine Va y.locs λmm hN hl=>?_;refine ⟨x.wd.jS m hn ha,(af mm hN (λz v e=>by simpa using jz.mono (nb:=[]) (aY (ob:=ob) hF) (hl z v e))),y.ir,y.cU,λb hb=>⟨?_,(y.own b hb).2⟩,y.cells,y.apart,λe he=>⟨(y.frames e he).1,λL hL=>⟨?_,((y.frames e he).2 L hL).2⟩⟩,y.glob,y.blt,y.kind,y.qg,y.iu.mono (aY hF)⟩
 . delta plus
   split
   . rename_i q;clear hF ha;subst q;obtain ⟨_,_,o,e⟩:=x.own b hb;exact bM (aM (ar hn) e)
   . exact (y.own b hb).1
 . delta plus
   split
   . rename_i q;clear hF ha;subst q;obtain ⟨_,L',o,e1,e2,_⟩:=(x.frames e he).1;obtain rfl:=bf (aM (ar hL) e1);rw [hn] at e2;cases e2
   . exact ((y.frames e he).2 L hL).1
set_option tactic.hygienic true in
theorem Step.frozen (m:a7 c F bs s s')(hF:F a=Wm)(hn:s.heap.get? a=Wm):Step own F bs s.heap (plus F a ob) bs s'.heap:=
 ⟨aY hF,(af [] (by simp) (by simp)),λb o e=>(cj o (m.keep _ _ e)),λb o e _ _ _=>(af o (m.keep _ _ e) (.refl o)),λb o e n=>by
  delta plus at e
  split at e
  . rename_i q;clear hF;subst q;exact .inl hn
  . exact lj (aM (ar e) n)⟩
theorem St.kF (x:St c C F bs S s)(hn:s.heap.get? a=Wm):F a=Wm:=by
 cases e:F a with
 | none=>rfl
 | some o=>exact lj (aM (ar (x.wd.sub _ _ e)) hn)
theorem Wd.new (x:Wd c F bs S.heap s)(m:a7 c F bs s s')(hn:s.heap.get? a=Wm)(ha:s'.heap.get? a=AN ob)(hr:gg c F (bs++[a]) s'.heap a o):Wd c F (bs++[a]) (S.heap++[o]) s':=by
 have y:=x.keep m;obtain hb:a∉bs:=λq=>by refine Ml (x.there a q) λo' e=>?_;exact bM (aM (ar hn) e)
 have hF:F a=Wm:=by
  cases e:F a with
  | none=>rfl
  | some o=>exact lj (aM (ar (x.sub _ _ e)) hn)
 refine ⟨y.sub,y.base,y.old,by simp [y.len],?_,λk b o' e1 e2=>?_,λb mZ=>?_,y.os,y.gens,λb mZ o e=>(cH mZ).elim (λq=>y.kept b q o e) λq=>by rw [bN q,hF] at e;cases e⟩
 . refine bb M9 ?_;refine (aV y.nodup (by simp) (λp hp q hq e=>?_));rw [bN hq] at e;exact hb (e▸hp)
 . by_cases hk:k<bs.length
   . rw [fb hk] at e1;rw [fb (by refine az y.len ?_;exact hk)] at e2;exact ⟨gg.mono (λJ J e=>e) (y.obj k b o' e1 e2).1,(y.obj k b o' e1 e2).2⟩
   . obtain rj:k=bs.length:=by obtain this:=(bA e1).1;simp at this;exact uD this hk
     clear hk;subst rj;simp at e1;rw [y.len] at e2;simp at e2;subst e1 e2;exact ⟨hr,λJ=>hF⟩
 . rcases cH mZ with q | q
   . exact y.there b q
   . refine aa (bN q) ?_;exact (cj ob ha)
theorem St.new (x:St c C F bs S s)(m:a7 c F bs s s')(hn:s.heap.get? a=Wm)(ha:s'.heap.get? a=AN ob)(hr:gg c F (bs++[a]) s'.heap a o): St c C F (bs++[a]) {S with heap:=S.heap++[o]} s':=by
 have y:=x.keep m;have ne:∀b,(∃o,s.heap.get? b=AN o)->b≠a:=λb q13=>Ml q13 λo e q=>by clear hr ha;subst q;rw [hn] at e;cases e
 refine Va y.locs λmm hN hl=>?_;refine ⟨x.wd.new m hn ha hr,(af mm hN (λz v e=>jz.mono (λJ J e=>e) (hl z v e))),y.ir,y.cU,λb hb=>(aV ((y.own b hb).1) (λq=>?_) ((y.own b hb).2.2)),λz b e=>⟨λq=>?_,(y.cells z b e).2⟩,y.apart,λe he=>⟨(y.frames e he).1,λL hL=>⟨((y.frames e he).2 L hL).1,λq=>?_⟩⟩,y.glob,y.blt,y.kind,y.qg,y.iu⟩
 . rcases cH q with q | q
   . exact (y.own b hb).2.1 q
   . exact ne b (x.own b hb).2.2 (bN q)
 . rcases cH q with q | q
   . exact (y.cells z b e).1 q
   . obtain ⟨_,_,o',e',_⟩:=x.cells z b e;exact ne b (cj o' e') (bN q)
 . rcases cH q with q | q
   . exact ((y.frames e he).2 L hL).2 q
   . obtain ⟨_,L',o,e1,e2,_⟩:=(x.frames e he).1;obtain rfl:=bf (aM (ar hL) e1);exact ne L (cj o e2) (bN q)
theorem Step.new (m:a7 c F bs s s')(hn:s.heap.get? a=Wm):Step own F bs s.heap F (bs++[a]) s'.heap:=
 ⟨λJ J e=>e,(af [a] Z (λb hb=>by refine rE (bN hb) ?_;exact hn)),λb o e=>(cj o (m.keep _ _ e)),λb o e J J J=>(af o (m.keep _ _ e) (.refl o)),λb o e n=>by lia⟩
end
section
variable {c:aZ}{C:Cx}{F F':G}{bs nb:List Wr}{S:AS}{s s':Gb}{h h':Xi}{a:Wr}{o o':AO}{k:Nat}
structure fC (a:Wr)(s s':Gb):Prop where
 same:∀b,b≠a->∀o,s.heap.get? b=AN o->s'.heap.get? b=AN o
 there:∃o,s'.heap.get? a=AN o
 os:s'.os=s.os
 gens:s'.gens=s.gens
theorem Wd.iP (x:Wd c F bs S.heap s)(hF:F a=Wm)(hc:∃o,s.heap.get? a=AN o/\o.cls≠.none):c.h₀.get? a=Wm:=by
 cases e:c.h₀.get? a with
 | none=>rfl
 | some s7=>
   refine Va hc λo e1 e2=>?_;by_cases q:s7.cls≠.none\/a=El
   . exact lj (aM (ar (x.base a s7 e q)) hF)
   . rcases x.old.old a s7 e with z | ⟨_,fq,_,_,hv,z⟩ | ⟨hq,_⟩
     . clear e;obtain rfl:=bf (aM (ar e1) z);exact absurd (.inl e2) q
     . obtain rfl:=bf (aM (ar e1) z);exact absurd fq e2
     . exact absurd (.inr hq) q
theorem OldK.tF (x:OldK h₀ h)(ha:h₀.get? a=Wm)(k:∀b,b≠a->∀o,h.get? b=AN o->h'.get? b=AN o):OldK h₀ h':=by
 have ne:∀b o,h₀.get? b=AN o->b≠a:=λb o e q=>by clear k;subst q;rw [ha] at e;cases e
 refine ⟨λb o e=>?_,λb o e=>Ml (x.there b o e) λo' e'=>(cj o' (k _ (ne b o e) _ e'))⟩;rcases x.old b o e with z | ⟨t,hc,vs,V9,hv,z⟩ | ⟨rfl,hc,⟨o',es,n,vT,r⟩,z⟩
 . exact .inl (k _ (ne b o e) _ z)
 . exact .inr (.inl ⟨t,hc,vs,V9,hv,(k _ (ne b o e) _ z)⟩)
 . exact .inr (.inr (jr Z hc (lF o' es n (k _ (ne _ o e) _ vT) r) (λkey=>by refine aa (akq ((k _ (ne _ o e) _ vT).trans vT.symm) key) ?_;exact z key)))
theorem iO.tF (x:iO c F h)(ha:c.h₀.get? a=Wm)(k:∀b,b≠a->∀o,h.get? b=AN o->h'.get? b=AN o):iO c F h':=
 ⟨OldK.tF x.toOldK ha k,λP q e=>let ⟨h1,⟨o,h2⟩,ps,h3,h4⟩:=x.tabs P q e;⟨h1,(cj o h2),ps,(k _ (λz=>by lia) _ h3),h4⟩⟩
theorem gg.cls (x:gg c F bs h a o)(ho:o≠.gone):∃ob,h.get? a=AN ob/\ob.cls≠.none/\ob.cls≠.type "frame":=by
 cases o with
 | gone=>exact absurd Z ho
 | list xs=>refine Va x λvs o6 h2=>?_;clear x;refine Ml o6 λn h1=>?_;clear o6;exact (aU _ h1 (by simp [bu]) (by simp [bu]))
 | aN kvs=>refine Va x λrs o5 h2=>?_;clear x;obtain ⟨es,n,h1,r⟩:=o5;exact (aU _ h1 (by simp [a9]) (by simp [a9]))
 | bB kvs=>refine Va x λrs o5 h2=>?_;clear x;obtain ⟨es,n,h1,r⟩:=o5;exact (aU _ h1 (by simp [a9]) (by simp [a9]))
 | sset S=>refine Va x λL o4 J=>?_;clear x;obtain ⟨ob,es,ep,t,h1,hc,r⟩:=o4;exact (aU _ h1 (by refine aa hc.1 ?_;simp) (by refine aa hc.1 ?_;simp))
 | uset S=>refine VO x λob es ep t h1 hc r=>?_;exact (aU _ h1 (by refine aa hc.1 ?_;simp) (by refine aa hc.1 ?_;simp))
 | iD S=>refine VO x λob es ep t h1 hc r=>?_;exact (aU _ h1 (by refine aa hc.1 ?_;simp) (by refine aa hc.1 ?_;simp))
 | inst cl d=>refine Va x λda h1 h2=>?_;exact (aU _ h2 (by simp) (by simp))
 | slots cl d vs=>refine dr x λda rs h0 h1 h2=>?_;exact (aU _ h2 (by simp) (by simp))
 | iq l i=>refine Va x λla h1 h2=>?_;exact (aU _ h2 (by simp) (by simp))
 | exc ex ob=>obtain ⟨_,vs,h1,h2,h3,_⟩:=x;exact (aU ob h1 h2 h3)
 | fB f=>
   cases f with
   | none=>refine CB x λu v h1=>?_;exact (aU _ h1 (by simp) (by simp))
   | some f=>refine dr x λu v h1 h2 h3=>?_;exact (aU _ h3 (by simp) (by simp))
theorem fC.wd (x:Wd c F bs S.heap s)(t:fC a s s')(hF:F a=Wm)(hc:∃ob,s.heap.get? a=AN ob/\ob.cls≠.none):(∀b o,F b=AN o->s'.heap.get? b=AN o)/\iO c F s'.heap/\∀b∈bs,∃o,s'.heap.get? b=AN o:=by
 refine (aV (λb o e=>t.same b (λq=>by clear hc t;subst q;rw [hF] at e;cases e) _ (x.sub b o e)) (iO.tF x.old (x.iP hF hc) t.same) (λb hb=>?_));by_cases q:b=a
 . clear hF hc;subst q;exact t.there
 . refine Ml (x.there b hb) λo e=>?_;exact (cj o (t.same b q _ e))
theorem Wd.upd (x:Wd c F bs S.heap s)(t:fC a s s')(hk:bs[k]?=AN a)(ho:S.heap[k]?=AN o)(hg:o≠.gone)(hr:gg c F bs s'.heap a o'):Wd c F bs (S.heap.set k o') s':=by
 have hF:=(x.obj k a o hk ho).2 hg;refine N1 ((x.obj k a o hk ho).1.cls hg) λob e1 e2 J=>?_;refine RR (t.wd x hF (af ob e1 e2)) λh1 h2 h3=>?_;refine ⟨h1,x.base,h2,by simp [x.len],x.nodup,λj b q ej eq=>?_,h3,t.os.trans x.os,t.gens.trans x.gens,x.kept⟩;by_cases hj:j=k
 . subst hj;refine (bf (aM (ar hk) ej))▸?_;rw [iN (bA ho).1] at eq;refine (bf eq)▸?_;exact ⟨hr,λJ=>hF⟩
 . rw [bc (λe=>hj e.symm)] at eq;have ne:b≠a:=λe=>hj (by
    clear e1 hF hr t;subst e;exact (Y1 (bA ej).1 x.nodup).mp (ej.trans hk.symm))
   exact ⟨(x.obj j b q ej eq).1.at λob e=>t.same b ne _ e,(x.obj j b q ej eq).2⟩
theorem St.tF (x:St c C F bs S s)(t:fC a s s')(hL:a≠C.env.locals)(hc:∀y b,C.env.cells.lookup y=AN b->b≠a)(hf:∀e∈C.frames,e.frame≠AN a)(y:Wd c F bs H' s'):St c C F bs {S with heap:=H'} s':=by
 refine Va x.locs λmm hN hl=>?_;have k:∀b o,b≠a->s.heap.get? b=AN o->s'.heap.get? b=AN o:=λb o q e=>t.same b q _ e;refine ⟨y,(af mm ?_ (λz v e=>(hl z v e).heap λx b o e1 e2=>(af o (k b o (hc x b e1) e2) Z))),?_,x.cU,λb hb=>?_,λz b e=>?_,x.apart,λe he=>⟨?_,(x.frames e he).2⟩,x.glob,x.blt,x.kind,x.qg,x.iu⟩
 . refine VN hN λo es ep ho r=>?_;exact (lF o es ep (k _ _ (Gy hL) ho) r)
 . refine Va x.ir λo e n=>?_;exact (af o (k _ _ (Gy hL) e) n)
 . obtain ⟨h1,h2,o,h3⟩:=x.own b hb;by_cases q:b=a
   . clear k hf hc hL;subst q;exact (aV h1 h2 t.there)
   . exact (nY h1 h2 o (k _ _ q h3))
 . obtain ⟨h1,h2,o,h3,h4⟩:=x.cells z b e;exact (aV h1 h2 ⟨o,k _ _ (hc z b e) h3,h4⟩)
 . obtain ⟨hk,L,o,h1,h2,h3⟩:=(x.frames e he).1;exact ⟨hk,L,o,h1,k _ _ (λq=>hf e he (q▸h1)) h2,h3⟩
theorem St.upd (x:St c C F bs S s)(t:fC a s s')(hk:bs[k]?=AN a)(ho:S.heap[k]?=AN o)(hg:o≠.gone)(hr:gg c F bs s'.heap a o'):St c C F bs {S with heap:=S.heap.set k o'} s':=
 have hm:=bO hk
 x.tF t (λe=>(x.own _ x.cU).2.1 (e▸hm)) (λy b e q=>(x.cells y b e).1 (q▸hm)) (λe he q=>((x.frames e he).2 a q).2 hm) (x.wd.upd t hk ho hg hr)
theorem Step.upd (t:fC a s s')(hm:a∈bs\/a∈own):Step own F bs s.heap F bs s'.heap:=by
 refine ⟨λJ J e=>e,(af [] (by simp) (by simp)),λb o e=>?_,λb o e n1 n2 J=>(af o (t.same b (λq=>?_) _ e) (.refl o)),λb o e n=>by lia⟩
 . by_cases q:b=a
   . clear hm;subst q;exact t.there
   . exact (cj o (t.same b q _ e))
 . clear t;subst q;exact hm.elim n2 n1
set_option tactic.hygienic true in
theorem St.freeze (x:St c C F bs S s)(hk:bs[k]?=AN a)(ho:S.heap[k]?=AN o)(hg:o≠.gone){ob:Obj}(ha:s.heap.get? a=AN ob)(ME:ob.cls≠.type "cell"):St c C (plus F a ob) bs {S with heap:=S.heap.set k .gone} s:=by
 have hm:=bO hk;have hF:=(x.wd.obj k a o hk ho).2 hg;have io:s.heap.get? a=AN ob/\ob.cls≠.none:=by refine N1 ((x.wd.obj k a o hk ho).1.cls hg) λJC e1 e2 _=>?_;obtain rfl:=bf (aM (ar ha) e1);exact ⟨ha,e2⟩
 refine Va x.locs λmm hN hl=>?_;have w:=x.wd;refine ⟨⟨λb q e=>?_,λb q e z=>aY hF _ _ (w.base b q e z),w.old.plus hF (w.old.yd io.1 io.2),by simp [w.len],w.nodup,λj b q ej eq=>?_,w.there,w.os,w.gens,λb hb o e=>(by unfold plus at e;split at e;(· cases e;exact ME);(· exact w.kept b hb o e))⟩,(af mm hN (λz v e=>by simpa using jz.mono (nb:=[]) (aY (ob:=ob) hF) (hl z v e))),x.ir,x.cU,λb hb=>⟨?_,(x.own b hb).2⟩,x.cells,x.apart,λe he=>⟨(x.frames e he).1,λL hL=>⟨?_,((x.frames e he).2 L hL).2⟩⟩,x.glob,x.blt,x.kind,x.qg,x.iu.mono (aY hF)⟩
 . unfold plus at e
   split at e
   . rename_i z;cases z;cases e;exact ha
   . exact w.sub _ _ e
 . by_cases hj:j=k
   . clear hk;subst hj;rw [iN (bA ho).1] at eq;obtain rfl:=bf eq;exact ⟨trivial,λz=>absurd Z z⟩
   . replace eq:=(bc (λe=>hj e.symm))▸eq;obtain ne:b≠a:=λe=>hj (by subst e;exact (Y1 (bA ej).1 w.nodup).mp (ej.trans hk.symm));refine ⟨by simpa using gg.mono (nb:=[]) (aY (ob:=ob) hF) (w.obj j b q ej eq).1,λz=>?_⟩;delta plus;refine aa (if_neg ne) ?_;exact (w.obj j b q ej eq).2 z
 . delta plus;refine aa (if_neg (λ(z:b=a)=>(x.own b hb).2.1 (z▸hm))) ?_;exact (x.own b hb).1
 . delta plus;refine aa (if_neg (λ(z:L=a)=>((x.frames e he).2 L hL).2 (z▸hm))) ?_;exact ((x.frames e he).2 L hL).1
set_option tactic.hygienic true in
theorem Step.freeze (hm:a∈bs)(hF:F a=Wm):Step own F bs h (plus F a ob) bs h:=
 ⟨aY hF,(af [] (by simp) (by simp)),λb o e=>(cj o e),λb o e _ _ _=>(af o e (.refl o)),λb o e n=>by
  delta plus at e
  split at e
  . rename_i q;clear hF;subst q;exact .inr hm
  . exact lj (aM (ar e) n)⟩
theorem St.after (x:St c C F bs S s){own:List Wr}(st:Step own F bs s.heap F' aK s'.heap)(hn:∀b∈own,s.heap.get? b=Wm)(y:Wd c F' aK H' s'):St c C F' aK {S with heap:=H'} s':=by
 refine Va st.ext λnb o3 VP=>?_;obtain rfl:=o3;refine Va x.locs λmm hN hl=>?_;obtain F3:∀b o,s.heap.get? b=AN o->b∉own:=λb o e q=>by exact bM (aM (ar (hn b q)) e)
 have ye:∀b o,s.heap.get? b=AN o->b∉bs->b∉bs++nb:=λb o e q z=>by
  rcases cH z with z | z
  . exact q z
  . exact bM (aM (ar (VP b z)) e)
 have Ch:∀b o,s.heap.get? b=AN o->b∉bs->F b=Wm->F' b=Wm:=λb o e q z=>by
  cases e':F' b with
  | none=>rfl
  | some o'=>
    rcases st.jS b o' e' z with y | y
    . exact bM (aM (ar y) e)
    . exact absurd y q
 have p:∀b o,s.heap.get? b=AN o->b∉bs->o.cls≠.none->∃o',s'.heap.get? b=AN o'/\jo o o':=λb o e q z=>st.eP b o e (F3 b o e) q z;obtain hL:=(x.own _ x.cU).2.1;refine Va x.ir λoL eL nL=>?_;refine Va (p _ oL eL hL nL) λFa CI sL=>?_;refine ⟨y,(af mm ?_ (λz v e=>?_)),(af Fa CI (by refine aa sL.cls ?_;exact nL)),x.cU,λb hb=>?_,λz b e=>?_,x.apart,λe he=>⟨?_,λL FX=>?_⟩,x.glob,x.blt,x.kind,x.qg,x.iu.mono st.sub⟩
 . refine FN hN λo es ep ho hd r=>?_;obtain rfl:=bf (aM (ar eL) ho);exact (fK Fa es ep CI (sL.data.trans hd) r)
 . refine jz.mono st.sub ((hl z v e).heap λy b o e1 e2=>?_);obtain ⟨h1,h2,o2,h3,h4,_⟩:=x.cells y b e1;obtain rfl:=bf (aM (ar e2) h3);refine Va (p b o e2 h1 (by refine aa h4 ?_;simp)) λo' e' s1=>?_;exact (af o' e' s1.data)
 . obtain ⟨h1,h2,o,h3⟩:=x.own b hb;exact (aV (Ch b o h3 h2 h1) (ye b o h3 h2) (st.mono _ _ h3))
 . obtain ⟨h1,h2,o,h3,h4,v,h5⟩:=x.cells z b e;refine Va (p b o h3 h1 (by refine aa h4 ?_;simp)) λo' e' s1=>?_;exact (aV (ye b o h3 h1) h2 ⟨o',e',s1.cls.trans h4,v,s1.data.trans h5⟩)
 . obtain ⟨hk,L,o,h1,h2,h3,h4⟩:=(x.frames e he).1;refine Va (p L o h2 ((x.frames e he).2 L h1).2 (by refine aa h3 ?_;simp)) λo' e' s1=>?_;exact ⟨hk,L,o',h1,e',s1.cls.trans h3,λvs=>by refine aa s1.data ?_;exact h4 vs⟩
 . obtain ⟨hk,L',o,h1,h2,h3,h4⟩:=(x.frames e he).1;obtain rfl:=bf (aM (ar FX) h1);obtain this:=(x.frames e he).2 L FX;exact ⟨Ch L o h2 this.2 this.1,ye L o h2 this.2⟩
end
noncomputable def ck:List (Nat×AV)->Nat->AV->List (Nat×AV)
 | [],y,v=>[(y,v)]
 | (z,u)::l,y,v=>match z==y with
   | true=>(z,v)::l
   | false=>(z,u)::ck l y v
theorem aQ (l:List (Nat×AV))(y:Nat)(v:AV)(z:Nat):(ck l y v).lookup z=if z=y then AN v else l.lookup z:=by
 induction l with
 | nil=>
   delta ck;by_cases h:z=y
   . subst h;simp [vj]
   . simp only [vj,if_neg h];obtain this:(z==y)=Wp:=by simpa using h
     simp only [this]
 | cons p l ih=>
   obtain ⟨k,u⟩:=p;dsimp only [ck];cases hk:k==y with
   | true=>
     obtain rj:k=y:=by simpa using hk
     refine rj▸?_;by_cases h:z=k
     . clear ih hk;clear rj;subst h;simp [vj]
     . obtain this:(z==k)=Wp:=by simpa using h
       simp only [vj,this,if_neg h]
   | false=>
     have rj:¬k=y:=by simpa using hk
     simp only [vj];cases hz:z==k with
     | true=>
       obtain VQ:z=k:=by simpa using hz
       clear hk hz;subst VQ;simp [rj]
     | false=>exact ih
noncomputable abbrev AS.put (S:AS)(i:Nat)(v:AV):AS:={S with loc:=ck S.loc i v}
theorem wh {l:List Str}(h:l.Nodup){i j:Nat}(hi:l[i]?=AN x)(hj:l[j]?=AN x):i=j:=
 (Y1 (bA hi).1 h).mp (hi.trans hj.symm)
section
variable {c:aZ}{C:Cx}{F F':G}{bs nb:List Wr}{S:AS}{s s':Gb}{a:Wr}{x:Str}{v:AV}{r:Ws}
theorem St.CJ (z:St c C F bs S s)(hi:C.vars[i]?=AN x)(hk:C.env.kindOf x=AN .local)(hv:c.V F bs v r)
 (hm:∀m,s.heap.Ns C.env.locals m->h'.Ns C.env.locals (λy=>if y=x then AN r else m y)) (hs:Nw C.env.locals s.heap h') (he:s'.heap=h') (ho:s'.os=s.os) (hg:s'.gens=s.gens)
 (fq:∃o,h'.get? C.env.locals=AN o/\o.cls≠.none/\∀s7,s.heap.get? C.env.locals=AN s7->o.cls=s7.cls/\∀vs,o.data≠.fields vs):St c C F bs (S.put i v) s':=by
 subst he;refine Va z.locs λm hN hl=>?_;have keep:∀b o,b≠C.env.locals->s.heap.get? b=AN o->s'.heap.get? b=AN o:=λb o q e=>(hs.2 b q).trans e;obtain v4:=z.own _ z.cU;have T:fC C.env.locals s s':=⟨λb q o e=>keep b o q e,Va fq λo e J=>(cj o e),ho,hg⟩
 obtain hw:=T.wd z.wd v4.1 z.ir;refine ⟨⟨hw.1,z.wd.base,hw.2.1,z.wd.len,z.wd.nodup,λk b o e1 e2=>⟨(z.wd.obj k b o e1 e2).1.at λob e=>keep b ob (λq=>v4.2.1 (q▸bO e1)) e,(z.wd.obj k b o e1 e2).2⟩,hw.2.2,ho.trans z.wd.os,hg.trans z.wd.gens,z.wd.kept⟩,
  (af _ (hm m hN) (λy u e=>?_)),?_,z.cU,λb hb=>?_,λy b e=>?_,z.apart,λe he=>⟨?_,(z.frames e he).2⟩,z.glob,z.blt,z.kind,z.qg,z.iu⟩
 . rw [show (S.put i v).loc=ck S.loc i v from rfl,aQ] at e;by_cases q:y=i
   . subst q;obtain rfl:=bf (aM (ar (if_pos Z)) e);exact (af x hi (.loc hk r (if_pos Z) hv))
   . rw [if_neg q] at e;refine Va (hl y u e) λx' qQ w=>?_;obtain q':x'≠x:=λe=>q (wh z.qg (e▸qQ) hi);refine (af x' qQ ?_);cases w with
     | loc hk r' h1 h2=>exact .loc hk r' ((if_neg q').trans h1) h2
     | cell hk w=>obtain ⟨b,o,r',h1,h2,h3⟩:=w;exact .cell hk ⟨b,o,r',h1,keep b o (z.cells x' b h1).2.1 h2,h3⟩
 . refine N1 fq λo e n J=>?_;exact (af o e n)
 . obtain ⟨h1,h2,o,h3⟩:=z.own b hb;by_cases q:b=C.env.locals
   . clear h3 hb;subst q;exact (aV h1 h2 T.there)
   . exact (nY h1 h2 o (keep b o q h3))
 . obtain ⟨h1,h2,o,h3,h4⟩:=z.cells y b e;exact (aV h1 h2 ⟨o,keep b o h2 h3,h4⟩)
 . obtain ⟨rj,L,o,h1,h2,h3,h4⟩:=(z.frames e he).1;by_cases q:L=C.env.locals
   . subst q;exact N1 fq λo' e' n hd=>⟨rj,_,o',h1,e',(hd o h2).1.trans h3,(hd o h2).2⟩
   . exact ⟨rj,L,o,h1,keep L o q h2,h3,h4⟩
theorem St.setCell (z:St c C F bs S s)(hi:C.vars[i]?=AN x)(hk:C.env.kindOf x=AN .cell)(hc:C.env.cells.lookup x=AN a)(hF:F a=Wm)(hv:c.V F bs v r)(h0:s.heap.get? a=AN s7)(tG:h'.get? a=AN {s7 with data:=.cell (AN r)})(hs:Nw a s.heap h')(he:s'.heap=h')(ho:s'.os=s.os)(hg:s'.gens=s.gens):St c C F bs (S.put i v) s':=by
 subst he;refine Va z.locs λm hN hl=>?_;have keep:∀b o,b≠a->s.heap.get? b=AN o->s'.heap.get? b=AN o:=λb o q e=>(hs.2 b q).trans e;obtain ⟨FY,Mb,oa,Mc,CK,acx,JD⟩:=z.cells x a hc;clear JD;obtain rfl:=bf (aM (ar h0) Mc);obtain hLa:=Gy Mb;have T:fC a s s':=⟨λb q o e=>keep b o q e,(cj _ tG),ho,hg⟩
 obtain hw:=T.wd z.wd hF (af s7 h0 (by refine rE CK ?_;simp));refine ⟨⟨hw.1,z.wd.base,hw.2.1,z.wd.len,z.wd.nodup,λk b o e1 e2=>⟨(z.wd.obj k b o e1 e2).1.at λob e=>keep b ob (λq=>FY (q▸bO e1)) e,(z.wd.obj k b o e1 e2).2⟩,hw.2.2,ho.trans z.wd.os,hg.trans z.wd.gens,z.wd.kept⟩,
  (af m ?_ (λy u e=>?_)),?_,z.cU,λb hb=>?_,λy b e=>?_,z.apart,λe he=>⟨?_,(z.frames e he).2⟩,z.glob,z.blt,z.kind,z.qg,z.iu⟩
 . refine VN hN λo es ep e rr=>?_;exact (lF o es ep (keep _ _ hLa e) rr)
 . rw [show (S.put i v).loc=ck S.loc i v from rfl,aQ] at e;by_cases q:y=i
   . subst q;exact (bf (aM (ar (if_pos Z)) e))▸(af x hi (.cell (.inl hk) ⟨a,_,r,hc,tG,Z,hv⟩))
   . rw [if_neg q] at e;refine Va (hl y u e) λx' qQ w=>?_;obtain q':x'≠x:=λe=>q (wh z.qg (e▸qQ) hi);exact (af x' qQ (w.heap λb o e1 e2=>(af o (keep b o (λw=>q' (z.apart x' x a (w▸e1) hc)) e2) Z)))
 . refine Va z.ir λo e n=>?_;exact (af o (keep _ _ hLa e) n)
 . obtain ⟨h1,h2,o,h3⟩:=z.own b hb;by_cases q:b=a
   . clear h3 hb;cases q;exact (aV h1 h2 T.there)
   . exact (nY h1 h2 o (keep b o q h3))
 . obtain ⟨h1,h2,o,h3,h4,h5⟩:=z.cells y b e;by_cases q:b=a
   . clear h3 e;cases q;exact (aV h1 h2 ⟨_,tG,by assumption,_,Z⟩)
   . exact (aV h1 h2 ⟨o,keep b o q h3,h4,h5⟩)
 . obtain ⟨rj,L,o,h1,h2,h3,h4⟩:=(z.frames e he).1;obtain q:L≠a:=λq=>by cases q;rw [h0] at h2;clear h4;cases h2;rw [CK] at h3;simp at h3
   exact ⟨rj,L,o,h1,keep L o q h2,h3,h4⟩
end
structure dI (c:aZ)(C:Cx)(F:G)(bs:List Wr)(a:Wr):Prop where
 F:F a=Wm
 bs:a∉bs
 own:a∉C.own
 cells:∀x,C.env.cells.lookup x≠AN a
 frames:∀e∈C.frames,e.frame≠AN a
noncomputable def gj (x:String):String:=if x="IndexError+" then "IndexError" else if x="StopIteration+" then "StopIteration" else x
structure n6 (F:G)(cls:String)(vs:Array Ws):Prop where
 no:gj cls=cls->vs[2]?=AN .none
 yes:gj cls≠cls->∃g,vs[2]?=AN (.ref g)/\CH F g
theorem n6.mono {F F':G}(h:∀b o,F b=AN o->F' b=AN o)(x:n6 F cls vs):n6 F' cls vs:=⟨x.no,λq=>by
 obtain ⟨g,h1,h2⟩:=x.yes q;exact ⟨g,h1,h2.mono h⟩⟩
theorem n6.new (h:gj cls=cls)(h2:vs[2]?=AN .none):n6 F cls vs:=⟨λJ=>h2,λq=>absurd h q⟩
theorem n6.VR (x:n6 F cls vs):n6 F cls (vs.setIfInBounds 1 w):=by
 have e:(vs.setIfInBounds 1 w)[2]?=vs[2]?:=Array.getElem?_setIfInBounds_ne (by decide);exact ⟨λq=>e.trans (x.no q),λq=>by
  obtain ⟨g,h1,h2⟩:=x.yes q;exact ⟨g,e.trans h1,h2⟩⟩
theorem n6.o (x:n6 F cls vs):AJ F vs:=by
 by_cases q:gj cls=cls
 . exact .inl (x.no q)
 . exact .inr (x.yes q)
inductive MF (c:aZ)(C:Cx)(F:G)(bs:List Wr)(h₀ h:Xi)(e:Wr)(vs:Array Ws):Prop
 | mk (tb:Wr) (mo:Obj) (pc:Array Ws) (L:Wr) (k1:vs[1]?=AN (.ref tb)) (k2:h.get? tb=AN mo) (k3:mo.cls=.type "traceback") (k4:mo.data=.fields pc) (k5:3<pc.size) (k6:C.env.frame=AN L) (k7:pc[3]?=AN (A1 L)) (k8:tb≠e) (k9:h₀.get? tb=Wm) (pp:dI c C F bs tb)
inductive acz (c:aZ)(C:Cx)(F:G)(bs:List Wr)(h₀ h:Xi)(x:Ws)(cls:String):Prop
 | mk (e:Wr) (ob:Obj) (vs:Array Ws) (h1:x=.ref e) (h2:h₀.get? e=Wm) (h3:h.get? e=AN ob) (h4:ob.cls=.type (gj cls)) (h5:ob.data=.fields vs) (h6:vs.size=6/\n6 F cls vs) (h7:dI c C F bs e) (h8:vs[1]?=AN .none\/MF c C F bs h₀ h e vs)
structure Cf (c:aZ)(C:Cx)(F:G)(bs:List Wr)(h₀ h:Xi)(x:Ws)(cls:String):Prop where
 at_:acz c C F bs h₀ h x cls
 CL:gj cls≠"frame"
theorem Cf.back (z:Cf c C F bs h₁ h x cls)(m:∀b o,h₀.get? b=AN o->∃o',h₁.get? b=AN o'):Cf c C F bs h₀ h x cls:=by
 have bk:∀b,h₁.get? b=Wm->h₀.get? b=Wm:=λb h2=>by
  cases q:h₀.get? b with
  | none=>rfl
  | some o=>refine Ml (m b o q) λo' e'=>?_;exact bM (aM (ar h2) e')
 obtain ⟨e,ob,vs,h1,h2,h3,h4,h5,h6,h7,h8⟩:=z.at_;refine ⟨⟨e,ob,vs,h1,bk e h2,h3,h4,h5,h6,h7,h8.imp id ?_⟩,z.CL⟩;intro o1;obtain ⟨tb,mo,pc,L,k1,k2,k3,k4,k5,k6,k7,k8,k9,pp⟩:=o1;exact ⟨tb,mo,pc,L,k1,k2,k3,k4,k5,k6,k7,k8,bk tb k9,pp⟩
inductive WV (c:aZ)(C:Cx){α β:Type}(R:G->List Wr->β->α->Prop)(F:G)(bs:List Wr)(h₀:Xi)(K:β->AS->Prop)(r:α)(s':Gb):Prop
 | mk (F':G) (aK:List Wr) (v:β) (S':AS) (st:Step C.own F bs h₀ F' aK s'.heap) (z:St c C F' aK S' s') (hr:R F' aK v r) (hk:K v S')
theorem WV.el {R:G->List Wr->β->α->Prop}{K:β->AS->Prop}{r:α}{Q0:Prop}(acA:WV c C R F bs h₀ K r s')(k:∀(F':G)(aK:List Wr)(v:β)(S':AS)(st:Step C.own F bs h₀ F' aK s'.heap)(z:St c C F' aK S' s')(hr:R F' aK v r)(hk:K v S'),Q0):Q0:=acA.casesOn k
inductive WX (c:aZ)(C:Cx)(F:G)(bs:List Wr)(h₀:Xi)(X:String->AS->Prop)(x:Ws)(s':Gb):Prop
 | mk (F':G) (aK:List Wr) (cls:String) (S':AS) (st:Step C.own F bs h₀ F' aK s'.heap) (z:St c C F' aK S' s') (hx:Cf c C F' aK h₀ s'.heap x cls) (hk:X cls S')
def WP (c:aZ)(C:Cx)(A:M5){α β:Type}(R:G->List Wr->β->α->Prop)(t:Sem α)(F:G)(bs:List Wr)(s:Gb)(K:β->AS->Prop)(X:String->AS->Prop):Prop:=
 Dk (model c.prog c.w) A t
  (WV c C R F bs s.heap K)
  (WX c C F bs s.heap X) s
section
variable {c:aZ}{C:Cx}{A:M5}{α β γ δ:Type}{R:G->List Wr->β->α->Prop}{R':G->List Wr->δ->γ->Prop}{F:G}{bs:List Wr}{S:AS}{s:Gb}{X X':String->AS->Prop}
theorem WP.pure (z:St c C F bs S s)(hr:R F bs v a)(hk:K v S):WP c C A R (Pure.pure a) F bs s K X:=
 aX ⟨F,bs,v,S,.refl ..,z,hr,hk⟩
theorem WP.bind (h:WP c C A R t F bs s K₁ X)(k:∀F₁ bs₁ ai ak v r,Step C.own F bs s.heap F₁ bs₁ ak.heap->St c C F₁ bs₁ ai ak->R F₁ bs₁ v r->K₁ v ai->WP c C A R' (f r) F₁ bs₁ ak K X):WP c C A R' (t >>= f) F bs s K X:=by
 refine ag (aS h (λr ak acB=>acB.casesOn λF₁ bs₁ v ai st z hr hk=>aS (k F₁ bs₁ ai ak v r st z hr hk) (λr' am acD=>acD.casesOn λaP aB v' aF qy z' JE rj=>?_) λx am acE=>acE.casesOn λaP aB cls aF qy z' hx rj=>?_) λJ J e=>e)
 . exact ⟨aP,aB,v',aF,st.trans qy,z',JE,rj⟩
 . exact ⟨aP,aB,cls,aF,st.trans qy,z',hx.back st.mono,rj⟩
theorem WP.mono (h:WP c C A R t F bs s K X)(hk:∀v S,K v S->K' v S)(hx:∀x S,X x S->X' x S):WP c C A R t F bs s K' X':=
 aS h (λr ak acF=>acF.casesOn λF₁ bs₁ v ai st z hr q=>⟨F₁,bs₁,v,ai,st,z,hr,hk _ _ q⟩) λx ak acG=>acG.casesOn λF₁ bs₁ cls ai st z hr q=>⟨F₁,bs₁,cls,ai,st,z,hr,hx _ _ q⟩
theorem WP.re {MG:G->List Wr->δ->α->Prop}(h:WP c C A R t F bs s K X)(hk:∀F bs v r S,R F bs v r->K v S->∃v',MG F bs v' r/\K' v' S):WP c C A MG t F bs s K' X:=
 aS h (λr ak acH=>acH.casesOn λF₁ bs₁ v ai st z hr q=>Va (hk _ _ _ _ _ hr q) λv' a b=>⟨F₁,bs₁,v',ai,st,z,a,b⟩) λJ J e=>e
theorem WP.holding (h:WP c C A R t F bs s K X):WP c C A R (PySem.holding vs t) F bs s K X:=pa h
theorem WP.standAt (h:WP c C A R t F bs s K X):WP c C A R (PySem.standAt p >>= λJ=>t) F bs s K X:=ag (yr h)
theorem WP.rule (h:WP c C A R t F bs s K X):WP c C A R (PySem.rule p >>= λJ=>t) F bs s K X:=ag (XD h)
theorem WP.kept (z:St c C F bs S s)(h:∀(Q:α->Gb->Prop) (E:Ws->Gb->Prop),(∀r s',a7 c F bs s s'->(∃v,R F bs v r/\K v S)->Q r s')->Dk (model c.prog c.w) A t Q E s):WP c C A R t F bs s K X:=
 h _ _ λr s' m acI=>Va acI λv hr hk=>⟨F,bs,v,S,.keep m,z.keep m,hr,hk⟩
end
theorem a7.refl (c:aZ)(F:G)(bs:List Wr)(s:Gb):a7 c F bs s s:=⟨λJ J e=>e,Z,Z⟩
theorem a7.toks (c:aZ)(F:G)(bs:List Wr)(s:Gb)(t:Nat):a7 c F bs s {s with toks:=t}:=⟨λJ J e=>e,Z,Z⟩
end Mine.Internal
namespace Mine.Internal
open PySem PyProof.Rows
structure Base (c:aZ)(mg mb:Str->Option Ws):Prop where
 g:c.h₀.Ns te mg
 b:c.h₀.Ns Xe mb
 lim:c.h₀.NoLimit
 JF:∃o,c.h₀.get? wW=AN o
def Ev (c:aZ)(C:Cx)(e:Nn)(S:AS)(K:AV->AS->Prop)(X:String->AS->Prop):Prop:=
 ∀A F bs s,lp C A->St c C F bs S s->WP c C A c.V (eval e C.env) F bs s K X
def V0 (c:aZ)(C:Cx)(t:Ws->Sem Ws)(a:AV)(S:AS)(K:AV->AS->Prop)(X:String->AS->Prop):Prop:=
 ∀A F bs s r,lp C A->St c C F bs S s->c.V F bs a r->WP c C A c.V (t r) F bs s K X
def iA (c:aZ)(C:Cx)(t:Ws->Ws->Sem Ws)(a b:AV)(S:AS)(K:AV->AS->Prop)(X:String->AS->Prop):Prop:=
 ∀A F bs s ra rb,lp C A->St c C F bs S s->c.V F bs a ra->c.V F bs b rb->WP c C A c.V (t ra rb) F bs s K X
def FZ (c:aZ)(C:Cx)(e:Nn)(S:AS)(K:Bool->AS->Prop)(X:String->AS->Prop):Prop:=
 ∀A F bs s,lp C A->St c C F bs S s->WP c C A (λJ J b r=>r=b) (O9 e C.env (eval e C.env)) F bs s K X
def Tr (c:aZ)(C:Cx)(a:AV)(S:AS)(K:Bool->AS->Prop)(X:String->AS->Prop):Prop:=
 ∀A F bs s r,lp C A->St c C F bs S s->c.V F bs a r->WP c C A (λJ J b r=>r=b) (truthy r) F bs s K X
section
variable {c:aZ}{C:Cx}{S:AS}{K:AV->AS->Prop}{X:String->AS->Prop}{mg mb:Str->Option Ws}
theorem St.AK (z:St c C F bs S s)(h:∃o,c.h₀.get? a=AN o/\o.cls≠.none):∀o,c.h₀.get? a=AN o->s.heap.get? a=AN o:=λo e=>by refine Va h λo' e' n=>?_;obtain rfl:=bf (aM (ar e) e');exact z.wd.sub _ _ (z.wd.base _ _ e (.inl n))
theorem Wd.ns (z:Wd c F bs H s)(h:c.h₀.Ns a m)(eQ:a≠El):s.heap.Ns a m:=by
 refine FN h λo es ep ho hd r=>?_;rcases z.old.old _ _ ho with e | ⟨_,_,vs,V9,hv,_⟩ | ⟨e,_⟩
 . exact (fK o es ep e hd r)
 . replace hv:=hd▸hv;cases hv
 . exact absurd e eQ
theorem St.UZ (z:St c C F bs S s)(B:Base c mg mb):s.heap.Ns te mg:=by exact z.wd.ns B.g (by decide)
theorem St.nsB (z:St c C F bs S s)(B:Base c mg mb):s.heap.Ns Xe mb:=by exact z.wd.ns B.b (by decide)
theorem Wd.CM (z:Wd c F bs H s)(B:Base c mg mb):s.heap.NoLimit:=by refine Va B.lim λmc V1 q=>?_;refine VN V1 λo es ep ho r=>?_;exact (af mc (lF o es ep (z.sub _ _ (z.base _ _ ho (.inr Z))) r) q)
theorem St.load (z:St c C F bs S s)(hi:C.vars[i]?=AN x)(hv:S.loc.lookup i=AN v)(hn:(x==("__classdict__":Str))=Wp)(q:∀r,c.V F bs v r->Q r s):Dk (model c.prog c.w) A (loadName C.env x) Q E s:=by
 refine Va z.locs λm hN hl=>Va (hl i v hv) λx' qQ w=>?_;obtain rfl:=bf (hi.symm.trans qQ);cases w with
 | loc hk r h1 h2=>exact wpAny_loadName_local z.kind hk hN h1 (q _ h2)
 | cell hk w =>obtain ⟨a,o,r,h1,h2,h3,h4⟩:=w;exact hk.elim (λhk=>wpAny_loadName_cell z.kind hk h1 (af o h2 h3) (q _ h4)) λhk=>wpAny_loadName_free z.kind hk h1 (af o h2 h3) (q _ h4) hn
theorem ab (i:Nat){x:Str}{pos:Pos}{v:AV}(hi:C.vars[i]?=AN x)(hv:S.loc.lookup i=AN v)(k:K v S)(hd:(x==("__debug__":Str))=Wp:=by decide +kernel)(hn:(x==("__classdict__":Str))=Wp:=by decide +kernel):Ev c C (.Name x pos) S K X:=λA F bs s hA z=>
 WP.kept z λQ E q=>wpAny_Name (z.load hi hv hn λr h=>q _ _ (.refl ..) (af v h k)) hd
theorem iQ (B:Base c mg mb){x:Str}{pos:Pos}{v:Ws}(hk:C.env.kindOf x=AN .globalImplicit)(hv:mg x=AN v)(k:K (.raw v) S)(hd:(x==("__debug__":Str))=Wp:=by decide +kernel):Ev c C (.Name x pos) S K X:=by intro A F bs s hA z;refine WP.kept z λQ E q=>agE z.kind hk (aje (by refine rE z.glob ?_;exact z.UZ B) hv (q _ _ (.refl ..) (af _ (.raw v) k))) hd
theorem nf (B:Base c mg mb){x:Str}{pos:Pos}{i:Int}{t:Tok}(hk:C.env.kindOf x=AN .globalImplicit)(hv:mg x=AN (.int i t))(k:K (.int i) S)(hd:(x==("__debug__":Str))=Wp:=by decide +kernel):Ev c C (.Name x pos) S K X:=by intro A F bs s hA z;refine WP.kept z λQ E q=>agE z.kind hk (aje (by refine rE z.glob ?_;exact z.UZ B) hv (q _ _ (.refl ..) (af _ (.int i t) k))) hd
theorem bY (B:Base c mg mb){x:Str}{pos:Pos}{v:Ws}(hk:C.env.kindOf x=AN .globalImplicit)(hg:mg x=Wm)(hv:mb x=AN v)(k:K (.raw v) S)(hd:(x==("__debug__":Str))=Wp:=by decide +kernel):Ev c C (.Name x pos) S K X:=by intro A F bs s hA z;refine WP.kept z λQ E q=>agE z.kind hk (Calls.loadGlobal_builtin (by refine aa z.glob ?_;exact z.UZ B) hg (by refine aa z.blt ?_;exact z.nsB B) hv (q _ _ (.refl ..) (af _ (.raw v) k))) hd
theorem aE (k:K (.int i) S):Ev c C (.Constant (.int i) kd pos) S K X:=λA F bs s hA z=>
 WP.kept z λQ E q=>wpAny_Constant_int (q _ _ (.toks ..) (af _ (.int i _) k))
theorem dw (k:K (.str x) S):Ev c C (.Constant (.str x) kd pos) S K X:=λA F bs s hA z=>
 WP.kept z λQ E q=>wpAny_Constant_str (q _ _ (.toks ..) (af _ (.str x _) k))
theorem zC (k:K (.bool b) S):Ev c C (.Constant (.bool b) kd pos) S K X:=λA F bs s hA z=>
 WP.kept z λQ E q=>wpAny_Constant_bool (q _ _ (.refl ..) (af _ (.bool b) k))
theorem fM (k:K .none S):Ev c C (.Constant .none kd pos) S K X:=λA F bs s hA z=>
 WP.kept z λQ E q=>wpAny_Constant_none (q _ _ (.refl ..) (af _ (.none) k))
abbrev acJ (c:aZ)(C:Cx)(t:Ws->Sem Ws)(K:AV->AS->Prop)(X:String->AS->Prop):AV->AS->Prop:=λa S=>V0 c C t a S K X
abbrev MH (c:aZ)(C:Cx)(t:Ws->Ws->Sem Ws)(a:AV)(K:AV->AS->Prop)(X:String->AS->Prop):AV->AS->Prop:=λb S=>iA c C t a b S K X
abbrev JG (c:aZ)(C:Cx)(r:Nn)(t:Ws->Ws->Sem Ws)(K:AV->AS->Prop)(X:String->AS->Prop):AV->AS->Prop:=λa S=>Ev c C r S (MH c C t a K X) X
abbrev trK (c:aZ)(C:Cx)(K:Bool->AS->Prop)(X:String->AS->Prop):AV->AS->Prop:=λv S=>Tr c C v S K X
theorem bF (h:Ev c C l S (JG c C r (Y2 op) K X) X):Ev c C (.BinOp l op r pos) S K X:=by intro A F bs s hA z;exact WP.bind (h A F bs s hA z) λF₁ bs₁ ai ak a ra an aC ha tj=>WP.bind (WP.holding (tj A F₁ bs₁ ak hA aC)) λaP aB aF am b rb av aI hb S4=>WP.standAt (XK (S4 A aP aB am ra rb hA aI (av.V ha) hb))
theorem CN {l r:Nn}{op:CmpOp}{pos:Pos}(h:Ev c C l S (JG c C r (Xp op) K X) X)(hm:amB op r=Wp:=by rfl):Ev c C (.Compare l [op] [r] pos) S K X:=by
 intro A F bs s hA z;show WP c C A c.V (do compareChain pos (<-eval l C.env) [op] (vl [op] [r] (Pb [r] C.env))) F bs s K X;obtain e:vl [op] [r] (Pb [r] C.env)=[eval r C.env]:=by show [amh op r (eval r C.env)]=_;exact aa (ajf hm) Z
 exact rE e (WP.bind (h A F bs s hA z) λF₁ bs₁ ai ak a ra an aC ha tj=>WP.bind (WP.holding (tj A F₁ bs₁ ak hA aC)) λaP aB aF am b rb av aI hb S4=>WP.standAt (XK (S4 A aP aB am ra rb hA aI (av.V ha) hb)))
theorem bp {l r:Nn}{op:CmpOp}{pos:Pos}{K:Bool->AS->Prop}(h:Ev c C l S (JG c C r (Xp op) (trK c C K X) X) X)(hm:amB op r=Wp:=by rfl):FZ c C (.Compare l [op] [r] pos) S K X:=by
 intro A F bs s hA z;show WP c C A _ (do testChain pos (<-eval l C.env) [op] (vl [op] [r] (Pb [r] C.env))) F bs s K X;obtain e:vl [op] [r] (Pb [r] C.env)=[eval r C.env]:=by show [amh op r (eval r C.env)]=_;exact aa (ajf hm) Z
 exact rE e (WP.bind (h A F bs s hA z) λF₁ bs₁ ai ak a ra an aC ha tj=>WP.bind (WP.holding (tj A F₁ bs₁ ak hA aC)) λaP aB aF am b rb av aI hb S4=>WP.standAt (WP.bind (XK (S4 A aP aB am ra rb hA aI (av.V ha) hb)) λbv aT bd aO v rv aL a8 hv bR=>WP.holding (bR A bv aT aO rv hA a8 hv)))
theorem lK (h:Ev c C x S (acJ c C (unaryOp op) K X) X):Ev c C (.UnaryOp op x pos) S K X:=by intro A F bs s hA z;exact WP.bind (h A F bs s hA z) λF₁ bs₁ ai ak a ra an aC ha tj=>WP.standAt (WP.holding (tj A F₁ bs₁ ak ra hA aC ha))
theorem ba {K:Bool->AS->Prop}(k:K b S):Tr c C (.bool b) S K X:=λA F bs s r hA z hv=>by obtain ⟨_,rfl⟩:=hv.inv;exact WP.kept z λQ E q=>wpAny_truthy_bool (q _ _ (.refl ..) (af b Z k))
theorem pC (k:K (.int (a+b)) S):iA c C (Y2 .Add) (.int a) (.int b) S K X:=λA F bs s ra rb hA z ha hb=>by refine Ml ha.inv λJ V3=>?_;refine rE V3 ?_;refine Ml hb.inv λJ V4=>?_;refine rE V4 ?_;exact WP.kept z λQ E q=>ang (q _ _ (.toks ..) (af _ (.int _ _) k))
theorem lL (k:K (.int (a-b)) S):iA c C (Y2 .Sub) (.int a) (.int b) S K X:=λA F bs s ra rb hA z ha hb=>by refine Ml ha.inv λJ V5=>?_;refine rE V5 ?_;refine Ml hb.inv λJ Md=>?_;refine rE Md ?_;exact WP.kept z λQ E q=>anh (q _ _ (.toks ..) (af _ (.int _ _) k))
theorem CO (hm:IntMulOk a b)(k:K (.int (a*b)) S):iA c C (Y2 .Mult) (.int a) (.int b) S K X:=λA F bs s ra rb hA z ha hb=>by refine Ml ha.inv λJ F1=>?_;refine rE F1 ?_;refine Ml hb.inv λJ BS=>?_;refine rE BS ?_;exact WP.kept z λQ E q=>ani (q _ _ (.toks ..) (af _ (.int _ _) k)) hm
theorem ng (hb:b≠0)(k:K (.int (a.fmod b)) S):iA c C (Y2 .Mod) (.int a) (.int b) S K X:=λA F bs s ra rb hA z ha mZ=>by refine Ml ha.inv λJ Fk=>?_;refine rE Fk ?_;refine Ml mZ.inv λJ Ib=>?_;refine rE Ib ?_;exact WP.kept z λQ E q=>anj hb (q _ _ (.toks ..) (af _ (.int _ _) k))
theorem pD (hb:b≠0)(hp:ah1 a b=Wp)(k:K (.int (a.fdiv b)) S):iA c C (Y2 .FloorDiv) (.int a) (.int b) S K X:=λA F bs s ra rb hA z ha mZ=>by refine Ml ha.inv λJ Ic=>?_;refine rE Ic ?_;refine Ml mZ.inv λJ CP=>?_;refine rE CP ?_;exact WP.kept z λQ E q=>amA hb (q _ _ (.toks ..) (af _ (.int _ _) k)) (.inl hp)
theorem CQ (hn:0<=n)(U0:n<=1000000)(ha:a.natAbs<2 ^ 64)(k:K (.int (a ^ n.toNat)) S):iA c C (Y2 .Pow) (.int a) (.int n) S K X:=λA F bs s ra rb hA z V6 mZ=>by refine Ml V6.inv λJ BT=>?_;refine rE BT ?_;refine Ml mZ.inv λJ BU=>?_;refine rE BU ?_;exact WP.kept z λQ E q=>ami hn U0 ha (q _ _ (.toks ..) (af _ (.int _ _) k))
theorem i6 (k:K (.int (-a)) S):V0 c C (unaryOp .USub) (.int a) S K X:=λA F bs s ra hA z ha=>by refine Ml ha.inv λJ BV=>?_;refine rE BV ?_;exact WP.kept z λQ E q=>ank (q _ _ (.toks ..) (af _ (.int _ _) k))
theorem iR (hsz:x.length+y.length<=Wo)(k:K (.str (x++y)) S):iA c C (Y2 .Add) (.str x) (.str y) S K X:=λA F bs s ra rb hA z ha hb=>by refine Ml ha.inv λJ BW=>?_;refine rE BW ?_;refine Ml hb.inv λJ BX=>?_;refine rE BX ?_;exact WP.kept z λQ E q=>anl (λt' tk=>q _ _ (.toks ..) (af _ (.str _ _) k)) hsz
theorem pE (k:K (.bool (a==b)) S):iA c C (Xp .Eq) (.int a) (.int b) S K X:=λA F bs s ra rb hA z ha hb=>by refine Ml ha.inv λJ JH=>?_;refine rE JH ?_;refine Ml hb.inv λJ JI=>?_;refine rE JI ?_;exact WP.kept z λQ E q=>anu (q _ _ (.refl ..) (af _ (.bool _) k))
theorem acK (k:K (.bool (decide (a<b))) S):iA c C (Xp .Lt) (.int a) (.int b) S K X:=λA F bs s ra rb hA z ha hb=>by refine Ml ha.inv λJ yf=>?_;refine rE yf ?_;refine Ml hb.inv λJ tH=>?_;refine rE tH ?_;exact WP.kept z λQ E q=>anv (q _ _ (.refl ..) (af _ (.bool _) k))
theorem nh (k:K (.bool (a==b)) S):iA c C (Xp .Eq) (.str a) (.str b) S K X:=λA F bs s ra rb hA z ha hb=>by refine Ml ha.inv λJ o6=>?_;refine rE o6 ?_;refine Ml hb.inv λJ o5=>?_;refine rE o5 ?_;exact WP.kept z λQ E q=>anw (q _ _ (.refl ..) (af _ (.bool _) k))
theorem yg (k:K (.bool (a != b)) S):iA c C (Xp .NotEq) (.str a) (.str b) S K X:=λA F bs s ra rb hA z ha hb=>by refine Ml ha.inv λJ o4=>?_;refine rE o4 ?_;refine Ml hb.inv λJ o3=>?_;refine rE o3 ?_;exact WP.kept z λQ E q=>anx (q _ _ (.refl ..) (af _ (.bool _) k))
theorem acO (k:K (.bool (a.cps.toList<b.cps.toList)) S):iA c C (Xp .Lt) (.str a) (.str b) S K X:=λA F bs s ra rb hA z ha hb=>by refine Ml ha.inv λJ o2=>?_;refine rE o2 ?_;refine Ml hb.inv λJ o1=>?_;refine rE o1 ?_;exact WP.kept z λQ E q=>anz (q _ _ (.refl ..) (af _ (.bool _) k))
end
theorem acP (hn:s.heap.Ns a m)(ho:s.heap.get? a=AN o)
 (hQ:∀h' o',h'.Ns a (λx=>if x=name then AN v else m x)->Nw a s.heap h'->h'.get? a=AN o'->o'.cls=o.cls->(∀vs,o'.data≠.fields vs)->Q () {s with heap:=h',toks:=s.toks+1}) :
 Dk M A (nsSet a name v) Q E s:=by
 refine Cv hn λacQ es ep Id hd hk hm=>?_;obtain rfl:=bf (aM (ar ho) Id);refine ag (ag (alv (aX (ag (ak6 (ag (aj6 ho (rE hd ?_))))))));have s8:es.any (·.refKey)=Wp:=by refine bb Array.any_eq_false' ?_;intro e he;refine CB (hk e he) λn t h=>?_;simp [alw,h]
 have hf:akr name es=Wp:=by refine aa aju ?_;unfold ais;simp [s8]
 dsimp only;refine rE hf (ajg ho ?_);obtain ⟨oc,od,dt,sl⟩:=o;clear Id;subst hd;have fin:∀CR U1,YX name (if name.cps.isEmpty then 0 else Er (M.w.params.strHash name.cps)) (.str name s.toks) v ⟨oc,od,.dict es ep,sl⟩=⟨oc,od,.dict CR U1,sl⟩->StrKeys CR->
  (∀x,nsFind CR x=if x=name then AN v else m x)->
  Q () {s with heap:=s.heap.update a (YX name (if name.cps.isEmpty then 0 else Er (M.w.params.strHash name.cps)) (.str name s.toks) v),toks:=s.toks+1}:=by
  intro CR U1 e k f;obtain g:(s.heap.update a (YX name (if name.cps.isEmpty then 0 else Er (M.w.params.strHash name.cps)) (.str name s.toks) v)).get? a=AN ⟨oc,od,.dict CR U1,sl⟩:=by
   exact e▸(lD _ ho (by refine aa e ?_;rfl))
  exact hQ _ _ (ip _ CR U1 g Z k f) (AU ..) g Z (λvs q=>by cases q)
 cases hi:es.findIdx? (·.key.isStr name) with
 | some i =>refine fin _ _ (by simp only [xa,Ox,hi];rfl) (hk.modify _ _) λx=>?_;rw [<-hm];exact findBy_modify (λn v=>v.isStr n) Value.isStr_inj es name x v i hi
 | none=>
   refine fin _ _ (by simp only [xa,Ox,hi];rfl) (hk.push _ _ _ _) λx=>?_;rw [<-hm];refine findBy_push (λn v=>v.isStr n) es name x _ _ v (λy=>?_) hi;show (name==y)=decide (y=name);by_cases h:y=name
   . cases h;simp
   . obtain this:¬name=y:=λe=>h e.symm;simp [h,this]
section
variable {c:aZ}{C:Cx}{A:M5}{F:G}{bs:List Wr}{S:AS}{s:Gb}{X:String->AS->Prop}{x:Str}{v:AV}{r:Ws}
def bI (C:Cx)(_:G)(x:Str):Prop:=C.env.kindOf x=AN .local\/(C.env.kindOf x=AN .cell/\∃a,C.env.cells.lookup x=AN a/\a∈C.own)
theorem rm (z:St c C F bs S s)(hi:C.vars[i]?=AN x)(hx:bI C (λJ=>Wm) x)(hv:c.V F bs v r){K:Unit->AS->Prop}(k:K () (S.put i v)):WP c C A (λJ J J J=>True) (Bd C.env x r) F bs s K X:=by
 (refine bz hx (λhk=>?_) (λacR=>?_);rotate_left;obtain ⟨hk,a,hc,ho⟩:=acR;rotate_right)
 . refine Va z.locs λm hN hl=>Va z.ir λo hoL fq=>?_;obtain hp:(C.env.scope.kind==.class||(C.env.scope.kind==.module&&C.env.locals != C.env.globals))=Wp:=by refine rE z.kind ?_;rfl
   refine aa (storeName_local hk hp _) (acP hN hoL λh' o' hN' hs vT F4 sp=>?_);obtain T:fC C.env.locals s {s with heap:=h',toks:=s.toks+1}:=⟨λb q o e=>(hs.2 b q).trans e,(cj o' vT),Z,Z⟩
   refine ⟨F,bs,(),S.put i v,Step.upd T (.inr z.cU),(z.CJ hi hk hv (λm' hm'=>?_) hs Z Z Z (aU o' vT (by refine rE F4 ?_;exact fq) (λs7 e=>⟨by lia,sp⟩))),trivial,k⟩;refine Cv hm' λacQ aaT aaU ul acS tj jA=>Cv hN λCS Ie aaV JL JM S4 AC=>?_;obtain rfl:=bf (aM (ar ul) JL);replace JM:=acS▸JM;clear S4;cases JM;exact Cv hN' λCT acT acU pr acV bR CU=>(ip CT acT acU pr acV bR (λy=>by refine aa (CU _) ?_;show (if y=x then AN r else m y)=if y=x then AN r else m' y;exact az (AC y) (aa (jA y) Z)))
 . obtain ⟨FY,Mb,oa,Mc,CK,acx,JD⟩:=z.cells x a hc;obtain hF:=(z.own a ho).1;delta WP Bd;refine aa hk (aa z.kind (ag (wpAny_cellOf hc (ag (OR Mc ?_)))));simp only [JD];refine ak7 Mc ?_;obtain g:(s.heap.update a λo=>{o with data:=.cell (AN r)}).get? a=AN {oa with data:=.cell (AN r)}:=lD _ Mc Z;obtain hs:=AU ..;obtain T:fC a s {s with heap:=s.heap.update a λo=>{o with data:=.cell (AN r)}}:=⟨λb q o e=>(hs.2 b q).trans e,(cj _ g),Z,Z⟩
   exact ⟨F,bs,(),S.put i v,Step.upd T (.inr ho),z.setCell hi hk hc hF hv Mc g hs Z Z Z,trivial,k⟩
end
inductive vU where
 | next | brk | cont
 | ret (v:AV)
noncomputable def vU.ctorIdx (x:vU):Nat:=vU.casesOn x 0 1 2 (λJ=>3)
abbrev cR:=String->AS->Prop
abbrev tI:=List AV->AS->Prop
abbrev cu:=AV->AS->Prop
abbrev gX:=vU->AS->Prop
abbrev CV:=Nat->AS->Prop
abbrev dp:=AS->Prop
abbrev pF:=Ws->Gb->Prop
abbrev nj:=Gb->Prop
abbrev eI:=Str->Option Ws
abbrev gh:=List (Str×AV)
abbrev d7:=List (Nat×AV)
abbrev F5:=List (Str×Ws)
abbrev wi:=List (Option AV)
abbrev bD:=List Str
abbrev aJ:=List Wr
abbrev bZ:=List AV
abbrev aR:=List AO
abbrev iE:=List Ws
abbrev au:=List Nat
abbrev cJ:=List Nn
abbrev fW:=List Pc
abbrev rn:=Option Ws
def n7 (c:aZ)(F:G)(bs:aJ):vU->Flow->Prop
 | .next,f=>f=.next
 | .brk,f=>f=.brk
 | .cont,f=>f=.cont
 | .ret v,f=>∃r,f=.ret r/\c.V F bs v r
def Ex (c:aZ)(C:Cx)(ss:fW)(S:AS)(K:gX)(X:cR):Prop:=
 ∀A F bs s,lp C A->St c C F bs S s->WP c C A (n7 c) (execs ss C.env) F bs s K X
def lB (c:aZ)(C:Cx)(st:Pc)(S:AS)(K:gX)(X:cR):Prop:=
 ∀A F bs s,lp C A->St c C F bs S s->WP c C A (n7 c) (exec st C.env) F bs s K X
abbrev U2 (c:aZ)(C:Cx)(ss:fW)(K:gX)(X:cR):dp:=λS=>Ex c C ss S K X
def fy:cR:=λJ J=>False
inductive JN (c:aZ)(F:G)(bs:aJ)(h₀:Xi)(K:AV->aR->Prop)(r:Except Ws Flow)(s':Gb):Prop
 | mk (F':G) (aK:aJ) (v:AV) (H':aR) (rv:Ws) (own:aJ) (e:r=.ok (.ret rv)) (ho:∀b∈own,h₀.get? b=Wm) (st:Step own F bs h₀ F' aK s'.heap) (wd:Wd c F' aK H' s') (hv:c.V F' aK v rv) (hk:K v H')
def bQ (c:aZ)(n:Nat)(fv:Ws)(args:bZ)(H:aR)(K:AV->aR->Prop):Prop:=
 ∀A F bs s rs fr,A.handled=Wm->A.depth+n<Be->A.units+20*n<O7->A.frames=AN fr->(∀e∈fr,ib s.heap e/\∀L,e.frame=AN L->F L=Wm/\L∉bs)->
  Wd c F bs H s->c.Vs F bs args rs->
  G4 (model c.prog c.w) A (.call fv ⟨rs,[]⟩) (JN c F bs s.heap K) s
abbrev F6 (K:AV->aR->Prop):gX:=λfl S=>match fl with
 | .next=>K .none S.heap
 | .ret v=>K v S.heap
 | _=>False
def n9 (c:aZ)(fd:w6)(args:bZ)(binds:gh):Prop:=
 ∀A F bs H s rs (E:pF) (Q:F5->nj),Wd c F bs H s->c.Vs F bs args rs->
  (∀F' s' rb,Step [] F bs s.heap F' bs s'.heap->Wd c F' bs H s'->c.SV F' bs binds rb->Q rb s')->Dk (model c.prog c.w) A (OY fd ⟨rs,[]⟩) Q E s
section
variable {c:aZ}{F:G}{bs:aJ}
theorem bE.zip {ns:bD}(h:c.Vs F bs xs vs):c.SV F bs (ns.zip xs) (ns.zip vs):=by
 induction ns generalizing xs vs with
 | nil=>exact .nil
 | cons n ns ih=>
   cases xs with
   | nil=>refine rE h.inv ?_;exact .nil
   | cons x xs=>refine dr h.inv λJ J acW h t=>?_;refine rE acW ?_;exact .cons h (ih t)
noncomputable def V2 {α:Type}:Nat->(List α->Prop)->Prop
 | 0,P=>P []
 | n+1,P=>∀a,V2 n λl=>P (a::l)
theorem V2.all:∀{P:List α->Prop},V2 n P->∀l,l.length=n->P l:=by
 induction n with
 | zero=>intro P h l e;simp only [A2.mp e];exact h
 | succ n ih=>
   intro P h l e;cases l with
   | nil=>cases e
   | cons a l=>exact ih (h a) l (Zi e)
noncomputable def fdOf (fd:w6)(ps:OP)(dV:Ws):w6:={fd with params:=ps,defaults:=dV,kwdefaults:=.none}
theorem zD (h1:fd.params=ps)(h2:fd.defaults=dV)(h3:fd.kwdefaults=.none):fdOf fd ps dV=fd:=by subst h1 h2;unfold fdOf;exact az h3 Z
def va (ps:OP)(dV:Ws)(ns:bD)(n:Nat):Prop:=∀fd,V2 n λrs=>OY (fdOf fd ps dV) ⟨rs,[]⟩=pure (ns.zip rs)
theorem va.bind (h:va ps dV ns args.length)(h1:fd.params=ps)(h2:fd.defaults=dV)(h3:fd.kwdefaults=.none):n9 c fd args (ns.zip args):=
 λA F bs H s rs E Q wd hv k=>by
  exact (zD h1 h2 h3)▸(ar ((h fd).all rs hv.length))▸(aX (k F s _ (.refl ..) wd (bE.zip hv)))
end
structure MD (C:Cx)(fd:w6)(fa:Wr)(n:Nat)(vars:bD):Prop where
 vars:C.vars=vars
 env:∃L,C.env=anm fd L fa
 scope:C.env.scope=fd.scope
 handled:C.handled=Wm
 n:C.n=n
 frames:∃fr,C.frames=C.env::fr
 cell:∀x,fd.scope.names.lookup x=AN .cell->bI C (λJ=>Wm) x
 code:C.env.code=fd.code
 iu:∀x a,C.env.cells.lookup x=AN a->a∈C.own
theorem MD.kind {n:Nat}{vars:bD}(o:MD C fd fa n vars)(x:Str):C.env.kindOf x=fd.scope.names.lookup x:=by unfold A9;exact aa o.scope Z
section
variable {c:aZ}{C:Cx}{A:M5}{F:G}{bs:aJ}{S:AS}{s:Gb}{X:cR}
noncomputable def dC:Nat->gh->d7->d7
 | _,[],l=>l
 | n,(_,v)::r,l=>dC (n+1) r (ck l n v)
theorem wj (f:Str×Ws->PUnit->Sem (ForInStep PUnit))(hf:∀n v u,f (n,v) u=(do Bd C.env n v;pure (.yield ⟨⟩)))(binds:gh)(n:Nat)(rb:F5)(F:G)(bs:aJ)(S:AS)(s:Gb)(K:PUnit->dp)
 (z:St c C F bs S s) (hv:c.SV F bs binds rb) (hi:∀(j:Nat) (p:Str×AV),binds[j]?=AN p->C.vars[n+j]?=AN p.1) (hs:∀x v,(x,v)∈binds->bI C (λJ=>Wm) x) (k:K ⟨⟩ {S with loc:=dC n binds S.loc}):WP c C A (λJ J J J=>True) (forIn rb hC f) F bs s K X:=by
 induction binds generalizing n rb F bs S s with
 | nil=>refine rE hv.inv ?_;exact WP.pure z trivial k
 | cons p binds ih=>
   refine dr hv.inv λr rb o2 h t=>?_;refine rE o2 ?_;rw [YT,hf];refine WP.bind (R:=λ_ _ (_:PUnit) r=>r=N7 hC) (K₁:=λJ ai=>ai=S.put n p.2) ?_ λF₁ bs₁ ai ak u r' st aC hr hk=>?_
   . exact WP.bind (rm z (i:=n) (hi 0 _ Z) (hs p.1 p.2 (.head _)) h (K:=λJ ai=>ai=S.put n p.2) Z) λF₁ bs₁ ai ak u r' st aC hr hk=>WP.pure (v:=hC) aC Z hk
   . subst hr hk;have t':c.SV F₁ bs₁ binds rb:=by refine Va st.ext λnb o1 J=>?_;refine rE o1 ?_;exact bE.mono st.sub t
     exact ih (n+1) rb F₁ bs₁ (S.put n p.2) ak aC t' (λj p e=>by rw [wV,KW];exact hi (j+1) p (e)) (λy w m=>hs y w (.tail _ m)) k
end
theorem acX {code:Ws}
 (h:Dk M A (forIn binds hC λp J=>(do Bd (Zj scope s.heap.objs.size globals (Gs (s.heap.objs.size+1) scope.names []) qual func code Wm builtins) p.1 p.2;pure (.yield hC)))
  (λJ s'=>Q (Zj scope s.heap.objs.size globals (Gs (s.heap.objs.size+1) scope.names []) qual func code Wm builtins) s') E {s with heap:=YO (s.heap.push {cls:=.type "frame",data:=.dict #[]}) scope.names}) :
 Dk M A (D7 scope globals [] binds qual func code Wm builtins) Q E s:=by
 refine ag (alU ?_);refine ag (aj8 _ (λname kind cells=>by cases ML:kind==Yj <;> simp [ML]) _ _ _ _ ?_);exact rE (show ({s with heap:=s.heap.push {cls:=.type "frame",data:=.dict #[]}}:Gb).heap.objs.size=s.heap.objs.size+1 from jP ..) (ag (aS h (λJ J q=>aX q) λJ J e=>e))
end Mine.Internal
section
variable{c:Mine.Internal.aZ}{C:Mine.Internal.Cx}{S:Mine.Internal.AS}{X:Mine.Internal.cR}{A:M5}{mg mb:Mine.Internal.eI}{K:Mine.Internal.cu}{F F':Mine.Internal.G}{bs aK:Mine.Internal.aJ}{Kf:DW}
set_option linter.unusedSimpArgs false
namespace Mine.Internal
open PySem PyProof.Rows
noncomputable abbrev gY:Obj:={cls:=.type "cell",data:=.cell Wm}
set_option tactic.hygienic true in
theorem oh:∀(names:List (Str×Yu)) (h:Xi) (OB:List (Str×Wr)),(∀x a,(x,a)∈OB->h.get? a=AN gY)->∀x a,(x,a)∈Gs h.objs.size names OB->(YO h names).get? a=AN gY
 | [],_,_,k,x,a,m=>k x a m
 | (y,kd)::r,h,OB,k,x,a,m=>by
   dsimp only [Gs] at m;dsimp only [YO]
   split at m
   . rename_i hk;refine aa (if_pos hk) (oh r (h.push gY) ((y,h.objs.size)::OB) (λx' a' m'=>?_) x a (by refine aa (jP _ _) ?_;exact m))
     (refine bz (eO m') (λe=>?_) (λm'=>?_))
     . clear m';cases e;exact dB _ Z
     . exact cC _ (k x' a' m')
   . rename_i hk;exact aa (if_neg hk) (oh r h OB k x a m)
theorem enter (B:Base c mg mb){K:AV->aR->Prop}(vars:bD)(MM:vars.Nodup)(zE:∀(j:Nat)(p:Str×AV),binds[j]?=AN p->vars[j]?=AN p.1)(hf:c.h₀.get? fa=AN o)(CW:o.cls≠.none)(zG:o.data=.func fd)(v6:fd.body=.stmts body)(jT:CG c.h₀ fd.code fd.qualname)(zH:fd.globals=te)(F7:fd.builtins=Xe)(acY:fd.closure=[])(hk:fd.scope.kind=.function)(U3:fd.scope.isCoroutine=Wp)(F8:fd.scope.isGenerator=Wp)(hb:n9 c fd args binds)(acZ:∀x v,(x,v)∈binds->fd.scope.names.lookup x=AN .local\/fd.scope.names.lookup x=AN .cell)(h:∀C,MD C fd fa n vars->Ex c C body ⟨dC 0 binds [],H⟩ (F6 K) fy): bQ c (n+1) (.ref fa) args H K:=by
 intro A F bs s rs fr hh hd hu mT oi wd hv;obtain AK:∀b o,c.h₀.get? b=AN o->o.cls≠.none->s.heap.get? b=AN o:=λb o e q=>wd.sub _ _ (wd.base _ _ e (.inl q));obtain ⟨cc,oc,vs,t,JP,JQ,JR,U4,hc5⟩:=jT;refine ajT (uE hd) (AK _ _ hf CW) zG U3 F8 v6 (jR cc oc vs t JP (AK _ _ JQ JR) U4 hc5) (hb _ F bs H s rs _ _ wd hv λF₁ ak rb an wf rp=>aa acY (aa zH (aa F7 (acX ?_))));generalize hL:ak.heap.objs.size=L;generalize F9:Gs (L+1) fd.scope.names []=cs;generalize hE:Zj fd.scope L te cs (fd.qualname++".<locals>.") (AN fa) fd.code Wm Xe=env;have eE:env=anm fd L fa:=by refine az hE (az F9 ?_);unfold anm;exact aa zH (aa F7 Z)
 obtain CX:env.locals=L:=by refine az hE ?_;rfl
 have AL:env.cells=cs:=by refine az hE ?_;rfl
 have BY:env.scope=fd.scope:=by refine az hE ?_;rfl
 let C:Cx:=⟨env,L::cs.map (·.2),env::fr,Wm,n,vars⟩
 generalize bi:({ak with heap:=YO (ak.heap.push {cls:=.type "frame",data:=.dict #[]}) fd.scope.names}:Gb)=am;have keep:∀b o,ak.heap.get? b=AN o->am.heap.get? b=AN o:=λb o e=>by refine az bi ?_;exact Oc _ _ _ _ (cC _ e)
 obtain mv:a7 c F₁ bs ak am:=⟨keep,az bi Z,az bi Z⟩
 have lv:∀b∈C.own,ak.heap.get? b=Wm:=λb mZ=>by
  refine gf ?_;rcases eO mZ with e | m
  . exact aa e (aa hL (bP _))
  . refine Va (gM m) λp hp o3=>?_;obtain rfl:=o3;have ok:=La fd.scope.names (ak.heap.push {cls:=.type "frame",data:=.dict #[]}) (L+1) [] ⟨λJ J hm=>(nomatch hm),On⟩ (by refine aa (jP _ _) (aa hL ?_);exact bP _);rw [jP,hL,F9] at ok;obtain this:=(ok.empty p.1 p.2 hp).2;exact aa hL (acM this)
 have rq:∀x a,(x,a)∈cs->am.heap.get? a=AN gY:=λx a m=>by exact az bi (oh fd.scope.names (ak.heap.push {cls:=.type "frame",data:=.dict #[]}) [] (λJ J m=>nomatch m) x a (aa (jP _ _) (aa hL (aa F9 m))))
 have sw:am.heap.get? L=AN {cls:=.type "frame",data:=.dict #[]}:=by exact az bi (Oc _ _ _ _ (hL▸dB _ Z))
 have Ga:∀x y a,cs.lookup x=AN a->cs.lookup y=AN a->x=y:=λx y a e1 e2=>by have ok:=La fd.scope.names (ak.heap.push {cls:=.type "frame",data:=.dict #[]}) (L+1) [] ⟨λJ J hm=>(nomatch hm),On⟩ (by refine aa (jP _ _) (aa hL ?_);exact bP _);rw [jP,hL,F9] at ok;exact name_of_addr ok.apart (Xd e1) (Xd e2)
 have kF:∀b,ak.heap.get? b=Wm->F₁ b=Wm/\b∉bs:=λb e=>by
  refine ⟨?_,λm=>by refine Ml (wf.there b m) λo' e'=>?_;exact bM (aM (ar e) e')⟩;cases q:F₁ b with
  | none=>rfl
  | some o'=>exact lj (aM (ar (wf.sub _ _ q)) e)
 obtain z:St c C F₁ bs ⟨[],H⟩ am:=by
  refine ⟨wf.keep (S:=⟨[],H⟩) mv,(af (λJ=>Wm) ?_ nofun),(af _ (by show am.heap.get? env.locals=_;refine aa CX ?_;exact sw) (by decide)),by show env.locals∈_;refine aa CX ?_;exact .head _,λb mZ=>?_,λx a e=>?_,λx y a e1 e2=>?_,λe he=>?_,by show env.globals=_;refine az hE ?_;rfl,by show env.builtins=_;refine az hE ?_;rfl,by show env.scope.kind=_;refine aa BY ?_;exact hk,MM,λJ x a e=>.inl (.tail _ (fV (af (x,a) (Xd (AL▸e)) Z)))⟩
  . exact aa CX (ip _ (#[]) 0 sw Z (λJ he=>by simp at he) (λJ=>Z))
  . obtain ii:=lv b mZ;refine (aV ((kF b ii).1) ((kF b ii).2) ?_)
    (refine bz (eO mZ) (λe=>?_) (λm=>?_))
    . exact (cj _ (e▸sw))
    . refine Va (gM m) λp hp o2=>?_;refine o2▸?_;exact (cj _ (rq p.1 p.2 hp))
  . obtain e':cs.lookup x=AN a:=by refine az AL ?_;exact e
    obtain m:=Xd e';obtain ii:=lv a (.tail _ (fV (af (x,a) m Z)));refine (aV ((kF a ii).2) (λq=>?_) ⟨_,rq x a m,Z,Wm,Z⟩);obtain q':a=L:=by refine az CX ?_;exact q
    clear CX eE;subst q';obtain this:=rq x a m;rw [sw] at this;simp [gY] at this
  . exact Ga x y a (by refine az AL ?_;exact e1) (by refine az AL ?_;exact e2)
  . rcases eO he with e' | he
    . refine aa e' ?_;have CY:env.frame=AN L:=by refine az hE ?_;rfl
      refine ⟨⟨by refine aa BY (aa hk ?_);simp,L,_,CY,sw,Z,nofun⟩,λL' q=>?_⟩;exact (bf (aM (ar CY) q))▸(kF L (lv L (.head _)))
    . refine XZ (oi e he) λf1 f2=>?_;obtain ⟨k1,L',o',e1,e2,e3,e4⟩:=f1;refine XZ (f2 L' e1) λq1 q2=>Va (an.eP L' o' e2 (by simp) q2 (by refine aa e3 ?_;simp)) λCS e5 s5=>?_;refine ⟨⟨k1,L',CS,e1,keep _ _ e5,s5.cls.trans e3,λvs=>by refine aa s5.data ?_;exact e4 vs⟩,λL'' q=>?_⟩;refine (bf (aM (ar e1) q))▸⟨?_,q2⟩
      cases q3:F₁ L' with
      | none=>rfl
      | some CT=>(refine bz (an.jS L' CT q3 q1) (λy=>?_) (λy=>?_))
                 . exact bM (aM (ar y) e2)
                 . exact absurd y q2
 have be:∀x,fd.scope.names.lookup x=AN .cell->bI C (λJ=>Wm) x:=λx e=>by
  obtain dz:(cs.lookup x).isSome=Wn:=by refine az F9 ?_;exact ahv _ _ _ (.inl e)
  refine Ml (Yk.mp dz) λa ha=>.inr (qZ (by show env.kindOf x=_;unfold A9;refine aa BY ?_;exact e) a (by show env.cells.lookup x=_;refine aa AL ?_;exact ha) (.tail _ (fV (af (x,a) (Xd ha) Z))))
 obtain op:MD C fd fa n vars:=⟨Z,(cj L eE),BY,Z,Z,(cj fr Z),be,by show env.code=_;refine az hE ?_;rfl,λx a e=>.tail _ (fV (af (x,a) (Xd (by refine az AL ?_;exact e)) Z))⟩
 obtain Me:=wj (c:=c) (C:=C) (A:=A.in1) (X:=fy) (λp J=>(do Bd env p.1 p.2;pure (.yield hC))) (λJ J J=>Z) binds 0 rb F₁ bs ⟨[],H⟩ am (λJ S'=>S'=⟨dC 0 binds [],H⟩) z rp (λj p e=>by refine aa (OT _) ?_;exact zE j p e)
  (λx v m=>(acZ x v m).elim (λe=>.inl (by show env.kindOf x=_;unfold A9;refine aa BY ?_;exact e)) (be x)) Z
 have stK:Step C.own F bs s.heap F₁ bs am.heap:=(an.widen (by simp)).trans (.keep mv);refine aS Me (λJ aO ac2=>ac2.casesOn λbv aT J bd aL a8 J pr=>?_) (λJ J ac3=>ac3.casesOn λJ J J J J J J q=>q.elim);subst pr;refine ⟨a8.wd.CM B,codeAny_func ?_⟩;obtain body:=h C op (A.deeper env) bv aT aO ⟨hh,by show A.depth+1+n < _;exact qO hd,by show A.units+3+20*n < _;exact uG hu,by show A.frames.map _=_;refine aa mT ?_;rfl⟩ a8;refine aS body (λf cK ac4=>ac4.casesOn λek ca fl dd ce de CZ iF=>?_) (λJ J ac5=>ac5.casesOn λJ J J J J J J q=>q.elim);have Ig:∀b∈C.own,s.heap.get? b=Wm:=λb mZ=>by
  cases q:s.heap.get? b with
  | none=>rfl
  | some o'=>refine Ml (an.mono _ _ q) λFV Cd=>?_;exact bM (aM (ar (lv b mZ)) Cd)
 cases fl with
 | next=>refine rE CZ ?_;exact ⟨ek,ca,.none,dd.heap,_,C.own,Z,Ig,(stK.trans aL).trans ce,de.wd,.none,iF⟩
 | ret v=>refine Va CZ λr o1 hr=>?_;clear CZ;refine rE o1 ?_;exact ⟨ek,ca,v,dd.heap,_,C.own,Z,Ig,(stK.trans aL).trans ce,de.wd,hr,iF⟩
 | brk=>exact iF.elim
 | cont=>exact iF.elim
def pz (c:aZ)(C:Cx)(pos:Pos)(es:cJ)(S:AS)(K:tI)(X:cR):Prop:=
 ∀A F bs s,lp C A->St c C F bs S s->WP c C A c.Vs (spliced (W3 pos (M4 es C.env))) F bs s K X
section
variable {pos:Pos}
theorem cn {K:tI}(k:K [] S):pz c C pos [] S K X:=λA F bs s hA z=>WP.pure z .nil k
abbrev wk (v:AV)(K:tI):tI:=λvs=>K (v::vs)
abbrev ac6 (c:aZ)(C:Cx)(pos:Pos)(es:cJ)(K:tI)(X:cR):cu:=λv S=>pz c C pos es S (wk v K) X
abbrev ac7 (K:tI):cu:=λv=>K [v]
abbrev zI (K:cu)(S:AS):AV->aR->Prop:=λv H=>K v {S with heap:=H}
abbrev MN (c:aZ)(n:Nat)(f:Ws)(K:cu):tI:=λvs S=>bQ c n f vs S.heap (zI K S)
theorem bG {e:Nn}{es:cJ}{K:tI}(h:Ev c C e S (ac6 c C pos es K X) X)
 (he:M4 (e::es) C.env=(Wp,eval e C.env)::M4 es C.env:=by rfl):pz c C pos (e::es) S K X:=by
 intro A F bs s hA z;refine rE he ?_;show WP c C A c.Vs (spliced ((Wp,eval e C.env)::W3 pos (M4 es C.env))) F bs s K X;refine WP.bind (h A F bs s hA z) λF₁ bs₁ ai ak v r an aC hv tj=>WP.bind (R:=λ_ _ (_:Unit) x=>x=[r]) (K₁:=λJ S'=>S'=ai) (WP.pure (v:=()) aC Z Z) λaP aB aF am J x av aI hx JL=>?_;clear aC;subst hx JL;exact WP.bind (WP.holding (tj A aP aB am hA aI)) λbv aT bd aO vs rs aL a8 bn bR=>WP.pure a8 (.cons (aL.V (av.V hv)) bn) bR
theorem aw {e:Nn}{K:tI}(h:Ev c C e S (ac7 K) X)(he:M4 [e] C.env=[(Wp,eval e C.env)]:=by rfl):pz c C pos [e] S K X:=
 bG (λA F bs s hA z=>(h A F bs s hA z).mono (λv ai k=>cn k) λJ J q=>q) he
theorem iw:∀(ts:List (Bool×Sem Ws)),(∀x,ts≠[(Wn,x)])->Dk M A (spliced ts) (λvs s'=>Q ⟨vs,[]⟩ s') E s->Dk M A (ann f Wn ts []) Q E s
 | [],_,h=>by exact ag (aS h (λvs s' h'=>pa (ag (aX (ag (aX (aX h')))))) λJ J x=>x)
 | (Wp,x)::r,_,h=>Calls.evalArgs_plain h
 | [(Wn,x)],n,_=>absurd Z (n x)
 | (Wn,x)::y::r,_,h=>by exact ag (aS h (λvs s' h'=>pa (ag (aX (ag (aX (aX h')))))) λJ J x=>x)
noncomputable def mU:List (Bool×Sem Ws)->Bool
 | [a]=>a.1
 | _=>Wp
theorem gk {es:cJ}{f:Ws}{K:tI}{A:M5}{F:G}{bs:aJ}{s:Gb}(hA:lp C A)(z:St c C F bs S s)(h:pz c C pos es S K X)
 (hl:mU (W3 pos (M4 es C.env))=Wp:=by rfl):WP c C A (λF bs vs (a:Args)=>a.kw=[]/\c.Vs F bs vs a.pos) (ann f Wn (W3 pos (M4 es C.env)) []) F bs s K X:=
 iw _ (λJ q=>Cb (hl.symm.trans (congrArg mU q))) (aS (h A F bs s hA z) (λvs s' q1=>q1.casesOn λF' aK v S' st z' hv k=>⟨F',aK,v,S',st,z',⟨Z,hv⟩,k⟩) λJ J e=>e)
def FnAt (c:aZ)(fa:Wr):Prop:=∃o fd,c.h₀.get? fa=AN o/\o.cls≠.none/\o.data=.func fd
theorem JA {K:cu}(hA:lp C A)(hh:C.handled=Wm)(hn:n<=C.n)(z:St c C F bs S s)(hv:c.Vs F bs args rs)(h:bQ c n fv args S.heap (zI K S)):WP c C A c.V (call fv rs) F bs s K X:=by
 refine KY ?_;obtain hd:=hA.depth;obtain hu:=hA.units;exact NL (h A F bs s rs C.frames (hA.handled.trans hh) (ur hd hn) (uq hu hn) hA.frames z.frames z.wd hv) λr s' dL=>dL.casesOn λF' aK v H' rv own e ii st wd m0 k=>rE e ⟨F',aK,v,{S with heap:=H'},st.widen λa ha=>.inr (ii a ha),z.after st ii wd,m0,k⟩
abbrev fnK (c:aZ)(C:Cx)(pos:Pos)(args:cJ)(n:Nat)(K:cu)(X:cR):cu:=λfv S=>∃fa,fv=.raw (.ref fa)/\FnAt c fa/\pz c C pos args S (MN c n (.ref fa) K) X
theorem jU {f:Nn}{args:cJ}{K:cu}{n:Nat}(hh:C.handled=Wm)(hn:n<=C.n)
 (h:Ev c C f S (fnK c C pos args n K X) X)
 (he:eval (.Call f args [] pos) C.env=(do YS pos (<-eval f C.env) [] (W3 pos (M4 args C.env)) (DN pos (Xk [] C.env))):=by rfl)
 (hl:mU (W3 pos (M4 args C.env))=Wp:=by rfl):Ev c C (.Call f args [] pos) S K X:=by
 intro A F bs s hA z;refine rE he (WP.bind (h A F bs s hA z) λF₁ bs₁ ai ak fv r an aC Ih q2=>N1 q2 λfa e q5=>dr q5 λo fd ho fq hd tj=>?_);clear q2;subst e;obtain ⟨_,rfl⟩:=Ih.inv;refine ahm (o:=o) (fd:=fd) (aS (gk hA aC tj hl) (λa am q3=>q3.casesOn λaP aB vs aF av aI q6=>XZ q6 λoj bn S4=>?_) (λJ J e=>e));obtain ⟨ps,kw⟩:=a;refine rE oj ⟨⟨aI.AK (af o ho fq) o ho,hd⟩,aS (JA (X:=X) (s:=am) hA hh hn aI bn S4) (λv aO q4=>q4.casesOn λbv aT v' bd aL a8 iI bR=>⟨bv,aT,v',bd,av.trans aL,a8,iI,bR⟩) λx aO q5=>q5.casesOn λbv aT v' bd aL a8 iI bR=>⟨bv,aT,v',bd,av.trans aL,a8,iI.back av.mono,bR⟩⟩
end
def wm (c:aZ)(C:Cx)(t:Nn)(v:AV)(S:AS)(K:dp)(X:cR):Prop:=
 ∀A F bs s r,lp C A->St c C F bs S s->c.V F bs v r->WP c C A (λ_ _ (_:Unit) (_:Unit)=>True) (assign t C.env r) F bs s (λJ=>K) X
section
variable {pos:Pos}
theorem Co {K:Unit->dp}(z:St c C F bs S s)(hi:C.vars[i]?=AN x)(hx:bI C (λJ=>Wm) x)(hv:c.V F bs v r)(k:K () (S.put i v)):WP c C A (λJ J J J=>True) (yT C.env x r) F bs s K X:=
 wpAny_bindName (rm z hi hx hv k)
theorem ah (i:Nat){K:dp}(hi:C.vars[i]?=AN x)(hx:bI C (λJ=>Wm) x)(k:K (S.put i v)):wm c C (.Name x pos) v S K X:=λA F bs s r hA z hv=>
 WP.standAt (Co z hi hx hv k)
noncomputable def AM (c:aZ)(C:Cx):List (Nn×AV)->AS->dp->cR->Prop
 | [],S,K,_=>K S
 | (t,v)::r,S,K,X=>wm c C t v S (λS'=>AM c C r S' K X) X
theorem nq (hA:lp C A):∀(ts:cJ) (vs:bZ) (rs:iE) (F:G) (bs:aJ) (S:AS) (s:Gb) (K:dp),ts.length=vs.length->St c C F bs S s->c.Vs F bs vs rs->AM c C (ts.zip vs) S K X->WP c C A (λ_ _ (_:Unit) (_:Unit)=>True) (akG (ts.map λt=>assign t C.env) rs) F bs s (λJ=>K) X:=by
 intro ts;induction ts with
 | nil=>intro vs rs F bs S s K hl z hv k;obtain rfl:=A2.mp hl.symm;refine rE hv.inv ?_;exact WP.pure (v:=()) z trivial k
 | cons t ts ih=>
   intro vs rs F bs S s K hl z hv k;cases vs with
   | nil=>exact absurd hl (Yn _)
   | cons v vs =>refine dr hv.inv λr rs o2 h1 h2=>?_;refine rE o2 ?_;exact WP.bind (WP.holding (k A F bs s r hA z h1)) λF₁ bs₁ ai ak J J an aC J tj=>ih vs rs F₁ bs₁ ai ak K (Zi hl) aC (an.Vs h2) tj
theorem tJ (hA:lp C A)(hh:C.handled=Wm)(z:St c C F bs S s)(hv:c.V F bs (.tup xs) r){K:tI}(k:K xs S):WP c C A c.Vs (Zg r xs.length Wm) F bs s K X:=by
 refine dr hv.inv λa vs o1 ht bn=>?_;refine rE o1 ?_;obtain MO:s.heap.IsTuple a vs.toArray:=(di _ (z.wd.sub _ _ ht) Z 0 Z)
 obtain tp:xs.length=vs.toArray.size:=by exact bn.length.symm
 refine rE tp (ajh (hA.handled.trans hh) MO λh' hx=>?_);obtain m:a7 c F bs s {s with heap:=h'}:=⟨λb o e=>hx b o (cI (M7 e)) e,Z,Z⟩
 exact ⟨F,bs,xs,S,.keep m,z.keep m,bn,k⟩
theorem pG {ts:cJ}{kd:Nat}{xs:bZ}{K:dp}(hh:C.handled=Wm)(hl:ts.length=xs.length)(h:AM c C (ts.zip xs) S K X)(hp:yD ts C.env=ts.map λt=>(Wp,assign t C.env):=by rfl):wm c C (.Tuple ts kd pos) (.tup xs) S K X:=by
 intro A F bs s r hA z hv;refine WP.standAt ?_;delta unpack;refine rE hp ?_;obtain e1:((ts.map λt=>(Wp,assign t C.env)).findIdx? (·.1))=Wm:=by simp
 simp only [e1,qY,Wu,hl];refine WP.bind (WP.holding (tJ (K:=λvs S'=>vs=xs/\S'=S) hA hh z hv ⟨Z,Z⟩)) λF₁ bs₁ ai ak vs rs an aC bn MP=>XZ MP λe e'=>?_;clear MP z hv;subst e e';exact nq hA ts vs rs F₁ bs₁ ai ak K hl aC bn h
end
section
variable {pos:Pos}{K:gX}
abbrev ac8 (c:aZ)(C:Cx)(Cq:fW)(K:gX)(X:cR):gX:=λfl S=>match fl with | .next=>Ex c C Cq S K X | f=>K f S
abbrev MQ (c:aZ)(C:Cx)(t:Nn)(K:dp)(X:cR):cu:=λv S=>wm c C t v S K X
abbrev ac9 (K:dp):cu:=λJ=>K
abbrev adb (K:gX):cu:=λv=>K (.ret v)
abbrev ifK (c:aZ)(C:Cx)(a b:fW)(K:gX)(X:cR):Bool->dp:=λt S=>if t then Ex c C a S K X else Ex c C b S K X
abbrev putK (i:Nat)(K:gX):cu:=λw S=>K .next (S.put i w)
theorem aD (k:K .next S):Ex c C [] S K X:=λA F bs s hA z=>WP.pure (v:=vU.next) z Z k
theorem ae {st:Pc}(h:lB c C st S (ac8 c C Cq K X) X):Ex c C (st::Cq) S K X:=by
 intro A F bs s hA z;refine WP.bind (h A F bs s hA z) λF₁ bs₁ ai ak fl f an aC hf tj=>?_;cases fl with
 | next=>subst hf;exact tj A F₁ bs₁ ak hA aC
 | brk=>subst hf;exact WP.pure (v:=vU.brk) aC Z tj
 | cont=>subst hf;exact WP.pure (v:=vU.cont) aC Z tj
 | ret v=>refine Va hf λr o2 hr=>?_;clear hf;obtain rfl:=o2;exact WP.pure (v:=vU.ret v) aC (af r Z hr) tj
theorem wo {st:Pc}(h:lB c C st S K' X)(hk:∀f S,K' f S->K f S):lB c C st S K X:=λA F bs s hA z=>(h A F bs s hA z).mono hk λJ J q=>q
theorem uL {st:fW}(h:Ex c C st S K' X)(hk:∀f S,K' f S->K f S):Ex c C st S K X:=λA F bs s hA z=>(h A F bs s hA z).mono hk λJ J q=>q
theorem kG {K K':cu}(h:Ev c C e S K' X)(hk:∀f S,K' f S->K f S):Ev c C e S K X:=λA F bs s hA z=>(h A F bs s hA z).mono hk λJ J q=>q
theorem aj {t wp:Nn}(h:Ev c C wp S (MQ c C t (K .next) X) X)
 (hs:Yy [t] wp pos.line C.env=pure Wp:=by rfl) (hw:qA [t] wp C.env=pure Wm:=by rfl) (hp:yD [t] C.env=[(Wp,assign t C.env)]:=by rfl):lB c C (.Assign [t] wp pos) S K X:=by
 intro A F bs s hA z;show WP c C A (n7 c) (do
  yH pos
  if <-Yy [t] wp pos.line C.env then do
   alV wp C.env λv=>amS v ((yD [t] C.env).map (·.2))
   pure .next
  else do
   let v <-eval wp C.env
   ak9 C.env v (<-qA [t] wp C.env) ((yD [t] C.env).map (·.2))) F bs s K X
 refine aa hs (aa hw (aa hp (WP.standAt (WP.bind (R:=λ_ _ (_:Unit) b=>b=Wp) (K₁:=λJ S'=>S'=S) (WP.pure (v:=()) z Z Z) λF₁ bs₁ ai ak J b an aC hb ul=>?_))));clear z;subst hb ul;refine WP.bind (h A F₁ bs₁ ak hA aC) λaP aB aF am v r av aI hv S4=>WP.bind (R:=λ_ _ (_:Unit) b=>b=Wm) (K₁:=λJ S'=>S'=aF) (WP.pure (v:=()) aI Z Z) λbv aT bd aO J b aL a8 hb pr=>?_;clear aI;subst hb pr;exact WP.bind (S4 A bv aT aO r hA a8 (aL.V hv)) λek ca dd cK J J ce de J iF=>WP.pure (v:=vU.next) de Z iF
theorem adc {t wp:Nn}(ps:List (Nat×Str))(hh:C.handled=Wm)(be:∀p∈ps,bI C (λJ=>Wm) p.2)(hi:∀p∈ps,C.vars[p.1]?=AN p.2)(h:Ev c C wp S (λv ai=>∃xs,v=.tup xs/\xs.length=ps.length/\K .next {ai with loc:=(ps.reverse.zip xs.reverse).foldl (λl p=>ck l p.1.1 p.2) ai.loc}) X)
 (hw:qA [t] wp C.env=pure (AN (ps.map (·.2)))) (hs:Yy [t] wp pos.line C.env=pure Wp:=by rfl):lB c C (.Assign [t] wp pos) S K X:=by
 generalize C0:ps.map (·.2)=names at hw;intro A F bs s hA z;show WP c C A (n7 c) (do
  yH pos
  if <-Yy [t] wp pos.line C.env then do
   alV wp C.env λv=>amS v ((yD [t] C.env).map (·.2))
   pure .next
  else do
   let v <-eval wp C.env
   ak9 C.env v (<-qA [t] wp C.env) ((yD [t] C.env).map (·.2))) F bs s K X
 refine aa hs (aa hw (WP.standAt (WP.bind (R:=λ_ _ (_:Unit) b=>b=Wp) (K₁:=λJ S'=>S'=S) (WP.pure (v:=()) z Z Z) λF₁ bs₁ ai ak J b an aC hb ul=>?_)));subst hb ul;simp only [mQ,if_false];refine WP.bind (h A F₁ bs₁ ak hA aC) λaP aB aF am v r av aI hv ade=>N1 ade λxs e hl S4=>?_;subst e;refine WP.bind (R:=λ_ _ (_:Unit) b=>b=AN names) (K₁:=λJ S'=>S'=aF) (WP.pure (v:=()) aI Z Z) λbv aT bd aO J b aL a8 hb pr=>?_;subst hb pr;show WP c C A (n7 c) (do
  rule "assign.swapped-stores"
  let items <-Zg r names.length Wm
  akG (names.reverse.map λn=>yT C.env n) items.reverse
  pure .next) bv aT aO K X
 refine WP.rule ?_;have e1:names.length=xs.length:=az C0 (aa (qY _) (aa hl Z));have e2:(names.reverse.map λn=>yT C.env n)=ps.reverse.map λn=>yT C.env n.2:=by refine az C0 (az aji (aa Wu ?_));rfl
 refine aa e1 (aa e2 ?_);refine WP.bind (tJ (K:=λvs S'=>vs=xs/\S'=bd) hA hh a8 (aL.V hv) ⟨Z,Z⟩) λek ca dd cK vs rs ce de bn adf=>XZ adf λe e'=>?_;subst e e';have go:∀(ns:List (Nat×Str)) (ys:bZ) (us:iE) (F:G) (bs:aJ) (S:AS) (s:Gb),ns.length=ys.length->(∀p∈ns,C.vars[p.1]?=AN p.2)->(∀p∈ns,bI C (λJ=>Wm) p.2)->St c C F bs S s->c.Vs F bs ys us->
  WP c C A (λ_ _ (_:Unit) (_:Unit)=>True) (akG (ns.map λn=>yT C.env n.2) us) F bs s (λJ S'=>S'={S with loc:=(ns.zip ys).foldl (λl p=>ck l p.1.1 p.2) S.loc}) X:=by
  intro ns;induction ns with
  | nil=>intro ys us F bs S s hl _ _ z hv;exact WP.pure (v:=()) z trivial Z
  | cons n ns ih=>
    intro ys us F bs S s hl hi hs z hv;cases ys with
    | nil=>exact absurd hl (Yn _)
    | cons y ys =>refine dr hv.inv λu us o1 h1 h2=>?_;obtain rfl:=o1;refine WP.bind (WP.holding (Co z (hi n (.head _)) (hs n (.head _)) h1 (K:=λJ S'=>S'=S.put n.1 y) Z)) λF₁ bs₁ ai ak J J an aC J ul=>?_;subst ul;exact ih ys us F₁ bs₁ _ ak (Zi hl) (λx m=>hi x (.tail _ m)) (λx m=>hs x (.tail _ m)) aC (an.Vs h2)
 have rev:c.Vs ek ca vs.reverse rs.reverse:=by
  have:∀(a b:bZ) (u v:iE),c.Vs ek ca a u->c.Vs ek ca b v->c.Vs ek ca (al3 a b) (al3 u v):=by
   intro a;induction a with
   | nil=>intro b u v hu hv;cases hu;exact hv
   | cons x a ih=>intro b u v hu hv;cases hu with | cons h1 h2=>exact ih (x::b) _ (_::v) h2 (.cons h1 hv)
  exact this vs [] rs [] bn .nil
 refine WP.bind (go ps.reverse vs.reverse rs.reverse ek ca dd cK (by simp [hl]) (λx m=>hi x (by simpa using m)) (λx m=>be x (by simpa using m)) de rev) λfc dq dJ fe J J dW eT J adg=>?_;subst adg;exact WP.pure (v:=vU.next) eT Z S4
theorem wq {t wp:Nn}(ps:List (Nat×Str))(hh:C.handled=Wm)(be:∀(i:Nat) x,C.vars[i]?=AN x->bI C (λJ=>Wm) x)(hi:∀p∈ps,C.vars[p.1]?=AN p.2)(h:Ev c C wp S (λv ai=>∃xs,v=.tup xs/\xs.length=ps.length/\K .next {ai with loc:=(ps.reverse.zip xs.reverse).foldl (λl p=>ck l p.1.1 p.2) ai.loc}) X)
 (hw:qA [t] wp C.env=pure (AN (ps.map (·.2)))) (hs:Yy [t] wp pos.line C.env=pure Wp:=by rfl):lB c C (.Assign [t] wp pos) S K X:=
 adc ps hh (λp m=>be p.1 p.2 (hi p m)) hi h hw hs
theorem cw {e:Nn}(h:Ev c C e S (ac9 (K .next)) X)(hi:interactive C.env=Wp)(hs:amT e Wm pos.line C.env=pure Wp:=by rfl):lB c C (.Expr e pos) S K X:=λA F bs s hA z=>
 wpAny_Expr_any (aS (h A F bs s hA z) (λr ak adh=>adh.casesOn λF₁ bs₁ v ai st aC hr k=>⟨F₁,bs₁,vU.next,ai,st,aC,Z,k⟩) λJ J e=>e) hi hs
theorem bt (h:Ev c C e S (adb K) X):lB c C (.Return (AN e) pos) S K X:=λA F bs s hA z=>
 wpAny_Return_some (aS (h A F bs s hA z) (λr ak adi=>adi.casesOn λF₁ bs₁ v ai st aC hr k=>⟨F₁,bs₁,vU.ret v,ai,st,aC,(af r Z hr),k⟩) λJ J e=>e)
theorem b9 (h:FZ c C test S (ifK c C body FQ K X) X):lB c C (.If test body FQ pos) S K X:=by
 intro A F bs s hA z;refine WP.standAt (WP.bind (h A F bs s hA z) λF₁ bs₁ ai ak b r an aC hb tj=>?_);subst hb;cases r with
 | true=>skip;exact tj A F₁ bs₁ ak hA aC
 | false=>skip;exact tj A F₁ bs₁ ak hA aC
theorem pH (k:K .brk S):lB c C (.Break pos) S K X:=λA F bs s hA z=>WP.standAt (WP.pure (v:=vU.brk) z Z k)
theorem wt (k:K .cont S):lB c C (.Continue pos) S K X:=λA F bs s hA z=>WP.standAt (WP.pure (v:=vU.cont) z Z k)
theorem adj (z:St c C F bs S s)(hi:C.vars[i]?=AN x)(hv:S.loc.lookup i=AN v)(hn:(x==("__classdict__":Str))=Wp):WP c C A c.V (loadName C.env x) F bs s (λu S'=>u=v/\S'=S) X:=
 WP.kept z λQ E q=>z.load hi hv hn λr h=>q _ _ (.refl ..) (aU v h Z Z)
theorem ff (i:Nat){x:Str}{adk:Pos}{op:Operator}{wp:Nn}{old:AV}(hi:C.vars[i]?=AN x)(MI:S.loc.lookup i=AN old)(be:bI C (λJ=>Wm) x)
 (h:Ev c C wp S (MH c C (Y7 op) old (putK i K) X) X) (hn:(x==("__classdict__":Str))=Wp:=by decide +kernel):lB c C (.AugAssign (.Name x adk) op wp pos) S K X:=by
 intro A F bs s hA z
 obtain nm2:=adj z hi MI hn;refine WP.standAt (WP.bind nm2 λF₁ bs₁ ai ak v r an aC hv MS=>XZ MS λe e'=>?_);clear MS nm2 MI z;subst e e';refine WP.bind (WP.holding (h A F₁ bs₁ ak hA aC)) λaP aB aF am b rb av aI hb S4=>WP.standAt (WP.bind (XK (S4 A aP aB am r rb hA aI (av.V hv) hb)) λbv aT bd aO w U5 aL a8 hw bR=>WP.standAt (WP.bind (Co a8 hi be hw (K:=λJ S'=>S'=bd.put i w) Z) λek ca dd cK J J ce de J adl=>?_));subst adl;exact WP.pure (v:=vU.next) de Z bR
end
def dD (S:AS)(v:AV)(xs:bZ):Prop:=v=.lst xs\/∃k,v=.ref k/\S.heap[k]?=AN (.list xs)
section
variable {s s':Gb}
theorem St.seq (z:St c C F bs S s)(h:dD S v xs)(hv:c.V F bs v r):∃l vs,r=.ref l/\FR s.heap.get? l vs/\c.Vs F bs xs vs/\(F l≠Wm\/l∈bs):=by
 (refine bz h (λadm=>?_) (λMT=>?_);obtain rfl:=adm;rotate_left;clear h;refine Va MT λk JS hk=>?_;clear MT;obtain rfl:=JS;rotate_right)
 . refine dr hv.inv λJ J JT h1 h2=>?_;refine rE JT ?_;exact (kA _ _ Z (h1.sub z.wd.sub) h2 (.inl (by refine Ml h1 λn e=>?_;refine aa e ?_;simp)))
 . refine Va hv.inv λJ adn h1=>?_;refine rE adn ?_;refine XZ (z.wd.obj k _ _ h1 hk) λC1 J=>?_;refine Va C1 λvs h2 h3=>?_;clear C1;exact (kA _ vs Z h2 h3 (.inr (bO h1)))
theorem FR.isList {g:Xi}(h:FR g.get? a vs):g.IsList a vs.toArray:=Ml h λn e=>(di _ e Z n Z)
theorem dI.step {own:aJ}(f:dI c C F bs a)(st:Step own F bs s.heap F' aK s'.heap)(ho:s.heap.get? a=AN o):dI c C F' aK a:=by
 refine Va st.ext λnb ado hn=>?_;refine rE ado ?_;refine ⟨?_,λm=>?_,f.own,f.cells,f.frames⟩
 . cases e:F' a with
   | none=>rfl
   | some o'=>
     rcases st.jS a o' e f.F with y | y
     . exact bM (aM (ar y) ho)
     . exact absurd y f.bs
 . rcases cH m with m | m
   . exact f.bs m
   . exact bM (aM (ar (hn a m)) ho)
structure ac1 (a:Wr)(s s':Gb):Prop where
 same:∀b,b≠a->∀o,s.heap.get? b=AN o->s'.heap.get? b=AN o
 os:s'.os=s.os
 gens:s'.gens=s.gens
theorem St.free (z:St c C F bs S s)(t:ac1 a s s')(f:dI c C F bs a)(ho:s.heap.get? a=AN o)(hc:o.cls≠.none):St c C F bs S s':=by
 have hL:C.env.locals≠a:=λe=>f.own (e▸z.cU);have k:∀b o,b≠a->s.heap.get? b=AN o->s'.heap.get? b=AN o:=λb o q e=>t.same b q _ e;have nb:∀b∈bs,b≠a:=λb m q=>f.bs (q▸m);obtain hF:∀b o,F b=AN o->b≠a:=λb o e q=>by cases q;rw [f.F] at e;cases e
 refine Va z.locs λmm hN hl=>?_;refine ⟨⟨λb o e=>k b o (hF b o e) (z.wd.sub b o e),z.wd.base,iO.tF z.wd.old (z.wd.iP f.F (af o ho hc)) t.same,z.wd.len,z.wd.nodup,
  λj b ao e1 e2=>⟨(z.wd.obj j b ao e1 e2).1.at λob e=>k b ob (nb b (bO e1)) e,(z.wd.obj j b ao e1 e2).2⟩,
  λb m=>(Ml (z.wd.there b m) λo e=>(cj o (k b o (nb b m) e))),t.os.trans z.wd.os,t.gens.trans z.wd.gens,z.wd.kept⟩,
  (af mm ?_ (λy v e=>(hl y v e).heap λx b o e1 e2=>(af o (k b o (λq=>f.cells x (q▸e1)) e2) Z))),?_,z.cU,λb hb=>?_,λy b e=>?_,z.apart,λe he=>⟨?_,(z.frames e he).2⟩,z.glob,z.blt,z.kind,z.qg,z.iu⟩
 . refine VN hN λo es ep ho r=>?_;exact (lF o es ep (k _ _ hL ho) r)
 . refine Va z.ir λo e n=>?_;exact (af o (k _ _ hL e) n)
 . obtain ⟨h1,h2,o,h3⟩:=z.own b hb;exact (nY h1 h2 o (k b o (λq=>f.own (q▸hb)) h3))
 . obtain ⟨h1,h2,o,h3,h4⟩:=z.cells y b e;exact (aV h1 h2 ⟨o,k b o (λq=>f.cells y (q▸e)) h3,h4⟩)
 . obtain ⟨hk,L,o,h1,h2,h3⟩:=(z.frames e he).1;exact ⟨hk,L,o,h1,k _ _ (λq=>f.frames e he (q▸h1)) h2,h3⟩
theorem St.fg (z:St c C F bs S s)(hn:s.heap.get? a=Wm):dI c C F bs a:=by
 refine ⟨z.kF hn,λm=>?_,λm=>?_,λx e=>?_,λe he q=>?_⟩
 . refine Ml (z.wd.there a m) λo e=>?_;exact bM (aM (ar hn) e)
 . obtain ⟨_,_,o,e⟩:=z.own a m;exact bM (aM (ar hn) e)
 . obtain ⟨_,_,o,e',_⟩:=z.cells x a e;exact bM (aM (ar hn) e')
 . obtain ⟨_,L,o,e1,e2,_⟩:=(z.frames e he).1;obtain rfl:=bf (aM (ar q) e1);rw [hn] at e2;cases e2
theorem Step.other (st:Step own F bs h F' aK im)(hn:h.get? a=Wm)(k:∀b,b≠a->∀o,im.get? b=AN o->h'.get? b=AN o):Step own F bs h F' aK h':=by
 have ne:∀b o,h.get? b=AN o->b≠a:=λb o e q=>by clear k;subst q;rw [hn] at e;cases e
 refine ⟨st.sub,st.ext,λb o e=>?_,λb o e n1 n2 n3=>?_,st.jS⟩
 . refine Ml (st.mono b o e) λo' e'=>?_;exact (cj o' (k b (ne b o e) _ e'))
 . refine Va (st.eP b o e n1 n2 n3) λo' e' s'=>?_;exact (af o' (k b (ne b o e) _ e') s')
end
section
variable {K:gX}{pos:Pos}
def wu (I:dp)(K:gX):gX
 | .next,S=>I S
 | .cont,S=>I S
 | .brk,S=>K .next S
 | .ret v,S=>K (.ret v) S
end
noncomputable def AV.nr (n:Nat):wi->Bool
 | []=>Wn
 | .none::xs=>AV.nr n xs
 | .some x::xs=>x.under n&&AV.nr n xs
noncomputable def AO.under (n:Nat):AO->Bool
 | .gone=>Wn
 | .list xs=>AV.bX n xs
 | .aN kvs=>AV.kE n kvs
 | .bB kvs=>AV.lI n kvs
 | .sset _=>Wn
 | .uset _=>Wn
 | .iD _=>Wn
 | .inst _ d=>decide (d<n)
 | .slots _ d vs=>decide (d<n)&&AV.nr n vs
 | .iq l _=>l.under n
 | .exc _ _=>Wn
 | .fB Wm=>Wn
 | .fB (AN (f,v))=>f.under n&&v.under n
@[simp] theorem uoL {n:Nat}{xs:bZ}:AO.under n (.list xs)=AV.bX n xs:=rfl
@[simp] theorem uoD {n:Nat}{xs:gh}:AO.under n (.aN xs)=AV.kE n xs:=rfl
@[simp] theorem aa6 {n:Nat}{xs:List (Int×AV)}:AO.under n (.bB xs)=AV.lI n xs:=rfl
@[simp] theorem uoI {n d:Nat}{c:Wr}:AO.under n (.inst c d)=decide (d<n):=rfl
@[simp] theorem uoS {n d:Nat}{c:Wr}{vs:wi}:AO.under n (.slots c d vs)=(decide (d<n)&&AV.nr n vs):=rfl
@[simp] theorem uoC {n:Nat}{f v:AV}:AO.under n (.fB (AN (f,v)))=(f.under n&&v.under n):=rfl
@[simp] theorem uoO {n:Nat}{x:AV}{xs:wi}:AV.nr n (.some x::xs)=(x.under n&&AV.nr n xs):=rfl
theorem AV.wz (n:Nat):∀(l:bD),AV.bX n (l.map .str)=Wn:=by
 intro l;induction l with
 | nil =>exact Z
 | cons x l ih =>trivial
theorem AV.qh (n:Nat):∀(l:List Int),AV.bX n (l.map .int)=Wn:=by
 intro l;induction l with
 | nil =>exact Z
 | cons x l ih =>trivial
section
variable {bs nb:aJ}
theorem uM {l r:aJ}(h:(l++r)[k]?=AN a)(hk:k<l.length):l[k]?=AN a:=by rw [fb hk] at h;exact h
theorem om {g r:aJ}(k:Nat)(a:Wr)(h:(g++r)[k]?=AN a)(u:False\/k<g.length):g[k]?=AN a:=uM h (u.resolve_left id)
theorem cW.cut (h:c.V F (bs++nb) x v)(u:x.under bs.length=Wn):c.V F bs x v:=cW.lift (λJ J e=>e) om h (.inr u)
theorem bh.cut (h:c.Vs F (bs++nb) x v)(u:AV.bX bs.length x=Wn):c.Vs F bs x v:=bh.lift (λJ J e=>e) om h (.inr u)
theorem bE.cut (h:c.SV F (bs++nb) x v)(u:AV.kE bs.length x=Wn):c.SV F bs x v:=bE.lift (λJ J e=>e) om h (.inr u)
theorem bL.cut (h:c.IV F (bs++nb) x v)(u:AV.lI bs.length x=Wn):c.IV F bs x v:=bL.lift (λJ J e=>e) om h (.inr u)
theorem qf.cut (h:qf c F (bs++nb) x v)(u:AV.nr bs.length x=Wn):qf c F bs x v:=by
 induction h with
 | nil=>exact .nil
 | no _ ih=>exact .no (ih (u))
 | yes hv _ ih=>simp  at u;exact .yes (cW.cut hv u.1) (ih u.2)
theorem gg.cut (x:gg c F (bs++nb) h a o)(u:o.under bs.length=Wn):gg c F bs h a o:=by
 cases o with
 | gone=>trivial
 | list xs=>refine Va x λvs h1 h2=>?_;exact (af vs h1 (h2.cut u))
 | aN kvs=>refine Va x λrs h1 h2=>?_;exact (af rs h1 (h2.cut u))
 | bB kvs=>refine Va x λrs h1 h2=>?_;exact (af rs h1 (h2.cut u))
 | sset S=>exact x
 | uset S=>exact x
 | iD S=>exact x
 | inst cl d=>refine Va x λda h1 h2=>?_;exact (af da (uM h1 (by simpa  using u)) h2)
 | slots cl d vs=>refine dr x λda rs h0 h1 h2=>?_;simp  at u;exact (bW da rs (uM h0 u.1) (h1.cut u.2) h2)
 | iq l i=>refine Va x λla h1 h2=>?_;exact (af la (h1.cut u) h2)
 | exc ex ob=>exact x
 | fB f=>
   cases f with
   | none=>exact x
   | some f=>refine dr x λy z h1 h2 h3=>?_;replace u:(f.1.under bs.length&&f.2.under bs.length)=Wn:=u;simp only [fA] at u;exact (bW y z (h1.cut u.1) (h2.cut u.2) h3)
theorem lJ.cut (z:lJ c env F (bs++nb) h m x v)(u:v.under bs.length=Wn):lJ c env F bs h m x v:=by
 cases z with
 | loc hk r h1 h2=>exact .loc hk r h1 (h2.cut u)
 | cell hk w=>obtain ⟨a,o,r,h1,h2,h3,h4⟩:=w;exact .cell hk ⟨a,o,r,h1,h2,h3,h4.cut u⟩
theorem jz.cut (z:jz c C F (bs++nb) h m i v)(u:v.under bs.length=Wn):jz c C F bs h m i v:=
 Va z λx e l=>(af x e (l.cut u))
structure Trim (n:Nat)(S:AS)(loc:d7):Prop where
 loc:∀x u,loc.lookup x=AN u->S.loc.lookup x=AN u/\u.under n=Wn
 heap:∀o∈S.heap.take n,AO.under n o=Wn
theorem St.trim (z:St c C F (bs++nb) S s)(t:Trim bs.length S loc):St c C F bs ⟨loc,S.heap.take bs.length⟩ s:=by
 refine Va z.locs λm hN hl=>?_;have w:=z.wd;obtain tp:bs.length<=S.heap.length:=by simp only [<-w.len];simp
 refine ⟨⟨w.sub,w.base,w.old,by simp [tp],(M9.mp w.nodup).1,λk a o e1 e2=>?_,λa ha=>w.there a (fz (.inl ha)),w.os,w.gens,λa ha=>w.kept a (fz (.inl ha))⟩,
  (af m hN (λx u e=>(hl x u (t.loc x u e).1).cut (t.loc x u e).2)),z.ir,z.cU,λa ha=>?_,λx a e=>?_,z.apart,λe he=>⟨(z.frames e he).1,λL hL=>?_⟩,z.glob,z.blt,z.kind,z.qg,z.iu⟩
 . obtain hk:=(bA e1).1;obtain e2':S.heap[k]?=AN o:=by simpa [hk] using e2
   obtain this:=w.obj k a o (by refine rE (fb hk) ?_;exact e1) e2';exact ⟨this.1.cut (t.heap o (bO e2)),this.2⟩
 . refine RR (z.own a ha) λh1 h2 h3=>?_;exact (aV h1 (λq=>h2 (fz (.inl q))) h3)
 . refine RR (z.cells x a e) λh1 h2 h3=>?_;exact (aV (λq=>h1 (fz (.inl q))) h2 h3)
 . refine XZ ((z.frames e he).2 L hL) λh1 h2=>?_;exact ⟨h1,λq=>h2 (fz (.inl q))⟩
theorem dI.trim (f:dI c C F (bs++nb) a):dI c C F bs a:=⟨f.F,λm=>f.bs (fz (.inl m)),f.own,f.cells,f.frames⟩
theorem Cf.trim (e:Cf c C F (bs++nb) h₀ h x cls):Cf c C F bs h₀ h x cls:=by obtain ⟨a,ob,vs,h1,h0,h2,h3,h4,h5,h6,h7⟩:=e.at_;refine ⟨⟨a,ob,vs,h1,h0,h2,h3,h4,h5,h6.trim,h7.imp id ?_⟩,e.CL⟩;intro o1;obtain ⟨tb,mo,pc,L,k1,k2,k3,k4,k5,k6,k7,k8,k9,pp⟩:=o1;exact ⟨tb,mo,pc,L,k1,k2,k3,k4,k5,k6,k7,k8,k9,pp.trim⟩
def c9 (c:aZ)(C:Cx)(S S':AS):Prop:=∀F bs s,St c C F bs S s->∃F',Step C.own F bs s.heap F' bs s.heap/\St c C F' bs S' s
theorem gm {st:fW}{K:gX}(sh:c9 c C S S')(h:Ex c C st S' K X):Ex c C st S K X:=by intro A F bs s hA z;exact Va (sh F bs s z) λF' an z'=>aS (h A F' bs s hA z') (λr s' q79=>q79.casesOn λta aK fl S' st z' hr k=>⟨ta,aK,fl,S',an.trans st,z',hr,k⟩) (λx s' q80=>q80.casesOn λta aK fl S' st z' hr k=>⟨ta,aK,fl,S',an.trans st,z',hr.back an.mono,k⟩)
theorem c9.trans (a:c9 c C S S')(b:c9 c C S' Gc):c9 c C S Gc:=λF bs s z=>by
 exact Va (a F bs s z) λF' st z'=>Va (b F' bs s z') λta qy C2=>(af ta (st.trans qy) C2)
theorem c9.forget (loc:d7)(h:∀x u,loc.lookup x=AN u->S.loc.lookup x=AN u):c9 c C S ⟨loc,S.heap⟩:=λF bs s z=>by
 exact Va z.locs λm hN hl=>(af F (.refl ..) ⟨z.wd,(af m hN (λx u e=>hl x u (h x u e))),z.ir,z.cU,z.own,z.cells,z.apart,z.frames,z.glob,z.blt,z.kind,z.qg,z.iu⟩)
theorem St.zJ (z:St c C F bs S s)(x:Nat)(v v':AV)(hx:S.loc.lookup x=AN v)(hv:∀r,c.V F bs v r->c.V F bs v' r):St c C F bs (S.put x v') s:=by
 refine Va z.locs λm hN hl=>⟨z.wd,(af m hN (λy u e=>?_)),z.ir,z.cU,z.own,z.cells,z.apart,z.frames,z.glob,z.blt,z.kind,z.qg,z.iu⟩
 have e':=e;rw [aQ] at e';by_cases q:y=x
 . subst q;clear e;refine (bf (aM (ar (if_pos Z)) e'))▸(Va (hl y v hx) λx' qQ w=>(af x' qQ ?_))
   cases w with
   | loc hk r h1 h2=>exact .loc hk r h1 (hv _ h2)
   | cell hk w=>obtain ⟨a,o,r,h1,h2,h3,h4⟩:=w;exact .cell hk ⟨a,o,r,h1,h2,h3,hv _ h4⟩
 . rw [if_neg q] at e';exact hl y u e'
theorem c9.list (x:Nat)(hx:S.loc.lookup x=AN (.ref k))(hk:S.heap[k]?=AN (.list xs)):c9 c C S ⟨ck S.loc x (.lst xs),S.heap.set k .gone⟩:=λF bs s z=>by
 obtain dc:k<bs.length:=by simp only [z.wd.len];exact (bA hk).1
 obtain ⟨a,ha⟩:∃a,bs[k]?=AN a:=(cj _ (cm dc))
 refine XZ (z.wd.obj k a _ ha hk) λo7 hF=>?_;refine Va o7 λvs o9 h2=>?_;clear o7;obtain ⟨n,h1⟩:=o9;have yh:=hF (by simp);refine (af (plus F a (bu vs n)) (Step.freeze (bO ha) yh) ?_);refine (z.freeze ha hk (by simp) h1 (by simp [bu,a9])).zJ x (.ref k) (.lst xs) hx λr hr=>?_;refine Va hr.inv λJ o3 e=>?_;refine rE o3 ?_;clear hr;refine (bf (ha.symm.trans e))▸(.lst (cj n bU) ?_)
 simpa using bh.mono (nb:=[]) (aY yh) h2
theorem c9.aN (x:Nat)(hx:S.loc.lookup x=AN (.ref k))(hk:S.heap[k]?=AN (.aN xs)):c9 c C S ⟨ck S.loc x (.kC xs),S.heap.set k .gone⟩:=λF bs s z=>by
 obtain dc:k<bs.length:=by simp only [z.wd.len];exact (bA hk).1
 obtain ⟨a,ha⟩:∃a,bs[k]?=AN a:=(cj _ (cm dc))
 refine XZ (z.wd.obj k a _ ha hk) λo6 hF=>?_;refine Va o6 λrs o8 h2=>?_;clear o6;obtain ⟨es,n,h1,h3⟩:=o8;have yh:=hF (by simp);refine (af (plus F a (a9 es n)) (Step.freeze (bO ha) yh) ?_);refine (z.freeze ha hk (by simp) h1 (by simp [bu,a9])).zJ x (.ref k) (.kC xs) hx λr hr=>?_;refine Va hr.inv λJ o2 e=>?_;refine rE o2 ?_;clear hr;refine (bf (ha.symm.trans e))▸(.kC ⟨es,n,bU,h3⟩ ?_)
 simpa using bE.mono (nb:=[]) (aY yh) h2
end
theorem bQ.hide {P:AV->Prop}(h:bQ c n fv args [] (λv J=>v.under 0=Wn/\P v))(adp:AV.bX 0 args=Wn):bQ c n fv args H (λv H'=>H'=H/\P v):=by
 intro A F bs s rs fr hh hd hu mT oi wd hv;obtain wd0:Wd c F [] [] s:=⟨wd.sub,wd.base,wd.old,Z,Nq,λk a o e=>by simp at e,λa ha=>by simp at ha,wd.os,wd.gens,λa ha=>by simp at ha⟩
 refine NL (h A F [] s rs fr hh hd hu mT (λe he=>⟨(oi e he).1,λL hL=>⟨((oi e he).2 L hL).1,by simp⟩⟩) wd0 (bh.cut hv (adp))) λr s' dL=>dL.casesOn λF' aK v H' rv own e hn st Gd m0 eR=>?_;obtain ⟨hc,hp⟩:=eR;obtain keep:∀b o,s.heap.get? b=AN o->o.cls≠.none->∃o',s'.heap.get? b=AN o'/\jo o o':=λb o e q=>st.eP b o e (λm=>by exact bM (aM (ar (hn b m)) e)) (by simp) q;obtain nof:∀b o,s.heap.get? b=AN o->F b=Wm->F' b=Wm:=λb o e q=>by
  cases e':F' b with
  | none=>rfl
  | some o'=>(refine bz (st.jS b o' e' q) (λy=>?_) (λy=>?_))
             . exact bM (aM (ar y) e)
             . simp at y
 refine ⟨F',bs,v,H,rv,own,e,hn,⟨st.sub,(af [] (by simp) (by simp)),st.mono,λb o e n1 n2 n3=>st.eP b o e n1 (by simp) n3,λb o e q=>?_⟩,⟨Gd.sub,Gd.base,Gd.old,wd.len,wd.nodup,λk a o e1 e2=>⟨?_,λq=>?_⟩,λa ha=>?_,Gd.os,Gd.gens,λa ha o e=>?_⟩,?_,Z,hp⟩
 . rcases st.jS b o e q with y | y
   . exact .inl y
   . simp at y
 . by_cases q:o=.gone
   . clear e2;refine rE q ?_;trivial
   . refine XZ (wd.obj k a o e1 e2) λhr J=>N1 (hr.cls q) λob g1 g2 g3=>Va (keep a ob g1 g2) λo' g4 g5=>?_;obtain this:=g5.rh g3;clear g5 g3 g2;subst this;obtain JE:=hr.at (h':=s'.heap) λJC e'=>by lia
     simpa using gg.mono (nb:=[]) st.sub JE
 . exact Ml (wd.there a (bO e1)) λob g1=>nof a ob g1 ((wd.obj k a o e1 e2).2 q)
 . refine Ml (wd.there a ha) λo e=>?_;exact st.mono _ _ e
 . cases q:F a with
   | some o'=>replace e:=(st.sub _ _ q)▸e;cases e;exact wd.kept a ha o q
   | none=>refine Ml (wd.there a ha) λo' e'=>?_;exact bM (aM (ar (nof a o' e' q)) e)
 . obtain this:=cW.cut (bs:=[]) (nb:=aK) m0 hc;exact cW.mono (λJ J e=>e) this
noncomputable def U6:AO->Option String
 | .list _=>AN "list"
 | .aN _=>AN "dict"
 | .bB _=>AN "dict"
 | .sset _=>AN "set"
 | .uset _=>AN "set"
 | .iD _=>AN "set"
 | .iq _ _=>AN "list_iterator"
 | .fB _=>AN "callable_iterator"
 | _=>Wm
noncomputable def uN (S:AS):AV->Option String
 | .none=>AN "NoneType"
 | .bool _=>AN "bool"
 | .int _=>AN "int"
 | .str _=>AN "str"
 | .tup _=>AN "tuple"
 | .lst _=>AN "list"
 | .kC _=>AN "dict"
 | .dQ _=>AN "dict"
 | .ref k=>S.heap[k]?.bind U6
 | _=>Wm
section
variable {s s':Gb}
theorem lH.dictOf {Kt:Type}[DecidableEq Kt]{knd:Ep c.prog c.w Kt}{h:Xi}{a:Wr}{kvs:List (Kt×Ws)}(x:lH knd h.get? a kvs):h.DictOf knd a kvs:=
 let ⟨es,n,e,k,p,d,_⟩:=x
 (i5 _ es n e (aV Z Z Z) Z k p d)
theorem lH.rx {Kt:Type}[DecidableEq Kt]{knd:Ep c.prog c.w Kt}{h:Xi}{a:Wr}{kvs:List (Kt×Ws)}(x:h.DictOf knd a kvs)(hs:(a==wW)=Wp):lH knd h.get? a kvs:=by refine VY x λo es ep o87=>?_;clear x;refine FP o87 λe o88 hd k p d=>?_;clear o87;obtain ⟨h1,h2,h3⟩:=o88;obtain ⟨oc,od,dt,sl⟩:=o;subst h1;cases h2;cases h3;cases hd;exact ⟨es,ep,e,k,p,d,hs⟩
theorem gO (h:S.heap[k]?=AN o)(ht:U6 o=AN T):uN S (.ref k)=AN T:=(congrArg (·.bind U6) h).trans ht
theorem zK (ht:s.TypeIs r T)(h:∀a,r≠.ref a):s.TypeIs r T/\∀a,r=.ref a->∃o,s.heap.get? a=AN o/\o.dict=Wm:=⟨ht,λa e=>(h a e).elim⟩
theorem ry (e:s.heap.get? a=AN o)(h1:o.cls=.type T)(h2:o.dict=Wm):s.TypeIs (.ref a) T/\∀b,Wt a=.ref b->∃o,s.heap.get? b=AN o/\o.dict=Wm:=
 ⟨(af _ e h1),λb q=>by refine (K6 q)▸?_;exact (af _ e h2)⟩
theorem gg.ty (w:gg c F bs h a o)(ht:U6 o=AN T):∃ob,h.get? a=AN ob/\ob.cls=.type T/\ob.dict=Wm:=by
 cases o with
 | list=>refine (bf ht)▸?_;refine Va w λvs o86 J=>?_;clear w;refine Ml o86 λn e=>?_;clear o86;exact (aU _ e Z Z)
 | aN=>refine (bf ht)▸?_;refine Va w λvs Wv J=>?_;clear w;obtain ⟨es,n,e,_⟩:=Wv;exact (aU _ e Z Z)
 | bB=>refine (bf ht)▸?_;refine Va w λvs Wv J=>?_;clear w;obtain ⟨es,n,e,_⟩:=Wv;exact (aU _ e Z Z)
 | sset=>refine (bf ht)▸?_;refine Va w λJ o84 J=>?_;clear w;obtain ⟨o,es,ep,t,e,⟨hc,hd,_⟩,_⟩:=o84;exact (aU _ e hc hd)
 | uset=>refine (bf ht)▸?_;refine VO w λo es ep t e MV J=>?_;clear w;refine RR MV λhc hd J=>?_;clear MV;exact (aU _ e hc hd)
 | iD=>refine (bf ht)▸?_;refine VO w λo es ep t e MV J=>?_;clear w;refine RR MV λhc hd J=>?_;clear MV;exact (aU _ e hc hd)
 | iq=>refine (bf ht)▸?_;refine Va w λla J e=>?_;exact (aU _ e Z Z)
 | fB f=>
   refine (bf ht)▸?_;cases f with
   | none=>refine CB w λJ J e=>?_;exact (aU _ e Z Z)
   | some f=>refine dr w λJ J J J e=>?_;exact (aU _ e Z Z)
 | _=>exact bM ht
theorem St.ty (z:St c C F bs S s)(h:uN S v=AN T)(hv:c.V F bs v r):s.TypeIs r T/\∀a,r=.ref a->∃o,s.heap.get? a=AN o/\o.dict=Wm:=by
 cases v with
 | none=>obtain rfl:=bf h;refine rE hv.inv ?_;exact zK Z nofun
 | bool b=>refine (bf h)▸?_;refine hv.inv▸?_;exact zK Z nofun
 | int i=>refine (bf h)▸?_;refine Ml hv.inv λt o79=>?_;refine o79▸?_;exact zK Z nofun
 | str x=>refine (bf h)▸?_;refine Ml hv.inv λt o78=>?_;refine o78▸?_;exact zK Z nofun
 | tup=>refine (bf h)▸?_;refine dr hv.inv λJ J o77 e J=>?_;clear hv;obtain rfl:=o77;exact ry (z.wd.sub _ _ e) Z Z
 | lst=>refine (bf h)▸?_;refine dr hv.inv λJ J adq o82 J=>?_;refine Ml o82 λn e=>?_;clear o82;refine adq▸?_;exact ry (z.wd.sub _ _ e) Z Z
 | kC=>refine (bf h)▸?_;refine dr hv.inv λJ J Wx Wy J=>?_;obtain rfl:=Wx;obtain ⟨es,n,e,_⟩:=Wy;exact ry (z.wd.sub _ _ e) Z Z
 | dQ=>refine (bf h)▸?_;refine dr hv.inv λJ J Wx Wy J=>?_;obtain rfl:=Wx;obtain ⟨es,n,e,_⟩:=Wy;exact ry (z.wd.sub _ _ e) Z Z
 | ref k =>refine Va hv.inv λa o76 h1=>?_;obtain rfl:=o76;exact Va (Option.bind_eq_some_iff.mp h) λo e ht=>N1 ((z.wd.obj k a _ h1 e).1.ty ht) λob e1 e2 e3=>ry e1 e2 e3
 | _=>exact bM h
def eJ (c:aZ)(C:Cx)(f:Ws)(vs:bZ)(S:AS)(K:cu)(X:cR):Prop:=
 ∀A F bs s rs,lp C A->St c C F bs S s->c.Vs F bs vs rs->WP c C A c.V (call f rs) F bs s K X
abbrev bK (c:aZ)(C:Cx)(f:Ws)(K:cu)(X:cR):tI:=λvs S=>eJ c C f vs S K X
abbrev adr (c:aZ)(C:Cx)(T id:String)(pos:Pos)(args:cJ)(K:cu)(X:cR):cu:=λov S=>uN S ov=AN T/\pz c C pos args S (wk ov (bK c C (.builtin id) K X)) X
abbrev ads (c:aZ)(C:Cx)(f:Ws)(pos:Pos)(args:cJ)(K:cu)(X:cR):cu:=λv S=>v=.raw f/\pz c C pos args S (bK c C f K X) X
abbrev tupK (K:cu):tI:=λvs S=>vs.length<=Wo/\K (.tup vs) S
abbrev lstK (K:cu):tI:=λvs S=>vs.length<=Wo/\K (.lst vs) S
abbrev adt (K:cu):tI:=λvs S=>vs.length<=Wo/\K (.ref S.heap.length) {S with heap:=S.heap++[.list vs]}
theorem cq {o:Nn}{name:Str}{H6 pos:Pos}{args:cJ}(T id:String)(adu:PlainAttrs T)(V8:Slot T name id)(hty:typeOf (.builtin id)=pure (.type "method_descriptor"))
 (h:Ev c C o S (adr c C T id pos args K X) X)
 (gp:XR o name C.env (eval o C.env)=eval o C.env:=by rfl)
 (rz:((W3 pos (M4 args C.env)).all (λx=>!x.1)&&(DN pos (Xk [] C.env)).all (λx=>x.1.isSome)
  && decide (args.length+([]:List YC).length+(if ([]:List YC).isEmpty then 0 else 1)<30))=Wn:=by rfl)
 (hline:(H6.endLine==pos.line)=Wn:=by rfl)
 (na:(W3 pos (M4 args C.env)).any (·.1)=Wp:=by rfl)
 (hl:mU (W3 pos (M4 args C.env))=Wp:=by rfl):Ev c C (.Call (.Attribute o name H6) args [] pos) S K X:=by
 intro A F bs s hA z;refine Yo gp rz hline (aS (h A F bs s hA z) (λr ak dL=>dL.casesOn λF₁ bs₁ ov ai an aC lq eR=>?_) λJ J e=>e);obtain ⟨hT,tj⟩:=eR;refine XZ (aC.ty hT lq) λt1 t2=>⟨T,id,adu,V8,hty,t1,t2,(X8 na (aS (gk hA aC tj hl) (λa am q64=>q64.casesOn λaP aB vs aF av aI Wz=>XZ Wz λoj bn S4=>?_) λx am q65=>q65.casesOn λaP aB cls aF av aI hx S4=>⟨aP,aB,cls,aF,an.trans av,aI,hx.back an.mono,S4⟩))⟩
 simp only [oj];refine aS (S4 A aP aB am (r::a.pos) hA aI (.cons (av.V lq) bn)) (λw aO q66=>q66.casesOn λbv aT v bd aL a8 hv bR=>⟨bv,aT,v,bd,(an.trans av).trans aL,a8,hv,bR⟩) λx aO Wz=>Wz.casesOn λbv aT v bd aL a8 hv bR=>⟨bv,aT,v,bd,(an.trans av).trans aL,a8,hv.back (an.trans av).mono,bR⟩
theorem bS {f:Nn}{args:cJ}{pos:Pos}(fv:Ws)
 (h:Ev c C f S (ads c C fv pos args K X) X)
 (he:eval (.Call f args [] pos) C.env=(do YS pos (<-eval f C.env) [] (W3 pos (M4 args C.env)) (DN pos (Xk [] C.env))):=by rfl)
 (na:(W3 pos (M4 args C.env)).any (·.1)=Wp:=by rfl)
 (hl:(mU (W3 pos (M4 args C.env))||!(fv.ctorIdx==9||fv.ctorIdx==8))=Wp:=by rfl):Ev c C (.Call f args [] pos) S K X:=by
 intro A F bs s hA z;refine rE he (XZ (hV.mp hl) λhl hf=>WP.bind (h A F bs s hA z) λF₁ bs₁ ai ak v r an aC hv q68=>XZ q68 λe tj=>?_);subst e;clear q68 h;obtain ⟨_,rfl⟩:=hv.inv;have fin:∀f',Dk (model c.prog c.w) A (ann f' Wn (W3 pos (M4 args C.env)) []) (λa am=>Dk (model c.prog c.w) A (call fv a.pos a.kw)
  (WV c C c.V F₁ bs₁ ak.heap K) (WX c C F₁ bs₁ ak.heap X) am)
  (WX c C F₁ bs₁ ak.heap X) ak:=λf'=>by
  exact aS (gk hA aC tj hl) (λa am q69=>q69.casesOn λaP aB vs aF av aI ⟨oj,bn⟩ S4=>rE oj (aS (S4 A aP aB am a.pos hA aI bn) (λw aO q70=>q70.casesOn λbv aT v bd aL a8 hv bR=>⟨bv,aT,v,bd,av.trans aL,a8,hv,bR⟩) λx aO q71=>q71.casesOn λbv aT v bd aL a8 hv bR=>⟨bv,aT,v,bd,av.trans aL,a8,hv.back av.mono,bR⟩)) λx am e=>e
 cases fv <;> first | exact X8 na (fin _) | exact GR na (fin _) | exact abK hf
theorem jV (h:pz c C pos es S (tupK K) X):Ev c C (.Tuple es kd pos) S K X:=by
 intro A F bs s hA z;refine wpAny_Tuple_spliced (aS (h A F bs s hA z) (λrs ak ⟨F₁,bs₁,vs,ai,an,aC,bn,hl,k⟩=>⟨by rw [bn.length];exact hl,?_⟩) λJ J e=>e);obtain hn:=gf (bP _);obtain hF:=aC.kF hn;obtain m:a7 c F₁ bs₁ ak {ak with heap:=ak.heap.push (kD rs)}:=⟨λb o e=>cC _ e,Z,Z⟩
 obtain ha:({ak with heap:=ak.heap.push (kD rs)}:Gb).heap.get? ak.heap.objs.size=AN (kD rs):=dB _ Z;refine ⟨_,bs₁,.tup vs,ai,an.trans (.frozen m hF hn),aC.jS m hn ha,.tup bU ?_,k⟩;simpa using bh.mono (nb:=[]) (aY hF) bn
theorem lM (h:pz c C pos es S (lstK K) X):Ev c C (.List es pos) S K X:=by
 intro A F bs s hA z;refine akR (aS (h A F bs s hA z) (λrs ak ⟨F₁,bs₁,vs,ai,an,aC,bn,hl,k⟩=>⟨by rw [bn.length];exact hl,?_⟩) λJ J e=>e);obtain hn:=gf (bP _);obtain hF:=aC.kF hn;obtain m:a7 c F₁ bs₁ ak {ak with heap:=ak.heap.push (bu rs 0)}:=⟨λb o e=>cC _ e,Z,Z⟩
 obtain ha:({ak with heap:=ak.heap.push (bu rs 0)}:Gb).heap.get? ak.heap.objs.size=AN (bu rs 0):=dB _ Z;refine ⟨_,bs₁,.lst vs,ai,an.trans (.frozen m hF hn),aC.jS m hn ha,.lst (cj 0 bU) ?_,k⟩;simpa using bh.mono (nb:=[]) (aY hF) bn
theorem St.newList (z:St c C F bs S s){vs:bZ}{rs:iE}(bn:c.Vs F bs vs rs):let s':Gb:={s with heap:=s.heap.push (bu rs 0)}
 Step C.own F bs s.heap F (bs++[s.heap.objs.size]) s'.heap/\St c C F (bs++[s.heap.objs.size]) {S with heap:=S.heap++[.list vs]} s'/\c.V F (bs++[s.heap.objs.size]) (.ref S.heap.length) (.ref s.heap.objs.size):=by
 intro s';obtain hn:=gf (bP _);obtain m:a7 c F bs s s':=⟨λb o e=>cC _ e,Z,Z⟩
 obtain ha:s'.heap.get? s.heap.objs.size=AN (bu rs 0):=dB _ Z;refine (aV (.new m hn) (z.new m hn ha (af rs (cj 0 ha) (bh.mono (λJ J e=>e) bn))) (.ref (z.wd.len▸?_)));simp
theorem iS (h:pz c C pos es S (adt K) X):Ev c C (.List es pos) S K X:=by
 intro A F bs s hA z;refine akR (aS (h A F bs s hA z) (λrs ak ⟨F₁,bs₁,vs,ai,an,aC,bn,hl,k⟩=>⟨by refine rE bn.length ?_;exact hl,?_⟩) λJ J e=>e);exact RR (aC.newList bn) λa1 a2 a3=>⟨F₁,_,_,_,an.trans a1,a2,a3,k⟩
theorem St.uO (B:Base c mg mb)(z:St c C F bs S s)(hn:s.heap.get? a=Wm):(a==wW)=Wp:=by
 refine Ml B.JF λo e=>Ml (z.wd.old.there _ _ e) λo' e'=>?_;obtain this:a≠wW:=λq=>by subst q;rw [e'] at hn;cases hn
 simpa using this
theorem adv (B:Base c mg mb)(k:K (.ref S.heap.length) {S with heap:=S.heap++[.aN []]}):Ev c C (.Dict [] [] pos) S K X:=by
 intro A F bs s hA z;refine alx ?_;obtain hn:=gf (bP _);obtain m:a7 c F bs s {s with heap:=s.heap.push (a9 #[] 0)}:=⟨λb o e=>cC _ e,Z,Z⟩
 obtain ha:({s with heap:=s.heap.push (a9 #[] 0)}:Gb).heap.get? s.heap.objs.size=AN (a9 #[] 0):=dB _ Z;refine ⟨F,_,.ref S.heap.length,_,.new m hn,z.new (o:=.aN []) m hn ha (af [] ⟨#[],0,ha,λe he=>by simp at he,?_,Nq,z.uO B hn⟩ (.nil)),.ref ?_,k⟩
 . exact .nil
 . refine z.wd.len▸?_;simp
end
structure eF (wr:aJ)(s s':Gb):Prop where
 same:∀b,b∉wr->∀o,s.heap.get? b=AN o->s'.heap.get? b=AN o
 os:s'.os=s.os
 gens:s'.gens=s.gens
theorem OldK.oo {wr:aJ}(x:OldK h₀ h)(ha:∀a∈wr,h₀.get? a=Wm)(k:∀b,b∉wr->∀o,h.get? b=AN o->h'.get? b=AN o):OldK h₀ h':=by
 have ne:∀b o,h₀.get? b=AN o->b∉wr:=λb o e q=>by exact bM (aM (ar (ha b q)) e)
 refine ⟨λb o e=>?_,λb o e=>Ml (x.there b o e) λo' e'=>(cj o' (k _ (ne b o e) _ e'))⟩;rcases x.old b o e with z | ⟨t,hc,vs,V9,hv,z⟩ | ⟨rfl,hc,⟨o',es,n,vT,r⟩,z⟩
 . exact .inl (k _ (ne b o e) _ z)
 . exact .inr (.inl ⟨t,hc,vs,V9,hv,(k _ (ne b o e) _ z)⟩)
 . exact .inr (.inr (jr Z hc (lF o' es n (k _ (ne _ o e) _ vT) r) (λkey=>by refine aa (akq ((k _ (ne _ o e) _ vT).trans vT.symm) key) ?_;exact z key)))
theorem iO.oo {wr:aJ}(x:iO c F h)(ha:∀a∈wr,c.h₀.get? a=Wm)(k:∀b,b∉wr->∀o,h.get? b=AN o->h'.get? b=AN o):iO c F h':=
 ⟨OldK.oo x.toOldK ha k,λP q e=>let ⟨h1,⟨o,h2⟩,ps,h3,h4⟩:=x.tabs P q e;⟨h1,(cj o h2),ps,(k _ (λz=>by exact bM (aM (ar (ha _ z)) h2)) _ h3),h4⟩⟩
structure cx (c:aZ)(C:Cx)(F:G)(bs:aJ)(wr:aJ)(h:Xi):Prop where
 free:∀a∈wr,dI c C F bs a
 at_:∀a∈wr,∃o,h.get? a=AN o/\o.cls≠.none/\o.cls≠.type "frame"
section
variable {S S':AS}{s s':Gb}{wr:aJ}
theorem St.frees (z:St c C F bs S s)(t:eF wr s s')(f:cx c C F bs wr s.heap):St c C F bs S s':=by
 have hL:C.env.locals∉wr:=λe=>(f.free _ e).own z.cU;have k:∀b o,b∉wr->s.heap.get? b=AN o->s'.heap.get? b=AN o:=λb o q e=>t.same b q _ e;obtain nb:∀b∈bs,b∉wr:=λb m q=>(f.free b q).bs m;obtain hF:∀b o,F b=AN o->b∉wr:=λb o e q=>by exact bM (aM (ar ((f.free b q).F)) e)
 refine Va z.locs λmm hN hl=>?_;refine ⟨⟨λb o e=>k b o (hF b o e) (z.wd.sub b o e),z.wd.base,iO.oo z.wd.old (λa ha=>?_) t.same,z.wd.len,z.wd.nodup,
  λj b ao e1 e2=>⟨(z.wd.obj j b ao e1 e2).1.at λob e=>k b ob (nb b (bO e1)) e,(z.wd.obj j b ao e1 e2).2⟩,
  λb m=>(Ml (z.wd.there b m) λo e=>(cj o (k b o (nb b m) e))),t.os.trans z.wd.os,t.gens.trans z.wd.gens,z.wd.kept⟩,
  (af mm ?_ (λy v e=>(hl y v e).heap λx b o e1 e2=>(af o (k b o (λq=>(f.free b q).cells x e1) e2) Z))),?_,z.cU,λb hb=>?_,λy b e=>?_,z.apart,λe he=>⟨?_,(z.frames e he).2⟩,z.glob,z.blt,z.kind,z.qg,z.iu⟩
 . exact N1 (f.at_ a ha) λo h1 h2 J=>z.wd.iP (f.free a ha).F (af o h1 h2)
 . refine VN hN λo es ep ho r=>?_;exact (lF o es ep (k _ _ hL ho) r)
 . refine Va z.ir λo e n=>?_;exact (af o (k _ _ hL e) n)
 . obtain ⟨h1,h2,o,h3⟩:=z.own b hb;exact (nY h1 h2 o (k b o (λq=>(f.free b q).own hb) h3))
 . obtain ⟨h1,h2,o,h3,h4⟩:=z.cells y b e;exact (aV h1 h2 ⟨o,k b o (λq=>(f.free b q).cells y e) h3,h4⟩)
 . obtain ⟨hk,L,o,h1,h2,h3⟩:=(z.frames e he).1;exact ⟨hk,L,o,h1,k _ _ (λq=>(f.free L q).frames e he h1) h2,h3⟩
theorem cx.wA (f:cx c C F bs wr s.heap)(hw:∀a∈wr,a∉own)(st:Step own F bs s.heap F' aK s'.heap):cx c C F' aK wr s'.heap/\∀a∈wr,∀o,s.heap.get? a=AN o->s'.heap.get? a=AN o:=by
 have key:∀a∈wr,∀o,s.heap.get? a=AN o->s'.heap.get? a=AN o:=λa ha o e=>by refine N1 (f.at_ a ha) λo' h1 h2 h3=>?_;obtain rfl:=bf (aM (ar e) h1);refine Va (st.eP a o e (hw a ha) (f.free a ha).bs h2) λo' e' sm=>?_;rw [sm.rh h3] at e';exact e'
 refine ⟨⟨λa ha=>?_,λa ha=>?_⟩,key⟩
 . exact Va (f.at_ a ha) λo h1 J=>(f.free a ha).step st h1
 . refine N1 (f.at_ a ha) λo h1 h2 h3=>?_;exact (aU o (key a ha o h1) h2 h3)
theorem cx.step (f:cx c C F bs wr s.heap)(st:Step C.own F bs s.heap F' aK s'.heap):cx c C F' aK wr s'.heap/\∀a∈wr,∀o,s.heap.get? a=AN o->s'.heap.get? a=AN o:=
 f.wA (λa ha=>(f.free a ha).own) st
theorem Step.others (st:Step own F bs h F' aK im)(hn:∀a∈wr,h.get? a=Wm)(k:∀b,b∉wr->∀o,im.get? b=AN o->h'.get? b=AN o):Step own F bs h F' aK h':=by
 have ne:∀b o,h.get? b=AN o->b∉wr:=λb o e q=>by exact bM (aM (ar (hn b q)) e)
 refine ⟨st.sub,st.ext,λb o e=>?_,λb o e n1 n2 n3=>?_,st.jS⟩
 . refine Ml (st.mono b o e) λo' e'=>?_;exact (cj o' (k b (ne b o e) _ e'))
 . refine Va (st.eP b o e n1 n2 n3) λo' e' s'=>?_;exact (af o' (k b (ne b o e) _ e') s')
end
theorem Step.lN (t:eF wr s s')(f:∀a∈wr,∃o',s'.heap.get? a=AN o'):Step (wr++own) F bs s.heap F bs s'.heap:=
 ⟨λJ J e=>e,(af [] (by simp) (by simp)),λb o e=>by
  by_cases q:b∈wr
  . exact f b q
  . exact (cj o (t.same b q _ e)),λb o e n1 J J=>(af o (t.same b (λq=>n1 (fz (.inl q))) _ e) (.refl o)),λb o e n=>by lia⟩
theorem Step.Ii (gP:Step own F₀ bs₀ h₀ F bs h)(hn:∀a∈wr,h₀.get? a=Wm)(st:Step (wr++own) F bs h F' aK h'):Step own F₀ bs₀ h₀ F' aK h':=
 Step.widen ((Step.widen gP λa ha=>.inl (fz (.inr ha))).trans st) λa ha=>(cH ha).elim (λq=>.inr (hn a q)) .inl
def wB (c:aZ)(C:Cx)(t:Nn)(v:AV)(S:AS)(K:dp):Prop:=
 match t,v with
 | .Tuple ts _ _,.tup xs=>ts.length=xs.length/\(yD ts C.env=ts.map λt=>(Wp,assign t C.env))/\AM c C (ts.zip xs) S K fy
 | t,v=>wm c C t v S K fy
structure Ce (c:aZ)(target:Nn)(it:Wr)(items:bZ)(live:aR->Prop)(wr:aJ)(Pos:Nat->G->aJ->nj):Prop where
 C4:∀{C:Cx} {i own F bs S s F' aK S' s'},Pos i F bs s->cx c C F bs wr s.heap->(∀a∈wr,a∉own)->St c C F bs S s->Step own F bs s.heap F' aK s'.heap->St c C F' aK S' s'->Pos i F' aK s'
 next:∀{C:Cx} {A:M5} {i F bs S s} (N:nj) (Y:nj) (E:pF) (K:dp),lp C A->C.handled=Wm->St c C F bs S s->live S.heap->Pos i F bs s->cx c C F bs wr s.heap->
  (items[i]?=Wm->∀s',St c C F bs S s'->eF wr s s'->N s')->
  (∀y,items[i]?=AN y->wB c C target y S K/\∀F' aK S' s',St c C F' aK S' s'->cx c C F' aK wr s'.heap->Pos (i+1) F' aK s'->K S'->
   Step (wr++C.own) F bs s.heap F' aK s'.heap->Y s')->
  Dk (model c.prog c.w) A (yQ (.ref it)) (λr ak=>match r with
   | none=>N ak
   | some v=>Dk (model c.prog c.w) A (Yv target (.ref it) v) (λJ qi=>Dk (model c.prog c.w) A (assign target C.env v) (λJ am=>Y am) E qi) E ak) E s
 self:∀{A:M5} {i F bs} {s:Gb} (Q:pF) (E:pF),A.handled=Wm->Pos i F bs s->Q (.ref it) s->Dk (model c.prog c.w) A (Hh (.ref it)) Q E s
theorem Ce.keep {Pos:Nat->G->aJ->nj}(W:Ce c target it items live wr Pos)(p:Pos i F bs s)(f:cx c C F bs wr s.heap)(z:St c C F bs S s)(st:Step C.own F bs s.heap F' aK s'.heap)(z':St c C F' aK S' s'):Pos i F' aK s':=
 W.C4 p f (λa ha=>(f.free a ha).own) z st z'
inductive WB (c:aZ)(C:Cx)(target:Nn)(F:G)(bs:aJ)(h₀:Xi)(K:bZ->(aR->Prop)->dp)(r:Ws)(s':Gb):Prop
 | mk (F':G) (aK:aJ) (S':AS) (it:Wr) (items:bZ) (live:aR->Prop) (wr:aJ) (Pos:Nat->G->aJ->nj) (e:r=.ref it) (st:Step C.own F bs h₀ F' aK s'.heap) (z:St c C F' aK S' s')
   (W:Ce c target it items live wr Pos) (p:Pos 0 F' aK s') (hn:∀a∈wr,h₀.get? a=Wm) (f:cx c C F' aK wr s'.heap) (hl:live S'.heap) (hk:K items live S')
def jW (c:aZ)(C:Cx)(target iter:Nn)(S:AS)(K:bZ->(aR->Prop)->dp)(X:cR):Prop:=
 ∀A F bs s,lp C A->St c C F bs S s->
  Dk (model c.prog c.w) A (eval iter C.env) (λxv ak=>Dk (model c.prog c.w) A (Hh xv)
   (WB c C target F bs s.heap K)
   (WX c C F bs s.heap X) ak)
   (WX c C F bs s.heap X) s
section
variable {K:gX}{pos:Pos}
theorem adw {Pos:Nat->G->aJ->nj}(hh:C.handled=Wm)(W:Ce c target it items live wr Pos)(I:CV)(rA:∀i S',I i S'->live S'.heap)(VG:∀i y S',items[i]?=AN y->I i S'->wB c C target y S' (U2 c C body (wu (I (i+1)) K) fy))(done:∀S',I items.length S'->K .next S')(hA:lp C A)(h0:I 0 S)(z:St c C F bs S s)(hn:∀a∈wr,h₀.get? a=Wm)(gP:Step C.own F₀ bs₀ h₀ F bs s.heap)(mT:cx c C F bs wr s.heap)(hp:Pos 0 F bs s): Dk (model c.prog c.w) A (runOwn (.forLoop target (.ref it) body [] C.env) C.env) (WV c C (n7 c) F₀ bs₀ h₀ K) (WX c C F₀ bs₀ h₀ fy) s:=by
 refine Bf ?_;refine aks (λk s'=>∃F' aK S' i,Step C.own F₀ bs₀ h₀ F' aK s'.heap/\St c C F' aK S' s'/\cx c C F' aK wr s'.heap/\I i S'/\Pos i F' aK s'/\i<=items.length/\k=items.length+1-i) ?_ (items.length+1)
  (kB F bs S 0 gP z mT h0 hp (Dv _) zx)
 intro k am o1;refine MJ o1 λaP aB aF i o3=>?_;clear o1;refine FO o3 λav aI AC hI zL hi o4=>?_;clear o3;obtain rfl:=o4;have:=W.next (λak=>Dk (model c.prog c.w) A (execs [] C.env) (λf aO=>(match (Except.ok f:Except Ws Flow) with | .ok f=>WV c C (n7 c) F₀ bs₀ h₀ K f aO | .error _=>False)) (λJ J=>False) ak)
  (λwv=>Dk (model c.prog c.w) A (execs body C.env) (λf aO=>match f with
   | .next | .cont=>∃m,m<items.length+1-i/\∃F' aK S' i,Step C.own F₀ bs₀ h₀ F' aK aO.heap/\St c C F' aK S' aO/\cx c C F' aK wr aO.heap/\I i S'/\Pos i F' aK aO/\i<=items.length/\m=items.length+1-i
   | .brk=>WV c C (n7 c) F₀ bs₀ h₀ K .next aO
   | .ret v=>WV c C (n7 c) F₀ bs₀ h₀ K (.ret v) aO) (λJ J=>False) wv) (λJ J=>False)
  (U2 c C body (wu (I (i+1)) K) fy) hA hh aI (rA i aF hI) zL AC ?_ ?_
 . refine aS this (λr ak h₁=>?_) λJ J e=>e.elim;cases r with
   | none=>exact aS h₁ (λf aO lO=>lO) λJ J e=>e.elim
   | some v=>exact aS h₁ (λJ qi ww=>aS ww (λJ wv C6=>aS C6 (λf aO lO=>by cases f <;> exact lO) λJ J e=>e.elim) λJ J e=>e.elim) λJ J e=>e.elim
 . intro he s' z' t;refine Yw ?_;obtain nt:i=items.length:=by rw [Gu] at he;exact zB hi he
   clear he hi zL;subst nt;exact ⟨aP,aB,.next,aF,av.others hn t.same,z',Z,done aF hI⟩
 . intro y hy;refine ⟨VG i y aF hy hI,λF' aK S' s' z' f' p' k' up=>?_⟩;obtain stN:=av.Ii hn up;refine aS (k' A F' aK s' hA z') (λf fe WC=>WC.casesOn λfc dq fl dJ dW eT hf lr=>?_) (λJ J q82=>q82.casesOn λJ J J J J J J q=>q.elim);have C7:=stN.trans dW;obtain Ge:=(bA hy).1;obtain Ij:=W.keep p' f' z' dW eT;obtain Ik:=(f'.step dW).1;cases fl with
   | next=>cases hf;exact (lE _ (qH hi) fc dq dJ (i+1) C7 eT Ik lr Ij Ge Z)
   | cont=>cases hf;exact (lE _ (qH hi) fc dq dJ (i+1) C7 eT Ik lr Ij Ge Z)
   | brk=>clear WC;subst hf;exact ⟨fc,dq,.next,dJ,C7,eT,Z,lr⟩
   | ret u=>clear WC;refine Va hf λru o2 WD=>?_;clear hf;obtain rfl:=o2;exact ⟨fc,dq,.ret u,dJ,C7,eT,(af ru Z WD),lr⟩
inductive adx (c:aZ)(C:Cx)(t:Nn)(body:fW)(K:gX)(items:bZ)(live:aR->Prop)(ai:AS):Prop
 | mk (I:CV) (h0:I 0 ai) (hl:∀i S',I i S'->live S'.heap) (VG:∀i y S',items[i]?=AN y->I i S'->wB c C t y S' (U2 c C body (wu (I (i+1)) K) fy)) (done:∀S',I items.length S'->K .next S')
theorem eU {t iter:Nn}{body:fW}(hh:C.handled=Wm)
 (h:jW c C t iter S (adx c C t body K) fy)
 (hs:∀x,XF iter C.env x=pure x:=by intro _;rfl):lB c C (.For t iter body [] pos) S K fy:=by
 intro A F bs s hA z
 refine WP.standAt ?_;obtain w:=h A F bs s hA z;exact ag (aS w (λxv ge C8=>aa (hs _) (ag (aX (ag (yr (ag (pa (aS C8 (λr ak ⟨F₁,bs₁,ai,it,items,live,wr,Ps,e,st,aC,W,JV,hn,hf,hl,I,h0,rA,VG,done⟩=>rE e (adw hh W I rA VG done hA h0 aC hn st hf JV)) λJ J e=>e)))))))) λJ J e=>e)
end
section
variable {s s':Gb}
theorem rB {K:dp}{Y:nj}(hA:lp C A)(z:St c C F bs S s)(hv:c.V F bs y v)(ha:wB c C (.Name x px) y S K)(hY:∀F' aK S' s',Step C.own F bs s.heap F' aK s'.heap->St c C F' aK S' s'->K S'->Y s'): Dk (model c.prog c.w) A (Yv (.Name x px) it v) (λJ qi=>Dk (model c.prog c.w) A (assign (.Name x px) C.env v) (λJ am=>Y am) E qi) E s:=by
 refine NT (show Yv (.Name x px) it v=pure () from Z) ?_;obtain V6:wm c C (.Name x px) y S K fy:=by cases y <;> exact ha
 exact aS (V6 A F bs s v hA z hv) (λJ am MY=>MY.casesOn λF' aK J S' st z' J k=>hY F' aK S' am st z' k) λJ J q12=>q12.casesOn λJ J J J J J J q=>q.elim
theorem Ce.walks (W:∀A:M5,A.handled=Wm->Walks c.prog c.w A it fp wr n P Stt)(hn:n=items.length)(JW:∀b∈fp,b∈wr\/∃o,F₀ b=AN o)(hP:∀i v,i<n->P i v->∃y,items[i]?=AN y/\c.V F₀ bs₀ y v)(CW:∀i h,Stt i h->∀b∈wr,∃o,h.get? b=AN o/\o.cls≠.none/\o.cls≠.type "frame"): Ce c (.Name x px) it items (λJ=>True) wr (λi F bs s=>Stt i s.heap/\i<=n/\(∀b o,F₀ b=AN o->F b=AN o)/\∃nb,bs=bs₀++nb):=by
 have keep:∀{C:Cx} {i own F bs S s F' aK S' s'},(Stt i s.heap/\i<=n/\(∀b o,F₀ b=AN o->F b=AN o)/\∃nb,bs=bs₀++nb)->cx c C F bs wr s.heap->(∀a∈wr,a∉own)->St c C F bs S s->Step own F bs s.heap F' aK s'.heap->St c C F' aK S' s'->
  (Stt i s'.heap/\i<=n/\(∀b o,F₀ b=AN o->F' b=AN o)/\∃nb,aK=bs₀++nb):=by
  intro C i own F bs S s F' aK S' s' o1;obtain ⟨h1,hi,h2,nb,rfl⟩:=o1;intro hf hw z st z';refine Va st.ext λvR e J=>(ee ((W {} Z).frame i _ _ h1 λb hb o ho=>?_) hi (λb o e=>st.sub _ _ (h2 _ _ e)) (nb++vR) (by simp only [e,MW]))
  (refine bz (JW b hb) (λq=>?_) (λJH=>?_);rotate_left;refine Ml JH λo' q=>?_;rotate_right)
  . exact (hf.wA hw st).2 b q o ho
  . obtain this:=z.wd.sub _ _ (h2 _ _ q);exact rE (bf (aM (ar ho) this)) (z'.wd.sub _ _ (st.sub _ _ (h2 _ _ q)))
 refine ⟨keep,?_,?_⟩
 . intro C A i F bs S s N Y E K hA hh z _ o2;obtain ⟨h1,hi,h2,nb,rfl⟩:=o2;intro hf hN hY;obtain WA:=W A (hA.handled.trans hh);by_cases dc:i<n
   . refine WA.item i s _ _ dc h1 λv h' tk Mf be hk=>Va (hP i v dc Mf) λy hy hv=>XZ (hY y hy) λha hc=>?_;have t:eF wr s {s with heap:=h',toks:=tk}:=⟨λb hb o e=>hk b o hb e,Z,Z⟩
     obtain aC:=z.frees t hf;have jA:cx c C F (bs₀++nb) wr h':=⟨hf.free,CW _ _ be⟩
     refine rB hA aC (cW.mono h2 hv) ha λF' aK S' s' st z' k=>?_;exact hc F' aK S' s' z' (jA.step st).1 (keep (ee be dc h2 nb Z) jA (λa ha=>(jA.free a ha).own) aC st z') k
      ((Step.lN t λa ha=>Va (jA.at_ a ha) λo e J=>(cj o e)).trans (st.widen λa ha=>.inl (fz (.inr ha))))
   . obtain nt:=qP hi dc;clear dc hY;cases nt;refine WA.done s _ _ h1 λh' tk hk=>?_;obtain t:eF wr s {s with heap:=h',toks:=tk}:=⟨λb hb o e=>hk b o hb e,Z,Z⟩
     exact hN (by simp [hn]) _ (z.frees t hf) t
 . intro A i F bs s Q E hh o3;obtain ⟨h1,hi,h2,nb,rfl⟩:=o3;intro hq;exact (W A hh).self i s Q E h1 hq
theorem Ce.list (hv:c.V F₀ bs₀ v (.ref l)): Ce c (.Name x px) it items (λH=>dD ⟨[],H⟩ v items) [it] (λi F bs s=>s.heap.IsListIter it l i/\i<=items.length/\(∀b o,F₀ b=AN o->F b=AN o)/\∃nb,bs=bs₀++nb):=by
 have keep:∀{C:Cx} {i own F bs S s F' aK S' s'},(s.heap.IsListIter it l i/\i<=items.length/\(∀b o,F₀ b=AN o->F b=AN o)/\∃nb,bs=bs₀++nb)->cx c C F bs [it] s.heap->(∀a∈[it],a∉own)->St c C F bs S s->Step own F bs s.heap F' aK s'.heap->St c C F' aK S' s'->
  (s'.heap.IsListIter it l i/\i<=items.length/\(∀b o,F₀ b=AN o->F' b=AN o)/\∃nb,aK=bs₀++nb):=by
  intro C i own F bs S s F' aK S' s' o1;obtain ⟨⟨o,h1,r⟩,hi,h2,nb,rfl⟩:=o1;intro hf hw z st z';exact Va st.ext λvR e J=>(ee (af o ((hf.wA hw st).2 it (.head _) o h1) r) hi (λb o e=>st.sub _ _ (h2 _ _ e)) (nb++vR) (by refine aa e ?_;rw [MW]))
 refine ⟨keep,?_,?_⟩
 . intro C A i F bs S s N Y E K hA hh z hl o2;obtain ⟨h1,hi,h2,nb,rfl⟩:=o2;intro hf hN hY;refine Cc (z.seq hl (cW.mono h2 hv)) λl' vs e hL bn J=>?_;obtain rfl:=K6 e;cases hx:items[i]? with
   | none=>
     refine ajU (hA.handled.trans hh) h1 hL.isList (by simpa using bn.get_none hx) λh' qQ=>?_;obtain t:eF [it] s {s with heap:=h'}:=⟨λb hb o e=>qQ b o (by simpa using hb) e,Z,Z⟩
     exact hN hx _ (z.frees t hf) t
   | some y=>
     refine Va (bn.get hx) λrv hrv hvy=>ajC h1 hL.isList (by simpa using hrv) λlO C9 eA=>XZ (hY y hx) λha hc=>?_;have t:eF [it] s {s with heap:=lO}:=⟨λb hb o e=>(eA.2 b (by simpa using hb)).trans e,Z,Z⟩
     obtain aC:=z.frees t hf;have jA:cx c C F (bs₀++nb) [it] lO:=⟨hf.free,λa ha=>by refine rE (bN ha) ?_;refine N1 C9 λo q1 q2 J=>?_;exact (aU o q1 (by lia) (by lia))⟩
     refine rB hA aC hvy ha λF' aK S' s' st z' k=>?_;exact hc F' aK S' s' z' (jA.step st).1 (keep (ee C9 ((bA hx).1) h2 nb Z) jA (λa ha=>(jA.free a ha).own) aC st z') k
      ((Step.lN t λa ha=>Va (jA.at_ a ha) λo e J=>(cj o e)).trans (st.widen λa ha=>.inl (fz (.inr ha))))
 . intro A i F bs s Q E hh o3;obtain ⟨h1,hi,h2,nb,rfl⟩:=o3;intro hq;exact wpAny_pyIter_listiter h1 hq
theorem wC {K:bZ->(aR->Prop)->dp}(h:Ev c C iter S (λv ai=>∀A F bs s r,lp C A->St c C F bs ai s->c.V F bs v r->Dk (model c.prog c.w) A (Hh r) (WB c C t F bs s.heap K) (WX c C F bs s.heap X) s) X):jW c C t iter S K X:=by
 intro A F bs s hA z;refine aS (h A F bs s hA z) (λr ak q21=>q21.casesOn λF₁ bs₁ v ai an aC hv tj=>?_) λJ J e=>e;refine aS (tj A F₁ bs₁ ak r hA aC hv) (λr s' ⟨F',aK,S',it,items,live,wr,Ps,e,st,z',W,p,hn,hf,hl,k⟩=>⟨F',aK,S',it,items,live,wr,Ps,e,an.trans st,z',W,p,λa ha=>?_,hf,hl,k⟩)
  λx s' q22=>q22.casesOn λF' aK cls S' st z' hx k=>⟨F',aK,cls,S',an.trans st,z',hx.back an.mono,k⟩
 cases q:s.heap.get? a with
 | none=>rfl
 | some o=>refine Ml (an.mono _ _ q) λo' e'=>?_;exact bM (aM (ar (hn a ha)) e')
theorem cx.one (z:St c C F bs S s)(hn:s.heap.get? a=Wm)(ho:h'.get? a=AN o)(h1:o.cls≠.none)(h2:o.cls≠.type "frame"):cx c C F bs [a] h':=
 ⟨λb hb=>by simp only [bN hb];exact z.fg hn,λb hb=>by refine aa (bN hb) ?_;exact (aU o ho h1 h2)⟩
abbrev ady (K:bZ->(aR->Prop)->dp):cu:=λv S=>∃xs,dD S v xs/\K xs (λH=>dD ⟨[],H⟩ v xs) S
abbrev adz (K:bZ->(aR->Prop)->dp):cu:=λv S=>∃xs,v=.tup xs/\K xs (λJ=>True) S
theorem fN {K:bZ->(aR->Prop)->dp}(h:Ev c C iter S (ady K) X):jW c C (.Name x px) iter S K X:=by
 refine wC (kG h λv ai q23=>Va q23 λxs AP k A F bs s r hA z hv=>?_);refine Cc (z.seq AP hv) λl vs F1 hL bn J=>?_;obtain rfl:=F1;refine Y3 hL.isList ?_;obtain hn:=gf (bP _);obtain ha:(s.heap.push {cls:=.type "list_iterator",data:=.fields #[.ref l,.int 0 0]}).get? s.heap.objs.size=AN {cls:=.type "list_iterator",data:=.fields #[.ref l,.int 0 0]}:=dB _ Z;obtain m:a7 c F bs s {s with heap:=s.heap.push {cls:=.type "list_iterator",data:=.fields #[.ref l,.int 0 0]}}:=⟨λb o e=>cC _ e,Z,Z⟩
 exact ⟨F,bs,ai,_,xs,_,_,_,Z,.keep m,z.keep m,Ce.list hv,(ee (aU _ ha Z Z) (Dv _) (λJ J e=>e) [] (by simp)),λa q=>by refine aa (bN q) ?_;exact hn,cx.one z hn ha (by simp) (by simp),AP,k⟩
theorem oq {K:bZ->(aR->Prop)->dp}(h:Ev c C iter S (adz K) X):jW c C (.Name x px) iter S K X:=by
 refine wC (kG h λv ai MZ=>Va MZ λxs e k A F bs s r hA z hv=>?_);clear MZ;subst e;refine dr hv.inv λa vs BS ht bn=>?_;refine rE BS ?_;obtain MO:s.heap.IsTuple a vs.toArray:=(di _ (z.wd.sub _ _ ht) Z 0 Z)
 refine wpAny_pyIter_tuple MO ?_;obtain hn:s.heap.get? s.heap.objs.size=Wm:=gf (bP _);obtain ha:(s.heap.push {cls:=.type "tuple_iterator",data:=.fields #[.ref a,.int 0 0]}).get? s.heap.objs.size=AN {cls:=.type "tuple_iterator",data:=.fields #[.ref a,.int 0 0]}:=dB _ Z;obtain m:a7 c F bs s {s with heap:=s.heap.push {cls:=.type "tuple_iterator",data:=.fields #[.ref a,.int 0 0]}}:=⟨λb o e=>cC _ e,Z,Z⟩
 obtain eQ:a≠s.heap.objs.size:=cI (M7 (z.wd.sub _ _ ht));refine ⟨F,bs,ai,_,xs,_,[s.heap.objs.size],_,Z,.keep m,z.keep m,Ce.walks (F₀:=F) (bs₀:=bs) (λA hA=>Walks.tuple hA s.heap.objs.size a eQ vs.toArray) (bn.length) ?_ ?_ ?_,
  (ee ⟨(aU _ ha Z Z),(di _ (m.keep _ _ (z.wd.sub _ _ ht)) Z 0 Z)⟩ (Dv _) (λJ J e=>e) [] (by simp)),λa q=>by refine aa (bN q) ?_;exact hn,cx.one z hn ha (by simp) (by simp),trivial,k⟩
 . intro b hb;rcases eO hb with e | hb
   . exact .inl (by simp [e])
   . exact aa (bN hb) (.inr (cj _ ht))
 . intro i v _ m0;obtain dc:i<vs.length:=by obtain this:=(agI.mp m0).1;exact this
   have M0:i<xs.length:=by simp only [<-bn.length];exact dc
   refine Va (bn.get (cm M0)) λv' h1 h2=>?_;obtain this:vs[i]?=AN v:=by simpa using m0
   exact rE (bf (aM (ar this) h1)) (af _ (cm M0) h2)
 . intro i h o1;refine XZ o1 λMd J=>?_;clear o1;refine N1 Md λo q1 q2 J=>?_;clear Md;intro b hb;exact rE (bN hb) (aU o q1 (by refine aa q2 ?_;simp) (by refine aa q2 ?_;simp))
theorem adA {x:Str}{px:Pos}{f:Nn}{args:cJ}{pos:Pos}{K:bZ->(aR->Prop)->dp}
 (h:Ev c C f S (λv ai=>v=.raw (.type "range")/\pz c C pos args ai (λvs aF=>∃a b d:Int,(vs=[.int b]/\a=0/\d=1\/vs=[.int a,.int b,.int d]/\d≠0/\ah1 (b-a) d=Wp)/\ah6 a b d=Wn/\
  ∃n:Nat,u0 a b d=n/\K ((WG n).map λ(i:Nat)=>AV.int (a+(i:Int)*d)) (λJ=>True) aF) X) X)
 (he:eval (.Call f args [] pos) C.env=(do YS pos (<-eval f C.env) [] (W3 pos (M4 args C.env)) (DN pos (Xk [] C.env))):=by rfl)
 (na:(W3 pos (M4 args C.env)).any (·.1)=Wp:=by rfl)
 (hl:mU (W3 pos (M4 args C.env))=Wp:=by rfl):jW c C (.Name x px) (.Call f args [] pos) S K X:=by
 intro A F bs s hA z;simp only [he];refine ag (aS (h A F bs s hA z) (λr ak dL=>dL.casesOn λF₁ bs₁ v ai an aC hv eR=>?_) λJ J e=>e);obtain ⟨e,tj⟩:=eR;subst e;obtain ⟨_,rfl⟩:=hv.inv;refine GR na (aS (gk hA aC tj hl) (λa am dL=>dL.casesOn λaP aB vs aF av aI wD S4=>?_) λx am WF=>WF.casesOn λaP aB cls aF av aI hx S4=>⟨aP,aB,cls,aF,an.trans av,aI,hx.back an.mono,S4⟩);obtain ⟨oj,bn⟩:=wD;refine rE oj ?_;obtain ⟨lo,hi,d,ot,hsm,n,hsz,bR⟩:=S4;have fin:∀(aO:Gb) (r:Wr) (t u w:Tok),a7 c aP aB am aO->IsRange aO.heap r lo hi d t u w->Dk (model c.prog c.w) A (Hh (.ref r)) (WB c C (.Name x px) F bs s.heap K)
  (WX c C F bs s.heap X) aO:=by
  intro aO r t u w m hr;refine akT hr hsm ?_;obtain a8:=aI.keep m;obtain hn:=gf (bP _);obtain ha:=dB aO.heap (o:={cls:=.type "range_iterator",data:=.fields #[A1 lo,A1 (u0 lo hi d),A1 d]}) Z;obtain m':a7 c aP aB aO {aO with heap:=aO.heap.push {cls:=.type "range_iterator",data:=.fields #[A1 lo,A1 (u0 lo hi d),A1 d]}}:=⟨λb o e=>cC _ e,Z,Z⟩
  have st:=(an.trans av).trans (.keep m);refine ⟨aP,aB,aF,_,_,_,[aO.heap.objs.size],_,Z,st.trans (.keep m'),a8.keep m',Ce.walks (F₀:=aP) (bs₀:=aB) (λA hA=>ano hA aO.heap.objs.size lo d n) (by simp) (λb hb=>.inl hb) ?_ ?_,
   (ee ?_ (Dv _) (λJ J e=>e) [] (by simp)),λa q=>?_,cx.one a8 hn ha (by simp) (by simp),trivial,bR⟩
  . intro i v hi o1;refine Ml o1 λt Fk=>?_;clear o1;obtain rfl:=Fk;exact (af (.int (lo+(i:Int)*d)) (by simp [hi]) (.int _ _))
  . rintro i h q b hb;exact rE (bN hb) (aU _ q (by simp) (by simp))
  . show (aO.heap.push {cls:=.type "range_iterator",data:=.fields #[A1 lo,A1 (u0 lo hi d),A1 d]}).get? aO.heap.objs.size=_;refine (ar ha)▸(ar hsz)▸?_;simp
  . refine rE (bN q) ?_;cases e:s.heap.get? aO.heap.objs.size with
    | none=>rfl
    | some o=>refine Ml (st.mono _ _ e) λo' e'=>?_;exact bM (aM (ar hn) e')
 clear bR hsz hsm;rcases ot with ⟨e,rfl,rfl⟩ | ⟨e,hd,hp⟩
 . subst e;obtain ⟨ps,kw⟩:=a;refine dr bn.inv λJ J Ib h1 h2=>?_;refine rE Ib ?_;refine Ml h1.inv λJ Ic=>?_;refine rE Ic ?_;clear bn oj;exact rE h2.inv (call_range_1 (fin _ _ _ _ _ ⟨λb o e=>cC _ e,Z,Z⟩ (alW ..)))
 . subst e;obtain ⟨ps,kw⟩:=a;refine dr bn.inv λJ J CP h1 h2=>?_;refine rE CP ?_;refine Ml h1.inv λJ BT=>?_;refine rE BT ?_;refine dr h2.inv λJ J BU h3 h4=>?_;refine rE BU ?_;refine Ml h3.inv λJ BV=>?_;refine rE BV ?_;refine dr h4.inv λJ J BW h5 h6=>?_;refine rE BW ?_;refine Ml h5.inv λJ BX=>?_;refine rE BX ?_;clear h4 bn oj h2;exact rE h6.inv (call_range_3 hd (fin _ _ _ _ _ ⟨λb o e=>cC _ e,Z,Z⟩ (alW ..)) (.inl hp))
end
section
variable {s s':Gb}
theorem bh.one (h:c.Vs F bs [x] rs):∃r,rs=[r]/\c.V F bs x r:=by cases h with | cons h1 h2=>cases h2;exact (af _ Z h1)
theorem bh.two (h:c.Vs F bs [x,y] rs):∃r q,rs=[r,q]/\c.V F bs x r/\c.V F bs y q:=by
 cases h with | cons h1 h2=>refine Va (bh.one h2) λq tH h3=>?_;refine rE tH ?_;exact (bW _ q Z h1 h3)
theorem St.gq (z:St c C F bs S s)(hv:c.V F bs (.ref k) r)(hk:S.heap[k]?=AN o):∃a,r=.ref a/\bs[k]?=AN a/\gg c F bs s.heap a o/\(o≠.gone->F a=Wm):=by
 cases hv with | ref h1=>exact (aU _ rfl h1 (z.wd.obj k _ _ h1 hk))
theorem St.mE (z:St c C F bs S s){k:Nat}{a:Wr}{xs xs':bZ}{vs vs':iE}{n:Nat}(hk:bs[k]?=AN a)(ho:S.heap[k]?=AN (.list xs))(h0:s.heap.get? a=AN (bu vs n))(bn:c.Vs F bs xs' vs')(f:Array Ws->Array Ws)(hf:(f vs.toArray).toList=vs') :
 let s':Gb:={s with heap:=s.heap.update a (OM f)}
 Step C.own F bs s.heap F bs s'.heap/\St c C F bs {S with heap:=S.heap.set k (.list xs')} s':=by
 intro s';obtain e:∃n',(bu vs n).mapSeq f=bu vs' n':=by refine (cj (if (f vs.toArray).size==vs.toArray.size then n else n+1) ?_);clear bn;subst hf;rfl
 obtain ⟨n',e⟩:=e;obtain g:s'.heap.get? a=AN (bu vs' n'):=by obtain this:=lD (f:=OM f) h0 (Z);rw [e] at this;exact this
 obtain hs:=AU ..;obtain T:fC a s s':=⟨λb q o e=>(hs.2 b q).trans e,(cj _ g),Z,Z⟩
 exact ⟨.upd T (.inl (bO hk)),z.upd T hk ho (by simp) (af vs' (cj n' g) bn)⟩
theorem gu (hk:S.heap[k]?=AN (.list xs))(hsz:xs.length<=Wo)(k':K .none {S with heap:=S.heap.set k (.list (xs++[x]))}):eJ c C (.builtin "list.append") [.ref k,x] S K X:=by intro A F bs s rs hA z hv;refine dr hv.two λr q o9 h1 h2=>?_;refine rE o9 ?_;clear hv;refine Cg (z.gq h1 hk) λa adB hb BT J=>?_;refine Va BT λvs F1 bn=>?_;clear BT;obtain ⟨n,h0⟩:=F1;refine rE adB ?_;refine hJ Gk (af _ h0 Z) aiM (aiv _ _) (ahx a vs.toArray n q (by simp [bn.length,hsz])) ?_;obtain this:=z.mE hb hk h0 (bn.append (.cons h2 .nil)) (λx=>x.push q) (by simp);exact ⟨h0,F,bs,.none,_,this.1,this.2,.none,k'⟩
theorem bh.erase (i:Nat)(h:c.Vs F bs xs vs):c.Vs F bs (xs.eraseIdx i) (vs.eraseIdx i):=by
 induction xs generalizing vs i with
 | nil=>refine rE h.inv ?_;exact .nil
 | cons x l ih=>
   refine dr h.inv λJ J o8 h1 h2=>?_;refine rE o8 ?_;cases i with
   | zero=>exact h2
   | succ i=>exact .cons h1 (ih i h2)
theorem adC (h1:-(2 ^ 63)<=i)(h2:i<2 ^ 63):agJ i=Wn:=by delta agJ;simp only [fA,decide_eq_true_eq];exact ⟨h1,h2⟩
set_option tactic.hygienic true in
theorem zM (hk:S.heap[k]?=AN (.list xs))(hsz:xs.length<=Wo)(hj:Y8 i xs.length=AN j)(hy:xs[j]?=AN y)(M2:-(2 ^ 63)<=i)(Ge:i<2 ^ 63)(k':K y {S with heap:=S.heap.set k (.list (xs.eraseIdx j))}):eJ c C (.builtin "list.pop") [.ref k,.int i] S K X:=by
 intro A F bs s rs hA z hv;refine dr hv.two λr q o7 h1 h2=>?_;refine rE o7 ?_;refine Cg (z.gq h1 hk) λa adD hb BU _=>?_;refine Va BU λvs BS bn=>?_;clear BU;obtain ⟨n,h0⟩:=BS;refine rE adD ?_;clear hv;refine Ml h2.inv λ_ o6=>?_;refine rE o6 ?_;refine Va (bn.get hy) λv WI WJ=>?_;refine hJ sy (af _ h0 Z) ajD (PySem.F.args_list_pop_2 _ _) (MeetsSeq.list_pop_at a vs.toArray n i _ j v (adC M2 Ge) (by simpa [bn.length] using hj) (by simpa using WI) (by simp [bn.length,hsz])) ?_;obtain this:=z.mE hb hk h0 (bh.erase j bn) (λx=>x.eraseIdxIfInBounds j) (by
  simp only [ai4]
  split
  . simp
  . rename_i hn;simp at hn;exact aa (List.eraseIdx_of_length_le hn) Z)
 exact ⟨h0,F,bs,y,_,this.1,this.2,WJ,k'⟩
set_option tactic.hygienic true in
theorem Dd (hk:S.heap[k]?=AN (.list (xs++[y])))(hsz:xs.length+1<=Wo)(k':K y {S with heap:=S.heap.set k (.list xs)}):eJ c C (.builtin "list.pop") [.ref k] S K X:=by
 intro A F bs s rs hA z hv;refine Va hv.one λr o5 h1=>?_;refine rE o5 ?_;clear hv;refine Cg (z.gq h1 hk) λa adE hb BV _=>?_;refine Va BV λvs Fk bn=>?_;clear BV;obtain ⟨n,h0⟩:=Fk;refine rE adE ?_;have tp:vs.length=xs.length+1:=by refine aa bn.length ?_;simp
 refine Va (bn.get (i:=xs.length) (x:=y) (by simp)) λv WI WJ=>?_;refine hJ sy (af _ h0 Z) ajD (PySem.F.args_list_pop_1 _) (MeetsSeq.list_pop_last a vs.toArray n v (by simpa [tp] using WI) (by simp [tp,hsz])) ?_;obtain e:(xs++[y]).eraseIdx xs.length=xs:=by refine aa (List.eraseIdx_append_of_length_le (bP _) _) ?_;simp
 obtain this:=z.mE (xs':=xs) (vs':=vs.eraseIdx xs.length) hb hk h0 (by obtain this:=bh.erase xs.length bn;rw [e] at this;exact this) (λx=>x.eraseIdxIfInBounds (vs.toArray.size-1)) (by
  have e2:vs.toArray.size-1=xs.length:=by simp [tp]
  simp only [ai4,e2]
  split
  . simp
  . rename_i hn;simp [tp] at hn)
 exact ⟨h0,F,bs,y,_,this.1,this.2,WJ,k'⟩
theorem adF (hk:S.heap[k]?=AN (.list xs))(hsz:xs.length<=Wo)(k':K .none {S with heap:=S.heap.set k (.list [])}):eJ c C (.builtin "list.clear") [.ref k] S K X:=by intro A F bs s rs hA z hv;refine Va hv.one λr o4 h1=>?_;refine rE o4 ?_;clear hv;refine Cg (z.gq h1 hk) λa adG hb BW J=>?_;refine Va BW λvs Ib bn=>?_;clear BW;obtain ⟨n,h0⟩:=Ib;refine rE adG ?_;refine hJ ajj (af _ h0 Z) PySem.F.entry_list_clear (PySem.F.args_list_clear_1 _) (AutoSeq1.list_clear_list_0 a vs.toArray n (by simp [bn.length,hsz])) ?_;obtain this:=z.mE hb hk h0 .nil (λJ=>#[]) (Z);exact ⟨h0,F,bs,.none,_,this.1,this.2,.none,k'⟩
theorem St.rC (z:St c C F bs S s)(h:dD S v xs)(hv:c.V F bs v r):∃l vs n,r=.ref l/\s.heap.get? l=AN (bu vs n)/\c.Vs F bs xs vs:=by refine Cc (z.seq h hv) λl vs e BX h2 J=>?_;refine Ml BX λn h1=>?_;clear BX;exact (fK l vs n e h1 h2)
end
def rD (K:cu)(xs:bZ)(S:AS):Prop:=K (.lst xs) S\/K (.ref S.heap.length) {S with heap:=S.heap++[.list xs]}
section
variable {s s':Gb}
theorem St.AQ (z:St c C F bs S s)(m:a7 c F bs s s')(hn:s.heap.get? a=Wm)(ha:s'.heap.get? a=AN (bu vs n))(bn:c.Vs F bs xs vs)(k:rD K xs S): WV c C c.V F bs s.heap K (.ref a) s':=by
 (refine bz k (λk=>?_) (λk=>?_))
 . obtain hF:=z.kF hn;refine ⟨_,bs,.lst xs,S,.frozen m hF hn,z.jS m hn ha,.lst (cj n bU) ?_,k⟩;simpa using bh.mono (nb:=[]) (aY hF) bn
 . refine ⟨F,_,.ref S.heap.length,_,.new m hn,z.new (o:=.list xs) m hn ha (af vs (cj n ha) (bh.mono (λJ J e=>e) bn)),.ref (z.wd.len▸?_),k⟩;simp
theorem St.gZ (s:Gb):s.heap.get? s.heap.objs.size=Wm:=gf (bP _)
theorem kH (h:dD S v xs)(hl:xs.length<2 ^ 63)(k:K (.int xs.length) S):eJ c C (.builtin "len") [v] S K X:=by
 intro A F bs s rs hA z hv;refine Va hv.one λr JH h1=>?_;refine rE JH ?_;refine FN (z.rC h h1) λl vs n JI h0 bn=>?_;refine rE JI ?_;refine WP.kept z λQ E q=>Calls.call_len_list (di _ h0 Z n Z) (by simp [bn.length];exact qI hl) (q _ _ (.toks ..) (af (.int xs.length) ?_ k));obtain this:((vs.toArray.size:Nat):Int)=xs.length:=by simp [bn.length]
 simp only [this];exact .int _ _
noncomputable def signs (x:Str):bZ:=x.cps.toList.map λc=>.str ⟨#[c]⟩
theorem adH (hh:C.handled=Wm)(hl:x.cps.size<=Wo)(k:rD K (signs x) S):eJ c C (.type "list") [.str x] S K X:=by
 intro A F bs s rs hA z hv;refine Va hv.one λr qR h1=>?_;refine rE qR ?_;refine Ml h1.inv λJ o9=>?_;refine rE o9 ?_;refine call_list_str (hA.handled.trans hh) x _ (λh' tk jp c' hk ha hi=>?_) hl;obtain m:a7 c F bs s {s with heap:=h',toks:=tk}:=⟨hk,Z,Z⟩
 refine z.AQ m (St.gZ s) (ha) ?_ k;obtain key:∀(cs:au) (vs:iE),vs.length=cs.length->(∀(j:Nat) (v:Ws),vs[j]?=AN v->∃d u,cs[j]?=AN d/\v=anQ ⟨#[d]⟩ u)->c.Vs F bs (cs.map λc=>AV.str ⟨#[c]⟩) vs:=by
  intro cs;induction cs with
  | nil=>intro vs hl _;cases vs with | nil=>exact .nil | cons=>simp at hl
  | cons d cs ih=>
    intro vs hl hj;cases vs with
    | nil=>simp at hl
    | cons v vs =>refine FL (hj 0 v Z) λd' u e1 e2=>?_;simp at e1;subst e1 e2;exact .cons (.str _ _) (ih vs (by simpa using hl) λj w hw=>by simpa using hj (j+1) w (hw))
 exact key _ _ (hi.1) λj v hj=>FL (hi.2 j v (by simpa using hj)) λd u e1 e2=>(d8 d u (by simpa using e1) e2)
theorem fP (k:K (.int (a+b)) S):iA c C (Y7 .Add) (.int a) (.int b) S K X:=λA F bs s ra rb hA z ha mZ=>by refine Ml ha.inv λJ o4=>?_;refine rE o4 ?_;refine Ml mZ.inv λJ o3=>?_;refine rE o3 ?_;exact WP.kept z λQ E q=>anK (q _ _ (.toks ..) (af _ (.int _ _) k))
theorem adI (k:K (.int (a-b)) S):iA c C (Y7 .Sub) (.int a) (.int b) S K X:=λA F bs s ra rb hA z ha mZ=>by refine Ml ha.inv λJ o2=>?_;refine rE o2 ?_;refine Ml mZ.inv λJ o1=>?_;refine rE o1 ?_;exact WP.kept z λQ E q=>anL (q _ _ (.toks ..) (af _ (.int _ _) k))
end
noncomputable def De (n:Nat)(S:AS):d7->Prop
 | []=>True
 | (i,v)::l=>S.loc.lookup i=AN v/\v.under n=Wn/\De n S l
noncomputable def AO.bX (n:Nat):aR->Bool
 | []=>Wn
 | o::l=>o.under n&&AO.bX n l
@[simp] theorem uon {n:Nat}:AO.bX n []=Wn:=rfl
@[simp] theorem uoc {n:Nat}{o:AO}{hs:aR}:AO.bX n (o::hs)=(o.under n&&AO.bX n hs):=rfl
theorem De.at (h:De n S l)(x:Nat)(u:AV)(e:l.lookup x=AN u):S.loc.lookup x=AN u/\u.under n=Wn:=by
 induction l with
 | nil=>exact bM e
 | cons p l ih=>
   rw [Xm] at e;cases q:x==p.1 with
   | true=>rw [q] at e;refine aa (eq_of_beq q) (az (bf e) ?_);exact ⟨h.1,h.2.1⟩
   | false=>rw [q] at e;exact ih h.2.2 e
theorem AO.rF (h:AO.bX n l=Wn):∀o∈l,AO.under n o=Wn:=by
 induction l with
 | nil=>intro o m;exact absurd m rH
 | cons p l ih=>
   intro o m;have h':(AO.under n p&&AO.bX n l)=Wn:=h;rw [fA] at h';rcases eO m with e | m
   . exact rE e h'.1
   . exact ih h'.2 o m
abbrev Il (n:Nat)(L:d7)(I:dp):dp:=λS=>De n S L/\AO.bX n (S.heap.take n)=Wn/\I ⟨L,S.heap.take n⟩
abbrev aaW (n:Nat)(L:d7)(I:dp)(K:gX):gX:=λfl S=>match fl with
 | .next=>Il n L I S
 | .cont=>Il n L I S
 | .brk=>K .next S
 | .ret v=>K (.ret v) S
noncomputable def gr (x:Str):bD:=x.cps.toList.map λc=>⟨#[c]⟩
theorem adJ (x:Str):signs x=(gr x).map AV.str:=by simp [signs,gr]
theorem adK (x:Str):(gr x).length=x.length:=by simp [gr,cv]
noncomputable def bC {κ α:Type}[DecidableEq κ](kvs:List (κ×α))(k:κ):Option α:=(kvs.find? λkv=>kv.1=k).map (·.2)
noncomputable def ct {κ α:Type}[DecidableEq κ](kvs:List (κ×α))(k:κ)(v:α):List (κ×α):=
 if kvs.any (λkv=>kv.1=k) then kvs.map (λkv=>if kv.1=k then (kv.1,v) else kv) else kvs++[(k,v)]
noncomputable def yj {κ α:Type}[DecidableEq κ](kvs:List (κ×α))(k:κ):List (κ×α):=kvs.filter λkv=>kv.1≠k
section
variable {s s':Gb}
theorem bE.keys (h:c.SV F bs kvs rs):rs.map (·.1)=kvs.map (·.1):=by
 induction kvs generalizing rs with
 | nil=>refine rE h.inv ?_;rfl
 | cons p l ih=>refine dr h.inv λJ J pt J t=>?_;refine rE pt ?_;exact congrArg (p.1::·) (ih t)
theorem bE.get (k:Str)(h:c.SV F bs kvs rs):(∃x v,bC kvs k=AN x/\Ze rs k=AN v/\c.V F bs x v)\/(bC kvs k=Wm/\Ze rs k=Wm):=by
 delta bC Ze;induction kvs generalizing rs with
 | nil=>obtain rfl:=h.inv;exact .inr ⟨Z,Z⟩
 | cons p l ih=>
   refine dr h.inv λw r wE hx t=>?_;refine rE wE ?_;refine (ar (lS))▸(ar (lS))▸?_;cases decide (p.1=k) with
   | true=>exact .inl (bW _ _ Z Z hx)
   | false=>exact ih t
theorem bE.any (k:Str)(h:c.SV F bs kvs rs):rs.any (λkv=>kv.1=k)=kvs.any (λkv=>kv.1=k):=by
 obtain e:=congrArg (anX · λx=>decide (x=k)) h.keys
 rwa [K0,K0] at e
theorem bE.map (k:Str)(h:c.SV F bs kvs rs)(hv:c.V F bs x v):c.SV F bs (kvs.map λkv=>if kv.1=k then (kv.1,x) else kv) (rs.map λkv=>if kv.1=k then (kv.1,v) else kv):=by
 induction kvs generalizing rs with
 | nil=>refine rE h.inv ?_;exact .nil
 | cons p l ih=>
   refine dr h.inv λw r wF hx t=>?_;refine rE wF ?_;refine aa WW (aa WW ?_);by_cases e:p.1=k
   . exact aa (if_pos e) (aa (if_pos e) (.cons hv (ih t)))
   . exact aa (if_neg e) (aa (if_neg e) (.cons hx (ih t)))
theorem bE.append (h:c.SV F bs kvs rs)(h':c.SV F bs yk M6):c.SV F bs (kvs++yk) (rs++M6):=by
 induction kvs generalizing rs with
 | nil=>refine rE h.inv ?_;exact h'
 | cons y ys ih=>refine dr h.inv λJ J un h1 h2=>?_;refine rE un ?_;exact .cons h1 (ih h2)
theorem bE.put (k:Str)(h:c.SV F bs kvs rs)(hv:c.V F bs x v):c.SV F bs (ct kvs k x) (stored rs k v):=by
 delta ct stored;refine aa (bE.any k h) ?_
 split
 . exact bE.map k h hv
 . exact bE.append h (.cons hv .nil)
def TabOf (S:AS)(v:AV)(kvs:gh):Prop:=v=.kC kvs\/∃k,v=.ref k/\S.heap[k]?=AN (.aN kvs)
theorem St.tab (z:St c C F bs S s)(h:TabOf S v kvs)(hv:c.V F bs v r):∃d rs,r=.ref d/\s.heap.DictOf (sk c.prog c.w) d rs/\(d==wW)=Wp/\c.SV F bs kvs rs:=by
 (refine bz h (λDa=>?_) (λyl=>?_);obtain rfl:=Da;rotate_left;clear h;refine Va yl λk ym hk=>?_;clear yl;obtain rfl:=ym;rotate_right)
 . refine dr hv.inv λJ J ut h1 h2=>?_;obtain rfl:=ut;exact ⟨_,_,Z,(h1.sub z.wd.sub).dictOf,(let ⟨_,_,_,_,_,_,e⟩:=h1;e),h2⟩
 . refine Cg (z.gq hv hk) λa Db hb uQ J=>?_;refine Va uQ λrs h1 h2=>?_;clear uQ;refine rE Db ?_;exact ⟨a,rs,Z,h1.dictOf,(let ⟨_,_,_,_,_,_,e⟩:=h1;e),h2⟩
theorem Cw (x:Str)(t:Tok):(sk prog w).is x (.str x t)=Wn:=by show akH x (.str x t)=Wn;simp [akH]
theorem Dg (h:TabOf S v kvs)(k:K (.bool (bC kvs x).isSome) S):iA c C (Xp .In) (.str x) v S K X:=λA F bs s ra rb hA z ha hb=>by
 refine Ml ha.inv λJ uR=>?_;refine rE uR ?_;refine Cc (z.tab h hb) λd rs uS h1 h2 h3=>?_;refine rE uS ?_;refine WP.kept z λQ E q=>wpAny_in_of (Cw x _) h2 h1.mapOf (q _ _ (.toks ..) (af (.bool (bC kvs x).isSome) ?_ k));obtain this:(Ze rs x).isSome=(bC kvs x).isSome:=by
  (refine bz (bE.get x h3) (λDh=>?_) (λDi=>?_);refine dr Dh λJ J e1 e2 J=>?_;rotate_left;refine XZ Di λe1 e2=>?_;rotate_right) <;> simp [e1,e2]
 exact rE this (.bool _)
theorem qS (h:TabOf S v kvs)(hy:bC kvs x=AN y)(k:K y S):iA c C X2 v (.str x) S K X:=λA F bs s ra rb hA z ha hb=>by
 refine Ml hb.inv λJ uT=>?_;refine rE uT ?_;refine Cc (z.tab h ha) λd rs uU h1 h2 h3=>?_;refine rE uU ?_
 (refine bz (bE.get x h3) (λAR=>?_) (λAT=>?_);refine dr AR λy' w e1 e2 e3=>?_;rotate_left;refine XZ AT λe1 e2=>?_;rotate_right)
 . obtain rfl:=bf (aM (ar hy) e1);exact WP.kept z λQ E q=>aly (Cw x _) h1.mapOf e2 (q _ _ (.toks ..) (af y e3 k))
 . exact lj (aM (ar hy) e1)
abbrev adL (c:aZ)(C:Cx)(o:AV)(K:cu)(X:cR):cu:=λi S=>(∃T id,uN S o=AN T/\Oy (.type T) "__getitem__"=pure (AN (.builtin id)))/\iA c C X2 o i S K X
abbrev adM (c:aZ)(C:Cx)(Aw:Nn)(K:cu)(X:cR):cu:=λo S=>Ev c C Aw S (adL c C o K X) X
theorem bH {wp Aw:Nn}{pos:Pos}
 (h:Ev c C wp S (adM c C Aw K X) X)
 (hs:(∀o i,subscripted Aw Wp o i=operate [o,i] (X2 o i)):=by intro _ _;rfl):Ev c C (.Subscript wp Aw pos) S K X:=by
 intro A F bs s hA z
 refine WP.bind (h A F bs s hA z) λF₁ bs₁ ai ak o ro an aC ho tj=>WP.bind (WP.holding (tj A F₁ bs₁ ak hA aC)) λaP aB aF am i ri av aI hi adN=>XZ adN λadO=>FL adO λT id hT hl S4=>WP.standAt ?_;obtain zN:=av.V ho;refine XZ (aI.ty hT zN) λt1 J=>?_;obtain w:=S4 A aP aB am ro ri hA aI zN hi;refine ag (ag (X0 t1 hl ?_));obtain fin:Dk (model c.prog c.w) A (subscripted Aw Wp ro ri >>= λr=>YG wp ro r >>= λJ=>pure r)
  (WV c C c.V aP aB am.heap K)
  (WX c C aP aB am.heap X) am:=by
  exact aa (hs _ _) (ag (XK (aS w (λr aO lO=>ag (A4 (aX lO))) λJ J x=>x)))
 first
  | exact aX fin
  | exact ag (aX fin)
  | exact fin
theorem fh (h:dD S v xs):∃T id,uN S v=AN T/\Oy (.type T) "__getitem__"=pure (AN (.builtin id)):=by
 (refine bz h (λGi=>?_) (λM8=>?_);clear h;obtain rfl:=Gi;rotate_left;clear h;refine Va M8 λk uV hk=>?_;clear M8;obtain rfl:=uV;rotate_right)
 . exact (d8 _ _ Z aiN.lookup)
 . exact (d8 ("list") _ (gO hk Z) aiN.lookup)
theorem ou (h:TabOf S v xs):∃T id,uN S v=AN T/\Oy (.type T) "__getitem__"=pure (AN (.builtin id)):=by
 (refine bz h (λJX=>?_) (λDj=>?_);clear h;obtain rfl:=JX;rotate_left;clear h;refine Va Dj λk uW hk=>?_;clear Dj;obtain rfl:=uW;rotate_right)
 . exact (d8 _ _ Z wZ.lookup)
 . exact (d8 ("dict") _ (gO hk Z) wZ.lookup)
theorem iT (h:dD S v xs)(h0:0<=i)(h1:i<2 ^ 63)(hy:xs[i.toNat]?=AN y)(k:K y S):iA c C X2 v (.int i) S K X:=λA F bs s ra rb hA z ha hb=>by refine Ml hb.inv λJ uX=>?_;refine rE uX ?_;refine Cc (z.seq h ha) λl vs JY hL bn J=>?_;refine rE JY ?_;exact Va (bn.get hy) λw e1 e2=>WP.kept z λQ E q=>wpAny_getItem_list hL.isList h0 h1 (by simpa using e1) (q _ _ (.refl ..) (af y e2 k))
theorem oz (h:dD S v (xs++[y]))(k:K y S):iA c C X2 v (.int (-1)) S K X:=λA F bs s ra rb hA z ha hb=>by
 refine Ml hb.inv λJ JZ=>?_;refine rE JZ ?_;refine Cc (z.seq h ha) λl vs J0 hL bn J=>?_;refine rE J0 ?_;obtain tp:=bn.length
 refine Va (bn.get (i:=xs.length) (x:=y) (by simp)) λw e1 e2=>WP.kept z λQ E q=>wpAny_getItem_list_neg hL.isList (by decide) (by simp [tp];exact Gj.mpr (WO (GH 0) _)) (by decide) (x:=w) ?_ (q _ _ (.refl ..) (af y e2 k));obtain this:(-1+((vs.toArray.size:Nat):Int)).toNat=xs.length:=by simp [tp];exact (by simp +arith)
 refine rE this ?_;simpa using e1
abbrev adP (v ov:AV)(K:dp):cu:=λiv S=>∃k x kvs,ov=.ref k/\iv=.str x/\S.heap[k]?=AN (.aN kvs)/\kvs.length<=Wo/\K {S with heap:=S.heap.set k (.aN (ct kvs x v))}
abbrev adQ (c:aZ)(C:Cx)(i:Nn)(v:AV)(K:dp)(X:cR):cu:=λov S=>Ev c C i S (adP v ov K) X
theorem adR {K:dp}(h:Ev c C o S (adQ c C i v K X) X):wm c C (.Subscript o i pos) v S K X:=by
 intro A F bs s r hA z hv;refine WP.bind (WP.holding (h A F bs s hA z)) λF₁ bs₁ ai ak ov Im an aC lq tj=>WP.bind (WP.holding (tj A F₁ bs₁ ak hA aC)) λaP aB aF am iv WN av aI Mg Dl=>Wa Dl λk x kvs e1 e2 hk hsz S4=>?_;clear Dl tj;subst e1 e2;refine Ml Mg.inv λJ J2=>?_;refine rE J2 ?_;refine Cg (aI.gq (av.V lq) hk) λa Dm hb rG J=>?_;refine Va rG λrs hD po=>?_;clear rG;refine rE Dm ?_;refine WP.standAt (ag (pa (akt (Cw x _) (hD.dictOf) (λh' uY dz=>nA ?_) (by obtain this:=congrArg XG (bE.keys po);simp at this;exact ar this▸hsz))));obtain wG:=(let ⟨_,_,_,_,_,_,e⟩:=hD;e)
 obtain uZ:=lH.rx uY wG;obtain T:fC a am {am with heap:=h',toks:=am.toks+1}:=⟨λb q o e=>(dz.2 b q).trans e,(let ⟨_,_,e,_⟩:=uZ;(cj _ e)),Z,Z⟩
 exact ⟨aP,aB,(),_,.upd T (.inl (bO hb)),aI.upd (o':=.aN (ct kvs x v)) T hb hk (by simp) (af _ uZ (bE.put x po (av.V (an.V hv)))),trivial,S4⟩
end
section
variable {s s':Gb}{pos:Pos}
abbrev aa7 (K:Bool->dp):Bool->dp:=λb=>K (!b)
abbrev adS (T:dp)(K:Bool->dp):Bool->dp:=λb S=>match b with | false=>K Wp S | true=>T S
abbrev aa8 (T:dp)(K:Bool->dp):Bool->dp:=λb S=>match b with | true=>K Wn S | false=>T S
abbrev aaX (c:aZ)(C:Cx)(b:Nn)(v:AV)(K:cu)(X:cR):Bool->dp:=λt S=>match t with | false=>K v S | true=>Ev c C b S K X
abbrev adT (c:aZ)(C:Cx)(b:Nn)(v:AV)(K:cu)(X:cR):Bool->dp:=λt S=>match t with | true=>K v S | false=>Ev c C b S K X
abbrev adU (c:aZ)(C:Cx)(a b:Nn)(K:cu)(X:cR):Bool->dp:=λv S=>match v with | true=>Ev c C a S K X | false=>Ev c C b S K X
abbrev adV (c:aZ)(C:Cx)(t:Nn)(K:cu)(X:cR):cu:=λv S=>wm c C t v S (K v) X
theorem i7 {e:Nn}{K:Bool->dp}(h:Ev c C e S (trK c C K X) X)
 (he:O9 e C.env (eval e C.env)=(do let v <-eval e C.env;yH e.pos;holding [v] (truthy v)):=by rfl):FZ c C e S K X:=by
 intro A F bs s hA z;exact rE he (WP.bind (h A F bs s hA z) λF₁ bs₁ ai ak v r st aC hv k=>WP.standAt (WP.holding (k A F₁ bs₁ ak r hA aC hv)))
noncomputable def yn (c:aZ)(C:Cx):cJ->AS->(Bool->dp)->cR->Prop
 | [],S,K,_=>K Wn S
 | e::r,S,K,X=>FZ c C e S (adS (λai=>yn c C r ai K X) K) X
theorem adW {K:Bool->dp}(hA:lp C A):∀(es:cJ) (F:G) (bs:aJ) (S:AS) (s:Gb),St c C F bs S s->yn c C es S K X->WP c C A (λJ J b r=>r=b) (allTrue .And es C.env) F bs s K X:=by
 intro es;induction es with
 | nil =>intro F bs S s z h;exact WP.pure z Z h
 | cons e es ih=>
   intro F bs S s z h;refine WP.bind (h A F bs s hA z) λF₁ bs₁ ai ak v r st aC hv k=>?_;subst hv;cases r with
   | false=>exact WP.pure aC Z k
   | true=>exact ih F₁ bs₁ ai ak aC k
theorem adX {K:Bool->dp}(h:yn c C es S K X):FZ c C (.BoolOp .And es pos) S K X:=λA F bs s hA z=>adW hA es F bs S s z h
theorem adY (h:Ev c C a S (λv ai=>Tr c C v ai (adT c C b v K X) X) X):Ev c C (.BoolOp .Or [a,b] pos) S K X:=by
 intro A F bs s hA z
 refine WP.bind (h A F bs s hA z) λF₁ bs₁ ai ak v r st aC hv k=>WP.standAt (WP.bind (WP.holding (k A F₁ bs₁ ak r hA aC hv)) λaP aB aF am t adZ av aI ht S4=>?_);subst ht;cases adZ with
 | true=>exact WP.pure aI (av.V hv) S4
 | false=>exact S4 A aP aB am hA aI
theorem oA (h:FZ c C t S (adU c C a b K X) X):Ev c C (.IfExp t a b pos) S K X:=by
 intro A F bs s hA z;refine WP.bind (h A F bs s hA z) λF₁ bs₁ ai ak v r st aC hv k=>?_;subst hv;cases r with
 | true=>exact k A F₁ bs₁ ak hA aC
 | false=>exact k A F₁ bs₁ ak hA aC
theorem tK (h:Ev c C v S (adV c C t K X) X):Ev c C (.NamedExpr t v pos) S K X:=by intro A F bs s hA z;exact WP.bind (h A F bs s hA z) λF₁ bs₁ ai ak v r st aC hv k=>WP.bind (WP.holding (k A F₁ bs₁ ak r hA aC hv)) λaP aB aF am J J av aI J S4=>WP.pure aI (av.V hv) S4
theorem oB {K:Bool->dp}(h:dD S v xs)(hl:xs.length<2 ^ 63)(k:K (!xs.isEmpty) S):Tr c C v S K X:=λA F bs s r hA z hv=>by refine Cc (z.seq h hv) λl vs J6 hL bn J=>?_;refine rE J6 ?_;refine WP.kept z λQ E q=>ala hL.isList (by simp [bn.length];exact qI hl) (q _ _ (.toks ..) (af _ ?_ k));have:=bn.length;clear bn hL k hl h;cases xs <;> cases vs <;> simp_all
theorem ad0 {K:Bool->dp}(k:K Wp S):Tr c C .none S K X:=λA F bs s r hA z hv=>by obtain ⟨_,rfl⟩:=hv.inv;exact WP.kept z λQ E q=>aX (q _ _ (.refl ..) (af _ Z k))
theorem lP (k':K (.bool Wp) S):iA c C (Xp .Is) (.ref k) .none S K X:=λA F bs s ra rb hA z ha hb=>by obtain ⟨_,rfl⟩:=hb.inv;refine Va ha.inv λJ J7 J=>?_;refine rE J7 ?_;exact WP.kept z λQ E q=>is_none_ne (by simp) (q _ _ (.refl ..) (af _ (.bool _) k'))
theorem ad1 (k':K (.bool Wn) S):iA c C (Xp .Is) .none .none S K X:=λA F bs s ra rb hA z ha hb=>by obtain ⟨_,rfl⟩:=hb.inv;obtain ⟨_,rfl⟩:=ha.inv;exact WP.kept z λQ E q=>wpAny_is_self Z (q _ _ (.refl ..) (af _ (.bool _) k'))
theorem nu (k':K (.bool Wp) S):iA c C (Xp .IsNot) .none .none S K X:=λA F bs s ra rb hA z ha hb=>by obtain ⟨_,rfl⟩:=hb.inv;obtain ⟨_,rfl⟩:=ha.inv;exact WP.kept z λQ E q=>isnot_none_none (q _ _ (.refl ..) (af _ (.bool _) k'))
theorem bh.strs (h:c.Vs F bs (l.map .str) vs):StrsAre vs l:=by
 induction l generalizing vs with
 | nil=>refine rE h.inv ?_;exact .nil
 | cons x l ih=>refine dr h.inv λJ J ad2 h t=>?_;refine rE ad2 ?_;refine Ml h.inv λJ ad3=>?_;refine rE ad3 ?_;exact .cons _ _ (ih t)
theorem StrsAre.vs {vs:iE}(h:StrsAre vs l):c.Vs F bs (l.map .str) vs:=by
 induction h with
 | nil=>exact .nil
 | cons x t _ ih=>exact .cons (.str x t) ih
theorem yo (k:K (.bool !(u3 x y 0 x.length 1).isEmpty) S):iA c C (Xp .In) (.str y) (.str x) S K X:=λA F bs s ra rb hA z ha hb=>by refine Ml ha.inv λJ un=>?_;refine rE un ?_;refine Ml hb.inv λJ yp=>?_;refine rE yp ?_;exact WP.kept z λQ E q=>anA (q _ _ (.refl ..) (af _ (.bool _) k))
theorem zO (ha:dD S a xs)(hb:dD S b ys)(hsz:xs.length+ys.length<=Wo)(k:rD K (xs++ys) S):iA c C (Y2 .Add) a b S K X:=λA F bs s ra rb hA z h1 h2=>by
 refine FN (z.rC ha h1) λl vs n ym e1 v1=>?_;refine rE ym ?_;refine FN (z.rC hb h2) λm us n2 ut e2 v2=>?_;refine rE ut ?_;refine concat_meets (af _ e1 Z) (af _ e2 Z) noFill_list_add seq_list_add PySem.F.slot_list_add PySem.F.entry_list_add (PySem.F.args_list_add_2 _ _) (list_addW l m vs.toArray us.toArray n n2 Wm Wm #[] #[] (by simpa [v1.length,v2.length] using hsz)) (aV e1 e2 ?_);obtain mv:a7 c F bs s {s with heap:=s.heap.push (bu (vs++us) 0)}:=⟨λb o e=>cC _ e,Z,Z⟩
 obtain this:=z.AQ mv (St.gZ s) (dB _ Z) (v1.append v2) k;exact rE (show (vs.toArray++us.toArray)=(vs++us).toArray by simp) this
set_option tactic.hygienic true in
theorem ad4 (ha:dD S a xs)(hb:dD S b [])(hu:C.n≠0)(k:K (.bool (!xs.isEmpty)) S):iA c C (Xp .NotEq) a b S K X:=λA F bs s ra rb hA z h1 h2=>by
 refine FN (z.rC ha h1) λl vs n uR e1 v1=>?_;refine rE uR ?_;refine FN (z.rC hb h2) λm us n2 uS e2 v2=>?_;refine rE uS ?_;clear ha;cases v2;obtain hun:A.units<O7:=by obtain this:=hA.units;exact uH this
 cases xs with
 | nil =>cases v1;exact WP.kept z λQ E q=>(amC (e:=λ_=>Wn) (items:=#[]) (items2:=#[]) (di _ e1 Z n Z) (di _ e2 Z n2 Z) Z hun (λj h=>by simp at h)) _ _ _ _ (q _ _ (.refl ..) (af _ (.bool _) k))
 | cons x xs=>
   cases v1 with
   | cons w1 w2 =>rename_i w ws;exact WP.kept z λQ E q=>(alb (di _ e1 Z n Z) (di _ e2 Z n2 Z) (Z) hun) _ _ _ _ (q _ _ (.refl ..) (af _ (.bool _) k))
end
noncomputable def sle (x y:Str):Bool:=!decide (y.cps.toList<x.cps.toList)
noncomputable def lQ (l:bD):bD:=l.mergeSort sle
theorem tL (a b d:Str)(h1:sle a b=Wn)(h2:sle b d=Wn):sle a d=Wn:=by simp only [sle,Xs,decide_eq_false_iff_not,alX] at *;exact List.le_trans h1 h2
theorem ad5 (a b:Str):(sle a b||sle b a)=Wn:=by simp only [sle,K2,Xs,decide_eq_false_iff_not,alX];exact List.le_total _ _
theorem ad6 (a b:Str)(h1:sle a b=Wn)(h2:sle b a=Wn):a=b:=by simp only [sle,Xs,decide_eq_false_iff_not,alX] at *;obtain this:=List.le_antisymm h1 h2;cases a;cases b;simp at this;clear h2 h1;subst this;rfl
theorem jB {l r:bD}(hp:l.Perm r)(hl:l.Pairwise (λa b=>sle a b=Wn))(hr:r.Pairwise (λa b=>sle a b=Wn)):l=r:=by
 induction l generalizing r with
 | nil=>exact (alz hp)
 | cons x l ih=>
   cases r with
   | nil=>exact absurd hp.symm (alz · |> λh=>by cases h)
   | cons y r=>
     obtain hxy:x=y:=by
      (refine bz (eO (hp.subset (.head _))) (λe=>?_) (λm=>?_))
      . exact e
      . (refine bz (eO (hp.symm.subset (.head _))) (λe=>?_) (λm'=>?_))
        . exact e.symm
        . exact ad6 _ _ ((Nj.mp hl).1 _ m') ((Nj.mp hr).1 _ m)
     subst hxy;exact aa (ih (anE hp) (Nj.mp hl).2 (Nj.mp hr).2) Z
theorem i8 (l:bD):(lQ l).Perm l:=aku l sle
theorem iU (l:bD):(lQ l).Pairwise (λa b=>sle a b=Wn):=ajk tL ad5 l
theorem ad7:∀(r:bD) (p:Str),risingS p r=Wn->(p::r).Pairwise (λa b=>sle a b=Wn):=by
 intro r;induction r with
 | nil =>intro p _;simp
 | cons x r ih=>
   intro p h;simp only [risingS,fA] at h;obtain ih:=ih x h.2;obtain U7:sle p x=Wn:=by obtain this:=h.1;rw [ltCps_eq] at this;exact this
   refine Nj.mpr ⟨λy hy=>?_,ih⟩
   (refine bz (eO hy) (λuV=>?_) (λhy=>?_);clear hy ih h;refine rE uV ?_)
   . exact U7
   . exact tL _ _ _ U7 ((Nj.mp ih).1 y hy)
theorem ad8 (hp:l.Perm r)(hs:sortedS l=Wn):l=lQ r:=by
 refine jB (hp.trans (i8 r).symm) ?_ (iU r);cases l with
 | nil=>exact .nil
 | cons x l=>exact ad7 l x hs
theorem mF (h:dD S v (l.map .str))(h64:l.length<64)(k:rD K ((lQ l).map .str) S):eJ c C (.builtin "sorted") [v] S K X:=by
 intro A F bs s rs hA z hv;refine Va hv.one λr uT h1=>?_;refine rE uT ?_;clear hv;refine FN (z.rC h h1) λa vs n uU h0 bn=>?_;refine rE uU ?_;refine sorted_strs (di _ h0 Z n Z) bn.strs (by obtain this:=bn.length;simp at this;exact abN h64 this) λout ss' a1 a2 a3=>?_;refine Ml (sortedAll_at s.heap vs out) λe he=>?_;obtain hs:=ad8 a2 a3;clear a3 a2;subst hs;obtain m:a7 c F bs s {s with heap:=sortedAll s.heap vs out}:=⟨λb o e=>sortedAll_old e,Z,Z⟩
 refine z.AQ m (gf (N6 _)) (he) (StrsAre.vs a1) k
section
variable {s s':Gb}{pos:Pos}
theorem i9 (hsz:x.length+y.length<=Wo)(k:K (.str (x++y)) S):iA c C (Y7 .Add) (.str x) (.str y) S K X:=λA F bs s ra rb hA z ha hb=>by refine Ml ha.inv λJ ad9=>?_;refine rE ad9 ?_;refine Ml hb.inv λJ aea=>?_;refine rE aea ?_;exact WP.kept z λQ E q=>anb (λt' tk=>q _ _ (.toks ..) (af _ (.str _ _) k)) hsz
def Qx (c:aZ)(C:Cx):Option Nn->AS->(Option Int->dp)->cR->Prop
 | none,S,K,_=>K Wm S
 | some e,S,K,X=>Ev c C e S (λv ai=>∃i,v=.int i/\K (AN i) ai) X
theorem mG {K:Option Int->dp}(hA:lp C A)(z:St c C F bs S s)(h:Qx c C e S K X):WP c C A (λJ J i r=>IsPart r i) (evalPart e C.env) F bs s K X:=by
 cases e with
 | none=>exact WP.pure z .none h
 | some e=>exact WP.re (h A F bs s hA z) λF bs v r S hv q35=>Va q35 λi e k=>by clear q35;subst e;refine Ml hv.inv λJ aeb=>?_;refine rE aeb ?_;exact (af _ (.int _ _) k)
theorem bh.take (n:Nat)(h:c.Vs F bs xs vs):c.Vs F bs (xs.take n) (vs.take n):=by
 induction xs generalizing vs n with
 | nil=>refine rE h.inv ?_;refine (ar amD)▸(ar amD)▸?_;exact .nil
 | cons x l ih=>
   refine dr h.inv λJ J aec h1 h2=>?_;refine rE aec ?_;cases n with
   | zero=>exact .nil
   | succ n=>exact .cons h1 (ih n h2)
theorem bh.drop (n:Nat)(h:c.Vs F bs xs vs):c.Vs F bs (xs.drop n) (vs.drop n):=by
 induction xs generalizing vs n with
 | nil=>refine rE h.inv ?_;refine (ar amE)▸(ar amE)▸?_;exact .nil
 | cons x l ih=>
   cases n with
   | zero=>exact h
   | succ n=>refine dr h.inv λJ J aed h1 h2=>?_;refine rE aed ?_;exact ih n h2
noncomputable def Dn (lo hi:Option Int)(xs:bZ):bZ:=match lo,hi with
 | none,AN i=>xs.take i.toNat
 | some i,Wm=>xs.drop i.toNat
 | none,Wm=>xs
 | some i,AN j=>(xs.take j.toNat).drop i.toNat
def Dp (lo hi:Option Int):Prop:=match lo,hi with
 | none,AN i=>0<=i
 | some i,Wm=>0<=i
 | none,Wm=>True
 | some _,AN _=>False
noncomputable def J8 (lo hi:Option Int)(vs:iE):iE:=match lo,hi with
 | none,AN i=>vs.take i.toNat
 | some i,Wm=>vs.drop i.toNat
 | none,Wm=>vs
 | some i,AN j=>(vs.take j.toNat).drop i.toNat
theorem aee (fE:Dp l u)(vs:iE):amU vs.toArray l u Wm=(J8 l u vs).toArray:=by
 cases l with
 | none=>
   cases u with
   | none=>refine aa (slicePick_all _) ?_;rfl
   | some j =>obtain this:=slicePick_upto' vs.toArray j.toNat;rw [show ((j.toNat:Nat):Int)=j from ah7 fE] at this;exact this
 | some i=>
   cases u with
   | none =>obtain this:=slicePick_from' vs.toArray i.toNat;rw [show ((i.toNat:Nat):Int)=i from ah7 fE] at this;exact this
   | some j=>exact fE.elim
theorem bh.WY (fE:Dp l u)(bn:c.Vs F bs xs vs):c.Vs F bs (Dn l u xs) (J8 l u vs):=by
 cases l with
 | none=>
   cases u with
   | none=>exact bn
   | some j=>exact bh.take _ bn
 | some i=>
   cases u with
   | none=>exact bh.drop _ bn
   | some j=>exact fE.elim
theorem aef {lo hi:Option Nn}(h:Ev c C wp S (λo ai=>Qx c C lo ai (λl aF=>Qx c C hi aF (λu bd=>∃xs,dD bd o xs/\Dp l u/\xs.length<=Wo/\rD K (Dn l u xs) bd) X) X) X):Ev c C (.Subscript wp (.Slice lo hi Wm p) pos) S K X:=by
 intro A F bs s hA z
 refine WP.bind (h A F bs s hA z) λF₁ bs₁ ai ak o ro an aC ho tj=>ag (pa (alY (aS (mG hA aC tj) (λrl am WZ=>WZ.casesOn λaP aB l aF av aI hl S4=>aS (mG hA aI S4) (λru aO q40=>q40.casesOn λbv aT u bd aL a8 hu bR=>Cg bR λxs AP fE hsz k=>aX ?_) λx aO q41=>q41.casesOn λbv aT u bd aL a8 hu bR=>⟨bv,aT,u,bd,av.trans aL,a8,hu.back av.mono,bR⟩) λJ J e=>e)));have Do:=aL.V (av.V ho);clear ho;refine FN (a8.rC AP Do) λa vs n aeg hL bn=>?_;refine rE aeg ?_;refine ag (yr ?_);generalize iJ:({aO with heap:=aO.heap.push {cls:=.type "slice",data:=.fields #[rl,ru,.none]}}:Gb)=cK;have pu:a7 c bv aT aO cK:=by simp only [<-iJ];exact ⟨λb o e=>cC _ e,Z,Z⟩
 obtain nM:cK.heap.IsSliceOf aO.heap.objs.size rl ru .none:=by refine iJ▸?_;exact akU ..
 obtain de:=a8.keep pu;obtain wH:cK.heap.IsList a vs.toArray:=(di _ (pu.keep _ _ hL) Z n Z)
 refine ag (ag (X0 wH.typeIs akv ?_));obtain fin:Dk (model c.prog c.w) A (operate [.ref aO.heap.objs.size,.ref a] (X2 (.ref a) (.ref aO.heap.objs.size)) >>= λr=>YG wp (.ref a) r >>= λJ=>pure r)
  (WV c C c.V F₁ bs₁ ak.heap K)
  (WX c C F₁ bs₁ ak.heap X) cK:=by
  refine ag (XK (ai5 wH nM hl hu .none (by decide) (ag (A4 (aX (aa (aee fE _) ?_)))) (by simpa [bn.length] using hsz)));obtain m0:=bh.WY fE bn;generalize J8 l u vs=ws at m0;obtain AW:a7 c bv aT cK {cK with heap:=cK.heap.push (bu ws 0)}:=⟨λb o e=>cC _ e,Z,Z⟩
  obtain ⟨F',aK,v,S',st,z',hv,kk⟩:=de.AQ AW (St.gZ cK) (dB _ Z) m0 k;exact ⟨F',aK,v,S',((av.trans aL).trans (.keep pu)).trans st,z',hv,kk⟩
 first
  | exact aX fin
  | exact ag (aX fin)
  | exact fin
theorem tM {K:dp}(hA:lp C A)(hh:C.handled=Wm)(z:St c C F bs S s)(hT:s.heap.IsTuple T rs.toArray)(hv:c.Vs F bs xs rs)(hl:ts.length=xs.length)(hp:yD ts C.env=ts.map λt=>(Wp,assign t C.env))(h:AM c C (ts.zip xs) S K X): WP c C A (λ_ _ (_:Unit) (_:Unit)=>True) (assign (.Tuple ts kd pos) C.env (.ref T)) F bs s (λJ=>K) X:=by
 refine WP.standAt ?_;delta unpack;refine rE hp ?_;obtain e1:((ts.map λt=>(Wp,assign t C.env)).findIdx? (·.1))=Wm:=by simp
 obtain e2:ts.length=rs.toArray.size:=by simp only [hl,Yd];exact hv.length.symm
 simp only [e1,qY,Wu,e2];refine ag (pa (ajh (hA.handled.trans hh) hT λh' hx=>?_));obtain m:a7 c F bs s {s with heap:=h'}:=⟨λb o e=>hx b o (cI (M7 e)) e,Z,Z⟩
 obtain w:=nq (X:=X) hA ts xs rs F bs S {s with heap:=h'} K hl (z.keep m) hv h;refine aS w (λr s' q44=>q44.casesOn λF' aK v S' st z' hr k=>⟨F',aK,v,S',(Step.keep m).trans st,z',hr,k⟩) λx s' W1=>W1.casesOn λF' aK v S' st z' hr k=>⟨F',aK,v,S',(Step.keep m).trans st,z',hr.back (Step.keep (own:=[]) m).mono,k⟩
theorem Ce.enum (hl:F₀ l=AN (bu vs n))(bn:c.Vs F₀ bs₀ xs vs)(hei:e≠it)(VX:l≠e)(Nf:l≠it): Ce c (.Tuple ts kd pos) e (xs.zipIdx.map λp=>.tup [.int p.2,p.1]) (λJ=>True) [e,it] (λi F bs s=>((∃old,IsEnum s.heap e it (i:Nat) old)/\s.heap.IsListIter it l i/\s.heap.IsList l vs.toArray)/\i<=xs.length/\(∀b o,F₀ b=AN o->F b=AN o)/\∃nb,bs=bs₀++nb):=by
 have W:=λ(A:M5) (hh:A.handled=Wm)=>WalksT.enumerate (prog:=c.prog) (w:=c.w) hh e it l hei VX Nf vs.toArray;have keep:∀{C:Cx} {i:Nat} {own F bs S s F' aK S' s'},(((∃old,IsEnum s.heap e it i old)/\s.heap.IsListIter it l i/\s.heap.IsList l vs.toArray)/\i<=xs.length/\(∀b o,F₀ b=AN o->F b=AN o)/\∃nb,bs=bs₀++nb)->cx c C F bs [e,it] s.heap->(∀a∈[e,it],a∉own)->St c C F bs S s->Step own F bs s.heap F' aK s'.heap->St c C F' aK S' s'->
  (((∃old,IsEnum s'.heap e it i old)/\s'.heap.IsListIter it l i/\s'.heap.IsList l vs.toArray)/\i<=xs.length/\(∀b o,F₀ b=AN o->F' b=AN o)/\∃nb,aK=bs₀++nb):=by
  intro C i own F bs S s F' aK S' s' o1;obtain ⟨h1,hi,h2,nb,rfl⟩:=o1;intro hf hw z st z';refine Va st.ext λvR e' J=>(ee ((W {} Z).frame i _ _ h1 λb hb o ho=>?_) hi (λb o e=>st.sub _ _ (h2 _ _ e)) (nb++vR) (by refine aa e' ?_;rw [MW]))
  by_cases q:b∈[e,it]
  . exact (hf.wA hw st).2 b q o ho
  . obtain mZ:b=l:=by simp only [JU,rH,or_false,not_or] at hb q;exact (hb.resolve_left q.1).resolve_left q.2
    subst mZ;obtain this:=z.wd.sub _ _ (h2 _ _ hl);exact rE (bf (aM (ar ho) this)) (z'.wd.sub _ _ (st.sub _ _ (h2 _ _ hl)))
 refine ⟨keep,?_,?_⟩
 . intro C A i F bs S s N Y E K hA hh z _ o2;obtain ⟨h1,hi,h2,nb,rfl⟩:=o2;intro hf hN hY;obtain WA:=W A (hA.handled.trans hh);by_cases dc:i<xs.length
   . refine WA.item i s _ _ (by simpa [bn.length] using dc) h1 λT Cz h' tk Mf W2 hT hM hk=>?_;refine FL Mf λt x hx aeh=>?_;clear Mf;obtain rfl:=aeh;obtain qQ:vs[i]?=AN x:=by simpa using hx
     obtain ⟨y,hy⟩:∃y,xs[i]?=AN y:=(cj _ (cm dc))
     refine Va (bn.get hy) λx' e1 e2=>?_;obtain rfl:=bf (aM (ar qQ) e1);refine XZ (hY (.tup [.int i,y]) (by simp [ahV,hy])) λha hc=>?_;obtain W4:=WA.apart i T h' hM;refine WA.go ts kd pos i T {s with heap:=h',toks:=tk} _ _ hM λFr be Ds=>?_;have Dt:eF [e,it] s {s with heap:=Fr,toks:=tk}:=⟨λb hb o e=>Ds b o hb (hk b o hb e),Z,Z⟩
     obtain aC:=z.frees Dt hf;have jA:cx c C F (bs₀++nb) [e,it] Fr:=⟨hf.free,λa ha=>by
      refine RR be λNg Nh J=>?_;clear be;refine Ml Ng λold q1=>?_;clear Ng;refine N1 Nh λo q2 q3 J=>?_;clear Nh;rcases eO ha with rfl | ha
      . exact (aU _ q1 (by simp) (by simp))
      . refine aa (bN ha) ?_;exact (aU o q2 (by lia) (by lia))⟩
     obtain J9:Fr.IsTuple T #[.int i t,x]:=by refine Va hT λo q1 q2=>?_;exact (af o (Ds T o W4 q1) q2)
     refine RR ha λW5 W6 W7=>?_;obtain w:=tM (X:=fy) (kd:=kd) (pos:=pos) (s:={s with heap:=Fr,toks:=tk}) hA hh aC (rs:=[.int i t,x]) J9 (.cons (.int _ _) (.cons (cW.mono h2 e2) .nil)) W5 W6 W7;refine aS w (λJ s' W8=>W8.casesOn λF' aK J S' st z' J k=>?_) λJ J W9=>W9.casesOn λJ J J J J J J q=>q.elim;exact hc F' aK S' s' z' (jA.step (s:={s with heap:=Fr,toks:=tk}) st).1 (keep (s:={s with heap:=Fr,toks:=tk}) (ee be dc h2 nb Z) jA (λa ha=>(jA.free a ha).own) aC st z') k
      ((Step.lN Dt λa ha=>Va (jA.at_ a ha) λo e J=>(cj o e)).trans (st.widen λa ha=>.inl (fz (.inr ha))))
   . obtain nt:i=xs.length:=qP hi dc;clear dc hY;subst nt;have:xs.length=vs.toArray.size:=by simp [bn.length]
     rw [this] at h1;refine WA.done s _ _ h1 λh' tk hk=>?_;obtain t:eF [e,it] s {s with heap:=h',toks:=tk}:=⟨λb hb o e=>hk b o hb e,Z,Z⟩
     exact hN (by simp) _ (z.frees t hf) t
 . intro A i F bs s Q E hh o3;obtain ⟨h1,hi,h2,nb,rfl⟩:=o3;intro hq;exact (W A hh).self i s Q E h1 hq
theorem zP {ts:cJ}{kd:Nat}{wI:Pos}{f arg:Nn}{K:bZ->(aR->Prop)->dp}
 (h:Ev c C f S (λv ai=>v=.raw (.type "enumerate")/\Ev c C arg ai (λv aF=>∃xs,v=.lst xs/\K (xs.zipIdx.map λp=>.tup [.int p.2,p.1]) (λJ=>True) aF) X) X)
 (hh:C.handled=Wm)
 (he:eval (.Call f [arg] [] pos) C.env=(do YS pos (<-eval f C.env) [] (W3 pos (M4 [arg] C.env)) (DN pos (Xk [] C.env))):=by rfl)
 (Mh:M4 [arg] C.env=[(Wp,eval arg C.env)]:=by rfl):jW c C (.Tuple ts kd wI) (.Call f [arg] [] pos) S K X:=by
 intro A F bs s hA z;simp only [he];refine ag (aS (h A F bs s hA z) (λr ak dL=>dL.casesOn λF₁ bs₁ v ai an aC hv eR=>?_) λJ J e=>e);obtain ⟨e,tj⟩:=eR;subst e;obtain ⟨_,rfl⟩:=hv.inv;refine GR (by refine aa Mh ?_;rfl) ?_;have ka:pz c C pos [arg] ai (λvs aF=>∃xs,vs=[.lst xs]/\K (xs.zipIdx.map λp=>.tup [.int p.2,p.1]) (λJ=>True) aF) X:=
  aw (kG tj λv aF q87=>Va q87 λxs e k=>(af xs (aa e Z) k)) Mh
 refine aS (gk hA aC ka (Mh.symm▸Z)) (λa am dL=>dL.casesOn λaP aB vs aF av aI wD eR=>?_) λx am Xa=>Xa.casesOn λaP aB cls aF av aI hx S4=>⟨aP,aB,cls,aF,an.trans av,aI,hx.back an.mono,S4⟩
 obtain ⟨oj,bn⟩:=wD;obtain ⟨xs,Xb,S4⟩:=eR;simp only [oj];subst Xb;obtain ⟨ps,kw⟩:=a;obtain ⟨r,e,hr⟩:=bh.one bn;have e':=e;refine rE e' ?_;clear e bn oj;obtain ⟨l,vs,Du,hL,Gn⟩:=hr.inv;refine rE Du ?_;obtain ⟨n,hL⟩:=hL;have Mi:=aI.wd.sub _ _ hL;refine call_enumerate_1 Mi λh' zQ Go hsz hk=>wpAny_pyIter_enum zQ ?_;obtain m:a7 c aP aB am {am with heap:=h'}:=⟨hk,Z,Z⟩
 obtain st:=(an.trans av).trans (.keep m);obtain hn1:=gf (bP _);obtain U0:=gf (N6 _);obtain dc:=M7 Mi;refine ⟨aP,aB,aF,_,_,_,[am.heap.objs.size+1,am.heap.objs.size],_,Z,st,aI.keep m,Ce.enum hL Gn (ajl _) (cI (Ni dc)) (cI dc),
  (ee (aV (cj _ zQ) Go (di _ (hk _ _ Mi) Z n Z)) (Dv _) (λJ J e=>e) [] (by simp)),λa q=>?_,⟨λa q=>?_,λa q=>?_⟩,trivial,S4⟩
 . have:am.heap.get? a=Wm:=by
    (refine bz (eO q) (λKa=>?_) (λq=>?_);obtain rfl:=Ka)
    . exact U0
    . exact rE (bN q) hn1
   cases q':s.heap.get? a with
   | none=>rfl
   | some o=>obtain ⟨o',e'⟩:=(an.trans av).mono _ _ q';exact bM (aM (ar this) e')
 . rcases eO q with rfl | q
   . exact aI.fg U0
   . simp only [bN q];exact aI.fg hn1
 . rcases eO q with rfl | q
   . exact (aU _ zQ (by simp) (by simp))
   . refine rE (bN q) ?_;obtain ⟨o,q1,q2,_⟩:=Go;exact (aU o q1 (by lia) (by lia))
end
theorem dX (names:List (Str×Yu))(n:Nat)(OB:List (Str×Wr)):Gs n names OB=Gs n names []++OB:=by
 induction names generalizing n OB with
 | nil=>rfl
 | cons p r ih=>
   dsimp only [Gs];cases p.2==Yj with
   | true=>exact (ih (n+1) _).trans ((MW _ [_] _).symm.trans (congrArg (·++OB) (ih (n+1) [_]).symm))
   | false=>exact ih n OB
theorem aei (names:List (Str×Yu))(n:Nat)(h:∀k,(x,k)∈names->k≠.cell):(Gs n names []).lookup x=Wm:=by
 induction names generalizing n with
 | nil=>rfl
 | cons p r ih=>
   dsimp only [Gs];cases hk:p.2==Yj with
   | true=>
     obtain e:(x==p.1)=Wp:=beq_eq_false_iff_ne.mpr λe=>h p.2 (by refine rE e ?_;exact .head _) (by cases q:p.2 <;> rw [q] at hk <;> first | rfl | exact Cb hk)
     rewrite [dX]
     refine aa GU (aa (ih _ λk m=>h k (.tail _ m)) (aa Xm (rE e ?_)));rfl
   | false=>exact ih n λk m=>h k (.tail _ m)
structure aej (bs:aJ)(h:Xi)(cl:List (Str×Wr)):Prop where
 cell:∀x a,cl.lookup x=AN a->a∉bs/\∃o,h.get? a=AN o/\o.cls=.type "cell"/\∃v,o.data=.cell v
 apart:∀x y a,cl.lookup x=AN a->cl.lookup y=AN a->x=y
def aek (c:aZ)(F:G)(bs:aJ)(h:Xi)(names:List (Str×Yu))(cl:List (Str×Wr))(x:Str)(v:AV):Prop:=
 (∀k,(x,k)∈names->k≠.cell)/\∃a o r,cl.lookup x=AN a/\h.get? a=AN o/\o.data=.cell (AN r)/\c.V F bs v r
section
variable {s s':Gb}{pos:Pos}
theorem St.opens (wd:Wd c F bs H s)(fq:aej bs s.heap cl)(kd:String)(Xc:kd≠"cell")(names:List (Str×Yu))(env:Env)(own:aJ)(frames:List Env)(hd:rn)(n:Nat)(vars:bD)(caps:d7)(dz:s'={s with heap:=YO (s.heap.push {cls:=.type kd,data:=.dict #[]}) names})(hL:env.locals=s.heap.objs.size)(Kb:env.cells=Gs (s.heap.objs.size+1) names cl)(v4:own=s.heap.objs.size::(Gs (s.heap.objs.size+1) names []).map (·.2))(hg:env.globals=te)(Io:env.builtins=Xe)(hk:env.scope.kind=.function)(MM:vars.Nodup)(mT:∀e∈frames,ib s'.heap e/\∀L,e.frame=AN L->F L=Wm/\L∉bs)(ael:∀i v,caps.lookup i=AN v->∃x,vars[i]?=AN x/\(env.kindOf x=AN .cell\/env.kindOf x=AN .free)/\aek c F bs s.heap names cl x v)(nM:env.func=Wm\/∀x a,cl.lookup x=AN a->∃o r,F a=AN o/\o.data=.cell (AN r)): St c ⟨env,own,frames,hd,n,vars⟩ F bs ⟨caps,H⟩ s'/\a7 c F bs s s'/\(∀b∈own,s.heap.get? b=Wm):=by
 have keep:∀b o,s.heap.get? b=AN o->s'.heap.get? b=AN o:=λb o e=>by refine aa dz ?_;exact Oc _ _ _ _ (cC _ e)
 obtain mv:a7 c F bs s s':=⟨keep,aa dz Z,aa dz Z⟩
 have ok:=La names (s.heap.push {cls:=.type kd,data:=.dict #[]}) (s.heap.objs.size+1) [] ⟨λJ J hm=>(nomatch hm),On⟩ (by simp only [jP];exact bP _);rw [jP] at ok;generalize F9:Gs (s.heap.objs.size+1) names []=cs at ok v4;have Nk:env.cells=cs++cl:=by refine aa Kb ?_;rewrite [dX];exact aa F9 Z
 have lv:∀b∈own,s.heap.get? b=Wm:=λb mZ=>by
  rw [v4] at mZ;refine gf ?_;rcases eO mZ with e | m
  . simp only [e];exact bP _
  . clear mZ;refine Va (gM m) λp hp aem=>?_;refine aem▸?_;obtain this:=(ok.empty p.1 p.2 hp).2;exact acM this
 have rq:∀x a,(x,a)∈cs->s'.heap.get? a=AN gY:=λx a m=>by exact aa dz (oh names (s.heap.push {cls:=.type kd,data:=.dict #[]}) [] (λJ J m=>nomatch m) x a (aa (jP _ _) (aa F9 m)))
 have sw:s'.heap.get? s.heap.objs.size=AN {cls:=.type kd,data:=.dict #[]}:=by exact aa dz (Oc _ _ _ _ (dB _ Z))
 have kF:∀b,s.heap.get? b=Wm->F b=Wm/\b∉bs:=λb e=>by
  refine ⟨?_,λm=>by refine Ml (wd.there b m) λo' e'=>?_;exact bM (aM (ar e) e')⟩;cases q:F b with
  | none=>rfl
  | some o'=>exact lj (aM (ar (wd.sub _ _ q)) e)
 have rI:∀x a,env.cells.lookup x=AN a->(cs.lookup x=AN a)\/(cs.lookup x=Wm/\cl.lookup x=AN a):=λx a e=>by
  rw [Nk,GU] at e;cases h:cs.lookup x with
  | some b=>rw [h] at e;exact .inl e
  | none=>rw [h] at e;exact .inr ⟨Z,e⟩
 have zR:∀x a,cs.lookup x=AN a->a∈own:=λx a e=>by refine aa v4 ?_;exact .tail _ (fV (af (x,a) (Xd e) Z))
 refine (aV ⟨wd.keep (S:=⟨caps,H⟩) mv,(af (λJ=>Wm) ?_ (λi v e=>?_)),(af _ (by refine aa hL ?_;exact sw) (by simp)),by show env.locals∈own;refine aa hL (aa v4 ?_);exact .head _,λb mZ=>?_,λx a e=>?_,λx y a e1 e2=>?_,mT,hg,Io,hk,MM,λhf x a e=>?_⟩ mv lv)
 . skip
   exact rE hL (ip _ (#[]) 0 sw Z (λJ he=>by simp at he) (λJ=>Z))
 . refine Ml (ael i v e) λx aen=>?_;obtain ⟨hx,Xg,ME,a,o,r,q1,q2,q3,q4⟩:=aen;obtain CK:env.cells.lookup x=AN a:=by refine aa Nk (aa GU (az F9 (aa (aei names _ ME) ?_)));simpa using q1
   exact (af x hx (.cell Xg ⟨a,o,r,CK,keep _ _ q2,q3,q4⟩))
 . have ii:=lv b mZ;refine (aV ((kF b ii).1) ((kF b ii).2) ?_);have Gp:b∈own:=mZ;replace Gp:=v4▸Gp;rcases eO Gp with e | m
   . exact (cj _ (e▸sw))
   . clear Gp ii mZ;refine Va (gM m) λp hp Kc=>?_;refine Kc▸?_;exact (cj _ (rq p.1 p.2 hp))
 . rcases rI x a e with q | ⟨_,q⟩
   . obtain ii:=lv a (zR x a q);refine (aV ((kF a ii).2) (λw=>?_) ⟨_,rq x a (Xd q),Z,Wm,Z⟩);have w':a=s.heap.objs.size:=by simp only [<-hL];exact w
     obtain this:=rq x a (Xd q);rw [w',sw] at this;simp [gY,Xc] at this
   . obtain ⟨h1,o,h2,h3,h4⟩:=fq.cell x a q;refine (aV h1 (λw=>?_) ⟨o,keep _ _ h2,h3,h4⟩);obtain w':a=s.heap.objs.size:=by simp only [<-hL];exact w
     rw [w'] at h2;exact absurd (M7 h2) (KO _)
 . (refine bz (rI x a e1) (λq1=>?_) (λaeo=>?_);rotate_left;refine XZ aeo λJ q1=>?_;rotate_right) <;> (refine bz (rI y a e2) (λq2=>?_) (λaep=>?_);rotate_left;refine XZ aep λJ q2=>?_;rotate_right)
   . exact name_of_addr ok.apart (Xd q1) (Xd q2)
   . obtain ⟨_,o,h2,_⟩:=fq.cell y a q2;exact bM (aM (ar (lv a (zR x a q1))) h2)
   . obtain ⟨_,o,h2,_⟩:=fq.cell x a q1;exact bM (aM (ar (lv a (zR y a q2))) h2)
   . exact fq.apart x y a q1 q2
 . (refine bz (rI x a e) (λq=>?_) (λaeq=>?_);rotate_left;refine XZ aeq λJ q=>?_;rotate_right)
   . exact .inl (zR x a q)
   . exact nM.elim (λw=>absurd w hf) λw=>.inr (w x a q)
noncomputable def nv (ad:Str->Wr):List (Str×Yu)->List (Str×Wr)->List (Str×Wr)
 | [],OB=>OB
 | (n,k)::r,OB=>if k==.free then nv ad r ((n,ad n)::OB) else nv ad r OB
set_option tactic.hygienic true in
theorem jX (ad:Str->Wr):∀(names:List (Str×Yu)) (OB:List (Str×Wr)) (p:Str×Wr),p∈nv ad names OB->p∈OB\/(p.2=ad p.1/\(p.1,Nz)∈names)
 | [],OB,p,h=>.inl h
 | (n,k)::r,OB,p,h=>by
   dsimp only [nv] at h
   split at h
   . rename_i hk;obtain rj:k=.free:=by simpa using hk
     clear hk;subst rj;rcases jX ad r _ p h with q | ⟨q1,q2⟩
     . (refine bz (eO q) (λe=>?_) (λq=>?_))
       . clear q h;subst e;exact .inr ⟨Z,.head _⟩
       . exact .inl q
     . exact .inr ⟨q1,.tail _ q2⟩
   . (refine bz (jX ad r OB p h) (λq=>?_) (λaer=>?_);rotate_left;refine XZ aer λq1 q2=>?_;rotate_right)
     . exact .inl q
     . exact .inr ⟨q1,.tail _ q2⟩
theorem rJ (ad:Str->Wr):∀(names:List (Str×Yu)) (OB:List (Str×Wr)) (p:Str×Wr),p∈OB->p∈nv ad names OB
 | [],OB,p,h=>h
 | (n,k)::r,OB,p,h=>by
   dsimp only [nv]
   split
   . exact rJ ad r _ p (.tail _ h)
   . exact rJ ad r OB p h
theorem rK (ad:Str->Wr):∀(names:List (Str×Yu)) (OB:List (Str×Wr)) (x:Str),(x,Nz)∈names->(x,ad x)∈nv ad names OB
 | (n,k)::r,OB,x,h=>by
   dsimp only [nv];rcases eO h with e | h
   . clear h;cases e;exact rJ ad r _ _ (.head _)
   . split
     . exact rK ad r _ x h
     . exact rK ad r OB x h
theorem aes {l:List (Str×Wr)}(h:(x,a)∈l)(hu:∀p∈l,p.1=x->p.2=a):l.lookup x=AN a:=by
 induction l with
 | nil=>exact nomatch h
 | cons p l ih=>
   refine aa Xm ?_;by_cases q:(x==p.1)=Wn
   . refine aa q ?_;obtain this:x=p.1:=by simpa using q
     simp only [hu p (.head _) this.symm]
   . simp only [Y9] at q;refine aa q (ih ?_ λp' m e=>hu p' (.tail _ m) e)
     (refine bz (eO h) (λe=>?_) (λm=>?_))
     . clear hu h;subst e;simp at q
     . exact m
theorem qj (ad:Str->Wr)(names:List (Str×Yu))(x:Str)(h:(x,Nz)∈names):(nv ad names []).lookup x=AN (ad x):=by
 refine aes (rK ad names [] x h) λp m e=>?_
 (refine bz (jX ad names [] p m) (λq=>?_) (λaet=>?_);rotate_left;refine XZ aet λq J=>?_;rotate_right)
 . cases q
 . exact (ar q)▸(ar e)▸Z
theorem kX (ad:Str->Wr)(h:∀x,(x,Nz)∈scope.names->env.cells.lookup x=AN (ad x)):vm scope env=pure (nv ad scope.names []):=by
 obtain go:∀(names:List (Str×Yu)) (OB:List (Str×Wr)),(∀x,(x,Nz)∈names->env.cells.lookup x=AN (ad x))->
  (forIn names OB λ(x:Str×Yu) (cs:List (Str×Wr))=>(match x with | (name,kind)=>if (kind==Nz)=Wn then (do let a <-cellOf env name;pure (N7 ((name,a)::cs))) else pure (N7 cs):Sem (ForInStep (List (Str×Wr)))))=pure (nv ad names OB):=by
  intro names;induction names with
  | nil=>intro OB _;rfl
  | cons p r ih=>
    intro OB h;obtain ⟨n,k⟩:=p;rw [YT];dsimp only [nv];by_cases hk:(k==Nz)=Wn
    . obtain rj:k=.free:=by simpa using hk
      obtain e:cellOf env n=pure (ad n):=by delta cellOf;exact aa (h n (by rw [rj];exact .head _)) Z
      simp only [hk,if_true,e,pure_bind];exact ih _ λx m=>h x (.tail _ m)
    . skip
      simp only [hk,mQ,if_false,pure_bind];exact ih _ λx m=>h x (.tail _ m)
 delta vm;obtain this:=go scope.names [] h;simp only [this,pure_bind]
end
noncomputable def fF (scope sc:YB):YB:=
 {scope with names:=scope.names.map λ(n,k)=>if (k==.free&&sc.kind==.function&&sc.names.lookup n==AN .cell) then (n,.cell) else (n,k)}
theorem aeu (scope:YB)(env:Env):relabel scope env=fF scope env.scope:=rfl
theorem ja (scope sc:YB)(x:Str):(fF scope sc).names.lookup x=(scope.names.lookup x).map λk=>if (k==.free&&sc.kind==.function&&sc.names.lookup x==AN .cell) then .cell else k:=by
 delta fF;dsimp only;induction scope.names with
 | nil=>rfl
 | cons p r ih=>
   obtain ⟨n,k⟩:=p;simp only [WW];by_cases q:(x==n)=Wn
   . obtain this:x=n:=by simpa using q
     clear q;subst this;by_cases h:(k==Nz&&sc.kind==aiw&&sc.names.lookup x==AN Yj)=Wn
     . simp only [h,if_true,Xm,beq_self_eq_true,YU]
     . simp only [h,if_false,Xm,beq_self_eq_true,YU];simp
   . skip
     by_cases h:(k==Nz&&sc.kind==aiw&&sc.names.lookup n==AN Yj)=Wn
     . simp only [h,if_true,Xm,q,ih]
     . simp only [h,if_false,mQ,Xm,q];exact ih
noncomputable def dj (sc scope:YB)(fs vars:bD):Bool:=
 scope.kind==.function&&decide vars.Nodup&&fs.isPrefixOf vars &&
 fs.all (λx=>scope.names.lookup x==AN .free&&(sc.names.lookup x==AN .cell||sc.names.lookup x==AN .free)&&scope.names.all (λp=>!(p.1==x&&p.2==.cell))) &&
 scope.names.all (λp=>!(p.2==.free)||fs.contains p.1)&&scope.names.all (λp=>!(p.2==.local)||scope.names.lookup p.1==AN .local)
noncomputable abbrev yt (scope sc:YB)(env:Env)(own:aJ)(frames:List Env)(hd:rn)(n:Nat)(vars:bD):Cx:=⟨{env with scope:=fF scope sc},own,frames,hd,n,vars⟩
noncomputable def aW (S:AS):d7->Prop
 | []=>True
 | (i,v)::l=>S.loc.lookup i=AN v/\aW S l
theorem aW.at (h:aW S l)(x:Nat)(u:AV)(e:l.lookup x=AN u):S.loc.lookup x=AN u:=by
 induction l with
 | nil=>exact bM e
 | cons p l ih=>
   rw [Xm] at e;cases q:x==p.1 with
   | true=>rw [q] at e;refine aa (eq_of_beq q) (az (bf e) ?_);exact h.1
   | false=>rw [q] at e;exact ih h.2 e
theorem aW.of (h:l.map (λp=>S.loc.lookup p.1)=l.map (λp=>AN p.2)):aW S l:=by
 induction l with
 | nil=>trivial
 | cons p l ih=>exact ⟨(amF h).1,ih (amF h).2⟩
def pI (I:dp)(S:AS):Prop:=∃loc,aW S loc/\I ⟨loc,S.heap⟩
noncomputable def pJ (C:Cx)(S:AS):List (Nat×Str×AV)->Prop
 | []=>True
 | (i,x,v)::r=>C.vars[i]?=AN x/\S.loc.lookup i=AN v/\pJ C S r
noncomputable def iG:Nat->List (Nat×Str×AV)->d7
 | _,[]=>[]
 | n,(_,_,v)::r=>(n,v)::iG (n+1) r
theorem pJ.mem (h:pJ C S l)(p:Nat×Str×AV)(m:p∈l):C.vars[p.1]?=AN p.2.1/\S.loc.lookup p.1=AN p.2.2:=by
 induction l with
 | nil=>exact nomatch m
 | cons q r ih=>
   rcases eO m with rfl | m
   . exact ⟨h.1,h.2.1⟩
   . exact ih h.2.2 m
theorem aev (l:List (Nat×Str×AV))(n j:Nat)(v:AV)(h:(iG n l).lookup j=AN v):∃i x,n<=j/\l[j-n]?=AN (i,x,v):=by
 induction l generalizing n with
 | nil=>exact bM h
 | cons p r ih=>
   dsimp only [iG] at h;rw [Xm] at h;cases q:j==n with
   | true=>
     rw [q] at h;clear ih;refine (bf h)▸?_;clear h;exact (eq_of_beq q)▸(d8 p.1 p.2.1 (bP _) (by refine aa (Hd _) ?_;rfl))
   | false=>
     rw [q] at h;exact FL (ih (n+1) h) λi' x' h1 h2=>(d8 i' x' (aiY h1) (aa (show j-n=(j-(n+1))+1 by exact vX h1) h2))
def AY (c:aZ)(C:Cx):cJ->AS->(Bool->dp)->Prop
 | [],S,K=>K Wn S
 | [t],S,K=>FZ c C t S K fy
 | _,_,_=>False
inductive CompI {β:Type}(C:Cx)(fs:List (Nat×Str×AV))(body:AS->(Nat->List β->dp)->Nat->List β->AV->Prop)(items:bZ)(live:aR->Prop)(ai:AS)(Kf:List β->aR->Prop):Prop
 | mk (I:Nat->List β->dp) (h0:I 0 [] ⟨iG 0 fs,ai.heap⟩) (hl:∀i OB S',I i OB S'->live S'.heap/\OB.length<=Wo) (VG:∀i y OB S',items[i]?=AN y->I i OB S'->body S' I i OB y) (done:∀OB S',I items.length OB S'->Kf OB S'.heap)
def qk {β:Type}(c:aZ)(C:Cx)(sc scope:YB)(vars:bD)(fs:List (Nat×Str×AV))(body:Cx->AS->(Nat->List β->dp)->Nat->List β->AV->Prop)(items:bZ)(live:aR->Prop)(ai:AS)(Kf:List β->aR->Prop):Prop:=
 pJ C ai fs/\∀env own,(∀x,scope.names.lookup x=AN .local\/scope.names.lookup x=AN .cell->bI (yt scope sc env own C.frames C.handled C.n vars) (λJ=>Wm) x)->
  CompI C fs (body (yt scope sc env own C.frames C.handled C.n vars)) items live ai Kf
def lR (c:aZ)(target Cp:Nn)(kV:cJ)(C:Cx)(S:AS)(I:Nat->tI)(i:Nat)(OB:bZ)(y:AV):Prop:=
 wB c C target y S (λaF=>AY c C kV aF (λok bd=>match ok with | false=>pI (I (i+1) OB) bd | true=>Ev c C Cp bd (λw dd=>pI (I (i+1) (OB++[w])) dd) fy))
def aew (c:aZ)(target kx vx:Nn)(kV:cJ)(C:Cx)(S:AS)(I:Nat->gh->dp)(i:Nat)(OB:gh)(y:AV):Prop:=
 wB c C target y S (λaF=>AY c C kV aF (λok bd=>match ok with | false=>pI (I (i+1) OB) bd | true=>Ev c C kx bd (λw dd=>∃x,w=.str x/\Ev c C vx dd (λv dJ=>pI (I (i+1) (ct OB x v)) dJ) fy) fy))
def jY (c:aZ)(target kx vx:Nn)(kV:cJ)(C:Cx)(S:AS)(I:Nat->List (Int×AV)->dp)(i:Nat)(OB:List (Int×AV))(y:AV):Prop:=
 wB c C target y S (λaF=>AY c C kV aF (λok bd=>match ok with | false=>pI (I (i+1) OB) bd | true=>Ev c C kx bd (λw dd=>∃x,w=.int x/\Ev c C vx dd (λv dJ=>pI (I (i+1) (ct OB x v)) dJ) fy) fy))
inductive oy | list (Cp:Nn) | dict (kx vx:Nn) | bB (kx vx:Nn)
noncomputable def oy.ctorIdx (x:oy):Nat:=oy.casesOn x (λJ=>0) (λJ J=>1) (λJ J=>2)
noncomputable def oy.expr (target iter:Nn)(kV:cJ)(scope:YB)(pos:Pos):oy->Nn
 | .list Cp=>.ListComp Cp [⟨target,iter,kV,0⟩] scope pos
 | .dict kx vx=>.DictComp kx vx [⟨target,iter,kV,0⟩] scope pos
 | .bB kx vx=>.DictComp kx vx [⟨target,iter,kV,0⟩] scope pos
noncomputable def oy.emit (D:Wr)(env:Env):oy->Sem Unit
 | .list Cp=>do let _ <-call (.builtin "list.append") [.ref D,<-eval Cp env]
 | .dict kx vx=>do
  let kv <-eval kx env;let vv <-holding [kv] (eval vx env)
  yH {kx.pos with endLine:=vx.pos.endLine,endCol:=vx.pos.endCol}
  holding [kv,vv] (dictSet D kv vv)
 | .bB kx vx=>do
  let kv <-eval kx env;let vv <-holding [kv] (eval vx env)
  yH {kx.pos with endLine:=vx.pos.endLine,endCol:=vx.pos.endCol}
  holding [kv,vv] (dictSet D kv vv)
abbrev oy.β:oy->Type
 | .list _=>AV
 | .dict ..=>Str×AV
 | .bB ..=>Int×AV
def oy.body (c:aZ)(target:Nn)(kV:cJ):(k:oy)->Cx->AS->(Nat->List k.β->dp)->Nat->List k.β->AV->Prop
 | .list Cp=>lR c target Cp kV
 | .dict kx vx=>aew c target kx vx kV
 | .bB kx vx=>jY c target kx vx kV
def oy.em (c:aZ):(k:oy)->Cx->AS->List k.β->(List k.β->dp)->Prop
 | .list Cp,C,S,(OB:bZ),K=>Ev c C Cp S (λw dd=>K (OB++[w]:bZ) dd) fy
 | .dict kx vx,C,S,(OB:gh),K=>Ev c C kx S (λw dd=>∃x,w=.str x/\Ev c C vx dd (λv dJ=>K (ct OB x v:gh) dJ) fy) fy
 | .bB kx vx,C,S,(OB:List (Int×AV)),K=>Ev c C kx S (λw dd=>∃x,w=.int x/\Ev c C vx dd (λv dJ=>K (ct OB x v:List (Int×AV)) dJ) fy) fy
theorem oy.Gq (c:aZ)(target:Nn)(kV:cJ)(k:oy)(C:Cx)(S:AS)(I:Nat->List k.β->dp)(i:Nat)(OB:List k.β)(y:AV)(h:k.body c target kV C S I i OB y) :
 wB c C target y S (λaF=>AY c C kV aF (λok bd=>match ok with | false=>pI (I (i+1) OB) bd | true=>k.em c C bd OB (λjp dd=>pI (I (i+1) jp) dd))):=by
 cases k <;> exact h
def oy.rel (c:aZ)(F:G)(bs:aJ)(D:Wr)(o:Obj):(k:oy)->List k.β->Prop
 | .list _,OB=>∃vs n,o=bu vs n/\c.Vs F bs OB vs
 | .dict ..,OB=>∃rs,lH (sk c.prog c.w) (λJ=>AN o) D rs/\c.SV F bs OB rs
 | .bB ..,OB=>∃rs,lH (ik c.prog c.w) (λJ=>AN o) D rs/\c.IV F bs OB rs
theorem aex (h:Q (Zj scope s.heap.objs.size globals (Gs (s.heap.objs.size+1) scope.names cl) qual Wm .none (AN VT) Xe) {s with heap:=YO (s.heap.push {cls:=.type "dict",data:=.dict #[]}) scope.names}): Dk M A (D7 scope globals cl [] qual Wm .none (AN VT)) Q E s:=by
 refine ag (alU ?_);refine ag (aj8 _ (λname kind cells=>by cases ML:kind==Yj <;> simp [ML]) _ _ _ _ ?_);exact rE (show ({s with heap:=s.heap.push {cls:=.type "dict",data:=.dict #[]}}:Gb).heap.objs.size=s.heap.objs.size+1 from jP ..) (ag (aX (aX h)))
section
variable {s s':Gb}{pos:Pos}
theorem St.forget (z:St c C F bs S s)(h:aW S loc):St c C F bs ⟨loc,S.heap⟩ s:=by
 exact Va z.locs λm hN hl=>⟨z.wd,(af m hN (λx u e=>hl x u (h.at x u e))),z.ir,z.cU,z.own,z.cells,z.apart,z.frames,z.glob,z.blt,z.kind,z.qg,z.iu⟩
theorem aey {k:oy}(I:Nat->nj)
 (VG:∀n s,I n s->Dk (model prog w) A (yQ it) (λr ak=>match r with
  | none=>R (.ok .next) ak
  | some v=>Dk (model prog w) A (Yv target it v) (λJ qi=>Dk (model prog w) A (assign target env v) (λJ am=>
   Dk (model prog w) A (forIn kV Wn λc r=>if r=Wn then do let ok <-O9 c env (eval c env);pure (N7 ok) else pure (N7 r)) (λok aO=>
    if ok=Wn then Dk (model prog w) A (k.emit D env) (λJ fe=>∃m,m<n/\I m fe) (Bk (model prog w) A env λe s'=>R (.error e) s') aO
    else ∃m,m<n/\I m aO) (Bk (model prog w) A env λe s'=>R (.error e) s') am) (Bk (model prog w) A env λe s'=>R (.error e) s') qi) (Bk (model prog w) A env λe s'=>R (.error e) s') ak) (Bk (model prog w) A env λe s'=>R (.error e) s') s)
 (n:Nat) (h:I n s) :
 G4 (model prog w) A (.compLoop (k.expr target iter kV scope pos) 0 it (.ref D) env) R s:=by
 refine codeAny_loop Z I (λn s hI=>?_) n h;have hu:A.under (.compLoop (k.expr target iter kV scope pos) 0 it (.ref D) env)=A:=by clear VG;cases k <;> rfl
 have hd:(model prog w).den (.compLoop (k.expr target iter kV scope pos) 0 it (.ref D) env)=(compTurn (k.expr target iter kV scope pos) 0 it (.ref D) env).onRaise (λx=>do amV x env;theTreesLotGoes x):=by clear hu VG;cases k <;> rfl
 refine aa hu (aa hd (wpAny_noted ?_));have e:compTurn (k.expr target iter kV scope pos) 0 it (.ref D) env=(do
  yH iter.pos
  match <-yQ it with
  | none=>pure (.done .next)
  | some v=>
    Yv target it v
    assign target env v
    let mut ok:=Wn
    for c in kV do
     if ok then ok <-O9 c env (eval c env)
    if ok then k.emit D env
    again (.compLoop (k.expr target iter kV scope pos) 0 it (.ref D) env)):=by clear hd hu VG;cases k <;> rfl
 refine rE e (ag (yr (ag (aS (VG n s hI) (λr ak h₁=>?_) λJ J h'=>h'))));cases r with
 | none=>exact aX h₁
 | some v=>
   refine ag (aS h₁ (λJ qi ww=>ag (aS ww (λJ am im=>ag (aS im (λok aO lO=>?_) λJ J h'=>h')) λJ J h'=>h')) λJ J h'=>h');cases ok with
   | false=>exact aX ⟨Z,lO⟩
   | true=>exact ag (aS lO (λJ cK u4=>aX ⟨Z,u4⟩) λJ J h'=>h')
theorem kI (h:dj sc scope fs vars=Wn):scope.kind=.function/\vars.Nodup/\(∃r,fs++r=vars)/\(∀x∈fs,scope.names.lookup x=AN .free/\(sc.names.lookup x=AN .cell\/sc.names.lookup x=AN .free)/\∀k,(x,k)∈scope.names->k≠.cell)/\(∀x,(x,Nz)∈scope.names->x∈fs)/\(∀p∈scope.names,p.2=.local->scope.names.lookup p.1=AN .local):=by
 simp only [dj,fA,beq_iff_eq,decide_eq_true_eq,Xy,K2,Xs,ajV,beq_eq_false_iff_ne,Na] at h;refine XZ h λIc h6=>?_;refine XZ Ic λIb h5=>?_;clear Ic;refine XZ Ib λBS h4=>?_;clear Ib;refine XZ BS λF1 h3=>?_;clear BS;obtain ⟨h1,h2⟩:=F1;refine (nX h1 h2 (agM.mp h3) (λx hx=>?_) (λx hx=>?_) (λp hp hl=>?_))
 . refine XZ (h4 x hx) λCP a3=>?_;refine XZ CP λa1 a2=>?_;clear CP;refine (aV a1 a2 (λk hk e=>?_));obtain this:=a3 (x,k) hk Z;exact this e
 . (refine bz (h5 (x,.free) hx) (λq=>?_) (λq=>?_))
   . exact absurd Z q
   . exact q
 . (refine bz (h6 p hp) (λq=>?_) (λq=>?_))
   . exact absurd hl q
   . exact q
theorem mem_of_lookupK {l:List (Str×Yu)}(h:l.lookup x=AN k):(x,k)∈l:=by
 induction l with
 | nil=>exact bM h
 | cons p l ih=>
   rw [Xm] at h;by_cases q:(x==p.1)=Wn
   . replace h:=q▸h;cases h;obtain this:x=p.1:=by simpa using q
     clear ih q;subst this;exact .head _
   . simp only [Y9] at q;rw [q] at h;exact .tail _ (ih h)
theorem jz.cellAt (z:jz c C F bs h m i v)(hx:C.vars[i]?=AN x)(hk:C.env.kindOf x=AN .cell\/C.env.kindOf x=AN .free): Ia c C.env F bs h x v:=by
 refine Va z λx' qQ w=>?_;obtain rfl:=bf (aM (ar hx) qQ);cases w with
 | loc hl=>rw [hl] at hk;exact hk.elim nofun nofun
 | cell _ w=>exact w
noncomputable def kJ (C:Cx)(scope:YB):List (Str×Wr):=nv (λx=>(C.env.cells.lookup x).getD 0) scope.names []
theorem tN (pK:C.env.scope=sc)(fE:dj sc scope (fs.map (·.2.1)) vars=Wn)(z:St c C F bs S s)(gQ:pJ C S fs): vm scope C.env=pure (kJ C scope)/\∀s',s'={s with heap:=YO (s.heap.push {cls:=.type "dict",data:=.dict #[]}) scope.names}->∃env own,Zj scope s.heap.objs.size C.env.globals (Gs (s.heap.objs.size+1) scope.names (kJ C scope)) C.env.qual Wm .none (AN C.env) Xe=env/\St c (yt scope sc env own C.frames C.handled C.n vars) F bs ⟨iG 0 fs,S.heap⟩ s'/\a7 c F bs s s'/\(∀b∈own,s.heap.get? b=Wm)/\env.locals=s.heap.objs.size/\(∀x,scope.names.lookup x=AN .local\/scope.names.lookup x=AN .cell->bI (yt scope sc env own C.frames C.handled C.n vars) (λJ=>Wm) x)/\(s'.heap.get? s.heap.objs.size=AN {cls:=.type "dict",data:=.dict #[]}):=by
 refine FP (kI fE) λk1 k2 Fk k4 k5 k6=>?_;refine Ml Fk λCq k3=>?_;clear Fk;refine Va z.locs λm hN hl=>?_;obtain cellAt:∀x,x∈fs.map (·.2.1)->∃a,C.env.cells.lookup x=AN a:=λx hx=>by refine Va (gM hx) λp hp BT=>?_;obtain rfl:=BT;refine XZ (gQ.mem p hp) λh1 h2=>?_;refine RR (k4 p.2.1 hx) λJ Xc J=>?_;obtain ⟨a,o,r,e,_⟩:=(hl _ _ h2).cellAt h1 (by delta A9;refine aa pK ?_;exact Xc);exact (cj a e)
 let ad:Str->Wr:=λx=>(C.env.cells.lookup x).getD 0;have Mj:∀x,x∈fs.map (·.2.1)->C.env.cells.lookup x=AN (ad x):=λx hx=>by refine Ml (cellAt x hx) λa e=>?_;show _=AN ((C.env.cells.lookup x).getD 0);refine rE e ?_;rfl
 refine ⟨kX ad λx hx=>Mj x (k5 x hx),λs' dz=>?_⟩;have yu:∀x a,(nv ad scope.names []).lookup x=AN a->C.env.cells.lookup x=AN a:=λx a e=>by
  (refine bz (jX ad scope.names [] (x,a) (Xd e)) (λq=>?_) (λBU=>?_);rotate_left;refine XZ BU λq1 q2=>?_;rotate_right)
  . cases q
  . have:a=ad x:=q1;exact rE this (Mj x (k5 x q2))
 let cs:=Gs (s.heap.objs.size+1) scope.names [];refine (d8 _ (s.heap.objs.size::cs.map (·.2)) Z ?_);have op:=St.opens z.wd ⟨λx a e=>?_,λx y a e1 e2=>z.apart x y a (yu x a e1) (yu y a e2)⟩ "dict" (by decide) scope.names
  {(Zj scope s.heap.objs.size C.env.globals (Gs (s.heap.objs.size+1) scope.names (nv ad scope.names [])) C.env.qual Wm .none (AN C.env) Xe) with scope:=fF scope sc}
  (s.heap.objs.size::cs.map (·.2)) C.frames C.handled C.n vars (iG 0 fs) dz Z Z Z z.glob z.blt k1 k2 (λe he=>?_) (λi v e=>?_) (.inl Z)
 . refine RR op λo1 o2 o3=>?_;refine (nX o1 o2 o3 Z (λx hx=>?_) ?_)
   . (refine bz hx (λq=>?_) (λq=>?_))
     . refine .inl ?_;show (fF scope sc).names.lookup x=_
       rewrite [ja]
       refine aa q ?_;rfl
     . refine .inr ⟨?_,?_⟩
       . show (fF scope sc).names.lookup x=_
         rewrite [ja]
         refine aa q ?_;rfl
       . obtain BZ:=ahv _ _ _ (.inl q);refine Ml (Yk.mp BZ) λa ha=>(af a ?_ (.tail _ (fV (af (x,a) (Xd ha) Z))))
         rewrite [dX]
         refine aa GU ?_;refine rE ha ?_;rfl
   . exact aa dz (Oc _ _ _ _ (dB _ Z))
 . obtain ⟨h1,h2,o,h3,h4,h5⟩:=z.cells x a (yu x a e);exact (CE h1 o h3 h4 h5)
 . refine XZ (z.frames e he) λf1 f2=>?_;refine ⟨f1.keep λb o e J=>(af o (aa dz ?_) (.refl o)),f2⟩;exact Oc _ _ _ _ (cC _ e)
 . refine FL (aev fs 0 i v e) λi' x h1 h2=>?_
   obtain hm:=bO h2;have hmx:x∈fs.map (·.2.1):=fV (af _ hm Z);refine XZ (gQ.mem _ hm) λe1 e2=>RR (k4 x hmx) λq1 q2 q3=>?_;obtain Xg:C.env.kindOf x=AN .cell\/C.env.kindOf x=AN .free:=by delta A9;refine aa pK ?_;exact q2
   obtain ⟨a,o,r,w1,w2,w3,w4⟩:=(hl _ _ e2).cellAt e1 Xg;refine ⟨x,?_,?_,q3,a,o,r,?_,w2,w3,w4⟩
   . refine az k3 (aa (fb (by rw [qY];exact (bA h2).1)) (aa bV ?_));refine rE h2 ?_;rfl
   . show (fF scope sc).names.lookup x=_\/(fF scope sc).names.lookup x=_
     rewrite [ja]
     refine aa q1 ?_;by_cases h:(Nz==Nz&&sc.kind==aiw&&sc.names.lookup x==AN Yj)=Wn
     . left;simp only [YU,h,if_true]
     . right;simp only [YU,h,if_false];simp
   . refine aa (qj ad scope.names x (mem_of_lookupK q1)) ?_;obtain this:=Mj x hmx;rw [w1] at this;exact this.symm
end
end Mine.Internal
namespace Mine.Internal
open PySem PyProof.Rows PySem.W
section
variable {prog:AZ}{w:X3}{s s':Gb}{pos:Pos}{Cl:Wr}
theorem bL.keys {kvs:List (Int×AV)}{rs:List (Int×Ws)}(h:c.IV F bs kvs rs):rs.map (·.1)=kvs.map (·.1):=by
 induction kvs generalizing rs with
 | nil=>refine rE h.inv ?_;rfl
 | cons p l ih=>refine dr h.inv λJ J pt J t=>?_;refine rE pt ?_;exact congrArg (p.1::·) (ih t)
theorem bL.any {kvs:List (Int×AV)}{rs:List (Int×Ws)}(k:Int)(h:c.IV F bs kvs rs):rs.any (λkv=>kv.1=k)=kvs.any (λkv=>kv.1=k):=by
 obtain e:=congrArg (anX · λx=>decide (x=k)) h.keys
 rwa [K0,K0] at e
theorem bL.map {kvs:List (Int×AV)}{rs:List (Int×Ws)}(k:Int)(h:c.IV F bs kvs rs)(hv:c.V F bs x v):c.IV F bs (kvs.map λkv=>if kv.1=k then (kv.1,x) else kv) (rs.map λkv=>if kv.1=k then (kv.1,v) else kv):=by
 induction kvs generalizing rs with
 | nil=>refine rE h.inv ?_;exact .nil
 | cons p l ih=>
   refine dr h.inv λw r wF hx t=>?_;refine rE wF ?_;refine aa WW (aa WW ?_);by_cases e:p.1=k
   . exact aa (if_pos e) (aa (if_pos e) (.cons hv (ih t)))
   . exact aa (if_neg e) (aa (if_neg e) (.cons hx (ih t)))
theorem bL.append {kvs:List (Int×AV)}{rs:List (Int×Ws)}(h:c.IV F bs kvs rs)(h':c.IV F bs yk M6):c.IV F bs (kvs++yk) (rs++M6):=by
 induction kvs generalizing rs with
 | nil=>refine rE h.inv ?_;exact h'
 | cons y ys ih=>refine dr h.inv λJ J un h1 h2=>?_;refine rE un ?_;exact .cons h1 (ih h2)
theorem bL.put {kvs:List (Int×AV)}{rs:List (Int×Ws)}(k:Int)(h:c.IV F bs kvs rs)(hv:c.V F bs x v):c.IV F bs (ct kvs k x) (stored rs k v):=by
 delta ct stored;refine aa (bL.any k h) ?_
 split
 . exact bL.map k h hv
 . exact bL.append h (.cons hv .nil)
theorem Cn (x:Int)(t:Tok):(ik prog w).is x (.int x t)=Wn:=by show anp x (.int x t)=Wn;simp [anp]
end
end Mine.Internal
namespace Mine.Internal
open PySem PyProof.Rows
structure js (W:aJ)(F:G)(bs:aJ)(h:Xi)(F':G)(aK:aJ)(h':Xi):Prop where
 sub:∀b o,F b=AN o->F' b=AN o
 ext:∃nb,aK=bs++nb/\∀a∈nb,h.get? a=Wm
 mono:∀b o,b∉W->h.get? b=AN o->∃o',h'.get? b=AN o'
 eP:∀b o,h.get? b=AN o->b∉W->b∉bs->o.cls≠.none->∃o',h'.get? b=AN o'/\jo o o'
 jS:∀b o,F' b=AN o->F b=Wm->h.get? b=Wm\/b∈bs
section
variable {W own:aJ}{F F₁ aP:G}{bs bs₁ aB:aJ}{h h₁ im:Xi}
theorem js.Gr (m:a7 c F bs s s'):js W F bs s.heap F bs s'.heap:=
 ⟨λJ J e=>e,(af [] (by simp) (by simp)),λb o J e=>(cj o (m.keep _ _ e)),λb o e J J J=>(af o (m.keep _ _ e) (.refl o)),λb o e n=>by lia⟩
theorem js.step (x:js W F bs h F₁ bs₁ h₁)(y:Step own F₁ bs₁ h₁ aP aB im)(ho:∀a∈own,a∈W)(hW:∀a∈W,∃o,h₁.get? a=AN o):js W F bs h aP aB im:=by
 refine Va x.ext λnb tH hn=>?_;obtain rfl:=tH;refine Va y.ext λvR qR ii=>?_;refine rE qR ?_;have new:∀a,h₁.get? a=Wm->h.get? a=Wm:=λa ha=>by
  cases e:h.get? a with
  | none=>rfl
  | some o=>
    by_cases q:a∈W
    . refine Ml (hW a q) λo' e'=>?_;rw [ha] at e';cases e'
    . refine Ml (x.mono a o q e) λo' e'=>?_;rw [ha] at e';cases e'
 have F3:∀b o,h.get? b=AN o->b∉bs->b∉bs++nb:=λb o e n m=>by
  (refine bz (cH m) (λm=>?_) (λm=>?_))
  . exact n m
  . exact bM (aM (ar (hn b m)) e)
 refine ⟨λb o e=>y.sub _ _ (x.sub _ _ e),(af (nb++vR) (by simp) (λa ha=>(cH ha).elim (hn a) (λq=>new a (ii a q)))),λb o q e=>?_,λb o e n1 n2 n3=>?_,λb o e n=>?_⟩
 . refine Ml (x.mono b o q e) λo' e'=>?_;exact y.mono _ _ e'
 . refine Va (x.eP b o e n1 n2 n3) λo' e' s1=>Va (y.eP b o' e' (λq=>n1 (ho b q)) (F3 b o e n2) (by refine rE s1.cls ?_;exact n3)) λFV Cd s2=>?_;exact (af FV Cd (s1.trans s2))
 . cases e1:F₁ b with
   | some o1=>exact x.jS b o1 e1 n
   | none=>
     (refine bz (y.jS b o e e1) (λz=>?_) (λz=>?_))
     . exact .inl (new b z)
     . (refine bz (cH z) (λz=>?_) (λz=>?_))
       . exact .inr z
       . exact .inl (hn b z)
theorem js.others (x:js W F bs h F₁ bs₁ s.heap)(t:eF wr s s')(hw:∀a∈wr,a∈W):js W F bs h F₁ bs₁ s'.heap:=by
 refine ⟨x.sub,x.ext,λb o q e=>?_,λb o e n1 n2 n3=>?_,x.jS⟩
 . refine Ml (x.mono b o q e) λo' e'=>?_;exact (cj o' (t.same b (λm=>q (hw b m)) _ e'))
 . refine Va (x.eP b o e n1 n2 n3) λo' e' s1=>?_;exact (af o' (t.same b (λm=>n1 (hw b m)) _ e') s1)
theorem Step.Nl (x:Step own F bs h F₁ bs₁ h₁)(y:js W F₁ bs₁ h₁ aP aB im)(hW:∀a∈W,h.get? a=Wm):Step own F bs h aP aB im:=by
 refine Va x.ext λnb o9 hn=>?_;obtain rfl:=o9;refine Va y.ext λvR o8 ii=>?_;refine rE o8 ?_;obtain F3:∀b o,h.get? b=AN o->b∉bs->b∉bs++nb:=λb o e n m=>by
  (refine bz (cH m) (λm=>?_) (λm=>?_))
  . exact n m
  . exact bM (aM (ar (hn b m)) e)
 have nW:∀b o,h.get? b=AN o->b∉W:=λb o e q=>by exact bM (aM (ar (hW b q)) e)
 have new:∀a,h₁.get? a=Wm->h.get? a=Wm:=λa ha=>by
  cases e:h.get? a with
  | none=>rfl
  | some o=>refine Ml (x.mono _ _ e) λo' e'=>?_;exact bM (aM (ar ha) e')
 refine ⟨λb o e=>y.sub _ _ (x.sub _ _ e),(af (nb++vR) (by simp) (λa ha=>(cH ha).elim (hn a) (λq=>new a (ii a q)))),λb o e=>?_,λb o e n1 n2 n3=>?_,λb o e n=>?_⟩
 . refine Ml (x.mono _ _ e) λo' e'=>?_;exact y.mono b o' (nW b o e) e'
 . refine Va (x.eP b o e n1 n2 n3) λo' e' s1=>Va (y.eP b o' e' (nW b o e) (F3 b o e n2) (by refine rE s1.cls ?_;exact n3)) λFV Cd s2=>?_;exact (af FV Cd (s1.trans s2))
 . cases e1:F₁ b with
   | some o1=>exact x.jS b o1 e1 n
   | none=>
     (refine bz (y.jS b o e e1) (λz=>?_) (λz=>?_))
     . exact .inl (new b z)
     . (refine bz (cH z) (λz=>?_) (λz=>?_))
       . exact .inr z
       . exact .inl (hn b z)
end
section
variable {s s':Gb}{pos:Pos}
theorem St.Kd (x:St c C F bs S s)(st:js W F bs s.heap F' aK s'.heap)(hW:∀b∈W,s.heap.get? b=Wm\/dI c C F bs b)(y:Wd c F' aK H' s'):St c C F' aK {S with heap:=H'} s':=by
 refine Va st.ext λnb o7 VP=>?_;obtain rfl:=o7;refine Va x.locs λmm hN hl=>?_;have ye:∀b o,s.heap.get? b=AN o->b∉bs->b∉bs++nb:=λb o e q z=>by
  (refine bz (cH z) (λz=>?_) (λz=>?_))
  . exact q z
  . exact bM (aM (ar (VP b z)) e)
 have Ch:∀b o,s.heap.get? b=AN o->b∉bs->F b=Wm->F' b=Wm:=λb o e q z=>by
  cases e':F' b with
  | none=>rfl
  | some o'=>(refine bz (st.jS b o' e' z) (λy=>?_) (λy=>?_))
             . exact bM (aM (ar y) e)
             . exact absurd y q
 have Ke:∀b o,s.heap.get? b=AN o->¬dI c C F bs b->b∉W:=λb o e q m=>(hW b m).elim (λz=>by lia) q;have Nm:∀b∈C.own,∀o,s.heap.get? b=AN o->b∉W:=λb hb o e=>Ke b o e λf=>f.own hb;have Ip:∀y b,C.env.cells.lookup y=AN b->∀o,s.heap.get? b=AN o->b∉W:=λy b hb o e=>Ke b o e λf=>f.cells y hb;obtain aez:∀e∈C.frames,∀L,e.frame=AN L->∀o,s.heap.get? L=AN o->L∉W:=λe he L hL o e'=>Ke L o e' λf=>f.frames e he hL;obtain hL:=(x.own _ x.cU).2.1;refine Va x.ir λoL eL nL=>Va (st.eP _ oL eL (Nm _ x.cU oL eL) hL nL) λFa CI sL=>⟨y,(af mm ?_ (λz v e=>?_)),(af Fa CI (by refine aa sL.cls ?_;exact nL)),x.cU,λb hb=>?_,λz b e=>?_,x.apart,λe he=>⟨?_,λL FX=>?_⟩,x.glob,x.blt,x.kind,x.qg,x.iu.mono st.sub⟩
 . refine FN hN λo es ep ho hd r=>?_;obtain rfl:=bf (aM (ar eL) ho);exact (fK Fa es ep CI (sL.data.trans hd) r)
 . refine jz.mono st.sub ((hl z v e).heap λy b o e1 e2=>?_);obtain ⟨h1,h2,o2,h3,h4,_⟩:=x.cells y b e1;obtain rfl:=bf (aM (ar e2) h3);refine Va (st.eP b o e2 (Ip y b e1 o e2) h1 (by refine aa h4 ?_;simp)) λo' e' s1=>?_;exact (af o' e' s1.data)
 . obtain ⟨h1,h2,o,h3⟩:=x.own b hb;exact (aV (Ch b o h3 h2 h1) (ye b o h3 h2) (st.mono b o (Nm b hb o h3) h3))
 . obtain ⟨h1,h2,o,h3,h4,v,h5⟩:=x.cells z b e;refine Va (st.eP b o h3 (Ip z b e o h3) h1 (by refine aa h4 ?_;simp)) λo' e' s1=>?_;exact (aV (ye b o h3 h1) h2 ⟨o',e',s1.cls.trans h4,v,s1.data.trans h5⟩)
 . obtain ⟨hk,L,o,h1,h2,h3,h4⟩:=(x.frames e he).1;refine Va (st.eP L o h2 (aez e he L h1 o h2) ((x.frames e he).2 L h1).2 (by refine aa h3 ?_;simp)) λo' e' s1=>?_;exact ⟨hk,L,o',h1,e',s1.cls.trans h3,λvs=>by refine aa s1.data ?_;exact h4 vs⟩
 . obtain ⟨hk,L',o,h1,h2,h3,h4⟩:=(x.frames e he).1;obtain rfl:=bf (aM (ar FX) h1);obtain this:=(x.frames e he).2 L FX;exact ⟨Ch L o h2 this.2 this.1,ye L o h2 this.2⟩
theorem aeA {K:Bool->dp}(hA:lp C A)(z:St c C F bs S s)(h:AY c C kV S K) :
 WP c C A (λJ J b r=>r=b) (forIn kV Wn λc r=>if r=Wn then do let ok <-O9 c C.env (eval c C.env);pure (N7 ok) else pure (N7 r)) F bs s K fy:=by
 match kV,h with
 | [],h=>exact wpAny_tests_nil ⟨F,bs,Wn,S,.refl ..,z,Z,h⟩
 | [t],h=>exact wpAny_tests_one (h A F bs s hA z)
 | _::_::_,h=>exact h.elim
theorem oy.jt {k:oy}{OB:List k.β}(h:k.rel c F bs D ob OB):ob.cls≠.none/\ob.cls≠.type "frame":=by
 cases k with
 | list Cp=>refine FL h λvs n o6 J=>?_;clear h;refine rE o6 ?_;simp [bu]
 | dict kx vx=>refine Va h λrs yf J=>?_;clear h;obtain ⟨es,n,e,_⟩:=yf;refine rE (bf e) ?_;simp [a9]
 | bB kx vx=>refine Va h λrs yf J=>?_;clear h;obtain ⟨es,n,e,_⟩:=yf;refine rE (bf e) ?_;simp [a9]
theorem oy.jZ {k:oy}{OB:List k.β}(x:k.rel c F bs D ob OB)(st:Step own F bs h F' aK h'):k.rel c F' aK D ob OB:=by
 cases k with
 | list Cp=>refine FL x λvs n e hv=>?_;exact (d8 vs n e (st.Vs hv))
 | dict kx vx =>refine Va x λrs e hv=>?_;refine Va st.ext λnb o5 J=>?_;refine rE o5 ?_;exact (af rs e (bE.mono st.sub hv))
 | bB kx vx =>refine Va x λrs e hv=>?_;refine Va st.ext λnb o5 J=>?_;refine rE o5 ?_;exact (af rs e (bL.mono st.sub hv))
noncomputable def oy.obj₀:oy->Obj
 | .list _=>bu [] 0
 | .dict ..=>a9 #[] 0
 | .bB ..=>a9 #[] 0
noncomputable def oy.new:oy->Sem Ws
 | .list _=>newList []
 | .dict ..=>newDict
 | .bB ..=>newDict
inductive EmP (c:aZ)(C:Cx)(k:oy)(D:Wr)(ob:Obj)(F:G)(bs:aJ)(h₀:Xi)(K:List k.β->dp)(th:Gb):Prop
 | mk (F':G) (aK:aJ) (S':AS) (fe:Gb) (jp:List k.β) (JC:Obj) (st:Step C.own F bs h₀ F' aK fe.heap) (z:St c C F' aK S' fe) (h5:fe.heap.get? D=AN ob) (f:dI c C F' aK D) (t:eF [D] fe th) (h6:th.heap.get? D=AN JC) (hr:k.rel c F' aK D JC jp) (hk:K jp S')
inductive Iq (c:aZ)(C:Cx)(k:oy)(D:Wr)(own:aJ)(wr:aJ)(N:Nat)(Ps:Nat->G->aJ->nj)(F:G)(bs:aJ)(h₀:Xi)(I:Nat->List k.β->dp)(j:Nat)(s':Gb):Prop
 | mk (F':G) (aK:aJ) (S':AS) (i:Nat) (OB:List k.β) (ob:Obj) (st:js own F bs h₀ F' aK s'.heap) (z:St c C F' aK S' s') (f:cx c C F' aK wr s'.heap) (fD:dI c C F' aK D) (h:s'.heap.get? D=AN ob) (hr:k.rel c F' aK D ob OB) (hI:I i OB S') (p:Ps i F' aK s') (hi:i<=N) (e:j=N+1-i)
inductive Dw (c:aZ)(C:Cx)(k:oy)(D:Wr)(own:aJ)(F:G)(bs:aJ)(h₀:Xi)(I:List k.β->dp)(r:Except Ws Flow)(s':Gb):Prop
 | mk (e:r=.ok .next) (F':G) (aK:aJ) (S':AS) (OB:List k.β) (ob:Obj) (st:js own F bs h₀ F' aK s'.heap) (z:St c C F' aK S' s') (fD:dI c C F' aK D) (h:s'.heap.get? D=AN ob) (hr:k.rel c F' aK D ob OB) (hI:I OB S')
abbrev aeB (c:aZ)(C:Cx)(k:oy)(i:Nat)(OB:List k.β)(I:Nat->List k.β->dp):Bool->dp:=λok bd=>match ok with | false=>pI (I (i+1) OB) bd | true=>k.em c C bd OB (λjp dd=>pI (I (i+1) jp) dd)
abbrev aeC (c:aZ)(C:Cx)(A:M5)(k:oy)(D:Wr)(to:Nat->nj)(n:Nat):Bool->nj:=λok aO=>if ok=Wn then Dk (model c.prog c.w) A (k.emit D C.env) (λJ fe=>∃m,m<n/\to m fe) (λJ J=>False) aO else ∃m,m<n/\to m aO
theorem aeD (hA:lp C A)(z:St c C F bs S s){OB:List k.β}(hD:s.heap.get? D=AN ob)(hr:k.rel c F bs D ob OB)(fD:dI c C F bs D)(hl:OB.length<=Wo){K:List k.β->dp}(h:k.em c C S OB K): Dk (model c.prog c.w) A (k.emit D C.env) (λJ=>EmP c C k D ob F bs s.heap K) (λJ J=>False) s:=by
 have lT:∀{F' ta:G} {aK nw:aJ} {s' sB:Gb},dI c C F' aK D->s'.heap.get? D=AN ob->Step C.own F' aK s'.heap ta nw sB.heap->sB.heap.get? D=AN ob/\dI c C ta nw D:=by intro F' ta aK nw s' sB fd hd st;refine Va (st.eP D _ hd fd.own fd.bs (oy.jt hr).1) λo' e' sm=>?_;rw [sm.rh (oy.jt hr).2] at e';exact ⟨e',fd.step st hd⟩
 cases k with
 | list Cp=>
   refine ag (aS (h A F bs s hA z) (λx fe q6=>q6.casesOn λfc dq w dJ jb eT hw kk=>XZ (lT fD hD jb) λkY ql=>?_) λJ J q7=>q7.casesOn λJ J J J J J J q=>q.elim);refine FL hr λvs n o4 bn=>?_;clear hr;clear lT hD;obtain rfl:=o4;obtain tp:vs.length<=Wo:=by refine aa bn.length ?_;exact hl
   refine ag (hJ Gk (af _ kY Z) aiM (aiv _ _) (ahx D vs.toArray n x (tp)) ⟨kY,aX ?_⟩);obtain e:(bu vs n).mapSeq (λXn=>Xn.push x)=bu (vs++[x]) (n+1):=by simp [bu,OM]
   generalize zS:({fe with heap:=fe.heap.update D (OM λXn=>Xn.push x),toks:=fe.toks}:Gb)=th;have zU:th.heap.get? D=AN (bu (vs++[x]) (n+1)):=by
    exact zS▸e▸(lD _ kY (Z))
   have hs:Nw D fe.heap th.heap:=by refine zS▸?_;exact AU ..
   exact ⟨fc,dq,dJ,fe,OB++[w],_,jb,eT,kY,ql,⟨λb hb o e=>(hs.2 b (by simpa using hb)).trans e,az zS Z,az zS Z⟩,zU,(d8 _ _ Z ((jb.Vs bn).append (.cons hw .nil))),kk⟩
 | dict kx vx=>
   refine ag (aS (h A F bs s hA z) (λkv cK pL=>pL.casesOn λek ca w dd j0 de hw oC=>?_) λJ J q9=>q9.casesOn λJ J J J J J J q=>q.elim);obtain ⟨x,ew,u4⟩:=oC;refine XZ (lT fD hD j0) λoD tO=>?_;subst ew;refine Ml hw.inv λJ o3=>?_;refine rE o3 ?_;refine ag (pa (aS (u4 A ek ca cK hA de) (λvv fe Xo=>Xo.casesOn λfc dq v dJ jb eT hv kk=>XZ (lT tO oD jb) λkY ql=>Va (oy.jZ (oy.jZ hr j0) jb) λrs hd po=>?_) λJ J MY=>MY.casesOn λJ J J J J J J q=>q.elim));have Dx:lH (sk c.prog c.w) fe.heap.get? D rs:=by obtain ⟨es,n,e,r⟩:=hd;clear oD hr lT hD;obtain rfl:=bf e;exact ⟨es,n,kY,r⟩
   refine ag (yr (pa (akw (hsz:=by obtain e:=congrArg XG (bE.keys po);simp at e;refine aa e ?_;exact hl) (Cw x _) (Dx.dictOf (c:=c)) λh' uY dz=>?_)));obtain uZ:=lH.rx uY (let ⟨_,_,_,_,_,_,e⟩:=hd;e);obtain ⟨es,n,e,r⟩:=uZ;exact ⟨fc,dq,dJ,fe,ct OB x v,_,j0.trans jb,eT,kY,ql,⟨λb hb o e=>(dz.2 b (by simpa using hb)).trans e,Z,Z⟩,e,(af _ ⟨es,n,Z,r⟩ (bE.put x po hv)),kk⟩
 | bB kx vx=>
   refine ag (aS (h A F bs s hA z) (λkv cK dL=>dL.casesOn λek ca w dd j0 de hw eR=>?_) λJ J q9=>q9.casesOn λJ J J J J J J q=>q.elim);obtain ⟨x,ew,u4⟩:=eR;refine XZ (lT fD hD j0) λoD tO=>?_;subst ew;refine Ml hw.inv λJ o3=>?_;refine rE o3 ?_;refine ag (pa (aS (u4 A ek ca cK hA de) (λvv fe Xo=>Xo.casesOn λfc dq v dJ jb eT hv kk=>XZ (lT tO oD jb) λkY ql=>Va (oy.jZ (oy.jZ hr j0) jb) λrs hd po=>?_) λJ J MY=>MY.casesOn λJ J J J J J J q=>q.elim));have Dx:lH (ik c.prog c.w) fe.heap.get? D rs:=by obtain ⟨es,n,e,r⟩:=hd;clear oD hr lT hD;obtain rfl:=bf e;exact ⟨es,n,kY,r⟩
   refine ag (yr (pa (akw (hsz:=by obtain e:=congrArg XG (bL.keys po);simp at e;refine aa e ?_;exact hl) (Cn x _) (Dx.dictOf (c:=c)) λh' uY dz=>?_)));obtain uZ:=lH.rx uY (let ⟨_,_,_,_,_,_,e⟩:=hd;e);obtain ⟨es,n,e,r⟩:=uZ;exact ⟨fc,dq,dJ,fe,ct OB x v,_,j0.trans jb,eT,kY,ql,⟨λb hb o e=>(dz.2 b (by simpa using hb)).trans e,Z,Z⟩,e,(af _ ⟨es,n,Z,r⟩ (bL.put x po hv)),kk⟩
theorem aeE (hh:C.handled=Wm)(W:Ce c target it items live wr Ps)(I:Nat->List k.β->dp)(hI:∀i OB S',I i OB S'->live S'.heap/\OB.length<=Wo)(VG:∀i y OB S',items[i]?=AN y->I i OB S'->k.body c target kV C S' I i OB y)(hA:lp C A)(h0:I 0 [] S)(z:St c C F bs S s)(mT:cx c C F bs wr s.heap)(hp:Ps 0 F bs s)(hD:s.heap.get? D=AN Ir)(It:k.rel c F bs D Ir [])(fD:dI c C F bs D)(Kh:D∉wr)(an:js (wr++D::C.own) F₁ bs₁ h₁ F bs s.heap): G4 (model c.prog c.w) A (.compLoop (k.expr target iter kV scope pos) 0 (.ref it) (.ref D) C.env) (Dw c C k D (wr++D::C.own) F₁ bs₁ h₁ (I items.length)) s:=by
 refine aey (Iq c C k D (wr++D::C.own) wr items.length Ps F₁ bs₁ h₁ I) ?_ (items.length+1)
  ⟨F,bs,S,0,[],Ir,an,z,mT,fD,hD,It,h0,hp,Dv _,zx⟩
 intro j am o1;obtain ⟨aP,aB,aF,i,OB,ob,av,aI,AC,m3,oE,oG,tP,zL,hi,rfl⟩:=o1;have mV:∀(F':G) (aK:aJ) (S':AS) (s':Gb),St c C F' aK S' s'->cx c C F' aK wr s'.heap->(∃ob,s'.heap.get? D=AN ob)->∀a∈wr++D::C.own,∃o,s'.heap.get? a=AN o:=λF' aK S' s' z' f' uY a ha=>by
  rcases cH ha with q | q
  . refine Va (f'.at_ a q) λo e J=>?_;exact (cj o e)
  . clear ha oG oE m3 av an Kh fD It hD;rcases eO q with rfl | q
    . exact uY
    . exact (z'.own a q).2.2
 have Ki:∀a∈wr++C.own,a∈wr++D::C.own:=λa ha=>by
  rcases cH ha with q | q
  . exact fz (.inl q)
  . exact fz (.inr (.tail _ q))
 have lT:∀{own:aJ} {F' ta:G} {aK nw:aJ} {s' sB:Gb},(∀a∈own,a∈wr++C.own)->dI c C F' aK D->s'.heap.get? D=AN ob->Step own F' aK s'.heap ta nw sB.heap->sB.heap.get? D=AN ob/\dI c C ta nw D:=by
  intro own F' ta aK nw s' sB ho fd hd st;obtain ⟨o',e',sm⟩:=st.eP D _ hd (λq=>by
   rcases cH (ho D q) with q | q
   . exact Kh q
   . exact fd.own q) fd.bs (oy.jt oG).1
  rw [sm.rh (oy.jt oG).2] at e';exact ⟨e',fd.step st hd⟩
 have:=W.next (Dw c C k D (wr++D::C.own) F₁ bs₁ h₁ (I items.length) (.ok .next))
  (λwv=>Dk (model c.prog c.w) A (forIn kV Wn λc r=>if r=Wn then do let ok <-O9 c C.env (eval c C.env);pure (N7 ok) else pure (N7 r)) (aeC c C A k D (Iq c C k D (wr++D::C.own) wr items.length Ps F₁ bs₁ h₁ I) (items.length+1-i)) (λJ J=>False) wv) (λJ J=>False)
  (λaF=>AY c C kV aF (aeB c C k i OB I)) hA hh aI (hI i OB aF tP).1 zL AC ?_ ?_
 . refine aS this (λr ak h₁=>?_) λJ J e=>e.elim;cases r with
   | none=>exact h₁
   | some v=>exact aS h₁ (λJ qi ww=>aS ww (λJ wv C6=>aS C6 (λok aO lO=>by
    cases ok with
    | true=>exact aS lO (λx cK u4=>u4) λJ J e=>e.elim
    | false=>exact lO) λJ J e=>e.elim) λJ J e=>e.elim) λJ J e=>e.elim
 . intro he s' z' t;obtain nt:i=items.length:=by rw [Gu] at he;exact zB hi he
   exact nt▸⟨Z,aP,aB,aF,OB,ob,av.others t λa ha=>fz (.inl ha),z',m3,t.same D Kh _ oE,oG,tP⟩
 . intro y hy;have Ge:=(bA hy).1;refine ⟨k.Gq c target kV C aF I i OB y (VG i y OB aF hy tP),λbv aT bd aO a8 CU A0 bR up=>?_⟩;obtain aL:=av.step up Ki (mV _ _ _ _ aI AC (cj ob oE));refine XZ (lT (λa ha=>ha) m3 oE up) λIu Dy=>?_;obtain aeF:=oy.jZ oG up;refine aS (aeA hA a8 bR) (λok cK q15=>q15.casesOn λek ca b dd j0 de hb iF=>?_) λJ J q16=>q16.casesOn λJ J J J J J J q=>q.elim;clear q15;subst hb;have ce:=aL.step j0 (λa ha=>Ki a (fz (.inr ha))) (mV _ _ _ _ a8 CU (cj ob Iu));refine XZ (lT (λa ha=>fz (.inr ha)) Dy Iu j0) λoD tO=>?_;have zV:=oy.jZ aeF j0;have Np:=W.keep A0 CU a8 j0 de;have Gv:=(CU.step j0).1;cases ok with
   | false=>
     exact Va iF λloc hl kk=>(af _ (qH hi) ⟨ek,ca,⟨loc,dd.heap⟩,i+1,OB,ob,ce,de.forget hl,Gv,tO,oD,zV,kk,Np,Ge,Z⟩)
   | true=>
     refine aS (aeD hA de oD zV tO (hI i OB aF tP).2 iF) (λ_ th ⟨fc,dq,dJ,fe,jp,JC,jb,eT,kY,ql,Gw,zU,aeG,loc,hl,kk⟩=>?_) λJ J e=>e.elim;obtain dW:=ce.step jb (λa ha=>Ki a (fz (.inr ha))) (mV _ _ _ _ de Gv (cj ob oD));obtain aeH:=W.keep Np Gv de jb eT;have Kj:=(Gv.step jb).1;obtain wJ:=eT.frees Gw ⟨λa ha=>by simp only [bN ha];exact ql,λa ha=>by refine aa (bN ha) ?_;exact (aU _ kY ((oy.jt zV).1) ((oy.jt zV).2))⟩;obtain sx:Step ([D]++[]) fc dq fe.heap fc dq th.heap:=Step.lN Gw λa ha=>by refine rE (bN ha) ?_;exact (cj _ zU)
     obtain aeI:=W.C4 aeH Kj (λa ha q=>by simp at q;exact Kh (q▸ha)) eT sx wJ;exact (af _ (qH hi) ⟨fc,dq,⟨loc,dJ.heap⟩,i+1,jp,JC,dW.others Gw (λa ha=>by refine aa (bN ha) ?_;exact fz (.inr (.head _))),wJ.forget hl,⟨Kj.free,λa ha=>by refine Va (Kj.at_ a ha) λo q1 q2=>?_;exact (af o (Gw.same a (λm=>Kh (bN m▸ha)) _ q1) q2)⟩,ql,zU,aeG,kk,aeI,Ge,Z⟩)
end
section
variable {s s':Gb}{pos:Pos}{a:Wr}{ob:Obj}
set_option tactic.hygienic true in
theorem St.kK (z:St c C F bs S s)(f:dI c C F bs a)(ha:s.heap.get? a=AN ob)(fq:ob.cls≠.none):St c C (plus F a ob) bs S s:=by
 obtain hF:=f.F;refine Va z.locs λmm hN hl=>?_;have w:=z.wd;refine ⟨⟨λb o e=>?_,λb o e q=>aY hF _ _ (w.base b o e q),w.old.plus hF (w.old.yd ha fq),w.len,w.nodup,λk b o e1 e2=>⟨by simpa using gg.mono (nb:=[]) (aY (ob:=ob) hF) (w.obj k b o e1 e2).1,λq=>?_⟩,w.there,w.os,w.gens,λb hb o e=>(by unfold plus at e;split at e;(· rename_i q;exact absurd (q▸hb) f.bs);(· exact w.kept b hb o e))⟩,
  (af mm hN (λx v e=>by simpa using jz.mono (nb:=[]) (aY (ob:=ob) hF) (hl x v e))),z.ir,z.cU,λb hb=>⟨?_,(z.own b hb).2⟩,z.cells,z.apart,λe he=>⟨(z.frames e he).1,λL hL=>⟨?_,((z.frames e he).2 L hL).2⟩⟩,z.glob,z.blt,z.kind,z.qg,z.iu.mono (aY f.F)⟩
 . unfold plus at e
   split at e
   . rename_i q;clear hF f;refine rE q ?_;cases e;exact ha
   . exact w.sub _ _ e
 . delta plus;refine aa (if_neg (λ(e:b=a)=>f.bs (e▸bO e1))) ?_;exact (w.obj k b o e1 e2).2 q
 . delta plus;refine aa (if_neg (λ(e:b=a)=>f.own (e▸hb))) ?_;exact (z.own b hb).1
 . delta plus;refine aa (if_neg (λ(e':L=a)=>f.frames e he (e'▸hL))) ?_;exact ((z.frames e he).2 L hL).1
theorem St.adopt (z:St c C F bs S s)(f:dI c C F bs a)(ha:s.heap.get? a=AN ob)(hr:gg c F (bs++[a]) s.heap a o):St c C F (bs++[a]) {S with heap:=S.heap++[o]} s:=by
 refine Va z.locs λmm hN hl=>?_;have w:=z.wd;refine ⟨⟨w.sub,w.base,w.old,by simp [w.len],?_,λk b o' e1 e2=>?_,λb hb=>?_,w.os,w.gens,λb hb o e=>(cH hb).elim (λq=>w.kept b q o e) λq=>by rw [bN q,f.F] at e;cases e⟩,(af mm hN (λx v e=>jz.mono (λJ J e=>e) (hl x v e))),z.ir,z.cU,λb hb=>(aV ((z.own b hb).1) (λq=>?_) ((z.own b hb).2.2)),λx b e=>⟨λq=>?_,(z.cells x b e).2⟩,z.apart,λe he=>⟨(z.frames e he).1,λL hL=>⟨((z.frames e he).2 L hL).1,λq=>?_⟩⟩,z.glob,z.blt,z.kind,z.qg,z.iu⟩
 . refine bb M9 ?_;refine (aV w.nodup (by simp) (λp hp q hq e=>?_));rw [bN hq] at e;exact f.bs (e▸hp)
 . by_cases hk:k<bs.length
   . rw [fb hk] at e1;rw [fb (by refine az w.len ?_;exact hk)] at e2;exact ⟨gg.mono (λJ J e=>e) (w.obj k b o' e1 e2).1,(w.obj k b o' e1 e2).2⟩
   . obtain rj:k=bs.length:=by obtain this:=(bA e1).1;simp at this;exact uD this hk
     clear hk;subst rj;simp at e1;rw [w.len] at e2;simp at e2;subst e1 e2;exact ⟨hr,λJ=>f.F⟩
 . (refine bz (cH hb) (λq=>?_) (λq=>?_))
   . exact w.there b q
   . refine aa (bN q) ?_;exact (cj ob ha)
 . (refine bz (cH q) (λq=>?_) (λq=>?_))
   . exact (z.own b hb).2.1 q
   . exact f.own (bN q▸hb)
 . (refine bz (cH q) (λq=>?_) (λq=>?_))
   . exact (z.cells x b e).1 q
   . exact f.cells x (bN q▸e)
 . (refine bz (cH q) (λq=>?_) (λq=>?_))
   . exact ((z.frames e he).2 L hL).2 q
   . exact f.frames e he (bN q▸hL)
set_option tactic.hygienic true in
theorem Step.kK (st:Step own F₀ bs₀ h₀ F bs h)(hF:F a=Wm)(hn:h₀.get? a=Wm):Step own F₀ bs₀ h₀ (plus F a ob) bs h:=
 ⟨λb o e=>aY hF _ _ (st.sub b o e),st.ext,st.mono,st.eP,λb o e n=>by
  delta plus at e
  split at e
  . rename_i q;clear hF;subst q;exact .inl hn
  . exact st.jS b o e n⟩
theorem Step.adopt (st:Step own F₀ bs₀ h₀ F bs h)(hn:h₀.get? a=Wm):Step own F₀ bs₀ h₀ F (bs++[a]) h:=by refine Va st.ext λnb BT h1=>?_;refine rE BT ?_;exact ⟨st.sub,(af (nb++[a]) (by simp) (λb hb=>(cH hb).elim (h1 b) λq=>by refine aa (bN q) ?_;exact hn)),st.mono,st.eP,st.jS⟩
inductive AdP (c:aZ)(C:Cx)(a:Wr)(F:G)(bs:aJ)(F₀:G)(bs₀:aJ)(h₀:Xi)(K:cu)(s:Gb):Prop
 | mk (F':G) (aK:aJ) (v:AV) (S':AS) (st:Step C.own F₀ bs₀ h₀ F' aK s.heap) (z:St c C F' aK S' s) (hv:c.V F' aK v (.ref a)) (hk:K v S') (hb:∀b,b≠a->(F b=Wm->F' b=Wm)/\(b∉bs->b∉aK))
theorem St.Kk (z:St c C F bs S s)(st:Step C.own F₀ bs₀ h₀ F bs s.heap)(hn:h₀.get? a=Wm)(f:dI c C F bs a)(ha:s.heap.get? a=AN (bu vs n))(hv:c.Vs F bs xs vs)(k:rD K xs S): AdP c C a F bs F₀ bs₀ h₀ K s:=by
 (refine bz k (λk=>?_) (λk=>?_))
 . exact ⟨_,bs,.lst xs,S,st.kK f.F hn,z.kK f ha (by simp [bu]),.lst (cj n bU) (by simpa using bh.mono (nb:=[]) (aY f.F) hv),k,λb hb=>⟨λe=>by unfold plus;refine aa (if_neg hb) ?_;exact e,id⟩⟩
 . refine ⟨F,_,.ref S.heap.length,_,st.adopt hn,z.adopt (o:=.list xs) f ha (af vs (cj n ha) (bh.mono (λJ J e=>e) hv)),.ref ?_,k,λb hb=>⟨id,λq m=>?_⟩⟩
   . refine z.wd.len▸?_;simp
   . rcases cH m with m | m
     . exact q m
     . exact hb (bN m)
theorem Wd.others (w:Wd c F bs H s)(t:eF wr s s')(hw:∀a∈wr,F a=Wm/\a∉bs/\c.h₀.get? a=Wm):Wd c F bs H s':=
 ⟨λb o e=>t.same b (λq=>by exact bM (aM (ar ((hw b q).1)) e)) _ (w.sub b o e),w.base,iO.oo w.old (λa ha=>(hw a ha).2.2) t.same,w.len,w.nodup,
  λk b o e1 e2=>⟨(w.obj k b o e1 e2).1.at λob e=>t.same b (λq=>(hw b q).2.1 (bO e1)) _ e,(w.obj k b o e1 e2).2⟩,
  λb hb=>Ml (w.there b hb) λo e=>(cj o (t.same b (λq=>(hw b q).2.1 hb) _ e)),t.os.trans w.os,t.gens.trans w.gens,w.kept⟩
def Kl (K:cu)(OB:List (Int×AV))(S:AS):Prop:=K (.dQ OB) S\/K (.ref S.heap.length) {S with heap:=S.heap++[.bB OB]}
def oy.fin (K:cu)(S:AS):(k:oy)->List k.β->Prop
 | .list _,OB=>rD K OB S
 | .dict ..,OB=>K (.kC OB) S
 | .bB ..,OB=>Kl K OB S
def oy.may (c:aZ):oy->Prop
 | .list _=>True
 | .dict ..=>∃mg mb,Base c mg mb
 | .bB ..=>∃mg mb,Base c mg mb
theorem oy.adopt {k:oy}(z:St c C F bs S s)(st:Step C.own F₀ bs₀ h₀ F bs s.heap)(hn:h₀.get? a=Wm)(f:dI c C F bs a)(ha:s.heap.get? a=AN ob){OB:List k.β}(hr:k.rel c F bs a ob OB)(kk:k.fin K S OB): AdP c C a F bs F₀ bs₀ h₀ K s:=by
 cases k with
 | list Cp=>refine FL hr λvs n BU hv=>?_;clear hr;obtain rfl:=BU;exact z.Kk st hn f ha hv kk
 | dict kx vx=>
   refine Va hr λrs hd po=>?_;obtain sp:lH (sk c.prog c.w) (plus F a ob) a rs:=by obtain ⟨es,n,e,r⟩:=hd;exact ⟨es,n,by refine az (bf e) ?_;exact bU,r⟩
   exact ⟨_,bs,.kC OB,S,st.kK f.F hn,z.kK f ha (oy.jt (k:=.dict kx vx) (af rs hd po)).1,.kC sp (by simpa using bE.mono (nb:=[]) (aY f.F) po),kk,λb hb=>⟨λe=>by unfold plus;refine aa (if_neg hb) ?_;exact e,id⟩⟩
 | bB kx vx=>
   refine Va hr λrs hd po=>?_;rcases kk with kk | kk
   . obtain sp:lH (ik c.prog c.w) (plus F a ob) a rs:=by obtain ⟨es,n,e,r⟩:=hd;exact ⟨es,n,by refine az (bf e) ?_;exact bU,r⟩
     exact ⟨_,bs,.dQ OB,S,st.kK f.F hn,z.kK f ha (oy.jt (k:=.bB kx vx) (af rs hd po)).1,.dQ sp (by simpa using bL.mono (nb:=[]) (aY f.F) po),kk,λb hb=>⟨λe=>by unfold plus;refine aa (if_neg hb) ?_;exact e,id⟩⟩
   . obtain sp:lH (ik c.prog c.w) s.heap.get? a rs:=by obtain ⟨es,n,e,r⟩:=hd;exact ⟨es,n,by refine az (bf e) ?_;exact ha,r⟩
     refine ⟨F,_,.ref S.heap.length,_,st.adopt hn,z.adopt (o:=.bB OB) f ha (af rs sp (bL.mono (λJ J e=>e) po)),.ref ?_,kk,λb hb=>⟨id,λq m=>?_⟩⟩
     . refine z.wd.len▸?_;simp
     . rcases cH m with m | m
       . exact q m
       . exact hb (bN m)
theorem oy.Km {k:oy}(h:Q (.ref s.heap.objs.size) {s with heap:=s.heap.push k.obj₀}):Dk (model c.prog c.w) A k.new Q E s:=by
 cases k with
 | list Cp=>exact yq h
 | dict kx vx=>exact yq h
 | bB kx vx=>exact yq h
theorem oy.Kn {k:oy}(hm:k.may c)(z:St c C F bs S s)(hn:s.heap.get? a=Wm):k.rel c F bs a k.obj₀ []:=by
 cases k with
 | list Cp=>exact (d8 [] 0 Z (.nil))
 | dict kx vx =>refine CB hm λmg mb B=>?_;exact (af [] ⟨#[],0,Z,λe he=>by simp at he,.nil,Nq,z.uO B hn⟩ (.nil))
 | bB kx vx =>refine CB hm λmg mb B=>?_;exact (af [] ⟨#[],0,Z,λe he=>by simp at he,.nil,Nq,z.uO B hn⟩ (.nil))
theorem rL {target iter:Nn}{k:oy}{kV:cJ}{scope sc:YB}{Nr:Pos}{use:Option (Ws->Sem Unit)}{vars:bD}(fs:List (Nat×Str×AV))(hh:C.handled=Wm)(pK:C.env.scope=sc)(fE:dj sc scope (fs.map (·.2.1)) vars=Wn)(hA:lp C A)(hm:k.may c)(z:St c C F bs S s)(gQ:pJ C S fs)
 (Kf:cu) {Q:pF}
 (h:jW c C target iter S (λitems live ai=>qk c C sc scope vars fs (k.body c target kV) items live ai (λOB H=>k.fin Kf {ai with heap:=H} OB)) X)
 (hQ:match use with
  | none=>∀F' aK v S' r s',Step C.own F bs s.heap F' aK s'.heap->St c C F' aK S' s'->c.V F' aK v r->Kf v S'->Q r s'
  | some u=>∀F' aK v S' r s' L,Step C.own F bs s.heap F' aK s'.heap->St c C F' aK S' s'->c.V F' aK v r->Kf v S'->s.heap.get? L=Wm->dI c C F' aK L->(∃m,s'.heap.Ns L m)->(∃o,s'.heap.get? L=AN o/\o.cls≠.none)->
   Dk (model c.prog c.w) A (u r) (λJ sB=>∃m,sB.heap.Ns L m/\∀h',Nw L sB.heap h'->Q .none {sB with heap:=h'}) (WX c C F bs s.heap X) s')
 (hs:∀x,XF iter C.env x=pure x:=by intro _;rfl) :
 Dk (model c.prog c.w) A (comprehension (k.expr target iter kV scope pos) scope C.env Nr k.new Wp (eval iter C.env) use) Q (WX c C F bs s.heap X) s:=by
 refine FP (kI fE) λk1 J J J J k6=>?_;refine wpAny_comprehension_free (g:=⟨target,iter,kV,0⟩) (gs:=[]) (by clear h hm;cases k <;> rfl) hs (tN pK fE z gQ).1 k1 k6 ?_;refine aS (h A F bs s hA z) (λxv ge C8=>aS C8 (λaaY ak ⟨F₁,bs₁,ai,it,items,live,wr,Ps,e,st,aC,W,JV,hn,hf,hl,zW,body⟩=>?_) λJ J e=>e) λJ J e=>e;refine rE e ?_;refine oy.Km ?_;generalize hD:ak.heap.objs.size=D;generalize bi:({ak with heap:=ak.heap.push k.obj₀}:Gb)=am;have nD:ak.heap.get? D=Wm:=gf (by refine rE hD ?_;exact bP _);have Cr:a7 c F₁ bs₁ ak am:=by simp only [<-bi];exact ⟨λb o e=>cC _ e,Z,Z⟩
 have oE:am.heap.get? D=AN k.obj₀:=by refine bi▸hD▸?_;exact dB _ (by clear bi body C8 h;cases k <;> rfl)
 obtain aI:=aC.keep Cr;refine aex ?_;refine CB ((tN pK fE aI zW).2 _ Z) λenv own CP=>?_;refine FO CP λNt a8 rM Nu eL be hdL=>?_;clear CP;refine rE Nt ?_;obtain ⟨I,i0,iL,VG,fin⟩:=body env own be;generalize eA:({am with heap:=YO (am.heap.push {cls:=.type "dict",data:=.dict #[]}) scope.names}:Gb)=aO at a8 rM hdL;have Wb:∀b,am.heap.get? b=Wm->ak.heap.get? b=Wm:=λb e=>by
  cases q:ak.heap.get? b with
  | none=>rfl
  | some o=>exact lj (aM (ar (Cr.keep _ _ q)) e)
 obtain mt:∀b∈own,ak.heap.get? b=Wm:=λb hb=>Wb b (Nu b hb);have VZ:∀b,ak.heap.get? b=Wm->s.heap.get? b=Wm:=λb e=>by
  cases q:s.heap.get? b with
  | none=>rfl
  | some o=>refine Ml (st.mono _ _ q) λo' e'=>?_;exact bM (aM (ar e) e')
 have Xr:D∉own:=λq=>bM (aM (ar (Nu D q)) oE);obtain Kh:D∉wr:=λq=>by refine Va (hf.at_ D q) λo e J=>?_;exact bM (aM (ar nD) e)
 obtain aeJ:∀b o,ak.heap.get? b=AN o->dI c C F₁ bs₁ b->dI c (yt scope sc env own C.frames C.handled C.n vars) F₁ bs₁ b:=λb o e f=>by
  refine ⟨f.F,f.bs,(λq=>bM (aM (ar (mt b q)) e)),λx q=>?_,f.frames⟩;have q':env.cells.lookup x=AN b:=q;rw [<-Nt] at q';have Mk:(Gs (am.heap.objs.size+1) scope.names (kJ C scope)).lookup x=AN b:=q';rw [dX,GU] at Mk;cases hc:(Gs (am.heap.objs.size+1) scope.names []).lookup x with
  | some b' =>replace Mk:=hc▸Mk;cases Mk;obtain ok:=La scope.names (am.heap.push {cls:=.type "dict",data:=.dict #[]}) (am.heap.objs.size+1) [] ⟨λJ J hm=>(nomatch hm),On⟩ (by simp only [jP];exact bP _);rw [jP] at ok;obtain h1:=(ok.empty x b (Xd hc)).2;obtain h2:=M7 (Cr.keep _ _ e);exact absurd h2 (DF.mpr (aiY h1))
  | none=>
    rw [hc] at Mk;have q3:(kJ C scope).lookup x=AN b:=Mk
    (refine bz (jX _ scope.names [] (x,b) (Xd q3)) (λw=>?_) (λBX=>?_);rotate_left;refine XZ BX λw1 w2=>?_;rotate_right)
    . exact nomatch w
    . refine FP (kI fE) λJ J J k4 k5 J=>?_;refine Va (gM (k5 x w2)) λp hp U7=>?_;refine XZ (zW.mem p hp) λe1 e2=>?_;refine Va aC.locs λm hN zX=>?_;obtain ⟨a',o',r',ea,_⟩:=(zX _ _ e2).cellAt e1 (by delta A9;refine aa pK ?_;exact (k4 p.2.1 (fV (af p hp Z))).2.1);have U8:b=(C.env.cells.lookup x).getD 0:=w1;rw [U7] at ea;rw [ea] at U8;exact f.cells x (by refine aa ea (aa U8 ?_);rfl)
 obtain aeK:cx c (yt scope sc env own C.frames C.handled C.n vars) F₁ bs₁ wr aO.heap:=⟨λb hb=>by refine Va (hf.at_ b hb) λo e J=>?_;exact aeJ b o e (hf.free b hb),λb hb=>by refine Va (hf.at_ b hb) λo e q=>?_;exact (af o (rM.keep _ _ (Cr.keep _ _ e)) q)⟩
 obtain m3:dI c C F₁ bs₁ D:=aC.fg nD;obtain Dy:dI c (yt scope sc env own C.frames C.handled C.n vars) F₁ bs₁ D:=by refine ⟨m3.F,m3.bs,Xr,λx q=>?_,m3.frames⟩;obtain ⟨_,_,o,e,hc,_⟩:=a8.cells x D q;obtain rfl:=bf (aM (ar (rM.keep _ _ oE)) e);clear e fin VG iL i0 I oE bi body C8 h;cases k <;> simp [oy.obj₀,bu,a9] at hc
 have A0:Ps 0 F₁ bs₁ aO:=by
  obtain aeL:a7 c F₁ bs₁ ak aO:=⟨λb o e=>rM.keep _ _ (Cr.keep _ _ e),rM.os.trans Cr.os,rM.gens.trans Cr.gens⟩
  exact W.C4 (own:=[]) JV hf (λJ J q=>by cases q) aC (Step.keep aeL) ((aC.keep Cr).keep rM)
 obtain hA':lp (yt scope sc env own C.frames C.handled C.n vars) A:=⟨hA.handled,hA.depth,hA.units,hA.frames⟩
 have loop:=aeE (C:=yt scope sc env own C.frames C.handled C.n vars) (pos:=pos) (iter:=iter) (scope:=scope) (F₁:=F₁) (bs₁:=bs₁) (h₁:=ak.heap) hh W I iL VG hA' i0 a8 aeK A0 (rM.keep _ _ oE) (oy.Kn hm aC nD) Dy Kh (js.Gr (c:=c) ⟨λb o e=>rM.keep _ _ (Cr.keep _ _ e),rM.os.trans Cr.os,rM.gens.trans Cr.gens⟩);obtain aeM:({env with scope:=relabel scope C.env}:Env)=(yt scope sc env own C.frames C.handled C.n vars).env:=aa (aeu _ _) (aa pK Z);refine rE aeM ?_;have sw:env.locals∈own:=by obtain this:=a8.cU;exact this
 have post:∀r s',Dw c (yt scope sc env own C.frames C.handled C.n vars) k D (wr++D::own) F₁ bs₁ ak.heap (I items.length) r s'->
  compPost (model c.prog c.w) A (WX c C F bs s.heap X) use Q (.ref D) env.locals r s':=by
  intro r s' o1;obtain ⟨aeN,F',aK,S',OB,ob,qy,z',fD',uY,bn,hI⟩:=o1;refine rE aeN ?_;obtain hnW:∀b∈wr++D::own,s.heap.get? b=Wm:=λb hb=>by
   (refine bz (cH hb) (λq=>?_) (λq=>?_))
   . exact hn b q
   . (refine bz (eO q) (λBW=>?_) (λq=>?_);refine rE BW ?_)
     . exact VZ _ nD
     . exact VZ b (mt b q)
  obtain hW:∀b∈wr++D::own,ak.heap.get? b=Wm\/dI c C F₁ bs₁ b:=λb hb=>by
   (refine bz (cH hb) (λq=>?_) (λq=>?_))
   . exact .inr (hf.free b q)
   . (refine bz (eO q) (λBV=>?_) (λq=>?_);refine rE BV ?_)
     . exact .inl nD
     . exact .inl (mt b q)
  obtain iP:∀b,ak.heap.get? b=Wm->c.h₀.get? b=Wm:=λb e=>by
   cases q:c.h₀.get? b with
   | none=>rfl
   | some o=>refine Ml (aC.wd.old.there _ _ q) λo' e'=>?_;exact bM (aM (ar e) e')
  have VT:∀sB,eF [env.locals] s' sB->(∀b∈[env.locals],True)->Step C.own F bs s.heap F' aK sB.heap/\St c C F' aK {ai with heap:=S'.heap} sB/\sB.heap.get? D=AN ob:=λsB t J=>by
   obtain w'':=z'.wd.others t λb hb=>by refine rE (bN hb) ?_;exact (aV ((z'.own _ sw).1) ((z'.own _ sw).2.1) (iP _ (mt _ sw)))
   obtain sv:=qy.others t λb hb=>by simp only [bN hb];exact fz (.inr (.tail _ sw))
   exact (aV (st.Nl sv hnW) (aC.Kd sv hW w'') (t.same D (λq=>Xr (bN q▸sw)) _ uY))
  obtain Nx:dI c C F' aK D:=⟨fD'.F,fD'.bs,m3.own,m3.cells,m3.frames⟩
  refine Va z'.locs λmL U9 J=>?_;cases use with
  | none =>refine (af mL U9 (λh' dz=>?_));refine RR (VT {s' with heap:=h'} ⟨λb hb o e=>(dz.2 b (by simpa using hb)).trans e,Z,Z⟩ λJ J=>trivial) λo1 o2 o3=>?_;obtain ⟨ta,nw,v,Gc,a1,a2,a3,a4,_⟩:=oy.adopt o2 o1 (VZ _ nD) Nx o3 bn (fin OB S' hI);exact hQ ta nw v Gc _ _ a1 a2 a3 a4
  | some u=>
    refine RR (VT s' ⟨λb J o e=>e,Z,Z⟩ λJ J=>trivial) λo1 o2 o3=>?_;obtain ⟨ta,nw,v,Gc,a1,a2,a3,a4,a5⟩:=oy.adopt o2 o1 (VZ _ nD) Nx o3 bn (fin OB S' hI);obtain fL:dI c C F₁ bs₁ env.locals:=aC.fg (mt _ sw);obtain eLo:=(z'.own _ sw)
    obtain hLD:env.locals≠D:=λq=>Xr (q▸sw);refine hQ ta nw v Gc _ _ env.locals a1 a2 a3 a4 (VZ _ (mt _ sw)) ⟨(a5 _ hLD).1 eLo.1,(a5 _ hLD).2 eLo.2.1,fL.own,fL.cells,fL.frames⟩ (cj mL U9) z'.ir
 obtain tQ:=NL loop post;cases k with
 | list Cp=>exact codeAny_compStart_list tQ (W.self (F:=F₁) (bs:=bs₁) _ _ (hA.handled.trans hh) A0 tQ)
 | dict kx vx=>exact ajF tQ (W.self (F:=F₁) (bs:=bs₁) _ _ (hA.handled.trans hh) A0 tQ)
 | bB kx vx=>exact ajF tQ (W.self (F:=F₁) (bs:=bs₁) _ _ (hA.handled.trans hh) A0 tQ)
theorem gA {target iter Cp:Nn}{kV:cJ}{scope sc:YB}(vars:bD)(fs:List (Nat×Str×AV))(hh:C.handled=Wm)(gQ:pJ C S fs)(fE:dj sc scope (fs.map (·.2.1)) vars=Wn)
 (h:jW c C target iter S (λitems live ai=>qk c C sc scope vars fs (lR c target Cp kV) items live ai (λOB H=>rD K OB {ai with heap:=H})) X)
 (pK:C.env.scope=sc:=by rfl) (hs:∀x,XF iter C.env x=pure x:=by intro _;rfl):Ev c C (.ListComp Cp [⟨target,iter,kV,0⟩] scope pos) S K X:=by
 intro A F bs s hA z;exact rL (k:=.list Cp) (use:=Wm) fs hh pK fE hA trivial z gQ K h (λF' aK v S' r s' st z' hv k=>⟨F',aK,v,S',st,z',hv,k⟩) hs
theorem m4 {k:oy}{K:gX}(fs:List (Nat×Str×AV))(hh:C.handled=Wm)(pK:C.env.scope=sc)(fE:dj sc scope (fs.map (·.2.1)) vars=Wn)(hA:lp C A)(hm:k.may c)(z:St c C F bs S s)(gQ:pJ C S fs)(h:jW c C target iter S (λitems live ai=>qk c C sc scope vars fs (k.body c target kV) items live ai (λOB H=>k.fin (λv aF=>wm c C (.Name y py) v aF (λbd=>K .next bd) X) {ai with heap:=H} OB)) X)(hs:∀x,XF iter C.env x=pure x): Dk (model c.prog c.w) A (comprehension (k.expr target iter kV scope pos) scope C.env Nr k.new Wp (eval iter C.env) (AN (assign (.Name y py) C.env))) (λJ s'=>∃F' aK S',Step C.own F bs s.heap F' aK s'.heap/\St c C F' aK S' s'/\K .next S') (WX c C F bs s.heap X) s:=by
 refine rL fs hh pK fE hA hm z gQ _ h ?_ hs;intro F' aK v S' r s' L st z' hv k hL fL ⟨mL,U9⟩ ⟨oL,eL,nL⟩;refine aS (k A F' aK s' r hA z' hv) (λJ sB q25=>q25.casesOn λta nw J Gc yv C2 J Xu=>?_) (λx sB q26=>q26.casesOn λta nw cls Gc yv C2 hx Xu=>⟨ta,nw,cls,Gc,st.trans yv,C2,hx.back st.mono,Xu⟩);refine Va (yv.eP L oL eL fL.own fL.bs nL) λFa CI sm=>?_;refine (af mL ?_ (λh' dz=>?_))
 . refine FN U9 λo es ep ho hd q=>?_;obtain rfl:=bf (aM (ar eL) ho);exact (fK Fa es ep CI (sm.data.trans hd) q)
 . obtain t:ac1 L sB {sB with heap:=h'}:=⟨λb q o e=>(dz.2 b q).trans e,Z,Z⟩
   exact (fK ta nw Gc ((st.trans yv).other hL t.same) (C2.free t (fL.step yv eL) CI (by refine aa sm.cls ?_;exact nL)) Xu)
theorem jc {target iter Cp:Nn}{y:Str}{py:Pos}{kV:cJ}{scope sc:YB}{Dz:Pos}{K:gX}(vars:bD)(fs:List (Nat×Str×AV))(hh:C.handled=Wm)(gQ:pJ C S fs)(fE:dj sc scope (fs.map (·.2.1)) vars=Wn)
 (h:jW c C target iter S (λitems live ai=>qk c C sc scope vars fs (lR c target Cp kV) items live ai (λOB H=>rD (λv aF=>wm c C (.Name y py) v aF (λbd=>K .next bd) X) OB {ai with heap:=H})) X)
 (Xv:amT (.ListComp Cp [⟨target,iter,kV,0⟩] scope pos) (AN (.Name y py)) Dz.line C.env=pure Wn:=by rfl)
 (pK:C.env.scope=sc:=by rfl) (hs:∀x,XF iter C.env x=pure x:=by intro _;rfl):lB c C (.Assign [.Name y py] (.ListComp Cp [⟨target,iter,kV,0⟩] scope pos) Dz) S K X:=by
 intro A F bs s hA z;refine rE (ajW _ _ _ _ Xv) ?_;refine ag (yr (ag ?_));refine ag ?_;exact aS (m4 (k:=.list Cp) fs hh pK fE hA trivial z gQ h hs) (λJ s' q27=>FN q27 λF' aK S' st z' k=>aX (aX ⟨F',aK,.next,S',st,z',Z,k⟩)) λJ J e=>e
theorem aeO {target iter kx vx:Nn}{y:Str}{py:Pos}{kV:cJ}{scope sc:YB}{Dz:Pos}{K:gX}(B:Base c mg mb)(vars:bD)(fs:List (Nat×Str×AV))(hh:C.handled=Wm)(gQ:pJ C S fs)(fE:dj sc scope (fs.map (·.2.1)) vars=Wn)
 (h:jW c C target iter S (λitems live ai=>qk c C sc scope vars fs (jY c target kx vx kV) items live ai (λOB H=>Kl (λv aF=>wm c C (.Name y py) v aF (λbd=>K .next bd) X) OB {ai with heap:=H})) X)
 (Xv:amT (.DictComp kx vx [⟨target,iter,kV,0⟩] scope pos) (AN (.Name y py)) Dz.line C.env=pure Wn:=by rfl)
 (pK:C.env.scope=sc:=by rfl) (hs:∀x,XF iter C.env x=pure x:=by intro _;rfl):lB c C (.Assign [.Name y py] (.DictComp kx vx [⟨target,iter,kV,0⟩] scope pos) Dz) S K X:=by
 intro A F bs s hA z;refine rE (ajW _ _ _ _ Xv) ?_;refine ag (yr (ag ?_));refine ag ?_;exact aS (m4 (k:=.bB kx vx) fs hh pK fE hA (n4 _ _ B) z gQ h hs) (λJ s' W1=>FN W1 λF' aK S' st z' k=>aX (aX ⟨F',aK,.next,S',st,z',Z,k⟩)) λJ J e=>e
theorem aeP {target iter kx vx:Nn}{kV:cJ}{scope sc:YB}(B:Base c mg mb)(vars:bD)(fs:List (Nat×Str×AV))(hh:C.handled=Wm)(gQ:pJ C S fs)(fE:dj sc scope (fs.map (·.2.1)) vars=Wn)
 (h:jW c C target iter S (λitems live ai=>qk c C sc scope vars fs (jY c target kx vx kV) items live ai (λOB H=>Kl K OB {ai with heap:=H})) X)
 (pK:C.env.scope=sc:=by rfl) (hs:∀x,XF iter C.env x=pure x:=by intro _;rfl):Ev c C (.DictComp kx vx [⟨target,iter,kV,0⟩] scope pos) S K X:=by
 intro A F bs s hA z;exact rL (k:=.bB kx vx) (use:=Wm) fs hh pK fE hA (n4 _ _ B) z gQ K h (λF' aK v S' r s' st z' hv k=>⟨F',aK,v,S',st,z',hv,k⟩) hs
end
end Mine.Internal
namespace Mine.Internal
open PySem PyProof.Rows PySem.W
structure eK (c:aZ)(mg mb:eI)(K:DW):Prop extends Base c mg mb where
 wK:K.In c.h₀
 Ny:∀a o,K.lookup a=AN o->o.cls≠.none
theorem wL (v:Ws)(x:Str):v.isStr x=akH x v:=by cases v <;> rfl
section
variable {s s':Gb}{pos:Pos}{Cl:Wr}
theorem Wd.wK (B:eK c mg mb Kf)(w:Wd c F bs H s):Kf.In s.heap:=λa o e=>w.sub _ _ (w.base _ _ (B.wK a o e) (.inl (B.Ny a o e)))
theorem St.wK (B:eK c mg mb Kf)(z:St c C F bs S s):Kf.In s.heap:=z.wd.wK B
theorem rN (hk:Bo (sk c.prog c.w) es):es.toList.any (·.refKey)=Wp:=by refine bb ald ?_;intro e he;refine Va (hk e (by simpa using he)) λk h1 J=>Ml (akx h1) λt ht=>?_;simp [alw,ht]
theorem nz (hk:Bo (sk c.prog c.w) es)(hp:Pairs (sk c.prog c.w) es.toList rs)(x:Str):lookIn x (a9 es n)=AN (Ze rs x):=by
 delta lookIn a9;dsimp only;refine (hp.find x)▸(ar (show (λe:OJ=>(sk c.prog c.w).is x e.key)=λe=>e.key.isStr x from funext λe=>(wL e.key x).symm))▸?_;cases h:es.toList.find? (·.key.isStr x) with
 | some e=>rfl
 | none=>simp only [rN hk];rfl
theorem wM {name:Str}{Cl:Wr}{cd:ClassData}{es:Array OJ}{n:Nat}{rs:F5}{w:Ws}(xL:(Yp Kf (.ref Cl) name==AN Wm)=Wn)(DA:clsIn Kf Cl=AN cd)(Gz:cd.hasDict=Wn)(hk:Bo (sk c.prog c.w) es)(hp:Pairs (sk c.prog c.w) es.toList rs)(e2:Ze rs name=AN w):z5 Kf Cl (AN (a9 es n)) name=AN (.value w):=by delta z5;refine (ar DA)▸(ar (beq_iff_eq.mp xL))▸?_;have e3:W.ownOf cd (AN (a9 es n)) name=AN (AN w):=(if_pos Gz).trans ((nz hk hp name).trans (congrArg AN e2));dsimp only [anq];exact aa e3 Z
theorem aeQ (hD:lH (sk c.prog c.w) s.heap.get? a rs)(hQ:∀h',lH (sk c.prog c.w) h'.get? a (stored rs name v)->Nw a s.heap h'->Q () {s with heap:=h',toks:=s.toks+1}):Dk (model c.prog c.w) A (nsSet a name v) Q E s:=by
 obtain ⟨es,n,ho,hk,hp,hn,wG⟩:=hD;refine ag (ag (alv (aX (ag (ak6 (ag (aj6 ho ?_)))))));have s8:es.any (·.refKey)=Wp:=by refine Array.any_toList▸?_;exact rN hk
 have hf:akr name es=Wp:=by refine aa aju ?_;unfold ais;simp [s8]
 dsimp only [a9];refine rE hf (ajg ho ?_);obtain his:(λe:OJ=>e.key.isStr name)=λe=>(sk c.prog c.w).is name e.key:=funext λe=>wL e.key name;have DB:(es.findIdx? λe=>(sk c.prog c.w).is name e.key)=rs.findIdx? λkv=>decide (kv.1=name):=by simp only [<-hp.findIdx name];obtain ⟨l⟩:=es;simp
 generalize hh:(if name.cps.isEmpty=Wn then (0:Int) else Er ((model c.prog c.w).w.params.strHash name.cps))=hs;obtain hhs:hs=(sk c.prog c.w).hash name:=by simp only [<-hh];rfl
 cases hi:es.findIdx? λe=>(sk c.prog c.w).is name e.key with
 | some i=>
   have e:YX name hs (.str name s.toks) v (a9 es n)=a9 (es.modify i λe=>{e with val:=v}) n:=by refine aa xa ?_;simp only [Ox,a9,his,hi]
   have g:=lD (f:=YX name hs (.str name s.toks) v) ho (by refine rE e ?_;rfl);replace g:=e▸g;refine hQ _ ⟨_,n,g,hk.modify _ _,?_,?_,wG⟩ (AU ..)
   . rewrite [stored]
     refine aa (if_pos (aky (DB▸hi))) ?_;obtain hl:(es.toList.findIdx? λe=>(sk c.prog c.w).is name e.key)=AN i:=by simp only [<-hi];obtain ⟨l⟩:=es;simp
     obtain this:=hp.modify hn hl v;simpa using this
   . rewrite [stored]
     refine aa (if_pos (aky (DB▸hi))) ?_;rw [keys_map_store];exact hn
 | none=>
   have e:YX name hs (.str name s.toks) v (a9 es n)=a9 (es.push ⟨hs,.str name s.toks,v⟩) (n+1):=by refine aa xa ?_;simp only [Ox,a9,his,hi]
   have g:=lD (f:=YX name hs (.str name s.toks) v) ho (by refine aa e ?_;rfl);rw [e] at g;have GA:=not_mem_of_findIdx_none (DB▸hi);have s8:¬(rs.any λkv=>decide (kv.1=name))=Wn:=by
    refine bb X1 ?_
    (intro o1;refine Va o1 λkv B0 he=>?_)
    exact GA (fV (af kv B0 (of_decide_eq_true he)))
   refine hQ _ ⟨_,n+1,g,by refine aa hhs ?_;exact hk.push (Cw name _) v,?_,?_,wG⟩ (AU ..)
   . rewrite [stored]
     refine aa (if_neg s8) ?_;obtain this:=hp.append (Cw name s.toks) hs v;simpa using this
   . rewrite [stored]
     refine aa (if_neg s8) (aa C5 (bb M9 (aV hn (by simp) ?_)));intro a ha b hb;simp only [WW,am3,MX] at hb;cases hb;exact λe=>GA (e▸ha)
def gR (S:AS)(k d:Nat)(Cl:Wr)(kvs:gh):Prop:=S.heap[k]?=AN (.inst Cl d)/\S.heap[d]?=AN (.aN kvs)
inductive aeR (c:aZ)(F:G)(bs:aJ)(s:Gb)(Cl:Wr)(k d:Nat)(kvs:gh)(r:Ws):Prop
 | mk (x dx:Wr) (rs:F5) (es:Array OJ) (n:Nat) (h1:r=.ref x) (h2:bs[k]?=AN x) (h3:bs[d]?=AN dx) (h4:InstAt s.heap x {cls:=.ref Cl,dict:=AN dx,data:=.plain,slots:=#[]} Cl (AN (a9 es n))) (h5:s.heap.get? dx=AN (a9 es n)) (h6:Bo (sk c.prog c.w) es) (h7:Pairs (sk c.prog c.w) es.toList rs) (h8:c.SV F bs kvs rs) (h9:lH (sk c.prog c.w) s.heap.get? dx rs)
theorem St.inst (z:St c C F bs S s)(h:gR S k d Cl kvs)(hv:c.V F bs (.ref k) r): aeR c F bs s Cl k d kvs r:=by
 refine Cg (z.gq hv h.1) λx aeS hb Kp J=>?_;refine Va Kp λda h1 h2=>?_;refine rE aeS ?_;refine XZ (z.wd.obj d da _ h1 h.2) λGB J=>?_;refine Va GB λrs hD h4=>?_;obtain ⟨es,n,h5,h6,h7,_⟩:=id hD;exact ⟨x,da,rs,es,n,Z,hb,h1,⟨h2,Z,Z,h5⟩,h5,h6,h7,h4,hD⟩
noncomputable def ju (Kf:DW)(Cl:Wr):Bool:=
 Yp Kf (.ref Cl) "__getattribute__"==AN (AN (.builtin "object.__getattribute__"))&&Yp Kf (.ref Cl) "__getattr__"==AN Wm&&Yp Kf (.ref Cl) "__setattr__"==AN (AN (.builtin "object.__setattr__"))&&amW Kf Cl&&(clsIn Kf Cl).any (·.hasDict)
theorem rO (h:c.V F bs v r)(hr:∀u,v≠.raw u):handedIn r=Wn:=by
 cases h <;> first | rfl | exact absurd Z (hr _)
inductive aeT (Cl:Wr)(name:Str)(K:cu)(o:AV)(ai:AS):Prop
 | mk (k d:Nat) (kvs:gh) (v:AV) (h1:o=.ref k) (h2:gR ai k d Cl kvs) (h3:bC kvs name=AN v) (h4:∀u,v≠.raw u) (h5:K v ai)
theorem zz (B:eK c mg mb Kf){wp:Nn}{name:Str}(Cl:Wr)(fq:ju Kf Cl=Wn)(xL:(Yp Kf (.ref Cl) name==AN Wm)=Wn)
 (h:Ev c C wp S (aeT Cl name K) X)
 (gp:XR wp name C.env (eval wp C.env)=eval wp C.env:=by rfl):Ev c C (.Attribute wp name pos) S K X:=by
 intro A F bs s hA z;show WP c C A c.V (do
  let o <-XR wp name C.env (eval wp C.env)
  yH pos.atName
  let r <-holding [o] (Lg o name Wn)
  YG wp o r
  pure r) F bs s K X
 refine rE gp (WP.bind (h A F bs s hA z) λF₁ bs₁ ai ak o ro an aC ho Xx=>Xx.casesOn λk d kvs v e hi hg DC kk=>?_);subst e;obtain ⟨x,dx,rs,es,n,aeU,_,_,I,_,hk,hp,rp,_⟩:=aC.inst hi ho;refine rE aeU ?_;simp only [ju,fA,beq_iff_eq] at fq;refine XZ fq λVb c5=>?_;refine XZ Vb λVc c4=>?_;refine XZ Vc λGC c3=>?_;refine XZ GC λc1 c2=>?_;refine Va (Ez c5) λcd DA Gz=>?_
 (refine bz (bE.get name rp) (λXz=>?_) (λXA=>?_);refine dr Xz λv' w e1 e2 e3=>?_;rotate_left;refine XZ XA λe1 J=>?_;rotate_right)
 . obtain rfl:=bf (aM (ar hg) e1);obtain hf:=wM xL DA Gz hk hp e2;exact WP.standAt (ag (pa (get_value (aC.wK B) I c1 hf (rO e3 DC) (ag (A4 (aX ⟨F₁,bs₁,v,ai,.keep (.toks c F₁ bs₁ ak _),aC.keep (.toks ..),e3,kk⟩))))))
 . exact lj (aM (ar hg) e1)
noncomputable def storeOk (Kf:DW)(Cl:Wr)(name:Str):Bool:=ju Kf Cl&&takerIn Kf Cl name==AN Wm
theorem aeV (B:eK c mg mb Kf)(fq:storeOk Kf Cl name=Wn){K:dp}(z:St c C F bs S s)(hi:gR S k d Cl kvs)(ho:c.V F bs (.ref k) ro)(hv:c.V F bs v r)(hsz:kvs.length<=1000)(kk:K {S with heap:=S.heap.set d (.aN (ct kvs name v))}):WP c C A (λ_ _ (_:Unit) (_:Unit)=>True) (setAttr ro name r) F bs s (λJ=>K) X:=by
 obtain ⟨x,dx,rs,es,n,aeW,hbk,GD,I,hdx,hk,hp,rp,hD⟩:=z.inst hi ho;refine rE aeW ?_;simp only [storeOk,ju,fA,beq_iff_eq] at fq;refine XZ fq λXC aeX=>?_;refine XZ XC λVd c5=>?_;refine XZ Vd λVe c4=>?_;refine XZ Ve λKa c3=>?_;obtain ⟨c1,c2⟩:=Ka;refine Va (Ez c5) λcd DA Gz=>?_;have X:=z.wK B;refine set_plain X I c3 ?_;generalize Kq:s.toks=tk;generalize ch:({s with toks:=tk+1}:Gb)=ak;obtain m:a7 c F bs s ak:=by simp only [<-ch];exact .toks ..
 obtain NB:Kf.In ak.heap:=by refine ch▸?_;exact X
 obtain NC:InstAt ak.heap x {cls:=.ref Cl,dict:=AN dx,data:=.plain,slots:=#[]} Cl (AN (a9 es n)):=by refine ch▸?_;exact I
 obtain aeY:lH (sk c.prog c.w) ak.heap.get? dx rs:=by refine ch▸?_;exact hD
 obtain aC:=z.keep m;obtain an:Step C.own F bs s.heap F bs ak.heap:=.keep m;refine osa_open NB NC c4 aeX λb=>?_;dsimp only;refine ag (aX (ag (ag (aj6 NC.at_ (ag ((looks_clsIn NB DA).here (rE Gz (aX (ag (aX (ag (aeQ aeY λh' uY dz=>?_))))))))))));generalize bi:({ak with heap:=h',toks:=ak.toks+1}:Gb)=am;obtain T:fC dx ak am:=by simp only [<-bi];exact ⟨λb q o e=>(dz.2 b q).trans e,(let ⟨_,_,e,_⟩:=uY;(cj _ e)),Z,Z⟩
 obtain aI:=aC.upd (o':=.aN (ct kvs name v)) T GD hi.2 (by simp) (af _ (by refine az bi ?_;exact uY) (bE.put name rp hv));obtain av:=an.trans (.upd T (.inl (bO GD)));obtain ⟨CR,n',vT,_,zY,_⟩:=uY;have tp:CR.size<=1001:=by obtain e1:=zY.length;obtain e2:CR.toList.length=CR.size:=rfl;obtain e3:=stored_length_le rs name r;obtain e4:=congrArg XG (bE.keys rp);simp at e4;exact e2▸e1▸bJ e3 (e4▸YM hsz)
 obtain aeZ:am.heap.get? dx=AN (a9 CR n'):=by refine bi▸?_;exact vT
 refine ag (wpAny_lookBehind aeZ (pastItsLine_dict (by exact bJ tp (WO 1001 16776216))) ?_);exact aX ⟨F,bs,(),_,av,aI,trivial,kk⟩
noncomputable def gB (Kf:DW)(Cl:Wr)(name:Str)(f:Wr):Bool:=ju Kf Cl&&Yp Kf (.ref Cl) name==AN (AN (.ref f))&&Li Kf (.ref f)==AN (.type "function")&&fnIn Kf f
inductive ae0 (c:aZ)(C:Cx)(Cl f:Wr)(name:Str)(n:Nat)(pos:Pos)(args:cJ)(K:cu)(X:cR)(ov:AV)(ai:AS):Prop
 | mk (k d:Nat) (kvs:gh) (h1:ov=.ref k) (h2:gR ai k d Cl kvs) (h3:bC kvs name=Wm) (h4:pz c C pos args ai (wk ov (MN c n (.ref f) K)) X)
theorem dk (B:eK c mg mb Kf){o:Nn}{name:Str}{H6:Pos}{args:cJ}{n:Nat}(Cl f:Wr)(fq:gB Kf Cl name f=Wn)(hh:C.handled=Wm)(hn:n<=C.n)
 (h:Ev c C o S (ae0 c C Cl f name n pos args K X) X)
 (gp:XR o name C.env (eval o C.env)=eval o C.env:=by rfl)
 (ot:aj9 (args.length+([]:List YC).length) (W3 pos (M4 args C.env)) (DN pos (Xk [] C.env))=Wn:=by rfl)
 (hline:(H6.endLine==pos.line)=Wn:=by rfl)
 (hl:mU (W3 pos (M4 args C.env))=Wp:=by rfl):Ev c C (.Call (.Attribute o name H6) args [] pos) S K X:=by
 intro A F bs s hA z;simp only [gB,fA,beq_iff_eq] at fq;refine XZ fq λC1 c3=>?_;refine XZ C1 λGE c2=>?_;clear C1;refine XZ GE λc0 c1=>?_;clear GE;simp only [ju,fA,beq_iff_eq] at c0;refine XZ c0 λNE g5=>?_;refine XZ NE λGF g4=>?_;clear NE;refine XZ GF λAz g3=>?_;clear GF;refine XZ Az λg1 g2=>?_;clear Az;simp only [akI,gp];refine ag (aS (h A F bs s hA z) (λr ak pL=>pL.casesOn λF₁ bs₁ ov ai an aC lq oC=>?_) λJ J e=>e);obtain ⟨k,d,kvs,e,hi,xL,tj⟩:=oC;subst e;obtain ⟨x,dx,rs,es,m,rfl,_,_,I,_,hk,hp,rp,_⟩:=aC.inst hi lq;refine ag (yr ?_);obtain yx:K1 Wn o C.env H6 pos=pure pos:=by delta K1;simp [hline]
 delta aml;refine rE ot ?_;obtain hsh:shadowIn (AN (a9 es m)) name=AN Wp:=by
  show Option.map _ (lookIn name (a9 es m))=AN Wp;refine aa (nz hk hp _) ?_
  (refine bz (bE.get name rp) (λJT=>?_) (λJS=>?_);obtain ⟨v',w,e1,e2,e3⟩:=JT;rotate_left;obtain ⟨e1,e2⟩:=JS;rotate_right)
  . exact bM (aM (ar xL) e1)
  . refine rE e2 ?_;rfl
 refine ag (pa (method_fn (aC.wK B) I g1 g2 c1 c2 hsh (ag (NT yx ?_))));obtain NF:∃oc od fd sl,Kf.lookup f=AN ⟨oc,od,.func fd,sl⟩:=by
  delta fnIn at c3;cases e:Kf.lookup f with
  | none=>replace c3:=e▸c3;exact Cb c3
  | some o=>
    replace c3:=e▸c3;obtain ⟨oc,od,d,sl⟩:=o;cases d <;> first | exact ⟨_,_,_,_,Z⟩ | exact Cb c3
 obtain ⟨oc,od,fd,sl,NF⟩:=NF;refine ahm (o:=⟨oc,od,.func fd,sl⟩) (fd:=fd) (aS (gk hA aC tj hl) (λa am NG=>NG.casesOn λaP aB vs aF av aI Xx=>XZ Xx λoj bn S4=>?_) (λx am ae1=>ae1.casesOn λaP aB cls aF av aI hx S4=>⟨aP,aB,cls,aF,an.trans av,aI,hx.back an.mono,S4⟩));obtain ⟨ps,kw⟩:=a;have yy:kw=[]:=oj;clear oj NG;refine rE yy ?_;refine ⟨⟨aI.wK B f _ NF,Z⟩,?_⟩;obtain B1:=an.trans av;refine aS (JA (X:=X) (s:=am) (rs:=.ref x::ps) hA hh hn aI (.cons (av.V lq) bn) S4) (λv aO ae2=>ae2.casesOn λbv aT v' bd aL a8 iI bR=>⟨bv,aT,v',bd,B1.trans aL,a8,iI,bR⟩) λx aO ae3=>ae3.casesOn λbv aT v' bd aL a8 iI bR=>⟨bv,aT,v',bd,B1.trans aL,a8,iI.back B1.mono,bR⟩
theorem bQ.cls (B:eK c mg mb Kf){K:AV->aR->Prop}(hm:t0 Kf Cl=Wn)(hi:(Yp Kf (.ref Cl) "__init__"==AN (AN (.ref fI))&&Li Kf (.ref fI)==AN (.type "function"))=Wn)(h:bQ c n (.ref fI) (.ref (H.length+1)::args) (H++[.aN [],.inst Cl H.length]) (λv H'=>v=.none/\K (.ref (H.length+1)) H')):bQ c (n+1) (.ref Cl) args H K:=by
 intro A F bs s rs fr hh hd hu mT oi wd hv;simp only [fA,beq_iff_eq] at hi;have X:=wd.wK B;obtain ⟨hp,g,d,t,os⟩:=s;refine make_core (makes_of X hm) (looks_findIn X hi.1) (λself=>bind_fn X self hi.2) (.inl Z) ?_;generalize DE:(⟨hp,g,d,t,os⟩:Gb)=ge at wd;have ehp:hp=ge.heap:=az DE Z;generalize ch:({ge with heap:=ge.heap.push emptyDict}:Gb)=ak;have abq:a7 c F bs ge ak:=by refine az ch ?_;exact ⟨λb o e=>cC _ e,Z,Z⟩
 have Wb:ge.heap.get? ge.heap.objs.size=Wm:=St.gZ ge;have NH:ak.heap.get? ge.heap.objs.size=AN (a9 #[] 0):=by refine az ch ?_;exact dB _ Z
 have ae4:(ge.heap.objs.size==wW)=Wp:=by refine Ml B.JF λo e=>Ml (wd.old.there _ _ e) λo' e'=>?_;simpa using (λq=>by rw [q] at Wb;rw [e'] at Wb;cases Wb)
 have ae5:Wd c F (bs++[ge.heap.objs.size]) (H++[.aN []]) ak:=Wd.new (S:=⟨[],H⟩) (o:=.aN []) wd abq Wb NH (af [] ⟨#[],0,NH,λe he=>by simp at he,.nil,Nq,ae4⟩ (.nil));generalize bi:({ak with heap:=ak.heap.push (instObj Cl ge.heap.objs.size)}:Gb)=am;have Cr:a7 c F (bs++[ge.heap.objs.size]) ak am:=by refine az bi ?_;exact ⟨λb o e=>cC _ e,Z,Z⟩
 have Kr:ak.heap.get? ak.heap.objs.size=Wm:=St.gZ ak;have NI:am.heap.get? ak.heap.objs.size=AN (instObj Cl ge.heap.objs.size):=by refine az bi ?_;exact dB _ Z
 have tp:bs.length=H.length:=wd.len;have Ks:Wd c F ((bs++[ge.heap.objs.size])++[ak.heap.objs.size]) ((H++[.aN []])++[.inst Cl H.length]) am:=Wd.new (S:=⟨[],H++[.aN []]⟩) (o:=.inst Cl H.length) ae5 Cr Kr NI (af ge.heap.objs.size (by refine az tp ?_;simp) NI);have hsz:ak.heap.objs.size=ge.heap.objs.size+1:=by refine az ch ?_;exact jP ..
 have keep:∀b o,ge.heap.get? b=AN o->am.heap.get? b=AN o:=λb o e=>Cr.keep _ _ (abq.keep _ _ e);have stN:Step [] F bs ge.heap F ((bs++[ge.heap.objs.size])++[ak.heap.objs.size]) am.heap:=(Step.new abq Wb).trans (Step.new Cr Kr);have hvx:c.Vs F ((bs++[ge.heap.objs.size])++[ak.heap.objs.size]) (.ref (H.length+1)::args) (.ref ak.heap.objs.size::rs):=by
  refine .cons (.ref ?_) (stN.Vs hv)
  rewrite [MW]
  refine az tp (aa (ij Cm) ?_);simp
 have goal:=h (A.under (.builtin "type.__call__" ⟨.ref Cl::rs,[]⟩)) F _ am (.ref ak.heap.objs.size::rs) fr hh (by show A.depth+1+n < _;exact qO hd) (by show A.units+1+20*n < _;exact ab6 hu) mT (λe he=>?_) (by simpa using Ks) hvx
 . subst DE;have Ie:(⟨(hp.push emptyDict).push (instObj Cl hp.objs.size),g,d,t,os⟩:Gb)=am:=az bi (az ch Z);have ex:hp.objs.size+1=ak.heap.objs.size:=aa hsz Z;refine aa Ie (aa ex ?_);refine NL goal λr s' dL=>dL.casesOn λF' aK v H' rv own e ii st w' m0 eR=>?_;obtain ⟨ev,kk⟩:=eR;subst e ev;obtain ⟨_,rfl⟩:=m0.inv;have lv:∀b∈own,hp.get? b=Wm:=λb hb=>by
    cases q:hp.get? b with
    | none=>rfl
    | some o=>have:=keep b o q;exact bM (aM (ar (ii b hb)) this)
   refine ⟨Z,F',aK,.ref (H.length+1),H',.ref ak.heap.objs.size,own,Z,lv,(stN.widen (by simp)).trans st,w',?_,kk⟩;have:=st.Vs (c:=c) hvx;cases this with
   | cons q _=>exact q
 . refine XZ (oi e he) λf1 f2=>?_;rw [DE] at f1;refine ⟨f1.keep λb o e J=>(af o (keep _ _ e) (.refl o)),λL hL=>⟨(f2 L hL).1,λq=>?_⟩⟩;obtain ⟨_,L',o,q1,q2,_⟩:=f1;obtain rfl:=bf (aM (ar hL) q1)
   (refine bz (cH q) (λq=>?_) (λq=>?_))
   . (refine bz (cH q) (λq=>?_) (λq=>?_))
     . exact (f2 L hL).2 q
     . rw [bN q,Wb] at q2;cases q2
   . have:=abq.keep _ _ q2;rw [bN q,Kr] at this;cases this
theorem oH (B:eK c mg mb Kf){f:Nn}{args:cJ}{n:Nat}(fa:Wr)(hk:keepIn Kf (.ref fa)=Wn)(hh:C.handled=Wm)(hn:n<=C.n)
 (h:Ev c C f S (λfv ai=>fv=.raw (.ref fa)/\pz c C pos args ai (λvs aF=>bQ c n (.ref fa) vs aF.heap (λv H'=>K v {aF with heap:=H'})) X) X)
 (he:eval (.Call f args [] pos) C.env=(do YS pos (<-eval f C.env) [] (W3 pos (M4 args C.env)) (DN pos (Xk [] C.env))):=by rfl)
 (na:((W3 pos (M4 args C.env)).any (·.1)||([]:List (Option Str×Sem Ws)).any (·.1.isNone))=Wp:=by rfl)
 (hl:mU (W3 pos (M4 args C.env))=Wp:=by rfl):Ev c C (.Call f args [] pos) S K X:=by
 intro A F bs s hA z;refine (ar he)▸(WP.bind (h A F bs s hA z) λF₁ bs₁ ai ak fv r an aC Ih NJ=>XZ NJ λe tj=>?_)
 clear NJ;subst e;obtain ⟨_,rfl⟩:=Ih.inv;refine callWith_of na (keeps_K hk) (aS (gk hA aC tj hl) (λa am NK=>NK.casesOn λaP aB vs aF av aI ae6=>XZ ae6 λoj bn S4=>?_) (λJ J e=>e));obtain ⟨ps,kw⟩:=a;have yy:=oj;clear oj NK;refine yy▸?_;refine ⟨aI.wK B,?_⟩;refine aS (JA hA hh hn aI bn S4) (λv aO ae7=>ae7.casesOn λbv aT v' bd aL a8 iI bR=>⟨bv,aT,v',bd,av.trans aL,a8,iI,bR⟩) λx aO ae8=>ae8.casesOn λbv aT v' bd aL a8 iI bR=>⟨bv,aT,v',bd,av.trans aL,a8,iI.back av.mono,bR⟩
theorem rP {fl:Bool}(B:eK c mg mb Kf)(fq:ju Kf Cl=Wn)(xL:(Yp Kf (.ref Cl) name==AN Wm)=Wn)(z:St c C F bs S s)(hi:gR S k d Cl kvs)(ho:c.V F bs (.ref k) ro)(hg:bC kvs name=AN v)(DC:∀u,v≠.raw u)(kk:K v S): WP c C A c.V (Lg ro name fl) F bs s K X:=by
 obtain ⟨x,dx,rs,es,n,ae9,_,_,I,_,hk,hp,rp,_⟩:=z.inst hi ho;refine ae9▸?_;simp only [ju,fA,beq_iff_eq] at fq;refine XZ fq λNM c5=>?_;refine XZ NM λNN c4=>?_;clear NM;refine XZ NN λNP c3=>?_;clear NN;refine XZ NP λc1 c2=>?_;clear NP;refine Va (Ez c5) λcd DA Gz=>?_
 (refine bz (bE.get name rp) (λKu=>?_) (λKv=>?_);refine dr Ku λv' w e1 e2 e3=>?_;rotate_left;refine XZ Kv λe1 J=>?_;rotate_right)
 . obtain rfl:=bf (aM (ar hg) e1);obtain hf:=wM xL DA Gz hk hp e2;exact get_value (z.wK B) I c1 hf (rO e3 DC) ⟨F,bs,v,S,.keep (.toks c F bs s _),z.keep (.toks ..),e3,kk⟩
 . exact lj (aM (ar hg) e1)
end
noncomputable def zZ (h:Xi)(a:Wr):Xi:=h.update a λo=>{o with data:=.freed}
theorem afa (h:Xi)(a:Wr):(zZ h a).get? a=Wm:=by
 obtain ⟨objs,l⟩:=h;delta zZ Heap.update Heap.get?;dsimp only;refine aa Array.getElem?_modify (aa (if_pos Z) ?_);cases e:objs[a]? with
 | none=>rfl
 | some o=>rfl
theorem afb (h:Xi)(hb:b≠a):(zZ h a).get? b=h.get? b:=DV h b a _ hb
noncomputable def wO (h:Xi):aJ->Xi
 | []=>h
 | a::l=>zZ (wO h l) a
theorem wQ (h:Xi)(l:aJ)(b:Wr)(hb:b∈l):(wO h l).get? b=Wm:=by
 induction l with
 | nil=>exact nomatch hb
 | cons a l ih=>
   dsimp only [wO];by_cases e:b=a
   . exact rE e (afa ..)
   . exact aa (afb _ e) (ih ((eO hb).resolve_left e))
structure SameBut (wr:aJ)(s s':Gb):Prop where
 same:∀b,b∉wr->∀o,s.heap.get? b=AN o->∃o',s'.heap.get? b=AN o'/\jo o o'
 exact:∀b,b∉wr->∀o,s.heap.get? b=AN o->o.cls≠.type "frame"->s'.heap.get? b=AN o
 os:s'.os=s.os
 gens:s'.gens=s.gens
section
variable {s s':Gb}{wr fl:aJ}
theorem St.iK (z:St c C F bs S s)(f:cx c C F bs wr s.heap)(same:∀b,b∉wr->b∉fl->∀o,s.heap.get? b=AN o->s'.heap.get? b=AN o)(z0:∀b∈fl,F b=Wm/\b∉bs/\∃o o',s.heap.get? b=AN o/\o.cls=.type "frame"/\s'.heap.get? b=AN o'/\jo o o')(Kw:s'.os=s.os)(hg:s'.gens=s.gens):St c C F bs S s':=by
 obtain inW:∀b,b∈wr->b∉fl:=λb hb q=>by obtain ⟨_,_,o,_,e,hc,_⟩:=z0 b q;refine N1 (f.at_ b hb) λo2 e2 J h3=>?_;obtain rfl:=bf (aM (ar e) e2);exact h3 hc
 have V7:∀b,b∉wr->∀o,s.heap.get? b=AN o->∃o',s'.heap.get? b=AN o'/\jo o o':=λb hb o e=>by
  by_cases q:b∈fl
  . obtain ⟨_,_,o2,o',e1,_,e2,sm⟩:=z0 b q;exact rE (bf (aM (ar e) e1)) (af o' e2 sm)
  . exact (af o (same b hb q o e) (.refl o))
 obtain afc:∀b o,F b=AN o->s'.heap.get? b=AN o:=λb o e=>same b (λq=>by exact bM (aM (ar ((f.free b q).F)) e)) (λq=>by rw [(z0 b q).1] at e;cases e) o (z.wd.sub b o e);have Iv:∀b∈bs,∀o,s.heap.get? b=AN o->s'.heap.get? b=AN o:=λb hb o e=>same b (λq=>(f.free b q).bs hb) (λq=>(z0 b q).2.1 hb) o e;obtain iP:∀a∈wr++fl,c.h₀.get? a=Wm:=λa ha=>by
  (refine bz (cH ha) (λq=>?_) (λq=>?_))
  . exact N1 (f.at_ a q) λo h1 h2 J=>z.wd.iP (f.free a q).F (af o h1 h2)
  . obtain ⟨q1,_,o,_,e,hc,_⟩:=z0 a q;exact z.wd.iP q1 (af o e (by refine aa hc ?_;simp))
 obtain old:=iO.oo z.wd.old iP λb hb o e=>same b (λq=>hb (fz (.inl q))) (λq=>hb (fz (.inr q))) o e;obtain hL:C.env.locals∉wr:=λe=>(f.free _ e).own z.cU;refine Va z.locs λmm hN hl=>Va z.ir λoL eL nL=>Va (V7 _ hL oL eL) λFa CI sL=>?_;refine ⟨⟨afc,z.wd.base,old,z.wd.len,z.wd.nodup,λj b ao e1 e2=>⟨(z.wd.obj j b ao e1 e2).1.at λob e=>Iv b (bO e1) ob e,(z.wd.obj j b ao e1 e2).2⟩,λb m=>(Ml (z.wd.there b m) λo e=>(cj o (Iv b m o e))),Kw.trans z.wd.os,hg.trans z.wd.gens,z.wd.kept⟩,
  (af mm ?_ (λy v e=>(hl y v e).heap λx b o e1 e2=>?_)),(af Fa CI (by refine aa sL.cls ?_;exact nL)),z.cU,λb hb=>?_,λy b e=>?_,z.apart,λe he=>⟨?_,(z.frames e he).2⟩,z.glob,z.blt,z.kind,z.qg,z.iu⟩
 . refine FN hN λo es ep ho hd r=>?_;obtain rfl:=bf (aM (ar eL) ho);exact (fK Fa es ep CI (sL.data.trans hd) r)
 . exact Va (V7 b (λq=>(f.free b q).cells x e1) o e2) λo' e' sm=>(af o' e' sm.data)
 . obtain ⟨h1,h2,o,h3⟩:=z.own b hb;exact Va (V7 b (λq=>(f.free b q).own hb) o h3) λo' e' J=>(nY h1 h2 o' e')
 . obtain ⟨h1,h2,o,h3,h4,v,h5⟩:=z.cells y b e;exact Va (V7 b (λq=>(f.free b q).cells y e) o h3) λo' e' sm=>(aV h1 h2 ⟨o',e',sm.cls.trans h4,v,sm.data.trans h5⟩)
 . obtain ⟨hk,L,o,h1,h2,h3,h4⟩:=(z.frames e he).1;exact Va (V7 L (λq=>(f.free L q).frames e he h1) o h2) λo' e' sm=>⟨hk,L,o',h1,e',sm.cls.trans h3,λvs=>by refine aa sm.data ?_;exact h4 vs⟩
def gC (C:Cx):Prop:=∃fr,C.frames=C.env::fr
inductive afd (c:aZ)(C:Cx)(F:G)(bs:aJ)(h₀ h:Xi)(e:Wr)(cls:String)(iK:Bool):Prop
 | mk (ob:Obj) (vs:Array Ws) (h1:h.get? e=AN ob) (h2:ob.cls=.type (gj cls)) (h3:ob.data=.fields vs) (h4:vs.size=6/\n6 F cls vs) (h5:dI c C F bs e) (h6:iK=Wp->vs[1]?=AN .none) (h7:iK=Wn->MF c C F bs h₀ h e vs)
structure iM (c:aZ)(C:Cx)(F:G)(bs:aJ)(h₀ h:Xi)(e:Wr)(cls:String)(iK:Bool):Prop where
 new:h₀.get? e=Wm
 at_:afd c C F bs h₀ h e cls iK
theorem iM.exc (x:iM c C F bs h₀ h e cls iK)(hc:gj cls≠"frame"):Cf c C F bs h₀ h (.ref e) cls:=by
 obtain ⟨ob,vs,h1,h2,h3,h4,h5,h6,h7⟩:=x.at_;cases iK with
 | false=>exact ⟨⟨e,ob,vs,Z,x.new,h1,h2,h3,h4,h5,.inl (h6 Z)⟩,hc⟩
 | true=>exact ⟨⟨e,ob,vs,Z,x.new,h1,h2,h3,h4,h5,.inr (h7 Z)⟩,hc⟩
theorem Cf.split (z:Cf c C F bs h₀ h x cls):∃e iK,x=.ref e/\gj cls≠"frame"/\iM c C F bs h₀ h e cls iK:=by
 obtain ⟨e,ob,vs,afe,h0,h1,h2,h3,h4,h5,h6⟩:=z.at_;refine rE afe ?_;rcases h6 with q | q
 . exact (bW e Wp Z z.CL ⟨h0,ob,vs,h1,h2,h3,h4,h5,λJ=>q,λw=>by cases w⟩)
 . exact (bW e Wn Z z.CL ⟨h0,ob,vs,h1,h2,h3,h4,h5,(λw=>by cases w),λJ=>q⟩)
theorem aff:∀(l:List Env),(∀e∈l,ib h e/\∀L,e.frame=AN L->base.get? L=Wm)->h.FunFrames base l:=by
 intro l;induction l with
 | nil =>intro _;exact trivial
 | cons env r ih =>intro hl;refine XZ (hl env (.head _)) λo4 hb=>?_;obtain ⟨hk,L,o,h1,h2,h3,h4⟩:=o4;exact (aV hk (kA L o h1 (hb L h1) h2 h4) (ih λe he=>hl e (.tail _ he)))
theorem mH (hA:lp C A)(ht:gC C)(gP:Step C.own F₀ bs₀ h₀ F bs s.heap)(z:St c C F bs S s)(x:iM c C F bs h₀ s.heap e cls iK)(hcn:gj cls≠"frame")(h:∀s',Step C.own F₀ bs₀ h₀ F bs s'.heap->St c C F bs S s'->iM c C F bs h₀ s'.heap e cls Wn->Q () s'):Dk (model c.prog c.w) A (amV (.ref e) C.env) Q E s:=by
 refine Ml ht λfr mT=>?_;obtain ⟨_,L,oL,Iw,hL,hLc,hLd⟩:=(z.frames C.env (by refine aa mT ?_;exact .head _)).1;cases iK with
 | true =>obtain ⟨ob,vs,h1,h2,h3,h4,h5,h6,h7⟩:=id x.at_;obtain ⟨tb,mo,pc,L',k1,k2,k3,k4,k5,k6,k7,k8,k9,pp⟩:=h7 Z;obtain rfl:=bf (aM (ar Iw) k6);refine wpAny_noteFrame_againW (base:=wO s.heap [tb]) (cls:=.type (gj cls)) (a0:=vs[0]?.getD .none) Iw ⟨ob,vs,tb,mo,pc,h1,⟨h2,aa (Yc (show 0<vs.size by obtain this:=h4.1;exact ar this▸cD (WO (GH 0).succ 4))) ?_⟩,h3,k1,(wQ _ _ _ (.head _)),k8,k2,k4,k7⟩ (h s gP z x);rfl
 | false=>
   obtain ⟨ob,vs,h1,h2,h3,h4,h5,h6,_⟩:=id x.at_;obtain h6':=h6 Z;obtain hl:s.heap.FunFrames (wO s.heap (C.frames.filterMap (·.frame))) (C.env::fr):=by refine az mT (aff _ λe' zQ=>⟨(z.frames e' zQ).1,λL' FX=>wQ _ _ _ (akW.mpr (af e' zQ FX))⟩)
   obtain hAf:A.frames=AN (C.env::fr):=aa hA.frames (aa mT Z);unfold amV;simp only [Iw];refine ag (Nb h1 h3 h6' (ag (wpAny_frameOf_fun hAf hl Iw λh₁ ch=>ag (wpAny_entryPlaceOf λpl na=>ag (yq ?_ (na.sizeOk5 _ _ _ _ _))))));have z0:∀b∈(C.env::fr).filterMap (·.frame),F b=Wm/\b∉bs/\∃o,s.heap.get? b=AN o/\o.cls=.type "frame"/\∀vs,o.data≠.fields vs:=λb hb=>by rw [<-mT] at hb;refine Va (akW.mp hb) λe' zQ FX=>XZ (z.frames e' zQ) λo3 q5=>?_;obtain ⟨_,L',o,q1,q2,q3,q4⟩:=o3;have Kx:=FX;obtain rfl:=bf (aM (ar Kx) q1);exact (mA ((q5 b Kx).1) ((q5 b Kx).2) o q2 q3 q4)
   have NS:e∉(C.env::fr).filterMap (·.frame):=λhm=>by obtain ⟨_,_,o,q1,_,q2⟩:=z0 e hm;obtain rfl:=bf (aM (ar h1) q1);exact q2 vs h3
   have DG:=(ch.2.1 e NS).trans h1;generalize u6:h₁.objs.size=T;generalize XN:({cls:=.type "traceback",dict:=Wm,data:=.fields ([.none,.ref L,.none,A1 L,.none]++(if pl.isEmpty then td 6 J3 else pl)).toArray}:Obj)=oT;have XO:T≠e:=by refine az u6 ?_;exact dH (M7 DG)
   obtain hTn:=gf (by refine aa u6 ?_;exact bP _);have W2:s.heap.get? T=Wm:=by
    cases q:s.heap.get? T with
    | none=>rfl
    | some o=>refine Ml (ch.2.2 T o q) λsl w=>?_;exact bM (aM (ar hTn) w)
   obtain wP:=cC oT DG;refine ox wP h3 (by obtain this:=h4.1;exact abT this) ?_;obtain Ix:=AX h3 (·.setIfInBounds 1 (Wt T));obtain Iy:=lD (J1 (·.setIfInBounds 1 (Wt T))) wP (WR Ix);have Iz:((h₁.push oT).update e (J1 (·.setIfInBounds 1 (Wt T)))).get? T=AN oT:=by refine aa (ajG _ _ (Gy XO)) (az u6 ?_);exact dB h₁ (by refine az XN ?_;rfl)
   have keep:∀b o,b≠e->h₁.get? b=AN o->((h₁.push oT).update e (J1 (·.setIfInBounds 1 (Wt T)))).get? b=AN o:=λb o hbe hb=>by refine aa (ajG _ _ (Gy hbe)) ?_;exact cC _ hb
   generalize dz:({s with heap:=(h₁.push oT).update e (J1 (·.setIfInBounds 1 (Wt T)))}:Gb)=s';obtain zQ:s'.heap.get? e=AN (J1 (·.setIfInBounds 1 (Wt T)) ob):=by refine az dz ?_;exact Iy
   obtain Vf:s'.heap.get? T=AN oT:=by refine az dz ?_;exact Iz
   have same:∀b,b∉[e]->b∉(C.env::fr).filterMap (·.frame)->∀o,s.heap.get? b=AN o->s'.heap.get? b=AN o:=λb hb hbf o Vg=>by exact az dz (keep b o (by simpa using hb) ((ch.2.1 b hbf).trans Vg))
   have Ky:∀b∈(C.env::fr).filterMap (·.frame),F b=Wm/\b∉bs/\∃o o',s.heap.get? b=AN o/\o.cls=.type "frame"/\s'.heap.get? b=AN o'/\jo o o':=λb hb=>by
    obtain ⟨q1,q2,o,q3,q4,q5⟩:=z0 b hb;exact Ml (ch.2.2 b o q3) λsl w=>⟨q1,q2,o,({o with slots:=sl}),q3,q4,(az dz (keep b _ (λw=>by clear same zQ dz keep Iz Iy wP XO DG h5 h1 x h;subst w;exact NS hb) w)),(.inr (jr q4 Z Z Z))⟩
   obtain afg:h₀.get? T=Wm:=by
    cases q:h₀.get? T with
    | none=>rfl
    | some o=>refine Ml (gP.mono _ _ q) λo' w=>?_;exact bM (aM (ar W2) w)
   refine h s' (gP.Ii (wr:=[e]) (λa ha=>by refine aa (bN ha) ?_;exact x.new) ⟨λJ J q=>q,(af [] (by simp) (by simp)),λb o q=>?_,λb o q n1 n2 J=>?_,λb o q w=>by rw [q] at w;cases w⟩) (z.iK (s':=s') (fl:=(C.env::fr).filterMap (·.frame)) ⟨λa ha=>by refine aa (bN ha) ?_;exact h5,λa ha=>by refine aa (bN ha) ?_;exact (aU ob h1 (by refine aa h2 ?_;simp) (by refine aa h2 ?_;simpa using hcn))⟩ same Ky (az dz Z) (az dz Z)) ⟨x.new,_,_,zQ,(YD _ _).trans h2,Ix,⟨by simpa using h4.1,h4.2.VR⟩,h5,(λw=>by cases w),λJ=>⟨T,oT,_,L,by simp [h4.1],Vf,az XN Z,az XN Z,?_,Iw,?_,XO,afg,z.fg W2⟩⟩
   . by_cases w:b∈(C.env::fr).filterMap (·.frame)
     . obtain ⟨_,_,_,o',_,_,e2,_⟩:=Ky b w;exact (cj o' e2)
     . by_cases w2:b=e
       . exact rE w2 (cj _ zQ)
       . exact (cj o (same b (by simpa using w2) w o q))
   . by_cases w:b∈(C.env::fr).filterMap (·.frame)
     . obtain ⟨_,_,o1,o',e1,_,e2,sm⟩:=Ky b w;exact rE (bf (aM (ar q) e1)) (af o' e2 sm)
     . exact (af o (same b (λm=>n1 (fz (.inl m))) w o q) (.refl o))
   . simp only [Yd,Nc,Xf,ajO];exact cD (cA (GH 3).succ _)
   . first | (rfl;done) | (rcases na with rfl | ⟨_,_,_,_,_,_,_,rfl⟩ <;> simp)
theorem z6 (gP:Step C.own F₀ bs₀ h₀ F bs s.heap)(z:St c C F bs S s)(x:iM c C F bs h₀ s.heap e cls Wn)(h:∀s',Step C.own F₀ bs₀ h₀ F bs s'.heap->St c C F bs S s'->iM c C F bs h₀ s'.heap e cls Wn->E (.ref e) s'):cameBackBy (model c.prog c.w) A C.env E (.ref e) s:=by
 obtain ⟨ob,vs,h1,h2,h3,h4,h5,h6,h7⟩:=id x.at_;obtain ⟨tb,mo,pc,L,k1,k2,k3,k4,k5,k6,k7,k8,k9,pp⟩:=h7 Z;refine ag (Nb h1 h3 k1 (ag (Nb h1 h3 k1 (aa (if_pos (by simp)) (rE k6 (ox k2 k4 k5 ?_))))));generalize dz:({s with heap:=s.heap.update tb (J1 (·.setIfInBounds 3 ((AN L).elim J3 λf=>A1 f)))}:Gb)=s';obtain hs:Nw tb s.heap s'.heap:=by refine dz▸?_;exact AU ..
 obtain t:eF [tb] s s':=⟨λb hb o e=>(hs.2 b (by simpa using hb)).trans e,az dz Z,az dz Z⟩
 obtain hd:=AX k4 (·.setIfInBounds 3 ((AN L).elim J3 λf=>A1 f));obtain u6:s'.heap.get? tb=AN (J1 (·.setIfInBounds 3 ((AN L).elim J3 λf=>A1 f)) mo):=by refine dz▸?_;exact lD _ k2 (WR hd)
 obtain z':=z.frees t ⟨λa ha=>by simp only [bN ha];exact pp,λa ha=>by refine aa (bN ha) ?_;exact (aU _ k2 (by lia) (by lia))⟩;refine h s' (gP.others (λa ha=>by refine rE (bN ha) ?_;exact k9) t.same) z' ⟨x.new,ob,vs,t.same e (by simpa using Gy k8) _ h1,h2,h3,h4,h5,(λw=>by cases w),λJ=>⟨tb,_,_,L,k1,u6,(YD _ _).trans k3,hd,by simpa using k5,k6,by simp [k5],k8,k9,pp⟩⟩
end
section
variable {s s':Gb}{pos:Pos}
theorem St.raised (z:St c C F bs S s)(x:Zm s.heap h' e cls)(hu:gj cls=cls)(hc:cls≠"frame")(hs:s'.heap=h')(ho:s'.os=s.os)(hg:s'.gens=s.gens): Step C.own F bs s.heap F bs s'.heap/\St c C F bs S s'/\Cf c C F bs s.heap s'.heap (.ref e) cls:=by
 subst hs;have m:a7 c F bs s s':=⟨x.keeps,ho,hg⟩
 exact dr x.there λob t h1 h2 h3=>(aV (.keep m) (z.keep m) ⟨⟨e,ob,_,Z,x.new,h1,by refine aa hu ?_;exact h2,h3,⟨Z,n6.new hu Z⟩,z.fg x.new,.inl Z⟩,by refine aa hu ?_;exact hc⟩)
theorem iY (hA:lp C A)(ht:gC C)(st:Step C.own F₀ bs₀ h₀ F bs s.heap)(z:St c C F bs S s)(hx:Cf c C F bs h₀ s.heap x cls)(k:X cls S): Bk (model c.prog c.w) A C.env (cameBackBy (model c.prog c.w) A C.env (WX c C F₀ bs₀ h₀ X)) x s:=by
 refine dr hx.split λe iK o3 hc hi=>?_;refine rE o3 ?_;exact mH hA ht st z hi hc λs' qy z' nt=>z6 qy z' nt λsB yv C2 afh=>⟨F,bs,cls,S,yv,C2,afh.exc hc,k⟩
inductive tR (I:CV)(n:Nat)(S:AS):Prop
 | mk (m:Nat) (hm:m<n) (hI:I m S)
abbrev IA (I:CV)(n:Nat)(K:gX):gX:=λfl S=>match fl with
 | .next=>tR I n S
 | .cont=>tR I n S
 | .brk=>K .next S
 | .ret v=>K (.ret v) S
abbrev DH (c:aZ)(C:Cx)(body:fW)(I:CV)(n:Nat)(K:gX)(X:cR):Bool->dp:=λb S=>match b with
 | true=>Ex c C body S (IA I n K) X
 | false=>K .next S
abbrev afi (c:aZ)(C:Cx)(body FQ:fW)(I:CV)(n:Nat)(K:gX)(X:cR):Bool->dp:=λb S=>match b with
 | true=>Ex c C body S (IA I n K) X
 | false=>Ex c C FQ S K X
theorem iZ {K:gX}(ht:gC C)(I:CV)(n:Nat)(h0:I n S)(VG:∀n S',I n S'->FZ c C test S' (DH c C body I n K X) X):lB c C (.While test body [] pos) S K X:=by
 intro A F bs s hA z;refine WP.standAt (Bf (ale (λn s'=>∃F' aK S',Step C.own F bs s.heap F' aK s'.heap/\St c C F' aK S' s'/\I n S') ?_ n (fK F bs S (.refl ..) z h0)));intro n ak o1;refine FN o1 λF₁ bs₁ ai an aC hI=>aS (VG n ai hI A F₁ bs₁ ak hA aC) (λb am NU=>NU.casesOn λaP aB b' aF av aI hb S4=>?_) (λx am afj=>afj.casesOn λaP aB cls aF av aI hx S4=>iY hA ht (an.trans av) aI (hx.back an.mono) S4);clear NU;subst hb;have st:=an.trans av;cases b with
 | false =>exact Yw ⟨aP,aB,.next,aF,st,aI,Z,S4⟩
 | true=>
   refine aS (S4 A aP aB am hA aI) (λf aO Kz=>Kz.casesOn λbv aT fl bd aL a8 hf bR=>?_) (λx aO afk=>afk.casesOn λbv aT cls bd aL a8 hx bR=>iY hA ht (st.trans aL) a8 (hx.back st.mono) bR);cases fl with
   | next=>cases hf;obtain ⟨m,hm,k⟩:=bR;exact (mB m hm bv aT bd (st.trans aL) a8 k)
   | cont=>cases hf;obtain ⟨m,hm,k⟩:=bR;exact (mB m hm bv aT bd (st.trans aL) a8 k)
   | brk=>clear Kz;subst hf;exact ⟨bv,aT,.next,bd,st.trans aL,a8,Z,bR⟩
   | ret v=>clear Kz;refine Va hf λr o2 hr=>?_;clear hf;obtain rfl:=o2;exact ⟨bv,aT,.ret v,bd,st.trans aL,a8,(af r Z hr),bR⟩
noncomputable abbrev Cx.b8 (C:Cx)(x:rn):Cx:={C with handled:=x}
theorem St.b8 (z:St c C F bs S s)(x:rn):St c (C.b8 x) F bs S s:=⟨z.wd,z.locs,z.ir,z.cU,z.own,z.cells,z.apart,z.frames,z.glob,z.blt,z.kind,z.qg,z.iu⟩
theorem St.dT (z:St c (C.b8 x) F bs S s):St c C F bs S s:=⟨z.wd,z.locs,z.ir,z.cU,z.own,z.cells,z.apart,z.frames,z.glob,z.blt,z.kind,z.qg,z.iu⟩
theorem lp.b8 (hA:lp C A):lp (C.b8 (AN x)) (A.mark (AN x)):=⟨Z,hA.depth,hA.units,hA.frames⟩
inductive afl (c:aZ)(C:Cx)(F:G)(bs:aJ)(h₀ h:Xi)(e:Wr)(cls:String):Prop
 | mk (ob:Obj) (vs:Array Ws) (tb:Wr) (mo:Obj) (pc:Array Ws) (h1:h.get? e=AN ob) (h2:ob.cls=.type (gj cls)) (h3:ob.data=.fields vs) (h4:vs.size=6/\n6 F cls vs) (h5:dI c C F bs e) (k1:vs[1]?=AN (.ref tb)) (k2:h.get? tb=AN mo) (k3:mo.cls=.type "traceback") (k4:mo.data=.fields pc) (k5:3<pc.size) (k8:tb≠e) (k9:h₀.get? tb=Wm) (pp:dI c C F bs tb)
structure jv (c:aZ)(C:Cx)(F:G)(bs:aJ)(h₀ h:Xi)(e:Wr)(cls:String):Prop where
 new:h₀.get? e=Wm
 at_:afl c C F bs h₀ h e cls
theorem iM.held (x:iM c C F bs h₀ h e cls Wn):jv c C F bs h₀ h e cls:=by obtain ⟨ob,vs,h1,h2,h3,h4,h5,h6,h7⟩:=x.at_;obtain ⟨tb,mo,pc,L,k1,k2,k3,k4,k5,k6,k7,k8,k9,pp⟩:=h7 Z;exact ⟨x.new,ob,vs,tb,mo,pc,h1,h2,h3,h4,h5,k1,k2,k3,k4,k5,k8,k9,pp⟩
theorem jv.step (x:jv c C F bs h₀ s.heap e cls)(hc:gj cls≠"frame")(st:Step C.own F bs s.heap F' aK s'.heap):jv c C F' aK h₀ s'.heap e cls:=by obtain ⟨ob,vs,tb,mo,pc,h1,h2,h3,h4,h5,k1,k2,k3,k4,k5,k8,k9,pp⟩:=x.at_;refine Va (st.eP e ob h1 h5.own h5.bs (by refine aa h2 ?_;simp)) λo1 e1 s1=>?_;rw [s1.rh (by refine aa h2 ?_;simpa using hc)] at e1;refine Va (st.eP tb mo k2 pp.own pp.bs (by refine aa k3 ?_;simp)) λo2 e2 s2=>?_;rw [s2.rh (by lia)] at e2;exact ⟨x.new,ob,vs,tb,mo,pc,e1,h2,h3,⟨h4.1,h4.2.mono st.sub⟩,h5.step st h1,k1,e2,k3,k4,k5,k8,k9,pp.step st k2⟩
theorem oI (gP:Step C.own F₀ bs₀ h₀ F bs s.heap)(z:St c C F bs S s)(x:jv c C F bs h₀ s.heap e cls)(h:∀s',Step C.own F₀ bs₀ h₀ F bs s'.heap->St c C F bs S s'->jv c C F bs h₀ s'.heap e cls->Q () s'):Dk (model c.prog c.w) A' (setFlight (.ref e) Wm) Q E s:=by
 obtain ⟨ob,vs,tb,mo,pc,h1,h2,h3,h4,h5,k1,k2,k3,k4,k5,k8,k9,pp⟩:=x.at_;refine wpAny_setFlight_none h1 h3 k1 k2 k4 k5 ?_;generalize dz:({s with heap:=s.heap.update tb (J1 (·.setIfInBounds 3 .none))}:Gb)=s';obtain hs:Nw tb s.heap s'.heap:=by refine dz▸?_;exact AU ..
 obtain t:eF [tb] s s':=⟨λb hb o e=>(hs.2 b (by simpa using hb)).trans e,az dz Z,az dz Z⟩
 obtain hd:=AX k4 (·.setIfInBounds 3 J3);obtain u6:s'.heap.get? tb=AN (J1 (·.setIfInBounds 3 J3) mo):=by refine dz▸?_;exact lD _ k2 (WR hd)
 obtain z':=z.frees t ⟨λa ha=>by simp only [bN ha];exact pp,λa ha=>by refine aa (bN ha) ?_;exact (aU _ k2 (by lia) (by lia))⟩;exact h s' (gP.others (λa ha=>by refine aa (bN ha) ?_;exact k9) t.same) z' ⟨x.new,ob,vs,tb,_,_,t.same e (by simpa using Gy k8) _ h1,h2,h3,h4,h5,k1,u6,(YD _ _).trans k3,hd,by simpa using k5,k8,k9,pp⟩
theorem afm {K:gX}(ht:gC C)(T:String)(KA:YY (.type T) (.type "BaseException")=pure Wn)(XU:YY (.type ((amm T).elim "type" λx=>x.metatype)) (.type "tuple")=pure Wp)(kL:YY (.type T) (.type T)=pure Wn)(h:Ex c C body S K (λcls ai=>gj cls=T/\∀e,Ev c (C.b8 (AN (.ref e))) t ai (λv aF=>v=.raw (.type T)/\Ex c (C.b8 (AN (.ref e))) (KB::DI) aF K fy) fy)): lB c C (.Try body [.ExceptHandler (AN t) Wm (KB::DI) yx] [] [] pos) S K X:=by
 intro A F bs s hA z;refine alB (aS (h A F bs s hA z) (λf ak KC=>KC.el λF₁ bs₁ fl ai an aC hf tj=>?_) (λx ak ⟨F₁,bs₁,cls,ai,an,aC,hx,KD,tj⟩=>?_))
 . cases fl with
   | next=>refine rE hf ?_;exact Yw ⟨F₁,bs₁,.next,ai,an,aC,Z,tj⟩
   | brk=>subst hf;exact ⟨F₁,bs₁,.brk,ai,an,aC,Z,tj⟩
   | cont=>subst hf;exact ⟨F₁,bs₁,.cont,ai,an,aC,Z,tj⟩
   | ret v=>refine Va hf λr o4 hr=>?_;refine rE o4 ?_;exact ⟨F₁,bs₁,.ret v,ai,an,aC,(af r Z hr),tj⟩
 . refine dr hx.split λe iK o3 hc hi=>?_;refine rE o3 ?_;refine mH hA ht an aC hi hc λam av aI wR=>oI av aI wR.held λaO aL a8 DJ=>ajH KA XU kL (aS (tj e (A.mark (AN (.ref e))) F₁ bs₁ aO hA.b8 (a8.b8 _)) (λv cK DK=>DK.casesOn λek ca u dd ce de hu KG=>?_) λJ J KH=>KH.casesOn λJ J J J J J J q=>q.elim);obtain ⟨eu,iF⟩:=KG;subst eu;obtain ⟨_,rfl⟩:=hu.inv;have oJ:=DJ.step hc ce;refine (aV Z ?_ ?_)
   . obtain ⟨ob,_,_,_,_,q1,q2,_⟩:=oJ.at_;exact (af ob q1 (aa q2 (aa KD Z)))
   refine oI (aL.trans ce) de.dT oJ λfe dW eT J=>aS (iF (A.mark (AN (.ref e))) ek ca fe hA.b8 (eT.b8 _)) (λf th KI=>KI.casesOn λKJ DL fl KK wS wJ hf DM=>⟨KJ,DL,fl,KK,dW.trans wS,wJ.dT,hf,DM⟩) λJ J KL=>KL.casesOn λJ J J J J J J q=>q.elim
theorem afn {K:gX}(ht:gC C)(T:String)(KA:YY (.type T) (.type "BaseException")=pure Wn)(XU:YY (.type ((amm T).elim "type" λx=>x.metatype)) (.type "tuple")=pure Wp)(kL:YY (.type T) (.type T)=pure Wn)(h:Ex c C body S K (λcls ai=>gj cls=T/\∀e,Ev c (C.b8 (AN (.ref e))) t ai (λv aF=>v=.raw (.type T)/\∀ob,Ex c (C.b8 (AN (.ref e))) (KB::DI) {aF with heap:=aF.heap++[.exc e ob]} K fy) fy)): lB c C (.Try body [.ExceptHandler (AN t) Wm (KB::DI) yx] [] [] pos) S K X:=by
 intro A F bs s hA z;refine alB (aS (h A F bs s hA z) (λf ak KC=>KC.el λF₁ bs₁ fl ai an aC hf tj=>?_) (λx ak ⟨F₁,bs₁,cls,ai,an,aC,hx,KD,tj⟩=>?_))
 . cases fl with
   | next=>refine rE hf ?_;exact Yw ⟨F₁,bs₁,.next,ai,an,aC,Z,tj⟩
   | brk=>subst hf;exact ⟨F₁,bs₁,.brk,ai,an,aC,Z,tj⟩
   | cont=>subst hf;exact ⟨F₁,bs₁,.cont,ai,an,aC,Z,tj⟩
   | ret v=>refine Va hf λr o4 hr=>?_;refine rE o4 ?_;exact ⟨F₁,bs₁,.ret v,ai,an,aC,(af r Z hr),tj⟩
 . refine dr hx.split λe iK o3 hc hi=>?_;refine rE o3 ?_;refine mH hA ht an aC hi hc λam av aI wR=>oI av aI wR.held λaO aL a8 DJ=>ajH KA XU kL (aS (tj e (A.mark (AN (.ref e))) F₁ bs₁ aO hA.b8 (a8.b8 _)) (λv cK dL=>dL.casesOn λek ca u dd ce de hu eR=>?_) λJ J KH=>KH.casesOn λJ J J J J J J q=>q.elim);obtain ⟨eu,iF⟩:=eR;subst eu;obtain ⟨_,rfl⟩:=hu.inv;have oJ:=DJ.step hc ce;refine (aV Z ?_ ?_)
   . obtain ⟨ob,_,_,_,_,q1,q2,_⟩:=oJ.at_;exact (af ob q1 (aa q2 (aa KD Z)))
   refine oI (aL.trans ce) de.dT oJ λfe dW eT IB=>?_;obtain ⟨ob,vs,tb,mo,pc,h1,h2,h3,h4,h5,j1,j2,j3,j4,j5,j8,j9,IC⟩:=id IB.at_;obtain zA:=eT.adopt h5 h1 (o:=.exc e ob) ⟨Z,vs,h1,(by refine aa h2 ?_;simp),(by refine aa h2 ?_;simpa using hc),h3,h4.2.o⟩;refine aS (iF ob (A.mark (AN (.ref e))) ek (ca++[e]) fe hA.b8 (zA.b8 _)) (λf th KI=>KI.casesOn λKJ DL fl KK wS wJ hf DM=>⟨KJ,DL,fl,KK,(Step.adopt dW IB.new).trans wS,wJ.dT,hf,DM⟩) λJ J KL=>KL.casesOn λJ J J J J J J q=>q.elim
end
structure rQ (g:Wr)(h h':Xi)(e:Wr)(cls:String):Prop where
 keeps:∀b o,h.get? b=AN o->h'.get? b=AN o
 new:h.get? e=Wm
 there:∃ob t,h'.get? e=AN ob/\ob.cls=.type cls/\ob.data=.fields #[t,.none,.ref g,.none,.bool Wp,.none]
theorem jC:Hf table "proto.unchain"=AN Ye.«proto.unchain»:=entryFor_of_fast (by kernel_rfl)
section
variable {prog:AZ}{w:X3}{E:pF}{s:Gb}{α:Type}
theorem lU (hh:A.handled=AN (.ref g))(eQ:g≠e)(hg:s.heap.get? g=AN og)(A3:og.data=.fields vg)(z7:vg[2]?=AN .none)(he:s.heap.get? e=AN oe)(Vh:oe.data=.fields ve)(Vi:2<ve.size)(h:E (.ref e) {s with heap:=s.heap.update e (J1 (·.setIfInBounds 2 (.ref g)))}):Dk (model prog w) A (raiseNew (.ref e):Sem α) Q E s:=by
 refine ag (Zh ?_);refine rE hh ?_;have hb:(Wt g != Wt e)=Wn:=by simpa using eQ
 simp only [hb,if_true];refine ag (pa (akc (Yx jC ?_)));refine ag (Nb hg A3 z7 ?_);refine ag (aX ?_);refine aX ?_;refine ag (ag (OR he ?_));refine rE Vh ?_;simp only [Vi,if_true];exact ak7 he (tv h)
theorem afo (hp:PlainExc cls)(hh:A.handled=AN (.ref g))(hg:s.heap.get? g=AN og)(A3:og.data=.fields vg)(z7:vg[2]?=AN .none)(h:∀h' e,rQ g s.heap h' e cls->E (.ref e) {s with heap:=h'}):Dk (model prog w) A (newExc (.type cls) [arg] >>= λx=>(raiseNew x:Sem α)) Q E s:=by
 refine ag (ag (yq (ag (m:=ti _ _) (NT (a:=J3) (by simp only [ti,hp.first];rfl) ?_))));refine aa (hp.own _) (yq ?_);obtain hl:g<s.heap.objs.size:=M7 hg;refine lU hh ?_ (cC _ (cC _ hg)) A3 z7 (dB _ Z) Z (by simp) ?_
 . refine cI ?_;simp only [jP];exact Ni hl
 . refine h _ _ ⟨λb o hb=>?_,gf (by simp),?_⟩
   . rw [DV]
     . exact cC _ (cC _ hb)
     . refine cI ?_;simp only [jP];exact Ni (M7 hb)
   . refine (bW _ (.ref s.heap.objs.size) (lD _ (dB _ Z) (WR (AX Z _))) Z ?_);rfl
theorem fi (hp:PlainExc cls)(hh:A.handled=AN (.ref g))(hg:s.heap.get? g=AN og)(A3:og.data=.fields vg)(z7:vg[2]?=AN .none)(h:∀h' tk e,rQ g s.heap h' e cls->E (.ref e) {s with heap:=h',toks:=tk}):Dk (model prog w) A (raiseErrorWords cls msg:Sem α) Q E s:=by
 exact ag (ak6 (afo (s:={s with toks:=_}) hp hh hg A3 z7 λh' e x=>h h' _ e x))
end
section
variable {s s':Gb}{pos:Pos}
theorem dI.dT (f:dI c (C.b8 y) F bs a):dI c C F bs a:=⟨f.F,f.bs,f.own,f.cells,f.frames⟩
theorem dI.b8 (f:dI c C F bs a):dI c (C.b8 y) F bs a:=⟨f.F,f.bs,f.own,f.cells,f.frames⟩
theorem Cf.dT (z:Cf c (C.b8 y) F bs h₀ h x cls):Cf c C F bs h₀ h x cls:=by obtain ⟨a,ob,vs,h1,h0,h2,h3,h4,h5,h6,h7⟩:=z.at_;refine ⟨⟨a,ob,vs,h1,h0,h2,h3,h4,h5,h6.dT,h7.imp id ?_⟩,z.CL⟩;intro o1;obtain ⟨tb,mo,pc,L,k1,k2,k3,k4,k5,k6,k7,k8,k9,pp⟩:=o1;exact ⟨tb,mo,pc,L,k1,k2,k3,k4,k5,k6,k7,k8,k9,pp.dT⟩
theorem iM.dT (z:iM c (C.b8 y) F bs h₀ h e cls n):iM c C F bs h₀ h e cls n:=by obtain ⟨ob,vs,h1,h2,h3,h4,h5,h6,h7⟩:=z.at_;refine ⟨z.new,ob,vs,h1,h2,h3,h4,h5.dT,h6,λq=>?_⟩;obtain ⟨tb,mo,pc,L,k1,k2,k3,k4,k5,k6,k7,k8,k9,pp⟩:=h7 q;exact ⟨tb,mo,pc,L,k1,k2,k3,k4,k5,k6,k7,k8,k9,pp.dT⟩
theorem iM.b8 (z:iM c C F bs h₀ h e cls n):iM c (C.b8 y) F bs h₀ h e cls n:=by obtain ⟨ob,vs,h1,h2,h3,h4,h5,h6,h7⟩:=z.at_;refine ⟨z.new,ob,vs,h1,h2,h3,h4,h5.b8,h6,λq=>?_⟩;obtain ⟨tb,mo,pc,L,k1,k2,k3,k4,k5,k6,k7,k8,k9,pp⟩:=h7 q;exact ⟨tb,mo,pc,L,k1,k2,k3,k4,k5,k6,k7,k8,k9,pp.b8⟩
theorem St.GJ (z:St c C F bs S s){k:Nat}(hk:S.heap[k]?=AN (.exc g ob))(ME:ob.cls≠.type "cell"):∃vs,s.heap.get? g=AN ob/\ob.data=.fields vs/\AJ F vs/\Step C.own F bs s.heap (plus F g ob) bs s.heap/\St c C (plus F g ob) bs {S with heap:=S.heap.set k .gone} s:=by
 obtain dc:k<bs.length:=by simp only [z.wd.len];exact (bA hk).1
 obtain ⟨ga,NV⟩:∃a,bs[k]?=AN a:=(cj _ (cm dc))
 refine XZ (z.wd.obj k ga _ NV hk) λtH hF=>?_;obtain ⟨e1,vg,e2,e5,_,e3,e4⟩:=tH;subst e1;exact ⟨vg,e2,e3,e4,Step.freeze (bO NV) (hF (by simp)),z.freeze NV hk (by simp) e2 ME⟩
theorem afp (ht:gC C)(gP:Step C.own F₀ bs₀ h₀ F bs s.heap)(z:St c C F bs S s)(x:jv c C F bs h₀ s.heap e cls)(h:∀s',Step C.own F₀ bs₀ h₀ F bs s'.heap->St c C F bs S s'->iM c C F bs h₀ s'.heap e cls Wn->E (.ref e) s'):Dk (model c.prog c.w) A (PySem.passOn aa9 (.ref e) C.env:Sem α) Q E s:=by
 refine Ml ht λfr mT=>?_;obtain ⟨_,L,oL,Iw,hL,hLc,hLd⟩:=(z.frames C.env (by refine rE mT ?_;exact .head _)).1;obtain ⟨ob,vs,tb,mo,pc,h1,h2,h3,h4,h5,k1,k2,k3,k4,k5,k8,k9,pp⟩:=id x.at_;refine ag (Nb h1 h3 k1 (ag (ag (Nb h1 h3 k1 (aa (if_pos (by simp)) (rE Iw (ox k2 k4 k5 (tv ?_))))))));generalize dz:({s with heap:=s.heap.update tb (J1 (·.setIfInBounds 3 ((AN L).elim J3 λf=>A1 f)))}:Gb)=s';obtain hs:Nw tb s.heap s'.heap:=by refine dz▸?_;exact AU ..
 obtain t:eF [tb] s s':=⟨λb hb o e=>(hs.2 b (by simpa using hb)).trans e,az dz Z,az dz Z⟩
 obtain hd:=AX k4 (·.setIfInBounds 3 ((AN L).elim J3 λf=>A1 f));obtain u6:s'.heap.get? tb=AN (J1 (·.setIfInBounds 3 ((AN L).elim J3 λf=>A1 f)) mo):=by refine dz▸?_;exact lD _ k2 (WR hd)
 obtain z':=z.frees t ⟨λa ha=>by simp only [bN ha];exact pp,λa ha=>by refine aa (bN ha) ?_;exact (aU _ k2 (by lia) (by lia))⟩;refine h s' (gP.others (λa ha=>by refine rE (bN ha) ?_;exact k9) t.same) z' ⟨x.new,ob,vs,t.same e (by simpa using Gy k8) _ h1,h2,h3,h4,h5,(λw=>by cases w),λJ=>⟨tb,_,_,L,k1,u6,(YD _ _).trans k3,hd,by simpa using k5,Iw,by simp [k5],k8,k9,pp⟩⟩
theorem Step.ID (x:Step own F bs h F' (b1++nb) h')(e:∃n0,b1=bs++n0):Step own F bs h F' b1 h':=by refine Ml e λn0 o7=>?_;clear e;obtain rfl:=o7;refine Va x.ext λvR e' hn=>?_;rw [MW,List.append_cancel_left_eq] at e';exact ⟨x.sub,(af n0 Z (λa ha=>hn a (by refine az e' ?_;exact fz (.inl ha)))),x.mono,x.eP,x.jS⟩
def Cut (n:Nat)(S:AS)(I:dp):Prop:=∃L,De n S L/\AO.bX n (S.heap.take n)=Wn/\I ⟨L,S.heap.take n⟩
theorem afq {K:gX}(ht:gC C)
 (h:Ex c C body S (λfl ai=>match fl with | .next=>Ex c C (NW::fs) ai (λg aF=>match g with | .next=>K .next aF | _=>False) X | _=>False)
  (λcls ai=>(gj cls=cls/\cls≠"cell")/\∀e ob,((∀vs,ob.data=.fields vs->vs[2]?=AN .none)/\ob.cls≠.type "cell")->Ex c (C.b8 (AN (.ref e))) (NW::fs) {ai with heap:=ai.heap++[.exc e ob]}
   (λg aF=>match g with | .next=>aF.heap[ai.heap.length]?=AN (.exc e ob)/\Cut ai.heap.length aF (X cls) | _=>False)
   (λKM aF=>Cut ai.heap.length aF (X KM)))) :
 lB c C (.Try body [] [] (NW::fs) pos) S K X:=by
 intro A F bs s hA z;refine wpAny_Try_finally (aS (h A F bs s hA z) (λf ak NX=>NX.casesOn λF₁ bs₁ fl ai an aC hf tj=>?_) (λx ak NY=>NY.casesOn λF₁ bs₁ cls ai an aC hx tj=>?_))
 . cases fl with
   | next=>
     clear NX;subst hf;refine Yw (aS (tj A F₁ bs₁ ak hA aC) (λf am NZ=>NZ.casesOn λaP aB fl aF av aI hf S4=>?_) (λx am afr=>afr.casesOn λaP aB cls aF av aI hx S4=>iY hA ht (an.trans av) aI (hx.back an.mono) S4));cases fl with
     | next=>clear NZ;subst hf;exact ⟨aP,aB,.next,aF,an.trans av,aI,Z,S4⟩
     | brk=>exact S4.elim
     | cont=>exact S4.elim
     | ret v=>exact S4.elim
   | brk=>exact tj.elim
   | cont=>exact tj.elim
   | ret v=>exact tj.elim
 . clear NY;refine dr hx.split λe iK o6 hc hi=>?_;refine rE o6 ?_;refine mH hA ht an aC hi hc λam av aI wR=>⟨by simp [byPass],mH hA ht av aI wR hc λaO aL a8 afs=>oI aL a8 afs.held λcK ce de oJ=>?_⟩
   obtain ⟨ob,vs,tb,mo,pc,h1,h2,h3,h4,h5,j1,j2,j3,j4,j5,j8,j9,IC⟩:=id oJ.at_;obtain hu:=tj.1.1;obtain zA:=de.adopt h5 h1 (o:=.exc e ob) ⟨Z,vs,h1,(by refine aa h2 ?_;simp),(by refine aa h2 ?_;simpa using hc),h3,h4.2.o⟩;obtain tp:=de.wd.len.symm;obtain DO:=ce.fresh;obtain XW:=Step.adopt ce oJ.new;refine aS (tj.2 e ob ⟨λvs' q=>by rw [h3] at q;cases q;exact h4.2.no hu,by refine aa h2 (aa hu ?_);simpa using tj.1.2⟩ (A.mark (AN (.ref e))) F₁ (bs₁++[e]) cK hA.b8 (zA.b8 _)) (λg fe N3=>N3.casesOn λfc dq fl dJ dW eT hf lr=>?_) (λx fe GL=>GL.casesOn λfc dq KM dJ dW eT hx lr=>?_)
   . cases fl with
     | next=>
       clear N3;subst hf;obtain ⟨he5,L,u1,u2,kx⟩:=lr;rw [tp] at he5 u1 u2 kx;refine Ml dW.fresh λnb o5=>?_;obtain rfl:=o5;obtain tS:=eT.dT;obtain oK:=XW.trans dW;rw [MW] at oK tS;obtain GM:(bs₁++([e]++nb))[bs₁.length]?=AN e:=by simp
       refine XZ (tS.wd.obj _ _ _ GM he5) λqR g2=>?_;obtain ⟨_,vs',g1,_⟩:=qR;obtain Vj:=g2 (by simp);obtain N4:tb∉bs₁++[e]:=λm=>by
        (refine bz (cH m) (λm=>?_) (λm=>?_))
        . exact IC.bs m
        . exact j8 (bN m)
       refine Va (dW.eP tb mo j2 IC.own N4 (by refine aa j3 ?_;simp)) λo2 e2 sm=>?_;rw [sm.rh (by refine aa j3 ?_;simp)] at e2;obtain tbF:fc tb=Wm:=by
        cases q:fc tb with
        | none=>rfl
        | some o'=>(refine bz (dW.jS tb o' q IC.F) (λy=>?_) (λy=>?_))
                   . exact bM (aM (ar y) j2)
                   . exact absurd y N4
       obtain aft:jv c C fc bs₁ s.heap fe.heap e cls:=⟨oJ.new,ob,vs,tb,mo,pc,g1,h2,h3,⟨h4.1,h4.2.mono dW.sub⟩,⟨Vj,h5.bs,h5.own,h5.cells,h5.frames⟩,j1,e2,j3,j4,j5,j8,j9,⟨tbF,IC.bs,IC.own,IC.cells,IC.frames⟩⟩
       obtain zT:=tS.trim ⟨u1.at,AO.rF u2⟩;exact afp ht (oK.ID DO) zT aft λs' qy z' nt=>⟨fc,bs₁,cls,_,qy,z',nt.exc hc,kx⟩
     | brk=>exact lr.elim
     | cont=>exact lr.elim
     | ret v=>exact lr.elim
   . refine N1 lr λL u1 u2 kx=>?_;rw [tp] at u1 u2 kx;refine Ml dW.fresh λnb o4=>?_;obtain rfl:=o4;obtain tS:=eT.dT;obtain oK:=XW.trans dW;obtain qQ:=hx.dT.back XW.mono;rw [MW] at oK tS qQ;obtain zT:=tS.trim ⟨u1.at,AO.rF u2⟩;obtain afu:=qQ.trim;clear qQ GL;refine dr afu.split λe' abt o3 DP nt=>?_;refine rE o3 ?_;exact mH (C:=C.b8 (AN (.ref e))) hA.b8 ht (oK.ID DO) (zT.b8 (AN (.ref e))) nt.b8 DP λth wS wJ afv=>z6 wS wJ.dT afv.dT λaba afw afx afy=>⟨fc,bs₁,KM,_,afw,afx,afy.exc DP,kx⟩
theorem bo {st:fW}{K:gX}(L:d7)(hL:aW S L)(h:Ex c C st ⟨L,S.heap⟩ K X):Ex c C st S K X:=
 gm (c9.forget L hL.at) h
theorem qm {t u wp:Nn}{K:gX}(h:Ev c C wp S (λv ai=>wm c C t v ai (λaF=>wm c C u v aF (λbd=>K .next bd) X) X) X)
 (hw:qA [t,u] wp C.env=pure Wm:=by rfl) (hp:yD [t,u] C.env=[(Wp,assign t C.env),(Wp,assign u C.env)]:=by rfl):lB c C (.Assign [t,u] wp pos) S K X:=by
 intro A F bs s hA z;show WP c C A (n7 c) (do
  yH pos
  if <-Yy [t,u] wp pos.line C.env then do
   alV wp C.env λv=>amS v ((yD [t,u] C.env).map (·.2))
   pure .next
  else do
   let v <-eval wp C.env
   ak9 C.env v (<-qA [t,u] wp C.env) ((yD [t,u] C.env).map (·.2))) F bs s K X
 refine (ar (show Yy [t,u] wp pos.line C.env=pure Wp from Z))▸(ar hw)▸(ar hp)▸(WP.standAt (WP.bind (R:=λ_ _ (_:Unit) b=>b=Wp) (K₁:=λJ S'=>S'=S) (WP.pure (v:=()) z Z Z) λF₁ bs₁ ai ak J b an aC hb ul=>?_))
 clear z;subst hb ul;refine WP.bind (h A F₁ bs₁ ak hA aC) λaP aB aF am v r av aI hv S4=>WP.bind (R:=λ_ _ (_:Unit) b=>b=Wm) (K₁:=λJ S'=>S'=aF) (WP.pure (v:=()) aI Z Z) λbv aT bd aO J b aL a8 hb pr=>?_;clear aI;subst hb pr;exact WP.bind (R:=λ_ _ (_:Unit) (_:Unit)=>True) (K₁:=λJ S'=>K .next S') (WP.bind (WP.holding (S4 A bv aT aO r hA a8 (aL.V hv))) λek ca dd cK J J ce de J iF=>iF A ek ca cK r hA de (ce.V (aL.V hv))) λek ca dd cK J J ce de J iF=>WP.pure (v:=vU.next) de Z iF
theorem afz {K:cu}(k:K (.bool (b.cps.toList<a.cps.toList)) S):iA c C (Xp .Gt) (.str a) (.str b) S K X:=λA F bs s ra rb hA z ha hb=>by refine Ml ha.inv λJ o5=>?_;refine rE o5 ?_;refine Ml hb.inv λJ o4=>?_;refine rE o4 ?_;exact WP.kept z λQ E q=>PySem.P.gt_str (q _ _ (.refl ..) (af _ (.bool _) k))
end
section
variable {prog:AZ}{w:X3}{E:pF}{s:Gb}
noncomputable abbrev abu (w:X3):Obj:={cls:=.type "set",dict:=Wm,data:=.set #[] 0 (.fresh 0 0 (!CF w))}
set_option maxHeartbeats 3200000 in
end
structure Kept (s s':Gb):Prop where
 heap:∀b o,s.heap.get? b=AN o->s'.heap.get? b=AN o
 os:s'.os=s.os
 gens:s'.gens=s.gens
theorem Kept.moves (x:Kept s s'):a7 c F bs s s':=⟨x.heap,x.os,x.gens⟩
section
variable {prog:AZ}{w:X3}{E:pF}{s:Gb}
end
theorem afA (h:l.Perm r):lQ l=lQ r:=
 jB ((i8 l).trans (h.trans (i8 r).symm)) (iU l) (iU r)
section
variable {s s':Gb}
theorem St.GN (z:St c C F bs S s)(m:a7 c F bs s s')(hn:s.heap.get? a=Wm)(ha:s'.heap.get? a=AN ob)(hr:gg c F (bs++[a]) s'.heap a o)(k:K (.ref S.heap.length) {S with heap:=S.heap++[o]}): WV c C c.V F bs s.heap K (.ref a) s':=by
 obtain f:=z.fg hn;obtain z':=(z.keep m).adopt f ha hr;refine ⟨F,bs++[a],.ref S.heap.length,_,Step.adopt (.keep m) hn,z',.ref (z.wd.len▸?_),k⟩;simp
theorem St.N9 (z:St c C F bs S s)(hk:bs[k]?=AN a)(ho:S.heap[k]?=AN o)(eQ:o≠.gone)(hs:Nw a s.heap h')(he:s'.heap=h')(Kw:s'.os=s.os)(hg:s'.gens=s.gens)(fq:∃ob,h'.get? a=AN ob)(hr:gg c F bs h' a o'):Step C.own F bs s.heap F bs s'.heap/\St c C F bs {S with heap:=S.heap.set k o'} s':=by
 subst he;have T:fC a s s':=⟨λb q o e=>(hs.2 b q).trans e,fq,Kw,hg⟩
 exact ⟨.upd T (.inl (bO hk)),z.upd T hk ho eQ hr⟩
end
section
variable {s s':Gb}{pos:Pos}
theorem rR (n:Nat):u0 0 (n:Int) 1=n:=by delta u0;simp;exact abS
theorem afB (n:Nat)(h:n<2 ^ 62):ah6 0 (n:Int) 1=Wn:=by
 delta ah6;obtain e:aid (n:Int)=Wn:=by delta aid;simp;exact Gj.mpr (dh h Z)
 refine aa (rR _) ?_;simp [e];decide +kernel
theorem tT {x:Str}{px:Pos}{f:Nn}{args:cJ}{K:bZ->(aR->Prop)->dp}
 (h:Ev c C f S (λv ai=>v=.raw (.type "range")/\pz c C pos args ai (λvs aF=>∃n:Nat,vs=[.int n]/\n<2 ^ 62/\K ((WG n).map λ(i:Nat)=>AV.int i) (λJ=>True) aF) X) X)
 (he:eval (.Call f args [] pos) C.env=(do YS pos (<-eval f C.env) [] (W3 pos (M4 args C.env)) (DN pos (Xk [] C.env))):=by rfl)
 (na:(W3 pos (M4 args C.env)).any (·.1)=Wp:=by rfl)
 (hl:mU (W3 pos (M4 args C.env))=Wp:=by rfl):jW c C (.Name x px) (.Call f args [] pos) S K X:=by
 refine adA (kG h λv ai afC=>XZ afC λh1 h2=>⟨h1,λA F bs s hA z=>(h2 A F bs s hA z).mono (λvs aF afD=>N1 afD λn e hn k=>⟨0,n,1,(.inl (aV e Z Z)),(afB n hn),n,(rR n),?_⟩) λJ J q=>q⟩) he na hl;obtain this:(λ(i:Nat)=>AV.int (0+(i:Int)*1))=λ(i:Nat)=>AV.int i:=by funext i;simp
 exact rE this k
end
noncomputable def slotAt (Kf:DW)(Cl:Wr)(name:Str):Option Nat:=match Yp Kf (.ref Cl) name with
 | some (AN (.ref p))=>if (plainGet Kf Cl name&&(clsIn Kf Cl).isSome&&amX Kf (.ref p) "__get__"==AN (AN (.builtin "member_descriptor.__get__"))&&takesIn Kf (.ref p)==AN Wn &&
  Yp Kf (.ref Cl) "__setattr__"==AN (AN (.builtin "object.__setattr__"))&&amW Kf Cl&&takerIn Kf Cl name==AN (AN (.ref p))&&Li Kf (.ref p)==AN (.type "member_descriptor"))=Wn then slotIn Kf p Cl else Wm
 | _=>Wm
noncomputable def oM (vs:wi)(i:Nat)(v:AV):wi:=(vs++td (i+1-vs.length) Wm).set i (AN v)
def oN (S:AS)(k d:Nat)(Cl:Wr)(vs:wi):Prop:=((S.heap[k]?=AN (.inst Cl d)/\vs=[])\/S.heap[k]?=AN (.slots Cl d vs))/\∃kvs,S.heap[d]?=AN (.aN kvs)
section
variable {s s':Gb}{pos:Pos}{Cl:Wr}
theorem qf.length (h:qf c F bs vs rs):rs.length=vs.length:=by
 induction h with
 | nil=>rfl
 | no _ ih=>simp [ih]
 | yes _ _ ih=>simp [ih]
theorem qf.get (h:qf c F bs vs rs):∀{i:Nat} {v:AV},vs[i]?=AN (AN v)->∃r,rs[i]?=AN (AN r)/\c.V F bs v r:=by
 induction h with
 | nil=>intro i v e;simp at e
 | no _ ih=>intro i v e;cases i with
   | zero=>simp at e
   | succ i=>exact ih (e)
 | yes hv _ ih=>intro i v e;cases i with
   | zero=>simp at e;subst e;exact (af _ Z hv)
   | succ i=>exact ih (e)
theorem qf.append (h:qf c F bs vs rs)(h':qf c F bs us ts):qf c F bs (vs++us) (rs++ts):=by
 induction h with
 | nil=>exact h'
 | no _ ih=>exact .no ih
 | yes hv _ ih=>exact .yes hv ih
theorem qf.Oa:∀n:Nat,qf c F bs (td n Wm) (td n Wm):=by
 intro n;induction n with
 | zero =>exact .nil
 | succ n ih =>exact .no (ih)
theorem qf.set (h:qf c F bs vs rs)(hv:c.V F bs v r):∀i,qf c F bs (vs.set i (AN v)) (rs.set i (AN r)):=by
 induction h with
 | nil=>intro i;exact .nil
 | no hh ih=>intro i;cases i with
   | zero=>exact .yes hv hh
   | succ i=>exact .no (ih i)
 | yes hx hh ih=>intro i;cases i with
   | zero=>exact .yes hv hh
   | succ i=>exact .yes hx (ih i)
noncomputable abbrev u9 (Cl dx:Wr)(rs:List rn):Obj:={cls:=.ref Cl,dict:=AN dx,data:=.plain,slots:=rs.toArray}
inductive afE (c:aZ)(F:G)(bs:aJ)(s:Gb)(S:AS)(Cl:Wr)(k d:Nat)(vs:wi)(r:Ws):Prop
 | mk (x dx:Wr) (rs:List rn) (od:Obj) (h1:r=.ref x) (h2:bs[k]?=AN x) (h3:bs[d]?=AN dx) (h4:qf c F bs vs rs) (h5:InstAt s.heap x (u9 Cl dx rs) Cl (AN od)) (h6:∃o,S.heap[k]?=AN o/\o≠.gone)
theorem St.IE (z:St c C F bs S s)(h:oN S k d Cl vs)(hv:c.V F bs (.ref k) r): afE c F bs s S Cl k d vs r:=by
 obtain ⟨h1,kvs,h2⟩:=h;refine Va hv.inv λx o2 hk=>?_;refine rE o2 ?_;rcases h1 with ⟨h1,rfl⟩ | h1
 . refine XZ (z.wd.obj _ _ _ hk h1) λtH J=>?_;refine Va tH λdx e1 e2=>?_;clear tH;refine XZ (z.wd.obj _ _ _ e1 h2) λqR J=>?_;refine Va qR λrs BV J=>?_;clear qR;obtain ⟨es,n,e3,_⟩:=BV;exact ⟨x,dx,[],_,Z,hk,e1,.nil,⟨e2,Z,Z,e3⟩,_,h1,by simp⟩
 . refine XZ (z.wd.obj _ _ _ hk h1) λo9 J=>?_;refine dr o9 λdx rs e1 e4 e2=>?_;clear o9;refine XZ (z.wd.obj _ _ _ e1 h2) λo8 J=>?_;refine Va o8 λJ BW J=>?_;clear o8;obtain ⟨es,n,e3,_⟩:=BW;exact ⟨x,dx,rs,_,Z,hk,e1,e4,⟨e2,Z,Z,e3⟩,_,h1,by simp⟩
set_option tactic.hygienic true in
theorem tU (h:slotAt Kf Cl name=AN i):∃p,plainGet Kf Cl name=Wn/\(clsIn Kf Cl).isSome=Wn/\Yp Kf (.ref Cl) name=AN (AN (.ref p))/\amX Kf (.ref p) "__get__"=AN (AN (.builtin "member_descriptor.__get__"))/\takesIn Kf (.ref p)=AN Wn/\Yp Kf (.ref Cl) "__setattr__"=AN (AN (.builtin "object.__setattr__"))/\amW Kf Cl=Wn/\takerIn Kf Cl name=AN (AN (.ref p))/\Li Kf (.ref p)=AN (.type "member_descriptor")/\slotIn Kf p Cl=AN i:=by
 delta slotAt at h;cases hp:Yp Kf (.ref Cl) name with
 | none=>replace h:=hp▸h;exact bM h
 | some o=>
 replace h:=hp▸h;rcases o with _ | v
 . exact bM h
 cases v with
 | ref p=>
   replace h:=show (if _ then _ else _)=_ from h
   split at h
   . rename_i q;simp only [fA,beq_iff_eq] at q;refine XZ q λo1 q8=>?_;refine XZ o1 λo3 q7=>?_;clear o1;refine XZ o3 λo7 q6=>?_;clear o3;refine XZ o7 λBX q5=>?_;clear o7;obtain ⟨⟨⟨q1,q2⟩,q3⟩,q4⟩:=BX;exact ⟨p,q1,q2,Z,q3,q4,q5,q6,q7,q8,h⟩
   . exact bM h
 | _=>exact bM h
theorem afF (B:eK c mg mb Kf)(hs:slotAt Kf Cl name=AN i)(z:St c C F bs S s)(hi:oN S k d Cl vs)(ho:c.V F bs (.ref k) ro)(hg:vs[i]?=AN (AN v))(DC:∀u,v≠.raw u)(kk:K v S): WP c C A c.V (Lg ro name Wn) F bs s K X:=by
 obtain ⟨x,dx,rs,od,afG,hk,hd,lq,I,_⟩:=z.IE hi ho;refine rE afG ?_;refine Ml (tU hs) λp o6=>?_;refine FO o6 λp1 p2 p3 p4 p5 p6 JH=>?_;clear o6;obtain ⟨p7,p8,p9,FM⟩:=JH;refine Va (lq.get hg) λr hr hvr=>?_;obtain XX:=z.wK B;refine WP.kept z λQ E q=>?_;refine get_bind XX I (plainGet_of p1).1 (findObj_data p2 p3 p4 p5) (plainGet_of p1).2 (KY (slot_get XX I FM (by simp [hr]) (handed_on (rO hvr DC) (q _ _ (.toks ..) (af v hvr kk)))))
open Builtin Builtin.ObjectAttr Builtin.Getset_descriptor in
theorem afH (XX:Kf.In s.heap)(I:InstAt s.heap x afI Cl od)(hp:slotIn Kf p Cl=AN i)(hi:i<1000)(h:R (.ok (.ret .none)) {s with heap:=s.heap.update x λo=>{o with slots:=(o.slots++ajP (i+1-o.slots.size) Wm).setIfInBounds i (AN v)}}): G4 (model c.prog c.w) A (.call (.builtin "member_descriptor.__set__") ⟨[.ref p,.ref x,v],[]⟩) R s:=by
 refine Wg (slot_of XX hp) λn tn owner ada tb d sl o5=>?_;refine Wj o5 λcd ho hc hm hb JI=>?_;clear o5;obtain rfl:=JI;obtain ⟨hh,g,abv,t,os⟩:=s;have L0:=I.type (M:=model c.prog c.w);have afJ:=looks_mroIn (M:=model c.prog c.w) XX hm;have L2:Looks (model c.prog c.w) hh (Slots.slotNamesOf (.ref Cl)) cd.slotNames:=(looks_clsIn XX hc).andThen .now;have hx:=I.at_;dsimp only at ho hx L0 afJ;have f0:=Le (M:=model c.prog c.w) ho 0 (v:=.str n tn) Z;have f1:=Le (M:=model c.prog c.w) ho 1 (v:=owner) Z;have f3:=Le (M:=model c.prog c.w) ho 3 (v:=.builtin "proto.slot#set") Z;have f4:=Le (M:=model c.prog c.w) ho 4 (v:=.int ada tb) Z;refine Yh alf.plain KF.entry_mset (alf.check _ _ _ _ _ _ _ _ (af _ ho Z) (KF.args_mset _ _ _) ?_);unfold Ye.«member_descriptor.__set__» descrSet descrStoreThrough descrCheckInstance descrNameAndClass isInstance;have f5:Looks (model c.prog c.w) hh (descrItself (.ref p)) [.ref p]:=((anY (part:=Wm) ho).andThen .now).andThen (Looks.of_pure (by kernel_rfl))
 repeat lk
 refine ⟨akX _ (by decide +kernel),Yx KF.entry_slotset ?_⟩;unfold Ye.«proto.slot#set» Slots.target
 repeat lk
 refine aa (if_neg hb) (aX (ag ?_));unfold setSlotAt;dsimp only;refine aa (if_neg (by rw [sizeLine_eq];exact YF.mpr (dh hi Z))) ?_;exact ajg hx (aX h)
theorem afK (B:eK c mg mb Kf){K:dp}(hs:slotAt Kf Cl name=AN i)(M2:i<1000)(z:St c C F bs S s)(hi:oN S k d Cl vs)(ho:c.V F bs (.ref k) ro)(hv:c.V F bs v r)(kk:K {S with heap:=S.heap.set k (.slots Cl d (oM vs i v))}):WP c C A (λ_ _ (_:Unit) (_:Unit)=>True) (setAttr ro name r) F bs s (λJ=>K) X:=by
 obtain ⟨x,dx,rs,od,afL,hk,hd,lq,I,o,fE,hng⟩:=z.IE hi ho;refine rE afL ?_;refine Ml (tU hs) λp o4=>?_;refine FO o4 λp1 p2 p3 p4 p5 p6 yf=>?_;clear o4;obtain ⟨p7,p8,p9,FM⟩:=yf;obtain XX:=z.wK B;refine set_plain XX I p6 (osa_descr alf XX I p7 p8 p9 (afH XX I FM M2 ?_));generalize bi:({s with heap:=s.heap.update x λo=>{o with slots:=(o.slots++ajP (i+1-o.slots.size) Wm).setIfInBounds i (AN r)},toks:=s.toks+1}:Gb)=am;obtain g:am.heap.get? x=AN (u9 Cl dx ((rs++td (i+1-rs.length) Wm).set i (AN r))):=by refine bi▸?_;refine aa (lD _ I.at_ Z) ?_;obtain e:ajP (i+1-rs.length) (Wm:rn)=(td (i+1-rs.length) Wm).toArray:=rfl;simp only [u9,Yd,e,List.append_toArray,List.setIfInBounds_toArray]
 obtain KP:Nw x s.heap am.heap:=by refine bi▸?_;exact AU ..
 obtain T:fC x s am:=⟨λb q o e=>(KP.2 b q).trans e,(cj _ g),az bi Z,az bi Z⟩
 refine ⟨F,bs,(),_,.upd T (.inl (bO hk)),z.upd T hk fE hng (o':=.slots Cl d (oM vs i v)) (bW dx _ hd ?_ g),trivial,kk⟩;refine rE lq.length ?_;exact (lq.append (.Oa _)).set hv i
def DQ (c:aZ)(C:Cx)(name:Str)(ov v:AV)(S:AS)(K:dp)(X:cR):Prop:=
 ∀A F bs s ro r,lp C A->St c C F bs S s->c.V F bs ov ro->c.V F bs v r->WP c C A (λ_ _ (_:Unit) (_:Unit)=>True) (setAttr ro name r) F bs s (λJ=>K) X
abbrev wX (c:aZ)(C:Cx)(name:Str)(ov:AV)(S:AS)(K:cu)(X:cR):Prop:=V0 c C (λr=>Lg r name Wn) ov S K X
theorem fj (B:eK c mg mb Kf)(Cl:Wr)(hs:slotAt Kf Cl name=AN i)(hi:oN S k d Cl vs)(hg:vs[i]?=AN (AN v))(DC:∀u,v≠.raw u)(kk:K v S):wX c C name (.ref k) S K X:=
 λA F bs s r hA z hv=>afF B hs z hi hv hg DC kk
theorem br (B:eK c mg mb Kf)(Cl:Wr)(fq:ju Kf Cl=Wn)(xL:(Yp Kf (.ref Cl) name==AN Wm)=Wn)(hi:gR S k d Cl kvs)(hg:bC kvs name=AN v)(DC:∀u,v≠.raw u)(kk:K v S):wX c C name (.ref k) S K X:=
 λA F bs s r hA z hv=>rP B fq xL z hi hv hg DC kk
theorem g8 (B:eK c mg mb Kf)(Cl:Wr){K:dp}(hs:slotAt Kf Cl name=AN i)(M2:i<1000)(hi:oN S k d Cl vs)(kk:K {S with heap:=S.heap.set k (.slots Cl d (oM vs i v))}):DQ c C name (.ref k) v S K X:=
 λA F bs s ro r hA z ho hv=>afK B hs M2 z hi ho hv kk
theorem df (B:eK c mg mb Kf)(Cl:Wr){K:dp}(fq:storeOk Kf Cl name=Wn)(hi:gR S k d Cl kvs)(hsz:kvs.length<=1000)(kk:K {S with heap:=S.heap.set d (.aN (ct kvs name v))}):DQ c C name (.ref k) v S K X:=
 λA F bs s ro r hA z ho hv=>aeV B fq z hi ho hv hsz kk
abbrev afM (c:aZ)(C:Cx)(name:Str)(K:cu)(X:cR):cu:=λo S=>wX c C name o S K X
abbrev afN (c:aZ)(C:Cx)(name:Str)(v:AV)(K:dp)(X:cR):cu:=λo S=>DQ c C name o v S K X
theorem bj {wp:Nn}{name:Str}(h:Ev c C wp S (afM c C name K X) X)
 (gp:XR wp name C.env (eval wp C.env)=eval wp C.env:=by rfl):Ev c C (.Attribute wp name pos) S K X:=by
 intro A F bs s hA z;show WP c C A c.V (do
  let o <-XR wp name C.env (eval wp C.env)
  yH pos.atName
  let r <-holding [o] (Lg o name Wn)
  YG wp o r
  pure r) F bs s K X
 exact rE gp (WP.bind (h A F bs s hA z) λF₁ bs₁ ai ak o ro an aC ho tj=>WP.standAt (WP.bind (WP.holding (tj A F₁ bs₁ ak ro hA aC ho)) λaP aB aF am v rv av aI hv S4=>ag (A4 (WP.pure aI hv S4))))
theorem cE {K:dp}(h:Ev c C o S (afN c C name v K X) X):wm c C (.Attribute o name pos) v S K X:=by
 intro A F bs s r hA z hv
 exact WP.bind (WP.holding (h A F bs s hA z)) λF₁ bs₁ ai ak ov Im an aC lq kk=>WP.standAt (ag (pa (aS (kk A F₁ bs₁ ak Im r hA aC lq (an.V hv)) (λJ am q=>nA q) λJ J e=>e)))
theorem gD {K:gX}(h:Ev c C o S (λov ai=>wX c C name ov ai (λv aF=>Ev c C wp aF (λw bd=>iA c C (Y7 op) v w bd (λr dd=>DQ c C name ov r dd (λdJ=>K .next dJ) X) X) X) X) X): lB c C (.AugAssign (.Attribute o name wI) op wp pos) S K X:=by
 intro A F bs s hA z;refine WP.standAt (WP.bind (h A F bs s hA z) λF₁ bs₁ ai ak ov Im an aC lq tj=>WP.bind (R:=c.V) (K₁:=λr dd=>DQ c C name ov r dd (λdJ=>K .next dJ) X) ?_ λek ca dd cK r rr ce de hr kk=>?_)
 . exact WP.holding (WP.standAt (WP.bind (tj A F₁ bs₁ ak Im hA aC lq) λaP aB aF am u ru av aI hu S4=>WP.bind (WP.holding (S4 A aP aB am hA aI)) λbv aT bd aO w U5 aL a8 hw bR=>WP.standAt (XK (bR A bv aT aO ru U5 hA a8 (aL.V hu) hw))))
 . exact WP.standAt (ag (pa (aS (kk A ek ca cK Im rr hA de (ce.V lq) hr) (λJ fe q84=>q84.casesOn λfc dq J dJ dW eT J lr=>ag (nA (aX ⟨fc,dq,.next,dJ,dW,eT,Z,lr⟩))) λJ J e=>e)))
end
end Mine.Internal
namespace Mine.Internal
open PySem
theorem abY (l:Wr)(items:Array Ws)(GO:(items.size:Int)<2 ^ 63): Meets (Ye.«bool.__new__» ⟨[.type "bool",.ref l],[]⟩) (λJ R s=>s.heap.IsList l items/\R (.ok (.ret (.bool (!items.isEmpty)))) {s with toks:=s.toks+1+1}):=
 Meets.of_wp λprog w A R s hs=>by
  obtain ⟨hl,hs⟩:=hs;obtain f1:=F.conv_sub_bool
  repeat (any_goals (first | assumption | (with_reducible refine ala hl GO ?_) | wp_step))
  all_goals first | exact ⟨_,Z,hs⟩ | exact hs | skip
end Mine.Internal
namespace Mine.Internal
open PySem PyProof.Rows PySem.W
section
variable {s s':Gb}{pos:Pos}{Cl:Wr}
theorem afO (h:dD S v xs)(hl:xs.length<2 ^ 63)(k:K (.bool (!xs.isEmpty)) S):eJ c C (.type "bool") [v] S K X:=by
 intro A F bs s rs hA z hv;refine Va hv.one λr yp h1=>?_;refine rE yp ?_;clear hv;refine Cc (z.seq h h1) λl vs ym hL bn J=>?_;refine rE ym ?_;have tp:=bn.length;refine WP.kept z λQ E q=>call_bool_1 (abY l vs.toArray (by simp [tp];exact qI hl)) (aV hL.isList Z (q _ _ (.toks ..) (af _ ?_ k)));obtain this:(!vs.toArray.isEmpty)=!xs.isEmpty:=by cases xs <;> cases vs <;> simp_all
 simp only [this];exact .bool _
theorem afP (h:dD S v xs)(hl:xs.length<=Wo)(k:K (.tup xs) S):eJ c C (.type "tuple") [v] S K X:=by
 intro A F bs s rs hA z hv;refine Va hv.one λr ut h1=>?_;refine rE ut ?_;clear hv;refine Cc (z.seq h h1) λl vs uR hL bn J=>?_;refine rE uR ?_;refine call_tuple_list hL.isList (λh' hk=>?_) (by simp [bn.length,hl]);obtain kp:Kept s {s with heap:=h'.push {cls:=.type "tuple",data:=.seq vs.toArray}}:=⟨λb o e=>cC _ (hk b o e),Z,Z⟩
 obtain hn:s.heap.get? h'.objs.size=Wm:=by
  cases e:s.heap.get? h'.objs.size with
  | none=>rfl
  | some o=>exact absurd (M7 (hk _ _ e)) (KO _)
 obtain ha:(h'.push {cls:=.type "tuple",data:=.seq vs.toArray}).get? h'.objs.size=AN (kD vs):=dB _ Z;obtain z':=(z.keep (kp.moves (c:=c) (F:=F) (bs:=bs))).kK (z.fg hn) ha (by simp [kD]);refine ⟨plus F h'.objs.size (kD vs),bs,.tup xs,S,Step.kK (.keep (kp.moves (c:=c))) (z.fg hn).F hn,z',.tup bU ?_,k⟩;simpa using bh.mono (nb:=[]) (aY (z.fg hn).F) bn
theorem lH.dictAt {Kt:Type}[DecidableEq Kt]{knd:Ep c.prog c.w Kt}{h:Xi}{a:Wr}{kvs:List (Kt×Ws)}(x:lH knd h.get? a kvs):∃ep,h.DictAt knd a kvs ep:=
 let ⟨es,n,e,hk,hp,hn,_⟩:=x
 (i5 n _ es e (aV Z Z Z) Z hk hp hn)
theorem bE.at (h:c.SV F bs kvs rs)(i:Nat)(k:Str)(v:Ws)(e:rs[i]?=AN (k,v)):∃y,kvs[i]?=AN (k,y)/\c.V F bs y v:=by
 induction kvs generalizing rs i with
 | nil=>obtain rfl:=h.inv;exact bM e
 | cons p l ih=>
   obtain ⟨_,_,rfl,h,t⟩:=h.inv;cases i with
   | zero=>clear ih;obtain ⟨rfl,DT⟩:=G2 (bf e);refine DT▸?_;exact (af _ Z h)
   | succ i=>exact ih t i e
theorem bE.length (h:c.SV F bs kvs rs):rs.length=kvs.length:=by obtain this:=congrArg XG (bE.keys h);simpa using this
theorem afQ {K:bZ->(aR->Prop)->dp}(h:Ev c C iter S (λv ai=>∃kvs,v=.kC kvs/\K (kvs.map λp=>.str p.1) (λJ=>True) ai) X):jW c C (.Name x px) iter S K X:=by
 refine wC (kG h λv ai DU=>Va DU λkvs e k A F bs s r hA z hv=>?_);clear DU;subst e;refine dr hv.inv λa rs uV hd bn=>?_;refine rE uV ?_;obtain A5:(a==wW)=Wp:=let ⟨_,_,_,_,_,_,q⟩:=hd
 q
 obtain ⟨o,ho⟩:∃o,F a=AN o:=let ⟨_,_,e,_⟩:=hd
 (cj _ e)
 obtain sp:lH (sk c.prog c.w) s.heap.get? a rs:=hd.sub z.wd.sub;refine Ml sp.dictAt λep qz=>alg A5 qz ?_;obtain hn:s.heap.get? s.heap.objs.size=Wm:=gf (bP _);generalize io:({cls:=.type "dict_keyiterator",data:=.fields #[.ref a,.int 0 0,.int rs.length 0,.int ep 0]}:Obj)=ob;obtain ha:(s.heap.push ob).get? s.heap.objs.size=AN ob:=dB _ (by refine io▸?_;rfl);have m:a7 c F bs s {s with heap:=s.heap.push ob}:=⟨λb o e=>cC _ e,Z,Z⟩
 obtain eQ:a≠s.heap.objs.size:=cI (M7 (z.wd.sub _ _ ho));refine ⟨F,bs,ai,_,kvs.map λp=>.str p.1,_,[s.heap.objs.size],_,Z,.keep m,z.keep m,Ce.walks (F₀:=F) (bs₀:=bs) (λA hA=>amn hA s.heap.objs.size a eQ rs ep) (by simpa using bE.length bn) ?_ ?_ ?_,
  (ee ⟨(aU ob ha (az io Z) (by refine az io ?_;rfl)),qz.at' λo e=>m.keep _ _ e⟩ (Dv _) (λJ J e=>e) [] (by simp)),λa q=>by refine aa (bN q) ?_;exact hn,cx.one z hn ha (by refine az io ?_;simp) (by refine az io ?_;simp),trivial,k⟩
 . intro b hb;rcases eO hb with e | hb
   . exact .inl (by simp [e])
   . exact aa (bN hb) (.inr (cj _ ho))
 . intro i v _ ⟨kk,u,h1,h2⟩;refine Va (bE.at bn i kk u h1) λy e1 J=>(af (.str kk) (by simp only [bV,e1];rfl) ?_)
   refine Ml (akx h2) λt uW=>?_;refine rE uW ?_;exact .str _ _
 . intro i h be b hb;refine XZ be λpt J=>?_;clear be;refine N1 pt λo e1 e2 J=>?_;clear pt;exact rE (bN hb) (aU o e1 (by refine aa e2 ?_;simp) (by refine aa e2 ?_;simp))
noncomputable def vb (k:Nat)(v':AV):gh->gh->Prop
 | [],[]=>True
 | p::l,q::r=>p.1=q.1/\(q.2=p.2\/(p.2=.ref k/\q.2=v'))/\vb k v' l r
 | _,_=>False
theorem vb.rel (hv:∀r,c.V F bs (.ref k) r->c.V F bs v' r)(hr:vb k v' l l')(h:c.SV F bs l rs):c.SV F bs l' rs:=by
 induction l generalizing l' rs with
 | nil=>
   cases l' with
   | nil=>exact h
   | cons=>exact hr.elim
 | cons p l ih=>
   cases l' with
   | nil=>exact hr.elim
   | cons q l'=>
     refine RR hr λe hq t=>?_;refine dr h.inv λw r JY hx ht=>?_;refine rE JY ?_;refine rE e (.cons ?_ (ih t ht))
     (refine bz hq (λhq=>?_) (λJ0=>?_);rotate_left;refine XZ J0 λq1 q2=>?_;rotate_right)
     . exact aa hq hx
     . refine aa q2 ?_;rw [q1] at hx;exact hv _ hx
end
noncomputable def mI (Kf:DW)(Cl:Wr)(name:Str)(f:Wr):Bool:=gB Kf Cl name f&&amX Kf (.ref f) "__get__"==AN (AN (.builtin "function.__get__"))&&takesIn Kf (.ref f)==AN Wp&&!copiedNames.contains name
section
variable {s s':Gb}{pos:Pos}{Cl:Wr}
theorem rS (B:eK c mg mb Kf)(Cl f:Wr)(fq:mI Kf Cl name f=Wn)(hi:gR S k d Cl kvs)(xL:bC kvs name=Wm)(kk:K (.bm "method" (.ref f) (.ref k)) S):wX c C name (.ref k) S K X:=by
 intro A F bs s r hA z hv;simp only [mI,gB,fA,beq_iff_eq,Xs] at fq;refine XZ fq λVd q3=>?_;refine XZ Vd λVe q2=>?_;clear Vd;refine XZ Ve λGB q1=>?_;clear Ve;refine XZ GB λKp c3=>?_;clear GB;obtain ⟨⟨c0,c1⟩,c2⟩:=Kp;simp only [ju,fA,beq_iff_eq] at c0;refine XZ c0 λVb g5=>?_;refine XZ Vb λVc g4=>?_;clear Vb;refine XZ Vc λGC g3=>?_;clear Vc;refine XZ GC λg1 g2=>?_;clear GC;obtain ⟨x,dx,rs,es,m,rfl,_,_,I,_,hk,hp,rp,_⟩:=z.inst hi hv;refine Va (Ez g5) λcd DA Gz=>?_;obtain hf:z5 Kf Cl (AN (a9 es m)) name=AN (.bind (.builtin "function.__get__") (.ref f)):=by
  delta z5;refine (ar DA)▸(ar c1)▸?_
  (refine bz (bE.get name rp) (λo91=>?_) (λo92=>?_);refine dr o91 λv' w e1 e2 e3=>?_;rotate_left;refine XZ o92 λe1 e2=>?_;rotate_right)
  . exact bM (aM (ar xL) e1)
  . have e3:W.ownOf cd (AN (a9 es m)) name=AN Wm:=(if_pos Gz).trans ((nz hk hp name).trans (congrArg AN e2));dsimp only [anq];refine aa q1 ?_;dsimp only;refine aa q2 ?_;dsimp only;refine aa e3 ?_;dsimp only;refine aa q3 ?_;rfl
 obtain XX:=z.wK B;refine get_bind XX I g1 hf g2 (KY (fn_get (s:={s with toks:=s.toks+1}) XX c2 (handed_on Z ?_)));obtain hn:s.heap.get? s.heap.objs.size=Wm:=St.gZ s;obtain mv:a7 c F bs s {s with heap:=s.heap.push (OL (.ref f) (.ref x)),toks:=s.toks+1}:=⟨λb o e=>cC _ e,Z,Z⟩
 obtain ha:(s.heap.push (OL (.ref f) (.ref x))).get? s.heap.objs.size=AN (OL (.ref f) (.ref x)):=dB _ Z;refine ⟨_,bs,.bm "method" (.ref f) (.ref k),S,.frozen mv (z.kF hn) hn,z.jS mv hn ha,.bm (r:=.ref x) ?_ ?_,kk⟩
 . exact bU
 . simpa using cW.mono (nb:=[]) (aY (z.kF hn)) hv
theorem afR (z:St c C F bs S s)(h:dD S v xs\/v=.tup xs)(hl:xs.length<=Wo)(hv:c.V F bs v r)(hq:∀h' vs,a7 c F bs s {s with heap:=h'}->c.Vs F bs xs vs->Q vs {s with heap:=h'}):StarOf (model c.prog c.w) A E r Q s:=by
 obtain main:∀(a:Wr) (vs:iE) (o:Obj) (T:String) (n:Nat),r=.ref a->s.heap.get? a=AN o->o.cls=.type T->o.data=.seq vs.toArray n->T="list"\/T="tuple"->c.Vs F bs xs vs->StarOf (model c.prog c.w) A E r Q s:=by
  intro a vs o T n e ho hc hd hT bn;clear hv;subst e;obtain Vf:s.TypeIs (.ref a) T:=(af o ho hc)
  obtain J:Dk (model c.prog c.w) A (collect (.ref a)) Q E s:=by refine wpAny_collect_seq a hT ho hc hd (λh' hk=>?_) (by simp [bn.length,hl]);obtain this:=hq h' vs ⟨hk,Z,Z⟩ bn;exact this
  clear hc;rcases hT with rfl | rfl
  . exact ag (X0 Vf ajI.lookup (aX ⟨Z,J⟩))
  . exact ag (X0 Vf PySem.F.slot_tuple_iter.lookup (aX ⟨Z,J⟩))
 rcases h with h | h
 . refine FN (z.rC h hv) λl vs n XC h0 bn=>?_;clear hv;obtain rfl:=XC;exact main l vs _ "list" n Z h0 Z Z (.inl Z) bn
 . subst h;refine dr hv.inv λJ J XA ht bn=>?_;obtain rfl:=XA;exact main _ _ _ "tuple" 0 Z (z.wd.sub _ _ ht) Z Z (.inr Z) bn
theorem afS {e:Nn}{p:Pos}{es:cJ}{K:tI}(h:Ev c C e S (λv ai=>∃xs,(dD ai v xs\/v=.tup xs)/\xs.length<=Wo/\pz c C pos es ai (λvs aF=>K (xs++vs) aF) X) X)
 (he:M4 (.Starred e p::es) C.env=(Wn,eval e C.env)::M4 es C.env:=by rfl):pz c C pos (.Starred e p::es) S K X:=by
 intro A F bs s hA z;refine items_star (aS (h A F bs s hA z) (λr ak DK=>DK.casesOn λF₁ bs₁ v ai an aC hv KG=>?_) (λJ J e=>e)) he;obtain ⟨xs,X5,hl,tj⟩:=KG;refine afR aC X5 hl hv λh' vs m bn=>?_;obtain aI:=aC.keep m;refine aS (tj A F₁ bs₁ _ hA aI) (λus aO q97=>q97.casesOn λbv aT ws bd aL a8 GS bR=>?_) (λx aO q98=>q98.casesOn λbv aT cls bd aL a8 hx bR=>?_)
 . exact ⟨bv,aT,xs++ws,bd,(an.trans (.keep m)).trans aL,a8,(aL.Vs bn).append GS,bR⟩
 . exact ⟨bv,aT,cls,bd,(an.trans (.keep m)).trans aL,a8,hx.back (an.trans (.keep m)).mono,bR⟩
theorem afT (B:eK c mg mb Kf){o:Nn}{name:Str}{H6:Pos}{args:cJ}{n:Nat}(hh:C.handled=Wm)(hn:n<=C.n)
 (h:Ev c C o S (λov ai=>wX c C name ov ai (λfv aF=>∃f self,fv=.bm "method" (.ref f) self/\fnIn Kf f=Wn/\pz c C pos args aF (λvs bd=>bQ c n (.ref f) (self::vs) bd.heap (λv H'=>K v {bd with heap:=H'})) X) X) X)
 (gp:XR o name C.env (eval o C.env)=eval o C.env:=by rfl)
 (ot:aj9 (args.length+([]:List YC).length) (W3 pos (M4 args C.env)) (DN pos (Xk [] C.env))=Wp:=by rfl)
 (be:(W3 pos (M4 args C.env)).any (·.1)=Wn:=by rfl)
 (hl:mU (W3 pos (M4 args C.env))=Wp:=by rfl):Ev c C (.Call (.Attribute o name H6) args [] pos) S K X:=by
 intro A F bs s hA z;simp only [akI,gp];refine ag (aS (h A F bs s hA z) (λr ak X6=>X6.casesOn λF₁ bs₁ ov ai an aC lq tj=>ag (yr ?_)) λJ J e=>e);obtain yx:K1 Wp o C.env H6 pos=pure pos:=rfl;delta aml calleeOf;refine rE ot (ag (pa (ag (aS (tj A F₁ bs₁ ak r hA aC lq) (λfr am pL=>pL.casesOn λaP aB fv aF av aI Ih oC=>?_) λx am afU=>afU.casesOn λaP aB cls aF av aI hx S4=>⟨aP,aB,cls,aF,an.trans av,aI,hx.back an.mono,S4⟩))));obtain ⟨f,self,e,NF,S4⟩:=oC;subst e;have yC:=an.trans av;refine dr Ih.inv λq qo Xz io tX=>?_;refine rE Xz ?_;refine aX (ag (NT yx (ks_call (P:=λh=>MethP Kf q f qo h) be (keeps_M NF) (aS (gk hA aI S4 hl) (λa aO Od=>Od.casesOn λbv aT vs bd aL a8 afV=>XZ afV λoj bn bR=>?_) (λx aO afW=>afW.casesOn λbv aT cls bd aL a8 hx bR=>⟨bv,aT,cls,bd,yC.trans aL,a8,hx.back yC.mono,bR⟩)))));obtain ⟨ps,kw⟩:=a;have yy:kw=[]:=oj;clear oj Od;refine rE yy ?_;have hq:aO.heap.get? q=AN (OL (.ref f) qo):=a8.wd.sub _ _ (aL.sub _ _ io);refine ⟨⟨hq,a8.wK B⟩,?_⟩;obtain B1:=yC.trans aL;obtain hd:=hA.depth;obtain hu:=hA.units;exact KY (method_call hq (NL (bR A bv aT aO (qo::ps) C.frames (hA.handled.trans hh) (ur hd hn) (uq hu hn) hA.frames a8.frames a8.wd (.cons (aL.V tX) bn)) λr s' dL=>dL.casesOn λF' aK v H' rv own e ii st wd m0 k=>rE e ⟨F',aK,v,{bd with heap:=H'},B1.trans (st.widen λa ha=>.inr (ii a ha)),a8.after st ii wd,m0,k⟩))
theorem n9.star (ns:bD)(a:Str)(hl:args.length=ns.length)(hsz:xs.length<=Wo)
 (h:∀rs us:iE,rs.length=ns.length->OY fd ⟨rs++us,[]⟩=(do let t <-anr us;pure (ns.zip rs++[(a,t)]))):n9 c fd (args++xs) (ns.zip args++[(a,.tup xs)]):=by
 intro A F bs H s rs E Q wd hv k;obtain ⟨r1,r2,rfl,h1,h2⟩:∃r1 r2,rs=r1++r2/\c.Vs F bs args r1/\c.Vs F bs xs r2:=by
  refine (bW (rs.take args.length) (rs.drop args.length) ((ajX _ _).symm) ?_ ?_)
  . simpa using bh.take args.length hv
  . simpa using bh.drop args.length hv
 refine rE (h r1 r2 (h1.length.trans hl)) (ag (tu ?_ (by refine rE h2.length ?_;exact hsz)));obtain hn:=St.gZ s;obtain mv:a7 c F bs s {s with heap:=s.heap.push {cls:=.type "tuple",data:=.seq r2.toArray}}:=⟨λb o e=>cC _ e,Z,Z⟩
 obtain ha:(s.heap.push {cls:=.type "tuple",data:=.seq r2.toArray}).get? s.heap.objs.size=AN (kD r2):=dB _ Z;have hF:F s.heap.objs.size=Wm:=by
  cases q:F s.heap.objs.size with
  | none=>rfl
  | some o=>exact lj (aM (ar (wd.sub _ _ q)) hn)
 obtain sub:=aY hF;refine aX (k (plus F s.heap.objs.size (kD r2)) _ _ (.frozen mv hF hn) (Wd.jS (S:=⟨[],H⟩) wd mv hn ha) (bE.append (bE.zip (by simpa using bh.mono (nb:=[]) sub h1)) (.cons (.tup bU ?_) .nil)));simpa using bh.mono (nb:=[]) sub h2
end
end Mine.Internal
namespace Mine.Internal
open PySem
open Sem (wp)
namespace Fm
theorem slot_li_ga:Slot "list_iterator" "__getattribute__" "object.__getattribute__" :=
 .of (owner:="object") (n:="__getattribute__") (Z) (Z) (Z) (Z)
  (by first | exact .inl (Z) | exact .inr (Z)) (Z)
theorem entry_o_ga:Hf table "object.__getattribute__"=AN Ye.«object.__getattribute__»:=ajm (by kernel_rfl)
theorem args_o_ga (a b:Ws):Zk "object.__getattribute__" ⟨[a,b],[]⟩:=by unfold Zk;kernel_rfl
theorem type_li_next:typeOf (.builtin "list_iterator.__next__")=pure (.type "wrapper_descriptor"):=by show builtinType _=_;rw [builtinType_eq_fast];kernel_rfl
theorem slot_wd_get:Slot "wrapper_descriptor" "__get__" "wrapper_descriptor.__get__" :=
 .of (owner:="wrapper_descriptor") (n:="__get__") (Z) (Z) (Z) (Z)
  (by first | exact .inl (Z) | exact .inr (Z)) (Z)
theorem entry_wd_get:Hf table "wrapper_descriptor.__get__"=AN Ye.«wrapper_descriptor.__get__»:=ajm (by kernel_rfl)
theorem args_wd_get (a b c:Ws):Zk "wrapper_descriptor.__get__" ⟨[a,b,c],[]⟩:=by unfold Zk;kernel_rfl
theorem no_wd_set:Oy (.type "wrapper_descriptor") "__set__"=pure Wm:=rfl
theorem no_wd_del:Oy (.type "wrapper_descriptor") "__delete__"=pure Wm:=rfl
theorem sub_li:YY (.type "list_iterator") (.type (".".intercalate ("list_iterator.__next__".cutAt '.').dropLast))=pure Wn:=rfl
end Fm
section
variable {prog:AZ}{w:X3}{E:pF}{h:Xi}{g:Array ans}{d:Drawn}{t:Nat}{os:OsState}{a:Wr}{vs:Array Ws}
noncomputable abbrev wrapObj (f self:Ws):Obj:={cls:=.type "method-wrapper",data:=.fields #[f,self]}
theorem acy (hx:h.get? a=AN {cls:=.type "list_iterator",data:=.fields vs})(hq:R (.ok (.ret (.ref h.objs.size))) ⟨h.push (wrapObj (.builtin "list_iterator.__next__") (.ref a)),g,d,t,os⟩): G4 (model prog w) A (.call (.builtin "wrapper_descriptor.__get__") ⟨[.builtin "list_iterator.__next__",.ref a,.type "list_iterator"],[]⟩) R ⟨h,g,d,t,os⟩:=by
 obtain hT:(⟨h,g,d,t,os⟩:Gb).TypeIs (.ref a) "list_iterator":=⟨_,hx,Z⟩
 obtain hT5:(⟨h,g,d,t,os⟩:Gb).TypeIs (.builtin "list_iterator.__next__") "wrapper_descriptor":=Fm.type_li_next;obtain f8:=Fm.sub_li;refine Yh Fm.slot_wd_get.plain Fm.entry_wd_get (Fm.slot_wd_get.check _ _ _ _ _ _ _ _ hT5 (Fm.args_wd_get _ _ _) ?_)
 repeat (any_goals (first | assumption | wp_step))
theorem acl (hx:h.get? a=AN {cls:=.type "list_iterator",data:=.fields vs})(hq:Q (.done (.ret (.ref h.objs.size))) ⟨h.push (wrapObj (.builtin "list_iterator.__next__") (.ref a)),g,d,t,os⟩): Dk (model prog w) A (Ye.«object.__getattribute__» ⟨[.ref a,.str "__next__" tk],[]⟩) Q E ⟨h,g,d,t,os⟩:=by
 obtain hT:(⟨h,g,d,t,os⟩:Gb).TypeIs (.ref a) "list_iterator":=⟨_,hx,Z⟩
 obtain hT5:(⟨h,g,d,t,os⟩:Gb).TypeIs (.builtin "list_iterator.__next__") "wrapper_descriptor":=Fm.type_li_next;obtain f4:=slot_listiter_next.lookup;obtain f6:=Fm.slot_wd_get.lookup;obtain f7:=Fm.no_wd_set;obtain f8:=Fm.no_wd_del
 repeat (any_goals (first | assumption | wp_step))
 refine acy hx ?_
 repeat (any_goals (first | assumption | wp_step))
theorem acu (hx:h.get? a=AN {cls:=.type "list_iterator",data:=.fields vs})(hq:R (.ok (.ret (.ref h.objs.size))) ⟨h.push (wrapObj (.builtin "list_iterator.__next__") (.ref a)),g,d,t,os⟩): G4 (model prog w) A (.call (.builtin "object.__getattribute__") ⟨[.ref a,.str "__next__" tk],[]⟩) R ⟨h,g,d,t,os⟩:=
 Yh Fm.slot_li_ga.plain Fm.entry_o_ga (Fm.slot_li_ga.check _ _ _ _ _ _ _ _ (show (⟨h,g,d,t,os⟩:Gb).TypeIs (.ref a) "list_iterator" from ⟨_,hx,Z⟩) (Fm.args_o_ga _ _) (acl hx hq))
theorem acv (hx:h.get? a=AN {cls:=.type "list_iterator",data:=.fields vs})(hq:Q (.ref h.objs.size) ⟨h.push (wrapObj (.builtin "list_iterator.__next__") (.ref a)),g,d,t+1,os⟩): Dk (model prog w) A (Lg (.ref a) "__next__" Wn) Q E ⟨h,g,d,t,os⟩:=by
 obtain hT:(⟨h,g,d,t+1,os⟩:Gb).TypeIs (.ref a) "list_iterator":=⟨_,hx,Z⟩
 obtain f2:=Fm.slot_li_ga.lookup;obtain f3:=Fm.slot_li_ga.bind (.ref a)
 repeat (any_goals (first | assumption | wp_step))
 refine acu hx ?_
 repeat (any_goals (first | assumption | wp_step))
 all_goals trace_state
end
end Mine.Internal
namespace Mine.Internal
open PySem PyProof.Rows PySem.W
section
variable {s s':Gb}{pos:Pos}{Cl:Wr}
theorem afX {K:gX}(ht:gC C)(I:CV)(n:Nat)(h0:I n S)(VG:∀n S',I n S'->FZ c C test S' (afi c C body FQ I n K X) X):lB c C (.While test body FQ pos) S K X:=by
 intro A F bs s hA z;refine WP.standAt (Bf (ale (λn s'=>∃F' aK S',Step C.own F bs s.heap F' aK s'.heap/\St c C F' aK S' s'/\I n S') ?_ n (fK F bs S (.refl ..) z h0)));intro n ak o1;refine FN o1 λF₁ bs₁ ai an aC hI=>aS (VG n ai hI A F₁ bs₁ ak hA aC) (λb am q48=>q48.casesOn λaP aB b' aF av aI hb S4=>?_) (λx am q49=>q49.casesOn λaP aB cls aF av aI hx S4=>iY hA ht (an.trans av) aI (hx.back an.mono) S4);clear q48;subst hb;have st:=an.trans av;cases b with
 | false =>exact aS (S4 A aP aB am hA aI) (λf aO q50=>q50.casesOn λbv aT fl bd aL a8 hf bR=>⟨bv,aT,fl,bd,st.trans aL,a8,hf,bR⟩) (λx aO q51=>q51.casesOn λbv aT cls bd aL a8 hx bR=>iY hA ht (st.trans aL) a8 (hx.back st.mono) bR)
 | true=>
   refine aS (S4 A aP aB am hA aI) (λf aO Yb=>Yb.casesOn λbv aT fl bd aL a8 hf bR=>?_) (λx aO q53=>q53.casesOn λbv aT cls bd aL a8 hx bR=>iY hA ht (st.trans aL) a8 (hx.back st.mono) bR);cases fl with
   | next=>cases hf;obtain ⟨m,hm,k⟩:=bR;exact (mB m hm bv aT bd (st.trans aL) a8 k)
   | cont=>cases hf;obtain ⟨m,hm,k⟩:=bR;exact (mB m hm bv aT bd (st.trans aL) a8 k)
   | brk=>clear Yb;subst hf;exact ⟨bv,aT,.next,bd,st.trans aL,a8,Z,bR⟩
   | ret v=>clear Yb;refine Va hf λr Jw hr=>?_;clear hf;obtain rfl:=Jw;exact ⟨bv,aT,.ret v,bd,st.trans aL,a8,(af r Z hr),bR⟩
theorem afY (h:dD S v xs)(k:K (.ref S.heap.length) {S with heap:=S.heap++[.iq v 0]}):eJ c C (.builtin "iter") [v] S K X:=by
 intro A F bs s rs hA z hv;refine Va hv.one λr FT h1=>?_;refine rE FT ?_;clear hv;refine Cc (z.seq h h1) λl vs Jv hL bn J=>?_;clear FT;obtain rfl:=Jv;refine aiO (Z) (Z) amo (kdk_args_iter _) (ag (m:=someArgs "iter" 1 2 _) (aX (ag (Y3 hL.isList (aX (af _ Z ?_))))));obtain mv:a7 c F bs s {s with heap:=s.heap.push {cls:=.type "list_iterator",data:=.fields #[.ref l,.int 0 0]}}:=⟨λb o e=>cC _ e,Z,Z⟩
 exact z.GN (o:=.iq v 0) mv (St.gZ s) (dB _ Z) (af l (cW.mono (λJ J e=>e) h1) (dB _ Z)) k
theorem afZ (h:S.heap[k]?=AN (.iq l i))(kk:K (.bm "method-wrapper" (.builtin "list_iterator.__next__") (.ref k)) S):wX c C "__next__" (.ref k) S K X:=by
 intro A F bs s r hA z hv;refine Cg (z.gq hv h) λa Jz ha FW J=>?_;obtain rfl:=Jz;refine Va FW λla h1 h2=>?_;clear FW;obtain ⟨hp,g,d,t,os⟩:=s;refine acv h2 ?_;obtain hn:hp.get? hp.objs.size=Wm:=gf (bP _);obtain mv:a7 c F bs ⟨hp,g,d,t,os⟩ ⟨hp.push (wrapObj (.builtin "list_iterator.__next__") (.ref a)),g,d,t+1,os⟩:=⟨λb o e=>cC _ e,Z,Z⟩
 refine ⟨_,bs,.bm "method-wrapper" (.builtin "list_iterator.__next__") (.ref k),S,.frozen mv (z.kF hn) hn,z.jS mv hn (dB _ Z),.bm (r:=.ref a) bU ?_,kk⟩;simpa using cW.mono (nb:=[]) (aY (z.kF hn)) hv
theorem af0 (ho:s.heap.get? q=AN (wrapObj (.builtin "list_iterator.__next__") self))(hT:s.TypeIs self "list_iterator")(h:G4 (model c.prog c.w) A (.builtin "list_iterator.__next__" ⟨[self],[]⟩) R s):G4 (model c.prog c.w) A (.call (.ref q) ⟨[],[]⟩) R s:=by
 refine al4 (nd_load ho ?_);show Dk _ _ (amp "list_iterator.__next__" ⟨[self],[]⟩ >>= λJ=>again (.builtin "list_iterator.__next__" ⟨[self],[]⟩)) _ _ _;obtain hc:amp "list_iterator.__next__" ⟨[self],[]⟩=pure ():=by kernel_rfl
 refine ag (NT hc (aX ⟨akJ (by decide +kernel) _,h⟩))
theorem af1 {f:Nn}(hh:C.handled=Wm)
 (h:Ev c C f S (λfv ai=>∃k l i xs,fv=.bm "method-wrapper" (.builtin "list_iterator.__next__") (.ref k)/\ai.heap[k]?=AN (.iq l i)/\dD ai l xs/\
  (match xs[i]? with | some y=>K y {ai with heap:=ai.heap.set k (.iq l (i+1))} | none=>X "StopIteration" {ai with heap:=ai.heap.set k .gone})) X)
 (he:eval (.Call f [] [] pos) C.env=(do YS pos (<-eval f C.env) [] (W3 pos (M4 [] C.env)) (DN pos (Xk [] C.env))):=by rfl):Ev c C (.Call f [] [] pos) S K X:=by
 intro A F bs s hA z;refine aa he (WP.bind (h A F bs s hA z) λF₁ bs₁ ai ak v r an aC hv Oe=>Wh Oe λk l i xs e hk X5 tj=>?_);clear Oe;subst e;refine dr hv.inv λq qo FS io tX=>?_;refine rE FS ?_;obtain hq:ak.heap.get? q=AN (wrapObj (.builtin "list_iterator.__next__") qo):=aC.wd.sub _ _ io;clear io;refine Cg (aC.gq tX hk) λa Jy ha FU hFa=>?_;obtain rfl:=Jy;refine Va FU λla GT VJ=>?_;clear FU;refine Cc (aC.seq X5 GT) λl' vs e hL bn J=>?_;obtain rfl:=K6 e;obtain hT:ak.TypeIs (.ref a) "list_iterator":=(af _ VJ Z)
 refine callWith_of (P:=λh=>h.get? q=AN (wrapObj (.builtin "list_iterator.__next__") (.ref a))) Z (λh X=>⟨.machine,.inr (.inl Z),(anY (part:=Wm) X).andThen .now⟩) (evalArgs_nil3 ⟨hq,?_⟩);refine KY (af0 hq hT (Yx entry_listiter_next (aa (Around.under_plainId (by decide +kernel) _) (Ml (id hL) λol B2=>?_))));show Dk _ _ (field (.ref a) 0 >>= _) _ _ ak;refine ag (Nb VJ Z (x:=.ref la) Z ?_);refine aa (if_neg (show ¬((Wt la==J3)=Wn) from Bool.false_ne_true)) ?_;refine ag (Nb VJ Z (x:=.int i 0) Z ?_);refine ag (A8 B2 Z ?_);obtain GV:=bO ha;cases hx:xs[i]? with
 | some y=>
   rw [hx] at tj;refine Va (bn.get hx) λw hw B3=>?_;obtain KQ:vs.toArray[i]?=AN w:=by simpa using hw
   simp only [Gf,KQ];refine ag (ox VJ Z (by simp) (aX ?_));generalize bi:({ak with heap:=ak.heap.update a (J1 (·.setIfInBounds 1 (A1 ((i:Int)+1))))}:Gb)=am;obtain g:am.heap.get? a=AN {cls:=.type "list_iterator",data:=.fields #[.ref la,.int ((i+1:Nat):Int) 0]}:=by refine az bi ?_;refine aa (lD _ VJ (WR (AX Z _))) ?_;rfl
   obtain KP:Nw a ak.heap am.heap:=by refine az bi ?_;exact AU ..
   obtain T:fC a ak am:=⟨λb q o e=>(KP.2 b q).trans e,(cj _ g),az bi Z,az bi Z⟩
   exact ⟨F₁,bs₁,y,_,.upd T (.inl GV),aC.upd T ha hk (by simp) (o':=.iq l (i+1)) (af la GT g),B3,tj⟩
 | none=>
   rw [hx] at tj;obtain KQ:vs.toArray[i]?=Wm:=by simpa using bn.get_none hx
   simp only [Gf,KQ];refine ag (XD (ag (ox VJ Z (by simp) ?_)));generalize bi:({ak with heap:=ak.heap.update a (J1 (·.setIfInBounds 0 J3))}:Gb)=am;obtain g:∃o,am.heap.get? a=AN o:=by exact az bi (cj _ (lD _ VJ (WR (AX Z _))))
   obtain KP:Nw a ak.heap am.heap:=by refine az bi ?_;exact AU ..
   obtain T:fC a ak am:=⟨λb q o e=>(KP.2 b q).trans e,g,az bi Z,az bi Z⟩
   obtain aI:=aC.upd T ha hk (by simp) (o':=.gone) trivial;obtain av:Step C.own F₁ bs₁ ak.heap F₁ bs₁ am.heap:=.upd T (.inl GV);refine ag (ag (yq (ag (m:=ti _ _) (NT (a:=J3) (by first | rfl | (simp only [ti];rfl)) ?_)) (by size_fits)));refine yq (ag (Zh (aa (show A.in1.handled=Wm from hA.handled.trans hh) (ag (aX (tv ?_)))))) (by size_fits);obtain x:∀ht,Zm am.heap ((am.heap.push {cls:=.type "tuple",data:=.seq ([]:iE).toArray}).push {cls:=.type "StopIteration",data:=.fields (#[ht,.none,.none,.none,.bool Wp,.none]++#[])}) (am.heap.push {cls:=.type "tuple",data:=.seq ([]:iE).toArray}).objs.size "StopIteration":=by intro ht;exact ⟨λb o e=>cC _ (cC _ e),gf (by refine aa (jP _ _) ?_;exact N6 _),_,ht,dB _ Z,Z,Z⟩
   obtain r:=aI.raised (s':={am with heap:=_}) (x (.ref am.heap.objs.size)) (Z) (by decide) Z Z Z;exact ⟨F₁,bs₁,"StopIteration",_,av.trans r.1,r.2.1,r.2.2.back av.mono,tj⟩
end
end Mine.Internal
namespace Mine.Internal
open PySem PyProof.Rows
structure lV (W:aJ)(F:G)(bs:aJ)(h:Xi)(F':G)(aK:aJ)(h':Xi):Prop where
 sub:∀b o,F b=AN o->F' b=AN o
 ext:∃nb,aK=bs++nb/\∀a∈nb,h.get? a=Wm
 mono:∀b o,h.get? b=AN o->∃o',h'.get? b=AN o'
 eP:∀b o,h.get? b=AN o->b∉W->b∉bs->o.cls≠.none->∃o',h'.get? b=AN o'/\jo o o'
 jS:∀b o,F' b=AN o->F b=Wm->h.get? b=Wm\/b∈bs\/b∈W
section
variable {W W' own:aJ}{F F₁ aP:G}{bs bs₁ aB:aJ}{h h₁ im:Xi}
theorem Step.toR (x:Step W F bs h F₁ bs₁ h₁):lV W F bs h F₁ bs₁ h₁:=⟨x.sub,x.ext,x.mono,x.eP,λb o e n=>(x.jS b o e n).imp id .inl⟩
theorem lV.wide (x:lV W F bs h F₁ bs₁ h₁)(hw:∀a∈W,a∈W'):lV W' F bs h F₁ bs₁ h₁ :=
 ⟨x.sub,x.ext,x.mono,λb o e n=>x.eP b o e λq=>n (hw b q),λb o e n=>(x.jS b o e n).imp id λq=>q.imp id (hw b)⟩
theorem lV.trans (x:lV W F bs h F₁ bs₁ h₁)(y:lV W F₁ bs₁ h₁ aP aB im):lV W F bs h aP aB im:=by
 refine Va x.ext λnb af2 hn=>?_;obtain rfl:=af2;refine Va y.ext λvR af3 ii=>?_;refine rE af3 ?_;have new:∀a,h₁.get? a=Wm->h.get? a=Wm:=λa ha=>by
  cases e:h.get? a with
  | none=>rfl
  | some o=>refine Ml (x.mono _ _ e) λo' e'=>?_;exact bM (aM (ar ha) e')
 have F3:∀b o,h.get? b=AN o->b∉bs->b∉bs++nb:=λb o e n m=>by
  (refine bz (cH m) (λm=>?_) (λm=>?_))
  . exact n m
  . exact bM (aM (ar (hn b m)) e)
 refine ⟨λb o e=>y.sub _ _ (x.sub _ _ e),(af (nb++vR) (by simp) (λa ha=>(cH ha).elim (hn a) λq=>new a (ii a q))),λb o e=>?_,λb o e n1 n2 n3=>?_,λb o e n=>?_⟩
 . refine Ml (x.mono _ _ e) λo' e'=>?_;exact y.mono _ _ e'
 . refine Va (x.eP b o e n1 n2 n3) λo' e' s1=>?_;refine Va (y.eP b o' e' n1 (F3 b o e n2) (by refine rE s1.cls ?_;exact n3)) λFV Cd s2=>?_;exact (af FV Cd (s1.trans s2))
 . cases e1:F₁ b with
   | some o1=>exact x.jS b o1 e1 n
   | none=>
     rcases y.jS b o e e1 with z | z | z
     . exact .inl (new b z)
     . (refine bz (cH z) (λz=>?_) (λz=>?_))
       . exact .inr (.inl z)
       . exact .inl (hn b z)
     . exact .inr (.inr z)
theorem Step.IF (x:Step own F bs h F₁ bs₁ h₁)(y:lV W F₁ bs₁ h₁ aP aB im)(hW:∀a∈W,h.get? a=Wm):Step own F bs h aP aB im:=by
 have z:=(x.toR.wide λa ha=>fz (.inl ha)).trans (y.wide λa ha=>fz (.inr ha));refine ⟨z.sub,z.ext,z.mono,λb o e n1 n2 n3=>z.eP b o e (λq=>(cH q).elim n1 λq=>by exact bM (aM (ar (hW b q)) e)) n2 n3,λb o e n=>?_⟩;refine Va x.ext λnb af4 hn=>?_;obtain rfl:=af4;have new:∀a,h₁.get? a=Wm->h.get? a=Wm:=λa ha=>by
  cases e:h.get? a with
  | none=>rfl
  | some o=>refine Ml (x.mono _ _ e) λo' e'=>?_;exact bM (aM (ar ha) e')
 cases e1:F₁ b with
 | some o1=>exact x.jS b o1 e1 n
 | none=>
   rcases y.jS b o e e1 with q | q | q
   . exact .inl (new b q)
   . (refine bz (cH q) (λq=>?_) (λq=>?_))
     . exact .inr q
     . exact .inl (hn b q)
   . exact .inl (hW b q)
end
inductive af5 (c:aZ)(C:Cx)(F:G)(bs:aJ)(h₀:Xi)(K:AV->aR->Prop)(f:Flow)(s':Gb):Prop
 | mk (F':G) (aK:aJ) (v:AV) (H':aR) (st:lV C.own F bs h₀ F' aK s'.heap) (wd:Wd c F' aK H' s') (hk:K v H') (e:f=.next/\v=.none\/∃r,f=.ret r/\c.V F' aK v r)
def GX (c:aZ)(C:Cx)(ss:fW)(S:AS)(K:AV->aR->Prop):Prop:=
 ∀A F bs s,lp C A->St c C F bs S s->Dk (model c.prog c.w) A (execs ss C.env) (af5 c C F bs s.heap K) (λJ J=>False) s
section
variable {s s':Gb}
abbrev af6 (c:aZ)(C:Cx)(Cq:fW)(K:AV->aR->Prop):gX:=λfl S=>match fl with | .next=>GX c C Cq S K | .ret v=>K v S.heap | _=>False
theorem j6 {st:Pc}{K:AV->aR->Prop}(h:lB c C st S (af6 c C Cq K) fy):GX c C (st::Cq) S K:=by
 intro A F bs s hA z;refine ag (aS (h A F bs s hA z) (λf ak KR=>KR.casesOn λF₁ bs₁ fl ai an aC hf tj=>?_) λJ J af7=>af7.casesOn λJ J J J J J J q=>q.elim);cases fl with
 | next =>clear KR;subst hf;exact aS (tj A F₁ bs₁ ak hA aC) (λf am af8=>af8.casesOn λaP aB v H av Ks k e=>⟨aP,aB,v,H,an.toR.trans av,Ks,k,e⟩) λJ J q=>q
 | brk=>exact tj.elim
 | cont=>exact tj.elim
 | ret v=>clear KR;refine Va hf λr af9 hr=>?_;clear hf;obtain rfl:=af9;exact aX ⟨F₁,bs₁,v,ai.heap,an.toR,aC.wd,tj,.inr (af r Z hr)⟩
set_option tactic.hygienic true in
theorem aga (i:Nat){K:AV->aR->Prop}(hi:C.vars[i]?=AN x)(hv:S.loc.lookup i=AN v)(hk:C.env.kindOf x=AN .cell)(h:∀ds,(∀a∈ds,a∈C.own)->(∀a,C.env.cells.lookup x=AN a->a∉ds)->(∀y,y≠x->bI C (λ_=>Wm) y->bI {C with own:=ds} (λ_=>Wm) y)->GX c {C with own:=ds} ss S K):GX c C ss S K:=by
 intro A F bs s hA z;refine Va z.locs λm hN hl=>?_;obtain ⟨a,ob,r,ha,io,hd,hr⟩:=(hl i v hv).cellAt hi (.inl hk);obtain ⟨FY,Mb,CS,zN,fq,_⟩:=z.cells x a ha;obtain rfl:=bf (aM (ar io) zN);generalize DX:C.own.filter (λb=>b != a)=ds;have kL:∀b∈ds,b∈C.own:=λb hb=>by rw [<-DX] at hb;exact (rt.mp hb).1
 have eQ:∀b∈ds,b≠a:=λb hb=>by rw [<-DX] at hb;obtain this:=(rt.mp hb).2;simpa using this
 have zR:∀b∈C.own,b≠a->b∈ds:=λb hb n=>by refine DX▸?_;exact rt.mpr ⟨hb,by simpa using n⟩
 obtain h':=h ds kL (λb e q=>eQ b q (by lia)) λy hy hs=>by
  (refine bz hs (λq=>?_) (λagb=>?_);rotate_left;obtain ⟨q,b,e,hb⟩:=agb;rotate_right)
  . exact .inl q
  . exact .inr (qZ q b e (zR b hb λe'=>hy (z.apart y x a (e'▸e) ha)))
 by_cases hF:F a=Wm
 . have z':St c {C with own:=ds} (plus F a ob) bs S s:=by
    have w:=z.wd;refine ⟨⟨λb o e=>?_,λb o e q=>aY hF _ _ (w.base b o e q),w.old.plus hF (w.old.yd io (by refine rE fq ?_;simp)),w.len,w.nodup,λk b o e1 e2=>⟨by simpa using gg.mono (nb:=[]) (aY (ob:=ob) hF) (w.obj k b o e1 e2).1,λq=>?_⟩,w.there,w.os,w.gens,λb hb o e=>?_⟩,
     (af m hN (λy u e=>(by obtain q:=jz.mono (aY hF) (hl y u e);rw [Kg] at q;exact q))),z.ir,zR _ z.cU (Gy Mb),λb hb=>?_,z.cells,z.apart,λe he=>⟨(z.frames e he).1,λL hL=>⟨?_,((z.frames e he).2 L hL).2⟩⟩,z.glob,z.blt,z.kind,z.qg,λhf y b e=>?_⟩
    . unfold plus at e
      split at e
      . rename_i q;cases q;cases e;exact io
      . exact w.sub _ _ e
    . delta plus;refine aa (if_neg (λ(e:b=a)=>FY (e▸bO e1))) ?_;exact (w.obj k b o e1 e2).2 q
    . unfold plus at e
      split at e
      . rename_i q;exact absurd (q▸hb) FY
      . exact w.kept b hb o e
    . obtain h3:=z.own b (kL b hb);refine ⟨?_,h3.2⟩;delta plus;refine aa (if_neg (eQ b hb)) ?_;exact h3.1
    . delta plus;rw [if_neg]
      . exact ((z.frames e he).2 L hL).1
      . intro q;obtain ⟨_,L',o,e1,e2,e3,_⟩:=(z.frames e he).1;obtain rfl:=bf (aM (ar hL) e1);rw [q,io] at e2;cases e2;rw [fq] at e3;simp at e3
    . by_cases q:b=a
      . clear e;cases q;exact .inr (d8 ob r bU hd)
      . (refine bz (z.iu hf y b e) (λw=>?_) (λagc=>?_);rotate_left;refine FL agc λo u w1 w2=>?_;rotate_right)
        . exact .inl (zR b w q)
        . exact .inr (d8 o u (aY hF _ _ w1) w2)
   obtain st:lV C.own F bs s.heap (plus F a ob) bs s.heap\/a∉C.own:=by
    by_cases q:a∈C.own
    . refine .inl ⟨aY hF,(af [] (by simp) (by simp)),λb o e=>(cj o e),λb o e _ _ _=>(af o e (.refl o)),λb o e n=>?_⟩;unfold plus at e
      split at e
      . rename_i w;clear n;cases w;exact .inr (.inr q)
      . exact lj (aM (ar e) n)
    . exact .inr q
   (refine bz st (λst=>?_) (λq=>?_))
   . exact aS (h' A _ bs s ⟨hA.handled,hA.depth,hA.units,hA.frames⟩ z') (λf s' agd=>agd.casesOn λF' aK v H' qy w k e=>⟨F',aK,v,H',st.trans (qy.wide kL),w,k,e⟩) λ_ _ q=>q
   . obtain C2:St c {C with own:=ds} F bs S s:=by
      refine ⟨z.wd,z.locs,z.ir,zR _ z.cU (Gy Mb),λb hb=>z.own b (kL b hb),z.cells,z.apart,z.frames,z.glob,z.blt,z.kind,z.qg,λhf y b e=>?_⟩
      (refine bz (z.iu hf y b e) (λw=>?_) (λw=>?_))
      . exact .inl (zR b w λe=>q (e▸w))
      . exact .inr w
     exact aS (h' A _ bs s ⟨hA.handled,hA.depth,hA.units,hA.frames⟩ C2) (λf s' age=>age.casesOn λF' aK v H' qy w k e=>⟨F',aK,v,H',qy.wide kL,w,k,e⟩) λ_ _ q=>q
 . have q:a∉C.own:=λq=>hF (z.own a q).1;have C2:St c {C with own:=ds} F bs S s:=by
    refine ⟨z.wd,z.locs,z.ir,zR _ z.cU (Gy Mb),λb hb=>z.own b (kL b hb),z.cells,z.apart,z.frames,z.glob,z.blt,z.kind,z.qg,λhf y b e=>?_⟩
    (refine bz (z.iu hf y b e) (λw=>?_) (λw=>?_))
    . exact .inl (zR b w λe=>q (e▸w))
    . exact .inr w
   exact aS (h' A _ bs s ⟨hA.handled,hA.depth,hA.units,hA.frames⟩ C2) (λf s' agf=>agf.casesOn λF' aK v H' qy w k e=>⟨F',aK,v,H',qy.wide kL,w,k,e⟩) λ_ _ q=>q
end
end Mine.Internal
namespace Mine.Internal
open PySem PyProof.Rows PySem.W
theorem agg {code:Ws}
 (h:Dk M A (forIn binds hC λp J=>(do Bd (Zj scope s.heap.objs.size globals (Gs (s.heap.objs.size+1) scope.names cl) qual func code Wm builtins) p.1 p.2;pure (.yield hC)))
  (λJ s'=>Q (Zj scope s.heap.objs.size globals (Gs (s.heap.objs.size+1) scope.names cl) qual func code Wm builtins) s') E {s with heap:=YO (s.heap.push {cls:=.type "frame",data:=.dict #[]}) scope.names}) :
 Dk M A (D7 scope globals cl binds qual func code Wm builtins) Q E s:=by
 refine ag (alU ?_);refine ag (aj8 _ (λname kind cells=>by cases ML:kind==Yj <;> simp [ML]) _ _ _ _ ?_);exact rE (show ({s with heap:=s.heap.push {cls:=.type "frame",data:=.dict #[]}}:Gb).heap.objs.size=s.heap.objs.size+1 from jP ..) (ag (aS h (λJ J q=>aX q) λJ J e=>e))
noncomputable def g9:Nat->gh->d7
 | _,[]=>[]
 | n,(_,v)::r=>(n,v)::g9 (n+1) r
theorem agh (l:gh)(n j:Nat)(v:AV)(h:(g9 n l).lookup j=AN v):∃x,n<=j/\l[j-n]?=AN (x,v):=by
 induction l generalizing n with
 | nil=>exact bM h
 | cons p r ih=>
   dsimp only [g9] at h;rw [Xm] at h;cases q:j==n with
   | true=>
     rw [q] at h;clear ih;refine (bf h)▸?_;clear h;exact (eq_of_beq q)▸(af p.1 (bP _) (by refine aa (Hd _) ?_;rfl))
   | false=>
     rw [q] at h;exact Va (ih (n+1) h) λx' h1 h2=>(af x' (aiY h1) (aa (show j-n=(j-(n+1))+1 by exact vX h1) h2))
theorem bE.mem {c:aZ}(h:c.SV F bs xs rs)(x:Str)(v:AV)(m:(x,v)∈xs):∃r,(x,r)∈rs/\c.V F bs v r:=by
 induction xs generalizing rs with
 | nil=>exact nomatch m
 | cons p l ih=>
   refine dr h.inv λJ J IG h t=>?_;refine rE IG ?_;rcases eO m with e | m
   . clear m;clear IG;subst e;exact (af _ (.head _) h)
   . refine Va (ih t m) λr h1 h2=>?_;exact (af r (.tail _ h1) h2)
structure tY (C:Cx)(sc:YB)(code:Ws)(qual:Str)(n:Nat)(vars:bD):Prop where
 scope:C.env.scope=sc
 vars:C.vars=vars
 handled:C.handled=Wm
 n:C.n=n
 top:gC C
 cell:∀x,sc.names.lookup x=AN .cell->bI C (λJ=>Wm) x
 code:C.env.code=code
 qual:C.env.qual=qual
 func:C.env.func≠Wm
section
variable {s s':Gb}
noncomputable def iV (scope:YB)(names caps vars:bD):Bool:=
 scope.kind==.function&&!scope.isCoroutine&&!scope.isGenerator&&decide vars.Nodup&&(names++caps).isPrefixOf vars&&names.all (λp=>scope.names.lookup p==AN .local||scope.names.lookup p==AN .cell) &&
 caps.all (λx=>scope.names.lookup x==AN .free&&scope.names.all (λp=>!(p.1==x&&p.2==.cell)))
theorem agi {code:Ws}(n:Nat)(vars:bD)
 (fE:iV scope (binds.map (·.1)) (caps.map (·.1)) vars=Wn) (wd:Wd c F bs H s) (fq:yc F cl crs) (Of:c.SV F bs caps crs) (rp:c.SV F bs binds rb)
 (oi:∀e∈fr,ib s.heap e/\∀L,e.frame=AN L->F L=Wm/\L∉bs) (E:pF) :
 Dk (model c.prog c.w) A (D7 scope te cl rb qual (AN fa) code Wm Xe) (λenv aO=>∃own bv aT,let C:Cx:=⟨env,own,env::fr,Wm,n,vars⟩
  tY C scope code qual n vars/\St c C bv aT ⟨dC 0 binds (g9 binds.length caps),H⟩ aO/\Step own F bs s.heap bv aT aO.heap/\(∀b∈own,s.heap.get? b=Wm)) E s:=by
 simp only [iV,fA,Xs,beq_iff_eq,decide_eq_true_eq,Xy,K2,ajV,beq_eq_false_iff_ne] at fE;refine XZ fE λOg k7=>?_;refine XZ Og λOh k6=>?_;clear Og;refine XZ Oh λGZ k5=>?_;clear Oh;refine XZ GZ λKS k4=>?_;clear GZ;obtain ⟨⟨k1,k2⟩,k3⟩:=KS;refine Ml (agM.mp k5) λCq zE=>agg ?_;generalize bi:({s with heap:=YO (s.heap.push {cls:=.type "frame",data:=.dict #[]}) scope.names}:Gb)=am;generalize hE:Zj scope s.heap.objs.size te (Gs (s.heap.objs.size+1) scope.names cl) qual (AN fa) code Wm Xe=env;have BY:env.scope=scope:=by refine hE▸?_;rfl
 obtain hL:env.locals=s.heap.objs.size:=by refine hE▸?_;rfl
 obtain Kb:env.cells=Gs (s.heap.objs.size+1) scope.names cl:=by refine hE▸?_;rfl
 have Oi:env.frame=AN s.heap.objs.size:=by refine az hE ?_;rfl
 generalize how:s.heap.objs.size::(Gs (s.heap.objs.size+1) scope.names []).map (·.2)=own;obtain n0:=St.gZ s;obtain agj:F s.heap.objs.size=Wm:=by
  cases q:F s.heap.objs.size with
  | none=>rfl
  | some o'=>exact lj (aM (ar (wd.sub _ _ q)) n0)
 obtain agk:s.heap.objs.size∉bs:=λm=>by refine Ml (wd.there _ m) λo' e'=>?_;exact bM (aM (ar n0) e')
 have keep:∀b o,s.heap.get? b=AN o->am.heap.get? b=AN o:=λb o e=>by refine bi▸?_;exact Oc _ _ _ _ (cC _ e)
 obtain sw:am.heap.get? s.heap.objs.size=AN {cls:=.type "frame",data:=.dict #[]}:=by
  exact bi▸(Oc _ _ _ _ (dB _ Z))
 have J:=St.opens wd ⟨λx a e=>?_,fq.apart⟩ "frame" (by decide) scope.names env own (env::fr) Wm n vars (g9 binds.length caps) bi.symm hL Kb how.symm (by refine hE▸?_;rfl) (by refine az hE ?_;rfl) (by refine aa BY ?_;exact k1) k4 (λe he=>?_) (λi v e=>?_)
  (.inr λx a e=>dr (fq.all x a e) λoc v e1 J e3=>(d8 oc v e1 e3))
 . refine RR J λz mv lv=>?_;have be:∀x,scope.names.lookup x=AN .cell->bI ⟨env,own,env::fr,Wm,n,vars⟩ (λJ=>Wm) x:=λx e=>by
    obtain dz:=ahv _ _ _ (.inl e);refine Ml (Yk.mp dz) λa ha=>.inr (qZ (by unfold A9;refine aa BY ?_;exact e) a ?_ ?_)
    . skip
      refine aa Kb ?_
      rewrite [dX]
      refine aa GU (aa ha ?_);rfl
    . exact how▸(.tail _ (fV (af (x,a) (Xd ha) Z)))
   obtain Me:=wj (c:=c) (C:=⟨env,own,env::fr,Wm,n,vars⟩) (A:=A) (X:=fy) (λp J=>(do Bd env p.1 p.2;pure (.yield hC))) (λJ J J=>Z) binds 0 rb F bs ⟨g9 binds.length caps,H⟩ am (λJ S'=>S'=⟨dC 0 binds (g9 binds.length caps),H⟩) z rp
    (λj p e=>by
     refine aa (OT _) ?_;obtain hj:j<binds.length:=(bA e).1;refine zE▸(aa (fb (by simp;exact cV hj (cA _ _))) (aa (fb (by simpa using hj)) (aa bV (aa e ?_))))
     rfl)
    (λx v m=>(k6 x (fV (af (x,v) m Z))).elim (λe=>.inl (by unfold A9;refine aa BY ?_;exact e)) (be x)) Z
   exact aS Me (λJ aO agl=>agl.casesOn λbv aT J bd aL a8 J pr=>pr▸(ip own bv aT ⟨BY,Z,Z,Z,(cj fr Z),be,by show env.code=_;refine az hE ?_;rfl,by show env.qual=_;refine az hE ?_;rfl,by show env.func≠_;refine az hE ?_;simp [Zj]⟩ a8 ((Step.keep mv).trans aL) lv)) (λJ J agm=>agm.casesOn λJ J J J J J J q=>q.elim)
 . refine dr (fq.all x a e) λoc v e1 e2 e3=>⟨(λq=>wd.kept a q oc e1 e2),oc,(wd.sub _ _ e1),e2,_,e3⟩
 . rcases eO he with e' | he
   . refine rE e' ⟨⟨by refine (ar BY)▸(ar k1)▸?_;simp,s.heap.objs.size,_,Oi,sw,Z,λvs q=>by cases q⟩,λL' q=>?_⟩;exact (bf (aM (ar Oi) q))▸⟨agj,agk⟩
   . refine XZ (oi e he) λf1 f2=>?_;exact ⟨f1.keep λb o e J=>(af o (keep _ _ e) (.refl o)),f2⟩
 . refine Va (agh caps binds.length i v e) λx h1 h2=>?_;have hm:=bO h2;refine XZ (k7 x (fV (af _ hm Z))) λq1 q2=>Va (bE.mem Of x v hm) λr m1 hr=>dr (fq.has x r m1) λa oc w1 w2 w3=>⟨x,?_,(.inr (by delta A9;refine aa BY ?_;exact q1)),(λk hk e=>q2 (x,k) hk Z e),a,oc,r,w1,(wd.sub _ _ w2),w3,hr⟩
   obtain dc:=(bA h2).1;refine az zE (aa (fb (by simp;exact (dg (Nat.sub_le_iff_le_add'.mp (bP (_-_))) (iB dc _)))) (aa (ij (by simpa using h1)) (aa bV (aa (qY _) (aa h2 ?_)))));rfl
def m5 (c:aZ)(n:Nat)(fv:AV)(args:bZ)(H:aR)(K:AV->aR->Prop):Prop:=
 ∀A F bs s r rs fr,A.handled=Wm->A.depth+n<Be->A.units+20*n<O7->A.frames=AN fr->(∀e∈fr,ib s.heap e/\∀L,e.frame=AN L->F L=Wm/\L∉bs)->
  Wd c F bs H s->c.V F bs fv r->c.Vs F bs args rs->
  G4 (model c.prog c.w) A (.call r ⟨rs,[]⟩) (JN c F bs s.heap K) s
theorem DY (B:Base c mg mb){K:AV->aR->Prop}(vars:bD)(hh:A.handled=Wm)(hd:A.depth+(n+1)<Be)(hu:A.units+20*(n+1)<O7)(mT:A.frames=AN fr)(oi:∀e∈fr,ib s.heap e/\∀L,e.frame=AN L->F L=Wm/\L∉bs)(hf:s.heap.get? fa=AN o)(zG:o.data=.func fd)(jT:s.heap.CodeRec fd.code fd.qualname)(zH:fd.globals=te)(F7:fd.builtins=Xe)(wd:Wd c F bs H s)(hv:c.Vs F bs args rs)(fq:yc F fd.closure crs)(Of:c.SV F bs caps crs)(hb:n9 c fd args binds)(fE:iV fd.scope (binds.map (·.1)) (caps.map (·.1)) vars=Wn)(h:(∃body,fd.body=.stmts body/\∀C,tY C fd.scope fd.code (fd.qualname++".<locals>.") n vars->GX c C body ⟨dC 0 binds (g9 binds.length caps),H⟩ K)\/(∃body,fd.body=.expr body/\∀C,tY C fd.scope fd.code (fd.qualname++".<locals>.") n vars->Ev c C body ⟨dC 0 binds (g9 binds.length caps),H⟩ (λv S'=>K v S'.heap) fy)): G4 (model c.prog c.w) A (.call (.ref fa) ⟨rs,[]⟩) (JN c F bs s.heap K) s:=by
 have U3:fd.scope.isCoroutine=Wp:=by simp only [iV,fA,Xs] at fE;exact fE.1.1.1.1.1.2
 have F8:fd.scope.isGenerator=Wp:=by simp only [iV,fA,Xs] at fE;exact fE.1.1.1.1.2
 obtain op:∀(E:pF) (Q:Env->nj),(∀own bv aT env aO,tY ⟨env,own,env::fr,Wm,n,vars⟩ fd.scope fd.code (fd.qualname++".<locals>.") n vars->St c ⟨env,own,env::fr,Wm,n,vars⟩ bv aT ⟨dC 0 binds (g9 binds.length caps),H⟩ aO->Step own F bs s.heap bv aT aO.heap->(∀b∈own,s.heap.get? b=Wm)->Q env aO)->
  Dk (model c.prog c.w) A.in1 (OY fd ⟨rs,[]⟩) (λrb ak=>Dk (model c.prog c.w) A.in1 (D7 fd.scope fd.globals fd.closure rb (fd.qualname++".<locals>.") (AN fa) fd.code Wm fd.builtins) Q E ak) E s:=λE Q q=>by
  refine hb _ F bs H s rs _ _ wd hv λF₁ ak rb an wf rp=>(ar zH)▸(ar F7)▸?_;obtain agn:c.SV F₁ bs caps crs:=by obtain this:=bE.mono (nb:=[]) an.sub Of;rwa [Kg] at this
  refine aS (agi (c:=c) (A:=A.in1) (fr:=fr) n vars fE wf (fq.mono an.sub) agn rp (λe he=>?_) E) (λenv aO ago=>Cv ago λown bv aT yE z st hn=>?_) λJ J e=>e
  . refine XZ (oi e he) λagp f2=>?_;obtain ⟨k1,L',o',e1,e2,e3,e4⟩:=agp;refine XZ (f2 L' e1) λq1 q2=>Va (an.eP L' o' e2 (by simp) q2 (by refine aa e3 ?_;simp)) λCS e5 s5=>?_;refine ⟨⟨k1,L',CS,e1,e5,s5.cls.trans e3,λvs=>by refine rE s5.data ?_;exact e4 vs⟩,λL'' q=>?_⟩;refine (bf (aM (ar e1) q))▸⟨?_,q2⟩
    cases q3:F₁ L' with
    | none=>rfl
    | some CT=>(refine bz (an.jS L' CT q3 q1) (λy=>?_) (λy=>?_))
               . exact bM (aM (ar y) e2)
               . exact absurd y q2
  . exact q own bv aT env aO yE z ((an.widen (by simp)).trans st) λb mZ=>by
     cases q:s.heap.get? b with
     | none=>rfl
     | some o'=>refine Ml (an.mono _ _ q) λFV Cd=>?_;exact bM (aM (ar (hn b mZ)) Cd)
 (refine bz h (λagq=>?_) (λagr=>?_);refine Va agq λbody v6 h=>?_;rotate_left;refine Va agr λbody v6 h=>?_;rotate_right)
 . refine ajT (uE hd) hf zG U3 F8 v6 jT (op _ _ λown bv aT env aO yE z st hn=>⟨z.wd.CM B,codeAny_func (aS (h _ yE (A.deeper env) bv aT aO ⟨hh,by show A.depth+1+n < _;exact qO hd,by show A.units+3+20*n < _;exact uG hu,by show A.frames.map _=_;refine aa mT ?_;rfl⟩ z) (λf cK Oj=>Oj.casesOn λek ca v H' ce Ok k e=>?_) (λJ J q=>q.elim))⟩);clear Oj;rcases e with ⟨rfl,rfl⟩ | ⟨r,rfl,hr⟩
   . exact ⟨ek,ca,.none,H',_,own,Z,hn,st.IF ce hn,Ok,.none,k⟩
   . exact ⟨ek,ca,v,H',_,own,Z,hn,st.IF ce hn,Ok,hr,k⟩
 . refine kla_callFunE (uE hd) hf zG U3 F8 v6 jT (op _ _ λown bv aT env aO yE z st hn=>⟨z.wd.CM B,kla_codeExpr (aS (h _ yE (A.deeper env) bv aT aO ⟨hh,by show A.depth+1+n < _;exact qO hd,by show A.units+3+20*n < _;exact uG hu,by show A.frames.map _=_;refine aa mT ?_;rfl⟩ z) (λr cK ags=>ags.casesOn λek ca v dd ce de hr k=>?_) (λJ J agt=>agt.casesOn λJ J J J J J J q=>q.elim))⟩);exact ⟨ek,ca,v,dd.heap,_,own,Z,hn,st.trans ce,de.wd,hr,k⟩
end
structure TabAt (c:aZ)(cc P:Wr)(q:Pos->Str):Prop where
 code:CodeHd c.h₀ cc P
 tab:c.tab P=AN q
 AK:∃ps,c.h₀.get? P=AN (O6 ps)
 line:∀p p':Pos,p.line=p'.line->p.col=p'.col->q p=q p'
def rT (c:aZ)(mg:eI):Prop:=
 ∃bm ob,mg "__builtins__"=AN (.ref bm)/\bm≠Xe/\c.h₀.get? bm=AN ob/\ob.cls=.type "module"/\ob.dict=AN Xe/\ob.data=.plain
set_option tactic.hygienic true in
theorem agu (l:iE)(h:O5 l)(hv:Ha pos (l++[A1 a,A1 b,x])=AN v):Ha pos l=AN v\/((a==pos.line&&b==pos.col)=Wn/\v=x):=by
 fun_induction O5 l with
 | case1=>
   right;dsimp only [w7,Ha,A1] at hv
   split at hv
   . rename_i q;exact rE (bf hv) ⟨q,Z⟩
   . exact bM hv
 | case2 a' t b' u y Cq ih=>
   dsimp only [List.cons_append,Ha] at hv ⊢
   split at hv
   . rename_i q;left;exact aa (if_pos q) hv
   . rename_i q;exact aa (if_neg q) (ih h hv)
 | case3 l h1 h2=>exact h.elim
section
variable {s s':Gb}
theorem Base.yF (B:Base c mg mb)(t:TabAt c cc P q):te≠P/\P≠El:=by
 refine Ml t.AK λps e=>⟨λw=>?_,λw=>?_⟩
 . refine FN B.g λo es ep ho hd J=>?_;rw [w,e] at ho;cases ho;cases hd
 . refine Va B.lim λmc uQ J=>?_;refine FN uQ λo es ep ho hd J=>?_;clear uQ;rw [w] at e;obtain rfl:=bf (aM (ar e) ho);cases hd
theorem St.DZ (z:St c C F bs S s)(h:CodeHd c.h₀ cc P):CodeHd s.heap cc P:=by refine Wg h λo vs We tf JJ tg Yz rG=>?_;clear h;refine dr rG λtext tt e1 e2 r=>?_;clear rG;exact ⟨o,vs,We,tf,JJ,tg,Yz,text,tt,(z.AK (af o e1 (by refine aa e2 ?_;simp)) _ e1),e2,r⟩
theorem St.Ol (z:St c C F bs S s)(B:Base c mg mb)(hb:rT c mg)(t:TabAt c cc P q):s.heap.BuiltinsAt mg P:=by
 refine MK hb λbm ob b1 b2 b3 b4 b5 b6=>⟨bm,ob,b1,b2,(λw=>?_),(λw=>?_),(z.AK (af ob b3 (by refine rE b4 ?_;simp)) _ b3),b4,b5,b6⟩
 . refine FN B.g λo es ep e hd J=>?_;rw [w,e] at b3;clear e;cases b3;rw [hd] at b6;cases b6
 . refine Ml t.AK λps e=>?_;rw [w,e] at b3;clear b6 b5;cases b3;cases b4
set_option tactic.hygienic true in
theorem St.KU (B:Base c mg mb)(z:St c C F bs S s)(t:TabAt c cc P q)(hP:s.heap.get? P=AN (O6 ps))(hx:Bi P s.heap s'.heap)(ha:s.heap.get? a=Wm)(hoc:s'.heap.get? a=AN oc)(hd:oc.data=.fields vs)(hv:vs[1]?=AN (.str (q pos) tk))(u6:s'.heap.get? P=AN (O6 (ps++#[A1 pos.line,A1 pos.col,.ref a])))(Kw:s'.os=s.os)(hg:s'.gens=s.gens):St c C (plus F a oc) bs S s'/\Step C.own F bs s.heap (plus F a oc) bs s'.heap:=by
 have w:=z.wd;obtain ⟨hFP,⟨o0,h0⟩,ps',hP',Om,D0⟩:=w.old.tabs P q t.tab;have keep:∀b o,s.heap.get? b=AN o->o.cls≠.none->s'.heap.get? b=AN o:=λb o e n=>hx b o ((λb o e n w=>by lia) b o e n) e;have V7:∀b o,s.heap.get? b=AN o->∃o',s'.heap.get? b=AN o':=λb o e=>by
  by_cases q:b=P
  . exact aa q (cj _ u6)
  . exact (cj o (hx b o q e))
 have new:∀b,(∃o,s.heap.get? b=AN o)->b≠a:=λb agv=>Ml agv λo e q=>by lia
 have rU:∀b o,F b=AN o->plus F a oc b=AN o:=aY (z.kF ha);refine Ml t.AK λps0 e0=>?_;have C':=z.DZ t.code;have C'':CodeHd s'.heap cc P:=by refine Wg C' λo vs We tf JJ tg Yz pt=>?_;clear C';refine dr pt λtext tt e1 e2 r=>?_;clear pt;exact ⟨o,vs,We,tf,JJ,tg,Yz,text,tt,(keep _ _ e1 (by refine aa e2 ?_;simp)),e2,r⟩
 have old:iO c (plus F a oc) s'.heap:=by
  refine ⟨OldK.step_table w.old.toOldK (t.code.tab e0) (C'.tab hP) (C''.tab u6) hx (B.yF t).2,λG0 agw e=>?_⟩;obtain ⟨g1,g2,agx,g3,g4,g5⟩:=w.old.tabs G0 agw e;obtain hF2:plus F a oc G0=Wm:=by
   unfold plus;rw [if_neg]
   . exact g1
   . exact new G0 (cj _ g3)
  by_cases hp:G0=P
  . subst hp;obtain rfl:=bf (aM (ar t.tab) e);rw [hP] at g3;cases g3;refine (mA hF2 g2 _ u6 (by refine aa akz ?_;exact TriplesOk_snoc _ _ _ _ g4) (λCD v m0=>?_));rw [akz] at m0
    (refine bz (agu _ g4 m0) (λq=>?_) (λwF=>?_);rotate_left;refine XZ wF λq wE=>?_;clear wF;refine rE wE ?_;rotate_right)
    . exact VO (g5 CD v q) λb o us t' e1 e2 e3=>⟨b,o,us,t',e1,(rU _ _ e2),e3⟩
    . simp only [fA,beq_iff_eq] at q;exact (jR a oc vs tk Z bU hd (aa hv (aa (t.line pos CD (by exact_mod_cast q.1) (by exact_mod_cast q.2)) Z)))
  . exact (mA hF2 g2 agx (hx _ _ hp g3) g4 (λCD v m0=>VO (g5 CD v m0) λb o us t' e1 e2 e3=>⟨b,o,us,t',e1,(rU _ _ e2),e3⟩))
 refine Va z.locs λm hN hl=>Va z.ir λoL eL nL=>?_;refine ⟨⟨⟨λb o e=>?_,λb o e q=>rU _ _ (w.base b o e q),old,w.len,w.nodup,λk b o e1 e2=>⟨?_,λq=>?_⟩,λb hb=>(Ml (w.there b hb) λo e=>V7 b o e),Kw.trans w.os,hg.trans w.gens,λb hb o e=>?_⟩,
  (af m ?_ (λy v e=>?_)),(af oL (keep _ _ eL nL) nL),z.cU,λb hb=>?_,λy b e=>?_,z.apart,λe he=>⟨?_,λL hL=>?_⟩,z.glob,z.blt,z.kind,z.qg,z.iu.mono rU⟩,
  ⟨rU,(af [] (by simp) (by simp)),V7,λb o e _ _ n=>(af o (keep _ _ e n) (.refl o)),λb o e n=>?_⟩⟩
 . unfold plus at e
   split at e
   . rename_i q;cases q;cases e;exact hoc
   . exact hx b o (λq=>by lia) (w.sub _ _ e)
 . by_cases q:o=.gone
   . refine rE q ?_;trivial
   . refine XZ (w.obj k b o e1 e2) λhr _=>N1 (hr.cls q) λob g1 g2 _=>?_;obtain JE:=hr.at (h':=s'.heap) λJC e'=>by refine (bf (aM (ar g1) e'))▸?_;exact keep _ _ g1 g2
     simpa using gg.mono (nb:=[]) rU JE
 . delta plus;exact aa (if_neg (new b (w.there b (bO e1)))) ((w.obj k b o e1 e2).2 q)
 . unfold plus at e
   split at e
   . rename_i q;exact absurd q (new b (w.there b hb))
   . exact w.kept b hb o e
 . refine VN hN λo es ep ho r=>?_;obtain rfl:=bf (aM (ar eL) ho);exact (lF oL es ep (keep _ _ eL nL) r)
 . obtain q:=jz.mono (nb:=[]) rU ((hl y v e).heap (h':=s'.heap) λx b o e1 e2=>by
    obtain ⟨_,_,o',h3,h4,_⟩:=z.cells x b e1;obtain rfl:=bf (aM (ar e2) h3);exact (af o (keep _ _ e2 (by refine aa h4 ?_;simp)) Z))
   rw [Kg] at q;exact q
 . obtain ⟨h1,h2,o,h3⟩:=z.own b hb;refine (aV ?_ h2 (V7 b o h3));delta plus;exact aa (if_neg (new b (cj o h3))) h1
 . obtain ⟨h1,h2,o,h3,h4,h5⟩:=z.cells y b e;exact (aV h1 h2 ⟨o,keep _ _ h3 (by refine aa h4 ?_;simp),h4,h5⟩)
 . exact (z.frames e he).1.keep λb o e' hc=>(af o (keep _ _ e' (by refine aa hc ?_;simp)) (.refl o))
 . refine XZ (z.frames e he) λf1 f2=>?_;obtain ⟨_,L',o,e1,e2,_⟩:=f1;obtain rfl:=bf (aM (ar hL) e1);refine ⟨?_,(f2 L hL).2⟩;delta plus;exact aa (if_neg (new L (cj o e2))) ((f2 L hL).1)
 . unfold plus at e
   split at e
   . rename_i q;clear n;cases q;exact .inl ha
   . exact lj (aM (ar e) n)
end
noncomputable def mJ (C:Cx)(S:AS):List (Nat×Str×AV)->Prop
 | []=>True
 | (i,x,v)::r=>C.vars[i]?=AN x/\S.loc.lookup i=AN v/\(∀a,C.env.cells.lookup x=AN a->a∉C.own)/\(C.env.kindOf x=AN .cell\/C.env.kindOf x=AN .free)/\mJ C S r
theorem mJ.mem (h:mJ C S l)(p:Nat×Str×AV)(m:p∈l):C.vars[p.1]?=AN p.2.1/\S.loc.lookup p.1=AN p.2.2/\(∀a,C.env.cells.lookup p.2.1=AN a->a∉C.own)/\(C.env.kindOf p.2.1=AN .cell\/C.env.kindOf p.2.1=AN .free):=by
 induction l with
 | nil=>exact nomatch m
 | cons q r ih=>
   rcases eO m with rfl | m
   . exact (jr h.1 h.2.1 h.2.2.1 h.2.2.2.1)
   . exact ih h.2.2.2.2 m
noncomputable def VI (scope:YB)(xs:bD):Bool:=xs.all (λx=>scope.names.lookup x==AN .free)&&scope.names.all (λp=>!(p.2==.free)||xs.contains p.1)
section
variable {s s':Gb}
theorem St.sealed (z:St c C F bs S s)(hf:C.env.func≠Wm)(h:mJ C S fs)(fE:VI scope (fs.map (·.2.1))=Wn): vm scope C.env=pure (kJ C scope)/\∃crs,yc F (kJ C scope) crs/\c.SV F bs (fs.map (·.2)) crs:=by
 simp only [VI,fA,Xy,beq_iff_eq,K2,Xs,beq_eq_false_iff_ne,Na] at fE;refine XZ fE λk1 k2=>Va z.locs λm hN hl=>?_;have one:∀p∈fs,∃a o r,C.env.cells.lookup p.2.1=AN a/\F a=AN o/\o.cls=.type "cell"/\o.data=.cell (AN r)/\c.V F bs p.2.2 r:=λp hp=>by
  refine CC (h.mem p hp) λh1 h2 h3 h4=>?_;obtain ⟨a,o,r,w1,w2,w3,w4⟩:=(hl _ _ h2).cellAt h1 h4
  (refine bz (z.iu hf _ _ w1) (λq=>?_) (λagy=>?_);rotate_left;refine FL agy λo' r' q1 q2=>?_;rotate_right)
  . exact absurd q (h3 a w1)
  . obtain this:=z.wd.sub _ _ q1;clear q2;obtain rfl:=bf (aM (ar w2) this);obtain ⟨_,_,o2,e2,e3,_⟩:=z.cells _ _ w1;obtain rfl:=bf (aM (ar w2) e2);exact (jQ a o r w1 q1 e3 w3 w4)
 have Mj:∀x,x∈fs.map (·.2.1)->C.env.cells.lookup x=AN ((C.env.cells.lookup x).getD 0):=λx hx=>by refine Va (gM hx) λp hp agz=>?_;clear hx;obtain rfl:=agz;refine VN (one p hp) λa o r e J=>rE e ?_;rfl
 have IH:∀x,(x,Nz)∈scope.names->x∈fs.map (·.2.1):=λx hx=>by
  (refine bz (k2 (x,.free) hx) (λq=>?_) (λq=>?_))
  . exact absurd Z q
  . exact q
 have yu:∀x a,(kJ C scope).lookup x=AN a->C.env.cells.lookup x=AN a/\x∈fs.map (·.2.1):=λx a e=>by
  (refine bz (jX _ scope.names [] (x,a) (Xd e)) (λq=>?_) (λagA=>?_);rotate_left;refine XZ agA λq1 q2=>?_;rotate_right)
  . cases q
  . have hx:=IH x q2;exact ⟨by refine aa (Mj x hx) ?_;exact congrArg AN q1.symm,hx⟩
 refine ⟨kX _ λx hx=>Mj x (IH x hx),?_⟩;obtain build:∀l:List (Nat×Str×AV),(∀p∈l,p∈fs)->∃crs,c.SV F bs (l.map (·.2)) crs/\∀x r,(x,r)∈crs->∃a oc,(kJ C scope).lookup x=AN a/\F a=AN oc/\oc.data=.cell (AN r):=by
  intro l;induction l with
  | nil=>intro _;exact (af [] (.nil) (λJ J m=>nomatch m))
  | cons p l ih=>
    intro kL;refine Va (ih λq hq=>kL q (.tail _ hq)) λcrs h1 h2=>Wa (one p (kL p (.head _))) λa o r w1 w2 J w3 w4=>?_;refine (af ((p.2.1,r)::crs) (.cons w4 h1) (λx r' hm=>?_))
    (refine bz (eO hm) (λe=>?_) (λhm=>?_))
    . clear hm;cases e;refine (bW a o ?_ w2 w3);exact aa (qj _ scope.names p.2.1 (mem_of_lookupK (k1 _ (fV (af p (kL p (.head _)) Z))))) (congrArg AN (by refine aa w1 ?_;rfl))
    . exact h2 x r' hm
 refine Va (build fs λJ m=>m) λcrs h1 h2=>(af crs ⟨h2,λx a e=>XZ (yu x a e) λe1 hx=>?_,λx y a e1 e2=>z.apart x y a (yu x a e1).1 (yu y a e2).1⟩ h1)
 clear e;refine Va (gM hx) λp hp agC=>?_;clear hx;obtain rfl:=agC;exact Wa (one p hp) λa' o r w1 w2 w3 w4 J=>rE (bf (aM (ar e1) w1)) (bW o r w2 w3 w4)
theorem CodeRec.jS {code:Ws}(h:yb F code q)(hs:∀b o,F b=AN o->s.heap.get? b=AN o):s.heap.CodeRec code q:=
 let ⟨cc,oc,vs,t,e1,e2,e3,e4⟩:=h
 (jR cc oc vs t e1 (hs _ _ e2) e3 e4)
theorem agF (B:Base c mg mb)(hb:rT c mg)(z:St c C F bs S s)(site:Nat)(fs:List (Nat×Str×AV))(jT:C.env.code=.ref cc)(t:TabAt c cc P q)(hq:C.env.qual++name=q pos)(hf:C.env.func≠Wm)(hS:mJ C S fs)(fE:VI scope (fs.map (·.2.1))=Wn)(kZ:c.aH site=⟨name,q pos,params,body,scope⟩)(k:K (.fn site (fs.map (·.2))) S): WP c C A c.V (makeFunction name (C.env.qual++name) params body scope C.env [] [] [] pos fl) F bs s K X:=by
 obtain ⟨fq,crs,agG,agH⟩:=z.sealed hf hS fE;obtain ⟨hFP,⟨o0,h0⟩,ps,hP,Om,D0⟩:=z.wd.old.tabs P q t.tab;have C':=z.DZ t.code;have bm:=z.Ol B hb t;have Vk:=z.UZ B;have fin:∀(F₁:G) (ak:Gb) (h':Xi) (tk:Tok) (fd:w6),(∀b o,F b=AN o->F₁ b=AN o)->Step C.own F bs s.heap F₁ bs ak.heap->St c C F₁ bs S ak->(∀b o,ak.heap.get? b=AN o->h'.get? b=AN o)->ak.heap.objs.size<=h'.objs.size->ak.os=s.os->ak.gens=s.gens->
  fd.name=name->fd.qualname=q pos->fd.params=params->fd.body=body->fd.scope=scope->fd.globals=te->fd.builtins=Xe->fd.defaults=.none->fd.kwdefaults=.none->fd.closure=kJ C scope->
  yb F₁ fd.code (q pos)->
  WV c C c.V F bs s.heap K (.ref h'.objs.size) {s with heap:=h'.push {cls:=.type "function",data:=.func fd},toks:=tk}:=by
  intro F₁ ak h' tk fd kL st aC hk hsz Kw hg e1 e2 e3 e4 e5 e6 e7 e8 e9 Oo e11;obtain m:a7 c F₁ bs ak {s with heap:=h'.push {cls:=.type "function",data:=.func fd},toks:=tk}:=⟨λb o e=>cC _ (hk b o e),Kw.symm,hg.symm⟩
  obtain hn:=gf hsz;obtain ha:(h'.push {cls:=.type "function",data:=.func fd}).get? h'.objs.size=AN {cls:=.type "function",data:=.func fd}:=dB _ Z;have hF:=aC.kF hn;obtain ⟨cc,oc,vs,t,w1,w2,w3,w4⟩:=e11;refine ⟨_,bs,.fn site (fs.map (·.2)),S,st.trans (.frozen m hF hn),aC.jS m hn ha,?_,k⟩;obtain sK:∀b o,F b=AN o->plus F₁ h'.objs.size {cls:=.type "function",data:=.func fd} b=AN o:=λb o e=>aY hF _ _ (kL b o e);refine .fn ⟨_,_,bU,Z,Z,Z,(by refine aa kZ ?_;exact e1),(by refine aa kZ ?_;exact e2),(by refine aa kZ ?_;exact e3),(by refine aa kZ ?_;exact e4),(by refine aa kZ ?_;exact e5),e6,e7,e8,e9,⟨cc,oc,vs,t,w1,aY hF _ _ w2,w3,by refine aa e2 ?_;exact w4⟩,(by refine aa Oo ?_;exact agG.mono sK)⟩ ?_;obtain this:=bE.mono sK agH
  rwa [Kg] at this
 cases CK:Ha pos ps.toList with
 | some agK=>
   clear kZ;refine Wh (D0 pos agK CK) λa oc vs tk agL w1 w2 w3=>?_;obtain rfl:=agL;cases body with
   | stmts body =>exact makeFunction_hit fq z.glob Vk jT C' hP Om CK bm λYH doc h' G1 hk hsz=>fin F s h' G1 _ (λJ J e=>e) (.refl ..) z hk hsz Z Z Z hq Z Z Z Z Z Z Z Z ⟨a,oc,vs,tk,Z,w1,w2,w3⟩
   | expr body =>exact kla_makeFunctionHit fq z.glob Vk jT C' hP Om CK bm λYH h' G1 hk hsz=>fin F s h' G1 _ (λJ J e=>e) (.refl ..) z hk hsz Z Z Z hq Z Z Z Z Z Z Z Z ⟨a,oc,vs,tk,Z,w1,w2,w3⟩
 | none=>
   have miss:∀(c':Wr) (h':Xi),Bi P s.heap h'->s.heap.objs.size<=c'->c'<h'.objs.size->h'.CodeRec (.ref c') (C.env.qual++name)->h'.get? P=AN (O6 (ps++#[A1 pos.line,A1 pos.col,.ref c']))->
    ∃oc vs tk,St c C (plus F c' oc) bs S {s with heap:=h'}/\Step C.own F bs s.heap (plus F c' oc) bs h'/\oc.data=.fields vs/\vs[1]?=AN (.str (q pos) tk):=by
    intro c' h' hx GM dc D1 u6;refine Wh D1 λc2 oc vs tk e1 e2 e3 e4=>?_;obtain rfl:=K6 e1;replace e4:=hq▸e4;obtain hn:=gf GM;exact XZ (z.KU (s':={s with heap:=h'}) B t hP (pos:=pos) hx hn e2 e3 e4 u6 Z Z) λz' qy=>(ip oc vs tk z' qy e3 e4)
   cases body with
   | stmts body =>exact makeFunction_K fq z.glob Vk jT C' hP Om CK (B.yF t).1 bm λc' YH doc h' G1 hx GM dc D1 u6=>Cv (miss c' h' hx GM dc D1 u6) λoc vs tk z' qy e3 e4=>fin _ {s with heap:=h'} h' G1 _ qy.sub qy z' (λJ J e=>e) (bP _) Z Z Z hq Z Z Z Z Z Z Z Z ⟨c',oc,vs,tk,Z,bU,e3,e4⟩
   | expr body =>exact kla_makeFunction fq z.glob Vk jT C' hP Om CK (B.yF t).1 bm λc' YH h' G1 hx GM dc D1 u6=>Cv (miss c' h' hx GM dc D1 u6) λoc vs tk z' qy e3 e4=>fin _ {s with heap:=h'} h' G1 _ qy.sub qy z' (λJ J e=>e) (bP _) Z Z Z hq Z Z Z Z Z Z Z Z ⟨c',oc,vs,tk,Z,bU,e3,e4⟩
theorem agN (B:Base c mg mb)(hb:rT c mg)(site:Nat)(i:Nat){name:Str}{params:OP}{body:fW}{scope:YB}{pos:Pos}{cc P:Wr}{q:Pos->Str}{K:gX}(fs:List (Nat×Str×AV))
 (jT:C.env.code=.ref cc) (t:TabAt c cc P q) (hq:C.env.qual++name=q pos) (hf:C.env.func≠Wm) (hS:mJ C S fs) (fE:VI scope (fs.map (·.2.1))=Wn) (kZ:c.aH site=⟨name,q pos,params,.stmts body,scope⟩)
 (hi:C.vars[i]?=AN name) (be:bI C (λJ=>Wm) name) (k:K .next (S.put i (.fn site (fs.map (·.2)))))
 (hd0:params.defaults=[]:=by rfl) (wT:params.kw_defaults=[]:=by rfl) (ha:annTrees params Wm C.env=[]:=by rfl):lB c C (.FunctionDef name params body [] Wm [] scope Wm name pos) S K X:=λA F bs s hA z=>by
 refine nestDef_K hd0 wT ha ?_;obtain hqn:qualnameIn C.env name name=C.env.qual++name:=by
  delta qualnameIn
  (refine bz be (λq=>?_) (λagO=>?_);rotate_left;refine XZ agO λq J=>?_;rotate_right) <;> refine aa q ?_ <;> rfl
 refine rE hqn (aS (agF (A:=A) (X:=X) B hb z site fs jT t hq hf hS fE kZ (K:=λv S'=>v=.fn site (fs.map (·.2))/\S'=S) ⟨Z,Z⟩) (λr ak dL=>dL.casesOn λF₁ bs₁ v ai an aC hv eR=>?_) λJ J q=>q);obtain ⟨e,e'⟩:=eR;clear z hS;subst e e';refine aS (rm (A:=A) (X:=X) aC hi be hv (K:=λJ S'=>K .next S') k) (λJ am agP=>agP.casesOn λaP aB J aF av aI J S4=>⟨aP,aB,.next,aF,an.trans av,aI,Z,S4⟩) λx am agQ=>agQ.casesOn λaP aB cls aF av aI hx S4=>⟨aP,aB,cls,aF,an.trans av,aI,hx.back an.mono,S4⟩
end
end Mine.Internal
namespace Mine.Internal
open PySem PyProof.Rows
structure mK where
 params:OP
 body:fW
 scope:YB
structure YL where
 f:mK
 es:cJ
noncomputable def FI:mK:=⟨⟨[],[],Wm,[],[],Wm,[]⟩,[],{kind:=.function,names:=[],isGenerator:=Wp,isCoroutine:=Wp}⟩
noncomputable def exP:Nn->YL
 | .ListComp _ _ sc _=>⟨{FI with scope:=sc},[]⟩
 | .DictComp _ _ _ sc _=>⟨{FI with scope:=sc},[]⟩
 | .Lambda ps b sc _=>⟨⟨ps,[],sc⟩,[b]⟩
 | .Call _ _ ks _=>⟨FI,ks.map (·.value)⟩
 | _=>⟨FI,[]⟩
noncomputable def stP:Pc->YL
 | .FunctionDef _ a b _ _ _ s _ _ _=>⟨⟨a,b,s⟩,[]⟩
 | .ClassDef _ _ _ b _ _ _ _ _ _ _=>⟨{FI with body:=b},[]⟩
 | .While _ b _ _=>⟨{FI with body:=b},[]⟩
 | .For _ _ b _ _=>⟨{FI with body:=b},[]⟩
 | .Assign _ e _=>exP e
 | .Return e _=>⟨FI,e.toList⟩
 | _=>⟨FI,[]⟩
noncomputable def D2 (ss:fW)(i:Nat):YL:=(ss[i]?.map stP).getD ⟨FI,[]⟩
noncomputable def dO (ss:fW)(i:Nat):mK:=(D2 ss i).f
noncomputable def jd (ss:fW)(i:Nat):fW:=(D2 ss i).f.body
inductive agR (c:aZ)(fa:Wr)(f:mK)(dV:Ws):Prop
 | mk (o:Obj) (fd:w6) (h1:c.h₀.get? fa=AN o) (h2:o.cls≠.none) (h3:o.data=.func fd) (h4:fd.params=f.params) (h5:fd.body=.stmts f.body) (h6:fd.scope=f.scope) (h7:fd.globals=te) (h8:fd.builtins=Xe) (h9:fd.closure=[]) (H8:fd.defaults=dV) (Jt:fd.kwdefaults=.none) (H9:CG c.h₀ fd.code fd.qualname)
structure fk (c:aZ)(fa:Wr)(f:mK)(dV:Ws):Prop where
 at_:agR c fa f dV
noncomputable abbrev jD (f:mK)(env:Env)(own:aJ)(frames:List Env)(n:Nat)(vars:bD):Cx:=⟨{env with scope:=f.scope},own,frames,Wm,n,vars⟩
abbrev Stores (C:Cx):Prop:=∀(i:Nat) x,C.vars[i]?=AN x->bI C (λJ=>Wm) x
noncomputable def vc (f:mK)(names vars:bD):Bool:=f.scope.kind==.function&&!f.scope.isCoroutine&&!f.scope.isGenerator&&decide vars.Nodup&&names.isPrefixOf vars&&vars.all (λp=>f.scope.names.lookup p==AN .local||f.scope.names.lookup p==AN .cell)
theorem fk.call (B:Base c mg mb)(F:fk c fa f dV){K:AV->aR->Prop}(binds:gh)(names vars:bD)(lc:d7)(hb:∀fd:w6,fd.params=f.params->fd.defaults=dV->fd.kwdefaults=.none->n9 c fd args binds)(G3:dC 0 binds []=lc)(KV:binds.map (·.1)=names)(fE:vc f names vars=Wn)(h:∀env own frames,Stores (jD f env own frames n vars)->gC (jD f env own frames n vars)->Ex c (jD f env own frames n vars) f.body ⟨lc,H⟩ (F6 K) fy):bQ c (n+1) (.ref fa) args H K:=by
 subst G3 KV;obtain ⟨o,fd,h1,h2,h3,h4,h5,h6,h7,h8,h9,H8,Jt,H9⟩:=F.at_;simp only [vc,fA,Xs,beq_iff_eq,decide_eq_true_eq] at fE;refine XZ fE λo1 k4=>?_;clear fE;refine XZ o1 λo2 k6=>?_;clear o1;refine XZ o2 λo3 k5=>?_;clear o2;refine XZ o3 λo4 k3=>?_;clear o3;obtain ⟨k1,k2⟩:=o4;refine Ml (agM.mp k6) λt ht=>enter B vars k5 (λj p e=>?_) h1 h2 h3 h5 H9 h7 h8 h9 (by refine rE h6 ?_;exact k1) (by refine aa h6 ?_;exact k2) (by refine aa h6 ?_;exact k3) (hb fd h4 H8 Jt) (λx v m=>?_) λC op=>?_
 . refine az ht (aa (fb (by rw [qY];exact (bA e).1)) (aa bV (aa e ?_)));rfl
 . obtain this:=Xy.mp k4 x (by refine az ht ?_;exact fz (.inl (fV (af (x,v) m Z))));refine rE h6 ?_;simpa using this
 . obtain ⟨env,own,frames,hd,n',vs⟩:=C;obtain e1:vs=vars:=op.vars;obtain e2:hd=Wm:=op.handled;obtain e3:n'=n:=op.n;clear ht k6;subst e1 e2 e3;have e4:env={env with scope:=f.scope}:=by obtain this:env.scope=f.scope:=op.scope.trans h6;exact az this Z
   refine rE e4 (h env own frames (λi x hx=>?_) ?_)
   rotate_left
   . refine Ml op.frames λfr mT=>?_;replace mT:=e4▸mT;exact (cj fr mT)
   obtain hk:=op.kind x;rw [e4] at hk;obtain this:=Xy.mp k4 x (bO hx);rcases akA.mp this with q | q
   . exact .inl (hk.trans (by refine aa h6 ?_;simpa using q))
   . obtain w:=op.cell x (by refine aa h6 ?_;simpa using q);replace w:=e4▸w;exact w
theorem fk.fu (B:Base c mg mb)(F:fk c fa f dV){K:AV->aR->Prop}(names:bD)(vars:bD)(lc:d7)(hb:va f.params dV names args.length)(tp:names.length=args.length)(G3:dC 0 (names.zip args) []=lc)(fE:vc f names vars=Wn)(h:∀env own frames,Stores (jD f env own frames n vars)->gC (jD f env own frames n vars)->Ex c (jD f env own frames n vars) f.body ⟨lc,H⟩ (F6 K) fy):bQ c (n+1) (.ref fa) args H K:=
 fk.call B F (names.zip args) names vars lc (λJ h1 h2 h3=>hb.bind h1 h2 h3) G3 (Za (WH tp)) fE h
def dR (mg mb:eI)(x:Str)(v:Ws):Prop:=mg x=Wm/\mb x=AN v
end Mine.Internal
namespace Mine.Internal
open PySem PyProof.Rows PySem.W
section
variable {s s':Gb}{pos:Pos}{Cl:Wr}
noncomputable abbrev vV (scope:YB)(env:Env)(own:aJ)(frames:List Env)(n:Nat)(vars:bD):Cx:=⟨{env with scope:=scope},own,frames,Wm,n,vars⟩
theorem tY.YN {code:Ws}{qual:Str}{n:Nat}{vars:bD}(f:tY C sc code qual n vars)(hv:vars.all (λx=>sc.names.lookup x==AN .local||sc.names.lookup x==AN .cell||sc.names.lookup x==AN .free)=Wn): ∃env own frames,C=vV sc env own frames n vars/\(∀(i:Nat) x,vars[i]?=AN x->(sc.names.lookup x==AN .free)=Wp->bI (vV sc env own frames n vars) (λJ=>Wm) x)/\gC (vV sc env own frames n vars)/\env.code=code/\env.qual=qual/\env.func≠Wm:=by
 obtain ⟨env,own,frames,hd,n',vs⟩:=C;obtain e1:vs=vars:=f.vars;obtain e2:hd=Wm:=f.handled;obtain e3:n'=n:=f.n;subst e1 e2 e3;have e4:env={env with scope:=sc}:=by obtain this:env.scope=sc:=f.scope;exact az this Z
 refine (i5 env own frames (by delta vV;exact az e4 Z) (λi x hx eQ=>?_) ?_ f.code f.qual f.func)
 . obtain this:=Xy.mp hv x (bO hx);rw [eQ,amG] at this;rcases akA.mp this with q | q
   . exact .inl (by show sc.names.lookup x=_;simpa using q)
   . obtain w:=f.cell x (by simpa using q);replace w:=e4▸w;exact w
 . refine Ml f.top λfr mT=>?_;replace mT:=e4▸mT;exact (cj fr mT)
noncomputable def vd (sc:YB)(vars:bD):Bool:=vars.all (λx=>sc.names.lookup x==AN .local||sc.names.lookup x==AN .cell||sc.names.lookup x==AN .free)
theorem m5.fn (B:Base c mg mb){K:AV->aR->Prop}(st:mR)(kZ:c.aH site=st)(binds:gh)(vars:bD)
 (hb:∀fd:w6,fd.params=st.params->fd.defaults=.none->fd.kwdefaults=.none->n9 c fd args binds)
 (fE:iV st.scope (binds.map (·.1)) (caps.map (·.1)) vars=Wn) (bn:vd st.scope vars=Wn)
 (h:∀env own frames,(∀(i:Nat) x,vars[i]?=AN x->(st.scope.names.lookup x==AN .free)=Wp->bI (vV st.scope env own frames n vars) (λJ=>Wm) x)->gC (vV st.scope env own frames n vars)->
  match st.body with
  | .stmts body=>GX c (vV st.scope env own frames n vars) body ⟨dC 0 binds (g9 binds.length caps),H⟩ K
  | .expr body=>Ev c (vV st.scope env own frames n vars) body ⟨dC 0 binds (g9 binds.length caps),H⟩ (λv S'=>K v S'.heap) fy) :
 m5 c (n+1) (.fn site caps) args H K:=by
 subst kZ;intro A F bs s r rs fr hh hd hu mT oi wd hf hv;refine dr hf.inv λa crs agS o58 Of=>?_;obtain ⟨o,fd,h0,c1,c2,c3,e1,e2,e3,e4,e5,e6,e7,e8,e9,hc,fq⟩:=o58;refine agS▸?_;refine DY B (binds:=binds) (caps:=caps) vars hh hd hu mT oi (wd.sub _ _ h0) c3 (CodeRec.jS hc wd.sub) e6 e7 wd hv fq Of (hb fd e3 e8 e9) (by refine (ar e5)▸?_;exact fE) ?_;cases GD:(c.aH site).body with
 | stmts body =>refine .inl (af body (aa e4 (aa GD Z)) (λC yE=>?_));rw [e5] at yE;refine Cv (yE.YN bn) λenv own frames o51 k1 k2 J=>?_;obtain rfl:=o51;have:=h env own frames k1 k2;rw [GD] at this;exact this
 | expr body =>refine .inr (af body (aa e4 (aa GD Z)) (λC yE=>?_));rw [e5] at yE;refine Cv (yE.YN bn) λenv own frames o50 k1 k2 J=>?_;obtain rfl:=o50;have:=h env own frames k1 k2;rw [GD] at this;exact this
theorem m5.fnP (B:Base c mg mb){K:AV->aR->Prop}(st:mR)(kZ:c.aH site=st)(names acL vars:bD)(lc:d7)
 (hb:va st.params .none names args.length) (tp:names.length=args.length) (hc:caps.map (·.1)=acL) (G3:dC 0 (names.zip args) (g9 (names.zip args).length caps)=lc)
 (fE:iV st.scope names acL vars=Wn) (bn:vd st.scope vars=Wn)
 (h:∀env own frames,(∀(i:Nat) x,vars[i]?=AN x->(st.scope.names.lookup x==AN .free)=Wp->bI (vV st.scope env own frames n vars) (λJ=>Wm) x)->gC (vV st.scope env own frames n vars)->
  match st.body with
  | .stmts body=>GX c (vV st.scope env own frames n vars) body ⟨lc,H⟩ K
  | .expr body=>Ev c (vV st.scope env own frames n vars) body ⟨lc,H⟩ (λv S'=>K v S'.heap) fy) :
 m5 c (n+1) (.fn site caps) args H K:=by
 subst hc G3;exact m5.fn B st kZ (names.zip args) vars (λJ h1 h2 h3=>hb.bind h1 h2 h3) (by refine aa (Za (WH tp)) ?_;exact fE) bn h
inductive agT (c:aZ)(fa:Wr)(f:mK)(dV:Ws)(qn:Str)(cc:Wr):Prop
 | mk (o:Obj) (fd:w6) (h1:c.h₀.get? fa=AN o) (h2:o.cls≠.none) (h3:o.data=.func fd) (h4:fd.params=f.params) (h5:fd.body=.stmts f.body) (h6:fd.scope=f.scope) (h7:fd.globals=te) (h8:fd.builtins=Xe) (h9:fd.closure=[]) (H8:fd.defaults=dV) (Jt:fd.kwdefaults=.none) (H9:fd.qualname=qn) (YQ:fd.code=.ref cc)
   (h14:∃oc vs t,c.h₀.get? cc=AN oc/\oc.cls≠.none/\oc.data=.fields vs/\vs[1]?=AN (.str fd.qualname t))
structure rV (c:aZ)(fa:Wr)(f:mK)(dV:Ws)(qn:Str)(cc P:Wr)(q:Pos->Str):Prop where
 at_:agT c fa f dV qn cc
 tab:TabAt c cc P q
theorem rV.call (B:Base c mg mb)(F:rV c fa f dV qn cc P q){K:AV->aR->Prop}(binds:gh)(vars:bD)(hb:∀fd:w6,fd.params=f.params->fd.defaults=dV->fd.kwdefaults=.none->n9 c fd args binds)(fE:iV f.scope (binds.map (·.1)) [] vars=Wn)(bn:vd f.scope vars=Wn)(h:∀env own frames,(∀(i:Nat) x,vars[i]?=AN x->(f.scope.names.lookup x==AN .free)=Wp->bI (vV f.scope env own frames n vars) (λJ=>Wm) x)->gC (vV f.scope env own frames n vars)->env.code=.ref cc->env.qual=qn++".<locals>."->env.func≠Wm->GX c (vV f.scope env own frames n vars) f.body ⟨dC 0 binds [],H⟩ K):bQ c (n+1) (.ref fa) args H K:=by
 intro A F' bs s rs fr hh hd hu mT oi wd hv;obtain ⟨o,fd,h1,h2,h3,h4,h5,h6,h7,h8,h9,H8,Jt,H9,YQ,oc,vs,t,h14,h15,D3,h17⟩:=F.at_;obtain AK:∀b o,c.h₀.get? b=AN o->o.cls≠.none->s.heap.get? b=AN o:=λb o e q=>wd.sub _ _ (wd.base _ _ e (.inl q));refine DY B (binds:=binds) (caps:=[]) (crs:=[]) vars hh hd hu mT oi (AK _ _ h1 h2) h3 (jR cc oc vs t YQ (AK _ _ h14 h15) D3 h17) h7 h8 wd hv ⟨λJ J m=>(nomatch m),λx a e=>(by replace e:=h9▸e;cases e),λx y a e=>(by rw [h9] at e;cases e)⟩ .nil (hb fd h4 H8 Jt) (by refine aa h6 ?_;exact fE) (.inl (af f.body h5 (λC yE=>?_)));replace yE:=h6▸yE;refine VY (yE.YN bn) λenv own frames o57=>?_;refine FP o57 λagU k1 k2 k3 k4 k5=>?_;clear o57;refine agU▸?_;exact h env own frames k1 k2 (k3.trans YQ) (aa k4 (aa H9 Z)) k5
theorem rV.fu (B:Base c mg mb)(F:rV c fa f dV qn cc P q){K:AV->aR->Prop}(names vars:bD)(lc:d7)(hb:va f.params dV names args.length)(tp:names.length=args.length)(G3:dC 0 (names.zip args) []=lc)(fE:iV f.scope names [] vars=Wn)(bn:vd f.scope vars=Wn)(h:∀env own frames,(∀(i:Nat) x,vars[i]?=AN x->(f.scope.names.lookup x==AN .free)=Wp->bI (vV f.scope env own frames n vars) (λJ=>Wm) x)->gC (vV f.scope env own frames n vars)->env.code=.ref cc->env.qual=qn++".<locals>."->env.func≠Wm->GX c (vV f.scope env own frames n vars) f.body ⟨lc,H⟩ K):bQ c (n+1) (.ref fa) args H K:=by
 subst G3;exact F.call B (names.zip args) vars (λJ h1 h2 h3=>hb.bind h1 h2 h3) (by refine aa (Za (WH tp)) ?_;exact fE) bn h
theorem agV (hA:lp C A)(hh:C.handled=Wm)(hn:n<=C.n)(z:St c C F bs S s)(hf:c.V F bs fv rf)(hv:c.Vs F bs args rs)(h:m5 c n fv args S.heap (λv H'=>K v {S with heap:=H'})):WP c C A c.V (call rf rs) F bs s K X:=by
 refine KY ?_;obtain hd:=hA.depth;obtain hu:=hA.units;exact NL (h A F bs s rf rs C.frames (hA.handled.trans hh) (ur hd hn) (uq hu hn) hA.frames z.frames z.wd hf hv) λr s' DK=>DK.casesOn λF' aK v H' rv own e ii st wd m0 k=>e▸⟨F',aK,v,{S with heap:=H'},st.widen λa ha=>.inr (ii a ha),z.after st ii wd,m0,k⟩
theorem agW (B:eK c mg mb Kf)(fq:ju Kf Cl=Wn)(xL:(Yp Kf (.ref Cl) name==AN Wm)=Wn)(z:St c C F bs S s)(hi:gR S k d Cl kvs)(ho:c.V F bs (.ref k) ro)(hg:bC kvs name=AN v)(DC:∀u,v≠.raw u)(kk:K v S): WP c C A c.V (Lg ro name) F bs s K X:=rP B fq xL z hi ho hg DC kk
inductive ag0 (c:aZ)(C:Cx)(Cl:Wr)(name:Str)(n:Nat)(pos:Pos)(args:cJ)(K:cu)(X:cR)(ov:AV)(ai:AS):Prop
 | mk (k d:Nat) (kvs:gh) (site:Nat) (caps:gh) (h1:ov=.ref k) (h2:gR ai k d Cl kvs) (h3:bC kvs name=AN (.fn site caps)) (h4:pz c C pos args ai (λvs aF=>m5 c n (.fn site caps) vs aF.heap (zI K aF)) X)
theorem ag1 (B:eK c mg mb Kf){o:Nn}{name:Str}{H6:Pos}{args:cJ}{n:Nat}(Cl:Wr)(fq:ju Kf Cl=Wn)(xL:(Yp Kf (.ref Cl) name==AN Wm)=Wn)(hh:C.handled=Wm)(hn:n<=C.n)
 (h:Ev c C o S (ag0 c C Cl name n pos args K X) X)
 (gp:XR o name C.env (eval o C.env)=eval o C.env:=by rfl)
 (ot:aj9 (args.length+([]:List YC).length) (W3 pos (M4 args C.env)) (DN pos (Xk [] C.env))=Wn:=by rfl)
 (hline:(H6.endLine==pos.line)=Wn:=by rfl)
 (hl:mU (W3 pos (M4 args C.env))=Wp:=by rfl):Ev c C (.Call (.Attribute o name H6) args [] pos) S K X:=by
 intro A F bs s hA z;have F4:=fq;simp only [ju,fA,beq_iff_eq] at F4;refine XZ F4 λo48 g5=>?_;refine XZ o48 λo52 g4=>?_;clear o48;refine XZ o52 λo55 g3=>?_;clear o52;refine XZ o55 λg1 g2=>?_;clear o55;simp only [akI,gp];refine ag (aS (h A F bs s hA z) (λr ak pL=>pL.casesOn λF₁ bs₁ ov ai an aC lq oC=>?_) λJ J e=>e);obtain ⟨k,d,kvs,site,caps,e,hi,hg,tj⟩:=oC;subst e;obtain ⟨x,dx,rs,es,m,rfl,_,_,I,_,hk,hp,rp,_⟩:=aC.inst hi lq;refine ag (yr ?_);obtain yx:K1 Wn o C.env H6 pos=pure pos:=by delta K1;simp [hline]
 delta aml;refine (ar ot)▸(ag (pa (method_usual (aC.wK B) I g1 g2 (beq_iff_eq.mp xL) Z ?_)))
 have ga:=agW (A:=A) (X:=X) (K:=λv S'=>v=.fn site caps/\S'=ai) B fq xL aC hi lq hg (λu q=>by cases q) ⟨Z,Z⟩;refine aS ga (λfr am dL=>dL.casesOn λaP aB fv aF av aI Ih eR=>?_) λx am q55=>q55.casesOn λaP aB cls aF av aI hx S4=>⟨aP,aB,cls,aF,an.trans av,aI,hx.back an.mono,S4⟩
 obtain ⟨e,e'⟩:=eR;clear ga hi aC;subst e e';refine ag (NT yx ?_);have yC:=an.trans av;obtain ⟨a,oF,fd,rfl,q1,q2⟩:∃a oF fd,fr=.ref a/\aP a=AN oF/\oF.data=.func fd:=by refine dr Ih.inv λJ J ag2 o54 J=>?_;obtain ⟨_,_,h0,_,_,c3,_⟩:=o54;refine ag2▸?_;exact (fK _ _ _ Z h0 c3)
 refine ahm (o:=oF) (fd:=fd) (aS (gk hA aI (tj) hl) (λa aO q56=>q56.casesOn λbv aT vs bd aL a8 q31=>XZ q31 λoj bn bR=>?_) (λx aO q57=>q57.casesOn λbv aT cls bd aL a8 hx bR=>⟨bv,aT,cls,bd,yC.trans aL,a8,hx.back yC.mono,bR⟩));obtain ⟨ps,kw⟩:=a;have yy:kw=[]:=oj;clear oj q56;refine yy▸?_;refine ⟨⟨a8.wd.sub _ _ (aL.sub _ _ q1),q2⟩,?_⟩;obtain B1:=yC.trans aL;refine aS (agV (X:=X) (s:=aO) (rs:=ps) hA hh hn a8 (aL.V Ih) bn bR) (λv cK q58=>q58.casesOn λek ca v' dd ce de D5 iF=>⟨ek,ca,v',dd,B1.trans ce,de,D5,iF⟩) λx cK q59=>q59.casesOn λek ca v' dd ce de D5 iF=>⟨ek,ca,v',dd,B1.trans ce,de,D5.back B1.mono,iF⟩
end
end Mine.Internal
namespace Mine.Internal
open PySem
namespace Fm
theorem slot_ci_next:Slot "callable_iterator" "__next__" "callable_iterator.__next__" :=
 .of (owner:="callable_iterator") (n:="__next__") (Z) (Z) (Z) (Z)
  (by first | exact .inl (Z) | exact .inr (Z)) (Z)
theorem slot_ci_iter:Slot "callable_iterator" "__iter__" "callable_iterator.__iter__" :=
 .of (owner:="callable_iterator") (n:="__iter__") (Z) (Z) (Z) (Z)
  (by first | exact .inl (Z) | exact .inr (Z)) (Z)
theorem entry_ci_next:Hf table "callable_iterator.__next__"=AN Ye.«callable_iterator.__next__»:=ajm (by kernel_rfl)
theorem entry_ci_iter:Hf table "callable_iterator.__iter__"=AN Ye.«dict_keyiterator.__iter__» :=
 amq (id':="dict_keyiterator.__iter__") (by kernel_rfl) Z (by decide +kernel) (by kernel_rfl)
theorem args_ci_next (a:Ws):Zk "callable_iterator.__next__" ⟨[a],[]⟩:=by unfold Zk;kernel_rfl
theorem args_ci_iter (a:Ws):Zk "callable_iterator.__iter__" ⟨[a],[]⟩:=by unfold Zk;kernel_rfl
theorem slot_m_call:Slot "method" "__call__" "method.__call__" :=
 .of (owner:="method") (n:="__call__") (Z) (Z) (Z) (Z)
  (by first | exact .inl (Z) | exact .inr (Z)) (Z)
theorem args_iter2 (a b:Ws):Zk "iter" ⟨[a,b],[]⟩:=by unfold Zk;kernel_rfl
end Fm
end Mine.Internal
namespace Mine.Internal
open PySem PyProof.Rows PySem.W
section
variable {prog:AZ}{w:X3}{E:pF}{s:Gb}
theorem ag3 (hc:G4 (model prog w) A (.call f ⟨pos,[]⟩) (λr s'=>match r with | .ok (.ret v)=>Q v s' | .ok _=>False | .error e=>E e s') s):Dk (model prog w) A (callBorrowed f pos) Q E s:=λΓ p hΓ=>by
 refine wpCode_mono (λr s' hr=>?_) (hc _ p Z (hΓ.enter _ Wm p (by intro x;exact bM x)));cases r with
 | error e=>exact hr
 | ok f=>cases f <;> exact hr
noncomputable abbrev jE (x y:Ws)(b:Bool):Obj:={cls:=.type "callable_iterator",data:=.fields #[x,y,.bool b]}
theorem ag4 (ho:s.heap.get? it=AN (jE x y b))(hQ:Q (.ref it) s):Dk (model prog w) A (Hh (.ref it)) Q E s:=by
 obtain hT:s.TypeIs (.ref it) "callable_iterator":=(af _ ho Z)
 exact alh hT Fm.slot_ci_iter (yw Fm.slot_ci_iter hT Fm.entry_ci_iter (aX ⟨_,Z,("callable_iterator"),_,hT,Fm.slot_ci_next.lookup,hQ⟩) (Fm.args_ci_iter _))
theorem rW (hh:A.handled=Wm)(h:∀h' e,Zm s.heap h' e "StopIteration"->E (.ref e) {s with heap:=h'}):Dk (model prog w) A (ali:Sem α) Q E s:=by refine ag (ag (yq (ag (m:=ti _ _) (NT (a:=J3) (by first | rfl | (rfl;rfl)) ?_)) (by size_fits)));refine yq (ag (Zh (rE hh (ag (aX (tv (h _ _ ⟨λb o e=>cC _ (cC _ e),gf (by simp only [jP];exact N6 _),_,.ref s.heap.objs.size,dB _ Z,Z,Z⟩))))))) (by size_fits)
theorem tZ (hq:s.heap.get? q=AN (OL (.ref f) self))(hf:s.heap.get? f=AN o)(hd:o.data=.func fd)(h:Q Wn s):Dk (model prog w) A (borrowsExactly (.ref q)) Q E s:=by exact ag (OR hq (ag (OR hf (rE hd (aX h)))))
inductive ag5 (it f:Wr)(o:Obj)(snt:Str)(Q:rn->nj)(r:Except Ws Flow)(s':Gb):Prop
 | mk (x:Str) (t:Tok) (q':Wr) (ts':Tok) (Op:Ws) (h1:r=.ok (.ret (.str x t))) (h2:s'.heap.get? it=AN (jE (.ref q') (.str snt ts') Wp)) (h3:s'.heap.get? q'=AN (OL (.ref f) Op)) (h4:s'.heap.get? f=AN o)
   (h5:(snt==x)=Wp/\Q (AN (.str x t)) s'\/(snt==x)=Wn/\∀h',(∀b,b≠it->∀ob,s'.heap.get? b=AN ob->h'.get? b=AN ob)->h'.get? it=AN (jE .none .none Wn)->Q Wm {s' with heap:=h'})
theorem ag8 (hh:A.handled=Wm)(ho:s.heap.get? it=AN (jE (.ref q) (.str snt ts) Wp))(hq:s.heap.get? q=AN (OL (.ref f) self))(hf:s.heap.get? f=AN o)(hd:o.data=.func fd)(hc:G4 (model prog w) A.in1 (.call (.ref f) ⟨[self],[]⟩) (ag5 it f o snt Q) s):Dk (model prog w) A (yQ (.ref it)) Q E s:=by
 obtain hT:s.TypeIs (.ref it) "callable_iterator":=(af _ ho Z)
 refine ag (Ba (XQ (name:=Ww "__next__") hT Fm.slot_ci_next
  (yw Fm.slot_ci_next hT Fm.entry_ci_next ?_ (Fm.args_ci_next _))))
 refine ag (m:=slotArgs _ _ _) (aX (ag (Nb ho Z (x:=.bool Wp) Z (ag (Nb ho Z (x:=.ref q) Z (ag (Ba (ag (tZ hq hf hd (ag3 (method_call hq (NL hc λr s' Os=>Os.casesOn λx t q ts self e vT Ou CY k=>?_))))))))))));clear Os;subst e;refine ag (Nb vT Z (x:=.bool Wp) Z (ag (Nb vT Z (x:=.str snt ts) Z (ag (pa (eqBool_str ?_))))))
 (refine bz k (λag9=>?_) (λaha=>?_);refine XZ ag9 λe k=>?_;rotate_left;refine XZ aha λe k=>?_;rotate_right)
 . exact rE e (aX (af _ Z (aX k)))
 . refine rE e (ag (XD (ag (ag (Nb vT Z (x:=.ref q) Z (ag (ag (tZ Ou CY hd (aX ?_)))))))));obtain g0:=lD (J1 (·.setIfInBounds 0 J3)) vT (WR (AX Z _));generalize BZ:({s' with heap:=s'.heap.update it (J1 (·.setIfInBounds 0 J3))}:Gb)=s1;obtain e1:s1.heap.get? it=AN (jE .none (.str snt ts) Wp):=by refine BZ▸?_;refine g0.trans ?_;simp [J1]
   refine ag (ox vT Z (by simp) (rE BZ ?_));obtain g1:=lD (J1 (·.setIfInBounds 1 J3)) e1 (WR (AX Z _));generalize sK:({s1 with heap:=s1.heap.update it (J1 (·.setIfInBounds 1 J3))}:Gb)=s2;obtain e2:s2.heap.get? it=AN (jE .none .none Wp):=by refine az sK ?_;refine g1.trans ?_;simp [J1]
   refine ag (ox e1 Z (by simp) (aa sK ?_));obtain g2:=lD (J1 (·.setIfInBounds 2 (yL Wn))) e2 (WR (AX Z _));generalize s0:({s2 with heap:=s2.heap.update it (J1 (·.setIfInBounds 2 (yL Wn)))}:Gb)=s3;obtain e3:s3.heap.get? it=AN (jE .none .none Wn):=by refine az s0 ?_;refine g2.trans ?_;simp [J1]
   refine ox e2 Z (J4 Z) (aa s0 ?_);obtain same:∀b,b≠it->∀ob,s'.heap.get? b=AN ob->s3.heap.get? b=AN ob:=λb hb ob e=>by refine az s0 ((DV _ _ _ _ hb).trans ?_);refine az sK ((DV _ _ _ _ hb).trans ?_);exact az BZ ((DV _ _ _ _ hb).trans e)
   obtain Cq:s3={s' with heap:=s3.heap}:=az s0 (az sK (az BZ Z));exact rW (A:=A.in1) hh λh' e x=>dr x.there λob t' w1 w2 w3=>ag (Oq (T:="StopIteration") (b:=Wn) (af _ w1 w2) Hb (aX (aa Cq (k h' (λb hb ob e=>x.keeps _ _ (same b hb ob e)) (x.keeps _ _ e3)))))
theorem ahb (hh:A.handled=Wm)(ho:s.heap.get? it=AN (jE x y Wn))(h:∀h',(∀b ob,s.heap.get? b=AN ob->h'.get? b=AN ob)->Q Wm {s with heap:=h'}):Dk (model prog w) A (yQ (.ref it)) Q E s:=by
 obtain hT:s.TypeIs (.ref it) "callable_iterator":=(af _ ho Z)
 refine ag (Ba (XQ (name:=Ww "__next__") hT Fm.slot_ci_next
  (yw Fm.slot_ci_next hT Fm.entry_ci_next ?_ (Fm.args_ci_next _))))
 exact ag (m:=slotArgs _ _ _) (aX (ag (Nb ho Z (x:=.bool Wn) Z (ag (XD (ag (rW (A:=A.in1) hh λh' e x=>dr x.there λob t' w1 w2 w3=>ag (Oq (T:="StopIteration") (b:=Wn) (af _ w1 w2) Hb (aX (h h' x.keeps))))))))))
end
section
variable {s s':Gb}{pos:Pos}
theorem ahc (k:K (.ref S.heap.length) {S with heap:=S.heap++[.fB (AN (.bm "method" f self,.str x))]}):eJ c C (.builtin "iter") [.bm "method" f self,.str x] S K X:=by
 intro A F bs s rs hA z hv;refine dr hv.inv λJ J AR h1 h2=>?_;refine rE AR ?_;refine dr h2.inv λJ J Di h3 h4=>?_;refine rE Di ?_;refine rE h4.inv ?_;clear h2;refine Ml h3.inv λtk Dh=>?_;refine rE Dh ?_;clear hv;refine dr h1.inv λq qo yl io tX=>?_;clear AR;obtain rfl:=yl;refine aiO (Z) (Z) amo (Fm.args_iter2 _ _) (ag (aX (ag (X0 (af _ (z.wd.sub _ _ io) Z) Fm.slot_m_call.lookup (ag (XD (ag (yq (aX (af _ Z ?_)) (by size_fits)))))))));obtain mv:a7 c F bs s {s with heap:=s.heap.push (jE (.ref q) (.str x tk) Wp)}:=⟨λb o e=>cC _ e,Z,Z⟩
 exact z.GN (o:=.fB (AN (.bm "method" f self,.str x))) mv (St.gZ s) (dB _ Z) (bW _ _ (cW.mono (λJ J e=>e) h1) (.str x tk) (dB _ Z)) k
def II (c:aZ)(C:Cx)(x:Str)(px:Pos)(body:fW)(K:gX)(n:Nat)(f:Wr)(self:AV)(snt:Str)(k:Nat)(I:CV)(m:Nat)(S:AS):Prop:=
 (S.heap[k]?=AN (.fB Wm)/\K .next S) \/
 (S.heap[k]?=AN (.fB (AN (.bm "method" (.ref f) self,.str snt)))/\bQ c n (.ref f) [self] S.heap (λv H'=>∃y,v=.str y/\H'[k]?=AN (.fB (AN (.bm "method" (.ref f) self,.str snt)))/\
  ((snt==y)=Wn/\K .next {S with heap:=H'.set k (.fB Wm)}\/(snt==y)=Wp/\wm c C (.Name x px) (.str y) {S with heap:=H'} (U2 c C body (wu (tR I m) K) fy) fy)))
abbrev ahd (c:aZ)(C:Cx)(F:G)(bs:aJ)(h₀:Xi)(K:gX)(to:Nat->nj)(n:Nat):Flow->nj:=λf s=>match f with
 | .next=>∃m,m<n/\to m s
 | .cont=>∃m,m<n/\to m s
 | .brk=>WV c C (n7 c) F bs h₀ K .next s
 | .ret v=>WV c C (n7 c) F bs h₀ K (.ret v) s
def Vl:pF:=λJ J=>False
abbrev ahe (c:aZ)(C:Cx)(A:M5)(t:Nn)(it:Wr)(body:fW)(Q:Flow->nj)(v:Ws):nj:=λak=>
 Dk (model c.prog c.w) A (Yv t (.ref it) v) (λJ am=>Dk (model c.prog c.w) A (assign t C.env v) (λJ aO=>Dk (model c.prog c.w) A (execs body C.env) Q Vl aO) Vl am) Vl ak
abbrev ahf (c:aZ)(C:Cx)(A:M5)(t:Nn)(it:Wr)(body:fW)(F:G)(bs:aJ)(h₀:Xi)(K:gX)(to:Nat->nj)(n:Nat):rn->nj:=λr ak=>match r with
 | none=>WV c C (n7 c) F bs h₀ K .next ak
 | some v=>ahe c C A t it body (ahd c C F bs h₀ K to n) v ak
theorem ahg {K:gX}(to:Nat->nj)(n:Nat)(h:to n s)(VG:∀n am,to n am->Dk (model c.prog c.w) (A.mark Wm) (yQ (.ref it)) (ahf c C (A.mark Wm) t it body F bs h₀ K to n) Vl am): Dk (model c.prog c.w) A (runOwn (.forLoop t (.ref it) body [] C.env) C.env) (WV c C (n7 c) F bs h₀ K) (WX c C F bs h₀ fy) s:=by
 refine Bf (aks to (λn am ahh=>aS (VG n am ahh) (λr ak q=>?_) λJ J e=>e.elim) n h) (by intro e;exact bM e);cases r with
 | none=>exact Yw q
 | some v=>exact aS q (λJ J q=>aS q (λJ J q=>aS q (λf J q=>by cases f <;> exact q) λJ J e=>e.elim) λJ J e=>e.elim) λJ J e=>e.elim
inductive ahi (c:aZ)(C:Cx)(F:G)(bs:aJ)(h₀:Xi)(k:Nat)(it:Wr)(I:CV)(m:Nat)(s':Gb):Prop
 | mk (F':G) (aK:aJ) (S':AS) (st:Step C.own F bs h₀ F' aK s'.heap) (z:St c C F' aK S' s') (VJ:aK[k]?=AN it) (hI:I m S')
theorem rX {x:Str}{px:Pos}{iter:Nn}{body:fW}{K:gX}{n:Nat}{f:Wr}{self:AV}{snt:Str}(hh:C.handled=Wm)(hn:n+1<=C.n)(hf:FnAt c f)
 (h:Ev c C iter S (λv ai=>∃k,v=.ref k/\(∃o,ai.heap[k]?=AN (.fB o))/\∃I m,I m ai/\∀m S',I m S'->II c C x px body K n f self snt k I m S') fy)
 (hs:∀x,XF iter C.env x=pure x:=by intro _;rfl):lB c C (.For (.Name x px) iter body [] pos) S K fy:=by
 intro A F bs s hA z
 refine dr hf λof fd KZ hf2 hf3=>?_;refine WP.standAt (ag (aS (h A F bs s hA z) (λxv ak pL=>pL.casesOn λF₁ bs₁ v ai an aC hv oC=>?_) λJ J e=>e));obtain ⟨k,e,⟨o,ho⟩,I,m,hI,VG⟩:=oC;subst e;refine aa (hs _) ?_;refine Cg (aC.gq hv ho) λit Da VJ hr hF=>?_;refine rE Da ?_;refine ag (aX (ag (yr (ag (pa ?_)))));obtain obj:∃x y b,ak.heap.get? it=AN (jE x y b):=by
  cases o with
  | none=>refine CB hr λx y e=>?_;exact ⟨x,y,Wn,e⟩
  | some o=>refine dr hr λx y J J e=>?_;exact ⟨x,y,Wp,e⟩
 refine VY obj λafI abx ob io=>ag4 io ?_;refine ahg (ahi c C F bs s.heap k it I) m ⟨F₁,bs₁,ai,an,aC,VJ,hI⟩ ?_;intro m am o1;obtain ⟨aP,aB,aF,av,aI,pM,tP⟩:=o1
 (refine bz (VG m aF tP) (λahj=>?_) (λahk=>?_);refine XZ ahj λhk kk=>?_;rotate_left;refine XZ ahk λhk hc=>?_;rotate_right)
 . refine XZ (aI.wd.obj k it _ pM hk) λGi J=>?_;refine CB Gi λx' y' e'=>?_;clear Gi;refine ahb (hA.handled.trans hh) e' λh' keep=>?_;obtain mv:a7 c aP aB am {am with heap:=h'}:=⟨keep,Z,Z⟩
   exact ⟨aP,aB,.next,aF,av.trans (.keep mv),aI.keep mv,Z,kk⟩
 . refine XZ (aI.wd.obj k it _ pM hk) λOz yh=>?_;refine dr Oz λx' y' qQ hy' e'=>?_;clear Oz;refine Ml hy'.inv λts ahl=>?_;obtain rfl:=ahl;refine dr qQ.inv λq qo ahn io tX=>?_;obtain rfl:=ahn;obtain hfs:∀(F':G) (aK:aJ) (H':aR) (s':Gb),Wd c F' aK H' s'->s'.heap.get? f=AN of:=λF' aK H' s' w=>w.sub _ _ (w.base _ _ KZ (.inl hf2));refine ag8 (hA.handled.trans hh) e' (aI.wd.sub _ _ io) (hfs _ _ _ _ aI.wd) hf3 ?_;obtain hd:=hA.depth;obtain hu:=hA.units;refine NL (hc A.in1 aP aB am [qo] C.frames (hA.handled.trans hh) (by exact XJ (iB hn _) hd) (by show A.units+1+20*n < _;exact aca hn hu) hA.frames aI.frames aI.wd (.cons tX .nil)) λr aO dL=>dL.casesOn λbv aT v H' rv own e ii aL G6 iI eR=>?_;obtain ⟨y,ev,IJ,kk⟩:=eR;subst e ev;refine Ml iI.inv λty aho=>?_;refine rE aho ?_;refine Ml aL.fresh λnb ahq=>?_;clear iI;obtain rfl:=ahq;have rY:(aB++nb)[k]?=AN it:=by refine rE (fb (bA pM).1) ?_;exact pM
   refine XZ (G6.obj k it _ rY IJ) λAT aaZ=>?_;refine dr AT λabb D6 IK qp pr=>?_;clear AT;have a8:=aI.after aL ii G6;have B1:=av.trans (aL.widen λa ha=>.inr (ii a ha));refine Ml qp.inv λahr ahs=>?_;clear qp;obtain rfl:=ahs;refine dr IK.inv λaht ahu ahw ahy aby=>?_;clear IK;obtain rfl:=ahw;refine ⟨y,ty,aht,ahr,ahu,Z,pr,G6.sub _ _ ahy,hfs _ _ _ _ G6,?_⟩
   (refine bz kk (λahz=>?_) (λahB=>?_);refine XZ ahz λe kk=>?_;rotate_left;refine XZ ahB λe kk=>?_;rotate_right)
   . refine .inr ⟨e,λh' same e4=>?_⟩;obtain T:fC it aO {aO with heap:=h'}:=⟨λb q o e=>same b q o e,(cj _ e4),Z,Z⟩
     exact ⟨bv,_,.next,_,B1.trans (.upd T (.inl (bO rY))),a8.upd T rY IJ (by simp) (o':=.fB Wm) (n4 _ _ e4),Z,kk⟩
   . refine .inl ⟨e,rB hA a8 (.str y ty) kk λek ca dd cK ce de iF=>?_⟩;refine aS (iF A ek ca cK hA de) (λfl fe OC=>OC.casesOn λfc dq fv dJ dW eT z0 lr=>?_) (λJ J ahE=>ahE.casesOn λJ J J J J J J q=>q.elim);have C7:=(B1.trans ce).trans dW;obtain D8:dq[k]?=AN it:=by refine Ml ((ce.trans dW).fresh) λvR e5=>(ar e5)▸(ar (fb (bA rY).1))▸?_;exact rY
     cases fv with
     | next=>subst z0;obtain ⟨m',hm,G7⟩:=lr;exact (af m' hm ⟨fc,dq,dJ,C7,eT,D8,G7⟩)
     | cont=>subst z0;obtain ⟨m',hm,G7⟩:=lr;exact (af m' hm ⟨fc,dq,dJ,C7,eT,D8,G7⟩)
     | brk=>subst z0;exact ⟨fc,dq,.next,dJ,C7,eT,Z,lr⟩
     | ret u=>clear OC;refine Va z0 λru ahK WD=>?_;clear z0;obtain rfl:=ahK;exact ⟨fc,dq,.ret u,dJ,C7,eT,(af ru Z WD),lr⟩
end
noncomputable def j7 {α:Type}(lo hi st:Option Int)(xs:List α):List α:=(amr (YZ lo hi st xs.length).1 (YZ lo hi st xs.length).2.1 (YZ lo hi st xs.length).2.2).filterMap (xs[·]?)
theorem t5 (xs:List α):j7 Wm Wm (AN (-1)) xs=xs.reverse:=by
 delta j7;obtain e:amr (YZ Wm Wm (AN (-1)) xs.length).1 (YZ Wm Wm (AN (-1)) xs.length).2.1 (YZ Wm Wm (AN (-1)) xs.length).2.2=(WG xs.length).map λk=>xs.length-1-k:=by
  delta amr YZ;dsimp only [Option.getD_some,show ¬((-1:Int) > 0) by decide,show ¬((0:Int) < -1) by decide,if_false];obtain h:(if ((xs.length:Int)-1) > -1 then ((xs.length:Int)-1 - -1 - -1-1) / (- -1) else 0).toNat=xs.length:=by
   by_cases hn:(xs.length:Int)-1 > -1
   . refine aa (if_pos hn) ?_;obtain this:((xs.length:Int)-1 - -1 - -1-1) / (- -1)=xs.length:=by obtain e:(- -1:Int)=1:=rfl;exact rE e (aa (Int.ediv_one _) (by lia))
     refine rE this ?_;simp
   . exact aa (if_neg hn) (abU hn)
  refine rE h ?_;apply WL;intro k hk;exact abV
 refine (ar e)▸(ar aiA)▸?_;obtain h1:(WG xs.length).filterMap ((λi=>xs[i]?) ∘ λk=>xs.length-1-k)=(WG xs.length).filterMap (xs.reverse[·]?):=by
  obtain this:∀l:au,(∀k∈l,k<xs.length)->l.filterMap ((λi=>xs[i]?) ∘ λk=>xs.length-1-k)=l.filterMap (xs.reverse[·]?):=by
   intro l;induction l with
   | nil=>intro _;rfl
   | cons a l ih =>intro hl;refine rE N5 (aa N5 (aa (ih λk hk=>hl k (.tail _ hk)) (aa (ajY (hl a (.head _))) ?_)));rfl
  exact this _ λk hk=>wN.mp hk
 obtain h2:=anB xs.reverse xs.length 0 (by simp);refine rE h1 ?_;obtain h3:=h2.trans (show (xs.reverse.drop 0).take xs.length=xs.reverse by refine aa ams ?_;exact b0 (by simp));simpa using h3
section
variable {s s':Gb}{pos:Pos}
theorem bh.pick (h:c.Vs F bs xs vs)(l:au):c.Vs F bs (l.filterMap (xs[·]?)) (l.filterMap (vs[·]?)):=by
 induction l with
 | nil=>exact .nil
 | cons i l ih=>
   refine (ar N5)▸(ar N5)▸?_;cases hx:xs[i]? with
   | none=>simp only [h.get_none hx];exact ih
   | some x=>refine Va (h.get hx) λv e hv=>?_;simp only [e];exact .cons hv ih
theorem pN {lo hi:Option Nn}{st:Nn}(h:Ev c C wp S (λo ai=>Qx c C lo ai (λl aF=>Qx c C hi aF (λu bd=>Qx c C (AN st) bd (λd dd=>∃xs,dD dd o xs/\d≠AN 0/\xs.length<=Wo/\rD K (j7 l u d xs) dd) X) X) X) X):Ev c C (.Subscript wp (.Slice lo hi (AN st) p) pos) S K X:=by
 intro A F bs s hA z;refine WP.bind (h A F bs s hA z) λF₁ bs₁ ai ak o ro an aC ho tj=>ag (pa (alY (aS (mG hA aC tj) (λrl am ahL=>ahL.casesOn λaP aB l aF av aI hl S4=>aS (mG hA aI S4) (λru aO ahM=>ahM.casesOn λbv aT u bd aL a8 hu bR=>aS (mG hA a8 bR) (λrd ge ahN=>ahN.casesOn λF₀ bs₀ d abc gP OD hd ahO=>Cg ahO λxs AP fE hsz k=>?_) λx aO ahP=>ahP.casesOn λF₀ bs₀ u bd gP a8 hu bR=>⟨F₀,bs₀,u,bd,(av.trans aL).trans gP,a8,hu.back (av.trans aL).mono,bR⟩) λx aO ahQ=>ahQ.casesOn λbv aT u bd aL a8 hu bR=>⟨bv,aT,u,bd,av.trans aL,a8,hu.back av.mono,bR⟩) λJ J e=>e)));obtain Do:=gP.V (aL.V (av.V ho));refine FN (OD.rC AP Do) λa vs n o1 hL bn=>?_;refine rE o1 ?_;refine ag (yr ?_);generalize iJ:({ge with heap:=ge.heap.push {cls:=.type "slice",data:=.fields #[rl,ru,rd]}}:Gb)=cK;obtain pu:a7 c F₀ bs₀ ge cK:=by simp only [<-iJ];exact ⟨λb o e=>cC _ e,Z,Z⟩
 obtain nM:cK.heap.IsSliceOf ge.heap.objs.size rl ru rd:=by refine iJ▸?_;exact akU ..
 obtain de:=OD.keep pu;obtain wH:cK.heap.IsList a vs.toArray:=(di _ (pu.keep _ _ hL) Z n Z)
 refine ag (ag (X0 wH.typeIs akv ?_));obtain fin:Dk (model c.prog c.w) A (operate [.ref a,.ref ge.heap.objs.size] (X2 (.ref a) (.ref ge.heap.objs.size)) >>= λr=>YG wp (.ref a) r >>= λJ=>pure r)
  (WV c C c.V F₁ bs₁ ak.heap K)
  (WX c C F₁ bs₁ ak.heap X) cK:=by
  refine ag (XK (ai5 wH nM hl hu hd fE (ag (A4 (aX ?_))) (by simpa [bn.length] using hsz)));obtain e:amU vs.toArray l u d=(j7 l u d vs).toArray:=by delta amU j7;simp
  refine rE e ?_;obtain m0:c.Vs F₀ bs₀ (j7 l u d xs) (j7 l u d vs):=by delta j7;refine aa bn.length ?_;exact bn.pick _
  generalize j7 l u d vs=ws at m0;obtain AW:a7 c F₀ bs₀ cK {cK with heap:=cK.heap.push (bu ws 0)}:=⟨λb o e=>cC _ e,Z,Z⟩
  obtain ⟨F',aK,v,S',st,z',hv,kk⟩:=de.AQ AW (St.gZ cK) (dB _ Z) m0 k;exact ⟨F',aK,v,S',(((av.trans aL).trans gP).trans (.keep pu)).trans st,z',hv,kk⟩
 first
  | exact aX fin
  | exact ag (aX fin)
  | exact fin
end
end Mine.Internal
namespace Mine.Internal
open PySem PyProof.Rows
section
variable {s s':Gb}{pos:Pos}
theorem bh.ints (h:c.Vs F bs (l.map .int) vs):Zv vs l:=by
 induction l generalizing vs with
 | nil=>refine rE h.inv ?_;exact .nil
 | cons x l ih=>refine dr h.inv λJ J ahR h t=>?_;refine rE ahR ?_;refine Ml h.inv λJ ahS=>?_;refine rE ahS ?_;exact .cons _ _ (ih t)
theorem ahT (k:K (.int i) S):eJ c C (.type "int") [.int i] S K X:=by intro A F bs s rs hA z hv;refine Va hv.one λr yf h1=>?_;refine rE yf ?_;clear hv;refine Ml h1.inv λJ tH=>?_;refine rE tH ?_;exact call_int_int ⟨F,bs,.int i,S,.refl ..,z,.int _ _,k⟩
theorem IL {ns:List Int}(hh:C.handled=Wm)(h:dD S v (ns.map .int))(k:K (.int ns.sum) S):eJ c C (.builtin "sum") [v] S K X:=by
 intro A F bs s rs hA z hv;refine Va hv.one λr qR h1=>?_;refine rE qR ?_;clear hv;refine FN (z.rC h h1) λl vs n o9 h0 bn=>?_;refine rE o9 ?_;have hi:=bn.ints;refine Ml hi.allInts.items λxs hx=>?_;obtain hl:s.heap.IsList l vs.toArray:=(di _ h0 Z n Z)
 replace hl:=hx▸hl;refine sum_intListG (hA.handled.trans hh) hl λh' tk t' hk=>?_;obtain e1:ns=xs.toList.map (·.1):=by
  rw [<-nums_intItems];exact hx▸((show numsOf vs.toArray.toList=ns from hi.numsOf).symm)
 obtain e2:preSum (numAt xs) xs.size=ns.sum:=by exact aa (preSum_eq _ _) (aa (b0 (by simp)) (aa e1 Z))
 refine rE e2 ?_;obtain m:a7 c F bs s {s with heap:=h',toks:=tk}:=⟨hk,Z,Z⟩
 exact ⟨F,bs,.int ns.sum,S,.keep m,z.keep m,.int _ _,k⟩
end
end Mine.Internal
namespace Mine.Internal
open PySem PyProof.Rows PySem.W
section
variable {prog:AZ}{w:X3}{s s':Gb}{pos:Pos}{Cl:Wr}
theorem bL.get {kvs:List (Int×AV)}{rs:List (Int×Ws)}(k:Int)(h:c.IV F bs kvs rs):(∃x v,bC kvs k=AN x/\Ze rs k=AN v/\c.V F bs x v)\/(bC kvs k=Wm/\Ze rs k=Wm):=by
 delta bC Ze;induction kvs generalizing rs with
 | nil=>obtain rfl:=h.inv;exact .inr ⟨Z,Z⟩
 | cons p l ih=>
   refine dr h.inv λw r wE hx t=>?_;refine rE wE ?_;refine (ar (lS))▸(ar (lS))▸?_;cases decide (p.1=k) with
   | true=>exact .inl (bW _ _ Z Z hx)
   | false=>exact ih t
theorem bL.del {kvs:List (Int×AV)}{rs:List (Int×Ws)}(k:Int)(h:c.IV F bs kvs rs):c.IV F bs (yj kvs k) (rs.filter λkv=>kv.1≠k):=by
 delta yj;induction kvs generalizing rs with
 | nil=>refine rE h.inv ?_;exact .nil
 | cons p l ih=>
   refine dr h.inv λw r yp hx t=>?_;refine rE yp ?_;refine rE XB ?_;simp only [XB];cases decide (p.1≠k) with
   | true=>exact .cons hx (ih t)
   | false=>exact ih t
def yG (S:AS)(v:AV)(kvs:List (Int×AV)):Prop:=v=.dQ kvs\/∃k,v=.ref k/\S.heap[k]?=AN (.bB kvs)
theorem St.tabI (z:St c C F bs S s)(h:yG S v kvs)(hv:c.V F bs v r):∃d rs,r=.ref d/\s.heap.DictOf (ik c.prog c.w) d rs/\(d==wW)=Wp/\c.IV F bs kvs rs:=by
 (refine bz h (λDa=>?_) (λyl=>?_);obtain rfl:=Da;rotate_left;clear h;refine Va yl λk ym hk=>?_;clear yl;obtain rfl:=ym;rotate_right)
 . refine dr hv.inv λJ J ut h1 h2=>?_;obtain rfl:=ut;exact ⟨_,_,Z,(h1.sub z.wd.sub).dictOf,(let ⟨_,_,_,_,_,_,e⟩:=h1;e),h2⟩
 . refine Cg (z.gq hv hk) λa Db hb uQ J=>?_;refine Va uQ λrs h1 h2=>?_;refine rE Db ?_;exact ⟨a,rs,Z,h1.dictOf,(let ⟨_,_,_,_,_,_,e⟩:=h1;e),h2⟩
theorem ahU (h:yG S v kvs)(k:K (.bool (bC kvs x).isSome) S):iA c C (Xp .In) (.int x) v S K X:=λA F bs s ra rb hA z ha hb=>by
 refine Ml ha.inv λJ uR=>?_;refine rE uR ?_;refine Cc (z.tabI h hb) λd rs uS h1 h2 h3=>?_;refine rE uS ?_;refine WP.kept z λQ E q=>wpAny_in_of (Cn x _) h2 h1.mapOf (q _ _ (.toks ..) (af (.bool (bC kvs x).isSome) ?_ k));obtain this:(Ze rs x).isSome=(bC kvs x).isSome:=by
  (refine bz (bL.get x h3) (λDh=>?_) (λDi=>?_);refine dr Dh λJ J e1 e2 J=>?_;rotate_left;refine XZ Di λe1 e2=>?_;rotate_right) <;> simp [e1,e2]
 exact rE this (.bool _)
theorem je (h:yG S v kvs)(hy:bC kvs x=AN y)(k:K y S):iA c C X2 v (.int x) S K X:=λA F bs s ra rb hA z ha hb=>by
 refine Ml hb.inv λJ uT=>?_;refine rE uT ?_;refine Cc (z.tabI h ha) λd rs uU h1 h2 h3=>?_;refine rE uU ?_
 (refine bz (bL.get x h3) (λAR=>?_) (λAT=>?_);refine dr AR λy' w e1 e2 e3=>?_;rotate_left;refine XZ AT λe1 e2=>?_;rotate_right)
 . obtain rfl:=bf (aM (ar hy) e1);exact WP.kept z λQ E q=>aly (Cn x _) h1.mapOf e2 (q _ _ (.toks ..) (af y e3 k))
 . exact lj (aM (ar hy) e1)
theorem hG (h:yG S v xs):∃T id,uN S v=AN T/\Oy (.type T) "__getitem__"=pure (AN (.builtin id)):=by
 (refine bz h (λJX=>?_) (λDj=>?_);clear h;obtain rfl:=JX;rotate_left;clear h;refine Va Dj λk uW hk=>?_;clear Dj;obtain rfl:=uW;rotate_right)
 . exact (d8 _ _ Z wZ.lookup)
 . exact (d8 ("dict") _ (gO hk Z) wZ.lookup)
abbrev ahX (v ov:AV)(K:dp):cu:=λiv S=>∃k x kvs,ov=.ref k/\iv=.int x/\S.heap[k]?=AN (.bB kvs)/\kvs.length<=Wo/\K {S with heap:=S.heap.set k (.bB (ct kvs x v))}
abbrev ah2 (c:aZ)(C:Cx)(i:Nn)(v:AV)(K:dp)(X:cR):cu:=λov S=>Ev c C i S (ahX v ov K) X
theorem pO {K:dp}(h:Ev c C o S (ah2 c C i v K X) X):wm c C (.Subscript o i pos) v S K X:=by
 intro A F bs s r hA z hv;refine WP.bind (WP.holding (h A F bs s hA z)) λF₁ bs₁ ai ak ov Im an aC lq tj=>WP.bind (WP.holding (tj A F₁ bs₁ ak hA aC)) λaP aB aF am iv WN av aI Mg Dl=>Wa Dl λk x kvs e1 e2 hk hsz S4=>?_;clear Dl tj;subst e1 e2;refine Ml Mg.inv λJ J2=>?_;refine rE J2 ?_;refine Cg (aI.gq (av.V lq) hk) λa Dm hb rG J=>?_;refine Va rG λrs hD po=>?_;refine rE Dm ?_;refine WP.standAt (ag (pa (akt (Cn x _) (hD.dictOf) (λh' uY dz=>nA ?_) (by obtain this:=congrArg XG (bL.keys po);simp at this;exact ar this▸hsz))));obtain wG:=(let ⟨_,_,_,_,_,_,e⟩:=hD;e)
 obtain uZ:=lH.rx uY wG;obtain T:fC a am {am with heap:=h',toks:=am.toks+1}:=⟨λb q o e=>(dz.2 b q).trans e,(let ⟨_,_,e,_⟩:=uZ;(cj _ e)),Z,Z⟩
 exact ⟨aP,aB,(),_,.upd T (.inl (bO hb)),aI.upd (o':=.bB (ct kvs x v)) T hb hk (by simp) (af _ uZ (bL.put x po (av.V (an.V hv)))),trivial,S4⟩
theorem pP (B:Base c mg mb)(k:K (.ref S.heap.length) {S with heap:=S.heap++[.bB []]}):Ev c C (.Dict [] [] pos) S K X:=by
 intro A F bs s hA z;refine alx ?_;obtain hn:=gf (bP _);obtain m:a7 c F bs s {s with heap:=s.heap.push (a9 #[] 0)}:=⟨λb o e=>cC _ e,Z,Z⟩
 obtain ha:({s with heap:=s.heap.push (a9 #[] 0)}:Gb).heap.get? s.heap.objs.size=AN (a9 #[] 0):=dB _ Z;refine ⟨F,_,.ref S.heap.length,_,.new m hn,z.new (o:=.bB []) m hn ha (af [] ⟨#[],0,ha,λe he=>by simp at he,?_,Nq,z.uO B hn⟩ (.nil)),.ref ?_,k⟩
 . exact .nil
 . refine z.wd.len▸?_;simp
theorem c9.bB (x:Nat)(hx:S.loc.lookup x=AN (.ref k))(hk:S.heap[k]?=AN (.bB xs)):c9 c C S ⟨ck S.loc x (.dQ xs),S.heap.set k .gone⟩:=λF bs s z=>by
 obtain dc:k<bs.length:=by simp only [z.wd.len];exact (bA hk).1
 obtain ⟨a,ha⟩:∃a,bs[k]?=AN a:=(cj _ (cm dc))
 refine XZ (z.wd.obj k a _ ha hk) λo6 hF=>?_;refine Va o6 λrs o8 h2=>?_;obtain ⟨es,n,h1,h3⟩:=o8;obtain yh:=hF (by simp);refine (af (plus F a (a9 es n)) (Step.freeze (bO ha) yh) ?_);obtain z':=z.freeze ha hk (by simp) h1 (by simp [bu,a9]);refine z'.zJ x (.ref k) (.dQ xs) hx λr hr=>?_;refine Va hr.inv λJ o2 e=>?_;refine rE o2 ?_;clear hr;refine (bf (ha.symm.trans e))▸(.dQ ⟨es,n,bU,h3⟩ ?_)
 simpa using bL.mono (nb:=[]) (aY yh) h2
theorem rZ (h:yG S v kvs)(k:K ((bC kvs x).getD .none) S):eJ c C (.builtin "dict.get") [v,.int x] S K X:=by
 intro A F bs s rs hA z hv;refine dr hv.two λr q uS h1 h2=>?_;refine rE uS ?_;refine Ml h2.inv λJ uT=>?_;refine rE uT ?_;clear hv;refine Cc (z.tabI h h1) λd rs uU hD A5 rp=>?_;refine rE uU ?_;refine WP.kept z λQ E q=>tq ahG hD.typeIs PySem.F.entry_dict_get (PySem.F.args_dict_get_2 _ _) (meets_dict_get (ik c.prog c.w) d (hkey:=Cn x _) A5) (af _ hD.mapOf (q _ _ (.toks ..) (af _ ?_ k)))
 (refine bz (bL.get x rp) (λGZ=>?_) (λKS=>?_);refine dr GZ λy w e1 e2 e3=>?_;rotate_left;refine XZ KS λe1 e2=>?_;rotate_right)
 . refine rE e1 ?_;simp only [e2];exact e3
 . refine (ar e1)▸?_;simp only [e2];exact .none
theorem bL.at {kvs:List (Int×AV)}{rs:List (Int×Ws)}(h:c.IV F bs kvs rs)(i:Nat)(k:Int)(v:Ws)(e:rs[i]?=AN (k,v)):∃y,kvs[i]?=AN (k,y)/\c.V F bs y v:=by
 induction kvs generalizing rs i with
 | nil=>obtain rfl:=h.inv;exact bM e
 | cons p l ih=>
   obtain ⟨_,_,rfl,h,t⟩:=h.inv;cases i with
   | zero=>clear ih;obtain ⟨rfl,DT⟩:=G2 (bf e);refine DT▸?_;exact (af _ Z h)
   | succ i=>exact ih t i e
theorem bL.length {kvs:List (Int×AV)}{rs:List (Int×Ws)}(h:c.IV F bs kvs rs):rs.length=kvs.length:=by obtain this:=congrArg XG (bL.keys h);simpa using this
theorem ah4 {K:bZ->(aR->Prop)->dp}(h:Ev c C iter S (λv ai=>∃kvs,v=.dQ kvs/\K (kvs.map λp=>.int p.1) (λJ=>True) ai) X):jW c C (.Name x px) iter S K X:=by
 refine wC (kG h λv ai DU=>Va DU λkvs e k A F bs s r hA z hv=>?_);clear DU;subst e;refine dr hv.inv λa rs uV hd bn=>?_;refine rE uV ?_;obtain A5:(a==wW)=Wp:=let ⟨_,_,_,_,_,_,q⟩:=hd
 q
 obtain ⟨o,ho⟩:∃o,F a=AN o:=let ⟨_,_,e,_⟩:=hd
 (cj _ e)
 obtain sp:lH (ik c.prog c.w) s.heap.get? a rs:=hd.sub z.wd.sub;refine Ml sp.dictAt λep qz=>alg A5 qz ?_;obtain hn:s.heap.get? s.heap.objs.size=Wm:=gf (bP _);generalize io:({cls:=.type "dict_keyiterator",data:=.fields #[.ref a,.int 0 0,.int rs.length 0,.int ep 0]}:Obj)=ob;obtain ha:(s.heap.push ob).get? s.heap.objs.size=AN ob:=dB _ (by refine io▸?_;rfl);have m:a7 c F bs s {s with heap:=s.heap.push ob}:=⟨λb o e=>cC _ e,Z,Z⟩
 obtain eQ:a≠s.heap.objs.size:=cI (M7 (z.wd.sub _ _ ho));refine ⟨F,bs,ai,_,kvs.map λp=>.int p.1,_,[s.heap.objs.size],_,Z,.keep m,z.keep m,Ce.walks (F₀:=F) (bs₀:=bs) (λA hA=>amn hA s.heap.objs.size a eQ rs ep) (by simpa using bL.length bn) ?_ ?_ ?_,
  (ee ⟨(aU ob ha (az io Z) (by refine az io ?_;rfl)),qz.at' λo e=>m.keep _ _ e⟩ (Dv _) (λJ J e=>e) [] (by simp)),λa q=>by refine aa (bN q) ?_;exact hn,cx.one z hn ha (by refine az io ?_;simp) (by refine az io ?_;simp),trivial,k⟩
 . intro b hb;rcases eO hb with e | hb
   . exact .inl (by simp [e])
   . exact aa (bN hb) (.inr (cj _ ho))
 . intro i v _ ⟨kk,u,h1,h2⟩;refine Va (bL.at bn i kk u h1) λy e1 J=>(af (.int kk) (by simp only [bV,e1];rfl) ?_)
   refine Ml (alj h2) λt uW=>?_;refine rE uW ?_;exact .int _ _
 . intro i h be b hb;refine XZ be λpt J=>?_;refine N1 pt λo e1 e2 J=>?_;exact rE (bN hb) (aU o e1 (by refine aa e2 ?_;simp) (by refine aa e2 ?_;simp))
theorem aib {x:Str}{px H6:Pos}{o:Nn}{K:bZ->(aR->Prop)->dp}(h:Ev c C o S (λv ai=>∃kvs,v=.dQ kvs/\K (kvs.map (·.2)) (λJ=>True) ai) X)
 (gp:XR o "values" C.env (eval o C.env)=eval o C.env:=by rfl)
 (rz:((W3 pos (M4 [] C.env)).all (λx=>!x.1)&&(DN pos (Xk [] C.env)).all (λx=>x.1.isSome)
  && decide (([]:cJ).length+([]:List YC).length+(if ([]:List YC).isEmpty then 0 else 1)<30))=Wn:=by rfl)
 (hline:(H6.endLine==pos.line)=Wn:=by rfl):jW c C (.Name x px) (.Call (.Attribute o "values" H6) [] [] pos) S K X:=by
 intro A F bs s hA z;refine Yo gp rz hline (aS (h A F bs s hA z) (λr ak pL=>pL.casesOn λF₁ bs₁ ov ai an aC lq oC=>?_) λJ J e=>e);obtain ⟨kvs,e,tj⟩:=oC;subst e;refine XZ (aC.ty (T:="dict") Z lq) λt1 t2=>(mC ("dict") ("dict.values") X4 Yl ai7 t1 t2 (X8 (by rfl) (iw _ (λJ q=>nomatch q) ?_)))
 refine aX ?_;refine dr lq.inv λa rs uX hd bn=>?_;clear t2 lq;obtain rfl:=uX;obtain A5:(a==wW)=Wp:=let ⟨_,_,_,_,_,_,q⟩:=hd
 q
 obtain ⟨o,ho⟩:∃o,F₁ a=AN o:=let ⟨_,_,e,_⟩:=hd
 (cj _ e)
 obtain sp:lH (ik c.prog c.w) ak.heap.get? a rs:=hd.sub aC.wd.sub;refine Ml sp.dictAt λep qz=>tq Yl t1 aiP (aiB _) (alk (ik c.prog c.w) a A5) ⟨(cj _ qz.dictOf),?_⟩;generalize B3:({cls:=.type "dict_values",data:=.fields #[.ref a]}:Obj)=ow;generalize bi:({ak with heap:=ak.heap.push ow}:Gb)=am;obtain Cr:a7 c F₁ bs₁ ak am:=by refine az bi ?_;exact ⟨λb o e=>cC _ e,Z,Z⟩
 obtain aI:=aC.keep Cr;obtain hw:am.heap.IsValuesView ak.heap.objs.size a:=by refine az bi ?_;exact (aU ow (dB _ (by refine az B3 ?_;rfl)) (az B3 Z) (az B3 Z))
 obtain r4:am.heap.DictAt (ik c.prog c.w) a rs ep:=qz.at' λo e=>Cr.keep _ _ e;refine akB hw r4 ?_;obtain hn:am.heap.get? am.heap.objs.size=Wm:=gf (bP _);generalize io:({cls:=.type "dict_valueiterator",data:=.fields #[.ref a,.int 0 0,.int rs.length 0,.int ep 0]}:Obj)=ob;obtain ha:(am.heap.push ob).get? am.heap.objs.size=AN ob:=dB _ (by refine az io ?_;rfl);obtain m:a7 c F₁ bs₁ am {am with heap:=am.heap.push ob}:=⟨λb o e=>cC _ e,Z,Z⟩
 obtain eQ:a≠am.heap.objs.size:=cI (M7 (aI.wd.sub _ _ ho));obtain OG:s.heap.get? am.heap.objs.size=Wm:=by
  cases q:s.heap.get? am.heap.objs.size with
  | none=>rfl
  | some o=>refine Ml ((an.trans (.keep Cr)).mono _ _ q) λo' e'=>?_;exact bM (aM (ar hn) e')
 refine ⟨F₁,bs₁,ai,_,kvs.map (·.2),_,[am.heap.objs.size],_,Z,(an.trans (.keep Cr)).trans (.keep m),aI.keep m,Ce.walks (F₀:=F₁) (bs₀:=bs₁) (λA hA=>alD hA am.heap.objs.size a eQ rs ep) (by simpa using bL.length bn) ?_ ?_ ?_,
  (ee ⟨(aU ob ha (az io Z) (by refine az io ?_;rfl)),r4.at' λo e=>m.keep _ _ e⟩ (Dv _) (λJ J e=>e) [] (by simp)),λa q=>by refine aa (bN q) ?_;exact OG,cx.one aI hn ha (by refine az io ?_;simp) (by refine az io ?_;simp),trivial,tj⟩
 . intro b hb;rcases eO hb with e | hb
   . exact .inl (by simp [e])
   . exact aa (bN hb) (.inr (cj _ ho))
 . intro i v _ ⟨kk,h1⟩;exact Va (bL.at bn i kk v h1) λy e1 e2=>(af y (by refine aa bV (aa e1 ?_);rfl) e2)
 . intro i h be b hb;refine XZ be λwE J=>?_;clear be;refine N1 wE λo e1 e2 J=>?_;clear wE;exact aa (bN hb) (aU o e1 (by refine aa e2 ?_;simp) (by refine aa e2 ?_;simp))
theorem c9.Bb (d:Nat)(IM:gh)(hd:S.heap[d]?=AN (.aN OH))(hk:S.heap[k]?=AN (.bB kvs))(eQ:d≠k)(hr:vb k (.dQ kvs) OH IM): c9 c C S ⟨S.loc,(S.heap.set k .gone).set d (.aN IM)⟩:=λF bs s z=>by
 obtain dc:k<bs.length:=by simp only [z.wd.len];exact (bA hk).1
 obtain ⟨a,ha⟩:∃a,bs[k]?=AN a:=(cj _ (cm dc))
 refine XZ (z.wd.obj k a _ ha hk) λwF hF=>?_;refine Va wF λrs rG h2=>?_;obtain ⟨es,n,h1,h3⟩:=rG;obtain yh:=hF (by simp);refine (af (plus F a (a9 es n)) (Step.freeze (bO ha) yh) ?_);have z':=z.freeze ha hk (by simp) h1 (by simp [bu,a9]);obtain aic:d<bs.length:=by simp only [z.wd.len];exact (bA hd).1
 obtain ⟨da,JD⟩:∃a,bs[d]?=AN a:=(cj _ (cm aic))
 have sp:(S.heap.set k .gone)[d]?=AN (.aN OH):=by refine (ar (bc (Gy eQ)))▸?_;exact hd
 refine XZ (z'.wd.obj d da _ JD sp) λun J=>?_;refine Va un λM6 g1 g2=>?_;obtain T:fC da s s:=⟨λJ J J e=>e,z.wd.there da (bO JD),Z,Z⟩
 refine z'.upd T JD sp (by simp) (af M6 g1 (hr.rel (λr hv=>?_) g2));refine Va hv.inv λJ JZ e=>?_;refine rE JZ ?_;clear hv;refine (bf (ha.symm.trans e))▸(.dQ ⟨es,n,bU,h3⟩ ?_)
 simpa using bL.mono (nb:=[]) (aY yh) h2
theorem aie {kvs:List (Int×AV)}{rs:List (Int×Ws)}(h:c.IV F bs kvs rs)(x:Int):c.IV F bs (yj kvs x) (without rs x):=bL.del x h
theorem aif {K:gX}(h:Ev c C o S (λov ai=>Ev c C i ai (λiv aF=>∃k x kvs,ov=.ref k/\iv=.int x/\aF.heap[k]?=AN (.bB kvs)/\kvs.length<=Wo/\(bC kvs x).isSome=Wn/\K .next {aF with heap:=aF.heap.set k (.bB (yj kvs x))}) X) X): lB c C (.Delete [.Subscript o i abz] pos) S K X:=by
 intro A F bs s hA z;refine ag (yr (ag (ag (ag (aS (h A F bs s hA z) (λov ak OI=>OI.casesOn λF₁ bs₁ v ai an aC hv tj=>ag (pa (aS (tj A F₁ bs₁ ak hA aC) (λiv am dL=>dL.casesOn λaP aB v' aF av aI m0 eR=>?_) λx am aii=>aii.casesOn λaP aB cls aF av aI hx S4=>⟨aP,aB,cls,aF,an.trans av,aI,hx.back an.mono,S4⟩))) λJ J e=>e)))));obtain ⟨k,x,kvs,e1,e2,hk,hl,hx,S4⟩:=eR;clear tj;subst e1 e2;refine ag (yr ?_);have aij:=av.V hv;clear hv OI;refine Cg (aI.gq aij hk) λa aik ha Jx J=>?_;refine Va Jx λrs hD rp=>?_;refine rE aik ?_;refine Ml m0.inv λtk Az=>?_;refine rE Az ?_;obtain uY:=hD.dictOf;refine ag (pa (wpAny_delItem_slot uY.typeIs (Z) aiQ (tq aiQ uY.typeIs PySem.F.entry_dict_delitem (PySem.F.args_dict_delitem_2 _ _) (meets_dict_delitem_pairs (ik c.prog c.w) a (Cn x tk)) (kz rs uY (by refine rE (bL.length rp) ?_;exact hl) ?_ (λh' hm hs=>?_)))))
 . (refine bz (bL.get x rp) (λGF=>?_) (λGE=>?_);refine dr GF λy w e1 e2 e3=>?_;rotate_left;refine XZ GE λe1 e2=>?_;rotate_right)
   . refine rE e2 ?_;rfl
   . replace hx:=e1▸hx;exact Cb hx
 . refine nA (aX (aX ?_));obtain A5:=let ⟨_,_,_,_,_,_,q⟩:=hD
   q
   refine VN (id hm) λob J J io J=>?_;obtain this:=aI.N9 (s':={am with heap:=h',toks:=am.toks+1}) (o':=.bB (yj kvs x)) ha hk (by simp) hs Z Z Z (cj ob io) (af (without rs x) (lH.rx hm A5) (aie rp x));exact ⟨aP,aB,.next,_,(an.trans av).trans this.1,this.2,Z,S4⟩
theorem ail (k:K (.ref S.heap.length) {S with heap:=S.heap++[.iD []]}):eJ c C (.type "set") [] S K X:=by
 intro A F bs s rs hA z hv;cases hv;refine call_set_0 λVK=>?_;obtain m:a7 c F bs s {s with heap:=s.heap.push {cls:=.type "set",dict:=Wm,data:=.set #[] 0 (.fresh 0 0 VK)}}:=⟨λb o e=>cC _ e,Z,Z⟩
 obtain hg:(s.heap.push {cls:=.type "set",dict:=Wm,data:=.set #[] 0 (.fresh 0 0 VK)}).get? s.heap.objs.size=AN {cls:=.type "set",dict:=Wm,data:=.set #[] 0 (.fresh 0 0 VK)}:=dB _ Z;exact z.GN (o:=.iD []) m (St.gZ s) hg (amH ((amb (knd:=ik c.prog c.w) VK).setOf hg (by unfold OK;exact (J4 Z))) (λJ=>Z) Z) k
theorem z8 (h:S.heap[k]?=AN (.iD D))(kk:K (.bool (decide (x∈D))) S):iA c C (Xp .In) (.int x) (.ref k) S K X:=λA F bs s ra rb hA z ha hb=>by refine Ml ha.inv λJ o5=>?_;refine rE o5 ?_;refine Cg (z.gq hb h) λa o4 ha hS J=>?_;refine rE o4 ?_;exact WP.kept z λQ E q=>wpAny_inSet_of (Cn x _) Z hS (q _ _ (.toks ..) (af _ (.bool _) kk))
theorem aim (h:S.heap[k]?=AN (.iD D))(hl:D.length<1000)(kk:K .none {S with heap:=S.heap.set k (.iD (if x∈D then D else D++[x]))}):eJ c C (.builtin "set.add") [.ref k,.int x] S K X:=by
 intro A F bs s rs hA z hv;refine dr hv.two λr q o3 h1 h2=>?_;refine rE o3 ?_;refine Ml h2.inv λJ o2=>?_;refine rE o2 ?_;clear hv;refine Cg (z.gq h1 h) λa o1 ha hS J=>?_;refine rE o1 ?_;refine call_set_add (Cn x _) Z hS (by exact dg hl (WO (GH 1000) 3095)) λh' KP Mm=>?_;refine Wi (id Mm) λob J J J io J=>?_;have:=z.N9 (s':={s with heap:=h',toks:=s.toks+1}) (o':=.iD (if x∈D then D else D++[x])) ha h (by simp) KP Z Z Z (cj ob io) (alZ Mm (λy=>?_) ?_)
 . exact ⟨F,bs,.none,_,this.1,this.2,.none,kk⟩
 . by_cases q:x∈D
   . simp only [q,if_true];by_cases e:y=x
     . cases e;simp [q]
     . simp [e]
   . simp only [q,if_false,M3,MX];by_cases e:y∈D <;> simp [e]
 . by_cases q:x∈D <;> simp [q]
end
end Mine.Internal
namespace Mine.Internal
open PySem PyProof.Rows
noncomputable abbrev aa0 (l:bD):AV:=.lst (l.map .str)
theorem Ct (x y:Str):(x++y).length=x.length+y.length:=by show (x.cps++y.cps).size=_;simp [cv]
end Mine.Internal
namespace Mine.Internal
open PySem PyProof.Rows PySem.W
noncomputable abbrev jw:fW:=am6.main.body
theorem ints_snoc (l:List Int)(x:Int):l.map AV.int++[AV.int x]=(l++[x]).map AV.int:=by simp
noncomputable def ic:fW:=jd jw 8
noncomputable def ain:fW:=jd jw 6
noncomputable def qT:mK:=dO ic 0
noncomputable def yI:mK:=dO ic 1
noncomputable def w8:mK:=dO ic 2
noncomputable def yJ:mK:=dO ic 3
noncomputable def vf:mK:=dO ic 4
noncomputable def r5:mK:=dO ic 5
noncomputable def yK:mK:=dO ic 7
noncomputable def oO:mK:=dO ic 8
noncomputable def vh:mK:=dO ain 1
structure qU where
 cS:Wr
 cN:Wr
 t6:Wr
 info:Wr
 add:Wr
 w9:Wr
 ready:Wr
 lW:Wr
 done:Wr
 qq:Wr
 qs:Wr
noncomputable def attrOk (Kf:DW)(Cl:Wr)(name:Str):Bool:=storeOk Kf Cl name&&Yp Kf (.ref Cl) name==AN Wm
structure vi (c:aZ)(mg mb:eI)(Kf:DW)(a:qU):Prop where
 B:eK c mg mb Kf
 attrs:(attrOk Kf a.cS "_node2info"&&attrOk Kf a.cS "_ready_nodes"&&attrOk Kf a.cS "_npassedout"&&attrOk Kf a.cS "_nfinished")=Wn
 slots:slotAt Kf a.cN "node"=AN 0/\slotAt Kf a.cN "npredecessors"=AN 1/\slotAt Kf a.cN "successors"=AN 2
 mkN:t0 Kf a.cN=Wn
 IP:(Yp Kf (.ref a.cN) "__init__"==AN (AN (.ref a.qs))&&Li Kf (.ref a.qs)==AN (.type "function"))=Wn
 mkS:t0 Kf a.cS=Wn
 IQ:(Yp Kf (.ref a.cS) "__init__"==AN (AN (.ref a.t6))&&Li Kf (.ref a.t6)==AN (.type "function"))=Wn
 IS:keepIn Kf (.ref a.cN)=Wn
 IT:keepIn Kf (.ref a.cS)=Wn
 gN:mg "_NodeInfo"=AN (.ref a.cN)
 gS:mg "TopologicalSorter"=AN (.ref a.cS)
 Ea:gB Kf a.cS "_get_nodeinfo" a.info=Wn
 K3:mI Kf a.cS "add" a.add=Wn
 IU:gB Kf a.cS "prepare" a.w9=Wn
 Eb:gB Kf a.cS "get_ready" a.ready=Wn
 z9:gB Kf a.cS "is_active" a.lW=Wn
 IW:gB Kf a.cS "done" a.done=Wn
 Ec:gB Kf a.cS "_find_cycle" a.qq=Wn
 qs:fk c a.qs vh .none
 info:fk c a.info yI .none
 add:fk c a.add w8 .none
 w9:fk c a.w9 yJ .none
 ready:fk c a.ready vf .none
 lW:fk c a.lW r5 .none
 done:fk c a.done yK .none
 qq:fk c a.qq oO .none
noncomputable abbrev Nd:=Int×Int×List Int
structure Lk (H:aR)(cN:Wr)(n:Nat)(x:Nd):Prop where
 dict:H[n]?=AN (.aN [])
 slots:H[n+1]?=AN (.slots cN n [AN (.int x.1),AN (.int x.2.1),AN (.ref (n+2))])
 list:H[n+2]?=AN (.list (x.2.2.map .int))
structure x7 (H:aR)(cN:Wr)(lo:Nat)(ns:au)(aq:List Nd):Prop where
 len:ns.length=aq.length
 at_:∀(i n:Nat) (x:Nd),ns[i]?=AN n->aq[i]?=AN x->Lk H cN n x
 low:∀n∈ns,lo<=n
 gap:ns.Pairwise λm n=>m+3<=n
noncomputable def qr (ns:au)(aq:List Nd):List (Int×AV):=(aq.zip ns).map λp=>(p.1.1,.ref (p.2+1))
structure SB (H:aR)(a:qU)(d:Nat)(ns:au)(aq:List Nd):Prop where
 inst:H[d+1]?=AN (.inst a.cS d)
 dict:H[d]?=AN (.aN [("_node2info",.ref (d+2)),("_ready_nodes",.none),("_npassedout",.int 0),("_nfinished",.int 0)])
 tab:H[d+2]?=AN (.bB (qr ns aq))
 nodes:x7 H a.cN (d+3) ns aq
 names:(aq.map (·.1)).Nodup
def Ed (d:Nat)(ns:au)(j:Nat):Prop:=j=d\/j=d+2\/∃n∈ns,j=n+1\/j=n+2
structure PP (H H':aR)(P:Nat->Prop):Prop where
 le:H.length<=H'.length
 same:∀j,j<H.length->¬P j->H'[j]?=H[j]?
theorem PP.refl (H:aR)(P:Nat->Prop):PP H H P:=⟨bP _,λJ J J=>Z⟩
theorem PP.trans (x:PP H H' P)(y:PP H' Vm P):PP H Vm P:=
 ⟨bJ x.le y.le,λj h n=>(y.same j (cV h x.le) n).trans (x.same j h n)⟩
theorem PP.mono (x:PP H H' P)(h:∀j,j<H.length->P j->Q j):PP H H' Q:=
 ⟨x.le,λj hj n=>x.same j hj λp=>n (h j hj p)⟩
noncomputable def b7 (aq:List Nd)(x:Int):List Nd:=if aq.any (λp=>decide (p.1=x)) then aq else aq++[(x,0,[])]
section
variable {a:qU}
theorem air (W:vi c mg mb Kf a)(x:Int)(H:aR)(n:Nat): bQ c (n+1) (.ref a.qs) [.ref (H.length+1),.int x] (H++[.aN [],.inst a.cN H.length]) (λv H'=>v=.none/\H'=H++[.aN [],.slots a.cN H.length [AN (.int x),AN (.int 0),AN (.ref (H.length+2))],.list []]):=by
 refine W.qs.fu W.B.toBase ["self","node"] ["self","node"] [(0,.ref (H.length+1)),(1,.int x)] (λJ J J=>Z) Z Z (Z) λenv own frames be kq=>?_
 . obtain e0:∀(l:aR),(H++l)[H.length]?=l[0]?:=λl=>by refine aa (ij (bP _)) ?_;simp
   obtain e1:∀(l:aR),(H++l)[H.length+1]?=l[1]?:=λl=>by refine aa (ij Cm) ?_;simp
   obtain e2:∀(l:aR) (v:AO),(H++l).set (H.length+1) v=H++l.set 1 v:=λl v=>by refine aa (ahH _ _ Cm) ?_;simp
   obtain B4:∀(o:AO) (vs:wi) (lc:d7),(o=.inst a.cN H.length/\vs=[]\/o=.slots a.cN H.length vs)->oN ⟨lc,H++[.aN [],o]⟩ (H.length+1) H.length a.cN vs:=by
    intro o vs lc h;refine (wb ?_ [] (by simp))
    (refine bz h (λKc=>?_) (λh=>?_);refine XZ Kc λh h'=>?_)
    . exact .inl ⟨by refine aa (e1 _) (aa h ?_);rfl,h'⟩
    . exact .inr (by refine aa (e1 _) (aa h ?_);rfl)
   refine ae (aj (ab 1 Z Z (cE (ab 0 Z Z (g8 W.B a.cN W.slots.1 abP (B4 _ [] _ (.inl ⟨Z,Z⟩)) (aa (e2 _ _) (ae (aj (aE (cE (ab 0 Z Z (g8 W.B a.cN W.slots.2.1 nP (B4 _ _ _ (.inr Z)) (aa (e2 _ _) (ae (aj (iS (cn ⟨by simp,cE (ab 0 Z Z (g8 (d:=H.length) (vs:=[AN (.int x),AN (.int 0)]) W.B a.cN W.slots.2.2 abQ (wb (.inr ?_) [] ?_) ?_))⟩)))))))))))))))))
   . simp [ij];rfl
   . simp
   refine aD ⟨Z,?_⟩;simp [ahH,oM]
theorem aA {Cl:Wr}(h:attrOk Kf Cl name=Wn):storeOk Kf Cl name=Wn/\(Yp Kf (.ref Cl) name==AN Wm)=Wn/\ju Kf Cl=Wn:=by simp only [attrOk,fA] at h;exact (aV h.1 h.2 (by have:=h.1;simp only [storeOk,fA] at this;exact this.1))
theorem vi.a1 (W:vi c mg mb Kf a):attrOk Kf a.cS "_node2info"=Wn:=by have:=W.attrs;simp only [fA] at this;exact this.1.1.1
theorem vi.a2 (W:vi c mg mb Kf a):attrOk Kf a.cS "_ready_nodes"=Wn:=by have:=W.attrs;simp only [fA] at this;exact this.1.1.2
theorem vi.a3 (W:vi c mg mb Kf a):attrOk Kf a.cS "_npassedout"=Wn:=by have:=W.attrs;simp only [fA] at this;exact this.1.2
theorem vi.a4 (W:vi c mg mb Kf a):attrOk Kf a.cS "_nfinished"=Wn:=by have:=W.attrs;simp only [fA] at this;exact this.2
theorem ait (W:vi c mg mb Kf a)(hf:fk c a.t6 qT (.ref t))(ht:c.h₀.get? t=AN o)(hc:o.cls≠.none)(hd:o.data=.seq #[.none] tn)(H:aR)(n:Nat): bQ c (n+1) (.ref a.t6) [.ref (H.length+1)] (H++[.aN [],.inst a.cS H.length]) (λv H'=>v=.none/\H'=H++[.aN [("_node2info",.ref (H.length+2)),("_ready_nodes",.none),("_npassedout",.int 0),("_nfinished",.int 0)],.inst a.cS H.length,.bB []]):=by
 refine hf.call W.B.toBase [("self",.ref (H.length+1)),("graph",.none)] ["self","graph"] ["self","graph"] [(0,.ref (H.length+1)),(1,.none)] (λfd h1 h2 h3=>?_) Z Z (by decide +kernel) λenv own frames be kq=>?_
 . intro A F bs H s rs E Q wd hv k;refine Va hv.one λr o1 hr=>?_;refine rE o1 ?_;unfold OY;refine aa h1 (aa h2 ?_);refine ag (aX (ag (A8 (wd.sub _ _ (wd.base _ _ ht (.inl hc))) hd (aX (k F s [("self",r),("graph",.none)] (.refl ..) wd (.cons hr (.cons .none .nil)))))))
 . have e0:∀(l:aR),(H++l)[H.length]?=l[0]?:=λl=>by refine aa (ij (bP _)) ?_;simp
   have e1:∀(l:aR),(H++l)[H.length+1]?=l[1]?:=λl=>by refine aa (ij Cm) ?_;simp
   have e2:∀(l:aR) (v:AO),(H++l).set H.length v=H++l.set 0 v:=λl v=>by refine aa (ahH _ _ (bP _)) ?_;simp
   have B4:∀(lc:d7) (kvs:gh) (l:aR),gR ⟨lc,H++(.aN kvs::.inst a.cS H.length::l)⟩ (H.length+1) H.length a.cS kvs:=λlc kvs l=>⟨by refine aa (e1 _) ?_;rfl,by refine aa (e0 _) ?_;rfl⟩
   refine ae (aj (pP W.B.toBase (cE (ab 0 Z Z (df (d:=H.length) (kvs:=[]) W.B a.cS (aA W.a1).1 ?_ (by simp) ?_)))))
   . exact ⟨by rewrite [MW];refine aa (e1 _) ?_;rfl,by rewrite [MW];refine aa (e0 _) ?_;rfl⟩
   have f1:((H++[AO.aN [],.inst a.cS H.length])++[AO.bB []]).set H.length (.aN (ct [] "_node2info" (.ref (H++[AO.aN [],.inst a.cS H.length]).length)))=H++[.aN [("_node2info",.ref (H.length+2))],.inst a.cS H.length,.bB []]:=by
    rewrite [MW]
    refine aa (e2 _ _) ?_;simp;rfl
   simp only [f1];refine ae (aj (fM (cE (ab 0 Z Z (df W.B a.cS (aA W.a2).1 (B4 _ _ _) (by simp) (aa (e2 _ _) (ae (aj (aE (cE (ab 0 Z Z (df W.B a.cS (aA W.a3).1 (B4 _ _ _) (J4 Z) (aa (e2 _ _) (ae (aj (aE (cE (ab 0 Z Z (df W.B a.cS (aA W.a4).1 (B4 _ _ _) (J4 Z) (aa (e2 _ _) (ae (b9 (bp (ab 1 Z Z (fM (nu (ba (aD (aD ?_)))))))))))))))))))))))))))));constructor <;> first | trivial | rfl
end
theorem bQ.mono {K K':AV->aR->Prop}(h:bQ c n fv args H K)(hk:∀v H',K v H'->K' v H'):bQ c n fv args H K':=
 λA F bs s rs fr h1 h2 h3 h4 h5 wd hv=>NL (h A F bs s rs fr h1 h2 h3 h4 h5 wd hv) λr s' aiu=>by obtain ⟨F',aK,v,H',rv,own,e1,e2,e3,e4,e5,e6⟩:=aiu;exact ⟨F',aK,v,H',rv,own,e1,e2,e3,e4,e5,hk v H' e6⟩
theorem jF {i n:Nat}(hn:(aq.map (·.1)).Nodup)(h1:aq[i]?=AN y)(h2:ns[i]?=AN n):bC (qr ns aq) y.1=AN (.ref (n+1)):=by
 induction aq generalizing ns i with
 | nil=>exact bM h1
 | cons z aq ih=>
   cases ns with
   | nil=>exact bM h2
   | cons m ns=>
     delta qr bC;refine (ar akY)▸(ar WW)▸(ar (lS))▸?_;dsimp only;cases i with
     | zero =>refine rE (bf h1) ?_;clear ih;refine rE (bf h2) (aa (decide_eq_true Z) ?_);rfl
     | succ i =>obtain ii:=Xh.mp hn;exact aa (decide_eq_false λe:z.1=y.1=>ii.1 (fV (af y (bO h1) e.symm))) (ih ii.2 h1 h2)
theorem aix (h:aq.any (λp=>decide (p.1=x))=Wp):bC (qr ns aq) x=Wm:=by
 induction aq generalizing ns with
 | nil=>delta qr;refine aa List.zip_nil_left ?_;rfl
 | cons z aq ih=>
   cases ns with
   | nil=>rfl
   | cons m ns =>refine XZ (hV.mp h) λh1 h2=>?_;delta qr bC;refine aa akY (aa WW (aa lS ?_));dsimp only at h1 ⊢;exact rE h1 (ih h2)
theorem oP {κ α:Type}[DecidableEq κ]{kvs:List (κ×α)}{k:κ}(v:α)(h:bC kvs k=Wm):ct kvs k v=kvs++[(k,v)]:=by
 delta ct;rw [if_neg];intro q;refine Va (X1.mp q) λp hp e=>?_;delta bC at h;cases e2:kvs.find? λkv=>kv.1=k with
 | none=>obtain this:=NQ.mp e2 p hp;exact this e
 | some p'=>replace h:=e2▸h;cases h
theorem aiy (hl:ns.length=aq.length)(n:Nat)(x:Nd):qr (ns++[n]) (aq++[x])=qr ns aq++[(x.1,.ref (n+1))]:=by delta qr;simp only [List.zip_append hl.symm];simp
theorem aiz {aq:List Nd}(h:aq.any (λp=>decide (p.1=x))=Wn):∃(i:Nat) (y:Nd),aq[i]?=AN y/\y.1=x:=by refine Va (X1.mp h) λy hy e=>?_;obtain ⟨i,hi,e2⟩:=Xq hy;exact (d8 i y (aa (cm hi) (aa e2 Z)) (by simpa using e))
theorem aiF {aq:List Nd}(h:(aq.map (·.1)).Nodup)(hx:aq.any (λp=>decide (p.1=x))=Wp)(y:Int×List Int):((aq++[(x,y)]).map (·.1)).Nodup:=by refine aa C5 (bb M9 ?_);refine (aV h (by simp) (λu hu v hv=>?_));simp at hv;refine rE hv ?_;refine Va (gM hu) λp hp o1=>?_;refine o1▸?_;intro e;obtain this:=ald.mp hx p hp;exact this (by simpa using e)
theorem Lk.set (h:Lk H cN n x)(o:AO)(h0:j≠n)(h1:j≠n+1)(h2:j≠n+2):Lk (H.set j o) cN n x:=
 ⟨by refine aa (bc h0) ?_;exact h.dict,by refine aa (bc h1) ?_;exact h.slots,by refine aa (bc h2) ?_;exact h.list⟩
theorem eM {H l:aR}{j:Nat}(h:H[j]?=AN o):(H++l)[j]?=AN o:=by exact rE (fb (bA h).1) h
theorem Lk.app (h:Lk H cN n x):Lk (H++l) cN n x:=⟨eM h.dict,eM h.slots,eM h.list⟩
theorem Lk.lt (h:Lk H cN n x):n+2<H.length:=(bA h.list).1
theorem x7.lt {lo:Nat}(h:x7 H cN lo ns aq):∀n∈ns,n+2<H.length:=λn hn=>by
 obtain ⟨i,hi,e⟩:=Xq hn;obtain nt:i<aq.length:=by simp only [<-h.len];exact hi
 exact (h.at_ i n aq[i] (aa (cm hi) (aa e Z)) (cm nt)).lt
section
variable {a:qU}
theorem Aa (W:vi c mg mb Kf a)(hs:SB H a d ns aq)(x:Int)(n:Nat)(tp:aq.length<1000): bQ c (n+3) (.ref a.info) [.ref (d+1),.int x] H (λv H'=>∃(u8:au) (i nn:Nat) (y:Nd),SB H' a d u8 (b7 aq x)/\(b7 aq x)[i]?=AN y/\y.1=x/\u8[i]?=AN nn/\v=.ref (nn+1)/\PP H H' (λj=>j=d+2)/\(u8=ns\/u8=ns++[H.length])):=by
 refine W.info.fu W.B.toBase ["self","node"] ["self","node","result"] [(0,.ref (d+1)),(1,.int x)] (λJ J J=>Z) Z Z (Z) λenv own frames be kq=>?_
 . have hI:∀lc,gR ⟨lc,H⟩ (d+1) d a.cS _:=λlc=>⟨hs.inst,hs.dict⟩
   have hg:∀{C:Cx} {lc:d7} {K:cu} {X:cR},K (.ref (d+2)) ⟨lc,H⟩->wX c C "_node2info" (.ref (d+1)) ⟨lc,H⟩ K X:=λk=>br W.B a.cS (aA W.a1).2.2 (aA W.a1).2.1 (hI _) Z (by simp) k;refine ae (b9 (bp (tK (cq "dict" "dict.get" X4 ahG ajZ (bj (ab 0 Z Z (hg ⟨gO hs.tab Z,aw (ab 1 Z Z (rZ (.inr (af (d+2) Z hs.tab)) ?_))⟩)))))));refine ah 2 Z (be 2 _ Z) ?_;cases hx:aq.any (λp=>decide (p.1=x)) with
   | true=>
     refine FL (aiz hx) λi y h1 h2=>?_;have hi:i<ns.length:=by refine aa hs.nodes.len ?_;exact (bA h1).1
     have hn:=cm hi;have yN:=jF hs.names h1 hn;rw [h2] at yN;refine aa yN (fM (lP (ba (aD (ae (bt (ab 2 Z Z (kB ns i (ns[i]) y ?_ ?_ h2 hn Z (.refl ..) (.inl Z)))))))))
     . simp only [b7,hx,if_true];exact hs
     . simp only [b7,hx,if_true];exact h1
   | false=>
     have yN:=aix (ns:=ns) hx;refine aa yN (fM (ad1 (ba (ae (qm (oH W.B a.cN W.IS Z (n:=n+2) (bP _) (iQ W.B.toBase (Z) W.gN ⟨Z,aw (ab 1 Z Z (bQ.cls W.B W.mkN W.IP ((air W x H n).mono λv H' GL=>XZ GL λe1 e2=>⟨e1,rE e2 ?_⟩)))⟩)))))));generalize hl:([.aN [],.slots a.cN H.length [AN (.int x),AN (.int 0),AN (.ref (H.length+2))],.list []]:aR)=l;have G7:∀lc,gR ⟨lc,H++l⟩ (d+1) d a.cS _:=λlc=>⟨eM hs.inst,eM hs.dict⟩
     refine pO (bj (ab 0 Z Z (br W.B a.cS (aA W.a1).2.2 (aA W.a1).2.1 (G7 _) Z (by simp) (ab 1 Z Z (jQ (d+2) x (qr ns aq) Z Z (eM hs.tab) ?_ ?_)))))
     . simp [qr,Wo];exact il (dg (ajQ ..) tp) Z
     refine ah 2 Z (be 2 _ Z) (aD ?_);have VV:d+2<H.length:=(bA hs.tab).1;refine ae (bt (ab 2 Z Z (kB (ns++[H.length]) aq.length H.length (x,0,[]) ?_ ?_ Z ?_ Z ⟨?_,?_⟩ (.inr Z))))
     . refine aa (oP _ yN) ?_
       rewrite [b7]
       refine aa hx ?_;simp only [mQ,if_false];refine ⟨?_,?_,?_,⟨?_,?_,?_,?_⟩,aiF hs.names hx _⟩
       . exact aa (bc nS) (eM hs.inst)
       . exact aa (bc nR) (eM hs.dict)
       . exact aa (iN (by simp;exact cV VV (cA _ _))) (aa (aiy hs.nodes.len _ _) Z)
       . simp [hs.nodes.len]
       . intro i m y h1 h2;by_cases hi:i<ns.length
         . rw [fb hi] at h1;rw [fb (by refine az hs.nodes.len ?_;exact hi)] at h2;have:=hs.nodes.low m (bO h1);exact ((hs.nodes.at_ i m y h1 h2).app).set _ (cI this) (cI (YE this)) (cI (cV this (cA _ 2)))
         . have e:i=ns.length:=by have:=(bA h1).1;simp at this;exact uD this hi
           clear hi;subst e;rw [ij (bP _)] at h1;rw [hs.nodes.len,ij (bP _)] at h2;simp at h1 h2;subst h1 h2;have e0:∀(l:aR),(H++l)[H.length]?=l[0]?:=λl=>by refine aa (ij (bP _)) ?_;simp
           have e1:∀(l:aR),(H++l)[H.length+1]?=l[1]?:=λl=>by refine aa (ij Cm) ?_;simp
           have e2:∀(l:aR),(H++l)[H.length+2]?=l[2]?:=λl=>by refine aa (ij qK) ?_;simp
           refine hl▸?_;exact ⟨by refine aa (bc (cI VV)) (aa (e0 _) ?_);rfl,by refine aa (bc (cI (YE VV))) (aa (e1 _) ?_);rfl,by refine aa (bc (cI (cV VV (cA _ 2)))) (aa (e2 _) ?_);rfl⟩
       . intro m hm;rcases cH hm with q | q
         . exact hs.nodes.low m q
         . exact aa (bN q) (qL VV)
       . refine bb L1 (aV hs.nodes.gap (by simp) (λm hm k hk=>aa (bN hk) ?_));exact qL (hs.nodes.lt m hm)
     . simp [b7,hx]
     . refine az hs.nodes.len ?_;simp
     . simp
     . intro j hj eQ;exact aa (bc (Gy eQ)) (aa (fb hj) Z)
end
theorem Ee (hl:xs.length<2 ^ 63)(k:K (.int xs.length) S):eJ c C (.builtin "len") [.tup xs] S K X:=by
 intro A F bs s rs hA z hv;refine Va hv.one λr o4 h1=>?_;refine rE o4 ?_;clear hv;refine dr h1.inv λa vs o3 ht bn=>?_;refine rE o3 ?_;refine WP.kept z λQ E q=>am7 (di _ (z.wd.sub _ _ ht) Z 0 Z) (by simp [bn.length];exact qI hl) (q _ _ (.toks ..) (af (.int xs.length) ?_ k));obtain this:((vs.toArray.size:Nat):Int)=xs.length:=by simp [bn.length]
 simp only [this];exact .int _ _
noncomputable def bump (aq:List Nd)(x:Int)(k:Int):List Nd:=aq.map λp=>if p.1=x then (p.1,p.2.1+k,p.2.2) else p
noncomputable def eN (aq:List Nd)(p x:Int):List Nd:=aq.map λq=>if q.1=p then (q.1,q.2.1,q.2.2++[x]) else q
noncomputable def c7 (aq:List Nd)(x:Int)(cM:List Int):List Nd:=cM.foldl (λl p=>eN (b7 l p) p x) aq
noncomputable def fQ (aq:List Nd)(x:Int)(cM:List Int):List Nd:=c7 (bump (b7 aq x) x cM.length) x cM
theorem aiU {aq:List Nd}(hn:(aq.map (·.1)).Nodup)(h:aq[i]?=AN y)(f:Nd->Nd):(aq.map λp=>if p.1=y.1 then f p else p)=aq.set i (f y):=by
 refine Yi λj=>rE (bV) ?_;by_cases e:i=j
 . refine e▸((ar h)▸(ar (iN (bA h).1))▸?_)
   simp
 . refine rE (bc e) ?_;cases hj:aq[j]? with
   | none=>rfl
   | some z=>
     obtain eQ:z.1≠y.1:=λq=>by
      obtain h1:(aq.map (·.1))[i]?=AN y.1:=by refine (ar (bV))▸(ar h)▸?_;rfl
      obtain h2:(aq.map (·.1))[j]?=AN y.1:=by refine (ar (bV))▸(ar hj)▸q▸?_;rfl
      exact e ((Y1 (bA h1).1 hn).mp (h1.trans h2.symm))
     simp [eQ]
theorem mM {aq:List Nd}(h:aq[i]?=AN y)(e:y'.1=y.1):(aq.set i y').map (·.1)=aq.map (·.1):=by
 refine Yi λj=>rE (bV) (aa bV ?_);by_cases q:i=j
 . subst q;refine aa h (aa (iN (bA h).1) ?_);simp [e]
 . exact aa (bc q) Z
theorem d9 (ns:au)(aq:List Nd):qr ns aq=((aq.map (·.1)).zip ns).map λp=>(p.1,.ref (p.2+1)):=by refine (ar List.zip_map_left)▸(ar Wu)▸?_;rfl
theorem pQ (h:aq[i]?=AN y)(e:y'.1=y.1):qr ns (aq.set i y')=qr ns aq:=by simp only [d9,d9,mM h e]
theorem Ef {ns:au}(h:ns.Pairwise λm n=>m+3<=n){i j:Nat}(h1:ns[i]?=AN m)(h2:ns[j]?=AN n)(e:i≠j):m+3<=n\/n+3<=m:=by
 refine Ml (bA h1) λhi e1=>Ml (bA h2) λhj e2=>?_;rcases Nat.lt_or_gt_of_ne e with q | q
 . left;exact e1▸e2▸(aiR.mp h i j hi hj q)
 . right;exact az e1 (az e2 (aiR.mp h j i hj hi q))
theorem x7.xb {lo:Nat}(h:x7 H cN lo ns aq)(h1:ns[i]?=AN n)(h2:aq[i]?=AN y)(np:Int): x7 (H.set (n+1) (.slots cN n [AN (.int y.1),AN (.int np),AN (.ref (n+2))])) cN lo ns (aq.set i (y.1,np,y.2.2)):=by
 refine ⟨by simp [h.len],λj m z e1 e2=>?_,h.low,h.gap⟩;obtain L:=h.at_ i n y h1 h2;by_cases e:i=j
 . subst e;refine (bf (aM (ar h1) e1))▸((bf (aM (ar (iN (bA h2).1)) e2))▸?_)
   obtain this:=L.lt;exact ⟨by refine aa (bc nQ) ?_;exact L.dict,aa (iN (cD this)) Z,by refine aa (bc uu) ?_;exact L.list⟩
 . rw [bc e] at e2;obtain g:=Ef h.gap h1 e1 e;exact (h.at_ j m z e1 e2).set _ (ab0 g) (ab1 g) (ab2 g)
theorem x7.K5 {lo:Nat}(h:x7 H cN lo ns aq)(h1:ns[i]?=AN n)(h2:aq[i]?=AN y)(sc:List Int): x7 (H.set (n+2) (.list (sc.map .int))) cN lo ns (aq.set i (y.1,y.2.1,sc)):=by
 refine ⟨by simp [h.len],λj m z e1 e2=>?_,h.low,h.gap⟩;obtain L:=h.at_ i n y h1 h2;by_cases e:i=j
 . subst e;refine (bf (aM (ar h1) e1))▸((bf (aM (ar (iN (bA h2).1)) e2))▸?_)
   obtain this:=L.lt;exact ⟨by refine aa (bc nR) ?_;exact L.dict,by refine aa (bc nS) ?_;exact L.slots,aa (iN this) Z⟩
 . rw [bc e] at e2;obtain g:=Ef h.gap h1 e1 e;exact (h.at_ j m z e1 e2).set _ (ab3 g) (ab4 g) (ab5 g)
section
variable {a:qU}
theorem SB.xb (h:SB H a d ns aq)(h1:ns[i]?=AN n)(h2:aq[i]?=AN y)(np:Int): SB (H.set (n+1) (.slots a.cN n [AN (.int y.1),AN (.int np),AN (.ref (n+2))])) a d ns (aq.set i (y.1,np,y.2.2)):=by
 obtain lo:=h.nodes.low n (bO h1);exact ⟨by refine aa (bc (vZ lo)) ?_;exact h.inst,by refine aa (bc (vY lo)) ?_;exact h.dict,by refine aa (bc (dH (YE lo))) (aa (pQ (y':=(y.1,np,y.2.2)) h2 Z) ?_);exact h.tab,h.nodes.xb h1 h2 np,by refine aa (mM (y':=(y.1,np,y.2.2)) h2 Z) ?_;exact h.names⟩
theorem SB.K5 (h:SB H a d ns aq)(h1:ns[i]?=AN n)(h2:aq[i]?=AN y)(sc:List Int): SB (H.set (n+2) (.list (sc.map .int))) a d ns (aq.set i (y.1,y.2.1,sc)):=by
 obtain lo:=h.nodes.low n (bO h1);exact ⟨by refine aa (bc (abZ lo)) ?_;exact h.inst,by refine aa (bc (dH (cV (u5 (u5 lo)) (cA _ 2)))) ?_;exact h.dict,by refine aa (bc (dH (cV lo (cA _ 2)))) (aa (pQ (y':=(y.1,y.2.1,sc)) h2 Z) ?_);exact h.tab,h.nodes.K5 h1 h2 sc,by refine aa (mM (y':=(y.1,y.2.1,sc)) h2 Z) ?_;exact h.names⟩
theorem r6 (aq:List Nd)(x:Int):(b7 aq x).length<=aq.length+1:=by delta b7;split <;> simp
theorem aiW (x:Int):∀(cM:List Int) (aq:List Nd),(c7 aq x cM).length<=aq.length+cM.length:=by
 intro cM;induction cM with
 | nil =>intro aq;simp [c7]
 | cons p l ih=>
   intro aq;obtain this:=ih (eN (b7 aq p) p x);obtain h2:=r6 aq p;obtain e:c7 aq x (p::l)=c7 (eN (b7 aq p) p x) x l:=rfl;obtain e3:(eN (b7 aq p) p x).length=(b7 aq p).length:=by simp [eN]
   simp;exact (bJ this (e3▸agZ _ _▸WQ h2 _))
def m6 (lo:Nat)(ns u8:au):Prop:=∃r,u8=ns++r/\∀m∈r,lo<=m
theorem m6.refl (lo:Nat)(ns:au):m6 lo ns ns:=(af [] (by simp) (by simp))
theorem m6.trans {lo lo':Nat}(x:m6 lo ns u8)(y:m6 lo' u8 aiX)(h:lo<=lo'):m6 lo ns aiX:=by refine Va x λr o2 h1=>?_;clear x;obtain rfl:=o2;refine Va y λr' o1 h2=>?_;clear y;obtain rfl:=o1;exact (af (r++r') (by simp) (λm hm=>(cH hm).elim (h1 m) λq=>bJ h (h2 m q)))
end
section
variable {a:qU}
theorem SB.slot (h:SB H a d ns aq){i n:Nat}(h1:ns[i]?=AN n)(h2:aq[i]?=AN y)(lc:d7): oN ⟨lc,H⟩ (n+1) n a.cN [AN (.int y.1),AN (.int y.2.1),AN (.ref (n+2))]:=
 (wb (.inr (h.nodes.at_ i n y h1 h2).slots) [] ((h.nodes.at_ i n y h1 h2).dict))
theorem PP.set (j:Nat)(o:AO)(h:P j):PP H (H.set j o) P:=
 ⟨by simp,λi hi n=>by rw [bc];intro e;clear hi;subst e;exact n h⟩
theorem oQ {aq:List Nd}(hn:(aq.map (·.1)).Nodup)(h:aq[i]?=AN y)(hx:y.1=x)(f:Nd->Nd):(aq.map λp=>if p.1=x then f p else p)=aq.set i (f y):=by subst hx;exact aiU hn h f
def fw (aq:List Nd)(m:Nat):Prop:=∀y∈aq,y.2.2.length<=m
theorem fw.b7 {aq:List Nd}{m:Nat}(h:fw aq m)(x:Int):fw (b7 aq x) m:=by
 delta Mine.Internal.b7
 split
 . exact h
 . intro y hy
   (refine bz (cH hy) (λq=>?_) (λq=>?_))
   . exact h y q
   . refine rE (bN q) ?_;simp
theorem fw.bump {aq:List Nd}{m:Nat}(h:fw aq m)(x:Int)(k:Int):fw (bump aq x k) m:=by
 intro y hy;refine Va (gM hy) λz hz o6=>?_;refine o6▸?_
 split
 . exact h z hz
 . exact h z hz
theorem fw.succ (h:fw aq m)(p x:Int):fw (eN aq p x) (m+1):=by
 intro y hy;refine Va (gM hy) λz hz o5=>?_;refine o5▸?_
 split
 . simpa using h z hz
 . exact Xj (h z hz)
theorem aiZ (aq:List Nd)(x:Int)(l:List Int)(p:Int):c7 aq x (l++[p])=eN (b7 (c7 aq x l) p) p x:=by simp [c7]
theorem fw.cM (l:List Int)(h:fw aq m):fw (c7 aq x l) (m+l.length):=by
 induction l generalizing aq m with
 | nil=>exact h
 | cons p l ih =>obtain this:=ih ((h.b7 p).succ p x);rw [KW,X7 1] at this;exact this
theorem PP.then (x:PP H H' P)(hl:H'.length<=Vm.length)(h:∀j,j<H.length->¬P j->Vm[j]?=H'[j]?):PP H Vm P:=
 ⟨bJ x.le hl,λj hj n=>(h j hj n).trans (x.same j hj n)⟩
theorem aW.put (h:aW S L)(hi:L.all (λp=>p.1 != i)=Wn):aW (S.put i v) (L++[(i,v)]):=by
 induction L with
 | nil=>exact ⟨by show (ck S.loc i v).lookup i=_;rw [aQ];simp,trivial⟩
 | cons p L ih=>
   simp only [akK,fA,bne_iff_ne] at hi;refine ⟨?_,ih h.2 hi.2⟩
   rewrite [aQ]
   exact aa (if_neg hi.1) h.1
def ai3 (ps:OP)(dV:Ws)(ns:bD)(x:Str):Prop:=∀fd us,V2 ns.length λrs=>OY (fdOf fd ps dV) ⟨rs++us,[]⟩=(do let t <-anr us;pure (ns.zip rs++[(x,t)]))
theorem fk.IX (B:Base c mg mb)(F:fk c fa f dV){K:AV->aR->Prop}(names:bD)(x:Str)(args xs:bZ)(vars:bD)(lc:d7)(hb:ai3 f.params dV names x)(tp:args.length=names.length)(hsz:xs.length<=Wo)(G3:dC 0 (names.zip args++[(x,.tup xs)]) []=lc)(fE:vc f (names++[x]) vars=Wn)(h:∀env own frames,Stores (jD f env own frames n vars)->gC (jD f env own frames n vars)->Ex c (jD f env own frames n vars) f.body ⟨lc,H⟩ (F6 K) fy):bQ c (n+1) (.ref fa) (args++xs) H K:=
 fk.call B F (names.zip args++[(x,.tup xs)]) (names++[x]) vars lc (λfd h1 h2 h3=>n9.star names x tp hsz λrs us e=>by refine (zD h1 h2 h3)▸?_;exact (hb fd us).all rs e) G3 (by refine aa C5 (aa (Za (WH tp.symm)) ?_);rfl) fE h
inductive ON (H:aR)(a:qU)(d:Nat)(ns:au)(ai6:List Nd)(H':aR):Prop
 | mk (u8:au) (h1:SB H' a d u8 ai6) (h2:PP H H' (Ed d ns)) (h3:m6 H.length ns u8)
theorem ajb (W:vi c mg mb Kf a)(s4:dR mg mb "len" (.builtin "len"))(hs:SB H a d ns aq)(x:Int)(cM:List Int)(n:Nat)(tp:aq.length+cM.length<900)(nM:fw aq sl)(K8:sl+cM.length<900): bQ c (n+4) (.ref a.add) ([.ref (d+1),.int x]++cM.map .int) H (λv H'=>v=.none/\ON H a d ns (fQ aq x cM) H'):=by
 refine W.add.IX W.B.toBase ["self","node"] "predecessors" [.ref (d+1),.int x] (cM.map .int) ["self","node","predecessors","nodeinfo","pred","pred_info"] [(0,.ref (d+1)),(1,.int x),(2,.tup (cM.map .int))] (λJ us J J=>by cases us <;> rfl) Z (by simp [Wo];exact il (dg (WO ..) tp) Z) Z (by decide +kernel) λenv own frames be kq=>?_
 . have hI:∀lc,gR ⟨lc,H⟩ (d+1) d a.cS _:=λlc=>⟨hs.inst,hs.dict⟩
   refine ae (b9 (bp (bj (ab 0 Z Z (br W.B a.cS (aA W.a2).2.2 (aA W.a2).2.1 (hI _) Z (by simp) (fM (nu (ba ?_))))))));refine aD ?_;refine ae (aj (dk W.B a.cS a.info W.Ea Z (bP _) (ab 0 Z Z ⟨d+1,d,_,Z,hI _,Z,aw (ab 1 Z Z ((Aa W hs x n (dh (dg (cA ..) tp) Z)).mono ?_))⟩)));intro v pR o1;refine MJ o1 λIN i nn y o8=>?_;clear o1;refine FO o8 λch hy Mn OO qR ajd ajp=>?_;clear o8;obtain rfl:=qR;refine ah 3 Z (be 3 _ Z) ?_;have abd:=ch.nodes.at_ i nn y OO hy;refine ae (gD (ab 3 Z Z (fj W.B a.cN W.slots.2.1 (ch.slot OO hy _) Z (by simp) (bS (.builtin "len") (bY W.B.toBase (Z) s4.1 s4.2 ⟨Z,aw (ab 2 Z Z (Ee (by simp;exact dh (dg (WO ..) tp) Z) (fP ?_)))⟩)))));refine g8 W.B a.cN W.slots.2.1 nP (ch.slot OO hy _) ?_;have bi:=ch.xb OO hy (y.2.1+((cM.map AV.int).length:Int));have e2:(b7 aq x).set i (y.1,y.2.1+((cM.map AV.int).length:Int),y.2.2)=bump (b7 aq x) x cM.length:=by unfold bump;refine aa (oQ ch.names hy Mn (λp=>(p.1,p.2.1+(cM.length:Int),p.2.2))) ?_;simp
   rw [e2] at bi;have Eg:m6 H.length ns IN:=by
    rcases ajp with rfl | rfl
    . exact .refl ..
    . exact (af [H.length] Z (by simp))
   have VV:=(bA hs.tab).1;have ft:∀{u8:au} {m:Nat},m6 H.length ns u8->m∈u8->∀j,j<H.length->(j=m+1\/j=m+2)->Ed d ns j:=λIO hm j hj q=>by
    refine Va IO λr e hr=>?_;clear IO;subst e;rcases cH hm with w | w
    . exact .inr (.inr (af _ w q))
    . have:=hr _ w;exact (ab7 hj q this).elim
   have IR:PP H (pR.set (nn+1) (.slots a.cN nn [AN (.int y.1),AN (.int (y.2.1+((cM.map AV.int).length:Int))),AN (.ref (nn+2))])) (Ed d ns):=by refine (ajd.mono λj J e=>.inr (.inl e)).then (by simp) λj hj K9=>?_;rw [bc];intro e;exact K9 (ft Eg (bO OO) j hj (.inl e.symm))
   have IY:fw (bump (b7 aq x) x cM.length) sl:=(nM.b7 x).bump x _;have Eh:(bump (b7 aq x) x cM.length).length<=aq.length+1:=by have:=r6 aq x;simpa [bump] using this
   generalize ajv:pR.set (nn+1) (.slots a.cN nn [AN (.int y.1),AN (.int (y.2.1+((cM.map AV.int).length:Int))),AN (.ref (nn+2))])=Ei at bi IR;refine aa ajv ?_;generalize gp:bump (b7 aq x) x cM.length=base at bi IY Eh;refine ae (eU Z (oq (ab 2 Z Z (af _ Z ?_))));refine ⟨λj S'=>aW S' [(0,.ref (d+1)),(1,.int x),(2,.tup (cM.map .int))]/\ON H a d ns (c7 base x (cM.take j)) S'.heap,⟨(aW.of Z),IN,bi,IR,Eg⟩,λJ J J=>trivial,?_,?_⟩
   . intro j v S' hj o2;obtain ⟨hL,u8,dz,vk,Vn⟩:=o2;rw [bV] at hj;cases hp:cM[j]? with
     | none=>rw [hp] at hj;cases hj
     | some p=>
       rw [hp] at hj;cases hj;have hjl:=(bA hp).1;have Kq:cM.take (j+1)=cM.take j++[p]:=by refine aa u7 (aa hp ?_);rfl
       have zX:=aiW x (cM.take j) base;have le':=fw.cM (x:=x) (cM.take j) IY;rw [Zb] at zX le';refine ah 4 Z (be 4 _ Z) (bo _ (hL.put (Z)) ?_);generalize aa1:S'.heap=H' at dz vk;refine ae (aj (dk W.B a.cS a.info W.Ea Z (bP _) (ab 0 Z Z ⟨d+1,d,_,Z,⟨dz.inst,dz.dict⟩,Z,aw (ab 4 Z Z ((Aa W dz p n (dh (dg (bJ zX (XT Eh (YR _ _))) (yA _ _▸alE tp:_+1+_<901)) Z)).mono ?_))⟩)));intro v Ej o3;refine MJ o3 λIZ ajw ajx D6 o7=>?_;clear o3;refine FO o7 λeA qp ajy xc o9 I0 ajz=>?_;clear o7;obtain rfl:=o9;have Ek:m6 H.length ns IZ:=by
        refine Vn.trans ?_ vk.le;clear xc eA dz Vn;rcases ajz with rfl | rfl
        . exact .refl ..
        . exact (af [H'.length] Z (by simp))
       refine ah 5 Z (be 5 _ Z) ?_;have OU:=eA.nodes.at_ ajw ajx D6 xc qp;have oR:D6.2.2.length<=sl+cM.length:=by exact bJ ((le'.b7 p) D6 (bO qp)) (lC (YR ..) _)
       refine ae (cw (cq "list" "list.append" M1 Gk Dq (bj (ab 5 Z Z (fj W.B a.cN W.slots.2.2 (eA.slot xc qp _) Z (by simp) ⟨gO OU.list Z,aw (ab 1 Z Z (gu OU.list (by simp [Wo];exact il (dg oR K8) Z) ?_))⟩)))) (Z));refine aD ⟨(aW.of Z),IZ,?_,?_,Ek⟩
       . have iJ:=eA.K5 xc qp (D6.2.2++[x]);refine aa Kq ?_;rw [aiZ];unfold eN;refine aa (oQ eA.names qp ajy (λq=>(q.1,q.2.1,q.2.2++[x]))) (aa (ints_snoc _ _) ?_);exact iJ
       . refine (vk.then I0.le λj hj K9=>I0.same j (cV hj vk.le) λe=>K9 (.inr (.inl e))).then (by simp) λj hj K9=>?_;rw [bc];intro e;exact K9 (ft Ek (bO xc) j hj (.inr e.symm))
   . intro S' o4;obtain ⟨hL,u8,dz,vk,Vn⟩:=o4;rw [qY,X9] at dz;refine aD ⟨Z,u8,?_,vk,Vn⟩;unfold fQ;exact aa gp dz
end
structure Fm where
 x:Int
 k:Nat
 i:Nat
 p:Nat
noncomputable def c8 (aq:List Nd)(x:Int):List Int:=((aq.find? λy=>y.1=x).map (·.2.2)).getD []
theorem kc (hn:(aq.map (·.1)).Nodup)(h:y∈aq):c8 aq y.1=y.2.2:=by
 induction aq with
 | nil=>exact absurd h rH
 | cons z l ih=>
   have ii:=Xh.mp (by exact hn:(z.1::l.map (·.1)).Nodup)
   (refine bz (eO h) (λe=>?_) (λh=>?_))
   . clear ii h;subst e;simp [c8]
   . have eQ:z.1≠y.1:=λe=>ii.1 (by simp only [e];exact fV (af y h Z));obtain this:=ih ii.2 h;simp only [c8,lS,eQ,decide_false] at this ⊢;exact this
noncomputable abbrev Ck (k:Nat):AV:=.bm "method-wrapper" (.builtin "list_iterator.__next__") (.ref k)
noncomputable abbrev nB (fs:List Fm):AO:=.list (fs.map λf=>.int f.x)
noncomputable abbrev yO (fs:List Fm):AO:=.list (fs.map λf=>Ck f.k)
noncomputable abbrev yP (fs:List Fm):AO:=.bB (fs.zipIdx.map λp=>(p.1.x,.int p.2))
noncomputable abbrev qt (x:Int)(k p:Nat):Fm:=⟨x,k,0,p⟩
structure Cy (H:aR)(aq:List Nd)(rk:Int->Nat)(fs:List Fm)(sn:List Int)(S':aR):Prop where
 ext:PP H S' (λJ=>False)
 stack:S'[H.length]?=AN (nB fs)
 qB:S'[H.length+1]?=AN (yO fs)
 seen:S'[H.length+2]?=AN (.iD sn)
 idx:S'[H.length+3]?=AN (yP fs)
 it:∀f∈fs,H.length+4<=f.k/\S'[f.k]?=AN (.iq (.ref (f.p+2)) f.i)/\f.p+2<H.length/\H[f.p+2]?=AN (.list ((c8 aq f.x).map .int))/\f.i<=(c8 aq f.x).length/\f.x∈aq.map (·.1)
 ks:(fs.map (·.k)).Nodup
 xd:(fs.map λf=>rk f.x).Pairwise (· < ·)
 sub:∀f∈fs,f.x∈sn
 names:∀x∈sn,x∈aq.map (·.1)
 snd:sn.Nodup
noncomputable def jf (aq:List Nd)(sn:List Int):Nat:=(aq.map λy=>if y.1∈sn then 0 else 2+y.2.2.length).sum
noncomputable def r7 (aq:List Nd)(fs:List Fm):Nat:=(fs.map λf=>1+((c8 aq f.x).length-f.i)).sum
theorem ajA (hn:(aq.map (·.1)).Nodup)(h:y∈aq)(hy:y.1∉sn):jf aq (sn++[y.1])+(2+y.2.2.length)=jf aq sn:=by
 have same:∀(l:List Nd),y.1∉l.map (·.1)->jf l (sn++[y.1])=jf l sn:=by intro l hl;delta jf;congr 1;apply WL;intro z hz;obtain eQ:z.1≠y.1:=λe=>hl (by simp only [<-e];exact fV (af z hz Z));simp [eQ]
 induction aq with
 | nil=>exact absurd h rH
 | cons z l ih=>
   have ii:=Xh.mp (by exact hn:(z.1::l.map (·.1)).Nodup);obtain e1:∀Vo,jf (z::l) Vo=(if z.1∈Vo then 0 else 2+z.2.2.length)+jf l Vo:=λVo=>Z;simp only [e1,e1]
   (refine bz (eO h) (λe=>?_) (λh=>?_))
   . clear e1 h hn;subst e;simp only [same l ii.1];simp [hy];exact X7 ..
   . obtain eQ:z.1≠y.1:=λe=>ii.1 (by simp only [e];exact fV (af y h Z));obtain this:=ih ii.2 h;obtain e2:(z.1∈sn++[y.1])=(z.1∈sn):=by simp [eQ]
     simp only [e2];exact (this▸KW _ _ (2+_))
theorem PP.app (x:PP H H' P):PP H (H'++l) P:=
 ⟨by obtain this:=x.le;simp;exact bJ this (cA _ _),λj hj n=>by refine aa (fb (cV hj x.le)) ?_;exact x.same j hj n⟩
theorem PP.kf (x:PP H H' P)(hj:H.length<=j)(o:AO):PP H (H'.set j o) P:=
 ⟨by obtain this:=x.le;simpa using this,λi hi n=>by refine aa (bc (dH (cV hi hj))) ?_;exact x.same i hi n⟩
section
variable {a:qU}
theorem Cy.push (h:Cy H aq rk fs sn S')(hn:(aq.map (·.1)).Nodup)(hy:y∈aq)(hs:y.1∉sn)(hp:H[p+2]?=AN (.list (y.2.2.map .int)))(hr:∀f∈fs,rk f.x<rk y.1): Cy H aq rk (fs++[qt y.1 S'.length p]) (sn++[y.1]) (((((S'.set (H.length+2) (AO.iD (sn++[y.1])))++[AO.iq (.ref (p+2)) 0]).set (H.length+1) (yO (fs++[qt y.1 S'.length p]))).set (H.length+3) (yP (fs++[qt y.1 S'.length p]))).set H.length (nB (fs++[qt y.1 S'.length p]))):=by
 obtain l3:=(bA h.idx).1;obtain I1:=kc hn hy;refine ⟨?_,?_,?_,?_,?_,?_,?_,?_,?_,?_,?_⟩
 . exact ((((h.ext.kf qK _).app).kf Cm _).kf uz _).kf (bP _) _
 . exact aa (iN (by simp;exact C3 (bJ (cA _ 4) l3))) Z
 . exact aa (bc ku) (aa (bc ux) (aa (iN (by simp;exact nV l3)) Z))
 . exact aa (bc qJ) (aa (bc (dH J5)) (aa (bc uu) (aa (fb (by simp;exact cD l3)) (aa (iN (cD l3)) Z))))
 . exact aa (bc (cI (C3 (cA _ 2)))) (aa (iN (by simp;exact YE l3)) Z)
 . intro f hf;rcases cH hf with q | q
   . refine RR (h.it f q) λh1 h2 h3=>?_;refine (aV h1 ?_ h3);obtain dc:=(bA h2).1;exact aa (bc (v7 h1)) (aa (bc (cI h1)) (aa (bc (v5 h1)) (aa (fb (by simpa using dc)) (aa (bc (cI (cD h1))) h2))))
   . refine aa (bN q) ?_;refine (nX (by assumption) ?_ ((bA hp).1) (by refine aa I1 ?_;exact hp) (Dv _) (fV (af y hy Z)));simp only;refine aa (bc (cI (dg (cA _ 3) l3))) (aa (bc (cI l3)) (aa (bc (abW l3)) (aa (ij (by simp)) ?_)));simp
 . refine aa C5 (bb M9 (aV h.ks (by simp) (λu hu v hv=>?_)));refine Va (gM hu) λf hf o2=>?_;obtain rfl:=o2;simp at hv;subst hv;obtain this:=(bA (h.it f hf).2.1).1;exact cI this
 . refine aa C5 (bb L1 (aV h.xd (by simp) (λu hu v hv=>?_)));refine Va (gM hu) λf hf o1=>?_;obtain rfl:=o1;simp at hv;subst hv;exact hr f hf
 . intro f hf;rcases cH hf with q | q
   . exact fz (.inl (h.sub f q))
   . refine aa (bN q) ?_;simp
 . intro x hx;rcases cH hx with q | q
   . exact h.names x q
   . simp only [bN q];exact fV (af y hy Z)
 . exact bb M9 (aV h.snd (by simp) (λu hu v hv=>by refine aa (bN hv) ?_;exact λe=>hs (e▸hu)))
theorem Cy.step (h:Cy H aq rk (fs++[f]) sn S')(hi:f.i<(c8 aq f.x).length): Cy H aq rk (fs++[{f with i:=f.i+1}]) sn (S'.set f.k (.iq (.ref (f.p+2)) (f.i+1))):=by
 refine FP (h.it f (by simp)) λg1 g2 g3 g4 g5 g6=>?_;obtain dc:=(bA g2).1;obtain hm:∀{β:Type} (φ:Fm->β),φ {f with i:=f.i+1}=φ f->(fs++[{f with i:=f.i+1}]).map φ=(fs++[f]).map φ:=λφ e=>by simp [e]
 obtain hz:yP (fs++[{f with i:=f.i+1}])=yP (fs++[f]):=by simp [yP,akZ]
 obtain hz1:nB (fs++[{f with i:=f.i+1}])=nB (fs++[f]):=by simp [nB]
 obtain hz2:yO (fs++[{f with i:=f.i+1}])=yO (fs++[f]):=by simp [yO]
 refine ⟨h.ext.kf (ajK g1) _,?_,?_,?_,?_,?_,?_,?_,?_,h.names,h.snd⟩
 . exact rE (bc (uB g1)) (aa hz1 h.stack)
 . exact rE (bc (uC g1)) (aa hz2 h.qB)
 . exact rE (bc (dH (cD g1))) h.seen
 . exact rE (bc (dH g1)) (aa hz h.idx)
 . intro e he;rcases cH he with q | q
   . refine RR (h.it e (fz (.inl q))) λh1 h2 h3=>(aV h1 ?_ h3)
     obtain eQ:f.k≠e.k:=λw=>by obtain this:=h.ks;rw [C5,M9] at this;exact this.2.2 e.k (fV (af e q Z)) f.k (by simp) w.symm
     exact rE (bc eQ) h2
   . exact aa (bN q) (nX g1 (by simp only;exact aa (iN dc) Z) g3 g4 hi g6)
 . simp only [hm (λf=>f.k) rfl];exact h.ks
 . simp only [hm (λf=>rk f.x) rfl];exact h.xd
 . intro e he;rcases cH he with q | q
   . exact h.sub e (fz (.inl q))
   . exact aa (bN q) (h.sub f (by simp))
theorem ajB {l:List (Int×AV)}(h:x∉l.map (·.1)):yj (l++[(x,v)]) x=l:=by
 delta yj;refine aa (XM _ _) ?_;obtain this:l.filter (λkv=>decide (kv.1≠x))=l:=by refine bb ah8 ?_;intro p hp;simp only [decide_eq_true_eq];exact λe=>h (by refine az e ?_;exact fV (af p hp Z))
 simp only [this];simp
theorem Cy.OV (h:Cy H aq rk fs sn S'):(fs.map (·.x)).Nodup:=by obtain this:=h.xd;rw [Xl] at this;exact bb List.nodup_iff_pairwise_ne (bb Xl (this.imp λ{u v} q e=>by rw [e] at q;exact absurd q (KO _)))
theorem Cy.pop (h:Cy H aq rk (fs++[f]) sn S'): Cy H aq rk fs sn ((((S'.set f.k .gone).set H.length (nB fs)).set (H.length+3) (yP fs)).set (H.length+1) (yO fs)):=by
 refine RR (h.it f (by simp)) λg1 g2 J=>?_;obtain l3:=(bA h.idx).1;refine ⟨?_,?_,?_,?_,?_,?_,?_,?_,?_,h.names,h.snd⟩
 . exact (((h.ext.kf (ajK g1) _).kf (bP _) _).kf uz _).kf Cm _
 . exact aa (bc nQ) (aa (bc uw) (aa (iN (by simp;exact nV l3)) Z))
 . exact aa (iN (by simp;exact cD (cD l3))) Z
 . exact aa (bc uu) (aa (bc (dH J5)) (aa (bc qJ) (aa (bc (dH (cD g1))) h.seen)))
 . exact aa (bc (cI (cD J5))) (aa (iN (by simp;exact l3)) Z)
 . intro e he;refine RR (h.it e (fz (.inl he))) λh1 h2 h3=>?_;obtain eQ:f.k≠e.k:=λw=>by obtain this:=h.ks;rw [C5,M9] at this;exact this.2.2 e.k (fV (af e he Z)) f.k (by simp) w.symm
   exact (aV h1 (aa (bc (v5 h1)) (aa (bc (cI h1)) (aa (bc (v7 h1)) (aa (bc eQ) h2)))) h3)
 . obtain this:=h.ks;rw [C5,M9] at this;exact this.1
 . obtain this:=h.xd;rw [C5,L1] at this;exact this.1
 . exact λe he=>h.sub e (fz (.inl he))
end
theorem m7 {fs:List Fm}(h:∀f∈fs,f.x≠x):bC (fs.zipIdx.map λp=>(p.1.x,AV.int p.2)) x=Wm:=by
 delta bC;rw [NQ.mpr]
 . rfl
 . intro p hp;refine Va (gM hp) λq hq o9=>?_;refine o9▸?_;simp only [decide_eq_true_eq];exact h q.1 (by obtain this:=alF hq;refine aa this.2 ?_;exact GY _)
theorem pS (aq:List Nd)(fs:List Fm)(f:Fm):r7 aq (fs++[f])=r7 aq fs+(1+((c8 aq f.x).length-f.i)):=by simp [r7]
theorem xe (fs:List Fm)(f:Fm):(fs++[f]).zipIdx.map (λp=>(p.1.x,AV.int p.2))=fs.zipIdx.map (λp=>(p.1.x,AV.int p.2))++[(f.x,.int fs.length)]:=by simp [akZ]
noncomputable def ajE:fW:=(jd (jd oO.body 5) 1).drop 1
section
variable {a:qU}
inductive OW (H:aR)(d:Nat)(ns:au)(aq:List Nd)(rk:Int->Nat)(m:Nat)(S:AS):Prop
 | mk (x:Int) (fs:List Fm) (sn:List Int) (hL:aW S [(0,.ref (d+1)),(1,.dQ (qr ns aq)),(2,.ref H.length),(3,.ref (H.length+1)),(4,.ref (H.length+2)),(5,.ref (H.length+3)),(6,.int x)]) (cy:Cy H aq rk fs sn S.heap) (hx:x∈aq.map (·.1)) (hr:∀f∈fs,rk f.x<rk x) (e:m=jf aq sn+r7 aq fs)
inductive ajJ (H:aR)(d:Nat)(ns:au)(aq:List Nd)(rk:Int->Nat)(Φ:Nat)(m:Nat)(S:AS):Prop
 | mk (fs:List Fm) (sn:List Int) (hL:aW S [(0,.ref (d+1)),(1,.dQ (qr ns aq)),(2,.ref H.length),(3,.ref (H.length+1)),(4,.ref (H.length+2)),(5,.ref (H.length+3))]) (cy:Cy H aq rk fs sn S.heap) (I2:jf aq sn+r7 aq fs<=Φ) (e:m=fs.length)
inductive OX (H:aR)(d:Nat)(ns:au)(aq:List Nd)(rk:Int->Nat)(S:AS):Prop
 | mk (hL:aW S [(0,.ref (d+1)),(1,.dQ (qr ns aq)),(2,.ref H.length),(3,.ref (H.length+1)),(4,.ref (H.length+2)),(5,.ref (H.length+3))]) (sn:List Int) (cy:Cy H aq rk [] sn S.heap)
abbrev aj4 (H:aR)(d:Nat)(ns:au)(aq:List Nd)(rk:Int->Nat)(Φ:Nat):gX:=λfl S=>match fl with
 | .next=>tR (OW H d ns aq rk) Φ S
 | .brk=>OX H d ns aq rk S
 | _=>False
theorem aj5 (W:vi c mg mb Kf a)(s4:dR mg mb "set" (.type "set"))(B5:dR mg mb "iter" (.builtin "iter"))(Bg:dR mg mb "len" (.builtin "len"))(Vp:dR mg mb "StopIteration" (.type "StopIteration")){H:aR}{d lo:Nat}{rk:Int->Nat}(aj7:H[d+1]?=AN (.inst a.cS d))(r8:H[d]?=AN (.aN kvs))(hg:bC kvs "_node2info"=AN (.dQ (qr ns aq)))(hN:x7 H a.cN lo ns aq)(KV:(aq.map (·.1)).Nodup)(OZ:∀y∈aq,∀s∈y.2.2,s∈aq.map (·.1)/\rk y.1<rk s)(tp:aq.length<900)(n:Nat): bQ c (n+1) (.ref a.qq) [.ref (d+1)] H (λv H'=>v=.none/\PP H H' (λJ=>False)):=by
 refine W.qq.fu W.B.toBase ["self"] ["self","n2i","stack","itstack","seen","node2stacki","node"] [(0,.ref (d+1))] (λJ J=>Z) Z Z (by decide +kernel) λenv own frames be kq=>?_
 . refine ae (aj (bj (ab 0 Z Z (br W.B a.cS (aA W.a1).2.2 (aA W.a1).2.1 ⟨aj7,r8⟩ hg (by simp) (ah 1 Z (be 1 _ Z) (ae (aj (iS (cn ⟨by simp [Wo],ah 2 Z (be 2 _ Z) (ae (aj (iS (cn ⟨by simp [Wo],ah 3 Z (be 3 _ Z) (ae (aj (bS (.type "set") (bY W.B.toBase (by rfl) s4.1 s4.2 ⟨Z,cn (ail (ah 4 Z (be 4 _ Z) (ae (aj (pP W.B.toBase (ah 5 Z (be 5 _ Z) ?_))))))⟩))))⟩))))⟩)))))))));have aka:Cy H aq rk [] [] ((((H++[AO.list []])++[.list []])++[.iD []])++[.bB []]):=by
    have e:((((H++[AO.list []])++[.list []])++[.iD []])++[.bB []])=H++[AO.list [],.list [],.iD [],.bB []]:=by simp
    refine aa e ⟨⟨by simp,λj hj J=>aa (fb hj) Z⟩,?_,?_,?_,?_,by simp,by simp,by simp,by simp,by simp,by simp⟩
    . refine aa (ij (bP _)) ?_;simp
    . refine aa (ij Cm) ?_;simp
    . refine aa (ij qK) ?_;simp
    . refine aa (ij uz) ?_;simp
   have Lb:∀x,x∈aq.map (·.1)->∃p y,y∈aq/\y.1=x/\bC (qr ns aq) x=AN (.ref (p+1))/\Lk H a.cN p y:=by
    intro x hx;refine Va (gM hx) λy hy o8=>?_;obtain rfl:=o8;obtain ⟨i,hi,e⟩:=Xq hy;have nt:i<ns.length:=by refine aa hN.len ?_;exact hi
    have h1:aq[i]?=AN y:=aa (cm hi) (aa e Z);have h2:=cm nt;exact (kA (ns[i]) y hy Z (jF KV h1 h2) (hN.at_ i _ y h2 h1))
   have Me:∀{fs:List Fm} {sn:List Int} {S':aR},Cy H aq rk fs sn S'->fs.length<=aq.length/\sn.length<=aq.length:=by intro fs sn S' h;have h2:=h.snd.length_le_of_subset h.names;have h1:=h.OV.length_le_of_subset (λx hx=>by refine Va (gM hx) λf hf o7=>?_;obtain rfl:=o7;exact h.sub f hf);simp at h1 h2;exact (⟨bJ h1 h2,h2⟩)
   generalize Zn:([(0,.ref (d+1)),(1,.dQ (qr ns aq)),(2,.ref H.length),(3,.ref (H.length+1)),(4,.ref (H.length+2)),(5,.ref (H.length+3))]:d7)=L0;refine ae (eU Z (ah4 (ab 1 Z Z (af _ Z ⟨λJ=>OX H d ns aq rk,?_,λJ J J=>trivial,?_,?_⟩))))
   . subst Zn;refine ⟨⟨Z,Z,Z,?_,?_,?_,trivial⟩,[],?_⟩
     . simp;rfl
     . simp;rfl
     . simp;rfl
     . exact aka
   . intro j v S' hj o1;obtain ⟨hL,sn,cy⟩:=o1;rw [bV] at hj;refine Va (gW hj) λq hq e=>?_;subst e;have hx:q.1∈aq.map (·.1):=by have:=bO hq;unfold qr at this;refine Va (gM this) λw hw o6=>?_;obtain rfl:=o6;exact fV (af w.1 ((List.of_mem_zip hw).1) Z)
     generalize q.1=x at hx;refine ah 6 Z (be 6 _ Z) (bo _ (hL.put (by subst Zn;rfl)) ?_);subst Zn;refine ae (b9 (bp (ab 6 Z Z (ab 4 Z Z (z8 cy.seen (ba ?_))))));by_cases vW:x∈sn
     . exact aa (decide_eq_true vW) (ae (wt ⟨(aW.of Z),sn,cy⟩))
     refine aa (decide_eq_false vW) (aD (ae (iZ kq (OW H d ns aq rk) _ ⟨x,[],sn,(aW.of Z),cy,hx,by simp,Z⟩ ?_)));intro m ai o2;obtain ⟨x,fs,sn,hL,cy,hx,hr,rfl⟩:=o2;refine i7 (zC (ba (bo _ hL ?_)));have xf:=Me cy;have inner:∀(x:Int) (fs:List Fm) (sn:List Int) (Hc:aR) (Φ:Nat),Cy H aq rk fs sn Hc->jf aq sn+r7 aq fs<=Φ ->
      Ex c (jD oO env own frames n ["self","n2i","stack","itstack","seen","node2stacki","node"]) ajE
       ⟨[(0,.ref (d+1)),(1,.dQ (qr ns aq)),(2,.ref H.length),(3,.ref (H.length+1)),(4,.ref (H.length+2)),(5,.ref (H.length+3)),(6,.int x)],Hc⟩
       (aj4 H d ns aq rk Φ) fy:=by
      intro x fs sn Hc Φ cy I2;refine ae (afX kq (ajJ H d ns aq rk Φ) fs.length ⟨fs,sn,(aW.of Z),cy,I2,Z⟩ ?_);intro m aF o3;obtain ⟨fs,sn,hL,cy,I2,rfl⟩:=o3;have lb:=Me cy;rcases List.eq_nil_or_concat fs with rfl | ⟨Em,f,rfl⟩
      . exact i7 (ab 2 Z hL.2.2.1 (oB (.inr (af H.length Z cy.stack)) (by simp) (ae (pH ⟨hL,sn,cy⟩))))
      simp only [List.concat_eq_append] at cy I2 lb ⊢;have He:aF.heap[H.length]?=AN (.list ((Em.map λf=>AV.int f.x)++[.int f.x])):=by have:=cy.stack;simpa [nB] using this
      have qB:aF.heap[H.length+1]?=AN (.list ((Em.map λf=>Ck f.k)++[Ck f.k])):=by have:=cy.qB;simpa [yO] using this
      have idx:=cy.idx;unfold yP at idx;rw [xe] at idx;refine FP (cy.it f (by simp)) λg1 g2 g3 g4 g5 g6=>?_;have g7:=(cy.ext.same _ g3 id).trans g4;simp only [Nc,aj0] at lb;refine i7 (ab 2 Z hL.2.2.1 (oB (.inr (af H.length Z He)) (by simp;exact (dh (dg lb.1 tp) Z)) ?_));have ne:(!((Em.map λf=>AV.int f.x)++[AV.int f.x]).isEmpty)=Wn:=by simp
      refine aa ne (bo _ hL ?_);have cy':=cy;generalize aF.heap=Hc at He qB idx g2 g7 cy cy';refine ae (afm kq "StopIteration" (by rfl) (by rfl) (by rfl) (ae (aj (af1 Z (bH (ab 3 Z Z (lK (aE (i6 ⟨fh (.inr (af _ Z qB)),oz (.inr (af _ Z qB)) (jR f.k (.ref (f.p+2)) f.i ((c8 aq f.x).map .int) Z g2 (.inr (af _ Z g7)) (aa bV ?_))⟩)))))))));cases hxi:(c8 aq f.x)[f.i]? with
      | some s=>
        have dc:=(bA hxi).1;refine ah 6 Z (be 6 _ Z) (ae (pH (aD (Va (gM g6) λy hy Mn=>?_))));have I1:=kc KV hy;rw [Mn] at I1;refine XZ (OZ y hy s (by refine az I1 ?_;exact bO hxi)) λk1 k2=>?_;rw [Mn] at k2;refine ⟨_,?_,s,Em++[{f with i:=f.i+1}],sn,(aW.of Z),cy.step dc,k1,λe he=>?_,Z⟩
        . rw [pS] at I2 ⊢;simp only;exact (cV (iB (iB (iB (N0 dc (W0 _)) 1) _) _) I2)
        . rcases cH he with q | q
          . have hp:=cy.xd;rw [C5,L1] at hp;exact abL (hp.2.2 (rk e.x) (fV (af e q Z)) (rk f.x) (by simp)) k2
          . exact aa (bN q) k2
      | none=>
        refine ⟨by decide,λe=>bY W.B.toBase (by rfl) Vp.1 Vp.2 ⟨Z,?_⟩⟩;have l3:=(bA idx).1;have OV:=cy.OV;rw [C5,M9] at OV;have hfx:f.x∉(Em.zipIdx.map λp=>(p.1.x,AV.int p.2)).map (·.1):=by intro w;refine Va (gM w) λp hp e=>Va (gM hp) λq hq o5=>?_;obtain rfl:=o5;refine OV.2.2 q.1.x (fV (af q.1 ?_ Z)) f.x (by simp) e;exact aa (alF hq).2 (GY _)
        refine ae (aif (ab 5 Z Z (cq "list" "list.pop" M1 sy A7 (ab 2 Z Z ⟨?_,cn (Dd (xs:=Em.map λf=>AV.int f.x) (y:=.int f.x) ?_ (by simp [Wo];exact uF lb tp) (i5 (H.length+3) f.x (Em.zipIdx.map (λp=>(p.1.x,AV.int p.2))++[(f.x,.int Em.length)]) Z Z ?_ ?_ ?_ ?_))⟩))))
        . exact gO (by refine aa (bc (uB g1)) ?_;exact He) Z
        . exact aa (bc (uB g1)) He
        . exact aa (bc (cI (C3 (cA _ 2)))) (aa (bc (dH g1)) idx)
        . simp [Wo];exact uF lb tp
        . unfold bC;refine aa ai0 ?_;rw [NQ.mpr]
          . simp
          . intro p hp;simp only [decide_eq_true_eq];exact λe=>hfx (by refine az e ?_;exact fV (af p hp Z))
        . refine aa (ajB hfx) (ae (cw (cq "list" "list.pop" M1 sy A7 (ab 3 Z Z ⟨?_,cn (Dd (xs:=Em.map λf=>Ck f.k) (y:=Ck f.k) ?_ (by simp [Wo];exact uF lb tp) ?_)⟩)) (by rfl)))
          . exact gO (by refine aa (bc ux) (aa (bc ku) (aa (bc (uC g1)) ?_));exact qB) Z
          . exact aa (bc ux) (aa (bc ku) (aa (bc (uC g1)) qB))
          . refine aD (aD ⟨Em.length,by simp,Em,sn,(aW.of Z),cy.pop,?_,Z⟩);rw [pS] at I2;exact (bJ (lC (cA ..) _) I2)
     refine ae (b9 (bp (ab 6 Z Z (ab 4 Z Z (z8 cy.seen (ba ?_))))));by_cases vW:x∈sn
     . refine aa (decide_eq_true vW) (ae (b9 (bp (ab 6 Z Z (ab 5 Z Z (ahU (.inr (af _ Z cy.idx)) (ba (aa (m7 (λf hf e=>by have:=hr f hf;rw [e] at this;exact absurd this (KO _))) ?_))))))));refine aD (aD (uL (inner x fs sn _ _ cy (bP _)) λfl aF h=>?_));cases fl with
       | next=>exact h
       | brk=>exact aD h
       | cont=>exact h.elim
       | ret v=>exact h.elim
     . refine aa (decide_eq_false vW) (Cc (Lb x hx) λp y hy Mn yN lk=>?_);subst Mn;have Zo:∀{j:Nat} {o:AO},H[j]?=AN o->ai.heap[j]?=AN o:=λh=>(cy.ext.same _ (bA h).1 id).trans h;have l3:=(bA cy.idx).1;have I3:=lk.lt;have psh:=cy.push KV hy vW lk.list hr;have seen:=cy.seen;have qB:=cy.qB;have He:=cy.stack;have idx:=cy.idx;have d0:=Zo lk.dict;have d1:=Zo lk.slots;have d2:=Zo lk.list;generalize ai.heap=Hc at seen qB He idx d0 d1 d2 l3 psh cy;refine ae (cw (cq "set" "set.add" PySem.F.plainAttrs_set PySem.F.slot_set_add PySem.F.type_set_add (ab 4 Z Z ⟨gO seen Z,aw (ab 6 Z Z (aim seen (dh (dg xf.2 tp) Z) (aa (if_neg vW) (ae (cw (cq "list" "list.append" M1 Gk Dq (ab 3 Z Z ⟨?_,aw (bj (bS (.builtin "iter") (bY W.B.toBase (by rfl) B5.1 B5.2 ⟨Z,aw (bj (bH (ab 1 Z Z (ab 6 Z Z ⟨hG (.inl Z),je (.inl Z) yN (fj W.B a.cN W.slots.2.2 (d:=p) (vs:=[AN (.int y.1),AN (.int y.2.1),AN (.ref (p+2))]) (wb (.inr ?_) [] ?_) Z (by simp) (afY (xs:=y.2.2.map .int) (.inr (af (p+2) Z ?_)) (afZ (l:=.ref (p+2)) (i:=0) ?_ (gu (xs:=fs.map λf=>Ck f.k) ?_ (by simp [Wo];exact uK tp xf) ?_))))⟩))))⟩)))⟩)) (by rfl))))))⟩)) (by rfl))
       . exact gO (by refine aa (bc nS) ?_;exact qB) Z
       . exact aa (bc (dH (cV (u5 I3) (cA _ 2)))) d1
       . exact aa (bc (dH (cV (u5 (u5 I3)) (cA _ 2)))) d0
       . exact aa (bc (dH (cV I3 (cA _ 2)))) d2
       . refine aa (ij (bP _)) ?_;simp
       . refine aa (fb (by simp;exact (cD (cD l3)))) (aa (bc nS) ?_);exact qB
       have e1:(fs.map λf=>Ck f.k)++[Ck (Hc.set (H.length+2) (AO.iD (sn++[y.1]))).length]=(fs++[qt y.1 Hc.length p]).map λf=>Ck f.k:=by simp
       have e3:ct (fs.zipIdx.map λp=>(p.1.x,AV.int p.2)) y.1 (.int ((fs.map λf=>AV.int f.x).length:Nat))=(fs++[qt y.1 Hc.length p]).zipIdx.map λp=>(p.1.x,AV.int p.2):=by refine aa (oP _ (m7 (λf hf e=>by have:=hr f hf;rw [e] at this;exact absurd this (KO _)))) (aa (xe _ _) ?_);simp
       have e0:(fs.map λf=>AV.int f.x)++[AV.int y.1]=(fs++[qt y.1 Hc.length p]).map λf=>AV.int f.x:=by simp
       refine aa e1 (ae (aj (bS (.builtin "len") (bY W.B.toBase (by rfl) Bg.1 Bg.2 ⟨Z,aw (ab 2 Z Z (kH (xs:=fs.map λf=>AV.int f.x) (.inr (af H.length Z ?_)) (by simp;exact (dh (dg xf.1 tp) Z)) (pO (ab 5 Z Z (ab 6 Z Z (jQ (H.length+3) y.1 (fs.zipIdx.map (λp=>(p.1.x,AV.int p.2))) Z Z ?_ ?_ ?_))))))⟩))))
       . refine aa (bc nQ) (aa (fb (by simp;exact nV l3)) (aa (bc nR) ?_));exact He
       . refine aa (bc (cI (cD J5))) (aa (fb (by simp;exact l3)) (aa (bc (cI J5)) ?_));exact idx
       . simp [Wo];exact uK tp xf
       refine aa e3 (ae (cw (cq "list" "list.append" M1 Gk Dq (ab 2 Z Z ⟨?_,aw (ab 6 Z Z (gu (xs:=fs.map λf=>AV.int f.x) ?_ (by simp [Wo];exact uK tp xf) ?_))⟩)) (by rfl)))
       . exact gO (by refine aa (bc uw) (aa (bc nQ) (aa (fb (by simp;exact nV l3)) (aa (bc nR) ?_)));exact He) Z
       . refine aa (bc uw) (aa (bc nQ) (aa (fb (by simp;exact nV l3)) (aa (bc nR) ?_)));exact He
       refine aa e0 (aD (uL (inner y.1 (fs++[qt y.1 Hc.length p]) (sn++[y.1]) _ (jf aq sn+r7 aq fs) psh ?_) λfl aF h=>?_))
       . rewrite [pS]
         refine aa (kc KV hy) ?_;simp only;exact ab9 (ajA KV hy vW)
       cases fl with
       | next=>exact h
       | brk=>exact aD h
       | cont=>exact h.elim
       | ret v=>exact h.elim
   . intro S' o4;obtain ⟨hL,sn,cy⟩:=o4;refine ae (bt (fM ⟨Z,cy.ext⟩))
end
noncomputable abbrev eB (ns:au)(aq:List Nd)(r:Nat)(bq fin:Int):gh:=
 [("_node2info",.dQ (qr ns aq)),("_ready_nodes",.ref r),("_npassedout",.int bq),("_nfinished",.int fin)]
structure SR (H:aR)(a:qU)(d:Nat)(ns:au)(aq:List Nd)(r:Nat)(ready:List Int)(bq fin:Int):Prop where
 inst:H[d+1]?=AN (.inst a.cS d)
 dict:H[d]?=AN (.aN (eB ns aq r bq fin))
 list:H[r]?=AN (.list (ready.map .int))
 nodes:x7 H a.cN (d+3) ns aq
 names:(aq.map (·.1)).Nodup
 xh:d+3<=r
 Lc:∀n∈ns,n+3<=r
def fY (d:Nat)(ns:au)(r:Nat)(j:Nat):Prop:=j=d\/j=d+2\/j=r\/∃n∈ns,j=n+1\/j=n+2
theorem Lk.same (h:Lk H cN n x)(e:∀j,j<H.length->(j=n\/j=n+1\/j=n+2)->H'[j]?=H[j]?):Lk H' cN n x:=by obtain this:=h.lt;exact ⟨(e n (cD (cD this)) (.inl Z)).trans h.dict,(e (n+1) (cD this) (.inr (.inl Z))).trans h.slots,(e (n+2) this (.inr (.inr Z))).trans h.list⟩
theorem x7.same {lo:Nat}(h:x7 H cN lo ns aq)(e:∀j,j<H.length->lo<=j->H'[j]?=H[j]?):x7 H' cN lo ns aq:=
 ⟨h.len,λi n x h1 h2=>(h.at_ i n x h1 h2).same λj hj q=>e j hj (by obtain this:=h.low n (bO h1);exact ab8 q this),h.low,h.gap⟩
noncomputable def dF (aq:List Nd):List Int:=(aq.filter λy=>y.2.1==0).map (·.1)
section
variable {a:qU}
theorem akb (W:vi c mg mb Kf a)(s4:dR mg mb "set" (.type "set"))(B5:dR mg mb "iter" (.builtin "iter"))(Bg:dR mg mb "len" (.builtin "len"))(Vp:dR mg mb "StopIteration" (.type "StopIteration")){rk:Int->Nat}(hs:SB H a d ns aq)(OZ:∀y∈aq,∀s∈y.2.2,s∈aq.map (·.1)/\rk y.1<rk s)(tp:aq.length<900)(n:Nat): bQ c (n+2) (.ref a.w9) [.ref (d+1)] H (λv H'=>v=.none/\SR H' a d ns aq H.length (dF aq) 0 0/\PP H H' (λj=>j=d\/j=d+2)):=by
 refine W.w9.fu W.B.toBase ["self"] ["self","cycle"] [(0,.ref (d+1))] (λJ J=>Z) Z Z (by decide +kernel) λenv own frames be kq=>?_
 . have VV:=(bA hs.tab).1;refine gm (c9.Bb d [("_node2info",.dQ (qr ns aq)),("_ready_nodes",.none),("_npassedout",.int 0),("_nfinished",.int 0)] hs.dict hs.tab qJ (nc Z (.inr ⟨Z,Z⟩) Z (.inl Z) Z (.inl Z) Z (.inl Z) trivial)) ?_;have i1:((H.set (d+2) .gone).set d (.aN [("_node2info",.dQ (qr ns aq)),("_ready_nodes",.none),("_npassedout",.int 0),("_nfinished",.int 0)]))[d+1]?=AN (.inst a.cS d):=by refine aa (bc ku) (aa (bc nS) ?_);exact hs.inst
   have i2:((H.set (d+2) .gone).set d (.aN [("_node2info",.dQ (qr ns aq)),("_ready_nodes",.none),("_npassedout",.int 0),("_nfinished",.int 0)]))[d]?=AN (.aN [("_node2info",.dQ (qr ns aq)),("_ready_nodes",.none),("_npassedout",.int 0),("_nfinished",.int 0)]):=by exact aa (iN (by simp;exact cD (cD VV))) Z
   have Ld:x7 ((H.set (d+2) .gone).set d (.aN [("_node2info",.dQ (qr ns aq)),("_ready_nodes",.none),("_npassedout",.int 0),("_nfinished",.int 0)])) a.cN (d+3) ns aq:=hs.nodes.same λj hj hl=>by exact aa (bc (qM hl)) (aa (bc (cI hl)) Z)
   have ex1:PP H ((H.set (d+2) .gone).set d (.aN [("_node2info",.dQ (qr ns aq)),("_ready_nodes",.none),("_npassedout",.int 0),("_nfinished",.int 0)])) (λj=>j=d\/j=d+2):=
    ⟨by simp,λj hj eQ=>aa (bc (λe=>eQ (.inl e.symm))) (aa (bc (λe=>eQ (.inr e.symm))) Z)⟩
   have Bh:((H.set (d+2) .gone).set d (.aN [("_node2info",.dQ (qr ns aq)),("_ready_nodes",.none),("_npassedout",.int 0),("_nfinished",.int 0)])).length=H.length:=by simp
   generalize (H.set (d+2) .gone).set d (.aN [("_node2info",.dQ (qr ns aq)),("_ready_nodes",.none),("_npassedout",.int 0),("_nfinished",.int 0)])=pR at i1 i2 Ld ex1 Bh;refine ae (b9 (bp (bj (ab 0 Z Z (br W.B a.cS (aA W.a2).2.2 (aA W.a2).2.1 ⟨i1,i2⟩ Z (by simp) (fM (nu (ba ?_))))))));refine aD (ae (aj (gA ["i"] [] Z trivial (Z) (aib (bj (ab 0 Z Z (br W.B a.cS (aA W.a1).2.2 (aA W.a1).2.1 ⟨i1,i2⟩ Z (by simp) (aU _ Z trivial (λoS ds fG=>?_)))))))));refine ⟨λi OB S'=>S'=⟨[],pR⟩/\OB=(dF (aq.take i)).map .int,⟨Z,Z⟩,?_,?_,?_⟩
   . intro i OB S' o1;refine XZ o1 λqR tH=>?_;clear o1;obtain rfl:=qR;obtain rfl:=tH;refine ⟨trivial,?_⟩;have:(dF (aq.take i)).length<=aq.length:=by unfold dF;refine aa (qY _) ?_;exact bJ (XH _ _) (by simp;exact YR _ _)
     simp [Wo];exact il (dg this tp) Z
   . intro i y OB S' hy o2;refine XZ o2 λo8 o9=>?_;clear o2;obtain rfl:=o8;obtain rfl:=o9;obtain ⟨p,nd,h1,h2,rfl⟩:∃p nd,ns[i]?=AN p/\aq[i]?=AN nd/\y=.ref (p+1):=by rw [bV] at hy;refine Va (gW hy) λq hq e=>?_;unfold qr at hq;rw [bV] at hq;refine Va (gW hq) λw hw e2=>?_;refine XZ (agX.mp hw) λw1 w2=>?_;clear hy;subst e2 e;exact (bW w.2 w.1 w2 w1 Z)
     have L:=Ld.at_ i p nd h1 h2;have V8:∀lc,oN ⟨lc,pR⟩ (p+1) p a.cN [AN (.int nd.1),AN (.int nd.2.1),AN (.ref (p+2))]:=λlc=>(wb (.inr L.slots) [] L.dict)
     have Kq:aq.take (i+1)=aq.take i++[nd]:=by refine aa u7 (aa h2 ?_);rfl
     refine ah 0 Z (fG _ (.inl Z)) ?_;refine bp (bj (ab 0 Z Z (fj W.B a.cN W.slots.2.1 (V8 _) Z (by simp) (aE (pE (ba ?_))))));cases hz:nd.2.1==0 with
     | false =>refine (aU [] trivial Z ?_);refine aa Kq ?_;simp [dF,XM,hz]
     | true =>refine bj (ab 0 Z Z (fj W.B a.cN W.slots.1 (V8 _) Z (by simp) (aU [] trivial Z ?_)));refine aa Kq ?_;simp [dF,XM,hz]
   . intro OB S' o3;refine XZ o3 λo6 o7=>?_;clear o3;obtain rfl:=o6;obtain rfl:=o7;refine .inr ?_;have akd:((qr ns aq).map (·.2)).length=aq.length:=by simp [qr,hs.nodes.len]
     refine aa akd (aa X9 ?_);refine cE (ab 0 Z Z (df W.B a.cS (aA W.a2).1 ⟨eM i1,eM i2⟩ (by simp) ?_));have e1:ct ([("_node2info",.dQ (qr ns aq)),("_ready_nodes",.none),("_npassedout",.int 0),("_nfinished",.int 0)]:gh) "_ready_nodes" (.ref pR.length)=eB ns aq H.length 0 0:=by refine aa Bh ?_;rfl
     refine aa e1 ?_;have j1:((pR++[AO.list ((dF aq).map .int)]).set d (.aN (eB ns aq H.length 0 0)))[d+1]?=AN (.inst a.cS d):=by refine aa (bc ku) ?_;exact eM i1
     have j2:((pR++[AO.list ((dF aq).map .int)]).set d (.aN (eB ns aq H.length 0 0)))[d]?=AN (.aN (eB ns aq H.length 0 0)):=by exact aa (iN (by simp;exact Bh▸C3 (bJ (cA _ 3) VV))) Z
     have j3:((pR++[AO.list ((dF aq).map .int)]).set d (.aN (eB ns aq H.length 0 0)))[H.length]?=AN (.list ((dF aq).map .int)):=by refine aa (bc (cI (dg (cA _ 2) VV))) (aa (ij (WH Bh)) ?_);simp [Bh]
     have Vq:x7 ((pR++[AO.list ((dF aq).map .int)]).set d (.aN (eB ns aq H.length 0 0))) a.cN (d+3) ns aq:=Ld.same λj hj hl=>by exact aa (bc (qM hl)) (aa (fb hj) Z)
     have I4:PP H ((pR++[AO.list ((dF aq).map .int)]).set d (.aN (eB ns aq H.length 0 0))) (λj=>j=d\/j=d+2):=
      (ex1.app).then (by simp) λj hj eQ=>aa (bc (λe=>eQ (.inl e.symm))) Z
     have En:((pR++[AO.list ((dF aq).map .int)]).set d (.aN (eB ns aq H.length 0 0))).length=H.length+1:=by simp [Bh]
     generalize (pR++[AO.list ((dF aq).map .int)]).set d (.aN (eB ns aq H.length 0 0))=Ei at j1 j2 j3 Vq I4 En;refine ae (aj (dk W.B a.cS a.qq W.Ec Z (bP _) (ab 0 Z Z ⟨d+1,d,_,Z,⟨j1,j2⟩,Z,cn ((aj5 W s4 B5 Bg Vp j1 j2 Z Vq hs.names OZ tp n).mono ?_)⟩)));intro v Ej o4;refine XZ o4 λo5 Lf=>?_;clear o4;refine rE o5 ?_;refine ah 1 Z (be 1 _ Z) ?_;refine ae (b9 (i7 (ab 1 Z Z (ad0 ?_))));have same:∀j,j<Ei.length->Ej[j]?=Ei[j]?:=λj hj=>Lf.same j hj id;have lt:=Vq.lt;refine aD (aD (aV Z ⟨?_,?_,?_,Vq.same λj hj J=>same j hj,hs.names,qL VV,λm hm=>?_⟩ (I4.then Lf.le λj hj J=>same j (ar En▸YE hj))))
     . refine aa (same _ (En▸Ni (u5 VV))) ?_;exact j1
     . refine aa (same _ (En▸C3 (bJ (cA _ 3) VV))) ?_;exact j2
     . refine aa (same _ (ar En▸OA J5)) ?_;exact j3
     . have:=hs.nodes.lt m hm;exact qL this
end
noncomputable def eh (aq:List Nd)(x:Int)(k:Int):List Nd:=aq.map λp=>if p.1=x then (p.1,k,p.2.2) else p
noncomputable def outs (aq:List Nd)(xs:List Int):List Nd:=xs.foldl (λl x=>eh l x (-1)) aq
section
variable {a:qU}
variable {H:aR}{d r:Nat}{ns:au}{aq:List Nd}{ready:List Int}{bq fin:Int}
theorem SR.xb (h:SR H a d ns aq r ready bq fin)(h1:ns[i]?=AN n)(h2:aq[i]?=AN y)(np:Int): SR (H.set (n+1) (.slots a.cN n [AN (.int y.1),AN (.int np),AN (.ref (n+2))])) a d ns (aq.set i (y.1,np,y.2.2)) r ready bq fin:=by
 obtain lo:=h.nodes.low n (bO h1);obtain hi:=h.Lc n (bO h1);exact ⟨by refine aa (bc (vZ lo)) ?_;exact h.inst,by refine aa (bc (vY lo)) ?_;rewrite [eB];refine aa (pQ (y':=(y.1,np,y.2.2)) h2 Z) ?_;exact h.dict,by refine aa (bc (cI (cD hi))) ?_;exact h.list,h.nodes.xb h1 h2 np,by refine aa (mM (y':=(y.1,np,y.2.2)) h2 Z) ?_;exact h.names,h.xh,h.Lc⟩
theorem SR.O1 (h:SR H a d ns aq r ready bq fin)(Eo:List Int):SR (H.set r (.list (Eo.map .int))) a d ns aq r Eo bq fin:=by obtain lo:=h.xh;obtain lt:=(bA h.list).1;refine ⟨by refine aa (bc (dH (cD lo))) ?_;exact h.inst,by refine aa (bc (v3 lo)) ?_;exact h.dict,aa (iN lt) Z,⟨h.nodes.len,λi n x h1 h2=>?_,h.nodes.low,h.nodes.gap⟩,h.names,h.xh,h.Lc⟩;obtain hi:=h.Lc n (bO h1);exact (h.nodes.at_ i n x h1 h2).set _ (v3 hi) (dH (cD hi)) (dH hi)
theorem SR.O2 (h:SR H a d ns aq r ready bq fin)(Ab O3:Int):SR (H.set d (.aN (eB ns aq r Ab O3))) a d ns aq r ready Ab O3:=by obtain lo:=h.xh;obtain lt:=(bA h.dict).1;refine ⟨by refine aa (bc ku) ?_;exact h.inst,aa (iN lt) Z,by refine aa (bc (qM lo)) ?_;exact h.list,⟨h.nodes.len,λi n x h1 h2=>?_,h.nodes.low,h.nodes.gap⟩,h.names,h.xh,h.Lc⟩;obtain this:=h.nodes.low n (bO h1);exact (h.nodes.at_ i n x h1 h2).set _ (qM this) (cI (Ni (u5 (u5 this)))) (abX this)
theorem SR.node (h:SR H a d ns aq r ready bq fin)(hx:x∈aq.map (·.1)):∃(i p:Nat) (y:Nd),ns[i]?=AN p/\aq[i]?=AN y/\y.1=x/\bC (qr ns aq) x=AN (.ref (p+1)):=by
 refine Va (gM hx) λy hy o3=>?_;clear hx;obtain rfl:=o3;obtain ⟨i,hi,e⟩:=Xq hy;have nt:i<ns.length:=by simp only [h.nodes.len];exact hi
 obtain h1:aq[i]?=AN y:=by exact (ar (cm hi))▸(ar e)▸Z
 obtain h2:=cm nt;exact (ip i (ns[i]) y h2 h1 Z (jF h.names h1 h2))
theorem SR.slot (h:SR H a d ns aq r ready bq fin){i n:Nat}(h1:ns[i]?=AN n)(h2:aq[i]?=AN y)(lc:d7): oN ⟨lc,H⟩ (n+1) n a.cN [AN (.int y.1),AN (.int y.2.1),AN (.ref (n+2))]:=
 (wb (.inr (h.nodes.at_ i n y h1 h2).slots) [] ((h.nodes.at_ i n y h1 h2).dict))
theorem dK (aq:List Nd)(x:Int)(k:Int):(eh aq x k).map (·.1)=aq.map (·.1):=by
 delta eh;refine aa Wu ?_;apply WL;intro p _;simp only [Ot]
 split <;> rfl
theorem hK:∀(xs:List Int) (aq:List Nd),(outs aq xs).map (·.1)=aq.map (·.1):=by
 intro xs;induction xs with
 | nil =>intro _;exact Z
 | cons x xs ih =>intro aq;refine aa (ih _) ?_;rw [dK]
theorem ake (W:vi c mg mb Kf a)(s4:dR mg mb "bool" (.type "bool"))(hs:SR H a d ns aq r ready bq fin)(hl:ready.length<1000)(n:Nat): bQ c (n+1) (.ref a.lW) [.ref (d+1)] H (λv H'=>v=.bool (decide (fin<bq)||!ready.isEmpty)/\H'=H):=by
 refine W.lW.fu W.B.toBase ["self"] ["self"] [(0,.ref (d+1))] (λJ J=>Z) Z Z (Z) λenv own frames be kq=>?_
 . refine ae (b9 (bp (bj (ab 0 Z Z (br W.B a.cS (aA W.a2).2.2 (aA W.a2).2.1 ⟨hs.inst,hs.dict⟩ Z (by simp) (fM (lP (ba (aD (ae (bt (adY (CN (bj (ab 0 Z Z (br W.B a.cS (aA W.a4).2.2 (aA W.a4).2.1 ⟨hs.inst,hs.dict⟩ Z (by simp) (bj (ab 0 Z Z (br W.B a.cS (aA W.a3).2.2 (aA W.a3).2.1 ⟨hs.inst,hs.dict⟩ Z (by simp) (acK (ba ?_)))))))))))))))))))));cases hq:decide (fin<bq) with
   | true=>exact ⟨Z,Z⟩
   | false =>refine bS (.type "bool") (bY W.B.toBase (Z) s4.1 s4.2 ⟨Z,aw (bj (ab 0 Z Z (br W.B a.cS (aA W.a2).2.2 (aA W.a2).2.1 ⟨hs.inst,hs.dict⟩ Z (by simp) (afO (.inr (af r Z hs.list)) (by simp;exact uy hl) ⟨by simp,Z⟩))))⟩)
theorem fY.ext (x:PP H H' (fY d ns r))(h:fY d ns r j)(o:AO):PP H (H'.set j o) (fY d ns r):=
 x.then (by simp) λi hi hn=>by rw [bc];intro e;clear hi;subst e;exact hn h
theorem akn (W:vi c mg mb Kf a)(s4:dR mg mb "tuple" (.type "tuple"))(B5:dR mg mb "len" (.builtin "len"))(hO:mg "_NODE_OUT"=AN (.int (-1) tk))(hs:SR H a d ns aq r ready bq fin)(zR:∀x∈ready,x∈aq.map (·.1))(hl:ready.length<1000)(n:Nat): bQ c (n+1) (.ref a.ready) [.ref (d+1)] H (λv H'=>v=.tup (ready.map .int)/\SR H' a d ns (outs aq ready) r [] (bq+ready.length) fin/\PP H H' (fY d ns r)):=by
 refine W.ready.fu W.B.toBase ["self"] ["self","result","n2i","node"] [(0,.ref (d+1))] (λJ J=>Z) Z Z (by decide +kernel) λenv own frames be kq=>?_
 . refine ae (b9 (bp (bj (ab 0 Z Z (br W.B a.cS (aA W.a2).2.2 (aA W.a2).2.1 ⟨hs.inst,hs.dict⟩ Z (by simp) (fM (lP (ba (aD (ae (aj (bS (.type "tuple") (bY W.B.toBase (by rfl) s4.1 s4.2 ⟨Z,aw (bj (ab 0 Z Z (br W.B a.cS (aA W.a2).2.2 (aA W.a2).2.1 ⟨hs.inst,hs.dict⟩ Z (by simp) (afP (.inr (af r Z hs.list)) (by simp [Wo];exact qG hl) (ah 1 Z (be 1 _ Z) ?_)))))⟩)))))))))))));refine ae (aj (bj (ab 0 Z Z (br W.B a.cS (aA W.a1).2.2 (aA W.a1).2.1 ⟨hs.inst,hs.dict⟩ Z (by simp) (ah 2 Z (be 2 _ Z) (ae (eU Z (oq (ab 1 Z Z (af _ Z ⟨λj S'=>aW S' [(0,.ref (d+1)),(1,.tup (ready.map .int)),(2,.dQ (qr ns aq))]/\SR S'.heap a d ns (outs aq (ready.take j)) r ready bq fin/\PP H S'.heap (fY d ns r),(aV (aW.of Z) hs (.refl ..)),λJ J J=>trivial,?_,?_⟩))))))))))
   . intro j v S' hj o1;refine RR o1 λhL dz vk=>?_;rw [bV] at hj;refine Va (gW hj) λx hx e=>e▸?_;have Kq:ready.take (j+1)=ready.take j++[x]:=by refine aa u7 (aa hx ?_);rfl
     have hxn:x∈(outs aq (ready.take j)).map (·.1):=by refine aa (hK _ _) ?_;exact zR x (bO hx)
     refine Cv (dz.node hxn) λi p y h1 h2 h3 h4=>?_;rw [d9,hK,<-d9] at h4;refine ah 3 Z (be 3 _ Z) (bo _ (hL.put (by rfl)) ?_);refine ae (aj (nf W.B.toBase (by rfl) hO (cE (bH (ab 2 Z Z (ab 3 Z Z ⟨hG (.inl Z),je (.inl Z) h4 (g8 W.B a.cN W.slots.2.1 nP (dz.slot h1 h2 _) (aD (aV (aW.of Z) ?_ (fY.ext vk (.inr (.inr (.inr (af p (bO h1) (.inl Z))))) _))))⟩))))));have e:outs aq (ready.take (j+1))=(outs aq (ready.take j)).set i (y.1,-1,y.2.2):=by refine aa Kq ?_;unfold outs;exact aa ai1 (oQ dz.names h2 h3 (λp=>(p.1,-1,p.2.2)))
     exact aa e (dz.xb h1 h2 (-1))
   . intro S' o2;refine RR o2 λhL dz vk=>?_;rw [qY,X9] at dz;refine bo _ hL ?_;have tb:qr ns (outs aq ready)=qr ns aq:=by refine aa (d9 _ _) (aa (hK _ _) ?_);rw [<-d9]
     have len:((ready.map AV.int).length:Int)=ready.length:=by simp
     generalize S'.heap=Hc at dz vk;refine ae (cw (cq "list" "list.clear" M1 ajj PySem.F.type_list_clear (bj (ab 0 Z Z (br W.B a.cS (aA W.a2).2.2 (aA W.a2).2.1 ⟨dz.inst,dz.dict⟩ Z (by simp) ⟨gO dz.list Z,cn (adF dz.list (by simp [Wo];exact qG hl) ?_)⟩)))) (by rfl));have sK:=dz.O1 [];have I4:PP H (Hc.set r (.list (([]:List Int).map .int))) (fY d ns r):=fY.ext vk (.inr (.inr (.inl Z))) _;generalize Zp:Hc.set r (.list (([]:List Int).map .int))=Ei at sK I4;refine aa Zp (ae (gD (ab 0 Z Z (br W.B a.cS (aA W.a3).2.2 (aA W.a3).2.1 ⟨sK.inst,sK.dict⟩ Z (by simp) (bS (.builtin "len") (bY W.B.toBase (by rfl) B5.1 B5.2 ⟨Z,aw (ab 1 Z Z (Ee (by simp;exact uy hl) (fP (df W.B a.cS (aA W.a3).1 ⟨sK.inst,sK.dict⟩ (by simp) ?_))))⟩))))));refine aa len (ae (bt (ab 1 Z Z (aV Z (sK.O2 (bq+ready.length) fin) (fY.ext I4 (.inl Z) _)))))
end
theorem ako (k:K (.bool (a != b)) S):iA c C (Xp .NotEq) (.int a) (.int b) S K X:=λA F bs s ra rb hA z ha hb=>by refine Ml ha.inv λJ o7=>?_;refine rE o7 ?_;refine Ml hb.inv λJ o6=>?_;refine rE o6 ?_;exact WP.kept z λQ E q=>anC (q _ _ (.refl ..) (af _ (.bool _) k))
noncomputable def fm (aq:List Nd)(x:Int):List Nd:=aq.map λp=>if p.1=x then (p.1,p.2.1-1,p.2.2) else p
noncomputable def gE (aq:List Nd)(x:Int):Int:=((aq.find? λy=>y.1=x).map (·.2.1)).getD 0
noncomputable def dG (st:List Nd×List Int)(s:Int):List Nd×List Int:=(fm st.1 s,if gE (fm st.1 s) s==0 then st.2++[s] else st.2)
noncomputable def fx (aq:List Nd)(ready:List Int)(x:Int):List Nd×List Int:=(c8 aq x).foldl dG (eh aq x (-2),ready)
noncomputable def eG (aq:List Nd)(ready:List Int)(x:Int)(j:Nat):List Nd×List Int:=((c8 aq x).take j).foldl dG (eh aq x (-2),ready)
theorem pT (hn:(aq.map (·.1)).Nodup)(h:y∈aq):gE aq y.1=y.2.1:=by
 induction aq with
 | nil=>exact absurd h rH
 | cons z l ih=>
   have ii:=Xh.mp (by exact hn:(z.1::l.map (·.1)).Nodup)
   (refine bz (eO h) (λe=>?_) (λh=>?_))
   . refine rE e ?_;simp [gE]
   . have eQ:z.1≠y.1:=λe=>ii.1 (by simp only [e];exact fV (af y h Z));obtain this:=ih ii.2 h;simp only [gE,lS,eQ,decide_false] at this ⊢;exact this
theorem ie (aq:List Nd)(x:Int):(fm aq x).map (·.1)=aq.map (·.1):=by
 delta fm;refine aa Wu ?_;apply WL;intro p _;simp only [Ot]
 split <;> rfl
theorem r9:∀(l:List Int) (st:List Nd×List Int),(l.foldl dG st).1.map (·.1)=st.1.map (·.1):=by
 intro l;induction l with
 | nil =>intro _;exact Z
 | cons s l ih =>intro st;simp only [ajR,ih];exact ie _ _
theorem kM (aq:List Nd)(ready:List Int)(x:Int)(j:Nat):(eG aq ready x j).1.map (·.1)=aq.map (·.1):=by delta eG;exact aa (r9 _ _) (dK ..)
theorem akp:∀(l:List Int) (st:List Nd×List Int),(l.foldl dG st).1.map (·.2.2)=st.1.map (·.2.2):=by
 intro l;induction l with
 | nil =>intro _;exact Z
 | cons s l ih=>
   intro st;simp only [ajR,ih];show (fm st.1 s).map _=_;delta fm;refine aa Wu ?_;apply WL;intro p _;simp only [Ot]
   split <;> rfl
theorem akP (aq:List Nd)(ready:List Int)(x:Int)(j:Nat):(eG aq ready x j).1.map (·.2.2)=aq.map (·.2.2):=by
 delta eG;simp only [akp];delta eh;refine aa Wu ?_;apply WL;intro p _;simp only [Ot]
 split <;> rfl
theorem akQ:∀(l:List Int) (st:List Nd×List Int),(l.foldl dG st).2.length<=st.2.length+l.length:=by
 intro l;induction l with
 | nil =>intro _;simp
 | cons s l ih=>
   intro st;obtain this:=ih (dG st s);obtain h2:(dG st s).2.length<=st.2.length+1:=by delta dG;simp only;split <;> simp
   simp;exact abO h2 this
section
variable {a:qU}
variable {H:aR}{d r:Nat}{ns:au}{aq:List Nd}{ready:List Int}{bq fin:Int}
theorem akS (W:vi c mg mb Kf a)(hO:mg "_NODE_OUT"=AN (.int (-1) tk))(hD:mg "_NODE_DONE"=AN (.int (-2) tk2))(hs:SR H a d ns aq r ready bq fin)(hx:x∈aq.map (·.1))(hp:gE aq x=-1)(hsu:∀s∈c8 aq x,s∈aq.map (·.1))(hl:ready.length+(c8 aq x).length<1000)(n:Nat): bQ c (n+1) (.ref a.done) [.ref (d+1),.int x] H (λv H'=>v=.none/\SR H' a d ns (fx aq ready x).1 r (fx aq ready x).2 bq (fin+1)/\PP H H' (fY d ns r)):=by
 refine W.done.IX W.B.toBase ["self"] "nodes" [.ref (d+1)] [.int x] ["self","nodes","n2i","node","nodeinfo","stat","successor","successor_info"] [(0,.ref (d+1)),(1,.tup [.int x])] (λJ us J=>by cases us <;> rfl) Z (by simp [Wo]) Z (by decide +kernel) λenv own frames be kq=>?_
 . refine ae (b9 (bp (bj (ab 0 Z Z (br W.B a.cS (aA W.a2).2.2 (aA W.a2).2.1 ⟨hs.inst,hs.dict⟩ Z (by simp) (fM (lP (ba (aD (ae (aj (bj (ab 0 Z Z (br W.B a.cS (aA W.a1).2.2 (aA W.a1).2.1 ⟨hs.inst,hs.dict⟩ Z (by simp) (ah 2 Z (be 2 _ Z) (ae (eU Z (oq (ab 1 Z Z (af _ Z ⟨λj S'=>aW S' [(0,.ref (d+1)),(1,.tup [.int x]),(2,.dQ (qr ns aq))]/\PP H S'.heap (fY d ns r)/\(j=0/\SR S'.heap a d ns aq r ready bq fin\/j=1/\SR S'.heap a d ns (fx aq ready x).1 r (fx aq ready x).2 bq (fin+1)),(aV (aW.of Z) (.refl ..) (.inl ⟨Z,hs⟩)),λJ J J=>trivial,?_,?_⟩))))))))))))))))))))
   . intro j v S' hj o1;refine RR o1 λhL vk hq=>?_;clear o1;have hj0:j=0:=by have:=(bA hj).1;simpa using this
     subst hj0;have dz:SR S'.heap a d ns aq r ready bq fin:=by rcases hq with ⟨_,q⟩ | ⟨q,_⟩;exact q;cases q
     simp at hj;subst hj;refine Cv (dz.node hx) λi p y h1 h2 h3 h4=>?_;have hym:=bO h2;have hpy:y.2.1=-1:=by rw [<-h3,pT hs.names hym] at hp;exact hp
     have I1:c8 aq x=y.2.2:=by refine az h3 ?_;exact kc hs.names hym
     refine ah 3 Z (be 3 _ Z) (bo _ (hL.put (by rfl)) ?_);generalize S'.heap=Hc at dz vk;refine ae (b9 (bp (tK (cq "dict" "dict.get" X4 ahG ajZ (ab 2 Z Z ⟨Z,aw (ab 3 Z Z (rZ (.inl Z) (aa h4 (ah 4 Z (be 4 _ Z) (fM (lP (ba (aD (ae (aj (bj (ab 4 Z Z (fj W.B a.cN W.slots.2.1 (dz.slot h1 h2 _) Z (by simp) (ah 5 Z (be 5 _ Z) (ae (b9 (bp (ab 5 Z Z (nf W.B.toBase (by rfl) hO (ako (ba ?_)))))))))))))))))))))⟩)))));have e1:(y.2.1 != -1)=Wp:=by refine aa hpy ?_;rfl
     refine aa e1 (aD (ae (aj (nf W.B.toBase (by rfl) hD (cE (ab 4 Z Z (g8 W.B a.cN W.slots.2.1 nP (dz.slot h1 h2 _) ?_)))))));have sK:=dz.xb h1 h2 (-2);have e2:aq.set i (y.1,-2,y.2.2)=eh aq x (-2):=(oQ hs.names h2 h3 (λp=>(p.1,-2,p.2.2))).symm;rw [e2] at sK;have I4:PP H (Hc.set (p+1) (.slots a.cN p [AN (.int y.1),AN (.int (-2)),AN (.ref (p+2))])) (fY d ns r):=fY.ext vk (.inr (.inr (.inr (af p (bO h1) (.inl Z))))) _;generalize Zp:Hc.set (p+1) (.slots a.cN p [AN (.int y.1),AN (.int (-2)),AN (.ref (p+2))])=Ei at sK I4;refine aa Zp ?_;have h2':(eh aq x (-2))[i]?=AN (y.1,-2,y.2.2):=az e2 (aa (iN (bA h2).1) Z);refine ae (eU Z (fN (bj (ab 4 Z Z (fj W.B a.cN W.slots.2.2 (sK.slot h1 h2' _) Z (by simp) (af (y.2.2.map .int) (.inr (af (p+2) Z (sK.nodes.at_ i p _ h1 h2').list)) ⟨λj S'=>aW S' [(0,.ref (d+1)),(1,.tup [.int x]),(2,.dQ (qr ns aq))]/\SR S'.heap a d ns (eG aq ready x j).1 r (eG aq ready x j).2 bq fin/\PP H S'.heap (fY d ns r),(aV (aW.of Z) (by simpa [eG] using sK) I4),?_,?_,?_⟩))))))
     . intro j bd o2;refine RR o2 λJ s0 J=>?_;have I5:i<(eG aq ready x j).1.length:=by have:=congrArg XG (kM aq ready x j);simp at this;exact aa this ((bA h2).1)
       have pK:((eG aq ready x j).1.map (·.2.2))[i]?=(aq.map (·.2.2))[i]?:=by rw [akP]
       rw [bV,bV,h2,cm I5] at pK;simp only [YU,anM] at pK;have:=(s0.nodes.at_ i p _ h1 (cm I5)).list;rw [pK] at this;exact .inr (af (p+2) Z this)
     . intro j v bd hj o3;refine RR o3 λLh s0 Lf=>?_;rw [bV] at hj;refine Va (gW hj) λs hsj e=>?_;subst e;have hsn:s∈(eG aq ready x j).1.map (·.1):=by rw [kM];exact hsu s (by refine aa I1 ?_;exact bO hsj)
       refine Cv (s0.node hsn) λk q z g1 g2 g3 g4=>?_;rw [d9,kM,<-d9] at g4;have oK:eG aq ready x (j+1)=dG (eG aq ready x j) s:=by unfold eG;refine aa I1 (aa u7 (aa hsj ?_));simp
       have hlr:(eG aq ready x j).2.length<1000:=by have:=akQ ((c8 aq x).take j) (eh aq x (-2),ready);simp only [Zb] at this;unfold eG;exact (dg (bJ this (lC (YR ..) _)) hl)
       generalize eG aq ready x j=st at s0 g2 hsn oK hlr;refine ah 6 Z (be 6 _ Z) (bo _ (Lh.put (by rfl)) ?_);generalize bd.heap=Ej at s0 Lf;refine ae (aj (bH (ab 2 Z Z (ab 6 Z Z ⟨hG (.inl Z),je (.inl Z) g4 (ah 7 Z (be 7 _ Z) (ae (gD (ab 7 Z Z (fj W.B a.cN W.slots.2.1 (s0.slot g1 g2 _) Z (by simp) (aE (adI (g8 W.B a.cN W.slots.2.1 nP (s0.slot g1 g2 _) ?_))))))))⟩))));have FB:=s0.xb g1 g2 (z.2.1-1);have e4:st.1.set k (z.1,z.2.1-1,z.2.2)=fm st.1 s:=(oQ s0.names g2 g3 (λp=>(p.1,p.2.1-1,p.2.2))).symm;have Vj:(fm st.1 s)[k]?=AN (z.1,z.2.1-1,z.2.2):=az e4 (aa (iN (bA g2).1) Z);rw [e4] at FB;have Zq:PP H (Ej.set (q+1) (.slots a.cN q [AN (.int z.1),AN (.int (z.2.1-1)),AN (.ref (q+2))])) (fY d ns r):=fY.ext Lf (.inr (.inr (.inr (af q (bO g1) (.inl Z))))) _;generalize hH4:Ej.set (q+1) (.slots a.cN q [AN (.int z.1),AN (.int (z.2.1-1)),AN (.ref (q+2))])=abe at FB Zq;refine aa hH4 ?_;have hpd:gE (fm st.1 s) s=z.2.1-1:=by have:=pT FB.names (bO Vj);refine az g3 ?_;rw [<-g3] at this;exact this
       refine ae (b9 (bp (bj (ab 7 Z Z (fj W.B a.cN W.slots.2.1 (FB.slot g1 Vj _) Z (by simp) (aE (pE (ba ?_))))))));cases hz:(z.2.1-1:Int)==0 with
       | true=>
         refine ae (cw (cq "list" "list.append" M1 Gk Dq (bj (ab 0 Z Z (br W.B a.cS (aA W.a2).2.2 (aA W.a2).2.1 ⟨FB.inst,FB.dict⟩ Z (by simp) ⟨gO FB.list Z,aw (ab 6 Z Z (gu FB.list (by simp [Wo];exact qG hlr) ?_))⟩)))) (by rfl));refine aD (aD (aV (aW.of Z) (aa oK ?_) (fY.ext Zq (.inr (.inr (.inl Z))) _)))
         rewrite [dG]
         refine aa hpd (aa hz ?_);simp only [if_true];exact aa (ints_snoc _ _) (FB.O1 (st.2++[s]))
       | false=>
         refine aD (aD (aV (aW.of Z) (aa oK ?_) Zq))
         rewrite [dG]
         refine aa hpd (aa hz ?_);simp only [mQ,if_false];exact FB
     . intro bd o4;refine RR o4 λLh s0 Lf=>?_;have ef:eG aq ready x (y.2.2.map AV.int).length=fx aq ready x:=by unfold eG fx;exact aa I1 (aa (qY _) (aa X9 Z))
       rw [ef] at s0;exact bo _ Lh (ae (gD (ab 0 Z Z (br W.B a.cS (aA W.a4).2.2 (aA W.a4).2.1 ⟨s0.inst,s0.dict⟩ Z (by simp) (aE (fP (df W.B a.cS (aA W.a4).1 ⟨s0.inst,s0.dict⟩ (by simp) (aD (aV (aW.of Z) (fY.ext Lf (.inl Z) _) (.inr ⟨Z,s0.O2 bq (fin+1)⟩))))))))))
   . intro S' o5;refine RR o5 λhL vk hq=>?_;have dz:SR S'.heap a d ns (fx aq ready x).1 r (fx aq ready x).2 bq (fin+1):=by rcases hq with ⟨q,_⟩ | ⟨_,q⟩;cases q;exact q
     exact aD (aV Z dz vk)
end
structure jG (aq:List Nd)(P:Int->Int)(T:Int->List Int):Prop where
 nd:(aq.map (·.1)).Nodup
 at_:∀y∈aq,y.2.1=P y.1/\y.2.2=T y.1
 out:∀x,x∉aq.map (·.1)->P x=0/\T x=[]
theorem jG.congr (h:jG aq P T)(hP:∀x,P' x=P x)(hT:∀x,T' x=T x):jG aq P' T':=by obtain e1:=funext hP;obtain e2:=funext hT;exact (ar e1)▸(ar e2)▸h
set_option tactic.hygienic true in
theorem kN (aq:List Nd)(x z:Int):z∈(b7 aq x).map (·.1)↔z∈aq.map (·.1)\/z=x:=by
 delta b7
 split
 . rename_i h;refine Va (X1.mp h) λp hp e=>?_;obtain e':p.1=x:=by simpa using e
   constructor
   . exact .inl
   . rintro (q | q)
     . exact q
     . exact (ar q)▸e'▸(fV (af p hp Z))
 . simp
set_option tactic.hygienic true in
theorem jG.b7 {aq:List Nd}{P:Int->Int}{T:Int->List Int}(h:jG aq P T)(x:Int):jG (b7 aq x) P T:=by
 delta Mine.Internal.b7
 split
 . exact h
 . rename_i hx;have qQ:x∉aq.map (·.1):=λm=>by exact Va (gM m) λp hp e=>hx (X1.mpr (af p hp (by simpa using e)))
   refine XZ (h.out x qQ) λo1 o2=>⟨?_,λy hy=>?_,λz hz=>h.out z λm=>hz ?_⟩
   . refine aa C5 (bb M9 (aV h.nd (by simp) (λa ha b hb e=>?_)));simp at hb;subst hb;clear o2 o1 hx;subst e;exact qQ ha
   . rcases cH hy with q | q
     . exact h.at_ y q
     . exact aa (bN q) ⟨o1.symm,o2.symm⟩
   . simp only [C5];exact Df _ m
theorem nC (aq:List Nd)(x:Int)(k:Int):(bump aq x k).map (·.1)=aq.map (·.1):=by
 delta bump;refine aa Wu ?_;apply WL;intro p _;simp only [Ot]
 split <;> rfl
theorem jH (aq:List Nd)(p x:Int):(eN aq p x).map (·.1)=aq.map (·.1):=by
 delta eN;refine aa Wu ?_;apply WL;intro p _;simp only [Ot]
 split <;> rfl
theorem jG.bump {aq:List Nd}{P:Int->Int}{T:Int->List Int}(h:jG aq P T){x:Int}(hx:x∈aq.map (·.1))(k:Int):jG (bump aq x k) (λz=>if z=x then P z+k else P z) T:=by
 refine ⟨by simp only [nC];exact h.nd,λy hy=>?_,λz hz=>?_⟩
 . refine Va (gM hy) λp hp o4=>?_;refine o4▸?_;refine XZ (h.at_ p hp) λh1 h2=>?_;by_cases e:p.1=x
   . exact aa (if_pos e) ⟨by show p.2.1+k=(if p.1=x then P p.1+k else P p.1);exact aa (if_pos e) (aa h1 Z),h2⟩
   . exact aa (if_neg e) ⟨by show p.2.1=(if p.1=x then P p.1+k else P p.1);exact aa (if_neg e) (aa h1 Z),h2⟩
 . rw [nC] at hz;exact XZ (h.out z hz) λo1 o2=>⟨(if_neg (λ(e:z=x)=>hz (e▸hx))).trans o1,o2⟩
theorem jG.eN {aq:List Nd}{P:Int->Int}{T:Int->List Int}(h:jG aq P T){p:Int}(hp:p∈aq.map (·.1))(x:Int):jG (eN aq p x) P (λz=>if z=p then T z++[x] else T z):=by
 refine ⟨by simp only [jH];exact h.nd,λy hy=>?_,λz hz=>?_⟩
 . refine Va (gM hy) λq hq o3=>?_;refine o3▸?_;refine XZ (h.at_ q hq) λh1 h2=>?_;by_cases e:q.1=p
   . exact aa (if_pos e) ⟨h1,by show q.2.2++[x]=(if q.1=p then T q.1++[x] else T q.1);exact aa (if_pos e) (aa h2 Z)⟩
   . exact aa (if_neg e) ⟨h1,by show q.2.2=(if q.1=p then T q.1++[x] else T q.1);exact aa (if_neg e) (aa h2 Z)⟩
 . rw [jH] at hz;exact XZ (h.out z hz) λo1 o2=>⟨o1,(if_neg (λ(e:z=p)=>hz (e▸hp))).trans o2⟩
theorem jG.c7 {x:Int}:∀(l:List Int) {aq:List Nd} {P:Int->Int} {T:Int->List Int},l.Nodup->jG aq P T->jG (c7 aq x l) P (λz=>if z∈l then T z++[x] else T z)/\∀z,z∈(c7 aq x l).map (·.1)↔z∈aq.map (·.1)\/z∈l:=by
 intro l;induction l with
 | nil =>intro aq P T _ h;exact ⟨h.congr (λJ=>Z) (λz=>Z),λz=>by simp [Mine.Internal.c7]⟩
 | cons p l ih=>
   intro aq P T hn h;refine XZ (Xh.mp hn) λhp hl=>?_;obtain h1:=(h.b7 p).eN ((kN aq p p).mpr (.inr Z)) x;refine XZ (ih hl h1) λi1 i2=>⟨(show jG (Mine.Internal.c7 (Mine.Internal.eN (Mine.Internal.b7 aq p) p x) x l) _ _ from i1.congr (λJ=>Z) λz=>?_),λz=>?_⟩
   . by_cases e:z=p
     . cases e;simp [hp]
     . simp [e]
   . refine bb (i2 _) ?_;rw [jH,kN];simp only [JU];constructor
     . rintro ((q | q) | q)
       . exact .inl q
       . exact .inr (.inl q)
       . exact .inr (.inr q)
     . rintro (q | q | q)
       . exact .inl (.inl q)
       . exact .inl (.inr q)
       . exact .inr q
theorem jG.fQ {aq:List Nd}{P:Int->Int}{T:Int->List Int}(h:jG aq P T)(x:Int){l:List Int}(hl:l.Nodup) :
 jG (fQ aq x l) (λz=>if z=x then P z+l.length else P z) (λz=>if z∈l then T z++[x] else T z)/\∀z,z∈(fQ aq x l).map (·.1)↔z∈aq.map (·.1)\/z=x\/z∈l:=by
 obtain h1:=(h.b7 x).bump ((kN aq x x).mpr (.inr Z)) (l.length:Int);refine XZ (jG.c7 l hl h1) λi1 i2=>⟨i1,λz=>?_⟩
 refine bb (i2 _) ?_;rw [nC,kN];constructor
 . rintro ((q | q) | q)
   . exact .inl q
   . exact .inr (.inl q)
   . exact .inr (.inr q)
 . rintro (q | q | q)
   . exact .inl (.inl q)
   . exact .inl (.inr q)
   . exact .inr q
noncomputable def nE (N:Int->List Int)(rank:List Int):List Nd:=rank.foldl (λl x=>fQ l x (N x)) []
theorem oU {l r:List Int}(h:l.Nodup)(hs:∀x∈l,x∈r):l.length<=r.length:=h.length_le_of_subset hs
theorem akV (N:Int->List Int):∀(l VU:List Int) (aq:List Nd),(VU++l).Nodup->(∀x∈l,(N x).Nodup)->
 jG aq (λz=>if z∈VU then ((N z).length:Int) else 0) (λz=>VU.filter λx=>decide (z∈N x))->(∀z,z∈aq.map (·.1)↔z∈VU\/∃x∈VU,z∈N x)->
 jG (l.foldl (λl x=>fQ l x (N x)) aq) (λz=>if z∈VU++l then ((N z).length:Int) else 0) (λz=>(VU++l).filter λx=>decide (z∈N x))/\
  (∀z,z∈(l.foldl (λl x=>fQ l x (N x)) aq).map (·.1)↔z∈VU++l\/∃x∈VU++l,z∈N x):=by
 intro l;induction l with
 | nil =>intro VU aq _ _ h hm;exact aa (Kg _) ⟨h,hm⟩
 | cons x l ih=>
   intro VU aq hn hr h hm;refine XZ (h.fQ x (hr x (.head _))) λi1 i2=>?_;obtain hx:x∉VU:=λm=>by rw [M9] at hn;exact hn.2.2 x m x (.head _) Z
   obtain this:=ih (VU++[x]) (fQ aq x (N x)) (by simpa using hn) (λy hy=>hr y (.tail _ hy))
    (i1.congr (λz=>by
     by_cases e:z=x
     . cases e;simp [hx]
     . simp [e]) λz=>by
     by_cases e:z∈N x
     . simp [e]
     . simp [e]) (λz=>by
     refine bb (i2 _) (bb (hm _) ?_);constructor
     . rintro ((q | ⟨y,hy,q⟩) | q | q)
       . exact .inl (Df _ q)
       . exact .inr (af y (Df _ hy) q)
       . exact .inl (by simp [q])
       . exact .inr (af x (by simp) q)
     . rintro (q | ⟨y,hy,q⟩)
       . rcases cH q with q | q
         . exact .inl (.inl q)
         . exact .inr (.inl (bN q))
       . rcases cH hy with w | w
         . exact .inl (.inr (af y w q))
         . rw [bN w] at q;exact .inr (.inr q))
   rw [MW,List.singleton_append] at this;exact this
theorem qu (N:Int->List Int)(rank:List Int)(hn:rank.Nodup)(hr:∀x∈rank,(N x).Nodup)(hs:∀x∈rank,∀y∈N x,y∈rank) :
 jG (nE N rank) (λz=>if z∈rank then ((N z).length:Int) else 0) (λz=>rank.filter λx=>decide (z∈N x))/\∀z,z∈(nE N rank).map (·.1)↔z∈rank:=by
 exact XZ (akV N rank [] [] (hn) hr ⟨by simp,by simp,by simp⟩ (by simp)) λh1 h2=>⟨h1,λz=>(h2 z).trans ⟨λq=>q.elim id λak0=>Va ak0 λx hx q=>hs x hx z q,.inl⟩⟩
theorem jG.gE {aq:List Nd}{P:Int->Int}{T:Int->List Int}(h:jG aq P T)(x:Int):gE aq x=P x:=by
 by_cases hx:x∈aq.map (·.1)
 . refine Va (gM hx) λy hy o6=>?_;refine o6▸?_;exact aa (pT h.nd hy) ((h.at_ y hy).1)
 . simp only [(h.out x hx).1];delta Mine.Internal.gE;refine aa (NQ.mpr λy hy e=>hx (fV (af y hy (by simpa using e)))) ?_;rfl
theorem jG.c8 {aq:List Nd}{P:Int->Int}{T:Int->List Int}(h:jG aq P T)(x:Int):c8 aq x=T x:=by
 by_cases hx:x∈aq.map (·.1)
 . refine Va (gM hx) λy hy o5=>?_;refine o5▸?_;exact aa (kc h.nd hy) ((h.at_ y hy).2)
 . simp only [(h.out x hx).2];delta Mine.Internal.c8;refine aa (NQ.mpr λy hy e=>hx (fV (af y hy (by simpa using e)))) ?_;rfl
theorem jG.eh {aq:List Nd}{P:Int->Int}{T:Int->List Int}(h:jG aq P T){x:Int}(hx:x∈aq.map (·.1))(k:Int):jG (eh aq x k) (λz=>if z=x then k else P z) T:=by
 refine ⟨by simp only [dK];exact h.nd,λy hy=>?_,λz hz=>?_⟩
 . refine Va (gM hy) λp hp o4=>?_;refine o4▸?_;refine XZ (h.at_ p hp) λh1 h2=>?_;by_cases e:p.1=x
   . exact aa (if_pos e) ⟨by show k=(if p.1=x then k else P p.1);exact aa (if_pos e) Z,h2⟩
   . exact aa (if_neg e) ⟨by show p.2.1=(if p.1=x then k else P p.1);exact aa (if_neg e) (aa h1 Z),h2⟩
 . rw [dK] at hz;exact XZ (h.out z hz) λo1 o2=>⟨(if_neg (λ(e:z=x)=>hz (e▸hx))).trans o1,o2⟩
theorem jG.outs {T:Int->List Int}:∀(l:List Int) {aq:List Nd} {P:Int->Int},jG aq P T->(∀x∈l,x∈aq.map (·.1))->jG (outs aq l) (λz=>if z∈l then -1 else P z) T:=by
 intro l;induction l with
 | nil =>intro aq P h _;exact h.congr (λz=>Z) λJ=>Z
 | cons x l ih=>
   intro aq P h hx;obtain h1:=h.eh (hx x (.head _)) (-1);obtain h2:=ih h1 λy hy=>by simp only [dK];exact hx y (.tail _ hy)
   refine (show jG (Mine.Internal.outs (Mine.Internal.eh aq x (-1)) l) _ _ from h2.congr (λz=>?_) λJ=>Z);by_cases e:z∈l
   . simp [e]
   . by_cases e':z=x
     . simp [e']
     . simp [e,e']
theorem jG.fm {aq:List Nd}{P:Int->Int}{T:Int->List Int}(h:jG aq P T){x:Int}(hx:x∈aq.map (·.1)):jG (fm aq x) (λz=>if z=x then P z-1 else P z) T:=by
 refine ⟨by simp only [ie];exact h.nd,λy hy=>?_,λz hz=>?_⟩
 . refine Va (gM hy) λp hp o3=>?_;refine o3▸?_;refine XZ (h.at_ p hp) λh1 h2=>?_;by_cases e:p.1=x
   . exact aa (if_pos e) ⟨by show p.2.1-1=(if p.1=x then P p.1-1 else P p.1);exact aa (if_pos e) (aa h1 Z),h2⟩
   . exact aa (if_neg e) ⟨by show p.2.1=(if p.1=x then P p.1-1 else P p.1);exact aa (if_neg e) (aa h1 Z),h2⟩
 . rw [ie] at hz;exact XZ (h.out z hz) λo1 o2=>⟨(if_neg (λ(e:z=x)=>hz (e▸hx))).trans o1,o2⟩
theorem jG.O4:∀(l:List Int) {aq:List Nd} {P:Int->Int} (rd:List Int),l.Nodup->jG aq P T->(∀x∈l,x∈aq.map (·.1))->
 jG (l.foldl dG (aq,rd)).1 (λz=>if z∈l then P z-1 else P z) T/\(l.foldl dG (aq,rd)).2=rd++l.filter λs=>decide (P s=1):=by
 intro l;induction l with
 | nil =>intro aq P rd _ h _;exact ⟨h.congr (λz=>Z) λJ=>Z,by simp⟩
 | cons x l ih=>
   intro aq P rd hn h hx;refine XZ (Xh.mp hn) λhxl hl=>?_;obtain h1:=h.fm (hx x (.head _));obtain h2:=ih (if Mine.Internal.gE (Mine.Internal.fm aq x) x==0 then rd++[x] else rd) hl h1 λy hy=>by simp only [ie];exact hx y (.tail _ hy)
   refine ⟨h2.1.congr (λz=>?_) λJ=>Z,?_⟩
   . by_cases e:z=x
     . cases e;simp [hxl]
     . simp [e]
   . refine aa h2.2 (aa (h1.gE x) (aa (if_pos Z) ?_));obtain e1:(l.filter λs=>decide ((if s=x then P s-1 else P s)=1))=l.filter λs=>decide (P s=1):=by apply alm;intro s hs;exact aa (if_neg (λ(e:s=x)=>hxl (e▸hs))) Z
     refine (ar e1)▸(ar XB)▸?_;by_cases e:P x=1
     . simp [e]
     . obtain this:=abR e;simp [e,this]
theorem ak4 (hx:x∉d){l:List Int}(hn:l.Nodup)(hm:x∈l):(l.filter λy=>decide (y∉d)).length=(l.filter λy=>decide (y∉d++[x])).length+1:=by
 refine az ah3 (ah3▸?_);induction l with
 | nil=>exact nomatch hm
 | cons a l ih=>
   refine XZ (Xh.mp hn) λha hl=>(ar alG)▸(ar alG)▸?_;by_cases e:a=x
   . clear ih;clear hm;subst e;refine (ar (decide_eq_true hx))▸(ar (decide_eq_false λq:a∉d++[a]=>q (Ko _ (.head _))))▸(congrArg GH (List.countP_congr λy hy=>?_))
     rw [decide_eq_true_iff,decide_eq_true_iff,M3,MX,or_iff_left λq:y=a=>ha (q▸hy)]
   . refine aa (ih hl ((eO hm).resolve_left (Gy e))) ?_;rw [decide_eq_decide.mpr (show a∉d↔a∉d++[x] by rw [M3,MX,or_iff_left e])];exact wV ..
theorem ak8 {d l:List Int}(hx:x∉l):(l.filter λy=>decide (y∉d++[x]))=l.filter λy=>decide (y∉d):=by apply alm;intro y hy;obtain this:y≠x:=λq=>hx (q▸hy);simp [this]
end Mine.Internal
namespace Mine.Internal
open PySem PyProof.Rows
section
variable {prog:AZ}{w:X3}{E:pF}{s:Gb}
abbrev m8 (h:Xi)(a:Wr)(x:Str)(t:Tok)(i:Nat):Prop:=h.IsStrIter a "str_ascii_iterator" x t i
theorem m8.at {h h':Xi}{a:Wr}{x:Str}{t:Tok}{i:Nat}(y:m8 h a x t i)(k:∀o,h.get? a=AN o->h'.get? a=AN o):m8 h' a x t i:=by refine N1 y λo h1 h2 h3=>?_;exact (aU o (k o h1) h2 h3)
theorem alc {z TI TO i1 i2 l:Wr}{k:Nat}{u:Str}{t:Tok}{ys:Array Ws}{cp:Nat}{y a b:Ws}{Q:pF}(D:ant z TI TO i1 i2 l l)(hz:O8 s.heap z TI TO .none)(yU:YV s.heap TI (.ref i1) (.ref i2))(Bj:YV s.heap TO a b)(h1:m8 s.heap i1 u t k)(h2:s.heap.IsListIter i2 l k)(nN:s.heap.IsList l ys)(hx:u.cps[k]?=AN cp)(hy:ys[k]?=AN y)(hQ:∀h',O8 h' z TI TO (A1 s.heap.objs.size)->YV h' TO (.str ⟨#[cp]⟩ s.toks) y->m8 h' i1 u t (k+1)->h'.IsListIter i2 l (k+1)->YV h' s.heap.objs.size (.str ⟨#[cp]⟩ s.toks) y->h'.objs.size=s.heap.objs.size+1->(∀c o,c≠z->c≠TO->c≠i1->c≠i2->s.heap.get? c=AN o->h'.get? c=AN o)->Q (.ref s.heap.objs.size) {s with heap:=h',toks:=s.toks+1}): Dk (model prog w) A (Ye.«zip.__next__» ⟨[.ref z],[]⟩) (λfin s'=>∃v,fin=.done (.ret v)/\Q v s') E s:=by
 show Dk _ _ (field (.ref z) 2 >>= _) _ _ _;refine ag (Nb hz Z (x:=.bool Wp) Z ?_);refine ag (Nb hz Z (x:=.ref TI) Z ?_);refine ag (A8 yU Z ?_);refine ag ?_;unfold ag6;refine ag (Nb hz Z (x:=.none) Z (aX ?_));simp only [if_true];refine ag (XD ?_);refine ag (Nb hz Z (x:=.ref TO) Z ?_);refine ag (Yq hz (by simp) λh₁ Es ch=>?_);refine ag ?_;simp only [alH,al5,YT,akf];refine ag (ag (akL ?_));refine ag (wpAny_nextOf_ascii_item (h1.extBut ch.extBut D.i1z) hx λim alu bi=>aX ?_);have Et:YV im TO a b:=bi.extBut _ _ D.TOi1 (ch.extBut _ _ D.TOz Bj);refine ag (A8 Et Z ?_);refine ag (akg Et λlO alA eA=>?_);refine ag (al1 (aX ?_));refine ag (ag (akL ?_));refine ag (wpAny_nextOf_list_item (((h2.extBut ch.extBut D.i2z).extBut bi.extBut D.i12.symm).extBut eA.extBut D.TOi2.symm)
  (((nN.extBut ch.extBut D.l2z).extBut bi.extBut D.l2i1).extBut eA.extBut D.l2TO) hy λu4 alC iJ=>aX ?_)
 have Eu:YV u4 TO (.str ⟨#[cp]⟩ s.toks) b:=iJ.extBut _ _ D.TOi2 alA;refine ag (A8 Eu Z ?_);refine ag (akg Eu λse vn xi=>?_);replace vn:YV se TO (.str ⟨#[cp]⟩ s.toks) y:=vn;refine ag (al1 (aX (aX ?_)));refine ag (A8 vn Z ?_);refine ag (tu ?_);have hsz:se.objs.size=s.heap.objs.size:=aa xi.1 (aa iJ.1 (aa eA.1 (aa bi.1 (aa ch.1 Z))));have I6:O8 se z TI TO .ellipsis:=xi.extBut _ _ D.TOz.symm (iJ.extBut _ _ D.i2z.symm (eA.extBut _ _ D.TOz.symm (bi.extBut _ _ D.i1z.symm Es)));have alT:∀c o,c≠z->c≠TO->c≠i1->c≠i2->s.heap.get? c=AN o->se.get? c=AN o:=λc o c1 c2 c3 c4 e=>
  xi.extBut _ _ c2 (iJ.extBut _ _ c4 (eA.extBut _ _ c2 (bi.extBut _ _ c3 (ch.extBut _ _ c1 e))))
 have al0:m8 se i1 u t (k+1):=((alu.extBut eA.extBut D.TOi1.symm).extBut iJ.extBut D.i12).extBut xi.extBut D.TOi1.symm;have amf:se.IsListIter i2 l (k+1):=alC.extBut xi.extBut D.TOi2.symm;have Pa:z<se.objs.size:=M7 I6;refine ag ?_;unfold akC;have amg:O8 (se.push {cls:=.type "tuple",data:=.seq #[.str ⟨#[cp]⟩ s.toks,y]}) z TI TO .ellipsis:=Wq _ I6;refine ag (Yq amg (by simp) λabf amj Ew=>?_);refine Yq amj (by simp) λHg I7 Ey=>?_;have up:∀c o,c≠z->se.get? c=AN o->Hg.get? c=AN o:=λc o c1 e=>Ey.extBut _ _ c1 (Ew.extBut _ _ c1 (Wq _ e));have I8:YV Hg se.objs.size (.str ⟨#[cp]⟩ s.toks) y:=Ey.extBut _ _ (Nv Pa) (Ew.extBut _ _ (Nv Pa) (Gl _ Z));have hz8:Hg.objs.size=se.objs.size+1:=aa Ey.1 (aa Ew.1 (aa (No _ _) Z));rw [hsz] at I7 I8 hz8;refine aX (af _ Z ?_);refine aa hsz ?_;exact hQ Hg I7 (up _ _ D.TOz vn) (al0.at λo e=>up _ o D.i1z e) (amf.at λo e=>up _ o D.i2z e) I8 hz8 λc o c1 c2 c3 c4 e=>up c o c1 (alT c o c1 c2 c3 c4 e)
theorem amk {z TI TO i1 i2 l:Wr}{k:Nat}{u:Str}{t:Tok}{a b:Ws}{Q:Fin->nj}(hh:A.handled=Wm)(D:ant z TI TO i1 i2 l l)(hz:O8 s.heap z TI TO .none)(yU:YV s.heap TI (.ref i1) (.ref i2))(Bj:YV s.heap TO a b)(h1:m8 s.heap i1 u t k)(amu:u.cps[k]?=Wm)(hE:∀h' e,(∀c o,c≠z->c≠i1->s.heap.get? c=AN o->h'.get? c=AN o)->(∃o,h'.get? e=AN o/\o.cls=.type "StopIteration")->E (.ref e) {s with heap:=h'}): Dk (model prog w) A (Ye.«zip.__next__» ⟨[.ref z],[]⟩) Q E s:=by
 show Dk _ _ (field (.ref z) 2 >>= _) _ _ _;refine ag (Nb hz Z (x:=.bool Wp) Z ?_);refine ag (Nb hz Z (x:=.ref TI) Z ?_);refine ag (A8 yU Z ?_);refine ag ?_;unfold ag6;refine ag (Nb hz Z (x:=.none) Z (aX ?_));simp only [if_true];refine ag (XD ?_);refine ag (Nb hz Z (x:=.ref TO) Z ?_);refine ag (Yq hz (by simp) λh₁ Es ch=>?_);refine ag ?_;simp only [alH,al5,YT,akf];refine ag (ag (akL ?_));refine ag (wpAny_nextOf_ascii_end hh (h1.extBut ch.extBut D.i1z) amu λim e bi he=>?_);refine Va he λoe Zt Kb=>?_;have I9:O8 im z TI TO .ellipsis:=bi _ _ D.i1z.symm Es;have hez:e≠z:=λx=>by subst x;rw [I9] at Zt;cases Zt;simp at Kb
 refine Yq I9 (by simp) λlO J eA=>hE lO e (λc o c1 c3 x=>eA.extBut _ _ c1 (bi _ _ c3 (ch.extBut _ _ c1 x))) (af oe (eA.extBut _ _ hez Zt) Kb)
noncomputable abbrev Vr (h:Xi)(u:Str)(t:Tok):Xi:=h.push {cls:=.type "str_ascii_iterator",data:=.fields #[.str u t,.int 0 0]}
noncomputable abbrev Vt (h:Xi)(u:Str)(t:Tok)(l:Wr):Xi:=(Vr h u t).push {cls:=.type "list_iterator",data:=.fields #[.ref l,.int 0 0]}
noncomputable abbrev Vu (h:Xi)(u:Str)(t:Tok)(l:Wr):Xi:=(Vt h u t l).push {cls:=.type "tuple",data:=.seq #[.ref h.objs.size,.ref (Vr h u t).objs.size]}
noncomputable abbrev Vv (h:Xi)(u:Str)(t:Tok)(l:Wr):Xi:=(Vu h u t l).push {cls:=.type "tuple",data:=.seq #[.none,.none]}
noncomputable abbrev Lj (h:Xi)(u:Str)(t:Tok)(l:Wr):Xi:=(Vv h u t l).push {cls:=.type "zip",data:=.fields #[.none,.bool Wp,.bool Wp,.ref (Vt h u t l).objs.size,.ref (Vu h u t l).objs.size]}
theorem amz (u:Str)(t:Tok)(l:Wr)(ys:Array Ws)(ha:u.cps.all (· < 128)=Wn): Meets (Ye.«zip.__new__» ⟨[.type "zip",.str u t,.ref l],[]⟩) (λJ R s=>s.heap.IsList l ys/\R (.ok (.ret (.ref (Vv s.heap u t l).objs.size))) {s with heap:=Lj s.heap u t l}):=
 .of_wp λprog w A R s h=>by
  obtain ⟨hp,g,d,tk,os⟩:=s;obtain ⟨nN,h⟩:=h;have Bl:Heap.IsList (Shared.heap ⟨hp.push {cls:=.type "str_ascii_iterator",data:=.fields #[.str u t,.int 0 0]},g,d,tk,os⟩) l ys:=anR nN _;have hn:amc "zip" ⟨[.type "zip",.str u t,.ref l],[]⟩=pure (.type "zip",[.str u t,.ref l]):=by show (do if !(<-isType (.type "zip")) then _ else _)=_;refine aa (show isType (.type "zip")=pure Wn from Z) ?_;simp only [pure_bind,sub_zip];rfl
  refine ag (NT hn ?_);refine ag ?_;unfold amt;simp only [YT,akf];refine ag (ag (ag (pa (aiC ha ?_))));refine aX ?_;refine ag (ag (pa (Y3 Bl ?_)));refine aX (aX (aX ?_));refine ag (tu (ag (tu ?_ (by simp [Wo]))) (by simp [Wo]));unfold al6;exact ag (yq (aX (af _ Z h)) (by simp [sizeOk,Wo,akM]))
theorem am1 {u:Str}{t:Tok}{l:Wr}{ys:Array Ws}{Q:pF}(ha:u.cps.all (· < 128)=Wn)(nN:s.heap.IsList l ys)(h:∀h',O8 h' (s.heap.objs.size+4) (s.heap.objs.size+2) (s.heap.objs.size+3) .none->YV h' (s.heap.objs.size+2) (.ref s.heap.objs.size) (.ref (s.heap.objs.size+1))->YV h' (s.heap.objs.size+3) .none .none->m8 h' s.heap.objs.size u t 0->h'.IsListIter (s.heap.objs.size+1) l 0->h'.objs.size=s.heap.objs.size+5->(∀c o,s.heap.get? c=AN o->h'.get? c=AN o)->Q (.ref (s.heap.objs.size+4)) {s with heap:=h'}): Dk (model prog w) A (call (.type "zip") [.str u t,.ref l]) Q E s:=by
 refine callType_new F.called_zip (by decide) (F.typeCall_zip_2 _ _) (F.newCall_zip_2 _ _) (λobj=>F.args_object_init_3 obj _ _) F.entry_zip_new
  (amz u t l ys ha) ⟨nN,?_⟩
 have z1:(Vr s.heap u t).objs.size=s.heap.objs.size+1:=No ..;have z2:(Vt s.heap u t l).objs.size=s.heap.objs.size+2:=aa (No _ _) (aa z1 Z);have z3:(Vu s.heap u t l).objs.size=s.heap.objs.size+3:=aa (No _ _) (aa z2 Z);have z4:(Vv s.heap u t l).objs.size=s.heap.objs.size+4:=aa (No _ _) (aa z3 Z);have am2:(Lj s.heap u t l).objs.size=s.heap.objs.size+5:=aa (No _ _) (aa z4 Z);have g5:(Lj s.heap u t l).get? (Vv s.heap u t l).objs.size=AN _:=Gl _ Z;have g4:(Lj s.heap u t l).get? (Vu s.heap u t l).objs.size=AN _:=Wq _ (Gl _ Z);have g3:(Lj s.heap u t l).get? (Vt s.heap u t l).objs.size=AN _:=Wq _ (Wq _ (Gl _ Z));have g2:(Lj s.heap u t l).get? (Vr s.heap u t).objs.size=AN _:=Wq _ (Wq _ (Wq _ (Gl _ Z)));have g1:(Lj s.heap u t l).get? s.heap.objs.size=AN _:=Wq _ (Wq _ (Wq _ (Wq _ (Gl _ Z))));rw [z2,z3,z4] at g5;rw [z1,z2] at g3;rw [z3] at g4;rw [z1] at g2;refine aa z4 ?_;exact ⟨(af _ g5 Z),h _ g5 g3 g4 (aU _ g1 Z Z) (aU _ g2 Z Z) am2 λc o x=>
  Wq _ (Wq _ (Wq _ (Wq _ (Wq _ x))))⟩
def Pd (z TI TO i1 i2 l:Wr)(u:Str)(t:Tok)(ys:Array Ws)(i:Nat)(h:Xi):Prop:=
 O8 h z TI TO .none/\YV h TI (.ref i1) (.ref i2)/\(∃a b,YV h TO a b)/\m8 h i1 u t i/\h.IsListIter i2 l i/\h.IsList l ys
def Pe (z TI TO i1 i2 l:Wr)(u:Str)(t:Tok)(ys:Array Ws)(i:Nat)(T:Wr)(h:Xi):Prop:=
 O8 h z TI TO (A1 T)/\YV h TI (.ref i1) (.ref i2)/\(∃a b,YV h TO a b)/\m8 h i1 u t (i+1)/\h.IsListIter i2 l (i+1)/\h.IsList l ys/\T≠z/\T≠TI/\T≠TO/\T≠i1/\T≠i2
def ZPt (u:Str)(ys:Array Ws)(i:Nat)(Cz:Array Ws):Prop:=∃cp tk y,u.cps[i]?=AN cp/\ys[i]?=AN y/\Cz=#[.str ⟨#[cp]⟩ tk,y]
theorem Pd.cls {z TI TO i1 i2 l:Wr}{u:Str}{t:Tok}{ys:Array Ws}{i:Nat}{h:Xi}(q:Pd z TI TO i1 i2 l u t ys i h):∀b∈[z,TI,TO,i1,i2],∃o,h.get? b=AN o/\o.cls≠.none/\o.cls≠.type "frame":=by
 refine FP q λq1 q2 tH yf JI J=>?_;obtain ⟨a,b,q3⟩:=tH;obtain ⟨o4,q4,q4',_⟩:=yf;obtain ⟨o5,q5,q5',_⟩:=JI;intro b hb;simp only [JU,rH,or_false] at hb;rcases hb with rfl | rfl | rfl | rfl | rfl
 . exact (aU _ q1 (by simp) (by simp))
 . exact (aU _ q2 (by simp) (by simp))
 . exact (aU _ q3 (by simp) (by simp))
 . exact (aU _ q4 (by refine aa q4' ?_;simp) (by refine aa q4' ?_;simp))
 . exact (aU _ q5 (by refine aa q5' ?_;simp) (by refine aa q5' ?_;simp))
theorem WalksT.Zu (hh:A.handled=Wm)(z TI TO i1 i2 l:Wr)(D:ant z TI TO i1 i2 l l)(u:Str)(t:Tok)(ys:Array Ws)(hn:u.cps.size=ys.size) :
 WalksT prog w A z [z,TI,TO,i1,i2,l] [z,TI,TO,i1,i2] ys.size (ZPt u ys) (Pd z TI TO i1 i2 l u t ys) (Pe z TI TO i1 i2 l u t ys) where
 sub:=λc hc=>by simp at hc ⊢;rcases hc with rfl | rfl | rfl | rfl | rfl <;> simp
 frame:=λi h h' be hk=>by
  refine FP be λhz yU qR h1 h2 nN=>?_;obtain ⟨a,b,Bj⟩:=qR;exact ⟨hk z (by simp) _ hz,hk TI (by simp) _ yU,(n4 a b (hk TO (by simp) _ Bj)),h1.at λo e=>hk i1 (by simp) o e,h2.at λo e=>hk i2 (by simp) o e,
   nN.at λo e=>hk l (by simp) o e⟩
 item:=λi s Q E hi be hQ=>by
  refine FP be λhz yU o9 h1 h2 nN=>?_;obtain ⟨a,b,Bj⟩:=o9;have hT:s.TypeIs (.ref z) "zip":=(af _ hz Z)
  have Vw:i<u.cps.size:=hn▸hi;have gx:u.cps[i]?=AN u.cps[i]:=Yc Vw;have gy:ys[i]?=AN ys[i]:=Yc hi;unfold yQ;refine ag (Ba (XQ (name:=Ww "__next__") hT D9
   (yw D9 hT alI
    (alc D hz yU Bj h1 h2 nN gx gy λh' a1 a2 a3 a4 a5 a6 hk=>aX ?_) (aln _))))
  have lt:∀{c o},s.heap.get? c=AN o->s.heap.objs.size≠c:=λe=>Nv (M7 e);exact hQ s.heap.objs.size #[.str ⟨#[u.cps[i]]⟩ s.toks,ys[i]] h' (s.toks+1) (fK _ _ _ gx gy Z) (bP _) (di _ a5 Z _ Z)
   ⟨a1,hk _ _ D.TIz D.TITO D.TIi1 D.TIi2 yU,(n4 _ _ a2),a3,a4,nN.at λo e=>hk _ o D.l2z D.l2TO D.l2i1 D.l2i2 e,
    lt hz,lt yU,lt Bj,(by refine Va h1 λJ e J=>?_;exact lt e),(by refine Va h2 λJ e J=>?_;exact lt e)⟩
   λc o hc e=>hk c o (λx=>hc (by simp [x])) (λx=>hc (by simp [x])) (λx=>hc (by simp [x])) (λx=>hc (by simp [x])) e
 go:=λelts k pos i T s Q E hm hQ=>by
  refine FO hm λhz yU o8 h1 h2 nN J=>?_;obtain ⟨a,b,Bj⟩:=o8;refine wpAny_letOwnedTupleGo_zip hz λh' VQ dz=>hQ h' ⟨VQ,dz.extBut _ _ D.TIz yU,(n4 a b (dz.extBut _ _ D.TOz Bj)),h1.extBut dz.extBut D.i1z,h2.extBut dz.extBut D.i2z,
   nN.extBut dz.extBut D.l2z⟩ λc o hc e=>dz.extBut _ _ (λx=>hc (by simp [x])) e
 apart:=λi T h hm hT=>by
  refine FO hm λJ J J J J J o7=>?_;obtain ⟨t1,am4,t2,t3,t4⟩:=o7;simp at hT;rcases hT with rfl | rfl | rfl | rfl | rfl
  . exact t1 Z
  . exact am4 Z
  . exact t2 Z
  . exact t3 Z
  . exact t4 Z
 done:=λs Q E be hQ=>by
  refine FP be λhz yU o6 h1 h2 nN=>?_;obtain ⟨a,b,Bj⟩:=o6;have hT:s.TypeIs (.ref z) "zip":=(af _ hz Z)
  unfold yQ;refine ag (Ba (XQ (name:=Ww "__next__") hT D9
   (yw D9 hT alI (amk hh D hz yU Bj h1 (by refine az hn ?_;exact Array.getElem?_eq_none (bP _)) λh' e hk he=>?_) (aln _))))
  refine Va he λo ho hc=>?_;refine ag (Oq (T:="StopIteration") (b:=Wn) (af o ho hc) Hb ?_);exact aX (hQ _ s.toks λc o hc e=>hk c o (λx=>hc (by simp [x])) (λx=>hc (by simp [x])) e)
 self:=λi s Q E be hQ=>alJ be.1 hQ
end
end Mine.Internal
namespace Mine.Internal
section
variable {a b c d e f g:Nat}
theorem sf:15-a<16:=Nat.sub_lt_succ ..
theorem Ja:0<=(↑a:Int):=Gm _
theorem Ll:a<16->15-(15-a)=a:=(by decide +kernel:∀a,a<16->15-(15-a)=a) a
theorem Mo:a+3<=a+9:=WK (by decide) _
theorem Mp:a<a->False:=KO a
theorem Mq:a<16->b<a->b<16:=λh k=>XJ k h
theorem Pf:a<16->a<=16:=λh=>cD h
theorem Pg:a<=16->a<100:=λh=>jy h Z
theorem Ph:a<=4->a<2 ^ 63:=λh=>jy h Z
theorem Vx:a+1<=a+6:=C3 (Gh ..)
theorem Hi:a<=4->a<5:=λh=>C3 h
theorem Hj:a<16->b<=a->b<16:=λh k=>dg k h
theorem Hk:a<b->b=a->False:=λh k=>Nv h k
theorem Hl:a<b+1->c<a->c<b:=λh k=>Dc (dg k h)
theorem Hm:a<b->b<c->a<c:=λh k=>XJ h k
theorem Hn:a<b->b=c->a<c:=λh k=>k▸h
theorem Ho:a<b->b<=c->a<c:=λh k=>cV h k
theorem Lm:a+1≠a:=ajl _
theorem Ln:a+1<=a+2:=C3 (Gh ..)
theorem Lo:a<16->a<16:=λh=>h
theorem Lp:a<60->a<=2 ^ 24:=λh=>il h Z
theorem Lq:a<a+1:=J5
theorem Lr:a<=16->a<20:=λh=>jy h Z
theorem Ls:(a+b) % 16<16:=YW _ (by decide)
theorem Lu:a<b->a<b+1:=λh=>YE h
theorem Lv:¬a<b->b<=a:=λh=>DF.mp h
theorem Pj:0<16:=WO ..
theorem Pk:0<=16:=WO ..
theorem Pl:-2 ^ 62<=(↑a:Int):=Gm _
theorem Pm:a+1<=16->a<16:=λh=>h
theorem Pn:a+1<=16->a<=16:=λh=>cD h
theorem Po:a+1<=a+9:=C3 (Gh ..)
theorem Pp:a+2<=a+6:=WK (by decide) _
theorem Pq:a+6<a+7:=J5
theorem Pr:a+8<=a+9:=WK (by decide) _
theorem Pu:a+9≠0:=Yn _
theorem Pw:a<100->a<1000:=λh=>dh h Z
theorem Px:a<16->a<2 ^ 63:=λh=>dh h Z
theorem Py:a<16->a<31:=λh=>dh h Z
theorem Pz:a<20->1+a<=16777216:=λh=>il (ND h _) Z
theorem PA:a<20->a<=16777216:=λh=>il h Z
theorem PB:a<31->a+97<128:=λh=>dh (YI h _) Z
theorem PC:a<5->(↑a:Int)<2 ^ 63:=λh=>Gj.mpr (dh h Z)
theorem PE:a<60->a<64:=λh=>dh h Z
theorem PF:a<=16->a+1<20:=λh=>jy (YM h) Z
theorem PG:a<=16->a<17:=λh=>C3 h
theorem PH:a<=16->¬a=16->a<16:=(by decide +kernel:∀a,a<=16->¬a=16->a<16) a
theorem PJ:a<=20->a<=2 ^ 24:=λh=>s6 h Z
theorem PK:a<=4->a<=2 ^ 24:=λh=>s6 h Z
theorem PL:a<=a+6:=Gh ..
theorem PM:¬a<5->5<=a:=λh=>DF.mp h
theorem PN:15-a<15-b->b<a:=λh=>alK λk=>DF.mpr (ah5 k 15) h
theorem PO:a+97=b+97->a=b:=λh=>Nat.add_right_cancel h
theorem PQ:a<b->a=b->False:=λh k=>WU h k
theorem PR:a<b->b=16->a<16:=λh k=>k▸h
theorem PT:a<=b->¬a=b->a<b:=λh k=>Gg h k
theorem PU:a+(b+c)<=16->a<60:=λh=>jy (bJ (Gh ..) h) Z
theorem PV:a+1+(b+1)<=c->a+1+b<=c:=λh=>cD h
theorem PW:a<1000->b<=a->c<=a->b+c<=2 ^ 24:=λh k l=>il (dg (XT k l) (akh h h)) Z
theorem PX:a<16/\b<c->b=c->False:=λh k=>WU h.2 k
theorem PY:a<b->b<=c->¬c=a:=λh k=>Nv (cV h k)
theorem PZ:a<b->c=0->c=b\/c=b+1->False:=λh k l=>l.elim (λe=>Nv (Y4 h) (e.symm.trans k)) λe=>Yn b (e.symm.trans k)
theorem yW:a<b->c=a->c=b\/c=b+1->False:=λh k l=>l.elim (λe=>WU h (k.symm.trans e)) λe=>WU (Ni h) (k.symm.trans e)
theorem P0:a<b->c=b->a<c:=λh k=>k▸h
theorem P1:a<=b->b<=c->a<=c:=λh k=>bJ h k
theorem P4:a<100->b<20->c<=22*a->d<=b+2->c+d<=2 ^ 24:=λh k l m=>s6 (XT (bJ l (GQ 22 (cD h))) (bJ m (WQ (cD k) 2))) Z
theorem P5:a<=b->b<=c->c<=d->a<=d:=λh k l=>bJ h (bJ k l)
theorem am5:0<2:=WO ..
theorem Zw:0<4096:=WO ..
theorem Zx:1<2:=J5
theorem Zy:16+1<=16->False:=λh=>absurd h (by decide)
theorem Zz:16<=16:=J5
theorem ZA:4096<2 ^ 40:=WO ..
theorem ZC:(↑(a % 8):Int)<2 ^ 63:=Gj.mpr (dh (YW a (by decide:0<8)) Z)
theorem ZD:(↑a:Int) % 2≠0↔a % 2≠0:=not_congr (amI)
theorem ZE:(↑a:Int)=0↔a=0:=amI
theorem ZF:-1+(↑(a+1):Int)=(↑a:Int):=by simp +arith
theorem ZG:-2 ^ 63<=(↑a:Int):=Gm _
theorem ZH:-2 ^ 64<(↑a:Int):=Gm _
theorem ZI:0+a<=a:=WH (OT a)
theorem ZJ:0<=(↑(a % 8):Int):=Gm _
theorem ZK:0<=(↑(a / 8):Int):=Gm _
theorem ZL:0<=(↑a:Int)/\(↑a:Int)<(↑(a+1):Int):=⟨Gm a,Gj.mpr (W0 a)⟩
theorem ZM:1-(↑a:Int)=-(↑a:Int)+1:=Int.add_comm 1 (-(↑a:Int))
theorem ZN:15-(↑a:Int)<2 ^ 63:=aiD (Int.sub_le_self 15 (Gm a)) (by decide)
theorem ZO:15<a->a<16->False:=λh k=>DF.mpr h k
theorem ZP:16<=a->a<16->False:=λh k=>DF.mpr h k
theorem P6:2*(a / 16 % 8)+1<16:=(GQ 2 (YW (a / 16) (by decide:0<8)):2*(a / 16 % 8+1)<=2*8)
theorem ZQ:2*(↑(a / 16 % 8):Int)+1=(↑(2*(a / 16 % 8)+1):Int):=rfl
theorem ZR:2<6+a:=cV (by decide:2<6) (Gh 6 a)
theorem ZS:2<a->a≠2:=λh=>dH h
theorem P7:a % 8<8:=YW _ (by decide)
theorem P8:a+1+0<=a->False:=aki a
theorem P9:a+1<16->a+1<16:=λh=>h
theorem Qa:a+1<16->a+1<=16:=λh=>cD h
theorem Qb:a+1<900->a<1000:=λh=>il h Z
theorem Qc:a+1<=a+7:=C3 (Gh ..)
theorem Qd:a+4<=a+6:=WK (by decide) _
theorem Qe:a+4<=a+7:=WK (by decide) _
theorem Qf:a+7≠0:=Yn _
theorem Qg:a+7<=a+9:=WK (by decide) _
theorem Qh:a-0=a-0:=rfl
theorem Qi:a<100->0+a<1000:=λh=>dh (ND h _) Z
theorem Qj:a<100->a<500:=λh=>dh h Z
theorem Qk:a<100->a<900:=λh=>dh h Z
theorem Ql:a<100->a<=2 ^ 24:=λh=>il h Z
theorem Qm:a<1000->a<=16777216:=λh=>il h Z
theorem Qn:a<16->(↑(a / 8):Int)<=1000000:=λh=>NA.mpr (bJ (Nat.div_le_self a 8) (il h Z))
theorem Qo:a<16->0+a<16:=λh=>dh (ND h _) Z
theorem Qp:a<16->0<=15-(↑a:Int):=λh=>akj.mpr (NA.mpr (Dc h))
theorem Qq:a<16->15-(↑a:Int)=(↑(15-a):Int):=λh=>(akN (Dc h)).symm
theorem Qr:a<16->16-1-(15-a)=a:=(by decide +kernel:∀a,a<16->16-1-(15-a)=a) a
theorem Qs:a<16->a+(15-a)<16:=(by decide +kernel:∀a,a<16->a+(15-a)<16) a
theorem Qt:a<16->a+(15-a)=15:=(by decide +kernel:∀a,a<16->a+(15-a)=15) a
theorem Qu:a<16->a+1<=16:=λh=>h
theorem Qv:a<16->a / 8=0\/a / 8=1:=(by decide +kernel:∀a,a<16->a / 8=0\/a / 8=1) a
theorem Qw:a<16->a<100:=λh=>dh h Z
theorem Qy:a<16->a<2 ^ 60:=λh=>dh h Z
theorem Qz:a<16->a=15-(15-a):=(by decide +kernel:∀a,a<16->a=15-(15-a)) a
theorem QA:a<16->a<=2 ^ 24:=λh=>il h Z
theorem QB:a<2 ^ 60->(↑a:Int)<2 ^ 62:=λh=>Gj.mpr (dh h Z)
theorem QC:a<20->1+a+1<=2 ^ 24:=λh=>dh (ND h _) Z
theorem QD:a<20->1+a<=2 ^ 24:=λh=>il (ND h _) Z
theorem QE:a<20->a+1<1000:=λh=>jy h Z
theorem QF:a<20->a+1<=2 ^ 24:=λh=>dh h Z
theorem QG:a<20->a-1+1<1000:=(by decide +kernel:∀a,a<20->a-1+1<1000) a
theorem QH:a<20->a<=16777215:=λh=>il h Z
theorem QI:a<200->a<2 ^ 63:=λh=>dh h Z
theorem QJ:a<200->a<=2 ^ 24:=λh=>il h Z
theorem QK:a<5->(↑a:Int)<2 ^ 62:=λh=>Gj.mpr (dh h Z)
theorem QL:a<500->a+1<4096:=λh=>jy h Z
theorem QM:a<60->a<1000:=λh=>dh h Z
theorem QN:a<900->a<1000:=λh=>dh h Z
theorem QO:a=1\/a=2\/a=4\/a=8->a≠0/\a<=8:=by rintro (rfl | rfl | rfl | rfl) <;> decide
theorem QP:a=2->¬a=1:=λh k=>absurd (h.symm.trans k) (by decide)
theorem QQ:a≠0->a<=4->¬a=1->¬a=2->¬a=3->a=4:=λh k l m p=>XY k (Gg (Gg (Gg (aiE h) (Gy l)) (Gy m)) (Gy p))
theorem QR:a≠0/\a<=8->(↑a:Int)≠0:=λh k=>h.1 (WS k)
theorem QS:a≠0/\a<=8->(↑a:Int).natAbs<1073741824:=λh=>jy h.2 Z
theorem QT:a≠a+1:=(ajl _).symm
theorem QU:a<=0->0<=0-(↑a:Int):=λh=>akj.mpr (NA.mpr h)
theorem QV:a<=0->a=0:=λh=>ajL h
theorem QW:a<=1->0<=1-(↑a:Int):=λh=>akj.mpr (NA.mpr h)
theorem QX:a<=12->a<=2 ^ 24:=λh=>s6 h Z
theorem QY:a<=16->a<60:=λh=>jy h Z
theorem QZ:a<=16->a<900:=λh=>jy h Z
theorem Q1:a<=16->a<=16777216:=λh=>s6 h Z
theorem Q2:a<=16->¬a=16->16-(a+1)<16-a:=(by decide +kernel:∀a,a<=16->¬a=16->16-(a+1)<16-a) a
theorem Q3:a<=16->¬a=16->a+1<=16:=(by decide +kernel:∀a,a<=16->¬a=16->a+1<=16) a
theorem Jb:a<=3->¬a=3->((↑a:Int)+1) / 4=(↑a:Int) / 4:=(by decide +kernel:∀a:Nat,a<=3->¬a=3->((↑a:Int)+1) / 4=(↑a:Int) / 4) a
theorem Q4:a<=4->(↑a:Int)<2 ^ 62:=λh=>Gj.mpr (jy h Z)
theorem Q5:a<=4->(↑a:Int)<2 ^ 63:=λh=>Gj.mpr (jy h Z)
theorem Q6:a<=4->100+a<900:=λh=>jy (WK h _) Z
theorem Q7:a<=4->a<1000:=λh=>jy h Z
theorem Q8:a<=4->a<64:=λh=>jy h Z
theorem Q9:a<=63->a<=2 ^ 24:=λh=>s6 h Z
theorem Ra:a<=a+1:=Gh ..
theorem Rb:min 12 a<=12:=ajQ ..
theorem Rc:min 12 a<=2 ^ 24:=s6 (ajQ ..) Z
theorem Rd:¬(↑a:Int)<(↑a:Int):=Int.lt_irrefl _
theorem Rf:¬(↑a:Int)<0:=by intro h;cases h
theorem Rg:¬a % 2=1->a % 2=0:=by simp +arith
theorem Rh:¬a<16->16<=a:=λh=>DF.mp h
theorem Ri:¬a=1->(↑a:Int)≠1:=λh=>λe=>h (WS e)
theorem Rj:¬a=2->(↑a:Int)≠2:=λh=>λe=>h (WS e)
theorem Rk:((↑a:Int)-(↑b:Int)).toNat=a-b:=akF a b
theorem Rl:(a+b) % 16=(a+b % 16) % 16:=by simp +arith
theorem Rm:(↑((a+b) % 16):Int)<2 ^ 63:=Gj.mpr (dh (YW (a+b) (by decide:0<16)) Z)
theorem Rn:(↑a:Int)+((↑b:Int)+1)-1=(↑a:Int)+(↑b:Int):=by simp +arith
theorem Ro:(↑a:Int) / 4-((↑b:Int)+1)=(↑a:Int) / 4-(↑b:Int)+-1:=by simp +arith
theorem Rp:(↑a:Int)<(↑b:Int)->a<b:=λh=>Gj.mp h
theorem Rq:(↑a:Int)=(↑b:Int)->a<16->b<16:=λh k=>WS h▸k
theorem Rr:0<a->(↑b:Int)<(↑(b+a):Int):=λh=>Gj.mpr (ajn h)
theorem Rt:0<=(↑((a+b) % 16):Int):=Gm _
theorem Ru:0<=(↑(a+b):Int):=Gm _
theorem Rv:1+a=b->b=a+1:=λh=>h.symm.trans (X7 1 a)
theorem EA:15-a=15-b->a<16->b<16->a=b:=λh k l=>(Zc (Dc k)).symm.trans ((congrArg (15 - ·) h).trans (Zc (Dc l)))
theorem Rw:2*(↑(a / 16 % 8):Int)+1=(↑b:Int)->(↑b:Int)<2 ^ 64:=λh=>h▸(Gj).mpr (dh P6 Z)
theorem Rx:a+(b+1)<16->a+b+1<16:=λh=>h
theorem Ry:a+(b+1)<16->a+b<16:=λh=>cD h
theorem Rz:a+(b+1)=a+1+b:=(yA ..).symm
theorem RA:a+1+b=a+(b+1):=yA ..
theorem RB:a+1=b->b=2->a=1:=λh k=>Zi (h.trans k)
theorem RC:a+1=b->¬b=2->¬a=1:=λh k l=>k (h.symm.trans (congrArg GH l))
theorem RD:a+6<b->a<=b/\b<a+7->False:=λh k=>DF.mpr (Dc k.2) h
theorem RE:a+6=b->a<=b:=λh=>bJ (Gh ..) (WH h)
theorem RF:a+6=b->b<a+7:=λh=>h▸W0 _
theorem RG:a+b<900->b<900:=λh=>bJ (WO ..) h
theorem RH:a+b<a+(b+1):=J5
theorem RI:a+b<a+1+b:=YI (W0 a) b
theorem RJ:a+b<=16->a=16->b=0:=λh k=>ajL (Nat.le_of_add_le_add_left (k▸h))
theorem RK:a+b<=16->b<100:=λh=>jy (bJ (WO ..) h) Z
theorem RL:a-b<=a:=Zd ..
theorem RM:a<100->b<100->a+b<200:=λh k=>akh h k
theorem RN:a<100->b<100->a+b<=2 ^ 24:=λh k=>il (akh h k) Z
theorem RO:a<100->b<=4->a+b<900:=λh k=>dh (agB h k) Z
theorem RP:a<16->b<a->(↑b:Int)<2 ^ 63:=λh k=>Gj.mpr (dh (XJ k h) Z)
theorem RQ:a<16->b<a->15-a<15-b:=λh k=>N0 (cV k (Dc h)) k
theorem RS:a<16->b=16->a<b:=λh k=>k▸h
theorem RT:a<16->b=a->b<26:=λh k=>dh (k▸h) Z
theorem RU:a<16->b=a->b<31:=λh k=>dh (k▸h) Z
theorem RV:a<2 ^ 40->b<a->(↑b:Int)<2 ^ 63:=λh k=>Gj.mpr (dh (XJ k h) Z)
theorem RW:a<2 ^ 60->b<=a->(↑b:Int)<2 ^ 62:=λh k=>Gj.mpr (dh (dg k h) Z)
theorem RX:a<2->b=2->a<b:=λh k=>k▸h
theorem RY:a<20->b<=a+1->b<=20:=λh k=>bJ k h
theorem RZ:a<20->b<=a-1+1->b<=20:=λh k=>bJ k (YM (bJ (Zd a 1) (Dc h)))
theorem R0:a<200->b<a->(↑b:Int)<2 ^ 63:=λh k=>Gj.mpr (dh (XJ k h) Z)
theorem R3:a<900->b<=a->b<900:=λh k=>dg k h
theorem R4:a<b+1+0->a≠b->b<=a->False:=λh k l=>k (XY (Dc h) l)
theorem R5:a<b+1->¬a<b->a=b:=λh k=>XY (Dc h) (DF.mp k)
theorem R6:a<b+1->¬a=b->a<b:=λh k=>Gg (Dc h) k
theorem R7:a<b->(↑a:Int)<(↑b:Int):=λh=>Gj.mpr h
theorem R8:a<b->(↑b:Int)≠0:=λh k=>Nv (Y4 h) (WS k)
theorem R9:a<b->0<=(↑a:Int)/\(↑a:Int)<(↑b:Int):=λh=>⟨Gm a,Gj.mpr h⟩
theorem Sa:a<b->a≠b:=λh=>cI h
theorem Sb:a<b->a<=b:=λh=>cD h
theorem Sd:a<b->b=0->False:=λh k=>Nv (Y4 h) k
theorem Se:a<b->b≠0:=λh=>Nv (Y4 h)
theorem Sf:a<b->b<=a->False:=λh k=>YF.mpr h k
theorem Sg:a<b/\b<16->a<16:=λh=>XJ h.1 h.2
theorem Sh:a=0->a=b+1->False:=λh k=>Yn b (k.symm.trans h)
theorem Si:a=0->a=b->b=0:=λh k=>k▸h
theorem Sj:a=1+b->a=b+1:=λh=>h.trans (X7 1 b)
theorem Sk:a=1->a+b+a<=b+2:=λh=>h▸WH (congrArg GH (X7 1 b))
theorem Sl:a=1->b+a<=b+2:=λh=>h▸N6 _
theorem Sm:a=16->15-b<a:=λh=>h▸C3 (Zd 15 b)
theorem Sn:a=a+1+b->False:=λh=>WU (cV (W0 a) (Gh (a+1) b)) h
theorem So:a=b+4\/a=b+2\/a=b+3\/a=b\/a=b+1->b<=a:=λh=>h.elim (λe=>e▸Gh ..) λh=>h.elim (λe=>e▸Gh ..) λh=>h.elim (λe=>e▸Gh ..) λh=>h.elim (λe=>WH e.symm) (λe=>e▸Gh ..)
theorem Sp:a=b->a<b+1:=λh=>C3 (WH h)
theorem Sq:a≠b->¬(↑a:Int)=(↑b:Int):=λh=>λe=>h (WS e)
theorem Sr:a<=16->b<=22*a->b<900:=λh k=>jy (bJ k (GQ 22 h)) Z
theorem Ss:a<=16->b<=22*a->b<=1000:=λh k=>s6 (bJ k (GQ 22 h)) Z
theorem Su:a<=16->min b a<1000:=λh=>jy (bJ (YR b a) h) Z
theorem Sv:a<=20->b<=20->a+b<1000:=λh k=>jy (XT h k) Z
theorem Sw:a<=20->b<=20->a+b<64:=λh k=>jy (XT h k) Z
theorem Sy:a<=20->b<=20->a+b<=2 ^ 24:=λh k=>s6 (XT h k) Z
theorem Sz:a<=a+b:=Gh ..
theorem SA:a<=b->(↑a:Int)<=(↑b:Int):=λh=>NA.mpr h
theorem SD:a<=b->(↑b:Int)-(↑a:Int)=(↑(b-a):Int):=λh=>(akN h).symm
theorem SE:a<=b->¬b=a->a<b:=λh k=>Gg h (Gy k)
theorem SF:a<=b\/b<=a:=Nat.le_total ..
theorem SG:¬(↑a:Int)<(↑b:Int)->0=(↑(b-a):Int):=λh=>(congrArg Int.ofNat (ahF (NA.mp (anF.mp h)))).symm
theorem SH:¬a<b->¬b<a->a=b:=λh k=>XY (DF.mp k) (DF.mp h)
theorem SJ:¬a<=b->(↑b:Int)<=(↑a:Int):=λh=>NA.mpr (cD (YF.mp h))
theorem SK:¬a<=b->b<a:=λh=>YF.mp h
theorem SM:¬a<=b->b<=a:=λh=>cD (YF.mp h)
theorem SN:(↑a:Int)+((↑b:Int)+1)-((↑c:Int)+1)=(↑a:Int)+(↑b:Int)-(↑c:Int):=by simp +arith
theorem SO:(↑a:Int)+(↑b:Int)-(↑c:Int)-4+1=(↑a:Int)+(↑b:Int)-(↑c:Int)-3:=by simp +arith
theorem SP:0+3<=a->a<b->c=0+1->c=b\/c=b+1->False:=λh k l m=>yW (dg (bJ (by decide) h) k) l m
theorem SQ:0+3<=a->a<b->c=0+2->c=b\/c=b+1->False:=λh k l m=>yW (dg (bJ (by decide) h) k) l m
theorem SS:a+(b+1)<=c->a+1+b<=c:=λh=>bJ (WH (yA a b)) h
theorem SU:a+(b+1)<=c->a<c:=λh=>dg (Gh ..) h
theorem SW:a+(b+c)<=16->b<900:=λh=>(dg (Gh ..) (jy (bJ (WO ..) h) Z))
theorem SX:a+1+(b+1)<=c->c=a+1+b->False:=λh k=>Nv h k
theorem SY:a+1=b->a+1=c->b=c:=λh k=>h▸k
theorem Jc:a+3<=b->c=a+1\/c=a+2->c=b\/c=b+1->False:=λh k l=>k.elim (λe=>yW (cV (ND (by decide) a) h) e l) λe=>yW (cV (ND (by decide) a) h) e l
theorem S0:a+3<=b->c=a\/c=a+1\/c=a+2->c=b\/c=b+1->False:=λh k l=>k.elim (λe=>yW (cV (ajn (by decide)) h) e l) λk=>Jc h k l
theorem S5:a<16->a=b->b<c+1+16:=λh k=>dh (k▸h) Z
theorem S6:a<16->b<a-c->(↑(c+b):Int)<2 ^ 63:=λh k=>Gj.mpr (dh (XJ (aj1 k) h) Z)
theorem S7:a<16->b<a-c->c+b<16:=λh k=>XJ (aj1 k) h
theorem Jd:a<16->b<a->c=b\/c=a->c<16:=λh k l=>l.elim (λe=>e▸XJ k h) λe=>e▸h
theorem S8:a<16->b<a->c=b\/c=a->c<31:=λh k l=>dh (Jd h k l) Z
theorem S9:a<b+1+(c+1)->a≠b+1+c->a<b+1+c:=λh k=>Gg (Dc h) k
theorem Ta:a<b+1+(c+1)->¬a=b+1+c->a<b+1+c:=λh k=>Gg (Dc h) k
theorem Tc:a<b->a=b+1+c->False:=λh k=>WU (XJ h (cV (W0 b) (Gh (b+1) c))) k
theorem Td:a<b->a=c->b<c->False:=λh k l=>Nat.lt_asymm (k▸h) l
theorem Te:a<b->a=c->b<=c->False:=λh k l=>DF.mpr l (k▸h)
theorem Tf:a<b->c=a->c<b:=λh k=>k▸h
theorem Th:a<b->c=a->¬b=c:=λh k l=>WU h (k.symm.trans l.symm)
theorem Ti:a<b->c<=a->c<b:=λh k=>dg k h
theorem Tj:a=1->a=2->b=c:=λh k=>absurd (h.symm.trans k) (by decide)
theorem To:a=b->c=b->a=min c b:=λh k=>h.trans (Nat.min_eq_right (WH k.symm)).symm
theorem Tp:a=b->c<=b->¬b=c->c<a:=λh k l=>h▸Gg k (Gy l)
theorem Tq:a<=16->b<=a->c<=b->c<=16:=λh k l=>bJ l (bJ k h)
theorem Tt:a<=b+1->b<=c->a<=c+1:=λh k=>bJ h (YM k)
theorem Tu:a<=b->b<=c->¬b=a->a<c:=λh k l=>cV (Gg h (Gy l)) k
theorem Tv:¬(a<=a+b/\a+b<a+b/\c=c):=λh=>KO _ h.2.1
theorem Tw:15-a=15-b->a<16/\c<16->b<16/\d<16->a=b:=λh k l=>EA h k.1 l.1
theorem Tx:15-a=15-b->c<16/\a<16->d<16/\b<16->a=b:=λh k l=>EA h k.2 l.2
theorem Tz:a+1+(b+1)<=c+1->d<=a->d+(b+1)<=c:=λh k=>bJ (WQ k (b+1)) (ahA (bJ (WH (yA a (b+1)).symm) h))
theorem TA:a+1+(b+1)<=c+1->d<=b->a+1+d<=c:=λh k=>bJ (WK k (a+1)) (ahA h)
theorem TB:a+1+b<=c->c=d->d<a+1+(b+1)->¬d=a+1+b->False:=λh k l m=>m (XY (Dc l) (k▸h))
theorem TC:a+b=c+d->a+(b+1)=c+(d+1):=λh=>congrArg GH h
theorem TF:a+b=c+d->a+(b+1)=c+1+d:=λh=>(congrArg GH h).trans (yA c d).symm
theorem TG:a+b=c+d->a+1+(b+1)=c+1+(d+1):=λh=>congrArg GH ((yA a b).trans ((congrArg GH h).trans (yA c d).symm))
theorem TH:a+b=c+d->a+1+b=c+(d+1):=λh=>(yA a b).trans (congrArg GH h)
theorem TJ:a+b=c+d->a+1+b=c+1+d:=λh=>(yA a b).trans ((congrArg GH h).trans (yA c d).symm)
theorem TK:a+b=c+d->a+b=c+d:=λh=>h
theorem TL:a+b=c->c<=22*d->a<=22*d:=λh k=>bJ (Gh a b) (h▸k)
theorem TM:a<20->b<=22*c->d<=a+2->d+b<=22*(c+1):=λh k l=>bJ (WH (X7 d b)) (XT k (bJ l (WQ (cD h) 2)))
theorem TN:a=b->b=c/\d=c->a=d:=λh k=>h.trans (k.1.trans k.2.symm)
theorem TP:a≠b->¬(c<=c+d/\c+d<c+(d+1)/\a=b):=λh k=>h k.2.2
theorem TQ:a<=3->¬a=3->(↑b:Int)+(↑c:Int)-(↑d:Int)-((↑a:Int)+1)+((↑a:Int)+1) / 4=(↑b:Int)+(↑c:Int)-(↑d:Int)-(↑a:Int)+(↑a:Int) / 4+-1:=by intro h k;refine aa (Jb h k) ?_;simp +arith
theorem TR:¬(a<=b/\b<a+0/\c=d):=λh=>DF.mpr h.1 h.2.1
theorem TU:a+1+(b+1)<=c+1->d<=a->e<=b->d+e<=c:=λh k l=>bJ (XT k l) (bJ (WQ (N6 a) b) (ahA h))
theorem TV:a<b->c<=1->d+c+e+a<d+e+1+b:=λh k=>agD (bJ (WQ (WK k d) e) (WH (wV d 1 e))) h
theorem TX:a<b->c<=d/\(e<e->c<d)->c+a<=d+b/\(e<e+1->c+a<d+b):=λh k=>⟨XT k.1 (cD h),λJ=>agD k.1 h⟩
theorem TY:a=b->b=c/\d=c->e=c->a=e:=λh k l=>h.trans (k.1.trans l.symm)
theorem TZ:a<=b/\b<a+(c+1)/\d=e->¬a+c=b->b<a+c:=λh k=>Gg (Dc h.2.1) (Gy k)
theorem T1:a<=b/\b<a+(c-a)/\d=e->b<c:=λh=>cV h.2.1 (WH (alo (cD (Nat.lt_of_sub_pos (Nat.pos_of_lt_add_right (dg h.1 h.2.1))))))
theorem T2:a<=b/\b<a+c/\d=e->b<a+(c+1):=λh=>YE h.2.1
theorem T3:a<=b/\b<c/\d=e->b<a+(c-a):=λh=>cV h.2.1 (WH (alo (cD (dg h.1 h.2.1))).symm)
theorem T4:a=b->c<=d/\(e<f->c<d)->¬f=e->c+a<=d+b/\(e<f+1->c+a<d+b):=λh k l=>⟨h▸WQ k.1 a,λm=>h▸YI (k.2 (Gg (Dc m) (Gy l))) a⟩
theorem T5:a<b->a=c+1->¬(a<=c+1/\c+1<b)->d+(e+1)=f+1+(g+1):=λh k l=>absurd ⟨WH k,k▸h⟩ l
theorem T6:a<b->a=c+1->¬(a<=c+1/\c+1<b)->d+e=f+(g+1):=λh k l=>absurd ⟨WH k,k▸h⟩ l
theorem T7:a<b->b=c+1->¬(a<=c/\c<b)->d+(e+1)=f+g:=λh k l=>absurd ⟨Dc (cV h (WH k)),cV (W0 c) (WH k.symm)⟩ l
theorem T8:a=b+1->a<=b/\b<c->d+1+e=f+1+(g+1):=λh k=>absurd (bJ (WH h.symm) k.1) (aki b)
theorem T9:a=b+1->c<=b+1/\b+1<a->d+1+(e+1)=f+1+g:=λh k=>absurd (h▸k.2) (KO _)
theorem Ua:a=b+1->c<=b+1/\b+1<a->d+1+(e+1)=f+g:=λh k=>absurd (h▸k.2) (KO _)
theorem Ub:a<=b+1/\b+1<c->¬(a<=b/\b<c)->¬a=b+1->d+1+e=f+g:=λh k l=>absurd ⟨Dc (Gg h.1 l),u5 h.2⟩ k
theorem Uc:a<=b/\b<c->¬(a<=b+1/\b+1<c)->¬c=b+1->d+e=f+1+(g+1):=λh k l=>absurd ⟨Xj h.1,Gg h.2 (Gy l)⟩ k
theorem Ud:a<=b/\b<c->¬(a<=b+1/\b+1<c)->¬c=b+1->d+e=f+1+g:=λh k l=>absurd ⟨Xj h.1,Gg h.2 (Gy l)⟩ k
end
section
variable {a b:Int}
theorem ZT:a<2 ^ 62->a<2 ^ 63:=λh=>am8 h (by decide)
theorem ZU:0<=a->a<=b->b<=0->b=0:=λh k l=>Int.le_antisymm l (Yg h k)
end
theorem Ue {a:Nat}{b:Int}:(↑a:Int)<=b->b<2 ^ 63->-9223372036854775808<=b/\b<9223372036854775808:=λh k=>⟨Yg (Yg (by decide) (Gm a)) h,k⟩
theorem ZV {a:Int}{b:Nat}:a-(↑b:Int)=0->(↑b:Int)=a:=λh=>(Int.sub_eq_zero.mp h).symm
theorem Ug {a:Nat}{b:Nat}{c:Int}:a=b->c.toNat<b->c<(↑a:Int):=λh k=>aiD (alp c) (Gj.mpr (h▸k))
theorem Uh {a:Nat}{b:Nat}{c:Nat}{d:Nat}{e:Int}:1<=a->b+a=c+d->d<=0->e-(↑c:Int)<=e+(0-1)-(↑b:Int):=λh k l=>Yg (ah9 (NA.mpr (XI (XI (WH (X7 1 b)) (WK h b)) (k▸WK l c):1+b<=c)) e) (alq (ane e 1 b).symm)
theorem Ui {a:Nat}{b:Nat}{c:Nat}{d:Nat}{e:Int}:a+b=c+d->d<=0->e-(↑c:Int)<=e+(0-0)-(↑a:Int):=λk l=>Yg (ah9 (NA.mpr (XI (Gh a b) (k▸WK l c))) e) (alq (congrArg (· - (a:Int)) (Int.add_zero e).symm))
theorem Uj {a:Nat}{b:Nat}{c:Nat}{d:Nat}{e:Int}:a+b=c+d->d<=1->e-(↑c:Int)<=e+(1-0)-(↑a:Int):=λk l=>Yg (alq (Int.add_sub_add_right e 1 c).symm) (ah9 (NA.mpr (XI (Gh a b) (k▸WK l c)):(a:Int)<=c+1) (e+1))
end Mine.Internal
namespace Mine.Internal
open PySem PyProof.Rows
section
variable {F F' F₀:G}{bs aK bs₀:aJ}{s s':Gb}{pos:Pos}
theorem Ce.EB {n:Nat}{fp wr:aJ}{it:Wr}{items:bZ}{ts:cJ}{kd:Nat}{Pt:Nat->Array Ws->Prop}{Stt:Nat->Xi->Prop}{Mid:Nat->Wr->Xi->Prop}(W:∀A:M5,A.handled=Wm->WalksU c.prog c.w A it fp wr n Pt Stt Mid)(hn:n=items.length)(JW:∀b∈fp,b∈wr\/∃o,F₀ b=AN o)(hP:∀i Cz,i<n->Pt i Cz->∃ys us,Cz=us.toArray/\items[i]?=AN (.tup ys)/\c.Vs F₀ bs₀ ys us)(CW:∀i h,Stt i h->∀b∈wr,∃o,h.get? b=AN o/\o.cls≠.none/\o.cls≠.type "frame"): Ce c (.Tuple ts kd pos) it items (λJ=>True) wr (λi F bs s=>Stt i s.heap/\i<=n/\(∀b o,F₀ b=AN o->F b=AN o)/\∃nb,bs=bs₀++nb):=by
 have keep:∀{C:Cx} {i own F bs S s F' aK S' s'},(Stt i s.heap/\i<=n/\(∀b o,F₀ b=AN o->F b=AN o)/\∃nb,bs=bs₀++nb)->cx c C F bs wr s.heap->(∀a∈wr,a∉own)->St c C F bs S s->Step own F bs s.heap F' aK s'.heap->St c C F' aK S' s'->
  (Stt i s'.heap/\i<=n/\(∀b o,F₀ b=AN o->F' b=AN o)/\∃nb,aK=bs₀++nb):=by
  intro C i own F bs S s F' aK S' s' o1;obtain ⟨h1,hi,h2,nb,rfl⟩:=o1;intro hf hw z st z';refine Va st.ext λvR e J=>(ee ((W {} Z).frame i _ _ h1 λb hb o ho=>?_) hi (λb o e=>st.sub _ _ (h2 _ _ e)) (nb++vR) (by simp only [e,MW]))
  rcases JW b hb with q | ⟨o',q⟩
  . exact (hf.wA hw st).2 b q o ho
  . obtain this:=z.wd.sub _ _ (h2 _ _ q);exact rE (bf (aM (ar ho) this)) (z'.wd.sub _ _ (st.sub _ _ (h2 _ _ q)))
 refine ⟨keep,?_,?_⟩
 . intro C A i F bs S s N Y E K hA hh z _ o2;obtain ⟨h1,hi,h2,nb,rfl⟩:=o2;intro hf hN hY;obtain WA:=W A (hA.handled.trans hh);by_cases dc:i<n
   . refine WA.item i s _ _ dc h1 λT Cz h' tk Mf hT hM hk=>dr (hP i Cz dc Mf) λys us o4 VJ hv=>?_;obtain rfl:=o4;refine XZ (hY (.tup ys) VJ) λha hc=>?_;obtain W4:=WA.apart i T h' hM;refine WA.go ts kd pos i T {s with heap:=h',toks:=tk} _ _ hM λFr be Ds=>?_;have Dt:eF wr s {s with heap:=Fr,toks:=tk}:=⟨λb hb o e=>Ds b o hb (hk b o hb e),Z,Z⟩
     obtain aC:=z.frees Dt hf;have jA:cx c C F (bs₀++nb) wr Fr:=⟨hf.free,CW _ _ be⟩
     obtain J9:Fr.IsTuple T us.toArray:=by refine Va hT λo q1 q2=>?_;exact (af o (Ds T o W4 q1) q2)
     refine RR ha λW5 W6 W7=>?_;obtain w:=tM hA hh aC J9 (bh.mono h2 hv) W5 W6 W7;refine aS w (λJ s' W8=>W8.casesOn λF' aK J S' st z' J k=>?_) λJ J W9=>W9.casesOn λJ J J J J J J q=>q.elim;exact hc F' aK S' s' z' (jA.step st).1 (keep (ee be dc h2 nb Z) jA (λa ha=>(jA.free a ha).own) aC st z') k
      ((Step.lN Dt λa ha=>Va (jA.at_ a ha) λo e J=>(cj o e)).trans (st.widen λa ha=>.inl (fz (.inr ha))))
   . obtain nt:=qP hi dc;clear dc hY;cases nt;refine WA.done s _ _ h1 λh' tk hk=>?_;obtain t:eF wr s {s with heap:=h',toks:=tk}:=⟨λb hb o e=>hk b o hb e,Z,Z⟩
     exact hN (by simp [hn]) _ (z.frees t hf) t
 . intro A i F bs s Q E hh o3;obtain ⟨h1,hi,h2,nb,rfl⟩:=o3;intro hq;exact (W A hh).self i s Q E h1 hq
theorem Hp {ts:cJ}{kd:Nat}{wI:Pos}{f:Nn}{args:cJ}{K:bZ->(aR->Prop)->dp}
 (h:Ev c C f S (λv ai=>v=.raw (.type "zip")/\pz c C pos args ai (λvs aF=>∃(u:Str) (xs:bZ),vs=[.str u,.lst xs]/\u.cps.all (· < 128)=Wn/\u.cps.size=xs.length/\
  K ((u.cps.toList.zip xs).map λp=>.tup [.str ⟨#[p.1]⟩,p.2]) (λJ=>True) aF) X) X)
 (hh:C.handled=Wm)
 (he:eval (.Call f args [] pos) C.env=(do YS pos (<-eval f C.env) [] (W3 pos (M4 args C.env)) (DN pos (Xk [] C.env))):=by rfl)
 (na:(W3 pos (M4 args C.env)).any (·.1)=Wp:=by rfl)
 (hl:mU (W3 pos (M4 args C.env))=Wp:=by rfl):jW c C (.Tuple ts kd wI) (.Call f args [] pos) S K X:=by
 intro A F bs s hA z;simp only [he];refine ag (aS (h A F bs s hA z) (λr ak dL=>dL.casesOn λF₁ bs₁ v ai an aC hv eR=>?_) λJ J e=>e);obtain ⟨e,tj⟩:=eR;subst e;obtain ⟨_,rfl⟩:=hv.inv;refine GR na ?_;refine aS (gk hA aC tj hl) (λa am dL=>dL.casesOn λaP aB vs aF av aI wD eR=>?_) λx am Xa=>Xa.casesOn λaP aB cls aF av aI hx S4=>⟨aP,aB,cls,aF,an.trans av,aI,hx.back an.mono,S4⟩
 obtain ⟨oj,bn⟩:=wD;obtain ⟨u,xs,Xb,ha,tp,S4⟩:=eR;simp only [oj];subst Xb;obtain ⟨ps,kw⟩:=a;obtain ⟨r1,r2,e,hr1,ZB⟩:=bh.two bn;have e':ps=[r1,r2]:=e;refine rE e' ?_;obtain ⟨t,rfl⟩:=hr1.inv;clear e bn oj;obtain ⟨l,vs,Du,hL,Gn⟩:=ZB.inv;refine rE Du ?_;obtain ⟨n,hL⟩:=hL;have Mi:=aI.wd.sub _ _ hL;have hLl:am.heap.IsList l vs.toArray:=(di _ Mi Z n Z)
 refine am1 ha hLl λh' hz yU Bj h1 h2 hsz hk=>?_;refine alJ hz ?_;obtain m:a7 c aP aB am {am with heap:=h'}:=⟨hk,Z,Z⟩
 obtain st:Step C.own F bs s.heap aP aB h':=(an.trans av).trans (.keep m);obtain dc:l<am.heap.objs.size:=M7 Mi;have lv:∀a∈[am.heap.objs.size+4,am.heap.objs.size+2,am.heap.objs.size+3,am.heap.objs.size,am.heap.objs.size+1],am.heap.get? a=Wm:=λa ha=>gf (by
  simp only [JU,rH,or_false] at ha;exact So ha)
 have Lw:Pd (am.heap.objs.size+4) (am.heap.objs.size+2) (am.heap.objs.size+3) am.heap.objs.size (am.heap.objs.size+1) l u t vs.toArray 0 h':=
  (nX hz yU (n4 _ _ Bj) h1 h2 (hLl.at λo e=>hk _ o e))
 have ZW:=Gn.length;refine ⟨aP,aB,aF,_,_,_,[am.heap.objs.size+4,am.heap.objs.size+2,am.heap.objs.size+3,am.heap.objs.size,am.heap.objs.size+1],_,Z,st,aI.keep m,
  Ce.EB (F₀:=aP) (bs₀:=aB) (n:=vs.toArray.size) (fp:=[am.heap.objs.size+4,am.heap.objs.size+2,am.heap.objs.size+3,am.heap.objs.size,am.heap.objs.size+1,l])
   (Pt:=ZPt u vs.toArray) (Stt:=Pd (am.heap.objs.size+4) (am.heap.objs.size+2) (am.heap.objs.size+3) am.heap.objs.size (am.heap.objs.size+1) l u t vs.toArray) (Mid:=Pe (am.heap.objs.size+4) (am.heap.objs.size+2) (am.heap.objs.size+3) am.heap.objs.size (am.heap.objs.size+1) l u t vs.toArray)
   (λA hA=>?_) ?_ ?_ ?_ (λi h q=>q.cls),(ee Lw (Dv _) (λJ J e=>e) [] (by simp)),λa q=>?_,⟨λa q=>aI.fg (lv a q),λa q=>Lw.cls a q⟩,trivial,S4⟩
 . exact (WalksT.Zu hA _ _ _ _ _ _ (zipApart_new dc dc) u t vs.toArray (by simpa [ZW] using tp)).toU
 . simp;exact To ZW tp
 . intro b hb;simp only [JU,rH,or_false] at hb;rcases hb with rfl | rfl | rfl | rfl | rfl | rfl
   . simp
   . simp
   . simp
   . simp
   . simp
   . exact .inr (cj _ hL)
 . rintro i Cz hi ⟨cp,tk,y,q1,q2,rfl⟩;have Vw:i<xs.length:=by refine az ZW ?_;exact hi
   refine Va (Gn.get (cm Vw)) λv' e1 e2=>?_;have e3:vs[i]?=AN y:=by simpa using q2
   obtain rfl:=bf (aM (ar e3) e1);refine (bW [.str ⟨#[cp]⟩,xs[i]] [.str ⟨#[cp]⟩ tk,y] Z ?_ (.cons (.str _ _) (.cons e2 .nil)));have e4:u.cps.toList[i]?=AN cp:=by refine az q1 ?_;simp
   refine aa bV (aa ((agX (l₁:=u.cps.toList) (l₂:=xs) (z:=(cp,xs[i]))).mpr ⟨e4,cm Vw⟩) ?_);rfl
 . have:=lv a q;cases q':s.heap.get? a with
   | none=>rfl
   | some o=>obtain ⟨o',e'⟩:=(an.trans av).mono _ _ q';exact bM (aM (ar this) e')
end
theorem mW:Hf table "dict_itemiterator.__iter__"=AN Ye.«dict_keyiterator.__iter__» :=
 amq (id':="dict_keyiterator.__iter__") (by kernel_rfl) (by first | rfl | decide +kernel | (unfold String.splitOn;simp +decide [String.splitOnAux])) (by decide +kernel) (by kernel_rfl)
theorem lz {prog:AZ}{w:X3}{A:M5}{E:pF}{s:Gb}{it d:Wr}{i n ep:Nat}{ok ov:Ws}{Q:pF}(VJ:IsItemIter s.heap it d i n ep ok ov)(h:Q (.ref it) s):Dk (model prog w) A (Hh (.ref it)) Q E s:=by
 have hT:s.TypeIs (.ref it) "dict_itemiterator":=(af _ VJ Z)
 refine alh hT ahW (yw ahW hT mW ?_ (F.args_dict_itemiterator_iter_1 _));exact aX (wg _ Z ("dict_itemiterator") _ hT F.slot_dict_itemiterator_next.lookup h)
theorem WalksU.items {prog:AZ}{w:X3}{A:M5}(hh:A.handled=Wm){Kt:Type} [DecidableEq Kt] {knd:Ep prog w Kt}(I d:Wr)(eQ:d≠I)(kvs:List (Kt×Ws))(ep:Nat) :
 WalksU prog w A I [I,d] [I] kvs.length (λi Cz=>∃key k v,knd.is k key=Wn/\kvs[i]?=AN (k,v)/\Cz=#[key,v])
  (λi h=>(∃ok ov,IsItemIter h I d i kvs.length ep ok ov)/\h.DictAt knd d kvs ep)
  (λi T h=>(∃ok ov,IsItemIterOut h I d (i+1) kvs.length ep ok ov T)/\h.DictAt knd d kvs ep/\T≠I) where
 sub:=λb hb=>by simp at hb;simp [hb]
 frame:=λ_ _ _ ⟨⟨ok,ov,h1⟩,h2⟩ hk=>⟨(n4 ok ov (hk I (by simp) _ h1)),h2.at' λo e=>hk d (by simp) o e⟩
 item:=λi s Q E hi st hQ=>by
  refine XZ st λut h2=>?_;clear st;obtain ⟨ok,ov,h1⟩:=ut;obtain ⟨⟨k,v⟩,hx⟩:∃p,kvs[i]?=AN p:=(cj (kvs[i]) (by simp [hi]))
  refine wpAny_pyNext_items_item h1 h2 hx λkey h' a1 a2 a3 a4 a5=>?_;exact hQ s.heap.objs.size #[key,v] h' s.toks (fK key k v a1 hx Z) (di _ a3 Z _ Z) (aV (n4 key v a2) (h2.at' λo e=>a5 d o eQ e) (Nv (M7 h1)))
   λb o hb e=>a5 b o (by simpa using hb) e
 go:=λelts k pos i T s Q E hm hQ=>by refine RR hm λuR h2 h3=>?_;clear hm;obtain ⟨ok,ov,h1⟩:=uR;refine wpAny_letOwnedTupleGo_items h1 λh' a1 a2=>hQ h' ⟨(n4 ok ov a1),h2.at' λo e=>a2.extBut d o eQ e⟩ λb o hb e=>a2.extBut b o (by simpa using hb) e
 apart:=λj T J hm GV=>hm.2.2 (by simpa using GV)
 done:=λs Q E st hQ=>by refine XZ st λuS h2=>?_;clear st;obtain ⟨ok,ov,h1⟩:=uS;exact wpAny_pyNext_items_end hh h1 h2 (by simp) λh' he=>hQ h' s.toks λb o hb e=>he b o (by simpa using hb) e
 self:=λJ s Q E st hQ=>by refine XZ st λuT h2=>?_;clear st;obtain ⟨ok,ov,h1⟩:=uT;exact lz h1 hQ
theorem bL.len {c:aZ}{F:G}{bs:aJ}{kvs:List (Int×AV)}{rs:List (Int×Ws)}(h:c.IV F bs kvs rs):rs.length=kvs.length:=by simpa using (congrArg XG h.keys)
theorem bL.at2 {c:aZ}{F:G}{bs:aJ}{kvs:List (Int×AV)}{rs:List (Int×Ws)}(h:c.IV F bs kvs rs)(i:Nat)(k:Int)(v:Ws)(e:rs[i]?=AN (k,v)):∃y,kvs[i]?=AN (k,y)/\c.V F bs y v:=by
 induction kvs generalizing rs i with
 | nil=>rw [h.inv] at e;cases e
 | cons p l ih=>
   refine dr h.inv λw r uU hx t=>?_;obtain rfl:=uU;cases i with
   | zero=>cases e;exact (af _ Z hx)
   | succ i=>exact ih t i e
section
variable {F F' F₀:G}{bs aK bs₀:aJ}{s s':Gb}{pos:Pos}
theorem Lx {iter:Nn}{x:Str}{px:Pos}{K:bZ->(aR->Prop)->dp}(h:Ev c C iter S (λv ai=>∃u:Str,v=.str u/\u.cps.all (· < 128)=Wn/\K (u.cps.toList.map λcp=>.str ⟨#[cp]⟩) (λJ=>True) ai) X):jW c C (.Name x px) iter S K X:=by
 refine wC (kG h λv ai MZ=>N1 MZ λu e ha k A F bs s r hA z hv=>?_);clear MZ;subst e;refine Ml hv.inv λt BS=>?_;refine rE BS ?_;refine aiC ha ?_;obtain hn:s.heap.get? s.heap.objs.size=Wm:=gf (bP _);obtain ha:(s.heap.push {cls:=.type "str_ascii_iterator",data:=.fields #[.str u t,.int 0 0]}).get? s.heap.objs.size=AN {cls:=.type "str_ascii_iterator",data:=.fields #[.str u t,.int 0 0]}:=dB _ Z;obtain m:a7 c F bs s {s with heap:=s.heap.push {cls:=.type "str_ascii_iterator",data:=.fields #[.str u t,.int 0 0]}}:=⟨λb o e=>cC _ e,Z,Z⟩
 refine ⟨F,bs,ai,_,_,_,[s.heap.objs.size],_,Z,.keep m,z.keep m,Ce.walks (F₀:=F) (bs₀:=bs) (λA hA=>Walks.strAscii hA s.heap.objs.size u t) (by simp) (λb hb=>.inl hb) ?_ ?_,
  (ee (aU _ ha Z Z) (Dv _) (λJ J e=>e) [] (by simp)),λa q=>by refine aa (bN q) ?_;exact hn,cx.one z hn ha (by simp) (by simp),trivial,k⟩
 . rintro i v _ ⟨cp,tk,h1,rfl⟩;exact (af (.str ⟨#[cp]⟩) (by refine aa bV (aa ahI (aa h1 ?_));rfl) (.str _ _))
 . intro i h o1 b hb;refine N1 o1 λo q1 q2 J=>?_;clear o1;exact rE (bN hb) (aU o q1 (by refine aa q2 ?_;simp) (by refine aa q2 ?_;simp))
theorem Bp {ts:cJ}{kd:Nat}{wI H6:Pos}{o:Nn}{K:bZ->(aR->Prop)->dp}(h:Ev c C o S (λv ai=>∃kvs,v=.dQ kvs/\K (kvs.map λp=>.tup [.int p.1,p.2]) (λJ=>True) ai) X)
 (gp:XR o "items" C.env (eval o C.env)=eval o C.env:=by rfl)
 (rz:((W3 pos (M4 [] C.env)).all (λx=>!x.1)&&(DN pos (Xk [] C.env)).all (λx=>x.1.isSome)
  && decide (([]:cJ).length+([]:List YC).length+(if ([]:List YC).isEmpty then 0 else 1)<30))=Wn:=by rfl)
 (hline:(H6.endLine==pos.line)=Wn:=by rfl):jW c C (.Tuple ts kd wI) (.Call (.Attribute o "items" H6) [] [] pos) S K X:=by
 intro A F bs s hA z;refine Yo gp rz hline (aS (h A F bs s hA z) (λr ak dL=>dL.casesOn λF₁ bs₁ ov ai an aC lq eR=>?_) λJ J e=>e);refine Va eR λkvs e tj=>?_;clear eR;subst e;refine XZ (aC.ty (T:="dict") Z lq) λt1 t2=>(mC ("dict") ("dict.items") X4 ajo PySem.F.type_dict_items t1 t2 (X8 (by rfl) (iw _ (λJ q=>nomatch q) ?_)))
 refine aX ?_;refine dr lq.inv λa rs uX hd bn=>?_;clear t2 lq;obtain rfl:=uX;obtain A5:(a==wW)=Wp:=let ⟨_,_,_,_,_,_,q⟩:=hd
 q
 obtain ⟨o,ho⟩:∃o,F₁ a=AN o:=let ⟨_,_,e,_⟩:=hd
 (cj _ e)
 obtain sp:lH (ik c.prog c.w) ak.heap.get? a rs:=hd.sub aC.wd.sub;refine Ml sp.dictAt λep qz=>tq ajo t1 PySem.F.entry_dict_items (PySem.F.args_dict_items_1 _) (meets_dict_items (ik c.prog c.w) a A5) ⟨(cj _ qz.dictOf),?_⟩;generalize B3:({cls:=.type "dict_items",data:=.fields #[.ref a]}:Obj)=ow;generalize bi:({ak with heap:=ak.heap.push ow}:Gb)=am;obtain Cr:a7 c F₁ bs₁ ak am:=by refine az bi ?_;exact ⟨λb o e=>cC _ e,Z,Z⟩
 obtain aI:=aC.keep Cr;obtain hw:am.heap.IsItemsView ak.heap.objs.size a:=by refine az bi ?_;exact (aU ow (dB _ (by refine az B3 ?_;rfl)) (az B3 Z) (az B3 Z))
 obtain r4:am.heap.DictAt (ik c.prog c.w) a rs ep:=qz.at' λo e=>Cr.keep _ _ e;refine wpAny_pyIter_items hw r4 ?_;obtain hn:am.heap.get? am.heap.objs.size=Wm:=gf (bP _);generalize io:({cls:=.type "dict_itemiterator",data:=.fields #[.none,.bool Wp,.ref a,.int 0 0,.int rs.length 0,.int ep 0,.none,.none]}:Obj)=ob;obtain ha:(am.heap.push ob).get? am.heap.objs.size=AN ob:=dB _ (by refine az io ?_;rfl);obtain m:a7 c F₁ bs₁ am {am with heap:=am.heap.push ob}:=⟨λb o e=>cC _ e,Z,Z⟩
 obtain eQ:a≠am.heap.objs.size:=cI (M7 (aI.wd.sub _ _ ho));obtain OG:s.heap.get? am.heap.objs.size=Wm:=by
  cases q:s.heap.get? am.heap.objs.size with
  | none=>rfl
  | some o=>refine Ml ((an.trans (.keep Cr)).mono _ _ q) λo' e'=>?_;exact bM (aM (ar hn) e')
 refine ⟨F₁,bs₁,ai,_,_,_,[am.heap.objs.size],_,Z,(an.trans (.keep Cr)).trans (.keep m),aI.keep m,Ce.EB (F₀:=F₁) (bs₀:=bs₁) (λA hA=>WalksU.items hA am.heap.objs.size a eQ rs ep) (by simpa using bL.len bn) ?_ ?_ ?_,
  (ee ⟨(n4 (.none) (.none) (by subst io;exact ha)),r4.at' λo e=>m.keep _ _ e⟩ (Dv _) (λJ J e=>e) [] (by simp)),λa q=>by refine aa (bN q) ?_;exact OG,cx.one aI hn ha (by refine az io ?_;simp) (by refine az io ?_;simp),trivial,tj⟩
 . intro b hb;rcases eO hb with e | hb
   . exact .inl (by simp [e])
   . exact aa (bN hb) (.inr (cj _ ho))
 . rintro i Cz _ ⟨key,kk,v,h1,h2,rfl⟩;refine Va (bL.at2 bn i kk v h2) λy e1 e2=>Ml (alj h1) λt uV=>?_;obtain rfl:=uV;exact (bW [.int kk,y] [.int kk t,v] Z (by refine aa bV (aa e1 ?_);rfl) (.cons (.int _ _) (.cons e2 .nil)))
 . intro i h be b hb;refine XZ be λuW J=>?_;clear be;obtain ⟨ok,ov,e1⟩:=uW;exact aa (bN hb) (aU _ e1 (by simp) (by simp))
end
theorem yX {vs:iE}{l:bD}(h:StrsAre vs l):∃ps:List (Str×Tok),vs=strValues ps/\ps.map (·.1)=l:=by
 induction h with
 | nil=>exact (af [] Z Z)
 | cons y t h ih =>refine Va ih λps Ku Kv=>?_;clear ih;obtain rfl:=Ku;obtain rfl:=Kv;exact (af ((y,t)::ps) Z Z)
section
variable {F F' F₀:G}{bs aK bs₀:aJ}{s s':Gb}{pos:Pos}
theorem EC {v:AV}{sep:Str}{l:bD}(h:dD S v (l.map .str))(fE:JoinOk sep l=Wn)(k:K (.str (Zs sep l)) S):eJ c C (.builtin "str.join") [.str sep,v] S K X:=by intro A F bs s rs hA z hv;refine dr hv.two λr q o3 h1 h2=>?_;refine rE o3 ?_;refine Ml h1.inv λt ZX=>?_;obtain rfl:=ZX;refine Cc (z.seq h h2) λa vs pt hL bn J=>?_;refine rE pt ?_;refine Va (yX bn.strs) λps J6 hps=>?_;obtain rfl:=J6;exact WP.kept z λQ E q=>SC.join hL.isList hps fE λt' k'=>q _ _ (.toks ..) (af _ (.str _ _) k)
theorem Bq {x y:Str}(k:K (.bool (!(!(u3 x y 0 x.length 1).isEmpty))) S):iA c C (Xp .NotIn) (.str y) (.str x) S K X:=λA F bs s ra rb hA z ha hb=>by refine Ml ha.inv λJ un=>?_;refine rE un ?_;refine Ml hb.inv λJ yp=>?_;refine rE yp ?_;exact WP.kept z λQ E q=>am9 (q _ _ (.refl ..) (af _ (.bool _) k))
theorem vo {x:Str}{l:au}{cp:Nat}(hx:x.cps.toList=l++[cp])(k:K (.str ⟨#[cp]⟩) S):iA c C X2 (.str x) (.int (-1)) S K X:=λA F bs s ra rb hA z ha hb=>by
 refine Ml hb.inv λJ uX=>?_;refine rE uX ?_;refine Ml ha.inv λJ o3=>?_;refine rE o3 ?_;have hl:x.length=l.length+1:=by have:=congrArg XG hx;simpa [cv] using this
 refine WP.kept z λQ E q=>ai8 (by decide) (aa hl ?_) (q _ _ (.toks ..) (af _ (.str _ _) k));have e:Y8 (-1) (l.length+1)=AN l.length:=by
  unfold Y8;have h1:((-1:Int)<0):=by decide
  simp only [h1,if_true,ZF];have h3:(decide ((0:Int)<=(l.length:Int))&&decide ((l.length:Int)<((l.length+1:Nat):Int)))=Wn:=by exact aa (ajc _ _) (bb decide_eq_true_iff (bb decide_eq_true_iff ZL))
  simp only [h3,if_true,Gf]
 refine aa e ?_;show x.cps[l.length]?=AN cp;refine az ahI (aa hx ?_);simp
theorem yY (x:Str)(i:Nat):Txt.slice x (AN (i:Int)) Wm=⟨(x.cps.toList.drop i).toArray⟩:=by
 by_cases h:i<=x.length
 . refine aa (slice_from_eq (Ja) (SA h) Z) ?_;refine aa Rk (aa (Gf _) ?_);congr 2;refine b0 ?_;simp [cv]
 . refine aa (slice_beyond (SJ h)) ?_;refine aa (Yr (by simp only [cv] at h;simp;exact SM h)) ?_;rfl
theorem mN {wp lo:Nn}{p:Pos}(h:Ev c C wp S (λo ai=>Qx c C (AN lo) ai (λl aF=>∃(x:Str)(i:Nat),o=.str x/\l=AN (i:Int)/\x.length<=Wo/\K (.str ⟨(x.cps.toList.drop i).toArray⟩) aF) X) X):Ev c C (.Subscript wp (.Slice (AN lo) Wm Wm p) pos) S K X:=by
 intro A F bs s hA z;refine WP.bind (h A F bs s hA z) λF₁ bs₁ ai ak o ro an aC ho tj=>ag (pa (alY (aS (mG hA aC tj) (λrl am WZ=>WZ.casesOn λaP aB l aF av aI hl S4=>?_) λJ J e=>e)));refine Cc S4 λx i uQ J7 hsz k=>?_;clear S4;obtain rfl:=uQ;obtain rfl:=J7;refine aX ?_;cases hl with
 | int _ tl=>
 refine Ml ho.inv λt rG=>?_;obtain rfl:=rG;refine aX (ag (yr ?_));generalize iJ:({am with heap:=am.heap.push {cls:=.type "slice",data:=.fields #[.int i tl,.none,.none]}}:Gb)=cK;have pu:a7 c aP aB am cK:=by simp only [<-iJ];exact ⟨λb o e=>cC _ e,Z,Z⟩
 have nM:cK.heap.IsSlice am.heap.objs.size (AN ((i:Int),tl)) Wm Wm:=by refine az iJ ?_;exact (aU _ (Gl _ Z) Z Z)
 obtain de:=aI.keep pu;refine ag (ag (X0 (yM cK x t) ai9.lookup ?_));obtain fin:Dk (model c.prog c.w) A (operate [.ref am.heap.objs.size,.str x t] (X2 (.str x t) (.ref am.heap.objs.size)) >>= λr=>YG wp (.str x t) r >>= λJ=>pure r)
  (WV c C c.V F₁ bs₁ ak.heap K)
  (WX c C F₁ bs₁ ak.heap X) cK:=by
  refine ag (XK (wpAny_getItem_str_slice nM Z (post_val_or_str ⟨XI (Txt.slice_le x _ _) hsz,λt' k'=>ag (A4 (aX ?_))⟩)));have AW:a7 c aP aB cK {cK with toks:=k'}:=.toks ..;exact ⟨aP,aB,.str ⟨(x.cps.toList.drop i).toArray⟩,aF,(av.trans (.keep pu)).trans (.keep AW),de.keep AW,by refine az (yY x i) ?_;exact .str _ _,k⟩
 first
  | exact aX fin
  | exact ag (aX fin)
  | exact fin
end
end Mine.Internal
namespace Mine.Internal
open PySem PyProof.Rows PySem.W
section
variable {s s':Gb}{pos:Pos}
theorem DictOf.at_ {h:Xi}{Kt:Type}[DecidableEq Kt]{knd:Ep c.prog c.w Kt}{a:Wr}{kvs:List (Kt×Ws)}(x:h.DictOf knd a kvs):∃ep,h.DictAt knd a kvs ep:=by refine VY x λo es ep r=>?_;exact ⟨ep,o,es,r⟩
end
end Mine.Internal
namespace Mine.Internal
theorem Uk {a:Nat}{b:Nat}:¬a<b->b<=a:=by simp +arith
theorem ZY {a:Int}{b:Nat}:a.toNat<b->a<(↑b:Int):=λh=>aiD (alp a) (Gj.mpr h)
theorem ZZ {a:Nat}{b:Nat}:a+b-a=b:=by simp +arith
theorem Z0 {a:Nat}{b:Nat}:¬a+b<a:=by simp +arith
theorem Z1 {a:Nat}{b:Nat}{c:Nat}:a+20*b<c->b≠0->a+1<c:=λh k=>aio (WK (XI (aiE k) (Nat.le_mul_of_pos_left b (by decide))) a) h
theorem Z2 {a:Nat}{b:Nat}{c:Nat}:a+b<=c->a<=c:=by lia
theorem Ul {a:Nat}{b:Nat}{c:Nat}:a<b->b=c->a<c:=by lia
theorem Um {a:Nat}{b:Nat}{c:Nat}{d:Nat}:a=b->b=c->d=c->a=d:=by lia
theorem Z3 {a:Int}:0<=a->a<1000->-9223372036854775808<=a/\a<9223372036854775808:=λh k=>⟨Yg (by decide) h,am8 k (by decide)⟩
theorem Z4 {a:Int}:0<=a->a<2 ^ 63->-9223372036854775808<=a/\a<9223372036854775808:=λh k=>⟨Yg (by decide) h,k⟩
theorem Z5 {a:Nat}:(↑a:Int)+1=1->a=0:=by simp +arith
theorem Un {a:Nat}:(↑a:Int)=(↑a:Int)+1-1:=by simp +arith
theorem Uo {a:Nat}:a<=256->a<=1152921504606846975:=by lia
theorem Up {a:Nat}:a<=256->a<=16777216:=by lia
theorem Uq {a:Nat}{b:Nat}:(↑a:Int)+(↑b:Int)=(↑(a+b):Int):=rfl
theorem Ur {a:Nat}{b:Nat}:a<=a+b:=by simp +arith
theorem Us {a:Nat}{b:Nat}{c:Nat}:a+b<=c->a+b<=c+1:=by lia
theorem Ut {a:Nat}{b:Nat}{c:Nat}:a=b->¬c<a->b<=c:=by lia
theorem Uu {a:Nat}{b:Nat}{c:Nat}{d:Nat}:a<b->c=b+d->a<c:=by lia
end Mine.Internal
namespace Mine.Internal
open PySem PyProof.Rows PySem.W
section
variable {s s':Gb}{pos:Pos}
theorem cB:∃T id,uN S (.str x)=AN T/\Oy (.type T) "__getitem__"=pure (AN (.builtin id)):=(d8 _ _ Z ai9.lookup)
theorem Hq {cp:Nat}(h0:0<=i)(h1:i<2 ^ 63)(hy:x.cps[i.toNat]?=AN cp)(k:K (.str ⟨#[cp]⟩) S):iA c C X2 (.str x) (.int i) S K X:=λA F bs s ra rb hA z ha hb=>by
 refine Ml hb.inv λJ uX=>?_;refine rE uX ?_;refine Ml ha.inv λJ o3=>?_;refine rE o3 ?_;refine WP.kept z λQ E q=>ai8 (by simp;exact Z4 h0 h1) ?_ (q _ _ (.toks ..) (af _ (.str _ _) k));have dc:i.toNat<x.cps.size:=by rw [agI] at hy;exact hy.1
 refine aa (seqIndex_of h0 (by show i<x.length;simp only [cv];exact ZY dc)) ?_;exact hy
end
section
variable {prog:AZ}{w:X3}{s:Gb}
theorem Br {I:Wr}{fp wr:aJ}{G:Array ans->Array ans->Prop}{n:Nat}{P:Nat->Ws->Prop}{St:Nat->nj}(W:WalksS prog w A I fp wr G n P St)(m:Nat)(O:Nat->Ws->Prop) :
 WalksS prog w A I fp wr G (m+n) (λj v=>if j<m then O j v else P (j-m) v) (λi s=>m<=i/\St (i-m) s) where
 sub:=W.sub
 grefl:=W.grefl
 gtrans:=W.gtrans
 frame:=λi s h' tk hs ht hk=>⟨hs.1,W.frame _ s h' tk hs.2 ht hk⟩
 item:=λi s Q E hi hs k=>W.item (i-m) s Q E (Nat.sub_lt_left_of_lt_add hs.1 hi) hs.2 λv s' hp be mv=>k v s' ((if_neg (DF.mpr hs.1)).symm▸hp) ⟨Xj hs.1,aa (amZ hs.1) be⟩ mv
 done:=λs Q E hs k=>W.done s Q E (ahp (n:=m) (m:=n)▸hs.2) k
 self:=λi s Q E hs k=>W.self (i-m) s Q E hs.2 k
end
section
variable {s s':Gb}{pos:Pos}
theorem ED (F:G)(bs:aJ):∀(cs:au) (vs:iE),vs.length=cs.length->(∀(j:Nat) (v:Ws),vs[j]?=AN v->∃d u,cs[j]?=AN d/\v=anQ ⟨#[d]⟩ u)->c.Vs F bs (cs.map λc=>AV.str ⟨#[c]⟩) vs:=by
 intro cs;induction cs with
 | nil=>intro vs hl _;cases vs with | nil=>exact .nil | cons=>simp at hl
 | cons d cs ih=>
   intro vs hl hj;cases vs with
   | nil=>simp at hl
   | cons v vs =>refine FL (hj 0 v Z) λd' u e1 e2=>?_;simp at e1;subst e1 e2;exact .cons (.str _ _) (ih vs (by simpa using hl) λj w hw=>hj (j+1) w (hw))
end
structure x8 {α:Type} [DecidableEq α] (c:aZ)(f:α->AV):Prop where
 eq:∀(A:M5) (F:G) (bs:aJ) (s:Gb) (a b:α) (ra rb:Ws),c.V F bs (f a) ra->c.V F bs (f b) rb->Zr A s ra rb (decide (a=b))
 inj:∀(F:G) (bs:aJ) (a b:α) (r:Ws),c.V F bs (f a) r->c.V F bs (f b) r->a=b
theorem x8.int (c:aZ):x8 c AV.int where
 eq:=λA F bs s a b ra rb ha hb=>by refine Ml ha.inv λt Ic=>?_;obtain rfl:=Ic;refine Ml hb.inv λu CP=>?_;obtain rfl:=CP;exact anG a t b u
 inj:=λF bs a b r ha hb=>by refine Ml ha.inv λt BT=>?_;obtain rfl:=BT;refine Ml hb.inv λu e=>?_;exact (anZ e).1
theorem x8.str (c:aZ):x8 c AV.str where
 eq:=λA F bs s a b ra rb ha hb=>by refine Ml ha.inv λt BU=>?_;obtain rfl:=BU;refine Ml hb.inv λu BV=>?_;obtain rfl:=BV;exact anH a t b u
 inj:=λF bs a b r ha hb=>by refine Ml ha.inv λt BW=>?_;obtain rfl:=BW;refine Ml hb.inv λu e=>?_;exact (an0 e).1
section
variable {α:Type}[DecidableEq α]{f:α->AV}{s s':Gb}
theorem x8.Z6 (h:x8 c f){xs ys:List α}{vs:iE}(h1:c.Vs F bs (xs.map f) vs)(h2:c.Vs F bs (ys.map f) vs):xs=ys:=by
 induction xs generalizing ys vs with
 | nil=>
   obtain rfl:=h1.inv;cases ys with
   | nil=>rfl
   | cons=>refine FL h2.inv λJ J q J=>?_;cases q
 | cons x xs ih=>
   refine dr h1.inv λv us BX a1 a2=>?_;obtain rfl:=BX;cases ys with
   | nil=>cases h2.inv
   | cons y ys =>refine dr h2.inv λJ J q b1 b2=>?_;cases q;exact (ar (h.inj _ _ _ _ _ a1 b1))▸(ar (ih a2 b2))▸Z
theorem Ac (xs ys:List α)(h:xs.length=ys.length):(WG xs.length).all (λj=>decide (xs[j]?=ys[j]?))=decide (xs=ys):=by
 refine bb yz (bb Xy (bb decide_eq_true_iff ?_));constructor
 . intro q;refine Yi λi=>?_;by_cases hi:i<xs.length
   . exact of_decide_eq_true (q i (wN.mpr hi))
   . exact (ar (Gu.mpr (Uk hi)))▸(ar (Gu.mpr (Ut h hi)))▸Z
 . rintro rfl i _;exact decide_eq_true Z
theorem x8.at_ (h:x8 c f){xs ys:List α}{vs us:iE}(h1:c.Vs F bs (xs.map f) vs)(h2:c.Vs F bs (ys.map f) us)(A:M5)(s:Gb)(j:Nat)(j1:j<vs.toArray.size)(j2:j<us.toArray.size): Zr A s vs.toArray[j] us.toArray[j] (decide (xs[j]?=ys[j]?)):=by
 obtain e1:=h1.length;obtain e2:=h2.length;simp only [Wl,Yd] at e1 e2 j1 j2;have k1:=Ul j1 e1;have k2:=Ul j2 e2;refine Va (h1.get (i:=j) (x:=f xs[j]) (by simp only [bV,cm k1];rfl)) λv w1 w2=>?_;refine Va (h2.get (i:=j) (x:=f ys[j]) (by simp only [bV,cm k2];rfl)) λu w3 w4=>?_;obtain q1:vs.toArray[j]=v:=(bA w1).2;obtain q2:us.toArray[j]=u:=(bA w3).2;obtain this:=h.eq A F bs s _ _ _ _ w2 w4;simp only [q1,q2,cm k1,cm k2];simpa using this
theorem x8.rc (h:x8 c f){a b:Wr}{xs ys:List α}{vs us:iE}(h1:c.Vs F bs (xs.map f) vs)(h2:c.Vs F bs (ys.map f) us)(hl:s.heap.IsList a vs.toArray)(zX:s.heap.IsList b us.toArray)(hu:A.units<O7): SeqAt.RcAt A s (.ref a) (.ref b) (decide (xs=ys)):=by
 obtain e1:=h1.length;obtain e2:=h2.length;simp only [Wl] at e1 e2;by_cases tp:xs.length=ys.length
 . refine az (Ac xs ys tp) ?_;obtain this:=alL hl zX (by exact Um e1 tp e2) hu (λj j1 j2=>h.at_ h1 h2 A.in1 s j j1 j2);simpa [e1] using this
 . exact aa (decide_eq_false (λe=>tp (by rw [e]))) (amJ hl zX (by simpa [e1,e2] using tp) hu)
theorem x8.Z7 (h:x8 c f){a b:Wr}{xs ys:List α}{vs us:iE}(h1:c.Vs F bs (xs.map f) vs)(h2:c.Vs F bs (ys.map f) us)(hl:s.heap.IsList a vs.toArray)(zX:s.heap.IsList b us.toArray)(hu:A.units<O7): SeqAt.RcNeAt A s (.ref a) (.ref b) (!decide (xs=ys)):=by
 obtain e1:=h1.length;obtain e2:=h2.length;simp only [Wl] at e1 e2;by_cases tp:xs.length=ys.length
 . refine az (Ac xs ys tp) ?_;obtain this:=anI hl zX (by exact Um e1 tp e2) hu (λj j1 j2=>h.at_ h1 h2 A.in1 s j j1 j2);simpa [e1] using this
 . exact aa (decide_eq_false (λe=>tp (by rw [e]))) (amv hl zX (by simpa [e1,e2] using tp) hu)
theorem Ly (h:x8 c f){xs ys:List α}(ha:dD S a (xs.map f))(hb:dD S b (ys.map f))(hn:C.n≠0)(k:K (.bool (!decide (xs=ys))) S):iA c C (Xp .NotEq) a b S K X:=λA F bs s ra rb hA z h1 h2=>by refine Cc (z.seq ha h1) λl vs yf hL bn J=>?_;obtain rfl:=yf;refine Cc (z.seq hb h2) λm us tH hM Pi J=>?_;obtain rfl:=tH;exact WP.kept z λQ E q=>h.Z7 bn Pi hL.isList hM.isList (uH hA.units) _ _ _ _ (q _ _ (.refl ..) (af _ (.bool _) k))
def Uv (c:aZ)(a b:AV)(r:Bool):Prop:=∀(A:M5) (F:G) (bs:aJ) (s:Gb) (ra rb:Ws),(∀b o,F b=AN o->s.heap.get? b=AN o)->A.units<O7->c.V F bs a ra->c.V F bs b rb->Zr A s ra rb r
inductive sj (c:aZ):bZ->bZ->List Bool->Prop
 | nil:sj c [] [] []
 | cons {a b xs ys r rs}:Uv c a b r->sj c xs ys rs->sj c (a::xs) (b::ys) (r::rs)
theorem Uv.list (h:x8 c f)(xs ys:List α):Uv c (.lst (xs.map f)) (.lst (ys.map f)) (decide (xs=ys)):=λA F bs s ra rb hs hu ha hb=>by
 refine dr ha.inv λa vs o9 qR h1=>?_;obtain rfl:=o9;obtain ⟨n,g1⟩:=qR;refine dr hb.inv λb us o7 o8 h2=>?_;obtain rfl:=o7;obtain ⟨n',g2⟩:=o8;by_cases FY:a=b
 . subst FY;have e:=bf (g1.symm.trans g2);injection e with _ _ e _;injection e with e _;obtain e':vs=us:=by simpa using congrArg Array.toList e
   subst e';simp only [decide_eq_true (h.Z6 h1 h2)];exact anV _
 . exact anJ FY (h.rc h1 h2 (di _ (hs _ _ g1) Z n Z) (di _ (hs _ _ g2) Z n' Z) hu)
theorem sj.len (h:sj c xs ys rs):xs.length=ys.length/\rs.length=ys.length:=by
 induction h with
 | nil=>exact ⟨Z,Z⟩
 | cons _ _ ih=>exact ⟨congrArg GH ih.1,congrArg GH ih.2⟩
theorem sj.at_ (h:sj c xs ys rs)(hs:∀b o,F b=AN o->s.heap.get? b=AN o)(hu:A.units<O7)(h1:c.Vs F bs xs us)(h2:c.Vs F bs ys vs)(j:Nat)(u v:Ws)(e1:us[j]?=AN u)(e2:vs[j]?=AN v):Zr A s u v (rs.getD j Wn):=by
 induction h generalizing us vs j with
 | nil=>obtain rfl:=h1.inv;exact bM e1
 | cons a b ih=>
   refine dr h1.inv λJ J o6 g1 g2=>?_;obtain rfl:=o6;refine dr h2.inv λJ J o5 k1 k2=>?_;obtain rfl:=o5;cases j with
   | zero=>obtain rfl:=WM e1;cases e2;exact a A F bs s _ _ hs hu g1 k1
   | succ j=>exact ih g2 k2 j (e1) (e2)
theorem all_range (rs:List Bool):(WG rs.length).all (λj=>rs.getD j Wn)=rs.all id:=by
 refine bb yz (bb Xy (bb Xy ?_));constructor
 . intro q b hb;obtain ⟨i,hi,rfl⟩:=Xq hb;obtain this:=q i (wN.mpr hi)
   rwa [Mz,cm hi] at this
 . intro q i hi;obtain hi:=wN.mp hi;exact aa Mz (aa (cm hi) (q _ (GY hi)))
end
section
variable {M:Model}{E:pF}{s:Gb}
theorem yZ {α:Type}{c:Bool}{e f:Sem α}{Q:α->nj}(h:c=Wp)(k:Dk M A f Q E s):Dk M A (if c=Wn then e else f) Q E s:=by subst h;exact k
theorem vp {a b:Ws}{T U nm:String}{Q:rn->nj}(hTU:(uP T==uP U)=Wp)(ha:s.TypeIs a T)(hb:s.TypeIs b U)(hT:al7 (.type T) nm=pure Wp)(hU:al7 (.type U) nm=pure Wp)(h:Q Wm s):Dk M A (binaryOp1 nm a b) Q E s:=by
 delta binaryOp1;exact ag (Bc ha (ag (Bc hb (ag (NT hT (yZ hTU (ag (NT hU (aX h)))))))))
theorem tw (ha:s.TypeIs (.ref a) "list")(hb:s.TypeIs (.ref b) "tuple")(hc:Dk M A (call (.builtin "list.__iadd__") [.ref a,.ref b]) Q E s):Dk M A (Y7 .Add (.ref a) (.ref b)) Q E s:=by
 refine pa ?_;have Mr:fillsInplaceSlot (.type "list") "add" (Operator.Add==.Add)=pure Wp:=rfl;have hsi:seqSlot? (.type "list") (dunderI "add")=pure (AN (.builtin "list.__iadd__")):=rfl;refine ag (Bc ha (ag (NT Mr ?_)));refine ag (vp (nm:="add") (Z) ha hb (by first | exact abA | kernel_rfl) noFill_tuple_add ?_);refine ag (NT hsi ?_);exact ag (XD hc)
end
theorem y0 (l:Wr)(items:Array Ws)(n:Nat)(b:Wr)(items2:Array Ws)(n2:Nat)(hs0:¬(!items.isEmpty&&ag7 (items.size+items2.size))=Wn)(BZ:items.size<=Wo)(sK:items.size+items2.size<=Wo+1): Meets (Ye.«list.__iadd__» ⟨[.ref l,.ref b],[]⟩) (λJ R s=>s.heap.get? l=AN {cls:=.type "list",dict:=Wm,data:=.seq items n,slots:=#[]}/\s.heap.get? b=AN {cls:=.type "tuple",dict:=Wm,data:=.seq items2 n2,slots:=#[]}/\R (.ok (.ret (Wt l))) {s with heap:=s.heap.update l (OM λx=>x++items2),toks:=s.toks}):=
 .of_wp λprog w A R s h=>by
  obtain ⟨hp,g,d,tk,os⟩:=s;obtain ⟨hl,hb,h⟩:=h;obtain f2:=AutoSeq1.sub_tuple_tuple;obtain f5:=AutoSeq1.sub_list_tuple;obtain f4:=AutoSeq1.sub_tuple_list;obtain hz:(items++items2).size<=Wo+1:=by refine aa Array.size_append ?_;exact sK
  wp_walk using (wpAny_updateSeq hl Z (hz:=BZ) (_hz':=hz)),al8 hl,al8 hb
  exact (af _ Z h)
section
variable {s s':Gb}{pos:Pos}
theorem EF (hk:S.heap[k]?=AN (.list xs))(hsz:xs.length+ys.length<=Wo)(k':K (.ref k) {S with heap:=S.heap.set k (.list (xs++ys))}):iA c C (Y7 .Add) (.ref k) (.tup ys) S K X:=by
 intro A F bs s ra rb hA z h1 h2;have Lz:=h1;refine Cg (z.gq h1 hk) λa o8 hb o9 hF=>?_;obtain rfl:=o8;obtain ⟨vs,⟨n,h0⟩,bn⟩:=o9;refine dr h2.inv λb us o7 ht Pi=>?_;obtain rfl:=o7;obtain h3:=z.wd.sub _ _ ht;refine tw (af _ h0 Z) (af _ h3 Z) ?_;refine hJ PySem.F.slot_list_iadd (af _ h0 Z) PySem.F.entry_list_iadd (PySem.F.args_list_iadd_2 _ _) (y0 a vs.toArray n b us.toArray 0 ?_ ?_ ?_) ?_
 . obtain this:Wo=2 ^ 24:=rfl;simp [ag7,bn.length,Pi.length];intro _;exact hsz
 . simp [bn.length];exact Z2 hsz
 . simp [bn.length,Pi.length];exact Us hsz
 obtain this:=z.mE (xs':=xs++ys) (vs':=vs++us) hb hk h0 (bn.append Pi) (λx=>x++us.toArray) (by simp);exact (aV h0 h3 ⟨F,bs,.ref k,_,this.1,this.2,Lz,k'⟩)
theorem xj (hi:u3 x y 0 x.length 1=i::r)(k:K (.int i) S):eJ c C (.builtin "str.index") [.str x,.str y] S K X:=by intro A F bs s rs hA z hv;refine dr hv.two λJ J o6 h1 h2=>?_;obtain rfl:=o6;refine Ml h1.inv λt o5=>?_;obtain rfl:=o5;refine Ml h2.inv λu o4=>?_;obtain rfl:=o4;exact WP.kept z λQ E q=>call_gives Ys (yM s x t) PySem.F.entry_str_index (PySem.F.args_str_index_2 _ _) (gives_str_index x y t u i r hi) (q _ _ (.toks ..) (af _ (.int _ _) k))
theorem Ad {m:Int}(ha:dD S a xs)(Z8:0<=m)(hhi:m<1000)(hsz:xs.length*m.toNat<=256)(k:rD K (td m.toNat xs).flatten S):iA c C (Y2 .Mult) a (.int m) S K X:=λA F bs s ra rb hA z h1 h2=>by
 refine Ml h2.inv λu o3=>?_;obtain rfl:=o3;refine FN (z.rC ha h1) λl vs n o2 h0 bn=>?_;obtain rfl:=o2;obtain hl:=bn.length;refine wpAny_binaryOp_repeat_ref (T:="list") (U:="int") (Z) (af _ h0 Z) (λs'=>typeIs_int s' m u) noFill_list_mul PySem.F.fills_int_mul aj2 repeat_list PySem.F.slot_int_index.lookup
  (hJ aj2 (typeIs_int s m u) PySem.F.entry_int_rmul (PySem.F.args_int_rmul_2 _ _) (lm_int_rmul_list_any m u l vs.toArray n Wm #[])
   ⟨h0,Z,(af _ h0 Z),hJ PySem.F.slot_list_mul (af _ h0 Z) PySem.F.entry_list_mul (PySem.F.args_list_mul_2 _ _)
    (lm_list_mul_any l vs.toArray n Wm #[] m u (by simp [agJ];exact Z3 Z8 hhi) (by simp [hl];exact Uo hsz) (by simp [ag7,Wo,hl];exact Up hsz))
    ⟨h0,?_⟩⟩)
 refine aa (listMul_foldl_if _ _) ?_;obtain m0:c.Vs F bs (td m.toNat xs).flatten (td m.toNat vs).flatten:=by
  generalize m.toNat=q;induction q with
  | zero=>exact .nil
  | succ q ih=>skip;exact bn.append ih
 obtain mv:a7 c F bs s {s with heap:=s.heap.push (bu (td m.toNat vs).flatten 0)}:=⟨λb o e=>cC _ e,Z,Z⟩
 exact z.AQ mv (St.gZ s) (vs:=(td m.toNat vs).flatten) (n:=0) (dB _ Z) m0 k
abbrev abg (c:aZ)(C:Cx)(pos:Pos)(args:cJ)(n:Nat)(K:cu)(X:cR):cu:=λfv S=>∃site caps,fv=.fn site caps/\pz c C pos args S (λvs aF=>m5 c n (.fn site caps) vs aF.heap (zI K aF)) X
end
section
variable {prog:AZ}{w:X3}{E:pF}{s:Gb}
end
section
variable {s s':Gb}{pos:Pos}
noncomputable def fR (k:Nat)(v':AV):bZ->bZ->Prop
 | [],[]=>True
 | x::l,y::l'=>(y=x\/(x=.ref k/\y=v'))/\fR k v' l l'
 | _,_=>False
theorem fR.rel (hv:∀r,c.V F bs (.ref k) r->c.V F bs v' r)(hr:fR k v' l l')(h:c.Vs F bs l rs):c.Vs F bs l' rs:=by
 induction l generalizing l' rs with
 | nil=>
   cases l' with
   | nil=>exact h
   | cons=>exact hr.elim
 | cons x l ih=>
   cases l' with
   | nil=>exact hr.elim
   | cons y l'=>
     refine dr h.inv λv vs o4 h1 h2=>?_;obtain rfl:=o4;rcases hr.1 with e | ⟨e1,e2⟩
     . subst e;exact .cons h1 (ih hr.2 h2)
     . subst e1 e2;exact .cons (hv _ h1) (ih hr.2 h2)
theorem c9.elem (x:Nat)(hx:S.loc.lookup x=AN (.lst l))(hk:S.heap[k]?=AN (.list xs))(hr:fR k (.lst xs) l l'):c9 c C S ⟨ck S.loc x (.lst l'),S.heap.set k .gone⟩:=λF bs s z=>by
 obtain dc:k<bs.length:=by simp only [z.wd.len];exact (bA hk).1
 obtain ⟨a,ha⟩:∃a,bs[k]?=AN a:=(cj _ (cm dc))
 refine XZ (z.wd.obj k a _ ha hk) λo3 hF=>?_;obtain ⟨vs,⟨n,h1⟩,h2⟩:=o3;obtain yh:=hF (by simp);refine (af (plus F a (bu vs n)) (Step.freeze (bO ha) yh) ?_);obtain z':=z.freeze ha hk (by simp) h1 (by simp [bu,a9]);refine z'.zJ x (.lst l) (.lst l') hx λr JE=>?_;refine dr JE.inv λb us o2 g1 g2=>?_;obtain rfl:=o2;refine .lst g1 (hr.rel (λr hv=>?_) g2);refine Va hv.inv λJ o1 e=>?_;obtain rfl:=o1;obtain rfl:=bf (ha.symm.trans e);refine .lst (cj n bU) ?_;simpa using bh.mono (nb:=[]) (aY yh) h2
theorem fR.refl (k:Nat)(v:AV):∀l:bZ,fR k v l l
 | []=>trivial
 | _::l=>⟨.inl Z,fR.refl k v l⟩
theorem fR.mid (k:Nat)(v:AV)(r:bZ):∀d:bZ,fR k v (d++.ref k::r) (d++v::r)
 | []=>⟨.inr ⟨Z,Z⟩,fR.refl k v r⟩
 | _::d=>⟨.inl Z,fR.mid k v r d⟩
theorem c9.refl:c9 c C S S:=λF bs s z=>(af F (.refl ..) z)
inductive LA (c:aZ)(C:Cx)(S:AS)(x:Nat)(ks:au)(l':bZ):Prop
 | mk (loc:d7) (H:aR) (sh:c9 c C S ⟨loc,H⟩) (h1:loc.lookup x=AN (.lst l')) (h2:∀y,y≠x->loc.lookup y=S.loc.lookup y) (h3:∀j,j∉ks->H[j]?=S.heap[j]?)
theorem c9.elems (x:Nat)(ks:au):∀(rows:List bZ) (d:bZ) (S:AS),S.loc.lookup x=AN (.lst (d++ks.map .ref))->ks.length=rows.length->(∀(i k:Nat) (r:bZ),ks[i]?=AN k->rows[i]?=AN r->S.heap[k]?=AN (.list r))->ks.Nodup->LA c C S x ks (d++rows.map .lst):=by
 induction ks with
 | nil=>
   intro rows d S hx hl hk hn;cases rows with
   | cons=>cases hl
   | nil=>exact ⟨S.loc,S.heap,c9.refl,hx,λJ J=>Z,λJ J=>Z⟩
 | cons k ks ih=>
   intro rows d S hx hl hk hn;cases rows with
   | nil=>cases hl
   | cons r rows=>
     obtain ii:=Xh.mp hn;obtain sh1:=c9.elem x hx (hk 0 k r Z Z) (fR.mid k (.lst r) (ks.map .ref) d);obtain ⟨loc,H,sh,h1,h2,h3⟩:=ih rows (d++[.lst r]) ⟨ck S.loc x (.lst (d++.lst r::ks.map .ref)),S.heap.set k .gone⟩ (by rewrite [aQ];refine aa (if_pos Z) ?_;simp) (by simpa using hl)
      (λi k' r' e1 e2=>by
       obtain eQ:k≠k':=λe=>ii.1 (e▸bO e1);refine aa (bc eQ) ?_;exact hk (i+1) k' r' (e1) (e2)) ii.2
     refine ⟨loc,H,sh1.trans sh,by simpa using h1,λy hy=>?_,λj hj=>?_⟩
     . refine aa (h2 y hy) ?_
       rewrite [aQ]
       exact aa (if_neg hy) Z
     . obtain q1:k≠j:=λe=>hj (by refine (ar e)▸?_;exact .head _);exact aa (h3 j (λq=>hj (.tail _ q))) (bc q1)
end
section
variable {F F' F₀:G}{bs aK bs₀:aJ}{h₀:Xi}{s s':Gb}{pos:Pos}
noncomputable abbrev em2 (e:Nn)(i2:Nn)(D:Wr)(env:Env):Sem Unit:=do
 let x <-eval i2 env
 yH i2.pos
 let x <-XF i2 env x;let _ <-runOwn (.compStart e 1 (<-holding [x] (Hh x)) (.ref D) env) env
noncomputable abbrev lc2 (Cp t1 i1 t2 i2:Nn)(Z9 aaa:cJ)(scope:YB)(pos:Pos):Nn:=.ListComp Cp [⟨t1,i1,Z9,0⟩,⟨t2,i2,aaa,0⟩] scope pos
end
noncomputable def Hr:fW:=jd jw 10
noncomputable def vq:mK:=dO Hr 0
noncomputable def y3:mK:=dO Hr 1
noncomputable def Af:mK:=dO Hr 2
noncomputable def y4:mK:=dO Hr 3
noncomputable def so:mK:=dO jw 12
noncomputable def vr:mK:=dO so.body 2
noncomputable def vt:mR:=⟨"_law_piece","_law_lexer.<locals>._law_piece",vr.params,.stmts vr.body,vr.scope⟩
structure lX where
 cL:Wr
 init:Wr
 read:Wr
 get:Wr
 push:Wr
structure VW (c:aZ)(mg mb:eI)(Kf:DW)(l:lX):Prop where
 B:eK c mg mb Kf
 a1:attrOk Kf l.cL "lineno"=Wn
 a2:attrOk Kf l.cL "instream"=Wn
 a3:attrOk Kf l.cL "whitespace"=Wn
 a4:attrOk Kf l.cL "pushback"=Wn
 a5:attrOk Kf l.cL "read"=Wn
 mkL:t0 Kf l.cL=Wn
 EG:(Yp Kf (.ref l.cL) "__init__"==AN (AN (.ref l.init))&&Li Kf (.ref l.init)==AN (.type "function"))=Wn
 keep:keepIn Kf (.ref l.cL)=Wn
 g:mg "_netrclex"=AN (.ref l.cL)
 EH:mI Kf l.cL "_read_char" l.read=Wn
 Uw:gB Kf l.cL "get_token" l.get=Wn
 EI:gB Kf l.cL "push_token" l.push=Wn
 init:fk c l.init vq .none
 read:fk c l.read y3 .none
 get:fk c l.get Af .none
 push:fk c l.push y4 .none
 site:c.aH 0=vt
noncomputable abbrev jg:Str:="\n\t\r "
noncomputable def fS (line:Int)(ins:AV)(pb:Nat):gh:=[("lineno",.int line),("instream",ins),("whitespace",.str jg),("pushback",.ref pb)]
structure LX (H:aR)(cL:Wr)(n:Nat)(signs:bD)(line:Int)(push:bD):Prop where
 sg:H[n]?=AN (.list (signs.reverse.map .str))
 sd:H[n+1]?=AN (.aN (fS 1 .none (n+3)++[(("read":Str),AV.fn 0 [(("signs":Str),AV.ref n)])]))
 si:H[n+2]?=AN (.inst cL (n+1))
 ld:H[n+4]?=AN (.aN (fS line (.ref (n+2)) (n+6)))
 li:H[n+5]?=AN (.inst cL (n+4))
 pb:H[n+6]?=AN (.list (push.map .str))
abbrev dP (n:Nat)(j:Nat):Prop:=n<=j/\j<n+7
theorem du {α:Type}{H:List α}{v:α}(h:i≠j):(H.set i v)[j]?=H[j]?:=bc h
theorem k0 {α:Type}{H:List α}{v o:α}(h:H[i]?=AN o):(H.set i v)[i]?=AN v:=iN (bA h).1
section
variable {H H':aR}{cL:Wr}{n:Nat}{signs EJ:bD}{line Je:Int}{push Jf:bD}
theorem LX.EK (x:LX H cL n signs line push):LX (H.set n (.list (EJ.reverse.map .str))) cL n EJ line push:=
 ⟨k0 x.sg,(du ku).trans x.sd,(du qJ).trans x.si,(du (cI (C3 (cA _ 3)))).trans x.ld,(du (cI (C3 (cA _ 4)))).trans x.li,(du (cI (C3 (cA _ 5)))).trans x.pb⟩
theorem LX.Hs (x:LX H cL n signs line push):LX (H.set (n+4) (.aN (fS Je (.ref (n+2)) (n+6)))) cL n signs Je push:=
 ⟨(du (dH (C3 (cA _ 3)))).trans x.sg,(du (dH (iB (by decide) _))).trans x.sd,(du (dH (cD J5))).trans x.si,k0 x.ld,(du (cI J5)).trans x.li,(du (cI (cD J5))).trans x.pb⟩
theorem LX.vu (x:LX H cL n signs line push):LX (H.set (n+6) (.list (Jf.map .str))) cL n signs line Jf:=
 ⟨(du (dH (C3 (cA _ 5)))).trans x.sg,(du (dH (iB (by decide) _))).trans x.sd,(du (dH (iB (by decide) _))).trans x.si,(du (dH (cD J5))).trans x.ld,(du (dH J5)).trans x.li,k0 x.pb⟩
theorem LX.ext (x:LX H cL n signs line push)(e:PP H H' P)(h:∀j,n<=j->j<n+7->¬P j):LX H' cL n signs line push:=by
 obtain lt:∀{j o},H[j]?=AN o->j<H.length:=λh=>(bA h).1;exact ⟨(e.same _ (lt x.sg) (h _ ky (C3 (cA _ 6)))).trans x.sg,(e.same _ (lt x.sd) (h _ Cm (iB (by decide) _))).trans x.sd,(e.same _ (lt x.si) (h _ qK (iB (by decide) _))).trans x.si,(e.same _ (lt x.ld) (h _ (cA _ 4) (cD (cD J5)))).trans x.ld,
  (e.same _ (lt x.li) (h _ (cA _ 5) (cD J5))).trans x.li,(e.same _ (lt x.pb) (h _ (cA _ 6) (bP (_+6).succ))).trans x.pb⟩
end
theorem acN {α:Type}{H:List α}{o:α}(h:H[k]?=AN o):H.set k o=H:=by refine Ml (bA h) λhk e=>?_;clear h;subst e;exact List.set_getElem_self hk
noncomputable def nl (x:Str)(l:Int):Int:=if x=="\n" then l+1 else l
noncomputable def Cs (x:Str):Bool:=!(u3 jg x 0 jg.length 1).isEmpty
section
variable {l:lX}
theorem fk.fnAt (h:fk c fa f dV):FnAt c fa:=by obtain ⟨o,fd,h1,h2,h3,_⟩:=h.at_;exact (bW o fd h1 h2 h3)
theorem EL (W:VW c mg mb Kf l){signs:bD}(hk:H[k]?=AN (.list (signs.reverse.map .str)))(hl:signs.length<1000)(m:Nat): m5 c (m+1) (.fn 0 [("signs",.ref k)]) [.int 1] H (λv H'=>v=.str (signs.headD "")/\H'=H.set k (.list (signs.tail.reverse.map .str))):=by
 refine m5.fnP W.B.toBase vt W.site ["count"] ["signs"] ["count","signs"] [(1,.ref k),(0,.int 1)] (λJ J=>Z) Z Z Z (Z) (Z) λenv own frames be kq=>?_
 . refine j6 (bt (oA (i7 (ab 1 (by rfl) (by rfl) (oB (.inr (af k Z hk)) (by simp;exact uy hl) ?_)))));cases signs with
   | nil =>exact dw ⟨Z,(acN hk).symm⟩
   | cons x r=>
     obtain e:(x::r).reverse.map AV.str=r.reverse.map AV.str++[.str x]:=by simp
     rw [e] at hk ⊢;refine aa (show (!(r.reverse.map AV.str++[AV.str x]).isEmpty)=Wn by simp) (cq "list" "list.pop" M1 sy A7 (ab 1 (by rfl) (by rfl) ⟨gO hk Z,cn (Dd hk (by simp [Wo] at *;exact il (u5 hl) Z) ⟨Z,Z⟩)⟩))
theorem LX.lex {cL n:Nat}{signs:bD}(x:LX H cL n signs line push):gR ⟨lc,H⟩ (n+5) (n+4) cL (fS line (.ref (n+2)) (n+6)):=⟨x.li,x.ld⟩
theorem LX.str {cL n:Nat}{signs:bD}(x:LX H cL n signs line push):gR ⟨lc,H⟩ (n+2) (n+1) cL (fS 1 .none (n+3)++[(("read":Str),AV.fn 0 [(("signs":Str),AV.ref n)])]):=⟨x.si,x.sd⟩
theorem Ht (W:VW c mg mb Kf l){signs:bD}(x:LX H l.cL n signs line push)(hl:signs.length<1000)(m:Nat): bQ c (m+2) (.ref l.read) [.ref (n+5)] H (λv H'=>v=.str (signs.headD "")/\LX H' l.cL n signs.tail (nl (signs.headD "") line) push/\PP H H' (dP n)/\H'.length=H.length):=by
 refine W.read.fu W.B.toBase ["self"] ["self","ch"] [(0,.ref (n+5))] (λJ J=>Z) Z Z (Z) λenv own frames be kq=>?_
 . obtain k1:=aA W.a1;obtain k2:=aA W.a2;obtain k5:=aA W.a5;refine ae (aj (ag1 W.B l.cL (n:=m+1) k5.2.2 k5.2.1 Z (bP _) (bj (ab 0 Z Z (br W.B l.cL k2.2.2 k2.2.1 x.lex (v:=.ref (n+2)) Z (λJ q=>by cases q) ⟨n+2,n+1,_,0,[("signs",.ref n)],Z,x.str,Z,aw (aE ?_)⟩)))));intro A F bs s r rs fr h1 h2 h3 h4 h5 wd hf hv;refine NL (EL W x.sg hl m A F bs s r rs fr h1 h2 h3 h4 h5 wd hf hv) λr s' ⟨F',aK,v,H',rv,own,e1,e2,e3,e4,e5,ev,eH⟩=>⟨F',aK,v,H',rv,own,e1,e2,e3,e4,e5,?_⟩
   clear e4 e5;subst ev eH;obtain x1:LX (H.set n (.list (signs.tail.reverse.map .str))) l.cL n signs.tail line push:=x.EK;refine ah 1 Z (be 1 _ Z) (ae (b9 (bp (ab 1 Z Z (dw (nh (ba ?_)))))));obtain e0:PP H (H.set n (.list (signs.tail.reverse.map .str))) (dP n):=PP.set _ _ ⟨bP _,C3 (cA _ 6)⟩;cases hb:(signs.headD ""==("\n":Str)) with
   | true=>
     refine ae (gD (ab 0 Z Z (br W.B l.cL k1.2.2 k1.2.1 x1.lex (v:=.int line) Z (λJ q=>by cases q) (aE (fP (df W.B l.cL k1.1 x1.lex (J4 Z) (aD (ae (bt (ab 1 Z Z (jr Z ?_ ?_ (by simp))))))))))))
     . obtain this:nl (signs.headD "") line=line+1:=by unfold nl;refine aa hb ?_;rfl
       exact aa this x1.Hs
     . exact e0.trans (PP.set _ _ ⟨cA _ 4,cD (cD J5)⟩)
   | false=>
     refine aD (ae (bt (ab 1 Z Z (jr Z ?_ e0 (by simp)))));obtain this:nl (signs.headD "") line=line:=by delta nl;refine aa hb ?_;rfl
     exact aa this x1
theorem Ag (W:VW c mg mb Kf l){signs:bD}(x:LX H l.cL n signs line push)(hl:push.length<1000)(t:Str)(m:Nat): bQ c (m+1) (.ref l.push) [.ref (n+5),.str t] H (λv H'=>v=.none/\H'=H.set (n+6) (.list ((push++[t]).map .str))):=by
 refine W.push.fu W.B.toBase ["self","token"] ["self","token"] [(0,.ref (n+5)),(1,.str t)] (λJ J J=>Z) Z Z (Z) λenv own frames be kq=>?_
 . obtain k4:=aA W.a4;refine ae (cw (cq "list" "list.append" M1 Gk Dq (bj (ab 0 Z Z (br W.B l.cL k4.2.2 k4.2.1 x.lex (v:=.ref (n+6)) Z (λJ q=>by cases q) ⟨gO x.pb Z,aw (ab 1 Z Z (gu x.pb (by simp [Wo];exact qG hl) ?_))⟩)))) (Z));refine aD ⟨Z,?_⟩;simp
end
set_option genCtorIdx true in
inductive LM where
 | top | xk | unq | y5 | tA
noncomputable def cG:LM->bD->Int->Str->Str×List Str×Int
 | _,[],l,t=>(t,[],l)
 | .top,x::r,l,t=>if Cs x then cG .top r (nl x l) t else if x=="\"" then cG .xk r (nl x l) t else if x=="\\" then cG .tA r (nl x l) t else cG .unq r (nl x l) (t++x)
 | .xk,x::r,l,t=>if x=="\"" then (t,r,nl x l) else if x=="\\" then cG .y5 r (nl x l) t else cG .xk r (nl x l) (t++x)
 | .unq,x::r,l,t=>if Cs x then (t,r,nl x l) else if x=="\\" then cG .tA r (nl x l) t else cG .unq r (nl x l) (t++x)
 | .y5,x::r,l,t=>cG .xk r (nl x l) (t++x)
 | .tA,x::r,l,t=>cG .unq r (nl x l) (t++x)
theorem Ux (x:Str)(r:bD)(l:Int)(t:Str):cG .top (x::r) l t=if Cs x then cG .top r (nl x l) t else if x=="\"" then cG .xk r (nl x l) t else if x=="\\" then cG .tA r (nl x l) t else cG .unq r (nl x l) (t++x):=rfl
theorem m9 (t:Str):t++(Ww "")=t:=by
 rfl
structure GI (n k:Nat)(S:AS)(tok:Str):Prop where
 self:S.loc.lookup 0=AN (.ref (n+5))
 tok:S.loc.lookup 1=AN (.str tok)
 it:S.loc.lookup 2=AN (.ref k)
theorem GI.put3 {tok:Str}(g:GI n k S tok)(v:AV)(H:aR):GI n k ({S with heap:=H}.put 3 v) tok:=
 ⟨by show (ck S.loc 3 v).lookup 0=_;rw [aQ];exact g.self,by show (ck S.loc 3 v).lookup 1=_;rw [aQ];exact g.tok,by show (ck S.loc 3 v).lookup 2=_;rw [aQ];exact g.it⟩
theorem GI.Bs {tok:Str}(g:GI n k S tok)(t:Str):GI n k (S.put 1 (.str t)) t:=
 ⟨by rw [aQ];exact g.self,by show (ck S.loc 1 _).lookup 1=_;rw [aQ];rfl,by show (ck S.loc 1 _).lookup 2=_;rw [aQ];exact g.it⟩
theorem GI.heap {tok:Str}(g:GI n k S tok)(H:aR):GI n k {S with heap:=H} tok:=⟨g.self,g.tok,g.it⟩
theorem sq (S:AS)(i:Nat)(v:AV):(S.put i v).loc.lookup i=AN v:=by rw [aQ,if_pos rfl]
section
variable {l:lX}
noncomputable abbrev EM (l:lX)(n:Nat):AO:=.fB (AN (.bm "method" (.ref l.read) (.ref (n+5)),.str ""))
inductive Act (l:lX)(n k:Nat)(jI:aR)(R:Str×List Str×Int)(md:LM)(m:Nat)(S:AS):Prop
 | mk (sg:bD) (ln:Int) (tok:Str) (g:GI n k S tok) (x:LX S.heap l.cL n sg ln []) (hc:S.heap[k]?=AN (EM l n)) (e:PP jI S.heap (dP n)) (hl:sg.length+tok.length<1000) (h1:∀x∈sg,x.length=1) (hj:sg.length=m) (hR:cG md sg ln tok=R)
structure MR (l:lX)(n k:Nat)(jI:aR)(R:Str×List Str×Int)(S:AS):Prop where
 gi:GI n k S R.1
 lx:LX S.heap l.cL n R.2.1 R.2.2 []
 ci:S.heap[k]?=AN (.fB Wm)
 ext:PP jI S.heap (dP n)
abbrev Bt (l:lX)(n k:Nat)(jI:aR)(R:Str×List Str×Int)(md:LM):CV:=λj S=>Act l n k jI R md j S\/MR l n k jI R S
theorem LX.lt {cL n:Nat}{signs:bD}(x:LX H cL n signs line push):n+6<H.length:=(bA x.pb).1
theorem pU (W:VW c mg mb Kf l){S:AS}(hk:n+7<=k)(wT:jI.length<=k)(x:LX S.heap l.cL n sg ln [])(hl:sg.length<1000)(hc:S.heap[k]?=AN (EM l n))(e:PP jI S.heap (dP n))(m:Nat): bQ c (m+2) (.ref l.read) [.ref (n+5)] S.heap (λv H'=>v=.str (sg.headD "")/\LX H' l.cL n sg.tail (nl (sg.headD "") ln) []/\H'[k]?=AN (EM l n)/\PP jI H' (dP n)):=
 (Ht W x hl m).mono λv H' aab=>CC aab λh1 h2 h3 J=>(jr h1 h2 ((h3.same k (bA hc).1 (λq=>(YF.mpr q.2 hk))).trans hc) (e.trans h3))
theorem xl (h:x.length=1):(("":Str)==x)=Wp:=by
 obtain this:("":Str)≠x:=λe=>by rw [<-e] at h;exact absurd h (by decide)
 simpa using this
noncomputable abbrev EN:bD:=["self","token","fiter","ch"]
noncomputable abbrev EO (env:Env)(own:aJ)(frames:List Env)(m:Nat):Cx:=jD Af env own frames (m+3) EN
theorem vw (W:VW c mg mb Kf l)(be:∀(i:Nat) x,EN[i]?=AN x->bI (EO env own frames m) (λJ=>Wm) x)(hk:n+7<=k)(wT:jI.length<=k)(g:GI n k S tok)(x:LX S.heap l.cL n sg ln [])(hl:sg.length<1000)(hc:S.heap[k]?=AN (EM l n))(e:PP jI S.heap (dP n)){K:gX}(kk:∀H',LX H' l.cL n sg.tail (nl (sg.headD "") ln) []->H'[k]?=AN (EM l n)->PP jI H' (dP n)->K .next ({S with heap:=H'}.put 3 (.str (sg.headD ""))))(hline:(p3.endLine==p4.line)=Wn): lB c (EO env own frames m) (.Assign [.Name "ch" p1] (.Call (.Attribute (.Name "self" p2) "_read_char" p3) [] [] p4) p5) S K X:=by
 obtain mr:gB Kf l.cL "_read_char" l.read=Wn:=by obtain this:=W.EH;simp only [mI,fA] at this;exact this.1.1.1
 refine aj (dk W.B l.cL l.read (n:=m+2) mr Z (by exact cD J5) (ab 0 Z g.self ⟨n+5,n+4,_,Z,x.lex,Z,?_⟩) (hline:=hline));refine cn ((pU W hk wT x hl hc e m).mono λv H' Pv=>CC Pv λev x' DP e'=>?_);clear Pv;subst ev;exact ah 3 Z (be 3 _ Z) (kk H' x' DP e')
theorem su (W:VW c mg mb Kf l)(be:∀(i:Nat) x,EN[i]?=AN x->bI (EO env own frames m) (λJ=>Wm) x)(hk:n+7<=k)(wT:jI.length<=k)(md me:LM){K:gX}(hm:md≠.top)(hmd:md=.xk/\me=.y5\/md=.unq/\me=.tA)(hb:∀(j:Nat) (S:AS) (y:Str) (sg:bD) (ln:Int) (tok:Str),S.loc.lookup 3=AN (.str y)->GI n k S tok->LX S.heap l.cL n sg ln []->S.heap[k]?=AN (EM l n)->PP jI S.heap (dP n)->sg.length+y.length+tok.length<1000->(∀x∈sg,x.length=1)->y.length=1->sg.length<j->cG md (y::sg) (ln-(nl y 0)) tok=R->Ex c (EO env own frames m) body S (wu (tR (Bt l n k jI R md) j) K) fy)(P3:∀S,MR l n k jI R S->K .next S)(j:Nat)(S:AS)(h:Act l n k jI R md j S\/MR l n k jI R S): II c (EO env own frames m) "ch" px body K (m+2) l.read (.ref (n+5)) "" k (Bt l n k jI R md) j S:=by
 rcases h with ⟨sg,ln,tok,g,x,hc,e,hl,h1,hj,hR⟩ | d
 . refine .inr ⟨hc,(pU W hk wT x (wY hl) hc e m).mono λv H' aac=>CC aac λev x' DP e'=>(aU _ ev DP ?_)⟩;cases sg with
   | nil=>
     refine .inl ⟨Z,P3 _ ⟨?_,?_,k0 DP,e'.kf wT _⟩⟩
     . obtain this:R=(tok,[],ln):=by rw [<-hR];cases md <;> rfl
       simp only [this];exact g.heap _
     . have:R=(tok,[],ln):=by rw [<-hR];cases md <;> rfl
       exact rE this (x'.ext (PP.set k _ Z) λj h1 h2 h3=>YF.mpr h2 (h3▸hk))
   | cons y r=>
     have hy:=h1 y (.head _);refine .inr ⟨xl hy,ah 3 Z (be 3 _ Z) ?_⟩;obtain hn:nl y ln-nl y 0=ln:=by delta nl;split <;> first | exact (by simp +arith) | exact ana _
     refine hb j _ y r (nl y ln) tok (sq _ _ _) (g.put3 _ _) x' DP e' (ar hy▸hl) (λz hz=>h1 z (.tail _ hz)) hy (uA hj) (by refine rE hn ?_;exact hR)
 . exact .inl ⟨d.ci,P3 S d⟩
end
theorem Ah (y:Str)(ln:Int):nl y (ln-nl y 0)=ln:=by delta nl;split <;> first | exact Int.sub_add_cancel _ (0+1) | exact ana _
theorem Hu (x:Str)(r:bD)(l:Int)(t:Str):cG .xk (x::r) l t=if x=="\"" then (t,r,nl x l) else if x=="\\" then cG .y5 r (nl x l) t else cG .xk r (nl x l) (t++x):=rfl
theorem Hv (x:Str)(r:bD)(l:Int)(t:Str):cG .unq (x::r) l t=if Cs x then (t,r,nl x l) else if x=="\\" then cG .tA r (nl x l) t else cG .unq r (nl x l) (t++x):=rfl
theorem EP (sg:bD)(ln:Int)(t:Str):cG .y5 sg ln t=cG .xk sg.tail (nl (sg.headD "") ln) (t++sg.headD ""):=by
 cases sg with
 | nil=>show (t,[],ln)=(t++Ww "",[],ln);rw [m9]
 | cons x r=>rfl
theorem xm (sg:bD)(ln:Int)(t:Str):cG .tA sg ln t=cG .unq sg.tail (nl (sg.headD "") ln) (t++sg.headD ""):=by
 cases sg with
 | nil=>show (t,[],ln)=(t++Ww "",[],ln);rw [m9]
 | cons x r=>rfl
theorem pV {sg:bD}(h:∀x∈sg,x.length=1):(sg.headD "").length<=1/\sg.tail.length+(sg.headD "").length<=sg.length:=by
 cases sg with
 | nil=>exact ⟨by decide,by decide⟩
 | cons x r=>simp [h x (.head _)]
section
variable {l:lX}
theorem lY (g:GI n k S tok)(x:LX S.heap l.cL n sg ln [])(hc:S.heap[k]?=AN (EM l n))(e:PP jI S.heap (dP n))(hl:sg.length+tok.length<1000)(h1:∀x∈sg,x.length=1)(hR:cG md sg ln tok=R)(hj:sg.length<j):tR (Bt l n k jI R md) j S:=⟨sg.length,hj,.inl ⟨sg,ln,tok,g,x,hc,e,hl,h1,Z,hR⟩⟩
inductive aad (l:lX)(n k:Nat)(H:aR)(R:Str×List Str×Int)(tok:Str)(j:Nat)(fl:vU)(ai:AS):Prop
 | mk (e0:fl=.next) (Jg:bD) (Vy:Int) (Ms:Str) (h1:ai.loc.lookup 3=AN (.str Ms)) (h2:GI n k ai tok) (h3:LX ai.heap l.cL n Jg Vy []) (h4:ai.heap[k]?=AN (EM l n)) (h5:PP H ai.heap (dP n)) (h6:Jg.length+Ms.length+tok.length<1000) (h7:Ms.length<=1) (h8:∀x∈Jg,x.length=1) (h9:Jg.length<j) (H8:cG .unq Jg Vy (tok++Ms)=R)
theorem Ai (W:VW c mg mb Kf l)(s4:dR mg mb "iter" (.builtin "iter")){signs:bD}(x:LX H l.cL n signs line [])(hl:signs.length<900)(h1:∀x∈signs,x.length=1)(m:Nat): bQ c (m+4) (.ref l.get) [.ref (n+5)] H (λv H'=>v=.str (cG .top signs line "").1/\LX H' l.cL n (cG .top signs line "").2.1 (cG .top signs line "").2.2 []/\PP H H' (dP n)):=by
 generalize hRR:cG .top signs line ""=R;refine W.get.fu W.B.toBase (n:=m+3) ["self"] EN [(0,.ref (n+5))] (λJ J=>Z) Z Z (by decide +kernel) λenv own frames be kq=>?_;have k3:=aA W.a3;have k4:=aA W.a4;have nk:n+7<=H.length:=x.lt;have wT:H.length<=H.length:=bP _;refine ae (b9 (i7 (bj (ab 0 Z Z (br W.B l.cL k4.2.2 k4.2.1 x.lex (v:=.ref (n+6)) Z (λJ q=>by cases q) (oB (.inr (af (n+6) Z x.pb)) (by simp) ?_))))));simp only [am3,List.isEmpty_nil,Bool.not_true,mQ,if_false];refine aD (ae (aj (dw (ah 1 Z (be 1 _ Z) (ae (aj (bS (.builtin "iter") (bY W.B.toBase (by rfl) s4.1 s4.2 ⟨Z,bG (bj (ab 0 Z Z (rS W.B l.cL l.read W.EH x.lex Z (aw (dw (ahc (ah 2 Z (be 2 _ Z) ?_)))))))⟩))))))));have hc0:(H++[EM l n])[H.length]?=AN (EM l n):=by rw [ij (bP _)];simp
 refine ae (rX (n:=m+2) (f:=l.read) (self:=.ref (n+5)) (snt:="") Z (by show m+2+1<=m+3;exact uv) W.read.fnAt ?_);refine ab 2 Z Z ⟨H.length,Z,(cj _ hc0),(Bt l n H.length H R .top),signs.length,(.inl ⟨signs,line,"",⟨Z,Z,Z⟩,(x.ext (P:=λJ=>False) ⟨by simp,λj hj J=>fb hj⟩ λj J J q=>q),hc0,⟨by simp,λj hj J=>fb hj⟩,by rw [show cv ""=0 from by decide +kernel];exact cV hl (WO 900 100),h1,Z,hRR⟩),(λj S hI=>?_)⟩;rcases hI.symm with d | ⟨sg,ln,tok,g,x,hc,e,hl,h1,hj,hR⟩
 . exact .inl ⟨d.ci,ae (bt (ab 1 Z d.gi.tok (aV Z d.lx d.ext)))⟩
 refine .inr ⟨hc,(pU W nk wT x (wY hl) hc e m).mono λv H' X6=>CC X6 λev x' DP e'=>(aU _ ev DP ?_)⟩;cases sg with
 | nil=>
   refine .inl ⟨Z,ae (bt (ab 1 Z (g.heap _).tok (aV ?_ ?_ (e'.kf wT _))))⟩
   . rw [<-hR];rfl
   . have:R=(tok,[],ln):=by rw [<-hR];rfl
     rw [this];exact x'.ext (P:=λj=>j=H.length) (PP.set _ _ Z) λj h1 h2 h3=>YF.mpr h2 (h3▸nk)
 | cons y r=>
   have hy:=h1 y (.head _);simp only [List.headD_cons,List.tail_cons,Xf] at *;refine .inr ⟨xl hy,ah 3 Z (be 3 _ Z) ?_⟩;generalize hS:({S with heap:=H'}.put 3 (.str y))=ai;have g1:GI n H.length ai tok:=hS▸g.put3 _ _;have Vz:ai.loc.lookup 3=AN (.str y):=hS▸sq _ _ _;have x1:LX ai.heap l.cL n r (nl y ln) []:=hS▸x';have JP:ai.heap[H.length]?=AN (EM l n):=hS▸DP;have e1:PP H ai.heap (dP n):=hS▸e';have Lz:∀z∈r,z.length=1:=λz hz=>h1 z (.tail _ hz);have y6:(if Cs y then cG .top r (nl y ln) tok else if y=="\"" then cG .xk r (nl y ln) tok else if y=="\\" then cG .tA r (nl y ln) tok else cG .unq r (nl y ln) (tok++y))=R:=hR;refine ae (b9 (bp (ab 3 Z Vz (bj (ab 0 Z g1.self (br W.B l.cL k3.2.2 k3.2.1 x1.lex (v:=.str jg) Z (λJ q=>by cases q) (yo (ba ?_))))))));cases hw:(!(u3 jg y 0 jg.length 1).isEmpty) with
   | true =>have KQ:Cs y=Wn:=hw;refine ae (wt ?_);rw [KQ] at y6;exact lY g1 x1 JP e1 (dg (WQ (N6 _) _) hl) Lz y6 (uA hj)
   | false=>
     have KQ:Cs y=Wp:=hw;rw [KQ] at y6;simp only [mQ,if_false] at y6 ⊢;refine aD (ae (b9 (bp (ab 3 Z Vz (dw (nh (ba ?_)))))));cases hq:(y==("\"":Str)) with
     | true=>
       rw [hq] at y6;simp only [if_true] at y6 ⊢;refine ae (rX (n:=m+2) (f:=l.read) (self:=.ref (n+5)) (snt:="") Z (by show m+2+1<=m+3;exact uv) W.read.fnAt ?_);refine ab 2 Z g1.it ⟨H.length,Z,(cj _ JP),(Bt l n H.length H R .xk),r.length,(.inl ⟨r,nl y ln,tok,g1,x1,JP,e1,dg (WQ (N6 _) _) hl,Lz,Z,y6⟩),(λj' S' G7=>su W be nk wT .xk .y5 (by simp) (.inl ⟨Z,Z⟩) (λj2 S2 y2 LB Wc y7 y8 g2 x2 JQ e2 nN h2 Ae FJ Hw=>?_) (λS3 d3=>aD (aD ⟨0,hj▸OA (WO (GH 0) _),.inr d3⟩)) j' S' G7)⟩;have jh:(if y2=="\"" then (y7,LB,Wc) else if y2=="\\" then cG .y5 LB Wc y7 else cG .xk LB Wc (y7++y2))=R:=by rw [<-Hw];simp only [Hu,Hv,Ah]
       refine ae (b9 (bp (ab 3 Z y8 (dw (nh (ba ?_))))));cases B5:(y2==("\"":Str)) with
       | true =>rw [B5] at jh;simp only [if_true] at jh ⊢;refine ae (bt (ab 1 Z g2.tok ?_));subst jh;exact (aV Z x2 e2)
       | false=>
         rw [B5] at jh;simp only [mQ,if_false] at jh ⊢;refine ae (b9 (bp (ab 3 Z y8 (dw (nh (ba ?_))))));cases Bg:(y2==("\\":Str)) with
         | true =>rw [Bg] at jh;simp only [if_true] at jh ⊢;refine ae (vw W be nk wT g2 x2 (v8 nN) JQ e2 (λH3 x3 JR e3=>XZ (pV h2) λq1 q2=>aD (aD (ae (ff 1 Z (g2.put3 _ _).tok (be 1 _ Z) (ab 3 Z (sq _ _ _) (i9 (by simp only [Wo];exact v9 nN q1) ?_)))))) (by rfl));refine aD (lY ((g2.put3 _ _).Bs _) x3 JR e3 (by rw [Ct];exact wa nN q2) (λz hz=>h2 z (YJ hz)) (by rw [<-EP];exact jh) (by simp;exact alM FJ))
         | false =>rw [Bg] at jh;simp only [mQ,if_false] at jh ⊢;refine aD (aD (ae (ff 1 Z g2.tok (be 1 _ Z) (ab 3 Z y8 (i9 (by simp only [Wo];exact uJ nN) ?_)))));refine aD (lY (g2.Bs _) x2 JQ e2 (by rw [Ct];exact uI nN) h2 jh FJ)
     | false=>
       rw [hq] at y6;simp only [mQ,if_false] at y6 ⊢;refine ae (wo (K':=aad l n H.length H R tok j) (b9 (bp (ab 3 Z Vz (dw (nh (ba ?_)))))) λfl ai ⟨efl,Jg,Vy,Ms,aae,g4,x4,U4,e4,hl4,hy4,h4,hj4,hR4⟩=>?_)
       . cases Bg:(y==("\\":Str)) with
         | true =>rw [Bg] at y6;simp only [if_true] at y6 ⊢;exact XZ (pV Lz) λq1 q2=>ae (vw W be nk wT g1 x1 (dg (bJ (N6 _) (cA ..)) hl) JP e1 (λH3 x3 JR e3=>aD ⟨Z,r.tail,_,r.headD "",sq _ _ _,g1.put3 _ _,x3,JR,e3,dg (WQ (Xj q2) _) hl,q1,λz hz=>Lz z (YJ hz),by simp;exact hj▸C3 (Zd _ 1),by rw [<-xm];exact y6⟩) (by rfl))
         | false =>rw [Bg] at y6;simp only [mQ,if_false] at y6 ⊢;exact aD ⟨Z,r,_,y,Vz,g1,x1,JP,e1,ar hy▸hl,WH hy,Lz,uA hj,y6⟩
       refine rE efl (ae (ff 1 Z g4.tok (be 1 _ Z) (ab 3 Z aae (i9 (by simp only [Wo];exact uJ hl4) ?_))));refine ae (rX (n:=m+2) (f:=l.read) (self:=.ref (n+5)) (snt:="") Z (by show m+2+1<=m+3;exact uv) W.read.fnAt ?_);refine ab 2 Z (g4.Bs _).it ⟨H.length,Z,(cj _ U4),(Bt l n H.length H R .unq),Jg.length,(.inl ⟨Jg,Vy,tok++Ms,g4.Bs _,x4,U4,e4,by rw [Ct];exact uI hl4,h4,Z,hR4⟩),(λj' S' G7=>?_)⟩;refine su W be nk wT .unq .tA (by simp) (.inr ⟨Z,Z⟩) (λj2 S2 y2 LB Wc y7 y8 g2 x2 JQ e2 nN h2 Ae FJ Hw=>?_) (λS3 d3=>aD (aD ⟨0,hj▸OA (WO (GH 0) _),.inr d3⟩)) j' S' G7;have jh:(if Cs y2 then (y7,LB,Wc) else if y2=="\\" then cG .tA LB Wc y7 else cG .unq LB Wc (y7++y2))=R:=by rw [<-Hw];simp only [Hu,Hv,Ah]
       refine ae (b9 (bp (ab 3 Z y8 (bj (ab 0 Z g2.self (br W.B l.cL k3.2.2 k3.2.1 x2.lex (v:=.str jg) Z (λJ q=>by cases q) (yo (ba ?_))))))));cases hw2:(!(u3 jg y2 0 jg.length 1).isEmpty) with
       | true =>have LC:Cs y2=Wn:=hw2;rw [LC] at jh;simp only [if_true] at jh ⊢;exact ae (bt (ab 1 Z g2.tok (jh▸(aV Z x2 e2))))
       | false=>
         have LC:Cs y2=Wp:=hw2;rw [LC] at jh;simp only [mQ,if_false] at jh ⊢;refine ae (b9 (bp (ab 3 Z y8 (dw (nh (ba ?_))))));cases Bg:(y2==("\\":Str)) with
         | true =>rw [Bg] at jh;simp only [if_true] at jh ⊢;refine ae (vw W be nk wT g2 x2 (v8 nN) JQ e2 (λH3 x3 JR e3=>XZ (pV h2) λq1 q2=>aD (aD (ae (ff 1 Z (g2.put3 _ _).tok (be 1 _ Z) (ab 3 Z (sq _ _ _) (i9 (by simp only [Wo];exact v9 nN q1) ?_)))))) (by rfl));refine aD (lY ((g2.put3 _ _).Bs _) x3 JR e3 (by rw [Ct];exact wa nN q2) (λz hz=>h2 z (YJ hz)) (by rw [<-xm];exact jh) (by simp;exact alM FJ))
         | false =>rw [Bg] at jh;simp only [mQ,if_false] at jh ⊢;refine aD (aD (ae (ff 1 Z g2.tok (be 1 _ Z) (ab 3 Z y8 (i9 (by simp only [Wo];exact uJ nN) ?_)))));refine aD (lY (g2.Bs _) x2 JQ e2 (by rw [Ct];exact uI nN) h2 jh FJ)
theorem ER (W:VW c mg mb Kf l){signs push:bD}(x:LX H l.cL n signs line (p::push))(hl:push.length<1000)(m:Nat): bQ c (m+1) (.ref l.get) [.ref (n+5)] H (λv H'=>v=.str p/\H'=H.set (n+6) (.list (push.map .str))):=by
 refine W.get.fu W.B.toBase (n:=m) ["self"] EN [(0,.ref (n+5))] (λJ J=>Z) Z Z (by decide +kernel) λenv own frames be kq=>?_;have k4:=aA W.a4;refine ae (b9 (i7 (bj (ab 0 Z Z (br W.B l.cL k4.2.2 k4.2.1 x.lex (v:=.ref (n+6)) Z (λJ q=>by cases q) (oB (.inr (af (n+6) Z x.pb)) (by simp;exact dh (alE hl) Z) ?_))))));simp only [WW,List.isEmpty_cons,Bool.not_false,if_true];refine ae (bt (cq "list" "list.pop" M1 sy A7 (bj (ab 0 Z Z (br W.B l.cL k4.2.2 k4.2.1 x.lex (v:=.ref (n+6)) Z (λJ q=>by cases q) ⟨gO x.pb Z,aw (aE (zM (j:=0) x.pb (by simp [Wo];exact il hl Z) ?_ Z (by decide) (by decide) ⟨Z,Z⟩))⟩)))));exact seqIndex_of (by decide) (by simp)
theorem ji {H L:aR}(i:Nat):(H++L)[H.length+i]?=L[i]?:=by refine aa (ij (cA _ _)) ?_;congr 1;exact ahp ..
theorem vy {H L:aR}(i:Nat)(v:AO):(H++L).set (H.length+i) v=H++L.set i v:=by simp
theorem xn (W:VW c mg mb Kf l)(H:aR)(fp:AV)(m:Nat): bQ c (m+1) (.ref l.init) [.ref (H.length+1),fp] (H++[.aN [],.inst l.cL H.length]) (λv H'=>v=.none/\H'=H++[.aN (fS 1 fp (H.length+2)),.inst l.cL H.length,.list []]):=by
 refine W.init.fu W.B.toBase ["self","fp"] ["self","fp"] [(0,.ref (H.length+1)),(1,fp)] (λJ J J=>Z) Z Z (Z) λenv own frames be kq=>?_;obtain B4:∀(lc:d7) (kvs:gh) (l':aR),gR ⟨lc,H++(.aN kvs::.inst l.cL H.length::l')⟩ (H.length+1) H.length l.cL kvs:=λlc kvs l'=>⟨by refine aa (ji 1) ?_;rfl,by obtain this:=ji 0;simpa using this⟩
 obtain st0:∀(kvs yk:gh) (l':aR),(H++(.aN kvs::.inst l.cL H.length::l')).set H.length (.aN yk)=H++(.aN yk::.inst l.cL H.length::l'):=λkvs yk l'=>vy 0 _;refine ae (aj (aE (cE (ab 0 Z Z (df W.B l.cL (aA W.a1).1 (B4 _ [] []) (J4 Z) ?_)))));rw [st0];refine ae (aj (ab 1 Z Z (cE (ab 0 Z Z (df W.B l.cL (aA W.a2).1 (B4 _ _ _) (J4 Z) ?_)))));rw [st0];refine ae (aj (dw (cE (ab 0 Z Z (df W.B l.cL (aA W.a3).1 (B4 _ _ _) (J4 Z) ?_)))));rw [st0];refine ae (aj (iS (cn ⟨by simp,cE (ab 0 Z Z (df W.B l.cL (aA W.a4).1 (kvs:=ct (ct (ct [] "lineno" (.int 1)) "instream" fp) "whitespace" (.str jg)) (d:=H.length) ?_ (J4 Z) ?_))⟩)))
 . refine ⟨?_,?_⟩
   . rewrite [MW]
     refine aa (ji 1) ?_;rfl
   . obtain this:=ji 0;rw [MW];simpa using this
 refine aD ⟨Z,?_⟩;rw [MW];refine (vy 0 _).trans ?_;obtain this:(H++[AO.aN (ct (ct (ct [] "lineno" (.int 1)) "instream" fp) "whitespace" (.str jg)),.inst l.cL H.length]).length=H.length+2:=by simp
 refine aa this ?_;rfl
noncomputable abbrev oV (cL n:Nat)(signs:bD):aR:=[.list (signs.reverse.map .str),.aN (fS 1 .none (n+3)++[(("read":Str),AV.fn 0 [(("signs":Str),AV.ref n)])]),.inst cL (n+1),.list [],.aN (fS 1 (.ref (n+2)) (n+6)),.inst cL (n+4),.list []]
theorem sz (H:aR)(cL:Wr)(signs:bD):LX (H++oV cL H.length signs) cL H.length signs 1 []:=by refine ⟨?_,by refine rE (ji 1) ?_;rfl,by refine aa (ji 2) ?_;rfl,by refine aa (ji 4) ?_;rfl,by refine aa (ji 5) ?_;rfl,by refine aa (ji 6) ?_;rfl⟩;simpa using this
theorem xo (W:VW c mg mb Kf l)(hf:rV c fa so .none "_law_lexer" cc P (λJ=>"_law_lexer.<locals>._law_piece"))(hb:rT c mg)(s4:dR mg mb "list" (.type "list"))(H:aR)(x:Str)(hx:x.cps.size<=1000)(m:Nat): bQ c (m+3) (.ref fa) [.str x] H (λv H'=>v=.ref (H.length+5)/\H'=H++oV l.cL H.length (gr x)):=by
 refine hf.fu W.B.toBase ["text"] ["text","signs","stream","_law_piece"] [(0,.str x)] (λJ J=>Z) Z Z (by decide +kernel) (by decide +kernel) λenv own frames be kq jT Re Rs=>j6 (aj (pN (bS (.type "list") (bY W.B.toBase (by rfl) s4.1 s4.2 ⟨Z,aw (ab 0 Z Z (adH Z (by simp [Wo];exact zy hx) (.inl ?_)))⟩))));refine aa (adJ _) (lK (aE (i6 (nZ (-1) Z _ (.inl Z) (by simp) (by simp [gr,Wo];exact zy hx) (.inr ?_)))));refine aa (t5 _) (az aji (ah 1 Z (be 1 _ Z Z) (j6 (aj (oH W.B l.cL W.keep Z (bP _) (iQ W.B.toBase (by rfl) W.g ⟨Z,aw (fM (bQ.cls W.B W.mkL W.EG ((xn W (H++[.list ((gr x).reverse.map .str)]) .none m).mono λv H' aaf=>XZ aaf λe1 e2=>⟨e1,rE e2 (ah 2 Z (be 2 _ Z Z) ?_)⟩)))⟩))))));have hn:(H++[AO.list ((gr x).reverse.map .str)]).length=H.length+1:=by simp
 refine aa hn (aga 1 Z Z (Z) λds kL GA aag=>?_);have hq:env.qual++("_law_piece":Str)="_law_lexer.<locals>._law_piece":=by refine aa Re ?_;decide +kernel
 refine j6 (agN W.B.toBase hb 0 3 [(1,"signs",.ref H.length)] jT hf.tab hq Rs (pB Z Z GA (.inl (by rfl)) trivial) (show VI vr.scope ["signs"]=Wn by decide +kernel) W.site Z (aag "_law_piece" (by decide) (be 3 _ Z Z)) ?_);rw [MW];generalize hsg:AO.list ((gr x).reverse.map .str)=sg;have B4:∀(lc:d7),gR ⟨lc,H++([sg]++[.aN (fS 1 .none (H.length+1+2)),.inst l.cL (H.length+1),.list []])⟩ (H.length+2) (H.length+1) l.cL (fS 1 .none (H.length+3)):=λlc=>⟨by refine aa (ji 2) ?_;rfl,by refine aa (ji 1) ?_;rfl⟩
 refine j6 (aj (ab 3 Z Z (cE (ab 2 Z Z (df W.B l.cL (aA W.a5).1 (B4 _) (J4 Z) (aa (vy 1 _) (j6 (bt (oH W.B l.cL W.keep Z (bP _) (iQ W.B.toBase (by rfl) W.g ⟨Z,aw (ab 2 Z Z (bQ.cls W.B W.mkL W.EG ((xn W _ _ m).mono λv H' aah=>XZ aah λe1 e2=>(aV e1 ?_ ?_))))⟩))))))))))
 . simp
 . refine aa e2 (hsg▸?_);have hl:(H++([AO.list ((gr x).reverse.map .str)]++[AO.aN (fS 1 .none (H.length+1+2)),.inst l.cL (H.length+1),.list []]).set 1 (.aN (ct (fS 1 .none (H.length+3)) "read" (.fn 0 ([(1,("signs":Str),AV.ref H.length)].map (·.2)))))).length=H.length+4:=by simp
   refine aa hl ?_;rw [MW];rfl
end
abbrev PI (g:Nat->Option AV)(L:d7)(H:aR)(n:Nat):Nat->tI:=λi OB S'=>S'=⟨L,H⟩/\OB=(WG i).filterMap g/\i<=n
section
variable {s s':Gb}{pos:Pos}
theorem Aj (g:Nat->Option AV)(i:Nat):(WG (i+1)).filterMap g=(WG i).filterMap g++(g i).toList:=by refine aa G5 (aa List.filterMap_append ?_);cases h:g i <;> simp [h]
theorem y9 {g:Nat->Option AV}{L:d7}{H:aR}{n i:Nat}(hi:i<n)(h:g i=Wm)(hL:aW S L)(hH:S.heap=H):pI (PI g L H n (i+1) ((WG i).filterMap g)) S:=by subst hH;exact (kz L hL Z (by refine aa (Aj _ _) (aa h ?_);simp) hi)
theorem fT {g:Nat->Option AV}{L:d7}{H:aR}{n i:Nat}{w:AV}(hi:i<n)(h:g i=AN w)(hL:aW S L)(hH:S.heap=H):pI (PI g L H n (i+1) ((WG i).filterMap g++[w])) S:=by subst hH;exact (kz L hL Z (by refine aa (Aj _ _) (aa h ?_);simp) hi)
theorem dA {target Cp:Nn}{kV:cJ}{sc scope:YB}{vars:bD}{fs:List (Nat×Str×AV)}{items:bZ}{live:aR->Prop}{ai:AS}{Kf:bZ->aR->Prop}(g:Nat->Option AV)(gQ:pJ C ai fs)(hsz:items.length<=Wo)(rA:live ai.heap)(VG:∀env own,(∀x,scope.names.lookup x=AN .local\/scope.names.lookup x=AN .cell->bI (yt scope sc env own C.frames C.handled C.n vars) (λJ=>Wm) x)->∀i y,items[i]?=AN y->i<items.length->lR c target Cp kV (yt scope sc env own C.frames C.handled C.n vars) ⟨iG 0 fs,ai.heap⟩ (PI g (iG 0 fs) ai.heap items.length) i ((WG i).filterMap g) y)(k:Kf ((WG items.length).filterMap g) ai.heap):qk c C sc scope vars fs (lR c target Cp kV) items live ai Kf:=by
 have tp:∀i,((WG i).filterMap g).length<=i:=λi=>by have:=List.length_filterMap_le g (WG i);simpa using this
 refine ⟨gQ,λenv own be=>⟨PI g (iG 0 fs) ai.heap items.length,(aV Z Z (Dv _)),?_,?_,?_⟩⟩
 . rintro i OB S' ⟨rfl,rfl,hi⟩;exact ⟨rA,by have:=tp i;exact P5 this hi hsz⟩
 . rintro i y OB S' hy ⟨rfl,rfl,hi⟩;exact VG env own be i y hy (bA hy).1
 . rintro OB S' ⟨rfl,rfl,hi⟩;exact k
end
theorem vz {α β:Type}(p:α->Bool)(f:α->β)(l:List α):l.filterMap (λk=>if p k then AN (f k) else Wm)=(l.filter p).map f:=by
 induction l with
 | nil=>rfl
 | cons x l ih=>
   by_cases h:p x=Wn
   . simp [h,ih]
   . simp [h,ih]
theorem vA {β:Type}(p:Nat->Bool)(f:Nat->β)(ks:au):(WG ks.length).filterMap (λi=>match ks[i]? with | some k=>if p k then AN (f k) else Wm | none=>Wm)=(ks.filter p).map f:=by
 obtain this:∀(ks:au),(WG ks.length).filterMap (λi=>match ks[i]? with | some k=>if p k then AN (f k) else Wm | none=>Wm)=ks.filterMap (λk=>if p k then AN (f k) else Wm):=by
  intro ks;induction ks with
  | nil=>rfl
  | cons k ks ih=>
    refine aa Xf (aa ajM (aa N5 (aa aiA (aa N5 ?_))));obtain e:((λi=>match (k::ks)[i]? with | some k=>if p k then AN (f k) else Wm | none=>Wm) ∘ GH)=(λi=>match ks[i]? with | some k=>if p k then AN (f k) else Wm | none=>Wm):=by funext i;rfl
    refine (ar e)▸(ar ih)▸?_;rfl
 refine aa (this _) ?_;rw [vz]
theorem ints_map (l:au):(l.map λ(n:Nat)=>AV.int n)=(l.map λ(n:Nat)=>(n:Int)).map AV.int:=by refine aa Wu ?_;rfl
theorem pW {α β:Type}(xs:List α)(f:α->β):(WG xs.length).filterMap (λi=>xs[i]?.map f)=xs.map f:=by
 induction xs with
 | nil=>rfl
 | cons x xs ih=>
   refine (ar Xf)▸(ar ajM)▸(ar N5)▸(ar aiA)▸?_;obtain e:((λi=>(x::xs)[i]?.map f) ∘ GH)=(λi=>xs[i]?.map f):=by funext i;rfl
   refine (ar e)▸(ar ih)▸?_;rfl
theorem Bv {α β:Type}(f:α->β)(lo hi st:Option Int)(xs:List α):j7 lo hi st (xs.map f)=(j7 lo hi st xs).map f:=by delta j7;refine aa (Wl _) (aa List.map_filterMap ?_);congr 1;funext i;exact aa aiV Z
theorem xp (l:au):(l.map λ(n:Nat)=>(n:Int)).sum=((l.sum:Nat):Int):=by
 induction l with
 | nil=>rfl
 | cons x l ih=>simp only [WW,amK,amK,ih];exact Uq
noncomputable def gK (p:Nat->Bool)(f:Nat->AV)(ks:au)(i:Nat):Option AV:=match ks[i]? with
 | some k=>if p k then AN (f k) else Wm
 | none=>Wm
theorem vB (p:Nat->Bool)(f:Nat->AV)(ks:au):(WG ks.length).filterMap (gK p f ks)=(ks.filter p).map f:=vA p f ks
theorem lZ {p:Nat->Bool}{f:Nat->AV}{ks:au}{i k:Nat}(h:ks[i]?=AN k):gK p f ks i=if p k then AN (f k) else Wm:=by delta gK;exact aa h Z
noncomputable def l0:mK:=dO jw 13
noncomputable def qC:mK:=dO jw 14
noncomputable def iW:mK:=dO jw 15
noncomputable def vC:mK:=dO jw 16
noncomputable def eX:mK:=dO jw 17
noncomputable def pX:mK:=dO jw 18
noncomputable def l4:mK:=dO jw 19
noncomputable def ix:mK:=dO jw 20
noncomputable def xq:au:=[1,2,4,8]
noncomputable def aG (Cj:Nat):au:=(xq.filter λb=>Cj / b % 2 != 0).map λb=>Cj-b
theorem ES {c:aZ}{C:Cx}{S:AS}{X:cR}{i:Int}{K:Bool->dp}(k:K (i != 0) S):Tr c C (.int i) S K X:=λA F bs s r hA z hv=>by refine Ml hv.inv λt o2=>?_;obtain rfl:=o2;exact WP.kept z λQ E q=>amY (q _ _ (.refl ..) (af _ Z k))
section
variable {pos:Pos}
theorem oW (B:Base c mg mb)(hf:fk c fa l0 .none)(Cj:Nat)(hl:Cj<16)(m:Nat): bQ c (m+1) (.ref fa) [.int Cj] [] (λv J=>v.under 0=Wn/\v=.lst ((aG Cj).map λ(n:Nat)=>AV.int n)):=by
 refine hf.fu B ["face"] ["face"] [(0,.int Cj)] (λJ J=>Z) Z Z (by decide +kernel) λenv own frames be kq=>?_;refine ae (bt (gA (sc:=l0.scope) ["face","bit"] [(0,"face",.int Cj)] Z (aV Z Z trivial) (show dj _ _ ["face"] _=Wn by decide +kernel) (oq (jV (bG (aE (bG (aE (bG (aE (aw (aE (qZ (by simp [Wo]) _ Z ?_)))))))))))));have el:([AV.int 1,.int 2,.int 4,.int 8]:bZ)=xq.map λ(n:Nat)=>AV.int n:=rfl;refine aa el ?_;refine dA (gK (λb=>Cj / b % 2 != 0) (λb=>AV.int ((Cj-b:Nat):Int)) xq) (aV Z Z trivial) (by simp [Wo,xq]) trivial (λoS ds fG i y hy hi=>?_) ?_
 . rw [bV] at hy;refine Va (gW hy) λb hb o1=>?_;obtain rfl:=o1;have hb0:b≠0/\b<=8:=by have:=bO hb;simp only [xq,JU,rH,or_false] at this;exact QO this
   refine ah 1 Z (fG _ (.inl Z)) ?_;refine i7 (bF (bF (ab 0 Z Z (ab 1 Z Z (pD (QR hb0) (GK (QS hb0)) (aE (ng (by decide) (ES ?_))))))));have e1:(((Cj:Int).fdiv (b:Int)).fmod 2 != 0)=(Cj / b % 2 != 0):=by refine aa (aiG _ (Ja)) (aa (aiH _ (by decide)) (aa (show ((Cj:Int) / (b:Int))=((Cj / b:Nat):Int) from Z) (bb yz (bb bne_iff_ne (bb bne_iff_ne ?_)))));exact ZD
   refine aa e1 ?_;cases hc:(Cj / b % 2 != 0) with
   | false=>exact y9 hi (by refine aa (lZ hb) (aa hc ?_);rfl) (aW.of Z) Z
   | true=>
     refine bF (ab 0 Z Z (ab 1 Z Z (lL ?_)));have VX:b<=Cj:=by
      by_cases q:Cj<b
      . rw [Nat.div_eq_of_lt q] at hc;cases hc
      . exact Lv q
     refine fT hi ?_ (aW.of Z) Z;refine aa (lZ hb) (aa hc ?_);exact aa (akN VX) Z
 refine aa (Wl _) ?_;rw [vB];refine .inl ⟨?_,?_⟩
 . simp only [FH];have:∀l:au,AV.bX 0 (l.map λb=>AV.int ((Cj-b:Nat):Int))=Wn:=λl=>by induction l with
    | nil=>rfl
    | cons x l ih=>exact yi.mpr ⟨Z,ih⟩
   exact this _
 . unfold aG;refine aa Wu ?_;rfl
end
structure OS where
 aq:List Nd
 ready:List Int
 bq:Int
 fin:Int
 wait:List Int
 ord:List Int
noncomputable def Ak (numbers:au)(k:Nat):Nat:=numbers.getD (k % 8) 0 / 10 ^ (k / 8)
noncomputable def gT (numbers:au)(s:OS):Nat:=Ak numbers s.ord.length % (s.wait++s.ready).length
noncomputable def dY (numbers:au)(s:OS):Int:=(s.wait++s.ready).getD (gT numbers s) 0
noncomputable def goO (numbers:au)(s:OS):OS:=
 ⟨(fx (outs s.aq s.ready) [] (dY numbers s)).1,(fx (outs s.aq s.ready) [] (dY numbers s)).2,s.bq+s.ready.length,s.fin+1,(s.wait++s.ready).eraseIdx (gT numbers s),s.ord++[dY numbers s]⟩
noncomputable def qD (numbers:au)(s:OS):Nat->OS
 | 0=>s
 | k+1=>goO numbers (qD numbers s k)
noncomputable def jJ (Cj:Nat):List Int:=(aG Cj).map λ(n:Nat)=>(n:Int)
noncomputable def nF:Nat->List Nd
 | 0=>[]
 | k+1=>fQ (nF k) (k:Int) (jJ k)
noncomputable def O0:OS:=⟨nF 16,dF (nF 16),0,0,[],[]⟩
structure Uy (c:aZ)(mg mb:eI)(Kf:DW)(a:qU):Prop where
 W:vi c mg mb Kf a
 Jh:∃t o tn,fk c a.t6 qT (.ref t)/\c.h₀.get? t=AN o/\o.cls≠.none/\o.data=.seq #[.none] tn
 t7:dR mg mb "set" (.type "set")
 t8:dR mg mb "iter" (.builtin "iter")
 jK:dR mg mb "len" (.builtin "len")
 Ji:dR mg mb "StopIteration" (.type "StopIteration")
 Jj:dR mg mb "bool" (.type "bool")
 ET:dR mg mb "tuple" (.type "tuple")
 hX:dR mg mb "range" (.type "range")
 out:∃tk,mg "_NODE_OUT"=AN (.int (-1) tk)
 done:∃tk,mg "_NODE_DONE"=AN (.int (-2) tk)
theorem SR.ext {a:qU}{H H':aR}{d r:Nat}{ns:au}{aq:List Nd}{ready:List Int}{bq fin:Int}{P:Nat->Prop}(h:SR H a d ns aq r ready bq fin)(e:PP H H' P)(hP:∀j,(j=d\/j=d+1\/j=r\/∃n∈ns,j=n\/j=n+1\/j=n+2)->¬P j):SR H' a d ns aq r ready bq fin:=by have g:∀{j o},¬P j->H[j]?=AN o->H'[j]?=AN o:=λhj q=>(e.same _ (bA q).1 hj).trans q;refine ⟨g (hP _ (.inr (.inl Z))) h.inst,g (hP _ (.inl Z)) h.dict,g (hP _ (.inr (.inr (.inl Z)))) h.list,⟨h.nodes.len,λi n x h1 h2=>?_,h.nodes.low,h.nodes.gap⟩,h.names,h.xh,h.Lc⟩;have q:=h.nodes.at_ i n x h1 h2;have m:=bO h1;exact ⟨g (hP _ (.inr (.inr (.inr (af n m (.inl Z)))))) q.dict,g (hP _ (.inr (.inr (.inr (af n m (.inr (.inl Z))))))) q.slots,g (hP _ (.inr (.inr (.inr (af n m (.inr (.inr Z))))))) q.list⟩
noncomputable abbrev cP (l:au):AV:=.lst (l.map λ(n:Nat)=>.int n)
noncomputable abbrev xr:bD:=["numbers","sorter","face","order","waiting","draw"]
noncomputable def Bw (s:OS):Bool:=decide (s.fin<s.bq)||!s.ready.isEmpty
structure OkO (numbers:au)(s:OS):Prop where
 act:Bw s=Wn
 rin:∀y∈s.ready,y∈s.aq.map (·.1)
 rl:s.ready.length<100
 wl:s.wait.length<100
 ol:s.ord.length<16
 ne:gT numbers s<(s.wait++s.ready).length
 xin:dY numbers s∈s.aq.map (·.1)
 out:gE (outs s.aq s.ready) (dY numbers s)=-1
 suc:∀x∈c8 (outs s.aq s.ready) (dY numbers s),x∈s.aq.map (·.1)
 sl:(c8 (outs s.aq s.ready) (dY numbers s)).length<100
structure LD (numbers:au):Prop where
 n8:numbers.length=8
 rk:∃rk:Int->Nat,∀y∈nF 16,∀s∈y.2.2,s∈(nF 16).map (·.1)/\rk y.1<rk s
 nl:∀k,k<=16->(nF k).length<100
 sl:∀k,k<=16->fw (nF k) 100
 step:∀k,k<16->OkO numbers (qD numbers O0 k)
 fin:Bw (qD numbers O0 16)=Wp
 frl:(qD numbers O0 16).ready.length<1000
theorem aW.Hx (h:aW S L)(hi:L.all (λp=>p.1 != i)=Wn):aW (S.put i v) L:=by
 induction L with
 | nil=>trivial
 | cons p r ih=>
   simp only [akK,fA,bne_iff_ne,ne_eq] at hi;refine ⟨?_,ih h.2 hi.2⟩
   rewrite [aQ]
   exact aa (if_neg hi.1) h.1
theorem aW.heap (h:aW S L)(H:aR):aW {S with heap:=H} L:=by
 induction L with
 | nil=>trivial
 | cons p r ih=>exact ⟨h.1,ih h.2⟩
theorem t9 (k:Nat):(jJ k).length<=4:=by unfold jJ aG;exact aa (Wl _) (aa (Wl _) (XH _ _))
section
variable {a:qU}{pos:Pos}
theorem EU {K K':tI}(h:pz c C pos es S K' X)(hk:∀f S,K' f S->K f S):pz c C pos es S K X:=λA F bs s hA z=>(h A F bs s hA z).mono hk λJ J q=>q
inductive Uz (c:aZ)(n:Nat)(fa:Wr)(K:cu)(vs:bZ)(S:AS):Prop
 | mk (hu:AV.bX 0 vs=Wn) (r:AV) (hc:bQ c n (.ref fa) vs [] (λv J=>v.under 0=Wn/\v=r)) (k:K r S)
theorem l5 {f:Str}{fp:Pos}{fa:Wr}{args:cJ}{n:Nat}(B:Base c mg mb)(hh:C.handled=Wm)(hn:n<=C.n)(hk:C.env.kindOf f=AN .globalImplicit)(hg:mg f=AN (.ref fa))(qz:FnAt c fa)
 (h:pz c C pos args S (Uz c n fa K) X)
 (hd:(f==("__debug__":Str))=Wp:=by decide +kernel)
 (he:eval (.Call (.Name f fp) args [] pos) C.env=(do YS pos (<-eval (.Name f fp) C.env) [] (W3 pos (M4 args C.env)) (DN pos (Xk [] C.env))):=by rfl)
 (hl:mU (W3 pos (M4 args C.env))=Wp:=by rfl):Ev c C (.Call (.Name f fp) args [] pos) S K X:=
 jU hh hn (iQ B hk hg (aU fa Z qz (EU h λvs ai q4=>q4.casesOn λhu P hc k=>(bQ.hide hc hu).mono λv H' q5=>XZ q5 λe p=>by clear q5 hc;subst e p;exact k)) hd) he hl
structure oX (a:qU)(H:aR)(ns:au)(r o:Nat)(s:OS):Prop where
 sr:SR H a 0 ns s.aq r s.ready s.bq s.fin
 ord:H[o]?=AN (.list (s.ord.map .int))
 wait:H[o+1]?=AN (.list (s.wait.map .int))
 ro:r<o
theorem oX.far {H:aR}{ns:au}{r o:Nat}{s:OS}(h:oX a H ns r o s):∀n∈ns,n+3<=o:=λn hn=>Xw (aio (h.sr.Lc n hn) h.ro)
theorem oX.not {H:aR}{ns:au}{r o:Nat}{s:OS}(h:oX a H ns r o s)(j:Nat)(hj:j=o\/j=o+1):¬fY 0 ns r j:=λq=>by
 have h1:=h.ro;have h2:=h.sr.xh;rcases q with q | q | q | ⟨n,hn,q⟩
 . exact PZ h1 q hj
 . exact SQ h2 h1 q hj
 . exact yW h1 q hj
 . have:=h.far n hn;exact Jc this q hj
theorem oX.set {H:aR}{ns:au}{r o:Nat}{s:OS}(h:oX a H ns r o s)(x:AO)(j:Nat)(hj:j=o\/j=o+1):SR (H.set j x) a 0 ns s.aq r s.ready s.bq s.fin:=by
 refine h.sr.ext (P:=λi=>i=j) (PP.set j x Z) λi hi e=>?_;subst e;have h1:=h.ro;have h2:=h.sr.xh;rcases hi with q | q | q | ⟨n,hn,q⟩
 . exact PZ h1 q hj
 . exact SP h2 h1 q hj
 . exact yW h1 q hj
 . have:=h.far n hn;exact S0 this q hj
end
structure Bx where
 gF:Wr
structure LF (c:aZ)(mg mb:eI)(Kf:DW)(a:qU)(b:Bx):Prop where
 G:Uy c mg mb Kf a
 gF:fk c b.gF l0 .none
 kO:mg "_law_sides"=AN (.ref b.gF)
noncomputable abbrev qE (numbers:au)(o:Nat):d7:=[(0,cP numbers),(1,.ref 1),(3,.ref o),(4,.ref (o+1))]
section
variable {a:qU}{b:Bx}{pos:Pos}
theorem l6 (x y:Nat):(x:Int).fdiv (y:Int)=((x / y:Nat):Int):=by refine aa (aiG _ (Gm y)) ?_;rfl
theorem l7 (x y:Nat):(x:Int).fmod (y:Int)=((x % y:Nat):Int):=by refine aa (aiH _ (Gm y)) ?_;rfl
theorem vD {i n:Nat}(h:i<n):Y8 (i:Int) n=AN i:=by
 have h2:(decide ((0:Int)<=(i:Int))&&decide ((i:Int)<(n:Int)))=Wn:=by exact aa (ajc _ _) (bb decide_eq_true_iff (bb decide_eq_true_iff (R9 h)))
 unfold Y8;simp only [Rf,if_false,h2,if_true,Gf]
theorem EV (G:LF c mg mb Kf a b){env:Env}{own:aJ}{frames:List Env}{m:Nat}(be:Stores (jD qC env own frames (m+6) xr)){numbers:au}(n8:numbers.length=8){ns:au}{r o:Nat}{s:OS}{S:AS}(hL:aW S (qE numbers o))(ri:oX a S.heap ns r o s)(ok:OkO numbers s){body:fW}(hb:body=jd qC.body 4): Ex c (jD qC env own frames (m+6) xr) body S (λfl S'=>fl=.next/\aW S' (qE numbers o)/\oX a S'.heap ns r o (goO numbers s)) fy:=by
 subst hb;have hB:=G.G.W.B.toBase;refine Ml G.G.out λtk hO=>Ml G.G.done λtk2 hD=>?_;refine ae (ff 4 Z (hL.at 4 _ Z) (be 4 _ Z) (dk G.G.W.B a.cS a.ready G.G.W.Eb Z (n:=m+1) (by show m+1<=m+6;exact Vx) (ab 1 Z (hL.at 1 _ Z) ⟨1,0,_,Z,⟨ri.sr.inst,ri.sr.dict⟩,Z,cn ?_⟩) (Z) (by rfl) (by rfl) (by rfl)));refine (akn G.G.W G.G.ET G.G.jK hO ri.sr ok.rin (by have:=ok.rl;exact Pw this) m).mono λv H1 q=>?_;refine RR q λo2 sr1 e1=>?_;clear q;obtain rfl:=o2;have w1:H1[o+1]?=AN (.list (s.wait.map .int)):=(e1.same _ (bA ri.wait).1 (ri.not (o+1) (.inr Z))).trans ri.wait;have o1:H1[o]?=AN (.list (s.ord.map .int)):=(e1.same _ (bA ri.ord).1 (ri.not o (.inl Z))).trans ri.ord;refine EF w1 (by refine aa (Wl _) (aa (Wl _) ?_);have:=ok.rl;have:=ok.wl;simp only [Wo];exact RN this ‹_›) ?_;refine az C5 ?_;have Bm:oX a (H1.set (o+1) (.list ((s.wait++s.ready).map .int))) ns r o {s with aq:=outs s.aq s.ready,ready:=[],bq:=s.bq+s.ready.length,wait:=s.wait++s.ready}:=
  ⟨(oX.mk (s:={s with aq:=outs s.aq s.ready,ready:=[],bq:=s.bq+s.ready.length}) sr1 o1 w1 ri.ro).set _ (o+1) (.inr Z),(du (Lm)).trans o1,k0 w1,ri.ro⟩
 generalize H1.set (o+1) (.list ((s.wait++s.ready).map .int))=H2 at Bm;have Mt:∀i v,(qE numbers o).lookup i=AN v->(ck S.loc 4 (.ref (o+1))).lookup i=AN v:=λi v e=>by
  rw [aQ];by_cases q:i=4
  . subst q;exact aa (if_pos Z) (e.symm▸Z)
  . exact aa (if_neg q) (hL.at i v e)
 refine bo (qE numbers o) (pB (Mt 0 _ Z) (Mt 1 _ Z) (Mt 3 _ Z) (Mt 4 _ Z) trivial) ?_;show Ex c (jD qC env own frames (m+6) xr) _ ⟨qE numbers o,H2⟩ _ fy;have B2:(s.ord.map AV.int).length=s.ord.length:=Wl ..;have Io:=G.G.jK;have hn:numbers[s.ord.length % 8]?=AN (numbers.getD (s.ord.length % 8) 0):=by refine aa WE (aa (cm (by rw [n8];exact P7)) ?_);rfl
 refine ae (aj (bF (bH (ab 0 Z Z (bF (bS (.builtin "len") (bY hB (by rfl) Io.1 Io.2 ⟨Z,aw (ab 3 Z Z (kH (.inr (af o Z Bm.ord)) (by refine aa B2 ?_;have:=ok.ol;exact Px this) ?_))⟩)))))));refine aa B2 (aE (ng (by decide) (aa (show ((s.ord.length:Int)).fmod 8=((s.ord.length % 8:Nat):Int) from l7 _ 8) ⟨fh (.inl Z),iT (y:=.int (numbers.getD (s.ord.length % 8) 0)) (.inl Z) (ZJ) (ZC) (by refine aa (Gf _) (aa bV (aa hn ?_));rfl) ?_⟩)));refine bF (aE (bF (bS (.builtin "len") (bY hB (by rfl) Io.1 Io.2 ⟨Z,aw (ab 3 Z Z (kH (.inr (af o Z Bm.ord)) (by refine aa B2 ?_;have:=ok.ol;exact Px this) ?_))⟩))));refine aa B2 (aE (pD (by decide) (GK (by decide)) (aa (show ((s.ord.length:Int)).fdiv 8=((s.ord.length / 8:Nat):Int) from l6 _ 8) (CQ (ZK) (by have:=ok.ol;exact Qn this) (by decide) ?_))));have Oo:((10:Int) ^ ((s.ord.length / 8:Nat):Int).toNat)=((10 ^ (s.ord.length / 8):Nat):Int):=by refine aa (Gf _) ?_;simp
 refine aa Oo ?_;have h01:10 ^ (s.ord.length / 8)=1\/10 ^ (s.ord.length / 8)=10:=by
  have:s.ord.length / 8=0\/s.ord.length / 8=1:=by have:=ok.ol;exact Qv this
  rcases this with h | h <;> refine aa h ?_
  . exact .inl Z
  . exact .inr Z
 refine pD (by rcases h01 with h | h <;> refine aa h ?_ <;> decide) (GK (by rcases h01 with h | h <;> refine aa h ?_ <;> decide)) ?_;refine aa (l6 _ _) (ah 5 Z (be 5 _ Z) ?_);show Ex c (jD qC env own frames (m+6) xr) _ ⟨qE numbers o++[(5,.int (Ak numbers s.ord.length:Nat))],H2⟩ _ fy;have VA:=ok.ne;have Bn:(s.wait++s.ready).length<200:=by refine aa Nc ?_;have:=ok.rl;have:=ok.wl;exact RM this ‹_›
 have Hy:((s.wait++s.ready).map AV.int).length=(s.wait++s.ready).length:=Wl ..;refine ae (cw (cq "list" "list.append" M1 Gk Dq (ab 3 Z Z ⟨gO Bm.ord Z,aw (cq "list" "list.pop" M1 sy A7 (ab 4 Z Z ⟨gO Bm.wait Z,aw (bF (ab 5 Z Z (bS (.builtin "len") (bY hB (by rfl) Io.1 Io.2 ⟨Z,aw (ab 4 Z Z (kH (.inr (af (o+1) Z Bm.wait)) (by refine aa Hy ?_;exact QI Bn) ?_))⟩))))⟩))⟩)) (Z));refine aa Hy (ng (R8 VA) (aa (l7 _ _) ?_));show eJ c _ _ [_,.int ((gT numbers s:Nat):Int)] _ _ _;have hx:(s.wait++s.ready)[gT numbers s]?=AN (dY numbers s):=by unfold dY;refine aa WE (aa (cm VA) ?_);rfl
 refine zM Bm.wait (by refine aa Hy ?_;simp only [Wo];exact QJ Bn) (j:=gT numbers s) (y:=.int (dY numbers s)) ?_ (by refine aa bV (aa hx ?_);rfl) (ZG) (R0 Bn VA) ?_
 . exact aa Hy (vD VA)
 have er:((s.wait++s.ready).map AV.int).eraseIdx (gT numbers s)=((s.wait++s.ready).eraseIdx (gT numbers s)).map .int:=by
  have:∀(l:List Int) (i:Nat),(l.map AV.int).eraseIdx i=(l.eraseIdx i).map .int:=λl=>by
   induction l with
   | nil=>intro i;rfl
   | cons x l ih=>intro i;cases i with
     | zero=>rfl
     | succ i=>simp [ih i]
  exact this _ _
 refine aa er ?_;refine gu ((du (Lm)).trans Bm.ord) (by refine aa B2 ?_;have:=ok.ol;simp only [Wo];exact QA this) ?_;show Ex c (jD qC env own frames (m+6) xr) _ ⟨qE numbers o++[(5,.int (Ak numbers s.ord.length:Nat))],(H2.set (o+1) (.list (((s.wait++s.ready).eraseIdx (gT numbers s)).map .int))).set o (.list (s.ord.map .int++[.int (dY numbers s)]))⟩ _ fy;have Ga:s.ord.map AV.int++[.int (dY numbers s)]=(s.ord++[dY numbers s]).map .int:=by refine aa C5 ?_;rfl
 have B6:oX a ((H2.set (o+1) (.list (((s.wait++s.ready).eraseIdx (gT numbers s)).map .int))).set o (.list (s.ord.map .int++[.int (dY numbers s)]))) ns r o
  ⟨outs s.aq s.ready,[],s.bq+s.ready.length,s.fin,(s.wait++s.ready).eraseIdx (gT numbers s),s.ord++[dY numbers s]⟩:=by
  have x1:oX a (H2.set (o+1) (.list (((s.wait++s.ready).eraseIdx (gT numbers s)).map .int))) ns r o ⟨outs s.aq s.ready,[],s.bq+s.ready.length,s.fin,(s.wait++s.ready).eraseIdx (gT numbers s),s.ord⟩:=
   ⟨Bm.set _ (o+1) (.inr Z),(du (Lm)).trans Bm.ord,k0 Bm.wait,Bm.ro⟩
  exact ⟨x1.set _ o (.inl Z),az Ga (k0 x1.ord),(du (QT)).trans x1.wait,Bm.ro⟩
 generalize (H2.set (o+1) (.list (((s.wait++s.ready).eraseIdx (gT numbers s)).map .int))).set o (.list (s.ord.map .int++[.int (dY numbers s)]))=H3 at B6;have hL5:aW ⟨qE numbers o++[(5,.int (Ak numbers s.ord.length:Nat))],H3⟩ (qE numbers o):=aW.of Z;have o3:=B6.ord;rw [<-Ga] at o3;refine ae (cw (dk G.G.W.B a.cS a.done (n:=m+1) G.G.W.IW Z (by show m+1<=m+6;exact Vx) (ab 1 Z Z ⟨1,0,_,Z,⟨B6.sr.inst,B6.sr.dict⟩,Z,aw (bH (ab 3 Z Z (lK (aE (i6 ⟨fh (.inr (af o Z o3)),oz (.inr (af o Z o3)) ?_⟩)))))⟩)) (Z));refine (akS G.G.W hO hD B6.sr (by refine aa (hK _ _) ?_;exact ok.xin) ok.out (λs' hs=>by refine aa (hK _ _) ?_;exact ok.suc s' hs) (by have:=ok.sl;simp only [ajO];exact Qi this) m).mono λv H4 q=>?_;refine RR q λo6 sr4 e4=>?_;clear q;obtain rfl:=o6;exact aD ⟨Z,aW.of Z,⟨sr4,(e4.same _ (bA B6.ord).1 (B6.not o (.inl Z))).trans B6.ord,(e4.same _ (bA B6.wait).1 (B6.not (o+1) (.inr Z))).trans B6.wait,B6.ro⟩⟩
end
noncomputable def tB (g:Nat->Int×AV):Nat->List (Int×AV)
 | 0=>[]
 | i+1=>ct (tB g i) (g i).1 (g i).2
abbrev PD (g:Nat->Int×AV)(L:d7)(H:aR)(n:Nat):Nat->List (Int×AV)->dp:=λi OB S'=>S'=⟨L,H⟩/\OB=tB g i/\i<=n
theorem Hz {κ α:Type}[DecidableEq κ](kvs:List (κ×α))(k:κ)(v:α):(ct kvs k v).length<=kvs.length+1:=by
 unfold ct
 split
 . exact aa (Wl _) Ra
 . simp
theorem EW (g:Nat->Int×AV)(i:Nat):(tB g i).length<=i:=by
 induction i with
 | zero=>exact bP _
 | succ i ih=>have:=Hz (tB g i) (g i).1 (g i).2;exact Tt this ih
theorem xt (g:Nat->Int×AV)(n:Nat)(h:∀i j,i<j->j<n->(g i).1≠(g j).1):tB g n=(WG n).map g:=by
 induction n with
 | zero=>rfl
 | succ n ih =>have ih:=ih λi j h1 h2=>h i j h1 (Lu h2);refine aa G5 (aa C5 (az ih ?_));refine oP _ ?_;unfold bC;refine bb ajN (bb NQ ?_);intro x hx;rw [ih,MU] at hx;refine Va hx λi hi o1=>?_;clear hx;obtain rfl:=o1;simpa using (h i n (wN.mp hi) (Lq))
section
variable {s s':Gb}{pos:Pos}
theorem EX {g:Nat->Int×AV}{L:d7}{H:aR}{n i:Nat}{x:Int}{v:AV}(hi:i<n)(h:g i=(x,v))(hL:aW S L)(hH:S.heap=H):pI (PD g L H n (i+1) (ct (tB g i) x v)) S:=by subst hH;exact (kz L hL Z (by show _=ct _ _ _;exact aa h Z) hi)
theorem sA {target kx vx:Nn}{kV:cJ}{sc scope:YB}{vars:bD}{fs:List (Nat×Str×AV)}{items:bZ}{live:aR->Prop}{ai:AS}{Kf:List (Int×AV)->aR->Prop}(g:Nat->Int×AV)(gQ:pJ C ai fs)(hsz:items.length<=Wo)(rA:live ai.heap)(VG:∀env own,(∀x,scope.names.lookup x=AN .local\/scope.names.lookup x=AN .cell->bI (yt scope sc env own C.frames C.handled C.n vars) (λJ=>Wm) x)->∀i y,items[i]?=AN y->i<items.length->jY c target kx vx kV (yt scope sc env own C.frames C.handled C.n vars) ⟨iG 0 fs,ai.heap⟩ (PD g (iG 0 fs) ai.heap items.length) i (tB g i) y)(k:Kf (tB g items.length) ai.heap):qk c C sc scope vars fs (jY c target kx vx kV) items live ai Kf:=by
 refine ⟨gQ,λenv own be=>⟨PD g (iG 0 fs) ai.heap items.length,(aV Z Z (Dv _)),?_,?_,?_⟩⟩
 . rintro i OB S' ⟨rfl,rfl,hi⟩;exact ⟨rA,by have:=EW g i;exact P5 this hi hsz⟩
 . rintro i y OB S' hy ⟨rfl,rfl,hi⟩;exact VG env own be i y hy (bA hy).1
 . rintro OB S' ⟨rfl,rfl,hi⟩;exact k
end
theorem oY (f:Nat->AV)(ks:au):(WG ks.length).filterMap (gK (λJ=>Wn) f ks)=ks.map f:=by
 rewrite [vB]
 exact aa (ah8.mpr λJ J=>Z) Z
noncomputable def tx (l:au):Str:=⟨(l.map λi=>i+97).toArray⟩
theorem dU (l:au):(tx l).cps.toList=l.map λi=>i+97:=by simp [tx]
theorem cb (l:au):(tx l).length=l.length:=by simp [tx,cv]
theorem l8 (a b:au):tx a++tx b=tx (a++b):=by refine Str.ext' (aa (amw _ _) ?_);simp [tx]
theorem EY {a b:au}(h:tx a=tx b):a=b:=by have h1:(tx a).cps.toList=(tx b).cps.toList:=aa h Z;rw [dU,dU] at h1;exact List.map_inj_right (λJ J q=>PO q) |>.mp h1
theorem Al (a b:au):(tx a==tx b)=decide (a=b):=by exact bb yz (bb beq_iff_eq (bb decide_eq_true_iff ⟨EY,λh=>aa h Z⟩))
theorem qV (l:au)(i:Nat):(⟨((tx l).cps.toList.drop i).toArray⟩:Str)=tx (l.drop i):=by refine aa (dU _) (az List.map_drop ?_);rfl
theorem LG (l:au){i x:Nat}(h:l[i]?=AN x):(tx l).cps[i]?=AN (x+97):=by refine az ahI (aa (dU _) (aa bV (aa h ?_)));rfl
theorem vE (l:au):Zs ⟨#[]⟩ (l.map λi=>tx [i])=tx l:=by
 show anN _ _=_;refine aa (StrLaws.glued_eq_join _ _) ?_;induction l with
 | nil=>rfl
 | cons x l ih=>
   cases l with
   | nil=>rfl
   | cons y l =>show tx [x]++⟨#[]⟩++Str.join ⟨#[]⟩ ((y::l).map λi=>tx [i])=_;refine aa ih (aa (show tx [x]++⟨#[]⟩=tx [x] from OE _) (aa (l8 _ _) ?_));rfl
theorem ua (l:au)(h:l.length<1000):JoinOk ⟨#[]⟩ (l.map λi=>tx [i])=Wn:=by
 unfold JoinOk;have:∀(l:au) (n:Nat),(l.map λi=>tx [i]).foldl (λ(a:Nat) (p:Str)=>a+p.length+(⟨#[]⟩:Str).length) n=n+l.length:=λl=>by
  induction l with
  | nil=>intro n;rfl
  | cons x l ih =>intro n;show (l.map λi=>tx [i]).foldl _ (n+(tx [x]).length+0)=_;refine aa (ih _) (aa (cb _) ?_);simp;exact RA
 rewrite [List.foldl_toArray]
 refine aa (this _ _) ?_;simp [anD,Wo];exact Qm h
noncomputable def UA (x y:Nat):Bool:=decide (x<=y)
noncomputable def l9 (l:au):au:=l.mergeSort UA
theorem hZ (l:au):(l9 l).Perm l:=aku l UA
theorem kP (l:au):(l9 l).Pairwise (·<=·):=by
 exact (ajk (λa b c h1 h2=>by simp [UA] at *;exact P1 h1 h2) (λa b=>by simp [UA];exact SF) l).imp λh=>by simpa [UA] using h
theorem HA (a b:Nat):sle (tx [a]) (tx [b])=decide (a<=b):=by
 unfold sle;refine aa (dU _) (aa (dU _) ?_);simp [ahJ];by_cases h:a<=b
 . simp [h]
 . simp [h];exact SK h
theorem ub (l:au):lQ (l.map λi=>tx [i])=(l9 l).map λi=>tx [i]:=by exact jB ((i8 _).trans ((hZ l).symm.map _)) (iU _) (bb Xl ((kP l).imp λh=>by refine aa (HA _ _) ?_;simpa using h))
structure iX (ord:au):Prop where
 len:ord.length=16
 nd:ord.Nodup
 lt:∀f∈ord,f<16
 all:∀f,f<16->f∈ord
noncomputable def iy (ord:au):List (Int×AV):=(WG 16).map λi=>(((ord.getD i 0:Nat):Int),.str (tx [i]))
noncomputable def dm (ord:au)(f:Nat):Nat:=ord.idxOf f
noncomputable def uc (ord:au)(f:Nat):au:=dm ord f::l9 ((aG f).map (dm ord))
noncomputable def fX (ord:au):List au:=ord.map (uc ord)
noncomputable def eY (EE:Nat):Nat:=2*(EE / 16 % 8)+1
noncomputable def cX (ord:au)(EE:Nat):List au:=(WG 16).map λk=>(fX ord).getD ((eY EE*k+EE) % 16) []
noncomputable def jL (ws:List au):AV:=.lst (ws.map λw=>.str (tx w))
theorem HB (n:Nat):eY n<16:=by unfold eY;exact P6
noncomputable abbrev LH:bD:=["order","number","letters","words","step"]
theorem oZ {f s:Nat}(h:s∈aG f):s<=f:=by unfold aG at h;rw [MU] at h;refine Va h λb J o3=>?_;obtain rfl:=o3;exact RL
theorem iX.gF {ord:au}(P:iX ord){f s:Nat}(hf:f<16)(h:s∈aG f):s∈ord:=P.all s (by have:=oZ h;exact Hj hf this)
theorem getD_at {l:au}{i x:Nat}(h:l[i]?=AN x):l.getD i 0=x:=by refine aa WE (aa h ?_);rfl
theorem xu {ord:au}(P:iX ord):tB (λi=>(((ord.getD i 0:Nat):Int),.str (tx [i]))) 16=iy ord:=by
 refine xt _ 16 λi j h1 h2 e=>?_;have hi:i<ord.length:=by refine aa P.len ?_;exact Mq h2 h1
 have hj:j<ord.length:=by refine aa P.len ?_;exact Lo h2
 have e1:=WS e;rw [getD_at (cm hi),getD_at (cm hj)] at e1;have:=(D4 P.nd).mp e1;exact PQ h1 this
theorem sC {ord:au}(P:iX ord){f:Nat}(h:f∈ord):bC (iy ord) (f:Int)=AN (.str (tx [dm ord f])):=by
 have dc:ord.idxOf f<ord.length:=aig h;have qz:ord[ord.idxOf f]?=AN f:=aa (cm dc) (aa (ak1 _) Z);unfold bC;have:(iy ord).find? (λkv=>decide (kv.1=(f:Int)))=AN ((f:Int),.str (tx [dm ord f])):=by
  refine bb List.find?_eq_some_iff_getElem ?_;refine ⟨by simp,ord.idxOf f,by simp [iy];rw [P.len] at dc;exact dc,?_,?_⟩
  . simp only [iy,GG,aiI];refine aa (getD_at qz) ?_;rfl
  . intro j hj;have FJ:j<ord.length:=Hm hj dc;simp only [iy,GG,aiI];refine aa (getD_at (cm FJ)) ?_;have:ord[j]≠f:=λq=>by have:=List.not_of_lt_findIdx (p:=(·==f)) hj;simp [q] at this
    simp;exact Sq this
 refine aa this ?_;rfl
section
variable {pos:Pos}
theorem xw {x:Str}{kd:Nat}{p H6 pos:Pos}{args:cJ}
 (h:pz c C pos args S (wk (.str x) (bK c C (.builtin "str.join") K X)) X)
 (rz:((W3 pos (M4 args C.env)).all (λx=>!x.1)&&(DN pos (Xk [] C.env)).all (λx=>x.1.isSome)
  && decide (args.length+([]:List YC).length+(if ([]:List YC).isEmpty then 0 else 1)<30))=Wn:=by rfl)
 (hline:(H6.endLine==pos.line)=Wn:=by rfl)
 (na:(W3 pos (M4 args C.env)).any (·.1)=Wp:=by rfl)
 (hl:mU (W3 pos (M4 args C.env))=Wp:=by rfl):Ev c C (.Call (.Attribute (.Constant (.str x) kd p) "join" H6) args [] pos) S K X:=
 cq "str" "str.join" Yt PySem.F.slot_str_join PySem.F.type_str_join (dw ⟨Z,h⟩) Z rz hline na hl
structure Jk (c:aZ)(mg mb:eI)(sa:Wr):Prop where
 B:Base c mg mb
 gF:fk c sa l0 .none
 kO:mg "_law_sides"=AN (.ref sa)
 LI:dR mg mb "zip" (.type "zip")
 gG:dR mg mb "sorted" (.builtin "sorted")
 hX:dR mg mb "range" (.type "range")
theorem ud {sa:Wr}(G:Jk c mg mb sa)(hf:fk c fa iW .none)(ord:au)(P:iX ord)(EE:Nat)(m:Nat): bQ c (m+3) (.ref fa) [cP ord,.int EE] [] (λv J=>v.under 0=Wn/\v=jL (cX ord EE)):=by
 refine hf.fu G.B ["order","number"] LH [(0,cP ord),(1,.int EE)] (λJ J J=>Z) Z Z (by decide +kernel) λenv own frames be kq=>?_;have aai:=P.len;refine ae (aj (aeP (sc:=iW.scope) G.B ["letter","face"] [] Z trivial (show dj _ _ [] _=Wn by decide +kernel) (Hp (bY G.B (by rfl) G.LI.1 G.LI.2 ⟨Z,bG (dw (aw (ab 0 Z Z (kA _ _ Z (by decide +kernel) (by refine aa (Wl _) (aa P.len ?_);decide +kernel) ?_))))⟩) Z)));have ez:∀i y,(((Ww "abcdefghijklmnop").cps.toList.zip (ord.map λ(n:Nat)=>AV.int n)).map λp=>AV.tup [.str ⟨#[p.1]⟩,p.2])[i]?=AN y->i<16/\∃f,ord[i]?=AN f/\y=.tup [.str (tx [i]),.int f]:=λi y hy=>by
  rw [bV] at hy;refine Va (gW hy) λq hq o1=>?_;obtain rfl:=o1;rw [agX] at hq;refine XZ hq λh1 h2=>?_;rw [bV] at h2;refine Va (gW h2) λf hf o2=>?_;have hi:i<16:=by have:=(bA hf).1;exact PR this aai
  have h3:(Ww "abcdefghijklmnop").cps.toList=(WG 16).map λi=>i+97:=by decide +kernel
  rw [h3,bV,DD hi] at h1;have h4:=WM h1;exact (qZ hi f hf (by refine az h4 (az o2 ?_);rfl))
 have hzl:(((Ww "abcdefghijklmnop").cps.toList.zip (ord.map λ(n:Nat)=>AV.int n)).map λp=>AV.tup [.str ⟨#[p.1]⟩,p.2]).length=16:=by refine aa (Wl _) (aa List.length_zip (aa (Wl _) (aa P.len ?_)));decide +kernel
 refine sA (λi=>(((ord.getD i 0:Nat):Int),.str (tx [i]))) trivial (by refine aa hzl ?_;simp [Wo]) trivial (λoS ds fG i y hy hi=>?_) ?_
 . obtain ⟨EQ,f,hf,rfl⟩:=ez i y hy;refine (aV Z Z (ah 0 Z (fG _ (.inl Z)) (ah 1 Z (fG _ (.inl Z)) ?_)));refine ab 1 Z Z (af _ Z (ab 0 Z Z (EX hi ?_ (aW.of Z) Z)));exact aa (getD_at hf) Z
 refine aa hzl (aa (xu P) ?_);refine .inl (ah 2 Z (be 2 _ Z) ?_);refine ae (aj (gA (sc:=iW.scope) ["letters","face"] [(2,"letters",.dQ (iy ord))] Z (aV Z Z trivial) (show dj _ _ ["letters"] _=Wn by decide +kernel) (fN (ab 0 Z Z (af _ (.inl Z) ?_)))));refine dA (gK (λJ=>Wn) (λf=>AV.str (tx (uc ord f))) ord) (aV Z Z trivial) (by refine aa (Wl _) (aa P.len ?_);simp [Wo]) (.inl Z) (λoS ds fG i y hy hi=>?_) ?_
 . rw [bV] at hy;refine Va (gW hy) λf KZ o1=>?_;obtain rfl:=o1;have hfm:=bO KZ;have za:=P.lt f hfm;have nM:(aG f).length<=4:=by unfold aG;refine aa (Wl _) ?_;exact XH _ _
   refine ah 1 Z (fG _ (.inl Z)) ?_;refine bF (bH (ab 0 Z Z (ab 1 Z Z ⟨hG (.inl Z),je (.inl Z) (sC P hfm) ?_⟩)));refine xw (aw (bS (.builtin "sorted") (bY G.B (by rfl) G.gG.1 G.gG.2 ⟨Z,aw ?_⟩)));refine gA (sc:=fF (dO iW.body 1).scope iW.scope) ["letters","side"] [(0,"letters",.dQ (iy ord))] Z (aV Z Z trivial) (show dj _ _ ["letters"] _=Wn by decide +kernel)
    (fN (l5 G.B Z (by show m+1<=m+2;exact Ln) (by rfl) G.kO G.gF.fnAt (aw (ab 1 Z Z ⟨Z,_,oW G.B G.gF f za m,af _ (.inl Z) ?_⟩))))
   refine dA (gK (λJ=>Wn) (λs=>AV.str (tx [dm ord s])) (aG f)) (aV Z Z trivial) (by refine aa (Wl _) ?_;simp only [Wo];exact PK nM) (.inl Z) (λaa2 EZ Sc j z hz hj=>?_) ?_
   . rw [bV] at hz;refine Va (gW hz) λs hs o2=>?_;obtain rfl:=o2;refine ah 1 Z (Sc _ (.inl Z)) ?_;refine bH (ab 0 Z Z (ab 1 Z Z ⟨hG (.inl Z),je (.inl Z) (sC P (P.gF za (bO hs))) ?_⟩));exact fT hj (by refine aa (lZ hs) ?_;rfl) (aW.of Z) Z
   refine aa (Wl _) (aa (Wl _) (aa (oY _ _) ?_));have e1:(aG f).map (λs=>AV.str (tx [dm ord s]))=(((aG f).map (dm ord)).map λi=>tx [i]).map .str:=by rw [Wu,Wu];rfl
   refine aa e1 ?_;refine .inl (mF (.inl Z) (by refine aa (Wl _) (aa (Wl _) ?_);exact Q8 nM) (.inl ?_));refine aa (ub _) ?_;have Mu:(l9 ((aG f).map (dm ord))).length<=4:=by refine aa ((hZ _).length_eq) (aa (Wl _) ?_);exact nM
   refine EC (.inl Z) (ua _ (Q7 Mu)) (iR ?_ ?_)
   . refine aa (cb _) ?_;have:(Zs ⟨#[]⟩ ((l9 ((aG f).map (dm ord))).map λi=>tx [i])).length<=4:=by refine aa (vE _) (aa (cb _) ?_);exact Mu
     simp only [Wo,Xf,ajO];exact XI (WK this _) (by decide)
   have e2:tx [dm ord f]++Zs ⟨#[]⟩ ((l9 ((aG f).map (dm ord))).map λi=>tx [i])=tx (uc ord f):=by refine aa (vE _) (aa (l8 _ _) ?_);rfl
   refine fT (by rw [Wl] at hi;exact hi) ?_ (aW.of Z) Z;refine aa (lZ KZ) ?_;refine az e2 ?_;rfl
 refine aa (Wl _) (aa (oY _ _) ?_);refine .inl (ah 3 Z (be 3 _ Z) ?_);have e3:AV.lst (ord.map λf=>AV.str (tx (uc ord f)))=jL (fX ord):=by unfold jL fX;refine aa Wu ?_;rfl
 refine aa e3 ?_;refine ae (aj (bF (bF (aE (bF (bF (ab 1 Z Z (aE (pD (by decide) (GK (by decide)) (aE (ng (by decide) ?_)))))))))));refine CO (alN (by decide)) ?_;refine aa (show ((EE:Int).fdiv 16)=((EE / 16:Nat):Int) from l6 _ 16) (aa (show (((EE / 16:Nat):Int).fmod 8)=((EE / 16 % 8:Nat):Int) from l7 _ 8) ?_);refine aE (pC ?_);have e4:(2:Int)*((EE / 16 % 8:Nat):Int)+1=((eY EE:Nat):Int):=by unfold eY;exact ZQ
 refine aa e4 ?_;refine ah 4 Z (be 4 _ Z) ?_;have Bn:(fX ord).length=16:=by unfold fX;exact aa (Wl _) (aa P.len Z)
 refine ae (bt (gA (sc:=iW.scope) ["words","step","number","k"] [(3,"words",jL (fX ord)),(4,"step",.int (eY EE:Nat)),(1,"number",.int EE)] Z (wc Z Z Z Z Z Z trivial) (show dj _ _ ["words","step","number"] _=Wn by decide +kernel) (tT (bY G.B (by rfl) G.hX.1 G.hX.2 ⟨Z,aw (aE (af 16 Z ⟨by decide,?_⟩))⟩))));refine dA (gK (λJ=>Wn) (λk=>AV.str (tx ((fX ord).getD ((eY EE*k+EE) % 16) []))) (WG 16)) (wc Z Z Z Z Z Z trivial) (by simp [Wo]) trivial (λoS ds fG i y hy hi=>?_) ?_
 . rw [bV] at hy;refine Va (gW hy) λk hk o1=>?_;obtain rfl:=o1;refine ah 3 Z (fG _ (.inl Z)) ?_;refine bH (ab 0 Z Z (bF (bF (bF (ab 1 Z Z (ab 3 Z Z (CO (alN (intBits_le_64 (ZH) (by have:=HB EE;exact Rw e4))) (ab 2 Z Z (pC (aE (ng (by decide) ?_)))))))))));have e5:((eY EE:Nat)*(k:Int)+(EE:Int)).fmod 16=(((eY EE*k+EE) % 16:Nat):Int):=by
    have:((eY EE:Nat)*(k:Int)+(EE:Int))=((eY EE*k+EE:Nat):Int):=by simp
    refine aa this ?_;exact l7 _ 16
   refine aa e5 ?_;have dc:(eY EE*k+EE) % 16<(fX ord).length:=by refine aa Bn ?_;exact Ls
   refine ⟨fh (.inl Z),iT (y:=.str (tx ((fX ord).getD ((eY EE*k+EE) % 16) []))) (.inl Z) (Rt) (Rm) (by refine aa (Gf _) (aa bV (aa WE (aa (cm dc) ?_)));rfl) ?_⟩;exact fT hi (by refine aa (lZ hk) ?_;rfl) (aW.of Z) Z
 refine aa (Wl _) (aa (oY _ _) ?_);refine .inl ⟨?_,?_⟩
 . simp only [FH];have:∀l:au,AV.bX 0 (l.map λk=>AV.str (tx ((fX ord).getD ((eY EE*k+EE) % 16) [])))=Wn:=λl=>by induction l with
    | nil=>rfl
    | cons x l ih=>exact yi.mpr ⟨Z,ih⟩
   exact this _
 . unfold jL cX;refine aa Wu ?_;rfl
end
noncomputable def cT (F:Nat->Bool):Nat->Bool
 | 0=>Wp
 | n+1=>cT F n ^^ F n
theorem cz {F G:Nat->Bool}:∀{n:Nat},(∀x,x<n->F x=G x)->cT F n=cT G n
 | 0,_=>rfl
 | n+1,h=>by show (cT F n ^^ F n)=(cT G n ^^ G n);exact aa (cz λx hx=>h x (Ni hx)) (aa (h n (W0 n)) Z)
theorem dZ {F:Nat->Bool}:∀{n:Nat},(∀x,x<n->F x=Wp)->cT F n=Wp
 | 0,_=>rfl
 | n+1,h=>by show (cT F n ^^ F n)=Wp;refine aa (dZ λx hx=>h x (Ni hx)) (aa (h n (W0 n)) ?_);rfl
theorem ma (F G:Nat->Bool):∀n:Nat,cT (λx=>F x ^^ G x) n=(cT F n ^^ cT G n)
 | 0=>rfl
 | n+1=>by
   show (cT (λx=>F x ^^ G x) n ^^ (F n ^^ G n))=((cT F n ^^ F n) ^^ (cT G n ^^ G n))
   refine aa (ma F G n) ?_;cases cT F n <;> cases cT G n <;> cases F n <;> cases G n <;> rfl
theorem fH {F:Nat->Bool}{j:Nat}:∀{n:Nat},j<n->(∀x,x<n->x≠j->F x=Wp)->cT F n=F j
 | 0,h,_=>absurd h (Nat.not_lt_zero j)
 | n+1,h,hz=>by
   show (cT F n ^^ F n)=F j;by_cases e:j=n
   . subst e;exact aa (dZ λx hx=>hz x (Lu hx) (Sa hx)) (Bool.false_xor _)
   . exact aa (fH (by exact R6 h e) λx hx=>hz x (by exact Lu hx)) (aa (hz n (W0 n) (λq=>e q.symm)) (Y5 _))
theorem pd (b:Bool)(F:Nat->Bool)(n:Nat):(b&&cT F n)=cT (λx=>b&&F x) n:=by
 cases b
 . exact (dZ λJ J=>Z).symm
 . rfl
theorem pY (F:Nat->Nat->Bool)(m:Nat):∀n:Nat,cT (λa=>cT (λb=>F a b) m) n=cT (λb=>cT (λa=>F a b) n) m
 | 0=>(dZ λJ J=>Z).symm
 | n+1=>by show (cT (λa=>cT (λb=>F a b) m) n ^^ cT (λb=>F n b) m)=cT (λb=>cT (λa=>F a b) n ^^ F n b) m;refine aa (pY F m n) ?_;rw [ma]
theorem ue (F:Nat->Bool):∀n:Nat,cT F (n+1)=(F 0 ^^ cT (λx=>F (x+1)) n)
 | 0=>by show (Wp ^^ F 0)=(F 0 ^^ Wp);cases F 0 <;> rfl
 | n+1=>by
   show (cT F (n+1) ^^ F (n+1))=(F 0 ^^ (cT (λx=>F (x+1)) n ^^ F (n+1)))
   refine aa (ue F n) ?_;rw [Bool.xor_assoc]
theorem sD:∀(n:Nat) (F:Nat->Bool),cT (λx=>F (n-1-x)) n=cT F n
 | 0,F=>rfl
 | n+1,F=>by
   refine aa (ue _ _) ?_;show _=(cT F n ^^ F n)
   refine az (sD n F) (aa (amL _ _) ?_);congr 1;exact cz λx hx=>congrArg F (Nat.sub_right_comm n x 1)
noncomputable def sd (f g:Nat):Bool:=(aG g).contains f
noncomputable def jM (V:Nat->Bool)(f:Nat):Bool:=cT (λg=>sd f g&&V g) 16
noncomputable def lg (U:Nat->Bool)(g:Nat):Bool:=cT (λf=>sd f g&&U f) 16
theorem vF:∀f,f<16->∀g,g<16->sd (15-g) (15-f)=sd f g:=by decide +kernel
theorem UB:∀a,a<16->∀d,d<16->cT (λb=>sd b d&&sd a b) 16=Wp:=by decide +kernel
theorem sE (U V:Nat->Bool):cT (λf=>U f&&jM V f) 16=cT (λg=>V g&&lg U g) 16:=by
 refine aa (cz λf J=>(λf=>pd _ _ _) f) (aa (cz λg J=>(λg=>pd _ _ _) g) ?_);rw [pY];exact cz λg J=>cz λf J=>by cases U f <;> cases V g <;> cases sd f g <;> rfl
theorem HC (V:Nat->Bool){f:Nat}(hf:f<16):jM (jM V) f=Wp:=by
 have e1:∀g,(sd f g&&jM V g)=cT (λh=>V h&&(sd g h&&sd f g)) 16:=λg=>by refine (pd _ _ _).trans (cz λh J=>?_);cases sd f g <;> cases V h <;> cases sd g h <;> rfl
 show cT (λg=>sd f g&&jM V g) 16=Wp;refine aa (cz λg J=>e1 g) ?_;rw [pY];refine dZ λh hh=>?_
 rewrite [<-pd (V h) (λg=>sd g h&&sd f g)]
 exact aa (UB f hf h hh) (WT _)
theorem vG (V W:Nat->Bool)(f:Nat):jM (λg=>V g ^^ W g) f=(jM V f ^^ jM W f):=by
 show cT _ _=(cT _ _ ^^ cT _ _)
 rw [<-ma];exact cz λg J=>by show (sd f g&&(V g ^^ W g))=_;cases sd f g <;> cases V g <;> cases W g <;> rfl
theorem xx (V:Nat->Bool){f:Nat}(hf:f<16):lg (λh=>V (15-h)) (15-f)=jM V f:=by refine aM ?_ (sD 16 λg=>sd f g&&V g);refine cz λh hh=>?_;refine az (vF f hf (15-h) (C3 (Zd 15 h))) (aa (Zc (Dc hh)) Z)
theorem uf (U:Nat->Bool){g:Nat}(hg:g<16):jM (λh=>U (15-h)) (15-g)=lg U g:=by refine aM ?_ (sD 16 λf=>sd f g&&U f);refine cz λh hh=>?_;refine az (vF (15-h) (C3 (Zd 15 h)) g hg) (aa (Zc (Dc hh)) Z)
structure Mv (pos:Nat->Nat)(g:Nat)(V:Nat->Bool):Prop where
 on:V g=Wn
 up:∀h,h<16->pos g<pos h->V h=Wp
structure UC (pos:Nat->Nat)(f:Nat)(U:Nat->Bool):Prop where
 on:U f=Wn
 dn:∀h,h<16->pos h<pos f->U h=Wp
structure B7 (pos:Nat->Nat)(f g:Nat):Prop where
 v:∃V,Mv pos g V/\Mv pos f (jM V)
 u:∃U,UC pos f U/\UC pos g (lg U)
structure gU (pos:Nat->Nat):Prop where
 inj:∀f,f<16->∀g,g<16->pos f=pos g->f=g
 lt:∀f,f<16->pos f<16
 HD:∀i,i<16->∃f,f<16/\pos f=i
section
variable {pos:Nat->Nat}{f g:Nat}{U V:Nat->Bool}
theorem Am (P:gU pos)(hg:g<16)(t:Mv pos g V)(b:UC pos g U):cT (λh=>V h&&U h) 16=Wn:=by
 rw [fH hg λh hh e=>?_]
 . rw [t.on,b.on];rfl
 . rcases ai2 (pos h) (pos g) with q | q | q
   . rw [b.dn h hh q,WT]
   . exact absurd (P.inj h hh g hg q) e
   . rw [t.up h hh q];rfl
def Zero (pos:Nat->Nat)(g:Nat):Prop:=∃V,Mv pos g V/\∀f,f<16->jM V f=Wp
theorem mh (P:gU pos)(hg:g<16)(b:UC pos g (lg U)):¬Zero pos g:=by rintro ⟨V,t,z⟩;have e:=Am P hg t b;rw [<-sE,dZ λf hf=>by exact aa (z f hf) (aa (WT _) rfl)] at e;cases e
theorem E0 (P:gU pos)(hg:g<16){f':Nat}(hf:f<16)(CY:f'<16)(p:B7 pos f g)(p':B7 pos f' g):pos f'<=pos f:=by
 refine Va p.v λV t l=>Va p'.u λU b m=>alO λq=>?_;have e:=Am P hg t m;rw [<-sE,dZ λh hh=>?_] at e
 . cases e
 . by_cases q2:pos h<pos f'
   . refine aa (b.dn h hh q2) ?_;rfl
   . exact aa (l.up h hh (by omega)) (aa (WT _) Z)
theorem HE (P:gU pos)(hg:g<16){f':Nat}(hf:f<16)(CY:f'<16)(p:B7 pos f g)(p':B7 pos f' g):f=f':=
 P.inj f hf f' CY (XY (E0 P hg CY hf p' p) (E0 P hg hf CY p p'))
theorem E1 (hf:f<16)(p:B7 pos f g):Zero pos f:=by
 exact Va p.v λV t l=>(af (jM V) l (λh hh=>HC V hh))
theorem HF (P:gU pos)(hg:g<16)(p:B7 pos f g):¬Zero pos g:=by exact Va p.u λU b m=>mh P hg m
theorem xy {CD:Nat->Nat}(hp:∀h,h<16->CD h=15-pos (15-h))(P:gU pos)(hf:f<16)(hg:g<16)(p:B7 pos f g):B7 CD (15-g) (15-f):=by
 refine Va p.v λV t l=>Va p.u λU b m=>?_;have dc:∀h,h<16->∀k,k<16->CD (15-k)<CD h->pos (15-h)<pos k:=λh hh k hk q=>by rw [hp h hh,hp (15-k) (by exact sf),show 15-(15-k)=k by exact Ll hk] at q;have:=P.lt k hk;have:=P.lt (15-h) (sf);exact PN q
 have hgt:∀h,h<16->∀k,k<16->CD h<CD (15-k)->pos k<pos (15-h):=λh hh k hk q=>by rw [hp h hh,hp (15-k) (by exact sf),show 15-(15-k)=k by exact Ll hk] at q;have:=P.lt k hk;have:=P.lt (15-h) (sf);exact PN q
 have e1:∀k,k<16->15-(15-k)=k:=λk hk=>Ll hk;refine ⟨(af (λh=>U (15-h)) ⟨?_,λh hh q=>?_⟩ ⟨?_,λh hh q=>?_⟩),(af (λh=>V (15-h)) ⟨?_,λh hh q=>?_⟩ ⟨?_,λh hh q=>?_⟩)⟩
 . exact aa (e1 f hf) b.on
 . exact b.dn _ (sf) (dc h hh f hf q)
 . exact aa (uf U hg) m.on
 . exact az (e1 h hh) (aa (uf U (sf)) (m.dn _ (sf) (dc h hh g hg q)))
 . exact aa (e1 g hg) t.on
 . exact t.up _ (sf) (hgt h hh g hg q)
 . exact aa (xx V hf) l.on
 . exact az (e1 h hh) (aa (xx V (sf)) (l.up _ (sf) (hgt h hh f hf q)))
end
theorem E2 {x:Str}{i:Int}(h0:(x.length:Int)<=i):(Y8 i x.length).bind (x.cps[·]?)=Wm:=by refine aa (MeetsSeq.seqIndex_none_hi h0) ?_;rfl
section
variable {prog:AZ}{w:X3}{E:pF}{s:Gb}
theorem xA {x:Str}{t u:Tok}{i:Int}{Q:pF}(hh:A.handled=Wm)(h0:(x.length:Int)<=i)(h1:i<2 ^ 63)(hE:∀h' tk e,Zm s.heap h' e "IndexError"->E (.ref e) {s with heap:=h',toks:=tk}):Dk (model prog w) A (X2 (.str x t) (.int i u)) Q E s:=by
 refine getItem_slot (yM s x t) (by decide) OF (yw OF (yM s x t) alr ?_ (alP _ _));show Dk _ _ (if (decide (i < -(2 ^ 63:Int))||decide (i≥2 ^ 63))=Wn then _ else
  match (Y8 i x.length).bind (x.cps[·]?) with
  | some c=>retStr ⟨#[c]⟩
  | none=>_) _ _ s
 refine aa (E2 h0) (aa (show (decide (i < -(2 ^ 63:Int))||decide (i≥2 ^ 63))=Wp by simp;exact Ue h0 h1) ?_)
 first
  | exact ag (XD (by exact_raiseError XE hh hE))
  | exact ag (XD (ag (by exact_raiseError XE hh hE)))
  | exact ag (ag (XD (by exact_raiseError XE hh hE)))
  | exact XD (by exact_raiseError XE hh hE)
theorem sF {x:Str}{t u:Tok}{i:Int}{g:Wr}{og:Obj}{vg:Array Ws}{Q:pF}(hh:A.handled=AN (.ref g))(hg:s.heap.get? g=AN og)(A3:og.data=.fields vg)(z7:vg[2]?=AN .none)(h0:(x.length:Int)<=i)(h1:i<2 ^ 63)(hE:∀h' tk e,rQ g s.heap h' e "IndexError"->E (.ref e) {s with heap:=h',toks:=tk}):Dk (model prog w) A (X2 (.str x t) (.int i u)) Q E s:=by
 refine getItem_slot (yM s x t) (by decide) OF (yw OF (yM s x t) alr ?_ (alP _ _));show Dk _ _ (if (decide (i < -(2 ^ 63:Int))||decide (i≥2 ^ 63))=Wn then _ else
  match (Y8 i x.length).bind (x.cps[·]?) with
  | some c=>retStr ⟨#[c]⟩
  | none=>_) _ _ s
 refine aa (E2 h0) (aa (show (decide (i < -(2 ^ 63:Int))||decide (i≥2 ^ 63))=Wp by simp;exact Ue h0 h1) ?_)
 first
  | exact ag (XD (fi XE hh hg A3 z7 hE))
  | exact ag (XD (ag (fi XE hh hg A3 z7 hE)))
  | exact ag (ag (XD (fi XE hh hg A3 z7 hE)))
  | exact XD (fi XE hh hg A3 z7 hE)
end
section
variable {s s':Gb}{pos:Pos}
theorem fZ {K:cu}{x:Str}{i:Int}(hh:C.handled=Wm)(h0:(x.length:Int)<=i)(h1:i<2 ^ 63)(k:X "IndexError" S):iA c C X2 (.str x) (.int i) S K X:=λA F bs s ra rb hA z ha hb=>by
 refine Ml hb.inv λJ o5=>?_;refine rE o5 ?_;refine Ml ha.inv λJ o3=>?_;refine rE o3 ?_;exact xA (hA.handled.trans hh) h0 h1 λh' tk e x=>RR (z.raised (s':={s with heap:=h',toks:=tk}) x (Z) (by decide) Z Z Z) λa1 a2 a3=>⟨F,bs,_,S,a1,a2,a3,k⟩
theorem vH {K:cu}{x:Str}{i:Int}{g:Wr}{ob:Obj}{k:Nat}(hh:C.handled=AN (.ref g))(hk:S.heap[k]?=AN (.exc g ob))(io:(∀vs,ob.data=.fields vs->vs[2]?=AN .none)/\ob.cls≠.type "cell")(h0:(x.length:Int)<=i)(h1:i<2 ^ 63)(kx:X "IndexError+" {S with heap:=S.heap.set k .gone}):iA c C X2 (.str x) (.int i) S K X:=λA F bs s ra rb hA z ha hb=>by
 refine Ml hb.inv λJ o9=>?_;refine rE o9 ?_;refine Ml ha.inv λJ o3=>?_;refine rE o3 ?_;refine Wj (z.GJ hk io.2) λvg e2 e3 J C7 zF=>sF (hA.handled.trans hh) e2 e3 (io.1 vg e3) h0 h1 λh' tk e x=>?_;obtain m:a7 c (plus F g ob) bs s {s with heap:=h',toks:=tk}:=⟨x.keeps,Z,Z⟩
 exact dr x.there λoe t q1 q2 q3=>⟨plus F g ob,bs,_,_,C7.trans (.keep m),zF.keep m,⟨⟨e,oe,_,Z,x.new,q1,by exact q2,q3,⟨Z,⟨λq=>by simp [gj] at q,λJ=>(wg g Z ob vg bU e3 (io.1 vg e3))⟩⟩,zF.fg x.new,.inl Z⟩,by decide⟩,kx⟩
theorem E3 (a b:Nat){K:cu}(k:K (.bool (decide (a<b))) S):iA c C (Xp .Lt) (.str (tx [a])) (.str (tx [b])) S K X:=by
 refine acO ?_;have:decide ((tx [a]).cps.toList<(tx [b]).cps.toList)=decide (a<b):=by refine aa (dU _) (aa (dU _) ?_);simp [ahJ]
 exact aa this k
theorem LJ (a b:Nat){K:cu}(k:K (.bool (decide (b<a))) S):iA c C (Xp .Gt) (.str (tx [a])) (.str (tx [b])) S K X:=by
 refine afz ?_;have:decide ((tx [b]).cps.toList<(tx [a]).cps.toList)=decide (b<a):=by refine aa (dU _) (aa (dU _) ?_);simp [ahJ]
 exact aa this k
theorem kQ {K:cu}{l:au}{i:Int}{x:Nat}(h0:0<=i)(h1:i<2 ^ 63)(hy:l[i.toNat]?=AN x)(k:K (.str (tx [x])) S):iA c C X2 (.str (tx l)) (.int i) S K X:=
 Hq h0 h1 (LG l hy) k
theorem kg {nx ni ne:Str}{q1 q2 q3 q4 q5 q6 q7 q8 q9:Pos}{kd:Nat}{K:gX}(kx ki ke:Nat){l:au}{x:Nat}(L:Nat->d7){H:aR}(ht:gC C)
 (hx:C.vars[kx]?=AN nx) (hi:C.vars[ki]?=AN ni) (he:C.vars[ke]?=AN ne) (be:bI C (λJ=>Wm) ni)
 (hlx:∀i,(L i).lookup kx=AN (.str (tx l))) (Nf:∀i,(L i).lookup ki=AN (.int i)) (VX:∀i,(L i).lookup ke=AN (.str (tx [x]))) (hup:∀i,ck (L i) ki (.int ((i:Nat)+1))=L (i+1))
 (i:Nat) (hS:S=⟨L i,H⟩) (hil:i<=l.length) (tp:l.length<2 ^ 62)
 (aaj:∀(K':cu),(l.drop i).dropWhile (·==x)=[]->iA c C X2 (.str (tx l)) (.int l.length) ⟨L l.length,H⟩ K' X)
 (SL:∀j,i<=j->j<l.length->l.drop j=(l.drop i).dropWhile (·==x)->K .next ⟨L j,H⟩)
 (d1:(nx==("__debug__":Str))=Wp:=by decide +kernel) (d2:(nx==("__classdict__":Str))=Wp:=by decide +kernel)
 (d3:(ni==("__debug__":Str))=Wp:=by decide +kernel) (d4:(ni==("__classdict__":Str))=Wp:=by decide +kernel)
 (d5:(ne==("__debug__":Str))=Wp:=by decide +kernel) (d6:(ne==("__classdict__":Str))=Wp:=by decide +kernel) :
 lB c C (.While (.Compare (.Subscript (.Name nx q1) (.Name ni q2) q3) [.Eq] [.Name ne q4] q5) [.AugAssign (.Name ni q6) .Add (.Constant (.int 1) kd q7) q8] [] q9) S K X:=by
 subst hS;refine iZ ht (λn S'=>∃j,S'=⟨L j,H⟩/\i<=j/\j<=l.length/\(l.drop j).dropWhile (·==x)=(l.drop i).dropWhile (·==x)/\n=l.length-j) (l.length-i) (ace i Z (bP _) hil Z Z) ?_;intro n S' o1;refine Wj o1 λj o2 h1 h2 h3 o3=>?_;clear o1;obtain rfl:=o2;obtain rfl:=o3;refine bp (bH (ab kx hx (hlx j) (ab ki hi (Nf j) ⟨cB,?_⟩ d3 d4) d1 d2));by_cases hj:j<l.length
 . refine kQ x9 (Gj.mpr (dh (dg h2 tp) Z)) (by refine aa (Gf _) ?_;exact cm hj) (ab ke he (VX j) (nh (ba ?_)) d5 d6);have hd:=N8 hj;have hq:(tx [l[j]]==tx [x])=(l[j]==x):=by refine aa (Al _ _) (bb yz (bb decide_eq_true_iff (bb beq_iff_eq ?_)));simp
   refine aa hq ?_;cases hb:l[j]==x with
   | true=>
     refine ae (ff ki hi (Nf j) be (aE (fP (aD ⟨l.length-(j+1),Nat.sub_succ_lt_self _ _ hj,j+1,?_,abM h1,mz hj,?_,Z⟩))) d4)
     . show (⟨ck (L j) ki _,H⟩:AS)=_;exact aa (hup _) Z
     . refine h3▸(aa hd (aa aia (aa hb ?_)))
       rfl
   | false =>refine SL j h1 hj (h3▸(aa hd (aa aia (aa hb ?_))));rfl
 . obtain e:=qP h2 hj;clear hj;subst e;refine aaj _ (h3▸?_);simp
end
structure mi (h:Xi)(g g0:Wr):Prop where
 at_:∃og vg,h.get? g=AN og/\og.data=.fields vg/\(vg[2]?=AN .none\/(vg[2]?=AN (.ref g0)/\g0≠g/\∃o0 v0,h.get? g0=AN o0/\o0.data=.fields v0/\v0[2]?=AN .none))
theorem mi.keep {h h':Xi}{g g0:Wr}(x:mi h g g0)(k:∀b,b=g\/b=g0->∀o,h.get? b=AN o->h'.get? b=AN o):mi h' g g0:=by
 refine dr x.at_ λog vg h1 h2 h3=>⟨og,vg,k _ (.inl Z) _ h1,h2,h3.imp id λq=>?_⟩
 obtain ⟨q1,q2,o0,v0,q3,q4,q5⟩:=q;exact (we q1 q2 o0 v0 (k _ (.inr Z) _ q3) q4 q5)
section
variable {prog:AZ}{w:X3}{E:pF}{s:Gb}{α:Type}
theorem xB {b it g g0:Wr}(hI:it≠g/\it≠g0)(hb:b=g\/b=g0):b≠it:=λq=>by
 subst q;rcases hb with e | e
 . exact hI.1 e
 . exact hI.2 e
theorem sG {g g0 e:Wr}{oe:Obj}{ve:Array Ws}{Q:α->nj}(hh:A.handled=AN (.ref g))(eQ:g≠e)(aak:g0≠e)(hc:mi s.heap g g0)(he:s.heap.get? e=AN oe)(Vh:oe.data=.fields ve)(Vi:2<ve.size)(h:E (.ref e) {s with heap:=s.heap.update e (J1 (·.setIfInBounds 2 (.ref g)))}):Dk (model prog w) A (raiseNew (.ref e):Sem α) Q E s:=by
 refine dr hc.at_ λog vg hg A3 h3=>?_;rcases h3 with z7 | ⟨z7,hgg,o0,v0,q3,q4,q5⟩
 . exact lU hh eQ hg A3 z7 he Vh Vi h
 refine ag (Zh ?_);refine rE hh ?_;have hb:(Wt g != Wt e)=Wn:=by simpa using eQ
 simp only [hb,if_true];refine ag (pa (akc (Yx jC (ag (Nb hg A3 z7 ?_)))));have h1:(Wt g0==J3)=Wp:=rfl;have h2:(Wt g0==Wt e)=Wp:=by simpa using aak
 have h4:(Wt g0==Wt g)=Wp:=by simpa using hgg
 simp only [h1,h2,h4,if_false,Ow];refine ag (aX (aX ⟨akJ (show plainId "proto.unchain"=Wn by decide +kernel) _,Yx jC ?_⟩));refine ag (Nb q3 q4 q5 (ag (aX ?_)));refine aX (ag (ag (OR he ?_)));refine rE Vh ?_;simp only [Vi,if_true];exact ak7 he (tv h)
theorem nG {it g g0:Wr}{x:Str}{t:Tok}{i:Nat}{Q:rn->nj}(hh:A.handled=AN (.ref g))(hc:mi s.heap g g0)(hI:it≠g/\it≠g0)(dc:g0<s.heap.objs.size)(VJ:s.heap.IsStrIter it "str_ascii_iterator" x t i)(hx:x.cps[i]?=Wm)(hQ:∀h',Bi it s.heap h'->Q Wm {s with heap:=h'}):Dk (model prog w) A (yQ (.ref it)) Q E s:=by
 refine N1 (id VJ) λo ho fq hd=>?_;unfold yQ;refine ag (Ba (XQ (name:=Ww "__next__") VJ.typeIs agY
  (yw agY VJ.typeIs PySem.F.entry_str_ascii_iterator_next ?_ (PySem.F.args_str_ascii_iterator_next_1 _))))
 show Dk _ _ (field (.ref it) 0 >>= _) _ _ s;refine ag (Nb ho hd (x:=.str x t) Z ?_);show Dk _ _ (field (.ref it) 1 >>= _) _ _ s;refine ag (Nb ho hd (x:=.int i 0) Z ?_);simp only [Gf,hx];refine ag (XD (ag (ox ho hd (by simp) (ag (al1 ?_)))));refine ag ?_;simp only [newExc,anr];refine ag (yq (ag (m:=ti _ _) (NT (a:=J3) (by first | rfl | (simp only [ti];rfl)) ?_)) (by size_fits));refine yq ?_ (by size_fits);have gl:g<s.heap.objs.size:=by refine FL hc.at_ λog vg q J=>?_;exact M7 q
 have BZ:Nw it s.heap (s.heap.update it (J1 (·.setIfInBounds 0 J3))):=AU ..;have hz:(s.heap.update it (J1 (·.setIfInBounds 0 J3))).objs.size=s.heap.objs.size:=BZ.1;refine sG (g0:=g0) hh ?_ ?_ ((hc.keep λb hb o q=>BZ.extBut _ _ (xB hI hb) q).keep λb J o q=>Wq _ (Wq _ q)) (Gl _ Z) Z (by simp;exact ZR) ?_
 . refine WU ?_;exact aa (show amx _=_ from No ..) (aa hz (Ni gl))
 . refine WU ?_;exact aa (show amx _=_ from No ..) (aa hz (Ni dc))
 refine ag (Oq (T:="StopIteration") (b:=Wn) (af _ (ajS _ (Gl _ Z) (WR (AX Z _))) (YD ..)) Hb ?_);refine aX (hQ _ λb o hb q=>?_);refine (DV _ _ _ _ ?_).trans (Wq _ (Wq _ (BZ.extBut _ _ hb q)));refine WU ?_;exact aa (show amx _=_ from No ..) (aa hz (Ni (M7 q)))
theorem Walks.aal {g g0 I:Wr}(hh:A.handled=AN (.ref g))(hI:I≠g/\I≠g0)(x:Str)(t:Tok) :
 Walks prog w A I [I,g,g0] [I] x.cps.size (SignAt x) (λi h=>h.IsStrIter I "str_ascii_iterator" x t i/\mi h g g0/\∃o,h.get? g0=AN o) where
 sub:=λb hb=>by simp at hb;simp [hb]
 frame:=λ_ _ _ ⟨⟨o,ho,r⟩,st,o0,h0⟩ hk=>(nY (af o (hk I (by simp) o ho) r) (st.keep λb hb o q=>hk b (by rcases hb with rfl | rfl <;> simp) o q) o0 (hk g0 (by simp) o0 h0))
 item:=λi s Q E hi st hQ=>by obtain ⟨gb,st2,o0,h0⟩:=st;refine wpAny_pyNext_ascii_item gb (c:=x.cps[i]) (by simp [hi]) λh' Go dz=>hQ _ h' (s.toks+1) (d8 _ _ (by simp [hi]) Z) (nY Go (st2.keep λb hb o q=>dz.extBut _ _ (xB hI hb) q) o0 (dz.extBut _ _ (Gy hI.2) h0)) λb o hb e=>dz.extBut b o (λh=>hb (by simp [h])) e
 done:=λs Q E st hQ=>by obtain ⟨gb,st2,o0,h0⟩:=st;exact nG hh st2 hI (M7 h0) gb (by simp) λh' zQ=>hQ h' s.toks λb o hb e=>zQ b o (λh=>hb (by simp [h])) e
 self:=λJ J J J st hQ=>wpAny_pyIter_striter_ascii st.1 hQ
theorem acm {R:Result->nj}{g g0:Wr}(hh:A.handled=AN (.ref g))(x:Str)(t:Tok)(ha:x.cps.all (· < 128)=Wn)(D:Wr)(res:Ws)(qB:Array Ws)(abn:Nat)(hS:s.heap.get? D=AN {cls:=.type "list",data:=.seq qB abn})
 (hc:mi s.heap g g0) (h0:∃o,s.heap.get? g0=AN o) (hDg:D≠g/\D≠g0)
 (hR:∀h' tk jp c',(∀b o,b≠D->s.heap.get? b=AN o->h'.get? b=AN o)->h'.get? D=AN {cls:=.type "list",dict:=Wm,data:=.seq jp c',slots:=#[]}->
  ItemsOf (λj v=>if j<qB.size then qB[j]?=AN v else SignAt x (j-qB.size) v) jp (qB.size+x.cps.size)->R (.ok (.ret res)) {s with heap:=h',toks:=tk}) (hn:qB.size+x.cps.size<=Wo) :
 Dk (model prog w) A.in1 (aih (.ref D) (.str x t) res)
  (λfin s'=>match fin with | .done f=>R (.ok f) s' | .again c'=>c'.quiet=Wn/\G4 (model prog w) A c' R s') (λe s'=>R (.error e) s') s:=by
 have gl:g<s.heap.objs.size:=by refine FL hc.at_ λog vg q J=>?_;exact M7 q
 have g0l:g0<s.heap.objs.size:=by refine Ml h0 λo q=>?_;exact M7 q
 have K9:D∉[s.heap.objs.size,g,g0]:=λq=>by
  simp only [JU,rH,or_false] at q;rcases q with q | q | q
  . exact (WU (M7 hS)) q
  . exact hDg.1 q
  . exact hDg.2 q
 delta aih;refine ag (Bc (T:="str") (v:=.str x t) Z ?_);have e1:amM (.ref D) (.str x t)=Wp:=rfl;have e2:(uP "str"==uP "list")=Wp:=rfl;have e3:(uP "str"==uP "tuple")=Wp:=rfl;simp only [e1,e2,e3,amG,mQ,if_false];refine ag (aiC ha (ag (pa ?_)));delta amd;refine ag (X0 (T:="str") (v:=.str x t) Z PySem.F.str_len ?_)
 wp_delta
 refine ag (Oq (T:="str") (v:=.str x t) (b:=Wn) Z (Z) (ag (Bc (T:="str") (v:=.str x t) Z (aX (aa (if_neg (by decide)) ?_)))));have W':=Br (Walks.aal (prog:=prog) (w:=w) (A:=A.in1) (I:=s.heap.objs.size) (g:=g) (g0:=g0) hh ⟨Nv gl,Nv g0l⟩ x t).toS qB.size (λj v=>qB[j]?=AN v);have be:Heap.IsStrIter (s.heap.push {cls:=.type "str_ascii_iterator",data:=.fields #[.str x t,.int 0 0]}) s.heap.objs.size "str_ascii_iterator" x t 0:=(aU _ (Gl _ Z) Z Z)
 refine aX ⟨akJ PySem.F.plain_extend_loop _,codeAny_extend_loopS W' hn D K9 res x.cps.size qB.size _ qB abn (ZZ) (Ur) ⟨bP _,by refine aa (Hd _) ?_;exact (aV be (hc.keep λb J o q=>Wq _ q) (Ml h0 λo q=>(cj o (Wq _ q))))⟩ (cC _ hS) ⟨Z,λj v e=>?_⟩ λs' jp c' mv hD LE=>?_⟩
 . have hj:j<qB.size:=(agI.mp e).1;simp only [hj,if_true];exact e
 . refine aa (Moved.eq_with mv) (hR s'.heap s'.toks jp c' (λb ob hb e=>mv.heap b ob (λq=>?_) (cC _ e)) hD LE);rcases eO q with q | q
   . exact hb q
   . exact absurd (M7 e) (by refine aa (bN q) ?_;exact KO _)
end
section
variable {s s':Gb}{pos:Pos}
set_option tactic.hygienic true in
set_option backward.match.sparseCases true in
theorem sH {k kx:Nat}{g:Wr}{ob:Obj}{x:Str}{xs:bZ}(hh:C.handled=AN (.ref g))(hx:S.heap[kx]?=AN (.exc g ob))(ha:x.cps.all (· < 128)=Wn)(hk:S.heap[k]?=AN (.list xs))(hsz:xs.length+x.cps.size<=Wo)(k':K .none {S with heap:=S.heap.set k (.list (xs++signs x))}):eJ c C (.builtin "list.extend") [.ref k,.str x] S K X:=by
 intro A F bs s rs hA z hvv;refine dr hvv.two λr q o4 h1 h2=>?_;obtain rfl:=o4;refine Ml h2.inv λt o3=>?_;obtain rfl:=o3;refine Cg (z.gq h1 hk) λa o1 hb o2 hF=>?_;obtain rfl:=o1;refine Va o2 λvs yf bn=>?_;obtain ⟨n,h0⟩:=yf;obtain dc:kx<bs.length:=by simp only [z.wd.len];exact (bA hx).1
 obtain ⟨ga,NV⟩:∃a,bs[kx]?=AN a:=(cj _ (cm dc))
 refine XZ (z.wd.obj kx ga _ NV hx) λtH hFg=>?_;obtain ⟨e1,vg,e2,_,_,e3,e4⟩:=tH;subst e1;obtain ⟨g0,hc,h00,yN⟩:∃g0,mi s.heap ga g0/\(∃o,s.heap.get? g0=AN o)/\a≠ga/\a≠g0:=by
  have yN:a≠ga:=λq=>by subst q;rw [h0] at e2;cases e2;cases e3
  rcases e4 with q | ⟨g0,q1,o0,v0,q2,q3,q4⟩
  . exact (kz ga ⟨(bW ob vg e2 e3 (.inl q))⟩ (cj ob e2) yN yN)
  . have q5:=z.wd.sub _ _ q2;refine (kz g0 ⟨(bW ob vg e2 e3 (.inr (we q1 (λq=>?_) o0 v0 q5 q3 q4)))⟩ (cj o0 q5) yN (λq=>?_))
    . subst q;rw [(hFg (by simp))] at q2;cases q2
    . subst q;rw [h0] at q5;cases q5;cases q3
 refine KY (Yh Ym.plain PySem.F.entry_list_extend (Ym.check _ _ _ _ _ _ _ _ (af _ h0 Z) (PySem.F.args_list_extend_2 _ _) ?_));refine acm (prog:=c.prog) (w:=c.w) (R:=λr s'=>match r with | .ok (.ret v)=>WV c C c.V F bs s.heap K v s' | .ok _=>False | .error e=>WX c C F bs s.heap X e s') (hA.handled.trans hh) x t ha a .none vs.toArray n h0 hc h00 yN (λh' tk jp c' keep ha hi=>?_) (by simpa [bn.length] using hsz);have tp:jp.toList.length=vs.length+x.cps.size:=by have:=hi.1;simpa using this
 have e1:jp.toList.take vs.length=vs:=by
  refine Yi λj=>aa aiJ ?_
  split
  . rename_i hj;have FJ:=Uu hj tp;have:=hi.2 j jp.toList[j] (by simpa using cm FJ);simp only [Yd,hj,if_true] at this;refine aa (cm FJ) ?_;simpa using this.symm
  . rename_i hj;exact aa (Gu.mpr (Uk hj)) Z
 have aam:c.Vs F bs (signs x) (jp.toList.drop vs.length):=by refine ED F bs x.cps.toList _ (by simp [tp]) λj v hj=>?_;rw [List.getElem?_drop] at hj;have:=hi.2 (vs.length+j) v (by simpa using hj);simp only [Yd,show ¬vs.length+j<vs.length by exact Z0,if_false,ahp] at this;refine FL this λd u q1 q2=>?_;exact (d8 d u (by simpa using q1) q2)
 have LK:c.Vs F bs (xs++signs x) jp.toList:=by exact az (ajX vs.length jp.toList) (aa e1 (bn.append aam))
 obtain T:fC a s {s with heap:=h',toks:=tk}:=⟨λb q o e=>keep b o q e,(cj _ ha),Z,Z⟩
 exact ⟨F,bs,.none,_,.upd T (.inl (bO hb)),z.upd (o':=.list (xs++signs x)) T hb hk (by simp) (af jp.toList (cj c' (ha)) LK),.none,k'⟩
end
noncomputable abbrev s1 (i:Nat):AV:=.str (tx [i])
theorem pZ (n:Nat)(l:au):AV.bX n (l.map s1)=Wn:=by
 induction l with
 | nil=>rfl
 | cons x l ih=>exact yi.mpr ⟨Z,ih⟩
theorem sI (l:au):signs (tx l)=l.map s1:=by show (tx l).cps.toList.map (λc=>AV.str ⟨#[c]⟩)=_;refine aa (dU _) (aa Wu ?_);rfl
noncomputable def JK (a b:Nat):Bool:=decide (a<b)
noncomputable def pe:Nat->au->au->au×List Nat
 | n+1,x::xs,y::ys=>
   if JK x y then (x::(pe n (xs.dropWhile (·==x)) (y::ys)).1,(pe n (xs.dropWhile (·==x)) (y::ys)).2)
   else if JK y x then ((pe n (x::xs) (ys.dropWhile (·==y))).1,y::(pe n (x::xs) (ys.dropWhile (·==y))).2)
   else pe n (xs.dropWhile (·==x)) (ys.dropWhile (·==y))
 | _,xs,ys=>(xs,ys)
theorem E4 (n:Nat)(x y:Nat)(xs ys:au):pe (n+1) (x::xs) (y::ys) =
 if JK x y then (x::(pe n (xs.dropWhile (·==x)) (y::ys)).1,(pe n (xs.dropWhile (·==x)) (y::ys)).2)
 else if JK y x then ((pe n (x::xs) (ys.dropWhile (·==y))).1,y::(pe n (x::xs) (ys.dropWhile (·==y))).2)
 else pe n (xs.dropWhile (·==x)) (ys.dropWhile (·==y)):=rfl
theorem Js {α:Type}(p:α->Bool)(l:List α):(l.dropWhile p).length<=l.length:=(ahC p).length_le
theorem gH (n:Nat)(ys:au):pe n [] ys=([],ys):=by cases n <;> rfl
theorem ig (n:Nat)(xs:au):pe n xs []=(xs,[]):=by cases n <;> cases xs <;> rfl
theorem An (n:Nat):∀(xs ys:au),(pe n xs ys).1.length<=xs.length/\(pe n xs ys).2.length<=ys.length:=by
 induction n with
 | zero=>intro xs ys;exact ⟨bP _,bP _⟩
 | succ n ih=>
   intro xs ys;cases xs with
   | nil=>refine aa (gH _ _) ?_;simp
   | cons x xs=>
     cases ys with
     | nil=>refine aa (ig _ _) ?_;simp
     | cons y ys=>
       obtain hx:=Js (·==x) xs;obtain hy:=Js (·==y) ys;rw [E4]
       split
       . obtain this:=ih (xs.dropWhile (·==x)) (y::ys);simp at this ⊢;exact (⟨bJ this.1 hx,this.2⟩)
       . split
         . obtain this:=ih (x::xs) (ys.dropWhile (·==y));simp at this ⊢;exact (⟨this.1,bJ this.2 hy⟩)
         . obtain this:=ih (xs.dropWhile (·==x)) (ys.dropWhile (·==y))
           exact (⟨Xj (bJ this.1 hx),Xj (bJ this.2 hy)⟩)
noncomputable def HG:mK:=dO jw 2
theorem aan {st:fW}{K:gX}(h:Ex c C st S K X)(hx:∀cls S,X cls S->X' cls S):Ex c C st S K X':=λA F bs s hA z=>(h A F bs s hA z).mono (λJ J q=>q) hx
inductive UD (xs ys R1 R2:au)(i j:Nat)(m u:au)(S':AS):Prop
 | mk (hL:aW S' [(0,.str (tx xs)),(1,.str (tx ys)),(2,.int i),(3,.int j),(4,.ref 0),(5,.ref 1)]) (hH:S'.heap=[.list (m.map s1),.list (u.map s1)]) (hi:i<=xs.length) (hj:j<=ys.length)
inductive aao (xs ys R1 R2:au)(S':AS):Prop
 | mk (i j:Nat) (m u:au) (h:UD xs ys R1 R2 i j m u S') (h1:m++xs.drop i=R1/\u++ys.drop j=R2)
inductive aap (xs ys:au)(R:au×List Nat)(k:Nat)(S':AS):Prop
 | mk (i j:Nat) (m u:au) (h:UD xs ys R.1 R.2 i j m u S') (hk:(xs.length-i)+(ys.length-j)<=k) (h1:m++(pe k (xs.drop i) (ys.drop j)).1=R.1) (h2:u++(pe k (xs.drop i) (ys.drop j)).2=R.2)
theorem LL (B:Base c mg mb)(hf:fk c fa HG .none)(s4:dR mg mb "IndexError" (.type "IndexError"))(xs ys:au)(vW:xs.length<1000)(E5:ys.length<1000)(aaq:∀x∈xs,x<31)(aar:∀y∈ys,y<31)(n:Nat): bQ c (n+1) (.ref fa) [.str (tx xs),.str (tx ys)] [] (λv J=>v.under 0=Wn/\v=.tup [.lst ((pe (xs.length+ys.length) xs ys).1.map s1),.lst ((pe (xs.length+ys.length) xs ys).2.map s1)]):=by
 refine hf.fu B ["expected","actual"] ["expected","actual","i","j","missing","unexpected","e","a"] [(0,.str (tx xs)),(1,.str (tx ys))] (λJ J J=>Z) Z Z (by decide +kernel) λenv own frames be kq=>?_
 . refine XZ (An (xs.length+ys.length) xs ys) λr1 r2=>?_;generalize hR:pe (xs.length+ys.length) xs ys=R at r1 r2;refine ae (qm (aE (ah 2 Z (be 2 _ Z) (ah 3 Z (be 3 _ Z) (ae (aj (iS (cn ⟨by simp [Wo],ah 4 Z (be 4 _ Z) (ae (aj (iS (cn ⟨by simp [Wo],ah 5 Z (be 5 _ Z) ?_⟩))))⟩))))))));refine ae (iZ kq (aap xs ys R) (xs.length+ys.length)
    ⟨0,0,[],[],⟨(aW.of Z),Z,WO 0 _,WO 0 _⟩,(bP (_-0+(_-0))),by simp [hR],by simp [hR]⟩ ?_)
   intro k S' o1;obtain ⟨i,j,m,u,⟨hL,hH,hi,hj⟩,hk,hm,hu⟩:=o1;refine i7 (zC (ba (bo _ hL (aa hH ?_))));have lm:m.length<=xs.length:=by have:=congrArg XG hm;simp at this;exact bJ (cA _ _) (this▸r1)
   have lu:u.length<=ys.length:=by have:=congrArg XG hu;simp at this;exact bJ (cA _ _) (this▸r2)
   refine ae (afn kq "IndexError" (by rfl) (by rfl) (by rfl) (aan (X:=λcls ai=>gj cls="IndexError"/\aao xs ys R.1 R.2 ai) ?_ ?_))
   . refine ae (aj (bH (ab 0 Z Z (ab 2 Z Z ⟨cB,?_⟩))));by_cases nt:i<xs.length
     rotate_left
     . refine fZ Z (by refine aa (cb _) ?_;exact NA.mpr (nO nt)) (qN vW hi) ⟨by decide,i,j,m,u,⟨(aW.of Z),Z,hi,hj⟩,?_⟩;rw [Yr (nO nt),gH] at hm hu;exact aa (Yr (nO nt)) ⟨hm,hu⟩
     have dx:=N8 nt;generalize hx:xs[i]=x at dx;refine kQ x9 (qN vW hi) (aa (Gf _) (aa (cm nt) (aa hx Z))) (ah 6 Z (be 6 _ Z) (ae (aj (bH (ab 1 Z Z (ab 3 Z Z ⟨cB,?_⟩))))));by_cases Jl:j<ys.length
     rotate_left
     . refine fZ Z (by refine aa (cb _) ?_;exact NA.mpr (nO Jl)) (qN E5 hj) ⟨by decide,i,j,m,u,⟨(aW.of Z),Z,hi,hj⟩,?_⟩;have dn:=Yr (nO Jl);rw [dn,ig] at hm hu;exact aa dn ⟨hm,hu⟩
     have dy:=N8 Jl;generalize hy:ys[j]=y at dy;refine kQ x9 (qN E5 hj) (aa (Gf _) (aa (cm Jl) (aa hy Z))) (ah 7 Z (be 7 _ Z) ?_);obtain ⟨k,rfl⟩:∃k',k=k'+1:=(cj (k-1) ((Nat.succ_pred_eq_of_pos (cV (Nat.sub_pos_of_lt nt) (bJ (cA ..) hk))).symm))
     rw [dx,dy] at hm hu;rw [E4] at hm hu;have up:∀a:Nat,((a:Nat):Int)+1=((a+1:Nat):Int):=λa=>Z;refine ae (b9 (bp (ab 6 Z Z (ab 7 Z Z (E3 x y (ba ?_))))));cases h1:JK x y with
     | true=>
       rw [h1] at hm hu;simp only [if_true] at hm hu;refine aa (show decide (x<y)=Wn from h1) (ae (cw (cq "list" "list.append" M1 Gk Dq (ab 4 Z Z ⟨by rfl,aw (ab 6 Z Z (gu Z (by simp [Wo];exact il (dg lm vW) Z) ?_))⟩)) (by rfl)));refine ae (ff 2 Z Z (be 2 _ Z) (aE (fP (aa (up _) (ae (kg 0 2 6 (λi=>[(0,.str (tx xs)),(1,.str (tx ys)),(2,.int i),(3,.int j),(4,.ref 0),(5,.ref 1),(6,s1 x),(7,s1 y)]) kq Z Z Z (be 2 _ Z) (λJ=>Z) (λJ=>Z) (λJ=>Z) (λJ=>Z) (i+1) Z (mz nt) (nU vW) ?_ ?_))))))
       . intro K' hd;refine fZ Z (by refine aa (cb _) ?_;exact G9 _) (nT vW) ⟨by decide,xs.length,j,m++[x],u,⟨(aW.of Z),?_,ky,hj⟩,?_⟩
         . simp
         . rw [hd,gH] at hm hu;simp only [w5,Kg];exact aa dy ⟨hm,hu⟩
       . intro i' h2 h3 h4;refine aD (aD (aD ⟨k,ya,i',j,m++[x],u,⟨(aW.of Z),?_,pA h3,hj⟩,(Dc (cV (YI (N0 nt h2) _) hk)),?_,?_⟩))
         . simp
         . refine aa h4 (aa dy ?_);rw [MW];exact hm
         . exact aa h4 (aa dy hu)
     | false=>
       rw [h1] at hm hu;simp only [mQ,if_false] at hm hu;refine aa (show decide (x<y)=Wp from h1) (ae (b9 (bp (ab 6 Z Z (ab 7 Z Z (LJ x y (ba ?_)))))));cases h2:JK y x with
       | true=>
         rw [h2] at hm hu;simp only [if_true] at hm hu;refine aa (show decide (y<x)=Wn from h2) (ae (cw (cq "list" "list.append" M1 Gk Dq (ab 5 Z Z ⟨by rfl,aw (ab 7 Z Z (gu Z (by simp [Wo];exact il (dg lu E5) Z) ?_))⟩)) (by rfl)));refine ae (ff 3 Z Z (be 3 _ Z) (aE (fP (aa (up _) (ae (kg 1 3 7 (λj=>[(0,.str (tx xs)),(1,.str (tx ys)),(2,.int i),(3,.int j),(4,.ref 0),(5,.ref 1),(6,s1 x),(7,s1 y)]) kq Z Z Z (be 3 _ Z) (λJ=>Z) (λJ=>Z) (λJ=>Z) (λJ=>Z) (j+1) Z (mz Jl) (nU E5) ?_ ?_))))))
         . intro K' hd;refine fZ Z (by refine aa (cb _) ?_;exact G9 _) (nT E5) ⟨by decide,i,ys.length,m,u++[y],⟨(aW.of Z),?_,hi,ky⟩,?_⟩
           . simp
           . rw [hd,ig] at hm hu;simp only [w5,Kg];exact aa dx ⟨hm,hu⟩
         . intro j' h3 h4 h5;refine aD (aD (aD (aD ⟨k,ya,i,j',m,u++[y],⟨(aW.of Z),?_,hi,pA h4⟩,(Dc (cV (iB (N0 Jl h3) _) hk)),?_,?_⟩)))
           . simp
           . exact aa h5 (aa dx hm)
           . refine aa h5 (aa dx ?_);rw [MW];exact hu
       | false=>
         rw [h2] at hm hu;simp only [mQ,if_false] at hm hu;refine aa (show decide (y<x)=Wp from h2) (ae (ff 2 Z Z (be 2 _ Z) (aE (fP (aa (up _) (ae (afq kq (ae (kg 0 2 6 (λi=>[(0,.str (tx xs)),(1,.str (tx ys)),(2,.int i),(3,.int j),(4,.ref 0),(5,.ref 1),(6,s1 x),(7,s1 y)]) kq Z Z Z (be 2 _ Z) (λJ=>Z) (λJ=>Z) (λJ=>Z) (λJ=>Z) (i+1) Z (mz nt) (nU vW) ?_ ?_)))))))))
         . intro K' hd;refine fZ Z (by refine aa (cb _) ?_;exact G9 _) (nT vW) ⟨⟨by decide,by decide⟩,λe ob io=>?_⟩;rw [hd] at hm hu;rw [gH] at hm hu;have nil:xs.drop xs.length=[]:=by simp
           refine ae (ff 3 Z Z (be 3 _ Z) (aE (fP (aa (up _) (ae (kg 1 3 7 (λj=>[(0,.str (tx xs)),(1,.str (tx ys)),(2,.int xs.length),(3,.int j),(4,.ref 0),(5,.ref 1),(6,s1 x),(7,s1 y)]) kq Z Z Z (be 3 _ Z) (λJ=>Z) (λJ=>Z) (λJ=>Z) (λJ=>Z) (j+1) Z (mz Jl) (nU E5) ?_ ?_))))))
           . intro K' sp;rw [sp] at hm hu;refine vH (k:=2) (g:=e) (ob:=ob) Z Z io (by refine aa (cb _) ?_;exact G9 _) (nT E5) (kz [(0,.str (tx xs)),(1,.str (tx ys)),(2,.int xs.length),(3,.int ys.length),(4,.ref 0),(5,.ref 1)] (lG Z Z Z Z Z Z Z Z Z Z Z Z trivial) ?_ (Z) ⟨xs.length,ys.length,m,u,⟨(aW.of Z),Z,ky,ky⟩,?_⟩)
             . simp [pZ]
             . simp only [w5];exact ⟨hm,hu⟩
           . intro j' h3 h4 h5;refine aD (acd Z [(0,.str (tx xs)),(1,.str (tx ys)),(2,.int xs.length),(3,.int j'),(4,.ref 0),(5,.ref 1)] (lG Z Z Z Z Z Z Z Z Z Z Z Z trivial) ?_ (by decide) ⟨xs.length,j',m,u,⟨(aW.of Z),Z,ky,pA h4⟩,?_⟩)
             . simp [pZ]
             . exact aa h5 (aa nil ⟨hm,hu⟩)
         . intro i' h3 h4 h5;refine aD (ae (ff 3 Z Z (be 3 _ Z) (aE (fP (aa (up _) (ae (kg 1 3 7 (λj=>[(0,.str (tx xs)),(1,.str (tx ys)),(2,.int i'),(3,.int j),(4,.ref 0),(5,.ref 1),(6,s1 x),(7,s1 y)]) kq Z Z Z (be 3 _ Z) (λJ=>Z) (λJ=>Z) (λJ=>Z) (λJ=>Z) (j+1) Z (mz Jl) (nU E5) ?_ ?_)))))))
           . intro K' sp;refine fZ Z (by refine aa (cb _) ?_;exact G9 _) (nT E5) ⟨by decide,i',ys.length,m,u,⟨(aW.of Z),Z,pA h4,ky⟩,?_⟩;rw [sp,ig] at hm hu;simp only [w5,Kg];exact aa h5 ⟨hm,by simpa using hu⟩
           . intro j' h6 h7 h8;refine aD (aD (aD (aD (aD ⟨k,ya,i',j',m,u,⟨(aW.of Z),Z,pA h4,pA h7⟩,acb h3 h6 hk,?_,?_⟩))))
             . exact aa h5 (aa h8 hm)
             . exact aa h5 (aa h8 hu)
   . intro cls ai o2;obtain ⟨hc,i,j,m,u,⟨hL,hH,hi,hj⟩,hm,hu⟩:=o2;refine ⟨hc,λe=>bY B (Z) s4.1 s4.2 ⟨Z,λob=>bo _ (hL.heap _) ?_⟩⟩;show Ex c _ _ ⟨_,ai.heap++[.exc e ob]⟩ _ fy;refine aa hH ?_;have lm:m.length<=xs.length:=by have:=congrArg XG hm;simp at this;exact bJ (cA ..) (this▸r1)
     have lu:u.length<=ys.length:=by have:=congrArg XG hu;simp at this;exact bJ (cA ..) (this▸r2)
     have dl:∀(l:au) (k:Nat),(l.drop k).length<=l.length:=λl k=>by refine aa List.length_drop ?_;exact Zd _ _
     have asc:∀l:au,(∀x∈l,x<31)->(tx l).cps.all (· < 128)=Wn:=λl hl=>by refine bb ak2 ?_;intro c hcm;have:=akk.mpr hcm;rw [dU,MU] at this;obtain ⟨a,ha,rfl⟩:=this;exact decide_eq_true (PB (hl a ha))
     refine ae (cw (cq "list" "list.extend" M1 Ym aja (ab 4 Z Z ⟨by rfl,aw (mN (ab 0 Z Z (ab 2 Z Z (mD _ Z (tx xs) i Z Z (by refine aa (cb _) ?_;exact XI (Xw vW) (by simp [Wo])) ?_))))⟩)) (by rfl));refine aa (qV _ _) (sH (k:=0) (kx:=2) (g:=e) (ob:=ob) Z Z (asc _ λx hx=>aaq x (akl hx)) Z (by refine aa (Wl _) ?_;show _+(tx _).length<=_;refine aa (cb _) ?_;have:=dl xs i;simp only [Wo];exact PW vW lm this) ?_);refine aa (sI _) (az C5 (ae (cw (cq "list" "list.extend" M1 Ym aja (ab 5 Z Z ⟨by rfl,aw (mN (ab 1 Z Z (ab 3 Z Z (mD _ Z (tx ys) j Z Z (by refine aa (cb _) ?_;exact XI (Xw E5) (by simp [Wo])) ?_))))⟩)) (by rfl))));refine aa (qV _ _) (sH (k:=1) (kx:=2) (g:=e) (ob:=ob) Z Z (asc _ λx hx=>aar x (akl hx)) Z (by refine aa (Wl _) ?_;show _+(tx _).length<=_;refine aa (cb _) ?_;have:=dl ys j;simp only [Wo];exact PW E5 lu this) ?_);refine aa (sI _) (az C5 (aa hm (aa hu (ae (pH (gm (c9.list 4 Z Z) (gm (c9.list 5 Z Z) (ae (bt (jV (bG (ab 4 Z Z (aw (ab 5 Z Z (aV (by simp [Wo]) ?_ Z)))))))))))))));simp [pZ]
noncomputable def fJ (own:List (Nat×List Nat)):gh:=own.map λp=>(tx [p.1],.str (tx p.2))
theorem zb (a b:Nat):(tx [a]=tx [b])=(a=b):=by refine propext ⟨λh=>?_,λh=>aa h Z⟩;simpa using (EY h)
theorem kh (own:List (Nat×List Nat))(l:Nat):bC (fJ own) (tx [l])=(bC own l).map λw=>.str (tx w):=by
 induction own with
 | nil=>rfl
 | cons p own ih=>
   unfold bC fJ at *;by_cases e:p.1=l
   . simp [e]
   . have e1:¬tx [p.1]=tx [l]:=by refine aa (zb _ _) ?_;exact e
     simp only [WW,lS,e1,e,decide_false];exact ih
theorem By (own:List (Nat×List Nat))(l:Nat)(w:au):ct (fJ own) (tx [l]) (.str (tx w))=fJ (ct own l w):=by
 have s8:∀own:List (Nat×List Nat),(fJ own).any (λkv=>decide (kv.1=tx [l]))=own.any (λkv=>decide (kv.1=l)):=λown=>by unfold fJ;refine aa K0 ?_;congr 1;funext p;simp [zb]
 have aas:∀own:List (Nat×List Nat),((fJ own).map λkv=>if kv.1=tx [l] then (kv.1,AV.str (tx w)) else kv)=fJ (own.map λkv=>if kv.1=l then (kv.1,w) else kv):=λown=>by
  unfold fJ;refine aa Wu (aa Wu (WL λp J=>?_));by_cases e:p.1=l
  . simp [e]
  . simp [zb,e]
 unfold ct;refine aa (s8 own) ?_
 split
 . exact aas own
 . unfold fJ;refine aa C5 ?_;rfl
noncomputable def eC (s w:au):au×List Nat:=pe ((s.headD 0::s).length+(w.tail++[s.getLastD 0]).length) (s.headD 0::s) (w.tail++[s.getLastD 0])
noncomputable def sJ (s w:au):au:=l9 ((eC s w).1++(eC s w).2)
noncomputable def fo (own:List (Nat×List Nat))(nm:Nat)(s:au):Option au:=
 if s=[] then Wm else match bC own (s.getLastD 0) with
 | none=>Wm
 | some w=>if w.headD 0<nm then AN w else Wm
structure OkW (s w:au):Prop where
 s31:∀x∈s,x<31
 w31:∀x∈w,x<31
 sl:s.length<20
 wl:w.length<20
 wn:w≠[]
 chk:(eC s w).1.filter (λx=>!s.contains x)=[]
 aat:(eC s w).2.filter (λx=>s.contains x)=[]
inductive xC (own:List (Nat×List Nat))(nm:Nat):au->au->Nat->Prop
 | done {s:au} (h:fo own nm s=Wm) (ok:∀w,bC own (s.getLastD 0)=AN w->w≠[]):xC own nm s s 0
 | step {s w t:au} {m:Nat} (h:fo own nm s=AN w) (ok:OkW s w) (r:xC own nm (sJ s w) t m):xC own nm s t (m+1)
noncomputable abbrev kR:bD:=["lexer","owners","word","name","sides","lacking","strange"]
noncomputable abbrev zc (n k nm:Nat)(s:au):d7:=[(0,.ref (n+5)),(1,.ref k),(3,.str (tx [nm])),(4,.str (tx s))]
structure xD (c:aZ)(mg mb:eI)(Kf:DW)(l:lX)(ST:Wr):Prop where
 V:VW c mg mb Kf l
 pe:fk c ST HG .none
 UE:mg "sorted_list_difference"=AN (.ref ST)
 E6:dR mg mb "IndexError" (.type "IndexError")
 gG:dR mg mb "sorted" (.builtin "sorted")
 t8:dR mg mb "iter" (.builtin "iter")
theorem ug {s:au}(h:s≠[]):∃i,s=i++[s.getLastD 0]:=by refine (cj s.dropLast ?_);refine aa aiS (aa (ahY h) ?_);exact (List.dropLast_concat_getLast h).symm
theorem acp {w:au}(h:w≠[]):w=w.headD 0::w.tail:=by cases w with | nil=>exact absurd rfl h | cons=>rfl
theorem MB {s:au}(h:s≠[]):s.headD 0∈s:=by cases s with | nil=>exact absurd rfl h | cons=>exact .head _
theorem gI {s:au}(h:s≠[]):s.getLastD 0∈s:=by refine aa aiS (aa (ahY h) ?_);exact List.getLast_mem h
theorem E7 (s:au)(x:Nat):(!(u3 (tx s) (tx [x]) 0 (tx s).length 1).isEmpty)=s.contains x:=by exact aa (show tx [x]=⟨#[x+97]⟩ from Z) (aa (StrLaws.found_one _ _) (aa (dU _) (bb yz (bb decide_eq_true_iff (bb Na (bb MU ⟨λ⟨a,h1,h2⟩=>(show a=x from PO h2)▸h1,λh=>(af x h Z)⟩))))))
section
variable {l:lX}{sa:Wr}{pos:Pos}
theorem jj {s:au}(h:s≠[]){K:cu}(k:K (.str (tx [s.getLastD 0])) S):iA c C X2 (.str (tx s)) (.int (-1)) S K X:=by
 obtain ⟨i,hi⟩:=ug h;refine vo (l:=i.map λi=>i+97) (cp:=s.getLastD 0+97) ?_ k;refine aa (dU _) ?_;conv=>lhs;rw [hi]
 simp
theorem pf {w:au}(h:w≠[]){K:cu}(k:K (.str (tx [w.headD 0])) S):iA c C X2 (.str (tx w)) (.int 0) S K X:=by
 refine kQ (by decide) (by decide) ?_ k
 conv=>lhs;rw [acp h]
 rfl
theorem xE (G:xD c mg mb Kf l sa){env:Env}{ds:aJ}{frames:List Env}{m:Nat}(be:Stores (jD eX env ds frames (m+7) kR))(kq:gC (jD eX env ds frames (m+7) kR)){st:Pc}(h0:(jd eX.body 2)[1]?=AN st){n k nm:Nat}{own:List (Nat×List Nat)}{s t:au}{q:Nat}(r:xC own nm s t q){H:aR}(hk:H[k]?=AN (.aN (fJ own))){S:AS}(hL:aW S (zc n k nm s))(hH:S.heap=H){K:gX}(kk:∀S',aW S' (zc n k nm t)->S'.heap=H->K .next S'): lB c (jD eX env ds frames (m+7) kR) st S K fy:=by
 obtain rfl:=WM h0;have B:=G.V.B.toBase;refine iZ kq (λj S'=>∃s,aW S' (zc n k nm s)/\S'.heap=H/\xC own nm s t j) q (aU s hL hH r) ?_;rintro j ⟨lc,H'⟩ ⟨s,hL,rfl,r⟩;simp only at hk kk;have tab:∀lc,TabOf ⟨lc,H'⟩ (.ref k) (fJ own):=λlc=>.inr (af k Z hk);refine adX (bp (ab 4 Z (hL.at 4 _ Z) (dw (yg (ba (aa (show (tx s != ("":Str))=!decide (s=[]) by rw [show ("":Str)=tx [] from Z,bne,Al]) ?_))))));by_cases hs:s=[]
 . subst hs;rw [show (!decide (([]:au)=[]))=Wp from Z];cases r with
   | done _ _=>exact kk _ hL Z
   | step h _ _=>cases h
 rw [show (!decide (s=[]))=Wn by simp [hs]];refine bp (bH (ab 4 Z (hL.at 4 _ Z) (lK (aE (i6 ⟨cB,jj hs (ab 1 Z (hL.at 1 _ Z) (Dg (tab _) (ba ?_)))⟩)))));rw [kh,als];cases ho:bC own (s.getLastD 0) with
 | none=>
   have:fo own nm s=Wm:=by unfold fo;rw [if_neg hs,ho]
   cases r with
   | done _ _=>exact kk _ hL Z
   | step h _ _=>rw [this] at h;cases h
 | some w=>
   have Bu:bC (fJ own) (tx [s.getLastD 0])=AN (.str (tx w)):=by rw [kh,ho];rfl
   have po:fo own nm s=if w.headD 0<nm then AN w else Wm:=by unfold fo;rw [if_neg hs,ho]
   have hwn:w≠[]:=by
    cases r with
    | done _ ok=>exact ok w ho
    | step h ok _=>
      rw [po] at h;by_cases q:w.headD 0<nm
      . rw [if_pos q] at h;obtain rfl:=WM h;exact ok.wn
      . rw [if_neg q] at h;cases h
   refine bp (bH (bH (ab 1 Z (hL.at 1 _ Z) (bH (ab 4 Z (hL.at 4 _ Z) (lK (aE (i6 ⟨cB,jj hs ⟨ou (tab _),qS (tab _) Bu (aE ⟨cB,pf hwn (ab 3 Z (hL.at 3 _ Z) (E3 _ _ (ba ?_)))⟩)⟩⟩))))))));by_cases dc:w.headD 0<nm
   rotate_left
   . rw [decide_eq_false dc];rw [if_neg dc] at po;cases r with
     | done _ _=>exact kk _ hL Z
     | step h _ _=>rw [po] at h;cases h
   rw [decide_eq_true dc];rw [if_pos dc] at po;cases r with
   | done h _=>rw [po] at h;cases h
   | @step _ w' _ j h ok r=>
   obtain rfl:=WM (po.symm.trans h);show Ex c _ _ _ _ _;have l1:(s.headD 0::s).length<1000:=by have:=ok.sl;simp;exact QE this
   have l2:(w.tail++[s.getLastD 0]).length<1000:=by have:=ok.wl;simp;exact QG this
   have a31:∀x∈s.headD 0::s,x<31:=λx hx=>by
    rcases JU.mp hx with rfl | hx
    . exact ok.s31 _ (MB hs)
    . exact ok.s31 x hx
   have b31:∀x∈w.tail++[s.getLastD 0],x<31:=λx hx=>by
    rcases M3.mp hx with hx | hx
    . exact ok.w31 x (YJ hx)
    . rw [MX.mp hx];exact ok.s31 _ (gI hs)
   refine ae (aj (l5 B Z (bP _) (by rfl) G.UE G.pe.fnAt (bG (bF (bH (ab 4 Z (hL.at 4 _ Z) (aE ⟨cB,pf hs (ab 4 Z (hL.at 4 _ Z) (iR (by rw [cb,cb];have:=ok.sl;simp [Wo];exact Pz this) ?_))⟩)))))));rw [l8];refine aw (bF (mN (bH (ab 1 Z (hL.at 1 _ Z) (bH (ab 4 Z (hL.at 4 _ Z) (lK (aE (i6 ⟨cB,jj hs ⟨ou (tab _),qS (tab _) Bu (aE (mD _ Z (tx w) 1 Z Z (by rw [cb];have:=ok.wl;simp [Wo];exact PA this) ?_))⟩⟩)))))))));rw [qV,List.drop_one];refine bH (ab 4 Z (hL.at 4 _ Z) (lK (aE (i6 ⟨cB,jj hs (iR (by rw [cb,cb];have:=ok.wl;simp [Wo];exact PA this) ?_)⟩))));rw [l8];refine ⟨Z,_,LL B G.pe G.E6 ([s.headD 0]++s) (w.tail++[s.getLastD 0]) l1 l2 a31 b31 (m+6),?_⟩;show MQ _ _ _ _ _ (.tup [.lst ((eC s w).1.map s1),.lst ((eC s w).2.map s1)]) _;have hlk:=An ((s.headD 0::s).length+(w.tail++[s.getLastD 0]).length) (s.headD 0::s) (w.tail++[s.getLastD 0]);have VB:(eC s w).1.length<=20:=by have:=ok.sl;have:=hlk.1;unfold eC;simp at this ⊢;exact RY ‹_› this
   have nN:(eC s w).2.length<=20:=by have:=ok.wl;have:=hlk.2;unfold eC;simp at this ⊢;exact RZ ‹_› this
   refine pG Z Z (ah 5 Z (be 5 _ Z) (ah 6 Z (be 6 _ Z) (bo (zc n k nm s++[(5,.lst ((eC s w).1.map s1)),(6,.lst ((eC s w).2.map s1))]) (by simpa using (hL.put Z).put Z) ?_)));show Ex c _ _ ⟨_,H'⟩ _ _;refine ae (b9 (bp (bF (gA (sc:=eX.scope) ["sides","side"] [(4,"sides",.str (tx s))] Z (aV Z Z trivial) (show dj _ _ ["sides"] _=Wn by decide +kernel) (fN (ab 5 Z Z (af _ (.inl Z) (dA (gK (λx=>!s.contains x) s1 (eC s w).1) (aV Z Z trivial) (by rw [Wl];simp only [Wo];exact PJ VB) (.inl Z) (λoS EZ fG i y hy hi=>?_) ?_))))))))
   . rw [bV] at hy;refine Va (gW hy) λx hx o1=>?_;obtain rfl:=o1;refine ah 1 Z (fG _ (.inl Z)) (bp (ab 1 Z Z (ab 0 Z Z (Bq (ba ?_)))));rw [E7];cases hc:s.contains x with
     | true=>exact y9 hi (by rw [lZ hx,hc];rfl) (aW.of Z) Z
     | false=>exact ab 1 Z Z (fT hi (by rw [lZ hx,hc];rfl) (aW.of Z) Z)
   rw [Wl,vB,ok.chk];refine .inl (gA (sc:=eX.scope) ["sides","side"] [(4,"sides",.str (tx s))] Z (aV Z Z trivial) (show dj _ _ ["sides"] _=Wn by decide +kernel) (fN (ab 6 Z Z (af _ (.inl Z) (dA (gK (λx=>s.contains x) s1 (eC s w).2) (aV Z Z trivial) (by rw [Wl];simp only [Wo];exact PJ nN) (.inl Z) (λoS EZ fG i y hy hi=>?_) ?_)))))
   . rw [bV] at hy;refine Va (gW hy) λx hx o1=>?_;obtain rfl:=o1;refine ah 1 Z (fG _ (.inl Z)) (bp (ab 1 Z Z (ab 0 Z Z (yo (ba ?_)))));rw [E7];cases hc:s.contains x with
     | false=>exact y9 hi (by rw [lZ hx,hc];rfl) (aW.of Z) Z
     | true=>exact ab 1 Z Z (fT hi (by rw [lZ hx,hc];rfl) (aW.of Z) Z)
   rw [Wl,vB,ok.aat];refine .inl (zO (.inl Z) (.inl Z) (by simp [Wo]) (.inl (lM (cn ⟨by simp [Wo],ad4 (.inl Z) (.inl Z) (by show m+7≠0;exact Qf) (ba ?_)⟩))));refine aD (ae (aj (xw (aw (bS (.builtin "sorted") (bY B (by rfl) G.gG.1 G.gG.2 ⟨Z,aw (bF (ab 5 Z Z (ab 6 Z Z (zO (.inl Z) (.inl Z) (by rw [Wl,Wl];simp only [Wo];exact Sy VB nN) (.inl ?_)))))⟩))))));have e1:(eC s w).1.map s1++(eC s w).2.map s1=(((eC s w).1++(eC s w).2).map λi=>tx [i]).map .str:=by rw [<-C5,Wu];rfl
   rw [e1];refine mF (.inl Z) (by rw [Wl,Nc];exact Sw VB nN) (.inl ?_);rw [ub];refine EC (.inl Z) (ua _ (by rw [(hZ _).length_eq,Nc];exact Sv VB nN)) ?_;rw [show (Ww "")=(⟨#[]⟩:Str) from Z,vE];refine ah 4 Z (be 4 _ Z) (aD ⟨j,Lq,sJ s w,aW.of Z,Z,r⟩)
end
theorem zd (x z:Nat):∀l:au,l.Pairwise (·<=·)->(∀a∈l,x<=a)->(z∈l.dropWhile (·==x)↔z∈l/\x<z)
 | [],_,_=>by simp
 | a::r,hp,hx=>by
   obtain ⟨h1,h2⟩:=Nj.mp hp;refine aa aia ?_;by_cases e:a=x
   . refine aa (if_pos (by simpa using e)) (bb (zd x z r h2 λb hb=>hx b (.tail _ hb)) (bb JU ?_));exact ⟨λ⟨q1,q2⟩=>⟨.inr q1,q2⟩,λ⟨q1,q2⟩=>⟨q1.resolve_left (Th q2 e),q2⟩⟩
   . refine aa (if_neg (by simpa using e)) ?_;refine ⟨λq=>⟨q,?_⟩,λq=>q.1⟩;have:=hx a (.head _);rcases JU.mp q with q | q
     . exact Tp q this e
     . have:=h1 z q;exact Tu ‹_› this e
structure E8 (xs ys:au)(r:au×List Nat):Prop where
 s1:r.1.Pairwise (· < ·)
 s2:r.2.Pairwise (· < ·)
 m1:∀z,z∈r.1↔z∈xs/\z∉ys
 m2:∀z,z∈r.2↔z∈ys/\z∉xs
theorem E8.left {x y:Nat}{xs ys D:au}{r:au×List Nat}(hx:∀a∈xs,x<=a)(hy:∀a∈y::ys,x<a)(hD:∀z,z∈D↔z∈xs/\x<z)(h:E8 D (y::ys) r):E8 (x::xs) (y::ys) (x::r.1,r.2):=by
 refine ⟨Nj.mpr ⟨λz hz=>((hD z).mp ((h.m1 z).mp hz).1).2,h.s1⟩,h.s2,λz=>?_,λz=>?_⟩
 . refine bb JU (bb JU (bb (h.m1 _) (bb (hD _) ?_)));refine ⟨λq=>q.elim (λe=>⟨.inl e,λm=>?_⟩) λq=>⟨.inr q.1.1,q.2⟩,λq=>(an1 (z=x)).imp id λe=>⟨⟨q.1.resolve_left e,?_⟩,q.2⟩⟩
   . have:=hy z m;exact Hk this e
   . have:=hx z (q.1.resolve_left e);exact SE this e
 . refine bb (h.m2 _) (bb (hD _) (bb (JU (a:=z) (b:=x)) ?_));refine ⟨λq=>⟨q.1,λm=>?_⟩,λq=>⟨q.1,λm=>q.2 (.inr m.1)⟩⟩;have:=hy z q.1;exact m.elim (λe=>Hk this e) λm=>q.2 ⟨m,this⟩
theorem E8.swap {xs ys:au}{r:au×List Nat}(h:E8 xs ys r):E8 ys xs (r.2,r.1):=⟨h.s2,h.s1,h.m2,h.m1⟩
theorem HH:∀(n:Nat) (xs ys:au) (l:Nat),xs.length+ys.length<=n->xs.Pairwise (·<=·)->ys.Pairwise (·<=·)->l∈xs->l∈ys->(∀z∈xs,z<=l)->(∀z∈ys,z<=l)->E8 xs ys (pe n xs ys)
 | n,[],ys,l,_,_,_,hl,_,_,_=>nomatch hl
 | n,x::xs,[],l,_,_,_,_,hl,_,_=>nomatch hl
 | 0,x::xs,y::ys,_,h,_,_,_,_,_,_=>nomatch h
 | n+1,x::xs,y::ys,l,h,hx,hy,lx,ly,bx,Mw=>by
   obtain ⟨x1,x2⟩:=Nj.mp hx;obtain ⟨y1,y2⟩:=Nj.mp hy;have dx:=λz=>zd x z xs x2 x1;have dy:=λz=>zd y z ys y2 y1;have ex:=Js (·==x) xs;have ey:=Js (·==y) ys;have wx:(xs.dropWhile (·==x)).Pairwise (·<=·):=x2.sublist (ahC _);have wy:(ys.dropWhile (·==y)).Pairwise (·<=·):=y2.sublist (ahC _);have VC:=bx x (.head _);have bly:=Mw y (.head _);rw [E4];simp only [Xf] at h;by_cases c1:x<y
   . refine aa (show JK x y=Wn from decide_eq_true c1) (aa (if_pos Z) ?_);exact E8.left x1 (λa ha=>(JU.mp ha).elim (λe=>P0 c1 e) λq=>aip c1 (y1 a q)) dx (HH n _ (y::ys) l (by simp only [Xf];exact Tz h ex) wx hy ((dx l).mpr ⟨((JU.mp lx).resolve_left (PY c1 bly)),Ho c1 bly⟩) ly (λz hz=>bx z (.tail _ ((dx z).mp hz).1)) Mw)
   by_cases c2:y<x
   . refine aa (show JK x y=Wp from decide_eq_false c1) (aa (show JK y x=Wn from decide_eq_true c2) (aa (if_neg (by decide)) (aa (if_pos Z) ?_)));exact (E8.left y1 (λa ha=>(JU.mp ha).elim (λe=>P0 c2 e) λq=>aip c2 (x1 a q)) dy (HH n (x::xs) _ l (by simp only [Xf];exact TA h ey) hx wy lx ((dy l).mpr ⟨((JU.mp ly).resolve_left (PY c2 VC)),Ho c2 VC⟩) bx λz hz=>Mw z (.tail _ ((dy z).mp hz).1)).swap).swap
   obtain rfl:x=y:=SH c1 c2;refine aa (show JK x x=Wp from decide_eq_false c1) (aa (if_neg (by decide)) (aa (if_neg (by decide)) ?_));by_cases e:x=l
   . subst e;have nx:xs.dropWhile (·==x)=[]:=c6.mpr λz hz=>by have:=(dx z).mp hz;have:=bx z (.tail _ this.1);omega
     have ny:ys.dropWhile (·==x)=[]:=c6.mpr λz hz=>by have:=(dy z).mp hz;have:=Mw z (.tail _ this.1);omega
     refine aa nx (aa ny (aa (gH _ _) ?_));have key:∀{xs:au},(∀z∈x::xs,z<=x)->(∀z∈xs,x<=z)->∀z,z∈x::xs↔z=x:=λb a z=>⟨λm=>(JU.mp m).elim id λq=>XY (b z m) (a z q),λe=>e▸.head _⟩
     have ax:=key bx x1;have ay:=key Mw y1;exact ⟨.nil,.nil,λz=>by refine bb (ax _) (bb (ay _) ?_);simp,λz=>by refine bb (ax _) (bb (ay _) ?_);simp⟩
   have r:=HH n _ _ l (TU h ex ey) wx wy ((dx l).mpr ⟨(JU.mp lx).resolve_left λq=>e q.symm,PT VC e⟩) ((dy l).mpr ⟨(JU.mp ly).resolve_left λq=>e q.symm,PT VC e⟩) (λz hz=>bx z (.tail _ ((dx z).mp hz).1)) λz hz=>Mw z (.tail _ ((dy z).mp hz).1);have key:∀{as bs:au} (hb:∀a∈as,x<=a) (z:Nat),(z∈as/\x<z)/\¬(z∈bs/\x<z)↔z∈x::as/\z∉x::bs:=λhb z=>by refine bb JU (bb JU ⟨λq=>⟨.inr q.1.1,λm=>m.elim (λe=>by have:=q.1.2;exact Hk this e) λm=>q.2 ⟨m,q.1.2⟩⟩,λq=>?_⟩);have q1:=q.1.resolve_left λe=>q.2 (.inl e);exact ⟨⟨q1,Gg (hb z q1) λe=>q.2 (.inl e.symm)⟩,λm=>q.2 (.inr m.1)⟩
   exact ⟨r.s1,r.s2,λz=>by refine bb (r.m1 _) (bb (dx _) (bb (dy _) ?_));exact key x1 z,λz=>by refine bb (r.m2 _) (bb (dx _) (bb (dy _) ?_));exact key y1 z⟩
theorem Bz {s w:au}{j l:Nat}(hs:s.Pairwise (· < ·))(hw:w.Pairwise (· < ·))(ls:l∈s)(lw:l∈w)(bs:∀z∈s,z<=l)(bw:∀z∈w,z<=l)(hl:s.getLastD 0=l): E8 s w (eC s (j::w))/\(sJ s (j::w)).Pairwise (· < ·)/\∀z,z∈sJ s (j::w)↔((z∈s/\z∉w)\/(z∈w/\z∉s)):=by
 have ns:=ak3 ls;have t:E8 s w (eC s (j::w)):=by
  have h:=HH ((s.headD 0::s).length+(w++[l]).length) (s.headD 0::s) (w++[l]) l (bP _) ?_ ?_ (.tail _ ls) (Df _ lw) ?_ ?_
  . have ms:∀z,z∈s.headD 0::s↔z∈s:=λz=>⟨λm=>(JU.mp m).elim (λe=>e▸MB ns) id,.tail _⟩
    have mw:∀z,z∈w++[l]↔z∈w:=λz=>⟨λm=>(M3.mp m).elim id λe=>MX.mp e▸lw,Df _⟩
    unfold eC;exact aa hl ⟨h.s1,h.s2,λz=>by rw [<-ms,<-mw];exact h.m1 z,λz=>by rw [<-ms,<-mw];exact h.m2 z⟩
  . refine Nj.mpr ⟨λa ha=>?_,hs.imp Xw⟩;rw [(acp ns)] at ha hs;exact (JU.mp ha).elim (λe=>WH e.symm) λq=>Xw ((Nj.mp hs).1 a q)
  . exact L1.mpr ⟨hw.imp Xw,List.pairwise_singleton _ _,λa ha b hb=>MX.mp hb▸bw a ha⟩
  . exact λz hz=>(JU.mp hz).elim (λe=>e▸bs _ (MB ns)) (bs z)
  . exact λz hz=>(M3.mp hz).elim (bw z) λe=>WH (MX.mp e)
 have p:=hZ ((eC s (j::w)).1++(eC s (j::w)).2);have nd:((eC s (j::w)).1++(eC s (j::w)).2).Nodup:=by refine M9.mpr ⟨t.s1.imp WU,t.s2.imp WU,λa ha b hb e=>?_⟩;subst e;exact ((t.m1 a).mp ha).2 ((t.m2 a).mp hb).1
 refine ⟨t,((kP _).and (p.nodup_iff.mpr nd)).imp λq=>Gg q.1 q.2,λz=>?_⟩;unfold sJ;rw [p.mem_iff,M3,t.m1,t.m2]
structure PS where
 own:List (Nat×List Nat)
 pb:List au
 ws:List au
noncomputable def gV (st:PS):Option (au×PS):=match st.pb with
 | p::r=>AN (p,⟨st.own,r,st.ws⟩)
 | []=>match st.ws with
   | w::r=>AN (w,⟨st.own,[],r⟩)
   | []=>Wm
noncomputable def jN (st:PS)(nm:Nat)(t:au):PS:=
 if t=[] then st else ⟨ct st.own (t.getLastD 0) (nm::t),st.pb++(match bC st.own (t.getLastD 0) with | some w=>[w] | none=>[]),st.ws⟩
noncomputable def pg (st:PS):Str:=match gV st with
 | some p=>tx p.1
 | none=>tx []
noncomputable def Ao (st:PS):PS:=match gV st with
 | some p=>p.2
 | none=>st
inductive HI:List au->bD->Prop
 | nil:HI [] []
 | cons {w:au} {ws:List au} {sg LN:bD} (h:∀ln,∃tz,cG .top sg ln ""=(tx w,LN,tz)) (h1:∀x∈sg,x.length=1) (hl:sg.length<900) (r:HI ws LN):HI (w::ws) sg
inductive tC:PS->List (Nat×List Nat)->Nat->Prop
 | done {st:PS} (h:gV st=Wm) (nd:(st.own.map (·.1)).Nodup) (gw:∀p∈st.own,p.2≠[]) (hl:st.own.length<60):tC st st.own 0
 | step {st gb:PS} {nm:Nat} {sd t:au} {ds:List (Nat×List Nat)} {q N:Nat} (h:gV st=AN (nm::sd,gb)) (hp:st.pb.length<900) (B2:st.own.length<60) (hs:sd.length<20) (ht:t.length<20) (r:xC gb.own nm sd t q) (next:tC (jN gb nm t) ds N):tC st ds (N+1)
noncomputable def jk (own:List (Nat×List Nat)):bD:=lQ (own.map λp=>tx [p.1,p.2.headD 0])
section
variable {l:lX}{sa:Wr}{pos:Pos}
theorem uh (G:xD c mg mb Kf l sa){env:Env}{ds:aJ}{frames:List Env}{m:Nat}(be:Stores (jD eX env ds frames (m+7) kR)){S:AS}{n:Nat}{sg:bD}{ln:Int}{st:PS}{p1 p2 p3 p4 p5:Pos}(hline:(p3.endLine==p4.line)=Wn)(h0:S.loc.lookup 0=AN (.ref (n+5)))(x:LX S.heap l.cL n sg ln (st.pb.map tx))(hr:HI st.ws sg)(hp:st.pb.length<900){K:gX}(k:∀H' LN tz,LX H' l.cL n LN tz ((Ao st).pb.map tx)->HI (Ao st).ws LN->PP S.heap H' (dP n)->K .next ({S with heap:=H'}.put 2 (.str (pg st)))): lB c (jD eX env ds frames (m+7) kR) (.Assign [.Name "word" p1] (.Call (.Attribute (.Name "lexer" p2) "get_token" p3) [] [] p4) p5) S K fy:=by
 have V:=G.V;refine aj (dk V.B l.cL l.get (n:=m+4) V.Uw Z (by show m+4<=m+7;exact Qe) (ab 0 Z h0 ⟨n+5,n+4,_,Z,x.lex,Z,cn ?_⟩) (hline:=hline));cases B8:st.pb with
 | cons p r=>
   rw [B8] at x;have zY:(r.map tx).length<1000:=by rw [B8] at hp;simp at hp ⊢;exact Qb hp
   have e1:pg st=tx p:=by unfold pg gV;exact aa B8 Z
   have e2:Ao st=⟨st.own,r,st.ws⟩:=by unfold Ao gV;exact aa B8 Z
   refine ((ER V x zY (m+3)).mono λv H' q=>?_);refine XZ q λo5 o6=>?_;clear q;obtain rfl:=o5;obtain rfl:=o6;refine az e1 (ah 2 Z (be 2 _ Z) (k _ sg ln ?_ ?_ (PP.set _ _ ⟨PL,Pq⟩)))
   . exact aa e2 x.vu
   . exact aa e2 hr
 | nil=>
   rw [B8] at x;cases GS:st.ws with
   | nil=>
     rw [GS] at hr;cases hr;have e1:pg st=tx []:=by unfold pg gV;exact aa B8 (aa GS Z)
     have e2:Ao st=st:=by unfold Ao gV;exact aa B8 (aa GS Z)
     refine ((Ai V G.t8 x (by simp) (λJ q=>nomatch q) m).mono λv H' q=>?_);refine RR q λo4 x' e=>?_;clear q;obtain rfl:=o4;refine aa (show (cG .top [] ln "").1=pg st by rw [e1];rfl) ?_;refine ah 2 Z (be 2 _ Z) (k _ [] ln ?_ ?_ e)
     . rw [e2,B8];exact x'
     . rw [e2,GS];exact .nil
   | cons w r=>
     rw [GS] at hr;cases hr with
     | @cons _ _ _ LN h h1 hl hr=>
     have e1:pg st=tx w:=by unfold pg gV;rw [B8,GS]
     have e2:Ao st=⟨st.own,[],r⟩:=by unfold Ao gV;rw [B8,GS]
     refine ((Ai V G.t8 x hl h1 m).mono λv H' q=>?_);refine RR q λo3 x' e=>?_;clear q;obtain rfl:=o3;refine Ml (h ln) λtz hq=>?_;rw [hq] at x';rw [hq,<-e1];refine ah 2 Z (be 2 _ Z) (k _ LN tz ?_ ?_ e)
     . rw [e2];exact x'
     . rw [e2];exact hr
theorem BA (G:xD c mg mb Kf l sa){env:Env}{ds:aJ}{frames:List Env}{m:Nat}(be:Stores (jD eX env ds frames (m+7) kR)){stt:Pc}(h0:(jd eX.body 2)[2]?=AN stt){n k nm:Nat}{st:PS}{t:au}{S:AS}{sg:bD}{ln:Int}(hL:aW S (zc n k nm t))(x:LX S.heap l.cL n sg ln (st.pb.map tx))(hk:S.heap[k]?=AN (.aN (fJ st.own)))(SZ:¬dP n k)(hp:st.pb.length<900)(B2:st.own.length<60)(ht:t.length<20){H0:aR}(e0:PP H0 S.heap (dP n))(wT:H0.length<=k){K:gX}(kk:∀S',aW S' [(0,.ref (n+5)),(1,.ref k)]->LX S'.heap l.cL n sg ln ((jN st nm t).pb.map tx)->S'.heap[k]?=AN (.aN (fJ (jN st nm t).own))->PP H0 S'.heap (dP n)->K .next S'): lB c (jD eX env ds frames (m+7) kR) stt S K fy:=by
 obtain rfl:=WM h0;have B:=G.V.B.toBase;refine b9 (bp (ab 4 Z (hL.at 4 _ Z) (dw (yg (ba (aa (show (tx t != ("":Str))=!decide (t=[]) by rw [show ("":Str)=tx [] from Z,bne,Al]) ?_))))));by_cases hs:t=[]
 . subst hs;rw [show (!decide (([]:au)=[]))=Wp from Z];have e:jN st nm []=st:=by unfold jN;rw [if_pos rfl]
   rw [e] at kk;exact aD (kk _ (aV (hL.at 0 _ Z) (hL.at 1 _ Z) trivial) x hk e0)
 rw [show (!decide (t=[]))=Wn by simp [hs]];have ep:jN st nm t=⟨ct st.own (t.getLastD 0) (nm::t),st.pb++(match bC st.own (t.getLastD 0) with | some w=>[w] | none=>[]),st.ws⟩:=by unfold jN;rw [if_neg hs]
 have ac0:∀(S:AS) (pb':List au),aW S (zc n k nm t)->LX S.heap l.cL n sg ln (pb'.map tx)->S.heap[k]?=AN (.aN (fJ st.own))->PP H0 S.heap (dP n)->pb'=(jN st nm t).pb->
  ∀{p1 p2 p3 p4 p5 p6 p7 p8 p9 FM:Pos} {kd:Nat},Ex c (jD eX env ds frames (m+7) kR) [.Assign [.Subscript (.Name "owners" p1) (.Subscript (.Name "sides" p2) (.UnaryOp .USub (.Constant (.int 1) kd p3) p4) p5) p6] (.BinOp (.Name "name" p7) .Add (.Name "sides" p8) p9) FM] S K fy:=by
  intro S pb' hL x hk e0 B8 p1 p2 p3 p4 p5 p6 p7 p8 p9 FM kd;refine ae (aj (bF (ab 3 Z (hL.at 3 _ Z) (ab 4 Z (hL.at 4 _ Z) (iR (by rw [cb,cb];simp [Wo];exact Pz ht) ?_)))));rw [l8];refine adR (ab 1 Z (hL.at 1 _ Z) (bH (ab 4 Z (hL.at 4 _ Z) (lK (aE (i6 ⟨cB,jj hs (jQ k (tx [t.getLastD 0]) (fJ st.own) Z Z hk (by unfold fJ;rw [Wl];simp only [Wo];exact Lp B2) ?_)⟩))))));rw [By];have hkl:=(bA hk).1;have vk:PP H0 (S.heap.set k (.aN (fJ (ct st.own (t.getLastD 0) ([nm]++t))))) (dP n):=e0.kf wT _;refine aD (kk _ (aV (hL.at 0 _ Z) (hL.at 1 _ Z) trivial) ?_ ?_ vk)
  . rw [<-B8];exact x.ext (PP.set k _ Z) λj h1 h2 e=>SZ (e▸⟨h1,h2⟩)
  . rw [ep];exact k0 hk
 have tab:∀lc,TabOf ⟨lc,S.heap⟩ (.ref k) (fJ st.own):=λlc=>.inr (af k Z hk);refine ae (b9 (bp (bH (ab 4 Z (hL.at 4 _ Z) (lK (aE (i6 ⟨cB,jj hs (ab 1 Z (hL.at 1 _ Z) (Dg (tab S.loc) (ba ?_)))⟩)))))));rw [kh,als];cases ho:bC st.own (t.getLastD 0) with
 | none =>refine aD (ac0 S st.pb hL x hk e0 ?_);rw [ep,ho];simp
 | some w=>
   have Bu:bC (fJ st.own) (tx [t.getLastD 0])=AN (.str (tx w)):=by rw [kh,ho];rfl
   refine ae (cw (dk G.V.B l.cL l.push G.V.EI Z (by show m+1<=m+7;exact Qc) (ab 0 Z (hL.at 0 _ Z) ⟨n+5,n+4,_,Z,x.lex,Z,aw (bH (ab 1 Z (hL.at 1 _ Z) (bH (ab 4 Z (hL.at 4 _ Z) (lK (aE (i6 ⟨cB,jj hs ⟨ou (tab S.loc),qS (tab S.loc) Bu ?_⟩⟩)))))))⟩)) (Z));refine (Ag G.V x (by rw [Wl];exact QN hp) (tx w) m).mono λv H' q=>?_;refine XZ q λo1 o2=>?_;clear q;obtain rfl:=o1;obtain rfl:=o2;refine aD (ac0 {S with heap:=S.heap.set (n+6) (.list ((st.pb.map tx++[tx w]).map .str))} (st.pb++[w]) (hL.heap _) ?_ ?_ ?_ ?_)
   . rw [show (st.pb++[w]).map tx=st.pb.map tx++[tx w] from C5 ..];exact x.vu
   . exact (du (λq=>SZ ⟨RE q,RF q⟩)).trans hk
   . refine e0.then (by simp) λj hj hn=>du λq=>hn (q▸⟨PL,Pq⟩)
   . rw [ep,ho]
end
structure GW (pos:Nat->Nat)(g:Nat)(s:au):Prop where
 st:s.Pairwise (· < ·)
 lt:∀x∈s,x<16
 v:∃V,Mv pos g V/\∀f,f<16->s.contains (pos f)=jM V f
 cr:∀f,f<16->pos f∈s->(aG f).length+1=(aG g).length
theorem GW.len (h:GW pos g s):s.length<=16:=by
 have:=alQ (h.st.imp WU) λx hx=>wN.mpr (h.lt x hx)
 rwa [wU] at this
theorem GW.le (h:GW pos g s):∀z∈s,z<=s.getLastD 0:=λz hz=>by
 refine Ml (ug (ak3 hz)) λi hi=>?_;have hp:=h.st;rw [hi] at hp hz;generalize s.getLastD 0=l at hp hz;rcases M3.mp hz with q | q
 . exact Xw ((L1.mp hp).2.2 z q l (.head _))
 . exact WH (MX.mp q)
theorem GW.step (P:gU pos){g':Nat}(hg:g<16)(tG:g'<16)(h:GW pos g s)(k:GW pos g' w)(dc:pos g'<pos g)(hs:s≠[])(hw:w≠[])(hl:w.getLastD 0=s.getLastD 0): OkW s (pos g'::w)/\GW pos g (sJ s (pos g'::w))/\∀z∈sJ s (pos g'::w),z<s.getLastD 0:=by
 have ms:=gI hs;have mw:s.getLastD 0∈w:=hl▸gI hw;refine RR (Bz (j:=pos g') h.st k.st ms mw h.le (hl▸k.le) Z) λt n1 n2=>?_;have hc:(aG g').length=(aG g).length:=by refine Va (P.HD _ (h.lt _ ms)) λf hf e=>?_;have c1:=h.cr f hf (e▸ms);have c2:=k.cr f hf (e▸mw);exact SY c2 c1
 refine (aV ⟨λx hx=>by have:=h.lt x hx;exact Py this,λx hx=>?_,by have:=h.len;exact Lr this,by have:=k.len;simp only [Xf];exact PF this,nofun,?_,?_⟩ ⟨n1,λx hx=>?_,?_,λf hf hx=>?_⟩ (λz hz=>?_))
 . rcases JU.mp hx with q | q
   . have:=P.lt g' tG;exact RU this q
   . have:=k.lt x q;exact Py this
 . refine XV.mpr λx hx=>?_;refine aa (Na.mpr ((t.m1 x).mp hx).1) ?_;nofun
 . refine XV.mpr λx hx q=>?_;exact ((t.m2 x).mp hx).2 (Na.mp q)
 . exact ((n2 x).mp hx).elim (λq=>h.lt x q.1) λq=>k.lt x q.1
 . refine Va h.v λV tV eV=>?_;refine Va k.v λW tW eW=>?_;have hgg:pos g'<pos g:=dc;refine (af (λx=>V x ^^ W x) ⟨?_,λx hx q=>?_⟩ (λf hf=>?_))
   . refine aa tV.on (aa (tW.up g hg dc) ?_);rfl
   . refine aa (tV.up x hx q) (aa (tW.up x hx (Hm dc q)) ?_);rfl
   . rewrite [vG]
     refine az (eV f hf) (az (eW f hf) (bb yz (bb Na (bb (n2 _) ?_))));by_cases q1:pos f∈s <;> by_cases q2:pos f∈w <;> simp [q1,q2]
 . exact ((n2 _).mp hx).elim (λq=>h.cr f hf q.1) λq=>hc▸k.cr f hf q.1
 . have le:z<=s.getLastD 0:=((n2 z).mp hz).elim (λq=>h.le z q.1) λq=>hl▸k.le z q.1;refine Gg le λe=>?_;rcases (n2 z).mp hz with q | q
   . exact q.2 (e▸mw)
   . exact q.2 (e▸ms)
structure LO (pos:Nat->Nat)(l:Nat)(w:au):Prop where
 told:∃g s,g<16/\w=pos g::s/\GW pos g s/\s≠[]/\s.getLastD 0=l
theorem qW {own:List (Nat×List Nat)}(h:bC own l=AN w):(l,w)∈own:=by
 unfold bC at h;refine Va (F0.mp h) λp hp e=>?_;have:p.1=l:=by simpa using (al9 hp)
 exact az this (az e (aiT hp))
set_option tactic.hygienic true in
theorem LP (P:gU pos){own:List (Nat×List Nat)}(ho:∀p∈own,LO pos p.1 p.2)(hg:g<16):∀(n:Nat) (s:au),GW pos g s->(∀x∈s,x<n)->∃t q,xC own (pos g) s t q/\GW pos g t/\fo own (pos g) t=Wm:=by
 have stop:∀s,GW pos g s->fo own (pos g) s=Wm->∃t q,xC own (pos g) s t q/\GW pos g t/\fo own (pos g) t=Wm:=λs h e=>
  (bW s 0 (.done e (λw hw=>by refine dr ((ho _ (qW hw)).told) λg' s' _ e' _=>?_;intro q;have:w=pos g'::s':=e';rw [this] at q;cases q)) h e)
 intro n;induction n with
 | zero =>intro s h hx;have:=c6.mpr λz hz=>nomatch hx z hz;subst this;exact stop [] h Z
 | succ n ih=>
   intro s h hx;cases e:fo own (pos g) s with
   | none=>exact stop s h e
   | some w=>
     have e0:=e;unfold fo at e;by_cases hs:s=[]
     . rw [if_pos hs] at e;cases e
     rw [if_neg hs] at e;cases ha:bC own (s.getLastD 0) with
     | none=>rw [ha] at e;cases e
     | some w'=>
       rw [ha] at e;simp only at e
       split at e
       . rename_i dc;obtain rfl:=WM e;refine CA ((ho _ (qW ha)).told) λg' s' tG e' k hn hl=>?_;have e2:=e';subst e2;refine RR (h.step P hg tG k dc hs hn hl) λok nx lt=>?_;obtain ⟨t,q,r,gt,et⟩:=ih _ nx λx Tk=>by have:=lt x Tk;exact Hl (hx _ (gI hs)) ‹_›
         exact (bW t (q+1) (.step e0 ok r) gt et)
       . cases e
noncomputable abbrev vI:=List (Nat×List Nat)
noncomputable def Cu (own:vI)(l:Nat):List au:=match bC own l with | some w=>[w] | none=>[]
theorem BC {own:vI}(nd:(own.map (·.1)).Nodup)(l:Nat)(w:au) :
 ((ct own l w).map (·.1)).Nodup/\(∀p,p∈ct own l w->p=(l,w)\/p∈own)/\((ct own l w).map (·.2)++Cu own l).Perm (w::own.map (·.2))/\(∀x,bC (ct own l w) x=if x=l then AN w else bC own x):=by
 induction own with
 | nil=>exact (jr (by simp [ct]) (λp hp=>.inl (by simpa [ct] using hp)) (akm _) (λx=>(by by_cases e:x=l;(simp [ct,bC,e]);simp [ct,bC,e];exact λq=>e q.symm)))
 | cons p own ih=>
   obtain ⟨k,u⟩:=p;refine XZ (Xh.mp nd) λn1 n2=>?_;by_cases e:k=l
   . subst e;have e2:ct ((k,u)::own) k w=(k,w)::own:=by unfold ct;refine aa (if_pos (by simp)) ?_;show (if k=k then (k,w) else _)::_=_;exact aa (if_pos Z) (aa ((WL λy hy=>if_neg λq=>n1 (MU.mpr (af y hy q))).trans (al2 own)) Z)
     have e3:Cu ((k,u)::own) k=[u]:=by unfold Cu bC;simp
     refine aa e2 (aa e3 (jr nd (λp hp=>(JU.mp hp).imp id (.tail _)) ?_ (λx=>?_)))
     . exact (List.perm_append_singleton u _).cons w
     . by_cases q:x=k
       . simp [bC,q]
       . simp [bC,q,Gy q]
   . refine CC (ih n2) λi1 i2 i3 i4=>?_;have e2:ct ((k,u)::own) l w=(k,u)::ct own l w:=by
      unfold ct;refine aa (show ((k,u)::own).any (λkv=>decide (kv.1=l))=own.any (λkv=>decide (kv.1=l)) by simp [e]) ?_
      split
      . rw [WW,if_neg e]
      . rfl
     have e3:Cu ((k,u)::own) l=Cu own l:=by unfold Cu bC;rw [lS];simp [e]
     rw [e2,e3];refine (jr (Xh.mpr ⟨λm=>?_,i1⟩) (λp hp=>?_) ?_ (λx=>?_))
     . refine Va (MU.mp m) λy hy q=>?_;rcases i2 y hy with r | r
       . rw [r] at q;exact e q.symm
       . exact n1 (MU.mpr (af y r q))
     . rcases JU.mp hp with q | q
       . exact .inr (q▸.head _)
       . exact (i2 p q).imp id (.tail _)
     . exact (i3.cons u).trans (.swap _ _ _)
     . have hc:∀(o:vI),bC ((k,u)::o) x=if k=x then AN u else bC o x:=λo=>by
        by_cases q:k=x
        . simp [bC,q]
        . simp [bC,q]
       rw [hc,hc,i4];by_cases q:k=x
       . rw [if_pos q,if_pos q,if_neg λr=>e (q.trans r)]
       . rw [if_neg q,if_neg q]
noncomputable def ze (f:Nat->Nat):Nat->Nat
 | 0=>0
 | n+1=>ze f n+f n
theorem Ap {f g:Nat->Nat}{l:Nat}(hl:f l<g l)(h:∀x,x≠l->f x=g x):∀n,ze f n<=ze g n/\(l<n->ze f n<ze g n)
 | 0=>⟨bP _,nofun⟩
 | n+1=>by
   have ih:=Ap hl h n;by_cases e:n=l
   . rw [e] at ih ⊢;exact TX hl ih
   . have:=h n e;exact T4 this ih e
noncomputable def VM (own:vI)(l:Nat):Nat:=match bC own l with | some w=>w.headD 0 | none=>16
noncomputable def left (st:PS):Nat:=(st.pb++st.ws).length+ze (VM st.own) 16
noncomputable def mV (st:PS):List au:=st.own.map (·.2)++(st.pb++st.ws)
structure vJ (pos:Nat->Nat)(st:PS):Prop where
 ok:∀p∈st.own,LO pos p.1 p.2
 Jm:(st.own.map (·.1)).Nodup
 wd:∀w∈st.pb++st.ws,∃g s,g<16/\w=pos g::s/\GW pos g s
 nm:((mV st).map (·.headD 0)).Nodup
 all:∀g,g<16->pos g∈(mV st).map (·.headD 0)\/GW pos g []
structure xF (pos:Nat->Nat)(own:vI):Prop where
 ok:∀p∈own,LO pos p.1 p.2
 Jm:(own.map (·.1)).Nodup
 all:∀g,g<16->(∃p∈own,p.2.headD 0=pos g)\/GW pos g []
theorem sM {st:PS}{w:au}{gb:PS}(h:gV st=AN (w,gb)):st.pb++st.ws=w::(gb.pb++gb.ws)/\gb.own=st.own/\gb.pb.length<=st.pb.length:=by
 obtain ⟨own,pb,ws⟩:=st;cases pb with
 | cons p r=>refine XZ (G2 (WM h)) λo7 o8=>?_;obtain rfl:=o7;obtain rfl:=o8;exact (aV Z Z (by simp))
 | nil=>
   cases ws with
   | cons p r=>refine XZ (G2 (WM h)) λo5 o6=>?_;obtain rfl:=o5;obtain rfl:=o6;exact (aV Z Z (by simp))
   | nil=>cases h
theorem zf {st:PS}(h:gV st=Wm):st.pb=[]/\st.ws=[]:=by
 obtain ⟨own,pb,ws⟩:=st;cases pb with
 | cons p r=>cases h
 | nil=>
   cases ws with
   | cons p r=>cases h
   | nil=>exact ⟨Z,Z⟩
section
variable {pos:Nat->Nat}{st:PS}
theorem vJ.heads (h:vJ pos st)(P:gU pos):∀x∈(mV st).map (·.headD 0),x<16:=λx hx=>by
 refine Va (MU.mp hx) λw hw o4=>?_;obtain rfl:=o4;rcases M3.mp hw with q | q
 . refine Va (MU.mp q) λp hp o3=>?_;obtain rfl:=o3;exact dr ((h.ok p hp).told) λg s hg e J=>aa e (P.lt g hg)
 . exact dr (h.wd w q) λg s hg e J=>aa e (P.lt g hg)
theorem vJ.B9 (h:vJ pos st)(P:gU pos):st.own.length+(st.pb.length+st.ws.length)<=16:=by have:=h.nm.length_le_of_subset λx hx=>wN.mpr (h.heads P x hx);unfold mV at this;simpa using this
set_option tactic.hygienic true in
theorem vJ.put (P:gU pos){st gb:PS}{nm:Nat}{sd t:au}(h:vJ pos st)(hg:g<16)(e:nm=pos g)(ht:gV st=AN (nm::sd,gb))(k:GW pos g t)(hr:fo gb.own nm t=Wm): vJ pos (jN gb nm t)/\left (jN gb nm t)<left st:=by
 refine RR (sM ht) λe1 e2 _=>?_;have pm:(mV st).Perm ((nm::sd)::mV gb):=by unfold mV;refine aa e1 (aa e2 ?_);exact List.perm_middle
 have pmh:=pm.map (·.headD 0);have Ld:=pmh.nodup_iff.mp h.nm;have ok1:=e2▸h.ok;have Tl:=e2▸h.Jm;have wd1:∀w∈gb.pb++gb.ws,∃g s,g<16/\w=pos g::s/\GW pos g s:=λw hw=>h.wd w (e1▸.tail _ hw);have lf:left st=(gb.pb++gb.ws).length+1+ze (VM gb.own) 16:=by unfold left;refine aa e1 (aa e2 ?_);rfl
 have al:∀g',g'<16->g'=g\/pos g'∈(mV gb).map (·.headD 0)\/GW pos g' []:=λg' tG=>by
  rcases h.all g' tG with q | q
  . rcases JU.mp (pmh.mem_iff.mp q) with r | r
    . exact .inl (P.inj g' tG g hg (r.trans e))
    . exact .inr (.inl r)
  . exact .inr (.inr q)
 by_cases h0:t=[]
 . subst h0;have ep:jN gb nm []=gb:=rfl;refine aa ep ?_;refine ⟨⟨ok1,Tl,wd1,(Xh.mp Ld).2,λg' tG=>?_⟩,by refine aa lf ?_;unfold left;exact RI⟩;rcases al g' tG with q | q
   . exact .inr (q▸k)
   . exact q
 have ep:jN gb nm t=⟨ct gb.own (t.getLastD 0) (nm::t),gb.pb++Cu gb.own (t.getLastD 0),gb.ws⟩:=by unfold jN;refine aa (if_neg h0) ?_;rfl
 refine CC (BC Tl (t.getLastD 0) (nm::t)) λa1 a2 a3 a4=>?_;have MI:∀w∈Cu gb.own (t.getLastD 0),(t.getLastD 0,w)∈gb.own:=λw hw=>by
  unfold Cu at hw;cases q:bC gb.own (t.getLastD 0) with
  | none=>rw [q] at hw;cases hw
  | some u=>rw [q] at hw;refine aa (MX.mp hw) ?_;exact qW q
 have pw:(mV (jN gb nm t)).Perm ((nm::t)::mV gb):=by
  refine aa ep ?_;have:((gb.pb++Cu gb.own (t.getLastD 0))++gb.ws).Perm (Cu gb.own (t.getLastD 0)++(gb.pb++gb.ws)):=by rw [<-MW];exact List.perm_append_comm.append_right _
  refine (this.append_left _).trans ?_;rw [<-MW];exact (a3.append_right _)
 have pwh:=pw.map (·.headD 0);refine ⟨⟨λp hp=>?_,?_,λw hw=>?_,pwh.nodup_iff.mpr Ld,λg' tG=>?_⟩,?_⟩
 . rw [ep] at hp;rcases a2 p hp with q | q
   . exact aa q ⟨g,t,hg,aa e Z,k,h0,Z⟩
   . exact ok1 p q
 . refine aa ep ?_;exact a1
 . rw [ep] at hw;rcases M3.mp hw with q | q
   . rcases M3.mp q with q | q
     . exact wd1 w (Df _ q)
     . exact Cc ((ok1 _ (MI w q)).told) λg' s' x1 x2 x3 _=>(bW g' s' x1 x2 x3)
   . exact wd1 w (Ko _ q)
 . rcases al g' tG with q | q | q
   . refine .inl (pwh.mem_iff.mpr ?_);exact aa q (az e (.head _))
   . exact .inl (pwh.mem_iff.mpr (.tail _ q))
   . exact .inr q
 . have aau:=k.lt _ (gI h0);have dc:VM (ct gb.own (t.getLastD 0) (nm::t)) (t.getLastD 0)<VM gb.own (t.getLastD 0):=by
    unfold VM;refine aa (a4 _) (aa (if_pos Z) ?_);unfold fo at hr;rw [if_neg h0] at hr;cases q:bC gb.own (t.getLastD 0) with
    | none=>show nm<16;refine aa e ?_;exact P.lt g hg
    | some u=>
      rw [q] at hr;simp only at hr
      split at hr
      . cases hr
      rename_i GM;refine Gg (alO GM) λe9=>?_;exact (Xh.mp Ld).1 (MU.mpr (af u (Df _ (MU.mpr (af _ (qW q) Z))) e9.symm))
   have hs:=(Ap dc (λx hx=>by unfold VM;exact aa (a4 _) (aa (if_neg hx) Z)) 16).2 aau;have ho:(Cu gb.own (t.getLastD 0)).length<=1:=by unfold Cu;split <;> simp
   refine aa lf (aa ep ?_);unfold left;simp only [Nc];exact TV hs ho
theorem zg (P:gU pos):∀(n:Nat) (st:PS),vJ pos st->left st<n->∃own N,tC st own N/\xF pos own
 | 0,_,_,h=>nomatch h
 | n+1,st,h,hn=>by
   have B9:=h.B9 P;cases e:gV st with
   | none=>
     refine XZ (zf e) λe1 e2=>(d8 st.own 0 (.done e h.Jm (λp hp q=>?_) (PU B9)) ⟨h.ok,h.Jm,λg hg=>?_⟩)
     . refine dr ((h.ok p hp).told) λg s J e' J=>?_;rw [e'] at q;cases q
     . refine (h.all g hg).imp (λq=>Va (MU.mp q) λw hw q=>?_) id;unfold mV at hw;rw [e1,e2,Kg,Kg] at hw;refine Va (MU.mp hw) λp hp o2=>?_;obtain rfl:=o2;exact (af p hp q)
   | some p =>obtain ⟨w,gb⟩:=p;refine RR (sM e) λe1 e2 e3=>dr (h.wd w (e1▸.head _)) λg s hg o1 k=>?_;obtain rfl:=o1;refine dr (LP P (e2▸h.ok) hg 16 s k k.lt) λt q r kt hr=>XZ (h.put P hg Z e kt hr) λh1 lt=>FL (zg P n _ h1 (Hl hn lt)) λown N rr f=>?_;have:=k.len;exact (d8 own (N+1) (.step e (SW B9) (PU B9) (Lr ‹_›) (Lr kt.len) r rr) f)
end
noncomputable def dt (pos:Nat->Nat)(U:Nat->Bool)(s:au):Bool:=cT (λh=>U h&&s.contains (pos h)) 16
section
variable {pos:Nat->Nat}{f g:Nat}{U V:Nat->Bool}{s:au}{own:vI}
theorem zh {x:Nat}(h:x∉s):s.contains x=Wp:=by
 cases e:s.contains x with
 | false=>rfl
 | true=>exact absurd (Na.mp e) h
theorem E9 (P:gU pos)(hg:g<16)(t:Mv pos g V)(e:∀f,f<16->s.contains (pos f)=jM V f)(z:∀h,h<16->pos h<pos g->lg U h=Wp):dt pos U s=lg U g:=by
 have e1:dt pos U s=cT (λf=>U f&&jM V f) 16:=cz λf hf=>aa (e f hf) Z;rw [e1,sE,fH (j:=g) hg λx hx eQ=>?_,t.on];rfl;rcases ai2 (pos x) (pos g) with q | q | q
 . rw [z x hx q,WT]
 . exact absurd (P.inj x hx g hg q) eQ
 . rw [t.up x hx q];rfl
theorem Fb {c:Bool}{k:Nat}(hk:k<16):dt pos (λh=>c&&decide (h=k)) s=(c&&s.contains (pos k)):=by
 refine (fH hk λx hx e=>?_).trans ?_
 . show ((c&&decide (x=k))&&_)=Wp;refine aa (decide_eq_false e) (aa (WT _) ?_);rfl
 . show ((c&&decide (k=k))&&_)=_;exact aa (decide_eq_true Z) (aa (K7 _) Z)
theorem LQ (W:Nat->Bool):dt pos (λh=>U h ^^ W h) s=(dt pos U s ^^ dt pos W s):=by
 show cT _ _=(cT _ _ ^^ cT _ _)
 rw [<-ma];exact cz λh J=>by show ((U h ^^ W h)&&_)=_;cases U h <;> cases W h <;> cases s.contains (pos h) <;> rfl
theorem own_one (F:xF pos own){p q:Nat×List Nat}(hp:p∈own)(hq:q∈own)(e:p.1=q.1):p=q:=by obtain ⟨i,hi,rfl⟩:=Xq hp;obtain ⟨j,hj,rfl⟩:=Xq hq;have:i=j:=(D4 F.Jm (h₀:=by refine aa (Wl _) ?_;exact hi) (h₁:=by refine aa (Wl _) ?_;exact hj)).mp (by refine aa (GG _) (aa (GG _) ?_);exact e);subst this;rfl
theorem sN {s:au}(h:s≠[]):s.contains (s.getLastD 0)=Wn:=Na.mpr (gI h)
theorem xG (P:gU pos)(F:xF pos own)(hf:f<16):∀n,∃U,UC pos f U/\(∀h,h<16->pos f+1+n<=pos h->U h=Wp)/\∀p∈own,p.1≠pos f->p.1<pos f+1+n->dt pos U p.2.tail=Wp
 | 0=>by
   refine (aU (λh=>Wn&&decide (h=f)) ⟨by simp,λh hh q=>?_⟩ (λh hh q=>?_) (λp hp eQ dc=>?_))
   . exact decide_eq_false λe=>by rw [e] at q;exact Mp q
   . exact decide_eq_false λe=>by rw [e] at q;exact P8 q
   . refine CA ((F.ok p hp).told) λg s hg e k hn hl=>aa (Fb hf) (aa e (zh λm=>?_));have:=k.le _ m;rw [hl] at this;exact R4 dc eQ this
 | n+1=>by
   refine N1 (xG P F hf n) λU b z o=>?_;by_cases ex:∃p∈own,p.1=pos f+1+n
   . refine Va ex λp hp e=>?_;refine CA ((F.ok p hp).told) λg s hg e2 k hn hl=>?_;have D3:pos f+1+n<16:=by refine az e (az hl ?_);exact k.lt _ (gI hn)
     refine Va (P.HD _ D3) λh0 hh0 e0=>(aU (λh=>U h ^^ (dt pos U s&&decide (h=h0))) ⟨?_,λh hh q=>?_⟩ (λh hh q=>?_) (λp' zY eQ dc=>?_))
     . refine aa b.on (aa (decide_eq_false λq=>by rw [<-q] at e0;exact Sn e0) (aa (WT _) ?_));rfl
     . refine aa (b.dn h hh q) (aa (decide_eq_false λq2=>by rw [<-q2] at e0;exact Tc q e0) (aa (WT _) ?_));rfl
     . show (U h ^^ (_&&decide (h=h0)))=Wp;refine aa (z h hh (PV q)) (aa (decide_eq_false λq2=>by rw [<-q2] at e0;exact SX q e0) (aa (WT _) ?_));rfl
     . rw [LQ,Fb hh0,e0];by_cases q:p'.1=pos f+1+n
       . obtain rfl:=own_one F zY hp (q.trans e.symm);rw [e2];show (dt pos U s ^^ (dt pos U s&&s.contains _))=Wp;rw [<-q,<-hl,sN hn];cases dt pos U s <;> rfl
       . rw [o p' zY eQ (Ta dc q),zh,WT];rfl;refine CA ((F.ok p' zY).told) λg' s' J e3 k' ii zX=>?_;intro m;rw [e3] at m;exact TB (k'.le _ m) zX dc q
   . exact ⟨U,b,λh hh q=>z h hh (PV q),λp hp eQ dc=>o p hp eQ (by
      exact S9 dc (λq=>ex (af p hp q)))⟩
theorem vK (P:gU pos)(F:xF pos own){p:Nat×List Nat}(hp:p∈own):∃f g,f<16/\g<16/\p.1=pos f/\p.2.headD 0=pos g/\(aG f).length+1=(aG g).length/\B7 pos f g:=by
 refine CA ((F.ok p hp).told) λg s hg e k hn hl=>?_;have ml:=gI hn;refine Va (P.HD _ (k.lt _ ml)) λf hf ef=>?_;have hpf:p.1=pos f:=az hl (aa ef Z);refine (mC f g hf hg hpf (by refine aa e ?_;rfl) (k.cr f hf (ef▸ml)) ?_);refine Va k.v λV t eV=>?_;have top:∀h,pos f<pos h->s.contains (pos h)=Wp:=λh q=>zh λm=>by exact Te q ef (k.le _ m)
 refine ⟨(af V t ⟨?_,λh hh q=>?_⟩),?_⟩
 . exact az (eV f hf) (aa ef (aa (sN hn) Z))
 . exact az (eV h hh) (aa (top h q) Z)
 refine N1 (xG P F hf 16) λU b J o=>?_;have zero:∀n h,h<16->pos h<n->pos h<pos g->lg U h=Wp:=by
  intro n;induction n with
  | zero=>exact λJ J q=>nomatch q
  | succ n ih=>
    intro h hh hn dc;have key:∀s',GW pos h s'->dt pos U s'=Wp->lg U h=Wp:=λs' k' e'=>by refine Va k'.v λW t' e2=>?_;rw [<-E9 P hh t' e2 λx hx q=>ih x hx (Hl hn q) (Hm q dc)];exact e'
    rcases F.all h hh with ⟨p',zY,e'⟩ | z
    . refine CA ((F.ok p' zY).told) λg' s' tG e3 k' ii zX=>?_;have:g'=h:=P.inj g' tG h hh (by rw [<-e',e3];rfl);subst this;refine key s' k' ?_;have eQ:p'.1≠pos f:=λq=>by rw [(own_one F zY hp (q.trans hpf.symm)),e] at e';exact Hk dc e'
      have:=o p' zY eQ (by have:=k'.lt _ (gI ii);exact S5 this zX);rw [e3] at this;exact this
    . exact key [] z (dZ λx J=>by show (U x&&Wp)=Wp;exact WT _)
 refine (af U b ⟨?_,λh hh q=>zero 16 h hh (P.lt h hh) q⟩);rw [<-E9 P hg t eV λx hx q=>zero 16 x hx (P.lt x hx) q];refine (fH (j:=f) hf λx hx eQ=>?_).trans (by show (U f&&_)=Wn;rw [b.on,ef,sN hn];rfl);rcases ai2 (pos x) (pos f) with q | q | q
 . rw [b.dn x hx q];rfl
 . exact absurd (P.inj x hx f hf q) eQ
 . rw [top x q,WT]
theorem Aq (k:GW pos g []):Zero pos g:=by
 exact Va k.v λV t e=>(af V t (λf hf=>by refine az (e f hf) ?_;rfl))
noncomputable def Fc (own:vI):List (Nat×Nat):=own.map λp=>(p.1,p.2.headD 0)
theorem mO (P:gU pos)(F:xF pos own)(i j:Nat):(i,j)∈Fc own↔∃f g,f<16/\g<16/\i=pos f/\j=pos g/\B7 pos f g:=by
 constructor
 . intro h;refine Va (MU.mp h) λp hp e=>XZ (G2 e) λo7 o8=>?_;obtain rfl:=o7;obtain rfl:=o8;exact MK (vK P F hp) λf g hf hg e1 e2 J pv=>(rg f g hf hg e1 e2 pv)
 . rintro ⟨f,g,hf,hg,rfl,rfl,pv⟩;rcases F.all g hg with ⟨p,hp,e⟩ | z
   . refine MK (vK P F hp) λf' g' CY tG e1 e2 J pv'=>?_;obtain rfl:=P.inj g' tG g hg (e2.symm.trans e);obtain rfl:=HE P hg hf CY pv pv';exact MU.mpr (af p hp (az e1 (aa e Z)))
   . exact absurd (Aq z) (HF P hg pv)
theorem zi (F:xF pos own):(Fc own).Nodup:=by exact Xl.mpr ((Xl.mp F.Jm).imp λq e=>q (G2 e).1)
end
theorem xH {α β:Type}(f:α->β){l' m:List β}(h:l'.Perm m):∀l:List α,l.map f=m->∃P:List α,P.Perm l/\P.map f=l':=by
 induction h with
 | nil=>intro l e;exact (af l (akm _) e)
 | cons x h ih=>
   intro l e;refine dr (ahZ.mp e) λa r o5 o6 e2=>?_;obtain rfl:=o5;obtain rfl:=o6;exact Va (ih r e2) λP p1 p2=>(af (a::P) (p1.cons a) (aa WW (aa p2 Z)))
 | swap x y l =>intro l e;refine dr (ahZ.mp e) λa r o3 o4 e2=>?_;obtain rfl:=o3;obtain rfl:=o4;refine dr (ahZ.mp e2) λb r o1 o2 e3=>?_;obtain rfl:=o1;obtain rfl:=o2;exact (af (b::a::r) (.swap _ _ _) (aa WW (aa WW (aa e3 Z))))
 | trans h1 h2 i1 i2=>
   intro l e;exact Va (i2 l e) λP p1 p2=>Va (i1 P p2) λQ q1 q2=>(af Q (q1.trans p1) q2)
theorem sO:YY (.type "dict_values") (.type "set")=pure Wp:=by refine aa (amy _ _) ?_;kernel_rfl
theorem mj:YY (.type "dict_values") (.type "frozenset")=pure Wp:=by refine aa (amy _ _) ?_;kernel_rfl
noncomputable def firstsI (ns:List Int):List Int:=OQ (λi=>ns.getD i 0) ns.length
section
variable {prog:AZ}{w:X3}{E:pF}{s:Gb}
set_option maxHeartbeats 3200000 in
theorem BD {v d:Wr}{kvs:List (Int×Ws)}{ep:Nat}{ns:List Int}{Q:pF}(hh:A.handled=Wm)(hv:s.heap.get? v=AN {cls:=.type "dict_values",data:=.fields #[.ref d]})(hm:s.heap.DictAt (ik prog w) d kvs ep)(hi:Zv (kvs.map (·.2)) ns)(hb:kvs.length+1<OK)(h:∀(h':Xi) (tk:Nat),h'.SetOf (ik prog w) s.heap.objs.size (λk'=>(OQ (λi=>ns.getD i 0) kvs.length).any (·==k')) (OQ (λi=>ns.getD i 0) kvs.length).length->(∀b o,b<s.heap.objs.size->s.heap.get? b=AN o->h'.get? b=AN o)->Q (.ref s.heap.objs.size) {s with heap:=h',toks:=tk}): Dk (model prog w) A (call (.type "set") [.ref v]) Q E s:=by
 refine CB NR.mro λc tl abh=>?_;have aa3:=NR.made;have kL:=NR.sub;refine KY (al4 ?_);refine aX ⟨akX _ (by decide +kernel),Yx PySem.F.entry_type_call (aa (Around.under_plain (weight_type_call_type "set" [.ref v] []) Z) ?_)⟩;have h1:=NR.notType;have h2:=NR.canCreate;have hct:=PySem.F.typeCall_set_1 (.ref v)
 repeat (any_goals (first | assumption | wp_step))
 refine NL (code_set_new_1 (.ref v) (E:=E) (Q₁:=λobj ak=>∃VK:Bool,obj=.ref s.heap.objs.size/\ak={s with heap:=s.heap.push {cls:=.type "set",dict:=Wm,data:=.set #[] 0 (.fresh 0 0 VK)}}) λVK=>(af VK Z Z)) λr ak hr=>?_;cases r with
 | error e=>exact hr
 | ok fl=>
   cases fl with
   | ret obj=>
     refine Va hr λVK o4 o5=>?_;clear hr;obtain rfl:=o4;obtain rfl:=o5;have hS:(s.heap.push {cls:=.type "set",dict:=Wm,data:=.set #[] 0 (.fresh 0 0 VK)}).get? s.heap.objs.size=AN {cls:=.type "set",dict:=Wm,data:=.set #[] 0 (.fresh 0 0 VK)}:=Gl _ Z;have hT:amN {s with heap:=s.heap.push {cls:=.type "set",dict:=Wm,data:=.set #[] 0 (.fresh 0 0 VK)}} (.ref s.heap.objs.size) "set":=(af _ hS Z)
     have Nf:=NR.init.lookup;have hbi:=NR.init.bind (.ref s.heap.objs.size)
     repeat (any_goals (first | assumption | wp_step))
     refine NL (Yh (R:=wants (λr am=>r=.none/\∃h' tk,am={s with heap:=h',toks:=tk}/\
      h'.SetOf (ik prog w) s.heap.objs.size (λk'=>(OQ (λi=>ns.getD i 0) kvs.length).any (·==k')) (OQ (λi=>ns.getD i 0) kvs.length).length/\
      (∀b o,b<s.heap.objs.size->s.heap.get? b=AN o->h'.get? b=AN o)) E) NR.init.plain PySem.F.entry_set_init (check_set_init_1 hT ?_)) λaav am oG=>?_
     . have m0:(s.heap.push {cls:=.type "set",dict:=Wm,data:=.set #[] 0 (.fresh 0 0 VK)}).get? v=AN {cls:=.type "dict_values",data:=.fields #[.ref d]}:=Wq _ hv;have abi:=sO;have abj:=mj;have eQ:(uP "dict_values"==uP "dict")=Wp:=by decide
       have hw:(s.heap.push {cls:=.type "set",dict:=Wm,data:=.set #[] 0 (.fresh 0 0 VK)}).IsValuesView v d:=(aU _ m0 Z Z)
       have hm1:(s.heap.push {cls:=.type "set",dict:=Wm,data:=.set #[] 0 (.fresh 0 0 VK)}).DictAt (ik prog w) d kvs ep:=hm.at' λo e=>Wq _ e;have hTv:amN {s with heap:=s.heap.push {cls:=.type "set",dict:=Wm,data:=.set #[] 0 (.fresh 0 0 VK)}} (.ref v) "dict_values":=(af _ m0 Z)
       unfold Ye.«set.__init__» noKeywords ama;generalize hPI:Hh=PI
       wp_walk
       subst hPI;refine akB hw hm1 (ag (akc ?_));have hdl:d<s.heap.objs.size:=by refine FL hm λo es q J=>?_;clear hm;exact M7 q
       have hh3:A.in1.in1.in1.handled=Wm:=by simp [hh]
       have aaw:d≠(s.heap.push {cls:=.type "set",dict:=Wm,data:=.set #[] 0 (.fresh 0 0 VK)}).objs.size:=by exact aa (No _ _) (WU (Ni hdl))
       have hSf:s.heap.objs.size∉[(s.heap.push {cls:=.type "set",dict:=Wm,data:=.set #[] 0 (.fresh 0 0 VK)}).objs.size,d]:=by refine aa (No _ _) ?_;simp only [JU,MX,rH,or_false,not_or];exact ⟨WU (W0 _),Nv hdl⟩
       have aax:∀(i:Nat) (x:Ws),(∃k,kvs[i]?=AN (k,x))->∃t,x=.int ((λi=>ns.getD i 0) i) t:=λi x ⟨k,hx⟩=>
        IntsAre.int_at hi i x (by refine aa aiV (aa hx ?_);rfl)
       refine codeAny_set_update_loopS ((alD hh3 _ d aaw kvs ep).toS) s.heap.objs.size
        hSf (λi=>ns.getD i 0) aax hb (kvs.length-0) 0 _ (Qh) (Dv _)
        ⟨(aU _ (Gl _ Z) Z Z),(hm1.at' λo e=>Wq _ e)⟩ ?hS0 ?hR
       case hS0 =>exact alZ ((setObjOf_fresh (knd:=intKind prog w) VK).setOf (Wq (h:=s.heap.push {cls:=.type "set",dict:=Wm,data:=.set #[] 0 (.fresh 0 0 VK)}) {cls:=.type "dict_valueiterator",data:=.fields #[.ref d,.int 0 0,.int kvs.length 0,.int ep 0]} hS) (by unfold OK;exact Zw)) (λJ=>Z) Z
       case hR=>
        intro s' hm Mm;obtain ⟨h',g',d',G1,os'⟩:=s';have eg:g'=s.gens:=hm.gens;have ed:d'=s.drawn:=hm.drawn;have eo:os'=s.os:=hm.os;subst eg;subst ed;subst eo;refine aX ?_;refine aX (acf Z h' G1 Z Mm (λb o hb e=>?_));have B5:b≠(s.heap.push {cls:=.type "set",dict:=Wm,data:=.set #[] 0 (.fresh 0 0 VK)}).objs.size:=by exact aa (No _ _) (WU (Ni hb))
        exact hm.heap b o (by simp only [JU,MX,rH,or_false,not_or];exact ⟨(WU hb),B5⟩) (Wq _ (Wq _ e))
     . cases aav with
       | error e=>exact oG
       | ok Ty=>
         cases Ty with
         | ret r=>
           obtain ⟨rfl,h',tk,rfl,Mm,rj⟩:=oG
           repeat (any_goals (first | assumption | wp_step))
           exact h _ _ Mm rj
         | _=>exact oG.elim
   | _=>exact hr.elim
end
section
variable {F F' F₀:G}{bs aK bs₀:aJ}{s s':Gb}{pos:Pos}
theorem LR {k:Nat}{D:List Int}(h:S.heap[k]?=AN (.iD D))(kk:K (.int D.length) S):eJ c C (.builtin "len") [.ref k] S K X:=by intro A F bs s rs hA z hv;refine Va (bh.one hv) λr o3 h1=>?_;obtain rfl:=o3;refine Cg (z.gq h1 h) λa o2 hb hS J=>?_;obtain rfl:=o2;refine MJ hS λo es ep t o1=>?_;clear hS;obtain ⟨ho,hex,hd,_,_,GD,hf,hn⟩:=o1;refine call_len_set ho hex hd hf (RV (show OK<2 ^ 40 by unfold OK;exact ZA) GD) ?_;refine aa hn ?_;have m:a7 c F bs s {s with toks:=s.toks+1+1}:=.toks ..;exact ⟨F,bs,.int D.length,S,.keep m,z.keep m,.int _ _,kk⟩
theorem vL {f o:Nn}{H6 p2:Pos}(h:Ev c C f S (λv ai=>v=.raw (.type "set")/\Ev c C o ai (λv aF=>∃(kvs:List (Int×AV))(ns:List Int),yG aF v kvs/\kvs.map (·.2)=ns.map .int/\ns.length<500/\K (.ref aF.heap.length) {aF with heap:=aF.heap++[.iD (firstsI ns)]}) X) X)
 (hh:C.handled=Wm)
 (he:eval (.Call f [.Call (.Attribute o "values" H6) [] [] p2] [] pos) C.env=(do YS pos (<-eval f C.env) [] (W3 pos (M4 [.Call (.Attribute o "values" H6) [] [] p2] C.env)) (DN pos (Xk [] C.env))):=by rfl)
 (Mh:M4 [.Call (.Attribute o "values" H6) [] [] p2] C.env=[(Wp,eval (.Call (.Attribute o "values" H6) [] [] p2) C.env)]:=by rfl)
 (gp:XR o "values" C.env (eval o C.env)=eval o C.env:=by rfl)
 (rz:((W3 p2 (M4 [] C.env)).all (λx=>!x.1)&&(DN p2 (Xk [] C.env)).all (λx=>x.1.isSome)
  && decide (([]:cJ).length+([]:List YC).length+(if ([]:List YC).isEmpty then 0 else 1)<30))=Wn:=by rfl)
 (hline:(H6.endLine==p2.line)=Wn:=by rfl):Ev c C (.Call f [.Call (.Attribute o "values" H6) [] [] p2] [] pos) S K X:=by
 intro A F bs s hA z;simp only [he];refine ag (aS (h A F bs s hA z) (λr ak pL=>pL.casesOn λF₁ bs₁ v ai an aC hv oC=>?_) λJ J e=>e);refine XZ oC λe tj=>?_;clear oC;subst e;obtain ⟨_,rfl⟩:=hv.inv;refine GR (by refine aa Mh ?_;rfl) ?_;refine aa Mh (iw _ (λJ q=>nomatch q) ?_);refine ag (Yo gp rz hline (aS (tj A F₁ bs₁ ak hA aC) (λr am dL=>dL.casesOn λaP aB ov aF av aI lq eR=>?_) λx am q=>q.casesOn λaP aB cls aF av aI hx S4=>⟨aP,aB,cls,aF,an.trans av,aI,hx.back an.mono,S4⟩));refine Cc eR λkvs ns Lb B0 Mu S4=>?_;clear eR;refine Cc (aI.tabI Lb lq) λa rs o2 r8 A5 po=>?_;obtain rfl:=o2;have t1:=r8.typeIs;have t2:∀b,Wt a=.ref b->∃o,am.heap.get? b=AN o/\o.dict=Wm:=λb e=>by cases e;refine FN r8 λo es ep q1 q2 J=>?_;clear r8;exact ⟨o,q1,q2.2.1⟩
 refine (mC ("dict") ("dict.values") X4 Yl ai7 t1 t2 (X8 (by rfl) (iw _ (λJ q=>nomatch q) ?_)));refine aX (Ml (DictOf.at_ r8) λep qz=>tq Yl t1 aiP (aiB _) (alk (ik c.prog c.w) a A5) ⟨⟨rs,r8⟩,?_⟩);generalize B3:({cls:=.type "dict_values",data:=.fields #[.ref a]}:Obj)=ow;generalize eA:({am with heap:=am.heap.push ow}:Gb)=aO;obtain Cr:a7 c aP aB am aO:=by refine az eA ?_;exact ⟨λb o e=>cC _ e,Z,Z⟩
 obtain a8:=aI.keep Cr;have iI:aO.heap.get? am.heap.objs.size=AN {cls:=.type "dict_values",data:=.fields #[.ref a]}:=by refine az eA (aa B3 ?_);exact dB _ (by refine az B3 ?_;rfl)
 have hints:Zv (rs.map (·.2)) ns:=by
  have e1:c.Vs aP aB (kvs.map (·.2)) (rs.map (·.2)):=by
   have:∀(kvs:List (Int×AV)) (rs:List (Int×Ws)),c.IV aP aB kvs rs->c.Vs aP aB (kvs.map (·.2)) (rs.map (·.2)):=λkvs=>by
    induction kvs with
    | nil=>intro rs h;refine aa h.inv ?_;exact .nil
    | cons p l ih=>intro rs h;refine dr h.inv λv r o1 h1 h2=>?_;obtain rfl:=o1;exact .cons h1 (ih r h2)
   exact this kvs rs po
  rw [B0] at e1;exact e1.ints
 have Mx:rs.length=ns.length:=by have:=congrArg XG B0;simp at this;exact aa (bL.len po) (aa this Z)
 refine ag (aX (ag (pa (aX (aX (BD (hA.handled.trans hh) iI (qz.at' λo e=>Cr.keep _ _ e) hints (by refine aa Mx ?_;unfold OK;exact QL Mu) λh' tk hS hk=>?_))))));have s0:aO.heap.objs.size=am.heap.objs.size+1:=by refine az eA ?_;exact jP ..
 have pu:a7 c aP aB aO {aO with heap:=h',toks:=tk}:=⟨λb o e=>hk b o (M7 e) e,Z,Z⟩
 have de:=a8.keep pu;refine VO (id hS) λob es eps tb q1 q2 abB=>?_;have hD:h'.SetOf (ik c.prog c.w) aO.heap.objs.size (λk=>decide (k∈firstsI ns)) (firstsI ns).length:=by unfold firstsI;exact az Mx (alZ hS (λk=>bb yz (bb X1 (bb decide_eq_true_iff ⟨λ⟨x,h1,h2⟩=>by have:=eq_of_beq h2;exact this▸h1,λh=>⟨k,h,beq_self_eq_true k⟩⟩))) Z)
 obtain ⟨F',aK,v',S',stn,zn,hvn,kn⟩:=a8.GN pu (gf (bP _)) q1 (o:=.iD (firstsI ns)) hD S4;exact ⟨F',aK,v',S',((an.trans av).trans (.keep Cr)).trans stn,zn,hvn,kn⟩
end
section
variable {prog:AZ}{w:X3}{E:pF}{s:Gb}
theorem lh {it t:Wr}{items:Array Ws}(eQ:t≠it):∀(n i:Nat) (s:Gb) (Q:iE->nj),s.heap.IsListIter it t i->s.heap.IsList t items->i+n<=items.size->(∀h',h'.IsListIter it t (i+n)->Nw it s.heap h'->Q ((items.toList.drop i).take n) {s with heap:=h'})->Dk (model prog w) A (draw (.ref it) n) Q E s
 | 0,i,s,Q,VJ,_,_,hQ=>by exact aX (by simpa using hQ s.heap VJ (anO ..))
 | n+1,i,s,Q,VJ,ht,VX,hQ=>by
   have dc:i<items.size:=SU VX;refine ag (ajC VJ ht (x:=items[i]) (by simp [dc]) λh₁ zj ch=>ag (pa (lh eQ n (i+1) _ _ zj (ht.extBut ch.extBut eQ) (SS VX) λim pM bi=>aX ?_)));have hd:items.toList.drop i=items[i]::items.toList.drop (i+1):=by simp [N8,dc]
   have:=hQ im (by refine aa (show i+(n+1)=i+1+n by exact Rz) ?_;exact pM) (ch.trans bi);rw [hd,List.take_succ_cons] at this;exact this
theorem xI {l:Wr}{items:Array Ws}{n:Nat}{k:Int}{t:Tok}{v:Ws}{Q:Unit->nj}(hl:s.heap.get? l=AN {cls:=.type "list",dict:=Wm,data:=.seq items n,slots:=#[]})(h0:0<=k)(GO:k<2 ^ 63)(hn:k<items.size)(hQ:Q () {s with heap:=s.heap.update l (OM (·.setIfInBounds k.toNat v))}): Dk (model prog w) A (setItem (.ref l) (.int k t) v) Q E s:=by
 have hT:s.TypeIs (.ref l) "list":=(af _ hl Z)
 unfold setItem
 try with_reducible refine pa ?_
 first | refine ag (aX ?_) | skip
 refine ag (wpAny_sequenceKey hT (by decide) ?_);refine ag (XQ (name:=Ww "__setitem__") hT alt
  (yw alt hT entry_list_setitem ?_ (args_list_setitem _ _ _)))
 show Dk _ _ (ame (.int k t) >>= _) _ _ s;refine ag (wpAny_listSubscript_int (fitsIndex_of h0 GO) ?_);clear GO;refine Ml (Int.eq_ofNat_of_zero_le h0) λj o33=>?_;obtain rfl:=o33;refine ag (ag (wpAny_seqItemAt hl Z (aX (aa (Yc (Rp hn)) ?_))));refine ag (wpAny_setSeqItemAt hl Z ?_)
 first
  | exact ag (aX (aX (af (.none) Z (aX hQ))))
  | exact aX ⟨.none,Z,aX hQ⟩
theorem kS {t:Wr}{items:Array Ws}{Q:iE->nj}(hh:A.handled=Wm)(ht:s.heap.IsList t items)(hQ:∀h',Bi s.heap.objs.size s.heap h'->Q items.toList {s with heap:=h'}):Dk (model prog w) A (Zg (.ref t) items.size Wm) Q E s:=by
 have dc:t≠s.heap.objs.size:=by refine Va ht λo ho J=>?_;clear ht;exact WU (M7 ho)
 unfold Zg;refine ag ?_
 . unfold notIterableAtAll;refine ag (X0 ht.typeIs ajI.lookup (aX ?_));simp only [Ow,if_false];refine ag (pa (Y3 ht (ag (pa (lh dc items.size 0 _ _ (aU _ (Gl _ Z) Z Z) (ht.push _) (ZI) λh₁ zj ch=>?_)))));have LK:List.take items.size (List.drop 0 items.toList)=items.toList:=by exact aa ams (b0 (by simp))
   refine aa LK (aa (if_neg (by simp)) ?_);refine ag (pa (ajU hh zj ((ht.push _).extBut ch.extBut dc) (by simp) λim wP=>?_));simp only [Option.isSome_none,Ow,if_false];refine aX (hQ im λb o hb e=>wP b o hb (ch.extBut b o hb (Wq _ e)))
end
section
variable {F F' F₀:G}{bs aK bs₀:aJ}{s s':Gb}{pos:Pos}
theorem zk {xs:bZ}{r:Ws}(hA:lp C A)(hh:C.handled=Wm)(z:St c C F bs S s)(hv:c.V F bs (.lst xs) r){K:tI}(k:K xs S):WP c C A c.Vs (Zg r xs.length Wm) F bs s K X:=by
 refine dr hv.inv λa vs o31 o32 bn=>?_;obtain rfl:=o31;obtain ⟨n,ht⟩:=o32;obtain MO:s.heap.IsList a vs.toArray:=(di _ (z.wd.sub _ _ ht) Z n Z)
 obtain tp:=bn.length.symm;refine rE tp (kS (hA.handled.trans hh) MO λh' hx=>?_);obtain m:a7 c F bs s {s with heap:=h'}:=⟨λb o e=>hx b o (cI (M7 e)) e,Z,Z⟩
 exact ⟨F,bs,xs,S,.keep m,z.keep m,bn,k⟩
theorem zl {ts:cJ}{kd:Nat}{xs:bZ}{K:dp}(hh:C.handled=Wm)(hl:ts.length=xs.length)(h:AM c C (ts.zip xs) S K X)(hp:yD ts C.env=ts.map λt=>(Wp,assign t C.env):=by rfl):wm c C (.Tuple ts kd pos) (.lst xs) S K X:=by
 intro A F bs s r hA z hv;refine WP.standAt ?_;delta unpack;refine rE hp ?_;obtain e1:((ts.map λt=>(Wp,assign t C.env)).findIdx? (·.1))=Wm:=by simp
 simp only [e1,qY,Wu,hl];refine WP.bind (WP.holding (zk (K:=λvs S'=>vs=xs/\S'=S) hA hh z hv ⟨Z,Z⟩)) λF₁ bs₁ ai ak vs rs an aC bn MP=>XZ MP λe e'=>?_;clear MP z hv;subst e e';exact nq hA ts vs rs F₁ bs₁ ai ak K hl aC bn h
theorem sP {o i wp:Nn}{wI:Pos}{op:Operator}{K:gX}
 (h:Ev c C o S (λov ai=>Ev c C i ai (λiv aF=>iA c C X2 ov iv aF (λold bd=>Ev c C wp bd (λw dd=>iA c C (Y7 op) old w dd (λr dJ=>∃(k:Nat) (j:Int) (xs:bZ),ov=.ref k/\iv=.int j/\dJ.heap[k]?=AN (.list xs)/\0<=j/\j<2 ^ 62/\j.toNat<xs.length/\K .next {dJ with heap:=dJ.heap.set k (.list (xs.set j.toNat r))}) X) X) X) X) X)
 (ha:∀ov iv new,augStore i ov iv new=(do holding [new,ov,iv] (setItem ov iv new);release [new,ov,iv] [];pure .next):=by intro _ _ _;rfl) :
 lB c C (.AugAssign (.Subscript o i wI) op wp pos) S K X:=by
 intro A F bs s hA z;refine WP.standAt (WP.bind (h A F bs s hA z) λF₁ bs₁ ai ak ov Im an aC lq tj=>WP.bind (WP.holding (tj A F₁ bs₁ ak hA aC)) λaP aB aF am iv WN av aI Mg S4=>WP.bind (R:=c.V) (K₁:=λr dJ=>∃(k:Nat) (j:Int) (xs:bZ),ov=.ref k/\iv=.int j/\dJ.heap[k]?=AN (.list xs)/\0<=j/\j<2 ^ 62/\j.toNat<xs.length/\K .next {dJ with heap:=dJ.heap.set k (.list (xs.set j.toNat r))}) ?_ λfc dq dJ fe r rr dW eT hr kk=>?_)
 . exact WP.holding (WP.standAt (WP.bind (S4 A aP aB am Im WN hA aI (av.V lq) Mg) λbv aT bd aO old ro aL a8 ho bR=>WP.bind (WP.holding (bR A bv aT aO hA a8)) λek ca dd cK w U5 ce de hw iF=>WP.standAt (XK (iF A ek ca cK ro U5 hA de (ce.V ho) hw))))
 . refine VY kk λk j xs V1=>?_;clear kk;obtain ⟨rfl,rfl,hk,h0,h1,dc,DM⟩:=V1;refine Ml (dW.V Mg).inv λabC V3=>?_;obtain rfl:=V3;refine Cg (eT.gq (dW.V (av.V lq)) hk) λa V5 hb V4 hF=>?_;obtain rfl:=V5;obtain ⟨vs,⟨n,hL⟩,bn⟩:=V4;rw [ha];refine WP.standAt (ag (pa ?_));refine xI (items:=vs.toArray) (n:=n) hL h0 (ZT h1) (by simp;exact Ug bn.length dc) ?_;refine ag (nA (aX ?_));have LS:c.Vs fc dq (xs.set j.toNat r) (vs.set j.toNat rr):=by
    have:∀(xs:bZ) (vs:iE) (i:Nat),c.Vs fc dq xs vs->c.Vs fc dq (xs.set i r) (vs.set i rr):=λxs=>by
     induction xs with
     | nil=>intro vs i h;refine aa h.inv ?_;exact .nil
     | cons x xs ih=>
       intro vs i h;refine dr h.inv λv us Md h1 h2=>?_;obtain rfl:=Md;cases i with
       | zero=>exact .cons hr h2
       | succ i=>exact .cons h1 (ih us i h2)
    exact this xs vs j.toNat bn
   have q:=eT.mE (xs':=xs.set j.toNat r) (vs':=vs.set j.toNat rr) hb hk hL LS (λa=>a.setIfInBounds j.toNat rr) (by simp);exact ⟨fc,dq,.next,_,q.1,q.2,Z,DM⟩
theorem BE {x:Str}{px:Pos}{f:Nn}{args:cJ}{pos:Pos}{K:bZ->(aR->Prop)->dp}
 (h:Ev c C f S (λv ai=>v=.raw (.type "range")/\pz c C pos args ai (λvs aF=>∃a b:Nat,vs=[.int a,.int b]/\a<=b/\b<2 ^ 60/\K ((WG (b-a)).map λ(i:Nat)=>AV.int ((a+i:Nat):Int)) (λJ=>True) aF) X) X)
 (he:eval (.Call f args [] pos) C.env=(do YS pos (<-eval f C.env) [] (W3 pos (M4 args C.env)) (DN pos (Xk [] C.env))):=by rfl)
 (na:(W3 pos (M4 args C.env)).any (·.1)=Wp:=by rfl)
 (hl:mU (W3 pos (M4 args C.env))=Wp:=by rfl):jW c C (.Name x px) (.Call f args [] pos) S K X:=by
 intro A F bs s hA z;simp only [he];refine ag (aS (h A F bs s hA z) (λr ak dL=>dL.casesOn λF₁ bs₁ v ai an aC hv eR=>?_) λJ J e=>e);refine XZ eR λe tj=>?_;clear eR;subst e;obtain ⟨_,rfl⟩:=hv.inv;refine GR na (aS (gk hA aC tj hl) (λa am dL=>dL.casesOn λaP aB vs aF av aI wD S4=>?_) λx am WF=>WF.casesOn λaP aB cls aF av aI hx S4=>⟨aP,aB,cls,aF,an.trans av,aI,hx.back an.mono,S4⟩);refine XZ wD λoj bn=>?_;clear wD;refine rE oj ?_;refine Cc S4 λlo hi ot VX hb bR=>?_;clear S4;have hsz:u0 (lo:Int) (hi:Int) 1=((hi-lo:Nat):Int):=by refine aa (rangeSize_one _ _) ?_;split <;> (first | exact SD VX | exact SG ‹_›)
 subst ot;obtain ⟨ps,kw⟩:=a;refine dr (bh.two bn) λr1 r2 e h1 h2=>?_;have e':ps=[r1,r2]:=e;refine rE e' ?_;refine Ml h1.inv λt1 F1=>?_;obtain rfl:=F1;refine Ml h2.inv λt2 BS=>?_;obtain rfl:=BS;refine call_range_2 ?_;generalize eA:({am with heap:=am.heap.push {cls:=.type "range",data:=.fields #[.int lo t1,.int hi t2,.int 1 am.toks]},toks:=am.toks+1}:Gb)=aO;have m:a7 c aP aB am aO:=by refine az eA ?_;exact ⟨λb o e=>cC _ e,Z,Z⟩
 have hr:IsRange aO.heap am.heap.objs.size (lo:Int) (hi:Int) 1 t1 t2 am.toks:=by refine az eA ?_;exact alW ..
 refine akT hr (small_one (Pl) (RW hb VX) (Pl) (QB hb)) ?_;obtain a8:=aI.keep m;obtain hn:aO.heap.get? aO.heap.objs.size=Wm:=gf (bP _);obtain ha:=dB aO.heap (o:={cls:=.type "range_iterator",data:=.fields #[A1 lo,A1 (u0 lo hi 1),A1 1]}) Z;obtain m':a7 c aP aB aO {aO with heap:=aO.heap.push {cls:=.type "range_iterator",data:=.fields #[A1 lo,A1 (u0 lo hi 1),A1 1]}}:=⟨λb o e=>cC _ e,Z,Z⟩
 have st:Step C.own F bs s.heap aP aB aO.heap:=(an.trans av).trans (.keep m);refine ⟨aP,aB,aF,_,_,_,[aO.heap.objs.size],_,Z,st.trans (.keep m'),a8.keep m',Ce.walks (F₀:=aP) (bs₀:=aB) (λA hA=>ano hA aO.heap.objs.size lo 1 (hi-lo)) (by simp) (λb hb=>.inl hb) ?_ ?_,
  (ee ?_ (Dv _) (λJ J e=>e) [] (by simp)),λa q=>?_,cx.one a8 hn ha (by simp) (by simp),trivial,bR⟩
 . intro i v hi o1;refine Ml o1 λt Fk=>?_;clear o1;obtain rfl:=Fk;exact (af (.int (lo+(i:Int)*1)) (by simp [hi]) (.int _ _))
 . rintro i h q b hb;exact rE (bN hb) (aU _ q (by simp) (by simp))
 . show (aO.heap.push {cls:=.type "range_iterator",data:=.fields #[A1 lo,A1 (u0 lo hi 1),A1 1]}).get? aO.heap.objs.size=_;refine (ar ha)▸(ar hsz)▸?_;simp
 . refine rE (bN q) ?_;cases e:s.heap.get? aO.heap.objs.size with
   | none=>rfl
   | some o=>refine Ml (st.mono _ _ e) λo' e'=>?_;exact bM (aM (ar hn) e')
end
theorem BF {st gb:PS}{w:au}(h:gV st=AN (w,gb)):pg st=tx w/\Ao st=gb/\gb.own=st.own/\gb.pb.length<=st.pb.length:=by
 refine (aV (by unfold pg;exact aa h Z) (by unfold Ao;exact aa h Z) ?_);unfold gV at h;cases hp:st.pb with
 | cons p r=>rw [hp] at h;cases h;exact ⟨Z,by simp⟩
 | nil=>
   rw [hp] at h;cases hw:st.ws with
   | nil=>rw [hw] at h;cases h
   | cons w r=>rw [hw] at h;cases h;exact ⟨Z,by simp⟩
theorem BG {st:PS}(h:gV st=Wm):pg st=tx []/\Ao st=st:=⟨by unfold pg;exact aa h Z,by unfold Ao;exact aa h Z⟩
section
variable {l:lX}{sa:Wr}{pos:Pos}
theorem xJ (G:xD c mg mb Kf l sa)(hf:fk c fa eX .none){H:aR}{n:Nat}{sg:bD}{ln:Int}{st:PS}(x:LX H l.cL n sg ln (st.pb.map tx))(hr:HI st.ws sg)(ho:st.own=[])(hp:st.pb.length<900){ds:List (Nat×List Nat)}{N:Nat}(r:tC st ds N)(m:Nat): bQ c (m+8) (.ref fa) [.ref (n+5)] H (λv H'=>v=.lst ((jk ds).map .str)/\PP H H' (dP n)):=by
 have B:=G.V.B.toBase;refine hf.fu B (n:=m+7) ["lexer"] kR [(0,.ref (n+5))] (λJ J=>Z) Z Z (by decide +kernel) λenv own frames be kq=>?_;have xlt:=x.lt;refine ae (aj (adv B (ah 1 Z (be 1 _ Z) ?_)));have e1:PP H (H++[AO.aN []]) (dP n):=(PP.refl H _).app;have x1:LX (H++[AO.aN []]) l.cL n sg ln (st.pb.map tx):=x.ext (P:=λJ=>False) ((PP.refl H _).app) λj J J q=>q;have k1:(H++[AO.aN []])[H.length]?=AN (.aN (fJ st.own)):=by refine aa ho (aa (ij (bP _)) ?_);simp;rfl
 have SZ:¬dP n H.length:=λq=>by have:=q.2;exact RD xlt q
 refine ae (uh G be (by rfl) Z x1 hr hp λH1 sg1 ln1 x2 ZB e2=>?_);have keep:∀{H1 H2:aR} {o:AO},PP H1 H2 (dP n)->H1[H.length]?=AN o->H2[H.length]?=AN o:=λe q=>(e.same _ (bA q).1 SZ).trans q;have tr:∀{H1 H2:aR},PP H H1 (dP n)->PP H1 H2 (dP n)->PP H H2 (dP n):=λa b=>a.trans b;refine ae (iZ kq (λj S'=>∃st sg ln,aW S' [(0,.ref (n+5)),(1,.ref H.length),(2,.str (pg st))]/\LX S'.heap l.cL n sg ln ((Ao st).pb.map tx)/\HI (Ao st).ws sg/\S'.heap[H.length]?=AN (.aN (fJ st.own))/\PP H S'.heap (dP n)/\tC st ds j) N
  (i5 st sg1 ln1 (aW.of Z) x2 ZB (keep e2 k1) (tr e1 e2) r) ?_)
 rintro j ⟨lc,H2⟩ ⟨st,sg,ln,hL,x,hr,hk,e,r⟩;simp only at hk e x;refine bp (ab 2 Z (hL.at 2 _ Z) (dw (yg (ba ?_))));cases r with
 | done h nd gw hl=>
   refine XZ (BG h) λt1 t2=>?_;refine aa t1 (aa (show (tx [] != ("":Str))=Wp from Z) ?_);refine gm (c9.aN 1 (hL.at 1 _ Z) hk) ?_;have h1:(ck lc 1 (.kC (fJ st.own))).lookup 1=AN (.kC (fJ st.own)):=by rw [aQ];rfl
   have e':PP H (H2.set H.length .gone) (dP n):=e.kf (bP _) _;refine ae (bt (bS (.builtin "sorted") (bY B (by rfl) G.gG.1 G.gG.2 ⟨Z,aw ?_⟩)));refine gA (sc:=eX.scope) ["owners","low"] [(1,"owners",.kC (fJ st.own))] Z (aV Z h1 trivial) (show dj _ _ ["owners"] _=Wn by decide +kernel) (afQ (ab 1 Z h1 (af _ Z ?_)));refine dA (λi=>st.own[i]?.map λp=>AV.str (tx [p.1,p.2.headD 0])) (aV Z h1 trivial) (by unfold fJ;refine aa (Wl _) (aa (Wl _) ?_);simp only [Wo];exact Lp hl) trivial (λoS EZ fG i y hy hi=>?_) ?_
   . rw [bV] at hy;refine Va (gW hy) λkv B0 o1=>?_;obtain rfl:=o1;unfold fJ at B0;rw [bV] at B0;refine Va (gW B0) λp hp o2=>?_;obtain rfl:=o2;have hpm:p∈st.own:=bO hp;have yN:bC st.own p.1=AN p.2:=by
      have:∀l:List (Nat×List Nat),(l.map (·.1)).Nodup->p∈l->bC l p.1=AN p.2:=λl=>by
       induction l with
       | nil=>intro _ h;cases h
       | cons a l ih=>
         intro hn hm;rw [WW,Xh] at hn;unfold bC at *;refine aa lS ?_;rcases JU.mp hm with rfl | hm
         . simp
         . have:¬a.1=p.1:=λq=>hn.1 (q▸List.mem_map_of_mem hm);simp only [this,decide_false];exact ih hn.2 hm
      exact this _ nd hpm
     have Bu:bC (fJ st.own) (tx [p.1])=AN (.str (tx p.2)):=by refine aa (kh _ _) (aa yN ?_);rfl
     refine ah 1 Z (fG _ (.inl Z)) ?_;refine bF (ab 1 Z Z (bH (bH (ab 0 Z Z (ab 1 Z Z ⟨ou (.inl Z),qS (.inl Z) Bu (aE ⟨cB,pf (gw p hpm) (iR (by rw [cb,cb];simp [Wo]) ?_)⟩)⟩)))));refine aa (l8 _ _) ?_;exact fT hi (by refine aa hp ?_;rfl) (aW.of Z) Z
   have ll:((fJ st.own).map λp=>AV.str p.1).length=st.own.length:=by unfold fJ;exact aa (Wl _) (aa (Wl _) Z)
   refine aa ll (aa (pW _ _) ?_);have e3:(st.own.map λp=>AV.str (tx [p.1,p.2.headD 0]))=(st.own.map λp=>tx [p.1,p.2.headD 0]).map .str:=by refine aa Wu ?_;rfl
   refine aa e3 ?_;exact .inl (mF (.inl Z) (by refine aa (Wl _) ?_;exact PE hl) (.inl ⟨Z,e'⟩))
 | @step _ gb nm sd t _ q N h hp B2 hs ht rr next=>
   refine CC (BF h) λt1 t2 t3 t4=>?_;refine aa t1 (aa (show (tx (nm::sd) != ("":Str))=Wn by rw [show ("":Str)=tx [] from Z,bne,Al];rfl) ?_);rw [t2] at x hr;have L2:=hL.at 2 _ Z;rw [t1] at L2;refine ae (aj (jV (bG (bH (ab 2 Z L2 (aE ⟨cB,pf (by simp) (aw (mN (ab 2 Z L2 (aE (mD _ Z (tx (nm::sd)) 1 Z Z (by rw [cb];simp [Wo];exact QH hs) ⟨by simp [Wo],?_⟩)))))⟩))))));rw [qV];refine pG Z Z (ah 3 Z (be 3 _ Z) (ah 4 Z (be 4 _ Z) ?_));refine bo (zc n H.length nm sd) (pB ?_ ?_ ?_ ?_ trivial) ?_
   . exact (aW.at (aW.Hx (aW.Hx hL (i:=3) Z) (i:=4) Z) 0 _ Z)
   . exact (aW.at (aW.Hx (aW.Hx hL (i:=3) Z) (i:=4) Z) 1 _ Z)
   . show (ck (ck _ 3 _) 4 _).lookup 3=_;rw [aQ,aQ];rfl
   . show (ck (ck _ 3 _) 4 _).lookup 4=_;rw [aQ];rfl
   have P3:H2[H.length]?=AN (.aN (fJ gb.own)):=by rw [t3];exact hk
   refine ae (xE G be kq Z rr (H:=H2) P3 (aW.of Z) Z λS3 Lh hH3=>?_);refine ae (BA G be Z (st:=gb) Lh (by rw [hH3];exact x) (by rw [hH3];exact P3) SZ (R3 hp t4) (by rw [t3];exact B2) ht (by rw [hH3];exact e) (bP _) λabD hL4 x4 hk4 e4=>?_);have hr4:HI (jN gb nm t).ws sg:=by
    unfold jN;split
    . exact hr
    . exact hr
   have hp4:(jN gb nm t).pb.length<900:=by
    cases next with
    | done h _ _ _=>
      have:(jN gb nm t).pb=[]:=by
       unfold gV at h;cases hq:(jN gb nm t).pb with
       | nil=>rfl
       | cons p r=>rw [hq] at h;cases h
      rw [this];simp
    | step _ hp _ _ _ _ _=>exact hp
   refine ae (uh G be (by rfl) (hL4.at 0 _ Z) x4 hr4 hp4 λH5 sg5 ln5 x5 hr5 e5=>?_);refine aD ⟨N,Lq,jN gb nm t,sg5,ln5,?_,x5,hr5,keep e5 hk4,tr e4 e5,next⟩;have:=(hL4.heap H5).put (i:=2) (v:=.str (pg (jN gb nm t))) Z;simpa using this
end
noncomputable def kj (k:Nat)(w:au):Str:=if k % 2=1 then ("\"":Str)++tx w++("\"":Str) else tx w++(" ":Str)
noncomputable def VS:Nat->List au->Str
 | _,[]=>tx []
 | k,w::ws=>kj k w++VS (k+1) ws
theorem xK (k:Nat)(w:au):(kj k w).length<=w.length+2:=by
 unfold kj
 split
 . refine aa (Ob _ _) (aa (Ob _ _) (aa (cb _) ?_));have:("\"":Str).length=1:=by decide +kernel
   exact Sk this
 . refine aa (Ob _ _) (aa (cb _) ?_);have:(" ":Str).length=1:=by decide +kernel
   exact Sl this
theorem Ar (ws:List au)(h:∀w∈ws,w.length<20):∀k,(VS k ws).length<=22*ws.length:=by
 induction ws with
 | nil=>intro k;refine aa (cb _) ?_;simp
 | cons w ws ih =>intro k;refine aa (Ob _ _) ?_;have:=xK k w;have:=h w (.head _);simp only [Xf];exact TM ‹_› (ih (λw hw=>h w (.tail _ hw)) (k+1)) ‹_›
section
variable {pos:Pos}
noncomputable abbrev UG:bD:=["words","text","k","word"]
theorem Fd (B:Base c mg mb)(xz:dR mg mb "enumerate" (.type "enumerate"))(hf:fk c fa vC .none)(ws:List au)(hl:ws.length<100)(hw:∀w∈ws,w.length<20)(m:Nat): bQ c (m+1) (.ref fa) [jL ws] [] (λv J=>v.under 0=Wn/\v=.str (VS 0 ws)):=by
 refine hf.fu B ["words"] UG [(0,jL ws)] (λJ J=>Z) Z Z (by decide +kernel) λenv own frames be kq=>?_;have hT:=Ar ws hw 0;refine ae (aj (dw (ah 1 Z (be 1 _ Z) ?_)));refine ae (eU Z (zP (bY B (by rfl) xz.1 xz.2 ⟨Z,ab 0 Z Z (af _ Z ?_)⟩) Z));refine ⟨λi S'=>∃OB,aW S' [(0,jL ws),(1,.str OB)]/\OB++VS i (ws.drop i)=VS 0 ws,(af (tx []) (aW.of Z) (ajq _)),λJ J J=>trivial,?_,?_⟩
 . rintro i y S' hy ⟨OB,hL,he⟩;obtain ⟨w,hwi,rfl⟩:∃w,ws[i]?=AN w/\y=AV.tup [.int i,.str (tx w)]:=by
    rw [bV,ahV,bV] at hy;cases hq:ws[i]? with
    | none=>rw [hq] at hy;cases hy
    | some w=>rw [hq] at hy;exact (af w Z (by have:=bf hy;refine az this ?_;simp))
   have hd:ws.drop i=w::ws.drop (i+1):=aa (N8 ((bA hwi).1)) (aa ((aiK.mp hwi).2) Z);refine (aV Z Z (ah 2 Z (be 2 _ Z) (ah 3 Z (be 3 _ Z) (bo [(0,jL ws),(1,.str OB),(2,.int i),(3,.str (tx w))] (by simpa using (hL.put Z).put Z) ?_))));have Bn:=hw w (bO hwi);have TD:OB.length<=22*ws.length:=by have:=congrArg cv he;rw [Ob] at this;exact TL this hT
   have key:∀{pos:Pos},OB++kj i w++VS (i+1) (ws.drop (i+1))=VS 0 ws:=λ{_}=>by refine az he (aa hd ?_);rw [alR];rfl
   have hwr:=xK i w;refine ae (ff 1 Z Z (be 1 _ Z) (oA (i7 (bF (ab 2 Z Z (aE (ng (by decide) (ES ?_))))))));refine aa (show ((i:Int).fmod 2)=((i % 2:Nat):Int) from l7 _ 2) ?_;by_cases h2:i % 2=1
   . refine aa h2 ?_;have ew:kj i w=("\"":Str)++tx w++("\"":Str):=by unfold kj;exact aa (if_pos h2) Z
     have q1:("\"":Str).length=1:=by decide +kernel
     refine bF (bF (dw (ab 3 Z Z (iR (by refine aa q1 (aa (cb _) ?_);simp only [Wo];exact QD Bn) (dw (iR (by refine aa (Ob _ _) (aa q1 (aa (cb _) ?_));simp only [Wo];exact QC Bn) ?_))))));refine aa (show (Ww "\""++tx w++Ww "\"")=kj i w from ew.symm) (i9 (by simp only [Wo];exact P4 hl Bn TD hwr) ?_);exact aD (af _ (aW.of Z) (key (pos:=⟨0,0,0,0⟩)))
   . have h0:=Rg h2;refine aa h0 ?_;have ew:kj i w=tx w++(" ":Str):=by unfold kj;exact aa (if_neg h2) Z
     have q1:(" ":Str).length=1:=by decide +kernel
     refine bF (ab 3 Z Z (dw (iR (by refine aa q1 (aa (cb _) ?_);simp only [Wo];exact QF Bn) ?_)));refine aa (show (tx w++Ww " ")=kj i w from ew.symm) (i9 (by simp only [Wo];exact P4 hl Bn TD hwr) ?_);exact aD (af _ (aW.of Z) (key (pos:=⟨0,0,0,0⟩)))
 . rintro S' ⟨OB,hL,he⟩;have e9:((ws.map λw=>AV.str (tx w)).zipIdx.map λp=>AV.tup [.int p.2,p.1]).length=ws.length:=by simp
   rw [e9,w5] at he;have ea:OB=VS 0 ws:=by refine az he ?_;exact (OE OB).symm
   subst ea;exact ae (bt (ab 1 Z (hL.at 1 _ Z) ⟨Z,Z⟩))
end
noncomputable def c1 (i:Nat):Str:=tx [i]
theorem vM {i:Nat}(h:i<26):Cs (c1 i)=Wp/\(c1 i=="\"")=Wp/\(c1 i=="\\")=Wp:=by
 have:∀i,i<26->(Cs (c1 i)||(c1 i=="\"")||(c1 i=="\\"))=Wp:=by decide +kernel
 have:=this i h;rw [hV,hV] at this;exact (aV this.1.1 this.1.2 this.2)
theorem vN (t:Str)(i:Nat)(l:au):t++c1 i++tx l=t++tx (i::l):=by
 rewrite [alR]
 exact aa (show c1 i++tx l=tx (i::l) from l8 [i] l) Z
theorem Fe (l:au)(h:∀i∈l,i<26)(r:bD):∀(ln:Int) (t:Str),∃tz,cG .unq (l.map c1++(" ":Str)::r) ln t=(t++tx l,r,tz):=by
 induction l with
 | nil=>intro ln t;exact (cj (nl " " ln) (by show cG .unq ((" ":Str)::r) ln t=_;rw [Hv,show Cs " "=Wn by decide +kernel,if_pos rfl,show tx []=anS from Z,OE]))
 | cons i l ih=>
   intro ln t;refine RR (vM (h i (.head _))) λh1 h2 h3=>Ml (ih (λi hi=>h i (.tail _ hi)) (nl (c1 i) ln) (t++c1 i)) λtz e=>(cj tz ?_)
   show cG .unq (c1 i::(l.map c1++(" ":Str)::r)) ln t=_;rw [Hv,h1,if_neg (by decide),h3,if_neg (by decide),e,vN]
theorem Ff (l:au)(h:∀i∈l,i<26)(r:bD):∀(ln:Int) (t:Str),∃tz,cG .xk (l.map c1++("\"":Str)::r) ln t=(t++tx l,r,tz):=by
 induction l with
 | nil=>intro ln t;exact (cj (nl "\"" ln) (by show cG .xk (("\"":Str)::r) ln t=_;rw [Hu,show (("\"":Str)=="\"")=Wn by decide +kernel,if_pos rfl,show tx []=anS from Z,OE]))
 | cons i l ih=>
   intro ln t;refine RR (vM (h i (.head _))) λh1 h2 h3=>Ml (ih (λi hi=>h i (.tail _ hi)) (nl (c1 i) ln) (t++c1 i)) λtz e=>(cj tz ?_)
   show cG .xk (c1 i::(l.map c1++("\"":Str)::r)) ln t=_;rw [Hu,h2,if_neg (by decide),h3,if_neg (by decide),e,vN]
theorem mP (a b:Str):gr (a++b)=gr a++gr b:=by unfold gr;refine aa (amw _ _) ?_;simp
theorem xM (l:au):gr (tx l)=l.map c1:=by unfold gr;refine aa (dU _) (aa Wu ?_);rfl
theorem BH (k:Nat)(w:au)(hn:w≠[])(h:∀i∈w,i<26)(r:bD)(ln:Int):∃tz,cG .top (gr (kj k w)++r) ln ""=(tx w,r,tz):=by
 unfold kj;by_cases hk:k % 2=1
 . refine aa (if_pos hk) (aa (mP _ _) (aa (mP _ _) (aa (xM _) ?_)));have e1:gr ("\"":Str)=[("\"":Str)]:=by decide +kernel
   refine aa e1 (Ml (Ff w h r (nl "\"" ln) "") λtz e=>(cj tz ?_));show cG .top (("\"":Str)::((w.map c1++[("\"":Str)])++r)) ln ""=_;rw [Ux,show Cs "\""=Wp by decide +kernel,if_neg (by decide),show (("\"":Str)=="\"")=Wn by decide +kernel,if_pos rfl,MW];show cG .xk (w.map c1++("\"":Str)::r) _ _=_;rw [e];exact congrArg (λs=>(s,r,tz)) (ajq _)
 . rw [if_neg hk,mP,xM];have e1:gr (" ":Str)=[(" ":Str)]:=by decide +kernel
   rw [e1];cases w with
   | nil=>exact absurd Z hn
   | cons i l=>
     refine RR (vM (h i (.head _))) λh1 h2 h3=>Ml (Fe l (λi hi=>h i (.tail _ hi)) r (nl (c1 i) ln) (""++c1 i)) λtz e=>(cj tz ?_)
     show cG .top (c1 i::((l.map c1++[(" ":Str)])++r)) ln ""=_;rw [Ux,h1,if_neg (by decide),h2,if_neg (by decide),h3,if_neg (by decide),MW];show cG .unq (l.map c1++(" ":Str)::r) _ _=_;rw [e,vN];exact congrArg (λs=>(s,r,tz)) (ajq _)
theorem BI (x:Str):∀y∈gr x,y.length=1:=λy hy=>by unfold gr at hy;rw [MU] at hy;refine Va hy λa J o1=>?_;clear hy;obtain rfl:=o1;rfl
theorem HJ (ws:List au):∀k,(∀w∈ws,w≠[]/\∀i∈w,i<26)->(VS k ws).length<900->HI ws (gr (VS k ws)):=by
 induction ws with
 | nil=>intro k _ _;exact .nil
 | cons w ws ih=>
   intro k h hl;have e:VS k (w::ws)=kj k w++VS (k+1) ws:=rfl;refine XZ (h w (.head _)) λhn h26=>.cons (λln=>?_) (BI _) (by refine aa (adK _) ?_;exact hl) (ih (k+1) (λw hw=>h w (.tail _ hw)) ?_)
   . exact aa e (aa (mP _ _) (BH k w hn h26 _ ln))
   . rw [e,Ob] at hl;exact RG hl
noncomputable def cf (ord:au)(b:Nat):Nat:=(aG (ord.getD b 0)).length
noncomputable def dM (ord:au)(P:List (Nat×Nat))(c k:Nat):Nat:=(P.filter λp=>decide (p.1<=c/\c<p.2/\cf ord p.1=k)).length
noncomputable def gJ (f:Nat->Nat):bZ:=(WG 5).map λk=>.int (f k:Nat)
noncomputable def As (f:Nat->Nat->Nat):AV:=.lst ((WG 16).map λc=>.lst (gJ (f c)))
noncomputable def xN (f:Nat->Nat->Nat)(b j cs:Nat)(c k:Nat):Nat:=f c k+if b<=c/\c<b+j/\k=cs then 1 else 0
noncomputable abbrev LU:bD:=["order","pairs","rows","pair","birth","death","corners","count"]
theorem mn (f:Nat->Nat):(gJ f).length=5:=by simp [gJ]
theorem ph (f:Nat->Nat){k:Nat}(h:k<5):(gJ f)[k]?=AN (.int (f k:Nat)):=by unfold gJ;refine aa bV (aa (DD h) ?_);rfl
theorem xO (f g:Nat->Nat){k:Nat}(h:k<5)(hk:g k=f k+1)(ho:∀j,j≠k->g j=f j):(gJ f).set k (.int ((f k:Nat)+1))=gJ g:=by
 refine Yi λi=>?_;by_cases hi:i<5
 . refine aa (ph g hi) ?_;by_cases e:k=i
   . subst e;refine aa (ajt (by rw [mn];exact hi)) (aa hk ?_);rfl
   . exact aa (aj3 e) (aa (ph f hi) (aa (ho i (Gy e)) Z))
 . exact aa (YA (by rw [Ov,mn];exact PM hi)) (aa (YA (by rw [mn];exact PM hi)) Z)
theorem Jn (c:Nat)(h:c<16):∃r,u3 (Ww "abcdefghijklmnop") (tx [c]) 0 (Ww "abcdefghijklmnop").length 1=c::r:=by
 obtain key:∀k,k<16->(u3 (Ww "abcdefghijklmnop") (tx [k]) 0 (Ww "abcdefghijklmnop").length 1).head?=AN k:=by decide +kernel
 obtain h:=key c h;cases hq:u3 (Ww "abcdefghijklmnop") (tx [c]) 0 (Ww "abcdefghijklmnop").length 1 with
 | nil=>rw [hq] at h;cases h
 | cons x r=>rw [hq] at h;exact (cj r (by have:=WM h;exact aa this Z))
theorem jl {f:Nat}:(aG f).length<=4:=by unfold aG;refine aa (Wl _) ?_;exact XH _ _
theorem Fg {l:au}(h:∀x∈l,x<31):(tx l).cps.all (· < 128)=Wn:=by refine bb ak2 ?_;intro c hcm;have:=akk.mpr hcm;rw [dU,MU] at this;refine Va this λa ha o4=>?_;obtain rfl:=o4;exact decide_eq_true (PB (h a ha))
theorem xP (ord:au)(P:List (Nat×Nat)){i:Nat}{p:Nat×Nat}(h:P[i]?=AN p)(H9:p.1<p.2)(c k:Nat):dM ord (P.take (i+1)) c k=xN (dM ord (P.take i)) p.1 (p.2-p.1) (cf ord p.1) c k:=by
 have e:P.take (i+1)=P.take i++[p]:=by refine aa u7 (aa h ?_);rfl
 unfold xN dM;refine aa e (aa (XM _ _) (aa Nc ?_));congr 1;by_cases q:p.1<=c/\c<p.2/\cf ord p.1=k
 . refine aa (if_pos (aV q.1 (T3 q) q.2.2.symm)) ?_;simp [q]
 . refine aa (if_neg (λw=>q (aV w.1 (T1 w) w.2.2.symm))) (aa XB (aa (decide_eq_false q) ?_));rfl
section
variable {pos:Pos}
theorem Fh {x:Str}{kd:Nat}{p H6 pos:Pos}{args:cJ}
 (h:pz c C pos args S (wk (.str x) (bK c C (.builtin "str.index") K X)) X)
 (rz:((W3 pos (M4 args C.env)).all (λx=>!x.1)&&(DN pos (Xk [] C.env)).all (λx=>x.1.isSome)
  && decide (args.length+([]:List YC).length+(if ([]:List YC).isEmpty then 0 else 1)<30))=Wn:=by rfl)
 (hline:(H6.endLine==pos.line)=Wn:=by rfl)
 (na:(W3 pos (M4 args C.env)).any (·.1)=Wp:=by rfl)
 (hl:mU (W3 pos (M4 args C.env))=Wp:=by rfl):Ev c C (.Call (.Attribute (.Constant (.str x) kd p) "index" H6) args [] pos) S K X:=
 cq "str" "str.index" Yt Ys ahD (dw ⟨Z,h⟩) Z rz hline na hl
def Fi (f:Nat->Nat->Nat)(H:aR):Prop:=∀i,i<16->H[i]?=AN (.list (gJ (f i)))
theorem Fj (B:Base c mg mb){sa:Wr}(hs:fk c sa l0 .none)(gs:mg "_law_sides"=AN (.ref sa))(jK:dR mg mb "len" (.builtin "len"))(hX:dR mg mb "range" (.type "range"))(hf:fk c fa pX .none)(ord:au)(O:iX ord)(P:List (Nat×Nat))(hP:∀p∈P,p.1<p.2/\p.2<16)(hl:P.length<1000)(m:Nat): bQ c (m+3) (.ref fa) [cP ord,.lst (P.map λp=>.str (tx [p.1,p.2]))] [] (λv J=>v.under 0=Wn/\v=As (dM ord P)):=by
 refine hf.fu B ["order","pairs"] LU [(0,cP ord),(1,.lst (P.map λp=>.str (tx [p.1,p.2])))] (λJ J J=>Z) Z Z (by decide +kernel) λenv own frames be kq=>?_;let zs:AO:=.list (gJ λJ=>0);refine ae (jc (sc:=pX.scope) ["face"] [] Z trivial (show dj _ _ [] _=Wn by decide +kernel) (fN (ab 0 Z Z (af _ (.inl Z) ⟨trivial,λoS ds fG=>⟨λi OB S'=>S'=⟨[],td i zs⟩/\OB=(WG i).map .ref/\i<=16,(aV Z Z Pk),?_,?_,?_⟩⟩))))
 . rintro i OB S' ⟨rfl,rfl,hi⟩;exact ⟨.inl Z,by simp [Wo];exact Q1 hi⟩
 . rintro i y OB S' hy ⟨rfl,rfl,hi⟩;have EQ:i<16:=by have:=(bA hy).1;rw [Wl,O.len] at this;exact this
   refine ah 0 Z (fG _ (.inl Z)) ?_;refine bF (lM (aw (aE ⟨by simp [Wo],aE (Ad (.inl Z) (by decide) (by decide) (by decide) (.inr (kz [] trivial ?_ ?_ EQ)))⟩)))
   . exact az List.replicate_succ' Z
   . refine aa G5 (aa C5 ?_);refine aa List.length_replicate ?_;rfl
 rintro OB S' ⟨rfl,rfl,_⟩;refine aa (Wl _) (aa O.len (.inl (ah 2 Z (be 2 _ Z) ?_)));let L:d7:=[(0,cP ord),(1,.lst (P.map λp=>.str (tx [p.1,p.2]))),(2,.lst ((WG 16).map .ref))]
 have r0:Fi (λJ J=>0) (td 16 zs):=λi hi=>aa List.getElem?_replicate (aa (if_pos hi) Z);generalize td 16 zs=H0 at r0;refine ae (eU Z (fN (ab 1 Z Z (af _ (.inl Z) ⟨λi S'=>aW S' L/\Fi (dM ord (P.take i)) S'.heap,⟨aW.of Z,r0⟩,λJ J J=>.inl Z,?_,?_⟩))))
 . rintro i y S' hy ⟨hL,hR⟩;rw [bV] at hy;refine Va (gW hy) λp hp o1=>?_;obtain rfl:=o1;refine XZ (hP p (bO hp)) λAt vO=>?_;obtain ⟨b,d⟩:=p;simp only at At vO;have oR:=xP ord P hp At;simp only at oR;refine ah 3 Z (be 3 _ Z) (bo (L++[(3,.str (tx [b,d]))]) (by simpa [L] using hL.put (i:=3) (v:=.str (tx [b,d])) Z) (ae (aj (gA (sc:=pX.scope) ["letter"] [] Z trivial (show dj _ _ [] _=Wn by decide +kernel) (Lx (ab 3 Z Z (aU (tx [b,d]) Z (Fg (λx hx=>by simp at hx;exact S8 vO At hx)) ?_)))))));have ei:((tx [b,d]).cps.toList.map λcp=>AV.str ⟨#[cp]⟩)=[b,d].map s1:=sI [b,d];refine aa ei ?_;refine dA (gK (λJ=>Wn) (λ(x:Nat)=>AV.int x) [b,d]) trivial (by simp [Wo]) trivial (λoS ds fG j z hz hj=>?_) ?_
   . rw [bV] at hz;refine Va (gW hz) λx hx o2=>?_;obtain rfl:=o2;have aay:x<16:=by have:=bO hx;simp at this;exact Jd vO At this
     refine Ml (Jn x aay) λrr DB=>ah 0 Z (fG _ (.inl Z)) ?_;exact Fh (aw (ab 0 Z Z (xj DB (fT hj (by refine aa (lZ hx) ?_;rfl) (aW.of Z) Z))))
   refine aa (Wl _) (aa (oY _ _) (.inl (zl Z Z (ah 4 Z (be 4 _ Z) (ah 5 Z (be 5 _ Z) ?_)))));have Vg:ord[b]?=AN (ord.getD b 0):=by refine aa WE (aa (cm (by rw [O.len];exact (Mq vO At))) ?_);rfl
   refine ae (aj (bS (.builtin "len") (bY B (by rfl) jK.1 jK.2 ⟨Z,aw (l5 B Z (by show m+1<=m+2;exact Ln) (by rfl) gs hs.fnAt (aw (bH (ab 0 Z Z (ab 4 Z Z ⟨fh (.inl Z),iT (.inl Z) (Ja) (RP vO At) (by refine aa (Gf _) (aa bV (aa Vg ?_));rfl) ⟨Z,_,oW B hs (ord.getD b 0) (O.lt _ (bO Vg)) m,?_⟩⟩)))))⟩)));refine kH (.inl Z) (by refine aa (Wl _) ?_;have:=@jl (ord.getD b 0);exact Ph this) (ah 6 Z (be 6 _ Z) ?_);refine aa (Wl _) ?_;have TT:cf ord b<5:=by have:=@jl (ord.getD b 0);unfold cf;exact Hi this
   refine bo (L++[(4,.int b),(5,.int d),(6,.int (cf ord b:Nat))]) (aW.of Z) ?_;refine ae (eU Z (BE (bY B (by rfl) hX.1 hX.2 ⟨Z,bG (ab 4 Z Z (aw (ab 5 Z Z (kA b d Z (Sb At) (Qy vO) ⟨λj S'=>aW S' (L++[(4,.int b),(5,.int d),(6,.int (cf ord b:Nat))])/\Fi (xN (dM ord (P.take i)) b j (cf ord b)) S'.heap,⟨aW.of Z,?_⟩,λJ J J=>trivial,?_,?_⟩))))⟩)))
   . intro q hq;refine aa (hR q hq) ?_;have:xN (dM ord (P.take i)) b 0 (cf ord b) q=dM ord (P.take i) q:=by funext k;unfold xN;refine aa (if_neg (TR)) ?_;rfl
     exact aa this Z
   . rintro j y S2 hy ⟨Bl,Hw⟩;rw [bV] at hy;refine Va (gW hy) λx hx o3=>?_;obtain rfl:=o3;obtain ⟨hj,rfl⟩:j<d-b/\x=j:=by have h1:=(bA hx).1;rw [wU] at h1;rw [DD h1] at hx;exact ⟨h1,(WM hx).symm⟩
     refine ah 7 Z (be 7 _ Z) (bo (L++[(4,.int b),(5,.int d),(6,.int (cf ord b:Nat)),(7,.int ((b+x:Nat):Int))]) (by simpa [L] using Bl.put Z) ?_);have T0:=S7 vO hj;have LT:=Hw (b+x) T0;refine ae (sP (bH (ab 2 Z Z (ab 7 Z Z ⟨fh (.inl Z),iT (.inl Z) (Ru) (S6 vO hj) (by refine aa (Gf _) (aa bV (aa (DD T0) ?_));rfl) (ab 6 Z Z ?_)⟩))));refine iT (.inr (af (b+x) Z LT)) (Ja) (PC TT) (by refine aa (Gf _) ?_;exact ph _ TT) ?_;refine aE (fP (qe (b+x) ((cf ord b:Nat):Int) _ Z Z LT Ja (QK TT) (by refine aa (Gf _) (aa (mn _) ?_);exact TT) ?_));refine aD ⟨aW.of Z,λq hq=>?_⟩;refine aa (Gf _) ?_;by_cases e:b+x=q
     . subst e;refine aa (k0 LT) (congrArg (λl=>AN (AO.list l)) (xO _ _ TT ?_ λk hk=>?_))
       . unfold xN;exact aa (if_pos (aV Sz RH Z)) (aa (if_neg (Tv)) Z)
       . unfold xN;exact aa (if_neg (TP hk)) (aa (if_neg (λw=>hk w.2.2)) Z)
     . refine aa (du e) (aa (Hw q hq) (congrArg (λl=>AN (AO.list (gJ l))) ?_));funext k;unfold xN;refine congrArg (λz:Nat=>dM ord (P.take i) q k+z) ?_;by_cases w:b<=q/\q<b+x/\k=cf ord b
       . exact aa (if_pos w) (aa (if_pos (aV w.1 (T2 w) w.2.2)) Z)
       . exact aa (if_neg w) (aa (if_neg (λv=>w (aV v.1 (TZ v e) v.2.2))) Z)
   . rintro S2 ⟨Bl,Hw⟩;rw [Wl,wU] at Hw;refine aD ⟨(jr (Bl.at 0 _ Z) (Bl.at 1 _ Z) (Bl.at 2 _ Z) trivial),λq hq=>aa (Hw q hq) (congrArg (λl=>AN (AO.list (gJ l))) ?_)⟩;funext k;exact (oR q k).symm
 . rintro S1 ⟨hL,hR⟩;rw [Wl,X9] at hR;obtain ⟨loc,H3,sh,g1,g2,g3⟩:=c9.elems 2 (WG 16) ((WG 16).map λi=>gJ (dM ord P i)) [] S1 (hL.at 2 _ Z) (by simp)
    (λi k r e1 e2=>by
     rw [bV] at e2;by_cases hi:i<16
     . rw [DD hi] at e1 e2;cases e1;cases e2;exact hR i hi
     . rw [Gu.mpr (by simp;exact Rh hi)] at e1;cases e1) ajr
   refine gm sh (ae (bt (ab 2 Z g1 ⟨?_,?_⟩)))
   . have:∀l:au,AV.bX 0 (l.map λi=>AV.lst (gJ (dM ord P i)))=Wn:=λl=>by induction l with
      | nil=>rfl
      | cons x l ih=>exact yi.mpr ⟨by
       simp only [FH];have:∀l:au,AV.bX 0 (l.map λk=>AV.int ((dM ord P x k:Nat):Int))=Wn:=λl=>by induction l with
        | nil=>rfl
        | cons x l ih=>exact yi.mpr ⟨Z,ih⟩
       exact this _,ih⟩
     simp only [FH,w7,Wu];exact this _
   . unfold As;rw [w7,Wu];rfl
end
structure DS where
 cnt:Nat->Nat
 pcs:List (Nat×Nat)
noncomputable def cF (pcs:List (Nat×Nat))(a b:Nat):List (Nat×Nat):=pcs.map λp=>(p.1,if p.2=b then a else p.2)
noncomputable def cY (pcs:List (Nat×Nat))(f:Nat):Nat:=(bC pcs f).getD 0
noncomputable def bT (st:DS)(f:Nat):DS:=
 ⟨λk=>if k=(aG f).length then st.cnt k+1 else st.cnt k,
  if (aG f).length=1 then ct st.pcs f f
  else if (aG f).length=2 then cF st.pcs (cY st.pcs ((aG f).getD 0 0)) (cY st.pcs ((aG f).getD 1 0)) else st.pcs⟩
noncomputable def iH (fs:au):DS:=fs.foldl bT ⟨λJ=>0,[]⟩
noncomputable def ia (st:DS):Nat:=(firstsI (st.pcs.map λp=>(p.2:Int))).length
noncomputable def Au (st:DS):Int:=if st.cnt 1=0 then 1 else 0
noncomputable def xQ (st:DS):List Int:=[Au st,(ia st:Int)-1+Au st,(st.cnt 2:Int)+ia st-st.cnt 1-st.cnt 3+(st.cnt 3 / 4:Nat),((st.cnt 3 / 4:Nat):Int)-st.cnt 4,0]
noncomputable def fU (ord:au)(n:Nat):List (List Int):=(WG n).map λi=>xQ (iH (ord.take (i+1)))
noncomputable def jq (pcs:List (Nat×Nat)):List (Int×AV):=pcs.map λp=>((p.1:Int),.int (p.2:Nat))
noncomputable abbrev tD:bD:=["order","rows","pieces","counts","face","sides","kept","gone","bare","apart","full","rings"]
structure OkD (st:DS)(f:Nat):Prop where
 nd:(st.pcs.map (·.1)).Nodup
 pl:st.pcs.length<100
 look:(aG f).length=2->∀s∈aG f,(bC st.pcs s).isSome=Wn
theorem nI (a b:Nat):((a:Int)=(b:Int))=(a=b):=propext ⟨WS,λh=>aa h Z⟩
theorem BJ (pcs:List (Nat×Nat))(f:Nat):bC (jq pcs) (f:Int)=(bC pcs f).map λx=>.int (x:Nat):=by
 induction pcs with
 | nil=>rfl
 | cons p l ih=>
   unfold bC jq at *;by_cases e:p.1=f
   . simp [e]
   . have e1:¬((p.1:Int)=(f:Int)):=λq=>e (WS q);simp only [WW,lS,e1,e,decide_false];exact ih
theorem BK (pcs:List (Nat×Nat))(f x:Nat):ct (jq pcs) (f:Int) (.int (x:Nat))=jq (ct pcs f x):=by
 have s8:(jq pcs).any (λkv=>decide (kv.1=(f:Int)))=pcs.any (λkv=>decide (kv.1=f)):=by unfold jq;refine aa K0 ?_;congr 1;funext p;simp [nI]
 unfold ct;refine aa s8 ?_
 split
 . unfold jq;refine aa Wu (aa Wu ?_);refine WL λp J=>?_;by_cases e:p.1=f
   . simp [e]
   . simp [nI,e]
 . unfold jq;refine aa C5 ?_;rfl
theorem qc (ord:au){i f:Nat}(h:ord[i]?=AN f):iH (ord.take (i+1))=bT (iH (ord.take i)) f:=by
 have e:ord.take (i+1)=ord.take i++[f]:=by refine aa u7 (aa h ?_);rfl
 unfold iH;refine aa e (aa ai1 ?_);rfl
section
variable {pos:Pos}
structure Fl (c:aZ)(mg mb:eI)(sa:Wr):Prop where
 B:Base c mg mb
 gF:fk c sa l0 .none
 kO:mg "_law_sides"=AN (.ref sa)
 jK:dR mg mb "len" (.builtin "len")
 t7:dR mg mb "set" (.type "set")
structure xR (H:aR)(p:Nat)(st:DS)(rows:List (List Int)):Prop where
 rows:H[0]?=AN (.list (rows.map λr=>.lst (r.map .int)))
 cnt:H[2]?=AN (.list (gJ st.cnt))
 pcs:H[p]?=AN (.bB (jq st.pcs))
 p0:p≠0
 p2:p≠2
noncomputable abbrev qF (ord:au)(p:Nat):d7:=[(0,cP ord),(1,.ref 0),(2,.ref p),(3,.ref 2)]
theorem zm {sa:Wr}(G:Fl c mg mb sa){env:Env}{own:aJ}{frames:List Env}{m:Nat}(be:Stores (jD l4 env own frames (m+2) tD)){ord:au}{p f:Nat}{cnt:Nat->Nat}{pcs:List (Nat×Nat)}(ok:OkD ⟨cnt,pcs⟩ f){rows:List (List Int)}{st:Pc}(h0:(jd l4.body 1)[2]?=AN st){H:aR}(hh:xR H p ⟨(bT ⟨cnt,pcs⟩ f).cnt,pcs⟩ rows){K:gX}(k:∀S' p',aW S' (qF ord p')->xR S'.heap p' (bT ⟨cnt,pcs⟩ f) rows->K .next S'): lB c (jD l4 env own frames (m+2) tD) st ⟨qF ord p++[(4,.int f),(5,cP (aG f))],H⟩ K fy:=by
 obtain rfl:=WM h0;have nM:=@jl f;have tp:∀{S:AS} {K:cu},S.loc.lookup 5=AN (cP (aG f))->K (.int (aG f).length) S->Ev c (jD l4 env own frames (m+2) tD) (.Call (.Name "len" ⟨0,0,0,0⟩) [.Name "sides" ⟨0,0,0,0⟩] [] ⟨0,0,0,0⟩) S K fy:=λh k=>
  bS (.builtin "len") (bY G.B (by rfl) G.jK.1 G.jK.2 ⟨Z,aw (ab 5 Z h (kH (.inl Z) (by refine aa (Wl _) ?_;exact Ph nM) (by refine aa (Wl _) ?_;exact k)))⟩)
 refine b9 (bp (bS (.builtin "len") (bY G.B (by rfl) G.jK.1 G.jK.2 ⟨Z,aw (ab 5 Z Z (kH (.inl Z) (by refine aa (Wl _) ?_;exact Ph nM) ?_))⟩)));refine aa (Wl _) ?_;refine aE (pE (ba ?_));by_cases h1:(aG f).length=1
 . refine aa (show (((aG f).length:Int)==1)=Wn by rw [h1];rfl) ?_;show Ex c _ _ _ _ _;have e:bT ⟨cnt,pcs⟩ f=⟨(bT ⟨cnt,pcs⟩ f).cnt,ct pcs f f⟩:=by unfold bT;rw [if_pos h1]
   refine ae (aj (ab 4 Z Z (pO (ab 2 Z Z (ab 4 Z Z (jQ p (f:Int) (jq pcs) Z Z hh.pcs (by unfold jq;rw [Wl];have:=ok.pl;simp only [Wo];exact XI (Xw this) (by decide)) ?_))))));rw [BK];refine aD (k _ p (aW.of Z) ?_);rw [e];exact ⟨(du hh.p0).trans hh.rows,(du hh.p2).trans hh.cnt,k0 hh.pcs,hh.p0,hh.p2⟩
 rw [show (((aG f).length:Int)==1)=Wp by rw [beq_eq_false_iff_ne];exact Ri h1];show Ex c _ _ _ _ _;refine ae (b9 (bp (bS (.builtin "len") (bY G.B (by rfl) G.jK.1 G.jK.2 ⟨Z,aw (ab 5 Z Z (kH (.inl Z) (by rw [Wl];exact Ph nM) ?_))⟩))));rw [Wl];refine aE (pE (ba ?_));by_cases h2:(aG f).length=2
 rotate_left
 . rw [show (((aG f).length:Int)==2)=Wp by rw [beq_eq_false_iff_ne];exact Rj h2];have e:bT ⟨cnt,pcs⟩ f=⟨(bT ⟨cnt,pcs⟩ f).cnt,pcs⟩:=by unfold bT;rw [if_neg h1,if_neg h2]
   refine aD (aD (k _ p (aW.of Z) ?_));rw [e];exact hh
 rw [show (((aG f).length:Int)==2)=Wn by rw [h2];rfl];show Ex c _ _ _ _ _;have e:bT ⟨cnt,pcs⟩ f=⟨(bT ⟨cnt,pcs⟩ f).cnt,cF pcs (cY pcs ((aG f).getD 0 0)) (cY pcs ((aG f).getD 1 0))⟩:=by unfold bT;rw [if_neg h1,if_pos h2]
 have rI:∀i,i<2->(aG f)[i]?=AN ((aG f).getD i 0)/\bC (jq pcs) (((aG f).getD i 0:Nat):Int)=AN (.int (cY pcs ((aG f).getD i 0):Nat)):=λi hi=>by
  have Ge:=RX hi h2;have ha:(aG f)[i]?=AN ((aG f).getD i 0):=by rw [WE,cm Ge];rfl
  refine ⟨ha,?_⟩;have:=ok.look h2 _ (bO ha);rw [BJ];unfold cY;cases hq:bC pcs ((aG f).getD i 0) with
  | none=>rw [hq] at this;cases this
  | some x=>rfl
 obtain ⟨a0,g0⟩:=rI 0 (am5);obtain ⟨a1,g1⟩:=rI 1 (Zx);have tab:∀lc,yG ⟨lc,H⟩ (.ref p) (jq pcs):=λlc=>.inr (af p Z hh.pcs);refine ae (aj (jV (bG (bH (ab 2 Z Z (bH (ab 5 Z Z (aE ⟨fh (.inl Z),iT (.inl Z) (by decide) (by decide) (by show ((aG f).map _)[0]?=_;rw [bV,a0];rfl) ⟨hG (tab _),je (tab _) g0 ?_⟩⟩))))))));refine aw (bH (ab 2 Z Z (bH (ab 5 Z Z (aE ⟨fh (.inl Z),iT (.inl Z) (by decide) (by decide) (by show ((aG f).map _)[1]?=_;rw [bV,a1];rfl) ⟨hG (tab _),je (tab _) g1 ⟨by simp [Wo],?_⟩⟩⟩)))));refine pG Z Z (ah 6 Z (be 6 _ Z) (ah 7 Z (be 7 _ Z) ?_));generalize cY pcs ((aG f).getD 0 0)=la at e;generalize cY pcs ((aG f).getD 1 0)=lb at e;refine gm (c9.bB 2 Z hh.pcs) ?_;refine bo [(0,cP ord),(1,.ref 0),(2,.dQ (jq pcs)),(3,.ref 2),(6,.int (la:Nat)),(7,.int (lb:Nat))] (aW.of Z) ?_;show Ex c _ _ ⟨_,H.set p .gone⟩ _ _;have hlp:(jq pcs).length=pcs.length:=by unfold jq;rw [Wl]
 refine ae (aeO (sc:=l4.scope) G.B ["kept","gone","corner","piece"] [(6,"kept",.int (la:Nat)),(7,"gone",.int (lb:Nat))] Z (pB Z Z Z Z trivial) (show dj _ _ ["kept","gone"] _=Wn by decide +kernel) (Bp (ab 2 Z Z (af _ Z ?_))));refine sA (λi=>((((cF pcs la lb).getD i (0,0)).1:Int),.int (((cF pcs la lb).getD i (0,0)).2:Nat))) (pB Z Z Z Z trivial) (by rw [Wl,hlp];have:=ok.pl;simp only [Wo];exact XI (Xw this) (by decide)) trivial (λoS ds fG i y hy hi=>?_) ?_
 . rw [bV] at hy;refine Va (gW hy) λkv B0 o1=>?_;obtain rfl:=o1;unfold jq at B0;rw [bV] at B0;refine Va (gW B0) λq hq o2=>?_;obtain rfl:=o2;have hm:(cF pcs la lb).getD i (0,0)=(q.1,if q.2=lb then la else q.2):=by rw [WE];unfold cF;rw [bV,hq];rfl
   refine (aV Z Z (ah 2 Z (fG _ (.inl Z)) (ah 3 Z (fG _ (.inl Z)) ?_)));refine ab 2 Z Z (af _ Z (oA (bp (ab 3 Z Z (ab 1 Z Z (pE (ba ?_)))))));by_cases hb:q.2=lb
   . rw [show ((q.2:Int)==(lb:Int))=Wn by rw [hb];exact beq_self_eq_true _];refine ab 0 Z Z (EX hi ?_ (aW.of Z) Z);rw [hm,if_pos hb]
   . rw [show ((q.2:Int)==(lb:Int))=Wp by rw [beq_eq_false_iff_ne];exact λw=>hb (WS w)];refine ab 3 Z Z (EX hi ?_ (aW.of Z) Z);rw [hm,if_neg hb]
 have Hy:(cF pcs la lb).length=pcs.length:=by unfold cF;rw [Wl]
 have hmk:(cF pcs la lb).map (·.1)=pcs.map (·.1):=by unfold cF;rw [Wu];rfl
 have MM:((cF pcs la lb).map (·.1)).Nodup:=by rw [hmk];exact ok.nd
 have LE:tB (λi=>((((cF pcs la lb).getD i (0,0)).1:Int),AV.int (((cF pcs la lb).getD i (0,0)).2:Nat))) pcs.length=jq (cF pcs la lb):=by
  rw [xt _ _ λi j h1 h2 w=>?_]
  . unfold jq;refine Yi λi=>?_;by_cases hi:i<pcs.length
    . have hx:(cF pcs la lb)[i]?=AN ((cF pcs la lb).getD i (0,0)):=by rw [WE,cm (by rw [Hy];exact hi)];rfl
      rw [bV,bV,DD hi,hx];rfl
    . rw [YA (by simp;exact Lv hi),YA (by rw [Wl,Hy];exact Lv hi)]
  . have hj:j<((cF pcs la lb).map (·.1)).length:=by rw [Wl,Hy];exact h2
    have hi:i<((cF pcs la lb).map (·.1)).length:=by rw [Wl,Hy];exact Hm h1 h2
    have w':((cF pcs la lb).map (·.1))[i]=((cF pcs la lb).map (·.1))[j]:=by have w2:=WS w;rw [WE,WE,cm (by simpa using hi),cm (by simpa using hj)] at w2;rw [GG,GG];exact w2
    have:=(D4 MM).mp w';exact PQ h1 this
 rw [Wl,hlp,LE];refine .inr (ah 2 Z (be 2 _ Z) ?_);have na:=(bA hh.pcs).1;refine aD (aD (k _ H.length ?_ ?_))
 . refine (pB Z Z ?_ Z trivial);show (ck _ 2 _).lookup 2=_;rw [aQ,if_pos rfl,Ov]
 . have h0l:=(bA hh.rows).1;have h2l:=(bA hh.cnt).1;rw [e];refine ⟨?_,?_,?_,Se na,ZS h2l⟩
   . exact (fb (by rw [Ov];exact h0l)).trans ((du hh.p0).trans hh.rows)
   . exact (fb (by rw [Ov];exact h2l)).trans ((du hh.p2).trans hh.cnt)
   . show (H.set p .gone++[AO.bB _])[H.length]?=_;rw [ij (by rw [Ov];exact bP _)];simp
end
theorem ui (f:Nat->Nat)(k:Nat)(h:k<5):(gJ f)[((k:Nat):Int).toNat]?=AN (.int (f k:Nat)):=by refine aa (Gf _) ?_;exact ph f h
section
variable {pos:Pos}
theorem HK {sa:Wr}(G:Fl c mg mb sa){env:Env}{own:aJ}{frames:List Env}{m:Nat}(be:Stores (jD l4 env own frames (m+2) tD)){ord:au}{p:Nat}{st:DS}(na:st.pcs.length<100){rows:List (List Int)}(Mx:rows.length<100){Cq:fW}(hr:Cq=(jd l4.body 1).drop 3){S:AS}(hL:aW S (qF ord p))(hh:xR S.heap p st rows){K:gX}(k:∀S',aW S' (qF ord p)->xR S'.heap p st (rows++[xQ st])->K .next S'): Ex c (jD l4 env own frames (m+2) tD) Cq S K fy:=by
 subst hr;refine bo (qF ord p) hL ?_;have abk:∀(lc:d7) (x:AO),dD ⟨lc,S.heap⟩ (.ref 2) (gJ st.cnt):=λlc J=>.inr (af 2 Z hh.cnt);have cg:∀{lc:d7} {H:aR} {k:Nat} {K:cu},H[2]?=AN (.list (gJ st.cnt))->k<5->K (.int (st.cnt k:Nat)) ⟨lc,H⟩->iA c (jD l4 env own frames (m+2) tD) X2 (.ref 2) (.int ((k:Nat):Int)) ⟨lc,H⟩ K fy:=λ{lc H k K} h hk q=>
  iT (y:=.int (st.cnt k:Nat)) (.inr (af 2 Z h)) (Ja) (PC hk) (ui st.cnt k hk) q
 have gl:∀{lc:d7} {H:aR},H[2]?=AN (.list (gJ st.cnt))->∃T id,uN ⟨lc,H⟩ (.ref 2)=AN T/\Oy (.type T) "__getitem__"=pure (AN (.builtin id)):=λh=>fh (xs:=gJ st.cnt) (.inr (af 2 Z h));have hb:((st.cnt 1:Int)==0)=decide (st.cnt 1=0):=by exact bb yz (bb beq_iff_eq (bb decide_eq_true_iff ZE))
 refine ae (wo (K':=λfl S'=>fl=.next/\S'=⟨qF ord p++[(8,.int (Au st))],S.heap⟩) (aj (oA (bp (bH (ab 3 Z Z (aE ⟨gl hh.cnt,cg (k:=1) hh.cnt (by decide) (aE (pE (ba ?_)))⟩)))))) ?_)
 . refine aa hb ?_;unfold Au;by_cases q:st.cnt 1=0
   . exact aa (decide_eq_true q) (aa (if_pos q) (aE (ah 8 Z (be 8 _ Z) ⟨Z,Z⟩)))
   . exact aa (decide_eq_false q) (aa (if_neg q) (aE (ah 8 Z (be 8 _ Z) ⟨Z,Z⟩)))
 rintro fl S' ⟨rfl,rfl⟩;have Uf:(jq st.pcs).map (·.2)=(st.pcs.map λp=>(p.2:Int)).map .int:=by unfold jq;refine aa Wu (aa Wu ?_);rfl
 refine ae (aj (bS (.builtin "len") (bY G.B (by rfl) G.jK.1 G.jK.2 ⟨Z,aw (vL (bY G.B (by rfl) G.t7.1 G.t7.2 ⟨Z,ab 2 Z Z (kA (jq st.pcs) _ (.inr (af p Z hh.pcs)) Uf (by refine aa (Wl _) ?_;exact Qj na) ?_)⟩) Z)⟩)));refine LR (k:=S.heap.length) (D:=firstsI (st.pcs.map λp=>(p.2:Int))) (by show (S.heap++[_])[S.heap.length]?=_;refine aa (ij (bP _)) ?_;simp) ?_;refine ah 9 Z (be 9 _ Z) ?_;have tE:xR (S.heap++[AO.iD (firstsI (st.pcs.map λp=>(p.2:Int)))]) p st rows:=⟨eM hh.rows,eM hh.cnt,eM hh.pcs,hh.p0,hh.p2⟩
 generalize S.heap++[AO.iD (firstsI (st.pcs.map λp=>(p.2:Int)))]=H at tE;refine ae (aj (bF (bH (ab 3 Z Z (aE ⟨gl tE.cnt,cg (k:=3) tE.cnt (by decide) (aE (pD (by decide) (GK (by decide)) (aa (show ((st.cnt 3:Int).fdiv 4)=((st.cnt 3 / 4:Nat):Int) from l6 _ 4) (ah 10 Z (be 10 _ Z) ?_))))⟩)))));refine ae (aj (bF (bF (bF (bF (bH (ab 3 Z Z (aE ⟨gl tE.cnt,cg (k:=2) tE.cnt (by decide) (ab 9 Z Z (pC (bH (ab 3 Z Z (aE ⟨gl tE.cnt,cg (k:=1) tE.cnt (by decide) (lL (bH (ab 3 Z Z (aE ⟨gl tE.cnt,cg (k:=3) tE.cnt (by decide) (lL (ab 10 Z Z (pC (ah 11 Z (be 11 _ Z) ?_))))⟩))))⟩)))))⟩))))))));refine ae (cw (cq "list" "list.append" M1 Gk Dq (ab 1 Z Z ⟨gO tE.rows Z,aw (lM (bG (ab 8 Z Z (bG (bF (bF (ab 9 Z Z (aE (lL (ab 8 Z Z (pC (bG (ab 11 Z Z (bG (bF (ab 10 Z Z (bH (ab 3 Z Z (aE ⟨gl tE.cnt,cg (k:=4) tE.cnt (by decide) (lL (aw (aE ⟨by simp [Wo],gu tE.rows (by refine aa (Wl _) ?_;simp only [Wo];exact Ql Mx) ?_⟩)))⟩)))))))))))))))))))⟩)) (Z));refine aD (k _ (aW.of Z) ⟨?_,(du (by decide)).trans tE.cnt,(du (Gy tE.p0)).trans tE.pcs,tE.p0,tE.p2⟩);refine aa (k0 tE.rows) (aa C5 ?_);rfl
theorem BL {sa:Wr}(G:Fl c mg mb sa){env:Env}{own:aJ}{frames:List Env}{m:Nat}(be:Stores (jD l4 env own frames (m+2) tD)){ord:au}{p f:Nat}{cnt:Nat->Nat}{pcs:List (Nat×Nat)}{st:Pc}(h0:(jd l4.body 1)[1]?=AN st){H:aR}(hc:H[2]?=AN (.list (gJ cnt))){K:gX}(k:K .next ⟨qF ord p++[(4,.int f),(5,cP (aG f))],H.set 2 (.list (gJ (bT ⟨cnt,pcs⟩ f).cnt))⟩): lB c (jD l4 env own frames (m+2) tD) st ⟨qF ord p++[(4,.int f),(5,cP (aG f))],H⟩ K fy:=by
 obtain rfl:=WM h0;have nM:=@jl f;refine sP (ab 3 Z Z (bS (.builtin "len") (bY G.B (by rfl) G.jK.1 G.jK.2 ⟨Z,aw (ab 5 Z Z (kH (.inl Z) (by refine aa (Wl _) ?_;exact Ph nM) ?_))⟩)));refine aa (Wl _) (iT (.inr (af 2 Z hc)) (Ja) (Q5 nM) (ui cnt _ (Hi nM)) (aE (fP (qe 2 (((aG f).length:Nat):Int) _ Z Z hc Ja (Q4 nM) (by refine aa (Gf _) (aa (mn _) ?_);exact Hi nM) ?_))));have LS:(gJ cnt).set (((aG f).length:Nat):Int).toNat (.int ((cnt (aG f).length:Nat)+1))=gJ (bT ⟨cnt,pcs⟩ f).cnt:=by
  refine aa (Gf _) (xO _ _ (Hi nM) ?_ λj hj=>?_)
  . show (if (aG f).length=(aG f).length then _ else _)=_;exact aa (if_pos Z) Z
  . show (if j=(aG f).length then _ else _)=_;exact aa (if_neg hj) Z
 exact aa LS k
set_option maxHeartbeats 4000000 in
theorem LV {sa:Wr}(G:Fl c mg mb sa)(hf:fk c fa l4 .none)(ord:au)(O:iX ord)(fE:∀i f,ord[i]?=AN f->OkD (iH (ord.take i)) f)(na:∀i,i<=16->(iH (ord.take i)).pcs.length<100)(m:Nat): bQ c (m+3) (.ref fa) [cP ord] [] (λv J=>v.under 0=Wn/\v=.lst ((fU ord 16).map λr=>.lst (r.map .int))):=by
 generalize hRR:fU ord 16=abE;refine hf.fu G.B ["order"] tD [(0,cP ord)] (λJ J=>Z) Z Z (by decide +kernel) λenv own frames be kq=>?_;refine ae (wq [(1,"rows"),(2,"pieces"),(3,"counts")] Z be (λp m=>?_) ?_ ?_ ?_)
 . simp only [JU,rH,or_false] at m;rcases m with e | e | e <;> (refine aa e ?_;rfl)
 rotate_left
 . rfl
 . rfl
 refine jV (bG (iS (cn ⟨by simp [Wo],bG (pP G.B (aw (bF (lM (aw (aE ⟨by simp [Wo],aE (Ad (.inl Z) (by decide) (by decide) (by decide) (.inr ?_))⟩))))))⟩)));refine (CE (by simp [Wo]) _ Z Z (bo (qF ord 1) (aW.of Z) ?_));have ez:(td (5:Int).toNat [AV.int 0]).flatten=gJ λJ=>0:=rfl;refine aa ez ?_;show Ex c (jD l4 env own frames (m+2) tD) _ ⟨qF ord 1,[AO.list [],AO.bB [],AO.list (gJ λJ=>0)]⟩ _ fy;have h0:xR [AO.list [],AO.bB [],AO.list (gJ λJ=>0)] 1 (iH (ord.take 0)) (fU ord 0):=⟨Z,Z,Z,by decide,by decide⟩
 generalize [AO.list [],AO.bB [],AO.list (gJ λJ=>0)]=H0 at h0;refine ae (eU Z (fN (ab 0 Z Z (af _ (.inl Z) ⟨λi S'=>∃p,aW S' (qF ord p)/\xR S'.heap p (iH (ord.take i)) (fU ord i),(af 1 (aW.of Z) h0),λJ J J=>.inl Z,?_,?_⟩))))
 . rintro i y ⟨lc,H⟩ hy ⟨p,hL,hh⟩;rw [bV] at hy;refine Va (gW hy) λf Mr o1=>?_;obtain rfl:=o1;have EQ:i<16:=by have:=(bA Mr).1;rw [O.len] at this;exact this
   have za:=O.lt f (bO Mr);have ok:=fE i f Mr;have oR:=qc ord Mr;have LW:=na (i+1) (Qu EQ);rw [oR] at LW;generalize Lw:iH (ord.take i)=st at hh ok oR LW;obtain ⟨cnt,pcs⟩:=st;refine ah 4 Z (be 4 _ Z) (bo (qF ord p++[(4,.int f)]) (by simpa using hL.put Z) ?_);refine ae (aj (l5 G.B Z (by show m+1<=m+2;exact Ln) (by rfl) G.kO G.gF.fnAt (aw (ab 4 Z Z ⟨Z,_,oW G.B G.gF f za m,ah 5 Z (be 5 _ Z) ?_⟩))));refine ae (BL (cnt:=cnt) (pcs:=pcs) (ord:=ord) (p:=p) (f:=f) G be Z hh.cnt ?_);have hh1:xR (H.set 2 (.list (gJ (bT ⟨cnt,pcs⟩ f).cnt))) p ⟨(bT ⟨cnt,pcs⟩ f).cnt,pcs⟩ (fU ord i):=
    ⟨(du (by decide)).trans hh.rows,k0 hh.cnt,(du (Gy hh.p2)).trans hh.pcs,hh.p0,hh.p2⟩
   refine ae (zm G be ok Z hh1 λS2 p2 Bl tE=>HK G be LW (by simp [fU];exact Qw EQ) Z Bl tE λS3 Lh hh3=>(af p2 Lh ?_));refine aa oR ?_;have er:fU ord (i+1)=fU ord i++[xQ (bT ⟨cnt,pcs⟩ f)]:=by unfold fU;refine aa G5 (aa C5 ?_);show _++[xQ (iH (ord.take (i+1)))]=_;exact aa oR Z
   refine aa er ?_;exact hh3
 . rintro S1 ⟨p,hL,hh⟩;rw [Wl,O.len,hRR] at hh;refine gm (c9.list 1 (hL.at 1 _ Z) hh.rows) (ae (bt (ab 1 Z (by rw [aQ];rfl) ⟨?_,Z⟩)));have:∀l:List (List Int),AV.bX 0 (l.map λr=>AV.lst (r.map .int))=Wn:=λl=>by induction l with
    | nil=>rfl
    | cons x l ih=>exact yi.mpr ⟨by
     simp only [FH];exact AV.qh 0 _,ih⟩
   simp only [FH];exact this _
end
section
variable {a:qU}{b:Bx}{pos:Pos}
theorem LY (G:LF c mg mb Kf a b)(hf:fk c fa qC .none)(numbers:au)(F:LD numbers)(m:Nat): bQ c (m+7) (.ref fa) [cP numbers] [] (λv J=>v.under 0=Wn/\v=.lst ((qD numbers O0 16).ord.map .int)):=by
 have hB:=G.G.W.B.toBase;refine hf.fu hB ["numbers"] xr [(0,cP numbers)] (λJ J=>Z) Z Z (by decide +kernel) λenv own frames be kq=>?_;refine Cv G.G.Jh λt o tn si1 si2 si3 si4=>?_;refine ae (aj (oH G.G.W.B a.cS G.G.W.IT Z (by show m+2<=m+6;exact Pp) (iQ hB (by rfl) G.G.W.gS ⟨Z,cn (bQ.cls G.G.W.B G.G.W.mkS G.G.W.IQ ((ait G.G.W si1 si2 si3 si4 [] m).mono λv H' q=>⟨q.1,?_⟩))⟩)));refine aa q.2 ?_;refine ah 1 Z (be 1 _ Z) ?_;have sb0:SB [AO.aN [("_node2info",.ref 2),("_ready_nodes",.none),("_npassedout",.int 0),("_nfinished",.int 0)],.inst a.cS 0,.bB []] a 0 [] (nF 0):=
  ⟨Z,Z,Z,⟨Z,λi n x h=>nofun,by decide,On⟩,Nq⟩
 show Ex c (jD qC env own frames (m+6) xr) _ ⟨[(0,cP numbers),(1,.ref 1)],[AO.aN [("_node2info",.ref 2),("_ready_nodes",.none),("_npassedout",.int 0),("_nfinished",.int 0)],.inst a.cS 0,.bB []]⟩ _ fy;generalize [AO.aN [("_node2info",.ref 2),("_ready_nodes",.none),("_npassedout",.int 0),("_nfinished",.int 0)],.inst a.cS 0,.bB []]=H0 at sb0;refine ae (eU Z (tT (bY hB (by rfl) G.G.hX.1 G.G.hX.2 ⟨Z,aw (aE (af 16 Z ⟨by decide,?_⟩))⟩)));refine ⟨λi S'=>aW S' [(0,cP numbers),(1,.ref 1)]/\∃ns,SB S'.heap a 0 ns (nF i),(wb (aW.of Z) [] sb0),λJ J J=>trivial,?_,?_⟩
 . rintro i y S' hy ⟨hL,ns,sb⟩;rw [bV] at hy;refine Va (gW hy) λx hx o1=>?_;obtain rfl:=o1;obtain ⟨hi,rfl⟩:i<16/\x=i:=by have h1:=(bA hx).1;rw [wU] at h1;rw [DD h1] at hx;exact ⟨h1,(WM hx).symm⟩
   refine ah 2 Z (be 2 _ Z) ?_;refine bo [(0,cP numbers),(1,.ref 1),(2,.int x)] (by simpa using hL.put Z) ?_;have w8:fnIn Kf a.add=Wn:=by have this:=G.G.W.K3;simp only [mI,gB,fA] at this;exact this.1.1.1.2
   refine ae (cw (afT G.G.W.B Z (by show m+4<=m+6;exact Qd) (ab 1 Z Z (rS G.G.W.B a.cS a.add G.G.W.K3 ⟨sb.inst,sb.dict⟩ Z (bW a.add (.ref 1) Z w8 ?_)))) (Z));refine bG (ab 2 Z Z (afS (l5 hB Z (by show m+1<=m+6;exact Vx) (by rfl) G.kO G.gF.fnAt (aw (ab 2 Z Z ⟨Z,_,oW hB G.gF x hi m,?_⟩)))));have es:(aG x).map (λ(n:Nat)=>AV.int n)=(jJ x).map .int:=by unfold jJ;rw [Wu];rfl
   refine aa es ?_;refine aU _ (.inl (.inl Z)) (by refine aa (Wl _) ?_;have:=t9 x;simp only [Wo];exact PK this) (cn ?_);have Mu:=F.nl x (Pf hi);have nM:=t9 x;have ad:=ajb G.G.W G.G.jK sb (x:Int) (jJ x) m (RO Mu nM) (F.sl x (Pf hi)) (Q6 nM);refine aa (Kg _) ?_;refine ad.mono λv H' q=>?_;obtain ⟨_,u8,sb',vk,abF⟩:=q;exact aD (wb (aW.of Z) u8 sb')
 rintro S1 ⟨hL,ns,sb⟩;rw [Wl,wU] at sb;refine Ml F.rk λrk OZ=>?_;have tp:=F.nl 16 (bP _);refine ae (cw (dk G.G.W.B a.cS a.w9 G.G.W.IU Z (by show m+2<=m+6;exact Pp) (ab 1 Z (hL.at 1 _ Z) ⟨1,0,_,Z,⟨sb.inst,sb.dict⟩,Z,cn ((akb G.G.W G.G.t7 G.G.t8 G.G.jK G.G.Ji sb OZ (Qk tp) m).mono λv H1 q=>?_)⟩)) (Z));refine RR q λo6 sr e1=>?_;clear q;obtain rfl:=o6;have Mt:=hL.heap H1;refine bo [(0,cP numbers),(1,.ref 1)] Mt ?_;have Mx:=(bA sr.list).1;refine ae (wq [(3,"order"),(4,"waiting")] Z be (λp m=>by rcases m with _ | ⟨_,m | ⟨_,m⟩⟩ <;> first | rfl | cases m) ?_ (by rfl) (by rfl));refine jV (bG (iS (cn ⟨by simp [Wo],aw (iS (cn (mA (by simp [Wo]) (by simp [Wo]) _ Z Z ?_)))⟩)));have e2:(H1++[AO.list []]).length=H1.length+1:=by simp
 refine aa e2 ?_;refine bo (qE numbers H1.length) (aW.of Z) ?_;have VD:oX a (H1++[AO.list []]++[AO.list []]) ns S1.heap.length H1.length O0:=by
  refine ⟨sr.ext ((PP.refl H1 _).app.app) (λj hj q=>q),?_,?_,Mx⟩
  . rewrite [MW];refine aa (ij (bP _)) ?_;simp;rfl
  . refine aa (ij (by simp)) ?_;simp;rfl
 show Ex c (jD qC env own frames (m+6) xr) _ ⟨qE numbers H1.length,H1++[AO.list []]++[AO.list []]⟩ _ fy;generalize hq:H1.length=q0 at VD;generalize H1++[AO.list []]++[AO.list []]=H2 at VD;generalize S1.heap.length=r at VD;refine ae (iZ kq (λn S'=>∃k,k<=16/\n=16-k/\aW S' (qE numbers q0)/\oX a S'.heap ns r q0 (qD numbers O0 k)) 16 (kz 0 Pk Z (aW.of Z) VD) ?_);rintro n S' ⟨k,hk,rfl,Bl,ri⟩;have frl:(qD numbers O0 k).ready.length<1000:=by
  by_cases q:k=16
  . subst q;exact F.frl
  . have:=(F.step k (PH hk q)).rl;exact Pw this
 refine i7 (dk G.G.W.B a.cS a.lW G.G.W.z9 Z (by show m+1<=m+6;exact Vx) (ab 1 Z (Bl.at 1 _ Z) ⟨1,0,_,Z,⟨ri.sr.inst,ri.sr.dict⟩,Z,cn ((ake G.G.W G.G.Jj ri.sr frl m).mono λv H3 q=>?_)⟩));refine XZ q λo1 o2=>?_;clear q;obtain rfl:=o1;obtain rfl:=o2;refine ba ?_;show DH _ _ _ _ _ _ _ (Bw (qD numbers O0 k)) _;by_cases q:k=16
 . subst q;rw [F.fin];have h3:=Bl.at 3 _ Z;refine gm (c9.list 3 h3 ri.ord) (ae (bt (ab 3 Z (by rw [aQ];rfl) ⟨?_,Z⟩)));simp only [FH];exact AV.qh 0 _
 . have ok:=F.step k (PH hk q);rw [ok.act];refine uL (EV G be F.n8 Bl ri ok Z) λfl S2 q1=>?_;refine RR q1 λo7 q2 q3=>?_;clear q1;obtain rfl:=o7;exact ⟨16-(k+1),Q2 hk q,k+1,Q3 hk q,Z,q2,q3⟩
end
noncomputable abbrev pj:bD:=["script","cells","numbers","total","order","pairs","line","word","letters","turned"]
noncomputable def mq (sc:List Int):au:=(sc.take 12).map λx=>(x.fmod (10 ^ 6)).toNat
noncomputable def vP (k:Nat)(cells:au):au:=j7 (AN (k:Int)) Wm (AN 8) cells
noncomputable def Ci:au:=[10,21,12,3,34,25,16,47]
noncomputable def jm (cells:au):au:=(WG 8).map λk=>Ci.getD k 0+(vP k cells).sum
section
variable {pos:Pos}
theorem HL {xs ys:bZ}{rs:List Bool}(h:sj c xs ys rs)(hn:C.n≠0)(k:K (.bool (rs.all id)) S):iA c C (Xp .Eq) (.lst xs) (.lst ys) S K X:=λA F bs s ra rb hA z ha hb=>by
 refine dr ha.inv λa us o4 o5 h1=>?_;obtain rfl:=o4;obtain ⟨n1,g1⟩:=o5;refine dr hb.inv λb vs o2 o3 h2=>?_;obtain rfl:=o2;obtain ⟨n2,g2⟩:=o3;obtain hu:=hA.units;obtain e1:=h1.length;obtain e2:=h2.length;obtain e3:=h.len;have hsz:us.toArray.size=vs.toArray.size:=by simp;exact TY e1 e3 e2
 refine WP.kept z λQ E q=>alL (di _ (z.wd.sub _ _ g1) Z n1 Z) (di _ (z.wd.sub _ _ g2) Z n2 Z) hsz (uH hu) (λj j1 j2=>h.at_ z.wd.sub (by exact Z1 hu hn) h1 h2 j _ _ (by simpa using cm (j1)) (by simpa using cm (j2))) _ _ _ _ (q _ _ (.refl ..) (af _ (.bool _) ?_));have:((WG us.toArray.size).all (λj=>rs.getD j Wn))=rs.all id:=by
  have q1:us.toArray.size=rs.length:=by simp;exact TN e1 e3
  exact aa q1 (aa (all_range _) Z)
 exact aa this k
theorem sj.same {c:aZ}{α:Type}{f:α->AV}(g:∀x,Uv c (f x) (f x) Wn)(xs:List α):sj c (xs.map f) (xs.map f) (xs.map λJ=>Wn):=by
 induction xs with
 | nil=>exact .nil
 | cons x xs ih=>exact .cons (g x) ih
theorem BM (B:Base c mg mb)(hint:dR mg mb "int" (.type "int")){env:Env}{own:aJ}{frames:List Env}{m:Nat}(be:Stores (jD ix env own frames (m+9) pj)){sc:List Int}(pK:sc.length<=63){st:Pc}(h0:ix.body[0]?=AN st){K:gX}(k:K .next ⟨[(0,.lst (sc.map .int)),(1,cP (mq sc))],[]⟩):lB c (jD ix env own frames (m+9) pj) st ⟨[(0,.lst (sc.map .int))],[]⟩ K fy:=by
 obtain rfl:=WM h0;refine aj (gA ["cell"] [] Z trivial (Z) (fN (aef (ab 0 Z Z (aE (nZ 12 Z (sc.map .int) (.inl Z) (show (0:Int)<=12 by decide) (by refine aa (Wl _) ?_;simp only [Wo];exact Q9 pK) (.inl (af _ (.inl Z) ?_))))))));obtain e0:Dn Wm (AN 12) (sc.map AV.int)=(sc.take 12).map AV.int:=by show (sc.map AV.int).take 12=_;exact aa amO Z
 refine aa e0 (dA (λi=>(sc.take 12)[i]?.map λw=>AV.int (w.fmod (10 ^ 6))) trivial (by refine aa (Wl _) ?_;simp only [Wo,Zb];exact Rc) (.inl Z) (λoS ds fG i y hy hi=>?_) ?_)
 . rw [bV] at hy;refine Va (gW hy) λw hw o1=>?_;obtain rfl:=o1;refine ah 0 Z (fG _ (.inl Z)) ?_;exact bF (bS (.type "int") (bY B (Z) hint.1 hint.2 ⟨Z,aw (ab 0 Z Z (ahT (bF (aE (aE (CQ (by decide) (by decide) (J4 Z) (ng (by decide) (fT hi (by simp only [hw];rfl) (aW.of Z) Z))))))))⟩))
 refine aa (Wl _) (aa (pW _ _) (.inl (ah 1 Z (be 1 _ Z) ?_)));obtain e1:(sc.take 12).map (λw=>AV.int (w.fmod (10 ^ 6)))=(mq sc).map λ(n:Nat)=>AV.int n:=by unfold mq;refine aa Wu (WL λw J=>?_);obtain h:0<=w.fmod (10 ^ 6):=Int.fmod_nonneg_of_pos w (by decide);show AV.int _=AV.int _;exact aa (ah7 h) Z
 exact aa e1 k
theorem xS (B:Base c mg mb)(UF:dR mg mb "sum" (.builtin "sum"))(xz:dR mg mb "enumerate" (.type "enumerate")){env:Env}{own:aJ}{frames:List Env}{m:Nat}(be:Stores (jD ix env own frames (m+9) pj)){sc:List Int}{cells:au}(fq:cells.length<=12){st:Pc}(h0:ix.body[1]?=AN st){K:gX}(k:K .next ⟨[(0,.lst (sc.map .int)),(1,cP cells),(2,cP (jm cells))],[]⟩):lB c (jD ix env own frames (m+9) pj) st ⟨[(0,.lst (sc.map .int)),(1,cP cells)],[]⟩ K fy:=by
 obtain rfl:=WM h0;refine jc (sc:=ix.scope) ["cells","k","start"] [(1,"cells",cP cells)] Z (aV Z Z trivial) (show dj _ _ ["cells"] _=Wn by decide +kernel) (zP (bY B (by rfl) xz.1 xz.2 ⟨Z,?_⟩) Z);refine lM ?_;refine bG (aE (bG (aE (bG (aE (bG (aE (bG (aE ?_)))))))));refine bG (aE (bG (aE (aw (aE (qZ (by simp [Wo]) _ Z ?_))))));have el:([AV.int 10,.int 21,.int 12,.int 3,.int 34,.int 25,.int 16,.int 47]:bZ)=Ci.map λ(n:Nat)=>AV.int n:=rfl;refine aa el ?_;refine dA (λi=>AN (AV.int ((Ci.getD i 0+(vP i cells).sum:Nat):Int))) (aV Z Z trivial) (by simp [Wo,Ci]) trivial (λoS ds fG i y hy hi=>?_) ?_
 . rw [bV,ahV,bV] at hy;cases hd:Ci[i]? with
   | none=>rw [hd] at hy;cases hy
   | some d=>
     rw [hd] at hy;have ey:y=.tup [.int i,.int d]:=by have:=bf hy;refine az this ?_;simp
     subst ey;have hi9:=(bA hd).1;have hg:Ci.getD i 0=d:=by refine aa WE (aa hd ?_);rfl
     refine (aV Z Z (ah 1 Z (fG _ (.inl Z)) (ah 2 Z (fG _ (.inl Z)) ?_)));refine bF (ab 2 Z Z (bS (.builtin "sum") (bY B (by rfl) UF.1 UF.2 ⟨Z,aw (pN (ab 0 Z Z (ab 1 Z Z (af _ Z (aE (nZ 8 Z _ (.inl Z) (by decide) (by refine aa (Wl _) ?_;simp only [Wo];exact QX fq) (.inl ?_)))))))⟩)));refine IL (ns:=(vP i cells).map λ(n:Nat)=>(n:Int)) Z (.inl ?_) (pC ?_)
     . rewrite [Bv]
       refine aa Wu ?_;rfl
     refine fT hi ?_ (aW.of Z) Z;refine aa hg (aa (xp _) ?_);simp
 refine .inl (ah 2 Z (be 2 _ Z) ?_);have e9:(WG ((Ci.map λ(n:Nat)=>AV.int n).zipIdx.map λp=>AV.tup [.int p.2,p.1]).length).filterMap (λi=>AN (AV.int ((Ci.getD i 0+(vP i cells).sum:Nat):Int)))=(jm cells).map λ(n:Nat)=>AV.int n:=by refine aa (show ((Ci.map λ(n:Nat)=>AV.int n).zipIdx.map λp=>AV.tup [.int p.2,p.1]).length=8 by simp [Ci]) ?_;unfold jm;rw [List.filterMap_eq_map',Wu];rfl
 rw [e9];exact k
end
theorem rV.fnAt (h:rV c fa f dV qn cc P q):FnAt c fa:=by obtain ⟨o,fd,h1,h2,h3,_⟩:=h.at_;exact (bW o fd h1 h2 h3)
structure Av where
 order:Wr
 words:Wr
 text:Wr
 pairs:Wr
 alive:Wr
 LZ:Wr
 pe:Wr
 qv:Wr
structure Fn (c:aZ)(mg mb:eI)(Kf:DW)(a:qU)(b:Bx)(l:lX)(d:Av):Prop where
 O:LF c mg mb Kf a b
 W:Jk c mg mb b.gF
 P:xD c mg mb Kf l d.pe
 D:Fl c mg mb b.gF
 mod:rT c mg
 order:fk c d.order qC .none
 Fo:mg "_law_order"=AN (.ref d.order)
 words:fk c d.words iW .none
 zo:mg "_law_words"=AN (.ref d.words)
 text:fk c d.text vC .none
 Jo:mg "_law_text"=AN (.ref d.text)
 pairs:fk c d.pairs eX .none
 zp:mg "_law_pairs"=AN (.ref d.pairs)
 alive:fk c d.alive pX .none
 Fp:mg "_law_alive"=AN (.ref d.alive)
 LZ:fk c d.LZ l4 .none
 UH:mg "_law_due"=AN (.ref d.LZ)
 qv:∃cc P,rV c d.qv so .none "_law_lexer" cc P (λJ=>"_law_lexer.<locals>._law_piece")
 zq:mg "_law_lexer"=AN (.ref d.qv)
 UI:dR mg mb "int" (.type "int")
 HM:dR mg mb "sum" (.builtin "sum")
 Fq:dR mg mb "enumerate" (.type "enumerate")
 Fs:dR mg mb "list" (.type "list")
 hX:dR mg mb "range" (.type "range")
noncomputable def gL (ord:au):au:=ord.reverse.map λf=>15-f
noncomputable def uj (P:List (Nat×Nat)):List (Nat×Nat):=P.map λp=>(15-p.2,15-p.1)
noncomputable def lA (P:List (Nat×Nat)):bD:=P.map λp=>tx [p.1,p.2]
structure Ft (ws:List au):Prop where
 len:ws.length<=16
 wd:∀w∈ws,w≠[]/\w.length<20/\∀i∈w,i<26
structure Jp (numbers:au)(ord:au)(P:List (Nat×Nat)):Prop where
 F:LD numbers
 run:(qD numbers O0 16).ord=ord.map λ(n:Nat)=>(n:Int)
 o1:iX ord
 o2:iX (gL ord)
 w1:Ft (cX ord numbers.sum)
 w2:Ft (cX (gL ord) (numbers.sum / 3))
 r1:∃own N,tC ⟨[],[],cX ord numbers.sum⟩ own N/\jk own=lA P
 r2:∃own N,tC ⟨[],cX (gL ord) (numbers.sum / 3),[]⟩ own N/\jk own=lQ (lA (uj P))
 pl:P.length<60
 vO:∀p∈P,p.1<p.2/\p.2<16
 okD:∀i f,ord[i]?=AN f->OkD (iH (ord.take i)) f
 okL:∀i,i<=16->(iH (ord.take i)).pcs.length<100
 eq:∀i,i<16->(WG 5).map (λk=>((dM ord P i k:Nat):Int))=xQ (iH (ord.take (i+1)))
theorem Ft.under {ws:List au}:AV.under 0 (jL ws)=Wn:=by
 have:∀l:List au,AV.bX 0 (l.map λw=>AV.str (tx w))=Wn:=λl=>by induction l with
  | nil=>rfl
  | cons x l ih=>exact yi.mpr ⟨Z,ih⟩
 show AV.under 0 (.lst _)=Wn;simp only [FH];exact this _
theorem iz (l:au):AV.under 0 (cP l)=Wn:=by
 have:∀l:au,AV.bX 0 (l.map λ(n:Nat)=>AV.int n)=Wn:=λl=>by induction l with
  | nil=>rfl
  | cons x l ih=>exact yi.mpr ⟨Z,ih⟩
 simp only [FH];exact this _
theorem zr (l:bD):AV.under 0 (.lst (l.map .str))=Wn:=by simp only [FH];exact AV.wz 0 l
theorem xT {c:aZ}{C:Cx}{S:AS}{X:cR}{K:cu}{x:Nat}(h:x<16)(k:K (.int x) S):eJ c C (.builtin "str.index") [.str (Ww "abcdefghijklmnop"),.str (tx [x])] S K X:=by exact Ml (Jn x h) λr hr=>xj hr k
theorem Fu {c:aZ}{C:Cx}{S:AS}{X:cR}{K:cu}{x:Nat}(h:x<16)(k:K (.str (tx [15-x])) S):iA c C X2 (.str (Ww "abcdefghijklmnop")) (.int (15-(x:Int))) S K X:=by exact aa (show (Ww "abcdefghijklmnop")=tx (WG 16) by decide +kernel) (kQ (Qp h) (by exact ZN) (aa (show (15-(x:Int)).toNat=15-x from akF 15 x) (DD (by exact sf))) k)
section
variable {a:qU}{b:Bx}{l:lX}{d:Av}{pos:Pos}
theorem HN (G:Fn c mg mb Kf a b l d)(hf:fk c fa ix .none)(sc:List Int)(pK:sc.length<=63){ord:au}{P:List (Nat×Nat)}(F:Jp (jm (mq sc)) ord P)(m:Nat): bQ c (m+10) (.ref fa) [.lst (sc.map .int)] [] (λv J=>v=.bool Wn):=by
 have B:=G.W.B;refine hf.fu B (n:=m+9) ["script"] pj [(0,.lst (sc.map .int))] (λJ J=>Z) Z Z (by decide +kernel) λenv own frames be kq=>ae (BM B G.UI be pK Z ?_);have fq:(mq sc).length<=12:=by simp [mq];exact Rb
 generalize mq sc=cells at F fq;refine ae (xS B G.HM G.Fq be fq Z ?_);generalize jm cells=numbers at F;refine ae (aj (bS (.builtin "sum") (bY B (by rfl) G.HM.1 G.HM.2 ⟨Z,aw (ab 2 Z Z (IL (ns:=numbers.map λ(n:Nat)=>(n:Int)) Z (.inl (by rw [<-ints_map])) (ah 3 Z (be 3 _ Z) (aa (xp _) ?_))))⟩)));generalize aaz:numbers.sum=zt at F;refine ae (aj (l5 (n:=m+7) B Z (by show m+7<=m+9;exact Qg) (by rfl) G.Fo G.order.fnAt (aw (ab 2 Z Z ⟨?_,_,LY G.O G.order numbers F.F m,?_⟩))))
 . exact yi.mpr ⟨iz _,Z⟩
 refine aa F.run ?_;rw [<-ints_map];refine ah 4 Z (be 4 _ Z) ?_;show Ex c (jD ix env own frames (m+9) pj) _ ⟨[(0,.lst (sc.map .int)),(1,cP cells),(2,cP numbers),(3,.int zt),(4,cP ord)],[]⟩ _ fy;refine CB G.qv λcc abG HO=>FL F.r1 λabl abH UJ aaA=>FL F.r2 λUK N2 L3 aaB=>?_;have w1:=F.w1;have w2:=F.w2;rw [aaz] at UJ L3 w1 w2;have UL:∀w∈cX ord zt,w.length<20:=λw hw=>(w1.wd w hw).2.1;have UM:=Ar (cX ord zt) UL 0;have D3:=w1.len;refine ae (aj (jU (n:=m+8) Z (by show m+8<=m+9;exact Pr) (iQ B (by rfl) G.zp (aU d.pairs Z G.pairs.fnAt (aw (jU (n:=m+3) Z (by show m+3<=m+9;exact Mo) (iQ B (by rfl) G.zq (aU d.qv Z HO.fnAt (aw (l5 (n:=m+1) B Z (by show m+1<=m+9;exact Po) (by rfl) G.Jo G.text.fnAt (aw (l5 (n:=m+3) B Z (by show m+3<=m+9;exact Mo) (by rfl) G.zo G.words.fnAt ?_))))))))))));refine bG (ab 4 Z Z (aw (ab 3 Z Z ⟨?_,_,ud G.W G.words ord F.o1 zt m,?_⟩)))
 . exact yi.mpr ⟨iz _,Z⟩
 refine ⟨yi.mpr ⟨Ft.under,Z⟩,_,Fd B G.Fq G.text (cX ord zt) (Pg D3) UL m,(xo G.P.V HO G.mod G.Fs [] (VS 0 (cX ord zt)) (by show (VS 0 (cX ord zt)).length<=1000;exact Ss D3 UM) m).mono λv H q=>?_⟩;refine XZ q λo9 qR=>?_;clear q;obtain rfl:=o9;obtain rfl:=qR;refine (xJ G.P G.pairs (st:=⟨[],[],cX ord zt⟩) (sz [] l.cL _) (HJ _ 0 (λw hw=>⟨(w1.wd w hw).1,(w1.wd w hw).2.2⟩) (by show (VS 0 (cX ord zt)).length<900;exact Sr D3 UM)) Z (by simp) UJ m).mono λv H q=>?_;refine XZ q λo8 J=>?_;clear q;obtain rfl:=o8;refine aa aaA (ah 5 Z (be 5 _ Z) ?_);show Ex c (jD ix env own frames (m+9) pj) _ ⟨[(0,.lst (sc.map .int)),(1,cP cells),(2,cP numbers),(3,.int zt),(4,cP ord),(5,.lst ((lA P).map .str))],H⟩ _ fy;refine ae (aj (jU (n:=m+3) Z (by show m+3<=m+9;exact Mo) (iQ B (by rfl) G.zq (aU d.qv Z HO.fnAt (aw (dw ((xo G.P.V HO G.mod G.Fs H (Ww "") (by decide) m).mono λv H2 q=>?_)))))));refine XZ q λo6 o7=>?_;clear q;obtain rfl:=o6;obtain rfl:=o7;refine ah 6 Z (be 6 _ Z) ?_;have x1:LX (H++oV l.cL H.length (gr (Ww ""))) l.cL H.length [] 1 (([]:List au).map tx):=sz H l.cL _;let L:d7:=[(3,.int zt),(4,cP ord),(5,.lst ((lA P).map .str)),(6,.ref (H.length+5))]
 refine bo L (aW.of Z) ?_;show Ex c (jD ix env own frames (m+9) pj) _ ⟨L,H++oV l.cL H.length (gr (Ww ""))⟩ _ fy;generalize hn:H.length=n at x1;generalize H++oV l.cL n (gr (Ww ""))=H3 at x1;subst hn;have o2l:(gL ord).length=16:=F.o2.len;refine ae (eU Z (fN (l5 (n:=m+3) B Z (by show m+3<=m+9;exact Mo) (by rfl) G.zo G.words.fnAt (bG (gA (sc:=ix.scope) ["face"] [] Z trivial (show dj _ _ [] _=Wn by decide +kernel) (fN (pN (ab 4 Z Z ?_))))))));refine lK (aE (i6 (nZ (-1) Z _ (.inl Z) (by simp) (by refine aa (Wl _) (aa F.o1.len ?_);simp [Wo]) (.inl ?_))));refine aa (t5 _) (az aji (af _ (.inl Z) (dA (gK (λJ=>Wn) (λf=>AV.int ((15-f:Nat):Int)) ord.reverse) trivial (by refine aa (Wl _) (aa List.length_reverse (aa F.o1.len ?_));simp [Wo]) (.inl Z) (λoS ds fG i y hy hi=>?_) ?_)))
 . rw [bV] at hy;refine Va (gW hy) λf KZ o1=>?_;obtain rfl:=o1;refine ah 0 Z (fG _ (.inl Z)) ?_;show Ev c _ _ _ _ _;exact bF (aE (ab 0 Z Z (lL (aa (show (15:Int)-(f:Int)=((15-f:Nat):Int) by exact Qq (F.o1.lt f (ajs.mp (bO KZ)))) (fT hi (by refine aa (lZ KZ) ?_;rfl) (aW.of Z) Z)))))
 refine aa (Wl _) (aa (oY _ _) (.inl (aw (bF (ab 3 Z Z (aE (pD (by decide) (GK (by decide)) (aa (show ((zt:Int).fdiv 3)=((zt / 3:Nat):Int) from l6 _ 3) ?_))))))));have er:AV.lst (ord.reverse.map λf=>AV.int ((15-f:Nat):Int))=cP (gL ord):=by unfold gL;refine aa (show cP (ord.reverse.map λf=>15-f)=AV.lst ((ord.reverse.map λf=>15-f).map λ(n:Nat)=>AV.int n) from Z) (aa Wu ?_);rfl
 refine aa er ⟨yi.mpr ⟨iz _,Z⟩,_,ud G.W G.words (gL ord) F.o2 (zt / 3) m,af _ (.inl Z) ?_⟩;generalize cX (gL ord) (zt / 3)=UN at L3 w2;refine ⟨λi S'=>aW S' L/\LX S'.heap l.cL H.length [] 1 ((UN.take i).map tx),⟨aW.of Z,x1⟩,λJ J J=>.inl Z,?_,?_⟩
 . rintro i y ⟨lc,H4⟩ hy ⟨hL,x⟩;rw [bV] at hy;refine Va (gW hy) λw hw o1=>?_;obtain rfl:=o1;refine ah 7 Z (be 7 _ Z) (bo (L++[(7,.str (tx w))]) (by simpa [L] using hL.put (i:=7) (v:=.str (tx w)) Z) (ae (cw (dk G.P.V.B l.cL l.push (n:=m+1) G.P.V.EI Z (by show m+1<=m+9;exact Po) (ab 6 Z Z ⟨H.length+5,H.length+4,_,Z,x.lex,Z,aw (ab 7 Z Z ?_)⟩)) (Z))));have hi:=(bA hw).1;refine (Ag G.P.V x (by refine aa (Wl _) (aa Zb ?_);exact Su w2.len) (tx w) m).mono λv H5 q=>?_;refine XZ q λo4 o5=>?_;clear q;obtain rfl:=o4;obtain rfl:=o5;refine aD ⟨aW.of Z,?_⟩;have e:(UN.take (i+1)).map tx=(UN.take i).map tx++[tx w]:=by refine aa u7 (aa hw (aa C5 ?_));rfl
   exact aa e x.vu
 rintro ⟨lc,H4⟩ ⟨hL,x⟩;rw [Wl,X9] at x;refine bo L hL ?_;show Ex c (jD ix env own frames (m+9) pj) _ ⟨L,H4⟩ _ fy;simp only at x;refine ae (aj (dw (ah 8 Z (be 8 _ Z) ?_)));have na:=F.pl;refine ae (jc (sc:=ix.scope) ["letters","pair"] [(8,"letters",.str (Ww "abcdefghijklmnop"))] Z ⟨Z,Z,trivial⟩ (show dj _ _ ["letters"] _=Wn by decide +kernel) (fN (ab 5 Z Z (af _ (.inl Z) ?_))));have nM:((lA P).map AV.str).length=P.length:=by unfold lA;exact aa (Wl _) (aa (Wl _) Z)
 refine dA (λi=>P[i]?.map λp=>AV.str (tx [15-p.2,15-p.1])) ⟨Z,Z,trivial⟩ (by refine aa nM ?_;simp only [Wo];exact Lp na) (.inl Z) (λoS ds fG i y hy hi=>?_) ?_
 . rw [bV] at hy;refine Va (gW hy) λz hz o1=>?_;obtain rfl:=o1;unfold lA at hz;rw [bV] at hz;refine Va (gW hz) λp hp o2=>?_;obtain rfl:=o2;refine XZ (F.vO p (bO hp)) λAt vO=>ah 1 Z (fG _ (.inl Z)) ?_;show Ev c _ _ _ _ _;refine bF (bH (ab 0 Z Z (bF (aE (cq "str" "str.index" Yt Ys ahD (ab 0 Z Z ⟨Z,aw (bH (ab 1 Z Z (aE ⟨cB,kQ (x:=p.2) (by decide) (by decide) Z (xT (Lo vO) (lL ⟨cB,Fu (Lo vO) (bH (ab 0 Z Z (bF (aE (cq "str" "str.index" Yt Ys ahD (ab 0 Z Z ⟨Z,aw (bH (ab 1 Z Z (aE ⟨cB,kQ (x:=p.1) (by decide) (by decide) Z (xT (Mq vO At) (lL ⟨cB,Fu (Mq vO At) (iR (by rw [cb,cb];simp [Wo]) ?_)⟩))⟩)))⟩))))))⟩))⟩)))⟩))))));exact aa (l8 _ _) (fT hi (by refine aa hp ?_;rfl) (aW.of Z) Z)
 refine aa nM (aa (pW _ _) ?_);have et:(P.map λp=>AV.str (tx [15-p.2,15-p.1]))=(lA (uj P)).map .str:=by unfold lA uj;refine aa Wu (aa Wu ?_);rfl
 refine aa et (.inl (ah 9 Z (be 9 _ Z) ?_));refine ae (b9 (bp (jU (n:=m+8) Z (by show m+8<=m+9;exact Pr) (iQ B (by rfl) G.zp (aU d.pairs Z G.pairs.fnAt (aw (ab 6 Z Z ?_)))))));refine (xJ G.P G.pairs (st:=⟨[],UN,[]⟩) x .nil Z (by have:=w2.len;show UN.length<900;exact QZ this) L3 m).mono λv abI q=>?_;refine XZ q λo3 J=>?_;clear q;obtain rfl:=o3;refine aa aaB ?_;have K8:(lA (uj P)).length=P.length:=by unfold lA uj;exact aa (Wl _) (aa (Wl _) Z)
 refine bS (.builtin "sorted") (bY B (by rfl) G.W.gG.1 G.W.gG.2 ⟨Z,aw (ab 9 Z Z (mF (.inl Z) (by refine aa K8 ?_;exact PE na) (.inl ?_)))⟩);refine Ly (x8.str c) (.inl Z) (.inl Z) (by show m+9≠0;exact Pu) (ba ?_);refine aa (decide_eq_true Z) (aD ?_);refine ae (bt (CN (l5 (n:=m+3) B Z (by show m+3<=m+9;exact Mo) (by rfl) G.Fp G.alive.fnAt (bG (ab 4 Z Z (aw (ab 5 Z Z ?_)))))));have TD:=Fj B G.W.gF G.W.kO G.D.jK G.hX G.alive ord F.o1 P F.vO (QM na) m;rw [show (P.map λp=>AV.str (tx [p.1,p.2]))=(lA P).map .str by unfold lA;refine aa Wu ?_;rfl] at TD;refine ⟨?_,_,TD,?_⟩
 . exact yi.mpr ⟨iz _,yi.mpr ⟨zr _,Z⟩⟩
 refine l5 (n:=m+3) B Z (by show m+3<=m+9;exact Mo) (by rfl) G.UH G.LZ.fnAt (aw (ab 4 Z Z ⟨?_,_,LV G.D G.LZ ord F.o1 F.okD F.okL m,?_⟩))
 . exact yi.mpr ⟨iz _,Z⟩
 have aaC:As (dM ord P)=.lst ((fU ord 16).map λr=>.lst (r.map .int)):=by unfold As fU;refine aa Wu (congrArg AV.lst (WL λi hi=>?_));show AV.lst _=AV.lst ((xQ (iH (ord.take (i+1)))).map .int);refine az (F.eq i (wN.mp hi)) ?_;unfold gJ;refine aa Wu ?_;rfl
 refine aa aaC (HL (sj.same (λr=>?_) _) (by show m+9≠0;exact Pu) ?_)
 . have:=Uv.list (x8.int c) r r;rw [decide_eq_true rfl] at this;exact this
 . have:((fU ord 16).map λJ=>Wn).all id=Wn:=by refine aa List.all_map (bb Xy ?_);intro _ _;rfl
   exact aa this Z
end
structure mu (ord:au):Prop where
 P:iX ord
 Ax:∀g,g<16->∀f∈aG g,dm ord f<dm ord g
theorem iX.at_ (P:iX ord)(hf:f<16):ord[dm ord f]?=AN f:=by exact aa (cm (aig (P.all f hf))) (aa (ak1 _) Z)
theorem iX.is (P:iX ord){i:Nat}(h:ord[i]?=AN f):dm ord f=i:=by have h2:=P.at_ (P.lt f (bO h));rw [cm ((bA h).1)] at h;rw [cm ((bA h2).1)] at h2;exact (D4 P.nd).mp ((WM h2).trans (WM h).symm)
theorem iX.pos (P:iX ord):gU (dm ord) where
 inj f hf g hg e:=by have h1:=P.at_ hf;rw [e,P.at_ hg] at h1;exact (WM h1).symm
 lt f hf:=by have:=(bA (P.at_ hf)).1;have:=P.len;exact PR ‹_› this
 HD i hi:=by
  have hl:i<ord.length:=by have:=P.len;exact RS hi this
  exact (af (ord[i]) (P.lt _ (GY hl)) (P.is (cm hl)))
theorem xU:∀g,g<16->(aG g).Nodup:=by decide +kernel
theorem sQ:∀g,g<16->∀f,f<16->sd f g=Wn->(aG f).length+1=(aG g).length:=by decide +kernel
theorem GW.face {pos:Nat->Nat}(P:gU pos)(hg:g<16):GW pos g (l9 ((aG g).map pos)):=by
 have m:∀x,x∈l9 ((aG g).map pos)↔∃f∈aG g,pos f=x:=λx=>by rw [(hZ _).mem_iff,MU]
 have L4:∀f∈aG g,f<16:=λf hf=>by have:=oZ hf;exact Hj hg this
 have mf:∀f,f<16->(pos f∈l9 ((aG g).map pos)↔f∈aG g):=λf hf=>by rw [m];exact ⟨λ⟨x,hx,e⟩=>P.inj x (L4 x hx) f hf e▸hx,λh=>(af f h Z)⟩
 have nd:((aG g).map pos).Nodup:=Xl.mpr (amP (λha hb q e=>q (P.inj _ (L4 _ ha) _ (L4 _ hb) e)) (xU g hg));refine ⟨((kP _).and ((hZ _).nodup_iff.mpr nd)).imp λq=>Gg q.1 q.2,λx hx=>?_,(af (λx=>decide (x=g)) ⟨decide_eq_true Z,λh hh q=>decide_eq_false λe=>by rw [e] at q;exact Mp q⟩ (λf hf=>?_)),λf hf hx=>?_⟩
 . refine Va ((m x).mp hx) λf hf qR=>?_;obtain rfl:=qR;exact P.lt f (L4 f hf)
 . have e:jM (λx=>decide (x=g)) f=sd f g:=(fH (j:=g) hg λx hx e=>by show (sd f x&&decide (x=g))=Wp;rw [decide_eq_false e,WT]).trans (by show (sd f g&&decide (g=g))=_;rw [decide_eq_true rfl,K7]);rw [e,yz,Na,mf f hf];exact Na.symm
 . exact sQ g hg f hf (Na.mpr ((mf f hf).mp hx))
theorem BN:∀a,a<8->∀b,b<16->((WG 16).map λk=>((2*a+1)*k+b) % 16).Nodup/\∀i,i<16->i∈(WG 16).map λk=>((2*a+1)*k+b) % 16:=by decide +kernel
theorem xV (P:iX ord)(n:Nat):(cX ord n).map (·.headD 0)=(WG 16).map λk=>((2*(n / 16 % 8)+1)*k+n % 16) % 16:=by
 unfold cX;refine aa Wu (WL λk J=>?_);have hi:(eY n*k+n) % 16<ord.length:=by refine aa P.len ?_;exact Ls
 have e:(fX ord)[(eY n*k+n) % 16]?=AN (uc ord ord[(eY n*k+n) % 16]):=by unfold fX;refine aa bV (aa (cm hi) ?_);rfl
 show ((fX ord).getD ((eY n*k+n) % 16) []).headD 0=_;refine aa WE (aa e ?_);show dm ord ord[(eY n*k+n) % 16]=_;refine aa (P.is (cm hi)) ?_;unfold eY;exact Rl
theorem uk (P:iX ord)(n:Nat):∀w∈cX ord n,∃g s,g<16/\w=dm ord g::s/\GW (dm ord) g s:=λw hw=>by
 refine Va (MU.mp hw) λk J e=>?_;have hi:(eY n*k+n) % 16<ord.length:=by refine aa P.len ?_;exact Ls
 have e2:(fX ord)[(eY n*k+n) % 16]?=AN (uc ord ord[(eY n*k+n) % 16]):=by unfold fX;refine aa bV (aa (cm hi) ?_);rfl
 have e3:=e;rw [WE,e2] at e3;have hg:=P.lt _ (GY hi);exact (bW _ _ hg e3.symm (GW.face P.pos hg))
theorem xW (P:iX ord)(n:Nat):Ft (cX ord n):=by
 refine ⟨by simp [cX],λw hw=>?_⟩;refine dr (uk P n w hw) λg s hg o9 k=>?_;obtain rfl:=o9;have:=k.len;refine (aV nofun (by simp only [Xf];exact PF this) (λi hi=>?_));rcases JU.mp hi with q | q
 . have:=P.pos.lt g hg;exact RT this q
 . have:=k.lt i q;omega
theorem um (P:iX ord)(n:Nat){st:PS}(h:mV st=cX ord n)(ho:st.own=[]):vJ (dm ord) st:=by refine XZ (BN (n / 16 % 8) (YW _ (by decide)) (n % 16) (YW _ (by decide))) λnd al=>?_;rw [<-xV P n,<-h] at nd al;refine ⟨λp hp=>absurd hp ((λp hp=>by rw [ho] at hp;cases hp) p),by refine aa ho ?_;exact Nq,λw hw=>uk P n w (h▸Ko _ hw),nd,λg hg=>.inl (al _ (P.pos.lt g hg))⟩
theorem Ay (P:iX ord)(hh:h<16):(gL ord)[15-dm ord (15-h)]?=AN h:=by have hl:=P.len;unfold gL;refine aa bV (aa (ajY (by exact Sm hl)) (aa hl (aa (show 16-1-(15-dm ord (15-h))=dm ord (15-h) by exact Qr (P.pos.lt (15-h) (sf))) (aa (P.at_ (sf)) ?_))));show AN (15-(15-h))=_;exact aa (show 15-(15-h)=h by exact Ll hh) Z
theorem mu.rev (L:mu ord):mu (gL ord)/\∀h,h<16->dm (gL ord) h=15-dm ord (15-h):=by
 have P:=L.P;have P2:iX (gL ord):=by
  refine ⟨by simp [gL,P.len],?_,λf hf=>?_,λf hf=>bO (Ay P hf)⟩
  . unfold gL;refine Xl.mpr ((List.pairwise_reverse.mpr (P.nd.imp λq=>Gy q)).imp_of_mem λha hb q e=>q ?_);have:=P.lt _ (ajs.mp ha);exact EA e ‹_› (P.lt _ (ajs.mp hb))
  . refine Va (MU.mp hf) λx J o8=>?_;obtain rfl:=o8;exact sf
 have e:∀h,h<16->dm (gL ord) h=15-dm ord (15-h):=λh hh=>P2.is (Ay P hh);refine ⟨⟨P2,λg hg f hf=>?_⟩,e⟩;have za:f<16:=by have:=oZ hf;exact Hj hg this
 have s:sd (15-g) (15-f)=Wn:=by refine aa (vF f za g hg) ?_;exact Na.mpr hf
 have:=L.Ax (15-f) (sf) (15-g) (Na.mp s);exact aa (e f za) (aa (e g hg) (RQ (P.pos.lt (15-f) (by exact sf)) ‹_›))
theorem Fv (L:mu ord)(hf:f<16)(hg:g<16)(p:B7 (dm ord) f g):dm ord f<dm ord g:=by
 refine Va p.v λV t l=>?_;refine alK λq=>?_;have:=l.on;rw [show jM V f=Wp from dZ λx hx=>by
  by_cases e:sd f x=Wn
  . have:=L.Ax x hx f (Na.mp e);exact aa (t.up x hx (by exact Ti this q)) (aa (WT _) Z)
  . refine aa (Y9 _ |>.mp e) ?_;rfl] at this
 cases this
structure L5 (ord:au)(n1 n2:Nat)(P:List (Nat×Nat)):Prop where
 own:∃own,xF (dm ord) own/\P.Perm (Fc own)
 r1:∃own N,tC ⟨[],[],cX ord n1⟩ own N/\jk own=lA P
 r2:∃own N,tC ⟨[],cX (gL ord) n2,[]⟩ own N/\jk own=lQ (lA (uj P))
theorem uo (own:vI):jk own=lQ (lA (Fc own)):=by unfold jk lA Fc;refine aa Wu ?_;rfl
theorem zu (L:mu ord)(n1 n2:Nat):∃P,L5 ord n1 n2 P:=by
 refine XZ L.rev λL2 e2=>FL (zg L.P.pos _ ⟨[],[],cX ord n1⟩ (um L.P n1 Z Z) (W0 _)) λown N r F=>FL (zg L2.P.pos _ ⟨[],cX (gL ord) n2,[]⟩ (um L2.P n2 (by show []++(cX (gL ord) n2++[])=_;rw [Kg];rfl) Z) (W0 _)) λUK N2 r2 F2=>?_;refine Va (xH (λp:Nat×Nat=>tx [p.1,p.2]) (i8 (lA (Fc own))) (Fc own) Z) λP p1 p2=>(cj P ⟨(af own F p1),(d8 own N r ((uo own).trans p2.symm)),(d8 UK N2 r2 (aa (uo _) (afA (amQ _ (anW ?_ (amQ _ p1.symm))))))⟩)
 have UO:∀p∈Fc own,p.1<16/\p.2<16:=λ⟨i,j⟩ hp=>by refine CA ((mO L.P.pos F i j).mp hp) λf g hf hg o6 o7 J=>?_;obtain rfl:=o6;obtain rfl:=o7;exact ⟨L.P.pos.lt f hf,L.P.pos.lt g hg⟩
 refine (A6 (zi F2) (Xl.mpr ((zi F).imp_of_mem λha hb q e=>q ?_))).mpr λ⟨i,j⟩=>?_
 rotate_left
 . have h1:=UO _ ha;have h2:=UO _ hb;exact XZ (G2 e) λe1 e2=>Prod.ext (Tw e2 h1 h2) (Tx e1 h1 h2)
 rw [mO L2.P.pos F2];constructor
 . rintro ⟨f,g,hf,hg,rfl,rfl,pv⟩;have pv2:=xy (λh hh=>by
    refine aa (e2 (15-h) (by exact sf)) (aa (show 15-(15-h)=h by exact Ll hh) ?_);exact Qz (L.P.pos.lt h hh)) L2.P.pos hf hg pv
   exact MU.mpr (af (dm ord (15-g),dm ord (15-f)) ((mO L.P.pos F _ _).mpr (rg (15-g) (15-f) (by exact sf) (by exact sf) Z Z pv2)) (aa (e2 f hf) (aa (e2 g hg) Z)))
 . intro h;refine Va (MU.mp h) λo5 hp e=>?_;obtain ⟨i',j'⟩:=o5;refine CA ((mO L.P.pos F _ _).mp hp) λf g hf hg o3 o4 pv=>?_;obtain rfl:=o3;obtain rfl:=o4;refine XZ (G2 e) λo1 o2=>?_;obtain rfl:=o1;obtain rfl:=o2;refine (rg (15-g) (15-f) sf sf ?_ ?_ (xy e2 L.P.pos hf hg pv))
   . exact aa (e2 _ (by exact sf)) (aa (show 15-(15-g)=g by exact Ll hg) Z)
   . exact aa (e2 _ (by exact sf)) (aa (show 15-(15-f)=f by exact Ll hf) Z)
set_option tactic.hygienic true in
theorem nH:∀(l OB:List Int),OB.Nodup->(l.foldl yS OB).Nodup/\∀x,x∈l.foldl yS OB↔x∈OB\/x∈l
 | [],OB,h=>⟨h,λx=>by simp⟩
 | a::l,OB,h=>by
   refine aa ajR ?_;unfold yS
   split
   . rename_i ha;refine XZ (nH l OB h) λi1 i2=>Va (X1.mp ha) λy hy e=>?_;have e:y=a:=by simpa using e
     exact ⟨i1,λx=>(i2 x).trans (bb JU ⟨λq=>q.imp id .inr,λq=>q.elim .inl λq=>q.elim (λq=>.inl (q▸e▸hy)) .inr⟩)⟩
   . rename_i ha;refine XZ (nH l (OB++[a]) (M9.mpr (aV h (by simp) (λx hx y hy e=>(λm=>ha (X1.mpr (af a m (by simp)))) (by refine az (MX.mp hy) (az e ?_);exact hx))))) λi1 i2=>?_;refine ⟨i1,λx=>(i2 x).trans ?_⟩;rw [M3,MX,JU,or_assoc]
noncomputable def Ca (L:au):Nat:=(firstsI (L.map λ(n:Nat)=>(n:Int))).length
theorem xX (L:au):∃r:List Int,r.Nodup/\Ca L=r.length/\∀x,x∈r↔∃n∈L,(n:Int)=x:=by
 have e:firstsI (L.map λ(n:Nat)=>(n:Int))=(L.map λ(n:Nat)=>(n:Int)).foldl yS []:=by unfold firstsI OQ;congr 1;refine List.ext_getElem (aa (Wl _) (aa wU Z)) λi h1 h2=>aa (GG _) (aa (aiI _) (aa WE (aa (cm h2) ?_)));rfl
 refine XZ (nH (L.map λ(n:Nat)=>(n:Int)) [] .nil) λh1 h2=>(aU _ h1 (by unfold Ca;exact aa e Z) (λx=>?_))
 exact bb (h2 _) (bb MU ⟨λq=>q.resolve_left nofun,.inr⟩)
theorem sR {L M:au}{as bs:au}(ha:as.Nodup)(hb:bs.Nodup)(da:∀x∈as,x∉L)(db:∀x∈bs,x∉M)(h:∀x,(x∈as\/x∈L)↔(x∈bs\/x∈M)):as.length+Ca L=bs.length+Ca M:=by
 refine N1 (xX L) λr r1 r2 r3=>?_;refine N1 (xX M) λq q1 q2 q3=>?_;have nd:∀{as L:au} {r:List Int},as.Nodup->(∀x∈as,x∉L)->r.Nodup->(∀x,x∈r↔∃n∈L,(n:Int)=x)->(as.map (λ(n:Nat)=>(n:Int))++r).Nodup:=λh1 h2 h3 h4=>by refine M9.mpr (aV (Xl.mpr (h1.imp λq e=>q (WS e))) h3 (λa ha b hb e=>?_));refine Va (MU.mp ha) λn hn o1=>?_;obtain rfl:=o1;refine Va ((h4 b).mp hb) λm hm e2=>?_;have:=WS (e.trans e2.symm);exact h2 n hn (this▸hm)
 have mm:∀{as L:au} {r:List Int},(∀x,x∈r↔∃n∈L,(n:Int)=x)->∀y,y∈as.map (λ(n:Nat)=>(n:Int))++r↔∃n,(n∈as\/n∈L)/\(n:Int)=y:=λh4 y=>by refine bb M3 (bb MU (bb (h4 _) ?_));exact ⟨λq=>q.elim (λ⟨n,h1,h2⟩=>(af n (.inl h1) h2)) λ⟨n,h1,h2⟩=>(af n (.inr h1) h2),λ⟨n,h1,h2⟩=>h1.imp (λq=>(af n q h2)) λq=>(af n q h2)⟩
 have p:=(A6 (nd ha da r1 r3) (nd hb db q1 q3)).mpr λy=>by refine bb (mm r3 _) (bb (mm q3 _) ?_);exact ⟨λ⟨n,h1,h2⟩=>(af n ((h n).mp h1) h2),λ⟨n,h1,h2⟩=>(af n ((h n).mpr h1) h2)⟩
 have:=p.length_eq;rw [Nc,Nc,Wl,Wl] at this;refine aa r2 (aa q2 ?_);exact this
theorem HP {L:au}{g:Nat}(h:g∉L):Ca (L++[g])=Ca L+1:=by
 have:=sR (L:=L) (M:=L++[g]) (as:=[g]) (bs:=[]) (by simp) .nil (λx hx=>MX.mp hx▸h) nofun λx=>by simp [or_comm]
 simp at this;exact Rv this
theorem BO {L:au}{a b:Nat}(ha:a∈L)(hb:b∈L)(eQ:a≠b):Ca L=Ca (L.map λx=>if x=b then a else x)+1:=by
 have:=sR (L:=L) (M:=L.map λx=>if x=b then a else x) (as:=[]) (bs:=[b]) .nil (by simp) nofun (λx hx m=>?_) λx=>?_
 . simp at this;exact Sj this
 . refine Va (MU.mp m) λy hy e=>?_;rw [MX.mp hx] at e;by_cases q:y=b
   . rw [if_pos q] at e;exact eQ e
   . rw [if_neg q] at e;exact q e
 . refine bb MU (bb MX ?_);constructor
   . rintro (q | q)
     . cases q
     . by_cases e:x=b
       . exact .inl e
       . exact .inr (af x q (if_neg e))
   . rintro (q | ⟨y,hy,q⟩)
     . exact .inr (q▸hb)
     . by_cases e:y=b
       . rw [if_pos e] at q;exact .inr (q▸ha)
       . rw [if_neg e] at q;exact .inr (q▸hy)
theorem HQ {L:au}{a:Nat}(ha:a∈L)(h:∀x∈L,x=a):Ca L=1:=by
 have:=sR (L:=L) (M:=[]) (as:=[]) (bs:=[a]) .nil (by simp) nofun nofun λx=>?_
 . simpa [Ca,firstsI,OQ] using this
 . simp only [MX,rH,false_or,or_false];exact ⟨h x,λe=>e▸ha⟩
theorem kl (st:DS):ia st=Ca (st.pcs.map (·.2)):=by unfold ia Ca;refine aa Wu ?_;rfl
noncomputable abbrev cQ (pcs:List (Nat×Nat)):au:=pcs.map (·.1)
theorem sS {T:List (Nat×Nat)}{z:Nat}(h:z∉cQ T):bC T z=Wm:=by unfold bC;refine aa (NQ.mpr λp hp e=>h (MU.mpr (af p hp (by simpa using e)))) ?_;rfl
theorem sT {T:List (Nat×Nat)}{z:Nat}(h:z∈cQ T):(bC T z).isSome=Wn:=by
 refine Va (MU.mp h) λp hp e=>?_;unfold bC;cases q:T.find? λkv=>kv.1=z with
 | none=>exact absurd e (by simpa using NQ.mp q p hp)
 | some p=>rfl
theorem kT {pcs:List (Nat×Nat)}(h:x∈cQ pcs):∃v,bC pcs x=AN v/\(x,v)∈pcs/\cY pcs x=v:=by
 refine Ml (Yk.mp (sT h)) λv hv=>(aU v hv ?_ (by unfold cY;refine aa hv ?_;rfl))
 unfold bC at hv;refine Va (F0.mp hv) λp hp e=>?_;have:p.1=x:=by simpa using (al9 hp)
 exact az this (az e (aiT hp))
theorem HR {pcs:List (Nat×Nat)}(hx:x∈cQ pcs)(g v:Nat):cY (pcs++[(g,v)]) x=cY pcs x:=by refine N1 (kT hx) λw hw J e=>aa e ?_;unfold cY bC;unfold bC at hw;refine Va (F0.mp hw) λp hp e=>aa ai0 (aa hp ?_);exact e
theorem HS {pcs:List (Nat×Nat)}(hg:g∉cQ pcs)(v:Nat):cY (pcs++[(g,v)]) g=v:=by have h:=sS hg;unfold cY bC;unfold bC at h;refine aa ai0 (aa (ajN.mp h) ?_);simp
theorem BP {pcs:List (Nat×Nat)}(hx:x∈cQ pcs)(a b:Nat):cY (cF pcs a b) x=if cY pcs x=b then a else cY pcs x:=by
 refine N1 (kT hx) λw hw J e=>?_;have:∀pcs:List (Nat×Nat),bC (cF pcs a b) x=(bC pcs x).map λv=>if v=b then a else v:=λpcs=>by
  induction pcs with
  | nil=>rfl
  | cons p l ih=>
    unfold bC cF at *;by_cases e:p.1=x
    . simp [e]
    . simp only [WW,lS,e,decide_false];exact ih
 refine aa e ?_;unfold cY;refine aa (this _) (aa hw ?_);rfl
theorem zv (pcs:List (Nat×Nat))(a b:Nat):cQ (cF pcs a b)=cQ pcs:=by unfold cF cQ;refine aa Wu ?_;rfl
section
variable {pos:Nat->Nat}{c g:Nat}
def qw (pos:Nat->Nat)(c:Nat)(W:Nat->Bool):Prop:=∃V:Nat->Bool,(∀h,h<16->c<=pos h->V h=Wp)/\∀f,f<16->jM V f=W f
theorem qw.mono (h:qw pos c W)(hc:c<=c'):qw pos c' W:=by refine Va h λV h1 h2=>?_;exact (af V (λx hx q=>h1 x hx (P1 hc q)) h2)
theorem qw.xor (h:qw pos c W)(k:qw pos c pi)(e:∀f,f<16->Y f=(W f ^^ pi f)):qw pos c Y:=by refine Va h λV h1 h2=>?_;refine Va k λU k1 k2=>?_;exact (af (λx=>V x ^^ U x) (λx hx q=>by show (V x ^^ U x)=Wp;refine aa (h1 x hx q) (aa (k1 x hx q) ?_);rfl) (λf hf=>by rewrite [vG];exact aa (h2 f hf) (aa (k2 f hf) (aa (e f hf) Z))))
theorem qw.none (e:∀f,f<16->W f=Wp):qw pos c W:=(af (λJ=>Wp) (λJ J J=>Z) (λf hf=>by refine aa (e f hf) ?_;exact dZ λJ J=>WT _))
theorem acC (hg:g<16)(f:Nat):jM (λx=>decide (x=g)) f=sd f g:=(fH hg λx hx e=>by show (sd f x&&decide (x=g))=Wp;exact aa (decide_eq_false e) (aa (WT _) Z)).trans (by show (sd f g&&decide (g=g))=_;exact aa (decide_eq_true Z) (aa (K7 _) Z))
theorem ko (hg:g<16)(f:Nat):lg (λx=>decide (x=g)) f=sd g f:=(fH hg λx hx e=>by show (sd x f&&decide (x=g))=Wp;exact aa (decide_eq_false e) (aa (WT _) Z)).trans (by show (sd g f&&decide (g=g))=_;exact aa (decide_eq_true Z) (aa (K7 _) Z))
theorem qw.face (hg:g<16)(hc:pos g<c):qw pos c (λf=>sd f g):=
 (af (λx=>decide (x=g)) (λh hh q=>decide_eq_false λe=>by rw [e] at q;exact Sf hc q) (λf hf=>acC hg f))
theorem qw.zero (hg:g<16)(h:qw pos (pos g) (λf=>sd f g)):Zero pos g:=by
 refine Va h λV h1 h2=>?_;refine (af (λx=>V x ^^ decide (x=g)) ⟨?_,λx hx q=>?_⟩ (λf hf=>?_))
 . refine aa (h1 g hg (bP _)) (aa (decide_eq_true Z) ?_);rfl
 . refine aa (h1 x hx (Xw q)) (aa (decide_eq_false λe=>by rw [e] at q;exact Mp q) ?_);rfl
 . rewrite [vG]
   exact aa (h2 f hf) (aa (acC hg _) (akO _))
end
noncomputable abbrev eS (f:Nat):Nat:=(aG f).length
noncomputable abbrev jO (g:Nat):Nat:=(aG g).getD 0 0
noncomputable abbrev kU (g:Nat):Nat:=(aG g).getD 1 0
theorem cr0:∀g,g<16->eS g=0->g=0:=by decide +kernel
theorem cr1:∀t,t<16->eS t=1->∀f,f<16->sd f t=decide (f=0):=by decide +kernel
theorem UP:∀h,h<16->sd 0 h=decide (eS h=1):=by decide +kernel
theorem cr2:∀g,g<16->eS g=2->(jO g<16/\kU g<16/\eS (jO g)=1/\eS (kU g)=1/\jO g≠kU g/\jO g∈aG g/\kU g∈aG g)/\∀f,f<16->sd f g=(decide (f=jO g) ^^ decide (f=kU g)):=by decide +kernel
theorem cr3:∀g,g<16->(eS g=3↔g=7\/g=11\/g=13\/g=14):=by decide +kernel
theorem aaD:∀f,f<16->jM (λh=>decide (eS h=3)) f=Wp:=by decide +kernel
theorem aaE:∀g,g<16->∀t,t<16->(eS g=3/\eS t=3/\g≠t)->g+t-15<16/\∀h,h<16->sd (g+t-15) h=(decide (h=g)||decide (h=t)):=by decide +kernel
theorem cr4:∀h,h<16->sd 7 h=decide (h=15):=by decide +kernel
theorem aaF:∀g,g<16->eS g=4->g=15:=by decide +kernel
structure mX (ord:au)(c:Nat)(st:DS):Prop where
 cnt:∀k,st.cnt k=((ord.take c).filter λf=>decide (eS f=k)).length
 keys:cQ st.pcs=(ord.take c).filter λf=>decide (eS f=1)
 My:∀p∈st.pcs,p.2∈cQ st.pcs
 zw:∀g∈ord.take c,eS g=2->cY st.pcs (jO g)=cY st.pcs (kU g)
 join:∀a∈cQ st.pcs,∀b∈cQ st.pcs,cY st.pcs a=cY st.pcs b->qw (dm ord) c λx=>decide (x=a) ^^ decide (x=b)
noncomputable def BQ (c1 c2 c3 c4 ap:Nat):Nat->Int
 | 0=>if c1=0 then 1 else 0
 | 1=>(ap:Int)-1+if c1=0 then 1 else 0
 | 2=>(c2:Int)+ap-c1-c3+(c3 / 4:Nat)
 | 3=>((c3 / 4:Nat):Int)-c4
 | _=>0
section
variable {c1 c2 c3 c4 ap:Nat}
theorem AA:BQ c1 c2 c3 c4 ap 0=if c1=0 then 1 else 0:=rfl
theorem AB:BQ c1 c2 c3 c4 ap 1=(ap:Int)-1+if c1=0 then 1 else 0:=rfl
theorem AD:BQ c1 c2 c3 c4 ap 2=(c2:Int)+ap-c1-c3+(c3 / 4:Nat):=rfl
theorem AE:BQ c1 c2 c3 c4 ap 3=((c3 / 4:Nat):Int)-c4:=rfl
theorem AF (k:Nat):BQ c1 c2 c3 c4 ap (k+4)=0:=rfl
end
noncomputable def nJ (st:DS)(k:Nat):Int:=BQ (st.cnt 1) (st.cnt 2) (st.cnt 3) (st.cnt 4) (ia st) k
theorem Fw (st:DS):xQ st=(WG 5).map (nJ st):=rfl
noncomputable def Wk (z:Bool)(n k:Nat):Int:=(if z=Wn/\n=k then 1 else 0)-if z=Wp/\n=k+1 then 1 else 0
structure xY (ord:au)(c g:Nat)(st:DS):Prop where
 inv:mX ord (c+1) (bT st g)
 row:∃z:Bool,(z=Wn↔Zero (dm ord) g)/\∀k,nJ (bT st g) k=nJ st k+Wk z (eS g) k
section
variable {ord:au}{c g x:Nat}{st:DS}
set_option tactic.hygienic true in
theorem eZ (P:iX ord):x∈ord.take c↔x<16/\dm ord x<c:=by
 constructor
 . intro h;refine Ml (List.getElem?_of_mem h) λi hi=>?_;rw [aiJ] at hi
   split at hi
   . rename_i hc;exact ⟨P.lt x (bO hi),Tf hc (P.is hi)⟩
   . cases hi
 . rintro ⟨h1,h2⟩;exact bO (by refine aa aiJ (aa (if_pos h2) ?_);exact (P.at_ h1))
theorem jx (h:ord[c]?=AN g):ord.take (c+1)=ord.take c++[g]:=by refine aa u7 (aa h ?_);rfl
theorem mX.key (D:mX ord c st):x∈cQ st.pcs↔x∈ord.take c/\eS x=1:=by refine aa D.keys (bb rt ?_);simp
theorem sU (D:mX ord c st)(h:ord[c]?=AN g)(k:Nat):(bT st g).cnt k=((ord.take (c+1)).filter λf=>decide (eS f=k)).length:=by
 refine aa (jx h) (aa (XM _ _) (aa Nc ?_));rw [<-D.cnt];show (if k=eS g then st.cnt k+1 else st.cnt k)=_;by_cases e:eS g=k
 . refine aa (if_pos e.symm) (aa XB (aa (if_pos (decide_eq_true e)) ?_));rfl
 . refine aa (if_neg λq=>e q.symm) (aa XB (aa (if_neg (by simpa using e)) ?_));rfl
theorem Wf (L:mu ord)(hg:x<16)(h2:eS x=2)(hc:dm ord x<=c):(jO x∈ord.take c/\eS (jO x)=1)/\kU x∈ord.take c/\eS (kU x)=1:=by refine FO ((cr2 x hg h2).1) λa1 a2 a3 a4 J a5 a6=>?_;exact ⟨⟨(eZ L.P).mpr ⟨a1,Ho (L.Ax x hg _ a5) hc⟩,a3⟩,(eZ L.P).mpr ⟨a2,Ho (L.Ax x hg _ a6) hc⟩,a4⟩
theorem Fx (D:mX ord c st)(h:st.cnt k=0):∀f∈ord.take c,eS f≠k:=λf hf e=>by have m:f∈(ord.take c).filter λf=>decide (eS f=k):=rt.mpr ⟨hf,decide_eq_true e⟩;rw [(yB ((D.cnt k).symm.trans h))] at m;cases m
theorem Fy (D:mX ord c st)(h:st.cnt k≠0):∃f∈ord.take c,eS f=k:=by
 rw [D.cnt] at h;exact Ml (List.exists_mem_of_length_pos (aiE h)) λf hf=>⟨f,(rt.mp hf).1,of_decide_eq_true (rt.mp hf).2⟩
theorem UQ (L:mu ord)(D:mX ord c st)(h:ord[c]?=AN g)(h1:eS g=1):xY ord c g st:=by
 have P:=L.P;have hg:=P.lt g (bO h);have hp:=P.is h;have gn:g∉cQ st.pcs:=λm=>by have:=(eZ P).mp (D.key.mp m).1;exact PX this hp
 have ep:(bT st g).pcs=st.pcs++[(g,g)]:=by show (if eS g=1 then ct st.pcs g g else _)=_;exact aa (if_pos h1) (aa (oP g (sS gn)) Z)
 have km:∀x,x∈cQ (bT st g).pcs↔x∈cQ st.pcs\/x=g:=λx=>by refine aa ep ?_;unfold cQ;refine aa C5 (bb M3 ?_);simp
 have lo:∀x∈cQ st.pcs,cY (bT st g).pcs x=cY st.pcs x:=λx hx=>by refine aa ep ?_;exact HR hx g g
 have ln:cY (bT st g).pcs g=g:=by refine aa ep ?_;exact HS gn g
 have lk:∀x∈cQ st.pcs,cY st.pcs x∈cQ st.pcs:=λx hx=>by refine N1 (kT hx) λv J hv e=>?_;exact aa e (D.My _ hv)
 have ap:ia (bT st g)=ia st+1:=by refine aa (kl _) (aa (kl _) (aa ep (aa C5 ?_)));refine HP λm=>Va (MU.mp m) λp hp e=>?_;have e:p.2=g:=e;exact gn (e▸D.My p hp)
 refine ⟨⟨sU D h,?_,λp hp=>?_,λy hy h2=>?_,λa ha b hb e=>?_⟩,decide (st.cnt 1≠0),?_,λk=>?_⟩
 . refine aa ep (aa (jx h) (aa (XM _ _) (az D.keys ?_)));unfold cQ;refine aa C5 (aa XB (aa (if_pos (decide_eq_true h1)) ?_));rfl
 . refine bb (km _) ?_;rw [ep] at hp;rcases M3.mp hp with q | q
   . exact .inl (D.My p q)
   . exact .inr (aa (MX.mp q) Z)
 . rw [jx h] at hy;rcases M3.mp hy with q | q
   . have Ae:=(eZ P).mp q;refine XZ (Wf L Ae.1 h2 (Xw Ae.2)) λm1 m2=>aa (lo _ (D.key.mpr m1)) (aa (lo _ (D.key.mpr m2)) ?_);exact D.zw y q h2
   . rw [MX.mp q] at h2;exact Tj h1 h2
 . rcases (km a).mp ha with qa | qa <;> rcases (km b).mp hb with qb | qb
   . rw [lo a qa,lo b qb] at e;exact (D.join a qa b qb e).mono (N6 c)
   . rw [lo a qa,qb,ln] at e;exact absurd (e▸lk a qa) gn
   . rw [lo b qb,qa,ln] at e;exact absurd (e▸lk b qb) gn
   . exact aa qa (aa qb (qw.none λf J=>akO _))
 . refine bb decide_eq_true_iff ?_;constructor
   . intro hn;refine Va (Fy D hn) λt ht h3=>?_;refine XZ ((eZ P).mp ht) λt16 tc=>qw.zero hg (hp▸?_);exact (qw.face t16 tc).xor (qw.none λJ J=>Z) λf hf=>aa (cr1 g hg h1 f hf) (aa (cr1 t t16 h3 f hf) (aa (Y5 _) Z))
   . intro z hn;refine mh P.pos hg (U:=λx=>decide (x=0)) ⟨?_,λy hy q=>?_⟩ z
     . refine aa (ko (Pj) _) (aa (UP g hg) ?_);exact decide_eq_true h1
     . exact aa (ko (Pj) _) (aa (UP y hy) (decide_eq_false ((Fx D hn) y ((eZ P).mpr ⟨hy,Hn q hp⟩))))
 . have c1:(bT st g).cnt 1=st.cnt 1+1:=if_pos h1.symm;have c2:(bT st g).cnt 2=st.cnt 2:=if_neg (show ¬2=eS g by refine aa h1 ?_;decide);have c3:(bT st g).cnt 3=st.cnt 3:=if_neg (show ¬3=eS g by refine aa h1 ?_;decide);have c4:(bT st g).cnt 4=st.cnt 4:=if_neg (show ¬4=eS g by refine aa h1 ?_;decide);unfold nJ;refine aa c1 (aa c2 (aa c3 (aa c4 (aa ap (aa h1 ?_)))));by_cases e:st.cnt 1=0 <;> rcases k with _ | _ | _ | _ | k <;> simp [AA,AB,AD,AE,AF,Wk,e] <;> (first | exact Rn | exact SN)
set_option tactic.hygienic true in
theorem UR (L:mu ord)(D:mX ord c st)(h:ord[c]?=AN g)(h2:eS g=2):xY ord c g st:=by
 have P:=L.P;have hg:=P.lt g (bO h);have hp:=P.is h;refine XZ (cr2 g hg h2) λo3 sdg=>?_;obtain ⟨_,_,_,_,FY,_,_⟩:=o3;refine XZ (Wf L hg h2 (WH hp)) λm1 m2=>?_;have ka:=D.key.mpr m1;have kb:=D.key.mpr m2;have ep:(bT st g).pcs=cF st.pcs (cY st.pcs (jO g)) (cY st.pcs (kU g)):=by show (if eS g=1 then _ else if eS g=2 then _ else _)=_;exact aa (if_neg (QP h2)) (aa (if_pos h2) Z)
 generalize GT:cY st.pcs (jO g)=la at ep;generalize US:cY st.pcs (kU g)=lb at ep;have km:cQ (bT st g).pcs=cQ st.pcs:=by refine aa ep ?_;exact zv _ _ _
 have lo:∀x∈cQ st.pcs,cY (bT st g).pcs x=if cY st.pcs x=lb then la else cY st.pcs x:=λx hx=>by refine aa ep ?_;exact BP hx la lb
 have Ax:∀x∈cQ st.pcs,cY st.pcs x∈st.pcs.map (·.2):=λx hx=>by refine N1 (kT hx) λv _ hv e=>?_;refine aa e ?_;exact MU.mpr ⟨_,hv,Z⟩
 have e2:(bT st g).pcs.map (·.2)=(st.pcs.map (·.2)).map λx=>if x=lb then la else x:=by refine aa ep ?_;unfold cF;refine aa Wu (aa Wu ?_);rfl
 have bg:qw (dm ord) (c+1) λx=>decide (x=jO g) ^^ decide (x=kU g):=(qw.face hg (Sp hp)).xor (qw.none λ_ _=>Z) (pi:=λ_=>Wp) λf hf=>aa (sdg f hf) (aa (Y5 _) Z);have jn:∀a∈cQ st.pcs,∀b∈cQ st.pcs,cY st.pcs a=cY st.pcs b->qw (dm ord) (c+1) λx=>decide (x=a) ^^ decide (x=b):=λa ha b hb e=>(D.join a ha b hb e).mono (N6 c);have Jq:∀a∈cQ st.pcs,∀b∈cQ st.pcs,cY st.pcs a=la->cY st.pcs b=lb->qw (dm ord) (c+1) λx=>decide (x=a) ^^ decide (x=b):=λa ha b hb qa qb=>by
  have b1:=jn a ha _ ka (qa.trans GT.symm);have b2:=jn _ kb b hb (US.trans qb.symm);refine (b1.xor (bg.xor b2 (Y:=λx=>decide (x=jO g) ^^ decide (x=b)) λf hf=>?_)) λf hf=>?_
  . cases decide (f=jO g) <;> cases decide (f=kU g) <;> cases decide (f=b) <;> rfl
  . cases decide (f=a) <;> cases decide (f=jO g) <;> cases decide (f=b) <;> rfl
 refine ⟨⟨sU D h,?_,λp hp=>?_,λy hy h2=>?_,λa ha b hb e=>?_⟩,decide (la=lb),?_,λk=>?_⟩
 . refine aa km (aa D.keys (aa (jx h) (aa (XM _ _) (aa XB (aa (if_neg (by simp [h2])) ?_)))));simp
 . refine aa km ?_;rw [ep] at hp;refine Va (MU.mp hp) λq hq o2=>?_;obtain rfl:=o2;show (if q.2=lb then la else q.2)∈_
   split
   . refine N1 (kT ka) λv _ hv e=>?_;refine az GT (aa e ?_);exact D.My _ hv
   . exact D.My q hq
 . rw [jx h] at hy;rcases M3.mp hy with q | q
   . have Ae:=(eZ P).mp q;refine XZ (Wf L Ae.1 h2 (Xw Ae.2)) λm1 m2=>?_;exact aa (lo _ (D.key.mpr m1)) (aa (lo _ (D.key.mpr m2)) (aa (D.zw y q h2) Z))
   . refine aa (MX.mp q) (aa (lo _ ka) (aa (lo _ kb) (aa GT (aa US (aa (if_pos Z) ?_)))));simp
 . rw [km] at ha hb;rw [lo a ha,lo b hb] at e;by_cases qa:cY st.pcs a=lb
   . rw [if_pos qa] at e;by_cases qb:cY st.pcs b=lb
     . exact jn a ha b hb (qa.trans qb.symm)
     . rw [if_neg qb] at e;have:=Jq b hb a ha e.symm qa;exact this.xor (qw.none λ_ _=>Z) (pi:=λ_=>Wp) λf hf=>aa (Y5 _) (aa (amL _ _) Z)
   . rw [if_neg qa] at e;by_cases qb:cY st.pcs b=lb
     . rw [if_pos qb] at e;exact Jq a ha b hb e qb
     . rw [if_neg qb] at e;exact jn a ha b hb e
 . refine bb decide_eq_true_iff ?_;constructor
   . intro e;refine qw.zero hg (hp▸?_);exact (D.join _ ka _ kb (GT.trans (e.trans US.symm))).xor (qw.none λ_ _=>Z) (pi:=λ_=>Wp) λf hf=>aa (sdg f hf) (aa (Y5 _) Z)
   . intro z;refine KN λeQ=>?_;let U:Nat->Bool:=λx=>decide (eS x=1)&&decide (cY st.pcs x=la);have key:∀y,y<16->eS y=2->lg U y=(decide (cY st.pcs (jO y)=la) ^^ decide (cY st.pcs (kU y)=la)):=λy hy Ae=>by
      refine XZ (cr2 y hy Ae) λo1 sdy=>?_;obtain ⟨a1,a2,a3,a4,_,_,_⟩:=o1;have:lg U y=cT (λf=>(decide (f=jO y)&&U f) ^^ (decide (f=kU y)&&U f)) 16:=cz λf hf=>by refine aa (sdy f hf) ?_;cases decide (f=jO y) <;> cases decide (f=kU y) <;> cases U f <;> rfl
      refine aa this ?_
      rewrite [ma]
      refine aa (fH (j:=jO y) a1 λx _ e=>by rw [decide_eq_false e];rfl) (aa (fH (j:=kU y) a2 λx _ e=>by rw [decide_eq_false e];rfl) ?_);show ((decide (jO y=jO y)&&(decide (eS (jO y)=1)&&_)) ^^ (decide (kU y=kU y)&&(decide (eS (kU y)=1)&&_)))=_;refine aa (decide_eq_true Z) (aa (decide_eq_true Z) (aa (decide_eq_true a3) (aa (decide_eq_true a4) ?_)));rfl
     refine mh P.pos hg (U:=U) ⟨?_,λy hy q=>?_⟩ z
     . refine aa (key g hg h2) (aa GT (aa US (aa (decide_eq_true Z) (aa (decide_eq_false λq=>eQ q.symm) ?_))));rfl
     . by_cases Ae:eS y=2
       . refine aa (key y hy Ae) (aa (D.zw y ((eZ P).mpr ⟨hy,Hn q hp⟩) Ae) ?_);exact akO _
       . refine dZ λf hf=>?_;by_cases e:sd f y=Wn
         . have:=sQ y hy f hf e;show (_&&(decide (eS f=1)&&_))=Wp;refine aa (decide_eq_false (show ¬eS f=1 by unfold eS at Ae ⊢;exact RC this Ae)) ?_;cases sd f y <;> rfl
         . refine aa (Y9 _ |>.mp e) ?_;rfl
 . have c1:(bT st g).cnt 1=st.cnt 1:=if_neg (show ¬1=eS g by refine aa h2 ?_;decide);have c2:(bT st g).cnt 2=st.cnt 2+1:=if_pos h2.symm;have c3:(bT st g).cnt 3=st.cnt 3:=if_neg (show ¬3=eS g by refine aa h2 ?_;decide);have c4:(bT st g).cnt 4=st.cnt 4:=if_neg (show ¬4=eS g by refine aa h2 ?_;decide);have ap:ia st=ia (bT st g)+if la=lb then 0 else 1:=by
    refine aa (kl _) (aa (kl _) (aa e2 ?_))
    split
    . rename_i e;rw [show (st.pcs.map (·.2)).map (λx=>if x=lb then la else x)=st.pcs.map (·.2) from (WL λx _=>by
       by_cases q:x=lb
       . refine aa (if_pos q) (aa e (aa q ?_));rfl
       . refine aa (if_neg q) ?_;rfl).trans (al2 _),Nat.add_zero]
    . rename_i e;exact BO (GT▸Ax _ ka) (US▸Ax _ kb) e
   unfold nJ;refine aa c1 (aa c2 (aa c3 (aa c4 (aa h2 (aa ap ?_)))));by_cases e:la=lb <;> rcases k with _ | _ | _ | _ | k <;> simp [AA,AB,AD,AE,AF,Wk,e] <;> omega
theorem step_same (D:mX ord c st)(h:ord[c]?=AN g)(n1:eS g≠1)(n2:eS g≠2):mX ord (c+1) (bT st g)/\ia (bT st g)=ia st:=by
 have ep:(bT st g).pcs=st.pcs:=by show (if eS g=1 then _ else if eS g=2 then _ else _)=_;exact aa (if_neg n1) (aa (if_neg n2) Z)
 refine ⟨⟨sU D h,?_,by refine aa ep ?_;exact D.My,λy hy h2=>?_,λa ha b hb e=>?_⟩,by unfold ia;exact aa ep Z⟩
 . refine aa ep (aa D.keys (aa (jx h) (aa (XM _ _) (aa XB (aa (if_neg (by simpa using n1)) ?_)))));simp
 . refine aa ep ?_;rw [jx h] at hy;rcases M3.mp hy with q | q
   . exact D.zw y q h2
   . exact absurd (MX.mp q▸h2) n2
 . rw [ep] at ha hb e;exact (D.join a ha b hb e).mono (N6 c)
theorem UT (L:mu ord)(D:mX ord c st)(h:ord[c]?=AN g)(h3:eS g=3):xY ord c g st:=by
 have P:=L.P;have hg:=P.lt g (bO h);have hp:=P.is h;refine XZ (step_same D h (by refine aa h3 ?_;decide) (by refine aa h3 ?_;decide)) λD' ap=>?_;have gn:g∉ord.take c:=λm=>by have:=(eZ P).mp m;exact PX this hp
 let T:=[7,11,13,14].filter λt=>decide (t≠g);have tl:T.length=3:=by rcases (cr3 g hg).mp h3 with rfl | rfl | rfl | rfl <;> rfl
 have tm:∀x,x∈T↔x<16/\eS x=3/\x≠g:=λx=>by
  refine bb rt (bb decide_eq_true_iff ?_);constructor
  . rintro ⟨q1,q2⟩;have hx:x<16:=by
     have:∀x∈[7,11,13,14],x<16:=by decide
     exact this x q1
    exact (aV hx ((cr3 x hx).mpr (by simpa using q1)) q2)
  . rintro ⟨q1,q2,q3⟩;exact ⟨by simpa using (cr3 x q1).mp q2,q3⟩
 have ec:st.cnt 3=(T.filter λt=>decide (t∈ord.take c)).length:=by
  refine aa (D.cnt _) (((A6 ((P.nd.sublist (Y6 _ _)).filter _) (((by decide:[7,11,13,14].Nodup).filter _).filter _)).mpr λx=>?_).length_eq);refine bb rt (bb rt (bb (tm _) (bb decide_eq_true_iff (bb decide_eq_true_iff ?_))));constructor
  . rintro ⟨q1,q2⟩;exact ⟨(aV (((eZ P).mp q1).1) q2 (λe=>gn (e▸q1))),q1⟩
  . rintro ⟨⟨_,q2,_⟩,q1⟩;exact ⟨q1,q2⟩
 have le3:st.cnt 3<=3:=by refine aa ec (az tl ?_);exact XH _ _
 have aaG:st.cnt 3=3↔∀x∈T,x∈ord.take c:=by
  refine aa ec ?_
  conv=>lhs;rhs;rw [<-tl]
  rw [List.length_filter_eq_length_iff];simp only [decide_eq_true_eq]
 refine ⟨D',decide (st.cnt 3=3),?_,λk=>?_⟩
 . rw [decide_eq_true_iff,aaG];constructor
   . intro al;refine (af (λx=>decide (eS x=3)) ⟨decide_eq_true h3,λy hy q=>decide_eq_false λe=>?_⟩ aaD);have:=((eZ P).mp (al y ((tm y).mpr (aV hy e (λe=>by rw [e] at q;exact Mp q))))).2;exact Td q hp this
   . intro z x hx;refine KN λhn=>RR ((tm x).mp hx) λx16 x3 xg=>?_;refine XZ (aaE g hg x x16 (aV h3 x3 (λe=>xg e.symm))) λe16 es=>mh P.pos hg (U:=λy=>decide (y=g+x-15)) ⟨?_,λy hy q=>?_⟩ z
     . rw [ko e16,es g hg,decide_eq_true rfl];rfl
     . have n1:y≠g:=λe=>by rw [e] at q;exact Mp q
       have n2:y≠x:=λe=>hn (e▸(eZ P).mpr ⟨hy,Hn q hp⟩);rw [ko e16,es y hy,decide_eq_false n1,decide_eq_false n2];rfl
 . have c1:(bT st g).cnt 1=st.cnt 1:=if_neg (show ¬1=eS g by rw [h3];decide);have c2:(bT st g).cnt 2=st.cnt 2:=if_neg (show ¬2=eS g by rw [h3];decide);have c3:(bT st g).cnt 3=st.cnt 3+1:=if_pos h3.symm;have c4:(bT st g).cnt 4=st.cnt 4:=if_neg (show ¬4=eS g by rw [h3];decide);unfold nJ;rw [c1,c2,c3,c4,h3,ap];by_cases e:st.cnt 3=3 <;> rcases k with _ | _ | _ | _ | k <;> simp [AA,AB,AD,AE,AF,Wk,e] <;> (first | exact SO | exact ZM | exact TQ le3 e | exact Jb le3 e)
theorem UU (L:mu ord)(D:mX ord c st)(h:ord[c]?=AN g)(h4:eS g=4):xY ord c g st:=by
 have P:=L.P;have hg:=P.lt g (bO h);have hp:=P.is h;refine XZ (step_same D h (by refine aa h4 ?_;decide) (by refine aa h4 ?_;decide)) λD' ap=>?_;have g15:=aaF g hg h4;refine ⟨D',Wp,⟨nofun,λz=>absurd z (mh P.pos hg (U:=λy=>decide (y=7)) ⟨?_,λy hy q=>?_⟩)⟩,λk=>?_⟩
 . refine aa (ko (by decide) _) (aa (cr4 g hg) ?_);exact decide_eq_true g15
 . refine aa (ko (by decide) _) (aa (cr4 y hy) ?_);exact decide_eq_false λe=>by rw [e,<-g15] at q;exact Mp q
 . have c1:(bT st g).cnt 1=st.cnt 1:=if_neg (show ¬1=eS g by refine aa h4 ?_;decide);have c2:(bT st g).cnt 2=st.cnt 2:=if_neg (show ¬2=eS g by refine aa h4 ?_;decide);have c3:(bT st g).cnt 3=st.cnt 3:=if_neg (show ¬3=eS g by refine aa h4 ?_;decide);have c4:(bT st g).cnt 4=st.cnt 4+1:=if_pos h4.symm;unfold nJ;refine aa c1 (aa c2 (aa c3 (aa c4 (aa h4 (aa ap ?_)))));rcases k with _ | _ | _ | _ | k <;> simp [AA,AB,AD,AE,AF,Wk] <;> exact Ro
theorem step_any (L:mu ord)(D:mX ord c st)(h:ord[c]?=AN g):mX ord (c+1) (bT st g)/\(eS g≠0->xY ord c g st):=by
 by_cases e1:eS g=1
 . have:=UQ L D h e1;exact ⟨this.inv,λJ=>this⟩
 by_cases e2:eS g=2
 . have:=UR L D h e2;exact ⟨this.inv,λJ=>this⟩
 refine ⟨(step_same D h e1 e2).1,λe0=>?_⟩;by_cases e3:eS g=3
 . exact UT L D h e3
 . exact UU L D h (QQ e0 jl e1 e2 e3)
theorem mx (L:mu ord):∀i,i<=16->mX ord i (iH (ord.take i))
 | 0,_=>⟨λk=>Z,Z,nofun,nofun,nofun⟩
 | i+1,hi=>by
   have hl:i<ord.length:=by refine aa L.P.len ?_;exact Pm hi
   exact aa (qc ord (cm hl)) ((step_any L (mx L i (Pn hi)) (cm hl)).1)
theorem Fz (L:mu ord)(D:mX ord 16 st)(k:Nat):nJ st k=0:=by
 have P:=L.P;have all:∀f,f<16->f∈ord.take 16:=λf hf=>(eZ P).mpr ⟨hf,P.pos.lt f hf⟩;have ec:∀k,st.cnt k=((WG 16).filter λf=>decide (eS f=k)).length:=λk=>by refine aa (D.cnt _) ?_;refine (anT _ ((A6 (P.nd.sublist (Y6 _ _)) ajr).mpr λx=>?_)).length_eq;refine bb (eZ P) (bb wN ?_);exact ⟨λq=>q.1,λq=>⟨q,P.pos.lt x q⟩⟩
 have c1:st.cnt 1=4:=(ec 1).trans (by decide +kernel);have c2:st.cnt 2=6:=(ec 2).trans (by decide +kernel);have c3:st.cnt 3=4:=(ec 3).trans (by decide +kernel);have c4:st.cnt 4=1:=(ec 4).trans (by decide +kernel);have ap:ia st=1:=by
  refine aa (kl _) ?_;have k1:1∈cQ st.pcs:=D.key.mpr ⟨all 1 (by decide),by decide +kernel⟩;refine N1 (kT k1) λv J hv ev=>?_;have e2:cY st.pcs 2=cY st.pcs 1:=D.zw 3 (all 3 (by decide)) (by decide +kernel);have e4:cY st.pcs 4=cY st.pcs 1:=D.zw 5 (all 5 (by decide)) (by decide +kernel);have e8:cY st.pcs 8=cY st.pcs 1:=D.zw 9 (all 9 (by decide)) (by decide +kernel);have nd:(cQ st.pcs).Nodup:=by refine aa D.keys ?_;exact (P.nd.sublist (Y6 _ _)).filter _
  refine HQ (a:=v) (MU.mpr (af _ hv Z)) λx hx=>?_;refine Va (MU.mp hx) λp hp o6=>?_;obtain rfl:=o6;have hk:p.1∈cQ st.pcs:=MU.mpr (af p hp Z);refine N1 (kT hk) λw J hw ew=>?_;have:p.2=w:=by obtain ⟨i,hi,e⟩:=Xq hp;obtain ⟨j,hj,e'⟩:=Xq hw;have:i=j:=(D4 nd (h₀:=by refine aa (Wl _) ?_;exact hi) (h₁:=by refine aa (Wl _) ?_;exact hj)).mp (aa (GG _) (aa (GG _) (aa e (aa e' Z))));subst this;rw [e] at e';exact aa e' Z
  refine aa this (az ew (az ev ?_));have c:=D.key.mp hk;have c16:=((eZ P).mp c.1).1;have:p.1=1\/p.1=2\/p.1=4\/p.1=8:=(by decide +kernel:∀x,x<16->eS x=1->x=1\/x=2\/x=4\/x=8) p.1 c16 c.2;rcases this with q | q | q | q <;> rw [q]
  . exact e2
  . exact e4
  . exact e8
 unfold nJ;refine aa c1 (aa c2 (aa c3 (aa c4 (aa ap ?_))));rcases k with _ | _ | _ | _ | k <;> rfl
theorem sV (L:mu ord):ord[0]?=AN 0:=by
 have P:=L.P;have hl:0<ord.length:=by refine aa P.len ?_;decide
 have h0:=P.lt _ (GY hl);have:=A2.mpr (c6.mpr λs hs=>by
  exact Sd (L.Ax _ h0 s hs) (P.is (cm hl)))
 exact aa (cm hl) (aa (cr0 _ h0 this) Z)
noncomputable def FA (ord:au)(P:List (Nat×Nat))(c k:Nat):Nat:=(P.filter λp=>decide (p.1=c/\cf ord p.1=k)).length
noncomputable def FC (ord:au)(P:List (Nat×Nat))(c k:Nat):Nat:=(P.filter λp=>decide (p.2=c/\cf ord p.1=k)).length
theorem sW (c k:Nat):∀P:List (Nat×Nat),(∀p∈P,p.1<p.2)->dM ord P (c+1) k+FC ord P (c+1) k=dM ord P c k+FA ord P (c+1) k
 | [],_=>rfl
 | p::P,h=>by
   have ih:=sW c k P λq hq=>h q (.tail _ hq);have hp:=h p (.head _);unfold dM FC FA at *;simp only [XB,decide_eq_true_eq];by_cases e:cf ord p.1=k
   . simp only [e,and_true]
     split <;> split <;> split <;> split <;> (try simp only [Xf]) <;> (first | exact TG ih | exact T9 ‹_› ‹_› | exact aa4 ‹_› ‹_› | exact Ua ‹_› ‹_› | exact T8 ‹_› ‹_› | exact TJ ih | exact TH ih | exact Ub ‹_› ‹_› ‹_› | exact T5 hp ‹_› ‹_› | exact TF ih | exact TC ih | exact T7 hp ‹_› ‹_› | exact Uc ‹_› ‹_› ‹_› | exact Ud ‹_› ‹_› ‹_› | exact T6 hp ‹_› ‹_› | exact TK ih)
   . simp only [e,and_false,if_false];exact ih
theorem xZ {P:List (Nat×Nat)}(nd:(P.map (·.1)).Nodup)(q:Nat×Nat->Bool)(c:Nat)(h:∀p∈P,q p=Wn->p.1=c):(P.filter q).length<=1:=by
 have:=(nd.sublist (akD.map _)).length_le_of_subset (l₂:=[c]) λx hx=>by refine Va (MU.mp hx) λp hp o5=>?_;obtain rfl:=o5;exact XZ (rt.mp hp) λm e=>aa (h p m e) (.head _)
 rwa [Wl] at this
set_option tactic.hygienic true in
theorem HT (L:mu ord){own:vI}(F:xF (dm ord) own){P:List (Nat×Nat)}(hP:P.Perm (Fc own))(i:Nat)(hi:i<16):(WG 5).map (λk=>((dM ord P i k:Nat):Int))=xQ (iH (ord.take (i+1))):=by
 have O:=L.P;have pk:=O.pos;have mem:∀i j,(i,j)∈P->∃f g,f<16/\g<16/\i=dm ord f/\j=dm ord g/\B7 (dm ord) f g:=λi j h=>(mO pk F i j).mp (hP.mem_iff.mp h);have nd:(P.map (·.1)).Nodup:=(hP.map _).nodup_iff.mpr (by unfold Fc;refine aa Wu ?_;exact F.Jm);have co:∀f,f<16->cf ord (dm ord f)=eS f:=λf hf=>by unfold cf;exact aa (getD_at (O.at_ hf)) Z
 have lt:∀p∈P,p.1<p.2:=λ⟨i,j⟩ hp=>by refine CA (mem i j hp) λf g hf hg o3 o4 pv=>?_;obtain rfl:=o3;obtain rfl:=o4;exact Fv L hf hg pv
 let d:Nat->Nat->Int:=λi k=>nJ (iH (ord.take (i+1))) k-(dM ord P i k:Nat);have up:∀i k,i+1<16->d i k<=d (i+1) k:=λi k hi=>by
  have hl:i+1<ord.length:=by refine aa O.len ?_;exact P9 hi
  have qz:=cm hl;generalize ord[i+1]=g at qz;have hg:=O.lt g (bO qz);have hp:=O.is qz;have OG:eS g≠0:=λe=>by rw [cr0 g hg e] at hp;exact Sh (O.is (sV L)) hp
  refine Va (((step_any L (mx L (i+1) (Qa hi)) qz).2 OG).row) λz J row=>?_;have rw1:=row k;rw [<-qc ord qz] at rw1;have as:=sW (ord:=ord) i k P lt;have b1:FA ord P (i+1) k<=if z=Wn/\eS g=k then 1 else 0:=by
   split
   . exact xZ nd _ (i+1) λp _ q=>by simp at q;exact q.1
   . rename_i hn;refine WH (A2.mpr (XV.mpr λp I3 q=>hn (XZ (of_decide_eq_true q) λq1 q2=>CA (mem p.1 p.2 I3) λf h hf hh e1 _ pv=>?_)));have:f=g:=pk.inj f hf g hg (e1.symm.trans (q1.trans hp.symm));subst this;exact ⟨J.mpr (E1 hf pv),az q2 (aa e1 (aa (co f hf) Z))⟩
  have b2:(if z=Wp/\eS g=k+1 then 1 else 0)<=FC ord P (i+1) k:=by
   split
   . rename_i hz;rcases F.all g hg with ⟨p,I3,e⟩ | gz
     . refine MK (vK pk F I3) λf g' hf tG e1 e2 e3 pv=>?_;have:g'=g:=pk.inj g' tG g hg (e2.symm.trans e);subst this;refine List.length_pos_of_mem (a:=(p.1,p.2.headD 0)) (rt.mpr ⟨hP.mem_iff.mpr (MU.mpr (af p I3 Z)),decide_eq_true ⟨?_,?_⟩⟩)
       . show p.2.headD 0=_;exact aa e hp
       . show cf ord p.1=k;refine aa e1 (aa (co f hf) ?_);have:=hz.2;unfold eS at this ⊢;omega
     . have:=J.mpr (Aq gz);rw [hz.1] at this;cases this
   . exact Dv _
  show nJ _ k - _<=nJ _ k - _;refine aa rw1 ?_;unfold Wk;by_cases c1:z=Wn/\eS g=k
  . rw [if_pos c1] at b1 ⊢;refine aa (if_neg λq=>by rw [c1.1] at q;exact nomatch q.1) ?_;exact Uj as b1
  . rw [if_neg c1] at b1 ⊢;by_cases c2:z=Wp/\eS g=k+1
    . rw [if_pos c2] at b2 ⊢;exact Uh b2 as b1
    . exact aa (if_neg c2) (Ui as b1)
 have mono:∀k n i,i+n<16->d i k<=d (i+n) k:=λk n=>by
  induction n with
  | zero=>exact λi _=>G9 _
  | succ n ih=>exact λi h=>Yg (ih i (Ry h)) (up (i+n) k (Rx h))
 have aaH:∀k,d 15 k=0:=λk=>by
  have:dM ord P 15 k=0:=A2.mpr (XV.mpr λ⟨i,j⟩ hp q=>by
   refine CA (mem i j hp) λf g hf hg o1 o2 pv=>?_;obtain rfl:=o1;obtain rfl:=o2;have:=(of_decide_eq_true q).2.1;simp only at *;exact ZO ‹_› (pk.lt g hg))
  show nJ _ k - _=0;refine aa (Fz L (mx L 16 (Zz)) _) (aa this ?_);rfl
 have beg:∀k,0<=d 0 k:=λk=>by
  have e0:iH (ord.take 1)=iH [0]:=by refine aa (jx (sV L)) ?_;rfl
  have r0:nJ (iH [0]) k=if k=0 then 1 else 0:=by rcases k with _ | _ | _ | _ | k <;> rfl
  show 0<=nJ (iH (ord.take 1)) k - _;refine aa e0 (aa r0 ?_);have:dM ord P 0 k<=if k=0 then 1 else 0:=by
   have f0:∀p∈P,decide (p.1<=0/\0<p.2/\cf ord p.1=k)=Wn->p.1=0:=λp _ q=>by exact QV ((of_decide_eq_true q).1)
   split
   . exact xZ nd _ 0 f0
   . rename_i hn;refine WH (A2.mpr (XV.mpr λp hp q=>hn ?_));have h3:=(of_decide_eq_true q).2.2;rw [(f0 p hp q)] at h3;have:cf ord 0=0:=by unfold cf;refine aa (getD_at (sV L)) ?_;rfl
     exact Si this h3
  by_cases e:k=0
  . rw [if_pos e] at this ⊢;exact QW this
  . rw [if_neg e] at this ⊢;exact QU this
 refine aa (Fw _) (WL λk _=>?_);have h1:=mono k i 0 (Qo hi);have h2:=mono k (15-i) i (Qs hi);rw [show i+(15-i)=15 by exact Qt hi,aaH] at h2;rw [OT] at h1;exact ZV (ZU (beg k) h1 h2)
end
structure TS where
 aq:List Nd
 ready:List Int
 bq:Int
 fin:Int
 qX:List Int
noncomputable def HU (st:TS):TS:=⟨outs st.aq st.ready,[],st.bq+st.ready.length,st.fin,st.qX++st.ready⟩
structure FD (N:Int->List Int)(rank:List Int):Prop where
 nd:rank.Nodup
 rows:∀x∈rank,(N x).Nodup
 sub:∀x∈rank,∀y∈N x,y∈rank
 up:∀x∈rank,∀y∈N x,y<x
noncomputable def pn (N:Int->List Int)(rank D G:List Int)(z:Int):Int:=
 if z∈D then -2 else if z∈G then -1 else if z∈rank then (((N z).filter λy=>decide (y∉D)).length:Int) else 0
structure SI (N:Int->List Int)(rank:List Int)(st:TS)(D:List Int):Prop where
 aq:jG st.aq (pn N rank D st.qX) (λz=>rank.filter λx=>decide (z∈N x))
 names:∀z,z∈st.aq.map (·.1)↔z∈rank
 rdN:st.ready.Nodup
 rd:∀z,z∈st.ready↔z∈rank/\z∉st.qX/\∀y∈N z,y∈D
 ps:st.bq=st.qX.length
 fn:st.fin=D.length
 gN:st.qX.Nodup
 gS:∀z∈st.qX,z∈rank
 dN:D.Nodup
 dS:∀z∈D,z∈st.qX
 need:∀z∈st.qX,∀y∈N z,y∈D
section
variable {N:Int->List Int}{rank D:List Int}{st:TS}{x:Int}
theorem SI.zero (W:FD N rank):SI N rank ⟨nE N rank,dF (nE N rank),0,0,[]⟩ []:=by
 refine XZ (qu N rank W.nd W.rows W.sub) λh1 h2=>?_;obtain hP:∀z,pn N rank [] [] z=if z∈rank then ((N z).length:Int) else 0:=λz=>by
  obtain this:((N z).filter λy=>decide (y∉([]:List Int)))=N z:=ah8.mpr (by simp);show (if z∈[] then (-2:Int) else if z∈[] then -1 else if z∈rank then ((((N z).filter λy=>decide (y∉([]:List Int))).length:Nat):Int) else 0)=_;exact (ar this)▸(aa (if_neg (by simp)) (aa (if_neg (by simp)) Z))
 refine ⟨h1.congr hP λJ=>Z,h2,?_,λz=>?_,Z,Z,Nq,(λJ h=>nomatch h),Nq,(λJ h=>nomatch h),(λJ h=>nomatch h)⟩
 . exact (anU _ akD).nodup h1.nd
 . show z∈((nE N rank).filter λy=>y.2.1==0).map (·.1)↔_;refine bb MU ?_;constructor
   . rintro ⟨y,hy,rfl⟩;refine XZ (rt.mp hy) λq1 q2=>?_;have hm:=(h2 y.1).mp (MU.mpr (af y q1 Z));obtain q3:=(h1.at_ y q1).1;rw [if_pos hm] at q3;obtain q4:y.2.1=0:=by simpa using q2
     obtain q5:=yB (WS (q3.symm.trans q4));exact (aV hm (by simp) (by simp [q5]))
   . rintro ⟨q1,_,q3⟩;refine Va (MU.mp ((h2 z).mpr q1)) λy hy o1=>?_;obtain rfl:=o1;refine (af y (rt.mpr ⟨hy,?_⟩) Z);obtain q4:=(h1.at_ y hy).1;rw [if_pos q1] at q4;have q5:N y.1=[]:=by
      cases e:N y.1 with
      | nil=>rfl
      | cons a r=>exact absurd (q3 a (by refine aa e ?_;exact .head _)) (nofun)
     refine (ar q4)▸(ar q5)▸?_;rfl
theorem SI.mid (h:SI N rank st D):SI N rank (HU st) D:=by
 obtain n1:=h.aq.outs st.ready λz hz=>(h.names z).mpr ((h.rd z).mp hz).1;refine ⟨n1.congr (λz=>?_) λJ=>Z,λz=>?_,Nq,λz=>?_,?_,h.fn,?_,λz hz=>?_,h.dN,λz hz=>Df _ (h.dS z hz),λz hz=>?_⟩
 . show pn N rank D (st.qX++st.ready) z=_;delta pn;by_cases r:z∈st.ready
   . obtain q:=(h.rd z).mp r;exact aa (if_neg (λm=>q.2.1 (h.dS z m))) (aa (if_pos (Ko _ r)) (aa (if_pos r) Z))
   . refine aa (if_neg r) ?_;by_cases g:z∈st.qX
     . simp [g]
     . simp [g,r]
 . show z∈(outs st.aq st.ready).map (·.1)↔_;exact aa (hK _ _) (h.names z)
 . show z∈[]↔z∈rank/\z∉st.qX++st.ready/\_;constructor
   . exact λq=>nomatch q
   . rintro ⟨q1,q2,q3⟩;exact absurd (Ko _ ((h.rd z).mpr (aV q1 (λm=>q2 (Df _ m)) q3))) q2
 . show st.bq+st.ready.length=((st.qX++st.ready).length:Int)
   refine (ar h.ps)▸(aa Nc ?_)
   push_cast
   rfl
 . show (st.qX++st.ready).Nodup;exact bb M9 (aV h.gN h.rdN (λa ha b hb e=>((h.rd b).mp hb).2.1 (e▸ha)))
 . rcases M3.mp hz with q | q
   . exact h.gS z q
   . exact ((h.rd z).mp q).1
 . rcases M3.mp hz with q | q
   . exact h.need z q
   . exact ((h.rd z).mp q).2.2
theorem SI.done (W:FD N rank)(h:SI N rank st D)(hr:st.ready=[])(hx1:x∈st.qX)(Tk:x∉D): SI N rank ⟨(fx st.aq [] x).1,(fx st.aq [] x).2,st.bq,st.fin+1,st.qX⟩ (D++[x]):=by
 generalize VE:(rank.filter λz=>decide (x∈N z))=Sx;have mS:∀z,z∈Sx↔z∈rank/\x∈N z:=λz=>by refine az VE (bb rt ?_);simp
 have n3:=jG.O4 Sx [] (by refine az VE ?_;exact W.nd.filter _) (h.aq.eh ((h.names x).mpr (h.gS x hx1)) (-2)) λz hz=>by rw [dK];exact (h.names z).mpr ((mS z).mp hz).1
 have VF:fx st.aq [] x=Sx.foldl dG (eh st.aq x (-2),[]):=by unfold fx;exact aa (h.aq.c8 x) (aa VE Z)
 have inS:∀z∈Sx,z∉st.qX/\z≠x/\z∉D:=λz hz=>by refine XZ ((mS z).mp hz) λq1 q2=>?_;have a1:z∉st.qX:=λm=>Tk (h.need z m x q2);exact (aV a1 (λe=>a1 (e▸hx1)) (λm=>a1 (h.dS z m)))
 have P2:∀z∈Sx,(if z=x then (-2:Int) else pn N rank D st.qX z)=(((N z).filter λy=>decide (y∉D++[x])).length:Int)+1:=λz hz=>by
  refine RR (inS z hz) λa1 a3 a4=>XZ ((mS z).mp hz) λq1 q2=>aa (if_neg a3) ?_;unfold pn;refine aa (if_neg a4) (aa (if_neg a1) (aa (if_pos q1) (aa (ak4 Tk (W.rows z q1) q2) ?_)))
  push_cast
  rfl
 refine ⟨?_,λz=>?_,?_,λz=>?_,h.ps,?_,h.gN,h.gS,?_,λz hz=>?_,λz hz y hy=>Df _ (h.need z hz y hy)⟩
 . show jG (fx st.aq [] x).1 _ _;refine aa VF (n3.1.congr (λz=>?_) λJ=>Z);by_cases hz:z∈Sx
   . refine aa (if_pos hz) (aa (P2 z hz) (RR (inS z hz) λa1 a3 a4=>XZ ((mS z).mp hz) λq1 q2=>?_));show pn N rank (D++[x]) st.qX z=_;unfold pn;exact aa (if_neg (by simp [a4,a3])) (aa (if_neg a1) (aa (if_pos q1) Un))
   . refine aa (if_neg hz) ?_;show pn N rank (D++[x]) st.qX z=_;by_cases hzx:z=x
     . subst hzx;refine aa (if_pos Z) ?_;unfold pn;simp
     . refine aa (if_neg hzx) ?_;unfold pn;by_cases q1:z∈D
       . exact aa (if_pos q1) (aa (if_pos (Df _ q1)) Z)
       . refine aa (if_neg q1) (aa (if_neg (by simp [q1,hzx])) ?_);by_cases q2:z∈st.qX
         . exact (ar (if_pos q2))▸(ar (if_pos q2))▸Z
         . skip
           by_cases q3:z∈rank
           . have:x∉N z:=λm=>hz ((mS z).mpr ⟨q3,m⟩);exact aa (ak8 this) Z
           . exact (ar (if_neg q3))▸(ar (if_neg q3))▸Z
 . skip
   refine (ar VF)▸(aa (r9 _ _) ?_)
   rw [dK];exact h.names z
 . show (fx st.aq [] x).2.Nodup;exact aa VF (aa n3.2 (aa (w7 _) (az VE ((W.nd.filter _).filter _))))
 . skip
   simp only [VF,n3.2,w7,rt];constructor
   . rintro ⟨hz,hp⟩;refine RR (inS z hz) λa1 a3 a4=>XZ ((mS z).mp hz) λq1 q2=>?_;have zY:(if z=x then (-2:Int) else pn N rank D st.qX z)=1:=by simpa using hp
     rw [P2 z hz] at zY;refine (aV q1 a1 (λy hy=>KN λq=>?_));have:y∈(N z).filter λy=>decide (y∉D++[x]):=rt.mpr ⟨hy,by lia⟩;replace this:=(yB (Z5 zY))▸this;cases this
   . rintro ⟨q1,q2,q3⟩;have hxz:=KN λq=>by
      have:=(h.rd z).mpr ⟨q1,q2,λy hy=>by
       rcases M3.mp (q3 y hy) with w | w
       . exact w
       . rw [MX.mp w] at hy;exact absurd hy q⟩
      replace this:=hr▸this;cases this
     have hz:=(mS z).mpr ⟨q1,hxz⟩;refine ⟨hz,?_⟩;have:=P2 z hz;rw [(XV.mpr λy hy q=>absurd (q3 y hy) (of_decide_eq_true q))] at this;exact decide_eq_true (this)
 . show st.fin+1=_;refine (ar h.fn)▸(aa Nc ?_)
   push_cast
   rfl
 . exact bb M9 (aV h.dN (by simp) (λa ha b hb e=>Tk (by refine az (MX.mp hb) (az e ?_);exact ha)))
 . rcases M3.mp hz with q | q
   . exact h.dS z q
   . simp only [MX.mp q];exact hx1
end
noncomputable def NO (z:Int):List Int:=jJ z.toNat
noncomputable def nK:List Int:=(WG 16).map λ(n:Nat)=>(n:Int)
theorem my (z:Int):z∈nK↔∃n:Nat,n<16/\(n:Int)=z:=by unfold nK;exact bb MU ⟨λ⟨n,h,e⟩=>(af n (wN.mp h) e),λ⟨n,h,e⟩=>(af n (wN.mpr h) e)⟩
theorem sX (n:Nat)(y:Int):y∈NO (n:Int)↔∃f∈aG n,(f:Int)=y:=by unfold NO jJ;rw [Gf,MU]
theorem pq:∀g,g<16->∀f∈aG g,f<g:=by decide +kernel
theorem qd:FD NO nK:=by
 refine ⟨Xl.mpr (ajr.imp λq e=>q (WS e)),λx hx=>?_,λx hx y hy=>?_,λx hx y hy=>?_⟩ <;> (refine Va ((my x).mp hx) λn hn qR=>?_;obtain rfl:=qR)
 . unfold NO jJ;exact aa (Gf _) (Xl.mpr (anP (λq e=>q (WS e)) (xU n hn)))
 . refine Va ((sX n y).mp hy) λf hf o9=>?_;obtain rfl:=o9;exact (my _).mpr (af f (Mq hn (pq n hn f hf)) Z)
 . refine Va ((sX n y).mp hy) λf hf o8=>?_;obtain rfl:=o8;exact R7 (pq n hn f hf)
theorem Jr (k:Nat):nF k=nE NO ((WG k).map λ(n:Nat)=>(n:Int)):=by
 induction k with
 | zero=>rfl
 | succ k ih =>show fQ (nF k) (k:Int) (jJ k)=_;refine aa ih (aa G5 (aa C5 ?_));unfold nE;refine aa ai1 ?_;rfl
noncomputable def toT (s:OS):TS:=⟨s.aq,s.ready,s.bq,s.fin,s.ord++s.wait⟩
def aaI (l:List Int):Prop:=∀i x,l[i]?=AN x->∀y∈NO x,y∈l.take i
theorem SI.perm {aq:List Nd}{r:List Int}{p f:Int}{g g' D:List Int}(h:SI NO nK ⟨aq,r,p,f,g⟩ D)(e:g.Perm g'):SI NO nK ⟨aq,r,p,f,g'⟩ D:=by
 refine ⟨h.aq.congr (λz=>?_) λJ=>Z,h.names,h.rdN,λz=>(h.rd z).trans ?_,h.ps.trans (aa e.length_eq Z),h.fn,e.nodup_iff.mp h.gN,λz hz=>h.gS z (e.mem_iff.mpr hz),h.dN,λz hz=>e.mem_iff.mp (h.dS z hz),λz hz=>h.need z (e.mem_iff.mpr hz)⟩
 . unfold pn;simp only [e.mem_iff]
 . rw [e.mem_iff]
theorem qx {α:Type}:∀(l:List α) (i:Nat) (x:α),l[i]?=AN x->l.Perm (x::l.eraseIdx i)
 | a::l,0,x,h=>by obtain rfl:=WM h;exact akm _
 | a::l,i+1,x,h=>((qx l i x h).cons a).trans (.swap _ _ _)
section
variable {numbers:au}{s:OS}
structure kW (s:OS)(k:Nat):Prop where
 si:SI NO nK (toT s) s.ord
 len:s.ord.length=k
 Ax:aaI s.ord
theorem sY:nK.length=16:=rfl
theorem kW.B9 (h:kW s k):s.ord.length+s.wait.length<=16:=by have:=oU h.si.gN h.si.gS;rw [sY] at this;unfold toT at this;simpa using this
theorem kW.more (h:kW s k)(hk:k<16):s.wait++s.ready≠[]:=λe=>by
 have all:∀m n:Nat,n<m->n<16->(n:Int)∈s.ord:=by
  intro m;induction m with
  | zero=>exact λJ q=>nomatch q
  | succ m ih=>
    intro n hn D3;have hr:=(my _).mpr (af n D3 Z);have need:∀y∈NO (n:Int),y∈s.ord:=λy hy=>by refine Va ((sX n y).mp hy) λf hf o7=>?_;obtain rfl:=o7;have:=pq n D3 f hf;exact ih f (Hl hn this) (Mq D3 this)
    by_cases g:(n:Int)∈s.ord++s.wait
    . rcases M3.mp g with q | q
      . exact q
      . have:(n:Int)∈s.wait++s.ready:=Df _ q;rw [e] at this;cases this
    . have:=(h.si.rd _).mpr (aV hr g need);have:(n:Int)∈s.wait++s.ready:=Ko _ this;rw [e] at this;cases this
 have:=oU qd.nd λx hx=>by refine Va ((my x).mp hx) λn hn o6=>?_;obtain rfl:=o6;exact all 16 n hn hn
 rw [sY,h.len] at this;exact ZP this hk
theorem kW.pick (h:kW s k)(hk:k<16):gT numbers s<(s.wait++s.ready).length/\(s.wait++s.ready)[gT numbers s]?=.some (dY numbers s):=by have h1:gT numbers s<(s.wait++s.ready).length:=YW _ (akE.mpr (h.more hk));refine ⟨h1,?_⟩;unfold dY;refine aa WE (aa (cm h1) ?_);rfl
theorem kW.nin (h:kW s k)(hx:x∈s.wait++s.ready):x∉s.ord:=λm=>by
 rcases M3.mp hx with q | q
 . exact (M9.mp h.si.gN).2.2 x m x q Z
 . exact ((h.si.rd x).mp q).2.1 (Df _ m)
theorem kW.step (h:kW s k)(hk:k<16):kW (goO numbers s) (k+1):=by
 refine XZ (h.pick (numbers:=numbers) hk) λh1 h2=>?_;have hx:=bO h2;have hg:dY numbers s∈(HU (toT s)).qX:=by show _∈(s.ord++s.wait)++s.ready;rw [MW];exact Ko _ hx
 refine ⟨(SI.done qd h.si.mid Z hg (h.nin hx)).perm ?_,by show (s.ord++[dY numbers s]).length=_;simp [h.len],?_⟩
 . show ((s.ord++s.wait)++s.ready).Perm ((s.ord++[dY numbers s])++(s.wait++s.ready).eraseIdx (gT numbers s));rw [MW,MW];exact anc _ (qx _ _ _ h2)
 . intro i x hi y hy;have hi:(s.ord++[dY numbers s])[i]?=AN x:=hi;by_cases q:i<s.ord.length
   . rw [aiL q] at hi;exact aa (ah0 (Xw q)) (h.Ax i x hi y hy)
   . have hl:=(bA hi).1;rw [Nc,aj0] at hl;have e:i=s.ord.length:=R5 hl q;subst e;rw [aiq (bP _),Hd] at hi;exact aa (ah0 (bP _)) (aa X9 ((h.si.mid.need _ hg) y ((WM hi)▸hy)))
theorem kW.ok (h:kW s k)(hk:k<16):OkO numbers s:=by
 refine XZ (h.pick (numbers:=numbers) hk) λh1 h2=>?_;have hx:=bO h2;have hn:=h.nin hx;have m:=h.si.mid;have hg:dY numbers s∈(HU (toT s)).qX:=by show _∈(s.ord++s.wait)++s.ready;rw [MW];exact Ko _ hx
 have hr:=m.gS _ hg;have B9:=h.B9;have sx:c8 (outs s.aq s.ready) (dY numbers s)=nK.filter λx=>decide (dY numbers s∈NO x):=m.aq.c8 _;refine ⟨?_,λy hy=>(h.si.names y).mpr ((h.si.rd y).mp hy).1,?_,RK B9,by refine aa h.len ?_;exact hk,h1,(h.si.names _).mpr hr,?_,λx hx=>?_,?_⟩
 . unfold Bw;by_cases e:s.ready=[]
   . have hw:s.wait≠[]:=λq=>h.more hk (by refine aa e (aa q ?_);rfl);have hp:s.bq=((s.ord++s.wait).length:Int):=h.si.ps;have hf:s.fin=(s.ord.length:Int):=h.si.fn;have:=akE.mpr hw;refine aa hp (aa hf (aa Nc (aa (decide_eq_true (Rr this)) ?_)));rfl
   . refine aa (show s.ready.isEmpty=Wp by simpa using e) ?_;exact Bool.or_true _
 . have:=oU h.si.rdN λz hz=>((h.si.rd z).mp hz).1;rw [sY] at this;have:s.ready.length<=16:=this;exact Pg this
 . have e:gE (HU (toT s)).aq (dY numbers s)=_:=m.aq.gE _;refine e.trans ?_;unfold pn;exact aa (if_neg hn) (aa (if_pos hg) Z)
 . rw [sx] at hx;exact (h.si.names x).mpr (rt.mp hx).1
 . refine aa sx ?_;have:=XH (λx=>decide (dY numbers s∈NO x)) nK;rw [sY] at this;exact Pg this
theorem FE (numbers:au):∀k,k<=16->kW (qD numbers O0 k) k
 | 0,_=>by refine ⟨?_,Z,nofun⟩;show SI NO nK ⟨nF 16,dF (nF 16),0,0,[]⟩ [];exact aa (Jr 16) (SI.zero qd)
 | k+1,hk=>(FE numbers k (Pn hk)).step (Pm hk)
noncomputable def L6 (numbers:au):au:=(qD numbers O0 16).ord.map Zf
theorem FF (h:kW s k):s.ord=(s.ord.map Zf).map λ(n:Nat)=>(n:Int):=by refine aa Wu ?_;refine ((al2 s.ord).symm.trans (WL λx hx=>?_));refine Va ((my x).mp (h.si.gS x (Df _ hx))) λn J o5=>?_;obtain rfl:=o5;rfl
theorem AG:∀k,k<17->(nF k).length<100/\∀y∈nF k,y.2.2.length<=100:=by decide +kernel
theorem kW.fin (h:kW s 16):(∀z∈nK,z∈s.ord)/\s.ready=[]/\Bw s=Wp:=by
 have B9:=h.B9;have ol:=h.len;have all:∀z∈nK,z∈s.ord:=λz hz=>by
  refine KN λhn=>?_;have:=oU (l:=z::s.ord) (r:=nK) (Xh.mpr ⟨hn,h.si.dN⟩) λx hx=>by
   rcases JU.mp hx with q | q
   . exact q▸hz
   . exact h.si.gS x (Df _ q)
  rw [Xf,ol,sY] at this;exact Zy this
 have r0:s.ready=[]:=c6.mpr λz hz=>by have q:=(h.si.rd z).mp hz;exact q.2.1 (Df _ (all z q.1))
 have w0:s.wait=[]:=yB (RJ B9 ol);refine (aV all r0 ?_);unfold Bw;have hp:s.bq=((s.ord++s.wait).length:Int):=h.si.ps;have hf:s.fin=(s.ord.length:Int):=h.si.fn;refine aa r0 (aa hp (aa hf (aa w0 (aa (Kg _) (aa (decide_eq_false (Rd)) ?_)))));rfl
theorem kW.aaJ (h:kW s 16):s.ord=(s.ord.map Zf).map (λ(n:Nat)=>(n:Int))/\mu (s.ord.map Zf):=by
 have eb:=FF h;refine ⟨eb,?_⟩;have all:=h.fin.1;have ol:=h.len;have hN:=h.si.dN;have Ax:=h.Ax;have sub:∀x∈s.ord,x∈nK:=λx hx=>h.si.gS x (Df _ hx);generalize s.ord=l at *;generalize l.map Zf=o at eb;subst eb;have P:iX o:=by
  refine ⟨by rwa [Wl] at ol,?_,λf hf=>?_,λf hf=>?_⟩
  . exact (Xl.mp hN).imp λq e=>q (congrArg _ e)
  . refine Va ((my _).mp (sub _ (MU.mpr (af f hf Z)))) λn hn e=>?_;have:=WS e;exact Rq e hn
  . refine Va (MU.mp (all _ ((my _).mpr (af f hf Z)))) λn hn e=>?_;exact (WS e)▸hn
 refine ⟨P,λg hg f hf=>?_⟩;have qz:=P.at_ hg;have:=Ax (dm o g) _ (by refine aa bV (aa qz ?_);rfl) (f:Int) ((sX g _).mpr (af f hf Z));rw [<-amO] at this;refine Va (MU.mp this) λn hn e=>?_;have:=WS e;subst this;exact ((eZ P).mp hn).2
theorem HV (numbers:au)(n8:numbers.length=8):LD numbers/\(qD numbers O0 16).ord=(L6 numbers).map (λ(n:Nat)=>(n:Int))/\mu (L6 numbers):=by have h:=FE numbers 16 (bP _);refine RR h.fin λJ r0 ac=>?_;refine ⟨⟨n8,(cj Zf (λy hy s hs=>?_)),λk hk=>(AG k (PG hk)).1,λk hk=>(AG k (PG hk)).2,λk hk=>(FE numbers k (Pf hk)).ok hk,ac,by refine aa r0 ?_;decide⟩,h.aaJ⟩;refine XZ (qu NO nK qd.nd qd.rows qd.sub) λi1 i2=>?_;have en:=Jr 16;rw [en] at hy ⊢;have e:=(i1.at_ y hy).2;rw [e] at hs;refine XZ (rt.mp hs) λq1 q2=>?_;have q2:=of_decide_eq_true q2;refine ⟨(i2 s).mpr q1,?_⟩;refine Va ((my s).mp q1) λn hn o4=>?_;obtain rfl:=o4;refine Va ((sX n _).mp q2) λf hf e=>?_;refine az e ?_;exact pq n hn f hf
end
theorem L7 (numbers:au)(n8:numbers.length=8):∃ord P,Jp numbers ord P:=by
 refine RR (HV numbers n8) λF run L=>Ml (zu L numbers.sum (numbers.sum / 3)) λP T=>?_;generalize L6 numbers=ord at *;refine Va T.own λown fin hP=>?_;have O:=L.P;have L2:=L.rev.1;have vO:∀p∈P,p.1<p.2/\p.2<16:=λ⟨i,j⟩ hp=>by refine CA ((mO O.pos fin i j).mp (hP.mem_iff.mp hp)) λf g hf hg o2 o3 pv=>?_;obtain rfl:=o2;obtain rfl:=o3;exact ⟨Fv L hf hg pv,O.pos.lt g hg⟩
 have UV:∀i,i<=16->(iH (ord.take i)).pcs.length<=16:=λi hi=>by have D:=mx L i hi;have e:(iH (ord.take i)).pcs.length=(cQ (iH (ord.take i)).pcs).length:=(Wl _).symm;refine aa e (aa D.keys ?_);exact Tq hi (List.length_take_le i ord) (XH (λf=>decide (eS f=1)) (ord.take i))
 refine (n4 ord P ⟨F,run,O,L2.P,xW O _,xW L2.P _,T.r1,T.r2,?_,vO,λi f hi=>?_,λi hi=>by have:=UV i hi;exact Pg this,λi hi=>HT L fin hP i hi⟩)
 . have nd:P.Nodup:=hP.nodup_iff.mpr (zi fin);have nk:(P.map (·.1)).Nodup:=(hP.map _).nodup_iff.mpr (by unfold Fc;refine aa Wu ?_;exact fin.Jm);have:=nk.length_le_of_subset (l₂:=WG 16) λx hx=>by refine Va (MU.mp hx) λp hp o1=>?_;obtain rfl:=o1;exact wN.mpr (Sg (vO p hp))
   rw [Wl,wU] at this;exact QY this
 . have hl:=(bA hi).1;rw [O.len] at hl;have D:=mx L i (Pf hl);refine ⟨?_,by have:=UV i (Pf hl);exact Pg this,λh2 s hs=>?_⟩
   . have:(cQ (iH (ord.take i)).pcs).Nodup:=by refine aa D.keys ?_;exact (O.nd.sublist (Y6 _ _)).filter _
     exact this
   . have hf:=O.lt f (bO hi);have L4:s<16:=by have:=oZ hs;exact Hj hf this
     refine sT (D.key.mpr ⟨(eZ O).mpr ⟨L4,Hn (L.Ax f hf s hs) (O.is hi)⟩,?_⟩);unfold eS;exact RB (sQ f hf s L4 (Na.mpr hs)) h2
theorem BR {c:aZ}{mg mb:eI}{Kf:DW}{a:qU}{b:Bx}{l:lX}{d:Av}(G:Fn c mg mb Kf a b l d)(hf:fk c fa ix .none)(sc:List Int)(pK:sc.length<=63)(m:Nat): bQ c (m+10) (.ref fa) [.lst (sc.map .int)] [] (λv J=>v=.bool Wn):=by
 refine CB (L7 (jm (mq sc)) (by unfold jm;exact aa (Wl _) (aa wU Z))) λord P F=>?_;exact HN G hf sc pK F m
end Mine.Internal
open PySem PySem.W PyProof.Rows
set_option maxHeartbeats 8000000
namespace Mine.Internal
noncomputable def vS (x:String)(t:Nat):Ws:=.str (Ww x) t
noncomputable def dE (P:Params)(x:String)(t:Nat)(v:Ws):OJ:={hash:=PyData.keyHash P (Ww x),key:=vS x t,val:=v}
noncomputable def fO (f:mK)(n q:String)(g:Wr)(m:String)(t:Nat)(c:Wr)(dv:Ws):Obj:={cls:=.type "function",data:=.func {name:=Ww n,qualname:=Ww q,params:=f.params,body:=.stmts f.body,scope:=f.scope,globals:=g,closure:=[],defaults:=dv,kwdefaults:=.none,pyModule:=vS m t,code:=.ref c}}
noncomputable def cO (a:Nat)(n q:String)(t:Nat)(l k f:Int)(u:Nat):Obj:={cls:=.type "code",data:=.fields #[vS n t,vS q (t+1),vS "/claim/cut.py" (t+2),.int l 0,.int k 0,.int 0 0,.int 0 0,.int f 0,.ref (a-5),.bool Wn,.int 181 0,.ref (a-4),.none,.ref (a-3),.ref (a-2),.ref (a-1),.int u 0,.int l 0,vS "/claim/cut.py" (u+1)]}
noncomputable def cN (a:Nat)(n q:String)(t:Nat)(l k f:Int)(u:Nat):Obj:={cls:=.type "code",data:=.fields #[vS n t,vS q (t+1),vS "/claim/cut.py" (t+2),.int l 0,.int k 0,.int 0 0,.int 0 0,.int f 0,.ref (a-3),.bool Wn,.int 181 0,.ref (a-2),.none,.none,.none,.ref (a-1),.int u 0,.int l 0,vS "/claim/cut.py" (u+1)]}
noncomputable def sZ (P:Params):DW:=[
 (3,{cls:=uP "dict",data:=yR #[dE P "__name__" 165 (vS "law_oc0219_02" 452),dE P "__doc__" 166 (J3),dE P "__package__" 167 (J3),dE P "__loader__" 168 (Dr "__main__.__loader__#opaque"),dE P "__spec__" 169 (J3),dE P "__annotations__" 170 (Wt 6),dE P "__builtins__" 171 (Wt 4),dE P "__file__" 173 (vS "/claim/cut.py" 172),dE P "__cached__" 174 (J3),dE P "_wall" 193 (Wt 21),dE P "sorted_list_difference" 209 (Wt 28),dE P "_NODE_OUT" 214 (Y0 (-1) 213),dE P "_NODE_DONE" 217 (Y0 (-2) 216),dE P "_NodeInfo" 254 (Wt 47),dE P "CycleError" 272 (Wt 62),dE P "TopologicalSorter" 391 (Wt 144),dE P "_netrclex" 451 (Wt 186),dE P "_law_lexer" 463 (Wt 197),dE P "_law_sides" 469 (Wt 202),dE P "_law_order" 481 (Wt 209),dE P "_law_words" 487 (Wt 214),dE P "_law_text" 497 (Wt 221),dE P "_law_pairs" 503 (Wt 226),dE P "_law_alive" 509 (Wt 231),dE P "_law_due" 515 (Wt 236),dE P "law" 521 (Wt 241)] 26}),
 (20,cO 20 "_wall" "_wall" 187 1 1 3 191),
 (21,fO (dO jw 0) "_wall" "_wall" 3 "__main__" 164 20 (.none)),
 (27,cO 27 "sorted_list_difference" "sorted_list_difference" 196 5 2 3 207),
 (28,fO (HG) "sorted_list_difference" "sorted_list_difference" 3 "cpy313.unittest.util" 194 27 (.none)),
 (42,cO 42 "__init__" "_NodeInfo.__init__" 234 43 2 3 239),
 (43,fO (vh) "__init__" "_NodeInfo.__init__" 3 "cpy313.graphlib" 210 42 (.none)),
 (46,{cls:=uP "dict",data:=yR #[dE P "__module__" 225 (vS "cpy313.graphlib" 210),dE P "__firstlineno__" 229 (Y0 40 228),dE P "__slots__" 233 (Wt 36),dE P "__init__" 241 (Wt 43),dE P "__static_attributes__" 245 (Wt 44),dE P "node" 247 (Wt 48),dE P "npredecessors" 249 (Wt 49),dE P "successors" 251 (Wt 50),dE P "__doc__" 252 (J3)] 5}),
 (47,{cls:=uP "type",data:=yV {name:=Ww "_NodeInfo",bases:=[uP "object"],mro:=[Wt 47,uP "object"],ns:=46,qualname:=Ww "_NodeInfo",hasDict:=Wp,slotNames:=[Ww "node",Ww "npredecessors",Ww "successors"]},slots:=#[Wm,Wm,AN (vS "_NodeInfo" 218),AN (vS "_NodeInfo" 226),AN (Dr "object.__new__"),AN (yL Wp)]}),
 (48,{cls:=uP "member_descriptor",data:=YK #[vS "node" 246,Wt 47,Dr "proto.slot",Dr "proto.slot#set",Y0 2 0]}),
 (49,{cls:=uP "member_descriptor",data:=YK #[vS "npredecessors" 248,Wt 47,Dr "proto.slot",Dr "proto.slot#set",Y0 1 0]}),
 (50,{cls:=uP "member_descriptor",data:=YK #[vS "successors" 250,Wt 47,Dr "proto.slot",Dr "proto.slot#set",Y0 0 0]}),
 (61,{cls:=uP "dict",data:=yR #[dE P "__module__" 262 (vS "cpy313.graphlib" 210),dE P "__firstlineno__" 266 (Y0 47 265),dE P "__static_attributes__" 267 (Wt 60),dE P "__weakref__" 269 (Wt 63),dE P "__doc__" 270 (J3)] 3}),
 (62,{cls:=uP "type",data:=yV {name:=Ww "CycleError",bases:=[uP "ValueError"],mro:=[Wt 62,uP "ValueError",uP "Exception",uP "BaseException",uP "object"],ns:=61,qualname:=Ww "CycleError"},slots:=#[AN (Wt 53),Wm,AN (vS "CycleError" 255),AN (vS "CycleError" 263),AN (Dr "ValueError.__new__"),AN (yL Wn)]}),
 (63,{cls:=uP "getset_descriptor",data:=YK #[vS "__weakref__" 268,Wt 62,Dr "ExceptionGroup.__weakref__",J3]}),
 (73,{cls:=uP "tuple",data:=Data.seq #[J3]}),
 (79,cO 79 "__init__" "TopologicalSorter.__init__" 285 51 2 3 292),
 (80,fO (qT) "__init__" "TopologicalSorter.__init__" 3 "cpy313.graphlib" 210 79 (.ref 73)),
 (86,cO 86 "_get_nodeinfo" "TopologicalSorter._get_nodeinfo" 295 60 2 3 301),
 (87,fO (yI) "_get_nodeinfo" "TopologicalSorter._get_nodeinfo" 3 "cpy313.graphlib" 210 86 (.none)),
 (93,cO 93 "add" "TopologicalSorter.add" 304 65 2 7 313),
 (94,fO (w8) "add" "TopologicalSorter.add" 3 "cpy313.graphlib" 210 93 (.none)),
 (98,cN 98 "prepare" "TopologicalSorter.prepare" 316 74 1 3 319),
 (99,fO (yJ) "prepare" "TopologicalSorter.prepare" 3 "cpy313.graphlib" 210 98 (.none)),
 (105,cO 105 "get_ready" "TopologicalSorter.get_ready" 322 82 1 3 329),
 (106,fO (vf) "get_ready" "TopologicalSorter.get_ready" 3 "cpy313.graphlib" 210 105 (.none)),
 (112,cO 112 "is_active" "TopologicalSorter.is_active" 332 93 1 3 336),
 (113,fO (r5) "is_active" "TopologicalSorter.is_active" 3 "cpy313.graphlib" 210 112 (.none)),
 (119,cO 119 "__bool__" "TopologicalSorter.__bool__" 339 98 1 3 343),
 (120,fO (dO ic 6) "__bool__" "TopologicalSorter.__bool__" 3 "cpy313.graphlib" 210 119 (.none)),
 (126,cO 126 "done" "TopologicalSorter.done" 346 101 1 7 357),
 (127,fO (yK) "done" "TopologicalSorter.done" 3 "cpy313.graphlib" 210 126 (.none)),
 (133,cO 133 "_find_cycle" "TopologicalSorter._find_cycle" 360 124 1 3 370),
 (134,fO (oO) "_find_cycle" "TopologicalSorter._find_cycle" 3 "cpy313.graphlib" 210 133 (.none)),
 (140,cO 140 "static_order" "TopologicalSorter.static_order" 373 153 1 3 377),
 (141,fO (dO ic 9) "static_order" "TopologicalSorter.static_order" 3 "cpy313.graphlib" 210 140 (.none)),
 (143,{cls:=uP "dict",data:=yR #[dE P "__module__" 280 (vS "cpy313.graphlib" 210),dE P "__firstlineno__" 284 (Y0 49 283),dE P "__init__" 294 (Wt 80),dE P "_get_nodeinfo" 303 (Wt 87),dE P "add" 315 (Wt 94),dE P "prepare" 321 (Wt 99),dE P "get_ready" 331 (Wt 106),dE P "is_active" 338 (Wt 113),dE P "__bool__" 345 (Wt 120),dE P "done" 359 (Wt 127),dE P "_find_cycle" 372 (Wt 134),dE P "static_order" 379 (Wt 141),dE P "__static_attributes__" 384 (Wt 142),dE P "__dict__" 386 (Wt 145),dE P "__weakref__" 388 (Wt 146),dE P "__doc__" 389 (J3)] 4}),
 (144,{cls:=uP "type",data:=yV {name:=Ww "TopologicalSorter",bases:=[uP "object"],mro:=[Wt 144,uP "object"],ns:=143,qualname:=Ww "TopologicalSorter"},slots:=#[Wm,Wm,AN (vS "TopologicalSorter" 273),AN (vS "TopologicalSorter" 281),AN (Dr "object.__new__"),AN (yL Wn)]}),
 (145,{cls:=uP "getset_descriptor",data:=YK #[vS "__dict__" 385,Wt 144,Dr "function.__dict__",Dr "function.__dict__#set"]}),
 (146,{cls:=uP "getset_descriptor",data:=YK #[vS "__weakref__" 387,Wt 144,Dr "ExceptionGroup.__weakref__",J3]}),
 (161,cO 161 "__init__" "_netrclex.__init__" 406 158 2 3 411),
 (162,fO (vq) "__init__" "_netrclex.__init__" 3 "cpy313.netrc" 392 161 (.none)),
 (168,cO 168 "_read_char" "_netrclex._read_char" 414 164 1 3 419),
 (169,fO (y3) "_read_char" "_netrclex._read_char" 3 "cpy313.netrc" 392 168 (.none)),
 (175,cO 175 "get_token" "_netrclex.get_token" 422 170 1 3 429),
 (176,fO (Af) "get_token" "_netrclex.get_token" 3 "cpy313.netrc" 392 175 (.none)),
 (182,cO 182 "push_token" "_netrclex.push_token" 432 197 2 3 437),
 (183,fO (y4) "push_token" "_netrclex.push_token" 3 "cpy313.netrc" 392 182 (.none)),
 (185,{cls:=uP "dict",data:=yR #[dE P "__module__" 401 (vS "cpy313.netrc" 392),dE P "__firstlineno__" 405 (Y0 156 404),dE P "__init__" 413 (Wt 162),dE P "_read_char" 421 (Wt 169),dE P "get_token" 431 (Wt 176),dE P "push_token" 439 (Wt 183),dE P "__static_attributes__" 444 (Wt 184),dE P "__dict__" 446 (Wt 187),dE P "__weakref__" 448 (Wt 188),dE P "__doc__" 449 (J3)] 4}),
 (186,{cls:=uP "type",data:=yV {name:=Ww "_netrclex",bases:=[uP "object"],mro:=[Wt 186,uP "object"],ns:=185,qualname:=Ww "_netrclex"},slots:=#[Wm,Wm,AN (vS "_netrclex" 394),AN (vS "_netrclex" 402),AN (Dr "object.__new__"),AN (yL Wn)]}),
 (187,{cls:=uP "getset_descriptor",data:=YK #[vS "__dict__" 445,Wt 186,Dr "function.__dict__",Dr "function.__dict__#set"]}),
 (188,{cls:=uP "getset_descriptor",data:=YK #[vS "__weakref__" 447,Wt 186,Dr "ExceptionGroup.__weakref__",J3]}),
 (196,cO 196 "_law_lexer" "_law_lexer" 454 200 1 3 461),
 (197,fO (so) "_law_lexer" "_law_lexer" 3 "law_oc0219_02" 452 196 (.none)),
 (201,cN 201 "_law_sides" "_law_sides" 464 208 1 3 467),
 (202,fO (l0) "_law_sides" "_law_sides" 3 "law_oc0219_02" 452 201 (.none)),
 (208,cO 208 "_law_order" "_law_order" 470 210 1 3 479),
 (209,fO (qC) "_law_order" "_law_order" 3 "law_oc0219_02" 452 208 (.none)),
 (213,cN 213 "_law_words" "_law_words" 482 222 2 3 485),
 (214,fO (iW) "_law_words" "_law_words" 3 "law_oc0219_02" 452 213 (.none)),
 (220,cO 220 "_law_text" "_law_text" 488 227 1 3 495),
 (221,fO (vC) "_law_text" "_law_text" 3 "law_oc0219_02" 452 220 (.none)),
 (225,cN 225 "_law_pairs" "_law_pairs" 498 232 1 3 501),
 (226,fO (eX) "_law_pairs" "_law_pairs" 3 "law_oc0219_02" 452 225 (.none)),
 (230,cN 230 "_law_alive" "_law_alive" 504 248 2 3 507),
 (231,fO (pX) "_law_alive" "_law_alive" 3 "law_oc0219_02" 452 230 (.none)),
 (235,cN 235 "_law_due" "_law_due" 510 256 1 3 513),
 (236,fO (l4) "_law_due" "_law_due" 3 "law_oc0219_02" 452 235 (.none)),
 (240,cN 240 "law" "law" 516 272 1 3 519),
 (241,fO (ix) "law" "law" 3 "law_oc0219_02" 452 240 (.none))]
noncomputable def HW:aJ:=[3,20,21,27,28,42,43,46,47,48,49,50,61,62,63,73,79,80,86,87,93,94,98,99,105,106,112,113,119,120,126,127,133,134,140,141,143,144,145,146,161,162,168,169,175,176,182,183,185,186,187,188,196,197,201,202,208,209,213,214,220,221,225,226,230,231,235,236,240,241]
noncomputable def q02:AZ:={GP with main:={GP.main with body:=[0,2,4,5,6,7,8,10,12,13,14,15,16,17,18,19,20].filterMap (GP.main.body[·]?)}}
theorem L8:DR.wellSaid=Wn:=by
 unfold OpenLaw.wellSaid
 repeat' first | with_reducible refine look_both _ _ ?_ ?_ | unfold OpenRow.wellSaid | unfold OpenRow.partSaid
 all_goals decide +kernel
theorem vQ (P:Params):HW=(sZ P).map (·.1):=by kernel_rfl
end Mine.Internal
open PySem PySem.W PyProof.Rows
set_option maxHeartbeats 4000000
namespace Mine.Internal
noncomputable def FG:Wr->Option (Pos->Str):=λP=>if P=192 then AN (λJ=>"_law_lexer.<locals>._law_piece") else Wm
noncomputable def HX:Nat->mR:=λJ=>vt
noncomputable abbrev mY (w:X3)(s:Gb):aZ:=⟨GP,w,HX,s.heap,s.os,FG⟩
noncomputable def a02:qU:={cS:=144,cN:=47,t6:=80,info:=87,add:=94,w9:=99,ready:=106,lW:=113,done:=127,qq:=134,qs:=43}
noncomputable def l02:lX:={cL:=186,init:=162,read:=169,get:=176,push:=183}
noncomputable def d02:Av:={order:=209,words:=214,text:=221,pairs:=226,alive:=231,LZ:=236,pe:=28,qv:=197}
noncomputable def VH:Ws->Bool
 | .none=>Wp
 | _=>Wn
theorem HY:∀a o,(sZ P).lookup a=AN o->o.cls≠.none:=by
 have key:(sZ P).all (λp=>VH p.2.cls)=Wn:=by rfl
 have go:∀(l:DW),l.all (λp=>VH p.2.cls)=Wn->∀a o,l.lookup a=AN o->o.cls≠.none:=by
  intro l;induction l with
  | nil=>intro _ a o e;cases e
  | cons p r ih=>
    intro h a o e;obtain ⟨b,x⟩:=p;rw [akK,fA] at h;rw [Xm] at e
    split at e
    . cases e;intro q;have:=h.1;rw [q] at this;cases this
    . exact ih h.2 a o e
 exact go _ key
theorem fk.of {K:DW}(X:K.In c.h₀)(h:K.lookup fa=AN o)(hc:o.cls=.type "function")(hd:o.data=.func fd)(e1:fd.params=f.params)(e2:fd.body=.stmts f.body)(e3:fd.scope=f.scope)(e4:fd.globals=te)(e5:fd.builtins=Xe)(e6:fd.closure=[])(e7:fd.defaults=dV)(e8:fd.kwdefaults=.none)(e9:fd.code=.ref cc)(g:K.lookup cc=AN oc)(gc:oc.cls=.type "code")(gd:oc.data=.fields vs)(gv:vs[1]?=AN (.str fd.qualname t)):fk c fa f dV:=
 ⟨o,fd,X _ _ h,by refine aa hc ?_;simp,hd,e1,e2,e3,e4,e5,e6,e7,e8,cc,oc,vs,t,e9,X _ _ g,by refine aa gc ?_;simp,gd,gv⟩
theorem rV.of {K:DW}(X:K.In c.h₀)(h:K.lookup fa=AN o)(hc:o.cls=.type "function")(hd:o.data=.func fd)(e1:fd.params=f.params)(e2:fd.body=.stmts f.body)(e3:fd.scope=f.scope)(e4:fd.globals=te)(e5:fd.builtins=Xe)(e6:fd.closure=[])(e7:fd.defaults=dV)(e8:fd.kwdefaults=.none)(Oo:fd.qualname=qn)(e9:fd.code=.ref cc)(g:K.lookup cc=AN oc)(gc:oc.cls=.type "code")(gd:oc.data=.fields vs)(gv:vs[1]?=AN (.str fd.qualname t))(ht:TabAt c cc P q):rV c fa f dV qn cc P q:=
 ⟨⟨o,fd,X _ _ h,by refine aa hc ?_;simp,hd,e1,e2,e3,e4,e5,e6,e7,e8,Oo,e9,oc,vs,t,X _ _ g,by refine aa gc ?_;simp,gd,gv⟩,ht⟩
section
variable {w:X3}{s:Gb}
theorem AH (X:(sZ w.params).In s.heap):fk (mY w s) 202 l0 .none/\fk (mY w s) 209 qC .none/\fk (mY w s) 214 iW .none/\fk (mY w s) 221 vC .none/\fk (mY w s) 226 eX .none/\fk (mY w s) 231 pX .none/\fk (mY w s) 236 l4 .none/\fk (mY w s) 28 HG .none/\fk (mY w s) 241 ix .none:=
 (nc (.of X Z Z Z Z Z Z Z Z Z Z Z Z Z Z Z Z) (.of X Z Z Z Z Z Z Z Z Z Z Z Z Z Z Z Z) (.of X Z Z Z Z Z Z Z Z Z Z Z Z Z Z Z Z) (.of X Z Z Z Z Z Z Z Z Z Z Z Z Z Z Z Z) (.of X Z Z Z Z Z Z Z Z Z Z Z Z Z Z Z Z) (.of X Z Z Z Z Z Z Z Z Z Z Z Z Z Z Z Z) (.of X Z Z Z Z Z Z Z Z Z Z Z Z Z Z Z Z) (.of X Z Z Z Z Z Z Z Z Z Z Z Z Z Z Z Z) (.of X Z Z Z Z Z Z Z Z Z Z Z Z Z Z Z Z))
theorem AI (X:(sZ w.params).In s.heap):fk (mY w s) 43 vh .none/\fk (mY w s) 87 yI .none/\fk (mY w s) 94 w8 .none/\fk (mY w s) 99 yJ .none/\fk (mY w s) 106 vf .none/\fk (mY w s) 113 r5 .none/\fk (mY w s) 127 yK .none/\fk (mY w s) 134 oO .none/\fk (mY w s) 80 qT (.ref 73):=
 (nc (.of X Z Z Z Z Z Z Z Z Z Z Z Z Z Z Z Z) (.of X Z Z Z Z Z Z Z Z Z Z Z Z Z Z Z Z) (.of X Z Z Z Z Z Z Z Z Z Z Z Z Z Z Z Z) (.of X Z Z Z Z Z Z Z Z Z Z Z Z Z Z Z Z) (.of X Z Z Z Z Z Z Z Z Z Z Z Z Z Z Z Z) (.of X Z Z Z Z Z Z Z Z Z Z Z Z Z Z Z Z) (.of X Z Z Z Z Z Z Z Z Z Z Z Z Z Z Z Z) (.of X Z Z Z Z Z Z Z Z Z Z Z Z Z Z Z Z) (.of X Z Z Z Z Z Z Z Z Z Z Z Z Z Z Z Z))
theorem HZ (X:(sZ w.params).In s.heap):fk (mY w s) 162 vq .none/\fk (mY w s) 169 y3 .none/\fk (mY w s) 176 Af .none/\fk (mY w s) 183 y4 .none:=
 (jr (.of X Z Z Z Z Z Z Z Z Z Z Z Z Z Z Z Z) (.of X Z Z Z Z Z Z Z Z Z Z Z Z Z Z Z Z) (.of X Z Z Z Z Z Z Z Z Z Z Z Z Z Z Z Z) (.of X Z Z Z Z Z Z Z Z Z Z Z Z Z Z Z Z))
end
end Mine.Internal
open PySem PySem.W PyProof.Rows
namespace Mine.Internal
section
variable {w:X3}{s:Gb}
theorem L9 (X:(sZ w.params).In s.heap)(Tg:s.heap.Ns te mg)(Tb:s.heap.Ns Xe mb)(Tn:s.heap.NoLimit)(Ts:∃o,s.heap.get? wW=AN o):eK (mY w s) mg mb (sZ w.params):=
 {g:=Tg,b:=Tb,lim:=Tn,JF:=Ts,wK:=X,Ny:=HY}
theorem UW (X:(sZ w.params).In s.heap)(B:eK (mY w s) mg mb (sZ w.params)):vi (mY w s) mg mb (sZ w.params) a02:=by
 refine FO (AI X) λf1 f2 f3 f4 f5 f6 o1=>?_;refine RR o1 λf7 f8 f9=>?_
 exact {B:=B,attrs:=by rfl,slots:=by refine (aV ?_ ?_ ?_) <;> rfl,mkN:=by rfl,IP:=by rfl,mkS:=by rfl,IQ:=by rfl,IS:=by rfl,IT:=by rfl,
        gN:=mg_of X B.g Z,gS:=mg_of X B.g Z,Ea:=by rfl,K3:=by rfl,IU:=by rfl,Eb:=by rfl,z9:=by rfl,IW:=by rfl,Ec:=by rfl,
        qs:=f1,info:=f2,add:=f3,w9:=f4,ready:=f5,lW:=f6,done:=f7,qq:=f8}
theorem UX (X:(sZ w.params).In s.heap)(B:eK (mY w s) mg mb (sZ w.params)):VW (mY w s) mg mb (sZ w.params) l02:=by
 refine RR (HZ X) λf1 f2 o1=>?_;refine XZ o1 λf3 f4=>?_
 exact {B:=B,a1:=by rfl,a2:=by rfl,a3:=by rfl,a4:=by rfl,a5:=by rfl,mkL:=by rfl,EG:=by rfl,keep:=by rfl,g:=mg_of X B.g Z,EH:=by rfl,Uw:=by rfl,EI:=by rfl,
        init:=f1,read:=f2,get:=f3,push:=f4,site:=rfl}
theorem Ma (X:(sZ w.params).In s.heap)(KT:∀P∈([192]:aJ),s.heap.get? P=AN (O6 #[]))(B:eK (mY w s) mg mb (sZ w.params))(aaK:∀x:Str,x≠"__name__"->mb x=bootBuiltins x)(Tm:∃bm ob,mg "__builtins__"=AN (.ref bm)/\bm≠Xe/\s.heap.get? bm=AN ob/\ob.cls=.type "module"/\ob.dict=AN Xe/\ob.data=.plain):Fn (mY w s) mg mb (sZ w.params) a02 ⟨202⟩ l02 d02:=by
 refine FO (AH X) λf1 f2 f3 f4 f5 f6 o2=>?_;obtain ⟨f7,f8,f9⟩:=o2;have bl:∀{x:Str} {v:Ws},nsIn (sZ w.params) te x=AN Wm->bootBuiltins x=AN v->x≠"__name__"->dR mg mb x v:=λe h n=>⟨mg_none_of X B.g e,(aaK _ n).trans h⟩
 have gl:∀{x:Str} {v:Ws},nsIn (sZ w.params) te x=AN (AN v)->mg x=AN v:=λe=>mg_of X B.g e;have W:=UW X B;have aaL:rV (mY w s) 197 so .none "_law_lexer" 196 192 (λJ=>"_law_lexer.<locals>._law_piece"):=
  .of X Z Z Z Z Z Z Z Z Z Z Z Z Z Z Z Z Z ⟨codeHd_of_K X (by rfl),Z,(cj (#[]) (KT 192 (.head _))),λJ J J J=>Z⟩
 have O:Uy (mY w s) mg mb (sZ w.params) a02:=
  {W:=W,Jh:=(ip 73 _ _ ((AI X).2.2.2.2.2.2.2.2) (X 73 _ Z) (by simp) Z),t7:=bl Z Z (by decide),t8:=bl Z Z (by decide),jK:=bl Z Z (by decide),Ji:=bl Z Z (by decide),Jj:=bl Z Z (by decide),ET:=bl Z Z (by decide),
   hX:=bl Z Z (by decide),out:=(cj _ (gl Z)),done:=(cj _ (gl Z))}
 exact {O:={G:=O,gF:=f1,kO:=gl Z},W:={B:=B.toBase,gF:=f1,kO:=gl Z,LI:=bl Z Z (by decide),gG:=bl Z Z (by decide),hX:=bl Z Z (by decide)},
        P:={V:=UX X B,pe:=f8,UE:=gl Z,E6:=bl Z Z (by decide),gG:=bl Z Z (by decide),t8:=bl Z Z (by decide)},
        D:={B:=B.toBase,gF:=f1,kO:=gl Z,jK:=bl Z Z (by decide),t7:=bl Z Z (by decide)},
        mod:=Tm,order:=f2,Fo:=gl Z,words:=f3,zo:=gl Z,text:=f4,Jo:=gl Z,pairs:=f5,zp:=gl Z,alive:=f6,Fp:=gl Z,LZ:=f7,UH:=gl Z,qv:=(n4 _ _ aaL),zq:=gl Z,
        UI:=bl Z Z (by decide),HM:=bl Z Z (by decide),Fq:=bl Z Z (by decide),Fs:=bl Z Z (by decide),hX:=bl Z Z (by decide)}
noncomputable def JO (h:Xi):G:=λb=>match h.get? b with
 | some o=>if VH o.cls||b==El then AN o else Wm
 | none=>Wm
set_option tactic.hygienic true in
theorem aaM (KT:∀P∈([192]:aJ),s.heap.get? P=AN (O6 #[]))(hg:s.gens=#[]):Wd (mY w s) (JO s.heap) [] [] s:=by
 have hF:∀b o,JO s.heap b=AN o->s.heap.get? b=AN o:=λb o e=>by
  unfold JO at e
  split at e
  . rename_i o' h
    split at e
    . cases e;exact h
    . cases e
  . cases e
 refine ⟨hF,λb o e q=>?_,⟨⟨λb o e=>.inl e,λb o e=>(cj o e)⟩,λP q hq=>?_⟩,Z,Nq,λk a o e=>by simp at e,λa ha=>by simp at ha,Z,hg,λa ha=>by simp at ha⟩
 . have e':=e;unfold JO;refine aa e' ?_;show (if _ then _ else _)=_;rw [if_pos];rcases q with q | q
   . have:VH o.cls=Wn:=by
      cases hc:o.cls <;> first | rfl | exact absurd hc q
     refine aa this ?_;rfl
   . refine aa q ?_;simp
 . have hP:s.heap.get? P=AN (O6 #[])/\P≠El:=by
    have Ou:FG P=AN q:=hq;unfold FG at Ou
    split at Ou
    . rename_i e;subst e;exact ⟨KT 192 (.head _),by decide⟩
    . cases Ou
   refine (mA ?_ (cj _ hP.1) (#[]) hP.1 ?_ (λpos v hv=>?_))
   . unfold JO;refine aa hP.1 ?_;show (if _ then _ else _)=_;rw [if_neg];simp [show VH .none=Wp from rfl,hP.2]
   . simp [O5]
   . simp [Ha] at hv
end
end Mine.Internal
open PySem PySem.W PyProof.Rows
namespace Mine.Internal
theorem H7 {c:aZ}{F:G}{bs:aJ}{vs:iE}{ns:List Int}(h:Zv vs ns):c.Vs F bs (ns.map .int) vs:=by
 induction h with
 | nil=>exact .nil
 | cons n t _ ih=>exact .cons (.int _ _) ih
set_option tactic.hygienic true in
theorem aaN:DR.Holds:=by
 w_on
 refine holds_law L8 λabm=>?_;refine holds_open (q:=q02) (loose:=[Ww "_NodeInfo"]) (Xt:=λs=>xlAt q02 [] s&&recOk (RowW.records DR.row.toRowW) s) (XP:=XL q02 [])
  (Yf:=Hook.obs (kmHook sZ HW vQ [192])) (Ya:=Hook.val (kmHook sZ HW vQ [192])) (YP:=Hook.says (kmHook sZ HW vQ [192])) (N:=3490) ?hl
  (Hook.of _) (Hook.keeps _) (λs e=>xl_of s (yi.mp e).1) XL.keeps (by rfl) (by rfl) (by rfl) (λs e=>recFacts_of (yi.mp e).2) (by rfl) (by first | assumption | decide +kernel) (by decide +kernel) ⟨Z,Z,Z,Z,Z,by decide +kernel⟩ ?hw ?hc
 case hw=>w_witness2
 case hl=>intro w;kernel_rfl
 intro w ge ak mg mb G Y fa o pm cd doc dV abJ ho hd DA hD hmg hg args Cz as aaO aaP hrd Bn Z8;have KX:=km_in_of Y;have KT:=km_tabs_of Y;clear Y;refine Ground.open G ?_;intro T B D TE TW;clear B D TE TW G;clear hd DA hD;have hfa:fa=241:=by have h1:mg "law"=AN (.ref 241):=mg_of KX T.g Z;have h2:=hmg;rw [h1] at h2;cases h2;rfl
 clear hmg ho;subst hfa
 wrow_args aaO aaP hrd Bn Z8
 rename_i ns _ _ _ _ _ _ _ l vs _ hL _ w1 _ hI _ tp _;have U8:=w1;have UY:ak.heap.get? l=AN (bu vs 0):=by
  cases U8 with
  | list hl _ =>obtain ⟨o,e1,_,n,e2⟩:=hL;rw [hl] at e1;cases e1;cases e2;exact hl
 have wG:∃o,ak.heap.get? wW=AN o:=by refine Va ((T.seer (by rfl)).mods) λmm o2 _=>?_;refine VN o2 λo _ _ h _=>?_;clear o2;exact ⟨o,h⟩
 have BB:=L9 KX T.g T.b T.nolimit wG;have Gx:=Ma KX KT BB T.builtins T.bmain;have hv:(mY w ak).V (JO ak.heap) [] (.lst (ns.map .int)) (.ref l):=by refine .lst ⟨0,?_⟩ (H7 hI);unfold JO;refine aa UY ?_;rfl
 refine enter_call ?_;refine NL (BR Gx (AH KX).2.2.2.2.2.2.2.2 ns (NA.mp (anF.mp tp)) 0 callerA (JO ak.heap) [] ak [.ref l] [] Z (by decide) (by decide) Z (by simp) (aaM KT hg) (.cons hv .nil)) ?_;intro r s' o1;obtain ⟨F',aK,v,H',rv,own,e,hn,st,Gd,m0,hp⟩:=o1;subst e hp;cases m0;exact ⟨.inl ⟨_,_,[],Z,λ_=>Z,ReadsW.bool Wn,(by wrow_post),λ_=>⟨Nq,λ_ h=>nomatch h⟩⟩,Gd.old.toOldK,Gd.os,AllBare.of_eq Gd.gens⟩
end Mine.Internal
end
theorem PySem.Challenge.cw_oc0219_02_holds : PySem.Challenge.rw_oc0219_02.Holds := by
 exact Mine.Internal.aaN
